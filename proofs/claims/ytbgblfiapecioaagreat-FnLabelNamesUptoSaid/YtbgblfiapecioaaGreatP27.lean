/- Part of the proof of a statement about pub-berthage: what its texts have in common. -/
import Derived.Test.YtbgblfiapecioaaGreatP23
namespace Go.Proofs.YtbgblfiapecioaaGreat
section
open Go Go.RowKit Bth
structure Rw (w:World) (e:TypeId) (size:Nat) (A:Option Addr) (n:Nat) (xs:List Value):Prop where
 len:xs.length=n*size
 row:0 < n→∃ b off cs fr,A=some ⟨b,off,none⟩∧w.heap[b]? = some (.cells cs e fr)∧∀ j u,xs[j]? = some u→w.cell? ⟨b,off+j,none⟩=some u
theorem Rw.nil (w:World) (e:TypeId) (size:Nat):Rw w e size none 0 []:=⟨by simp,fun h=>absurd h (by omega)⟩
theorem Rw.frT {T:List TypeId} {S:Nat→Prop} {w w':World} {e:TypeId} {size n:Nat} {A:Option Addr} {xs:List Value} (h:Rw w e size A n xs) (hf:Fr S w w') (hs:NoT T w S) (he:e∈T):Rw w' e size A n xs:=
 ⟨h.len,fun hn=>by
  obtain ⟨b,off,cs,fr,h1,h2,h3⟩:=h.row hn
  have hb:¬S b:=fun hS=>hs b cs e fr hS h2 he
  exact ⟨b,off,cs,fr,h1,hf.heap h2 hb,fun j u hu=>hf.cell (h3 j u hu) hb⟩⟩
theorem Rw.nope {w w':World} {e:TypeId} {size n:Nat} {A:Option Addr} {xs:List Value} (h:Rw w e size A n xs) (hf:Fr nope w w'):Rw w' e size A n xs:=h.frT (T:=[e]) hf (NoT.nope _ _) (by simp)
theorem Rw.of_own {w:World} {base:Nat} {e:TypeId} {size n c:Nat} {A:Option Addr} {xs:List Value} (h:w.ownsRow base e size (.slice A n c) n xs):Rw w e size A n xs:=by
 refine ⟨h.1,fun hn=>?_⟩
 have h2:=h.2
 rcases h2 with ⟨h1,h0⟩ | ⟨g,cap,cur,h1,hb,hh,h3,h4,h5,h6⟩
 ·omega
 ·injection h1 with hA _ _
  subst hA
  obtain ⟨g',e1,_,hc⟩:=own_cells h hn
  injection e1 with e1
  injection e1 with e1
  subst e1
  exact ⟨g,0,cur,_,rfl,hh,fun j u hu=>by rw [Nat.zero_add];exact hc j u hu⟩
theorem Rw.src {w:World} {e:TypeId} {size n:Nat} {A:Option Addr} {xs:List Value} (h:Rw w e size A n xs):0 < n→∃ ad,A=some ad∧∀ j u,xs[j]? = some u→w.cell? (ad.add j)=some u:=by
 intro hn
 obtain ⟨b,off,cs,fr,rfl,_,hc⟩:=h.row hn
 exact ⟨_,rfl,fun j u hu=>by
  have:=hc j u hu
  have e:(⟨b,off,none⟩:Addr).add j=⟨b,off+j,none⟩:=by unfold Addr.add;split<;>simp_all
  rw [e];exact this⟩
theorem flat_len {α : Type} {f:α → List Value} {size:Nat} (hs:∀ x,(f x).length=size) (l:List α):(l.flatMap f).length=l.length*size:=by
 induction l with
 | nil=>simp
 | cons x l ih=>rw [List.flatMap_cons,List.length_append,ih,hs,List.length_cons,Nat.succ_mul];omega
theorem flat_get {α : Type} {f:α → List Value} {size:Nat} (hs:∀ x,(f x).length=size):∀ {l:List α} {k:Nat} {x:α},l[k]? = some x→∀ j v,(f x)[j]? = some v→(l.flatMap f)[k*size+j]? = some v:=by
 intro l
 induction l with
 | nil=>intro k x h;simp at h
 | cons q l ih=>
  intro k x h j v hv
  cases k with
  | zero=>
   simp only [List.getElem?_cons_zero,Option.some.injEq] at h
   subst h
   have hj:=(List.getElem?_eq_some_iff.1 hv).1
   rw [List.flatMap_cons,Nat.zero_mul,Nat.zero_add,List.getElem?_append_left hj]
   exact hv
  | succ k=>
   rw [List.getElem?_cons_succ] at h
   have e:(k+1)*size+j - size=k*size+j:=by rw [Nat.succ_mul];omega
   rw [List.flatMap_cons,List.getElem?_append_right (by rw [hs,Nat.succ_mul];omega),hs,e]
   exact ih h j v hv
theorem Rw.at_ {α : Type} {f:α → List Value} {w:World} {e:TypeId} {size:Nat} {A:Option Addr} {l:List α} (h:Rw w e size A l.length (l.flatMap f)) (hs:∀ x,(f x).length=size) {k:Nat} {x:α} (hk:l[k]? = some x):
  ∃ b off,A=some ⟨b,off,none⟩∧b < w.heap.size∧w.rangeAt b (off+k*size) (f x):=by
 have hl:=(List.getElem?_eq_some_iff.1 hk).1
 obtain ⟨b,off,cs,fr,h1,h2,h3⟩:=h.row (by omega)
 refine ⟨b,off,h1,lt_of_heap h2,fun j v hv=>?_⟩
 have:=h3 _ v (flat_get hs hk j v hv)
 rw [← Nat.add_assoc] at this
 exact this
def G.cells (g:G):List Value:=[.bool g.virt,.int .u8 (g.kind:Int),.int .u16 (g.idx:Int),.int .u16 (g.spec:Int)]
def gsCells (gs:List G):List Value:=gs.flatMap G.cells
theorem G.cells_len (g:G):g.cells.length=4:=rfl
def GsAt (w:World) (A:Option Addr) (gs:List G):Prop:=Rw w 78 4 A gs.length (gsCells gs)
theorem take_snoc {α : Type} {l:List α} {k:Nat} {x:α} (h:l[k]? = some x):l.take (k+1)=l.take k ++ [x]:=by rw [List.take_add_one,h];rfl
theorem take_all {α : Type} {l:List α} {k:Nat} (h:¬k < l.length):l.take k=l:=List.take_of_length_le (by omega)
end
section
open Go Go.RowKit Bth
set_option maxRecDepth 100000
def hasR (k i s:Nat):Bool:=
 if k=0 then decide (i=0) && decide (s=0) else if k=1 then (if s=2 then decide (i < 4) else decide (i < 16) && (decide (s=1) || decide (s=3) || decide (s=7) || decide (s=15)))
 else if k=2 then decide (i < 32) && (decide (s=31) || decide (s=63) || decide (s=127)) else if k=3 then decide (i < 8) && decide (s=15) else false
def tabP (k:Nat):List (Nat × Nat):=(tabOf k).map fun x=>(x.2.idx,x.2.spec)
theorem tab_any (k i s:Nat):((tabOf k).any fun x=>x.2.idx == i && x.2.spec == s)=decide ((i,s)∈tabP k):=by
 rw [Bool.eq_iff_iff,List.any_eq_true,decide_eq_true_eq]
 unfold tabP
 rw [List.mem_map]
 constructor
 ·rintro ⟨x,hx,h⟩
  simp only [Bool.and_eq_true,beq_iff_eq] at h
  exact ⟨x,hx,by rw [h.1,h.2]⟩
 ·rintro ⟨x,hx,h⟩
  injection h with h1 h2
  exact ⟨x,hx,by simp [h1,h2]⟩
theorem tab_has {k i s:Nat} (hk:k≤3):((tabOf k).any fun x=>x.2.idx == i && x.2.spec == s)=hasR k i s:=by
 rw [tab_any,Bool.eq_iff_iff,decide_eq_true_eq]
 have f:∀ k,k≤3→∀ p∈tabP k,hasR k p.1 p.2=true:=by decide
 refine ⟨fun h=>f k hk _ h,fun h=>?_⟩
 unfold hasR at h
 clear f
 have hk4:k=0∨k=1∨k=2∨k=3:=by omega
 rcases hk4 with rfl | rfl | rfl | rfl
 ·simp at h;obtain ⟨rfl,rfl⟩:=h;decide
 ·rw [if_neg (by decide),if_pos rfl] at h
  split at h
  ·rename_i e;subst e
   have:∀ i,i < 4→(i,2)∈tabP 1:=by decide
   exact this i (by simpa using h)
  ·have:∀ i,i < 16→(i,1)∈tabP 1∧(i,3)∈tabP 1∧(i,7)∈tabP 1∧(i,15)∈tabP 1:=by decide
   simp at h
   obtain ⟨a,b,c,d⟩:=this i h.1
   rcases h.2 with ((rfl | rfl) | rfl) | rfl<;>assumption
 ·simp at h
  have:∀ i,i < 32→(i,31)∈tabP 2∧(i,63)∈tabP 2∧(i,127)∈tabP 2:=by decide
  obtain ⟨a,b,c⟩:=this i h.1
  rcases h.2 with (rfl | rfl) | rfl<;>assumption
 ·simp at h
  have:∀ i,i < 8→(i,15)∈tabP 3:=by decide
  obtain ⟨h1,rfl⟩:=h
  exact this i h1
theorem okG_has (g:G):okG g=(g.virt || hasR g.kind g.idx g.spec):=by
 unfold okG
 congr 1
 by_cases hk:g.kind≤3
 ·rw [tab_has hk];simp [hk]
 ·have:hasR g.kind g.idx g.spec=false:=by unfold hasR;rw [if_neg (by omega),if_neg (by omega),if_neg (by omega),if_neg (by omega)]
  rw [this];simp [hk]
theorem regHas_calls (w:World) (k i s:Nat):Calls Tryz.prog 140 #[.int .u8 (k:Int),.int .u16 (i:Int),.int .u16 (s:Int)] w fun e w'=>e = .returned (.bool (hasR k i s))∧w'=w:=by
 have eB:∀ a b:Nat,((a:Int) == (b:Int))=decide (a=b):=fun a b=>by
  by_cases h:a=b
  ·subst h;simp
  ·have:(a:Int)≠(b:Int):=by omega
   simp [h,this]
 have n0:k≠0→(k:Int)≠0:=fun h=>by omega
 have n1:k≠1→(k:Int)≠1:=fun h=>by omega
 have n2:k≠2→(k:Int)≠2:=fun h=>by omega
 have n3:k≠3→(k:Int)≠3:=fun h=>by omega
 by_cases h0:k=0
 ·subst h0
  by_cases hi:i=0
  ·subst hi
   go_enter Tryz.func140,Tryz.ntmps140
   go_wp2
   go_ret
   show Ending.returned (Value.bool _)=_∧_
   refine ⟨congrArg (fun b=>Ending.returned (Value.bool b)) ?_,rfl⟩
   simp only [hasR];have:=eB s 0;simpa using this
  ·have hi':(i:Int)≠0:=by omega
   go_enter Tryz.func140,Tryz.ntmps140
   go_wp2
   go_ret
   show Ending.returned (Value.bool _)=_∧_
   refine ⟨congrArg (fun b=>Ending.returned (Value.bool b)) ?_,rfl⟩
   simp [hasR,hi]
 have m0:=n0 h0
 by_cases h1:k=1
 ·subst h1
  clear m0 n0 n1 n2 n3
  by_cases hs:s=2
  ·subst hs
   go_enter Tryz.func140,Tryz.ntmps140
   go_wp2
   go_ret
   show Ending.returned (Value.bool _)=_∧_
   refine ⟨congrArg (fun b=>Ending.returned (Value.bool b)) ?_,rfl⟩
   simp only [hasR];by_cases h:i < 4<;>simp [h]<;>omega
  have hs':(s:Int)≠2:=by omega
  by_cases hi:i < 16
  ·have hi':(i:Int) < 16:=by omega
   by_cases q1:s=1
   ·subst q1
    go_enter Tryz.func140,Tryz.ntmps140
    go_wp2
    go_ret
    show Ending.returned (Value.bool _)=_∧_
    refine ⟨congrArg (fun b=>Ending.returned (Value.bool b)) ?_,rfl⟩
    simp [hasR,hi]
   have q1':(s:Int)≠1:=by omega
   by_cases q2:s=3
   ·subst q2
    go_enter Tryz.func140,Tryz.ntmps140
    go_wp2
    go_ret
    show Ending.returned (Value.bool _)=_∧_
    refine ⟨congrArg (fun b=>Ending.returned (Value.bool b)) ?_,rfl⟩
    simp [hasR,hi]
   have q2':(s:Int)≠3:=by omega
   by_cases q3:s=7
   ·subst q3
    go_enter Tryz.func140,Tryz.ntmps140
    go_wp2
    go_ret
    show Ending.returned (Value.bool _)=_∧_
    refine ⟨congrArg (fun b=>Ending.returned (Value.bool b)) ?_,rfl⟩
    simp [hasR,hi]
   have q3':(s:Int)≠7:=by omega
   go_enter Tryz.func140,Tryz.ntmps140
   go_wp2
   go_ret
   show Ending.returned (Value.bool _)=_∧_
   refine ⟨congrArg (fun b=>Ending.returned (Value.bool b)) ?_,rfl⟩
   have e1:((s:Int) == 1)=decide (s=1):=eB s 1
   have e2:((s:Int) == 3)=decide (s=3):=eB s 3
   have e3:((s:Int) == 7)=decide (s=7):=eB s 7
   have e4:((s:Int) == 15)=decide (s=15):=eB s 15
   rw [e1,e2,e3,e4]
   simp [hasR,hs,hi,q1,q2,q3]
  ·have hi':¬(i:Int) < 16:=by omega
   go_enter Tryz.func140,Tryz.ntmps140
   go_wp2
   go_ret
   show Ending.returned (Value.bool _)=_∧_
   refine ⟨congrArg (fun b=>Ending.returned (Value.bool b)) ?_,rfl⟩
   simp [hasR,hs,hi]
 have m1:=n1 h1
 by_cases h2:k=2
 ·subst h2
  clear m0 m1 n0 n1 n2 n3
  by_cases hi:i < 32
  ·have hi':(i:Int) < 32:=by omega
   by_cases q1:s=31
   ·subst q1
    go_enter Tryz.func140,Tryz.ntmps140
    go_wp2
    go_ret
    show Ending.returned (Value.bool _)=_∧_
    refine ⟨congrArg (fun b=>Ending.returned (Value.bool b)) ?_,rfl⟩
    simp [hasR,hi]
   have q1':(s:Int)≠31:=by omega
   by_cases q2:s=63
   ·subst q2
    go_enter Tryz.func140,Tryz.ntmps140
    go_wp2
    go_ret
    show Ending.returned (Value.bool _)=_∧_
    refine ⟨congrArg (fun b=>Ending.returned (Value.bool b)) ?_,rfl⟩
    simp [hasR,hi]
   have q2':(s:Int)≠63:=by omega
   go_enter Tryz.func140,Tryz.ntmps140
   go_wp2
   go_ret
   show Ending.returned (Value.bool _)=_∧_
   refine ⟨congrArg (fun b=>Ending.returned (Value.bool b)) ?_,rfl⟩
   have e1:((s:Int) == 31)=decide (s=31):=eB s 31
   have e2:((s:Int) == 63)=decide (s=63):=eB s 63
   have e3:((s:Int) == 127)=decide (s=127):=eB s 127
   rw [e1,e2,e3]
   simp [hasR,hi,q1,q2]
  ·have hi':¬(i:Int) < 32:=by omega
   go_enter Tryz.func140,Tryz.ntmps140
   go_wp2
   go_ret
   show Ending.returned (Value.bool _)=_∧_
   refine ⟨congrArg (fun b=>Ending.returned (Value.bool b)) ?_,rfl⟩
   simp [hasR,hi]
 have m2:=n2 h2
 by_cases h3:k=3
 ·subst h3
  clear m0 m1 m2 n0 n1 n2 n3
  by_cases hi:i < 8
  ·have hi':(i:Int) < 8:=by omega
   go_enter Tryz.func140,Tryz.ntmps140
   go_wp2
   go_ret
   show Ending.returned (Value.bool _)=_∧_
   refine ⟨congrArg (fun b=>Ending.returned (Value.bool b)) ?_,rfl⟩
   have:=eB s 15;simp only [hasR];simpa [hi] using this
  ·have hi':¬(i:Int) < 8:=by omega
   go_enter Tryz.func140,Tryz.ntmps140
   go_wp2
   go_ret
   show Ending.returned (Value.bool _)=_∧_
   refine ⟨congrArg (fun b=>Ending.returned (Value.bool b)) ?_,rfl⟩
   simp [hasR,hi]
 have m3:=n3 h3
 go_enter Tryz.func140,Tryz.ntmps140
 go_wp2
 go_ret
 show Ending.returned (Value.bool _)=_∧_
 refine ⟨congrArg (fun b=>Ending.returned (Value.bool b)) ?_,rfl⟩
 simp [hasR,h0,h1,h2,h3]
theorem IsRegister_calls (w:World) (g:G):Calls Tryz.prog 104 #[g.agg] w fun e w'=>e = .returned (.bool (okG g))∧Fr nope w w':=by
 have hH:=fun W=>regHas_calls W g.kind g.idx g.spec
 rw [okG_has]
 obtain ⟨virt,kind,idx,spec⟩:=g
 simp only [G.agg] at hH ⊢
 generalize hasR kind idx spec=b at hH ⊢
 cases virt with
 | true=>
  go_enter Tryz.func104,Tryz.ntmps104
  go_wp2
  go_ret
  exact ⟨rfl,(Fr.refl _ _).alloc _⟩
 | false=>
  go_enter Tryz.func104,Tryz.ntmps104
  go_wp2_with (go_at_call 140;refine (hH _).mono ?_;rintro e w1 ⟨rfl,rfl⟩)
  go_ret
  exact ⟨rfl,(Fr.refl _ _).alloc _⟩
theorem ConstOK_calls (w:World) (c:PC):Calls Tryz.prog 105 #[c.agg] w fun e w'=>e = .returned (.bool (conK c.kind).isSome)∧Fr nope w w':=by
 have hk:(conK c.kind).isSome=decide (1≤c.kind∧c.kind≤11):=by
  by_cases h:1≤c.kind∧c.kind≤11
  ·have:c.kind=1∨c.kind=2∨c.kind=3∨c.kind=4∨c.kind=5∨c.kind=6∨c.kind=7∨c.kind=8∨c.kind=9∨c.kind=10∨c.kind=11:=by omega
   rw [decide_eq_true h]
   rcases this with e | e | e | e | e | e | e | e | e | e | e<;>rw [e]<;>decide
  ·rw [decide_eq_false h]
   unfold conK
   repeat' (split;· omega)
   rfl
 rw [hk]
 obtain ⟨kind,bits,text⟩:=c
 simp only [PC.agg]
 by_cases h1:1≤kind
 ·by_cases h2:kind≤11
  ·rw [decide_eq_true ⟨h1,h2⟩]
   go_enter Tryz.func105,Tryz.ntmps105
   go_wp2
   go_ret
   exact ⟨rfl,(Fr.refl _ _).alloc _⟩
  ·rw [decide_eq_false fun h=>h2 h.2]
   go_enter Tryz.func105,Tryz.ntmps105
   go_wp2
   go_ret
   exact ⟨rfl,(Fr.refl _ _).alloc _⟩
 ·rw [decide_eq_false fun h=>h1 h.1]
  go_enter Tryz.func105,Tryz.ntmps105
  go_wp2
  go_ret
  exact ⟨rfl,(Fr.refl _ _).alloc _⟩
def wholeG (g:G):Bool:=if g.kind=1 then decide (g.spec=1) || decide (g.spec=3) || decide (g.spec=7) || decide (g.spec=15) else if g.kind=2 then decide (g.spec=31) || decide (g.spec=63) || decide (g.spec=127) else if g.kind=3 then decide (g.spec=15) else false
end
section
open Go Go.RowKit Bth
abbrev TL:=List (Nat × Nat)
def mIns (id m:Nat):TL→TL
 | []=>[(id,m)]
 | x :: t=>if x.1 < id then x :: mIns id m t else if x.1=id then (id,x.2 ||| m) :: t else (id,m) :: x :: t
def mAdd (s:TL) (id m:Nat):TL:=if m=0 then s else mIns id m s
def mDis1 (id m:Nat) (x:Nat × Nat):Nat × Nat:=if x.1=id then (x.1,andn x.2 m) else x
def mDis (s:TL) (id m:Nat):TL:=(s.map (mDis1 id m)).filter fun x=>x.2 != 0
def mUnion (s t:TL):TL:=t.foldl (fun s x=>mAdd s x.1 x.2) s
def mMinus (s t:TL):TL:=t.foldl (fun s x=>mDis s x.1 x.2) s
def tv:TL→Nat→Nat
 | [],_=>0
 | x :: t,c=>if x.1=c then x.2 else tv t c
inductive Tidy:TL→Prop
 | nil:Tidy []
 | cons {x:Nat × Nat} {t:TL} (h:Tidy t) (h1:∀ y∈t,x.1 < y.1) (h2:x.2≠0) (h3:x.2 < 65536) (h4:x.1 < 4294967296):Tidy (x :: t)
theorem tv_lt {s:TL} {c:Nat} (h:∀ y∈s,c < y.1):tv s c=0:=by
 induction s with
 | nil=>rfl
 | cons x t ih=>
  have:=h x (by simp)
  simp only [tv]
  rw [if_neg (by omega),ih fun y hy=>h y (by simp [hy])]
theorem tv_mem {s:TL} {c:Nat} (h:tv s c≠0):(c,tv s c)∈s:=by
 induction s with
 | nil=>exact absurd rfl h
 | cons x t ih=>
  simp only [tv] at h ⊢
  by_cases e:x.1=c
  ·rw [if_pos e];subst e;simp
  ·rw [if_neg e] at h ⊢;exact List.mem_cons_of_mem _ (ih h)
theorem tv_of_mem {s:TL} (ht:Tidy s) {x:Nat × Nat} (h:x∈s):tv s x.1=x.2:=by
 induction ht with
 | nil=>cases h
 | @cons y t ht h1 _ _ _ ih=>
  simp only [tv]
  rcases List.mem_cons.1 h with rfl | h
  ·simp
  ·have:=h1 x h
   rw [if_neg (by omega),ih h]
theorem Tidy.bound {s:TL} (h:Tidy s):∀ x∈s,x.1 < 4294967296∧x.2 < 65536∧x.2≠0:=by
 induction h with
 | nil=>simp
 | cons _ _ h2 h3 h4 ih=>
  intro y hy
  rcases List.mem_cons.1 hy with rfl | hy
  ·exact ⟨h4,h3,h2⟩
  ·exact ih y hy
theorem tv_lt16 {s:TL} (h:Tidy s) (c:Nat):tv s c < 65536:=by
 by_cases e:tv s c=0
 ·omega
 ·exact (h.bound _ (tv_mem e)).2.1
theorem or_pos16 {a b:Nat} (h:a≠0):a ||| b≠0:=fun e=>h (by
 apply Nat.eq_of_testBit_eq
 intro i
 have:=congrArg (fun x=>x.testBit i) e
 simp only [Nat.testBit_or,Nat.zero_testBit,Bool.or_eq_false_iff] at this
 rw [this.1];simp)
theorem mIns_mem {s:TL} {id m:Nat} : ∀ y∈mIns id m s,y.1=id∨y∈s:=by
 induction s with
 | nil=>intro y hy;exact .inl (by simp [mIns] at hy;rw [hy])
 | cons x t ih=>
  intro y hy
  simp only [mIns] at hy
  split at hy
  ·rcases List.mem_cons.1 hy with rfl | hy
   ·simp
   ·rcases ih y hy with h | h
    ·exact .inl h
    ·exact .inr (by simp [h])
  ·split at hy
   ·rcases List.mem_cons.1 hy with rfl | hy
    ·exact .inl rfl
    ·exact .inr (by simp [hy])
   ·rcases List.mem_cons.1 hy with rfl | hy
    ·exact .inl rfl
    ·exact .inr hy
theorem mIns_tidy {s:TL} (h:Tidy s) {id m:Nat} (h0:m≠0) (hm:m < 65536) (hi:id < 4294967296):Tidy (mIns id m s):=by
 induction h with
 | nil=>exact .cons .nil (by simp) h0 hm hi
 | @cons x t ht h1 h2 h3 h4 ih=>
  simp only [mIns]
  split
  ·rename_i hlt
   exact .cons ih (fun y hy=>by rcases mIns_mem y hy with h | h;omega;exact h1 y h) h2 h3 h4
  ·split
   ·rename_i _ he
    exact .cons ht (fun y hy=>by have:=h1 y hy;show id < y.1;omega) (or_pos16 h2) (or_lt16 h3 hm) hi
   ·exact .cons (.cons ht h1 h2 h3 h4) (fun y hy=>by
     show id < y.1
     rcases List.mem_cons.1 hy with rfl | hy
     ·omega
     ·have:=h1 y hy;omega) h0 hm hi
theorem tv_mIns {s:TL} (h:Tidy s) {id m:Nat} (c:Nat):tv (mIns id m s) c=if c=id then tv s c ||| m else tv s c:=by
 induction h with
 | nil=>
  simp only [mIns,tv]
  by_cases e:id=c
  ·simp [e]
  ·rw [if_neg e,if_neg (Ne.symm e)]
 | @cons x t ht h1 h2 h3 h4 ih=>
  simp only [mIns]
  split
  ·rename_i hlt
   simp only [tv]
   rw [ih]
   by_cases e:x.1=c
   ·rw [if_pos e,if_neg (by omega)];simp [e]
   ·simp [e]
  ·split
   ·rename_i _ he
    simp only [tv]
    by_cases e:id=c
    ·rw [if_pos e,if_pos e.symm,if_pos (by omega)]
    ·rw [if_neg e,if_neg (Ne.symm e),if_neg (by omega)]
   ·rename_i h5 h6
    simp only [tv]
    by_cases e:id=c
    ·subst e
     rw [if_pos rfl,if_pos rfl,if_neg (by omega),tv_lt fun y hy=>by have:=h1 y hy;omega]
     simp
    ·rw [if_neg e,if_neg (Ne.symm e)]
theorem mAdd_tidy {s:TL} (h:Tidy s) {id m:Nat} (hm:m < 65536) (hi:id < 4294967296):Tidy (mAdd s id m):=by
 unfold mAdd
 split
 ·exact h
 ·rename_i h0;exact mIns_tidy h h0 hm hi
theorem tv_mAdd {s:TL} (h:Tidy s) {id m:Nat} : tv (mAdd s id m)=orM (tv s) id m:=by
 funext c
 unfold mAdd orM
 split
 ·rename_i h0;subst h0;split<;>simp
 ·exact tv_mIns h c
theorem mDis1_fst (id m:Nat) (x:Nat × Nat):(mDis1 id m x).1=x.1:=by unfold mDis1;split<;>rfl
theorem mDis_mem {s:TL} {id m:Nat} : ∀ y∈mDis s id m,∃ x∈s,y.1=x.1∧y.2≠0∧(x.2 < 65536→y.2 < 65536):=by
 intro y hy
 unfold mDis at hy
 obtain ⟨h1,h2⟩:=List.mem_filter.1 hy
 obtain ⟨x,hx,rfl⟩:=List.mem_map.1 h1
 refine ⟨x,hx,mDis1_fst _ _ _,by simpa using h2,fun h=>?_⟩
 unfold mDis1
 split
 ·exact andn_lt h
 ·exact h
theorem mDis_cons (x:Nat × Nat) (t:TL) (id m:Nat):mDis (x :: t) id m=if (mDis1 id m x).2=0 then mDis t id m else mDis1 id m x :: mDis t id m:=by
 unfold mDis
 rw [List.map_cons,List.filter_cons]
 by_cases e:(mDis1 id m x).2=0<;>simp [e]
theorem mDis_tidy {s:TL} (h:Tidy s) {id m:Nat} : Tidy (mDis s id m):=by
 induction h with
 | nil=>exact .nil
 | @cons x t ht h1 h2 h3 h4 ih=>
  rw [mDis_cons]
  split
  ·exact ih
  ·rename_i h0
   refine .cons ih (fun y hy=>?_) h0 ?_ (by rw [mDis1_fst];exact h4)
   ·obtain ⟨z,hz,e,_⟩:=mDis_mem y hy
    rw [mDis1_fst,e];exact h1 z hz
   ·unfold mDis1;split
    ·exact andn_lt h3
    ·exact h3
theorem tv_mDis {s:TL} (h:Tidy s) {id m:Nat} (c:Nat):tv (mDis s id m) c=if c=id then andn (tv s c) m else tv s c:=by
 induction h with
 | nil=>simp [mDis,tv,andn]
 | @cons x t ht h1 h2 h3 h4 ih=>
  rw [mDis_cons]
  have hz:tv (mDis t id m) x.1=0:=tv_lt fun y hy=>by
   obtain ⟨z,hz,e,_⟩:=mDis_mem y hy
   rw [e];exact h1 z hz
  split
  ·rename_i h0
   by_cases e:x.1=c
   ·subst e
    rw [hz]
    simp only [tv,if_true]
    unfold mDis1 at h0
    split at h0
    ·rename_i e;rw [if_pos e];exact h0.symm
    ·exact absurd h0 h2
   ·rw [ih];simp only [tv];rw [if_neg e]
  ·simp only [tv,mDis1_fst]
   by_cases e:x.1=c
   ·rw [if_pos e,if_pos e]
    unfold mDis1
    by_cases e2:x.1=id
    ·rw [if_pos e2,if_pos (by omega)]
    ·rw [if_neg e2,if_neg (by omega)]
   ·rw [if_neg e,if_neg e,ih]
theorem mUnion_tidy {t:TL} (ht:Tidy t):∀ {s:TL},Tidy s→Tidy (mUnion s t):=by
 unfold mUnion
 induction ht with
 | nil=>exact fun h=>h
 | cons _ _ _ h3 h4 ih=>exact fun h=>ih (mAdd_tidy h h3 h4)
theorem tv_mUnion {t:TL} (ht:Tidy t):∀ {s:TL},Tidy s→∀ c,tv (mUnion s t) c=tv s c ||| tv t c:=by
 unfold mUnion
 induction ht with
 | nil=>intro s _ c;simp [tv]
 | @cons x t ht h1 _ h3 h4 ih=>
  intro s hs c
  rw [List.foldl_cons,ih (mAdd_tidy hs h3 h4),tv_mAdd hs]
  unfold orM
  simp only [tv]
  by_cases e:c=x.1
  ·subst e;rw [if_pos rfl,if_pos rfl,tv_lt h1];simp
  ·rw [if_neg e,if_neg (Ne.symm e)]
theorem mMinus_tidy:∀ {t s:TL},Tidy s→Tidy (mMinus s t):=by
 unfold mMinus
 intro t
 induction t with
 | nil=>exact fun h=>h
 | cons x t ih=>exact fun h=>ih (mDis_tidy h)
theorem andn_zero (a:Nat):andn a 0=a:=by simp [andn]
theorem tv_mMinus {t:TL} (ht:Tidy t):∀ {s:TL},Tidy s→∀ c,tv (mMinus s t) c=andn (tv s c) (tv t c):=by
 unfold mMinus
 induction ht with
 | nil=>intro s _ c;simp [tv,andn_zero]
 | @cons x t ht h1 _ h3 h4 ih=>
  intro s hs c
  rw [List.foldl_cons,ih (mDis_tidy hs),tv_mDis hs]
  simp only [tv]
  by_cases e:c=x.1
  ·subst e;rw [if_pos rfl,if_pos rfl,tv_lt h1,andn_zero]
  ·rw [if_neg e,if_neg (Ne.symm e)]
theorem Tidy.ext {s:TL} (hs:Tidy s):∀ {t:TL},Tidy t→(∀ c,tv s c=tv t c)→s=t:=by
 induction hs with
 | nil=>
  intro t ht h
  cases ht with
  | nil=>rfl
  | @cons y t _ _ h2 _ _=>
   have:=h y.1
   simp only [tv,if_true] at this
   exact absurd this.symm h2
 | @cons x s hs h1 h2 _ _ ih=>
  intro t ht h
  cases ht with
  | nil=>
   have:=h x.1
   simp only [tv,if_true] at this
   exact absurd this h2
  | @cons y t ht k1 k2 _ _=>
   have hxy:x.1=y.1:=by
    rcases Nat.lt_trichotomy x.1 y.1 with hl | he | hl
    ·have:=h x.1
     simp only [tv,if_true] at this
     rw [if_neg (by omega),tv_lt fun z hz=>by have:=k1 z hz;omega] at this
     exact absurd this h2
    ·exact he
    ·have:=h y.1
     simp only [tv,if_true] at this
     rw [if_neg (by omega),tv_lt fun z hz=>by have:=h1 z hz;omega] at this
     exact absurd this.symm k2
   have e2:x.2=y.2:=by
    have:=h x.1
    simp only [tv,if_true] at this
    rw [if_pos hxy.symm] at this
    exact this
   have:s=t:=ih ht fun c=>by
    have hc:=h c
    simp only [tv] at hc
    by_cases e:x.1=c
    ·subst e
     rw [tv_lt h1,tv_lt fun z hz=>by rw [hxy];exact k1 z hz]
    ·rw [if_neg e,if_neg (by omega)] at hc
     exact hc
   rw [this,Prod.ext hxy e2]
def lvB (sc:List (Option Nat)) (I:Nat→TL) (b:TL):TL:=sc.foldl (fun b o=>match o with | some s=>mUnion b (I s) | none=>b) b
def lvA (B W R:TL):TL:=mUnion (mMinus B W) R
def updT (I:Nat→TL) (k:Nat) (t:TL):Nat→TL:=fun j=>if j=k then t else I j
theorem lvB_tidy {I:Nat→TL} (hI:∀ k,Tidy (I k)):∀ {sc:List (Option Nat)} {b:TL},Tidy b→Tidy (lvB sc I b):=by
 unfold lvB
 intro sc
 induction sc with
 | nil=>exact fun h=>h
 | cons o sc ih=>
  intro b hb
  cases o with
  | none=>exact ih hb
  | some s=>exact ih (mUnion_tidy (hI s) hb)
theorem lvB_bit {I:Nat→TL} (hI:∀ k,Tidy (I k)) (c i:Nat):∀ {sc:List (Option Nat)} {b:TL},Tidy b→((tv (lvB sc I b) c).testBit i=true↔(tv b c).testBit i=true∨∃ s,some s∈sc∧(tv (I s) c).testBit i=true):=by
 unfold lvB
 intro sc
 induction sc with
 | nil=>intro b _;simp
 | cons o sc ih=>
  intro b hb
  cases o with
  | none=>
   rw [List.foldl_cons,ih hb]
   simp
  | some s=>
   rw [List.foldl_cons,ih (mUnion_tidy (hI s) hb),tv_mUnion (hI s) hb,Nat.testBit_or,Bool.or_eq_true_iff]
   constructor
   ·rintro ((h | h) | ⟨z,hz,h⟩)
    ·exact .inl h
    ·exact .inr ⟨s,by simp,h⟩
    ·exact .inr ⟨z,by simp [hz],h⟩
   ·rintro (h | ⟨z,hz,h⟩)
    ·exact .inl (.inl h)
    ·rcases List.mem_cons.1 hz with e | hz
     ·injection e with e;subst e;exact .inl (.inr h)
     ·exact .inr ⟨z,hz,h⟩
theorem lvA_bit {B W R:TL} (hB:Tidy B) (hW:Tidy W) (hR:Tidy R) (c i:Nat):(tv (lvA B W R) c).testBit i=true↔((tv B c).testBit i=true∧(tv W c).testBit i=false)∨(tv R c).testBit i=true:=by
 unfold lvA
 rw [tv_mUnion hR (mMinus_tidy hB),tv_mMinus hW hB,Nat.testBit_or,andn_testBit,Bool.or_eq_true_iff,Bool.and_eq_true,Bool.not_eq_true']
theorem lvA_tidy {B W R:TL} (hB:Tidy B) (hR:Tidy R):Tidy (lvA B W R):=mUnion_tidy hR (mMinus_tidy hB)
structure LF where
 n:Nat
 sc:Nat→List (Option Nat)
 W:Nat→TL
 R:Nat→TL
 U:List Nat
structure LF.Ok (f:LF):Prop where
 w:∀ k,Tidy (f.W k)
 r:∀ k,Tidy (f.R k)
 s:∀ k s,k < f.n→some s∈f.sc k→s < f.n
 u:∀ k c,k < f.n→tv (f.R k) c≠0→c∈f.U
def LF.flow (f:LF):Flow:=⟨f.n,fun k=>tv (f.R k),fun k=>tv (f.W k),fun k s=>some s∈f.sc k,f.U⟩
def LF.B (f:LF) (I:Nat→TL) (k:Nat):TL:=lvB (f.sc k) I []
def LF.A (f:LF) (I:Nat→TL) (k:Nat):TL:=lvA (f.B I k) (f.W k) (f.R k)
def setsOf (I O:Nat→TL):Sets:=fun p k=>if p then tv (O k) else tv (I k)
structure SInv (f:LF) (I O:Nat→TL):Prop where
 ti:∀ k,Tidy (I k)
 tO:∀ k,Tidy (O k)
 inn:∀ k c b,k < f.n→(tv (I k) c).testBit b=true→LiveIn f.flow.reads f.flow.writes f.flow.succ k c b
 out:∀ k c b,k < f.n→(tv (O k) c).testBit b=true→LiveOut f.flow.reads f.flow.writes f.flow.succ k c b
 sup:∀ k c,k < f.n→(tv (I k) c≠0∨tv (O k) c≠0)→c∈f.U
 preI:∀ k,k < f.n→Sub (tv (I k)) (tv (f.A I k))
 preO:∀ k,k < f.n→Sub (tv (O k)) (tv (f.B I k))
theorem SInv.start (f:LF):SInv f (fun _=>[]) (fun _=>[]):=
 ⟨fun _=>.nil,fun _=>.nil,fun _ _ _ _ h=>by simp [tv] at h,fun _ _ _ _ h=>by simp [tv] at h,fun _ _ _ h=>by simp [tv] at h,fun _ _ _ _ h=>by simp [tv] at h,fun _ _ _ _ h=>by simp [tv] at h⟩
theorem ne_zero_bit {x:Nat} (h:x≠0):∃ i,x.testBit i=true:=Nat.exists_testBit_of_ne_zero h
theorem LF.B_mono {f:LF} {I I':Nat→TL} (hI:∀ k,Tidy (I k)) (hI':∀ k,Tidy (I' k)) (h:∀ k,Sub (tv (I k)) (tv (I' k))) (k:Nat):Sub (tv (f.B I k)) (tv (f.B I' k)):=fun c i hb=>by
 rw [LF.B,lvB_bit hI' c i .nil]
 rw [LF.B,lvB_bit hI c i .nil] at hb
 rcases hb with hb | ⟨s,hs,hb⟩
 ·exact .inl hb
 ·exact .inr ⟨s,hs,h s c i hb⟩
theorem LF.A_mono {f:LF} (hf:f.Ok) {I I':Nat→TL} (hI:∀ k,Tidy (I k)) (hI':∀ k,Tidy (I' k)) (h:∀ k,Sub (tv (I k)) (tv (I' k))) (k:Nat):Sub (tv (f.A I k)) (tv (f.A I' k)):=fun c i hb=>by
 rw [LF.A,lvA_bit (B:=f.B I' k) (lvB_tidy hI' .nil) (hf.w k) (hf.r k)]
 rw [LF.A,lvA_bit (B:=f.B I k) (lvB_tidy hI .nil) (hf.w k) (hf.r k)] at hb
 rcases hb with ⟨h1,h2⟩ | hb
 ·exact .inl ⟨LF.B_mono hI hI' h k c i h1,h2⟩
 ·exact .inr hb
theorem SInv.step {f:LF} (hf:f.Ok) {I O:Nat→TL} (h:SInv f I O) {k:Nat} (hk:k < f.n):
  SInv f (updT I k (f.A I k)) (updT O k (f.B I k))∧(∀ p j,Sub (setsOf I O p j) (setsOf (updT I k (f.A I k)) (updT O k (f.B I k)) p j)) ∧
   ((f.B I k≠O k∨f.A I k≠I k)→missing f.n f.U (setsOf (updT I k (f.A I k)) (updT O k (f.B I k))) < missing f.n f.U (setsOf I O)):=by
 have tB:Tidy (f.B I k):=lvB_tidy h.ti .nil
 have tA:Tidy (f.A I k):=lvA_tidy tB (hf.r k)
 have tI':∀ j,Tidy (updT I k (f.A I k) j):=fun j=>by unfold updT;split;exact tA;exact h.ti j
 have hB:∀ c b,(tv (f.B I k) c).testBit b=true→LiveOut f.flow.reads f.flow.writes f.flow.succ k c b:=fun c b hb=>by
  rw [LF.B,lvB_bit h.ti c b .nil] at hb
  rcases hb with hb | ⟨s,hs,hb⟩
  ·simp [tv] at hb
  ·have hs':=hf.s k s hk hs
   exact ⟨s,⟨hk,hs',hs⟩,h.inn s c b hs' hb⟩
 have hA:∀ c b,(tv (f.A I k) c).testBit b=true→LiveIn f.flow.reads f.flow.writes f.flow.succ k c b:=fun c b hb=>by
  rw [LF.A,lvA_bit tB (hf.w k) (hf.r k)] at hb
  refine LiveIn.cases_iff.2 ?_
  rcases hb with ⟨h1,h2⟩ | hb
  ·refine .inr ⟨hB c b h1,fun hw=>?_⟩
   have hw:(tv (f.W k) c).testBit b=true:=hw
   rw [h2] at hw;cases hw
  ·exact .inl ⟨hk,hb⟩
 have uB:∀ c,tv (f.B I k) c≠0→c∈f.U:=fun c hc=>by
  obtain ⟨i,hi⟩:=ne_zero_bit hc
  rw [LF.B,lvB_bit h.ti c i .nil] at hi
  rcases hi with hi | ⟨s,hs,hi⟩
  ·simp [tv] at hi
  ·exact h.sup s c (hf.s k s hk hs) (.inl fun e=>by rw [e] at hi;simp at hi)
 have uA:∀ c,tv (f.A I k) c≠0→c∈f.U:=fun c hc=>by
  obtain ⟨i,hi⟩:=ne_zero_bit hc
  rw [LF.A,lvA_bit tB (hf.w k) (hf.r k)] at hi
  rcases hi with ⟨h1,_⟩ | hi
  ·exact uB c fun e=>by rw [e] at h1;simp at h1
  ·exact hf.u k c hk fun e=>by rw [e] at hi;simp at hi
 have mI:∀ j,Sub (tv (I j)) (tv (updT I k (f.A I k) j)):=fun j=>by
  unfold updT
  split
  ·rename_i e;rw [e];exact h.preI k hk
  ·exact Sub.refl _
 have mO:∀ j,Sub (tv (O j)) (tv (updT O k (f.B I k) j)):=fun j=>by
  unfold updT
  split
  ·rename_i e;rw [e];exact h.preO k hk
  ·exact Sub.refl _
 have hsub:∀ p j,Sub (setsOf I O p j) (setsOf (updT I k (f.A I k)) (updT O k (f.B I k)) p j):=fun p j=>by
  cases p
  ·exact mI j
  ·exact mO j
 refine ⟨⟨tI',fun j=>by unfold updT;split;exact tB;exact h.tO j,fun j c b hj hb=>?_,fun j c b hj hb=>?_,fun j c hj hc=>?_,fun j hj=>?_,fun j hj=>?_⟩,hsub,fun hne=>?_⟩
 ·unfold updT at hb
  split at hb
  ·rename_i e;subst e;exact hA c b hb
  ·exact h.inn j c b hj hb
 ·unfold updT at hb
  split at hb
  ·rename_i e;subst e;exact hB c b hb
  ·exact h.out j c b hj hb
 ·unfold updT at hc
  by_cases e:j=k
  ·rw [if_pos e,if_pos e] at hc;exact hc.elim (uA c) (uB c)
  ·rw [if_neg e,if_neg e] at hc;exact h.sup j c hj hc
 ·have hm:=LF.A_mono hf h.ti tI' mI j
  intro c i hb
  unfold updT at hb
  split at hb
  ·rename_i e;subst e;exact hm c i hb
  ·exact hm c i (h.preI j hj c i hb)
 ·have hm:=LF.B_mono (f:=f) h.ti tI' mI j
  intro c i hb
  unfold updT at hb
  split at hb
  ·rename_i e;subst e;exact hm c i hb
  ·exact hm c i (h.preO j hj c i hb)
 ·have key:∀ (s t:TL),Tidy s→Tidy t→Sub (tv s) (tv t)→t≠s→∃ c i,(tv s c).testBit i=false∧(tv t c).testBit i=true:=by
   intro s t hs ht hst hne
   apply Classical.byContradiction
   intro hn
   refine hne (ht.ext hs fun c=>Nat.eq_of_testBit_eq fun i=>?_)
   cases h1:(tv s c).testBit i
   ·cases h2:(tv t c).testBit i
    ·rfl
    ·exact absurd ⟨c,i,h1,h2⟩ hn
   ·rw [hst c i h1]
  rcases hne with hne | hne
  ·obtain ⟨c,i,h1,h2⟩:=key _ _ (h.tO k) tB (h.preO k hk) hne
   exact missing_lt hsub (p:=true) hk (uB c fun e=>by rw [e] at h2;simp at h2) (bit_lt (tv_lt16 tB c) h2) h1 (by show (tv (updT O k (f.B I k) k) c).testBit i=true;rw [updT,if_pos rfl];exact h2)
  ·obtain ⟨c,i,h1,h2⟩:=key _ _ (h.ti k) tA (h.preI k hk) hne
   exact missing_lt hsub (p:=false) hk (uA c fun e=>by rw [e] at h2;simp at h2) (bit_lt (tv_lt16 tA c) h2) h1 (by show (tv (updT I k (f.A I k) k) c).testBit i=true;rw [updT,if_pos rfl];exact h2)
def tlOf (gs:List G):TL:=gs.foldl (fun s g=>mAdd s g.id g.spec) []
theorem tlOf_spec {gs:List G} (hg:∀ g∈gs,g.Ok):Tidy (tlOf gs)∧tv (tlOf gs)=ofGs gs:=by
 unfold tlOf ofGs
 have key:∀ (gs:List G) (s:TL),(∀ g∈gs,g.Ok)→Tidy s→Tidy (gs.foldl (fun s g=>mAdd s g.id g.spec) s)∧tv (gs.foldl (fun s g=>mAdd s g.id g.spec) s)=gs.foldl (fun F g=>orM F g.id g.spec) (tv s):=by
  intro gs
  induction gs with
  | nil=>exact fun s _ hs=>⟨hs,rfl⟩
  | cons g gs ih=>
   intro s hg hs
   have ok:=hg g (by simp)
   have h1:=ok.kind
   have h2:=ok.idx
   have h3:=ok.spec
   have:=ih (mAdd s g.id g.spec) (fun x hx=>hg x (by simp [hx])) (mAdd_tidy hs (by omega) (by unfold G.id;cases g.virt<;>simp<;>omega))
   rw [List.foldl_cons,List.foldl_cons,← tv_mAdd hs]
   exact this
 have:=key gs [] hg .nil
 exact this
end
end Go.Proofs.YtbgblfiapecioaaGreat
