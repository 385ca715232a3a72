/- Part of the proof of a statement about pub-berthage: what its texts have in common. -/
import Derived.Deep.RegionHeld3
import Derived.Test.YtbgblfiapecioaaGreatP20
import Derived.Test.YtbgblfiapecioaaGreatP23
import Derived.Test.YtbgblfiapecioaaGreatP31
namespace Go.Proofs.YtbgblfiapecioaaGreat
section
open Go Go.RowKit Bth
set_option maxRecDepth 100000
theorem txt_inj {x y:ByteArray} (h:x.toList=y.toList):x=y:=by
 have h1:=beq_toListBytes x y
 rw [h] at h1
 simp at h1
 obtain ⟨a⟩:=x
 obtain ⟨b⟩:=y
 have h2:(a == b)=true:=h1
 rw [eq_of_beq h2]
abbrev TG:=List (ByteArray × Nat)
def tgV (x:ByteArray × Nat):List Value:=[.string x.1,.int .i64 (x.2:Int)]
theorem tgV_len (x:ByteArray × Nat):(tgV x).length=2:=rfl
def tgCells (t:TG):List Value:=t.flatMap tgV
theorem tgCells_app (a b:TG):tgCells (a ++ b)=tgCells a ++ tgCells b:=List.flatMap_append
def TgAt (w:World) (A:Option Addr) (t:TG):Prop:=Rw w 72 2 A t.length (tgCells t)
theorem infoTg:(Tryz.prog.info? 72).map (fun i=>(i.zero,i.size,i.bytes))=some (some (.agg #[.string ⟨#[]⟩,.int .i64 0]),2,24):=by kernel_rfl
theorem drop_cons' {α : Type} {l:List α} {k:Nat} {x:α} (h:l[k]? = some x):l.drop k=x :: l.drop (k+1):=by
 obtain ⟨hl,e⟩:=List.getElem?_eq_some_iff.1 h
 rw [← e]
 exact List.drop_eq_getElem_cons hl
open Classical in
noncomputable def lkT:TG→ByteArray→Option Nat
 | [],_=>none
 | x :: t,s=>if x.1=s then some x.2 else lkT t s
theorem lkT_skip {a b:TG} {s:ByteArray} (h:∀ x∈a,x.1≠s):lkT (a ++ b) s=lkT b s:=by
 induction a with
 | nil=>rfl
 | cons x a ih=>
  rw [List.cons_append,lkT,if_neg (h x (by simp)),ih fun y hy=>h y (by simp [hy])]
def FoundT (t:TG) (s:ByteArray) (z:Int):Prop:=(z = -1∧lkT t s=none)∨∃ (k b:Nat),z=(k:Int)∧t[k]? = some (s,b)∧lkT t s=some b
set_option maxHeartbeats 1000000 in
theorem flowAt_calls (w:World) (A:Option Addr) (c:Nat) (t:TG) (s:ByteArray) (h:TgAt w A t) (hl:t.length≤1073741824):Calls Tryz.prog 36 #[.slice A t.length c,.string s] w fun e w'=>∃ z,e = .returned (.int .i64 z)∧FoundT t s z∧Fr nope w w':=by
 go_enter Tryz.func36,Tryz.ntmps36
 go_wp2
 go_loopg [9] t.length (fun n c9 wr=>∃ k:Nat,k≤t.length∧Hid (∀ x∈t.take k,x.1≠s)∧c9 = .int .i64 (k:Int)∧Fr nope w wr∧n=t.length - k)
 case atStart=>exact ⟨0,Nat.zero_le _,Lib.hid (by simp),rfl,Fr.refl _ _,rfl⟩
 case round=>
  obtain ⟨k,hk,hno,rfl,hf,rfl⟩:=hrel
  by_cases hlt:k < t.length
  ·obtain ⟨⟨x1,x2⟩,hx⟩:∃ x,t[k]? = some x:=⟨_,List.getElem?_eq_getElem hlt⟩
   obtain ⟨b,off,hBe,hbl,hr⟩:=h.at_ tgV_len hx
   subst hBe
   have hc0:wr.cell? ⟨b,off+k*2,none⟩=some (.string x1):=hf.cell (hr 0 _ rfl) (fun x=>x)
   have hc1:wr.cell? ⟨b,off+k*2+1,none⟩=some (.int .i64 (x2:Int)):=hf.cell (hr 1 _ rfl) (fun x=>x)
   have hbl2:b < wr.heap.size:=Nat.lt_of_lt_of_le hbl hf.size
   have hT:=Lib.hid (take_snoc hx)
   have hD:=Lib.hid (drop_cons' hx)
   replace hx:=Lib.hid hx
   clear hr
   cases he:(x1.toList == s.toList) with
   | true=>
    have e:=txt_inj (eq_of_beq he)
    have hfd:FoundT t s (k:Int):=by
     refine .inr ⟨k,x2,rfl,by rw [hx.out,e],?_⟩
     conv=>lhs;rw [← List.take_append_drop k t]
     rw [lkT_skip hno.out,hD.out,lkT,if_pos e]
    replace hfd:=Lib.hid hfd
    clear e
    go_wp2
    go_ret
    exact ⟨_,rfl,hfd.out,hf.alloc _⟩
   | false=>
    have e:x1≠s:=fun e=>by rw [e] at he;simp at he
    have hn:Hid (∀ x∈t.take (k+1),x.1≠s):=Lib.hid (fun x hx'=>by
     rw [hT.out] at hx'
     rcases List.mem_append.1 hx' with h1 | h1
     ·exact hno.out x h1
     ·obtain rfl:x=(x1,x2):=by simpa using h1
      exact e)
    clear e
    go_wp2
    go_roundg (t.length - (k+1))
    case measure=>omega
    case rel=>exact ⟨k+1,by omega,hn,by go_num,hf.alloc _,rfl⟩
  ·rw [take_all hlt] at hno
   have hfd:FoundT t s (-1):=.inl ⟨rfl,by have:=lkT_skip (b:=[]) hno.out;rw [List.append_nil] at this;exact this⟩
   replace hfd:=Lib.hid hfd
   go_wp2
   go_ret
   exact ⟨_,rfl,hfd.out,hf⟩
def GivesTL1 (w:World) (ops:List PO) (e:Ending) (w':World):Prop:=∃ s b,e = .returned (.tuple #[.string s,.bool b])∧(b=true→targetP ops=some s)∧(b=false→targetP ops=none)∧Fr nope w w'
set_option maxHeartbeats 1000000 in
theorem spTargetLabel_calls (w:World) (B:Nat) (p:PI) (h:p.At w B) (hok:okI p=true) (hbr:p.br=true):Calls Tryz.prog 35 #[p.agg] w (GivesTL1 w p.ops):=by
 have hO:=fun W (hW:Fr nope w W)=>InstrOK_calls W B p (h.fr hW (fun _ _ x=>x))
 unfold GivesB at hO
 rw [hok] at hO
 have hps:=h.ops
 have hn:p.opsV.n=p.ops.length:=h.ops.1
 clear h hok
 obtain ⟨opc,⟨A1,n1,c1⟩,suf,⟨A2,n2,c2⟩,ops,⟨A3,n3,c3⟩,inp,⟨A4,n4,c4⟩,ps,term,br,cond,canc,⟨A5,n5,c5⟩,isa⟩:=p
 simp only at hbr hps hn
 subst hbr hn
 simp only [PI.agg,PI.cells,SV.val] at hO ⊢
 replace hO:=Lib.hid hO
 cases ops with
 | nil=>
  simp only [List.length_nil] at hO ⊢
  go_enter Tryz.func35,Tryz.ntmps35
  go_wp2_with (refine wpList_loadRow (b:=w.heap.size) rfl rfl rfl (heap_alloc_new w _) Tryz.underlying46 rfl (by kernel_rfl) ?_)
  refine (hO.out _ ((Fr.refl _ _).alloc _)).mono ?_
  rintro e w1 ⟨rfl,hf1⟩
  have hb1:=hf1.heap (heap_alloc_new w _) (fun x=>x)
  have hc2:=cell_of_row _ _ 2 _ _ (0,0) hb1
  have hc6:=cell_of_row _ _ 6 _ _ (0,0) hb1
  simp only [List.getElem?_toArray,List.getElem?_cons_succ,List.getElem?_cons_zero] at hc2 hc6
  have hn1:Fr nope w w1:=((Fr.refl _ _).alloc _).then hf1
  clear hb1 hO
  go_wp2
  go_ret2
  exact ⟨_,false,rfl,(fun e=>by cases e),fun _=>rfl,hn1⟩
 | cons q ops=>
  obtain ⟨b,off,hA,hbl,hq⟩:=hps.2 (by simp)
  have hq:=hq 0 q rfl
  simp only at hA
  subst hA
  rw [Nat.zero_mul,Nat.add_zero] at hq
  have q0:w.cell? ⟨b,off,none⟩=some (.int .i64 q.kind):=hq 0 _ rfl
  have q22:w.cell? ⟨b,off+22,none⟩=some (.string q.label):=hq 22 _ rfl
  clear hq hps
  obtain ⟨m,hm⟩:∃ m,m=(q :: ops).length:=⟨_,rfl⟩
  have hm0:(0:Int) < (m:Int):=by rw [hm];simp
  have hm1:((m:Int) == 0)=false:=by simp;omega
  have hm2:(0:Nat) < m:=by omega
  rw [← hm] at hO ⊢
  clear hm
  by_cases k4:q.kind=4
  ·have ht:targetP (q :: ops)=some q.label:=by simp [targetP,k4]
   rw [k4] at q0
   replace ht:=Lib.hid ht
   clear k4
   go_enter Tryz.func35,Tryz.ntmps35
   go_wp2_with (refine wpList_loadRow (b:=w.heap.size) rfl rfl rfl (heap_alloc_new w _) Tryz.underlying46 rfl (by kernel_rfl) ?_)
   refine (hO.out _ ((Fr.refl _ _).alloc _)).mono ?_
   rintro e w1 ⟨rfl,hf1⟩
   have hb1:=hf1.heap (heap_alloc_new w _) (fun x=>x)
   have hc2:=cell_of_row _ _ 2 _ _ (0,0) hb1
   have hc6:=cell_of_row _ _ 6 _ _ (0,0) hb1
   simp only [List.getElem?_toArray,List.getElem?_cons_succ,List.getElem?_cons_zero] at hc2 hc6
   have hn1:Fr nope w w1:=((Fr.refl _ _).alloc _).then hf1
   clear hb1 hO
   have q0:=hn1.cell q0 (fun x=>x)
   have q22:=hn1.cell q22 (fun x=>x)
   go_wp2
   go_ret2
   exact ⟨_,true,rfl,fun _=>ht.out,(fun e=>by cases e),hn1⟩
  ·have ht:targetP (q :: ops)=none:=by simp [targetP,k4]
   replace ht:=Lib.hid ht
   have k4':(q.kind == 4)=false:=by simp [k4]
   go_enter Tryz.func35,Tryz.ntmps35
   go_wp2_with (refine wpList_loadRow (b:=w.heap.size) rfl rfl rfl (heap_alloc_new w _) Tryz.underlying46 rfl (by kernel_rfl) ?_)
   refine (hO.out _ ((Fr.refl _ _).alloc _)).mono ?_
   rintro e w1 ⟨rfl,hf1⟩
   have hb1:=hf1.heap (heap_alloc_new w _) (fun x=>x)
   have hc2:=cell_of_row _ _ 2 _ _ (0,0) hb1
   have hc6:=cell_of_row _ _ 6 _ _ (0,0) hb1
   simp only [List.getElem?_toArray,List.getElem?_cons_succ,List.getElem?_cons_zero] at hc2 hc6
   have hn1:Fr nope w w1:=((Fr.refl _ _).alloc _).then hf1
   clear hb1 hO
   have q0:=hn1.cell q0 (fun x=>x)
   go_wp2
   go_ret2
   exact ⟨_,false,rfl,(fun e=>by cases e),fun _=>ht.out,hn1⟩
theorem spUncond_calls (w:World) (B:Nat) (p:PI) (h:p.At w B) (hok:okI p=true):Calls Tryz.prog 37 #[p.agg] w (GivesB w (p.br && !p.cond)):=by
 have hO:=fun W (hW:Fr nope w W)=>InstrOK_calls W B p (h.fr hW (fun _ _ x=>x))
 unfold GivesB at hO
 rw [hok] at hO
 clear h hok
 obtain ⟨opc,⟨A1,n1,c1⟩,suf,⟨A2,n2,c2⟩,ops,⟨A3,n3,c3⟩,inp,⟨A4,n4,c4⟩,ps,term,br,cond,canc,⟨A5,n5,c5⟩,isa⟩:=p
 simp only [PI.agg,PI.cells,SV.val] at hO ⊢
 replace hO:=Lib.hid hO
 cases br with
 | false=>
  go_enter Tryz.func37,Tryz.ntmps37
  go_wp2_with (refine wpList_loadRow (b:=w.heap.size) rfl rfl rfl (heap_alloc_new w _) Tryz.underlying46 rfl (by kernel_rfl) ?_)
  refine (hO.out _ ((Fr.refl _ _).alloc _)).mono ?_
  rintro e w1 ⟨rfl,hf1⟩
  have hb1:=hf1.heap (heap_alloc_new w _) (fun x=>x)
  have hc6:=cell_of_row _ _ 6 _ _ (0,0) hb1
  simp only [List.getElem?_toArray,List.getElem?_cons_succ,List.getElem?_cons_zero] at hc6
  have hn1:Fr nope w w1:=((Fr.refl _ _).alloc _).then hf1
  clear hb1 hO
  go_wp2
  go_ret
  exact ⟨rfl,hn1⟩
 | true=>
  go_enter Tryz.func37,Tryz.ntmps37
  go_wp2_with (refine wpList_loadRow (b:=w.heap.size) rfl rfl rfl (heap_alloc_new w _) Tryz.underlying46 rfl (by kernel_rfl) ?_)
  refine (hO.out _ ((Fr.refl _ _).alloc _)).mono ?_
  rintro e w1 ⟨rfl,hf1⟩
  have hb1:=hf1.heap (heap_alloc_new w _) (fun x=>x)
  have hc6:=cell_of_row _ _ 6 _ _ (0,0) hb1
  have hc7:=cell_of_row _ _ 7 _ _ (0,0) hb1
  simp only [List.getElem?_toArray,List.getElem?_cons_succ,List.getElem?_cons_zero] at hc6 hc7
  have hn1:Fr nope w w1:=((Fr.refl _ _).alloc _).then hf1
  clear hb1 hO
  go_wp2
  go_ret
  exact ⟨by cases cond<;>rfl,hn1⟩
end
section
open Go Go.RowKit Bth
set_option maxRecDepth 100000
def GivesPut (w:World) (t:TG) (x:ByteArray × Nat) (e:Ending) (w':World):Prop:=Fr nope w w'∧∃ k A c,k≤t.length∧t.length+1≤c∧e = .returned (.slice A (t.length+1) c)∧TgAt w' A (t.take k ++ x :: t.drop k)
theorem tg_one (a:TG):∀ u∈tgCells a,u.oneCell'=true:=by
 intro u hu
 obtain ⟨g,_,hg⟩:=List.mem_flatMap.1 hu
 simp only [tgV,List.mem_cons,List.not_mem_nil,or_false] at hg
 rcases hg with rfl | rfl<;>rfl
theorem Rw.take {w:World} {e:TypeId} {A:Option Addr} {n size k:Nat} {xs:List Value} (h:Rw w e size A n xs) (hk:k≤n):Rw w e size A k (xs.take (k*size)):=by
 refine ⟨by rw [List.length_take,h.len,Nat.min_eq_left (Nat.mul_le_mul_right _ hk)],fun hp=>?_⟩
 obtain ⟨b,off,cs,fr,h1,h2,h3⟩:=h.row (by omega)
 refine ⟨b,off,cs,fr,h1,h2,fun j u hu=>h3 j u ?_⟩
 have hj:=(List.getElem?_eq_some_iff.1 hu).1
 rw [List.length_take] at hj
 rw [List.getElem?_take_of_lt (by omega)] at hu
 exact hu
theorem flat_take {α : Type} {f:α → List Value} {size:Nat} (hs:∀ x,(f x).length=size) (l:List α) (k:Nat):(l.take k).flatMap f=(l.flatMap f).take (k*size):=by
 induction l generalizing k with
 | nil=>simp
 | cons x l ih=>
  cases k with
  | zero=>simp
  | succ k=>
   have e:(k+1)*size=(f x).length+k*size:=by rw [hs,Nat.succ_mul];omega
   rw [List.take_succ_cons,List.flatMap_cons,List.flatMap_cons,ih,e,List.take_length_add_append]
theorem flat_drop {α : Type} {f:α → List Value} {size:Nat} (hs:∀ x,(f x).length=size) (l:List α) (k:Nat):(l.drop k).flatMap f=(l.flatMap f).drop (k*size):=by
 induction l generalizing k with
 | nil=>simp
 | cons x l ih=>
  cases k with
  | zero=>simp
  | succ k=>
   have e:(k+1)*size=(f x).length+k*size:=by rw [hs,Nat.succ_mul];omega
   rw [List.drop_succ_cons,List.flatMap_cons,ih,e,List.drop_length_add_append]
noncomputable def fpTail (n:Nat):Code:=seqTail n (Tryz.f66.body.getD .skip)
set_option maxHeartbeats 2000000 in
theorem fp_tail (w0 w:World) (A:Option Addr) (c bb k:Nat) (t:TG) (x1:ByteArray) (x2:Nat) {u1 u2 u4 u6 u7 u8 u9 u10 u11 u12 u13 u14 u15 u16 u17 u18 u19 u20 u21 u22 u23 u24 u25 u26 u27 u28 u29 u30 u31 u32 u33 u34 u35:Value} (hk:k≤t.length) (h:TgAt w A t) (hc:t.length≤c) (hl:t.length≤1073741824) (hf:Fr nope w0 w)
  (hb:w.heap[bb]? = some (.cells #[.string x1,.int .i64 (x2:Int)] 72 (0,0))):
  Code.wp Tryz.prog (fpTail 3) (bodyPost Tryz.prog Tryz.f66 (GivesPut w0 t (x1,x2))) ⟨#[.slice A t.length c,u1,u2,.pointer (some ⟨bb,0,none⟩),u4,.int .i64 (k:Int),u6,u7,u8,u9,u10,u11,u12,u13,u14,u15,u16,u17,u18,u19,u20,u21,u22,u23,u24,u25,u26,u27,u28,u29,u30,u31,u32,u33,u34,u35],[]⟩ w:=by
 have hk0:¬(k:Int) < 0:=by omega
 have hk1:(k:Int)≤(t.length:Int):=by omega
 have hk2:(k:Int)≤(c:Int):=by omega
 have hk3:(t.length:Int)≤(c:Int):=by omega
 have hsz:=hf.size
 have ha:(tgCells (t.take k)).length=k*2:=by
  have:=flat_len tgV_len (t.take k)
  rw [List.length_take,Nat.min_eq_left hk] at this
  exact this
 have hd:(tgCells (t.drop k)).length=(t.length - k)*2:=by
  have:=flat_len tgV_len (t.drop k)
  rw [List.length_drop] at this
  exact this
 have h1:Rw w 72 2 A k (tgCells (t.take k)):=by
  rw [tgCells,flat_take tgV_len]
  exact Rw.take h hk
 have hs1:=h1.src
 replace ha:=Lib.hid ha
 replace hd:=Lib.hid hd
 have hx0:=cell_of_row _ _ 0 _ _ (0,0) hb
 have hx1:=cell_of_row _ _ 1 _ _ (0,0) hb
 simp only [List.getElem?_toArray,List.getElem?_cons_zero,List.getElem?_cons_succ] at hx0 hx1
 conv=>arg 2;whnf
 rcases A with _ | ad
 ·obtain rfl:t=[]:=by
   cases t with
   | nil=>rfl
   | cons y t=>
    obtain ⟨b,off,cs,fr,e,_⟩:=Rw.row h (by simp)
    cases e
  obtain rfl:k=0:=by simpa using hk
  simp only [List.length_nil]
  clear h1 hs1 ha hd h hk
  rcases c with _ | c
  all_goals
   go_wp2_with (first
    | (refine wpList_build1 (l:=tgV (x1,x2)) rfl rfl rfl Tryz.underlying64 infoTg rfl (by omega) (by decide) ?_)
    | refine wpList_app (v:=.slice none 0 0) rfl rfl Tryz.underlying64 infoTg rfl (by omega) rfl (own_nil _ w.heap.size _ _) rfl (news:=tgV (x1,x2)) rfl (fun _=>cells_new _ _ _ _ (by simp)) (by simp [tgV,Value.oneCell']) (by simp [maxLen]) (by simp) (by simp) ?hm)
   case hm=>
    intro v5 w5 hown5 hf5 hb5
    obtain ⟨A5,c5,rfl,hle5,_⟩:=own_slice hown5
    clear hb5
    have hf5w:Fr nope w0 w5:=(hf.alloc _).then (hf5.mono (fun x _ h=>by simp [Value.ownBlock] at h))
    have hsz5:w.heap.size≤w5.heap.size:=by have:=hf5.size;simp at this;omega
    have hbo5:=own_base hown5
    go_wp2_with (refine wpList_app (v:=.slice A5 1 c5) rfl rfl Tryz.underlying64 infoTg rfl (by omega) rfl hown5 (A:=none) (m:=0) rfl (news:=[]) rfl (fun h=>absurd h (by omega)) (by simp) (by simp [maxLen]) (by simp) hsz5 ?hz)
    case hz=>
     intro v6 w6 hown6 hf6 hb6
     obtain ⟨A6,c6,rfl,hle6,_⟩:=own_slice hown6
     clear hb6
     go_wp2
     go_ret
     exact ⟨hf5w.then_new hf6 (fun x hx e=>by have:=hbo5 x e;omega),0,A6,c6,Nat.zero_le _,by simpa using hle6,rfl,Rw.of_own hown6⟩
 ·go_wp2_with (refine wpList_app (v:=.slice none 0 0) rfl rfl Tryz.underlying64 infoTg rfl (by omega) rfl (own_nil _ w.heap.size _ _) rfl (news:=tgCells (t.take k)) ha.out hs1 (tg_one _) ?hd ?he (Nat.le_refl _) ?hk)
  case hd=>simp only [maxLen];omega
  case he=>omega
  case hk=>
   intro v4 w4 hown4 hf4 hb4
   obtain ⟨A4,c4,rfl,_,_⟩:=own_slice hown4
   clear hb4
   try rw [Nat.zero_add] at hown4
   try simp only [Nat.zero_add]
   have hf4:Fr nope w w4:=hf4.mono (fun x _ h=>by simp [Value.ownBlock] at h)
   have hx0:=hf4.cell hx0 (fun x=>x)
   have hx1:=hf4.cell hx1 (fun x=>x)
   have hsz4:=hf4.size
   have hal:=own_fr hown4 ((Fr.refl nope w4).alloc (.cells (tgV (x1,x2)).toArray 72)) (fun _ _ x=>x)
   go_wp2_with (first
    | (refine wpList_build1 (l:=tgV (x1,x2)) rfl rfl rfl Tryz.underlying64 infoTg rfl (by omega) (by decide) ?_)
    | refine wpList_app (v:=.slice A4 k c4) rfl rfl Tryz.underlying64 infoTg rfl (by omega) rfl hal rfl (news:=tgV (x1,x2)) rfl (fun _=>cells_new _ _ _ _ (by simp)) (by simp [tgV,Value.oneCell']) (by simp only [maxLen];omega) (by omega) (by simp;omega) ?hm)
   case hm=>
    intro v5 w5 hown5 hf5 hb5
    obtain ⟨A5,c5,rfl,_,_⟩:=own_slice hown5
    clear hb5
    have hbo:=own_base hown4
    have hf5w:Fr nope w0 w5:=((hf.then hf4).alloc _).then_new hf5 (fun x hx e=>by have:=hbo x e;omega)
    have hsz5:w.heap.size≤w5.heap.size:=by have:=hf5.size;simp at this;omega
    by_cases hkc:k=c
    ·have hlk:t.length - k=0:=by omega
     have hdr:tgCells (t.drop k)=[]:=List.eq_nil_of_length_eq_zero (by rw [hd.out,hlk])
     subst hkc
     replace hdr:=Lib.hid hdr
     clear hs1 h1
     go_wp2_with (refine wpList_app (v:=.slice A5 (k+1) c5) rfl rfl Tryz.underlying64 infoTg rfl (by omega) rfl hown5 (A:=some ad) (m:=0) (c:=0) rfl (news:=[]) rfl (fun h=>absurd h (by omega)) (by simp) (by simp only [maxLen];omega) (by omega) hsz5 ?hz)
     case hz=>
      intro v6 w6 hown6 hf6 hb6
      have hown6:w6.ownsRow w.heap.size 72 2 v6 (k+1) (tgCells (t.take k) ++ tgV (x1,x2)):=hown6
      obtain ⟨A6,c6,rfl,hle6,_⟩:=own_slice hown6
      clear hb6
      have hbo5:=own_base hown5
      have hf6w:Fr nope w0 w6:=hf5w.then_new hf6 (fun x hx e=>by have:=hbo5 x e;omega)
      have hres:TgAt w6 A6 (t.take k ++ (x1,x2) :: t.drop k)∧t.length+1≤c6:=by
       have e1:k+1=t.length+1:=by omega
       have e2:(t.take k ++ (x1,x2) :: t.drop k).length=t.length+1:=by rw [List.length_append,List.length_take,List.length_cons,List.length_drop];omega
       rw [e1] at hown6 hle6
       refine ⟨?_,hle6⟩
       have h6:=Rw.of_own hown6
       rw [TgAt,e2,show tgCells (t.take k ++ (x1,x2) :: t.drop k)=tgCells (t.take k) ++ tgV (x1,x2) ++ tgCells (t.drop k) by rw [tgCells_app,List.append_assoc];rfl]
       rw [hdr.out,List.append_nil]
       first | exact h6 | (rw [List.append_assoc];exact h6)
      have e1:k+1=t.length+1:=by omega
      replace hres:=Lib.hid hres
      replace e1:=Lib.hid e1
      go_wp2
      go_ret
      exact ⟨hf6w,k,A6,c6,hk,hres.out.2,by show Ending.returned (Value.slice A6 _ c6)=_;rw [← e1.out],hres.out.1⟩
    ·have hkc':(k:Int)≠(c:Int):=by omega
     have hkc2:(k:Int) < (c:Int):=by omega
     have hs3:0 < t.length - k→∃ ad',some (ad.add (k*2))=some ad'∧∀ j u,(tgCells (t.drop k))[j]? = some u→w5.cell? (ad'.add j)=some u:=fun hp=>by
      obtain ⟨b,off,cs,fr,e,hb',hcell⟩:=Rw.row h (by omega)
      injection e with e
      subst e
      refine ⟨_,rfl,fun j u hu=>?_⟩
      have e1:(⟨b,off,none⟩:Addr).add (k*2)=⟨b,off+k*2,none⟩:=by unfold Addr.add;split<;>simp_all
      have e2:(⟨b,off+k*2,none⟩:Addr).add j=⟨b,off+k*2+j,none⟩:=by unfold Addr.add;split<;>simp_all
      rw [e1,e2]
      rw [show tgCells (t.drop k)=_ from flat_drop tgV_len t k,List.getElem?_drop] at hu
      have:=hcell _ u hu
      rw [← Nat.add_assoc] at this
      have hwb:b < w.heap.size:=lt_of_heap hb'
      exact ((hf4.then ((Fr.refl nope w4).alloc _)).then_new hf5 (fun x hx e=>by
       have:=hbo x e;omega)).cell this (fun x=>x)
     clear hs1 h1
     go_wp2_with (refine wpList_app (v:=.slice A5 (k+1) c5) rfl rfl Tryz.underlying64 infoTg rfl (by omega) rfl hown5 rfl (news:=tgCells (t.drop k)) hd.out hs3 (tg_one _) (by simp only [maxLen];omega) (by omega) hsz5 ?hz)
     case hz=>
      intro v6 w6 hown6 hf6 hb6
      obtain ⟨A6,c6,rfl,hle6,_⟩:=own_slice hown6
      clear hb6
      have hbo5:=own_base hown5
      have hf6w:Fr nope w0 w6:=hf5w.then_new hf6 (fun x hx e=>by have:=hbo5 x e;omega)
      have hres:TgAt w6 A6 (t.take k ++ (x1,x2) :: t.drop k)∧t.length+1≤c6:=by
       have e1:k+1+(t.length - k)=t.length+1:=by omega
       have e2:(t.take k ++ (x1,x2) :: t.drop k).length=t.length+1:=by rw [List.length_append,List.length_take,List.length_cons,List.length_drop];omega
       rw [e1] at hown6 hle6
       refine ⟨?_,hle6⟩
       have h6:=Rw.of_own hown6
       rw [TgAt,e2,show tgCells (t.take k ++ (x1,x2) :: t.drop k)=tgCells (t.take k) ++ tgV (x1,x2) ++ tgCells (t.drop k) by rw [tgCells_app,List.append_assoc];rfl]
       first | exact h6 | (rw [List.append_assoc];exact h6)
      have e1:k+1+(t.length - k)=t.length+1:=by omega
      replace hres:=Lib.hid hres
      replace e1:=Lib.hid e1
      go_wp2
      go_ret
      exact ⟨hf6w,k,A6,c6,hk,hres.out.2,by show Ending.returned (Value.slice A6 _ c6)=_;rw [← e1.out],hres.out.1⟩
set_option maxHeartbeats 2000000 in
theorem flowPut_calls (w:World) (A:Option Addr) (c:Nat) (t:TG) (x1:ByteArray) (x2:Nat) (h:TgAt w A t) (hc:t.length≤c) (hl:t.length≤1073741824):Calls Tryz.prog 66 #[.slice A t.length c,.agg #[.string x1,.int .i64 (x2:Int)]] w (GivesPut w t (x1,x2)):=by
 go_enter Tryz.func66,Tryz.ntmps66
 go_wp2
 have hn0:Fr nope w (w.alloc (.cells #[.string x1,.int .i64 (x2:Int)] 72)):=(Fr.refl _ _).alloc _
 have hb0:=heap_alloc_new w (.cells #[.string x1,.int .i64 (x2:Int)] 72)
 obtain ⟨w0,hw0⟩:∃ w0,w0=w.alloc (.cells #[.string x1,.int .i64 (x2:Int)] 72):=⟨_,rfl⟩
 rw [← hw0] at hn0 hb0 ⊢
 clear hw0
 go_loopg [5] t.length (fun n c5 wr=>∃ k:Nat,k≤t.length∧c5 = .int .i64 (k:Int)∧Fr nope w0 wr∧n=t.length - k)
 case atStart=>exact ⟨0,Nat.zero_le _,rfl,Fr.refl _ _,rfl⟩
 case round=>
  obtain ⟨k,hk,rfl,hf,rfl⟩:=hrel
  have hnr:=hn0.then hf
  have hbr:=hf.heap hb0 (fun x=>x)
  have hx0:=cell_of_row _ _ 0 _ _ (0,0) hbr
  simp only [List.getElem?_toArray,List.getElem?_cons_zero] at hx0
  by_cases hlt:k < t.length
  ·obtain ⟨⟨y1,y2⟩,hy⟩:∃ x,t[k]? = some x:=⟨_,List.getElem?_eq_getElem hlt⟩
   obtain ⟨b,off,hBe,hbl,hr⟩:=h.at_ tgV_len hy
   subst hBe
   have hc0:wr.cell? ⟨b,off+k*2,none⟩=some (.string y1):=hnr.cell (hr 0 _ rfl) (fun x=>x)
   clear hy hr
   cases hb:Op.bytesLess y1.toList x1.toList with
   | true=>
    go_wp2
    go_quiet (fail)
    go_wp2
    go_roundg (t.length - (k+1))
    case measure=>omega
    case rel=>exact ⟨k+1,by omega,by go_num,hf.drewN _,rfl⟩
   | false=>
    go_wp2
    go_quiet (fail)
    repeat (first | exact fp_tail w (wr.drewN _) _ c w.heap.size k t x1 x2 hk (Rw.nope h (hnr.drewN _)) hc hl (hnr.drewN _) hbr | go_step | go_back)
  ·go_wp2
   go_quiet (fail)
   repeat (first | exact fp_tail w (wr.drewN _) _ c w.heap.size k t x1 x2 hk (Rw.nope h (hnr.drewN _)) hc hl (hnr.drewN _) hbr | go_step | go_back)
end
section
open Go Go.RowKit Bth
set_option maxRecDepth 100000
theorem lkT_app (a b:TG) (s:ByteArray):lkT (a ++ b) s=match lkT a s with | some v=>some v | none=>lkT b s:=by
 induction a with
 | nil=>rfl
 | cons x a ih=>
  rw [List.cons_append,lkT,lkT]
  by_cases h:x.1=s
  ·rw [if_pos h,if_pos h]
  ·rw [if_neg h,if_neg h,ih]
open Classical in
theorem lkT_put {T:TG} (k:Nat) {s:ByteArray} {b:Nat} (h:∀ v,lkT T s=some v→v=b) (x:ByteArray):lkT (T.take k ++ (s,b) :: T.drop k) x=if x=s then some b else lkT T x:=by
 have e:lkT T x=match lkT (T.take k) x with | some v=>some v | none=>lkT (T.drop k) x:=by
  conv=>lhs;rw [← List.take_append_drop k T]
  exact lkT_app _ _ _
 rw [lkT_app,lkT]
 by_cases hx:x=s
 ·subst hx
  rw [if_pos rfl,if_pos rfl]
  cases hv:lkT (T.take k) x with
  | none=>rfl
  | some v=>rw [hv] at e;rw [h v e]
 ·rw [if_neg hx,if_neg (fun e=>hx e.symm),e]
theorem lpRun_none {a:List PN} (h:lpRun a=none) (b:List PN):lpRun (a ++ b)=none:=by
 unfold lpRun at h ⊢
 rw [List.foldlM_append,h]
 rfl
structure LtInv (s:LP) (opn:List ByteArray) (at_:Nat) (T:TG):Prop where
 pend:s.pend=opn
 n:s.n=at_
 t:∀ x,lkT T x=s.t x
 out:∀ x∈opn,s.t x=none
theorem LtInv.lab {s:LP} {opn:List ByteArray} {a:Nat} {T:TG} {p:PN} (h:LtInv s opn a T) (h2:p.kind=2) (hn:lkT T p.label=none):∃ s',lpStep s p=some s'∧LtInv s' (opn ++ [p.label]) a T:=by
 have e:(s.t p.label).isSome=false:=by rw [← h.t,hn];rfl
 refine ⟨{ s with pend:=s.pend ++ [p.label] },?_,⟨by rw [h.pend],h.n,h.t,fun x hx=>?_⟩⟩
 ·unfold lpStep
  rw [if_neg (by omega),if_pos h2,e];rfl
 ·rcases List.mem_append.1 hx with hx | hx
  ·exact h.out x hx
  ·obtain rfl:x=p.label:=by simpa using hx
   show s.t p.label=none
   rw [← h.t];exact hn
theorem LtInv.bad {s:LP} {opn:List ByteArray} {a:Nat} {T:TG} {p:PN} (h:LtInv s opn a T) (h2:p.kind=2) {b:Nat} (hn:lkT T p.label=some b):lpStep s p=none:=by
 have e:(s.t p.label).isSome=true:=by rw [← h.t,hn];rfl
 unfold lpStep
 rw [if_neg (by omega),if_pos h2,e];rfl
theorem lp_com {s:LP} {p:PN} (h1:p.kind≠1) (h2:p.kind≠2):lpStep s p=some s:=by
 unfold lpStep
 rw [if_neg h1,if_neg h2]
open Classical in
def PutInv (s:LP) (opn:List ByteArray) (j:Nat) (T:TG):Prop:=∀ x,lkT T x=if x∈opn.take j then some s.n else s.t x
theorem PutInv.step {s:LP} {opn:List ByteArray} {j:Nat} {T:TG} {x:ByteArray} (h:PutInv s opn j T) (ho:∀ x∈opn,s.t x=none) (hx:opn[j]? = some x) (k:Nat):PutInv s opn (j+1) (T.take k ++ (x,s.n) :: T.drop k):=by
 classical
 intro y
 rw [lkT_put k (fun v hv=>?_) y,take_snoc hx]
 ·by_cases e:y=x
  ·subst e;simp
  ·rw [if_neg e,h y]
   simp only [List.mem_append,List.mem_singleton,e,or_false]
 ·rw [h x] at hv
  split at hv
  ·injection hv with hv;exact hv.symm
  ·rw [ho x (List.mem_of_getElem? hx)] at hv;cases hv
theorem LtInv.ins {s:LP} {opn:List ByteArray} {a:Nat} {T T':TG} {p:PN} (h:LtInv s opn a T) (h1:p.kind=1) (hp:PutInv s opn opn.length T'):∃ s',lpStep s p=some s'∧LtInv s' [] (a+1) T':=by
 classical
 refine ⟨⟨fun x=>if x∈s.pend then some s.n else s.t x,[],s.n+1⟩,?_,⟨rfl,by show s.n+1=_;rw [h.n],fun x=>?_,by simp⟩⟩
 ·unfold lpStep
  rw [if_pos h1]
 ·have:=hp x
  rw [List.take_length] at this
  rw [this,h.pend]
def GivesLTs (w:World) (ns:List PN) (e:Ending) (w':World):Prop:=Fr nope w w' ∧
 ((∃ A c T s,e = .returned (.tuple #[.slice A T.length c,.bool true])∧TgAt w' A T∧T.length≤c∧T.length≤1048576∧lpRun ns=some s∧s.pend=[]∧∀ x,lkT T x=s.t x) ∨
  (e = .returned (.tuple #[.slice none 0 0,.bool false])∧∀ s,lpRun ns=some s→s.pend≠[]))
set_option maxHeartbeats 4000000 in
theorem LabelTargets_calls (w:World) (B:Nat) (s:SV) (ns:List PN) (hN:NodesAt w B s ns) (hok:ns.all okN=true):Calls Tryz.prog 34 #[s.val] w (GivesLTs w ns):=by
 have hO:=NodesOK_calls w B s ns hN
 unfold GivesB at hO
 rw [hok] at hO
 obtain ⟨A,n,c⟩:=s
 obtain rfl:n=ns.length:=hN.len
 have hfew:=hN.few
 simp only [SV.val] at hO ⊢
 go_enter Tryz.func34,Tryz.ntmps34
 go_wp2_with fail
 refine hO.mono ?_
 rintro e w1 ⟨rfl,hf1⟩
 have hN1:=hN.fr hf1 (fun _ _ x=>x)
 go_wp2
 go_loopg [2,4,5,15] ns.length (fun n c2 c4 c5 c15 wr=>∃ (k:Nat) (A2:Option Addr) (d2:Nat) (T:TG) (A4:Option Addr) (d4:Nat) (opn:List ByteArray) (a:Nat) (st:LP),k≤ns.length∧c15 = .int .i64 (k:Int)∧c5 = .int .i64 (a:Int)∧a≤k∧c4 = .slice A4 opn.length d4∧opn.length+T.length≤k∧c2 = .slice A2 T.length d2∧T.length≤d2 ∧
  wr.ownsRow w1.heap.size 9 1 (.slice A4 opn.length d4) opn.length (opn.map Value.string)∧TgAt wr A2 T∧Hid (lpRun (ns.take k)=some st∧LtInv st opn a T)∧Fr nope w1 wr∧n=ns.length - k)
 case atStart=>exact ⟨0,none,0,[],none,0,[],0,⟨fun _=>none,[],0⟩,Nat.zero_le _,rfl,rfl,Nat.le_refl _,rfl,Nat.le_refl _,rfl,Nat.le_refl _,own_nil _ _ _ _,Rw.nil _ _ _,Lib.hid ⟨rfl,⟨rfl,rfl,fun _=>rfl,by simp⟩⟩,Fr.refl _ _,rfl⟩
 case round=>
  obtain ⟨k,A2,d2,T,A4,d4,opn,a,st,hk,rfl,rfl,hak,rfl,hlen,rfl,hTd,hown,hT,hinv,hf,rfl⟩:=hrel
  have hsz:=hf.size
  have hsz1:=hf1.size
  by_cases hlt:k < ns.length
  ·obtain ⟨b,off,hAe,hbB,hbl,hc⟩:=(hN1.fr hf (fun _ _ x=>x)).row (by omega)
   simp only at hAe
   subst hAe
   obtain ⟨p,hpk⟩:∃ p,ns[k]? = some p:=⟨_,List.getElem?_eq_getElem hlt⟩
   have hc:=hc k p hpk
   have hstep:∀ st',lpStep st p=some st'→lpRun (ns.take (k+1))=some st':=fun st' h=>by
    rw [take_snoc hpk,lpRun_snoc,hinv.out.1];exact h
   have hbad:lpStep st p=none→lpRun ns=none:=fun h=>by
    have h1:lpRun (ns.take (k+1))=none:=by rw [take_snoc hpk,lpRun_snoc,hinv.out.1];exact h
    have:=lpRun_none h1 (ns.drop (k+1))
    rwa [List.take_append_drop] at this
   have hinv':=Lib.hid hinv.out.2
   replace hstep:=Lib.hid hstep
   replace hbad:=Lib.hid hbad
   clear hpk hinv hN hN1
   have hbo:=own_base hown
   obtain ⟨kind,label,⟨lA,ln,lc⟩,lines,ins⟩:=p
   by_cases k1:kind=1
   ·subst k1
    have hal:Hid (a=st.n):=Lib.hid hinv'.out.n.symm
    go_wp2_with (first
     | (refine wpList_load_mid rfl _ _ rfl b (off+k*13) rfl (PN.cells ⟨1,label,⟨lA,ln,lc⟩,lines,ins⟩).toList _ hc Tryz.underlying48 rfl (by kernel_rfl) ?_)
     | (refine wpList_storeRow (b:=wr.heap.size) (cells:=PN.cells ⟨1,label,⟨lA,ln,lc⟩,lines,ins⟩) rfl rfl rfl rfl (heap_alloc_new _ _) rfl (by kernel_rfl) (by kernel_rfl) ?_;intro w2 hb2 hf2;have hn2:Fr nope wr w2:=((Fr.refl nope wr).alloc _).then_new hf2 (fun x hx e=>by omega);have hcb0:=cell_of_row _ _ 0 _ _ (0,0) hb2;simp only [PN.cells,List.getElem?_toArray,List.getElem?_cons_zero] at hcb0))
    have hown2:=own_fr hown hn2 (fun _ _ x=>x)
    have hSl:=own_Sl hown2
    have hT2:=Rw.nope hT hn2
    have hf12:=hf.then hn2
    go_loopg [2,25] opn.length (fun m c2 c25 wq=>∃ (j:Nat) (A5:Option Addr) (d5:Nat) (T':TG),j≤opn.length∧c25 = .int .i64 (j:Int)∧c2 = .slice A5 T'.length d5∧T'.length≤d5∧Hid (T'.length=T.length+j)∧TgAt wq A5 T'∧Hid (PutInv st opn j T')∧Fr nope w2 wq∧m=opn.length - j)
    case atStart=>exact ⟨0,A2,d2,T,Nat.zero_le _,rfl,rfl,hTd,Lib.hid rfl,hT2,Lib.hid (fun x=>by rw [List.take_zero,if_neg (by simp)];exact hinv'.out.t x),Fr.refl _ _,rfl⟩
    case round=>
     obtain ⟨j,A5,d5,T',hj,rfl,rfl,hTd',hTl',hT',hput,hfq,rfl⟩:=hrel
     by_cases hjl:j < opn.length
     ·obtain ⟨b2,off2,u2,hA2,hbl2,hu2,hc2⟩:=(hSl.nope hfq).at_ hjl
      rw [List.getElem?_map] at hu2
      obtain ⟨z,hz,rfl⟩:=Option.map_eq_some_iff.1 hu2
      subst hA2
      have hps:=hput.out.step hinv'.out.out hz
      replace hps:=Lib.hid hps
      have hcall:=flowPut_calls wr A5 d5 T' z a hT' hTd' (by have:=hTl'.out;omega)
      clear hu2 hz
      go_wp2_with fail
      refine hcall.mono ?_
      rintro e w5 ⟨hf5,k5,A6,c6,hk5,hc6,rfl,hT6⟩
      have hlen6:(T'.take k5 ++ (z,a) :: T'.drop k5).length=T'.length+1:=by rw [List.length_append,List.length_take,List.length_cons,List.length_drop];omega
      have hp6:=hps.out k5
      rw [← hal.out] at hp6
      replace hp6:=Lib.hid hp6
      go_wp2
      go_roundg (opn.length - (j+1))
      case measure=>omega
      case rel=>exact ⟨j+1,A6,c6,_,by omega,by go_num,by rw [hlen6],by rw [hlen6];exact hc6,Lib.hid (by rw [hlen6,hTl'.out];omega),hT6,hp6,hfq.then hf5,rfl⟩
     ·obtain rfl:j=opn.length:=by omega
      obtain ⟨st',h1,h2⟩:=hinv'.out.ins (p:=⟨1,label,⟨lA,ln,lc⟩,lines,ins⟩) rfl hput.out
      have h3:=Lib.hid (And.intro (hstep.out st' h1) h2)
      clear h1 h2
      go_wp2
      go_roundg (ns.length - (k+1))
      case measure=>omega
      case rel=>exact ⟨k+1,A5,d5,T',none,0,[],a+1,st',by omega,by go_num,by go_num,by omega,rfl,by have:=hTl'.out;simp;omega,rfl,hTd',own_nil _ _ _ _,hT',h3,hf12.then hfq,rfl⟩
   by_cases k2:kind=2
   ·subst k2
    go_wp2_with (first
     | (refine wpList_load_mid rfl _ _ rfl b (off+k*13) rfl (PN.cells ⟨2,label,⟨lA,ln,lc⟩,lines,ins⟩).toList _ hc Tryz.underlying48 rfl (by kernel_rfl) ?_)
     | (refine wpList_storeRow (b:=wr.heap.size) (cells:=PN.cells ⟨2,label,⟨lA,ln,lc⟩,lines,ins⟩) rfl rfl rfl rfl (heap_alloc_new _ _) rfl (by kernel_rfl) (by kernel_rfl) ?_;intro w2 hb2 hf2;have hn2:Fr nope wr w2:=((Fr.refl nope wr).alloc _).then_new hf2 (fun x hx e=>by omega);have hcb0:=cell_of_row _ _ 0 _ _ (0,0) hb2;have hcb1:=cell_of_row _ _ 1 _ _ (0,0) hb2;simp only [PN.cells,List.getElem?_toArray,List.getElem?_cons_zero,List.getElem?_cons_succ] at hcb0 hcb1))
    have hown2:=own_fr hown hn2 (fun _ _ x=>x)
    have hT2:=Rw.nope hT hn2
    have hf12:=hf.then hn2
    have hn12:=hf1.then hf12
    have hsz2:=hn2.size
    refine (flowAt_calls w2 A2 d2 T label hT2 (by omega)).mono ?_
    rintro e w3 ⟨z,rfl,hz,hf3⟩
    rcases hz with ⟨rfl,hz⟩ | ⟨k',b',rfl,hz1,hz⟩
    ·obtain ⟨st',h1,h2⟩:=hinv'.out.lab (p:=⟨2,label,⟨lA,ln,lc⟩,lines,ins⟩) rfl hz
     have h3:=Lib.hid (And.intro (hstep.out st' h1) h2)
     have hown3:=own_fr hown2 hf3 (fun _ _ x=>x)
     have hT3:=Rw.nope hT2 hf3
     have hcb1:=hf3.cell hcb1 (fun x=>x)
     have hcb0:=hf3.cell hcb0 (fun x=>x)
     have hsz3:=hf3.size
     have hneg:¬(0:Int) ≤ -1:=by omega
     clear h1 h2 hz
     go_wp2_with (refine wpList_app (v:=.slice A4 opn.length d4) rfl rfl Tryz.underlying40 infoStr rfl (by omega) rfl (own_fr hown3 ((Fr.refl nope _).alloc _) (fun _ _ x=>x)) rfl (news:=[.string label]) rfl (one_new _ _ _ _ rfl) (by simp [Value.oneCell']) (by simp only [maxLen];omega) (by omega) (by simp;omega) ?hk)
     case hk=>
      intro v6 w6 hown6 hf6 hb6
      obtain ⟨A6,c6,rfl,_,_⟩:=own_slice hown6
      clear hb6
      have hS6:=NoT.own (T:=[72]) (own_fr hown3 ((Fr.refl nope _).alloc (.cells #[.string label] 9)) (fun _ _ x=>x)) (by decide)
      have hT6:=Rw.frT (Rw.nope hT3 ((Fr.refl nope _).alloc (.cells #[.string label] 9))) hf6 hS6 (by decide)
      have hfr6:Fr nope w w6:=((hn12.then hf3).alloc _).then_new hf6 (fun x hx e=>by have:=hbo x e;omega)
      have hfr1:Fr nope w1 w6:=((hf12.then hf3).alloc _).then_new hf6 (fun x hx e=>by have:=hbo x e;omega)
      go_wp2
      go_roundg (ns.length - (k+1))
      case measure=>omega
      case rel=>exact ⟨k+1,A2,d2,T,A6,c6,opn ++ [label],a,st',by omega,by go_num,rfl,by omega,by simp,by simp;omega,rfl,hTd,by simpa using hown6,hT6,h3,hfr1,rfl⟩
    ·have hb0:=hbad.out (hinv'.out.bad (p:=⟨2,label,⟨lA,ln,lc⟩,lines,ins⟩) rfl hz)
     replace hb0:=Lib.hid hb0
     have hpos:(0:Int)≤(k':Int):=by omega
     clear hz hz1
     go_wp2
     go_ret2
     exact ⟨hn12.then hf3,.inr ⟨rfl,fun s h=>by rw [hb0.out] at h;cases h⟩⟩
   ·have h3:=Lib.hid (And.intro (hstep.out st (lp_com (p:=⟨kind,label,⟨lA,ln,lc⟩,lines,ins⟩) k1 k2)) hinv'.out)
    go_wp2_with (first
     | (refine wpList_load_mid rfl _ _ rfl b (off+k*13) rfl (PN.cells ⟨kind,label,⟨lA,ln,lc⟩,lines,ins⟩).toList _ hc Tryz.underlying48 rfl (by kernel_rfl) ?_)
     | (refine wpList_storeRow (b:=wr.heap.size) (cells:=PN.cells ⟨kind,label,⟨lA,ln,lc⟩,lines,ins⟩) rfl rfl rfl rfl (heap_alloc_new _ _) rfl (by kernel_rfl) (by kernel_rfl) ?_;intro w2 hb2 hf2;have hn2:Fr nope wr w2:=((Fr.refl nope wr).alloc _).then_new hf2 (fun x hx e=>by omega);have hcb0:=cell_of_row _ _ 0 _ _ (0,0) hb2;simp only [PN.cells,List.getElem?_toArray,List.getElem?_cons_zero] at hcb0))
    go_roundg (ns.length - (k+1))
    case measure=>omega
    case rel=>exact ⟨k+1,A2,d2,T,A4,d4,opn,a,st,by omega,by go_num,rfl,by omega,rfl,by omega,rfl,hTd,own_fr hown hn2 (fun _ _ x=>x),Rw.nope hT hn2,h3,hf.then hn2,rfl⟩
  ·rw [take_all hlt] at hinv
   have hfin:lpRun ns=some st:=hinv.out.1
   have hi:=Lib.hid hinv.out.2
   replace hfin:=Lib.hid hfin
   cases opn with
   | nil=>
    simp only [List.length_nil]
    go_wp2
    go_ret2
    exact ⟨hf1.then hf,.inl ⟨A2,d2,T,st,rfl,hT,hTd,by omega,hfin.out,hi.out.pend,hi.out.t⟩⟩
   | cons y opn=>
    have hpos:(0:Int) < (((y :: opn).length:Nat):Int):=by simp
    generalize (y :: opn).length=m at hpos hlen
    go_wp2
    go_ret2
    exact ⟨hf1.then hf,.inr ⟨rfl,fun s h=>by rw [hfin.out] at h;injection h with h;rw [← h,hi.out.pend];simp⟩⟩
end
end Go.Proofs.YtbgblfiapecioaaGreat
