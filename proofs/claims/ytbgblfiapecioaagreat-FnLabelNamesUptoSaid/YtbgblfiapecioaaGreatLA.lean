/- What the flow, the liveness and the allocation give, in one form, whether there is a graph or not. -/
import Derived.Laws.CopyOwn
import Derived.BigQuiet
import Derived.Test.YtbgblfiapecioaaGreatP06
import Derived.Test.YtbgblfiapecioaaGreatP14
import Derived.Test.YtbgblfiapecioaaGreatP24
import Derived.Test.YtbgblfiapecioaaGreatP25
import Derived.Test.YtbgblfiapecioaaGreatP26
import Derived.Test.YtbgblfiapecioaaGreatP29
import Derived.Test.YtbgblfiapecioaaGreatP30
import Derived.Test.YtbgblfiapecioaaGreatP32
import Derived.Test.YtbgblfiapecioaaGreatP34
import Derived.Test.YtbgblfiapecioaaGreatP35
import Derived.Test.YtbgblfiapecioaaGreatP37
import Derived.Test.YtbgblfiapecioaaGreatP38
import Derived.Test.YtbgblfiapecioaaGreatP39
import Derived.Test.YtbgblfiapecioaaGreatP40
import Derived.Test.YtbgblfiapecioaaGreatP41
namespace Bth
section
open Go Go.RowKit
theorem fr_setRow (w:World) (g:Nat) (cs:Array Value):Fr (fun b=>b=g) w (w.setRow g cs):=⟨rfl,rfl,rfl,by simp [World.setRow],fun k _ hne=>setRow_other w g k cs (fun e=>hne e)⟩
theorem addr_add (b o j:Nat):(⟨b,o,none⟩:Addr).add j=⟨b,o+j,none⟩:=by unfold Addr.add;split<;>simp_all
theorem step_copy_fr {P:Program} {ops:Array Oper} {o:Oper} {a:Act} {w:World} {K:Act→World→Prop} {Q:Exit→Act→World→Prop} {E:Prop} (hgd:o.guard=none) (d s:Operand) (dT sT:TypeId)
  (ho:o.op = .call { callee:=.builtin .copy,args:=#[d,s],argTypes:=#[dT,sT] }) (elem:TypeId) (hu:P.underlying dT=some (.slice elem)) (hsz:(P.info? elem).map (·.size)=some 1)
  (dp sp:Option Addr) (dLen dCap sLen sCap:Nat) (hd:a.eval d = .slice dp dLen dCap) (hs:a.eval s = .slice sp sLen sCap)
  (g off:Nat) (cur:List Value) (t:TypeId) (hg:w.heap[g]? = some (.cells cur.toArray t (0,0))) (cs:List Value) (hn:cs.length=Nat.min sLen dLen)
  (hpos:0 < cs.length→dp=some ⟨g,off,none⟩∧∃ ad,sp=some ad∧∀ j v,cs[j]? = some v→w.cell? (ad.add j)=some v)
  (hfit:off+cs.length≤cur.length) (h1:∀ v∈cs,v.oneCell'=true)
  (h:∀ w',Hid (w'.heap[g]? = some (.cells (splice cur off cs).toArray t (0,0)))→Fr (fun b=>b=g) w w'→K (a.put o.dst (goInt cs.length)) w'):
  if Region.wanted o (yielded ops a.tmps)=true then Oper.wp P o a w K Q else E:=by
 have hw:Region.wanted o (yielded ops a.tmps)=true:=by simp [Region.wanted,hgd]
 rw [if_pos hw]
 by_cases h0:cs.length=0
 ·obtain rfl:cs=[]:=List.eq_nil_of_length_eq_zero h0
  have hrun:=run_copy_none (P:=P) w dT sT o.type elem dp sp dLen dCap sLen sCap hu hsz (by simpa using hn.symm)
  unfold Oper.wp
  simp [execOp,ho,resolve,invoke,builtin,hd,hs,hrun,Result.andThen]
  exact h w (show _=_ by simpa [splice] using hg) (Fr.refl _ w)
 ·obtain ⟨rfl,ad,rfl,hsrc⟩:=hpos (by omega)
  have hrun:=run_copy_row (P:=P) w dT sT o.type elem g off dLen dCap ad sLen sCap cur.toArray t cs hu hsz hg hn hsrc (by simpa using hfit) h1
  unfold Oper.wp
  simp [execOp,ho,resolve,invoke,builtin,hd,hs,hrun,Result.andThen]
  exact h _ (show _=_ by simpa [splice] using setRow_heap w g _ _ t _ hg) (fr_setRow w g _)
theorem splice_erase {α : Type} {xs cur:List α} {i:Nat} (z:α) (hx:cur.take xs.length=xs) (hi:i < xs.length):((splice cur i (xs.drop (i+1))).set (xs.length - 1) z).take (xs.length - 1)=xs.eraseIdx i∧(splice cur i (xs.drop (i+1))).length=cur.length:=by
 have hlc:xs.length≤cur.length:=by rw [← hx,List.length_take];omega
 have hd:(xs.drop (i+1)).length=xs.length - (i+1):=List.length_drop ..
 have hti:cur.take i=xs.take i:=by
  have:(cur.take xs.length).take i=xs.take i:=by rw [hx]
  rw [List.take_take,Nat.min_eq_left (by omega)] at this
  exact this
 have hl2:(splice cur i (xs.drop (i+1))).length=cur.length:=length_splice _ _ _ (by rw [hd];omega)
 refine ⟨?_,hl2⟩
 rw [List.take_set_of_le (Nat.le_refl _)]
 unfold splice
 have e1:(cur.take i).length=i:=by rw [List.length_take];omega
 rw [← List.append_assoc,List.take_append_of_le_length (by rw [List.length_append,e1,hd];omega),List.take_of_length_le (by rw [List.length_append,e1,hd];omega),hti,List.eraseIdx_eq_take_drop_succ]
end
end Bth
namespace Go.Proofs.YtbgblfiapecioaaGreat
section
open Go Go.RowKit Bth
set_option maxRecDepth 100000
theorem size_Node:(Tryz.prog.info? 122).map (·.size)=some 1:=by kernel_rfl
def putL0 (a:Act) (l:List (Nat × Value)):Act:=l.foldl (fun a x=>a.put (some x.1) x.2) a
noncomputable def dnReg:Array Oper:=findReg 2 (Tryz.f67.body.getD .skip)
noncomputable def oDN (i:Nat):Oper:=opAt dnReg i
theorem dnReg_get {i:Nat} (h:Nat.blt i 8=true):dnReg[i]? = some (oDN i):=opAt_get (by kernel_rfl) h
theorem slcDN (g n c i:Nat) (hi:i≤n) (w:World):(Instr.sliceAt 92 (.slice (some ⟨g,0,none⟩) n c) (some (.int .i64 (i:Int))) none none).run Tryz.prog w = .ok (.slice (if c=i then some ⟨g,0,none⟩ else some ⟨g,i,none⟩) (n - i) (c - i)) w:=by
 have h0:(0:Int)≤(i:Int):=by omega
 have h1:(i:Int)≤(n:Int):=by omega
 go_simp
set_option maxHeartbeats 2000000 in
theorem rgDN {a0:Act} {w:World} {Q:Exit→Act→World→Prop} {g n c i:Nat} {L cs:List Value}
  (h0:Bun a0 24 [(0,.slice (some ⟨g,0,none⟩) n c),(1,.int .i64 (i:Int))]) (hQ:∀ d v c a w,Q (.panic c) (a.put d v) w→Q (.panic c) a w)
  (hi:i < n) (hn:n≤1073741824) (hnc:n≤c) (hLl:L.length=c) (hcl:cs.length=n - (i+1)) (hh:w.heap[g]? = some (.cells L.toArray 122 (0,0))) (hcell:∀ (j:Nat) (u:Value),cs[j]? = some u→w.cell? ⟨g,i+1+j,none⟩=some u) (h1:∀ v∈cs,v.oneCell'=true)
  (h:∀ w' a,Hid (w'.heap[g]? = some (.cells (splice L i cs).toArray 122 (0,0)))→Fr (fun b=>b=g) w w'→(∃ x8 x9 x10 x11 x12 x13 x14 x15,a=putL0 a0 [(8,x8),(9,x9),(10,x10),(11,x11),(12,x12),(13,x13),(14,x14),(15,x15)])→Q .normal a w'):(Code.region 2 dnReg true).wp Tryz.prog Q a0 w:=by
 have hd:Fr nope w w.drew:=(Fr.refl nope w).drew
 refine wp_region_held_drew (S:=fun W=>Fr (fun b=>b=g) w W) (by kernel_rfl) hd.of_nope (fun hS0=>?_)
 rw [show dnReg.size=8 from by kernel_rfl]
 refine takeMv h0 hS0 hQ 0 8 0 _ (by unfold isB;kernel_rfl) (by kernel_rfl) rfl fun a0 e0 h0=>?_
 refine takeMv h0 hS0 hQ 1 9 1 _ (by unfold isB;kernel_rfl) (by kernel_rfl) rfl fun a1 e1 h0=>?_
 refine takeB h0 hS0 hQ 2 10 _ (.slice (if c=i then some ⟨g,0,none⟩ else some ⟨g,i,none⟩) (n - i) (c - i)) (show isB dnReg 2 10 (.slice 92 (.tmp 8) (some (.tmp 9)) none none) from by unfold isB;kernel_rfl) (by kernel_rfl) (fun o e w hw=>by have h1:=h0.at_ 8 _ rfl;have h2:=h0.at_ 9 _ rfl;have h3:=slcDN g n c i (by omega) w;simp only [execOp,e,Option.map_some,Option.map_none,h1,h2,h3,Sem.run_bind,Result.andThen_ok,Sem.run_pure]) fun a2 e2 h0=>?_
 refine takeMv h0 hS0 hQ 3 11 0 _ (by unfold isB;kernel_rfl) (by kernel_rfl) rfl fun a3 e3 h0=>?_
 refine takeMv h0 hS0 hQ 4 12 1 _ (by unfold isB;kernel_rfl) (by kernel_rfl) rfl fun a4 e4 h0=>?_
 refine takeB h0 hS0 hQ 5 13 _ (.int .i64 ((i+1:Nat):Int)) (show isB dnReg 5 13 (.binOp .add 3 (.tmp 12) (.const (.int .i64 1)) 3) from by unfold isB;kernel_rfl) (by kernel_rfl) (fun o e w hw=>by have h1:=h0.at_ 12 _ rfl;simp only [execOp,e,h1];go_simp;simp only [IntKind.wrap,IntKind.bits,IntKind.signed];simp;omega) fun a5 e5 h0=>?_
 refine takeB h0 hS0 hQ 6 14 _ (.slice (if c=i+1 then some ⟨g,0,none⟩ else some ⟨g,i+1,none⟩) (n - (i+1)) (c - (i+1))) (show isB dnReg 6 14 (.slice 92 (.tmp 11) (some (.tmp 13)) none none) from by unfold isB;kernel_rfl) (by kernel_rfl) (fun o e w hw=>by have h1:=h0.at_ 11 _ rfl;have h2:=h0.at_ 13 _ rfl;have h3:=slcDN g n c (i+1) hi w;simp only [execOp,e,Option.map_some,Option.map_none,h1,h2,h3,Sem.run_bind,Result.andThen_ok,Sem.run_pure]) fun a6 e6 h0=>?_
 refine wpAnyH_ready (rs:=[7]) (by kernel_rfl) (by simp) (AllReadyH.cons (o:=oDN 7) (dnReg_get rfl) (fun K hK=>?_) AllReadyH.nil)
 refine step_copy_fr (show (oDN 7).guard=none from by kernel_rfl) (.tmp 10) (.tmp 14) 92 92 (by kernel_rfl) 122 Tryz.underlying92 size_Node _ _ _ _ _ _ (h0.at_ 10 _ rfl) (h0.at_ 14 _ rfl) g i L 122 hh cs
  (by rw [hcl];exact (Nat.min_eq_left (by omega)).symm) (fun hp=>⟨if_neg (by omega),⟨g,i+1,none⟩,if_neg (by omega),fun j v hv=>by rw [addr_add];exact hd.cell (hcell j v hv) (fun x=>x)⟩) (by omega) h1 (fun w4 hg4 hf4=>?_)
 refine hK.out _ _ (hd.of_nope.then hf4) (fun hS0=>?_)
 rw [show (oDN 7).dst=some 15 from by kernel_rfl]
 refine wpAnyH_done (by kernel_rfl) (h w4 _ hg4 (hd.of_nope.then hf4) ?_) _
 subst e6 e5 e4 e3 e2 e1 e0
 exact ⟨_,_,_,_,_,_,_,_,rfl⟩
def GivesDel (w:World) (base:Nat) (A:Option Addr) (c n:Nat) (xs:List Value) (e:Ending) (w':World):Prop:=
 e = .returned (.slice A n c)∧w'.ownsRow base 122 1 (.slice A n c) n xs∧Fr (fun b=>(Value.slice A n c).ownBlock=some b) w w'
set_option maxHeartbeats 2000000 in
theorem deletenode_calls (w:World) (base c:Nat) (A:Option Addr) (xs:List Value) (i:Nat) (hown:w.ownsRow base 122 1 (.slice A xs.length c) xs.length xs) (hi:i < xs.length) (hl:xs.length≤1073741824) (h1:∀ v∈xs,v.oneCell'=true):
  Calls Tryz.prog 67 #[.slice A xs.length c,.int .i64 (i:Int)] w (GivesDel w base A c (xs.length - 1) (xs.eraseIdx i)):=by
 have hlen:=hown.1
 rcases hown.2 with ⟨h,_⟩ | ⟨g,cap,cur,hA,hb,hh,h3,h4,h5,h6⟩
 ·injection h with _ h;omega
 injection hA with hA _ hc
 subst hA hc
 obtain ⟨n,hn⟩:∃ n,n=xs.length:=⟨_,rfl⟩
 obtain ⟨cs,hcs⟩:∃ cs,cs=xs.drop (i+1):=⟨_,rfl⟩
 obtain ⟨L,hL⟩:∃ L,L=cur.toList:=⟨_,rfl⟩
 have hgl:=lt_of_heap hh
 have hLl:L.length=c:=by rw [hL,Array.length_toList];omega
 have hcl:cs.length=n - (i+1):=by rw [hcs,hn];exact List.length_drop ..
 have hxs:L.take xs.length=xs:=by rw [hL];simpa using h6
 have hcur:cur=L.toArray:=by rw [hL]
 have hcell:∀ j u,cs[j]? = some u→w.cell? ⟨g,i+1+j,none⟩=some u:=fun j u hu=>by
  rw [hcs,List.getElem?_drop] at hu
  have hlt:=(List.getElem?_eq_some_iff.1 hu).1
  rw [← hxs,List.getElem?_take_of_lt (by omega)] at hu
  rw [cell_of_row w g _ cur _ (0,0) hh,hcur]
  simpa using hu
 have h1c:∀ v∈cs,v.oneCell'=true:=fun v hv=>h1 v (by rw [hcs] at hv;exact List.mem_of_mem_drop hv)
 have hsp:=fun z:Value=>splice_erase z hxs hi
 rw [← hcs,← hn] at hsp
 rw [hcur] at hh
 rw [← hn]
 rw [← hn] at hi hl h3
 clear hown hcur h5 h6 hL hxs h1 hlen
 replace hcs:=Lib.hid hcs
 replace hn:=Lib.hid hn
 replace hsp:=Lib.hid hsp
 have hi0:(0:Int)≤(i:Int):=by omega
 have hin:(i:Int) < (n:Int):=by omega
 go_enter Tryz.func67,Tryz.ntmps67
 go_wp2
 refine rgDN (((Bun.nil rfl rfl).cons 1 rfl).cons 0 rfl) (fun d _ _ _ _ h=>by cases d<;>simpa [Exit.inBlock,Exit.then,bodyPost,Act.put] using h) hi hl h3 hLl hcl hh hcell h1c ?_
 rintro w4 a hg4 hf4 ⟨x8,x9,x10,x11,x12,x13,x14,x15,rfl⟩
 simp only [putL0,List.foldl_cons,List.foldl_nil,Act.put,List.setIfInBounds_toArray,List.set_cons_zero,List.set_cons_succ]
 obtain ⟨m,rfl⟩:∃ m,n=m+1:=⟨n - 1,by omega⟩
 have hg4':=hg4.out
 have hspl:=(hsp.out undef).2
 obtain ⟨Sp,hSp⟩:∃ Sp,Sp=splice L i cs:=⟨_,rfl⟩
 rw [← hSp] at hg4' hsp hspl
 have hcm:∃ z,w4.cell? ⟨g,m,none⟩=some z:=by
  refine ⟨Sp[m]'(by omega),?_⟩
  rw [cell_of_row w4 g m _ _ (0,0) hg4']
  simp
 obtain ⟨z,hcm⟩:=hcm
 have hzm:=frozen_row hg4' m
 have hmc:m≤c:=by omega
 have hm0:(0:Int)≤(m:Int):=by omega
 have hgl4:=lt_of_heap hg4'
 replace hg4':=Lib.hid hg4'
 replace hSp:=Lib.hid hSp
 clear hg4 hcell hh
 go_wp2
 go_ret
 have hst:Fr (fun b=>b=g) w4 (w4.setCell ⟨g,m,none⟩ .nilIface):=(Fr.refl (fun b=>b=g) w4).setCell (.inl rfl) _
 have hrow:=setCell_heap (k:=m) hg4'.out .nilIface
 refine ⟨rfl,⟨?_,.inr ⟨g,c,_,rfl,hb,hrow,hmc,h4,?_,?_⟩⟩,(hf4.then hst).mono fun x _ e=>by rw [e];rfl⟩
 ·rw [List.length_eraseIdx,if_pos (by rw [← hn.out];exact hi),← hn.out];omega
 ·simp;omega
 ·have:=(hsp.out .nilIface).1
  simp only [Nat.add_sub_cancel] at this
  simpa using this
end
section
open Go Go.RowKit Bth
set_option maxRecDepth 100000
section
variable {α : Type} {j lb:α → Option ByteArray}
theorem drop_two {l:List α} {i:Nat} {a b:α} (ha:l[i]? = some a) (hb:l[i+1]? = some b):l.drop i=a :: b :: l.drop (i+2):=by
 have h1:=(List.getElem?_eq_some_iff.1 ha)
 have h2:=(List.getElem?_eq_some_iff.1 hb)
 obtain ⟨l1,e1⟩:=h1
 obtain ⟨l2,e2⟩:=h2
 rw [List.drop_eq_getElem_cons l1,List.drop_eq_getElem_cons l2,e1,e2]
theorem drop_one {l:List α} {i:Nat} {a:α} (ha:l[i]? = some a):l.drop i=a :: l.drop (i+1):=by
 obtain ⟨l1,e1⟩:=List.getElem?_eq_some_iff.1 ha
 rw [List.drop_eq_getElem_cons l1,e1]
def PJ (j lb:α → Option ByteArray) (l0 l:List α) (i:Nat):Prop:=i≤l.length∧l.take i ++ pruneJ j lb (l.drop i)=pruneJ j lb l0∧(∀ x∈l,x∈l0)∧l.length≤l0.length
theorem PJ.start (l:List α):PJ j lb l l 0:=⟨Nat.zero_le _,rfl,fun _ h=>h,Nat.le_refl _⟩
theorem PJ.keep {l0 l:List α} {i:Nat} (h:PJ j lb l0 l i) {a b:α} (ha:l[i]? = some a) (hb:l[i+1]? = some b) (hn:¬(j a≠none∧j a=lb b)):PJ j lb l0 l (i+1):=by
 obtain ⟨h1,h2,h3,h4⟩:=h
 have hl:=(List.getElem?_eq_some_iff.1 hb).1
 refine ⟨by omega,?_,h3,h4⟩
 rw [drop_two ha hb] at h2
 rw [← h2]
 conv=>rhs;unfold pruneJ
 rw [if_neg hn,List.take_add_one,ha,drop_one hb]
 simp
theorem PJ.strike {l0 l:List α} {i:Nat} (h:PJ j lb l0 l i) {a b:α} (ha:l[i]? = some a) (hb:l[i+1]? = some b) (hy:j a≠none∧j a=lb b):PJ j lb l0 (l.eraseIdx i) i:=by
 obtain ⟨h1,h2,h3,h4⟩:=h
 have hl:=(List.getElem?_eq_some_iff.1 hb).1
 have e:l.eraseIdx i=l.take i ++ l.drop (i+1):=List.eraseIdx_eq_take_drop_succ ..
 have hlen:(l.take i).length=i:=by rw [List.length_take];omega
 refine ⟨by rw [e,List.length_append,hlen];omega,?_,fun x hx=>h3 x (List.mem_of_mem_eraseIdx hx),by rw [List.length_eraseIdx];split<;>omega⟩
 rw [drop_two ha hb] at h2
 rw [← h2]
 conv=>rhs;unfold pruneJ
 rw [if_pos hy,e,List.take_left' hlen,List.drop_left' hlen,drop_one hb]
theorem PJ.done {l0 l:List α} {i:Nat} (h:PJ j lb l0 l i) (hi:l.length≤i+1):l=pruneJ j lb l0:=by
 obtain ⟨h1,h2,_⟩:=h
 rw [← h2]
 have hd:(l.drop i).length≤1:=by rw [List.length_drop];omega
 have e:pruneJ j lb (l.drop i)=l.drop i:=by
  rcases hx:l.drop i with _ | ⟨a,_ | ⟨b,r⟩⟩
  ·rfl
  ·rfl
  ·rw [hx] at hd;simp at hd
 rw [e,List.take_append_drop]
def PL (P:α → Bool) (l0 l:List α) (i:Nat):Prop:=i≤l.length∧l.take i ++ (l.drop i).filter P=l0.filter P∧(∀ x∈l,x∈l0)∧l.length≤l0.length
theorem PL.start (P:α → Bool) (l:List α):PL P l l 0:=⟨Nat.zero_le _,rfl,fun _ h=>h,Nat.le_refl _⟩
theorem PL.keep {P:α → Bool} {l0 l:List α} {i:Nat} (h:PL P l0 l i) {a:α} (ha:l[i]? = some a) (hn:P a=true):PL P l0 l (i+1):=by
 obtain ⟨h1,h2,h3,h4⟩:=h
 have hl:=(List.getElem?_eq_some_iff.1 ha).1
 refine ⟨by omega,?_,h3,h4⟩
 rw [drop_one ha,List.filter_cons_of_pos hn] at h2
 rw [← h2,List.take_add_one,ha]
 simp
theorem PL.strike {P:α → Bool} {l0 l:List α} {i:Nat} (h:PL P l0 l i) {a:α} (ha:l[i]? = some a) (hy:P a=false):PL P l0 (l.eraseIdx i) i:=by
 obtain ⟨h1,h2,h3,h4⟩:=h
 have hl:=(List.getElem?_eq_some_iff.1 ha).1
 have e:l.eraseIdx i=l.take i ++ l.drop (i+1):=List.eraseIdx_eq_take_drop_succ ..
 have hlen:(l.take i).length=i:=by rw [List.length_take];omega
 refine ⟨by rw [e,List.length_append,hlen];omega,?_,fun x hx=>h3 x (List.mem_of_mem_eraseIdx hx),by rw [List.length_eraseIdx];split<;>omega⟩
 rw [drop_one ha,List.filter_cons_of_neg (by rw [hy];decide)] at h2
 rw [← h2,e,List.take_left' hlen,List.drop_left' hlen]
theorem PL.done {P:α → Bool} {l0 l:List α} {i:Nat} (h:PL P l0 l i) (hi:l.length≤i):l=l0.filter P:=by
 obtain ⟨h1,h2,_⟩:=h
 rw [← h2,List.drop_eq_nil_of_le hi,List.take_of_length_le hi]
 simp
def cntT (tgt:α → Option ByteArray) (l:List α) (s:ByteArray):Nat:=l.countP fun a=>decide (tgt a=some s)
theorem cntT_any (tgt:α → Option ByteArray) (l:List α) (s:ByteArray):(cntT tgt l s=0)↔l.any (fun b=>decide (tgt b=some s))=false:=by
 unfold cntT
 rw [List.countP_eq_zero,List.any_eq_false]
theorem cntT_take {tgt:α → Option ByteArray} {l:List α} {k:Nat} {a:α} (h:l[k]? = some a) (s:ByteArray):cntT tgt (l.take (k+1)) s=cntT tgt (l.take k) s+if tgt a=some s then 1 else 0:=by
 unfold cntT
 rw [take_snoc h,List.countP_append]
 by_cases e:tgt a=some s<;>simp [e]
theorem cntT_le (tgt:α → Option ByteArray) (l:List α) (s:ByteArray):cntT tgt l s≤l.length:=List.countP_le_length
end
end
section
open Go Go.RowKit Go.MapKept Bth
open Go.ChangeMaps (setBlock)
set_option maxRecDepth 100000
def GivesPr (w:World) (fb:Nat) (f:Fn) (l':List Nd) (e:Ending) (w':World):Prop:=
 e = .returned .nilIface∧∃ A c,FnAt w' fb { f with nodes:=.slice A l'.length c } ∧ w'.ownsRow (fb+1) 122 1 (.slice A l'.length c) l'.length (l'.map Nd.val)∧Fr (fun b=>b=fb∨f.nodes.ownBlock=some b) w w'
theorem nd_one (l:List Nd):∀ v∈l.map Nd.val,v.oneCell'=true:=fun v hv=>by
 obtain ⟨n,_,rfl⟩:=List.mem_map.1 hv
 cases n<;>rfl
theorem jmpD_ins {rs:List Rec} (hd:(rs.map (·.b)).Nodup) {r:Rec} (hr:r∈rs):jmpD rs (.ins r.b)=if r.i.br=true∧r.i.cond=false then targetOf true r.ops else none:=by
 show (recD rs r.b).bind _=_
 rw [recD_of hd hr]
 rfl
theorem tgtD_ins {rs:List Rec} (hd:(rs.map (·.b)).Nodup) {r:Rec} (hr:r∈rs):tgtD rs (.ins r.b)=if r.i.br=true then targetOf true r.ops else none:=by
 show (recD rs r.b).bind _=_
 rw [recD_of hd hr]
 rfl
theorem map_erase {α β : Type} (f:α → β) (l:List α) (i:Nat):(l.map f).eraseIdx i=(l.eraseIdx i).map f:=by
 simp [List.eraseIdx_eq_take_drop_succ,List.map_take,List.map_drop]
theorem mem_insOf {l:List Nd} {b:Nat} (h:Nd.ins b∈l):b∈insOf l:=List.mem_filterMap.2 ⟨_,h,rfl⟩
set_option maxHeartbeats 4000000 in
theorem PruneJ_calls (w:World) (fb:Nat) (f:Fn) (nds:List Nd) (rs:List Rec) (hfn:FnAt w fb f) (hno:w.ownsRow (fb+1) 122 1 f.nodes nds.length (nds.map Nd.val)) (hrs:∀ r∈rs,r.At w) (hd:(rs.map (·.b)).Nodup) (hio:∀ b∈insOf nds,∃ r∈rs,r.b=b) (hl:nds.length≤1048576):
  Calls Tryz.prog 38 #[ptr fb] w (GivesPr w fb f (pruneJ (jmpD rs) lblD nds)):=by
 have hNT:NoT recT w (fun b=>b=fb∨f.nodes.ownBlock=some b):=NoT.or (NoT.one hfn (by decide)) (NoT.own hno (by decide))
 have hrW:∀ W,Fr (fun b=>b=fb∨f.nodes.ownBlock=some b) w W→∀ r∈rs,r.At W:=fun W hW r hr=>(hrs r hr).frT hW hNT
 obtain ⟨A,c,hnn,_,_⟩:=own_slice hno
 obtain ⟨ob,hob⟩:∃ ob,ob=(fun b=>b=fb∨f.nodes.ownBlock=some b):=⟨_,rfl⟩
 have hobA:∀ b n,(Value.slice A n c).ownBlock=some b→ob b:=fun b n h=>by
  rw [hob]
  refine .inr ?_
  rw [hnn]
  cases A with
  | none=>cases h
  | some a=>exact h
 have hobf:ob fb:=by rw [hob];exact .inl rfl
 unfold GivesPr
 rw [← hob] at hrW ⊢
 have hfn0:FnAt w fb { f with nodes:=.slice A nds.length c }:=by rw [← hnn];exact hfn
 rw [hnn] at hno
 clear hNT hrs hfn
 replace hrW:=Lib.hid hrW
 replace hnn:=Lib.hid hnn
 replace hob:=Lib.hid hob
 replace hobA:=Lib.hid hobA
 replace hobf:=Lib.hid hobf
 replace hd:=Lib.hid hd
 replace hio:=Lib.hid hio
 unfold ptr
 go_enter Tryz.func38,Tryz.ntmps38
 go_wp2
 go_loopg [3] nds.length (fun n c3 wr=>∃ (i:Nat) (l:List Nd),c3 = .int .i64 (i:Int)∧Hid (PJ (jmpD rs) lblD nds l i)∧FnAt wr fb { f with nodes:=.slice A l.length c } ∧ wr.ownsRow (fb+1) 122 1 (.slice A l.length c) l.length (l.map Nd.val)∧Fr ob w wr∧n=l.length - i)
 case atStart=>exact ⟨0,nds,rfl,Lib.hid (PJ.start nds),hfn0,hno,Fr.refl _ _,rfl⟩
 case round=>
  obtain ⟨i,l,rfl,hPJ,hfq,hown,hf,rfl⟩:=hrel
  have hfbl:=lt_of_heap hfq
  have hcq:=fun j=>cell_of_row _ _ j _ _ (0,0) hfq
  have hzq:=frozen_row hfq
  simp only [Fn.cells] at hcq
  have hll:l.length≤1048576:=Nat.le_trans hPJ.out.2.2.2 hl
  by_cases hlt:i+1 < l.length
  ·obtain ⟨a,ha⟩:∃ a,l[i]? = some a:=⟨_,List.getElem?_eq_getElem (by omega)⟩
   obtain ⟨b,hb⟩:∃ b,l[i+1]? = some b:=⟨_,List.getElem?_eq_getElem hlt⟩
   obtain ⟨g,hAe,hgl,hcs⟩:=own_cells hown (by omega)
   have hc1:wr.cell? ⟨g,i,none⟩=some a.val:=hcs i _ (by rw [List.getElem?_map,ha];rfl)
   have hc2:wr.cell? ⟨g,i+1,none⟩=some b.val:=hcs (i+1) _ (by rw [List.getElem?_map,hb];rfl)
   have hkeep:=Lib.hid (fun hn=>hPJ.out.keep ha hb hn)
   have hstr:=Lib.hid (fun hn=>hPJ.out.strike ha hb hn)
   have hmem:=Lib.hid (fun x (e:a=Nd.ins x)=>hio.out x (mem_insOf (hPJ.out.2.2.1 _ (e ▸ List.mem_of_getElem? ha))))
   subst hAe
   clear hcs ha hb
   cases a with
   | label s=>
    have hta:=fun W=>ta_Ins_label W 122 (.string s)
    simp only [Nd.val] at hc1
    obtain ⟨T,v,hv⟩:=b.val_iface
    rw [hv] at hc2
    replace hv:=Lib.hid hv
    go_wp2
    go_roundg (l.length - (i+1))
    case measure=>omega
    case rel=>exact ⟨i+1,l,by go_num,Lib.hid (hkeep.out fun h=>h.1 rfl),hfq,hown,hf,rfl⟩
   | comment x=>
    have hta:=fun W=>ta_Ins_comment W 122 (.pointer (some ⟨x,0,none⟩))
    simp only [Nd.val] at hc1
    obtain ⟨T,v,hv⟩:=b.val_iface
    rw [hv] at hc2
    replace hv:=Lib.hid hv
    go_wp2
    go_roundg (l.length - (i+1))
    case measure=>omega
    case rel=>exact ⟨i+1,l,by go_num,Lib.hid (hkeep.out fun h=>h.1 rfl),hfq,hown,hf,rfl⟩
   | ins x=>
    obtain ⟨r,hr,rfl⟩:=hmem.out x rfl
    have hat:=hrW.out _ hf r hr
    have hx:=hat.opsAt
    have hbb:=hat.own.at_
    have htl:=Lib.hid (TargetLabel_none wr r.i r.ops hx)
    have htl2:=fun s=>Lib.hid (TargetLabel_some wr r.i r.ops s hx)
    have hj:=Lib.hid (jmpD_ins hd.out hr)
    have hta:=fun W=>ta_Ins_ins W 122 (.pointer (some ⟨r.b,0,none⟩))
    simp only [Nd.val] at hc1
    obtain ⟨rb,lo,hi,⟨opc,⟨ufA,ufn,ufc⟩,⟨oA,on,oc⟩,⟨iA,ino,ic⟩,⟨uA,un,uc⟩,term,br,cond,canc,⟨aA,an,ac⟩,⟨pA,pn,pc⟩,⟨sA,sn,scp⟩,lin,lout⟩,lops,linp,lout2,lsuf,lisa⟩:=r
    simp only at hbb hc1 hta hj hkeep hstr
    have hcb:=fun j=>cell_of_row _ _ j _ _ (0,0) hbb
    have hlb:=lt_of_heap hbb
    simp only [Ins.cells] at hcb
    clear hat hx hr hmem
    have hno2:¬(br=true∧cond=false)→jmpD rs (Nd.ins rb)=none:=fun h=>by rw [hj.out,if_neg h]
    replace hno2:=Lib.hid hno2
    cases br with
    | false=>
     obtain ⟨T,v,hv⟩:=b.val_iface
     rw [hv] at hc2
     replace hv:=Lib.hid hv
     go_wp2
     go_roundg (l.length - (i+1))
     case measure=>omega
     case rel=>exact ⟨i+1,l,by go_num,Lib.hid (hkeep.out fun h=>h.1 (hno2.out (by simp))),hfq,hown,hf,rfl⟩
    | true=>
    cases cond with
    | true=>
     obtain ⟨T,v,hv⟩:=b.val_iface
     rw [hv] at hc2
     replace hv:=Lib.hid hv
     go_wp2
     go_roundg (l.length - (i+1))
     case measure=>omega
     case rel=>exact ⟨i+1,l,by go_num,Lib.hid (hkeep.out fun h=>h.1 (hno2.out (by simp))),hfq,hown,hf,rfl⟩
    | false=>
    replace hj:Hid (jmpD rs (Nd.ins rb)=targetOf true lops):=Lib.hid (by rw [hj.out];exact if_pos ⟨rfl,rfl⟩)
    cases htg:targetOf true lops with
    | none=>
     obtain ⟨T,v,hv⟩:=b.val_iface
     rw [hv] at hc2
     replace hv:=Lib.hid hv
     go_wp2_with (refine wpList_loadRow (b:=rb) rfl rfl rfl hbb Tryz.underlying130 rfl (by kernel_rfl) ?_)
     refine (htl.out htg).mono ?_
     rintro e w2 ⟨rfl,hfu⟩
     replace htg:=Lib.hid htg
     go_wp2
     go_roundg (l.length - (i+1))
     case measure=>omega
     case rel=>exact ⟨i+1,l,by go_num,Lib.hid (hkeep.out fun h=>h.1 (by rw [hj.out,htg.out])),hfq.fr hfu (fun x=>x),own_fr hown hfu (fun _ _ x=>x),hf.then hfu.of_nope,rfl⟩
    | some s=>
     replace hj:Hid (jmpD rs (Nd.ins rb)=some s):=Lib.hid (by rw [hj.out,htg])
     cases b with
     | ins y=>
      have htb:=fun W=>ta_Label_ins W 122 (.pointer (some ⟨y,0,none⟩))
      simp only [Nd.val] at hc2
      go_wp2_with (refine wpList_loadRow (b:=rb) rfl rfl rfl hbb Tryz.underlying130 rfl (by kernel_rfl) ?_)
      refine ((htl2 s).out htg).mono ?_
      rintro e w2 ⟨lb,rfl,hlb2,hlc,hfu⟩
      replace htg:=Lib.hid htg
      go_wp2
      go_roundg (l.length - (i+1))
      case measure=>omega
      case rel=>exact ⟨i+1,l,by go_num,Lib.hid (hkeep.out fun h=>by have h2:=h.2;rw [hj.out] at h2;cases h2),hfq.fr hfu (fun x=>x),own_fr hown hfu (fun _ _ x=>x),hf.then hfu.of_nope,rfl⟩
     | comment y=>
      have htb:=fun W=>ta_Label_comment W 122 (.pointer (some ⟨y,0,none⟩))
      simp only [Nd.val] at hc2
      go_wp2_with (refine wpList_loadRow (b:=rb) rfl rfl rfl hbb Tryz.underlying130 rfl (by kernel_rfl) ?_)
      refine ((htl2 s).out htg).mono ?_
      rintro e w2 ⟨lb,rfl,hlb2,hlc,hfu⟩
      replace htg:=Lib.hid htg
      go_wp2
      go_roundg (l.length - (i+1))
      case measure=>omega
      case rel=>exact ⟨i+1,l,by go_num,Lib.hid (hkeep.out fun h=>by have h2:=h.2;rw [hj.out] at h2;cases h2),hfq.fr hfu (fun x=>x),own_fr hown hfu (fun _ _ x=>x),hf.then hfu.of_nope,rfl⟩
     | label y=>
      have htb:=fun W=>ta_Label_label W 122 (.string y)
      simp only [Nd.val] at hc2
      by_cases hys:y=s
      ·subst hys
       go_wp2_with (refine wpList_loadRow (b:=rb) rfl rfl rfl hbb Tryz.underlying130 rfl (by kernel_rfl) ?_)
       refine ((htl2 y).out htg).mono ?_
       rintro e w2 ⟨lb,rfl,hlb2,hlc,hfu⟩
       replace htg:=Lib.hid htg
       have hfq2:=hfq.fr hfu (fun x=>x)
       have hown2:=own_fr hown hfu (fun _ _ x=>x)
       have hcq2:=fun j=>cell_of_row _ _ j _ _ (0,0) hfq2
       simp only [Fn.cells] at hcq2
       have hfbl2:=lt_of_heap hfq2
       have hnb:¬(Value.slice (some ⟨g,0,none⟩) l.length c).ownBlock=some fb:=fun e=>by have:=own_base hown _ e;omega
       have hlm:(l.map Nd.val).length=l.length:=List.length_map ..
       have hDl:=deletenode_calls w2 (fb+1) c (some ⟨g,0,none⟩) (l.map Nd.val) i (by rw [hlm];exact hown2) (by rw [hlm];omega) (by rw [hlm];omega) (nd_one l)
       rw [hlm] at hDl
       clear hown hcq hzq hfq hcb
       replace hnb:=Lib.hid hnb
       replace hlm:=Lib.hid hlm
       go_wp2_with fail
       refine hDl.mono ?_
       rintro e w3 ⟨rfl,hown3,hf3⟩
       have hfq3:=hf3.heap hfq2 (fun e=>hnb.out e)
       have hcq3:=fun j=>cell_of_row _ _ j _ _ (0,0) hfq3
       have hzq3:=frozen_row hfq3
       have hfbl3:=lt_of_heap hfq3
       simp only [Fn.cells] at hcq3
       clear hcq2
       go_wp2
       have hst:Fr ob w3 (w3.setCell ⟨fb,5,none⟩ (.slice (some ⟨g,0,none⟩) (l.length - 1) c)):=(Fr.refl ob w3).setCell (.inl hobf.out) _
       have hel:(l.eraseIdx i).length=l.length - 1:=by rw [List.length_eraseIdx,if_pos (by omega)]
       go_roundg ((l.eraseIdx i).length - i)
       case measure=>omega
       case rel=>
        refine ⟨i,l.eraseIdx i,by go_num,Lib.hid (hstr.out ⟨by rw [hj.out];simp,hj.out⟩),?_,?_,((hf.then hfu.of_nope).then (hf3.mono fun x _ h=>hobA.out x _ h)).then hst,rfl⟩
        ·rw [hel];exact setCell_heap hfq3 _
        ·rw [hel,← map_erase]
         exact own_fr hown3 ((Fr.refl (fun x=>x=fb) w3).setCell (.inl rfl) _) (fun b hb e=>by have:=own_base hown3 b hb;omega)
      ·have hys2:(y.toList == s.toList)=false:=beq_eq_false_iff_ne.2 fun h=>hys (txt_inj h)
       go_wp2_with (refine wpList_loadRow (b:=rb) rfl rfl rfl hbb Tryz.underlying130 rfl (by kernel_rfl) ?_)
       refine ((htl2 s).out htg).mono ?_
       rintro e w2 ⟨lb,rfl,hlb2,hlc,hfu⟩
       replace htg:=Lib.hid htg
       go_wp2
       go_roundg (l.length - (i+1))
       case measure=>omega
       case rel=>exact ⟨i+1,l,by go_num,Lib.hid (hkeep.out fun h=>by have h2:=h.2;rw [hj.out] at h2;injection h2 with h2;exact hys h2.symm),hfq.fr hfu (fun x=>x),own_fr hown hfu (fun _ _ x=>x),hf.then hfu.of_nope,rfl⟩
  ·have he:=hPJ.out.done (by omega)
   have hlt':¬((i:Int)+1 < (l.length:Int)):=by omega
   have hib:i≤1048576:=Nat.le_trans hPJ.out.1 hll
   subst he
   go_wp2
   go_ret
   exact ⟨rfl,A,c,hfq,hown,hf⟩
def ctF (C:ByteArray→Nat) (s:ByteArray):Option Value:=if C s=0 then none else some (.int .i64 (C s:Int))
def CtM (w:World) (b:Nat) (C:ByteArray→Nat):Prop:=∃ ks,MapAt w b Value.string ks (ctF C)
theorem liT:Tryz.prog.underlying 143=some (.map 118 3):=Tryz.underlying143
theorem CtM.lt {w:World} {b:Nat} {C:ByteArray→Nat} (h:CtM w b C):b < w.heap.size:=by obtain ⟨ks,hm⟩:=h;exact hm.lt
theorem CtM.fr {T:Nat→Prop} {w w':World} {b:Nat} {C:ByteArray→Nat} (h:CtM w b C) (hf:Fr T w w') (hs:¬T b):CtM w' b C:=by obtain ⟨ks,hm⟩:=h;exact ⟨ks,hm.fr hf hs⟩
theorem CtM.made (w:World):CtM (w.alloc (.map #[] 0)) w.heap.size fun _=>0:=⟨[],MapAt.made w Value.string⟩
theorem CtM.look {w:World} {b:Nat} {C:ByteArray→Nat} (h:CtM w b C) (s:ByteArray):(Instr.lookup 143 (.map (some b)) (.string s) false).run Tryz.prog w = .ok (.int .i64 (C s:Int)) w:=by
 obtain ⟨ks,hm⟩:=h
 have:=hm.lookup labKey liT (zeroIn w) s false
 rw [this]
 simp only [Bool.false_eq_true,if_false,ctF]
 by_cases e:C s=0<;>simp [e]
def incB (C:ByteArray→Nat) (s:ByteArray):ByteArray→Nat:=fun x=>if x=s then C s+1 else C x
theorem CtM.put {w:World} {b:Nat} {C:ByteArray→Nat} (h:CtM w b C) (s:ByteArray):
  ∃ w',(Instr.mapUpdate 143 (.map (some b)) (.string s) (.int .i64 ((C s:Int)+1))).run Tryz.prog w = .ok () w'∧CtM w' b (incB C s)∧Fr (fun x=>x=b) w w'∧w'.heap.size=w.heap.size:=by
 obtain ⟨ks,hM⟩:=h
 obtain ⟨es,clock,h1,h2⟩:=hM.update labKey liT s (.int .i64 ((C s:Int)+1))
 have e:ctF (incB C s)=updM (ctF C) s (some (.int .i64 ((C s:Int)+1))):=by
  funext x
  unfold ctF incB updM
  by_cases e:x=s<;>simp [e]
 rw [← e] at h2
 exact ⟨setBlock w b (.map es clock),h1,⟨_,h2⟩,(Fr.refl (fun x=>x=b) w).setBlock (.inl rfl) _,by simp [setBlock]⟩
theorem cnt_none {rs:List Rec} {nds:List Nd} {k:Nat} {a:Nd} (h:nds[k]? = some a) (ht:tgtD rs a=none):cntT (tgtD rs) (nds.take (k+1))=cntT (tgtD rs) (nds.take k):=by
 funext s
 rw [cntT_take h,ht]
 simp
theorem cnt_some {rs:List Rec} {nds:List Nd} {k:Nat} {a:Nd} {t:ByteArray} (h:nds[k]? = some a) (ht:tgtD rs a=some t):cntT (tgtD rs) (nds.take (k+1))=incB (cntT (tgtD rs) (nds.take k)) t:=by
 funext s
 unfold incB
 rw [cntT_take h,ht]
 by_cases e:s=t
 ·rw [e,if_pos rfl,if_pos rfl]
 ·rw [if_neg e,if_neg (fun h=>e (by injection h with h;exact h.symm)),Nat.add_zero]
def keepP (rs:List Rec) (nds:List Nd) (a:Nd):Bool:=match lblD a with
 | none=>true
 | some s=>nds.any fun b=>decide (tgtD rs b=some s)
theorem keepP_label (rs:List Rec) (nds:List Nd) (s:ByteArray):(cntT (tgtD rs) nds s=0→keepP rs nds (.label s)=false)∧(cntT (tgtD rs) nds s≠0→keepP rs nds (.label s)=true):=by
 have h:=cntT_any (tgtD rs) nds s
 have e:keepP rs nds (.label s)=nds.any fun b=>decide (tgtD rs b=some s):=rfl
 rw [e]
 refine ⟨fun h0=>h.1 h0,fun h0=>?_⟩
 cases hx:nds.any fun b=>decide (tgtD rs b=some s) with
 | true=>rfl
 | false=>exact absurd (h.2 hx) h0
set_option maxHeartbeats 4000000 in
theorem PruneL_calls (w:World) (fb:Nat) (f:Fn) (nds:List Nd) (rs:List Rec) (hfn:FnAt w fb f) (hno:w.ownsRow (fb+1) 122 1 f.nodes nds.length (nds.map Nd.val)) (hrs:∀ r∈rs,r.At w) (hd:(rs.map (·.b)).Nodup) (hio:∀ b∈insOf nds,∃ r∈rs,r.b=b) (hl:nds.length≤1048576):
  Calls Tryz.prog 41 #[ptr fb] w (GivesPr w fb f (pruneL (tgtD rs) lblD nds)):=by
 obtain ⟨A,c,hnn,_,_⟩:=own_slice hno
 have hobt:=own_lt hno
 obtain ⟨ob,hob⟩:∃ ob,ob=(fun b=>b=fb∨f.nodes.ownBlock=some b):=⟨_,rfl⟩
 have hobA:∀ b n,(Value.slice A n c).ownBlock=some b→ob b:=fun b n h=>by
  rw [hob]
  refine .inr ?_
  rw [hnn]
  cases A with
  | none=>cases h
  | some a=>exact h
 have hobf:ob fb:=by rw [hob];exact .inl rfl
 have hfl:=lt_of_heap hfn
 have hoblt:¬ob w.heap.size:=fun h=>by
  rw [hob] at h
  rcases h with h | h
  ·omega
  ·have:=hobt _ h;omega
 unfold GivesPr
 rw [← hob,show pruneL (tgtD rs) lblD nds=nds.filter (keepP rs nds) from rfl]
 have hfn0:FnAt w fb { f with nodes:=.slice A nds.length c }:=by rw [← hnn];exact hfn
 rw [hnn] at hno
 have hSn:=own_Sl hno
 clear hfn hobt
 replace hrs:=Lib.hid hrs
 replace hnn:=Lib.hid hnn
 replace hob:=Lib.hid hob
 replace hobA:=Lib.hid hobA
 replace hobf:=Lib.hid hobf
 replace hoblt:=Lib.hid hoblt
 replace hd:=Lib.hid hd
 replace hio:=Lib.hid hio
 replace hno:=Lib.hid hno
 have hc5:=hfn0.c5
 simp only at hc5
 unfold ptr
 go_enter Tryz.func41,Tryz.ntmps41
 have hmm:=@run_makeMap Tryz.prog
 go_wp2
 go_loopg [19] nds.length (fun n c19 wr=>∃ k:Nat,k≤nds.length∧c19 = .int .i64 (k:Int)∧CtM wr w.heap.size (cntT (tgtD rs) (nds.take k))∧Fr nope w wr∧n=nds.length - k)
 case atStart=>exact ⟨0,Nat.zero_le _,rfl,CtM.made w,(Fr.refl nope w).alloc _,rfl⟩
 case round=>
  obtain ⟨k,hk,rfl,hM,hf,rfl⟩:=hrel
  by_cases hlt:k < nds.length
  ·obtain ⟨b,off,u,rfl,hbl,hu,hc⟩:=(hSn.nope hf).at_ hlt
   rw [List.getElem?_map] at hu
   obtain ⟨a,ha,rfl⟩:=Option.map_eq_some_iff.1 hu
   have hcn:=Lib.hid (fun h=>cnt_none (rs:=rs) ha h)
   have hcs:=Lib.hid (fun t h=>cnt_some (rs:=rs) (t:=t) ha h)
   have hmem:=Lib.hid (fun x (e:a=Nd.ins x)=>hio.out x (mem_insOf (e ▸ List.mem_of_getElem? ha)))
   have hcl:∀ s,(cntT (tgtD rs) (nds.take k) s:Int)≤1048576:=fun s=>by have:=cntT_le (tgtD rs) (nds.take k) s;rw [List.length_take] at this;omega
   clear hu ha
   cases a with
   | label s=>
    have hta:=fun W=>ta_Ins_label W 122 (.string s)
    simp only [Nd.val] at hc
    go_wp2
    go_roundg (nds.length - (k+1))
    case measure=>omega
    case rel=>exact ⟨k+1,by omega,by go_num,by rw [hcn.out rfl];exact hM,hf,rfl⟩
   | comment x=>
    have hta:=fun W=>ta_Ins_comment W 122 (.pointer (some ⟨x,0,none⟩))
    simp only [Nd.val] at hc
    go_wp2
    go_roundg (nds.length - (k+1))
    case measure=>omega
    case rel=>exact ⟨k+1,by omega,by go_num,by rw [hcn.out rfl];exact hM,hf,rfl⟩
   | ins x=>
    obtain ⟨r,hr,rfl⟩:=hmem.out x rfl
    have hat:=(hrs.out r hr).nope hf
    have hx:=hat.opsAt
    have hbb:=hat.own.at_
    have htl:=Lib.hid (TargetLabel_none wr r.i r.ops hx)
    have htl2:=fun s=>Lib.hid (TargetLabel_some wr r.i r.ops s hx)
    have hj:=Lib.hid (tgtD_ins hd.out hr)
    have hta:=fun W=>ta_Ins_ins W 122 (.pointer (some ⟨r.b,0,none⟩))
    simp only [Nd.val] at hc
    obtain ⟨rb,lo,hi,⟨opc,⟨ufA,ufn,ufc⟩,⟨oA,on,oc⟩,⟨iA,ino,ic⟩,⟨uA,un,uc⟩,term,br,cond,canc,⟨aA,an,ac⟩,⟨pA,pn,pc⟩,⟨sA,sn,scp⟩,lin,lout⟩,lops,linp,lout2,lsuf,lisa⟩:=r
    simp only at hbb hc hta hj hcn hcs
    have hcb:=fun j=>cell_of_row _ _ j _ _ (0,0) hbb
    have hlb:=lt_of_heap hbb
    simp only [Ins.cells] at hcb
    clear hat hx hr hmem
    cases br with
    | false=>
     go_wp2
     go_roundg (nds.length - (k+1))
     case measure=>omega
     case rel=>exact ⟨k+1,by omega,by go_num,by rw [hcn.out (by rw [hj.out];rfl)];exact hM,hf,rfl⟩
    | true=>
    replace hj:Hid (tgtD rs (Nd.ins rb)=targetOf true lops):=Lib.hid (by rw [hj.out];exact if_pos rfl)
    cases htg:targetOf true lops with
    | none=>
     go_wp2_with (refine wpList_loadRow (b:=rb) rfl rfl rfl hbb Tryz.underlying130 rfl (by kernel_rfl) ?_)
     refine (htl.out htg).mono ?_
     rintro e w2 ⟨rfl,hfu⟩
     replace htg:=Lib.hid htg
     go_wp2
     go_roundg (nds.length - (k+1))
     case measure=>omega
     case rel=>exact ⟨k+1,by omega,by go_num,by rw [hcn.out (by rw [hj.out,htg.out])];exact hM.fr hfu (fun x=>x),hf.then hfu,rfl⟩
    | some s=>
     go_wp2_with (refine wpList_loadRow (b:=rb) rfl rfl rfl hbb Tryz.underlying130 rfl (by kernel_rfl) ?_)
     refine ((htl2 s).out htg).mono ?_
     rintro e w2 ⟨lb,rfl,hlb2,hlc,hfu⟩
     replace htg:=Lib.hid htg
     have hM2:=hM.fr hfu (fun x=>x)
     have hml:=hM.lt
     have hlk:=hM2.look s
     obtain ⟨w5,hup,hM5,hf5,_⟩:=hM2.put s
     obtain ⟨z,hz⟩:∃ z:Int,z=(cntT (tgtD rs) (nds.take k) s:Int):=⟨_,rfl⟩
     have hz1:=hcl s
     have hz0:0≤z:=by omega
     rw [← hz] at hlk hup hz1
     have hwr:wrap64 (z+1)=z+1:=by unfold wrap64;omega
     replace hM5:=Lib.hid hM5
     replace hz:=Lib.hid hz
     clear hM2 hcl
     go_wp2
     go_roundg (nds.length - (k+1))
     case measure=>omega
     case rel=>exact ⟨k+1,by omega,by go_num,by rw [hcs.out s (by rw [hj.out,htg.out])];exact hM5.out,(hf.then hfu).then_new hf5 (fun x hx e=>by have e':x=w.heap.size:=e;omega),rfl⟩
  ·have e:nds.take k=nds:=List.take_of_length_le (by omega)
   rw [e] at hM
   have hfr:=hfn0.fr hf (fun x=>x)
   have hnr:=own_fr hno.out hf (fun _ _ x=>x)
   obtain ⟨C,hC⟩:∃ C,C=cntT (tgtD rs) nds:=⟨_,rfl⟩
   rw [← hC] at hM
   have hkl:=Lib.hid (keepP_label rs nds)
   rw [← hC] at hkl
   replace hC:=Lib.hid hC
   go_wp2
   go_loopg [9] nds.length (fun n c9 wx=>∃ (i:Nat) (l:List Nd),c9 = .int .i64 (i:Int)∧Hid (PL (keepP rs nds) nds l i)∧FnAt wx fb { f with nodes:=.slice A l.length c } ∧ wx.ownsRow (fb+1) 122 1 (.slice A l.length c) l.length (l.map Nd.val)∧CtM wx w.heap.size C∧Fr ob w wx∧n=l.length - i)
   case atStart=>exact ⟨0,nds,rfl,Lib.hid (PL.start _ nds),hfr,hnr,hM,hf.of_nope,rfl⟩
   case round=>
    clear hfr hnr hM hf
    obtain ⟨i,l,rfl,hPL,hfq,hown,hM,hf,rfl⟩:=hrel
    have hfbl:=lt_of_heap hfq
    have hcq:=fun j=>cell_of_row _ _ j _ _ (0,0) hfq
    have hzq:=frozen_row hfq
    simp only [Fn.cells] at hcq
    have hll:l.length≤1048576:=Nat.le_trans hPL.out.2.2.2 hl
    by_cases hlt2:i < l.length
    ·obtain ⟨a,ha⟩:∃ a,l[i]? = some a:=⟨_,List.getElem?_eq_getElem (by omega)⟩
     obtain ⟨g,hAe,hgl,hcs⟩:=own_cells hown (by omega)
     have hc1:wr.cell? ⟨g,i,none⟩=some a.val:=hcs i _ (by rw [List.getElem?_map,ha];rfl)
     have hkeep:=Lib.hid (fun hn=>hPL.out.keep ha hn)
     have hstr:=Lib.hid (fun hn=>hPL.out.strike ha hn)
     subst hAe
     clear hcs ha
     cases a with
     | ins x=>
      have hta:=fun W=>ta_Label_ins W 122 (.pointer (some ⟨x,0,none⟩))
      simp only [Nd.val] at hc1
      go_wp2
      go_roundg (l.length - (i+1))
      case measure=>omega
      case rel=>exact ⟨i+1,l,by go_num,Lib.hid (hkeep.out rfl),hfq,hown,hM,hf,rfl⟩
     | comment x=>
      have hta:=fun W=>ta_Label_comment W 122 (.pointer (some ⟨x,0,none⟩))
      simp only [Nd.val] at hc1
      go_wp2
      go_roundg (l.length - (i+1))
      case measure=>omega
      case rel=>exact ⟨i+1,l,by go_num,Lib.hid (hkeep.out rfl),hfq,hown,hM,hf,rfl⟩
     | label s=>
      have hta:=fun W=>ta_Label_label W 122 (.string s)
      simp only [Nd.val] at hc1
      have hlk:=hM.look s
      by_cases h0:C s=0
      ·rw [h0] at hlk
       have hfq2:=hfq
       have hnb:¬(Value.slice (some ⟨g,0,none⟩) l.length c).ownBlock=some fb:=fun e=>by have:=own_base hown _ e;omega
       have hgne:¬g=w.heap.size:=fun e=>hoblt.out (hobA.out w.heap.size l.length (by rw [← e];rfl))
       have hlm:(l.map Nd.val).length=l.length:=List.length_map ..
       have hDl:=deletenode_calls wr (fb+1) c (some ⟨g,0,none⟩) (l.map Nd.val) i (by rw [hlm];exact hown) (by rw [hlm];omega) (by rw [hlm];omega) (nd_one l)
       rw [hlm] at hDl
       replace h0:=Lib.hid h0
       replace hnb:=Lib.hid hnb
       replace hlm:=Lib.hid hlm
       replace hown:=Lib.hid hown
       go_wp2_with fail
       refine hDl.mono ?_
       rintro e w3 ⟨rfl,hown3,hf3⟩
       have hfq3:=hf3.heap hfq2 (fun e=>hnb.out e)
       have hcq3:=fun j=>cell_of_row _ _ j _ _ (0,0) hfq3
       have hzq3:=frozen_row hfq3
       have hfbl3:=lt_of_heap hfq3
       simp only [Fn.cells] at hcq3
       clear hcq hzq hfq hfq2 hlk
       have hM3:=hM.fr hf3 (fun e=>hgne (by injection e))
       go_wp2
       have hst:Fr ob w3 (w3.setCell ⟨fb,5,none⟩ (.slice (some ⟨g,0,none⟩) (l.length - 1) c)):=(Fr.refl ob w3).setCell (.inl hobf.out) _
       have hst2:Fr (fun x=>x=fb) w3 (w3.setCell ⟨fb,5,none⟩ (.slice (some ⟨g,0,none⟩) (l.length - 1) c)):=(Fr.refl (fun x=>x=fb) w3).setCell (.inl rfl) _
       have hel:(l.eraseIdx i).length=l.length - 1:=by rw [List.length_eraseIdx,if_pos (by omega)]
       go_roundg ((l.eraseIdx i).length - i)
       case measure=>omega
       case rel=>
        refine ⟨i,l.eraseIdx i,by go_num,Lib.hid (hstr.out ((hkl.out s).1 h0.out)),?_,?_,hM3.fr hst2 (fun e=>hoblt.out (by have e':w.heap.size=fb:=e;rw [e'];exact hobf.out)),(hf.then (hf3.mono fun x _ h=>hobA.out x _ h)).then hst,rfl⟩
        ·rw [hel];exact setCell_heap hfq3 _
        ·rw [hel,← map_erase]
         exact own_fr hown3 hst2 (fun b hb e=>by have:=own_base hown3 b hb;omega)
      ·have h0':¬((C s:Int)=0):=by omega
       go_wp2
       go_roundg (l.length - (i+1))
       case measure=>omega
       case rel=>exact ⟨i+1,l,by go_num,Lib.hid (hkeep.out ((hkl.out s).2 h0)),hfq,hown,hM,hf,rfl⟩
    ·have he:=hPL.out.done (by omega)
     subst he
     go_wp2
     go_ret
     exact ⟨rfl,A,c,hfq,hown,hf⟩
end
section
open Go Go.RowKit Go.MapKept Bth
set_option maxRecDepth 100000
theorem ndok_sub {w w0:World} {B:Nat} {fs:Nat→Option Nat} {s:SV} {ns:List PN} {nds nds':List Nd} {rs:List Rec} {cms:List (Nat × List ByteArray)} (hM:Mt fs ns nds rs cms) (hN:NodesAt w0 B s ns) (hs:∀ x∈nds',x∈nds) (hr:∀ r∈rs,r.At w):NdOk w nds' rs cms:=by
 refine ⟨fun b hbm=>?_,fun c hc=>hM.com.1 c (hs _ hc),fun r hr'=>?_,fun c hc=>?_,hr,fun r hr' o ho=>?_⟩
 ·have:=mem_insOf (hs _ hbm)
  rw [hM.insOf] at this
  obtain ⟨r,hr,e⟩:=List.mem_map.1 this
  exact ⟨r,hr,e⟩
 ·obtain ⟨p,hp,hm⟩:=hM.each hr'
  obtain ⟨q,hq,rfl⟩:=insP_mem hp
  have hf:=(hN.each q hq).ins.few
  have l0:=pOps_len hm.ops
  have l1:=pOps_len hm.inp
  have l2:=pOps_len hm.out
  exact ⟨by rw [hm.suf];exact hf.1,by omega,by omega,by omega,by rw [hm.isa];exact hf.2.2.2.2⟩
 ·obtain ⟨n,hn,e⟩:=hM.com.2 c hc
  rw [e]
  exact (hN.each n hn).few
 ·obtain ⟨p,hp,hm⟩:=hM.each hr'
  rcases ho with ho | ho | ho
  ·exact pOps_nn hm.ops o ho
  ·exact pOps_nn hm.inp o ho
  ·exact pOps_nn hm.out o ho
def GivesIP (w:World) (ns':List PN) (e:Ending) (w':World):Prop:=Fr nope w w'∧∃ A c xs,e = .returned (.tuple #[.slice A xs.length c,.bool true])∧NodesAt w' w'.heap.size ⟨A,xs.length,c⟩ xs∧F2 BackN ns' xs
set_option maxHeartbeats 2000000 in
theorem ImPJ_calls (w:World) (s:SV) (ns:List PN) (hN:NodesAt w w.heap.size s ns) (hok:ns.all okN=true):Calls Tryz.prog 12 #[.slice s.A s.n s.c] w (GivesIP w (pruneJ jmpN lblN ns)):=by
 have hfew:=hN.few
 go_enter Tryz.func12,Tryz.ntmps12
 go_wp2_with fail
 refine (newWorld_calls w).mono ?_
 rintro e w1 ⟨rfl,hW,hf1⟩
 have hN1:=hN.fr hf1 (fun _ _ x=>x)
 have hF:=function_calls w1 w.heap.size (fun _=>none) s ns hN1 hW
 have hl1:=hf1.size
 go_wp2_with fail
 refine hF.mono ?_
 rintro e w2 ⟨fs,hg,hW2,hf2,⟨fb,f,nds,rs,cms,hok',st,hfb,hbare,hfresh,rfl⟩ | ⟨hok',_⟩⟩
 rotate_left
 ·rw [hok] at hok';cases hok'
 have hwl:=lt_of_heap hW.1
 have hf02:Fr nope w w2:=hf1.then_new hf2 (fun x hx e=>by omega)
 have hsz2:=hf2.size
 have hnl:nds.length≤1048576:=by rw [st.mt.len];exact hfew
 have hnd:=st.toFB.nodup
 have hcu:=st.toFB.comUniq
 have hio:∀ b∈insOf nds,∃ r∈rs,r.b=b:=fun b hb=>by
  rw [st.mt.insOf] at hb
  obtain ⟨r,hr,e⟩:=List.mem_map.1 hb
  exact ⟨r,hr,e⟩
 have hP:=PruneJ_calls w2 fb f nds rs st.fn st.nodes (fun r hr=>(st.recs r hr).1) hnd hio hnl
 have hNT:NoT (141 :: recT) w2 (fun b=>b=fb∨f.nodes.ownBlock=some b):=NoT.or (NoT.one st.fn (by decide)) (NoT.own st.nodes (by decide))
 have hfl:=lt_of_heap st.fn
 have hown:=own_base st.nodes
 have hmt:=st.mt
 have hrecs:=st.recs
 have hcoms:=st.coms
 clear st hok' hfresh hF hbare
 replace hmt:=Lib.hid hmt
 replace hrecs:=Lib.hid hrecs
 replace hcoms:=Lib.hid hcoms
 replace hcu:=Lib.hid hcu
 replace hnd:=Lib.hid hnd
 replace hown:=Lib.hid hown
 replace hio:=Lib.hid hio
 unfold ptr at hP ⊢
 go_wp2_with fail
 refine hP.mono ?_
 rintro e w3 ⟨rfl,A3,c3,hfn3,hown3,hf3⟩
 have hsub:=pruneJ_sub (jmpD rs) lblD nds
 have hf03:Fr nope w w3:=hf02.then_new hf3 (fun x hx h=>by
  rcases h with h | h
  ·omega
  ·have:=hown.out x h;omega)
 have hPN:=plainNodes_calls w3 fb { f with nodes:=.slice A3 (pruneJ (jmpD rs) lblD nds).length c3 } (pruneJ (jmpD rs) lblD nds) rs cms hfn3 hown3 (fun c hc=>(hcoms.out c hc).frT hf3 hNT (by decide) (by decide))
  (ndok_sub hmt.out hN hsub.1 (fun r hr=>(hrecs.out r hr).1.frT hf3 (hNT.sub (by decide)))) (Nat.le_trans hsub.2 hnl)
 unfold ptr at hPN
 clear hfn3 hown3 hsub
 go_wp2_with fail
 refine hPN.mono ?_
 rintro e w4 ⟨hf4,A4,c4,xs,rfl,hnp,hN4⟩
 go_wp2
 go_ret2
 exact ⟨hf03.then hf4,A4,c4,xs,rfl,hN4,(back_prune hW2 hmt.out hnd.out hcu.out (fun n hn _=>PI.ok_of (hN.each n hn).ins)).1 xs hnp⟩
set_option maxHeartbeats 2000000 in
theorem ImPL_calls (w:World) (s:SV) (ns:List PN) (hN:NodesAt w w.heap.size s ns) (hok:ns.all okN=true):Calls Tryz.prog 14 #[.slice s.A s.n s.c] w (GivesIP w (pruneL tgtN lblN ns)):=by
 have hfew:=hN.few
 go_enter Tryz.func14,Tryz.ntmps14
 go_wp2_with fail
 refine (newWorld_calls w).mono ?_
 rintro e w1 ⟨rfl,hW,hf1⟩
 have hN1:=hN.fr hf1 (fun _ _ x=>x)
 have hF:=function_calls w1 w.heap.size (fun _=>none) s ns hN1 hW
 have hl1:=hf1.size
 go_wp2_with fail
 refine hF.mono ?_
 rintro e w2 ⟨fs,hg,hW2,hf2,⟨fb,f,nds,rs,cms,hok',st,hfb,hbare,hfresh,rfl⟩ | ⟨hok',_⟩⟩
 rotate_left
 ·rw [hok] at hok';cases hok'
 have hwl:=lt_of_heap hW.1
 have hf02:Fr nope w w2:=hf1.then_new hf2 (fun x hx e=>by omega)
 have hsz2:=hf2.size
 have hnl:nds.length≤1048576:=by rw [st.mt.len];exact hfew
 have hnd:=st.toFB.nodup
 have hcu:=st.toFB.comUniq
 have hio:∀ b∈insOf nds,∃ r∈rs,r.b=b:=fun b hb=>by
  rw [st.mt.insOf] at hb
  obtain ⟨r,hr,e⟩:=List.mem_map.1 hb
  exact ⟨r,hr,e⟩
 have hP:=PruneL_calls w2 fb f nds rs st.fn st.nodes (fun r hr=>(st.recs r hr).1) hnd hio hnl
 have hNT:NoT (141 :: recT) w2 (fun b=>b=fb∨f.nodes.ownBlock=some b):=NoT.or (NoT.one st.fn (by decide)) (NoT.own st.nodes (by decide))
 have hfl:=lt_of_heap st.fn
 have hown:=own_base st.nodes
 have hmt:=st.mt
 have hrecs:=st.recs
 have hcoms:=st.coms
 clear st hok' hfresh hF hbare
 replace hmt:=Lib.hid hmt
 replace hrecs:=Lib.hid hrecs
 replace hcoms:=Lib.hid hcoms
 replace hcu:=Lib.hid hcu
 replace hnd:=Lib.hid hnd
 replace hown:=Lib.hid hown
 replace hio:=Lib.hid hio
 unfold ptr at hP ⊢
 go_wp2_with fail
 refine hP.mono ?_
 rintro e w3 ⟨rfl,A3,c3,hfn3,hown3,hf3⟩
 have hsub:=pruneL_sub (tgtD rs) lblD nds
 have hf03:Fr nope w w3:=hf02.then_new hf3 (fun x hx h=>by
  rcases h with h | h
  ·omega
  ·have:=hown.out x h;omega)
 have hPN:=plainNodes_calls w3 fb { f with nodes:=.slice A3 (pruneL (tgtD rs) lblD nds).length c3 } (pruneL (tgtD rs) lblD nds) rs cms hfn3 hown3 (fun c hc=>(hcoms.out c hc).frT hf3 hNT (by decide) (by decide))
  (ndok_sub hmt.out hN hsub.1 (fun r hr=>(hrecs.out r hr).1.frT hf3 (hNT.sub (by decide)))) (Nat.le_trans hsub.2 hnl)
 unfold ptr at hPN
 clear hfn3 hown3 hsub
 go_wp2_with fail
 refine hPN.mono ?_
 rintro e w4 ⟨hf4,A4,c4,xs,rfl,hnp,hN4⟩
 go_wp2
 go_ret2
 exact ⟨hf03.then hf4,A4,c4,xs,rfl,hN4,(back_prune hW2 hmt.out hnd.out hcu.out (fun n hn _=>PI.ok_of (hN.each n hn).ins)).2 xs hnp⟩
end
section
open Go Go.RowKit Bth
set_option maxRecDepth 100000
def GivesCO (w:World) (ps:List PO) (e:Ending) (w':World):Prop:=Fr nope w w'∧∃ A c,e = .returned (.slice A ps.length c)∧w'.ownsRow w.heap.size 83 24 (.slice A ps.length c) ps.length (ps.flatMap PO.list)
theorem calP_list {p:PO} (h:p.kind=4):(calP qL p).list=p.list.set 22 (.string (qL p.label)):=by
 unfold calP
 rw [if_pos h]
 rfl
theorem calP_other {p:PO} (h:p.kind≠4):calP qL p=p:=if_neg h
theorem PO.list_one (p:PO):∀ u∈p.list,u.oneCell'=true:=fun u hu=>Array.all_eq_true_iff_forall_mem.1 (show p.cells.all (·.oneCell')=true from opCells_one _ _ _ _ _ _ _ _ _ _ _ _ _ _ _) u (by simpa [PO.list] using hu)
set_option maxHeartbeats 2000000 in
theorem calledOps_calls (w:World) (s:SV) (ps:List PO) (h:POsAt w s ps) (hl:ps.length≤1048576) (hq:∀ p∈ps,p.kind=4→p.label.size≤8388608):Calls Tryz.prog 28 #[s.val] w (GivesCO w (ps.map (calP qL))):=by
 obtain ⟨A,n,c⟩:=s
 have hps:=h
 obtain ⟨rfl,_⟩:n=ps.length∧_:=h
 simp only [SV.val]
 go_enter Tryz.func28,Tryz.ntmps28
 go_wp2
 go_loopg [3,8] ps.length (fun n c3 c8 wr=>∃ (k:Nat) (A2:Option Addr) (c2:Nat) (qs:List PO),k≤ps.length∧Hid (qs=(ps.take k).map (calP qL))∧qs.length=k∧c8 = .int .i64 (k:Int)∧c3 = .slice A2 qs.length c2∧wr.ownsRow w.heap.size 83 24 (.slice A2 qs.length c2) qs.length (qs.flatMap PO.list)∧Fr nope w wr∧n=ps.length - k)
 case atStart=>exact ⟨0,none,0,[],Nat.zero_le _,Lib.hid rfl,rfl,rfl,rfl,own_nil _ _ _ _,Fr.refl _ _,rfl⟩
 case round=>
  obtain ⟨k,A2,c2,qs,hk,hqs,hql,rfl,rfl,hown,hf,rfl⟩:=hrel
  have hsz:=hf.size
  have hql':qs.length≤1048576:=by omega
  replace hql:=Lib.hid hql
  by_cases hlt:k < ps.length
  ·obtain ⟨b,off,hAe,hbl,hc⟩:=(hps.nope hf).2 (by omega)
   simp only at hAe
   subst hAe
   obtain ⟨p,hpk⟩:∃ p,ps[k]? = some p:=⟨_,List.getElem?_eq_getElem hlt⟩
   have hr:wr.rangeAt b (off+k*24) p.list:=hc k p hpk
   have hT:=Lib.hid (calP_take (q:=qL) hpk)
   have hls:=hq p (List.mem_of_getElem? hpk)
   have hbo:=own_base hown
   have hcl4:=fun h=>calP_list (p:=p) h
   have hcln:=fun h=>calP_other (p:=p) h
   have hp0:p.list[0]? = some (.int .i64 p.kind):=rfl
   have hp22:p.list[22]? = some (.string p.label):=rfl
   have hpl:p.list.length=24:=rfl
   have hone:=p.list_one
   obtain ⟨pl,hple⟩:∃ pl,pl=p.list:=⟨_,rfl⟩
   obtain ⟨kd,hkd⟩:∃ kd,kd=p.kind:=⟨_,rfl⟩
   obtain ⟨lbl,hlbl⟩:∃ lbl,lbl=p.label:=⟨_,rfl⟩
   rw [← hple] at hr hp0 hp22 hpl hone hcl4
   rw [← hkd] at hp0 hcl4 hcln hls
   rw [← hlbl] at hp22 hcl4 hls
   replace hple:=Lib.hid hple
   replace hkd:=Lib.hid hkd
   replace hlbl:=Lib.hid hlbl
   have hpa:pl.toArray.size=24:=by simpa using hpl
   have hpo:pl.toArray.all (·.oneCell')=true:=by
    rw [Array.all_eq_true_iff_forall_mem]
    exact fun u hu=>hone u (by simpa using hu)
   have hi:(Tryz.prog.info? 83).map (·.size)=some pl.length:=by rw [hpl];kernel_rfl
   have hia:(Tryz.prog.info? 83).map (·.size)=some pl.toArray.size:=by rw [hpa];kernel_rfl
   replace hpl:=Lib.hid hpl
   replace hpa:=Lib.hid hpa
   clear hc hpk hps hq
   by_cases k4:kd=4
   ·have hcl:=Lib.hid (hcl4 k4)
    have hls':(lbl.size:Int)≤8388608:=by have:=hls k4;omega
    clear hcl4 hcln hls
    subst k4
    obtain ⟨xl,hxl⟩:∃ xl,xl=pl.set 22 (.string (qL lbl)):=⟨_,rfl⟩
    have hxlen:xl.length=24:=by rw [hxl,List.length_set];exact hpl.out
    have hxone:∀ u∈xl,u.oneCell'=true:=fun u hu=>by
     rw [hxl] at hu
     rcases List.mem_or_eq_of_mem_set hu with hu | rfl
     ·exact hone u hu
     ·rfl
    have hxi:(Tryz.prog.info? 83).map (·.size)=some xl.toArray.size:=by rw [List.size_toArray,hxlen];kernel_rfl
    have hxa:pl.toArray.setIfInBounds 22 (.string (qL lbl))=xl.toArray:=by rw [hxl];simp
    rw [← hxl] at hcl
    replace hxl:=Lib.hid hxl
    replace hxlen:=Lib.hid hxlen
    replace hxa:=Lib.hid hxa
    have h113:((⟨#[113]⟩:ByteArray).size:Int)≤8388608:=by decide
    have hadd:=fun W=>run_string_add (P:=Tryz.prog) (w:=W) ⟨#[113]⟩ lbl h113 hls'
    go_wp2_with (first
     | (refine wpList_load_mid rfl _ _ rfl b (off+k*24) rfl pl _ hr Tryz.underlying83 rfl hi ?_)
     | (refine wpList_storeRow (b:=wr.heap.size) (cells:=pl.toArray) rfl rfl rfl rfl (heap_alloc_new _ _) (show (24:Nat)=pl.toArray.size from hpa.out.symm) hia hpo ?_;intro w2 hb2 hf2;have hn2:Fr nope wr w2:=((Fr.refl nope wr).alloc _).then_new hf2 (fun x hx e=>by omega);have hcb:w2.cell? ⟨wr.heap.size,0,none⟩=some (.int .i64 4):=(by rw [cell_of_row _ _ 0 _ _ (0,0) hb2];simpa using hp0);have hcl22:w2.cell? ⟨wr.heap.size,22,none⟩=some (.string lbl):=(by rw [cell_of_row _ _ 22 _ _ (0,0) hb2];simpa using hp22);have hz2:w2.frozen? ⟨wr.heap.size,22,none⟩=false:=frozen_row hb2 22;have hlb2:=lt_of_heap hb2)
     | (have hb3:=setCell_heap (k:=22) hb2 (.string (qL lbl));rw [hxa.out] at hb3;have hn3:Fr nope wr (w2.setCell ⟨wr.heap.size,22,none⟩ (.string (qL lbl))):=hn2.setCell (.inr (Nat.le_refl _)) _;refine wpList_loadRow (b:=wr.heap.size) (cells:=xl.toArray) rfl rfl rfl hb3 Tryz.underlying83 rfl hxi ?_)
     | (refine wpList_build1 (l:=xl) (z:=.agg (opCells 0 g0 false false g0 g0 0 0 e0 false 0 0 e0 e0 0)) rfl rfl rfl Tryz.underlying44 infoPOp hxlen.out (by omega) (by decide) ?_)
     | refine wpList_app (v:=.slice A2 qs.length c2) rfl rfl Tryz.underlying44 infoPOp rfl (by omega) rfl (own_fr (own_fr hown hn3 (fun _ _ x=>x)) ((Fr.refl nope _).alloc _) (fun _ _ x=>x)) rfl (news:=xl) (by rw [hxlen.out]) (fun _=>cells_new _ _ _ _ (by simp)) hxone (by simp only [maxLen];omega) (by omega) (by have:=hn3.size;simp;omega) ?hk)
    case hk=>
     intro v4 w4 hown4 hf4 hb4
     obtain ⟨A4,c4,rfl,_,_⟩:=own_slice hown4
     clear hb4
     go_wp2
     go_roundg (ps.length - (k+1))
     case measure=>omega
     case rel=>exact ⟨k+1,A4,c4,qs ++ [calP qL p],by omega,Lib.hid (by rw [hT.out,← hqs.out]),by rw [List.length_append,hql.out];rfl,by go_num,by rw [List.length_append];rfl,by rw [List.flatMap_append,List.length_append,List.flatMap_cons,hcl.out];simpa using hown4,((hf.then hn3).alloc _).then_new hf4 (fun x hx e=>by have:=hbo x e;omega),rfl⟩
   ·have hcx:=Lib.hid (hcln k4)
    have hk4:¬(kd=4):=k4
    clear hcl4 hcln hls
    go_wp2_with (first
     | (refine wpList_load_mid rfl _ _ rfl b (off+k*24) rfl pl _ hr Tryz.underlying83 rfl hi ?_)
     | (refine wpList_storeRow (b:=wr.heap.size) (cells:=pl.toArray) rfl rfl rfl rfl (heap_alloc_new _ _) (show (24:Nat)=pl.toArray.size from hpa.out.symm) hia hpo ?_;intro w2 hb2 hf2;have hn2:Fr nope wr w2:=((Fr.refl nope wr).alloc _).then_new hf2 (fun x hx e=>by omega);have hcb:w2.cell? ⟨wr.heap.size,0,none⟩=some (.int .i64 kd):=(by rw [cell_of_row _ _ 0 _ _ (0,0) hb2];simpa using hp0);have hlb2:=lt_of_heap hb2)
     | (refine wpList_loadRow (b:=wr.heap.size) (cells:=pl.toArray) rfl rfl rfl hb2 Tryz.underlying83 rfl hia ?_)
     | (refine wpList_build1 (l:=pl) (z:=.agg (opCells 0 g0 false false g0 g0 0 0 e0 false 0 0 e0 e0 0)) rfl rfl rfl Tryz.underlying44 infoPOp hpl.out (by omega) (by decide) ?_)
     | refine wpList_app (v:=.slice A2 qs.length c2) rfl rfl Tryz.underlying44 infoPOp rfl (by omega) rfl (own_fr (own_fr hown hn2 (fun _ _ x=>x)) ((Fr.refl nope _).alloc _) (fun _ _ x=>x)) rfl (news:=pl) (by rw [hpl.out]) (fun _=>cells_new _ _ _ _ (by simp)) hone (by simp only [maxLen];omega) (by omega) (by have:=hn2.size;simp;omega) ?hk)
    case hk=>
     intro v4 w4 hown4 hf4 hb4
     obtain ⟨A4,c4,rfl,_,_⟩:=own_slice hown4
     clear hb4
     go_wp2
     go_roundg (ps.length - (k+1))
     case measure=>omega
     case rel=>exact ⟨k+1,A4,c4,qs ++ [calP qL p],by omega,Lib.hid (by rw [hT.out,← hqs.out]),by rw [List.length_append,hql.out];rfl,by go_num,by rw [List.length_append];rfl,by rw [List.flatMap_append,List.length_append,List.flatMap_cons,hcx.out,← hple.out];simpa using hown4,((hf.then hn2).alloc _).then_new hf4 (fun x hx e=>by have:=hbo x e;omega),rfl⟩
  ·rw [take_all hlt] at hqs
   have e:=hqs.out
   subst e
   have hlm:(ps.map (calP qL)).length=ps.length:=List.length_map ..
   rw [hlm] at hown ⊢
   replace hlm:=Lib.hid hlm
   go_wp2
   go_ret
   exact ⟨hf,A2,c2,by rw [hlm.out];rfl,by rw [hlm.out];exact hown⟩
end
section
open Go Go.RowKit Bth
set_option maxRecDepth 100000
theorem noneT_ab {T:List Nat} {listed:Array Bool} (h:(T.all fun t=>!(listed.getD t true))=false):¬noneT T listed:=fun hn=>by
 have:(T.all fun t=>!(listed.getD t true))=true:=List.all_eq_true.2 fun t ht=>by simpa using hn t ht
 rw [h] at this;cases this
theorem wp_store1 {P:Program} {op:Oper} {a:Act} {w:World} {K:Act→World→Prop} {Q:Exit→Act→World→Prop} {ty:TypeId} {x y:Operand} (ho:op.op = .store ty x y) {p:Addr} {v:Value} (hx:a.eval x = .pointer (some p)) (hy:a.eval y=v)
  (hr:(Go.Instr.storeAt ty (.pointer (some p)) v).run P w = .ok () (w.setCell p v)) (h:K (a.put op.dst undef) (w.setCell p v)):op.wp P a w K Q:=by
 unfold Oper.wp execOp
 simp only [ho,hx,hy,Sem.run_bind,Sem.run_pure,hr,Result.andThen_ok]
 exact h
theorem takeSt1 {P:Program} {ops:Array Oper} {Q:Exit→Act→World→Prop} {S:World→Prop} {T:List Nat} {fuel n:Nat} {listed:Array Bool} {a:Act} {w:World} {l:List (Nat × Value)} (h:Bun a n l) (i x y:Nat) (ty:TypeId) (p:Addr) (v:Value)
  (hr:Region.ready .any ops listed=[i]) (ho:(ops[i]?.map fun o=>(o.op,o.dst,o.guard))=some (.store ty (.tmp x) (.tmp y),none,none)) (hx:lkB l x=some (.pointer (some p))) (hy:lkB l y=some v)
  (hs:(Go.Instr.storeAt ty (.pointer (some p)) v).run P w = .ok () (w.setCell p v)) (hT:(T.all fun t=>!((listed.setIfInBounds i true).getD t true))=false)
  (next:wpAnyT P ops Q S T fuel (listed.setIfInBounds i true) a (w.setCell p v)):wpAnyT P ops Q S T (fuel+1) listed a w:=by
 obtain ⟨oo,ho1,ho2⟩:=Option.map_eq_some_iff.1 ho
 simp only [Prod.mk.injEq] at ho2
 obtain ⟨h2,h3,h4⟩:=ho2
 refine wpAnyT_next hr ho1 h4 fun K hK=>?_
 refine wp_store1 h2 (h.at_ x _ hx) (h.at_ y _ hy) hs ?_
 rw [h3]
 refine hK.out _ _ (fun hn=>?_) next
 have:(T.all fun t=>!((listed.setIfInBounds i true).getD t true))=true:=List.all_eq_true.2 fun t ht=>by simpa using hn t ht
 rw [hT] at this
 cases this
noncomputable def clReg:Array Oper:=findReg 8 (Tryz.f8.body.getD .skip)
theorem fldN3 (b:Nat) (w:World):(Instr.fieldAt 48 (.pointer (some ⟨b,0,none⟩)) 3).run Tryz.prog w = .ok (.pointer (some ⟨b,3,none⟩)) w:=by go_simp
theorem fldI2 (b:Nat) (w:World):(Instr.fieldAt 46 (.pointer (some ⟨b,3,none⟩)) 2).run Tryz.prog w = .ok (.pointer (some ⟨b,5,none⟩)) w:=by go_simp
theorem fldI3 (b:Nat) (w:World):(Instr.fieldAt 46 (.pointer (some ⟨b,3,none⟩)) 3).run Tryz.prog w = .ok (.pointer (some ⟨b,6,none⟩)) w:=by go_simp
theorem fldI4 (b:Nat) (w:World):(Instr.fieldAt 46 (.pointer (some ⟨b,3,none⟩)) 4).run Tryz.prog w = .ok (.pointer (some ⟨b,7,none⟩)) w:=by go_simp
theorem stOps {w:World} {b o:Nat} {u v:Value} {A:Option Addr} {n c:Nat} (hu:w.cell? ⟨b,o,none⟩=some u) (hz:w.frozen? ⟨b,o,none⟩=false) (hv:v = .slice A n c):(Go.Instr.storeAt 44 (.pointer (some ⟨b,o,none⟩)) v).run Tryz.prog w = .ok () (w.setCell ⟨b,o,none⟩ v):=by
 subst hv
 go_simp
set_option maxHeartbeats 4000000 in
theorem rgCL {a0:Act} {w:World} {Q:Exit→Act→World→Prop} {S:World→Prop} {R1:Value→World→Prop} {R2:Value→Value→World→Prop} {R3:Value→Value→Value→World→Prop} {bv:Nat} {v5 v6 v7:Value}
  (h0:Bun a0 46 [(5,.pointer (some ⟨bv,0,none⟩))]) (hQ:∀ d v c a w,Q (.panic c) (a.put d v) w→Q (.panic c) a w)
  (hS0:S w.drew) (hS:∀ w,S w→w.cell? ⟨bv,5,none⟩=some v5∧w.cell? ⟨bv,6,none⟩=some v6∧w.cell? ⟨bv,7,none⟩=some v7)
  (hc1:Calls Tryz.prog 28 #[v5] w.drew fun e w'=>∃ u,e = .returned u∧R1 u w'∧S w')
  (hc2:∀ u w1,R1 u w1→Calls Tryz.prog 28 #[v6] w1 fun e w'=>∃ u',e = .returned u'∧R2 u u' w'∧S w')
  (hc3:∀ u u' w2,R2 u u' w2→Calls Tryz.prog 28 #[v7] w2 fun e w'=>∃ u'',e = .returned u''∧R3 u u' u'' w'∧S w')
  (hst:∀ u u' u'' w3,R3 u u' u'' w3→(Go.Instr.storeAt 44 (.pointer (some ⟨bv,5,none⟩)) u).run Tryz.prog w3 = .ok () (w3.setCell ⟨bv,5,none⟩ u)∧(Go.Instr.storeAt 44 (.pointer (some ⟨bv,6,none⟩)) u').run Tryz.prog (w3.setCell ⟨bv,5,none⟩ u) = .ok () ((w3.setCell ⟨bv,5,none⟩ u).setCell ⟨bv,6,none⟩ u')∧(Go.Instr.storeAt 44 (.pointer (some ⟨bv,7,none⟩)) u'').run Tryz.prog ((w3.setCell ⟨bv,5,none⟩ u).setCell ⟨bv,6,none⟩ u') = .ok () (((w3.setCell ⟨bv,5,none⟩ u).setCell ⟨bv,6,none⟩ u').setCell ⟨bv,7,none⟩ u''))
  (h:∀ u u' u'' w3 a,R3 u u' u'' w3→(∃ x22 x23 x24 x26 x27 x28 x30 x31 x32 x25 x34 x35 x29 x33 x36 x37 x38 x39,a=putL a0 [(22,x22),(23,x23),(24,x24),(26,x26),(27,x27),(28,x28),(30,x30),(31,x31),(32,x32),(25,x25),(34,x34),(35,x35),(29,x29),(33,x33),(36,x36),(37,x37),(38,x38),(39,x39)])→Q .normal a (((w3.setCell ⟨bv,5,none⟩ u).setCell ⟨bv,6,none⟩ u').setCell ⟨bv,7,none⟩ u'')):(Code.region 8 clReg true).wp Tryz.prog Q a0 w:=by
 refine wp_region_T (S:=S) (T:=[14,17,20]) (by kernel_rfl) ?_
 rw [show clReg.size=21 from by kernel_rfl]
 have hT:∀ {l:Array Bool},noneT [14,17,20] l→S w.drew:=fun _=>hS0
 refine takeF h0 hT hQ 0 22 5 3 48 ⟨bv,0,none⟩ ⟨bv,3,none⟩ (by unfold isB;kernel_rfl) (by kernel_rfl) rfl (fldN3 bv) fun a0 e0 h0=>?_
 refine takeF h0 hT hQ 1 23 22 2 46 ⟨bv,3,none⟩ ⟨bv,5,none⟩ (by unfold isB;kernel_rfl) (by kernel_rfl) rfl (fldI2 bv) fun a1 e1 h0=>?_
 refine takeC h0 hS0 hQ 2 24 23 44 _ v5 (by unfold isB;kernel_rfl) (by kernel_rfl) rfl (fun w hw=>by have hc:=(hS w hw).1;go_simp) fun a2 e2 h0=>?_
 refine takeF h0 hT hQ 4 26 5 3 48 ⟨bv,0,none⟩ ⟨bv,3,none⟩ (by unfold isB;kernel_rfl) (by kernel_rfl) rfl (fldN3 bv) fun a4 e4 h0=>?_
 refine takeF h0 hT hQ 5 27 26 3 46 ⟨bv,3,none⟩ ⟨bv,6,none⟩ (by unfold isB;kernel_rfl) (by kernel_rfl) rfl (fldI3 bv) fun a5 e5 h0=>?_
 refine takeC h0 hS0 hQ 6 28 27 44 _ v6 (by unfold isB;kernel_rfl) (by kernel_rfl) rfl (fun w hw=>by have hc:=(hS w hw).2.1;go_simp) fun a6 e6 h0=>?_
 refine takeF h0 hT hQ 8 30 5 3 48 ⟨bv,0,none⟩ ⟨bv,3,none⟩ (by unfold isB;kernel_rfl) (by kernel_rfl) rfl (fldN3 bv) fun a8 e8 h0=>?_
 refine takeF h0 hT hQ 9 31 30 4 46 ⟨bv,3,none⟩ ⟨bv,7,none⟩ (by unfold isB;kernel_rfl) (by kernel_rfl) rfl (fldI4 bv) fun a9 e9 h0=>?_
 refine takeC h0 hS0 hQ 10 32 31 44 _ v7 (by unfold isB;kernel_rfl) (by kernel_rfl) rfl (fun w hw=>by have hc:=(hS w hw).2.2;go_simp) fun a10 e10 h0=>?_
 refine takeCall h0 3 25 28 [24] #[44] [v5] (fun v W=>R1 v W∧S W) (by kernel_rfl) (by unfold isB;kernel_rfl) (by kernel_rfl) Tryz.func28 (by kernel_rfl) (by kernel_rfl) rfl ((hc1).mono fun e w' h=>h) ?_
 rintro a3 u1 w1 ⟨r1,s1⟩ e3 h0
 refine ⟨fun _=>s1,?_⟩
 have hT:∀ {l:Array Bool},noneT [14,17,20] l→S w1:=fun _=>s1
 refine takeF h0 hT hQ 12 34 5 3 48 ⟨bv,0,none⟩ ⟨bv,3,none⟩ (by unfold isB;kernel_rfl) (by kernel_rfl) rfl (fldN3 bv) fun a12 e12 h0=>?_
 refine takeF h0 hT hQ 13 35 34 2 46 ⟨bv,3,none⟩ ⟨bv,5,none⟩ (by unfold isB;kernel_rfl) (by kernel_rfl) rfl (fldI2 bv) fun a13 e13 h0=>?_
 refine takeCall h0 7 29 28 [28] #[44] [v6] (fun v W=>R2 u1 v W∧S W) (by kernel_rfl) (by unfold isB;kernel_rfl) (by kernel_rfl) Tryz.func28 (by kernel_rfl) (by kernel_rfl) rfl ((hc2 _ _ r1).mono fun e w' h=>h) ?_
 rintro a7 u2 w2 ⟨r2,s2⟩ e7 h0
 refine ⟨fun _=>s2,?_⟩
 refine takeCall h0 11 33 28 [32] #[44] [v7] (fun v W=>R3 u1 u2 v W∧S W) (by kernel_rfl) (by unfold isB;kernel_rfl) (by kernel_rfl) Tryz.func28 (by kernel_rfl) (by kernel_rfl) rfl ((hc3 _ _ _ r2).mono fun e w' h=>h) ?_
 rintro a11 u3 w3 ⟨r3,s3⟩ e11 h0
 refine ⟨fun _=>s3,?_⟩
 obtain ⟨t1,t2,t3⟩:=hst _ _ _ _ r3
 refine takeSt1 h0 14 35 25 44 ⟨bv,5,none⟩ u1 (by kernel_rfl) (by kernel_rfl) rfl rfl t1 (by kernel_rfl) ?_
 refine takeF h0 (fun hn=>absurd hn (noneT_ab (by kernel_rfl))) hQ 15 36 5 3 48 ⟨bv,0,none⟩ ⟨bv,3,none⟩ (by unfold isB;kernel_rfl) (by kernel_rfl) rfl (fldN3 bv) fun a15 e15 h0=>?_
 refine takeF h0 (fun hn=>absurd hn (noneT_ab (by kernel_rfl))) hQ 16 37 36 3 46 ⟨bv,3,none⟩ ⟨bv,6,none⟩ (by unfold isB;kernel_rfl) (by kernel_rfl) rfl (fldI3 bv) fun a16 e16 h0=>?_
 refine takeSt1 h0 17 37 29 44 ⟨bv,6,none⟩ u2 (by kernel_rfl) (by kernel_rfl) rfl rfl t2 (by kernel_rfl) ?_
 refine takeF h0 (fun hn=>absurd hn (noneT_ab (by kernel_rfl))) hQ 18 38 5 3 48 ⟨bv,0,none⟩ ⟨bv,3,none⟩ (by unfold isB;kernel_rfl) (by kernel_rfl) rfl (fldN3 bv) fun a18 e18 h0=>?_
 refine takeF h0 (fun hn=>absurd hn (noneT_ab (by kernel_rfl))) hQ 19 39 38 4 46 ⟨bv,3,none⟩ ⟨bv,7,none⟩ (by unfold isB;kernel_rfl) (by kernel_rfl) rfl (fldI4 bv) fun a19 e19 h0=>?_
 refine takeSt1 h0 20 39 33 44 ⟨bv,7,none⟩ u3 (by kernel_rfl) (by kernel_rfl) rfl rfl t3 (by kernel_rfl) ?_
 refine wpAnyT_done (by kernel_rfl) (h _ _ _ w3 _ r3 ?_) _
 subst e19 e18 e16 e15 e11 e7 e13 e12 e3 e10 e9 e8 e6 e5 e4 e2 e1 e0
 exact ⟨_,_,_,_,_,_,_,_,_,_,_,_,_,_,_,_,_,_,rfl⟩
end
section
open Go Go.RowKit Bth
set_option maxRecDepth 100000
theorem nodes_own {w:World} {base B c:Nat} {A:Option Addr} {ns:List PN} (h:w.ownsRow base 48 13 (.slice A ns.length c) ns.length (ns.flatMap PN.list)) (hr:∀ p∈ns,p.At w B) (hB:B≤w.heap.size) (hf:ns.length≤1048576):NodesAt w w.heap.size ⟨A,ns.length,c⟩ ns:=
 ⟨rfl,fun hn=>by
  obtain ⟨g,e1,hg,hc⟩:=own_cells h hn
  refine ⟨g,0,e1,hg,hg,fun k p hk j v hv=>?_⟩
  have:=hc _ v (flat_get (f:=PN.list) PN.list_len hk j v hv)
  rw [Nat.zero_add]
  exact this,fun p hp=>(hr p hp).up hB,hf⟩
theorem quiet_take {ns:List PN} {k:Nat} {p:PN} (h:ns[k]? = some p):quietL (ns.take (k+1))=quietL (ns.take k) ++ (if p.kind=3 then [] else [p]):=by
 unfold quietL
 rw [take_snoc h,List.filter_append]
 by_cases e:p.kind=3<;>simp [e]
def GivesKn (w:World) (ns:List PN) (e:Ending) (w':World):Prop:=Fr nope w w'∧∃ b,e = .returned (.bool b)∧(b=true→ns.length≤2000∧∀ p∈insP ns,knI p=true)
theorem insP_each {w:World} {B:Nat} {s:SV} {ns:List PN} (hN:NodesAt w B s ns):∀ p∈insP ns,p.At w B:=by
 intro p hp
 unfold insP at hp
 obtain ⟨n,hn,rfl⟩:=List.mem_map.1 hp
 exact (hN.each n (List.mem_filter.1 hn).1).ins
set_option maxHeartbeats 1000000 in
theorem known_calls (w:World) (B:Nat) (s:SV) (ns:List PN) (hN:NodesAt w B s ns):Calls Tryz.prog 6 #[s.val] w (GivesKn w ns):=by
 have hLK:=LabelsKnown_calls w B s ns hN
 have hI:=fun W (hW:Fr nope w W)=>Instrs_calls W B s ns (hN.fr hW (fun _ _ x=>x))
 have hat:=insP_each hN
 have hlen:(insP ns).length≤ns.length:=by unfold insP;rw [List.length_map];exact List.length_filter_le _ _
 obtain ⟨A,n,c⟩:=s
 obtain rfl:n=ns.length:=hN.len
 simp only [SV.val] at hLK hI ⊢
 clear hN
 replace hI:=Lib.hid hI
 go_enter Tryz.func6,Tryz.ntmps6
 by_cases h2000:(2000:Int) < (ns.length:Int)
 ·clear hlen
  go_wp2_with fail
  go_ret
  exact ⟨Fr.refl _ _,false,rfl,fun h=>by cases h⟩
 go_wp2_with fail
 refine hLK.mono ?_
 rintro e w2 ⟨b,rfl,hn2⟩
 clear hLK
 cases b with
 | false=>
  clear hlen
  go_wp2
  go_ret
  exact ⟨hn2,false,rfl,fun h=>by cases h⟩
 | true=>
 have hns:ns.length≤2000:=by omega
 go_wp2_with fail
 refine (hI.out _ hn2).mono ?_
 rintro e w4 ⟨hf4,Aa,ca,rfl,hins⟩
 have hn4:=hn2.then hf4
 have hsz2:=hn2.size
 obtain ⟨is,his⟩:∃ is,is=insP ns:=⟨_,rfl⟩
 rw [← his] at hins hlen hat ⊢
 replace his:=Lib.hid his
 replace hat:=Lib.hid hat
 replace hns:=Lib.hid (⟨hns,hlen⟩:ns.length≤2000∧is.length≤ns.length)
 replace hlen:is.length≤2000:=by have:=hns.out;omega
 have hsz4:=hf4.size
 go_wp2
 go_loopg [16] is.length (fun m c16 wx=>∃ k:Nat,k≤is.length∧c16 = .int .i64 (k:Int)∧Hid (∀ p∈is.take k,knI p=true)∧Fr nope w4 wx∧m=is.length - k)
 case atStart=>exact ⟨0,Nat.zero_le _,rfl,Lib.hid (by simp),Fr.refl _ _,rfl⟩
 case round=>
  obtain ⟨k,hk,rfl,hK,hf,rfl⟩:=hrel
  by_cases hlt:k < is.length
  ·obtain ⟨p,hx⟩:∃ x,is[k]? = some x:=⟨_,List.getElem?_eq_getElem hlt⟩
   obtain ⟨b,off,hBe,hbl,hr⟩:=(Rw.nope hins hf).at_ PI.list_len hx
   subst hBe
   have hpa:=fun W (hW:Fr nope w W)=>(hat.out p (List.mem_of_getElem? hx)).fr hW (fun _ _ x=>x)
   have hT:=Lib.hid (take_snoc hx)
   replace hpa:=Lib.hid hpa
   clear hx
   have hszr:=hf.size
   go_wp2_with (first
    | (refine wpList_load_mid rfl _ _ rfl b (off+k*10) rfl p.cells.toList _ hr Tryz.underlying46 rfl (by kernel_rfl) ?_)
    | (refine wpList_storeRow (b:=wr.heap.size) (cells:=p.cells) rfl rfl rfl rfl (heap_alloc_new _ _) rfl (by kernel_rfl) (by kernel_rfl) ?_;intro w5 hb5 hf5)
    | (refine wpList_loadRow (b:=wr.heap.size) (cells:=p.cells) rfl rfl rfl hb5 Tryz.underlying46 rfl (by kernel_rfl) ?_))
   have hn5:Fr nope wr w5:=((Fr.refl nope wr).alloc _).then_new hf5 (fun x hx e=>by omega)
   have hIK:=InputsKnownK_calls w5 B p (hpa.out _ ((hn4.then hf).then hn5))
   unfold GivesB PI.agg at hIK
   refine hIK.mono ?_
   rintro e w6 ⟨rfl,hf6⟩
   clear hIK
   cases hkn:knI p with
   | false=>
    clear hkn
    go_wp2
    go_ret
    exact ⟨((hn4.then hf).then hn5).then hf6,false,rfl,fun h=>by cases h⟩
   | true=>
    have hK':=Lib.hid (show ∀ q∈is.take (k+1),knI q=true from fun q hq=>by
     rw [hT.out,List.mem_append] at hq
     rcases hq with hq | hq
     ·exact hK.out q hq
     ·rw [List.mem_singleton.1 hq];exact hkn)
    clear hkn
    go_wp2
    go_roundg (is.length - (k+1))
    case measure=>omega
    case rel=>exact ⟨k+1,by omega,by go_num,hK',(hf.then hn5).then hf6,rfl⟩
  ·have hKK:=hK.out
   rw [take_all hlt] at hKK
   replace hKK:=Lib.hid hKK
   go_wp2
   go_ret
   exact ⟨hn4.then hf,true,rfl,fun _=>⟨hns.out.1,by rw [← his.out];exact hKK.out⟩⟩
end
section
open Go Go.RowKit Bth
set_option maxRecDepth 100000
def LblOk (ns:List PN):Prop:=∀ p∈ns,(p.kind=2→p.label.size≤8388608)∧(p.kind=1→(∀ o∈p.ins.ops,o.kind=4→o.label.size≤8388608)∧(∀ o∈p.ins.inp,o.kind=4→o.label.size≤8388608)∧∀ o∈p.ins.out,o.kind=4→o.label.size≤8388608)
theorem calP_Ok (q:ByteArray→ByteArray) {p:PO} (h:p.Ok):(calP q p).Ok:=by
 unfold calP
 split
 ·exact ⟨h.reg,h.base,h.index⟩
 ·exact h
theorem calL_Ok (q:ByteArray→ByteArray) {l:List PO} (h:∀ p∈l,p.Ok):∀ p∈l.map (calP q),p.Ok:=fun p hp=>by
 obtain ⟨o,ho,rfl⟩:=List.mem_map.1 hp
 exact calP_Ok q (h o ho)
def LowB (B:Nat) (s:SV):Prop:=0 < s.n→∀ b off,s.A=some ⟨b,off,none⟩→b < B
def OkRow (w:World) (B:Nat) (s:SV) (l:List PO):Prop:=(POsAt w s l∧LowB B s)∨(SvO w s l∧Low w s.A)
theorem OkRow.frT {S:Nat→Prop} {w w':World} {B:Nat} {s:SV} {l:List PO} (h:OkRow w B s l) (hf:Fr S w w') (hs:NoT plT w S) (hB:∀ b,b < B→¬S b):OkRow w' B s l:=by
 rcases h with ⟨h1,h2⟩ | ⟨h1,h2⟩
 ·exact .inl ⟨h1.fr hf fun hn b off e=>hB b (h2 hn b off e),h2⟩
 ·exact .inr ⟨⟨h1.1,h1.2.frT hf hs (by decide)⟩,h2.fr hf⟩
theorem OkRow.at_ {w:World} {B:Nat} {s:SV} {l:List PO} (h:OkRow w B s l) (hB:B≤w.heap.size):POsAt w s l∧LowB w.heap.size s:=by
 rcases h with ⟨h1,h2⟩ | ⟨h1,h2⟩
 ·exact ⟨h1,fun hn b off e=>Nat.lt_of_lt_of_le (h2 hn b off e) hB⟩
 ·exact ⟨h1.at_,fun _ b off e=>h2 b off e⟩
structure CalAt (w:World) (B:Nat) (p:PN):Prop where
 suf:StrsAt w p.ins.sufV p.ins.suf∧LowB B p.ins.sufV
 isa:StrsAt w p.ins.isaV p.ins.isa∧LowB B p.ins.isaV
 lines:StrsAt w p.linesV p.lines∧LowB B p.linesV
 ops:OkRow w B p.ins.opsV p.ins.ops
 inp:OkRow w B p.ins.inpV p.ins.inp
 out:OkRow w B p.ins.outV p.ins.out
 few:p.ins.suf.length≤1048576∧p.ins.ops.length≤1048576∧p.ins.inp.length≤1048576∧p.ins.out.length≤1048576∧p.ins.isa.length≤1048576
 ok:(∀ o∈p.ins.ops,o.Ok)∧(∀ o∈p.ins.inp,o.Ok)∧(∀ o∈p.ins.out,o.Ok)
 fewL:p.lines.length≤1048576
theorem CalAt.of {w:World} {B:Nat} {p:PN} (h:p.At w B):CalAt w B p:=
 ⟨⟨h.ins.suf,h.ins.below _ (by simp)⟩,⟨h.ins.isa,h.ins.below _ (by simp)⟩,⟨h.lines,h.below⟩,.inl ⟨h.ins.ops,h.ins.below _ (by simp)⟩,.inl ⟨h.ins.inp,h.ins.below _ (by simp)⟩,.inl ⟨h.ins.out,h.ins.below _ (by simp)⟩,h.ins.few,h.ins.ok,h.few⟩
theorem CalAt.frT {S:Nat→Prop} {w w':World} {B:Nat} {p:PN} (h:CalAt w B p) (hf:Fr S w w') (hs:NoT plT w S) (hB:∀ b,b < B→¬S b):CalAt w' B p:=
 ⟨⟨h.suf.1.fr hf fun hn b off e=>hB b (h.suf.2 hn b off e),h.suf.2⟩,⟨h.isa.1.fr hf fun hn b off e=>hB b (h.isa.2 hn b off e),h.isa.2⟩,⟨h.lines.1.fr hf fun hn b off e=>hB b (h.lines.2 hn b off e),h.lines.2⟩,h.ops.frT hf hs hB,h.inp.frT hf hs hB,h.out.frT hf hs hB,h.few,h.ok,h.fewL⟩
theorem CalAt.nope {w w':World} {B:Nat} {p:PN} (h:CalAt w B p) (hf:Fr nope w w'):CalAt w' B p:=h.frT hf (NoT.nope _ _) (fun _ _ x=>x)
theorem CalAt.at_ {w:World} {B:Nat} {p:PN} (h:CalAt w B p) (hB:B≤w.heap.size):p.At w w.heap.size:=by
 obtain ⟨o1,o2⟩:=h.ops.at_ hB
 obtain ⟨i1,i2⟩:=h.inp.at_ hB
 obtain ⟨u1,u2⟩:=h.out.at_ hB
 refine ⟨⟨h.suf.1,o1,i1,u1,h.isa.1,fun s hs=>?_,h.few,h.ok⟩,h.lines.1,fun hn b off e=>Nat.lt_of_lt_of_le (h.lines.2 hn b off e) hB,h.fewL⟩
 simp only [List.mem_cons,List.not_mem_nil,or_false] at hs
 rcases hs with rfl | rfl | rfl | rfl | rfl
 ·exact fun hn b off e=>Nat.lt_of_lt_of_le (h.suf.2 hn b off e) hB
 ·exact o2
 ·exact i2
 ·exact u2
 ·exact fun hn b off e=>Nat.lt_of_lt_of_le (h.isa.2 hn b off e) hB
theorem PN.list_one (p:PN):∀ u∈p.list,u.oneCell'=true:=fun u hu=>by
 simp only [PN.list,PN.cells,List.mem_cons,List.not_mem_nil,or_false] at hu
 rcases hu with rfl | rfl | rfl | rfl | rfl | rfl | rfl | rfl | rfl | rfl | rfl | rfl | rfl<;>rfl
def PN.withOps (p:PN) (o i u:SV) (lo li lu:List PO):PN:={ p with ins:={ p.ins with opsV:=o,ops:=lo,inpV:=i,inp:=li,outV:=u,out:=lu } }
theorem PN.withOps_list (p:PN) (o i u:SV) (lo li lu:List PO):(p.withOps o i u lo li lu).list=((p.list.set 5 o.val).set 6 i.val).set 7 u.val:=rfl
def PN.withLabel (p:PN) (s:ByteArray):PN:={ p with label:=s }
theorem PN.withLabel_list (p:PN) (s:ByteArray):(p.withLabel s).list=p.list.set 1 (.string s):=rfl
theorem CalAt.withLabel {w:World} {B:Nat} {p:PN} (h:CalAt w B p) (s:ByteArray):CalAt w B (p.withLabel s):=⟨h.suf,h.isa,h.lines,h.ops,h.inp,h.out,h.few,h.ok,h.fewL⟩
theorem F2.snoc {α β : Type} {R:α → β → Prop} {l:List α} {m:List β} {a:α} {b:β} (h:F2 R l m) (hb:R a b):F2 R (l ++ [a]) (m ++ [b]):=h.append (.cons hb .nil)
def GivesCa (w:World) (ns:List PN) (e:Ending) (w':World):Prop:=Fr nope w w'∧∃ A c cs,e = .returned (.slice A cs.length c)∧NodesAt w' w'.heap.size ⟨A,cs.length,c⟩ cs∧F2 (CalM qL) ns cs
def RowC (l:List PO) (u:Value) (W:World):Prop:=∃ A c,u = .slice A l.length c∧SvO W ⟨A,l.length,c⟩ l∧Low W A
theorem RowC.nope {l:List PO} {u:Value} {W W':World} (h:RowC l u W) (hf:Fr nope W W'):RowC l u W':=by
 obtain ⟨A,c,h1,h2,h3⟩:=h
 exact ⟨A,c,h1,⟨h2.1,h2.2.nope hf⟩,h3.fr hf⟩
theorem RowC.frT {S:Nat→Prop} {l:List PO} {u:Value} {W W':World} (h:RowC l u W) (hf:Fr S W W') (hs:NoT plT W S):RowC l u W':=by
 obtain ⟨A,c,h1,h2,h3⟩:=h
 exact ⟨A,c,h1,⟨h2.1,h2.2.frT hf hs (by decide)⟩,h3.fr hf⟩
theorem co_row {W W':World} {ps:List PO} {e:Ending} (h:GivesCO W ps e W'):Fr nope W W'∧∃ u,e = .returned u∧RowC ps u W':=by
 obtain ⟨hf,A,c,rfl,ho⟩:=h
 exact ⟨hf,_,rfl,A,c,rfl,⟨rfl,Rw.of_own ho⟩,Low.own ho⟩
set_option maxHeartbeats 4000000 in
theorem called_calls (w:World) (s:SV) (ns:List PN) (hN:NodesAt w w.heap.size s ns) (hq:LblOk ns):Calls Tryz.prog 8 #[s.val] w (GivesCa w ns):=by
 obtain ⟨A,n,c⟩:=s
 obtain rfl:n=ns.length:=hN.len
 have hfew:=hN.few
 replace hq:=Lib.hid hq
 simp only [SV.val]
 go_enter Tryz.func8,Tryz.ntmps8
 go_wp2
 go_loopg [3,8] ns.length (fun n c3 c8 wr=>∃ (k:Nat) (A2:Option Addr) (c2:Nat) (is:List PN),k≤ns.length∧Hid (F2 (CalM qL) (ns.take k) is)∧is.length=k∧c8 = .int .i64 (k:Int)∧c3 = .slice A2 is.length c2∧wr.ownsRow w.heap.size 48 13 (.slice A2 is.length c2) is.length (is.flatMap PN.list)∧Hid (∀ p∈is,CalAt wr w.heap.size p)∧Fr nope w wr∧n=ns.length - k)
 case atStart=>exact ⟨0,none,0,[],Nat.zero_le _,Lib.hid .nil,rfl,rfl,rfl,own_nil _ _ _ _,Lib.hid (by simp),Fr.refl _ _,rfl⟩
 case round=>
  obtain ⟨k,A2,c2,is,hk,his,hil,rfl,rfl,hown,hrow,hf,rfl⟩:=hrel
  have hsz:=hf.size
  have hil':is.length≤1048576:=by omega
  replace hil:=Lib.hid hil
  by_cases hlt:k < ns.length
  ·obtain ⟨b,off,hAe,hbB,hbl,hc⟩:=(hN.fr hf (fun _ _ x=>x)).row (by omega)
   simp only at hAe
   subst hAe
   obtain ⟨p,hpk⟩:∃ p,ns[k]? = some p:=⟨_,List.getElem?_eq_getElem hlt⟩
   have hr:wr.rangeAt b (off+k*13) p.list:=hc k p hpk
   have hT:=Lib.hid (take_snoc hpk)
   have hpm:=List.mem_of_getElem? hpk
   have hls:=hq.out p hpm
   have hpat:=(hN.each p hpm).fr hf (fun _ _ x=>x)
   have hbo:=own_base hown
   have hp0:p.list[0]? = some (.int .i64 p.kind):=rfl
   have hp1:p.list[1]? = some (.string p.label):=rfl
   have hp5:p.list[5]? = some p.ins.opsV.val:=rfl
   have hp6:p.list[6]? = some p.ins.inpV.val:=rfl
   have hp7:p.list[7]? = some p.ins.outV.val:=rfl
   have hpl:p.list.length=13:=rfl
   have hone:=p.list_one
   have hwl:=p.withLabel_list (qL p.label)
   have hwo:=fun o i u lo li lu=>p.withOps_list o i u lo li lu
   obtain ⟨pl,hple⟩:∃ pl,pl=p.list:=⟨_,rfl⟩
   obtain ⟨kd,hkd⟩:∃ kd,kd=p.kind:=⟨_,rfl⟩
   obtain ⟨lbl,hlbl⟩:∃ lbl,lbl=p.label:=⟨_,rfl⟩
   rw [← hple] at hr hp0 hp1 hp5 hp6 hp7 hpl hone hwl hwo
   rw [← hkd] at hp0 hls
   rw [← hlbl] at hp1 hwl hls
   replace hple:=Lib.hid hple
   replace hkd:=Lib.hid hkd
   replace hlbl:=Lib.hid hlbl
   replace hwo:=Lib.hid hwo
   replace hpat:=Lib.hid hpat
   replace hls:=Lib.hid hls
   have hpa:pl.toArray.size=13:=by simpa using hpl
   have hpo:pl.toArray.all (·.oneCell')=true:=by
    rw [Array.all_eq_true_iff_forall_mem]
    exact fun u hu=>hone u (by simpa using hu)
   have hi:(Tryz.prog.info? 48).map (·.size)=some pl.length:=by rw [hpl];kernel_rfl
   have hia:(Tryz.prog.info? 48).map (·.size)=some pl.toArray.size:=by rw [hpa];kernel_rfl
   replace hpl:=Lib.hid hpl
   replace hpa:=Lib.hid hpa
   clear hc hpk hpm
   by_cases k2:kd=2
   ·subst k2
    have hls':(lbl.size:Int)≤8388608:=by have:=hls.out.1 rfl;omega
    obtain ⟨xl,hxl⟩:∃ xl,xl=pl.set 1 (.string (qL lbl)):=⟨_,rfl⟩
    have hxlen:xl.length=13:=by rw [hxl,List.length_set];exact hpl.out
    have hxone:∀ u∈xl,u.oneCell'=true:=fun u hu=>by
     rw [hxl] at hu
     rcases List.mem_or_eq_of_mem_set hu with hu | rfl
     ·exact hone u hu
     ·rfl
    have hxi:(Tryz.prog.info? 48).map (·.size)=some xl.toArray.size:=by rw [List.size_toArray,hxlen];kernel_rfl
    have hxa:pl.toArray.setIfInBounds 1 (.string (qL lbl))=xl.toArray:=by rw [hxl];simp
    have hx0:xl[0]? = some (.int .i64 2):=by rw [hxl,List.getElem?_set];simpa using hp0
    rw [← hxl] at hwl
    replace hxl:=Lib.hid hxl
    replace hxlen:=Lib.hid hxlen
    replace hxa:=Lib.hid hxa
    replace hwl:=Lib.hid hwl
    have h113:((⟨#[113]⟩:ByteArray).size:Int)≤8388608:=by decide
    have hadd:=fun W=>run_string_add (P:=Tryz.prog) (w:=W) ⟨#[113]⟩ lbl h113 hls'
    clear hp5 hp6 hp7
    go_wp2_with (first
     | (refine wpList_load_mid rfl _ _ rfl b (off+k*13) rfl pl _ hr Tryz.underlying48 rfl hi ?_)
     | (refine wpList_storeRow (b:=wr.heap.size) (cells:=pl.toArray) rfl rfl rfl rfl (heap_alloc_new _ _) (show (13:Nat)=pl.toArray.size from hpa.out.symm) hia hpo ?_;intro w2 hb2 hf2;have hn2:Fr nope wr w2:=((Fr.refl nope wr).alloc _).then_new hf2 (fun x hx e=>by omega);have hcb:w2.cell? ⟨wr.heap.size,0,none⟩=some (.int .i64 2):=(by rw [cell_of_row _ _ 0 _ _ (0,0) hb2];simpa using hp0);have hc1:w2.cell? ⟨wr.heap.size,1,none⟩=some (.string lbl):=(by rw [cell_of_row _ _ 1 _ _ (0,0) hb2];simpa using hp1);have hz2:w2.frozen? ⟨wr.heap.size,1,none⟩=false:=frozen_row hb2 1;have hlb2:=lt_of_heap hb2;have hb3:=setCell_heap (k:=1) hb2 (.string (qL lbl));rw [hxa.out] at hb3;have hn3:Fr nope wr (w2.setCell ⟨wr.heap.size,1,none⟩ (.string (qL lbl))):=hn2.setCell (.inr (Nat.le_refl _)) _;have hc30:(w2.setCell ⟨wr.heap.size,1,none⟩ (.string (qL lbl))).cell? ⟨wr.heap.size,0,none⟩=some (.int .i64 2):=(by rw [cell_of_row _ _ 0 _ _ (0,0) hb3];simpa using hx0))
     | (refine wpList_loadRow (b:=wr.heap.size) (cells:=xl.toArray) rfl rfl rfl hb3 Tryz.underlying48 rfl hxi ?_)
     | (refine wpList_build1 (l:=xl) rfl rfl rfl Tryz.underlying22 infoPN hxlen.out (by omega) (by decide) ?_)
     | refine wpList_app (v:=.slice A2 is.length c2) rfl rfl Tryz.underlying22 infoPN rfl (by omega) rfl (own_fr (own_fr hown hn3 (fun _ _ x=>x)) ((Fr.refl nope _).alloc _) (fun _ _ x=>x)) rfl (news:=xl) (by rw [hxlen.out]) (fun _=>cells_new _ _ _ _ (by simp)) hxone (by simp only [maxLen];omega) (by omega) (by have:=hn3.size;simp;omega) ?hk)
    case hk=>
     intro v4 w4 hown4 hf4 hb4
     obtain ⟨A4,c4,rfl,_,_⟩:=own_slice hown4
     clear hb4
     have hownA:=own_fr (own_fr hown hn3 (fun _ _ x=>x)) ((Fr.refl nope _).alloc (.cells xl.toArray 48)) (fun _ _ x=>x)
     have hNT:=NoT.own (T:=plT) hownA (by decide)
     go_wp2
     go_roundg (ns.length - (k+1))
     case measure=>omega
     case rel=>
      refine ⟨k+1,A4,c4,is ++ [p.withLabel (qL lbl)],by omega,Lib.hid ?_,by rw [List.length_append,hil.out];rfl,by go_num,by rw [List.length_append];rfl,by rw [List.flatMap_append,List.length_append,List.flatMap_cons,hwl.out];simpa using hown4,Lib.hid fun q hqm=>?_,((hf.then hn3).alloc _).then_new hf4 (fun x hx e=>by have:=hbo x e;omega),rfl⟩
      ·rw [hT.out]
       refine F2.snoc his.out ⟨rfl,fun _=>by rw [← hlbl.out];rfl,rfl,fun e=>?_⟩
       rw [← hkd.out] at e;cases e
      ·have hqa:CalAt wr w.heap.size q:=by
        rcases List.mem_append.1 hqm with hqm | hqm
        ·exact hrow.out q hqm
        ·obtain rfl:q=p.withLabel (qL lbl):=by simpa using hqm
         exact (CalAt.of hpat.out).withLabel _
       exact (hqa.nope (hn3.alloc _)).frT hf4 hNT (fun b hb e=>by have:=hbo b e;omega)
   by_cases k1:kd=1
   ·subst k1
    have hls1:=hls.out.2 rfl
    obtain ⟨lo,hlo⟩:∃ lo,lo=p.ins.ops.map (calP qL):=⟨_,rfl⟩
    obtain ⟨li,hli⟩:∃ li,li=p.ins.inp.map (calP qL):=⟨_,rfl⟩
    obtain ⟨lu,hlu⟩:∃ lu,lu=p.ins.out.map (calP qL):=⟨_,rfl⟩
    have hpW:=fun W (hW:Fr nope wr W)=>hpat.out.fr hW (fun _ _ x=>x)
    have hfw:=hpat.out.ins.few
    have hC5:=fun W (hW:Fr nope wr W)=>calledOps_calls W p.ins.opsV p.ins.ops (hpW W hW).ins.ops hfw.2.1 hls1.1
    have hC6:=fun W (hW:Fr nope wr W)=>calledOps_calls W p.ins.inpV p.ins.inp (hpW W hW).ins.inp hfw.2.2.1 hls1.2.1
    have hC7:=fun W (hW:Fr nope wr W)=>calledOps_calls W p.ins.outV p.ins.out (hpW W hW).ins.out hfw.2.2.2.1 hls1.2.2
    rw [← hlo] at hC5
    rw [← hli] at hC6
    rw [← hlu] at hC7
    obtain ⟨v5,hv5⟩:∃ v5,v5=p.ins.opsV.val:=⟨_,rfl⟩
    obtain ⟨v6,hv6⟩:∃ v6,v6=p.ins.inpV.val:=⟨_,rfl⟩
    obtain ⟨v7,hv7⟩:∃ v7,v7=p.ins.outV.val:=⟨_,rfl⟩
    rw [← hv5] at hC5 hp5
    rw [← hv6] at hC6 hp6
    rw [← hv7] at hC7 hp7
    replace hC5:=Lib.hid hC5
    replace hC6:=Lib.hid hC6
    replace hC7:=Lib.hid hC7
    replace hlo:=Lib.hid hlo
    replace hli:=Lib.hid hli
    replace hlu:=Lib.hid hlu
    replace hv5:=Lib.hid hv5
    replace hv6:=Lib.hid hv6
    replace hv7:=Lib.hid hv7
    replace hpW:=Lib.hid hpW
    replace hfw:=Lib.hid hfw
    replace hp5:=Lib.hid hp5
    replace hp6:=Lib.hid hp6
    replace hp7:=Lib.hid hp7
    clear hls1 hp1 hwl
    go_wp2_with (first
     | (refine wpList_load_mid rfl _ _ rfl b (off+k*13) rfl pl _ hr Tryz.underlying48 rfl hi ?_)
     | (refine wpList_storeRow (b:=wr.heap.size) (cells:=pl.toArray) rfl rfl rfl rfl (heap_alloc_new _ _) (show (13:Nat)=pl.toArray.size from hpa.out.symm) hia hpo ?_;intro w2 hb2 hf2;have hn2:Fr nope wr w2:=((Fr.refl nope wr).alloc _).then_new hf2 (fun x hx e=>by omega);have hcb:w2.cell? ⟨wr.heap.size,0,none⟩=some (.int .i64 1):=(by rw [cell_of_row _ _ 0 _ _ (0,0) hb2];simpa using hp0);have hlb2:=lt_of_heap hb2))
    have hd:Fr nope w2 w2.drew:=(Fr.refl nope w2).drew
    have hcells:∀ W,Fr nope w2 W→W.cell? ⟨wr.heap.size,5,none⟩=some v5∧W.cell? ⟨wr.heap.size,6,none⟩=some v6∧W.cell? ⟨wr.heap.size,7,none⟩=some v7:=fun W hW=>by
     have hbW:=hW.heap hb2 (fun x=>x)
     refine ⟨?_,?_,?_⟩
     ·rw [cell_of_row _ _ 5 _ _ (0,0) hbW];simpa using hp5.out
     ·rw [cell_of_row _ _ 6 _ _ (0,0) hbW];simpa using hp6.out
     ·rw [cell_of_row _ _ 7 _ _ (0,0) hbW];simpa using hp7.out
    refine rgCL (S:=fun W=>Fr nope w2 W) (R1:=fun u W=>RowC lo u W∧Fr nope w2 W) (R2:=fun u u' W=>RowC lo u W∧RowC li u' W∧Fr nope w2 W) (R3:=fun u u' u'' W=>RowC lo u W∧RowC li u' W∧RowC lu u'' W∧Fr nope w2 W) (bv:=wr.heap.size) (v5:=v5) (v6:=v6) (v7:=v7) ((Bun.nil rfl rfl).cons 5 rfl) (fun d _ _ _ _ h=>by cases d<;>simpa [Exit.inBlock,Exit.then,bodyPost,Act.put] using h) hd hcells ?_ ?_ ?_ ?_ ?_
    ·refine (hC5.out _ (hn2.then hd)).mono fun e w' h=>?_
     obtain ⟨hf',u,e1,hr1⟩:=co_row h
     exact ⟨u,e1,⟨hr1,hd.then hf'⟩,hd.then hf'⟩
    ·rintro u w5 ⟨r1,f1⟩
     refine (hC6.out _ (hn2.then f1)).mono fun e w' h=>?_
     obtain ⟨hf',u',e1,hr1⟩:=co_row h
     exact ⟨u',e1,⟨r1.nope hf',hr1,f1.then hf'⟩,f1.then hf'⟩
    ·rintro u u' w5 ⟨r1,r2,f1⟩
     refine (hC7.out _ (hn2.then f1)).mono fun e w' h=>?_
     obtain ⟨hf',u'',e1,hr1⟩:=co_row h
     exact ⟨u'',e1,⟨r1.nope hf',r2.nope hf',hr1,f1.then hf'⟩,f1.then hf'⟩
    ·rintro u u' u'' w5 ⟨⟨A5,c5,hu,_⟩,⟨A6,c6,hu',_⟩,⟨A7,c7,hu'',_⟩,f1⟩
     obtain ⟨c5',c6',c7'⟩:=hcells _ f1
     have hb5:=f1.heap hb2 (fun x=>x)
     have hb6:=setCell_heap (k:=5) hb5 u
     have hb7:=setCell_heap (k:=6) hb6 u'
     refine ⟨stOps c5' (frozen_row hb5 5) hu,stOps (u:=v6) ?_ (frozen_row hb6 6) hu',stOps (u:=v7) ?_ (frozen_row hb7 7) hu''⟩
     ·rw [cell_of_row _ _ 6 _ _ (0,0) hb6];simpa using hp6.out
     ·rw [cell_of_row _ _ 7 _ _ (0,0) hb7];simpa using hp7.out
    rintro u u' u'' w5 a ⟨r1,r2,r3,f1⟩ ⟨x22,x23,x24,x26,x27,x28,x30,x31,x32,x25,x34,x35,x29,x33,x36,x37,x38,x39,rfl⟩
    simp only [putL,List.foldl_cons,List.foldl_nil,Act.put,List.setIfInBounds_toArray,List.set_cons_zero,List.set_cons_succ]
    obtain ⟨w6,hw6⟩:∃ w6,w6=((w5.setCell ⟨wr.heap.size,5,none⟩ u).setCell ⟨wr.heap.size,6,none⟩ u').setCell ⟨wr.heap.size,7,none⟩ u'':=⟨_,rfl⟩
    rw [← hw6]
    have hb5:=f1.heap hb2 (fun x=>x)
    have hst:Fr (fun x=>x=wr.heap.size) w5 w6:=by
     rw [hw6]
     exact (((Fr.refl (fun x=>x=wr.heap.size) w5).setCell (.inl rfl) _).setCell (.inl rfl) _).setCell (.inl rfl) _
    have hNb:NoT plT w5 (fun x=>x=wr.heap.size):=NoT.one hb5 (by decide)
    obtain ⟨A5,c5,rfl,s5,l5⟩:=r1.frT hst hNb
    obtain ⟨A6,c6,rfl,s6,l6⟩:=r2.frT hst hNb
    obtain ⟨A7,c7,rfl,s7,l7⟩:=r3.frT hst hNb
    have hb6:=setCell_heap (k:=7) (setCell_heap (k:=6) (setCell_heap (k:=5) hb5 (.slice A5 lo.length c5)) (.slice A6 li.length c6)) (.slice A7 lu.length c7)
    rw [← hw6] at hb6
    obtain ⟨p',hp'⟩:∃ p',p'=p.withOps ⟨A5,lo.length,c5⟩ ⟨A6,li.length,c6⟩ ⟨A7,lu.length,c7⟩ lo li lu:=⟨_,rfl⟩
    obtain ⟨xl,hxl⟩:∃ xl,xl=((pl.set 5 (.slice A5 lo.length c5)).set 6 (.slice A6 li.length c6)).set 7 (.slice A7 lu.length c7):=⟨_,rfl⟩
    have hxp:p'.list=xl:=by rw [hp',hwo.out,hxl];rfl
    have hxa:(((pl.toArray.setIfInBounds 5 (.slice A5 lo.length c5)).setIfInBounds 6 (.slice A6 li.length c6)).setIfInBounds 7 (.slice A7 lu.length c7))=xl.toArray:=by rw [hxl];simp
    rw [hxa] at hb6
    have hxlen:xl.length=13:=by rw [hxl];simp only [List.length_set];exact hpl.out
    have hxone:∀ u∈xl,u.oneCell'=true:=by rw [← hxp];exact p'.list_one
    have hxi:(Tryz.prog.info? 48).map (·.size)=some xl.toArray.size:=by rw [List.size_toArray,hxlen];kernel_rfl
    have hn6:Fr nope wr w6:=(hn2.then f1).then_new hst (fun x hx e=>by have e':x=wr.heap.size:=e;omega)
    have hlb6:=lt_of_heap hb6
    have hsz6:=hn6.size
    have hCA:CalAt w6 w.heap.size p':=by
     have h1:=CalAt.of (hpW.out _ hn6)
     rw [hp']
     refine ⟨h1.suf,h1.isa,h1.lines,.inr ⟨s5,l5⟩,.inr ⟨s6,l6⟩,.inr ⟨s7,l7⟩,⟨hfw.out.1,?_,?_,?_,hfw.out.2.2.2.2⟩,⟨?_,?_,?_⟩,h1.fewL⟩
     ·show lo.length≤_;rw [hlo.out,List.length_map];exact hfw.out.2.1
     ·show li.length≤_;rw [hli.out,List.length_map];exact hfw.out.2.2.1
     ·show lu.length≤_;rw [hlu.out,List.length_map];exact hfw.out.2.2.2.1
     ·show ∀ o∈lo,o.Ok;rw [hlo.out];exact calL_Ok qL hpat.out.ins.ok.1
     ·show ∀ o∈li,o.Ok;rw [hli.out];exact calL_Ok qL hpat.out.ins.ok.2.1
     ·show ∀ o∈lu,o.Ok;rw [hlu.out];exact calL_Ok qL hpat.out.ins.ok.2.2
    have hCM:CalM qL p p':=by
     rw [hp']
     exact ⟨rfl,fun e=>(by rw [← hkd.out] at e;cases e),rfl,fun _=>⟨rfl,rfl,rfl,hlo.out,hli.out,hlu.out,rfl,rfl,rfl,rfl⟩⟩
    replace hxp:=Lib.hid hxp
    replace hxlen:=Lib.hid hxlen
    replace hCA:=Lib.hid hCA
    replace hCM:=Lib.hid hCM
    replace hp':=Lib.hid hp'
    replace hxl:=Lib.hid hxl
    replace hw6:=Lib.hid hw6
    clear r1 r2 r3 s5 s6 s7 l5 l6 l7 hxa hcells hb5 hNb hst f1 hb2 hcb
    go_wp2_with (first
     | (refine wpList_loadRow (b:=wr.heap.size) (cells:=xl.toArray) rfl rfl rfl hb6 Tryz.underlying48 rfl hxi ?_)
     | (refine wpList_build1 (l:=xl) rfl rfl rfl Tryz.underlying22 infoPN hxlen.out (by omega) (by decide) ?_)
     | refine wpList_app (v:=.slice A2 is.length c2) rfl rfl Tryz.underlying22 infoPN rfl (by omega) rfl (own_fr (own_fr hown hn6 (fun _ _ x=>x)) ((Fr.refl nope _).alloc _) (fun _ _ x=>x)) rfl (news:=xl) (by rw [hxlen.out]) (fun _=>cells_new _ _ _ _ (by simp)) hxone (by simp only [maxLen];omega) (by omega) (by simp;omega) ?hk)
    case hk=>
     intro v4 w4 hown4 hf4 hb4
     obtain ⟨A4,c4,rfl,_,_⟩:=own_slice hown4
     clear hb4
     have hownA:=own_fr (own_fr hown hn6 (fun _ _ x=>x)) ((Fr.refl nope _).alloc (.cells xl.toArray 48)) (fun _ _ x=>x)
     have hNT:=NoT.own (T:=plT) hownA (by decide)
     go_wp2
     go_roundg (ns.length - (k+1))
     case measure=>omega
     case rel=>
      refine ⟨k+1,A4,c4,is ++ [p'],by omega,Lib.hid ?_,by rw [List.length_append,hil.out];rfl,by go_num,by rw [List.length_append];rfl,by rw [List.flatMap_append,List.length_append,List.flatMap_cons,hxp.out];simpa using hown4,Lib.hid fun q hqm=>?_,((hf.then hn6).alloc _).then_new hf4 (fun x hx e=>by have:=hbo x e;omega),rfl⟩
      ·rw [hT.out]
       exact F2.snoc his.out hCM.out
      ·have hqa:CalAt w6 w.heap.size q:=by
        rcases List.mem_append.1 hqm with hqm | hqm
        ·exact (hrow.out q hqm).nope hn6
        ·obtain rfl:q=p':=by simpa using hqm
         exact hCA.out
       exact (hqa.nope ((Fr.refl nope w6).alloc _)).frT hf4 hNT (fun b hb e=>by have:=hbo b e;omega)
   ·have hk1:¬(kd=1):=k1
    have hk2:¬(kd=2):=k2
    clear hp1 hp5 hp6 hp7 hwl
    go_wp2_with (first
     | (refine wpList_load_mid rfl _ _ rfl b (off+k*13) rfl pl _ hr Tryz.underlying48 rfl hi ?_)
     | (refine wpList_storeRow (b:=wr.heap.size) (cells:=pl.toArray) rfl rfl rfl rfl (heap_alloc_new _ _) (show (13:Nat)=pl.toArray.size from hpa.out.symm) hia hpo ?_;intro w2 hb2 hf2;have hn2:Fr nope wr w2:=((Fr.refl nope wr).alloc _).then_new hf2 (fun x hx e=>by omega);have hcb:w2.cell? ⟨wr.heap.size,0,none⟩=some (.int .i64 kd):=(by rw [cell_of_row _ _ 0 _ _ (0,0) hb2];simpa using hp0);have hlb2:=lt_of_heap hb2)
     | (refine wpList_loadRow (b:=wr.heap.size) (cells:=pl.toArray) rfl rfl rfl hb2 Tryz.underlying48 rfl hia ?_)
     | (refine wpList_build1 (l:=pl) rfl rfl rfl Tryz.underlying22 infoPN hpl.out (by omega) (by decide) ?_)
     | refine wpList_app (v:=.slice A2 is.length c2) rfl rfl Tryz.underlying22 infoPN rfl (by omega) rfl (own_fr (own_fr hown hn2 (fun _ _ x=>x)) ((Fr.refl nope _).alloc _) (fun _ _ x=>x)) rfl (news:=pl) (by rw [hpl.out]) (fun _=>cells_new _ _ _ _ (by simp)) hone (by simp only [maxLen];omega) (by omega) (by have:=hn2.size;simp;omega) ?hk)
    case hk=>
     intro v4 w4 hown4 hf4 hb4
     obtain ⟨A4,c4,rfl,_,_⟩:=own_slice hown4
     clear hb4
     have hownA:=own_fr (own_fr hown hn2 (fun _ _ x=>x)) ((Fr.refl nope _).alloc (.cells pl.toArray 48)) (fun _ _ x=>x)
     have hNT:=NoT.own (T:=plT) hownA (by decide)
     go_wp2
     go_roundg (ns.length - (k+1))
     case measure=>omega
     case rel=>
      refine ⟨k+1,A4,c4,is ++ [p],by omega,Lib.hid ?_,by rw [List.length_append,hil.out];rfl,by go_num,by rw [List.length_append];rfl,by rw [List.flatMap_append,List.length_append,List.flatMap_cons,← hple.out];simpa using hown4,Lib.hid fun q hqm=>?_,((hf.then hn2).alloc _).then_new hf4 (fun x hx e=>by have:=hbo x e;omega),rfl⟩
      ·rw [hT.out]
       refine F2.snoc his.out ⟨rfl,fun e=>?_,rfl,fun e=>?_⟩
       ·rw [← hkd.out] at e;exact absurd e k2
       ·rw [← hkd.out] at e;exact absurd e k1
      ·have hqa:CalAt wr w.heap.size q:=by
        rcases List.mem_append.1 hqm with hqm | hqm
        ·exact hrow.out q hqm
        ·obtain rfl:q=p:=by simpa using hqm
         exact CalAt.of hpat.out
       exact (hqa.nope (hn2.alloc _)).frT hf4 hNT (fun b hb e=>by have:=hbo b e;omega)
  ·rw [take_all hlt] at his
   go_wp2
   go_ret
   exact ⟨hf,A2,c2,is,rfl,nodes_own hown (fun p hp=>(hrow.out p hp).at_ hf.size) (Nat.le_refl _) hil',his.out⟩
end
section
open Go Go.RowKit Bth
set_option maxRecDepth 100000
noncomputable def snReg:Array Oper:=findReg 6 (Tryz.f13.body.getD .skip)
theorem idxNd (b off n c p:Nat) (hp:p < n) (w:World):(Instr.indexAt 22 (.slice (some ⟨b,off,none⟩) n c) (.int .i64 (p:Int))).run Tryz.prog w = .ok (.pointer (some ⟨b,off+p*13,none⟩)) w:=by
 have h0:(0:Int)≤(p:Int):=by omega
 have h1:(p:Int) < (n:Int):=by omega
 go_simp
set_option maxHeartbeats 2000000 in
theorem rgSN {a0:Act} {w:World} {Q:Exit→Act→World→Prop} {S R:World→Prop} {b1 o1 b2 o2 n c1 c2 k:Nat} {cx cy:List Value}
  (h0:Bun a0 27 [(0,.slice (some ⟨b1,o1,none⟩) n c1),(1,.slice (some ⟨b2,o2,none⟩) n c2),(5,.int .i64 (k:Int))]) (hQ:∀ d v c a w,Q (.panic c) (a.put d v) w→Q (.panic c) a w)
  (hk:k < n) (hcx:cx.length=13) (hcy:cy.length=13) (hS0:S w.drew) (hS:∀ w,S w→w.rangeAt b1 (o1+k*13) cx∧w.rangeAt b2 (o2+k*13) cy)
  (hc:Calls Tryz.prog 40 #[.agg cx.toArray,.agg cy.toArray] w.drew fun e w'=>e = .returned (.bool true)∧R w'∧S w')
  (h:∀ w',R w'→Q .normal (putL a0 [(16,.slice (some ⟨b1,o1,none⟩) n c1),(17,.int .i64 (k:Int)),(18,.pointer (some ⟨b1,o1+k*13,none⟩)),(19,.agg cx.toArray),(20,.slice (some ⟨b2,o2,none⟩) n c2),(21,.int .i64 (k:Int)),(22,.pointer (some ⟨b2,o2+k*13,none⟩)),(23,.agg cy.toArray),(24,.bool true),(25,.bool false)]) w'):(Code.region 6 snReg true).wp Tryz.prog Q a0 w:=by
 refine wp_region_T (S:=S) (T:=[]) (by kernel_rfl) ?_
 rw [show snReg.size=10 from by kernel_rfl]
 have hT:∀ {l:Array Bool},noneT [] l→S w.drew:=fun _=>hS0
 refine takeM h0 hT hQ 0 16 0 _ (by unfold isB;kernel_rfl) (by kernel_rfl) rfl fun a0 e0 h0=>?_
 refine takeM h0 hT hQ 1 17 5 _ (by unfold isB;kernel_rfl) (by kernel_rfl) rfl fun a1 e1 h0=>?_
 refine takeI h0 hT hQ 2 18 16 17 22 _ _ ⟨b1,o1+k*13,none⟩ (by unfold isB;kernel_rfl) (by kernel_rfl) rfl rfl (fun w=>idxNd b1 o1 n c1 k hk w) fun a2 e2 h0=>?_
 refine takeS h0 hS0 hQ 3 19 18 48 b1 (o1+k*13) cx _ (by unfold isB;kernel_rfl) (by kernel_rfl) rfl Tryz.underlying48 rfl (by rw [hcx];kernel_rfl) (fun w hw=>(hS w hw).1) fun a3 e3 h0=>?_
 refine takeM h0 hT hQ 4 20 1 _ (by unfold isB;kernel_rfl) (by kernel_rfl) rfl fun a4 e4 h0=>?_
 refine takeM h0 hT hQ 5 21 5 _ (by unfold isB;kernel_rfl) (by kernel_rfl) rfl fun a5 e5 h0=>?_
 refine takeI h0 hT hQ 6 22 20 21 22 _ _ ⟨b2,o2+k*13,none⟩ (by unfold isB;kernel_rfl) (by kernel_rfl) rfl rfl (fun w=>idxNd b2 o2 n c2 k hk w) fun a6 e6 h0=>?_
 refine takeS h0 hS0 hQ 7 23 22 48 b2 (o2+k*13) cy _ (by unfold isB;kernel_rfl) (by kernel_rfl) rfl Tryz.underlying48 rfl (by rw [hcy];kernel_rfl) (fun w hw=>(hS w hw).2) fun a7 e7 h0=>?_
 refine takeCall h0 8 24 40 [19,23] #[48,48] [.agg cx.toArray,.agg cy.toArray] (fun v W=>v = .bool true∧R W∧S W) (by kernel_rfl) (by unfold isB;kernel_rfl) (by kernel_rfl) Tryz.func40 (by kernel_rfl) (by kernel_rfl) rfl ((hc).mono fun e w' h=>⟨_,h.1,rfl,h.2⟩) ?_
 rintro a8 _ w5 ⟨rfl,hR,hS5⟩ e8 h0
 refine ⟨fun _=>hS5,?_⟩
 have hT:∀ {l:Array Bool},noneT [] l→S w5:=fun _=>hS5
 refine takeU h0 hT hQ 9 25 _ (.bool (!true)) (show isB snReg 9 25 (.unOp .not 4 (.tmp 24)) from by unfold isB;kernel_rfl) (by kernel_rfl) (fun o e w=>by simp only [execOp,e,h0.at_ 24 _ rfl];go_simp) fun a9 e9 h0=>?_
 refine wpAnyT_done (by kernel_rfl) ?_ _
 subst e9 e8 e7 e6 e5 e4 e3 e2 e1 e0
 exact h _ hR
set_option maxHeartbeats 2000000 in
theorem SameNodes_calls (w:World) (B B':Nat) (s t:SV) (ns ms:List PN) (h:NodesAt w B s ns) (h':NodesAt w B' t ms) (hs:F2 SameN ns ms) (hk:∀ n∈ns,n.kind=1∨n.kind=2∨n.kind=3):Calls Tryz.prog 13 #[s.val,t.val] w (GivesB w true):=by
 have hlen:=hs.length
 have hfew:=h.few
 have hN:=fun W (hW:Fr nope w W)=>h.fr hW (fun _ _ x=>x)
 have hM:=fun W (hW:Fr nope w W)=>h'.fr hW (fun _ _ x=>x)
 have hR:=fun W (hW:Fr nope w W) (k:Nat) (p q:PN) (hp:ns[k]? = some p) (hq:ms[k]? = some q)=>SameNodeN_calls W B B' p q ((hN W hW).each p (List.mem_of_getElem? hp)) ((hM W hW).each q (List.mem_of_getElem? hq)) (hs.get k p q hp hq) (hk p (List.mem_of_getElem? hp))
 obtain ⟨A,n,c⟩:=s
 obtain ⟨A',n',c'⟩:=t
 obtain rfl:n=ns.length:=h.len
 obtain rfl:n'=ns.length:=h'.len.trans hlen
 simp only [SV.val]
 clear h h' hs hk
 replace hN:=Lib.hid hN
 replace hM:=Lib.hid hM
 replace hR:=Lib.hid hR
 replace hlen:=Lib.hid hlen
 go_enter Tryz.func13,Tryz.ntmps13
 go_wp2
 go_loopg [13] ns.length (fun m c13 wr=>∃ k:Nat,k≤ns.length∧c13 = .int .i64 (k:Int)∧Fr nope w wr∧m=ns.length - k)
 case atStart=>exact ⟨0,Nat.zero_le _,rfl,Fr.refl _ _,rfl⟩
 case round=>
  obtain ⟨k,hk',rfl,hf,rfl⟩:=hrel
  by_cases hlt:k < ns.length
  ·obtain ⟨b,off,hAe,_,hbl,hc⟩:=(hN.out _ hf).row (by omega)
   obtain ⟨b',off',hAe',_,hbl',hc'⟩:=(hM.out _ hf).row (by rw [hlen.out];omega)
   simp only at hAe hAe'
   obtain ⟨p,hpk⟩:∃ p,ns[k]? = some p:=⟨_,List.getElem?_eq_getElem hlt⟩
   obtain ⟨q,hqk⟩:∃ q,ms[k]? = some q:=⟨_,List.getElem?_eq_getElem (by rw [hlen.out];exact hlt)⟩
   have hr:=hc k p hpk
   have hr':=hc' k q hqk
   have hSN:=fun W (hW:Fr nope w W)=>hR.out W hW k p q hpk hqk
   clear hN hM hR
   subst hAe hAe'
   replace hSN:=Lib.hid hSN
   clear hc hc' hpk hqk
   have hdr:Fr nope wr wr.drew:=(Fr.refl nope wr).drew
   have hSk:∀ W,Fr nope wr W→W.rangeAt b (off+k*13) p.cells.toList∧W.rangeAt b' (off'+k*13) q.cells.toList:=fun W hW=>⟨fun j v hv=>hW.cell (hr j v hv) (fun x=>x),fun j v hv=>hW.cell (hr' j v hv) (fun x=>x)⟩
   replace hr:=Lib.hid hr
   replace hr':=Lib.hid hr'
   go_wp2_with fail
   refine reg_eq3 (ops':=snReg) (by kernel_rfl) (rgSN (S:=fun W=>W.rangeAt b (off+k*13) p.cells.toList∧W.rangeAt b' (off'+k*13) q.cells.toList) (R:=fun W=>Fr nope wr W) (b1:=b) (o1:=off) (b2:=b') (o2:=off') (n:=ns.length) (c1:=c) (c2:=c') (k:=k) (cx:=p.cells.toList) (cy:=q.cells.toList)
    ((((Bun.nil rfl rfl).cons 5 rfl).cons 1 rfl).cons 0 rfl) (fun d _ _ _ _ h=>by cases d<;>simpa [Exit.inBlock,Exit.then,bodyPost,Act.put] using h) hlt rfl rfl (hSk _ hdr) (fun W hW=>hW) ?hc ?h)
   case hc=>
    refine (hSN.out wr.drew (hf.then hdr)).mono ?_
    rintro e w15 ⟨rfl,hf15⟩
    exact ⟨rfl,hdr.then hf15,hSk _ (hdr.then hf15)⟩
   case h=>
    intro w15 hf15
    clear hSk
    simp only [putL,List.foldl_cons,List.foldl_nil,Act.put,List.setIfInBounds_toArray,List.set_cons_zero,List.set_cons_succ]
    go_wp2
    go_roundg (ns.length - (k+1))
    case measure=>omega
    case rel=>exact ⟨k+1,by omega,by go_num,hf.then hf15,rfl⟩
  ·go_wp2
   go_ret
   exact ⟨rfl,hf⟩
end
section
open Go Go.RowKit Bth
set_option maxRecDepth 100000
set_option maxHeartbeats 1000000 in
theorem same_calls (w:World) (A B:Option Addr) (c d:Nat) (l:List (Nat × Nat)) (h:PairsAt w A l) (h':PairsAt w B l) (hl:l.length≤1000000000):Calls Tryz.prog 17 #[.slice A l.length c,.slice B l.length d] w (GivesB w true):=by
 go_enter Tryz.func17,Tryz.ntmps17
 go_wp2
 go_loopg [13] l.length (fun n c13 wr=>∃ k:Nat,k≤l.length∧c13 = .int .i64 (k:Int)∧Fr nope w wr∧n=l.length - k)
 case atStart=>exact ⟨0,Nat.zero_le _,rfl,Fr.refl _ _,rfl⟩
 case round=>
  obtain ⟨k,hk,rfl,hf,rfl⟩:=hrel
  by_cases hlt:k < l.length
  ·obtain ⟨⟨x1,x2⟩,hx⟩:∃ x,l[k]? = some x:=⟨_,List.getElem?_eq_getElem hlt⟩
   obtain ⟨b,e1,hb,hr⟩:=(h.fr hf) (by omega)
   obtain ⟨b',e2,hb',hr'⟩:=(h'.fr hf) (by omega)
   have hr:=hr k _ hx
   have hr':=hr' k _ hx
   subst e1 e2
   have hc0:wr.cell? ⟨b,k*2,none⟩=some (.int .u32 (x1:Int)):=hr 0 _ rfl
   have hc1:wr.cell? ⟨b,k*2+1,none⟩=some (.int .u32 (x2:Int)):=hr 1 _ rfl
   have hd0:wr.cell? ⟨b',k*2,none⟩=some (.int .u32 (x1:Int)):=hr' 0 _ rfl
   have hd1:wr.cell? ⟨b',k*2+1,none⟩=some (.int .u32 (x2:Int)):=hr' 1 _ rfl
   clear hr hr' hx h h'
   go_wp2
   go_quiet (fail)
   go_wp2
   go_roundg (l.length - (k+1))
   case measure=>omega
   case rel=>exact ⟨k+1,by omega,by go_num,by first | exact hf | exact hf.drewN _,rfl⟩
  ·go_wp2
   go_ret
   exact ⟨rfl,hf⟩
end
section
open Go Go.RowKit Bth
set_option maxRecDepth 100000
def GrU (ns:List PN) (sc:Nat→List (Option Nat)) (ok:Bool) (n:Nat):Prop:=(ok=true∧GraphP ns sc∧n=(insP ns).length)∨(ok=false∧(∀ sc,¬GraphP ns sc)∧n=0)
theorem grU_ex (ns:List PN):∃ sc ok n,GrU ns sc ok n:=by
 by_cases h:∃ sc,GraphP ns sc
 ·obtain ⟨sc,h⟩:=h
  exact ⟨sc,true,_,.inl ⟨rfl,h,rfl⟩⟩
 ·exact ⟨fun _=>[],false,0,.inr ⟨rfl,fun sc hs=>h ⟨sc,hs⟩,rfl⟩⟩
theorem GrU.congr {ns ns':List PN} {sc:Nat→List (Option Nat)} {ok:Bool} {n:Nat} (h:GrU ns sc ok n) (hG:∀ sc,GraphP ns' sc↔GraphP ns sc) (hl:(insP ns').length=(insP ns).length):GrU ns' sc ok n:=by
 rcases h with ⟨h1,h2,h3⟩ | ⟨h1,h2,h3⟩
 ·exact .inl ⟨h1,(hG sc).2 h2,by rw [h3,hl]⟩
 ·exact .inr ⟨h1,fun sc hs=>h2 sc ((hG sc).1 hs),h3⟩
theorem GrU.small {ns:List PN} {sc:Nat→List (Option Nat)} {ok:Bool} {n:Nat} (h:GrU ns sc ok n) (hn:ns.length≤1048576):n≤1048576:=by
 rcases h with ⟨_,_,h3⟩ | ⟨_,_,h3⟩
 ·have:(insP ns).length≤ns.length:=by unfold insP;rw [List.length_map];exact List.length_filter_le _ _
  omega
 ·omega
theorem SuccAt.none (w:World) (sc:Nat→List (Option Nat)):SuccAt w none 0 sc:=⟨[],Rw.nil _ _ _,fun k hk=>absurd hk (by omega)⟩
theorem SuccAt.congr0 {w:World} {A:Option Addr} {n:Nat} {sc sc':Nat→List (Option Nat)} (h:SuccAt w A n sc') (e:∀ k,k < n→sc k=sc' k):SuccAt w A n sc:=by
 obtain ⟨vs,h1,h2⟩:=h
 exact ⟨vs,h1,fun k hk=>by rw [e k hk];exact h2 k hk⟩
def pdM (sc:Nat→List (Option Nat)) (n k:Nat):List (Option Nat):=(pdI sc n k).map some
theorem pdM_congr {sc sc':Nat→List (Option Nat)} {n:Nat} (e:∀ k,k < n→sc k=sc' k) (k:Nat):pdM sc n k=pdM sc' n k:=by
 unfold pdM
 congr 1
 unfold pdI
 refine map_flat rfl fun j x y h1 h2=>?_
 rw [h1] at h2
 injection h2 with h2
 subst h2
 rw [e x (List.mem_range.1 (List.mem_of_getElem? h1))]
theorem GrU.short {ns:List PN} {sc:Nat→List (Option Nat)} {ok:Bool} {n:Nat} (h:GrU ns sc ok n) (hn:ns.length≤1048576):(∀ k,k < n→(sc k).length≤1073741824)∧∀ k,k < n→(pdM sc n k).length≤1073741824:=by
 have hs:=h.small hn
 rcases h with ⟨_,h2,rfl⟩ | ⟨_,_,h3⟩
 ·obtain ⟨_,hL2⟩:=h2.lt
  refine ⟨fun k hk=>Nat.le_trans (hL2 k hk) (by decide),fun k hk=>?_⟩
  unfold pdM
  rw [List.length_map]
  have:=pdI_len (n:=(insP ns).length) (k:=k) hL2
  omega
 ·subst h3
  exact ⟨fun k hk=>absurd hk (by omega),fun k hk=>absurd hk (by omega)⟩
def GivesFlU (w:World) (sc:Nat→List (Option Nat)) (ok:Bool) (n:Nat) (e:Ending) (w':World):Prop:=Fr nope w w'∧∃ A c D d,e = .returned (.tuple #[.slice A n c,.slice D n d,.bool ok])∧SuccAt w' A n sc∧SuccAt w' D n (pdM sc n)
theorem ImFlowU_calls (w:World) (s:SV) (ns:List PN) (hN:NodesAt w w.heap.size s ns) (hok0:ns.all okN=true) {sc:Nat→List (Option Nat)} {ok:Bool} {n:Nat} (h:GrU ns sc ok n):Calls Tryz.prog 9 #[.slice s.A s.n s.c] w (GivesFlU w sc ok n):=by
 refine (ImFlow_calls w s ns hN hok0).mono ?_
 rintro e w' ⟨hf,⟨A,c,D,d,sc',rfl,hG,h1,h2⟩ | ⟨rfl,hno⟩⟩
 ·rcases h with ⟨rfl,hg,rfl⟩ | ⟨_,hno,_⟩
  ·have e:=hg.uniq hG
   refine ⟨hf,A,c,D,d,rfl,h1.congr0 e,h2.congr0 fun k _=>?_⟩
   exact pdM_congr e k
  ·exact absurd hG (hno sc')
 ·rcases h with ⟨_,hg,_⟩ | ⟨rfl,_,rfl⟩
  ·exact absurd hg (hno sc)
  ·exact ⟨hf,none,0,none,0,rfl,SuccAt.none _ _,SuccAt.none _ _⟩
def GivesFGU (w:World) (ok:Bool) (e:Ending) (w':World):Prop:=Fr nope w w'∧∃ x y,e = .returned (.tuple #[x,y,.bool ok])
theorem FlowGraphU_calls (w:World) (B:Nat) (s:SV) (ns:List PN) (hN:NodesAt w B s ns) (hok:ns.all okN=true) {sc:Nat→List (Option Nat)} {ok:Bool} {n:Nat} (h:GrU ns sc ok n):Calls Tryz.prog 10 #[s.val] w (GivesFGU w ok):=by
 refine (FlowGraph_calls w B s ns hN hok).mono ?_
 rintro e w' ⟨hf,⟨A,c,D,d,sc',rfl,hG,h1⟩ | ⟨rfl,hno⟩⟩
 ·rcases h with ⟨rfl,hg,rfl⟩ | ⟨_,hno,_⟩
  ·exact ⟨hf,_,_,rfl⟩
  ·exact absurd hG (hno sc')
 ·rcases h with ⟨_,hg,_⟩ | ⟨rfl,_,rfl⟩
  ·exact absurd hg (hno sc)
  ·exact ⟨hf,_,_,rfl⟩
def LvU (ns:List PN) (sc:Nat→List (Option Nat)) (ok:Bool) (l1 l2:List TL):Prop:=(ok=true∧LvT (LiveInP (insP ns) sc) (insP ns).length l1∧LvT (LiveOutP (insP ns) sc) (insP ns).length l2)∨(ok=false∧l1=[]∧l2=[])
theorem LvU.tidy {ns:List PN} {sc:Nat→List (Option Nat)} {ok:Bool} {l1 l2:List TL} (h:LvU ns sc ok l1 l2):(∀ s∈l1,Tidy s)∧∀ s∈l2,Tidy s:=by
 rcases h with ⟨_,h1,h2⟩ | ⟨_,rfl,rfl⟩
 ·exact ⟨fun s hs=>by obtain ⟨k,hk⟩:=List.mem_iff_getElem?.1 hs;exact (h1.2 k s hk).1,fun s hs=>by obtain ⟨k,hk⟩:=List.mem_iff_getElem?.1 hs;exact (h2.2 k s hk).1⟩
 ·exact ⟨fun s hs=>(List.not_mem_nil hs).elim,fun s hs=>(List.not_mem_nil hs).elim⟩
theorem LvU.len {ns:List PN} {sc:Nat→List (Option Nat)} {ok:Bool} {l1 l2:List TL} (h:LvU ns sc ok l1 l2) (hn:ns.length≤1048576):l1.length≤1048576∧l2.length≤1048576:=by
 have:(insP ns).length≤ns.length:=by unfold insP;rw [List.length_map];exact List.length_filter_le _ _
 rcases h with ⟨_,h1,h2⟩ | ⟨_,rfl,rfl⟩
 ·exact ⟨by rw [h1.1];omega,by rw [h2.1];omega⟩
 ·exact ⟨Nat.zero_le _,Nat.zero_le _⟩
theorem LvU.uniq {ns ns':List PN} (hr:RegL (insP ns) (insP ns')) {sc:Nat→List (Option Nat)} {ok:Bool} {l1 l2 l1' l2':List TL} (h:LvU ns sc ok l1 l2) (h':LvU ns' sc ok l1' l2'):l1'=l1∧l2'=l2:=by
 rcases h with ⟨rfl,h1,h2⟩ | ⟨rfl,rfl,rfl⟩
 ·rcases h' with ⟨_,h1',h2'⟩ | ⟨h0,_,_⟩
  ·rw [hr.in_,hr.1] at h1'
   rw [hr.out,hr.1] at h2'
   exact ⟨h1'.uniq h1 fun _ _ _=>Iff.rfl,h2'.uniq h2 fun _ _ _=>Iff.rfl⟩
  ·cases h0
 ·rcases h' with ⟨h0,_,_⟩ | ⟨_,rfl,rfl⟩
  ·cases h0
  ·exact ⟨rfl,rfl⟩
theorem LvT.congr {L L':Nat→Nat→Nat→Prop} {n:Nat} {l:List TL} (h:LvT L n l) (e:L'=L):LvT L' n l:=by rw [e];exact h
theorem TlsAt.none (w:World):TlsAt w none []:=⟨[],Rw.nil _ _ _,rfl,fun k s l h=>by simp at h⟩
def AlU (ns:List PN) (ok:Bool) (l:List (Nat × Nat)):Prop:=(ok=true∧∃ f,AFRes ns (some f)∧PairsOf f l)∨(ok=false∧AFRes ns none∧l=[])
theorem AlU.uniq {ns:List PN} {ok ok':Bool} {l l':List (Nat × Nat)} (h:AlU ns ok l) (h':AlU ns ok' l'):ok'=ok∧l'=l:=by
 rcases h with ⟨rfl,f,h1,h2⟩ | ⟨rfl,h1,rfl⟩
 ·rcases h' with ⟨rfl,f',h1',h2'⟩ | ⟨rfl,h1',rfl⟩
  ·have:=h1.uniq h1'
   injection this with this
   subst this
   exact ⟨rfl,h2'.uniq h2⟩
  ·cases h1.uniq h1'
 ·rcases h' with ⟨rfl,f',h1',h2'⟩ | ⟨rfl,h1',rfl⟩
  ·cases h1.uniq h1'
  ·exact ⟨rfl,rfl⟩
theorem AlU.regs {ns ns':List PN} (h:RegL (insP ns) (insP ns')) (hG:∀ sc,GraphP ns' sc↔GraphP ns sc) {ok:Bool} {l:List (Nat × Nat)} (ha:AlU ns' ok l):AlU ns ok l:=by
 have hG':=fun sc=>(hG sc).symm
 rcases ha with ⟨rfl,f,h1,h2⟩ | ⟨rfl,h1,rfl⟩
 ·exact .inl ⟨rfl,f,h1.regs h.symm hG',h2⟩
 ·exact .inr ⟨rfl,h1.regs h.symm hG',rfl⟩
def GivesAFU (w:World) (ns:List PN) (e:Ending) (w':World):Prop:=Fr nope w w'∧∃ A c l ok,e = .returned (.tuple #[.slice A l.length c,.bool ok])∧AlU ns ok l∧l.length≤1000000000∧PairsAt w' A l
theorem AllocFnU_calls (w:World) (s:SV) (ns:List PN) (hN:NodesAt w w.heap.size s ns) (h:AFOk ns):Calls Tryz.prog 16 #[.slice s.A s.n s.c] w (GivesAFU w ns):=by
 refine (AllocFn_calls w s ns hN h).mono ?_
 rintro e w' ⟨hf,⟨h1,rfl⟩ | ⟨f,A,c,l,h1,h2,h3,rfl,h4⟩⟩
 ·exact ⟨hf,none,0,[],false,rfl,.inr ⟨rfl,h1,rfl⟩,Nat.zero_le _,fun h=>by simp at h⟩
 ·exact ⟨hf,A,c,l,true,rfl,.inl ⟨rfl,f,h1,h2⟩,h3,PairsAt.of h4⟩
end
end Go.Proofs.YtbgblfiapecioaaGreat
