/- Part of the proof of a statement about pub-berthage: what its texts have in common. -/
import Derived.Sort.KeysCollected
import Derived.Test.YtbgblfiapecioaaGreatP27
import Derived.Test.YtbgblfiapecioaaGreatP36
import Derived.Test.YtbgblfiapecioaaGreatP38
import Derived.Test.YtbgblfiapecioaaGreatP39
import Derived.Test.YtbgblfiapecioaaGreatP40
namespace Go.Proofs.YtbgblfiapecioaaGreat
section
open Go Go.RowKit Bth
set_option maxRecDepth 100000
set_option maxHeartbeats 4000000 in
theorem SameInstr_calls (w:World) (B B':Nat) (p p':PI) (h:p.At w B) (h':p'.At w B') (hs:SameI p p'):Calls Tryz.prog 69 #[p.agg,p'.agg] w (GivesB w true):=by
 obtain ⟨s1,s2,s3,s4,s5,s6,s7,s8,s9,s10⟩:=hs
 have hT1:=fun W (hW:Fr nope w W)=>irTexts_calls W p.sufV.A p'.sufV.A p.sufV.c p'.sufV.c p.suf (h.suf.2.nope hW) (s2 ▸ h'.suf.2.nope hW) h.few.1
 have hT2:=fun W (hW:Fr nope w W)=>irTexts_calls W p.isaV.A p'.isaV.A p.isaV.c p'.isaV.c p.isa (h.isa.2.nope hW) (s3 ▸ h'.isa.2.nope hW) h.few.2.2.2.2
 have hO1:=fun W (hW:Fr nope w W)=>SameOps_calls W p.opsV p'.opsV p.ops (h.ops.nope hW) (s4 ▸ h'.ops.nope hW) h.few.2.1
 have hO2:=fun W (hW:Fr nope w W)=>SameOps_calls W p.inpV p'.inpV p.inp (h.inp.nope hW) (s5 ▸ h'.inp.nope hW) h.few.2.2.1
 have hO3:=fun W (hW:Fr nope w W)=>SameOps_calls W p.outV p'.outV p.out (h.out.nope hW) (s6 ▸ h'.out.nope hW) h.few.2.2.2.1
 have n1:p.sufV.n=p.suf.length:=h.suf.1
 have n2:p'.sufV.n=p.suf.length:=s2 ▸ h'.suf.1
 have n3:p.isaV.n=p.isa.length:=h.isa.1
 have n4:p'.isaV.n=p.isa.length:=s3 ▸ h'.isa.1
 clear h h'
 obtain ⟨opc,⟨A1,m1,c1⟩,suf,⟨A2,m2,c2⟩,ops,⟨A3,m3,c3⟩,inp,⟨A4,m4,c4⟩,out,term,br,cond,canc,⟨A5,m5,c5⟩,isa⟩:=p
 obtain ⟨opc',⟨A1',m1',c1'⟩,suf',⟨A2',m2',c2'⟩,ops',⟨A3',m3',c3'⟩,inp',⟨A4',m4',c4'⟩,out',term',br',cond',canc',⟨A5',m5',c5'⟩,isa'⟩:=p'
 simp only at s1 s2 s3 s4 s5 s6 s7 s8 s9 s10 n1 n2 n3 n4 hT1 hT2 hO1 hO2 hO3
 subst s1 s2 s3 s4 s5 s6 s7 s8 s9 s10 n1 n2 n3 n4
 simp only [PI.agg,PI.cells,SV.val] at hT1 hT2 hO1 hO2 hO3 ⊢
 obtain ⟨o1,ho1⟩:∃ o,o=Obj.cells #[.string opc',.slice A1 suf'.length c1,.slice A2 m2 c2,.slice A3 m3 c3,.slice A4 m4 c4,.bool term',.bool br',.bool cond',.bool canc',.slice A5 isa'.length c5] 46:=⟨_,rfl⟩
 obtain ⟨o2,ho2⟩:∃ o,o=Obj.cells #[.string opc',.slice A1' suf'.length c1',.slice A2' m2' c2',.slice A3' m3' c3',.slice A4' m4' c4',.bool term',.bool br',.bool cond',.bool canc',.slice A5' isa'.length c5'] 46:=⟨_,rfl⟩
 have hcs:∀ W,Fr nope ((w.alloc o1).alloc o2) W→W.cell? ⟨w.heap.size,1,none⟩=some (.slice A1 suf'.length c1)∧W.cell? ⟨w.heap.size,9,none⟩=some (.slice A5 isa'.length c5)∧W.cell? ⟨w.heap.size,2,none⟩=some (.slice A2 m2 c2)∧W.cell? ⟨w.heap.size,3,none⟩=some (.slice A3 m3 c3)∧W.cell? ⟨w.heap.size,4,none⟩=some (.slice A4 m4 c4)∧W.cell? ⟨w.heap.size+1,1,none⟩=some (.slice A1' suf'.length c1')∧W.cell? ⟨w.heap.size+1,9,none⟩=some (.slice A5' isa'.length c5')∧W.cell? ⟨w.heap.size+1,2,none⟩=some (.slice A2' m2' c2')∧W.cell? ⟨w.heap.size+1,3,none⟩=some (.slice A3' m3' c3')∧W.cell? ⟨w.heap.size+1,4,none⟩=some (.slice A4' m4' c4'):=fun W hW=>by
  have h1:=(((Fr.refl nope (w.alloc o1)).alloc o2).then hW).heap (heap_alloc_new w o1) (fun x=>x)
  have h2:=hW.heap (heap_alloc_new (w.alloc o1) o2) (fun x=>x)
  have es:(w.alloc o1).heap.size=w.heap.size+1:=by simp
  rw [es] at h2
  subst ho1 ho2
  have k1:=fun j=>cell_of_row _ _ j _ _ (0,0) h1
  have k2:=fun j=>cell_of_row _ _ j _ _ (0,0) h2
  exact ⟨k1 1,k1 9,k1 2,k1 3,k1 4,k2 1,k2 9,k2 2,k2 3,k2 4⟩
 have h00:Fr nope w ((w.alloc o1).alloc o2):=((Fr.refl nope w).alloc _).alloc _
 subst ho1 ho2
 replace hcs:=Lib.hid hcs
 replace hT1:=Lib.hid hT1
 replace hT2:=Lib.hid hT2
 replace hO1:=Lib.hid hO1
 replace hO2:=Lib.hid hO2
 replace hO3:=Lib.hid hO3
 go_enter Tryz.func69,Tryz.ntmps69
 go_wp2_with fail
 refine (hT1.out _ h00).mono ?_
 rintro e w1 ⟨rfl,hf1⟩
 have hn1:=(Fr.refl nope _).then hf1
 have hS1:=hcs.out _ hn1
 go_wp2_with fail
 refine (hT2.out _ (h00.then hn1)).mono ?_
 rintro e w2 ⟨rfl,hf2⟩
 have hn2:=hn1.then hf2
 have hS2:=hcs.out _ hn2
 go_wp2_with fail
 refine (hO1.out _ (h00.then hn2)).mono ?_
 rintro e w3 ⟨rfl,hf3⟩
 have hn3:=hn2.then hf3
 have hS3:=hcs.out _ hn3
 go_wp2_with fail
 refine (hO2.out _ (h00.then hn3)).mono ?_
 rintro e w4 ⟨rfl,hf4⟩
 have hn4:=hn3.then hf4
 have hS4:=hcs.out _ hn4
 go_wp2_with fail
 refine (hO3.out _ (h00.then hn4)).mono ?_
 rintro e w5 ⟨rfl,hf5⟩
 have hn5:=hn4.then hf5
 go_wp2
 go_ret
 exact ⟨rfl,h00.then hn5⟩
end
section
open Go Go.RowKit Bth
set_option maxRecDepth 100000
set_option maxHeartbeats 4000000 in
theorem SameNodeN_calls (w:World) (B B':Nat) (p p':PN) (h:p.At w B) (h':p'.At w B') (hs:SameN p p') (hk:p.kind=1∨p.kind=2∨p.kind=3):Calls Tryz.prog 40 #[p.agg,p'.agg] w (GivesB w true):=by
 rcases hk with hk | hk
 ·have hI:=fun W (hW:Fr nope w W)=>SameInstr_calls W B B' p.ins p'.ins (h.ins.fr hW (fun _ _ x=>x)) (h'.ins.fr hW (fun _ _ x=>x)) (hs.ins hk)
  have hk':=hs.kind
  clear h h' hs
  obtain ⟨o1,ho1⟩:∃ o,o=Obj.cells p.cells 48:=⟨_,rfl⟩
  obtain ⟨o2,ho2⟩:∃ o,o=Obj.cells p'.cells 48:=⟨_,rfl⟩
  have hr1:((w.alloc o1).alloc o2).rangeAt w.heap.size 3 p.ins.cells.toList:=by
   have h1:=((Fr.refl nope (w.alloc o1)).alloc o2).heap (heap_alloc_new w o1) (fun x=>x)
   subst ho1
   exact PN.range h1
  have hr2:((w.alloc o1).alloc o2).rangeAt (w.heap.size+1) 3 p'.ins.cells.toList:=by
   have h2:=heap_alloc_new (w.alloc o1) o2
   have es:(w.alloc o1).heap.size=w.heap.size+1:=by simp
   rw [es] at h2
   subst ho2
   exact PN.range h2
  have h00:Fr nope w ((w.alloc o1).alloc o2):=((Fr.refl nope w).alloc _).alloc _
  obtain ⟨kind,label,⟨lA,ln,lc⟩,lines,ins⟩:=p
  obtain ⟨kind',label',⟨lA',ln',lc'⟩,lines',ins'⟩:=p'
  simp only at hk hk' hI hr1 hr2
  rw [hk] at hk'
  subst hk hk' ho1 ho2
  simp only [PN.agg,PN.cells,SV.val] at hr1 hr2 h00 ⊢
  unfold PI.agg at hI
  replace hI:=Lib.hid hI
  go_enter Tryz.func40,Tryz.ntmps40
  go_wp2_with (first
   | (refine wpList_load_mid rfl _ _ rfl w.heap.size 3 rfl ins.cells.toList _ hr1 Tryz.underlying46 rfl (by kernel_rfl) ?_)
   | (refine wpList_load_mid rfl _ _ rfl (w.heap.size+1) 3 rfl ins'.cells.toList _ hr2 Tryz.underlying46 rfl (by kernel_rfl) ?_))
  refine (hI.out _ h00).mono ?_
  rintro e w1 ⟨rfl,hf1⟩
  go_wp2
  go_ret
  exact ⟨rfl,h00.then hf1⟩
 ·exact SameNode_calls w B p p' h ⟨B',h'⟩ ⟨hs.kind,hs.label,hs.lines⟩ hk
end
section
open Go Go.RowKit Bth
theorem Tidy.take {s:TL} (h:Tidy s):∀ k,Tidy (s.take k):=by
 induction h with
 | nil=>intro k;rw [List.take_nil];exact .nil
 | cons h h1 h2 h3 h4 ih=>
  intro k
  cases k with
  | zero=>exact .nil
  | succ k=>exact .cons (ih k) (fun y hy=>h1 y (List.mem_of_mem_take hy)) h2 h3 h4
theorem Tidy.ordered {s:TL} (h:Tidy s):∀ {i k:Nat} {x y:Nat × Nat},s[i]? = some x→s[k]? = some y→i < k→x.1 < y.1:=by
 induction h with
 | nil=>intro i k x y h1;simp at h1
 | cons h h1 _ _ _ ih=>
  intro i k x y hi hk hlt
  cases k with
  | zero=>omega
  | succ k=>
   cases i with
   | zero=>
    injection hi with hi
    subst hi
    exact h1 y (List.mem_of_getElem? hk)
   | succ i=>exact ih hi hk (by omega)
theorem Tidy.apart {s:TL} (h:Tidy s) {i k:Nat} {x y:Nat × Nat} (hi:s[i]? = some x) (hk:s[k]? = some y) (hne:i≠k):x.1≠y.1:=by
 rcases Nat.lt_or_gt_of_ne hne with h' | h'
 ·have:=h.ordered hi hk h';omega
 ·have:=h.ordered hk hi h';omega
theorem mIns_last {id m:Nat} : ∀ {s:TL},(∀ y∈s,y.1 < id)→mIns id m s=s ++ [(id,m)]
 | [],_=>rfl
 | x :: t,h=>by
  show (if x.1 < id then x :: mIns id m t else _)=_
  rw [if_pos (h x (by simp)),mIns_last fun y hy=>h y (by simp [hy])]
  rfl
theorem Tidy.snoc {s:TL} (h:Tidy s) {k:Nat} {x:Nat × Nat} (hk:s[k]? = some x):mAdd (s.take k) x.1 x.2=s.take (k+1):=by
 unfold mAdd
 rw [if_neg (h.bound x (List.mem_of_getElem? hk)).2.2,mIns_last,List.take_add_one,hk]
 ·rfl
 ·intro y hy
  obtain ⟨i,hi⟩:=List.getElem?_of_mem hy
  rw [List.getElem?_take] at hi
  split at hi
  ·rename_i hlt
   exact h.ordered hi hk hlt
  ·cases hi
end
section
open Go Go.RowKit Bth
set_option maxRecDepth 100000
theorem LiveInP.congr {is:List PI} {sc sc':Nat→List (Option Nat)} (h:∀ k,k < is.length→sc k=sc' k):LiveInP is sc=LiveInP is sc':=by
 have e:(flowP is sc).succ=(flowP is sc').succ:=by
  funext x y
  show (x < is.length∧y < is.length∧some y∈sc x)=(x < is.length∧y < is.length∧some y∈sc' x)
  by_cases hx:x < is.length
  ·rw [h x hx]
  ·simp [hx]
 unfold LiveInP
 rw [e]
 rfl
theorem RegL.in_ {is is':List PI} (h:RegL is is') (sc:Nat→List (Option Nat)):LiveInP is' sc=LiveInP is sc:=by
 obtain ⟨h1,h2,h3⟩:=h.flow sc
 unfold LiveInP
 rw [h1,h2,h3]
theorem LvT.uniq {L L':Nat→Nat→Nat→Prop} {n:Nat} {l l':List TL} (h:LvT L n l) (h':LvT L' n l') (hL:∀ k c b,L k c b↔L' k c b):l=l':=by
 refine List.ext_getElem? fun k=>?_
 cases h1:l[k]? with
 | none=>rw [List.getElem?_eq_none (by rw [h'.1,← h.1];exact List.getElem?_eq_none_iff.1 h1)]
 | some s=>
  have hk:=(List.getElem?_eq_some_iff.1 h1).1
  have h2:l'[k]? = some (l'[k]'(by rw [h'.1,← h.1];exact hk)):=List.getElem?_eq_getElem _
  rw [h2]
  congr 1
  obtain ⟨t1,b1⟩:=h.2 k s h1
  obtain ⟨t2,b2⟩:=h'.2 k _ h2
  refine t1.ext t2 fun c=>Nat.eq_of_testBit_eq fun b=>?_
  rw [Bool.eq_iff_iff,b1,b2,hL]
theorem live_same {ns ns':List PN} (hr:RegL (insP ns) (insP ns')) (hG:∀ sc,GraphP ns' sc↔GraphP ns sc) {sc sc':Nat→List (Option Nat)} (h:GraphP ns sc) (h':GraphP ns' sc') {l1 l2 l1' l2':List TL}
  (a1:LvT (LiveInP (insP ns) sc) (insP ns).length l1) (a2:LvT (LiveOutP (insP ns) sc) (insP ns).length l2) (b1:LvT (LiveInP (insP ns') sc') (insP ns').length l1') (b2:LvT (LiveOutP (insP ns') sc') (insP ns').length l2'):l1'=l1∧l2'=l2:=by
 have e:=h.uniq ((hG sc').1 h')
 rw [hr.in_,← LiveInP.congr e,hr.1] at b1
 rw [hr.out,← LiveOutP.congr e,hr.1] at b2
 exact ⟨b1.uniq a1 fun _ _ _=>Iff.rfl,b2.uniq a2 fun _ _ _=>Iff.rfl⟩
def ExtP (is:List PI) (l:List (List UInt8)):Prop:=∃ ss:List (List UInt8),ss.Nodup∧(∀ x,x∈ss↔∃ p∈is,∃ s∈p.isa,x=s.data.toList)∧l=ss.mergeSort leB
theorem ExtP.uniq {is:List PI} {l l':List (List UInt8)} (h:ExtP is l) (h':ExtP is l'):l'=l:=by
 obtain ⟨ss,h1,h2,rfl⟩:=h
 obtain ⟨ss',h1',h2',rfl⟩:=h'
 exact mergeSort_of_perm ((List.perm_ext_iff_of_nodup h1' h1).2 fun x=>by rw [h2,h2'])
end
section
open Go Go.RowKit Bth
set_option maxRecDepth 100000
theorem SuccAt.congr {w:World} {A:Option Addr} {n:Nat} {sc sc':Nat→List (Option Nat)} (h:SuccAt w A n sc) (e:∀ k,k < n→sc k=sc' k):SuccAt w A n sc':=by
 obtain ⟨vs,h1,h2⟩:=h
 refine ⟨vs,h1,fun k hk=>?_⟩
 obtain ⟨A',c,h3,h4⟩:=h2 k hk
 rw [e k hk] at h3 h4
 exact ⟨A',c,h3,h4⟩
theorem pdI.congr {sc sc':Nat→List (Option Nat)} {n:Nat} (e:∀ k,k < n→sc k=sc' k) (k:Nat):pdI sc n k=pdI sc' n k:=by
 unfold pdI
 refine map_flat rfl fun j x y h1 h2=>?_
 rw [h1] at h2
 injection h2 with h2
 subst h2
 have hj:x < n:=List.mem_range.1 (List.mem_of_getElem? h1)
 rw [e x hj]
theorem flow_same {ns ns':List PN} (hl:(insP ns').length=(insP ns).length) (hG:∀ sc,GraphP ns' sc↔GraphP ns sc) {w:World} {A' D':Option Addr} {sc sc':Nat→List (Option Nat)} (h:GraphP ns sc) (h':GraphP ns' sc')
  (b1:SuccAt w A' (insP ns').length sc') (b2:SuccAt w D' (insP ns').length fun k=>(pdI sc' (insP ns').length k).map some):SuccAt w A' (insP ns).length sc∧SuccAt w D' (insP ns).length fun k=>(pdI sc (insP ns).length k).map some:=by
 have e:=((hG sc').1 h').uniq h
 rw [hl] at b1 b2
 exact ⟨b1.congr e,b2.congr fun k _=>by rw [pdI.congr e]⟩
end
section
open Go Go.RowKit Bth
set_option maxRecDepth 100000
def qL (s:ByteArray):ByteArray:=⟨#[113]⟩ ++ s
theorem qL_inj:∀ a b,qL a=qL b→a=b:=fun a b h=>by
 have h:=congrArg (fun x=>x.data.toList) h
 simp [qL,ByteArray.data_append] at h
 exact ByteArray.ext (by simpa using h)
theorem calP_take {q:ByteArray→ByteArray} {ps:List PO} {k:Nat} {p:PO} (h:ps[k]? = some p):(ps.take (k+1)).map (calP q)=(ps.take k).map (calP q) ++ [calP q p]:=by
 rw [take_snoc h,List.map_append]
 rfl
end
section
open Go Go.RowKit Bth
set_option maxRecDepth 100000
theorem quiet_ok {ns:List PN} (h:ns.all okN=true):(quietL ns).all okN=true:=
 List.all_eq_true.2 fun p hp=>List.all_eq_true.1 h p (List.mem_filter.1 hp).1
theorem LvOk.quiet {ns:List PN} (h:LvOk ns):LvOk (quietL ns):=⟨quiet_ok h.ok,by rw [quiet_ins];exact h.ops,by rw [quiet_ins];exact h.canc⟩
theorem AFOk.quiet {ns:List PN} (h:AFOk ns):AFOk (quietL ns):=by
 obtain ⟨h1,h2,h3,h4,h5,h6,h7⟩:=h
 refine ⟨quiet_ok h1,?_,?_,?_,?_,?_,?_⟩<;>rw [quiet_ins]<;>assumption
theorem LvOk.known {w:World} {B:Nat} {s:SV} {ns:List PN} (hN:NodesAt w B s ns) (hok:ns.all okN=true) (hk:∀ p∈insP ns,knI p=true):LvOk ns:=by
 refine ⟨hok,fun p hp=>?_,fun p hp hc=>?_⟩
 ·obtain ⟨n,hn,rfl⟩:=insP_mem hp
  exact PI.ok_of (hN.each n hn).ins
 ·have h:=hk p hp
  have ho:okI p=true:=by
   obtain ⟨n,hn,hi⟩:=List.mem_map.1 hp
   obtain ⟨hn,hk⟩:=List.mem_filter.1 hn
   have:=List.all_eq_true.1 hok n hn
   unfold okN at this
   rw [if_pos (by simpa using hk)] at this
   rw [← hi]
   exact this
  rw [knI_ok ho,hc] at h
  have h:1 < (gsOf p.inp).length:=by simpa using h
  exact h
theorem calP_ok (q:ByteArray→ByteArray) (p:PO):okP (calP q p)=okP p:=by
 unfold calP
 split
 ·rename_i h
  unfold okP
  simp only [h]
  rfl
 ·rfl
theorem calL_ok (q:ByteArray→ByteArray) (l:List PO):(l.map (calP q)).all okP=l.all okP:=by
 rw [List.all_map]
 congr 1
 funext p
 exact calP_ok q p
theorem CalM.ok {q:ByteArray→ByteArray} {p p':PN} (h:CalM q p p'):okN p'=okN p:=by
 unfold okN
 rw [h.kind]
 split
 ·rename_i e
  obtain ⟨_,_,_,h1,h2,h3,_⟩:=h.ins e
  unfold okI
  rw [h1,h2,h3,calL_ok,calL_ok,calL_ok]
 ·rfl
theorem F2.ok {q:ByteArray→ByteArray} {ns cs:List PN} (h:F2 (CalM q) ns cs):cs.all okN=ns.all okN:=by
 induction h with
 | nil=>rfl
 | cons h1 _ ih=>rw [List.all_cons,List.all_cons,h1.ok,ih]
theorem sum_same {α : Type} {f:α → Nat} : ∀ {l l':List α},l'.length=l.length→(∀ (k:Nat) (a b:α),l[k]? = some a→l'[k]? = some b→f b=f a)→sumL f l'=sumL f l
 | [],[],_,_=>rfl
 | [],_ :: _,h,_=>by simp at h
 | _ :: _,[],h,_=>by simp at h
 | a :: l,b :: m,h,hk=>by
  have ih:=sum_same (f:=f) (l:=l) (l':=m) (by simpa using h) fun k x y h1 h2=>hk (k+1) x y h1 h2
  have h0:=hk 0 a b rfl rfl
  unfold sumL at ih ⊢
  rw [List.map_cons,List.map_cons,List.sum_cons,List.sum_cons,ih,h0]
theorem AFOk.cal {q:ByteArray→ByteArray} {w:World} {B:Nat} {s:SV} {ns cs:List PN} (h:AFOk ns) (hc:F2 (CalM q) ns cs) (hN:NodesAt w B s cs):AFOk cs:=by
 have hn:=CalM.ns hc
 have hr:=hn.regs
 have hi:=hn.ins
 have back:∀ p'∈insP cs,∃ p∈insP ns,CalI q p p':=fun p' hp=>by
  obtain ⟨k,hk⟩:=List.getElem?_of_mem hp
  have hlt:=(List.getElem?_eq_some_iff.1 hk).1
  rw [hi.1] at hlt
  exact ⟨_,List.getElem_mem hlt,hi.2 k _ p' (List.getElem?_eq_getElem hlt) hk⟩
 refine ⟨by rw [hc.ok];exact h.ok,fun p hp=>?_,fun p hp e=>?_,fun p hp g hg=>?_,fun p hp g hg=>?_,?_,?_⟩
 ·obtain ⟨n,hn,rfl⟩:=insP_mem hp
  exact PI.ok_of (hN.each n hn).ins
 ·obtain ⟨p0,h0,hx⟩:=back p hp
  rw [hx.inp.all.1]
  exact h.canc p0 h0 (by rw [← hx.canc];exact e)
 ·obtain ⟨p0,h0,hx⟩:=back p hp
  rw [hx.ops.all.1] at hg
  exact h.kinds p0 h0 g hg
 ·obtain ⟨p0,h0,hx⟩:=back p hp
  rw [hx.out.all.2.1] at hg
  exact hr.kinds (h.outs p0 h0 g hg)
 ·rw [sum_same hi.1 fun k a b h1 h2=>by rw [(hr.2 k a b h1 h2).outs],sum_same (f:=fun p=>(inGs p.canc p.inp p.out).length) hi.1 fun k a b h1 h2=>by rw [(hr.2 k a b h1 h2).ins]]
  exact h.few
 ·rw [sum_same (f:=fun p=>(gsOf p.ops).length) hi.1 fun k a b h1 h2=>by rw [(hr.2 k a b h1 h2).ops],sum_same (f:=fun p=>(outGs p.out).length) hi.1 fun k a b h1 h2=>by rw [(hr.2 k a b h1 h2).outs],sum_same (f:=fun p=>(inGs p.canc p.inp p.out).length) hi.1 fun k a b h1 h2=>by rw [(hr.2 k a b h1 h2).ins]]
  exact h.few2
end
section
open Go Go.RowKit Go.ChangeShapes Go.WideShapes Go.Deep Bth
set_option maxRecDepth 100000
section
variable {H:Type} {enc:TypeId × Value→H} {w:World} {n:Nat}
theorem re_str {b:ByteArray} {x:DataW H × List MemPlace} (h:DataW.trod enc Tryz.prog w 0 (fun _=>true) true n 9 [.string b]=some x):b.size+1=Rows.uptoBulk x.1:=by
 obtain ⟨b',h1,hx,_⟩:=DataW.trod_string Tryz.underlying9 h
 obtain rfl:b=b':=by simpa using h1
 rw [hx]
 simp [Rows.uptoBulk]
theorem re_op {p:PO} {x:DataW H × List MemPlace} (h:DataW.trod enc Tryz.prog w 0 (fun _=>true) true n 83 p.cells.toList=some x):p.label.size≤Rows.uptoBulk x.1:=by
 obtain ⟨xs,m,_,hx,_,hl,hf⟩:=DataW.trod_struct Tryz.underlying83 h
 obtain ⟨⟨ki,ks,kb,k8⟩,⟨k16,k64,k32,ksl⟩,kop,kr,kc,ko,kin,kno⟩:=cells1
 match xs,hl with
 | [y0,y1,y2,y3,y4,y5,y6,y7,y8,y9,y10,y11,y12],_=>
  have h1:DataW.trod enc Tryz.prog w 0 (fun _=>true) true m 9 [.string p.label]=some y11:=by
   have q:DataW.trod enc Tryz.prog w 0 (fun _=>true) true m 9 ((List.drop 22 p.cells.toList).take (Tryz.prog.cellsOf 9))=some y11:=hf 11 _ rfl
   rw [ks] at q
   exact q
  have h2:=re_str h1
  subst hx
  simp only [List.map_cons,List.map_nil,Rows.uptoBulk,Rows.uptoBulkAll]
  omega
theorem re_ops {s:SV} {ps:List PO} {x:DataW H × List MemPlace} (h:DataW.trod enc Tryz.prog w 0 (fun _=>true) true n 44 [s.val]=some x) (hp:POsAt w s ps):∀ p∈ps,p.label.size≤Rows.uptoBulk x.1:=by
 intro p hpm
 obtain ⟨k,hk⟩:=List.getElem?_of_mem hpm
 have hlt:=(List.getElem?_eq_some_iff.1 hk).1
 obtain ⟨A,ln,cp⟩:=s
 obtain ⟨e1,hr⟩:=hp
 obtain ⟨b,off,hA,hbl,hc⟩:=hr (by omega)
 simp only at e1 hA
 subst e1 hA
 rcases open_slice Tryz.underlying44 h with ⟨hc',hx⟩ | ⟨a,len,cap,m,n',D,Pl,hc',hb,hl,hm,hmm,hx,hi⟩
 ·simp [SV.val] at hc'
 ·simp only [SV.val,List.cons.injEq,Value.slice.injEq,Option.some.injEq,and_true] at hc'
  obtain ⟨rfl,rfl,rfl⟩:=hc'
  rw [cells1.2.2.2.2.2.1] at hi
  have hmc:m=cp:=by simpa using hmm
  have hkm:k < m:=by rw [hmc];omega
  obtain ⟨cs',h1,h2⟩:=hi k hkm
  obtain ⟨q1,q2⟩:=range_of h1
  have e:cs'=p.cells.toList:=by
   refine List.ext_getElem? fun j=>?_
   by_cases hj:j < 24
   ·have hj':cs'[j]? = some (cs'[j]'(by omega)):=List.getElem?_eq_getElem _
    have g1:=q1 j _ hj'
    obtain ⟨v,hv⟩:∃ v,p.cells.toList[j]? = some v:=⟨_,List.getElem?_eq_getElem (show j < p.cells.toList.length from hj)⟩
    have g2:=hc k p hk j v hv
    rw [g1] at g2
    rw [hj',hv,g2]
   ·rw [List.getElem?_eq_none (by omega),List.getElem?_eq_none (show p.cells.toList.length≤j from (by omega:24≤j))]
  subst e
  have hle:=re_op h2
  have hD:D k∈(List.range ps.length).map D:=List.mem_map.2 ⟨k,List.mem_range.2 hlt,rfl⟩
  have h3:=bulk_part hD
  rw [hx]
  simp only [Rows.uptoBulk]
  have h4:Rows.uptoBulk (D k)=Rows.uptoBulk (D k,Pl k).1:=rfl
  omega
def LblI (N:Nat) (p:PI):Prop:=(∀ o∈p.ops,o.label.size≤N)∧(∀ o∈p.inp,o.label.size≤N)∧∀ o∈p.out,o.label.size≤N
theorem cellsOps:Tryz.prog.cellsOf 44=1:=by kernel_rfl
theorem re_ins {p:PI} {B:Nat} {x:DataW H × List MemPlace} (h:DataW.trod enc Tryz.prog w 0 (fun _=>true) true n 46 p.cells.toList=some x) (hp:p.At w B):LblI (Rows.uptoBulk x.1) p:=by
 obtain ⟨xs,m,_,hx,_,hl,hf⟩:=DataW.trod_struct Tryz.underlying46 h
 have ksl:=cellsOps
 match xs,hl with
 | [y0,y1,y2,y3,y4,y5,y6,y7,y8,y9],_=>
  have h2:DataW.trod enc Tryz.prog w 0 (fun _=>true) true m 44 [p.opsV.val]=some y2:=by
   have q:DataW.trod enc Tryz.prog w 0 (fun _=>true) true m 44 ((List.drop 2 p.cells.toList).take (Tryz.prog.cellsOf 44))=some y2:=hf 2 _ rfl
   rw [ksl] at q
   exact q
  have h3:DataW.trod enc Tryz.prog w 0 (fun _=>true) true m 44 [p.inpV.val]=some y3:=by
   have q:DataW.trod enc Tryz.prog w 0 (fun _=>true) true m 44 ((List.drop 3 p.cells.toList).take (Tryz.prog.cellsOf 44))=some y3:=hf 3 _ rfl
   rw [ksl] at q
   exact q
  have h4:DataW.trod enc Tryz.prog w 0 (fun _=>true) true m 44 [p.outV.val]=some y4:=by
   have q:DataW.trod enc Tryz.prog w 0 (fun _=>true) true m 44 ((List.drop 4 p.cells.toList).take (Tryz.prog.cellsOf 44))=some y4:=hf 4 _ rfl
   rw [ksl] at q
   exact q
  have a2:=re_ops h2 hp.ops
  have a3:=re_ops h3 hp.inp
  have a4:=re_ops h4 hp.out
  subst hx
  simp only [List.map_cons,List.map_nil,Rows.uptoBulk,Rows.uptoBulkAll]
  exact ⟨fun o ho=>by have:=a2 o ho;omega,fun o ho=>by have:=a3 o ho;omega,fun o ho=>by have:=a4 o ho;omega⟩
def LblN (N:Nat) (p:PN):Prop:=p.label.size≤N∧LblI N p.ins
theorem re_node {p:PN} {B:Nat} {x:DataW H × List MemPlace} (h:DataW.trod enc Tryz.prog w 0 (fun _=>true) true n 48 p.cells.toList=some x) (hp:p.At w B):LblN (Rows.uptoBulk x.1) p:=by
 obtain ⟨xs,m,_,hx,_,hl,hf⟩:=DataW.trod_struct Tryz.underlying48 h
 obtain ⟨⟨ki,ks,kb,k8⟩,⟨k16,k64,k32,ksl⟩,kop,kr,kc,ko,kin,kno⟩:=cells1
 match xs,hl with
 | [y0,y1,y2,y3],_=>
  have h1:DataW.trod enc Tryz.prog w 0 (fun _=>true) true m 9 [.string p.label]=some y1:=by
   have q:DataW.trod enc Tryz.prog w 0 (fun _=>true) true m 9 ((List.drop 1 p.cells.toList).take (Tryz.prog.cellsOf 9))=some y1:=hf 1 _ rfl
   rw [ks] at q
   exact q
  have h3:DataW.trod enc Tryz.prog w 0 (fun _=>true) true m 46 p.ins.cells.toList=some y3:=by
   have q:DataW.trod enc Tryz.prog w 0 (fun _=>true) true m 46 ((List.drop 3 p.cells.toList).take (Tryz.prog.cellsOf 46))=some y3:=hf 3 _ rfl
   rw [kin] at q
   exact q
  have a1:=re_str h1
  have a3:=re_ins h3 hp.ins
  subst hx
  simp only [List.map_cons,List.map_nil,Rows.uptoBulk,Rows.uptoBulkAll]
  exact ⟨by omega,fun o ho=>by have:=a3.1 o ho;omega,fun o ho=>by have:=a3.2.1 o ho;omega,fun o ho=>by have:=a3.2.2 o ho;omega⟩
theorem re_nodes {s:SV} {B:Nat} {ps:List PN} {x:DataW H × List MemPlace} (h:DataW.trod enc Tryz.prog w 0 (fun _=>true) true n 22 [s.val]=some x) (hp:NodesAt w B s ps):∀ p∈ps,LblN (Rows.uptoBulk x.1) p:=by
 intro p hpm
 obtain ⟨k,hk⟩:=List.getElem?_of_mem hpm
 have hlt:=(List.getElem?_eq_some_iff.1 hk).1
 obtain ⟨A,ln,cp⟩:=s
 have hpa:=hp.each p hpm
 obtain ⟨e1,hr,_,_⟩:=hp
 obtain ⟨b,off,hA,_,hbl,hc⟩:=hr (by omega)
 simp only at e1 hA
 subst e1 hA
 rcases open_slice Tryz.underlying22 h with ⟨hc',hx⟩ | ⟨a,len,cap,m,n',D,Pl,hc',hb,hl,hm,hmm,hx,hi⟩
 ·simp [SV.val] at hc'
 ·simp only [SV.val,List.cons.injEq,Value.slice.injEq,Option.some.injEq,and_true] at hc'
  obtain ⟨rfl,rfl,rfl⟩:=hc'
  rw [cells1.2.2.2.2.2.2.2] at hi
  have hmc:m=cp:=by simpa using hmm
  have hkm:k < m:=by rw [hmc];omega
  obtain ⟨cs',h1,h2⟩:=hi k hkm
  obtain ⟨q1,q2⟩:=range_of h1
  have e:cs'=p.cells.toList:=by
   refine List.ext_getElem? fun j=>?_
   by_cases hj:j < 13
   ·have hj':cs'[j]? = some (cs'[j]'(by omega)):=List.getElem?_eq_getElem _
    have g1:=q1 j _ hj'
    obtain ⟨v,hv⟩:∃ v,p.cells.toList[j]? = some v:=⟨_,List.getElem?_eq_getElem (show j < p.cells.toList.length from hj)⟩
    have g2:=hc k p hk j v hv
    rw [g1] at g2
    rw [hj',hv,g2]
   ·rw [List.getElem?_eq_none (by omega),List.getElem?_eq_none (show p.cells.toList.length≤j from (by omega:13≤j))]
  subst e
  have hle:=re_node h2 hpa
  have hD:D k∈(List.range ps.length).map D:=List.mem_map.2 ⟨k,List.mem_range.2 hlt,rfl⟩
  have h3:=bulk_part hD
  rw [hx]
  simp only [Rows.uptoBulk]
  have h4:Rows.uptoBulk (D k)=Rows.uptoBulk (D k,Pl k).1:=rfl
  rw [← h4] at hle
  exact ⟨by have:=hle.1;omega,fun o ho=>by have:=hle.2.1 o ho;omega,fun o ho=>by have:=hle.2.2.1 o ho;omega,fun o ho=>by have:=hle.2.2.2 o ho;omega⟩
end
end
end Go.Proofs.YtbgblfiapecioaaGreat
