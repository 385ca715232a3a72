/- Part of the proof of a statement about pub-berthage: what its texts have in common. -/
import Derived.Test.YtpbeedabmjmdmaaGreatDoorP12
namespace Go.Proofs.YtpbeedabmjmdmaaGreatDoor
section
open Go Go.RowKit Bth
set_option maxRecDepth 100000
def Xs (sc:Nat→List (Option Nat)) (k:Nat):Bool→Nat→List Value:=fun p j=>if p=true∧j < k then (sc j).map fvI else []
def InsS (rs:List Rec):Nat→Prop:=fun b=>∃ r∈rs,b=r.b
theorem Links.base {w:World} {B B':Nat} {rs:List Rec} {X:Bool→Nat→List Value} (h:Links w B rs X) (hb:B'≤B):Links w B' rs X:=⟨fun p k r hk=>own_le (h.row p k r hk) hb,h.apart⟩
theorem Links.bound {w:World} {B:Nat} {rs:List Rec} {X:Bool→Nat→List Value} (h:Links w B rs X) {p:Bool} {k:Nat} {r:Rec} (hk:rs[k]? = some r) {b:Nat} (hb:(r.i.row p).val.ownBlock=some b):B≤b:=own_base (h.row p k r hk) b hb
theorem Xs_step {sc:Nat→List (Option Nat)} {k:Nat} : Xs sc k true k=[]:=by simp [Xs]
def Xp (sc:Nat→List (Option Nat)) (k:Nat) (pre:List (Option Nat)):Bool→Nat→List Value:=fun p j=>if p=true∧j=k then pre.map fvI else Xs sc k p j
theorem Xp_nil {sc:Nat→List (Option Nat)} {k:Nat} : Xs sc k=Xp sc k []:=by
 funext p j
 unfold Xp
 split
 ·rename_i h;obtain ⟨rfl,rfl⟩:=h;exact Xs_step
 ·rfl
theorem Xp_push {sc:Nat→List (Option Nat)} {k:Nat} {pre:List (Option Nat)} (x:Option Nat):pushX (Xp sc k pre) true k (fvI x)=Xp sc k (pre ++ [x]):=by
 funext p j
 unfold pushX Xp
 split
 ·rw [List.map_append];rfl
 ·rfl
theorem Xp_done {sc:Nat→List (Option Nat)} {k:Nat} {pre:List (Option Nat)} : Xp sc k pre=Xs (fun j=>if j=k then pre else sc j) (k+1):=by
 funext p j
 unfold Xp Xs
 by_cases hp:p=true
 ·by_cases hj:j=k
  ·simp [hp,hj]
  ·by_cases hlt:j < k
   ·simp [hp,hj,hlt,Nat.lt_succ_of_lt hlt]
   ·simp [hp,hj,hlt,show ¬j < k+1 by omega]
 ·simp [hp]
theorem Xp_at {sc:Nat→List (Option Nat)} {k:Nat} {pre:List (Option Nat)} : Xp sc k pre true k=pre.map fvI:=by simp [Xp]
def pdOf (E:List (Option Nat × Nat)) (b:Nat):List Nat:=(E.filter fun e=>e.1 == some b).map (·.2)
def edgesK (sc:Nat→List (Option Nat)) (bs:List Nat) (k:Nat):List (Option Nat × Nat):=(List.range k).flatMap fun i=>(sc i).map fun s=>(s,bs.getD i 0)
theorem edgesK_step (sc:Nat→List (Option Nat)) (bs:List Nat) (k:Nat):edgesK sc bs (k+1)=edgesK sc bs k ++ (sc k).map fun s=>(s,bs.getD k 0):=by
 unfold edgesK;rw [List.range_succ,List.flatMap_append];simp
theorem pdOf_append (E F:List (Option Nat × Nat)) (b:Nat):pdOf (E ++ F) b=pdOf E b ++ pdOf F b:=by unfold pdOf;rw [List.filter_append,List.map_append]
theorem pdOf_le (E:List (Option Nat × Nat)) (b:Nat):(pdOf E b).length≤E.length:=by unfold pdOf;rw [List.length_map];exact List.length_filter_le _ _
theorem succK_le {t:ByteArray→Option Nat} {bs:List Nat} {k:Nat} {i:Ins} {ops:List O} {l:List (Option Nat)} (h:succK t bs k i ops=some l):l.length≤2:=by
 unfold succK at h
 obtain ⟨x,h1,rfl⟩:=Option.map_eq_some_iff.1 h
 have hx:x.length≤1:=by
  split at h1
  ·obtain ⟨s,_,h2⟩:=Option.bind_eq_some_iff.1 h1
   obtain ⟨b,_,rfl⟩:=Option.map_eq_some_iff.1 h2
   simp
  ·injection h1 with h1;subst h1;simp
 rw [List.length_append]
 split<;>simp<;>omega
theorem succK_mem {t:ByteArray→Option Nat} {bs:List Nat} {k:Nat} {i:Ins} {ops:List O} {l:List (Option Nat)} {b:Nat} (h:succK t bs k i ops=some l) (hb:some b∈l) (ht:∀ s b,t s=some b→b∈bs):b∈bs:=by
 unfold succK at h
 obtain ⟨x,h1,rfl⟩:=Option.map_eq_some_iff.1 h
 rcases List.mem_append.1 hb with hb | hb
 ·split at h1
  ·obtain ⟨s,_,h2⟩:=Option.bind_eq_some_iff.1 h1
   obtain ⟨b',h3,rfl⟩:=Option.map_eq_some_iff.1 h2
   obtain rfl:b=b':=by simpa using hb
   exact ht s b h3
  ·injection h1 with h1;subst h1;cases hb
 ·split at hb
  ·cases hb
  ·have hb:bs[k+1]? = some b:=(List.mem_singleton.1 hb).symm
   exact List.mem_of_getElem? hb
theorem edgesK_le {sc:Nat→List (Option Nat)} {bs:List Nat} {k:Nat} (h:∀ i,i < k→(sc i).length≤2):(edgesK sc bs k).length≤2*k:=by
 induction k with
 | zero=>simp [edgesK]
 | succ k ih=>
  rw [edgesK_step,List.length_append,List.length_map]
  have:=ih fun i hi=>h i (by omega)
  have:=h k (by omega)
  omega
def PX (rs:List Rec) (sc:Nat→List (Option Nat)) (X:Bool→Nat→List Value) (E:List (Option Nat × Nat)):Prop:=(∀ j,j < rs.length→X true j=(sc j).map fvI)∧∀ (j:Nat) (r:Rec),rs[j]? = some r→X false j=(pdOf E r.b).map ptr
theorem PX.none {rs:List Rec} {sc:Nat→List (Option Nat)} {X:Bool→Nat→List Value} {E:List (Option Nat × Nat)} (h:PX rs sc X E) (b:Nat):PX rs sc X (E ++ [(none,b)]):=
 ⟨h.1,fun j r hj=>by rw [h.2 j r hj,pdOf_append];simp [pdOf]⟩
theorem PX.some {rs:List Rec} {sc:Nat→List (Option Nat)} {X:Bool→Nat→List Value} {E:List (Option Nat × Nat)} (h:PX rs sc X E) {j:Nat} {r:Rec} (hj:rs[j]? = some r) (hinj:∀ (k:Nat) (x:Rec),rs[k]? = some x→x.b=r.b→k=j) (b:Nat):PX rs sc (pushX X false j (ptr b)) (E ++ [(some r.b,b)]):=by
 refine ⟨fun k hk=>?_,fun k x hx=>?_⟩
 ·rw [← h.1 k hk];simp [pushX]
 ·rw [pdOf_append]
  by_cases hkj:k=j
  ·subst hkj
   rw [hx] at hj
   injection hj with hj
   subst hj
   unfold pushX
   rw [if_pos ⟨rfl,rfl⟩,h.2 k x hx]
   simp [pdOf]
  ·unfold pushX
   rw [if_neg (fun e=>hkj e.2),h.2 k x hx]
   have hne:r.b≠x.b:=fun e=>hkj (hinj k x hx e.symm)
   simp [pdOf,hne]
def GivesCfg (w:World) (fs:Nat→Option Nat) (ns:List PN) (fb:Nat) (f:Fn) (nds:List Nd) (rs:List Rec) (cms:List (Nat × List ByteArray)) (mb:Nat) (t:ByteArray→Option Nat) (e:Ending) (w':World):Prop:=
 Fr (InsS rs) w w'∧LabAt w' mb t ∧
 ((∃ (sc:Nat→List (Option Nat)) (rs':List Rec) (X:Bool→Nat→List Value),(∀ k r,rs[k]? = some r→succK t (rs.map (·.b)) k r.i r.ops=some (sc k))∧e = .returned .nilIface∧Like rs rs'∧FState w' fs ns fb f nds rs' cms∧Links w' w.heap.size rs' X ∧
   PX rs sc X (edgesK sc (rs.map (·.b)) rs.length)) ∨
  (∃ k r,rs[k]? = some r∧succK t (rs.map (·.b)) k r.i r.ops=none)∧∃ T v,e = .returned (.iface T v))
set_option maxHeartbeats 4000000 in
theorem CFG_calls (w:World) (fs:Nat→Option Nat) (ns:List PN) (fb:Nat) (f:Fn) (nds:List Nd) (rs:List Rec) (cms:List (Nat × List ByteArray)) (mb:Nat) (t:ByteArray→Option Nat)
  (st:FState w fs ns fb f nds rs cms) (hfr:∀ r∈rs,Fresh r) (hlt:f.lt=some mb) (hM:LabAt w mb t) (hl:nds.length≤1048576) (ht:∀ s b,t s=some b→∃ r∈rs,r.b=b):
  Calls Tryz.prog 44 #[ptr fb] w (GivesCfg w fs ns fb f nds rs cms mb t):=by
 obtain ⟨A,c,hnn,_,_⟩:=own_slice st.nodes
 have hrl:rs.length≤nds.length:=by
  have:=st.mt.insOf
  have h2:=insOf_le nds
  rw [this,List.length_map] at h2
  exact h2
 have hI:∀ (w:World) (c5:w.cell? ⟨fb,5,none⟩=some (.slice A nds.length c)) (hS:Sl w A nds.length (nds.map Nd.val)),Calls Tryz.prog 58 #[.pointer (some ⟨fb,0,none⟩)] w (GivesOwn w 115 ((rs.map (·.b)).map ptr)):=by
  intro w c5 hS
  have:=Instructions_calls w fb A c nds c5 hS (by omega)
  rw [st.mt.insOf] at this
  exact this
 have hc5:=st.fn.c5
 rw [hnn] at hc5
 have hSn:Sl w A nds.length (nds.map Nd.val):=by have h:=st.nodes;rw [hnn] at h;exact own_Sl h
 replace hnn:=Lib.hid hnn
 replace hlt:=Lib.hid hlt
 have hfl:=lt_of_heap st.fn
 unfold ptr
 go_enter Tryz.func44,Tryz.ntmps44
 go_wp2_with fail
 refine (hI w hc5 hSn).mono ?_
 rintro e w1 ⟨v,rfl,hown,hf1⟩
 simp only [List.length_map] at hown
 obtain ⟨A1,c1,rfl,_,_⟩:=own_slice hown
 have hS1:=own_Sl hown
 have hB1:=own_lt hown
 have st1:=st.frT hf1 (NoT.nope _ _)
 have hM1:=hM.fr hf1 (fun x=>x)
 have his:∀ wr,Fr (InsS rs) w1 wr→Sl wr A1 rs.length ((rs.map (·.b)).map ptr):=fun wr hf=>own_Sl (own_fr hown hf (fun b hb hS=>by
  obtain ⟨r,hr,rfl⟩:=hS
  exact own_ne hown (st1.recs r hr).1.own.at_ (by decide) hb))
 have hBs:∀ b off,A1=some ⟨b,off,none⟩→b < w1.heap.size:=fun b off e=>hB1 b (by rw [e];rfl)
 clear hown hS1 hB1
 have frW:∀ w',Fr (InsS rs) w1 w'→Fr (InsS rs) w w':=fun w' h=>hf1.of_nope.then h
 go_wp2
 go_loopg [5] rs.length (fun n c5 wr=>∃ (k:Nat) (rs1:List Rec) (sc:Nat→List (Option Nat)),k≤rs.length∧c5 = .int .i64 (k:Int)∧Like rs rs1∧FState wr fs ns fb f nds rs1 cms∧Links wr w1.heap.size rs1 (Xs sc k) ∧
  Hid (∀ j r,j < k→rs[j]? = some r→succK t (rs.map (·.b)) j r.i r.ops=some (sc j))∧LabAt wr mb t∧Fr (InsS rs) w1 wr∧n=rs.length - k)
 case atStart=>
  refine ⟨0,rs,fun _=>[],Nat.zero_le _,rfl,Like.refl _,st1,?_,Lib.hid (fun j r h=>by omega),hM1,Fr.refl _ _,rfl⟩
  have e:Xs (fun _=>[]) 0=fun _ _=>[]:=by funext p j;simp [Xs]
  rw [e];exact Links.fresh hfr
 case round=>
  obtain ⟨k,rs1,sc,hk,rfl,hlike,st2,hL,hsc,hM2,hf2,rfl⟩:=hrel
  by_cases hkl:k < rs.length
  ·obtain ⟨b1,off1,u,hA1,hbl1,hu,hc1⟩:=(his wr hf2).at_ hkl
   obtain ⟨r1,hr1⟩:∃ r,rs1[k]? = some r:=⟨_,List.getElem?_eq_getElem (by rw [hlike.1];exact hkl)⟩
   obtain ⟨r0,i0,hr0,hr1e,hsb⟩:=hlike.2 k r1 hr1
   have hu':u=ptr r1.b:=by
    rw [List.getElem?_map,List.getElem?_map,hr0] at hu
    simp only [Option.map_some,Option.some.injEq] at hu
    rw [← hu,hr1e];rfl
   subst hu' hA1
   have hnx:∀ r',rs[k+1]? = some r'→wr.cell? ⟨b1,off1+k+1,none⟩=some (ptr r'.b):=by
    intro r' hr'
    have hlt':=(List.getElem?_eq_some_iff.1 hr').1
    obtain ⟨b2,off2,u2,hA2,_,hu2,hc2⟩:=(his wr hf2).at_ hlt'
    injection hA2 with hA2
    injection hA2 with e1 e2 e3
    subst e1 e2
    rw [List.getElem?_map,List.getElem?_map,hr'] at hu2
    simp only [Option.map_some,Option.some.injEq] at hu2
    rw [hu2,Nat.add_assoc];exact hc2
   have hat:=(st2.recs r1 (List.mem_of_getElem? hr1)).1
   have hx:=hat.opsAt
   have hb:=hat.own.at_
   have hrow:=hL.row true k r1 hr1
   rw [Xs_step] at hrow
   have htl:=Lib.hid (TargetLabel_none wr r1.i r1.ops hx)
   have htl2:=fun s=>Lib.hid (TargetLabel_some wr r1.i r1.ops s hx)
   have hsk:succK t (rs.map (·.b)) k r0.i r0.ops=succK t (rs.map (·.b)) k r1.i r1.ops:=by rw [hr1e];exact (succK_same hsb).symm
   replace hsk:=Lib.hid hsk
   obtain ⟨rb,lo,hi,⟨opc,⟨ufA,ufn,ufc⟩,⟨oA,on,oc⟩,⟨iA,ino,ic⟩,⟨uA,un,uc⟩,term,br,cond,canc,⟨aA,an,ac⟩,⟨pA,pn,pc⟩,⟨sA,sn,scp⟩,lin,lout⟩,lops,linp,lout2,lsuf,lisa⟩:=r1
   obtain rfl:sn=0:=by
    obtain ⟨A9,c9,e9,_,_⟩:=own_slice hrow
    simp only [Ins.row,if_true,SV.val] at e9
    injection e9
   replace hr1e:=Lib.hid hr1e
   simp only [ptr] at hc1
   simp only at hb
   have hcb:=fun j=>cell_of_row _ _ j _ _ (0,0) hb
   have hzb:=frozen_row hb
   have hlb:=lt_of_heap hb
   simp only [Ins.cells] at hcb
   have hstep:∀ l,succK t (rs.map (·.b)) k ⟨opc,⟨ufA,ufn,ufc⟩,⟨oA,on,oc⟩,⟨iA,ino,ic⟩,⟨uA,un,uc⟩,term,br,cond,canc,⟨aA,an,ac⟩,⟨pA,pn,pc⟩,⟨sA,0,scp⟩,lin,lout⟩ lops=some l →
     ∀ j r,j < k+1→rs[j]? = some r→succK t (rs.map (·.b)) j r.i r.ops=some (if j=k then l else sc j):=by
    intro l hl2 j r hj hr
    by_cases hjk:j=k
    ·subst hjk
     rw [hr0] at hr
     injection hr with hr
     subst hr
     rw [if_pos rfl,hsk.out,hl2]
    ·rw [if_neg hjk]
     exact hsc j r (by omega) hr
   replace hrow:wr.ownsRow w1.heap.size 115 1 (.slice sA 0 scp) 0 []:=hrow
   have hrb0:Hid (rb=r0.b):=congrArg Rec.b hr1e.out
   have labG:∀ (wa w':World) (v:Value) (n:Nat) (xs cs:_),LabAt wa mb t→wa.heap[rb]? = some (.cells cs 130 (0,0))→wa.ownsRow w1.heap.size 115 1 v n xs→Fr (fun b=>b=rb∨v.ownBlock=some b) wa w'→LabAt w' mb t:=fun wa w' v n xs cs hM hb hr h=>hM.fr h (fun hh=>by
    rcases hh with hh | hh
    ·exact hM.ne hb hh
    ·obtain ⟨cur,hc⟩:=own_heap hr hh;exact hM.ne hc rfl)
   have frG:∀ (wa w':World) (v:Value) (n:Nat) (xs:List Value),Fr (InsS rs) w1 wa→wa.ownsRow w1.heap.size 115 1 v n xs→Fr (fun b=>b=rb∨v.ownBlock=some b) wa w'→Fr (InsS rs) w1 w':=fun wa w' v n xs hf hr h=>hf.trans h (fun _ _ x=>x) (fun x hx hh=>by
    rcases hh with rfl | hh
    ·exact ⟨r0,List.mem_of_getElem? hr0,hrb0.out⟩
    ·have:=own_base hr x hh;omega)
   have labS:=fun w'=>labG wr w' _ _ _ _ hM2 hb hrow
   have frS:=fun w'=>frG wr w' _ _ _ hf2 hrow
   have hcase:(rs.length≤k+1∧Hid (fvI ((rs.map (·.b))[k+1]?) = .pointer none))∨(∃ b2,k+1 < rs.length∧wr.cell? ⟨b1,off1+k+1,none⟩=some (.pointer (some ⟨b2,0,none⟩))∧wr.cell? ⟨b1,off1+(k+1),none⟩=some (.pointer (some ⟨b2,0,none⟩))∧Hid (fvI ((rs.map (·.b))[k+1]?) = .pointer (some ⟨b2,0,none⟩))):=by
    cases hnext:rs[k+1]? with
    | none=>exact .inl ⟨by simpa using hnext,by rw [List.getElem?_map,hnext];exact Lib.hid rfl⟩
    | some r2=>exact .inr ⟨r2.b,(List.getElem?_eq_some_iff.1 hnext).1,hnx r2 hnext,by rw [← Nat.add_assoc];exact hnx r2 hnext,by rw [List.getElem?_map,hnext];exact Lib.hid rfl⟩
   clear hnx
   rcases hcase with ⟨hge,hvn⟩ | ⟨b2,hlt2,hnc,hnc2,hvn⟩
   all_goals
    cases br with
    | false=>
     cases term with
     | true=>
      go_wp2
      go_roundg (rs.length - (k+1))
      case measure=>omega
      case rel=>
       refine ⟨k+1,rs1,(fun j=>if j=k then [] else sc j),by omega,by go_num,hlike,st2,?_,Lib.hid ?_,hM2,hf2,rfl⟩
       ·rw [← Xp_done,← Xp_nil];exact hL
       ·exact hstep [] (by simp [succK])
     | false=>
      go_wp2_with (first
       | (refine wpList_loadRow (b:=rb) rfl rfl rfl hb Tryz.underlying130 rfl (by kernel_rfl) ?_)
       | (go_at_call 73;refine (IsUncond_calls _ ⟨opc,⟨ufA,ufn,ufc⟩,⟨oA,on,oc⟩,⟨iA,ino,ic⟩,⟨uA,un,uc⟩,false,false,cond,canc,⟨aA,an,ac⟩,⟨pA,pn,pc⟩,⟨sA,0,scp⟩,lin,lout⟩).mono ?_;rintro e w2 ⟨rfl,hfu⟩;have hb2:=hfu.heap hb (fun x=>x);have hcb2:=fun j=>cell_of_row _ _ j _ _ (0,0) hb2;have hlb2:=lt_of_heap hb2;have hzb2:=frozen_row hb2;simp only [Ins.cells] at hcb2;simp only [Bool.false_and])
       | (refine wpList_app (v:=.slice sA 0 scp) rfl rfl Tryz.underlying124 infoPtr rfl (by omega) rfl (own_fr (own_fr hrow hfu (fun _ _ x=>x)) ((Fr.refl nope _).alloc _) (fun _ _ x=>x)) rfl (news:=[_]) rfl (one_new _ _ _ _ rfl) (by simp [Value.oneCell']) (by simp only [maxLen];omega) (by omega) (by have:=hfu.size;have:=hf2.size;simp;omega) ?_;intro v3 w3 hown3 hf3 hbl3;obtain ⟨A3,c3,rfl,_,_⟩:=own_slice hown3;have hb3:=hf3.heap (((Fr.refl nope w2).alloc _).heap hb2 (fun x=>x)) (own_ne hrow hb (by decide));have hcb3:=fun j=>cell_of_row _ _ j _ _ (0,0) hb3;have hlb3:=lt_of_heap hb3;have hzb3:=frozen_row hb3;simp only [Ins.cells] at hcb3))
      go_roundg (rs.length - (k+1))
      case measure=>omega
      case rel=>
       obtain ⟨p1,p2,p3⟩:=FState.push st2 hL hr1 true ⟨A3,1,c3⟩ (fvI ((rs.map (·.b))[k+1]?)) (hfu.alloc _) (by rw [Xs_step,hvn.out];simpa [SV.val] using hown3) hf3 hbl3
       refine ⟨k+1,_,(fun j=>if j=k then [(rs.map (·.b))[k+1]?] else sc j),by omega,by go_num,hlike.set hr1 (Ins.setRow_same _ true ⟨A3,1,c3⟩),p1,?_,Lib.hid ?_,labS _ p3,frS _ p3,rfl⟩
       ·rw [Xp_nil,Xp_push,List.nil_append,Xp_done] at p2;exact p2
       ·exact hstep _ (by simp [succK])
    | true=>
     cases htg:targetOf true lops with
     | none=>
      go_wp2_with (refine wpList_loadRow (b:=rb) rfl rfl rfl hb Tryz.underlying130 rfl (by kernel_rfl) ?_)
      refine (htl.out htg).mono ?_
      rintro e w2 ⟨rfl,hfu⟩
      replace htg:=Lib.hid htg
      go_wp2
      go_ret
      exact ⟨frW _ (hf2.then (hfu.of_nope.alloc _)),(hM2.fr hfu (fun x=>x)).fr ((Fr.refl nope _).alloc _) (fun x=>x),.inr ⟨⟨k,r0,hr0,by rw [hsk.out];simp [succK,htg.out]⟩,_,_,rfl⟩⟩
     | some s=>
      go_wp2_with (refine wpList_loadRow (b:=rb) rfl rfl rfl hb Tryz.underlying130 rfl (by kernel_rfl) ?_)
      refine ((htl2 s).out htg).mono ?_
      rintro e w2 ⟨lb,rfl,hlb2,hlc,hfu⟩
      replace htg:=Lib.hid htg
      have hfn2:=(st2.frT hfu (NoT.nope _ _)).fn
      have hc6:=hfn2.c6
      rw [hlt.out] at hc6
      have hfl2:=lt_of_heap hfn2
      have hM3:=hM2.fr hfu (fun x=>x)
      have hlk:=fun m=>(hM3.fr ((Fr.refl nope w2).drewN m) (fun x=>x)).look s
      have hb2:=hfu.heap hb (fun x=>x)
      have hcb2:=fun j=>cell_of_row _ _ j _ _ (0,0) hb2
      have hlb2:=lt_of_heap hb2
      have hzb2:=frozen_row hb2
      simp only [Ins.cells] at hcb2
      cases hts:t s with
      | none=>
       rw [hts] at hlk
       simp only [fvI,Option.isSome_none] at hlk
       replace hts:=Lib.hid hts
       go_wp2
       go_quiet (fail)
       go_wp2
       go_ret
       exact ⟨frW _ (hf2.then ((hfu.of_nope.drewN _).alloc _)),(hM3.fr ((Fr.refl nope _).drewN _) (fun x=>x)).fr ((Fr.refl nope _).alloc _) (fun x=>x),.inr ⟨⟨k,r0,hr0,by rw [hsk.out];simp [succK,htg.out,hts.out]⟩,_,_,rfl⟩⟩
      | some bt=>
       rw [hts] at hlk
       simp only [fvI,Option.isSome_some,ptr] at hlk
       have hbase:∀ (l:List (Option Nat)),succK t (rs.map (·.b)) k ⟨opc,⟨ufA,ufn,ufc⟩,⟨oA,on,oc⟩,⟨iA,ino,ic⟩,⟨uA,un,uc⟩,term,true,cond,canc,⟨aA,an,ac⟩,⟨pA,pn,pc⟩,⟨sA,0,scp⟩,lin,lout⟩ lops=some ([some bt] ++ (if term || !cond then [] else [(rs.map (·.b))[k+1]?])):=fun l=>by simp [succK,htg.out,hts]
       replace hts:=Lib.hid hts
       replace hbase:=Lib.hid (hbase [])
       cases term with
       | true=>
        go_wp2
        go_quiet (fail)
        go_wp2_with (refine wpList_app (v:=.slice sA 0 scp) rfl rfl Tryz.underlying124 infoPtr rfl (by omega) rfl (own_fr hrow ((hfu.drewN _).alloc _) (fun _ _ x=>x)) rfl (news:=[_]) rfl (one_new _ _ _ _ rfl) (by simp [Value.oneCell']) (by simp only [maxLen];omega) (by omega) (by have:=hfu.size;have:=hf2.size;simp;omega) ?_;intro v3 w3 hown3 hf3 hbl3;obtain ⟨A3,c3,rfl,_,_⟩:=own_slice hown3;have hb3:=hf3.heap (((hfu.drewN _).alloc _).heap hb (fun x=>x)) (own_ne hrow hb (by decide));have hp:=FState.push st2 hL hr1 true ⟨A3,1,c3⟩ (fvI (some bt)) ((hfu.drewN _).alloc _) (by rw [Xs_step];simpa [SV.val,fvI,ptr] using hown3) hf3 hbl3;have hb4:(w3.setCell ⟨rb,11,none⟩ (.slice A3 1 c3)).heap[rb]? = some (.cells (Ins.cells ⟨opc,⟨ufA,ufn,ufc⟩,⟨oA,on,oc⟩,⟨iA,ino,ic⟩,⟨uA,un,uc⟩,true,true,cond,canc,⟨aA,an,ac⟩,⟨pA,pn,pc⟩,⟨A3,1,c3⟩,lin,lout⟩) 130 (0,0)):=setCell_heap hb3 _;have hcb3:=fun j=>cell_of_row _ _ j _ _ (0,0) hb3;have hlb3:=lt_of_heap hb3;have hzb3:=frozen_row hb3;simp only [Ins.cells] at hcb3;have hcb4:=fun j=>cell_of_row _ _ j _ _ (0,0) hb4;have hlb4:=lt_of_heap hb4;have hzb4:=frozen_row hb4;simp only [Ins.cells] at hcb4)
        go_roundg (rs.length - (k+1))
        case measure=>omega
        case rel=>
         obtain ⟨p1,p2,p3⟩:=hp
         refine ⟨k+1,_,(fun j=>if j=k then [some bt] else sc j),by omega,by go_num,hlike.set hr1 (Ins.setRow_same _ true ⟨A3,1,c3⟩),p1,?_,Lib.hid (hstep _ (by rw [hbase.out];rfl)),labS _ p3,frS _ p3,rfl⟩
         rw [Xp_nil,Xp_push,List.nil_append,Xp_done] at p2;exact p2
       | false=>
        cases cond with
        | false=>
         go_wp2
         go_quiet (fail)
         go_wp2_with (first
          | (refine wpList_loadRow (b:=rb) rfl rfl rfl hb4 Tryz.underlying130 rfl (by kernel_rfl) ?_)
          | (go_at_call 73;refine (IsUncond_calls _ ⟨opc,⟨ufA,ufn,ufc⟩,⟨oA,on,oc⟩,⟨iA,ino,ic⟩,⟨uA,un,uc⟩,false,true,false,canc,⟨aA,an,ac⟩,⟨pA,pn,pc⟩,⟨A3,1,c3⟩,lin,lout⟩).mono ?_;rintro e w5 ⟨rfl,hfv⟩;have hb5:=hfv.heap hb4 (fun x=>x);have hcb5:=fun j=>cell_of_row _ _ j _ _ (0,0) hb5;have hlb5:=lt_of_heap hb5;have hzb5:=frozen_row hb5;simp only [Ins.cells] at hcb5;simp only [Bool.true_and,Bool.not_false])
          | (refine wpList_app (v:=.slice sA 0 scp) rfl rfl Tryz.underlying124 infoPtr rfl (by omega) rfl (own_fr hrow ((hfu.drewN _).alloc _) (fun _ _ x=>x)) rfl (news:=[_]) rfl (one_new _ _ _ _ rfl) (by simp [Value.oneCell']) (by simp only [maxLen];omega) (by omega) (by have:=hfu.size;have:=hf2.size;simp;omega) ?_;intro v3 w3 hown3 hf3 hbl3;obtain ⟨A3,c3,rfl,_,_⟩:=own_slice hown3;have hb3:=hf3.heap (((hfu.drewN _).alloc _).heap hb (fun x=>x)) (own_ne hrow hb (by decide));have hp:=FState.push st2 hL hr1 true ⟨A3,1,c3⟩ (fvI (some bt)) ((hfu.drewN _).alloc _) (by rw [Xs_step];simpa [SV.val,fvI,ptr] using hown3) hf3 hbl3;have hb4:(w3.setCell ⟨rb,11,none⟩ (.slice A3 1 c3)).heap[rb]? = some (.cells (Ins.cells ⟨opc,⟨ufA,ufn,ufc⟩,⟨oA,on,oc⟩,⟨iA,ino,ic⟩,⟨uA,un,uc⟩,false,true,false,canc,⟨aA,an,ac⟩,⟨pA,pn,pc⟩,⟨A3,1,c3⟩,lin,lout⟩) 130 (0,0)):=setCell_heap hb3 _;have hcb3:=fun j=>cell_of_row _ _ j _ _ (0,0) hb3;have hlb3:=lt_of_heap hb3;have hzb3:=frozen_row hb3;simp only [Ins.cells] at hcb3;have hcb4:=fun j=>cell_of_row _ _ j _ _ (0,0) hb4;have hlb4:=lt_of_heap hb4;have hzb4:=frozen_row hb4;simp only [Ins.cells] at hcb4))
         go_roundg (rs.length - (k+1))
         case measure=>omega
         case rel=>
          obtain ⟨p1,p2,p3⟩:=hp
          refine ⟨k+1,_,(fun j=>if j=k then [some bt] else sc j),by omega,by go_num,hlike.set hr1 (Ins.setRow_same _ true ⟨A3,1,c3⟩),p1.frT hfv (NoT.nope _ _),?_,Lib.hid (hstep _ (by rw [hbase.out];rfl)),(labS _ p3).fr hfv (fun x=>x),(frS _ p3).then hfv.of_nope,rfl⟩
          rw [Xp_nil,Xp_push,List.nil_append,Xp_done] at p2;exact p2.frT (T:=[115]) hfv (NoT.nope _ _) (by decide)
        | true=>
         go_wp2
         go_quiet (fail)
         go_wp2_with (first
          | (refine wpList_loadRow (b:=rb) rfl rfl rfl hb4 Tryz.underlying130 rfl (by kernel_rfl) ?_)
          | (go_at_call 73;refine (IsUncond_calls _ ⟨opc,⟨ufA,ufn,ufc⟩,⟨oA,on,oc⟩,⟨iA,ino,ic⟩,⟨uA,un,uc⟩,false,true,true,canc,⟨aA,an,ac⟩,⟨pA,pn,pc⟩,⟨A3,1,c3⟩,lin,lout⟩).mono ?_;rintro e w5 ⟨rfl,hfv⟩;have hb5:=hfv.heap hb4 (fun x=>x);have hcb5:=fun j=>cell_of_row _ _ j _ _ (0,0) hb5;have hlb5:=lt_of_heap hb5;have hzb5:=frozen_row hb5;simp only [Ins.cells] at hcb5;simp only [Bool.true_and,Bool.not_true])
          | ((refine wpList_app (v:=.slice sA 0 scp) rfl rfl Tryz.underlying124 infoPtr rfl (by omega) rfl (own_fr hrow ((hfu.drewN _).alloc _) (fun _ _ x=>x)) rfl (news:=[_]) rfl (one_new _ _ _ _ rfl) (by simp [Value.oneCell']) (by simp only [maxLen];omega) (by omega) (by have:=hfu.size;have:=hf2.size;simp;omega) ?_;intro v3 w3 hown3 hf3 hbl3;obtain ⟨A3,c3,rfl,_,_⟩:=own_slice hown3;have hb3:=hf3.heap (((hfu.drewN _).alloc _).heap hb (fun x=>x)) (own_ne hrow hb (by decide));have hp:=FState.push st2 hL hr1 true ⟨A3,1,c3⟩ (fvI (some bt)) ((hfu.drewN _).alloc _) (by rw [Xs_step];simpa [SV.val,fvI,ptr] using hown3) hf3 hbl3;have hb4:(w3.setCell ⟨rb,11,none⟩ (.slice A3 1 c3)).heap[rb]? = some (.cells (Ins.cells ⟨opc,⟨ufA,ufn,ufc⟩,⟨oA,on,oc⟩,⟨iA,ino,ic⟩,⟨uA,un,uc⟩,false,true,true,canc,⟨aA,an,ac⟩,⟨pA,pn,pc⟩,⟨A3,1,c3⟩,lin,lout⟩) 130 (0,0)):=setCell_heap hb3 _;have hcb3:=fun j=>cell_of_row _ _ j _ _ (0,0) hb3;have hlb3:=lt_of_heap hb3;have hzb3:=frozen_row hb3;simp only [Ins.cells] at hcb3;have hcb4:=fun j=>cell_of_row _ _ j _ _ (0,0) hb4;have hlb4:=lt_of_heap hb4;have hzb4:=frozen_row hb4;simp only [Ins.cells] at hcb4);have hrow4:=own_fr (show w3.ownsRow w1.heap.size 115 1 (.slice A3 1 c3) 1 [.pointer (some ⟨bt,0,none⟩)] from (by simpa using hown3)) (Fr.setCell (S:=fun b=>b=rb) (p:=⟨rb,11,none⟩) (Fr.refl _ w3) (.inl rfl) (.slice A3 1 c3)) (fun b hb1 hb2=>own_ne hown3 hb3 (by decide) (by subst hb2;simpa using hb1)))
          | (refine wpList_app (v:=.slice A3 1 c3) rfl rfl Tryz.underlying124 infoPtr rfl (by omega) rfl (own_fr (own_fr hrow4 hfv (fun _ _ x=>x)) ((Fr.refl nope _).alloc _) (fun _ _ x=>x)) rfl (news:=[_]) rfl (one_new _ _ _ _ rfl) (by simp [Value.oneCell']) (by simp only [maxLen];omega) (by omega) (by have h9:=hfv.size;have h8:=(frS _ hp.2.2).size;simp at h9 h8 ⊢;omega) ?_;intro v6 w6 hown6 hf6 hbl6;obtain ⟨A6,c6,rfl,_,_⟩:=own_slice hown6;have hb6:=hf6.heap (((Fr.refl nope w5).alloc _).heap hb5 (fun x=>x)) (own_ne hrow4 hb4 (by decide));have hcb6:=fun j=>cell_of_row _ _ j _ _ (0,0) hb6;have hlb6:=lt_of_heap hb6;have hzb6:=frozen_row hb6;simp only [Ins.cells] at hcb6))
         go_roundg (rs.length - (k+1))
         case measure=>omega
         case rel=>
          obtain ⟨p1,p2,p3⟩:=hp
          rw [Xp_nil,Xp_push,List.nil_append] at p2
          obtain ⟨q1,q2,q3⟩:=FState.push p1 p2 (List.getElem?_set_self (List.getElem?_eq_some_iff.1 hr1).1) true ⟨A6,2,c6⟩ (fvI ((rs.map (·.b))[k+1]?)) (hfv.alloc _) (by rw [Xp_at,hvn.out];simpa [SV.val,fvI,ptr] using hown6) hf6 hbl6
          refine ⟨k+1,_,(fun j=>if j=k then [some bt,(rs.map (·.b))[k+1]?] else sc j),by omega,by go_num,(hlike.set hr1 (Ins.setRow_same _ true ⟨A3,1,c3⟩)).set (List.getElem?_set_self (List.getElem?_eq_some_iff.1 hr1).1) (Ins.setRow_same _ true ⟨A6,2,c6⟩),q1,?_,Lib.hid (hstep _ (by rw [hbase.out];rfl)),labG _ _ _ _ _ _ (labS _ p3) hb4 hrow4 q3,frG _ _ _ _ _ (frS _ p3) hrow4 q3,rfl⟩
          rw [Xp_push,Xp_done] at q2;exact q2
  ·have hkk:k=rs.length:=by omega
   subst hkk
   have hsc':∀ (j:Nat) (r:Rec),rs[j]? = some r→succK t (rs.map (·.b)) j r.i r.ops=some (sc j):=fun j r h=>hsc j r (List.getElem?_eq_some_iff.1 h).1 h
   replace hsc':=Lib.hid hsc'
   have hX0:PX rs sc (Xs sc rs.length) (edgesK sc (rs.map (·.b)) 0):=⟨fun j hj=>by simp [Xs,hj],fun j r hj=>by simp [Xs,edgesK,pdOf]⟩
   have hinj0:∀ (k j:Nat) (x r:Rec),rs[k]? = some x→rs[j]? = some r→x.b=r.b→k=j:=fun k j x r h1 h2 h3=>st1.inj h1 h2 h3
   have ht':∀ s b,t s=some b→b∈rs.map (·.b):=fun s b h=>by obtain ⟨r,h1,h2⟩:=ht s b h;exact List.mem_map.2 ⟨r,h1,h2⟩
   go_wp2
   go_loopg [94] rs.length (fun n c94 wr=>∃ (k:Nat) (rs2:List Rec) (X:Bool→Nat→List Value),k≤rs.length∧c94 = .int .i64 (k:Int)∧Like rs rs2∧FState wr fs ns fb f nds rs2 cms∧Links wr w1.heap.size rs2 X ∧
    PX rs sc X (edgesK sc (rs.map (·.b)) k)∧LabAt wr mb t∧Fr (InsS rs) w1 wr∧n=rs.length - k)
   case atStart=>exact ⟨0,rs1,Xs sc rs.length,Nat.zero_le _,rfl,hlike,st2,hL,hX0,hM2,hf2,rfl⟩
   case round=>
    clear hlike st2 hL hM2 hf2 hX0
    obtain ⟨k,rs2,X,hk2,rfl,hlike,st2,hL,hX,hM2,hf2,rfl⟩:=hrel
    by_cases hkl:k < rs.length
    ·obtain ⟨b1,off1,u,hA1,hbl1,hu,hc1⟩:=(his _ hf2).at_ hkl
     obtain ⟨r1,hr1⟩:∃ r,rs2[k]? = some r:=⟨_,List.getElem?_eq_getElem (by rw [hlike.1];exact hkl)⟩
     obtain ⟨r0,i0,hr0,hr1e,hsb⟩:=hlike.2 k r1 hr1
     have hu':u=ptr r1.b:=by
      rw [List.getElem?_map,List.getElem?_map,hr0] at hu
      simp only [Option.map_some,Option.some.injEq] at hu
      rw [← hu,hr1e];rfl
     subst hu' hA1
     have hbk:(rs.map (·.b)).getD k 0=r1.b:=by
      rw [List.getD_eq_getElem?_getD,List.getElem?_map,hr0,hr1e];rfl
     replace hbk:=Lib.hid hbk
     have hrb:r0.b=r1.b:=by rw [hr1e];rfl
     replace hrb:=Lib.hid hrb
     replace hr1e:=Lib.hid hr1e
     have hscl:=succK_le (hsc'.out k r0 hr0)
     have hscm:∀ b,some b∈sc k→b∈rs.map (·.b):=fun b hb=>succK_mem (hsc'.out k r0 hr0) hb ht'
     have hat:=(st2.recs r1 (List.mem_of_getElem? hr1)).1
     have hb:=hat.own.at_
     have hrow:=hL.row true k r1 hr1
     rw [hX.1 k hkl] at hrow
     have hEl:(edgesK sc (rs.map (·.b)) k).length≤2*k:=edgesK_le fun i hi=>by
      obtain ⟨r,hr⟩:∃ r,rs[i]? = some r:=⟨_,List.getElem?_eq_getElem (by omega)⟩
      exact succK_le (hsc'.out i r hr)
     obtain ⟨A9,c9,e9,_,_⟩:=own_slice hrow
     simp only [List.length_map] at e9
     have e9':r1.i.succ=⟨A9,(sc k).length,c9⟩:=by
      unfold Ins.row at e9
      simp only [if_true,SV.val] at e9
      injection e9 with g1 g2 g3
      cases hs:r1.i.succ
      simp only [hs] at g1 g2 g3
      rw [g1,g2,g3]
     clear hrow e9
     replace e9':=Lib.hid e9'
     have hcb:=fun j=>cell_of_row _ _ j _ _ (0,0) hb
     have hlb:=lt_of_heap hb
     have hc11:wr.cell? ⟨r1.b,11,none⟩=some (.slice A9 (sc k).length c9):=by rw [hcb 11];show some (Value.slice r1.i.succ.A r1.i.succ.n r1.i.succ.c)=_;rw [e9'.out]
     simp only [ptr] at hc1
     clear hcb hat hb hu
     go_wp2
     go_loopg [103] (sc k).length (fun m c103 wq=>∃ (j:Nat) (rs3:List Rec) (X3:Bool→Nat→List Value),j≤(sc k).length∧c103 = .int .i64 (j:Int)∧Like rs rs3∧FState wq fs ns fb f nds rs3 cms∧Links wq w1.heap.size rs3 X3 ∧
      PX rs sc X3 (edgesK sc (rs.map (·.b)) k ++ ((sc k).take j).map fun s=>(s,r1.b))∧Hid (∃ r',rs3[k]? = some r'∧r'.i.succ=⟨A9,(sc k).length,c9⟩)∧LabAt wq mb t∧Fr (InsS rs) w1 wq∧m=(sc k).length - j)
     case atStart=>exact ⟨0,rs2,X,Nat.zero_le _,rfl,hlike,st2,hL,by simpa using hX,Lib.hid ⟨r1,hr1,e9'.out⟩,hM2,hf2,rfl⟩
     case round=>
      clear hlike st2 hL hM2 hf2 hX hc1 hc11 hlb hbl1
      obtain ⟨j,rs3,X3,hj2,rfl,hlike,st3,hL,hX,hsuc,hM2,hf2,rfl⟩:=hrel
      by_cases hjl:j < (sc k).length
      ·have hrow3:∀ {W},Links W w1.heap.size rs3 X3→Sl W A9 (sc k).length ((sc k).map fvI):=by
        intro W hLW
        obtain ⟨r',g1,g2⟩:=hsuc.out
        have g3:=hLW.row true k r' g1
        rw [hX.1 k hkl] at g3
        unfold Ins.row at g3
        simp only [if_true,SV.val,g2,List.length_map] at g3
        exact own_Sl g3
       obtain ⟨b5,off5,u5,hA5,hbl5,hu5,hc5'⟩:=(hrow3 hL).at_ hjl
       subst hA5
       rw [List.getElem?_map] at hu5
       obtain ⟨s5,hs5,rfl⟩:=Option.map_eq_some_iff.1 hu5
       have htake:((sc k).take (j+1)).map (fun s=>(s,r1.b))=((sc k).take j).map (fun s=>(s,r1.b)) ++ [(s5,r1.b)]:=by rw [List.take_add_one,hs5];simp
       replace htake:=Lib.hid htake
       have hmem:=List.mem_of_getElem? hs5
       clear hu5
       replace hs5:=Lib.hid hs5
       cases s5 with
       | none=>
        simp only [fvI] at hc5'
        go_wp2
        go_roundg ((sc k).length - (j+1))
        case measure=>omega
        case rel=>
         refine ⟨j+1,rs3,X3,by omega,by go_num,hlike,st3,hL,?_,hsuc,hM2,hf2,rfl⟩
         rw [htake.out,← List.append_assoc];exact hX.none _
       | some bt=>
        obtain ⟨jt,hjt⟩:=List.getElem?_of_mem (hscm bt hmem)
        rw [List.getElem?_map] at hjt
        obtain ⟨rt,hrt,hrtb⟩:=Option.map_eq_some_iff.1 hjt
        obtain ⟨r3,hr3⟩:∃ r,rs3[jt]? = some r:=⟨_,List.getElem?_eq_getElem (by rw [hlike.1];exact (List.getElem?_eq_some_iff.1 hrt).1)⟩
        obtain ⟨rt',it,hrt2,hr3e,_⟩:=hlike.2 jt r3 hr3
        have hb3:r3.b=bt:=by rw [hr3e,← hrtb];rw [hrt] at hrt2;injection hrt2 with e;rw [e];rfl
        replace hr3e:=Lib.hid hr3e
        clear hrt2 hjt
        subst hb3
        have hat3:=(st3.recs r3 (List.mem_of_getElem? hr3)).1.own.at_
        have hrow4:=hL.row false jt r3 hr3
        rw [hX.2 jt rt hrt] at hrow4
        obtain ⟨b3,lo3,hi3,⟨opc,⟨ufA,ufn,ufc⟩,⟨oA,on,oc⟩,⟨iA,ino,ic⟩,⟨uA,un,uc⟩,term,br,cond,canc,⟨aA,an,ac⟩,⟨pA,pn,pc⟩,⟨sA,sn,scp⟩,lin,lout⟩,lops,linp,lout2,lsuf,lisa⟩:=r3
        obtain ⟨L,hLd⟩:∃ L,pdOf (edgesK sc (rs.map (·.b)) k ++ ((sc k).take j).map fun s=>(s,r1.b)) rt.b=L:=⟨_,rfl⟩
        have hLl:L.length≤4000000:=by
         have h1:=pdOf_le (edgesK sc (rs.map (·.b)) k ++ ((sc k).take j).map fun s=>(s,r1.b)) rt.b
         rw [hLd,List.length_append,List.length_map,List.length_take] at h1
         omega
        rw [hLd] at hrow4
        have hX4:X3 false jt=L.map ptr:=by rw [hX.2 jt rt hrt,hLd]
        replace hLd:=Lib.hid hLd
        replace hX4:=Lib.hid hX4
        obtain rfl:pn=L.length:=by
         obtain ⟨A8,c8,e8,_,_⟩:=own_slice hrow4
         simp only [Ins.row,Bool.false_eq_true,if_false,SV.val] at e8
         injection e8 with _ e8
         rw [e8,List.length_map]
        simp only at hat3 hrtb
        replace hrtb:=Lib.hid hrtb
        replace hrow4:wr.ownsRow w1.heap.size 115 1 (.slice pA L.length pc) L.length (L.map ptr):=by rw [List.length_map] at hrow4;exact hrow4
        have hcb3:=fun j=>cell_of_row _ _ j _ _ (0,0) hat3
        have hlb3:=lt_of_heap hat3
        simp only [Ins.cells] at hcb3
        simp only [fvI,ptr] at hc5'
        go_wp2_with (refine wpList_app (v:=.slice pA L.length pc) rfl rfl Tryz.underlying124 infoPtr rfl (by omega) rfl (own_fr hrow4 ((Fr.refl nope _).alloc _) (fun _ _ x=>x)) rfl (news:=[_]) rfl (one_new _ _ _ _ rfl) (by simp [Value.oneCell']) (by simp only [maxLen];omega) (by omega) (by have:=hf2.size;simp;omega) ?_;intro v6 w6 hown6 hf6 hbl6;obtain ⟨A6,c6,rfl,_,_⟩:=own_slice hown6;have hb6:=hf6.heap (((Fr.refl nope wr).alloc _).heap hat3 (fun x=>x)) (own_ne hrow4 hat3 (by decide));have hcb6:=fun j=>cell_of_row _ _ j _ _ (0,0) hb6;have hlb6:=lt_of_heap hb6;have hzb6:=frozen_row hb6;simp only [Ins.cells] at hcb6)
        go_roundg ((sc k).length - (j+1))
        case measure=>omega
        case rel=>
         obtain ⟨p1,p2,p3⟩:=FState.push st3 hL hr3 false ⟨A6,L.length+1,c6⟩ (ptr r1.b) ((Fr.refl nope wr).alloc _) (by rw [hX4.out];simpa [SV.val,ptr] using hown6) hf6 hbl6
         refine ⟨j+1,_,_,by omega,by go_num,hlike.set hr3 (Ins.setRow_same _ false ⟨A6,L.length+1,c6⟩),p1,p2,?_,Lib.hid ?_,?_,?_,rfl⟩
         ·rw [htake.out,← List.append_assoc]
          have hPX:=hX.some hrt (fun k' x h1 h2=>hinj0 k' jt x rt h1 hrt h2) r1.b
          rw [hrtb.out] at hPX
          exact hPX
         ·obtain ⟨r',g1,g2⟩:=hsuc.out
          rw [List.getElem?_set]
          split
          ·rename_i e
           subst e
           rw [hr3] at g1
           injection g1 with g1
           exact ⟨_,if_pos (List.getElem?_eq_some_iff.1 hr3).1,by rw [← g1] at g2;exact g2⟩
          ·exact ⟨r',g1,g2⟩
         ·exact hM2.fr p3 (fun hh=>by
           rcases hh with hh | hh
           ·exact hM2.ne hat3 hh
           ·obtain ⟨cur,hc⟩:=own_heap hrow4 hh;exact hM2.ne hc rfl)
         ·exact hf2.trans p3 (fun _ _ x=>x) (fun x hx hh=>by
           rcases hh with rfl | hh
           ·exact ⟨rt,List.mem_of_getElem? hrt,hrtb.out.symm⟩
           ·have:=own_base hrow4 x hh;omega)
      ·have ej:(sc k).take j=sc k:=List.take_of_length_le (by omega)
       rw [ej] at hX
       replace ej:=Lib.hid ej
       have hstep:edgesK sc (rs.map (·.b)) (k+1)=edgesK sc (rs.map (·.b)) k ++ (sc k).map fun s=>(s,r1.b):=by rw [edgesK_step,hbk.out]
       replace hstep:=Lib.hid hstep
       go_wp2
       go_roundg (rs.length - (k+1))
       case measure=>omega
       case rel=>exact ⟨k+1,rs3,X3,by omega,by go_num,hlike,st3,hL,by rw [hstep.out];exact hX,hM2,hf2,rfl⟩
    ·have ek:k=rs.length:=by omega
     subst ek
     go_wp2
     go_ret
     exact ⟨hf1.of_nope.then hf2,hM2,.inl ⟨sc,rs2,X,hsc'.out,rfl,hlike,st2,hL.base hf1.size,hX⟩⟩
end
end Go.Proofs.YtpbeedabmjmdmaaGreatDoor
