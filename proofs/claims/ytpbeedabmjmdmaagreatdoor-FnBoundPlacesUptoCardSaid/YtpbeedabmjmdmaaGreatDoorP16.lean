/- Part of the proof of a statement about pub-berthage: what its texts have in common. -/
import Derived.Deep.RegionHeld3
import Derived.Test.YtpbeedabmjmdmaaGreatDoorP12
import Derived.Test.YtpbeedabmjmdmaaGreatDoorP13
import Derived.Test.YtpbeedabmjmdmaaGreatDoorP14
import Derived.Test.YtpbeedabmjmdmaaGreatDoorP15
namespace Go.Proofs.YtpbeedabmjmdmaaGreatDoor
section
open Go Go.RowKit Bth
set_option maxRecDepth 100000
def InsOk (r:Rec):Prop:=r.inp.length≤1048576∧r.out.length≤1048576∧(r.i.canc=true→2≤(regsOf r.inp).length)
theorem MaskAt.ne {w:World} {b c:Nat} {F:Nat→Nat} {cs:Array Value} {t:TypeId} {fr:Nat × Nat} (hM:MaskAt w b F) (h:w.heap[c]? = some (.cells cs t fr)):¬b=c:=fun e=>by
 obtain ⟨⟨ks,es,clock,g1,_⟩,_⟩:=hM
 rw [e,h] at g1;cases g1
theorem inRegs_le (c:Bool) (a b:List O):(inRegs c a b).length≤2*a.length+2*b.length:=by
 have h1:=regsOf_le a
 have h2:=regsOf_le (b.filter O.isMem)
 have h3:=List.length_filter_le O.isMem b
 have h4:∀ l:List R,(match c,l with
  | true,r :: r' :: l=>if r.same r' then [] else r :: r' :: l
  | _,l=>l).length≤l.length:=by
  intro l
  cases c
  ·exact Nat.le_refl _
  ·rcases l with _ | ⟨r,_ | ⟨r',l⟩⟩
   ·exact Nat.le_refl _
   ·exact Nat.le_refl _
   ·show (if r.same r' then [] else r :: r' :: l).length≤_
    split<;>simp
 unfold inRegs
 rw [List.length_append]
 have h5:=Nat.add_le_add_right (h4 (regsOf a)) (regsOf (b.filter O.isMem)).length
 refine Nat.le_trans h5 ?_
 omega
def GivesLv (w:World) (fs:Nat→Option Nat) (ns:List PN) (fb:Nat) (f:Fn) (nds:List Nd) (rs:List Rec) (cms:List (Nat × List ByteArray)) (B:Nat) (X:Bool→Nat→List Value) (sc:Nat→List (Option Nat)) (e:Ending) (w':World):Prop:=
 e = .returned .nilIface∧Fr (InsS rs) w w'∧∃ rs' mm V,Like rs rs'∧FState w' fs ns fb f nds rs' cms∧Links w' B rs' X∧Lv w' rs' mm V∧Sound (flowOf rs sc) V∧(∀ k,k < rs.length→closedOut (flowOf rs sc) V k)∧(∀ k,k < rs.length→closedIn (flowOf rs sc) V k)
set_option maxHeartbeats 4000000 in
theorem Liveness_calls (w:World) (fs:Nat→Option Nat) (ns:List PN) (fb:Nat) (f:Fn) (nds:List Nd) (rs:List Rec) (cms:List (Nat × List ByteArray)) (B:Nat) (X:Bool→Nat→List Value) (sc:Nat→List (Option Nat))
  (st:FState w fs ns fb f nds rs cms) (L:Links w B rs X) (hX:∀ k,k < rs.length→X true k=(sc k).map fvI) (hok:∀ r∈rs,InsOk r) (hsc:∀ k b,k < rs.length→some b∈sc k→∃ r∈rs,r.b=b) (hsl:∀ k,k < rs.length→(sc k).length≤2) (hl:nds.length≤1048576):
  Calls Tryz.prog 45 #[ptr fb] w (GivesLv w fs ns fb f nds rs cms B X sc):=by
 obtain ⟨A,c,hnn,_,_⟩:=own_slice st.nodes
 have hrl:rs.length≤nds.length:=by
  have:=st.mt.insOf
  have h2:=insOf_le nds
  rw [this,List.length_map] at h2
  exact h2
 have hI:∀ (w:World) (c5:w.cell? ⟨fb,5,none⟩=some (.slice A nds.length c)) (hS:Sl w A nds.length (nds.map Nd.val)),Calls Tryz.prog 58 #[.pointer (some ⟨fb,0,none⟩)] w (GivesOwn w 115 ((rs.map (·.b)).map ptr)):=by
  intro w c5 hS
  have:=Instructions_calls w fb A c nds c5 hS (by omega)
  rw [st.mt.insOf] at this
  exact this
 have hc5:=st.fn.c5
 rw [hnn] at hc5
 have hSn:Sl w A nds.length (nds.map Nd.val):=by have h:=st.nodes;rw [hnn] at h;exact own_Sl h
 replace hnn:=Lib.hid hnn
 have hfl:=lt_of_heap st.fn
 unfold ptr
 go_enter Tryz.func45,Tryz.ntmps45
 go_wp2_with fail
 refine (hI w hc5 hSn).mono ?_
 rintro e w1 ⟨v,rfl,hown,hf1⟩
 simp only [List.length_map] at hown
 obtain ⟨A1,c1,rfl,_,_⟩:=own_slice hown
 have hv0:(rs.map (·.b))=revK (rs.map (·.b)) 0:=(revK_zero _).symm
 rw [hv0] at hown
 replace hv0:=Lib.hid hv0
 generalize hbs:rs.map (·.b)=bs at hown hv0
 have hbl:bs.length=rs.length:=by rw [← hbs,List.length_map]
 replace hbs:=Lib.hid hbs
 replace hbl:=Lib.hid hbl
 go_wp2
 go_loopg [4,5] rs.length (fun n c4 c5 wr=>∃ l:Nat,2*l≤rs.length∧c4 = .int .i64 (l:Int)∧c5 = .int .i64 ((rs.length:Int) - 1 - (l:Int))∧wr.ownsRow w.heap.size 115 1 (.slice A1 rs.length c1) rs.length ((revK bs l).map ptr)∧Fr nope w wr∧n=rs.length - l)
 case atStart=>exact ⟨0,by omega,rfl,by go_num,hown,hf1,rfl⟩
 case round=>
  obtain ⟨l,hl2,rfl,rfl,hown,hf,rfl⟩:=hrel
  by_cases hlt:2*l+1 < rs.length
  ·obtain ⟨g,hA1,hgl,hgc⟩:=own_cells hown (by omega)
   subst hA1
   obtain ⟨r,hr⟩:∃ r:Nat,(rs.length:Int) - 1 - (l:Int)=(r:Int):=⟨rs.length - 1 - l,by omega⟩
   have hr2:r=rs.length - 1 - l:=by omega
   have hcl:=hgc l (.pointer (some ⟨bs.getD l 0,0,none⟩)) (by rw [List.getElem?_map,revK_get bs l (by rw [hbl.out];omega),if_neg (by rw [hbl.out];omega)];rfl)
   have hcr:=hgc r (.pointer (some ⟨bs.getD r 0,0,none⟩)) (by rw [List.getElem?_map,revK_get bs l (by rw [hbl.out];omega),if_neg (by rw [hbl.out];omega)];rfl)
   have hheap:∃ cur,wr.heap[g]? = some (.cells cur 115 (0,0)):=own_heap hown rfl
   obtain ⟨cur,hheap⟩:=hheap
   have hz:=frozen_row hheap
   have hrev:=revK_step bs l (by rw [hbl.out];exact hlt)
   rw [hbl.out,← hr2] at hrev
   replace hrev:=Lib.hid hrev
   have hlr:l < r:=by omega
   have hrn:r < rs.length:=by omega
   have hne:l≠r:=by omega
   have hi1:(0:Int)≤(l:Int):=by omega
   have hi2:(l:Int) < (rs.length:Int):=by omega
   have hi3:(0:Int)≤(r:Int):=by omega
   have hi4:(r:Int) < (rs.length:Int):=by omega
   rw [hr]
   clear hgc
   replace hr:=Lib.hid hr
   replace hr2:=Lib.hid hr2
   go_wp2_with fail
   go_region_with (fail)
   all_goals
    have ho:=own_set (own_set hown l (.pointer (some ⟨bs.getD r 0,0,none⟩))) r (.pointer (some ⟨bs.getD l 0,0,none⟩))
    simp only [List.getD_eq_getElem?_getD] at ho
    go_wp2
    go_roundg (rs.length - (l+1))
    case measure=>omega
    case rel=>
     have hr':=hr.out
     refine ⟨l+1,by omega,by go_num,?_,?_,((hf.setCell (p:=⟨g,l,none⟩) (.inr (own_base hown g rfl)) _).setCell (p:=⟨g,r,none⟩) (.inr (own_base hown g rfl)) _).drew,rfl⟩
     ·exact congrArg (Value.int .i64) (by omega)
     ·rw [← hrev.out,List.map_set,List.map_set]
      have ho2:=own_fr ho ((Fr.refl nope _).drew) (fun _ _ x=>x)
      simpa [ptr,List.getD_eq_getElem?_getD] using ho2
  ·have hrow:∀ i,i < rs.length→((revK bs l).map ptr)[i]? = some (ptr (bs.getD (rs.length - 1 - i) 0)):=fun i hi=>by rw [List.getElem?_map,revK_end bs l (by rw [hbl.out];omega) (by rw [hbl.out];exact hi),hbl.out];rfl
   replace hrow:=Lib.hid hrow
   have st1:=st.frT hf (NoT.nope _ _)
   have L1:=L.frT (T:=[115]) hf (NoT.nope _ _) (by decide)
   go_wp2
   go_loopg [42] rs.length (fun n c42 wr=>∃ (k:Nat) (rs1:List Rec) (mm:Bool→Nat→Nat),k≤rs.length∧c42 = .int .i64 (k:Int)∧Like rs rs1∧FState wr fs ns fb f nds rs1 cms∧Links wr B rs1 X∧LvPart wr rs1 (useOf rs) (rs.length - k) mm∧(∀ p j,rs.length - k≤j→j < rs.length→w.heap.size≤mm p j) ∧
    wr.ownsRow w.heap.size 115 1 (.slice A1 rs.length c1) rs.length ((revK bs l).map ptr)∧Fr (InsS rs) w wr∧n=rs.length - k)
   case atStart=>
    exact ⟨0,rs,fun _ _=>0,Nat.zero_le _,rfl,Like.refl _,st1,L1,⟨fun k r h1 h2=>absurd (List.getElem?_eq_some_iff.1 h2).1 (by omega),fun k h1 h2=>absurd h2 (by omega),fun p k q j h1 h2 h3=>absurd h3 (by omega)⟩,(fun p j h1 h2=>by omega),hown,hf.of_nope,rfl⟩
   case round=>
    clear hown hf st1 L1
    obtain ⟨k,rs1,mm,hk,rfl,hlike,st1,L1,P1,hnew,hown,hf,rfl⟩:=hrel
    by_cases hkl:k < rs.length
    ·obtain ⟨m,hm⟩:∃ m,rs.length - k=m+1:=⟨rs.length - k - 1,by omega⟩
     rw [hm] at P1
     have hmn:rs.length - 1 - k=m:=by omega
     obtain ⟨g,hA1,hgl,hgc⟩:=own_cells hown (by omega)
     subst hA1
     have hc1:=hgc k _ (hrow.out k hkl)
     rw [hmn] at hc1
     obtain ⟨r1,hr1⟩:∃ r,rs1[m]? = some r:=⟨_,List.getElem?_eq_getElem (by rw [hlike.1];omega)⟩
     obtain ⟨r0,i0,hr0,hr1e,hsb⟩:=hlike.2 m r1 hr1
     have hbm:bs.getD m 0=r1.b:=by rw [← hbs.out,List.getD_eq_getElem?_getD,List.getElem?_map,hr0,hr1e];rfl
     rw [hbm] at hc1
     have hok0:=hok r0 (List.mem_of_getElem? hr0)
     have huse:useOf rs m=ofRegs (inRegs r1.i.canc r1.inp r1.out):=by
      unfold useOf;rw [hr0,hr1e];simp only [Rec.with,hsb.canc]
     have hok1:InsOk r1:=by rw [hr1e];exact ⟨hok0.1,hok0.2.1,by show i0.canc=true→_;rw [hsb.canc];exact hok0.2.2⟩
     obtain ⟨ok1,ok2,ok3⟩:=hok1
     have hrb:r0.b=r1.b:=by rw [hr1e];rfl
     replace hrb:=Lib.hid hrb
     replace hr1e:=Lib.hid hr1e
     replace huse:=Lib.hid huse
     replace hm:=Lib.hid hm
     replace hbm:=Lib.hid hbm
     have hat:=(st1.recs r1 (List.mem_of_getElem? hr1)).1
     have hx:=hat.inpAt
     have hy:=hat.outAt
     have hb:=hat.own.at_
     have hin:=fun W hW=>InputRegisters_calls W r1.i r1.inp r1.out (hx.nope hW) (hy.nope hW) (by omega) (by omega) ok3
     have hlen:=inRegs_le r1.i.canc r1.inp r1.out
     have hlb:=lt_of_heap hb
     simp only [ptr] at hc1
     clear hgc
     go_wp2_with (first
      | (refine wpList_loadRow (b:=r1.b) rfl rfl rfl hb Tryz.underlying130 rfl (by kernel_rfl) ?_)
      | (go_at_call 75;refine (hin _ (Fr.refl _ _)).mono ?_;rintro e w2 ⟨A2,c2,rfl,hR,hfu⟩)
      | (go_at_call 74;refine (FromRegs_calls _ A2 c2 _ hR (by omega)).mono ?_;rintro e w3 ⟨rfl,hm3,hf3⟩;have hb3:=(hfu.then hf3).heap hb (fun x=>x);have hcb3:=fun j=>cell_of_row _ _ j _ _ (0,0) hb3;have hlb3:=lt_of_heap hb3;have hzb3:=frozen_row hb3;simp only [Ins.cells] at hcb3)
      | (go_at_call 76;refine (NewEmpty_calls _).mono ?_;rintro e w5 ⟨rfl,hm5,hf5,hsz5⟩;have hb5:=hf5.heap (setCell_heap (k:=12) hb3 (.map (some w2.heap.size))) (fun x=>x);have hcb5:=fun j=>cell_of_row _ _ j _ _ (0,0) hb5;have hlb5:=lt_of_heap hb5;have hzb5:=frozen_row hb5;simp only [Ins.cells] at hcb5))
     go_roundg (rs.length - (k+1))
     case measure=>omega
     case rel=>
      have hb6:=setCell_heap (k:=13) hb5 (.map (some w3.heap.size))
      have s1:Fr (fun b=>b=r1.b) w3 (w3.setCell ⟨r1.b,12,none⟩ (.map (some w2.heap.size))):=Fr.setCell (S:=fun b=>b=r1.b) (p:=⟨r1.b,12,none⟩) (Fr.refl _ w3) (.inl rfl) _
      have s2:Fr (fun b=>b=r1.b) w5 (w5.setCell ⟨r1.b,13,none⟩ (.map (some w3.heap.size))):=Fr.setCell (S:=fun b=>b=r1.b) (p:=⟨r1.b,13,none⟩) (Fr.refl _ w5) (.inl rfl) _
      have hfa:Fr (fun b=>b=r1.b) wr _:=((((hfu.then hf3).of_nope.then s1).then hf5.of_nope).then s2)
      have hsame:SameBut r1.i { r1.i with lin:=some w2.heap.size,lout:=some w3.heap.size }:=⟨rfl,rfl,rfl,rfl,rfl,rfl,rfl,rfl,rfl,rfl⟩
      have stN:=st1.upd hr1 hsame (hfa.mono fun x _ h=>.inl h) (NoT.nope _ _) hb6
      have hm3':MaskAt (w5.setCell ⟨r1.b,13,none⟩ (.map (some w3.heap.size))) w2.heap.size (useOf rs m):=by
       rw [huse.out]
       have q1:=hm3.fr s1 (hm3.ne hb3)
       exact (q1.fr hf5 (fun x=>x)).fr s2 ((q1.fr hf5 (fun x=>x)).ne hb5)
      have hsz:(w3.setCell ⟨r1.b,12,none⟩ (.map (some w2.heap.size))).heap.size=w3.heap.size:=by simp
      rw [hsz] at hm5
      have hm5':=hm5.fr s2 (hm5.ne hb5)
      refine ⟨k+1,_,(fun p k=>if k=m then (if p then w3.heap.size else w2.heap.size) else mm p k),by omega,by go_num,hlike.set hr1 hsame,stN,(L1.frT (T:=[115]) hfa (NoT.one hb (by decide)) (by decide)).with hr1 (fun p=>by cases p<;>rfl),?_,?_,own_fr hown hfa (fun b hb1 hb2=>own_ne hown hb (by decide) (by subst hb2;exact hb1)),?_,rfl⟩
      ·have:=P1.step hr1 (i:={ r1.i with lin:=some w2.heap.size,lout:=some w3.heap.size }) ⟨rfl,rfl⟩ hm3' hm5' hfa ⟨_,_,_,hb⟩ hfu.size hm3.lt
       rw [show rs.length - (k+1)=m by have:=hm.out;omega]
       exact this
      ·intro p j h1 h2
       have hw2:=hfu.size
       have hw3:=hf3.size
       have hw:=hf.size
       by_cases hj:j=m
       ·simp only [if_pos hj];cases p<;>simp<;>omega
       ·simp only [if_neg hj];exact hnew p j (by have:=hm.out;omega) h2
      ·exact hf.trans hfa (fun _ _ x=>x) (fun x hx hh=>⟨r0,List.mem_of_getElem? hr0,by rw [hh];exact hrb.out.symm⟩)
    ·have hkk:k=rs.length:=by omega
     subst hkk
     rw [Nat.sub_self] at P1 hnew
     have hV0:=P1.done
     have hl1:=hlike.1
     have hU0:∀ k c,useOf rs k c < 65536:=fun k c=>by
      by_cases hk:k < rs.length
      ·exact (P1.mask k (Nat.zero_le _) (by omega)).1.2 c
      ·unfold useOf;rw [List.getElem?_eq_none_iff.2 (by omega)];show (0:Nat) < 65536;omega
     have hS0:=flow_start (sc:=sc) hU0
     clear P1
     go_wp2
     go_loopg [] (missing rs.length (flowOf rs sc).U (fun p k=>if p then fun _=>0 else useOf rs k)) (fun n wr=>∃ V,FState wr fs ns fb f nds rs1 cms∧Links wr B rs1 X∧Lv wr rs1 mm V∧Sound (flowOf rs sc) V ∧
      wr.ownsRow w.heap.size 115 1 (.slice A1 rs.length c1) rs.length ((revK bs l).map ptr)∧Fr (InsS rs) w wr∧n=missing rs.length (flowOf rs sc).U V)
     case atStart=>exact ⟨_,st1,L1,hV0,hS0,hown,hf,rfl⟩
     case round=>
      clear st1 L1 hV0 hS0 hown hf
      obtain ⟨V,st1,L1,hV,hS,hown,hf,rfl⟩:=hrel
      go_wp2
      go_loopg [8,61] rs.length (fun n c8 c61 wr=>∃ (i:Nat) (ch:Bool) (V2:Sets),i≤rs.length∧c8 = .bool ch∧c61 = .int .i64 (i:Int)∧FState wr fs ns fb f nds rs1 cms∧Links wr B rs1 X∧Lv wr rs1 mm V2∧Sound (flowOf rs sc) V2∧Rel (flowOf rs sc) V V2 ch ∧
       (ch=false→∀ k,rs.length - i≤k→k < rs.length→closedOut (flowOf rs sc) V k∧closedIn (flowOf rs sc) V k) ∧
       wr.ownsRow w.heap.size 115 1 (.slice A1 rs.length c1) rs.length ((revK bs l).map ptr)∧Fr (InsS rs) w wr∧n=rs.length - i)
      case atStart=>exact ⟨0,false,V,Nat.zero_le _,rfl,rfl,st1,L1,hV,hS,Rel.refl _ _,fun _ k h1 h2=>by omega,hown,hf,rfl⟩
      case round=>
       clear st1 L1 hown hf hV
       obtain ⟨i,ch,V2,hi,rfl,rfl,st1,L1,hV2,hS2,hR,hC,hown,hf,rfl⟩:=hrel
       by_cases hil:i < rs.length
       ·obtain ⟨m,hm⟩:∃ m,rs.length - i=m+1:=⟨rs.length - i - 1,by omega⟩
        have hmn:rs.length - 1 - i=m:=by omega
        have hml:m < rs.length:=by omega
        obtain ⟨g,hA1,hgl,hgc⟩:=own_cells hown (by omega)
        subst hA1
        have hc1:=hgc i _ (hrow.out i hil)
        rw [hmn] at hc1
        obtain ⟨r1,hr1⟩:∃ r,rs1[m]? = some r:=⟨_,List.getElem?_eq_getElem (by rw [hl1];omega)⟩
        obtain ⟨r0,i0,hr0,hr1e,hsb⟩:=hlike.2 m r1 hr1
        have hbm:bs.getD m 0=r1.b:=by rw [← hbs.out,List.getD_eq_getElem?_getD,List.getElem?_map,hr0,hr1e];rfl
        rw [hbm] at hc1
        have hok0:=hok r0 (List.mem_of_getElem? hr0)
        have hout:r1.out=r0.out:=by rw [hr1e];rfl
        have hdef:defOf rs m=ofRegs (outRegs r1.out):=by unfold defOf;rw [hr0,hout]
        have hol:r1.out.length≤1048576:=by rw [hout];exact hok0.2.1
        obtain ⟨hlin,hlout⟩:=hV2.at_ m r1 hr1
        have hrowS:=fun W (hL:Links W B rs1 X)=>hL.row true m r1 hr1
        rw [hX m hml] at hrowS
        obtain ⟨A9,c9,e9,_,_⟩:=own_slice (hrowS _ L1)
        simp only [List.length_map] at e9
        have e9':r1.i.succ=⟨A9,(sc m).length,c9⟩:=by
         unfold Ins.row at e9
         simp only [if_true,SV.val] at e9
         injection e9 with g1 g2 g3
         cases hs:r1.i.succ
         simp only [hs] at g1 g2 g3
         rw [g1,g2,g3]
        have hSS:∀ W,Links W B rs1 X→Sl W A9 (sc m).length ((sc m).map fvI):=fun W hL=>by
         have h:=hrowS W hL
         unfold Ins.row at h
         simp only [if_true,SV.val,e9',List.length_map] at h
         exact own_Sl h
        have hcells:∀ W,FState W fs ns fb f nds rs1 cms→W.cell? ⟨r1.b,11,none⟩=some (.slice A9 (sc m).length c9)∧W.cell? ⟨r1.b,12,none⟩=some (.map (some (mm false m)))∧W.cell? ⟨r1.b,13,none⟩=some (.map (some (mm true m)))∧r1.b < W.heap.size:=fun W hs=>by
         have hb:=(hs.recs r1 (List.mem_of_getElem? hr1)).1.own.at_
         have hc:=fun j=>cell_of_row _ _ j _ _ (0,0) hb
         refine ⟨?_,?_,?_,lt_of_heap hb⟩
         ·rw [hc 11];show some (Value.slice r1.i.succ.A r1.i.succ.n r1.i.succ.c)=_;rw [e9']
         ·rw [hc 12];show some (Value.map r1.i.lin)=_;rw [hlin]
         ·rw [hc 13];show some (Value.map r1.i.lout)=_;rw [hlout]
        clear e9 hrowS hgc
        have hscl:=hsl m hml
        replace hr1e:=Lib.hid hr1e
        replace e9':=Lib.hid e9'
        replace hdef:=Lib.hid hdef
        replace hout:=Lib.hid hout
        replace hlin:=Lib.hid hlin
        replace hlout:=Lib.hid hlout
        replace hm:=Lib.hid hm
        replace hbm:=Lib.hid hbm
        replace hmn:=Lib.hid hmn
        simp only [ptr] at hc1
        obtain ⟨q11,q12,q13,hlb⟩:=hcells _ st1
        go_wp2
        go_loopg [8,70] (sc m).length (fun n c8 c70 wr=>∃ (j:Nat) (ch:Bool) (V3:Sets),j≤(sc m).length∧c8 = .bool ch∧c70 = .int .i64 (j:Int)∧FState wr fs ns fb f nds rs1 cms∧Links wr B rs1 X∧Lv wr rs1 mm V3∧Sound (flowOf rs sc) V3∧Rel (flowOf rs sc) V V3 ch ∧
         (ch=false→(∀ k,rs.length - i≤k→k < rs.length→closedOut (flowOf rs sc) V k∧closedIn (flowOf rs sc) V k)∧∀ (j' s:Nat) (r:Rec),j' < j→(sc m)[j']? = some (some r.b)→rs[s]? = some r→Sub (V false s) (V true m)) ∧
         wr.ownsRow w.heap.size 115 1 (.slice (some ⟨g,0,none⟩) rs.length c1) rs.length ((revK bs l).map ptr)∧Fr (InsS rs) w wr∧n=(sc m).length - j)
        case atStart=>exact ⟨0,ch,V2,Nat.zero_le _,rfl,rfl,st1,L1,hV2,hS2,hR,fun e=>⟨hC e,fun j' s r h=>by omega⟩,hown,hf,rfl⟩
        case round=>
         clear st1 L1 hV2 hS2 hR hC hown hf q11 q12 q13 hlb hc1
         obtain ⟨j,ch,V3,hj,rfl,rfl,st1,L1,hV3,hS3,hR,hC,hown,hf,rfl⟩:=hrel
         obtain ⟨q11,q12,q13,hlb⟩:=hcells _ st1
         by_cases hjl:j < (sc m).length
         ·obtain ⟨b5,off5,u5,hA5,hbl5,hu5,hc5'⟩:=(hSS _ L1).at_ hjl
          subst hA5
          rw [List.getElem?_map] at hu5
          obtain ⟨s5,hs5,rfl⟩:=Option.map_eq_some_iff.1 hu5
          have hmem:=List.mem_of_getElem? hs5
          clear hu5
          cases s5 with
          | none=>
           replace hs5:=Lib.hid hs5
           simp only [fvI] at hc5'
           go_wp2
           go_roundg ((sc m).length - (j+1))
           case measure=>omega
           case rel=>
            refine ⟨j+1,ch,V3,by omega,rfl,by go_num,st1,L1,hV3,hS3,hR,fun e=>⟨(hC e).1,fun j' s r h1 h2 h3=>?_⟩,hown,hf,rfl⟩
            by_cases hjj:j'=j
            ·subst hjj;rw [hs5.out] at h2;cases h2
            ·exact (hC e).2 j' s r (by omega) h2 h3
          | some bt=>
           obtain ⟨rt,hrtm,hrtb⟩:=hsc m bt hml hmem
           obtain ⟨s,hrt⟩:=List.getElem?_of_mem hrtm
           have hsl':s < rs.length:=(List.getElem?_eq_some_iff.1 hrt).1
           obtain ⟨r3,hr3⟩:∃ r,rs1[s]? = some r:=⟨_,List.getElem?_eq_getElem (by rw [hl1];exact hsl')⟩
           obtain ⟨rt',it,hrt2,hr3e,_⟩:=hlike.2 s r3 hr3
           have hb3:r3.b=bt:=by rw [hr3e,← hrtb];rw [hrt] at hrt2;injection hrt2 with e;rw [e];rfl
           subst hb3
           have hbt3:=(st1.recs r3 (List.mem_of_getElem? hr3)).1.own.at_
           have hlin3:=(hV3.at_ s r3 hr3).1
           have hc12:wr.cell? ⟨r3.b,12,none⟩=some (.map (some (mm false s))):=by
            rw [cell_of_row _ _ 12 _ _ (0,0) hbt3];show some (Value.map r3.i.lin)=_;rw [hlin3]
           have hlb3:=lt_of_heap hbt3
           have hsucc:(flowOf rs sc).succ m s:=⟨hml,hsl',rt,hrt,by rw [hrtb];exact hmem⟩
           have hinjb:∀ (s':Nat) (x:Rec),rs[s']? = some x→x.b=r3.b→s'=s:=fun s' x h1 h2=>st.inj h1 hrt (h2.trans hrtb.symm)
           clear hr3e hrt2 hbt3 hrtm
           replace hrtb:=Lib.hid hrtb
           replace hlin3:=Lib.hid hlin3
           replace hs5:=Lib.hid hs5
           simp only [fvI,ptr] at hc5'
           have hmT:=hV3.mask true m (by rw [hl1];exact hml)
           have hmS:=hV3.mask false s (by rw [hl1];exact hsl')
           have hnT:=hnew true m (Nat.zero_le _) (by first | exact hml | (rw [hl1];exact hml))
           have hne:(some (mm false s):Option Nat)≠some (mm true m):=fun e=>by
            injection e with e
            have:=(hV3.inj false s true m (by rw [hl1];exact hsl') (by rw [hl1];exact hml) e).1
            cases this
           have hd:Fr nope wr wr.drew:=(Fr.refl nope wr).drew
           obtain ⟨ch5,hch5⟩:∃ ch5:Bool,ch5=true↔∃ c,V3 true m c &&& V3 false s c≠V3 false s c:=by
            by_cases h:∃ c,V3 true m c &&& V3 false s c≠V3 false s c
            ·exact ⟨true,⟨fun _=>h,fun _=>rfl⟩⟩
            ·exact ⟨false,⟨(fun e=>by cases e),fun e=>absurd e h⟩⟩
           have hstep:=stepRel (f:=flowOf rs sc) (V:=V3) (p:=true) (k:=m) (G:=V3 false s) hml (hS3.lt false s) (fun c h=>hS3.sup false s c hsl' h) hch5
           have hUp:=fun W (hW:Fr nope wr W)=>Update_calls W (mm true m) (V3 true m) (some (mm false s)) (V3 false s) (hmT.fr hW (fun x=>x)) (hmS.fr hW (fun x=>x)) hne
           have hUp2:∀ W,Fr nope wr W→Calls Tryz.prog 77 #[.map (some (mm true m)),.map (some (mm false s))] W fun e w'=>e = .returned (.bool ch5)∧MaskAt w' (mm true m) (fun k=>V3 true m k ||| V3 false s k)∧Fr (fun x=>x=mm true m) W w':=fun W hW=>(hUp W hW).mono (by
            rintro e w5 ⟨c5,rfl,h1,h2,h3⟩
            refine ⟨?_,h2,h3⟩
            have:c5=ch5:=by rw [Bool.eq_iff_iff,h1,hch5]
            rw [this])
           clear hUp
           have hne1:¬(r1.b=mm true m):=fun e=>hmT.ne (st1.recs r1 (List.mem_of_getElem? hr1)).1.own.at_ e.symm
           have hne3:¬(r3.b=mm true m):=fun e=>hmT.ne (st1.recs r3 (List.mem_of_getElem? hr3)).1.own.at_ e.symm
           have hKeep:∀ W W',Fr (fun x=>x=mm true m) W W'→(W.cell? ⟨r1.b,13,none⟩=some (.map (some (mm true m)))∧W.cell? ⟨r3.b,12,none⟩=some (.map (some (mm false s))))→(W'.cell? ⟨r1.b,13,none⟩=some (.map (some (mm true m)))∧W'.cell? ⟨r3.b,12,none⟩=some (.map (some (mm false s)))):=fun W W' hf h=>⟨hf.cell h.1 hne1,hf.cell h.2 hne3⟩
           replace hch5:=Lib.hid hch5
           go_wp2_with fail
           refine region20 (b1:=r1.b) (b3:=r3.b) (o:=mm true m) (i:=mm false s) (x:=ch5) (ch:=ch) (R:=fun w'=>MaskAt w' (mm true m) (fun k=>V3 true m k ||| V3 false s k)∧Fr (fun x=>x=mm true m) wr.drew w') rfl rfl rfl rfl rfl (fun d _ _ _ _ h=>by cases d<;>simpa [Exit.inBlock,Exit.then,bodyPost,Act.put] using h) ?hS (hUp2 _ hd) ?h
           case hS=>
            rintro w' (rfl | ⟨_,hf5⟩)
            ·exact ⟨hd.cell q13 (fun x=>x),hd.cell hc12 (fun x=>x)⟩
            ·exact ⟨hf5.cell (hd.cell q13 (fun x=>x)) hne1,hf5.cell (hd.cell hc12 (fun x=>x)) hne3⟩
           case h=>
            rintro w5 ⟨hm5,hf5⟩
            have hfw:Fr (fun x=>x=mm true m) wr w5:=hd.of_nope.then hf5
            simp only [put20,Act.put,List.setIfInBounds_toArray,List.set_cons_zero,List.set_cons_succ]
            generalize (if ch5=true then undef else Value.bool ch)=u86
            generalize hcx:(ch5 || ch)=cx
            replace hcx:=Lib.hid hcx
            go_wp2
            go_roundg ((sc m).length - (j+1))
            case measure=>omega
            case rel=>
             refine ⟨j+1,cx,_,by omega,rfl,by go_num,st1.frT hfw (NoT.mask hmT),L1.frT (T:=[115]) hfw (NoT.mask hmT) (by decide),hV3.upd (by rw [hl1];exact hml) hm5 hfw,hS3.stepOut hsucc,hcx.out ▸ hR.trans hstep.1,fun e=>?_,own_frT (T:=[115]) hown hfw (NoT.mask hmT) (by decide),hf.then_new hfw (fun x hx e=>by omega),rfl⟩
             obtain ⟨e1,e2⟩:=Bool.or_eq_false_iff.1 (hcx.out.trans e)
             have hC':=hC e2
             have hVV:=hR.same e2
             refine ⟨hC'.1,fun j' s' r h1 h2 h3=>?_⟩
             by_cases hjj:j'=j
             ·subst hjj
              rw [hs5.out] at h2
              injection h2 with h2
              injection h2 with h2
              have:=hinjb s' r h3 h2.symm
              subst this
              rw [← hVV];exact hstep.2 e1
             ·exact hC'.2 j' s' r (by omega) h2 h3
         ·have hjj:j=(sc m).length:=by omega
          subst hjj
          have hat:=(st1.recs r1 (List.mem_of_getElem? hr1)).1
          have hb:=hat.own.at_
          have hy:=hat.outAt
          have hmT:=hV3.mask true m (by rw [hl1];exact hml)
          have hmF:=hV3.mask false m (by rw [hl1];exact hml)
          have hnF:=hnew false m (Nat.zero_le _) (by first | exact hml | (rw [hl1];exact hml))
          have hneF:¬(r1.b=mm false m):=fun e=>hmF.ne hb e.symm
          have hbF:=hmF.lt
          have hOut:=OutputRegisters_calls wr r1.i r1.out hy (by omega)
          have hOl:(outRegs r1.out).length≤r1.out.length:=List.length_filterMap_le _ _
          go_wp2_with (first
           | (refine wpList_loadRow (b:=r1.b) rfl rfl rfl hb Tryz.underlying130 rfl (by kernel_rfl) ?_)
           | (go_at_call 78;refine hOut.mono ?_;rintro e w2 ⟨A2,c2,rfl,hR2,hfu⟩)
           | (go_at_call 74;refine (FromRegs_calls _ A2 c2 _ hR2 (by omega)).mono ?_;rintro e w3 ⟨rfl,hm3,hf3⟩))
          have h13:Fr nope wr w3:=hfu.then hf3
          have hd:Fr nope w3 w3.drew:=(Fr.refl nope w3).drew
          obtain ⟨ch6,hch6⟩:∃ ch6:Bool,ch6=true↔∃ c,V3 false m c &&& andn (V3 true m c) (ofRegs (outRegs r1.out) c)≠andn (V3 true m c) (ofRegs (outRegs r1.out) c):=by
           by_cases h:∃ c,V3 false m c &&& andn (V3 true m c) (ofRegs (outRegs r1.out) c)≠andn (V3 true m c) (ofRegs (outRegs r1.out) c)
           ·exact ⟨true,⟨fun _=>h,fun _=>rfl⟩⟩
           ·exact ⟨false,⟨(fun e=>by cases e),fun e=>absurd e h⟩⟩
          have hD:∀ w1,MaskAt w1 w3.heap.size (fun k=>andn (V3 true m k) (ofRegs (outRegs r1.out) k))∧Fr nope w3.drew w1→Calls Tryz.prog 77 #[.map (some (mm false m)),.map (some w3.heap.size)] w1 fun e w'=>e = .returned (.bool ch6)∧MaskAt w' (mm false m) (fun k=>V3 false m k ||| andn (V3 true m k) (ofRegs (outRegs r1.out) k))∧Fr (fun x=>x=mm false m) wr w':=by
           rintro w1 ⟨hq,hfd⟩
           have h1:Fr nope wr w1:=(h13.then hd).then hfd
           refine (Update_calls w1 (mm false m) (V3 false m) (some w3.heap.size) _ (hmF.fr h1 (fun x=>x)) hq.o (fun e=>by injection e with e;have:=h13.size;omega)).mono ?_
           rintro e w5 ⟨c5,rfl,g1,g2,g3⟩
           have:c5=ch6:=by rw [Bool.eq_iff_iff,g1,hch6]
           exact ⟨by rw [this],g2,h1.of_nope.then g3⟩
          have hQ1:w3.cell? ⟨r1.b,12,none⟩=some (.map (some (mm false m)))∧w3.cell? ⟨r1.b,13,none⟩=some (.map (some (mm true m))):=⟨h13.cell q12 (fun x=>x),h13.cell q13 (fun x=>x)⟩
          have hstep:=stepRel (f:=flowOf rs sc) (V:=V3) (p:=false) (k:=m) (G:=fun c=>andn (V3 true m c) (defOf rs m c)) hml (fun c=>andn_lt (hS3.lt _ _ _)) (fun c h=>hS3.sup true m c hml (fun h0=>h (by rw [h0];simp [andn]))) (by rw [hdef.out];exact hch6)
          have hSi:=hS3.stepIn (k:=m) hml
          have hDiff:=Difference_calls w3.drew (some (mm true m)) (V3 true m) (some w2.heap.size) (ofRegs (outRegs r1.out)) ((hmT.fr (h13.then hd) (fun x=>x)).o) ((hm3.fr hd (fun x=>x)).o)
          replace hch6:=Lib.hid hch6
          refine region23 (b1:=r1.b) (o:=mm false m) (i:=mm true m) (d:=w2.heap.size) (n:=w3.heap.size) (x:=ch6) (ch:=ch) (R1:=fun w'=>MaskAt w' w3.heap.size (fun k=>andn (V3 true m k) (ofRegs (outRegs r1.out) k))∧Fr nope w3.drew w')
           (R:=fun w'=>MaskAt w' (mm false m) (fun k=>V3 false m k ||| andn (V3 true m k) (ofRegs (outRegs r1.out) k))∧Fr (fun x=>x=mm false m) wr w') rfl rfl rfl rfl rfl (fun d _ _ _ _ h=>by cases d<;>simpa [Exit.inBlock,Exit.then,bodyPost,Act.put] using h) ?hS hDiff hD ?h
          case hS=>
           rintro w' (rfl | ⟨_,hf5⟩ | ⟨_,hf5⟩)
           ·exact ⟨hd.cell hQ1.1 (fun x=>x),hd.cell hQ1.2 (fun x=>x)⟩
           ·exact ⟨hf5.cell (hd.cell hQ1.1 (fun x=>x)) (fun x=>x),hf5.cell (hd.cell hQ1.2 (fun x=>x)) (fun x=>x)⟩
           ·exact ⟨hf5.cell q12 hneF,hf5.cell q13 hneF⟩
          case h=>
           rintro w5 ⟨hm5,hfw⟩
           simp only [put23,Act.put,List.setIfInBounds_toArray,List.set_cons_zero,List.set_cons_succ]
           generalize (if ch6=true then undef else Value.bool ch)=u106
           generalize hcx:(ch6 || ch)=cx
           replace hcx:=Lib.hid hcx
           go_wp2
           go_roundg (rs.length - (i+1))
           case measure=>omega
           case rel=>
            have hm5':MaskAt w5 (mm false m) (fun c=>V3 false m c ||| andn (V3 true m c) ((flowOf rs sc).df m c)):=by
             show MaskAt w5 (mm false m) (fun c=>V3 false m c ||| andn (V3 true m c) (defOf rs m c))
             rw [hdef.out];exact hm5
            refine ⟨i+1,cx,_,by omega,rfl,by go_num,st1.frT hfw (NoT.mask hmF),L1.frT (T:=[115]) hfw (NoT.mask hmF) (by decide),hV3.upd (by rw [hl1];exact hml) hm5' hfw,hSi,hcx.out ▸ hR.trans hstep.1,fun e k h1 h2=>?_,own_frT (T:=[115]) hown hfw (NoT.mask hmF) (by decide),hf.then_new hfw (fun x hx e=>by omega),rfl⟩
            obtain ⟨e1,e2⟩:=Bool.or_eq_false_iff.1 (hcx.out.trans e)
            have hC':=hC e2
            have hVV:=hR.same e2
            by_cases hkm:k=m
            ·subst hkm
             refine ⟨fun s hs=>?_,?_⟩
             ·obtain ⟨_,_,r,g1,g2⟩:=hs
              obtain ⟨j',g3⟩:=List.getElem?_of_mem g2
              exact hC'.2 j' s r (List.getElem?_eq_some_iff.1 g3).1 g3 g1
             ·have:=hstep.2 e1
              rw [hVV] at this
              exact this
            ·exact hC'.1 k (by have:=hm.out;omega) h2
       ·have hii:i=rs.length:=by omega
        subst hii
        cases ch with
        | true=>
         go_wp2
         go_roundg (missing rs.length (flowOf rs sc).U V2)
         case measure=>exact hR.less rfl
         case rel=>exact ⟨V2,st1,L1,hV2,hS2,hown,hf,rfl⟩
        | false=>
         obtain rfl:=hR.same rfl
         replace hC:=Lib.hid (hC rfl)
         go_wp2
         go_ret
         exact ⟨rfl,hf,rs1,mm,V2,hlike,st1,L1,hV2,hS2,fun k hk=>(hC.out k (by omega) hk).1,fun k hk=>(hC.out k (by omega) hk).2⟩
end
section
open Go Go.RowKit Bth
set_option maxRecDepth 100000
theorem infoID:(Tryz.prog.info? 123).map (fun i=>(i.zero,i.size,i.bytes))=some (some (.int .u32 0),1,4):=by kernel_rfl
theorem filter_take {xs:List Nat} {k x:Nat} {p:Nat→Bool} (h:xs[k]? = some x):(xs.take (k+1)).filter p=(xs.take k).filter p ++ (if p x then [x] else []):=by
 rw [List.take_add_one,h,List.filter_append]
 cases hp:p x<;>simp [hp]
def Pred (w:World) (g:FuncId) (lb:Array Value) (p:Nat→Bool) (xs:List Nat):Prop:=∀ W x,x∈xs→Fr nope w W→Calls Tryz.prog g (#[.int .u32 (x:Int)] ++ lb) W fun e W'=>e = .returned (.bool (p x))∧Fr nope W W'
theorem filter_calls (w:World) (A:Option Addr) (c:Nat) (xs:List Nat) (hS:Sl w A xs.length (xs.map idV)) (hl:xs.length≤1073741824) (g:FuncId) (b:Addr) (p:Nat→Bool) (heg:∀ args w,(callFunc g args).run Tryz.prog w = .ok (.enter g args) w) (hp:Pred w g #[.pointer (some b)] p xs):
  Calls Tryz.prog 135 #[.slice A xs.length c,.func (.func g) #[] #[.pointer (some b)]] w (GivesOwn w 123 ((xs.filter p).map idV)):=by
 go_enter Tryz.func135,Tryz.ntmps135
 go_wp2
 go_loopg [5,10] xs.length (fun n c5 c10 wr=>∃ k:Nat,k≤xs.length∧c10 = .int .i64 (k:Int)∧wr.ownsRow w.heap.size 123 1 c5 ((xs.take k).filter p).length (((xs.take k).filter p).map idV)∧Fr nope w wr∧n=xs.length - k)
 case atStart=>exact ⟨0,Nat.zero_le _,rfl,by simpa using own_nil _ _ _ _,Fr.refl _ _,rfl⟩
 case round=>
  obtain ⟨k,hk,rfl,hown,hf,rfl⟩:=hrel
  by_cases hlt:k < xs.length
  ·obtain ⟨b2,off,u,rfl,hbl,hu,hc⟩:=(hS.nope hf).at_ hlt
   rw [List.getElem?_map] at hu
   obtain ⟨x,hxk,rfl⟩:=Option.map_eq_some_iff.1 hu
   have hT:=Lib.hid (filter_take (p:=p) hxk)
   have hB1:=List.length_filter_le p (xs.take k)
   have hB3:(xs.take k).length≤k:=by rw [List.length_take];omega
   have hcall:=hp wr x (List.mem_of_getElem? hxk) hf
   simp only [List.append_toArray,List.cons_append,List.nil_append] at hcall
   simp only [idV] at hc
   clear hS hu hxk hp
   go_wp2_with fail
   refine hcall.mono ?_
   rintro e w2 ⟨rfl,hf2⟩
   have hown2:=own_fr hown hf2 (fun _ _ x=>x)
   have hft:=hf.then hf2
   cases hpx:p x with
   | false=>
    rw [hpx] at hT
    replace hpx:=Lib.hid hpx
    go_wp2
    go_roundg (xs.length - (k+1))
    case measure=>omega
    case rel=>exact ⟨k+1,by omega,by go_num,by rw [hT.out];simpa using hown2,hft,rfl⟩
   | true=>
    rw [hpx] at hT
    replace hpx:=Lib.hid hpx
    go_wp2_with (refine wpList_app (v:=u5) rfl rfl Tryz.underlying228 infoID rfl (by omega) rfl (own_fr hown2 ((Fr.refl nope _).alloc _) (fun _ _ x=>x)) rfl (news:=[_]) rfl (one_new _ _ _ _ rfl) (by simp [Value.oneCell']) (by simp only [maxLen];omega) (by omega) (by have:=hft.size;simp;omega) ?_;intro v3 w3 hown3 hf3 _)
    go_roundg (xs.length - (k+1))
    case measure=>omega
    case rel=>exact ⟨k+1,by omega,by go_num,by rw [hT.out,List.map_append,List.length_append];exact hown3,(hft.alloc _).then_new hf3 (fun x hx he=>by have:=own_base hown x he;omega),rfl⟩
  ·go_wp2
   go_ret
   have e:xs.take k=xs:=List.take_of_length_le (by omega)
   rw [e] at hown
   exact ⟨_,rfl,by simpa using hown,hf⟩
end
end Go.Proofs.YtpbeedabmjmdmaaGreatDoor
