/- Part of the proof of a statement about pub-berthage: what its texts have in common. -/
import Derived.Deep.RegionHeld3
import Derived.Test.YtpbeedabmjmdmaaGreatDoorP25
namespace Go.Proofs.YtpbeedabmjmdmaaGreatDoor
section
open Go Go.RowKit Bth
set_option maxRecDepth 100000
structure FB (w:World) (fb:Nat) (f:Fn) (nds:List Nd) (rs:List Rec) (cms:List (Nat × List ByteArray)):Prop where
 fn:FnAt w fb f
 nodes:w.ownsRow (fb+1) 135 1 f.nodes nds.length (nds.map Nd.val)
 recs:∀ r∈rs,r.At w∧fb < r.lo∧r.hi≤w.heap.size
 apart:rs.Pairwise fun a b=>a.hi≤b.lo
 coms:∀ c∈cms,CmAt w fb c.1 c.2
 bs:insOf nds=rs.map (·.b)
theorem FState.toFB {w:World} {fs:Nat→Option Nat} {ns:List PN} {fb:Nat} {f:Fn} {nds:List Nd} {rs:List Rec} {cms:List (Nat × List ByteArray)} (h:FState w fs ns fb f nds rs cms):FB w fb f nds rs cms:=⟨h.fn,h.nodes,h.recs,h.apart,h.coms,h.mt.insOf⟩
def AllB (rs:List Rec) (c:Nat):Prop:=∃ r∈rs,RowB r c
theorem FB.noT {w:World} {fb:Nat} {f:Fn} {nds:List Nd} {rs:List Rec} {cms:List (Nat × List ByteArray)} (h:FB w fb f nds rs cms):NoT [84,135,139,130,9,212] w (AllB rs):=by
 rintro b cs t fr ⟨r,hr,hb⟩
 exact (h.recs r hr).1.noT b cs t fr hb
theorem FB.rowlt {w:World} {fb:Nat} {f:Fn} {nds:List Nd} {rs:List Rec} {cms:List (Nat × List ByteArray)} (h:FB w fb f nds rs cms):∀ c,AllB rs c→fb < c∧c < w.heap.size:=by
 rintro c ⟨r,hr,p,hp,hc⟩
 obtain ⟨h1,h2,h3⟩:=h.recs r hr
 have h4:=own_base (h1.rowOwn p) c hc
 refine ⟨by omega,Nat.lt_of_lt_of_le ?_ h3⟩
 match p,hc with
 | 0,hc=>exact h1.own.h1 c hc
 | 1,hc=>exact h1.own.h2 c hc
 | 2,hc=>exact h1.own.h3 c hc
theorem IdMap.noAll {w:World} {b:Nat} {g:Nat→Option Nat} (hb:IdMap w b g) {fb:Nat} {f:Fn} {nds:List Nd} {rs:List Rec} {cms:List (Nat × List ByteArray)} (h:FB w fb f nds rs cms):¬AllB rs b:=by
 rintro ⟨r,hr,hc⟩
 exact hb.noRow (h.recs r hr).1 hc
theorem BR.all {g:Nat→Option Nat} {n:Nat→Nat→Nat} {rs rs':List Rec} (hl:rs'.length=rs.length) (h:∀ (k:Nat) (r r':Rec),rs[k]? = some r→rs'[k]? = some r'→BR g (n k) r r') (c:Nat):AllB rs' c↔AllB rs c:=by
 constructor
 ·rintro ⟨r',hr',hc⟩
  obtain ⟨k,hk⟩:=List.mem_iff_getElem?.1 hr'
  have hlt:k < rs.length:=by rw [← hl];exact (List.getElem?_eq_some_iff.1 hk).1
  exact ⟨_,List.getElem_mem hlt,((h k _ r' (List.getElem?_eq_getElem hlt) hk).rowB c).1 hc⟩
 ·rintro ⟨r,hr,hc⟩
  obtain ⟨k,hk⟩:=List.mem_iff_getElem?.1 hr
  have hlt:k < rs'.length:=by rw [hl];exact (List.getElem?_eq_some_iff.1 hk).1
  exact ⟨_,List.getElem_mem hlt,((h k r _ hk (List.getElem?_eq_getElem hlt)).rowB c).2 hc⟩
theorem FB.upd {w w':World} {fb:Nat} {f:Fn} {nds:List Nd} {rs:List Rec} {cms:List (Nat × List ByteArray)} (h:FB w fb f nds rs cms) {k:Nat} {r r':Rec} (hk:rs[k]? = some r) (hf:Fr (RowB r) w w') (hr:r'.At w') (hb:r'.b=r.b) (hlo:r'.lo=r.lo) (hhi:r'.hi=r.hi):FB w' fb f nds (rs.set k r') cms:=by
 have hr0:=h.recs r (List.mem_of_getElem? hk)
 have hT:=hr0.1.noT
 have hlt:=(List.getElem?_eq_some_iff.1 hk).1
 refine ⟨heap_frT h.fn hf hT (by decide),own_frT h.nodes hf hT (by decide),fun x hx=>?_,?_,fun c hc=>(h.coms c hc).frT hf hT (by decide) (by decide),?_⟩
 ·obtain ⟨j,hj⟩:=List.mem_iff_getElem?.1 hx
  rw [List.getElem?_set] at hj
  split at hj
  ·rename_i e
   injection hj with hj
   subst hj
   exact ⟨hr,by rw [hlo];exact hr0.2.1,by rw [hhi];exact Nat.le_trans hr0.2.2 hf.size⟩
  ·rename_i e
   have hx0:=h.recs x (List.mem_of_getElem? hj)
   refine ⟨?_,hx0.2.1,Nat.le_trans hx0.2.2 hf.size⟩
   have hne:∀ p c,(x.i.rowV p).val.ownBlock=some c→¬RowB r c:=by
    rintro p c hc ⟨q,hq,hc2⟩
    obtain ⟨h1,e1⟩:=List.getElem?_eq_some_iff.1 hj
    obtain ⟨h2,e2⟩:=List.getElem?_eq_some_iff.1 hk
    have l1:=own_base (hx0.1.rowOwn p) c hc
    have l2:=own_base (hr0.1.rowOwn q) c hc2
    have u1:c < x.hi:=by
     match p,hc with
     | 0,hc=>exact hx0.1.own.h1 c hc
     | 1,hc=>exact hx0.1.own.h2 c hc
     | _+2,hc=>exact hx0.1.own.h3 c hc
    have u2:c < r.hi:=by
     match q,hc2 with
     | 0,hc=>exact hr0.1.own.h1 c hc
     | 1,hc=>exact hr0.1.own.h2 c hc
     | _+2,hc=>exact hr0.1.own.h3 c hc
    rcases Nat.lt_or_gt_of_ne e with hkj | hkj
    ·have:=List.pairwise_iff_getElem.1 h.apart k j h2 h1 hkj
     rw [e1,e2] at this
     omega
    ·have:=List.pairwise_iff_getElem.1 h.apart j k h1 h2 hkj
     rw [e1,e2] at this
     omega
   exact
    { own:={ hx0.1.own with
       at_:=heap_frT hx0.1.own.at_ hf hT (by decide)
       ops:=own_fr hx0.1.own.ops hf (hne 0)
       inp:=own_fr hx0.1.own.inp hf (hne 1)
       out:=own_fr hx0.1.own.out hf (hne 2) }
      suf:=⟨hx0.1.suf.1,own_frT hx0.1.suf.2 hf hT (by decide)⟩
      isa:=⟨hx0.1.isa.1,own_frT hx0.1.isa.2 hf hT (by decide)⟩
      s1:=hx0.1.s1
      s2:=hx0.1.s2
      ats:=⟨fun o ho=>(hx0.1.ats.1 o ho).frT hf hT (by decide),fun o ho=>(hx0.1.ats.2.1 o ho).frT hf hT (by decide),fun o ho=>(hx0.1.ats.2.2 o ho).frT hf hT (by decide)⟩ }
 ·rw [List.pairwise_iff_getElem]
  intro a b ha hb2 hab
  rw [List.length_set] at ha hb2
  have:=List.pairwise_iff_getElem.1 h.apart a b ha hb2 hab
  simp only [List.getElem_set]
  obtain ⟨hkl,hke⟩:=List.getElem?_eq_some_iff.1 hk
  split<;>split
  ·rename_i e1 e2;omega
  ·rename_i e1 e2;subst e1;rw [hke] at this;rw [hhi];exact this
  ·rename_i e1 e2;subst e2;rw [hke] at this;rw [hlo];exact this
  ·exact this
 ·rw [h.bs]
  refine List.ext_getElem? fun j=>?_
  rw [List.getElem?_map,List.getElem?_map,List.getElem?_set]
  by_cases e:k=j
  ·subst e;rw [if_pos rfl,if_pos hlt,hk];simp [hb]
  ·rw [if_neg e]
theorem FB.fr {w w':World} {fb:Nat} {f:Fn} {nds:List Nd} {rs:List Rec} {cms:List (Nat × List ByteArray)} (h:FB w fb f nds rs cms) (hf:Fr nope w w'):FB w' fb f nds rs cms:=
 ⟨hf.heap h.fn (fun x=>x),own_fr h.nodes hf (fun _ _ x=>x),fun r hr=>⟨(h.recs r hr).1.nope hf,(h.recs r hr).2.1,Nat.le_trans (h.recs r hr).2.2 hf.size⟩,h.apart,fun c hc=>(h.coms c hc).frT hf (NoT.nope _ _) (T:=[139,9]) (by decide) (by decide),h.bs⟩
def upTo (r:Rec) (p j:Nat) (q:Nat):Nat:=if q < p then (r.row q).length else if q=p then j else 0
theorem BR.done {g:Nat→Option Nat} {r r':Rec} {p:Nat} (h:BR g (upTo r p (r.row p).length) r r'):BR g (upTo r (p+1) 0) r r':=h.congr fun q hq=>by
 unfold upTo
 by_cases h1:q < p
 ·rw [if_pos (by omega),if_pos h1]
 ·by_cases h2:q=p
  ·subst h2;rw [if_pos (by omega),if_neg h1,if_pos rfl]
  ·rw [if_neg (by omega),if_neg h1,if_neg h2]
   split<;>rfl
theorem BR.step2 {g:Nat→Option Nat} {r r':Rec} {p j:Nat} (h:BR g (upTo r p j) r r') (hp:p < 3) {o o':O} (ho:(r.row p)[j]? = some o) (hb:BO g o o'):BR g (upTo r p (j+1)) r (r'.setRow p ((r'.row p).set j o')):=by
 have e:upTo r p j p=j:=by unfold upTo;rw [if_neg (by omega),if_pos rfl]
 have h1:=h.step hp (by rw [e];exact ho) hb
 rw [e] at h1
 refine h1.congr fun q hq=>?_
 unfold upTo
 by_cases h2:q=p
 ·subst h2;rw [if_neg (by omega),if_pos rfl,if_pos rfl]
 ·by_cases h3:q < p
  ·simp [h2,h3]
  ·simp [h2,h3]
def upTo2 (rs:List Rec) (k:Nat) (j:Nat):Nat→Nat:=if j < k then fun q=>((rs[j]?).map fun r=>(r.row q).length).getD 0 else fun _=>0
structure BRs (g:Nat→Option Nat) (k:Nat) (rs rs':List Rec):Prop where
 len:rs'.length=rs.length
 each:∀ (j:Nat) (r r':Rec),rs[j]? = some r→rs'[j]? = some r'→BR g (upTo2 rs k j) r r'
theorem BRs.start (g:Nat→Option Nat) (rs:List Rec):BRs g 0 rs rs:=⟨rfl,fun j r r' h1 h2=>by rw [h1] at h2;injection h2 with h2;subst h2;exact (BR.start g r).congr fun p _=>by simp [upTo2]⟩
theorem BRs.at_ {g:Nat→Option Nat} {k:Nat} {rs rs':List Rec} (h:BRs g k rs rs') {r:Rec} (hr:rs[k]? = some r):∃ r',rs'[k]? = some r'∧BR g (upTo r 0 0) r r':=by
 have hlt:k < rs'.length:=by rw [h.len];exact (List.getElem?_eq_some_iff.1 hr).1
 refine ⟨_,List.getElem?_eq_getElem hlt,(h.each k r _ hr (List.getElem?_eq_getElem hlt)).congr fun p _=>?_⟩
 simp [upTo2,upTo]
theorem BRs.step {g:Nat→Option Nat} {k:Nat} {rs rs':List Rec} (h:BRs g k rs rs') {r r':Rec} (hr:rs[k]? = some r) (hb:BR g (upTo r 3 0) r r'):BRs g (k+1) rs (rs'.set k r'):=by
 refine ⟨by rw [List.length_set];exact h.len,fun j x x' h1 h2=>?_⟩
 rw [List.getElem?_set] at h2
 split at h2
 ·rename_i e
  subst e
  split at h2
  ·injection h2 with h2
   subst h2
   rw [hr] at h1
   injection h1 with h1
   subst h1
   refine hb.congr fun p hp=>?_
   unfold upTo2 upTo
   rw [if_pos (by omega),hr,if_pos hp]
   rfl
  ·cases h2
 ·rename_i e
  refine (h.each j x x' h1 h2).congr fun p hp=>?_
  unfold upTo2
  by_cases hj:j < k
  ·rw [if_pos (by omega),if_pos hj]
  ·rw [if_neg (by omega),if_neg hj]
theorem Rec.At.cellP {w:World} {r:Rec} (h:r.At w) {p:Nat} (hp:p < 3):w.cell? ⟨r.b,2+p,none⟩=some (.slice (r.i.rowV p).A (r.row p).length (r.i.rowV p).c):=by
 obtain ⟨A,c,hv,_,_⟩:=own_slice (h.rowOwn p)
 have hv':Value.slice (r.i.rowV p).A (r.i.rowV p).n (r.i.rowV p).c = .slice A (r.row p).length c:=hv
 injection hv' with e1 e2 e3
 rw [cell_of_row _ _ _ _ _ (0,0) h.own.at_,← e2]
 rcases p with _ | _ | _ | p<;>first | rfl | omega
theorem Rec.At.elem {w:World} {r:Rec} (h:r.At w) {p j:Nat} (hp:p < 3) {o:O} (ho:(r.row p)[j]? = some o):∃ gb,(r.i.rowV p).A=some ⟨gb,0,none⟩∧gb < w.heap.size∧w.cell? ⟨gb,j,none⟩=some o.val∧w.frozen? ⟨gb,j,none⟩=false∧gb≠r.b∧RowB r gb∧∀ w',Fr Bth.nope w w'→w'.frozen? ⟨gb,j,none⟩=false:=by
 have hO:=h.rowOwn p
 obtain ⟨A,c,hv,_,_⟩:=own_slice hO
 have hv':Value.slice (r.i.rowV p).A (r.i.rowV p).n (r.i.rowV p).c = .slice A (r.row p).length c:=hv
 injection hv' with e1 e2 e3
 have hlt:=(List.getElem?_eq_some_iff.1 ho).1
 rw [hv] at hO
 obtain ⟨gb,hA,hg,hc⟩:=own_cells hO (by omega)
 have hob:(r.i.rowV p).val.ownBlock=some gb:=by rw [hv,hA];rfl
 obtain ⟨cur,hcur⟩:=own_heap (h.rowOwn p) hob
 exact ⟨gb,by rw [e1,hA],hg,hc j o.val (by rw [List.getElem?_map,ho];rfl),frozen_row hcur j,fun e=>own_ne (h.rowOwn p) h.own.at_ (by decide) (by rw [hob,e]),⟨p,hp,hob⟩,fun w' hf=>frozen_row (hf.heap hcur (fun x=>x)) j⟩
def GivesBR (w:World) (fb:Nat) (f:Fn) (nds:List Nd) (rs:List Rec) (cms:List (Nat × List ByteArray)) (g:Nat→Option Nat) (e:Ending) (w':World):Prop:=
 e = .returned .nilIface∧Fr (AllB rs) w w'∧∃ rs',BRs g rs.length rs rs'∧FB w' fb f nds rs' cms
set_option maxHeartbeats 4000000 in
theorem BindRegisters_calls (w:World) (fb:Nat) (f:Fn) (nds:List Nd) (rs:List Rec) (cms:List (Nat × List ByteArray)) (mb:Nat) (g:Nat→Option Nat)
  (st:FB w fb f nds rs cms) (hal:f.al=some mb) (hb:IdMap w mb g) (hs:small g) (hl:nds.length≤1048576) (hrow:∀ r∈rs,∀ p,(r.row p).length≤1048576):
  Calls Tryz.prog 28 #[ptr fb] w (GivesBR w fb f nds rs cms g):=by
 obtain ⟨A,c,hnn,_,_⟩:=own_slice st.nodes
 have hrl:rs.length≤nds.length:=by
  have h2:=insOf_le nds
  rw [st.bs,List.length_map] at h2
  exact h2
 have hfl:=lt_of_heap st.fn
 have hSn:Sl w A nds.length (nds.map Nd.val):=by have h:=st.nodes;rw [hnn] at h;exact own_Sl h
 have hI:Calls Tryz.prog 58 #[.pointer (some ⟨fb,0,none⟩)] w (GivesOwn w 115 ((rs.map (·.b)).map ptr)):=by
  have hc5:=st.fn.c5
  rw [hnn] at hc5
  have:=Instructions_calls w fb A c nds hc5 hSn (by omega)
  rw [st.bs] at this
  exact this
 have hnoA:=hb.noAll st
 have hbA:=st.rowlt
 have hT0:=st.noT
 replace hnn:=Lib.hid hnn
 unfold ptr
 go_enter Tryz.func28,Tryz.ntmps28
 go_wp2_with fail
 refine hI.mono ?_
 rintro e w1 ⟨v,rfl,hown,hf1⟩
 simp only [List.length_map] at hown
 obtain ⟨A1,c1,rfl,_,_⟩:=own_slice hown
 have hSl:=own_Sl hown
 rw [List.map_map] at hSl
 have hbase:∀ b off,A1=some ⟨b,off,none⟩→¬AllB rs b:=fun b off he hx=>by
  have h1:=own_base hown b (by rw [he];rfl)
  have h2:=(hbA b hx).2
  omega
 replace hbase:=Lib.hid hbase
 replace hbA:=Lib.hid hbA
 go_wp2
 go_loopg [11] rs.length (fun n c11 wr=>∃ (k:Nat) (rs':List Rec),k≤rs.length∧c11 = .int .i64 (k:Int)∧BRs g k rs rs'∧FB wr fb f nds rs' cms∧Sl wr A1 rs.length (List.map (ptr ∘ fun x=>x.b) rs)∧Fr (AllB rs) w wr∧n=rs.length - k)
 case atStart=>exact ⟨0,rs,Nat.zero_le _,rfl,BRs.start g rs,st.fr hf1,hSl,hf1.of_nope,rfl⟩
 case round=>
  obtain ⟨k,rs',hk,rfl,hB,st1,hSr,hf,rfl⟩:=hrel
  by_cases hlt:k < rs.length
  ·obtain ⟨b0,off,u,hA1e,hbl,hu,hc⟩:=hSr.at_ hlt
   rw [List.getElem?_map] at hu
   obtain ⟨r,hr,rfl⟩:=Option.map_eq_some_iff.1 hu
   have hrm:=List.mem_of_getElem? hr
   obtain ⟨r1,hr1,hBR⟩:=hB.at_ hr
   have hrA:=(st1.recs r1 (List.mem_of_getElem? hr1)).1
   have hrow1:=hrow r hrm
   have hr1b:=hBR.b
   have hr1i:=hBR.i
   have hal7:=st1.fn.c7
   rw [hal] at hal7
   have hbm:=hb.fr hf hnoA
   simp only [Function.comp,ptr] at hc
   rw [← hr1b] at hc
   have hibl:=lt_of_heap hrA.own.at_
   replace hr:=Lib.hid hr
   replace hr1b:=Lib.hid hr1b
   replace hr1:=Lib.hid hr1
   have hlx:∀ q,q < 3→∀ {n:Nat→Nat} {x:Rec},BR g n r x→(x.row q).length=(r.row q).length:=fun q hq {n x} hx=>(hx.row q hq).1
   replace hlx:=Lib.hid @hlx
   obtain ⟨wo,rfl⟩:∃ wo:World,wo=wr:=⟨_,rfl⟩
   obtain ⟨x0,hx0⟩:∃ x,x=r1:=⟨_,rfl⟩
   rw [← hx0] at hrA hBR
   rw [hr1b.out] at hc hibl
   have hrA0:=hrA
   have hBR0:=hBR
   have hfo0:Fr (RowB r) wo wo:=Fr.refl _ _
   clear hrA hBR hr1i
   replace hx0:=Lib.hid hx0
   have hcp0:wo.cell? ⟨r.b,2,none⟩=some (.slice (r.i.rowV 0).A (r.row 0).length (r.i.rowV 0).c):=by
    have h:=hrA0.cellP (show 0 < 3 by omega)
    rw [hlx.out 0 (by omega) hBR0,hBR0.i,hBR0.b] at h
    exact h
   have hib0:=lt_of_heap hrA0.own.at_
   rw [hBR0.b] at hib0
   have hln0:=hrow1 0
   go_wp2
   replace hcp0:=Lib.hid hcp0
   replace hA1e:=Lib.hid hA1e
   go_loopg [20] (r.row 0).length (fun n ci wr=>∃ (j:Nat) (x:Rec),j≤(r.row 0).length∧ci = .int .i64 (j:Int)∧BR g (upTo r 0 j) r x∧x.At wr∧Fr (RowB r) wo wr∧n=(r.row 0).length - j)
   case atStart=>exact ⟨0,x0,Nat.zero_le _,rfl,hBR0,hrA0,hfo0,rfl⟩
   case round=>
    obtain ⟨j,x,hj,rfl,hBx,hxA,hfx,rfl⟩:=hrel
    by_cases hjl:j < (r.row 0).length
    ·have ho:=List.getElem?_eq_getElem hjl
     generalize (r.row 0)[j]=o at ho
     have hox:=(hBx.row 0 (by omega)).at_ (by unfold upTo;rw [if_neg (by omega),if_pos rfl];exact ho)
     rw [show upTo r 0 j 0=j from by unfold upTo;rw [if_neg (by omega),if_pos rfl]] at hox
     obtain ⟨gb,hgA,hgl,hge,hgz,hgn,hgR,hgz5'⟩:=hxA.elem (show 0 < 3 by omega) hox
     have hoA:=hxA.rowAts 0 o (List.mem_of_getElem? hox)
     have hgA0:=hgA
     rw [hBx.i] at hgA
     rw [hBx.b] at hgn
     have hci:wr.cell? ⟨r.b,2,none⟩=some (.slice (some ⟨gb,0,none⟩) (r.row 0).length (r.i.rowV 0).c):=by
      have h:=hxA.cellP (show 0 < 3 by omega)
      rw [hlx.out 0 (by omega) hBx,hBx.i,hBx.b,hgA] at h
      exact h
     have hil:=lt_of_heap hxA.own.at_
     rw [hBx.b] at hil
     have hfr:Fr (AllB rs) w wr:=hf.then (hfx.mono fun c _ h=>⟨r,hrm,h⟩)
     have hbr:=hb.fr hfr hnoA
     have hfn:=heap_frT st.fn hfr hT0 (by decide)
     have hc7:=FnAt.c7 hfn
     rw [hal] at hc7
     have hfll:=lt_of_heap hfn
     have hAp:=ApplyB_calls wr.drew mb g (hbr.fr (Fr.refl nope wr).drew (fun x=>x)) hs o (fun q hq=>⟨(hoA q hq).1,(hoA q hq).2.nope (Fr.refl nope wr).drew⟩)
     have hdw:Fr nope wr wr.drew:=(Fr.refl nope wr).drew
     have hge0:wr.drew.cell? ⟨gb,j,none⟩=some o.val:=hge
     have hc70:wr.drew.cell? ⟨fb,7,none⟩=some (.map (some mb)):=hc7
     have hci0:wr.drew.cell? ⟨r.b,2,none⟩=some (.slice (some ⟨gb,0,none⟩) (r.row 0).length (r.i.rowV 0).c):=hci
     have hgz5:∀ w',Fr nope wr.drew w'→w'.frozen? ⟨gb,j,none⟩=false:=fun w' hw'=>hgz5' w' (hdw.then hw')
     replace hgz5:=Lib.hid hgz5
     obtain ⟨T,v,hv⟩:=o.val_iface
     rw [hv] at hge hge0 hAp
     replace hv:=Lib.hid hv
     replace hgA:=Lib.hid hgA
     replace hgA0:=Lib.hid hgA0
     replace hBx:=Lib.hid hBx
     replace hxA:=Lib.hid hxA
     replace hfx:=Lib.hid hfx
     replace hfr:=Lib.hid hfr
     replace hoA:=Lib.hid hoA
     replace ho:=Lib.hid ho
     replace hox:=Lib.hid hox
     replace hgR:=Lib.hid hgR
     clear hbr hfn
     go_wp2
     go_region_with
      ((go_at_call 59;refine hAp.mono ?_;rintro e w5 ⟨o',rfl,hf5,hBO,hoA'⟩;have hc5:=hf5.cell hci0 (fun x=>x);have he5:=hf5.cell hge0 (fun x=>x);have hz5:=hgz5.out w5 hf5;have hl5:gb < w5.heap.size:=Nat.lt_of_lt_of_le hgl hf5.size;have hl6:r.b < w5.heap.size:=Nat.lt_of_lt_of_le hil hf5.size;obtain ⟨T',v',hv'⟩:=o'.val_iface;rw [hv'];have hc6:(w5.setCell ⟨gb,j,none⟩ (.iface T' v')).cell? ⟨r.b,2,none⟩=some (.slice (some ⟨gb,0,none⟩) (r.row 0).length (r.i.rowV 0).c):=((Fr.refl (fun x=>x=gb) w5).setCell (.inl rfl) _).cell hc5 (fun e=>hgn e.symm)))
     all_goals
      go_wp2
      go_roundg ((r.row 0).length - (j+1))
      case measure=>omega
      case rel=>
       obtain ⟨hs6,hs7⟩:=((hxA.out.nope hdw).nope hf5).setRow (show 0 < 3 by omega) (j:=j) hgA0.out hoA'
       rw [hv'] at hs6 hs7
       exact ⟨j+1,_,by omega,by go_num,hBx.out.step2 (by omega) ho.out hBO,hs6,hfx.out.then ((hdw.then hf5).of_nope.then (hs7.mono fun c _ h=>(hBx.out.rowB c).1 h)),rfl⟩
    ·have hje:j=(r.row 0).length:=by omega
     subst hje
     clear hln0 hj
     have hBR1:=hBx.done
     have hrA1:=hxA
     have hfo1:=hfx
     obtain ⟨x1,hx1⟩:∃ y,y=x:=⟨_,rfl⟩
     obtain ⟨wo1,hwo1⟩:∃ W:World,W=wr:=⟨_,rfl⟩
     rw [← hx1] at hBR1 hrA1
     rw [← hwo1] at hrA1 hfo1 ⊢
     clear hBx hxA hfx
     replace hx1:=Lib.hid hx1
     replace hwo1:=Lib.hid hwo1
     have hcp1:wo1.cell? ⟨r.b,3,none⟩=some (.slice (r.i.rowV 1).A (r.row 1).length (r.i.rowV 1).c):=by
      have h:=hrA1.cellP (show 1 < 3 by omega)
      rw [hlx.out 1 (by omega) hBR1,hBR1.i,hBR1.b] at h
      exact h
     have hib1:=lt_of_heap hrA1.own.at_
     rw [hBR1.b] at hib1
     have hln1:=hrow1 1
     go_wp2
     replace hcp1:=Lib.hid hcp1
     go_loopg [47] (r.row 1).length (fun n ci wr=>∃ (j:Nat) (x:Rec),j≤(r.row 1).length∧ci = .int .i64 (j:Int)∧BR g (upTo r 1 j) r x∧x.At wr∧Fr (RowB r) wo wr∧n=(r.row 1).length - j)
     case atStart=>exact ⟨0,x1,Nat.zero_le _,rfl,hBR1,hrA1,hfo1,rfl⟩
     case round=>
      obtain ⟨j,x,hj,rfl,hBx,hxA,hfx,rfl⟩:=hrel
      by_cases hjl:j < (r.row 1).length
      ·have ho:=List.getElem?_eq_getElem hjl
       generalize (r.row 1)[j]=o at ho
       have hox:=(hBx.row 1 (by omega)).at_ (by unfold upTo;rw [if_neg (by omega),if_pos rfl];exact ho)
       rw [show upTo r 1 j 1=j from by unfold upTo;rw [if_neg (by omega),if_pos rfl]] at hox
       obtain ⟨gb,hgA,hgl,hge,hgz,hgn,hgR,hgz5'⟩:=hxA.elem (show 1 < 3 by omega) hox
       have hoA:=hxA.rowAts 1 o (List.mem_of_getElem? hox)
       have hgA0:=hgA
       rw [hBx.i] at hgA
       rw [hBx.b] at hgn
       have hci:wr.cell? ⟨r.b,3,none⟩=some (.slice (some ⟨gb,0,none⟩) (r.row 1).length (r.i.rowV 1).c):=by
        have h:=hxA.cellP (show 1 < 3 by omega)
        rw [hlx.out 1 (by omega) hBx,hBx.i,hBx.b,hgA] at h
        exact h
       have hil:=lt_of_heap hxA.own.at_
       rw [hBx.b] at hil
       have hfr:Fr (AllB rs) w wr:=hf.then (hfx.mono fun c _ h=>⟨r,hrm,h⟩)
       have hbr:=hb.fr hfr hnoA
       have hfn:=heap_frT st.fn hfr hT0 (by decide)
       have hc7:=FnAt.c7 hfn
       rw [hal] at hc7
       have hfll:=lt_of_heap hfn
       have hAp:=ApplyB_calls wr.drew mb g (hbr.fr (Fr.refl nope wr).drew (fun x=>x)) hs o (fun q hq=>⟨(hoA q hq).1,(hoA q hq).2.nope (Fr.refl nope wr).drew⟩)
       have hdw:Fr nope wr wr.drew:=(Fr.refl nope wr).drew
       have hge0:wr.drew.cell? ⟨gb,j,none⟩=some o.val:=hge
       have hc70:wr.drew.cell? ⟨fb,7,none⟩=some (.map (some mb)):=hc7
       have hci0:wr.drew.cell? ⟨r.b,3,none⟩=some (.slice (some ⟨gb,0,none⟩) (r.row 1).length (r.i.rowV 1).c):=hci
       have hgz5:∀ w',Fr nope wr.drew w'→w'.frozen? ⟨gb,j,none⟩=false:=fun w' hw'=>hgz5' w' (hdw.then hw')
       replace hgz5:=Lib.hid hgz5
       obtain ⟨T,v,hv⟩:=o.val_iface
       rw [hv] at hge hge0 hAp
       replace hv:=Lib.hid hv
       replace hgA:=Lib.hid hgA
       replace hgA0:=Lib.hid hgA0
       replace hBx:=Lib.hid hBx
       replace hxA:=Lib.hid hxA
       replace hfx:=Lib.hid hfx
       replace hfr:=Lib.hid hfr
       replace hoA:=Lib.hid hoA
       replace ho:=Lib.hid ho
       replace hox:=Lib.hid hox
       replace hgR:=Lib.hid hgR
       clear hbr hfn
       go_wp2
       go_region_with
        ((go_at_call 59;refine hAp.mono ?_;rintro e w5 ⟨o',rfl,hf5,hBO,hoA'⟩;have hc5:=hf5.cell hci0 (fun x=>x);have he5:=hf5.cell hge0 (fun x=>x);have hz5:=hgz5.out w5 hf5;have hl5:gb < w5.heap.size:=Nat.lt_of_lt_of_le hgl hf5.size;have hl6:r.b < w5.heap.size:=Nat.lt_of_lt_of_le hil hf5.size;obtain ⟨T',v',hv'⟩:=o'.val_iface;rw [hv'];have hc6:(w5.setCell ⟨gb,j,none⟩ (.iface T' v')).cell? ⟨r.b,3,none⟩=some (.slice (some ⟨gb,0,none⟩) (r.row 1).length (r.i.rowV 1).c):=((Fr.refl (fun x=>x=gb) w5).setCell (.inl rfl) _).cell hc5 (fun e=>hgn e.symm)))
       all_goals
        go_wp2
        go_roundg ((r.row 1).length - (j+1))
        case measure=>omega
        case rel=>
         obtain ⟨hs6,hs7⟩:=((hxA.out.nope hdw).nope hf5).setRow (show 1 < 3 by omega) (j:=j) hgA0.out hoA'
         rw [hv'] at hs6 hs7
         exact ⟨j+1,_,by omega,by go_num,hBx.out.step2 (by omega) ho.out hBO,hs6,hfx.out.then ((hdw.then hf5).of_nope.then (hs7.mono fun c _ h=>(hBx.out.rowB c).1 h)),rfl⟩
      ·have hje:j=(r.row 1).length:=by omega
       subst hje
       clear hln1 hj
       have hBR2:=hBx.done
       have hrA2:=hxA
       have hfo2:=hfx
       obtain ⟨x2,hx2⟩:∃ y,y=x:=⟨_,rfl⟩
       obtain ⟨wo2,hwo2⟩:∃ W:World,W=wr:=⟨_,rfl⟩
       rw [← hx2] at hBR2 hrA2
       rw [← hwo2] at hrA2 hfo2 ⊢
       clear hBx hxA hfx
       replace hx2:=Lib.hid hx2
       replace hwo2:=Lib.hid hwo2
       have hcp2:wo2.cell? ⟨r.b,4,none⟩=some (.slice (r.i.rowV 2).A (r.row 2).length (r.i.rowV 2).c):=by
        have h:=hrA2.cellP (show 2 < 3 by omega)
        rw [hlx.out 2 (by omega) hBR2,hBR2.i,hBR2.b] at h
        exact h
       have hib2:=lt_of_heap hrA2.own.at_
       rw [hBR2.b] at hib2
       have hln2:=hrow1 2
       go_wp2
       replace hcp2:=Lib.hid hcp2
       go_loopg [74] (r.row 2).length (fun n ci wr=>∃ (j:Nat) (x:Rec),j≤(r.row 2).length∧ci = .int .i64 (j:Int)∧BR g (upTo r 2 j) r x∧x.At wr∧Fr (RowB r) wo wr∧n=(r.row 2).length - j)
       case atStart=>exact ⟨0,x2,Nat.zero_le _,rfl,hBR2,hrA2,hfo2,rfl⟩
       case round=>
        obtain ⟨j,x,hj,rfl,hBx,hxA,hfx,rfl⟩:=hrel
        by_cases hjl:j < (r.row 2).length
        ·have ho:=List.getElem?_eq_getElem hjl
         generalize (r.row 2)[j]=o at ho
         have hox:=(hBx.row 2 (by omega)).at_ (by unfold upTo;rw [if_neg (by omega),if_pos rfl];exact ho)
         rw [show upTo r 2 j 2=j from by unfold upTo;rw [if_neg (by omega),if_pos rfl]] at hox
         obtain ⟨gb,hgA,hgl,hge,hgz,hgn,hgR,hgz5'⟩:=hxA.elem (show 2 < 3 by omega) hox
         have hoA:=hxA.rowAts 2 o (List.mem_of_getElem? hox)
         have hgA0:=hgA
         rw [hBx.i] at hgA
         rw [hBx.b] at hgn
         have hci:wr.cell? ⟨r.b,4,none⟩=some (.slice (some ⟨gb,0,none⟩) (r.row 2).length (r.i.rowV 2).c):=by
          have h:=hxA.cellP (show 2 < 3 by omega)
          rw [hlx.out 2 (by omega) hBx,hBx.i,hBx.b,hgA] at h
          exact h
         have hil:=lt_of_heap hxA.own.at_
         rw [hBx.b] at hil
         have hfr:Fr (AllB rs) w wr:=hf.then (hfx.mono fun c _ h=>⟨r,hrm,h⟩)
         have hbr:=hb.fr hfr hnoA
         have hfn:=heap_frT st.fn hfr hT0 (by decide)
         have hc7:=FnAt.c7 hfn
         rw [hal] at hc7
         have hfll:=lt_of_heap hfn
         have hAp:=ApplyB_calls wr.drew mb g (hbr.fr (Fr.refl nope wr).drew (fun x=>x)) hs o (fun q hq=>⟨(hoA q hq).1,(hoA q hq).2.nope (Fr.refl nope wr).drew⟩)
         have hdw:Fr nope wr wr.drew:=(Fr.refl nope wr).drew
         have hge0:wr.drew.cell? ⟨gb,j,none⟩=some o.val:=hge
         have hc70:wr.drew.cell? ⟨fb,7,none⟩=some (.map (some mb)):=hc7
         have hci0:wr.drew.cell? ⟨r.b,4,none⟩=some (.slice (some ⟨gb,0,none⟩) (r.row 2).length (r.i.rowV 2).c):=hci
         have hgz5:∀ w',Fr nope wr.drew w'→w'.frozen? ⟨gb,j,none⟩=false:=fun w' hw'=>hgz5' w' (hdw.then hw')
         replace hgz5:=Lib.hid hgz5
         obtain ⟨T,v,hv⟩:=o.val_iface
         rw [hv] at hge hge0 hAp
         replace hv:=Lib.hid hv
         replace hgA:=Lib.hid hgA
         replace hgA0:=Lib.hid hgA0
         replace hBx:=Lib.hid hBx
         replace hxA:=Lib.hid hxA
         replace hfx:=Lib.hid hfx
         replace hfr:=Lib.hid hfr
         replace hoA:=Lib.hid hoA
         replace ho:=Lib.hid ho
         replace hox:=Lib.hid hox
         replace hgR:=Lib.hid hgR
         clear hbr hfn
         go_wp2
         go_region_with
          ((go_at_call 59;refine hAp.mono ?_;rintro e w5 ⟨o',rfl,hf5,hBO,hoA'⟩;have hc5:=hf5.cell hci0 (fun x=>x);have he5:=hf5.cell hge0 (fun x=>x);have hz5:=hgz5.out w5 hf5;have hl5:gb < w5.heap.size:=Nat.lt_of_lt_of_le hgl hf5.size;have hl6:r.b < w5.heap.size:=Nat.lt_of_lt_of_le hil hf5.size;obtain ⟨T',v',hv'⟩:=o'.val_iface;rw [hv'];have hc6:(w5.setCell ⟨gb,j,none⟩ (.iface T' v')).cell? ⟨r.b,4,none⟩=some (.slice (some ⟨gb,0,none⟩) (r.row 2).length (r.i.rowV 2).c):=((Fr.refl (fun x=>x=gb) w5).setCell (.inl rfl) _).cell hc5 (fun e=>hgn e.symm)))
         all_goals
          go_wp2
          go_roundg ((r.row 2).length - (j+1))
          case measure=>omega
          case rel=>
           obtain ⟨hs6,hs7⟩:=((hxA.out.nope hdw).nope hf5).setRow (show 2 < 3 by omega) (j:=j) hgA0.out hoA'
           rw [hv'] at hs6 hs7
           exact ⟨j+1,_,by omega,by go_num,hBx.out.step2 (by omega) ho.out hBO,hs6,hfx.out.then ((hdw.then hf5).of_nope.then (hs7.mono fun c _ h=>(hBx.out.rowB c).1 h)),rfl⟩
        ·have hje:j=(r.row 2).length:=by omega
         subst hje
         clear hln2 hj
         have hBR3:=hBx.done
         have hrA3:=hxA
         have hfo3:=hfx
         obtain ⟨x3,hx3⟩:∃ y,y=x:=⟨_,rfl⟩
         obtain ⟨wo3,hwo3⟩:∃ W:World,W=wr:=⟨_,rfl⟩
         rw [← hx3] at hBR3 hrA3
         rw [← hwo3] at hrA3 hfo3 ⊢
         clear hBx hxA hfx
         replace hx3:=Lib.hid hx3
         replace hwo3:=Lib.hid hwo3
         go_wp2
         go_roundg (rs.length - (k+1))
         case measure=>omega
         case rel=>
          have hr1':=hr1.out
          rw [← hx0.out] at hr1'
          have hf9:Fr (RowB x0) wo wo3:=hfo3.mono fun c _ h=>(hBR0.rowB c).2 h
          exact ⟨k+1,rs'.set k x3,by omega,by go_num,hB.step hr.out hBR3,st1.upd hr1' hf9 hrA3 (hBR3.b.trans hBR0.b.symm) (hBR3.lo.trans hBR0.lo.symm) (hBR3.hi.trans hBR0.hi.symm),hSr.fr hfo3 (fun _ b off he hx=>hbase.out b off he ⟨r,hrm,hx⟩),hf.then (hfo3.mono fun c _ h=>⟨r,hrm,h⟩),rfl⟩
  ·have hke:k=rs.length:=by omega
   subst hke
   go_wp2
   go_ret
   exact ⟨rfl,hf,rs',hB,st1⟩
end
section
open Go Go.RowKit Go.MapKept Bth
set_option maxRecDepth 100000
def ofPairs (l:List (Nat × Nat)):Nat→Option Nat:=l.foldl (fun f p x=>if x=p.1 then some p.2 else f x) fun _=>none
theorem ofPairs_take {l:List (Nat × Nat)} {k:Nat} {p:Nat × Nat} (h:l[k]? = some p):ofPairs (l.take (k+1))=fun x=>if x=p.1 then some p.2 else ofPairs (l.take k) x:=by
 unfold ofPairs
 rw [List.take_add_one,h,List.foldl_append]
 rfl
def PairsAt (w:World) (A:Option Addr) (l:List (Nat × Nat)):Prop:=0 < l.length→∃ b,A=some ⟨b,0,none⟩∧b < w.heap.size∧∀ (k:Nat) (p:Nat × Nat),l[k]? = some p→w.rangeAt b (k*2) (pairV p)
theorem PairsAt.fr {w w':World} {A:Option Addr} {l:List (Nat × Nat)} (h:PairsAt w A l) (hf:Fr nope w w'):PairsAt w' A l:=fun hl=>by
 obtain ⟨b,h1,h2,h3⟩:=h hl
 exact ⟨b,h1,Nat.lt_of_lt_of_le h2 hf.size,fun k p hk j v hv=>hf.cell (h3 k p hk j v hv) (fun x=>x)⟩
theorem flat_at {l:List (Nat × Nat)} : ∀ {k:Nat} {p:Nat × Nat},l[k]? = some p→∀ j v,(pairV p)[j]? = some v→(l.flatMap pairV)[k*2+j]? = some v:=by
 induction l with
 | nil=>intro k p h;simp at h
 | cons q l ih=>
  intro k p h j v hv
  have hlen:(pairV q).length=2:=rfl
  cases k with
  | zero=>
   simp only [List.getElem?_cons_zero,Option.some.injEq] at h
   subst h
   have hj:j < 2:=by have:=(List.getElem?_eq_some_iff.1 hv).1;simpa [pairV] using this
   rw [List.flatMap_cons,Nat.zero_mul,Nat.zero_add,List.getElem?_append_left (by rw [hlen];exact hj)]
   exact hv
  | succ k=>
   rw [List.getElem?_cons_succ] at h
   rw [List.flatMap_cons,List.getElem?_append_right (by rw [hlen];omega),hlen,show (k+1)*2+j - 2=k*2+j from by omega]
   exact ih h j v hv
theorem PairsAt.of {w:World} {base:Nat} {A:Option Addr} {c:Nat} {l:List (Nat × Nat)} (h:w.ownsRow base 29 2 (.slice A l.length c) l.length (l.flatMap pairV)):PairsAt w A l:=fun hl=>by
 obtain ⟨g,hA,hg,hc⟩:=own_cells h hl
 exact ⟨g,hA,hg,fun k p hk j v hv=>hc _ v (flat_at hk j v hv)⟩
set_option maxHeartbeats 1000000 in
theorem allocation_calls (w:World) (A:Option Addr) (c:Nat) (l:List (Nat × Nat)) (h:PairsAt w A l) (hl:l.length≤1000000000):
  Calls Tryz.prog 27 #[.slice A l.length c] w fun e w'=>e = .returned (.map (some w.heap.size))∧IdMap w' w.heap.size (ofPairs l)∧Fr nope w w':=by
 go_enter Tryz.func27,Tryz.ntmps27
 go_wp2_with (go_at_call 57;refine (NewEmptyAl_calls _).mono ?_;rintro e w5 ⟨rfl,rfl⟩)
 go_loopg [9] l.length (fun n c9 wr=>∃ k:Nat,k≤l.length∧c9 = .int .i64 (k:Int)∧IdMap wr w.heap.size (ofPairs (l.take k))∧Fr nope w wr∧n=l.length - k)
 case atStart=>exact ⟨0,Nat.zero_le _,rfl,⟨[],MapAt.made w idV⟩,(Fr.refl _ _).alloc _,rfl⟩
 case round=>
  obtain ⟨k,hk,rfl,hM,hf,rfl⟩:=hrel
  by_cases hlt:k < l.length
  ·obtain ⟨b,rfl,hbl,hc⟩:=h.fr hf (by omega)
   have hpk:=List.getElem?_eq_getElem hlt
   generalize l[k]=p at hpk
   have hck:wr.rangeAt b (k*2) [.int .u32 (p.1:Int),.int .u32 (p.2:Int)]:=hc k p hpk
   have hT:=ofPairs_take hpk
   replace hT:=Lib.hid hT
   replace hpk:=Lib.hid hpk
   obtain ⟨w3,hu,hM3,hf3,hs3⟩:=(hM.fr ((Fr.refl nope wr).alloc (.cells #[.int .u32 (p.1:Int),.int .u32 (p.2:Int)] 29)) (fun x=>x)).put p.1 p.2
   have hMl:=hM.lt
   replace hs3:=Lib.hid hs3
   go_wp2_with (first
    | (refine wpList_load_mid rfl _ _ rfl b (k*2) rfl [.int .u32 (p.1:Int),.int .u32 (p.2:Int)] _ hck Tryz.underlying29 rfl (by kernel_rfl) ?_))
   go_roundg (l.length - (k+1))
   case measure=>omega
   case rel=>exact ⟨k+1,by omega,by go_num,by rw [hT.out];exact hM3,(hf.alloc _).then_new hf3 (fun x hx e=>by omega),rfl⟩
  ·have hke:k=l.length:=by omega
   subst hke
   rw [List.take_length] at hM
   go_wp2
   go_ret
   exact ⟨rfl,hM,hf⟩
end
end Go.Proofs.YtpbeedabmjmdmaaGreatDoor
