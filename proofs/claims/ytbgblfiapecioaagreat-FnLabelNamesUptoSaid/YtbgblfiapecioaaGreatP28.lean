/- Part of the proof of a statement about pub-berthage: what its texts have in common. -/
import Derived.Test.YtbgblfiapecioaaGreatP10
import Derived.Test.YtbgblfiapecioaaGreatP14
import Derived.Test.YtbgblfiapecioaaGreatP26
namespace Go.Proofs.YtbgblfiapecioaaGreat
section
open Go Go.RowKit Bth
set_option maxRecDepth 100000
theorem wp_storeRow {P:Program} {o:Oper} {a:Act} {w:World} {K:Act→World→Prop} {Q:Exit→Act→World→Prop} {ty:TypeId} {x y:Operand} (ho:o.op = .store ty x y)
  {b:Nat} {cells cs:Array Value} {t:TypeId} (hx:a.eval x = .pointer (some ⟨b,0,none⟩)) (hy:a.eval y = .agg cells) (hb:w.heap[b]? = some (.cells cs t (0,0))) (hl:cs.size=cells.size)
  (hi:(P.info? ty).map (·.size)=some cells.size) (h1:cells.all (·.oneCell')=true)
  (h:∀ w',w'.heap[b]? = some (.cells cells t (0,0))→Fr (fun x=>x=b) w w'→K (a.put o.dst undef) w'):Oper.wp P o a w K Q:=by
 refine wp_store_mid ty x y ho b 0 cells hx hy (fun j hj=>⟨?_,?_⟩) hi h1 (h _ ?_ (setCells_fr _ _ _ _ (Fr.refl _ _) (.inl rfl)))
 ·rw [cell_of_row w b _ _ _ (0,0) hb]
  simp;omega
 ·simp [World.frozen?,hb]
 ·have:=setCells_heap (b:=b) (t:=t) (fr:=(0,0)) cells.toList [] cs.toList w (by simpa using hl) (by simpa using hb)
  simpa using this
theorem put_sz {a a':Act} {x:Option Nat} {v:Value} (h:a.put x v=a') {n:Nat} (hz:a.tmps.size=n):a'.tmps.size=n:=by
 subst h;cases x<;>simpa [Act.put] using hz
theorem put_df {a a':Act} {x:Option Nat} {v:Value} (h:a.put x v=a') (hz:a.defers=[]):a'.defers=[]:=by
 subst h;cases x<;>exact hz
theorem put_keep {a a':Act} {x:Option Nat} {v:Value} (h:a.put x v=a') {d t:Nat} {u:Value} (hx:x=some d) (hn:d≠t) (hu:a.eval (.tmp t)=u):a'.eval (.tmp t)=u:=by
 subst h hx
 rw [← hu]
 simp only [Act.put,Act.eval,Array.getD_eq_getD_getElem?,Array.getElem?_setIfInBounds]
 rw [if_neg hn]
theorem put_new {a a':Act} {x:Option Nat} {v:Value} (h:a.put x v=a') {d:Nat} (hx:x=some d) (hd:d < a.tmps.size):a'.eval (.tmp d)=v:=by
 subst h hx
 rw [put_eval _ _ _ _ hd,if_pos rfl]
def GivesPI (w:World) (r:Rec) (e:Ending) (w':World):Prop:=
 Fr nope w w'∧∃ A1 c1 A2 c2 A3 c3 A4 c4 A5 c5,e = .returned (.agg #[.string r.i.opc,.slice A1 r.suf.length c1,.slice A2 r.ops.length c2,.slice A3 r.inp.length c3,.slice A4 r.out.length c4,.bool r.i.term,.bool r.i.br,.bool r.i.cond,.bool r.i.canc,.slice A5 r.isa.length c5]) ∧
  w'.ownsRow w.heap.size 9 1 (.slice A1 r.suf.length c1) r.suf.length (r.suf.map Value.string)∧w'.ownsRow w.heap.size 83 24 (.slice A2 r.ops.length c2) r.ops.length (opsCells r.ops) ∧
  w'.ownsRow w.heap.size 83 24 (.slice A3 r.inp.length c3) r.inp.length (opsCells r.inp)∧w'.ownsRow w.heap.size 83 24 (.slice A4 r.out.length c4) r.out.length (opsCells r.out) ∧
  w'.ownsRow w.heap.size 9 1 (.slice A5 r.isa.length c5) r.isa.length (r.isa.map Value.string)
structure RLens (r:Rec):Prop where
 suf:r.suf.length≤1048576
 ops:r.ops.length≤1048576
 inp:r.inp.length≤1048576
 out:r.out.length≤1048576
 isa:r.isa.length≤1048576
noncomputable def regI:Array Oper:=findReg 1 (Tryz.f68.body.getD .skip)
noncomputable def oPI (i:Nat):Oper:=opAt regI i
theorem regI_get {i:Nat} (h:Nat.blt i 47=true):regI[i]? = some (oPI i):=opAt_get (by kernel_rfl) h
set_option maxHeartbeats 2000000 in
theorem regionI {a0:Act} {w:World} {Q:Exit→Act→World→Prop} {S:World→Prop} {b c n1 d1 n2 d2 n3 d3 n4 d4 n5 d5:Nat} {B1 B2 B3 B4 B5:Option Addr} {opc:ByteArray} {t1 t2 t3 t4:Bool} {R1:Value→World→Prop} {R2:Value→Value→World→Prop} {R3:Value→Value→Value→World→Prop} {R4:Value→Value→Value→Value→World→Prop} {R5 R6:Value→Value→Value→Value→Value→World→Prop}
  (h0:Bun a0 49 [(0,.pointer (some ⟨b,0,none⟩)),(2,.pointer (some ⟨c,0,none⟩))]) (hQ:∀ d v c a w,Q (.panic c) (a.put d v) w→Q (.panic c) a w)
  (hS0:S w.drew) (l0:∀ w',S w'→w'.cell? ⟨b,0,none⟩=some (.string opc)) (l1:∀ w',S w'→w'.cell? ⟨b,1,none⟩=some (.slice B1 n1 d1)) (l2:∀ w',S w'→w'.cell? ⟨b,2,none⟩=some (.slice B2 n2 d2)) (l3:∀ w',S w'→w'.cell? ⟨b,3,none⟩=some (.slice B3 n3 d3)) (l4:∀ w',S w'→w'.cell? ⟨b,4,none⟩=some (.slice B4 n4 d4)) (l5:∀ w',S w'→w'.cell? ⟨b,5,none⟩=some (.bool t1)) (l6:∀ w',S w'→w'.cell? ⟨b,6,none⟩=some (.bool t2)) (l7:∀ w',S w'→w'.cell? ⟨b,7,none⟩=some (.bool t3)) (l8:∀ w',S w'→w'.cell? ⟨b,8,none⟩=some (.bool t4)) (l9:∀ w',S w'→w'.cell? ⟨b,9,none⟩=some (.slice B5 n5 d5))
  (h1:∀ a K,a.eval (.tmp 10) = .slice B1 n1 d1→(∀ x w',R1 x w'→S w'→K (a.put (oPI 8).dst x) w')→Oper.wp Tryz.prog (oPI 8) a w.drew K Q)
  (h2:∀ x1 w1,R1 x1 w1→Calls Tryz.prog 102 #[.slice B2 n2 d2] w1 fun e w'=>∃ x,e = .returned x∧R2 x1 x w'∧S w')
  (h3:∀ x1 x2 w2,R2 x1 x2 w2→Calls Tryz.prog 102 #[.slice B3 n3 d3] w2 fun e w'=>∃ x,e = .returned x∧R3 x1 x2 x w'∧S w')
  (h4:∀ x1 x2 x3 w3,R3 x1 x2 x3 w3→Calls Tryz.prog 102 #[.slice B4 n4 d4] w3 fun e w'=>∃ x,e = .returned x∧R4 x1 x2 x3 x w'∧S w')
  (h5:∀ x1 x2 x3 x4 w4 a K,R4 x1 x2 x3 x4 w4→a.eval (.tmp 46) = .slice B5 n5 d5→(∀ x w',R5 x1 x2 x3 x4 x w'→S w'→K (a.put (oPI 44).dst x) w')→Oper.wp Tryz.prog (oPI 44) a w4 K Q)
  (h6:∀ x1 x2 x3 x4 x5 w5 a K,R5 x1 x2 x3 x4 x5 w5→a.eval (.tmp 2) = .pointer (some ⟨c,0,none⟩)→a.eval (.tmp 48) = .agg #[.string opc,x1,x2,x3,x4,.bool t1,.bool t2,.bool t3,.bool t4,x5]→(∀ w',R6 x1 x2 x3 x4 x5 w'→S w'→K (a.put (oPI 46).dst undef) w')→Oper.wp Tryz.prog (oPI 46) a w5 K Q)
  (hsl:∀ x1 x2 x3 x4 x5 w,R5 x1 x2 x3 x4 x5 w→(∃ A n c,x1 = .slice A n c)∧(∃ A n c,x2 = .slice A n c)∧(∃ A n c,x3 = .slice A n c)∧(∃ A n c,x4 = .slice A n c)∧∃ A n c,x5 = .slice A n c)
  (h:∀ x1 x2 x3 x4 x5 w6 a,R6 x1 x2 x3 x4 x5 w6→a.eval (.tmp 2) = .pointer (some ⟨c,0,none⟩)→a.tmps.size=49→a.defers=[]→Q .normal a w6):(Code.region 1 regI true).wp Tryz.prog Q a0 w:=by
 refine wp_region_held_drew (S:=S) (by kernel_rfl) hS0 (fun hS0=>?_)
 rw [show regI.size=47 from by kernel_rfl]
 refine takeQ h0 hS0 hQ 0 3 0 130 9 0 _ _ (.string opc) (by unfold isB;refine ⟨?_,?_,?_,?_⟩<;>kernel_rfl) (by kernel_rfl) rfl (insFld b 0 (by decide)) (fun w hw=>by have hc:=l0 _ hw;go_simp) rfl fun a0 _ h0=>?_
 refine takeQ h0 hS0 hQ 4 7 0 130 40 1 _ _ (.slice B1 n1 d1) (by unfold isB;refine ⟨?_,?_,?_,?_⟩<;>kernel_rfl) (by kernel_rfl) rfl (insFld b 1 (by decide)) (fun w hw=>by have hc:=l1 _ hw;go_simp) rfl fun a0 _ h0=>?_
 refine takeQ h0 hS0 hQ 9 12 0 130 126 2 _ _ (.slice B2 n2 d2) (by unfold isB;refine ⟨?_,?_,?_,?_⟩<;>kernel_rfl) (by kernel_rfl) rfl (insFld b 2 (by decide)) (fun w hw=>by have hc:=l2 _ hw;go_simp) rfl fun a0 _ h0=>?_
 refine takeQ h0 hS0 hQ 14 17 0 130 126 3 _ _ (.slice B3 n3 d3) (by unfold isB;refine ⟨?_,?_,?_,?_⟩<;>kernel_rfl) (by kernel_rfl) rfl (insFld b 3 (by decide)) (fun w hw=>by have hc:=l3 _ hw;go_simp) rfl fun a0 _ h0=>?_
 refine takeQ h0 hS0 hQ 19 22 0 130 126 4 _ _ (.slice B4 n4 d4) (by unfold isB;refine ⟨?_,?_,?_,?_⟩<;>kernel_rfl) (by kernel_rfl) rfl (insFld b 4 (by decide)) (fun w hw=>by have hc:=l4 _ hw;go_simp) rfl fun a0 _ h0=>?_
 refine takeQ h0 hS0 hQ 24 27 0 130 4 5 _ _ (.bool t1) (by unfold isB;refine ⟨?_,?_,?_,?_⟩<;>kernel_rfl) (by kernel_rfl) rfl (insFld b 5 (by decide)) (fun w hw=>by have hc:=l5 _ hw;go_simp) rfl fun a0 _ h0=>?_
 refine takeQ h0 hS0 hQ 28 31 0 130 4 6 _ _ (.bool t2) (by unfold isB;refine ⟨?_,?_,?_,?_⟩<;>kernel_rfl) (by kernel_rfl) rfl (insFld b 6 (by decide)) (fun w hw=>by have hc:=l6 _ hw;go_simp) rfl fun a0 _ h0=>?_
 refine takeQ h0 hS0 hQ 32 35 0 130 4 7 _ _ (.bool t3) (by unfold isB;refine ⟨?_,?_,?_,?_⟩<;>kernel_rfl) (by kernel_rfl) rfl (insFld b 7 (by decide)) (fun w hw=>by have hc:=l7 _ hw;go_simp) rfl fun a0 _ h0=>?_
 refine takeQ h0 hS0 hQ 36 39 0 130 4 8 _ _ (.bool t4) (by unfold isB;refine ⟨?_,?_,?_,?_⟩<;>kernel_rfl) (by kernel_rfl) rfl (insFld b 8 (by decide)) (fun w hw=>by have hc:=l8 _ hw;go_simp) rfl fun a0 _ h0=>?_
 refine takeQ h0 hS0 hQ 40 43 0 130 40 9 _ _ (.slice B5 n5 d5) (by unfold isB;refine ⟨?_,?_,?_,?_⟩<;>kernel_rfl) (by kernel_rfl) rfl (insFld b 9 (by decide)) (fun w hw=>by have hc:=l9 _ hw;go_simp) rfl fun a0 _ h0=>?_
 refine wpAnyH_ready (rs:=[8]) (by kernel_rfl) (by simp) (AllReadyH.cons (o:=oPI 8) (regI_get rfl) (fun K hK=>?_) AllReadyH.nil)
 rw [if_pos (show Region.wanted (oPI 8) _=true from rfl)]
 refine h1 _ _ (h0.at_ 10 _ rfl) ?_
 intro x1 w1 r1 s1
 refine hK.out _ _ s1 (fun hS0=>?_)
 replace h0:=h0.put (x:=(oPI 8).dst) (by kernel_rfl) (d:=11) (by decide) x1
 refine wpAnyH_ready (rs:=[13]) (by kernel_rfl) (by simp) (AllReadyH.cons (o:=oPI 13) (regI_get rfl) (fun K hK=>?_) AllReadyH.nil)
 rw [if_pos (show Region.wanted (oPI 13) _=true from rfl)]
 refine wp_callU (show (oPI 13).op = .call { callee:=.value (.func 102),args:=#[.tmp 15],argTypes:=#[126] } from by kernel_rfl) Tryz.func102 (by kernel_rfl) (by kernel_rfl) ?_
 simp only [List.map_toArray,List.map_cons,List.map_nil,h0.at_ 15 _ rfl]
 refine (h2 x1 w1 r1).mono ?_
 rintro e w2 ⟨x2,rfl,r2,s2⟩
 refine hK.out _ _ s2 (fun hS0=>?_)
 replace h0:=h0.put (x:=(oPI 13).dst) (by kernel_rfl) (d:=16) (by decide) x2
 refine wpAnyH_ready (rs:=[18]) (by kernel_rfl) (by simp) (AllReadyH.cons (o:=oPI 18) (regI_get rfl) (fun K hK=>?_) AllReadyH.nil)
 rw [if_pos (show Region.wanted (oPI 18) _=true from rfl)]
 refine wp_callU (show (oPI 18).op = .call { callee:=.value (.func 102),args:=#[.tmp 20],argTypes:=#[126] } from by kernel_rfl) Tryz.func102 (by kernel_rfl) (by kernel_rfl) ?_
 simp only [List.map_toArray,List.map_cons,List.map_nil,h0.at_ 20 _ rfl]
 refine (h3 x1 x2 w2 r2).mono ?_
 rintro e w3 ⟨x3,rfl,r3,s3⟩
 refine hK.out _ _ s3 (fun hS0=>?_)
 replace h0:=h0.put (x:=(oPI 18).dst) (by kernel_rfl) (d:=21) (by decide) x3
 refine wpAnyH_ready (rs:=[23]) (by kernel_rfl) (by simp) (AllReadyH.cons (o:=oPI 23) (regI_get rfl) (fun K hK=>?_) AllReadyH.nil)
 rw [if_pos (show Region.wanted (oPI 23) _=true from rfl)]
 refine wp_callU (show (oPI 23).op = .call { callee:=.value (.func 102),args:=#[.tmp 25],argTypes:=#[126] } from by kernel_rfl) Tryz.func102 (by kernel_rfl) (by kernel_rfl) ?_
 simp only [List.map_toArray,List.map_cons,List.map_nil,h0.at_ 25 _ rfl]
 refine (h4 x1 x2 x3 w3 r3).mono ?_
 rintro e w4 ⟨x4,rfl,r4,s4⟩
 refine hK.out _ _ s4 (fun hS0=>?_)
 replace h0:=h0.put (x:=(oPI 23).dst) (by kernel_rfl) (d:=26) (by decide) x4
 refine wpAnyH_ready (rs:=[44]) (by kernel_rfl) (by simp) (AllReadyH.cons (o:=oPI 44) (regI_get rfl) (fun K hK=>?_) AllReadyH.nil)
 rw [if_pos (show Region.wanted (oPI 44) _=true from rfl)]
 refine h5 x1 x2 x3 x4 _ _ _ r4 (h0.at_ 46 _ rfl) ?_
 intro x5 w5 r5 s5
 refine hK.out _ _ s5 (fun hS0=>?_)
 replace h0:=h0.put (x:=(oPI 44).dst) (by kernel_rfl) (d:=47) (by decide) x5
 obtain ⟨⟨A1,m1,c1,rfl⟩,⟨A2,m2,c2,rfl⟩,⟨A3,m3,c3,rfl⟩,⟨A4,m4,c4,rfl⟩,⟨A5,m5,c5,rfl⟩⟩:=hsl _ _ _ _ _ _ r5
 refine takeB h0 hS0 hQ 45 48 _ (.agg #[.string opc,.slice A1 m1 c1,.slice A2 m2 c2,.slice A3 m3 c3,.slice A4 m4 c4,.bool t1,.bool t2,.bool t3,.bool t4,.slice A5 m5 c5]) (show isB regI 45 48 (.build 46 #[(0,Operand.tmp 6),(1,Operand.tmp 11),(2,Operand.tmp 16),(3,Operand.tmp 21),(4,Operand.tmp 26),(5,Operand.tmp 30),(6,Operand.tmp 34),(7,Operand.tmp 38),(8,Operand.tmp 42),(9,Operand.tmp 47)]) from by unfold isB;kernel_rfl) (by kernel_rfl) (fun o e w hw=>by
  simp only [execOp,e,List.map_toArray,List.map_cons,List.map_nil,h0.at_ 6 _ rfl,h0.at_ 11 _ rfl,h0.at_ 16 _ rfl,h0.at_ 21 _ rfl,h0.at_ 26 _ rfl,h0.at_ 30 _ rfl,h0.at_ 34 _ rfl,h0.at_ 38 _ rfl,h0.at_ 42 _ rfl,h0.at_ 47 _ rfl]
  go_simp) fun a0 _ h0=>?_
 refine wpAnyH_ready (rs:=[46]) (by kernel_rfl) (by simp) (AllReadyH.cons (o:=oPI 46) (regI_get rfl) (fun K hK=>?_) AllReadyH.nil)
 rw [if_pos (show Region.wanted (oPI 46) _=true from rfl)]
 refine h6 _ _ _ _ _ _ _ _ r5 (h0.at_ 2 _ rfl) (h0.at_ 48 _ rfl) ?_
 intro w6 r6 s6
 refine hK.out _ _ s6 (fun hS0=>?_)
 replace h0:=h0.skip (x:=(oPI 46).dst) (by kernel_rfl) undef
 exact wpAnyH_done (by kernel_rfl) (h _ _ _ _ _ _ _ r6 (h0.at_ 2 _ rfl) h0.sz h0.df) _
def OwS (lo:Nat) (l:List ByteArray) (x:Value) (w':World):Prop:=w'.ownsRow lo 9 1 x l.length (l.map Value.string)
def OwO (lo:Nat) (l:List O) (x:Value) (w':World):Prop:=w'.ownsRow lo 83 24 x l.length (opsCells l)
set_option maxHeartbeats 2000000 in
theorem plainInstr_calls (w:World) (r:Rec) (h:r.At w) (hn:RLens r):Calls Tryz.prog 68 #[ptr r.b] w (GivesPI w r):=by
 have hbl:=lt_of_heap h.own.at_
 obtain ⟨B1,d1,hB1,_,_⟩:=own_slice h.suf.2
 obtain ⟨B2,d2,hB2,_,_⟩:=own_slice h.own.ops
 obtain ⟨B3,d3,hB3,_,_⟩:=own_slice h.own.inp
 obtain ⟨B4,d4,hB4,_,_⟩:=own_slice h.own.out
 obtain ⟨B5,d5,hB5,_,_⟩:=own_slice h.isa.2
 have o1:=h.suf.2
 have o2:=h.own.ops
 have o3:=h.own.inp
 have o4:=h.own.out
 have o5:=h.isa.2
 rw [hB1] at o1
 rw [hB2] at o2
 rw [hB3] at o3
 rw [hB4] at o4
 rw [hB5] at o5
 unfold ptr
 go_enter Tryz.func68,Tryz.ntmps68
 go_wp2_with fail
 rename_i K hK
 obtain ⟨w0,hw0⟩:∃ w0:World,w0=w.alloc (.cells #[.string ⟨#[]⟩,.slice none 0 0,.slice none 0 0,.slice none 0 0,.slice none 0 0,.bool false,.bool false,.bool false,.bool false,.slice none 0 0] 46):=⟨_,rfl⟩
 rw [← hw0]
 have hf0:Fr nope w w0:=by rw [hw0];exact (Fr.refl _ _).alloc _
 have hc0:w0.heap[w.heap.size]? = some (.cells #[.string ⟨#[]⟩,.slice none 0 0,.slice none 0 0,.slice none 0 0,.slice none 0 0,.bool false,.bool false,.bool false,.bool false,.slice none 0 0] 46 (0,0)):=by rw [hw0];exact heap_alloc_new w _
 have hl0:w0.heap.size=w.heap.size+1:=by rw [hw0];simp
 clear hw0
 have hcell:∀ w',Fr (fun x=>x=w.heap.size) w0 w'→∀ j,w'.cell? ⟨r.b,j,none⟩=r.i.cells[j]?:=fun w' hf j=>cell_of_row _ _ j _ _ (0,0) (hf.heap (hf0.heap h.own.at_ (fun x=>x)) (by omega))
 have hlo:∀ {w':World},Fr nope w0 w'→w.heap.size+1≤w'.heap.size:=fun hf=>by have:=hf.size;omega
 have hcomp:∀ {W W':World},Fr nope w0 W→Fr (fun b=>(Value.slice none 0 0).ownBlock=some b) W W'→Fr nope w0 W':=fun h k=>h.then (k.mono (fun x _ h=>by simp [Value.ownBlock] at h))
 have hcomp':∀ {W W':World},Fr (fun b=>(Value.slice none 0 0).ownBlock=some b) W W'→Fr nope W W':=fun k=>k.mono (fun x _ h=>by simp [Value.ownBlock] at h)
 refine regionI (S:=fun w'=>Fr (fun x=>x=w.heap.size) w0 w') (b:=r.b) (c:=w.heap.size) (opc:=r.i.opc) (B1:=B1) (n1:=r.suf.length) (d1:=d1) (B2:=B2) (n2:=r.ops.length) (d2:=d2) (B3:=B3) (n3:=r.inp.length) (d3:=d3) (B4:=B4) (n4:=r.out.length) (d4:=d4) (B5:=B5) (n5:=r.isa.length) (d5:=d5) (t1:=r.i.term) (t2:=r.i.br) (t3:=r.i.cond) (t4:=r.i.canc)
  (R1:=fun x1 w'=>Fr nope w0 w'∧OwS (w.heap.size+1) r.suf x1 w')
  (R2:=fun x1 x2 w'=>Fr nope w0 w'∧OwS (w.heap.size+1) r.suf x1 w'∧OwO (w.heap.size+1) r.ops x2 w')
  (R3:=fun x1 x2 x3 w'=>Fr nope w0 w'∧OwS (w.heap.size+1) r.suf x1 w'∧OwO (w.heap.size+1) r.ops x2 w'∧OwO (w.heap.size+1) r.inp x3 w')
  (R4:=fun x1 x2 x3 x4 w'=>Fr nope w0 w'∧OwS (w.heap.size+1) r.suf x1 w'∧OwO (w.heap.size+1) r.ops x2 w'∧OwO (w.heap.size+1) r.inp x3 w'∧OwO (w.heap.size+1) r.out x4 w')
  (R5:=fun x1 x2 x3 x4 x5 w'=>Fr nope w0 w'∧OwS (w.heap.size+1) r.suf x1 w'∧OwO (w.heap.size+1) r.ops x2 w'∧OwO (w.heap.size+1) r.inp x3 w'∧OwO (w.heap.size+1) r.out x4 w'∧OwS (w.heap.size+1) r.isa x5 w')
  (R6:=fun x1 x2 x3 x4 x5 w'=>Fr (fun x=>x=w.heap.size) w0 w'∧w'.heap[w.heap.size]? = some (.cells #[.string r.i.opc,x1,x2,x3,x4,.bool r.i.term,.bool r.i.br,.bool r.i.cond,.bool r.i.canc,x5] 46 (0,0)) ∧
   OwS (w.heap.size+1) r.suf x1 w'∧OwO (w.heap.size+1) r.ops x2 w'∧OwO (w.heap.size+1) r.inp x3 w'∧OwO (w.heap.size+1) r.out x4 w'∧OwS (w.heap.size+1) r.isa x5 w')
  (((Bun.nil rfl rfl).cons 2 rfl).cons 0 rfl) (fun d _ _ _ _ h=>by cases d<;>simpa [Exit.inBlock,Exit.then,bodyPost,Act.put] using h) (Fr.refl _ _).drew
  (fun w' hw=>hcell w' hw 0) (fun w' hw=>(hcell w' hw 1).trans (congrArg some hB1)) (fun w' hw=>(hcell w' hw 2).trans (congrArg some hB2)) (fun w' hw=>(hcell w' hw 3).trans (congrArg some hB3)) (fun w' hw=>(hcell w' hw 4).trans (congrArg some hB4))
  (fun w' hw=>hcell w' hw 5) (fun w' hw=>hcell w' hw 6) (fun w' hw=>hcell w' hw 7) (fun w' hw=>hcell w' hw 8) (fun w' hw=>(hcell w' hw 9).trans (congrArg some hB5)) ?_ ?_ ?_ ?_ ?_ ?_ ?_ ?_
 ·intro a K f hK
  have hd:Fr nope w0 w0.drew:=(Fr.refl nope w0).drew
  refine wp_app (o:=oPI 8) rfl Tryz.underlying40 infoStr rfl (by omega) (v:=.slice none 0 0) rfl (own_nil _ (w.heap.size+1) _ _) f (news:=r.suf.map Value.string) (by simp) (Sl.src ((own_Sl o1).nope (hf0.then hd))) (by simp [Value.oneCell']) (by have:=hn.suf;unfold maxLen;omega) (by have:=hn.suf;omega) (hlo hd) ?_
  intro v w1 hown hf _
  have hf1:=hcomp hd hf
  rw [Nat.zero_add] at hown
  exact hK v w1 ⟨hf1,hown⟩ hf1.of_nope
 ·intro x1 w1 hR
  refine (plainOps_calls w1 r.ops B2 d2 ((own_Sl o2).nope (hf0.then hR.1)) (fun o ho=>(h.ats.1 o ho).nope (hf0.then hR.1)) hn.ops).mono ?_
  rintro e w2 ⟨hf,A,c,rfl,hown⟩
  have hf2:=hR.1.then hf
  exact ⟨_,rfl,⟨hf2,own_fr hR.2 hf (fun _ _ x=>x),own_le hown (hlo hR.1)⟩,hf2.of_nope⟩
 ·intro x1 x2 w1 hR
  refine (plainOps_calls w1 r.inp B3 d3 ((own_Sl o3).nope (hf0.then hR.1)) (fun o ho=>(h.ats.2.1 o ho).nope (hf0.then hR.1)) hn.inp).mono ?_
  rintro e w2 ⟨hf,A,c,rfl,hown⟩
  have hf2:=hR.1.then hf
  exact ⟨_,rfl,⟨hf2,own_fr hR.2.1 hf (fun _ _ x=>x),own_fr hR.2.2 hf (fun _ _ x=>x),own_le hown (hlo hR.1)⟩,hf2.of_nope⟩
 ·intro x1 x2 x3 w1 hR
  refine (plainOps_calls w1 r.out B4 d4 ((own_Sl o4).nope (hf0.then hR.1)) (fun o ho=>(h.ats.2.2 o ho).nope (hf0.then hR.1)) hn.out).mono ?_
  rintro e w2 ⟨hf,A,c,rfl,hown⟩
  have hf2:=hR.1.then hf
  exact ⟨_,rfl,⟨hf2,own_fr hR.2.1 hf (fun _ _ x=>x),own_fr hR.2.2.1 hf (fun _ _ x=>x),own_fr hR.2.2.2 hf (fun _ _ x=>x),own_le hown (hlo hR.1)⟩,hf2.of_nope⟩
 ·intro x1 x2 x3 x4 w1 a K hR f hK
  refine wp_app (o:=oPI 44) rfl Tryz.underlying40 infoStr rfl (by omega) (v:=.slice none 0 0) rfl (own_nil _ (w.heap.size+1) _ _) f (news:=r.isa.map Value.string) (by simp) (Sl.src ((own_Sl o5).nope (hf0.then hR.1))) (by simp [Value.oneCell']) (by have:=hn.isa;unfold maxLen;omega) (by have:=hn.isa;omega) (hlo hR.1) ?_
  intro v w2 hown hf _
  have hf1:=hcomp hR.1 hf
  have hf':=hcomp' hf
  rw [Nat.zero_add] at hown
  exact hK v w2 ⟨hf1,own_fr hR.2.1 hf' (fun _ _ x=>x),own_fr hR.2.2.1 hf' (fun _ _ x=>x),own_fr hR.2.2.2.1 hf' (fun _ _ x=>x),own_fr hR.2.2.2.2 hf' (fun _ _ x=>x),hown⟩ hf1.of_nope
 ·intro x1 x2 x3 x4 x5 w5 a K hR f2 f48 hK
  obtain ⟨A1,c1,rfl,_,_⟩:=own_slice hR.2.1
  obtain ⟨A2,c2,rfl,_,_⟩:=own_slice hR.2.2.1
  obtain ⟨A3,c3,rfl,_,_⟩:=own_slice hR.2.2.2.1
  obtain ⟨A4,c4,rfl,_,_⟩:=own_slice hR.2.2.2.2.1
  obtain ⟨A5,c5,rfl,_,_⟩:=own_slice hR.2.2.2.2.2
  refine wp_storeRow (o:=oPI 46) rfl f2 f48 (hR.1.heap hc0 (fun x=>x)) rfl (by kernel_rfl) (by simp [Value.oneCell']) ?_
  intro w6 hb hf
  have hs:∀ {e:TypeId} {size n:Nat} {v:Value} {xs:List Value},w5.ownsRow (w.heap.size+1) e size v n xs→w6.ownsRow (w.heap.size+1) e size v n xs:=fun ho=>own_fr ho hf (fun b hb e=>by have:=own_base ho b hb;omega)
  have hf6:=hR.1.of_nope.then hf
  exact hK w6 ⟨hf6,hb,hs hR.2.1,hs hR.2.2.1,hs hR.2.2.2.1,hs hR.2.2.2.2.1,hs hR.2.2.2.2.2⟩ hf6
 ·intro x1 x2 x3 x4 x5 w5 hR
  obtain ⟨A1,c1,rfl,_,_⟩:=own_slice hR.2.1
  obtain ⟨A2,c2,rfl,_,_⟩:=own_slice hR.2.2.1
  obtain ⟨A3,c3,rfl,_,_⟩:=own_slice hR.2.2.2.1
  obtain ⟨A4,c4,rfl,_,_⟩:=own_slice hR.2.2.2.2.1
  obtain ⟨A5,c5,rfl,_,_⟩:=own_slice hR.2.2.2.2.2
  exact ⟨⟨_,_,_,rfl⟩,⟨_,_,_,rfl⟩,⟨_,_,_,rfl⟩,⟨_,_,_,rfl⟩,⟨_,_,_,rfl⟩⟩
 ·intro x1 x2 x3 x4 x5 w6 a hR f2 z q
  obtain ⟨hf6,hb,g1,g2,g3,g4,g5⟩:=hR
  obtain ⟨A1,c1,rfl,_,_⟩:=own_slice g1
  obtain ⟨A2,c2,rfl,_,_⟩:=own_slice g2
  obtain ⟨A3,c3,rfl,_,_⟩:=own_slice g3
  obtain ⟨A4,c4,rfl,_,_⟩:=own_slice g4
  obtain ⟨A5,c5,rfl,_,_⟩:=own_slice g5
  refine hK _ _ (wp_ret ?_)
  refine bodyPost_ret (results_cell_row (fn:=Tryz.f68) rfl _ _ w.heap.size _ _ _ _ f2 hb Tryz.underlying46 rfl (by kernel_rfl)) q ?_
  exact ⟨hf0.then_new hf6 (fun x hx e=>by omega),A1,c1,A2,c2,A3,c3,A4,c4,A5,c5,rfl,own_le g1 (Nat.le_succ _),own_le g2 (Nat.le_succ _),own_le g3 (Nat.le_succ _),own_le g4 (Nat.le_succ _),own_le g5 (Nat.le_succ _)⟩
end
end Go.Proofs.YtbgblfiapecioaaGreat
