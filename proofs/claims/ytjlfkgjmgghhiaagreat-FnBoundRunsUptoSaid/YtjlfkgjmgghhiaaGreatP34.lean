/- Part of the proof of a statement about pub-berthage: what its texts have in common. -/
import Derived.Deep.MidRow
import Derived.Great.BuildSlice
import Derived.Test.YtjlfkgjmgghhiaaGreatP11
import Derived.Test.YtjlfkgjmgghhiaaGreatP33
namespace Go.Proofs.YtjlfkgjmgghhiaaGreat
section
open Go Go.RowKit Bth
set_option maxRecDepth 100000
def g0:G:=⟨false,0,0,0⟩
def opCells (kind:Int) (r:G) (hb hi:Bool) (base index:G) (scale:Nat) (disp:Int) (sym:ByteArray) (static:Bool) (ck cb:Int) (ct:ByteArray) (label:ByteArray) (rel:Int):Array Value:=
 #[.int .i64 kind,.bool r.virt,.int .u8 (r.kind:Int),.int .u16 (r.idx:Int),.int .u16 (r.spec:Int),.bool hb,.bool hi,
  .bool base.virt,.int .u8 (base.kind:Int),.int .u16 (base.idx:Int),.int .u16 (base.spec:Int),.bool index.virt,.int .u8 (index.kind:Int),.int .u16 (index.idx:Int),.int .u16 (index.spec:Int),
  .int .u8 (scale:Int),.int .i64 disp,.string sym,.bool static,.int .i64 ck,.int .u64 cb,.string ct,.string label,.int .i32 rel]
def e0:ByteArray:=⟨#[]⟩
def M.pcells (m:M):Array Value:=opCells 2 g0 m.base.isSome m.index.isSome ((m.base.map R.plain).getD g0) ((m.index.map R.plain).getD g0) m.scale m.disp m.sym m.static 0 0 e0 e0 0
theorem opCells_size (kind:Int) (r:G) (hb hi:Bool) (base index:G) (scale:Nat) (disp:Int) (sym:ByteArray) (static:Bool) (ck cb:Int) (ct:ByteArray) (label:ByteArray) (rel:Int):(opCells kind r hb hi base index scale disp sym static ck cb ct label rel).size=24:=rfl
theorem opCells_one (kind:Int) (r:G) (hb hi:Bool) (base index:G) (scale:Nat) (disp:Int) (sym:ByteArray) (static:Bool) (ck cb:Int) (ct:ByteArray) (label:ByteArray) (rel:Int):(opCells kind r hb hi base index scale disp sym static ck cb ct label rel).all (·.oneCell')=true:=by simp [opCells,Value.oneCell']
theorem wpList_store4 {P:Program} {ops:Array Oper} {rest:List Oper} {op:Oper} {a:Act} {w:World} {Q:Exit→Act→World→Prop} (hgd:op.guard=none) {ty:TypeId} {x y:Operand} (ho:op.op = .store ty x y)
  {b o:Nat} {x1 x2 x3 x4:Value} {cs cs':Array Value} {t:TypeId} (hx:a.eval x = .pointer (some ⟨b,o,none⟩)) (hy:a.eval y = .agg #[x1,x2,x3,x4]) (hb:w.heap[b]? = some (.cells cs t (0,0))) (hl:o+4≤cs.size)
  (hi:(P.info? ty).map (·.size)=some 4) (h1:(#[x1,x2,x3,x4]:Array Value).all (·.oneCell')=true) (hc:(((cs.setIfInBounds o x1).setIfInBounds (o+1) x2).setIfInBounds (o+1+1) x3).setIfInBounds (o+1+1+1) x4=cs')
  (h:∀ w',w'.heap[b]? = some (.cells cs' t (0,0))→Fr (fun x=>x=b) w w'→wpList P ops Q rest (a.put op.dst undef) w'):wpList P ops Q (op :: rest) a w:=by
 refine wpList_store_mid hgd ty x y ho b o #[x1,x2,x3,x4] hx hy (fun j hj=>⟨?_,frozen_row hb _⟩) hi h1 (h _ ?_ (setCells_fr _ _ _ _ (Fr.refl _ _) (.inl rfl)))
 ·rw [cell_of_row w b _ _ _ (0,0) hb]
  have hj':j < 4:=hj
  rw [Array.getElem?_eq_getElem (by omega)];rfl
 ·rw [← hc]
  exact setCell_heap (setCell_heap (setCell_heap (setCell_heap hb x1) x2) x3) x4
set_option maxHeartbeats 4000000 in
theorem plainMem_00 (w:World) (m:M) (hb:m.base=none) (hi:m.index=none):Calls Tryz.prog 205 #[m.agg] w fun e w'=>e = .returned (.agg m.pcells)∧Fr nope w w':=by
 obtain ⟨sym,st,d,x,y,sc⟩:=m
 simp only at hb hi
 subst hb hi
 have hp:M.pcells ⟨sym,st,d,none,none,sc⟩=opCells 2 g0 false false g0 g0 sc d sym st 0 0 e0 e0 0:=rfl
 rw [hp]
 simp only [M.agg,optV]
 clear hp
 have hA:∀ x y z,_:=fun x y z=>alloc3 (w:=w) (x:=x) (y:=y) (z:=z) (Fr.refl nope _) (fun _ _ x=>x)
 go_enter Tryz.func205,Tryz.ntmps205
 go_upto_region 2 with (first
  | (refine wpList_storeRow (b:=w.heap.size+1+1) rfl rfl rfl rfl (hA _ _ _).2.2 rfl (by kernel_rfl) (by simp [Value.oneCell']) ?_;intro w3 hb3 hf3))
 have k0:=hf3.heap (hA _ _ _).1 (by omega)
 have k1:=hf3.heap (hA _ _ _).2.1 (by omega)
 have k2:w3.heap[w.heap.size+1+1]? = some (.cells (opCells 2 g0 false false g0 g0 sc d sym st 0 0 e0 e0 0) 121 (0,0)):=hb3
 have hF0:Fr nope w w3:=((((Fr.refl nope w).alloc _).alloc _).alloc _).then_new hf3 (fun x hx e=>by omega)
 clear hb3 hf3 hA
 have l0:=lt_of_heap k0
 have l1:=lt_of_heap k1
 have l2:=lt_of_heap k2
 have c0:=fun j=>cell_of_row _ _ j _ _ (0,0) k0
 go_wp2_with (first
  | (refine wpList_loadRow (b:=w.heap.size+1+1) rfl rfl rfl k2 Tryz.underlying121 rfl (by kernel_rfl) ?_)
  | (refine wpList_storeRow (b:=w.heap.size+1) rfl rfl rfl rfl k1 rfl (by kernel_rfl) (opCells_one _ _ _ _ _ _ _ _ _ _ _ _ _ _ _) ?_;intro w9 hb9 hf9))
 refine bodyPost_ret (results_cell_row rfl _ _ (w.heap.size+1) _ _ _ _ rfl hb9 Tryz.underlying121 rfl (by kernel_rfl)) rfl ⟨rfl,hF0.then_new hf9 (fun x hx e=>by omega)⟩
set_option maxHeartbeats 4000000 in
theorem plainMem_01 (w:World) (m:M) (q:R) (hb:m.base=none) (hi:m.index=some q) (hq:q.At w):Calls Tryz.prog 205 #[m.agg] w fun e w'=>e = .returned (.agg m.pcells)∧Fr nope w w':=by
 have hI:=fun W (hW:Fr nope w W)=>plainReg_calls W q (hq.nope hW)
 obtain ⟨T',v',hv'⟩:=q.val_iface
 rw [hv'] at hI
 obtain ⟨sym,st,d,x,y,sc⟩:=m
 simp only at hb hi
 subst hb hi
 have hp:M.pcells ⟨sym,st,d,none,some q,sc⟩=opCells 2 g0 false true g0 q.plain sc d sym st 0 0 e0 e0 0:=rfl
 rw [hp]
 simp only [M.agg,optV,hv']
 clear hp
 have hA:∀ x y z,_:=fun x y z=>alloc3 (w:=w) (x:=x) (y:=y) (z:=z) (Fr.refl nope _) (fun _ _ x=>x)
 go_enter Tryz.func205,Tryz.ntmps205
 go_upto_region 2 with (first
  | (refine wpList_storeRow (b:=w.heap.size+1+1) rfl rfl rfl rfl (hA _ _ _).2.2 rfl (by kernel_rfl) (by simp [Value.oneCell']) ?_;intro w3 hb3 hf3))
 have k0:=hf3.heap (hA _ _ _).1 (by omega)
 have k1:=hf3.heap (hA _ _ _).2.1 (by omega)
 have k2:w3.heap[w.heap.size+1+1]? = some (.cells (opCells 2 g0 false false g0 g0 sc d sym st 0 0 e0 e0 0) 121 (0,0)):=hb3
 have hF0:Fr nope w w3:=((((Fr.refl nope w).alloc _).alloc _).alloc _).then_new hf3 (fun x hx e=>by omega)
 clear hb3 hf3 hA
 have l0:=lt_of_heap k0
 have l1:=lt_of_heap k1
 have l2:=lt_of_heap k2
 have c0:=fun j=>cell_of_row _ _ j _ _ (0,0) k0
 go_wp2_with fail
 refine (hI _ hF0).mono ?_
 rintro e w4 ⟨rfl,hf4⟩
 replace k0:=hf4.heap k0 (fun x=>x)
 replace k1:=hf4.heap k1 (fun x=>x)
 replace k2:=hf4.heap k2 (fun x=>x)
 replace hF0:=hF0.then hf4
 clear c0 hf4
 replace l0:=lt_of_heap k0
 replace l1:=lt_of_heap k1
 replace l2:=lt_of_heap k2
 have c0:=fun j=>cell_of_row _ _ j _ _ (0,0) k0
 have c2:=fun j=>cell_of_row _ _ j _ _ (0,0) k2
 have z2:=frozen_row k2
 have s3:Fr (fun x=>x=w.heap.size+1+1) w4 (w4.setCell ⟨w.heap.size+1+1,6,none⟩ (.bool true)):=(Fr.refl (fun x=>x=w.heap.size+1+1) w4).setCell (.inl rfl) _
 have k3:=setCell_heap (k:=6) k2 (.bool true)
 have k0':=s3.heap k0 (by omega)
 have k1':=s3.heap k1 (by omega)
 unfold G.agg
 go_upto_region 6 with (first
  | (refine wpList_store4 (b:=w.heap.size+1+1) (o:=11) (cs':=opCells 2 g0 false true g0 q.plain sc d sym st 0 0 e0 e0 0) rfl rfl rfl rfl k3 (by simp [opCells]) (by kernel_rfl) (by simp [Value.oneCell']) rfl ?_;intro w5 hb5 hf5))
 have hF1:=(hF0.then_new s3 (fun x hx e=>by omega)).then_new hf5 (fun x hx e=>by omega)
 replace k0:=hf5.heap k0' (by omega)
 replace k1:=hf5.heap k1' (by omega)
 replace k2:=hb5
 clear c0 c2 z2 k3 k0' k1' s3 l0 l1 l2 hf5 hb5
 have l0:=lt_of_heap k0
 have l1:=lt_of_heap k1
 have l2:=lt_of_heap k2
 have c0:=fun j=>cell_of_row _ _ j _ _ (0,0) k0
 go_wp2_with (first
  | (refine wpList_loadRow (b:=w.heap.size+1+1) rfl rfl rfl k2 Tryz.underlying121 rfl (by kernel_rfl) ?_)
  | (refine wpList_storeRow (b:=w.heap.size+1) rfl rfl rfl rfl k1 rfl (by kernel_rfl) (opCells_one _ _ _ _ _ _ _ _ _ _ _ _ _ _ _) ?_;intro w9 hb9 hf9))
 refine bodyPost_ret (results_cell_row rfl _ _ (w.heap.size+1) _ _ _ _ rfl hb9 Tryz.underlying121 rfl (by kernel_rfl)) rfl ⟨rfl,hF1.then_new hf9 (fun x hx e=>by omega)⟩
set_option maxHeartbeats 4000000 in
theorem plainMem_10 (w:World) (m:M) (r:R) (hb:m.base=some r) (hr:r.At w) (hi:m.index=none):Calls Tryz.prog 205 #[m.agg] w fun e w'=>e = .returned (.agg m.pcells)∧Fr nope w w':=by
 have hR:=fun W (hW:Fr nope w W)=>plainReg_calls W r (hr.nope hW)
 obtain ⟨T,v,hv⟩:=r.val_iface
 rw [hv] at hR
 obtain ⟨sym,st,d,x,y,sc⟩:=m
 simp only at hb hi
 subst hb hi
 have hp:M.pcells ⟨sym,st,d,some r,none,sc⟩=opCells 2 g0 true false r.plain g0 sc d sym st 0 0 e0 e0 0:=rfl
 rw [hp]
 simp only [M.agg,optV,hv]
 clear hp
 have hA:∀ x y z,_:=fun x y z=>alloc3 (w:=w) (x:=x) (y:=y) (z:=z) (Fr.refl nope _) (fun _ _ x=>x)
 go_enter Tryz.func205,Tryz.ntmps205
 go_upto_region 2 with (first
  | (refine wpList_storeRow (b:=w.heap.size+1+1) rfl rfl rfl rfl (hA _ _ _).2.2 rfl (by kernel_rfl) (by simp [Value.oneCell']) ?_;intro w3 hb3 hf3))
 have k0:=hf3.heap (hA _ _ _).1 (by omega)
 have k1:=hf3.heap (hA _ _ _).2.1 (by omega)
 have k2:w3.heap[w.heap.size+1+1]? = some (.cells (opCells 2 g0 false false g0 g0 sc d sym st 0 0 e0 e0 0) 121 (0,0)):=hb3
 have hF0:Fr nope w w3:=((((Fr.refl nope w).alloc _).alloc _).alloc _).then_new hf3 (fun x hx e=>by omega)
 clear hb3 hf3 hA
 have l0:=lt_of_heap k0
 have l1:=lt_of_heap k1
 have l2:=lt_of_heap k2
 have c0:=fun j=>cell_of_row _ _ j _ _ (0,0) k0
 go_wp2_with fail
 refine (hR _ hF0).mono ?_
 rintro e w4 ⟨rfl,hf4⟩
 replace k0:=hf4.heap k0 (fun x=>x)
 replace k1:=hf4.heap k1 (fun x=>x)
 replace k2:=hf4.heap k2 (fun x=>x)
 replace hF0:=hF0.then hf4
 clear c0 hf4
 replace l0:=lt_of_heap k0
 replace l1:=lt_of_heap k1
 replace l2:=lt_of_heap k2
 have c0:=fun j=>cell_of_row _ _ j _ _ (0,0) k0
 have c2:=fun j=>cell_of_row _ _ j _ _ (0,0) k2
 have z2:=frozen_row k2
 have s3:Fr (fun x=>x=w.heap.size+1+1) w4 (w4.setCell ⟨w.heap.size+1+1,5,none⟩ (.bool true)):=(Fr.refl (fun x=>x=w.heap.size+1+1) w4).setCell (.inl rfl) _
 have k3:=setCell_heap (k:=5) k2 (.bool true)
 have k0':=s3.heap k0 (by omega)
 have k1':=s3.heap k1 (by omega)
 unfold G.agg
 go_upto_region 4 with (first
  | (refine wpList_store4 (b:=w.heap.size+1+1) (o:=7) (cs':=opCells 2 g0 true false r.plain g0 sc d sym st 0 0 e0 e0 0) rfl rfl rfl rfl k3 (by simp [opCells]) (by kernel_rfl) (by simp [Value.oneCell']) rfl ?_;intro w5 hb5 hf5))
 have hF1:=(hF0.then_new s3 (fun x hx e=>by omega)).then_new hf5 (fun x hx e=>by omega)
 replace k0:=hf5.heap k0' (by omega)
 replace k1:=hf5.heap k1' (by omega)
 replace k2:=hb5
 clear c0 c2 z2 k3 k0' k1' s3 l0 l1 l2 hf5 hb5
 have l0:=lt_of_heap k0
 have l1:=lt_of_heap k1
 have l2:=lt_of_heap k2
 have c0:=fun j=>cell_of_row _ _ j _ _ (0,0) k0
 go_wp2_with (first
  | (refine wpList_loadRow (b:=w.heap.size+1+1) rfl rfl rfl k2 Tryz.underlying121 rfl (by kernel_rfl) ?_)
  | (refine wpList_storeRow (b:=w.heap.size+1) rfl rfl rfl rfl k1 rfl (by kernel_rfl) (opCells_one _ _ _ _ _ _ _ _ _ _ _ _ _ _ _) ?_;intro w9 hb9 hf9))
 refine bodyPost_ret (results_cell_row rfl _ _ (w.heap.size+1) _ _ _ _ rfl hb9 Tryz.underlying121 rfl (by kernel_rfl)) rfl ⟨rfl,hF1.then_new hf9 (fun x hx e=>by omega)⟩
set_option maxHeartbeats 4000000 in
theorem plainMem_11 (w:World) (m:M) (r:R) (q:R) (hb:m.base=some r) (hr:r.At w) (hi:m.index=some q) (hq:q.At w):Calls Tryz.prog 205 #[m.agg] w fun e w'=>e = .returned (.agg m.pcells)∧Fr nope w w':=by
 have hR:=fun W (hW:Fr nope w W)=>plainReg_calls W r (hr.nope hW)
 obtain ⟨T,v,hv⟩:=r.val_iface
 rw [hv] at hR
 have hI:=fun W (hW:Fr nope w W)=>plainReg_calls W q (hq.nope hW)
 obtain ⟨T',v',hv'⟩:=q.val_iface
 rw [hv'] at hI
 obtain ⟨sym,st,d,x,y,sc⟩:=m
 simp only at hb hi
 subst hb hi
 have hp:M.pcells ⟨sym,st,d,some r,some q,sc⟩=opCells 2 g0 true true r.plain q.plain sc d sym st 0 0 e0 e0 0:=rfl
 rw [hp]
 simp only [M.agg,optV,hv,hv']
 clear hp
 have hA:∀ x y z,_:=fun x y z=>alloc3 (w:=w) (x:=x) (y:=y) (z:=z) (Fr.refl nope _) (fun _ _ x=>x)
 go_enter Tryz.func205,Tryz.ntmps205
 go_upto_region 2 with (first
  | (refine wpList_storeRow (b:=w.heap.size+1+1) rfl rfl rfl rfl (hA _ _ _).2.2 rfl (by kernel_rfl) (by simp [Value.oneCell']) ?_;intro w3 hb3 hf3))
 have k0:=hf3.heap (hA _ _ _).1 (by omega)
 have k1:=hf3.heap (hA _ _ _).2.1 (by omega)
 have k2:w3.heap[w.heap.size+1+1]? = some (.cells (opCells 2 g0 false false g0 g0 sc d sym st 0 0 e0 e0 0) 121 (0,0)):=hb3
 have hF0:Fr nope w w3:=((((Fr.refl nope w).alloc _).alloc _).alloc _).then_new hf3 (fun x hx e=>by omega)
 clear hb3 hf3 hA
 have l0:=lt_of_heap k0
 have l1:=lt_of_heap k1
 have l2:=lt_of_heap k2
 have c0:=fun j=>cell_of_row _ _ j _ _ (0,0) k0
 go_wp2_with fail
 refine (hR _ hF0).mono ?_
 rintro e w4 ⟨rfl,hf4⟩
 replace k0:=hf4.heap k0 (fun x=>x)
 replace k1:=hf4.heap k1 (fun x=>x)
 replace k2:=hf4.heap k2 (fun x=>x)
 replace hF0:=hF0.then hf4
 clear c0 hf4
 replace l0:=lt_of_heap k0
 replace l1:=lt_of_heap k1
 replace l2:=lt_of_heap k2
 have c0:=fun j=>cell_of_row _ _ j _ _ (0,0) k0
 have c2:=fun j=>cell_of_row _ _ j _ _ (0,0) k2
 have z2:=frozen_row k2
 have s3:Fr (fun x=>x=w.heap.size+1+1) w4 (w4.setCell ⟨w.heap.size+1+1,5,none⟩ (.bool true)):=(Fr.refl (fun x=>x=w.heap.size+1+1) w4).setCell (.inl rfl) _
 have k3:=setCell_heap (k:=5) k2 (.bool true)
 have k0':=s3.heap k0 (by omega)
 have k1':=s3.heap k1 (by omega)
 unfold G.agg
 go_upto_region 4 with (first
  | (refine wpList_store4 (b:=w.heap.size+1+1) (o:=7) (cs':=opCells 2 g0 true false r.plain g0 sc d sym st 0 0 e0 e0 0) rfl rfl rfl rfl k3 (by simp [opCells]) (by kernel_rfl) (by simp [Value.oneCell']) rfl ?_;intro w5 hb5 hf5))
 have hF1:=(hF0.then_new s3 (fun x hx e=>by omega)).then_new hf5 (fun x hx e=>by omega)
 replace k0:=hf5.heap k0' (by omega)
 replace k1:=hf5.heap k1' (by omega)
 replace k2:=hb5
 clear c0 c2 z2 k3 k0' k1' s3 l0 l1 l2 hf5 hb5
 have l0:=lt_of_heap k0
 have l1:=lt_of_heap k1
 have l2:=lt_of_heap k2
 have c0:=fun j=>cell_of_row _ _ j _ _ (0,0) k0
 go_wp2_with fail
 refine (hI _ hF1).mono ?_
 rintro e w4' ⟨rfl,hf4⟩
 replace k0:=hf4.heap k0 (fun x=>x)
 replace k1:=hf4.heap k1 (fun x=>x)
 replace k2:=hf4.heap k2 (fun x=>x)
 replace hF1:=hF1.then hf4
 clear c0 hf4
 replace l0:=lt_of_heap k0
 replace l1:=lt_of_heap k1
 replace l2:=lt_of_heap k2
 have c0:=fun j=>cell_of_row _ _ j _ _ (0,0) k0
 have c2:=fun j=>cell_of_row _ _ j _ _ (0,0) k2
 have z2:=frozen_row k2
 have s3:Fr (fun x=>x=w.heap.size+1+1) w4' (w4'.setCell ⟨w.heap.size+1+1,6,none⟩ (.bool true)):=(Fr.refl (fun x=>x=w.heap.size+1+1) w4').setCell (.inl rfl) _
 have k3:=setCell_heap (k:=6) k2 (.bool true)
 have k0':=s3.heap k0 (by omega)
 have k1':=s3.heap k1 (by omega)
 unfold G.agg
 go_upto_region 6 with (first
  | (refine wpList_store4 (b:=w.heap.size+1+1) (o:=11) (cs':=opCells 2 g0 true true r.plain q.plain sc d sym st 0 0 e0 e0 0) rfl rfl rfl rfl k3 (by simp [opCells]) (by kernel_rfl) (by simp [Value.oneCell']) rfl ?_;intro w6 hb6 hf6))
 have hF2:=(hF1.then_new s3 (fun x hx e=>by omega)).then_new hf6 (fun x hx e=>by omega)
 replace k0:=hf6.heap k0' (by omega)
 replace k1:=hf6.heap k1' (by omega)
 replace k2:=hb6
 clear c0 c2 z2 k3 k0' k1' s3 l0 l1 l2 hf6 hb6
 have l0:=lt_of_heap k0
 have l1:=lt_of_heap k1
 have l2:=lt_of_heap k2
 have c0:=fun j=>cell_of_row _ _ j _ _ (0,0) k0
 go_wp2_with (first
  | (refine wpList_loadRow (b:=w.heap.size+1+1) rfl rfl rfl k2 Tryz.underlying121 rfl (by kernel_rfl) ?_)
  | (refine wpList_storeRow (b:=w.heap.size+1) rfl rfl rfl rfl k1 rfl (by kernel_rfl) (opCells_one _ _ _ _ _ _ _ _ _ _ _ _ _ _ _) ?_;intro w9 hb9 hf9))
 refine bodyPost_ret (results_cell_row rfl _ _ (w.heap.size+1) _ _ _ _ rfl hb9 Tryz.underlying121 rfl (by kernel_rfl)) rfl ⟨rfl,hF2.then_new hf9 (fun x hx e=>by omega)⟩
theorem plainMem_calls (w:World) (m:M) (hm:∀ r∈m.regs,r.At w):Calls Tryz.prog 205 #[m.agg] w fun e w'=>e = .returned (.agg m.pcells)∧Fr nope w w':=by
 cases hb:m.base with
 | none=>
  cases hi:m.index with
  | none=>exact plainMem_00 w m hb hi
  | some q=>exact plainMem_01 w m q hb hi (hm q (by simp [M.regs,hi]))
 | some r=>
  cases hi:m.index with
  | none=>exact plainMem_10 w m r hb (hm r (by simp [M.regs,hb])) hi
  | some q=>exact plainMem_11 w m r q hb (hm r (by simp [M.regs,hb])) hi (hm q (by simp [M.regs,hi]))
end
section
open Go Go.RowKit Bth
set_option maxRecDepth 100000
def O.pcells:O→Array Value
 | .reg r=>opCells 1 r.plain false false g0 g0 0 0 e0 false 0 0 e0 e0 0
 | .mem m=>m.pcells
 | .con c=>opCells 3 g0 false false g0 g0 0 0 e0 false c.k.num c.bits c.text e0 0
 | .label s=>opCells 4 g0 false false g0 g0 0 0 e0 false 0 0 e0 s 0
 | .rel n=>opCells 5 g0 false false g0 g0 0 0 e0 false 0 0 e0 e0 n
def GivesPO (w:World) (o:O) (e:Ending) (w':World):Prop:=e = .returned (.agg o.pcells)∧Fr nope w w'
set_option maxHeartbeats 4000000 in
theorem plainOp_reg (w:World) (r:R) (hat:r.At w):Calls Tryz.prog 191 #[O.val (.reg r)] w (GivesPO w (.reg r)):=by
 have h1:∀ W,(Instr.typeAssert (O.val (.reg r)) 221 193 true).run Tryz.prog W = .ok (.tuple #[r.val,.bool true]) W:=fun W=>O.ta_Register W _ (.reg r)
 have hR:=fun W (hW:Fr nope w W)=>plainReg_calls W r (hat.nope hW)
 simp only [O.val] at h1 ⊢
 unfold GivesPO
 obtain ⟨T,v,hrv⟩:=r.val_iface
 rw [hrv] at h1 hR ⊢
 simp only [O.pcells]
 have hp:r.plain.agg = .agg #[.bool r.plain.virt,.int .u8 (r.plain.kind:Int),.int .u16 (r.plain.idx:Int),.int .u16 (r.plain.spec:Int)]:=rfl
 go_enter Tryz.func191,Tryz.ntmps191
 go_wp2_with fail
 refine (hR _ ((Fr.refl _ _).alloc _)).mono ?_
 rintro e w1 ⟨rfl,hf1⟩
 have k1:=hf1.heap (heap_alloc_new w _) (fun x=>x)
 have hF:=((Fr.refl nope w).alloc _).then hf1
 have l1:=lt_of_heap k1
 rw [hp]
 go_wp2_with (first
  | (refine wpList_storeRow (b:=w.heap.size) (cells:=opCells 1 r.plain false false g0 g0 0 0 e0 false 0 0 e0 e0 0) rfl rfl rfl rfl k1 rfl (by kernel_rfl) (opCells_one _ _ _ _ _ _ _ _ _ _ _ _ _ _ _) ?_;intro w9 hb9 hf9))
 refine bodyPost_ret (results_cell_row rfl _ _ w.heap.size _ _ _ _ rfl hb9 Tryz.underlying121 rfl (by kernel_rfl)) rfl ⟨rfl,hF.then_new hf9 (fun x hx e=>by omega)⟩
set_option maxHeartbeats 4000000 in
theorem plainOp_mem (w:World) (m:M) (hm:∀ r∈m.regs,r.At w):Calls Tryz.prog 191 #[O.val (.mem m)] w (GivesPO w (.mem m)):=by
 have h1:∀ W,(Instr.typeAssert (O.val (.mem m)) 221 193 true).run Tryz.prog W = .ok (.tuple #[.nilIface,.bool false]) W:=fun W=>O.ta_Register W _ (.mem m)
 have h2:∀ W,(Instr.typeAssert (O.val (.mem m)) 221 292 true).run Tryz.prog W = .ok (.tuple #[m.agg,.bool true]) W:=fun W=>O.ta_Mem W _ (.mem m)
 have hR:=fun W (hW:Fr nope w W)=>plainMem_calls W m (fun r hr=>(hm r hr).nope hW)
 simp only [O.val] at h1 h2 ⊢
 unfold GivesPO
 simp only [O.pcells]
 have hp1:m.pcells.size=24:=rfl
 have hp2:m.pcells.all (·.oneCell')=true:=opCells_one _ _ _ _ _ _ _ _ _ _ _ _ _ _ _
 generalize m.pcells=pc at *
 obtain ⟨sym,st,d,x,y,sc⟩:=m
 have hcx:=optV_cases x
 have hcy:=optV_cases y
 rw [M.agg] at h1 h2 hR ⊢
 simp only at h1 h2 hR ⊢
 clear hm
 generalize optV x=vx at h1 h2 hR hcx ⊢
 generalize optV y=vy at h1 h2 hR hcy ⊢
 rcases hcx with rfl | ⟨Tx,ux,rfl⟩<;>rcases hcy with rfl | ⟨Ty,uy,rfl⟩
 all_goals
  go_enter Tryz.func191,Tryz.ntmps191
  go_wp2_with fail
  refine (hR _ (((Fr.refl _ _).alloc _).alloc _)).mono ?_
  rintro e w1 ⟨rfl,hf1⟩
  have k1:=hf1.heap (((Fr.refl nope (w.alloc _)).alloc _).heap (heap_alloc_new w _) (fun x=>x)) (fun x=>x)
  have hF:=(((Fr.refl nope w).alloc _).alloc _).then hf1
  have l1:=lt_of_heap k1
  go_wp2_with (first
   | (refine wpList_storeRow (b:=w.heap.size) (cells:=pc) rfl rfl rfl rfl k1 hp1.symm (by rw [hp1];kernel_rfl) hp2 ?_;intro w9 hb9 hf9))
  refine bodyPost_ret (results_cell_row rfl _ _ w.heap.size _ _ _ _ rfl hb9 Tryz.underlying121 rfl (by kernel_rfl)) rfl ⟨rfl,hF.then_new hf9 (fun x hx e=>by omega)⟩
set_option maxHeartbeats 4000000 in
theorem plainOp_con (w:World) (c:C):Calls Tryz.prog 191 #[O.val (.con c)] w (GivesPO w (.con c)):=by
 have h1:∀ W,(Instr.typeAssert (O.val (.con c)) 221 193 true).run Tryz.prog W = .ok (.tuple #[.nilIface,.bool false]) W:=fun W=>O.ta_Register W _ (.con c)
 have h2:∀ W,(Instr.typeAssert (O.val (.con c)) 221 292 true).run Tryz.prog W = .ok (.tuple #[.agg #[.string ⟨#[]⟩,.bool false,.int .i64 0,.nilIface,.nilIface,.int .u8 0],.bool false]) W:=fun W=>O.ta_Mem W _ (.con c)
 have h3:∀ W,(Instr.typeAssert (O.val (.con c)) 221 298 true).run Tryz.prog W = .ok (.tuple #[O.val (.con c),.bool true]) W:=fun W=>O.ta_Constant W _ (.con c)
 have hC:=fun W=>plainConstant_calls W c
 unfold GivesPO
 simp only [O.pcells]
 unfold C.pc at hC
 obtain ⟨T,v,hv⟩:=(O.con c).val_iface
 rw [hv] at h1 h2 h3 hC ⊢
 go_enter Tryz.func191,Tryz.ntmps191
 go_wp2_with fail
 refine (hC _).mono ?_
 rintro e w1 ⟨rfl,hf1⟩
 have k1:=hf1.heap (heap_alloc_new w _) (fun x=>x)
 have hF:=((Fr.refl nope w).alloc _).then hf1
 have l1:=lt_of_heap k1
 go_wp2_with (first
  | (refine wpList_storeRow (b:=w.heap.size) (cells:=opCells 3 g0 false false g0 g0 0 0 e0 false c.k.num c.bits c.text e0 0) rfl rfl rfl rfl k1 rfl (by kernel_rfl) (opCells_one _ _ _ _ _ _ _ _ _ _ _ _ _ _ _) ?_;intro w9 hb9 hf9))
 refine bodyPost_ret (results_cell_row rfl _ _ w.heap.size _ _ _ _ rfl hb9 Tryz.underlying121 rfl (by kernel_rfl)) rfl ⟨rfl,hF.then_new hf9 (fun x hx e=>by omega)⟩
set_option maxHeartbeats 4000000 in
theorem plainOp_label (w:World) (s:ByteArray):Calls Tryz.prog 191 #[O.val (.label s)] w (GivesPO w (.label s)):=by
 have h1:∀ W,(Instr.typeAssert (O.val (.label s)) 221 193 true).run Tryz.prog W = .ok (.tuple #[.nilIface,.bool false]) W:=fun W=>O.ta_Register W _ (.label s)
 have h2:∀ W,(Instr.typeAssert (O.val (.label s)) 221 292 true).run Tryz.prog W = .ok (.tuple #[.agg #[.string ⟨#[]⟩,.bool false,.int .i64 0,.nilIface,.nilIface,.int .u8 0],.bool false]) W:=fun W=>O.ta_Mem W _ (.label s)
 have h3:∀ W,(Instr.typeAssert (O.val (.label s)) 221 298 true).run Tryz.prog W = .ok (.tuple #[.nilIface,.bool false]) W:=fun W=>O.ta_Constant W _ (.label s)
 have h4:∀ W,(Instr.typeAssert (O.val (.label s)) 221 236 true).run Tryz.prog W = .ok (.tuple #[.string s,.bool true]) W:=fun W=>O.ta_LabelRef W _ (.label s)
 unfold GivesPO
 simp only [O.pcells]
 simp only [O.val] at h1 h2 h3 h4 ⊢
 have k1:∀ o,((w.alloc o).heap[w.heap.size]? = some o):=fun o=>heap_alloc_new w o
 have hF:∀ o,Fr nope w (w.alloc o):=fun o=>(Fr.refl nope w).alloc o
 go_enter Tryz.func191,Tryz.ntmps191
 go_wp2_with (first
  | (refine wpList_storeRow (b:=w.heap.size) (cells:=opCells 4 g0 false false g0 g0 0 0 e0 false 0 0 e0 s 0) rfl rfl rfl rfl (k1 _) rfl (by kernel_rfl) (opCells_one _ _ _ _ _ _ _ _ _ _ _ _ _ _ _) ?_;intro w9 hb9 hf9))
 refine bodyPost_ret (results_cell_row rfl _ _ w.heap.size _ _ _ _ rfl hb9 Tryz.underlying121 rfl (by kernel_rfl)) rfl ⟨rfl,(hF _).then_new hf9 (fun x hx e=>by omega)⟩
set_option maxHeartbeats 4000000 in
theorem plainOp_rel (w:World) (n:Int):Calls Tryz.prog 191 #[O.val (.rel n)] w (GivesPO w (.rel n)):=by
 have h1:∀ W,(Instr.typeAssert (O.val (.rel n)) 221 193 true).run Tryz.prog W = .ok (.tuple #[.nilIface,.bool false]) W:=fun W=>O.ta_Register W _ (.rel n)
 have h2:∀ W,(Instr.typeAssert (O.val (.rel n)) 221 292 true).run Tryz.prog W = .ok (.tuple #[.agg #[.string ⟨#[]⟩,.bool false,.int .i64 0,.nilIface,.nilIface,.int .u8 0],.bool false]) W:=fun W=>O.ta_Mem W _ (.rel n)
 have h3:∀ W,(Instr.typeAssert (O.val (.rel n)) 221 298 true).run Tryz.prog W = .ok (.tuple #[.nilIface,.bool false]) W:=fun W=>O.ta_Constant W _ (.rel n)
 have h4:∀ W,(Instr.typeAssert (O.val (.rel n)) 221 236 true).run Tryz.prog W = .ok (.tuple #[.string ⟨#[]⟩,.bool false]) W:=fun W=>O.ta_LabelRef W _ (.rel n)
 have h5:∀ W,(Instr.typeAssert (O.val (.rel n)) 221 299 true).run Tryz.prog W = .ok (.tuple #[.int .i32 n,.bool true]) W:=fun W=>O.ta_Rel W _ (.rel n)
 unfold GivesPO
 simp only [O.pcells]
 simp only [O.val] at h1 h2 h3 h4 h5 ⊢
 have k1:∀ o,((w.alloc o).heap[w.heap.size]? = some o):=fun o=>heap_alloc_new w o
 have hF:∀ o,Fr nope w (w.alloc o):=fun o=>(Fr.refl nope w).alloc o
 go_enter Tryz.func191,Tryz.ntmps191
 go_wp2_with (first
  | (refine wpList_storeRow (b:=w.heap.size) (cells:=opCells 5 g0 false false g0 g0 0 0 e0 false 0 0 e0 e0 n) rfl rfl rfl rfl (k1 _) rfl (by kernel_rfl) (opCells_one _ _ _ _ _ _ _ _ _ _ _ _ _ _ _) ?_;intro w9 hb9 hf9))
 refine bodyPost_ret (results_cell_row rfl _ _ w.heap.size _ _ _ _ rfl hb9 Tryz.underlying121 rfl (by kernel_rfl)) rfl ⟨rfl,(hF _).then_new hf9 (fun x hx e=>by omega)⟩
theorem plainOp_calls (w:World) (o:O) (ho:o.At w):Calls Tryz.prog 191 #[o.val] w (GivesPO w o):=by
 cases o with
 | reg r=>exact plainOp_reg w r (ho r (by simp [O.regs])).2
 | mem m=>exact plainOp_mem w m fun r hr=>(ho r hr).2
 | con c=>exact plainOp_con w c
 | label s=>exact plainOp_label w s
 | rel n=>exact plainOp_rel w n
end
section
open Go Go.RowKit Bth
set_option maxRecDepth 100000
theorem set_all:∀ (l pre rest:List Value) (arr:Array Value),arr=(pre ++ rest).toArray→rest.length=l.length→(l.zipIdx pre.length).foldl (fun (cs:Array Value) (p:Value × Nat)=>cs.setIfInBounds (0+p.2) p.1) arr=(pre ++ l).toArray
 | [],pre,rest,arr,h,hl=>by
  have:rest=[]:=List.eq_nil_of_length_eq_zero (by simpa using hl)
  subst this h
  rfl
 | c :: l,pre,[],arr,h,hl=>by simp at hl
 | c :: l,pre,r :: rest,arr,h,hl=>by
  rw [List.zipIdx_cons,List.foldl_cons]
  have h1:=set_all l (pre ++ [c]) rest (arr.setIfInBounds (0+pre.length) c) (by subst h;simp) (by simpa using hl)
  rw [List.length_append,List.length_singleton] at h1
  rw [h1]
  simp
theorem fill_one {size:Nat} (zs:Array Value) (l:List Value) (hz:zs.size=size) (hl:l.length=size):Instr.fill (fun i=>some (i*size,size)) zs [(0,.agg l.toArray)]=some l.toArray:=by
 have hc:(Value.agg l.toArray).cells=l.toArray:=rfl
 unfold Instr.fill
 simp only [Nat.zero_mul,hc]
 rw [if_neg (by simp;omega)]
 unfold Instr.fill
 have h:=set_all l [] zs.toList zs (by simp) (by simp;omega)
 simp only [List.nil_append,List.length_nil] at h
 refine congrArg some (Eq.trans ?_ h)
 rw [← Array.foldl_toList]
 simp
theorem wpList_build1 {P:Program} {ops:Array Oper} {rest:List Oper} {o:Oper} {a:Act} {w:World} {Q:Exit→Act→World→Prop} (hg:o.guard=none) {t e:TypeId} {x:Operand} (ho:o.op = .buildSlice t 1 #[(0,x)])
  {l:List Value} {z:Value} {size bytes:Nat} (hx:a.eval x = .agg l.toArray) (hu:P.underlying t=some (.slice e)) (hinfo:(P.info? e).map (fun i=>(i.zero,i.size,i.bytes))=some (some z,size,bytes)) (hl:l.length=size) (hpos:0 < size) (hsm:size≤2 ^ 24)
  (h:wpList P ops Q rest (a.put o.dst (.slice (some ⟨w.heap.size,0,none⟩) 1 1)) (w.alloc (.cells l.toArray e))):wpList P ops Q (o :: rest) a w:=by
 obtain ⟨ie,hi,hzz⟩:=Option.map_eq_some_iff.1 hinfo
 simp only [Prod.mk.injEq] at hzz
 obtain ⟨h1,h2,h3⟩:=hzz
 refine wpList_buildSlice hg t e 1 _ ho l.toArray ie z hu hi h1 (by omega) (by omega) ?_ h
 have:=fill_one ((Array.range (1*ie.size)).map (z.cells[· % z.cells.size]!)) l (size:=ie.size) (by simp) (by omega)
 simpa [hx] using this
end
end Go.Proofs.YtjlfkgjmgghhiaaGreat
