/- Part of the proof of a statement about pub-berthage: what its texts have in common. -/
import Derived.Deep.MidRow
import Derived.Great.BuildSlice
import Derived.Test.YtbgblfiapecioaaGreatP09
import Derived.Test.YtbgblfiapecioaaGreatP23
import Derived.Test.YtbgblfiapecioaaGreatP24
import Derived.Test.YtbgblfiapecioaaGreatP25
namespace Go.Proofs.YtbgblfiapecioaaGreat
section
open Go Go.RowKit Bth
set_option maxRecDepth 100000
def g0:G:=⟨false,0,0,0⟩
def opCells (kind:Int) (r:G) (hb hi:Bool) (base index:G) (scale:Nat) (disp:Int) (sym:ByteArray) (static:Bool) (ck cb:Int) (ct:ByteArray) (label:ByteArray) (rel:Int):Array Value:=
 #[.int .i64 kind,.bool r.virt,.int .u8 (r.kind:Int),.int .u16 (r.idx:Int),.int .u16 (r.spec:Int),.bool hb,.bool hi,
  .bool base.virt,.int .u8 (base.kind:Int),.int .u16 (base.idx:Int),.int .u16 (base.spec:Int),.bool index.virt,.int .u8 (index.kind:Int),.int .u16 (index.idx:Int),.int .u16 (index.spec:Int),
  .int .u8 (scale:Int),.int .i64 disp,.string sym,.bool static,.int .i64 ck,.int .u64 cb,.string ct,.string label,.int .i32 rel]
def e0:ByteArray:=⟨#[]⟩
def M.pcells (m:M):Array Value:=opCells 2 g0 m.base.isSome m.index.isSome ((m.base.map R.plain).getD g0) ((m.index.map R.plain).getD g0) m.scale m.disp m.sym m.static 0 0 e0 e0 0
theorem opCells_size (kind:Int) (r:G) (hb hi:Bool) (base index:G) (scale:Nat) (disp:Int) (sym:ByteArray) (static:Bool) (ck cb:Int) (ct:ByteArray) (label:ByteArray) (rel:Int):(opCells kind r hb hi base index scale disp sym static ck cb ct label rel).size=24:=rfl
theorem opCells_one (kind:Int) (r:G) (hb hi:Bool) (base index:G) (scale:Nat) (disp:Int) (sym:ByteArray) (static:Bool) (ck cb:Int) (ct:ByteArray) (label:ByteArray) (rel:Int):(opCells kind r hb hi base index scale disp sym static ck cb ct label rel).all (·.oneCell')=true:=by simp [opCells,Value.oneCell']
theorem wpList_store4 {P:Program} {ops:Array Oper} {rest:List Oper} {op:Oper} {a:Act} {w:World} {Q:Exit→Act→World→Prop} (hgd:op.guard=none) {ty:TypeId} {x y:Operand} (ho:op.op = .store ty x y)
  {b o:Nat} {x1 x2 x3 x4:Value} {cs cs':Array Value} {t:TypeId} (hx:a.eval x = .pointer (some ⟨b,o,none⟩)) (hy:a.eval y = .agg #[x1,x2,x3,x4]) (hb:w.heap[b]? = some (.cells cs t (0,0))) (hl:o+4≤cs.size)
  (hi:(P.info? ty).map (·.size)=some 4) (h1:(#[x1,x2,x3,x4]:Array Value).all (·.oneCell')=true) (hc:(((cs.setIfInBounds o x1).setIfInBounds (o+1) x2).setIfInBounds (o+1+1) x3).setIfInBounds (o+1+1+1) x4=cs')
  (h:∀ w',w'.heap[b]? = some (.cells cs' t (0,0))→Fr (fun x=>x=b) w w'→wpList P ops Q rest (a.put op.dst undef) w'):wpList P ops Q (op :: rest) a w:=by
 refine wpList_store_mid hgd ty x y ho b o #[x1,x2,x3,x4] hx hy (fun j hj=>⟨?_,frozen_row hb _⟩) hi h1 (h _ ?_ (setCells_fr _ _ _ _ (Fr.refl _ _) (.inl rfl)))
 ·rw [cell_of_row w b _ _ _ (0,0) hb]
  have hj':j < 4:=hj
  rw [Array.getElem?_eq_getElem (by omega)];rfl
 ·rw [← hc]
  exact setCell_heap (setCell_heap (setCell_heap (setCell_heap hb x1) x2) x3) x4
set_option maxHeartbeats 4000000 in
theorem plainMem_00 (w:World) (m:M) (hb:m.base=none) (hi:m.index=none):Calls Tryz.prog 172 #[m.agg] w fun e w'=>e = .returned (.agg m.pcells)∧Fr nope w w':=by
 obtain ⟨sym,st,d,x,y,sc⟩:=m
 simp only at hb hi
 subst hb hi
 have hp:M.pcells ⟨sym,st,d,none,none,sc⟩=opCells 2 g0 false false g0 g0 sc d sym st 0 0 e0 e0 0:=rfl
 rw [hp]
 simp only [M.agg,optV]
 clear hp
 have hA:∀ x y z,_:=fun x y z=>alloc3 (w:=w) (x:=x) (y:=y) (z:=z) (Fr.refl nope _) (fun _ _ x=>x)
 go_enter Tryz.func172,Tryz.ntmps172
 go_upto_region 2 with (first
  | (refine wpList_storeRow (b:=w.heap.size+1+1) rfl rfl rfl rfl (hA _ _ _).2.2 rfl (by kernel_rfl) (by simp [Value.oneCell']) ?_;intro w3 hb3 hf3))
 have k0:=hf3.heap (hA _ _ _).1 (by omega)
 have k1:=hf3.heap (hA _ _ _).2.1 (by omega)
 have k2:w3.heap[w.heap.size+1+1]? = some (.cells (opCells 2 g0 false false g0 g0 sc d sym st 0 0 e0 e0 0) 83 (0,0)):=hb3
 have hF0:Fr nope w w3:=((((Fr.refl nope w).alloc _).alloc _).alloc _).then_new hf3 (fun x hx e=>by omega)
 clear hb3 hf3 hA
 have l0:=lt_of_heap k0
 have l1:=lt_of_heap k1
 have l2:=lt_of_heap k2
 have c0:=fun j=>cell_of_row _ _ j _ _ (0,0) k0
 go_wp2_with (first
  | (refine wpList_loadRow (b:=w.heap.size+1+1) rfl rfl rfl k2 Tryz.underlying83 rfl (by kernel_rfl) ?_)
  | (refine wpList_storeRow (b:=w.heap.size+1) rfl rfl rfl rfl k1 rfl (by kernel_rfl) (opCells_one _ _ _ _ _ _ _ _ _ _ _ _ _ _ _) ?_;intro w9 hb9 hf9))
 refine bodyPost_ret (results_cell_row rfl _ _ (w.heap.size+1) _ _ _ _ rfl hb9 Tryz.underlying83 rfl (by kernel_rfl)) rfl ⟨rfl,hF0.then_new hf9 (fun x hx e=>by omega)⟩
set_option maxHeartbeats 4000000 in
theorem plainMem_01 (w:World) (m:M) (q:R) (hb:m.base=none) (hi:m.index=some q) (hq:q.At w):Calls Tryz.prog 172 #[m.agg] w fun e w'=>e = .returned (.agg m.pcells)∧Fr nope w w':=by
 have hI:=fun W (hW:Fr nope w W)=>plainReg_calls W q (hq.nope hW)
 obtain ⟨T',v',hv'⟩:=q.val_iface
 rw [hv'] at hI
 obtain ⟨sym,st,d,x,y,sc⟩:=m
 simp only at hb hi
 subst hb hi
 have hp:M.pcells ⟨sym,st,d,none,some q,sc⟩=opCells 2 g0 false true g0 q.plain sc d sym st 0 0 e0 e0 0:=rfl
 rw [hp]
 simp only [M.agg,optV,hv']
 clear hp
 have hA:∀ x y z,_:=fun x y z=>alloc3 (w:=w) (x:=x) (y:=y) (z:=z) (Fr.refl nope _) (fun _ _ x=>x)
 go_enter Tryz.func172,Tryz.ntmps172
 go_upto_region 2 with (first
  | (refine wpList_storeRow (b:=w.heap.size+1+1) rfl rfl rfl rfl (hA _ _ _).2.2 rfl (by kernel_rfl) (by simp [Value.oneCell']) ?_;intro w3 hb3 hf3))
 have k0:=hf3.heap (hA _ _ _).1 (by omega)
 have k1:=hf3.heap (hA _ _ _).2.1 (by omega)
 have k2:w3.heap[w.heap.size+1+1]? = some (.cells (opCells 2 g0 false false g0 g0 sc d sym st 0 0 e0 e0 0) 83 (0,0)):=hb3
 have hF0:Fr nope w w3:=((((Fr.refl nope w).alloc _).alloc _).alloc _).then_new hf3 (fun x hx e=>by omega)
 clear hb3 hf3 hA
 have l0:=lt_of_heap k0
 have l1:=lt_of_heap k1
 have l2:=lt_of_heap k2
 have c0:=fun j=>cell_of_row _ _ j _ _ (0,0) k0
 go_wp2_with fail
 refine (hI _ hF0).mono ?_
 rintro e w4 ⟨rfl,hf4⟩
 replace k0:=hf4.heap k0 (fun x=>x)
 replace k1:=hf4.heap k1 (fun x=>x)
 replace k2:=hf4.heap k2 (fun x=>x)
 replace hF0:=hF0.then hf4
 clear c0 hf4
 replace l0:=lt_of_heap k0
 replace l1:=lt_of_heap k1
 replace l2:=lt_of_heap k2
 have c0:=fun j=>cell_of_row _ _ j _ _ (0,0) k0
 have c2:=fun j=>cell_of_row _ _ j _ _ (0,0) k2
 have z2:=frozen_row k2
 have s3:Fr (fun x=>x=w.heap.size+1+1) w4 (w4.setCell ⟨w.heap.size+1+1,6,none⟩ (.bool true)):=(Fr.refl (fun x=>x=w.heap.size+1+1) w4).setCell (.inl rfl) _
 have k3:=setCell_heap (k:=6) k2 (.bool true)
 have k0':=s3.heap k0 (by omega)
 have k1':=s3.heap k1 (by omega)
 unfold G.agg
 go_upto_region 6 with (first
  | (refine wpList_store4 (b:=w.heap.size+1+1) (o:=11) (cs':=opCells 2 g0 false true g0 q.plain sc d sym st 0 0 e0 e0 0) rfl rfl rfl rfl k3 (by simp [opCells]) (by kernel_rfl) (by simp [Value.oneCell']) rfl ?_;intro w5 hb5 hf5))
 have hF1:=(hF0.then_new s3 (fun x hx e=>by omega)).then_new hf5 (fun x hx e=>by omega)
 replace k0:=hf5.heap k0' (by omega)
 replace k1:=hf5.heap k1' (by omega)
 replace k2:=hb5
 clear c0 c2 z2 k3 k0' k1' s3 l0 l1 l2 hf5 hb5
 have l0:=lt_of_heap k0
 have l1:=lt_of_heap k1
 have l2:=lt_of_heap k2
 have c0:=fun j=>cell_of_row _ _ j _ _ (0,0) k0
 go_wp2_with (first
  | (refine wpList_loadRow (b:=w.heap.size+1+1) rfl rfl rfl k2 Tryz.underlying83 rfl (by kernel_rfl) ?_)
  | (refine wpList_storeRow (b:=w.heap.size+1) rfl rfl rfl rfl k1 rfl (by kernel_rfl) (opCells_one _ _ _ _ _ _ _ _ _ _ _ _ _ _ _) ?_;intro w9 hb9 hf9))
 refine bodyPost_ret (results_cell_row rfl _ _ (w.heap.size+1) _ _ _ _ rfl hb9 Tryz.underlying83 rfl (by kernel_rfl)) rfl ⟨rfl,hF1.then_new hf9 (fun x hx e=>by omega)⟩
set_option maxHeartbeats 4000000 in
theorem plainMem_10 (w:World) (m:M) (r:R) (hb:m.base=some r) (hr:r.At w) (hi:m.index=none):Calls Tryz.prog 172 #[m.agg] w fun e w'=>e = .returned (.agg m.pcells)∧Fr nope w w':=by
 have hR:=fun W (hW:Fr nope w W)=>plainReg_calls W r (hr.nope hW)
 obtain ⟨T,v,hv⟩:=r.val_iface
 rw [hv] at hR
 obtain ⟨sym,st,d,x,y,sc⟩:=m
 simp only at hb hi
 subst hb hi
 have hp:M.pcells ⟨sym,st,d,some r,none,sc⟩=opCells 2 g0 true false r.plain g0 sc d sym st 0 0 e0 e0 0:=rfl
 rw [hp]
 simp only [M.agg,optV,hv]
 clear hp
 have hA:∀ x y z,_:=fun x y z=>alloc3 (w:=w) (x:=x) (y:=y) (z:=z) (Fr.refl nope _) (fun _ _ x=>x)
 go_enter Tryz.func172,Tryz.ntmps172
 go_upto_region 2 with (first
  | (refine wpList_storeRow (b:=w.heap.size+1+1) rfl rfl rfl rfl (hA _ _ _).2.2 rfl (by kernel_rfl) (by simp [Value.oneCell']) ?_;intro w3 hb3 hf3))
 have k0:=hf3.heap (hA _ _ _).1 (by omega)
 have k1:=hf3.heap (hA _ _ _).2.1 (by omega)
 have k2:w3.heap[w.heap.size+1+1]? = some (.cells (opCells 2 g0 false false g0 g0 sc d sym st 0 0 e0 e0 0) 83 (0,0)):=hb3
 have hF0:Fr nope w w3:=((((Fr.refl nope w).alloc _).alloc _).alloc _).then_new hf3 (fun x hx e=>by omega)
 clear hb3 hf3 hA
 have l0:=lt_of_heap k0
 have l1:=lt_of_heap k1
 have l2:=lt_of_heap k2
 have c0:=fun j=>cell_of_row _ _ j _ _ (0,0) k0
 go_wp2_with fail
 refine (hR _ hF0).mono ?_
 rintro e w4 ⟨rfl,hf4⟩
 replace k0:=hf4.heap k0 (fun x=>x)
 replace k1:=hf4.heap k1 (fun x=>x)
 replace k2:=hf4.heap k2 (fun x=>x)
 replace hF0:=hF0.then hf4
 clear c0 hf4
 replace l0:=lt_of_heap k0
 replace l1:=lt_of_heap k1
 replace l2:=lt_of_heap k2
 have c0:=fun j=>cell_of_row _ _ j _ _ (0,0) k0
 have c2:=fun j=>cell_of_row _ _ j _ _ (0,0) k2
 have z2:=frozen_row k2
 have s3:Fr (fun x=>x=w.heap.size+1+1) w4 (w4.setCell ⟨w.heap.size+1+1,5,none⟩ (.bool true)):=(Fr.refl (fun x=>x=w.heap.size+1+1) w4).setCell (.inl rfl) _
 have k3:=setCell_heap (k:=5) k2 (.bool true)
 have k0':=s3.heap k0 (by omega)
 have k1':=s3.heap k1 (by omega)
 unfold G.agg
 go_upto_region 4 with (first
  | (refine wpList_store4 (b:=w.heap.size+1+1) (o:=7) (cs':=opCells 2 g0 true false r.plain g0 sc d sym st 0 0 e0 e0 0) rfl rfl rfl rfl k3 (by simp [opCells]) (by kernel_rfl) (by simp [Value.oneCell']) rfl ?_;intro w5 hb5 hf5))
 have hF1:=(hF0.then_new s3 (fun x hx e=>by omega)).then_new hf5 (fun x hx e=>by omega)
 replace k0:=hf5.heap k0' (by omega)
 replace k1:=hf5.heap k1' (by omega)
 replace k2:=hb5
 clear c0 c2 z2 k3 k0' k1' s3 l0 l1 l2 hf5 hb5
 have l0:=lt_of_heap k0
 have l1:=lt_of_heap k1
 have l2:=lt_of_heap k2
 have c0:=fun j=>cell_of_row _ _ j _ _ (0,0) k0
 go_wp2_with (first
  | (refine wpList_loadRow (b:=w.heap.size+1+1) rfl rfl rfl k2 Tryz.underlying83 rfl (by kernel_rfl) ?_)
  | (refine wpList_storeRow (b:=w.heap.size+1) rfl rfl rfl rfl k1 rfl (by kernel_rfl) (opCells_one _ _ _ _ _ _ _ _ _ _ _ _ _ _ _) ?_;intro w9 hb9 hf9))
 refine bodyPost_ret (results_cell_row rfl _ _ (w.heap.size+1) _ _ _ _ rfl hb9 Tryz.underlying83 rfl (by kernel_rfl)) rfl ⟨rfl,hF1.then_new hf9 (fun x hx e=>by omega)⟩
set_option maxHeartbeats 4000000 in
theorem plainMem_11 (w:World) (m:M) (r:R) (q:R) (hb:m.base=some r) (hr:r.At w) (hi:m.index=some q) (hq:q.At w):Calls Tryz.prog 172 #[m.agg] w fun e w'=>e = .returned (.agg m.pcells)∧Fr nope w w':=by
 have hR:=fun W (hW:Fr nope w W)=>plainReg_calls W r (hr.nope hW)
 obtain ⟨T,v,hv⟩:=r.val_iface
 rw [hv] at hR
 have hI:=fun W (hW:Fr nope w W)=>plainReg_calls W q (hq.nope hW)
 obtain ⟨T',v',hv'⟩:=q.val_iface
 rw [hv'] at hI
 obtain ⟨sym,st,d,x,y,sc⟩:=m
 simp only at hb hi
 subst hb hi
 have hp:M.pcells ⟨sym,st,d,some r,some q,sc⟩=opCells 2 g0 true true r.plain q.plain sc d sym st 0 0 e0 e0 0:=rfl
 rw [hp]
 simp only [M.agg,optV,hv,hv']
 clear hp
 have hA:∀ x y z,_:=fun x y z=>alloc3 (w:=w) (x:=x) (y:=y) (z:=z) (Fr.refl nope _) (fun _ _ x=>x)
 go_enter Tryz.func172,Tryz.ntmps172
 go_upto_region 2 with (first
  | (refine wpList_storeRow (b:=w.heap.size+1+1) rfl rfl rfl rfl (hA _ _ _).2.2 rfl (by kernel_rfl) (by simp [Value.oneCell']) ?_;intro w3 hb3 hf3))
 have k0:=hf3.heap (hA _ _ _).1 (by omega)
 have k1:=hf3.heap (hA _ _ _).2.1 (by omega)
 have k2:w3.heap[w.heap.size+1+1]? = some (.cells (opCells 2 g0 false false g0 g0 sc d sym st 0 0 e0 e0 0) 83 (0,0)):=hb3
 have hF0:Fr nope w w3:=((((Fr.refl nope w).alloc _).alloc _).alloc _).then_new hf3 (fun x hx e=>by omega)
 clear hb3 hf3 hA
 have l0:=lt_of_heap k0
 have l1:=lt_of_heap k1
 have l2:=lt_of_heap k2
 have c0:=fun j=>cell_of_row _ _ j _ _ (0,0) k0
 go_wp2_with fail
 refine (hR _ hF0).mono ?_
 rintro e w4 ⟨rfl,hf4⟩
 replace k0:=hf4.heap k0 (fun x=>x)
 replace k1:=hf4.heap k1 (fun x=>x)
 replace k2:=hf4.heap k2 (fun x=>x)
 replace hF0:=hF0.then hf4
 clear c0 hf4
 replace l0:=lt_of_heap k0
 replace l1:=lt_of_heap k1
 replace l2:=lt_of_heap k2
 have c0:=fun j=>cell_of_row _ _ j _ _ (0,0) k0
 have c2:=fun j=>cell_of_row _ _ j _ _ (0,0) k2
 have z2:=frozen_row k2
 have s3:Fr (fun x=>x=w.heap.size+1+1) w4 (w4.setCell ⟨w.heap.size+1+1,5,none⟩ (.bool true)):=(Fr.refl (fun x=>x=w.heap.size+1+1) w4).setCell (.inl rfl) _
 have k3:=setCell_heap (k:=5) k2 (.bool true)
 have k0':=s3.heap k0 (by omega)
 have k1':=s3.heap k1 (by omega)
 unfold G.agg
 go_upto_region 4 with (first
  | (refine wpList_store4 (b:=w.heap.size+1+1) (o:=7) (cs':=opCells 2 g0 true false r.plain g0 sc d sym st 0 0 e0 e0 0) rfl rfl rfl rfl k3 (by simp [opCells]) (by kernel_rfl) (by simp [Value.oneCell']) rfl ?_;intro w5 hb5 hf5))
 have hF1:=(hF0.then_new s3 (fun x hx e=>by omega)).then_new hf5 (fun x hx e=>by omega)
 replace k0:=hf5.heap k0' (by omega)
 replace k1:=hf5.heap k1' (by omega)
 replace k2:=hb5
 clear c0 c2 z2 k3 k0' k1' s3 l0 l1 l2 hf5 hb5
 have l0:=lt_of_heap k0
 have l1:=lt_of_heap k1
 have l2:=lt_of_heap k2
 have c0:=fun j=>cell_of_row _ _ j _ _ (0,0) k0
 go_wp2_with fail
 refine (hI _ hF1).mono ?_
 rintro e w4' ⟨rfl,hf4⟩
 replace k0:=hf4.heap k0 (fun x=>x)
 replace k1:=hf4.heap k1 (fun x=>x)
 replace k2:=hf4.heap k2 (fun x=>x)
 replace hF1:=hF1.then hf4
 clear c0 hf4
 replace l0:=lt_of_heap k0
 replace l1:=lt_of_heap k1
 replace l2:=lt_of_heap k2
 have c0:=fun j=>cell_of_row _ _ j _ _ (0,0) k0
 have c2:=fun j=>cell_of_row _ _ j _ _ (0,0) k2
 have z2:=frozen_row k2
 have s3:Fr (fun x=>x=w.heap.size+1+1) w4' (w4'.setCell ⟨w.heap.size+1+1,6,none⟩ (.bool true)):=(Fr.refl (fun x=>x=w.heap.size+1+1) w4').setCell (.inl rfl) _
 have k3:=setCell_heap (k:=6) k2 (.bool true)
 have k0':=s3.heap k0 (by omega)
 have k1':=s3.heap k1 (by omega)
 unfold G.agg
 go_upto_region 6 with (first
  | (refine wpList_store4 (b:=w.heap.size+1+1) (o:=11) (cs':=opCells 2 g0 true true r.plain q.plain sc d sym st 0 0 e0 e0 0) rfl rfl rfl rfl k3 (by simp [opCells]) (by kernel_rfl) (by simp [Value.oneCell']) rfl ?_;intro w6 hb6 hf6))
 have hF2:=(hF1.then_new s3 (fun x hx e=>by omega)).then_new hf6 (fun x hx e=>by omega)
 replace k0:=hf6.heap k0' (by omega)
 replace k1:=hf6.heap k1' (by omega)
 replace k2:=hb6
 clear c0 c2 z2 k3 k0' k1' s3 l0 l1 l2 hf6 hb6
 have l0:=lt_of_heap k0
 have l1:=lt_of_heap k1
 have l2:=lt_of_heap k2
 have c0:=fun j=>cell_of_row _ _ j _ _ (0,0) k0
 go_wp2_with (first
  | (refine wpList_loadRow (b:=w.heap.size+1+1) rfl rfl rfl k2 Tryz.underlying83 rfl (by kernel_rfl) ?_)
  | (refine wpList_storeRow (b:=w.heap.size+1) rfl rfl rfl rfl k1 rfl (by kernel_rfl) (opCells_one _ _ _ _ _ _ _ _ _ _ _ _ _ _ _) ?_;intro w9 hb9 hf9))
 refine bodyPost_ret (results_cell_row rfl _ _ (w.heap.size+1) _ _ _ _ rfl hb9 Tryz.underlying83 rfl (by kernel_rfl)) rfl ⟨rfl,hF2.then_new hf9 (fun x hx e=>by omega)⟩
theorem plainMem_calls (w:World) (m:M) (hm:∀ r∈m.regs,r.At w):Calls Tryz.prog 172 #[m.agg] w fun e w'=>e = .returned (.agg m.pcells)∧Fr nope w w':=by
 cases hb:m.base with
 | none=>
  cases hi:m.index with
  | none=>exact plainMem_00 w m hb hi
  | some q=>exact plainMem_01 w m q hb hi (hm q (by simp [M.regs,hi]))
 | some r=>
  cases hi:m.index with
  | none=>exact plainMem_10 w m r hb (hm r (by simp [M.regs,hb])) hi
  | some q=>exact plainMem_11 w m r q hb (hm r (by simp [M.regs,hb])) hi (hm q (by simp [M.regs,hi]))
end
section
open Go Go.RowKit Bth
set_option maxRecDepth 100000
def O.pcells:O→Array Value
 | .reg r=>opCells 1 r.plain false false g0 g0 0 0 e0 false 0 0 e0 e0 0
 | .mem m=>m.pcells
 | .con c=>opCells 3 g0 false false g0 g0 0 0 e0 false c.k.num c.bits c.text e0 0
 | .label s=>opCells 4 g0 false false g0 g0 0 0 e0 false 0 0 e0 s 0
 | .rel n=>opCells 5 g0 false false g0 g0 0 0 e0 false 0 0 e0 e0 n
def GivesPO (w:World) (o:O) (e:Ending) (w':World):Prop:=e = .returned (.agg o.pcells)∧Fr nope w w'
set_option maxHeartbeats 4000000 in
theorem plainOp_reg (w:World) (r:R) (hat:r.At w):Calls Tryz.prog 138 #[O.val (.reg r)] w (GivesPO w (.reg r)):=by
 have h1:∀ W,(Instr.typeAssert (O.val (.reg r)) 199 155 true).run Tryz.prog W = .ok (.tuple #[r.val,.bool true]) W:=fun W=>O.ta_Register W _ (.reg r)
 have hR:=fun W (hW:Fr nope w W)=>plainReg_calls W r (hat.nope hW)
 simp only [O.val] at h1 ⊢
 unfold GivesPO
 obtain ⟨T,v,hrv⟩:=r.val_iface
 rw [hrv] at h1 hR ⊢
 simp only [O.pcells]
 have hp:r.plain.agg = .agg #[.bool r.plain.virt,.int .u8 (r.plain.kind:Int),.int .u16 (r.plain.idx:Int),.int .u16 (r.plain.spec:Int)]:=rfl
 go_enter Tryz.func138,Tryz.ntmps138
 go_wp2_with fail
 refine (hR _ ((Fr.refl _ _).alloc _)).mono ?_
 rintro e w1 ⟨rfl,hf1⟩
 have k1:=hf1.heap (heap_alloc_new w _) (fun x=>x)
 have hF:=((Fr.refl nope w).alloc _).then hf1
 have l1:=lt_of_heap k1
 rw [hp]
 go_wp2_with (first
  | (refine wpList_storeRow (b:=w.heap.size) (cells:=opCells 1 r.plain false false g0 g0 0 0 e0 false 0 0 e0 e0 0) rfl rfl rfl rfl k1 rfl (by kernel_rfl) (opCells_one _ _ _ _ _ _ _ _ _ _ _ _ _ _ _) ?_;intro w9 hb9 hf9))
 refine bodyPost_ret (results_cell_row rfl _ _ w.heap.size _ _ _ _ rfl hb9 Tryz.underlying83 rfl (by kernel_rfl)) rfl ⟨rfl,hF.then_new hf9 (fun x hx e=>by omega)⟩
set_option maxHeartbeats 4000000 in
theorem plainOp_mem (w:World) (m:M) (hm:∀ r∈m.regs,r.At w):Calls Tryz.prog 138 #[O.val (.mem m)] w (GivesPO w (.mem m)):=by
 have h1:∀ W,(Instr.typeAssert (O.val (.mem m)) 199 155 true).run Tryz.prog W = .ok (.tuple #[.nilIface,.bool false]) W:=fun W=>O.ta_Register W _ (.mem m)
 have h2:∀ W,(Instr.typeAssert (O.val (.mem m)) 199 260 true).run Tryz.prog W = .ok (.tuple #[m.agg,.bool true]) W:=fun W=>O.ta_Mem W _ (.mem m)
 have hR:=fun W (hW:Fr nope w W)=>plainMem_calls W m (fun r hr=>(hm r hr).nope hW)
 simp only [O.val] at h1 h2 ⊢
 unfold GivesPO
 simp only [O.pcells]
 have hp1:m.pcells.size=24:=rfl
 have hp2:m.pcells.all (·.oneCell')=true:=opCells_one _ _ _ _ _ _ _ _ _ _ _ _ _ _ _
 generalize m.pcells=pc at *
 obtain ⟨sym,st,d,x,y,sc⟩:=m
 have hcx:=optV_cases x
 have hcy:=optV_cases y
 rw [M.agg] at h1 h2 hR ⊢
 simp only at h1 h2 hR ⊢
 clear hm
 generalize optV x=vx at h1 h2 hR hcx ⊢
 generalize optV y=vy at h1 h2 hR hcy ⊢
 rcases hcx with rfl | ⟨Tx,ux,rfl⟩<;>rcases hcy with rfl | ⟨Ty,uy,rfl⟩
 all_goals
  go_enter Tryz.func138,Tryz.ntmps138
  go_wp2_with fail
  refine (hR _ (((Fr.refl _ _).alloc _).alloc _)).mono ?_
  rintro e w1 ⟨rfl,hf1⟩
  have k1:=hf1.heap (((Fr.refl nope (w.alloc _)).alloc _).heap (heap_alloc_new w _) (fun x=>x)) (fun x=>x)
  have hF:=(((Fr.refl nope w).alloc _).alloc _).then hf1
  have l1:=lt_of_heap k1
  go_wp2_with (first
   | (refine wpList_storeRow (b:=w.heap.size) (cells:=pc) rfl rfl rfl rfl k1 hp1.symm (by rw [hp1];kernel_rfl) hp2 ?_;intro w9 hb9 hf9))
  refine bodyPost_ret (results_cell_row rfl _ _ w.heap.size _ _ _ _ rfl hb9 Tryz.underlying83 rfl (by kernel_rfl)) rfl ⟨rfl,hF.then_new hf9 (fun x hx e=>by omega)⟩
set_option maxHeartbeats 4000000 in
theorem plainOp_con (w:World) (c:C):Calls Tryz.prog 138 #[O.val (.con c)] w (GivesPO w (.con c)):=by
 have h1:∀ W,(Instr.typeAssert (O.val (.con c)) 199 155 true).run Tryz.prog W = .ok (.tuple #[.nilIface,.bool false]) W:=fun W=>O.ta_Register W _ (.con c)
 have h2:∀ W,(Instr.typeAssert (O.val (.con c)) 199 260 true).run Tryz.prog W = .ok (.tuple #[.agg #[.string ⟨#[]⟩,.bool false,.int .i64 0,.nilIface,.nilIface,.int .u8 0],.bool false]) W:=fun W=>O.ta_Mem W _ (.con c)
 have h3:∀ W,(Instr.typeAssert (O.val (.con c)) 199 262 true).run Tryz.prog W = .ok (.tuple #[O.val (.con c),.bool true]) W:=fun W=>O.ta_Constant W _ (.con c)
 have hC:=fun W=>plainConstant_calls W c
 unfold GivesPO
 simp only [O.pcells]
 unfold C.pc at hC
 obtain ⟨T,v,hv⟩:=(O.con c).val_iface
 rw [hv] at h1 h2 h3 hC ⊢
 go_enter Tryz.func138,Tryz.ntmps138
 go_wp2_with fail
 refine (hC _).mono ?_
 rintro e w1 ⟨rfl,hf1⟩
 have k1:=hf1.heap (heap_alloc_new w _) (fun x=>x)
 have hF:=((Fr.refl nope w).alloc _).then hf1
 have l1:=lt_of_heap k1
 go_wp2_with (first
  | (refine wpList_storeRow (b:=w.heap.size) (cells:=opCells 3 g0 false false g0 g0 0 0 e0 false c.k.num c.bits c.text e0 0) rfl rfl rfl rfl k1 rfl (by kernel_rfl) (opCells_one _ _ _ _ _ _ _ _ _ _ _ _ _ _ _) ?_;intro w9 hb9 hf9))
 refine bodyPost_ret (results_cell_row rfl _ _ w.heap.size _ _ _ _ rfl hb9 Tryz.underlying83 rfl (by kernel_rfl)) rfl ⟨rfl,hF.then_new hf9 (fun x hx e=>by omega)⟩
set_option maxHeartbeats 4000000 in
theorem plainOp_label (w:World) (s:ByteArray):Calls Tryz.prog 138 #[O.val (.label s)] w (GivesPO w (.label s)):=by
 have h1:∀ W,(Instr.typeAssert (O.val (.label s)) 199 155 true).run Tryz.prog W = .ok (.tuple #[.nilIface,.bool false]) W:=fun W=>O.ta_Register W _ (.label s)
 have h2:∀ W,(Instr.typeAssert (O.val (.label s)) 199 260 true).run Tryz.prog W = .ok (.tuple #[.agg #[.string ⟨#[]⟩,.bool false,.int .i64 0,.nilIface,.nilIface,.int .u8 0],.bool false]) W:=fun W=>O.ta_Mem W _ (.label s)
 have h3:∀ W,(Instr.typeAssert (O.val (.label s)) 199 262 true).run Tryz.prog W = .ok (.tuple #[.nilIface,.bool false]) W:=fun W=>O.ta_Constant W _ (.label s)
 have h4:∀ W,(Instr.typeAssert (O.val (.label s)) 199 196 true).run Tryz.prog W = .ok (.tuple #[.string s,.bool true]) W:=fun W=>O.ta_LabelRef W _ (.label s)
 unfold GivesPO
 simp only [O.pcells]
 simp only [O.val] at h1 h2 h3 h4 ⊢
 have k1:∀ o,((w.alloc o).heap[w.heap.size]? = some o):=fun o=>heap_alloc_new w o
 have hF:∀ o,Fr nope w (w.alloc o):=fun o=>(Fr.refl nope w).alloc o
 go_enter Tryz.func138,Tryz.ntmps138
 go_wp2_with (first
  | (refine wpList_storeRow (b:=w.heap.size) (cells:=opCells 4 g0 false false g0 g0 0 0 e0 false 0 0 e0 s 0) rfl rfl rfl rfl (k1 _) rfl (by kernel_rfl) (opCells_one _ _ _ _ _ _ _ _ _ _ _ _ _ _ _) ?_;intro w9 hb9 hf9))
 refine bodyPost_ret (results_cell_row rfl _ _ w.heap.size _ _ _ _ rfl hb9 Tryz.underlying83 rfl (by kernel_rfl)) rfl ⟨rfl,(hF _).then_new hf9 (fun x hx e=>by omega)⟩
set_option maxHeartbeats 4000000 in
theorem plainOp_rel (w:World) (n:Int):Calls Tryz.prog 138 #[O.val (.rel n)] w (GivesPO w (.rel n)):=by
 have h1:∀ W,(Instr.typeAssert (O.val (.rel n)) 199 155 true).run Tryz.prog W = .ok (.tuple #[.nilIface,.bool false]) W:=fun W=>O.ta_Register W _ (.rel n)
 have h2:∀ W,(Instr.typeAssert (O.val (.rel n)) 199 260 true).run Tryz.prog W = .ok (.tuple #[.agg #[.string ⟨#[]⟩,.bool false,.int .i64 0,.nilIface,.nilIface,.int .u8 0],.bool false]) W:=fun W=>O.ta_Mem W _ (.rel n)
 have h3:∀ W,(Instr.typeAssert (O.val (.rel n)) 199 262 true).run Tryz.prog W = .ok (.tuple #[.nilIface,.bool false]) W:=fun W=>O.ta_Constant W _ (.rel n)
 have h4:∀ W,(Instr.typeAssert (O.val (.rel n)) 199 196 true).run Tryz.prog W = .ok (.tuple #[.string ⟨#[]⟩,.bool false]) W:=fun W=>O.ta_LabelRef W _ (.rel n)
 have h5:∀ W,(Instr.typeAssert (O.val (.rel n)) 199 263 true).run Tryz.prog W = .ok (.tuple #[.int .i32 n,.bool true]) W:=fun W=>O.ta_Rel W _ (.rel n)
 unfold GivesPO
 simp only [O.pcells]
 simp only [O.val] at h1 h2 h3 h4 h5 ⊢
 have k1:∀ o,((w.alloc o).heap[w.heap.size]? = some o):=fun o=>heap_alloc_new w o
 have hF:∀ o,Fr nope w (w.alloc o):=fun o=>(Fr.refl nope w).alloc o
 go_enter Tryz.func138,Tryz.ntmps138
 go_wp2_with (first
  | (refine wpList_storeRow (b:=w.heap.size) (cells:=opCells 5 g0 false false g0 g0 0 0 e0 false 0 0 e0 e0 n) rfl rfl rfl rfl (k1 _) rfl (by kernel_rfl) (opCells_one _ _ _ _ _ _ _ _ _ _ _ _ _ _ _) ?_;intro w9 hb9 hf9))
 refine bodyPost_ret (results_cell_row rfl _ _ w.heap.size _ _ _ _ rfl hb9 Tryz.underlying83 rfl (by kernel_rfl)) rfl ⟨rfl,(hF _).then_new hf9 (fun x hx e=>by omega)⟩
theorem plainOp_calls (w:World) (o:O) (ho:o.At w):Calls Tryz.prog 138 #[o.val] w (GivesPO w o):=by
 cases o with
 | reg r=>exact plainOp_reg w r (ho r (by simp [O.regs])).2
 | mem m=>exact plainOp_mem w m fun r hr=>(ho r hr).2
 | con c=>exact plainOp_con w c
 | label s=>exact plainOp_label w s
 | rel n=>exact plainOp_rel w n
end
section
open Go Go.RowKit Bth
set_option maxRecDepth 100000
theorem set_all:∀ (l pre rest:List Value) (arr:Array Value),arr=(pre ++ rest).toArray→rest.length=l.length→(l.zipIdx pre.length).foldl (fun (cs:Array Value) (p:Value × Nat)=>cs.setIfInBounds (0+p.2) p.1) arr=(pre ++ l).toArray
 | [],pre,rest,arr,h,hl=>by
  have:rest=[]:=List.eq_nil_of_length_eq_zero (by simpa using hl)
  subst this h
  rfl
 | c :: l,pre,[],arr,h,hl=>by simp at hl
 | c :: l,pre,r :: rest,arr,h,hl=>by
  rw [List.zipIdx_cons,List.foldl_cons]
  have h1:=set_all l (pre ++ [c]) rest (arr.setIfInBounds (0+pre.length) c) (by subst h;simp) (by simpa using hl)
  rw [List.length_append,List.length_singleton] at h1
  rw [h1]
  simp
theorem fill_one {size:Nat} (zs:Array Value) (l:List Value) (hz:zs.size=size) (hl:l.length=size):Instr.fill (fun i=>some (i*size,size)) zs [(0,.agg l.toArray)]=some l.toArray:=by
 have hc:(Value.agg l.toArray).cells=l.toArray:=rfl
 unfold Instr.fill
 simp only [Nat.zero_mul,hc]
 rw [if_neg (by simp;omega)]
 unfold Instr.fill
 have h:=set_all l [] zs.toList zs (by simp) (by simp;omega)
 simp only [List.nil_append,List.length_nil] at h
 refine congrArg some (Eq.trans ?_ h)
 rw [← Array.foldl_toList]
 simp
theorem wpList_build1 {P:Program} {ops:Array Oper} {rest:List Oper} {o:Oper} {a:Act} {w:World} {Q:Exit→Act→World→Prop} (hg:o.guard=none) {t e:TypeId} {x:Operand} (ho:o.op = .buildSlice t 1 #[(0,x)])
  {l:List Value} {z:Value} {size bytes:Nat} (hx:a.eval x = .agg l.toArray) (hu:P.underlying t=some (.slice e)) (hinfo:(P.info? e).map (fun i=>(i.zero,i.size,i.bytes))=some (some z,size,bytes)) (hl:l.length=size) (hpos:0 < size) (hsm:size≤2 ^ 24)
  (h:wpList P ops Q rest (a.put o.dst (.slice (some ⟨w.heap.size,0,none⟩) 1 1)) (w.alloc (.cells l.toArray e))):wpList P ops Q (o :: rest) a w:=by
 obtain ⟨ie,hi,hzz⟩:=Option.map_eq_some_iff.1 hinfo
 simp only [Prod.mk.injEq] at hzz
 obtain ⟨h1,h2,h3⟩:=hzz
 refine wpList_buildSlice hg t e 1 _ ho l.toArray ie z hu hi h1 (by omega) (by omega) ?_ h
 have:=fill_one ((Array.range (1*ie.size)).map (z.cells[· % z.cells.size]!)) l (size:=ie.size) (by simp) (by omega)
 simpa [hx] using this
end
section
open Go Go.RowKit Bth
set_option maxRecDepth 100000
def opsCells (os:List O):List Value:=os.flatMap fun o=>o.pcells.toList
theorem O.pcells_size (o:O):o.pcells.size=24:=by cases o<;>rfl
theorem O.pcells_one (o:O):o.pcells.all (·.oneCell')=true:=by cases o<;>exact opCells_one _ _ _ _ _ _ _ _ _ _ _ _ _ _ _
theorem infoPOp:(Tryz.prog.info? 83).map (fun i=>(i.zero,i.size,i.bytes))=some (some (.agg (opCells 0 g0 false false g0 g0 0 0 e0 false 0 0 e0 e0 0)),24,120):=by kernel_rfl
theorem opsCells_take {os:List O} {k:Nat} {o:O} (h:os[k]? = some o):opsCells (os.take (k+1))=opsCells (os.take k) ++ o.pcells.toList:=by
 unfold opsCells
 rw [List.take_add_one,h,List.flatMap_append]
 simp
def GivesPOs (w:World) (os:List O) (e:Ending) (w':World):Prop:=Fr nope w w'∧∃ A c,e = .returned (.slice A os.length c)∧w'.ownsRow w.heap.size 83 24 (.slice A os.length c) os.length (opsCells os)
theorem plainOps_calls (w:World) (os:List O) (A:Option Addr) (c:Nat) (hS:Sl w A os.length (os.map O.val)) (ho:∀ o∈os,o.At w) (hl:os.length≤1048576):
  Calls Tryz.prog 102 #[.slice A os.length c] w (GivesPOs w os):=by
 go_enter Tryz.func102,Tryz.ntmps102
 go_wp2
 go_loopg [3,8] os.length (fun n c3 c8 wr=>∃ (k:Nat) (A2:Option Addr) (c2:Nat),k≤os.length∧c8 = .int .i64 (k:Int)∧c3 = .slice A2 k c2∧wr.ownsRow w.heap.size 83 24 (.slice A2 k c2) k (opsCells (os.take k))∧Fr nope w wr∧n=os.length - k)
 case atStart=>exact ⟨0,none,0,Nat.zero_le _,rfl,rfl,own_nil _ _ _ _,Fr.refl _ _,rfl⟩
 case round=>
  obtain ⟨k,A2,c2,hk,rfl,rfl,hown,hf,rfl⟩:=hrel
  by_cases hlt:k < os.length
  ·obtain ⟨b0,off,u,hAe,hbl,hu,hc⟩:=(hS.nope hf).at_ hlt
   rw [List.getElem?_map] at hu
   obtain ⟨o,hok,rfl⟩:=Option.map_eq_some_iff.1 hu
   have hT:=opsCells_take hok
   have hP:=fun W (hW:Fr nope wr W)=>plainOp_calls W o (fun r hr=>⟨(ho o (List.mem_of_getElem? hok) r hr).1,((ho o (List.mem_of_getElem? hok) r hr).2.nope hf).nope hW⟩)
   have hsz:=o.pcells_size
   have hone:=o.pcells_one
   obtain ⟨T,v,hv⟩:=o.val_iface
   unfold GivesPO at hP
   rw [hv] at hP hc
   generalize o.pcells=pc at hT hP hsz hone
   replace hT:=Lib.hid hT
   replace hv:=Lib.hid hv
   replace hok:=Lib.hid hok
   subst hAe
   clear hu
   go_wp2_with fail
   refine (hP _ (Fr.refl _ _)).mono ?_
   rintro e w1 ⟨rfl,hf1⟩
   have hown1:=own_fr hown hf1 (fun _ _ x=>x)
   have hsz1:=hf1.size
   have hw:=hf.size
   obtain ⟨pl⟩:=pc
   replace hsz:pl.length=24:=hsz
   replace hone:∀ u∈pl,u.oneCell'=true:=fun u hu=>Array.all_eq_true_iff_forall_mem.1 hone u (by simpa using hu)
   replace hsz:=Lib.hid hsz
   go_wp2_with (first
    | (refine wpList_build1 (l:=pl) (z:=.agg (opCells 0 g0 false false g0 g0 0 0 e0 false 0 0 e0 e0 0)) rfl rfl rfl Tryz.underlying44 infoPOp hsz.out (by omega) (by decide) ?_)
    | refine wpList_app (v:=.slice A2 k c2) rfl rfl Tryz.underlying44 infoPOp rfl (by omega) rfl (own_fr hown1 ((Fr.refl nope _).alloc _) (fun _ _ x=>x)) rfl (news:=pl) (by rw [hsz.out]) (fun _=>cells_new _ _ _ _ (by simp)) hone (by simp only [maxLen];omega) (by omega) (by simp;omega) ?hk)
   case hk=>
    intro v3 w3 hown3 hf3 hb3
    obtain ⟨A3,c3,rfl,_,_⟩:=own_slice hown3
    clear hb3
    go_wp2
    go_roundg (os.length - (k+1))
    case measure=>omega
    case rel=>
     have hbs:∀ x,Value.ownBlock (.slice A2 k c2)=some x→w.heap.size≤x:=own_base hown
     exact ⟨k+1,A3,c3,by omega,by go_num,rfl,by rw [hT.out];exact hown3,((hf.then hf1).alloc _).then_new hf3 (fun x hx e=>by have:=hbs x e;omega),rfl⟩
  ·have hke:k=os.length:=by omega
   subst hke
   rw [List.take_length] at hown
   go_wp2
   go_ret
   exact ⟨hf,A2,c2,rfl,hown⟩
end
section
open Go Go.RowKit Bth
set_option maxRecDepth 100000
theorem G.kind_id {g:G} (ok:g.Ok):kindOf g.id=g.kind:=by
 have:=ok.kind
 have:=ok.idx
 unfold kindOf G.id
 cases g.virt<;>simp<;>omega
theorem G.virt_id {g:G} : isV g.id=g.virt:=by
 unfold isV G.id
 cases g.virt<;>simp<;>omega
theorem ColorP.spec {is:List PI} {sc:Nat→List (Option Nat)} {k:Nat} {f:Nat→Option Nat} (h:ColorP is sc k (some f)):
  (∀ e,edgesP is sc k e→lk f e.1=lk f e.2→isV (lk f e.1)=true)∧(∀ v,isV v=true→toldOf (addsP is k) (edgesP is sc k) v→∃ p,f v=some p∧p∈regsK k)∧(∀ v,f v≠none→∃ p,f v=some p∧p∈regsK k)∧∀ v,isV v=false→f v=none:=by
 obtain ⟨E,rem,h1,h2,h3,h4⟩:=h
 obtain ⟨s1,s2,s3⟩:=color_spec _ rem _ f h2 h4.symm
 have hn:∀ v,f v≠none→v∈rem:=fun v hv=>Classical.byContradiction fun hn=>hv (s2 v hn)
 refine ⟨fun e he=>clash_iff.1 s1 e ((h1 e).2 he),fun v hv ht=>s3 v ((h3 v).2 ⟨hv,ht⟩),fun v hv=>s3 v (hn v hv),fun v hv=>Classical.byContradiction fun hne=>?_⟩
 have:=((h3 v).1 (hn v hne)).1
 rw [hv] at this;cases this
theorem regsK_mem {k p:Nat} (hk:k≤3) (h:p∈regsK k):isV p=false∧p < 4294967296∧kindOf p=k:=(regsK_facts k (by omega)).2.2.2.2.1 p h
theorem af_given {ns:List PN} {f:Nat→Option Nat} (h:AFRes ns (some f)) (hk:∀ k,kindsP (insP ns) k→k≤3):∀ v p,f v=some p→isV v=true∧isV p=false∧p < 4294967296∧kindOf p=kindOf v:=by
 obtain ⟨sc,fk,hG,hc,hf⟩:=h
 intro v p hv
 by_cases hkv:kindsP (insP ns) (kindOf v)
 ·have e:=(hf v).1 hkv
  have h3:=hk _ hkv
  obtain ⟨_,_,s3,s4⟩:=(hc _ hkv).spec
  obtain ⟨q,hq,hm⟩:=s3 v (by rw [← e,hv];simp)
  rw [← e,hv] at hq
  injection hq with hq
  subst hq
  refine ⟨?_,regsK_mem h3 hm⟩
  cases hvv:isV v with
  | true=>rfl
  | false=>rw [e,s4 v hvv] at hv;cases hv
 ·rw [(hf v).2 hkv] at hv;cases hv
theorem af_apart {ns:List PN} {f:Nat→Option Nat} (h:AFRes ns (some f)) (hok:AFOk ns):∃ sc,GraphP ns sc∧∀ (i:Nat) (p:PI) (g:G) (c b:Nat),(insP ns)[i]? = some p→g∈outGs p.out→c≠g.id→LiveOutP (insP ns) sc i c b→g.spec.testBit b=true→lk f c≠lk f g.id:=by
 have hk3:∀ k,kindsP (insP ns) k→k≤3:=by
  rintro k ⟨p,hp,g,hg,rfl⟩
  exact hok.kinds p hp g hg
 have hgv:=af_given h hk3
 obtain ⟨sc,fk,hG,hc,hf⟩:=h
 refine ⟨sc,hG,fun i p g c b hp hg hne hl hb heq=>?_⟩
 have hpm:=List.mem_of_getElem? hp
 have hgo:g.Ok:=gsOf_ok (hok.ops p hpm).out g (outGs_mem hg)
 have hlkk:∀ v,kindOf (lk f v)=kindOf v:=fun v=>by
  unfold lk
  cases hv:f v with
  | none=>rfl
  | some q=>exact (hgv v q hv).2.2.2
 have hke:kindOf c=g.kind:=by
  have:=congrArg kindOf heq
  rw [hlkk,hlkk,G.kind_id hgo] at this
  exact this
 have hkk:=hok.outs p hpm g hg
 have hE:edgesP (insP ns) sc g.kind (g.id,c):=⟨i,p,g,hp,hg,rfl,rfl,hne,hke,b,hl,hb⟩
 obtain ⟨s1,s2,s3,s4⟩:=(hc _ hkk).spec
 have f1:f g.id=fk g.kind g.id:=by
  have:=(hf g.id).1 (by rw [G.kind_id hgo];exact hkk)
  rwa [G.kind_id hgo] at this
 have f2:f c=fk g.kind c:=by
  have:=(hf c).1 (by rw [hke];exact hkk)
  rwa [hke] at this
 have e1:lk f g.id=lk (fk g.kind) g.id:=by unfold lk;rw [f1]
 have e2:lk f c=lk (fk g.kind) c:=by unfold lk;rw [f2]
 have h1:=s1 _ hE (by show lk (fk g.kind) g.id=lk (fk g.kind) c;rw [← e1,← e2,heq])
 have h2:isV (lk (fk g.kind) g.id)=false:=by
  cases hv:isV g.id with
  | false=>unfold lk;rw [s4 _ hv];exact hv
  | true=>
   obtain ⟨q,hq,hm⟩:=s2 g.id hv (.inr ⟨_,hE,.inl rfl⟩)
   unfold lk
   rw [hq]
   exact (regsK_mem (hk3 _ hkk) hm).1
 have h1:isV (lk (fk g.kind) g.id)=true:=h1
 rw [h2] at h1
 cases h1
def PI.gs (p:PI):List G:=gsOf p.ops ++ gsOf p.inp ++ gsOf p.out
def FewP (is:List PI):Prop:=∃ L:Nat→List Nat,(∀ k,(L k).length≤4)∧L 0=[]∧∀ p∈is,∀ g∈p.gs,g.id∈L g.kind
theorem regsK_len:∀ k,1≤k→k≤3→4 < (regsK k).length:=by
 intro k h1 h3
 rcases k with _ | _ | _ | _ | k<;>first | omega | decide
theorem af_few {ns:List PN} (hok:AFOk ns) (hg:∃ sc,GraphP ns sc) (hfew:FewP (insP ns)):¬AFRes ns none:=by
 rintro (h | ⟨sc,k,hG,hk,E,rem,h1,h2,h3,h4⟩)
 ·obtain ⟨sc,hsc⟩:=hg;exact h sc hsc
 obtain ⟨L,hL,hL0,hin⟩:=hfew
 have hk3:k≤3:=by obtain ⟨p,hp,g,hgm,rfl⟩:=hk;exact hok.kinds p hp g hgm
 have hk1:1≤k:=by
  obtain ⟨p,hp,g,hgm,rfl⟩:=hk
  have:=hin p hp g (by unfold PI.gs;simp [hgm])
  rcases Nat.eq_zero_or_pos g.kind with h0 | h0
  ·rw [h0,hL0] at this;cases this
  ·exact h0
 have hEL:∀ e∈E,e.1∈L k∧e.2∈L k∧e.1≠e.2:=fun e he=>by
  obtain ⟨i,p,g,hp,hgm,rfl,e1,hne,hke,b,hl,_⟩:=(h1 e).1 he
  have hpm:=List.mem_of_getElem? hp
  refine ⟨?_,?_,fun h=>hne (by rw [← h,e1])⟩
  ·rw [e1];exact hin p hpm g (by unfold PI.gs;simp [outGs_mem hgm])
  ·obtain ⟨q,hq,h5⟩:=List.mem_flatMap.1 (live_sup hl)
   obtain ⟨g',hg',h6⟩:=List.mem_map.1 h5
   have hg'm:g'∈q.gs:=by unfold PI.gs;rcases inGs_mem hg' with h | h<;>simp [h]
   have hg'o:g'.Ok:=by
    rcases inGs_mem hg' with h | h
    ·exact gsOf_ok (hok.ops q hq).inp g' h
    ·exact gsOf_ok (hok.ops q hq).out g' h
   have h7:=hin q hq g' hg'm
   have h8:g'.kind=g.kind:=by rw [← hke,← h6,G.kind_id hg'o]
   rw [h8,h6] at h7
   exact h7
 obtain ⟨al',hal⟩:=color_easy (edges:=E) (regsK_facts k (by omega)).2.2.1 (fun v=>(L k).filter (· != v))
  (fun e he=>by
   obtain ⟨g1,g2,g3⟩:=hEL e he
   simp only [List.mem_filter,bne_iff_ne,ne_eq]
   exact ⟨⟨g2,fun h=>g3 h.symm⟩,g1,g3⟩)
  (fun e he=>(hEL e he).2.2) (rem.length+1) rem (fun _=>none) h2 (Nat.lt_succ_self _)
  (fun v _=>Nat.lt_of_le_of_lt (Nat.le_trans (List.length_filter_le _ _) (hL k)) (regsK_len k hk1 hk3))
  (clash_iff.2 fun e he heq=>absurd heq (hEL e he).2.2)
 rw [hal] at h4
 cases h4
end
end Go.Proofs.YtbgblfiapecioaaGreat
