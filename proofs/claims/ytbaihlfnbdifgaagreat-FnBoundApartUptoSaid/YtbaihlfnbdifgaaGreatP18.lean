/- Part of the proof of boundApart_upto. -/
import Derived.Test.YtbaihlfnbdifgaaGreatP05
import Derived.Test.YtbaihlfnbdifgaaGreatP09
import Derived.Test.YtbaihlfnbdifgaaGreatP10
import Derived.Test.YtbaihlfnbdifgaaGreatP13
import Derived.Test.YtbaihlfnbdifgaaGreatP17
namespace Go.Proofs.YtbaihlfnbdifgaaGreat
section
open Go Go.RowKit Bth
set_option maxRecDepth 100000
def O.pcells : O → Array Value
  | .reg r => opCells 1 r.plain false false g0 g0 0 0 e0 false 0 0 e0 e0 0
  | .mem m => m.pcells
  | .con c => opCells 3 g0 false false g0 g0 0 0 e0 false c.k.num c.bits c.text e0 0
  | .label s => opCells 4 g0 false false g0 g0 0 0 e0 false 0 0 e0 s 0
  | .rel n => opCells 5 g0 false false g0 g0 0 0 e0 false 0 0 e0 e0 n
def GivesPO (w : World) (o : O) (e : Ending) (w' : World) : Prop := e = .returned (.agg o.pcells) ∧ Fr nope w w'
set_option maxHeartbeats 4000000 in
theorem plainOp_reg (w : World) (r : R) (hat : r.At w) : Calls Tryz.prog 155 #[O.val (.reg r)] w (GivesPO w (.reg r)) := by
  have h1 : ∀ W, (Instr.typeAssert (O.val (.reg r)) 175 147 true).run Tryz.prog W = .ok (.tuple #[r.val, .bool true]) W := fun W => O.ta_Register W _ (.reg r)
  have hR := fun W (hW : Fr nope w W) => plainReg_calls W r (hat.nope hW)
  simp only [O.val] at h1 ⊢
  unfold GivesPO
  obtain ⟨T, v, hrv⟩ := r.val_iface
  rw [hrv] at h1 hR ⊢
  simp only [O.pcells]
  have hp : r.plain.agg = .agg #[.bool r.plain.virt, .int .u8 (r.plain.kind : Int), .int .u16 (r.plain.idx : Int), .int .u16 (r.plain.spec : Int)] := rfl
  go_enter Tryz.func155, Tryz.ntmps155
  go_wp2_with fail
  refine (hR _ ((Fr.refl _ _).alloc _)).mono ?_
  rintro e w1 ⟨rfl, hf1⟩
  have k1 := hf1.heap (heap_alloc_new w _) (fun x => x)
  have hF := ((Fr.refl nope w).alloc _).then hf1
  have l1 := lt_of_heap k1
  rw [hp]
  go_wp2_with (first
    | (refine wpList_storeRow (b := w.heap.size) (cells := opCells 1 r.plain false false g0 g0 0 0 e0 false 0 0 e0 e0 0) rfl rfl rfl rfl k1 rfl (by kernel_rfl) (opCells_one _ _ _ _ _ _ _ _ _ _ _ _ _ _ _) ?_; intro w9 hb9 hf9))
  refine bodyPost_ret (results_cell_row rfl _ _ w.heap.size _ _ _ _ rfl hb9 Tryz.underlying65 rfl (by kernel_rfl)) rfl ⟨rfl, hF.then_new hf9 (fun x hx e => by omega)⟩
set_option maxHeartbeats 4000000 in
theorem plainOp_mem (w : World) (m : M) (hm : ∀ r ∈ m.regs, r.At w) : Calls Tryz.prog 155 #[O.val (.mem m)] w (GivesPO w (.mem m)) := by
  have h1 : ∀ W, (Instr.typeAssert (O.val (.mem m)) 175 147 true).run Tryz.prog W = .ok (.tuple #[.nilIface, .bool false]) W := fun W => O.ta_Register W _ (.mem m)
  have h2 : ∀ W, (Instr.typeAssert (O.val (.mem m)) 175 245 true).run Tryz.prog W = .ok (.tuple #[m.agg, .bool true]) W := fun W => O.ta_Mem W _ (.mem m)
  have hR := fun W (hW : Fr nope w W) => plainMem_calls W m (fun r hr => (hm r hr).nope hW)
  simp only [O.val] at h1 h2 ⊢
  unfold GivesPO
  simp only [O.pcells]
  have hp1 : m.pcells.size = 24 := rfl
  have hp2 : m.pcells.all (·.oneCell') = true := opCells_one _ _ _ _ _ _ _ _ _ _ _ _ _ _ _
  generalize m.pcells = pc at *
  obtain ⟨sym, st, d, x, y, sc⟩ := m
  have hcx := optV_cases x
  have hcy := optV_cases y
  rw [M.agg] at h1 h2 hR ⊢
  simp only at h1 h2 hR ⊢
  clear hm
  generalize optV x = vx at h1 h2 hR hcx ⊢
  generalize optV y = vy at h1 h2 hR hcy ⊢
  rcases hcx with rfl | ⟨Tx, ux, rfl⟩ <;> rcases hcy with rfl | ⟨Ty, uy, rfl⟩
  all_goals
    go_enter Tryz.func155, Tryz.ntmps155
    go_wp2_with fail
    refine (hR _ (((Fr.refl _ _).alloc _).alloc _)).mono ?_
    rintro e w1 ⟨rfl, hf1⟩
    have k1 := hf1.heap (((Fr.refl nope (w.alloc _)).alloc _).heap (heap_alloc_new w _) (fun x => x)) (fun x => x)
    have hF := (((Fr.refl nope w).alloc _).alloc _).then hf1
    have l1 := lt_of_heap k1
    go_wp2_with (first
      | (refine wpList_storeRow (b := w.heap.size) (cells := pc) rfl rfl rfl rfl k1 hp1.symm (by rw [hp1]; kernel_rfl) hp2 ?_; intro w9 hb9 hf9))
    refine bodyPost_ret (results_cell_row rfl _ _ w.heap.size _ _ _ _ rfl hb9 Tryz.underlying65 rfl (by kernel_rfl)) rfl ⟨rfl, hF.then_new hf9 (fun x hx e => by omega)⟩
set_option maxHeartbeats 4000000 in
theorem plainOp_con (w : World) (c : C) : Calls Tryz.prog 155 #[O.val (.con c)] w (GivesPO w (.con c)) := by
  have h1 : ∀ W, (Instr.typeAssert (O.val (.con c)) 175 147 true).run Tryz.prog W = .ok (.tuple #[.nilIface, .bool false]) W := fun W => O.ta_Register W _ (.con c)
  have h2 : ∀ W, (Instr.typeAssert (O.val (.con c)) 175 245 true).run Tryz.prog W = .ok (.tuple #[.agg #[.string ⟨#[]⟩, .bool false, .int .i64 0, .nilIface, .nilIface, .int .u8 0], .bool false]) W := fun W => O.ta_Mem W _ (.con c)
  have h3 : ∀ W, (Instr.typeAssert (O.val (.con c)) 175 254 true).run Tryz.prog W = .ok (.tuple #[O.val (.con c), .bool true]) W := fun W => O.ta_Constant W _ (.con c)
  have hC := fun W => plainConstant_calls W c
  unfold GivesPO
  simp only [O.pcells]
  unfold C.pc at hC
  obtain ⟨T, v, hv⟩ := (O.con c).val_iface
  rw [hv] at h1 h2 h3 hC ⊢
  go_enter Tryz.func155, Tryz.ntmps155
  go_wp2_with fail
  refine (hC _).mono ?_
  rintro e w1 ⟨rfl, hf1⟩
  have k1 := hf1.heap (heap_alloc_new w _) (fun x => x)
  have hF := ((Fr.refl nope w).alloc _).then hf1
  have l1 := lt_of_heap k1
  go_wp2_with (first
    | (refine wpList_storeRow (b := w.heap.size) (cells := opCells 3 g0 false false g0 g0 0 0 e0 false c.k.num c.bits c.text e0 0) rfl rfl rfl rfl k1 rfl (by kernel_rfl) (opCells_one _ _ _ _ _ _ _ _ _ _ _ _ _ _ _) ?_; intro w9 hb9 hf9))
  refine bodyPost_ret (results_cell_row rfl _ _ w.heap.size _ _ _ _ rfl hb9 Tryz.underlying65 rfl (by kernel_rfl)) rfl ⟨rfl, hF.then_new hf9 (fun x hx e => by omega)⟩
set_option maxHeartbeats 4000000 in
theorem plainOp_label (w : World) (s : ByteArray) : Calls Tryz.prog 155 #[O.val (.label s)] w (GivesPO w (.label s)) := by
  have h1 : ∀ W, (Instr.typeAssert (O.val (.label s)) 175 147 true).run Tryz.prog W = .ok (.tuple #[.nilIface, .bool false]) W := fun W => O.ta_Register W _ (.label s)
  have h2 : ∀ W, (Instr.typeAssert (O.val (.label s)) 175 245 true).run Tryz.prog W = .ok (.tuple #[.agg #[.string ⟨#[]⟩, .bool false, .int .i64 0, .nilIface, .nilIface, .int .u8 0], .bool false]) W := fun W => O.ta_Mem W _ (.label s)
  have h3 : ∀ W, (Instr.typeAssert (O.val (.label s)) 175 254 true).run Tryz.prog W = .ok (.tuple #[.nilIface, .bool false]) W := fun W => O.ta_Constant W _ (.label s)
  have h4 : ∀ W, (Instr.typeAssert (O.val (.label s)) 175 192 true).run Tryz.prog W = .ok (.tuple #[.string s, .bool true]) W := fun W => O.ta_LabelRef W _ (.label s)
  unfold GivesPO
  simp only [O.pcells]
  simp only [O.val] at h1 h2 h3 h4 ⊢
  have k1 : ∀ o, ((w.alloc o).heap[w.heap.size]? = some o) := fun o => heap_alloc_new w o
  have hF : ∀ o, Fr nope w (w.alloc o) := fun o => (Fr.refl nope w).alloc o
  go_enter Tryz.func155, Tryz.ntmps155
  go_wp2_with (first
    | (refine wpList_storeRow (b := w.heap.size) (cells := opCells 4 g0 false false g0 g0 0 0 e0 false 0 0 e0 s 0) rfl rfl rfl rfl (k1 _) rfl (by kernel_rfl) (opCells_one _ _ _ _ _ _ _ _ _ _ _ _ _ _ _) ?_; intro w9 hb9 hf9))
  refine bodyPost_ret (results_cell_row rfl _ _ w.heap.size _ _ _ _ rfl hb9 Tryz.underlying65 rfl (by kernel_rfl)) rfl ⟨rfl, (hF _).then_new hf9 (fun x hx e => by omega)⟩
set_option maxHeartbeats 4000000 in
theorem plainOp_rel (w : World) (n : Int) : Calls Tryz.prog 155 #[O.val (.rel n)] w (GivesPO w (.rel n)) := by
  have h1 : ∀ W, (Instr.typeAssert (O.val (.rel n)) 175 147 true).run Tryz.prog W = .ok (.tuple #[.nilIface, .bool false]) W := fun W => O.ta_Register W _ (.rel n)
  have h2 : ∀ W, (Instr.typeAssert (O.val (.rel n)) 175 245 true).run Tryz.prog W = .ok (.tuple #[.agg #[.string ⟨#[]⟩, .bool false, .int .i64 0, .nilIface, .nilIface, .int .u8 0], .bool false]) W := fun W => O.ta_Mem W _ (.rel n)
  have h3 : ∀ W, (Instr.typeAssert (O.val (.rel n)) 175 254 true).run Tryz.prog W = .ok (.tuple #[.nilIface, .bool false]) W := fun W => O.ta_Constant W _ (.rel n)
  have h4 : ∀ W, (Instr.typeAssert (O.val (.rel n)) 175 192 true).run Tryz.prog W = .ok (.tuple #[.string ⟨#[]⟩, .bool false]) W := fun W => O.ta_LabelRef W _ (.rel n)
  have h5 : ∀ W, (Instr.typeAssert (O.val (.rel n)) 175 255 true).run Tryz.prog W = .ok (.tuple #[.int .i32 n, .bool true]) W := fun W => O.ta_Rel W _ (.rel n)
  unfold GivesPO
  simp only [O.pcells]
  simp only [O.val] at h1 h2 h3 h4 h5 ⊢
  have k1 : ∀ o, ((w.alloc o).heap[w.heap.size]? = some o) := fun o => heap_alloc_new w o
  have hF : ∀ o, Fr nope w (w.alloc o) := fun o => (Fr.refl nope w).alloc o
  go_enter Tryz.func155, Tryz.ntmps155
  go_wp2_with (first
    | (refine wpList_storeRow (b := w.heap.size) (cells := opCells 5 g0 false false g0 g0 0 0 e0 false 0 0 e0 e0 n) rfl rfl rfl rfl (k1 _) rfl (by kernel_rfl) (opCells_one _ _ _ _ _ _ _ _ _ _ _ _ _ _ _) ?_; intro w9 hb9 hf9))
  refine bodyPost_ret (results_cell_row rfl _ _ w.heap.size _ _ _ _ rfl hb9 Tryz.underlying65 rfl (by kernel_rfl)) rfl ⟨rfl, (hF _).then_new hf9 (fun x hx e => by omega)⟩
theorem plainOp_calls (w : World) (o : O) (ho : o.At w) : Calls Tryz.prog 155 #[o.val] w (GivesPO w o) := by
  cases o with
  | reg r => exact plainOp_reg w r (ho r (by simp [O.regs])).2
  | mem m => exact plainOp_mem w m fun r hr => (ho r hr).2
  | con c => exact plainOp_con w c
  | label s => exact plainOp_label w s
  | rel n => exact plainOp_rel w n
end
section
open Go Go.RowKit Bth
set_option maxRecDepth 100000
def opsCells (os : List O) : List Value := os.flatMap fun o => o.pcells.toList
theorem O.pcells_size (o : O) : o.pcells.size = 24 := by cases o <;> rfl
theorem O.pcells_one (o : O) : o.pcells.all (·.oneCell') = true := by cases o <;> exact opCells_one _ _ _ _ _ _ _ _ _ _ _ _ _ _ _
theorem infoPOp : (Tryz.prog.info? 65).map (fun i => (i.zero, i.size, i.bytes)) = some (some (.agg (opCells 0 g0 false false g0 g0 0 0 e0 false 0 0 e0 e0 0)), 24, 120) := by kernel_rfl
theorem opsCells_take {os : List O} {k : Nat} {o : O} (h : os[k]? = some o) : opsCells (os.take (k + 1)) = opsCells (os.take k) ++ o.pcells.toList := by
  unfold opsCells
  rw [List.take_add_one, h, List.flatMap_append]
  simp
def GivesPOs (w : World) (os : List O) (e : Ending) (w' : World) : Prop := Fr nope w w' ∧ ∃ A c, e = .returned (.slice A os.length c) ∧ w'.ownsRow w.heap.size 65 24 (.slice A os.length c) os.length (opsCells os)
theorem plainOps_calls (w : World) (os : List O) (A : Option Addr) (c : Nat) (hS : Sl w A os.length (os.map O.val)) (ho : ∀ o ∈ os, o.At w) (hl : os.length ≤ 1048576) :
    Calls Tryz.prog 122 #[.slice A os.length c] w (GivesPOs w os) := by
  go_enter Tryz.func122, Tryz.ntmps122
  go_wp2
  go_loopg [3, 8] os.length (fun n c3 c8 wr => ∃ (k : Nat) (A2 : Option Addr) (c2 : Nat), k ≤ os.length ∧ c8 = .int .i64 (k : Int) ∧ c3 = .slice A2 k c2 ∧ wr.ownsRow w.heap.size 65 24 (.slice A2 k c2) k (opsCells (os.take k)) ∧ Fr nope w wr ∧ n = os.length - k)
  case atStart => exact ⟨0, none, 0, Nat.zero_le _, rfl, rfl, own_nil _ _ _ _, Fr.refl _ _, rfl⟩
  case round =>
    obtain ⟨k, A2, c2, hk, rfl, rfl, hown, hf, rfl⟩ := hrel
    by_cases hlt : k < os.length
    · obtain ⟨b0, off, u, hAe, hbl, hu, hc⟩ := (hS.nope hf).at_ hlt
      rw [List.getElem?_map] at hu
      obtain ⟨o, hok, rfl⟩ := Option.map_eq_some_iff.1 hu
      have hT := opsCells_take hok
      have hP := fun W (hW : Fr nope wr W) => plainOp_calls W o (fun r hr => ⟨(ho o (List.mem_of_getElem? hok) r hr).1, ((ho o (List.mem_of_getElem? hok) r hr).2.nope hf).nope hW⟩)
      have hsz := o.pcells_size
      have hone := o.pcells_one
      obtain ⟨T, v, hv⟩ := o.val_iface
      unfold GivesPO at hP
      rw [hv] at hP hc
      generalize o.pcells = pc at hT hP hsz hone
      replace hT := Lib.hid hT
      replace hv := Lib.hid hv
      replace hok := Lib.hid hok
      subst hAe
      clear hu
      go_wp2_with fail
      refine (hP _ (Fr.refl _ _)).mono ?_
      rintro e w1 ⟨rfl, hf1⟩
      have hown1 := own_fr hown hf1 (fun _ _ x => x)
      have hsz1 := hf1.size
      have hw := hf.size
      obtain ⟨pl⟩ := pc
      replace hsz : pl.length = 24 := hsz
      replace hone : ∀ u ∈ pl, u.oneCell' = true := fun u hu => Array.all_eq_true_iff_forall_mem.1 hone u (by simpa using hu)
      replace hsz := Lib.hid hsz
      go_wp2_with (first
        | (refine wpList_build1 (l := pl) (z := .agg (opCells 0 g0 false false g0 g0 0 0 e0 false 0 0 e0 e0 0)) rfl rfl rfl Tryz.underlying36 infoPOp hsz.out (by omega) (by decide) ?_)
        | refine wpList_app (v := .slice A2 k c2) rfl rfl Tryz.underlying36 infoPOp rfl (by omega) rfl (own_fr hown1 ((Fr.refl nope _).alloc _) (fun _ _ x => x)) rfl (news := pl) (by rw [hsz.out]) (fun _ => cells_new _ _ _ _ (by simp)) hone (by simp only [maxLen]; omega) (by omega) (by simp; omega) ?hk)
      case hk =>
        intro v3 w3 hown3 hf3 hb3
        obtain ⟨A3, c3, rfl, _, _⟩ := own_slice hown3
        clear hb3
        go_wp2
        go_roundg (os.length - (k + 1))
        case measure => omega
        case rel =>
          have hbs : ∀ x, Value.ownBlock (.slice A2 k c2) = some x → w.heap.size ≤ x := own_base hown
          exact ⟨k + 1, A3, c3, by omega, by go_num, rfl, by rw [hT.out]; exact hown3, ((hf.then hf1).alloc _).then_new hf3 (fun x hx e => by have := hbs x e; omega), rfl⟩
    · have hke : k = os.length := by omega
      subst hke
      rw [List.take_length] at hown
      go_wp2
      go_ret
      exact ⟨hf, A2, c2, rfl, hown⟩
end
section
open Go Go.RowKit Bth
set_option maxRecDepth 100000
theorem wp_storeRow {P : Program} {o : Oper} {a : Act} {w : World} {K : Act → World → Prop} {Q : Exit → Act → World → Prop} {ty : TypeId} {x y : Operand} (ho : o.op = .store ty x y)
    {b : Nat} {cells cs : Array Value} {t : TypeId} (hx : a.eval x = .pointer (some ⟨b, 0, none⟩)) (hy : a.eval y = .agg cells) (hb : w.heap[b]? = some (.cells cs t (0, 0))) (hl : cs.size = cells.size)
    (hi : (P.info? ty).map (·.size) = some cells.size) (h1 : cells.all (·.oneCell') = true)
    (h : ∀ w', w'.heap[b]? = some (.cells cells t (0, 0)) → Fr (fun x => x = b) w w' → K (a.put o.dst undef) w') : Oper.wp P o a w K Q := by
  refine wp_store_mid ty x y ho b 0 cells hx hy (fun j hj => ⟨?_, ?_⟩) hi h1 (h _ ?_ (setCells_fr _ _ _ _ (Fr.refl _ _) (.inl rfl)))
  · rw [cell_of_row w b _ _ _ (0, 0) hb]
    simp; omega
  · simp [World.frozen?, hb]
  · have := setCells_heap (b := b) (t := t) (fr := (0, 0)) cells.toList [] cs.toList w (by simpa using hl) (by simpa using hb)
    simpa using this
theorem put_sz {a a' : Act} {x : Option Nat} {v : Value} (h : a.put x v = a') {n : Nat} (hz : a.tmps.size = n) : a'.tmps.size = n := by
  subst h; cases x <;> simpa [Act.put] using hz
theorem put_df {a a' : Act} {x : Option Nat} {v : Value} (h : a.put x v = a') (hz : a.defers = []) : a'.defers = [] := by
  subst h; cases x <;> exact hz
theorem put_keep {a a' : Act} {x : Option Nat} {v : Value} (h : a.put x v = a') {d t : Nat} {u : Value} (hx : x = some d) (hn : d ≠ t) (hu : a.eval (.tmp t) = u) : a'.eval (.tmp t) = u := by
  subst h hx
  rw [← hu]
  simp only [Act.put, Act.eval, Array.getD_eq_getD_getElem?, Array.getElem?_setIfInBounds]
  rw [if_neg hn]
theorem put_new {a a' : Act} {x : Option Nat} {v : Value} (h : a.put x v = a') {d : Nat} (hx : x = some d) (hd : d < a.tmps.size) : a'.eval (.tmp d) = v := by
  subst h hx
  rw [put_eval _ _ _ _ hd, if_pos rfl]
def GivesPI (w : World) (r : Rec) (e : Ending) (w' : World) : Prop :=
  Fr nope w w' ∧ ∃ A1 c1 A2 c2 A3 c3 A4 c4 A5 c5, e = .returned (.agg #[.string r.i.opc, .slice A1 r.suf.length c1, .slice A2 r.ops.length c2, .slice A3 r.inp.length c3, .slice A4 r.out.length c4, .bool r.i.term, .bool r.i.br, .bool r.i.cond, .bool r.i.canc, .slice A5 r.isa.length c5]) ∧
    w'.ownsRow w.heap.size 9 1 (.slice A1 r.suf.length c1) r.suf.length (r.suf.map Value.string) ∧ w'.ownsRow w.heap.size 65 24 (.slice A2 r.ops.length c2) r.ops.length (opsCells r.ops) ∧
    w'.ownsRow w.heap.size 65 24 (.slice A3 r.inp.length c3) r.inp.length (opsCells r.inp) ∧ w'.ownsRow w.heap.size 65 24 (.slice A4 r.out.length c4) r.out.length (opsCells r.out) ∧
    w'.ownsRow w.heap.size 9 1 (.slice A5 r.isa.length c5) r.isa.length (r.isa.map Value.string)
structure RLens (r : Rec) : Prop where
  suf : r.suf.length ≤ 1048576
  ops : r.ops.length ≤ 1048576
  inp : r.inp.length ≤ 1048576
  out : r.out.length ≤ 1048576
  isa : r.isa.length ≤ 1048576
noncomputable def regI : Array Oper := findReg 1 (Tryz.f81.body.getD .skip)
noncomputable def oPI (i : Nat) : Oper := opAt regI i
theorem regI_get {i : Nat} (h : Nat.blt i 47 = true) : regI[i]? = some (oPI i) := opAt_get (by kernel_rfl) h
set_option maxHeartbeats 2000000 in
theorem regionI {a0 : Act} {w : World} {Q : Exit → Act → World → Prop} {S : World → Prop} {b c n1 d1 n2 d2 n3 d3 n4 d4 n5 d5 : Nat} {B1 B2 B3 B4 B5 : Option Addr} {opc : ByteArray} {t1 t2 t3 t4 : Bool} {R1 : Value → World → Prop} {R2 : Value → Value → World → Prop} {R3 : Value → Value → Value → World → Prop} {R4 : Value → Value → Value → Value → World → Prop} {R5 R6 : Value → Value → Value → Value → Value → World → Prop}
    (h0 : Bun a0 49 [(0, .pointer (some ⟨b, 0, none⟩)), (2, .pointer (some ⟨c, 0, none⟩))]) (hQ : ∀ d v c a w, Q (.panic c) (a.put d v) w → Q (.panic c) a w)
    (hS0 : S w.drew) (l0 : ∀ w', S w' → w'.cell? ⟨b, 0, none⟩ = some (.string opc)) (l1 : ∀ w', S w' → w'.cell? ⟨b, 1, none⟩ = some (.slice B1 n1 d1)) (l2 : ∀ w', S w' → w'.cell? ⟨b, 2, none⟩ = some (.slice B2 n2 d2)) (l3 : ∀ w', S w' → w'.cell? ⟨b, 3, none⟩ = some (.slice B3 n3 d3)) (l4 : ∀ w', S w' → w'.cell? ⟨b, 4, none⟩ = some (.slice B4 n4 d4)) (l5 : ∀ w', S w' → w'.cell? ⟨b, 5, none⟩ = some (.bool t1)) (l6 : ∀ w', S w' → w'.cell? ⟨b, 6, none⟩ = some (.bool t2)) (l7 : ∀ w', S w' → w'.cell? ⟨b, 7, none⟩ = some (.bool t3)) (l8 : ∀ w', S w' → w'.cell? ⟨b, 8, none⟩ = some (.bool t4)) (l9 : ∀ w', S w' → w'.cell? ⟨b, 9, none⟩ = some (.slice B5 n5 d5))
    (h1 : ∀ a K, a.eval (.tmp 10) = .slice B1 n1 d1 → (∀ x w', R1 x w' → S w' → K (a.put (oPI 8).dst x) w') → Oper.wp Tryz.prog (oPI 8) a w.drew K Q)
    (h2 : ∀ x1 w1, R1 x1 w1 → Calls Tryz.prog 122 #[.slice B2 n2 d2] w1 fun e w' => ∃ x, e = .returned x ∧ R2 x1 x w' ∧ S w')
    (h3 : ∀ x1 x2 w2, R2 x1 x2 w2 → Calls Tryz.prog 122 #[.slice B3 n3 d3] w2 fun e w' => ∃ x, e = .returned x ∧ R3 x1 x2 x w' ∧ S w')
    (h4 : ∀ x1 x2 x3 w3, R3 x1 x2 x3 w3 → Calls Tryz.prog 122 #[.slice B4 n4 d4] w3 fun e w' => ∃ x, e = .returned x ∧ R4 x1 x2 x3 x w' ∧ S w')
    (h5 : ∀ x1 x2 x3 x4 w4 a K, R4 x1 x2 x3 x4 w4 → a.eval (.tmp 46) = .slice B5 n5 d5 → (∀ x w', R5 x1 x2 x3 x4 x w' → S w' → K (a.put (oPI 44).dst x) w') → Oper.wp Tryz.prog (oPI 44) a w4 K Q)
    (h6 : ∀ x1 x2 x3 x4 x5 w5 a K, R5 x1 x2 x3 x4 x5 w5 → a.eval (.tmp 2) = .pointer (some ⟨c, 0, none⟩) → a.eval (.tmp 48) = .agg #[.string opc, x1, x2, x3, x4, .bool t1, .bool t2, .bool t3, .bool t4, x5] → (∀ w', R6 x1 x2 x3 x4 x5 w' → S w' → K (a.put (oPI 46).dst undef) w') → Oper.wp Tryz.prog (oPI 46) a w5 K Q)
    (hsl : ∀ x1 x2 x3 x4 x5 w, R5 x1 x2 x3 x4 x5 w → (∃ A n c, x1 = .slice A n c) ∧ (∃ A n c, x2 = .slice A n c) ∧ (∃ A n c, x3 = .slice A n c) ∧ (∃ A n c, x4 = .slice A n c) ∧ ∃ A n c, x5 = .slice A n c)
    (h : ∀ x1 x2 x3 x4 x5 w6 a, R6 x1 x2 x3 x4 x5 w6 → a.eval (.tmp 2) = .pointer (some ⟨c, 0, none⟩) → a.tmps.size = 49 → a.defers = [] → Q .normal a w6) : (Code.region 1 regI true).wp Tryz.prog Q a0 w := by
  refine wp_region_held_drew (S := S) (by kernel_rfl) hS0 (fun hS0 => ?_)
  rw [show regI.size = 47 from by kernel_rfl]
  refine takeQ h0 hS0 hQ 0 3 0 135 9 0 _ _ (.string opc) (by unfold isB; refine ⟨?_, ?_, ?_, ?_⟩ <;> kernel_rfl) (by kernel_rfl) rfl (insFld b 0 (by decide)) (fun w hw => by have hc := l0 _ hw; go_simp) rfl fun a0 _ h0 => ?_
  refine takeQ h0 hS0 hQ 4 7 0 135 35 1 _ _ (.slice B1 n1 d1) (by unfold isB; refine ⟨?_, ?_, ?_, ?_⟩ <;> kernel_rfl) (by kernel_rfl) rfl (insFld b 1 (by decide)) (fun w hw => by have hc := l1 _ hw; go_simp) rfl fun a0 _ h0 => ?_
  refine takeQ h0 hS0 hQ 9 12 0 135 131 2 _ _ (.slice B2 n2 d2) (by unfold isB; refine ⟨?_, ?_, ?_, ?_⟩ <;> kernel_rfl) (by kernel_rfl) rfl (insFld b 2 (by decide)) (fun w hw => by have hc := l2 _ hw; go_simp) rfl fun a0 _ h0 => ?_
  refine takeQ h0 hS0 hQ 14 17 0 135 131 3 _ _ (.slice B3 n3 d3) (by unfold isB; refine ⟨?_, ?_, ?_, ?_⟩ <;> kernel_rfl) (by kernel_rfl) rfl (insFld b 3 (by decide)) (fun w hw => by have hc := l3 _ hw; go_simp) rfl fun a0 _ h0 => ?_
  refine takeQ h0 hS0 hQ 19 22 0 135 131 4 _ _ (.slice B4 n4 d4) (by unfold isB; refine ⟨?_, ?_, ?_, ?_⟩ <;> kernel_rfl) (by kernel_rfl) rfl (insFld b 4 (by decide)) (fun w hw => by have hc := l4 _ hw; go_simp) rfl fun a0 _ h0 => ?_
  refine takeQ h0 hS0 hQ 24 27 0 135 4 5 _ _ (.bool t1) (by unfold isB; refine ⟨?_, ?_, ?_, ?_⟩ <;> kernel_rfl) (by kernel_rfl) rfl (insFld b 5 (by decide)) (fun w hw => by have hc := l5 _ hw; go_simp) rfl fun a0 _ h0 => ?_
  refine takeQ h0 hS0 hQ 28 31 0 135 4 6 _ _ (.bool t2) (by unfold isB; refine ⟨?_, ?_, ?_, ?_⟩ <;> kernel_rfl) (by kernel_rfl) rfl (insFld b 6 (by decide)) (fun w hw => by have hc := l6 _ hw; go_simp) rfl fun a0 _ h0 => ?_
  refine takeQ h0 hS0 hQ 32 35 0 135 4 7 _ _ (.bool t3) (by unfold isB; refine ⟨?_, ?_, ?_, ?_⟩ <;> kernel_rfl) (by kernel_rfl) rfl (insFld b 7 (by decide)) (fun w hw => by have hc := l7 _ hw; go_simp) rfl fun a0 _ h0 => ?_
  refine takeQ h0 hS0 hQ 36 39 0 135 4 8 _ _ (.bool t4) (by unfold isB; refine ⟨?_, ?_, ?_, ?_⟩ <;> kernel_rfl) (by kernel_rfl) rfl (insFld b 8 (by decide)) (fun w hw => by have hc := l8 _ hw; go_simp) rfl fun a0 _ h0 => ?_
  refine takeQ h0 hS0 hQ 40 43 0 135 35 9 _ _ (.slice B5 n5 d5) (by unfold isB; refine ⟨?_, ?_, ?_, ?_⟩ <;> kernel_rfl) (by kernel_rfl) rfl (insFld b 9 (by decide)) (fun w hw => by have hc := l9 _ hw; go_simp) rfl fun a0 _ h0 => ?_
  refine wpAnyH_ready (rs := [8]) (by kernel_rfl) (by simp) (AllReadyH.cons (o := oPI 8) (regI_get rfl) (fun K hK => ?_) AllReadyH.nil)
  rw [if_pos (show Region.wanted (oPI 8) _ = true from rfl)]
  refine h1 _ _ (h0.at_ 10 _ rfl) ?_
  intro x1 w1 r1 s1
  refine hK.out _ _ s1 (fun hS0 => ?_)
  replace h0 := h0.put (x := (oPI 8).dst) (by kernel_rfl) (d := 11) (by decide) x1
  refine wpAnyH_ready (rs := [13]) (by kernel_rfl) (by simp) (AllReadyH.cons (o := oPI 13) (regI_get rfl) (fun K hK => ?_) AllReadyH.nil)
  rw [if_pos (show Region.wanted (oPI 13) _ = true from rfl)]
  refine wp_callU (show (oPI 13).op = .call { callee := .value (.func 122), args := #[.tmp 15], argTypes := #[131] } from by kernel_rfl) Tryz.func122 (by kernel_rfl) (by kernel_rfl) ?_
  simp only [List.map_toArray, List.map_cons, List.map_nil, h0.at_ 15 _ rfl]
  refine (h2 x1 w1 r1).mono ?_
  rintro e w2 ⟨x2, rfl, r2, s2⟩
  refine hK.out _ _ s2 (fun hS0 => ?_)
  replace h0 := h0.put (x := (oPI 13).dst) (by kernel_rfl) (d := 16) (by decide) x2
  refine wpAnyH_ready (rs := [18]) (by kernel_rfl) (by simp) (AllReadyH.cons (o := oPI 18) (regI_get rfl) (fun K hK => ?_) AllReadyH.nil)
  rw [if_pos (show Region.wanted (oPI 18) _ = true from rfl)]
  refine wp_callU (show (oPI 18).op = .call { callee := .value (.func 122), args := #[.tmp 20], argTypes := #[131] } from by kernel_rfl) Tryz.func122 (by kernel_rfl) (by kernel_rfl) ?_
  simp only [List.map_toArray, List.map_cons, List.map_nil, h0.at_ 20 _ rfl]
  refine (h3 x1 x2 w2 r2).mono ?_
  rintro e w3 ⟨x3, rfl, r3, s3⟩
  refine hK.out _ _ s3 (fun hS0 => ?_)
  replace h0 := h0.put (x := (oPI 18).dst) (by kernel_rfl) (d := 21) (by decide) x3
  refine wpAnyH_ready (rs := [23]) (by kernel_rfl) (by simp) (AllReadyH.cons (o := oPI 23) (regI_get rfl) (fun K hK => ?_) AllReadyH.nil)
  rw [if_pos (show Region.wanted (oPI 23) _ = true from rfl)]
  refine wp_callU (show (oPI 23).op = .call { callee := .value (.func 122), args := #[.tmp 25], argTypes := #[131] } from by kernel_rfl) Tryz.func122 (by kernel_rfl) (by kernel_rfl) ?_
  simp only [List.map_toArray, List.map_cons, List.map_nil, h0.at_ 25 _ rfl]
  refine (h4 x1 x2 x3 w3 r3).mono ?_
  rintro e w4 ⟨x4, rfl, r4, s4⟩
  refine hK.out _ _ s4 (fun hS0 => ?_)
  replace h0 := h0.put (x := (oPI 23).dst) (by kernel_rfl) (d := 26) (by decide) x4
  refine wpAnyH_ready (rs := [44]) (by kernel_rfl) (by simp) (AllReadyH.cons (o := oPI 44) (regI_get rfl) (fun K hK => ?_) AllReadyH.nil)
  rw [if_pos (show Region.wanted (oPI 44) _ = true from rfl)]
  refine h5 x1 x2 x3 x4 _ _ _ r4 (h0.at_ 46 _ rfl) ?_
  intro x5 w5 r5 s5
  refine hK.out _ _ s5 (fun hS0 => ?_)
  replace h0 := h0.put (x := (oPI 44).dst) (by kernel_rfl) (d := 47) (by decide) x5
  obtain ⟨⟨A1, m1, c1, rfl⟩, ⟨A2, m2, c2, rfl⟩, ⟨A3, m3, c3, rfl⟩, ⟨A4, m4, c4, rfl⟩, ⟨A5, m5, c5, rfl⟩⟩ := hsl _ _ _ _ _ _ r5
  refine takeB h0 hS0 hQ 45 48 _ (.agg #[.string opc, .slice A1 m1 c1, .slice A2 m2 c2, .slice A3 m3 c3, .slice A4 m4 c4, .bool t1, .bool t2, .bool t3, .bool t4, .slice A5 m5 c5]) (show isB regI 45 48 (.build 38 #[(0, Operand.tmp 6), (1, Operand.tmp 11), (2, Operand.tmp 16), (3, Operand.tmp 21), (4, Operand.tmp 26), (5, Operand.tmp 30), (6, Operand.tmp 34), (7, Operand.tmp 38), (8, Operand.tmp 42), (9, Operand.tmp 47)]) from by unfold isB; kernel_rfl) (by kernel_rfl) (fun o e w hw => by
    simp only [execOp, e, List.map_toArray, List.map_cons, List.map_nil, h0.at_ 6 _ rfl, h0.at_ 11 _ rfl, h0.at_ 16 _ rfl, h0.at_ 21 _ rfl, h0.at_ 26 _ rfl, h0.at_ 30 _ rfl, h0.at_ 34 _ rfl, h0.at_ 38 _ rfl, h0.at_ 42 _ rfl, h0.at_ 47 _ rfl]
    go_simp) fun a0 _ h0 => ?_
  refine wpAnyH_ready (rs := [46]) (by kernel_rfl) (by simp) (AllReadyH.cons (o := oPI 46) (regI_get rfl) (fun K hK => ?_) AllReadyH.nil)
  rw [if_pos (show Region.wanted (oPI 46) _ = true from rfl)]
  refine h6 _ _ _ _ _ _ _ _ r5 (h0.at_ 2 _ rfl) (h0.at_ 48 _ rfl) ?_
  intro w6 r6 s6
  refine hK.out _ _ s6 (fun hS0 => ?_)
  replace h0 := h0.skip (x := (oPI 46).dst) (by kernel_rfl) undef
  exact wpAnyH_done (by kernel_rfl) (h _ _ _ _ _ _ _ r6 (h0.at_ 2 _ rfl) h0.sz h0.df) _
def OwS (lo : Nat) (l : List ByteArray) (x : Value) (w' : World) : Prop := w'.ownsRow lo 9 1 x l.length (l.map Value.string)
def OwO (lo : Nat) (l : List O) (x : Value) (w' : World) : Prop := w'.ownsRow lo 65 24 x l.length (opsCells l)
set_option maxHeartbeats 2000000 in
theorem plainInstr_calls (w : World) (r : Rec) (h : r.At w) (hn : RLens r) : Calls Tryz.prog 81 #[ptr r.b] w (GivesPI w r) := by
  have hbl := lt_of_heap h.own.at_
  obtain ⟨B1, d1, hB1, _, _⟩ := own_slice h.suf.2
  obtain ⟨B2, d2, hB2, _, _⟩ := own_slice h.own.ops
  obtain ⟨B3, d3, hB3, _, _⟩ := own_slice h.own.inp
  obtain ⟨B4, d4, hB4, _, _⟩ := own_slice h.own.out
  obtain ⟨B5, d5, hB5, _, _⟩ := own_slice h.isa.2
  have o1 := h.suf.2
  have o2 := h.own.ops
  have o3 := h.own.inp
  have o4 := h.own.out
  have o5 := h.isa.2
  rw [hB1] at o1
  rw [hB2] at o2
  rw [hB3] at o3
  rw [hB4] at o4
  rw [hB5] at o5
  unfold ptr
  go_enter Tryz.func81, Tryz.ntmps81
  go_wp2_with fail
  rename_i K hK
  obtain ⟨w0, hw0⟩ : ∃ w0 : World, w0 = w.alloc (.cells #[.string ⟨#[]⟩, .slice none 0 0, .slice none 0 0, .slice none 0 0, .slice none 0 0, .bool false, .bool false, .bool false, .bool false, .slice none 0 0] 38) := ⟨_, rfl⟩
  rw [← hw0]
  have hf0 : Fr nope w w0 := by rw [hw0]; exact (Fr.refl _ _).alloc _
  have hc0 : w0.heap[w.heap.size]? = some (.cells #[.string ⟨#[]⟩, .slice none 0 0, .slice none 0 0, .slice none 0 0, .slice none 0 0, .bool false, .bool false, .bool false, .bool false, .slice none 0 0] 38 (0, 0)) := by rw [hw0]; exact heap_alloc_new w _
  have hl0 : w0.heap.size = w.heap.size + 1 := by rw [hw0]; simp
  clear hw0
  have hcell : ∀ w', Fr (fun x => x = w.heap.size) w0 w' → ∀ j, w'.cell? ⟨r.b, j, none⟩ = r.i.cells[j]? := fun w' hf j => cell_of_row _ _ j _ _ (0, 0) (hf.heap (hf0.heap h.own.at_ (fun x => x)) (by omega))
  have hlo : ∀ {w' : World}, Fr nope w0 w' → w.heap.size + 1 ≤ w'.heap.size := fun hf => by have := hf.size; omega
  have hcomp : ∀ {W W' : World}, Fr nope w0 W → Fr (fun b => (Value.slice none 0 0).ownBlock = some b) W W' → Fr nope w0 W' := fun h k => h.then (k.mono (fun x _ h => by simp [Value.ownBlock] at h))
  have hcomp' : ∀ {W W' : World}, Fr (fun b => (Value.slice none 0 0).ownBlock = some b) W W' → Fr nope W W' := fun k => k.mono (fun x _ h => by simp [Value.ownBlock] at h)
  refine regionI (S := fun w' => Fr (fun x => x = w.heap.size) w0 w') (b := r.b) (c := w.heap.size) (opc := r.i.opc) (B1 := B1) (n1 := r.suf.length) (d1 := d1) (B2 := B2) (n2 := r.ops.length) (d2 := d2) (B3 := B3) (n3 := r.inp.length) (d3 := d3) (B4 := B4) (n4 := r.out.length) (d4 := d4) (B5 := B5) (n5 := r.isa.length) (d5 := d5) (t1 := r.i.term) (t2 := r.i.br) (t3 := r.i.cond) (t4 := r.i.canc)
    (R1 := fun x1 w' => Fr nope w0 w' ∧ OwS (w.heap.size + 1) r.suf x1 w')
    (R2 := fun x1 x2 w' => Fr nope w0 w' ∧ OwS (w.heap.size + 1) r.suf x1 w' ∧ OwO (w.heap.size + 1) r.ops x2 w')
    (R3 := fun x1 x2 x3 w' => Fr nope w0 w' ∧ OwS (w.heap.size + 1) r.suf x1 w' ∧ OwO (w.heap.size + 1) r.ops x2 w' ∧ OwO (w.heap.size + 1) r.inp x3 w')
    (R4 := fun x1 x2 x3 x4 w' => Fr nope w0 w' ∧ OwS (w.heap.size + 1) r.suf x1 w' ∧ OwO (w.heap.size + 1) r.ops x2 w' ∧ OwO (w.heap.size + 1) r.inp x3 w' ∧ OwO (w.heap.size + 1) r.out x4 w')
    (R5 := fun x1 x2 x3 x4 x5 w' => Fr nope w0 w' ∧ OwS (w.heap.size + 1) r.suf x1 w' ∧ OwO (w.heap.size + 1) r.ops x2 w' ∧ OwO (w.heap.size + 1) r.inp x3 w' ∧ OwO (w.heap.size + 1) r.out x4 w' ∧ OwS (w.heap.size + 1) r.isa x5 w')
    (R6 := fun x1 x2 x3 x4 x5 w' => Fr (fun x => x = w.heap.size) w0 w' ∧ w'.heap[w.heap.size]? = some (.cells #[.string r.i.opc, x1, x2, x3, x4, .bool r.i.term, .bool r.i.br, .bool r.i.cond, .bool r.i.canc, x5] 38 (0, 0)) ∧
      OwS (w.heap.size + 1) r.suf x1 w' ∧ OwO (w.heap.size + 1) r.ops x2 w' ∧ OwO (w.heap.size + 1) r.inp x3 w' ∧ OwO (w.heap.size + 1) r.out x4 w' ∧ OwS (w.heap.size + 1) r.isa x5 w')
    (((Bun.nil rfl rfl).cons 2 rfl).cons 0 rfl) (fun d _ _ _ _ h => by cases d <;> simpa [Exit.inBlock, Exit.then, bodyPost, Act.put] using h) (Fr.refl _ _).drew
    (fun w' hw => hcell w' hw 0) (fun w' hw => (hcell w' hw 1).trans (congrArg some hB1)) (fun w' hw => (hcell w' hw 2).trans (congrArg some hB2)) (fun w' hw => (hcell w' hw 3).trans (congrArg some hB3)) (fun w' hw => (hcell w' hw 4).trans (congrArg some hB4))
    (fun w' hw => hcell w' hw 5) (fun w' hw => hcell w' hw 6) (fun w' hw => hcell w' hw 7) (fun w' hw => hcell w' hw 8) (fun w' hw => (hcell w' hw 9).trans (congrArg some hB5)) ?_ ?_ ?_ ?_ ?_ ?_ ?_ ?_
  · intro a K f hK
    have hd : Fr nope w0 w0.drew := (Fr.refl nope w0).drew
    refine wp_app (o := oPI 8) rfl Tryz.underlying35 infoStr rfl (by omega) (v := .slice none 0 0) rfl (own_nil _ (w.heap.size + 1) _ _) f (news := r.suf.map Value.string) (by simp) (Sl.src ((own_Sl o1).nope (hf0.then hd))) (by simp [Value.oneCell']) (by have := hn.suf; unfold maxLen; omega) (by have := hn.suf; omega) (hlo hd) ?_
    intro v w1 hown hf _
    have hf1 := hcomp hd hf
    rw [Nat.zero_add] at hown
    exact hK v w1 ⟨hf1, hown⟩ hf1.of_nope
  · intro x1 w1 hR
    refine (plainOps_calls w1 r.ops B2 d2 ((own_Sl o2).nope (hf0.then hR.1)) (fun o ho => (h.ats.1 o ho).nope (hf0.then hR.1)) hn.ops).mono ?_
    rintro e w2 ⟨hf, A, c, rfl, hown⟩
    have hf2 := hR.1.then hf
    exact ⟨_, rfl, ⟨hf2, own_fr hR.2 hf (fun _ _ x => x), own_le hown (hlo hR.1)⟩, hf2.of_nope⟩
  · intro x1 x2 w1 hR
    refine (plainOps_calls w1 r.inp B3 d3 ((own_Sl o3).nope (hf0.then hR.1)) (fun o ho => (h.ats.2.1 o ho).nope (hf0.then hR.1)) hn.inp).mono ?_
    rintro e w2 ⟨hf, A, c, rfl, hown⟩
    have hf2 := hR.1.then hf
    exact ⟨_, rfl, ⟨hf2, own_fr hR.2.1 hf (fun _ _ x => x), own_fr hR.2.2 hf (fun _ _ x => x), own_le hown (hlo hR.1)⟩, hf2.of_nope⟩
  · intro x1 x2 x3 w1 hR
    refine (plainOps_calls w1 r.out B4 d4 ((own_Sl o4).nope (hf0.then hR.1)) (fun o ho => (h.ats.2.2 o ho).nope (hf0.then hR.1)) hn.out).mono ?_
    rintro e w2 ⟨hf, A, c, rfl, hown⟩
    have hf2 := hR.1.then hf
    exact ⟨_, rfl, ⟨hf2, own_fr hR.2.1 hf (fun _ _ x => x), own_fr hR.2.2.1 hf (fun _ _ x => x), own_fr hR.2.2.2 hf (fun _ _ x => x), own_le hown (hlo hR.1)⟩, hf2.of_nope⟩
  · intro x1 x2 x3 x4 w1 a K hR f hK
    refine wp_app (o := oPI 44) rfl Tryz.underlying35 infoStr rfl (by omega) (v := .slice none 0 0) rfl (own_nil _ (w.heap.size + 1) _ _) f (news := r.isa.map Value.string) (by simp) (Sl.src ((own_Sl o5).nope (hf0.then hR.1))) (by simp [Value.oneCell']) (by have := hn.isa; unfold maxLen; omega) (by have := hn.isa; omega) (hlo hR.1) ?_
    intro v w2 hown hf _
    have hf1 := hcomp hR.1 hf
    have hf' := hcomp' hf
    rw [Nat.zero_add] at hown
    exact hK v w2 ⟨hf1, own_fr hR.2.1 hf' (fun _ _ x => x), own_fr hR.2.2.1 hf' (fun _ _ x => x), own_fr hR.2.2.2.1 hf' (fun _ _ x => x), own_fr hR.2.2.2.2 hf' (fun _ _ x => x), hown⟩ hf1.of_nope
  · intro x1 x2 x3 x4 x5 w5 a K hR f2 f48 hK
    obtain ⟨A1, c1, rfl, _, _⟩ := own_slice hR.2.1
    obtain ⟨A2, c2, rfl, _, _⟩ := own_slice hR.2.2.1
    obtain ⟨A3, c3, rfl, _, _⟩ := own_slice hR.2.2.2.1
    obtain ⟨A4, c4, rfl, _, _⟩ := own_slice hR.2.2.2.2.1
    obtain ⟨A5, c5, rfl, _, _⟩ := own_slice hR.2.2.2.2.2
    refine wp_storeRow (o := oPI 46) rfl f2 f48 (hR.1.heap hc0 (fun x => x)) rfl (by kernel_rfl) (by simp [Value.oneCell']) ?_
    intro w6 hb hf
    have hs : ∀ {e : TypeId} {size n : Nat} {v : Value} {xs : List Value}, w5.ownsRow (w.heap.size + 1) e size v n xs → w6.ownsRow (w.heap.size + 1) e size v n xs := fun ho => own_fr ho hf (fun b hb e => by have := own_base ho b hb; omega)
    have hf6 := hR.1.of_nope.then hf
    exact hK w6 ⟨hf6, hb, hs hR.2.1, hs hR.2.2.1, hs hR.2.2.2.1, hs hR.2.2.2.2.1, hs hR.2.2.2.2.2⟩ hf6
  · intro x1 x2 x3 x4 x5 w5 hR
    obtain ⟨A1, c1, rfl, _, _⟩ := own_slice hR.2.1
    obtain ⟨A2, c2, rfl, _, _⟩ := own_slice hR.2.2.1
    obtain ⟨A3, c3, rfl, _, _⟩ := own_slice hR.2.2.2.1
    obtain ⟨A4, c4, rfl, _, _⟩ := own_slice hR.2.2.2.2.1
    obtain ⟨A5, c5, rfl, _, _⟩ := own_slice hR.2.2.2.2.2
    exact ⟨⟨_, _, _, rfl⟩, ⟨_, _, _, rfl⟩, ⟨_, _, _, rfl⟩, ⟨_, _, _, rfl⟩, ⟨_, _, _, rfl⟩⟩
  · intro x1 x2 x3 x4 x5 w6 a hR f2 z q
    obtain ⟨hf6, hb, g1, g2, g3, g4, g5⟩ := hR
    obtain ⟨A1, c1, rfl, _, _⟩ := own_slice g1
    obtain ⟨A2, c2, rfl, _, _⟩ := own_slice g2
    obtain ⟨A3, c3, rfl, _, _⟩ := own_slice g3
    obtain ⟨A4, c4, rfl, _, _⟩ := own_slice g4
    obtain ⟨A5, c5, rfl, _, _⟩ := own_slice g5
    refine hK _ _ (wp_ret ?_)
    refine bodyPost_ret (results_cell_row (fn := Tryz.f81) rfl _ _ w.heap.size _ _ _ _ f2 hb Tryz.underlying38 rfl (by kernel_rfl)) q ?_
    exact ⟨hf0.then_new hf6 (fun x hx e => by omega), A1, c1, A2, c2, A3, c3, A4, c4, A5, c5, rfl, own_le g1 (Nat.le_succ _), own_le g2 (Nat.le_succ _), own_le g3 (Nat.le_succ _), own_le g4 (Nat.le_succ _), own_le g5 (Nat.le_succ _)⟩
end
section
open Go Go.RowKit Bth
set_option maxRecDepth 100000
def u0 : Oper := { dst := some 4, op := Op.load 65 (Operand.tmp 1), type := 65, pos := "operand.go:173", after := #[], guard := none }
def u1 : Oper := { dst := some 5, op := Op.call { callee := Callee.value (Operand.func 48), args := #[Operand.tmp 4], argTypes := #[65] }, type := 32, pos := "operand.go:173", after := #[{ on := 0, ground := Ground.data }], guard := none }
def u2 : Oper := { dst := some 6, op := Op.load 65 (Operand.tmp 1), type := 65, pos := "operand.go:173", after := #[], guard := none }
def u3 : Oper := { dst := some 7, op := Op.call { callee := Callee.value (Operand.func 49), args := #[Operand.tmp 6], argTypes := #[65] }, type := 4, pos := "operand.go:173", after := #[{ on := 2, ground := Ground.data }, { on := 1, ground := Ground.chain }], guard := none }
def u4 : Oper := { dst := some 2, op := Op.assign (Operand.tmp 5), type := 32, pos := "operand.go:173", after := #[{ on := 1, ground := Ground.data }, { on := 3, ground := Ground.chain }, { on := 0, ground := Ground.phase }, { on := 1, ground := Ground.phase }, { on := 2, ground := Ground.textOnly Departure.lateStores }, { on := 3, ground := Ground.textOnly Departure.lateStoresUnsure }], guard := none }
def u5 : Oper := { dst := some 3, op := Op.assign (Operand.tmp 7), type := 4, pos := "operand.go:173", after := #[{ on := 3, ground := Ground.data }, { on := 4, ground := Ground.chain }, { on := 0, ground := Ground.phase }, { on := 1, ground := Ground.phase }, { on := 2, ground := Ground.phase }, { on := 3, ground := Ground.phase }, { on := 4, ground := Ground.phase }], guard := none }
theorem PO.cells_len (p : PO) : p.cells.size = 24 := rfl
def regU : Array Oper := #[u0, u1, u2, u3, u4, u5]
theorem regionU {a0 : Act} {w : World} {Q : Exit → Act → World → Prop} {S : World → Prop} {b : Nat} {cs : List Value} {R1 : Value → World → Prop} {R2 : Value → Value → World → Prop}
    (z0 : a0.tmps.size = 8) (q0 : a0.defers = []) (f1 : a0.eval (.tmp 1) = .pointer (some ⟨b, 0, none⟩)) (hQ : ∀ d v c a w, Q (.panic c) (a.put d v) w → Q (.panic c) a w)
    (hS0 : S w.drew) (hr : ∀ w, S w → w.rangeAt b 0 cs) (hl : (Tryz.prog.info? 65).map (·.size) = some cs.length)
    (h1 : Calls Tryz.prog 48 #[.agg cs.toArray] w.drew fun e w' => ∃ x, e = .returned x ∧ R1 x w' ∧ S w')
    (h2 : ∀ x w1, R1 x w1 → Calls Tryz.prog 49 #[.agg cs.toArray] w1 fun e w' => ∃ y, e = .returned y ∧ R2 x y w' ∧ S w')
    (h : ∀ x y w2 a, R2 x y w2 → a.eval (.tmp 2) = x → a.eval (.tmp 3) = y → a.defers = [] → Q .normal a w2) : (Code.region 1 regU true).wp Tryz.prog Q a0 w := by
  refine wp_region_held_drew (S := S) (by kernel_rfl) hS0 (fun hS0 => ?_)
  refine wpAnyH_take (i := 0) (oi := u0) (v := .agg cs.toArray) rfl (by kernel_rfl) (by kernel_rfl) (by kernel_rfl) (hQ _ _) (yieldsIf_load_mid (by rfl) _ _ rfl b 0 f1 cs _ hr Tryz.underlying65 rfl hl) hS0 ?_
  generalize e0 : a0.put (u0).dst (.agg cs.toArray) = a1
  have z1 := put_sz e0 z0
  have q1 := put_df e0 q0
  have f1 := put_keep e0 (d := 4) rfl (by decide) f1
  have f4 := put_new e0 (d := 4) rfl (by rw [z0]; decide)
  clear e0 z0 q0
  refine wpAnyH_take (i := 2) (oi := u2) (v := .agg cs.toArray) rfl (by kernel_rfl) (by kernel_rfl) (by kernel_rfl) (hQ _ _) (yieldsIf_load_mid (by rfl) _ _ rfl b 0 f1 cs _ hr Tryz.underlying65 rfl hl) hS0 ?_
  generalize e1 : a1.put (u2).dst (.agg cs.toArray) = a2
  have z2 := put_sz e1 z1
  have q2 := put_df e1 q1
  have f4 := put_keep e1 (d := 6) rfl (by decide) f4
  have f6 := put_new e1 (d := 6) rfl (by rw [z1]; decide)
  clear e1 z1 q1 f1
  refine wpAnyH_ready (rs := [1]) (by kernel_rfl) (by simp) (AllReadyH.cons (o := u1) rfl (fun K hK => ?_) AllReadyH.nil)
  rw [if_pos (show Region.wanted u1 _ = true from rfl)]
  refine wp_callU rfl Tryz.func48 (by kernel_rfl) (by kernel_rfl) ?_
  simp only [List.map_toArray, List.map_cons, List.map_nil, f4]
  refine h1.mono ?_
  rintro e w1 ⟨x, rfl, r1, s1⟩
  refine hK.out _ _ s1 (fun hS1 => ?_)
  generalize e2 : a2.put (u1).dst x = a3
  have z3 := put_sz e2 z2
  have q3 := put_df e2 q2
  have f6 := put_keep e2 (d := 5) rfl (by decide) f6
  have f5 := put_new e2 (d := 5) rfl (by rw [z2]; decide)
  clear e2 z2 q2 f4
  refine wpAnyH_ready (rs := [3]) (by kernel_rfl) (by simp) (AllReadyH.cons (o := u3) rfl (fun K hK => ?_) AllReadyH.nil)
  rw [if_pos (show Region.wanted u3 _ = true from rfl)]
  refine wp_callU rfl Tryz.func49 (by kernel_rfl) (by kernel_rfl) ?_
  simp only [List.map_toArray, List.map_cons, List.map_nil, f6]
  refine (h2 x w1 r1).mono ?_
  rintro e w2 ⟨y, rfl, r2, s2⟩
  refine hK.out _ _ s2 (fun hS2 => ?_)
  generalize e3 : a3.put (u3).dst y = a4
  have z4 := put_sz e3 z3
  have q4 := put_df e3 q3
  have f5 := put_keep e3 (d := 7) rfl (by decide) f5
  have f7 := put_new e3 (d := 7) rfl (by rw [z3]; decide)
  clear e3 z3 q3 f6
  refine wpAnyH_take (i := 4) (oi := u4) (v := x) rfl (by kernel_rfl) (by kernel_rfl) (by kernel_rfl) (hQ _ _) (Or.inl ⟨rfl, fun w hw => by simp [execOp, u4, f5]⟩) hS2 ?_
  generalize e4 : a4.put (u4).dst x = a5
  have z5 := put_sz e4 z4
  have q5 := put_df e4 q4
  have f7 := put_keep e4 (d := 2) rfl (by decide) f7
  have f2 := put_new e4 (d := 2) rfl (by rw [z4]; decide)
  clear e4 z4 q4 f5
  refine wpAnyH_take (i := 5) (oi := u5) (v := y) rfl (by kernel_rfl) (by kernel_rfl) (by kernel_rfl) (hQ _ _) (Or.inl ⟨rfl, fun w hw => by simp [execOp, u5, f7]⟩) hS2 ?_
  generalize e5 : a5.put (u5).dst y = a6
  have q6 := put_df e5 q5
  have f2 := put_keep e5 (d := 3) rfl (by decide) f2
  have f3 := put_new e5 (d := 3) rfl (by rw [z5]; decide)
  exact wpAnyH_done (by kernel_rfl) (h _ _ _ _ r2 f2 f3 q6) _
set_option maxHeartbeats 1000000 in
theorem OpRegisters_calls (w : World) (p : PO) (hok : okP p = true) : Calls Tryz.prog 24 #[p.agg] w fun e w' => Fr nope w w' ∧ ∃ A c, e = .returned (.tuple #[.slice A p.gs.length c, .bool true]) ∧ w'.ownsRow w.heap.size 41 4 (.slice A p.gs.length c) p.gs.length (gsCells p.gs) := by
  have hG := fun W => opRegisters_calls W p hok
  have hO := fun W => OpOK_calls W p
  unfold GivesB at hO
  rw [hok] at hO
  have hlen := p.cells_len
  unfold PO.agg at hG hO ⊢
  generalize p.cells = cs at hG hO hlen ⊢
  go_enter Tryz.func24, Tryz.ntmps24
  go_wp2_with fail
  rename_i Q' K hK
  obtain ⟨w0, hw0⟩ : ∃ w0, w0 = w.alloc (.cells cs 65) := ⟨_, rfl⟩
  have hn0 : Fr nope w w0 := by rw [hw0]; exact (Fr.refl _ _).alloc _
  have hb0 : w0.heap[w.heap.size]? = some (.cells cs 65 (0, 0)) := by rw [hw0]; exact heap_alloc_new w _
  have hl0 : w.heap.size ≤ w0.heap.size := hn0.size
  rw [← hw0]
  clear hw0
  have hd : Fr nope w0 w0.drew := (Fr.refl nope w0).drew
  refine regionU (S := fun w' => Fr nope w0 w') (b := w.heap.size) (cs := cs.toList) (R1 := fun x w' => Fr nope w0 w' ∧ ∃ A c, x = .slice A p.gs.length c ∧ w'.ownsRow w.heap.size 41 4 (.slice A p.gs.length c) p.gs.length (gsCells p.gs))
    (R2 := fun x y w' => y = .bool true ∧ Fr nope w0 w' ∧ ∃ A c, x = .slice A p.gs.length c ∧ w'.ownsRow w.heap.size 41 4 (.slice A p.gs.length c) p.gs.length (gsCells p.gs))
    rfl rfl rfl (fun d _ _ _ _ h => by cases d <;> simp [Q', Exit.then, bodyPost] at h) hd (fun w' hf j v hv => ?_) (by rw [Array.length_toList, hlen]; kernel_rfl) ?_ ?_ ?_
  · rw [Nat.zero_add, cell_of_row w' _ j _ _ (0, 0) (hf.heap hb0 (fun x => x))]
    simpa using hv
  · refine (hG w0.drew).mono ?_
    rintro e w1 ⟨hf1, A1, c1, rfl, hown1⟩
    have h1 := hd.then hf1
    exact ⟨_, rfl, ⟨h1, A1, c1, rfl, own_le hown1 (Nat.le_trans hl0 hd.size)⟩, h1⟩
  · rintro x w1 ⟨hf1, A1, c1, rfl, hown1⟩
    refine (hO w1).mono ?_
    rintro e w2 ⟨rfl, hf2⟩
    exact ⟨_, rfl, ⟨rfl, hf1.then hf2, A1, c1, rfl, own_fr hown1 hf2 (fun _ _ x => x)⟩, hf1.then hf2⟩
  · rintro x y w2 a ⟨rfl, hf2, A1, c1, rfl, hown2⟩ f2 f3 q
    refine hK _ _ (wp_ret ?_)
    have hr := results_tmp2 (fn := Tryz.f24) (t := 2) (u := 3) rfl a.tmps Tryz.prog w2
    rw [show a.tmps.getD 2 undef = _ from f2, show a.tmps.getD 3 undef = _ from f3] at hr
    exact bodyPost_ret hr q ⟨hn0.then hf2, A1, c1, rfl, hown2⟩
end
section
open Go Go.RowKit Bth
set_option maxRecDepth 100000
theorem PO.gs_len (p : PO) : p.gs.length ≤ 2 := by
  unfold PO.gs
  split
  · simp
  · split
    · cases p.hasBase <;> cases p.hasIndex <;> simp
    · simp
theorem gsOf_take {ps : List PO} {k : Nat} {p : PO} (h : ps[k]? = some p) : gsOf (ps.take (k + 1)) = gsOf (ps.take k) ++ p.gs := by
  unfold gsOf
  rw [take_snoc h, List.flatMap_append]
  simp
theorem gsCells_app (a b : List G) : gsCells (a ++ b) = gsCells a ++ gsCells b := List.flatMap_append
theorem gsCells_len (a : List G) : (gsCells a).length = a.length * 4 := flat_len G.cells_len a
theorem gsCells_one (a : List G) : ∀ u ∈ gsCells a, u.oneCell' = true := by
  intro u hu
  obtain ⟨g, _, hg⟩ := List.mem_flatMap.1 hu
  simp only [G.cells, List.mem_cons, List.not_mem_nil, or_false] at hg
  rcases hg with rfl | rfl | rfl | rfl <;> rfl
theorem irRegisters_calls (w : World) (s : SV) (ps : List PO) (h : POsAt w s ps) (hok : ps.all okP = true) (hl : ps.length ≤ 1048576) : Calls Tryz.prog 50 #[s.val] w (GivesGs w (gsOf ps)) := by
  obtain ⟨A, n, c⟩ := s
  have hps := h
  obtain ⟨rfl, _⟩ : n = ps.length ∧ _ := h
  simp only [SV.val]
  go_enter Tryz.func50, Tryz.ntmps50
  go_wp2
  go_loopg [3, 8] ps.length (fun n c3 c8 wr => ∃ (k : Nat) (A2 : Option Addr) (c2 : Nat) (gs : List G), k ≤ ps.length ∧ Hid (gs = gsOf (ps.take k)) ∧ gs.length ≤ 2 * k ∧ c8 = .int .i64 (k : Int) ∧ c3 = .slice A2 gs.length c2 ∧ wr.ownsRow w.heap.size 41 4 (.slice A2 gs.length c2) gs.length (gsCells gs) ∧ Fr nope w wr ∧ n = ps.length - k)
  case atStart => exact ⟨0, none, 0, [], Nat.zero_le _, Lib.hid rfl, Nat.le_refl _, rfl, rfl, own_nil _ _ _ _, Fr.refl _ _, rfl⟩
  case round =>
    obtain ⟨k, A2, c2, gs, hk, hgs, hgl, rfl, rfl, hown, hf, rfl⟩ := hrel
    have hsz := hf.size
    by_cases hlt : k < ps.length
    · obtain ⟨b, off, hAe, hbl, hc⟩ := (hps.nope hf).2 (by omega)
      simp only at hAe
      subst hAe
      obtain ⟨p, hpk⟩ : ∃ p, ps[k]? = some p := ⟨_, List.getElem?_eq_getElem hlt⟩
      have hc := hc k p hpk
      have hT := Lib.hid (gsOf_take hpk)
      have hokp : okP p = true := List.all_eq_true.1 hok p (List.mem_of_getElem? hpk)
      have hpl := p.gs_len
      have hbo := own_base hown
      clear hpk hps
      go_wp2_with (first
        | (refine wpList_load_mid rfl _ _ rfl b (off + k * 24) rfl p.cells.toList _ hc Tryz.underlying65 rfl (by kernel_rfl) ?_)
        | (refine wpList_storeRow (b := wr.heap.size) (cells := p.cells) rfl rfl rfl rfl (heap_alloc_new _ _) rfl (by kernel_rfl) (by kernel_rfl) ?_; intro w2 hb2 hf2)
        | (refine wpList_loadRow (b := wr.heap.size) (cells := p.cells) rfl rfl rfl hb2 Tryz.underlying65 rfl (by kernel_rfl) ?_))
      have hn2 : Fr nope wr w2 := ((Fr.refl nope wr).alloc _).then_new hf2 (fun x hx e => by omega)
      refine (opRegisters_calls w2 p hokp).mono ?_
      rintro e w3 ⟨hf3, A3, c3, rfl, hown3⟩
      have hn3 := hn2.then hf3
      have hsz3 := hn3.size
      have hsrc := (Rw.of_own hown3).src
      go_wp2_with (refine wpList_app (v := .slice A2 gs.length c2) rfl rfl Tryz.underlying32 infoRg rfl (by omega) rfl (own_fr hown hn3 (fun _ _ x => x)) rfl (news := gsCells p.gs) ?ha hsrc (gsCells_one _) ?hd ?he ?hf ?hk)
      case ha => exact gsCells_len _
      case hd => simp only [maxLen]; omega
      case he => omega
      case hf => omega
      case hk =>
        intro v4 w4 hown4 hf4 hb4
        obtain ⟨A4, c4, rfl, _, _⟩ := own_slice hown4
        clear hb4
        go_wp2
        go_roundg (ps.length - (k + 1))
        case measure => omega
        case rel => exact ⟨k + 1, A4, c4, gs ++ p.gs, by omega, Lib.hid (by rw [hT.out, ← hgs.out]), by rw [List.length_append]; omega, by go_num, by rw [List.length_append], by rw [List.length_append, gsCells_app]; exact hown4, (hf.then hn3).then_new hf4 (fun x hx e => by have := hbo x e; omega), rfl⟩
    · rw [take_all hlt] at hgs
      obtain rfl := hgs.out
      go_wp2
      go_ret
      exact ⟨hf, A2, c2, rfl, hown⟩
theorem outGs_take {ps : List PO} {k : Nat} {p : PO} (h : ps[k]? = some p) : outGs (ps.take (k + 1)) = outGs (ps.take k) ++ (if p.kind = 1 then [p.reg] else []) := by
  unfold outGs
  rw [take_snoc h, List.filterMap_append]
  by_cases e : p.kind = 1 <;> simp [PO.asG, e]
def GivesGs2 (w : World) (gs : List G) (e : Ending) (w' : World) : Prop := Fr nope w w' ∧ ∃ A c, e = .returned (.tuple #[.slice A gs.length c, .bool true]) ∧ w'.ownsRow w.heap.size 41 4 (.slice A gs.length c) gs.length (gsCells gs)
set_option maxHeartbeats 1000000 in
theorem spOutputRegisters_calls (w : World) (B : Nat) (p : PI) (h : p.At w B) (hok : okI p = true) : Calls Tryz.prog 8 #[p.agg] w (GivesGs2 w (outGs p.out)) := by
  have hO := fun W (hW : Fr nope w W) => InstrOK_calls W B p (h.fr hW (fun _ _ x => x))
  unfold GivesB at hO
  rw [hok] at hO
  have hps := h.out
  have hl := h.few.2.2.2.1
  have hn : p.outV.n = p.out.length := h.out.1
  clear h
  obtain ⟨opc, ⟨A1, n1, c1⟩, suf, ⟨A2, n2, c2⟩, ops, ⟨A3, n3, c3⟩, inp, ⟨A4, n4, c4⟩, ps, term, br, cond, canc, ⟨A5, n5, c5⟩, isa⟩ := p
  simp only at hl hps hn
  subst hn
  simp only [PI.agg, PI.cells, SV.val] at hO ⊢
  replace hO := Lib.hid hO
  go_enter Tryz.func8, Tryz.ntmps8
  go_wp2_with (refine wpList_loadRow (b := w.heap.size) rfl rfl rfl (heap_alloc_new w _) Tryz.underlying38 rfl (by kernel_rfl) ?_)
  refine (hO.out _ ((Fr.refl _ _).alloc _)).mono ?_
  rintro e w1 ⟨rfl, hf1⟩
  have hb1 := hf1.heap (heap_alloc_new w _) (fun x => x)
  have hc1 := cell_of_row _ _ 4 _ _ (0, 0) hb1
  simp only [List.getElem?_toArray, List.getElem?_cons_succ, List.getElem?_cons_zero] at hc1
  have hn1 : Fr nope w w1 := ((Fr.refl _ _).alloc _).then hf1
  have hps1 := hps.nope hn1
  clear hb1 hps hO
  go_wp2
  go_loopg [2, 12] ps.length (fun n c3 c8 wr => ∃ (k : Nat) (A2 : Option Addr) (c2 : Nat) (gs : List G), k ≤ ps.length ∧ Hid (gs = outGs (ps.take k)) ∧ gs.length ≤ k ∧ c8 = .int .i64 (k : Int) ∧ c3 = .slice A2 gs.length c2 ∧ wr.ownsRow w1.heap.size 41 4 (.slice A2 gs.length c2) gs.length (gsCells gs) ∧ Fr nope w1 wr ∧ n = ps.length - k)
  case atStart => exact ⟨0, none, 0, [], Nat.zero_le _, Lib.hid rfl, Nat.le_refl _, rfl, rfl, own_nil _ _ _ _, Fr.refl _ _, rfl⟩
  case round =>
    obtain ⟨k, A2, c2, gs, hk, hgs, hgl, rfl, rfl, hown, hf, rfl⟩ := hrel
    have hsz := hf.size
    have hsz1 := hn1.size
    by_cases hlt : k < ps.length
    · obtain ⟨b, off, hAe, hbl, hc⟩ := (hps1.nope hf).2 (by omega)
      simp only at hAe
      subst hAe
      obtain ⟨p, hpk⟩ : ∃ p, ps[k]? = some p := ⟨_, List.getElem?_eq_getElem hlt⟩
      have hc := hc k p hpk
      have hT := Lib.hid (outGs_take hpk)
      have hbo := own_base hown
      clear hpk hps1
      obtain ⟨kind, rg, hasBase, hasIndex, base, index, scale, disp, sym, static, con, label, rel⟩ := p
      by_cases k1 : kind = 1
      · subst k1
        go_wp2_with (first
          | (refine wpList_load_mid rfl _ _ rfl b (off + k * 24) rfl (PO.cells ⟨1, rg, hasBase, hasIndex, base, index, scale, disp, sym, static, con, label, rel⟩).toList _ hc Tryz.underlying65 rfl (by kernel_rfl) ?_)
          | (refine wpList_storeRow (b := wr.heap.size) (cells := PO.cells ⟨1, rg, hasBase, hasIndex, base, index, scale, disp, sym, static, con, label, rel⟩) rfl rfl rfl rfl (heap_alloc_new _ _) rfl (by kernel_rfl) (by kernel_rfl) ?_; intro w2 hb2 hf2; have hn2 : Fr nope wr w2 := ((Fr.refl nope wr).alloc _).then_new hf2 (fun x hx e => by omega); have k0 := cell_of_row _ _ 0 _ _ (0, 0) hb2; have k1 := cell_of_row _ _ 1 _ _ (0, 0) hb2; have k2 := cell_of_row _ _ 2 _ _ (0, 0) hb2; have k3 := cell_of_row _ _ 3 _ _ (0, 0) hb2; have k4 := cell_of_row _ _ 4 _ _ (0, 0) hb2; simp only [PO.cells, List.getElem?_toArray, List.getElem?_cons_zero, List.getElem?_cons_succ] at k0 k1 k2 k3 k4)
          | (refine wpList_build1 (l := G.cells rg) rfl rfl rfl Tryz.underlying32 infoRg rfl (by omega) (by decide) ?_)
          | refine wpList_app (v := .slice A2 gs.length c2) rfl rfl Tryz.underlying32 infoRg rfl (by omega) rfl (own_fr (own_fr hown hn2 (fun _ _ x => x)) ((Fr.refl nope _).alloc _) (fun _ _ x => x)) rfl (news := G.cells rg) ?ha ?hb ?hc ?hd ?he ?hf ?hk)
        case ha => rfl
        case hc => simp [G.cells, Value.oneCell']
        case hd => simp only [maxLen]; omega
        case he => omega
        case hf => have := hn2.size; simp; omega
        case hk =>
          intro v4 w4 hown4 hf4 hb4
          obtain ⟨A4, c4, rfl, _, _⟩ := own_slice hown4
          clear hb4
          have hsz2 := hn2.size
          go_wp2
          go_roundg (ps.length - (k + 1))
          case measure => omega
          case rel => exact ⟨k + 1, A4, c4, gs ++ [rg], by omega, Lib.hid (by rw [hT.out, ← hgs.out]; rfl), by simp; omega, by go_num, by simp, by rw [List.length_append, gsCells_app]; simpa [gsCells] using hown4, ((hf.then hn2).alloc _).then_new hf4 (fun x hx e => by have := hbo x e; omega), rfl⟩
      · go_wp2_with (first
          | (refine wpList_load_mid rfl _ _ rfl b (off + k * 24) rfl (PO.cells ⟨kind, rg, hasBase, hasIndex, base, index, scale, disp, sym, static, con, label, rel⟩).toList _ hc Tryz.underlying65 rfl (by kernel_rfl) ?_)
          | (refine wpList_storeRow (b := wr.heap.size) (cells := PO.cells ⟨kind, rg, hasBase, hasIndex, base, index, scale, disp, sym, static, con, label, rel⟩) rfl rfl rfl rfl (heap_alloc_new _ _) rfl (by kernel_rfl) (by kernel_rfl) ?_; intro w2 hb2 hf2; have k0 := cell_of_row _ _ 0 _ _ (0, 0) hb2; simp only [PO.cells, List.getElem?_toArray, List.getElem?_cons_zero] at k0))
        have hn2 : Fr nope wr w2 := ((Fr.refl nope wr).alloc _).then_new hf2 (fun x hx e => by omega)
        go_roundg (ps.length - (k + 1))
        case measure => omega
        case rel => exact ⟨k + 1, A2, c2, gs, by omega, Lib.hid (by rw [hT.out, ← hgs.out]; simp [k1]), by omega, by go_num, rfl, own_fr hown hn2 (fun _ _ x => x), hf.then hn2, rfl⟩
    · rw [take_all hlt] at hgs
      obtain rfl := hgs.out
      go_wp2
      go_ret2
      exact ⟨hn1.then hf, A2, c2, rfl, own_le hown hn1.size⟩
end
end Go.Proofs.YtbaihlfnbdifgaaGreat
