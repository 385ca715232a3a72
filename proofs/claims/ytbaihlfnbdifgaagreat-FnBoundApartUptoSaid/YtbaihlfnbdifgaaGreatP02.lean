/- Part of the proof of boundApart_upto. -/
import Derived.Lib.Hide
import Derived.Test.YtbaihlfnbdifgaaGreatProg
import Derived.Laws.BitsAllLaws
import Derived.Laws.BitsLemmas
import Derived.Deep.LoopGhost
import Derived.OwnWalk
import Derived.Maps.RangeWalk
import Derived.BigQuiet
import Derived.Test.YtbaihlfnbdifgaaGreatP00
import Derived.Test.YtbaihlfnbdifgaaGreatP01
namespace Go.Proofs.YtbaihlfnbdifgaaGreat
section
open Go Go.RowKit Bth
set_option maxRecDepth 100000
theorem R.val_iface (r : R) : ∃ T v, r.val = .iface T v :=
  R.val_cases (p := fun x => ∃ T v, x = .iface T v) r (fun _ => ⟨_, _, rfl⟩) (fun _ => ⟨_, _, rfl⟩) (fun _ => ⟨_, _, rfl⟩) (fun _ => ⟨_, _, rfl⟩) (fun _ => ⟨_, _, rfl⟩) (fun _ => ⟨_, _, rfl⟩) (fun _ => ⟨_, _, rfl⟩) (fun _ => ⟨_, _, rfl⟩)
theorem O.val_iface (o : O) : ∃ T v, o.val = .iface T v := by
  cases o with
  | reg r => exact r.val_iface
  | mem m => exact ⟨_, _, rfl⟩
  | con c => exact ⟨_, _, rfl⟩
  | label s => exact ⟨_, _, rfl⟩
  | rel n => exact ⟨_, _, rfl⟩
def M.regs (m : M) : List R := m.base.toList ++ m.index.toList
def O.regs : O → List R
  | .reg r => [r]
  | .mem m => m.regs
  | _ => []
theorem infoReg : (Tryz.prog.info? 147).map (fun i => (i.zero, i.size, i.bytes)) = some (some .nilIface, 1, 16) := by kernel_rfl
def GivesSl (w : World) (xs : List Value) (e : Ending) (w' : World) : Prop := ∃ A c, e = .returned (.slice A xs.length c) ∧ Sl w' A xs.length xs ∧ Fr nope w w'
theorem Sl_one (w : World) (x : Value) (t : TypeId) : Sl (w.alloc (.cells #[x] t)) (some ⟨w.heap.size, 0, none⟩) 1 [x] :=
  ⟨rfl, fun _ => ⟨w.heap.size, 0, rfl, by simp, fun j u hu => by
    have := cell_one_new w x t j u hu
    have e : (⟨w.heap.size, 0, none⟩ : Addr).add j = ⟨w.heap.size, 0 + j, none⟩ := by unfold Addr.add; split <;> simp_all
    rwa [e] at this⟩⟩
theorem Registers_reg (w : World) (r : R) : Calls Tryz.prog 94 #[r.val] w (GivesSl w [r.val]) := by
  have h1 : ∀ W, (Instr.typeAssert r.val 175 147 true).run Tryz.prog W = .ok (.tuple #[r.val, .bool true]) W := fun W => O.ta_Register W _ (.reg r)
  obtain ⟨T, v, hv⟩ := r.val_iface
  rw [hv] at h1 ⊢
  clear hv
  go_enter Tryz.func94, Tryz.ntmps94
  go_wp2
  go_ret
  exact ⟨_, 1, rfl, Sl_one w _ _, (Fr.refl _ _).alloc _⟩
theorem Registers_other (w : World) (o : O) (h : o.isReg = false) (h' : o.isMem = false) : Calls Tryz.prog 94 #[o.val] w (GivesSl w []) := by
  have h1 : ∀ W, (Instr.typeAssert o.val 175 147 true).run Tryz.prog W = .ok (.tuple #[.nilIface, .bool false]) W := fun W => by rw [O.ta_Register W, h]; rfl
  have h2 : ∀ W, (Instr.typeAssert o.val 175 245 true).run Tryz.prog W = .ok (.tuple #[zeroMem, .bool false]) W := fun W => by
    rw [O.ta_Mem W, h']
    cases o with
    | mem m => cases h'
    | _ => rfl
  have h3 := fun W => O.ta_Constant W 175 o
  have h4 := fun W => O.ta_LabelRef W 175 o
  have h5 := fun W => O.ta_Rel W 175 o
  have hone : (o.isCon = true) ∨ (o.isCon = false ∧ o.isRel = true) ∨ (o.isCon = false ∧ o.isRel = false ∧ o.isLabel = true) := by cases o <;> simp_all [O.isReg, O.isMem, O.isCon, O.isRel, O.isLabel]
  obtain ⟨T, v, hv⟩ := o.val_iface
  rw [hv] at h1 h2 h3 h4 h5 ⊢
  clear hv h h'
  generalize o.labelOf = lab at h4
  generalize o.relOf = rl at h5
  generalize o.isCon = b1 at *
  generalize o.isRel = b2 at *
  generalize o.isLabel = b3 at *
  rcases hone with rfl | ⟨rfl, rfl⟩ | ⟨rfl, rfl, rfl⟩
  all_goals
    simp only [Bool.false_eq_true, if_false, if_true] at h3
    go_enter Tryz.func94, Tryz.ntmps94
    go_wp2
    go_ret
    exact ⟨none, 0, rfl, Sl.nil _, Fr.refl _ _⟩
end
section
open Go Go.RowKit Bth
set_option maxRecDepth 100000
theorem one_new (w : World) (x : Value) (t : TypeId) (b : Nat) (hb : b = w.heap.size) : 0 < 1 → ∃ ad, some (⟨b, 0, none⟩ : Addr) = some ad ∧ ∀ j u, [x][j]? = some u → (w.alloc (.cells #[x] t)).cell? (ad.add j) = some u := by
  subst hb
  exact fun _ => ⟨_, rfl, cell_one_new _ _ _⟩
theorem one_cell (T : TypeId) (v : Value) : ∀ u ∈ [Value.iface T v], u.oneCell' = true := by simp [Value.oneCell']
theorem Registers_mem00 (w : World) (m : M) (hb : m.base = none) (hi : m.index = none) : Calls Tryz.prog 94 #[O.val (.mem m)] w (GivesSl w []) := by
  have h1 : ∀ W, (Instr.typeAssert (O.val (.mem m)) 175 147 true).run Tryz.prog W = .ok (.tuple #[.nilIface, .bool false]) W := fun W => O.ta_Register W _ (.mem m)
  have h2 : ∀ W, (Instr.typeAssert (O.val (.mem m)) 175 245 true).run Tryz.prog W = .ok (.tuple #[m.agg, .bool true]) W := fun W => O.ta_Mem W _ (.mem m)
  simp only [O.val] at h1 h2 ⊢
  rw [M.agg, hb, hi] at h1 h2 ⊢
  simp only [optV] at h1 h2 ⊢
  go_enter Tryz.func94, Tryz.ntmps94
  go_wp2
  go_ret
  exact ⟨none, 0, rfl, Sl.nil _, (Fr.refl _ _).alloc _⟩
theorem Registers_mem10 (w : World) (m : M) (r : R) (hb : m.base = some r) (hi : m.index = none) : Calls Tryz.prog 94 #[O.val (.mem m)] w (GivesSl w [r.val]) := by
  have h1 : ∀ W, (Instr.typeAssert (O.val (.mem m)) 175 147 true).run Tryz.prog W = .ok (.tuple #[.nilIface, .bool false]) W := fun W => O.ta_Register W _ (.mem m)
  have h2 : ∀ W, (Instr.typeAssert (O.val (.mem m)) 175 245 true).run Tryz.prog W = .ok (.tuple #[m.agg, .bool true]) W := fun W => O.ta_Mem W _ (.mem m)
  obtain ⟨T, v, hv⟩ := r.val_iface
  simp only [O.val] at h1 h2 ⊢
  rw [M.agg, hb, hi] at h1 h2 ⊢
  simp only [optV] at h1 h2 ⊢
  rw [hv] at h1 h2 ⊢
  clear hb hi hv
  go_enter Tryz.func94, Tryz.ntmps94
  go_wp2_with (refine wpList_app (v := .slice none 0 0) rfl rfl Tryz.underlying140 infoReg rfl (by omega) rfl (own_nil _ w.heap.size _ _) rfl (news := [.iface T v]) rfl (one_new _ _ _ _ (by simp)) (one_cell _ _) (by decide) (by omega) (by simp; omega) ?_; intro v1 w1 hown hf1 _; have hf2 := (hf1.mono (T := nope) (by simp [Value.ownBlock])); obtain ⟨hc1, _⟩ := hf2.cells; simp at hc1; have hlt1 : w.heap.size < w.heap.size + 1 + 1 := by omega)
  go_ret
  obtain ⟨A, c, rfl, _, _⟩ := own_slice hown
  exact ⟨A, c, rfl, own_Sl hown, (((Fr.refl _ _).alloc _).alloc _).then hf2⟩
theorem Registers_mem01 (w : World) (m : M) (r : R) (hb : m.base = none) (hi : m.index = some r) : Calls Tryz.prog 94 #[O.val (.mem m)] w (GivesSl w [r.val]) := by
  have h1 : ∀ W, (Instr.typeAssert (O.val (.mem m)) 175 147 true).run Tryz.prog W = .ok (.tuple #[.nilIface, .bool false]) W := fun W => O.ta_Register W _ (.mem m)
  have h2 : ∀ W, (Instr.typeAssert (O.val (.mem m)) 175 245 true).run Tryz.prog W = .ok (.tuple #[m.agg, .bool true]) W := fun W => O.ta_Mem W _ (.mem m)
  obtain ⟨T, v, hv⟩ := r.val_iface
  simp only [O.val] at h1 h2 ⊢
  rw [M.agg, hb, hi] at h1 h2 ⊢
  simp only [optV] at h1 h2 ⊢
  rw [hv] at h1 h2 ⊢
  clear hb hi hv
  go_enter Tryz.func94, Tryz.ntmps94
  go_wp2_with (refine wpList_app (v := .slice none 0 0) rfl rfl Tryz.underlying140 infoReg rfl (by omega) rfl (own_nil _ w.heap.size _ _) rfl (news := [.iface T v]) rfl (one_new _ _ _ _ (by simp)) (one_cell _ _) (by decide) (by omega) (by simp; omega) ?_; intro v1 w1 hown hf1 _; have hf2 := (hf1.mono (T := nope) (by simp [Value.ownBlock])); obtain ⟨hc1, _⟩ := hf2.cells; simp at hc1; have hlt1 : w.heap.size < w.heap.size + 1 + 1 := by omega)
  go_ret
  obtain ⟨A, c, rfl, _, _⟩ := own_slice hown
  exact ⟨A, c, rfl, own_Sl hown, (((Fr.refl _ _).alloc _).alloc _).then hf2⟩
theorem Registers_mem11 (w : World) (m : M) (r r' : R) (hb : m.base = some r) (hi : m.index = some r') : Calls Tryz.prog 94 #[O.val (.mem m)] w (GivesSl w [r.val, r'.val]) := by
  have h1 : ∀ W, (Instr.typeAssert (O.val (.mem m)) 175 147 true).run Tryz.prog W = .ok (.tuple #[.nilIface, .bool false]) W := fun W => O.ta_Register W _ (.mem m)
  have h2 : ∀ W, (Instr.typeAssert (O.val (.mem m)) 175 245 true).run Tryz.prog W = .ok (.tuple #[m.agg, .bool true]) W := fun W => O.ta_Mem W _ (.mem m)
  obtain ⟨T, v, hv⟩ := r.val_iface
  obtain ⟨T', v', hv'⟩ := r'.val_iface
  simp only [O.val] at h1 h2 ⊢
  rw [M.agg, hb, hi] at h1 h2 ⊢
  simp only [optV] at h1 h2 ⊢
  rw [hv, hv'] at h1 h2 ⊢
  clear hb hi hv hv'
  go_enter Tryz.func94, Tryz.ntmps94
  go_wp2_with (first
    | (refine wpList_app (v := .slice none 0 0) rfl rfl Tryz.underlying140 infoReg rfl (by omega) rfl (own_nil _ w.heap.size _ _) rfl (news := [.iface T v]) rfl (one_new _ _ _ _ (by simp)) (one_cell _ _) (by decide) (by omega) (by simp; omega) ?_; intro v1 w1 hown hf1 _; have hf2 := (hf1.mono (T := nope) (by simp [Value.ownBlock])); obtain ⟨hc1, _⟩ := hf2.cells; simp at hc1; have hlt1 : w.heap.size < w.heap.size + 1 + 1 := by omega)
    | (refine wpList_app (v := v1) rfl rfl Tryz.underlying140 infoReg rfl (by omega) rfl (own_fr hown ((Fr.refl nope _).alloc _) (fun _ _ x => x)) rfl (news := [.iface T' v']) rfl (one_new _ _ _ _ (by simp)) (one_cell _ _) (by decide) (by omega) (by have := hf2.size; simp at this ⊢; omega) ?_; intro v2 w2 hown' hf3 _))
  go_ret
  obtain ⟨A, c, rfl, _, _⟩ := own_slice hown'
  refine ⟨A, c, rfl, own_Sl hown', ?_⟩
  have hb1 := own_base hown
  have h3 := ((((Fr.refl nope w).alloc _).alloc _).then hf2).alloc (.cells #[.iface T' v'] 147)
  refine h3.trans hf3 (fun _ _ x => x) (fun x hx he => ?_)
  have := hb1 x he
  omega
theorem optV_cases (o : Option R) : optV o = .nilIface ∨ ∃ T v, optV o = .iface T v := by
  cases o with
  | none => exact .inl rfl
  | some r => exact .inr r.val_iface
theorem O.memAgg_cases (o : O) : ∃ s st d x y sc, o.memAgg = .agg #[.string s, .bool st, .int .i64 d, x, y, .int .u8 sc] ∧ (x = .nilIface ∨ ∃ T v, x = .iface T v) ∧ (y = .nilIface ∨ ∃ T v, y = .iface T v) := by
  cases o with
  | mem m => exact ⟨_, _, _, _, _, _, rfl, optV_cases _, optV_cases _⟩
  | _ => exact ⟨_, _, _, _, _, _, rfl, .inl rfl, .inl rfl⟩
theorem IsMem_calls (w : World) (o : O) : Calls Tryz.prog 95 #[o.val] w fun e w' => e = .returned (.bool o.isMem) ∧ Fr nope w w' := by
  have h1 := fun W => O.ta_Mem W 175 o
  obtain ⟨s, st, d, x, y, sc, hm, hx, hy⟩ := o.memAgg_cases
  obtain ⟨T, v, hv⟩ := o.val_iface
  rw [hv, hm] at h1
  rw [hv]
  clear hm
  generalize o.isMem = b at *
  clear hv
  rcases hx with rfl | ⟨T1, v1, rfl⟩ <;> rcases hy with rfl | ⟨T2, v2, rfl⟩
  all_goals
    go_enter Tryz.func95, Tryz.ntmps95
    go_wp2
    go_ret
    exact ⟨rfl, (Fr.refl _ _).alloc _⟩
theorem Registers_calls (w : World) (o : O) : Calls Tryz.prog 94 #[o.val] w (GivesSl w (o.regs.map R.val)) := by
  cases o with
  | reg r => exact Registers_reg w r
  | mem m =>
    cases hb : m.base with
    | none =>
      cases hi : m.index with
      | none => simpa [O.regs, M.regs, hb, hi] using Registers_mem00 w m hb hi
      | some r' => simpa [O.regs, M.regs, hb, hi] using Registers_mem01 w m r' hb hi
    | some r =>
      cases hi : m.index with
      | none => simpa [O.regs, M.regs, hb, hi] using Registers_mem10 w m r hb hi
      | some r' => simpa [O.regs, M.regs, hb, hi] using Registers_mem11 w m r r' hb hi
  | con c => exact Registers_other w _ rfl rfl
  | label s => exact Registers_other w _ rfl rfl
  | rel n => exact Registers_other w _ rfl rfl
end
section
open Go Go.RowKit Go.MapKept Bth
open Go.ChangeMaps (setBlock)
theorem ofInt_u16 (a : Nat) (ha : a < 65536) : (BitVec.ofInt 16 (a : Int)).toNat = a := by
  rw [BitVec.ofInt_natCast, BitVec.toNat_ofNat]; exact Nat.mod_eq_of_lt (by omega)
theorem wrap_u16 (a : Nat) (ha : a < 65536) : IntKind.u16.wrap (a : Int) = (a : Int) := by
  simp [IntKind.wrap, IntKind.bits, IntKind.signed]; omega
theorem u16_and (a b : Nat) (ha : a < 65536) (hb : b < 65536) : bits .and .u16 (a : Int) (b : Int) = ((a &&& b : Nat) : Int) := by
  have hx : a &&& b < 2 ^ 16 := Nat.and_lt_two_pow _ (by omega)
  show IntKind.u16.wrap ((BitVec.ofInt 16 (a : Int) &&& BitVec.ofInt 16 (b : Int)).toNat : Int) = _
  rw [BitVec.toNat_and, ofInt_u16 a ha, ofInt_u16 b hb, wrap_u16 _ (by omega)]
theorem u16_or (a b : Nat) (ha : a < 65536) (hb : b < 65536) : bits .or .u16 (a : Int) (b : Int) = ((a ||| b : Nat) : Int) := by
  have hx : a ||| b < 2 ^ 16 := Nat.or_lt_two_pow (by omega) (by omega)
  show IntKind.u16.wrap ((BitVec.ofInt 16 (a : Int) ||| BitVec.ofInt 16 (b : Int)).toNat : Int) = _
  rw [BitVec.toNat_or, ofInt_u16 a ha, ofInt_u16 b hb, wrap_u16 _ (by omega)]
def idV (k : Nat) : Value := .int .u32 (k : Int)
def maskV (m : Nat) : Option Value := if m = 0 then none else some (.int .u16 (m : Int))
def MaskAt (w : World) (b : Nat) (F : Nat → Nat) : Prop := (∃ ks, MapAt w b idV ks fun k => maskV (F k)) ∧ ∀ k, F k < 65536
theorem idKey : KeyOk Tryz.prog 162 (.int .u32) idV := ⟨Tryz.underlying162, fun _ => rfl, fun a b h => by simp [idV] at h; omega⟩
theorem zero39 (w : World) : (zeroValue 39).run Tryz.prog w = .ok (.int .u16 0) w := by kernel_rfl
theorem maskSetT : Tryz.prog.underlying 133 = some (.map 162 39) := Tryz.underlying133
theorem MaskAt.look {w : World} {b : Nat} {F : Nat → Nat} (h : MaskAt w b F) (k : Nat) :
    (Instr.lookup 133 (.map (some b)) (.int .u32 (k : Int)) false).run Tryz.prog w = .ok (.int .u16 (F k : Int)) w := by
  obtain ⟨⟨ks, hm⟩, _⟩ := h
  have := hm.lookup idKey maskSetT (zero39 w) k false
  rw [show (Value.int .u32 (k : Int)) = idV k from rfl, this]
  unfold maskV
  by_cases h0 : F k = 0 <;> simp [h0]
def orM (F : Nat → Nat) (id mask : Nat) : Nat → Nat := fun x => if x = id then F x ||| mask else F x
theorem MaskAt.put {w : World} {b : Nat} {F : Nat → Nat} (h : MaskAt w b F) (k m : Nat) (hm : m < 65536) (h0 : m ≠ 0) :
    ∃ w', (Instr.mapUpdate 133 (.map (some b)) (.int .u32 (k : Int)) (.int .u16 (m : Int))).run Tryz.prog w = .ok () w' ∧ MaskAt w' b (fun x => if x = k then m else F x) ∧ Fr (fun x => x = b) w w' ∧ w'.heap.size = w.heap.size := by
  obtain ⟨⟨ks, hM⟩, hF⟩ := h
  obtain ⟨es, clock, h1, h2⟩ := hM.update idKey maskSetT k (.int .u16 (m : Int))
  refine ⟨setBlock w b (.map es clock), h1, ⟨⟨if k ∈ ks then ks else ks ++ [k], ?_⟩, fun x => ?_⟩, (Fr.refl (fun x => x = b) w).setBlock (.inl rfl) _, by simp [setBlock]⟩
  · have e : (fun x => maskV (if x = k then m else F x)) = updM (fun x => maskV (F x)) k (some (.int .u16 (m : Int))) := by
      funext x
      unfold updM
      by_cases hx : x = k
      · simp [hx, maskV, h0]
      · simp [hx]
    rw [e]; exact h2
  · show (if x = k then m else F x) < 65536
    split
    · exact hm
    · exact hF x
theorem Add_no (w : World) (b : Nat) (F : Nat → Nat) (id mask : Nat) (hb : MaskAt w b F) (hm : mask < 65536) (h : F id &&& mask = mask) :
    Calls Tryz.prog 96 #[.map (some b), .int .u32 (id : Int), .int .u16 (mask : Int)] w fun e w' => e = .returned (.bool false) ∧ w = w' := by
  have hl := hb.look id
  have ha := u16_and (F id) mask (hb.2 id) hm
  rw [h] at ha
  clear h
  go_enter Tryz.func96, Tryz.ntmps96
  go_wp2
  go_ret
  exact ⟨rfl, rfl⟩
theorem Add_yes (w : World) (b : Nat) (F : Nat → Nat) (id mask : Nat) (hb : MaskAt w b F) (hm : mask < 65536) (h : F id &&& mask ≠ mask) :
    Calls Tryz.prog 96 #[.map (some b), .int .u32 (id : Int), .int .u16 (mask : Int)] w fun e w' => e = .returned (.bool true) ∧ MaskAt w' b (orM F id mask) ∧ Fr (fun x => x = b) w w' ∧ w'.heap.size = w.heap.size := by
  have hl := hb.look id
  have ha := u16_and (F id) mask (hb.2 id) hm
  have ho := u16_or (F id) mask (hb.2 id) hm
  have h0 : F id ||| mask ≠ 0 := by
    intro e
    have := (Nat.or_eq_zero_iff.1 e).2
    exact h (by rw [this]; simp)
  have ht : (((F id &&& mask : Nat) : Int) == (mask : Int)) = false := by rw [beq_eq_false_iff_ne]; intro e; exact h (by omega)
  obtain ⟨w1, hu, hM, hf, hs⟩ := hb.put id (F id ||| mask) (Nat.or_lt_two_pow (n := 16) (hb.2 id) hm) h0
  have hM' := Lib.hid hM
  have hs' := Lib.hid hs
  clear h hM hs h0
  go_enter Tryz.func96, Tryz.ntmps96
  go_wp2
  go_ret
  refine ⟨rfl, ?_, hf, hs'.out⟩
  have e : orM F id mask = fun x => if x = id then F id ||| mask else F x := by funext x; unfold orM; split <;> simp_all
  rw [e]; exact hM'.out
end
section
open Go Go.RowKit Go.MapKept Bth
open Go.ChangeMaps (setBlock)
set_option maxRecDepth 100000
def MaskO (w : World) (bo : Option Nat) (F : Nat → Nat) : Prop := (∃ ks, MapO w bo idV ks fun k => maskV (F k)) ∧ ∀ k, F k < 65536
theorem idInj : ∀ a b : Nat, idV a = idV b → a = b := fun a b h => by simp [idV] at h; omega
theorem MaskAt.o {w : World} {b : Nat} {F : Nat → Nat} (h : MaskAt w b F) : MaskO w (some b) F := h
theorem MaskAt.fr {S : Nat → Prop} {w w' : World} {b : Nat} {F : Nat → Nat} (h : MaskAt w b F) (hf : Fr S w w') (hs : ¬ S b) : MaskAt w' b F := by
  obtain ⟨⟨ks, hm⟩, hF⟩ := h
  exact ⟨⟨ks, hm.fr hf hs⟩, hF⟩
theorem MaskAt.lt {w : World} {b : Nat} {F : Nat → Nat} (h : MaskAt w b F) : b < w.heap.size := by
  obtain ⟨⟨ks, hm⟩, hF⟩ := h
  exact hm.lt
theorem maskV_ne {m : Nat} : maskV m ≠ none ↔ m ≠ 0 := by unfold maskV; split <;> simp_all
theorem maskV_some {m : Nat} {v : Value} (h : maskV m = some v) : v = .int .u16 (m : Int) ∧ m ≠ 0 := by
  unfold maskV at h
  split at h
  · cases h
  · rename_i hm
    simp only [Option.some.injEq] at h
    exact ⟨h.symm, hm⟩
theorem or_of_and {a b : Nat} (h : a &&& b = b) : a ||| b = a := by
  apply Nat.eq_of_testBit_eq
  intro i
  have := congrArg (fun x => x.testBit i) h
  simp only [Nat.testBit_and] at this
  rw [Nat.testBit_or]
  cases h1 : a.testBit i <;> cases h2 : b.testBit i <;> simp_all
def UpdInv (F G F1 : Nat → Nat) (todo : List Nat) (ch : Bool) : Prop :=
  todo.Nodup ∧ (∀ k, F1 k = if k ∈ todo then F k else F k ||| G k) ∧ (ch = true ↔ ∃ k, k ∉ todo ∧ F k &&& G k ≠ G k)
theorem UpdInv.start {F G : Nat → Nat} {ks : List Nat} (hn : ks.Nodup) (hks : ∀ k, k ∈ ks ↔ G k ≠ 0) : UpdInv F G F ks false := by
  have h0 : ∀ k, k ∉ ks → G k = 0 := fun k hk => Classical.byContradiction fun h => hk ((hks k).2 h)
  refine ⟨hn, fun k => ?_, ⟨fun h => by simp at h, fun ⟨k, h1, h2⟩ => ?_⟩⟩
  · by_cases h : k ∈ ks
    · rw [if_pos h]
    · rw [if_neg h, h0 k h]; simp
  · rw [h0 k h1] at h2; simp at h2
theorem UpdInv.at_ {F G F1 : Nat → Nat} {todo : List Nat} {ch : Bool} (h : UpdInv F G F1 todo ch) {k : Nat} (hk : k ∈ todo) : F1 k = F k := by rw [h.2.1, if_pos hk]
theorem UpdInv.stay {F G F1 : Nat → Nat} {todo : List Nat} {ch : Bool} (h : UpdInv F G F1 todo ch) {k : Nat} (hk : k ∈ todo) (he : F1 k &&& G k = G k) : UpdInv F G F1 (todo.erase k) ch := by
  have hF := h.at_ hk
  rw [hF] at he
  obtain ⟨hn, h1, h2⟩ := h
  refine ⟨hn.erase k, fun x => ?_, h2.trans ⟨fun ⟨x, hx, hh⟩ => ⟨x, fun hm => hx (List.mem_of_mem_erase hm), hh⟩, fun ⟨x, hx, hh⟩ => ⟨x, fun hm => ?_, hh⟩⟩⟩
  · by_cases e : x = k
    · subst e
      rw [hF, if_neg (fun hm => ((List.Nodup.mem_erase_iff hn).1 hm).1 rfl), or_of_and he]
    · rw [h1]
      have : x ∈ todo.erase k ↔ x ∈ todo := by rw [List.Nodup.mem_erase_iff hn]; exact ⟨fun h => h.2, fun h => ⟨e, h⟩⟩
      simp only [this]
  · by_cases e : x = k
    · subst e; exact hh he
    · exact hx ((List.Nodup.mem_erase_iff hn).2 ⟨e, hm⟩)
theorem UpdInv.turn {F G F1 : Nat → Nat} {todo : List Nat} {ch : Bool} (h : UpdInv F G F1 todo ch) {k : Nat} (hk : k ∈ todo) (he : F1 k &&& G k ≠ G k) : UpdInv F G (orM F1 k (G k)) (todo.erase k) true := by
  have hF := h.at_ hk
  rw [hF] at he
  obtain ⟨hn, h1, h2⟩ := h
  refine ⟨hn.erase k, fun x => ?_, ⟨fun _ => ⟨k, fun hm => ((List.Nodup.mem_erase_iff hn).1 hm).1 rfl, he⟩, fun _ => rfl⟩⟩
  unfold orM
  by_cases e : x = k
  · subst e
    rw [if_pos rfl, hF, if_neg (fun hm => ((List.Nodup.mem_erase_iff hn).1 hm).1 rfl)]
  · rw [if_neg e, h1]
    have : x ∈ todo.erase k ↔ x ∈ todo := by rw [List.Nodup.mem_erase_iff hn]; exact ⟨fun h => h.2, fun h => ⟨e, h⟩⟩
    simp only [this]
theorem UpdInv.done {F G F1 : Nat → Nat} {ch : Bool} (h : UpdInv F G F1 [] ch) : F1 = (fun k => F k ||| G k) ∧ (ch = true ↔ ∃ k, F k &&& G k ≠ G k) := by
  obtain ⟨_, h1, h2⟩ := h
  exact ⟨by funext k; rw [h1]; simp, h2.trans ⟨fun ⟨k, _, h⟩ => ⟨k, h⟩, fun ⟨k, h⟩ => ⟨k, by simp, h⟩⟩⟩
def UpdPost (b : Nat) (F G : Nat → Nat) (w : World) (e : Ending) (w' : World) : Prop :=
  ∃ ch : Bool, e = .returned (.bool ch) ∧ (ch = true ↔ ∃ k, F k &&& G k ≠ G k) ∧ MaskAt w' b (fun k => F k ||| G k) ∧ Fr (fun x => x = b) w w'
set_option maxHeartbeats 1000000 in
theorem Update_calls (w : World) (b : Nat) (F : Nat → Nat) (bo : Option Nat) (G : Nat → Nat) (hb : MaskAt w b F) (ho : MaskO w bo G) (hne : bo ≠ some b) :
    Calls Tryz.prog 63 #[.map (some b), .map bo] w (UpdPost b F G w) := by
  obtain ⟨⟨ks, hO⟩, hG⟩ := ho
  have hks : ∀ k, k ∈ ks ↔ G k ≠ 0 := fun k => hO.mem_iff.trans maskV_ne
  have hI0 := UpdInv.start (F := F) hO.nodup hks
  have hbl := hb.lt
  clear hks
  go_enter Tryz.func63, Tryz.ntmps63
  go_wp2_with (refine wpList_rangeO rfl rfl rfl hO idInj maskSetT ?_; intro w0 hrg0 hf0 hs0)
  go_frame
  go_loopg [5] ks.length (fun n c5 wr => ∃ (todo : List Nat) (F1 : Nat → Nat) (ch : Bool), RangeO wr w.heap.size bo idV ks (fun k => maskV (G k)) todo ∧ MaskAt wr b F1 ∧ UpdInv F G F1 todo ch ∧ c5 = .bool ch ∧ Fr (fun x => x = b) w wr ∧ todo.length = n)
  case atStart => exact ⟨ks, F, false, hrg0, hb.fr hf0 (fun x => x), hI0, rfl, hf0.of_nope, rfl⟩
  case round =>
    obtain ⟨todo, F1, ch, hrg, hM, hI, rfl, hfr, rfl⟩ := hrel
    go_wp2_with (refine wpList_nextO rfl rfl rfl hrg idInj ?_ ?_)
    · intro h0
      subst h0
      obtain ⟨rfl, hch⟩ := hI.done
      have H := Lib.hid hch
      clear hch
      go_wp2
      go_ret
      exact ⟨ch, rfl, H.out, hM, hfr⟩
    · intro k v w1 hk hkk hv hrg1 hf1 hs1 hen
      obtain ⟨rfl, hGk⟩ := maskV_some hv
      have hM1 := hM.fr hf1 (by omega)
      have hlen : (todo.erase k).length < todo.length := by rw [List.length_erase_of_mem hk]; have := List.length_pos_of_mem hk; omega
      have hfr1 : Fr (fun x => x = b) w w1 := hfr.then_new hf1 (fun x hx => by omega)
      have hb' : ∀ c, bo = some c → c ≠ b := fun c hc e => hne (by rw [hc, e])
      clear hs1
      unfold idV at hen
      by_cases he : F1 k &&& G k = G k
      · have hI1 := hI.stay hk he
        have he' := Lib.hid he
        clear he hI hv
        go_wp2_with (go_at_call 96; refine (Add_no _ b F1 k (G k) hM1 (hG k) he'.out).mono ?_; rintro e w2 ⟨rfl, rfl⟩)
        go_roundg (todo.erase k).length
        case measure => exact hlen
        case rel => exact ⟨_, _, _, hrg1, hM1, hI1, rfl, hfr1, rfl⟩
      · have hI1 := hI.turn hk he
        have he' := Lib.hid he
        clear he hI hv
        go_wp2_with (go_at_call 96; refine (Add_yes _ b F1 k (G k) hM1 (hG k) he'.out).mono ?_; rintro e w2 ⟨rfl, hM2, hf2, hs2⟩)
        go_roundg (todo.erase k).length
        case measure => exact hlen
        case rel => exact ⟨_, _, _, hrg1.fr hf2 (by omega) hb', hM2, hI1, rfl, hfr1.then hf2, rfl⟩
theorem NewEmpty_calls (w : World) : Calls Tryz.prog 62 #[] w fun e w' => e = .returned (.map (some w.heap.size)) ∧ MaskAt w' w.heap.size (fun _ => 0) ∧ Fr nope w w' ∧ w'.heap.size = w.heap.size + 1 := by
  have hmm := @run_makeMap Tryz.prog
  go_enter Tryz.func62, Tryz.ntmps62
  go_wp2
  go_ret
  exact ⟨rfl, ⟨⟨[], MapAt.made w idV⟩, fun _ => by simp⟩, (Fr.refl _ _).alloc _, by simp⟩
theorem Add_calls (w : World) (b : Nat) (F : Nat → Nat) (id mask : Nat) (hb : MaskAt w b F) (hm : mask < 65536) :
    Calls Tryz.prog 96 #[.map (some b), .int .u32 (id : Int), .int .u16 (mask : Int)] w fun e w' => e = .returned (.bool (decide (F id &&& mask ≠ mask))) ∧ MaskAt w' b (orM F id mask) ∧ Fr (fun x => x = b) w w' := by
  by_cases h : F id &&& mask = mask
  · refine (Add_no w b F id mask hb hm h).mono ?_
    rintro e w' ⟨rfl, rfl⟩
    have e1 : orM F id mask = F := by
      funext x; unfold orM; split
      · rename_i hx; subst hx; exact or_of_and h
      · rfl
    exact ⟨by simp [h], by rw [e1]; exact hb, Fr.refl _ _⟩
  · refine (Add_yes w b F id mask hb hm h).mono ?_
    rintro e w' ⟨rfl, h1, h2, h3⟩
    exact ⟨by simp [h], h1, h2⟩
end
section
open Go Go.RowKit Go.MapKept Bth
open Go.ChangeMaps (setBlock)
set_option maxRecDepth 100000
theorem AddRegister_calls (w : World) (b : Nat) (F : Nat → Nat) (r : R) (hb : MaskAt w b F) (ok : r.Ok) (hat : r.At w) :
    Calls Tryz.prog 93 #[.map (some b), r.val] w fun e w' => (∃ ch : Bool, e = .returned (.bool ch)) ∧ MaskAt w' b (orM F r.id r.spec) ∧ Fr (fun x => x = b) w w' := by
  have hbl := hb.lt
  go_enter Tryz.func93, Tryz.ntmps93
  go_wp2_with (first
    | (refine wpList_ID rfl rfl rfl ok hat ?_; intro w1 hf1)
    | (refine wpList_Mask rfl rfl rfl ?_; intro w2 hf2)
    | (go_at_call 96; refine (Add_calls _ b F r.id r.spec ?_ ok.spec).mono ?_; exact (hb.fr hf1 (fun x => x)).fr hf2 (fun x => x); rintro e w3 ⟨rfl, hM, hf3⟩))
  go_ret
  exact ⟨⟨_, rfl⟩, hM, (hf1.then hf2).of_nope.then hf3⟩
def ofRegs (rs : List R) : Nat → Nat := rs.foldl (fun F r => orM F r.id r.spec) (fun _ => 0)
theorem ofRegs_take {rs : List R} {k : Nat} {r : R} (h : rs[k]? = some r) : ofRegs (rs.take (k + 1)) = orM (ofRegs (rs.take k)) r.id r.spec := by
  unfold ofRegs
  rw [List.take_add_one, h]
  simp
def RegsAt (w : World) (A : Option Addr) (rs : List R) : Prop := Sl w A rs.length (rs.map R.val) ∧ ∀ r ∈ rs, r.Ok ∧ r.At w
theorem RegsAt.nope {w w' : World} {A : Option Addr} {rs : List R} (h : RegsAt w A rs) (hf : Fr nope w w') : RegsAt w' A rs := ⟨h.1.nope hf, fun r hr => ⟨(h.2 r hr).1, (h.2 r hr).2.nope hf⟩⟩
theorem RegsAt.at_ {w : World} {A : Option Addr} {rs : List R} (h : RegsAt w A rs) {k : Nat} (hk : k < rs.length) : ∃ b off r, A = some ⟨b, off, none⟩ ∧ b < w.heap.size ∧ rs[k]? = some r ∧ w.cell? ⟨b, off + k, none⟩ = some r.val ∧ r.Ok ∧ r.At w := by
  obtain ⟨b, off, u, e, hb, hu, hc⟩ := h.1.at_ hk
  have hr := List.getElem?_eq_getElem hk
  rw [List.getElem?_map, hr] at hu
  simp only [Option.map_some, Option.some.injEq] at hu
  subst hu
  have := h.2 rs[k] (List.getElem_mem hk)
  exact ⟨b, off, rs[k], e, hb, hr, hc, this.1, this.2⟩
set_option maxHeartbeats 1000000 in
theorem FromRegs_calls (w : World) (A : Option Addr) (cap : Nat) (rs : List R) (hr : RegsAt w A rs) (hl : rs.length < 9223372036854775807) :
    Calls Tryz.prog 60 #[.slice A rs.length cap] w fun e w' => e = .returned (.map (some w.heap.size)) ∧ MaskAt w' w.heap.size (ofRegs rs) ∧ Fr nope w w' := by
  go_enter Tryz.func60, Tryz.ntmps60
  go_wp2_with (go_at_call 62; refine (NewEmpty_calls _).mono ?_; rintro e w0 ⟨rfl, hM0, hf0, hs0⟩)
  clear hs0
  go_loopg [9] rs.length (fun n c9 wr => ∃ k : Nat, k ≤ rs.length ∧ c9 = .int .i64 (k : Int) ∧ MaskAt wr w.heap.size (ofRegs (rs.take k)) ∧ Fr nope w wr ∧ n = rs.length - k)
  case atStart => exact ⟨0, Nat.zero_le _, rfl, hM0, hf0, rfl⟩
  case round =>
    obtain ⟨k, hk, rfl, hM, hf, rfl⟩ := hrel
    by_cases hlt : k < rs.length
    · obtain ⟨b, off, r, rfl, hbl, hrk, hc, ok, hat⟩ := (hr.nope hf).at_ hlt
      have hT := Lib.hid (ofRegs_take hrk)
      clear hrk hr
      go_wp2_with (go_at_call 93; refine (AddRegister_calls _ _ _ r hM ok hat).mono ?_; rintro e w2 ⟨⟨ch, rfl⟩, hM2, hf2⟩)
      go_roundg (rs.length - (k + 1))
      case measure => omega
      case rel => exact ⟨k + 1, by omega, by go_num, hT.out ▸ hM2, hf.then_new hf2 (fun x hx => by omega), rfl⟩
    · go_wp2
      go_ret
      have e : rs.take k = rs := List.take_of_length_le (by omega)
      rw [e] at hM
      exact ⟨rfl, hM, hf⟩
end
section
open Go Go.RowKit Bth
set_option maxRecDepth 100000
structure SV where
  A : Option Addr
  n : Nat
  c : Nat
structure Ins where
  opc : ByteArray
  suf : SV
  ops : SV
  inp : SV
  out : SV
  term : Bool
  br : Bool
  cond : Bool
  canc : Bool
  isa : SV
  pred : SV
  succ : SV
  lin : Option Nat
  lout : Option Nat
def Ins.cells (i : Ins) : Array Value := #[.string i.opc, .slice i.suf.A i.suf.n i.suf.c, .slice i.ops.A i.ops.n i.ops.c, .slice i.inp.A i.inp.n i.inp.c, .slice i.out.A i.out.n i.out.c, .bool i.term, .bool i.br, .bool i.cond, .bool i.canc,
  .slice i.isa.A i.isa.n i.isa.c, .slice i.pred.A i.pred.n i.pred.c, .slice i.succ.A i.succ.n i.succ.c, .map i.lin, .map i.lout]
def Ins.agg (i : Ins) : Value := .agg i.cells
def O.At (w : World) (o : O) : Prop := ∀ r ∈ o.regs, r.Ok ∧ r.At w
theorem O.At.nope {w w' : World} {o : O} (h : o.At w) (hf : Fr nope w w') : o.At w' := fun r hr => ⟨(h r hr).1, (h r hr).2.nope hf⟩
def OpsAt (w : World) (s : SV) (xs : List O) : Prop := s.n = xs.length ∧ Sl w s.A xs.length (xs.map O.val) ∧ ∀ o ∈ xs, o.At w
theorem OpsAt.nope {w w' : World} {s : SV} {xs : List O} (h : OpsAt w s xs) (hf : Fr nope w w') : OpsAt w' s xs := ⟨h.1, h.2.1.nope hf, fun o ho => (h.2.2 o ho).nope hf⟩
theorem OpsAt.at_ {w : World} {s : SV} {xs : List O} (h : OpsAt w s xs) {k : Nat} (hk : k < xs.length) : ∃ b off o, s.A = some ⟨b, off, none⟩ ∧ b < w.heap.size ∧ xs[k]? = some o ∧ w.cell? ⟨b, off + k, none⟩ = some o.val ∧ o.At w := by
  obtain ⟨b, off, u, e, hb, hu, hc⟩ := h.2.1.at_ hk
  have hr := List.getElem?_eq_getElem hk
  rw [List.getElem?_map, hr] at hu
  simp only [Option.map_some, Option.some.injEq] at hu
  subst hu
  exact ⟨b, off, xs[k], e, hb, hr, hc, h.2.2 _ (List.getElem_mem hk)⟩
def regsOf (xs : List O) : List R := xs.flatMap O.regs
theorem O.regs_le (o : O) : o.regs.length ≤ 2 := by
  cases o with
  | mem m => simp only [O.regs, M.regs]; cases m.base <;> cases m.index <;> simp
  | _ => simp [O.regs]
theorem regsOf_le (xs : List O) : (regsOf xs).length ≤ 2 * xs.length := by
  induction xs with
  | nil => simp [regsOf]
  | cons o xs ih =>
    have := o.regs_le
    have e : regsOf (o :: xs) = o.regs ++ regsOf xs := rfl
    rw [e, List.length_append, List.length_cons]; omega
theorem regsOf_take {xs : List O} {k : Nat} {o : O} (h : xs[k]? = some o) : regsOf (xs.take (k + 1)) = regsOf (xs.take k) ++ o.regs := by
  unfold regsOf
  rw [List.take_add_one, h]
  simp
theorem regs_one (rs : List R) : ∀ u ∈ rs.map R.val, u.oneCell' = true := by
  intro u hu
  obtain ⟨r, _, rfl⟩ := List.mem_map.1 hu
  obtain ⟨T, v, e⟩ := r.val_iface
  rw [e]; simp [Value.oneCell']
theorem regsOf_at {w : World} {s : SV} {xs : List O} (h : OpsAt w s xs) : ∀ r ∈ regsOf xs, r.Ok ∧ r.At w := by
  intro r hr
  obtain ⟨o, ho, hr⟩ := List.mem_flatMap.1 hr
  exact h.2.2 o ho r hr
def GivesRegs (w : World) (rs : List R) (e : Ending) (w' : World) : Prop := ∃ A c, e = .returned (.slice A rs.length c) ∧ RegsAt w' A rs ∧ Fr nope w w'
theorem OpRegs_calls (w : World) (o : O) (hat : o.At w) : Calls Tryz.prog 94 #[o.val] w (GivesRegs w o.regs) := by
  refine (Registers_calls w o).mono ?_
  rintro e w' ⟨A, c, rfl, hs, hf⟩
  rw [List.length_map] at hs ⊢
  exact ⟨A, c, rfl, ⟨hs, hat.nope hf⟩, hf⟩
theorem Sl.src {w : World} {A : Option Addr} {n : Nat} {xs : List Value} (h : Sl w A n xs) : 0 < n → ∃ ad, A = some ad ∧ ∀ j u, xs[j]? = some u → w.cell? (ad.add j) = some u := by
  intro hn
  obtain ⟨b, off, rfl, hb, hc⟩ := h.2 hn
  exact ⟨_, rfl, fun j u hu => by
    have := hc j u hu
    have e : (⟨b, off, none⟩ : Addr).add j = ⟨b, off + j, none⟩ := by unfold Addr.add; split <;> simp_all
    rw [e]; exact this⟩
def GivesOwnRegs (w : World) (rs : List R) (e : Ending) (w' : World) : Prop := ∃ A c, e = .returned (.slice A rs.length c) ∧ w'.ownsRow w.heap.size 147 1 (.slice A rs.length c) rs.length (rs.map R.val) ∧ (∀ r ∈ rs, r.Ok ∧ r.At w') ∧ Fr nope w w'
theorem GivesOwnRegs.regs {w : World} {rs : List R} {e : Ending} {w' : World} (h : GivesOwnRegs w rs e w') : GivesRegs w rs e w' := by
  obtain ⟨A, c, h1, h2, h3, h4⟩ := h
  exact ⟨A, c, h1, ⟨own_Sl h2, h3⟩, h4⟩
theorem InsRegisters_own (w : World) (i : Ins) (xs : List O) (hx : OpsAt w i.ops xs) (hl : xs.length ≤ 1073741824) :
    Calls Tryz.prog 66 #[i.agg] w (GivesOwnRegs w (regsOf xs)) := by
  obtain ⟨opc, suf, ⟨A, n, c⟩, inp, out, term, br, cond, canc, isa, pred, succ, lin, lout⟩ := i
  obtain ⟨rfl, hx1, hx2⟩ : n = xs.length ∧ _ := hx
  have hx : OpsAt w ⟨A, xs.length, c⟩ xs := ⟨rfl, hx1, hx2⟩
  clear hx1 hx2
  simp only [Ins.agg, Ins.cells]
  go_enter Tryz.func66, Tryz.ntmps66
  go_wp2
  go_loopg [3, 9] xs.length (fun n c3 c9 wr => ∃ k : Nat, k ≤ xs.length ∧ c9 = .int .i64 (k : Int) ∧ wr.ownsRow w.heap.size 147 1 c3 (regsOf (xs.take k)).length ((regsOf (xs.take k)).map R.val) ∧ Fr nope w wr ∧ n = xs.length - k)
  case atStart => exact ⟨0, Nat.zero_le _, rfl, by simpa [regsOf] using own_nil _ _ _ _, (Fr.refl _ _).alloc _, rfl⟩
  case round =>
    obtain ⟨k, hk, rfl, hown, hf, rfl⟩ := hrel
    by_cases hlt : k < xs.length
    · obtain ⟨b, off, o, hA, hbl, hok, hc, hat⟩ := (hx.nope hf).at_ hlt
      simp only at hA
      subst hA
      have hT := Lib.hid (regsOf_take hok)
      have hB1 := regsOf_le (xs.take k)
      have hB2 := o.regs_le
      have hB3 : (xs.take k).length ≤ k := by rw [List.length_take]; omega
      clear hok hx
      go_wp2_with (first
        | (go_at_call 94; refine (OpRegs_calls _ o hat).mono ?_; rintro e w2 ⟨A2, c2, rfl, ⟨hS2, _⟩, hf2⟩)
        | (have hown2 := own_fr hown hf2 (fun _ _ x => x); refine wpList_app (v := u3) rfl rfl Tryz.underlying140 infoReg rfl (by omega) rfl hown2 rfl (news := o.regs.map R.val) (by simp) (Sl.src hS2) (regs_one _) (by simp only [maxLen]; omega) (by omega) (by have := hf.size; have := hf2.size; omega) ?_; intro v3 w3 hown3 hf3 _))
      go_roundg (xs.length - (k + 1))
      case measure => omega
      case rel => exact ⟨k + 1, by omega, by go_num, by rw [hT.out]; simpa using hown3, (hf.then hf2).then_new hf3 (fun x hx he => by have := own_base hown x he; omega), rfl⟩
    · go_wp2
      go_ret
      have e : xs.take k = xs := List.take_of_length_le (by omega)
      rw [e] at hown
      obtain ⟨A', c', rfl, _, _⟩ := own_slice hown
      exact ⟨A', c', rfl, hown, regsOf_at (hx.nope hf), hf⟩
end
section
open Go Go.RowKit Bth
set_option maxRecDepth 100000
def O.asReg : O → Option R
  | .reg r => some r
  | _ => none
def outRegs (outs : List O) : List R := outs.filterMap O.asReg
theorem outRegs_take_none {ys : List O} {j : Nat} {o : O} (h : ys[j]? = some o) (hp : o.asReg = none) : outRegs (ys.take (j + 1)) = outRegs (ys.take j) := by
  unfold outRegs; rw [List.take_add_one, h]; simp [hp]
theorem outRegs_take_some {ys : List O} {j : Nat} {o : O} {r : R} (h : ys[j]? = some o) (hp : o.asReg = some r) : outRegs (ys.take (j + 1)) = outRegs (ys.take j) ++ [r] := by
  unfold outRegs; rw [List.take_add_one, h]; simp [hp]
theorem outRegs_le (ys : List O) : (outRegs ys).length ≤ ys.length := List.length_filterMap_le _ _
theorem outRegs_at {w : World} {s : SV} {xs : List O} (h : OpsAt w s xs) : ∀ r ∈ outRegs xs, r.Ok ∧ r.At w := by
  intro r hr
  obtain ⟨o, ho, hr⟩ := List.mem_filterMap.1 hr
  cases o with
  | reg r' => cases hr; exact h.2.2 _ ho _ (by simp [O.regs])
  | _ => cases hr
set_option maxHeartbeats 1000000 in
theorem OutputRegisters_own (w : World) (i : Ins) (xs : List O) (hx : OpsAt w i.out xs) (hl : xs.length ≤ 1073741824) :
    Calls Tryz.prog 64 #[i.agg] w (GivesOwnRegs w (outRegs xs)) := by
  obtain ⟨opc, suf, ops, inp, ⟨A, n, c⟩, term, br, cond, canc, isa, pred, succ, lin, lout⟩ := i
  obtain ⟨rfl, hx1, hx2⟩ : n = xs.length ∧ _ := hx
  have hx : OpsAt w ⟨A, xs.length, c⟩ xs := ⟨rfl, hx1, hx2⟩
  clear hx1 hx2
  simp only [Ins.agg, Ins.cells]
  go_enter Tryz.func64, Tryz.ntmps64
  go_wp2
  go_loopg [3, 11] xs.length (fun n c3 c11 wr => ∃ k : Nat, k ≤ xs.length ∧ c11 = .int .i64 (k : Int) ∧ wr.ownsRow w.heap.size 147 1 c3 (outRegs (xs.take k)).length ((outRegs (xs.take k)).map R.val) ∧ Fr nope w wr ∧ n = xs.length - k)
  case atStart => exact ⟨0, Nat.zero_le _, rfl, by simpa [outRegs] using own_nil _ _ _ _, (Fr.refl _ _).alloc _, rfl⟩
  case round =>
    obtain ⟨k, hk, rfl, hown, hf, rfl⟩ := hrel
    by_cases hlt : k < xs.length
    · obtain ⟨b, off, o, hA, hbl, hok, hc, hat⟩ := (hx.nope hf).at_ hlt
      simp only at hA
      subst hA
      have hB1 := outRegs_le (xs.take k)
      have hB3 : (xs.take k).length ≤ k := by rw [List.length_take]; omega
      have hta := fun W => O.ta_Register W 175 o
      cases hr : o.asReg with
      | none =>
        have hT := Lib.hid (outRegs_take_none hok hr)
        have hir : o.isReg = false := by cases o <;> simp_all [O.asReg, O.isReg]
        clear hok hx hr
        rw [hir] at hta
        obtain ⟨T, v, hv⟩ := o.val_iface
        rw [hv] at hta hc
        clear hv hir
        simp only [Bool.false_eq_true, if_false] at hta
        go_wp2
        go_roundg (xs.length - (k + 1))
        case measure => omega
        case rel => exact ⟨k + 1, by omega, by go_num, by rw [hT.out]; exact hown, hf, rfl⟩
      | some r =>
        have hT := Lib.hid (outRegs_take_some hok hr)
        have hir : o = .reg r := by cases o <;> simp_all [O.asReg]
        subst hir
        clear hok hx hr
        simp only [O.val, O.isReg, if_true] at hta hc
        obtain ⟨T, v, hv⟩ := r.val_iface
        rw [hv] at hta hc
        have h1 : ∀ u ∈ [R.val r], u.oneCell' = true := regs_one [r]
        rw [hv] at h1
        go_wp2_with (refine wpList_app (v := u3) rfl rfl Tryz.underlying140 infoReg rfl (by omega) rfl (own_fr hown ((Fr.refl nope _).alloc _) (fun _ _ x => x)) rfl (news := [.iface T v]) rfl (one_new _ _ _ _ rfl) h1 (by simp only [maxLen]; omega) (by omega) (by have := hf.size; simp; omega) ?_; intro v3 w3 hown3 hf3 _)
        go_roundg (xs.length - (k + 1))
        case measure => omega
        case rel => exact ⟨k + 1, by omega, by go_num, by rw [hT.out, List.map_append, List.length_append, show [r].map R.val = [.iface T v] from by rw [← hv]; rfl]; exact hown3, (hf.alloc _).then_new hf3 (fun x hx he => by have := own_base hown x he; omega), rfl⟩
    · go_wp2
      go_ret
      have e : xs.take k = xs := List.take_of_length_le (by omega)
      rw [e] at hown
      obtain ⟨A', c', rfl, _, _⟩ := own_slice hown
      exact ⟨A', c', rfl, hown, outRegs_at (hx.nope hf), hf⟩
theorem OutputRegisters_calls (w : World) (i : Ins) (xs : List O) (hx : OpsAt w i.out xs) (hl : xs.length ≤ 1073741824) :
    Calls Tryz.prog 64 #[i.agg] w (GivesRegs w (outRegs xs)) := (OutputRegisters_own w i xs hx hl).mono fun _ _ h => h.regs
theorem IsUncond_calls (w : World) (i : Ins) :
    Calls Tryz.prog 59 #[i.agg] w fun e w' => e = .returned (.bool (i.br && !i.cond)) ∧ Fr nope w w' := by
  obtain ⟨opc, suf, ops, inp, out, term, br, cond, canc, isa, pred, succ, lin, lout⟩ := i
  simp only [Ins.agg, Ins.cells]
  cases br
  all_goals
    go_enter Tryz.func59, Tryz.ntmps59
    go_wp2
    go_ret
    exact ⟨rfl, (Fr.refl _ _).alloc _⟩
def targetOf (br : Bool) (ops : List O) : Option ByteArray :=
  match br, ops with
  | true, .label s :: _ => some s
  | _, _ => none
theorem cell_new (w : World) (v : Value) (t : TypeId) (b : Nat) (hb : b = w.heap.size) : (w.alloc (.cells #[v] t)).cell? ⟨b, 0, none⟩ = some v := by
  subst hb
  rw [cell_of_row _ _ 0 _ _ (0, 0) (heap_alloc_new w _)]
  rfl
theorem TargetLabel_none (w : World) (i : Ins) (xs : List O) (hx : OpsAt w i.ops xs) (ht : targetOf i.br xs = none) :
    Calls Tryz.prog 58 #[i.agg] w fun e w' => e = .returned (.pointer none) ∧ Fr nope w w' := by
  obtain ⟨opc, suf, ⟨A, n, c⟩, inp, out, term, br, cond, canc, isa, pred, succ, lin, lout⟩ := i
  obtain ⟨rfl, hx1, hx2⟩ : n = xs.length ∧ _ := hx
  have hx : OpsAt w ⟨A, xs.length, c⟩ xs := ⟨rfl, hx1, hx2⟩
  clear hx1 hx2
  simp only [Ins.agg, Ins.cells] at ht ⊢
  cases br with
  | false =>
    go_enter Tryz.func58, Tryz.ntmps58
    go_wp2
    go_ret
    exact ⟨rfl, (Fr.refl _ _).alloc _⟩
  | true =>
    cases xs with
    | nil =>
      simp only [List.length_nil]
      go_enter Tryz.func58, Tryz.ntmps58
      go_wp2
      go_ret
      exact ⟨rfl, (Fr.refl _ _).alloc _⟩
    | cons o xs =>
      obtain ⟨b, off, o', hA, hbl, hok, hc, hat⟩ := hx.at_ (k := 0) (by simp)
      simp only [List.getElem?_cons_zero, Option.some.injEq] at hok
      subst hok
      simp only at hA
      subst hA
      have hlab : o.isLabel = false := by cases o <;> simp_all [targetOf, O.isLabel]
      have hta := fun W => O.ta_LabelRef W 175 o
      rw [hlab] at hta
      obtain ⟨T, v, hv⟩ := o.val_iface
      rw [hv] at hta hc
      rw [Nat.add_zero] at hc
      generalize o.labelOf = lab at hta
      clear hx hv ht hat
      have hn : (o :: xs).length = xs.length + 1 := rfl
      rw [hn]
      have h0 : (((xs.length + 1 : Nat) : Int) == 0) = false := by simp; omega
      have h00 : ((xs.length + 1 : Nat) : Int) ≠ 0 := by omega
      have h1 : (0 : Int) < ((xs.length + 1 : Nat) : Int) := by omega
      have h2 : (0 : Nat) < xs.length + 1 := by omega
      go_enter Tryz.func58, Tryz.ntmps58
      go_wp2
      go_ret
      exact ⟨rfl, (Fr.refl _ _).alloc _⟩
theorem TargetLabel_some (w : World) (i : Ins) (xs : List O) (s : ByteArray) (hx : OpsAt w i.ops xs) (ht : targetOf i.br xs = some s) :
    Calls Tryz.prog 58 #[i.agg] w fun e w' => ∃ b, e = .returned (.pointer (some ⟨b, 0, none⟩)) ∧ b < w'.heap.size ∧ w'.cell? ⟨b, 0, none⟩ = some (.string s) ∧ Fr nope w w' := by
  obtain ⟨opc, suf, ⟨A, n, c⟩, inp, out, term, br, cond, canc, isa, pred, succ, lin, lout⟩ := i
  obtain ⟨rfl, hx1, hx2⟩ : n = xs.length ∧ _ := hx
  have hx : OpsAt w ⟨A, xs.length, c⟩ xs := ⟨rfl, hx1, hx2⟩
  clear hx1 hx2
  simp only [Ins.agg, Ins.cells] at ht ⊢
  obtain ⟨rfl, xs', rfl⟩ : br = true ∧ ∃ xs', xs = .label s :: xs' := by
    unfold targetOf at ht
    split at ht
    · injection ht with ht; subst ht; exact ⟨rfl, _, rfl⟩
    · cases ht
  obtain ⟨b, off, o', hA, hbl, hok, hc, hat⟩ := hx.at_ (k := 0) (by simp)
  simp only [List.getElem?_cons_zero, Option.some.injEq] at hok
  subst hok
  simp only at hA
  subst hA
  have hta := fun W => O.ta_LabelRef W 175 (.label s)
  simp only [O.val, O.isLabel, O.labelOf] at hta hc
  rw [Nat.add_zero] at hc
  clear hx ht hat
  have hn : (O.label s :: xs').length = xs'.length + 1 := rfl
  rw [hn]
  have h0 : (((xs'.length + 1 : Nat) : Int) == 0) = false := by simp; omega
  have h00 : ((xs'.length + 1 : Nat) : Int) ≠ 0 := by omega
  have h1 : (0 : Int) < ((xs'.length + 1 : Nat) : Int) := by omega
  have h2 : (0 : Nat) < xs'.length + 1 := by omega
  go_enter Tryz.func58, Tryz.ntmps58
  go_wp2
  go_ret
  exact ⟨_, rfl, by simp, cell_new _ _ _ _ (by simp), ((Fr.refl _ _).alloc _).alloc _⟩
end
section
open Go Go.RowKit Bth
set_option maxRecDepth 100000
inductive Nd where
  | ins (b : Nat)
  | label (s : ByteArray)
  | comment (b : Nat)
def ptr (b : Nat) : Value := .pointer (some ⟨b, 0, none⟩)
def Nd.val : Nd → Value
  | .ins b => .iface 118 (.pointer (some ⟨b, 0, none⟩))
  | .label s => .iface 123 (.string s)
  | .comment b => .iface 178 (.pointer (some ⟨b, 0, none⟩))
def Nd.insOf : Nd → Option Nat
  | .ins b => some b
  | _ => none
def insOf (l : List Nd) : List Nat := l.filterMap Nd.insOf
theorem insOf_take_none {l : List Nd} {j : Nat} {o : Nd} (h : l[j]? = some o) (hp : o.insOf = none) : insOf (l.take (j + 1)) = insOf (l.take j) := by
  unfold insOf; rw [List.take_add_one, h]; simp [hp]
theorem insOf_take_some {l : List Nd} {j : Nat} {o : Nd} {b : Nat} (h : l[j]? = some o) (hp : o.insOf = some b) : insOf (l.take (j + 1)) = insOf (l.take j) ++ [b] := by
  unfold insOf; rw [List.take_add_one, h]; simp [hp]
theorem insOf_le (l : List Nd) : (insOf l).length ≤ l.length := List.length_filterMap_le _ _
theorem Nd.val_iface (n : Nd) : ∃ T v, n.val = .iface T v := by cases n <;> exact ⟨_, _, rfl⟩
section
variable (w : World) (S : TypeId)
theorem ta_Ins_ins (x : Value) : (Instr.typeAssert (.iface 118 x) S 118 true).run Tryz.prog w = .ok (.tuple #[x, .bool true]) w := by kernel_rfl
theorem ta_Ins_label (x : Value) : (Instr.typeAssert (.iface 123 x) S 118 true).run Tryz.prog w = .ok (.tuple #[.pointer none, .bool false]) w := by kernel_rfl
theorem ta_Ins_comment (x : Value) : (Instr.typeAssert (.iface 178 x) S 118 true).run Tryz.prog w = .ok (.tuple #[.pointer none, .bool false]) w := by kernel_rfl
theorem ta_Label_ins (x : Value) : (Instr.typeAssert (.iface 118 x) S 123 true).run Tryz.prog w = .ok (.tuple #[.string ⟨#[]⟩, .bool false]) w := by kernel_rfl
theorem ta_Label_label (x : Value) : (Instr.typeAssert (.iface 123 x) S 123 true).run Tryz.prog w = .ok (.tuple #[x, .bool true]) w := by kernel_rfl
theorem ta_Label_comment (x : Value) : (Instr.typeAssert (.iface 178 x) S 123 true).run Tryz.prog w = .ok (.tuple #[.string ⟨#[]⟩, .bool false]) w := by kernel_rfl
theorem ta_Comment_comment (x : Value) : (Instr.typeAssert (.iface 178 x) S 178 true).run Tryz.prog w = .ok (.tuple #[x, .bool true]) w := by kernel_rfl
end
theorem infoPtr : (Tryz.prog.info? 118).map (fun i => (i.zero, i.size, i.bytes)) = some (some (.pointer none), 1, 8) := by kernel_rfl
theorem infoNode : (Tryz.prog.info? 127).map (fun i => (i.zero, i.size, i.bytes)) = some (some .nilIface, 1, 16) := by kernel_rfl
def GivesOwn (w : World) (e : TypeId) (xs : List Value) (en : Ending) (w' : World) : Prop := ∃ v, en = .returned v ∧ w'.ownsRow w.heap.size e 1 v xs.length xs ∧ Fr nope w w'
set_option maxHeartbeats 1000000 in
theorem Instructions_calls (w : World) (fb : Nat) (A : Option Addr) (c : Nat) (l : List Nd) (hc5 : w.cell? ⟨fb, 5, none⟩ = some (.slice A l.length c)) (hS : Sl w A l.length (l.map Nd.val)) (hl : l.length ≤ 1073741824) :
    Calls Tryz.prog 57 #[.pointer (some ⟨fb, 0, none⟩)] w (GivesOwn w 118 ((insOf l).map ptr)) := by
  go_enter Tryz.func57, Tryz.ntmps57
  go_wp2
  go_loopg [3, 13] l.length (fun n c3 c13 wr => ∃ k : Nat, k ≤ l.length ∧ c13 = .int .i64 (k : Int) ∧ wr.ownsRow w.heap.size 118 1 c3 (insOf (l.take k)).length ((insOf (l.take k)).map ptr) ∧ Fr nope w wr ∧ n = l.length - k)
  case atStart => exact ⟨0, Nat.zero_le _, rfl, by simpa [insOf] using own_nil _ _ _ _, (Fr.refl _ _), rfl⟩
  case round =>
    obtain ⟨k, hk, rfl, hown, hf, rfl⟩ := hrel
    by_cases hlt : k < l.length
    · obtain ⟨b, off, u, rfl, hbl, hu, hc⟩ := (hS.nope hf).at_ hlt
      rw [List.getElem?_map] at hu
      obtain ⟨o, hok, rfl⟩ := Option.map_eq_some_iff.1 hu
      have hB1 := insOf_le (l.take k)
      have hB3 : (l.take k).length ≤ k := by rw [List.length_take]; omega
      clear hS hu
      cases o with
      | label s =>
        have hT := Lib.hid (insOf_take_none hok rfl)
        have hta := fun W => ta_Ins_label W 127 (.string s)
        simp only [Nd.val] at hc
        clear hok
        go_wp2
        go_roundg (l.length - (k + 1))
        case measure => omega
        case rel => exact ⟨k + 1, by omega, by go_num, by rw [hT.out]; exact hown, hf, rfl⟩
      | comment s =>
        have hT := Lib.hid (insOf_take_none hok rfl)
        have hta := fun W => ta_Ins_comment W 127 (.pointer (some ⟨s, 0, none⟩))
        simp only [Nd.val] at hc
        clear hok
        go_wp2
        go_roundg (l.length - (k + 1))
        case measure => omega
        case rel => exact ⟨k + 1, by omega, by go_num, by rw [hT.out]; exact hown, hf, rfl⟩
      | ins x =>
        have hT := Lib.hid (insOf_take_some hok rfl)
        have hta := fun W => ta_Ins_ins W 127 (.pointer (some ⟨x, 0, none⟩))
        simp only [Nd.val] at hc
        clear hok
        go_wp2_with (refine wpList_app (v := u3) rfl rfl Tryz.underlying129 infoPtr rfl (by omega) rfl (own_fr hown ((Fr.refl nope _).alloc _) (fun _ _ x => x)) rfl (news := [.pointer (some ⟨x, 0, none⟩)]) rfl (one_new _ _ _ _ rfl) (by simp [Value.oneCell']) (by simp only [maxLen]; omega) (by omega) (by have := hf.size; simp; omega) ?_; intro v3 w3 hown3 hf3 _)
        go_roundg (l.length - (k + 1))
        case measure => omega
        case rel => exact ⟨k + 1, by omega, by go_num, by rw [hT.out, List.map_append, List.length_append]; exact hown3, (hf.alloc _).then_new hf3 (fun x hx he => by have := own_base hown x he; omega), rfl⟩
    · go_wp2
      go_ret
      have e : l.take k = l := List.take_of_length_le (by omega)
      rw [e] at hown
      exact ⟨_, rfl, by simpa using hown, hf⟩
end
section
open Go Go.RowKit Bth
set_option maxRecDepth 100000
structure Fn where
  nodes : Value
  lt : Option Nat
  al : Option Nat
  isa : Value
def Fn.cells (f : Fn) : Array Value := #[.string ⟨#[]⟩, .int .u16 0, .slice none 0 0, .slice none 0 0, .int .i64 0, f.nodes, .map f.lt, .map f.al, f.isa]
def FnAt (w : World) (fb : Nat) (f : Fn) : Prop := w.heap[fb]? = some (.cells f.cells 99 (0, 0))
theorem FnAt.fr {S : Nat → Prop} {w w' : World} {fb : Nat} {f : Fn} (h : FnAt w fb f) (hf : Fr S w w') (hs : ¬ S fb) : FnAt w' fb f := hf.heap h hs
theorem FnAt.c5 {w : World} {fb : Nat} {f : Fn} (h : FnAt w fb f) : w.cell? ⟨fb, 5, none⟩ = some f.nodes := by rw [cell_of_row w fb 5 _ _ (0, 0) h]; rfl
theorem FnAt.c6 {w : World} {fb : Nat} {f : Fn} (h : FnAt w fb f) : w.cell? ⟨fb, 6, none⟩ = some (.map f.lt) := by rw [cell_of_row w fb 6 _ _ (0, 0) h]; rfl
theorem FnAt.c7 {w : World} {fb : Nat} {f : Fn} (h : FnAt w fb f) : w.cell? ⟨fb, 7, none⟩ = some (.map f.al) := by rw [cell_of_row w fb 7 _ _ (0, 0) h]; rfl
theorem FnAt.c8 {w : World} {fb : Nat} {f : Fn} (h : FnAt w fb f) : w.cell? ⟨fb, 8, none⟩ = some f.isa := by rw [cell_of_row w fb 8 _ _ (0, 0) h]; rfl
theorem setCell_heap {w : World} {b k : Nat} {cs : Array Value} {t : TypeId} {fr : Nat × Nat} (h : w.heap[b]? = some (.cells cs t fr)) (v : Value) : (w.setCell ⟨b, k, none⟩ v).heap[b]? = some (.cells (cs.setIfInBounds k v) t fr) := by
  simp only [World.setCell, Array.getElem?_modify, h, if_true, Option.map_some]
  rfl
def GivesNode (w : World) (fb : Nat) (f : Fn) (nd : Nd) (base n : Nat) (xs : List Value) (e : Ending) (w' : World) : Prop :=
  e = .returned (.tuple #[]) ∧ ∃ v, FnAt w' fb { f with nodes := v } ∧ w'.ownsRow base 127 1 v (n + 1) (xs ++ [nd.val]) ∧ Fr (fun b => b = fb ∨ f.nodes.ownBlock = some b) w w' ∧ (v.ownBlock = f.nodes.ownBlock ∨ ∃ b, v.ownBlock = some b ∧ w.heap.size ≤ b)
theorem AddNode_calls (w : World) (fb : Nat) (f : Fn) (nd : Nd) (base : Nat) (n : Nat) (xs : List Value) (hfn : FnAt w fb f) (hown : w.ownsRow base 127 1 f.nodes n xs) (hn : n ≤ 1073741824) (hb : fb < base) (hbs : base ≤ w.heap.size) :
    Calls Tryz.prog 91 #[.pointer (some ⟨fb, 0, none⟩), nd.val] w (GivesNode w fb f nd base n xs) := by
  obtain ⟨nodes, lt, al, isa⟩ := f
  simp only at hown
  obtain ⟨A, c, rfl, _, _⟩ := own_slice hown
  have hbl := lt_of_heap hfn
  have h5 := hfn.c5
  obtain ⟨T, v, hv⟩ := nd.val_iface
  unfold GivesNode
  rw [hv]
  have h1 : ∀ u ∈ [Value.iface T v], u.oneCell' = true := by simp [Value.oneCell']
  simp only at h5
  go_enter Tryz.func91, Tryz.ntmps91
  go_wp2_with (refine wpList_app (v := .slice A n c) rfl rfl Tryz.underlying94 infoNode rfl (by omega) rfl (own_fr hown ((Fr.refl nope _).alloc _) (fun _ _ x => x)) rfl (news := [.iface T v]) rfl (one_new _ _ _ _ rfl) h1 (by simp only [maxLen]; omega) (by omega) (by simp; omega) ?hk)
  case hk =>
    intro v3 w3 hown3 hf3 hb3
    obtain ⟨A3, c3, rfl, _, _⟩ := own_slice hown3
    have hfn3 : w3.heap[fb]? = some (.cells (Fn.mk (.slice A n c) lt al isa).cells 99 (0, 0)) := hf3.heap (((Fr.refl nope w).alloc _).heap hfn (fun x => x)) (fun he => by have := own_base hown _ he; omega)
    have hz : w3.frozen? ⟨fb, 5, none⟩ = false := by simp [World.frozen?, hfn3]
    have hc5 := FnAt.c5 hfn3
    simp only at hc5
    go_wp2
    go_end0
    refine ⟨rfl, _, setCell_heap hfn3 _, ?_, ?_, ?_⟩
    · refine own_fr hown3 ((Fr.refl (fun b => b = fb) w3).setCell (.inl rfl) _) (fun b hb2 he => ?_)
      have := own_base hown3 b hb2
      omega
    · refine Fr.setCell (a := w) (b := w3) (((Fr.refl _ w).alloc _).then (hf3.mono (fun x _ h => .inr h))) (.inl (.inl rfl)) _
    · rcases hb3 with h | h
      · exact .inl h
      · exact .inr ⟨_, h, by simp⟩
theorem AddInstruction_calls (w : World) (fb : Nat) (f : Fn) (b : Nat) (base : Nat) (n : Nat) (xs : List Value) (hfn : FnAt w fb f) (hown : w.ownsRow base 127 1 f.nodes n xs) (hn : n ≤ 1073741824) (hb : fb < base) (hbs : base ≤ w.heap.size) :
    Calls Tryz.prog 53 #[.pointer (some ⟨fb, 0, none⟩), .pointer (some ⟨b, 0, none⟩)] w (GivesNode w fb f (.ins b) base n xs) := by
  go_enter Tryz.func53, Tryz.ntmps53
  go_wp2_with (go_at_call 91; refine (AddNode_calls w fb f (.ins b) base n xs hfn hown hn hb hbs).mono ?_; rintro e w2 ⟨rfl, hG⟩)
  go_end0
  exact ⟨rfl, hG⟩
theorem AddLabel_calls (w : World) (fb : Nat) (f : Fn) (s : ByteArray) (base : Nat) (n : Nat) (xs : List Value) (hfn : FnAt w fb f) (hown : w.ownsRow base 127 1 f.nodes n xs) (hn : n ≤ 1073741824) (hb : fb < base) (hbs : base ≤ w.heap.size) :
    Calls Tryz.prog 54 #[.pointer (some ⟨fb, 0, none⟩), .string s] w (GivesNode w fb f (.label s) base n xs) := by
  go_enter Tryz.func54, Tryz.ntmps54
  go_wp2_with (go_at_call 91; refine (AddNode_calls w fb f (.label s) base n xs hfn hown hn hb hbs).mono ?_; rintro e w2 ⟨rfl, hG⟩)
  go_end0
  exact ⟨rfl, hG⟩
theorem NewComment_calls (w : World) (A : Option Addr) (n c : Nat) :
    Calls Tryz.prog 92 #[.slice A n c] w fun e w' => e = .returned (.pointer (some ⟨w.heap.size, 0, none⟩)) ∧ w' = w.alloc (.cells #[.slice A n c] 180) := by
  go_enter Tryz.func92, Tryz.ntmps92
  go_wp2
  go_ret
  exact ⟨rfl, rfl⟩
theorem AddComment_calls (w : World) (fb : Nat) (f : Fn) (A : Option Addr) (m c : Nat) (base : Nat) (n : Nat) (xs : List Value) (hfn : FnAt w fb f) (hown : w.ownsRow base 127 1 f.nodes n xs) (hn : n ≤ 1073741824) (hb : fb < base) (hbs : base ≤ w.heap.size) :
    Calls Tryz.prog 55 #[.pointer (some ⟨fb, 0, none⟩), .slice A m c] w fun e w' => GivesNode (w.alloc (.cells #[.slice A m c] 180)) fb f (.comment w.heap.size) base n xs e w' := by
  go_enter Tryz.func55, Tryz.ntmps55
  go_wp2_with (first
    | (go_at_call 92; refine (NewComment_calls w A m c).mono ?_; rintro e w1 ⟨rfl, rfl⟩)
    | (go_at_call 91; refine (AddNode_calls _ fb f (.comment w.heap.size) base n xs (hfn.fr ((Fr.refl nope w).alloc _) (fun x => x)) (own_fr hown ((Fr.refl nope w).alloc _) (fun _ _ x => x)) hn hb (by simp; omega)).mono ?_; rintro e w2 ⟨rfl, hG⟩))
  go_end0
  exact ⟨rfl, hG⟩
end
section
open Go Go.RowKit Bth
set_option maxRecDepth 100000
def orF (fl : List Nat) : Nat := fl.foldl (fun a b => a ||| b) 0
theorem orF_take {fl : List Nat} {k b : Nat} (h : fl[k]? = some b) : orF (fl.take (k + 1)) = orF (fl.take k) ||| b := by
  unfold orF; rw [List.take_add_one, h]; simp
theorem ofInt_u8 (a : Nat) (h : a < 256) : (BitVec.ofInt 8 (a : Int)).toNat = a := by
  rw [BitVec.toNat_ofInt]; omega
theorem wrap_u8 (a : Nat) (h : a < 256) : IntKind.u8.wrap (a : Int) = (a : Int) := by
  show ((BitVec.ofInt 8 (a : Int)).toNat : Int) = _
  rw [ofInt_u8 a h]
theorem u8_or (a b : Nat) (ha : a < 256) (hb : b < 256) : Go.bits .or .u8 (a : Int) (b : Int) = ((a ||| b : Nat) : Int) := by
  have hx : a ||| b < 2 ^ 8 := Nat.or_lt_two_pow (by omega) (by omega)
  show IntKind.u8.wrap ((BitVec.ofInt 8 (a : Int) ||| BitVec.ofInt 8 (b : Int)).toNat : Int) = _
  rw [BitVec.toNat_or, ofInt_u8 a ha, ofInt_u8 b hb, wrap_u8 _ (by omega)]
theorem orF_lt (fl : List Nat) (h : ∀ x ∈ fl, x < 256) : orF fl < 256 := by
  unfold orF
  have key : ∀ (l : List Nat) (a : Nat), a < 256 → (∀ x ∈ l, x < 256) → l.foldl (fun a b => a ||| b) a < 256 := by
    intro l
    induction l with
    | nil => intro a ha _; exact ha
    | cons b l ih =>
      intro a ha hl
      have : a ||| b < 2 ^ 8 := Nat.or_lt_two_pow (by omega) (hl b (by simp))
      exact ih _ (by omega) (fun x hx => hl x (by simp [hx]))
  exact key fl 0 (by omega) h
theorem newregister_calls (w : World) (fb : Nat) (s i : Int) (n : ByteArray) (A : Option Addr) (c : Nat) (fl : List Nat) (hS : Sl w A fl.length (fl.map fun (x : Nat) => .int .u8 (x : Int))) (hfl : ∀ x ∈ fl, x < 256) (hl : fl.length < 100) :
    Calls Tryz.prog 103 #[.pointer (some ⟨fb, 0, none⟩), .int .u16 s, .int .u16 i, .string n, .slice A fl.length c] w fun e w' => e = .returned (.agg #[.pointer (some ⟨fb, 0, none⟩), .int .u16 i, .string n, .int .u8 (orF fl : Int), .int .u16 s]) ∧ Fr nope w w' := by
  go_enter Tryz.func103, Tryz.ntmps103
  go_wp2
  go_loopg [21] fl.length (fun m c21 wr => ∃ k : Nat, k ≤ fl.length ∧ c21 = .int .i64 (k : Int) ∧ wr.heap[w.heap.size + 1]? = some (.cells #[.pointer (some ⟨fb, 0, none⟩), .int .u16 i, .string n, .int .u8 (orF (fl.take k) : Int), .int .u16 s] 209 (0, 0)) ∧ wr.heap[w.heap.size]? = some (.cells #[.pointer none, .int .u16 0, .string ⟨#[]⟩, .int .u8 0, .int .u16 0] 209 (0, 0)) ∧ Fr nope w wr ∧ m = fl.length - k)
  case atStart =>
    refine ⟨0, Nat.zero_le _, rfl, ?_, ?_, ((Fr.refl _ _).alloc _).alloc _, rfl⟩
    · exact (heap_alloc2_new w _ _)
    · exact ((Fr.refl nope _).alloc _).heap (heap_alloc_new w _) (fun x => x)
  case round =>
    obtain ⟨k, hk, rfl, hb1, hb0, hf, rfl⟩ := hrel
    have hlt1 := lt_of_heap hb1
    have hlt0 := lt_of_heap hb0
    have hc1 := fun j => cell_of_row _ _ j _ _ (0, 0) hb1
    have hc0 := fun j => cell_of_row _ _ j _ _ (0, 0) hb0
    have hz1 : ∀ j, wr.frozen? ⟨w.heap.size + 1, j, none⟩ = false := fun j => by simp [World.frozen?, hb1]
    have hz0 : ∀ j, wr.frozen? ⟨w.heap.size, j, none⟩ = false := fun j => by simp [World.frozen?, hb0]
    by_cases hlt : k < fl.length
    · obtain ⟨b, off, u, rfl, hbl, hu, hc⟩ := (hS.nope hf).at_ hlt
      rw [List.getElem?_map] at hu
      obtain ⟨x, hx, rfl⟩ := Option.map_eq_some_iff.1 hu
      have hT := Lib.hid (orF_take hx)
      have hB := Lib.hid (u8_or (orF (fl.take k)) x (orF_lt _ fun y hy => hfl y (List.mem_of_mem_take hy)) (hfl x (List.mem_of_getElem? hx)))
      clear hS hu hx
      go_wp2
      go_roundg (fl.length - (k + 1))
      case measure => omega
      case rel =>
        refine ⟨k + 1, by omega, by go_num, ?_, ?_, hf.setCell (.inr (by simp)) _, rfl⟩
        · rw [hT.out]
          rw [← hB.out]
          exact setCell_heap hb1 _
        · exact ((Fr.refl (fun b => b = w.heap.size + 1) wr).setCell (.inl rfl) _).heap hb0 (by omega)
    · go_wp2
      have e : fl.take k = fl := List.take_of_length_le (by omega)
      rw [e] at *
      refine bodyPost_ret (results_cell_row rfl _ _ w.heap.size _ _ _ _ rfl (setCell_heap (setCell_heap (setCell_heap (setCell_heap (setCell_heap hb0 _) _) _) _) _) Tryz.underlying209 rfl (by kernel_rfl)) rfl ?_
      exact ⟨rfl, ((((hf.setCell (.inr (Nat.le_refl _)) _).setCell (.inr (Nat.le_refl _)) _).setCell (.inr (Nat.le_refl _)) _).setCell (.inr (Nat.le_refl _)) _).setCell (.inr (Nat.le_refl _)) _⟩
theorem newgpp_calls (w : World) (T : TypeId) (v : Value) : Calls Tryz.prog 102 #[.iface T v] w fun e w' => e = .returned (.iface 260 (.agg #[.iface T v])) ∧ w' = w := by
  go_enter Tryz.func102, Tryz.ntmps102
  go_wp2
  go_ret
  exact ⟨rfl, rfl⟩
theorem newvecp_calls (w : World) (T : TypeId) (v : Value) : Calls Tryz.prog 104 #[.iface T v] w fun e w' => e = .returned (.iface 264 (.agg #[.iface T v, .nilIface])) ∧ w' = w := by
  go_enter Tryz.func104, Tryz.ntmps104
  go_wp2
  go_ret
  exact ⟨rfl, rfl⟩
theorem newopmaskp_calls (w : World) (T : TypeId) (v : Value) : Calls Tryz.prog 105 #[.iface T v] w fun e w' => e = .returned (.iface 265 (.agg #[.iface T v])) ∧ w' = w := by
  go_enter Tryz.func105, Tryz.ntmps105
  go_wp2
  go_ret
  exact ⟨rfl, rfl⟩
end
end Go.Proofs.YtbaihlfnbdifgaaGreat
