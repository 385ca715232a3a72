/- Part of the proof of boundApart_upto. -/
import Derived.Deep.MidRow
import Derived.Test.YtbaihlfnbdifgaaGreatP16
namespace Go.Proofs.YtbaihlfnbdifgaaGreat
section
open Go Go.RowKit Bth
set_option maxRecDepth 100000
def BoundX (w : World) (f : Nat → Option Nat) : Option R → Option R → Prop
  | none, none => True
  | some r, some r' => Bound w f r r'
  | _, _ => False
theorem BoundX.fr {w w' : World} {f : Nat → Option Nat} {r r' : Option R} (h : BoundX w f r r') (hf : Fr nope w w') : BoundX w' f r r' := by
  cases r <;> cases r'
  · trivial
  · exact h
  · exact h
  · exact Bound.fr h hf
def famT : List TypeId := [200]
theorem Bound.frT {S : Nat → Prop} {w w' : World} {f : Nat → Option Nat} {r r' : R} (h : Bound w f r r') (hf : Fr S w w') (hs : NoT famT w S) : Bound w' f r r' := ⟨h.1, h.2.1, h.2.2.frT hf hs (by decide)⟩
theorem BoundX.frT {S : Nat → Prop} {w w' : World} {f : Nat → Option Nat} {r r' : Option R} (h : BoundX w f r r') (hf : Fr S w w') (hs : NoT famT w S) : BoundX w' f r r' := by
  cases r <;> cases r'
  · trivial
  · exact h
  · exact h
  · exact Bound.frT h hf hs
theorem LookupRX_calls (w : World) (b : Nat) (f : Nat → Option Nat) (hb : IdMap w b f) (hs : small f) (x : Option R) (hx : ∀ r, x = some r → r.Ok ∧ r.At w) :
    Calls Tryz.prog 121 #[.map (some b), optV x] w fun e w' => ∃ x', e = .returned (optV x') ∧ Fr nope w w' ∧ BoundX w' f x x' := by
  cases x with
  | none =>
    refine (LookupRD_nil w b).mono ?_
    rintro e w' ⟨rfl, rfl⟩
    exact ⟨none, rfl, Fr.refl _ _, trivial⟩
  | some r =>
    obtain ⟨ok, hat⟩ := hx r rfl
    refine (LookupRD_calls w b f hb hs r ok hat).mono ?_
    rintro e w' ⟨r', rfl, hf, hB⟩
    exact ⟨some r', rfl, hf, hB⟩
def BoundM (w : World) (f : Nat → Option Nat) (m m' : M) : Prop := ∃ x y, m' = { m with base := x, index := y } ∧ BoundX w f m.base x ∧ BoundX w f m.index y
set_option maxHeartbeats 1000000 in
theorem Apply_mem (w : World) (b : Nat) (f : Nat → Option Nat) (hb : IdMap w b f) (hs : small f) (m : M) (hm : ∀ r ∈ m.regs, r.Ok ∧ r.At w) :
    Calls Tryz.prog 80 #[O.val (.mem m), .map (some b)] w fun e w' => ∃ m', e = .returned (O.val (.mem m')) ∧ Fr nope w w' ∧ BoundM w' f m m' := by
  have h1 : ∀ W, (Instr.typeAssert (O.val (.mem m)) 175 147 true).run Tryz.prog W = .ok (.tuple #[.nilIface, .bool false]) W := fun W => O.ta_Register W _ (.mem m)
  have h2 : ∀ W, (Instr.typeAssert (O.val (.mem m)) 175 245 true).run Tryz.prog W = .ok (.tuple #[m.agg, .bool true]) W := fun W => O.ta_Mem W _ (.mem m)
  obtain ⟨sym, st, d, x, y, sc⟩ := m
  have hLx := fun W hb hx => LookupRX_calls W b f hb hs x hx
  have hLy := fun W hb hx => LookupRX_calls W b f hb hs y hx
  have hxm : ∀ W, Fr nope w W → ∀ r, x = some r → r.Ok ∧ r.At W := fun W hW r hr => by
    have := hm r (by simp [M.regs, hr])
    exact ⟨this.1, this.2.nope hW⟩
  have hym : ∀ W, Fr nope w W → ∀ r, y = some r → r.Ok ∧ r.At W := fun W hW r hr => by
    have := hm r (by simp [M.regs, hr])
    exact ⟨this.1, this.2.nope hW⟩
  have hbl := hb.lt
  have hcx := optV_cases x
  have hcy := optV_cases y
  simp only [O.val] at h1 h2 ⊢
  rw [M.agg] at h1 h2 ⊢
  simp only at h1 h2 ⊢
  replace hxm := Lib.hid hxm
  replace hym := Lib.hid hym
  have hvx : Hid (optV x = optV x) := Lib.hid rfl
  have hvy : Hid (optV y = optV y) := Lib.hid rfl
  generalize hx0 : optV x = vx at h1 h2 hLx hcx ⊢
  generalize hy0 : optV y = vy at h1 h2 hLy hcy ⊢
  replace hx0 := Lib.hid hx0
  replace hy0 := Lib.hid hy0
  rcases hcx with rfl | ⟨Tx, ux, rfl⟩ <;> rcases hcy with rfl | ⟨Ty, uy, rfl⟩
  all_goals
    go_enter Tryz.func80, Tryz.ntmps80
    go_wp2_with fail
    have hf1 : ∀ c, Fr nope w (w.alloc c) := fun c => (Fr.refl nope w).alloc c
    refine (hLx _ (hb.fr (hf1 _) (fun x => x)) (hxm.out _ (hf1 _))).mono ?_
    rintro e w2 ⟨x', rfl, hf2, hX⟩
    have hb2 := hf2.heap (heap_alloc_new w _) (fun x => x)
    have hl2 := lt_of_heap hb2
    have hc2 := fun j => cell_of_row _ _ j _ _ (0, 0) hb2
    have hz2 := frozen_row hb2
    have hf02 := (hf1 _).then hf2
    have hcx' := optV_cases x'
    generalize hx1 : optV x' = vx' at hcx' ⊢
    replace hx1 := Lib.hid hx1
    clear hf1
    have hb3 := setCell_heap (k := 3) hb2 vx'
    have hs3 : Fr (fun c => c = w.heap.size) w2 (w2.setCell ⟨w.heap.size, 3, none⟩ vx') := (Fr.refl (fun x => x = w.heap.size) w2).setCell (.inl rfl) _
    have hf3 : Fr nope w (w2.setCell ⟨w.heap.size, 3, none⟩ vx') := hf02.then_new hs3 (fun x hx e => by omega)
    have hc3 := fun j => cell_of_row _ _ j _ _ (0, 0) hb3
    have hz3 := frozen_row hb3
    have hl3 := lt_of_heap hb3
    rcases hcx' with rfl | ⟨Tx', ux', rfl⟩
    all_goals
      go_wp2_with fail
      refine (hLy _ (hb.fr hf3 (fun x => x)) (hym.out _ hf3)).mono ?_
      rintro e w4 ⟨y', rfl, hf4, hY⟩
      have hb4 := hf4.heap hb3 (fun x => x)
      have hl4 := lt_of_heap hb4
      have hc4 := fun j => cell_of_row _ _ j _ _ (0, 0) hb4
      have hz4 := frozen_row hb4
      have hf04 := hf3.then hf4
      have hcy' := optV_cases y'
      generalize hy1 : optV y' = vy' at hcy' ⊢
      replace hy1 := Lib.hid hy1
      have hb5 := setCell_heap (k := 4) hb4 vy'
      have hs5 : Fr (fun c => c = w.heap.size) w4 (w4.setCell ⟨w.heap.size, 4, none⟩ vy') := (Fr.refl (fun x => x = w.heap.size) w4).setCell (.inl rfl) _
      have hf5 : Fr nope w (w4.setCell ⟨w.heap.size, 4, none⟩ vy') := hf04.then_new hs5 (fun x hx e => by omega)
      have hc5 := fun j => cell_of_row _ _ j _ _ (0, 0) hb5
      have hz5 := frozen_row hb5
      have hl5 := lt_of_heap hb5
      rcases hcy' with rfl | ⟨Ty', uy', rfl⟩
      all_goals
        go_wp2
        go_ret
        exact ⟨⟨sym, st, d, x', y', sc⟩, by simp only [M.agg, hx1.out, hy1.out]; rfl, hf5, x', y', rfl, ((hX.frT hs3 (.one hb2 (by decide))).fr hf4).frT hs5 (.one hb4 (by decide)), hY.frT hs5 (.one hb4 (by decide))⟩
theorem Apply_reg (w : World) (b : Nat) (f : Nat → Option Nat) (hb : IdMap w b f) (hs : small f) (r : R) (ok : r.Ok) (hat : r.At w) :
    Calls Tryz.prog 80 #[O.val (.reg r), .map (some b)] w fun e w' => ∃ r', e = .returned (O.val (.reg r')) ∧ Fr nope w w' ∧ Bound w' f r r' := by
  have h1 : ∀ W, (Instr.typeAssert (O.val (.reg r)) 175 147 true).run Tryz.prog W = .ok (.tuple #[r.val, .bool true]) W := fun W => O.ta_Register W _ (.reg r)
  have hL := LookupRD_calls w b f hb hs r ok hat
  simp only [O.val] at h1 ⊢
  obtain ⟨T, v, hrv⟩ := r.val_iface
  rw [hrv] at h1 hL ⊢
  go_enter Tryz.func80, Tryz.ntmps80
  go_wp2_with fail
  refine hL.mono ?_
  rintro e w1 ⟨r', rfl, hf, hB⟩
  obtain ⟨T', v', hrv'⟩ := r'.val_iface
  rw [hrv']
  go_wp2
  go_ret
  exact ⟨r', by rw [hrv']; rfl, hf, hB⟩
theorem Apply_other (w : World) (b : Nat) (o : O) (h : o.isReg = false) (h' : o.isMem = false) :
    Calls Tryz.prog 80 #[o.val, .map (some b)] w fun e w' => e = .returned o.val ∧ Fr nope w w' := by
  have h1 := fun W => O.ta_Register W 175 o
  have h2 := fun W => O.ta_Mem W 175 o
  obtain ⟨s, st, d, x, y, sc, hm, hx, hy⟩ := o.memAgg_cases
  obtain ⟨T, v, hv⟩ := o.val_iface
  rw [hv, h] at h1
  rw [hv, h', hm] at h2
  simp only [Bool.false_eq_true, if_false] at h1
  rw [hv]
  clear hm hv
  rcases hx with rfl | ⟨T1, v1, rfl⟩ <;> rcases hy with rfl | ⟨T2, v2, rfl⟩
  all_goals
    go_enter Tryz.func80, Tryz.ntmps80
    go_wp2
    go_ret
    exact ⟨rfl, Fr.refl _ _⟩
def BoundO (w : World) (f : Nat → Option Nat) : O → O → Prop
  | .reg r, .reg r' => Bound w f r r'
  | .mem m, .mem m' => BoundM w f m m'
  | .con c, .con c' => c' = c
  | .label s, .label s' => s' = s
  | .rel n, .rel n' => n' = n
  | _, _ => False
theorem Apply_calls (w : World) (b : Nat) (f : Nat → Option Nat) (hb : IdMap w b f) (hs : small f) (o : O) (ho : ∀ r ∈ o.regs, r.Ok ∧ r.At w) :
    Calls Tryz.prog 80 #[o.val, .map (some b)] w fun e w' => ∃ o', e = .returned (O.val o') ∧ Fr nope w w' ∧ BoundO w' f o o' := by
  cases o with
  | reg r =>
    obtain ⟨ok, hat⟩ := ho r (by simp [O.regs])
    refine (Apply_reg w b f hb hs r ok hat).mono ?_
    rintro e w' ⟨r', rfl, hf, hB⟩
    exact ⟨.reg r', rfl, hf, hB⟩
  | mem m =>
    refine (Apply_mem w b f hb hs m ho).mono ?_
    rintro e w' ⟨r', rfl, hf, hB⟩
    exact ⟨.mem r', rfl, hf, hB⟩
  | con c =>
    refine (Apply_other w b _ rfl rfl).mono ?_
    rintro e w' ⟨rfl, hf⟩
    exact ⟨.con c, rfl, hf, rfl⟩
  | label c =>
    refine (Apply_other w b _ rfl rfl).mono ?_
    rintro e w' ⟨rfl, hf⟩
    exact ⟨.label c, rfl, hf, rfl⟩
  | rel c =>
    refine (Apply_other w b _ rfl rfl).mono ?_
    rintro e w' ⟨rfl, hf⟩
    exact ⟨.rel c, rfl, hf, rfl⟩
end
section
open Go Go.RowKit Bth
set_option maxRecDepth 100000
def BX (f : Nat → Option Nat) : Option R → Option R → Prop
  | none, none => True
  | some r, some r' => r'.plain = bindG f r.plain
  | _, _ => False
def BO (f : Nat → Option Nat) : O → O → Prop
  | .reg r, .reg r' => r'.plain = bindG f r.plain
  | .mem m, .mem m' => ∃ x y, m' = { m with base := x, index := y } ∧ BX f m.base x ∧ BX f m.index y
  | .con c, .con c' => c' = c
  | .label s, .label s' => s' = s
  | .rel n, .rel n' => n' = n
  | _, _ => False
theorem BoundX.bx {w : World} {f : Nat → Option Nat} {x y : Option R} (h : BoundX w f x y) : BX f x y ∧ ∀ r, y = some r → r.Ok ∧ r.At w := by
  cases x <;> cases y
  · exact ⟨trivial, fun r h => (by cases h)⟩
  · exact h.elim
  · exact h.elim
  · exact ⟨h.1, fun r e => by injection e with e; subst e; exact h.2⟩
theorem BoundO.bo {w : World} {f : Nat → Option Nat} {o o' : O} (h : BoundO w f o o') : BO f o o' ∧ o'.At w := by
  cases o <;> cases o' <;> try exact h.elim
  · refine ⟨h.1, fun r hr => ?_⟩
    obtain rfl := List.mem_singleton.1 hr
    exact h.2
  · obtain ⟨x, y, rfl, h1, h2⟩ := h
    refine ⟨⟨x, y, rfl, h1.bx.1, h2.bx.1⟩, fun r hr => ?_⟩
    have hr : r ∈ x.toList ++ y.toList := hr
    simp only [List.mem_append, Option.mem_toList] at hr
    rcases hr with hr | hr
    · exact h1.bx.2 r hr
    · exact h2.bx.2 r hr
  all_goals exact ⟨h, fun r hr => by cases hr⟩
theorem ApplyB_calls (w : World) (b : Nat) (f : Nat → Option Nat) (hb : IdMap w b f) (hs : small f) (o : O) (ho : o.At w) :
    Calls Tryz.prog 80 #[o.val, .map (some b)] w fun e w' => ∃ o', e = .returned (O.val o') ∧ Fr nope w w' ∧ BO f o o' ∧ o'.At w' := by
  refine (Apply_calls w b f hb hs o ho).mono ?_
  rintro e w' ⟨o', rfl, hf, hB⟩
  exact ⟨o', rfl, hf, hB.bo⟩
def Rec.row (r : Rec) : Nat → List O
  | 0 => r.ops
  | 1 => r.inp
  | _ => r.out
def Rec.setRow (r : Rec) (p : Nat) (l : List O) : Rec := match p with
  | 0 => { r with ops := l }
  | 1 => { r with inp := l }
  | _ => { r with out := l }
def Ins.rowV (i : Ins) : Nat → SV
  | 0 => i.ops
  | 1 => i.inp
  | _ => i.out
def RowB (r : Rec) (c : Nat) : Prop := ∃ p, p < 3 ∧ (r.i.rowV p).val.ownBlock = some c
theorem Rec.At.rowOwn {w : World} {r : Rec} (h : r.At w) (p : Nat) : w.ownsRow r.lo 175 1 (r.i.rowV p).val (r.row p).length ((r.row p).map O.val) := by
  match p with
  | 0 => exact h.own.ops
  | 1 => exact h.own.inp
  | _ + 2 => exact h.own.out
theorem Rec.At.rowAts {w : World} {r : Rec} (h : r.At w) (p : Nat) : ∀ o ∈ r.row p, o.At w := by
  match p with
  | 0 => exact h.ats.1
  | 1 => exact h.ats.2.1
  | _ + 2 => exact h.ats.2.2
theorem Rec.At.noT {w : World} {r : Rec} (h : r.At w) : NoT [99, 127, 180, 135, 9, 200] w (RowB r) := by
  have key : ∀ p, NoT [99, 127, 180, 135, 9, 200] w (fun c => (r.i.rowV p).val.ownBlock = some c) := fun p => NoT.own (h.rowOwn p) (by decide)
  rintro b cs t fr ⟨p, _, hp⟩
  exact key p b cs t fr hp
theorem Rec.At.noMap {w : World} {r : Rec} (h : r.At w) {b : Nat} {es : Array MapEntry} {cl : Nat} (hm : w.heap[b]? = some (.map es cl)) : ¬ RowB r b := by
  rintro ⟨p, _, hp⟩
  exact own_nomap (h.rowOwn p) hm hp
theorem IdMap.noRow {w : World} {b : Nat} {f : Nat → Option Nat} (hb : IdMap w b f) {r : Rec} (h : r.At w) : ¬ RowB r b := by
  obtain ⟨ks, hm⟩ := hb
  obtain ⟨_, _, ho⟩ := MapAt.obj hm
  exact h.noMap ho
theorem Rec.At.setRow {w : World} {r : Rec} (h : r.At w) {p j g : Nat} {o : O} (hp : p < 3) (hg : (r.i.rowV p).A = some ⟨g, 0, none⟩) (ho : o.At w) :
    (r.setRow p ((r.row p).set j o)).At (w.setCell ⟨g, j, none⟩ o.val) ∧ Fr (RowB r) w (w.setCell ⟨g, j, none⟩ o.val) := by
  have hS : Fr (fun c => c = g) w (w.setCell ⟨g, j, none⟩ o.val) := (Fr.refl (fun x => x = g) w).setCell (.inl rfl) _
  have hgp : (r.i.rowV p).val.ownBlock = some g := by
    show (Value.slice (r.i.rowV p).A (r.i.rowV p).n (r.i.rowV p).c).ownBlock = _
    rw [hg]; rfl
  have hT : NoT [99, 127, 180, 135, 9, 200] w (fun c => c = g) := by
    rintro b cs t fr rfl
    exact h.noT b cs t fr ⟨p, hp, hgp⟩
  refine ⟨?_, hS.mono fun c _ e => ⟨p, hp, by rw [e]; exact hgp⟩⟩
  have hat := heap_frT h.own.at_ hS hT (by decide)
  have own1 : ∀ q, q < 3 → q ≠ p → (w.setCell ⟨g, j, none⟩ o.val).ownsRow r.lo 175 1 (r.i.rowV q).val (r.row q).length ((r.row q).map O.val) := fun q hq hne => by
    refine own_fr (h.rowOwn q) hS fun b hb e => ?_
    subst e
    have d1 := h.own.d1
    have d2 := h.own.d2
    rcases p with _ | _ | _ | p <;> rcases q with _ | _ | _ | q <;> first | exact hne rfl | omega | skip
    · exact (d1 _ hgp).1 hb
    · exact (d1 _ hgp).2 hb
    · exact (d1 _ hb).1 hgp
    · exact d2 _ hgp hb
    · exact (d1 _ hb).2 hgp
    · exact d2 _ hb hgp
  have own2 : (w.setCell ⟨g, j, none⟩ o.val).ownsRow r.lo 175 1 (r.i.rowV p).val ((r.row p).set j o).length (((r.row p).set j o).map O.val) := by
    have h1 := h.rowOwn p
    obtain ⟨A, c, hv, _, _⟩ := own_slice h1
    have hA : A = some ⟨g, 0, none⟩ := by
      have : (r.i.rowV p).val = .slice (r.i.rowV p).A (r.i.rowV p).n (r.i.rowV p).c := rfl
      rw [this, hg] at hv
      injection hv with e1 e2 e3
      exact e1.symm
    rw [hv, hA] at h1 ⊢
    have := own_set h1 j o.val
    rw [List.length_set, List.map_set]
    exact this
  have ats : ∀ q, ∀ x ∈ r.row q, x.At (w.setCell ⟨g, j, none⟩ o.val) := fun q x hx => (h.rowAts q x hx).frT hS hT (by decide)
  have ats2 : ∀ x ∈ (r.row p).set j o, x.At (w.setCell ⟨g, j, none⟩ o.val) := fun x hx => by
    rcases List.mem_or_eq_of_mem_set hx with hx | rfl
    · exact ats p x hx
    · exact ho.frT hS hT (by decide)
  have hsuf : StrOwn (w.setCell ⟨g, j, none⟩ o.val) r.lo r.i.suf r.suf := ⟨h.suf.1, own_frT h.suf.2 hS hT (by decide)⟩
  have hisa : StrOwn (w.setCell ⟨g, j, none⟩ o.val) r.lo r.i.isa r.isa := ⟨h.isa.1, own_frT h.isa.2 hS hT (by decide)⟩
  rcases p with _ | _ | _ | p
  · exact { own := { h.own with at_ := hat, ops := own2, inp := own1 1 (by omega) (by omega), out := own1 2 (by omega) (by omega) }, suf := hsuf, isa := hisa, s1 := h.s1, s2 := h.s2, ats := ⟨ats2, ats 1, ats 2⟩ }
  · exact { own := { h.own with at_ := hat, ops := own1 0 (by omega) (by omega), inp := own2, out := own1 2 (by omega) (by omega) }, suf := hsuf, isa := hisa, s1 := h.s1, s2 := h.s2, ats := ⟨ats 0, ats2, ats 2⟩ }
  · exact { own := { h.own with at_ := hat, ops := own1 0 (by omega) (by omega), inp := own1 1 (by omega) (by omega), out := own2 }, suf := hsuf, isa := hisa, s1 := h.s1, s2 := h.s2, ats := ⟨ats 0, ats 1, ats2⟩ }
  · omega
def BL (f : Nat → Option Nat) (j : Nat) (l l' : List O) : Prop := l'.length = l.length ∧ ∀ (k : Nat) (o o' : O), l[k]? = some o → l'[k]? = some o' → if k < j then BO f o o' else o' = o
theorem BL.start (f : Nat → Option Nat) (l : List O) : BL f 0 l l := ⟨rfl, fun k o o' h1 h2 => by rw [h1] at h2; injection h2 with h2; rw [if_neg (by omega)]; exact h2.symm⟩
theorem BL.at_ {f : Nat → Option Nat} {j : Nat} {l l' : List O} (h : BL f j l l') {o : O} (ho : l[j]? = some o) : l'[j]? = some o := by
  have hlt : j < l'.length := by rw [h.1]; exact (List.getElem?_eq_some_iff.1 ho).1
  have h1 := List.getElem?_eq_getElem hlt
  have h2 := h.2 j _ _ ho h1
  rw [if_neg (by omega)] at h2
  rw [h1, h2]
theorem BL.step {f : Nat → Option Nat} {j : Nat} {l l' : List O} (h : BL f j l l') {o o' : O} (ho : l[j]? = some o) (hb : BO f o o') : BL f (j + 1) l (l'.set j o') := by
  refine ⟨by rw [List.length_set]; exact h.1, fun k x x' h1 h2 => ?_⟩
  rw [List.getElem?_set] at h2
  split at h2
  · rename_i e
    subst e
    split at h2
    · injection h2 with h2
      subst h2
      rw [ho] at h1
      injection h1 with h1
      subst h1
      rw [if_pos (by omega)]
      exact hb
    · cases h2
  · rename_i e
    have := h.2 k x x' h1 h2
    by_cases hk : k < j
    · rw [if_pos hk] at this; rw [if_pos (by omega)]; exact this
    · rw [if_neg hk] at this; rw [if_neg (by omega)]; exact this
structure BR (f : Nat → Option Nat) (n : Nat → Nat) (r r' : Rec) : Prop where
  b : r'.b = r.b
  lo : r'.lo = r.lo
  hi : r'.hi = r.hi
  i : r'.i = r.i
  suf : r'.suf = r.suf
  isa : r'.isa = r.isa
  row : ∀ p, p < 3 → BL f (n p) (r.row p) (r'.row p)
theorem BR.start (f : Nat → Option Nat) (r : Rec) : BR f (fun _ => 0) r r := ⟨rfl, rfl, rfl, rfl, rfl, rfl, fun _ _ => BL.start _ _⟩
theorem BR.rowB {f : Nat → Option Nat} {n : Nat → Nat} {r r' : Rec} (h : BR f n r r') (c : Nat) : RowB r' c ↔ RowB r c := by unfold RowB; rw [h.i]
theorem setRow_row (r : Rec) {p q : Nat} (hp : p < 3) (hq : q < 3) (l : List O) : (r.setRow p l).row q = if q = p then l else r.row q := by
  rcases p with _ | _ | _ | p <;> rcases q with _ | _ | _ | q <;> first | rfl | omega
theorem BR.step {f : Nat → Option Nat} {n : Nat → Nat} {r r' : Rec} (h : BR f n r r') {p : Nat} (hp : p < 3) {o o' : O} (ho : (r.row p)[n p]? = some o) (hb : BO f o o') : BR f (fun q => if q = p then n p + 1 else n q) r (r'.setRow p ((r'.row p).set (n p) o')) := by
  have e : ∀ l, (r'.setRow p l).b = r'.b ∧ (r'.setRow p l).lo = r'.lo ∧ (r'.setRow p l).hi = r'.hi ∧ (r'.setRow p l).i = r'.i ∧ (r'.setRow p l).suf = r'.suf ∧ (r'.setRow p l).isa = r'.isa := fun l => by
    rcases p with _ | _ | p <;> exact ⟨rfl, rfl, rfl, rfl, rfl, rfl⟩
  obtain ⟨e1, e2, e3, e4, e5, e6⟩ := e ((r'.row p).set (n p) o')
  refine ⟨e1.trans h.b, e2.trans h.lo, e3.trans h.hi, e4.trans h.i, e5.trans h.suf, e6.trans h.isa, fun q hq => ?_⟩
  rw [setRow_row r' hp hq]
  by_cases hqp : q = p
  · subst hqp
    simp only [if_true]
    exact (h.row q hq).step ho hb
  · simp only [if_neg hqp]
    exact h.row q hq
theorem BR.congr {f : Nat → Option Nat} {n n' : Nat → Nat} {r r' : Rec} (h : BR f n r r') (hn : ∀ p, p < 3 → n' p = n p) : BR f n' r r' := ⟨h.b, h.lo, h.hi, h.i, h.suf, h.isa, fun p hp => by rw [hn p hp]; exact h.row p hp⟩
end
section
open Go Go.RowKit Bth
set_option maxRecDepth 100000
def CK.num : CK → Int
  | .I8 => 1
  | .U8 => 2
  | .I16 => 3
  | .U16 => 4
  | .I32 => 5
  | .U32 => 6
  | .I64 => 7
  | .U64 => 8
  | .F32 => 9
  | .F64 => 10
  | .String => 11
def C.bits (c : C) : Int :=
  match c.k with
  | .I8 => c.n % 256
  | .U8 => IntKind.u64.wrap c.n
  | .I16 => IntKind.u64.wrap (IntKind.u16.wrap c.n)
  | .U16 => IntKind.u64.wrap c.n
  | .I32 => c.n % 4294967296
  | .U32 => IntKind.u64.wrap c.n
  | .I64 => IntKind.u64.wrap c.n
  | .U64 => c.n
  | .F32 => IntKind.u64.wrap (c.n.toNat : Int)
  | .F64 => (c.n.toNat : Int)
  | .String => 0
def C.text (c : C) : ByteArray := match c.k with
  | .String => c.s
  | _ => ⟨#[]⟩
def C.pc (c : C) : Value := .agg #[.int .i64 c.k.num, .int .u64 c.bits, .string c.text]
theorem run_b32 (n : Nat) (W : World) : (callFunc 178 #[.float .f32 n]).run Tryz.prog W = .ok (.value (.int .u32 n)) W := by kernel_rfl
theorem run_b64 (n : Nat) (W : World) : (callFunc 179 #[.float .f64 n]).run Tryz.prog W = .ok (.value (.int .u64 n)) W := by kernel_rfl
theorem tc_I8_I8 (W : World) (x : Value) : (Instr.typeAssert (.iface 306 x) 254 306 true).run Tryz.prog W = .ok (.tuple #[x, .bool true]) W := by kernel_rfl
theorem tc_I8_U8 (W : World) (x : Value) : (Instr.typeAssert (.iface 307 x) 254 306 true).run Tryz.prog W = .ok (.tuple #[.int .i8 0, .bool false]) W := by kernel_rfl
theorem tc_U8_U8 (W : World) (x : Value) : (Instr.typeAssert (.iface 307 x) 254 307 true).run Tryz.prog W = .ok (.tuple #[x, .bool true]) W := by kernel_rfl
theorem tc_I8_I16 (W : World) (x : Value) : (Instr.typeAssert (.iface 309 x) 254 306 true).run Tryz.prog W = .ok (.tuple #[.int .i8 0, .bool false]) W := by kernel_rfl
theorem tc_U8_I16 (W : World) (x : Value) : (Instr.typeAssert (.iface 309 x) 254 307 true).run Tryz.prog W = .ok (.tuple #[.int .u8 0, .bool false]) W := by kernel_rfl
theorem tc_I16_I16 (W : World) (x : Value) : (Instr.typeAssert (.iface 309 x) 254 309 true).run Tryz.prog W = .ok (.tuple #[x, .bool true]) W := by kernel_rfl
theorem tc_I8_U16 (W : World) (x : Value) : (Instr.typeAssert (.iface 310 x) 254 306 true).run Tryz.prog W = .ok (.tuple #[.int .i8 0, .bool false]) W := by kernel_rfl
theorem tc_U8_U16 (W : World) (x : Value) : (Instr.typeAssert (.iface 310 x) 254 307 true).run Tryz.prog W = .ok (.tuple #[.int .u8 0, .bool false]) W := by kernel_rfl
theorem tc_I16_U16 (W : World) (x : Value) : (Instr.typeAssert (.iface 310 x) 254 309 true).run Tryz.prog W = .ok (.tuple #[.int .i16 0, .bool false]) W := by kernel_rfl
theorem tc_U16_U16 (W : World) (x : Value) : (Instr.typeAssert (.iface 310 x) 254 310 true).run Tryz.prog W = .ok (.tuple #[x, .bool true]) W := by kernel_rfl
theorem tc_I8_I32 (W : World) (x : Value) : (Instr.typeAssert (.iface 311 x) 254 306 true).run Tryz.prog W = .ok (.tuple #[.int .i8 0, .bool false]) W := by kernel_rfl
theorem tc_U8_I32 (W : World) (x : Value) : (Instr.typeAssert (.iface 311 x) 254 307 true).run Tryz.prog W = .ok (.tuple #[.int .u8 0, .bool false]) W := by kernel_rfl
theorem tc_I16_I32 (W : World) (x : Value) : (Instr.typeAssert (.iface 311 x) 254 309 true).run Tryz.prog W = .ok (.tuple #[.int .i16 0, .bool false]) W := by kernel_rfl
theorem tc_U16_I32 (W : World) (x : Value) : (Instr.typeAssert (.iface 311 x) 254 310 true).run Tryz.prog W = .ok (.tuple #[.int .u16 0, .bool false]) W := by kernel_rfl
theorem tc_I32_I32 (W : World) (x : Value) : (Instr.typeAssert (.iface 311 x) 254 311 true).run Tryz.prog W = .ok (.tuple #[x, .bool true]) W := by kernel_rfl
theorem tc_I8_U32 (W : World) (x : Value) : (Instr.typeAssert (.iface 312 x) 254 306 true).run Tryz.prog W = .ok (.tuple #[.int .i8 0, .bool false]) W := by kernel_rfl
theorem tc_U8_U32 (W : World) (x : Value) : (Instr.typeAssert (.iface 312 x) 254 307 true).run Tryz.prog W = .ok (.tuple #[.int .u8 0, .bool false]) W := by kernel_rfl
theorem tc_I16_U32 (W : World) (x : Value) : (Instr.typeAssert (.iface 312 x) 254 309 true).run Tryz.prog W = .ok (.tuple #[.int .i16 0, .bool false]) W := by kernel_rfl
theorem tc_U16_U32 (W : World) (x : Value) : (Instr.typeAssert (.iface 312 x) 254 310 true).run Tryz.prog W = .ok (.tuple #[.int .u16 0, .bool false]) W := by kernel_rfl
theorem tc_I32_U32 (W : World) (x : Value) : (Instr.typeAssert (.iface 312 x) 254 311 true).run Tryz.prog W = .ok (.tuple #[.int .i32 0, .bool false]) W := by kernel_rfl
theorem tc_U32_U32 (W : World) (x : Value) : (Instr.typeAssert (.iface 312 x) 254 312 true).run Tryz.prog W = .ok (.tuple #[x, .bool true]) W := by kernel_rfl
theorem tc_I8_I64 (W : World) (x : Value) : (Instr.typeAssert (.iface 313 x) 254 306 true).run Tryz.prog W = .ok (.tuple #[.int .i8 0, .bool false]) W := by kernel_rfl
theorem tc_U8_I64 (W : World) (x : Value) : (Instr.typeAssert (.iface 313 x) 254 307 true).run Tryz.prog W = .ok (.tuple #[.int .u8 0, .bool false]) W := by kernel_rfl
theorem tc_I16_I64 (W : World) (x : Value) : (Instr.typeAssert (.iface 313 x) 254 309 true).run Tryz.prog W = .ok (.tuple #[.int .i16 0, .bool false]) W := by kernel_rfl
theorem tc_U16_I64 (W : World) (x : Value) : (Instr.typeAssert (.iface 313 x) 254 310 true).run Tryz.prog W = .ok (.tuple #[.int .u16 0, .bool false]) W := by kernel_rfl
theorem tc_I32_I64 (W : World) (x : Value) : (Instr.typeAssert (.iface 313 x) 254 311 true).run Tryz.prog W = .ok (.tuple #[.int .i32 0, .bool false]) W := by kernel_rfl
theorem tc_U32_I64 (W : World) (x : Value) : (Instr.typeAssert (.iface 313 x) 254 312 true).run Tryz.prog W = .ok (.tuple #[.int .u32 0, .bool false]) W := by kernel_rfl
theorem tc_I64_I64 (W : World) (x : Value) : (Instr.typeAssert (.iface 313 x) 254 313 true).run Tryz.prog W = .ok (.tuple #[x, .bool true]) W := by kernel_rfl
theorem tc_I8_U64 (W : World) (x : Value) : (Instr.typeAssert (.iface 314 x) 254 306 true).run Tryz.prog W = .ok (.tuple #[.int .i8 0, .bool false]) W := by kernel_rfl
theorem tc_U8_U64 (W : World) (x : Value) : (Instr.typeAssert (.iface 314 x) 254 307 true).run Tryz.prog W = .ok (.tuple #[.int .u8 0, .bool false]) W := by kernel_rfl
theorem tc_I16_U64 (W : World) (x : Value) : (Instr.typeAssert (.iface 314 x) 254 309 true).run Tryz.prog W = .ok (.tuple #[.int .i16 0, .bool false]) W := by kernel_rfl
theorem tc_U16_U64 (W : World) (x : Value) : (Instr.typeAssert (.iface 314 x) 254 310 true).run Tryz.prog W = .ok (.tuple #[.int .u16 0, .bool false]) W := by kernel_rfl
theorem tc_I32_U64 (W : World) (x : Value) : (Instr.typeAssert (.iface 314 x) 254 311 true).run Tryz.prog W = .ok (.tuple #[.int .i32 0, .bool false]) W := by kernel_rfl
theorem tc_U32_U64 (W : World) (x : Value) : (Instr.typeAssert (.iface 314 x) 254 312 true).run Tryz.prog W = .ok (.tuple #[.int .u32 0, .bool false]) W := by kernel_rfl
theorem tc_I64_U64 (W : World) (x : Value) : (Instr.typeAssert (.iface 314 x) 254 313 true).run Tryz.prog W = .ok (.tuple #[.int .i64 0, .bool false]) W := by kernel_rfl
theorem tc_U64_U64 (W : World) (x : Value) : (Instr.typeAssert (.iface 314 x) 254 314 true).run Tryz.prog W = .ok (.tuple #[x, .bool true]) W := by kernel_rfl
theorem tc_I8_F32 (W : World) (x : Value) : (Instr.typeAssert (.iface 316 x) 254 306 true).run Tryz.prog W = .ok (.tuple #[.int .i8 0, .bool false]) W := by kernel_rfl
theorem tc_U8_F32 (W : World) (x : Value) : (Instr.typeAssert (.iface 316 x) 254 307 true).run Tryz.prog W = .ok (.tuple #[.int .u8 0, .bool false]) W := by kernel_rfl
theorem tc_I16_F32 (W : World) (x : Value) : (Instr.typeAssert (.iface 316 x) 254 309 true).run Tryz.prog W = .ok (.tuple #[.int .i16 0, .bool false]) W := by kernel_rfl
theorem tc_U16_F32 (W : World) (x : Value) : (Instr.typeAssert (.iface 316 x) 254 310 true).run Tryz.prog W = .ok (.tuple #[.int .u16 0, .bool false]) W := by kernel_rfl
theorem tc_I32_F32 (W : World) (x : Value) : (Instr.typeAssert (.iface 316 x) 254 311 true).run Tryz.prog W = .ok (.tuple #[.int .i32 0, .bool false]) W := by kernel_rfl
theorem tc_U32_F32 (W : World) (x : Value) : (Instr.typeAssert (.iface 316 x) 254 312 true).run Tryz.prog W = .ok (.tuple #[.int .u32 0, .bool false]) W := by kernel_rfl
theorem tc_I64_F32 (W : World) (x : Value) : (Instr.typeAssert (.iface 316 x) 254 313 true).run Tryz.prog W = .ok (.tuple #[.int .i64 0, .bool false]) W := by kernel_rfl
theorem tc_U64_F32 (W : World) (x : Value) : (Instr.typeAssert (.iface 316 x) 254 314 true).run Tryz.prog W = .ok (.tuple #[.int .u64 0, .bool false]) W := by kernel_rfl
theorem tc_F32_F32 (W : World) (x : Value) : (Instr.typeAssert (.iface 316 x) 254 316 true).run Tryz.prog W = .ok (.tuple #[x, .bool true]) W := by kernel_rfl
theorem tc_I8_F64 (W : World) (x : Value) : (Instr.typeAssert (.iface 319 x) 254 306 true).run Tryz.prog W = .ok (.tuple #[.int .i8 0, .bool false]) W := by kernel_rfl
theorem tc_U8_F64 (W : World) (x : Value) : (Instr.typeAssert (.iface 319 x) 254 307 true).run Tryz.prog W = .ok (.tuple #[.int .u8 0, .bool false]) W := by kernel_rfl
theorem tc_I16_F64 (W : World) (x : Value) : (Instr.typeAssert (.iface 319 x) 254 309 true).run Tryz.prog W = .ok (.tuple #[.int .i16 0, .bool false]) W := by kernel_rfl
theorem tc_U16_F64 (W : World) (x : Value) : (Instr.typeAssert (.iface 319 x) 254 310 true).run Tryz.prog W = .ok (.tuple #[.int .u16 0, .bool false]) W := by kernel_rfl
theorem tc_I32_F64 (W : World) (x : Value) : (Instr.typeAssert (.iface 319 x) 254 311 true).run Tryz.prog W = .ok (.tuple #[.int .i32 0, .bool false]) W := by kernel_rfl
theorem tc_U32_F64 (W : World) (x : Value) : (Instr.typeAssert (.iface 319 x) 254 312 true).run Tryz.prog W = .ok (.tuple #[.int .u32 0, .bool false]) W := by kernel_rfl
theorem tc_I64_F64 (W : World) (x : Value) : (Instr.typeAssert (.iface 319 x) 254 313 true).run Tryz.prog W = .ok (.tuple #[.int .i64 0, .bool false]) W := by kernel_rfl
theorem tc_U64_F64 (W : World) (x : Value) : (Instr.typeAssert (.iface 319 x) 254 314 true).run Tryz.prog W = .ok (.tuple #[.int .u64 0, .bool false]) W := by kernel_rfl
theorem tc_F32_F64 (W : World) (x : Value) : (Instr.typeAssert (.iface 319 x) 254 316 true).run Tryz.prog W = .ok (.tuple #[.float .f32 0, .bool false]) W := by kernel_rfl
theorem tc_F64_F64 (W : World) (x : Value) : (Instr.typeAssert (.iface 319 x) 254 319 true).run Tryz.prog W = .ok (.tuple #[x, .bool true]) W := by kernel_rfl
theorem tc_I8_String (W : World) (x : Value) : (Instr.typeAssert (.iface 321 x) 254 306 true).run Tryz.prog W = .ok (.tuple #[.int .i8 0, .bool false]) W := by kernel_rfl
theorem tc_U8_String (W : World) (x : Value) : (Instr.typeAssert (.iface 321 x) 254 307 true).run Tryz.prog W = .ok (.tuple #[.int .u8 0, .bool false]) W := by kernel_rfl
theorem tc_I16_String (W : World) (x : Value) : (Instr.typeAssert (.iface 321 x) 254 309 true).run Tryz.prog W = .ok (.tuple #[.int .i16 0, .bool false]) W := by kernel_rfl
theorem tc_U16_String (W : World) (x : Value) : (Instr.typeAssert (.iface 321 x) 254 310 true).run Tryz.prog W = .ok (.tuple #[.int .u16 0, .bool false]) W := by kernel_rfl
theorem tc_I32_String (W : World) (x : Value) : (Instr.typeAssert (.iface 321 x) 254 311 true).run Tryz.prog W = .ok (.tuple #[.int .i32 0, .bool false]) W := by kernel_rfl
theorem tc_U32_String (W : World) (x : Value) : (Instr.typeAssert (.iface 321 x) 254 312 true).run Tryz.prog W = .ok (.tuple #[.int .u32 0, .bool false]) W := by kernel_rfl
theorem tc_I64_String (W : World) (x : Value) : (Instr.typeAssert (.iface 321 x) 254 313 true).run Tryz.prog W = .ok (.tuple #[.int .i64 0, .bool false]) W := by kernel_rfl
theorem tc_U64_String (W : World) (x : Value) : (Instr.typeAssert (.iface 321 x) 254 314 true).run Tryz.prog W = .ok (.tuple #[.int .u64 0, .bool false]) W := by kernel_rfl
theorem tc_F32_String (W : World) (x : Value) : (Instr.typeAssert (.iface 321 x) 254 316 true).run Tryz.prog W = .ok (.tuple #[.float .f32 0, .bool false]) W := by kernel_rfl
theorem tc_F64_String (W : World) (x : Value) : (Instr.typeAssert (.iface 321 x) 254 319 true).run Tryz.prog W = .ok (.tuple #[.float .f64 0, .bool false]) W := by kernel_rfl
theorem tc_String_String (W : World) (x : Value) : (Instr.typeAssert (.iface 321 x) 254 321 true).run Tryz.prog W = .ok (.tuple #[x, .bool true]) W := by kernel_rfl
set_option maxHeartbeats 4000000 in
theorem plainConstant_calls (w : World) (c : C) : Calls Tryz.prog 169 #[O.val (.con c)] w fun e w' => e = .returned c.pc ∧ Fr nope w w' := by
  obtain ⟨k, n, s⟩ := c
  simp only [O.val, C.pc]
  cases k
  · simp only [CK.ty, C.pay, CK.num, C.bits, C.text]
    have h0 := tc_I8_I8
    go_enter Tryz.func169, Tryz.ntmps169
    go_wp2
    refine bodyPost_ret (results_cell_row rfl _ _ w.heap.size _ _ _ _ rfl (heap_alloc_new w _) Tryz.underlying63 rfl (by kernel_rfl)) rfl ⟨?_, (Fr.refl _ _).alloc _⟩
    first | rfl | simp
  · simp only [CK.ty, C.pay, CK.num, C.bits, C.text]
    have h0 := tc_I8_U8
    have h1 := tc_U8_U8
    go_enter Tryz.func169, Tryz.ntmps169
    go_wp2
    refine bodyPost_ret (results_cell_row rfl _ _ w.heap.size _ _ _ _ rfl (heap_alloc_new w _) Tryz.underlying63 rfl (by kernel_rfl)) rfl ⟨?_, (Fr.refl _ _).alloc _⟩
    first | rfl | simp
  · simp only [CK.ty, C.pay, CK.num, C.bits, C.text]
    have h0 := tc_I8_I16
    have h1 := tc_U8_I16
    have h2 := tc_I16_I16
    go_enter Tryz.func169, Tryz.ntmps169
    go_wp2
    refine bodyPost_ret (results_cell_row rfl _ _ w.heap.size _ _ _ _ rfl (heap_alloc_new w _) Tryz.underlying63 rfl (by kernel_rfl)) rfl ⟨?_, (Fr.refl _ _).alloc _⟩
    first | rfl | simp
  · simp only [CK.ty, C.pay, CK.num, C.bits, C.text]
    have h0 := tc_I8_U16
    have h1 := tc_U8_U16
    have h2 := tc_I16_U16
    have h3 := tc_U16_U16
    go_enter Tryz.func169, Tryz.ntmps169
    go_wp2
    refine bodyPost_ret (results_cell_row rfl _ _ w.heap.size _ _ _ _ rfl (heap_alloc_new w _) Tryz.underlying63 rfl (by kernel_rfl)) rfl ⟨?_, (Fr.refl _ _).alloc _⟩
    first | rfl | simp
  · simp only [CK.ty, C.pay, CK.num, C.bits, C.text]
    have h0 := tc_I8_I32
    have h1 := tc_U8_I32
    have h2 := tc_I16_I32
    have h3 := tc_U16_I32
    have h4 := tc_I32_I32
    go_enter Tryz.func169, Tryz.ntmps169
    go_wp2
    refine bodyPost_ret (results_cell_row rfl _ _ w.heap.size _ _ _ _ rfl (heap_alloc_new w _) Tryz.underlying63 rfl (by kernel_rfl)) rfl ⟨?_, (Fr.refl _ _).alloc _⟩
    first | rfl | simp
  · simp only [CK.ty, C.pay, CK.num, C.bits, C.text]
    have h0 := tc_I8_U32
    have h1 := tc_U8_U32
    have h2 := tc_I16_U32
    have h3 := tc_U16_U32
    have h4 := tc_I32_U32
    have h5 := tc_U32_U32
    go_enter Tryz.func169, Tryz.ntmps169
    go_wp2
    refine bodyPost_ret (results_cell_row rfl _ _ w.heap.size _ _ _ _ rfl (heap_alloc_new w _) Tryz.underlying63 rfl (by kernel_rfl)) rfl ⟨?_, (Fr.refl _ _).alloc _⟩
    first | rfl | simp
  · simp only [CK.ty, C.pay, CK.num, C.bits, C.text]
    have h0 := tc_I8_I64
    have h1 := tc_U8_I64
    have h2 := tc_I16_I64
    have h3 := tc_U16_I64
    have h4 := tc_I32_I64
    have h5 := tc_U32_I64
    have h6 := tc_I64_I64
    go_enter Tryz.func169, Tryz.ntmps169
    go_wp2
    refine bodyPost_ret (results_cell_row rfl _ _ w.heap.size _ _ _ _ rfl (heap_alloc_new w _) Tryz.underlying63 rfl (by kernel_rfl)) rfl ⟨?_, (Fr.refl _ _).alloc _⟩
    first | rfl | simp
  · simp only [CK.ty, C.pay, CK.num, C.bits, C.text]
    have h0 := tc_I8_U64
    have h1 := tc_U8_U64
    have h2 := tc_I16_U64
    have h3 := tc_U16_U64
    have h4 := tc_I32_U64
    have h5 := tc_U32_U64
    have h6 := tc_I64_U64
    have h7 := tc_U64_U64
    go_enter Tryz.func169, Tryz.ntmps169
    go_wp2
    refine bodyPost_ret (results_cell_row rfl _ _ w.heap.size _ _ _ _ rfl (heap_alloc_new w _) Tryz.underlying63 rfl (by kernel_rfl)) rfl ⟨?_, (Fr.refl _ _).alloc _⟩
    first | rfl | simp
  · simp only [CK.ty, C.pay, CK.num, C.bits, C.text]
    have h0 := tc_I8_F32
    have h1 := tc_U8_F32
    have h2 := tc_I16_F32
    have h3 := tc_U16_F32
    have h4 := tc_I32_F32
    have h5 := tc_U32_F32
    have h6 := tc_I64_F32
    have h7 := tc_U64_F32
    have h8 := tc_F32_F32
    have hb := run_b32
    go_enter Tryz.func169, Tryz.ntmps169
    go_wp2
    refine bodyPost_ret (results_cell_row rfl _ _ w.heap.size _ _ _ _ rfl (heap_alloc_new w _) Tryz.underlying63 rfl (by kernel_rfl)) rfl ⟨?_, (Fr.refl _ _).alloc _⟩
    first | rfl | simp
  · simp only [CK.ty, C.pay, CK.num, C.bits, C.text]
    have h0 := tc_I8_F64
    have h1 := tc_U8_F64
    have h2 := tc_I16_F64
    have h3 := tc_U16_F64
    have h4 := tc_I32_F64
    have h5 := tc_U32_F64
    have h6 := tc_I64_F64
    have h7 := tc_U64_F64
    have h8 := tc_F32_F64
    have h9 := tc_F64_F64
    have hb := run_b64
    go_enter Tryz.func169, Tryz.ntmps169
    go_wp2
    refine bodyPost_ret (results_cell_row rfl _ _ w.heap.size _ _ _ _ rfl (heap_alloc_new w _) Tryz.underlying63 rfl (by kernel_rfl)) rfl ⟨?_, (Fr.refl _ _).alloc _⟩
    first | rfl | simp
  · simp only [CK.ty, C.pay, CK.num, C.bits, C.text]
    have h0 := tc_I8_String
    have h1 := tc_U8_String
    have h2 := tc_I16_String
    have h3 := tc_U16_String
    have h4 := tc_I32_String
    have h5 := tc_U32_String
    have h6 := tc_I64_String
    have h7 := tc_U64_String
    have h8 := tc_F32_String
    have h9 := tc_F64_String
    have h10 := tc_String_String
    go_enter Tryz.func169, Tryz.ntmps169
    go_wp2
    refine bodyPost_ret (results_cell_row rfl _ _ w.heap.size _ _ _ _ rfl (heap_alloc_new w _) Tryz.underlying63 rfl (by kernel_rfl)) rfl ⟨?_, (Fr.refl _ _).alloc _⟩
    first | rfl | simp
end
section
open Go Go.RowKit Bth
set_option maxRecDepth 100000
def g0 : G := ⟨false, 0, 0, 0⟩
def opCells (kind : Int) (r : G) (hb hi : Bool) (base index : G) (scale : Nat) (disp : Int) (sym : ByteArray) (static : Bool) (ck cb : Int) (ct : ByteArray) (label : ByteArray) (rel : Int) : Array Value :=
  #[.int .i64 kind, .bool r.virt, .int .u8 (r.kind : Int), .int .u16 (r.idx : Int), .int .u16 (r.spec : Int), .bool hb, .bool hi,
    .bool base.virt, .int .u8 (base.kind : Int), .int .u16 (base.idx : Int), .int .u16 (base.spec : Int), .bool index.virt, .int .u8 (index.kind : Int), .int .u16 (index.idx : Int), .int .u16 (index.spec : Int),
    .int .u8 (scale : Int), .int .i64 disp, .string sym, .bool static, .int .i64 ck, .int .u64 cb, .string ct, .string label, .int .i32 rel]
def e0 : ByteArray := ⟨#[]⟩
def M.pcells (m : M) : Array Value := opCells 2 g0 m.base.isSome m.index.isSome ((m.base.map R.plain).getD g0) ((m.index.map R.plain).getD g0) m.scale m.disp m.sym m.static 0 0 e0 e0 0
theorem opCells_one (kind : Int) (r : G) (hb hi : Bool) (base index : G) (scale : Nat) (disp : Int) (sym : ByteArray) (static : Bool) (ck cb : Int) (ct : ByteArray) (label : ByteArray) (rel : Int) : (opCells kind r hb hi base index scale disp sym static ck cb ct label rel).all (·.oneCell') = true := by simp [opCells, Value.oneCell']
theorem wpList_store4 {P : Program} {ops : Array Oper} {rest : List Oper} {op : Oper} {a : Act} {w : World} {Q : Exit → Act → World → Prop} (hgd : op.guard = none) {ty : TypeId} {x y : Operand} (ho : op.op = .store ty x y)
    {b o : Nat} {x1 x2 x3 x4 : Value} {cs cs' : Array Value} {t : TypeId} (hx : a.eval x = .pointer (some ⟨b, o, none⟩)) (hy : a.eval y = .agg #[x1, x2, x3, x4]) (hb : w.heap[b]? = some (.cells cs t (0, 0))) (hl : o + 4 ≤ cs.size)
    (hi : (P.info? ty).map (·.size) = some 4) (h1 : (#[x1, x2, x3, x4] : Array Value).all (·.oneCell') = true) (hc : (((cs.setIfInBounds o x1).setIfInBounds (o + 1) x2).setIfInBounds (o + 1 + 1) x3).setIfInBounds (o + 1 + 1 + 1) x4 = cs')
    (h : ∀ w', w'.heap[b]? = some (.cells cs' t (0, 0)) → Fr (fun x => x = b) w w' → wpList P ops Q rest (a.put op.dst undef) w') : wpList P ops Q (op :: rest) a w := by
  refine wpList_store_mid hgd ty x y ho b o #[x1, x2, x3, x4] hx hy (fun j hj => ⟨?_, frozen_row hb _⟩) hi h1 (h _ ?_ (setCells_fr _ _ _ _ (Fr.refl _ _) (.inl rfl)))
  · rw [cell_of_row w b _ _ _ (0, 0) hb]
    have hj' : j < 4 := hj
    rw [Array.getElem?_eq_getElem (by omega)]; rfl
  · rw [← hc]
    exact setCell_heap (setCell_heap (setCell_heap (setCell_heap hb x1) x2) x3) x4
set_option maxHeartbeats 4000000 in
theorem plainMem_00 (w : World) (m : M) (hb : m.base = none) (hi : m.index = none) : Calls Tryz.prog 168 #[m.agg] w fun e w' => e = .returned (.agg m.pcells) ∧ Fr nope w w' := by
  obtain ⟨sym, st, d, x, y, sc⟩ := m
  simp only at hb hi
  subst hb hi
  have hp : M.pcells ⟨sym, st, d, none, none, sc⟩ = opCells 2 g0 false false g0 g0 sc d sym st 0 0 e0 e0 0 := rfl
  rw [hp]
  simp only [M.agg, optV]
  clear hp
  have hA : ∀ x y z, _ := fun x y z => alloc3 (w := w) (x := x) (y := y) (z := z) (Fr.refl nope _) (fun _ _ x => x)
  go_enter Tryz.func168, Tryz.ntmps168
  go_upto_region 2 with (first
    | (refine wpList_storeRow (b := w.heap.size + 1 + 1) rfl rfl rfl rfl (hA _ _ _).2.2 rfl (by kernel_rfl) (by simp [Value.oneCell']) ?_; intro w3 hb3 hf3))
  have k0 := hf3.heap (hA _ _ _).1 (by omega)
  have k1 := hf3.heap (hA _ _ _).2.1 (by omega)
  have k2 : w3.heap[w.heap.size + 1 + 1]? = some (.cells (opCells 2 g0 false false g0 g0 sc d sym st 0 0 e0 e0 0) 65 (0, 0)) := hb3
  have hF0 : Fr nope w w3 := ((((Fr.refl nope w).alloc _).alloc _).alloc _).then_new hf3 (fun x hx e => by omega)
  clear hb3 hf3 hA
  have l0 := lt_of_heap k0
  have l1 := lt_of_heap k1
  have l2 := lt_of_heap k2
  have c0 := fun j => cell_of_row _ _ j _ _ (0, 0) k0
  go_wp2_with (first
    | (refine wpList_loadRow (b := w.heap.size + 1 + 1) rfl rfl rfl k2 Tryz.underlying65 rfl (by kernel_rfl) ?_)
    | (refine wpList_storeRow (b := w.heap.size + 1) rfl rfl rfl rfl k1 rfl (by kernel_rfl) (opCells_one _ _ _ _ _ _ _ _ _ _ _ _ _ _ _) ?_; intro w9 hb9 hf9))
  refine bodyPost_ret (results_cell_row rfl _ _ (w.heap.size + 1) _ _ _ _ rfl hb9 Tryz.underlying65 rfl (by kernel_rfl)) rfl ⟨rfl, hF0.then_new hf9 (fun x hx e => by omega)⟩
set_option maxHeartbeats 4000000 in
theorem plainMem_01 (w : World) (m : M) (q : R) (hb : m.base = none) (hi : m.index = some q) (hq : q.At w) : Calls Tryz.prog 168 #[m.agg] w fun e w' => e = .returned (.agg m.pcells) ∧ Fr nope w w' := by
  have hI := fun W (hW : Fr nope w W) => plainReg_calls W q (hq.nope hW)
  obtain ⟨T', v', hv'⟩ := q.val_iface
  rw [hv'] at hI
  obtain ⟨sym, st, d, x, y, sc⟩ := m
  simp only at hb hi
  subst hb hi
  have hp : M.pcells ⟨sym, st, d, none, some q, sc⟩ = opCells 2 g0 false true g0 q.plain sc d sym st 0 0 e0 e0 0 := rfl
  rw [hp]
  simp only [M.agg, optV, hv']
  clear hp
  have hA : ∀ x y z, _ := fun x y z => alloc3 (w := w) (x := x) (y := y) (z := z) (Fr.refl nope _) (fun _ _ x => x)
  go_enter Tryz.func168, Tryz.ntmps168
  go_upto_region 2 with (first
    | (refine wpList_storeRow (b := w.heap.size + 1 + 1) rfl rfl rfl rfl (hA _ _ _).2.2 rfl (by kernel_rfl) (by simp [Value.oneCell']) ?_; intro w3 hb3 hf3))
  have k0 := hf3.heap (hA _ _ _).1 (by omega)
  have k1 := hf3.heap (hA _ _ _).2.1 (by omega)
  have k2 : w3.heap[w.heap.size + 1 + 1]? = some (.cells (opCells 2 g0 false false g0 g0 sc d sym st 0 0 e0 e0 0) 65 (0, 0)) := hb3
  have hF0 : Fr nope w w3 := ((((Fr.refl nope w).alloc _).alloc _).alloc _).then_new hf3 (fun x hx e => by omega)
  clear hb3 hf3 hA
  have l0 := lt_of_heap k0
  have l1 := lt_of_heap k1
  have l2 := lt_of_heap k2
  have c0 := fun j => cell_of_row _ _ j _ _ (0, 0) k0
  go_wp2_with fail
  refine (hI _ hF0).mono ?_
  rintro e w4 ⟨rfl, hf4⟩
  replace k0 := hf4.heap k0 (fun x => x)
  replace k1 := hf4.heap k1 (fun x => x)
  replace k2 := hf4.heap k2 (fun x => x)
  replace hF0 := hF0.then hf4
  clear c0 hf4
  replace l0 := lt_of_heap k0
  replace l1 := lt_of_heap k1
  replace l2 := lt_of_heap k2
  have c0 := fun j => cell_of_row _ _ j _ _ (0, 0) k0
  have c2 := fun j => cell_of_row _ _ j _ _ (0, 0) k2
  have z2 := frozen_row k2
  have s3 : Fr (fun x => x = w.heap.size + 1 + 1) w4 (w4.setCell ⟨w.heap.size + 1 + 1, 6, none⟩ (.bool true)) := (Fr.refl (fun x => x = w.heap.size + 1 + 1) w4).setCell (.inl rfl) _
  have k3 := setCell_heap (k := 6) k2 (.bool true)
  have k0' := s3.heap k0 (by omega)
  have k1' := s3.heap k1 (by omega)
  unfold G.agg
  go_upto_region 6 with (first
    | (refine wpList_store4 (b := w.heap.size + 1 + 1) (o := 11) (cs' := opCells 2 g0 false true g0 q.plain sc d sym st 0 0 e0 e0 0) rfl rfl rfl rfl k3 (by simp [opCells]) (by kernel_rfl) (by simp [Value.oneCell']) rfl ?_; intro w5 hb5 hf5))
  have hF1 := (hF0.then_new s3 (fun x hx e => by omega)).then_new hf5 (fun x hx e => by omega)
  replace k0 := hf5.heap k0' (by omega)
  replace k1 := hf5.heap k1' (by omega)
  replace k2 := hb5
  clear c0 c2 z2 k3 k0' k1' s3 l0 l1 l2 hf5 hb5
  have l0 := lt_of_heap k0
  have l1 := lt_of_heap k1
  have l2 := lt_of_heap k2
  have c0 := fun j => cell_of_row _ _ j _ _ (0, 0) k0
  go_wp2_with (first
    | (refine wpList_loadRow (b := w.heap.size + 1 + 1) rfl rfl rfl k2 Tryz.underlying65 rfl (by kernel_rfl) ?_)
    | (refine wpList_storeRow (b := w.heap.size + 1) rfl rfl rfl rfl k1 rfl (by kernel_rfl) (opCells_one _ _ _ _ _ _ _ _ _ _ _ _ _ _ _) ?_; intro w9 hb9 hf9))
  refine bodyPost_ret (results_cell_row rfl _ _ (w.heap.size + 1) _ _ _ _ rfl hb9 Tryz.underlying65 rfl (by kernel_rfl)) rfl ⟨rfl, hF1.then_new hf9 (fun x hx e => by omega)⟩
set_option maxHeartbeats 4000000 in
theorem plainMem_10 (w : World) (m : M) (r : R) (hb : m.base = some r) (hr : r.At w) (hi : m.index = none) : Calls Tryz.prog 168 #[m.agg] w fun e w' => e = .returned (.agg m.pcells) ∧ Fr nope w w' := by
  have hR := fun W (hW : Fr nope w W) => plainReg_calls W r (hr.nope hW)
  obtain ⟨T, v, hv⟩ := r.val_iface
  rw [hv] at hR
  obtain ⟨sym, st, d, x, y, sc⟩ := m
  simp only at hb hi
  subst hb hi
  have hp : M.pcells ⟨sym, st, d, some r, none, sc⟩ = opCells 2 g0 true false r.plain g0 sc d sym st 0 0 e0 e0 0 := rfl
  rw [hp]
  simp only [M.agg, optV, hv]
  clear hp
  have hA : ∀ x y z, _ := fun x y z => alloc3 (w := w) (x := x) (y := y) (z := z) (Fr.refl nope _) (fun _ _ x => x)
  go_enter Tryz.func168, Tryz.ntmps168
  go_upto_region 2 with (first
    | (refine wpList_storeRow (b := w.heap.size + 1 + 1) rfl rfl rfl rfl (hA _ _ _).2.2 rfl (by kernel_rfl) (by simp [Value.oneCell']) ?_; intro w3 hb3 hf3))
  have k0 := hf3.heap (hA _ _ _).1 (by omega)
  have k1 := hf3.heap (hA _ _ _).2.1 (by omega)
  have k2 : w3.heap[w.heap.size + 1 + 1]? = some (.cells (opCells 2 g0 false false g0 g0 sc d sym st 0 0 e0 e0 0) 65 (0, 0)) := hb3
  have hF0 : Fr nope w w3 := ((((Fr.refl nope w).alloc _).alloc _).alloc _).then_new hf3 (fun x hx e => by omega)
  clear hb3 hf3 hA
  have l0 := lt_of_heap k0
  have l1 := lt_of_heap k1
  have l2 := lt_of_heap k2
  have c0 := fun j => cell_of_row _ _ j _ _ (0, 0) k0
  go_wp2_with fail
  refine (hR _ hF0).mono ?_
  rintro e w4 ⟨rfl, hf4⟩
  replace k0 := hf4.heap k0 (fun x => x)
  replace k1 := hf4.heap k1 (fun x => x)
  replace k2 := hf4.heap k2 (fun x => x)
  replace hF0 := hF0.then hf4
  clear c0 hf4
  replace l0 := lt_of_heap k0
  replace l1 := lt_of_heap k1
  replace l2 := lt_of_heap k2
  have c0 := fun j => cell_of_row _ _ j _ _ (0, 0) k0
  have c2 := fun j => cell_of_row _ _ j _ _ (0, 0) k2
  have z2 := frozen_row k2
  have s3 : Fr (fun x => x = w.heap.size + 1 + 1) w4 (w4.setCell ⟨w.heap.size + 1 + 1, 5, none⟩ (.bool true)) := (Fr.refl (fun x => x = w.heap.size + 1 + 1) w4).setCell (.inl rfl) _
  have k3 := setCell_heap (k := 5) k2 (.bool true)
  have k0' := s3.heap k0 (by omega)
  have k1' := s3.heap k1 (by omega)
  unfold G.agg
  go_upto_region 4 with (first
    | (refine wpList_store4 (b := w.heap.size + 1 + 1) (o := 7) (cs' := opCells 2 g0 true false r.plain g0 sc d sym st 0 0 e0 e0 0) rfl rfl rfl rfl k3 (by simp [opCells]) (by kernel_rfl) (by simp [Value.oneCell']) rfl ?_; intro w5 hb5 hf5))
  have hF1 := (hF0.then_new s3 (fun x hx e => by omega)).then_new hf5 (fun x hx e => by omega)
  replace k0 := hf5.heap k0' (by omega)
  replace k1 := hf5.heap k1' (by omega)
  replace k2 := hb5
  clear c0 c2 z2 k3 k0' k1' s3 l0 l1 l2 hf5 hb5
  have l0 := lt_of_heap k0
  have l1 := lt_of_heap k1
  have l2 := lt_of_heap k2
  have c0 := fun j => cell_of_row _ _ j _ _ (0, 0) k0
  go_wp2_with (first
    | (refine wpList_loadRow (b := w.heap.size + 1 + 1) rfl rfl rfl k2 Tryz.underlying65 rfl (by kernel_rfl) ?_)
    | (refine wpList_storeRow (b := w.heap.size + 1) rfl rfl rfl rfl k1 rfl (by kernel_rfl) (opCells_one _ _ _ _ _ _ _ _ _ _ _ _ _ _ _) ?_; intro w9 hb9 hf9))
  refine bodyPost_ret (results_cell_row rfl _ _ (w.heap.size + 1) _ _ _ _ rfl hb9 Tryz.underlying65 rfl (by kernel_rfl)) rfl ⟨rfl, hF1.then_new hf9 (fun x hx e => by omega)⟩
set_option maxHeartbeats 4000000 in
theorem plainMem_11 (w : World) (m : M) (r : R) (q : R) (hb : m.base = some r) (hr : r.At w) (hi : m.index = some q) (hq : q.At w) : Calls Tryz.prog 168 #[m.agg] w fun e w' => e = .returned (.agg m.pcells) ∧ Fr nope w w' := by
  have hR := fun W (hW : Fr nope w W) => plainReg_calls W r (hr.nope hW)
  obtain ⟨T, v, hv⟩ := r.val_iface
  rw [hv] at hR
  have hI := fun W (hW : Fr nope w W) => plainReg_calls W q (hq.nope hW)
  obtain ⟨T', v', hv'⟩ := q.val_iface
  rw [hv'] at hI
  obtain ⟨sym, st, d, x, y, sc⟩ := m
  simp only at hb hi
  subst hb hi
  have hp : M.pcells ⟨sym, st, d, some r, some q, sc⟩ = opCells 2 g0 true true r.plain q.plain sc d sym st 0 0 e0 e0 0 := rfl
  rw [hp]
  simp only [M.agg, optV, hv, hv']
  clear hp
  have hA : ∀ x y z, _ := fun x y z => alloc3 (w := w) (x := x) (y := y) (z := z) (Fr.refl nope _) (fun _ _ x => x)
  go_enter Tryz.func168, Tryz.ntmps168
  go_upto_region 2 with (first
    | (refine wpList_storeRow (b := w.heap.size + 1 + 1) rfl rfl rfl rfl (hA _ _ _).2.2 rfl (by kernel_rfl) (by simp [Value.oneCell']) ?_; intro w3 hb3 hf3))
  have k0 := hf3.heap (hA _ _ _).1 (by omega)
  have k1 := hf3.heap (hA _ _ _).2.1 (by omega)
  have k2 : w3.heap[w.heap.size + 1 + 1]? = some (.cells (opCells 2 g0 false false g0 g0 sc d sym st 0 0 e0 e0 0) 65 (0, 0)) := hb3
  have hF0 : Fr nope w w3 := ((((Fr.refl nope w).alloc _).alloc _).alloc _).then_new hf3 (fun x hx e => by omega)
  clear hb3 hf3 hA
  have l0 := lt_of_heap k0
  have l1 := lt_of_heap k1
  have l2 := lt_of_heap k2
  have c0 := fun j => cell_of_row _ _ j _ _ (0, 0) k0
  go_wp2_with fail
  refine (hR _ hF0).mono ?_
  rintro e w4 ⟨rfl, hf4⟩
  replace k0 := hf4.heap k0 (fun x => x)
  replace k1 := hf4.heap k1 (fun x => x)
  replace k2 := hf4.heap k2 (fun x => x)
  replace hF0 := hF0.then hf4
  clear c0 hf4
  replace l0 := lt_of_heap k0
  replace l1 := lt_of_heap k1
  replace l2 := lt_of_heap k2
  have c0 := fun j => cell_of_row _ _ j _ _ (0, 0) k0
  have c2 := fun j => cell_of_row _ _ j _ _ (0, 0) k2
  have z2 := frozen_row k2
  have s3 : Fr (fun x => x = w.heap.size + 1 + 1) w4 (w4.setCell ⟨w.heap.size + 1 + 1, 5, none⟩ (.bool true)) := (Fr.refl (fun x => x = w.heap.size + 1 + 1) w4).setCell (.inl rfl) _
  have k3 := setCell_heap (k := 5) k2 (.bool true)
  have k0' := s3.heap k0 (by omega)
  have k1' := s3.heap k1 (by omega)
  unfold G.agg
  go_upto_region 4 with (first
    | (refine wpList_store4 (b := w.heap.size + 1 + 1) (o := 7) (cs' := opCells 2 g0 true false r.plain g0 sc d sym st 0 0 e0 e0 0) rfl rfl rfl rfl k3 (by simp [opCells]) (by kernel_rfl) (by simp [Value.oneCell']) rfl ?_; intro w5 hb5 hf5))
  have hF1 := (hF0.then_new s3 (fun x hx e => by omega)).then_new hf5 (fun x hx e => by omega)
  replace k0 := hf5.heap k0' (by omega)
  replace k1 := hf5.heap k1' (by omega)
  replace k2 := hb5
  clear c0 c2 z2 k3 k0' k1' s3 l0 l1 l2 hf5 hb5
  have l0 := lt_of_heap k0
  have l1 := lt_of_heap k1
  have l2 := lt_of_heap k2
  have c0 := fun j => cell_of_row _ _ j _ _ (0, 0) k0
  go_wp2_with fail
  refine (hI _ hF1).mono ?_
  rintro e w4' ⟨rfl, hf4⟩
  replace k0 := hf4.heap k0 (fun x => x)
  replace k1 := hf4.heap k1 (fun x => x)
  replace k2 := hf4.heap k2 (fun x => x)
  replace hF1 := hF1.then hf4
  clear c0 hf4
  replace l0 := lt_of_heap k0
  replace l1 := lt_of_heap k1
  replace l2 := lt_of_heap k2
  have c0 := fun j => cell_of_row _ _ j _ _ (0, 0) k0
  have c2 := fun j => cell_of_row _ _ j _ _ (0, 0) k2
  have z2 := frozen_row k2
  have s3 : Fr (fun x => x = w.heap.size + 1 + 1) w4' (w4'.setCell ⟨w.heap.size + 1 + 1, 6, none⟩ (.bool true)) := (Fr.refl (fun x => x = w.heap.size + 1 + 1) w4').setCell (.inl rfl) _
  have k3 := setCell_heap (k := 6) k2 (.bool true)
  have k0' := s3.heap k0 (by omega)
  have k1' := s3.heap k1 (by omega)
  unfold G.agg
  go_upto_region 6 with (first
    | (refine wpList_store4 (b := w.heap.size + 1 + 1) (o := 11) (cs' := opCells 2 g0 true true r.plain q.plain sc d sym st 0 0 e0 e0 0) rfl rfl rfl rfl k3 (by simp [opCells]) (by kernel_rfl) (by simp [Value.oneCell']) rfl ?_; intro w6 hb6 hf6))
  have hF2 := (hF1.then_new s3 (fun x hx e => by omega)).then_new hf6 (fun x hx e => by omega)
  replace k0 := hf6.heap k0' (by omega)
  replace k1 := hf6.heap k1' (by omega)
  replace k2 := hb6
  clear c0 c2 z2 k3 k0' k1' s3 l0 l1 l2 hf6 hb6
  have l0 := lt_of_heap k0
  have l1 := lt_of_heap k1
  have l2 := lt_of_heap k2
  have c0 := fun j => cell_of_row _ _ j _ _ (0, 0) k0
  go_wp2_with (first
    | (refine wpList_loadRow (b := w.heap.size + 1 + 1) rfl rfl rfl k2 Tryz.underlying65 rfl (by kernel_rfl) ?_)
    | (refine wpList_storeRow (b := w.heap.size + 1) rfl rfl rfl rfl k1 rfl (by kernel_rfl) (opCells_one _ _ _ _ _ _ _ _ _ _ _ _ _ _ _) ?_; intro w9 hb9 hf9))
  refine bodyPost_ret (results_cell_row rfl _ _ (w.heap.size + 1) _ _ _ _ rfl hb9 Tryz.underlying65 rfl (by kernel_rfl)) rfl ⟨rfl, hF2.then_new hf9 (fun x hx e => by omega)⟩
theorem plainMem_calls (w : World) (m : M) (hm : ∀ r ∈ m.regs, r.At w) : Calls Tryz.prog 168 #[m.agg] w fun e w' => e = .returned (.agg m.pcells) ∧ Fr nope w w' := by
  cases hb : m.base with
  | none =>
    cases hi : m.index with
    | none => exact plainMem_00 w m hb hi
    | some q => exact plainMem_01 w m q hb hi (hm q (by simp [M.regs, hi]))
  | some r =>
    cases hi : m.index with
    | none => exact plainMem_10 w m r hb (hm r (by simp [M.regs, hb])) hi
    | some q => exact plainMem_11 w m r q hb (hm r (by simp [M.regs, hb])) hi (hm q (by simp [M.regs, hi]))
end
end Go.Proofs.YtbaihlfnbdifgaaGreat
