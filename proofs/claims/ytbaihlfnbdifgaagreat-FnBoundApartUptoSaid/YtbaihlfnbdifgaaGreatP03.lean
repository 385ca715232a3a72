/- Part of the proof of boundApart_upto. -/
import Derived.Test.YtbaihlfnbdifgaaGreatP02
namespace Go.Proofs.YtbaihlfnbdifgaaGreat
section
open Go Go.RowKit Bth
set_option maxRecDepth 100000
theorem infoPhys : (Tryz.prog.info? 158).map (fun i => (i.zero, i.size, i.bytes)) = some (some .nilIface, 1, 16) := by kernel_rfl
def FamAt (w : World) (fb : Nat) (k : Nat) (v : Value) : Prop := w.heap[fb]? = some (.cells #[.int .u8 (k : Int), v] 200 (0, 0))
theorem FamAt.reg {w : World} {fb k : Nat} {v : Value} (h : FamAt w fb k v) (r : R) (h1 : r.fb = fb) (h2 : r.kind = k) : r.At w := fun _ => ⟨v, by rw [h1, h2]; exact h⟩
def GivesReg (w : World) (fb k : Nat) (v0 : Value) (r : R) (base n : Nat) (xs : List Value) (e : Ending) (w' : World) : Prop :=
  e = .returned (.tuple #[]) ∧ ∃ v, FamAt w' fb k v ∧ w'.ownsRow base 158 1 v (n + 1) (xs ++ [r.val]) ∧ Fr (fun b => b = fb ∨ v0.ownBlock = some b) w w'
theorem R.kindP (r : R) (hv : r.virt = false) : ∃ T v, r.val = .iface T v ∧ ∀ W, (method 474 T v "Kind").run Tryz.prog W = .ok (213, .agg #[.pointer (some ⟨r.fb, 0, none⟩), .int .u16 (r.idx : Int), .string r.name, .int .u8 (r.info : Int), .int .u16 (r.spec : Int)]) W := by
  obtain ⟨T, v, h⟩ := r.val_iface
  refine ⟨T, v, h, fun W => ?_⟩
  obtain ⟨T', v', h1, h2⟩ := r.m_Kind_p W hv
  rw [h] at h1
  injection h1 with e1 e2
  subst e1 e2
  rw [sizeTypes] at h2
  exact h2
theorem add_calls (w : World) (fb k : Nat) (v : Value) (r : R) (base n : Nat) (xs : List Value) (hfb : FamAt w fb k v) (hown : w.ownsRow base 158 1 v n xs) (hn : n ≤ 1000) (hb : fb < base) (hbs : base ≤ w.heap.size) (h1 : r.fb = fb) (h2 : r.kind = k) (hvirt : r.virt = false) :
    Calls Tryz.prog 101 #[.pointer (some ⟨fb, 0, none⟩), r.val] w (GivesReg w fb k v r base n xs) := by
  obtain ⟨A, c, rfl, _, _⟩ := own_slice hown
  have hat := hfb.reg r h1 h2
  subst h1 h2
  have hbl := lt_of_heap hfb
  have hc := fun j => cell_of_row _ _ j _ _ (0, 0) hfb
  have hc0 : w.cell? ⟨r.fb, 0, none⟩ = some (.int .u8 (r.kind : Int)) := hc 0
  unfold GivesReg
  obtain ⟨T, v, hv, hm⟩ := r.kindP hvirt
  rw [hv]
  have h1 : ∀ u ∈ [Value.iface T v], u.oneCell' = true := by simp [Value.oneCell']
  clear hv hat
  go_enter Tryz.func101, Tryz.ntmps101
  go_wp2
  go_region_with (first
    | (go_at_call 213; refine (register_Kind_calls _ r.fb r.idx r.kind r.spec r.info r.name ?_).mono ?_; go_simp; rintro e w1 ⟨rfl, hf⟩; have hk0 : w1.cell? ⟨r.fb, 0, none⟩ = some (.int .u8 (r.kind : Int)) := hf.cell (p := ⟨r.fb, 0, none⟩) hc0 (fun x => x)))
  all_goals
    have hfr := ((Fr.refl nope w).drew.then hf)
    have hfam1 := hfr.heap hfb (fun x => x)
    have hown1 := own_fr hown hfr (fun _ _ x => x)
    have hcw := fun j => cell_of_row _ _ j _ _ (0, 0) hfam1
    have hblw := lt_of_heap hfam1
    have hsz := hfr.size
    go_wp2_with (refine wpList_app (v := .slice A n c) rfl rfl Tryz.underlying155 infoPhys rfl (by omega) rfl (own_fr hown1 ((Fr.refl nope _).alloc _) (fun _ _ x => x)) rfl (news := [.iface T v]) rfl (one_new _ _ _ _ rfl) h1 (by simp only [maxLen]; omega) (by omega) (by simp; omega) ?hk)
    case hk =>
      intro v3 w3 hown3 hf3 hb3
      obtain ⟨A3, c3, rfl, _, _⟩ := own_slice hown3
      have hfn3 := hf3.heap (((Fr.refl nope w1).alloc _).heap hfam1 (fun x => x)) (fun he => by have := own_base hown _ he; omega)
      have hz : ∀ j, w3.frozen? ⟨r.fb, j, none⟩ = false := fun j => by simp [World.frozen?, hfn3]
      have hc3 := fun j => cell_of_row _ _ j _ _ (0, 0) hfn3
      go_wp2
      go_end0
      refine ⟨rfl, _, setCell_heap hfn3 _, ?_, ?_⟩
      · refine own_fr hown3 ((Fr.refl (fun b => b = r.fb) w3).setCell (.inl rfl) _) (fun b hb2 he => ?_)
        have := own_base hown3 b hb2
        omega
      · refine Fr.setCell (a := w) (b := w3) (((hfr.of_nope.alloc _).then (hf3.mono (T := fun b => b = r.fb ∨ (Value.slice A n c).ownBlock = some b) (fun x _ h => .inr h)))) (.inl (.inl rfl)) _
end
end Go.Proofs.YtbaihlfnbdifgaaGreat
namespace Bth
section
open Go Go.RowKit
section
variable {P : Program} {ops : Array Oper} {rest : List Oper} {o : Oper} {a : Act} {Q : Exit → Act → World → Prop} {w : World}
theorem put_eval (a : Act) (d t : Nat) (v : Value) (hd : d < a.tmps.size) : (a.put (some d) v).eval (.tmp t) = if d = t then v else a.eval (.tmp t) := by
  simp only [Act.put, Act.eval, Array.getD_eq_getD_getElem?, Array.getElem?_setIfInBounds]
  split
  · rename_i h; subst h; rfl
  · rfl
theorem put_size (a : Act) (d : Nat) (v : Value) : (a.put (some d) v).tmps.size = a.tmps.size := by simp [Act.put]
theorem put_defers (a : Act) (d : Nat) (v : Value) : (a.put (some d) v).defers = a.defers := rfl
theorem L_move {x : Operand} (hg : o.guard = none) (hop : o.op = .move x) (h : wpList P ops Q rest (a.put o.dst (a.eval x)) w) : wpList P ops Q (o :: rest) a w := by
  refine wpList_plain hg fun K hK => ?_
  unfold Oper.wp
  simp [execOp, hop]
  exact hK _ _ h
theorem L_iface {x : Operand} {T : TypeId} (hg : o.guard = none) (hop : o.op = .makeInterface T x) (hr : (Instr.makeInterface T (a.eval x)).run P w = .ok (.iface T (a.eval x)) w) (h : wpList P ops Q rest (a.put o.dst (.iface T (a.eval x))) w) : wpList P ops Q (o :: rest) a w := by
  refine wpList_plain hg fun K hK => ?_
  unfold Oper.wp
  simp [execOp, hop, hr]
  exact hK _ _ h
theorem L_call {f : FuncId} {fn : Func} {args : Array Operand} {ats : Array TypeId} (hg : o.guard = none) (hop : o.op = .call { callee := .value (.func f), args := args, argTypes := ats })
    (hf : P.funcs[f]? = some fn) (hn : (fn.name == "runtime.NumGoroutine") = false) (hb : fn.body.isNone = false)
    (hc : Calls P f (args.map a.eval) w fun
      | .returned y, w' => wpList P ops Q rest (a.put o.dst y) w'
      | _, _ => False) : wpList P ops Q (o :: rest) a w := by
  refine wpList_plain hg fun K hK => ?_
  have hrun : (execOp a.eval o).run P w = .ok (.enter f (args.map a.eval)) w := by
    unfold execOp
    rw [hop]
    simp [resolve, invoke, Act.eval, Deferred.ofValue, Go.Proofs.YtbaihlfnbdifgaaGreat.run_callFunc hf hn hb]
  show o.upon P a K Q ((execOp a.eval o).run P w)
  rw [hrun]
  refine hc.mono fun e w' h => ?_
  cases e with
  | returned y => exact hK _ _ h
  | panicked chain => exact h.elim
  | outgrown => exact h.elim
end
end
end Bth
namespace Go.Proofs.YtbaihlfnbdifgaaGreat
section
open Go Go.RowKit Bth
set_option maxRecDepth 100000
structure FrameOk (fb : Nat) (x7 : Value) (a : Act) : Prop where
  size : a.tmps.size = 1066
  defers : a.defers = []
  t3 : a.eval (.tmp 3) = .pointer (some ⟨fb, 0, none⟩)
  t7 : a.eval (.tmp 7) = x7
theorem FrameOk.put {fb : Nat} {x7 : Value} {a : Act} (h : FrameOk fb x7 a) {d : Nat} (v : Value) (hd : d < 1066) (h3 : d ≠ 3) (h7 : d ≠ 7) : FrameOk fb x7 (a.put (some d) v) :=
  ⟨by rw [put_size, h.size], h.defers, by rw [put_eval a d 3 v (by rw [h.size]; exact hd), if_neg h3, h.t3], by rw [put_eval a d 7 v (by rw [h.size]; exact hd), if_neg h7, h.t7]⟩
def wrapF : Nat → FuncId
  | 1 => 102
  | 2 => 104
  | _ => 105
structure Ent where
  spec : Nat
  idx : Nat
  name : ByteArray
  info : Nat
def Ent.r (e : Ent) (fb k : Nat) : R := { virt := false, kind := k, idx := e.idx, spec := e.spec, fb := fb, name := e.name, info := e.info }
theorem bs_flag (w : World) (v' : Int) : (Instr.buildSlice 258 1 #[(0, .int .u8 v')]).run Tryz.prog w = .ok (.slice (some ⟨w.heap.size, 0, none⟩) 1 1) (w.alloc (.cells #[.int .u8 v'] 159)) := by kernel_rfl
theorem mi_reg (w : World) (v : Value) : (Instr.makeInterface 209 v).run Tryz.prog w = .ok (.iface 209 v) w := by kernel_rfl
theorem wrap_calls (w : World) (k : Nat) (hk : k = 1 ∨ k = 2 ∨ k = 3) (x : Value) : Calls Tryz.prog (wrapF k) #[.iface 209 x] w fun e w' => e = .returned (wrapP k (.iface 209 x)) ∧ w' = w := by
  rcases hk with rfl | rfl | rfl
  · exact newgpp_calls w _ x
  · exact newvecp_calls w _ x
  · exact newopmaskp_calls w _ x
section
variable {ops : Array Oper} {rest : List Oper} {o0 o1 oF o2 o3 o4 o5 : Oper} {a : Act} {Q : Exit → Act → World → Prop} {w : World}
theorem step_tail {s c : Nat} {fb k : Nat} {x7 : Value} {v : Value} {base n : Nat} {xs : List Value} (e : Ent) (fl : List Nat) (A : Option Addr) (cp : Nat) (x : Operand) (hk : k = 1 ∨ k = 2 ∨ k = 3) (he : e.info = orF fl)
    (hs : 7 < s) (hsc : s + 1 < c) (hs2 : c + 4 ≤ 1066) (hfr : FrameOk fb x7 a) (hfb : FamAt w fb k v) (hown : w.ownsRow base 158 1 v n xs) (hn : n ≤ 1000) (hb : fb < base) (hbs : base ≤ w.heap.size)
    (e0 : a.eval (.tmp s) = .pointer (some ⟨fb, 0, none⟩)) (e1 : a.eval (.tmp (s + 1)) = .pointer (some ⟨fb, 0, none⟩)) (hx : a.eval x = .slice A fl.length cp) (hS : Sl w A fl.length (fl.map fun (x : Nat) => .int .u8 (x : Int))) (hfl : ∀ x ∈ fl, x < 256) (hl : fl.length < 100)
    (g2 : o2.guard = none) (g3 : o3.guard = none) (g4 : o4.guard = none) (g5 : o5.guard = none)
    (d2 : o2.dst = some c) (d3 : o3.dst = some (c + 1)) (d4 : o4.dst = some (c + 2)) (d5 : o5.dst = some (c + 3))
    {t2 t4 t5 : Array TypeId}
    (p2 : o2.op = .call { callee := .value (.func 103), args := #[.tmp (s + 1), .const (.int .u16 (e.spec : Int)), .const (.int .u16 (e.idx : Int)), .const (.string e.name), x], argTypes := t2 })
    (p3 : o3.op = .makeInterface 209 (.tmp c))
    (p4 : o4.op = .call { callee := .value (.func (wrapF k)), args := #[.tmp (c + 1)], argTypes := t4 })
    (p5 : o5.op = .call { callee := .value (.func 101), args := #[.tmp s, .tmp (c + 2)], argTypes := t5 })
    (h : ∀ a' w' v', FrameOk fb x7 a' → FamAt w' fb k v' → w'.ownsRow base 158 1 v' (n + 1) (xs ++ [(e.r fb k).val]) → Fr (fun b => fb ≤ b) w w' → wpList Tryz.prog ops Q rest a' w') :
    wpList Tryz.prog ops Q (o2 :: o3 :: o4 :: o5 :: rest) a w := by
  have ev : ∀ {a : Act}, FrameOk fb x7 a → ∀ (d t : Nat) v, d < 1066 → (a.put (some d) v).eval (.tmp t) = if d = t then v else a.eval (.tmp t) := fun h d t v hd => put_eval _ d t v (by rw [h.size]; exact hd)
  have evs : ∀ {a : Act}, FrameOk fb x7 a → ∀ (d : Nat) v, d < 1066 → (a.put (some d) v).eval (.tmp d) = v := fun h d v hd => (ev h d d v hd).trans (if_pos rfl)
  have evn : ∀ {a : Act}, FrameOk fb x7 a → ∀ (d t : Nat) v, d < 1066 → d ≠ t → (a.put (some d) v).eval (.tmp t) = a.eval (.tmp t) := fun h d t v hd hn => (ev h d t v hd).trans (if_neg hn)
  have hw : ∃ fn, Tryz.prog.funcs[wrapF k]? = some fn ∧ (fn.name == "runtime.NumGoroutine") = false ∧ fn.body.isNone = false := by
    rcases hk with rfl | rfl | rfl
    · exact ⟨_, Tryz.func102, by kernel_rfl, by kernel_rfl⟩
    · exact ⟨_, Tryz.func104, by kernel_rfl, by kernel_rfl⟩
    · exact ⟨_, Tryz.func105, by kernel_rfl, by kernel_rfl⟩
  refine L_call g2 p2 Tryz.func103 (by kernel_rfl) (by kernel_rfl) ?_
  have ea : (#[Operand.tmp (s + 1), .const (.int .u16 (e.spec : Int)), .const (.int .u16 (e.idx : Int)), .const (.string e.name), x].map a.eval) = #[.pointer (some ⟨fb, 0, none⟩), .int .u16 (e.spec : Int), .int .u16 (e.idx : Int), .string e.name, .slice A fl.length cp] := by
    simp only [List.map_toArray, List.map_cons, List.map_nil, e1, hx]
    rfl
  rw [ea]
  refine (newregister_calls w fb e.spec e.idx e.name A cp fl hS hfl hl).mono ?_
  rintro en w1 ⟨rfl, hf1⟩
  show wpList _ _ _ _ _ _
  rw [d2, ← he]
  generalize hx : Value.agg #[.pointer (some ⟨fb, 0, none⟩), .int .u16 (e.idx : Int), .string e.name, .int .u8 (e.info : Int), .int .u16 (e.spec : Int)] = x
  have f3 := hfr.put (d := c) x (by omega) (by omega) (by omega)
  have e3 := evs hfr c x (by omega)
  have e3' := (evn hfr c s x (by omega) (by omega)).trans e0
  generalize a.put (some c) x = a3 at f3 e3 e3' ⊢
  refine L_iface g3 p3 (mi_reg _ _) ?_
  rw [d3, e3]
  generalize hy : Value.iface 209 x = y
  have f4 := f3.put (d := c + 1) y (by omega) (by omega) (by omega)
  have e4 := evs f3 (c + 1) y (by omega)
  have e4' := (evn f3 (c + 1) s y (by omega) (by omega)).trans e3'
  generalize a3.put (some (c + 1)) y = a4 at f4 e4 e4' ⊢
  obtain ⟨fn, hw1, hw2, hw3⟩ := hw
  refine L_call g4 p4 hw1 hw2 hw3 ?_
  have eb : (#[Operand.tmp (c + 1)].map a4.eval) = #[.iface 209 x] := by
    simp only [List.map_toArray, List.map_cons, List.map_nil, e4, hy]
  rw [eb]
  refine (wrap_calls _ k hk x).mono ?_
  rintro en w2 ⟨rfl, rfl⟩
  show wpList _ _ _ _ _ _
  have hr : wrapP k (.iface 209 x) = (e.r fb k).val := by rw [← hx]; rfl
  rw [d4, hr]
  have f5 := f4.put (d := c + 2) (e.r fb k).val (by omega) (by omega) (by omega)
  have e5 := evs f4 (c + 2) (e.r fb k).val (by omega)
  have e5' := (evn f4 (c + 2) s (e.r fb k).val (by omega) (by omega)).trans e4'
  generalize a4.put (some (c + 2)) (e.r fb k).val = a5 at f5 e5 e5' ⊢
  refine L_call g5 p5 Tryz.func101 (by kernel_rfl) (by kernel_rfl) ?_
  have ec : (#[Operand.tmp s, .tmp (c + 2)].map a5.eval) = #[.pointer (some ⟨fb, 0, none⟩), (e.r fb k).val] := by
    simp only [List.map_toArray, List.map_cons, List.map_nil, e5, e5']
  rw [ec]
  have hfb2 : FamAt w2 fb k v := hf1.heap hfb (fun x => x)
  refine (add_calls w2 fb k v (e.r fb k) base n xs hfb2 (own_fr hown hf1 (fun _ _ x => x)) hn hb (Nat.le_trans hbs hf1.size) rfl rfl rfl).mono ?_
  rintro en w3 ⟨rfl, v', h1, h2, h3⟩
  show wpList _ _ _ _ _ _
  rw [d5]
  exact h _ _ v' (f5.put _ (by omega) (by omega) (by omega)) h1 h2 (hf1.of_nope.then (h3.mono fun x _ hx => by
    rcases hx with rfl | hx
    · exact Nat.le_refl _
    · have := own_base hown x hx
      show fb ≤ x
      omega))
theorem step_head {s : Nat} {fb : Nat} {x7 : Value} {l : List Oper} (hs : 7 < s) (hs2 : s + 6 ≤ 1066) (hfr : FrameOk fb x7 a)
    (g0 : o0.guard = none) (g1 : o1.guard = none) (d0 : o0.dst = some s) (d1 : o1.dst = some (s + 1)) (p0 : o0.op = .move (.tmp 3)) (p1 : o1.op = .move (.tmp 3))
    (h : ∀ a', FrameOk fb x7 a' → a'.eval (.tmp s) = .pointer (some ⟨fb, 0, none⟩) → a'.eval (.tmp (s + 1)) = .pointer (some ⟨fb, 0, none⟩) → wpList Tryz.prog ops Q l a' w) :
    wpList Tryz.prog ops Q (o0 :: o1 :: l) a w := by
  have ev : ∀ {a : Act}, FrameOk fb x7 a → ∀ (d t : Nat) v, d < 1066 → (a.put (some d) v).eval (.tmp t) = if d = t then v else a.eval (.tmp t) := fun h d t v hd => put_eval _ d t v (by rw [h.size]; exact hd)
  refine L_move g0 p0 ?_
  rw [d0, hfr.t3]
  have f1 := hfr.put (d := s) (.pointer (some ⟨fb, 0, none⟩)) (by omega) (by omega) (by omega)
  have e1 := (ev hfr s s (.pointer (some ⟨fb, 0, none⟩)) (by omega)).trans (if_pos rfl)
  generalize a.put (some s) (.pointer (some ⟨fb, 0, none⟩)) = a1 at f1 e1 ⊢
  refine L_move g1 p1 ?_
  rw [d1, f1.t3]
  exact h _ (f1.put (d := s + 1) _ (by omega) (by omega) (by omega)) (((ev f1 (s + 1) s _ (by omega)).trans (if_neg (by omega))).trans e1) ((ev f1 (s + 1) (s + 1) _ (by omega)).trans (if_pos rfl))
theorem L_flag {d : Nat} {f : Nat} (hg : oF.guard = none) (hd : oF.dst = some d) (hop : oF.op = .buildSlice 258 1 #[(0, .const (.int .u8 (f : Int)))])
    (h : wpList Tryz.prog ops Q rest (a.put (some d) (.slice (some ⟨w.heap.size, 0, none⟩) 1 1)) (w.alloc (.cells #[.int .u8 (f : Int)] 159))) : wpList Tryz.prog ops Q (oF :: rest) a w := by
  refine wpList_plain hg fun K hK => ?_
  have hr := bs_flag w (f : Int)
  unfold Oper.wp
  simp [execOp, hop, Act.eval, hr]
  rw [← hd] at h
  exact hK _ _ h
end
end
section
open Go Go.RowKit Bth
set_option maxRecDepth 100000
theorem define_calls (w : World) (fb k : Nat) (v : Value) (e : Ent) (base n : Nat) (xs : List Value) (hk : k = 0) (he : e.info = 0) (hfb : FamAt w fb k v) (hown : w.ownsRow base 158 1 v n xs) (hn : n ≤ 1000) (hb : fb < base) (hbs : base ≤ w.heap.size) :
    Calls Tryz.prog 100 #[.pointer (some ⟨fb, 0, none⟩), .int .u16 (e.spec : Int), .int .u16 (e.idx : Int), .string e.name, .slice none 0 0] w
      fun en w' => (∃ y, en = .returned y) ∧ ∃ v', FamAt w' fb k v' ∧ w'.ownsRow base 158 1 v' (n + 1) (xs ++ [(e.r fb k).val]) ∧ Fr (fun b => fb ≤ b) w w' := by
  obtain ⟨sp, ix, nm, inf⟩ := e
  simp only at he
  subst he hk
  go_enter Tryz.func100, Tryz.ntmps100
  go_wp2_with (first
    | (go_at_call 103; refine (newregister_calls w fb sp ix nm none 0 [] (Sl.nil w) (by simp) (by simp)).mono ?_; rintro en w1 ⟨rfl, hf1⟩)
    | (go_at_call 101; refine (add_calls _ fb 0 v (Ent.r ⟨sp, ix, nm, 0⟩ fb 0) base n xs ((hf1.alloc _).heap hfb (fun x => x)) (own_fr hown (hf1.alloc _) (fun _ _ x => x)) hn hb (by have := hf1.size; simp; omega) rfl rfl rfl).mono ?_; rintro en w2 ⟨rfl, v2, hF, hO, hf2⟩; have hbx := hf2.heap (heap_alloc_new w1 _) (by rintro (h | h); (have := lt_of_heap (hf1.heap hfb (fun x => x)); omega); (have := own_lt hown _ h; have := hf1.size; omega)); have hcx := fun j => cell_of_row _ _ j _ _ (0, 0) hbx))
  go_ret
  refine ⟨⟨_, rfl⟩, v2, hF, hO, (hf1.of_nope.alloc _).then (hf2.mono fun x _ hx => ?_)⟩
  rcases hx with rfl | hx
  · exact Nat.le_refl _
  · have := own_base hown x hx
    show fb ≤ x
    omega
end
section
open Go Go.RowKit Bth
set_option maxRecDepth 100000
def wrapT : Nat → TypeId
  | 1 => 206
  | 2 => 212
  | _ => 214
def opM (s : Nat) (p : String) : Oper := { dst := some s, op := .move (.tmp 3), type := 114, pos := p, after := #[], guard := none }
def opN (c : Nat) (s1 : Nat) (p : String) (e : Ent) (x : Operand) (af : Array Edge) : Oper := { dst := some c, op := .call { callee := .value (.func 103), args := #[.tmp s1, .const (.int .u16 (e.spec : Int)), .const (.int .u16 (e.idx : Int)), .const (.string e.name), x], argTypes := #[114, 202, 203, 9, 258] }, type := 209, pos := p, after := af, guard := none }
def opI (c : Nat) (p : String) (on : Nat) : Oper := { dst := some (c + 1), op := .makeInterface 209 (.tmp c), type := 158, pos := p, after := #[{ on := on, ground := .data }], guard := none }
def opW (k c : Nat) (p : String) (on : Nat) : Oper := { dst := some (c + 2), op := .call { callee := .value (.func (wrapF k)), args := #[.tmp (c + 1)], argTypes := #[158] }, type := wrapT k, pos := p, after := #[{ on := on + 1, ground := .data }, { on := on, ground := .chain }], guard := none }
def opA (s c : Nat) (p : String) (on : Nat) : Oper := { dst := some (c + 3), op := .call { callee := .value (.func 101), args := #[.tmp s, .tmp (c + 2)], argTypes := #[114, 158] }, type := 0, pos := p, after := #[{ on := 0, ground := .data }, { on := on + 2, ground := .data }, { on := on + 2, ground := .chain }], guard := none }
def opFl (c : Nat) (p : String) (f : Nat) : Oper := { dst := some c, op := .buildSlice 258 1 #[(0, .const (.int .u8 (f : Int)))], type := 258, pos := p, after := #[], guard := none }
def width (e : Ent) : Nat := if e.info = 0 then 6 else 7
def opsOf (k s : Nat) (p : String) (e : Ent) : List Oper :=
  if e.info = 0 then [opM s p, opM (s + 1) p, opN (s + 2) (s + 1) p e (.const (.slice none 0 0)) #[{ on := 1, ground := .data }], opI (s + 2) p 2, opW k (s + 2) p 2, opA s (s + 2) p 2]
  else [opM s p, opM (s + 1) p, opFl (s + 2) p e.info, opN (s + 3) (s + 1) p e (.tmp (s + 2)) #[{ on := 1, ground := .data }, { on := 2, ground := .data }], opI (s + 3) p 3, opW k (s + 3) p 3, opA s (s + 3) p 3]
def codeOf (k : Nat) : List (String × Ent) → Nat → Nat → Code
  | [], _, _ => .skip
  | [(p, e)], id, s => .region id (opsOf k s p e).toArray false
  | (p, e) :: l, id, s => .seq (.region id (opsOf k s p e).toArray false) (codeOf k l (id + 1) (s + width e))
def tab0 : List (String × Ent) := [("zz_turned.go:8", ⟨0, 0, ⟨#[70, 80]⟩, 0⟩), ("zz_turned.go:9", ⟨0, 0, ⟨#[80, 67]⟩, 0⟩), ("zz_turned.go:10", ⟨0, 0, ⟨#[83, 66]⟩, 0⟩), ("zz_turned.go:11", ⟨0, 0, ⟨#[83, 80]⟩, 0⟩)]
def tab1 : List (String × Ent) := [("zz_turned.go:13", ⟨1, 0, ⟨#[65, 76]⟩, 0⟩), ("zz_turned.go:14", ⟨1, 1, ⟨#[67, 76]⟩, 0⟩), ("zz_turned.go:15", ⟨1, 2, ⟨#[68, 76]⟩, 0⟩), ("zz_turned.go:16", ⟨1, 3, ⟨#[66, 76]⟩, 0⟩), ("zz_turned.go:17", ⟨2, 0, ⟨#[65, 72]⟩, 0⟩), ("zz_turned.go:18", ⟨2, 1, ⟨#[67, 72]⟩, 0⟩), ("zz_turned.go:19", ⟨2, 2, ⟨#[68, 72]⟩, 0⟩), ("zz_turned.go:20", ⟨2, 3, ⟨#[66, 72]⟩, 0⟩), ("zz_turned.go:21", ⟨1, 4, ⟨#[83, 80]⟩, 2⟩), ("zz_turned.go:22", ⟨1, 5, ⟨#[66, 80]⟩, 4⟩), ("zz_turned.go:23", ⟨1, 6, ⟨#[83, 73]⟩, 0⟩), ("zz_turned.go:24", ⟨1, 7, ⟨#[68, 73]⟩, 0⟩), ("zz_turned.go:25", ⟨1, 8, ⟨#[82, 56]⟩, 0⟩), ("zz_turned.go:26", ⟨1, 9, ⟨#[82, 57]⟩, 0⟩), ("zz_turned.go:27", ⟨1, 10, ⟨#[82, 49, 48]⟩, 0⟩), ("zz_turned.go:28", ⟨1, 11, ⟨#[82, 49, 49]⟩, 0⟩), ("zz_turned.go:29", ⟨1, 12, ⟨#[82, 49, 50]⟩, 0⟩), ("zz_turned.go:30", ⟨1, 13, ⟨#[82, 49, 51]⟩, 0⟩), ("zz_turned.go:31", ⟨1, 14, ⟨#[82, 49, 52]⟩, 0⟩), ("zz_turned.go:32", ⟨1, 15, ⟨#[82, 49, 53]⟩, 0⟩), ("zz_turned.go:33", ⟨3, 0, ⟨#[65, 88]⟩, 0⟩), ("zz_turned.go:34", ⟨3, 1, ⟨#[67, 88]⟩, 0⟩), ("zz_turned.go:35", ⟨3, 2, ⟨#[68, 88]⟩, 0⟩), ("zz_turned.go:36", ⟨3, 3, ⟨#[66, 88]⟩, 0⟩), ("zz_turned.go:37", ⟨3, 4, ⟨#[83, 80]⟩, 2⟩), ("zz_turned.go:38", ⟨3, 5, ⟨#[66, 80]⟩, 4⟩), ("zz_turned.go:39", ⟨3, 6, ⟨#[83, 73]⟩, 0⟩), ("zz_turned.go:40", ⟨3, 7, ⟨#[68, 73]⟩, 0⟩), ("zz_turned.go:41", ⟨3, 8, ⟨#[82, 56]⟩, 0⟩), ("zz_turned.go:42", ⟨3, 9, ⟨#[82, 57]⟩, 0⟩), ("zz_turned.go:43", ⟨3, 10, ⟨#[82, 49, 48]⟩, 0⟩), ("zz_turned.go:44", ⟨3, 11, ⟨#[82, 49, 49]⟩, 0⟩), ("zz_turned.go:45", ⟨3, 12, ⟨#[82, 49, 50]⟩, 0⟩), ("zz_turned.go:46", ⟨3, 13, ⟨#[82, 49, 51]⟩, 0⟩), ("zz_turned.go:47", ⟨3, 14, ⟨#[82, 49, 52]⟩, 0⟩), ("zz_turned.go:48", ⟨3, 15, ⟨#[82, 49, 53]⟩, 0⟩), ("zz_turned.go:49", ⟨7, 0, ⟨#[65, 88]⟩, 0⟩), ("zz_turned.go:50", ⟨7, 1, ⟨#[67, 88]⟩, 0⟩), ("zz_turned.go:51", ⟨7, 2, ⟨#[68, 88]⟩, 0⟩), ("zz_turned.go:52", ⟨7, 3, ⟨#[66, 88]⟩, 0⟩), ("zz_turned.go:53", ⟨7, 4, ⟨#[83, 80]⟩, 2⟩), ("zz_turned.go:54", ⟨7, 5, ⟨#[66, 80]⟩, 4⟩), ("zz_turned.go:55", ⟨7, 6, ⟨#[83, 73]⟩, 0⟩), ("zz_turned.go:56", ⟨7, 7, ⟨#[68, 73]⟩, 0⟩), ("zz_turned.go:57", ⟨7, 8, ⟨#[82, 56]⟩, 0⟩), ("zz_turned.go:58", ⟨7, 9, ⟨#[82, 57]⟩, 0⟩), ("zz_turned.go:59", ⟨7, 10, ⟨#[82, 49, 48]⟩, 0⟩), ("zz_turned.go:60", ⟨7, 11, ⟨#[82, 49, 49]⟩, 0⟩), ("zz_turned.go:61", ⟨7, 12, ⟨#[82, 49, 50]⟩, 0⟩), ("zz_turned.go:62", ⟨7, 13, ⟨#[82, 49, 51]⟩, 0⟩), ("zz_turned.go:63", ⟨7, 14, ⟨#[82, 49, 52]⟩, 0⟩), ("zz_turned.go:64", ⟨7, 15, ⟨#[82, 49, 53]⟩, 0⟩), ("zz_turned.go:65", ⟨15, 0, ⟨#[65, 88]⟩, 0⟩), ("zz_turned.go:66", ⟨15, 1, ⟨#[67, 88]⟩, 0⟩), ("zz_turned.go:67", ⟨15, 2, ⟨#[68, 88]⟩, 0⟩), ("zz_turned.go:68", ⟨15, 3, ⟨#[66, 88]⟩, 0⟩), ("zz_turned.go:69", ⟨15, 4, ⟨#[83, 80]⟩, 2⟩), ("zz_turned.go:70", ⟨15, 5, ⟨#[66, 80]⟩, 4⟩), ("zz_turned.go:71", ⟨15, 6, ⟨#[83, 73]⟩, 0⟩), ("zz_turned.go:72", ⟨15, 7, ⟨#[68, 73]⟩, 0⟩), ("zz_turned.go:73", ⟨15, 8, ⟨#[82, 56]⟩, 0⟩), ("zz_turned.go:74", ⟨15, 9, ⟨#[82, 57]⟩, 0⟩), ("zz_turned.go:75", ⟨15, 10, ⟨#[82, 49, 48]⟩, 0⟩), ("zz_turned.go:76", ⟨15, 11, ⟨#[82, 49, 49]⟩, 0⟩), ("zz_turned.go:77", ⟨15, 12, ⟨#[82, 49, 50]⟩, 0⟩), ("zz_turned.go:78", ⟨15, 13, ⟨#[82, 49, 51]⟩, 0⟩), ("zz_turned.go:79", ⟨15, 14, ⟨#[82, 49, 52]⟩, 0⟩), ("zz_turned.go:80", ⟨15, 15, ⟨#[82, 49, 53]⟩, 0⟩)]
def tab2 : List (String × Ent) := [("zz_turned.go:82", ⟨31, 0, ⟨#[88, 48]⟩, 0⟩), ("zz_turned.go:83", ⟨31, 1, ⟨#[88, 49]⟩, 0⟩), ("zz_turned.go:84", ⟨31, 2, ⟨#[88, 50]⟩, 0⟩), ("zz_turned.go:85", ⟨31, 3, ⟨#[88, 51]⟩, 0⟩), ("zz_turned.go:86", ⟨31, 4, ⟨#[88, 52]⟩, 0⟩), ("zz_turned.go:87", ⟨31, 5, ⟨#[88, 53]⟩, 0⟩), ("zz_turned.go:88", ⟨31, 6, ⟨#[88, 54]⟩, 0⟩), ("zz_turned.go:89", ⟨31, 7, ⟨#[88, 55]⟩, 0⟩), ("zz_turned.go:90", ⟨31, 8, ⟨#[88, 56]⟩, 0⟩), ("zz_turned.go:91", ⟨31, 9, ⟨#[88, 57]⟩, 0⟩), ("zz_turned.go:92", ⟨31, 10, ⟨#[88, 49, 48]⟩, 0⟩), ("zz_turned.go:93", ⟨31, 11, ⟨#[88, 49, 49]⟩, 0⟩), ("zz_turned.go:94", ⟨31, 12, ⟨#[88, 49, 50]⟩, 0⟩), ("zz_turned.go:95", ⟨31, 13, ⟨#[88, 49, 51]⟩, 0⟩), ("zz_turned.go:96", ⟨31, 14, ⟨#[88, 49, 52]⟩, 0⟩), ("zz_turned.go:97", ⟨31, 15, ⟨#[88, 49, 53]⟩, 0⟩), ("zz_turned.go:98", ⟨31, 16, ⟨#[88, 49, 54]⟩, 0⟩), ("zz_turned.go:99", ⟨31, 17, ⟨#[88, 49, 55]⟩, 0⟩), ("zz_turned.go:100", ⟨31, 18, ⟨#[88, 49, 56]⟩, 0⟩), ("zz_turned.go:101", ⟨31, 19, ⟨#[88, 49, 57]⟩, 0⟩), ("zz_turned.go:102", ⟨31, 20, ⟨#[88, 50, 48]⟩, 0⟩), ("zz_turned.go:103", ⟨31, 21, ⟨#[88, 50, 49]⟩, 0⟩), ("zz_turned.go:104", ⟨31, 22, ⟨#[88, 50, 50]⟩, 0⟩), ("zz_turned.go:105", ⟨31, 23, ⟨#[88, 50, 51]⟩, 0⟩), ("zz_turned.go:106", ⟨31, 24, ⟨#[88, 50, 52]⟩, 0⟩), ("zz_turned.go:107", ⟨31, 25, ⟨#[88, 50, 53]⟩, 0⟩), ("zz_turned.go:108", ⟨31, 26, ⟨#[88, 50, 54]⟩, 0⟩), ("zz_turned.go:109", ⟨31, 27, ⟨#[88, 50, 55]⟩, 0⟩), ("zz_turned.go:110", ⟨31, 28, ⟨#[88, 50, 56]⟩, 0⟩), ("zz_turned.go:111", ⟨31, 29, ⟨#[88, 50, 57]⟩, 0⟩), ("zz_turned.go:112", ⟨31, 30, ⟨#[88, 51, 48]⟩, 0⟩), ("zz_turned.go:113", ⟨31, 31, ⟨#[88, 51, 49]⟩, 0⟩), ("zz_turned.go:114", ⟨63, 0, ⟨#[89, 48]⟩, 0⟩), ("zz_turned.go:115", ⟨63, 1, ⟨#[89, 49]⟩, 0⟩), ("zz_turned.go:116", ⟨63, 2, ⟨#[89, 50]⟩, 0⟩), ("zz_turned.go:117", ⟨63, 3, ⟨#[89, 51]⟩, 0⟩), ("zz_turned.go:118", ⟨63, 4, ⟨#[89, 52]⟩, 0⟩), ("zz_turned.go:119", ⟨63, 5, ⟨#[89, 53]⟩, 0⟩), ("zz_turned.go:120", ⟨63, 6, ⟨#[89, 54]⟩, 0⟩), ("zz_turned.go:121", ⟨63, 7, ⟨#[89, 55]⟩, 0⟩), ("zz_turned.go:122", ⟨63, 8, ⟨#[89, 56]⟩, 0⟩), ("zz_turned.go:123", ⟨63, 9, ⟨#[89, 57]⟩, 0⟩), ("zz_turned.go:124", ⟨63, 10, ⟨#[89, 49, 48]⟩, 0⟩), ("zz_turned.go:125", ⟨63, 11, ⟨#[89, 49, 49]⟩, 0⟩), ("zz_turned.go:126", ⟨63, 12, ⟨#[89, 49, 50]⟩, 0⟩), ("zz_turned.go:127", ⟨63, 13, ⟨#[89, 49, 51]⟩, 0⟩), ("zz_turned.go:128", ⟨63, 14, ⟨#[89, 49, 52]⟩, 0⟩), ("zz_turned.go:129", ⟨63, 15, ⟨#[89, 49, 53]⟩, 0⟩), ("zz_turned.go:130", ⟨63, 16, ⟨#[89, 49, 54]⟩, 0⟩), ("zz_turned.go:131", ⟨63, 17, ⟨#[89, 49, 55]⟩, 0⟩), ("zz_turned.go:132", ⟨63, 18, ⟨#[89, 49, 56]⟩, 0⟩), ("zz_turned.go:133", ⟨63, 19, ⟨#[89, 49, 57]⟩, 0⟩), ("zz_turned.go:134", ⟨63, 20, ⟨#[89, 50, 48]⟩, 0⟩), ("zz_turned.go:135", ⟨63, 21, ⟨#[89, 50, 49]⟩, 0⟩), ("zz_turned.go:136", ⟨63, 22, ⟨#[89, 50, 50]⟩, 0⟩), ("zz_turned.go:137", ⟨63, 23, ⟨#[89, 50, 51]⟩, 0⟩), ("zz_turned.go:138", ⟨63, 24, ⟨#[89, 50, 52]⟩, 0⟩), ("zz_turned.go:139", ⟨63, 25, ⟨#[89, 50, 53]⟩, 0⟩), ("zz_turned.go:140", ⟨63, 26, ⟨#[89, 50, 54]⟩, 0⟩), ("zz_turned.go:141", ⟨63, 27, ⟨#[89, 50, 55]⟩, 0⟩), ("zz_turned.go:142", ⟨63, 28, ⟨#[89, 50, 56]⟩, 0⟩), ("zz_turned.go:143", ⟨63, 29, ⟨#[89, 50, 57]⟩, 0⟩), ("zz_turned.go:144", ⟨63, 30, ⟨#[89, 51, 48]⟩, 0⟩), ("zz_turned.go:145", ⟨63, 31, ⟨#[89, 51, 49]⟩, 0⟩), ("zz_turned.go:146", ⟨127, 0, ⟨#[90, 48]⟩, 0⟩), ("zz_turned.go:147", ⟨127, 1, ⟨#[90, 49]⟩, 0⟩), ("zz_turned.go:148", ⟨127, 2, ⟨#[90, 50]⟩, 0⟩), ("zz_turned.go:149", ⟨127, 3, ⟨#[90, 51]⟩, 0⟩), ("zz_turned.go:150", ⟨127, 4, ⟨#[90, 52]⟩, 0⟩), ("zz_turned.go:151", ⟨127, 5, ⟨#[90, 53]⟩, 0⟩), ("zz_turned.go:152", ⟨127, 6, ⟨#[90, 54]⟩, 0⟩), ("zz_turned.go:153", ⟨127, 7, ⟨#[90, 55]⟩, 0⟩), ("zz_turned.go:154", ⟨127, 8, ⟨#[90, 56]⟩, 0⟩), ("zz_turned.go:155", ⟨127, 9, ⟨#[90, 57]⟩, 0⟩), ("zz_turned.go:156", ⟨127, 10, ⟨#[90, 49, 48]⟩, 0⟩), ("zz_turned.go:157", ⟨127, 11, ⟨#[90, 49, 49]⟩, 0⟩), ("zz_turned.go:158", ⟨127, 12, ⟨#[90, 49, 50]⟩, 0⟩), ("zz_turned.go:159", ⟨127, 13, ⟨#[90, 49, 51]⟩, 0⟩), ("zz_turned.go:160", ⟨127, 14, ⟨#[90, 49, 52]⟩, 0⟩), ("zz_turned.go:161", ⟨127, 15, ⟨#[90, 49, 53]⟩, 0⟩), ("zz_turned.go:162", ⟨127, 16, ⟨#[90, 49, 54]⟩, 0⟩), ("zz_turned.go:163", ⟨127, 17, ⟨#[90, 49, 55]⟩, 0⟩), ("zz_turned.go:164", ⟨127, 18, ⟨#[90, 49, 56]⟩, 0⟩), ("zz_turned.go:165", ⟨127, 19, ⟨#[90, 49, 57]⟩, 0⟩), ("zz_turned.go:166", ⟨127, 20, ⟨#[90, 50, 48]⟩, 0⟩), ("zz_turned.go:167", ⟨127, 21, ⟨#[90, 50, 49]⟩, 0⟩), ("zz_turned.go:168", ⟨127, 22, ⟨#[90, 50, 50]⟩, 0⟩), ("zz_turned.go:169", ⟨127, 23, ⟨#[90, 50, 51]⟩, 0⟩), ("zz_turned.go:170", ⟨127, 24, ⟨#[90, 50, 52]⟩, 0⟩), ("zz_turned.go:171", ⟨127, 25, ⟨#[90, 50, 53]⟩, 0⟩), ("zz_turned.go:172", ⟨127, 26, ⟨#[90, 50, 54]⟩, 0⟩), ("zz_turned.go:173", ⟨127, 27, ⟨#[90, 50, 55]⟩, 0⟩), ("zz_turned.go:174", ⟨127, 28, ⟨#[90, 50, 56]⟩, 0⟩), ("zz_turned.go:175", ⟨127, 29, ⟨#[90, 50, 57]⟩, 0⟩), ("zz_turned.go:176", ⟨127, 30, ⟨#[90, 51, 48]⟩, 0⟩), ("zz_turned.go:177", ⟨127, 31, ⟨#[90, 51, 49]⟩, 0⟩)]
def tab3 : List (String × Ent) := [("zz_turned.go:179", ⟨15, 0, ⟨#[75, 48]⟩, 2⟩), ("zz_turned.go:180", ⟨15, 1, ⟨#[75, 49]⟩, 0⟩), ("zz_turned.go:181", ⟨15, 2, ⟨#[75, 50]⟩, 0⟩), ("zz_turned.go:182", ⟨15, 3, ⟨#[75, 51]⟩, 0⟩), ("zz_turned.go:183", ⟨15, 4, ⟨#[75, 52]⟩, 0⟩), ("zz_turned.go:184", ⟨15, 5, ⟨#[75, 53]⟩, 0⟩), ("zz_turned.go:185", ⟨15, 6, ⟨#[75, 54]⟩, 0⟩), ("zz_turned.go:186", ⟨15, 7, ⟨#[75, 55]⟩, 0⟩)]
theorem opsOf_wp {ops : Array Oper} {a : Act} {Q : Exit → Act → World → Prop} {w : World} {s : Nat} {fb k : Nat} {x7 : Value} {v : Value} {base n : Nat} {xs : List Value} (p : String) (e : Ent) (hk : k = 1 ∨ k = 2 ∨ k = 3) (he : e.info < 256)
    (hs : 7 < s) (hs2 : s + 7 ≤ 1066) (hfr : FrameOk fb x7 a) (hfb : FamAt w fb k v) (hown : w.ownsRow base 158 1 v n xs) (hn : n ≤ 1000) (hb : fb < base) (hbs : base ≤ w.heap.size)
    (h : ∀ a' w' v', FrameOk fb x7 a' → FamAt w' fb k v' → w'.ownsRow base 158 1 v' (n + 1) (xs ++ [(e.r fb k).val]) → Fr (fun b => fb ≤ b) w w' → Q .normal a' w') :
    wpList Tryz.prog ops Q (opsOf k s p e) a w := by
  unfold opsOf
  split
  · rename_i h0
    refine step_head hs (by omega) hfr rfl rfl rfl rfl rfl rfl fun a' f1 e0 e1 => ?_
    exact step_tail e [] none 0 (.const (.slice none 0 0)) hk (by rw [h0]; rfl) hs (by omega) (by omega) f1 hfb hown hn hb hbs e0 e1 rfl (Sl.nil w) (by simp) (by simp) rfl rfl rfl rfl rfl rfl rfl rfl rfl rfl rfl rfl fun a' w' v' h1 h2 h3 h4 => h a' w' v' h1 h2 h3 h4
  · rename_i h0
    refine step_head hs (by omega) hfr rfl rfl rfl rfl rfl rfl fun a' f1 e0 e1 => ?_
    refine L_flag (d := s + 2) rfl rfl rfl ?_
    have hf : Fr nope w (w.alloc (.cells #[.int .u8 (e.info : Int)] 159)) := (Fr.refl _ _).alloc _
    have hsz : a'.tmps.size = 1066 := f1.size
    refine step_tail e [e.info] (some ⟨w.heap.size, 0, none⟩) 1 (.tmp (s + 2)) hk ?_ hs (by omega) (by omega) (f1.put _ (by omega) (by omega) (by omega)) (hf.heap hfb (fun x => x)) (own_fr hown hf (fun _ _ x => x)) hn hb (Nat.le_trans hbs hf.size) ?_ ?_ ?_ (Sl_one w _ _) (by simpa using he) (by simp) rfl rfl rfl rfl rfl rfl rfl rfl rfl rfl rfl rfl fun a' w' v' h1 h2 h3 h4 => h a' w' v' h1 h2 h3 (hf.of_nope.then h4)
    · simp [orF]
    · rw [put_eval _ _ _ _ (by rw [hsz]; omega), if_neg (by omega)]; exact e0
    · rw [put_eval _ _ _ _ (by rw [hsz]; omega), if_neg (by omega)]; exact e1
    · rw [put_eval _ _ _ _ (by rw [hsz]; omega), if_pos rfl]; rfl
def slots : List (String × Ent) → Nat
  | [] => 0
  | (_, e) :: l => width e + slots l
def regsF (fb k : Nat) (l : List (String × Ent)) : List R := l.map fun x => x.2.r fb k
theorem codeOf_wp {fb k : Nat} {x7 : Value} {base : Nat} (hk : k = 1 ∨ k = 2 ∨ k = 3) (hb : fb < base) : ∀ (l : List (String × Ent)) (id s : Nat) (a : Act) (w : World) (v : Value) (n : Nat) (xs : List Value) (Q : Exit → Act → World → Prop), l ≠ [] → (∀ x ∈ l, x.2.info < 256) →
    7 < s → s + slots l + 1 ≤ 1066 → FrameOk fb x7 a → FamAt w fb k v → w.ownsRow base 158 1 v n xs → n + l.length ≤ 1000 → base ≤ w.heap.size →
    (∀ a' w' v', FrameOk fb x7 a' → FamAt w' fb k v' → w'.ownsRow base 158 1 v' (n + l.length) (xs ++ (regsF fb k l).map R.val) → Fr (fun b => fb ≤ b) w w' → Q .normal a' w') →
    (codeOf k l id s).wp Tryz.prog Q a w := by
  intro l
  induction l with
  | nil => intro _ _ _ _ _ _ _ _ h; exact absurd rfl h
  | cons x l ih =>
    obtain ⟨p, e⟩ := x
    intro id s a w v n xs Q _ he hs hs2 hfr hfb hown hn hbs h
    have hwid : width e = 6 ∨ width e = 7 := by unfold width; split <;> simp
    have hs3 : s + width e + slots l + 1 ≤ 1066 := by simp only [slots] at hs2; omega
    have hn2 : n + (l.length + 1) ≤ 1000 := hn
    cases l with
    | nil =>
      refine wp_region_lit (opsOf_wp p e hk (he (p, e) (by simp)) hs (by simp only [slots] at hs3; omega) hfr hfb hown (by omega) hb hbs fun a' w' v' h1 h2 h3 h4 => ?_)
      exact h a' w' v' h1 h2 (by simpa [regsF] using h3) h4
    | cons y l =>
      refine wp_seq (wp_region_lit (opsOf_wp p e hk (he (p, e) (by simp)) hs (by simp only [slots] at hs3; have : 6 ≤ width y.2 := by { unfold width; split <;> simp }; omega) hfr hfb hown (by omega) hb hbs fun a' w' v' h1 h2 h3 h4 => ?_))
      show (codeOf k (y :: l) (id + 1) (s + width e)).wp _ _ _ _
      refine ih (id + 1) (s + width e) a' w' v' (n + 1) _ Q (by simp) (fun x hx => he x (by simp [hx])) (by omega) (by omega) h1 h2 h3 (by simp only [List.length_cons] at hn2 ⊢; omega) (Nat.le_trans hbs h4.size) fun a2 w2 v2 g1 g2 g3 g4 => ?_
      refine h a2 w2 v2 g1 g2 ?_ (h4.then g4)
      have e1 : n + 1 + (y :: l).length = n + ((p, e) :: y :: l).length := by simp only [List.length_cons]; omega
      rw [e1] at g3
      simpa [regsF] using g3
end
section
open Go Go.RowKit Bth
set_option maxRecDepth 100000
def opD (s : Nat) (p : String) (e : Ent) : Oper := { dst := some (s + 1), op := .call { callee := .value (.func 100), args := #[.tmp s, .const (.int .u16 (e.spec : Int)), .const (.int .u16 (e.idx : Int)), .const (.string e.name), .const (.slice none 0 0)], argTypes := #[114, 202, 203, 9, 258] }, type := 158, pos := p, after := #[{ on := 0, ground := .data }], guard := none }
def codeD : List (String × Ent) → Nat → Nat → Code
  | [], _, _ => .skip
  | [(p, e)], id, s => .region id [opM s p, opD s p e].toArray false
  | (p, e) :: l, id, s => .seq (.region id [opM s p, opD s p e].toArray false) (codeD l (id + 1) (s + 2))
def opsT (k c : Nat) (p : String) : List Oper :=
  [{ dst := some (c + 1), op := .binOp .eql 148 (.tmp 7) (.const (.int .u8 (k : Int))) 148, type := 4, pos := p, after := #[], guard := none },
   { dst := some c, op := .assign (.tmp (c + 1)), type := 4, pos := p, after := #[{ on := 0, ground := .data }], guard := none }]
def codeT (id k c : Nat) (p : String) (x y : Code) : Code := .seq (.region id (opsT k c p).toArray false) (.cond (.tmp c) x y)
def famCases : Code :=
  codeT 4 0 8 "zz_turned.go:7" (codeD tab0 5 10) (codeT 9 1 18 "zz_turned.go:12" (codeOf 1 tab1 10 20) (codeT 78 2 436 "zz_turned.go:81" (codeOf 2 tab2 79 438) (codeT 175 3 1014 "zz_turned.go:178" (codeOf 3 tab3 176 1016)
    (.seq (.region 3 #[{ dst := some 2, op := .assign (.const (.pointer none)), type := 114, pos := "zz_turned.go:188", after := #[], guard := none }] false) .ret))))
def famBody : Code :=
  .seq (.region 0 #[{ dst := some 2, op := .assign (.const (.pointer none)), type := 114, pos := "zz_turned.go:4", after := #[], guard := none }] false)
   (.seq (.region 1 #[{ dst := some 4, op := .move (.tmp 0), type := 148, pos := "zz_turned.go:5", after := #[], guard := none },
       { dst := some 5, op := .build 200 #[(0, .tmp 4)], type := 200, pos := "zz_turned.go:5", after := #[{ on := 0, ground := .data }], guard := none },
       { dst := some 6, op := .box 200 (.tmp 5), type := 114, pos := "zz_turned.go:5", after := #[{ on := 1, ground := .data }], guard := none },
       { dst := some 3, op := .assign (.tmp 6), type := 114, pos := "zz_turned.go:5", after := #[{ on := 2, ground := .data }, { on := 0, ground := .phase }, { on := 1, ground := .phase }, { on := 2, ground := .phase }], guard := none }] false)
    (.seq (.seq (.region 2 #[{ dst := some 7, op := .move (.tmp 0), type := 148, pos := "zz_turned.go:6", after := #[], guard := none }] false) (.block 0 famCases))
     (.seq (.region 184 #[{ dst := some 1065, op := .move (.tmp 3), type := 114, pos := "zz_turned.go:190", after := #[], guard := none },
        { dst := some 2, op := .assign (.tmp 1065), type := 114, pos := "zz_turned.go:190", after := #[{ on := 0, ground := .data }, { on := 0, ground := .phase }], guard := none }] false) .ret)))
theorem famBody_eq : Tryz.f68.body = some famBody := by kernel_rfl
end
section
open Go Go.RowKit Bth
set_option maxRecDepth 100000
section
variable {P : Program} {ops : Array Oper} {rest : List Oper} {o : Oper} {a : Act} {Q : Exit → Act → World → Prop} {w : World}
theorem L_op {v : Value} {w' : World} (hg : o.guard = none) (hr : (execOp a.eval o).run P w = .ok (.value v) w') (h : wpList P ops Q rest (a.put o.dst v) w') : wpList P ops Q (o :: rest) a w := by
  refine wpList_plain hg fun K hK => ?_
  unfold Oper.wp
  rw [hr]
  exact hK _ _ h
theorem L_assign {x : Operand} (hg : o.guard = none) (hop : o.op = .assign x) (h : wpList P ops Q rest (a.put o.dst (a.eval x)) w) : wpList P ops Q (o :: rest) a w :=
  L_op hg (by simp [execOp, hop]) h
end
theorem define_wp {fb : Nat} {x7 : Value} {base : Nat} (hb : fb < base) : ∀ (l : List (String × Ent)) (id s : Nat) (a : Act) (w : World) (v : Value) (n : Nat) (xs : List Value) (Q : Exit → Act → World → Prop), l ≠ [] → (∀ x ∈ l, x.2.info = 0) →
    7 < s → s + 2 * l.length ≤ 1066 → FrameOk fb x7 a → FamAt w fb 0 v → w.ownsRow base 158 1 v n xs → n + l.length ≤ 1000 → base ≤ w.heap.size →
    (∀ a' w' v', FrameOk fb x7 a' → FamAt w' fb 0 v' → w'.ownsRow base 158 1 v' (n + l.length) (xs ++ (regsF fb 0 l).map R.val) → Fr (fun b => fb ≤ b) w w' → Q .normal a' w') →
    (codeD l id s).wp Tryz.prog Q a w := by
  have one : ∀ (p : String) (e : Ent) (s : Nat) (a : Act) (w : World) (v : Value) (n : Nat) (xs : List Value) (ops : Array Oper) (Q : Exit → Act → World → Prop), e.info = 0 → 7 < s → s + 2 ≤ 1066 → FrameOk fb x7 a → FamAt w fb 0 v → w.ownsRow base 158 1 v n xs → n ≤ 999 → base ≤ w.heap.size →
      (∀ a' w' v', FrameOk fb x7 a' → FamAt w' fb 0 v' → w'.ownsRow base 158 1 v' (n + 1) (xs ++ [(e.r fb 0).val]) → Fr (fun b => fb ≤ b) w w' → Q .normal a' w') →
      wpList Tryz.prog ops Q [opM s p, opD s p e] a w := by
    intro p e s a w v n xs ops Q he hs hs2 hfr hfb hown hn hbs h
    refine L_move rfl rfl ?_
    show wpList _ _ _ _ (a.put (some s) (a.eval (.tmp 3))) _
    rw [hfr.t3]
    have f1 := hfr.put (d := s) (.pointer (some ⟨fb, 0, none⟩)) (by omega) (by omega) (by omega)
    have e1 := (put_eval a s s (.pointer (some ⟨fb, 0, none⟩)) (by rw [hfr.size]; omega)).trans (if_pos rfl)
    generalize a.put (some s) (.pointer (some ⟨fb, 0, none⟩)) = a1 at f1 e1 ⊢
    refine L_call rfl rfl Tryz.func100 (by kernel_rfl) (by kernel_rfl) ?_
    have ea : (#[Operand.tmp s, .const (.int .u16 (e.spec : Int)), .const (.int .u16 (e.idx : Int)), .const (.string e.name), .const (.slice none 0 0)].map a1.eval) = #[.pointer (some ⟨fb, 0, none⟩), .int .u16 (e.spec : Int), .int .u16 (e.idx : Int), .string e.name, .slice none 0 0] := by
      simp only [List.map_toArray, List.map_cons, List.map_nil, e1]
      rfl
    rw [ea]
    refine (define_calls w fb 0 v e base n xs rfl he hfb hown (by omega) hb hbs).mono ?_
    rintro en w2 ⟨⟨y, rfl⟩, v', h1, h2, h3⟩
    exact h _ _ v' (f1.put (d := s + 1) _ (by omega) (by omega) (by omega)) h1 h2 h3
  intro l
  induction l with
  | nil => intro _ _ _ _ _ _ _ _ h; exact absurd rfl h
  | cons x l ih =>
    obtain ⟨p, e⟩ := x
    intro id s a w v n xs Q _ he hs hs2 hfr hfb hown hn hbs h
    simp only [List.length_cons] at hs2 hn
    cases l with
    | nil =>
      refine wp_region_lit (one p e s a w v n xs _ Q (he (p, e) (by simp)) hs (by omega) hfr hfb hown (by omega) hbs fun a' w' v' h1 h2 h3 h4 => ?_)
      exact h a' w' v' h1 h2 (by simpa [regsF] using h3) h4
    | cons y l =>
      refine wp_seq (wp_region_lit (one p e s a w v n xs _ _ (he (p, e) (by simp)) hs (by omega) hfr hfb hown (by omega) hbs fun a' w' v' h1 h2 h3 h4 => ?_))
      show (codeD (y :: l) (id + 1) (s + 2)).wp _ _ _ _
      refine ih (id + 1) (s + 2) a' w' v' (n + 1) _ Q (by simp) (fun x hx => he x (by simp [hx])) (by omega) (by omega) h1 h2 h3 (by omega) (Nat.le_trans hbs h4.size) fun a2 w2 v2 g1 g2 g3 g4 => ?_
      refine h a2 w2 v2 g1 g2 ?_ (h4.then g4)
      have e1 : n + 1 + (y :: l).length = n + ((p, e) :: y :: l).length := by simp only [List.length_cons]; omega
      rw [e1] at g3
      simpa [regsF] using g3
theorem test_wp {fb k' : Nat} {a : Act} {w : World} {Q : Exit → Act → World → Prop} (id k c : Nat) (p : String) (x y : Code) (hc : 7 < c) (hc2 : c + 2 ≤ 1066) (hfr : FrameOk fb (.int .u8 (k' : Int)) a)
    (h1 : k' = k → ∀ a', FrameOk fb (.int .u8 (k' : Int)) a' → x.wp Tryz.prog Q a' w) (h2 : k' ≠ k → ∀ a', FrameOk fb (.int .u8 (k' : Int)) a' → y.wp Tryz.prog Q a' w) : (codeT id k c p x y).wp Tryz.prog Q a w := by
  refine wp_seq (wp_region_lit ?_)
  have hr : (execOp a.eval { dst := some (c + 1), op := .binOp .eql 148 (.tmp 7) (.const (.int .u8 (k : Int))) 148, type := 4, pos := p, after := #[], guard := none }).run Tryz.prog w = .ok (.value (.bool (k' == k))) w := by
    have h7 := hfr.t7
    have hcc : a.eval (.const (.int .u8 (k : Int))) = .int .u8 (k : Int) := rfl
    unfold execOp
    simp only [h7, hcc]
    go_simp
    rw [Bool.eq_iff_iff]; simp; omega
  refine L_op rfl hr ?_
  have f1 := hfr.put (d := c + 1) (.bool (k' == k)) (by omega) (by omega) (by omega)
  have e1 := (put_eval a (c + 1) (c + 1) (.bool (k' == k)) (by rw [hfr.size]; omega)).trans (if_pos rfl)
  show wpList _ _ _ _ (a.put (some (c + 1)) (.bool (k' == k))) _
  generalize a.put (some (c + 1)) (.bool (k' == k)) = a1 at f1 e1 ⊢
  refine L_assign rfl rfl ?_
  show wpList _ _ _ _ (a1.put (some c) (a1.eval (.tmp (c + 1)))) _
  rw [e1]
  have f2 := f1.put (d := c) (.bool (k' == k)) (by omega) (by omega) (by omega)
  have e2 := (put_eval a1 c c (.bool (k' == k)) (by rw [f1.size]; omega)).trans (if_pos rfl)
  generalize a1.put (some c) (.bool (k' == k)) = a2 at f2 e2 ⊢
  refine wp_cond e2 ?_
  by_cases h : k' = k
  · rw [if_pos (by simpa using h)]; exact h1 h a2 f2
  · rw [if_neg (by simpa using h)]; exact h2 h a2 f2
def famRegs (fb : Nat) (k : Nat) : List R :=
  match k with
  | 0 => regsF fb 0 tab0
  | 1 => regsF fb 1 tab1
  | 2 => regsF fb 2 tab2
  | _ => regsF fb 3 tab3
def GivesFam (w : World) (k : Nat) (e : Ending) (w' : World) : Prop :=
  e = .returned (.pointer (some ⟨w.heap.size, 0, none⟩)) ∧ ∃ v, FamAt w' w.heap.size k v ∧ w'.ownsRow (w.heap.size + 1) 158 1 v (famRegs w.heap.size k).length ((famRegs w.heap.size k).map R.val) ∧ Fr nope w w'
theorem cases_wp {w w1 : World} {k : Nat} (hk : k ≤ 3) {a : Act} {Q : Exit → Act → World → Prop} (hw1 : Fr nope w w1) (hs : w1.heap.size = w.heap.size + 1) (hfb : FamAt w1 w.heap.size k (.slice none 0 0)) (hfr : FrameOk w.heap.size (.int .u8 (k : Int)) a)
    (h : ∀ a' w' v, FrameOk w.heap.size (.int .u8 (k : Int)) a' → FamAt w' w.heap.size k v → w'.ownsRow (w.heap.size + 1) 158 1 v (famRegs w.heap.size k).length ((famRegs w.heap.size k).map R.val) → Fr nope w w' → Q .normal a' w') : famCases.wp Tryz.prog Q a w1 := by
  have fin : ∀ {a' w' v} {l : List R}, famRegs w.heap.size k = l → FrameOk w.heap.size (.int .u8 (k : Int)) a' → FamAt w' w.heap.size k v → w'.ownsRow (w.heap.size + 1) 158 1 v (0 + l.length) ([] ++ l.map R.val) → Fr (fun b => w.heap.size ≤ b) w1 w' → Q .normal a' w' := by
    intro a' w' v l e g1 g2 g3 g4
    subst e
    exact h a' w' v g1 g2 (by simpa using g3) (hw1.then_new g4 fun x hx hx2 => by omega)
  refine test_wp 4 0 8 _ _ _ (by omega) (by omega) hfr (fun e a' f => ?_) (fun e a' f => ?_)
  · subst e
    exact define_wp (base := w.heap.size + 1) (by omega) tab0 5 10 a' w1 _ 0 [] Q (by decide) (by decide) (by omega) (by decide) f hfb (own_nil _ _ _ _) (by decide) (by omega) fun a2 w2 v2 g1 g2 g3 g4 => fin (l := regsF w.heap.size 0 tab0) rfl g1 g2 (by simpa [regsF] using g3) g4
  · refine test_wp 9 1 18 _ _ _ (by omega) (by omega) f (fun e1 a' f => ?_) (fun e1 a' f => ?_)
    · subst e1
      exact codeOf_wp (base := w.heap.size + 1) (.inl rfl) (by omega) tab1 10 20 a' w1 _ 0 [] Q (by decide) (by decide) (by omega) (by decide) f hfb (own_nil _ _ _ _) (by decide) (by omega) fun a2 w2 v2 g1 g2 g3 g4 => fin (l := regsF w.heap.size 1 tab1) rfl g1 g2 (by simpa [regsF] using g3) g4
    · refine test_wp 78 2 436 _ _ _ (by omega) (by omega) f (fun e2 a' f => ?_) (fun e2 a' f => ?_)
      · subst e2
        exact codeOf_wp (base := w.heap.size + 1) (.inr (.inl rfl)) (by omega) tab2 79 438 a' w1 _ 0 [] Q (by decide) (by decide) (by omega) (by decide) f hfb (own_nil _ _ _ _) (by decide) (by omega) fun a2 w2 v2 g1 g2 g3 g4 => fin (l := regsF w.heap.size 2 tab2) rfl g1 g2 (by simpa [regsF] using g3) g4
      · refine test_wp 175 3 1014 _ _ _ (by omega) (by omega) f (fun e3 a' f => ?_) (fun e3 a' f => absurd e3 (by omega))
        subst e3
        exact codeOf_wp (base := w.heap.size + 1) (.inr (.inr rfl)) (by omega) tab3 176 1016 a' w1 _ 0 [] Q (by decide) (by decide) (by omega) (by decide) f hfb (own_nil _ _ _ _) (by decide) (by omega) fun a2 w2 v2 g1 g2 g3 g4 => fin (l := regsF w.heap.size 3 tab3) rfl g1 g2 (by simpa [regsF] using g3) g4
theorem cases_nil {w : World} {fb k : Nat} (hk : 4 ≤ k) {a : Act} {Q : Exit → Act → World → Prop} (hfr : FrameOk fb (.int .u8 (k : Int)) a)
    (h : ∀ a', a'.tmps.size = 1066 → a'.defers = [] → a'.eval (.tmp 2) = .pointer none → Q .ret a' w) : famCases.wp Tryz.prog Q a w := by
  refine test_wp 4 0 8 _ _ _ (by omega) (by omega) hfr (fun e a' f => absurd e (by omega)) (fun e a' f => ?_)
  refine test_wp 9 1 18 _ _ _ (by omega) (by omega) f (fun e a' f => absurd e (by omega)) (fun e a' f => ?_)
  refine test_wp 78 2 436 _ _ _ (by omega) (by omega) f (fun e a' f => absurd e (by omega)) (fun e a' f => ?_)
  refine test_wp 175 3 1014 _ _ _ (by omega) (by omega) f (fun e a' f => absurd e (by omega)) (fun e a' f => ?_)
  refine wp_seq (wp_region_lit (L_assign rfl rfl ?_))
  refine wp_ret (h _ ?_ ?_ ?_)
  · exact (f.put (d := 2) _ (by omega) (by omega) (by omega)).size
  · exact f.defers
  · exact (put_eval a' 2 2 _ (by rw [f.size]; omega)).trans (if_pos rfl)
theorem build_fam (w : World) (v : Int) : (Instr.build 200 #[(0, .int .u8 v)]).run Tryz.prog w = .ok (.agg #[.int .u8 v, .slice none 0 0]) w := by kernel_rfl
theorem box_fam (w : World) (v : Int) : (Instr.box 200 (.agg #[.int .u8 v, .slice none 0 0])).run Tryz.prog w = .ok (.pointer (some ⟨w.heap.size, 0, none⟩)) (w.alloc (.cells #[.int .u8 v, .slice none 0 0] 200)) := by kernel_rfl
structure Head (k : Nat) (a : Act) : Prop where
  size : a.tmps.size = 1066
  defers : a.defers = []
  t0 : a.eval (.tmp 0) = .int .u8 (k : Int)
theorem Head.put {k : Nat} {a : Act} (h : Head k a) (d : Nat) (v : Value) (hd : d < 1066) (h0 : d ≠ 0) : Head k (a.put (some d) v) :=
  ⟨by rw [put_size, h.size], h.defers, by rw [put_eval a d 0 v (by rw [h.size]; exact hd), if_neg h0, h.t0]⟩
theorem Head.get {k : Nat} {a : Act} (h : Head k a) (d : Nat) (v : Value) (hd : d < 1066) : (a.put (some d) v).eval (.tmp d) = v := (put_eval a d d v (by rw [h.size]; exact hd)).trans (if_pos rfl)
theorem famRun {w : World} {k : Nat} {a : Act} {Q : Exit → Act → World → Prop} (hh : Head k a)
    (h : ∀ a', FrameOk w.heap.size (.int .u8 (k : Int)) a' → famCases.wp Tryz.prog (Exit.inBlock 0 (Exit.then (fun a' w' => Code.wp Tryz.prog (.seq (.region 184 #[{ dst := some 1065, op := .move (.tmp 3), type := 114, pos := "zz_turned.go:190", after := #[], guard := none },
        { dst := some 2, op := .assign (.tmp 1065), type := 114, pos := "zz_turned.go:190", after := #[{ on := 0, ground := .data }, { on := 0, ground := .phase }], guard := none }] false) .ret) Q a' w') Q)) a' (w.alloc (.cells #[.int .u8 (k : Int), .slice none 0 0] 200))) :
    famBody.wp Tryz.prog Q a w := by
  unfold famBody
  refine wp_seq (wp_region_lit (L_assign rfl rfl ?_))
  show Code.wp _ (.seq _ _) _ _ _
  have h1 := hh.put 2 (a.eval (.const (.pointer none))) (by omega) (by omega)
  generalize a.put (some 2) (a.eval (.const (.pointer none))) = a1 at h1 ⊢
  refine wp_seq (wp_region_lit (L_move rfl rfl ?_))
  show wpList _ _ _ _ (a1.put (some 4) _) _
  rw [h1.t0]
  have h2 := h1.put 4 (.int .u8 (k : Int)) (by omega) (by omega)
  have e2 := h1.get 4 (.int .u8 (k : Int)) (by omega)
  generalize a1.put (some 4) (.int .u8 (k : Int)) = a2 at h2 e2 ⊢
  refine L_op (v := .agg #[.int .u8 (k : Int), .slice none 0 0]) (w' := w) rfl (by have hb := build_fam w (k : Int); simp [execOp, e2, hb]) ?_
  show wpList _ _ _ _ (a2.put (some 5) _) _
  have h3 := h2.put 5 (.agg #[.int .u8 (k : Int), .slice none 0 0]) (by omega) (by omega)
  have e3 := h2.get 5 (.agg #[.int .u8 (k : Int), .slice none 0 0]) (by omega)
  generalize a2.put (some 5) (.agg #[.int .u8 (k : Int), .slice none 0 0]) = a3 at h3 e3 ⊢
  refine L_op (v := .pointer (some ⟨w.heap.size, 0, none⟩)) (w' := w.alloc (.cells #[.int .u8 (k : Int), .slice none 0 0] 200)) rfl (by have hb := box_fam w (k : Int); simp [execOp, e3, hb]) ?_
  show wpList _ _ _ _ (a3.put (some 6) _) _
  have h4 := h3.put 6 (.pointer (some ⟨w.heap.size, 0, none⟩)) (by omega) (by omega)
  have e4 := h3.get 6 (.pointer (some ⟨w.heap.size, 0, none⟩)) (by omega)
  generalize a3.put (some 6) (.pointer (some ⟨w.heap.size, 0, none⟩)) = a4 at h4 e4 ⊢
  refine L_assign rfl rfl ?_
  show wpList _ _ _ _ (a4.put (some 3) (a4.eval (.tmp 6))) _
  rw [e4]
  have h5 := h4.put 3 (.pointer (some ⟨w.heap.size, 0, none⟩)) (by omega) (by omega)
  have e5 := h4.get 3 (.pointer (some ⟨w.heap.size, 0, none⟩)) (by omega)
  generalize a4.put (some 3) (.pointer (some ⟨w.heap.size, 0, none⟩)) = a5 at h5 e5 ⊢
  show Code.wp _ (.seq _ _) _ _ _
  refine wp_seq (wp_seq (wp_region_lit (L_move rfl rfl ?_)))
  show Code.wp _ (.block _ _) _ (a5.put (some 7) _) _
  rw [h5.t0]
  have h6 := h5.put 7 (.int .u8 (k : Int)) (by omega) (by omega)
  have e6 := h5.get 7 (.int .u8 (k : Int)) (by omega)
  have e7 := (put_eval a5 7 3 (.int .u8 (k : Int)) (by rw [h5.size]; omega)).trans (if_neg (by omega))
  rw [e5] at e7
  generalize a5.put (some 7) (.int .u8 (k : Int)) = a6 at h6 e6 e7 ⊢
  exact wp_block (h a6 ⟨h6.size, h6.defers, e7, e6⟩)
theorem famStart (k : Nat) : Head k { tmps := #[Value.int .u8 (k : Int)] ++ Array.replicate (Tryz.f68.ntmps - (#[Value.int .u8 (k : Int)] : Array Value).size) undef, defers := [] } := by
  refine ⟨by simp, rfl, ?_⟩
  simp [Act.eval]
theorem FamilyOfKind_calls (w : World) (k : Nat) (hk : k ≤ 3) : Calls Tryz.prog 68 #[.int .u8 (k : Int)] w (GivesFam w k) := by
  refine calls_of_wp Tryz.func68 famBody_eq (famRun (famStart k) fun a hfr => ?_)
  have hfa : FamAt (w.alloc (.cells #[.int .u8 (k : Int), .slice none 0 0] 200)) w.heap.size k (.slice none 0 0) := heap_alloc_new w _
  refine cases_wp hk ((Fr.refl _ _).alloc _) (by simp) hfa hfr fun a' w' v g1 g2 g3 g4 => ?_
  show Code.wp _ (.seq _ _) _ _ _
  refine wp_seq (wp_region_lit (L_move rfl rfl ?_))
  show wpList _ _ _ _ (a'.put (some 1065) _) _
  rw [g1.t3]
  have e1 := (put_eval a' 1065 1065 (.pointer (some ⟨w.heap.size, 0, none⟩)) (by rw [g1.size]; omega)).trans (if_pos rfl)
  have s1 := (put_size a' 1065 (.pointer (some ⟨w.heap.size, 0, none⟩))).trans g1.size
  have d1 := (put_defers a' 1065 (.pointer (some ⟨w.heap.size, 0, none⟩))).trans g1.defers
  generalize a'.put (some 1065) (.pointer (some ⟨w.heap.size, 0, none⟩)) = a1 at e1 s1 d1 ⊢
  refine L_assign rfl rfl ?_
  show Code.wp _ .ret _ (a1.put (some 2) (a1.eval (.tmp 1065))) _
  rw [e1]
  have e2 := (put_eval a1 2 2 (.pointer (some ⟨w.heap.size, 0, none⟩)) (by rw [s1]; omega)).trans (if_pos rfl)
  have d2 := (put_defers a1 2 (.pointer (some ⟨w.heap.size, 0, none⟩))).trans d1
  generalize a1.put (some 2) (.pointer (some ⟨w.heap.size, 0, none⟩)) = a2 at e2 d2 ⊢
  refine wp_ret (bodyPost_ret (results_tmp (t := 2) rfl _ _ _) d2 ?_)
  rw [show a2.tmps.getD 2 undef = _ from e2]
  exact ⟨rfl, v, g2, g3, g4⟩
theorem FamilyOfKind_none (w : World) (k : Nat) (hk : 4 ≤ k) : Calls Tryz.prog 68 #[.int .u8 (k : Int)] w fun e w' => e = .returned (.pointer none) ∧ Fr nope w w' := by
  refine calls_of_wp Tryz.func68 famBody_eq (famRun (famStart k) fun a hfr => ?_)
  refine cases_nil hk hfr fun a' s1 d1 e1 => ?_
  simp only [Exit.inBlock, Exit.then]
  refine bodyPost_ret (results_tmp (t := 2) rfl _ _ _) d1 ?_
  rw [show a'.tmps.getD 2 undef = _ from e1]
  exact ⟨rfl, (Fr.refl _ _).alloc _⟩
end
section
open Go Go.RowKit Bth
set_option maxRecDepth 100000
theorem R.mP (r : R) (hv : r.virt = false) : ∃ T v, r.val = .iface T v ∧ (∀ W, (method 474 T v "PhysicalIndex").run Tryz.prog W = .ok (214, r.coreP) W) ∧
    (∀ W, (method 474 T v "Mask").run Tryz.prog W = .ok (185, .int .u16 (r.spec : Int)) W) ∧ (∀ W, (method 474 T v "Info").run Tryz.prog W = .ok (212, r.coreP) W) ∧
    (∀ W, (method 474 T v "ID").run Tryz.prog W = .ok (211, r.coreP) W) := by
  obtain ⟨T, v, h⟩ := r.val_iface
  have key : ∀ {T' v'}, r.val = .iface T' v' → T' = T ∧ v' = v := fun h' => by rw [h] at h'; injection h' with a b; exact ⟨a.symm, b.symm⟩
  refine ⟨T, v, h, fun W => ?_, fun W => ?_, fun W => ?_, fun W => ?_⟩
  · obtain ⟨T', v', h1, h2⟩ := r.m_PhysicalIndex_p W hv; obtain ⟨rfl, rfl⟩ := key h1; rw [sizeTypes] at h2; exact h2
  · obtain ⟨T', v', h1, h2⟩ := r.m_Mask_p W hv; obtain ⟨rfl, rfl⟩ := key h1; rw [sizeTypes] at h2; exact h2
  · obtain ⟨T', v', h1, h2⟩ := r.m_Info_p W hv; obtain ⟨rfl, rfl⟩ := key h1; rw [sizeTypes] at h2; exact h2
  · obtain ⟨T', v', h1, h2⟩ := r.m_ID_p W hv; obtain ⟨rfl, rfl⟩ := key h1; rw [sizeTypes] at h2; exact h2
def pickR (rs : List R) (i s : Nat) : Option R := rs.find? fun r => r.idx == i && r.spec == s
theorem pickR_take_no {rs : List R} {i s k : Nat} {r : R} (h : rs[k]? = some r) (h0 : pickR (rs.take k) i s = none) (hn : ¬ (r.idx = i ∧ r.spec = s)) : pickR (rs.take (k + 1)) i s = none := by
  unfold pickR at h0 ⊢
  rw [List.take_add_one, h, List.find?_append, h0]
  simpa using hn
theorem pickR_take_yes {rs : List R} {i s k : Nat} {r : R} (h : rs[k]? = some r) (h0 : pickR (rs.take k) i s = none) (hn : r.idx = i ∧ r.spec = s) : pickR rs i s = some r := by
  unfold pickR at h0 ⊢
  have e : rs = rs.take k ++ rs.drop k := (List.take_append_drop k rs).symm
  rw [e, List.find?_append, h0, List.drop_eq_getElem_cons (List.getElem?_eq_some_iff.1 h).1]
  have := (List.getElem?_eq_some_iff.1 h).2
  rw [this]
  simp [hn.1, hn.2]
theorem Lookup_calls (w : World) (fb k : Nat) (v : Value) (base : Nat) (rs : List R) (i s : Nat) (hF : FamAt w fb k v) (hown : w.ownsRow base 158 1 v rs.length (rs.map R.val)) (hr : ∀ r ∈ rs, r.virt = false) (hl : rs.length ≤ 1000) :
    Calls Tryz.prog 184 #[.pointer (some ⟨fb, 0, none⟩), .int .u16 (i : Int), .int .u16 (s : Int)] w fun e w' => e = .returned (optV (pickR rs i s)) ∧ Fr nope w w' := by
  obtain ⟨A, c, rfl, _, _⟩ := own_slice hown
  have hS := own_Sl hown
  have hlt := lt_of_heap hF
  have hcf := fun j => cell_of_row _ _ j _ _ (0, 0) hF
  have hlen : (rs.map R.val).length = rs.length := List.length_map ..
  clear hown hF
  go_enter Tryz.func184, Tryz.ntmps184
  go_wp2
  clear hcf hlt
  go_loopg [14] rs.length (fun n c14 wr => ∃ k : Nat, k ≤ rs.length ∧ c14 = .int .i64 (k : Int) ∧ pickR (rs.take k) i s = none ∧ Fr nope w wr ∧ n = rs.length - k)
  case atStart => exact ⟨0, Nat.zero_le _, rfl, rfl, Fr.refl _ _, rfl⟩
  case round =>
    obtain ⟨j, hj, rfl, hp, hf, rfl⟩ := hrel
    by_cases hjl : j < rs.length
    · obtain ⟨b, off, u, rfl, hbl, hu, hc⟩ := (hS.nope hf).at_ hjl
      rw [List.getElem?_map] at hu
      obtain ⟨r, hok, rfl⟩ := Option.map_eq_some_iff.1 hu
      obtain ⟨T, x, hv, hm1, hm2, _, _⟩ := r.mP (hr r (List.mem_of_getElem? hok))
      have hyes := Lib.hid (fun hn => pickR_take_yes (i := i) (s := s) hok hp hn)
      have hno := Lib.hid (fun hn => pickR_take_no (i := i) (s := s) hok hp hn)
      have hvv := Lib.hid hv
      rw [hv] at hc
      clear hu hS hok hp hv
      unfold R.coreP at hm1
      obtain ⟨virt, kind, idx, spec, fb', name, info⟩ := r
      simp only at hm1 hm2
      by_cases h1 : idx = i
      · subst h1
        by_cases h2 : spec = s
        · subst h2
          go_wp2
          go_ret
          exact ⟨by rw [hyes.out (by simp)]; simp only [optV]; rw [hvv.out]; rfl, hf.alloc _⟩
        · go_wp2
          go_roundg (rs.length - (j + 1))
          case measure => omega
          case rel => exact ⟨j + 1, by omega, by go_num, hno.out (fun h => h2 h.2), hf.alloc _, rfl⟩
      · go_wp2
        go_roundg (rs.length - (j + 1))
        case measure => omega
        case rel => exact ⟨j + 1, by omega, by go_num, hno.out (fun h => h1 h.1), hf.alloc _, rfl⟩
    · go_wp2
      go_ret
      have e : rs.take j = rs := List.take_of_length_le (by omega)
      rw [e] at hp
      exact ⟨by rw [hp]; rfl, hf⟩
theorem Registers_fam_calls (w : World) (fb k : Nat) (v : Value) (base : Nat) (rs : List R) (hF : FamAt w fb k v) (hown : w.ownsRow base 158 1 v rs.length (rs.map R.val)) (hl : rs.length ≤ 1000) :
    Calls Tryz.prog 69 #[.pointer (some ⟨fb, 0, none⟩)] w (GivesOwn w 158 (rs.map R.val)) := by
  obtain ⟨A, c, rfl, _, _⟩ := own_slice hown
  have hS := own_Sl hown
  have hlt := lt_of_heap hF
  have hcf := fun j => cell_of_row _ _ j _ _ (0, 0) hF
  have hlen : (rs.map R.val).length = rs.length := List.length_map ..
  clear hown hF
  unfold GivesOwn
  go_enter Tryz.func69, Tryz.ntmps69
  go_wp2_with (refine wpList_app (v := .slice none 0 0) rfl rfl Tryz.underlying155 infoPhys rfl (by omega) rfl (own_nil w w.heap.size _ _) rfl (news := rs.map R.val) (by simp) (Sl.src hS) (regs_one _) (by simp only [maxLen]; omega) (by omega) (by omega) ?_; intro v3 w3 hown3 hf3 hb3)
  go_ret
  exact ⟨_, rfl, by simpa using hown3, hf3.mono (fun x _ h => by simp [Value.ownBlock] at h)⟩
end
end Go.Proofs.YtbaihlfnbdifgaaGreat
