/- Part of the proof of boundApart_upto. -/
import Derived.Great.BuildSlice
import Derived.Test.YtbaihlfnbdifgaaGreatP04
import Derived.Test.YtbaihlfnbdifgaaGreatP05
import Derived.Test.YtbaihlfnbdifgaaGreatP09
namespace Go.Proofs.YtbaihlfnbdifgaaGreat
section
open Go Go.RowKit Bth
set_option maxRecDepth 100000
def G.id (g : G) : Nat := (if g.virt then 1 else 0) + g.kind * 256 + g.idx * 65536
theorem R.id_plain (r : R) : r.id = r.plain.id := rfl
def PO.gs (p : PO) : List G := if p.kind = 1 then [p.reg] else if p.kind = 2 then (if p.hasBase then [p.base] else []) ++ (if p.hasIndex then [p.index] else []) else []
def gsOf (ps : List PO) : List G := ps.flatMap PO.gs
def PO.asG (p : PO) : Option G := if p.kind = 1 then some p.reg else none
def outGs (ps : List PO) : List G := ps.filterMap PO.asG
def inGs (canc : Bool) (ins outs : List PO) : List G :=
  (match canc, gsOf ins with
    | true, g :: g' :: l => if g = g' then [] else g :: g' :: l
    | _, l => l) ++ gsOf (outs.filter fun p => p.kind == 2)
theorem WAt.plain {w : World} {wb : Nat} {fs : Nat → Option Nat} (h : WAt w wb fs) {g : G} (hg : g.Ok) {r : R} (hr : regOf fs g = some r) : r.plain = g := by
  obtain ⟨h1, h2, h3, h4, _⟩ := h.reg hg hr
  unfold R.plain
  rw [h1, h2, h3, h4]
theorem opOf_regs {w : World} {wb : Nat} {fs : Nat → Option Nat} (h : WAt w wb fs) {p : PO} (hp : p.Ok) {o : O} (ho : opOf fs p = some o) : (o.regs.map R.plain = p.gs) ∧ (o.asReg.map R.plain = p.asG) ∧ (o.isMem = (p.kind == 2)) ∧ ∀ r ∈ o.regs, ∃ g ∈ p.gs, regOf fs g = some r := by
  unfold opOf at ho
  split at ho
  · rename_i h1
    obtain ⟨r, hr, rfl⟩ := Option.map_eq_some_iff.1 ho
    have e := h.plain hp.reg hr
    refine ⟨?_, ?_, ?_, ?_⟩
    · simp [O.regs, PO.gs, h1, e]
    · simp [O.asReg, PO.asG, h1, e]
    · simp [O.isMem, h1]
    · intro r' hr'
      obtain rfl : r' = r := by simpa [O.regs] using hr'
      exact ⟨p.reg, by simp [PO.gs, h1], hr⟩
  rename_i h1
  split at ho
  · rename_i h2
    obtain ⟨m, hm, rfl⟩ := Option.map_eq_some_iff.1 ho
    obtain ⟨_, b, i, hb, hi, rfl⟩ := memOf_parts hm
    have key : ∀ {has : Bool} {g : G} {x : Option R}, g.Ok → optReg fs has g = some x → x.toList.map R.plain = (if has then [g] else []) ∧ ∀ r ∈ x.toList, regOf fs g = some r ∧ has = true := by
      intro has g x hg hx
      unfold optReg at hx
      split at hx
      · rename_i hh
        obtain ⟨r, hr, rfl⟩ := Option.map_eq_some_iff.1 hx
        exact ⟨by simp [hh, h.plain hg hr], by simp [hr, hh]⟩
      · rename_i hh
        injection hx with hx
        subst hx
        exact ⟨by simp [hh], by simp⟩
    obtain ⟨kb, kb2⟩ := key hp.base hb
    obtain ⟨ki, ki2⟩ := key hp.index hi
    refine ⟨?_, ?_, ?_, ?_⟩
    · unfold PO.gs
      rw [if_neg h1, if_pos h2]
      simp only [O.regs, M.regs, List.map_append, kb, ki]
    · simp [O.asReg, PO.asG, h1]
    · simp [O.isMem, h2]
    · intro r hr
      simp only [O.regs, M.regs, List.mem_append] at hr
      rcases hr with hr | hr
      · obtain ⟨e1, e2⟩ := kb2 r hr
        exact ⟨p.base, by simp [PO.gs, h2, e2], e1⟩
      · obtain ⟨e1, e2⟩ := ki2 r hr
        exact ⟨p.index, by simp [PO.gs, h2, e2], e1⟩
  rename_i h2
  have hno : p.gs = [] ∧ p.asG = none ∧ (p.kind == 2) = false := by simp [PO.gs, PO.asG, h1, h2]
  rw [hno.1, hno.2.1, hno.2.2]
  split at ho
  · obtain ⟨c, hc, rfl⟩ := Option.map_eq_some_iff.1 ho
    exact ⟨rfl, rfl, rfl, by simp [O.regs]⟩
  split at ho
  · injection ho with ho; subst ho; exact ⟨rfl, rfl, rfl, by simp [O.regs]⟩
  split at ho
  · injection ho with ho; subst ho; exact ⟨rfl, rfl, rfl, by simp [O.regs]⟩
  · cases ho
theorem pOps_regs {w : World} {wb : Nat} {fs : Nat → Option Nat} (h : WAt w wb fs) : ∀ {ps : List PO} {os : List O}, (∀ p ∈ ps, p.Ok) → pOps fs ps = some os →
    (regsOf os).map R.plain = gsOf ps ∧ (outRegs os).map R.plain = outGs ps ∧ (regsOf (os.filter O.isMem)).map R.plain = gsOf (ps.filter fun p => p.kind == 2) ∧ ∀ r ∈ regsOf os, ∃ g ∈ gsOf ps, regOf fs g = some r := by
  intro ps
  induction ps with
  | nil =>
    intro os _ ho
    simp only [pOps, Option.some.injEq] at ho
    subst ho
    exact ⟨rfl, rfl, rfl, by simp [regsOf]⟩
  | cons p ps ih =>
    intro os hp ho
    simp only [pOps] at ho
    obtain ⟨o, e1, e2⟩ := Option.bind_eq_some_iff.1 ho
    obtain ⟨os', e3, rfl⟩ := Option.map_eq_some_iff.1 e2
    obtain ⟨g1, g2, g3, g4⟩ := opOf_regs h (hp p (by simp)) e1
    obtain ⟨k1, k2, k3, k4⟩ := ih (fun q hq => hp q (by simp [hq])) e3
    refine ⟨?_, ?_, ?_, ?_⟩
    · show (o.regs ++ regsOf os').map R.plain = p.gs ++ gsOf ps
      rw [List.map_append, g1, k1]
    · unfold outRegs outGs at k2 ⊢
      rw [List.filterMap_cons, List.filterMap_cons]
      cases ha : o.asReg with
      | none =>
        rw [ha] at g2
        rw [← g2]
        exact k2
      | some r =>
        rw [ha] at g2
        rw [← g2]
        simp only [Option.map_some, List.map_cons, k2]
    · rw [List.filter_cons, List.filter_cons, g3]
      split
      · show (o.regs ++ regsOf (os'.filter O.isMem)).map R.plain = p.gs ++ gsOf _
        rw [List.map_append, g1, k3]
      · exact k3
    · intro r hr
      have hr : r ∈ o.regs ++ regsOf os' := hr
      show ∃ g ∈ p.gs ++ gsOf ps, _
      rcases List.mem_append.1 hr with hr | hr
      · obtain ⟨g, h1, h2⟩ := g4 r hr
        exact ⟨g, List.mem_append_left _ h1, h2⟩
      · obtain ⟨g, h1, h2⟩ := k4 r hr
        exact ⟨g, List.mem_append_right _ h1, h2⟩
theorem gsOf_ok {ps : List PO} (hp : ∀ p ∈ ps, p.Ok) : ∀ g ∈ gsOf ps, g.Ok := by
  intro g hg
  obtain ⟨p, hpm, hg⟩ := List.mem_flatMap.1 hg
  have hk := hp p hpm
  unfold PO.gs at hg
  split at hg
  · obtain rfl : g = p.reg := by simpa using hg
    exact hk.reg
  split at hg
  · rcases List.mem_append.1 hg with hg | hg
    · split at hg
      · obtain rfl : g = p.base := by simpa using hg
        exact hk.base
      · cases hg
    · split at hg
      · obtain rfl : g = p.index := by simpa using hg
        exact hk.index
      · cases hg
  · cases hg
theorem wk_inj {a b : Nat} (ha : a ≤ 3) (hb : b ≤ 3) (h : wk a = wk b) : a = b := by
  unfold wk at h
  split at h <;> split at h <;> omega
theorem same_plain {w : World} {wb : Nat} {fs : Nat → Option Nat} (h : WAt w wb fs) {g g' : G} (hg : g.Ok) (hg' : g'.Ok) {r r' : R} (hr : regOf fs g = some r) (hr' : regOf fs g' = some r') : r.same r' = decide (g = g') := by
  have e1 := h.plain hg hr
  have e2 := h.plain hg' hr'
  have hk3 : ∀ {g : G} {r : R}, regOf fs g = some r → r.virt = false → g.virt = false → g.kind ≤ 3 := by
    intro g r hr _ hv
    unfold regOf at hr
    rw [if_neg (by simp [hv])] at hr
    unfold physOf at hr
    obtain ⟨fb, e, _⟩ := Option.bind_eq_some_iff.1 hr
    exact (h.2 _ fb e).1
  rw [Bool.eq_iff_iff, decide_eq_true_eq]
  constructor
  · intro hs
    unfold R.same at hs
    simp only [Bool.and_eq_true, beq_iff_eq] at hs
    obtain ⟨⟨⟨h1, h2⟩, h3, h4⟩, h5⟩ := hs
    have hkk : r.kind = r'.kind := by
      cases hv : r.virt with
      | true => rw [hv, if_pos rfl] at h5; exact beq_iff_eq.1 h5
      | false =>
        have hgv : g.virt = false := by rw [← e1]; exact hv
        have hgv' : g'.virt = false := by rw [← e2]; rw [h1] at hv; exact hv
        have k1 := hk3 hr hv hgv
        have k2 := hk3 hr' (by rw [← h1]; exact hv) hgv'
        have a1 : r.kind = g.kind := by rw [← e1]; rfl
        have a2 : r'.kind = g'.kind := by rw [← e2]; rfl
        exact wk_inj (by omega) (by omega) h2
    rw [← e1, ← e2]
    unfold R.plain
    rw [h1, hkk, h3, h4]
  · rintro rfl
    rw [hr] at hr'
    injection hr' with hr'
    subst hr'
    have hn : (r.name == r.name) = true := by first | exact beq_self_eq_true _ | (show (r.name.data == r.name.data) = true; simp) | (cases r.name; rfl) | exact decide_eq_true rfl
    unfold R.same
    cases r.virt <;> simp [hn]
theorem inRegs_plain {w : World} {wb : Nat} {fs : Nat → Option Nat} (h : WAt w wb fs) {ps qs : List PO} {os us : List O} (canc : Bool) (hp : ∀ p ∈ ps, p.Ok) (hq : ∀ p ∈ qs, p.Ok) (ho : pOps fs ps = some os) (hu : pOps fs qs = some us) : (inRegs canc os us).map R.plain = inGs canc ps qs := by
  obtain ⟨k1, _, _, k4⟩ := pOps_regs h hp ho
  obtain ⟨_, _, k3, _⟩ := pOps_regs h hq hu
  have hok := gsOf_ok hp
  unfold inRegs inGs
  rw [List.map_append, k3]
  congr 1
  cases canc with
  | false => simp only; exact k1
  | true =>
    match hl : regsOf os, k1 with
    | [], k1 => rw [← k1]; rfl
    | [r], k1 => rw [← k1]; rfl
    | r :: r' :: l, k1 =>
      rw [← k1]
      simp only [List.map_cons]
      obtain ⟨g, hg, hr⟩ := k4 r (by rw [hl]; simp)
      obtain ⟨g', hg', hr'⟩ := k4 r' (by rw [hl]; simp)
      have e1 := h.plain (hok g hg) hr
      have e2 := h.plain (hok g' hg') hr'
      rw [same_plain h (hok g hg) (hok g' hg') hr hr', e1, e2]
      by_cases e : g = g' <;> simp [e, e1, e2]
end
section
open Go Go.RowKit Bth
structure Rw (w : World) (e : TypeId) (size : Nat) (A : Option Addr) (n : Nat) (xs : List Value) : Prop where
  len : xs.length = n * size
  row : 0 < n → ∃ b off cs fr, A = some ⟨b, off, none⟩ ∧ w.heap[b]? = some (.cells cs e fr) ∧ ∀ j u, xs[j]? = some u → w.cell? ⟨b, off + j, none⟩ = some u
theorem Rw.nil (w : World) (e : TypeId) (size : Nat) : Rw w e size none 0 [] := ⟨by simp, fun h => absurd h (by omega)⟩
theorem Rw.frT {T : List TypeId} {S : Nat → Prop} {w w' : World} {e : TypeId} {size n : Nat} {A : Option Addr} {xs : List Value} (h : Rw w e size A n xs) (hf : Fr S w w') (hs : NoT T w S) (he : e ∈ T) : Rw w' e size A n xs :=
  ⟨h.len, fun hn => by
    obtain ⟨b, off, cs, fr, h1, h2, h3⟩ := h.row hn
    have hb : ¬ S b := fun hS => hs b cs e fr hS h2 he
    exact ⟨b, off, cs, fr, h1, hf.heap h2 hb, fun j u hu => hf.cell (h3 j u hu) hb⟩⟩
theorem Rw.nope {w w' : World} {e : TypeId} {size n : Nat} {A : Option Addr} {xs : List Value} (h : Rw w e size A n xs) (hf : Fr nope w w') : Rw w' e size A n xs := h.frT (T := [e]) hf (NoT.nope _ _) (by simp)
theorem Rw.of_own {w : World} {base : Nat} {e : TypeId} {size n c : Nat} {A : Option Addr} {xs : List Value} (h : w.ownsRow base e size (.slice A n c) n xs) : Rw w e size A n xs := by
  refine ⟨h.1, fun hn => ?_⟩
  have h2 := h.2
  rcases h2 with ⟨h1, h0⟩ | ⟨g, cap, cur, h1, hb, hh, h3, h4, h5, h6⟩
  · omega
  · injection h1 with hA _ _
    subst hA
    obtain ⟨g', e1, _, hc⟩ := own_cells h hn
    injection e1 with e1
    injection e1 with e1
    subst e1
    exact ⟨g, 0, cur, _, rfl, hh, fun j u hu => by rw [Nat.zero_add]; exact hc j u hu⟩
theorem Rw.src {w : World} {e : TypeId} {size n : Nat} {A : Option Addr} {xs : List Value} (h : Rw w e size A n xs) : 0 < n → ∃ ad, A = some ad ∧ ∀ j u, xs[j]? = some u → w.cell? (ad.add j) = some u := by
  intro hn
  obtain ⟨b, off, cs, fr, rfl, _, hc⟩ := h.row hn
  exact ⟨_, rfl, fun j u hu => by
    have := hc j u hu
    have e : (⟨b, off, none⟩ : Addr).add j = ⟨b, off + j, none⟩ := by unfold Addr.add; split <;> simp_all
    rw [e]; exact this⟩
theorem flat_len {α : Type} {f : α → List Value} {size : Nat} (hs : ∀ x, (f x).length = size) (l : List α) : (l.flatMap f).length = l.length * size := by
  induction l with
  | nil => simp
  | cons x l ih => rw [List.flatMap_cons, List.length_append, ih, hs, List.length_cons, Nat.succ_mul]; omega
theorem flat_get {α : Type} {f : α → List Value} {size : Nat} (hs : ∀ x, (f x).length = size) : ∀ {l : List α} {k : Nat} {x : α}, l[k]? = some x → ∀ j v, (f x)[j]? = some v → (l.flatMap f)[k * size + j]? = some v := by
  intro l
  induction l with
  | nil => intro k x h; simp at h
  | cons q l ih =>
    intro k x h j v hv
    cases k with
    | zero =>
      simp only [List.getElem?_cons_zero, Option.some.injEq] at h
      subst h
      have hj := (List.getElem?_eq_some_iff.1 hv).1
      rw [List.flatMap_cons, Nat.zero_mul, Nat.zero_add, List.getElem?_append_left hj]
      exact hv
    | succ k =>
      rw [List.getElem?_cons_succ] at h
      have e : (k + 1) * size + j - size = k * size + j := by rw [Nat.succ_mul]; omega
      rw [List.flatMap_cons, List.getElem?_append_right (by rw [hs, Nat.succ_mul]; omega), hs, e]
      exact ih h j v hv
theorem Rw.at_ {α : Type} {f : α → List Value} {w : World} {e : TypeId} {size : Nat} {A : Option Addr} {l : List α} (h : Rw w e size A l.length (l.flatMap f)) (hs : ∀ x, (f x).length = size) {k : Nat} {x : α} (hk : l[k]? = some x) :
    ∃ b off, A = some ⟨b, off, none⟩ ∧ b < w.heap.size ∧ w.rangeAt b (off + k * size) (f x) := by
  have hl := (List.getElem?_eq_some_iff.1 hk).1
  obtain ⟨b, off, cs, fr, h1, h2, h3⟩ := h.row (by omega)
  refine ⟨b, off, h1, lt_of_heap h2, fun j v hv => ?_⟩
  have := h3 _ v (flat_get hs hk j v hv)
  rw [← Nat.add_assoc] at this
  exact this
def G.cells (g : G) : List Value := [.bool g.virt, .int .u8 (g.kind : Int), .int .u16 (g.idx : Int), .int .u16 (g.spec : Int)]
def gsCells (gs : List G) : List Value := gs.flatMap G.cells
theorem G.cells_len (g : G) : g.cells.length = 4 := rfl
def GsAt (w : World) (A : Option Addr) (gs : List G) : Prop := Rw w 41 4 A gs.length (gsCells gs)
theorem take_snoc {α : Type} {l : List α} {k : Nat} {x : α} (h : l[k]? = some x) : l.take (k + 1) = l.take k ++ [x] := by rw [List.take_add_one, h]; rfl
theorem take_all {α : Type} {l : List α} {k : Nat} (h : ¬ k < l.length) : l.take k = l := List.take_of_length_le (by omega)
end
section
open Go Go.RowKit Bth
set_option maxRecDepth 100000
def hasR (k i s : Nat) : Bool :=
  if k = 0 then decide (i = 0) && decide (s = 0) else if k = 1 then (if s = 2 then decide (i < 4) else decide (i < 16) && (decide (s = 1) || decide (s = 3) || decide (s = 7) || decide (s = 15)))
  else if k = 2 then decide (i < 32) && (decide (s = 31) || decide (s = 63) || decide (s = 127)) else if k = 3 then decide (i < 8) && decide (s = 15) else false
def tabP (k : Nat) : List (Nat × Nat) := (tabOf k).map fun x => (x.2.idx, x.2.spec)
theorem tab_any (k i s : Nat) : ((tabOf k).any fun x => x.2.idx == i && x.2.spec == s) = decide ((i, s) ∈ tabP k) := by
  rw [Bool.eq_iff_iff, List.any_eq_true, decide_eq_true_eq]
  unfold tabP
  rw [List.mem_map]
  constructor
  · rintro ⟨x, hx, h⟩
    simp only [Bool.and_eq_true, beq_iff_eq] at h
    exact ⟨x, hx, by rw [h.1, h.2]⟩
  · rintro ⟨x, hx, h⟩
    injection h with h1 h2
    exact ⟨x, hx, by simp [h1, h2]⟩
theorem tab_has {k i s : Nat} (hk : k ≤ 3) : ((tabOf k).any fun x => x.2.idx == i && x.2.spec == s) = hasR k i s := by
  rw [tab_any, Bool.eq_iff_iff, decide_eq_true_eq]
  have f : ∀ k, k ≤ 3 → ∀ p ∈ tabP k, hasR k p.1 p.2 = true := by decide
  refine ⟨fun h => f k hk _ h, fun h => ?_⟩
  unfold hasR at h
  clear f
  have hk4 : k = 0 ∨ k = 1 ∨ k = 2 ∨ k = 3 := by omega
  rcases hk4 with rfl | rfl | rfl | rfl
  · simp at h; obtain ⟨rfl, rfl⟩ := h; decide
  · rw [if_neg (by decide), if_pos rfl] at h
    split at h
    · rename_i e; subst e
      have : ∀ i, i < 4 → (i, 2) ∈ tabP 1 := by decide
      exact this i (by simpa using h)
    · have : ∀ i, i < 16 → (i, 1) ∈ tabP 1 ∧ (i, 3) ∈ tabP 1 ∧ (i, 7) ∈ tabP 1 ∧ (i, 15) ∈ tabP 1 := by decide
      simp at h
      obtain ⟨a, b, c, d⟩ := this i h.1
      rcases h.2 with ((rfl | rfl) | rfl) | rfl <;> assumption
  · simp at h
    have : ∀ i, i < 32 → (i, 31) ∈ tabP 2 ∧ (i, 63) ∈ tabP 2 ∧ (i, 127) ∈ tabP 2 := by decide
    obtain ⟨a, b, c⟩ := this i h.1
    rcases h.2 with (rfl | rfl) | rfl <;> assumption
  · simp at h
    have : ∀ i, i < 8 → (i, 15) ∈ tabP 3 := by decide
    obtain ⟨h1, rfl⟩ := h
    exact this i h1
theorem okG_has (g : G) : okG g = (g.virt || hasR g.kind g.idx g.spec) := by
  unfold okG
  congr 1
  by_cases hk : g.kind ≤ 3
  · rw [tab_has hk]; simp [hk]
  · have : hasR g.kind g.idx g.spec = false := by unfold hasR; rw [if_neg (by omega), if_neg (by omega), if_neg (by omega), if_neg (by omega)]
    rw [this]; simp [hk]
theorem regHas_calls (w : World) (k i s : Nat) : Calls Tryz.prog 127 #[.int .u8 (k : Int), .int .u16 (i : Int), .int .u16 (s : Int)] w fun e w' => e = .returned (.bool (hasR k i s)) ∧ w' = w := by
  have eB : ∀ a b : Nat, ((a : Int) == (b : Int)) = decide (a = b) := fun a b => by
    by_cases h : a = b
    · subst h; simp
    · have : (a : Int) ≠ (b : Int) := by omega
      simp [h, this]
  have n0 : k ≠ 0 → (k : Int) ≠ 0 := fun h => by omega
  have n1 : k ≠ 1 → (k : Int) ≠ 1 := fun h => by omega
  have n2 : k ≠ 2 → (k : Int) ≠ 2 := fun h => by omega
  have n3 : k ≠ 3 → (k : Int) ≠ 3 := fun h => by omega
  by_cases h0 : k = 0
  · subst h0
    by_cases hi : i = 0
    · subst hi
      go_enter Tryz.func127, Tryz.ntmps127
      go_wp2
      go_ret
      show Ending.returned (Value.bool _) = _ ∧ _
      refine ⟨congrArg (fun b => Ending.returned (Value.bool b)) ?_, rfl⟩
      simp only [hasR]; have := eB s 0; simpa using this
    · have hi' : (i : Int) ≠ 0 := by omega
      go_enter Tryz.func127, Tryz.ntmps127
      go_wp2
      go_ret
      show Ending.returned (Value.bool _) = _ ∧ _
      refine ⟨congrArg (fun b => Ending.returned (Value.bool b)) ?_, rfl⟩
      simp [hasR, hi]
  have m0 := n0 h0
  by_cases h1 : k = 1
  · subst h1
    clear m0 n0 n1 n2 n3
    by_cases hs : s = 2
    · subst hs
      go_enter Tryz.func127, Tryz.ntmps127
      go_wp2
      go_ret
      show Ending.returned (Value.bool _) = _ ∧ _
      refine ⟨congrArg (fun b => Ending.returned (Value.bool b)) ?_, rfl⟩
      simp only [hasR]; by_cases h : i < 4 <;> simp [h] <;> omega
    have hs' : (s : Int) ≠ 2 := by omega
    by_cases hi : i < 16
    · have hi' : (i : Int) < 16 := by omega
      by_cases q1 : s = 1
      · subst q1
        go_enter Tryz.func127, Tryz.ntmps127
        go_wp2
        go_ret
        show Ending.returned (Value.bool _) = _ ∧ _
        refine ⟨congrArg (fun b => Ending.returned (Value.bool b)) ?_, rfl⟩
        simp [hasR, hi]
      have q1' : (s : Int) ≠ 1 := by omega
      by_cases q2 : s = 3
      · subst q2
        go_enter Tryz.func127, Tryz.ntmps127
        go_wp2
        go_ret
        show Ending.returned (Value.bool _) = _ ∧ _
        refine ⟨congrArg (fun b => Ending.returned (Value.bool b)) ?_, rfl⟩
        simp [hasR, hi]
      have q2' : (s : Int) ≠ 3 := by omega
      by_cases q3 : s = 7
      · subst q3
        go_enter Tryz.func127, Tryz.ntmps127
        go_wp2
        go_ret
        show Ending.returned (Value.bool _) = _ ∧ _
        refine ⟨congrArg (fun b => Ending.returned (Value.bool b)) ?_, rfl⟩
        simp [hasR, hi]
      have q3' : (s : Int) ≠ 7 := by omega
      go_enter Tryz.func127, Tryz.ntmps127
      go_wp2
      go_ret
      show Ending.returned (Value.bool _) = _ ∧ _
      refine ⟨congrArg (fun b => Ending.returned (Value.bool b)) ?_, rfl⟩
      have e1 : ((s : Int) == 1) = decide (s = 1) := eB s 1
      have e2 : ((s : Int) == 3) = decide (s = 3) := eB s 3
      have e3 : ((s : Int) == 7) = decide (s = 7) := eB s 7
      have e4 : ((s : Int) == 15) = decide (s = 15) := eB s 15
      rw [e1, e2, e3, e4]
      simp [hasR, hs, hi, q1, q2, q3]
    · have hi' : ¬ (i : Int) < 16 := by omega
      go_enter Tryz.func127, Tryz.ntmps127
      go_wp2
      go_ret
      show Ending.returned (Value.bool _) = _ ∧ _
      refine ⟨congrArg (fun b => Ending.returned (Value.bool b)) ?_, rfl⟩
      simp [hasR, hs, hi]
  have m1 := n1 h1
  by_cases h2 : k = 2
  · subst h2
    clear m0 m1 n0 n1 n2 n3
    by_cases hi : i < 32
    · have hi' : (i : Int) < 32 := by omega
      by_cases q1 : s = 31
      · subst q1
        go_enter Tryz.func127, Tryz.ntmps127
        go_wp2
        go_ret
        show Ending.returned (Value.bool _) = _ ∧ _
        refine ⟨congrArg (fun b => Ending.returned (Value.bool b)) ?_, rfl⟩
        simp [hasR, hi]
      have q1' : (s : Int) ≠ 31 := by omega
      by_cases q2 : s = 63
      · subst q2
        go_enter Tryz.func127, Tryz.ntmps127
        go_wp2
        go_ret
        show Ending.returned (Value.bool _) = _ ∧ _
        refine ⟨congrArg (fun b => Ending.returned (Value.bool b)) ?_, rfl⟩
        simp [hasR, hi]
      have q2' : (s : Int) ≠ 63 := by omega
      go_enter Tryz.func127, Tryz.ntmps127
      go_wp2
      go_ret
      show Ending.returned (Value.bool _) = _ ∧ _
      refine ⟨congrArg (fun b => Ending.returned (Value.bool b)) ?_, rfl⟩
      have e1 : ((s : Int) == 31) = decide (s = 31) := eB s 31
      have e2 : ((s : Int) == 63) = decide (s = 63) := eB s 63
      have e3 : ((s : Int) == 127) = decide (s = 127) := eB s 127
      rw [e1, e2, e3]
      simp [hasR, hi, q1, q2]
    · have hi' : ¬ (i : Int) < 32 := by omega
      go_enter Tryz.func127, Tryz.ntmps127
      go_wp2
      go_ret
      show Ending.returned (Value.bool _) = _ ∧ _
      refine ⟨congrArg (fun b => Ending.returned (Value.bool b)) ?_, rfl⟩
      simp [hasR, hi]
  have m2 := n2 h2
  by_cases h3 : k = 3
  · subst h3
    clear m0 m1 m2 n0 n1 n2 n3
    by_cases hi : i < 8
    · have hi' : (i : Int) < 8 := by omega
      go_enter Tryz.func127, Tryz.ntmps127
      go_wp2
      go_ret
      show Ending.returned (Value.bool _) = _ ∧ _
      refine ⟨congrArg (fun b => Ending.returned (Value.bool b)) ?_, rfl⟩
      have := eB s 15; simp only [hasR]; simpa [hi] using this
    · have hi' : ¬ (i : Int) < 8 := by omega
      go_enter Tryz.func127, Tryz.ntmps127
      go_wp2
      go_ret
      show Ending.returned (Value.bool _) = _ ∧ _
      refine ⟨congrArg (fun b => Ending.returned (Value.bool b)) ?_, rfl⟩
      simp [hasR, hi]
  have m3 := n3 h3
  go_enter Tryz.func127, Tryz.ntmps127
  go_wp2
  go_ret
  show Ending.returned (Value.bool _) = _ ∧ _
  refine ⟨congrArg (fun b => Ending.returned (Value.bool b)) ?_, rfl⟩
  simp [hasR, h0, h1, h2, h3]
theorem IsRegister_calls (w : World) (g : G) : Calls Tryz.prog 88 #[g.agg] w fun e w' => e = .returned (.bool (okG g)) ∧ Fr nope w w' := by
  have hH := fun W => regHas_calls W g.kind g.idx g.spec
  rw [okG_has]
  obtain ⟨virt, kind, idx, spec⟩ := g
  simp only [G.agg] at hH ⊢
  generalize hasR kind idx spec = b at hH ⊢
  cases virt with
  | true =>
    go_enter Tryz.func88, Tryz.ntmps88
    go_wp2
    go_ret
    exact ⟨rfl, (Fr.refl _ _).alloc _⟩
  | false =>
    go_enter Tryz.func88, Tryz.ntmps88
    go_wp2_with (go_at_call 127; refine (hH _).mono ?_; rintro e w1 ⟨rfl, rfl⟩)
    go_ret
    exact ⟨rfl, (Fr.refl _ _).alloc _⟩
theorem ConstOK_calls (w : World) (c : PC) : Calls Tryz.prog 89 #[c.agg] w fun e w' => e = .returned (.bool (conK c.kind).isSome) ∧ Fr nope w w' := by
  have hk : (conK c.kind).isSome = decide (1 ≤ c.kind ∧ c.kind ≤ 11) := by
    by_cases h : 1 ≤ c.kind ∧ c.kind ≤ 11
    · have : c.kind = 1 ∨ c.kind = 2 ∨ c.kind = 3 ∨ c.kind = 4 ∨ c.kind = 5 ∨ c.kind = 6 ∨ c.kind = 7 ∨ c.kind = 8 ∨ c.kind = 9 ∨ c.kind = 10 ∨ c.kind = 11 := by omega
      rw [decide_eq_true h]
      rcases this with e | e | e | e | e | e | e | e | e | e | e <;> rw [e] <;> decide
    · rw [decide_eq_false h]
      unfold conK
      repeat' (split; · omega)
      rfl
  rw [hk]
  obtain ⟨kind, bits, text⟩ := c
  simp only [PC.agg]
  by_cases h1 : 1 ≤ kind
  · by_cases h2 : kind ≤ 11
    · rw [decide_eq_true ⟨h1, h2⟩]
      go_enter Tryz.func89, Tryz.ntmps89
      go_wp2
      go_ret
      exact ⟨rfl, (Fr.refl _ _).alloc _⟩
    · rw [decide_eq_false fun h => h2 h.2]
      go_enter Tryz.func89, Tryz.ntmps89
      go_wp2
      go_ret
      exact ⟨rfl, (Fr.refl _ _).alloc _⟩
  · rw [decide_eq_false fun h => h1 h.1]
    go_enter Tryz.func89, Tryz.ntmps89
    go_wp2
    go_ret
    exact ⟨rfl, (Fr.refl _ _).alloc _⟩
def wholeG (g : G) : Bool := if g.kind = 1 then decide (g.spec = 1) || decide (g.spec = 3) || decide (g.spec = 7) || decide (g.spec = 15) else if g.kind = 2 then decide (g.spec = 31) || decide (g.spec = 63) || decide (g.spec = 127) else if g.kind = 3 then decide (g.spec = 15) else false
theorem spMask_calls (w : World) (s : Nat) : Calls Tryz.prog 9 #[.int .u16 (s : Int)] w fun e w' => e = .returned (.int .u16 (s : Int)) ∧ w' = w := by
  go_enter Tryz.func9, Tryz.ntmps9
  go_wp2
  go_ret
  exact ⟨rfl, rfl⟩
end
section
open Go Go.RowKit Bth
set_option maxRecDepth 100000
def GivesB (w : World) (b : Bool) (e : Ending) (w' : World) : Prop := e = .returned (.bool b) ∧ Fr nope w w'
set_option maxHeartbeats 2000000 in
theorem OpOK_calls (w : World) (p : PO) : Calls Tryz.prog 49 #[p.agg] w (GivesB w (okP p)) := by
  have hreg := fun W => IsRegister_calls W p.reg
  have hbase := fun W => IsRegister_calls W p.base
  have hindex := fun W => IsRegister_calls W p.index
  have hcon := fun W => ConstOK_calls W p.con
  unfold okP okM GivesB
  obtain ⟨kind, rg, hasBase, hasIndex, base, index, scale, disp, sym, static, con, label, rel⟩ := p
  simp only [PO.agg, PO.cells, G.agg, PC.agg] at hreg hbase hindex hcon ⊢
  by_cases h1 : kind = 1
  · subst h1
    rw [if_pos rfl]
    generalize okG rg = b at hreg
    go_enter Tryz.func49, Tryz.ntmps49
    go_wp2_with (go_at_call 88; refine (hreg _).mono ?_; rintro e w1 ⟨rfl, hf1⟩)
    go_ret
    exact ⟨rfl, ((Fr.refl _ _).alloc _).then hf1⟩
  by_cases h2 : kind = 2
  · subst h2
    rw [if_neg (by decide), if_pos rfl]
    generalize okG base = b at hbase
    generalize okG index = c at hindex
    have nil0 : ∀ o, Fr nope w (w.alloc o) := fun o => (Fr.refl nope w).alloc o
    cases hasBase with
    | false =>
      cases hasIndex with
      | false =>
        go_enter Tryz.func49, Tryz.ntmps49
        go_wp2
        go_ret
        exact ⟨rfl, nil0 _⟩
      | true =>
        go_enter Tryz.func49, Tryz.ntmps49
        go_wp2_with (go_at_call 88; refine (hindex _).mono ?_; rintro e w1 ⟨rfl, hf1⟩)
        go_ret
        exact ⟨by cases c <;> rfl, (nil0 _).then hf1⟩
    | true =>
      cases b with
      | false =>
        go_enter Tryz.func49, Tryz.ntmps49
        go_wp2_with (go_at_call 88; refine (hbase _).mono ?_; rintro e w1 ⟨rfl, hf1⟩)
        go_ret
        exact ⟨rfl, (nil0 _).then hf1⟩
      | true =>
        cases hasIndex with
        | false =>
          go_enter Tryz.func49, Tryz.ntmps49
          go_wp2_with (go_at_call 88; refine (hbase _).mono ?_; rintro e w1 ⟨rfl, hf1⟩; have hb1 := hf1.heap (heap_alloc_new w _) (fun x => x); have k6 := (cell_of_row _ _ 6 _ _ (0, 0) hb1); have k11 := (cell_of_row _ _ 11 _ _ (0, 0) hb1); have k12 := (cell_of_row _ _ 12 _ _ (0, 0) hb1); have k13 := (cell_of_row _ _ 13 _ _ (0, 0) hb1); have k14 := (cell_of_row _ _ 14 _ _ (0, 0) hb1); clear hb1; simp only [List.getElem?_toArray, List.getElem?_cons_succ, List.getElem?_cons_zero] at k6 k11 k12 k13 k14)
          go_ret
          exact ⟨rfl, (nil0 _).then hf1⟩
        | true =>
          go_enter Tryz.func49, Tryz.ntmps49
          go_wp2_with fail
          refine (hbase _).mono ?_
          rintro e w1 ⟨rfl, hf1⟩
          have hb1 := hf1.heap (heap_alloc_new w _) (fun x => x)
          have k6 := cell_of_row _ _ 6 _ _ (0, 0) hb1
          have k11 := cell_of_row _ _ 11 _ _ (0, 0) hb1
          have k12 := cell_of_row _ _ 12 _ _ (0, 0) hb1
          have k13 := cell_of_row _ _ 13 _ _ (0, 0) hb1
          have k14 := cell_of_row _ _ 14 _ _ (0, 0) hb1
          simp only [List.getElem?_toArray, List.getElem?_cons_succ, List.getElem?_cons_zero] at k6 k11 k12 k13 k14
          clear hb1
          go_wp2_with fail
          refine (hindex _).mono ?_
          rintro e w2 ⟨rfl, hf2⟩
          go_wp2
          go_ret
          exact ⟨by cases c <;> rfl, ((nil0 _).then hf1).then hf2⟩
  by_cases h3 : kind = 3
  · subst h3
    rw [if_neg (by decide), if_neg (by decide), if_pos rfl]
    generalize (conK con.kind).isSome = b at hcon
    go_enter Tryz.func49, Tryz.ntmps49
    go_wp2_with (go_at_call 89; refine (hcon _).mono ?_; rintro e w1 ⟨rfl, hf1⟩)
    go_ret
    exact ⟨rfl, ((Fr.refl _ _).alloc _).then hf1⟩
  rw [if_neg h1, if_neg h2, if_neg h3]
  by_cases h4 : kind = 4
  · subst h4
    rw [if_pos rfl]
    go_enter Tryz.func49, Tryz.ntmps49
    go_wp2
    go_ret
    exact ⟨rfl, (Fr.refl _ _).alloc _⟩
  by_cases h5 : kind = 5
  · subst h5
    rw [if_neg (by decide), if_pos rfl]
    go_enter Tryz.func49, Tryz.ntmps49
    go_wp2
    go_ret
    exact ⟨rfl, (Fr.refl _ _).alloc _⟩
  rw [if_neg h4, if_neg h5]
  have e4 : (kind == 4) = false := by simp [h4]
  have e5 : (kind == 5) = false := by simp [h5]
  have e : (kind == 4 || kind == 5) = false := by rw [e4, e5]; rfl
  go_enter Tryz.func49, Tryz.ntmps49
  go_wp2
  go_ret
  show Ending.returned (Value.bool _) = _ ∧ _
  refine ⟨congrArg (fun b => Ending.returned (Value.bool b)) ?_, (Fr.refl _ _).alloc _⟩
  first | rfl | exact e5 | exact e
theorem irOps_calls (w : World) (s : SV) (ps : List PO) (h : POsAt w s ps) (hl : ps.length ≤ 1048576) : Calls Tryz.prog 44 #[s.val] w (GivesB w (ps.all okP)) := by
  obtain ⟨A, n, c⟩ := s
  have hps := h
  obtain ⟨rfl, _⟩ : n = ps.length ∧ _ := h
  simp only [SV.val]
  go_enter Tryz.func44, Tryz.ntmps44
  go_wp2
  go_loopg [7] ps.length (fun n c7 wr => ∃ k : Nat, k ≤ ps.length ∧ c7 = .int .i64 (k : Int) ∧ Hid ((ps.take k).all okP = true) ∧ Fr nope w wr ∧ n = ps.length - k)
  case atStart => exact ⟨0, Nat.zero_le _, rfl, Lib.hid rfl, Fr.refl _ _, rfl⟩
  case round =>
    obtain ⟨k, hk, rfl, hall, hf, rfl⟩ := hrel
    by_cases hlt : k < ps.length
    · obtain ⟨b, off, hAe, hbl, hc⟩ := (hps.nope hf).2 (by omega)
      simp only at hAe
      subst hAe
      obtain ⟨p, hok⟩ : ∃ p, ps[k]? = some p := ⟨_, List.getElem?_eq_getElem hlt⟩
      have hc := hc k p hok
      have hT := Lib.hid (take_snoc hok)
      have hpm := List.mem_of_getElem? hok
      replace hpm := Lib.hid hpm
      clear hok hps
      go_wp2_with (first
        | (refine wpList_load_mid rfl _ _ rfl b (off + k * 24) rfl p.cells.toList _ hc Tryz.underlying65 rfl (by kernel_rfl) ?_)
        | (refine wpList_storeRow (b := wr.heap.size) (cells := p.cells) rfl rfl rfl rfl (heap_alloc_new _ _) rfl (by kernel_rfl) (by kernel_rfl) ?_; intro w2 hb2 hf2)
        | (refine wpList_loadRow (b := wr.heap.size) (cells := p.cells) rfl rfl rfl hb2 Tryz.underlying65 rfl (by kernel_rfl) ?_))
      have hn2 : Fr nope wr w2 := ((Fr.refl nope wr).alloc _).then_new hf2 (fun x hx e => by omega)
      refine (OpOK_calls w2 p).mono ?_
      rintro e w3 ⟨rfl, hf3⟩
      have hf13 := (hf.then hn2).then hf3
      cases hb : okP p with
      | false =>
        go_wp2
        go_ret
        exact ⟨by rw [List.all_eq_false.2 ⟨p, hpm.out, by simp [hb]⟩]; rfl, hf13⟩
      | true =>
        have hall' := Lib.hid (show (ps.take (k + 1)).all okP = true by rw [hT.out, List.all_append, hall.out]; simp [hb])
        go_wp2
        go_roundg (ps.length - (k + 1))
        case measure => omega
        case rel => exact ⟨k + 1, by omega, by go_num, hall', hf13, rfl⟩
    · rw [take_all hlt] at hall
      go_wp2
      go_ret
      exact ⟨by rw [hall.out]; rfl, hf⟩
theorem InstrOK_calls (w : World) (B : Nat) (p : PI) (h : p.At w B) : Calls Tryz.prog 19 #[p.agg] w (GivesB w (okI p)) := by
  have hfew := h.few
  have h1 : ∀ W, Fr nope w W → Calls Tryz.prog 44 #[p.opsV.val] W (GivesB W (p.ops.all okP)) := fun W hW => irOps_calls W _ _ (h.ops.nope hW) (by omega)
  have h2 : ∀ W, Fr nope w W → Calls Tryz.prog 44 #[p.inpV.val] W (GivesB W (p.inp.all okP)) := fun W hW => irOps_calls W _ _ (h.inp.nope hW) (by omega)
  have h3 : ∀ W, Fr nope w W → Calls Tryz.prog 44 #[p.outV.val] W (GivesB W (p.out.all okP)) := fun W hW => irOps_calls W _ _ (h.out.nope hW) (by omega)
  unfold okI GivesB
  unfold GivesB at h1 h2 h3
  generalize p.ops.all okP = b1 at h1 ⊢
  generalize p.inp.all okP = b2 at h2 ⊢
  generalize p.out.all okP = b3 at h3 ⊢
  clear h hfew
  obtain ⟨opc, ⟨A1, n1, c1⟩, suf, ⟨A2, n2, c2⟩, ops, ⟨A3, n3, c3⟩, inp, ⟨A4, n4, c4⟩, out, term, br, cond, canc, ⟨A5, n5, c5⟩, isa⟩ := p
  simp only [PI.agg, PI.cells, SV.val] at h1 h2 h3 ⊢
  have f0 := fun o => (Fr.refl nope w).alloc o
  replace h1 := Lib.hid h1
  replace h2 := Lib.hid h2
  replace h3 := Lib.hid h3
  go_enter Tryz.func19, Tryz.ntmps19
  go_wp2_with fail
  refine (h1.out _ (f0 _)).mono ?_
  rintro e w1 ⟨rfl, hf1⟩
  have hb1 := hf1.heap (heap_alloc_new w _) (fun x => x)
  have hc1 := fun j => cell_of_row _ _ j _ _ (0, 0) hb1
  cases b1 with
  | false =>
    go_wp2
    go_ret
    exact ⟨rfl, (f0 _).then hf1⟩
  | true =>
    go_wp2_with fail
    refine (h2.out _ ((f0 _).then hf1)).mono ?_
    rintro e w2 ⟨rfl, hf2⟩
    have hb2 := hf2.heap hb1 (fun x => x)
    have hc2 := fun j => cell_of_row _ _ j _ _ (0, 0) hb2
    clear hc1
    cases b2 with
    | false =>
      go_wp2
      go_ret
      exact ⟨rfl, ((f0 _).then hf1).then hf2⟩
    | true =>
      go_wp2_with fail
      refine (h3.out _ (((f0 _).then hf1).then hf2)).mono ?_
      rintro e w3 ⟨rfl, hf3⟩
      go_wp2
      go_ret
      exact ⟨by cases b3 <;> rfl, (((f0 _).then hf1).then hf2).then hf3⟩
end
section
open Go Go.RowKit Bth
set_option maxRecDepth 100000
def PN.agg (n : PN) : Value := .agg n.cells
set_option maxHeartbeats 1000000 in
theorem NodeOK_calls (w : World) (B : Nat) (p : PN) (h : p.At w B) : Calls Tryz.prog 46 #[p.agg] w (GivesB w (okN p)) := by
  have h1 : ∀ W, Fr nope w W → Calls Tryz.prog 19 #[p.ins.agg] W (GivesB W (okI p.ins)) := fun W hW => InstrOK_calls W B p.ins (h.ins.fr hW (fun _ _ x => x))
  clear h
  unfold okN GivesB
  unfold GivesB at h1
  obtain ⟨kind, label, ⟨lA, ln, lc⟩, lines, ⟨opc, ⟨A1, n1, c1⟩, suf, ⟨A2, n2, c2⟩, ops, ⟨A3, n3, c3⟩, inp, ⟨A4, n4, c4⟩, out, term, br, cond, canc, ⟨A5, n5, c5⟩, isa⟩⟩ := p
  simp only [PN.agg, PN.cells, PI.agg, PI.cells, SV.val] at h1 ⊢
  generalize okI _ = b at h1 ⊢
  have f0 := fun o => (Fr.refl nope w).alloc o
  by_cases k1 : kind = 1
  · subst k1
    rw [if_pos rfl]
    cases b with
    | false =>
      go_enter Tryz.func46, Tryz.ntmps46
      go_wp2_with fail
      refine (h1 _ (f0 _)).mono ?_
      rintro e w1 ⟨rfl, hf1⟩
      have hb1 := hf1.heap (heap_alloc_new w _) (fun x => x)
      have hc1 := fun j => cell_of_row _ _ j _ _ (0, 0) hb1
      go_wp2
      go_ret
      exact ⟨rfl, (f0 _).then hf1⟩
    | true =>
      go_enter Tryz.func46, Tryz.ntmps46
      go_wp2_with fail
      refine (h1 _ (f0 _)).mono ?_
      rintro e w1 ⟨rfl, hf1⟩
      go_wp2
      go_ret
      exact ⟨rfl, (f0 _).then hf1⟩
  by_cases k2 : kind = 2
  · subst k2
    rw [if_neg (by decide), if_pos rfl]
    go_enter Tryz.func46, Tryz.ntmps46
    go_wp2
    go_ret
    exact ⟨rfl, f0 _⟩
  by_cases k3 : kind = 3
  · subst k3
    rw [if_neg (by decide), if_neg (by decide), if_pos rfl]
    go_enter Tryz.func46, Tryz.ntmps46
    go_wp2
    go_ret
    exact ⟨rfl, f0 _⟩
  rw [if_neg k1, if_neg k2, if_neg k3]
  have e3 : (kind == 3) = false := by simp [k3]
  have e1 : (kind == 2) = false := by simp [k2]
  have e2 : (kind == 2 || kind == 3) = false := by simp [k2, k3]
  go_enter Tryz.func46, Tryz.ntmps46
  go_wp2
  go_ret
  show Ending.returned (Value.bool _) = _ ∧ _
  refine ⟨congrArg (fun b => Ending.returned (Value.bool b)) ?_, f0 _⟩
  first | rfl | exact e3 | exact e2 | exact e1
set_option maxHeartbeats 1000000 in
theorem NodesOK_calls (w : World) (B : Nat) (s : SV) (ns : List PN) (hN : NodesAt w B s ns) : Calls Tryz.prog 22 #[s.val] w (GivesB w (ns.all okN)) := by
  obtain ⟨A, n, c⟩ := s
  obtain rfl : n = ns.length := hN.len
  have hfew := hN.few
  simp only [SV.val]
  go_enter Tryz.func22, Tryz.ntmps22
  go_wp2
  go_loopg [7] ns.length (fun n c7 wr => ∃ k : Nat, k ≤ ns.length ∧ c7 = .int .i64 (k : Int) ∧ Hid ((ns.take k).all okN = true) ∧ Fr nope w wr ∧ n = ns.length - k)
  case atStart => exact ⟨0, Nat.zero_le _, rfl, Lib.hid rfl, Fr.refl _ _, rfl⟩
  case round =>
    obtain ⟨k, hk, rfl, hall, hf, rfl⟩ := hrel
    by_cases hlt : k < ns.length
    · obtain ⟨b, off, hAe, hbB, hbl, hc⟩ := (hN.fr hf (fun _ _ x => x)).row (by omega)
      simp only at hAe
      subst hAe
      obtain ⟨p, hpk⟩ : ∃ p, ns[k]? = some p := ⟨_, List.getElem?_eq_getElem hlt⟩
      have hc := hc k p hpk
      have hpm := List.mem_of_getElem? hpk
      have hT := Lib.hid (take_snoc hpk)
      have hat := hN.each p hpm
      replace hpm := Lib.hid hpm
      clear hpk hN
      go_wp2_with (first
        | (refine wpList_load_mid rfl _ _ rfl b (off + k * 13) rfl p.cells.toList _ hc Tryz.underlying50 rfl (by kernel_rfl) ?_)
        | (refine wpList_storeRow (b := wr.heap.size) (cells := p.cells) rfl rfl rfl rfl (heap_alloc_new _ _) rfl (by kernel_rfl) (by kernel_rfl) ?_; intro w2 hb2 hf2)
        | (refine wpList_loadRow (b := wr.heap.size) (cells := p.cells) rfl rfl rfl hb2 Tryz.underlying50 rfl (by kernel_rfl) ?_))
      have hn2 : Fr nope wr w2 := ((Fr.refl nope wr).alloc _).then_new hf2 (fun x hx e => by omega)
      refine (NodeOK_calls w2 B p (hat.fr (hf.then hn2) (fun _ _ x => x))).mono ?_
      rintro e w3 ⟨rfl, hf3⟩
      have hf13 := (hf.then hn2).then hf3
      cases hb : okN p with
      | false =>
        go_wp2
        go_ret
        exact ⟨by rw [List.all_eq_false.2 ⟨p, hpm.out, by simp [hb]⟩]; rfl, hf13⟩
      | true =>
        have hall' := Lib.hid (show (ns.take (k + 1)).all okN = true by rw [hT.out, List.all_append, hall.out]; simp [hb])
        go_wp2
        go_roundg (ns.length - (k + 1))
        case measure => omega
        case rel => exact ⟨k + 1, by omega, by go_num, hall', hf13, rfl⟩
    · rw [take_all hlt] at hall
      go_wp2
      go_ret
      exact ⟨by rw [hall.out]; rfl, hf⟩
theorem tagsListed_calls (w : World) (A : Option Addr) (l : List ByteArray) (c : Nat) (x : ByteArray) (h : Sl w A l.length (l.map Value.string)) (hl : l.length ≤ 1073741824) : Calls Tryz.prog 47 #[.slice A l.length c, .string x] w fun e w' => ∃ b, e = .returned (.bool b) ∧ w' = w := by
  go_enter Tryz.func47, Tryz.ntmps47
  go_wp2
  go_loopg [6, 9] l.length (fun n c6 c9 wr => ∃ k : Nat, k ≤ l.length ∧ c9 = .int .i64 (k : Int) ∧ wr = w ∧ n = l.length - k)
  case atStart => exact ⟨0, Nat.zero_le _, rfl, rfl, rfl⟩
  case round =>
    obtain ⟨k, hk, rfl, rfl, rfl⟩ := hrel
    by_cases hlt : k < l.length
    · obtain ⟨b, off, u, hAe, hbl, hu, hc⟩ := h.at_ hlt
      rw [List.getElem?_map] at hu
      obtain ⟨y, _, rfl⟩ := Option.map_eq_some_iff.1 hu
      subst hAe
      clear hu h
      cases hb : (y.toList == x.toList) with
      | true =>
        go_wp2
        go_ret
        exact ⟨true, rfl, rfl⟩
      | false =>
        go_wp2
        go_roundg (l.length - (k + 1))
        case measure => omega
        case rel => exact ⟨k + 1, by omega, by go_num, rfl, rfl⟩
    · go_wp2
      go_ret
      exact ⟨false, rfl, rfl⟩
end
section
open Go Go.RowKit Bth
set_option maxRecDepth 100000
structure LP where
  t : ByteArray → Option Nat
  pend : List ByteArray
  n : Nat
open Classical in
noncomputable def lpStep (s : LP) (p : PN) : Option LP :=
  if p.kind = 1 then some ⟨fun x => if x ∈ s.pend then some s.n else s.t x, [], s.n + 1⟩
  else if p.kind = 2 then (if (s.t p.label).isSome then none else some { s with pend := s.pend ++ [p.label] }) else some s
noncomputable def lpRun (ns : List PN) : Option LP := ns.foldlM lpStep ⟨fun _ => none, [], 0⟩
theorem lpRun_snoc (ns : List PN) (p : PN) : lpRun (ns ++ [p]) = (lpRun ns).bind fun s => lpStep s p := by
  unfold lpRun
  rw [List.foldlM_append]
  cases List.foldlM lpStep ⟨fun _ => none, [], 0⟩ ns <;> simp
def insP (ns : List PN) : List PI := (ns.filter fun p => p.kind == 1).map PN.ins
theorem Mt.match_ {fs : Nat → Option Nat} {ns : List PN} {nds : List Nd} {rs : List Rec} {cms : List (Nat × List ByteArray)} (h : Mt fs ns nds rs cms) : (insP ns).length = rs.length ∧ ∀ (k : Nat) (p : PI) (r : Rec), (insP ns)[k]? = some p → rs[k]? = some r → RMatch fs p r := by
  induction h with
  | nil => exact ⟨rfl, by simp [insP]⟩
  | @ins ns nds rs cms n r _ h1 h2 ih =>
    have e : insP (ns ++ [n]) = insP ns ++ [n.ins] := by unfold insP; rw [List.filter_append, List.map_append]; simp [h1]
    rw [e]
    refine ⟨by simp [ih.1], fun k p r' hk hr => ?_⟩
    by_cases hlt : k < rs.length
    · rw [List.getElem?_append_left (by rw [ih.1]; exact hlt)] at hk
      rw [List.getElem?_append_left hlt] at hr
      exact ih.2 k p r' hk hr
    · have hkl := (List.getElem?_eq_some_iff.1 hr).1
      have hke : k = rs.length := by simp at hkl; omega
      subst hke
      have hk' : (insP ns ++ [n.ins])[(insP ns).length]? = some p := by rw [ih.1]; exact hk
      rw [List.getElem?_concat_length] at hk' hr
      injection hk' with hk'
      injection hr with hr
      subst hk' hr
      exact h2
  | @label ns nds rs cms n _ h1 ih =>
    have e : insP (ns ++ [n]) = insP ns := by unfold insP; rw [List.filter_append]; simp [h1]
    rw [e]; exact ih
  | @comment ns nds rs cms n c _ h1 ih =>
    have e : insP (ns ++ [n]) = insP ns := by unfold insP; rw [List.filter_append]; simp [h1]
    rw [e]; exact ih
open Classical in
theorem lp_run {fs : Nat → Option Nat} {ns : List PN} {nds : List Nd} {rs : List Rec} {cms : List (Nat × List ByteArray)} (h : Mt fs ns nds rs cms) :
    (lpRun ns = none → ltRun nds = none) ∧ ∀ s, lpRun ns = some s → ∃ t, ltRun nds = some ⟨t, s.pend⟩ ∧ s.n = rs.length ∧ (∀ x, t x = (s.t x).bind fun i => (rs.map (·.b))[i]?) ∧ ∀ x i, s.t x = some i → i < rs.length := by
  have hsnoc : ∀ (l : List Nd) (nd : Nd), ltRun (l ++ [nd]) = (ltRun l).bind fun s => ltStep s nd := by
    intro l nd
    unfold ltRun
    rw [List.foldlM_append]
    cases List.foldlM ltStep ⟨fun _ => none, []⟩ l <;> simp
  induction h with
  | nil => exact ⟨fun h => (by cases h), fun s h => by injection h with h; subst h; exact ⟨fun _ => none, rfl, rfl, fun _ => rfl, fun x i h => (by cases h)⟩⟩
  | @ins ns nds rs cms n r hM h1 h2 ih =>
    rw [lpRun_snoc, hsnoc]
    cases hl : lpRun ns with
    | none => rw [ih.1 hl]; exact ⟨fun _ => rfl, fun s h => (by cases h)⟩
    | some s0 =>
      obtain ⟨t, g1, g2, g3, g4⟩ := ih.2 s0 hl
      rw [g1]
      simp only [Option.bind_some, lpStep, if_pos h1, ltStep]
      refine ⟨fun h => (by cases h), fun s h => ?_⟩
      injection h with h
      subst h
      refine ⟨_, rfl, by simp [g2], fun x => ?_, fun x i hx => ?_⟩
      · show settle s0.pend r.b t x = (if x ∈ s0.pend then some s0.n else s0.t x).bind fun i => ((rs ++ [r]).map (·.b))[i]?
        unfold settle
        by_cases hx : x ∈ s0.pend
        · rw [if_pos hx, if_pos hx, g2]; simp
        · rw [if_neg hx, if_neg hx, g3]
          cases hs : s0.t x with
          | none => rfl
          | some i =>
            simp only [Option.bind_some]
            rw [List.map_append, List.getElem?_append_left (by rw [List.length_map]; exact g4 x i hs)]
      · simp only at hx
        split at hx
        · injection hx with hx; rw [List.length_append, ← hx, g2]; simp
        · have := g4 x i hx; rw [List.length_append]; omega
  | @label ns nds rs cms n hM h1 ih =>
    rw [lpRun_snoc, hsnoc]
    cases hl : lpRun ns with
    | none => rw [ih.1 hl]; exact ⟨fun _ => rfl, fun s h => (by cases h)⟩
    | some s0 =>
      obtain ⟨t, g1, g2, g3, g4⟩ := ih.2 s0 hl
      rw [g1]
      have hk : ¬ n.kind = 1 := by omega
      have hs : (t n.label).isSome = (s0.t n.label).isSome := by
        rw [g3]
        cases hx : s0.t n.label with
        | none => rfl
        | some i =>
          have := g4 _ i hx
          simp only [Option.bind_some, Option.isSome_some]
          rw [List.getElem?_eq_getElem (by rw [List.length_map]; exact this)]; rfl
      simp only [Option.bind_some, lpStep, if_neg hk, if_pos h1, ltStep, hs]
      split
      · exact ⟨fun _ => rfl, fun s h => (by cases h)⟩
      · refine ⟨fun h => (by cases h), fun s h => ?_⟩
        injection h with h
        subst h
        exact ⟨t, rfl, g2, g3, g4⟩
  | @comment ns nds rs cms n c hM h1 ih =>
    rw [lpRun_snoc, hsnoc]
    cases hl : lpRun ns with
    | none => rw [ih.1 hl]; exact ⟨fun _ => rfl, fun s h => (by cases h)⟩
    | some s0 =>
      obtain ⟨t, g1, g2, g3, g4⟩ := ih.2 s0 hl
      rw [g1]
      have hk : ¬ n.kind = 1 := by omega
      have hk2 : ¬ n.kind = 2 := by omega
      simp only [Option.bind_some, lpStep, if_neg hk, if_neg hk2, ltStep]
      refine ⟨fun h => (by cases h), fun s h => ?_⟩
      injection h with h
      subst h
      exact ⟨t, rfl, g2, g3, g4⟩
def targetP (ops : List PO) : Option ByteArray :=
  match ops with
  | p :: _ => if p.kind = 4 then some p.label else none
  | [] => none
def succP (t : ByteArray → Option Nat) (n k : Nat) (p : PI) : Option (List (Option Nat)) :=
  (if p.br then (targetP p.ops).bind fun s => (t s).map fun b => [some b] else some []).map fun l => l ++ (if p.term || (p.br && !p.cond) then [] else [if k + 1 < n then some (k + 1) else none])
theorem target_plain {fs : Nat → Option Nat} {ps : List PO} {os : List O} (h : pOps fs ps = some os) : targetOf true os = targetP ps := by
  cases ps with
  | nil => simp only [pOps, Option.some.injEq] at h; subst h; rfl
  | cons p ps =>
    simp only [pOps] at h
    obtain ⟨o, e1, e2⟩ := Option.bind_eq_some_iff.1 h
    obtain ⟨os', _, rfl⟩ := Option.map_eq_some_iff.1 e2
    unfold opOf at e1
    split at e1
    · rename_i h1
      obtain ⟨r, _, rfl⟩ := Option.map_eq_some_iff.1 e1
      simp [targetOf, targetP, h1]
    split at e1
    · rename_i h1
      obtain ⟨r, _, rfl⟩ := Option.map_eq_some_iff.1 e1
      simp [targetOf, targetP, h1]
    split at e1
    · rename_i h1
      obtain ⟨r, _, rfl⟩ := Option.map_eq_some_iff.1 e1
      simp [targetOf, targetP, h1]
    split at e1
    · rename_i h1
      injection e1 with e1; subst e1
      simp [targetOf, targetP, h1]
    split at e1
    · rename_i h1
      injection e1 with e1; subst e1
      simp [targetOf, targetP, h1]
    · cases e1
def blk (bs : List Nat) (o : Option Nat) : Option Nat := o.bind fun i => bs[i]?
theorem succ_plain {fs : Nat → Option Nat} {p : PI} {r : Rec} (h : RMatch fs p r) {t : ByteArray → Option Nat} {tI : ByteArray → Option Nat} {bs : List Nat} (ht : ∀ x, t x = (tI x).bind fun i => bs[i]?) (hlt : ∀ x i, tI x = some i → i < bs.length) (k : Nat) :
    succK t bs k r.i r.ops = (succP tI bs.length k p).map fun l => l.map (blk bs) := by
  unfold succK succP
  rw [target_plain h.ops, h.br, h.term, h.cond]
  have hn : ([bs[k + 1]?] : List (Option Nat)) = [if k + 1 < bs.length then some (k + 1) else none].map (blk bs) := by
    simp only [List.map_cons, List.map_nil, blk]
    split
    · rfl
    · rename_i hh; rw [List.getElem?_eq_none (by omega)]; rfl
  have hx : (if p.br = true then (targetP p.ops).bind fun s => (t s).map fun b => [some b] else some []) = ((if p.br = true then (targetP p.ops).bind fun s => (tI s).map fun b => [some b] else some []).map fun l => l.map (blk bs)) := by
    split
    · cases targetP p.ops with
      | none => rfl
      | some s =>
        simp only [Option.bind_some, ht]
        cases hi : tI s with
        | none => rfl
        | some i =>
          have := hlt s i hi
          simp [blk, List.getElem?_eq_getElem this]
    · rfl
  rw [hx]
  cases (if p.br = true then (targetP p.ops).bind fun s => (tI s).map fun b => [some b] else some []) with
  | none => rfl
  | some l =>
    simp only [Option.map_some, List.map_append]
    congr 2
    split
    · rfl
    · exact hn
def ofGs (gs : List G) : Nat → Nat := gs.foldl (fun F g => orM F g.id g.spec) (fun _ => 0)
theorem ofRegs_plain (rs : List R) : ofRegs rs = ofGs (rs.map R.plain) := by
  unfold ofRegs ofGs
  rw [List.foldl_map]
  rfl
def useP (is : List PI) (k : Nat) : Nat → Nat := match is[k]? with
  | some p => ofGs (inGs p.canc p.inp p.out)
  | none => fun _ => 0
def defP (is : List PI) (k : Nat) : Nat → Nat := match is[k]? with
  | some p => ofGs (outGs p.out)
  | none => fun _ => 0
def flowP (is : List PI) (sc : Nat → List (Option Nat)) : Flow :=
  { n := is.length, use := useP is, df := defP is, next := fun k s => some s ∈ sc k, U := is.flatMap fun p => (inGs p.canc p.inp p.out).map G.id }
structure PI.Ok (p : PI) : Prop where
  ops : ∀ q ∈ p.ops, q.Ok
  inp : ∀ q ∈ p.inp, q.Ok
  out : ∀ q ∈ p.out, q.Ok
theorem RMatch.regs {w : World} {wb : Nat} {fs : Nat → Option Nat} (hW : WAt w wb fs) {p : PI} {r : Rec} (h : RMatch fs p r) (hp : p.Ok) : (regsOf r.ops).map R.plain = gsOf p.ops ∧ (outRegs r.out).map R.plain = outGs p.out ∧ (regsOf r.inp).map R.plain = gsOf p.inp ∧ (inRegs r.i.canc r.inp r.out).map R.plain = inGs p.canc p.inp p.out := by
  refine ⟨(pOps_regs hW hp.ops h.ops).1, (pOps_regs hW hp.out h.out).2.1, (pOps_regs hW hp.inp h.inp).1, ?_⟩
  rw [h.canc]
  exact inRegs_plain hW _ hp.inp hp.out h.inp h.out
theorem map_flat {α β γ : Type} {f : α → List γ} {g : β → List γ} : ∀ {l : List α} {m : List β}, l.length = m.length → (∀ (k : Nat) (a : α) (b : β), l[k]? = some a → m[k]? = some b → f a = g b) → l.flatMap f = m.flatMap g
  | [], [], _, _ => rfl
  | [], _ :: _, h, _ => by simp at h
  | _ :: _, [], h, _ => by simp at h
  | a :: l, b :: m, h, hk => by
    rw [List.flatMap_cons, List.flatMap_cons, hk 0 a b rfl rfl, map_flat (by simpa using h) fun k x y h1 h2 => hk (k + 1) x y h1 h2]
theorem flow_plain {w : World} {wb : Nat} {fs : Nat → Option Nat} (hW : WAt w wb fs) {ns : List PN} {nds : List Nd} {rs : List Rec} {cms : List (Nat × List ByteArray)} (hM : Mt fs ns nds rs cms) (hp : ∀ p ∈ insP ns, p.Ok) (hinj : ∀ (j k : Nat) (a b : Rec), rs[j]? = some a → rs[k]? = some b → a.b = b.b → j = k)
    {sc scP : Nat → List (Option Nat)} (hsc : ∀ k, k < rs.length → sc k = (scP k).map (blk (rs.map (·.b)))) :
    (flowOf rs sc).n = (flowP (insP ns) scP).n ∧ (flowOf rs sc).use = (flowP (insP ns) scP).use ∧ (flowOf rs sc).df = (flowP (insP ns) scP).df ∧ (flowOf rs sc).U = (flowP (insP ns) scP).U ∧ ∀ i s, (flowOf rs sc).succ i s ↔ (flowP (insP ns) scP).succ i s := by
  obtain ⟨hl, hr⟩ := hM.match_
  have hat : ∀ (k : Nat) (r : Rec), rs[k]? = some r → ∃ p, (insP ns)[k]? = some p ∧ RMatch fs p r ∧ p.Ok := fun k r hk => by
    have hlt : k < (insP ns).length := by rw [hl]; exact (List.getElem?_eq_some_iff.1 hk).1
    exact ⟨_, List.getElem?_eq_getElem hlt, hr k _ r (List.getElem?_eq_getElem hlt) hk, hp _ (List.getElem_mem hlt)⟩
  have hno : ∀ k, rs[k]? = none → (insP ns)[k]? = none := fun k hk => by
    rw [List.getElem?_eq_none_iff] at hk ⊢; omega
  refine ⟨hl.symm, ?_, ?_, ?_, fun i s => ?_⟩
  · funext k
    show useOf rs k = useP (insP ns) k
    unfold useOf useP
    cases hk : rs[k]? with
    | none => rw [hno k hk]
    | some r =>
      obtain ⟨p, h1, h2, h3⟩ := hat k r hk
      rw [h1]
      show ofRegs (inRegs r.i.canc r.inp r.out) = ofGs (inGs p.canc p.inp p.out)
      rw [ofRegs_plain, (h2.regs hW h3).2.2.2]
  · funext k
    show defOf rs k = defP (insP ns) k
    unfold defOf defP
    cases hk : rs[k]? with
    | none => rw [hno k hk]
    | some r =>
      obtain ⟨p, h1, h2, h3⟩ := hat k r hk
      rw [h1]
      show ofRegs (outRegs r.out) = ofGs (outGs p.out)
      rw [ofRegs_plain, (h2.regs hW h3).2.1]
  · show (rs.flatMap fun r => (inRegs r.i.canc r.inp r.out).map R.id) = (insP ns).flatMap fun p => (inGs p.canc p.inp p.out).map G.id
    refine map_flat hl.symm fun k r p h1 h2 => ?_
    rw [← ((hr k p r h2 h1).regs hW (hp p (List.mem_of_getElem? h2))).2.2.2, List.map_map]
    rfl
  · unfold Flow.succ
    show i < rs.length ∧ s < rs.length ∧ (∃ r, rs[s]? = some r ∧ some r.b ∈ sc i) ↔ i < (insP ns).length ∧ s < (insP ns).length ∧ some s ∈ scP i
    rw [hl]
    constructor
    · rintro ⟨h1, h2, r, h3, h4⟩
      refine ⟨h1, h2, ?_⟩
      rw [hsc i h1] at h4
      obtain ⟨o, ho, hb⟩ := List.mem_map.1 h4
      unfold blk at hb
      obtain ⟨j, rfl, hj⟩ := Option.bind_eq_some_iff.1 hb
      rw [List.getElem?_map] at hj
      obtain ⟨r', hr', hb'⟩ := Option.map_eq_some_iff.1 hj
      rw [hinj s j r r' h3 hr' hb'.symm]
      exact ho
    · rintro ⟨h1, h2, h3⟩
      refine ⟨h1, h2, rs[s], List.getElem?_eq_getElem h2, ?_⟩
      rw [hsc i h1]
      refine List.mem_map.2 ⟨some s, h3, ?_⟩
      simp [blk, List.getElem?_eq_getElem h2]
end
section
open Go Go.RowKit Bth
set_option maxRecDepth 100000
theorem set_all : ∀ (l pre rest : List Value) (arr : Array Value), arr = (pre ++ rest).toArray → rest.length = l.length → (l.zipIdx pre.length).foldl (fun (cs : Array Value) (p : Value × Nat) => cs.setIfInBounds (0 + p.2) p.1) arr = (pre ++ l).toArray
  | [], pre, rest, arr, h, hl => by
    have : rest = [] := List.eq_nil_of_length_eq_zero (by simpa using hl)
    subst this h
    rfl
  | c :: l, pre, [], arr, h, hl => by simp at hl
  | c :: l, pre, r :: rest, arr, h, hl => by
    rw [List.zipIdx_cons, List.foldl_cons]
    have h1 := set_all l (pre ++ [c]) rest (arr.setIfInBounds (0 + pre.length) c) (by subst h; simp) (by simpa using hl)
    rw [List.length_append, List.length_singleton] at h1
    rw [h1]
    simp
theorem fill_one {size : Nat} (zs : Array Value) (l : List Value) (hz : zs.size = size) (hl : l.length = size) : Instr.fill (fun i => some (i * size, size)) zs [(0, .agg l.toArray)] = some l.toArray := by
  have hc : (Value.agg l.toArray).cells = l.toArray := rfl
  unfold Instr.fill
  simp only [Nat.zero_mul, hc]
  rw [if_neg (by simp; omega)]
  unfold Instr.fill
  have h := set_all l [] zs.toList zs (by simp) (by simp; omega)
  simp only [List.nil_append, List.length_nil] at h
  refine congrArg some (Eq.trans ?_ h)
  rw [← Array.foldl_toList]
  simp
theorem wpList_build1 {P : Program} {ops : Array Oper} {rest : List Oper} {o : Oper} {a : Act} {w : World} {Q : Exit → Act → World → Prop} (hg : o.guard = none) {t e : TypeId} {x : Operand} (ho : o.op = .buildSlice t 1 #[(0, x)])
    {l : List Value} {z : Value} {size bytes : Nat} (hx : a.eval x = .agg l.toArray) (hu : P.underlying t = some (.slice e)) (hinfo : (P.info? e).map (fun i => (i.zero, i.size, i.bytes)) = some (some z, size, bytes)) (hl : l.length = size) (hpos : 0 < size) (hsm : size ≤ 2 ^ 24)
    (h : wpList P ops Q rest (a.put o.dst (.slice (some ⟨w.heap.size, 0, none⟩) 1 1)) (w.alloc (.cells l.toArray e))) : wpList P ops Q (o :: rest) a w := by
  obtain ⟨ie, hi, hzz⟩ := Option.map_eq_some_iff.1 hinfo
  simp only [Prod.mk.injEq] at hzz
  obtain ⟨h1, h2, h3⟩ := hzz
  refine wpList_buildSlice hg t e 1 _ ho l.toArray ie z hu hi h1 (by omega) (by omega) ?_ h
  have := fill_one ((Array.range (1 * ie.size)).map (z.cells[· % z.cells.size]!)) l (size := ie.size) (by simp) (by omega)
  simpa [hx] using this
end
end Go.Proofs.YtbaihlfnbdifgaaGreat
