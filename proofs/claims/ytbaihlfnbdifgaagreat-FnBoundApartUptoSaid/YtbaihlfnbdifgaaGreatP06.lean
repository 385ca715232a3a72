/- Part of the proof of boundApart_upto. -/
import Derived.Test.YtbaihlfnbdifgaaGreatP02
import Derived.Test.YtbaihlfnbdifgaaGreatP05
namespace Bth
section
def isV (id : Nat) : Bool := id % 2 == 1
def lk (f : Nat → Option Nat) (id : Nat) : Nat := (f id).getD id
def setA (f : Nat → Option Nat) (v p : Nat) : Nat → Option Nat := fun x => if x = v then some p else f x
def ap (al : Nat → Option Nat) (e : Nat × Nat) (v r : Nat) : Bool := (e.1 != v || lk al e.2 != r) && (e.2 != v || lk al e.1 != r)
def strike (al : Nat → Option Nat) (edges : List (Nat × Nat)) (v : Nat) (l : List Nat) : List Nat := l.filter fun r => edges.all fun e => ap al e v r
def clash (edges : List (Nat × Nat)) (al : Nat → Option Nat) : Bool := edges.any fun e => lk al e.1 == lk al e.2 && !isV (lk al e.1)
def pick (score : Nat → Nat) : List Nat → Nat
  | [] => 0
  | v :: l => l.foldl (fun m w => if score w < score m || (score w == score m && w < m) then w else m) v
def color (regs : List Nat) (edges : List (Nat × Nat)) : Nat → List Nat → (Nat → Option Nat) → Option (Nat → Option Nat)
  | 0, _, _ => none
  | n + 1, rem, al =>
    if clash edges al then none else
    if rem.isEmpty then some al else
    let v := pick (fun w => (strike al edges w regs).length) rem
    match strike al edges v regs with
    | [] => none
    | p :: _ => color regs edges n (rem.erase v) (setA al v p)
theorem lk_set (v p : Nat) (al : Nat → Option Nat) (id : Nat) : lk (setA al v p) id = if id = v then p else lk al id := by
  unfold lk setA
  split <;> rfl
def Least (score : Nat → Nat) (l : List Nat) (v : Nat) : Prop := v ∈ l ∧ ∀ w ∈ l, score v < score w ∨ (score v = score w ∧ v ≤ w)
theorem Least.eq {score : Nat → Nat} {l : List Nat} {a b : Nat} (h : Least score l a) (k : Least score l b) : a = b := by
  have h1 := h.2 b k.1
  have h2 := k.2 a h.1
  omega
theorem pick_least (score : Nat → Nat) (v : Nat) (l : List Nat) : Least score (v :: l) (pick score (v :: l)) := by
  have h : ∀ (l : List Nat) (m : Nat), Least score (m :: l) (l.foldl (fun m w => if score w < score m || (score w == score m && w < m) then w else m) m) := by
    intro l
    induction l with
    | nil => intro m; exact ⟨by simp, fun w hw => .inr (by simp at hw; subst hw; exact ⟨rfl, Nat.le_refl _⟩)⟩
    | cons w l ih =>
      intro m
      simp only [List.foldl_cons]
      obtain ⟨h1, h2⟩ := ih (if score w < score m || (score w == score m && w < m) then w else m)
      generalize hx : (if score w < score m || (score w == score m && w < m) then w else m) = x at h1 h2 ⊢
      have hxm : (x = w ∨ x = m) ∧ (score x < score m ∨ score x = score m ∧ x ≤ m) ∧ (score x < score w ∨ score x = score w ∧ x ≤ w) := by
        subst hx
        split
        · rename_i hc
          simp only [Bool.or_eq_true, Bool.and_eq_true, decide_eq_true_eq, beq_iff_eq] at hc
          exact ⟨.inl rfl, by omega, .inr ⟨rfl, Nat.le_refl _⟩⟩
        · rename_i hc
          simp only [Bool.or_eq_true, Bool.and_eq_true, decide_eq_true_eq, beq_iff_eq] at hc
          exact ⟨.inr rfl, .inr ⟨rfl, Nat.le_refl _⟩, by omega⟩
      generalize hy : l.foldl _ x = y at h1 h2 ⊢
      have hxy := h2 x (by simp)
      refine ⟨?_, fun z hz => ?_⟩
      · rcases List.mem_cons.1 h1 with h | h
        · rw [h]; rcases hxm.1 with h | h <;> rw [h] <;> simp
        · exact List.mem_cons_of_mem _ (List.mem_cons_of_mem _ h)
      · rcases List.mem_cons.1 hz with rfl | hz
        · omega
        · rcases List.mem_cons.1 hz with rfl | hz
          · omega
          · exact h2 z (List.mem_cons_of_mem _ hz)
  exact h l v
theorem pick_mem (score : Nat → Nat) {l : List Nat} (h : l ≠ []) : pick score l ∈ l := by
  cases l with
  | nil => exact absurd rfl h
  | cons v l => exact (pick_least score v l).1
theorem Least.pick {score : Nat → Nat} {l : List Nat} {v : Nat} (h : Least score l v) : pick score l = v := by
  cases l with
  | nil => cases h.1
  | cons a l => exact (pick_least score a l).eq h
theorem Least.congr {score score' : Nat → Nat} {l l' : List Nat} {v : Nat} (h : Least score l v) (hs : ∀ w ∈ l, score w = score' w) (hl : ∀ w, w ∈ l' ↔ w ∈ l) : Least score' l' v :=
  ⟨(hl v).2 h.1, fun w hw => by rw [← hs v h.1, ← hs w ((hl w).1 hw)]; exact h.2 w ((hl w).1 hw)⟩
theorem clash_iff {edges : List (Nat × Nat)} {al : Nat → Option Nat} : clash edges al = false ↔ ∀ e ∈ edges, lk al e.1 = lk al e.2 → isV (lk al e.1) = true := by
  unfold clash
  rw [List.any_eq_false]
  constructor
  · intro h e he heq
    have := h e he
    simp [heq] at this
    rw [heq]; simpa using this
  · intro h e he
    simp only [Bool.and_eq_true, beq_iff_eq, Bool.not_eq_true', not_and, Bool.not_eq_false]
    exact h e he
theorem ap_iff {al : Nat → Option Nat} {e : Nat × Nat} {v r : Nat} : ap al e v r = true ↔ (e.1 = v → lk al e.2 ≠ r) ∧ (e.2 = v → lk al e.1 ≠ r) := by
  unfold ap
  simp only [Bool.and_eq_true, Bool.or_eq_true, bne_iff_ne, ne_eq]
  constructor
  · exact fun h => ⟨fun h1 => h.1.resolve_left (fun hh => hh h1), fun h1 => h.2.resolve_left (fun hh => hh h1)⟩
  · intro h
    constructor
    · by_cases h1 : e.1 = v
      · exact .inr (h.1 h1)
      · exact .inl h1
    · by_cases h1 : e.2 = v
      · exact .inr (h.2 h1)
      · exact .inl h1
theorem mem_strike {regs : List Nat} {edges : List (Nat × Nat)} {al : Nat → Option Nat} {v r : Nat} : r ∈ strike al edges v regs ↔ r ∈ regs ∧ ∀ e ∈ edges, (e.1 = v → lk al e.2 ≠ r) ∧ (e.2 = v → lk al e.1 ≠ r) := by
  unfold strike
  rw [List.mem_filter, List.all_eq_true]
  simp only [ap_iff]
theorem color_spec {regs : List Nat} {edges : List (Nat × Nat)} : ∀ (n : Nat) (rem : List Nat) (al al' : Nat → Option Nat), rem.Nodup → color regs edges n rem al = some al' →
    clash edges al' = false ∧ (∀ id, id ∉ rem → al' id = al id) ∧ (∀ v ∈ rem, ∃ p, al' v = some p ∧ p ∈ regs) := by
  intro n
  induction n with
  | zero => intro rem al al' _ h; simp [color] at h
  | succ n ih =>
    intro rem al al' hd h
    unfold color at h
    split at h
    · simp at h
    rename_i hc
    split at h
    · rename_i he
      have hr : rem = [] := by simpa using he
      subst hr
      simp only [Option.some.injEq] at h
      subst h
      exact ⟨by simpa using hc, fun _ _ => rfl, by simp⟩
    · rename_i he
      have hne : rem ≠ [] := by simpa using he
      simp only at h
      generalize hv : pick (fun w => (strike al edges w regs).length) rem = v at h
      have hmem : v ∈ rem := by rw [← hv]; exact pick_mem _ hne
      split at h
      · simp at h
      rename_i p q hf
      have hp : p ∈ regs := by
        have : p ∈ strike al edges v regs := by rw [hf]; simp
        exact (mem_strike.1 this).1
      obtain ⟨h1, h2, h3⟩ := ih _ _ _ (hd.erase v) h
      refine ⟨h1, fun id hid => ?_, fun w hw => ?_⟩
      · rw [h2 id (fun hm => hid (List.mem_of_mem_erase hm))]
        have : id ≠ v := fun e => hid (e ▸ hmem)
        unfold setA
        rw [if_neg this]
      · by_cases e : w = v
        · subst e
          refine ⟨p, ?_, hp⟩
          rw [h2 w (fun hm => ((List.Nodup.mem_erase_iff hd).1 hm).1 rfl)]
          unfold setA
          rw [if_pos rfl]
        · exact h3 w ((List.Nodup.mem_erase_iff hd).2 ⟨e, hw⟩)
theorem length_filter_ne (l : List Nat) (hd : l.Nodup) (x : Nat) : l.length ≤ (l.filter fun r => x != r).length + 1 := by
  induction l with
  | nil => simp
  | cons a l ih =>
    have hd' := (List.nodup_cons.1 hd)
    have := ih hd'.2
    by_cases h : x = a
    · subst h
      have e : (l.filter fun r => x != r) = l := List.filter_eq_self.2 fun r hr => by simp; rintro rfl; exact hd'.1 hr
      simp [e]
    · simp [h]; omega
theorem length_strike (xs : List Nat) : ∀ (l : List Nat), l.Nodup → l.length ≤ (l.filter fun r => xs.all fun x => x != r).length + xs.length := by
  induction xs with
  | nil => intro l _; rw [show (l.filter fun r => ([] : List Nat).all fun x => x != r) = l from List.filter_eq_self.2 fun _ _ => rfl]; simp
  | cons x xs ih =>
    intro l hd
    have h1 := length_filter_ne l hd x
    have h2 := ih (l.filter fun r => x != r) (hd.filter _)
    have e : (l.filter fun r => (x :: xs).all fun x => x != r) = (l.filter fun r => x != r).filter fun r => xs.all fun x => x != r := by
      rw [List.filter_filter]
      congr 1; funext r; simp [Bool.and_comm]
    rw [e]; simp only [List.length_cons]; omega
theorem color_easy {regs : List Nat} {edges : List (Nat × Nat)} (hr : regs.Nodup) (ns : Nat → List Nat)
    (hns : ∀ e ∈ edges, e.2 ∈ ns e.1 ∧ e.1 ∈ ns e.2) (hself : ∀ e ∈ edges, e.1 ≠ e.2) :
    ∀ (n : Nat) (rem : List Nat) (al : Nat → Option Nat), rem.Nodup → rem.length < n → (∀ v ∈ rem, (ns v).length < regs.length) → clash edges al = false →
      ∃ al', color regs edges n rem al = some al' := by
  intro n
  induction n with
  | zero => intro rem al _ h; omega
  | succ n ih =>
    intro rem al hd hl hv hc
    unfold color
    rw [if_neg (by simp [hc])]
    by_cases he : rem = []
    · subst he; exact ⟨al, by simp⟩
    rw [if_neg (by simpa using he)]
    simp only
    generalize hpk : pick (fun w => (strike al edges w regs).length) rem = v
    have hmem : v ∈ rem := by rw [← hpk]; exact pick_mem _ he
    have hlen := hv v hmem
    have hfree : ∃ p q, strike al edges v regs = p :: q := by
      have h1 := length_strike ((ns v).map (lk al)) regs hr
      have hsub : ∀ r ∈ regs.filter (fun r => ((ns v).map (lk al)).all fun x => x != r), r ∈ strike al edges v regs := by
        intro r hr'
        obtain ⟨hr1, hr2⟩ := List.mem_filter.1 hr'
        refine mem_strike.2 ⟨hr1, fun e hE => ⟨fun h1 => ?_, fun h1 => ?_⟩⟩
        · have := List.all_eq_true.1 hr2 (lk al e.2) (List.mem_map.2 ⟨e.2, h1 ▸ (hns e hE).1, rfl⟩)
          simpa using this
        · have := List.all_eq_true.1 hr2 (lk al e.1) (List.mem_map.2 ⟨e.1, h1 ▸ (hns e hE).2, rfl⟩)
          simpa using this
      cases hf : strike al edges v regs with
      | cons p q => exact ⟨p, q, rfl⟩
      | nil =>
        rw [List.length_map] at h1
        have : (regs.filter (fun r => ((ns v).map (lk al)).all fun x => x != r)) = [] := by
          cases hz : regs.filter (fun r => ((ns v).map (lk al)).all fun x => x != r) with
          | nil => rfl
          | cons a b => have := hsub a (by rw [hz]; simp); rw [hf] at this; cases this
        rw [this] at h1; simp at h1; omega
    obtain ⟨p, q, hf⟩ := hfree
    rw [hf]
    simp only
    have hpf : p ∈ strike al edges v regs := by rw [hf]; simp
    obtain ⟨hpr, hpe⟩ := mem_strike.1 hpf
    refine ih _ _ (hd.erase v) ?_ ?_ ?_
    · rw [List.length_erase_of_mem hmem]; have := List.length_pos_of_mem hmem; omega
    · exact fun w hw => hv w (List.mem_of_mem_erase hw)
    · rw [clash_iff] at hc ⊢
      intro e hE
      simp only [lk_set]
      have hs := hself e hE
      by_cases h1 : e.1 = v
      · have h2 : e.2 ≠ v := fun h => hs (h1.trans h.symm)
        rw [if_pos h1, if_neg h2]
        intro heq
        exact absurd heq.symm ((hpe e hE).1 h1)
      · by_cases h2 : e.2 = v
        · rw [if_neg h1, if_pos h2]
          intro heq
          exact absurd heq ((hpe e hE).2 h2)
        · rw [if_neg h1, if_neg h2]
          exact hc e hE
theorem strike_congr {edges edges' : List (Nat × Nat)} (he : ∀ e, e ∈ edges' ↔ e ∈ edges) (al : Nat → Option Nat) (v : Nat) (l : List Nat) : strike al edges' v l = strike al edges v l := by
  unfold strike
  congr 1
  funext r
  rw [Bool.eq_iff_iff, List.all_eq_true, List.all_eq_true]
  exact ⟨fun h e hm => h e ((he e).2 hm), fun h e hm => h e ((he e).1 hm)⟩
theorem clash_congr {edges edges' : List (Nat × Nat)} (he : ∀ e, e ∈ edges' ↔ e ∈ edges) (al : Nat → Option Nat) : clash edges' al = clash edges al := by
  unfold clash
  rw [Bool.eq_iff_iff, List.any_eq_true, List.any_eq_true]
  exact ⟨fun ⟨e, h1, h2⟩ => ⟨e, (he e).1 h1, h2⟩, fun ⟨e, h1, h2⟩ => ⟨e, (he e).2 h1, h2⟩⟩
theorem color_congr {regs : List Nat} {edges edges' : List (Nat × Nat)} (he : ∀ e, e ∈ edges' ↔ e ∈ edges) : ∀ (n n' : Nat) (rem rem' : List Nat) (al : Nat → Option Nat), rem.Nodup → rem'.Nodup → (∀ v, v ∈ rem' ↔ v ∈ rem) → rem.length < n → rem'.length < n' →
    color regs edges' n' rem' al = color regs edges n rem al := by
  intro n
  induction n with
  | zero => intro n' rem rem' al _ _ _ h; omega
  | succ n ih =>
    intro n' rem rem' al hd hd' hr hl hl'
    obtain ⟨m, rfl⟩ : ∃ m, n' = m + 1 := ⟨n' - 1, by omega⟩
    unfold color
    rw [clash_congr he]
    split
    · rfl
    by_cases h0 : rem = []
    · have h0' : rem' = [] := by
        cases rem' with
        | nil => rfl
        | cons a b => have := (hr a).1 (by simp); rw [h0] at this; cases this
      subst h0 h0'
      simp
    · have h0' : rem' ≠ [] := by
        rintro rfl
        cases rem with
        | nil => exact h0 rfl
        | cons a b => have := (hr a).2 (by simp); cases this
      rw [if_neg (by simpa using h0'), if_neg (by simpa using h0)]
      obtain ⟨a, l, rfl⟩ : ∃ a l, rem = a :: l := by
        cases rem with
        | nil => exact absurd rfl h0
        | cons a b => exact ⟨a, b, rfl⟩
      have hL := pick_least (fun w => (strike al edges w regs).length) a l
      have hL' := (hL.congr (score' := fun w => (strike al edges' w regs).length) (fun w _ => by simp only [strike_congr he]) hr).pick
      generalize hv : pick (fun w => (strike al edges w regs).length) (a :: l) = v at hL hL' ⊢
      simp only [strike_congr he] at hL' ⊢
      rw [hL']
      split
      · rfl
      · rename_i p q hf
        have hm := hL.1
        have hm' := (hr v).2 hm
        refine ih m _ _ _ (hd.erase v) (hd'.erase v) (fun w => ?_) ?_ ?_
        · rw [List.Nodup.mem_erase_iff hd', List.Nodup.mem_erase_iff hd, hr]
        · rw [List.length_erase_of_mem hm]; have := List.length_pos_of_mem hm; omega
        · rw [List.length_erase_of_mem hm']; have := List.length_pos_of_mem hm'; omega
end
end Bth
namespace Go.Proofs.YtbaihlfnbdifgaaGreat
section
open Go Go.RowKit Go.MapKept Bth
open Go.ChangeMaps (setBlock)
set_option maxRecDepth 100000
def andn (a b : Nat) : Nat := a ^^^ (a &&& b)
theorem andn_testBit (a b i : Nat) : (andn a b).testBit i = (a.testBit i && !b.testBit i) := by
  unfold andn
  rw [Nat.testBit_xor, Nat.testBit_and]
  cases a.testBit i <;> cases b.testBit i <;> rfl
theorem andn_lt {a b : Nat} (ha : a < 65536) : andn a b < 65536 := by
  have : andn a b < 2 ^ 16 := Nat.xor_lt_two_pow ha (Nat.lt_of_le_of_lt Nat.and_le_left ha)
  exact this
theorem andn_of_zero {a b : Nat} (h : a &&& b = 0) : andn a b = a := by unfold andn; rw [h]; simp
theorem u16_andNot (a b : Nat) (ha : a < 65536) (hb : b < 65536) : bits .andNot .u16 (a : Int) (b : Int) = ((andn a b : Nat) : Int) := by
  have hx : andn a b < 65536 := andn_lt ha
  have h : (BitVec.ofInt 16 (a : Int) &&& ~~~ BitVec.ofInt 16 (b : Int)) = BitVec.ofInt 16 (a : Int) ^^^ (BitVec.ofInt 16 (a : Int) &&& BitVec.ofInt 16 (b : Int)) := by
    apply BitVec.eq_of_getLsbD_eq
    intro i hi
    simp only [BitVec.getLsbD_and, BitVec.getLsbD_not, BitVec.getLsbD_xor]
    cases (BitVec.ofInt 16 (a : Int)).getLsbD i <;> cases (BitVec.ofInt 16 (b : Int)).getLsbD i <;> simp [hi]
  show IntKind.u16.wrap ((BitVec.ofInt 16 (a : Int) &&& ~~~ BitVec.ofInt 16 (b : Int)).toNat : Int) = _
  rw [h, BitVec.toNat_xor, BitVec.toNat_and, ofInt_u16 a ha, ofInt_u16 b hb]
  exact wrap_u16 _ hx
def dropM (F : Nat → Nat) (id mask : Nat) : Nat → Nat := fun x => if x = id then andn (F x) mask else F x
theorem MaskAt.look2 {w : World} {b : Nat} {F : Nat → Nat} (h : MaskAt w b F) (k : Nat) :
    (Instr.lookup 133 (.map (some b)) (.int .u32 (k : Int)) true).run Tryz.prog w = .ok (.tuple #[.int .u16 (F k : Int), .bool (decide (F k ≠ 0))]) w := by
  obtain ⟨⟨ks, hm⟩, _⟩ := h
  have := hm.lookup idKey maskSetT (zero39 w) k true
  rw [show (Value.int .u32 (k : Int)) = idV k from rfl, this]
  unfold maskV
  by_cases h0 : F k = 0 <;> simp [h0]
theorem Discard_no (w : World) (b : Nat) (F : Nat → Nat) (id mask : Nat) (hb : MaskAt w b F) (hm : mask < 65536) (h : F id &&& mask = 0) :
    Calls Tryz.prog 110 #[.map (some b), .int .u32 (id : Int), .int .u16 (mask : Int)] w fun e w' => e = .returned (.bool false) ∧ w = w' := by
  have hl := hb.look2 id
  have ha := u16_and (F id) mask (hb.2 id) hm
  rw [h] at ha
  clear h
  by_cases h0 : F id = 0
  · rw [show decide (F id ≠ 0) = false by simp [h0]] at hl
    clear h0
    go_enter Tryz.func110, Tryz.ntmps110
    go_wp2
    go_ret
    exact ⟨rfl, rfl⟩
  · rw [show decide (F id ≠ 0) = true by simp [h0]] at hl
    clear h0
    go_enter Tryz.func110, Tryz.ntmps110
    go_wp2
    go_ret
    exact ⟨rfl, rfl⟩
theorem Discard_yes (w : World) (b : Nat) (F : Nat → Nat) (id mask : Nat) (hb : MaskAt w b F) (hm : mask < 65536) (h : F id &&& mask ≠ 0) :
    Calls Tryz.prog 110 #[.map (some b), .int .u32 (id : Int), .int .u16 (mask : Int)] w fun e w' => e = .returned (.bool true) ∧ MaskAt w' b (dropM F id mask) ∧ Fr (fun x => x = b) w w' := by
  have hl := hb.look2 id
  have hl0 := hb.look id
  have ha := u16_and (F id) mask (hb.2 id) hm
  have hn := u16_andNot (F id) mask (hb.2 id) hm
  have ht : (((F id &&& mask : Nat) : Int) == 0) = false := by rw [beq_eq_false_iff_ne]; omega
  have h0 : F id ≠ 0 := by rintro e; rw [e] at h; simp at h
  rw [show decide (F id ≠ 0) = true by simp [h0]] at hl
  clear h h0
  by_cases hz : andn (F id) mask = 0
  · obtain ⟨⟨ks, hM⟩, hF⟩ := hb
    obtain ⟨es, clock, hu, hM1⟩ := hM.update idKey maskSetT id (.int .u16 0)
    have hl1 := hM1.lookup idKey maskSetT (zero39 _) id false
    obtain ⟨es2, clock2, hd, hM2⟩ := hM1.delete idKey maskSetT id 0
    simp only [updM, if_true, Option.getD_some, Bool.false_eq_true, if_false] at hl1
    have hf : Fr (fun x => x = b) w (setBlock (setBlock w b (.map es clock)) b (.map es2 clock2)) := ((Fr.refl (fun x => x = b) w).setBlock (.inl rfl) _).setBlock (.inl rfl) _
    have hfin : MaskAt (setBlock (setBlock w b (.map es clock)) b (.map es2 clock2)) b (dropM F id mask) := by
      refine ⟨⟨(if id ∈ ks then ks else ks ++ [id]).erase id, ?_⟩, fun k => ?_⟩
      · have e : (fun k => maskV (dropM F id mask k)) = updM (updM (fun k => maskV (F k)) id (some (.int .u16 0))) id none := by
          funext x
          unfold updM dropM
          by_cases hx : x = id
          · subst hx; simp [hz, maskV]
          · simp [hx]
        rw [e]; exact hM2
      · unfold dropM
        split
        · exact andn_lt (hF k)
        · exact hF k
    rw [hz] at hn
    unfold idV at hu hd hl1
    clear hz hM hM1 hM2 hF
    go_enter Tryz.func110, Tryz.ntmps110
    go_wp2
    go_ret
    exact ⟨rfl, hfin, hf⟩
  · obtain ⟨w1, hu, hM, hf, hs⟩ := hb.put id (andn (F id) mask) (andn_lt (hb.2 id)) hz
    have hl1 := hM.look id
    simp only [if_true] at hl1
    have hM' := Lib.hid hM
    have hz' : (((andn (F id) mask : Nat) : Int) == 0) = false := by rw [beq_eq_false_iff_ne]; omega
    clear hM hs hz
    go_enter Tryz.func110, Tryz.ntmps110
    go_wp2
    go_ret
    refine ⟨rfl, ?_, hf⟩
    have e : dropM F id mask = fun x => if x = id then andn (F id) mask else F x := by funext x; unfold dropM; split <;> simp_all
    rw [e]; exact hM'.out
theorem Discard_calls (w : World) (b : Nat) (F : Nat → Nat) (id mask : Nat) (hb : MaskAt w b F) (hm : mask < 65536) :
    Calls Tryz.prog 110 #[.map (some b), .int .u32 (id : Int), .int .u16 (mask : Int)] w fun e w' => e = .returned (.bool (decide (F id &&& mask ≠ 0))) ∧ MaskAt w' b (dropM F id mask) ∧ Fr (fun x => x = b) w w' := by
  by_cases h : F id &&& mask = 0
  · refine (Discard_no w b F id mask hb hm h).mono ?_
    rintro e w' ⟨rfl, rfl⟩
    have e1 : dropM F id mask = F := by
      funext x
      unfold dropM
      split
      · rename_i hx; subst hx; exact andn_of_zero h
      · rfl
    exact ⟨by simp [h], by rw [e1]; exact hb, Fr.refl _ _⟩
  · refine (Discard_yes w b F id mask hb hm h).mono ?_
    rintro e w' ⟨rfl, h1, h2⟩
    exact ⟨by simp [h], h1, h2⟩
theorem DiscardRegister_calls (w : World) (b : Nat) (F : Nat → Nat) (r : R) (hb : MaskAt w b F) (ok : r.Ok) (hat : r.At w) :
    Calls Tryz.prog 73 #[.map (some b), r.val] w fun e w' => (∃ ch : Bool, e = .returned (.bool ch)) ∧ MaskAt w' b (dropM F r.id r.spec) ∧ Fr (fun x => x = b) w w' := by
  have hbl := hb.lt
  go_enter Tryz.func73, Tryz.ntmps73
  go_wp2_with (first
    | (refine wpList_ID rfl rfl rfl ok hat ?_; intro w1 hf1)
    | (refine wpList_Mask rfl rfl rfl ?_; intro w2 hf2)
    | (go_at_call 110; refine (Discard_calls _ b F r.id r.spec ?_ ok.spec).mono ?_; exact (hb.fr hf1 (fun x => x)).fr hf2 (fun x => x); rintro e w3 ⟨rfl, hM, hf3⟩))
  go_ret
  exact ⟨⟨_, rfl⟩, hM, (hf1.then hf2).of_nope.then hf3⟩
def StepInv (F : Nat → Nat) (g : Nat → Nat → Nat) (F1 : Nat → Nat) (todo : List Nat) : Prop := todo.Nodup ∧ ∀ k, F1 k = if k ∈ todo then F k else g k (F k)
theorem StepInv.start {F : Nat → Nat} {g : Nat → Nat → Nat} {ks : List Nat} (hn : ks.Nodup) (h : ∀ k, k ∉ ks → g k (F k) = F k) : StepInv F g F ks := by
  refine ⟨hn, fun k => ?_⟩
  by_cases hk : k ∈ ks
  · rw [if_pos hk]
  · rw [if_neg hk, h k hk]
theorem StepInv.turn {F : Nat → Nat} {g : Nat → Nat → Nat} {F1 F2 : Nat → Nat} {todo : List Nat} (h : StepInv F g F1 todo) {k : Nat} (hk : k ∈ todo) (h2 : ∀ x, F2 x = if x = k then g k (F1 k) else F1 x) : StepInv F g F2 (todo.erase k) := by
  obtain ⟨hn, h1⟩ := h
  refine ⟨hn.erase k, fun x => ?_⟩
  rw [h2]
  by_cases e : x = k
  · subst e
    rw [if_pos rfl, h1, if_pos hk, if_neg (fun hm => ((List.Nodup.mem_erase_iff hn).1 hm).1 rfl)]
  · rw [if_neg e, h1]
    have : x ∈ todo.erase k ↔ x ∈ todo := by rw [List.Nodup.mem_erase_iff hn]; exact ⟨fun h => h.2, fun h => ⟨e, h⟩⟩
    simp only [this]
theorem StepInv.done {F : Nat → Nat} {g : Nat → Nat → Nat} {F1 : Nat → Nat} (h : StepInv F g F1 []) : F1 = fun k => g k (F k) := by funext k; rw [h.2]; simp
set_option maxHeartbeats 1000000 in
theorem DifferenceUpdate_calls (w : World) (b : Nat) (F : Nat → Nat) (bo : Option Nat) (G : Nat → Nat) (hb : MaskAt w b F) (ho : MaskO w bo G) (hne : bo ≠ some b) :
    Calls Tryz.prog 98 #[.map (some b), .map bo] w fun e w' => (∃ ch : Bool, e = .returned (.bool ch)) ∧ MaskAt w' b (fun k => andn (F k) (G k)) ∧ Fr (fun x => x = b) w w' := by
  obtain ⟨⟨ks, hO⟩, hG⟩ := ho
  have hks : ∀ k, k ∉ ks → andn (F k) (G k) = F k := fun k hk => by
    have : G k = 0 := Classical.byContradiction fun h => hk ((hO.mem_iff.trans maskV_ne).2 h)
    rw [this]; exact andn_of_zero (by simp)
  have hI0 := StepInv.start (F := F) (g := fun k x => andn x (G k)) hO.nodup hks
  have hbl := hb.lt
  clear hks
  go_enter Tryz.func98, Tryz.ntmps98
  go_wp2_with (refine wpList_rangeO rfl rfl rfl hO idInj maskSetT ?_; intro w0 hrg0 hf0 hs0)
  go_frame
  go_loopg [5] ks.length (fun n c5 wr => ∃ (todo : List Nat) (F1 : Nat → Nat) (ch : Bool), RangeO wr w.heap.size bo idV ks (fun k => maskV (G k)) todo ∧ MaskAt wr b F1 ∧ StepInv F (fun k x => andn x (G k)) F1 todo ∧ c5 = .bool ch ∧ Fr (fun x => x = b) w wr ∧ todo.length = n)
  case atStart => exact ⟨ks, F, false, hrg0, hb.fr hf0 (fun x => x), hI0, rfl, hf0.of_nope, rfl⟩
  case round =>
    obtain ⟨todo, F1, ch, hrg, hM, hI, rfl, hfr, rfl⟩ := hrel
    go_wp2_with (refine wpList_nextO rfl rfl rfl hrg idInj ?_ ?_)
    · intro h0
      subst h0
      obtain rfl := hI.done
      go_wp2
      go_ret
      exact ⟨⟨ch, rfl⟩, hM, hfr⟩
    · intro k v w1 hk hkk hv hrg1 hf1 hs1 hen
      obtain ⟨rfl, hGk⟩ := maskV_some hv
      have hM1 := hM.fr hf1 (by omega)
      have hlen : (todo.erase k).length < todo.length := by rw [List.length_erase_of_mem hk]; have := List.length_pos_of_mem hk; omega
      have hfr1 : Fr (fun x => x = b) w w1 := hfr.then_new hf1 (fun x hx => by omega)
      have hb' : ∀ c, bo = some c → c ≠ b := fun c hc e => hne (by rw [hc, e])
      have hI1 := hI.turn (F2 := dropM F1 k (G k)) hk (fun x => by unfold dropM; split <;> simp_all)
      clear hs1 hv hI
      unfold idV at hen
      by_cases hd : F1 k &&& G k = 0
      · have hdd : decide (F1 k &&& G k ≠ 0) = false := by simp [hd]
        clear hd
        go_wp2_with (go_at_call 110; refine (Discard_calls _ b F1 k (G k) hM1 (hG k)).mono ?_; rintro e w2 ⟨rfl, hM2, hf2⟩; rw [hdd])
        go_roundg (todo.erase k).length
        case measure => exact hlen
        case rel => exact ⟨_, _, _, hrg1.fr hf2 (by omega) hb', hM2, hI1, rfl, hfr1.then hf2, rfl⟩
      · have hdd : decide (F1 k &&& G k ≠ 0) = true := by simp [hd]
        clear hd
        go_wp2_with (go_at_call 110; refine (Discard_calls _ b F1 k (G k) hM1 (hG k)).mono ?_; rintro e w2 ⟨rfl, hM2, hf2⟩; rw [hdd])
        go_roundg (todo.erase k).length
        case measure => exact hlen
        case rel => exact ⟨_, _, _, hrg1.fr hf2 (by omega) hb', hM2, hI1, rfl, hfr1.then hf2, rfl⟩
set_option maxHeartbeats 1000000 in
theorem Clone_calls (w : World) (bo : Option Nat) (G : Nat → Nat) (ho : MaskO w bo G) :
    Calls Tryz.prog 97 #[.map bo] w fun e w' => e = .returned (.map (some w.heap.size)) ∧ MaskAt w' w.heap.size G ∧ Fr nope w w' := by
  obtain ⟨⟨ks, hO⟩, hG⟩ := ho
  have hks : ∀ k, k ∉ ks → 0 ||| G k = 0 := fun k hk => by
    have : G k = 0 := Classical.byContradiction fun h => hk ((hO.mem_iff.trans maskV_ne).2 h)
    rw [this]; simp
  have hI0 := StepInv.start (F := fun _ => 0) (g := fun k x => x ||| G k) hO.nodup hks
  have hob : ∀ c, bo = some c → c < w.heap.size := fun c hc => by subst hc; exact MapAt.lt hO
  clear hks
  go_enter Tryz.func97, Tryz.ntmps97
  go_wp2_with (first
    | (go_at_call 62; refine (NewEmpty_calls _).mono ?_; rintro e wm ⟨rfl, hM0, hfm, hsm⟩)
    | (refine wpList_rangeO rfl rfl rfl (hO.fr hfm (fun _ _ x => x)) idInj maskSetT ?_; intro w0 hrg0 hf0 hs0))
  go_frame
  have hr0 : wm.heap.size = w.heap.size + 1 := hsm
  rw [hr0] at hrg0 ⊢
  clear hsm hs0
  go_loopg [] ks.length (fun n wr => ∃ (todo : List Nat) (F1 : Nat → Nat), RangeO wr (w.heap.size + 1) bo idV ks (fun k => maskV (G k)) todo ∧ MaskAt wr w.heap.size F1 ∧ StepInv (fun _ => 0) (fun k x => x ||| G k) F1 todo ∧ Fr nope w wr ∧ todo.length = n)
  case atStart => exact ⟨ks, _, hrg0, hM0.fr hf0 (fun x => x), hI0, hfm.then hf0, rfl⟩
  case round =>
    obtain ⟨todo, F1, hrg, hM, hI, hfr, rfl⟩ := hrel
    go_wp2_with (refine wpList_nextO rfl rfl rfl hrg idInj ?_ ?_)
    · intro h0
      subst h0
      have e : F1 = G := by rw [hI.done]; funext k; simp
      subst e
      go_wp2
      go_ret
      exact ⟨rfl, hM, hfr⟩
    · intro k v w1 hk hkk hv hrg1 hf1 hs1 hen
      obtain ⟨rfl, hGk⟩ := maskV_some hv
      have hM1 := hM.fr hf1 (by omega)
      have hlen : (todo.erase k).length < todo.length := by rw [List.length_erase_of_mem hk]; have := List.length_pos_of_mem hk; omega
      have hfr1 : Fr nope w w1 := hfr.then_new hf1 (fun x hx => by omega)
      have hI1 := hI.turn (F2 := orM F1 k (G k)) hk (fun x => by unfold orM; split <;> simp_all)
      clear hs1 hv hI
      unfold idV at hen
      go_wp2_with (go_at_call 96; refine (Add_calls _ _ F1 k (G k) hM1 (hG k)).mono ?_; rintro e w2 ⟨rfl, hM2, hf2⟩)
      go_roundg (todo.erase k).length
      case measure => exact hlen
      case rel => exact ⟨_, _, hrg1.fr hf2 (by omega) (fun c hc => by have := hob c hc; omega), hM2, hI1, hfr1.then_new hf2 (fun x hx => by omega), rfl⟩
theorem Difference_calls (w : World) (bs : Option Nat) (F : Nat → Nat) (bo : Option Nat) (G : Nat → Nat) (hs : MaskO w bs F) (ho : MaskO w bo G) :
    Calls Tryz.prog 65 #[.map bs, .map bo] w fun e w' => e = .returned (.map (some w.heap.size)) ∧ MaskAt w' w.heap.size (fun k => andn (F k) (G k)) ∧ Fr nope w w' := by
  have hlt : bo ≠ some w.heap.size := by
    rintro rfl
    obtain ⟨⟨ks, hO⟩, _⟩ := ho
    have := MapAt.lt hO
    omega
  go_enter Tryz.func65, Tryz.ntmps65
  go_wp2_with (first
    | (go_at_call 97; refine (Clone_calls _ bs F hs).mono ?_; rintro e w1 ⟨rfl, hM1, hf1⟩)
    | (go_at_call 98; refine (DifferenceUpdate_calls _ _ F bo G hM1 ?_ hlt).mono ?_; obtain ⟨⟨ks, hO⟩, hG⟩ := ho; exact ⟨⟨ks, hO.fr hf1 (fun _ _ x => x)⟩, hG⟩; rintro e w2 ⟨⟨ch, rfl⟩, hM2, hf2⟩))
  go_ret
  exact ⟨rfl, hM2, hf1.then_new hf2 (fun x hx => by omega)⟩
def kindOf (id : Nat) : Nat := id / 256 % 256
theorem IDKind_calls (w : World) (id : Nat) : Calls Tryz.prog 109 #[.int .u32 (id : Int)] w fun e w' => e = .returned (.int .u8 (kindOf id : Int)) ∧ w = w' := by
  have e1 : (kindOf id : Int) = (id : Int) / 256 % 256 := by unfold kindOf; omega
  rw [e1]
  clear e1
  go_enter Tryz.func109, Tryz.ntmps109
  go_wp2
  go_ret
  exact ⟨rfl, rfl⟩
set_option maxHeartbeats 1000000 in
theorem OfKind_calls (w : World) (bo : Option Nat) (G : Nat → Nat) (kd : Nat) (ho : MaskO w bo G) :
    Calls Tryz.prog 72 #[.map bo, .int .u8 (kd : Int)] w fun e w' => e = .returned (.map (some w.heap.size)) ∧ MaskAt w' w.heap.size (fun k => if kindOf k = kd then G k else 0) ∧ Fr nope w w' := by
  obtain ⟨⟨ks, hO⟩, hG⟩ := ho
  have hks : ∀ k, k ∉ ks → (if kindOf k = kd then G k else 0) = 0 := fun k hk => by
    have : G k = 0 := Classical.byContradiction fun h => hk ((hO.mem_iff.trans maskV_ne).2 h)
    rw [this]; simp
  have hI0 := StepInv.start (F := fun _ => 0) (g := fun k _ => if kindOf k = kd then G k else 0) hO.nodup hks
  have hob : ∀ c, bo = some c → c < w.heap.size := fun c hc => by subst hc; exact MapAt.lt hO
  clear hks
  go_enter Tryz.func72, Tryz.ntmps72
  go_wp2_with (first
    | (go_at_call 62; refine (NewEmpty_calls _).mono ?_; rintro e wm ⟨rfl, hM0, hfm, hsm⟩)
    | (refine wpList_rangeO rfl rfl rfl (hO.fr hfm (fun _ _ x => x)) idInj maskSetT ?_; intro w0 hrg0 hf0 hs0))
  go_frame
  have hr0 : wm.heap.size = w.heap.size + 1 := hsm
  rw [hr0] at hrg0 ⊢
  clear hsm hs0
  go_loopg [] ks.length (fun n wr => ∃ (todo : List Nat) (F1 : Nat → Nat), RangeO wr (w.heap.size + 1) bo idV ks (fun k => maskV (G k)) todo ∧ MaskAt wr w.heap.size F1 ∧ StepInv (fun _ => 0) (fun k _ => if kindOf k = kd then G k else 0) F1 todo ∧ Fr nope w wr ∧ todo.length = n)
  case atStart => exact ⟨ks, _, hrg0, hM0.fr hf0 (fun x => x), hI0, hfm.then hf0, rfl⟩
  case round =>
    obtain ⟨todo, F1, hrg, hM, hI, hfr, rfl⟩ := hrel
    go_wp2_with (refine wpList_nextO rfl rfl rfl hrg idInj ?_ ?_)
    · intro h0
      subst h0
      obtain rfl := hI.done
      go_wp2
      go_ret
      exact ⟨rfl, hM, hfr⟩
    · intro k v w1 hk hkk hv hrg1 hf1 hs1 hen
      obtain ⟨rfl, hGk⟩ := maskV_some hv
      have hM1 := hM.fr hf1 (by omega)
      have hlen : (todo.erase k).length < todo.length := by rw [List.length_erase_of_mem hk]; have := List.length_pos_of_mem hk; omega
      have hfr1 : Fr nope w w1 := hfr.then_new hf1 (fun x hx => by omega)
      have hF0 : F1 k = 0 := by rw [hI.2, if_pos hk]
      clear hs1 hv
      unfold idV at hen
      by_cases hkd : kindOf k = kd
      · have hI1 := hI.turn (F2 := orM F1 k (G k)) hk (fun x => by unfold orM; split <;> simp_all)
        have hb : ((kindOf k : Int) == (kd : Int)) = true := by rw [beq_iff_eq]; omega
        clear hkd hI hF0
        go_wp2_with (first
          | (go_at_call 109; refine (IDKind_calls _ k).mono ?_; rintro e w2 ⟨rfl, rfl⟩)
          | (go_at_call 96; refine (Add_calls _ _ F1 k (G k) hM1 (hG k)).mono ?_; rintro e w2 ⟨rfl, hM2, hf2⟩))
        go_roundg (todo.erase k).length
        case measure => exact hlen
        case rel => exact ⟨_, _, hrg1.fr hf2 (by omega) (fun c hc => by have := hob c hc; omega), hM2, hI1, hfr1.then_new hf2 (fun x hx => by omega), rfl⟩
      · have hI1 := hI.turn (F2 := F1) hk (fun x => by split <;> simp_all)
        have hb : ((kindOf k : Int) == (kd : Int)) = false := by rw [beq_eq_false_iff_ne]; omega
        clear hkd hI hF0
        go_wp2_with (go_at_call 109; refine (IDKind_calls _ k).mono ?_; rintro e w2 ⟨rfl, rfl⟩)
        go_roundg (todo.erase k).length
        case measure => exact hlen
        case rel => exact ⟨_, _, hrg1, hM1, hI1, hfr1, rfl⟩
theorem u32_and (a b : Nat) (ha : a < 4294967296) (hb : b < 4294967296) : bits .and .u32 (a : Int) (b : Int) = ((a &&& b : Nat) : Int) := by
  have hx : a &&& b < 2 ^ 32 := Nat.and_lt_two_pow _ (by omega)
  show IntKind.u32.wrap ((BitVec.ofInt 32 (a : Int) &&& BitVec.ofInt 32 (b : Int)).toNat : Int) = _
  rw [BitVec.toNat_and, ofInt_u32 a ha, ofInt_u32 b hb, wrap_u32 _ (by omega)]
theorem IsVirtual_calls (w : World) (id : Nat) (hid : id < 4294967296) : Calls Tryz.prog 107 #[.int .u32 (id : Int)] w fun e w' => e = .returned (.bool (isV id)) ∧ w = w' := by
  have ha : bits .and .u32 (id : Int) 1 = ((id % 2 : Nat) : Int) := by
    have := u32_and id 1 hid (by omega)
    rw [Nat.and_one_is_mod] at this
    exact this
  have hb : isV id = (((id % 2 : Nat) : Int) == 1) := by
    unfold isV
    rw [Bool.eq_iff_iff]; simp; omega
  rw [hb]
  clear hb
  go_enter Tryz.func107, Tryz.ntmps107
  go_wp2
  go_ret
  exact ⟨by simp, rfl⟩
theorem IsPhysical_calls (w : World) (id : Nat) (hid : id < 4294967296) : Calls Tryz.prog 133 #[.int .u32 (id : Int)] w fun e w' => e = .returned (.bool (!isV id)) ∧ w = w' := by
  go_enter Tryz.func133, Tryz.ntmps133
  go_wp2_with (go_at_call 107; refine (IsVirtual_calls _ id hid).mono ?_; rintro e w2 ⟨rfl, rfl⟩)
  go_ret
  exact ⟨rfl, rfl⟩
def indexOf (id : Nat) : Nat := id / 65536 % 65536
theorem IDIndex_calls (w : World) (id : Nat) : Calls Tryz.prog 176 #[.int .u32 (id : Int)] w fun e w' => e = .returned (.int .u16 (indexOf id : Int)) ∧ w = w' := by
  have e1 : (indexOf id : Int) = (id : Int) / 65536 % 65536 := by unfold indexOf; omega
  rw [e1]
  clear e1
  go_enter Tryz.func176, Tryz.ntmps176
  go_wp2
  go_ret
  exact ⟨rfl, rfl⟩
end
end Go.Proofs.YtbaihlfnbdifgaaGreat
namespace Bth
section
section
variable (reads writes : Nat → Nat → Nat → Prop) (succ : Nat → Nat → Prop)
inductive LiveIn : Nat → Nat → Nat → Prop
  | read {i c b : Nat} (h : reads i c b) : LiveIn i c b
  | thru {i s c b : Nat} (hs : succ i s) (h : LiveIn s c b) (hw : ¬ writes i c b) : LiveIn i c b
def LiveOut (i c b : Nat) : Prop := ∃ s, succ i s ∧ LiveIn reads writes succ s c b
end
section
variable {reads writes : Nat → Nat → Nat → Prop} {succ : Nat → Nat → Prop}
theorem LiveIn.cases_iff {i c b : Nat} : LiveIn reads writes succ i c b ↔ reads i c b ∨ (LiveOut reads writes succ i c b ∧ ¬ writes i c b) := by
  constructor
  · intro h
    cases h with
    | read h => exact .inl h
    | thru hs h hw => exact .inr ⟨⟨_, hs, h⟩, hw⟩
  · rintro (h | ⟨⟨s, hs, h⟩, hw⟩)
    · exact .read h
    · exact .thru hs h hw
theorem LiveIn.least {inn : Nat → Nat → Nat → Prop} (hr : ∀ i c b, reads i c b → inn i c b) (ht : ∀ i s c b, succ i s → inn s c b → ¬ writes i c b → inn i c b) {i c b : Nat} (h : LiveIn reads writes succ i c b) : inn i c b := by
  induction h with
  | read h => exact hr _ _ _ h
  | thru hs _ hw ih => exact ht _ _ _ _ hs ih hw
end
end
end Bth
namespace Go.Proofs.YtbaihlfnbdifgaaGreat
section
open Go Go.RowKit Bth
abbrev Sets := Bool → Nat → Nat → Nat
def Sub (a b : Nat → Nat) : Prop := ∀ id i, (a id).testBit i = true → (b id).testBit i = true
theorem Sub.refl (a : Nat → Nat) : Sub a a := fun _ _ h => h
theorem Sub.or_left (a b : Nat → Nat) : Sub a (fun id => a id ||| b id) := fun id i h => by simp [Nat.testBit_or, h]
theorem Sub.of_and {a b : Nat → Nat} (h : ∀ id, a id &&& b id = b id) : Sub b a := fun id i hb => by
  have := congrArg (fun x => x.testBit i) (h id)
  simp only [Nat.testBit_and, hb, Bool.and_true] at this
  exact this
theorem or_of_and2 {a b : Nat} (h : a &&& b = b) : a ||| b = a := by
  apply Nat.eq_of_testBit_eq
  intro i
  have := congrArg (fun x => x.testBit i) h
  simp only [Nat.testBit_and] at this
  rw [Nat.testBit_or]
  cases ha : a.testBit i <;> cases hb : b.testBit i <;> simp_all
theorem bit_of_ne {a b : Nat} (h : a &&& b ≠ b) : ∃ i, b.testBit i = true ∧ a.testBit i = false := by
  apply Classical.byContradiction
  intro hn
  apply h
  apply Nat.eq_of_testBit_eq
  intro i
  rw [Nat.testBit_and]
  cases hb : b.testBit i
  · simp
  · cases ha : a.testBit i
    · exact absurd ⟨i, hb, ha⟩ hn
    · rfl
def updS (V : Sets) (p : Bool) (k : Nat) (F : Nat → Nat) : Sets := fun q j => if q = p ∧ j = k then F else V q j
theorem updS_self (V : Sets) (p : Bool) (k : Nat) (F : Nat → Nat) : updS V p k F p k = F := by simp [updS]
theorem updS_ne (V : Sets) (p : Bool) (k : Nat) (F : Nat → Nat) {q : Bool} {j : Nat} (h : (q, j) ≠ (p, k)) : updS V p k F q j = V q j := by
  unfold updS; rw [if_neg (fun e => h (by rw [e.1, e.2]))]
theorem updS_same {V : Sets} {p : Bool} {k : Nat} {F : Nat → Nat} (h : F = V p k) : updS V p k F = V := by
  funext q j
  unfold updS
  split
  · rename_i e; rw [h, e.1, e.2]
  · rfl
theorem countP_lt {α : Type} {p q : α → Bool} : ∀ {l : List α} {x : α}, x ∈ l → q x = true → p x = false → (∀ y ∈ l, p y = true → q y = true) → l.countP p < l.countP q := by
  intro l
  induction l with
  | nil => intro x hx; cases hx
  | cons a l ih =>
    intro x hx hq hp h
    have hmono : l.countP p ≤ l.countP q := List.countP_mono_left fun y hy => h y (by simp [hy])
    rw [List.countP_cons, List.countP_cons]
    rcases List.mem_cons.1 hx with rfl | hx
    · rw [hq, hp]; simp; omega
    · have := ih hx hq hp (fun y hy => h y (by simp [hy]))
      have ha := h a (by simp)
      cases hpa : p a
      · simp; omega
      · rw [ha hpa]; simp; omega
def spots (n : Nat) (U : List Nat) : List (Bool × Nat × Nat × Nat) := [false, true].flatMap fun p => (List.range n).flatMap fun k => U.flatMap fun id => (List.range 16).map fun i => (p, k, id, i)
theorem mem_spots {n : Nat} {U : List Nat} {p : Bool} {k id i : Nat} (hk : k < n) (hu : id ∈ U) (hi : i < 16) : (p, k, id, i) ∈ spots n U := by
  unfold spots
  refine List.mem_flatMap.2 ⟨p, by cases p <;> simp, List.mem_flatMap.2 ⟨k, by simpa using hk, List.mem_flatMap.2 ⟨id, hu, List.mem_map.2 ⟨i, by simpa using hi, rfl⟩⟩⟩⟩
def missing (n : Nat) (U : List Nat) (V : Sets) : Nat := (spots n U).countP fun q => !(V q.1 q.2.1 q.2.2.1).testBit q.2.2.2
theorem missing_le {n : Nat} {U : List Nat} {V V' : Sets} (h : ∀ p k, Sub (V p k) (V' p k)) : missing n U V' ≤ missing n U V := by
  refine List.countP_mono_left fun q _ hq => ?_
  cases hb : (V q.1 q.2.1 q.2.2.1).testBit q.2.2.2
  · rfl
  · have := h _ _ _ _ hb; simp [this] at hq
theorem missing_lt {n : Nat} {U : List Nat} {V V' : Sets} (h : ∀ p k, Sub (V p k) (V' p k)) {p : Bool} {k id i : Nat} (hk : k < n) (hu : id ∈ U) (hi : i < 16) (h1 : (V p k id).testBit i = false) (h2 : (V' p k id).testBit i = true) : missing n U V' < missing n U V := by
  refine countP_lt (mem_spots (p := p) hk hu hi) (by simp [h1]) (by simp [h2]) fun q _ hq => ?_
  cases hb : (V q.1 q.2.1 q.2.2.1).testBit q.2.2.2
  · rfl
  · have := h _ _ _ _ hb; simp [this] at hq
structure Flow where
  n : Nat
  use : Nat → Nat → Nat
  df : Nat → Nat → Nat
  next : Nat → Nat → Prop
  U : List Nat
def Flow.reads (f : Flow) (i c b : Nat) : Prop := i < f.n ∧ (f.use i c).testBit b = true
def Flow.writes (f : Flow) (i c b : Nat) : Prop := (f.df i c).testBit b = true
def Flow.succ (f : Flow) (i s : Nat) : Prop := i < f.n ∧ s < f.n ∧ f.next i s
structure Sound (f : Flow) (V : Sets) : Prop where
  base : ∀ k, k < f.n → Sub (f.use k) (V false k)
  inn : ∀ k c b, k < f.n → (V false k c).testBit b = true → LiveIn f.reads f.writes f.succ k c b
  out : ∀ k c b, k < f.n → (V true k c).testBit b = true → LiveOut f.reads f.writes f.succ k c b
  sup : ∀ p k c, k < f.n → V p k c ≠ 0 → c ∈ f.U
  lt : ∀ p k c, V p k c < 65536
def closedOut (f : Flow) (V : Sets) (k : Nat) : Prop := ∀ s, f.succ k s → Sub (V false s) (V true k)
def closedIn (f : Flow) (V : Sets) (k : Nat) : Prop := Sub (fun c => andn (V true k c) (f.df k c)) (V false k)
theorem bit_lt {x i : Nat} (hx : x < 65536) (h : x.testBit i = true) : i < 16 := by
  apply Classical.byContradiction
  intro hn
  have : x.testBit i = false := Nat.testBit_lt_two_pow (Nat.lt_of_lt_of_le (show x < 2 ^ 16 from hx) (Nat.pow_le_pow_right (by omega) (by omega)))
  rw [this] at h
  cases h
theorem or_lt16 {a b : Nat} (ha : a < 65536) (hb : b < 65536) : a ||| b < 65536 := Nat.or_lt_two_pow (n := 16) ha hb
theorem Sound.stepOut {f : Flow} {V : Sets} (h : Sound f V) {k s : Nat} (hs : f.succ k s) : Sound f (updS V true k fun c => V true k c ||| V false s c) := by
  refine ⟨fun j hj => ?_, fun j c b hj hb => ?_, fun j c b hj hb => ?_, fun p j c hj hb => ?_, fun p j c => ?_⟩
  · rw [updS_ne _ _ _ _ (by simp)]; exact h.base j hj
  · rw [updS_ne _ _ _ _ (by simp)] at hb; exact h.inn j c b hj hb
  · by_cases hjk : j = k
    · subst hjk
      rw [updS_self, Nat.testBit_or] at hb
      rcases Bool.or_eq_true_iff.1 hb with hb | hb
      · exact h.out j c b hj hb
      · exact ⟨s, hs, h.inn s c b hs.2.1 hb⟩
    · rw [updS_ne _ _ _ _ (by simp [hjk])] at hb; exact h.out j c b hj hb
  · by_cases hjk : (p, j) = (true, k)
    · injection hjk with e1 e2
      subst e1 e2
      rw [updS_self] at hb
      by_cases h1 : V true j c = 0
      · exact h.sup false s c hs.2.1 (by rw [h1] at hb; simpa using hb)
      · exact h.sup true j c hj h1
    · rw [updS_ne _ _ _ _ hjk] at hb; exact h.sup p j c hj hb
  · by_cases hjk : (p, j) = (true, k)
    · injection hjk with e1 e2
      subst e1 e2
      rw [updS_self]; exact or_lt16 (h.lt _ _ _) (h.lt _ _ _)
    · rw [updS_ne _ _ _ _ hjk]; exact h.lt p j c
theorem Sound.stepIn {f : Flow} {V : Sets} (h : Sound f V) {k : Nat} (hk : k < f.n) : Sound f (updS V false k fun c => V false k c ||| andn (V true k c) (f.df k c)) := by
  have hle : ∀ c, andn (V true k c) (f.df k c) < 65536 := fun c => andn_lt (h.lt _ _ _)
  refine ⟨fun j hj => ?_, fun j c b hj hb => ?_, fun j c b hj hb => ?_, fun p j c hj hb => ?_, fun p j c => ?_⟩
  · by_cases hjk : j = k
    · subst hjk
      rw [updS_self]; exact fun c i hc => Sub.or_left (V false j) (fun c => andn (V true j c) (f.df j c)) c i (h.base j hj c i hc)
    · rw [updS_ne _ _ _ _ (by simp [hjk])]; exact h.base j hj
  · by_cases hjk : j = k
    · subst hjk
      rw [updS_self, Nat.testBit_or] at hb
      rcases Bool.or_eq_true_iff.1 hb with hb | hb
      · exact h.inn j c b hj hb
      · rw [andn_testBit] at hb
        simp only [Bool.and_eq_true, Bool.not_eq_true'] at hb
        refine LiveIn.cases_iff.2 (.inr ⟨h.out j c b hj hb.1, fun hw => ?_⟩)
        unfold Flow.writes at hw
        rw [hb.2] at hw; cases hw
    · rw [updS_ne _ _ _ _ (by simp [hjk])] at hb; exact h.inn j c b hj hb
  · rw [updS_ne _ _ _ _ (by simp)] at hb; exact h.out j c b hj hb
  · by_cases hjk : (p, j) = (false, k)
    · injection hjk with e1 e2
      subst e1 e2
      rw [updS_self] at hb
      by_cases h1 : V false j c = 0
      · refine h.sup true j c hj fun h2 => ?_
        rw [h1, h2] at hb
        simp [andn] at hb
      · exact h.sup false j c hj h1
    · rw [updS_ne _ _ _ _ hjk] at hb; exact h.sup p j c hj hb
  · by_cases hjk : (p, j) = (false, k)
    · injection hjk with e1 e2
      subst e1 e2
      rw [updS_self]; exact or_lt16 (h.lt _ _ _) (hle c)
    · rw [updS_ne _ _ _ _ hjk]; exact h.lt p j c
theorem Sound.exact {f : Flow} {V : Sets} (h : Sound f V) (ho : ∀ k, k < f.n → closedOut f V k) (hi : ∀ k, k < f.n → closedIn f V k) {k c b : Nat} (hk : k < f.n) :
    ((V false k c).testBit b = true ↔ LiveIn f.reads f.writes f.succ k c b) ∧ ((V true k c).testBit b = true ↔ LiveOut f.reads f.writes f.succ k c b) := by
  have hin : ∀ {k c b}, LiveIn f.reads f.writes f.succ k c b → k < f.n → (V false k c).testBit b = true := by
    intro k c b hl hk
    have key := LiveIn.least (reads := f.reads) (writes := f.writes) (succ := f.succ) (inn := fun i c b => i < f.n → (V false i c).testBit b = true) (fun i c b hr hk => h.base i hk c b hr.2) (fun i s c b hs hv hw hk => by
      have h1 := ho i hk s hs c b (hv hs.2.1)
      refine hi i hk c b ?_
      rw [andn_testBit, h1]
      cases hd : (f.df i c).testBit b
      · rfl
      · exact absurd hd hw) hl
    exact key hk
  refine ⟨⟨h.inn k c b hk, fun hl => hin hl hk⟩, ⟨h.out k c b hk, ?_⟩⟩
  rintro ⟨s, hs, hl⟩
  exact ho k hk s hs c b (hin hl hs.2.1)
structure Rel (f : Flow) (V V2 : Sets) (ch : Bool) : Prop where
  sub : ∀ p k, Sub (V p k) (V2 p k)
  same : ch = false → V2 = V
  less : ch = true → missing f.n f.U V2 < missing f.n f.U V
theorem Rel.refl (f : Flow) (V : Sets) : Rel f V V false := ⟨fun _ _ => Sub.refl _, fun _ => rfl, fun h => by cases h⟩
theorem Rel.trans {f : Flow} {V V2 V3 : Sets} {a b : Bool} (h : Rel f V V2 a) (k : Rel f V2 V3 b) : Rel f V V3 (b || a) := by
  refine ⟨fun p j id i hb => k.sub p j id i (h.sub p j id i hb), fun e => ?_, fun e => ?_⟩
  · simp only [Bool.or_eq_false_iff] at e
    rw [k.same e.1, h.same e.2]
  · have h1 := missing_le (n := f.n) (U := f.U) h.sub
    have h2 := missing_le (n := f.n) (U := f.U) k.sub
    rcases Bool.or_eq_true_iff.1 e with e | e
    · have := k.less e; omega
    · have := h.less e; omega
theorem updS_sub (V : Sets) (p : Bool) (k : Nat) (G : Nat → Nat) : ∀ q j, Sub (V q j) (updS V p k (fun c => V p k c ||| G c) q j) := by
  intro q j
  by_cases e : (q, j) = (p, k)
  · injection e with e1 e2
    subst e1 e2
    rw [updS_self]; exact Sub.or_left _ _
  · rw [updS_ne _ _ _ _ e]; exact Sub.refl _
theorem stepRel {f : Flow} {V : Sets} {p : Bool} {k : Nat} {G : Nat → Nat} {ch : Bool} (hk : k < f.n) (hG : ∀ c, G c < 65536) (hU : ∀ c, G c ≠ 0 → c ∈ f.U) (hch : ch = true ↔ ∃ c, V p k c &&& G c ≠ G c) :
    Rel f V (updS V p k fun c => V p k c ||| G c) ch ∧ (ch = false → Sub G (V p k)) := by
  refine ⟨⟨updS_sub V p k G, fun e => ?_, fun e => ?_⟩, fun e => ?_⟩
  · refine updS_same (funext fun c => or_of_and2 ?_)
    apply Classical.byContradiction
    intro hn
    have := hch.2 ⟨c, hn⟩
    rw [e] at this; cases this
  · obtain ⟨c, hc⟩ := hch.1 e
    obtain ⟨i, h1, h2⟩ := bit_of_ne hc
    have hG0 : G c ≠ 0 := fun h0 => by rw [h0] at h1; simp at h1
    refine missing_lt (updS_sub V p k G) (p := p) hk (hU c hG0) (bit_lt (hG c) h1) h2 ?_
    rw [updS_self, Nat.testBit_or, h1, Bool.or_true]
  · refine Sub.of_and fun c => ?_
    apply Classical.byContradiction
    intro hn
    have := hch.2 ⟨c, hn⟩
    rw [e] at this; cases this
end
section
open Go Go.RowKit Go.MapKept Bth
open Go.ChangeMaps (setBlock)
set_option maxRecDepth 100000
instance : DecidableEq ByteArray := fun a b => decidable_of_iff (a.data = b.data) ⟨fun h => by cases a; cases b; simp_all, fun h => by rw [h]⟩
def LabAt (w : World) (b : Nat) (t : ByteArray → Option Nat) : Prop := ∃ ks, MapAt w b Value.string ks fun s => (t s).map ptr
theorem labKey : KeyOk Tryz.prog 123 .string Value.string := ⟨Tryz.underlying123, fun _ => trivial, fun a b h => by injection h⟩
theorem labT : Tryz.prog.underlying 95 = some (.map 123 118) := Tryz.underlying95
theorem zeroIns (w : World) : (zeroValue 118).run Tryz.prog w = .ok (.pointer none) w := by kernel_rfl
def fvI : Option Nat → Value
  | none => .pointer none
  | some b => ptr b
theorem LabAt.look {w : World} {b : Nat} {t : ByteArray → Option Nat} (h : LabAt w b t) (s : ByteArray) :
    (Instr.lookup 95 (.map (some b)) (.string s) true).run Tryz.prog w = .ok (.tuple #[fvI (t s), .bool (t s).isSome]) w := by
  obtain ⟨ks, hm⟩ := h
  have := hm.lookup labKey labT (zeroIns w) s true
  rw [this]
  cases t s <;> simp [fvI]
theorem LabAt.put {w : World} {b : Nat} {t : ByteArray → Option Nat} (h : LabAt w b t) (s : ByteArray) (i : Nat) :
    ∃ w', (Instr.mapUpdate 95 (.map (some b)) (.string s) (.pointer (some ⟨i, 0, none⟩))).run Tryz.prog w = .ok () w' ∧ LabAt w' b (fun x => if x = s then some i else t x) ∧ Fr (fun x => x = b) w w' ∧ w'.heap.size = w.heap.size := by
  obtain ⟨ks, hM⟩ := h
  obtain ⟨es, clock, h1, h2⟩ := hM.update labKey labT s (ptr i)
  have e : (fun x => (if x = s then some i else t x).map ptr) = updM (fun s => (t s).map ptr) s (some (ptr i)) := by
    funext x
    unfold updM
    by_cases hx : x = s <;> simp [hx]
  rw [← e] at h2
  exact ⟨setBlock w b (.map es clock), h1, ⟨_, h2⟩, (Fr.refl (fun x => x = b) w).setBlock (.inl rfl) _, by simp [setBlock]⟩
theorem LabAt.fr {S : Nat → Prop} {w w' : World} {b : Nat} {t : ByteArray → Option Nat} (h : LabAt w b t) (hf : Fr S w w') (hs : ¬ S b) : LabAt w' b t := by
  obtain ⟨ks, hm⟩ := h
  exact ⟨ks, hm.fr hf hs⟩
theorem LabAt.lt {w : World} {b : Nat} {t : ByteArray → Option Nat} (h : LabAt w b t) : b < w.heap.size := by
  obtain ⟨ks, hm⟩ := h
  exact hm.lt
structure LS where
  t : ByteArray → Option Nat
  pend : List ByteArray
open Classical in
noncomputable def settle (pend : List ByteArray) (b : Nat) (t : ByteArray → Option Nat) : ByteArray → Option Nat := fun x => if x ∈ pend then some b else t x
theorem settle_step {pend : List ByteArray} {j b : Nat} {t : ByteArray → Option Nat} {s : ByteArray} (h : pend[j]? = some s) : (fun x => if x = s then some b else settle (pend.take j) b t x) = settle (pend.take (j + 1)) b t := by
  funext x
  unfold settle
  rw [List.take_add_one, h]
  by_cases hx : x = s
  · subst hx; simp
  · simp only [if_neg hx]
    by_cases hm : x ∈ pend.take j
    · rw [if_pos hm, if_pos (by simp [hm])]
    · rw [if_neg hm, if_neg (by simp [hm, hx])]
noncomputable def ltStep (s : LS) : Nd → Option LS
  | .label l => if (s.t l).isSome then none else some { s with pend := s.pend ++ [l] }
  | .ins b => some ⟨settle s.pend b s.t, []⟩
  | .comment _ => some s
noncomputable def ltRun (l : List Nd) : Option LS := l.foldlM ltStep ⟨fun _ => none, []⟩
theorem ltRun_append {l : List Nd} {s : LS} {n : Nd} (h : ltRun l = some s) : ltRun (l ++ [n]) = ltStep s n := by
  unfold ltRun at h ⊢
  rw [List.foldlM_append, h]
  simp
theorem ltRun_none {l r : List Nd} {s : LS} {n : Nd} (h : ltRun l = some s) (hn : ltStep s n = none) : ltRun (l ++ n :: r) = none := by
  unfold ltRun at h ⊢
  rw [List.foldlM_append, h]
  simp [hn]
theorem ltRun_pend {l : List Nd} {s : LS} (h : ltRun l = some s) : s.pend.length ≤ l.length := by
  unfold ltRun at h
  have key : ∀ (l : List Nd) (a s : LS), l.foldlM ltStep a = some s → s.pend.length ≤ a.pend.length + l.length := by
    intro l
    induction l with
    | nil => intro a s h; simp at h; subst h; simp
    | cons n l ih =>
      intro a s h
      simp only [List.foldlM_cons, Option.bind_eq_bind] at h
      obtain ⟨b, h1, h2⟩ := Option.bind_eq_some_iff.1 h
      have := ih b s h2
      cases n with
      | label x =>
        simp only [ltStep] at h1
        split at h1
        · cases h1
        · injection h1 with h1; subst h1; simp at this ⊢; omega
      | ins x => simp only [ltStep, Option.some.injEq] at h1; subst h1; simp at this ⊢; omega
      | comment x => simp only [ltStep, Option.some.injEq] at h1; subst h1; simp at this ⊢; omega
  simpa using key l _ s h
theorem infoLab : (Tryz.prog.info? 123).map (fun i => (i.zero, i.size, i.bytes)) = some (some (.string ⟨#[]⟩), 1, 16) := by kernel_rfl
def GivesErr (w : World) (e : Ending) (w' : World) : Prop := (∃ T v, e = .returned (.iface T v)) ∧ Fr nope w w'
def GivesLT (w : World) (fb : Nat) (f : Fn) (nds : List Nd) (e : Ending) (w' : World) : Prop :=
  (∃ t mb, ltRun nds = some ⟨t, []⟩ ∧ e = .returned .nilIface ∧ FnAt w' fb { f with lt := some mb } ∧ LabAt w' mb t ∧ w.heap.size ≤ mb ∧ Fr (fun b => b = fb) w w') ∨
  ((∀ t, ltRun nds ≠ some ⟨t, []⟩) ∧ GivesErr w e w')
set_option maxHeartbeats 2000000 in
theorem LabelTarget_calls (w : World) (fb : Nat) (f : Fn) (nds : List Nd) (A : Option Addr) (c : Nat) (hfn : FnAt w fb f) (hn : f.nodes = .slice A nds.length c) (hS : Sl w A nds.length (nds.map Nd.val)) (hl : nds.length ≤ 1073741824) :
    Calls Tryz.prog 34 #[ptr fb] w (GivesLT w fb f nds) := by
  have hlt := lt_of_heap hfn
  have hc5 := hfn.c5
  rw [hn] at hc5
  replace hn := Lib.hid hn
  unfold ptr
  go_enter Tryz.func34, Tryz.ntmps34
  have hmm := @run_makeMap Tryz.prog
  go_wp2
  go_loopg [4, 19] nds.length (fun n c4 c19 wr => ∃ (k : Nat) (t : ByteArray → Option Nat) (pend : List ByteArray), k ≤ nds.length ∧ c19 = .int .i64 (k : Int) ∧ Hid (ltRun (nds.take k) = some ⟨t, pend⟩) ∧ LabAt wr w.heap.size t ∧ wr.ownsRow (w.heap.size + 1) 123 1 c4 pend.length (pend.map Value.string) ∧ Fr nope w wr ∧ n = nds.length - k)
  case atStart => exact ⟨0, _, [], Nat.zero_le _, rfl, rfl, ⟨[], MapAt.made w Value.string⟩, own_nil _ _ _ _, (Fr.refl _ _).alloc _, rfl⟩
  case round =>
    obtain ⟨k, t, pend, hk, rfl, hrun, hM, hown, hf, rfl⟩ := hrel
    by_cases hlt2 : k < nds.length
    · obtain ⟨b, off, u, rfl, hbl, hu, hc⟩ := (hS.nope hf).at_ hlt2
      rw [List.getElem?_map] at hu
      obtain ⟨o, hok, rfl⟩ := Option.map_eq_some_iff.1 hu
      have hT : nds.take (k + 1) = nds.take k ++ [o] := by rw [List.take_add_one, hok]; rfl
      have hD : nds = nds.take k ++ o :: nds.drop (k + 1) := by
        conv => lhs; rw [← List.take_append_drop (k + 1) nds, hT]
        simp
      have hstep : ltRun (nds.take (k + 1)) = ltStep ⟨t, pend⟩ o := by rw [hT]; exact ltRun_append hrun
      have hbad : ltStep ⟨t, pend⟩ o = none → ltRun nds = none := fun h => by rw [hD]; exact ltRun_none hrun h
      replace hstep := Lib.hid hstep
      replace hbad := Lib.hid hbad
      have hpl : pend.length ≤ k := by have := ltRun_pend hrun; simp only [List.length_take] at this; omega
      clear hS hu hT hD hok
      cases o with
      | label s =>
        have hta := fun W => ta_Label_label W 127 (.string s)
        simp only [Nd.val] at hc
        have hlk := hM.look s
        cases hts : t s with
        | some i =>
          rw [hts] at hlk
          simp only [fvI, Option.isSome_some] at hlk
          replace hts := Lib.hid hts
          go_wp2
          go_ret
          exact .inr ⟨(fun t' h => by rw [hbad.out (by simp [ltStep, hts.out])] at h; cases h), ⟨_, _, rfl⟩, hf.alloc _⟩
        | none =>
          rw [hts] at hlk
          simp only [fvI, Option.isSome_none] at hlk
          replace hts := Lib.hid hts
          go_wp2_with (refine wpList_app (v := u4) rfl rfl Tryz.underlying125 infoLab rfl (by omega) rfl (own_fr hown ((Fr.refl nope _).alloc _) (fun _ _ x => x)) rfl (news := [.string s]) rfl (one_new _ _ _ _ rfl) (by simp [Value.oneCell']) (by simp only [maxLen]; omega) (by omega) (by have := hf.size; have := hM.lt; simp; omega) ?_; intro v3 w3 hown3 hf3 _)
          go_roundg (nds.length - (k + 1))
          case measure => omega
          case rel =>
            refine ⟨k + 1, t, pend ++ [s], by omega, by go_num, ?_, (hM.fr ((Fr.refl nope wr).alloc _) (fun x => x)).fr hf3 (fun he => by have := own_base hown _ he; omega), by rw [List.map_append, List.length_append]; exact hown3, (hf.alloc _).then_new hf3 (fun x hx he => by have := own_base hown x he; omega), rfl⟩
            show ltRun _ = _
            rw [hstep.out]
            simp [ltStep, hts.out]
      | comment x =>
        have hta := fun W => ta_Label_comment W 127 (.pointer (some ⟨x, 0, none⟩))
        have htb := fun W => ta_Ins_comment W 127 (.pointer (some ⟨x, 0, none⟩))
        simp only [Nd.val] at hc
        go_wp2
        go_roundg (nds.length - (k + 1))
        case measure => omega
        case rel => exact ⟨k + 1, t, pend, by omega, by go_num, hstep.out, hM, hown, hf, rfl⟩
      | ins x =>
        have hta := fun W => ta_Label_ins W 127 (.pointer (some ⟨x, 0, none⟩))
        have htb := fun W => ta_Ins_ins W 127 (.pointer (some ⟨x, 0, none⟩))
        simp only [Nd.val] at hc
        obtain ⟨A4, c4, rfl, _, _⟩ := own_slice hown
        have hSp := own_Sl hown
        have hbo := own_base hown
        go_wp2
        go_loopg [44] pend.length (fun m c44 wq => ∃ j : Nat, j ≤ pend.length ∧ c44 = .int .i64 (j : Int) ∧ LabAt wq w.heap.size (settle (pend.take j) x t) ∧ Fr (fun b => b = w.heap.size) wr wq ∧ m = pend.length - j)
        case atStart =>
          refine ⟨0, Nat.zero_le _, rfl, ?_, Fr.refl _ _, rfl⟩
          have e : settle (pend.take 0) x t = t := by funext y; simp [settle]
          rw [e]; exact hM
        case round =>
          obtain ⟨j, hj, rfl, hMj, hfj, rfl⟩ := hrel
          by_cases hjl : j < pend.length
          · obtain ⟨b2, off2, u2, hA2, hbl2, hu2, hc2⟩ := (hSp.fr hfj (fun _ b off e he => by subst e; have := hbo b rfl; omega)).at_ hjl
            subst hA2
            rw [List.getElem?_map] at hu2
            obtain ⟨s, hs, rfl⟩ := Option.map_eq_some_iff.1 hu2
            have hst := Lib.hid (settle_step (b := x) (t := t) hs)
            obtain ⟨w5, hup, hM5, hf5, _⟩ := hMj.put s x
            replace hM5 := Lib.hid hM5
            clear hu2 hs hMj
            go_wp2
            go_roundg (pend.length - (j + 1))
            case measure => omega
            case rel => exact ⟨j + 1, by omega, by go_num, by rw [← hst.out]; exact hM5.out, hfj.then hf5, rfl⟩
          · have e : pend.take j = pend := List.take_of_length_le (by omega)
            rw [e] at hMj
            go_wp2
            go_roundg (nds.length - (k + 1))
            case measure => omega
            case rel => exact ⟨k + 1, _, [], by omega, by go_num, hstep.out, hMj, own_nil _ _ _ _, hf.then_new hfj (fun x hx he => by omega), rfl⟩
    · have e : nds.take k = nds := List.take_of_length_le (by omega)
      rw [e] at hrun
      obtain ⟨A4, c4, rfl, _, _⟩ := own_slice hown
      have hfnr := hfn.fr hf (fun x => x)
      have hcr := fun j => cell_of_row _ _ j _ _ (0, 0) hfnr
      have hzr := frozen_row hfnr
      simp only [Fn.cells] at hcr
      cases pend with
      | nil =>
        simp only [List.length_nil]
        go_wp2
        go_ret
        have hst : Fr (fun b => b = fb) wr (wr.setCell ⟨fb, 6, none⟩ (.map (some w.heap.size))) := Fr.setCell (S := fun b => b = fb) (p := ⟨fb, 6, none⟩) (Fr.refl _ wr) (.inl rfl) _
        exact .inl ⟨t, w.heap.size, hrun.out, rfl, setCell_heap hfnr _, hM.fr hst (by omega), Nat.le_refl _, hf.of_nope.then hst⟩
      | cons s pend =>
        simp only [List.length_cons]
        go_wp2
        go_ret
        exact .inr ⟨(fun t' h => by have hrun := hrun.out; rw [h] at hrun; injection hrun with hr; injection hr with _ hr; cases hr), ⟨_, _, rfl⟩, hf.alloc _⟩
end
end Go.Proofs.YtbaihlfnbdifgaaGreat
