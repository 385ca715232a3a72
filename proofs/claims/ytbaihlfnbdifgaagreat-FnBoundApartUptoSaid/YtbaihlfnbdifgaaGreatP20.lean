/- Part of the proof of boundApart_upto. -/
import Derived.BigQuiet
import Derived.Deep.RegionHeld3
import Derived.Test.YtbaihlfnbdifgaaGreatP10
import Derived.Test.YtbaihlfnbdifgaaGreatP13
import Derived.Test.YtbaihlfnbdifgaaGreatP16
import Derived.Test.YtbaihlfnbdifgaaGreatP19
namespace Go.Proofs.YtbaihlfnbdifgaaGreat
section
open Go Go.RowKit Bth
abbrev TL := List (Nat × Nat)
def mIns (id m : Nat) : TL → TL
  | [] => [(id, m)]
  | x :: t => if x.1 < id then x :: mIns id m t else if x.1 = id then (id, x.2 ||| m) :: t else (id, m) :: x :: t
def mAdd (s : TL) (id m : Nat) : TL := if m = 0 then s else mIns id m s
def mDis1 (id m : Nat) (x : Nat × Nat) : Nat × Nat := if x.1 = id then (x.1, andn x.2 m) else x
def mDis (s : TL) (id m : Nat) : TL := (s.map (mDis1 id m)).filter fun x => x.2 != 0
def mUnion (s t : TL) : TL := t.foldl (fun s x => mAdd s x.1 x.2) s
def mMinus (s t : TL) : TL := t.foldl (fun s x => mDis s x.1 x.2) s
def tv : TL → Nat → Nat
  | [], _ => 0
  | x :: t, c => if x.1 = c then x.2 else tv t c
inductive Tidy : TL → Prop
  | nil : Tidy []
  | cons {x : Nat × Nat} {t : TL} (h : Tidy t) (h1 : ∀ y ∈ t, x.1 < y.1) (h2 : x.2 ≠ 0) (h3 : x.2 < 65536) (h4 : x.1 < 4294967296) : Tidy (x :: t)
theorem tv_lt {s : TL} {c : Nat} (h : ∀ y ∈ s, c < y.1) : tv s c = 0 := by
  induction s with
  | nil => rfl
  | cons x t ih =>
    have := h x (by simp)
    simp only [tv]
    rw [if_neg (by omega), ih fun y hy => h y (by simp [hy])]
theorem tv_mem {s : TL} {c : Nat} (h : tv s c ≠ 0) : (c, tv s c) ∈ s := by
  induction s with
  | nil => exact absurd rfl h
  | cons x t ih =>
    simp only [tv] at h ⊢
    by_cases e : x.1 = c
    · rw [if_pos e]; subst e; simp
    · rw [if_neg e] at h ⊢; exact List.mem_cons_of_mem _ (ih h)
theorem tv_of_mem {s : TL} (ht : Tidy s) {x : Nat × Nat} (h : x ∈ s) : tv s x.1 = x.2 := by
  induction ht with
  | nil => cases h
  | @cons y t ht h1 _ _ _ ih =>
    simp only [tv]
    rcases List.mem_cons.1 h with rfl | h
    · simp
    · have := h1 x h
      rw [if_neg (by omega), ih h]
theorem Tidy.bound {s : TL} (h : Tidy s) : ∀ x ∈ s, x.1 < 4294967296 ∧ x.2 < 65536 ∧ x.2 ≠ 0 := by
  induction h with
  | nil => simp
  | cons _ _ h2 h3 h4 ih =>
    intro y hy
    rcases List.mem_cons.1 hy with rfl | hy
    · exact ⟨h4, h3, h2⟩
    · exact ih y hy
theorem tv_lt16 {s : TL} (h : Tidy s) (c : Nat) : tv s c < 65536 := by
  by_cases e : tv s c = 0
  · omega
  · exact (h.bound _ (tv_mem e)).2.1
theorem or_pos16 {a b : Nat} (h : a ≠ 0) : a ||| b ≠ 0 := fun e => h (by
  apply Nat.eq_of_testBit_eq
  intro i
  have := congrArg (fun x => x.testBit i) e
  simp only [Nat.testBit_or, Nat.zero_testBit, Bool.or_eq_false_iff] at this
  rw [this.1]; simp)
theorem mIns_mem {s : TL} {id m : Nat} : ∀ y ∈ mIns id m s, y.1 = id ∨ y ∈ s := by
  induction s with
  | nil => intro y hy; exact .inl (by simp [mIns] at hy; rw [hy])
  | cons x t ih =>
    intro y hy
    simp only [mIns] at hy
    split at hy
    · rcases List.mem_cons.1 hy with rfl | hy
      · simp
      · rcases ih y hy with h | h
        · exact .inl h
        · exact .inr (by simp [h])
    · split at hy
      · rcases List.mem_cons.1 hy with rfl | hy
        · exact .inl rfl
        · exact .inr (by simp [hy])
      · rcases List.mem_cons.1 hy with rfl | hy
        · exact .inl rfl
        · exact .inr hy
theorem mIns_tidy {s : TL} (h : Tidy s) {id m : Nat} (h0 : m ≠ 0) (hm : m < 65536) (hi : id < 4294967296) : Tidy (mIns id m s) := by
  induction h with
  | nil => exact .cons .nil (by simp) h0 hm hi
  | @cons x t ht h1 h2 h3 h4 ih =>
    simp only [mIns]
    split
    · rename_i hlt
      exact .cons ih (fun y hy => by rcases mIns_mem y hy with h | h; omega; exact h1 y h) h2 h3 h4
    · split
      · rename_i _ he
        exact .cons ht (fun y hy => by have := h1 y hy; show id < y.1; omega) (or_pos16 h2) (or_lt16 h3 hm) hi
      · exact .cons (.cons ht h1 h2 h3 h4) (fun y hy => by
          show id < y.1
          rcases List.mem_cons.1 hy with rfl | hy
          · omega
          · have := h1 y hy; omega) h0 hm hi
theorem tv_mIns {s : TL} (h : Tidy s) {id m : Nat} (c : Nat) : tv (mIns id m s) c = if c = id then tv s c ||| m else tv s c := by
  induction h with
  | nil =>
    simp only [mIns, tv]
    by_cases e : id = c
    · simp [e]
    · rw [if_neg e, if_neg (Ne.symm e)]
  | @cons x t ht h1 h2 h3 h4 ih =>
    simp only [mIns]
    split
    · rename_i hlt
      simp only [tv]
      rw [ih]
      by_cases e : x.1 = c
      · rw [if_pos e, if_neg (by omega)]; simp [e]
      · simp [e]
    · split
      · rename_i _ he
        simp only [tv]
        by_cases e : id = c
        · rw [if_pos e, if_pos e.symm, if_pos (by omega)]
        · rw [if_neg e, if_neg (Ne.symm e), if_neg (by omega)]
      · rename_i h5 h6
        simp only [tv]
        by_cases e : id = c
        · subst e
          rw [if_pos rfl, if_pos rfl, if_neg (by omega), tv_lt fun y hy => by have := h1 y hy; omega]
          simp
        · rw [if_neg e, if_neg (Ne.symm e)]
theorem mAdd_tidy {s : TL} (h : Tidy s) {id m : Nat} (hm : m < 65536) (hi : id < 4294967296) : Tidy (mAdd s id m) := by
  unfold mAdd
  split
  · exact h
  · rename_i h0; exact mIns_tidy h h0 hm hi
theorem tv_mAdd {s : TL} (h : Tidy s) {id m : Nat} : tv (mAdd s id m) = orM (tv s) id m := by
  funext c
  unfold mAdd orM
  split
  · rename_i h0; subst h0; split <;> simp
  · exact tv_mIns h c
theorem mDis1_fst (id m : Nat) (x : Nat × Nat) : (mDis1 id m x).1 = x.1 := by unfold mDis1; split <;> rfl
theorem mDis_mem {s : TL} {id m : Nat} : ∀ y ∈ mDis s id m, ∃ x ∈ s, y.1 = x.1 ∧ y.2 ≠ 0 ∧ (x.2 < 65536 → y.2 < 65536) := by
  intro y hy
  unfold mDis at hy
  obtain ⟨h1, h2⟩ := List.mem_filter.1 hy
  obtain ⟨x, hx, rfl⟩ := List.mem_map.1 h1
  refine ⟨x, hx, mDis1_fst _ _ _, by simpa using h2, fun h => ?_⟩
  unfold mDis1
  split
  · exact andn_lt h
  · exact h
theorem mDis_cons (x : Nat × Nat) (t : TL) (id m : Nat) : mDis (x :: t) id m = if (mDis1 id m x).2 = 0 then mDis t id m else mDis1 id m x :: mDis t id m := by
  unfold mDis
  rw [List.map_cons, List.filter_cons]
  by_cases e : (mDis1 id m x).2 = 0 <;> simp [e]
theorem mDis_tidy {s : TL} (h : Tidy s) {id m : Nat} : Tidy (mDis s id m) := by
  induction h with
  | nil => exact .nil
  | @cons x t ht h1 h2 h3 h4 ih =>
    rw [mDis_cons]
    split
    · exact ih
    · rename_i h0
      refine .cons ih (fun y hy => ?_) h0 ?_ (by rw [mDis1_fst]; exact h4)
      · obtain ⟨z, hz, e, _⟩ := mDis_mem y hy
        rw [mDis1_fst, e]; exact h1 z hz
      · unfold mDis1; split
        · exact andn_lt h3
        · exact h3
theorem tv_mDis {s : TL} (h : Tidy s) {id m : Nat} (c : Nat) : tv (mDis s id m) c = if c = id then andn (tv s c) m else tv s c := by
  induction h with
  | nil => simp [mDis, tv, andn]
  | @cons x t ht h1 h2 h3 h4 ih =>
    rw [mDis_cons]
    have hz : tv (mDis t id m) x.1 = 0 := tv_lt fun y hy => by
      obtain ⟨z, hz, e, _⟩ := mDis_mem y hy
      rw [e]; exact h1 z hz
    split
    · rename_i h0
      by_cases e : x.1 = c
      · subst e
        rw [hz]
        simp only [tv, if_true]
        unfold mDis1 at h0
        split at h0
        · rename_i e; rw [if_pos e]; exact h0.symm
        · exact absurd h0 h2
      · rw [ih]; simp only [tv]; rw [if_neg e]
    · simp only [tv, mDis1_fst]
      by_cases e : x.1 = c
      · rw [if_pos e, if_pos e]
        unfold mDis1
        by_cases e2 : x.1 = id
        · rw [if_pos e2, if_pos (by omega)]
        · rw [if_neg e2, if_neg (by omega)]
      · rw [if_neg e, if_neg e, ih]
theorem mUnion_tidy {t : TL} (ht : Tidy t) : ∀ {s : TL}, Tidy s → Tidy (mUnion s t) := by
  unfold mUnion
  induction ht with
  | nil => exact fun h => h
  | cons _ _ _ h3 h4 ih => exact fun h => ih (mAdd_tidy h h3 h4)
theorem tv_mUnion {t : TL} (ht : Tidy t) : ∀ {s : TL}, Tidy s → ∀ c, tv (mUnion s t) c = tv s c ||| tv t c := by
  unfold mUnion
  induction ht with
  | nil => intro s _ c; simp [tv]
  | @cons x t ht h1 _ h3 h4 ih =>
    intro s hs c
    rw [List.foldl_cons, ih (mAdd_tidy hs h3 h4), tv_mAdd hs]
    unfold orM
    simp only [tv]
    by_cases e : c = x.1
    · subst e; rw [if_pos rfl, if_pos rfl, tv_lt h1]; simp
    · rw [if_neg e, if_neg (Ne.symm e)]
theorem mMinus_tidy : ∀ {t s : TL}, Tidy s → Tidy (mMinus s t) := by
  unfold mMinus
  intro t
  induction t with
  | nil => exact fun h => h
  | cons x t ih => exact fun h => ih (mDis_tidy h)
theorem andn_zero (a : Nat) : andn a 0 = a := by simp [andn]
theorem tv_mMinus {t : TL} (ht : Tidy t) : ∀ {s : TL}, Tidy s → ∀ c, tv (mMinus s t) c = andn (tv s c) (tv t c) := by
  unfold mMinus
  induction ht with
  | nil => intro s _ c; simp [tv, andn_zero]
  | @cons x t ht h1 _ h3 h4 ih =>
    intro s hs c
    rw [List.foldl_cons, ih (mDis_tidy hs), tv_mDis hs]
    simp only [tv]
    by_cases e : c = x.1
    · subst e; rw [if_pos rfl, if_pos rfl, tv_lt h1, andn_zero]
    · rw [if_neg e, if_neg (Ne.symm e)]
theorem Tidy.ext {s : TL} (hs : Tidy s) : ∀ {t : TL}, Tidy t → (∀ c, tv s c = tv t c) → s = t := by
  induction hs with
  | nil =>
    intro t ht h
    cases ht with
    | nil => rfl
    | @cons y t _ _ h2 _ _ =>
      have := h y.1
      simp only [tv, if_true] at this
      exact absurd this.symm h2
  | @cons x s hs h1 h2 _ _ ih =>
    intro t ht h
    cases ht with
    | nil =>
      have := h x.1
      simp only [tv, if_true] at this
      exact absurd this h2
    | @cons y t ht k1 k2 _ _ =>
      have hxy : x.1 = y.1 := by
        rcases Nat.lt_trichotomy x.1 y.1 with hl | he | hl
        · have := h x.1
          simp only [tv, if_true] at this
          rw [if_neg (by omega), tv_lt fun z hz => by have := k1 z hz; omega] at this
          exact absurd this h2
        · exact he
        · have := h y.1
          simp only [tv, if_true] at this
          rw [if_neg (by omega), tv_lt fun z hz => by have := h1 z hz; omega] at this
          exact absurd this.symm k2
      have e2 : x.2 = y.2 := by
        have := h x.1
        simp only [tv, if_true] at this
        rw [if_pos hxy.symm] at this
        exact this
      have : s = t := ih ht fun c => by
        have hc := h c
        simp only [tv] at hc
        by_cases e : x.1 = c
        · subst e
          rw [tv_lt h1, tv_lt fun z hz => by rw [hxy]; exact k1 z hz]
        · rw [if_neg e, if_neg (by omega)] at hc
          exact hc
      rw [this, Prod.ext hxy e2]
def lvB (sc : List (Option Nat)) (I : Nat → TL) (b : TL) : TL := sc.foldl (fun b o => match o with | some s => mUnion b (I s) | none => b) b
def lvA (B W R : TL) : TL := mUnion (mMinus B W) R
def updT (I : Nat → TL) (k : Nat) (t : TL) : Nat → TL := fun j => if j = k then t else I j
theorem lvB_tidy {I : Nat → TL} (hI : ∀ k, Tidy (I k)) : ∀ {sc : List (Option Nat)} {b : TL}, Tidy b → Tidy (lvB sc I b) := by
  unfold lvB
  intro sc
  induction sc with
  | nil => exact fun h => h
  | cons o sc ih =>
    intro b hb
    cases o with
    | none => exact ih hb
    | some s => exact ih (mUnion_tidy (hI s) hb)
theorem lvB_bit {I : Nat → TL} (hI : ∀ k, Tidy (I k)) (c i : Nat) : ∀ {sc : List (Option Nat)} {b : TL}, Tidy b → ((tv (lvB sc I b) c).testBit i = true ↔ (tv b c).testBit i = true ∨ ∃ s, some s ∈ sc ∧ (tv (I s) c).testBit i = true) := by
  unfold lvB
  intro sc
  induction sc with
  | nil => intro b _; simp
  | cons o sc ih =>
    intro b hb
    cases o with
    | none =>
      rw [List.foldl_cons, ih hb]
      simp
    | some s =>
      rw [List.foldl_cons, ih (mUnion_tidy (hI s) hb), tv_mUnion (hI s) hb, Nat.testBit_or, Bool.or_eq_true_iff]
      constructor
      · rintro ((h | h) | ⟨z, hz, h⟩)
        · exact .inl h
        · exact .inr ⟨s, by simp, h⟩
        · exact .inr ⟨z, by simp [hz], h⟩
      · rintro (h | ⟨z, hz, h⟩)
        · exact .inl (.inl h)
        · rcases List.mem_cons.1 hz with e | hz
          · injection e with e; subst e; exact .inl (.inr h)
          · exact .inr ⟨z, hz, h⟩
theorem lvA_bit {B W R : TL} (hB : Tidy B) (hW : Tidy W) (hR : Tidy R) (c i : Nat) : (tv (lvA B W R) c).testBit i = true ↔ ((tv B c).testBit i = true ∧ (tv W c).testBit i = false) ∨ (tv R c).testBit i = true := by
  unfold lvA
  rw [tv_mUnion hR (mMinus_tidy hB), tv_mMinus hW hB, Nat.testBit_or, andn_testBit, Bool.or_eq_true_iff, Bool.and_eq_true, Bool.not_eq_true']
theorem lvA_tidy {B W R : TL} (hB : Tidy B) (hR : Tidy R) : Tidy (lvA B W R) := mUnion_tidy hR (mMinus_tidy hB)
structure LF where
  n : Nat
  sc : Nat → List (Option Nat)
  W : Nat → TL
  R : Nat → TL
  U : List Nat
structure LF.Ok (f : LF) : Prop where
  w : ∀ k, Tidy (f.W k)
  r : ∀ k, Tidy (f.R k)
  s : ∀ k s, k < f.n → some s ∈ f.sc k → s < f.n
  u : ∀ k c, k < f.n → tv (f.R k) c ≠ 0 → c ∈ f.U
def LF.flow (f : LF) : Flow := ⟨f.n, fun k => tv (f.R k), fun k => tv (f.W k), fun k s => some s ∈ f.sc k, f.U⟩
def LF.B (f : LF) (I : Nat → TL) (k : Nat) : TL := lvB (f.sc k) I []
def LF.A (f : LF) (I : Nat → TL) (k : Nat) : TL := lvA (f.B I k) (f.W k) (f.R k)
def setsOf (I O : Nat → TL) : Sets := fun p k => if p then tv (O k) else tv (I k)
structure SInv (f : LF) (I O : Nat → TL) : Prop where
  ti : ∀ k, Tidy (I k)
  tO : ∀ k, Tidy (O k)
  inn : ∀ k c b, k < f.n → (tv (I k) c).testBit b = true → LiveIn f.flow.reads f.flow.writes f.flow.succ k c b
  out : ∀ k c b, k < f.n → (tv (O k) c).testBit b = true → LiveOut f.flow.reads f.flow.writes f.flow.succ k c b
  sup : ∀ k c, k < f.n → (tv (I k) c ≠ 0 ∨ tv (O k) c ≠ 0) → c ∈ f.U
  preI : ∀ k, k < f.n → Sub (tv (I k)) (tv (f.A I k))
  preO : ∀ k, k < f.n → Sub (tv (O k)) (tv (f.B I k))
theorem SInv.start (f : LF) : SInv f (fun _ => []) (fun _ => []) :=
  ⟨fun _ => .nil, fun _ => .nil, fun _ _ _ _ h => by simp [tv] at h, fun _ _ _ _ h => by simp [tv] at h, fun _ _ _ h => by simp [tv] at h, fun _ _ _ _ h => by simp [tv] at h, fun _ _ _ _ h => by simp [tv] at h⟩
theorem ne_zero_bit {x : Nat} (h : x ≠ 0) : ∃ i, x.testBit i = true := Nat.exists_testBit_of_ne_zero h
theorem LF.B_mono {f : LF} {I I' : Nat → TL} (hI : ∀ k, Tidy (I k)) (hI' : ∀ k, Tidy (I' k)) (h : ∀ k, Sub (tv (I k)) (tv (I' k))) (k : Nat) : Sub (tv (f.B I k)) (tv (f.B I' k)) := fun c i hb => by
  rw [LF.B, lvB_bit hI' c i .nil]
  rw [LF.B, lvB_bit hI c i .nil] at hb
  rcases hb with hb | ⟨s, hs, hb⟩
  · exact .inl hb
  · exact .inr ⟨s, hs, h s c i hb⟩
theorem LF.A_mono {f : LF} (hf : f.Ok) {I I' : Nat → TL} (hI : ∀ k, Tidy (I k)) (hI' : ∀ k, Tidy (I' k)) (h : ∀ k, Sub (tv (I k)) (tv (I' k))) (k : Nat) : Sub (tv (f.A I k)) (tv (f.A I' k)) := fun c i hb => by
  rw [LF.A, lvA_bit (B := f.B I' k) (lvB_tidy hI' .nil) (hf.w k) (hf.r k)]
  rw [LF.A, lvA_bit (B := f.B I k) (lvB_tidy hI .nil) (hf.w k) (hf.r k)] at hb
  rcases hb with ⟨h1, h2⟩ | hb
  · exact .inl ⟨LF.B_mono hI hI' h k c i h1, h2⟩
  · exact .inr hb
theorem SInv.step {f : LF} (hf : f.Ok) {I O : Nat → TL} (h : SInv f I O) {k : Nat} (hk : k < f.n) :
    SInv f (updT I k (f.A I k)) (updT O k (f.B I k)) ∧ (∀ p j, Sub (setsOf I O p j) (setsOf (updT I k (f.A I k)) (updT O k (f.B I k)) p j)) ∧
      ((f.B I k ≠ O k ∨ f.A I k ≠ I k) → missing f.n f.U (setsOf (updT I k (f.A I k)) (updT O k (f.B I k))) < missing f.n f.U (setsOf I O)) := by
  have tB : Tidy (f.B I k) := lvB_tidy h.ti .nil
  have tA : Tidy (f.A I k) := lvA_tidy tB (hf.r k)
  have tI' : ∀ j, Tidy (updT I k (f.A I k) j) := fun j => by unfold updT; split; exact tA; exact h.ti j
  have hB : ∀ c b, (tv (f.B I k) c).testBit b = true → LiveOut f.flow.reads f.flow.writes f.flow.succ k c b := fun c b hb => by
    rw [LF.B, lvB_bit h.ti c b .nil] at hb
    rcases hb with hb | ⟨s, hs, hb⟩
    · simp [tv] at hb
    · have hs' := hf.s k s hk hs
      exact ⟨s, ⟨hk, hs', hs⟩, h.inn s c b hs' hb⟩
  have hA : ∀ c b, (tv (f.A I k) c).testBit b = true → LiveIn f.flow.reads f.flow.writes f.flow.succ k c b := fun c b hb => by
    rw [LF.A, lvA_bit tB (hf.w k) (hf.r k)] at hb
    refine LiveIn.cases_iff.2 ?_
    rcases hb with ⟨h1, h2⟩ | hb
    · refine .inr ⟨hB c b h1, fun hw => ?_⟩
      have hw : (tv (f.W k) c).testBit b = true := hw
      rw [h2] at hw; cases hw
    · exact .inl ⟨hk, hb⟩
  have uB : ∀ c, tv (f.B I k) c ≠ 0 → c ∈ f.U := fun c hc => by
    obtain ⟨i, hi⟩ := ne_zero_bit hc
    rw [LF.B, lvB_bit h.ti c i .nil] at hi
    rcases hi with hi | ⟨s, hs, hi⟩
    · simp [tv] at hi
    · exact h.sup s c (hf.s k s hk hs) (.inl fun e => by rw [e] at hi; simp at hi)
  have uA : ∀ c, tv (f.A I k) c ≠ 0 → c ∈ f.U := fun c hc => by
    obtain ⟨i, hi⟩ := ne_zero_bit hc
    rw [LF.A, lvA_bit tB (hf.w k) (hf.r k)] at hi
    rcases hi with ⟨h1, _⟩ | hi
    · exact uB c fun e => by rw [e] at h1; simp at h1
    · exact hf.u k c hk fun e => by rw [e] at hi; simp at hi
  have mI : ∀ j, Sub (tv (I j)) (tv (updT I k (f.A I k) j)) := fun j => by
    unfold updT
    split
    · rename_i e; rw [e]; exact h.preI k hk
    · exact Sub.refl _
  have mO : ∀ j, Sub (tv (O j)) (tv (updT O k (f.B I k) j)) := fun j => by
    unfold updT
    split
    · rename_i e; rw [e]; exact h.preO k hk
    · exact Sub.refl _
  have hsub : ∀ p j, Sub (setsOf I O p j) (setsOf (updT I k (f.A I k)) (updT O k (f.B I k)) p j) := fun p j => by
    cases p
    · exact mI j
    · exact mO j
  refine ⟨⟨tI', fun j => by unfold updT; split; exact tB; exact h.tO j, fun j c b hj hb => ?_, fun j c b hj hb => ?_, fun j c hj hc => ?_, fun j hj => ?_, fun j hj => ?_⟩, hsub, fun hne => ?_⟩
  · unfold updT at hb
    split at hb
    · rename_i e; subst e; exact hA c b hb
    · exact h.inn j c b hj hb
  · unfold updT at hb
    split at hb
    · rename_i e; subst e; exact hB c b hb
    · exact h.out j c b hj hb
  · unfold updT at hc
    by_cases e : j = k
    · rw [if_pos e, if_pos e] at hc; exact hc.elim (uA c) (uB c)
    · rw [if_neg e, if_neg e] at hc; exact h.sup j c hj hc
  · have hm := LF.A_mono hf h.ti tI' mI j
    intro c i hb
    unfold updT at hb
    split at hb
    · rename_i e; subst e; exact hm c i hb
    · exact hm c i (h.preI j hj c i hb)
  · have hm := LF.B_mono (f := f) h.ti tI' mI j
    intro c i hb
    unfold updT at hb
    split at hb
    · rename_i e; subst e; exact hm c i hb
    · exact hm c i (h.preO j hj c i hb)
  · have key : ∀ (s t : TL), Tidy s → Tidy t → Sub (tv s) (tv t) → t ≠ s → ∃ c i, (tv s c).testBit i = false ∧ (tv t c).testBit i = true := by
      intro s t hs ht hst hne
      apply Classical.byContradiction
      intro hn
      refine hne (ht.ext hs fun c => Nat.eq_of_testBit_eq fun i => ?_)
      cases h1 : (tv s c).testBit i
      · cases h2 : (tv t c).testBit i
        · rfl
        · exact absurd ⟨c, i, h1, h2⟩ hn
      · rw [hst c i h1]
    rcases hne with hne | hne
    · obtain ⟨c, i, h1, h2⟩ := key _ _ (h.tO k) tB (h.preO k hk) hne
      exact missing_lt hsub (p := true) hk (uB c fun e => by rw [e] at h2; simp at h2) (bit_lt (tv_lt16 tB c) h2) h1 (by show (tv (updT O k (f.B I k) k) c).testBit i = true; rw [updT, if_pos rfl]; exact h2)
    · obtain ⟨c, i, h1, h2⟩ := key _ _ (h.ti k) tA (h.preI k hk) hne
      exact missing_lt hsub (p := false) hk (uA c fun e => by rw [e] at h2; simp at h2) (bit_lt (tv_lt16 tA c) h2) h1 (by show (tv (updT I k (f.A I k) k) c).testBit i = true; rw [updT, if_pos rfl]; exact h2)
def tlOf (gs : List G) : TL := gs.foldl (fun s g => mAdd s g.id g.spec) []
theorem tlOf_spec {gs : List G} (hg : ∀ g ∈ gs, g.Ok) : Tidy (tlOf gs) ∧ tv (tlOf gs) = ofGs gs := by
  unfold tlOf ofGs
  have key : ∀ (gs : List G) (s : TL), (∀ g ∈ gs, g.Ok) → Tidy s → Tidy (gs.foldl (fun s g => mAdd s g.id g.spec) s) ∧ tv (gs.foldl (fun s g => mAdd s g.id g.spec) s) = gs.foldl (fun F g => orM F g.id g.spec) (tv s) := by
    intro gs
    induction gs with
    | nil => exact fun s _ hs => ⟨hs, rfl⟩
    | cons g gs ih =>
      intro s hg hs
      have ok := hg g (by simp)
      have h1 := ok.kind
      have h2 := ok.idx
      have h3 := ok.spec
      have := ih (mAdd s g.id g.spec) (fun x hx => hg x (by simp [hx])) (mAdd_tidy hs (by omega) (by unfold G.id; cases g.virt <;> simp <;> omega))
      rw [List.foldl_cons, List.foldl_cons, ← tv_mAdd hs]
      exact this
  have := key gs [] hg .nil
  exact this
end
section
open Go Go.RowKit Bth
set_option maxRecDepth 100000
def tlV (x : Nat × Nat) : List Value := [.int .u32 (x.1 : Int), .int .u16 (x.2 : Int)]
def tlCells (s : TL) : List Value := s.flatMap tlV
theorem tlV_len (x : Nat × Nat) : (tlV x).length = 2 := rfl
theorem tlCells_app (a b : TL) : tlCells (a ++ b) = tlCells a ++ tlCells b := List.flatMap_append
def TlAt (w : World) (A : Option Addr) (s : TL) : Prop := Rw w 47 2 A s.length (tlCells s)
theorem infoLv : (Tryz.prog.info? 47).map (fun i => (i.zero, i.size, i.bytes)) = some (some (.agg #[.int .u32 0, .int .u16 0]), 2, 8) := by kernel_rfl
theorem Tidy.len {s : TL} (h : Tidy s) : s.length ≤ 4294967296 := by
  have key : ∀ {s : TL}, Tidy s → ∀ lo, (∀ x ∈ s, lo ≤ x.1) → s.length ≤ 4294967296 - lo := by
    intro s h
    induction h with
    | nil => intro lo _; simp
    | @cons x t _ h1 _ _ h4 ih =>
      intro lo hlo
      have := hlo x (by simp)
      have := ih (x.1 + 1) (fun y hy => h1 y hy)
      rw [List.length_cons]
      omega
  have := key h 0 (fun _ _ => Nat.zero_le _)
  omega
theorem mIns_skip {id m : Nat} : ∀ {a b : TL}, (∀ x ∈ a, x.1 < id) → mIns id m (a ++ b) = a ++ mIns id m b := by
  intro a
  induction a with
  | nil => intro b _; rfl
  | cons x a ih =>
    intro b h
    rw [List.cons_append, mIns, if_pos (h x (by simp)), ih fun y hy => h y (by simp [hy])]
    rfl
theorem drop_cons {α : Type} {l : List α} {k : Nat} {x : α} (h : l[k]? = some x) : l.drop k = x :: l.drop (k + 1) := by
  obtain ⟨hl, e⟩ := List.getElem?_eq_some_iff.1 h
  rw [← e]
  exact List.drop_eq_getElem_cons hl
def AddIt (s : TL) (id m k : Nat) (done : Bool) (out : TL) : Prop := if done then out ++ s.drop k = mIns id m s else out = s.take k ∧ ∀ x ∈ s.take k, x.1 < id
def GivesTL (w : World) (s : TL) (e : Ending) (w' : World) : Prop := Fr nope w w' ∧ ∃ A c, e = .returned (.slice A s.length c) ∧ TlAt w' A s
set_option maxHeartbeats 2000000 in
theorem maskAdd_calls (w : World) (A : Option Addr) (c : Nat) (s : TL) (id m : Nat) (h : TlAt w A s) (hs : Tidy s) (hm : m < 65536) : Calls Tryz.prog 124 #[.slice A s.length c, .int .u32 (id : Int), .int .u16 (m : Int)] w (GivesTL w (mAdd s id m)) := by
  have hsl := hs.len
  by_cases h0 : m = 0
  · subst h0
    have e : mAdd s id 0 = s := by simp [mAdd]
    rw [e]
    go_enter Tryz.func124, Tryz.ntmps124
    go_wp2
    go_ret
    exact ⟨Fr.refl _ _, A, c, rfl, h⟩
  have h0' : ((m : Int) == 0) = false := by simp; omega
  have e : mAdd s id m = mIns id m s := by simp [mAdd, h0]
  rw [e]
  clear e
  obtain ⟨R, hR⟩ : ∃ R, R = mIns id m s := ⟨_, rfl⟩
  rw [← hR]
  replace hR := Lib.hid hR
  go_enter Tryz.func124, Tryz.ntmps124
  go_wp2
  clear h0 h0'
  go_loopg [7, 8, 9] s.length (fun n c7 c8 c9 wr => ∃ (k : Nat) (done : Bool) (out : TL) (A2 : Option Addr) (c2 : Nat), k ≤ s.length ∧ out.length ≤ k + 1 ∧ Hid (AddIt s id m k done out) ∧ c9 = .int .i64 (k : Int) ∧ c8 = .bool done ∧ c7 = .slice A2 out.length c2 ∧ wr.ownsRow w.heap.size 47 2 (.slice A2 out.length c2) out.length (tlCells out) ∧ Fr nope w wr ∧ n = s.length - k)
  case atStart => exact ⟨0, false, [], none, 0, Nat.zero_le _, by simp, Lib.hid (by simp [AddIt]), rfl, rfl, rfl, own_nil _ _ _ _, Fr.refl _ _, rfl⟩
  case round =>
    obtain ⟨k, done, out, A2, c2, hk, hol, hit, rfl, rfl, rfl, hown, hf, rfl⟩ := hrel
    have hsz := hf.size
    have hbo := own_base hown
    by_cases hlt : k < s.length
    · obtain ⟨⟨x1, x2⟩, hx⟩ : ∃ x, s[k]? = some x := ⟨_, List.getElem?_eq_getElem hlt⟩
      obtain ⟨b, off, hAe, hbl, hr⟩ := h.at_ tlV_len hx
      subst hAe
      have hw0 : ∀ W, Fr nope w W → W.cell? ⟨b, off + k * 2, none⟩ = some (.int .u32 (x1 : Int)) := fun W hW => hW.cell (hr 0 _ rfl) (fun x => x)
      have hw1 : ∀ W, Fr nope w W → W.cell? ⟨b, off + k * 2 + 1, none⟩ = some (.int .u16 (x2 : Int)) := fun W hW => hW.cell (hr 1 _ rfl) (fun x => x)
      have hc0 := hw0 wr hf
      have hc1 := hw1 wr hf
      replace hw0 := Lib.hid hw0
      replace hw1 := Lib.hid hw1
      have hx2 : x2 < 65536 := (hs.bound _ (List.mem_of_getElem? hx)).2.1
      have hor := u16_or x2 m hx2 hm
      have hD := Lib.hid (drop_cons hx)
      have hT := Lib.hid (take_snoc hx)
      clear hr hx
      have hstep : ∀ (done' : Bool) (out' : TL) {W : World} {A3 : Option Addr} {c3 n3 : Nat}, n3 = out'.length → out'.length ≤ k + 2 → AddIt s id m (k + 1) done' out' → W.ownsRow w.heap.size 47 2 (.slice A3 n3 c3) n3 (tlCells out') → Fr nope w W →
          ∃ (k' : Nat) (done : Bool) (o : TL) (A2 : Option Addr) (c2 : Nat), k' ≤ s.length ∧ o.length ≤ k' + 1 ∧ Hid (AddIt s id m k' done o) ∧ Value.int .i64 ((k : Int) + 1) = .int .i64 (k' : Int) ∧ Value.bool done' = .bool done ∧ Value.slice A3 n3 c3 = .slice A2 o.length c2 ∧ W.ownsRow w.heap.size 47 2 (.slice A2 o.length c2) o.length (tlCells o) ∧ Fr nope w W ∧ s.length - (k + 1) = s.length - k' :=
        fun done' out' W A3 c3 n3 h1 h1' h2 h3 h4 => by
          subst h1
          exact ⟨k + 1, done', out', A3, c3, by omega, by omega, Lib.hid h2, by simp, rfl, rfl, h3, h4, rfl⟩
      replace hstep := Lib.hid hstep
      cases done with
      | true =>
        have ha : AddIt s id m (k + 1) true (out ++ [(x1, x2)]) := by
          have h1 := hit.out
          simp only [AddIt, if_true] at h1 ⊢
          rw [hD.out] at h1
          rw [← h1]; simp
        replace ha := Lib.hid ha
        go_wp2_with (first
          | (refine wpList_build1 (l := tlV (x1, x2)) rfl rfl rfl Tryz.underlying45 infoLv rfl (by omega) (by decide) ?_)
          | refine wpList_app (v := .slice A2 out.length c2) rfl rfl Tryz.underlying45 infoLv rfl (by omega) rfl (own_fr hown ((Fr.refl nope _).alloc _) (fun _ _ x => x)) rfl (news := tlV (x1, x2)) rfl (fun _ => cells_new _ _ _ _ (by simp)) (by simp [tlV, Value.oneCell']) (by simp only [maxLen]; omega) (by omega) (by simp; omega) ?hk)
        case hk =>
          intro v4 w4 hown4 hf4 hb4
          obtain ⟨A4, c4, rfl, _, _⟩ := own_slice hown4
          clear hb4
          go_wp2
          go_roundg (s.length - (k + 1))
          case measure => omega
          case rel => exact hstep.out true (out ++ [(x1, x2)]) (by simp) (by simp; omega) ha.out (by rw [tlCells_app]; simpa [tlCells] using hown4) ((hf.alloc _).then_new hf4 (fun x hx e => by have := hbo x e; omega))
      | false =>
        obtain ⟨he, hlow⟩ : out = s.take k ∧ ∀ x ∈ s.take k, x.1 < id := hit.out
        have hsk : mIns id m s = out ++ mIns id m ((x1, x2) :: s.drop (k + 1)) := by
          conv => lhs; rw [← List.take_append_drop k s, hD.out]
          rw [mIns_skip hlow, he]
        have hol2 : out.length ≤ k := by rw [he, List.length_take]; omega
        clear he
        replace hlow := Lib.hid hlow
        by_cases hge : id ≤ x1
        · have hge' : (id : Int) ≤ (x1 : Int) := by omega
          by_cases heq : x1 = id
          · have ha : AddIt s id m (k + 1) true (out ++ [(id, x2 ||| m)]) := by
              simp only [AddIt, if_true]
              rw [hsk, mIns, if_neg (by simp only; omega), if_pos heq]; simp
            replace ha := Lib.hid ha
            replace hsk := Lib.hid hsk
            subst heq
            replace hor := Lib.hid hor
            go_wp2_with (first
              | (refine wpList_build1 (l := tlV (x1, x2 ||| m)) rfl rfl (by rw [tlV, ← hor.out]; rfl) Tryz.underlying45 infoLv rfl (by omega) (by decide) ?_)
              | refine wpList_app (v := .slice A2 out.length c2) rfl rfl Tryz.underlying45 infoLv rfl (by omega) rfl (own_fr hown ((Fr.refl nope _).alloc _) (fun _ _ x => x)) rfl (news := tlV (x1, x2 ||| m)) rfl (fun _ => cells_new _ _ _ _ (by simp)) (by simp [tlV, Value.oneCell']) (by simp only [maxLen]; omega) (by omega) (by simp; omega) ?hk)
            case hk =>
              intro v4 w4 hown4 hf4 hb4
              obtain ⟨A4, c4, rfl, _, _⟩ := own_slice hown4
              clear hb4
              go_wp2
              go_roundg (s.length - (k + 1))
              case measure => omega
              case rel => exact hstep.out true (out ++ [(x1, x2 ||| m)]) (by simp) (by simp; omega) ha.out (by rw [tlCells_app]; simpa [tlCells] using hown4) ((hf.alloc _).then_new hf4 (fun x hx e => by have := hbo x e; omega))
          · have heq' : (x1 : Int) ≠ (id : Int) := by omega
            have ha : AddIt s id m (k + 1) true (out ++ [(id, m)] ++ [(x1, x2)]) := by
              simp only [AddIt, if_true]
              rw [hsk, mIns, if_neg (by simp only; omega), if_neg heq]; simp
            replace ha := Lib.hid ha
            replace hsk := Lib.hid hsk
            clear hor
            go_wp2_with (first
              | (refine wpList_build1 (l := tlV (id, m)) rfl rfl rfl Tryz.underlying45 infoLv rfl (by omega) (by decide) ?_)
              | refine wpList_app (v := .slice A2 out.length c2) rfl rfl Tryz.underlying45 infoLv rfl (by omega) rfl (own_fr hown ((Fr.refl nope _).alloc _) (fun _ _ x => x)) rfl (news := tlV (id, m)) rfl (fun _ => cells_new _ _ _ _ (by simp)) (by simp [tlV, Value.oneCell']) (by simp only [maxLen]; omega) (by omega) (by simp; omega) ?hk)
            case hk =>
              intro v3 w3 hown3 hf3 hb3
              obtain ⟨A3, c3, rfl, _, _⟩ := own_slice hown3
              clear hb3
              have hn3 : Fr nope w w3 := (hf.alloc _).then_new hf3 (fun x hx e => by have := hbo x e; omega)
              have hc0 := hw0.out w3 hn3
              have hc1 := hw1.out w3 hn3
              have hbo3 := own_base hown3
              have hsz3 := hn3.size
              go_wp2_with (first
                | (refine wpList_build1 (l := tlV (x1, x2)) rfl rfl rfl Tryz.underlying45 infoLv rfl (by omega) (by decide) ?_)
                | refine wpList_app (v := .slice A3 (out.length + 1) c3) rfl rfl Tryz.underlying45 infoLv rfl (by omega) rfl (own_fr hown3 ((Fr.refl nope _).alloc _) (fun _ _ x => x)) rfl (news := tlV (x1, x2)) rfl (fun _ => cells_new _ _ _ _ (by simp)) (by simp [tlV, Value.oneCell']) (by simp only [maxLen]; omega) (by omega) (by simp; omega) ?hm)
              case hm =>
                intro v4 w4 hown4 hf4 hb4
                obtain ⟨A4, c4, rfl, _, _⟩ := own_slice hown4
                clear hb4
                go_wp2
                go_roundg (s.length - (k + 1))
                case measure => omega
                case rel => exact hstep.out true (out ++ [(id, m)] ++ [(x1, x2)]) (by simp) (by simp; omega) ha.out (by rw [tlCells_app]; simpa [tlCells] using hown4) ((hn3.alloc _).then_new hf4 (fun x hx e => by have := hbo3 x e; omega))
        · have hge' : ¬ (id : Int) ≤ (x1 : Int) := by omega
          have ha : AddIt s id m (k + 1) false (out ++ [(x1, x2)]) := by
            obtain ⟨he, hl⟩ : out = s.take k ∧ ∀ x ∈ s.take k, x.1 < id := hit.out
            show out ++ [(x1, x2)] = s.take (k + 1) ∧ ∀ x ∈ s.take (k + 1), x.1 < id
            rw [hT.out, ← he]
            refine ⟨rfl, fun x hx => ?_⟩
            rcases List.mem_append.1 hx with hx | hx
            · exact hl x (by rw [← he]; exact hx)
            · obtain rfl : x = (x1, x2) := by simpa using hx
              show x1 < id
              omega
          replace ha := Lib.hid ha
          replace hsk := Lib.hid hsk
          clear hor
          go_wp2_with (first
            | (refine wpList_build1 (l := tlV (x1, x2)) rfl rfl rfl Tryz.underlying45 infoLv rfl (by omega) (by decide) ?_)
            | refine wpList_app (v := .slice A2 out.length c2) rfl rfl Tryz.underlying45 infoLv rfl (by omega) rfl (own_fr hown ((Fr.refl nope _).alloc _) (fun _ _ x => x)) rfl (news := tlV (x1, x2)) rfl (fun _ => cells_new _ _ _ _ (by simp)) (by simp [tlV, Value.oneCell']) (by simp only [maxLen]; omega) (by omega) (by simp; omega) ?hk)
          case hk =>
            intro v4 w4 hown4 hf4 hb4
            obtain ⟨A4, c4, rfl, _, _⟩ := own_slice hown4
            clear hb4
            go_wp2
            go_roundg (s.length - (k + 1))
            case measure => omega
            case rel => exact hstep.out false (out ++ [(x1, x2)]) (by simp) (by simp; omega) ha.out (by rw [tlCells_app]; simpa [tlCells] using hown4) ((hf.alloc _).then_new hf4 (fun x hx e => by have := hbo x e; omega))
    · have hdr : s.drop k = [] := List.drop_eq_nil_of_le (by omega)
      cases done with
      | true =>
        obtain rfl : R = out := by
          have h1 := hit.out
          simp only [AddIt, if_true, hdr, List.append_nil] at h1
          rw [hR.out, h1]
        go_wp2
        go_ret
        exact ⟨hf, A2, c2, rfl, Rw.of_own hown⟩
      | false =>
        have hres : R = out ++ [(id, m)] := by
          rw [hR.out]
          obtain ⟨he, hl⟩ : out = s.take k ∧ ∀ x ∈ s.take k, x.1 < id := hit.out
          have e : s = s.take k ++ [] := by rw [List.append_nil, take_all hlt]
          conv => lhs; rw [e]
          rw [mIns_skip hl, he]; rfl
        subst hres
        clear hdr
        go_wp2_with (first
          | (refine wpList_build1 (l := tlV (id, m)) rfl rfl rfl Tryz.underlying45 infoLv rfl (by omega) (by decide) ?_)
          | refine wpList_app (v := .slice A2 out.length c2) rfl rfl Tryz.underlying45 infoLv rfl (by omega) rfl (own_fr hown ((Fr.refl nope _).alloc _) (fun _ _ x => x)) rfl (news := tlV (id, m)) rfl (fun _ => cells_new _ _ _ _ (by simp)) (by simp [tlV, Value.oneCell']) (by simp only [maxLen]; omega) (by omega) (by simp; omega) ?hk)
        case hk =>
          intro v4 w4 hown4 hf4 hb4
          obtain ⟨A4, c4, rfl, _, _⟩ := own_slice hown4
          clear hb4
          go_wp2
          go_ret
          have hl : (out ++ [(id, m)]).length = out.length + 1 := by simp
          refine ⟨(hf.alloc _).then_new hf4 (fun x hx e => by have := hbo x e; omega), A4, c4, by rw [hl]; rfl, ?_⟩
          rw [TlAt, hl, tlCells_app]
          exact Rw.of_own hown4
end
section
open Go Go.RowKit Bth
set_option maxRecDepth 100000
theorem mDis_take {s : TL} {k : Nat} {x : Nat × Nat} (id m : Nat) (h : s[k]? = some x) : mDis (s.take (k + 1)) id m = mDis (s.take k) id m ++ (if (mDis1 id m x).2 = 0 then [] else [mDis1 id m x]) := by
  unfold mDis
  rw [take_snoc h, List.map_append, List.filter_append]
  by_cases e : (mDis1 id m x).2 = 0 <;> simp [e]
set_option maxHeartbeats 1000000 in
theorem maskDiscard_calls (w : World) (A : Option Addr) (c : Nat) (s : TL) (id m : Nat) (h : TlAt w A s) (hs : Tidy s) (hm : m < 65536) : Calls Tryz.prog 125 #[.slice A s.length c, .int .u32 (id : Int), .int .u16 (m : Int)] w (GivesTL w (mDis s id m)) := by
  have hsl := hs.len
  go_enter Tryz.func125, Tryz.ntmps125
  go_wp2
  go_loopg [7, 8] s.length (fun n c7 c8 wr => ∃ (k : Nat) (out : TL) (A2 : Option Addr) (c2 : Nat), k ≤ s.length ∧ out.length ≤ k ∧ Hid (out = mDis (s.take k) id m) ∧ c8 = .int .i64 (k : Int) ∧ c7 = .slice A2 out.length c2 ∧ wr.ownsRow w.heap.size 47 2 (.slice A2 out.length c2) out.length (tlCells out) ∧ Fr nope w wr ∧ n = s.length - k)
  case atStart => exact ⟨0, [], none, 0, Nat.zero_le _, by simp, Lib.hid (by simp [mDis]), rfl, rfl, own_nil _ _ _ _, Fr.refl _ _, rfl⟩
  case round =>
    obtain ⟨k, out, A2, c2, hk, hol, hit, rfl, rfl, hown, hf, rfl⟩ := hrel
    have hsz := hf.size
    have hbo := own_base hown
    by_cases hlt : k < s.length
    · obtain ⟨⟨x1, x2⟩, hx⟩ : ∃ x, s[k]? = some x := ⟨_, List.getElem?_eq_getElem hlt⟩
      obtain ⟨b, off, hAe, hbl, hr⟩ := h.at_ tlV_len hx
      subst hAe
      have hc0 : wr.cell? ⟨b, off + k * 2, none⟩ = some (.int .u32 (x1 : Int)) := hf.cell (hr 0 _ rfl) (fun x => x)
      have hc1 : wr.cell? ⟨b, off + k * 2 + 1, none⟩ = some (.int .u16 (x2 : Int)) := hf.cell (hr 1 _ rfl) (fun x => x)
      have hx2 := (hs.bound _ (List.mem_of_getElem? hx)).2
      have hand := Lib.hid (u16_andNot x2 m hx2.1 hm)
      have hD := mDis_take id m hx
      have hblw : b < wr.heap.size := by omega
      clear hr hx
      by_cases heq : x1 = id
      · subst heq
        have e1 : mDis1 x1 m (x1, x2) = (x1, andn x2 m) := by simp [mDis1]
        rw [e1] at hD
        by_cases h0 : andn x2 m = 0
        · rw [if_pos h0, List.append_nil] at hD
          replace hD := Lib.hid hD
          have h00 : bits .andNot .u16 (x2 : Int) (m : Int) = 0 := by rw [hand.out, h0]; rfl
          clear h0
          go_wp2
          go_roundg (s.length - (k + 1))
          case measure => omega
          case rel => exact ⟨k + 1, out, A2, c2, by omega, by omega, Lib.hid (by rw [hD.out, ← hit.out]), by go_num, rfl, own_fr hown ((Fr.refl nope _).alloc _) (fun _ _ x => x), hf.alloc _, rfl⟩
        · rw [if_neg h0] at hD
          replace hD := Lib.hid hD
          obtain ⟨y, hy⟩ : ∃ y, y = andn x2 m := ⟨_, rfl⟩
          rw [← hy] at hD h0 hand
          have h00 : bits .andNot .u16 (x2 : Int) (m : Int) = (y : Int) := hand.out
          have hy0 : (y : Int) ≠ 0 := by omega
          have hy1 : ((y : Int) == 0) = false := by simp; omega
          clear h0 hy e1 hand
          go_wp2_with (first
            | (refine wpList_build1 (l := tlV (x1, y)) rfl rfl rfl Tryz.underlying45 infoLv rfl (by omega) (by decide) ?_)
            | refine wpList_app (v := .slice A2 out.length c2) rfl rfl Tryz.underlying45 infoLv rfl (by omega) rfl (own_fr (own_fr hown ((Fr.refl nope _).alloc _) (fun _ _ x => x)) ((Fr.refl nope _).alloc _) (fun _ _ x => x)) rfl (news := tlV (x1, y)) rfl (fun _ => cells_new _ _ _ _ (by simp)) (by simp [tlV, Value.oneCell']) (by simp only [maxLen]; omega) (by omega) (by simp; omega) ?hk)
          case hk =>
            intro v4 w4 hown4 hf4 hb4
            obtain ⟨A4, c4, rfl, _, _⟩ := own_slice hown4
            clear hb4
            go_wp2
            go_roundg (s.length - (k + 1))
            case measure => omega
            case rel => exact ⟨k + 1, out ++ [(x1, y)], A4, c4, by omega, by simp; omega, Lib.hid (by rw [hD.out, ← hit.out]), by go_num, by simp, by rw [tlCells_app, List.length_append]; simpa [tlCells] using hown4, ((hf.alloc _).alloc _).then_new hf4 (fun x hx e => by have := hbo x e; omega), rfl⟩
      · have e1 : mDis1 id m (x1, x2) = (x1, x2) := by simp [mDis1, heq]
        rw [e1, if_neg hx2.2] at hD
        replace hD := Lib.hid hD
        have heq' : (x1 : Int) ≠ (id : Int) := by omega
        have heq2 : ((x1 : Int) == (id : Int)) = false := by simp; omega
        have hy0 : (x2 : Int) ≠ 0 := by have := hx2.2; omega
        have hy1 : ((x2 : Int) == 0) = false := by simp; have := hx2.2; omega
        clear hx2 e1 heq hand
        go_wp2_with (first
          | (refine wpList_build1 (l := tlV (x1, x2)) rfl rfl rfl Tryz.underlying45 infoLv rfl (by omega) (by decide) ?_)
          | refine wpList_app (v := .slice A2 out.length c2) rfl rfl Tryz.underlying45 infoLv rfl (by omega) rfl (own_fr (own_fr hown ((Fr.refl nope _).alloc _) (fun _ _ x => x)) ((Fr.refl nope _).alloc _) (fun _ _ x => x)) rfl (news := tlV (x1, x2)) rfl (fun _ => cells_new _ _ _ _ (by simp)) (by simp [tlV, Value.oneCell']) (by simp only [maxLen]; omega) (by omega) (by simp; omega) ?hk)
        case hk =>
          intro v4 w4 hown4 hf4 hb4
          obtain ⟨A4, c4, rfl, _, _⟩ := own_slice hown4
          clear hb4
          go_wp2
          go_roundg (s.length - (k + 1))
          case measure => omega
          case rel => exact ⟨k + 1, out ++ [(x1, x2)], A4, c4, by omega, by simp; omega, Lib.hid (by rw [hD.out, ← hit.out]), by go_num, by simp, by rw [tlCells_app, List.length_append]; simpa [tlCells] using hown4, ((hf.alloc _).alloc _).then_new hf4 (fun x hx e => by have := hbo x e; omega), rfl⟩
    · rw [take_all hlt] at hit
      obtain rfl := hit.out
      go_wp2
      go_ret
      exact ⟨hf, A2, c2, rfl, Rw.of_own hown⟩
theorem SameLive_calls (w : World) (A B : Option Addr) (c d : Nat) (s t : TL) (h : TlAt w A s) (k : TlAt w B t) (hs : s.length ≤ 4294967296) : Calls Tryz.prog 86 #[.slice A s.length c, .slice B t.length d] w fun e w' => e = .returned (.bool (decide (s = t))) ∧ Fr nope w w' := by
  by_cases hl : s.length = t.length
  · rw [← hl]
    go_enter Tryz.func86, Tryz.ntmps86
    go_wp2
    go_loopg [5] s.length (fun n c5 wr => ∃ k : Nat, k ≤ s.length ∧ Hid (s.take k = t.take k) ∧ c5 = .int .i64 (k : Int) ∧ Fr nope w wr ∧ n = s.length - k)
    case atStart => exact ⟨0, Nat.zero_le _, Lib.hid (by simp), rfl, Fr.refl _ _, rfl⟩
    case round =>
      obtain ⟨k0, hk, heq, rfl, hf, rfl⟩ := hrel
      by_cases hlt : k0 < s.length
      · obtain ⟨⟨x1, x2⟩, hx⟩ : ∃ x, s[k0]? = some x := ⟨_, List.getElem?_eq_getElem hlt⟩
        obtain ⟨⟨y1, y2⟩, hy⟩ : ∃ x, t[k0]? = some x := ⟨_, List.getElem?_eq_getElem (show k0 < t.length by omega)⟩
        obtain ⟨b, off, hAe, hbl, hr⟩ := h.at_ tlV_len hx
        obtain ⟨b', off', hBe, hbl', hr'⟩ := k.at_ tlV_len hy
        subst hAe hBe
        have hc0 : wr.cell? ⟨b, off + k0 * 2, none⟩ = some (.int .u32 (x1 : Int)) := hf.cell (hr 0 _ rfl) (fun x => x)
        have hc1 : wr.cell? ⟨b, off + k0 * 2 + 1, none⟩ = some (.int .u16 (x2 : Int)) := hf.cell (hr 1 _ rfl) (fun x => x)
        have hd0 : wr.cell? ⟨b', off' + k0 * 2, none⟩ = some (.int .u32 (y1 : Int)) := hf.cell (hr' 0 _ rfl) (fun x => x)
        have hd1 : wr.cell? ⟨b', off' + k0 * 2 + 1, none⟩ = some (.int .u16 (y2 : Int)) := hf.cell (hr' 1 _ rfl) (fun x => x)
        have hTs := Lib.hid (take_snoc hx)
        have hTt := Lib.hid (take_snoc hy)
        have hne : (x1, x2) ≠ (y1, y2) → s ≠ t := fun hn e => hn (by rw [e, hy] at hx; injection hx with hx; exact hx.symm)
        replace hne := Lib.hid hne
        clear hr hr' hx hy
        by_cases e1 : x1 = y1
        · by_cases e2 : x2 = y2
          · subst e1 e2
            have hn := Lib.hid (show s.take (k0 + 1) = t.take (k0 + 1) by rw [hTs.out, hTt.out, heq.out])
            go_wp2
            go_quiet (fail)
            go_wp2
            go_roundg (s.length - (k0 + 1))
            case measure => omega
            case rel => exact ⟨k0 + 1, by omega, hn, by go_num, hf.drewN _, rfl⟩
          · have hno := hne.out (fun e => e2 (by injection e))
            replace hno := Lib.hid hno
            subst e1
            have e2' : (x2 : Int) ≠ (y2 : Int) := by omega
            clear e2
            go_wp2
            go_quiet (fail)
            go_wp2
            go_ret
            exact ⟨by rw [decide_eq_false hno.out]; rfl, hf.drewN _⟩
        · have hno := hne.out (fun e => e1 (by injection e))
          replace hno := Lib.hid hno
          have e1' : (x1 : Int) ≠ (y1 : Int) := by omega
          clear e1
          go_wp2
          go_quiet (fail)
          go_wp2
          go_ret
          exact ⟨by rw [decide_eq_false hno.out]; rfl, hf.drewN _⟩
      · have e : s = t := by
          have h1 := heq.out
          rw [take_all hlt, take_all (l := t) (by omega)] at h1
          exact h1
        replace e := Lib.hid e
        go_wp2
        go_ret
        exact ⟨by rw [decide_eq_true e.out]; rfl, hf⟩
  · rw [decide_eq_false (fun e => hl (by rw [e]))]
    have hl' : (s.length : Int) ≠ (t.length : Int) := by omega
    go_enter Tryz.func86, Tryz.ntmps86
    go_wp2
    go_ret
    exact ⟨rfl, Fr.refl _ _⟩
end
section
open Go Go.RowKit Bth
set_option maxRecDepth 100000
theorem mUnion_take {s t : TL} {k : Nat} {x : Nat × Nat} (h : t[k]? = some x) : mUnion s (t.take (k + 1)) = mAdd (mUnion s (t.take k)) x.1 x.2 := by
  unfold mUnion
  rw [take_snoc h, List.foldl_append]
  rfl
set_option maxHeartbeats 1000000 in
theorem maskUnion_calls (w : World) (A B : Option Addr) (c d : Nat) (s t : TL) (h : TlAt w A s) (k : TlAt w B t) (hs : Tidy s) (ht : Tidy t) : Calls Tryz.prog 84 #[.slice A s.length c, .slice B t.length d] w (GivesTL w (mUnion s t)) := by
  have htl := ht.len
  go_enter Tryz.func84, Tryz.ntmps84
  go_wp2
  go_loopg [0, 5] t.length (fun n c0 c5 wr => ∃ (k : Nat) (acc : TL) (A2 : Option Addr) (c2 : Nat), k ≤ t.length ∧ Hid (acc = mUnion s (t.take k)) ∧ Tidy acc ∧ TlAt wr A2 acc ∧ c5 = .int .i64 (k : Int) ∧ c0 = .slice A2 acc.length c2 ∧ Fr nope w wr ∧ n = t.length - k)
  case atStart => exact ⟨0, s, A, c, Nat.zero_le _, Lib.hid (by simp [mUnion]), hs, h, rfl, rfl, Fr.refl _ _, rfl⟩
  case round =>
    obtain ⟨j, acc, A2, c2, hj, hacc, hta, hat, rfl, rfl, hf, rfl⟩ := hrel
    by_cases hlt : j < t.length
    · obtain ⟨⟨x1, x2⟩, hx⟩ : ∃ x, t[j]? = some x := ⟨_, List.getElem?_eq_getElem hlt⟩
      obtain ⟨b, off, hBe, hbl, hr⟩ := k.at_ tlV_len hx
      subst hBe
      have hd : Fr nope w wr.drew := hf.drew
      have hcs : ∀ W, Fr nope w W → W.cell? ⟨b, off + j * 2, none⟩ = some (.int .u32 (x1 : Int)) ∧ W.cell? ⟨b, off + j * 2 + 1, none⟩ = some (.int .u16 (x2 : Int)) := fun W hW => ⟨hW.cell (hr 0 _ rfl) (fun x => x), hW.cell (hr 1 _ rfl) (fun x => x)⟩
      have hS0 := hcs _ hd
      replace hcs := Lib.hid hcs
      have hxb := ht.bound _ (List.mem_of_getElem? hx)
      have hT := Lib.hid (mUnion_take (s := s) hx)
      have hcall := maskAdd_calls wr.drew A2 c2 acc x1 x2 (hat.nope ((Fr.refl nope wr).drew)) hta hxb.2.1
      have hty : Tidy (mAdd acc x1 x2) := mAdd_tidy hta hxb.2.1 hxb.1
      replace hty := Lib.hid hty
      replace hta := Lib.hid hta
      clear hr hx hat hxb
      go_wp2
      go_region_held3 (fun W => W.cell? ⟨b, off + j * 2, none⟩ = some (.int .u32 (x1 : Int)) ∧ W.cell? ⟨b, off + j * 2 + 1, none⟩ = some (.int .u16 (x2 : Int))) (assumption)
        ((go_at_call 124; refine hcall.mono ?_; rintro e w1 ⟨hf1, A3, c3, rfl, hT3⟩; have hn1 := hd.then hf1; have hS1 := hcs.out _ hn1))
      all_goals
        go_wp2
        go_roundg (t.length - (j + 1))
        case measure => omega
        case rel => exact ⟨j + 1, mAdd acc x1 x2, A3, c3, by omega, Lib.hid (by rw [hT.out, ← hacc.out]), hty.out, hT3, by go_num, rfl, hn1, rfl⟩
    · rw [take_all hlt] at hacc
      obtain rfl := hacc.out
      go_wp2
      go_ret
      exact ⟨hf, A2, c2, rfl, hat⟩
theorem mMinus_take {s t : TL} {k : Nat} {x : Nat × Nat} (h : t[k]? = some x) : mMinus s (t.take (k + 1)) = mDis (mMinus s (t.take k)) x.1 x.2 := by
  unfold mMinus
  rw [take_snoc h, List.foldl_append]
  rfl
set_option maxHeartbeats 1000000 in
theorem maskMinus_calls (w : World) (A B : Option Addr) (c d : Nat) (s t : TL) (h : TlAt w A s) (k : TlAt w B t) (hs : Tidy s) (ht : Tidy t) : Calls Tryz.prog 85 #[.slice A s.length c, .slice B t.length d] w (GivesTL w (mMinus s t)) := by
  have htl := ht.len
  go_enter Tryz.func85, Tryz.ntmps85
  go_wp2
  go_loopg [0, 5] t.length (fun n c0 c5 wr => ∃ (k : Nat) (acc : TL) (A2 : Option Addr) (c2 : Nat), k ≤ t.length ∧ Hid (acc = mMinus s (t.take k)) ∧ Tidy acc ∧ TlAt wr A2 acc ∧ c5 = .int .i64 (k : Int) ∧ c0 = .slice A2 acc.length c2 ∧ Fr nope w wr ∧ n = t.length - k)
  case atStart => exact ⟨0, s, A, c, Nat.zero_le _, Lib.hid (by simp [mMinus]), hs, h, rfl, rfl, Fr.refl _ _, rfl⟩
  case round =>
    obtain ⟨j, acc, A2, c2, hj, hacc, hta, hat, rfl, rfl, hf, rfl⟩ := hrel
    by_cases hlt : j < t.length
    · obtain ⟨⟨x1, x2⟩, hx⟩ : ∃ x, t[j]? = some x := ⟨_, List.getElem?_eq_getElem hlt⟩
      obtain ⟨b, off, hBe, hbl, hr⟩ := k.at_ tlV_len hx
      subst hBe
      have hd : Fr nope w wr.drew := hf.drew
      have hcs : ∀ W, Fr nope w W → W.cell? ⟨b, off + j * 2, none⟩ = some (.int .u32 (x1 : Int)) ∧ W.cell? ⟨b, off + j * 2 + 1, none⟩ = some (.int .u16 (x2 : Int)) := fun W hW => ⟨hW.cell (hr 0 _ rfl) (fun x => x), hW.cell (hr 1 _ rfl) (fun x => x)⟩
      have hS0 := hcs _ hd
      replace hcs := Lib.hid hcs
      have hxb := ht.bound _ (List.mem_of_getElem? hx)
      have hT := Lib.hid (mMinus_take (s := s) hx)
      have hcall := maskDiscard_calls wr.drew A2 c2 acc x1 x2 (hat.nope ((Fr.refl nope wr).drew)) hta hxb.2.1
      have hty : Tidy (mDis acc x1 x2) := mDis_tidy hta
      replace hty := Lib.hid hty
      replace hta := Lib.hid hta
      clear hr hx hat hxb
      go_wp2
      go_region_held3 (fun W => W.cell? ⟨b, off + j * 2, none⟩ = some (.int .u32 (x1 : Int)) ∧ W.cell? ⟨b, off + j * 2 + 1, none⟩ = some (.int .u16 (x2 : Int))) (assumption)
        ((go_at_call 125; refine hcall.mono ?_; rintro e w1 ⟨hf1, A3, c3, rfl, hT3⟩; have hn1 := hd.then hf1; have hS1 := hcs.out _ hn1))
      all_goals
        go_wp2
        go_roundg (t.length - (j + 1))
        case measure => omega
        case rel => exact ⟨j + 1, mDis acc x1 x2, A3, c3, by omega, Lib.hid (by rw [hT.out, ← hacc.out]), hty.out, hT3, by go_num, rfl, hn1, rfl⟩
    · rw [take_all hlt] at hacc
      obtain rfl := hacc.out
      go_wp2
      go_ret
      exact ⟨hf, A2, c2, rfl, hat⟩
end
section
open Go Go.RowKit Bth
set_option maxRecDepth 100000
theorem tlOf_take {gs : List G} {k : Nat} {g : G} (h : gs[k]? = some g) : tlOf (gs.take (k + 1)) = mAdd (tlOf (gs.take k)) g.id g.spec := by
  unfold tlOf
  rw [take_snoc h, List.foldl_append]
  rfl
def GivesTL2 (w : World) (s : TL) (e : Ending) (w' : World) : Prop := Fr nope w w' ∧ ∃ A c, e = .returned (.tuple #[.slice A s.length c, .bool true]) ∧ TlAt w' A s
set_option maxHeartbeats 2000000 in
theorem MasksOf_calls (w : World) (A : Option Addr) (c : Nat) (gs : List G) (h : GsAt w A gs) (hok : ∀ g ∈ gs, okG g = true ∧ g.Ok) (hl : gs.length ≤ 1073741824) : Calls Tryz.prog 123 #[.slice A gs.length c] w (GivesTL2 w (tlOf gs)) := by
  go_enter Tryz.func123, Tryz.ntmps123
  go_wp2
  go_loopg [2, 4] gs.length (fun n c0 c5 wr => ∃ (k : Nat) (acc : TL) (A2 : Option Addr) (c2 : Nat), k ≤ gs.length ∧ Hid (acc = tlOf (gs.take k)) ∧ Tidy acc ∧ TlAt wr A2 acc ∧ c5 = .int .i64 (k : Int) ∧ c0 = .slice A2 acc.length c2 ∧ Fr nope w wr ∧ n = gs.length - k)
  case atStart => exact ⟨0, [], none, 0, Nat.zero_le _, Lib.hid (by simp [tlOf]), .nil, Rw.nil _ _ _, rfl, rfl, Fr.refl _ _, rfl⟩
  case round =>
    obtain ⟨j, acc, A2, c2, hj, hacc, hta, hat, rfl, rfl, hf, rfl⟩ := hrel
    by_cases hlt : j < gs.length
    · obtain ⟨g, hx⟩ : ∃ x, gs[j]? = some x := ⟨_, List.getElem?_eq_getElem hlt⟩
      obtain ⟨b, off, hBe, hbl, hr⟩ := h.at_ G.cells_len hx
      subst hBe
      obtain ⟨hgo, hgk⟩ := hok g (List.mem_of_getElem? hx)
      have hcs : ∀ W, Fr nope w W → W.cell? ⟨b, off + j * 4, none⟩ = some (.bool g.virt) ∧ W.cell? ⟨b, off + j * 4 + 1, none⟩ = some (.int .u8 (g.kind : Int)) ∧ W.cell? ⟨b, off + j * 4 + 2, none⟩ = some (.int .u16 (g.idx : Int)) ∧ W.cell? ⟨b, off + j * 4 + 3, none⟩ = some (.int .u16 (g.spec : Int)) := fun W hW => ⟨hW.cell (hr 0 _ rfl) (fun x => x), hW.cell (hr 1 _ rfl) (fun x => x), hW.cell (hr 2 _ rfl) (fun x => x), hW.cell (hr 3 _ rfl) (fun x => x)⟩
      have hT := Lib.hid (tlOf_take hx)
      have hid := g.id_lt hgk
      have hsp := hgk.spec
      have hcA := fun W (hW : Fr nope wr W) => maskAdd_calls W A2 c2 acc g.id g.spec (hat.nope hW) hta hsp
      have hI := fun W => IsRegister_calls W g
      have hR := fun W => RegID_calls W g hgk
      have hM := fun W => spMask_calls W g.spec
      rw [hgo] at hI
      unfold G.agg at hI hR
      have hty : Tidy (mAdd acc g.id g.spec) := mAdd_tidy hta hsp hid
      replace hty := Lib.hid hty
      replace hta := Lib.hid hta
      replace hcA := Lib.hid hcA
      replace hI := Lib.hid hI
      replace hR := Lib.hid hR
      replace hM := Lib.hid hM
      obtain ⟨hc0, hc1, hc2, hc3⟩ := hcs wr hf
      clear hr hx hat hgo hgk hid hsp
      generalize g.id = gid at hR hcA hT hty
      obtain ⟨gv, gk, gi, gsp⟩ := g
      simp only at hc0 hc1 hc2 hc3 hcs hR hI hM hcA hT hty
      go_wp2_with fail
      refine (hI.out _).mono ?_
      rintro e w1 ⟨rfl, hf1⟩
      have hn1 := hf.then hf1
      have hd1 := hf1.then ((Fr.refl nope w1).drew)
      have hS0 := hcs _ (hf.then hd1)
      replace hcs := Lib.hid hcs
      clear hc0 hc1 hc2 hc3
      go_wp2
      go_region_held3 (fun W => W.cell? ⟨b, off + j * 4, none⟩ = some (.bool gv) ∧ W.cell? ⟨b, off + j * 4 + 1, none⟩ = some (.int .u8 (gk : Int)) ∧ W.cell? ⟨b, off + j * 4 + 2, none⟩ = some (.int .u16 (gi : Int)) ∧ W.cell? ⟨b, off + j * 4 + 3, none⟩ = some (.int .u16 (gsp : Int))) (assumption)
        ((first
          | (go_at_call 10; refine (hR.out _).mono ?_; rintro e w2 ⟨rfl, hf2⟩; have hn2 := hd1.then hf2; have hS2 := hcs.out _ (hf.then hn2))
          | (go_at_call 9; refine (hM.out _).mono ?_; rintro e w3 ⟨rfl, rfl⟩)
          | (go_at_call 124; refine (hcA.out _ hn2).mono ?_; rintro e w4 ⟨hf4, A3, c3, rfl, hT3⟩; have hn4 := hn2.then hf4; have hS4 := hcs.out _ (hf.then hn4))))
      all_goals
        go_wp2
        go_roundg (gs.length - (j + 1))
        case measure => omega
        case rel => exact ⟨j + 1, mAdd acc gid gsp, A3, c3, by omega, Lib.hid (by rw [hT.out, ← hacc.out]), hty.out, hT3, by go_num, rfl, hf.then hn4, rfl⟩
    · rw [take_all hlt] at hacc
      obtain rfl := hacc.out
      go_wp2
      go_ret2
      exact ⟨hf, A2, c2, rfl, hat⟩
theorem liveOf_calls (w : World) (A : Option Addr) (c : Nat) (gs : List G) (h : GsAt w A gs) (hok : ∀ g ∈ gs, okG g = true ∧ g.Ok) (hl : gs.length ≤ 1073741824) : Calls Tryz.prog 83 #[.slice A gs.length c] w (GivesTL w (tlOf gs)) := by
  have hM := MasksOf_calls w A c gs h hok hl
  go_enter Tryz.func83, Tryz.ntmps83
  go_wp2_with fail
  refine hM.mono ?_
  rintro e w1 ⟨hf, A1, c1, rfl, hT⟩
  go_wp2
  go_ret
  exact ⟨hf, A1, c1, rfl, hT⟩
end
end Go.Proofs.YtbaihlfnbdifgaaGreat
