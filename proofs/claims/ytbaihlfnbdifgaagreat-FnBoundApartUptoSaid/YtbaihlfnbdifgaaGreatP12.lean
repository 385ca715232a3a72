/- Part of the proof of boundApart_upto. -/
import Derived.Deep.QuietTactic
import Derived.BigQuiet
import Derived.Test.YtbaihlfnbdifgaaGreatP06
import Derived.Test.YtbaihlfnbdifgaaGreatP11
namespace Bth
section
abbrev Poss := Nat → Option (List Nat)
def strikeL (al : Nat → Option Nat) (E : List (Nat × Nat)) (L : Poss) : Poss := fun v => (L v).map (strike al E v)
structure Fit (al : Nat → Option Nat) (E : List (Nat × Nat)) (L : Poss) : Prop where
  got : ∀ v p, al v = some p → isV p = false
  to : ∀ v l, L v = some l → isV v = true ∧ al v = none ∧ ∀ r ∈ l, isV r = false
  ends : ∀ e ∈ E, (isV e.1 = true → al e.1 = none → L e.1 ≠ none) ∧ (isV e.2 = true → al e.2 = none → L e.2 ≠ none)
theorem lk_none {al : Nat → Option Nat} {v : Nat} (h : al v = none) : lk al v = v := by unfold lk; rw [h]; rfl
theorem Fit.virt {al : Nat → Option Nat} {E : List (Nat × Nat)} {L : Poss} (h : Fit al E L) {v : Nat} (hv : isV (lk al v) = true) : isV v = true ∧ al v = none ∧ lk al v = v := by
  cases ha : al v with
  | none => rw [lk_none ha] at hv; exact ⟨hv, rfl, lk_none ha⟩
  | some p =>
    have := h.got v p ha
    unfold lk at hv
    rw [ha] at hv
    simp only [Option.getD_some] at hv
    rw [this] at hv; cases hv
theorem Fit.at_ {al : Nat → Option Nat} {E : List (Nat × Nat)} {L : Poss} (h : Fit al E L) {v : Nat} {l : List Nat} (hl : L v = some l) : isV (lk al v) = true ∧ lk al v = v := by
  obtain ⟨h1, h2, _⟩ := h.to v l hl
  rw [lk_none h2]; exact ⟨h1, rfl⟩
theorem strike_snoc (al : Nat → Option Nat) (E : List (Nat × Nat)) (e : Nat × Nat) (v : Nat) (l : List Nat) : strike al (E ++ [e]) v l = (strike al E v l).filter fun r => ap al e v r := by
  unfold strike
  rw [List.filter_filter]
  congr 1
  funext r
  rw [List.all_append, Bool.and_comm]
  simp
theorem strikeL_stay {al : Nat → Option Nat} {E E0 : List (Nat × Nat)} {L : Poss} (h : Fit al E L) {e : Nat × Nat} (he : isV (lk al e.1) = isV (lk al e.2)) : strikeL al (E0 ++ [e]) L = strikeL al E0 L := by
  funext v
  unfold strikeL
  cases hl : L v with
  | none => rfl
  | some l =>
    simp only [Option.map_some, Option.some.injEq, strike_snoc]
    refine List.filter_eq_self.2 fun r hr => ap_iff.2 ?_
    have hr' := (h.to v l hl).2.2 r (List.mem_filter.1 hr).1
    have hv := h.at_ hl
    refine ⟨?_, ?_⟩
    · rintro h1 rfl
      rw [h1, hv.1, hr'] at he; cases he
    · rintro h1 rfl
      rw [h1, hv.1, hr'] at he; cases he
def setL (L : Poss) (v : Nat) (l : List Nat) : Poss := fun x => if x = v then some l else L x
theorem strikeL_one {al : Nat → Option Nat} {E0 E : List (Nat × Nat)} {L : Poss} (h : Fit al E L) {e : Nat × Nat} (hm : e ∈ E) {x y : Nat} (hxy : (x = lk al e.1 ∧ y = lk al e.2) ∨ (x = lk al e.2 ∧ y = lk al e.1)) (hx : isV x = false) (hy : isV y = true) :
    ∃ l, strikeL al E0 L y = some l ∧ strikeL al (E0 ++ [e]) L = setL (strikeL al E0 L) y (l.filter fun r => r != x) := by
  obtain ⟨hL, hn⟩ : L y ≠ none ∧ ∀ v, v ≠ y → ∀ l r, L v = some l → ap al e v r = true := by
    rcases hxy with ⟨h1, h2⟩ | ⟨h1, h2⟩
    · rw [h2] at hy
      obtain ⟨g1, g2, g3⟩ := h.virt hy
      rw [h2, g3]
      refine ⟨(h.ends e hm).2 g1 g2, fun v hv l r hl => ap_iff.2 ⟨fun h3 => ?_, fun h3 => absurd h3.symm hv⟩⟩
      have := h.at_ hl
      rw [← h3, ← h1, hx] at this; cases this.1
    · rw [h2] at hy
      obtain ⟨g1, g2, g3⟩ := h.virt hy
      rw [h2, g3]
      refine ⟨(h.ends e hm).1 g1 g2, fun v hv l r hl => ap_iff.2 ⟨fun h3 => absurd h3.symm hv, fun h3 => ?_⟩⟩
      have := h.at_ hl
      rw [← h3, ← h1, hx] at this; cases this.1
  cases hl : L y with
  | none => exact absurd hl hL
  | some l =>
    refine ⟨strike al E0 y l, by simp [strikeL, hl], ?_⟩
    funext v
    unfold strikeL setL
    split
    · rename_i hv
      subst hv
      rw [hl]
      simp only [Option.map_some, Option.some.injEq, strike_snoc]
      refine List.filter_congr fun r hr => ?_
      have hr' := (h.to v l hl).2.2 r (List.mem_filter.1 hr).1
      rw [Bool.eq_iff_iff, ap_iff]
      simp only [bne_iff_ne, ne_eq]
      rcases hxy with ⟨h1, h2⟩ | ⟨h1, h2⟩
      · have hv2 := (h.virt (v := e.2) (by rw [← h2]; exact hy)).2.2
        rw [← h1]
        constructor
        · intro hh he; exact hh.2 (h2.trans hv2).symm he.symm
        · intro hh
          refine ⟨fun h3 => ?_, fun _ he => hh he.symm⟩
          have := (h.at_ hl).1
          rw [← h3, ← h1, hx] at this; cases this
      · have hv2 := (h.virt (v := e.1) (by rw [← h2]; exact hy)).2.2
        rw [← h1]
        constructor
        · intro hh he; exact hh.1 (h2.trans hv2).symm he.symm
        · intro hh
          refine ⟨fun _ he => hh he.symm, fun h3 => ?_⟩
          have := (h.at_ hl).1
          rw [← h3, ← h1, hx] at this; cases this
    · rename_i hv
      cases hlv : L v with
      | none => simp [hlv]
      | some l2 =>
        simp only [hlv, Option.map_some, Option.some.injEq, strike_snoc]
        exact List.filter_eq_self.2 fun r _ => hn v hv l2 r hlv
def open2 (al : Nat → Option Nat) (e : Nat × Nat) : Bool := isV (lk al e.1) && isV (lk al e.2)
structure Head (regs : List Nat) (A0 : List (Nat × Nat)) (al : Nat → Option Nat) (E : List (Nat × Nat)) (L : Poss) : Prop where
  fit : Fit al E L
  st : ∀ v l, L v = some l → strike al E v l = strike al A0 v regs
  cl : clash E al = clash A0 al
  sub : ∀ e ∈ E, e ∈ A0
  op : ∀ e ∈ A0, open2 al e = true → e ∈ E
theorem Head.start {regs : List Nat} {A0 : List (Nat × Nat)} {L : Poss} (hr : ∀ r ∈ regs, isV r = false) (hL : ∀ v l, L v = some l → isV v = true ∧ l = regs) (he : ∀ e ∈ A0, (isV e.1 = true → L e.1 ≠ none) ∧ (isV e.2 = true → L e.2 ≠ none)) :
    Head regs A0 (fun _ => none) A0 L :=
  ⟨⟨fun v p h => by (cases h), fun v l h => ⟨(hL v l h).1, rfl, by rw [(hL v l h).2]; exact hr⟩, fun e h => ⟨fun h1 _ => (he e h).1 h1, fun h1 _ => (he e h).2 h1⟩⟩, fun v l h => by rw [(hL v l h).2], rfl, fun e h => h, fun e h _ => h⟩
def delL (L : Poss) (v : Nat) : Poss := fun x => if x = v then none else L x
theorem Head.next {regs : List Nat} {A0 E : List (Nat × Nat)} {al : Nat → Option Nat} {L : Poss} (h : Head regs A0 al E L) (hr : ∀ r ∈ regs, isV r = false) (hc : clash A0 al = false) {v p : Nat} {q l : List Nat} (hv : L v = some l) (hp : strike al A0 v regs = p :: q) :
    Head regs A0 (setA al v p) (E.filter (open2 al)) (delL (strikeL al E L) v) := by
  obtain ⟨hvV, hvn, _⟩ := h.fit.to v l hv
  have hpm : p ∈ strike al A0 v regs := by rw [hp]; simp
  obtain ⟨hpr, hpe⟩ := mem_strike.1 hpm
  have hpp := hr p hpr
  have hlv := lk_none hvn
  have hto : ∀ w l', delL (strikeL al E L) v w = some l' → w ≠ v ∧ l' = strike al A0 w regs ∧ isV w = true ∧ al w = none := by
    intro w l' hw
    unfold delL at hw
    split at hw
    · cases hw
    · rename_i hne
      unfold strikeL at hw
      obtain ⟨l0, e1, e2⟩ := Option.map_eq_some_iff.1 hw
      rw [← e2, h.st w l0 e1]
      exact ⟨hne, rfl, (h.fit.to w l0 e1).1, (h.fit.to w l0 e1).2.1⟩
  refine ⟨⟨fun w x hw => ?_, fun w l' hw => ?_, fun e he => ?_⟩, fun w l' hw => ?_, ?_, fun e he => h.sub e (List.mem_filter.1 he).1, fun e he ho => ?_⟩
  · unfold setA at hw
    split at hw
    · injection hw with hw; rw [← hw]; exact hpp
    · exact h.fit.got w x hw
  · obtain ⟨h1, h2, h3, h4⟩ := hto w l' hw
    refine ⟨h3, by unfold setA; rw [if_neg h1]; exact h4, fun r hr' => ?_⟩
    rw [h2] at hr'
    exact hr r (mem_strike.1 hr').1
  · obtain ⟨he1, he2⟩ := List.mem_filter.1 he
    have key : ∀ w, (L w ≠ none) → setA al v p w = none → delL (strikeL al E L) v w ≠ none := by
      intro w hL hs
      unfold setA at hs
      split at hs
      · cases hs
      · rename_i hne
        unfold delL strikeL
        rw [if_neg hne]
        cases hl : L w with
        | none => exact absurd hl hL
        | some x => simp
    have hn : ∀ w, setA al v p w = none → al w = none := by
      intro w hs
      unfold setA at hs
      split at hs
      · cases hs
      · exact hs
    exact ⟨fun h1 h2 => key _ ((h.fit.ends e he1).1 h1 (hn _ h2)) h2, fun h1 h2 => key _ ((h.fit.ends e he1).2 h1 (hn _ h2)) h2⟩
  · obtain ⟨h1, h2, h3, h4⟩ := hto w l' hw
    have hlw := lk_none h4
    rw [h2]
    unfold strike
    rw [List.filter_filter]
    refine List.filter_congr fun r hrm => ?_
    have hrr := hr r hrm
    rw [Bool.eq_iff_iff, Bool.and_eq_true, List.all_eq_true, List.all_eq_true, List.all_eq_true]
    constructor
    · rintro ⟨ha, hb⟩ e he
      by_cases ho : open2 al e = true
      · exact ha e (List.mem_filter.2 ⟨h.op e he ho, ho⟩)
      · have hb' := ap_iff.1 (hb e he)
        refine ap_iff.2 ⟨fun g => ?_, fun g => ?_⟩
        · rw [lk_set]
          split
          · rename_i g2
            exfalso
            apply ho
            unfold open2
            rw [g, hlw, h3, g2, hlv, hvV]; rfl
          · exact hb'.1 g
        · rw [lk_set]
          split
          · rename_i g2
            exfalso
            apply ho
            unfold open2
            rw [g, hlw, h3, g2, hlv, hvV]; rfl
          · exact hb'.2 g
    · intro hb
      refine ⟨fun e he => hb e (h.sub e (List.mem_filter.1 he).1), fun e he => ?_⟩
      have hb' := ap_iff.1 (hb e he)
      refine ap_iff.2 ⟨fun g => ?_, fun g => ?_⟩
      · have := hb'.1 g
        rw [lk_set] at this
        split at this
        · rename_i g2; rw [g2, hlv]; rintro rfl; rw [hvV] at hrr; cases hrr
        · exact this
      · have := hb'.2 g
        rw [lk_set] at this
        split at this
        · rename_i g2; rw [g2, hlv]; rintro rfl; rw [hvV] at hrr; cases hrr
        · exact this
  · rw [Bool.eq_iff_iff]
    unfold clash
    rw [List.any_eq_true, List.any_eq_true]
    constructor
    · rintro ⟨e, he, g⟩
      exact ⟨e, h.sub e (List.mem_filter.1 he).1, g⟩
    · rintro ⟨e, he, g⟩
      refine ⟨e, ?_, g⟩
      simp only [Bool.and_eq_true, beq_iff_eq, Bool.not_eq_true', lk_set] at g
      obtain ⟨g1, g2⟩ := g
      by_cases a1 : e.1 = v
      · by_cases a2 : e.2 = v
        · have ho : open2 al e = true := by unfold open2; rw [a1, a2, hlv, hvV]; rfl
          exact List.mem_filter.2 ⟨h.op e he ho, ho⟩
        · rw [if_pos a1, if_neg a2] at g1
          exact absurd g1.symm ((hpe e he).1 a1)
      · by_cases a2 : e.2 = v
        · rw [if_neg a1, if_pos a2] at g1
          exact absurd g1 ((hpe e he).2 a2)
        · rw [if_neg a1, if_neg a2] at g1
          rw [if_neg a1] at g2
          have := clash_iff.1 hc e he g1
          rw [g2] at this; cases this
  · have key : ∀ w, isV (lk (setA al v p) w) = true → isV (lk al w) = true := by
      intro w hw
      rw [lk_set] at hw
      split at hw
      · rw [hpp] at hw; cases hw
      · exact hw
    unfold open2 at ho
    rw [Bool.and_eq_true] at ho
    have ho2 : open2 al e = true := by unfold open2; rw [key _ ho.1, key _ ho.2]; rfl
    exact List.mem_filter.2 ⟨h.op e he ho2, ho2⟩
end
end Bth
namespace Go.Proofs.YtbaihlfnbdifgaaGreat
section
open Go Go.RowKit Go.MapKept Bth
set_option maxRecDepth 100000
def Turns (P : Nat → Prop) (w : World) (a : Nat) (x : Al) (w' : World) : Prop := ∃ g : AlG, g.a = a ∧ AlAt w' (wider P w w') x g ∧ Fr P w w'
theorem wider_lt {P : Nat → Prop} {w w' : World} (h : ∀ c, P c → c < w.heap.size) (hs : w.heap.size ≤ w'.heap.size) : ∀ c, wider P w w' c → c < w'.heap.size := fun c hc => by
  rcases hc with hc | hc
  · exact Nat.lt_of_lt_of_le (h c hc) hs
  · exact hc.2
theorem Turns.refl {P : Nat → Prop} {w : World} {x : Al} {g : AlG} (h : AlAt w P x g) : Turns P w g.a x w := ⟨g, rfl, h.more (fun _ hc => .inl hc) (wider_lt h.lt (Nat.le_refl _)), Fr.refl _ _⟩
theorem Turns.still {P : Nat → Prop} {w w' : World} {x : Al} {g : AlG} (h : AlAt w P x g) (hf : Fr nope w w') : Turns P w g.a x w' := ⟨g, rfl, (h.still hf).more (fun _ hc => .inl hc) (wider_lt h.lt hf.size), hf.of_nope⟩
theorem Fr_wide {P : Nat → Prop} {w w1 w2 : World} (h : Fr P w w1) (k : Fr (wider P w w1) w1 w2) : Fr P w w2 := h.trans k (fun _ _ x => x) (fun x hx hw => by
  rcases hw with hw | hw
  · exact hw
  · omega)
theorem Turns.then {P : Nat → Prop} {w w1 w2 : World} {a : Nat} {x : Al} (h : Fr P w w1) (k : Turns (wider P w w1) w1 a x w2) : Turns P w a x w2 := by
  obtain ⟨g, h1, h2, h3⟩ := k
  have hl := Fr_wide h h3
  exact ⟨g, h1, h2.more (fun c hc => wider.trans h3.size c hc h.size) (fun c hc => h2.lt c (by
    rcases hc with hc | hc
    · exact .inl (.inl hc)
    · by_cases hlt : c < w1.heap.size
      · exact .inl (.inr ⟨hc.1, hlt⟩)
      · exact .inr ⟨by omega, hc.2⟩)), hl⟩
def addA (x : Al) (v : Nat) : Al := if isV v && (x.poss v).isNone then { x with poss := setL x.poss v (regsFor x v) } else x
theorem addA_regs (x : Al) (v : Nat) : (addA x v).regs = x.regs := by unfold addA; split <;> rfl
theorem addA_edges (x : Al) (v : Nat) : (addA x v).edges = x.edges := by unfold addA; split <;> rfl
theorem AlAt.putPoss {w w' : World} {P Q : Nat → Prop} {x : Al} {g : AlG} (h : AlAt w P x g) (hf : Fr (fun b => b = g.bq) w w') {L : Poss} (hp : PossAt w' Q g.bq L) (hq : ∀ c, P c → Q c) (hl : ∀ c, Q c → c < w'.heap.size) : AlAt w' Q { x with poss := L } g := by
  have hkind : ∀ {cs : Array Value} {t : TypeId} {fr : Nat × Nat} {b : Nat}, w.heap[b]? = some (.cells cs t fr) → b ≠ g.bq := by
    rintro cs t fr b hb rfl
    obtain ⟨ks, sv, ⟨es, cl, hm, _⟩, _⟩ := h.poss
    rw [hb] at hm; cases hm
  have hown : ∀ {n size : Nat} {e : TypeId} {v : Value} {xs : List Value}, w.ownsRow 0 e size v n xs → w'.ownsRow 0 e size v n xs := fun ho => own_fr ho hf fun c hc he => by
    obtain ⟨cur, h2⟩ := own_heap ho hc
    exact hkind h2 he
  exact {
    ha := hf.heap h.ha (hkind h.ha)
    regs := hown h.regs
    prio := h.prio.fr hf h.ne2
    al := h.al.fr hf h.ne3
    edges := hown h.edges
    elen := h.elen
    eat := fun k b e h1 h2 => hf.heap (h.eat k b e h1 h2) (hkind (h.eat k b e h1 h2))
    poss := hp
    ne1 := h.ne1
    ne2 := h.ne2
    ne3 := h.ne3
    pa := hq _ h.pa
    pp := hq _ h.pp
    pl := hq _ h.pl
    pq := hq _ h.pq
    pr := fun c hc => hq c (h.pr c hc)
    ps := fun c hc => hq c (h.ps c hc)
    pe := fun b hb => hq b (h.pe b hb)
    lt := hl }
theorem own_new {w w1 : World} {e : TypeId} {u : Value} {n : Nat} {xs : List Value} (h : w1.ownsRow w.heap.size e 1 u n xs) (P : Nat → Prop) : ∀ c, u.ownBlock = some c → wider P w w1 c := fun c hc => .inr ⟨own_base h c hc, own_lt h c hc⟩
theorem AlAdd_calls (w : World) (P : Nat → Prop) (x : Al) (g : AlG) (v : Nat) (h : AlAt w P x g) (hl : x.regs.length ≤ 1073741824) (hv : v < 4294967296) :
    Calls Tryz.prog 71 #[ptr g.a, .int .u32 (v : Int)] w fun e w' => e = .returned (.tuple #[]) ∧ Turns P w g.a (addA x v) w' := by
  have hc4 := h.c4
  have halt := h.lt _ h.pa
  have hIV := fun W => IsVirtual_calls W v hv
  unfold ptr
  cases hi : isV v with
  | false =>
    have e : addA x v = x := by unfold addA; rw [hi]; rfl
    rw [hi] at hIV
    rw [e]
    clear e hi
    go_enter Tryz.func71, Tryz.ntmps71
    go_wp2_with (go_at_call 107; refine (hIV _).mono ?_; rintro e w1 ⟨rfl, rfl⟩)
    refine bodyPost_ret (results_none rfl _ _ _) rfl ?_
    exact ⟨rfl, Turns.refl h⟩
  | true =>
    rw [hi] at hIV
    obtain ⟨s, hlk, hso, hsn⟩ := h.poss.look v
    cases hp : x.poss v with
    | some l =>
      have e : addA x v = x := by unfold addA; rw [hi, hp]; rfl
      rw [e]
      rw [hp] at hlk
      simp only [Option.isSome_some] at hlk
      have hlk2 := (hlk w (Fr.refl _ _)).2
      clear e hi hp hlk hsn hso
      go_enter Tryz.func71, Tryz.ntmps71
      go_wp2_with (go_at_call 107; refine (hIV _).mono ?_; rintro e w1 ⟨rfl, rfl⟩)
      refine bodyPost_ret (results_none rfl _ _ _) rfl ?_
      exact ⟨rfl, Turns.refl h⟩
    | none =>
      have e : addA x v = { x with poss := setL x.poss v (regsFor x v) } := by unfold addA; rw [hi, hp]; rfl
      rw [e]
      rw [hp] at hlk
      simp only [Option.isSome_none] at hlk
      have hlk2 := (hlk w (Fr.refl _ _)).2
      clear e hi hp hlk hsn hso
      have hd : Fr nope w w.drew := (Fr.refl nope w).drew
      go_enter Tryz.func71, Tryz.ntmps71
      go_wp2_with (go_at_call 107; refine (hIV _).mono ?_; rintro e w1 ⟨rfl, rfl⟩)
      go_region_with (go_at_call 108; refine (possible_calls _ P x g v (h.still hd) hl).mono ?_; rintro e w1 ⟨u, rfl, hown, hf1⟩; rw [List.length_map] at hown; have h1 := (h.still hd).still hf1; have hc41 := h1.c4; obtain ⟨A, c, rfl, _, _⟩ := own_slice hown; have hh := h1.more (fun c hc => Or.inl hc) (wider_lt (h.still hd).lt hf1.size); obtain ⟨w2, hu, hp2, hf2, hs2⟩ := hh.poss.put v (regsFor x v) ⟨A, (regsFor x v).length, c⟩ (own_le hown (Nat.zero_le _)) (fun c hc => own_new hown P c hc); replace hs2 := Lib.hid hs2)
      all_goals
        go_end0
        have hx := hh.putPoss hf2 hp2 (fun c hc => hc) (by rw [hs2.out]; exact hh.lt)
        refine ⟨rfl, g, rfl, ?_, ?_⟩
        · have : wider P w w2 = wider P w.drew w1 := by funext c; unfold wider; rw [hs2.out]; rfl
          rw [this]; exact hx
        · exact ((hd.then hf1).of_nope).then (hf2.mono fun x _ e => by rw [e]; exact h.pq)
end
section
open Go Go.RowKit Go.MapKept Bth
set_option maxRecDepth 100000
theorem wider_eq {P : Nat → Prop} {w1 w2 a b : World} (h1 : w1.heap.size = w2.heap.size) (h2 : a.heap.size = b.heap.size) : wider P w1 a = wider P w2 b := by funext c; unfold wider; rw [h1, h2]
theorem disc_calls (w : World) (P : Nat → Prop) (x : Al) (g : AlG) (v p : Nat) (l : List Nat) (h : AlAt w P x g) (hL : x.poss v = some l) (hl : l.length ≤ 1073741824) :
    Calls Tryz.prog 134 #[ptr g.a, .int .u32 (v : Int), .int .u32 (p : Int)] w fun e w' => e = .returned (.tuple #[]) ∧ AlAt w' (wider P w w') { x with poss := setL x.poss v (l.filter fun r => r != p) } g ∧ Fr P w w' := by
  have hc4 := h.c4
  have halt := h.lt _ h.pa
  obtain ⟨⟨A, n, c⟩, hlk, hso, hsn⟩ := h.poss.look v
  rw [hL] at hso hsn
  simp only [Option.getD_some] at hso hsn
  subst hsn
  have hS : Sl w A l.length (l.map idV) := own_Sl (c := c) hso
  obtain ⟨wb, hwb⟩ : ∃ wb, wb = w.alloc (.cells #[.int .u32 (p : Int)] 162) := ⟨_, rfl⟩
  have hfb : Fr nope w wb := by rw [hwb]; exact (Fr.refl nope w).alloc _
  have hcb : wb.cell? ⟨w.heap.size, 0, none⟩ = some (.int .u32 (p : Int)) := by rw [hwb]; simp
  have hlb : w.heap.size < wb.heap.size := by rw [hwb]; simp
  have hdw : Fr nope wb wb.drew := (Fr.refl _ _).drew
  have hc0 : wb.drew.cell? ⟨g.a, 4, none⟩ = some (.map (some g.bq)) := (hfb.then hdw).cell hc4 (fun x => x)
  have hl0 := (hlk wb.drew (hfb.then hdw)).1
  have hne : g.a ≠ g.bq := fun e => by
    obtain ⟨_, _, ⟨es, cl, hm, _⟩, _⟩ := h.poss
    rw [← e, h.ha] at hm; cases hm
  unfold ptr
  clear hL hlk hso
  go_enter Tryz.func134, Tryz.ntmps134
  go_wp2
  rw [← hwb]
  replace hwb := Lib.hid hwb
  go_region_held3 (fun W => W.cell? ⟨g.a, 4, none⟩ = some (.map (some g.bq))) (assumption)
    ((go_at_call 130; refine (filter_calls _ A c l (hS.nope (hfb.then hdw)) hl _ _ (fun r => r != p) enter_ne (ne_pred _ _ p _ (Nat.lt_of_lt_of_le hlb hdw.size) (hdw.cell hcb (fun x => x)))).mono ?_; rintro e w1 ⟨u, rfl, hown, hf1'⟩; have hf1 : Fr nope wb w1 := hdw.then hf1'; rw [List.length_map] at hown; have h1 := (h.still hfb).still hf1; obtain ⟨A2, c2, rfl, _, _⟩ := own_slice hown; have hh := h1.more (P' := wider P w w1) (fun c hc => Or.inl hc) (wider_lt h.lt (Nat.le_trans hfb.size hf1.size)); obtain ⟨w2, hu, hp2, hf2, hs2⟩ := hh.poss.put v (l.filter fun r => r != p) ⟨A2, (l.filter fun r => r != p).length, c2⟩ (own_le hown (Nat.zero_le _)) (fun c hc => .inr ⟨by have h4 := own_base hown c hc; have := hfb.size; have h5 : wb.drew.heap.size = wb.heap.size := rfl; omega, own_lt hown c hc⟩); have hc41 : w1.cell? ⟨g.a, 4, none⟩ = some (.map (some g.bq)) := h1.c4; have hc42 : w2.cell? ⟨g.a, 4, none⟩ = some (.map (some g.bq)) := hf2.cell hc41 hne; replace hs2 := Lib.hid hs2))
  all_goals
    go_end0
    have hx := hh.putPoss hf2 hp2 (fun c hc => hc) (by rw [hs2.out]; exact hh.lt)
    have hff : Fr P w w2 := ((hfb.then hf1).of_nope).then (hf2.mono fun x _ e => by rw [e]; exact h.pq)
    have e : wider P w w2 = wider P w w1 := wider_eq rfl hs2.out
    rw [e]
    exact ⟨rfl, hx, hff⟩
theorem MapAt.obj {K : Type} {w : World} {b : Nat} {mk : K → Value} {ks : List K} {f : K → Option Value} (h : MapAt w b mk ks f) : ∃ es clock, w.heap[b]? = some (.map es clock) := by obtain ⟨es, cl, h, _⟩ := h; exact ⟨es, cl, h⟩
theorem own_nomap {w : World} {base n size : Nat} {e : TypeId} {v : Value} {xs : List Value} {b : Nat} {es : Array MapEntry} {cl : Nat} (h : w.ownsRow base e size v n xs) (hm : w.heap[b]? = some (.map es cl)) : v.ownBlock ≠ some b := fun he => by
  obtain ⟨cur, h2⟩ := own_heap h he
  rw [hm] at h2; cases h2
theorem AlAt.push {w w4 : World} {P Q : Nat → Prop} {x : Al} {g : AlG} (h : AlAt w P x g) {e : Nat × Nat} {b : Nat} {s : SV} (hf : Fr (fun c => c = g.a ∨ g.se.val.ownBlock = some c) w w4)
    (ha : w4.heap[g.a]? = some (.cells { g with se := s, eb := g.eb ++ [b] }.cells 221 (0, 0))) (hrow : w4.ownsRow 0 269 1 s.val (x.edges.length + 1) ((g.eb ++ [b]).map ptr))
    (he : w4.heap[b]? = some (.cells (edgeCells e) 271 (0, 0))) (hq : ∀ c, P c → Q c) (hl : ∀ c, Q c → c < w4.heap.size) (hs : ∀ c, s.val.ownBlock = some c → Q c) (hb : Q b) :
    AlAt w4 Q { x with edges := x.edges ++ [e] } { g with se := s, eb := g.eb ++ [b] } := by
  have hT : NoT [162, 271] w (fun c => c = g.a ∨ g.se.val.ownBlock = some c) := NoT.or (NoT.one h.ha (by decide)) (NoT.own h.edges (by decide))
  have hm : ∀ {c : Nat} {es : Array MapEntry} {cl : Nat}, w.heap[c]? = some (.map es cl) → ¬ (c = g.a ∨ g.se.val.ownBlock = some c) := by
    rintro c es cl hm (rfl | hc)
    · rw [h.ha] at hm; cases hm
    · exact own_nomap h.edges hm hc
  obtain ⟨k1, m1⟩ := h.prio
  obtain ⟨k2, m2⟩ := h.al
  have n1 : ¬ (g.bp = g.a ∨ g.se.val.ownBlock = some g.bp) := by obtain ⟨_, _, o⟩ := MapAt.obj m1; exact hm o
  have n2 : ¬ (g.ba = g.a ∨ g.se.val.ownBlock = some g.ba) := by obtain ⟨_, _, o⟩ := MapAt.obj m2; exact hm o
  have n3 : ¬ (g.bq = g.a ∨ g.se.val.ownBlock = some g.bq) := by obtain ⟨_, _, m3, _⟩ := h.poss; obtain ⟨_, _, o⟩ := MapAt.obj m3; exact hm o
  exact
    {
      ha := ha
      regs := own_frT h.regs hf hT (by decide)
      prio := ⟨k1, m1.fr hf n1⟩
      al := ⟨k2, m2.fr hf n2⟩
      edges := by rw [List.length_append]; exact hrow
      elen := by simp [h.elen]
      eat := fun k c e' h1 h2 => by
        by_cases hk : k < g.eb.length
        · have hk2 : k < x.edges.length := by rw [← h.elen]; exact hk
          rw [List.getElem?_append_left hk] at h1
          rw [List.getElem?_append_left hk2] at h2
          exact heap_frT (h.eat k c e' h1 h2) hf hT (by decide)
        · have hk2 : ¬ k < x.edges.length := by rw [← h.elen]; exact hk
          rw [List.getElem?_append_right (by omega)] at h1 h2
          have e1 : k - g.eb.length = 0 := by
            apply Classical.byContradiction; intro hn
            have : ([b] : List Nat)[k - g.eb.length]? = none := List.getElem?_eq_none (by simp; omega)
            rw [this] at h1; cases h1
          have e2 : k - x.edges.length = 0 := by rw [← h.elen]; exact e1
          rw [e1] at h1; rw [e2] at h2
          simp only [List.getElem?_cons_zero, Option.some.injEq] at h1 h2
          subst h1 h2; exact he
      poss := (h.poss.frT hf hT (by decide) n3).mono hq
      ne1 := h.ne1
      ne2 := h.ne2
      ne3 := h.ne3
      pa := hq _ h.pa
      pp := hq _ h.pp
      pl := hq _ h.pl
      pq := hq _ h.pq
      pr := fun c hc => hq c (h.pr c hc)
      ps := hs
      pe := fun c hc => by
        rcases List.mem_append.1 hc with hc | hc
        · exact hq c (h.pe c hc)
        · obtain rfl : c = b := by simpa using hc
          exact hb
      lt := hl }
theorem infoPE : (Tryz.prog.info? 269).map (fun i => (i.zero, i.size, i.bytes)) = some (some (.pointer none), 1, 8) := by kernel_rfl
def addI (x : Al) (a b : Nat) : Al := { addA (addA x a) b with edges := x.edges ++ [(a, b)] }
theorem addI_regs (x : Al) (a b : Nat) : (addI x a b).regs = x.regs := by unfold addI; rw [addA_regs, addA_regs]
set_option maxHeartbeats 1000000 in
theorem AddI_calls (w : World) (P : Nat → Prop) (x : Al) (g : AlG) (a b : Nat) (h : AlAt w P x g) (hl : x.regs.length ≤ 1073741824) (hle : x.edges.length ≤ 8796093022208) (ha : a < 4294967296) (hb : b < 4294967296) :
    Calls Tryz.prog 111 #[ptr g.a, .int .u32 (a : Int), .int .u32 (b : Int)] w fun e w' => e = .returned (.tuple #[]) ∧ Turns P w g.a (addI x a b) w' := by
  go_enter Tryz.func111, Tryz.ntmps111
  go_wp2_with fail
  refine (AlAdd_calls w P x g a h hl ha).mono ?_
  rintro e w1 ⟨rfl, ⟨g1, hg1, h1, hf1⟩⟩
  rw [← hg1]
  replace hg1 := Lib.hid hg1
  go_wp2_with fail
  refine (AlAdd_calls w1 _ (addA x a) g1 b h1 (by rw [addA_regs]; exact hl) hb).mono ?_
  rintro e w2 ⟨rfl, ⟨g2, hg2, h2, hf2⟩⟩
  rw [← hg2]
  replace hg2 := Lib.hid hg2
  have hx2 : (addA (addA x a) b).edges = x.edges := by rw [addA_edges, addA_edges]
  have hle2 : (addA (addA x a) b).edges.length ≤ 8796093022208 := by rw [hx2]; exact hle
  have hw := Fr_wide hf1 hf2
  replace h2 := h2.more (P' := wider P w w2) (fun c hc => wider.trans hf2.size c hc hf1.size) (wider_lt h.lt hw.size)
  clear hle hx2
  obtain ⟨a2, bp2, ba2, bq2, sr2, ⟨eA, en, ec⟩, eb2⟩ := g2
  generalize hy : addA (addA x a) b = y at h2 hle2
  replace hy := Lib.hid hy
  obtain rfl : en = y.edges.length := h2.en
  have hc3 := h2.c3
  have halt := h2.lt _ h2.pa
  have hown := h2.edges
  simp only at hc3 halt hown
  simp only [SV.val] at hown
  unfold ptr
  go_wp2_with (refine wpList_app (v := .slice eA y.edges.length ec) rfl rfl Tryz.underlying218 infoPE rfl (by omega) rfl (own_fr hown (((Fr.refl nope _).alloc _).alloc _) (fun _ _ x => x)) rfl (news := [ptr w2.heap.size]) rfl (one_new _ _ _ _ (by simp)) (by simp [Value.oneCell', ptr]) (by simp only [maxLen]; omega) (by omega) (Nat.zero_le _) ?hk)
  case hk =>
    intro v3 w3 hown3 hf3 hb3
    obtain ⟨A3, c3, rfl, _, _⟩ := own_slice hown3
    have hae : ∀ o o', Fr nope w2 ((w2.alloc o).alloc o') := fun o o' => ((Fr.refl nope _).alloc _).alloc _
    have ha3 : w3.heap[a2]? = some (.cells (AlG.cells ⟨a2, bp2, ba2, bq2, sr2, ⟨eA, y.edges.length, ec⟩, eb2⟩) 221 (0, 0)) := hf3.heap ((hae _ _).heap h2.ha (fun x => x)) (own_ne hown h2.ha (by decide))
    have he3 : w3.heap[w2.heap.size]? = some (.cells (edgeCells (a, b)) 271 (0, 0)) := hf3.heap (((Fr.refl nope (w2.alloc _)).alloc _).heap (heap_alloc_new w2 _) (fun x => x)) (fun e => by have := own_lt hown _ e; omega)
    have hz : w3.frozen? ⟨a2, 3, none⟩ = false := frozen_row ha3 3
    have hc33 : w3.cell? ⟨a2, 3, none⟩ = some (.slice eA y.edges.length ec) := by rw [cell_of_row w3 a2 3 _ _ (0, 0) ha3]; rfl
    have hsz : w2.heap.size < w3.heap.size := lt_of_heap he3
    replace hb3 := Lib.hid hb3
    go_wp2
    go_end0
    have hst : Fr (fun c => c = a2) w3 (w3.setCell ⟨a2, 3, none⟩ (.slice A3 (y.edges.length + 1) c3)) := (Fr.refl (fun c => c = a2) w3).setCell (.inl rfl) _
    have hf4 : Fr (fun c => c = a2 ∨ (Value.slice eA y.edges.length ec).ownBlock = some c) w2 (w3.setCell ⟨a2, 3, none⟩ (.slice A3 (y.edges.length + 1) c3)) := (((hae _ _).of_nope).then (hf3.mono fun _ _ h => .inr h)).then (hst.mono fun _ _ h => .inl h)
    have hw4 : Fr P w (w3.setCell ⟨a2, 3, none⟩ (.slice A3 (y.edges.length + 1) c3)) := Fr_wide hw (hf4.mono fun c _ h => by
      rcases h with rfl | h
      · exact h2.pa
      · exact h2.ps c h)
    have hs4 : (w3.setCell ⟨a2, 3, none⟩ (.slice A3 (y.edges.length + 1) c3)).heap.size = w3.heap.size := by simp [World.setCell]
    have hq : ∀ c, wider P w w2 c → wider P w (w3.setCell ⟨a2, 3, none⟩ (.slice A3 (y.edges.length + 1) c3)) c := fun c hc => by
      rcases hc with hc | hc
      · exact .inl hc
      · exact .inr ⟨hc.1, by rw [hs4]; omega⟩
    have hws := hw.size
    have key := h2.push (Q := wider P w (w3.setCell ⟨a2, 3, none⟩ (.slice A3 (y.edges.length + 1) c3))) (e := (a, b)) (b := w2.heap.size) (s := ⟨A3, y.edges.length + 1, c3⟩) hf4 (setCell_heap ha3 _)
      (by rw [List.map_append]; exact own_fr hown3 hst (fun c hc e => own_ne hown3 ha3 (by decide) (by rw [e] at hc; exact hc))) (hst.heap he3 (by have := h2.lt _ h2.pa; simp only at this; omega)) hq (wider_lt h.lt hw4.size)
      (fun c hc => by
        rcases hb3.out with hb | hb
        · exact hq c (h2.ps c (hb.symm.trans hc))
        · have e : Value.ownBlock (.slice A3 (y.edges.length + 1) c3) = some c := hc
          rw [hb] at e
          injection e with e
          have hl3 := own_lt hown3 _ hc
          exact .inr ⟨by rw [← e]; first | omega | (simp; omega), by rw [hs4]; exact hl3⟩) (.inr ⟨hws, by rw [hs4]; exact hsz⟩)
    refine ⟨rfl, ⟨a2, bp2, ba2, bq2, sr2, ⟨A3, y.edges.length + 1, c3⟩, eb2 ++ [w2.heap.size]⟩, hg2.out.trans hg1.out, ?_, hw4⟩
    · have ee : addI x a b = { y with edges := y.edges ++ [(a, b)] } := by rw [← hy.out]; unfold addI; rw [addA_edges, addA_edges]
      rw [ee]
      exact key
end
section
open Go Go.RowKit Go.MapKept Bth
set_option maxRecDepth 100000
theorem nodup_le {l m : List Nat} (h : l.Nodup) (hs : ∀ x ∈ l, x ∈ m) : l.length ≤ m.length := by
  induction l generalizing m with
  | nil => simp
  | cons a l ih =>
    have ha := hs a (by simp)
    obtain ⟨h1, h2⟩ := List.nodup_cons.1 h
    have := ih (m := m.erase a) h2 (fun x hx => (List.mem_erase_of_ne (by rintro rfl; exact h1 hx)).2 (hs x (List.mem_cons_of_mem _ hx)))
    rw [List.length_erase_of_mem ha] at this
    have := List.length_pos_of_mem ha
    simp only [List.length_cons]
    omega
def addIs (x : Al) (d : Nat) (D : List Nat) : Al := D.foldl (fun x k => addI x d k) x
theorem addIs_snoc (x : Al) (d : Nat) (D : List Nat) (k : Nat) : addIs x d (D ++ [k]) = addI (addIs x d D) d k := by simp [addIs]
theorem addIs_regs (x : Al) (d : Nat) (D : List Nat) : (addIs x d D).regs = x.regs := by
  induction D generalizing x with
  | nil => rfl
  | cons k D ih => simp only [addIs, List.foldl_cons] at ih ⊢; rw [ih, addI_regs]
theorem addIs_edges (x : Al) (d : Nat) (D : List Nat) : (addIs x d D).edges = x.edges ++ D.map fun k => (d, k) := by
  induction D generalizing x with
  | nil => simp [addIs]
  | cons k D ih => simp only [addIs, List.foldl_cons] at ih ⊢; rw [ih]; simp [addI]
structure DInv (F : Nat → Nat) (m : Nat) (todo D : List Nat) : Prop where
  nd : todo.Nodup
  dn : D.Nodup
  to : ∀ k ∈ D, F k &&& m ≠ 0 ∧ k ∉ todo
  all : ∀ k, k ∉ todo → F k &&& m ≠ 0 → k ∈ D
theorem DInv.no {F : Nat → Nat} {m : Nat} {todo D : List Nat} (h : DInv F m todo D) {k : Nat} (hk : F k &&& m = 0) : DInv F m (todo.erase k) D :=
  ⟨h.nd.erase k, h.dn, fun x hx => ⟨(h.to x hx).1, fun hm => (h.to x hx).2 (List.mem_of_mem_erase hm)⟩, fun x hx hm => h.all x (fun hh => hx ((List.Nodup.mem_erase_iff h.nd).2 ⟨fun e => by rw [e] at hm; exact hm hk, hh⟩)) hm⟩
theorem DInv.yes {F : Nat → Nat} {m : Nat} {todo D : List Nat} (h : DInv F m todo D) {k : Nat} (hk : F k &&& m ≠ 0) (ht : k ∈ todo) : DInv F m (todo.erase k) (D ++ [k]) := by
  refine ⟨h.nd.erase k, List.nodup_append.2 ⟨h.dn, by simp, fun a ha b hb e => ?_⟩, fun x hx => ?_, fun x hx hm => ?_⟩
  · obtain rfl : b = k := by simpa using hb
    subst e
    exact (h.to a ha).2 ht
  · rcases List.mem_append.1 hx with hx | hx
    · exact ⟨(h.to x hx).1, fun hm => (h.to x hx).2 (List.mem_of_mem_erase hm)⟩
    · obtain rfl : x = k := by simpa using hx
      exact ⟨hk, fun hm => ((List.Nodup.mem_erase_iff h.nd).1 hm).1 rfl⟩
  · by_cases e : x = k
    · subst e; simp
    · exact List.mem_append_left _ (h.all x (fun hh => hx ((List.Nodup.mem_erase_iff h.nd).2 ⟨e, hh⟩)) hm)
theorem R.id_lt {r : R} (ok : r.Ok) : r.id < 4294967296 := by
  have := ok.kind
  have := ok.idx
  unfold R.id
  split <;> omega
theorem Turns.grow {P : Nat → Prop} {w w1 w2 : World} {a : Nat} {x : Al} (hl : ∀ c, P c → c < w.heap.size) (hs : w.heap.size ≤ w1.heap.size) (k : Turns (wider P w w1) w1 a x w2) : ∃ g : AlG, g.a = a ∧ AlAt w2 (wider P w w2) x g ∧ Fr (wider P w w1) w1 w2 := by
  obtain ⟨g, h1, h2, h3⟩ := k
  exact ⟨g, h1, h2.more (fun c hc => wider.trans h3.size c hc hs) (wider_lt hl (Nat.le_trans hs h3.size)), h3⟩
def GivesIs (w : World) (P : Nat → Prop) (a : Nat) (x : Al) (d m : Nat) (F : Nat → Nat) (e : Ending) (w' : World) : Prop := e = .returned (.tuple #[]) ∧ ∃ D : List Nat, D.Nodup ∧ (∀ k, k ∈ D ↔ F k &&& m ≠ 0) ∧ Turns P w a (addIs x d D) w'
set_option maxHeartbeats 2000000 in
theorem AddIS_calls (w : World) (P : Nat → Prop) (x : Al) (g : AlG) (r : R) (bo : Option Nat) (F : Nat → Nat) (h : AlAt w P x g) (hl : x.regs.length ≤ 1073741824) (ok : r.Ok) (hat : ∀ W, Fr P w W → r.At W) (ho : MaskO w bo F) (hb : ∀ b, bo = some b → ¬ P b)
    (U : List Nat) (hU : ∀ k, F k ≠ 0 → k ∈ U ∧ k < 4294967296) (hle : x.edges.length + U.length ≤ 8796093022208) :
    Calls Tryz.prog 74 #[ptr g.a, r.val, .map bo] w (GivesIs w P g.a x r.id r.spec F) := by
  obtain ⟨⟨ks, hO⟩, hF⟩ := ho
  have hks : ∀ k, k ∈ ks ↔ F k ≠ 0 := fun k => hO.mem_iff.trans maskV_ne
  have hI0 : DInv F r.spec ks [] := ⟨hO.nodup, List.nodup_nil, by simp, fun k hk hm => absurd ((hks k).2 (fun h0 => hm (by rw [h0]; simp))) hk⟩
  have hbl : ∀ b, bo = some b → b < w.heap.size := fun c hc => by subst hc; exact MapAt.lt hO
  have hid := R.id_lt ok
  go_enter Tryz.func74, Tryz.ntmps74
  go_wp2_with (refine wpList_rangeO rfl rfl rfl hO idInj maskSetT ?_; intro w0 hrg0 hf0 hs0)
  go_frame
  have h0 := h.still hf0
  have hs0' := Lib.hid hs0
  clear hks hs0
  go_loopg [] ks.length (fun n wr => ∃ (todo D : List Nat) (g1 : AlG), RangeO wr w.heap.size bo idV ks (fun k => maskV (F k)) todo ∧ Hid (g1.a = g.a) ∧ AlAt wr (wider P w0 wr) (addIs x r.id D) g1 ∧ DInv F r.spec todo D ∧ Fr (fun c => P c ∨ c = w.heap.size) w0 wr ∧ todo.length = n)
  case atStart => exact ⟨ks, [], g, hrg0, Lib.hid rfl, h0.more (fun c hc => .inl hc) (wider_lt h0.lt (Nat.le_refl _)), hI0, Fr.refl _ _, rfl⟩
  case round =>
    obtain ⟨todo, D, g1, hrg, hg1, h1, hI, hf, rfl⟩ := hrel
    have hnr : ¬ wider P w0 wr w.heap.size := fun hc => by
      rcases hc with hc | hc
      · have := h.lt _ hc; omega
      · have := hc.1; rw [hs0'.out] at this; omega
    go_wp2_with (refine wpList_nextO rfl rfl rfl hrg idInj ?_ ?_)
    · intro h00
      subst h00
      have hD := hI.all
      have hD2 := hI.to
      have hD3 := hI.dn
      clear hI
      go_wp2
      go_end0
      refine ⟨rfl, D, hD3, fun k => ⟨fun hk => (hD2 k hk).1, fun hk => hD k (by simp) hk⟩, g1, hg1.out, ?_, hf0.of_nope.trans hf (fun _ _ x => x) (fun c hc hh => hh.elim id (fun e => by omega))⟩
      refine h1.more (fun c hc => ?_) (wider_lt h.lt (Nat.le_trans hf0.size hf.size))
      rcases hc with hc | hc
      · exact .inl hc
      · exact .inr ⟨Nat.le_trans hf0.size hc.1, hc.2⟩
    · intro k v w1 hk hkk hv hrg1 hf1 hs1 hen
      obtain ⟨rfl, hFk⟩ := maskV_some hv
      have h11 : AlAt w1 (wider P w0 wr) (addIs x r.id D) g1 := h1.fr hf1 (fun c hc e => hnr (e ▸ hc))
      have hlen : (todo.erase k).length < todo.length := by rw [List.length_erase_of_mem hk]; have := List.length_pos_of_mem hk; omega
      have hf01 : Fr (fun c => P c ∨ c = w.heap.size) w0 w1 := hf.then (hf1.mono fun _ _ e => .inr e)
      have hf0w : ∀ W, Fr (fun c => P c ∨ c = w.heap.size) w0 W → Fr P w W := fun W hW => hf0.of_nope.trans hW (fun _ _ x => x) (fun c hc hh => hh.elim id (fun e => by omega))
      have hk32 := (hU k hFk).2
      have ha := u16_and r.spec (F k) ok.spec (hF k)
      have hDl : D.length ≤ U.length := nodup_le hI.dn fun z hz => (hU z (fun h0 => (hI.to z hz).1 (by rw [h0]; simp))).1
      have hel : (addIs x r.id D).edges.length ≤ 8796093022208 := by rw [addIs_edges, List.length_append, List.length_map]; omega
      have hrl : (addIs x r.id D).regs.length ≤ 1073741824 := by rw [addIs_regs]; exact hl
      have hat1 : ∀ W, Fr nope w1 W → r.At W := fun W hW => hat W ((hf0w _ hf01).then hW.of_nope)
      replace hs1 := Lib.hid hs1
      have hmm : (F k &&& r.spec = 0) ↔ r.spec &&& F k = 0 := by rw [Nat.and_comm]
      generalize hm : r.spec &&& F k = m at ha hmm
      replace hm := Lib.hid hm
      clear hv
      unfold idV at hen
      by_cases hz : m = 0
      · have hI1 := hI.no (hmm.2 hz)
        subst hz
        clear hI hmm
        go_wp2_with (refine wpList_Mask rfl rfl rfl ?_; intro w2 hf2)
        go_roundg (todo.erase k).length
        case measure => exact hlen
        case rel =>
          refine ⟨_, D, g1, hrg1.fr hf2 (fun x => x) (fun _ _ x => x), hg1, ?_, hI1, hf01.then hf2.of_nope, rfl⟩
          refine (h11.still hf2).more (fun c hc => ?_) (wider_lt h0.lt (hf01.then hf2.of_nope).size)
          rcases hc with hc | hc
          · exact .inl hc
          · exact .inr ⟨hc.1, by have := hs1.out; have := hf2.size; omega⟩
      · have hI1 := hI.yes (fun e => hz (hmm.1 e)) hk
        have hzz : ((m : Int) == 0) = false := by rw [beq_eq_false_iff_ne]; omega
        clear hI hmm
        go_wp2_with (first
          | (refine wpList_Mask rfl rfl rfl ?_; intro w2 hf2)
          | (refine wpList_ID rfl rfl rfl ok (hat1 _ hf2) ?_; intro w3 hf3))
        have hf03 : Fr (fun c => P c ∨ c = w.heap.size) w0 w3 := (hf01.then hf2.of_nope).then hf3.of_nope
        have h13 : AlAt w3 (wider P w0 w3) (addIs x r.id D) g1 := ((h11.still hf2).still hf3).more (fun c hc => by
          rcases hc with hc | hc
          · exact .inl hc
          · exact .inr ⟨hc.1, by have := hs1.out; have := hf2.size; have := hf3.size; omega⟩) (wider_lt h0.lt hf03.size)
        have hcall := AddI_calls w3 _ _ g1 r.id k h13 hrl hel hid hk32
        rw [hg1.out] at hcall
        refine hcall.mono ?_
        rintro e w4 ⟨rfl, hT⟩
        obtain ⟨g4, hg4, h4, hf34⟩ := hT.grow h0.lt hf03.size
        go_wp2
        go_roundg (todo.erase k).length
        case measure => exact hlen
        case rel =>
          have hsz := hf03.size
          have hs0o := hs0'.out
          refine ⟨_, D ++ [k], g4, ((hrg1.fr hf2 (fun x => x) (fun _ _ x => x)).fr hf3 (fun x => x) (fun _ _ x => x)).fr hf34 ?_ ?_, Lib.hid hg4, by rw [addIs_snoc]; exact h4, hI1, hf03.trans hf34 (fun _ _ x => x) (fun c hc hh => by
            rcases hh with hh | hh
            · exact .inl hh
            · omega), rfl⟩
          · rintro (hc | hc)
            · have := h.lt _ hc; omega
            · have := hc.1; omega
          · rintro c hc (hc2 | hc2)
            · exact hb c hc hc2
            · have := hbl c hc; have := hc2.1; omega
end
section
open Go Go.RowKit Go.MapKept Bth
set_option maxRecDepth 100000
theorem AlAt.edgesTo {w w4 : World} {P Q : Nat → Prop} {x : Al} {g : AlG} (h : AlAt w P x g) {E : List (Nat × Nat)} {bs : List Nat} {s : SV} (hf : Fr (fun c => c = g.a) w w4)
    (ha : w4.heap[g.a]? = some (.cells { g with se := s, eb := bs }.cells 221 (0, 0))) (hrow : w4.ownsRow 0 269 1 s.val E.length (bs.map ptr)) (hlen : bs.length = E.length)
    (he : ∀ (k b : Nat) (e : Nat × Nat), bs[k]? = some b → E[k]? = some e → w4.heap[b]? = some (.cells (edgeCells e) 271 (0, 0)) ∧ Q b) (hq : ∀ c, P c → Q c) (hl : ∀ c, Q c → c < w4.heap.size) (hs : ∀ c, s.val.ownBlock = some c → Q c) :
    AlAt w4 Q { x with edges := E } { g with se := s, eb := bs } := by
  have hT : NoT [162, 271] w (fun c => c = g.a) := NoT.one h.ha (by decide)
  have hm : ∀ {c : Nat} {es : Array MapEntry} {cl : Nat}, w.heap[c]? = some (.map es cl) → ¬ c = g.a := by
    rintro c es cl hm rfl
    rw [h.ha] at hm; cases hm
  obtain ⟨k1, m1⟩ := h.prio
  obtain ⟨k2, m2⟩ := h.al
  have n1 : ¬ g.bp = g.a := by obtain ⟨_, _, o⟩ := MapAt.obj m1; exact hm o
  have n2 : ¬ g.ba = g.a := by obtain ⟨_, _, o⟩ := MapAt.obj m2; exact hm o
  have n3 : ¬ g.bq = g.a := by obtain ⟨_, _, m3, _⟩ := h.poss; obtain ⟨_, _, o⟩ := MapAt.obj m3; exact hm o
  exact
    {
      ha := ha
      regs := own_frT h.regs hf hT (by decide)
      prio := ⟨k1, m1.fr hf n1⟩
      al := ⟨k2, m2.fr hf n2⟩
      edges := hrow
      elen := hlen
      eat := fun k b e h1 h2 => (he k b e h1 h2).1
      poss := (h.poss.frT hf hT (by decide) n3).mono hq
      ne1 := h.ne1
      ne2 := h.ne2
      ne3 := h.ne3
      pa := hq _ h.pa
      pp := hq _ h.pp
      pl := hq _ h.pl
      pq := hq _ h.pq
      pr := fun c hc => hq c (h.pr c hc)
      ps := hs
      pe := fun c hc => by
        obtain ⟨k, hk⟩ := List.getElem?_of_mem hc
        have hk2 : k < E.length := by rw [← hlen]; exact (List.getElem?_eq_some_iff.1 hk).1
        exact (he k c _ hk (List.getElem?_eq_getElem hk2)).2
      lt := hl }
def remK (al : Nat → Option Nat) (E : List (Nat × Nat)) (bs : List Nat) (k : Nat) : List ((Nat × Nat) × Nat) := ((E.zip bs).take k).filter fun q => open2 al q.1
theorem remK_step {al : Nat → Option Nat} {E : List (Nat × Nat)} {bs : List Nat} {k b : Nat} {e : Nat × Nat} (he : E[k]? = some e) (hb : bs[k]? = some b) : remK al E bs (k + 1) = remK al E bs k ++ if open2 al e then [(e, b)] else [] := by
  unfold remK
  rw [List.take_add_one, List.filter_append]
  have : (E.zip bs)[k]? = some (e, b) := List.getElem?_zip_eq_some.2 ⟨he, hb⟩
  rw [this]
  congr 1
  cases ho : open2 al e <;> simp [ho]
theorem remK_le (al : Nat → Option Nat) (E : List (Nat × Nat)) (bs : List Nat) (k : Nat) : (remK al E bs k).length ≤ k := by
  unfold remK
  refine Nat.le_trans (List.length_filter_le _ _) ?_
  rw [List.length_take]; omega
theorem filter_fst (al : Nat → Option Nat) : ∀ (l : List ((Nat × Nat) × Nat)), (l.filter fun q => open2 al q.1).map (·.1) = (l.map (·.1)).filter (open2 al)
  | [] => rfl
  | q :: l => by
    have ih := filter_fst al l
    simp only [List.filter_cons, List.map_cons]
    split <;> simp [ih]
theorem remK_fst {al : Nat → Option Nat} {E : List (Nat × Nat)} {bs : List Nat} (hl : bs.length = E.length) : (remK al E bs E.length).map (·.1) = E.filter (open2 al) := by
  unfold remK
  rw [List.take_of_length_le (by simp [hl]), filter_fst, List.map_fst_zip (by omega)]
def GivesUpd (w : World) (P : Nat → Prop) (a : Nat) (x : Al) (e : Ending) (w' : World) : Prop :=
  Fr P w w' ∧ ((clash x.edges x.al = true ∧ ∃ T v, e = .returned (.iface T v)) ∨
    (clash x.edges x.al = false ∧ e = .returned .nilIface ∧ ∃ g' : AlG, g'.a = a ∧ AlAt w' (wider P w w') { x with edges := x.edges.filter (open2 x.al), poss := strikeL x.al x.edges x.poss } g'))
structure AlFits (x : Al) : Prop where
  ids : ∀ e ∈ x.edges, e.1 < 4294967296 ∧ e.2 < 4294967296
  al : ∀ v p, x.al v = some p → p < 4294967296
  poss : ∀ v l, x.poss v = some l → l.length ≤ 1073741824
  edges : x.edges.length ≤ 8796093022208
theorem lk_lt {al : Nat → Option Nat} (h : ∀ v p, al v = some p → p < 4294967296) {v : Nat} (hv : v < 4294967296) : lk al v < 4294967296 := by
  unfold lk
  cases ha : al v with
  | none => exact hv
  | some p => exact h v p ha
theorem strikeL_len {al : Nat → Option Nat} {E : List (Nat × Nat)} {L : Poss} {n : Nat} (h : ∀ v l, L v = some l → l.length ≤ n) {v : Nat} {l : List Nat} (hl : strikeL al E L v = some l) : l.length ≤ n := by
  unfold strikeL at hl
  obtain ⟨l0, h1, rfl⟩ := Option.map_eq_some_iff.1 hl
  exact Nat.le_trans (List.length_filter_le _ _) (h v l0 h1)
def less (P : Nat → Prop) (w w' : World) (v : Value) : Nat → Prop := fun c => wider P w w' c ∧ v.ownBlock ≠ some c
theorem less_lt {P : Nat → Prop} {w w' : World} {v : Value} (h : ∀ c, P c → c < w.heap.size) (hs : w.heap.size ≤ w'.heap.size) : ∀ c, less P w w' v c → c < w'.heap.size := fun c hc => wider_lt h hs c hc.1
theorem errorsNew_calls (w : World) (s : ByteArray) : Calls Tryz.prog 56 #[.string s] w fun e w' => e = .returned (.iface 189 (.pointer (some ⟨w.heap.size, 0, none⟩))) ∧ Fr nope w w' := by
  go_enter Tryz.func56, Tryz.ntmps56
  go_wp2
  go_ret
  exact ⟨rfl, (Fr.refl _ _).alloc _⟩
theorem quiet_again {P : Program} {f : FuncId} {args : Array Value} {w : World} {a n : Nat} {v : Value} (h : Calls P f args (w.drewN (a + n)) fun e w' => e = .returned v ∧ w' = w.drewN (a + n)) :
    Calls P f args (w.drewN (a + n)) fun e w'' => e = .returned v ∧ ∃ m, w'' = w.drewN (a + m) := h.mono fun _ _ ⟨he, hm⟩ => ⟨he, n, hm⟩
theorem less_step {P : Nat → Prop} {w wr W w5 : World} {v : Value} (h0 : w.heap.size ≤ wr.heap.size) (h1 : wr.heap.size ≤ W.heap.size) (h2 : W.heap.size ≤ w5.heap.size) (hv : ∀ c, v.ownBlock = some c → c < wr.heap.size) : ∀ c, wider (less P w wr v) W w5 c → less P w w5 v c := fun c hc => by
  rcases hc with ⟨hc, hn⟩ | hc
  · refine ⟨?_, hn⟩
    rcases hc with hc | hc
    · exact .inl hc
    · exact .inr ⟨hc.1, by omega⟩
  · exact ⟨.inr ⟨by omega, hc.2⟩, fun e => by have := hv c e; omega⟩
theorem Fr_less {P : Nat → Prop} {w wr W w5 : World} {v : Value} (h : Fr P w wr) (h1 : Fr nope wr W) (h2 : Fr (less P w wr v) W w5) : Fr P w w5 := (h.then h1.of_nope).trans h2 (fun _ _ x => x) (fun c hc hl => by
  rcases hl.1 with hh | hh
  · exact hh
  · omega)
set_option maxHeartbeats 4000000 in
theorem update_calls (w : World) (P : Nat → Prop) (x : Al) (g : AlG) (h : AlAt w P x g) (fit : Fit x.al x.edges x.poss) (hz : AlFits x) :
    Calls Tryz.prog 112 #[ptr g.a] w (GivesUpd w P g.a x) := by
  have hc2 := h.c2
  have hc3 := h.c3
  have halt := h.lt _ h.pa
  obtain ⟨a, bp, ba, bq, sr, ⟨eA, en, ec⟩, eb⟩ := g
  obtain rfl : en = x.edges.length := h.en
  have hel := h.elen
  simp only at hc2 hc3 halt hel
  have hz4 := hz.edges
  unfold ptr
  go_enter Tryz.func112, Tryz.ntmps112
  go_wp2
  replace hel := Lib.hid hel
  replace hc2 := Lib.hid hc2
  replace hc3 := Lib.hid hc3
  go_loopg [3, 13] x.edges.length (fun n c3 c13 wr => ∃ k : Nat, k ≤ x.edges.length ∧ c13 = .int .i64 (k : Int) ∧ wr.ownsRow w.heap.size 269 1 c3 (remK x.al x.edges eb k).length ((remK x.al x.edges eb k).map fun q => ptr q.2) ∧
    AlAt wr (less P w wr c3) { x with poss := strikeL x.al (x.edges.take k) x.poss } ⟨a, bp, ba, bq, sr, ⟨eA, x.edges.length, ec⟩, eb⟩ ∧ Hid (clash (x.edges.take k) x.al = false) ∧ Fr P w wr ∧ n = x.edges.length - k)
  case atStart =>
    refine ⟨0, Nat.zero_le _, rfl, by simpa [remK] using own_nil _ _ _ _, ?_, Lib.hid rfl, Fr.refl _ _, rfl⟩
    have e : strikeL x.al (x.edges.take 0) x.poss = x.poss := by
      funext v
      unfold strikeL strike
      cases hv : x.poss v with
      | none => rfl
      | some l => simp
    rw [e]
    exact h.more (fun c hc => ⟨.inl hc, by simp [Value.ownBlock]⟩) (less_lt h.lt (Nat.le_refl _))
  case round =>
    obtain ⟨k, hk, rfl, hown, h1, hcl, hf, rfl⟩ := hrel
    by_cases hlt : k < x.edges.length
    · obtain ⟨bb, off, u, hA, hbl, hu, hce⟩ := (own_Sl (c := ec) h1.edges).at_ hlt
      rw [List.getElem?_map] at hu
      obtain ⟨bk, hbk, rfl⟩ := Option.map_eq_some_iff.1 hu
      obtain ⟨⟨e1, e2⟩, hek⟩ : ∃ e, x.edges[k]? = some e := ⟨_, List.getElem?_eq_getElem hlt⟩
      have hmem := List.mem_of_getElem? hek
      have hblk := h1.eat k bk (e1, e2) hbk hek
      have hbkl := lt_of_heap hblk
      have he0 : wr.cell? ⟨bk, 0, none⟩ = some (.int .u32 (e1 : Int)) := by rw [cell_of_row wr bk 0 _ _ (0, 0) hblk]; rfl
      have he1 : wr.cell? ⟨bk, 1, none⟩ = some (.int .u32 (e2 : Int)) := by rw [cell_of_row wr bk 1 _ _ (0, 0) hblk]; rfl
      have hcl2 : wr.cell? ⟨a, 2, none⟩ = some (.map (some ba)) := h1.c2
      have hal := Nat.lt_of_lt_of_le halt hf.size
      simp only at hA
      have hT : x.edges.take (k + 1) = x.edges.take k ++ [(e1, e2)] := by rw [List.take_add_one, hek]; rfl
      have hR := remK_step (al := x.al) hek hbk
      obtain ⟨X, hX⟩ : ∃ X, lk x.al e1 = X := ⟨_, rfl⟩
      obtain ⟨Y, hY⟩ : ∃ Y, lk x.al e2 = Y := ⟨_, rfl⟩
      have hX32 : X < 4294967296 := by rw [← hX]; exact lk_lt hz.al (hz.ids _ hmem).1
      have hY32 : Y < 4294967296 := by rw [← hY]; exact lk_lt hz.al (hz.ids _ hmem).2
      have hcT : clash (x.edges.take (k + 1)) x.al = (X == Y && !isV X) := by
        rw [hT]
        unfold clash
        rw [List.any_append]
        have := hcl.out
        unfold clash at this
        rw [this]
        simp [hX, hY]
      have hcD : (X == Y && !isV X) = true → clash x.edges x.al = true := fun hh => by
        rw [← hcT] at hh
        unfold clash at hh ⊢
        obtain ⟨q, g1, g2⟩ := List.any_eq_true.1 hh
        exact List.any_eq_true.2 ⟨q, List.mem_of_mem_take g1, g2⟩
      have hLX : ∀ m, Calls Tryz.prog 132 #[.map (some ba), .int .u32 (e1 : Int)] (wr.drewN m) fun e w' => e = .returned (.int .u32 (X : Int)) ∧ w' = wr.drewN m := fun m => by
        rw [← hX]; exact LookupDefault_calls _ ba x.al e1 (IdMap.eqHeap h1.al rfl)
      have hLY : ∀ m, Calls Tryz.prog 132 #[.map (some ba), .int .u32 (e2 : Int)] (wr.drewN m) fun e w' => e = .returned (.int .u32 (Y : Int)) ∧ w' = wr.drewN m := fun m => by
        rw [← hY]; exact LookupDefault_calls _ ba x.al e2 (IdMap.eqHeap h1.al rfl)
      have hopen : open2 x.al (e1, e2) = (isV X && isV Y) := by unfold open2; rw [hX, hY]
      rw [hopen] at hR
      have hstay : isV X = isV Y → strikeL x.al (x.edges.take (k + 1)) x.poss = strikeL x.al (x.edges.take k) x.poss := fun hh => by
        rw [hT]; exact strikeL_stay fit (by rw [hX, hY]; exact hh)
      have hone1 : isV X = false → isV Y = true → ∃ l, strikeL x.al (x.edges.take k) x.poss Y = some l ∧ strikeL x.al (x.edges.take (k + 1)) x.poss = setL (strikeL x.al (x.edges.take k) x.poss) Y (l.filter fun r => r != X) := fun g1 g2 => by
        rw [hT]; exact strikeL_one fit hmem (.inl ⟨hX.symm, hY.symm⟩) g1 g2
      have hone2 : isV Y = false → isV X = true → ∃ l, strikeL x.al (x.edges.take k) x.poss X = some l ∧ strikeL x.al (x.edges.take (k + 1)) x.poss = setL (strikeL x.al (x.edges.take k) x.poss) X (l.filter fun r => r != Y) := fun g1 g2 => by
        rw [hT]; exact strikeL_one fit hmem (.inr ⟨hY.symm, hX.symm⟩) g1 g2
      have hRl := remK_le x.al x.edges eb k
      have hVX := fun W => IsVirtual_calls W X hX32
      have hVY := fun W => IsVirtual_calls W Y hY32
      have hPX := fun W => IsPhysical_calls W X hX32
      have hPY := fun W => IsPhysical_calls W Y hY32
      replace hT := Lib.hid hT
      replace hR := Lib.hid hR
      replace hcT := Lib.hid hcT
      replace hcD := Lib.hid hcD
      replace hstay := Lib.hid hstay
      replace hone1 := Lib.hid hone1
      replace hone2 := Lib.hid hone2
      replace hX := Lib.hid hX
      replace hY := Lib.hid hY
      replace hek := Lib.hid hek
      clear hu hbk hopen
      subst hA
      simp only [ptr] at hce
      have hle := hf.size
      have hul := own_lt hown
      go_wp2_with fail
      go_quiet ((exact Calls.quiet_of_same (hLX _)))
      go_wp2_with fail
      go_quiet ((exact quiet_again (hLY _)))
      have hq : ∀ m, Fr nope wr (wr.drewN m) := fun m => (Fr.refl nope wr).drewN m
      cases hiX : isV X <;> cases hiY : isV Y
      all_goals
        rw [hiX] at hVX hPX
        rw [hiY] at hVY hPY
        simp only [Bool.not_true, Bool.not_false] at hPX hPY
        replace hiX := Lib.hid hiX
        replace hiY := Lib.hid hiY
      · by_cases hXY : X = Y
        · subst hXY
          go_wp2_with (first
            | (go_at_call 107; refine (hVX _).mono ?_; rintro e w3 ⟨rfl, rfl⟩)
            | (go_at_call 133; refine (hPX _).mono ?_; rintro e w3 ⟨rfl, rfl⟩)
            | (go_at_call 56; refine (errorsNew_calls _ _).mono ?_; rintro e w4 ⟨rfl, hf4⟩))
          go_ret
          refine ⟨(hf.then (hq _).of_nope).then hf4.of_nope, .inl ⟨hcD.out (by rw [hiX.out]; simp), _, _, rfl⟩⟩
        · have hne : (X == Y) = false := by simpa using hXY
          replace hne := Lib.hid hne
          go_wp2_with (first
            | (go_at_call 107; refine (hVX _).mono ?_; rintro e w3 ⟨rfl, rfl⟩)
            | (go_at_call 133; refine (hPX _).mono ?_; rintro e w3 ⟨rfl, rfl⟩)
            | (go_at_call 133; refine (hPY _).mono ?_; rintro e w3 ⟨rfl, rfl⟩))
          go_roundg (x.edges.length - (k + 1))
          case measure => omega
          case rel =>
            refine ⟨k + 1, by omega, by go_num, ?_, ?_, Lib.hid (by rw [hcT.out, hne.out]; rfl), hf.then (hq _).of_nope, rfl⟩
            · rw [hR.out, hiX.out]; simpa using own_fr hown (hq _) (fun _ _ x => x)
            · rw [hstay.out (by rw [hiX.out, hiY.out])]
              exact h1.still (hq _)
      · obtain ⟨l, hl1, hl2⟩ := hone1.out hiX.out hiY.out
        have hll := strikeL_len hz.poss hl1
        replace hl2 := Lib.hid hl2
        have hdc := fun W hW => disc_calls W _ _ _ Y X l (h1.still (w' := W) hW) hl1 hll
        replace hl1 := Lib.hid hl1
        unfold ptr at hdc
        go_wp2_with (first
          | (go_at_call 107; refine (hVX _).mono ?_; rintro e w3 ⟨rfl, rfl⟩)
          | (go_at_call 107; refine (hVY _).mono ?_; rintro e w3 ⟨rfl, rfl⟩)
          | (go_at_call 133; refine (hPX _).mono ?_; rintro e w3 ⟨rfl, rfl⟩)
          | (go_at_call 133; refine (hPY _).mono ?_; rintro e w3 ⟨rfl, rfl⟩)
          | (go_at_call 134; refine (hdc _ (hq _)).mono ?_; rintro e w5 ⟨rfl, h5, hf5⟩))
        go_roundg (x.edges.length - (k + 1))
        case measure => omega
        case rel =>
          refine ⟨k + 1, by omega, by go_num, ?_, ?_, Lib.hid (by rw [hcT.out, hiX.out]; cases hb : X == Y; rfl; rw [beq_iff_eq] at hb; rw [hb, hiY.out] at hiX; exact absurd hiX.out (by simp)), Fr_less hf (hq _) hf5, rfl⟩
          · rw [hR.out, hiX.out]; simpa using own_fr (own_fr hown (hq _) (fun _ _ x => x)) hf5 (fun b hb hc => hc.2 hb)
          · rw [hl2.out]
            exact h5.more (less_step hle (Nat.le_refl _) hf5.size hul) (less_lt h.lt (Fr_less hf (hq _) hf5).size)
      · obtain ⟨l, hl1, hl2⟩ := hone2.out hiY.out hiX.out
        have hll := strikeL_len hz.poss hl1
        replace hl2 := Lib.hid hl2
        have hdc := fun W hW => disc_calls W _ _ _ X Y l (h1.still (w' := W) hW) hl1 hll
        replace hl1 := Lib.hid hl1
        unfold ptr at hdc
        go_wp2_with (first
          | (go_at_call 107; refine (hVX _).mono ?_; rintro e w3 ⟨rfl, rfl⟩)
          | (go_at_call 107; refine (hVY _).mono ?_; rintro e w3 ⟨rfl, rfl⟩)
          | (go_at_call 133; refine (hPX _).mono ?_; rintro e w3 ⟨rfl, rfl⟩)
          | (go_at_call 133; refine (hPY _).mono ?_; rintro e w3 ⟨rfl, rfl⟩)
          | (go_at_call 134; refine (hdc _ (hq _)).mono ?_; rintro e w5 ⟨rfl, h5, hf5⟩))
        go_roundg (x.edges.length - (k + 1))
        case measure => omega
        case rel =>
          refine ⟨k + 1, by omega, by go_num, ?_, ?_, Lib.hid (by rw [hcT.out, hiX.out]; simp), Fr_less hf (hq _) hf5, rfl⟩
          · rw [hR.out, hiX.out, hiY.out]; simpa using own_fr (own_fr hown (hq _) (fun _ _ x => x)) hf5 (fun b hb hc => hc.2 hb)
          · rw [hl2.out]
            exact h5.more (less_step hle (Nat.le_refl _) hf5.size hul) (less_lt h.lt (Fr_less hf (hq _) hf5).size)
      · go_wp2_with (first
          | (go_at_call 107; refine (hVX _).mono ?_; rintro e w3 ⟨rfl, rfl⟩)
          | (go_at_call 107; refine (hVY _).mono ?_; rintro e w3 ⟨rfl, rfl⟩)
          | (refine wpList_app (v := u3) rfl rfl Tryz.underlying218 infoPE rfl (by omega) rfl (own_fr (own_fr hown (hq _) (fun _ _ x => x)) ((Fr.refl nope _).alloc _) (fun _ _ x => x)) rfl (news := [.pointer (some ⟨bk, 0, none⟩)]) rfl (one_new _ _ _ _ (by simp)) (by simp [Value.oneCell']) (by simp only [maxLen]; omega) (by omega) (by simp; omega) ?_; intro v5 w5 hown5 hf5 hb5))
        go_roundg (x.edges.length - (k + 1))
        case measure => omega
        case rel =>
          have hqa : ∀ m o, Fr nope wr ((wr.drewN m).alloc o) := fun m o => (hq m).alloc o
          have hs5 := hf5.size
          simp at hs5
          have hw5 : Fr P w w5 := (hf.then (hqa _ _).of_nope).then_new hf5 (fun c hc e => by have := own_base hown c e; omega)
          refine ⟨k + 1, by omega, by go_num, ?_, ?_, Lib.hid (by rw [hcT.out, hiX.out]; simp), hw5, rfl⟩
          · rw [hR.out, hiX.out, hiY.out]; simp only [Bool.and_self, if_true, List.map_append, List.length_append]; exact hown5
          · rw [hstay.out (by rw [hiX.out, hiY.out])]
            refine ((h1.still (hqa _ _)).fr hf5 (fun c hc e => hc.2 e)).more (fun c hc => ⟨?_, fun e => ?_⟩) (less_lt h.lt hw5.size)
            · rcases hc.1 with hc1 | hc1
              · exact .inl hc1
              · exact .inr ⟨hc1.1, by omega⟩
            · rcases hb5 with hb | hb
              · exact hc.2 (hb ▸ e)
              · rw [hb] at e
                injection e with e
                have := less_lt h.lt hle c hc
                simp at e
                omega
    · obtain rfl : k = x.edges.length := by omega
      have ha1 := h1.ha
      have hfz : wr.frozen? ⟨a, 3, none⟩ = false := frozen_row ha1 3
      have hc31 : wr.cell? ⟨a, 3, none⟩ = some (.slice eA x.edges.length ec) := h1.c3
      have hal := Nat.lt_of_lt_of_le halt hf.size
      obtain ⟨A5, c5, rfl, _, _⟩ := own_slice hown
      have hle := hf.size
      go_wp2
      go_ret
      have hst : Fr (fun c => c = a) wr (wr.setCell ⟨a, 3, none⟩ (.slice A5 (remK x.al x.edges eb x.edges.length).length c5)) := (Fr.refl (fun c => c = a) wr).setCell (.inl rfl) _
      have hst2 : Fr P w (wr.setCell ⟨a, 3, none⟩ (.slice A5 (remK x.al x.edges eb x.edges.length).length c5)) := hf.then (hst.mono fun c _ e => by rw [e]; exact h.pa)
      have hlen : (remK x.al x.edges eb x.edges.length).length = (x.edges.filter (open2 x.al)).length := by rw [← remK_fst hel.out, List.length_map]
      have hs4 : (wr.setCell ⟨a, 3, none⟩ (.slice A5 (remK x.al x.edges eb x.edges.length).length c5)).heap.size = wr.heap.size := by simp [World.setCell]
      have hsub : ∀ c, less P w wr (.slice A5 (remK x.al x.edges eb x.edges.length).length c5) c → wider P w (wr.setCell ⟨a, 3, none⟩ (.slice A5 (remK x.al x.edges eb x.edges.length).length c5)) c := fun c hc => by
        rcases hc.1 with hc1 | hc1
        · exact .inl hc1
        · exact .inr ⟨hc1.1, by rw [hs4]; exact hc1.2⟩
      rw [List.take_of_length_le (Nat.le_refl _)] at h1 hcl
      refine ⟨hst2, .inr ⟨hcl.out, rfl, ⟨a, bp, ba, bq, sr, ⟨A5, (remK x.al x.edges eb x.edges.length).length, c5⟩, (remK x.al x.edges eb x.edges.length).map (·.2)⟩, rfl, ?_⟩⟩
      refine AlAt.edgesTo (E := x.edges.filter (open2 x.al)) h1 hst (setCell_heap ha1 _) ?_ (by rw [List.length_map, hlen]) ?_ hsub (wider_lt h.lt hst2.size) ?_
      · rw [← hlen, List.map_map]
        exact own_le (own_fr hown hst (fun c hc e => own_ne hown ha1 (by decide) (by rw [e] at hc; exact hc))) (Nat.zero_le _)
      · intro j b e hb he
        rw [← remK_fst hel.out, List.getElem?_map] at he
        rw [List.getElem?_map] at hb
        obtain ⟨q, hq1, hq2⟩ := Option.map_eq_some_iff.1 hb
        rw [hq1] at he
        simp only [Option.map_some, Option.some.injEq] at he
        have hqm : q ∈ x.edges.zip eb := List.mem_of_mem_take (List.mem_filter.1 (List.mem_of_getElem? hq1)).1
        obtain ⟨i, hi⟩ := List.getElem?_of_mem hqm
        obtain ⟨hi1, hi2⟩ := List.getElem?_zip_eq_some.1 hi
        rw [hq2] at hi2
        rw [he] at hi1
        have hbl := h1.eat i b e hi2 hi1
        exact ⟨hst.heap hbl (fun e2 => by rw [e2, ha1] at hbl; cases hbl), hsub b (h1.pe b (List.mem_of_getElem? hi2))⟩
      · intro c hc
        exact .inr ⟨own_base hown c hc, by rw [hs4]; exact own_lt hown c hc⟩
end
end Go.Proofs.YtbaihlfnbdifgaaGreat
