/- Part of the proof of boundApart_upto. -/
import Derived.Test.YtbaihlfnbdifgaaGreatP14
import Derived.Test.YtbaihlfnbdifgaaGreatP16
import Derived.Test.YtbaihlfnbdifgaaGreatP19
import Derived.Test.YtbaihlfnbdifgaaGreatP20
namespace Go.Proofs.YtbaihlfnbdifgaaGreat
section
open Go Go.RowKit Bth
set_option maxRecDepth 100000
def TlsV (w : World) (vs : List Value) (ls : List TL) : Prop := vs.length = ls.length ∧ ∀ (k : Nat) (v : Value) (s : TL), vs[k]? = some v → ls[k]? = some s → ∃ A c, v = .slice A s.length c ∧ TlAt w A s
theorem TlsV.frT {S : Nat → Prop} {w w' : World} {vs : List Value} {ls : List TL} (h : TlsV w vs ls) (hf : Fr S w w') (hs : NoT [47] w S) : TlsV w' vs ls := ⟨h.1, fun k v s h1 h2 => by
  obtain ⟨A, c, e, hT⟩ := h.2 k v s h1 h2
  exact ⟨A, c, e, Rw.frT hT hf hs (by decide)⟩⟩
theorem TlsV.snoc {w : World} {vs : List Value} {ls : List TL} {A : Option Addr} {c : Nat} {s : TL} (h : TlsV w vs ls) (hs : TlAt w A s) : TlsV w (vs ++ [.slice A s.length c]) (ls ++ [s]) := by
  refine ⟨by simp [h.1], fun k v t h1 h2 => ?_⟩
  by_cases hlt : k < vs.length
  · rw [List.getElem?_append_left hlt] at h1
    rw [List.getElem?_append_left (by rw [← h.1]; exact hlt)] at h2
    exact h.2 k v t h1 h2
  · rw [List.getElem?_append_right (by omega)] at h1
    rw [List.getElem?_append_right (by rw [← h.1]; omega), ← h.1] at h2
    have hk : k - vs.length = 0 := by
      have := (List.getElem?_eq_some_iff.1 h1).1
      simp at this; omega
    rw [hk] at h1 h2
    simp only [List.getElem?_cons_zero, Option.some.injEq] at h1 h2
    subst h1 h2
    exact ⟨A, c, rfl, hs⟩
def TlsAt (w : World) (A : Option Addr) (ls : List TL) : Prop := ∃ vs, Rw w 45 1 A ls.length vs ∧ TlsV w vs ls
theorem TlsAt.nope {w w' : World} {A : Option Addr} {ls : List TL} (h : TlsAt w A ls) (hf : Fr nope w w') : TlsAt w' A ls := by
  obtain ⟨vs, h1, h2⟩ := h
  exact ⟨vs, h1.nope hf, h2.frT hf (NoT.nope _ _)⟩
theorem infoLs : (Tryz.prog.info? 45).map (fun i => (i.zero, i.size, i.bytes)) = some (some (.slice none 0 0), 1, 24) := by kernel_rfl
def rdT (p : PI) : TL := tlOf (inGs p.canc p.inp p.out)
def wrT (p : PI) : TL := tlOf (outGs p.out)
theorem okP_gs {p : PO} (h : okP p = true) : ∀ g ∈ p.gs, okG g = true := by
  intro g hg
  unfold PO.gs at hg
  unfold okP at h
  split at hg
  · rename_i h1
    rw [if_pos h1] at h
    obtain rfl : g = p.reg := by simpa using hg
    exact h
  · rename_i h1
    rw [if_neg h1] at h
    split at hg
    · rename_i h2
      rw [if_pos h2] at h
      unfold okM at h
      simp only [Bool.and_eq_true, Bool.or_eq_true, Bool.not_eq_true'] at h
      rcases List.mem_append.1 hg with hg | hg
      · split at hg
        · rename_i hb
          obtain rfl : g = p.base := by simpa using hg
          rcases h.1 with h | h
          · rw [hb] at h; cases h
          · exact h
        · cases hg
      · split at hg
        · rename_i hb
          obtain rfl : g = p.index := by simpa using hg
          rcases h.2 with h | h
          · rw [hb] at h; cases h
          · exact h
        · cases hg
    · cases hg
theorem gsOf_okG {ps : List PO} (h : ps.all okP = true) : ∀ g ∈ gsOf ps, okG g = true := by
  intro g hg
  obtain ⟨p, hp, hg⟩ := List.mem_flatMap.1 hg
  exact okP_gs (List.all_eq_true.1 h p hp) g hg
theorem outGs_sub {ps : List PO} : ∀ g ∈ outGs ps, g ∈ gsOf ps := by
  intro g hg
  obtain ⟨p, hp, e⟩ := List.mem_filterMap.1 hg
  refine List.mem_flatMap.2 ⟨p, hp, ?_⟩
  unfold PO.asG at e
  unfold PO.gs
  split at e
  · rename_i h1
    rw [if_pos h1]
    injection e with e
    rw [← e]; simp
  · cases e
theorem inGs_sub {c : Bool} {is os : List PO} : ∀ g ∈ inGs c is os, g ∈ gsOf is ∨ g ∈ gsOf os := by
  intro g hg
  have hmem : ∀ g ∈ memGs os, g ∈ gsOf os := fun g hg => by
    obtain ⟨p, hp, hg⟩ := List.mem_flatMap.1 hg
    exact List.mem_flatMap.2 ⟨p, (List.mem_filter.1 hp).1, hg⟩
  cases c with
  | false =>
    rw [inGs_f] at hg
    rcases List.mem_append.1 hg with h | h
    · exact .inl h
    · exact .inr (hmem g h)
  | true =>
    rw [inGs_t _ _ _ rfl] at hg
    rcases List.mem_append.1 hg with h | h
    · left
      generalize gsOf is = l at h ⊢
      rcases l with _ | ⟨a, _ | ⟨b, l⟩⟩
      · exact h
      · exact h
      · simp only [canc2] at h
        split at h
        · cases h
        · exact h
    · exact .inr (hmem g h)
theorem gsOf_le (l : List PO) : (gsOf l).length ≤ 2 * l.length := by
  induction l with
  | nil => simp [gsOf]
  | cons q l ih =>
    have e : gsOf (q :: l) = q.gs ++ gsOf l := rfl
    have := q.gs_len
    rw [e, List.length_append, List.length_cons]; omega
theorem outGs_le (l : List PO) : (outGs l).length ≤ l.length := List.length_filterMap_le _ _
theorem inGs_le (c : Bool) (is os : List PO) : (inGs c is os).length ≤ 2 * is.length + 2 * os.length := by
  have hm : (memGs os).length ≤ 2 * os.length := by
    have h1 := gsOf_le (os.filter fun p => p.kind == 2)
    have h2 : (os.filter fun p => p.kind == 2).length ≤ os.length := List.length_filter_le _ _
    unfold memGs
    omega
  have hi := gsOf_le is
  cases c with
  | false => rw [inGs_f, List.length_append]; omega
  | true =>
    rw [inGs_t _ _ _ rfl, List.length_append]
    have : (canc2 (gsOf is)).length ≤ (gsOf is).length := by
      generalize gsOf is = l
      rcases l with _ | ⟨a, _ | ⟨b, l⟩⟩
      · simp [canc2]
      · simp [canc2]
      · simp only [canc2]; split <;> simp
    omega
theorem PI.At.okGs {w : World} {B : Nat} {p : PI} (h : p.At w B) (hok : okI p = true) : (∀ g ∈ inGs p.canc p.inp p.out, okG g = true ∧ g.Ok) ∧ (∀ g ∈ outGs p.out, okG g = true ∧ g.Ok) := by
  unfold okI at hok
  simp only [Bool.and_eq_true] at hok
  have ki : ∀ g ∈ gsOf p.inp, okG g = true ∧ g.Ok := fun g hg => ⟨gsOf_okG hok.1.2 g hg, gsOf_ok h.ok.2.1 g hg⟩
  have ko : ∀ g ∈ gsOf p.out, okG g = true ∧ g.Ok := fun g hg => ⟨gsOf_okG hok.2 g hg, gsOf_ok h.ok.2.2 g hg⟩
  exact ⟨fun g hg => (inGs_sub g hg).elim (ki g) (ko g), fun g hg => ko g (outGs_sub g hg)⟩
def GivesAcc (w : World) (is : List PI) (e : Ending) (w' : World) : Prop := Fr nope w w' ∧ ∃ A1 c1 A2 c2, e = .returned (.tuple #[.slice A1 is.length c1, .slice A2 is.length c2, .bool true]) ∧ TlsAt w' A1 (is.map rdT) ∧ TlsAt w' A2 (is.map wrT)
set_option maxHeartbeats 2000000 in
theorem Accesses_calls (w : World) (A : Option Addr) (c B : Nat) (is : List PI) (h : InstrsAt w A is) (hp : ∀ p ∈ is, p.At w B ∧ okI p = true) (hl : is.length ≤ 1048576) : Calls Tryz.prog 42 #[.slice A is.length c] w (GivesAcc w is) := by
  go_enter Tryz.func42, Tryz.ntmps42
  go_wp2
  go_loopg [2, 3, 5] is.length (fun n c2 c3 c5 wr => ∃ (k : Nat) (A1 : Option Addr) (d1 : Nat) (A2 : Option Addr) (d2 : Nat) (v1 v2 : List Value), k ≤ is.length ∧ c5 = .int .i64 (k : Int) ∧ c2 = .slice A1 k d1 ∧ c3 = .slice A2 k d2 ∧ wr.ownsRow w.heap.size 45 1 (.slice A1 k d1) k v1 ∧ wr.ownsRow w.heap.size 45 1 (.slice A2 k d2) k v2 ∧ Hid (TlsV wr v1 ((is.take k).map rdT)) ∧ Hid (TlsV wr v2 ((is.take k).map wrT)) ∧
    Hid (∀ b, (Value.slice A1 k d1).ownBlock = some b → (Value.slice A2 k d2).ownBlock ≠ some b) ∧ Fr nope w wr ∧ n = is.length - k)
  case atStart => exact ⟨0, none, 0, none, 0, [], [], Nat.zero_le _, rfl, rfl, rfl, own_nil _ _ _ _, own_nil _ _ _ _, Lib.hid ⟨rfl, by simp⟩, Lib.hid ⟨rfl, by simp⟩, Lib.hid (by simp [Value.ownBlock]), Fr.refl _ _, rfl⟩
  case round =>
    obtain ⟨k, A1, d1, A2, d2, v1, v2, hk, rfl, rfl, rfl, ho1, ho2, ht1, ht2, hdj, hf, rfl⟩ := hrel
    by_cases hlt : k < is.length
    · obtain ⟨p, hx⟩ : ∃ x, is[k]? = some x := ⟨_, List.getElem?_eq_getElem hlt⟩
      obtain ⟨b, off, hBe, hbl, hr⟩ := h.at_ PI.list_len hx
      subst hBe
      obtain ⟨hpa, hpo⟩ := hp p (List.mem_of_getElem? hx)
      have hrg : ∀ W, Fr nope w W → W.rangeAt b (off + k * 10) p.cells.toList := fun W hW j v hv => hW.cell (hr j v hv) (fun x => x)
      have hT := Lib.hid (take_snoc hx)
      obtain ⟨hgi, hgo⟩ := hpa.okGs hpo
      have hfew := hpa.few
      have hli := inGs_le p.canc p.inp p.out
      have hlo := outGs_le p.out
      clear hr hx
      have hsz := hf.size
      go_wp2_with (refine wpList_load_mid rfl _ _ rfl b (off + k * 10) rfl p.cells.toList _ (hrg _ hf) Tryz.underlying38 rfl (by kernel_rfl) ?_)
      refine (spInputRegisters_calls _ B p (hpa.fr hf (fun _ _ x => x)) hpo).mono ?_
      rintro e w1 ⟨hf1, Ag, cg, rfl, hog⟩
      have hn1 := hf.then hf1
      go_wp2_with (refine wpList_load_mid rfl _ _ rfl b (off + k * 10) rfl p.cells.toList _ (hrg _ hn1) Tryz.underlying38 rfl (by kernel_rfl) ?_)
      refine (spOutputRegisters_calls _ B p (hpa.fr hn1 (fun _ _ x => x)) hpo).mono ?_
      rintro e w2 ⟨hf2, Ah, ch, rfl, hoh⟩
      have hgi2 := (Rw.of_own hog).nope hf2
      have hn2 := hn1.then hf2
      go_wp2_with fail
      refine (liveOf_calls w2 Ag cg _ hgi2 hgi (by omega)).mono ?_
      rintro e w3 ⟨hf3, Ai, ci, rfl, hti⟩
      have hn3 := hn2.then hf3
      have hfr3 : Fr nope wr w3 := (hf1.then hf2).then hf3
      have hsz3 := hfr3.size
      have ho13 := own_fr ho1 hfr3 (fun _ _ x => x)
      have ho13a := own_fr ho13 ((Fr.refl nope w3).alloc (.cells #[.slice Ai (tlOf (inGs p.canc p.inp p.out)).length ci] 45)) (fun _ _ x => x)
      go_wp2_with (refine wpList_app (v := .slice A1 k d1) rfl rfl Tryz.underlying27 infoLs rfl (by omega) rfl ho13a rfl (news := [.slice Ai (tlOf (inGs p.canc p.inp p.out)).length ci]) rfl (one_new _ _ _ _ rfl) (by simp [Value.oneCell']) (by simp only [maxLen]; omega) (by omega) (by simp; omega) ?hk)
      case hk =>
        intro v4 w4 hown4 hf4 hb4
        obtain ⟨A3, d3, rfl, _, _⟩ := own_slice hown4
        have hS4 : NoT [47, 41] _ (fun b => (Value.slice A1 k d1).ownBlock = some b) := NoT.own ho13a (by decide)
        have hal : Fr nope w3 (w3.alloc (.cells #[.slice Ai (tlOf (inGs p.canc p.inp p.out)).length ci] 45)) := (Fr.refl nope w3).alloc _
        have hbo1 := own_base ho1
        have hn4 : Fr nope w w4 := (hn3.then hal).then_new hf4 (fun x hx e => by have := hbo1 x e; omega)
        have hg4 : GsAt w4 Ah (outGs p.out) := (((Rw.of_own hoh).nope hf3).nope hal).frT hf4 hS4 (by decide)
        have ht14 : TlsV w4 (v1 ++ [.slice Ai (tlOf (inGs p.canc p.inp p.out)).length ci]) ((is.take (k + 1)).map rdT) := by
          rw [hT.out, List.map_append]
          exact (TlsV.snoc ((ht1.out.frT hfr3 (NoT.nope _ _))) hti).frT hal (NoT.nope _ _) |>.frT hf4 (hS4.sub (by decide))
        have hd4 : ∀ b, (Value.slice A3 (k + 1) d3).ownBlock = some b → (Value.slice A2 k d2).ownBlock ≠ some b := fun b hb hb2 => by
          rcases hb4 with e | e
          · rw [hb] at e; exact hdj.out b e.symm hb2
          · rw [hb] at e
            injection e with e
            have := own_lt ho2 b hb2
            omega
        have ho24 := own_fr (own_fr (own_fr ho2 hfr3 (fun _ _ x => x)) hal (fun _ _ x => x)) hf4 (fun b hb e => hdj.out b e hb)
        have ht24 := ((ht2.out.frT hfr3 (NoT.nope _ _)).frT hal (NoT.nope _ _)).frT hf4 (hS4.sub (by decide))
        have hsz4 := hn4.size
        replace ht14 := Lib.hid ht14
        replace ht24 := Lib.hid ht24
        replace hd4 := Lib.hid hd4
        clear hb4
        go_wp2_with fail
        refine (liveOf_calls w4 Ah ch _ hg4 hgo (by omega)).mono ?_
        rintro e w5 ⟨hf5, Aj, cj, rfl, htj⟩
        have hn5 := hn4.then hf5
        have hsz5 := hn5.size
        have hown5 := own_fr hown4 hf5 (fun _ _ x => x)
        have ho25 := own_fr ho24 hf5 (fun _ _ x => x)
        have ho25a := own_fr ho25 ((Fr.refl nope w5).alloc (.cells #[.slice Aj (tlOf (outGs p.out)).length cj] 45)) (fun _ _ x => x)
        go_wp2_with (refine wpList_app (v := .slice A2 k d2) rfl rfl Tryz.underlying27 infoLs rfl (by omega) rfl ho25a rfl (news := [.slice Aj (tlOf (outGs p.out)).length cj]) rfl (one_new _ _ _ _ rfl) (by simp [Value.oneCell']) (by simp only [maxLen]; omega) (by omega) (by simp; omega) ?hm)
        case hm =>
          intro v6 w6 hown6 hf6 hb6
          obtain ⟨A5, d5, rfl, _, _⟩ := own_slice hown6
          have hS6 : NoT [47, 41] _ (fun b => (Value.slice A2 k d2).ownBlock = some b) := NoT.own ho25a (by decide)
          have hal6 : Fr nope w5 (w5.alloc (.cells #[.slice Aj (tlOf (outGs p.out)).length cj] 45)) := (Fr.refl nope w5).alloc _
          have hbo2 := own_base ho2
          have hn6 : Fr nope w w6 := (hn5.then hal6).then_new hf6 (fun x hx e => by have := hbo2 x e; omega)
          have ht16 := Lib.hid (((ht14.out.frT hf5 (NoT.nope _ _)).frT hal6 (NoT.nope _ _)).frT hf6 (hS6.sub (by decide)))
          have ht26 : TlsV w6 (v2 ++ [.slice Aj (tlOf (outGs p.out)).length cj]) ((is.take (k + 1)).map wrT) := by
            rw [hT.out, List.map_append]
            exact (TlsV.snoc (ht24.out.frT hf5 (NoT.nope _ _)) htj).frT hal6 (NoT.nope _ _) |>.frT hf6 (hS6.sub (by decide))
          have hown16 := own_fr (own_fr hown5 hal6 (fun _ _ x => x)) hf6 (fun b hb e => hd4.out b hb e)
          have hd6 : ∀ b, (Value.slice A3 (k + 1) d3).ownBlock = some b → (Value.slice A5 (k + 1) d5).ownBlock ≠ some b := fun b hb hb2 => by
            rcases hb6 with e | e
            · rw [hb2] at e; exact hd4.out b hb e.symm
            · rw [hb2] at e
              injection e with e
              have := own_lt hown5 b hb
              omega
          replace ht26 := Lib.hid ht26
          replace hd6 := Lib.hid hd6
          clear hb6
          go_wp2
          go_roundg (is.length - (k + 1))
          case measure => omega
          case rel => exact ⟨k + 1, A3, d3, A5, d5, _, _, by omega, by go_num, rfl, rfl, hown16, hown6, ht16, ht26, hd6, hn6, rfl⟩
    · have hke : k = is.length := by omega
      subst hke
      rw [List.take_length] at ht1 ht2
      have e1 : (is.map rdT).length = is.length := by simp
      have e2 : (is.map wrT).length = is.length := by simp
      go_wp2
      go_ret3
      exact ⟨hf, A1, d1, A2, d2, rfl, ⟨v1, by rw [e1]; exact Rw.of_own ho1, ht1.out⟩, ⟨v2, by rw [e2]; exact Rw.of_own ho2, ht2.out⟩⟩
end
section
open Go Go.RowKit Bth
set_option maxRecDepth 100000
def RowT (w : World) (b n : Nat) (I : Nat → TL) : Prop := ∃ cs : Array Value, w.heap[b]? = some (.cells cs 45 (0, 0)) ∧ cs.size = n ∧ ∀ k, k < n → ∃ A c, cs[k]? = some (.slice A (I k).length c) ∧ TlAt w A (I k)
theorem RowT.nope {w w' : World} {b n : Nat} {I : Nat → TL} (h : RowT w b n I) (hf : Fr nope w w') : RowT w' b n I := by
  obtain ⟨cs, h1, h2, h3⟩ := h
  refine ⟨cs, hf.heap h1 (fun x => x), h2, fun k hk => ?_⟩
  obtain ⟨A, c, h4, h5⟩ := h3 k hk
  exact ⟨A, c, h4, h5.nope hf⟩
theorem RowT.lt {w : World} {b n : Nat} {I : Nat → TL} (h : RowT w b n I) : b < w.heap.size := by
  obtain ⟨cs, h1, _⟩ := h
  exact lt_of_heap h1
theorem RowT.at_ {w : World} {b n : Nat} {I : Nat → TL} (h : RowT w b n I) {k : Nat} (hk : k < n) : ∃ A c, w.cell? ⟨b, k, none⟩ = some (.slice A (I k).length c) ∧ TlAt w A (I k) := by
  obtain ⟨cs, h1, h2, h3⟩ := h
  obtain ⟨A, c, h4, h5⟩ := h3 k hk
  exact ⟨A, c, by rw [cell_of_row w b k _ _ (0, 0) h1]; exact h4, h5⟩
theorem RowT.noT {w : World} {b n : Nat} {I : Nat → TL} (h : RowT w b n I) : NoT [47] w (fun x => x = b) := by
  obtain ⟨cs, h1, _⟩ := h
  exact NoT.one h1 (by decide)
theorem RowT.frozen {w : World} {b n : Nat} {I : Nat → TL} (h : RowT w b n I) : ∀ j, w.frozen? ⟨b, j, none⟩ = false := by
  obtain ⟨cs, h1, _⟩ := h
  exact frozen_row h1
theorem RowT.set {w : World} {b n : Nat} {I : Nat → TL} (h : RowT w b n I) {k : Nat} {A : Option Addr} {c : Nat} {t : TL} (ht : TlAt w A t) : RowT (w.setCell ⟨b, k, none⟩ (.slice A t.length c)) b n (updT I k t) := by
  have hn := h.noT
  obtain ⟨cs, h1, h2, h3⟩ := h
  have hf : Fr (fun x => x = b) w (w.setCell ⟨b, k, none⟩ (.slice A t.length c)) := (Fr.refl (fun x => x = b) w).setCell (.inl rfl) _
  refine ⟨_, setCell_heap h1 _, by simp [h2], fun j hj => ?_⟩
  by_cases e : j = k
  · subst e
    refine ⟨A, c, ?_, ?_⟩
    · rw [Array.getElem?_setIfInBounds]; simp [h2, hj, updT]
    · rw [updT, if_pos rfl]; exact ht.frT hf hn (by decide)
  · obtain ⟨A', c', h4, h5⟩ := h3 j hj
    refine ⟨A', c', ?_, ?_⟩
    · rw [Array.getElem?_setIfInBounds, if_neg (fun h => e h.symm), updT, if_neg e]; exact h4
    · rw [updT, if_neg e]; exact h5.frT hf hn (by decide)
theorem RowT.other {w : World} {b b' n k : Nat} {I O : Nat → TL} {v : Value} (h : RowT w b n I) (ho : RowT w b' n O) (hne : b ≠ b') : RowT (w.setCell ⟨b', k, none⟩ v) b n I := by
  have hn := ho.noT
  have hf : Fr (fun x => x = b') w (w.setCell ⟨b', k, none⟩ v) := (Fr.refl (fun x => x = b') w).setCell (.inl rfl) _
  obtain ⟨cs, h1, h2, h3⟩ := h
  refine ⟨cs, hf.heap h1 hne, h2, fun j hj => ?_⟩
  obtain ⟨A, c, h4, h5⟩ := h3 j hj
  exact ⟨A, c, h4, h5.frT hf hn (by decide)⟩
theorem TlsAt.at_ {w : World} {A : Option Addr} {ls : List TL} (h : TlsAt w A ls) {k : Nat} {s : TL} (hk : ls[k]? = some s) : ∃ b off A' c, A = some ⟨b, off, none⟩ ∧ b < w.heap.size ∧ w.cell? ⟨b, off + k, none⟩ = some (.slice A' s.length c) ∧ TlAt w A' s := by
  obtain ⟨vs, h1, h2, h3⟩ := h
  have hlt := (List.getElem?_eq_some_iff.1 hk).1
  obtain ⟨b, off, cs, fr, e, hb, hc⟩ := h1.row (by omega)
  have hv := List.getElem?_eq_getElem (show k < vs.length by omega)
  obtain ⟨A', c, e2, hT⟩ := h3 k _ s hv hk
  exact ⟨b, off, A', c, e, lt_of_heap hb, by rw [hc k _ hv, e2], hT⟩
theorem lv_set {w : World} {bi bo n i : Nat} {I O : Nat → TL} {A1 A2 : Option Addr} {c1 c2 : Nat} {a b : TL} (hne : bi ≠ bo) (hI : RowT w bi n I) (hO : RowT w bo n O) (ha : TlAt w A1 a) (hb : TlAt w A2 b) :
    RowT ((w.setCell ⟨bi, i, none⟩ (.slice A1 a.length c1)).setCell ⟨bo, i, none⟩ (.slice A2 b.length c2)) bi n (updT I i a) ∧ RowT ((w.setCell ⟨bi, i, none⟩ (.slice A1 a.length c1)).setCell ⟨bo, i, none⟩ (.slice A2 b.length c2)) bo n (updT O i b) := by
  have h1 := hI.set (k := i) (c := c1) ha
  have h2 := hO.other (k := i) (v := .slice A1 a.length c1) hI hne.symm
  have hb' : TlAt (w.setCell ⟨bi, i, none⟩ (.slice A1 a.length c1)) A2 b := Rw.frT hb ((Fr.refl (fun x => x = bi) w).setCell (.inl rfl) _) hI.noT (by decide)
  exact ⟨h1.other h2 hne, h2.set hb'⟩
def oV : Option Nat → Value
  | none => .int .i64 (-1)
  | some s => .int .i64 (s : Int)
def SuccAt (w : World) (A : Option Addr) (n : Nat) (sc : Nat → List (Option Nat)) : Prop := ∃ vs, Rw w 77 1 A n vs ∧ ∀ k, k < n → ∃ A' c, vs[k]? = some (.slice A' (sc k).length c) ∧ Rw w 3 1 A' (sc k).length ((sc k).map oV)
theorem SuccAt.nope {w w' : World} {A : Option Addr} {n : Nat} {sc : Nat → List (Option Nat)} (h : SuccAt w A n sc) (hf : Fr nope w w') : SuccAt w' A n sc := by
  obtain ⟨vs, h1, h2⟩ := h
  refine ⟨vs, h1.nope hf, fun k hk => ?_⟩
  obtain ⟨A', c, h3, h4⟩ := h2 k hk
  exact ⟨A', c, h3, h4.nope hf⟩
theorem SuccAt.at_ {w : World} {A : Option Addr} {n : Nat} {sc : Nat → List (Option Nat)} (h : SuccAt w A n sc) {k : Nat} (hk : k < n) : ∃ b off A' c, A = some ⟨b, off, none⟩ ∧ b < w.heap.size ∧ w.cell? ⟨b, off + k, none⟩ = some (.slice A' (sc k).length c) ∧ Rw w 3 1 A' (sc k).length ((sc k).map oV) := by
  obtain ⟨vs, h1, h2⟩ := h
  obtain ⟨b, off, cs, fr, e, hb, hc⟩ := h1.row (by omega)
  obtain ⟨A', c, h3, h4⟩ := h2 k hk
  exact ⟨b, off, A', c, e, lt_of_heap hb, hc k _ h3, h4⟩
theorem Rw.one {w : World} {e : TypeId} {A : Option Addr} {n : Nat} {xs : List Value} (h : Rw w e 1 A n xs) {k : Nat} {v : Value} (hv : xs[k]? = some v) : ∃ b off, A = some ⟨b, off, none⟩ ∧ b < w.heap.size ∧ w.cell? ⟨b, off + k, none⟩ = some v := by
  have hl := (List.getElem?_eq_some_iff.1 hv).1
  have := h.len
  obtain ⟨b, off, cs, fr, e, hb, hc⟩ := h.row (by omega)
  exact ⟨b, off, e, lt_of_heap hb, hc k v hv⟩
def lvO (I : Nat → TL) (b : TL) : Option Nat → TL
  | some s => mUnion b (I s)
  | none => b
theorem lvB_take {sc : List (Option Nat)} {I : Nat → TL} {k : Nat} {o : Option Nat} (h : sc[k]? = some o) : lvB (sc.take (k + 1)) I [] = lvO I (lvB (sc.take k) I []) o := by
  unfold lvB
  rw [take_snoc h, List.foldl_append]
  cases o <;> rfl
theorem range_at {α : Type} {g : Nat → α} {n k : Nat} (h : k < n) : ((List.range n).map g)[k]? = some (g k) := by simp [h]
noncomputable def lvTail (n : Nat) : Code := seqTail n (Tryz.f43.body.getD .skip)
def Closed (f : LF) (I O : Nat → TL) : Prop := ∀ k, k < f.n → f.B I k = O k ∧ f.A I k = I k
def GivesLive (w0 : World) (f : LF) (e : Ending) (w' : World) : Prop := Fr nope w0 w' ∧ ∃ bi bo I O, e = .returned (.tuple #[.slice (some ⟨bi, 0, none⟩) f.n f.n, .slice (some ⟨bo, 0, none⟩) f.n f.n]) ∧ RowT w' bi f.n I ∧ RowT w' bo f.n O ∧ SInv f I O ∧ Closed f I O
def Sb (V V' : Sets) : Prop := ∀ p j, Sub (V p j) (V' p j)
theorem Sb.refl (V : Sets) : Sb V V := fun _ _ => Sub.refl _
theorem Sb.trans {a b c : Sets} (h : Sb a b) (k : Sb b c) : Sb a c := fun p j x i hx => k p j x i (h p j x i hx)
set_option maxHeartbeats 4000000 in
theorem lv_tail (w0 w : World) (f : LF) (hf : f.Ok) (n : Nat) (hn : f.n = n) (AR AW AS : Option Addr) (cR cW cS bi bo : Nat) {u3 u4 u5 u9 u10 u11 u12 u13 u14 u15 u16 u17 u18 u19 u20 u21 u22 u23 u24 u25 u26 u27 u28 u29 u30 u31 u32 u33 u34 u35 u36 u37 u38 u39 u40 u41 u42 u43 u44 u45 u46 u47 u48 u49 u50 u51 u52 u53 u54 u55 u56 u57 u58 u59 u60 u61 u62 u63 u64 u65 u66 u67 u68 u69 u70 u71 u72 u73 u74 u75 u76 u77 u78 u79 u80 u81 u82 u83 u84 u85 u86 u87 u88 u89 u90 u91 u92 u93 u94 u95 u96 u97 u98 u99 u100 u101 u102 u103 u104 u105 u106 u107 u108 u109 u110 u111 u112 u113 : Value} (hl : n ≤ 1048576)
    (hR : TlsAt w0 AR ((List.range n).map f.R)) (hW : TlsAt w0 AW ((List.range n).map f.W)) (hS : SuccAt w0 AS n f.sc) (hsl : ∀ k, k < n → (f.sc k).length ≤ 1048576) (hne : bi ≠ bo) (hbi : w0.heap.size ≤ bi) (hbo : w0.heap.size ≤ bo) (hfr : Fr nope w0 w) (hI : RowT w bi n fun _ => []) (hO : RowT w bo n fun _ => []) :
    Code.wp Tryz.prog (lvTail 4) (bodyPost Tryz.prog Tryz.f43 (GivesLive w0 f)) ⟨#[.slice AR n cR, .slice AW n cW, .slice AS n cS, u3, u4, u5, .slice (some ⟨bi, 0, none⟩) n n, .slice (some ⟨bo, 0, none⟩) n n, .int .i64 (n : Int), u9, u10, u11, u12, u13, u14, u15, u16, u17, u18, u19, u20, u21, u22, u23, u24, u25, u26, u27, u28, u29, u30, u31, u32, u33, u34, u35, u36, u37, u38, u39, u40, u41, u42, u43, u44, u45, u46, u47, u48, u49, u50, u51, u52, u53, u54, u55, u56, u57, u58, u59, u60, u61, u62, u63, u64, u65, u66, u67, u68, u69, u70, u71, u72, u73, u74, u75, u76, u77, u78, u79, u80, u81, u82, u83, u84, u85, u86, u87, u88, u89, u90, u91, u92, u93, u94, u95, u96, u97, u98, u99, u100, u101, u102, u103, u104, u105, u106, u107, u108, u109, u110, u111, u112, u113], []⟩ w := by
  subst hn
  conv => arg 2; whnf
  go_wp2
  go_loopg [9] (1 + missing f.n f.U (setsOf (fun _ => []) (fun _ => []))) (fun m c9 wr => ∃ (ch : Bool) (I O : Nat → TL), c9 = .bool ch ∧ Hid (SInv f I O) ∧ Hid (ch = false → Closed f I O) ∧ RowT wr bi f.n I ∧ RowT wr bo f.n O ∧ Fr nope w0 wr ∧ m = if ch then 1 + missing f.n f.U (setsOf I O) else 0)
  case atStart => exact ⟨true, fun _ => [], fun _ => [], rfl, Lib.hid (SInv.start f), Lib.hid (fun h => by cases h), hI, hO, hfr, rfl⟩
  case round =>
    obtain ⟨ch, I, O, rfl, hinv, hcl, hI1, hO1, hf1, rfl⟩ := hrel
    clear hI hO hfr
    cases ch with
    | false =>
      go_wp2
      go_ret2
      exact ⟨hf1, bi, bo, I, O, rfl, hI1, hO1, hinv.out, hcl.out (by first | rfl | trivial)⟩
    | true =>
      clear hcl
      go_wp2
      go_loopg [9, 10] f.n (fun m c9 c10 wq => ∃ (j : Nat) (z : Int) (ch : Bool) (I' O' : Nat → TL), j ≤ f.n ∧ z = (j : Int) - 1 ∧ c10 = .int .i64 z ∧ c9 = .bool ch ∧ Hid (SInv f I' O') ∧ Hid (Sb (setsOf I O) (setsOf I' O')) ∧ Hid (ch = true → missing f.n f.U (setsOf I' O') < missing f.n f.U (setsOf I O)) ∧ Hid (ch = false → ∀ k, j ≤ k → k < f.n → f.B I' k = O' k ∧ f.A I' k = I' k) ∧ RowT wq bi f.n I' ∧ RowT wq bo f.n O' ∧ Fr nope w0 wq ∧ m = 0 + j)
      case atStart => exact ⟨f.n, (f.n : Int) - 1, false, I, O, Nat.le_refl _, rfl, rfl, rfl, hinv, Lib.hid (Sb.refl _), Lib.hid (fun h => by cases h), Lib.hid (fun _ k h1 h2 => by omega), hI1, hO1, hf1, by omega⟩
      case round =>
        obtain ⟨j, z, ch, I', O', hj, hz, rfl, rfl, hinv', hsb, hch, hcl, hI2, hO2, hf2, rfl⟩ := hrel
        clear hI1 hO1 hf1
        rcases j with _ | i
        · have hz0 : ¬ (0 : Int) ≤ z := by omega
          clear hz
          go_wp2
          go_roundg (if ch then 1 + missing f.n f.U (setsOf I' O') else 0)
          case measure =>
            have h1 := hch.out
            cases ch
            · simp; omega
            · have := h1 rfl; simp; omega
          case rel => exact ⟨ch, I', O', rfl, hinv', Lib.hid (fun h k hk => hcl.out h k (Nat.zero_le _) hk), hI2, hO2, hf2, rfl⟩
        · obtain rfl : z = (i : Int) := by omega
          clear hz
          have hi : i < f.n := by omega
          have hi0 : (0 : Int) ≤ (i : Int) := by omega
          obtain ⟨bs, offs, As, cs, hAS, hbs, hcS, hrow⟩ := hS.at_ hi
          subst hAS
          have hscl := hsl i hi
          have hti := hinv'.out.ti
          have hcS2 := hf2.cell hcS (fun x => x)
          replace hti := Lib.hid hti
          go_wp2
          go_loopg [11, 12] (f.sc i).length (fun m c11 c12 wp => ∃ (k : Nat) (A2 : Option Addr) (c2 : Nat) (b : TL), k ≤ (f.sc i).length ∧ Hid (b = lvB ((f.sc i).take k) I' []) ∧ Tidy b ∧ c12 = .int .i64 (k : Int) ∧ c11 = .slice A2 b.length c2 ∧ TlAt wp A2 b ∧ Fr nope wr wp ∧ m = (f.sc i).length - k)
          case atStart => exact ⟨0, none, 0, [], Nat.zero_le _, Lib.hid rfl, .nil, rfl, rfl, Rw.nil _ _ _, Fr.refl _ _, rfl⟩
          case round =>
            obtain ⟨k, A2, c2, b, hk, hb, htb, rfl, rfl, hat, hf3, rfl⟩ := hrel
            have hf23 := hf2.then hf3
            have hcS3 := hf23.cell hcS (fun x => x)
            by_cases hlt : k < (f.sc i).length
            · obtain ⟨o, ho⟩ : ∃ o, (f.sc i)[k]? = some o := ⟨_, List.getElem?_eq_getElem hlt⟩
              obtain ⟨bt, offt, hAs, hbt, hct⟩ := hrow.one (k := k) (v := oV o) (by rw [List.getElem?_map, ho]; rfl)
              subst hAs
              have hct3 := hf23.cell hct (fun x => x)
              have hT := Lib.hid (lvB_take (I := I') ho)
              have hos : ∀ s, o = some s → s < f.n := fun s e => hf.s i s hi (by rw [← e]; exact List.mem_of_getElem? ho)
              clear ho hcS2
              cases o with
              | none =>
                simp only [oV] at hct3
                go_wp2
                go_roundg ((f.sc i).length - (k + 1))
                case measure => omega
                case rel => exact ⟨k + 1, A2, c2, b, by omega, Lib.hid (hb.out.trans hT.out.symm), htb, by go_num, rfl, hat, hf3, rfl⟩
              | some s =>
                have hs := hos s rfl
                simp only [oV] at hct3
                obtain ⟨Ai, ci, hci, hai⟩ := (hI2.nope hf3).at_ hs
                have hs0 : (0 : Int) ≤ (s : Int) := by omega
                have hs1 : (s : Int) < (f.n : Int) := by omega
                have hu := fun W (hW : Fr nope wr W) => maskUnion_calls W A2 Ai c2 ci b (I' s) (hat.nope hW) (hai.nope hW) htb (hti.out s)
                replace hu := Lib.hid hu
                clear hos
                go_wp2_with fail
                refine (hu.out _ (Fr.refl _ _)).mono ?_
                rintro e w4 ⟨hf4, A4, c4, rfl, ht4⟩
                go_wp2
                go_roundg ((f.sc i).length - (k + 1))
                case measure => omega
                case rel => exact ⟨k + 1, A4, c4, mUnion b (I' s), by omega, Lib.hid (by rw [hT.out, ← hb.out]; rfl), mUnion_tidy (hti.out s) htb, by go_num, rfl, ht4, hf3.then hf4, rfl⟩
            · rw [take_all hlt] at hb
              have hB : b = f.B I' i := hb.out
              clear hb hcS2 hrow
              obtain ⟨bw, offw, Aw, cw, hAW, hbw, hcW, htW⟩ := hW.at_ (range_at (g := f.W) hi)
              obtain ⟨br, offr, Ar, cr, hAR, hbr, hcR, htR⟩ := hR.at_ (range_at (g := f.R) hi)
              subst hAW hAR
              have htb' := htb.len
              have htw := hf.w i
              have htr := hf.r i
              have hcs : ∀ W, Fr nope w0 W → W.cell? ⟨bw, offw + i, none⟩ = some (.slice Aw (f.W i).length cw) ∧ W.cell? ⟨br, offr + i, none⟩ = some (.slice Ar (f.R i).length cr) := fun W hW' => ⟨hW'.cell hcW (fun x => x), hW'.cell hcR (fun x => x)⟩
              have hd := hf23.drew
              have hdr : Fr nope wr wr.drew := (Fr.refl nope wr).drew
              have hS0 := hcs _ hd
              have hM := maskMinus_calls wr.drew A2 Aw c2 cw b (f.W i) (hat.nope hdr) (htW.nope hd) htb htw
              have hmt : Tidy (mMinus b (f.W i)) := mMinus_tidy htb
              have hU := fun W A c (hW' : Fr nope w0 W) (h : TlAt W A (mMinus b (f.W i))) => maskUnion_calls W A Ar c cr (mMinus b (f.W i)) (f.R i) h (htR.nope hW') hmt htr
              have hA : lvA b (f.W i) (f.R i) = f.A I' i := by rw [hB]; rfl
              have hat' : Tidy (lvA b (f.W i) (f.R i)) := lvA_tidy htb htr
              have hatl := hat'.len
              replace hcs := Lib.hid hcs
              replace hU := Lib.hid hU
              replace hmt := Lib.hid hmt
              replace hA := Lib.hid hA
              replace hat' := Lib.hid hat'
              replace hB := Lib.hid hB
              clear hcW hcR htW htR htw htr
              go_wp2
              go_region_held3 (fun W => W.cell? ⟨bw, offw + i, none⟩ = some (.slice Aw (f.W i).length cw) ∧ W.cell? ⟨br, offr + i, none⟩ = some (.slice Ar (f.R i).length cr)) (assumption)
                ((first
                  | (go_at_call 85; refine hM.mono ?_; rintro e w5 ⟨hf5, A5, c5, rfl, ht5⟩; have hn5 := hd.then hf5; have hS5 := hcs.out _ hn5)
                  | (go_at_call 84; refine (hU.out _ _ _ hn5 ht5).mono ?_; rintro e w6 ⟨hf6, A6, c6, rfl, ht6⟩; have hn6 := hn5.then hf6; have hS6 := hcs.out _ hn6)))
              all_goals
                have hf6' : Fr nope wr w6 := (hdr.then hf5).then hf6
                have hI6 := hI2.nope (hf3.then hf6')
                have hO6 := hO2.nope (hf3.then hf6')
                have hb6 : TlAt w6 A2 b := Rw.nope hat hf6'
                have ha6 : TlAt w6 A6 (lvA b (f.W i) (f.R i)) := ht6
                have he : mUnion (mMinus b (f.W i)) (f.R i) = lvA b (f.W i) (f.R i) := rfl
                rw [he]
                obtain ⟨a, haa⟩ : ∃ a, a = lvA b (f.W i) (f.R i) := ⟨_, rfl⟩
                rw [← haa] at ha6 hatl ⊢
                have hstep : (f.B I' i ≠ O' i ∨ f.A I' i ≠ I' i) → SInv f (updT I' i a) (updT O' i b) ∧ Sb (setsOf I O) (setsOf (updT I' i a) (updT O' i b)) ∧ missing f.n f.U (setsOf (updT I' i a) (updT O' i b)) < missing f.n f.U (setsOf I O) := fun hx => by
                  obtain ⟨s1, s2, s3⟩ := hinv'.out.step hf hi
                  rw [haa, hA.out, show b = f.B I' i from hB.out]
                  exact ⟨s1, hsb.out.trans s2, Nat.lt_of_lt_of_le (s3 hx) (missing_le hsb.out)⟩
                have hab : a = f.A I' i := by rw [haa, hA.out]
                have hbb : b = f.B I' i := hB.out
                replace hstep := Lib.hid hstep
                replace hab := Lib.hid hab
                replace hbb := Lib.hid hbb
                clear haa he hA hB ht6 hat' hmt hU hM hS0 hS5 hS6 hcs ht5
                obtain ⟨Ab, cb, hcI, htI⟩ := hI6.at_ hi
                obtain ⟨Ao, co, hcO, htO⟩ := hO6.at_ hi
                have hSL1 := SameLive_calls w6 A2 Ao c2 co b (O' i) hb6 htO htb'
                go_wp2_with fail
                refine hSL1.mono ?_
                rintro e w7 ⟨rfl, hf7⟩
                by_cases e1 : b = O' i
                · rw [decide_eq_true e1]
                  have hcI7 := hf7.cell hcI (fun x => x)
                  have hSL2 := SameLive_calls w7 A6 Ab c6 cb a (I' i) (Rw.nope ha6 hf7) (Rw.nope htI hf7) hatl
                  replace e1 := Lib.hid e1
                  go_wp2_with fail
                  refine hSL2.mono ?_
                  rintro e w8 ⟨rfl, hf8⟩
                  have hf78 := hf7.then hf8
                  by_cases e2 : a = I' i
                  · rw [decide_eq_true e2]
                    have hcl' : Hid (ch = false → ∀ k, i ≤ k → k < f.n → f.B I' k = O' k ∧ f.A I' k = I' k) := Lib.hid fun h k h1 h2 => by
                      by_cases hk : k = i
                      · subst hk; exact ⟨by rw [← hbb.out]; exact e1.out, by rw [← hab.out]; exact e2⟩
                      · exact hcl.out h k (by omega) h2
                    clear e2
                    go_wp2
                    go_roundg (0 + i)
                    case measure => omega
                    case rel => exact ⟨i, (i : Int) - 1, ch, I', O', by omega, rfl, by go_num, rfl, hinv', hsb, hch, hcl', hI6.nope hf78, hO6.nope hf78, hn6.then hf78, rfl⟩
                  · rw [decide_eq_false e2]
                    replace e2 := Lib.hid e2
                    have hIX := hI6.nope hf78
                    have hOX := hO6.nope hf78
                    have haX : TlAt w8 A6 a := Rw.nope ha6 hf78
                    have hbX : TlAt w8 A2 b := Rw.nope hb6 hf78
                    have hfX : Fr nope w0 w8 := hn6.then hf78
                    obtain ⟨_, _, hcIX, _⟩ := hIX.at_ hi
                    obtain ⟨_, _, hcOX, _⟩ := hOX.at_ hi
                    have hzI := hIX.frozen
                    have hO2X := hOX.other (k := i) (v := .slice A6 a.length c6) hIX hne.symm
                    obtain ⟨_, _, hcO2, _⟩ := hO2X.at_ hi
                    have hzO := hO2X.frozen
                    have hset := lv_set (i := i) (c1 := c6) (c2 := c2) hne hIX hOX haX hbX
                    have hst := hstep.out (.inr (by rw [← hab.out]; exact e2.out))
                    replace hset := Lib.hid hset
                    replace hst := Lib.hid hst
                    clear hO2X hbX haX
                    go_wp2
                    go_roundg (0 + i)
                    case measure => omega
                    case rel =>
                      have hg1 : Fr nope w0 (w8.setCell ⟨bi, i, none⟩ (.slice A6 a.length c6)) := hfX.then_new ((Fr.refl (fun x => x = bi) w8).setCell (.inl rfl) _) (fun x hx e => by omega)
                      exact ⟨i, (i : Int) - 1, true, _, _, by omega, rfl, by go_num, rfl, Lib.hid hst.out.1, Lib.hid hst.out.2.1, Lib.hid (fun _ => hst.out.2.2), Lib.hid (fun h => by cases h), hset.out.1, hset.out.2, hg1.then_new ((Fr.refl (fun x => x = bo) _).setCell (.inl rfl) _) (fun x hx e => by omega), rfl⟩
                · rw [decide_eq_false e1]
                  replace e1 := Lib.hid e1
                  have hIX := hI6.nope hf7
                  have hOX := hO6.nope hf7
                  have haX : TlAt w7 A6 a := Rw.nope ha6 hf7
                  have hbX : TlAt w7 A2 b := Rw.nope hb6 hf7
                  have hfX : Fr nope w0 w7 := hn6.then hf7
                  obtain ⟨_, _, hcIX, _⟩ := hIX.at_ hi
                  obtain ⟨_, _, hcOX, _⟩ := hOX.at_ hi
                  have hzI := hIX.frozen
                  have hO2X := hOX.other (k := i) (v := .slice A6 a.length c6) hIX hne.symm
                  obtain ⟨_, _, hcO2, _⟩ := hO2X.at_ hi
                  have hzO := hO2X.frozen
                  have hset := lv_set (i := i) (c1 := c6) (c2 := c2) hne hIX hOX haX hbX
                  have hst := hstep.out (.inl (by rw [← hbb.out]; exact e1.out))
                  replace hset := Lib.hid hset
                  replace hst := Lib.hid hst
                  clear hO2X hbX haX
                  go_wp2
                  go_roundg (0 + i)
                  case measure => omega
                  case rel =>
                    have hg1 : Fr nope w0 (w7.setCell ⟨bi, i, none⟩ (.slice A6 a.length c6)) := hfX.then_new ((Fr.refl (fun x => x = bi) w7).setCell (.inl rfl) _) (fun x hx e => by omega)
                    exact ⟨i, (i : Int) - 1, true, _, _, by omega, rfl, by go_num, rfl, Lib.hid hst.out.1, Lib.hid hst.out.2.1, Lib.hid (fun _ => hst.out.2.2), Lib.hid (fun h => by cases h), hset.out.1, hset.out.2, hg1.then_new ((Fr.refl (fun x => x = bo) _).setCell (.inl rfl) _) (fun x hx e => by omega), rfl⟩
end
section
open Go Go.RowKit Bth
set_option maxRecDepth 100000
theorem lp_facts : ∀ (m : Nat) (ns : List PN), ns.length = m → ∀ {s : LP}, lpRun ns = some s → s.n = (insP ns).length ∧ ∀ x i, s.t x = some i → i < s.n := by
  intro m
  induction m with
  | zero =>
    intro ns hl s h
    rw [List.eq_nil_of_length_eq_zero hl] at h ⊢
    injection h with h
    subst h
    exact ⟨rfl, fun x i h => by cases h⟩
  | succ m ih =>
    intro ns hl s h
    obtain ⟨l, p, rfl⟩ : ∃ l p, ns = l ++ [p] := (List.eq_nil_or_concat ns).elim (fun h => by rw [h] at hl; simp at hl) (fun ⟨l, nd, h⟩ => ⟨l, nd, by simpa using h⟩)
    rw [lpRun_snoc] at h
    obtain ⟨s0, h1, h2⟩ := Option.bind_eq_some_iff.1 h
    obtain ⟨k1, k2⟩ := ih l (by simpa using hl) h1
    have e : insP (l ++ [p]) = insP l ++ (if p.kind = 1 then [p.ins] else []) := by
      unfold insP
      rw [List.filter_append, List.map_append]
      by_cases e : p.kind = 1 <;> simp [e]
    rw [e]
    unfold lpStep at h2
    split at h2
    · rename_i h3
      injection h2 with h2
      subst h2
      refine ⟨by simp [h3, k1], fun x i hx => ?_⟩
      simp only at hx ⊢
      split at hx
      · injection hx with hx; omega
      · have := k2 x i hx; omega
    · rename_i h3
      rw [if_neg h3, List.append_nil]
      split at h2
      · split at h2
        · cases h2
        · injection h2 with h2; subst h2; exact ⟨k1, k2⟩
      · injection h2 with h2; subst h2; exact ⟨k1, k2⟩
theorem lpRun_facts {ns : List PN} {s : LP} (h : lpRun ns = some s) : s.n = (insP ns).length ∧ ∀ x i, s.t x = some i → i < s.n := lp_facts _ ns rfl h
theorem succP_lt {t : ByteArray → Option Nat} {n k : Nat} {p : PI} {l : List (Option Nat)} (h : succP t n k p = some l) (ht : ∀ x i, t x = some i → i < n) : ∀ s, some s ∈ l → s < n := by
  intro s hs
  unfold succP at h
  obtain ⟨l1, h1, rfl⟩ := Option.map_eq_some_iff.1 h
  rcases List.mem_append.1 hs with hs | hs
  · split at h1
    · obtain ⟨x, _, h3⟩ := Option.bind_eq_some_iff.1 h1
      obtain ⟨b, h4, rfl⟩ := Option.map_eq_some_iff.1 h3
      have e : s = b := by simpa using hs
      rw [e]; exact ht x b h4
    · injection h1 with h1; subst h1; cases hs
  · split at hs
    · cases hs
    · split at hs
      · have e : s = k + 1 := by simpa using hs
        omega
      · simp at hs
theorem succP_len {t : ByteArray → Option Nat} {n k : Nat} {p : PI} {l : List (Option Nat)} (h : succP t n k p = some l) : l.length ≤ 2 := by
  unfold succP at h
  obtain ⟨l1, h1, rfl⟩ := Option.map_eq_some_iff.1 h
  have h2 : l1.length ≤ 1 := by
    split at h1
    · obtain ⟨x, _, h3⟩ := Option.bind_eq_some_iff.1 h1
      obtain ⟨b, h4, rfl⟩ := Option.map_eq_some_iff.1 h3
      simp
    · injection h1 with h1; subst h1; simp
  rw [List.length_append]
  split
  · simp; omega
  · simp; omega
theorem GraphP.uniq {ns : List PN} {sc sc' : Nat → List (Option Nat)} (h : GraphP ns sc) (h' : GraphP ns sc') : ∀ k, k < (insP ns).length → sc k = sc' k := by
  intro k hk
  obtain ⟨s, h1, _, h3⟩ := h
  obtain ⟨s', h1', _, h3'⟩ := h'
  rw [h1] at h1'
  injection h1' with e
  subst e
  have a := h3 k _ (List.getElem?_eq_getElem hk)
  have b := h3' k _ (List.getElem?_eq_getElem hk)
  rw [a] at b
  injection b
def SccV (w : World) (vs : List Value) (ls : List (List (Option Nat))) : Prop := vs.length = ls.length ∧ ∀ (k : Nat) (v : Value) (l : List (Option Nat)), vs[k]? = some v → ls[k]? = some l → ∃ A c, v = .slice A l.length c ∧ Rw w 3 1 A l.length (l.map oV)
theorem SccV.frT {S : Nat → Prop} {w w' : World} {vs : List Value} {ls : List (List (Option Nat))} (h : SccV w vs ls) (hf : Fr S w w') (hs : NoT [3] w S) : SccV w' vs ls := ⟨h.1, fun k v s h1 h2 => by
  obtain ⟨A, c, e, hT⟩ := h.2 k v s h1 h2
  exact ⟨A, c, e, hT.frT hf hs (by decide)⟩⟩
theorem SccV.snoc {w : World} {vs : List Value} {ls : List (List (Option Nat))} {A : Option Addr} {c : Nat} {s : List (Option Nat)} (h : SccV w vs ls) (hs : Rw w 3 1 A s.length (s.map oV)) : SccV w (vs ++ [.slice A s.length c]) (ls ++ [s]) := by
  refine ⟨by simp [h.1], fun k v t h1 h2 => ?_⟩
  by_cases hlt : k < vs.length
  · rw [List.getElem?_append_left hlt] at h1
    rw [List.getElem?_append_left (by rw [← h.1]; exact hlt)] at h2
    exact h.2 k v t h1 h2
  · rw [List.getElem?_append_right (by omega)] at h1
    rw [List.getElem?_append_right (by rw [← h.1]; omega), ← h.1] at h2
    have hk : k - vs.length = 0 := by
      have := (List.getElem?_eq_some_iff.1 h1).1
      simp at this; omega
    rw [hk] at h1 h2
    simp only [List.getElem?_cons_zero, Option.some.injEq] at h1 h2
    subst h1 h2
    exact ⟨A, c, rfl, hs⟩
theorem infoInt : (Tryz.prog.info? 3).map (fun i => (i.zero, i.size, i.bytes)) = some (some (.int .i64 0), 1, 8) := by kernel_rfl
theorem infoInts : (Tryz.prog.info? 77).map (fun i => (i.zero, i.size, i.bytes)) = some (some (.slice none 0 0), 1, 24) := by kernel_rfl
def Prd (w : World) (base bp n m : Nat) : Prop := ∃ (cs : Array Value), w.heap[bp]? = some (.cells cs 77 (0, 0)) ∧ cs.size = n ∧ (∀ j, j < n → ∃ v l xs, cs[j]? = some v ∧ l ≤ m ∧ w.ownsRow base 3 1 v l xs) ∧
  ∀ (j j' : Nat) (v v' : Value) (b : Nat), j ≠ j' → cs[j]? = some v → cs[j']? = some v' → v.ownBlock = some b → v'.ownBlock ≠ some b
theorem Prd.nope {w w' : World} {base bp n m : Nat} (h : Prd w base bp n m) (hf : Fr nope w w') : Prd w' base bp n m := by
  obtain ⟨cs, h1, h2, h3, h4⟩ := h
  refine ⟨cs, hf.heap h1 (fun x => x), h2, fun j hj => ?_, h4⟩
  obtain ⟨v, l, xs, a, b, c⟩ := h3 j hj
  exact ⟨v, l, xs, a, b, own_fr c hf (fun _ _ x => x)⟩
theorem Prd.mono {w : World} {base bp n m m' : Nat} (h : Prd w base bp n m) (hm : m ≤ m') : Prd w base bp n m' := by
  obtain ⟨cs, h1, h2, h3, h4⟩ := h
  refine ⟨cs, h1, h2, fun j hj => ?_, h4⟩
  obtain ⟨v, l, xs, a, b, c⟩ := h3 j hj
  exact ⟨v, l, xs, a, by omega, c⟩
theorem Prd.at_ {w : World} {base bp n m j : Nat} (h : Prd w base bp n m) (hj : j < n) : ∃ A l c xs, w.cell? ⟨bp, j, none⟩ = some (.slice A l c) ∧ l ≤ m ∧ w.ownsRow base 3 1 (.slice A l c) l xs := by
  obtain ⟨cs, h1, h2, h3, _⟩ := h
  obtain ⟨v, l, xs, a, b, c⟩ := h3 j hj
  obtain ⟨A, d, rfl, _, _⟩ := own_slice c
  exact ⟨A, l, d, xs, by rw [cell_of_row w bp j _ _ (0, 0) h1]; exact a, b, c⟩
theorem Prd.noT {w : World} {base bp n m : Nat} (h : Prd w base bp n m) : NoT [3] w (fun x => x = bp) := by
  obtain ⟨cs, h1, _⟩ := h
  exact NoT.one h1 (by decide)
theorem Prd.step {w w1 : World} {base bp n m k l : Nat} {v v' : Value} {xs : List Value} (h : Prd w base bp n m) (hk : k < n) (hv : w.cell? ⟨bp, k, none⟩ = some v) (hown : w1.ownsRow base 3 1 v' l xs) (hl : l ≤ m + 1) (hf : Fr (fun b => v.ownBlock = some b) w w1) (hb : v'.ownBlock = v.ownBlock ∨ ∃ b, v'.ownBlock = some b ∧ w.heap.size ≤ b) (hT : NoT [77] w (fun b => v.ownBlock = some b)) :
    Prd (w1.setCell ⟨bp, k, none⟩ v') base bp n (m + 1) := by
  obtain ⟨cs, h1, h2, h3, h4⟩ := h
  have hvc : cs[k]? = some v := by rw [cell_of_row w bp k _ _ (0, 0) h1] at hv; exact hv
  have hbp : ¬ v.ownBlock = some bp := fun e => hT bp cs _ _ e h1 (by decide)
  have h1w := hf.heap h1 hbp
  have hno : NoT [3] w1 (fun x => x = bp) := NoT.one h1w (by decide)
  have hset : Fr (fun x => x = bp) w1 (w1.setCell ⟨bp, k, none⟩ v') := (Fr.refl (fun x => x = bp) w1).setCell (.inl rfl) _
  have hlow : ∀ j, j < n → ∀ u b, cs[j]? = some u → u.ownBlock = some b → b < w.heap.size := fun j hj u b hu hb => by
    obtain ⟨v2, l2, xs2, a, _, c⟩ := h3 j hj
    rw [a] at hu; injection hu with hu; subst hu
    exact own_lt c b hb
  refine ⟨cs.setIfInBounds k v', setCell_heap h1w _, by simp [h2], fun j hj => ?_, fun j j' u u' b hne hu hu' hub => ?_⟩
  · by_cases e : j = k
    · subst e
      exact ⟨v', l, xs, by rw [Array.getElem?_setIfInBounds]; simp [h2, hj], hl, own_frT hown hset hno (by decide)⟩
    · obtain ⟨v2, l2, xs2, a, b, c⟩ := h3 j hj
      refine ⟨v2, l2, xs2, by rw [Array.getElem?_setIfInBounds, if_neg (fun h => e h.symm)]; exact a, by omega, own_frT (own_fr c hf (fun b hb e2 => ?_)) hset hno (by decide)⟩
      exact h4 j k v2 v b e a hvc hb e2
  · have hget : ∀ i, (cs.setIfInBounds k v')[i]? = if i = k then (if i < n then some v' else none) else cs[i]? := fun i => by
      rw [Array.getElem?_setIfInBounds]
      by_cases e : i = k
      · subst e; simp [h2]
      · rw [if_neg (fun h => e h.symm), if_neg e]
    have hjlt : ∀ i x, cs[i]? = some x → i < n := fun i x hx => by rw [← h2]; exact (Array.getElem?_eq_some_iff.1 hx).1
    rw [hget] at hu hu'
    by_cases e : j = k
    · have e' : j' ≠ k := fun e' => hne (by rw [e, e'])
      rw [if_pos e, if_pos (by omega)] at hu
      rw [if_neg e'] at hu'
      injection hu with hu
      subst hu
      intro hc
      rcases hb with hb | ⟨b0, hb, hge⟩
      · rw [hb] at hub
        exact h4 k j' v u' b (fun x => e' x.symm) hvc hu' hub hc
      · rw [hub] at hb
        injection hb with hb
        have := hlow j' (hjlt j' u' hu') u' b hu' hc
        omega
    · rw [if_neg e] at hu
      by_cases e' : j' = k
      · rw [if_pos e', if_pos (by omega)] at hu'
        injection hu' with hu'
        subst hu'
        intro hc
        rcases hb with hb | ⟨b0, hb, hge⟩
        · rw [hb] at hc
          exact h4 j k u v b e hu hvc hub hc
        · rw [hc] at hb
          injection hb with hb
          have := hlow j (hjlt j u hu) u b hu hub
          omega
      · rw [if_neg e'] at hu'
        exact h4 j j' u u' b hne hu hu' hub
theorem Prd.frozen {w : World} {base bp n m : Nat} (h : Prd w base bp n m) : ∀ j, w.frozen? ⟨bp, j, none⟩ = false := by
  obtain ⟨cs, h1, _⟩ := h
  exact frozen_row h1
theorem Prd.notIn {w : World} {base bp n m : Nat} {v : Value} (h : Prd w base bp n m) (hT : NoT [77] w (fun b => v.ownBlock = some b)) : ¬ v.ownBlock = some bp := by
  obtain ⟨cs, h1, _⟩ := h
  exact fun e => hT bp cs _ _ e h1 (by decide)
theorem Prd.frozen7 {S : Nat → Prop} {w w' : World} {base bp n m : Nat} (h : Prd w base bp n m) (hf : Fr S w w') (hn : ¬ S bp) : ∀ j, w'.frozen? ⟨bp, j, none⟩ = false := by
  obtain ⟨cs, h1, _⟩ := h
  exact frozen_row (hf.heap h1 hn)
theorem prd_new {w : World} {b0 base bp n : Nat} (h : w.ownsRow b0 77 1 (.slice (some ⟨bp, 0, none⟩) n n) n (madeCells (Value.slice none 0 0).cells (n * 1)).toList) : Prd w base bp n 0 := by
  rcases h.2 with ⟨h1, _⟩ | ⟨g, cap, cur, h1, _, hh, _, _, h5, h6⟩
  · cases h1
  · injection h1 with hA _ hc
    injection hA with hA
    injection hA with hg _ _
    subst hg hc
    have hget : ∀ j, j < n → cur[j]? = some (.slice none 0 0) := fun j hj => by
      have e := congrArg (fun l => l[j]?) h6
      rw [List.getElem?_take_of_lt (by omega)] at e
      rw [Array.getElem?_toList] at e
      rw [e]
      unfold madeCells
      simp [hj, Value.cells, Nat.mod_one]
    refine ⟨cur, hh, by omega, fun j hj => ⟨_, 0, [], hget j hj, Nat.le_refl _, own_nil _ _ _ _⟩, fun j j' v v' b _ hv _ hb => ?_⟩
    have hj : j < n := by have := (Array.getElem?_eq_some_iff.1 hv).1; omega
    rw [hget j hj] at hv
    injection hv with hv
    subst hv
    simp [Value.ownBlock] at hb
end
end Go.Proofs.YtbaihlfnbdifgaaGreat
