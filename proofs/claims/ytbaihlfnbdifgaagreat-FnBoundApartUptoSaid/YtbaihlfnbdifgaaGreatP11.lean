/- Part of the proof of boundApart_upto. -/
import Derived.BigQuiet
import Derived.Test.YtbaihlfnbdifgaaGreatProg
import Derived.Shelf.GgSortFunc.Lays
import Derived.Shelf.GgSortFunc.Tiny
import Derived.Shelf.GgSortFunc.Whole
import Derived.Shelf.SlSortFuncK.WholeK
import Derived.Shelf.Abstract
import Derived.Test.YtbaihlfnbdifgaaGreatP01
import Derived.Test.YtbaihlfnbdifgaaGreatP02
import Derived.Test.YtbaihlfnbdifgaaGreatP06
import Derived.Test.YtbaihlfnbdifgaaGreatP07
import Derived.Test.YtbaihlfnbdifgaaGreatP10
namespace Go.Proofs.YtbaihlfnbdifgaaGreat
section
open Go Go.RowKit Bth
set_option maxRecDepth 100000
set_option maxHeartbeats 1000000 in
theorem LabelsKnown_calls (w : World) (B : Nat) (s : SV) (ns : List PN) (hN : NodesAt w B s ns) : Calls Tryz.prog 23 #[s.val] w fun e w' => ∃ b, e = .returned (.bool b) ∧ Fr nope w w' := by
  obtain ⟨A, n, c⟩ := s
  obtain rfl : n = ns.length := hN.len
  have hfew := hN.few
  simp only [SV.val]
  go_enter Tryz.func23, Tryz.ntmps23
  go_wp2
  go_loopg [3, 8] ns.length (fun n c3 c8 wr => ∃ (k : Nat) (A2 : Option Addr) (c2 : Nat) (l : List ByteArray), k ≤ ns.length ∧ l.length ≤ k ∧ c8 = .int .i64 (k : Int) ∧ c3 = .slice A2 l.length c2 ∧ wr.ownsRow w.heap.size 9 1 (.slice A2 l.length c2) l.length (l.map Value.string) ∧ Fr nope w wr ∧ n = ns.length - k)
  case atStart => exact ⟨0, none, 0, [], Nat.zero_le _, Nat.le_refl _, rfl, rfl, own_nil _ _ _ _, Fr.refl _ _, rfl⟩
  case round =>
    obtain ⟨k, A2, c2, l, hk, hlk, rfl, rfl, hown, hf, rfl⟩ := hrel
    have hsz := hf.size
    by_cases hlt : k < ns.length
    · obtain ⟨b, off, hAe, hbB, hbl, hc⟩ := (hN.fr hf (fun _ _ x => x)).row (by omega)
      simp only at hAe
      subst hAe
      obtain ⟨p, hpk⟩ : ∃ p, ns[k]? = some p := ⟨_, List.getElem?_eq_getElem hlt⟩
      have hc := hc k p hpk
      clear hpk hN
      have hbo := own_base hown
      obtain ⟨kind, label, ⟨lA, ln, lc⟩, lines, ins⟩ := p
      by_cases k1 : kind = 1
      · subst k1
        go_wp2_with (first
          | (refine wpList_load_mid rfl _ _ rfl b (off + k * 13) rfl (PN.cells ⟨1, label, ⟨lA, ln, lc⟩, lines, ins⟩).toList _ hc Tryz.underlying50 rfl (by kernel_rfl) ?_)
          | (refine wpList_storeRow (b := wr.heap.size) (cells := PN.cells ⟨1, label, ⟨lA, ln, lc⟩, lines, ins⟩) rfl rfl rfl rfl (heap_alloc_new _ _) rfl (by kernel_rfl) (by kernel_rfl) ?_; intro w2 hb2 hf2; have hcb := cell_of_row _ _ 0 _ _ (0, 0) hb2; simp only [PN.cells, List.getElem?_toArray, List.getElem?_cons_zero] at hcb))
        have hn2 : Fr nope wr w2 := ((Fr.refl nope wr).alloc _).then_new hf2 (fun x hx e => by omega)
        go_roundg (ns.length - (k + 1))
        case measure => omega
        case rel => exact ⟨k + 1, none, 0, [], by omega, Nat.zero_le _, by go_num, rfl, own_nil _ _ _ _, hf.then hn2, rfl⟩
      by_cases k2 : kind = 2
      · subst k2
        go_wp2_with (first
          | (refine wpList_load_mid rfl _ _ rfl b (off + k * 13) rfl (PN.cells ⟨2, label, ⟨lA, ln, lc⟩, lines, ins⟩).toList _ hc Tryz.underlying50 rfl (by kernel_rfl) ?_)
          | (refine wpList_storeRow (b := wr.heap.size) (cells := PN.cells ⟨2, label, ⟨lA, ln, lc⟩, lines, ins⟩) rfl rfl rfl rfl (heap_alloc_new _ _) rfl (by kernel_rfl) (by kernel_rfl) ?_; intro w2 hb2 hf2; have hcb := cell_of_row _ _ 0 _ _ (0, 0) hb2; have hcb1 := cell_of_row _ _ 1 _ _ (0, 0) hb2; simp only [PN.cells, List.getElem?_toArray, List.getElem?_cons_zero, List.getElem?_cons_succ] at hcb hcb1)
          | fail)
        have hn2 : Fr nope wr w2 := ((Fr.refl nope wr).alloc _).then_new hf2 (fun x hx e => by omega)
        have hown2 := own_fr hown hn2 (fun _ _ x => x)
        have hsz2 := hn2.size
        refine (tagsListed_calls w2 A2 l c2 label (own_Sl hown2) (by omega)).mono ?_
        rintro e w3 ⟨bb, rfl, rfl⟩
        cases bb with
        | true =>
          go_wp2
          go_ret
          exact ⟨false, rfl, hf.then hn2⟩
        | false =>
          go_wp2_with (refine wpList_app (v := .slice A2 l.length c2) rfl rfl Tryz.underlying35 infoStr rfl (by omega) rfl (own_fr hown2 ((Fr.refl nope _).alloc _) (fun _ _ x => x)) rfl (news := [.string label]) rfl (one_new _ _ _ _ rfl) (by simp [Value.oneCell']) (by simp only [maxLen]; omega) (by omega) (by simp; omega) ?hk)
          case hk =>
            intro v4 w4 hown4 hf4 hb4
            obtain ⟨A4, c4, rfl, _, _⟩ := own_slice hown4
            clear hb4
            go_wp2
            go_roundg (ns.length - (k + 1))
            case measure => omega
            case rel => exact ⟨k + 1, A4, c4, l ++ [label], by omega, by simp; omega, by go_num, by simp, by simpa using hown4, ((hf.then hn2).alloc _).then_new hf4 (fun x hx e => by have := hbo x e; omega), rfl⟩
      · go_wp2_with (first
          | (refine wpList_load_mid rfl _ _ rfl b (off + k * 13) rfl (PN.cells ⟨kind, label, ⟨lA, ln, lc⟩, lines, ins⟩).toList _ hc Tryz.underlying50 rfl (by kernel_rfl) ?_)
          | (refine wpList_storeRow (b := wr.heap.size) (cells := PN.cells ⟨kind, label, ⟨lA, ln, lc⟩, lines, ins⟩) rfl rfl rfl rfl (heap_alloc_new _ _) rfl (by kernel_rfl) (by kernel_rfl) ?_; intro w2 hb2 hf2; have hcb := cell_of_row _ _ 0 _ _ (0, 0) hb2; simp only [PN.cells, List.getElem?_toArray, List.getElem?_cons_zero] at hcb))
        have hn2 : Fr nope wr w2 := ((Fr.refl nope wr).alloc _).then_new hf2 (fun x hx e => by omega)
        go_roundg (ns.length - (k + 1))
        case measure => omega
        case rel => exact ⟨k + 1, A2, c2, l, by omega, by omega, by go_num, rfl, own_fr hown hn2 (fun _ _ x => x), hf.then hn2, rfl⟩
    · go_wp2
      go_ret
      exact ⟨true, rfl, hf⟩
def PI.list (p : PI) : List Value := p.cells.toList
theorem PI.list_len (p : PI) : p.list.length = 10 := rfl
def InstrsAt (w : World) (A : Option Addr) (is : List PI) : Prop := Rw w 38 10 A is.length (is.flatMap PI.list)
theorem infoPI : (Tryz.prog.info? 38).map (fun i => (i.zero, i.size, i.bytes)) = some (some (.agg #[.string ⟨#[]⟩, .slice none 0 0, .slice none 0 0, .slice none 0 0, .slice none 0 0, .bool false, .bool false, .bool false, .bool false, .slice none 0 0]), 10, 144) := by kernel_rfl
theorem insP_take {ns : List PN} {k : Nat} {p : PN} (h : ns[k]? = some p) : insP (ns.take (k + 1)) = insP (ns.take k) ++ (if p.kind = 1 then [p.ins] else []) := by
  unfold insP
  rw [take_snoc h, List.filter_append, List.map_append]
  by_cases e : p.kind = 1 <;> simp [e]
def GivesInstrs (w : World) (ns : List PN) (e : Ending) (w' : World) : Prop := Fr nope w w' ∧ ∃ A c, e = .returned (.slice A (insP ns).length c) ∧ InstrsAt w' A (insP ns)
set_option maxHeartbeats 1000000 in
theorem Instrs_calls (w : World) (B : Nat) (s : SV) (ns : List PN) (hN : NodesAt w B s ns) : Calls Tryz.prog 7 #[s.val] w (GivesInstrs w ns) := by
  obtain ⟨A, n, c⟩ := s
  obtain rfl : n = ns.length := hN.len
  have hfew := hN.few
  simp only [SV.val]
  go_enter Tryz.func7, Tryz.ntmps7
  go_wp2
  go_loopg [3, 8] ns.length (fun n c3 c8 wr => ∃ (k : Nat) (A2 : Option Addr) (c2 : Nat) (is : List PI), k ≤ ns.length ∧ Hid (is = insP (ns.take k)) ∧ is.length ≤ k ∧ c8 = .int .i64 (k : Int) ∧ c3 = .slice A2 is.length c2 ∧ wr.ownsRow w.heap.size 38 10 (.slice A2 is.length c2) is.length (is.flatMap PI.list) ∧ Fr nope w wr ∧ n = ns.length - k)
  case atStart => exact ⟨0, none, 0, [], Nat.zero_le _, Lib.hid rfl, Nat.le_refl _, rfl, rfl, own_nil _ _ _ _, Fr.refl _ _, rfl⟩
  case round =>
    obtain ⟨k, A2, c2, is, hk, his, hlk, rfl, rfl, hown, hf, rfl⟩ := hrel
    have hsz := hf.size
    by_cases hlt : k < ns.length
    · obtain ⟨b, off, hAe, hbB, hbl, hc⟩ := (hN.fr hf (fun _ _ x => x)).row (by omega)
      simp only at hAe
      subst hAe
      obtain ⟨p, hpk⟩ : ∃ p, ns[k]? = some p := ⟨_, List.getElem?_eq_getElem hlt⟩
      have hc := hc k p hpk
      have hT := Lib.hid (insP_take hpk)
      clear hpk hN
      have hbo := own_base hown
      obtain ⟨kind, label, ⟨lA, ln, lc⟩, lines, ins⟩ := p
      by_cases k1 : kind = 1
      · subst k1
        go_wp2_with (first
          | (refine wpList_load_mid rfl _ _ rfl b (off + k * 13) rfl (PN.cells ⟨1, label, ⟨lA, ln, lc⟩, lines, ins⟩).toList _ hc Tryz.underlying50 rfl (by kernel_rfl) ?_)
          | (refine wpList_storeRow (b := wr.heap.size) (cells := PN.cells ⟨1, label, ⟨lA, ln, lc⟩, lines, ins⟩) rfl rfl rfl rfl (heap_alloc_new _ _) rfl (by kernel_rfl) (by kernel_rfl) ?_; intro w2 hb2 hf2; have hcb := cell_of_row _ _ 0 _ _ (0, 0) hb2; have hr2 := PN.range hb2; have hn2 : Fr nope wr w2 := ((Fr.refl nope wr).alloc _).then_new hf2 (fun x hx e => by omega); simp only [PN.cells, List.getElem?_toArray, List.getElem?_cons_zero] at hcb)
          | (refine wpList_load_mid rfl _ _ rfl wr.heap.size 3 rfl ins.cells.toList _ hr2 Tryz.underlying38 rfl (by kernel_rfl) ?_)
          | (refine wpList_build1 (l := ins.list) rfl rfl rfl Tryz.underlying30 infoPI rfl (by omega) (by decide) ?_)
          | refine wpList_app (v := .slice A2 is.length c2) rfl rfl Tryz.underlying30 infoPI rfl (by omega) rfl (own_fr (own_fr hown hn2 (fun _ _ x => x)) ((Fr.refl nope _).alloc _) (fun _ _ x => x)) rfl (news := ins.list) ?ha ?hb ?hc ?hd ?he ?hf ?hk)
        case ha => rfl
        case hc => simp [PI.list, PI.cells, Value.oneCell', SV.val]
        case hd => simp only [maxLen]; omega
        case he => omega
        case hf => have := hn2.size; simp; omega
        case hk =>
          intro v4 w4 hown4 hf4 hb4
          obtain ⟨A4, c4, rfl, _, _⟩ := own_slice hown4
          clear hb4
          have hsz2 := hn2.size
          go_wp2
          go_roundg (ns.length - (k + 1))
          case measure => omega
          case rel => exact ⟨k + 1, A4, c4, is ++ [ins], by omega, Lib.hid (by rw [hT.out, ← his.out]; rfl), by simp; omega, by go_num, by simp, by rw [List.flatMap_append, List.length_append]; simpa [List.flatMap_cons] using hown4, ((hf.then hn2).alloc _).then_new hf4 (fun x hx e => by have := hbo x e; omega), rfl⟩
      · go_wp2_with (first
          | (refine wpList_load_mid rfl _ _ rfl b (off + k * 13) rfl (PN.cells ⟨kind, label, ⟨lA, ln, lc⟩, lines, ins⟩).toList _ hc Tryz.underlying50 rfl (by kernel_rfl) ?_)
          | (refine wpList_storeRow (b := wr.heap.size) (cells := PN.cells ⟨kind, label, ⟨lA, ln, lc⟩, lines, ins⟩) rfl rfl rfl rfl (heap_alloc_new _ _) rfl (by kernel_rfl) (by kernel_rfl) ?_; intro w2 hb2 hf2; have hcb := cell_of_row _ _ 0 _ _ (0, 0) hb2; simp only [PN.cells, List.getElem?_toArray, List.getElem?_cons_zero] at hcb))
        have hn2 : Fr nope wr w2 := ((Fr.refl nope wr).alloc _).then_new hf2 (fun x hx e => by omega)
        go_roundg (ns.length - (k + 1))
        case measure => omega
        case rel => exact ⟨k + 1, A2, c2, is, by omega, Lib.hid (by rw [hT.out, ← his.out]; simp [k1]), by omega, by go_num, rfl, own_fr hown hn2 (fun _ _ x => x), hf.then hn2, rfl⟩
    · rw [take_all hlt] at his
      obtain rfl := his.out
      go_wp2
      go_ret
      exact ⟨hf, A2, c2, rfl, Rw.of_own hown⟩
end
section
open Go Go.RowKit Bth
set_option maxRecDepth 100000
theorem RegID_calls (w : World) (g : G) (ok : g.Ok) : Calls Tryz.prog 10 #[g.agg] w fun e w' => e = .returned (.int .u32 (g.id : Int)) ∧ Fr nope w w' := by
  have hk := ok.kind
  have hi := ok.idx
  unfold G.id
  obtain ⟨virt, kind, idx, spec⟩ := g
  simp only [G.agg] at hk hi ⊢
  obtain ⟨n, hn⟩ : ∃ n, n = (if virt then 1 else 0) + kind * 256 + idx * 65536 := ⟨_, rfl⟩
  rw [← hn]
  have e1 := u32_or (kind * 256) (idx * 65536) (by omega) (by omega)
  have h1 : kind * 256 ||| idx * 65536 < 2 ^ 32 := Nat.or_lt_two_pow (by omega) (by omega)
  have e2 := u32_or (kind * 256 ||| idx * 65536) 1 (by omega) (by omega)
  have e0 := or_parts 0 kind idx (by omega) hk
  have e3 := or_parts 1 kind idx (by omega) hk
  rw [Nat.zero_or, Nat.zero_add] at e0
  have e4 : kind * 256 ||| idx * 65536 ||| 1 = 1 + kind * 256 + idx * 65536 := by rw [← e3, Nat.or_assoc 1, Nat.or_comm]
  have E0 : bits .or .u32 ((kind : Int) * 256) ((idx : Int) * 65536) = ((0 + kind * 256 + idx * 65536 : Nat) : Int) := by
    rw [Nat.zero_add, ← e0, ← e1]; simp
  have E1 : bits .or .u32 (bits .or .u32 ((kind : Int) * 256) ((idx : Int) * 65536)) 1 = ((1 + kind * 256 + idx * 65536 : Nat) : Int) := by
    rw [← e4, ← e2, ← e1]; simp
  replace E0 := Lib.hid E0
  replace E1 := Lib.hid E1
  clear e1 e2 e0 e3 e4 h1
  cases virt with
  | false =>
    have E0 := Lib.hid (E0.out.trans (congrArg Nat.cast hn.symm))
    clear hn
    go_enter Tryz.func10, Tryz.ntmps10
    go_wp2
    go_ret
    exact ⟨congrArg (fun x => Ending.returned (.int .u32 x)) E0.out, (Fr.refl _ _).alloc _⟩
  | true =>
    have E1 := Lib.hid (E1.out.trans (congrArg Nat.cast hn.symm))
    clear hn
    go_enter Tryz.func10, Tryz.ntmps10
    go_wp2
    go_ret
    exact ⟨congrArg (fun x => Ending.returned (.int .u32 x)) E1.out, (Fr.refl _ _).alloc _⟩
theorem whole_calls (w : World) (g : G) : Calls Tryz.prog 26 #[g.agg] w (GivesB w (wholeG g)) := by
  have eB : ∀ a b : Nat, ((a : Int) == (b : Int)) = decide (a = b) := fun a b => by
    by_cases h : a = b
    · subst h; simp
    · have : (a : Int) ≠ (b : Int) := by omega
      simp [h, this]
  obtain ⟨virt, kind, idx, spec⟩ := g
  simp only [G.agg]
  by_cases k1 : kind = 1
  · subst k1
    by_cases q1 : spec = 1
    · subst q1
      go_enter Tryz.func26, Tryz.ntmps26
      go_wp2
      go_ret
      show Ending.returned (Value.bool _) = _ ∧ _
      refine ⟨congrArg (fun b => Ending.returned (Value.bool b)) ?_, (Fr.refl _ _).alloc _⟩
      first | rfl | simp [wholeG]
    have q1' : (spec : Int) ≠ 1 := by omega
    by_cases q3 : spec = 3
    · subst q3
      go_enter Tryz.func26, Tryz.ntmps26
      go_wp2
      go_ret
      show Ending.returned (Value.bool _) = _ ∧ _
      refine ⟨congrArg (fun b => Ending.returned (Value.bool b)) ?_, (Fr.refl _ _).alloc _⟩
      first | rfl | simp [wholeG]
    have q3' : (spec : Int) ≠ 3 := by omega
    by_cases q7 : spec = 7
    · subst q7
      go_enter Tryz.func26, Tryz.ntmps26
      go_wp2
      go_ret
      show Ending.returned (Value.bool _) = _ ∧ _
      refine ⟨congrArg (fun b => Ending.returned (Value.bool b)) ?_, (Fr.refl _ _).alloc _⟩
      first | rfl | simp [wholeG]
    have q7' : (spec : Int) ≠ 7 := by omega
    have e1 : ((spec : Int) == 1) = decide (spec = 1) := eB spec 1
    have e3 : ((spec : Int) == 3) = decide (spec = 3) := eB spec 3
    have e7 : ((spec : Int) == 7) = decide (spec = 7) := eB spec 7
    have e15 : ((spec : Int) == 15) = decide (spec = 15) := eB spec 15
    go_enter Tryz.func26, Tryz.ntmps26
    go_wp2
    go_ret
    show Ending.returned (Value.bool _) = _ ∧ _
    refine ⟨congrArg (fun b => Ending.returned (Value.bool b)) ?_, (Fr.refl _ _).alloc _⟩
    simp [wholeG, q1, q3, q7]
  have k1' : (kind : Int) ≠ 1 := by omega
  by_cases k2 : kind = 2
  · subst k2
    by_cases q31 : spec = 31
    · subst q31
      go_enter Tryz.func26, Tryz.ntmps26
      go_wp2
      go_ret
      show Ending.returned (Value.bool _) = _ ∧ _
      refine ⟨congrArg (fun b => Ending.returned (Value.bool b)) ?_, (Fr.refl _ _).alloc _⟩
      first | rfl | simp [wholeG]
    have q31' : (spec : Int) ≠ 31 := by omega
    by_cases q63 : spec = 63
    · subst q63
      go_enter Tryz.func26, Tryz.ntmps26
      go_wp2
      go_ret
      show Ending.returned (Value.bool _) = _ ∧ _
      refine ⟨congrArg (fun b => Ending.returned (Value.bool b)) ?_, (Fr.refl _ _).alloc _⟩
      first | rfl | simp [wholeG]
    have q63' : (spec : Int) ≠ 63 := by omega
    have e31 : ((spec : Int) == 31) = decide (spec = 31) := eB spec 31
    have e63 : ((spec : Int) == 63) = decide (spec = 63) := eB spec 63
    have e127 : ((spec : Int) == 127) = decide (spec = 127) := eB spec 127
    go_enter Tryz.func26, Tryz.ntmps26
    go_wp2
    go_ret
    show Ending.returned (Value.bool _) = _ ∧ _
    refine ⟨congrArg (fun b => Ending.returned (Value.bool b)) ?_, (Fr.refl _ _).alloc _⟩
    simp [wholeG, q31, q63]
  have k2' : (kind : Int) ≠ 2 := by omega
  by_cases k3 : kind = 3
  · subst k3
    have e15 : ((spec : Int) == 15) = decide (spec = 15) := eB spec 15
    go_enter Tryz.func26, Tryz.ntmps26
    go_wp2
    go_ret
    show Ending.returned (Value.bool _) = _ ∧ _
    refine ⟨congrArg (fun b => Ending.returned (Value.bool b)) ?_, (Fr.refl _ _).alloc _⟩
    simp [wholeG]
  have k3' : (kind : Int) ≠ 3 := by omega
  go_enter Tryz.func26, Tryz.ntmps26
  go_wp2
  go_ret
  show Ending.returned (Value.bool _) = _ ∧ _
  refine ⟨congrArg (fun b => Ending.returned (Value.bool b)) ?_, (Fr.refl _ _).alloc _⟩
  simp [wholeG, k1, k2, k3]
def GivesGs (w : World) (gs : List G) (e : Ending) (w' : World) : Prop := Fr nope w w' ∧ ∃ A c, e = .returned (.slice A gs.length c) ∧ w'.ownsRow w.heap.size 41 4 (.slice A gs.length c) gs.length (gsCells gs)
theorem infoRg : (Tryz.prog.info? 41).map (fun i => (i.zero, i.size, i.bytes)) = some (some (.agg #[.bool false, .int .u8 0, .int .u16 0, .int .u16 0]), 4, 6) := by kernel_rfl
end
section
open Go Go.Shelf
def sl6_ren : Ren := ⟨fun | 6 => 78 | 10 => 116 | 11 => 117 | 12 => 118 | 13 => 119 | 14 => 120 | 24 => 144 | 25 => 145 | 26 => 146 | 27 => 147 | 28 => 148 | 29 => 149 | 30 => 150 | 31 => 151 | 32 => 152 | 33 => 153 | 34 => 160 | 35 => 161 | 36 => 162 | 37 => 163 | 38 => 164 | 39 => 174 | n => n, fun | 20 => 20 | 26 => 173 | 35 => 233 | 0 => 0 | 37 => 235 | 3 => 3 | 41 => 66 | 44 => 240 | 49 => 43 | 51 => 61 | 4 => 4 | 54 => 280 | 53 => 279 | 58 => 284 | 5 => 5 | 9 => 9 | 60 => 292 | 64 => 296 | 66 => 322 | 67 => 323 | 17 => 17 | 32 => 230 | 33 => 231 | 82 => 365 | 12 => 12 | 75 => 358 | 76 => 359 | 77 => 360 | 78 => 361 | 79 => 362 | 80 => 363 | n => n, fun n => n⟩
theorem sl6 : LaysGg.n6 Tryz.prog sl6_ren := {
  mixed := by kernel_rfl,
  f6 := Tryz.func78.trans (congrArg some (by kernel_rfl)),
  f10 := Tryz.func116.trans (congrArg some (by kernel_rfl)),
  f11 := Tryz.func117.trans (congrArg some (by kernel_rfl)),
  f12 := Tryz.func118.trans (congrArg some (by kernel_rfl)),
  f13 := Tryz.func119.trans (congrArg some (by kernel_rfl)),
  f14 := Tryz.func120.trans (congrArg some (by kernel_rfl)),
  f24 := Tryz.func144.trans (congrArg some (by kernel_rfl)),
  f25 := Tryz.func145.trans (congrArg some (by kernel_rfl)),
  f26 := Tryz.func146.trans (congrArg some (by kernel_rfl)),
  f27 := Tryz.func147.trans (congrArg some (by kernel_rfl)),
  f28 := Tryz.func148.trans (congrArg some (by kernel_rfl)),
  f29 := Tryz.func149.trans (congrArg some (by kernel_rfl)),
  f30 := Tryz.func150.trans (congrArg some (by kernel_rfl)),
  f31 := Tryz.func151.trans (congrArg some (by kernel_rfl)),
  f32 := Tryz.func152.trans (congrArg some (by kernel_rfl)),
  f33 := Tryz.func153.trans (congrArg some (by kernel_rfl)),
  f34 := Tryz.func160.trans (congrArg some (by kernel_rfl)),
  f35 := Tryz.func161.trans (congrArg some (by kernel_rfl)),
  f36 := Tryz.func162.trans (congrArg some (by kernel_rfl)),
  f37 := Tryz.func163.trans (congrArg some (by kernel_rfl)),
  f38 := Tryz.func164.trans (congrArg some (by kernel_rfl)),
  f39 := Tryz.func174.trans (congrArg some (by kernel_rfl)),
  t0 := Tryz.underlying0,
  a0 := Tryz.isAgg0,
  z0 := Tryz.sizeOf0,
  v0 := Tryz.zeroValue0,
  i0 := by kernel_rfl,
  t3 := Tryz.underlying3,
  a3 := Tryz.isAgg3,
  z3 := Tryz.sizeOf3,
  v3 := Tryz.zeroValue3,
  i3 := by kernel_rfl,
  t4 := Tryz.underlying4,
  a4 := Tryz.isAgg4,
  z4 := Tryz.sizeOf4,
  v4 := Tryz.zeroValue4,
  i4 := by kernel_rfl,
  t5 := Tryz.underlying5,
  a5 := Tryz.isAgg5,
  z5 := Tryz.sizeOf5,
  v5 := Tryz.zeroValue5,
  i5 := by kernel_rfl,
  t9 := Tryz.underlying9,
  a9 := Tryz.isAgg9,
  z9 := Tryz.sizeOf9,
  v9 := Tryz.zeroValue9,
  i9 := by kernel_rfl,
  t12 := Tryz.underlying12,
  a12 := Tryz.isAgg12,
  z12 := Tryz.sizeOf12,
  v12 := Tryz.zeroValue12,
  i12 := by kernel_rfl,
  t17 := Tryz.underlying17,
  a17 := Tryz.isAgg17,
  z17 := Tryz.sizeOf17,
  v17 := Tryz.zeroValue17,
  i17 := by kernel_rfl,
  t20 := Tryz.underlying20,
  a20 := Tryz.isAgg20,
  z20 := Tryz.sizeOf20,
  v20 := Tryz.zeroValue20,
  i20 := by kernel_rfl,
  t26 := Tryz.underlying173,
  a26 := Tryz.isAgg173,
  z26 := Tryz.sizeOf173,
  v26 := Tryz.zeroValue173,
  i26 := by kernel_rfl,
  t32 := Tryz.underlying230,
  a32 := Tryz.isAgg230,
  z32 := Tryz.sizeOf230,
  v32 := Tryz.zeroValue230,
  i32 := by kernel_rfl,
  t33 := Tryz.underlying231,
  a33 := Tryz.isAgg231,
  z33 := Tryz.sizeOf231,
  v33 := Tryz.zeroValue231,
  i33 := by kernel_rfl,
  t35 := Tryz.underlying233,
  a35 := Tryz.isAgg233,
  z35 := Tryz.sizeOf233,
  v35 := Tryz.zeroValue233,
  i35 := by kernel_rfl,
  t37 := Tryz.underlying235,
  a37 := Tryz.isAgg235,
  z37 := Tryz.sizeOf235,
  v37 := Tryz.zeroValue235,
  i37 := by kernel_rfl,
  t41 := Tryz.underlying66,
  a41 := Tryz.isAgg66,
  z41 := Tryz.sizeOf66,
  v41 := Tryz.zeroValue66,
  i41 := by kernel_rfl,
  t44 := Tryz.underlying240,
  a44 := Tryz.isAgg240,
  z44 := Tryz.sizeOf240,
  v44 := Tryz.zeroValue240,
  i44 := by kernel_rfl,
  t49 := Tryz.underlying43,
  a49 := Tryz.isAgg43,
  z49 := Tryz.sizeOf43,
  v49 := Tryz.zeroValue43,
  i49 := by kernel_rfl,
  t51 := Tryz.underlying61,
  a51 := Tryz.isAgg61,
  z51 := Tryz.sizeOf61,
  v51 := Tryz.zeroValue61,
  i51 := by kernel_rfl,
  t53 := Tryz.underlying279,
  a53 := Tryz.isAgg279,
  z53 := Tryz.sizeOf279,
  v53 := Tryz.zeroValue279,
  i53 := by kernel_rfl,
  t54 := Tryz.underlying280,
  a54 := Tryz.isAgg280,
  z54 := Tryz.sizeOf280,
  v54 := Tryz.zeroValue280,
  i54 := by kernel_rfl,
  t58 := Tryz.underlying284,
  a58 := Tryz.isAgg284,
  z58 := Tryz.sizeOf284,
  v58 := Tryz.zeroValue284,
  i58 := by kernel_rfl,
  t60 := Tryz.underlying292,
  a60 := Tryz.isAgg292,
  z60 := Tryz.sizeOf292,
  v60 := Tryz.zeroValue292,
  i60 := by kernel_rfl,
  t64 := Tryz.underlying296,
  a64 := Tryz.isAgg296,
  z64 := Tryz.sizeOf296,
  v64 := Tryz.zeroValue296,
  i64 := by kernel_rfl,
  t66 := Tryz.underlying322,
  a66 := Tryz.isAgg322,
  z66 := Tryz.sizeOf322,
  v66 := Tryz.zeroValue322,
  i66 := by kernel_rfl,
  t67 := Tryz.underlying323,
  a67 := Tryz.isAgg323,
  z67 := Tryz.sizeOf323,
  v67 := Tryz.zeroValue323,
  i67 := by kernel_rfl,
  t75 := Tryz.underlying358,
  a75 := Tryz.isAgg358,
  z75 := Tryz.sizeOf358,
  v75 := Tryz.zeroValue358,
  i75 := by kernel_rfl,
  t76 := Tryz.underlying359,
  a76 := Tryz.isAgg359,
  z76 := Tryz.sizeOf359,
  v76 := Tryz.zeroValue359,
  i76 := by kernel_rfl,
  t77 := Tryz.underlying360,
  a77 := Tryz.isAgg360,
  z77 := Tryz.sizeOf360,
  v77 := Tryz.zeroValue360,
  i77 := by kernel_rfl,
  t78 := Tryz.underlying361,
  a78 := Tryz.isAgg361,
  z78 := Tryz.sizeOf361,
  v78 := Tryz.zeroValue361,
  i78 := by kernel_rfl,
  t79 := Tryz.underlying362,
  a79 := Tryz.isAgg362,
  z79 := Tryz.sizeOf362,
  v79 := Tryz.zeroValue362,
  i79 := by kernel_rfl,
  t80 := Tryz.underlying363,
  a80 := Tryz.isAgg363,
  z80 := Tryz.sizeOf363,
  v80 := Tryz.zeroValue363,
  i80 := by kernel_rfl,
  t82 := Tryz.underlying365,
  a82 := Tryz.isAgg365,
  z82 := Tryz.sizeOf365,
  v82 := Tryz.zeroValue365,
  i82 := by kernel_rfl }
end
end Go.Proofs.YtbaihlfnbdifgaaGreat
namespace Bth
section
open Go Go.RowKit Go.Lib Go.Sort
theorem putRow_id {α : Type} [Inhabited α] (enc : α → Value) (w : World) (blk off : Nat) (d : Array α) : putRow enc w blk off d = putRow id w blk off (d.map enc) := by
  unfold putRow
  refine mapBlock_congr w blk _ _ fun c _ _ _ => ?_
  apply Array.ext_getElem?
  intro k
  simp only [putCells, Array.getElem?_mapIdx, Array.size_map]
  cases c[k]? with
  | none => rfl
  | some x =>
    simp only [Option.map_some, id]
    split
    · rename_i h
      congr 1
      rw [getElem!_pos d (k - off) (by omega), getElem!_pos (d.map enc) (k - off) (by simp; omega), Array.getElem_map]
    · rfl
def sorted (w : World) (g m : Nat) (F : Array Value) (os : Array Obj) : World := grow (putRow id (Sort.ahead w m) g 0 F) os
theorem sorted_heap {w : World} {g m : Nat} {F : Array Value} {os : Array Obj} {cur : Array Value} {e : TypeId} (h : w.heap[g]? = some (.cells cur e (0, 0))) : (sorted w g m F os).heap[g]? = some (.cells (putCells id 0 F cur) e (0, 0)) := by
  have hl : g < w.heap.size := (Array.getElem?_eq_some_iff.1 h).1
  unfold sorted
  rw [heap_grow_old _ _ (by simp [Sort.ahead]; exact hl)]
  unfold putRow mapBlock Sort.ahead
  simp only [Array.getElem?_modify, if_true, h, Option.map_some]
  rfl
theorem sorted_fr (w : World) (g m : Nat) (F : Array Value) (os : Array Obj) : Fr (fun b => b = g) w (sorted w g m F os) := by
  have hs : (putRow id (Sort.ahead w m) g 0 F).heap.size = w.heap.size := by simp [Sort.ahead]
  refine ⟨rfl, rfl, rfl, ?_, fun k hk hne => ?_⟩
  · unfold sorted; rw [size_grow, hs]; omega
  · unfold sorted
    rw [heap_grow_old _ _ (by rw [hs]; exact hk)]
    unfold putRow mapBlock Sort.ahead
    have hne' : ¬ g = k := fun e => hne e.symm
    simp [Array.getElem?_modify, hne']
theorem putCells_take {F cur : Array Value} (h : F.size ≤ cur.size) : (putCells id 0 F cur).toList.take F.size = F.toList := by
  apply List.ext_getElem?
  intro k
  rw [List.getElem?_take]
  split
  · rename_i hk
    simp only [putCells, Array.toList_mapIdx, List.getElem?_mapIdx, Array.getElem?_toList]
    rw [Array.getElem?_eq_getElem (by omega : k < cur.size), Array.getElem?_eq_getElem hk]
    simp only [Option.map_some, id]
    rw [if_pos ⟨Nat.zero_le _, by omega⟩]
    congr 1
    rw [Nat.sub_zero, getElem!_pos F k hk]
  · rename_i hk
    rw [Array.getElem?_toList, Array.getElem?_eq_none (by omega)]
theorem sorted_own {w : World} {base n k : Nat} {e : TypeId} {g c m : Nat} {xs : List Value} {F : Array Value} {os : Array Obj} (h : w.ownsRow base e k (.slice (some ⟨g, 0, none⟩) n c) n xs) (hF : F.size = n * k) :
    (sorted w g m F os).ownsRow base e k (.slice (some ⟨g, 0, none⟩) n c) n F.toList := by
  refine ⟨by simpa using hF, ?_⟩
  rcases h.2 with ⟨h1, _⟩ | ⟨g', cap, cur, h1, hb, hh, h3, h4, h5, h6⟩
  · injection h1 with h1 _ _; cases h1
  · injection h1 with hg _ hc
    injection hg with hg
    injection hg with hg _ _
    subst hg hc
    have hle : F.size ≤ cur.size := by rw [hF, h5]; exact Nat.mul_le_mul_right k h3
    exact .inr ⟨g, c, _, rfl, hb, sorted_heap hh, h3, h4, by simp [putCells, h5], by rw [← hF]; exact putCells_take hle⟩
theorem own_cur {w : World} {base n k : Nat} {e : TypeId} {g c : Nat} {xs : List Value} (h : w.ownsRow base e k (.slice (some ⟨g, 0, none⟩) n c) n xs) : ∀ j u, xs[j]? = some u → w.cell? ⟨g, j, none⟩ = some u ∧ w.frozen? ⟨g, j, none⟩ = false := by
  intro j u hu
  have hj : j < n * k := by rw [← h.1]; exact (List.getElem?_eq_some_iff.1 hu).1
  rcases h.2 with ⟨h1, _⟩ | ⟨g', cap, cur, h1, hb, hh, h3, h4, h5, h6⟩
  · injection h1 with h1 _ _; cases h1
  · injection h1 with hg _ hc
    injection hg with hg
    injection hg with hg _ _
    subst hg hc
    refine ⟨?_, by simp [World.frozen?, hh]⟩
    rw [cell_of_row w g j cur e (0, 0) hh]
    rw [← h6, List.getElem?_take_of_lt hj] at hu
    simpa using hu
theorem own_holds {α : Type} [Inhabited α] {w : World} {base n : Nat} {e : TypeId} {g c : Nat} {enc : α → Value} {xs : List α} (h : w.ownsRow base e 1 (.slice (some ⟨g, 0, none⟩) n c) n (xs.map enc)) : Holds enc w g 0 xs.toArray := by
  intro j hj
  have hj' : j < xs.length := by simpa using hj
  have := own_cur h j (enc xs[j]) (by rw [List.getElem?_map, List.getElem?_eq_getElem hj']; rfl)
  rw [Nat.zero_add, getElem!_pos xs.toArray j hj]
  simpa using this
theorem flatK_list {α : Type} [Inhabited α] (enc : α → List Value) (k : Nat) (hk : ∀ x, (enc x).length = k) (h0 : 0 < k) : ∀ (xs : List α), (flatK enc k xs.toArray).toList = xs.flatMap enc := by
  intro xs
  apply List.ext_getElem?
  intro t
  have key : ∀ (l : List α) (t : Nat), (l.flatMap enc)[t]? = if t < l.length * k then (enc (l[t / k]?.getD default))[t % k]? else none := by
    intro l
    induction l with
    | nil => intro t; simp
    | cons a l ih =>
      intro t
      rw [List.flatMap_cons]
      by_cases ht : t < k
      · rw [List.getElem?_append_left (by rw [hk]; exact ht), if_pos (by simp only [List.length_cons, Nat.succ_mul]; omega), Nat.div_eq_of_lt ht, Nat.mod_eq_of_lt ht]
        rfl
      · rw [List.getElem?_append_right (by rw [hk]; omega), hk, ih]
        have e1 : t / k = (t - k) / k + 1 := by rw [← Nat.sub_add_cancel (Nat.le_of_not_lt ht), Nat.add_div_right _ h0]; simp
        have e2 : t % k = (t - k) % k := by
          conv => lhs; rw [← Nat.sub_add_cancel (Nat.le_of_not_lt ht)]
          rw [Nat.add_mod_right]
        rw [e1, e2]
        simp only [List.length_cons, Nat.succ_mul, List.getElem?_cons_succ]
        by_cases h2 : t - k < l.length * k
        · rw [if_pos h2, if_pos (by omega)]
        · rw [if_neg h2, if_neg (by omega)]
  rw [key]
  simp only [flatK, Array.getElem?_toList, Array.getElem?_map, List.size_toArray]
  split
  · rename_i ht
    have hd : t / k < xs.length := by rw [Nat.div_lt_iff_lt_mul h0]; exact ht
    have hm : t % k < k := Nat.mod_lt _ h0
    rw [Array.getElem?_eq_getElem (by simpa using ht)]
    simp only [Option.map_some, Array.getElem_range]
    rw [List.getElem?_eq_getElem hd, Option.getD_some, List.getElem?_eq_getElem (by rw [hk]; exact hm)]
    congr 1
    rw [getElem!_pos xs.toArray _ (by simpa using hd), getElem!_pos _ _ (by rw [hk]; exact hm)]
    simp
  · rename_i ht
    rw [Array.getElem?_eq_none (by simpa using ht)]; rfl
theorem own_holdsK {α : Type} [Inhabited α] {w : World} {base n k : Nat} {e : TypeId} {g c : Nat} {enc : α → List Value} {xs : List α} (hk : ∀ x, (enc x).length = k) (h0 : 0 < k) (h : w.ownsRow base e k (.slice (some ⟨g, 0, none⟩) n c) n (xs.flatMap enc)) : HoldsK enc k w g 0 xs.toArray := by
  unfold HoldsK
  rw [← flatK_list enc k hk h0 xs] at h
  intro j hj
  have := own_cur h j ((flatK enc k xs.toArray)[j]) (by rw [Array.getElem?_toList, Array.getElem?_eq_getElem hj])
  rw [Nat.zero_add, getElem!_pos _ j hj]
  exact this
def SortedOf {α : Type} (lt : α → α → Bool) (xs ys : List α) : Prop := ys.Perm xs ∧ ys.Pairwise fun a b => lt b a = false
theorem sortedOf_of {α : Type} [Inhabited α] {lt : α → α → Bool} {xs : List α} {d' : Array α} (hp : PermIn 0 xs.toArray.size xs.toArray d') (hs : SortedIn lt 0 xs.toArray.size d') : SortedOf lt xs d'.toList ∧ d'.size = xs.length := by
  obtain ⟨h1, _, h3⟩ := hp
  have h1' : d'.size = xs.length := by simpa using h1
  refine ⟨⟨?_, ?_⟩, h1'⟩
  · have e1 : d'.extract 0 xs.toArray.size = d' := by rw [← h1]; exact Array.extract_size
    have e2 : xs.toArray.extract 0 xs.toArray.size = xs.toArray := Array.extract_size
    rw [e1, e2] at h3
    exact h3
  · rw [List.pairwise_iff_getElem]
    intro i j hi hj hij
    have hj' : j < d'.size := by simpa using hj
    have hi' : i < d'.size := by simpa using hi
    have := hs i j (Nat.zero_le _) hij (by simpa using (by omega : j < xs.length))
    rw [getElem!_pos d' j hj', getElem!_pos d' i hi'] at this
    simpa using this
theorem SortedOf.tiny {α : Type} {lt : α → α → Bool} {xs : List α} (h : xs.length ≤ 1) : SortedOf lt xs xs := by
  refine ⟨.refl _, ?_⟩
  rcases xs with _ | ⟨a, _ | ⟨b, l⟩⟩
  · exact .nil
  · exact List.pairwise_singleton _ _
  · simp at h
theorem fr_grow (w : World) (os : Array Obj) : Fr nope w (grow w os) := ⟨rfl, rfl, rfl, by rw [size_grow]; omega, fun k hk _ => heap_grow_old w os hk⟩
end
end Bth
namespace Go.Proofs.YtbaihlfnbdifgaaGreat
section
open Go Go.RowKit Go.Lib Go.Sort Bth
set_option maxRecDepth 100000
noncomputable def idsT : TypeInfo := (Tryz.prog.info? 216).get (by kernel_rfl)
noncomputable def idT : TypeInfo := (Tryz.prog.info? 162).get (by kernel_rfl)
theorem idK (n : Nat) (h2 : 2 ≤ n) : Lib.swapperK n idT 10 = 6 := by
  have a : idT.hasPointers = false := by kernel_rfl
  have b : idT.bytes = 4 := by kernel_rfl
  have c : (n == 0) = false := by simp; omega
  have d : (n == 1) = false := by simp; omega
  simp [Lib.swapperK, a, b, c, d]
def LessOwn (g : FuncId) (lb : Array Value) (lt : Nat → Nat → Bool) (w : World) (b c : Nat) (n : Nat) : Prop :=
  ∀ (W : World) (ys : List Nat), Fr (fun x => x = b) w W → ys.length = n → W.ownsRow 0 162 1 (.slice (some ⟨b, 0, none⟩) n c) n (ys.map idV) → ∀ i j : Nat, i < n → j < n →
    Calls Tryz.prog g (#[.int .i64 i, .int .i64 j] ++ lb) W fun e w' => e = .returned (.bool (lt (ys.getD i 0) (ys.getD j 0))) ∧ ∃ q, w' = W.drewN q
def GivesSorted (w : World) (v : Value) (lt : Nat → Nat → Bool) (xs : List Nat) (e : Ending) (w' : World) : Prop :=
  e = .returned (.tuple #[]) ∧ ∃ ys, SortedOf lt xs ys ∧ w'.ownsRow 0 162 1 v xs.length (ys.map idV) ∧ Fr (fun b => v.ownBlock = some b) w w'
theorem sortIDs_calls (w : World) (A : Option Addr) (c : Nat) (xs : List Nat) (hown : w.ownsRow 0 162 1 (.slice A xs.length c) xs.length (xs.map idV)) (g : FuncId) (lb : Array Value) (eg : ∀ args w, (callFunc g args).run Tryz.prog w = .ok (.enter g args) w)
    (lt : Nat → Nat → Bool) (hO : SWO lt) (hless : ∀ b, A = some ⟨b, 0, none⟩ → LessOwn g lb lt w b c xs.length) (hsz : xs.length < 4611686018427387904) :
    Calls Tryz.prog 78 #[.iface 216 (.slice A xs.length c), .func (.func g) #[] lb] w (GivesSorted w (.slice A xs.length c) lt xs) := by
  by_cases h2 : 2 ≤ xs.length
  · obtain ⟨b, rfl, hb, _⟩ := own_cells hown (by omega)
    have hS := Any.sort_Slice_sorted sl6 216 162 idsT idT (by kernel_rfl) (by kernel_rfl) (by kernel_rfl) (by kernel_rfl) 10 (fun _ => by kernel_rfl) (by kernel_rfl) (fun _ => by kernel_rfl) idV (fun _ => rfl) lt hO g lb eg b 0 c xs.toArray (by simpa using h2) (by simpa using hsz)
      140 (by rw [idK _ (by simpa using h2)]; kernel_rfl) true
      (fun args W => run_callFunc_extern Tryz.func140 (by kernel_rfl) (by kernel_rfl) (by kernel_rfl) (e := Extern.ReflectliteSwapper.swap true) (by kernel_rfl) args W) w
      (fun m os dk hs i j hi hj => by
        have hs' : dk.size = xs.length := by simpa using hs
        have e : Go.Proofs.sortWorld idV w b 0 m dk os = sorted w b m (dk.map idV) os := by unfold Go.Proofs.sortWorld sorted; rw [putRow_id]
        rw [e]
        have hw := hless b rfl (sorted w b m (dk.map idV) os) dk.toList (sorted_fr _ _ _ _ _) (by simpa using hs') (by
          have := sorted_own (m := m) (os := os) (F := dk.map idV) hown (by simp [hs'])
          simpa using this) i j (by simpa using hi) (by simpa using hj)
        have e1 : ∀ t, t < xs.length → dk.toList.getD t 0 = dk[t]! := fun t ht => by
          rw [getElem!_pos dk t (by omega), List.getD_eq_getElem?_getD, Array.getElem?_toList, Array.getElem?_eq_getElem (by omega)]; rfl
        rw [e1 i (by simpa using hi), e1 j (by simpa using hj)] at hw
        exact hw)
      (own_holds hown) hb
    have hsz2 : xs.toArray.size = xs.length := by simp
    rw [hsz2] at hS
    refine Calls.mono hS ?_
    rintro e w' ⟨rfl, d', m, os, hp, hso, rfl⟩
    obtain ⟨h3, h4⟩ := sortedOf_of (by simpa using hp) (by simpa using hso)
    refine ⟨rfl, d'.toList, h3, ?_, ?_⟩
    · rw [putRow_id]
      have := sorted_own (m := m) (os := os) (F := d'.map idV) hown (by simp [h4])
      rw [Array.toList_map] at this
      exact this
    · rw [putRow_id]
      exact (sorted_fr w b m _ os).mono fun x _ e => by rw [e]; rfl
  · have h1 : xs.length = 0 ∨ xs.length = 1 := by omega
    rcases h1 with h1 | h1
    · have hS := Any.sort_Slice_tiny sl6 216 162 idsT idT (by kernel_rfl) (by kernel_rfl) (by kernel_rfl) (by kernel_rfl) 10 (fun _ => by kernel_rfl) A xs.length c (by omega) 135 (by rw [h1]; kernel_rfl) (.func g) #[] lb w
      refine Calls.mono hS ?_
      rintro e w' ⟨rfl, os, rfl⟩
      exact ⟨rfl, xs, .tiny (by omega), own_fr hown (fr_grow w os) (fun _ _ x => x), (fr_grow w os).of_nope⟩
    · have hS := Any.sort_Slice_tiny sl6 216 162 idsT idT (by kernel_rfl) (by kernel_rfl) (by kernel_rfl) (by kernel_rfl) 10 (fun _ => by kernel_rfl) A xs.length c (by omega) 136 (by rw [h1]; kernel_rfl) (.func g) #[] lb w
      refine Calls.mono hS ?_
      rintro e w' ⟨rfl, os, rfl⟩
      exact ⟨rfl, xs, .tiny (by omega), own_fr hown (fr_grow w os) (fun _ _ x => x), (fr_grow w os).of_nope⟩
end
section
open Go Go.RowKit Bth
set_option maxRecDepth 100000
theorem infoID : (Tryz.prog.info? 162).map (fun i => (i.zero, i.size, i.bytes)) = some (some (.int .u32 0), 1, 4) := by kernel_rfl
theorem filter_take {xs : List Nat} {k x : Nat} {p : Nat → Bool} (h : xs[k]? = some x) : (xs.take (k + 1)).filter p = (xs.take k).filter p ++ (if p x then [x] else []) := by
  rw [List.take_add_one, h, List.filter_append]
  cases hp : p x <;> simp [hp]
def Pred (w : World) (g : FuncId) (lb : Array Value) (p : Nat → Bool) (xs : List Nat) : Prop := ∀ W x, x ∈ xs → Fr nope w W → Calls Tryz.prog g (#[.int .u32 (x : Int)] ++ lb) W fun e W' => e = .returned (.bool (p x)) ∧ Fr nope W W'
theorem filter_calls (w : World) (A : Option Addr) (c : Nat) (xs : List Nat) (hS : Sl w A xs.length (xs.map idV)) (hl : xs.length ≤ 1073741824) (g : FuncId) (b : Addr) (p : Nat → Bool) (heg : ∀ args w, (callFunc g args).run Tryz.prog w = .ok (.enter g args) w) (hp : Pred w g #[.pointer (some b)] p xs) :
    Calls Tryz.prog 130 #[.slice A xs.length c, .func (.func g) #[] #[.pointer (some b)]] w (GivesOwn w 162 ((xs.filter p).map idV)) := by
  go_enter Tryz.func130, Tryz.ntmps130
  go_wp2
  go_loopg [5, 10] xs.length (fun n c5 c10 wr => ∃ k : Nat, k ≤ xs.length ∧ c10 = .int .i64 (k : Int) ∧ wr.ownsRow w.heap.size 162 1 c5 ((xs.take k).filter p).length (((xs.take k).filter p).map idV) ∧ Fr nope w wr ∧ n = xs.length - k)
  case atStart => exact ⟨0, Nat.zero_le _, rfl, by simpa using own_nil _ _ _ _, Fr.refl _ _, rfl⟩
  case round =>
    obtain ⟨k, hk, rfl, hown, hf, rfl⟩ := hrel
    by_cases hlt : k < xs.length
    · obtain ⟨b2, off, u, rfl, hbl, hu, hc⟩ := (hS.nope hf).at_ hlt
      rw [List.getElem?_map] at hu
      obtain ⟨x, hxk, rfl⟩ := Option.map_eq_some_iff.1 hu
      have hT := Lib.hid (filter_take (p := p) hxk)
      have hB1 := List.length_filter_le p (xs.take k)
      have hB3 : (xs.take k).length ≤ k := by rw [List.length_take]; omega
      have hcall := hp wr x (List.mem_of_getElem? hxk) hf
      simp only [List.append_toArray, List.cons_append, List.nil_append] at hcall
      simp only [idV] at hc
      clear hS hu hxk hp
      go_wp2_with fail
      refine hcall.mono ?_
      rintro e w2 ⟨rfl, hf2⟩
      have hown2 := own_fr hown hf2 (fun _ _ x => x)
      have hft := hf.then hf2
      cases hpx : p x with
      | false =>
        rw [hpx] at hT
        replace hpx := Lib.hid hpx
        go_wp2
        go_roundg (xs.length - (k + 1))
        case measure => omega
        case rel => exact ⟨k + 1, by omega, by go_num, by rw [hT.out]; simpa using hown2, hft, rfl⟩
      | true =>
        rw [hpx] at hT
        replace hpx := Lib.hid hpx
        go_wp2_with (refine wpList_app (v := u5) rfl rfl Tryz.underlying216 infoID rfl (by omega) rfl (own_fr hown2 ((Fr.refl nope _).alloc _) (fun _ _ x => x)) rfl (news := [_]) rfl (one_new _ _ _ _ rfl) (by simp [Value.oneCell']) (by simp only [maxLen]; omega) (by omega) (by have := hft.size; simp; omega) ?_; intro v3 w3 hown3 hf3 _)
        go_roundg (xs.length - (k + 1))
        case measure => omega
        case rel => exact ⟨k + 1, by omega, by go_num, by rw [hT.out, List.map_append, List.length_append]; exact hown3, (hft.alloc _).then_new hf3 (fun x hx he => by have := own_base hown x he; omega), rfl⟩
    · go_wp2
      go_ret
      have e : xs.take k = xs := List.take_of_length_le (by omega)
      rw [e] at hown
      exact ⟨_, rfl, by simpa using hown, hf⟩
end
section
open Go Go.RowKit Go.MapKept Bth
open Go.ChangeMaps (setBlock)
set_option maxRecDepth 100000
def IdMap (w : World) (b : Nat) (f : Nat → Option Nat) : Prop := ∃ ks, MapAt w b idV ks fun k => (f k).map idV
theorem allocT : Tryz.prog.underlying 97 = some (.map 162 162) := Tryz.underlying97
theorem zeroID (w : World) : (zeroValue 162).run Tryz.prog w = .ok (.int .u32 0) w := by kernel_rfl
theorem IdMap.lt {w : World} {b : Nat} {f : Nat → Option Nat} (h : IdMap w b f) : b < w.heap.size := by obtain ⟨ks, hm⟩ := h; exact hm.lt
theorem IdMap.fr {S : Nat → Prop} {w w' : World} {b : Nat} {f : Nat → Option Nat} (h : IdMap w b f) (hf : Fr S w w') (hs : ¬ S b) : IdMap w' b f := by obtain ⟨ks, hm⟩ := h; exact ⟨ks, hm.fr hf hs⟩
theorem IdMap.look {w : World} {b : Nat} {f : Nat → Option Nat} (h : IdMap w b f) (k : Nat) :
    (Instr.lookup 97 (.map (some b)) (.int .u32 (k : Int)) false).run Tryz.prog w = .ok (.int .u32 (((f k).getD 0 : Nat) : Int)) w := by
  obtain ⟨ks, hm⟩ := h
  have := hm.lookup idKey allocT (zeroID w) k false
  rw [show (Value.int .u32 (k : Int)) = idV k from rfl, this]
  cases f k <;> simp [idV]
theorem IdMap.look2 {w : World} {b : Nat} {f : Nat → Option Nat} (h : IdMap w b f) (k : Nat) :
    (Instr.lookup 97 (.map (some b)) (.int .u32 (k : Int)) true).run Tryz.prog w = .ok (.tuple #[.int .u32 (((f k).getD 0 : Nat) : Int), .bool (f k).isSome]) w := by
  obtain ⟨ks, hm⟩ := h
  have := hm.lookup idKey allocT (zeroID w) k true
  rw [show (Value.int .u32 (k : Int)) = idV k from rfl, this]
  cases f k <;> simp [idV]
theorem IdMap.put {w : World} {b : Nat} {f : Nat → Option Nat} (h : IdMap w b f) (k v : Nat) :
    ∃ w', (Instr.mapUpdate 97 (.map (some b)) (.int .u32 (k : Int)) (.int .u32 (v : Int))).run Tryz.prog w = .ok () w' ∧ IdMap w' b (fun x => if x = k then some v else f x) ∧ Fr (fun x => x = b) w w' ∧ w'.heap.size = w.heap.size := by
  obtain ⟨ks, hM⟩ := h
  obtain ⟨es, clock, h1, h2⟩ := hM.update idKey allocT k (idV v)
  have e : (fun x => (if x = k then some v else f x).map idV) = updM (fun s => (f s).map idV) k (some (idV v)) := by
    funext x
    unfold updM
    by_cases hx : x = k <;> simp [hx]
  rw [← e] at h2
  exact ⟨setBlock w b (.map es clock), h1, ⟨_, h2⟩, (Fr.refl (fun x => x = b) w).setBlock (.inl rfl) _, by simp [setBlock]⟩
theorem IdMap.eqHeap {w W : World} {b : Nat} {f : Nat → Option Nat} (h : IdMap w b f) (he : W.heap = w.heap) : IdMap W b f := by obtain ⟨ks, hm⟩ := h; exact ⟨ks, hm.keep (by rw [he])⟩
theorem LookupDefault_calls (w : World) (b : Nat) (f : Nat → Option Nat) (id : Nat) (hb : IdMap w b f) :
    Calls Tryz.prog 132 #[.map (some b), .int .u32 (id : Int)] w fun e w' => e = .returned (.int .u32 (lk f id : Int)) ∧ w' = w := by
  have h1 := hb.look id
  have h2 := hb.look2 id
  unfold lk
  cases hf : f id with
  | none =>
    rw [hf] at h1 h2
    simp only [Option.getD_none, Option.isSome_none] at h1 h2
    replace hf := Lib.hid hf
    go_enter Tryz.func132, Tryz.ntmps132
    go_wp2
    go_ret
    exact ⟨rfl, rfl⟩
  | some v =>
    rw [hf] at h1 h2
    simp only [Option.getD_some, Option.isSome_some] at h1 h2
    replace hf := Lib.hid hf
    go_enter Tryz.func132, Tryz.ntmps132
    go_wp2
    go_ret
    exact ⟨rfl, rfl⟩
def PossAt (w : World) (P : Nat → Prop) (b : Nat) (L : Nat → Option (List Nat)) : Prop := ∃ (ks : List Nat) (sv : Nat → SV), MapAt w b idV ks (fun k => (L k).map fun _ => (sv k).val) ∧ ∀ k l, L k = some l → w.ownsRow 0 162 1 (sv k).val l.length (l.map idV) ∧ ∀ c, (sv k).val.ownBlock = some c → P c
theorem possT : Tryz.prog.underlying 219 = some (.map 162 216) := Tryz.underlying219
theorem zeroIDs (w : World) : (zeroValue 216).run Tryz.prog w = .ok (.slice none 0 0) w := by kernel_rfl
theorem PossAt.lt {w : World} {P : Nat → Prop} {b : Nat} {L : Nat → Option (List Nat)} (h : PossAt w P b L) : b < w.heap.size := by obtain ⟨ks, sv, hm, _⟩ := h; exact hm.lt
theorem PossAt.mono {w : World} {P P' : Nat → Prop} {b : Nat} {L : Nat → Option (List Nat)} (h : PossAt w P b L) (hp : ∀ c, P c → P' c) : PossAt w P' b L := by
  obtain ⟨ks, sv, hm, hl⟩ := h
  exact ⟨ks, sv, hm, fun k l e => ⟨(hl k l e).1, fun c hc => hp c ((hl k l e).2 c hc)⟩⟩
theorem PossAt.frT {T : List TypeId} {P S : Nat → Prop} {w w' : World} {b : Nat} {L : Nat → Option (List Nat)} (h : PossAt w P b L) (hf : Fr S w w') (hs : NoT T w S) (ht : 162 ∈ T) (hb : ¬ S b) : PossAt w' P b L := by
  obtain ⟨ks, sv, hm, hl⟩ := h
  exact ⟨ks, sv, hm.fr hf hb, fun k l e => ⟨own_frT (hl k l e).1 hf hs ht, (hl k l e).2⟩⟩
theorem PossAt.frP {P S : Nat → Prop} {w w' : World} {b : Nat} {L : Nat → Option (List Nat)} (h : PossAt w P b L) (hf : Fr S w w') (hs : ∀ c, P c → ¬ S c) (hb : ¬ S b) : PossAt w' P b L := by
  obtain ⟨ks, sv, hm, hl⟩ := h
  exact ⟨ks, sv, hm.fr hf hb, fun k l e => ⟨own_fr (hl k l e).1 hf fun c hc => hs c ((hl k l e).2 c hc), (hl k l e).2⟩⟩
theorem PossAt.still {P : Nat → Prop} {w w' : World} {b : Nat} {L : Nat → Option (List Nat)} (h : PossAt w P b L) (hf : Fr nope w w') : PossAt w' P b L := h.frT (T := [162]) hf (NoT.nope _ _) (by decide) (fun x => x)
theorem PossAt.look {P : Nat → Prop} {w : World} {b : Nat} {L : Nat → Option (List Nat)} (h : PossAt w P b L) (k : Nat) :
    ∃ s : SV, (∀ W, Fr nope w W → (Instr.lookup 219 (.map (some b)) (.int .u32 (k : Int)) false).run Tryz.prog W = .ok (.slice s.A s.n s.c) W ∧ (Instr.lookup 219 (.map (some b)) (.int .u32 (k : Int)) true).run Tryz.prog W = .ok (.tuple #[.slice s.A s.n s.c, .bool (L k).isSome]) W) ∧
      w.ownsRow 0 162 1 s.val ((L k).getD []).length (((L k).getD []).map idV) ∧ s.n = ((L k).getD []).length := by
  obtain ⟨ks, sv, hm, hl⟩ := h
  cases hL : L k with
  | none =>
    refine ⟨⟨none, 0, 0⟩, fun W hW => ?_, own_nil _ _ _ _, rfl⟩
    have h1 := (hm.fr hW (fun x => x)).lookup idKey possT (zeroIDs W) k false
    have h2 := (hm.fr hW (fun x => x)).lookup idKey possT (zeroIDs W) k true
    rw [show (Value.int .u32 (k : Int)) = idV k from rfl, h1, h2]
    simp [hL]
  | some l =>
    have hr := (hl k l hL).1
    refine ⟨sv k, fun W hW => ?_, hr, ?_⟩
    · have h1 := (hm.fr hW (fun x => x)).lookup idKey possT (zeroIDs W) k false
      have h2 := (hm.fr hW (fun x => x)).lookup idKey possT (zeroIDs W) k true
      rw [show (Value.int .u32 (k : Int)) = idV k from rfl, h1, h2]
      simp [hL, SV.val]
    · obtain ⟨A, c, e, _, _⟩ := own_slice hr
      unfold SV.val at e
      injection e with _ e _
theorem PossAt.setBlock {w : World} {b : Nat} {es : Array MapEntry} {clock : Nat} {es' : Array MapEntry} {clock' : Nat} (hh : w.heap[b]? = some (.map es clock)) {n : Nat} {xs : List Value} {v : Value} (hr : w.ownsRow 0 162 1 v n xs) :
    (setBlock w b (.map es' clock')).ownsRow 0 162 1 v n xs := own_fr hr ((Fr.refl (fun x => x = b) w).setBlock (.inl rfl) _) fun c hc he => by
  subst he
  obtain ⟨cur, h2⟩ := own_heap hr hc
  rw [h2] at hh; cases hh
theorem PossAt.put {P : Nat → Prop} {w : World} {b : Nat} {L : Nat → Option (List Nat)} (h : PossAt w P b L) (k : Nat) (l : List Nat) (s : SV) (hr : w.ownsRow 0 162 1 s.val l.length (l.map idV)) (hP : ∀ c, s.val.ownBlock = some c → P c) :
    ∃ w', (Instr.mapUpdate 219 (.map (some b)) (.int .u32 (k : Int)) (.slice s.A s.n s.c)).run Tryz.prog w = .ok () w' ∧ PossAt w' P b (fun x => if x = k then some l else L x) ∧ Fr (fun x => x = b) w w' ∧ w'.heap.size = w.heap.size := by
  obtain ⟨ks, sv, hM, hl⟩ := h
  obtain ⟨es, clock, h1, h2⟩ := hM.update idKey possT k s.val
  have e : (fun x => (if x = k then some l else L x).map fun _ => (if x = k then s else sv x).val) = updM (fun k => (L k).map fun _ => (sv k).val) k (some s.val) := by
    funext x
    unfold updM
    by_cases hx : x = k <;> simp [hx]
  rw [← e] at h2
  have hf : Fr (fun x => x = b) w (ChangeMaps.setBlock w b (.map es clock)) := (Fr.refl (fun x => x = b) w).setBlock (.inl rfl) _
  obtain ⟨es', cl', g1, _⟩ := hM
  refine ⟨ChangeMaps.setBlock w b (.map es clock), h1, ⟨_, fun x => if x = k then s else sv x, h2, fun x m hx => ?_⟩, hf, by simp [ChangeMaps.setBlock]⟩
  by_cases hxk : x = k
  · simp only [if_pos hxk, Option.some.injEq] at hx ⊢
    subst hx
    exact ⟨PossAt.setBlock g1 hr, hP⟩
  · simp only [if_neg hxk] at hx ⊢
    exact ⟨PossAt.setBlock g1 (hl x m hx).1, (hl x m hx).2⟩
theorem PossAt.del {P : Nat → Prop} {w : World} {b : Nat} {L : Nat → Option (List Nat)} (h : PossAt w P b L) (k : Nat) (ty : TypeId) :
    ∃ w', (Builtin.delete_ #[219, 162] ty #[.map (some b), .int .u32 (k : Int)]).run Tryz.prog w = .ok (.tuple #[]) w' ∧ PossAt w' P b (fun x => if x = k then none else L x) ∧ Fr (fun x => x = b) w w' ∧ w'.heap.size = w.heap.size := by
  obtain ⟨ks, sv, hM, hl⟩ := h
  obtain ⟨es, clock, h1, h2⟩ := hM.delete idKey possT k ty
  have e : (fun x => (if x = k then none else L x).map fun _ => (sv x).val) = updM (fun k => (L k).map fun _ => (sv k).val) k none := by
    funext x
    unfold updM
    by_cases hx : x = k <;> simp [hx]
  rw [← e] at h2
  obtain ⟨es', cl', g1, _⟩ := hM
  refine ⟨ChangeMaps.setBlock w b (.map es clock), h1, ⟨_, sv, h2, fun x m hx => ?_⟩, (Fr.refl (fun x => x = b) w).setBlock (.inl rfl) _, by simp [ChangeMaps.setBlock]⟩
  by_cases hxk : x = k
  · simp [if_pos hxk] at hx
  · simp only [if_neg hxk] at hx
    exact ⟨PossAt.setBlock g1 (hl x m hx).1, (hl x m hx).2⟩
end
section
open Go Go.RowKit Go.MapKept Bth
open Go.ChangeMaps (setBlock)
set_option maxRecDepth 100000
structure Al where
  regs : List Nat
  prio : Nat → Option Int
  al : Nat → Option Nat
  edges : List (Nat × Nat)
  poss : Nat → Option (List Nat)
structure AlG where
  a : Nat
  bp : Nat
  ba : Nat
  bq : Nat
  sr : SV
  se : SV
  eb : List Nat
def AlG.cells (g : AlG) : Array Value := #[.slice g.sr.A g.sr.n g.sr.c, .map (some g.bp), .map (some g.ba), .slice g.se.A g.se.n g.se.c, .map (some g.bq)]
def edgeCells (e : Nat × Nat) : Array Value := #[.int .u32 (e.1 : Int), .int .u32 (e.2 : Int)]
def PrioAt (w : World) (b : Nat) (f : Nat → Option Int) : Prop := ∃ ks, MapAt w b idV ks fun k => (f k).map fun p => .int .i64 p
structure AlAt (w : World) (P : Nat → Prop) (x : Al) (g : AlG) : Prop where
  ha : w.heap[g.a]? = some (.cells g.cells 221 (0, 0))
  regs : w.ownsRow 0 162 1 g.sr.val x.regs.length (x.regs.map idV)
  prio : PrioAt w g.bp x.prio
  al : IdMap w g.ba x.al
  edges : w.ownsRow 0 269 1 g.se.val x.edges.length (g.eb.map ptr)
  elen : g.eb.length = x.edges.length
  eat : ∀ (k b : Nat) (e : Nat × Nat), g.eb[k]? = some b → x.edges[k]? = some e → w.heap[b]? = some (.cells (edgeCells e) 271 (0, 0))
  poss : PossAt w P g.bq x.poss
  ne1 : g.bp ≠ g.ba
  ne2 : g.bp ≠ g.bq
  ne3 : g.ba ≠ g.bq
  pa : P g.a
  pp : P g.bp
  pl : P g.ba
  pq : P g.bq
  pr : ∀ c, g.sr.val.ownBlock = some c → P c
  ps : ∀ c, g.se.val.ownBlock = some c → P c
  pe : ∀ b ∈ g.eb, P b
  lt : ∀ c, P c → c < w.heap.size
theorem PrioAt.fr {S : Nat → Prop} {w w' : World} {b : Nat} {f : Nat → Option Int} (h : PrioAt w b f) (hf : Fr S w w') (hs : ¬ S b) : PrioAt w' b f := by obtain ⟨ks, hm⟩ := h; exact ⟨ks, hm.fr hf hs⟩
theorem AlAt.fr {w w' : World} {P S : Nat → Prop} {x : Al} {g : AlG} (h : AlAt w P x g) (hf : Fr S w w') (hs : ∀ c, P c → ¬ S c) : AlAt w' P x g :=
  { h with
    ha := hf.heap h.ha (hs _ h.pa)
    regs := own_fr h.regs hf fun c hc => hs c (h.pr c hc)
    prio := h.prio.fr hf (hs _ h.pp)
    al := h.al.fr hf (hs _ h.pl)
    edges := own_fr h.edges hf fun c hc => hs c (h.ps c hc)
    eat := fun k b e h1 h2 => hf.heap (h.eat k b e h1 h2) (hs _ (h.pe b (List.mem_of_getElem? h1)))
    poss := h.poss.frP hf hs (hs _ h.pq)
    lt := fun c hc => Nat.lt_of_lt_of_le (h.lt c hc) hf.size }
theorem AlAt.still {w w' : World} {P : Nat → Prop} {x : Al} {g : AlG} (h : AlAt w P x g) (hf : Fr nope w w') : AlAt w' P x g := h.fr hf fun _ _ x => x
theorem AlAt.more {w : World} {P P' : Nat → Prop} {x : Al} {g : AlG} (h : AlAt w P x g) (hp : ∀ c, P c → P' c) (hl : ∀ c, P' c → c < w.heap.size) : AlAt w P' x g :=
  { h with
    poss := h.poss.mono hp
    pa := hp _ h.pa
    pp := hp _ h.pp
    pl := hp _ h.pl
    pq := hp _ h.pq
    pr := fun c hc => hp c (h.pr c hc)
    ps := fun c hc => hp c (h.ps c hc)
    pe := fun b hb => hp b (h.pe b hb)
    lt := hl }
def wider (P : Nat → Prop) (w w' : World) : Nat → Prop := fun c => P c ∨ w.heap.size ≤ c ∧ c < w'.heap.size
theorem wider.trans {P : Nat → Prop} {w1 w2 w3 : World} (h : w2.heap.size ≤ w3.heap.size) (c : Nat) (hc : wider (wider P w1 w2) w2 w3 c) (h12 : w1.heap.size ≤ w2.heap.size) : wider P w1 w3 c := by
  unfold wider at *
  rcases hc with (hc | hc) | hc
  · exact .inl hc
  · exact .inr ⟨hc.1, by omega⟩
  · exact .inr ⟨by omega, hc.2⟩
theorem AlAt.c0 {w : World} {P : Nat → Prop} {x : Al} {g : AlG} (h : AlAt w P x g) : w.cell? ⟨g.a, 0, none⟩ = some (.slice g.sr.A g.sr.n g.sr.c) := by rw [cell_of_row w g.a 0 _ _ (0, 0) h.ha]; rfl
theorem AlAt.c1 {w : World} {P : Nat → Prop} {x : Al} {g : AlG} (h : AlAt w P x g) : w.cell? ⟨g.a, 1, none⟩ = some (.map (some g.bp)) := by rw [cell_of_row w g.a 1 _ _ (0, 0) h.ha]; rfl
theorem AlAt.c2 {w : World} {P : Nat → Prop} {x : Al} {g : AlG} (h : AlAt w P x g) : w.cell? ⟨g.a, 2, none⟩ = some (.map (some g.ba)) := by rw [cell_of_row w g.a 2 _ _ (0, 0) h.ha]; rfl
theorem AlAt.c3 {w : World} {P : Nat → Prop} {x : Al} {g : AlG} (h : AlAt w P x g) : w.cell? ⟨g.a, 3, none⟩ = some (.slice g.se.A g.se.n g.se.c) := by rw [cell_of_row w g.a 3 _ _ (0, 0) h.ha]; rfl
theorem AlAt.c4 {w : World} {P : Nat → Prop} {x : Al} {g : AlG} (h : AlAt w P x g) : w.cell? ⟨g.a, 4, none⟩ = some (.map (some g.bq)) := by rw [cell_of_row w g.a 4 _ _ (0, 0) h.ha]; rfl
theorem AlAt.rn {w : World} {P : Nat → Prop} {x : Al} {g : AlG} (h : AlAt w P x g) : g.sr.n = x.regs.length := by
  obtain ⟨A, c, e, _, _⟩ := own_slice h.regs
  unfold SV.val at e
  injection e with _ e _
theorem AlAt.en {w : World} {P : Nat → Prop} {x : Al} {g : AlG} (h : AlAt w P x g) : g.se.n = x.edges.length := by
  obtain ⟨A, c, e, _, _⟩ := own_slice h.edges
  unfold SV.val at e
  injection e with _ e _
theorem cast_beq (a b : Nat) : ((a : Int) == (b : Int)) = (a == b) := by
  rw [Bool.eq_iff_iff, beq_iff_eq, beq_iff_eq]
  omega
theorem kind_pred (w : World) (b v : Nat) (xs : List Nat) (hb : b < w.heap.size) (hc : w.cell? ⟨b, 0, none⟩ = some (.int .u32 (v : Int))) :
    Pred w 131 #[.pointer (some ⟨b, 0, none⟩)] (fun r => kindOf v == kindOf r) xs := by
  intro W r _ hf
  have hcW := hf.cell hc (fun x => x)
  have hbW : b < W.heap.size := Nat.lt_of_lt_of_le hb hf.size
  clear hc hb hf
  go_enter Tryz.func131, Tryz.ntmps131
  go_wp2_with (go_at_call 109; refine (IDKind_calls _ _).mono ?_; rintro e w2 ⟨rfl, rfl⟩)
  go_ret
  exact ⟨congrArg (fun b => Ending.returned (Value.bool b)) (cast_beq _ _), Fr.refl _ _⟩
theorem ne_pred (w : World) (b p : Nat) (xs : List Nat) (hb : b < w.heap.size) (hc : w.cell? ⟨b, 0, none⟩ = some (.int .u32 (p : Int))) :
    Pred w 159 #[.pointer (some ⟨b, 0, none⟩)] (fun r => r != p) xs := by
  intro W r _ hf
  have hcW := hf.cell hc (fun x => x)
  have hbW : b < W.heap.size := Nat.lt_of_lt_of_le hb hf.size
  clear hc hb hf
  go_enter Tryz.func159, Tryz.ntmps159
  go_wp2
  go_ret
  exact ⟨congrArg (fun b => Ending.returned (Value.bool (!b))) (cast_beq _ _), Fr.refl _ _⟩
theorem enter_kind (args : Array Value) (w : World) : (callFunc 131 args).run Tryz.prog w = .ok (.enter 131 args) w := enters_of Tryz.func131 (by kernel_rfl) rfl args w
theorem enter_ne (args : Array Value) (w : World) : (callFunc 159 args).run Tryz.prog w = .ok (.enter 159 args) w := enters_of Tryz.func159 (by kernel_rfl) rfl args w
def regsFor (x : Al) (v : Nat) : List Nat := x.regs.filter fun r => kindOf v == kindOf r
theorem possible_calls (w : World) (P : Nat → Prop) (x : Al) (g : AlG) (v : Nat) (h : AlAt w P x g) (hl : x.regs.length ≤ 1073741824) :
    Calls Tryz.prog 108 #[.pointer (some ⟨g.a, 0, none⟩), .int .u32 (v : Int)] w (GivesOwn w 162 ((regsFor x v).map idV)) := by
  obtain ⟨a, bp, ba, bq, ⟨rA, rn, rc⟩, se, eb⟩ := g
  obtain rfl : rn = x.regs.length := h.rn
  have hc0 := h.c0
  have halt := h.lt _ h.pa
  have hS : Sl w rA x.regs.length (x.regs.map idV) := own_Sl (c := rc) h.regs
  simp only at hc0 halt hS
  clear h
  go_enter Tryz.func108, Tryz.ntmps108
  go_wp2_with (refine (filter_calls _ rA rc x.regs (hS.nope ((Fr.refl nope _).alloc _)) hl _ _ (fun r => kindOf v == kindOf r) enter_kind (kind_pred _ _ v _ (by simp) (by simp))).mono ?_; rintro e w2 ⟨u, rfl, hown, hf⟩)
  go_ret
  exact ⟨u, rfl, own_le hown (by simp), ((Fr.refl nope _).alloc _).then hf⟩
end
end Go.Proofs.YtbaihlfnbdifgaaGreat
