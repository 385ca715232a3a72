/- Proves 'FnBoundApartUptoSaid': for every list of nodes whose reading is of bulk at most 1048576, the law FnBoundApart answers true and the argument reads behind the call as it read before. Its condition: that bulk (the given form 'Upto'), nothing else. -/
import Derived.Test.YtbaihlfnbdifgaaGreatRows
import Derived.Deep.Strs
import Derived.WalkKit
import Derived.ProofKit
import Derived.OpenShut
import Derived.JoinedCond
import Derived.Carry
import Derived.Test.YtbaihlfnbdifgaaGreatP22
import Derived.Test.YtbaihlfnbdifgaaGreatP25
namespace Go.Proofs.YtbaihlfnbdifgaaGreat
section
open Go Go.RowKit Bth
set_option maxRecDepth 100000
def ApartP (is : List PI) (O : Nat → TL) (l : List (Nat × Nat)) : Prop := ∀ (i : Nat) (p : PI), is[i]? = some p → ∀ g ∈ outGs p.out, ∀ x ∈ O i, x.1 ≠ g.id → x.2 &&& g.spec ≠ 0 → aid l x.1 ≠ aid l g.id
theorem apart_of {ns : List PN} {f : Nat → Option Nat} {l : List (Nat × Nat)} {sc : Nat → List (Option Nat)} {I O : Nat → TL} (hr : AFRes ns (some f)) (hok : AFOk ns) (he : ofPairs l = f) (hG : GraphP ns sc) (hS : SInv (lfOf (insP ns) sc) I O) (ha : okA (insP ns)) : ApartP (insP ns) O l := by
  obtain ⟨sc', hG', h⟩ := af_apart hr hok
  intro i p hp g hg x hx hne hm
  have hi := (List.getElem?_eq_some_iff.1 hp).1
  obtain ⟨b, hb⟩ := Nat.exists_testBit_of_ne_zero hm
  rw [Nat.testBit_and, Bool.and_eq_true] at hb
  have hl := hS.live ha hi (c := x.1) (b := b) (by rw [tv_of_mem (hS.tO i) hx]; exact hb.1)
  rw [LiveOutP.congr (hG.uniq hG')] at hl
  have := h i p g x.1 b hp hg hne hl hb.2
  unfold aid
  rw [he]
  exact this
theorem row_at {w : World} {b n : Nat} {I : Nat → TL} (h : RowT w b n I) {k : Nat} (hk : k < n) : b < w.heap.size ∧ ∃ A c, w.cell? ⟨b, k, none⟩ = some (.slice A (I k).length c) ∧ TlAt w A (I k) := by
  obtain ⟨cs, h1, h2, h3⟩ := h
  obtain ⟨A, c, h4, h5⟩ := h3 k hk
  exact ⟨lt_of_heap h1, A, c, by rw [cell_of_row _ _ k _ _ (0, 0) h1]; exact h4, h5⟩
set_option maxHeartbeats 4000000 in
theorem FnBoundApart_calls (w : World) (B : Nat) (s : SV) (ns : List PN) (hN : NodesAt w B s ns) (hB : B ≤ w.heap.size) (hb : BulkP ns) : Calls Tryz.prog 3 #[s.val] w (GivesB w true) := by
  have hZ := zz5_calls w B s ns hN
  have hA := fun W (hW : Fr nope w W) => allocated_calls W B s ns (hN.fr hW (fun _ _ x => x)) (Nat.le_trans hB hW.size) hb
  have hL := fun W (hW : Fr nope w W) (hok : ns.all okN = true) => SpLiveness_calls W B s ns (hN.fr hW (fun _ _ x => x)) hok
  have hI := fun W (hW : Fr nope w W) => Instrs_calls W B s ns (hN.fr hW (fun _ _ x => x))
  have hat := fun (hok : ns.all okN = true) => insP_at hN hok
  have hlen : (insP ns).length ≤ 1048576 := by
    have h1 := hN.few
    have : (insP ns).length ≤ ns.length := by unfold insP; rw [List.length_map]; exact List.length_filter_le _ _
    omega
  obtain ⟨A, n, c⟩ := s
  simp only [SV.val] at hZ hA hL hI ⊢
  clear hN
  replace hA := Lib.hid hA
  replace hL := Lib.hid hL
  replace hI := Lib.hid hI
  replace hat := Lib.hid hat
  replace hlen := Lib.hid hlen
  replace hb := Lib.hid hb
  go_enter Tryz.func3, Tryz.ntmps3
  go_wp2_with fail
  refine hZ.mono ?_
  rintro e w1 ⟨hf1, b, rfl⟩
  clear hZ
  cases b with
  | false =>
    go_wp2
    go_ret
    exact ⟨rfl, hf1⟩
  | true =>
  go_wp2_with fail
  refine (hA.out _ hf1).mono ?_
  rintro e w2 ⟨hf2, ⟨x, y, rfl⟩ | ⟨A2, c2, l, A3, c3, ns', f, rfl, hpa, hll, hef, haf, hao, hu, hN', hBN⟩⟩
  · go_wp2
    go_ret
    exact ⟨rfl, hf1.then hf2⟩
  have hn2 := hf1.then hf2
  have hok := hu.2.1
  clear hN' hBN
  replace hef := Lib.hid hef
  replace haf := Lib.hid haf
  replace hao := Lib.hid hao
  replace hu := Lib.hid hu
  go_wp2_with fail
  refine (hL.out _ hn2 hok).mono ?_
  rintro e w3 ⟨hf3, ⟨bi, bo, I, O, sc, rfl, hG, hRI, hRO, hSI, _⟩ | ⟨rfl, hbad⟩⟩
  rotate_left
  · obtain ⟨sc, hG, _⟩ := af_apart haf.out hao.out
    exact absurd hG (hbad sc)
  have hat := hat.out hok
  have hap := Lib.hid (apart_of haf.out hao.out hef.out hG hSI (okA_of hat))
  have hto := Lib.hid hSI.tO
  have hn3 := hn2.then hf3
  clear hG hRI hSI
  replace hat := Lib.hid hat
  replace hok := Lib.hid hok
  go_wp2_with fail
  refine (hI.out _ hn3).mono ?_
  rintro e w4 ⟨hf4, Aa, ca, rfl, hins⟩
  have hn4 := hn3.then hf4
  have hRO4 := hRO.nope hf4
  have hpa4 := hpa.fr (hf3.then hf4)
  clear hRO hpa
  obtain ⟨is, his⟩ : ∃ is, is = insP ns := ⟨_, rfl⟩
  rw [← his] at hins hlen hat hap hRO4 ⊢
  replace his := Lib.hid his
  have hlen := hlen.out
  go_wp2
  go_loopg [52] is.length (fun m c52 wx => ∃ i : Nat, i ≤ is.length ∧ c52 = .int .i64 (i : Int) ∧ Fr nope w4 wx ∧ m = is.length - i)
  case atStart => exact ⟨0, Nat.zero_le _, rfl, Fr.refl _ _, rfl⟩
  case round =>
    obtain ⟨i, hi, rfl, hf, rfl⟩ := hrel
    by_cases hilt : i < is.length
    · obtain ⟨p, hx⟩ : ∃ x, is[i]? = some x := ⟨_, List.getElem?_eq_getElem hilt⟩
      obtain ⟨b, off, hBe, hbl, hr⟩ := (Rw.nope hins hf).at_ PI.list_len hx
      subst hBe
      obtain ⟨hpa, hpo⟩ := hat.out p (List.mem_of_getElem? hx)
      have hpa := hpa.fr (hn4.then hf) (fun x hx e => e)
      have hgk := Lib.hid (hpa.okGs hpo).2
      have hgl : (outGs p.out).length ≤ 1048576 := by have := outGs_le p.out; have := hpa.few.2.2.2.1; omega
      have hapi := Lib.hid (hap.out i p hx)
      obtain ⟨hbo4, At, ct, hct4, hTt4⟩ := row_at hRO4 hilt
      have hTd := hto.out i
      replace hx := Lib.hid hx
      go_wp2_with (refine wpList_load_mid rfl _ _ rfl b (off + i * 10) rfl p.cells.toList _ hr Tryz.underlying38 rfl (by kernel_rfl) ?_)
      refine (spOutputRegisters_calls wr B p hpa hpo).mono ?_
      rintro e w5 ⟨hf5, Ag, cg, rfl, hown5⟩
      have hrow := Rw.of_own hown5
      have hn5 := hf.then hf5
      obtain ⟨gs, hgs⟩ : ∃ gs, gs = outGs p.out := ⟨_, rfl⟩
      rw [← hgs] at hrow hgk hgl hapi ⊢
      obtain ⟨T, hT⟩ : ∃ T, T = O i := ⟨_, rfl⟩
      rw [← hT] at hapi hct4 hTt4 hTd
      have hTl := hTd.len
      replace hTd := Lib.hid hTd
      replace hct4 := Lib.hid hct4
      replace hT := Lib.hid hT
      clear hr hpa hown5 hgs
      go_wp2
      go_loopg [65] gs.length (fun m c65 wx => ∃ j : Nat, j ≤ gs.length ∧ c65 = .int .i64 (j : Int) ∧ Fr nope w5 wx ∧ m = gs.length - j)
      case atStart => exact ⟨0, Nat.zero_le _, rfl, Fr.refl _ _, rfl⟩
      case round =>
        obtain ⟨j, hj, rfl, hg5, rfl⟩ := hrel
        by_cases hjl : j < gs.length
        · obtain ⟨g, hg⟩ : ∃ g, gs[j]? = some g := ⟨_, List.getElem?_eq_getElem hjl⟩
          obtain ⟨br, ro, hRe, hrb, hrr⟩ := (hrow.nope hg5).at_ G.cells_len hg
          subst hRe
          have hgm := List.mem_of_getElem? hg
          obtain ⟨_, hgo⟩ := hgk.out g hgm
          have hapg := Lib.hid (hapi.out g hgm)
          have hR := fun W => RegID_calls W g hgo
          have hM := fun W => spMask_calls W g.spec
          have hg16 := hgo.spec
          have hor : ∀ x2 : Nat, x2 < 65536 → bits .and .u16 (x2 : Int) (g.spec : Int) = ((x2 &&& g.spec : Nat) : Int) := fun x2 h => u16_and x2 g.spec h hg16
          generalize g.id = gid at hR hapg
          replace hor := Lib.hid hor
          unfold G.agg at hR
          clear hg hgm hgo
          replace hR := Lib.hid hR
          replace hM := Lib.hid hM
          go_upto_region 19 with (first
            | (refine wpList_load_mid rfl _ _ rfl br (ro + j * 4) rfl g.cells _ hrr Tryz.underlying41 rfl (by kernel_rfl) ?_)
            | (refine wpList_storeRow (b := wr.heap.size) (cells := #[.bool g.virt, .int .u8 (g.kind : Int), .int .u16 (g.idx : Int), .int .u16 (g.spec : Int)]) rfl rfl rfl rfl (heap_alloc_new _ _) rfl (by kernel_rfl) (by kernel_rfl) ?_; intro w8 hb8 hf8))
          have hn8 : Fr nope wr w8 := ((Fr.refl nope wr).alloc _).then_new hf8 (fun x hx e => by omega)
          obtain ⟨bg, hbg⟩ : ∃ x, x = wr.heap.size := ⟨_, rfl⟩
          rw [← hbg] at hb8 ⊢
          have hcs : ∀ W, Fr nope w8 W → W.cell? ⟨bg, 0, none⟩ = some (.bool g.virt) ∧ W.cell? ⟨bg, 1, none⟩ = some (.int .u8 (g.kind : Int)) ∧ W.cell? ⟨bg, 2, none⟩ = some (.int .u16 (g.idx : Int)) ∧ W.cell? ⟨bg, 3, none⟩ = some (.int .u16 (g.spec : Int)) := fun W hW => by
            have hbW := hW.heap hb8 (fun x => x)
            exact ⟨cell_of_row _ _ 0 _ _ (0, 0) hbW, cell_of_row _ _ 1 _ _ (0, 0) hbW, cell_of_row _ _ 2 _ _ (0, 0) hbW, cell_of_row _ _ 3 _ _ (0, 0) hbW⟩
          have hd8 := (Fr.refl nope w8).drew
          have hS8 := hcs _ hd8
          replace hcs := Lib.hid hcs
          replace hbg := Lib.hid hbg
          clear hb8 hf8 hrr
          obtain ⟨gv, gk, gi, gsp⟩ := g
          simp only at hapg hR hM hor hcs hS8 ⊢
          go_region_held3 (fun W => W.cell? ⟨bg, 0, none⟩ = some (.bool gv) ∧ W.cell? ⟨bg, 1, none⟩ = some (.int .u8 (gk : Int)) ∧ W.cell? ⟨bg, 2, none⟩ = some (.int .u16 (gi : Int)) ∧ W.cell? ⟨bg, 3, none⟩ = some (.int .u16 (gsp : Int))) (assumption)
            ((first
              | (go_at_call 10; refine (hR.out _).mono ?_; rintro e w9 ⟨rfl, hf9⟩; have hn9 := hd8.then hf9; have hS9 := hcs.out _ hn9)
              | (go_at_call 9; refine (hM.out _).mono ?_; rintro e w10 ⟨rfl, rfl⟩)))
          all_goals
            have hg9 := hg5.then (hn8.then hn9)
            have hct9 := (hn5.then hg9).cell hct4.out (fun x => x)
            clear hS8 hS9
            go_wp2
            go_loopg [79] T.length (fun m c79 wx => ∃ k : Nat, k ≤ T.length ∧ c79 = .int .i64 (k : Int) ∧ Fr nope w5 wx ∧ m = T.length - k)
            case atStart => exact ⟨0, Nat.zero_le _, rfl, hg9, rfl⟩
            case round =>
              clear hct9
              obtain ⟨k, hk, rfl, hg6, rfl⟩ := hrel
              by_cases hkl : k < T.length
              · obtain ⟨⟨x1, x2⟩, hx⟩ : ∃ x, T[k]? = some x := ⟨_, List.getElem?_eq_getElem hkl⟩
                obtain ⟨bt, ot, hAe, hbt, hrt⟩ := (Rw.nope hTt4 (hn5.then hg6)).at_ tlV_len hx
                subst hAe
                have hxm := List.mem_of_getElem? hx
                have hx16 := (hTd.out.bound _ hxm).2.1
                have hax := hapg.out (x1, x2) hxm
                have hba := hor.out x2 hx16
                simp only at hax hba hx16
                replace hax := Lib.hid hax
                replace hrt : wr.rangeAt bt (ot + k * 2) [.int .u32 (x1 : Int), .int .u16 (x2 : Int)] := hrt
                clear hx hxm
                by_cases e1 : x1 = gid
                · subst e1
                  have e1' : ((x1 : Int) == (x1 : Int)) = true := by simp
                  clear hax hba
                  go_wp2_with (first
                      | (refine wpList_load_mid rfl _ _ rfl bt (ot + k * 2) rfl [.int .u32 (x1 : Int), .int .u16 (x2 : Int)] _ hrt Tryz.underlying47 rfl (by kernel_rfl) ?_)
                      | (refine wpList_storeRow (b := wr.heap.size) (cells := #[.int .u32 (x1 : Int), .int .u16 (x2 : Int)]) rfl rfl rfl rfl (heap_alloc_new _ _) rfl (by kernel_rfl) (by kernel_rfl) ?_; intro w11 hb11 hf11; have hn11 : Fr nope wr w11 := ((Fr.refl nope wr).alloc _).then_new hf11 (fun x hx e => by omega); have hd0 : w11.cell? ⟨wr.heap.size, 0, none⟩ = some (.int .u32 (x1 : Int)) := cell_of_row _ _ 0 _ _ (0, 0) hb11; have hd1 : w11.cell? ⟨wr.heap.size, 1, none⟩ = some (.int .u16 (x2 : Int)) := cell_of_row _ _ 1 _ _ (0, 0) hb11; clear hb11))
                  go_roundg (T.length - (k + 1))
                  case measure => omega
                  case rel => exact ⟨k + 1, by omega, by go_num, hg6.then hn11, rfl⟩
                · have e1' : ((x1 : Int) == (gid : Int)) = false := beq_eq_false_iff_ne.2 (by omega)
                  have e1a : ¬ ((x1 : Int) = (gid : Int)) := by omega
                  by_cases e2 : x2 &&& gsp = 0
                  · rw [e2] at hba
                    clear hax
                    replace e1 := Lib.hid e1
                    replace e2 := Lib.hid e2
                    go_wp2_with (first
                        | (refine wpList_load_mid rfl _ _ rfl bt (ot + k * 2) rfl [.int .u32 (x1 : Int), .int .u16 (x2 : Int)] _ hrt Tryz.underlying47 rfl (by kernel_rfl) ?_)
                        | (refine wpList_storeRow (b := wr.heap.size) (cells := #[.int .u32 (x1 : Int), .int .u16 (x2 : Int)]) rfl rfl rfl rfl (heap_alloc_new _ _) rfl (by kernel_rfl) (by kernel_rfl) ?_; intro w11 hb11 hf11; have hn11 : Fr nope wr w11 := ((Fr.refl nope wr).alloc _).then_new hf11 (fun x hx e => by omega); have hd0 : w11.cell? ⟨wr.heap.size, 0, none⟩ = some (.int .u32 (x1 : Int)) := cell_of_row _ _ 0 _ _ (0, 0) hb11; have hd1 : w11.cell? ⟨wr.heap.size, 1, none⟩ = some (.int .u16 (x2 : Int)) := cell_of_row _ _ 1 _ _ (0, 0) hb11; clear hb11))
                    all_goals
                      go_roundg (T.length - (k + 1))
                      case measure => omega
                      case rel => exact ⟨k + 1, by omega, by go_num, hg6.then hn11, rfl⟩
                  · have ht : (((x2 &&& gsp : Nat) : Int) == 0) = false := by rw [beq_eq_false_iff_ne]; omega
                    have hne := hax.out e1 e2
                    have e3 : ((aid l x1 : Int) == (aid l gid : Int)) = false := beq_eq_false_iff_ne.2 (by omega)
                    replace e1 := Lib.hid e1
                    replace e2 := Lib.hid e2
                    replace hne := Lib.hid hne
                    have hta : ¬ (((x2 &&& gsp : Nat) : Int) = 0) := fun h => e2 (Int.ofNat_inj.1 h)
                    have e3a : ¬ ((aid l x1 : Int) = (aid l gid : Int)) := fun h => hne (Int.ofNat_inj.1 h)
                    generalize hX : x2 &&& gsp = xm at ht hta hba
                    replace hX := Lib.hid hX
                    go_wp2_with (first
                        | (refine wpList_load_mid rfl _ _ rfl bt (ot + k * 2) rfl [.int .u32 (x1 : Int), .int .u16 (x2 : Int)] _ hrt Tryz.underlying47 rfl (by kernel_rfl) ?_)
                        | (refine wpList_storeRow (b := wr.heap.size) (cells := #[.int .u32 (x1 : Int), .int .u16 (x2 : Int)]) rfl rfl rfl rfl (heap_alloc_new _ _) rfl (by kernel_rfl) (by kernel_rfl) ?_; intro w11 hb11 hf11; have hn11 : Fr nope wr w11 := ((Fr.refl nope wr).alloc _).then_new hf11 (fun x hx e => by omega); have hd0 : w11.cell? ⟨wr.heap.size, 0, none⟩ = some (.int .u32 (x1 : Int)) := cell_of_row _ _ 0 _ _ (0, 0) hb11; have hd1 : w11.cell? ⟨wr.heap.size, 1, none⟩ = some (.int .u16 (x2 : Int)) := cell_of_row _ _ 1 _ _ (0, 0) hb11; clear hb11))
                    refine (AllocatedID_calls w11 A2 c2 l x1 (hpa4.fr (hn5.then (hg6.then hn11))) hll).mono ?_
                    rintro e w12 ⟨rfl, hf12⟩
                    have hn12 := hn11.then hf12
                    clear hd0 hd1
                    go_wp2_with fail
                    refine (AllocatedID_calls w12 A2 c2 l gid (hpa4.fr (hn5.then (hg6.then hn12))) hll).mono ?_
                    rintro e w13 ⟨rfl, hf13⟩
                    go_wp2
                    all_goals
                      go_roundg (T.length - (k + 1))
                      case measure => omega
                      case rel => exact ⟨k + 1, by omega, by go_num, hg6.then (hn12.then hf13), rfl⟩
              · go_wp2
                go_roundg (gs.length - (j + 1))
                case measure => omega
                case rel => exact ⟨j + 1, by omega, by go_num, hg6, rfl⟩
        · go_wp2
          go_roundg (is.length - (i + 1))
          case measure => omega
          case rel => exact ⟨i + 1, by omega, by go_num, hn5.then hg5, rfl⟩
    · go_wp2
      go_ret
      exact ⟨rfl, hn4.then hf⟩
end
section
open Go Go.RowKit Go.ChangeShapes Go.WideShapes Go.Deep Bth
set_option maxRecDepth 100000
section
variable {H : Type} {enc : TypeId × Value → H} {w : World} {n : Nat}
theorem bulk_one (d : DataW H) : 1 ≤ Rows.uptoBulk d := by
  cases d with
  | lit l => cases l <;> simp [Rows.uptoBulk]
  | _ => simp [Rows.uptoBulk]
theorem bulk_len (l : List (DataW H)) : l.length ≤ Rows.uptoBulkAll l := by
  induction l with
  | nil => simp [Rows.uptoBulkAll]
  | cons x r ih => have := bulk_one x; simp only [Rows.uptoBulkAll, List.length_cons]; omega
theorem bulk_part {d : DataW H} {l : List (DataW H)} (h : d ∈ l) : Rows.uptoBulk d ≤ Rows.uptoBulkAll l := by
  induction l with
  | nil => cases h
  | cons x r ih =>
    simp only [Rows.uptoBulkAll]
    cases List.mem_cons.1 h with
    | inl e => subst e; omega
    | inr e => have := ih e; omega
theorem cells1 : (Tryz.prog.cellsOf 3 = 1 ∧ Tryz.prog.cellsOf 9 = 1 ∧ Tryz.prog.cellsOf 4 = 1 ∧ Tryz.prog.cellsOf 5 = 1) ∧ (Tryz.prog.cellsOf 39 = 1 ∧ Tryz.prog.cellsOf 61 = 1 ∧ Tryz.prog.cellsOf 21 = 1 ∧ Tryz.prog.cellsOf 35 = 1) ∧
    (Tryz.prog.cellsOf 36 = 1 ∧ Tryz.prog.cellsOf 41 = 4 ∧ Tryz.prog.cellsOf 63 = 3 ∧ Tryz.prog.cellsOf 65 = 24 ∧ Tryz.prog.cellsOf 38 = 10 ∧ Tryz.prog.cellsOf 50 = 13) := by
  refine ⟨⟨?_, ?_, ?_, ?_⟩, ⟨?_, ?_, ?_, ?_⟩, ?_, ?_, ?_, ?_, ?_, ?_⟩ <;> kernel_rfl
theorem rd_u8 {c : Value} {x : DataW H × List MemPlace} (h : DataW.trod enc Tryz.prog w 0 (fun _ => true) true n 5 [c] = some x) : ∃ m : Nat, c = .int .u8 (m : Int) ∧ m < 256 := by
  obtain ⟨z, h1, _, h3⟩ := DataW.trod_int Tryz.underlying5 h
  have hz : 0 ≤ z ∧ z < 256 := by
    simp [Lit.wf, IntKind.min, IntKind.max, IntKind.signed, IntKind.bits] at h3
    omega
  refine ⟨z.toNat, ?_, by omega⟩
  have e : ((z.toNat : Nat) : Int) = z := by omega
  rw [e]
  simpa using h1
theorem rd_u16 {c : Value} {x : DataW H × List MemPlace} (h : DataW.trod enc Tryz.prog w 0 (fun _ => true) true n 39 [c] = some x) : ∃ m : Nat, c = .int .u16 (m : Int) ∧ m < 65536 := by
  obtain ⟨z, h1, _, h3⟩ := DataW.trod_int Tryz.underlying39 h
  have hz : 0 ≤ z ∧ z < 65536 := by
    simp [Lit.wf, IntKind.min, IntKind.max, IntKind.signed, IntKind.bits] at h3
    omega
  refine ⟨z.toNat, ?_, by omega⟩
  have e : ((z.toNat : Nat) : Int) = z := by omega
  rw [e]
  simpa using h1
theorem rd_u64 {c : Value} {x : DataW H × List MemPlace} (h : DataW.trod enc Tryz.prog w 0 (fun _ => true) true n 61 [c] = some x) : ∃ m : Nat, c = .int .u64 (m : Int) ∧ m < 18446744073709551616 := by
  obtain ⟨z, h1, _, h3⟩ := DataW.trod_int Tryz.underlying61 h
  have hz : 0 ≤ z ∧ z < 18446744073709551616 := by
    simp [Lit.wf, IntKind.min, IntKind.max, IntKind.signed, IntKind.bits] at h3
    omega
  refine ⟨z.toNat, ?_, by omega⟩
  have e : ((z.toNat : Nat) : Int) = z := by omega
  rw [e]
  simpa using h1
theorem rd_i64 {c : Value} {x : DataW H × List MemPlace} (h : DataW.trod enc Tryz.prog w 0 (fun _ => true) true n 3 [c] = some x) : ∃ z : Int, c = .int .i64 z := by
  obtain ⟨z, h1, _, _⟩ := DataW.trod_int Tryz.underlying3 h
  exact ⟨z, by simpa using h1⟩
theorem rd_i32 {c : Value} {x : DataW H × List MemPlace} (h : DataW.trod enc Tryz.prog w 0 (fun _ => true) true n 21 [c] = some x) : ∃ z : Int, c = .int .i32 z := by
  obtain ⟨z, h1, _, _⟩ := DataW.trod_int Tryz.underlying21 h
  exact ⟨z, by simpa using h1⟩
theorem rd_bool {c : Value} {x : DataW H × List MemPlace} (h : DataW.trod enc Tryz.prog w 0 (fun _ => true) true n 4 [c] = some x) : ∃ b : Bool, c = .bool b := by
  obtain ⟨b, h1, _⟩ := DataW.trod_bool Tryz.underlying4 h
  exact ⟨b, by simpa using h1⟩
theorem rd_str {c : Value} {x : DataW H × List MemPlace} (h : DataW.trod enc Tryz.prog w 0 (fun _ => true) true n 9 [c] = some x) : ∃ b : ByteArray, c = .string b := by
  obtain ⟨b, h1, _, _⟩ := DataW.trod_string Tryz.underlying9 h
  exact ⟨b, by simpa using h1⟩
theorem rd_reg {c0 c1 c2 c3 : Value} {x : DataW H × List MemPlace} (h : DataW.trod enc Tryz.prog w 0 (fun _ => true) true n 41 [c0, c1, c2, c3] = some x) : ∃ g : G, g.Ok ∧ c0 = .bool g.virt ∧ c1 = .int .u8 (g.kind : Int) ∧ c2 = .int .u16 (g.idx : Int) ∧ c3 = .int .u16 (g.spec : Int) := by
  obtain ⟨xs, m, _, hx, _, hl, hf⟩ := DataW.trod_struct Tryz.underlying41 h
  obtain ⟨⟨ki, ks, kb, k8⟩, ⟨k16, k64, k32, ksl⟩, kop, kr, kc, ko, kin, kno⟩ := cells1
  match xs, hl with
  | [y0, y1, y2, y3], _ =>
    have h0 : DataW.trod enc Tryz.prog w 0 (fun _ => true) true m 4 [c0] = some y0 := by
      have q : DataW.trod enc Tryz.prog w 0 (fun _ => true) true m 4 ((List.drop 0 [c0, c1, c2, c3]).take (Tryz.prog.cellsOf 4)) = some y0 := hf 0 _ rfl
      rw [kb] at q
      exact q
    have h1 : DataW.trod enc Tryz.prog w 0 (fun _ => true) true m 5 [c1] = some y1 := by
      have q : DataW.trod enc Tryz.prog w 0 (fun _ => true) true m 5 ((List.drop 1 [c0, c1, c2, c3]).take (Tryz.prog.cellsOf 5)) = some y1 := hf 1 _ rfl
      rw [k8] at q
      exact q
    have h2 : DataW.trod enc Tryz.prog w 0 (fun _ => true) true m 39 [c2] = some y2 := by
      have q : DataW.trod enc Tryz.prog w 0 (fun _ => true) true m 39 ((List.drop 2 [c0, c1, c2, c3]).take (Tryz.prog.cellsOf 39)) = some y2 := hf 2 _ rfl
      rw [k16] at q
      exact q
    have h3 : DataW.trod enc Tryz.prog w 0 (fun _ => true) true m 39 [c3] = some y3 := by
      have q : DataW.trod enc Tryz.prog w 0 (fun _ => true) true m 39 ((List.drop 3 [c0, c1, c2, c3]).take (Tryz.prog.cellsOf 39)) = some y3 := hf 3 _ rfl
      rw [k16] at q
      exact q
    obtain ⟨a, ea⟩ := rd_bool h0
    obtain ⟨b, eb, lb⟩ := rd_u8 h1
    obtain ⟨c, ec, lc⟩ := rd_u16 h2
    obtain ⟨d, ed, ld⟩ := rd_u16 h3
    exact ⟨⟨a, b, c, d⟩, ⟨lb, lc, ld⟩, ea, eb, ec, ed⟩
theorem rd_con {c0 c1 c2 : Value} {x : DataW H × List MemPlace} (h : DataW.trod enc Tryz.prog w 0 (fun _ => true) true n 63 [c0, c1, c2] = some x) : ∃ g : PC, c0 = .int .i64 g.kind ∧ c1 = .int .u64 (g.bits : Int) ∧ c2 = .string g.text := by
  obtain ⟨xs, m, _, hx, _, hl, hf⟩ := DataW.trod_struct Tryz.underlying63 h
  obtain ⟨⟨ki, ks, kb, k8⟩, ⟨k16, k64, k32, ksl⟩, kop, kr, kc, ko, kin, kno⟩ := cells1
  match xs, hl with
  | [y0, y1, y2], _ =>
    have h0 : DataW.trod enc Tryz.prog w 0 (fun _ => true) true m 3 [c0] = some y0 := by
      have q : DataW.trod enc Tryz.prog w 0 (fun _ => true) true m 3 ((List.drop 0 [c0, c1, c2]).take (Tryz.prog.cellsOf 3)) = some y0 := hf 0 _ rfl
      rw [ki] at q
      exact q
    have h1 : DataW.trod enc Tryz.prog w 0 (fun _ => true) true m 61 [c1] = some y1 := by
      have q : DataW.trod enc Tryz.prog w 0 (fun _ => true) true m 61 ((List.drop 1 [c0, c1, c2]).take (Tryz.prog.cellsOf 61)) = some y1 := hf 1 _ rfl
      rw [k64] at q
      exact q
    have h2 : DataW.trod enc Tryz.prog w 0 (fun _ => true) true m 9 [c2] = some y2 := by
      have q : DataW.trod enc Tryz.prog w 0 (fun _ => true) true m 9 ((List.drop 2 [c0, c1, c2]).take (Tryz.prog.cellsOf 9)) = some y2 := hf 2 _ rfl
      rw [ks] at q
      exact q
    obtain ⟨a, ea⟩ := rd_i64 h0
    obtain ⟨b, eb, lb⟩ := rd_u64 h1
    obtain ⟨c, ec⟩ := rd_str h2
    exact ⟨⟨a, b, c⟩, ea, eb, ec⟩
theorem rd_op {c0 c1 c2 c3 c4 c5 c6 c7 c8 c9 c10 c11 c12 c13 c14 c15 c16 c17 c18 c19 c20 c21 c22 c23 : Value} {x : DataW H × List MemPlace} (h : DataW.trod enc Tryz.prog w 0 (fun _ => true) true n 65 [c0, c1, c2, c3, c4, c5, c6, c7, c8, c9, c10, c11, c12, c13, c14, c15, c16, c17, c18, c19, c20, c21, c22, c23] = some x) : ∃ p : PO, p.Ok ∧ [c0, c1, c2, c3, c4, c5, c6, c7, c8, c9, c10, c11, c12, c13, c14, c15, c16, c17, c18, c19, c20, c21, c22, c23] = p.cells.toList := by
  obtain ⟨xs, m, _, hx, _, hl, hf⟩ := DataW.trod_struct Tryz.underlying65 h
  obtain ⟨⟨ki, ks, kb, k8⟩, ⟨k16, k64, k32, ksl⟩, kop, kr, kc, ko, kin, kno⟩ := cells1
  match xs, hl with
  | [y0, y1, y2, y3, y4, y5, y6, y7, y8, y9, y10, y11, y12], _ =>
    have h0 : DataW.trod enc Tryz.prog w 0 (fun _ => true) true m 3 [c0] = some y0 := by
      have q : DataW.trod enc Tryz.prog w 0 (fun _ => true) true m 3 ((List.drop 0 [c0, c1, c2, c3, c4, c5, c6, c7, c8, c9, c10, c11, c12, c13, c14, c15, c16, c17, c18, c19, c20, c21, c22, c23]).take (Tryz.prog.cellsOf 3)) = some y0 := hf 0 _ rfl
      rw [ki] at q
      exact q
    have h1 : DataW.trod enc Tryz.prog w 0 (fun _ => true) true m 41 [c1, c2, c3, c4] = some y1 := by
      have q : DataW.trod enc Tryz.prog w 0 (fun _ => true) true m 41 ((List.drop 1 [c0, c1, c2, c3, c4, c5, c6, c7, c8, c9, c10, c11, c12, c13, c14, c15, c16, c17, c18, c19, c20, c21, c22, c23]).take (Tryz.prog.cellsOf 41)) = some y1 := hf 1 _ rfl
      rw [kr] at q
      exact q
    have h2 : DataW.trod enc Tryz.prog w 0 (fun _ => true) true m 4 [c5] = some y2 := by
      have q : DataW.trod enc Tryz.prog w 0 (fun _ => true) true m 4 ((List.drop 5 [c0, c1, c2, c3, c4, c5, c6, c7, c8, c9, c10, c11, c12, c13, c14, c15, c16, c17, c18, c19, c20, c21, c22, c23]).take (Tryz.prog.cellsOf 4)) = some y2 := hf 2 _ rfl
      rw [kb] at q
      exact q
    have h3 : DataW.trod enc Tryz.prog w 0 (fun _ => true) true m 4 [c6] = some y3 := by
      have q : DataW.trod enc Tryz.prog w 0 (fun _ => true) true m 4 ((List.drop 6 [c0, c1, c2, c3, c4, c5, c6, c7, c8, c9, c10, c11, c12, c13, c14, c15, c16, c17, c18, c19, c20, c21, c22, c23]).take (Tryz.prog.cellsOf 4)) = some y3 := hf 3 _ rfl
      rw [kb] at q
      exact q
    have h4 : DataW.trod enc Tryz.prog w 0 (fun _ => true) true m 41 [c7, c8, c9, c10] = some y4 := by
      have q : DataW.trod enc Tryz.prog w 0 (fun _ => true) true m 41 ((List.drop 7 [c0, c1, c2, c3, c4, c5, c6, c7, c8, c9, c10, c11, c12, c13, c14, c15, c16, c17, c18, c19, c20, c21, c22, c23]).take (Tryz.prog.cellsOf 41)) = some y4 := hf 4 _ rfl
      rw [kr] at q
      exact q
    have h5 : DataW.trod enc Tryz.prog w 0 (fun _ => true) true m 41 [c11, c12, c13, c14] = some y5 := by
      have q : DataW.trod enc Tryz.prog w 0 (fun _ => true) true m 41 ((List.drop 11 [c0, c1, c2, c3, c4, c5, c6, c7, c8, c9, c10, c11, c12, c13, c14, c15, c16, c17, c18, c19, c20, c21, c22, c23]).take (Tryz.prog.cellsOf 41)) = some y5 := hf 5 _ rfl
      rw [kr] at q
      exact q
    have h6 : DataW.trod enc Tryz.prog w 0 (fun _ => true) true m 5 [c15] = some y6 := by
      have q : DataW.trod enc Tryz.prog w 0 (fun _ => true) true m 5 ((List.drop 15 [c0, c1, c2, c3, c4, c5, c6, c7, c8, c9, c10, c11, c12, c13, c14, c15, c16, c17, c18, c19, c20, c21, c22, c23]).take (Tryz.prog.cellsOf 5)) = some y6 := hf 6 _ rfl
      rw [k8] at q
      exact q
    have h7 : DataW.trod enc Tryz.prog w 0 (fun _ => true) true m 3 [c16] = some y7 := by
      have q : DataW.trod enc Tryz.prog w 0 (fun _ => true) true m 3 ((List.drop 16 [c0, c1, c2, c3, c4, c5, c6, c7, c8, c9, c10, c11, c12, c13, c14, c15, c16, c17, c18, c19, c20, c21, c22, c23]).take (Tryz.prog.cellsOf 3)) = some y7 := hf 7 _ rfl
      rw [ki] at q
      exact q
    have h8 : DataW.trod enc Tryz.prog w 0 (fun _ => true) true m 9 [c17] = some y8 := by
      have q : DataW.trod enc Tryz.prog w 0 (fun _ => true) true m 9 ((List.drop 17 [c0, c1, c2, c3, c4, c5, c6, c7, c8, c9, c10, c11, c12, c13, c14, c15, c16, c17, c18, c19, c20, c21, c22, c23]).take (Tryz.prog.cellsOf 9)) = some y8 := hf 8 _ rfl
      rw [ks] at q
      exact q
    have h9 : DataW.trod enc Tryz.prog w 0 (fun _ => true) true m 4 [c18] = some y9 := by
      have q : DataW.trod enc Tryz.prog w 0 (fun _ => true) true m 4 ((List.drop 18 [c0, c1, c2, c3, c4, c5, c6, c7, c8, c9, c10, c11, c12, c13, c14, c15, c16, c17, c18, c19, c20, c21, c22, c23]).take (Tryz.prog.cellsOf 4)) = some y9 := hf 9 _ rfl
      rw [kb] at q
      exact q
    have h10 : DataW.trod enc Tryz.prog w 0 (fun _ => true) true m 63 [c19, c20, c21] = some y10 := by
      have q : DataW.trod enc Tryz.prog w 0 (fun _ => true) true m 63 ((List.drop 19 [c0, c1, c2, c3, c4, c5, c6, c7, c8, c9, c10, c11, c12, c13, c14, c15, c16, c17, c18, c19, c20, c21, c22, c23]).take (Tryz.prog.cellsOf 63)) = some y10 := hf 10 _ rfl
      rw [kc] at q
      exact q
    have h11 : DataW.trod enc Tryz.prog w 0 (fun _ => true) true m 9 [c22] = some y11 := by
      have q : DataW.trod enc Tryz.prog w 0 (fun _ => true) true m 9 ((List.drop 22 [c0, c1, c2, c3, c4, c5, c6, c7, c8, c9, c10, c11, c12, c13, c14, c15, c16, c17, c18, c19, c20, c21, c22, c23]).take (Tryz.prog.cellsOf 9)) = some y11 := hf 11 _ rfl
      rw [ks] at q
      exact q
    have h12 : DataW.trod enc Tryz.prog w 0 (fun _ => true) true m 21 [c23] = some y12 := by
      have q : DataW.trod enc Tryz.prog w 0 (fun _ => true) true m 21 ((List.drop 23 [c0, c1, c2, c3, c4, c5, c6, c7, c8, c9, c10, c11, c12, c13, c14, c15, c16, c17, c18, c19, c20, c21, c22, c23]).take (Tryz.prog.cellsOf 21)) = some y12 := hf 12 _ rfl
      rw [k32] at q
      exact q
    obtain ⟨k, ek⟩ := rd_i64 h0
    obtain ⟨r, hr, e1, e2, e3, e4⟩ := rd_reg h1
    obtain ⟨b1, e5⟩ := rd_bool h2
    obtain ⟨b2, e6⟩ := rd_bool h3
    obtain ⟨rb, hrb, e7, e8, e9, e10⟩ := rd_reg h4
    obtain ⟨ri, hri, e11, e12, e13, e14⟩ := rd_reg h5
    obtain ⟨sc, e15, _⟩ := rd_u8 h6
    obtain ⟨di, e16⟩ := rd_i64 h7
    obtain ⟨sy, e17⟩ := rd_str h8
    obtain ⟨st, e18⟩ := rd_bool h9
    obtain ⟨co, e19, e20, e21⟩ := rd_con h10
    obtain ⟨la, e22⟩ := rd_str h11
    obtain ⟨re, e23⟩ := rd_i32 h12
    subst ek e1 e2 e3 e4 e5 e6 e7 e8 e9 e10 e11 e12 e13 e14 e15 e16 e17 e18 e19 e20 e21 e22 e23
    exact ⟨⟨k, r, b1, b2, rb, ri, sc, di, sy, st, co, la, re⟩, ⟨hr, hrb, hri⟩, rfl⟩
theorem rd_op' {cs : List Value} {x : DataW H × List MemPlace} (h : DataW.trod enc Tryz.prog w 0 (fun _ => true) true n 65 cs = some x) : ∃ p : PO, p.Ok ∧ cs = p.cells.toList := by
  obtain ⟨_, _, _, _, hl, _, _⟩ := DataW.trod_struct Tryz.underlying65 h
  rw [cells1.2.2.2.2.2.1] at hl
  match cs, hl with
  | [c0, c1, c2, c3, c4, c5, c6, c7, c8, c9, c10, c11, c12, c13, c14, c15, c16, c17, c18, c19, c20, c21, c22, c23], _ => exact rd_op h
theorem add0 (a : Addr) : a.add 0 = a := by simp [Addr.add]
theorem spot_of {a : Addr} {v : Value} (h : w.cell? a = some v) : ∃ b off, a = ⟨b, off, none⟩ ∧ b < w.heap.size := by
  have h1 := World.cell?_spot h
  have h2 := World.block_lt_of_cell? w _ h
  obtain ⟨b, off, sp⟩ := a
  obtain rfl : sp = none := h1
  exact ⟨b, off, rfl, h2⟩
theorem range_of {b off o k : Nat} {cs : List Value} (h : w.cells? 0 ((⟨b, off, none⟩ : Addr).add o) k = some cs) : w.rangeAt b (off + o) cs ∧ cs.length = k := by
  obtain ⟨_, h1, h2⟩ := World.cells?_some h
  refine ⟨fun j v hj => ?_, h1⟩
  have hjk : j < k := by have := (List.getElem?_eq_some_iff.1 hj).1; omega
  have h3 := h2 j hjk
  rw [Addr.add_mid, Addr.add_mid, hj] at h3
  exact h3
theorem rd_strs {c : Value} {x : DataW H × List MemPlace} (h : DataW.trod enc Tryz.prog w 0 (fun _ => true) true n 35 [c] = some x) :
    ∃ (s : SV) (l : List ByteArray), c = s.val ∧ StrsAt w s l ∧ (0 < s.n → ∀ b off, s.A = some ⟨b, off, none⟩ → b < w.heap.size) ∧ l.length ≤ Rows.uptoBulk x.1 := by
  rcases open_strs Tryz.underlying35 Tryz.underlying9 cells1.1.2.1 h with ⟨hc, hx⟩ | ⟨a, len, cap, m, Sx, hc, hb, hl, hm, hmm, hx, hi⟩
  · obtain rfl : c = .slice none 0 0 := by simpa using hc
    exact ⟨⟨none, 0, 0⟩, [], rfl, ⟨rfl, Sl.nil w⟩, fun h => absurd h (by simp), by simp⟩
  · obtain rfl : c = .slice (some a) len cap := by simpa using hc
    have hmc : m = cap := by simpa using hmm
    have hfirst : 0 < len → ∃ b off, a = ⟨b, off, none⟩ ∧ b < w.heap.size := fun h0 => spot_of (by have := (hi 0 (by omega)).1; rwa [add0] at this)
    refine ⟨⟨some a, len, cap⟩, (List.range len).map Sx, rfl, ⟨by simp, by simp, fun hn => ?_⟩, fun hn b off e => ?_, ?_⟩
    · obtain ⟨b, off, rfl, hbl⟩ := hfirst (by simpa using hn)
      refine ⟨b, off, rfl, hbl, fun j u hj => ?_⟩
      have hjl : j < len := by have := (List.getElem?_eq_some_iff.1 hj).1; simpa using this
      have := (hi j (by omega)).1
      rw [Addr.add_mid] at this
      rw [this]
      simpa [hjl] using hj
    · obtain ⟨b', off', rfl, hbl⟩ := hfirst hn
      simp only [Option.some.injEq, Addr.mk.injEq] at e
      omega
    · rw [hx]
      simp only [Rows.uptoBulk]
      have := bulk_len ((List.range len).map fun i => (DataW.lit (.string (Sx i).data.toList) : DataW H))
      simp only [List.length_map, List.length_range] at this ⊢
      omega
instance : Inhabited PO := ⟨⟨0, ⟨false, 0, 0, 0⟩, false, false, ⟨false, 0, 0, 0⟩, ⟨false, 0, 0, 0⟩, 0, 0, ⟨#[]⟩, false, ⟨0, 0, ⟨#[]⟩⟩, ⟨#[]⟩, 0⟩⟩
theorem rd_ops {c : Value} {x : DataW H × List MemPlace} (h : DataW.trod enc Tryz.prog w 0 (fun _ => true) true n 36 [c] = some x) :
    ∃ (s : SV) (l : List PO), c = s.val ∧ POsAt w s l ∧ (∀ p ∈ l, p.Ok) ∧ (0 < s.n → ∀ b off, s.A = some ⟨b, off, none⟩ → b < w.heap.size) ∧ l.length + 1 ≤ Rows.uptoBulk x.1 := by
  rcases open_slice Tryz.underlying36 h with ⟨hc, hx⟩ | ⟨a, len, cap, m, n', D, Pl, hc, hb, hl, hm, hmm, hx, hi⟩
  · obtain rfl : c = .slice none 0 0 := by simpa using hc
    exact ⟨⟨none, 0, 0⟩, [], rfl, ⟨rfl, fun h => absurd h (by simp)⟩, by simp, fun h => absurd h (by simp), by simpa using bulk_one x.1⟩
  · obtain rfl : c = .slice (some a) len cap := by simpa using hc
    have hmc : m = cap := by simpa using hmm
    rw [cells1.2.2.2.2.2.1] at hi
    have hi' : ∀ i, i < len → ∃ p : PO, p.Ok ∧ w.cells? 0 (a.add (i * 24)) 24 = some p.cells.toList := fun i hil => by
      obtain ⟨cs', h1, h2⟩ := hi i (by omega)
      obtain ⟨p, hp, rfl⟩ := rd_op' h2
      exact ⟨p, hp, h1⟩
    obtain ⟨P, hP⟩ := choose_lt hi'
    have hfirst : 0 < len → ∃ b off, a = ⟨b, off, none⟩ ∧ b < w.heap.size := fun h0 => by
      obtain ⟨_, h1⟩ := hP 0 h0
      obtain ⟨_, _, h3⟩ := World.cells?_some h1
      have h4 := h3 0 (by omega)
      rw [Nat.zero_mul, add0, add0] at h4
      exact spot_of (v := .int .i64 (P 0).kind) (by rw [h4]; rfl)
    refine ⟨⟨some a, len, cap⟩, (List.range len).map P, rfl, ⟨by simp, fun hn => ?_⟩, fun p hp => ?_, fun hn b off e => ?_, ?_⟩
    · obtain ⟨b, off, rfl, hbl⟩ := hfirst (by simpa using hn)
      refine ⟨b, off, rfl, hbl, fun k p hk => ?_⟩
      have hkl : k < len := by have := (List.getElem?_eq_some_iff.1 hk).1; simpa using this
      obtain rfl : P k = p := by simpa [hkl] using hk
      exact (range_of (hP k hkl).2).1
    · obtain ⟨i, hil, rfl⟩ := List.mem_map.1 hp
      exact (hP i (List.mem_range.1 hil)).1
    · obtain ⟨b', off', rfl, hbl⟩ := hfirst hn
      simp only [Option.some.injEq, Addr.mk.injEq] at e
      omega
    · rw [hx]
      simp only [Rows.uptoBulk]
      have := bulk_len ((List.range len).map D)
      simp only [List.length_map, List.length_range] at this ⊢
      omega
theorem rd_ins {c0 c1 c2 c3 c4 c5 c6 c7 c8 c9 : Value} {x : DataW H × List MemPlace} (h : DataW.trod enc Tryz.prog w 0 (fun _ => true) true n 38 [c0, c1, c2, c3, c4, c5, c6, c7, c8, c9] = some x) : ∃ p : PI, [c0, c1, c2, c3, c4, c5, c6, c7, c8, c9] = p.cells.toList ∧ (Rows.uptoBulk x.1 ≤ 1048576 → p.At w w.heap.size) ∧ p.ops.length + p.inp.length + p.out.length ≤ Rows.uptoBulk x.1 := by
  obtain ⟨xs, m, _, hx, _, hl, hf⟩ := DataW.trod_struct Tryz.underlying38 h
  obtain ⟨⟨ki, ks, kb, k8⟩, ⟨k16, k64, k32, ksl⟩, kop, kr, kc, ko, kin, kno⟩ := cells1
  match xs, hl with
  | [y0, y1, y2, y3, y4, y5, y6, y7, y8, y9], _ =>
    have h0 : DataW.trod enc Tryz.prog w 0 (fun _ => true) true m 9 [c0] = some y0 := by
      have q : DataW.trod enc Tryz.prog w 0 (fun _ => true) true m 9 ((List.drop 0 [c0, c1, c2, c3, c4, c5, c6, c7, c8, c9]).take (Tryz.prog.cellsOf 9)) = some y0 := hf 0 _ rfl
      rw [ks] at q
      exact q
    have h1 : DataW.trod enc Tryz.prog w 0 (fun _ => true) true m 35 [c1] = some y1 := by
      have q : DataW.trod enc Tryz.prog w 0 (fun _ => true) true m 35 ((List.drop 1 [c0, c1, c2, c3, c4, c5, c6, c7, c8, c9]).take (Tryz.prog.cellsOf 35)) = some y1 := hf 1 _ rfl
      rw [ksl] at q
      exact q
    have h2 : DataW.trod enc Tryz.prog w 0 (fun _ => true) true m 36 [c2] = some y2 := by
      have q : DataW.trod enc Tryz.prog w 0 (fun _ => true) true m 36 ((List.drop 2 [c0, c1, c2, c3, c4, c5, c6, c7, c8, c9]).take (Tryz.prog.cellsOf 36)) = some y2 := hf 2 _ rfl
      rw [kop] at q
      exact q
    have h3 : DataW.trod enc Tryz.prog w 0 (fun _ => true) true m 36 [c3] = some y3 := by
      have q : DataW.trod enc Tryz.prog w 0 (fun _ => true) true m 36 ((List.drop 3 [c0, c1, c2, c3, c4, c5, c6, c7, c8, c9]).take (Tryz.prog.cellsOf 36)) = some y3 := hf 3 _ rfl
      rw [kop] at q
      exact q
    have h4 : DataW.trod enc Tryz.prog w 0 (fun _ => true) true m 36 [c4] = some y4 := by
      have q : DataW.trod enc Tryz.prog w 0 (fun _ => true) true m 36 ((List.drop 4 [c0, c1, c2, c3, c4, c5, c6, c7, c8, c9]).take (Tryz.prog.cellsOf 36)) = some y4 := hf 4 _ rfl
      rw [kop] at q
      exact q
    have h5 : DataW.trod enc Tryz.prog w 0 (fun _ => true) true m 4 [c5] = some y5 := by
      have q : DataW.trod enc Tryz.prog w 0 (fun _ => true) true m 4 ((List.drop 5 [c0, c1, c2, c3, c4, c5, c6, c7, c8, c9]).take (Tryz.prog.cellsOf 4)) = some y5 := hf 5 _ rfl
      rw [kb] at q
      exact q
    have h6 : DataW.trod enc Tryz.prog w 0 (fun _ => true) true m 4 [c6] = some y6 := by
      have q : DataW.trod enc Tryz.prog w 0 (fun _ => true) true m 4 ((List.drop 6 [c0, c1, c2, c3, c4, c5, c6, c7, c8, c9]).take (Tryz.prog.cellsOf 4)) = some y6 := hf 6 _ rfl
      rw [kb] at q
      exact q
    have h7 : DataW.trod enc Tryz.prog w 0 (fun _ => true) true m 4 [c7] = some y7 := by
      have q : DataW.trod enc Tryz.prog w 0 (fun _ => true) true m 4 ((List.drop 7 [c0, c1, c2, c3, c4, c5, c6, c7, c8, c9]).take (Tryz.prog.cellsOf 4)) = some y7 := hf 7 _ rfl
      rw [kb] at q
      exact q
    have h8 : DataW.trod enc Tryz.prog w 0 (fun _ => true) true m 4 [c8] = some y8 := by
      have q : DataW.trod enc Tryz.prog w 0 (fun _ => true) true m 4 ((List.drop 8 [c0, c1, c2, c3, c4, c5, c6, c7, c8, c9]).take (Tryz.prog.cellsOf 4)) = some y8 := hf 8 _ rfl
      rw [kb] at q
      exact q
    have h9 : DataW.trod enc Tryz.prog w 0 (fun _ => true) true m 35 [c9] = some y9 := by
      have q : DataW.trod enc Tryz.prog w 0 (fun _ => true) true m 35 ((List.drop 9 [c0, c1, c2, c3, c4, c5, c6, c7, c8, c9]).take (Tryz.prog.cellsOf 35)) = some y9 := hf 9 _ rfl
      rw [ksl] at q
      exact q
    obtain ⟨o0, e0⟩ := rd_str h0
    obtain ⟨s1, l1, e1, a1, b1, f1⟩ := rd_strs h1
    obtain ⟨s2, l2, e2, a2, k2, b2, f2⟩ := rd_ops h2
    obtain ⟨s3, l3, e3, a3, k3, b3, f3⟩ := rd_ops h3
    obtain ⟨s4, l4, e4, a4, k4, b4, f4⟩ := rd_ops h4
    obtain ⟨t5, e5⟩ := rd_bool h5
    obtain ⟨t6, e6⟩ := rd_bool h6
    obtain ⟨t7, e7⟩ := rd_bool h7
    obtain ⟨t8, e8⟩ := rd_bool h8
    obtain ⟨s9, l9, e9, a9, b9, f9⟩ := rd_strs h9
    subst e0 e1 e2 e3 e4 e5 e6 e7 e8 e9
    subst hx
    simp only [List.map_cons, List.map_nil, Rows.uptoBulk, Rows.uptoBulkAll]
    refine ⟨⟨o0, s1, l1, s2, l2, s3, l3, s4, l4, t5, t6, t7, t8, s9, l9⟩, rfl, fun hk => ⟨a1, a2, a3, a4, a9, ?_, ⟨by dsimp only; omega, by dsimp only; omega, by dsimp only; omega, by dsimp only; omega, by dsimp only; omega⟩, k2, k3, k4⟩, by dsimp only; omega⟩
    intro s hs
    simp only [List.mem_cons, List.not_mem_nil, or_false] at hs
    rcases hs with rfl | rfl | rfl | rfl | rfl
    · exact b1
    · exact b2
    · exact b3
    · exact b4
    · exact b9
theorem rd_node {c0 c1 c2 c3 c4 c5 c6 c7 c8 c9 c10 c11 c12 : Value} {x : DataW H × List MemPlace} (h : DataW.trod enc Tryz.prog w 0 (fun _ => true) true n 50 [c0, c1, c2, c3, c4, c5, c6, c7, c8, c9, c10, c11, c12] = some x) : ∃ p : PN, [c0, c1, c2, c3, c4, c5, c6, c7, c8, c9, c10, c11, c12] = p.cells.toList ∧ (Rows.uptoBulk x.1 ≤ 1048576 → p.At w w.heap.size) ∧ p.ins.ops.length + p.ins.inp.length + p.ins.out.length ≤ Rows.uptoBulk x.1 := by
  obtain ⟨xs, m, _, hx, _, hl, hf⟩ := DataW.trod_struct Tryz.underlying50 h
  obtain ⟨⟨ki, ks, kb, k8⟩, ⟨k16, k64, k32, ksl⟩, kop, kr, kc, ko, kin, kno⟩ := cells1
  match xs, hl with
  | [y0, y1, y2, y3], _ =>
    have h0 : DataW.trod enc Tryz.prog w 0 (fun _ => true) true m 3 [c0] = some y0 := by
      have q : DataW.trod enc Tryz.prog w 0 (fun _ => true) true m 3 ((List.drop 0 [c0, c1, c2, c3, c4, c5, c6, c7, c8, c9, c10, c11, c12]).take (Tryz.prog.cellsOf 3)) = some y0 := hf 0 _ rfl
      rw [ki] at q
      exact q
    have h1 : DataW.trod enc Tryz.prog w 0 (fun _ => true) true m 9 [c1] = some y1 := by
      have q : DataW.trod enc Tryz.prog w 0 (fun _ => true) true m 9 ((List.drop 1 [c0, c1, c2, c3, c4, c5, c6, c7, c8, c9, c10, c11, c12]).take (Tryz.prog.cellsOf 9)) = some y1 := hf 1 _ rfl
      rw [ks] at q
      exact q
    have h2 : DataW.trod enc Tryz.prog w 0 (fun _ => true) true m 35 [c2] = some y2 := by
      have q : DataW.trod enc Tryz.prog w 0 (fun _ => true) true m 35 ((List.drop 2 [c0, c1, c2, c3, c4, c5, c6, c7, c8, c9, c10, c11, c12]).take (Tryz.prog.cellsOf 35)) = some y2 := hf 2 _ rfl
      rw [ksl] at q
      exact q
    have h3 : DataW.trod enc Tryz.prog w 0 (fun _ => true) true m 38 [c3, c4, c5, c6, c7, c8, c9, c10, c11, c12] = some y3 := by
      have q : DataW.trod enc Tryz.prog w 0 (fun _ => true) true m 38 ((List.drop 3 [c0, c1, c2, c3, c4, c5, c6, c7, c8, c9, c10, c11, c12]).take (Tryz.prog.cellsOf 38)) = some y3 := hf 3 _ rfl
      rw [kin] at q
      exact q
    obtain ⟨k, e0⟩ := rd_i64 h0
    obtain ⟨la, e1⟩ := rd_str h1
    obtain ⟨s, l, e2, a2, b2, f2⟩ := rd_strs h2
    obtain ⟨p, e3, a3, f3⟩ := rd_ins h3
    subst e0 e1 e2
    subst hx
    simp only [List.map_cons, List.map_nil, Rows.uptoBulk, Rows.uptoBulkAll]
    refine ⟨⟨k, la, s, l, p⟩, ?_, fun hk => ⟨a3 (by omega), a2, b2, by dsimp only; omega⟩, by dsimp only; omega⟩
    have e4 : PN.cells ⟨k, la, s, l, p⟩ = #[.int .i64 k, .string la, s.val] ++ p.cells := rfl
    rw [e4, Array.toList_append, ← e3]
    rfl
theorem rd_node' {cs : List Value} {x : DataW H × List MemPlace} (h : DataW.trod enc Tryz.prog w 0 (fun _ => true) true n 50 cs = some x) : ∃ p : PN, cs = p.cells.toList ∧ (Rows.uptoBulk x.1 ≤ 1048576 → p.At w w.heap.size) ∧ p.ins.ops.length + p.ins.inp.length + p.ins.out.length ≤ Rows.uptoBulk x.1 := by
  obtain ⟨_, _, _, _, hl, _, _⟩ := DataW.trod_struct Tryz.underlying50 h
  rw [cells1.2.2.2.2.2.2.2] at hl
  match cs, hl with
  | [c0, c1, c2, c3, c4, c5, c6, c7, c8, c9, c10, c11, c12], _ => exact rd_node h
instance : Inhabited PN := ⟨⟨0, ⟨#[]⟩, ⟨none, 0, 0⟩, [], ⟨⟨#[]⟩, ⟨none, 0, 0⟩, [], ⟨none, 0, 0⟩, [], ⟨none, 0, 0⟩, [], ⟨none, 0, 0⟩, [], false, false, false, false, ⟨none, 0, 0⟩, []⟩⟩⟩
theorem bulk_sum {D : Nat → DataW H} {P : Nat → PN} : ∀ (l : List Nat), (∀ i ∈ l, (P i).ins.ops.length + (P i).ins.inp.length + (P i).ins.out.length ≤ Rows.uptoBulk (D i)) → sumL (fun p : PI => p.ops.length + p.inp.length + p.out.length) (insP (l.map P)) ≤ Rows.uptoBulkAll (l.map D)
  | [], _ => by simp [insP, sumL]
  | i :: l, h => by
    have ih := bulk_sum l fun j hj => h j (by simp [hj])
    have h1 := h i (by simp)
    simp only [List.map_cons, Rows.uptoBulkAll]
    unfold insP sumL at ih ⊢
    rw [List.filter_cons]
    split
    · simp only [List.map_cons, List.sum_cons]
      omega
    · omega
structure IntsAt (w : World) (s : SV) (zs : List Int) : Prop where
  len : s.n = zs.length
  row : Sl w s.A zs.length (zs.map fun z => Value.int .i64 z)
  few : zs.length ≤ 1048576
  fit : ∀ z ∈ zs, -9223372036854775808 ≤ z ∧ z ≤ 9223372036854775807
theorem rd_nodes {c : Value} {x : DataW H × List MemPlace} (h : DataW.trod enc Tryz.prog w 0 (fun _ => true) true n 22 [c] = some x) (hk : Rows.uptoBulk x.1 ≤ 1048576) :
    ∃ (s : SV) (l : List PN), c = s.val ∧ NodesAt w w.heap.size s l ∧ BulkP l := by
  rcases open_slice Tryz.underlying22 h with ⟨hc, hx⟩ | ⟨a, len, cap, m, n', D, Pl, hc, hb, hl, hm, hmm, hx, hi⟩
  · obtain rfl : c = .slice none 0 0 := by simpa using hc
    exact ⟨⟨none, 0, 0⟩, [], rfl, ⟨rfl, fun h => absurd h (by simp), by simp, by simp⟩, by simp [BulkP, insP, sumL]⟩
  · obtain rfl : c = .slice (some a) len cap := by simpa using hc
    have hmc : m = cap := by simpa using hmm
    rw [cells1.2.2.2.2.2.2.2] at hi
    rw [hx] at hk
    simp only [Rows.uptoBulk] at hk
    have hbl := bulk_len ((List.range len).map D)
    simp only [List.length_map, List.length_range] at hbl
    have hi' : ∀ i, i < len → ∃ p : PN, w.cells? 0 (a.add (i * 13)) 13 = some p.cells.toList ∧ p.At w w.heap.size ∧ p.ins.ops.length + p.ins.inp.length + p.ins.out.length ≤ Rows.uptoBulk (D i) := fun i hil => by
      obtain ⟨cs', h1, h2⟩ := hi i (by omega)
      obtain ⟨p, rfl, hp, hs⟩ := rd_node' h2
      have hle : Rows.uptoBulk (D i) ≤ Rows.uptoBulkAll ((List.range len).map D) := bulk_part (List.mem_map.2 ⟨i, List.mem_range.2 hil, rfl⟩)
      exact ⟨p, h1, hp (by simp only; omega), hs⟩
    obtain ⟨P, hP⟩ := choose_lt hi'
    have hfirst : 0 < len → ∃ b off, a = ⟨b, off, none⟩ ∧ b < w.heap.size := fun h0 => by
      obtain ⟨h1, _⟩ := hP 0 h0
      obtain ⟨_, _, h3⟩ := World.cells?_some h1
      have h4 := h3 0 (by omega)
      rw [Nat.zero_mul, add0, add0] at h4
      exact spot_of (v := .int .i64 (P 0).kind) (by rw [h4]; rfl)
    refine ⟨⟨some a, len, cap⟩, (List.range len).map P, rfl, ⟨by simp, fun hn => ?_, fun p hp => ?_, by simp; omega⟩, ?_⟩
    · obtain ⟨b, off, rfl, hbl⟩ := hfirst (by simpa using hn)
      refine ⟨b, off, rfl, hbl, hbl, fun k p hk => ?_⟩
      have hkl : k < len := by have := (List.getElem?_eq_some_iff.1 hk).1; simpa using this
      obtain rfl : P k = p := by simpa [hkl] using hk
      exact (range_of (hP k hkl).1).1
    · obtain ⟨i, hil, rfl⟩ := List.mem_map.1 hp
      exact (hP i (List.mem_range.1 hil)).2.1
    · have := bulk_sum (D := D) (P := P) (List.range len) fun i hil => (hP i (List.mem_range.1 hil)).2.2
      show sumL _ _ ≤ 1048576
      omega
end
end
section
open Go Go.RowKit Go.ChangeShapes Go.WideShapes Go.ChangeAt Bth
set_option maxRecDepth 100000
theorem ownK : ownKnob Tryz.prog.godebug = none := by kernel_rfl
theorem laidOutP : laidOutB Tryz.prog = true := by kernel_rfl
theorem boundApart_contract (H : Type) (enc : TypeId × Value → H) (W : World) (base : Nat) (args : Array Value) (ds gs : List (DataW H)) (before : List MemPlace)
    (hval : ∀ (j : Nat) t v, Tryz.f3.params[j]? = some t → args[j]? = some v → Value.okWide Tryz.prog W .any base t v)
    (hW : DataW.Whole enc Tryz.prog Tryz.f3.params.toList Rows.fnBoundApartSpec.vars false W args.toList ds gs before) (hk : Rows.uptoSmall H (ds ++ gs) = true) :
    Calls Tryz.prog 3 args W fun e W' => ∃ v, e = .returned v ∧ Rows.fnBoundApartSpec.post enc Tryz.prog Tryz.f3 false true false false W args v W' := by
  have hW' := hW
  obtain ⟨p, q, hA0, hV, rfl, hfz, hnd⟩ := hW
  have hA : DataW.TrodAll enc Tryz.prog W 0 (fun _ => true) true Tryz.f3.params.toList args.toList ds p := hA0
  rw [Tryz.params3] at hA hval
  obtain ⟨v0, vs0, d0, ds0, p0, q0, hargs, rfl, rfl, h0, r0⟩ := trodAll_cons hA
  obtain ⟨rfl, rfl, rfl⟩ := trodAll_nil r0
  obtain rfl : args = #[v0] := by cases args; simp_all
  obtain ⟨rfl, rfl⟩ := trodVars_none hV
  obtain ⟨a0, len, cap, rfl⟩ := okWide_slice Tryz.underlying22 (hval 0 22 v0 rfl rfl)
  have h0k := h0
  obtain ⟨fuel, hf⟩ := h0
  have hlt : ∀ x ∈ p0, x.block < W.heap.size := fun x hx => hW'.lt x (by simp [hx])
  have hkb : Rows.uptoBulk d0 ≤ 1048576 := by
    have h : Rows.uptoBulkAll ([d0] ++ ([] : List (DataW H))) ≤ 1048576 := of_decide_eq_true hk
    simp only [List.append_nil, Rows.uptoBulkAll] at h
    omega
  obtain ⟨s, ns, hs, hN, hB⟩ := rd_nodes (by simpa [Value.cells] using hf) hkb
  clear hA0
  rw [hs] at h0k hW' ⊢
  refine (FnBoundApart_calls W W.heap.size s ns hN (Nat.le_refl _) hB).mono ?_
  rintro e W' ⟨rfl, hfr⟩
  have hbel := hfr.below
  refine ⟨_, rfl, _, _, _, [], p0, [], hW', trodAll_mk1 (shut_bool Tryz.underlying4 _), ?_, rfl, hbel.frame _, fun h => by cases h⟩
  rw [Tryz.params3]
  exact trodAll_mk1 (Below.trod laidOutP (by kernel_rfl) (of_decide_eq_true (by kernel_rfl)) h0k hbel hlt)
theorem boundApart_lifted (os : Os) (started : os.Started) (H : Type) (enc : TypeId × Value → H) (F : Stop.Interp) :
    ReturnsInHanded {} Tryz.checked os 3 .any ((Rows.OpenSpec.upto Rows.fnBoundApartSpec).pre6 enc Tryz.prog Tryz.f3 Rows.fnBoundApartUptoRow.domain false) (((Rows.OpenSpec.upto Rows.fnBoundApartSpec).at F).post enc Tryz.prog Tryz.f3 false true false false) := by
  refine returnsInHanded_of_cond (C := Tryz.checked) (s := Rows.OpenSpec.upto Rows.fnBoundApartSpec) (k := Rows.uptoSmall) rfl ownK started (by kernel_rfl) Tryz.func3
    (OpenSpec.witness (enc := enc) (C := Tryz.checked) (s := Rows.OpenSpec.upto Rows.fnBoundApartSpec) (k := Rows.uptoSmall) rfl false ⟨#[], #[.slice none 0 0], []⟩ 8 (by kernel_rfl) (by kernel_rfl) (by kernel_rfl)
      (x := ([.nil], [], [])) (by kernel_rfl) rfl (by kernel_rfl)) ?_
  intro W base args ds gs before hval hW _ hk _
  exact boundApart_contract H enc W base args ds gs before hval hW hk
theorem boundApart_upto : Rows.FnBoundApartUptoSaid :=
  OpenClaim.holds_of_cond 3 Tryz.f3 rfl rfl rfl rfl rfl rfl rfl ⟨rfl, rfl, rfl, rfl, rfl⟩ rfl rfl rfl rfl rfl (by kernel_rfl) Tryz.func3 (by kernel_rfl)
    (of_decide_eq_true (by kernel_rfl)) (by unfold Func.isWrapper; first | (rw [if_pos (by decide +kernel)]; kernel_rfl) | (rw [if_neg (by decide +kernel)]; exact ⟨rfl, rfl⟩))
    (fun os started H enc _ F => boundApart_lifted os started H enc F)
end
end Go.Proofs.YtbaihlfnbdifgaaGreat
