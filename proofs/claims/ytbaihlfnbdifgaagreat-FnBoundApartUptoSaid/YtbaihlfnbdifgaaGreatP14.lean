/- Part of the proof of boundApart_upto. -/
import Derived.Deep.Cut
import Derived.Deep.CutBlock
import Derived.Test.YtbaihlfnbdifgaaGreatP09
import Derived.Test.YtbaihlfnbdifgaaGreatP12
import Derived.Test.YtbaihlfnbdifgaaGreatP13
namespace Go.Proofs.YtbaihlfnbdifgaaGreat
section
open Go Go.RowKit Go.MapKept Bth
set_option maxRecDepth 100000
theorem length_same {a b : List Nat} (ha : a.Nodup) (hb : b.Nodup) (h : ∀ v, v ∈ a ↔ v ∈ b) : a.length = b.length :=
  Nat.le_antisymm (nodup_le ha fun x hx => (h x).1 hx) (nodup_le hb fun x hx => (h x).2 hx)
structure RemOf (L : Poss) (rem : List Nat) : Prop where
  nd : rem.Nodup
  mem : ∀ v, v ∈ rem ↔ L v ≠ none
theorem rem_ks {w : World} {b : Nat} {ks : List Nat} {L : Poss} {sv : Nat → SV} (hm : MapAt w b idV ks (fun k => (L k).map fun _ => (sv k).val)) : RemOf L ks :=
  ⟨hm.nodup, fun v => by rw [hm.mem_iff]; cases L v <;> simp⟩
theorem remaining_calls (w : World) (P : Nat → Prop) (x : Al) (g : AlG) (rem : List Nat) (h : AlAt w P x g) (hr : RemOf x.poss rem) :
    Calls Tryz.prog 113 #[ptr g.a] w fun e w' => e = .returned (.int .i64 (rem.length : Int)) ∧ w = w' := by
  have hc4 := h.c4
  have halt := h.lt _ h.pa
  obtain ⟨ks, sv, hm, _⟩ := h.poss
  have hlen := fun ty => hm.len possT ty
  have hk := rem_ks hm
  rw [length_same hr.nd hk.nd (fun v => (hr.mem v).trans (hk.mem v).symm)]
  unfold ptr
  clear hm hk hr
  go_enter Tryz.func113, Tryz.ntmps113
  go_wp2
  go_ret
  exact ⟨rfl, rfl⟩
def score (L : Poss) (v : Nat) : Nat := ((L v).getD []).length
def Best (L : Poss) (ks todo : List Nat) (n v : Nat) : Prop :=
  todo.Nodup ∧ (((∀ k ∈ ks, k ∈ todo) ∧ n = 2147483647) ∨ (v ∈ ks ∧ n = score L v ∧ ∀ k ∈ ks, k ∉ todo → n < score L k ∨ (n = score L k ∧ v ≤ k)))
theorem Best.keep {L : Poss} {ks todo : List Nat} {n v k : Nat} (h : Best L ks todo n v) (hk : k ∈ todo) (hk2 : k ∈ ks) (hs : score L k < 2147483647) (h1 : ¬ score L k < n) (h2 : ¬ (score L k = n ∧ k < v)) : Best L ks (todo.erase k) n v := by
  obtain ⟨hn, h⟩ := h
  refine ⟨hn.erase k, ?_⟩
  rcases h with ⟨_, h4⟩ | ⟨h3, h4, h5⟩
  · omega
  · refine .inr ⟨h3, h4, fun j hj hjt => ?_⟩
    by_cases e : j = k
    · subst e; omega
    · exact h5 j hj fun hh => hjt ((List.Nodup.mem_erase_iff hn).2 ⟨e, hh⟩)
theorem Best.take {L : Poss} {ks todo : List Nat} {n v k : Nat} (h : Best L ks todo n v) (hk2 : k ∈ ks) (hs : score L k < n ∨ (score L k = n ∧ k < v)) (hm : score L k < 2147483647) : Best L ks (todo.erase k) (score L k) k := by
  obtain ⟨hn, h⟩ := h
  refine ⟨hn.erase k, .inr ⟨hk2, rfl, fun j hj hjt => ?_⟩⟩
  by_cases e : j = k
  · subst e; exact .inr ⟨rfl, Nat.le_refl _⟩
  · have hjt2 : j ∉ todo := fun hh => hjt ((List.Nodup.mem_erase_iff hn).2 ⟨e, hh⟩)
    rcases h with ⟨h3, h4⟩ | ⟨h3, h4, h5⟩
    · exact absurd (h3 j hj) hjt2
    · have := h5 j hj hjt2
      omega
def possF (L : Poss) (sv : Nat → SV) (k : Nat) : Option Value := (L k).map fun _ => (sv k).val
set_option maxHeartbeats 1000000 in
theorem most_calls (w : World) (P : Nat → Prop) (x : Al) (g : AlG) (rem : List Nat) (h : AlAt w P x g) (hr : RemOf x.poss rem) (hne : rem ≠ []) (hl : ∀ v l, x.poss v = some l → l.length ≤ 1073741824) :
    Calls Tryz.prog 114 #[ptr g.a] w fun e w' => (∃ v : Nat, e = .returned (.int .u32 (v : Int)) ∧ Least (score x.poss) rem v) ∧ Fr nope w w' := by
  have hc4 := h.c4
  have halt := h.lt _ h.pa
  obtain ⟨ks, sv, hm, hrow⟩ := h.poss
  have hk := rem_ks hm
  have hO : MapO w (some g.bq) idV ks (possF x.poss sv) := hm
  have hks : ks ≠ [] := by
    rintro rfl
    cases rem with
    | nil => exact hne rfl
    | cons a l => have := (hk.mem a).2 ((hr.mem a).1 (by simp)); cases this
  have hB0 : Best x.poss ks ks 2147483647 0 := ⟨hk.nd, .inl ⟨fun _ h => h, rfl⟩⟩
  unfold ptr
  clear hm
  go_enter Tryz.func114, Tryz.ntmps114
  go_wp2_with (refine wpList_rangeO rfl rfl rfl hO idInj possT ?_; intro w0 hrg0 hf0 hs0)
  go_frame
  clear hs0 hc4 halt
  go_loopg [3, 4] ks.length (fun m c3 c4 wr => ∃ (todo : List Nat) (n v : Nat), RangeO wr w.heap.size (some g.bq) idV ks (possF x.poss sv) todo ∧ c3 = .int .i64 (n : Int) ∧ c4 = .int .u32 (v : Int) ∧ Best x.poss ks todo n v ∧ n ≤ 2147483647 ∧ Fr nope w wr ∧ todo.length = m)
  case atStart => exact ⟨ks, 2147483647, 0, hrg0, rfl, rfl, hB0, Nat.le_refl _, hf0, rfl⟩
  case round =>
    obtain ⟨todo, n, v, hrg, rfl, rfl, hB, hnm, hf, rfl⟩ := hrel
    go_wp2_with (refine wpList_nextO rfl rfl rfl hrg idInj ?_ ?_)
    · intro h00
      subst h00
      replace hB := Lib.hid hB
      go_wp2
      go_ret
      refine ⟨⟨v, rfl, ?_⟩, hf⟩
      obtain ⟨_, ⟨h3, _⟩ | ⟨h3, h4, h5⟩⟩ := hB.out
      · exfalso
        cases ks with
        | nil => exact hks rfl
        | cons a l => have := h3 a (by simp); cases this
      · have hrk : ∀ j, j ∈ rem ↔ j ∈ ks := fun j => (hr.mem j).trans (hk.mem j).symm
        exact ⟨(hrk v).2 h3, fun j hj => by rw [← h4]; exact h5 j ((hrk j).1 hj) (by simp)⟩
    · intro k vv w1 hkt hkk hv hrg1 hf1 hs1 hen
      obtain ⟨l, hl1, hl2⟩ := Option.map_eq_some_iff.1 hv
      obtain ⟨A, c, rfl, _, _⟩ : ∃ A c, vv = .slice A l.length c ∧ l.length ≤ c ∧ c ≤ maxLen := by
        rw [← hl2]; exact own_slice (hrow k l hl1).1
      have hsc : score x.poss k = l.length := by unfold score; rw [hl1]; rfl
      have hll := hl k l hl1
      have hlen : (todo.erase k).length < todo.length := by rw [List.length_erase_of_mem hkt]; have := List.length_pos_of_mem hkt; omega
      have hf01 : Fr nope w w1 := hf.then_new hf1 (fun x hx e => by omega)
      have hkp := fun a b => hB.keep hkt hkk (by rw [hsc]; omega) a b
      have htk := fun a => hB.take hkk a (by rw [hsc]; omega)
      rw [hsc] at hkp htk
      replace hkp := Lib.hid hkp
      replace htk := Lib.hid htk
      clear hv hl2 hs1 hsc hl1 hB
      unfold idV at hen
      by_cases h1 : l.length < n
      · go_wp2
        go_roundg (todo.erase k).length
        case measure => exact hlen
        case rel => exact ⟨_, _, _, hrg1, rfl, rfl, htk.out (.inl h1), by omega, hf01, rfl⟩
      · by_cases h2 : l.length = n
        · subst h2
          by_cases h3 : k < v
          · go_wp2
            go_roundg (todo.erase k).length
            case measure => exact hlen
            case rel => exact ⟨_, _, _, hrg1, rfl, rfl, htk.out (.inr (by simpa using h3)), by omega, hf01, rfl⟩
          · go_wp2
            go_roundg (todo.erase k).length
            case measure => exact hlen
            case rel => exact ⟨_, _, _, hrg1, rfl, rfl, hkp.out h1 (fun h => h3 h.2), by omega, hf01, rfl⟩
        · have h22 : ((l.length : Int) == (n : Int)) = false := by rw [beq_eq_false_iff_ne]; omega
          go_wp2
          go_roundg (todo.erase k).length
          case measure => exact hlen
          case rel => exact ⟨_, _, _, hrg1, rfl, rfl, hkp.out h1 (fun h => h2 h.1), by omega, hf01, rfl⟩
theorem AlAt.setAl {w w1 w2 : World} {P : Nat → Prop} {x : Al} {g : AlG} (h : AlAt w P x g) {f : Nat → Option Nat} {L : Poss} (h1 : IdMap w1 g.ba f) (hf1 : Fr (fun b => b = g.ba) w w1) (h2 : PossAt w2 P g.bq L) (hf2 : Fr (fun b => b = g.bq) w1 w2) (hs : w2.heap.size = w.heap.size) :
    AlAt w2 P { x with al := f, poss := L } g := by
  obtain ⟨k2, m2⟩ := h.al
  obtain ⟨_, _, o2⟩ := MapAt.obj m2
  obtain ⟨k3, sv3, m3, hl3⟩ := h.poss
  obtain ⟨_, _, o3⟩ := MapAt.obj m3
  have hc : ∀ {cs : Array Value} {t : TypeId} {fr : Nat × Nat} {b : Nat}, w.heap[b]? = some (.cells cs t fr) → w2.heap[b]? = some (.cells cs t fr) := fun {cs t fr b} hb =>
    hf2.heap (hf1.heap hb (fun e => by rw [e, o2] at hb; cases hb)) (fun e => by rw [e, o3] at hb; cases hb)
  have hown : ∀ {n size : Nat} {e : TypeId} {v : Value} {xs : List Value}, w.ownsRow 0 e size v n xs → w2.ownsRow 0 e size v n xs := fun ho =>
    own_fr (own_fr ho hf1 (fun c hc e => own_nomap ho o2 (by rw [e] at hc; exact hc))) hf2 (fun c hc e => own_nomap ho o3 (by rw [e] at hc; exact hc))
  exact
    {
      ha := hc h.ha
      regs := hown h.regs
      prio := (h.prio.fr hf1 h.ne1).fr hf2 h.ne2
      al := by obtain ⟨k, m⟩ := h1; exact ⟨k, m.fr hf2 h.ne3⟩
      edges := hown h.edges
      elen := h.elen
      eat := fun k b e h1 h2 => hc (h.eat k b e h1 h2)
      poss := h2
      ne1 := h.ne1
      ne2 := h.ne2
      ne3 := h.ne3
      pa := h.pa
      pp := h.pp
      pl := h.pl
      pq := h.pq
      pr := h.pr
      ps := h.ps
      pe := h.pe
      lt := fun c hc => by rw [hs]; exact h.lt c hc }
def GivesAlloc (w : World) (P : Nat → Prop) (g : AlG) (x : Al) (v : Nat) (l : List Nat) (e : Ending) (w' : World) : Prop :=
  (l = [] ∧ (∃ T y, e = .returned (.iface T y)) ∧ Fr nope w w') ∨ ∃ p q, l = p :: q ∧ e = .returned .nilIface ∧ AlAt w' P { x with al := setA x.al v p, poss := delL x.poss v } g ∧ Fr P w w'
theorem alloc_calls (w : World) (P : Nat → Prop) (x : Al) (g : AlG) (v : Nat) (l : List Nat) (h : AlAt w P x g) (hl : x.poss v = some l) :
    Calls Tryz.prog 115 #[ptr g.a, .int .u32 (v : Int)] w (GivesAlloc w P g x v l) := by
  have hc4 := h.c4
  have hc2 := h.c2
  have halt := h.lt _ h.pa
  obtain ⟨⟨A, n, c⟩, hlk, hso, hsn⟩ := h.poss.look v
  rw [hl] at hso hsn
  simp only [Option.getD_some] at hso hsn
  subst hsn
  have hlk1 := (hlk w (Fr.refl _ _)).1
  have hS : Sl w A l.length (l.map idV) := own_Sl (c := c) hso
  unfold ptr
  clear hlk hso
  cases l with
  | nil =>
    simp only [List.length_nil] at hlk1
    clear hS hl
    go_enter Tryz.func115, Tryz.ntmps115
    go_wp2_with (go_at_call 56; refine (errorsNew_calls _ _).mono ?_; rintro e w4 ⟨rfl, hf4⟩)
    go_ret
    exact .inl ⟨rfl, ⟨_, _, rfl⟩, hf4⟩
  | cons p q =>
    obtain ⟨b, off, u, rfl, hbl, hu, hc⟩ := hS.at_ (k := 0) (by simp)
    simp only [List.map_cons, List.getElem?_cons_zero, Option.some.injEq] at hu
    subst hu
    unfold idV at hc
    rw [Nat.add_zero] at hc
    obtain ⟨w1, hu1, hm1, hf1, hs1⟩ := h.al.put v p
    have hne3 := h.ne3
    have hp1 : PossAt w1 P g.bq x.poss := by
      obtain ⟨k2, m2⟩ := h.al
      obtain ⟨_, _, o2⟩ := MapAt.obj m2
      obtain ⟨k3, sv3, m3, hl3⟩ := h.poss
      exact ⟨k3, sv3, m3.fr hf1 (fun e => hne3 e.symm), fun k l e => ⟨own_fr (hl3 k l e).1 hf1 (fun c hc e2 => own_nomap (hl3 k l e).1 o2 (by rw [e2] at hc; exact hc)), (hl3 k l e).2⟩⟩
    obtain ⟨w2, hu2, hm2, hf2, hs2⟩ := hp1.del v 0
    have hc4' : w1.cell? ⟨g.a, 4, none⟩ = some (.map (some g.bq)) := hf1.cell hc4 (fun e => by
      obtain ⟨k2, m2⟩ := h.al
      obtain ⟨_, _, o2⟩ := MapAt.obj m2
      have := h.ha
      have e' : g.a = g.ba := e
      rw [e', o2] at this; cases this)
    have hsl : (q.length : Int) + 1 ≤ 9223372036854775807 ∨ True := .inr trivial
    have hf : Fr P w w2 := (hf1.mono fun c _ e => by rw [e]; exact h.pl).then (hf2.mono fun c _ e => by rw [e]; exact h.pq)
    have key := h.setAl hm1 hf1 hm2 hf2 (hs2.trans hs1)
    replace hs1 := Lib.hid hs1
    replace hs2 := Lib.hid hs2
    replace hl := Lib.hid hl
    clear hS hsl hne3
    go_enter Tryz.func115, Tryz.ntmps115
    go_wp2
    go_ret
    exact .inr ⟨p, q, rfl, rfl, key, hf⟩
end
section
open Go Go.RowKit Go.MapKept Bth
set_option maxRecDepth 100000
def GivesAll (w : World) (P : Nat → Prop) (r : Option (Nat → Option Nat)) (e : Ending) (w' : World) : Prop :=
  Fr P w w' ∧ ((r = none ∧ ∃ T v, e = .returned (.tuple #[.map none, .iface T v])) ∨ ∃ f ba, r = some f ∧ e = .returned (.tuple #[.map (some ba), .nilIface]) ∧ IdMap w' ba f ∧ wider P w w' ba)
theorem color_none {regs : List Nat} {edges : List (Nat × Nat)} {n : Nat} {rem : List Nat} {al : Nat → Option Nat} (h : clash edges al = true) : color regs edges (n + 1) rem al = none := by
  unfold color; rw [if_pos h]
theorem color_done {regs : List Nat} {edges : List (Nat × Nat)} {n : Nat} {al : Nat → Option Nat} (h : clash edges al = false) : color regs edges (n + 1) [] al = some al := by
  unfold color; rw [if_neg (by simp [h])]; simp
theorem color_step {regs : List Nat} {edges : List (Nat × Nat)} {n v : Nat} {rem : List Nat} {al : Nat → Option Nat} (h : clash edges al = false) (hne : rem ≠ []) (hv : Least (fun w => (strike al edges w regs).length) rem v) :
    color regs edges (n + 1) rem al = match strike al edges v regs with
      | [] => none
      | p :: _ => color regs edges n (rem.erase v) (setA al v p) := by
  conv => lhs; unfold color
  rw [if_neg (by simp [h]), if_neg (by simpa using hne)]
  simp only [hv.pick]
  cases strike al edges v regs <;> rfl
theorem AlFits.upd {x : Al} (h : AlFits x) : AlFits { x with edges := x.edges.filter (open2 x.al), poss := strikeL x.al x.edges x.poss } :=
  ⟨fun e he => h.ids e (List.mem_filter.1 he).1, h.al, fun _ _ hl => strikeL_len h.poss hl, Nat.le_trans (List.length_filter_le _ _) h.edges⟩
theorem AlFits.alloc {x : Al} (h : AlFits x) {v p : Nat} (hp : p < 4294967296) : AlFits { x with al := setA x.al v p, poss := delL x.poss v } :=
  ⟨h.ids, fun u q hu => by
    simp only [setA] at hu
    split at hu
    · injection hu with hu; omega
    · exact h.al u q hu, fun u l hu => by
    simp only [delL] at hu
    split at hu
    · cases hu
    · exact h.poss u l hu, h.edges⟩
theorem RemOf.strike {L : Poss} {rem : List Nat} {al : Nat → Option Nat} {E : List (Nat × Nat)} (h : RemOf L rem) : RemOf (strikeL al E L) rem := ⟨h.nd, fun v => by rw [h.mem]; unfold strikeL; cases L v <;> simp⟩
theorem RemOf.erase {L : Poss} {rem : List Nat} (h : RemOf L rem) (v : Nat) : RemOf (delL L v) (rem.erase v) := ⟨h.nd.erase v, fun u => by
  rw [List.Nodup.mem_erase_iff h.nd, h.mem]
  unfold delL
  split
  · rename_i e; simp [e]
  · rename_i e; simp [e]⟩
set_option maxHeartbeats 2000000 in
theorem Allocate_calls (w : World) (P : Nat → Prop) (x : Al) (g : AlG) (rem : List Nat) (h : AlAt w P x g) (hr : RemOf x.poss rem) (hH : Bth.Head x.regs x.edges x.al x.edges x.poss) (hz : AlFits x) (hreg : ∀ r ∈ x.regs, isV r = false ∧ r < 4294967296) :
    Calls Tryz.prog 76 #[ptr g.a] w (GivesAll w P (color x.regs x.edges (rem.length + 1) rem x.al)) := by
  have halt := h.lt _ h.pa
  have hgoal : ∃ r, r = color x.regs x.edges (rem.length + 1) rem x.al := ⟨_, rfl⟩
  obtain ⟨res, hres⟩ := hgoal
  rw [← hres]
  unfold ptr
  go_enter Tryz.func76, Tryz.ntmps76
  go_wp2_with fail
  replace hres := Lib.hid hres
  go_loopg [] rem.length (fun n wr => ∃ (x1 : Al) (g1 : AlG) (rem1 : List Nat), Hid (x1.regs = x.regs) ∧ Hid (g1.a = g.a) ∧ AlAt wr (wider P w wr) x1 g1 ∧ RemOf x1.poss rem1 ∧ Bth.Head x.regs x.edges x1.al x1.edges x1.poss ∧ AlFits x1 ∧ Hid (res = color x.regs x.edges (rem1.length + 1) rem1 x1.al) ∧ Fr P w wr ∧ n = rem1.length)
  case atStart => exact ⟨x, g, rem, Lib.hid rfl, Lib.hid rfl, h.more (fun _ hc => .inl hc) (wider_lt h.lt (Nat.le_refl _)), hr, hH, hz, hres, Fr.refl _ _, rfl⟩
  case round =>
    obtain ⟨x1, g1, rem1, hxr, hg1, h1, hr1, hH1, hz1, hres1, hf, rfl⟩ := hrel
    have hu := update_calls wr _ x1 g1 h1 hH1.fit hz1
    rw [hg1.out] at hu
    unfold ptr at hu
    go_wp2_with fail
    refine hu.mono ?_
    rintro e w2 ⟨hf2, ⟨hc, T, v, rfl⟩ | ⟨hc, rfl, g2, hg2, h2⟩⟩
    · have hnone : res = none := by rw [hres1.out]; exact color_none (by rw [← hH1.cl]; exact hc)
      replace hnone := Lib.hid hnone
      replace hc := Lib.hid hc
      go_wp2
      go_ret2
      exact ⟨Fr_wide hf hf2, .inl ⟨hnone.out, _, _, rfl⟩⟩
    · have hf3 := Fr_wide hf hf2
      have h3 := h2.more (P' := wider P w w2) (fun c hc => wider.trans hf2.size c hc hf.size) (wider_lt h.lt hf3.size)
      have hr2 : RemOf (strikeL x1.al x1.edges x1.poss) rem1 := hr1.strike
      have hrc := remaining_calls w2 _ _ g2 rem1 h3 hr2
      rw [hg2] at hrc
      unfold ptr at hrc
      have hcA : clash x.edges x1.al = false := by rw [← hH1.cl]; exact hc
      by_cases h0 : rem1 = []
      · subst h0
        have hsome : res = some x1.al := by rw [hres1.out]; exact color_done hcA
        have hc2 := h3.c2
        have ha2 := h3.lt _ h3.pa
        have hal := h3.al
        have hpl := h3.pl
        rw [hg2] at hc2 ha2
        replace hsome := Lib.hid hsome
        replace hc := Lib.hid hc
        replace hcA := Lib.hid hcA
        replace hg2 := Lib.hid hg2
        go_wp2_with (go_at_call 113; refine hrc.mono ?_; rintro e w3 ⟨rfl, rfl⟩)
        go_ret2
        exact ⟨hf3, .inr ⟨x1.al, g2.ba, hsome.out, rfl, hal, hpl⟩⟩
      · have hlen0 : ((rem1.length : Int) == 0) = false := by
          rw [beq_eq_false_iff_ne]
          have := List.length_pos_iff.2 h0
          omega
        have hmc := most_calls w2 _ _ g2 rem1 h3 hr2 h0 (fun v l hl => strikeL_len hz1.poss hl)
        rw [hg2] at hmc
        unfold ptr at hmc
        go_wp2_with (first
          | (go_at_call 113; refine hrc.mono ?_; rintro e w3 ⟨rfl, rfl⟩)
          | (go_at_call 114; refine hmc.mono ?_; rintro e w4 ⟨⟨v, rfl, hv⟩, hf4⟩))
        obtain ⟨l0, hl0⟩ : ∃ l0, x1.poss v = some l0 := by
          cases hp : x1.poss v with
          | none => exact absurd hp ((hr1.mem v).1 hv.1)
          | some l0 => exact ⟨l0, rfl⟩
        have hL2 : strikeL x1.al x1.edges x1.poss v = some (strike x1.al x.edges v x.regs) := by unfold strikeL; rw [hl0, Option.map_some, hH1.st v l0 hl0]
        have hv2 : Least (fun w => (strike x1.al x.edges w x.regs).length) rem1 v := hv.congr (fun u hu => by
          unfold score strikeL
          cases hp : x1.poss u with
          | none => exact absurd hp ((hr1.mem u).1 hu)
          | some lu => simp [hH1.st u lu hp]) (fun _ => Iff.rfl)
        have hstep := color_step (n := rem1.length) (regs := x.regs) hcA h0 hv2
        have hac := alloc_calls w4 _ _ g2 v _ (h3.still hf4) hL2
        rw [hg2] at hac
        unfold ptr at hac
        replace hstep := Lib.hid hstep
        replace hL2 := Lib.hid hL2
        replace hl0 := Lib.hid hl0
        replace hc := Lib.hid hc
        replace hcA := Lib.hid hcA
        replace hg2 := Lib.hid hg2
        refine hac.mono ?_
        rintro e w5 (⟨hnil, ⟨T, y, rfl⟩, hf5⟩ | ⟨p, q, hpq, rfl, h5, hf5⟩)
        · have hnone : res = none := by rw [hres1.out, hstep.out, hnil]
          replace hnone := Lib.hid hnone
          replace hnil := Lib.hid hnil
          go_wp2
          go_ret2
          exact ⟨(hf3.then hf4.of_nope).then hf5.of_nope, .inl ⟨hnone.out, _, _, rfl⟩⟩
        · have hpm : p ∈ x.regs := (mem_strike.1 (by rw [hpq]; simp : p ∈ strike x1.al x.edges v x.regs)).1
          have hres5 : res = color x.regs x.edges rem1.length (rem1.erase v) (setA x1.al v p) := by rw [hres1.out, hstep.out, hpq]
          have hlt : (rem1.erase v).length + 1 = rem1.length := by rw [List.length_erase_of_mem hv.1]; have := List.length_pos_of_mem hv.1; omega
          have hN := hH1.next (fun r hr => (hreg r hr).1) hcA.out hl0.out hpq
          rw [← hlt] at hres5
          replace hres5 := Lib.hid hres5
          replace hpq := Lib.hid hpq
          replace hlt := Lib.hid hlt
          have hf45 : Fr P w w5 := (hf3.then hf4.of_nope).trans hf5 (fun _ _ x => x) (fun c hc hh => by
            rcases hh with hh | hh
            · exact hh
            · omega)
          go_wp2
          go_roundg (rem1.erase v).length
          case measure => have := hlt.out; omega
          case rel =>
            refine ⟨⟨x1.regs, x1.prio, setA x1.al v p, x1.edges.filter (open2 x1.al), delL (strikeL x1.al x1.edges x1.poss) v⟩, g2, rem1.erase v, hxr, hg2, h5.more (fun c hc => ?_) (wider_lt h.lt hf45.size), hr2.erase v, hN, hz1.upd.alloc (hreg p hpm).2, hres5, hf45, rfl⟩
            rcases hc with hc | hc
            · exact .inl hc
            · exact .inr ⟨hc.1, by have := hf4.size; have := hf5.size; omega⟩
end
section
open Go Go.RowKit Go.MapKept Bth
open Go.ChangeMaps (setBlock)
set_option maxRecDepth 100000
def both (f g : Nat → Option Nat) : Nat → Option Nat := fun x => match g x with
  | some p => some p
  | none => f x
def imgF (f : Nat → Option Nat) (k : Nat) : Option Value := (f k).map idV
set_option maxHeartbeats 1000000 in
theorem Merge_calls (w : World) (ba bb : Nat) (fa fb : Nat → Option Nat) (ha : IdMap w ba fa) (hb : IdMap w bb fb) (hne : bb ≠ ba) (hd : ∀ k, fb k ≠ none → fa k = none) :
    Calls Tryz.prog 77 #[.map (some ba), .map (some bb)] w fun e w' => e = .returned .nilIface ∧ IdMap w' ba (both fa fb) ∧ Fr (fun b => b = ba) w w' := by
  obtain ⟨ks, hM⟩ := hb
  have hO : MapO w (some bb) idV ks (imgF fb) := hM
  have hks : ∀ k, k ∈ ks ↔ fb k ≠ none := fun k => by rw [hM.mem_iff]; cases fb k <;> simp
  have hnd := hM.nodup
  have hal := ha.lt
  clear hM
  go_enter Tryz.func77, Tryz.ntmps77
  go_wp2_with (refine wpList_rangeO rfl rfl rfl hO idInj allocT ?_; intro w0 hrg0 hf0 hs0)
  go_frame
  have h00 : ∀ x, (if x ∈ ks then fa x else both fa fb x) = fa x := fun x => by
    split
    · rfl
    · rename_i h
      have : fb x = none := Classical.byContradiction fun hh => h ((hks x).2 hh)
      unfold both; rw [this]
  replace h00 := Lib.hid h00
  replace hks := Lib.hid hks
  replace hd := Lib.hid hd
  clear hs0
  go_loopg [] ks.length (fun n wr => ∃ (todo : List Nat), RangeO wr w.heap.size (some bb) idV ks (imgF fb) todo ∧ IdMap wr ba (fun x => if x ∈ todo then fa x else both fa fb x) ∧ todo.Nodup ∧ Fr (fun b => b = ba) w wr ∧ todo.length = n)
  case atStart => exact ⟨ks, hrg0, by rw [show (fun x => if x ∈ ks then fa x else both fa fb x) = fa from funext h00.out]; exact ha.fr hf0 (fun x => x), hnd, hf0.of_nope, rfl⟩
  case round =>
    obtain ⟨todo, hrg, hM, htd, hf, rfl⟩ := hrel
    go_wp2_with (refine wpList_nextO rfl rfl rfl hrg idInj ?_ ?_)
    · intro h0
      subst h0
      replace hM := Lib.hid hM
      go_wp2
      go_ret
      exact ⟨rfl, by simpa using hM.out, hf⟩
    · intro k v w1 hkt hkk hv hrg1 hf1 hs1 hen
      obtain ⟨p, hp, rfl⟩ : ∃ p, fb k = some p ∧ v = idV p := by
        unfold imgF at hv
        obtain ⟨p, h1, h2⟩ := Option.map_eq_some_iff.1 hv
        exact ⟨p, h1, h2.symm⟩
      have hM1 : IdMap w1 ba _ := hM.fr hf1 (by omega)
      have hfa := hd.out k (by rw [hp]; simp)
      have hl2 := hM1.look2 k
      simp only [hkt, if_true, hfa, Option.getD_none, Option.isSome_none] at hl2
      obtain ⟨w2, hu, hM2, hf2, hs2⟩ := hM1.put k p
      have hlen : (todo.erase k).length < todo.length := by rw [List.length_erase_of_mem hkt]; have := List.length_pos_of_mem hkt; omega
      have hfn : (fun x => if x = k then some p else if x ∈ todo then fa x else both fa fb x) = fun x => if x ∈ todo.erase k then fa x else both fa fb x := by
        funext x
        by_cases e : x = k
        · subst e
          have : x ∉ todo.erase x := fun hm => ((List.Nodup.mem_erase_iff htd).1 hm).1 rfl
          rw [if_pos rfl, if_neg this]
          simp [both, hp]
        · have : (x ∈ todo.erase k) ↔ x ∈ todo := by rw [List.Nodup.mem_erase_iff htd]; exact ⟨fun h => h.2, fun h => ⟨e, h⟩⟩
          simp only [this, if_neg e]
      rw [hfn] at hM2
      have hfr : Fr (fun b => b = ba) w w2 := (hf.then_new hf1 (fun x hx e => by omega)).then hf2
      have htd2 := htd.erase k
      replace hs1 := Lib.hid hs1
      replace hs2 := Lib.hid hs2
      replace hM2 := Lib.hid hM2
      clear hv hp hfa hfn
      unfold idV at hen
      go_wp2
      go_roundg (todo.erase k).length
      case measure => exact hlen
      case rel => exact ⟨_, hrg1.fr hf2 (by omega) (fun c hc => by injection hc with hc; subst hc; exact hne), hM2.out, htd2, hfr, rfl⟩
def kindV (k : Nat) : Value := .int .u8 (k : Int)
theorem kindKey : KeyOk Tryz.prog 148 (.int .u8) kindV := ⟨Tryz.underlying148, fun _ => rfl, fun a b h => by simp [kindV] at h; omega⟩
theorem kindInj : ∀ a b : Nat, kindV a = kindV b → a = b := fun a b h => by simp [kindV] at h; omega
theorem asT : Tryz.prog.underlying 145 = some (.map 148 150) := Tryz.underlying145
theorem zeroAl (w : World) : (zeroValue 150).run Tryz.prog w = .ok (.pointer none) w := by kernel_rfl
def updF {α : Type} (f : Nat → α) (k : Nat) (v : α) : Nat → α := fun j => if j = k then v else f j
theorem updF_self {α : Type} (f : Nat → α) (k : Nat) (v : α) : updF f k v k = v := by simp [updF]
theorem updF_ne {α : Type} (f : Nat → α) {j k : Nat} (v : α) (h : j ≠ k) : updF f k v j = f j := by simp [updF, h]
def asF (K : List Nat) (gs : Nat → AlG) (k : Nat) : Option Value := if k ∈ K then some (ptr (gs k).a) else none
structure AS (w0 w : World) (mb : Nat) (K : List Nat) (gs : Nat → AlG) (xs : Nat → Al) (Ps : Nat → Nat → Prop) : Prop where
  map : ∃ ks, MapAt w mb kindV ks (asF K gs)
  at_ : ∀ k ∈ K, AlAt w (Ps k) (xs k) (gs k)
  new : ∀ k ∈ K, ∀ c, Ps k c → w0.heap.size ≤ c ∧ c ≠ mb
  apart : ∀ j ∈ K, ∀ k ∈ K, j ≠ k → ∀ c, Ps j c → ¬ Ps k c
  sz : w0.heap.size ≤ w.heap.size
  mbn : w0.heap.size ≤ mb
theorem AS.lt {w0 w : World} {mb : Nat} {K : List Nat} {gs : Nat → AlG} {xs : Nat → Al} {Ps : Nat → Nat → Prop} (h : AS w0 w mb K gs xs Ps) : mb < w.heap.size := by obtain ⟨_, hm⟩ := h.map; exact hm.lt
theorem AS.keep {S : Nat → Prop} {w0 w w' : World} {mb : Nat} {K : List Nat} {gs : Nat → AlG} {xs : Nat → Al} {Ps : Nat → Nat → Prop} (h : AS w0 w mb K gs xs Ps) (hf : Fr S w w') (h1 : ∀ k ∈ K, ∀ c, Ps k c → ¬ S c) (h2 : ¬ S mb) : AS w0 w' mb K gs xs Ps :=
  { h with
    map := by obtain ⟨ks, hm⟩ := h.map; exact ⟨ks, hm.fr hf h2⟩
    at_ := fun k hk => (h.at_ k hk).fr hf (h1 k hk)
    sz := Nat.le_trans h.sz hf.size }
theorem AS.still {w0 w w' : World} {mb : Nat} {K : List Nat} {gs : Nat → AlG} {xs : Nat → Al} {Ps : Nat → Nat → Prop} (h : AS w0 w mb K gs xs Ps) (hf : Fr nope w w') : AS w0 w' mb K gs xs Ps := h.keep hf (fun _ _ _ _ x => x) (fun x => x)
theorem AS.look {w0 w : World} {mb : Nat} {K : List Nat} {gs : Nat → AlG} {xs : Nat → Al} {Ps : Nat → Nat → Prop} (h : AS w0 w mb K gs xs Ps) {k : Nat} (hk : k ∈ K) :
    (Instr.lookup 145 (.map (some mb)) (.int .u8 (k : Int)) false).run Tryz.prog w = .ok (ptr (gs k).a) w := by
  obtain ⟨ks, hm⟩ := h.map
  have := hm.lookup kindKey asT (zeroAl w) k false
  rw [show (Value.int .u8 (k : Int)) = kindV k from rfl, this]
  simp [asF, hk]
theorem AS.look2 {w0 w : World} {mb : Nat} {K : List Nat} {gs : Nat → AlG} {xs : Nat → Al} {Ps : Nat → Nat → Prop} (h : AS w0 w mb K gs xs Ps) (k : Nat) :
    ∃ v, (Instr.lookup 145 (.map (some mb)) (.int .u8 (k : Int)) true).run Tryz.prog w = .ok (.tuple #[v, .bool (decide (k ∈ K))]) w := by
  obtain ⟨ks, hm⟩ := h.map
  have := hm.lookup kindKey asT (zeroAl w) k true
  rw [show (Value.int .u8 (k : Int)) = kindV k from rfl, this]
  by_cases hk : k ∈ K
  · exact ⟨ptr (gs k).a, by simp [asF, hk]⟩
  · exact ⟨.pointer none, by simp [asF, hk]⟩
theorem AS.turn {w0 w w' : World} {mb : Nat} {K : List Nat} {gs : Nat → AlG} {xs : Nat → Al} {Ps : Nat → Nat → Prop} (h : AS w0 w mb K gs xs Ps) {k : Nat} (hk : k ∈ K) {x : Al} {g : AlG} (hg : g.a = (gs k).a) (ha : AlAt w' (wider (Ps k) w w') x g) (hf : Fr (Ps k) w w') :
    AS w0 w' mb K (updF gs k g) (updF xs k x) (updF Ps k (wider (Ps k) w w')) := by
  have hl := h.lt
  have hw0 := h.sz
  have hnew : ∀ c, wider (Ps k) w w' c → w0.heap.size ≤ c ∧ c ≠ mb := fun c hc => by
    rcases hc with hc | hc
    · exact h.new k hk c hc
    · exact ⟨by omega, by omega⟩
  refine ⟨?_, fun j hj => ?_, fun j hj c hc => ?_, fun i hi j hj hij c hc => ?_, Nat.le_trans h.sz hf.size, h.mbn⟩
  · obtain ⟨ks, hm⟩ := h.map
    refine ⟨ks, ?_⟩
    have e : asF K (updF gs k g) = asF K gs := by
      funext j
      unfold asF
      by_cases e : j = k
      · subst e; rw [updF_self, hg]
      · rw [updF_ne _ _ e]
    rw [e]
    exact hm.fr hf (fun hp => (h.new k hk _ hp).2 rfl)
  · by_cases e : j = k
    · subst e; rw [updF_self, updF_self, updF_self]; exact ha
    · rw [updF_ne _ _ e, updF_ne _ _ e, updF_ne _ _ e]
      exact (h.at_ j hj).fr hf (fun c hc hp => h.apart j hj k hk e c hc hp)
  · by_cases e : j = k
    · subst e; rw [updF_self] at hc; exact hnew c hc
    · rw [updF_ne _ _ e] at hc; exact h.new j hj c hc
  · have key : ∀ j, j ∈ K → j ≠ k → ∀ c, Ps j c → ¬ wider (Ps k) w w' c := fun j hj hjk c hc hw => by
      rcases hw with hw | hw
      · exact h.apart j hj k hk hjk c hc hw
      · have := (h.at_ j hj).lt c hc; omega
    by_cases e1 : i = k
    · subst e1
      rw [updF_self] at hc
      rw [updF_ne _ _ (fun e => hij e.symm)]
      exact fun hp => key j hj (fun e => hij e.symm) c hp hc
    · rw [updF_ne _ _ e1] at hc
      by_cases e2 : j = k
      · subst e2; rw [updF_self]; exact key i hi e1 c hc
      · rw [updF_ne _ _ e2]; exact h.apart i hi j hj hij c hc
theorem AS.fr {S : Nat → Prop} {w0 w w' : World} {mb : Nat} {K : List Nat} {gs : Nat → AlG} {xs : Nat → Al} {Ps : Nat → Nat → Prop} (h : AS w0 w mb K gs xs Ps) (h0 : Fr S w0 w) {k : Nat} (hk : k ∈ K) (hf : Fr (Ps k) w w') : Fr S w0 w' :=
  h0.then_new hf (fun c hc hp => by have := (h.new k hk c hp).1; omega)
theorem AS.frM {S : Nat → Prop} {w0 w w' : World} {mb : Nat} {K : List Nat} {gs : Nat → AlG} {xs : Nat → Al} {Ps : Nat → Nat → Prop} (h : AS w0 w mb K gs xs Ps) (h0 : Fr S w0 w) (hf : Fr (fun b => b = mb) w w') : Fr S w0 w' :=
  h0.then_new hf (fun c hc hp => by have := h.mbn; omega)
theorem AS.add {w0 w w1 : World} {mb : Nat} {K : List Nat} {gs : Nat → AlG} {xs : Nat → Al} {Ps : Nat → Nat → Prop} (h : AS w0 w mb K gs xs Ps) {k : Nat} (hk : k ∉ K) {x : Al} {g : AlG} (ha : AlAt w1 (newer w w1) x g) (hf : Fr nope w w1) :
    ∃ w2, (Instr.mapUpdate 145 (.map (some mb)) (.int .u8 (k : Int)) (ptr g.a)).run Tryz.prog w1 = .ok () w2 ∧ AS w0 w2 mb (K ++ [k]) (updF gs k g) (updF xs k x) (updF Ps k (newer w w1)) ∧ Fr (fun b => b = mb) w1 w2 := by
  have hl := h.lt
  have hw0 := h.sz
  have h1 := h.still hf
  obtain ⟨ks, hm⟩ := h1.map
  obtain ⟨es, clock, g1, g2⟩ := hm.update kindKey asT k (ptr g.a)
  have hst : Fr (fun x => x = mb) w1 (setBlock w1 mb (.map es clock)) := (Fr.refl (fun x => x = mb) w1).setBlock (.inl rfl) _
  have hne : ∀ j, j ∈ K → j ≠ k := fun j hj e => hk (e ▸ hj)
  refine ⟨setBlock w1 mb (.map es clock), g1, ⟨⟨if k ∈ ks then ks else ks ++ [k], ?_⟩, fun j hj => ?_, fun j hj c hc => ?_, fun i hi j hj hij c hc => ?_, Nat.le_trans h1.sz hst.size, h.mbn⟩, hst⟩
  · have e : asF (K ++ [k]) (updF gs k g) = updM (asF K gs) k (some (ptr g.a)) := by
      funext j
      unfold asF updM
      by_cases e : j = k
      · subst e; simp [updF]
      · simp [updF, e]
    rw [e]; exact g2
  · by_cases e : j = k
    · subst e; rw [updF_self, updF_self, updF_self]; exact ha.fr hst (fun c hc e => by have := hc.1; omega)
    · rw [updF_ne _ _ e, updF_ne _ _ e, updF_ne _ _ e]
      have hjK : j ∈ K := by simpa [e] using hj
      exact (h1.at_ j hjK).fr hst (fun c hc e => (h.new j hjK c hc).2 e)
  · by_cases e : j = k
    · subst e; rw [updF_self] at hc; exact ⟨Nat.le_trans hw0 hc.1, by have := hc.1; omega⟩
    · rw [updF_ne _ _ e] at hc; exact h.new j (by simpa [e] using hj) c hc
  · have key : ∀ j, j ∈ K → ∀ c, Ps j c → ¬ newer w w1 c := fun j hj c hc hw => by have := (h.at_ j hj).lt c hc; have := hw.1; omega
    by_cases e1 : i = k
    · subst e1
      rw [updF_self] at hc
      rw [updF_ne _ _ (fun e => hij e.symm)]
      exact fun hp => key j (by simpa [Ne.symm hij] using hj) c hp hc
    · rw [updF_ne _ _ e1] at hc
      have hiK : i ∈ K := by simpa [e1] using hi
      by_cases e2 : j = k
      · subst e2; rw [updF_self]; exact key i hiK c hc
      · rw [updF_ne _ _ e2]; exact h.apart i hiK j (by simpa [e2] using hj) hij c hc
end
section
open Go Go.RowKit Go.MapKept Bth
set_option maxRecDepth 100000
def seqTail : Nat → Code → Code
  | 0, c => c
  | n + 1, .seq _ b => seqTail n b
  | _, c => c
noncomputable def arTail (n : Nat) : Code := seqTail n (Tryz.f37.body.getD .skip)
structure Ready (k : Nat) (x : Al) : Prop where
  al : x.al = fun _ => none
  head : Bth.Head x.regs x.edges x.al x.edges x.poss
  fits : AlFits x
  regs : ∀ r ∈ x.regs, isV r = false ∧ r < 4294967296
  kind : ∀ v, x.poss v ≠ none → kindOf v = k
def ColorOf (x : Al) (r : Option (Nat → Option Nat)) : Prop := ∃ rem, RemOf x.poss rem ∧ r = color x.regs x.edges (rem.length + 1) rem x.al
def uni (D : List Nat) (fk : Nat → Nat → Option Nat) (v : Nat) : Option Nat := if kindOf v ∈ D then fk (kindOf v) v else none
def GivesAR (w : World) (fb : Nat) (f : Fn) (K : List Nat) (xs : Nat → Al) (e : Ending) (w' : World) : Prop :=
  Fr (fun b => b = fb) w w' ∧ (((∃ k ∈ K, ColorOf (xs k) none) ∧ ∃ T v, e = .returned (.iface T v)) ∨
    ∃ (fk : Nat → Nat → Option Nat) (b : Nat), (∀ k ∈ K, ColorOf (xs k) (some (fk k))) ∧ e = .returned .nilIface ∧ FnAt w' fb { f with al := some b } ∧ IdMap w' b (uni K fk) ∧ w.heap.size ≤ b)
theorem ColorOf.kind {k : Nat} {x : Al} {f : Nat → Option Nat} (hr : Ready k x) (h : ColorOf x (some f)) : ∀ v, f v ≠ none → kindOf v = k := by
  obtain ⟨rem, h1, h2⟩ := h
  intro v hv
  have h3 := (color_spec (rem.length + 1) rem x.al f h1.nd h2.symm).2.1
  by_cases hm : v ∈ rem
  · exact hr.kind v ((h1.mem v).1 hm)
  · have := h3 v hm
    rw [this, hr.al] at hv
    exact absurd rfl hv
theorem uni_step {D : List Nat} {fk : Nat → Nat → Option Nat} {k : Nat} (hk : k ∉ D) (f : Nat → Option Nat) (hf : ∀ v, f v ≠ none → kindOf v = k) : both (uni D fk) f = uni (D ++ [k]) (updF fk k f) := by
  funext v
  unfold both uni
  by_cases e : kindOf v = k
  · rw [e, updF_self]
    simp only [List.mem_append, List.mem_singleton, or_true, if_true, if_neg hk]
    cases f v <;> rfl
  · have : f v = none := Classical.byContradiction fun h => e (hf v h)
    rw [this, updF_ne _ _ e]
    simp [e]
set_option maxHeartbeats 4000000 in
theorem phE (w0 w : World) (mb fb : Nat) (f : Fn) (K : List Nat) (gs : Nat → AlG) (xs : Nat → Al) (Ps : Nat → Nat → Prop) {u1 u2 u4 u5 u6 u7 u8 u9 u10 u11 u12 u13 u14 u15 u16 u17 u18 u19 u20 u21 u22 u23 u24 u25 u26 u27 u28 u29 u30 u31 u32 u33 u34 u35 u36 u37 u38 u39 u40 u41 u42 u43 u44 u45 u46 u47 u48 u49 u50 u51 u52 u53 u54 u55 u56 u57 u58 u59 u60 u61 u62 u63 u64 u65 u66 u67 u68 u69 u70 u71 u72 u73 u74 u75 u76 u77 u78 u79 u80 u81 u82 u83 u84 u85 u86 u87 u88 u89 u90 u91 u92 u93 u94 u95 u96 u97 u98 u99 u100 u101 u102 u103 u104 u105 u106 u107 u108 u109 u110 u111 u112 u113 u114 u115 u116 u117 u118 u119 u120 u121 u122 u123 u124 u125 u126 u127 u128 u129 u130 u131 u132 u133 u134 u135 u136 u137 u138 u139 u140 u141 u142 u143 u144 u145 u146 u147 u148 u149 u150 u151 u152 u153 u154 u155 u156 u157 u158 u159 u160 u161 u162 u163 u164 u165 u166 u167 u168 u169 u170 u171 u172 u173 u174 u175 u176 u177 u178 u179 u180 u181 u182 u183 u184 : Value} (hA : AS w0 w mb K gs xs Ps) (hfr : Fr nope w0 w) (hfn : FnAt w0 fb f) (hR : ∀ k ∈ K, Ready k (xs k)) :
    Code.wp Tryz.prog (arTail 6) (bodyPost Tryz.prog Tryz.f37 (GivesAR w0 fb f K xs)) ⟨#[.pointer (some ⟨fb, 0, none⟩), u1, u2, .map (some mb), u4, u5, u6, u7, u8, u9, u10, u11, u12, u13, u14, u15, u16, u17, u18, u19, u20, u21, u22, u23, u24, u25, u26, u27, u28, u29, u30, u31, u32, u33, u34, u35, u36, u37, u38, u39, u40, u41, u42, u43, u44, u45, u46, u47, u48, u49, u50, u51, u52, u53, u54, u55, u56, u57, u58, u59, u60, u61, u62, u63, u64, u65, u66, u67, u68, u69, u70, u71, u72, u73, u74, u75, u76, u77, u78, u79, u80, u81, u82, u83, u84, u85, u86, u87, u88, u89, u90, u91, u92, u93, u94, u95, u96, u97, u98, u99, u100, u101, u102, u103, u104, u105, u106, u107, u108, u109, u110, u111, u112, u113, u114, u115, u116, u117, u118, u119, u120, u121, u122, u123, u124, u125, u126, u127, u128, u129, u130, u131, u132, u133, u134, u135, u136, u137, u138, u139, u140, u141, u142, u143, u144, u145, u146, u147, u148, u149, u150, u151, u152, u153, u154, u155, u156, u157, u158, u159, u160, u161, u162, u163, u164, u165, u166, u167, u168, u169, u170, u171, u172, u173, u174, u175, u176, u177, u178, u179, u180, u181, u182, u183, u184], []⟩ w := by
  have hfw := hfr.heap hfn (fun x => x)
  have hfl := lt_of_heap hfw
  have hfl0 := lt_of_heap hfn
  conv => arg 2; whnf
  have hc7 := FnAt.c7 hfw
  have hz7 := frozen_row hfw 7
  go_upto_region 49 with (go_at_call 75; refine (NewEmptyAl_calls _).mono ?_; rintro e w5 ⟨rfl, rfl⟩)
  have hPlt : ∀ k ∈ K, ∀ c, Ps k c → c < w.heap.size := fun k hk c hc => (hA.at_ k hk).lt c hc
  have hwsz := hfr.size
  obtain ⟨W0, hW0⟩ : ∃ W0, W0 = (w.setCell ⟨fb, 7, none⟩ (.map (some w.heap.size))).alloc (.map #[] 0) := ⟨_, rfl⟩
  have hs0 : (w.setCell ⟨fb, 7, none⟩ (.map (some w.heap.size))).heap.size = w.heap.size := by simp [World.setCell]
  have hf0 : Fr (fun b => b = fb) w W0 := by rw [hW0]; exact ((Fr.refl (fun b => b = fb) w).setCell (.inl rfl) _).alloc _
  have hfn0 : FnAt W0 fb { f with al := some w.heap.size } := by
    rw [hW0]
    exact ((Fr.refl nope _).alloc _).heap (setCell_heap hfw _) (fun x => x)
  have hM0 : IdMap W0 w.heap.size (uni [] fun _ _ => none) := by
    rw [hW0]
    refine ⟨[], ?_⟩
    have := MapAt.made (w.setCell ⟨fb, 7, none⟩ (.map (some w.heap.size))) idV
    rw [hs0] at this
    exact this
  have hs1 : W0.heap.size = w.heap.size + 1 := by rw [hW0]; simp [hs0]
  have hA0 := hA.keep hf0 (fun k hk c hc e => by have := (hA.new k hk c hc).1; omega) (fun e => by have := hA.mbn; omega)
  have hfr0 : Fr (fun b => b = fb) w0 W0 := hfr.of_nope.then hf0
  obtain ⟨ks, hmap⟩ := hA0.map
  have hks : ∀ k, k ∈ ks ↔ k ∈ K := fun k => by rw [hmap.mem_iff]; unfold asF; by_cases h : k ∈ K <;> simp [h]
  have hks0 := hmap.nodup
  have hat0 := hA0.at_
  have hnew := hA.new
  have hapart := hA.apart
  have hmbn := hA.mbn
  have hmbl := hA.lt
  rw [← hW0]
  replace hW0 := Lib.hid hW0
  replace hs0 := Lib.hid hs0
  clear hA hA0 hc7 hz7 hfn hfw hfr hf0
  go_wp2_with (refine wpList_rangeO rfl rfl rfl (show MapO W0 (some mb) kindV ks (asF K gs) from hmap) kindInj asT ?_; intro w1 hrg0 hf1 hsz1)
  go_frame
  have hs11 : w1.heap.size = w.heap.size + 2 := by rw [hsz1, hs1]
  rw [hs1] at hrg0 ⊢
  replace hs1 := Lib.hid hs1
  replace hsz1 := Lib.hid hsz1
  replace hs11 := Lib.hid hs11
  clear hmap
  replace hks := Lib.hid hks
  go_loopg [] ks.length (fun n wr => ∃ (todo D : List Nat) (fk : Nat → Nat → Option Nat), RangeO wr (w.heap.size + 1) (some mb) kindV ks (asF K gs) todo ∧ (∀ k ∈ todo, k ∈ K ∧ AlAt wr (Ps k) (xs k) (gs k)) ∧ KInv ks todo D ∧ (∀ k ∈ D, ColorOf (xs k) (some (fk k))) ∧ IdMap wr w.heap.size (uni D fk) ∧ FnAt wr fb { f with al := some w.heap.size } ∧ Fr (fun b => b = fb) w0 wr ∧ w.heap.size + 2 ≤ wr.heap.size ∧ todo.length = n)
  case atStart => exact ⟨ks, [], fun _ _ => none, hrg0, fun k hk => ⟨(hks.out k).1 hk, (hat0 k ((hks.out k).1 hk)).still hf1⟩, ⟨hks0, List.nodup_nil, by simp, by simp⟩, by simp, hM0.fr hf1 (fun x => x), hfn0.fr hf1 (fun x => x), hfr0.then hf1.of_nope, Nat.le_of_eq hs11.out.symm, rfl⟩
  case round =>
    obtain ⟨todo, D, fk, hrg, hat, hI, hC, hM, hfn, hf, hsw, rfl⟩ := hrel
    go_wp2_with (refine wpList_nextO rfl rfl rfl hrg kindInj ?_ ?_)
    · intro h0
      subst h0
      have hDK : ∀ k, k ∈ D ↔ k ∈ K := fun k => by rw [← hks.out, hI.mem]; simp
      have hun : uni D fk = uni K fk := by
        funext v
        unfold uni
        simp only [hDK]
      replace hun := Lib.hid hun
      clear hI hrg hat
      go_wp2
      go_ret
      exact ⟨hf, .inr ⟨fk, w.heap.size, fun k hk => hC k ((hDK k).2 hk), rfl, hfn, by rw [← hun.out]; exact hM, hwsz⟩⟩
    · intro k v w2 hkt hkk hv hrg2 hf2 hs2 hen
      have hkK := (hks.out k).1 hkk
      obtain rfl : v = ptr (gs k).a := by
        unfold asF at hv
        rw [if_pos hkK] at hv
        exact (Option.some.inj hv).symm
      have hI1 := hI.step hkt
      have hkD : k ∉ D := fun hh => hI.ap k hh hkt
      have hlen : (todo.erase k).length < todo.length := by rw [List.length_erase_of_mem hkt]; have := List.length_pos_of_mem hkt; omega
      have hr0 : ∀ j ∈ K, ¬ Ps j (w.heap.size + 1) := fun j hj hp => by have := hPlt j hj _ hp; omega
      have hN0 : ∀ j ∈ K, ¬ Ps j w.heap.size := fun j hj hp => by have := hPlt j hj _ hp; omega
      have hat2 : ∀ j ∈ todo, AlAt w2 (Ps j) (xs j) (gs j) := fun j hj => ((hat j hj).2).fr hf2 (fun c hc e => hr0 j (hat j hj).1 (e ▸ hc))
      have hkA := hat2 k hkt
      obtain ⟨rem, hrem⟩ : ∃ rem, RemOf (xs k).poss rem := by
        obtain ⟨kq, sv, hm, _⟩ := hkA.poss
        exact ⟨kq, rem_ks hm⟩
      have hRk := hR k hkK
      have hM2 : IdMap w2 w.heap.size (uni D fk) := hM.fr hf2 (by omega)
      have hfn2 : FnAt w2 fb { f with al := some w.heap.size } := hfn.fr hf2 (by omega)
      have hfr2 : Fr (fun b => b = fb) w0 w2 := hf.then_new hf2 (fun c hc e => by omega)
      have hcall := Allocate_calls w2 (Ps k) (xs k) (gs k) rem hkA hrem hRk.head hRk.fits hRk.regs
      unfold ptr at hen hcall
      unfold kindV at hen
      have hs2' : w.heap.size + 2 ≤ w2.heap.size := by omega
      replace hs2 := Lib.hid hs2
      clear hv hrg hat
      go_wp2_with fail
      refine hcall.mono ?_
      rintro e w3 ⟨hf3, ⟨hn, T, y, rfl⟩ | ⟨g, ba, hg, rfl, hba, hwb⟩⟩
      · have hcol : ColorOf (xs k) none := ⟨rem, hrem, hn.symm⟩
        have hfr3 : Fr (fun b => b = fb) w0 w3 := hfr2.then_new hf3 (fun c hc hp => by have := (hnew k hkK c hp).1; omega)
        replace hn := Lib.hid hn
        go_wp2
        go_ret
        exact ⟨hfr3, .inl ⟨⟨k, hkK, hcol⟩, _, _, rfl⟩⟩
      · have hcol : ColorOf (xs k) (some g) := ⟨rem, hrem, hg.symm⟩
        have hgk := hcol.kind hRk
        have hfr3 : Fr (fun b => b = fb) w0 w3 := hfr2.then_new hf3 (fun c hc hp => by have := (hnew k hkK c hp).1; omega)
        have hM3 : IdMap w3 w.heap.size (uni D fk) := hM2.fr hf3 (hN0 k hkK)
        have hfn3 : FnAt w3 fb { f with al := some w.heap.size } := hfn2.fr hf3 (fun hp => by have := (hnew k hkK _ hp).1; omega)
        have hbn : ba ≠ w.heap.size := fun e => by
          rcases hwb with hwb | hwb
          · exact hN0 k hkK (e ▸ hwb)
          · have := hwb.1; omega
        have hmc := Merge_calls w3 w.heap.size ba (uni D fk) g hM3 hba hbn (fun v hv => by
          unfold uni
          rw [hgk v hv, if_neg hkD])
        rw [uni_step hkD g hgk] at hmc
        have hc73 := FnAt.c7 hfn3
        have hfl3 := lt_of_heap hfn3
        replace hg := Lib.hid hg
        simp only at hc73
        clear hba hwb
        go_wp2_with (go_at_call 77; refine hmc.mono ?_; rintro e w4 ⟨rfl, hM4, hf4⟩)
        go_roundg (todo.erase k).length
        case measure => exact hlen
        case rel =>
          refine ⟨_, D ++ [k], updF fk k g, (hrg2.fr hf3 (hr0 k hkK) (fun b hb hp => ?_)).fr hf4 (by omega) (fun b hb e => by injection hb with hb; omega), fun j hj => ?_, hI1, fun j hj => ?_, hM4, hfn3.fr hf4 (by omega), hfr3.then_new hf4 (fun c hc e => by omega), by have := hf3.size; have := hf4.size; omega, rfl⟩
          · injection hb with hb
            subst hb
            exact (hnew k hkK _ hp).2 rfl
          · have hjt := List.mem_of_mem_erase hj
            have hjk : j ≠ k := fun e => by subst e; exact ((List.Nodup.mem_erase_iff hI.nd).1 hj).1 rfl
            have hjK : j ∈ K := (hks.out j).1 ((hI.mem j).2 (.inr hjt))
            exact ⟨hjK, ((hat2 j hjt).fr hf3 (fun c hc hp => hapart j hjK k hkK hjk c hc hp)).fr hf4 (fun c hc e => hN0 j hjK (e ▸ hc))⟩
          · rcases List.mem_append.1 hj with hj | hj
            · rw [updF_ne _ _ (fun e => hkD (by rw [← e]; exact hj))]; exact hC j hj
            · obtain rfl : j = k := by simpa using hj
              rw [updF_self]; exact hcol
end
section
open Go Go.RowKit Bth
set_option maxRecDepth 100000
def toldOf (A : Nat → Prop) (E : Nat × Nat → Prop) (v : Nat) : Prop := A v ∨ ∃ e, E e ∧ (v = e.1 ∨ v = e.2)
structure AOk (k : Nat) (x : Al) (A : Nat → Prop) (E : Nat × Nat → Prop) : Prop where
  regs : x.regs = regsK k
  al : x.al = fun _ => none
  edges : ∀ e, e ∈ x.edges ↔ E e
  list : ∀ v l, x.poss v = some l → isV v = true ∧ toldOf A E v ∧ l = x.regs
  has : ∀ v, isV v = true → toldOf A E v → x.poss v ≠ none
  kind : ∀ v, toldOf A E v → kindOf v = k ∧ v < 4294967296
theorem regsFor_kind {k : Nat} (hk : k ≤ 3) {x : Al} (h : x.regs = regsK k) {v : Nat} (hv : kindOf v = k) : regsFor x v = x.regs := by
  unfold regsFor
  rw [h]
  refine List.filter_eq_self.2 fun r hr => ?_
  have := ((regsK_facts k (by omega)).2.2.2.2.1 r hr).2.2
  rw [hv, this]
  simp
theorem AOk.congr {k : Nat} {x : Al} {A A' : Nat → Prop} {E E' : Nat × Nat → Prop} (h : AOk k x A E) (hE : ∀ e, E' e ↔ E e) (hT : ∀ v, toldOf A' E' v ↔ toldOf A E v) : AOk k x A' E' :=
  ⟨h.regs, h.al, fun e => (h.edges e).trans (hE e).symm, fun v l hl => ⟨(h.list v l hl).1, (hT v).2 (h.list v l hl).2.1, (h.list v l hl).2.2⟩, fun v h1 h2 => h.has v h1 ((hT v).1 h2), fun v hv => h.kind v ((hT v).1 hv)⟩
theorem AOk.add {k : Nat} (hk : k ≤ 3) {x : Al} {A : Nat → Prop} {E : Nat × Nat → Prop} (h : AOk k x A E) {v : Nat} (hv : kindOf v = k) (h32 : v < 4294967296) : AOk k (addA x v) (fun u => A u ∨ u = v) E := by
  have hT : ∀ u, toldOf (fun u => A u ∨ u = v) E u ↔ toldOf A E u ∨ u = v := fun u => by unfold toldOf; constructor <;> intro hh <;> rcases hh with (hh | hh) | hh <;> simp_all
  have hal : (addA x v).al = x.al := by unfold addA; split <;> rfl
  refine ⟨(addA_regs x v).trans h.regs, hal.trans h.al, by rw [addA_edges]; exact h.edges, fun u l hu => ?_, fun u hu ht => ?_, fun u hu => ?_⟩
  · rw [addA_regs]
    unfold addA at hu
    split at hu
    · rename_i hc
      simp only [setL] at hu
      split at hu
      · rename_i e
        subst e
        injection hu with hu
        exact ⟨by simp at hc; exact hc.1, (hT u).2 (.inr rfl), by rw [← hu]; exact regsFor_kind hk h.regs hv⟩
      · obtain ⟨g1, g2, g3⟩ := h.list u l hu
        exact ⟨g1, (hT u).2 (.inl g2), g3⟩
    · obtain ⟨g1, g2, g3⟩ := h.list u l hu
      exact ⟨g1, (hT u).2 (.inl g2), g3⟩
  · unfold addA
    split
    · simp only [setL]
      split
      · simp
      · rename_i e
        exact h.has u hu (((hT u).1 ht).resolve_right e)
    · rename_i hc
      by_cases e : u = v
      · subst e
        simp only [hu, Bool.true_and] at hc
        intro hn
        rw [hn] at hc
        exact hc rfl
      · exact h.has u hu (((hT u).1 ht).resolve_right e)
  · rcases (hT u).1 hu with hu | rfl
    · exact h.kind u hu
    · exact ⟨hv, h32⟩
theorem AOk.addI {k : Nat} (hk : k ≤ 3) {x : Al} {A : Nat → Prop} {E : Nat × Nat → Prop} (h : AOk k x A E) {a b : Nat} (ha : kindOf a = k) (ha2 : a < 4294967296) (hb : kindOf b = k) (hb2 : b < 4294967296) : AOk k (addI x a b) A (fun e => E e ∨ e = (a, b)) := by
  have h2 := (h.add hk ha ha2).add hk hb hb2
  have hT : ∀ u, toldOf A (fun e => E e ∨ e = (a, b)) u ↔ toldOf (fun u => (A u ∨ u = a) ∨ u = b) E u := fun u => by
    unfold toldOf
    constructor
    · rintro (hh | ⟨e, he | rfl, hu⟩)
      · exact .inl (.inl (.inl hh))
      · exact .inr ⟨e, he, hu⟩
      · rcases hu with rfl | rfl
        · exact .inl (.inl (.inr rfl))
        · exact .inl (.inr rfl)
    · rintro (((hh | rfl) | rfl) | ⟨e, he, hu⟩)
      · exact .inl hh
      · exact .inr ⟨(u, b), .inr rfl, .inl rfl⟩
      · exact .inr ⟨(a, u), .inr rfl, .inr rfl⟩
      · exact .inr ⟨e, .inl he, hu⟩
  have he : (Go.Proofs.YtbaihlfnbdifgaaGreat.addI x a b).edges = x.edges ++ [(a, b)] := rfl
  refine ⟨h2.regs, h2.al, fun e => ?_, fun v l hl => ?_, fun v h1 ht => h2.has v h1 ((hT v).1 ht), fun v hv => h2.kind v ((hT v).1 hv)⟩
  · rw [he, List.mem_append, h.edges]; simp
  · obtain ⟨g1, g2, g3⟩ := h2.list v l hl
    exact ⟨g1, (hT v).2 g2, g3⟩
theorem AOk.addIs {k : Nat} (hk : k ≤ 3) {d : Nat} (hd : kindOf d = k) (hd2 : d < 4294967296) : ∀ (D : List Nat) {x : Al} {A : Nat → Prop} {E : Nat × Nat → Prop}, AOk k x A E → (∀ c ∈ D, kindOf c = k ∧ c < 4294967296) →
    AOk k (addIs x d D) A (fun e => E e ∨ ∃ c ∈ D, e = (d, c)) := by
  intro D
  induction D with
  | nil => intro x A E h _; exact h.congr (fun e => by simp) (fun v => by unfold toldOf; simp)
  | cons c D ih =>
    intro x A E h hD
    obtain ⟨h1, h2⟩ := hD c (by simp)
    have := ih (h.addI hk hd hd2 h1 h2) (fun b hb => hD b (by simp [hb]))
    refine AOk.congr (x := Go.Proofs.YtbaihlfnbdifgaaGreat.addIs x d (c :: D)) this (fun e => ?_) (fun v => ?_)
    · simp only [List.mem_cons]
      constructor
      · rintro (hh | ⟨b, rfl | hb, rfl⟩)
        · exact .inl (.inl hh)
        · exact .inl (.inr rfl)
        · exact .inr ⟨b, hb, rfl⟩
      · rintro ((hh | rfl) | ⟨b, hb, rfl⟩)
        · exact .inl hh
        · exact .inr ⟨c, .inl rfl, rfl⟩
        · exact .inr ⟨b, .inr hb, rfl⟩
    · have hE : ∀ e, (E e ∨ ∃ b ∈ c :: D, e = (d, b)) ↔ ((E e ∨ e = (d, c)) ∨ ∃ b ∈ D, e = (d, b)) := fun e => by
        simp only [List.mem_cons]
        constructor
        · rintro (hh | ⟨b, rfl | hb, rfl⟩)
          · exact .inl (.inl hh)
          · exact .inl (.inr rfl)
          · exact .inr ⟨b, hb, rfl⟩
        · rintro ((hh | rfl) | ⟨b, hb, rfl⟩)
          · exact .inl hh
          · exact .inr ⟨c, .inl rfl, rfl⟩
          · exact .inr ⟨b, .inr hb, rfl⟩
      unfold toldOf
      simp only [hE]
theorem AOk.ready {k : Nat} (hk : k ≤ 3) {x : Al} {A : Nat → Prop} {E : Nat × Nat → Prop} (h : AOk k x A E) (hl : x.edges.length ≤ 8796093022208) : Ready k x := by
  obtain ⟨_, _, _, _, hf, hlen, _⟩ := regsK_facts k (by omega)
  have hreg : ∀ r ∈ x.regs, isV r = false ∧ r < 4294967296 := fun r hr => by
    rw [h.regs] at hr
    exact ⟨(hf r hr).1, (hf r hr).2.1⟩
  have hend : ∀ e ∈ x.edges, toldOf A E e.1 ∧ toldOf A E e.2 := fun e he => ⟨.inr ⟨e, (h.edges e).1 he, .inl rfl⟩, .inr ⟨e, (h.edges e).1 he, .inr rfl⟩⟩
  refine ⟨h.al, ?_, ⟨fun e he => ⟨(h.kind _ (hend e he).1).2, (h.kind _ (hend e he).2).2⟩, fun v p hv => (by rw [h.al] at hv; cases hv), fun v l hv => ?_, hl⟩, hreg, fun v hv => ?_⟩
  · rw [h.al]
    exact Head.start (fun r hr => (hreg r hr).1) (fun v l hv => ⟨(h.list v l hv).1, (h.list v l hv).2.2⟩) (fun e he => ⟨fun h1 => h.has _ h1 (hend e he).1, fun h1 => h.has _ h1 (hend e he).2⟩)
  · rw [(h.list v l hv).2.2, h.regs]; omega
  · cases hp : x.poss v with
    | none => exact absurd hp hv
    | some l => exact (h.kind v (h.list v l hp).2.1).1
def hits (F : Nat → Nat) (d : R) (c : Nat) : Prop := c ≠ d.id ∧ kindOf c = d.kind ∧ F c &&& d.spec ≠ 0
def EP (rs : List Rec) (V : Nat → Nat → Nat) (i j k : Nat) (e : Nat × Nat) : Prop := ∃ i' r d, rs[i']? = some r ∧ ((i' < i ∧ d ∈ outRegs r.out) ∨ (i' = i ∧ d ∈ (outRegs r.out).take j)) ∧ d.kind = k ∧ e.1 = d.id ∧ hits (V i') d e.2
def EAll (rs : List Rec) (V : Nat → Nat → Nat) (k : Nat) (e : Nat × Nat) : Prop := ∃ (i' : Nat) (r : Rec) (d : R), rs[i']? = some r ∧ d ∈ outRegs r.out ∧ d.kind = k ∧ e.1 = d.id ∧ hits (V i') d e.2
theorem EP.start (rs : List Rec) (V : Nat → Nat → Nat) (k : Nat) (e : Nat × Nat) : ¬ EP rs V 0 0 k e := by
  rintro ⟨i', r, d, _, ⟨h, _⟩ | ⟨_, h⟩, _⟩
  · omega
  · simp at h
theorem EP.done {rs : List Rec} {V : Nat → Nat → Nat} {k : Nat} {e : Nat × Nat} : EP rs V rs.length 0 k e ↔ EAll rs V k e := by
  constructor
  · rintro ⟨i', r, d, h1, ⟨_, h⟩ | ⟨_, h⟩, h3⟩
    · exact ⟨i', r, d, h1, h, h3⟩
    · simp at h
  · rintro ⟨i', r, d, h1, h, h3⟩
    exact ⟨i', r, d, h1, .inl ⟨(List.getElem?_eq_some_iff.1 h1).1, h⟩, h3⟩
theorem EP.row {rs : List Rec} {V : Nat → Nat → Nat} {i k : Nat} {r : Rec} (hr : rs[i]? = some r) {e : Nat × Nat} : EP rs V i (outRegs r.out).length k e ↔ EP rs V (i + 1) 0 k e := by
  constructor
  · rintro ⟨i', r', d, h1, ⟨h, h2⟩ | ⟨rfl, h2⟩, h3⟩
    · exact ⟨i', r', d, h1, .inl ⟨by omega, h2⟩, h3⟩
    · rw [hr] at h1
      injection h1 with h1
      subst h1
      exact ⟨i', r, d, hr, .inl ⟨by omega, by simpa using h2⟩, h3⟩
  · rintro ⟨i', r', d, h1, ⟨h, h2⟩ | ⟨_, h2⟩, h3⟩
    · by_cases e : i' = i
      · subst e
        rw [hr] at h1
        injection h1 with h1
        subst h1
        exact ⟨i', r, d, hr, .inr ⟨rfl, by simpa using h2⟩, h3⟩
      · exact ⟨i', r', d, h1, .inl ⟨by omega, h2⟩, h3⟩
    · simp at h2
theorem EP.step {rs : List Rec} {V : Nat → Nat → Nat} {i j k : Nat} {r : Rec} {d : R} (hr : rs[i]? = some r) (hd : (outRegs r.out)[j]? = some d) {e : Nat × Nat} : EP rs V i (j + 1) k e ↔ EP rs V i j k e ∨ (d.kind = k ∧ e.1 = d.id ∧ hits (V i) d e.2) := by
  constructor
  · rintro ⟨i', r', d', h1, ⟨h, h2⟩ | ⟨rfl, h2⟩, h3⟩
    · exact .inl ⟨i', r', d', h1, .inl ⟨h, h2⟩, h3⟩
    · rw [hr] at h1
      injection h1 with h1
      subst h1
      rw [List.take_add_one, hd] at h2
      rcases List.mem_append.1 h2 with h2 | h2
      · exact .inl ⟨i', r, d', hr, .inr ⟨rfl, h2⟩, h3⟩
      · obtain rfl : d' = d := by simpa using h2
        exact .inr h3
  · rintro (⟨i', r', d', h1, ⟨h, h2⟩ | ⟨rfl, h2⟩, h3⟩ | h3)
    · exact ⟨i', r', d', h1, .inl ⟨h, h2⟩, h3⟩
    · rw [hr] at h1
      injection h1 with h1
      subst h1
      exact ⟨i', r, d', hr, .inr ⟨rfl, by rw [List.take_add_one]; exact List.mem_append_left _ h2⟩, h3⟩
    · exact ⟨i, r, d, hr, .inr ⟨rfl, by rw [List.take_add_one, hd]; simp⟩, h3⟩
def outsN (rs : List Rec) (i : Nat) : Nat := ((rs.take i).map fun r => (outRegs r.out).length).sum
theorem outsN_step {rs : List Rec} {i : Nat} {r : Rec} (h : rs[i]? = some r) : outsN rs (i + 1) = outsN rs i + (outRegs r.out).length := by
  unfold outsN
  rw [List.take_add_one, h, List.map_append, List.sum_append]
  simp
theorem outsN_le {rs : List Rec} {i : Nat} : outsN rs i ≤ outsN rs rs.length := by
  unfold outsN
  have e : rs.take rs.length = rs.take i ++ rs.drop i := by rw [List.take_length, List.take_append_drop]
  rw [e, List.map_append, List.sum_append]
  omega
theorem toldOf_congr {A : Nat → Prop} {E E' : Nat × Nat → Prop} (h : ∀ e, E' e ↔ E e) (v : Nat) : toldOf A E' v ↔ toldOf A E v := by unfold toldOf; simp only [h]
theorem R.kind_id {r : R} (ok : r.Ok) : kindOf r.id = r.kind := by
  have := ok.kind
  have := ok.idx
  unfold kindOf R.id
  split <;> omega
end
end Go.Proofs.YtbaihlfnbdifgaaGreat
