/- Part of the proof of boundApart_upto. -/
import Derived.Test.YtbaihlfnbdifgaaGreatP10
import Derived.Test.YtbaihlfnbdifgaaGreatP16
import Derived.Test.YtbaihlfnbdifgaaGreatP18
import Derived.Test.YtbaihlfnbdifgaaGreatP22
import Derived.Test.YtbaihlfnbdifgaaGreatP23
import Derived.Test.YtbaihlfnbdifgaaGreatP24
namespace Go.Proofs.YtbaihlfnbdifgaaGreat
section
open Go Go.RowKit Bth
set_option maxRecDepth 100000
def O.Nn : O → Prop
  | .con c => 0 ≤ c.bits
  | _ => True
def O.po : O → PO
  | .reg r => ⟨1, r.plain, false, false, g0, g0, 0, 0, e0, false, ⟨0, 0, e0⟩, e0, 0⟩
  | .mem m => ⟨2, g0, m.base.isSome, m.index.isSome, (m.base.map R.plain).getD g0, (m.index.map R.plain).getD g0, m.scale, m.disp, m.sym, m.static, ⟨0, 0, e0⟩, e0, 0⟩
  | .con c => ⟨3, g0, false, false, g0, g0, 0, 0, e0, false, ⟨c.k.num, c.bits.toNat, c.text⟩, e0, 0⟩
  | .label s => ⟨4, g0, false, false, g0, g0, 0, 0, e0, false, ⟨0, 0, e0⟩, s, 0⟩
  | .rel n => ⟨5, g0, false, false, g0, g0, 0, 0, e0, false, ⟨0, 0, e0⟩, e0, n⟩
theorem O.po_cells {o : O} (hn : o.Nn) : o.pcells = o.po.cells := by
  cases o with
  | con c =>
    have h : ((c.bits.toNat : Nat) : Int) = c.bits := Int.toNat_of_nonneg hn
    unfold O.pcells O.po PO.cells opCells
    simp only [h]
  | _ => rfl
theorem R.plain_ok {r : R} (h : r.Ok) : r.plain.Ok := ⟨h.kind, h.idx, h.spec⟩
theorem g0_ok : g0.Ok := ⟨by decide, by decide, by decide⟩
theorem O.po_ok {w : World} {o : O} (h : o.At w) : o.po.Ok := by
  cases o with
  | reg r => exact ⟨R.plain_ok (h r (by simp [O.regs])).1, g0_ok, g0_ok⟩
  | mem m =>
    refine ⟨g0_ok, ?_, ?_⟩
    · show ((m.base.map R.plain).getD g0).Ok
      cases hb : m.base with
      | none => exact g0_ok
      | some r => exact R.plain_ok (h r (by simp [O.regs, M.regs, hb])).1
    · show ((m.index.map R.plain).getD g0).Ok
      cases hb : m.index with
      | none => exact g0_ok
      | some r => exact R.plain_ok (h r (by simp [O.regs, M.regs, hb])).1
  | con c => exact ⟨g0_ok, g0_ok, g0_ok⟩
  | label s => exact ⟨g0_ok, g0_ok, g0_ok⟩
  | rel n => exact ⟨g0_ok, g0_ok, g0_ok⟩
def PO.list (p : PO) : List Value := p.cells.toList
theorem opsCells_po {os : List O} (hn : ∀ o ∈ os, o.Nn) : opsCells os = (os.map O.po).flatMap PO.list := by
  unfold opsCells PO.list
  induction os with
  | nil => rfl
  | cons o os ih => rw [List.map_cons, List.flatMap_cons, List.flatMap_cons, ih (fun x hx => hn x (by simp [hx])), O.po_cells (hn o (by simp))]
theorem PO.list_len (p : PO) : p.list.length = 24 := rfl
def SvS (w : World) (s : SV) (l : List ByteArray) : Prop := s.n = l.length ∧ Rw w 9 1 s.A l.length (l.map Value.string)
def SvO (w : World) (s : SV) (l : List PO) : Prop := s.n = l.length ∧ Rw w 65 24 s.A l.length (l.flatMap PO.list)
def plT : List TypeId := [9, 65]
theorem SvS.at_ {w : World} {s : SV} {l : List ByteArray} (h : SvS w s l) : StrsAt w s l := ⟨h.1, by simp, fun hn => by
  obtain ⟨b, off, cs, fr, h1, h2, h3⟩ := h.2.row hn
  exact ⟨b, off, h1, lt_of_heap h2, h3⟩⟩
theorem SvO.at_ {w : World} {s : SV} {l : List PO} (h : SvO w s l) : POsAt w s l := ⟨h.1, fun hn => by
  obtain ⟨b, off, cs, fr, h1, h2, h3⟩ := h.2.row hn
  refine ⟨b, off, h1, lt_of_heap h2, fun k p hk j v hv => ?_⟩
  have := h3 _ v (flat_get (f := PO.list) PO.list_len hk j v hv)
  rw [← Nat.add_assoc] at this
  exact this⟩
theorem Rw.below {w : World} {e : TypeId} {size n : Nat} {A : Option Addr} {xs : List Value} (h : Rw w e size A n xs) (hA : n = 0 → A = none) : ∀ b off, A = some ⟨b, off, none⟩ → b < w.heap.size := by
  intro b off e
  rcases Nat.eq_zero_or_pos n with h0 | h0
  · rw [hA h0] at e; cases e
  · obtain ⟨b', off', cs, fr, h1, h2, _⟩ := h.row h0
    rw [h1] at e
    injection e with e
    injection e with e
    subst e
    exact lt_of_heap h2
def Low (w : World) (A : Option Addr) : Prop := ∀ b off, A = some ⟨b, off, none⟩ → b < w.heap.size
theorem Low.fr {S : Nat → Prop} {w w' : World} {A : Option Addr} (h : Low w A) (hf : Fr S w w') : Low w' A := fun b off e => Nat.lt_of_lt_of_le (h b off e) hf.size
theorem Low.nil (w : World) : Low w none := fun _ _ e => by cases e
theorem Low.own {w : World} {base : Nat} {e : TypeId} {size n c : Nat} {A : Option Addr} {xs : List Value} (h : w.ownsRow base e size (.slice A n c) n xs) : Low w A := fun b off he => by
  rcases h.2 with ⟨h1, h0⟩ | ⟨g, cap, cur, h1, hb, hh, _⟩
  · injection h1 with hA _ _; rw [hA] at he; cases he
  · injection h1 with hA _ _
    rw [hA] at he
    injection he with he
    injection he with he
    subst he
    exact lt_of_heap hh
structure PI.Row (w : World) (i : PI) : Prop where
  suf : SvS w i.sufV i.suf
  ops : SvO w i.opsV i.ops
  inp : SvO w i.inpV i.inp
  out : SvO w i.outV i.out
  isa : SvS w i.isaV i.isa
  low : ∀ s ∈ [i.sufV, i.opsV, i.inpV, i.outV, i.isaV], Low w s.A
  few : i.suf.length ≤ 1048576 ∧ i.ops.length ≤ 1048576 ∧ i.inp.length ≤ 1048576 ∧ i.out.length ≤ 1048576 ∧ i.isa.length ≤ 1048576
  ok : (∀ p ∈ i.ops, p.Ok) ∧ (∀ p ∈ i.inp, p.Ok) ∧ (∀ p ∈ i.out, p.Ok)
theorem PI.Row.frT {S : Nat → Prop} {w w' : World} {i : PI} (h : i.Row w) (hf : Fr S w w') (hs : NoT plT w S) : i.Row w' :=
  ⟨⟨h.suf.1, h.suf.2.frT hf hs (by decide)⟩, ⟨h.ops.1, h.ops.2.frT hf hs (by decide)⟩, ⟨h.inp.1, h.inp.2.frT hf hs (by decide)⟩, ⟨h.out.1, h.out.2.frT hf hs (by decide)⟩, ⟨h.isa.1, h.isa.2.frT hf hs (by decide)⟩, fun s hs' => (h.low s hs').fr hf, h.few, h.ok⟩
theorem PI.Row.at_ {w : World} {i : PI} (h : i.Row w) : i.At w w.heap.size := ⟨h.suf.at_, h.ops.at_, h.inp.at_, h.out.at_, h.isa.at_, fun s hs _ b off e => h.low s hs b off e, h.few, h.ok⟩
structure PN.Row (w : World) (n : PN) : Prop where
  ins : n.ins.Row w
  lines : SvS w n.linesV n.lines
  low : Low w n.linesV.A
  few : n.lines.length ≤ 1048576
theorem PN.Row.frT {S : Nat → Prop} {w w' : World} {n : PN} (h : n.Row w) (hf : Fr S w w') (hs : NoT plT w S) : n.Row w' := ⟨h.ins.frT hf hs, ⟨h.lines.1, h.lines.2.frT hf hs (by decide)⟩, h.low.fr hf, h.few⟩
theorem PN.Row.at_ {w : World} {n : PN} (h : n.Row w) : n.At w w.heap.size := ⟨h.ins.at_, h.lines.at_, fun _ b off e => h.low b off e, h.few⟩
def PN.list (p : PN) : List Value := p.cells.toList
theorem PN.list_len (p : PN) : p.list.length = 13 := rfl
theorem nodes_of {w : World} {base c : Nat} {A : Option Addr} {ns : List PN} (h : w.ownsRow base 50 13 (.slice A ns.length c) ns.length (ns.flatMap PN.list)) (hr : ∀ p ∈ ns, p.Row w) (hf : ns.length ≤ 1048576) : NodesAt w w.heap.size ⟨A, ns.length, c⟩ ns :=
  ⟨rfl, fun hn => by
    obtain ⟨g, e1, hg, hc⟩ := own_cells h hn
    refine ⟨g, 0, e1, hg, hg, fun k p hk j v hv => ?_⟩
    have := hc _ v (flat_get (f := PN.list) PN.list_len hk j v hv)
    rw [Nat.zero_add]
    exact this, fun p hp => (hr p hp).at_, hf⟩
def sv0 : SV := ⟨none, 0, 0⟩
def pi0 : PI := ⟨e0, sv0, [], sv0, [], sv0, [], sv0, [], false, false, false, false, sv0, []⟩
theorem sv0_S (w : World) : SvS w sv0 [] := ⟨rfl, Rw.nil _ _ _⟩
theorem sv0_O (w : World) : SvO w sv0 [] := ⟨rfl, Rw.nil _ _ _⟩
theorem pi0_row (w : World) : pi0.Row w := ⟨sv0_S w, sv0_O w, sv0_O w, sv0_O w, sv0_S w, fun s hs => by simp [pi0] at hs; subst hs; exact Low.nil w, by decide, by simp [pi0]⟩
structure RecP (r : Rec) (i : PI) : Prop where
  opc : i.opc = r.i.opc
  suf : i.suf = r.suf
  isa : i.isa = r.isa
  ops : i.ops = r.ops.map O.po
  inp : i.inp = r.inp.map O.po
  out : i.out = r.out.map O.po
  term : i.term = r.i.term
  br : i.br = r.i.br
  cond : i.cond = r.i.cond
  canc : i.canc = r.i.canc
def NdP (rs : List Rec) (cms : List (Nat × List ByteArray)) : Nd → PN → Prop
  | .ins b, p => p.kind = 1 ∧ p.label = e0 ∧ p.lines = [] ∧ ∃ r ∈ rs, r.b = b ∧ RecP r p.ins
  | .label s, p => p.kind = 2 ∧ p.label = s ∧ p.lines = [] ∧ p.ins = pi0
  | .comment c, p => p.kind = 3 ∧ p.label = e0 ∧ p.ins = pi0 ∧ (c, p.lines) ∈ cms
def NdsP (rs : List Rec) (cms : List (Nat × List ByteArray)) (nds : List Nd) (ns : List PN) : Prop := ns.length = nds.length ∧ ∀ (k : Nat) (nd : Nd), nds[k]? = some nd → ∃ p, ns[k]? = some p ∧ NdP rs cms nd p
theorem NdsP.snoc {rs : List Rec} {cms : List (Nat × List ByteArray)} {nds : List Nd} {ns : List PN} {nd : Nd} {p : PN} (h : NdsP rs cms nds ns) (hp : NdP rs cms nd p) : NdsP rs cms (nds ++ [nd]) (ns ++ [p]) := by
  refine ⟨by simp [h.1], fun k x hx => ?_⟩
  by_cases hlt : k < nds.length
  · rw [List.getElem?_append_left hlt] at hx
    rw [List.getElem?_append_left (by rw [h.1]; exact hlt)]
    exact h.2 k x hx
  · rw [List.getElem?_append_right (by omega)] at hx
    have hk : k - nds.length = 0 := by
      have := (List.getElem?_eq_some_iff.1 hx).1
      simp at this; omega
    rw [hk] at hx
    simp only [List.getElem?_cons_zero, Option.some.injEq] at hx
    subst hx
    rw [List.getElem?_append_right (by rw [h.1]; omega), h.1, hk]
    exact ⟨p, rfl, hp⟩
def piOf (r : Rec) (A1 : Option Addr) (c1 : Nat) (A2 : Option Addr) (c2 : Nat) (A3 : Option Addr) (c3 : Nat) (A4 : Option Addr) (c4 : Nat) (A5 : Option Addr) (c5 : Nat) : PI :=
  ⟨r.i.opc, ⟨A1, r.suf.length, c1⟩, r.suf, ⟨A2, r.ops.length, c2⟩, r.ops.map O.po, ⟨A3, r.inp.length, c3⟩, r.inp.map O.po, ⟨A4, r.out.length, c4⟩, r.out.map O.po, r.i.term, r.i.br, r.i.cond, r.i.canc, ⟨A5, r.isa.length, c5⟩, r.isa⟩
theorem piOf_row {w w' : World} {base : Nat} {r : Rec} {A1 : Option Addr} {c1 : Nat} {A2 : Option Addr} {c2 : Nat} {A3 : Option Addr} {c3 : Nat} {A4 : Option Addr} {c4 : Nat} {A5 : Option Addr} {c5 : Nat} (h : r.At w') (hl : RLens r) (hn : ∀ o, o ∈ r.ops ∨ o ∈ r.inp ∨ o ∈ r.out → o.Nn)
    (g1 : w.ownsRow base 9 1 (.slice A1 r.suf.length c1) r.suf.length (r.suf.map Value.string)) (g2 : w.ownsRow base 65 24 (.slice A2 r.ops.length c2) r.ops.length (opsCells r.ops))
    (g3 : w.ownsRow base 65 24 (.slice A3 r.inp.length c3) r.inp.length (opsCells r.inp)) (g4 : w.ownsRow base 65 24 (.slice A4 r.out.length c4) r.out.length (opsCells r.out))
    (g5 : w.ownsRow base 9 1 (.slice A5 r.isa.length c5) r.isa.length (r.isa.map Value.string)) : (piOf r A1 c1 A2 c2 A3 c3 A4 c4 A5 c5).Row w := by
  have ko : ∀ {os : List O} {A : Option Addr} {c : Nat}, (∀ o ∈ os, o.Nn) → w.ownsRow base 65 24 (.slice A os.length c) os.length (opsCells os) → SvO w ⟨A, os.length, c⟩ (os.map O.po) := fun {os A c} hn g => ⟨by simp, by rw [List.length_map, ← opsCells_po hn]; exact Rw.of_own g⟩
  refine ⟨⟨rfl, Rw.of_own g1⟩, ko (fun o ho => hn o (.inl ho)) g2, ko (fun o ho => hn o (.inr (.inl ho))) g3, ko (fun o ho => hn o (.inr (.inr ho))) g4, ⟨rfl, Rw.of_own g5⟩, fun s hs => ?_, ⟨hl.suf, by simpa [piOf] using hl.ops, by simpa [piOf] using hl.inp, by simpa [piOf] using hl.out, hl.isa⟩, ?_, ?_, ?_⟩
  · simp only [piOf, List.mem_cons, List.not_mem_nil, or_false] at hs
    rcases hs with rfl | rfl | rfl | rfl | rfl
    · exact Low.own g1
    · exact Low.own g2
    · exact Low.own g3
    · exact Low.own g4
    · exact Low.own g5
  · intro p hp; obtain ⟨o, ho, rfl⟩ := List.mem_map.1 hp; exact O.po_ok (h.ats.1 o ho)
  · intro p hp; obtain ⟨o, ho, rfl⟩ := List.mem_map.1 hp; exact O.po_ok (h.ats.2.1 o ho)
  · intro p hp; obtain ⟨o, ho, rfl⟩ := List.mem_map.1 hp; exact O.po_ok (h.ats.2.2 o ho)
theorem rows_snoc {w w' : World} {base n : Nat} {v : Value} {xs : List Value} {ns : List PN} {p : PN} (h : ∀ q ∈ ns, q.Row w) (hp : p.Row w) (ho : w.ownsRow base 50 13 v n xs) (hf : Fr (fun b => v.ownBlock = some b) w w') : ∀ q ∈ ns ++ [p], q.Row w' := by
  intro q hq
  have hT := NoT.own (T := plT) ho (by decide)
  rcases List.mem_append.1 hq with hq | hq
  · exact (h q hq).frT hf hT
  · obtain rfl : q = p := by simpa using hq
    exact hp.frT hf hT
theorem infoPN : (Tryz.prog.info? 50).map (fun i => (i.zero, i.size, i.bytes)) = some (some (.agg #[.int .i64 0, .string ⟨#[]⟩, .slice none 0 0, .string ⟨#[]⟩, .slice none 0 0, .slice none 0 0, .slice none 0 0, .slice none 0 0, .bool false, .bool false, .bool false, .bool false, .slice none 0 0]), 13, 192) := by kernel_rfl
structure NdOk (w : World) (nds : List Nd) (rs : List Rec) (cms : List (Nat × List ByteArray)) : Prop where
  ins : ∀ b, Nd.ins b ∈ nds → ∃ r ∈ rs, r.b = b
  com : ∀ c, Nd.comment c ∈ nds → ∃ l, (c, l) ∈ cms
  lens : ∀ r ∈ rs, RLens r
  lines : ∀ c ∈ cms, c.2.length ≤ 1048576
  recs : ∀ r ∈ rs, r.At w
  nn : ∀ r ∈ rs, ∀ o, o ∈ r.ops ∨ o ∈ r.inp ∨ o ∈ r.out → o.Nn
def GivesPN (w : World) (nds : List Nd) (rs : List Rec) (cms : List (Nat × List ByteArray)) (e : Ending) (w' : World) : Prop :=
  Fr nope w w' ∧ ∃ A c ns, e = .returned (.slice A ns.length c) ∧ NdsP rs cms nds ns ∧ NodesAt w' w'.heap.size ⟨A, ns.length, c⟩ ns
set_option maxHeartbeats 2000000 in
theorem plainNodes_calls (w : World) (fb : Nat) (f : Fn) (nds : List Nd) (rs : List Rec) (cms : List (Nat × List ByteArray)) (hfn : FnAt w fb f) (hno : w.ownsRow (fb + 1) 127 1 f.nodes nds.length (nds.map Nd.val)) (hcms : ∀ c ∈ cms, CmAt w fb c.1 c.2) (hk : NdOk w nds rs cms) (hl : nds.length ≤ 1048576) :
    Calls Tryz.prog 41 #[ptr fb] w (GivesPN w nds rs cms) := by
  obtain ⟨A, c, hnn, _, _⟩ := own_slice hno
  have c5 := hfn.c5
  rw [hnn] at hno c5
  have hSl := own_Sl hno
  unfold ptr
  go_enter Tryz.func41, Tryz.ntmps41
  go_wp2
  clear c5
  go_loopg [3, 14] nds.length (fun n c3 c14 wr => ∃ (k : Nat) (A2 : Option Addr) (c2 : Nat) (ns : List PN), k ≤ nds.length ∧ ns.length = k ∧ c14 = .int .i64 (k : Int) ∧ c3 = .slice A2 k c2 ∧ wr.ownsRow w.heap.size 50 13 (.slice A2 k c2) k (ns.flatMap PN.list) ∧ Hid (∀ p ∈ ns, p.Row wr) ∧ Hid (NdsP rs cms (nds.take k) ns) ∧ Fr nope w wr ∧ n = nds.length - k)
  case atStart => exact ⟨0, none, 0, [], Nat.zero_le _, rfl, rfl, rfl, own_nil _ _ _ _, Lib.hid (by simp), Lib.hid ⟨rfl, by simp⟩, Fr.refl _ _, rfl⟩
  case round =>
    obtain ⟨k, A2, c2, ns, hk', hnl, rfl, rfl, hown, hrow, hnp, hf, rfl⟩ := hrel
    by_cases hlt : k < nds.length
    · obtain ⟨b0, off, u, hAe, hbl, hu, hc⟩ := (hSl.nope hf).at_ hlt
      rw [List.getElem?_map] at hu
      obtain ⟨nd, hnd, rfl⟩ := Option.map_eq_some_iff.1 hu
      have hndm := List.mem_of_getElem? hnd
      have hT := take_snoc hnd
      replace hT := Lib.hid hT
      replace hnd := Lib.hid hnd
      subst hAe
      clear hu
      have hsz := hf.size
      cases nd with
      | ins b =>
        obtain ⟨r, hr, rfl⟩ := hk.ins b hndm
        have hta := fun W => ta_Ins_ins W 127 (.pointer (some ⟨r.b, 0, none⟩))
        have hcall := plainInstr_calls wr r ((hk.recs r hr).nope hf) (hk.lens r hr)
        have hokr := (hk.recs r hr).ats
        simp only [Nd.val] at hc
        go_wp2_with fail
        refine hcall.mono ?_
        rintro e w1 ⟨hf1, A1, e1, A3, e3, A4, e4, A5, e5, A6, e6, rfl, g1, g3, g4, g5, g6⟩
        have hrw := piOf_row (hk.recs r hr) (hk.lens r hr) (hk.nn r hr) g1 g3 g4 g5 g6
        have hown2 := own_fr (own_fr hown hf1 (fun _ _ x => x)) ((Fr.refl nope _).alloc (.cells (PN.list ⟨1, e0, sv0, [], piOf r A1 e1 A3 e3 A4 e4 A5 e5 A6 e6⟩).toArray 50)) (fun _ _ x => x)
        have hsz1 := hf1.size
        clear g1 g3 g4 g5 g6
        replace hrw := Lib.hid hrw
        go_wp2_with (first
          | (refine wpList_build1 (l := PN.list ⟨1, e0, sv0, [], piOf r A1 e1 A3 e3 A4 e4 A5 e5 A6 e6⟩) rfl rfl rfl Tryz.underlying22 infoPN rfl (by omega) (by decide) ?_)
          | refine wpList_app (v := .slice A2 k c2) rfl rfl Tryz.underlying22 infoPN rfl (by omega) rfl hown2 rfl (news := PN.list ⟨1, e0, sv0, [], piOf r A1 e1 A3 e3 A4 e4 A5 e5 A6 e6⟩) rfl (fun _ => cells_new _ _ _ _ (by simp)) (by simp [PN.list, PN.cells, Value.oneCell', SV.val, piOf]) (by simp only [maxLen]; omega) (by omega) (by simp; omega) ?hk)
        case hk =>
          intro v3 w3 hown3 hf3 hb3
          obtain ⟨A7, e7, rfl, _, _⟩ := own_slice hown3
          clear hb3
          go_wp2
          go_roundg (nds.length - (k + 1))
          case measure => omega
          case rel =>
            have hbs : ∀ x, Value.ownBlock (.slice A2 k c2) = some x → w.heap.size ≤ x := own_base hown
            refine ⟨k + 1, A7, e7, ns ++ [⟨1, e0, sv0, [], piOf r A1 e1 A3 e3 A4 e4 A5 e5 A6 e6⟩], by omega, by simp [hnl], by go_num, rfl, by rw [List.flatMap_append]; simpa [List.flatMap_cons] using hown3, Lib.hid (rows_snoc (fun q hq => ?_) ?_ hown2 hf3), Lib.hid (by rw [hT.out]; exact hnp.out.snoc ⟨rfl, rfl, rfl, r, hr, rfl, rfl, rfl, rfl, rfl, rfl, rfl, rfl, rfl, rfl, rfl⟩), ((hf.then hf1).alloc _).then_new hf3 (fun x hx e => by have := hbs x e; omega), rfl⟩
            · exact ((hrow.out q hq).frT hf1 (NoT.nope _ _)).frT ((Fr.refl nope _).alloc _) (NoT.nope _ _)
            · exact (show PN.Row w1 ⟨1, e0, sv0, [], _⟩ from ⟨hrw.out, sv0_S _, Low.nil _, by simp⟩).frT ((Fr.refl nope _).alloc _) (NoT.nope _ _)
      | label z =>
        have hta := fun W => ta_Ins_label W 127 (.string z)
        have htb := fun W => ta_Label_label W 127 (.string z)
        simp only [Nd.val] at hc
        have hown2 := own_fr hown ((Fr.refl nope _).alloc (.cells (PN.list ⟨2, z, sv0, [], pi0⟩).toArray 50)) (fun _ _ x => x)
        go_wp2_with (first
          | (refine wpList_build1 (l := PN.list ⟨2, z, sv0, [], pi0⟩) rfl rfl rfl Tryz.underlying22 infoPN rfl (by omega) (by decide) ?_)
          | refine wpList_app (v := .slice A2 k c2) rfl rfl Tryz.underlying22 infoPN rfl (by omega) rfl hown2 rfl (news := PN.list ⟨2, z, sv0, [], pi0⟩) rfl (fun _ => cells_new _ _ _ _ (by simp)) (by simp [PN.list, PN.cells, Value.oneCell', SV.val]) (by simp only [maxLen]; omega) (by omega) (by simp; omega) ?hk)
        case hk =>
          intro v3 w3 hown3 hf3 hb3
          obtain ⟨A7, e7, rfl, _, _⟩ := own_slice hown3
          clear hb3
          go_wp2
          go_roundg (nds.length - (k + 1))
          case measure => omega
          case rel =>
            have hbs : ∀ x, Value.ownBlock (.slice A2 k c2) = some x → w.heap.size ≤ x := own_base hown
            refine ⟨k + 1, A7, e7, ns ++ [⟨2, z, sv0, [], pi0⟩], by omega, by simp [hnl], by go_num, rfl, by rw [List.flatMap_append]; simpa [List.flatMap_cons] using hown3, Lib.hid (rows_snoc (fun q hq => ?_) ?_ hown2 hf3), Lib.hid (by rw [hT.out]; exact hnp.out.snoc ⟨rfl, rfl, rfl, rfl⟩), (hf.alloc _).then_new hf3 (fun x hx e => by have := hbs x e; omega), rfl⟩
            · exact ((hrow.out q hq).frT (Fr.refl nope _) (NoT.nope _ _)).frT ((Fr.refl nope _).alloc _) (NoT.nope _ _)
            · exact (show PN.Row wr ⟨2, z, sv0, [], pi0⟩ from ⟨pi0_row _, sv0_S _, Low.nil _, by simp⟩).frT ((Fr.refl nope _).alloc _) (NoT.nope _ _)
      | comment b =>
        obtain ⟨l, hlm⟩ := hk.com b hndm
        obtain ⟨sv, hcb, hso, hfb⟩ := hcms _ hlm
        have hll := hk.lines _ hlm
        simp only at hcb hso hfb hll
        have hta := fun W => ta_Ins_comment W 127 (.pointer (some ⟨b, 0, none⟩))
        have htb := fun W => ta_Label_comment W 127 (.pointer (some ⟨b, 0, none⟩))
        have htc := fun W => ta_Comment_comment W 127 (.pointer (some ⟨b, 0, none⟩))
        simp only [Nd.val] at hc
        obtain ⟨B, m, d⟩ := sv
        obtain ⟨rfl, hso⟩ : m = l.length ∧ _ := hso
        simp only [SV.val] at hcb hso
        have hcb := cell_of_row _ _ 0 _ _ (0, 0) (hf.heap hcb (fun x => x))
        have hsrc := Sl.src ((own_Sl hso).nope hf)
        simp only [List.getElem?_toArray, List.getElem?_cons_zero] at hcb
        go_wp2_with (refine wpList_app (v := .slice none 0 0) rfl rfl Tryz.underlying35 infoStr rfl (by omega) rfl (own_nil wr w.heap.size _ _) rfl (news := l.map Value.string) (by simp) hsrc (by simp [Value.oneCell']) (by simp only [maxLen]; omega) (by omega) hsz ?hs)
        case hs =>
        intro v4 w1 hown4 hf1' hb4
        obtain ⟨A4, e4, rfl, _, _⟩ := own_slice hown4
        have hf1 : Fr nope wr w1 := hf1'.mono (fun x _ h => by simp [Value.ownBlock] at h)
        try rw [Nat.zero_add] at hown4
        try simp only [Nat.zero_add]
        have hrw : PN.Row w1 ⟨3, e0, ⟨A4, l.length, e4⟩, l, pi0⟩ := ⟨pi0_row _, ⟨rfl, Rw.of_own hown4⟩, Low.own hown4, hll⟩
        have hown2 := own_fr (own_fr hown hf1 (fun _ _ x => x)) ((Fr.refl nope _).alloc (.cells (PN.list ⟨3, e0, ⟨A4, l.length, e4⟩, l, pi0⟩).toArray 50)) (fun _ _ x => x)
        have hsz1 := hf1.size
        clear hb4 hf1' hown4 hsrc
        replace hrw := Lib.hid hrw
        go_wp2_with (first
          | (refine wpList_build1 (l := PN.list ⟨3, e0, ⟨A4, l.length, e4⟩, l, pi0⟩) rfl rfl rfl Tryz.underlying22 infoPN rfl (by omega) (by decide) ?_)
          | refine wpList_app (v := .slice A2 k c2) rfl rfl Tryz.underlying22 infoPN rfl (by omega) rfl hown2 rfl (news := PN.list ⟨3, e0, ⟨A4, l.length, e4⟩, l, pi0⟩) rfl (fun _ => cells_new _ _ _ _ (by simp)) (by simp [PN.list, PN.cells, Value.oneCell', SV.val]) (by simp only [maxLen]; omega) (by omega) (by simp; omega) ?hk)
        case hk =>
          intro v3 w3 hown3 hf3 hb3
          obtain ⟨A7, e7, rfl, _, _⟩ := own_slice hown3
          clear hb3
          go_wp2
          go_roundg (nds.length - (k + 1))
          case measure => omega
          case rel =>
            have hbs : ∀ x, Value.ownBlock (.slice A2 k c2) = some x → w.heap.size ≤ x := own_base hown
            refine ⟨k + 1, A7, e7, ns ++ [⟨3, e0, ⟨A4, l.length, e4⟩, l, pi0⟩], by omega, by simp [hnl], by go_num, rfl, by rw [List.flatMap_append]; simpa [List.flatMap_cons] using hown3, Lib.hid (rows_snoc (fun q hq => ?_) ?_ hown2 hf3), Lib.hid (by rw [hT.out]; exact hnp.out.snoc ⟨rfl, rfl, rfl, hlm⟩), ((hf.then hf1).alloc _).then_new hf3 (fun x hx e => by have := hbs x e; omega), rfl⟩
            · exact ((hrow.out q hq).frT hf1 (NoT.nope _ _)).frT ((Fr.refl nope _).alloc _) (NoT.nope _ _)
            · exact hrw.out.frT ((Fr.refl nope _).alloc _) (NoT.nope _ _)
    · have hke : k = nds.length := by omega
      subst hke
      rw [List.take_length] at hnp
      go_wp2
      go_ret
      rw [← hnl] at hown ⊢
      exact ⟨hf, A2, c2, ns, rfl, hnp.out, nodes_of hown hrow.out (by omega)⟩
end
section
open Go Go.RowKit Bth
set_option maxRecDepth 100000
theorem C.nn {c : PC} {d : C} (h : conOf c = some d) : 0 ≤ d.bits := by
  obtain ⟨k, hk, rfl⟩ := Option.map_eq_some_iff.1 h
  have hw : ∀ n : Int, 0 ≤ IntKind.u64.wrap n := fun n => by rw [IntKind.wrap_u64]; omega
  unfold C.bits
  cases k <;> simp only [CK.norm] <;> first | exact hw _ | omega
theorem opOf_nn {fs : Nat → Option Nat} {p : PO} {o : O} (h : opOf fs p = some o) : o.Nn := by
  unfold opOf at h
  split at h
  · obtain ⟨r, _, rfl⟩ := Option.map_eq_some_iff.1 h; trivial
  split at h
  · obtain ⟨r, _, rfl⟩ := Option.map_eq_some_iff.1 h; trivial
  split at h
  · obtain ⟨c, hc, rfl⟩ := Option.map_eq_some_iff.1 h; exact C.nn hc
  split at h
  · injection h with h; subst h; trivial
  split at h
  · injection h with h; subst h; trivial
  · cases h
theorem pOps_nn {fs : Nat → Option Nat} : ∀ {ps : List PO} {os : List O}, pOps fs ps = some os → ∀ o ∈ os, o.Nn := by
  intro ps
  induction ps with
  | nil => intro os h; simp only [pOps, Option.some.injEq] at h; subst h; simp
  | cons p ps ih =>
    intro os h
    simp only [pOps] at h
    obtain ⟨o, e1, e2⟩ := Option.bind_eq_some_iff.1 h
    obtain ⟨os', e3, rfl⟩ := Option.map_eq_some_iff.1 e2
    intro x hx
    rcases List.mem_cons.1 hx with rfl | hx
    · exact opOf_nn e1
    · exact ih e3 x hx
theorem BO.nn {f : Nat → Option Nat} {o o' : O} (h : BO f o o') (hn : o.Nn) : o'.Nn := by
  cases o <;> cases o' <;> first | exact h.elim | trivial | (have h : _ = _ := h; subst h; exact hn)
theorem BL.nn {f : Nat → Option Nat} {j : Nat} {l l' : List O} (h : BL f j l l') (hn : ∀ o ∈ l, o.Nn) : ∀ o ∈ l', o.Nn := by
  intro o' ho'
  obtain ⟨k, hk⟩ := List.getElem?_of_mem ho'
  have hlt : k < l.length := by rw [← h.1]; exact (List.getElem?_eq_some_iff.1 hk).1
  have hl := List.getElem?_eq_getElem hlt
  have := h.2 k _ o' hl hk
  split at this
  · exact this.nn (hn _ (List.getElem_mem hlt))
  · rw [this]; exact hn _ (List.getElem_mem hlt)
theorem Mt.com {fs : Nat → Option Nat} {ns : List PN} {nds : List Nd} {rs : List Rec} {cms : List (Nat × List ByteArray)} (h : Mt fs ns nds rs cms) : (∀ c, Nd.comment c ∈ nds → ∃ l, (c, l) ∈ cms) ∧ ∀ c ∈ cms, ∃ n ∈ ns, c.2 = n.lines := by
  induction h with
  | nil => exact ⟨by simp, by simp⟩
  | ins _ _ _ ih =>
    refine ⟨fun c hc => ih.1 c (by simpa using hc), fun c hc => ?_⟩
    obtain ⟨n, hn, e⟩ := ih.2 c hc
    exact ⟨n, by simp [hn], e⟩
  | label _ _ ih =>
    refine ⟨fun c hc => ih.1 c (by simpa using hc), fun c hc => ?_⟩
    obtain ⟨n, hn, e⟩ := ih.2 c hc
    exact ⟨n, by simp [hn], e⟩
  | @comment ns nds rs cms n c0 _ _ ih =>
    refine ⟨fun c hc => ?_, fun c hc => ?_⟩
    · rcases List.mem_append.1 hc with hc | hc
      · obtain ⟨l, hl⟩ := ih.1 c hc
        exact ⟨l, by simp [hl]⟩
      · obtain rfl : c = c0 := by simpa using hc
        exact ⟨n.lines, by simp⟩
    · rcases List.mem_append.1 hc with hc | hc
      · obtain ⟨n', hn, e⟩ := ih.2 c hc
        exact ⟨n', by simp [hn], e⟩
      · obtain rfl : c = (c0, n.lines) := by simpa using hc
        exact ⟨n, by simp, rfl⟩
def BoundN (g : Nat → Option Nat) (ns ns' : List PN) : Prop := ∃ (fs : Nat → Option Nat) (w0 : World) (wb : Nat) (nds : List Nd) (rs rs' : List Rec) (cms : List (Nat × List ByteArray)), WAt w0 wb fs ∧ Mt fs ns nds rs cms ∧ BRs g rs.length rs rs' ∧ NdsP rs' cms nds ns' ∧ (rs.map (·.b)).Nodup
theorem FB.nodup {w : World} {fb : Nat} {f : Fn} {nds : List Nd} {rs : List Rec} {cms : List (Nat × List ByteArray)} (h : FB w fb f nds rs cms) : (rs.map (·.b)).Nodup :=
  List.pairwise_map.2 (h.apart.imp_of_mem fun {x y} hx hy hxy e => by
    have h1 := (h.recs x hx).1.own.b2
    have h2 := (h.recs y hy).1.own.b1
    omega)
def GivesBd (w : World) (ns : List PN) (g : Nat → Option Nat) (e : Ending) (w' : World) : Prop :=
  Fr nope w w' ∧ ∃ A c ns', e = .returned (.tuple #[.slice A ns'.length c, .bool true]) ∧ NodesAt w' w'.heap.size ⟨A, ns'.length, c⟩ ns' ∧ BoundN g ns ns'
theorem ndok_of {w w0 : World} {B fb : Nat} {f : Fn} {fs : Nat → Option Nat} {s : SV} {ns : List PN} {nds : List Nd} {rs rs' : List Rec} {cms : List (Nat × List ByteArray)} {g : Nat → Option Nat} (hM : Mt fs ns nds rs cms) (hN : NodesAt w0 B s ns) (hb : BRs g rs.length rs rs') (st : FB w fb f nds rs' cms) : NdOk w nds rs' cms := by
  have hlen : ∀ r' ∈ rs', ∃ r ∈ rs, ∃ n, BR g n r r' := fun r' hr' => by
    obtain ⟨k, hk⟩ := List.getElem?_of_mem hr'
    have hlt : k < rs.length := by rw [← hb.len]; exact (List.getElem?_eq_some_iff.1 hk).1
    exact ⟨_, List.getElem_mem hlt, _, hb.each k _ r' (List.getElem?_eq_getElem hlt) hk⟩
  refine ⟨fun b hbm => ?_, hM.com.1, fun r' hr' => ?_, fun c hc => ?_, fun r hr => (st.recs r hr).1, fun r' hr' o ho => ?_⟩
  · have : b ∈ insOf nds := by
      unfold insOf
      exact List.mem_filterMap.2 ⟨_, hbm, rfl⟩
    rw [st.bs] at this
    obtain ⟨r, hr, e⟩ := List.mem_map.1 this
    exact ⟨r, hr, e⟩
  · obtain ⟨r, hr, n, hB⟩ := hlen r' hr'
    obtain ⟨p, hp, hm⟩ := hM.each hr
    obtain ⟨q, hq, rfl⟩ := insP_mem hp
    have hf := (hN.each q hq).ins.few
    have h0 := (hB.row 0 (by omega)).1
    have h1 := (hB.row 1 (by omega)).1
    have h2 := (hB.row 2 (by omega)).1
    have l0 := pOps_len hm.ops
    have l1 := pOps_len hm.inp
    have l2 := pOps_len hm.out
    simp only [Rec.row] at h0 h1 h2
    exact ⟨by rw [hB.suf, hm.suf]; exact hf.1, by omega, by omega, by omega, by rw [hB.isa, hm.isa]; exact hf.2.2.2.2⟩
  · obtain ⟨n, hn, e⟩ := hM.com.2 c hc
    rw [e]
    exact (hN.each n hn).few
  · obtain ⟨r, hr, n, hB⟩ := hlen r' hr'
    obtain ⟨p, hp, hm⟩ := hM.each hr
    rcases ho with ho | ho | ho
    · exact (hB.row 0 (by omega)).nn (pOps_nn hm.ops) o ho
    · exact (hB.row 1 (by omega)).nn (pOps_nn hm.inp) o ho
    · exact (hB.row 2 (by omega)).nn (pOps_nn hm.out) o ho
set_option maxHeartbeats 2000000 in
theorem Bind_calls (w : World) (s : SV) (ns : List PN) (hN : NodesAt w w.heap.size s ns) (hok : ns.all okN = true) (A : Option Addr) (c : Nat) (l : List (Nat × Nat)) (ha : PairsAt w A l) (hl : l.length ≤ 1000000000) (hs : small (ofPairs l)) :
    Calls Tryz.prog 17 #[.slice s.A s.n s.c, .slice A l.length c] w (GivesBd w ns (ofPairs l)) := by
  have hfew := hN.few
  go_enter Tryz.func17, Tryz.ntmps17
  go_wp2_with fail
  refine (newWorld_calls w).mono ?_
  rintro e w1 ⟨rfl, hW, hf1⟩
  have hN1 := hN.fr hf1 (fun _ _ x => x)
  have hF := function_calls w1 w.heap.size (fun _ => none) s ns hN1 hW
  have hl1 := hf1.size
  go_wp2_with fail
  refine hF.mono ?_
  rintro e w2 ⟨fs, hg, hW2, hf2, ⟨fb, f, nds, rs, cms, hok', st, hfb, hbare, hfresh, rfl⟩ | ⟨hok', _⟩⟩
  rotate_left
  · rw [hok] at hok'; cases hok'
  have hwl := lt_of_heap hW.1
  have hf02 : Fr nope w w2 := hf1.then_new hf2 (fun x hx e => by omega)
  have hsz2 := hf2.size
  have hA := allocation_calls w2 A c l (ha.fr hf02) hl
  have hnl : nds.length ≤ 1048576 := by rw [st.mt.len]; exact hfew
  unfold ptr at ⊢
  go_wp2_with fail
  refine hA.mono ?_
  rintro e w3 ⟨rfl, hI3, hf3⟩
  have st3 := st.frT hf3 (NoT.nope _ _)
  have hfn3 := st3.fn
  have hfn3' : w3.heap[fb]? = some (.cells f.cells 99 (0, 0)) := hfn3
  have hsz3 := hf3.size
  have hc3 := fun j => cell_of_row _ _ j _ _ (0, 0) hfn3'
  have hz3 := frozen_row hfn3'
  have hblt := lt_of_heap hfn3'
  simp only [Fn.cells] at hc3
  go_wp2_with fail
  have hset : Fr (fun b => b = fb) w3 (w3.setCell ⟨fb, 7, none⟩ (.map (some w2.heap.size))) := Fr.setCell (S := fun b => b = fb) (p := ⟨fb, 7, none⟩) (Fr.refl _ w3) (.inl rfl) _
  have hv : FnAt (w3.setCell ⟨fb, 7, none⟩ (.map (some w2.heap.size))) fb { f with al := some w2.heap.size } := setCell_heap hfn3' _
  have st4 := (st3.setFn hv rfl hset).toFB
  have hfl : fb < w2.heap.size := lt_of_heap st.fn
  have hI4 := hI3.fr hset (by omega)
  have hf24 := hf3.of_nope.then hset
  generalize w3.setCell ⟨fb, 7, none⟩ (.map (some w2.heap.size)) = w4 at hv st4 hI4 hf24
  have hlens : ∀ r ∈ rs, ∀ p, (r.row p).length ≤ 1048576 := fun r hr p => by
    obtain ⟨q, hq, hm⟩ := st.mt.each hr
    obtain ⟨n, hn, rfl⟩ := insP_mem hq
    have hf := (hN.each n hn).ins.few
    have l0 := pOps_len hm.ops
    have l1 := pOps_len hm.inp
    have l2 := pOps_len hm.out
    match p with
    | 0 => show r.ops.length ≤ _; omega
    | 1 => show r.inp.length ≤ _; omega
    | _ + 2 => show r.out.length ≤ _; omega
  have hB := BindRegisters_calls w4 fb { f with al := some w2.heap.size } nds rs cms w2.heap.size (ofPairs l) st4 rfl hI4 hs hnl hlens
  unfold ptr at hB
  refine hB.mono ?_
  rintro e w5 ⟨rfl, hf5, rs', hbs, st5⟩
  have hrow := st4.rowlt
  have hf4 : Fr nope w w4 := hf02.then_new hf24 (fun x hx e => by omega)
  have hf05 : Fr nope w w5 := hf4.then_new hf5 (fun x hx e => by have := hrow x e; omega)
  have hP := plainNodes_calls w5 fb { f with al := some w2.heap.size } nds rs' cms st5.fn st5.nodes st5.coms (ndok_of st.mt hN hbs st5) hnl
  unfold ptr at hP
  clear hc3 hz3
  go_wp2_with fail
  refine hP.mono ?_
  rintro e w6 ⟨hf6, A6, c6, ns', rfl, hnp, hN6⟩
  go_wp2
  go_ret2
  exact ⟨hf05.then hf6, A6, c6, ns', rfl, hN6, fs, w2, w.heap.size, nds, rs, rs', cms, hW2, st.mt, hbs, hnp, st4.nodup⟩
end
section
open Go Go.RowKit Bth
set_option maxRecDepth 100000
def GivesAny (w : World) (e : Ending) (w' : World) : Prop := Fr nope w w' ∧ ∃ b, e = .returned (.bool b)
theorem zz11_calls (w : World) (c : PC) : Calls Tryz.prog 126 #[c.agg] w (GivesAny w) := by
  obtain ⟨k, b, t⟩ := c
  unfold PC.agg
  by_cases h : (2147483647 : Int) < (t.size : Int)
  · go_enter Tryz.func126, Tryz.ntmps126
    go_wp2_with fail
    go_ret
    exact ⟨(Fr.refl _ _).alloc _, _, rfl⟩
  · go_enter Tryz.func126, Tryz.ntmps126
    go_wp2_with fail
    go_ret
    exact ⟨(Fr.refl _ _).alloc _, _, rfl⟩
set_option maxHeartbeats 1000000 in
theorem zz10_calls (w : World) (p : PO) : Calls Tryz.prog 87 #[p.agg] w (GivesAny w) := by
  have hb := heap_alloc_new w (.cells p.cells 65)
  have hc8 : (w.alloc (.cells p.cells 65)).cell? ⟨w.heap.size, 17, none⟩ = some (.string p.sym) := cell_of_row _ _ 17 _ _ (0, 0) hb
  have hc11 : (w.alloc (.cells p.cells 65)).cell? ⟨w.heap.size, 22, none⟩ = some (.string p.label) := cell_of_row _ _ 22 _ _ (0, 0) hb
  have hcc : (w.alloc (.cells p.cells 65)).rangeAt w.heap.size 19 [.int .i64 p.con.kind, .int .u64 (p.con.bits : Int), .string p.con.text] := fun j v hj => by
    rcases j with _ | _ | _ | j
    · injection hj with hj; subst hj; exact cell_of_row _ _ 19 _ _ (0, 0) hb
    · injection hj with hj; subst hj; exact cell_of_row _ _ 20 _ _ (0, 0) hb
    · injection hj with hj; subst hj; exact cell_of_row _ _ 21 _ _ (0, 0) hb
    · simp at hj
  have hZ := zz11_calls (w.alloc (.cells p.cells 65)) p.con
  unfold PC.agg at hZ
  clear hb
  unfold PO.agg
  by_cases h : (2147483647 : Int) < (p.sym.size : Int)
  · go_enter Tryz.func87, Tryz.ntmps87
    go_wp2_with fail
    go_ret
    exact ⟨(Fr.refl _ _).alloc _, _, rfl⟩
  · go_enter Tryz.func87, Tryz.ntmps87
    go_wp2_with (refine wpList_load_mid rfl _ _ rfl w.heap.size 19 rfl _ _ hcc Tryz.underlying63 rfl (by kernel_rfl) ?_)
    refine hZ.mono ?_
    rintro e w1 ⟨hf1, b, rfl⟩
    have hc1 := hf1.cell hc11 (fun x => x)
    have hn1 := ((Fr.refl nope w).alloc (.cells p.cells 65)).then hf1
    clear hc8 hc11 hcc
    cases b with
    | false =>
      go_wp2
      go_ret
      exact ⟨hn1, _, rfl⟩
    | true =>
      by_cases h2 : (2147483647 : Int) < (p.label.size : Int)
      · go_wp2
        go_ret
        exact ⟨hn1, _, rfl⟩
      · go_wp2
        go_ret
        exact ⟨hn1, _, rfl⟩
set_option maxHeartbeats 1000000 in
theorem zz9_calls (w : World) (s : SV) (ps : List PO) (h : POsAt w s ps) (hl : ps.length ≤ 1048576) : Calls Tryz.prog 45 #[s.val] w (GivesAny w) := by
  obtain ⟨A, n, c⟩ := s
  have hps := h
  obtain ⟨rfl, _⟩ : n = ps.length ∧ _ := h
  simp only [SV.val]
  go_enter Tryz.func45, Tryz.ntmps45
  go_wp2
  go_loopg [10] ps.length (fun n c8 wr => ∃ k : Nat, k ≤ ps.length ∧ c8 = .int .i64 (k : Int) ∧ Fr nope w wr ∧ n = ps.length - k)
  case atStart => exact ⟨0, Nat.zero_le _, rfl, Fr.refl _ _, rfl⟩
  case round =>
    obtain ⟨k, hk, rfl, hf, rfl⟩ := hrel
    have hsz := hf.size
    by_cases hlt : k < ps.length
    · obtain ⟨b, off, hAe, hbl, hc⟩ := (hps.nope hf).2 (by omega)
      simp only at hAe
      subst hAe
      obtain ⟨p, hpk⟩ : ∃ p, ps[k]? = some p := ⟨_, List.getElem?_eq_getElem hlt⟩
      have hc := hc k p hpk
      clear hpk hps
      go_wp2_with (first
        | (refine wpList_load_mid rfl _ _ rfl b (off + k * 24) rfl p.cells.toList _ hc Tryz.underlying65 rfl (by kernel_rfl) ?_)
        | (refine wpList_storeRow (b := wr.heap.size) (cells := p.cells) rfl rfl rfl rfl (heap_alloc_new _ _) rfl (by kernel_rfl) (by kernel_rfl) ?_; intro w2 hb2 hf2)
        | (refine wpList_loadRow (b := wr.heap.size) (cells := p.cells) rfl rfl rfl hb2 Tryz.underlying65 rfl (by kernel_rfl) ?_))
      have hn2 : Fr nope wr w2 := ((Fr.refl nope wr).alloc _).then_new hf2 (fun x hx e => by omega)
      refine (zz10_calls w2 p).mono ?_
      rintro e w3 ⟨hf3, b, rfl⟩
      have hn3 := hf.then (hn2.then hf3)
      cases b with
      | false =>
        go_wp2
        go_ret
        exact ⟨hn3, _, rfl⟩
      | true =>
        go_wp2
        go_roundg (ps.length - (k + 1))
        case measure => omega
        case rel => exact ⟨k + 1, by omega, by go_num, hn3, rfl⟩
    · go_wp2
      go_ret
      exact ⟨hf, _, rfl⟩
set_option maxHeartbeats 1000000 in
theorem zz7_calls (w : World) (s : SV) (l : List ByteArray) (h : StrsAt w s l) (hl : l.length ≤ 1048576) : Calls Tryz.prog 20 #[s.val] w (GivesAny w) := by
  obtain ⟨A, n, c⟩ := s
  have hps := h
  obtain ⟨rfl, _⟩ : n = l.length ∧ _ := h
  simp only [SV.val]
  go_enter Tryz.func20, Tryz.ntmps20
  go_wp2
  go_loopg [10] l.length (fun n c8 wr => ∃ k : Nat, k ≤ l.length ∧ c8 = .int .i64 (k : Int) ∧ Fr nope w wr ∧ n = l.length - k)
  case atStart => exact ⟨0, Nat.zero_le _, rfl, Fr.refl _ _, rfl⟩
  case round =>
    obtain ⟨k, hk, rfl, hf, rfl⟩ := hrel
    have hsz := hf.size
    by_cases hlt : k < l.length
    · obtain ⟨x, hxk⟩ : ∃ x, l[k]? = some x := ⟨_, List.getElem?_eq_getElem hlt⟩
      obtain ⟨b, off, u, hAe, hbl, hu, hc⟩ := (hps.fr hf (fun _ _ _ _ e => e)).2.at_ hlt
      simp only at hAe
      subst hAe
      rw [List.getElem?_map, hxk] at hu
      injection hu with hu
      subst hu
      clear hps hxk
      by_cases h2 : (2147483647 : Int) < (x.size : Int)
      · go_wp2
        go_ret
        exact ⟨hf, _, rfl⟩
      · go_wp2
        go_roundg (l.length - (k + 1))
        case measure => omega
        case rel => exact ⟨k + 1, by omega, by go_num, hf, rfl⟩
    · go_wp2
      go_ret
      exact ⟨hf, _, rfl⟩
end
section
open Go Go.RowKit Bth
set_option maxRecDepth 100000
set_option maxHeartbeats 4000000 in
theorem zz8_calls (w : World) (B : Nat) (p : PI) (h : p.At w B) : Calls Tryz.prog 21 #[p.agg] w (GivesAny w) := by
  have h7s := fun W (hW : Fr nope w W) => zz7_calls W p.sufV p.suf (h.fr hW (fun _ _ x => x)).suf h.few.1
  have h7i := fun W (hW : Fr nope w W) => zz7_calls W p.isaV p.isa (h.fr hW (fun _ _ x => x)).isa h.few.2.2.2.2
  have h9a := fun W (hW : Fr nope w W) => zz9_calls W p.opsV p.ops (h.fr hW (fun _ _ x => x)).ops h.few.2.1
  have h9b := fun W (hW : Fr nope w W) => zz9_calls W p.inpV p.inp (h.fr hW (fun _ _ x => x)).inp h.few.2.2.1
  have h9c := fun W (hW : Fr nope w W) => zz9_calls W p.outV p.out (h.fr hW (fun _ _ x => x)).out h.few.2.2.2.1
  clear h
  obtain ⟨opc, ⟨A1, n1, c1⟩, suf, ⟨A2, n2, c2⟩, ops, ⟨A3, n3, c3⟩, inp, ⟨A4, n4, c4⟩, ps, term, br, cond, canc, ⟨A5, n5, c5⟩, isa⟩ := p
  simp only [PI.agg, PI.cells, SV.val] at h7s h7i h9a h9b h9c ⊢
  have hb0 := heap_alloc_new w (.cells #[.string opc, .slice A1 n1 c1, .slice A2 n2 c2, .slice A3 n3 c3, .slice A4 n4 c4, .bool term, .bool br, .bool cond, .bool canc, .slice A5 n5 c5] 38)
  have hn0 := (Fr.refl nope w).alloc (.cells #[.string opc, .slice A1 n1 c1, .slice A2 n2 c2, .slice A3 n3 c3, .slice A4 n4 c4, .bool term, .bool br, .bool cond, .bool canc, .slice A5 n5 c5] 38)
  replace h7s := Lib.hid h7s
  replace h7i := Lib.hid h7i
  replace h9a := Lib.hid h9a
  replace h9b := Lib.hid h9b
  replace h9c := Lib.hid h9c
  replace hb0 := Lib.hid hb0
  by_cases h : (2147483647 : Int) < (opc.size : Int)
  · go_enter Tryz.func21, Tryz.ntmps21
    go_wp2_with fail
    go_ret
    exact ⟨hn0, _, rfl⟩
  · go_enter Tryz.func21, Tryz.ntmps21
    go_wp2_with fail
    refine (h7s.out _ hn0).mono ?_
    rintro e w1 ⟨hf1, b, rfl⟩
    have hn1 := hn0.then hf1
    have hb1 := Lib.hid (hf1.heap hb0.out (fun x => x))
    have hc := cell_of_row _ _ 2 _ _ (0, 0) hb1.out
    replace hc : w1.cell? ⟨w.heap.size, 2, none⟩ = some (.slice A2 n2 c2) := hc
    cases b with
    | false =>
      go_wp2
      go_ret
      exact ⟨hn1, _, rfl⟩
    | true =>
    go_wp2_with fail
    clear hc
    refine (h9a.out _ hn1).mono ?_
    rintro e w2 ⟨hf2, b, rfl⟩
    have hn2 := hn1.then hf2
    have hb2 := Lib.hid (hf2.heap hb1.out (fun x => x))
    have hc := cell_of_row _ _ 3 _ _ (0, 0) hb2.out
    replace hc : w2.cell? ⟨w.heap.size, 3, none⟩ = some (.slice A3 n3 c3) := hc
    cases b with
    | false =>
      go_wp2
      go_ret
      exact ⟨hn2, _, rfl⟩
    | true =>
    go_wp2_with fail
    clear hc
    refine (h9b.out _ hn2).mono ?_
    rintro e w3 ⟨hf3, b, rfl⟩
    have hn3 := hn2.then hf3
    have hb3 := Lib.hid (hf3.heap hb2.out (fun x => x))
    have hc := cell_of_row _ _ 4 _ _ (0, 0) hb3.out
    replace hc : w3.cell? ⟨w.heap.size, 4, none⟩ = some (.slice A4 n4 c4) := hc
    cases b with
    | false =>
      go_wp2
      go_ret
      exact ⟨hn3, _, rfl⟩
    | true =>
    go_wp2_with fail
    clear hc
    refine (h9c.out _ hn3).mono ?_
    rintro e w4 ⟨hf4, b, rfl⟩
    have hn4 := hn3.then hf4
    have hb4 := Lib.hid (hf4.heap hb3.out (fun x => x))
    have hc := cell_of_row _ _ 9 _ _ (0, 0) hb4.out
    replace hc : w4.cell? ⟨w.heap.size, 9, none⟩ = some (.slice A5 n5 c5) := hc
    cases b with
    | false =>
      go_wp2
      go_ret
      exact ⟨hn4, _, rfl⟩
    | true =>
    go_wp2_with fail
    clear hc
    refine (h7i.out _ hn4).mono ?_
    rintro e w5 ⟨hf5, b, rfl⟩
    have hn5 := hn4.then hf5
    have hb5 := Lib.hid (hf5.heap hb4.out (fun x => x))
    cases b with
    | false =>
      go_wp2
      go_ret
      exact ⟨hn5, _, rfl⟩
    | true =>
    go_wp2
    go_ret
    exact ⟨hn5, _, rfl⟩
theorem pn_ins (p : PN) : ∀ (j : Nat) (v : Value), p.ins.cells.toList[j]? = some v → p.cells[3 + j]? = some v := fun j v h => by
  rcases j with _ | _ | _ | _ | _ | _ | _ | _ | _ | _ | j
  all_goals first
    | exact h
    | (simp [PI.cells] at h)
set_option maxHeartbeats 4000000 in
theorem zz6_calls (w : World) (B : Nat) (p : PN) (h : p.At w B) : Calls Tryz.prog 12 #[p.agg] w (GivesAny w) := by
  have h7 := fun W (hW : Fr nope w W) => zz7_calls W p.linesV p.lines (h.fr hW (fun _ _ x => x)).lines h.few
  have h8 := fun W (hW : Fr nope w W) => zz8_calls W B p.ins (h.fr hW (fun _ _ x => x)).ins
  have hb0 := heap_alloc_new w (.cells p.cells 50)
  have hn0 := (Fr.refl nope w).alloc (.cells p.cells 50)
  have hc1 : (w.alloc (.cells p.cells 50)).cell? ⟨w.heap.size, 1, none⟩ = some (.string p.label) := cell_of_row _ _ 1 _ _ (0, 0) hb0
  have hc2 : (w.alloc (.cells p.cells 50)).cell? ⟨w.heap.size, 2, none⟩ = some p.linesV.val := cell_of_row _ _ 2 _ _ (0, 0) hb0
  clear h
  unfold SV.val at hc2 h7
  replace h7 := Lib.hid h7
  replace h8 := Lib.hid h8
  replace hb0 := Lib.hid hb0
  unfold PN.agg
  by_cases h : (2147483647 : Int) < (p.label.size : Int)
  · go_enter Tryz.func12, Tryz.ntmps12
    go_wp2_with fail
    go_ret
    exact ⟨hn0, _, rfl⟩
  · go_enter Tryz.func12, Tryz.ntmps12
    go_wp2_with fail
    refine (h7.out _ hn0).mono ?_
    rintro e w1 ⟨hf1, b, rfl⟩
    have hn1 := hn0.then hf1
    have hb1 := hf1.heap hb0.out (fun x => x)
    have hr : w1.rangeAt w.heap.size 3 p.ins.cells.toList := fun j v hj => by
      rw [cell_of_row _ _ (3 + j) _ _ (0, 0) hb1]
      exact pn_ins p j v hj
    clear hc1 hc2 hb1
    cases b with
    | false =>
      go_wp2
      go_ret
      exact ⟨hn1, _, rfl⟩
    | true =>
      go_wp2_with (refine wpList_load_mid rfl _ _ rfl w.heap.size 3 rfl p.ins.cells.toList _ hr Tryz.underlying38 rfl (by kernel_rfl) ?_)
      refine (h8.out _ hn1).mono ?_
      rintro e w2 ⟨hf2, b, rfl⟩
      have hn2 := hn1.then hf2
      clear hr
      cases b with
      | false =>
        go_wp2
        go_ret
        exact ⟨hn2, _, rfl⟩
      | true =>
        go_wp2
        go_ret
        exact ⟨hn2, _, rfl⟩
set_option maxHeartbeats 4000000 in
theorem zz5_calls (w : World) (B : Nat) (s : SV) (ns : List PN) (hN : NodesAt w B s ns) : Calls Tryz.prog 4 #[s.val] w (GivesAny w) := by
  obtain ⟨A, n, c⟩ := s
  obtain rfl : n = ns.length := hN.len
  have hfew := hN.few
  simp only [SV.val]
  go_enter Tryz.func4, Tryz.ntmps4
  go_wp2
  go_loopg [10] ns.length (fun n c7 wr => ∃ k : Nat, k ≤ ns.length ∧ c7 = .int .i64 (k : Int) ∧ Fr nope w wr ∧ n = ns.length - k)
  case atStart => exact ⟨0, Nat.zero_le _, rfl, Fr.refl _ _, rfl⟩
  case round =>
    obtain ⟨k, hk, rfl, hf, rfl⟩ := hrel
    by_cases hlt : k < ns.length
    · obtain ⟨b, off, hAe, hbB, hbl, hc⟩ := (hN.fr hf (fun _ _ x => x)).row (by omega)
      simp only at hAe
      subst hAe
      obtain ⟨p, hpk⟩ : ∃ p, ns[k]? = some p := ⟨_, List.getElem?_eq_getElem hlt⟩
      have hc := hc k p hpk
      have hat := hN.each p (List.mem_of_getElem? hpk)
      clear hpk hN
      go_wp2_with (first
        | (refine wpList_load_mid rfl _ _ rfl b (off + k * 13) rfl p.cells.toList _ hc Tryz.underlying50 rfl (by kernel_rfl) ?_)
        | (refine wpList_storeRow (b := wr.heap.size) (cells := p.cells) rfl rfl rfl rfl (heap_alloc_new _ _) rfl (by kernel_rfl) (by kernel_rfl) ?_; intro w2 hb2 hf2)
        | (refine wpList_loadRow (b := wr.heap.size) (cells := p.cells) rfl rfl rfl hb2 Tryz.underlying50 rfl (by kernel_rfl) ?_))
      have hn2 : Fr nope wr w2 := ((Fr.refl nope wr).alloc _).then_new hf2 (fun x hx e => by omega)
      refine (zz6_calls w2 B p (hat.fr (hf.then hn2) (fun _ _ x => x))).mono ?_
      rintro e w3 ⟨hf3, b, rfl⟩
      have hf13 := (hf.then hn2).then hf3
      cases b with
      | false =>
        go_wp2
        go_ret
        exact ⟨hf13, _, rfl⟩
      | true =>
        go_wp2
        go_roundg (ns.length - (k + 1))
        case measure => omega
        case rel => exact ⟨k + 1, by omega, by go_num, hf13, rfl⟩
    · go_wp2
      go_ret
      exact ⟨hf, _, rfl⟩
end
section
open Go Go.RowKit Bth
set_option maxRecDepth 100000
theorem PI.At.up {w : World} {B B' : Nat} {p : PI} (h : p.At w B) (hB : B ≤ B') : p.At w B' := { h with below := fun s hs hn b off e => Nat.lt_of_lt_of_le (h.below s hs hn b off e) hB }
theorem PN.At.up {w : World} {B B' : Nat} {p : PN} (h : p.At w B) (hB : B ≤ B') : p.At w B' := { h with ins := h.ins.up hB, below := fun hn b off e => Nat.lt_of_lt_of_le (h.below hn b off e) hB }
theorem NodesAt.up {w : World} {B B' : Nat} {s : SV} {ns : List PN} (h : NodesAt w B s ns) (hB : B ≤ B') : NodesAt w B' s ns := { h with
  row := fun hl => by obtain ⟨b, off, h1, h2, h3, h4⟩ := h.row hl; exact ⟨b, off, h1, Nat.lt_of_lt_of_le h2 hB, h3, h4⟩
  each := fun p hp => (h.each p hp).up hB }
theorem ofPairs_fold (l : List (Nat × Nat)) : ∀ (F : Nat → Option Nat) (x : Nat), (∀ y, l.foldl (fun f p x => if x = p.1 then some p.2 else f x) F x = some y → (x, y) ∈ l ∨ F x = some y) ∧ ((F x ≠ none ∨ ∃ y, (x, y) ∈ l) → l.foldl (fun f p x => if x = p.1 then some p.2 else f x) F x ≠ none) := by
  induction l with
  | nil => exact fun F x => ⟨fun y h => .inr h, fun h => h.elim id fun ⟨y, hy⟩ => by cases hy⟩
  | cons p l ih =>
    intro F x
    rw [List.foldl_cons]
    obtain ⟨i1, i2⟩ := ih (fun x => if x = p.1 then some p.2 else F x) x
    refine ⟨fun y h => ?_, fun h => i2 ?_⟩
    · rcases i1 y h with h | h
      · exact .inl (List.mem_cons_of_mem _ h)
      · by_cases e : x = p.1
        · rw [if_pos e] at h
          injection h with h
          exact .inl (by rw [e, ← h]; exact List.mem_cons_self)
        · rw [if_neg e] at h; exact .inr h
    · by_cases e : x = p.1
      · exact .inl (by simp [e])
      · rw [if_neg e]
        rcases h with h | ⟨y, hy⟩
        · exact .inl h
        · rcases List.mem_cons.1 hy with hy | hy
          · exact absurd (congrArg Prod.fst hy) e
          · exact .inr ⟨y, hy⟩
theorem PairsOf.eq {f : Nat → Option Nat} {l : List (Nat × Nat)} (h : PairsOf f l) : ofPairs l = f := by
  funext x
  obtain ⟨i1, i2⟩ := ofPairs_fold l (fun _ => none) x
  cases hf : f x with
  | none =>
    cases ho : ofPairs l x with
    | none => rfl
    | some y =>
      rcases i1 y ho with hm | hm
      · have := (h.1 _).1 hm; rw [hf] at this; cases this
      · cases hm
  | some y =>
    have hm : (x, y) ∈ l := (h.1 (x, y)).2 hf
    cases ho : ofPairs l x with
    | none => exact absurd ho (i2 (.inr ⟨y, hm⟩))
    | some z =>
      rcases i1 z ho with hz | hz
      · have := (h.1 _).1 hz; rw [hf] at this; exact this.symm
      · cases hz
def BulkP (ns : List PN) : Prop := sumL (fun p : PI => p.ops.length + p.inp.length + p.out.length) (insP ns) ≤ 1048576
theorem sumL_le {α : Type} {f g : α → Nat} {l : List α} (h : ∀ x ∈ l, f x ≤ g x) : sumL f l ≤ sumL g l := by
  unfold sumL
  induction l with
  | nil => exact Nat.le_refl _
  | cons x l ih =>
    have h1 := h x (by simp)
    have h2 := ih fun y hy => h y (by simp [hy])
    simp only [List.map_cons, List.sum_cons]
    omega
theorem sumL_two {α : Type} {f : α → Nat} {l : List α} : sumL (fun x => 2 * f x) l = 2 * sumL f l := by
  unfold sumL
  induction l with
  | nil => rfl
  | cons x l ih => simp only [List.map_cons, List.sum_cons, ih]; omega
theorem whole_kind {g : G} (h : wholeG g = true) : 1 ≤ g.kind ∧ g.kind ≤ 3 := by
  unfold wholeG at h
  split at h
  · omega
  · split at h
    · omega
    · split at h
      · omega
      · cases h
theorem okG_kind {g : G} (h : okG g = true) (hw : g.virt = true → wholeG g = true) : g.kind ≤ 3 := by
  cases hv : g.virt with
  | true => exact (whole_kind (hw hv)).2
  | false =>
    unfold okG at h
    rw [hv] at h
    simp only [Bool.false_or, Bool.and_eq_true, decide_eq_true_eq] at h
    exact h.1
theorem insP_ok {ns : List PN} (hok : ns.all okN = true) : ∀ p ∈ insP ns, okI p = true := fun p hp => by
  obtain ⟨n', hn', e⟩ := List.mem_map.1 hp
  obtain ⟨h1, h2⟩ := List.mem_filter.1 hn'
  have h3 := List.all_eq_true.1 hok n' h1
  unfold okN at h3
  rw [if_pos (by simpa using h2), e] at h3
  exact h3
theorem gs_okI {p : PI} (h : okI p = true) : ∀ g ∈ p.gs, okG g = true := fun g hg => by
  unfold okI at h
  simp only [Bool.and_eq_true] at h
  unfold PI.gs at hg
  rcases List.mem_append.1 hg with hg | hg
  · rcases List.mem_append.1 hg with hg | hg
    · exact gsOf_okG h.1.1 g hg
    · exact gsOf_okG h.1.2 g hg
  · exact gsOf_okG h.2 g hg
theorem UsualP.kind {ns : List PN} (h : UsualP ns) : ∀ p ∈ insP ns, ∀ g ∈ p.gs, g.kind ≤ 3 := fun p hp g hg => okG_kind (gs_okI (insP_ok h.2.1 p hp) g hg) ((h.2.2 p hp).1 g hg)
theorem UsualP.af {ns : List PN} (h : UsualP ns) (hops : ∀ p ∈ insP ns, p.Ok) (hb : BulkP ns) : AFOk ns := by
  have h1 : sumL (fun p : PI => (outGs p.out).length) (insP ns) ≤ 1048576 := Nat.le_trans (sumL_le fun p _ => by have := outGs_le p.out; omega) hb
  have h2 : sumL (fun p : PI => (inGs p.canc p.inp p.out).length) (insP ns) ≤ 2097152 := by
    refine Nat.le_trans (sumL_le (g := fun p : PI => 2 * (p.ops.length + p.inp.length + p.out.length)) fun p _ => by have := inGs_le p.canc p.inp p.out; omega) ?_
    rw [sumL_two]
    unfold BulkP at hb
    omega
  have h3 : sumL (fun p : PI => (gsOf p.ops).length) (insP ns) ≤ 2097152 := by
    refine Nat.le_trans (sumL_le (g := fun p : PI => 2 * (p.ops.length + p.inp.length + p.out.length)) fun p _ => by have := gsOf_le p.ops; omega) ?_
    rw [sumL_two]
    unfold BulkP at hb
    omega
  refine ⟨h.2.1, hops, fun p hp hc => (h.2.2 p hp).2.2 hc, fun p hp g hg => h.kind p hp g (by unfold PI.gs; simp [hg]), fun p hp g hg => (h.2.2 p hp).2.1 g (outGs_mem hg), ?_, by omega⟩
  exact Nat.le_trans (Nat.mul_le_mul (Nat.add_le_add_right h1 1) h2) (by decide)
theorem FewI.few {ns : List PN} (h : FewI (insP ns)) (hu : UsualP ns) : FewP (insP ns) := by
  obtain ⟨L, h1, h2, h3⟩ := h
  refine ⟨fun k => if k ≤ 3 then L k else [], fun k => ?_, by simp [h2], fun p hp g hg => ?_⟩
  · show (if k ≤ 3 then L k else []).length ≤ 4
    split
    · rename_i e; exact h1 k e
    · simp
  · show g.id ∈ if g.kind ≤ 3 then L g.kind else []
    rw [if_pos (hu.kind p hp g hg)]
    exact h3 p hp g hg
theorem few_fit {ns : List PN} (hu : UsualP ns) (hok : AFOk ns) (hg : ∃ sc, GraphP ns sc) (hn : AFRes ns none) : ¬ FewI (insP ns) := fun h => af_few hok hg (h.few hu) hn
end
section
open Go Go.RowKit Bth
set_option maxRecDepth 100000
theorem results_tmp4 {fn : Func} {t u v x : Tmp} (h : fn.results = #[.tmp t, .tmp u, .tmp v, .tmp x]) (tmps : Array Value) (P : Program) (w : World) :
    (results fn tmps).run P w = .ok (.tuple #[tmps.getD t undef, tmps.getD u undef, tmps.getD v undef, tmps.getD x undef]) w := by
  simp [results, h]
def GivesAl (w : World) (ns : List PN) (e : Ending) (w' : World) : Prop := Fr nope w w' ∧ ((∃ x y, e = .returned (.tuple #[x, y, .bool false, .bool false])) ∨
  ∃ (A : Option Addr) (c : Nat) (l : List (Nat × Nat)) (A' : Option Addr) (c' : Nat) (ns' : List PN) (f : Nat → Option Nat), e = .returned (.tuple #[.slice A l.length c, .slice A' ns'.length c', .bool true, .bool false]) ∧ PairsAt w' A l ∧ l.length ≤ 1000000000 ∧ ofPairs l = f ∧ AFRes ns (some f) ∧ AFOk ns ∧ UsualP ns ∧ NodesAt w' w'.heap.size ⟨A', ns'.length, c'⟩ ns' ∧ BoundN f ns ns')
set_option maxHeartbeats 4000000 in
theorem allocated_calls (w : World) (B : Nat) (s : SV) (ns : List PN) (hN : NodesAt w B s ns) (hB : B ≤ w.heap.size) (hb : BulkP ns) : Calls Tryz.prog 5 #[s.val] w (GivesAl w ns) := by
  have hU := usual_calls w B s ns hN hB
  have hFG := fun W (hW : Fr nope w W) (hok : ns.all okN = true) => FlowGraph_calls W B s ns (hN.fr hW (fun _ _ x => x)) hok
  have hAF := fun W (hW : Fr nope w W) (h : AFOk ns) => AllocFn_calls W s ns ((hN.fr hW (fun _ _ x => x)).up (Nat.le_trans hB hW.size)) h
  have hFw := fun W (hW : Fr nope w W) (hok : ns.all okN = true) => few_calls W B s ns (hN.fr hW (fun _ _ x => x)) hok (Nat.le_trans hB hW.size)
  have hBd := fun W (hW : Fr nope w W) (hok : ns.all okN = true) => Bind_calls W s ns ((hN.fr hW (fun _ _ x => x)).up (Nat.le_trans hB hW.size)) hok
  have hops : ∀ p ∈ insP ns, p.Ok := fun p hp => by
    obtain ⟨n, hn, rfl⟩ := insP_mem hp
    exact PI.ok_of (hN.each n hn).ins
  obtain ⟨A, n, c⟩ := s
  simp only [SV.val] at hU hFG hAF hFw hBd ⊢
  clear hN
  replace hFG := Lib.hid hFG
  replace hAF := Lib.hid hAF
  replace hFw := Lib.hid hFw
  replace hBd := Lib.hid hBd
  replace hops := Lib.hid hops
  replace hb := Lib.hid hb
  go_enter Tryz.func5, Tryz.ntmps5
  go_wp2_with fail
  refine hU.mono ?_
  rintro e w1 ⟨hf1, b, rfl, hus⟩
  clear hU
  cases b with
  | false =>
    clear hus
    go_wp2
    try simp only [Exit.inBlock, Exit.then]
    refine bodyPost_ret (results_tmp4 rfl _ _ _) rfl ?_
    exact ⟨hf1, .inl ⟨_, _, rfl⟩⟩
  | true =>
  have hu := hus rfl
  have hao := hu.af hops.out hb.out
  have hok := hu.2.1
  clear hus
  replace hu := Lib.hid hu
  replace hao := Lib.hid hao
  replace hok := Lib.hid hok
  go_wp2_with fail
  refine (hFG.out _ hf1 hok.out).mono ?_
  rintro e w2 ⟨hf2, ⟨A1, c1, D, d, sc, rfl, hG, hS⟩ | ⟨rfl, hbad⟩⟩
  rotate_left
  · clear hbad
    go_wp2
    try simp only [Exit.inBlock, Exit.then]
    refine bodyPost_ret (results_tmp4 rfl _ _ _) rfl ?_
    exact ⟨hf1.then hf2, .inl ⟨_, _, rfl⟩⟩
  have hn2 := hf1.then hf2
  have hG : Hid (∃ sc, GraphP ns sc) := Lib.hid ⟨sc, hG⟩
  clear hS
  go_wp2_with fail
  refine (hAF.out _ hn2 hao.out).mono ?_
  rintro e w3 ⟨hf3, ⟨hnone, rfl⟩ | ⟨f, A2, c2, l, haf, hpo, hl, rfl, hown⟩⟩
  · have hno := Lib.hid (few_fit hu.out hao.out hG.out hnone)
    have hn3 := hn2.then hf3
    clear hnone
    go_wp2_with fail
    refine (hFw.out _ hn3 hok.out).mono ?_
    rintro e w4 ⟨hf4, b, rfl, hfew⟩
    obtain rfl : b = false := by
      cases b with
      | false => rfl
      | true => exact absurd (hfew rfl) hno.out
    clear hfew
    go_wp2
    try simp only [Exit.inBlock, Exit.then]
    refine bodyPost_ret (results_tmp4 rfl _ _ _) rfl ?_
    exact ⟨hn3.then hf4, .inl ⟨_, _, rfl⟩⟩
  · have hn3 := hn2.then hf3
    have heq := hpo.eq
    have hpa := PairsAt.of hown
    have hsm : small (ofPairs l) := by
      rw [heq]
      intro v p hv
      exact (af_given haf (fun k ⟨p, hp, g, hg, e⟩ => by rw [← e]; exact hu.out.kind p hp g (by unfold PI.gs; simp [hg])) v p hv).2.2.1
    replace heq := Lib.hid heq
    replace haf := Lib.hid haf
    replace hsm := Lib.hid hsm
    clear hpo hown
    go_wp2_with fail
    refine (hBd.out _ hn3 hok.out A2 c2 l hpa hl hsm.out).mono ?_
    rintro e w4 ⟨hf4, A3, c3, ns', rfl, hN', hB'⟩
    rw [heq.out] at hB'
    replace hN' := Lib.hid hN'
    replace hB' := Lib.hid hB'
    go_wp2
    try simp only [Exit.inBlock, Exit.then]
    refine bodyPost_ret (results_tmp4 rfl _ _ _) rfl ?_
    exact ⟨hn3.then hf4, .inr ⟨A2, c2, l, A3, c3, ns', f, rfl, hpa.fr hf4, hl, heq.out, haf.out, hao.out, hu.out, hN'.out, hB'.out⟩⟩
end
end Go.Proofs.YtbaihlfnbdifgaaGreat
