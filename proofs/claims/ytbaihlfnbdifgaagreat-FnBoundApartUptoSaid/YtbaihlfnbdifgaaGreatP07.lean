/- Part of the proof of boundApart_upto. -/
import Derived.LaidEql
import Derived.Laws.StructEq
import Derived.BigQuiet
import Derived.Test.YtbaihlfnbdifgaaGreatP01
import Derived.Test.YtbaihlfnbdifgaaGreatP02
import Derived.Test.YtbaihlfnbdifgaaGreatP06
namespace Go.Proofs.YtbaihlfnbdifgaaGreat
section
open Go Go.RowKit Bth
set_option maxRecDepth 100000
structure SameBut (i i' : Ins) : Prop where
  opc : i'.opc = i.opc
  suf : i'.suf = i.suf
  ops : i'.ops = i.ops
  inp : i'.inp = i.inp
  out : i'.out = i.out
  term : i'.term = i.term
  br : i'.br = i.br
  cond : i'.cond = i.cond
  canc : i'.canc = i.canc
  isa : i'.isa = i.isa
def Rec.with (r : Rec) (i : Ins) : Rec := { r with i := i }
theorem RMatch.with {fs : Nat → Option Nat} {p : PI} {r : Rec} {i : Ins} (h : RMatch fs p r) (hi : SameBut r.i i) : RMatch fs p (r.with i) :=
  ⟨h.ops, h.inp, h.out, hi.opc.trans h.opc, hi.term.trans h.term, hi.br.trans h.br, hi.cond.trans h.cond, hi.canc.trans h.canc, h.suf, h.isa⟩
theorem Mt.set {fs : Nat → Option Nat} {ns : List PN} {nds : List Nd} {rs : List Rec} {cms : List (Nat × List ByteArray)} (h : Mt fs ns nds rs cms) : ∀ {k : Nat} {r : Rec} {i : Ins}, rs[k]? = some r → SameBut r.i i → Mt fs ns nds (rs.set k (r.with i)) cms := by
  induction h with
  | nil => intro k r i hk; simp at hk
  | @ins ns nds rs cms n r0 h h1 h2 ih =>
    intro k r i hk hi
    by_cases hlt : k < rs.length
    · rw [List.getElem?_append_left hlt] at hk
      rw [List.set_append_left _ _ hlt]
      exact .ins (ih hk hi) h1 h2
    · have hkk : k = rs.length := by
        have := (List.getElem?_eq_some_iff.1 hk).1
        simp at this; omega
      subst hkk
      simp at hk
      subst hk
      rw [List.set_append_right _ _ (Nat.le_refl _), Nat.sub_self]
      exact .ins (r := r0.with i) h h1 (h2.with hi)
  | label _ h1 ih => intro k r i hk hi; exact .label (ih hk hi) h1
  | comment _ h1 ih => intro k r i hk hi; exact .comment (ih hk hi) h1
theorem FState.inj {w : World} {fs : Nat → Option Nat} {ns : List PN} {fb : Nat} {f : Fn} {nds : List Nd} {rs : List Rec} {cms : List (Nat × List ByteArray)} (h : FState w fs ns fb f nds rs cms) {j k : Nat} {a b : Rec} (hj : rs[j]? = some a) (hk : rs[k]? = some b) (hb : a.b = b.b) : j = k := by
  have key : ∀ {j k : Nat} {a b : Rec}, rs[j]? = some a → rs[k]? = some b → a.b = b.b → ¬ j < k := by
    intro j k a b hj hk hb hlt
    obtain ⟨h1, rfl⟩ := List.getElem?_eq_some_iff.1 hj
    obtain ⟨h2, rfl⟩ := List.getElem?_eq_some_iff.1 hk
    have h3 := List.pairwise_iff_getElem.1 h.apart j k h1 h2 hlt
    have h4 := (h.recs _ (List.getElem_mem h1)).1.own
    have h5 := (h.recs _ (List.getElem_mem h2)).1.own
    have := h4.b2
    have := h5.b1
    omega
  have h1 := key hj hk hb
  have h2 := key hk hj hb.symm
  omega
theorem FState.upd {S : Nat → Prop} {w w' : World} {fs : Nat → Option Nat} {ns : List PN} {fb : Nat} {f : Fn} {nds : List Nd} {rs : List Rec} {cms : List (Nat × List ByteArray)} (h : FState w fs ns fb f nds rs cms) {k : Nat} {r : Rec} {i : Ins} (hk : rs[k]? = some r) (hi : SameBut r.i i)
    (hf : Fr (fun b => b = r.b ∨ S b) w w') (hS : NoT fnT w S) (hb : w'.heap[r.b]? = some (.cells i.cells 135 (0, 0))) : FState w' fs ns fb f nds (rs.set k (r.with i)) cms := by
  have hr := h.recs r (List.mem_of_getElem? hk)
  have hN : NoT [99, 127, 180, 175, 9, 200] w (fun b => b = r.b ∨ S b) :=
    NoT.or (NoT.one hr.1.own.at_ (by decide)) (hS.sub (by decide))
  have rest : ∀ {x : Rec}, x.At w → w'.heap[x.b]? = some (.cells x.i.cells 135 (0, 0)) → x.At w' := fun {x} hx hb =>
    { own := { hx.own with
        at_ := hb
        ops := own_frT hx.own.ops hf hN (by decide)
        inp := own_frT hx.own.inp hf hN (by decide)
        out := own_frT hx.own.out hf hN (by decide) }
      suf := ⟨hx.suf.1, own_frT hx.suf.2 hf hN (by decide)⟩
      isa := ⟨hx.isa.1, own_frT hx.isa.2 hf hN (by decide)⟩
      s1 := hx.s1
      s2 := hx.s2
      ats := ⟨fun o ho => (hx.ats.1 o ho).frT hf hN (by decide), fun o ho => (hx.ats.2.1 o ho).frT hf hN (by decide), fun o ho => (hx.ats.2.2 o ho).frT hf hN (by decide)⟩ }
  refine ⟨heap_frT h.fn hf hN (by decide), own_frT h.nodes hf hN (by decide), h.mt.set hk hi, fun x hx => ?_, ?_, fun c hc => (h.coms c hc).frT hf hN (by decide) (by decide)⟩
  · obtain ⟨j, hj⟩ := List.getElem?_of_mem hx
    rw [List.getElem?_set] at hj
    split at hj
    · rename_i e
      split at hj
      · injection hj with hj
        subst hj
        refine ⟨?_, hr.2.1, Nat.le_trans hr.2.2 hf.size⟩
        have hx0 := hr.1
        exact
          {
            own := {
              at_ := hb, b1 := hx0.own.b1, b2 := hx0.own.b2
              ops := by show w'.ownsRow _ _ _ i.ops.val _ _; rw [hi.ops]; exact own_frT hx0.own.ops hf hN (by decide)
              inp := by show w'.ownsRow _ _ _ i.inp.val _ _; rw [hi.inp]; exact own_frT hx0.own.inp hf hN (by decide)
              out := by show w'.ownsRow _ _ _ i.out.val _ _; rw [hi.out]; exact own_frT hx0.own.out hf hN (by decide)
              h1 := by show ∀ k, i.ops.val.ownBlock = some k → _; rw [hi.ops]; exact hx0.own.h1
              h2 := by show ∀ k, i.inp.val.ownBlock = some k → _; rw [hi.inp]; exact hx0.own.h2
              h3 := by show ∀ k, i.out.val.ownBlock = some k → _; rw [hi.out]; exact hx0.own.h3
              d1 := by show ∀ k, i.ops.val.ownBlock = some k → i.inp.val.ownBlock ≠ some k ∧ i.out.val.ownBlock ≠ some k; rw [hi.ops, hi.inp, hi.out]; exact hx0.own.d1
              d2 := by show ∀ k, i.inp.val.ownBlock = some k → i.out.val.ownBlock ≠ some k; rw [hi.inp, hi.out]; exact hx0.own.d2 }
            suf := by show StrOwn w' _ i.suf _; rw [hi.suf]; exact ⟨hx0.suf.1, own_frT hx0.suf.2 hf hN (by decide)⟩
            isa := by show StrOwn w' _ i.isa _; rw [hi.isa]; exact ⟨hx0.isa.1, own_frT hx0.isa.2 hf hN (by decide)⟩
            s1 := by show ∀ k, i.suf.val.ownBlock = some k → _; rw [hi.suf]; exact hx0.s1
            s2 := by show ∀ k, i.isa.val.ownBlock = some k → _; rw [hi.isa]; exact hx0.s2
            ats := ⟨fun o ho => (hx0.ats.1 o ho).frT hf hN (by decide), fun o ho => (hx0.ats.2.1 o ho).frT hf hN (by decide), fun o ho => (hx0.ats.2.2 o ho).frT hf hN (by decide)⟩ }
      · cases hj
    · rename_i e
      have hxr := h.recs x (List.mem_of_getElem? hj)
      refine ⟨rest hxr.1 (hf.heap hxr.1.own.at_ ?_), hxr.2.1, Nat.le_trans hxr.2.2 hf.size⟩
      rintro (he | he)
      · exact e (h.inj hk hj he.symm)
      · exact hS _ _ _ _ he hxr.1.own.at_ (by decide)
  · rw [List.pairwise_iff_getElem]
    intro a b ha hb2 hab
    rw [List.length_set] at ha hb2
    have := List.pairwise_iff_getElem.1 h.apart a b ha hb2 hab
    simp only [List.getElem_set]
    obtain ⟨hkl, hke⟩ := List.getElem?_eq_some_iff.1 hk
    split <;> split
    · rename_i e1 e2; omega
    · rename_i e1 e2; subst e1; rw [hke] at this; exact this
    · rename_i e1 e2; subst e2; rw [hke] at this; exact this
    · exact this
end
section
open Go Go.RowKit Bth
set_option maxRecDepth 100000
theorem Rec.At.opsAt {w : World} {r : Rec} (h : r.At w) : OpsAt w r.i.ops r.ops := by
  obtain ⟨A, c, e, _, _⟩ := own_slice h.own.ops
  have hs := h.own.ops
  rw [e] at hs
  have hv : r.i.ops.val = .slice A r.ops.length c := e
  unfold SV.val at hv
  injection hv with e1 e2 e3
  exact ⟨e2, by rw [e1]; exact own_Sl hs, h.ats.1⟩
theorem Rec.At.inpAt {w : World} {r : Rec} (h : r.At w) : OpsAt w r.i.inp r.inp := by
  obtain ⟨A, c, e, _, _⟩ := own_slice h.own.inp
  have hs := h.own.inp
  rw [e] at hs
  have hv : r.i.inp.val = .slice A r.inp.length c := e
  unfold SV.val at hv
  injection hv with e1 e2 e3
  exact ⟨e2, by rw [e1]; exact own_Sl hs, h.ats.2.1⟩
theorem Rec.At.outAt {w : World} {r : Rec} (h : r.At w) : OpsAt w r.i.out r.out := by
  obtain ⟨A, c, e, _, _⟩ := own_slice h.own.out
  have hs := h.own.out
  rw [e] at hs
  have hv : r.i.out.val = .slice A r.out.length c := e
  unfold SV.val at hv
  injection hv with e1 e2 e3
  exact ⟨e2, by rw [e1]; exact own_Sl hs, h.ats.2.2⟩
def Ins.row (i : Ins) (p : Bool) : SV := if p then i.succ else i.pred
def Ins.setRow (i : Ins) (p : Bool) (s : SV) : Ins := if p then { i with succ := s } else { i with pred := s }
theorem Ins.setRow_same (i : Ins) (p : Bool) (s : SV) : SameBut i (i.setRow p s) := by
  unfold Ins.setRow
  split <;> exact ⟨rfl, rfl, rfl, rfl, rfl, rfl, rfl, rfl, rfl, rfl⟩
def rowB (rs : List Rec) (p : Bool) (k : Nat) : Option Nat := (rs[k]?).bind fun r => (r.i.row p).val.ownBlock
structure Links (w : World) (B : Nat) (rs : List Rec) (X : Bool → Nat → List Value) : Prop where
  row : ∀ p k r, rs[k]? = some r → w.ownsRow B 118 1 (r.i.row p).val (X p k).length (X p k)
  apart : ∀ p k q j b, (p, k) ≠ (q, j) → rowB rs p k = some b → rowB rs q j ≠ some b
def pushX (X : Bool → Nat → List Value) (p : Bool) (k : Nat) (v : Value) : Bool → Nat → List Value := fun q j => if q = p ∧ j = k then X q j ++ [v] else X q j
theorem Links.frT {T : List TypeId} {S : Nat → Prop} {w w' : World} {B : Nat} {rs : List Rec} {X : Bool → Nat → List Value} (h : Links w B rs X) (hf : Fr S w w') (hs : NoT T w S) (ht : 118 ∈ T) : Links w' B rs X :=
  ⟨fun p k r hk => own_frT (h.row p k r hk) hf hs ht, h.apart⟩
theorem Links.push {w w' : World} {B : Nat} {rs : List Rec} {X : Bool → Nat → List Value} (h : Links w B rs X) {k : Nat} {r : Rec} (hk : rs[k]? = some r) {p : Bool} {s : SV} {v : Value} {ty : TypeId} {cs : Array Value}
    (hrow : w'.ownsRow B 118 1 s.val ((X p k).length + 1) (X p k ++ [v])) (hf : Fr (fun b => b = r.b ∨ (r.i.row p).val.ownBlock = some b) w w') (hrb : w.heap[r.b]? = some (.cells cs ty (0, 0))) (hty : ty ≠ 118)
    (hb : s.val.ownBlock = (r.i.row p).val.ownBlock ∨ ∃ b, s.val.ownBlock = some b ∧ w.heap.size ≤ b) : Links w' B (rs.set k (r.with (r.i.setRow p s))) (pushX X p k v) := by
  have hkl := (List.getElem?_eq_some_iff.1 hk).1
  have hB : ∀ q j b, rowB rs q j = some b → b < w.heap.size := by
    intro q j b hb
    unfold rowB at hb
    obtain ⟨x, h1, h2⟩ := Option.bind_eq_some_iff.1 hb
    exact own_lt (h.row q j x h1) b h2
  have hset : ∀ q j, (q, j) ≠ (p, k) → rowB (rs.set k (r.with (r.i.setRow p s))) q j = rowB rs q j := by
    intro q j hne
    unfold rowB
    rw [List.getElem?_set]
    split
    · rename_i e
      subst e
      rw [hk]
      have hqp : q ≠ p := fun e => hne (by rw [e])
      simp only [Option.bind_some, Rec.with]
      unfold Ins.setRow Ins.row
      cases q <;> cases p <;> simp_all
    · rfl
  have hself : rowB (rs.set k (r.with (r.i.setRow p s))) p k = s.val.ownBlock := by
    unfold rowB
    rw [List.getElem?_set, if_pos rfl, if_pos hkl]
    simp only [Option.bind_some, Rec.with]
    unfold Ins.setRow Ins.row
    cases p <;> rfl
  have hself0 : rowB rs p k = (r.i.row p).val.ownBlock := by unfold rowB; rw [hk]; rfl
  refine ⟨fun q j x hx => ?_, fun q j q' j' b hne h1 h2 => ?_⟩
  · by_cases hqj : (q, j) = (p, k)
    · injection hqj with e1 e2
      subst e1 e2
      rw [List.getElem?_set, if_pos rfl, if_pos hkl] at hx
      injection hx with hx
      subst hx
      have e1 : ((r.with (r.i.setRow q s)).i.row q).val = s.val := by
        simp only [Rec.with]
        unfold Ins.setRow Ins.row
        cases q <;> rfl
      have e2 : pushX X q j v q j = X q j ++ [v] := by simp [pushX]
      rw [e1, e2, List.length_append]
      exact hrow
    · have e2 : pushX X p k v q j = X q j := by
        unfold pushX
        rw [if_neg (fun e => hqj (by rw [e.1, e.2]))]
      rw [e2]
      have hold : ∃ y, rs[j]? = some y ∧ (y.i.row q).val = (x.i.row q).val := by
        rw [List.getElem?_set] at hx
        split at hx
        · rename_i e
          subst e
          injection hx with hx
          subst hx
          refine ⟨r, hk, ?_⟩
          have hqp : q ≠ p := fun e => hqj (by rw [e])
          simp only [Rec.with]
          unfold Ins.setRow Ins.row
          cases q <;> cases p <;> simp_all
        · exact ⟨x, hx, rfl⟩
      obtain ⟨y, hy, hxy⟩ := hold
      have hrow0 := h.row q j y hy
      rw [← hxy]
      refine own_fr hrow0 hf fun b hb1 hS => ?_
      rcases hS with rfl | hS
      · rcases hrow0.2 with ⟨e, _⟩ | ⟨g, cap, cur, e, _, hg, _⟩
        · rw [e] at hb1; simp [Value.ownBlock] at hb1
        · rw [e] at hb1
          simp only [Value.ownBlock, Option.some.injEq] at hb1
          subst hb1
          rw [hrb] at hg
          injection hg with hg
          injection hg with _ hg
          exact hty hg
      · have e3 : rowB rs q j = some b := by unfold rowB; rw [hy]; exact hb1
        exact h.apart q j p k b hqj e3 (hself0.trans hS)
  · by_cases hqj : (q, j) = (p, k)
    · have hne' : (q', j') ≠ (p, k) := fun e => hne (hqj.trans e.symm)
      injection hqj with e1 e2
      subst e1 e2
      rw [hself] at h1
      rw [hset q' j' hne'] at h2
      rcases hb with hb | ⟨nb, hb, hlt⟩
      · exact h.apart q j q' j' b hne (hself0.trans (hb.symm.trans h1)) h2
      · rw [h1] at hb
        injection hb with hb
        have := hB q' j' b h2
        omega
    · rw [hset q j hqj] at h1
      by_cases hqj' : (q', j') = (p, k)
      · injection hqj' with e1 e2
        subst e1 e2
        rw [hself] at h2
        rcases hb with hb | ⟨nb, hb, hlt⟩
        · exact h.apart q j q' j' b hne h1 (hself0.trans (hb.symm.trans h2))
        · rw [h2] at hb
          injection hb with hb
          have := hB q j b h1
          omega
      · rw [hset q' j' hqj'] at h2
        exact h.apart q j q' j' b hne h1 h2
theorem Links.fresh {w : World} {B : Nat} {rs : List Rec} (h : ∀ r ∈ rs, Fresh r) : Links w B rs (fun _ _ => []) := by
  have key : ∀ (p : Bool) (k : Nat) (r : Rec), rs[k]? = some r → (r.i.row p).val = Value.slice none 0 0 := by
    intro p k r hk
    obtain ⟨h1, h2, _⟩ := h r (List.mem_of_getElem? hk)
    unfold Ins.row
    cases p
    · simp [h1, SV.val]
    · simp [h2, SV.val]
  refine ⟨fun p k r hk => ?_, fun p k q j b _ h1 _ => ?_⟩
  · rw [key p k r hk]; exact own_nil _ _ _ _
  · unfold rowB at h1
    obtain ⟨x, h2, h3⟩ := Option.bind_eq_some_iff.1 h1
    rw [key p k x h2] at h3
    simp [Value.ownBlock] at h3
end
section
open Go Go.RowKit Bth
set_option maxRecDepth 100000
def offR (p : Bool) : Nat := if p then 11 else 10
theorem own_ne {w : World} {base n size : Nat} {e : TypeId} {v : Value} {xs : List Value} {b : Nat} {cs : Array Value} {t : TypeId} {fr : Nat × Nat} (h : w.ownsRow base e size v n xs) (hb : w.heap[b]? = some (.cells cs t fr)) (ht : t ≠ e) : v.ownBlock ≠ some b := by
  intro e1
  rcases h.2 with ⟨rfl, _⟩ | ⟨g, cap, cur, rfl, _, hg, _⟩
  · simp [Value.ownBlock] at e1
  · simp only [Value.ownBlock, Option.some.injEq] at e1
    subst e1
    rw [hb] at hg
    injection hg with hg
    injection hg with _ hg
    exact ht hg
theorem setRow_cells (i : Ins) (p : Bool) (s : SV) : i.cells.setIfInBounds (offR p) (.slice s.A s.n s.c) = (i.setRow p s).cells := by cases p <;> rfl
theorem FState.push {w w1 w3 : World} {fs : Nat → Option Nat} {ns : List PN} {fb : Nat} {f : Fn} {nds : List Nd} {rs : List Rec} {cms : List (Nat × List ByteArray)} {B : Nat} {X : Bool → Nat → List Value}
    (h : FState w fs ns fb f nds rs cms) (L : Links w B rs X) {k : Nat} {r : Rec} (hk : rs[k]? = some r) (p : Bool) (s : SV) (v : Value) (hf1 : Fr nope w w1)
    (hown : w3.ownsRow B 118 1 s.val ((X p k).length + 1) (X p k ++ [v])) (hf3 : Fr (fun b => (r.i.row p).val.ownBlock = some b) w1 w3) (hb : s.val.ownBlock = (r.i.row p).val.ownBlock ∨ s.val.ownBlock = some w1.heap.size) :
    FState (w3.setCell ⟨r.b, offR p, none⟩ (.slice s.A s.n s.c)) fs ns fb f nds (rs.set k (r.with (r.i.setRow p s))) cms ∧ Links (w3.setCell ⟨r.b, offR p, none⟩ (.slice s.A s.n s.c)) B (rs.set k (r.with (r.i.setRow p s))) (pushX X p k v) ∧
      Fr (fun b => b = r.b ∨ (r.i.row p).val.ownBlock = some b) w (w3.setCell ⟨r.b, offR p, none⟩ (.slice s.A s.n s.c)) := by
  have hr := (h.recs r (List.mem_of_getElem? hk)).1.own.at_
  have hrow := L.row p k r hk
  have hne := own_ne hrow hr (by decide)
  have hr3 := hf3.heap (hf1.heap hr (fun x => x)) hne
  have hb4 := setCell_heap (k := offR p) hr3 (.slice s.A s.n s.c)
  rw [setRow_cells] at hb4
  have hst : Fr (fun b => b = r.b) w3 (w3.setCell ⟨r.b, offR p, none⟩ (.slice s.A s.n s.c)) := Fr.setCell (S := fun b => b = r.b) (p := ⟨r.b, offR p, none⟩) (Fr.refl _ w3) (.inl rfl) _
  have hf : Fr (fun b => b = r.b ∨ (r.i.row p).val.ownBlock = some b) w (w3.setCell ⟨r.b, offR p, none⟩ (.slice s.A s.n s.c)) := (hf1.of_nope.then (hf3.mono fun x _ hx => .inr hx)).then (hst.mono fun x _ hx => .inl hx)
  refine ⟨h.upd hk (r.i.setRow_same p s) hf (NoT.own hrow (by decide)) hb4, L.push hk (own_fr hown hst ?_) hf hr (by decide) ?_, hf⟩
  · intro b hb1 hb2
    subst hb2
    exact own_ne hown hr3 (by decide) hb1
  · rcases hb with hb | hb
    · exact .inl hb
    · exact .inr ⟨_, hb, hf1.size⟩
def Like (rs rs' : List Rec) : Prop := rs'.length = rs.length ∧ ∀ (k : Nat) (r' : Rec), rs'[k]? = some r' → ∃ (r : Rec) (i : Ins), rs[k]? = some r ∧ r' = r.with i ∧ SameBut r.i i
theorem SameBut.refl (i : Ins) : SameBut i i := ⟨rfl, rfl, rfl, rfl, rfl, rfl, rfl, rfl, rfl, rfl⟩
theorem SameBut.trans {a b c : Ins} (h : SameBut a b) (k : SameBut b c) : SameBut a c :=
  ⟨k.opc.trans h.opc, k.suf.trans h.suf, k.ops.trans h.ops, k.inp.trans h.inp, k.out.trans h.out, k.term.trans h.term, k.br.trans h.br, k.cond.trans h.cond, k.canc.trans h.canc, k.isa.trans h.isa⟩
theorem Like.refl (rs : List Rec) : Like rs rs := ⟨rfl, fun _ r h => ⟨r, r.i, h, rfl, SameBut.refl _⟩⟩
theorem Like.set {rs rs' : List Rec} (h : Like rs rs') {k : Nat} {r : Rec} (hk : rs'[k]? = some r) {i : Ins} (hi : SameBut r.i i) : Like rs (rs'.set k (r.with i)) := by
  refine ⟨by rw [List.length_set]; exact h.1, fun j x hx => ?_⟩
  rw [List.getElem?_set] at hx
  split at hx
  · rename_i e
    split at hx
    · injection hx with hx
      subst hx e
      obtain ⟨r0, i0, h1, rfl, h3⟩ := h.2 k r hk
      exact ⟨r0, i, h1, rfl, h3.trans hi⟩
    · cases hx
  · exact h.2 j x hx
theorem Like.trans {a b c : List Rec} (h : Like a b) (k : Like b c) : Like a c := by
  refine ⟨k.1.trans h.1, fun j x hx => ?_⟩
  obtain ⟨r, i, h1, rfl, h3⟩ := k.2 j x hx
  obtain ⟨r0, i0, g1, rfl, g3⟩ := h.2 j r h1
  exact ⟨r0, i, g1, rfl, g3.trans h3⟩
theorem Like.bs {rs rs' : List Rec} (h : Like rs rs') : rs'.map (·.b) = rs.map (·.b) := by
  apply List.ext_getElem?
  intro k
  rw [List.getElem?_map, List.getElem?_map]
  cases hk : rs'[k]? with
  | none =>
    have hl := h.1
    have : rs[k]? = none := by rw [List.getElem?_eq_none_iff] at hk ⊢; omega
    rw [this]
  | some x =>
    obtain ⟨r, i, h1, rfl, _⟩ := h.2 k x hk
    rw [h1]; rfl
theorem LabAt.ne {w : World} {mb b : Nat} {t : ByteArray → Option Nat} {cs : Array Value} {ty : TypeId} {fr : Nat × Nat} (h : LabAt w mb t) (hb : w.heap[b]? = some (.cells cs ty fr)) : mb ≠ b := by
  rintro rfl
  obtain ⟨ks, es, clock, h1, _⟩ := h
  rw [hb] at h1
  cases h1
theorem own_heap {w : World} {base n size : Nat} {e : TypeId} {v : Value} {xs : List Value} {b : Nat} (h : w.ownsRow base e size v n xs) (hb : v.ownBlock = some b) : ∃ cur, w.heap[b]? = some (.cells cur e (0, 0)) := by
  rcases h.2 with ⟨rfl, _⟩ | ⟨g, cap, cur, rfl, _, hg, _⟩
  · simp [Value.ownBlock] at hb
  · simp only [Value.ownBlock, Option.some.injEq] at hb
    subst hb
    exact ⟨cur, hg⟩
def succK (t : ByteArray → Option Nat) (bs : List Nat) (k : Nat) (i : Ins) (ops : List O) : Option (List (Option Nat)) :=
  (if i.br then (targetOf true ops).bind fun s => (t s).map fun b => [some b] else some []).map fun l => l ++ (if i.term || (i.br && !i.cond) then [] else [bs[k + 1]?])
theorem succK_same {t : ByteArray → Option Nat} {bs : List Nat} {k : Nat} {i i' : Ins} {ops : List O} (h : SameBut i i') : succK t bs k i' ops = succK t bs k i ops := by
  unfold succK; rw [h.br, h.term, h.cond]
end
section
open Go Go.RowKit Bth
set_option maxRecDepth 100000
section
variable (w : World)
theorem eq_coreV (d : Nat) (i i' k k' s s' : Int) : (Op.equalIn (d + 3) 345 (.agg #[.int .u16 i, .int .u8 k, .int .u16 s]) (.agg #[.int .u16 i', .int .u8 k', .int .u16 s'])).run Tryz.prog w = .ok (i == i' && k == k' && s == s') w := by
  go_simp
  by_cases h1 : i = i' <;> by_cases h2 : k = k' <;> by_cases h3 : s = s' <;> simp [h1, h2, h3]
theorem eq_fam (d : Nat) (b b' : Nat) (hsa : b = b' ∨ (sameAddr ⟨b, 0, none⟩ ⟨b', 0, none⟩).run Tryz.prog w = .ok false w) (T : TypeId) (hT : Tryz.prog.underlying T = some (.pointer 200)) : (Op.equalIn (d + 1) T (.pointer (some ⟨b, 0, none⟩)) (.pointer (some ⟨b', 0, none⟩))).run Tryz.prog w = .ok (b == b') w := by
  have hs : (Tryz.prog.info? 200).map (·.size) = some 2 := by kernel_rfl
  obtain ⟨i, hi, hi2⟩ := Option.map_eq_some_iff.1 hs
  by_cases hb : b = b'
  · subst hb
    simp [Op.equalIn, run_underlying hT, typeInfo, sizeOf, hi, run_sameAddr_same]
  · have h2 := hsa.resolve_left hb
    simp [Op.equalIn, run_underlying hT, typeInfo, sizeOf, hi, hi2, h2, hb]
theorem eq_coreP (d : Nat) (b b' : Nat) (i i' s s' f f' : Int) (n n' : ByteArray) (hsa : b = b' ∨ (sameAddr ⟨b, 0, none⟩ ⟨b', 0, none⟩).run Tryz.prog w = .ok false w) :
    (Op.equalIn (d + 3) 209 (.agg #[.pointer (some ⟨b, 0, none⟩), .int .u16 i, .string n, .int .u8 f, .int .u16 s]) (.agg #[.pointer (some ⟨b', 0, none⟩), .int .u16 i', .string n', .int .u8 f', .int .u16 s'])).run Tryz.prog w = .ok (b == b' && i == i' && n == n' && f == f' && s == s') w := by
  have h1 := fun T hT => eq_fam w (d + 1) b b' hsa T hT
  go_simp
  rw [beq_toListBytes]
  by_cases h1 : b = b' <;> by_cases h2 : i = i' <;> by_cases h3 : n.toList = n'.toList <;> by_cases h4 : f = f' <;> by_cases h5 : s = s' <;> simp [h1, h2, h3, h4, h5]
theorem eq_iface (d : Nat) {S T T' : TypeId} {ms : Array (String × TypeId)} (x y : Value) (hS : Tryz.prog.underlying S = some (.interface ms)) (hne : T ≠ T') : (Op.equalIn (d + 1) S (.iface T x) (.iface T' y)).run Tryz.prog w = .ok false w := by
  simp [Op.equalIn, run_underlying hS, hne]
theorem eq_iface_one (d : Nat) {S T : TypeId} {ms : Array (String × TypeId)} (x y : Value) (hS : Tryz.prog.underlying S = some (.interface ms)) (hc : (Tryz.prog.info? T).map (·.comparable) = some true) : (Op.equalIn (d + 1) S (.iface T x) (.iface T y)).run Tryz.prog w = (Op.equalIn d T x y).run Tryz.prog w := by
  obtain ⟨i, hi, hi2⟩ := Option.map_eq_some_iff.1 hc
  simp [Op.equalIn, run_underlying hS, typeInfo, hi, hi2]
theorem eq_vIface (d : Nat) {S : TypeId} {ms : Array (String × TypeId)} (hS : Tryz.prog.underlying S = some (.interface ms)) (i i' k k' s s' : Int) :
    (Op.equalIn (d + 4) S (.iface 345 (.agg #[.int .u16 i, .int .u8 k, .int .u16 s])) (.iface 345 (.agg #[.int .u16 i', .int .u8 k', .int .u16 s']))).run Tryz.prog w = .ok (i == i' && k == k' && s == s') w := by
  rw [eq_iface_one w (d + 3) _ _ hS (by kernel_rfl), eq_coreV]
theorem eq_pIface (d : Nat) {S : TypeId} {ms : Array (String × TypeId)} (hS : Tryz.prog.underlying S = some (.interface ms)) (b b' : Nat) (i i' s s' f f' : Int) (n n' : ByteArray) (hsa : b = b' ∨ (sameAddr ⟨b, 0, none⟩ ⟨b', 0, none⟩).run Tryz.prog w = .ok false w) :
    (Op.equalIn (d + 4) S (.iface 209 (.agg #[.pointer (some ⟨b, 0, none⟩), .int .u16 i, .string n, .int .u8 f, .int .u16 s])) (.iface 209 (.agg #[.pointer (some ⟨b', 0, none⟩), .int .u16 i', .string n', .int .u8 f', .int .u16 s']))).run Tryz.prog w = .ok (b == b' && i == i' && n == n' && f == f' && s == s') w := by
  rw [eq_iface_one w (d + 3) _ _ hS (by kernel_rfl), eq_coreP w d b b' i i' s s' f f' n n' hsa]
theorem eq_wrapV (d : Nat) (kind : Nat) (x y : Value) (c : Bool) (h : ∀ {S ms} (_ : Tryz.prog.underlying S = some (.interface ms)) d, (Op.equalIn (d + 4) S x y).run Tryz.prog w = .ok c w) :
    (Op.equalIn (d + 10) 147 (wrapV kind x) (wrapV kind y)).run Tryz.prog w = .ok c w := by
  have hR := Tryz.underlying147
  unfold wrapV
  split
  · rw [eq_iface_one w (d + 9) _ _ hR (by kernel_rfl)]
    have hh := fun d => h Tryz.underlying329 d
    go_simp
    cases c <;> rfl
  · rw [eq_iface_one w (d + 9) _ _ hR (by kernel_rfl)]
    have hh := fun d => h Tryz.underlying329 d
    have h2 := fun d T (hT : Tryz.prog.underlying T = some (.interface (Tryz.prog.methodsAt T))) => run_equalIn_nil_nil (P := Tryz.prog) (w := w) d T hT
    go_simp
    cases c <;> rfl
  · rw [eq_iface_one w (d + 9) _ _ hR (by kernel_rfl)]
    have hh := fun d => h Tryz.underlying329 d
    go_simp
    cases c <;> rfl
  · exact h hR (d + 6)
theorem eq_wrapP (d : Nat) (kind : Nat) (x y : Value) (c : Bool) (h : ∀ {S ms} (_ : Tryz.prog.underlying S = some (.interface ms)) d, (Op.equalIn (d + 4) S x y).run Tryz.prog w = .ok c w) :
    (Op.equalIn (d + 10) 147 (wrapP kind x) (wrapP kind y)).run Tryz.prog w = .ok c w := by
  have hR := Tryz.underlying147
  unfold wrapP
  split
  · rw [eq_iface_one w (d + 9) _ _ hR (by kernel_rfl)]
    have hh := fun d => h Tryz.underlying158 d
    go_simp
    cases c <;> rfl
  · rw [eq_iface_one w (d + 9) _ _ hR (by kernel_rfl)]
    have hh := fun d => h Tryz.underlying158 d
    go_simp
    cases c <;> rfl
  · rw [eq_iface_one w (d + 9) _ _ hR (by kernel_rfl)]
    have hh := fun d => h Tryz.underlying158 d
    go_simp
    cases c <;> rfl
  · exact h hR (d + 6)
end
theorem congr2 {α β γ : Sort _} (f : α → β → γ) {a a' : α} {b b' : β} (h : a = a') (h' : b = b') : f a b = f a' b' := by rw [h, h']
def wk (k : Nat) : Nat := if k = 1 ∨ k = 2 ∨ k = 3 then k else 0
def R.same (r r' : R) : Bool := r.virt == r'.virt && wk r.kind == wk r'.kind && (r.idx == r'.idx && r.spec == r'.spec) && (if r.virt then r.kind == r'.kind else r.fb == r'.fb && (r.name == r'.name && r.info == r'.info))
theorem wrapV_wk (k : Nat) (x : Value) : wrapV k x = wrapV (wk k) x := by
  unfold wk
  split
  · rfl
  · rename_i h
    unfold wrapV
    split <;> simp_all
theorem wrapP_wk (k : Nat) (x : Value) : wrapP k x = wrapP (wk k) x := by
  unfold wk
  split
  · rfl
  · rename_i h
    unfold wrapP
    split <;> simp_all
def tyV (k : Nat) : TypeId := match k with
  | 1 => 347
  | 2 => 349
  | 3 => 350
  | _ => 345
def tyP (k : Nat) : TypeId := match k with
  | 1 => 260
  | 2 => 264
  | 3 => 265
  | _ => 209
theorem wk_lt (k : Nat) : wk k = 0 ∨ wk k = 1 ∨ wk k = 2 ∨ wk k = 3 := by unfold wk; split <;> omega
theorem wrapV_ty (k : Nat) (x : Value) : ∃ v, wrapV k (.iface 345 x) = .iface (tyV (wk k)) v := by
  rw [wrapV_wk]
  rcases wk_lt k with h | h | h | h <;> rw [h] <;> exact ⟨_, rfl⟩
theorem wrapP_ty (k : Nat) (x : Value) : ∃ v, wrapP k (.iface 209 x) = .iface (tyP (wk k)) v := by
  rw [wrapP_wk]
  rcases wk_lt k with h | h | h | h <;> rw [h] <;> exact ⟨_, rfl⟩
theorem R.eqIn (w : World) (r r' : R) (h : r.At w) (h' : r'.At w) : (Op.equalIn 10000 147 r.val r'.val).run Tryz.prog w = .ok (r.same r') w := by
  obtain ⟨virt, kind, idx, spec, fb, name, info⟩ := r
  obtain ⟨virt', kind', idx', spec', fb', name', info'⟩ := r'
  have hR := Tryz.underlying147
  have hcast : ∀ a b : Nat, ((a : Int) == (b : Int)) = (a == b) := fun a b => by
    rw [Bool.eq_iff_iff]; simp; omega
  cases virt <;> cases virt'
  · show (Op.equalIn 10000 _ (wrapP kind (.iface 209 (.agg #[.pointer (some ⟨fb, 0, none⟩), .int .u16 (idx : Int), .string name, .int .u8 (info : Int), .int .u16 (spec : Int)]))) (wrapP kind' (.iface 209 (.agg #[.pointer (some ⟨fb', 0, none⟩), .int .u16 (idx' : Int), .string name', .int .u8 (info' : Int), .int .u16 (spec' : Int)])))).run Tryz.prog w = _
    obtain ⟨v, hb⟩ := h rfl
    obtain ⟨v', hb'⟩ := h' rfl
    simp only at hb hb'
    by_cases hk : wk kind = wk kind'
    · have hsa : fb = fb' ∨ (sameAddr ⟨fb, 0, none⟩ ⟨fb', 0, none⟩).run Tryz.prog w = .ok false w := by
        by_cases e : fb = fb'
        · exact .inl e
        · exact .inr (run_sameAddr_other w (fun h => e (by injection h)) hb hb')
      rw [wrapP_wk, wrapP_wk kind', hk, eq_wrapP w 9990 (wk kind') _ _ _ (fun hS d => eq_pIface w d hS fb fb' idx idx' spec spec' info info' name name' hsa)]
      congr 1
      simp only [hcast, R.same, hk]
      cases fb == fb' <;> cases idx == idx' <;> cases spec == spec' <;> cases name == name' <;> cases info == info' <;> simp
    · obtain ⟨x, hx⟩ := wrapP_ty kind (.agg #[.pointer (some ⟨fb, 0, none⟩), .int .u16 (idx : Int), .string name, .int .u8 (info : Int), .int .u16 (spec : Int)])
      obtain ⟨x', hx'⟩ := wrapP_ty kind' (.agg #[.pointer (some ⟨fb', 0, none⟩), .int .u16 (idx' : Int), .string name', .int .u8 (info' : Int), .int .u16 (spec' : Int)])
      rw [hx, hx', eq_iface w 9999 _ _ hR]
      · simp [R.same, hk]
      · rcases wk_lt kind with h | h | h | h <;> rcases wk_lt kind' with h' | h' | h' | h' <;> rw [h, h'] at hk ⊢ <;> first | exact absurd rfl hk | decide
  · obtain ⟨x, hx⟩ := wrapP_ty kind (.agg #[.pointer (some ⟨fb, 0, none⟩), .int .u16 (idx : Int), .string name, .int .u8 (info : Int), .int .u16 (spec : Int)])
    obtain ⟨x', hx'⟩ := wrapV_ty kind' (.agg #[.int .u16 (idx' : Int), .int .u8 (kind' : Int), .int .u16 (spec' : Int)])
    show (Op.equalIn 10000 _ (wrapP kind _) (wrapV kind' _)).run Tryz.prog w = _
    refine (congr2 (fun a b => (Op.equalIn 10000 _ a b).run Tryz.prog w) hx hx').trans ?_
    rw [eq_iface w 9999 _ _ hR]
    · simp [R.same]
    · rcases wk_lt kind with h | h | h | h <;> rcases wk_lt kind' with h' | h' | h' | h' <;> rw [h, h'] <;> decide
  · obtain ⟨x, hx⟩ := wrapV_ty kind (.agg #[.int .u16 (idx : Int), .int .u8 (kind : Int), .int .u16 (spec : Int)])
    obtain ⟨x', hx'⟩ := wrapP_ty kind' (.agg #[.pointer (some ⟨fb', 0, none⟩), .int .u16 (idx' : Int), .string name', .int .u8 (info' : Int), .int .u16 (spec' : Int)])
    show (Op.equalIn 10000 _ (wrapV kind _) (wrapP kind' _)).run Tryz.prog w = _
    refine (congr2 (fun a b => (Op.equalIn 10000 _ a b).run Tryz.prog w) hx hx').trans ?_
    rw [eq_iface w 9999 _ _ hR]
    · simp [R.same]
    · rcases wk_lt kind with h | h | h | h <;> rcases wk_lt kind' with h' | h' | h' | h' <;> rw [h, h'] <;> decide
  · show (Op.equalIn 10000 _ (wrapV kind (.iface 345 (.agg #[.int .u16 (idx : Int), .int .u8 (kind : Int), .int .u16 (spec : Int)]))) (wrapV kind' (.iface 345 (.agg #[.int .u16 (idx' : Int), .int .u8 (kind' : Int), .int .u16 (spec' : Int)])))).run Tryz.prog w = _
    by_cases hk : wk kind = wk kind'
    · rw [wrapV_wk, wrapV_wk kind', hk, eq_wrapV w 9990 (wk kind') _ _ _ (fun hS d => eq_vIface w d hS idx idx' kind kind' spec spec')]
      congr 1
      simp only [hcast, R.same, hk]
      cases idx == idx' <;> cases kind == kind' <;> cases spec == spec' <;> simp
    · obtain ⟨x, hx⟩ := wrapV_ty kind (.agg #[.int .u16 (idx : Int), .int .u8 (kind : Int), .int .u16 (spec : Int)])
      obtain ⟨x', hx'⟩ := wrapV_ty kind' (.agg #[.int .u16 (idx' : Int), .int .u8 (kind' : Int), .int .u16 (spec' : Int)])
      rw [hx, hx', eq_iface w 9999 _ _ hR]
      · simp [R.same, hk]
      · rcases wk_lt kind with h | h | h | h <;> rcases wk_lt kind' with h' | h' | h' | h' <;> rw [h, h'] at hk ⊢ <;> first | exact absurd rfl hk | decide
end
section
open Go Go.RowKit Bth
set_option maxRecDepth 100000
theorem R.eql (w : World) (r r' : R) (h : r.At w) (h' : r'.At w) : (binOp .eql 147 r.val r'.val).run Tryz.prog w = .ok (.bool (r.same r')) w := by
  obtain ⟨T, v, hv⟩ := r.val_iface
  obtain ⟨T', v', hv'⟩ := r'.val_iface
  have he := R.eqIn w r r' h h'
  rw [hv, hv'] at he ⊢
  simp only [binOp]
  simp [Op.equal, Op.maxDepth, he]
def inRegs (canc : Bool) (ins outs : List O) : List R :=
  (match canc, regsOf ins with
    | true, r :: r' :: l => if r.same r' then [] else r :: r' :: l
    | _, l => l) ++ regsOf (outs.filter O.isMem)
theorem inRegs_false (ins outs : List O) : inRegs false ins outs = regsOf ins ++ regsOf (outs.filter O.isMem) := by
  unfold inRegs
  split <;> simp_all
theorem inRegs_true_no {ins : List O} {r r' : R} (h0 : (regsOf ins)[0]? = some r) (h1 : (regsOf ins)[1]? = some r') (h : r.same r' = false) (outs : List O) : inRegs true ins outs = regsOf ins ++ regsOf (outs.filter O.isMem) := by
  match hl : regsOf ins with
  | [] => rw [hl] at h0; cases h0
  | [a] => rw [hl] at h1; cases h1
  | a :: b :: l =>
    rw [hl] at h0 h1
    injection h0 with h0
    injection h1 with h1
    subst h0 h1
    simp [inRegs, hl, h]
theorem inRegs_true_yes {ins : List O} {r r' : R} (h0 : (regsOf ins)[0]? = some r) (h1 : (regsOf ins)[1]? = some r') (h : r.same r' = true) (outs : List O) : inRegs true ins outs = [] ++ regsOf (outs.filter O.isMem) := by
  match hl : regsOf ins with
  | [] => rw [hl] at h0; cases h0
  | [a] => rw [hl] at h1; cases h1
  | a :: b :: l =>
    rw [hl] at h0 h1
    injection h0 with h0
    injection h1 with h1
    subst h0 h1
    simp [inRegs, hl, h]
theorem filter_take_no {ys : List O} {j : Nat} {o : O} {p : O → Bool} (h : ys[j]? = some o) (hp : p o = false) : (ys.take (j + 1)).filter p = (ys.take j).filter p := by
  rw [List.take_add_one, h]; simp [hp]
theorem filter_take_yes {ys : List O} {j : Nat} {o : O} {p : O → Bool} (h : ys[j]? = some o) (hp : p o = true) : (ys.take (j + 1)).filter p = (ys.take j).filter p ++ [o] := by
  rw [List.take_add_one, h]; simp [hp]
theorem regsOf_filter {ys : List O} {j : Nat} {o : O} {p : O → Bool} (h : ys[j]? = some o) (hp : p o = true) : regsOf ((ys.take (j + 1)).filter p) = regsOf ((ys.take j).filter p) ++ o.regs := by
  rw [filter_take_yes h hp]; simp [regsOf]
theorem regsOf_filter_at {w : World} {s : SV} {xs : List O} {p : O → Bool} (h : OpsAt w s xs) : ∀ r ∈ regsOf (xs.filter p), r.Ok ∧ r.At w := by
  intro r hr
  obtain ⟨o, ho, hr⟩ := List.mem_flatMap.1 hr
  exact h.2.2 o (List.mem_filter.1 ho).1 r hr
theorem own_two {w : World} {base n : Nat} {e : TypeId} {A : Option Addr} {c : Nat} {xs : List Value} (h : w.ownsRow base e 1 (.slice A n c) n xs) (hn : 2 ≤ n) : ∃ g x y, A = some ⟨g, 0, none⟩ ∧ g < w.heap.size ∧ xs[0]? = some x ∧ xs[1]? = some y ∧ w.cell? ⟨g, 0, none⟩ = some x ∧ w.cell? ⟨g, 1, none⟩ = some y := by
  obtain ⟨g, rfl, hg, hc⟩ := own_cells h (by omega)
  have hl := h.1
  have h0 : xs[0]? = some (xs[0]'(by omega)) := List.getElem?_eq_getElem (by omega)
  have h1 : xs[1]? = some (xs[1]'(by omega)) := List.getElem?_eq_getElem (by omega)
  exact ⟨g, _, _, rfl, hg, h0, h1, hc 0 _ h0, hc 1 _ h1⟩
set_option maxHeartbeats 2000000 in
theorem InputRegisters_calls (w : World) (i : Ins) (xs ys : List O) (hx : OpsAt w i.inp xs) (hy : OpsAt w i.out ys) (hl : xs.length ≤ 1073741824) (hl' : ys.length ≤ 1073741824) (hcanc : i.canc = true → 2 ≤ (regsOf xs).length) :
    Calls Tryz.prog 61 #[i.agg] w (GivesRegs w (inRegs i.canc xs ys)) := by
  obtain ⟨opc, suf, ops, ⟨A, n, c⟩, ⟨A', n', c'⟩, term, br, cond, canc, isa, pred, succ, lin, lout⟩ := i
  obtain ⟨rfl, hx1, hx2⟩ : n = xs.length ∧ _ := hx
  obtain ⟨rfl, hy1, hy2⟩ : n' = ys.length ∧ _ := hy
  have hx : OpsAt w ⟨A, xs.length, c⟩ xs := ⟨rfl, hx1, hx2⟩
  have hy : OpsAt w ⟨A', ys.length, c'⟩ ys := ⟨rfl, hy1, hy2⟩
  clear hx1 hx2 hy1 hy2
  simp only [Ins.agg, Ins.cells] at hcanc ⊢
  go_enter Tryz.func61, Tryz.ntmps61
  go_wp2
  have hbox : ∃ cs, (w.alloc (.cells cs 135)).heap[w.heap.size]? = some (.cells #[.string opc, .slice suf.A suf.n suf.c, .slice ops.A ops.n ops.c, .slice A xs.length c, .slice A' ys.length c', .bool term, .bool br, .bool cond, .bool canc, .slice isa.A isa.n isa.c, .slice pred.A pred.n pred.c, .slice succ.A succ.n succ.c, .map lin, .map lout] 135) := ⟨_, heap_alloc_new w _⟩
  go_loopg [3, 11] xs.length (fun n c3 c11 wr => ∃ k : Nat, k ≤ xs.length ∧ c11 = .int .i64 (k : Int) ∧ wr.ownsRow (w.heap.size + 1) 147 1 c3 (regsOf (xs.take k)).length ((regsOf (xs.take k)).map R.val) ∧ Fr nope w wr ∧
     wr.heap[w.heap.size]? = some (.cells #[.string opc, .slice suf.A suf.n suf.c, .slice ops.A ops.n ops.c, .slice A xs.length c, .slice A' ys.length c', .bool term, .bool br, .bool cond, .bool canc, .slice isa.A isa.n isa.c, .slice pred.A pred.n pred.c, .slice succ.A succ.n succ.c, .map lin, .map lout] 135) ∧ n = xs.length - k)
  case atStart => exact ⟨0, Nat.zero_le _, rfl, by simpa [regsOf] using own_nil _ _ _ _, (Fr.refl _ _).alloc _, heap_alloc_new w _, rfl⟩
  case round =>
    obtain ⟨k, hk, rfl, hown, hf, hbx, rfl⟩ := hrel
    by_cases hlt : k < xs.length
    · obtain ⟨b, off, o, hA, hbl, hok, hc, hat⟩ := (hx.nope hf).at_ hlt
      simp only at hA
      subst hA
      have hT := Lib.hid (regsOf_take hok)
      have hB1 := regsOf_le (xs.take k)
      have hB2 := o.regs_le
      have hB3 : (xs.take k).length ≤ k := by rw [List.length_take]; omega
      have hbl2 := lt_of_heap hbx
      clear hok hx hy hcanc
      go_wp2_with (first
        | (go_at_call 94; refine (OpRegs_calls _ o hat).mono ?_; rintro e w2 ⟨A2, c2, rfl, ⟨hS2, _⟩, hf2⟩)
        | (have hown2 := own_fr hown hf2 (fun _ _ x => x); refine wpList_app (v := u3) rfl rfl Tryz.underlying140 infoReg rfl (by omega) rfl hown2 rfl (news := o.regs.map R.val) (by simp) (Sl.src hS2) (regs_one _) (by simp only [maxLen]; omega) (by omega) (by have := hf.size; have := hf2.size; omega) ?_; intro v3 w3 hown3 hf3 _))
      go_roundg (xs.length - (k + 1))
      case measure => omega
      case rel => exact ⟨k + 1, by omega, by go_num, by rw [hT.out]; simpa using hown3, (hf.then hf2).then_new hf3 (fun x hx he => by have := own_base hown x he; omega), hf3.heap (hf2.heap hbx (fun x => x)) (fun he => by have := own_base hown _ he; omega), rfl⟩
    · have e : xs.take k = xs := List.take_of_length_le (by omega)
      rw [e] at hown
      obtain ⟨A1, c1, rfl, _, _⟩ := own_slice hown
      have hrs := regsOf_at (hx.nope hf)
      have hbl2 := lt_of_heap hbx
      cases canc with
      | false =>
        have hc8 : wr.cell? ⟨w.heap.size, 8, none⟩ = some (.bool false) := by rw [cell_of_row wr w.heap.size 8 _ _ (0, 0) hbx]; rfl
        have hc4 : wr.cell? ⟨w.heap.size, 4, none⟩ = some (.slice A' ys.length c') := by rw [cell_of_row wr w.heap.size 4 _ _ (0, 0) hbx]; rfl
        have hc4' : ∀ m o, ((wr.drewN m).alloc o).cell? ⟨w.heap.size, 4, none⟩ = some (.slice A' ys.length c') := fun m o => ((Fr.refl nope (wr.drewN m)).alloc o).cell hc4 (fun x => x)
        go_wp2
        go_quiet (fail)
        go_wp2
        have hin := inRegs_false xs ys
        have hlen : (regsOf xs).length ≤ 2147483648 := by have := regsOf_le xs; omega
        have hat0 := regsOf_at hx
        have hown0 : (wr.drewN nq).ownsRow _ _ _ _ _ _ := hown
        have hf0 := hf.drewN nq
        have hs0 : w.heap.size + 1 ≤ (wr.drewN nq).heap.size := hbl2
        clear hown hrs
        clear hcanc
        generalize regsOf xs = l0 at hin hlen hat0 hown0 ⊢
        go_loopg [3, 35] ys.length (fun n c3 c35 w2 => ∃ j : Nat, j ≤ ys.length ∧ c35 = .int .i64 (j : Int) ∧ w2.ownsRow (w.heap.size + 1) 147 1 c3 (l0 ++ regsOf ((ys.take j).filter O.isMem)).length ((l0 ++ regsOf ((ys.take j).filter O.isMem)).map R.val) ∧ Fr nope w w2 ∧ w.heap.size + 1 ≤ w2.heap.size ∧ n = ys.length - j)
        case atStart => exact ⟨0, Nat.zero_le _, rfl, by simpa [regsOf] using hown0, hf0, hs0, rfl⟩
        case round =>
          obtain ⟨j, hj, rfl, hownj, hfj, hsj, rfl⟩ := hrel
          clear hown0 hf0
          by_cases hjl : j < ys.length
          · obtain ⟨b, off, o, hA, hbl, hok, hc, hat⟩ := (hy.nope hfj).at_ hjl
            simp only at hA
            subst hA
            have hB1 := regsOf_le ((ys.take j).filter O.isMem)
            have hB2 := o.regs_le
            have hB3 : ((ys.take j).filter O.isMem).length ≤ ys.length := Nat.le_trans (List.length_filter_le _ _) (by rw [List.length_take]; omega)
            have hB4 : (l0 ++ regsOf ((ys.take j).filter O.isMem)).length ≤ 4294967296 := by rw [List.length_append]; omega
            cases hm : o.isMem
            · have hT := filter_take_no hok hm
              clear hok
              go_wp2_with (go_at_call 95; refine (IsMem_calls _ o).mono ?_; rw [hm]; rintro e w3 ⟨rfl, hf3⟩)
              go_roundg (ys.length - (j + 1))
              case measure => omega
              case rel => exact ⟨j + 1, by omega, by go_num, by rw [hT]; exact own_fr hownj hf3 (fun _ _ x => x), hfj.then hf3, Nat.le_trans hsj hf3.size, rfl⟩
            · have hT := Lib.hid (regsOf_filter hok hm)
              clear hok
              go_wp2_with (first
                | (go_at_call 95; refine (IsMem_calls _ o).mono ?_; rw [hm]; rintro e w3 ⟨rfl, hf3⟩)
                | (go_at_call 94; refine (OpRegs_calls _ o (hat.nope hf3)).mono ?_; rintro e w4 ⟨A2, c2, rfl, ⟨hS2, _⟩, hf4⟩)
                | (have hown2 := own_fr hownj (hf3.then hf4) (fun _ _ x => x); refine wpList_app (v := u3) rfl rfl Tryz.underlying140 infoReg rfl (by omega) rfl hown2 rfl (news := o.regs.map R.val) (by simp) (Sl.src hS2) (regs_one _) (by simp only [maxLen]; omega) (by omega) (by have := hf3.size; have := hf4.size; omega) ?_; intro v5 w5 hown5 hf5 _))
              go_roundg (ys.length - (j + 1))
              case measure => omega
              case rel => exact ⟨j + 1, by omega, by go_num, by rw [hT.out, ← List.append_assoc]; simpa [Nat.add_assoc] using hown5, ((hfj.then hf3).then hf4).then_new hf5 (fun x hx he => by have := own_base hownj x he; omega), by have := hf3.size; have := hf4.size; have := hf5.size; omega, rfl⟩
          · have e2 : ys.take j = ys := List.take_of_length_le (by omega)
            rw [e2] at hownj
            go_wp2
            go_ret
            rw [hin]
            obtain ⟨A5, c5, rfl, _, _⟩ := own_slice hownj
            exact ⟨A5, c5, rfl, ⟨own_Sl hownj, fun r hr => by
              rcases List.mem_append.1 hr with h | h
              · exact ⟨(hat0 r h).1, (hat0 r h).2.nope hfj⟩
              · exact regsOf_filter_at (hy.nope hfj) r h⟩, hfj⟩
      | true =>
        have hn := hcanc rfl
        have hn0 : 0 < (regsOf xs).length := by omega
        have hn1 : 1 < (regsOf xs).length := by omega
        have hn2 : (0 : Int) < ((regsOf xs).length : Int) := by omega
        have hn3 : (1 : Int) < ((regsOf xs).length : Int) := by omega
        obtain ⟨g, x0, x1, rfl, hg, h0, h1, hc0, hc1⟩ := own_two hown hn
        rw [List.getElem?_map] at h0 h1
        obtain ⟨r0, hr0, rfl⟩ := Option.map_eq_some_iff.1 h0
        obtain ⟨r1, hr1, rfl⟩ := Option.map_eq_some_iff.1 h1
        have heql := fun m => R.eql (wr.drewN m) r0 r1 (hrs r0 (List.mem_of_getElem? hr0)).2 (hrs r1 (List.mem_of_getElem? hr1)).2
        have hc8 : wr.cell? ⟨w.heap.size, 8, none⟩ = some (.bool true) := by rw [cell_of_row wr w.heap.size 8 _ _ (0, 0) hbx]; rfl
        have hc4 : wr.cell? ⟨w.heap.size, 4, none⟩ = some (.slice A' ys.length c') := by rw [cell_of_row wr w.heap.size 4 _ _ (0, 0) hbx]; rfl
        have hc4' : ∀ m o, ((wr.drewN m).alloc o).cell? ⟨w.heap.size, 4, none⟩ = some (.slice A' ys.length c') := fun m o => ((Fr.refl nope (wr.drewN m)).alloc o).cell hc4 (fun x => x)
        obtain ⟨T0, v0, e0⟩ := r0.val_iface
        obtain ⟨T1, v1, e1⟩ := r1.val_iface
        rw [e0] at heql hc0
        rw [e1] at heql hc1
        cases hsm : r0.same r1
        · rw [hsm] at heql
          go_wp2
          go_quiet (fail)
          go_wp2
          have hin := inRegs_true_no hr0 hr1 hsm ys
          have hlen : (regsOf xs).length ≤ 2147483648 := by have := regsOf_le xs; omega
          have hat0 := regsOf_at hx
          have hown0 : (wr.drewN nq).ownsRow _ _ _ _ _ _ := hown
          have hf0 := hf.drewN nq
          have hs0 : w.heap.size + 1 ≤ (wr.drewN nq).heap.size := hbl2
          clear hn0 hn1 hn2 hn3 hc0 hc1 h0 h1 heql hr0 hr1 hn hown hrs hcanc
          generalize regsOf xs = l0 at hin hlen hat0 hown0 ⊢
          go_loopg [3, 35] ys.length (fun n c3 c35 w2 => ∃ j : Nat, j ≤ ys.length ∧ c35 = .int .i64 (j : Int) ∧ w2.ownsRow (w.heap.size + 1) 147 1 c3 (l0 ++ regsOf ((ys.take j).filter O.isMem)).length ((l0 ++ regsOf ((ys.take j).filter O.isMem)).map R.val) ∧ Fr nope w w2 ∧ w.heap.size + 1 ≤ w2.heap.size ∧ n = ys.length - j)
          case atStart => exact ⟨0, Nat.zero_le _, rfl, by simpa [regsOf] using hown0, hf0, hs0, rfl⟩
          case round =>
            obtain ⟨j, hj, rfl, hownj, hfj, hsj, rfl⟩ := hrel
            clear hown0 hf0
            by_cases hjl : j < ys.length
            · obtain ⟨b, off, o, hA, hbl, hok, hc, hat⟩ := (hy.nope hfj).at_ hjl
              simp only at hA
              subst hA
              have hB1 := regsOf_le ((ys.take j).filter O.isMem)
              have hB2 := o.regs_le
              have hB3 : ((ys.take j).filter O.isMem).length ≤ ys.length := Nat.le_trans (List.length_filter_le _ _) (by rw [List.length_take]; omega)
              have hB4 : (l0 ++ regsOf ((ys.take j).filter O.isMem)).length ≤ 4294967296 := by rw [List.length_append]; omega
              cases hm : o.isMem
              · have hT := filter_take_no hok hm
                clear hok
                go_wp2_with (go_at_call 95; refine (IsMem_calls _ o).mono ?_; rw [hm]; rintro e w3 ⟨rfl, hf3⟩)
                go_roundg (ys.length - (j + 1))
                case measure => omega
                case rel => exact ⟨j + 1, by omega, by go_num, by rw [hT]; exact own_fr hownj hf3 (fun _ _ x => x), hfj.then hf3, Nat.le_trans hsj hf3.size, rfl⟩
              · have hT := Lib.hid (regsOf_filter hok hm)
                clear hok
                go_wp2_with (first
                  | (go_at_call 95; refine (IsMem_calls _ o).mono ?_; rw [hm]; rintro e w3 ⟨rfl, hf3⟩)
                  | (go_at_call 94; refine (OpRegs_calls _ o (hat.nope hf3)).mono ?_; rintro e w4 ⟨A2, c2, rfl, ⟨hS2, _⟩, hf4⟩)
                  | (have hown2 := own_fr hownj (hf3.then hf4) (fun _ _ x => x); refine wpList_app (v := u3) rfl rfl Tryz.underlying140 infoReg rfl (by omega) rfl hown2 rfl (news := o.regs.map R.val) (by simp) (Sl.src hS2) (regs_one _) (by simp only [maxLen]; omega) (by omega) (by have := hf3.size; have := hf4.size; omega) ?_; intro v5 w5 hown5 hf5 _))
                go_roundg (ys.length - (j + 1))
                case measure => omega
                case rel => exact ⟨j + 1, by omega, by go_num, by rw [hT.out, ← List.append_assoc]; simpa [Nat.add_assoc] using hown5, ((hfj.then hf3).then hf4).then_new hf5 (fun x hx he => by have := own_base hownj x he; omega), by have := hf3.size; have := hf4.size; have := hf5.size; omega, rfl⟩
            · have e2 : ys.take j = ys := List.take_of_length_le (by omega)
              rw [e2] at hownj
              go_wp2
              go_ret
              rw [hin]
              obtain ⟨A5, c5, rfl, _, _⟩ := own_slice hownj
              exact ⟨A5, c5, rfl, ⟨own_Sl hownj, fun r hr => by
                rcases List.mem_append.1 hr with h | h
                · exact ⟨(hat0 r h).1, (hat0 r h).2.nope hfj⟩
                · exact regsOf_filter_at (hy.nope hfj) r h⟩, hfj⟩
        · rw [hsm] at heql
          go_wp2
          go_quiet (fail)
          go_wp2
          obtain ⟨l0, hl0⟩ : ∃ l0 : List R, l0 = [] := ⟨_, rfl⟩
          have hin : inRegs true xs ys = l0 ++ regsOf (ys.filter O.isMem) := by rw [hl0]; exact inRegs_true_yes hr0 hr1 hsm ys
          have hlen : l0.length ≤ 2147483648 := by rw [hl0]; simp
          have hat0 : ∀ r ∈ l0, r.Ok ∧ r.At w := by rw [hl0]; intro r hr; cases hr
          have hown0 : ((wr.drewN nq).alloc (.cells #[] 147)).ownsRow (w.heap.size + 1) 147 1 (.slice (some ⟨wr.heap.size, 0, none⟩) 0 0) 0 [] := by
            exact ⟨rfl, .inr ⟨wr.heap.size, 0, #[], rfl, by omega, heap_alloc_new (wr.drewN nq) _, by simp, by simp, by simp, by simp⟩⟩
          have hf0 := (hf.drewN nq).alloc (.cells #[] 147)
          have hs0 : w.heap.size + 1 ≤ ((wr.drewN nq).alloc (.cells #[] 147)).heap.size := by simp; omega
          clear hn0 hn1 hn2 hn3 hc0 hc1 h0 h1 heql hr0 hr1 hn hown hrs hcanc
          have hl1 := Lib.hid hl0
          clear hl0
          go_loopg [3, 35] ys.length (fun n c3 c35 w2 => ∃ j : Nat, j ≤ ys.length ∧ c35 = .int .i64 (j : Int) ∧ w2.ownsRow (w.heap.size + 1) 147 1 c3 (l0 ++ regsOf ((ys.take j).filter O.isMem)).length ((l0 ++ regsOf ((ys.take j).filter O.isMem)).map R.val) ∧ Fr nope w w2 ∧ w.heap.size + 1 ≤ w2.heap.size ∧ n = ys.length - j)
          case atStart => exact ⟨0, Nat.zero_le _, rfl, by have e := hl1.out; rw [e]; simpa [regsOf] using hown0, hf0, hs0, rfl⟩
          case round =>
            obtain ⟨j, hj, rfl, hownj, hfj, hsj, rfl⟩ := hrel
            clear hown0 hf0
            by_cases hjl : j < ys.length
            · obtain ⟨b, off, o, hA, hbl, hok, hc, hat⟩ := (hy.nope hfj).at_ hjl
              simp only at hA
              subst hA
              have hB1 := regsOf_le ((ys.take j).filter O.isMem)
              have hB2 := o.regs_le
              have hB3 : ((ys.take j).filter O.isMem).length ≤ ys.length := Nat.le_trans (List.length_filter_le _ _) (by rw [List.length_take]; omega)
              have hB4 : (l0 ++ regsOf ((ys.take j).filter O.isMem)).length ≤ 4294967296 := by rw [List.length_append]; omega
              cases hm : o.isMem
              · have hT := filter_take_no hok hm
                clear hok
                go_wp2_with (go_at_call 95; refine (IsMem_calls _ o).mono ?_; rw [hm]; rintro e w3 ⟨rfl, hf3⟩)
                go_roundg (ys.length - (j + 1))
                case measure => omega
                case rel => exact ⟨j + 1, by omega, by go_num, by rw [hT]; exact own_fr hownj hf3 (fun _ _ x => x), hfj.then hf3, Nat.le_trans hsj hf3.size, rfl⟩
              · have hT := Lib.hid (regsOf_filter hok hm)
                clear hok
                go_wp2_with (first
                  | (go_at_call 95; refine (IsMem_calls _ o).mono ?_; rw [hm]; rintro e w3 ⟨rfl, hf3⟩)
                  | (go_at_call 94; refine (OpRegs_calls _ o (hat.nope hf3)).mono ?_; rintro e w4 ⟨A2, c2, rfl, ⟨hS2, _⟩, hf4⟩)
                  | (have hown2 := own_fr hownj (hf3.then hf4) (fun _ _ x => x); refine wpList_app (v := u3) rfl rfl Tryz.underlying140 infoReg rfl (by omega) rfl hown2 rfl (news := o.regs.map R.val) (by simp) (Sl.src hS2) (regs_one _) (by simp only [maxLen]; omega) (by omega) (by have := hf3.size; have := hf4.size; omega) ?_; intro v5 w5 hown5 hf5 _))
                go_roundg (ys.length - (j + 1))
                case measure => omega
                case rel => exact ⟨j + 1, by omega, by go_num, by rw [hT.out, ← List.append_assoc]; simpa [Nat.add_assoc] using hown5, ((hfj.then hf3).then hf4).then_new hf5 (fun x hx he => by have := own_base hownj x he; omega), by have := hf3.size; have := hf4.size; have := hf5.size; omega, rfl⟩
            · have e2 : ys.take j = ys := List.take_of_length_le (by omega)
              rw [e2] at hownj
              go_wp2
              go_ret
              rw [hin]
              obtain ⟨A5, c5, rfl, _, _⟩ := own_slice hownj
              exact ⟨A5, c5, rfl, ⟨own_Sl hownj, fun r hr => by
                rcases List.mem_append.1 hr with h | h
                · exact ⟨(hat0 r h).1, (hat0 r h).2.nope hfj⟩
                · exact regsOf_filter_at (hy.nope hfj) r h⟩, hfj⟩
end
end Go.Proofs.YtbaihlfnbdifgaaGreat
