/- Part of the proof of boundApart_upto. -/
import Derived.Deep.QuietTactic
import Derived.BigQuiet
import Derived.Test.YtbaihlfnbdifgaaGreatP04
import Derived.Test.YtbaihlfnbdifgaaGreatP06
import Derived.Test.YtbaihlfnbdifgaaGreatP11
import Derived.Test.YtbaihlfnbdifgaaGreatP12
namespace Go.Proofs.YtbaihlfnbdifgaaGreat
section
open Go Go.RowKit Go.MapKept Bth
open Go.ChangeMaps (setBlock)
set_option maxRecDepth 100000
def pr (f : Nat → Option Int) (k : Nat) : Int := (f k).getD 0
def ltP (f : Nat → Option Int) (a b : Nat) : Bool := decide (pr f b < pr f a) || (decide (pr f a = pr f b) && decide (a < b))
theorem swo_ltP (f : Nat → Option Int) : Go.Sort.SWO (ltP f) where
  irrefl x := by simp [ltP]
  trans x y z h1 h2 := by simp [ltP] at *; omega
  ntrans x y z h1 h2 := by simp [ltP] at *; omega
theorem prioT : Tryz.prog.underlying 217 = some (.map 162 3) := Tryz.underlying217
theorem zeroInt (w : World) : (zeroValue 3).run Tryz.prog w = .ok (.int .i64 0) w := by kernel_rfl
theorem PrioAt.look {w : World} {b : Nat} {f : Nat → Option Int} (h : PrioAt w b f) (k : Nat) :
    (Instr.lookup 217 (.map (some b)) (.int .u32 (k : Int)) false).run Tryz.prog w = .ok (.int .i64 (pr f k)) w := by
  obtain ⟨ks, hm⟩ := h
  have := hm.lookup idKey prioT (zeroInt w) k false
  rw [show (Value.int .u32 (k : Int)) = idV k from rfl, this]
  unfold pr
  cases f k <;> simp
theorem PrioAt.put {w : World} {b : Nat} {f : Nat → Option Int} (h : PrioAt w b f) (k : Nat) (v : Int) :
    ∃ w', (Instr.mapUpdate 217 (.map (some b)) (.int .u32 (k : Int)) (.int .i64 v)).run Tryz.prog w = .ok () w' ∧ PrioAt w' b (fun x => if x = k then some v else f x) ∧ Fr (fun x => x = b) w w' ∧ w'.heap.size = w.heap.size := by
  obtain ⟨ks, hM⟩ := h
  obtain ⟨es, clock, h1, h2⟩ := hM.update idKey prioT k (.int .i64 v)
  have e : (fun x => (if x = k then some v else f x).map fun p => Value.int .i64 p) = updM (fun s => (f s).map fun p => Value.int .i64 p) k (some (.int .i64 v)) := by
    funext x
    unfold updM
    by_cases hx : x = k <;> simp [hx]
  rw [← e] at h2
  exact ⟨setBlock w b (.map es clock), h1, ⟨_, h2⟩, (Fr.refl (fun x => x = b) w).setBlock (.inl rfl) _, by simp [setBlock]⟩
theorem PrioAt.eqHeap {w W : World} {b : Nat} {f : Nat → Option Int} (h : PrioAt w b f) (he : W.heap = w.heap) : PrioAt W b f := by obtain ⟨ks, hm⟩ := h; exact ⟨ks, hm.keep (by rw [he])⟩
set_option maxHeartbeats 1000000 in
theorem less_calls (W : World) (a Bs bp b n c : Nat) (f : Nat → Option Int) (ys : List Nat) (hB : W.cell? ⟨Bs, 0, none⟩ = some (ptr a)) (h0 : W.cell? ⟨a, 0, none⟩ = some (.slice (some ⟨b, 0, none⟩) n c)) (h1 : W.cell? ⟨a, 1, none⟩ = some (.map (some bp)))
    (hP : PrioAt W bp f) (hl : ys.length = n) (hown : W.ownsRow 0 162 1 (.slice (some ⟨b, 0, none⟩) n c) n (ys.map idV)) (i j : Nat) (hi : i < n) (hj : j < n) :
    Calls Tryz.prog 129 #[.int .i64 i, .int .i64 j, ptr Bs] W fun e w' => e = .returned (.bool (ltP f (ys.getD i 0) (ys.getD j 0))) ∧ ∃ q, w' = W.drewN q := by
  obtain ⟨x, hx⟩ : ∃ x, ys[i]? = some x := ⟨_, List.getElem?_eq_getElem (by omega)⟩
  obtain ⟨y, hy⟩ : ∃ y, ys[j]? = some y := ⟨_, List.getElem?_eq_getElem (by omega)⟩
  have hci := (own_cur hown i (idV x) (by rw [List.getElem?_map, hx]; rfl)).1
  have hcj := (own_cur hown j (idV y) (by rw [List.getElem?_map, hy]; rfl)).1
  have hxd : ys.getD i 0 = x := by rw [List.getD_eq_getElem?_getD, hx]; rfl
  have hyd : ys.getD j 0 = y := by rw [List.getD_eq_getElem?_getD, hy]; rfl
  rw [hxd, hyd]
  have hlx := fun m => (PrioAt.eqHeap (W := W.drewN m) hP rfl).look x
  have hly := fun m => (PrioAt.eqHeap (W := W.drewN m) hP rfl).look y
  obtain ⟨p, hp⟩ : ∃ p, pr f x = p := ⟨_, rfl⟩
  obtain ⟨q, hq⟩ : ∃ q, pr f y = q := ⟨_, rfl⟩
  unfold ltP
  rw [hp] at hlx ⊢
  rw [hq] at hly ⊢
  unfold idV at hci hcj
  unfold ptr at hB ⊢
  have hi' : (0 : Int) ≤ (i : Int) := by omega
  have hj' : (0 : Int) ≤ (j : Int) := by omega
  have hii : (i : Int) < (n : Int) := by omega
  have hjj : (j : Int) < (n : Int) := by omega
  clear hP hown hx hy hxd hyd hp hq hl
  go_enter Tryz.func129, Tryz.ntmps129
  go_wp2
  go_quiet (fail)
  go_wp2
  go_quiet (fail)
  by_cases c1 : q < p
  · go_wp2
    go_ret
    exact ⟨by simp [c1], _, rfl⟩
  · by_cases c2 : p = q
    · subst c2
      go_wp2
      go_ret
      exact ⟨by simp, _, rfl⟩
    · have c3 : (p == q) = false := by simpa using c2
      go_wp2
      go_ret
      exact ⟨by simp [c1], _, rfl⟩
theorem AlAt.setRegs {w w' : World} {P : Nat → Prop} {x : Al} {g : AlG} (h : AlAt w P x g) (hf : Fr (fun b => g.sr.val.ownBlock = some b) w w') {ys : List Nat} (hl : ys.length = x.regs.length) (hown : w'.ownsRow 0 162 1 g.sr.val x.regs.length (ys.map idV)) (hp : ∀ v, x.poss v = none) :
    AlAt w' P { x with regs := ys } g := by
  have hT : NoT [269, 271, 221] w (fun b => g.sr.val.ownBlock = some b) := NoT.own h.regs (by decide)
  have hm : ∀ {c : Nat} {es : Array MapEntry} {cl : Nat}, w.heap[c]? = some (.map es cl) → ¬ (g.sr.val.ownBlock = some c) := fun hm => own_nomap h.regs hm
  obtain ⟨k1, m1⟩ := h.prio
  obtain ⟨k2, m2⟩ := h.al
  obtain ⟨k3, sv3, m3, _⟩ := h.poss
  exact
    { h with
      ha := heap_frT h.ha hf hT (by decide)
      regs := by show w'.ownsRow _ _ _ _ ys.length _; rw [hl]; exact hown
      prio := ⟨k1, m1.fr hf (by obtain ⟨_, _, o⟩ := MapAt.obj m1; exact hm o)⟩
      al := ⟨k2, m2.fr hf (by obtain ⟨_, _, o⟩ := MapAt.obj m2; exact hm o)⟩
      edges := own_frT h.edges hf hT (by decide)
      eat := fun k b e h1 h2 => heap_frT (h.eat k b e h1 h2) hf hT (by decide)
      poss := ⟨k3, sv3, m3.fr hf (by obtain ⟨_, _, o⟩ := MapAt.obj m3; exact hm o), fun k l e => by have := hp k; rw [this] at e; cases e⟩
      lt := fun c hc => Nat.lt_of_lt_of_le (h.lt c hc) hf.size }
theorem sortregs_calls (w : World) (P : Nat → Prop) (x : Al) (g : AlG) (h : AlAt w P x g) (hp : ∀ v, x.poss v = none) (hsz : x.regs.length < 4611686018427387904) :
    Calls Tryz.prog 106 #[ptr g.a] w fun e w' => e = .returned (.tuple #[]) ∧ ∃ ys, SortedOf (ltP x.prio) x.regs ys ∧ AlAt w' P { x with regs := ys } g ∧ Fr P w w' := by
  obtain ⟨wb, hwb⟩ : ∃ wb, wb = w.alloc (.cells #[ptr g.a] 150) := ⟨_, rfl⟩
  have hfb : Fr nope w wb := by rw [hwb]; exact (Fr.refl nope w).alloc _
  have hbb : wb.heap[w.heap.size]? = some (.cells #[ptr g.a] 150 (0, 0)) := by rw [hwb]; exact heap_alloc_new w _
  have hb := h.still hfb
  obtain ⟨a, bp, ba, bq, ⟨sA, sn, sc⟩, se, eb⟩ := g
  obtain rfl : sn = x.regs.length := h.rn
  have hc0 := hb.c0
  have halt := hb.lt _ hb.pa
  have hcb : wb.cell? ⟨w.heap.size, 0, none⟩ = some (ptr a) := by rw [cell_of_row wb _ 0 _ _ (0, 0) hbb]; rfl
  have hlb := lt_of_heap hbb
  have hc0w := h.c0
  have haltw := h.lt _ h.pa
  simp only at hc0 halt hc0w haltw
  have hless : ∀ b, sA = some ⟨b, 0, none⟩ → LessOwn 129 #[ptr w.heap.size] (ltP x.prio) wb b sc x.regs.length := by
    rintro b rfl W ys hf hlen hown i j hi hj
    have h1 : ¬ a = b := fun e => own_ne hb.regs hb.ha (by decide) (by rw [e]; rfl)
    have h2 : ¬ bp = b := fun e => by
      obtain ⟨k1, m1⟩ := hb.prio
      obtain ⟨_, _, o⟩ := MapAt.obj m1
      exact own_nomap hb.regs o (by show some b = some bp; rw [e])
    have h3 : ¬ w.heap.size = b := fun e => by
      have := own_lt h.regs b rfl
      omega
    exact less_calls W a w.heap.size bp b x.regs.length sc x.prio ys (hf.cell hcb h3) (hf.cell hb.c0 h1) (hf.cell hb.c1 h1) (PrioAt.fr hb.prio hf h2) hlen hown i j hi hj
  have hS := sortIDs_calls wb sA sc x.regs hb.regs _ _ (fun args w => enters_of Tryz.func129 (by kernel_rfl) rfl args w) (ltP x.prio) (swo_ltP _) hless hsz
  clear hless
  unfold ptr at hS ⊢
  unfold ptr at hcb hwb
  go_enter Tryz.func106, Tryz.ntmps106
  go_wp2_with fail
  rw [← hwb]
  refine hS.mono ?_
  rintro e w2 ⟨rfl, ys, hys, hown, hf2⟩
  replace hwb := Lib.hid hwb
  go_wp2
  go_end0
  refine ⟨rfl, ys, hys, hb.setRegs hf2 hys.1.length_eq hown hp, hfb.of_nope.then (hf2.mono fun c _ hc => h.pr c hc)⟩
def setPr (f : Nat → Option Int) (id : Nat) (p : Int) : Nat → Option Int := fun x => if x = id then some p else f x
theorem AlAt.setPrio {w w' : World} {P : Nat → Prop} {x : Al} {g : AlG} (h : AlAt w P x g) (hf : Fr (fun b => b = g.bp) w w') {f : Nat → Option Int} (hp : PrioAt w' g.bp f) : AlAt w' P { x with prio := f } g := by
  obtain ⟨k1, m1⟩ := h.prio
  obtain ⟨_, _, o⟩ := MapAt.obj m1
  have hkind : ∀ {cs : Array Value} {t : TypeId} {fr : Nat × Nat} {b : Nat}, w.heap[b]? = some (.cells cs t fr) → b ≠ g.bp := by
    rintro cs t fr b hb rfl
    rw [hb] at o; cases o
  have hown : ∀ {n size : Nat} {e : TypeId} {v : Value} {xs : List Value}, w.ownsRow 0 e size v n xs → w'.ownsRow 0 e size v n xs := fun ho => own_fr ho hf fun c hc he => by
    obtain ⟨cur, h2⟩ := own_heap ho hc
    exact hkind h2 he
  have hposs := h.poss
  obtain ⟨k3, sv3, m3, hl3⟩ := hposs
  exact
    { h with
      ha := hf.heap h.ha (hkind h.ha)
      regs := hown h.regs
      prio := hp
      al := h.al.fr hf (fun e => h.ne1 e.symm)
      edges := hown h.edges
      eat := fun k b e h1 h2 => hf.heap (h.eat k b e h1 h2) (hkind (h.eat k b e h1 h2))
      poss := ⟨k3, sv3, m3.fr hf (fun e => h.ne2 e.symm), fun k l e => ⟨hown (hl3 k l e).1, (hl3 k l e).2⟩⟩
      lt := fun c hc => Nat.lt_of_lt_of_le (h.lt c hc) hf.size }
theorem SetPrio_calls (w : World) (P : Nat → Prop) (x : Al) (g : AlG) (id : Nat) (p : Int) (h : AlAt w P x g) (hp : ∀ v, x.poss v = none) (hsz : x.regs.length < 4611686018427387904) :
    Calls Tryz.prog 70 #[ptr g.a, .int .u32 (id : Int), .int .i64 p] w fun e w' => e = .returned (.tuple #[]) ∧ ∃ ys, SortedOf (ltP (setPr x.prio id p)) x.regs ys ∧ AlAt w' P { x with regs := ys, prio := setPr x.prio id p } g ∧ Fr P w w' := by
  have hc1 := h.c1
  have halt := h.lt _ h.pa
  obtain ⟨w1, hu, hp1, hf1, hs1⟩ := h.prio.put id p
  have h1 := h.setPrio hf1 hp1
  have hS := sortregs_calls w1 P _ g h1 hp hsz
  replace hs1 := Lib.hid hs1
  unfold ptr at hS ⊢
  go_enter Tryz.func70, Tryz.ntmps70
  go_wp2_with (go_at_call 106; refine hS.mono ?_; rintro e w2 ⟨rfl, ys, hys, h2, hf2⟩)
  go_end0
  exact ⟨rfl, ys, hys, h2, (hf1.mono fun c _ e => by rw [e]; exact h.pp).then hf2⟩
end
section
open Go Go.RowKit Go.MapKept Bth
open Go.ChangeMaps (setBlock)
set_option maxRecDepth 100000
theorem u8_and (a b : Nat) (ha : a < 256) (hb : b < 256) : Go.bits .and .u8 (a : Int) (b : Int) = ((a &&& b : Nat) : Int) := by
  have hx : a &&& b < 2 ^ 8 := Nat.and_lt_two_pow _ (by omega)
  show IntKind.u8.wrap ((BitVec.ofInt 8 (a : Int) &&& BitVec.ofInt 8 (b : Int)).toNat : Int) = _
  rw [BitVec.toNat_and, ofInt_u8 a ha, ofInt_u8 b hb, wrap_u8 _ (by omega)]
def SetAt (w : World) (b : Nat) (S : List Nat) : Prop := ∃ ks, MapAt w b idV ks fun k => if k ∈ S then some (.bool true) else none
theorem setT : Tryz.prog.underlying 257 = some (.map 162 4) := Tryz.underlying257
theorem SetAt.put {w : World} {b : Nat} {S : List Nat} (h : SetAt w b S) (k : Nat) :
    ∃ w', (Instr.mapUpdate 257 (.map (some b)) (.int .u32 (k : Int)) (.bool true)).run Tryz.prog w = .ok () w' ∧ SetAt w' b (S ++ [k]) ∧ Fr (fun x => x = b) w w' ∧ w'.heap.size = w.heap.size := by
  obtain ⟨ks, hM⟩ := h
  obtain ⟨es, clock, h1, h2⟩ := hM.update idKey setT k (.bool true)
  have e : (fun x => if x ∈ S ++ [k] then some (Value.bool true) else none) = updM (fun x => if x ∈ S then some (Value.bool true) else none) k (some (.bool true)) := by
    funext x
    unfold updM
    by_cases hx : x = k <;> simp [hx]
  rw [← e] at h2
  exact ⟨setBlock w b (.map es clock), h1, ⟨_, h2⟩, (Fr.refl (fun x => x = b) w).setBlock (.inl rfl) _, by simp [setBlock]⟩
theorem SetAt.fr {S : Nat → Prop} {w w' : World} {b : Nat} {l : List Nat} (h : SetAt w b l) (hf : Fr S w w') (hs : ¬ S b) : SetAt w' b l := by obtain ⟨ks, hm⟩ := h; exact ⟨ks, hm.fr hf hs⟩
def freeIds (rs : List R) : List Nat := (rs.filter fun r => r.info &&& 2 == 0).map R.id
theorem freeIds_take {rs : List R} {k : Nat} {r : R} (h : rs[k]? = some r) : freeIds (rs.take (k + 1)) = freeIds (rs.take k) ++ if r.info &&& 2 = 0 then [r.id] else [] := by
  unfold freeIds
  rw [List.take_add_one, h, List.filter_append, List.map_append]
  congr 1
  by_cases hi : r.info &&& 2 = 0 <;> simp [hi]
structure KInv (ks todo D : List Nat) : Prop where
  nd : todo.Nodup
  dn : D.Nodup
  mem : ∀ k, k ∈ ks ↔ k ∈ D ∨ k ∈ todo
  ap : ∀ k, k ∈ D → k ∉ todo
theorem KInv.step {ks todo D : List Nat} (h : KInv ks todo D) {k : Nat} (hk : k ∈ todo) : KInv ks (todo.erase k) (D ++ [k]) := by
  refine ⟨h.nd.erase k, List.nodup_append.2 ⟨h.dn, by simp, fun a ha b hb e => ?_⟩, fun x => ?_, fun x hx => ?_⟩
  · obtain rfl : b = k := by simpa using hb
    subst e
    exact h.ap a ha hk
  · rw [h.mem, List.Nodup.mem_erase_iff h.nd, List.mem_append, List.mem_singleton]
    by_cases e : x = k
    · subst e; simp [hk]
    · simp [e]
  · rw [List.Nodup.mem_erase_iff h.nd]
    rcases List.mem_append.1 hx with hx | hx
    · exact fun hh => h.ap x hx hh.2
    · obtain rfl : x = k := by simpa using hx
      exact fun hh => hh.1 rfl
def newer (w w' : World) : Nat → Prop := fun c => w.heap.size ≤ c ∧ c < w'.heap.size
theorem NewEmptyAl_calls (w : World) : Calls Tryz.prog 75 #[] w fun e w' => e = .returned (.map (some w.heap.size)) ∧ w' = w.alloc (.map #[] 0) := by
  have hmm := @run_makeMap Tryz.prog
  go_enter Tryz.func75, Tryz.ntmps75
  go_wp2
  go_ret
  exact ⟨rfl, rfl⟩
def freshG (N : Nat) (s : SV) : AlG := ⟨N + 1 + 1 + 1, N, N + 1, N + 1 + 1, s, ⟨none, 0, 0⟩, []⟩
def freshW (wr : World) (s : SV) : World := (((wr.alloc (.map #[] 0)).alloc (.map #[] 0)).alloc (.map #[] 0)).alloc (.cells (freshG wr.heap.size s).cells 221)
theorem freshW_fr (wr : World) (s : SV) : Fr nope wr (freshW wr s) := ((((Fr.refl _ _).alloc _).alloc _).alloc _).alloc _
theorem AlAt.fresh {w wr : World} {B : Nat} {D : List Nat} {s : SV} (hown : wr.ownsRow B 162 1 s.val D.length (D.map idV)) (hB : w.heap.size ≤ B) (hs : w.heap.size ≤ wr.heap.size) :
    AlAt (freshW wr s) (newer w (freshW wr s)) ⟨D, fun _ => none, fun _ => none, [], fun _ => none⟩ (freshG wr.heap.size s) := by
  have hsz : (freshW wr s).heap.size = wr.heap.size + 4 := by simp [freshW]
  have e1 : (wr.alloc (.map #[] 0)).heap.size = wr.heap.size + 1 := by simp
  have e2 : ((wr.alloc (.map #[] 0)).alloc (.map #[] 0)).heap.size = wr.heap.size + 1 + 1 := by simp
  have e3 : (((wr.alloc (.map #[] 0)).alloc (.map #[] 0)).alloc (.map #[] 0)).heap.size = wr.heap.size + 1 + 1 + 1 := by simp
  have a1 : ∀ o : World, ∀ ob, Fr nope o (o.alloc ob) := fun o ob => (Fr.refl _ _).alloc _
  have m1 : ∀ {β : Type} (f : Nat → Option β) (h : Nat → β → Value), (∀ k, f k = none) → ∃ ks, MapAt (freshW wr s) wr.heap.size idV ks fun k => (f k).map (h k) := fun f h hf =>
    ⟨[], by
      have := (((MapAt.made wr idV).fr (a1 _ (.map #[] 0)) (fun x => x)).fr (a1 _ (.map #[] 0)) (fun x => x)).fr (a1 _ (.cells (freshG wr.heap.size s).cells 221)) (fun x => x)
      have ee : (fun k => (f k).map (h k)) = fun _ => none := by funext k; rw [hf]; rfl
      rw [ee]; exact this⟩
  refine { ha := ?_, regs := own_le (own_fr hown (freshW_fr wr s) (fun _ _ x => x)) (Nat.zero_le _), prio := m1 (fun _ => none) (fun _ p => .int .i64 p) (fun _ => rfl), al := ?_, edges := own_nil _ _ _ _, elen := rfl, eat := fun k b e h1 => by simp [freshG] at h1, poss := ?_, ne1 := ?_, ne2 := ?_, ne3 := ?_, pa := ?_, pp := ?_, pl := ?_, pq := ?_, pr := fun c hc => ⟨Nat.le_trans hB (own_base hown c hc), by have := own_lt hown c hc; omega⟩, ps := fun c hc => by (cases hc), pe := fun b hb => by (cases hb), lt := fun c hc => hc.2 }
  · have := heap_alloc_new (((wr.alloc (.map #[] 0)).alloc (.map #[] 0)).alloc (.map #[] 0)) (.cells (freshG wr.heap.size s).cells 221)
    rw [e3] at this
    exact this
  · refine ⟨[], ?_⟩
    have := ((MapAt.made (wr.alloc (.map #[] 0)) idV).fr (a1 _ (.map #[] 0)) (fun x => x)).fr (a1 _ (.cells (freshG wr.heap.size s).cells 221)) (fun x => x)
    rw [e1] at this
    exact this
  · refine ⟨[], fun _ => ⟨none, 0, 0⟩, ?_, fun k l e => by (cases e)⟩
    have := (MapAt.made ((wr.alloc (.map #[] 0)).alloc (.map #[] 0)) idV).fr (a1 _ (.cells (freshG wr.heap.size s).cells 221)) (fun x => x)
    rw [e2] at this
    exact this
  all_goals (simp only [freshG, newer]; omega)
def GivesNA (w : World) (S : List Nat) (e : Ending) (w' : World) : Prop :=
  Fr nope w w' ∧ ((S = [] ∧ ∃ T v, e = .returned (.tuple #[.pointer none, .iface T v])) ∨
    ∃ (g : AlG) (ids ys : List Nat), ids.Nodup ∧ (∀ k, k ∈ ids ↔ k ∈ S) ∧ SortedOf (ltP fun _ => none) ids ys ∧ e = .returned (.tuple #[ptr g.a, .nilIface]) ∧ AlAt w' (newer w w') ⟨ys, fun _ => none, fun _ => none, [], fun _ => none⟩ g)
set_option maxHeartbeats 2000000 in
theorem NewAlloc_calls (w : World) (A : Option Addr) (c : Nat) (rs : List R) (hR : RegsAt w A rs) (hv : ∀ r ∈ rs, r.virt = false) (hl : rs.length ≤ 1000) :
    Calls Tryz.prog 99 #[.slice A rs.length c] w (GivesNA w (freeIds rs)) := by
  have hmm := @run_makeMap Tryz.prog
  go_enter Tryz.func99, Tryz.ntmps99
  go_wp2
  go_loopg [13] rs.length (fun n c13 wr => ∃ k : Nat, k ≤ rs.length ∧ c13 = .int .i64 (k : Int) ∧ SetAt wr w.heap.size (freeIds (rs.take k)) ∧ Fr nope w wr ∧ n = rs.length - k)
  case atStart => exact ⟨0, Nat.zero_le _, rfl, ⟨[], by simpa [freeIds] using MapAt.made w idV⟩, (Fr.refl _ _).alloc _, rfl⟩
  case round =>
    obtain ⟨k, hk, rfl, hM, hf, rfl⟩ := hrel
    by_cases hlt : k < rs.length
    · obtain ⟨b, off, r, rfl, hbl, hrk, hc, ok, hat⟩ := (hR.nope hf).at_ hlt
      have hrv := hv r (List.mem_of_getElem? hrk)
      have hT := Lib.hid (freeIds_take hrk)
      have ha : Go.bits .and .u8 (r.info : Int) 2 = ((r.info &&& 2 : Nat) : Int) := u8_and r.info 2 ok.info (by omega)
      obtain ⟨m, hm⟩ : ∃ m, r.info &&& 2 = m := ⟨_, rfl⟩
      rw [hm] at ha hT
      replace hm := Lib.hid hm
      have hML : w.heap.size < wr.heap.size := by obtain ⟨_, hh⟩ := hM; exact hh.lt
      clear hrk
      by_cases hz : m = 0
      · subst hz
        go_wp2_with (first
          | (refine wpList_Info rfl rfl rfl hrv ?_; intro w1 hf1)
          | (refine wpList_ID rfl rfl rfl ok (hat.nope hf1) ?_; intro w2 hf2; obtain ⟨w3, hu, hM3, hf3, hs3⟩ := ((hM.fr hf1 (fun x => x)).fr hf2 (fun x => x)).put r.id; replace hs3 := Lib.hid hs3))
        go_roundg (rs.length - (k + 1))
        case measure => omega
        case rel => exact ⟨k + 1, by omega, by go_num, by rw [hT.out]; simpa using hM3, ((hf.then hf1).then hf2).then_new hf3 (fun x hx e => by omega), rfl⟩
      · have hzz : ((m : Int) == 0) = false := by rw [beq_eq_false_iff_ne]; omega
        go_wp2_with (refine wpList_Info rfl rfl rfl hrv ?_; intro w1 hf1)
        go_roundg (rs.length - (k + 1))
        case measure => omega
        case rel => exact ⟨k + 1, by omega, by go_num, by rw [hT.out]; simpa [hz] using hM.fr hf1 (fun x => x), hf.then hf1, rfl⟩
    · obtain rfl : k = rs.length := by omega
      rw [List.take_length] at hM
      have hML : w.heap.size < wr.heap.size := by obtain ⟨_, hh⟩ := hM; exact hh.lt
      generalize hS : freeIds rs = S at hM
      replace hS := Lib.hid hS
      obtain ⟨ks, hM⟩ := hM
      have hks : ∀ k, k ∈ ks ↔ k ∈ S := fun k => by rw [hM.mem_iff]; by_cases h : k ∈ S <;> simp [h]
      have hlen := fun ty => hM.len setT ty
      have hknd := hM.nodup
      cases hke : ks with
      | nil =>
        subst hke
        have hSn : S = [] := by
          cases S with
          | nil => rfl
          | cons a l => have := (hks a).2 (by simp); cases this
        subst hSn
        clear hks
        simp only [List.length_nil] at hlen
        go_wp2_with (go_at_call 56; refine (errorsNew_calls _ _).mono ?_; rintro e w4 ⟨rfl, hf4⟩)
        go_ret2
        exact ⟨hf.then hf4, .inl ⟨hS.out, _, _, rfl⟩⟩
      | cons k0 kl =>
        have hk0 : ks ≠ [] := by rw [hke]; simp
        have hlz : ((ks.length : Int) == 0) = false := by rw [beq_eq_false_iff_ne]; have := List.length_pos_iff.2 hk0; omega
        clear hke k0 kl
        go_wp2_with (refine wpList_rangeO rfl rfl rfl (show MapO wr (some w.heap.size) idV ks _ from hM) idInj setT ?_; intro w0 hrg0 hf0 hs0)
        go_frame
        have hI0 : KInv ks ks [] := ⟨hknd, List.nodup_nil, by simp, by simp⟩
        have hwr : wr.heap.size ≤ w0.heap.size := hf0.size
        obtain ⟨wo, rfl⟩ : ∃ wo : World, wo = wr := ⟨_, rfl⟩
        replace hs0 := Lib.hid hs0
        replace hmm := Lib.hid hmm
        clear hlen hlz
        go_loopg [7] ks.length (fun n c7 wr => ∃ (todo D : List Nat), RangeO wr wo.heap.size (some w.heap.size) idV ks (fun k => if k ∈ S then some (.bool true) else none) todo ∧ wr.ownsRow w0.heap.size 162 1 c7 D.length (D.map idV) ∧ KInv ks todo D ∧ Fr (fun b => b = wo.heap.size) w0 wr ∧ todo.length = n)
        case atStart => exact ⟨ks, [], hrg0, by simpa using own_nil _ _ _ _, hI0, Fr.refl _ _, rfl⟩
        case round =>
          obtain ⟨todo, D, hrg, hown, hI, hfq, rfl⟩ := hrel
          go_wp2_with (refine wpList_nextO rfl rfl rfl hrg idInj ?_ ?_)
          · intro h00
            subst h00
            have hmem : ∀ k, k ∈ D ↔ k ∈ S := fun k => by rw [← hks, hI.mem]; simp
            have hdn := hI.dn
            have hw0 : Fr nope w wr := (hf.then hf0).then_new hfq (fun x hx e => by have := hf.size; omega)
            obtain ⟨A7, c7', rfl, _, _⟩ := own_slice hown
            have hDl : D.length ≤ 1000 := by
              have h1 := nodup_le (m := S) hI.dn (fun x hx => (hmem x).1 hx)
              have h2 : (freeIds rs).length ≤ rs.length := by unfold freeIds; rw [List.length_map]; exact List.length_filter_le _ _
              rw [hS.out] at h2
              omega
            have hbase := own_base hown
            have hs00 := hs0.out
            have hq0 := hfq.size
            have hww := hf.size
            replace hs0 := Lib.hid hs0
            replace hmm := hmm.out
            clear hI hrg hks
            go_wp2_with (go_at_call 75; refine (NewEmptyAl_calls _).mono ?_; rintro e w5 ⟨rfl, rfl⟩)
            have hF : AlAt (freshW wr ⟨A7, D.length, c7'⟩) _ _ _ := AlAt.fresh (w := w) (B := w0.heap.size) hown (by omega) (by omega)
            have hS1 := sortregs_calls _ _ _ _ hF (fun _ => rfl) (by show D.length < 4611686018427387904; omega)
            refine hS1.mono ?_
            rintro e w6 ⟨rfl, ys, hys, h6, hf6⟩
            go_wp2
            go_ret2
            have hf66 : Fr nope w w6 := (hw0.then (freshW_fr wr _)).then_new hf6 (fun x hx hn => by have := hn.1; omega)
            exact ⟨hf66, .inr ⟨_, D, ys, hdn, fun k => by rw [hS.out]; exact hmem k, hys, rfl, h6.more (fun c hc => ⟨hc.1, Nat.lt_of_lt_of_le hc.2 hf6.size⟩) (fun c hc => hc.2)⟩⟩
          · intro k v w1 hkt hkk hv' hrg1 hf1 hs1 hen
            have hI1 := hI.step hkt
            have hlen : (todo.erase k).length < todo.length := by rw [List.length_erase_of_mem hkt]; have := List.length_pos_of_mem hkt; omega
            unfold idV at hen
            have hDl : D.length ≤ 1000 := by
              have h1 := nodup_le (m := S) hI.dn (fun x hx => (hks x).1 ((hI.mem x).2 (.inl hx)))
              have h2 : (freeIds rs).length ≤ rs.length := by unfold freeIds; rw [List.length_map]; exact List.length_filter_le _ _
              rw [hS.out] at h2
              omega
            have hown1 := own_fr hown hf1 (fun b hb e => by have := own_base hown b hb; have := hs0.out; omega)
            have hs01 := hfq.size
            have hf01 : Fr (fun b => b = wo.heap.size) w0 w1 := hfq.then hf1
            replace hs1 := Lib.hid hs1
            clear hv'
            go_wp2_with (refine wpList_app (v := u7) rfl rfl Tryz.underlying216 infoID rfl (by omega) rfl (own_fr hown1 ((Fr.refl nope _).alloc _) (fun _ _ x => x)) rfl (news := [idV k]) rfl (one_new _ _ _ _ (by simp)) (by simp [Value.oneCell', idV]) (by simp only [maxLen]; omega) (by omega) (by have := hf01.size; simp; omega) ?_; intro v3 w3 hown3 hf3 _)
            go_roundg (todo.erase k).length
            case measure => exact hlen
            case rel =>
              have hs00 := hs0.out
              have hs11 := hs1.out
              refine ⟨_, D ++ [k], (hrg1.fr ((Fr.refl nope w1).alloc _) (fun x => x) (fun _ _ x => x)).fr hf3 (fun e => by have := own_base hown _ e; omega) (fun b hb e => by injection hb with hb; subst hb; have := own_base hown _ e; omega), by rw [List.map_append, List.length_append]; exact hown3, hI1, (hf01.alloc _).then_new hf3 (fun x hx e => by have := own_base hown x e; omega), rfl⟩
end
section
open Go Go.RowKit Go.MapKept Go.Lib Go.Sort Bth
set_option maxRecDepth 100000
noncomputable def pairsT : TypeInfo := (Tryz.prog.info? 24).get (by kernel_rfl)
noncomputable def pairT : TypeInfo := (Tryz.prog.info? 68).get (by kernel_rfl)
theorem pairK (n : Nat) (h2 : 2 ≤ n) : Lib.swapperK n pairT 25 = 5 := by
  have a : pairT.hasPointers = false := by kernel_rfl
  have b : pairT.bytes = 8 := by kernel_rfl
  have c : (n == 0) = false := by simp; omega
  have d : (n == 1) = false := by simp; omega
  simp [Lib.swapperK, a, b, c, d]
def pairV (p : Nat × Nat) : List Value := [idV p.1, idV p.2]
def ltPair (a b : Nat × Nat) : Bool := decide (a.1 < b.1)
theorem swo_ltPair : SWO ltPair where
  irrefl x := by simp [ltPair]
  trans x y z h1 h2 := by simp [ltPair] at *; omega
  ntrans x y z h1 h2 := by simp [ltPair] at *; omega
def LessOwnP (g : FuncId) (lb : Array Value) (w : World) (base b c n : Nat) : Prop :=
  ∀ (W : World) (ys : List (Nat × Nat)), Fr (fun x => x = b) w W → ys.length = n → W.ownsRow base 68 2 (.slice (some ⟨b, 0, none⟩) n c) n (ys.flatMap pairV) → ∀ i j : Nat, i < n → j < n →
    Calls Tryz.prog g (#[.int .i64 i, .int .i64 j] ++ lb) W fun e w' => e = .returned (.bool (ltPair (ys.getD i default) (ys.getD j default))) ∧ ∃ q, w' = W.drewN q
def GivesSortedP (w : World) (base : Nat) (v : Value) (xs : List (Nat × Nat)) (e : Ending) (w' : World) : Prop :=
  e = .returned (.tuple #[]) ∧ ∃ ys, SortedOf ltPair xs ys ∧ w'.ownsRow base 68 2 v xs.length (ys.flatMap pairV) ∧ Fr (fun b => v.ownBlock = some b) w w'
theorem sortPairs_calls (w : World) (base : Nat) (A : Option Addr) (c : Nat) (xs : List (Nat × Nat)) (hown : w.ownsRow base 68 2 (.slice A xs.length c) xs.length (xs.flatMap pairV)) (g : FuncId) (lb : Array Value) (eg : ∀ args w, (callFunc g args).run Tryz.prog w = .ok (.enter g args) w)
    (hless : ∀ b, A = some ⟨b, 0, none⟩ → LessOwnP g lb w base b c xs.length) (hsz : xs.length < 4611686018427387904) :
    Calls Tryz.prog 78 #[.iface 24 (.slice A xs.length c), .func (.func g) #[] lb] w (GivesSortedP w base (.slice A xs.length c) xs) := by
  have hk2 : ∀ x : Nat × Nat, (pairV x).length = 2 := fun _ => rfl
  by_cases h2 : 2 ≤ xs.length
  · obtain ⟨b, rfl, hb, _⟩ := own_cells hown (by omega)
    have hS := Any.sort_Slice_cells_sorted sl6 24 68 pairsT pairT (by kernel_rfl) (by kernel_rfl) (by kernel_rfl) (by kernel_rfl) 25 (fun _ => by kernel_rfl) pairV 2 hk2 (by kernel_rfl) (fun _ => by kernel_rfl)
      (fun x v hv => by simp [pairV] at hv; rcases hv with rfl | rfl <;> rfl) ltPair swo_ltPair g lb eg b 0 c xs.toArray (by simpa using h2) (by simpa using hsz)
      139 (by rw [pairK _ (by simpa using h2)]; kernel_rfl) true
      (fun args W => run_callFunc_extern Tryz.func139 (by kernel_rfl) (by kernel_rfl) (by kernel_rfl) (e := Extern.ReflectliteSwapper.swap true) (by kernel_rfl) args W) w
      (fun m os dk hs i j hi hj => by
        have hs' : dk.size = xs.length := by simpa using hs
        have hw := hless b rfl (sorted w b m (flatK pairV 2 dk) os) dk.toList (sorted_fr _ _ _ _ _) (by simpa using hs') (by
          have := sorted_own (m := m) (os := os) (F := flatK pairV 2 dk) hown (by simp [hs'])
          rw [flatK_list pairV 2 hk2 (by omega) dk.toList] at this
          exact this) i j (by simpa using hi) (by simpa using hj)
        have e1 : ∀ t, t < xs.length → dk.toList.getD t default = dk[t]! := fun t ht => by
          rw [getElem!_pos dk t (by omega), List.getD_eq_getElem?_getD, Array.getElem?_toList, Array.getElem?_eq_getElem (by omega)]; rfl
        rw [e1 i (by simpa using hi), e1 j (by simpa using hj)] at hw
        exact hw)
      (own_holdsK hk2 (by omega) hown) hb
    have hsz2 : xs.toArray.size = xs.length := by simp
    rw [hsz2] at hS
    refine Calls.mono hS ?_
    rintro e w' ⟨rfl, d', m, os, hp, hso, rfl⟩
    obtain ⟨h3, h4⟩ := sortedOf_of (by simpa using hp) (by simpa using hso)
    refine ⟨rfl, d'.toList, h3, ?_, (sorted_fr w b m _ os).mono fun x _ e => by rw [e]; rfl⟩
    have := sorted_own (m := m) (os := os) (F := flatK pairV 2 d') hown (by simp [h4])
    rw [flatK_list pairV 2 hk2 (by omega) d'.toList] at this
    exact this
  · have h1 : xs.length = 0 ∨ xs.length = 1 := by omega
    rcases h1 with h1 | h1
    · have hS := Any.sort_Slice_tiny sl6 24 68 pairsT pairT (by kernel_rfl) (by kernel_rfl) (by kernel_rfl) (by kernel_rfl) 25 (fun _ => by kernel_rfl) A xs.length c (by omega) 135 (by rw [h1]; kernel_rfl) (.func g) #[] lb w
      refine Calls.mono hS ?_
      rintro e w' ⟨rfl, os, rfl⟩
      exact ⟨rfl, xs, .tiny (by omega), own_fr hown (fr_grow w os) (fun _ _ x => x), (fr_grow w os).of_nope⟩
    · have hS := Any.sort_Slice_tiny sl6 24 68 pairsT pairT (by kernel_rfl) (by kernel_rfl) (by kernel_rfl) (by kernel_rfl) 25 (fun _ => by kernel_rfl) A xs.length c (by omega) 136 (by rw [h1]; kernel_rfl) (.func g) #[] lb w
      refine Calls.mono hS ?_
      rintro e w' ⟨rfl, os, rfl⟩
      exact ⟨rfl, xs, .tiny (by omega), own_fr hown (fr_grow w os) (fun _ _ x => x), (fr_grow w os).of_nope⟩
theorem pairs_get {ys : List (Nat × Nat)} {i : Nat} {p : Nat × Nat} (h : ys[i]? = some p) : (ys.flatMap pairV)[i * 2]? = some (idV p.1) := by
  induction ys generalizing i with
  | nil => simp at h
  | cons a ys ih =>
    cases i with
    | zero => simp only [List.getElem?_cons_zero, Option.some.injEq] at h; subst h; rfl
    | succ i =>
      simp only [List.getElem?_cons_succ] at h
      rw [List.flatMap_cons, Nat.succ_mul, List.getElem?_append_right (by simp [pairV])]
      simpa [pairV] using ih h
set_option maxHeartbeats 1000000 in
theorem lessPair_calls (W : World) (Bs b n c base : Nat) (ys : List (Nat × Nat)) (hB : W.cell? ⟨Bs, 0, none⟩ = some (.slice (some ⟨b, 0, none⟩) n c)) (hl : ys.length = n)
    (hown : W.ownsRow base 68 2 (.slice (some ⟨b, 0, none⟩) n c) n (ys.flatMap pairV)) (i j : Nat) (hi : i < n) (hj : j < n) :
    Calls Tryz.prog 79 #[.int .i64 i, .int .i64 j, ptr Bs] W fun e w' => e = .returned (.bool (ltPair (ys.getD i default) (ys.getD j default))) ∧ ∃ q, w' = W.drewN q := by
  obtain ⟨x, hx⟩ : ∃ x, ys[i]? = some x := ⟨_, List.getElem?_eq_getElem (by omega)⟩
  obtain ⟨y, hy⟩ : ∃ y, ys[j]? = some y := ⟨_, List.getElem?_eq_getElem (by omega)⟩
  have hci := (own_cur hown (i * 2) _ (pairs_get hx)).1
  have hcj := (own_cur hown (j * 2) _ (pairs_get hy)).1
  have hxd : ys.getD i default = x := by rw [List.getD_eq_getElem?_getD, hx]; rfl
  have hyd : ys.getD j default = y := by rw [List.getD_eq_getElem?_getD, hy]; rfl
  rw [hxd, hyd]
  unfold ltPair
  unfold idV at hci hcj
  unfold ptr
  have hi' : (0 : Int) ≤ (i : Int) := by omega
  have hj' : (0 : Int) ≤ (j : Int) := by omega
  have hii : (i : Int) < (n : Int) := by omega
  have hjj : (j : Int) < (n : Int) := by omega
  clear hown hx hy hxd hyd hl
  go_enter Tryz.func79, Tryz.ntmps79
  go_wp2
  go_quiet (fail)
  go_wp2
  go_ret
  exact ⟨rfl, _, rfl⟩
end
section
open Go Go.RowKit Go.MapKept Bth
set_option maxRecDepth 100000
theorem infoPair : (Tryz.prog.info? 68).map (fun i => (i.zero, i.size, i.bytes)) = some (some (.agg #[.int .u32 0, .int .u32 0]), 2, 8) := by kernel_rfl
theorem cells_new (w : World) (cs : List Value) (t : TypeId) (b : Nat) (hb : b = w.heap.size) : ∃ ad, some (⟨b, 0, none⟩ : Addr) = some ad ∧ ∀ j u, cs[j]? = some u → (w.alloc (.cells cs.toArray t)).cell? (ad.add j) = some u := by
  subst hb
  refine ⟨_, rfl, fun j u hu => ?_⟩
  have e : (⟨w.heap.size, 0, none⟩ : Addr).add j = ⟨w.heap.size, j, none⟩ := by unfold Addr.add; split <;> simp_all
  rw [e, cell_of_row _ _ j cs.toArray t (0, 0) (heap_alloc_new w _)]
  simpa using hu
def PairsOf (f : Nat → Option Nat) (l : List (Nat × Nat)) : Prop := (∀ p, p ∈ l ↔ f p.1 = some p.2) ∧ l.Pairwise fun a b => a.1 < b.1
def GivesPairs (w : World) (f : Nat → Option Nat) (e : Ending) (w' : World) : Prop :=
  Fr nope w w' ∧ ∃ (A : Option Addr) (c : Nat) (l : List (Nat × Nat)), PairsOf f l ∧ e = .returned (.slice A l.length c) ∧ w'.ownsRow w.heap.size 68 2 (.slice A l.length c) l.length (l.flatMap pairV)
def prOf (f : Nat → Option Nat) (k : Nat) : Nat × Nat := (k, (f k).getD 0)
def imgP (f : Nat → Option Nat) (k : Nat) : Option Value := (f k).map idV
theorem pairs_of {f : Nat → Option Nat} {ks D ys : List Nat} {l : List (Nat × Nat)} (hk : ∀ k, k ∈ D ↔ f k ≠ none) (hn : D.Nodup) (h : SortedOf ltPair (D.map (prOf f)) l) (_ : ks = ys) : PairsOf f l := by
  obtain ⟨hp, hs⟩ := h
  refine ⟨fun p => ?_, ?_⟩
  · rw [hp.mem_iff, List.mem_map]
    constructor
    · rintro ⟨k, hkD, rfl⟩
      have := (hk k).1 hkD
      unfold prOf
      cases hf : f k with
      | none => exact absurd hf this
      | some v => simp
    · intro h
      exact ⟨p.1, (hk _).2 (by rw [h]; simp), by unfold prOf; rw [h]; rfl⟩
  · have hnd : (l.map (·.1)).Nodup := by
      have h1 : ((D.map (prOf f)).map (·.1)).Nodup := by
        rw [List.map_map]
        have : (fun x : Nat × Nat => x.1) ∘ prOf f = id := by funext k; rfl
        rw [this, List.map_id]
        exact hn
      exact (hp.map _).nodup_iff.2 h1
    have hnd2 : l.Pairwise fun a b => a.1 ≠ b.1 := by
      have := List.pairwise_map.1 (show (l.map (·.1)).Pairwise (· ≠ ·) from hnd)
      exact this
    refine (hs.and hnd2).imp fun {a b} hab => ?_
    have := hab.1
    simp only [ltPair, decide_eq_false_iff_not] at this
    omega
set_option maxHeartbeats 2000000 in
theorem plainAlloc_calls (w : World) (b : Nat) (f : Nat → Option Nat) (hb : IdMap w b f) (n : Nat) (hfew : ∀ D : List Nat, D.Nodup → (∀ k ∈ D, f k ≠ none) → D.length ≤ n) (hn : n ≤ 1000000000) :
    Calls Tryz.prog 38 #[.map (some b)] w (GivesPairs w f) := by
  obtain ⟨ks, hM⟩ := hb
  have hO : MapO w (some b) idV ks (imgP f) := hM
  have hks : ∀ k, k ∈ ks ↔ f k ≠ none := fun k => by rw [hM.mem_iff]; cases f k <;> simp
  have hnd := hM.nodup
  have hbl := hM.lt
  replace hks := Lib.hid hks
  clear hM
  go_enter Tryz.func38, Tryz.ntmps38
  go_wp2_with (refine wpList_rangeO rfl rfl rfl (MapO.fr hO ((Fr.refl nope w).alloc _) (fun _ _ x => x)) idInj allocT ?_; intro w0 hrg0 hf0 hs0)
  go_frame
  have hBs0 : w0.heap[w.heap.size]? = some (.cells #[.slice none 0 0] 24 (0, 0)) := hf0.heap (heap_alloc_new w _) (fun x => x)
  have hs00 : w0.heap.size = w.heap.size + 2 := by rw [hs0]; simp
  have e1 : (w.alloc (Obj.cells #[Value.slice none 0 0] 24)).heap.size = w.heap.size + 1 := by simp
  have hfw0 : Fr nope w w0 := ((Fr.refl nope w).alloc _).then hf0
  rw [e1] at hrg0
  try rw [e1]
  replace e1 := Lib.hid e1
  replace hs0 := Lib.hid hs0
  go_loopg [] ks.length (fun n wr => ∃ (todo D : List Nat) (A : Option Addr) (c : Nat), RangeO wr (w.heap.size + 1) (some b) idV ks (imgP f) todo ∧ wr.heap[w.heap.size]? = some (.cells #[.slice A D.length c] 24 (0, 0)) ∧ wr.ownsRow (w.heap.size + 2) 68 2 (.slice A D.length c) D.length ((D.map (prOf f)).flatMap pairV) ∧ KInv ks todo D ∧ Fr nope w wr ∧ w.heap.size + 2 ≤ wr.heap.size ∧ todo.length = n)
  case atStart => exact ⟨ks, [], none, 0, hrg0, hBs0, own_nil _ _ _ _, ⟨hnd, List.nodup_nil, by simp, by simp⟩, hfw0, Nat.le_of_eq hs00.symm, rfl⟩
  case round =>
    obtain ⟨todo, D, A, c, hrg, hBs, hown, hI, hf, hsz, rfl⟩ := hrel
    have hBl := lt_of_heap hBs
    have hDn : D.length ≤ n := hfew D hI.dn fun k hk => (hks.out k).1 ((hI.mem k).2 (.inl hk))
    go_wp2_with (refine wpList_nextO rfl rfl rfl hrg idInj ?_ ?_)
    · intro h0
      subst h0
      have hDk : ∀ k, k ∈ D ↔ f k ≠ none := fun k => by rw [← hks.out, hI.mem]; simp
      have hdn := hI.dn
      have hcB : wr.cell? ⟨w.heap.size, 0, none⟩ = some (.slice A D.length c) := by rw [cell_of_row wr _ 0 _ _ (0, 0) hBs]; rfl
      have hlm : (D.map (prOf f)).length = D.length := List.length_map ..
      have hS := sortPairs_calls wr _ A c _ (show wr.ownsRow _ _ 2 (.slice A (D.map (prOf f)).length c) (D.map (prOf f)).length _ from by rw [hlm]; exact hown) 79 #[ptr w.heap.size] (fun args w => enters_of Tryz.func79 (by kernel_rfl) rfl args w) (fun b2 hb2 => by
        subst hb2
        intro W ys hW hl ho i j hi hj
        exact lessPair_calls W w.heap.size b2 _ c _ ys (hW.cell (by rw [hlm]; exact hcB) (fun e => by have := own_base hown b2 rfl; have e' : w.heap.size = b2 := e; omega)) hl ho i j hi hj) (by rw [hlm]; omega)
      rw [hlm] at hS
      have hne : ∀ b2, Value.ownBlock (.slice A D.length c) = some b2 → w.heap.size + 2 ≤ b2 := own_base hown
      replace hDk := Lib.hid hDk
      replace hne := Lib.hid hne
      unfold ptr at hS
      replace hlm := Lib.hid hlm
      clear hI hrg
      go_wp2_with fail
      refine hS.mono ?_
      rintro e w5 ⟨rfl, ys, hys, ho5, hf5⟩
      have hB5 := hf5.heap hBs (fun e => by have := hne.out _ e; omega)
      have hc5 : w5.cell? ⟨w.heap.size, 0, none⟩ = some (.slice A D.length c) := by rw [cell_of_row w5 _ 0 _ _ (0, 0) hB5]; rfl
      have hB5l := lt_of_heap hB5
      have hyl := hys.1.length_eq
      rw [hlm.out] at hyl ho5
      replace hyl := Lib.hid hyl
      go_wp2
      go_ret
      refine ⟨hf.then_new hf5 (fun c hc e => by have := hne.out _ e; omega), A, c, ys, pairs_of (ks := ks) (ys := ks) hDk.out hdn hys rfl, ?_, ?_⟩
      · rw [hyl.out]; rfl
      · rw [hyl.out]; exact own_le ho5 (by omega)
    · intro k v w1 hkt hkk hv hrg1 hf1 hs1 hen
      obtain ⟨p, hp, rfl⟩ : ∃ p, f k = some p ∧ v = idV p := by
        unfold imgP at hv
        obtain ⟨p, h1, h2⟩ := Option.map_eq_some_iff.1 hv
        exact ⟨p, h1, h2.symm⟩
      have hI1 := hI.step hkt
      have hlen : (todo.erase k).length < todo.length := by rw [List.length_erase_of_mem hkt]; have := List.length_pos_of_mem hkt; omega
      have hB1 := hf1.heap hBs (by omega)
      have hc1 : w1.cell? ⟨w.heap.size, 0, none⟩ = some (.slice A D.length c) := by rw [cell_of_row w1 _ 0 _ _ (0, 0) hB1]; rfl
      have hB1l := lt_of_heap hB1
      have hown1 := own_fr hown hf1 (fun b hb e => by have := own_base hown b hb; omega)
      have hpr : prOf f k = (k, p) := by unfold prOf; rw [hp]; rfl
      have hf01 : Fr nope w w1 := hf.then_new hf1 (fun c hc e => by omega)
      have hs1' : wr.heap.size ≤ w1.heap.size := Nat.le_of_eq hs1.symm
      replace hs1 := Lib.hid hs1
      replace hp := Lib.hid hp
      replace hpr := Lib.hid hpr
      clear hv hrg hBs
      unfold idV at hen
      go_wp2_with (refine wpList_app (v := .slice A D.length c) rfl rfl Tryz.underlying24 infoPair rfl (by omega) rfl (own_fr hown1 ((Fr.refl nope _).alloc _) (fun _ _ x => x)) rfl (news := pairV (k, p)) rfl (fun _ => cells_new _ _ _ _ (by simp)) (by simp [Value.oneCell', pairV, idV]) (by simp only [maxLen]; omega) (by omega) (by simp; omega) ?hk)
      case hk =>
        intro v3 w3 hown3 hf3 hb3
        obtain ⟨A3, c3, rfl, _, _⟩ := own_slice hown3
        have hnb : ¬ Value.ownBlock (.slice A D.length c) = some w.heap.size := fun e => by have := own_base hown _ e; omega
        have hB3 := hf3.heap (((Fr.refl nope w1).alloc _).heap hB1 (fun x => x)) hnb
        have hc3' : w3.cell? ⟨w.heap.size, 0, none⟩ = some (.slice A D.length c) := by rw [cell_of_row w3 _ 0 _ _ (0, 0) hB3]; rfl
        have hz3 := frozen_row hB3 0
        have hB3l := lt_of_heap hB3
        replace hb3 := Lib.hid hb3
        go_wp2
        have hst : Fr (fun x => x = w.heap.size) w3 (w3.setCell ⟨w.heap.size, 0, none⟩ (.slice A3 (D.length + 1) c3)) := (Fr.refl (fun x => x = w.heap.size) w3).setCell (.inl rfl) _
        go_roundg (todo.erase k).length
        case measure => exact hlen
        case rel =>
          have hsz3 := hf3.size
          simp at hsz3
          have hs4 : (w3.setCell ⟨w.heap.size, 0, none⟩ (.slice A3 (D.length + 1) c3)).heap.size = w3.heap.size := by simp [World.setCell]
          have hl3 : ∀ x, Value.ownBlock (.slice A3 (D.length + 1) c3) = some x → w.heap.size + 2 ≤ x := own_base hown3
          refine ⟨_, D ++ [k], A3, c3, ((hrg1.fr ((Fr.refl nope w1).alloc _) (fun x => x) (fun _ _ x => x)).fr hf3 (fun e => by have := own_base hown _ e; omega) (fun b2 hb2 e => by injection hb2 with hb2; subst hb2; have := own_base hown _ e; omega)).fr hst (by omega) (fun b2 hb2 e => by injection hb2 with hb2; omega), ?_, ?_, hI1, ?_, by omega, rfl⟩
          · rw [List.length_append]; exact setCell_heap hB3 _
          · rw [List.length_append, List.map_append, List.flatMap_append]
            refine own_fr ?_ hst (fun x hx e => by have := hl3 x (by simpa using hx); omega)
            simp only [List.map_cons, List.map_nil, hpr.out, List.flatMap_cons, List.flatMap_nil, List.append_nil, List.length_singleton]
            exact hown3
          · exact (((hf01.alloc _).then_new hf3 (fun x hx e => by have := own_base hown _ e; omega))).then_new hst (fun x hx e => by omega)
end
section
open Go Go.RowKit Bth
set_option maxRecDepth 100000
set_option maxHeartbeats 2000000 in
theorem opRegisters_calls (w : World) (p : PO) (hok : okP p = true) : Calls Tryz.prog 48 #[p.agg] w (GivesGs w p.gs) := by
  have hOK := fun W => OpOK_calls W p
  unfold GivesB at hOK
  rw [hok] at hOK
  clear hok
  unfold PO.gs
  obtain ⟨kind, rg, hasBase, hasIndex, base, index, scale, disp, sym, static, con, label, rel⟩ := p
  simp only [PO.agg] at hOK ⊢
  by_cases h1 : kind = 1
  · subst h1
    rw [if_pos rfl]
    simp only [PO.cells] at hOK ⊢
    go_enter Tryz.func48, Tryz.ntmps48
    go_wp2_with (refine wpList_loadRow (b := w.heap.size) rfl rfl rfl (heap_alloc_new w _) Tryz.underlying65 rfl (by kernel_rfl) ?_)
    refine (hOK _).mono ?_
    rintro e w1 ⟨rfl, hf1⟩
    have hb1 := hf1.heap (heap_alloc_new w _) (fun x => x)
    have hc1 := fun j => cell_of_row _ _ j _ _ (0, 0) hb1
    have hn1 : Fr nope w w1 := ((Fr.refl nope w).alloc _).then hf1
    have hs1 := hn1.size
    go_wp2_with (first
      | (refine wpList_build1 (l := G.cells rg) rfl rfl rfl Tryz.underlying32 infoRg rfl (by omega) (by decide) ?_)
      | refine wpList_app (v := .slice none 0 0) rfl rfl Tryz.underlying32 infoRg rfl (by omega) rfl (own_fr (own_nil w1 w.heap.size _ _) ((Fr.refl nope _).alloc _) (fun _ _ x => x)) rfl (news := G.cells rg) ?ha ?hb ?hc ?hd ?he ?hf ?hk)
    case ha => rfl
    case hb => exact fun _ => cells_new _ _ _ _ (by simp)
    case hc => simp [G.cells, Value.oneCell']
    case hd => simp [maxLen]
    case he => simp
    case hf => simp; omega
    case hk =>
      intro v2 w2 hown2 hf2 hb2
      obtain ⟨A2, c2, rfl, _, _⟩ := own_slice hown2
      clear hb2
      go_wp2
      go_ret
      exact ⟨(hn1.alloc _).then (hf2.mono (fun x _ h => by simp [Value.ownBlock] at h)), A2, c2, rfl, hown2⟩
  by_cases h2 : kind = 2
  · subst h2
    rw [if_neg (by decide), if_pos rfl]
    cases hasBase with
    | false =>
      cases hasIndex with
      | false =>
        simp only [PO.cells] at hOK ⊢
        go_enter Tryz.func48, Tryz.ntmps48
        go_wp2_with (refine wpList_loadRow (b := w.heap.size) rfl rfl rfl (heap_alloc_new w _) Tryz.underlying65 rfl (by kernel_rfl) ?_)
        refine (hOK _).mono ?_
        rintro e w1 ⟨rfl, hf1⟩
        have hb1 := hf1.heap (heap_alloc_new w _) (fun x => x)
        have hc1 := fun j => cell_of_row _ _ j _ _ (0, 0) hb1
        have hn1 : Fr nope w w1 := ((Fr.refl nope w).alloc _).then hf1
        have hs1 := hn1.size
        go_wp2
        go_ret
        exact ⟨hn1, none, 0, rfl, own_nil _ _ _ _⟩
      | true =>
        simp only [PO.cells] at hOK ⊢
        go_enter Tryz.func48, Tryz.ntmps48
        go_wp2_with (refine wpList_loadRow (b := w.heap.size) rfl rfl rfl (heap_alloc_new w _) Tryz.underlying65 rfl (by kernel_rfl) ?_)
        refine (hOK _).mono ?_
        rintro e w1 ⟨rfl, hf1⟩
        have hb1 := hf1.heap (heap_alloc_new w _) (fun x => x)
        have hc1 := fun j => cell_of_row _ _ j _ _ (0, 0) hb1
        have hn1 : Fr nope w w1 := ((Fr.refl nope w).alloc _).then hf1
        have hs1 := hn1.size
        go_wp2_with (first
          | (refine wpList_build1 (l := G.cells index) rfl rfl rfl Tryz.underlying32 infoRg rfl (by omega) (by decide) ?_)
          | refine wpList_app (v := .slice none 0 0) rfl rfl Tryz.underlying32 infoRg rfl (by omega) rfl (own_fr (own_nil w1 w.heap.size _ _) ((Fr.refl nope _).alloc _) (fun _ _ x => x)) rfl (news := G.cells index) ?ha ?hb ?hc ?hd ?he ?hf ?hk)
        case ha => rfl
        case hb => exact fun _ => cells_new _ _ _ _ (by simp)
        case hc => simp [G.cells, Value.oneCell']
        case hd => simp [maxLen]
        case he => simp
        case hf => simp; omega
        case hk =>
          intro v2 w2 hown2 hf2 hb2
          obtain ⟨A2, c2, rfl, _, _⟩ := own_slice hown2
          clear hb2
          go_wp2
          go_ret
          exact ⟨(hn1.alloc _).then (hf2.mono (fun x _ h => by simp [Value.ownBlock] at h)), A2, c2, rfl, hown2⟩
    | true =>
      cases hasIndex with
      | false =>
        simp only [PO.cells] at hOK ⊢
        go_enter Tryz.func48, Tryz.ntmps48
        go_wp2_with (refine wpList_loadRow (b := w.heap.size) rfl rfl rfl (heap_alloc_new w _) Tryz.underlying65 rfl (by kernel_rfl) ?_)
        refine (hOK _).mono ?_
        rintro e w1 ⟨rfl, hf1⟩
        have hb1 := hf1.heap (heap_alloc_new w _) (fun x => x)
        have hc1 := fun j => cell_of_row _ _ j _ _ (0, 0) hb1
        have hn1 : Fr nope w w1 := ((Fr.refl nope w).alloc _).then hf1
        have hs1 := hn1.size
        go_wp2_with (first
          | (refine wpList_build1 (l := G.cells base) rfl rfl rfl Tryz.underlying32 infoRg rfl (by omega) (by decide) ?_)
          | refine wpList_app (v := .slice none 0 0) rfl rfl Tryz.underlying32 infoRg rfl (by omega) rfl (own_fr (own_nil w1 w.heap.size _ _) ((Fr.refl nope _).alloc _) (fun _ _ x => x)) rfl (news := G.cells base) ?ha ?hb ?hc ?hd ?he ?hf ?hk)
        case ha => rfl
        case hb => exact fun _ => cells_new _ _ _ _ (by simp)
        case hc => simp [G.cells, Value.oneCell']
        case hd => simp [maxLen]
        case he => simp
        case hf => simp; omega
        case hk =>
          intro v2 w2 hown2 hf2 hb2
          obtain ⟨A2, c2, rfl, _, _⟩ := own_slice hown2
          clear hb2
          have hb3 := ((Fr.refl nope w1).alloc _ |>.then (hf2.mono (fun x _ h => by simp [Value.ownBlock] at h) : Fr nope _ _)).heap hb1 (fun x => x)
          have hc3 := fun j => cell_of_row _ _ j _ _ (0, 0) hb3
          clear hc1
          go_wp2
          go_ret
          exact ⟨(hn1.alloc _).then (hf2.mono (fun x _ h => by simp [Value.ownBlock] at h)), A2, c2, rfl, hown2⟩
      | true =>
        simp only [PO.cells] at hOK ⊢
        go_enter Tryz.func48, Tryz.ntmps48
        go_wp2_with (refine wpList_loadRow (b := w.heap.size) rfl rfl rfl (heap_alloc_new w _) Tryz.underlying65 rfl (by kernel_rfl) ?_)
        refine (hOK _).mono ?_
        rintro e w1 ⟨rfl, hf1⟩
        have hb1 := hf1.heap (heap_alloc_new w _) (fun x => x)
        have hc1 := fun j => cell_of_row _ _ j _ _ (0, 0) hb1
        have hn1 : Fr nope w w1 := ((Fr.refl nope w).alloc _).then hf1
        have hs1 := hn1.size
        go_wp2_with (first
          | (refine wpList_build1 (l := G.cells base) rfl rfl rfl Tryz.underlying32 infoRg rfl (by omega) (by decide) ?_)
          | refine wpList_app (v := .slice none 0 0) rfl rfl Tryz.underlying32 infoRg rfl (by omega) rfl (own_fr (own_nil w1 w.heap.size _ _) ((Fr.refl nope _).alloc _) (fun _ _ x => x)) rfl (news := G.cells base) ?ha ?hb ?hc ?hd ?he ?hf ?hk)
        case ha => rfl
        case hb => exact fun _ => cells_new _ _ _ _ (by simp)
        case hc => simp [G.cells, Value.oneCell']
        case hd => simp [maxLen]
        case he => simp
        case hf => simp; omega
        case hk =>
          intro v2 w2 hown2 hf2 hb2
          obtain ⟨A2, c2, rfl, _, _⟩ := own_slice hown2
          clear hb2
          have hn2 := (hn1.alloc _).then (hf2.mono (fun x _ h => by simp [Value.ownBlock] at h) : Fr nope _ _)
          have hb3 := ((Fr.refl nope w1).alloc _ |>.then (hf2.mono (fun x _ h => by simp [Value.ownBlock] at h) : Fr nope _ _)).heap hb1 (fun x => x)
          have hc3 := fun j => cell_of_row _ _ j _ _ (0, 0) hb3
          have hs2 := hn2.size
          clear hc1
          go_wp2_with (first
            | (refine wpList_build1 (l := G.cells index) rfl rfl rfl Tryz.underlying32 infoRg rfl (by omega) (by decide) ?_)
            | refine wpList_app (v := .slice A2 1 c2) rfl rfl Tryz.underlying32 infoRg rfl (by omega) rfl (own_fr hown2 ((Fr.refl nope _).alloc _) (fun _ _ x => x)) rfl (news := G.cells index) ?ha ?hb ?hc ?hd ?he ?hf ?hm)
          case ha => rfl
          case hb => exact fun _ => cells_new _ _ _ _ (by simp)
          case hc => simp [G.cells, Value.oneCell']
          case hd => simp [maxLen]
          case he => simp
          case hf => simp; omega
          case hm =>
            intro v4 w4 hown4 hf4 hb4
            obtain ⟨A4, c4, rfl, _, _⟩ := own_slice hown4
            clear hb4
            have hbo := own_base hown2
            go_wp2
            go_ret
            exact ⟨(hn2.alloc _).then_new hf4 (fun x hx e => by have := hbo x e; omega), A4, c4, rfl, hown4⟩
  rw [if_neg h1, if_neg h2]
  simp only [PO.cells] at hOK ⊢
  go_enter Tryz.func48, Tryz.ntmps48
  go_wp2_with (refine wpList_loadRow (b := w.heap.size) rfl rfl rfl (heap_alloc_new w _) Tryz.underlying65 rfl (by kernel_rfl) ?_)
  refine (hOK _).mono ?_
  rintro e w1 ⟨rfl, hf1⟩
  have hb1 := hf1.heap (heap_alloc_new w _) (fun x => x)
  have hc1 := fun j => cell_of_row _ _ j _ _ (0, 0) hb1
  have hn1 : Fr nope w w1 := ((Fr.refl nope w).alloc _).then hf1
  have hs1 := hn1.size
  go_wp2
  go_ret
  exact ⟨hn1, none, 0, rfl, own_nil _ _ _ _⟩
end
section
open Go Go.RowKit Go.MapKept Bth
set_option maxRecDepth 100000
def freeK (k : Nat) : List Nat := freeIds (famRegs 0 k)
theorem freeIds_fb (fb k : Nat) : freeIds (famRegs fb k) = freeK k := by
  have key : ∀ (j : Nat) (l : List (String × Ent)), freeIds (regsF fb j l) = freeIds (regsF 0 j l) := by
    intro j l
    unfold freeIds regsF
    rw [List.filter_map, List.filter_map, List.map_map, List.map_map]
    rfl
  unfold freeK famRegs
  split <;> exact key _ _
def bpIds (rs : List R) : List Nat := (rs.filter fun r => r.info &&& 4 != 0).map R.id
theorem bpIds_fb (fb k : Nat) : bpIds (famRegs fb k) = bpIds (famRegs 0 k) := by
  have key : ∀ (j : Nat) (l : List (String × Ent)), bpIds (regsF fb j l) = bpIds (regsF 0 j l) := by
    intro j l
    unfold bpIds regsF
    rw [List.filter_map, List.filter_map, List.map_map, List.map_map]
    rfl
  unfold famRegs
  split <;> exact key _ _
theorem bpIds_take {rs : List R} {k : Nat} {r : R} (h : rs[k]? = some r) : bpIds (rs.take (k + 1)) = bpIds (rs.take k) ++ if r.info &&& 4 = 0 then [] else [r.id] := by
  unfold bpIds
  rw [List.take_add_one, h, List.filter_append, List.map_append]
  congr 1
  by_cases hi : r.info &&& 4 = 0 <;> simp [hi]
def prs (l : List Nat) : Nat → Option Int := l.foldl (fun f id => setPr f id (-1)) fun _ => none
theorem prs_snoc (l : List Nat) (id : Nat) : prs (l ++ [id]) = setPr (prs l) id (-1) := by simp [prs]
def prK (k : Nat) : Nat → Option Int := prs (bpIds (famRegs 0 k))
def regsK (k : Nat) : List Nat :=
  match k with
  | 0 => [0]
  | 1 => [0, 1, 2, 3, 6, 7, 8, 9, 10, 11, 12, 13, 14, 15, 5].map fun i => 256 + i * 65536
  | 2 => (List.range 32).map fun i => 512 + i * 65536
  | 3 => [1, 2, 3, 4, 5, 6, 7].map fun i => 768 + i * 65536
  | _ => []
theorem regsK_facts : ∀ k, k < 4 → (∀ r ∈ regsK k, r ∈ freeK k) ∧ (∀ r ∈ freeK k, r ∈ regsK k) ∧ (regsK k).Nodup ∧ (regsK k).Pairwise (fun a b => ltP (prK k) b a = false) ∧ (∀ r ∈ regsK k, isV r = false ∧ r < 4294967296 ∧ kindOf r = k) ∧ (regsK k).length < 100 ∧ (freeK k).length ≠ 0 := by
  decide +kernel
theorem regsK_of {k : Nat} (hk : k ≤ 3) {ids ys : List Nat} (hn : ids.Nodup) (hm : ∀ x, x ∈ ids ↔ x ∈ freeK k) (h : SortedOf (ltP (prK k)) ids ys) : ys = regsK k := by
  obtain ⟨h1, h2, h3, h4, _⟩ := regsK_facts k (by omega)
  have hp : ys.Perm (regsK k) := h.1.trans ((List.perm_ext_iff_of_nodup hn h3).2 fun a => (hm a).trans ⟨h2 a, h1 a⟩)
  refine List.Perm.eq_of_pairwise (le := fun a b => ltP (prK k) b a = false) (fun a b _ _ h1 h2 => ?_) h.2 h4 hp
  simp [ltP] at h1 h2
  omega
def NewK (k : Nat) (x : Al) : Prop := ∃ ids, ids.Nodup ∧ (∀ j, j ∈ ids ↔ j ∈ freeK k) ∧ SortedOf (ltP x.prio) ids x.regs ∧ x.al = (fun _ => none) ∧ x.edges = [] ∧ x.poss = fun _ => none
def GivesNK (w : World) (k : Nat) (e : Ending) (w' : World) : Prop :=
  Fr nope w w' ∧ ∃ (g : AlG) (x : Al), NewK k x ∧ x.prio = (fun _ => none) ∧ e = .returned (.tuple #[ptr g.a, .nilIface]) ∧ AlAt w' (newer w w') x g
theorem newer_mono {w w1 w2 : World} (h1 : w.heap.size ≤ w1.heap.size) : ∀ c, newer w1 w2 c → newer w w2 c := fun _ hc => ⟨Nat.le_trans h1 hc.1, hc.2⟩
theorem NewAllocK_calls (w : World) (k : Nat) (hk : k ≤ 3) :
    Calls Tryz.prog 67 #[.int .u8 (k : Int)] w (GivesNK w k) := by
  go_enter Tryz.func67, Tryz.ntmps67
  go_wp2_with (go_at_call 68; refine (FamilyOfKind_calls _ k hk).mono ?_; rintro e w1 ⟨rfl, v, hF, hO, hf1⟩)
  refine (Registers_fam_calls w1 w.heap.size k v _ (famRegs w.heap.size k) hF hO (by have := famRegs_len w.heap.size k; omega)).mono ?_
  rintro e w2 ⟨u, rfl, hu, hf2⟩
  rw [List.length_map] at hu
  obtain ⟨A, c, rfl, _, _⟩ := own_slice hu
  go_wp2_with fail
  have hreg := famRegs_ok (fb := w.heap.size) hk
  refine (NewAlloc_calls w2 A c (famRegs w.heap.size k) ⟨own_Sl hu, fun r hr => ?_⟩ (fun r hr => (hreg r hr).1) (by have := famRegs_len w.heap.size k; omega)).mono ?_
  · obtain ⟨h1, h2, h3, h4⟩ := hreg r hr
    exact ⟨h4, (hF.reg r h2 h3).nope hf2⟩
  · rintro e w3 ⟨hf3, ⟨h0, _⟩ | ⟨g, ids, ys, h1, h2, h3, rfl, h4⟩⟩
    · rw [freeIds_fb] at h0
      have := (regsK_facts k (by omega)).2.2.2.2.2.2
      rw [h0] at this
      exact absurd rfl this
    · rw [freeIds_fb] at h2
      go_wp2
      go_ret2
      have hw2 := hf1.then hf2
      exact ⟨hw2.then hf3, g, _, ⟨ids, h1, h2, h3, rfl, rfl, rfl⟩, rfl, rfl, h4.more (newer_mono hw2.size) (fun c hc => hc.2)⟩
end
end Go.Proofs.YtbaihlfnbdifgaaGreat
