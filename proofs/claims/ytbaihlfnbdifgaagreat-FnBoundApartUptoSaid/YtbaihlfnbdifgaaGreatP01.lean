/- Part of the proof of boundApart_upto. -/
import Derived.Maps.AppendAt
import Derived.Deep.AppendLies
import Derived.OwnWalk
import Derived.Test.YtbaihlfnbdifgaaGreatP00
namespace Go.Proofs.YtbaihlfnbdifgaaGreat
section
open Go Go.RowKit Bth
set_option maxRecDepth 100000
def R.At (w : World) (r : R) : Prop := r.virt = false → ∃ v, w.heap[r.fb]? = some (.cells #[.int .u8 (r.kind : Int), v] 200 (0, 0))
theorem R.At.cell {w : World} {r : R} (h : r.At w) (hv : r.virt = false) : w.cell? ⟨r.fb, 0, none⟩ = some (.int .u8 (r.kind : Int)) := by
  obtain ⟨v, hb⟩ := h hv
  rw [cell_of_row w r.fb 0 _ _ (0, 0) hb]
  rfl
theorem R.At.fr {S : Nat → Prop} {w w' : World} {r : R} (h : r.At w) (hf : Fr S w w') (hs : r.virt = false → ¬ S r.fb) : r.At w' := fun hv => by
  obtain ⟨v, hb⟩ := h hv
  exact ⟨v, hf.heap hb (hs hv)⟩
theorem R.At.nope {w w' : World} {r : R} (h : r.At w) (hf : Fr nope w w') : r.At w' := h.fr hf fun _ x => x
section
variable {ops : Array Oper} {rest : List Oper} {o : Oper} {a : Act} {Q : Exit → Act → World → Prop} {w : World} {t : Operand} {r : R}
theorem R.m_ID_v (r : R) (w : World) (hv : r.virt = true) : ∃ T v, r.val = .iface T v ∧ (method (Tryz.prog.types.size + Made.depth) T v "ID").run Tryz.prog w = .ok (269, r.coreV) w := by
  obtain ⟨virt, kind, idx, spec, fb, name, info⟩ := r
  simp only at hv
  subst hv
  rw [sizeTypes]
  show ∃ T v, wrapV kind _ = .iface T v ∧ _
  unfold wrapV
  split
  · exact ⟨_, _, rfl, m_gpv_ID ..⟩
  · exact ⟨_, _, rfl, m_vecv_ID ..⟩
  · exact ⟨_, _, rfl, m_opmaskv_ID ..⟩
  · exact ⟨_, _, rfl, m_virtual_ID ..⟩
theorem R.m_ID_p (r : R) (w : World) (hv : r.virt = false) : ∃ T v, r.val = .iface T v ∧ (method (Tryz.prog.types.size + Made.depth) T v "ID").run Tryz.prog w = .ok (211, r.coreP) w := by
  obtain ⟨virt, kind, idx, spec, fb, name, info⟩ := r
  simp only at hv
  subst hv
  rw [sizeTypes]
  show ∃ T v, wrapP kind _ = .iface T v ∧ _
  unfold wrapP
  split
  · exact ⟨_, _, rfl, m_gpp_ID ..⟩
  · exact ⟨_, _, rfl, m_vecp_ID ..⟩
  · exact ⟨_, _, rfl, m_opmaskp_ID ..⟩
  · exact ⟨_, _, rfl, m_register_ID ..⟩
theorem wpList_ID (hg : o.guard = none) (hop : o.op = .call { callee := .invoke t "ID", args := #[], argTypes := #[] }) (hx : a.eval t = r.val) (ok : r.Ok) (hat : r.At w) (h : ∀ w', Fr nope w w' → wpList Tryz.prog ops Q rest (a.put o.dst (.int .u32 (r.id : Int))) w') :
    wpList Tryz.prog ops Q (o :: rest) a w := by
  cases hv : r.virt
  · obtain ⟨T, v, hv1, hm⟩ := r.m_ID_p w hv
    refine wpList_invoke0 hg hop (hx.trans hv1) hm Tryz.func211 (by kernel_rfl) (by kernel_rfl) ((register_ID_calls w r.fb r.idx r.kind r.spec r.info r.name ok.idx ok.kind (hat.cell hv)).mono ?_)
    rintro e w' ⟨rfl, hf⟩
    have hid : r.id = 0 + r.kind * 256 + r.idx * 65536 := by simp [R.id, hv]
    rw [hid] at h
    exact h w' hf
  · obtain ⟨T, v, hv1, hm⟩ := r.m_ID_v w hv
    refine wpList_invoke0 hg hop (hx.trans hv1) hm Tryz.func269 (by kernel_rfl) (by kernel_rfl) ((virtual_ID_calls w r.idx r.kind r.spec ok.idx ok.kind).mono ?_)
    rintro e w' ⟨rfl, hf⟩
    have hid : r.id = 1 + r.kind * 256 + r.idx * 65536 := by simp [R.id, hv]
    rw [hid] at h
    exact h w' hf
theorem R.m_Kind_v (r : R) (w : World) (hv : r.virt = true) : ∃ T v, r.val = .iface T v ∧ (method (Tryz.prog.types.size + Made.depth) T v "Kind").run Tryz.prog w = .ok (270, r.coreV) w := by
  obtain ⟨virt, kind, idx, spec, fb, name, info⟩ := r
  simp only at hv
  subst hv
  rw [sizeTypes]
  show ∃ T v, wrapV kind _ = .iface T v ∧ _
  unfold wrapV
  split
  · exact ⟨_, _, rfl, m_gpv_Kind ..⟩
  · exact ⟨_, _, rfl, m_vecv_Kind ..⟩
  · exact ⟨_, _, rfl, m_opmaskv_Kind ..⟩
  · exact ⟨_, _, rfl, m_virtual_Kind ..⟩
theorem R.m_Kind_p (r : R) (w : World) (hv : r.virt = false) : ∃ T v, r.val = .iface T v ∧ (method (Tryz.prog.types.size + Made.depth) T v "Kind").run Tryz.prog w = .ok (213, r.coreP) w := by
  obtain ⟨virt, kind, idx, spec, fb, name, info⟩ := r
  simp only at hv
  subst hv
  rw [sizeTypes]
  show ∃ T v, wrapP kind _ = .iface T v ∧ _
  unfold wrapP
  split
  · exact ⟨_, _, rfl, m_gpp_Kind ..⟩
  · exact ⟨_, _, rfl, m_vecp_Kind ..⟩
  · exact ⟨_, _, rfl, m_opmaskp_Kind ..⟩
  · exact ⟨_, _, rfl, m_register_Kind ..⟩
theorem wpList_Kind (hg : o.guard = none) (hop : o.op = .call { callee := .invoke t "Kind", args := #[], argTypes := #[] }) (hx : a.eval t = r.val) (hat : r.At w) (h : ∀ w', Fr nope w w' → wpList Tryz.prog ops Q rest (a.put o.dst (.int .u8 (r.kind : Int))) w') :
    wpList Tryz.prog ops Q (o :: rest) a w := by
  cases hv : r.virt
  · obtain ⟨T, v, hv1, hm⟩ := r.m_Kind_p w hv
    refine wpList_invoke0 hg hop (hx.trans hv1) hm Tryz.func213 (by kernel_rfl) (by kernel_rfl) ((register_Kind_calls w r.fb r.idx r.kind r.spec r.info r.name (hat.cell hv)).mono ?_)
    rintro e w' ⟨rfl, hf⟩
    exact h w' hf
  · obtain ⟨T, v, hv1, hm⟩ := r.m_Kind_v w hv
    refine wpList_invoke0 hg hop (hx.trans hv1) hm Tryz.func270 (by kernel_rfl) (by kernel_rfl) ((virtual_Kind_calls w r.idx r.kind r.spec).mono ?_)
    rintro e w' ⟨rfl, hf⟩
    exact h w' hf
theorem R.m_Mask_v (r : R) (w : World) (hv : r.virt = true) : ∃ T v, r.val = .iface T v ∧ (method (Tryz.prog.types.size + Made.depth) T v "Mask").run Tryz.prog w = .ok (185, .int .u16 (r.spec : Int)) w := by
  obtain ⟨virt, kind, idx, spec, fb, name, info⟩ := r
  simp only at hv
  subst hv
  rw [sizeTypes]
  show ∃ T v, wrapV kind _ = .iface T v ∧ _
  unfold wrapV
  split
  · exact ⟨_, _, rfl, m_gpv_Mask ..⟩
  · exact ⟨_, _, rfl, m_vecv_Mask ..⟩
  · exact ⟨_, _, rfl, m_opmaskv_Mask ..⟩
  · exact ⟨_, _, rfl, m_virtual_Mask ..⟩
theorem R.m_Mask_p (r : R) (w : World) (hv : r.virt = false) : ∃ T v, r.val = .iface T v ∧ (method (Tryz.prog.types.size + Made.depth) T v "Mask").run Tryz.prog w = .ok (185, .int .u16 (r.spec : Int)) w := by
  obtain ⟨virt, kind, idx, spec, fb, name, info⟩ := r
  simp only at hv
  subst hv
  rw [sizeTypes]
  show ∃ T v, wrapP kind _ = .iface T v ∧ _
  unfold wrapP
  split
  · exact ⟨_, _, rfl, m_gpp_Mask ..⟩
  · exact ⟨_, _, rfl, m_vecp_Mask ..⟩
  · exact ⟨_, _, rfl, m_opmaskp_Mask ..⟩
  · exact ⟨_, _, rfl, m_register_Mask ..⟩
theorem wpList_Mask (hg : o.guard = none) (hop : o.op = .call { callee := .invoke t "Mask", args := #[], argTypes := #[] }) (hx : a.eval t = r.val) (h : ∀ w', Fr nope w w' → wpList Tryz.prog ops Q rest (a.put o.dst (.int .u16 (r.spec : Int))) w') :
    wpList Tryz.prog ops Q (o :: rest) a w := by
  cases hv : r.virt
  · obtain ⟨T, v, hv1, hm⟩ := r.m_Mask_p w hv
    refine wpList_invoke0 hg hop (hx.trans hv1) hm Tryz.func185 (by kernel_rfl) (by kernel_rfl) ((Mask_calls w r.spec).mono ?_)
    rintro e w' ⟨rfl, hf⟩
    exact h w' (hf ▸ Fr.refl _ _)
  · obtain ⟨T, v, hv1, hm⟩ := r.m_Mask_v w hv
    refine wpList_invoke0 hg hop (hx.trans hv1) hm Tryz.func185 (by kernel_rfl) (by kernel_rfl) ((Mask_calls w r.spec).mono ?_)
    rintro e w' ⟨rfl, hf⟩
    exact h w' (hf ▸ Fr.refl _ _)
theorem R.m_spec_v (r : R) (w : World) (hv : r.virt = true) : ∃ T v, r.val = .iface T v ∧ (method (Tryz.prog.types.size + Made.depth) T v "pub-berthage/pub/avo/reg.spec").run Tryz.prog w = .ok (274, r.coreV) w := by
  obtain ⟨virt, kind, idx, spec, fb, name, info⟩ := r
  simp only at hv
  subst hv
  rw [sizeTypes]
  show ∃ T v, wrapV kind _ = .iface T v ∧ _
  unfold wrapV
  split
  · exact ⟨_, _, rfl, m_gpv_spec ..⟩
  · exact ⟨_, _, rfl, m_vecv_spec ..⟩
  · exact ⟨_, _, rfl, m_opmaskv_spec ..⟩
  · exact ⟨_, _, rfl, m_virtual_spec ..⟩
theorem R.m_spec_p (r : R) (w : World) (hv : r.virt = false) : ∃ T v, r.val = .iface T v ∧ (method (Tryz.prog.types.size + Made.depth) T v "pub-berthage/pub/avo/reg.spec").run Tryz.prog w = .ok (217, r.coreP) w := by
  obtain ⟨virt, kind, idx, spec, fb, name, info⟩ := r
  simp only at hv
  subst hv
  rw [sizeTypes]
  show ∃ T v, wrapP kind _ = .iface T v ∧ _
  unfold wrapP
  split
  · exact ⟨_, _, rfl, m_gpp_spec ..⟩
  · exact ⟨_, _, rfl, m_vecp_spec ..⟩
  · exact ⟨_, _, rfl, m_opmaskp_spec ..⟩
  · exact ⟨_, _, rfl, m_register_spec ..⟩
theorem wpList_spec (hg : o.guard = none) (hop : o.op = .call { callee := .invoke t "pub-berthage/pub/avo/reg.spec", args := #[], argTypes := #[] }) (hx : a.eval t = r.val) (h : ∀ w', Fr nope w w' → wpList Tryz.prog ops Q rest (a.put o.dst (.int .u16 (r.spec : Int))) w') :
    wpList Tryz.prog ops Q (o :: rest) a w := by
  cases hv : r.virt
  · obtain ⟨T, v, hv1, hm⟩ := r.m_spec_p w hv
    refine wpList_invoke0 hg hop (hx.trans hv1) hm Tryz.func217 (by kernel_rfl) (by kernel_rfl) ((register_spec_calls w r.fb r.idx r.spec r.info r.name).mono ?_)
    rintro e w' ⟨rfl, hf⟩
    exact h w' hf
  · obtain ⟨T, v, hv1, hm⟩ := r.m_spec_v w hv
    refine wpList_invoke0 hg hop (hx.trans hv1) hm Tryz.func274 (by kernel_rfl) (by kernel_rfl) ((virtual_spec_calls w r.idx r.kind r.spec).mono ?_)
    rintro e w' ⟨rfl, hf⟩
    exact h w' hf
theorem R.m_VirtualIndex_v (r : R) (w : World) (hv : r.virt = true) : ∃ T v, r.val = .iface T v ∧ (method (Tryz.prog.types.size + Made.depth) T v "VirtualIndex").run Tryz.prog w = .ok (271, r.coreV) w := by
  obtain ⟨virt, kind, idx, spec, fb, name, info⟩ := r
  simp only at hv
  subst hv
  rw [sizeTypes]
  show ∃ T v, wrapV kind _ = .iface T v ∧ _
  unfold wrapV
  split
  · exact ⟨_, _, rfl, m_gpv_VirtualIndex ..⟩
  · exact ⟨_, _, rfl, m_vecv_VirtualIndex ..⟩
  · exact ⟨_, _, rfl, m_opmaskv_VirtualIndex ..⟩
  · exact ⟨_, _, rfl, m_virtual_VirtualIndex ..⟩
theorem R.m_PhysicalIndex_p (r : R) (w : World) (hv : r.virt = false) : ∃ T v, r.val = .iface T v ∧ (method (Tryz.prog.types.size + Made.depth) T v "PhysicalIndex").run Tryz.prog w = .ok (214, r.coreP) w := by
  obtain ⟨virt, kind, idx, spec, fb, name, info⟩ := r
  simp only at hv
  subst hv
  rw [sizeTypes]
  show ∃ T v, wrapP kind _ = .iface T v ∧ _
  unfold wrapP
  split
  · exact ⟨_, _, rfl, m_gpp_PhysicalIndex ..⟩
  · exact ⟨_, _, rfl, m_vecp_PhysicalIndex ..⟩
  · exact ⟨_, _, rfl, m_opmaskp_PhysicalIndex ..⟩
  · exact ⟨_, _, rfl, m_register_PhysicalIndex ..⟩
theorem R.m_Info_p (r : R) (w : World) (hv : r.virt = false) : ∃ T v, r.val = .iface T v ∧ (method (Tryz.prog.types.size + Made.depth) T v "Info").run Tryz.prog w = .ok (212, r.coreP) w := by
  obtain ⟨virt, kind, idx, spec, fb, name, info⟩ := r
  simp only at hv
  subst hv
  rw [sizeTypes]
  show ∃ T v, wrapP kind _ = .iface T v ∧ _
  unfold wrapP
  split
  · exact ⟨_, _, rfl, m_gpp_Info ..⟩
  · exact ⟨_, _, rfl, m_vecp_Info ..⟩
  · exact ⟨_, _, rfl, m_opmaskp_Info ..⟩
  · exact ⟨_, _, rfl, m_register_Info ..⟩
theorem wpList_Info (hg : o.guard = none) (hop : o.op = .call { callee := .invoke t "Info", args := #[], argTypes := #[] }) (hx : a.eval t = r.val) (hv : r.virt = false) (h : ∀ w', Fr nope w w' → wpList Tryz.prog ops Q rest (a.put o.dst (.int .u8 (r.info : Int))) w') :
    wpList Tryz.prog ops Q (o :: rest) a w := by
  obtain ⟨T, v, hv1, hm⟩ := r.m_Info_p w hv
  refine wpList_invoke0 hg hop (hx.trans hv1) hm Tryz.func212 (by kernel_rfl) (by kernel_rfl) ((register_Info_calls w r.fb r.idx r.spec r.info r.name).mono ?_)
  rintro e w' ⟨rfl, hf⟩
  exact h w' hf
end
end
end Go.Proofs.YtbaihlfnbdifgaaGreat
namespace Bth
section
open Go Go.RowKit
theorem Fr_of_grown {w w' : World} {row : Option Nat} (h : w.grownBy w' row) : Fr (fun b => row = some b) w w' :=
  ⟨h.os, h.tape, h.output, h.size, fun k hk hs => h.block k hk (fun e => hs e.symm)⟩
theorem own_fr {S : Nat → Prop} {w w' : World} {base : Nat} {e : TypeId} {size n : Nat} {v : Value} {xs : List Value} (h : w.ownsRow base e size v n xs) (hf : Fr S w w') (hs : ∀ b, v.ownBlock = some b → ¬ S b) : w'.ownsRow base e size v n xs := by
  refine ⟨h.1, ?_⟩
  rcases h.2 with ⟨rfl, h0⟩ | ⟨g, cap, cur, rfl, hb, hh, h1, h2, h3, h4⟩
  · exact .inl ⟨rfl, h0⟩
  · exact .inr ⟨g, cap, cur, rfl, hb, hf.heap hh (hs g rfl), h1, h2, h3, h4⟩
theorem own_base {w : World} {base : Nat} {e : TypeId} {size n : Nat} {v : Value} {xs : List Value} (h : w.ownsRow base e size v n xs) : ∀ k, v.ownBlock = some k → base ≤ k := by
  intro k hk
  rcases h.2 with ⟨rfl, _⟩ | ⟨g, cap, cur, rfl, hb, _⟩
  · simp [Value.ownBlock] at hk
  · have : g = k := by simpa [Value.ownBlock] using hk
    omega
theorem own_lt {w : World} {base : Nat} {e : TypeId} {size n : Nat} {v : Value} {xs : List Value} (h : w.ownsRow base e size v n xs) : ∀ k, v.ownBlock = some k → k < w.heap.size := by
  intro k hk
  rcases h.2 with ⟨rfl, _⟩ | ⟨g, cap, cur, rfl, hb, hh, _⟩
  · simp [Value.ownBlock] at hk
  · have : g = k := by simpa [Value.ownBlock] using hk
    subst this
    exact lt_of_heap hh
theorem own_slice {w : World} {base n : Nat} {e : TypeId} {size : Nat} {v : Value} {xs : List Value} (h : w.ownsRow base e size v n xs) : ∃ A c, v = .slice A n c ∧ n ≤ c ∧ c ≤ maxLen := by
  rcases h.2 with ⟨rfl, rfl⟩ | ⟨g, cap, cur, rfl, _, _, h1, h2, _⟩
  · exact ⟨none, 0, rfl, Nat.le_refl _, Nat.zero_le _⟩
  · exact ⟨_, cap, rfl, h1, h2⟩
theorem own_nil (W : World) (base : Nat) (e : TypeId) (size : Nat) : W.ownsRow base e size (.slice none 0 0) 0 [] := ⟨by simp, .inl ⟨rfl, rfl⟩⟩
theorem own_cells {w : World} {base n : Nat} {e : TypeId} {size : Nat} {A : Option Addr} {c : Nat} {xs : List Value} (h : w.ownsRow base e size (.slice A n c) n xs) : 0 < n → ∃ g, A = some ⟨g, 0, none⟩ ∧ g < w.heap.size ∧ ∀ j u, xs[j]? = some u → w.cell? ⟨g, j, none⟩ = some u := by
  intro hn
  obtain ⟨hl, h2⟩ := h
  rcases h2 with ⟨h1, h0⟩ | ⟨g, cap, cur, h1, hb, hh, h3, h4, h5, h6⟩
  · omega
  · injection h1 with hA _ _
    subst hA
    refine ⟨g, rfl, lt_of_heap hh, fun j u hu => ?_⟩
    rw [cell_of_row w g j cur e (0, 0) hh]
    have hj : j < n * size := by
      have := (List.getElem?_eq_some_iff.1 hu).1
      omega
    rw [← h6, List.getElem?_take_of_lt hj] at hu
    simpa using hu
theorem own_Sl {w : World} {base n : Nat} {e : TypeId} {A : Option Addr} {c : Nat} {xs : List Value} (h : w.ownsRow base e 1 (.slice A n c) n xs) : Sl w A n xs := by
  refine ⟨by have := h.1; omega, fun hn => ?_⟩
  obtain ⟨g, rfl, hg, hc⟩ := own_cells h hn
  exact ⟨g, 0, rfl, hg, fun j u hu => by rw [Nat.zero_add]; exact hc j u hu⟩
section
variable {P : Program} {w : World}
theorem run_append_nil (t ty e : TypeId) (i : TypeInfo) (size : Nat) (ht : P.underlying t = some (.slice e)) (hi : P.info? e = some i)
    (base : Nat) (v : Value) (n : Nat) (xs : List Value) (hown : w.ownsRow base e size v n xs) (c : Nat) : (Builtin.append_ #[t, t] ty #[v, .slice none 0 c]).run P w = .ok v w := by
  rcases hown.2 with ⟨rfl, rfl⟩ | ⟨g, cap, cur, rfl, _, _, hnc, _⟩
  · simp [Builtin.append_, run_underlying ht, Go.sizeOf, typeInfo, hi, Builtin.lenOf, Builtin.firstCells]
  · simp [Builtin.append_, run_underlying ht, Go.sizeOf, typeInfo, hi, Builtin.lenOf, Builtin.firstCells, hnc, storeCells]
theorem wp_app {o : Oper} {a : Act} {K : Act → World → Prop} {Q : Exit → Act → World → Prop} {s x : Operand} {t : TypeId}
    (ho : o.op = .call { callee := .builtin .append, args := #[s, x], argTypes := #[t, t] }) {base : Nat} {e : TypeId} {z : Value} {size bytes : Nat} (ht : P.underlying t = some (.slice e))
    (hinfo : (P.info? e).map (fun i => (i.zero, i.size, i.bytes)) = some (some z, size, bytes)) (hzs : z.cells.size = size) (hsz : 0 < size)
    {v : Value} {n : Nat} {xs : List Value} (hs : a.eval s = v) (hown : w.ownsRow base e size v n xs)
    {A : Option Addr} {m c : Nat} {news : List Value} (hx : a.eval x = .slice A m c) (hl : news.length = m * size) (hA : 0 < m → ∃ ad, A = some ad ∧ ∀ j u, news[j]? = some u → w.cell? (ad.add j) = some u) (h1 : ∀ u ∈ news, u.oneCell' = true)
    (h63 : n + m ≤ maxLen) (hbytes : (n + m) * bytes ≤ 140737488355328) (hbase : base ≤ w.heap.size)
    (h : ∀ v' w', w'.ownsRow base e size v' (n + m) (xs ++ news) → Fr (fun b => v.ownBlock = some b) w w' → (v'.ownBlock = v.ownBlock ∨ v'.ownBlock = some w.heap.size) → K (a.put o.dst v') w') : o.wp P a w K Q := by
  obtain ⟨i, hi, hzz⟩ := Option.map_eq_some_iff.1 hinfo
  simp only [Prod.mk.injEq] at hzz
  obtain ⟨hz, hz1, hz2⟩ := hzz
  cases A with
  | some ad =>
    have hcells : ∀ j u, news[j]? = some u → w.cell? (ad.add j) = some u := by
      intro j u hu
      have hm : 0 < m := by
        rcases Nat.eq_zero_or_pos m with h0 | h0
        · subst h0; have : news = [] := List.eq_nil_of_length_eq_zero (by omega); subst this; simp at hu
        · exact h0
      obtain ⟨ad', e1, hc⟩ := hA hm
      cases e1
      exact hc j u hu
    obtain ⟨v', w', hr, g1, g2, _, g4⟩ := run_append_own_at (P := P) (w := w) base t o.type e i z size bytes ht hi hz hz1 hz2 hzs hsz v n xs hown ad m c news hl hcells h1 h63 hbytes hbase
    unfold Oper.wp execOp
    simp only [ho, resolve, invoke, builtin, Sem.run_bind, Sem.run_pure, Result.andThen_ok, List.map_toArray, List.map_cons, List.map_nil, hs, hx, hr]
    exact h v' w' g1 (Fr_of_grown g2) g4
  | none =>
    have hm : m = 0 := by
      rcases Nat.eq_zero_or_pos m with h0 | h0
      · exact h0
      · obtain ⟨ad, e1, _⟩ := hA h0; cases e1
    subst hm
    have hn : news = [] := List.eq_nil_of_length_eq_zero (by omega)
    subst hn
    have hr := run_append_nil (P := P) t o.type e i size ht hi base v n xs hown c
    unfold Oper.wp execOp
    simp only [ho, resolve, invoke, builtin, Sem.run_bind, Sem.run_pure, Result.andThen_ok, List.map_toArray, List.map_cons, List.map_nil, hs, hx, hr]
    exact h v w (by simpa using hown) (Fr.refl _ _) (.inl rfl)
theorem step_app {ops : Array Oper} {o : Oper} {a : Act} {K : Act → World → Prop} {Q : Exit → Act → World → Prop} {E : Prop} (hgd : o.guard = none) {s x : Operand} {t : TypeId}
    (ho : o.op = .call { callee := .builtin .append, args := #[s, x], argTypes := #[t, t] }) {base : Nat} {e : TypeId} {z : Value} {size bytes : Nat} (ht : P.underlying t = some (.slice e))
    (hinfo : (P.info? e).map (fun i => (i.zero, i.size, i.bytes)) = some (some z, size, bytes)) (hzs : z.cells.size = size) (hsz : 0 < size)
    {v : Value} {n : Nat} {xs : List Value} (hs : a.eval s = v) (hown : w.ownsRow base e size v n xs)
    {A : Option Addr} {m c : Nat} {news : List Value} (hx : a.eval x = .slice A m c) (hl : news.length = m * size) (hA : 0 < m → ∃ ad, A = some ad ∧ ∀ j u, news[j]? = some u → w.cell? (ad.add j) = some u) (h1 : ∀ u ∈ news, u.oneCell' = true)
    (h63 : n + m ≤ maxLen) (hbytes : (n + m) * bytes ≤ 140737488355328) (hbase : base ≤ w.heap.size)
    (h : ∀ v' w', w'.ownsRow base e size v' (n + m) (xs ++ news) → Fr (fun b => v.ownBlock = some b) w w' → (v'.ownBlock = v.ownBlock ∨ v'.ownBlock = some w.heap.size) → K (a.put o.dst v') w') :
    if Region.wanted o (yielded ops a.tmps) = true then Oper.wp P o a w K Q else E := by
  have hw : Region.wanted o (yielded ops a.tmps) = true := by simp [Region.wanted, hgd]
  rw [if_pos hw]
  exact wp_app ho ht hinfo hzs hsz hs hown hx hl hA h1 h63 hbytes hbase h
theorem wpList_app {ops : Array Oper} {rest : List Oper} {o : Oper} {a : Act} {Q : Exit → Act → World → Prop} (hgd : o.guard = none) {s x : Operand} {t : TypeId}
    (ho : o.op = .call { callee := .builtin .append, args := #[s, x], argTypes := #[t, t] }) {base : Nat} {e : TypeId} {z : Value} {size bytes : Nat} (ht : P.underlying t = some (.slice e))
    (hinfo : (P.info? e).map (fun i => (i.zero, i.size, i.bytes)) = some (some z, size, bytes)) (hzs : z.cells.size = size) (hsz : 0 < size)
    {v : Value} {n : Nat} {xs : List Value} (hs : a.eval s = v) (hown : w.ownsRow base e size v n xs)
    {A : Option Addr} {m c : Nat} {news : List Value} (hx : a.eval x = .slice A m c) (hl : news.length = m * size) (hA : 0 < m → ∃ ad, A = some ad ∧ ∀ j u, news[j]? = some u → w.cell? (ad.add j) = some u) (h1 : ∀ u ∈ news, u.oneCell' = true)
    (h63 : n + m ≤ maxLen) (hbytes : (n + m) * bytes ≤ 140737488355328) (hbase : base ≤ w.heap.size)
    (h : ∀ v' w', w'.ownsRow base e size v' (n + m) (xs ++ news) → Fr (fun b => v.ownBlock = some b) w w' → (v'.ownBlock = v.ownBlock ∨ v'.ownBlock = some w.heap.size) → wpList P ops Q rest (a.put o.dst v') w') :
    wpList P ops Q (o :: rest) a w := by
  obtain ⟨i, hi, hzz⟩ := Option.map_eq_some_iff.1 hinfo
  simp only [Prod.mk.injEq] at hzz
  obtain ⟨hz, hz1, hz2⟩ := hzz
  cases A with
  | some ad =>
    have hcells : ∀ j u, news[j]? = some u → w.cell? (ad.add j) = some u := by
      intro j u hu
      have hm : 0 < m := by
        rcases Nat.eq_zero_or_pos m with h0 | h0
        · subst h0; have : news = [] := List.eq_nil_of_length_eq_zero (by omega); subst this; simp at hu
        · exact h0
      obtain ⟨ad', e1, hc⟩ := hA hm
      cases e1
      exact hc j u hu
    exact wpList_append_own_at w hgd s x t ho base e i z size bytes ht hi hz hz1 hz2 hzs hsz v n xs hs hown ad m c news hx hl hcells h1 h63 hbytes hbase
      fun v' w' g1 g2 _ g4 => h v' w' g1 (Fr_of_grown g2) g4
  | none =>
    have hm : m = 0 := by
      rcases Nat.eq_zero_or_pos m with h0 | h0
      · exact h0
      · obtain ⟨ad, e1, _⟩ := hA h0; cases e1
    subst hm
    have hn : news = [] := List.eq_nil_of_length_eq_zero (by omega)
    subst hn
    refine wpList_plain hgd fun K hK => ?_
    have hr := run_append_nil (P := P) t o.type e i size ht hi base v n xs hown c
    unfold Oper.wp execOp
    simp only [ho, resolve, invoke, builtin, Sem.run_bind, Sem.run_pure, Result.andThen_ok, List.map_toArray, List.map_cons, List.map_nil, hs, hx, hr]
    exact hK _ _ (h v w (by simpa using hown) (Fr.refl _ _) (.inl rfl))
end
end
end Bth
namespace Go.Proofs.YtbaihlfnbdifgaaGreat
section
open Go Go.RowKit Bth
set_option maxRecDepth 100000
inductive CK where
  | I8
  | U8
  | I16
  | U16
  | I32
  | U32
  | I64
  | U64
  | F32
  | F64
  | String
structure C where
  k : CK
  n : Int
  s : ByteArray
def CK.ty : CK → TypeId
  | .I8 => 306
  | .U8 => 307
  | .I16 => 309
  | .U16 => 310
  | .I32 => 311
  | .U32 => 312
  | .I64 => 313
  | .U64 => 314
  | .F32 => 316
  | .F64 => 319
  | .String => 321
def C.pay (c : C) : Value :=
  match c.k with
  | .I8 => .int .i8 c.n
  | .U8 => .int .u8 c.n
  | .I16 => .int .i16 c.n
  | .U16 => .int .u16 c.n
  | .I32 => .int .i32 c.n
  | .U32 => .int .u32 c.n
  | .I64 => .int .i64 c.n
  | .U64 => .int .u64 c.n
  | .F32 => .float .f32 c.n.toNat
  | .F64 => .float .f64 c.n.toNat
  | .String => .string c.s
structure M where
  sym : ByteArray
  static : Bool
  disp : Int
  base : Option R
  index : Option R
  scale : Nat
inductive O where
  | reg (r : R)
  | mem (m : M)
  | con (c : C)
  | label (s : ByteArray)
  | rel (n : Int)
def optV : Option R → Value
  | none => .nilIface
  | some r => r.val
def M.agg (m : M) : Value := .agg #[.string m.sym, .bool m.static, .int .i64 m.disp, optV m.base, optV m.index, .int .u8 (m.scale : Int)]
def O.val : O → Value
  | .reg r => r.val
  | .mem m => .iface 245 m.agg
  | .con c => .iface c.k.ty c.pay
  | .label s => .iface 192 (.string s)
  | .rel n => .iface 255 (.int .i32 n)
def O.isReg : O → Bool
  | .reg _ => true
  | _ => false
def O.isMem : O → Bool
  | .mem _ => true
  | _ => false
def O.isCon : O → Bool
  | .con _ => true
  | _ => false
theorem run_ta_fails {P : Program} {A T : TypeId} {want : Array (String × TypeId)} (hA : P.underlying A = some (.interface want))
    (hi : ((P.info? T).any fun i => want.toList.any fun p => !i.methods.any fun m => m.name == p.1 && m.sig == p.2) = true) (hz : ∀ w, (zeroValue A).run P w = .ok .nilIface w) (w : World) (S : TypeId) (x : Value) :
    (Instr.typeAssert (.iface T x) S A true).run P w = .ok (.tuple #[.nilIface, .bool false]) w := by
  obtain ⟨i, hi, hm⟩ : ∃ i, P.info? T = some i ∧ (want.toList.any fun p => !i.methods.any fun m => m.name == p.1 && m.sig == p.2) = true := by
    cases h : P.info? T with
    | none => rw [h] at hi; cases hi
    | some i => rw [h] at hi; exact ⟨i, rfl, hi⟩
  have hsome : ∃ m, Instr.missingMethod want i.methods = some m := by
    unfold Instr.missingMethod
    have hne : (want.toList.filter fun (p : String × TypeId) => !i.methods.any fun m => m.name == p.1 && m.sig == p.2).map (·.1) ≠ [] := by
      intro e
      obtain ⟨p, hp, hq⟩ := List.any_eq_true.1 hm
      have : p ∈ want.toList.filter fun (p : String × TypeId) => !i.methods.any fun m => m.name == p.1 && m.sig == p.2 := List.mem_filter.2 ⟨hp, hq⟩
      rw [List.map_eq_nil_iff] at e
      rw [e] at this
      cases this
    have key : ∀ l : List String, l ≠ [] → ∃ m, (match l.partition (·.contains '.') with | (unexported, exported) => Instr.least exported <|> Instr.least (unexported.map fun id => (id.splitOn ".").getLastD id)) = some m := by
      intro l hl
      rw [List.partition_eq_filter_filter]
      simp only
      cases h1 : l.filter (not ∘ fun s => s.contains '.') with
      | cons a b => exact ⟨_, rfl⟩
      | nil =>
        cases h2 : l.filter (fun s => s.contains '.') with
        | cons a b => exact ⟨_, rfl⟩
        | nil =>
          exfalso
          cases l with
          | nil => exact hl rfl
          | cons s l =>
            by_cases hs : s.contains '.' = true
            · rw [List.filter_cons_of_pos (by simpa using hs)] at h2; cases h2
            · rw [List.filter_cons_of_pos (by simpa using hs)] at h1; cases h1
    exact key _ hne
  obtain ⟨m, hm'⟩ := hsome
  simp [Instr.typeAssert, run_underlying hA, typeInfo, hi, Result.andThen, hm', hz w]
section
variable (w : World) (S : TypeId) (x : Value)
theorem ta_Register_gpv : (Instr.typeAssert (.iface 347 x) S 147 true).run Tryz.prog w = .ok (.tuple #[.iface 347 x, .bool true]) w := by kernel_rfl
theorem ta_Register_vecv : (Instr.typeAssert (.iface 349 x) S 147 true).run Tryz.prog w = .ok (.tuple #[.iface 349 x, .bool true]) w := by kernel_rfl
theorem ta_Register_opmaskv : (Instr.typeAssert (.iface 350 x) S 147 true).run Tryz.prog w = .ok (.tuple #[.iface 350 x, .bool true]) w := by kernel_rfl
theorem ta_Register_virtual : (Instr.typeAssert (.iface 345 x) S 147 true).run Tryz.prog w = .ok (.tuple #[.iface 345 x, .bool true]) w := by kernel_rfl
theorem ta_Register_gpp : (Instr.typeAssert (.iface 260 x) S 147 true).run Tryz.prog w = .ok (.tuple #[.iface 260 x, .bool true]) w := by kernel_rfl
theorem ta_Register_vecp : (Instr.typeAssert (.iface 264 x) S 147 true).run Tryz.prog w = .ok (.tuple #[.iface 264 x, .bool true]) w := by kernel_rfl
theorem ta_Register_opmaskp : (Instr.typeAssert (.iface 265 x) S 147 true).run Tryz.prog w = .ok (.tuple #[.iface 265 x, .bool true]) w := by kernel_rfl
theorem ta_Register_register : (Instr.typeAssert (.iface 209 x) S 147 true).run Tryz.prog w = .ok (.tuple #[.iface 209 x, .bool true]) w := by kernel_rfl
theorem ta_Register_Mem : (Instr.typeAssert (.iface 245 x) S 147 true).run Tryz.prog w = .ok (.tuple #[.nilIface, .bool false]) w := run_ta_fails Tryz.underlying147 (by kernel_rfl) (fun w => by kernel_rfl) w S x
theorem ta_Register_I8 : (Instr.typeAssert (.iface 306 x) S 147 true).run Tryz.prog w = .ok (.tuple #[.nilIface, .bool false]) w := run_ta_fails Tryz.underlying147 (by kernel_rfl) (fun w => by kernel_rfl) w S x
theorem ta_Register_U8 : (Instr.typeAssert (.iface 307 x) S 147 true).run Tryz.prog w = .ok (.tuple #[.nilIface, .bool false]) w := run_ta_fails Tryz.underlying147 (by kernel_rfl) (fun w => by kernel_rfl) w S x
theorem ta_Register_I16 : (Instr.typeAssert (.iface 309 x) S 147 true).run Tryz.prog w = .ok (.tuple #[.nilIface, .bool false]) w := run_ta_fails Tryz.underlying147 (by kernel_rfl) (fun w => by kernel_rfl) w S x
theorem ta_Register_U16 : (Instr.typeAssert (.iface 310 x) S 147 true).run Tryz.prog w = .ok (.tuple #[.nilIface, .bool false]) w := run_ta_fails Tryz.underlying147 (by kernel_rfl) (fun w => by kernel_rfl) w S x
theorem ta_Register_I32 : (Instr.typeAssert (.iface 311 x) S 147 true).run Tryz.prog w = .ok (.tuple #[.nilIface, .bool false]) w := run_ta_fails Tryz.underlying147 (by kernel_rfl) (fun w => by kernel_rfl) w S x
theorem ta_Register_U32 : (Instr.typeAssert (.iface 312 x) S 147 true).run Tryz.prog w = .ok (.tuple #[.nilIface, .bool false]) w := run_ta_fails Tryz.underlying147 (by kernel_rfl) (fun w => by kernel_rfl) w S x
theorem ta_Register_I64 : (Instr.typeAssert (.iface 313 x) S 147 true).run Tryz.prog w = .ok (.tuple #[.nilIface, .bool false]) w := run_ta_fails Tryz.underlying147 (by kernel_rfl) (fun w => by kernel_rfl) w S x
theorem ta_Register_U64 : (Instr.typeAssert (.iface 314 x) S 147 true).run Tryz.prog w = .ok (.tuple #[.nilIface, .bool false]) w := run_ta_fails Tryz.underlying147 (by kernel_rfl) (fun w => by kernel_rfl) w S x
theorem ta_Register_F32 : (Instr.typeAssert (.iface 316 x) S 147 true).run Tryz.prog w = .ok (.tuple #[.nilIface, .bool false]) w := run_ta_fails Tryz.underlying147 (by kernel_rfl) (fun w => by kernel_rfl) w S x
theorem ta_Register_F64 : (Instr.typeAssert (.iface 319 x) S 147 true).run Tryz.prog w = .ok (.tuple #[.nilIface, .bool false]) w := run_ta_fails Tryz.underlying147 (by kernel_rfl) (fun w => by kernel_rfl) w S x
theorem ta_Register_String : (Instr.typeAssert (.iface 321 x) S 147 true).run Tryz.prog w = .ok (.tuple #[.nilIface, .bool false]) w := run_ta_fails Tryz.underlying147 (by kernel_rfl) (fun w => by kernel_rfl) w S x
theorem ta_Register_LabelRef : (Instr.typeAssert (.iface 192 x) S 147 true).run Tryz.prog w = .ok (.tuple #[.nilIface, .bool false]) w := run_ta_fails Tryz.underlying147 (by kernel_rfl) (fun w => by kernel_rfl) w S x
theorem ta_Register_Rel : (Instr.typeAssert (.iface 255 x) S 147 true).run Tryz.prog w = .ok (.tuple #[.nilIface, .bool false]) w := run_ta_fails Tryz.underlying147 (by kernel_rfl) (fun w => by kernel_rfl) w S x
theorem ta_Constant_gpv : (Instr.typeAssert (.iface 347 x) S 254 true).run Tryz.prog w = .ok (.tuple #[.nilIface, .bool false]) w := run_ta_fails Tryz.underlying254 (by kernel_rfl) (fun w => by kernel_rfl) w S x
theorem ta_Constant_vecv : (Instr.typeAssert (.iface 349 x) S 254 true).run Tryz.prog w = .ok (.tuple #[.nilIface, .bool false]) w := run_ta_fails Tryz.underlying254 (by kernel_rfl) (fun w => by kernel_rfl) w S x
theorem ta_Constant_opmaskv : (Instr.typeAssert (.iface 350 x) S 254 true).run Tryz.prog w = .ok (.tuple #[.nilIface, .bool false]) w := run_ta_fails Tryz.underlying254 (by kernel_rfl) (fun w => by kernel_rfl) w S x
theorem ta_Constant_virtual : (Instr.typeAssert (.iface 345 x) S 254 true).run Tryz.prog w = .ok (.tuple #[.nilIface, .bool false]) w := run_ta_fails Tryz.underlying254 (by kernel_rfl) (fun w => by kernel_rfl) w S x
theorem ta_Constant_gpp : (Instr.typeAssert (.iface 260 x) S 254 true).run Tryz.prog w = .ok (.tuple #[.nilIface, .bool false]) w := run_ta_fails Tryz.underlying254 (by kernel_rfl) (fun w => by kernel_rfl) w S x
theorem ta_Constant_vecp : (Instr.typeAssert (.iface 264 x) S 254 true).run Tryz.prog w = .ok (.tuple #[.nilIface, .bool false]) w := run_ta_fails Tryz.underlying254 (by kernel_rfl) (fun w => by kernel_rfl) w S x
theorem ta_Constant_opmaskp : (Instr.typeAssert (.iface 265 x) S 254 true).run Tryz.prog w = .ok (.tuple #[.nilIface, .bool false]) w := run_ta_fails Tryz.underlying254 (by kernel_rfl) (fun w => by kernel_rfl) w S x
theorem ta_Constant_register : (Instr.typeAssert (.iface 209 x) S 254 true).run Tryz.prog w = .ok (.tuple #[.nilIface, .bool false]) w := run_ta_fails Tryz.underlying254 (by kernel_rfl) (fun w => by kernel_rfl) w S x
theorem ta_Constant_Mem : (Instr.typeAssert (.iface 245 x) S 254 true).run Tryz.prog w = .ok (.tuple #[.nilIface, .bool false]) w := run_ta_fails Tryz.underlying254 (by kernel_rfl) (fun w => by kernel_rfl) w S x
theorem ta_Constant_I8 : (Instr.typeAssert (.iface 306 x) S 254 true).run Tryz.prog w = .ok (.tuple #[.iface 306 x, .bool true]) w := by kernel_rfl
theorem ta_Constant_U8 : (Instr.typeAssert (.iface 307 x) S 254 true).run Tryz.prog w = .ok (.tuple #[.iface 307 x, .bool true]) w := by kernel_rfl
theorem ta_Constant_I16 : (Instr.typeAssert (.iface 309 x) S 254 true).run Tryz.prog w = .ok (.tuple #[.iface 309 x, .bool true]) w := by kernel_rfl
theorem ta_Constant_U16 : (Instr.typeAssert (.iface 310 x) S 254 true).run Tryz.prog w = .ok (.tuple #[.iface 310 x, .bool true]) w := by kernel_rfl
theorem ta_Constant_I32 : (Instr.typeAssert (.iface 311 x) S 254 true).run Tryz.prog w = .ok (.tuple #[.iface 311 x, .bool true]) w := by kernel_rfl
theorem ta_Constant_U32 : (Instr.typeAssert (.iface 312 x) S 254 true).run Tryz.prog w = .ok (.tuple #[.iface 312 x, .bool true]) w := by kernel_rfl
theorem ta_Constant_I64 : (Instr.typeAssert (.iface 313 x) S 254 true).run Tryz.prog w = .ok (.tuple #[.iface 313 x, .bool true]) w := by kernel_rfl
theorem ta_Constant_U64 : (Instr.typeAssert (.iface 314 x) S 254 true).run Tryz.prog w = .ok (.tuple #[.iface 314 x, .bool true]) w := by kernel_rfl
theorem ta_Constant_F32 : (Instr.typeAssert (.iface 316 x) S 254 true).run Tryz.prog w = .ok (.tuple #[.iface 316 x, .bool true]) w := by kernel_rfl
theorem ta_Constant_F64 : (Instr.typeAssert (.iface 319 x) S 254 true).run Tryz.prog w = .ok (.tuple #[.iface 319 x, .bool true]) w := by kernel_rfl
theorem ta_Constant_String : (Instr.typeAssert (.iface 321 x) S 254 true).run Tryz.prog w = .ok (.tuple #[.iface 321 x, .bool true]) w := by kernel_rfl
theorem ta_Constant_LabelRef : (Instr.typeAssert (.iface 192 x) S 254 true).run Tryz.prog w = .ok (.tuple #[.nilIface, .bool false]) w := run_ta_fails Tryz.underlying254 (by kernel_rfl) (fun w => by kernel_rfl) w S x
theorem ta_Constant_Rel : (Instr.typeAssert (.iface 255 x) S 254 true).run Tryz.prog w = .ok (.tuple #[.nilIface, .bool false]) w := run_ta_fails Tryz.underlying254 (by kernel_rfl) (fun w => by kernel_rfl) w S x
theorem ta_Mem_gpv : (Instr.typeAssert (.iface 347 x) S 245 true).run Tryz.prog w = .ok (.tuple #[.agg #[.string ⟨#[]⟩, .bool false, .int .i64 0, .nilIface, .nilIface, .int .u8 0], .bool false]) w := by kernel_rfl
theorem ta_Mem_vecv : (Instr.typeAssert (.iface 349 x) S 245 true).run Tryz.prog w = .ok (.tuple #[.agg #[.string ⟨#[]⟩, .bool false, .int .i64 0, .nilIface, .nilIface, .int .u8 0], .bool false]) w := by kernel_rfl
theorem ta_Mem_opmaskv : (Instr.typeAssert (.iface 350 x) S 245 true).run Tryz.prog w = .ok (.tuple #[.agg #[.string ⟨#[]⟩, .bool false, .int .i64 0, .nilIface, .nilIface, .int .u8 0], .bool false]) w := by kernel_rfl
theorem ta_Mem_virtual : (Instr.typeAssert (.iface 345 x) S 245 true).run Tryz.prog w = .ok (.tuple #[.agg #[.string ⟨#[]⟩, .bool false, .int .i64 0, .nilIface, .nilIface, .int .u8 0], .bool false]) w := by kernel_rfl
theorem ta_Mem_gpp : (Instr.typeAssert (.iface 260 x) S 245 true).run Tryz.prog w = .ok (.tuple #[.agg #[.string ⟨#[]⟩, .bool false, .int .i64 0, .nilIface, .nilIface, .int .u8 0], .bool false]) w := by kernel_rfl
theorem ta_Mem_vecp : (Instr.typeAssert (.iface 264 x) S 245 true).run Tryz.prog w = .ok (.tuple #[.agg #[.string ⟨#[]⟩, .bool false, .int .i64 0, .nilIface, .nilIface, .int .u8 0], .bool false]) w := by kernel_rfl
theorem ta_Mem_opmaskp : (Instr.typeAssert (.iface 265 x) S 245 true).run Tryz.prog w = .ok (.tuple #[.agg #[.string ⟨#[]⟩, .bool false, .int .i64 0, .nilIface, .nilIface, .int .u8 0], .bool false]) w := by kernel_rfl
theorem ta_Mem_register : (Instr.typeAssert (.iface 209 x) S 245 true).run Tryz.prog w = .ok (.tuple #[.agg #[.string ⟨#[]⟩, .bool false, .int .i64 0, .nilIface, .nilIface, .int .u8 0], .bool false]) w := by kernel_rfl
theorem ta_Mem_Mem : (Instr.typeAssert (.iface 245 x) S 245 true).run Tryz.prog w = .ok (.tuple #[x, .bool true]) w := by kernel_rfl
theorem ta_Mem_I8 : (Instr.typeAssert (.iface 306 x) S 245 true).run Tryz.prog w = .ok (.tuple #[.agg #[.string ⟨#[]⟩, .bool false, .int .i64 0, .nilIface, .nilIface, .int .u8 0], .bool false]) w := by kernel_rfl
theorem ta_Mem_U8 : (Instr.typeAssert (.iface 307 x) S 245 true).run Tryz.prog w = .ok (.tuple #[.agg #[.string ⟨#[]⟩, .bool false, .int .i64 0, .nilIface, .nilIface, .int .u8 0], .bool false]) w := by kernel_rfl
theorem ta_Mem_I16 : (Instr.typeAssert (.iface 309 x) S 245 true).run Tryz.prog w = .ok (.tuple #[.agg #[.string ⟨#[]⟩, .bool false, .int .i64 0, .nilIface, .nilIface, .int .u8 0], .bool false]) w := by kernel_rfl
theorem ta_Mem_U16 : (Instr.typeAssert (.iface 310 x) S 245 true).run Tryz.prog w = .ok (.tuple #[.agg #[.string ⟨#[]⟩, .bool false, .int .i64 0, .nilIface, .nilIface, .int .u8 0], .bool false]) w := by kernel_rfl
theorem ta_Mem_I32 : (Instr.typeAssert (.iface 311 x) S 245 true).run Tryz.prog w = .ok (.tuple #[.agg #[.string ⟨#[]⟩, .bool false, .int .i64 0, .nilIface, .nilIface, .int .u8 0], .bool false]) w := by kernel_rfl
theorem ta_Mem_U32 : (Instr.typeAssert (.iface 312 x) S 245 true).run Tryz.prog w = .ok (.tuple #[.agg #[.string ⟨#[]⟩, .bool false, .int .i64 0, .nilIface, .nilIface, .int .u8 0], .bool false]) w := by kernel_rfl
theorem ta_Mem_I64 : (Instr.typeAssert (.iface 313 x) S 245 true).run Tryz.prog w = .ok (.tuple #[.agg #[.string ⟨#[]⟩, .bool false, .int .i64 0, .nilIface, .nilIface, .int .u8 0], .bool false]) w := by kernel_rfl
theorem ta_Mem_U64 : (Instr.typeAssert (.iface 314 x) S 245 true).run Tryz.prog w = .ok (.tuple #[.agg #[.string ⟨#[]⟩, .bool false, .int .i64 0, .nilIface, .nilIface, .int .u8 0], .bool false]) w := by kernel_rfl
theorem ta_Mem_F32 : (Instr.typeAssert (.iface 316 x) S 245 true).run Tryz.prog w = .ok (.tuple #[.agg #[.string ⟨#[]⟩, .bool false, .int .i64 0, .nilIface, .nilIface, .int .u8 0], .bool false]) w := by kernel_rfl
theorem ta_Mem_F64 : (Instr.typeAssert (.iface 319 x) S 245 true).run Tryz.prog w = .ok (.tuple #[.agg #[.string ⟨#[]⟩, .bool false, .int .i64 0, .nilIface, .nilIface, .int .u8 0], .bool false]) w := by kernel_rfl
theorem ta_Mem_String : (Instr.typeAssert (.iface 321 x) S 245 true).run Tryz.prog w = .ok (.tuple #[.agg #[.string ⟨#[]⟩, .bool false, .int .i64 0, .nilIface, .nilIface, .int .u8 0], .bool false]) w := by kernel_rfl
theorem ta_Mem_LabelRef : (Instr.typeAssert (.iface 192 x) S 245 true).run Tryz.prog w = .ok (.tuple #[.agg #[.string ⟨#[]⟩, .bool false, .int .i64 0, .nilIface, .nilIface, .int .u8 0], .bool false]) w := by kernel_rfl
theorem ta_Mem_Rel : (Instr.typeAssert (.iface 255 x) S 245 true).run Tryz.prog w = .ok (.tuple #[.agg #[.string ⟨#[]⟩, .bool false, .int .i64 0, .nilIface, .nilIface, .int .u8 0], .bool false]) w := by kernel_rfl
theorem ta_LabelRef_gpv : (Instr.typeAssert (.iface 347 x) S 192 true).run Tryz.prog w = .ok (.tuple #[.string ⟨#[]⟩, .bool false]) w := by kernel_rfl
theorem ta_LabelRef_vecv : (Instr.typeAssert (.iface 349 x) S 192 true).run Tryz.prog w = .ok (.tuple #[.string ⟨#[]⟩, .bool false]) w := by kernel_rfl
theorem ta_LabelRef_opmaskv : (Instr.typeAssert (.iface 350 x) S 192 true).run Tryz.prog w = .ok (.tuple #[.string ⟨#[]⟩, .bool false]) w := by kernel_rfl
theorem ta_LabelRef_virtual : (Instr.typeAssert (.iface 345 x) S 192 true).run Tryz.prog w = .ok (.tuple #[.string ⟨#[]⟩, .bool false]) w := by kernel_rfl
theorem ta_LabelRef_gpp : (Instr.typeAssert (.iface 260 x) S 192 true).run Tryz.prog w = .ok (.tuple #[.string ⟨#[]⟩, .bool false]) w := by kernel_rfl
theorem ta_LabelRef_vecp : (Instr.typeAssert (.iface 264 x) S 192 true).run Tryz.prog w = .ok (.tuple #[.string ⟨#[]⟩, .bool false]) w := by kernel_rfl
theorem ta_LabelRef_opmaskp : (Instr.typeAssert (.iface 265 x) S 192 true).run Tryz.prog w = .ok (.tuple #[.string ⟨#[]⟩, .bool false]) w := by kernel_rfl
theorem ta_LabelRef_register : (Instr.typeAssert (.iface 209 x) S 192 true).run Tryz.prog w = .ok (.tuple #[.string ⟨#[]⟩, .bool false]) w := by kernel_rfl
theorem ta_LabelRef_Mem : (Instr.typeAssert (.iface 245 x) S 192 true).run Tryz.prog w = .ok (.tuple #[.string ⟨#[]⟩, .bool false]) w := by kernel_rfl
theorem ta_LabelRef_I8 : (Instr.typeAssert (.iface 306 x) S 192 true).run Tryz.prog w = .ok (.tuple #[.string ⟨#[]⟩, .bool false]) w := by kernel_rfl
theorem ta_LabelRef_U8 : (Instr.typeAssert (.iface 307 x) S 192 true).run Tryz.prog w = .ok (.tuple #[.string ⟨#[]⟩, .bool false]) w := by kernel_rfl
theorem ta_LabelRef_I16 : (Instr.typeAssert (.iface 309 x) S 192 true).run Tryz.prog w = .ok (.tuple #[.string ⟨#[]⟩, .bool false]) w := by kernel_rfl
theorem ta_LabelRef_U16 : (Instr.typeAssert (.iface 310 x) S 192 true).run Tryz.prog w = .ok (.tuple #[.string ⟨#[]⟩, .bool false]) w := by kernel_rfl
theorem ta_LabelRef_I32 : (Instr.typeAssert (.iface 311 x) S 192 true).run Tryz.prog w = .ok (.tuple #[.string ⟨#[]⟩, .bool false]) w := by kernel_rfl
theorem ta_LabelRef_U32 : (Instr.typeAssert (.iface 312 x) S 192 true).run Tryz.prog w = .ok (.tuple #[.string ⟨#[]⟩, .bool false]) w := by kernel_rfl
theorem ta_LabelRef_I64 : (Instr.typeAssert (.iface 313 x) S 192 true).run Tryz.prog w = .ok (.tuple #[.string ⟨#[]⟩, .bool false]) w := by kernel_rfl
theorem ta_LabelRef_U64 : (Instr.typeAssert (.iface 314 x) S 192 true).run Tryz.prog w = .ok (.tuple #[.string ⟨#[]⟩, .bool false]) w := by kernel_rfl
theorem ta_LabelRef_F32 : (Instr.typeAssert (.iface 316 x) S 192 true).run Tryz.prog w = .ok (.tuple #[.string ⟨#[]⟩, .bool false]) w := by kernel_rfl
theorem ta_LabelRef_F64 : (Instr.typeAssert (.iface 319 x) S 192 true).run Tryz.prog w = .ok (.tuple #[.string ⟨#[]⟩, .bool false]) w := by kernel_rfl
theorem ta_LabelRef_String : (Instr.typeAssert (.iface 321 x) S 192 true).run Tryz.prog w = .ok (.tuple #[.string ⟨#[]⟩, .bool false]) w := by kernel_rfl
theorem ta_LabelRef_LabelRef : (Instr.typeAssert (.iface 192 x) S 192 true).run Tryz.prog w = .ok (.tuple #[x, .bool true]) w := by kernel_rfl
theorem ta_LabelRef_Rel : (Instr.typeAssert (.iface 255 x) S 192 true).run Tryz.prog w = .ok (.tuple #[.string ⟨#[]⟩, .bool false]) w := by kernel_rfl
theorem ta_Rel_gpv : (Instr.typeAssert (.iface 347 x) S 255 true).run Tryz.prog w = .ok (.tuple #[.int .i32 0, .bool false]) w := by kernel_rfl
theorem ta_Rel_vecv : (Instr.typeAssert (.iface 349 x) S 255 true).run Tryz.prog w = .ok (.tuple #[.int .i32 0, .bool false]) w := by kernel_rfl
theorem ta_Rel_opmaskv : (Instr.typeAssert (.iface 350 x) S 255 true).run Tryz.prog w = .ok (.tuple #[.int .i32 0, .bool false]) w := by kernel_rfl
theorem ta_Rel_virtual : (Instr.typeAssert (.iface 345 x) S 255 true).run Tryz.prog w = .ok (.tuple #[.int .i32 0, .bool false]) w := by kernel_rfl
theorem ta_Rel_gpp : (Instr.typeAssert (.iface 260 x) S 255 true).run Tryz.prog w = .ok (.tuple #[.int .i32 0, .bool false]) w := by kernel_rfl
theorem ta_Rel_vecp : (Instr.typeAssert (.iface 264 x) S 255 true).run Tryz.prog w = .ok (.tuple #[.int .i32 0, .bool false]) w := by kernel_rfl
theorem ta_Rel_opmaskp : (Instr.typeAssert (.iface 265 x) S 255 true).run Tryz.prog w = .ok (.tuple #[.int .i32 0, .bool false]) w := by kernel_rfl
theorem ta_Rel_register : (Instr.typeAssert (.iface 209 x) S 255 true).run Tryz.prog w = .ok (.tuple #[.int .i32 0, .bool false]) w := by kernel_rfl
theorem ta_Rel_Mem : (Instr.typeAssert (.iface 245 x) S 255 true).run Tryz.prog w = .ok (.tuple #[.int .i32 0, .bool false]) w := by kernel_rfl
theorem ta_Rel_I8 : (Instr.typeAssert (.iface 306 x) S 255 true).run Tryz.prog w = .ok (.tuple #[.int .i32 0, .bool false]) w := by kernel_rfl
theorem ta_Rel_U8 : (Instr.typeAssert (.iface 307 x) S 255 true).run Tryz.prog w = .ok (.tuple #[.int .i32 0, .bool false]) w := by kernel_rfl
theorem ta_Rel_I16 : (Instr.typeAssert (.iface 309 x) S 255 true).run Tryz.prog w = .ok (.tuple #[.int .i32 0, .bool false]) w := by kernel_rfl
theorem ta_Rel_U16 : (Instr.typeAssert (.iface 310 x) S 255 true).run Tryz.prog w = .ok (.tuple #[.int .i32 0, .bool false]) w := by kernel_rfl
theorem ta_Rel_I32 : (Instr.typeAssert (.iface 311 x) S 255 true).run Tryz.prog w = .ok (.tuple #[.int .i32 0, .bool false]) w := by kernel_rfl
theorem ta_Rel_U32 : (Instr.typeAssert (.iface 312 x) S 255 true).run Tryz.prog w = .ok (.tuple #[.int .i32 0, .bool false]) w := by kernel_rfl
theorem ta_Rel_I64 : (Instr.typeAssert (.iface 313 x) S 255 true).run Tryz.prog w = .ok (.tuple #[.int .i32 0, .bool false]) w := by kernel_rfl
theorem ta_Rel_U64 : (Instr.typeAssert (.iface 314 x) S 255 true).run Tryz.prog w = .ok (.tuple #[.int .i32 0, .bool false]) w := by kernel_rfl
theorem ta_Rel_F32 : (Instr.typeAssert (.iface 316 x) S 255 true).run Tryz.prog w = .ok (.tuple #[.int .i32 0, .bool false]) w := by kernel_rfl
theorem ta_Rel_F64 : (Instr.typeAssert (.iface 319 x) S 255 true).run Tryz.prog w = .ok (.tuple #[.int .i32 0, .bool false]) w := by kernel_rfl
theorem ta_Rel_String : (Instr.typeAssert (.iface 321 x) S 255 true).run Tryz.prog w = .ok (.tuple #[.int .i32 0, .bool false]) w := by kernel_rfl
theorem ta_Rel_LabelRef : (Instr.typeAssert (.iface 192 x) S 255 true).run Tryz.prog w = .ok (.tuple #[.int .i32 0, .bool false]) w := by kernel_rfl
theorem ta_Rel_Rel : (Instr.typeAssert (.iface 255 x) S 255 true).run Tryz.prog w = .ok (.tuple #[x, .bool true]) w := by kernel_rfl
theorem ta_Physical_gpv : (Instr.typeAssert (.iface 347 x) S 158 true).run Tryz.prog w = .ok (.tuple #[.nilIface, .bool false]) w := run_ta_fails Tryz.underlying158 (by kernel_rfl) (fun w => by kernel_rfl) w S x
theorem ta_Physical_vecv : (Instr.typeAssert (.iface 349 x) S 158 true).run Tryz.prog w = .ok (.tuple #[.nilIface, .bool false]) w := run_ta_fails Tryz.underlying158 (by kernel_rfl) (fun w => by kernel_rfl) w S x
theorem ta_Physical_opmaskv : (Instr.typeAssert (.iface 350 x) S 158 true).run Tryz.prog w = .ok (.tuple #[.nilIface, .bool false]) w := run_ta_fails Tryz.underlying158 (by kernel_rfl) (fun w => by kernel_rfl) w S x
theorem ta_Physical_virtual : (Instr.typeAssert (.iface 345 x) S 158 true).run Tryz.prog w = .ok (.tuple #[.nilIface, .bool false]) w := run_ta_fails Tryz.underlying158 (by kernel_rfl) (fun w => by kernel_rfl) w S x
theorem ta_Physical_gpp : (Instr.typeAssert (.iface 260 x) S 158 true).run Tryz.prog w = .ok (.tuple #[.iface 260 x, .bool true]) w := by kernel_rfl
theorem ta_Physical_vecp : (Instr.typeAssert (.iface 264 x) S 158 true).run Tryz.prog w = .ok (.tuple #[.iface 264 x, .bool true]) w := by kernel_rfl
theorem ta_Physical_opmaskp : (Instr.typeAssert (.iface 265 x) S 158 true).run Tryz.prog w = .ok (.tuple #[.iface 265 x, .bool true]) w := by kernel_rfl
theorem ta_Physical_register : (Instr.typeAssert (.iface 209 x) S 158 true).run Tryz.prog w = .ok (.tuple #[.iface 209 x, .bool true]) w := by kernel_rfl
theorem ta_Virtual_gpv : (Instr.typeAssert (.iface 347 x) S 329 true).run Tryz.prog w = .ok (.tuple #[.iface 347 x, .bool true]) w := by kernel_rfl
theorem ta_Virtual_vecv : (Instr.typeAssert (.iface 349 x) S 329 true).run Tryz.prog w = .ok (.tuple #[.iface 349 x, .bool true]) w := by kernel_rfl
theorem ta_Virtual_opmaskv : (Instr.typeAssert (.iface 350 x) S 329 true).run Tryz.prog w = .ok (.tuple #[.iface 350 x, .bool true]) w := by kernel_rfl
theorem ta_Virtual_virtual : (Instr.typeAssert (.iface 345 x) S 329 true).run Tryz.prog w = .ok (.tuple #[.iface 345 x, .bool true]) w := by kernel_rfl
theorem ta_Virtual_gpp : (Instr.typeAssert (.iface 260 x) S 329 true).run Tryz.prog w = .ok (.tuple #[.nilIface, .bool false]) w := run_ta_fails Tryz.underlying329 (by kernel_rfl) (fun w => by kernel_rfl) w S x
theorem ta_Virtual_vecp : (Instr.typeAssert (.iface 264 x) S 329 true).run Tryz.prog w = .ok (.tuple #[.nilIface, .bool false]) w := run_ta_fails Tryz.underlying329 (by kernel_rfl) (fun w => by kernel_rfl) w S x
theorem ta_Virtual_opmaskp : (Instr.typeAssert (.iface 265 x) S 329 true).run Tryz.prog w = .ok (.tuple #[.nilIface, .bool false]) w := run_ta_fails Tryz.underlying329 (by kernel_rfl) (fun w => by kernel_rfl) w S x
theorem ta_Virtual_register : (Instr.typeAssert (.iface 209 x) S 329 true).run Tryz.prog w = .ok (.tuple #[.nilIface, .bool false]) w := run_ta_fails Tryz.underlying329 (by kernel_rfl) (fun w => by kernel_rfl) w S x
end
def zeroMem : Value := .agg #[.string ⟨#[]⟩, .bool false, .int .i64 0, .nilIface, .nilIface, .int .u8 0]
section
variable (w : World) (S : TypeId)
theorem R.val_cases {p : Value → Prop} (r : R) (h1 : ∀ x, p (.iface 347 x)) (h2 : ∀ x, p (.iface 349 x)) (h3 : ∀ x, p (.iface 350 x)) (h4 : ∀ x, p (.iface 345 x)) (g1 : ∀ x, p (.iface 260 x)) (g2 : ∀ x, p (.iface 264 x)) (g3 : ∀ x, p (.iface 265 x)) (g4 : ∀ x, p (.iface 209 x)) : p r.val := by
  unfold R.val
  split
  · unfold wrapV
    split
    · exact h1 _
    · exact h2 _
    · exact h3 _
    · exact h4 _
  · unfold wrapP
    split
    · exact g1 _
    · exact g2 _
    · exact g3 _
    · exact g4 _
theorem O.ta_Register (o : O) : (Instr.typeAssert o.val S 147 true).run Tryz.prog w = .ok (.tuple #[(if o.isReg then o.val else .nilIface), .bool o.isReg]) w := by
  cases o with
  | reg r =>
    show (Instr.typeAssert (r.val) S 147 true).run Tryz.prog w = .ok (.tuple #[r.val, .bool true]) w
    exact R.val_cases (p := fun v => (Instr.typeAssert v S 147 true).run Tryz.prog w = .ok (.tuple #[v, .bool true]) w) r (ta_Register_gpv w S) (ta_Register_vecv w S) (ta_Register_opmaskv w S) (ta_Register_virtual w S) (ta_Register_gpp w S) (ta_Register_vecp w S) (ta_Register_opmaskp w S) (ta_Register_register w S)
  | mem m =>
    show (Instr.typeAssert (.iface 245 m.agg) S 147 true).run Tryz.prog w = .ok (.tuple #[.nilIface, .bool false]) w
    exact ta_Register_Mem w S _
  | con c =>
    obtain ⟨k, n, s⟩ := c
    cases k
    · exact ta_Register_I8 w S _
    · exact ta_Register_U8 w S _
    · exact ta_Register_I16 w S _
    · exact ta_Register_U16 w S _
    · exact ta_Register_I32 w S _
    · exact ta_Register_U32 w S _
    · exact ta_Register_I64 w S _
    · exact ta_Register_U64 w S _
    · exact ta_Register_F32 w S _
    · exact ta_Register_F64 w S _
    · exact ta_Register_String w S _
  | label s => exact ta_Register_LabelRef w S _
  | rel n => exact ta_Register_Rel w S _
theorem O.ta_Constant (o : O) : (Instr.typeAssert o.val S 254 true).run Tryz.prog w = .ok (.tuple #[(if o.isCon then o.val else .nilIface), .bool o.isCon]) w := by
  cases o with
  | reg r =>
    show (Instr.typeAssert (r.val) S 254 true).run Tryz.prog w = .ok (.tuple #[.nilIface, .bool false]) w
    exact R.val_cases (p := fun v => (Instr.typeAssert v S 254 true).run Tryz.prog w = .ok (.tuple #[.nilIface, .bool false]) w) r (ta_Constant_gpv w S) (ta_Constant_vecv w S) (ta_Constant_opmaskv w S) (ta_Constant_virtual w S) (ta_Constant_gpp w S) (ta_Constant_vecp w S) (ta_Constant_opmaskp w S) (ta_Constant_register w S)
  | mem m =>
    show (Instr.typeAssert (.iface 245 m.agg) S 254 true).run Tryz.prog w = .ok (.tuple #[.nilIface, .bool false]) w
    exact ta_Constant_Mem w S _
  | con c =>
    obtain ⟨k, n, s⟩ := c
    cases k
    · exact ta_Constant_I8 w S _
    · exact ta_Constant_U8 w S _
    · exact ta_Constant_I16 w S _
    · exact ta_Constant_U16 w S _
    · exact ta_Constant_I32 w S _
    · exact ta_Constant_U32 w S _
    · exact ta_Constant_I64 w S _
    · exact ta_Constant_U64 w S _
    · exact ta_Constant_F32 w S _
    · exact ta_Constant_F64 w S _
    · exact ta_Constant_String w S _
  | label s => exact ta_Constant_LabelRef w S _
  | rel n => exact ta_Constant_Rel w S _
def O.memAgg : O → Value
  | .mem m => m.agg
  | _ => zeroMem
theorem O.ta_Mem (o : O) : (Instr.typeAssert o.val S 245 true).run Tryz.prog w = .ok (.tuple #[o.memAgg, .bool o.isMem]) w := by
  cases o with
  | reg r =>
    show (Instr.typeAssert (r.val) S 245 true).run Tryz.prog w = .ok (.tuple #[zeroMem, .bool false]) w
    exact R.val_cases (p := fun v => (Instr.typeAssert v S 245 true).run Tryz.prog w = .ok (.tuple #[zeroMem, .bool false]) w) r (ta_Mem_gpv w S) (ta_Mem_vecv w S) (ta_Mem_opmaskv w S) (ta_Mem_virtual w S) (ta_Mem_gpp w S) (ta_Mem_vecp w S) (ta_Mem_opmaskp w S) (ta_Mem_register w S)
  | mem m =>
    show (Instr.typeAssert (.iface 245 m.agg) S 245 true).run Tryz.prog w = .ok (.tuple #[m.agg, .bool true]) w
    exact ta_Mem_Mem w S _
  | con c =>
    obtain ⟨k, n, s⟩ := c
    cases k
    · exact ta_Mem_I8 w S _
    · exact ta_Mem_U8 w S _
    · exact ta_Mem_I16 w S _
    · exact ta_Mem_U16 w S _
    · exact ta_Mem_I32 w S _
    · exact ta_Mem_U32 w S _
    · exact ta_Mem_I64 w S _
    · exact ta_Mem_U64 w S _
    · exact ta_Mem_F32 w S _
    · exact ta_Mem_F64 w S _
    · exact ta_Mem_String w S _
  | label s => exact ta_Mem_LabelRef w S _
  | rel n => exact ta_Mem_Rel w S _
def O.labelOf : O → ByteArray
  | .label s => s
  | _ => ⟨#[]⟩
def O.isLabel : O → Bool
  | .label _ => true
  | _ => false
theorem O.ta_LabelRef (o : O) : (Instr.typeAssert o.val S 192 true).run Tryz.prog w = .ok (.tuple #[(.string o.labelOf), .bool o.isLabel]) w := by
  cases o with
  | reg r =>
    show (Instr.typeAssert (r.val) S 192 true).run Tryz.prog w = .ok (.tuple #[.string ⟨#[]⟩, .bool false]) w
    exact R.val_cases (p := fun v => (Instr.typeAssert v S 192 true).run Tryz.prog w = .ok (.tuple #[.string ⟨#[]⟩, .bool false]) w) r (ta_LabelRef_gpv w S) (ta_LabelRef_vecv w S) (ta_LabelRef_opmaskv w S) (ta_LabelRef_virtual w S) (ta_LabelRef_gpp w S) (ta_LabelRef_vecp w S) (ta_LabelRef_opmaskp w S) (ta_LabelRef_register w S)
  | mem m =>
    show (Instr.typeAssert (.iface 245 m.agg) S 192 true).run Tryz.prog w = .ok (.tuple #[.string ⟨#[]⟩, .bool false]) w
    exact ta_LabelRef_Mem w S _
  | con c =>
    obtain ⟨k, n, s⟩ := c
    cases k
    · exact ta_LabelRef_I8 w S _
    · exact ta_LabelRef_U8 w S _
    · exact ta_LabelRef_I16 w S _
    · exact ta_LabelRef_U16 w S _
    · exact ta_LabelRef_I32 w S _
    · exact ta_LabelRef_U32 w S _
    · exact ta_LabelRef_I64 w S _
    · exact ta_LabelRef_U64 w S _
    · exact ta_LabelRef_F32 w S _
    · exact ta_LabelRef_F64 w S _
    · exact ta_LabelRef_String w S _
  | label s => exact ta_LabelRef_LabelRef w S _
  | rel n => exact ta_LabelRef_Rel w S _
def O.relOf : O → Int
  | .rel n => n
  | _ => 0
def O.isRel : O → Bool
  | .rel _ => true
  | _ => false
theorem O.ta_Rel (o : O) : (Instr.typeAssert o.val S 255 true).run Tryz.prog w = .ok (.tuple #[(.int .i32 o.relOf), .bool o.isRel]) w := by
  cases o with
  | reg r =>
    show (Instr.typeAssert (r.val) S 255 true).run Tryz.prog w = .ok (.tuple #[.int .i32 0, .bool false]) w
    exact R.val_cases (p := fun v => (Instr.typeAssert v S 255 true).run Tryz.prog w = .ok (.tuple #[.int .i32 0, .bool false]) w) r (ta_Rel_gpv w S) (ta_Rel_vecv w S) (ta_Rel_opmaskv w S) (ta_Rel_virtual w S) (ta_Rel_gpp w S) (ta_Rel_vecp w S) (ta_Rel_opmaskp w S) (ta_Rel_register w S)
  | mem m =>
    show (Instr.typeAssert (.iface 245 m.agg) S 255 true).run Tryz.prog w = .ok (.tuple #[.int .i32 0, .bool false]) w
    exact ta_Rel_Mem w S _
  | con c =>
    obtain ⟨k, n, s⟩ := c
    cases k
    · exact ta_Rel_I8 w S _
    · exact ta_Rel_U8 w S _
    · exact ta_Rel_I16 w S _
    · exact ta_Rel_U16 w S _
    · exact ta_Rel_I32 w S _
    · exact ta_Rel_U32 w S _
    · exact ta_Rel_I64 w S _
    · exact ta_Rel_U64 w S _
    · exact ta_Rel_F32 w S _
    · exact ta_Rel_F64 w S _
    · exact ta_Rel_String w S _
  | label s => exact ta_Rel_LabelRef w S _
  | rel n => exact ta_Rel_Rel w S _
theorem R.ta_Physical (r : R) : (Instr.typeAssert r.val S 158 true).run Tryz.prog w = .ok (.tuple #[if r.virt then .nilIface else r.val, .bool (!r.virt)]) w := by
  obtain ⟨virt, kind, idx, spec, fb, name, info⟩ := r
  cases virt
  · show (Instr.typeAssert (wrapP kind _) S 158 true).run Tryz.prog w = .ok (.tuple #[wrapP kind _, .bool true]) w
    unfold wrapP
    split
    · exact ta_Physical_gpp w S _
    · exact ta_Physical_vecp w S _
    · exact ta_Physical_opmaskp w S _
    · exact ta_Physical_register w S _
  · show (Instr.typeAssert (wrapV kind _) S 158 true).run Tryz.prog w = .ok (.tuple #[.nilIface, .bool false]) w
    unfold wrapV
    split
    · exact ta_Physical_gpv w S _
    · exact ta_Physical_vecv w S _
    · exact ta_Physical_opmaskv w S _
    · exact ta_Physical_virtual w S _
theorem R.ta_Virtual (r : R) : (Instr.typeAssert r.val S 329 true).run Tryz.prog w = .ok (.tuple #[if r.virt then r.val else .nilIface, .bool r.virt]) w := by
  obtain ⟨virt, kind, idx, spec, fb, name, info⟩ := r
  cases virt
  · show (Instr.typeAssert (wrapP kind _) S 329 true).run Tryz.prog w = .ok (.tuple #[.nilIface, .bool false]) w
    unfold wrapP
    split
    · exact ta_Virtual_gpp w S _
    · exact ta_Virtual_vecp w S _
    · exact ta_Virtual_opmaskp w S _
    · exact ta_Virtual_register w S _
  · show (Instr.typeAssert (wrapV kind _) S 329 true).run Tryz.prog w = .ok (.tuple #[wrapV kind _, .bool true]) w
    unfold wrapV
    split
    · exact ta_Virtual_gpv w S _
    · exact ta_Virtual_vecv w S _
    · exact ta_Virtual_opmaskv w S _
    · exact ta_Virtual_virtual w S _
end
end
end Go.Proofs.YtbaihlfnbdifgaaGreat
