/- Part of the proof of a statement about pub-berthage: what its texts have in common. -/
import Derived.Deep.LoopGhost
import Derived.OwnWalk
import Derived.Maps.RangeWalk
import Derived.Test.YtjlfkgjmgghhiaaGreatP01
import Derived.Test.YtjlfkgjmgghhiaaGreatP02
namespace Go.Proofs.YtjlfkgjmgghhiaaGreat
section
open Go Go.RowKit Bth
set_option maxRecDepth 100000
def R.At (w:World) (r:R):Prop:=r.virt=false→∃ v,w.heap[r.fb]? = some (.cells #[.int .u8 (r.kind:Int),v] 247 (0,0))
theorem R.At.cell {w:World} {r:R} (h:r.At w) (hv:r.virt=false):w.cell? ⟨r.fb,0,none⟩=some (.int .u8 (r.kind:Int)):=by
 obtain ⟨v,hb⟩:=h hv
 rw [cell_of_row w r.fb 0 _ _ (0,0) hb]
 rfl
theorem R.At.fr {S:Nat→Prop} {w w':World} {r:R} (h:r.At w) (hf:Fr S w w') (hs:r.virt=false→¬S r.fb):r.At w':=fun hv=>by
 obtain ⟨v,hb⟩:=h hv
 exact ⟨v,hf.heap hb (hs hv)⟩
theorem R.At.nope {w w':World} {r:R} (h:r.At w) (hf:Fr nope w w'):r.At w':=h.fr hf fun _ x=>x
section
variable {ops:Array Oper} {rest:List Oper} {o:Oper} {a:Act} {Q:Exit→Act→World→Prop} {w:World} {t:Operand} {r:R}
theorem R.m_ID_v (r:R) (w:World) (hv:r.virt=true):∃ T v,r.val = .iface T v∧(method (Tryz.prog.types.size+Made.depth) T v "ID").run Tryz.prog w = .ok (307,r.coreV) w:=by
 obtain ⟨virt,kind,idx,spec,fb,name,info⟩:=r
 simp only at hv
 subst hv
 rw [sizeTypes]
 show ∃ T v,wrapV kind _ = .iface T v∧_
 unfold wrapV
 split
 ·exact ⟨_,_,rfl,m_gpv_ID ..⟩
 ·exact ⟨_,_,rfl,m_vecv_ID ..⟩
 ·exact ⟨_,_,rfl,m_opmaskv_ID ..⟩
 ·exact ⟨_,_,rfl,m_virtual_ID ..⟩
theorem R.m_ID_p (r:R) (w:World) (hv:r.virt=false):∃ T v,r.val = .iface T v∧(method (Tryz.prog.types.size+Made.depth) T v "ID").run Tryz.prog w = .ok (249,r.coreP) w:=by
 obtain ⟨virt,kind,idx,spec,fb,name,info⟩:=r
 simp only at hv
 subst hv
 rw [sizeTypes]
 show ∃ T v,wrapP kind _ = .iface T v∧_
 unfold wrapP
 split
 ·exact ⟨_,_,rfl,m_gpp_ID ..⟩
 ·exact ⟨_,_,rfl,m_vecp_ID ..⟩
 ·exact ⟨_,_,rfl,m_opmaskp_ID ..⟩
 ·exact ⟨_,_,rfl,m_register_ID ..⟩
theorem wpList_ID (hg:o.guard=none) (hop:o.op = .call { callee:=.invoke t "ID",args:=#[],argTypes:=#[] }) (hx:a.eval t=r.val) (ok:r.Ok) (hat:r.At w) (h:∀ w',Fr nope w w'→wpList Tryz.prog ops Q rest (a.put o.dst (.int .u32 (r.id:Int))) w'):
  wpList Tryz.prog ops Q (o :: rest) a w:=by
 cases hv:r.virt
 ·obtain ⟨T,v,hv1,hm⟩:=r.m_ID_p w hv
  refine wpList_invoke0 hg hop (hx.trans hv1) hm Tryz.func249 (by kernel_rfl) (by kernel_rfl) ((register_ID_calls w r.fb r.idx r.kind r.spec r.info r.name ok.idx ok.kind (hat.cell hv)).mono ?_)
  rintro e w' ⟨rfl,hf⟩
  have hid:r.id=0+r.kind*256+r.idx*65536:=by simp [R.id,hv]
  rw [hid] at h
  exact h w' hf
 ·obtain ⟨T,v,hv1,hm⟩:=r.m_ID_v w hv
  refine wpList_invoke0 hg hop (hx.trans hv1) hm Tryz.func307 (by kernel_rfl) (by kernel_rfl) ((virtual_ID_calls w r.idx r.kind r.spec ok.idx ok.kind).mono ?_)
  rintro e w' ⟨rfl,hf⟩
  have hid:r.id=1+r.kind*256+r.idx*65536:=by simp [R.id,hv]
  rw [hid] at h
  exact h w' hf
theorem R.m_Kind_v (r:R) (w:World) (hv:r.virt=true):∃ T v,r.val = .iface T v∧(method (Tryz.prog.types.size+Made.depth) T v "Kind").run Tryz.prog w = .ok (308,r.coreV) w:=by
 obtain ⟨virt,kind,idx,spec,fb,name,info⟩:=r
 simp only at hv
 subst hv
 rw [sizeTypes]
 show ∃ T v,wrapV kind _ = .iface T v∧_
 unfold wrapV
 split
 ·exact ⟨_,_,rfl,m_gpv_Kind ..⟩
 ·exact ⟨_,_,rfl,m_vecv_Kind ..⟩
 ·exact ⟨_,_,rfl,m_opmaskv_Kind ..⟩
 ·exact ⟨_,_,rfl,m_virtual_Kind ..⟩
theorem R.m_Kind_p (r:R) (w:World) (hv:r.virt=false):∃ T v,r.val = .iface T v∧(method (Tryz.prog.types.size+Made.depth) T v "Kind").run Tryz.prog w = .ok (251,r.coreP) w:=by
 obtain ⟨virt,kind,idx,spec,fb,name,info⟩:=r
 simp only at hv
 subst hv
 rw [sizeTypes]
 show ∃ T v,wrapP kind _ = .iface T v∧_
 unfold wrapP
 split
 ·exact ⟨_,_,rfl,m_gpp_Kind ..⟩
 ·exact ⟨_,_,rfl,m_vecp_Kind ..⟩
 ·exact ⟨_,_,rfl,m_opmaskp_Kind ..⟩
 ·exact ⟨_,_,rfl,m_register_Kind ..⟩
theorem wpList_Kind (hg:o.guard=none) (hop:o.op = .call { callee:=.invoke t "Kind",args:=#[],argTypes:=#[] }) (hx:a.eval t=r.val) (hat:r.At w) (h:∀ w',Fr nope w w'→wpList Tryz.prog ops Q rest (a.put o.dst (.int .u8 (r.kind:Int))) w'):
  wpList Tryz.prog ops Q (o :: rest) a w:=by
 cases hv:r.virt
 ·obtain ⟨T,v,hv1,hm⟩:=r.m_Kind_p w hv
  refine wpList_invoke0 hg hop (hx.trans hv1) hm Tryz.func251 (by kernel_rfl) (by kernel_rfl) ((register_Kind_calls w r.fb r.idx r.kind r.spec r.info r.name (hat.cell hv)).mono ?_)
  rintro e w' ⟨rfl,hf⟩
  exact h w' hf
 ·obtain ⟨T,v,hv1,hm⟩:=r.m_Kind_v w hv
  refine wpList_invoke0 hg hop (hx.trans hv1) hm Tryz.func308 (by kernel_rfl) (by kernel_rfl) ((virtual_Kind_calls w r.idx r.kind r.spec).mono ?_)
  rintro e w' ⟨rfl,hf⟩
  exact h w' hf
theorem R.m_Mask_v (r:R) (w:World) (hv:r.virt=true):∃ T v,r.val = .iface T v∧(method (Tryz.prog.types.size+Made.depth) T v "Mask").run Tryz.prog w = .ok (223,.int .u16 (r.spec:Int)) w:=by
 obtain ⟨virt,kind,idx,spec,fb,name,info⟩:=r
 simp only at hv
 subst hv
 rw [sizeTypes]
 show ∃ T v,wrapV kind _ = .iface T v∧_
 unfold wrapV
 split
 ·exact ⟨_,_,rfl,m_gpv_Mask ..⟩
 ·exact ⟨_,_,rfl,m_vecv_Mask ..⟩
 ·exact ⟨_,_,rfl,m_opmaskv_Mask ..⟩
 ·exact ⟨_,_,rfl,m_virtual_Mask ..⟩
theorem R.m_Mask_p (r:R) (w:World) (hv:r.virt=false):∃ T v,r.val = .iface T v∧(method (Tryz.prog.types.size+Made.depth) T v "Mask").run Tryz.prog w = .ok (223,.int .u16 (r.spec:Int)) w:=by
 obtain ⟨virt,kind,idx,spec,fb,name,info⟩:=r
 simp only at hv
 subst hv
 rw [sizeTypes]
 show ∃ T v,wrapP kind _ = .iface T v∧_
 unfold wrapP
 split
 ·exact ⟨_,_,rfl,m_gpp_Mask ..⟩
 ·exact ⟨_,_,rfl,m_vecp_Mask ..⟩
 ·exact ⟨_,_,rfl,m_opmaskp_Mask ..⟩
 ·exact ⟨_,_,rfl,m_register_Mask ..⟩
theorem wpList_Mask (hg:o.guard=none) (hop:o.op = .call { callee:=.invoke t "Mask",args:=#[],argTypes:=#[] }) (hx:a.eval t=r.val) (h:∀ w',Fr nope w w'→wpList Tryz.prog ops Q rest (a.put o.dst (.int .u16 (r.spec:Int))) w'):
  wpList Tryz.prog ops Q (o :: rest) a w:=by
 cases hv:r.virt
 ·obtain ⟨T,v,hv1,hm⟩:=r.m_Mask_p w hv
  refine wpList_invoke0 hg hop (hx.trans hv1) hm Tryz.func223 (by kernel_rfl) (by kernel_rfl) ((Mask_calls w r.spec).mono ?_)
  rintro e w' ⟨rfl,hf⟩
  exact h w' (hf ▸ Fr.refl _ _)
 ·obtain ⟨T,v,hv1,hm⟩:=r.m_Mask_v w hv
  refine wpList_invoke0 hg hop (hx.trans hv1) hm Tryz.func223 (by kernel_rfl) (by kernel_rfl) ((Mask_calls w r.spec).mono ?_)
  rintro e w' ⟨rfl,hf⟩
  exact h w' (hf ▸ Fr.refl _ _)
theorem R.m_spec_v (r:R) (w:World) (hv:r.virt=true):∃ T v,r.val = .iface T v∧(method (Tryz.prog.types.size+Made.depth) T v "pub-berthage/pub/avo/reg.spec").run Tryz.prog w = .ok (312,r.coreV) w:=by
 obtain ⟨virt,kind,idx,spec,fb,name,info⟩:=r
 simp only at hv
 subst hv
 rw [sizeTypes]
 show ∃ T v,wrapV kind _ = .iface T v∧_
 unfold wrapV
 split
 ·exact ⟨_,_,rfl,m_gpv_spec ..⟩
 ·exact ⟨_,_,rfl,m_vecv_spec ..⟩
 ·exact ⟨_,_,rfl,m_opmaskv_spec ..⟩
 ·exact ⟨_,_,rfl,m_virtual_spec ..⟩
theorem R.m_spec_p (r:R) (w:World) (hv:r.virt=false):∃ T v,r.val = .iface T v∧(method (Tryz.prog.types.size+Made.depth) T v "pub-berthage/pub/avo/reg.spec").run Tryz.prog w = .ok (255,r.coreP) w:=by
 obtain ⟨virt,kind,idx,spec,fb,name,info⟩:=r
 simp only at hv
 subst hv
 rw [sizeTypes]
 show ∃ T v,wrapP kind _ = .iface T v∧_
 unfold wrapP
 split
 ·exact ⟨_,_,rfl,m_gpp_spec ..⟩
 ·exact ⟨_,_,rfl,m_vecp_spec ..⟩
 ·exact ⟨_,_,rfl,m_opmaskp_spec ..⟩
 ·exact ⟨_,_,rfl,m_register_spec ..⟩
theorem wpList_spec (hg:o.guard=none) (hop:o.op = .call { callee:=.invoke t "pub-berthage/pub/avo/reg.spec",args:=#[],argTypes:=#[] }) (hx:a.eval t=r.val) (h:∀ w',Fr nope w w'→wpList Tryz.prog ops Q rest (a.put o.dst (.int .u16 (r.spec:Int))) w'):
  wpList Tryz.prog ops Q (o :: rest) a w:=by
 cases hv:r.virt
 ·obtain ⟨T,v,hv1,hm⟩:=r.m_spec_p w hv
  refine wpList_invoke0 hg hop (hx.trans hv1) hm Tryz.func255 (by kernel_rfl) (by kernel_rfl) ((register_spec_calls w r.fb r.idx r.spec r.info r.name).mono ?_)
  rintro e w' ⟨rfl,hf⟩
  exact h w' hf
 ·obtain ⟨T,v,hv1,hm⟩:=r.m_spec_v w hv
  refine wpList_invoke0 hg hop (hx.trans hv1) hm Tryz.func312 (by kernel_rfl) (by kernel_rfl) ((virtual_spec_calls w r.idx r.kind r.spec).mono ?_)
  rintro e w' ⟨rfl,hf⟩
  exact h w' hf
theorem R.m_VirtualIndex_v (r:R) (w:World) (hv:r.virt=true):∃ T v,r.val = .iface T v∧(method (Tryz.prog.types.size+Made.depth) T v "VirtualIndex").run Tryz.prog w = .ok (309,r.coreV) w:=by
 obtain ⟨virt,kind,idx,spec,fb,name,info⟩:=r
 simp only at hv
 subst hv
 rw [sizeTypes]
 show ∃ T v,wrapV kind _ = .iface T v∧_
 unfold wrapV
 split
 ·exact ⟨_,_,rfl,m_gpv_VirtualIndex ..⟩
 ·exact ⟨_,_,rfl,m_vecv_VirtualIndex ..⟩
 ·exact ⟨_,_,rfl,m_opmaskv_VirtualIndex ..⟩
 ·exact ⟨_,_,rfl,m_virtual_VirtualIndex ..⟩
theorem wpList_VirtualIndex (hg:o.guard=none) (hop:o.op = .call { callee:=.invoke t "VirtualIndex",args:=#[],argTypes:=#[] }) (hx:a.eval t=r.val) (hv:r.virt=true) (h:∀ w',Fr nope w w'→wpList Tryz.prog ops Q rest (a.put o.dst (.int .u16 (r.idx:Int))) w'):
  wpList Tryz.prog ops Q (o :: rest) a w:=by
 obtain ⟨T,v,hv1,hm⟩:=r.m_VirtualIndex_v w hv
 refine wpList_invoke0 hg hop (hx.trans hv1) hm Tryz.func309 (by kernel_rfl) (by kernel_rfl) ((virtual_VI_calls w r.idx r.kind r.spec).mono ?_)
 rintro e w' ⟨rfl,hf⟩
 exact h w' hf
theorem R.m_PhysicalIndex_p (r:R) (w:World) (hv:r.virt=false):∃ T v,r.val = .iface T v∧(method (Tryz.prog.types.size+Made.depth) T v "PhysicalIndex").run Tryz.prog w = .ok (252,r.coreP) w:=by
 obtain ⟨virt,kind,idx,spec,fb,name,info⟩:=r
 simp only at hv
 subst hv
 rw [sizeTypes]
 show ∃ T v,wrapP kind _ = .iface T v∧_
 unfold wrapP
 split
 ·exact ⟨_,_,rfl,m_gpp_PhysicalIndex ..⟩
 ·exact ⟨_,_,rfl,m_vecp_PhysicalIndex ..⟩
 ·exact ⟨_,_,rfl,m_opmaskp_PhysicalIndex ..⟩
 ·exact ⟨_,_,rfl,m_register_PhysicalIndex ..⟩
theorem wpList_PhysicalIndex (hg:o.guard=none) (hop:o.op = .call { callee:=.invoke t "PhysicalIndex",args:=#[],argTypes:=#[] }) (hx:a.eval t=r.val) (hv:r.virt=false) (h:∀ w',Fr nope w w'→wpList Tryz.prog ops Q rest (a.put o.dst (.int .u16 (r.idx:Int))) w'):
  wpList Tryz.prog ops Q (o :: rest) a w:=by
 obtain ⟨T,v,hv1,hm⟩:=r.m_PhysicalIndex_p w hv
 refine wpList_invoke0 hg hop (hx.trans hv1) hm Tryz.func252 (by kernel_rfl) (by kernel_rfl) ((register_PI_calls w r.fb r.idx r.spec r.info r.name).mono ?_)
 rintro e w' ⟨rfl,hf⟩
 exact h w' hf
theorem R.m_Info_p (r:R) (w:World) (hv:r.virt=false):∃ T v,r.val = .iface T v∧(method (Tryz.prog.types.size+Made.depth) T v "Info").run Tryz.prog w = .ok (250,r.coreP) w:=by
 obtain ⟨virt,kind,idx,spec,fb,name,info⟩:=r
 simp only at hv
 subst hv
 rw [sizeTypes]
 show ∃ T v,wrapP kind _ = .iface T v∧_
 unfold wrapP
 split
 ·exact ⟨_,_,rfl,m_gpp_Info ..⟩
 ·exact ⟨_,_,rfl,m_vecp_Info ..⟩
 ·exact ⟨_,_,rfl,m_opmaskp_Info ..⟩
 ·exact ⟨_,_,rfl,m_register_Info ..⟩
theorem wpList_Info (hg:o.guard=none) (hop:o.op = .call { callee:=.invoke t "Info",args:=#[],argTypes:=#[] }) (hx:a.eval t=r.val) (hv:r.virt=false) (h:∀ w',Fr nope w w'→wpList Tryz.prog ops Q rest (a.put o.dst (.int .u8 (r.info:Int))) w'):
  wpList Tryz.prog ops Q (o :: rest) a w:=by
 obtain ⟨T,v,hv1,hm⟩:=r.m_Info_p w hv
 refine wpList_invoke0 hg hop (hx.trans hv1) hm Tryz.func250 (by kernel_rfl) (by kernel_rfl) ((register_Info_calls w r.fb r.idx r.spec r.info r.name).mono ?_)
 rintro e w' ⟨rfl,hf⟩
 exact h w' hf
end
end
section
open Go Go.RowKit Go.MapKept Bth
open Go.ChangeMaps (setBlock)
set_option maxRecDepth 100000
def MaskO (w:World) (bo:Option Nat) (F:Nat→Nat):Prop:=(∃ ks,MapO w bo idV ks fun k=>maskV (F k))∧∀ k,F k < 65536
theorem idInj:∀ a b:Nat,idV a=idV b→a=b:=fun a b h=>by simp [idV] at h;omega
theorem MaskAt.o {w:World} {b:Nat} {F:Nat→Nat} (h:MaskAt w b F):MaskO w (some b) F:=h
theorem MaskAt.fr {S:Nat→Prop} {w w':World} {b:Nat} {F:Nat→Nat} (h:MaskAt w b F) (hf:Fr S w w') (hs:¬S b):MaskAt w' b F:=by
 obtain ⟨⟨ks,hm⟩,hF⟩:=h
 exact ⟨⟨ks,hm.fr hf hs⟩,hF⟩
theorem MaskAt.lt {w:World} {b:Nat} {F:Nat→Nat} (h:MaskAt w b F):b < w.heap.size:=by
 obtain ⟨⟨ks,hm⟩,hF⟩:=h
 exact hm.lt
theorem maskV_ne {m:Nat} : maskV m≠none↔m≠0:=by unfold maskV;split<;>simp_all
theorem maskV_some {m:Nat} {v:Value} (h:maskV m=some v):v = .int .u16 (m:Int)∧m≠0:=by
 unfold maskV at h
 split at h
 ·cases h
 ·rename_i hm
  simp only [Option.some.injEq] at h
  exact ⟨h.symm,hm⟩
theorem or_of_and {a b:Nat} (h:a &&& b=b):a ||| b=a:=by
 apply Nat.eq_of_testBit_eq
 intro i
 have:=congrArg (fun x=>x.testBit i) h
 simp only [Nat.testBit_and] at this
 rw [Nat.testBit_or]
 cases h1:a.testBit i<;>cases h2:b.testBit i<;>simp_all
def UpdInv (F G F1:Nat→Nat) (todo:List Nat) (ch:Bool):Prop:=
 todo.Nodup∧(∀ k,F1 k=if k∈todo then F k else F k ||| G k)∧(ch=true↔∃ k,k∉todo∧F k &&& G k≠G k)
theorem UpdInv.start {F G:Nat→Nat} {ks:List Nat} (hn:ks.Nodup) (hks:∀ k,k∈ks↔G k≠0):UpdInv F G F ks false:=by
 have h0:∀ k,k∉ks→G k=0:=fun k hk=>Classical.byContradiction fun h=>hk ((hks k).2 h)
 refine ⟨hn,fun k=>?_,⟨fun h=>by simp at h,fun ⟨k,h1,h2⟩=>?_⟩⟩
 ·by_cases h:k∈ks
  ·rw [if_pos h]
  ·rw [if_neg h,h0 k h];simp
 ·rw [h0 k h1] at h2;simp at h2
theorem UpdInv.at_ {F G F1:Nat→Nat} {todo:List Nat} {ch:Bool} (h:UpdInv F G F1 todo ch) {k:Nat} (hk:k∈todo):F1 k=F k:=by rw [h.2.1,if_pos hk]
theorem UpdInv.stay {F G F1:Nat→Nat} {todo:List Nat} {ch:Bool} (h:UpdInv F G F1 todo ch) {k:Nat} (hk:k∈todo) (he:F1 k &&& G k=G k):UpdInv F G F1 (todo.erase k) ch:=by
 have hF:=h.at_ hk
 rw [hF] at he
 obtain ⟨hn,h1,h2⟩:=h
 refine ⟨hn.erase k,fun x=>?_,h2.trans ⟨fun ⟨x,hx,hh⟩=>⟨x,fun hm=>hx (List.mem_of_mem_erase hm),hh⟩,fun ⟨x,hx,hh⟩=>⟨x,fun hm=>?_,hh⟩⟩⟩
 ·by_cases e:x=k
  ·subst e
   rw [hF,if_neg (fun hm=>((List.Nodup.mem_erase_iff hn).1 hm).1 rfl),or_of_and he]
  ·rw [h1]
   have:x∈todo.erase k↔x∈todo:=by rw [List.Nodup.mem_erase_iff hn];exact ⟨fun h=>h.2,fun h=>⟨e,h⟩⟩
   simp only [this]
 ·by_cases e:x=k
  ·subst e;exact hh he
  ·exact hx ((List.Nodup.mem_erase_iff hn).2 ⟨e,hm⟩)
theorem UpdInv.turn {F G F1:Nat→Nat} {todo:List Nat} {ch:Bool} (h:UpdInv F G F1 todo ch) {k:Nat} (hk:k∈todo) (he:F1 k &&& G k≠G k):UpdInv F G (orM F1 k (G k)) (todo.erase k) true:=by
 have hF:=h.at_ hk
 rw [hF] at he
 obtain ⟨hn,h1,h2⟩:=h
 refine ⟨hn.erase k,fun x=>?_,⟨fun _=>⟨k,fun hm=>((List.Nodup.mem_erase_iff hn).1 hm).1 rfl,he⟩,fun _=>rfl⟩⟩
 unfold orM
 by_cases e:x=k
 ·subst e
  rw [if_pos rfl,hF,if_neg (fun hm=>((List.Nodup.mem_erase_iff hn).1 hm).1 rfl)]
 ·rw [if_neg e,h1]
  have:x∈todo.erase k↔x∈todo:=by rw [List.Nodup.mem_erase_iff hn];exact ⟨fun h=>h.2,fun h=>⟨e,h⟩⟩
  simp only [this]
theorem UpdInv.done {F G F1:Nat→Nat} {ch:Bool} (h:UpdInv F G F1 [] ch):F1=(fun k=>F k ||| G k)∧(ch=true↔∃ k,F k &&& G k≠G k):=by
 obtain ⟨_,h1,h2⟩:=h
 exact ⟨by funext k;rw [h1];simp,h2.trans ⟨fun ⟨k,_,h⟩=>⟨k,h⟩,fun ⟨k,h⟩=>⟨k,by simp,h⟩⟩⟩
def UpdPost (b:Nat) (F G:Nat→Nat) (w:World) (e:Ending) (w':World):Prop:=
 ∃ ch:Bool,e = .returned (.bool ch)∧(ch=true↔∃ k,F k &&& G k≠G k)∧MaskAt w' b (fun k=>F k ||| G k)∧Fr (fun x=>x=b) w w'
set_option maxHeartbeats 1000000 in
theorem Update_calls (w:World) (b:Nat) (F:Nat→Nat) (bo:Option Nat) (G:Nat→Nat) (hb:MaskAt w b F) (ho:MaskO w bo G) (hne:bo≠some b):
  Calls Tryz.prog 90 #[.map (some b),.map bo] w (UpdPost b F G w):=by
 obtain ⟨⟨ks,hO⟩,hG⟩:=ho
 have hks:∀ k,k∈ks↔G k≠0:=fun k=>hO.mem_iff.trans maskV_ne
 have hI0:=UpdInv.start (F:=F) hO.nodup hks
 have hbl:=hb.lt
 clear hks
 go_enter Tryz.func90,Tryz.ntmps90
 go_wp2_with (refine wpList_rangeO rfl rfl rfl hO idInj maskSetT ?_;intro w0 hrg0 hf0 hs0)
 go_frame
 go_loopg [5] ks.length (fun n c5 wr=>∃ (todo:List Nat) (F1:Nat→Nat) (ch:Bool),RangeO wr w.heap.size bo idV ks (fun k=>maskV (G k)) todo∧MaskAt wr b F1∧UpdInv F G F1 todo ch∧c5 = .bool ch∧Fr (fun x=>x=b) w wr∧todo.length=n)
 case atStart=>exact ⟨ks,F,false,hrg0,hb.fr hf0 (fun x=>x),hI0,rfl,hf0.of_nope,rfl⟩
 case round=>
  obtain ⟨todo,F1,ch,hrg,hM,hI,rfl,hfr,rfl⟩:=hrel
  go_wp2_with (refine wpList_nextO rfl rfl rfl hrg idInj ?_ ?_)
  ·intro h0
   subst h0
   obtain ⟨rfl,hch⟩:=hI.done
   have H:=Lib.hid hch
   clear hch
   go_wp2
   go_ret
   exact ⟨ch,rfl,H.out,hM,hfr⟩
  ·intro k v w1 hk hkk hv hrg1 hf1 hs1 hen
   obtain ⟨rfl,hGk⟩:=maskV_some hv
   have hM1:=hM.fr hf1 (by omega)
   have hlen:(todo.erase k).length < todo.length:=by rw [List.length_erase_of_mem hk];have:=List.length_pos_of_mem hk;omega
   have hfr1:Fr (fun x=>x=b) w w1:=hfr.then_new hf1 (fun x hx=>by omega)
   have hb':∀ c,bo=some c→c≠b:=fun c hc e=>hne (by rw [hc,e])
   clear hs1
   unfold idV at hen
   by_cases he:F1 k &&& G k=G k
   ·have hI1:=hI.stay hk he
    have he':=Lib.hid he
    clear he hI hv
    go_wp2_with (go_at_call 128;refine (Add_no _ b F1 k (G k) hM1 (hG k) he'.out).mono ?_;rintro e w2 ⟨rfl,rfl⟩)
    go_roundg (todo.erase k).length
    case measure=>exact hlen
    case rel=>exact ⟨_,_,_,hrg1,hM1,hI1,rfl,hfr1,rfl⟩
   ·have hI1:=hI.turn hk he
    have he':=Lib.hid he
    clear he hI hv
    go_wp2_with (go_at_call 128;refine (Add_yes _ b F1 k (G k) hM1 (hG k) he'.out).mono ?_;rintro e w2 ⟨rfl,hM2,hf2,hs2⟩)
    go_roundg (todo.erase k).length
    case measure=>exact hlen
    case rel=>exact ⟨_,_,_,hrg1.fr hf2 (by omega) hb',hM2,hI1,rfl,hfr1.then hf2,rfl⟩
theorem NewEmpty_calls (w:World):Calls Tryz.prog 89 #[] w fun e w'=>e = .returned (.map (some w.heap.size))∧MaskAt w' w.heap.size (fun _=>0)∧Fr nope w w'∧w'.heap.size=w.heap.size+1:=by
 have hmm:=@run_makeMap Tryz.prog
 go_enter Tryz.func89,Tryz.ntmps89
 go_wp2
 go_ret
 exact ⟨rfl,⟨⟨[],MapAt.made w idV⟩,fun _=>by simp⟩,(Fr.refl _ _).alloc _,by simp⟩
theorem or_ne {a b:Nat} (h:a &&& b≠b):b≠0:=by rintro rfl;simp at h
theorem Add_calls (w:World) (b:Nat) (F:Nat→Nat) (id mask:Nat) (hb:MaskAt w b F) (hm:mask < 65536):
  Calls Tryz.prog 128 #[.map (some b),.int .u32 (id:Int),.int .u16 (mask:Int)] w fun e w'=>e = .returned (.bool (decide (F id &&& mask≠mask)))∧MaskAt w' b (orM F id mask)∧Fr (fun x=>x=b) w w':=by
 by_cases h:F id &&& mask=mask
 ·refine (Add_no w b F id mask hb hm h).mono ?_
  rintro e w' ⟨rfl,rfl⟩
  have e1:orM F id mask=F:=by
   funext x;unfold orM;split
   ·rename_i hx;subst hx;exact or_of_and h
   ·rfl
  exact ⟨by simp [h],by rw [e1];exact hb,Fr.refl _ _⟩
 ·refine (Add_yes w b F id mask hb hm h).mono ?_
  rintro e w' ⟨rfl,h1,h2,h3⟩
  exact ⟨by simp [h],h1,h2⟩
end
section
open Go Go.RowKit Go.MapKept Bth
open Go.ChangeMaps (setBlock)
set_option maxRecDepth 100000
theorem AddRegister_calls (w:World) (b:Nat) (F:Nat→Nat) (r:R) (hb:MaskAt w b F) (ok:r.Ok) (hat:r.At w):
  Calls Tryz.prog 125 #[.map (some b),r.val] w fun e w'=>(∃ ch:Bool,e = .returned (.bool ch))∧MaskAt w' b (orM F r.id r.spec)∧Fr (fun x=>x=b) w w':=by
 have hbl:=hb.lt
 go_enter Tryz.func125,Tryz.ntmps125
 go_wp2_with (first
  | (refine wpList_ID rfl rfl rfl ok hat ?_;intro w1 hf1)
  | (refine wpList_Mask rfl rfl rfl ?_;intro w2 hf2)
  | (go_at_call 128;refine (Add_calls _ b F r.id r.spec ?_ ok.spec).mono ?_;exact (hb.fr hf1 (fun x=>x)).fr hf2 (fun x=>x);rintro e w3 ⟨rfl,hM,hf3⟩))
 go_ret
 exact ⟨⟨_,rfl⟩,hM,(hf1.then hf2).of_nope.then hf3⟩
def ofRegs (rs:List R):Nat→Nat:=rs.foldl (fun F r=>orM F r.id r.spec) (fun _=>0)
theorem ofRegs_take {rs:List R} {k:Nat} {r:R} (h:rs[k]? = some r):ofRegs (rs.take (k+1))=orM (ofRegs (rs.take k)) r.id r.spec:=by
 unfold ofRegs
 rw [List.take_add_one,h]
 simp
def RegsAt (w:World) (A:Option Addr) (rs:List R):Prop:=Sl w A rs.length (rs.map R.val)∧∀ r∈rs,r.Ok∧r.At w
theorem RegsAt.nope {w w':World} {A:Option Addr} {rs:List R} (h:RegsAt w A rs) (hf:Fr nope w w'):RegsAt w' A rs:=⟨h.1.nope hf,fun r hr=>⟨(h.2 r hr).1,(h.2 r hr).2.nope hf⟩⟩
theorem RegsAt.at_ {w:World} {A:Option Addr} {rs:List R} (h:RegsAt w A rs) {k:Nat} (hk:k < rs.length):∃ b off r,A=some ⟨b,off,none⟩∧b < w.heap.size∧rs[k]? = some r∧w.cell? ⟨b,off+k,none⟩=some r.val∧r.Ok∧r.At w:=by
 obtain ⟨b,off,u,e,hb,hu,hc⟩:=h.1.at_ hk
 have hr:=List.getElem?_eq_getElem hk
 rw [List.getElem?_map,hr] at hu
 simp only [Option.map_some,Option.some.injEq] at hu
 subst hu
 have:=h.2 rs[k] (List.getElem_mem hk)
 exact ⟨b,off,rs[k],e,hb,hr,hc,this.1,this.2⟩
set_option maxHeartbeats 1000000 in
theorem FromRegs_calls (w:World) (A:Option Addr) (cap:Nat) (rs:List R) (hr:RegsAt w A rs) (hl:rs.length < 9223372036854775807):
  Calls Tryz.prog 87 #[.slice A rs.length cap] w fun e w'=>e = .returned (.map (some w.heap.size))∧MaskAt w' w.heap.size (ofRegs rs)∧Fr nope w w':=by
 go_enter Tryz.func87,Tryz.ntmps87
 go_wp2_with (go_at_call 89;refine (NewEmpty_calls _).mono ?_;rintro e w0 ⟨rfl,hM0,hf0,hs0⟩)
 clear hs0
 go_loopg [9] rs.length (fun n c9 wr=>∃ k:Nat,k≤rs.length∧c9 = .int .i64 (k:Int)∧MaskAt wr w.heap.size (ofRegs (rs.take k))∧Fr nope w wr∧n=rs.length - k)
 case atStart=>exact ⟨0,Nat.zero_le _,rfl,hM0,hf0,rfl⟩
 case round=>
  obtain ⟨k,hk,rfl,hM,hf,rfl⟩:=hrel
  by_cases hlt:k < rs.length
  ·obtain ⟨b,off,r,rfl,hbl,hrk,hc,ok,hat⟩:=(hr.nope hf).at_ hlt
   have hT:=Lib.hid (ofRegs_take hrk)
   clear hrk hr
   go_wp2_with (go_at_call 125;refine (AddRegister_calls _ _ _ r hM ok hat).mono ?_;rintro e w2 ⟨⟨ch,rfl⟩,hM2,hf2⟩)
   go_roundg (rs.length - (k+1))
   case measure=>omega
   case rel=>exact ⟨k+1,by omega,by go_num,hT.out ▸ hM2,hf.then_new hf2 (fun x hx=>by omega),rfl⟩
  ·go_wp2
   go_ret
   have e:rs.take k=rs:=List.take_of_length_le (by omega)
   rw [e] at hM
   exact ⟨rfl,hM,hf⟩
end
end Go.Proofs.YtjlfkgjmgghhiaaGreat
