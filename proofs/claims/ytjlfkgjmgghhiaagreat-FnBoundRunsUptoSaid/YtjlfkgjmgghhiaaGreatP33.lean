/- Part of the proof of a statement about pub-berthage: what its texts have in common. -/
import Derived.Test.YtjlfkgjmgghhiaaGreatP31
import Derived.Test.YtjlfkgjmgghhiaaGreatP32
namespace Go.Proofs.YtjlfkgjmgghhiaaGreat
section
open Go Go.RowKit Go.MapKept Bth
set_option maxRecDepth 100000
def ofPairs (l:List (Nat × Nat)):Nat→Option Nat:=l.foldl (fun f p x=>if x=p.1 then some p.2 else f x) fun _=>none
theorem ofPairs_take {l:List (Nat × Nat)} {k:Nat} {p:Nat × Nat} (h:l[k]? = some p):ofPairs (l.take (k+1))=fun x=>if x=p.1 then some p.2 else ofPairs (l.take k) x:=by
 unfold ofPairs
 rw [List.take_add_one,h,List.foldl_append]
 rfl
def PairsAt (w:World) (A:Option Addr) (l:List (Nat × Nat)):Prop:=0 < l.length→∃ b,A=some ⟨b,0,none⟩∧b < w.heap.size∧∀ (k:Nat) (p:Nat × Nat),l[k]? = some p→w.rangeAt b (k*2) (pairV p)
theorem PairsAt.fr {w w':World} {A:Option Addr} {l:List (Nat × Nat)} (h:PairsAt w A l) (hf:Fr nope w w'):PairsAt w' A l:=fun hl=>by
 obtain ⟨b,h1,h2,h3⟩:=h hl
 exact ⟨b,h1,Nat.lt_of_lt_of_le h2 hf.size,fun k p hk j v hv=>hf.cell (h3 k p hk j v hv) (fun x=>x)⟩
theorem flat_at {l:List (Nat × Nat)} : ∀ {k:Nat} {p:Nat × Nat},l[k]? = some p→∀ j v,(pairV p)[j]? = some v→(l.flatMap pairV)[k*2+j]? = some v:=by
 induction l with
 | nil=>intro k p h;simp at h
 | cons q l ih=>
  intro k p h j v hv
  have hlen:(pairV q).length=2:=rfl
  cases k with
  | zero=>
   simp only [List.getElem?_cons_zero,Option.some.injEq] at h
   subst h
   have hj:j < 2:=by have:=(List.getElem?_eq_some_iff.1 hv).1;simpa [pairV] using this
   rw [List.flatMap_cons,Nat.zero_mul,Nat.zero_add,List.getElem?_append_left (by rw [hlen];exact hj)]
   exact hv
  | succ k=>
   rw [List.getElem?_cons_succ] at h
   rw [List.flatMap_cons,List.getElem?_append_right (by rw [hlen];omega),hlen,show (k+1)*2+j - 2=k*2+j from by omega]
   exact ih h j v hv
theorem PairsAt.of {w:World} {base:Nat} {A:Option Addr} {c:Nat} {l:List (Nat × Nat)} (h:w.ownsRow base 152 2 (.slice A l.length c) l.length (l.flatMap pairV)):PairsAt w A l:=fun hl=>by
 obtain ⟨g,hA,hg,hc⟩:=own_cells h hl
 exact ⟨g,hA,hg,fun k p hk j v hv=>hc _ v (flat_at hk j v hv)⟩
set_option maxHeartbeats 1000000 in
theorem allocation_calls (w:World) (A:Option Addr) (c:Nat) (l:List (Nat × Nat)) (h:PairsAt w A l) (hl:l.length≤1000000000):
  Calls Tryz.prog 68 #[.slice A l.length c] w fun e w'=>e = .returned (.map (some w.heap.size))∧IdMap w' w.heap.size (ofPairs l)∧Fr nope w w':=by
 go_enter Tryz.func68,Tryz.ntmps68
 go_wp2_with (go_at_call 109;refine (NewEmptyAl_calls _).mono ?_;rintro e w5 ⟨rfl,rfl⟩)
 go_loopg [9] l.length (fun n c9 wr=>∃ k:Nat,k≤l.length∧c9 = .int .i64 (k:Int)∧IdMap wr w.heap.size (ofPairs (l.take k))∧Fr nope w wr∧n=l.length - k)
 case atStart=>exact ⟨0,Nat.zero_le _,rfl,⟨[],MapAt.made w idV⟩,(Fr.refl _ _).alloc _,rfl⟩
 case round=>
  obtain ⟨k,hk,rfl,hM,hf,rfl⟩:=hrel
  by_cases hlt:k < l.length
  ·obtain ⟨b,rfl,hbl,hc⟩:=h.fr hf (by omega)
   have hpk:=List.getElem?_eq_getElem hlt
   generalize l[k]=p at hpk
   have hck:wr.rangeAt b (k*2) [.int .u32 (p.1:Int),.int .u32 (p.2:Int)]:=hc k p hpk
   have hT:=ofPairs_take hpk
   replace hT:=Lib.hid hT
   replace hpk:=Lib.hid hpk
   obtain ⟨w3,hu,hM3,hf3,hs3⟩:=(hM.fr ((Fr.refl nope wr).alloc (.cells #[.int .u32 (p.1:Int),.int .u32 (p.2:Int)] 152)) (fun x=>x)).put p.1 p.2
   have hMl:=hM.lt
   replace hs3:=Lib.hid hs3
   go_wp2_with (first
    | (refine wpList_load_mid rfl _ _ rfl b (k*2) rfl [.int .u32 (p.1:Int),.int .u32 (p.2:Int)] _ hck Tryz.underlying152 rfl (by kernel_rfl) ?_))
   go_roundg (l.length - (k+1))
   case measure=>omega
   case rel=>exact ⟨k+1,by omega,by go_num,by rw [hT.out];exact hM3,(hf.alloc _).then_new hf3 (fun x hx e=>by omega),rfl⟩
  ·have hke:k=l.length:=by omega
   subst hke
   rw [List.take_length] at hM
   go_wp2
   go_ret
   exact ⟨rfl,hM,hf⟩
end
section
open Go Go.RowKit Bth
set_option maxRecDepth 100000
def CK.num:CK→Int
 | .I8=>1
 | .U8=>2
 | .I16=>3
 | .U16=>4
 | .I32=>5
 | .U32=>6
 | .I64=>7
 | .U64=>8
 | .F32=>9
 | .F64=>10
 | .String=>11
def C.bits (c:C):Int:=
 match c.k with
 | .I8=>c.n % 256
 | .U8=>IntKind.u64.wrap c.n
 | .I16=>IntKind.u64.wrap (IntKind.u16.wrap c.n)
 | .U16=>IntKind.u64.wrap c.n
 | .I32=>c.n % 4294967296
 | .U32=>IntKind.u64.wrap c.n
 | .I64=>IntKind.u64.wrap c.n
 | .U64=>c.n
 | .F32=>IntKind.u64.wrap (c.n.toNat:Int)
 | .F64=>(c.n.toNat:Int)
 | .String=>0
def C.text (c:C):ByteArray:=match c.k with
 | .String=>c.s
 | _=>⟨#[]⟩
def C.pc (c:C):Value:=.agg #[.int .i64 c.k.num,.int .u64 c.bits,.string c.text]
theorem run_b32 (n:Nat) (W:World):(callFunc 216 #[.float .f32 n]).run Tryz.prog W = .ok (.value (.int .u32 n)) W:=by kernel_rfl
theorem run_b64 (n:Nat) (W:World):(callFunc 217 #[.float .f64 n]).run Tryz.prog W = .ok (.value (.int .u64 n)) W:=by kernel_rfl
theorem tc_I8_I8 (W:World) (x:Value):(Instr.typeAssert (.iface 352 x) 298 352 true).run Tryz.prog W = .ok (.tuple #[x,.bool true]) W:=by kernel_rfl
theorem tc_I8_U8 (W:World) (x:Value):(Instr.typeAssert (.iface 353 x) 298 352 true).run Tryz.prog W = .ok (.tuple #[.int .i8 0,.bool false]) W:=by kernel_rfl
theorem tc_U8_U8 (W:World) (x:Value):(Instr.typeAssert (.iface 353 x) 298 353 true).run Tryz.prog W = .ok (.tuple #[x,.bool true]) W:=by kernel_rfl
theorem tc_I8_I16 (W:World) (x:Value):(Instr.typeAssert (.iface 355 x) 298 352 true).run Tryz.prog W = .ok (.tuple #[.int .i8 0,.bool false]) W:=by kernel_rfl
theorem tc_U8_I16 (W:World) (x:Value):(Instr.typeAssert (.iface 355 x) 298 353 true).run Tryz.prog W = .ok (.tuple #[.int .u8 0,.bool false]) W:=by kernel_rfl
theorem tc_I16_I16 (W:World) (x:Value):(Instr.typeAssert (.iface 355 x) 298 355 true).run Tryz.prog W = .ok (.tuple #[x,.bool true]) W:=by kernel_rfl
theorem tc_I8_U16 (W:World) (x:Value):(Instr.typeAssert (.iface 356 x) 298 352 true).run Tryz.prog W = .ok (.tuple #[.int .i8 0,.bool false]) W:=by kernel_rfl
theorem tc_U8_U16 (W:World) (x:Value):(Instr.typeAssert (.iface 356 x) 298 353 true).run Tryz.prog W = .ok (.tuple #[.int .u8 0,.bool false]) W:=by kernel_rfl
theorem tc_I16_U16 (W:World) (x:Value):(Instr.typeAssert (.iface 356 x) 298 355 true).run Tryz.prog W = .ok (.tuple #[.int .i16 0,.bool false]) W:=by kernel_rfl
theorem tc_U16_U16 (W:World) (x:Value):(Instr.typeAssert (.iface 356 x) 298 356 true).run Tryz.prog W = .ok (.tuple #[x,.bool true]) W:=by kernel_rfl
theorem tc_I8_I32 (W:World) (x:Value):(Instr.typeAssert (.iface 357 x) 298 352 true).run Tryz.prog W = .ok (.tuple #[.int .i8 0,.bool false]) W:=by kernel_rfl
theorem tc_U8_I32 (W:World) (x:Value):(Instr.typeAssert (.iface 357 x) 298 353 true).run Tryz.prog W = .ok (.tuple #[.int .u8 0,.bool false]) W:=by kernel_rfl
theorem tc_I16_I32 (W:World) (x:Value):(Instr.typeAssert (.iface 357 x) 298 355 true).run Tryz.prog W = .ok (.tuple #[.int .i16 0,.bool false]) W:=by kernel_rfl
theorem tc_U16_I32 (W:World) (x:Value):(Instr.typeAssert (.iface 357 x) 298 356 true).run Tryz.prog W = .ok (.tuple #[.int .u16 0,.bool false]) W:=by kernel_rfl
theorem tc_I32_I32 (W:World) (x:Value):(Instr.typeAssert (.iface 357 x) 298 357 true).run Tryz.prog W = .ok (.tuple #[x,.bool true]) W:=by kernel_rfl
theorem tc_I8_U32 (W:World) (x:Value):(Instr.typeAssert (.iface 358 x) 298 352 true).run Tryz.prog W = .ok (.tuple #[.int .i8 0,.bool false]) W:=by kernel_rfl
theorem tc_U8_U32 (W:World) (x:Value):(Instr.typeAssert (.iface 358 x) 298 353 true).run Tryz.prog W = .ok (.tuple #[.int .u8 0,.bool false]) W:=by kernel_rfl
theorem tc_I16_U32 (W:World) (x:Value):(Instr.typeAssert (.iface 358 x) 298 355 true).run Tryz.prog W = .ok (.tuple #[.int .i16 0,.bool false]) W:=by kernel_rfl
theorem tc_U16_U32 (W:World) (x:Value):(Instr.typeAssert (.iface 358 x) 298 356 true).run Tryz.prog W = .ok (.tuple #[.int .u16 0,.bool false]) W:=by kernel_rfl
theorem tc_I32_U32 (W:World) (x:Value):(Instr.typeAssert (.iface 358 x) 298 357 true).run Tryz.prog W = .ok (.tuple #[.int .i32 0,.bool false]) W:=by kernel_rfl
theorem tc_U32_U32 (W:World) (x:Value):(Instr.typeAssert (.iface 358 x) 298 358 true).run Tryz.prog W = .ok (.tuple #[x,.bool true]) W:=by kernel_rfl
theorem tc_I8_I64 (W:World) (x:Value):(Instr.typeAssert (.iface 359 x) 298 352 true).run Tryz.prog W = .ok (.tuple #[.int .i8 0,.bool false]) W:=by kernel_rfl
theorem tc_U8_I64 (W:World) (x:Value):(Instr.typeAssert (.iface 359 x) 298 353 true).run Tryz.prog W = .ok (.tuple #[.int .u8 0,.bool false]) W:=by kernel_rfl
theorem tc_I16_I64 (W:World) (x:Value):(Instr.typeAssert (.iface 359 x) 298 355 true).run Tryz.prog W = .ok (.tuple #[.int .i16 0,.bool false]) W:=by kernel_rfl
theorem tc_U16_I64 (W:World) (x:Value):(Instr.typeAssert (.iface 359 x) 298 356 true).run Tryz.prog W = .ok (.tuple #[.int .u16 0,.bool false]) W:=by kernel_rfl
theorem tc_I32_I64 (W:World) (x:Value):(Instr.typeAssert (.iface 359 x) 298 357 true).run Tryz.prog W = .ok (.tuple #[.int .i32 0,.bool false]) W:=by kernel_rfl
theorem tc_U32_I64 (W:World) (x:Value):(Instr.typeAssert (.iface 359 x) 298 358 true).run Tryz.prog W = .ok (.tuple #[.int .u32 0,.bool false]) W:=by kernel_rfl
theorem tc_I64_I64 (W:World) (x:Value):(Instr.typeAssert (.iface 359 x) 298 359 true).run Tryz.prog W = .ok (.tuple #[x,.bool true]) W:=by kernel_rfl
theorem tc_I8_U64 (W:World) (x:Value):(Instr.typeAssert (.iface 360 x) 298 352 true).run Tryz.prog W = .ok (.tuple #[.int .i8 0,.bool false]) W:=by kernel_rfl
theorem tc_U8_U64 (W:World) (x:Value):(Instr.typeAssert (.iface 360 x) 298 353 true).run Tryz.prog W = .ok (.tuple #[.int .u8 0,.bool false]) W:=by kernel_rfl
theorem tc_I16_U64 (W:World) (x:Value):(Instr.typeAssert (.iface 360 x) 298 355 true).run Tryz.prog W = .ok (.tuple #[.int .i16 0,.bool false]) W:=by kernel_rfl
theorem tc_U16_U64 (W:World) (x:Value):(Instr.typeAssert (.iface 360 x) 298 356 true).run Tryz.prog W = .ok (.tuple #[.int .u16 0,.bool false]) W:=by kernel_rfl
theorem tc_I32_U64 (W:World) (x:Value):(Instr.typeAssert (.iface 360 x) 298 357 true).run Tryz.prog W = .ok (.tuple #[.int .i32 0,.bool false]) W:=by kernel_rfl
theorem tc_U32_U64 (W:World) (x:Value):(Instr.typeAssert (.iface 360 x) 298 358 true).run Tryz.prog W = .ok (.tuple #[.int .u32 0,.bool false]) W:=by kernel_rfl
theorem tc_I64_U64 (W:World) (x:Value):(Instr.typeAssert (.iface 360 x) 298 359 true).run Tryz.prog W = .ok (.tuple #[.int .i64 0,.bool false]) W:=by kernel_rfl
theorem tc_U64_U64 (W:World) (x:Value):(Instr.typeAssert (.iface 360 x) 298 360 true).run Tryz.prog W = .ok (.tuple #[x,.bool true]) W:=by kernel_rfl
theorem tc_I8_F32 (W:World) (x:Value):(Instr.typeAssert (.iface 362 x) 298 352 true).run Tryz.prog W = .ok (.tuple #[.int .i8 0,.bool false]) W:=by kernel_rfl
theorem tc_U8_F32 (W:World) (x:Value):(Instr.typeAssert (.iface 362 x) 298 353 true).run Tryz.prog W = .ok (.tuple #[.int .u8 0,.bool false]) W:=by kernel_rfl
theorem tc_I16_F32 (W:World) (x:Value):(Instr.typeAssert (.iface 362 x) 298 355 true).run Tryz.prog W = .ok (.tuple #[.int .i16 0,.bool false]) W:=by kernel_rfl
theorem tc_U16_F32 (W:World) (x:Value):(Instr.typeAssert (.iface 362 x) 298 356 true).run Tryz.prog W = .ok (.tuple #[.int .u16 0,.bool false]) W:=by kernel_rfl
theorem tc_I32_F32 (W:World) (x:Value):(Instr.typeAssert (.iface 362 x) 298 357 true).run Tryz.prog W = .ok (.tuple #[.int .i32 0,.bool false]) W:=by kernel_rfl
theorem tc_U32_F32 (W:World) (x:Value):(Instr.typeAssert (.iface 362 x) 298 358 true).run Tryz.prog W = .ok (.tuple #[.int .u32 0,.bool false]) W:=by kernel_rfl
theorem tc_I64_F32 (W:World) (x:Value):(Instr.typeAssert (.iface 362 x) 298 359 true).run Tryz.prog W = .ok (.tuple #[.int .i64 0,.bool false]) W:=by kernel_rfl
theorem tc_U64_F32 (W:World) (x:Value):(Instr.typeAssert (.iface 362 x) 298 360 true).run Tryz.prog W = .ok (.tuple #[.int .u64 0,.bool false]) W:=by kernel_rfl
theorem tc_F32_F32 (W:World) (x:Value):(Instr.typeAssert (.iface 362 x) 298 362 true).run Tryz.prog W = .ok (.tuple #[x,.bool true]) W:=by kernel_rfl
theorem tc_I8_F64 (W:World) (x:Value):(Instr.typeAssert (.iface 365 x) 298 352 true).run Tryz.prog W = .ok (.tuple #[.int .i8 0,.bool false]) W:=by kernel_rfl
theorem tc_U8_F64 (W:World) (x:Value):(Instr.typeAssert (.iface 365 x) 298 353 true).run Tryz.prog W = .ok (.tuple #[.int .u8 0,.bool false]) W:=by kernel_rfl
theorem tc_I16_F64 (W:World) (x:Value):(Instr.typeAssert (.iface 365 x) 298 355 true).run Tryz.prog W = .ok (.tuple #[.int .i16 0,.bool false]) W:=by kernel_rfl
theorem tc_U16_F64 (W:World) (x:Value):(Instr.typeAssert (.iface 365 x) 298 356 true).run Tryz.prog W = .ok (.tuple #[.int .u16 0,.bool false]) W:=by kernel_rfl
theorem tc_I32_F64 (W:World) (x:Value):(Instr.typeAssert (.iface 365 x) 298 357 true).run Tryz.prog W = .ok (.tuple #[.int .i32 0,.bool false]) W:=by kernel_rfl
theorem tc_U32_F64 (W:World) (x:Value):(Instr.typeAssert (.iface 365 x) 298 358 true).run Tryz.prog W = .ok (.tuple #[.int .u32 0,.bool false]) W:=by kernel_rfl
theorem tc_I64_F64 (W:World) (x:Value):(Instr.typeAssert (.iface 365 x) 298 359 true).run Tryz.prog W = .ok (.tuple #[.int .i64 0,.bool false]) W:=by kernel_rfl
theorem tc_U64_F64 (W:World) (x:Value):(Instr.typeAssert (.iface 365 x) 298 360 true).run Tryz.prog W = .ok (.tuple #[.int .u64 0,.bool false]) W:=by kernel_rfl
theorem tc_F32_F64 (W:World) (x:Value):(Instr.typeAssert (.iface 365 x) 298 362 true).run Tryz.prog W = .ok (.tuple #[.float .f32 0,.bool false]) W:=by kernel_rfl
theorem tc_F64_F64 (W:World) (x:Value):(Instr.typeAssert (.iface 365 x) 298 365 true).run Tryz.prog W = .ok (.tuple #[x,.bool true]) W:=by kernel_rfl
theorem tc_I8_String (W:World) (x:Value):(Instr.typeAssert (.iface 367 x) 298 352 true).run Tryz.prog W = .ok (.tuple #[.int .i8 0,.bool false]) W:=by kernel_rfl
theorem tc_U8_String (W:World) (x:Value):(Instr.typeAssert (.iface 367 x) 298 353 true).run Tryz.prog W = .ok (.tuple #[.int .u8 0,.bool false]) W:=by kernel_rfl
theorem tc_I16_String (W:World) (x:Value):(Instr.typeAssert (.iface 367 x) 298 355 true).run Tryz.prog W = .ok (.tuple #[.int .i16 0,.bool false]) W:=by kernel_rfl
theorem tc_U16_String (W:World) (x:Value):(Instr.typeAssert (.iface 367 x) 298 356 true).run Tryz.prog W = .ok (.tuple #[.int .u16 0,.bool false]) W:=by kernel_rfl
theorem tc_I32_String (W:World) (x:Value):(Instr.typeAssert (.iface 367 x) 298 357 true).run Tryz.prog W = .ok (.tuple #[.int .i32 0,.bool false]) W:=by kernel_rfl
theorem tc_U32_String (W:World) (x:Value):(Instr.typeAssert (.iface 367 x) 298 358 true).run Tryz.prog W = .ok (.tuple #[.int .u32 0,.bool false]) W:=by kernel_rfl
theorem tc_I64_String (W:World) (x:Value):(Instr.typeAssert (.iface 367 x) 298 359 true).run Tryz.prog W = .ok (.tuple #[.int .i64 0,.bool false]) W:=by kernel_rfl
theorem tc_U64_String (W:World) (x:Value):(Instr.typeAssert (.iface 367 x) 298 360 true).run Tryz.prog W = .ok (.tuple #[.int .u64 0,.bool false]) W:=by kernel_rfl
theorem tc_F32_String (W:World) (x:Value):(Instr.typeAssert (.iface 367 x) 298 362 true).run Tryz.prog W = .ok (.tuple #[.float .f32 0,.bool false]) W:=by kernel_rfl
theorem tc_F64_String (W:World) (x:Value):(Instr.typeAssert (.iface 367 x) 298 365 true).run Tryz.prog W = .ok (.tuple #[.float .f64 0,.bool false]) W:=by kernel_rfl
theorem tc_String_String (W:World) (x:Value):(Instr.typeAssert (.iface 367 x) 298 367 true).run Tryz.prog W = .ok (.tuple #[x,.bool true]) W:=by kernel_rfl
set_option maxHeartbeats 4000000 in
theorem plainConstant_calls (w:World) (c:C):Calls Tryz.prog 206 #[O.val (.con c)] w fun e w'=>e = .returned c.pc∧Fr nope w w':=by
 obtain ⟨k,n,s⟩:=c
 simp only [O.val,C.pc]
 cases k
 ·simp only [CK.ty,C.pay,CK.num,C.bits,C.text]
  have h0:=tc_I8_I8
  go_enter Tryz.func206,Tryz.ntmps206
  go_wp2
  refine bodyPost_ret (results_cell_row rfl _ _ w.heap.size _ _ _ _ rfl (heap_alloc_new w _) Tryz.underlying119 rfl (by kernel_rfl)) rfl ⟨?_,(Fr.refl _ _).alloc _⟩
  first | rfl | simp
 ·simp only [CK.ty,C.pay,CK.num,C.bits,C.text]
  have h0:=tc_I8_U8
  have h1:=tc_U8_U8
  go_enter Tryz.func206,Tryz.ntmps206
  go_wp2
  refine bodyPost_ret (results_cell_row rfl _ _ w.heap.size _ _ _ _ rfl (heap_alloc_new w _) Tryz.underlying119 rfl (by kernel_rfl)) rfl ⟨?_,(Fr.refl _ _).alloc _⟩
  first | rfl | simp
 ·simp only [CK.ty,C.pay,CK.num,C.bits,C.text]
  have h0:=tc_I8_I16
  have h1:=tc_U8_I16
  have h2:=tc_I16_I16
  go_enter Tryz.func206,Tryz.ntmps206
  go_wp2
  refine bodyPost_ret (results_cell_row rfl _ _ w.heap.size _ _ _ _ rfl (heap_alloc_new w _) Tryz.underlying119 rfl (by kernel_rfl)) rfl ⟨?_,(Fr.refl _ _).alloc _⟩
  first | rfl | simp
 ·simp only [CK.ty,C.pay,CK.num,C.bits,C.text]
  have h0:=tc_I8_U16
  have h1:=tc_U8_U16
  have h2:=tc_I16_U16
  have h3:=tc_U16_U16
  go_enter Tryz.func206,Tryz.ntmps206
  go_wp2
  refine bodyPost_ret (results_cell_row rfl _ _ w.heap.size _ _ _ _ rfl (heap_alloc_new w _) Tryz.underlying119 rfl (by kernel_rfl)) rfl ⟨?_,(Fr.refl _ _).alloc _⟩
  first | rfl | simp
 ·simp only [CK.ty,C.pay,CK.num,C.bits,C.text]
  have h0:=tc_I8_I32
  have h1:=tc_U8_I32
  have h2:=tc_I16_I32
  have h3:=tc_U16_I32
  have h4:=tc_I32_I32
  go_enter Tryz.func206,Tryz.ntmps206
  go_wp2
  refine bodyPost_ret (results_cell_row rfl _ _ w.heap.size _ _ _ _ rfl (heap_alloc_new w _) Tryz.underlying119 rfl (by kernel_rfl)) rfl ⟨?_,(Fr.refl _ _).alloc _⟩
  first | rfl | simp
 ·simp only [CK.ty,C.pay,CK.num,C.bits,C.text]
  have h0:=tc_I8_U32
  have h1:=tc_U8_U32
  have h2:=tc_I16_U32
  have h3:=tc_U16_U32
  have h4:=tc_I32_U32
  have h5:=tc_U32_U32
  go_enter Tryz.func206,Tryz.ntmps206
  go_wp2
  refine bodyPost_ret (results_cell_row rfl _ _ w.heap.size _ _ _ _ rfl (heap_alloc_new w _) Tryz.underlying119 rfl (by kernel_rfl)) rfl ⟨?_,(Fr.refl _ _).alloc _⟩
  first | rfl | simp
 ·simp only [CK.ty,C.pay,CK.num,C.bits,C.text]
  have h0:=tc_I8_I64
  have h1:=tc_U8_I64
  have h2:=tc_I16_I64
  have h3:=tc_U16_I64
  have h4:=tc_I32_I64
  have h5:=tc_U32_I64
  have h6:=tc_I64_I64
  go_enter Tryz.func206,Tryz.ntmps206
  go_wp2
  refine bodyPost_ret (results_cell_row rfl _ _ w.heap.size _ _ _ _ rfl (heap_alloc_new w _) Tryz.underlying119 rfl (by kernel_rfl)) rfl ⟨?_,(Fr.refl _ _).alloc _⟩
  first | rfl | simp
 ·simp only [CK.ty,C.pay,CK.num,C.bits,C.text]
  have h0:=tc_I8_U64
  have h1:=tc_U8_U64
  have h2:=tc_I16_U64
  have h3:=tc_U16_U64
  have h4:=tc_I32_U64
  have h5:=tc_U32_U64
  have h6:=tc_I64_U64
  have h7:=tc_U64_U64
  go_enter Tryz.func206,Tryz.ntmps206
  go_wp2
  refine bodyPost_ret (results_cell_row rfl _ _ w.heap.size _ _ _ _ rfl (heap_alloc_new w _) Tryz.underlying119 rfl (by kernel_rfl)) rfl ⟨?_,(Fr.refl _ _).alloc _⟩
  first | rfl | simp
 ·simp only [CK.ty,C.pay,CK.num,C.bits,C.text]
  have h0:=tc_I8_F32
  have h1:=tc_U8_F32
  have h2:=tc_I16_F32
  have h3:=tc_U16_F32
  have h4:=tc_I32_F32
  have h5:=tc_U32_F32
  have h6:=tc_I64_F32
  have h7:=tc_U64_F32
  have h8:=tc_F32_F32
  have hb:=run_b32
  go_enter Tryz.func206,Tryz.ntmps206
  go_wp2
  refine bodyPost_ret (results_cell_row rfl _ _ w.heap.size _ _ _ _ rfl (heap_alloc_new w _) Tryz.underlying119 rfl (by kernel_rfl)) rfl ⟨?_,(Fr.refl _ _).alloc _⟩
  first | rfl | simp
 ·simp only [CK.ty,C.pay,CK.num,C.bits,C.text]
  have h0:=tc_I8_F64
  have h1:=tc_U8_F64
  have h2:=tc_I16_F64
  have h3:=tc_U16_F64
  have h4:=tc_I32_F64
  have h5:=tc_U32_F64
  have h6:=tc_I64_F64
  have h7:=tc_U64_F64
  have h8:=tc_F32_F64
  have h9:=tc_F64_F64
  have hb:=run_b64
  go_enter Tryz.func206,Tryz.ntmps206
  go_wp2
  refine bodyPost_ret (results_cell_row rfl _ _ w.heap.size _ _ _ _ rfl (heap_alloc_new w _) Tryz.underlying119 rfl (by kernel_rfl)) rfl ⟨?_,(Fr.refl _ _).alloc _⟩
  first | rfl | simp
 ·simp only [CK.ty,C.pay,CK.num,C.bits,C.text]
  have h0:=tc_I8_String
  have h1:=tc_U8_String
  have h2:=tc_I16_String
  have h3:=tc_U16_String
  have h4:=tc_I32_String
  have h5:=tc_U32_String
  have h6:=tc_I64_String
  have h7:=tc_U64_String
  have h8:=tc_F32_String
  have h9:=tc_F64_String
  have h10:=tc_String_String
  go_enter Tryz.func206,Tryz.ntmps206
  go_wp2
  refine bodyPost_ret (results_cell_row rfl _ _ w.heap.size _ _ _ _ rfl (heap_alloc_new w _) Tryz.underlying119 rfl (by kernel_rfl)) rfl ⟨?_,(Fr.refl _ _).alloc _⟩
  first | rfl | simp
end
end Go.Proofs.YtjlfkgjmgghhiaaGreat
