/- Part of the proof of a statement about pub-berthage: what its texts have in common. -/
import Derived.Deep.MidRow
import Derived.Test.YtpbeedabmjmdmaaGreatDoorP25
namespace Go.Proofs.YtpbeedabmjmdmaaGreatDoor
section
open Go Go.RowKit Bth
set_option maxRecDepth 100000
def CK.num:CK→Int
 | .I8=>1
 | .U8=>2
 | .I16=>3
 | .U16=>4
 | .I32=>5
 | .U32=>6
 | .I64=>7
 | .U64=>8
 | .F32=>9
 | .F64=>10
 | .String=>11
def C.bits (c:C):Int:=
 match c.k with
 | .I8=>c.n % 256
 | .U8=>IntKind.u64.wrap c.n
 | .I16=>IntKind.u64.wrap (IntKind.u16.wrap c.n)
 | .U16=>IntKind.u64.wrap c.n
 | .I32=>c.n % 4294967296
 | .U32=>IntKind.u64.wrap c.n
 | .I64=>IntKind.u64.wrap c.n
 | .U64=>c.n
 | .F32=>IntKind.u64.wrap (c.n.toNat:Int)
 | .F64=>(c.n.toNat:Int)
 | .String=>0
def C.text (c:C):ByteArray:=match c.k with
 | .String=>c.s
 | _=>⟨#[]⟩
def C.pc (c:C):Value:=.agg #[.int .i64 c.k.num,.int .u64 c.bits,.string c.text]
theorem run_b32 (n:Nat) (W:World):(callFunc 180 #[.float .f32 n]).run Tryz.prog W = .ok (.value (.int .u32 n)) W:=by kernel_rfl
theorem run_b64 (n:Nat) (W:World):(callFunc 181 #[.float .f64 n]).run Tryz.prog W = .ok (.value (.int .u64 n)) W:=by kernel_rfl
theorem tc_I8_I8 (W:World) (x:Value):(Instr.typeAssert (.iface 310 x) 259 310 true).run Tryz.prog W = .ok (.tuple #[x,.bool true]) W:=by kernel_rfl
theorem tc_I8_U8 (W:World) (x:Value):(Instr.typeAssert (.iface 311 x) 259 310 true).run Tryz.prog W = .ok (.tuple #[.int .i8 0,.bool false]) W:=by kernel_rfl
theorem tc_U8_U8 (W:World) (x:Value):(Instr.typeAssert (.iface 311 x) 259 311 true).run Tryz.prog W = .ok (.tuple #[x,.bool true]) W:=by kernel_rfl
theorem tc_I8_I16 (W:World) (x:Value):(Instr.typeAssert (.iface 313 x) 259 310 true).run Tryz.prog W = .ok (.tuple #[.int .i8 0,.bool false]) W:=by kernel_rfl
theorem tc_U8_I16 (W:World) (x:Value):(Instr.typeAssert (.iface 313 x) 259 311 true).run Tryz.prog W = .ok (.tuple #[.int .u8 0,.bool false]) W:=by kernel_rfl
theorem tc_I16_I16 (W:World) (x:Value):(Instr.typeAssert (.iface 313 x) 259 313 true).run Tryz.prog W = .ok (.tuple #[x,.bool true]) W:=by kernel_rfl
theorem tc_I8_U16 (W:World) (x:Value):(Instr.typeAssert (.iface 314 x) 259 310 true).run Tryz.prog W = .ok (.tuple #[.int .i8 0,.bool false]) W:=by kernel_rfl
theorem tc_U8_U16 (W:World) (x:Value):(Instr.typeAssert (.iface 314 x) 259 311 true).run Tryz.prog W = .ok (.tuple #[.int .u8 0,.bool false]) W:=by kernel_rfl
theorem tc_I16_U16 (W:World) (x:Value):(Instr.typeAssert (.iface 314 x) 259 313 true).run Tryz.prog W = .ok (.tuple #[.int .i16 0,.bool false]) W:=by kernel_rfl
theorem tc_U16_U16 (W:World) (x:Value):(Instr.typeAssert (.iface 314 x) 259 314 true).run Tryz.prog W = .ok (.tuple #[x,.bool true]) W:=by kernel_rfl
theorem tc_I8_I32 (W:World) (x:Value):(Instr.typeAssert (.iface 315 x) 259 310 true).run Tryz.prog W = .ok (.tuple #[.int .i8 0,.bool false]) W:=by kernel_rfl
theorem tc_U8_I32 (W:World) (x:Value):(Instr.typeAssert (.iface 315 x) 259 311 true).run Tryz.prog W = .ok (.tuple #[.int .u8 0,.bool false]) W:=by kernel_rfl
theorem tc_I16_I32 (W:World) (x:Value):(Instr.typeAssert (.iface 315 x) 259 313 true).run Tryz.prog W = .ok (.tuple #[.int .i16 0,.bool false]) W:=by kernel_rfl
theorem tc_U16_I32 (W:World) (x:Value):(Instr.typeAssert (.iface 315 x) 259 314 true).run Tryz.prog W = .ok (.tuple #[.int .u16 0,.bool false]) W:=by kernel_rfl
theorem tc_I32_I32 (W:World) (x:Value):(Instr.typeAssert (.iface 315 x) 259 315 true).run Tryz.prog W = .ok (.tuple #[x,.bool true]) W:=by kernel_rfl
theorem tc_I8_U32 (W:World) (x:Value):(Instr.typeAssert (.iface 316 x) 259 310 true).run Tryz.prog W = .ok (.tuple #[.int .i8 0,.bool false]) W:=by kernel_rfl
theorem tc_U8_U32 (W:World) (x:Value):(Instr.typeAssert (.iface 316 x) 259 311 true).run Tryz.prog W = .ok (.tuple #[.int .u8 0,.bool false]) W:=by kernel_rfl
theorem tc_I16_U32 (W:World) (x:Value):(Instr.typeAssert (.iface 316 x) 259 313 true).run Tryz.prog W = .ok (.tuple #[.int .i16 0,.bool false]) W:=by kernel_rfl
theorem tc_U16_U32 (W:World) (x:Value):(Instr.typeAssert (.iface 316 x) 259 314 true).run Tryz.prog W = .ok (.tuple #[.int .u16 0,.bool false]) W:=by kernel_rfl
theorem tc_I32_U32 (W:World) (x:Value):(Instr.typeAssert (.iface 316 x) 259 315 true).run Tryz.prog W = .ok (.tuple #[.int .i32 0,.bool false]) W:=by kernel_rfl
theorem tc_U32_U32 (W:World) (x:Value):(Instr.typeAssert (.iface 316 x) 259 316 true).run Tryz.prog W = .ok (.tuple #[x,.bool true]) W:=by kernel_rfl
theorem tc_I8_I64 (W:World) (x:Value):(Instr.typeAssert (.iface 317 x) 259 310 true).run Tryz.prog W = .ok (.tuple #[.int .i8 0,.bool false]) W:=by kernel_rfl
theorem tc_U8_I64 (W:World) (x:Value):(Instr.typeAssert (.iface 317 x) 259 311 true).run Tryz.prog W = .ok (.tuple #[.int .u8 0,.bool false]) W:=by kernel_rfl
theorem tc_I16_I64 (W:World) (x:Value):(Instr.typeAssert (.iface 317 x) 259 313 true).run Tryz.prog W = .ok (.tuple #[.int .i16 0,.bool false]) W:=by kernel_rfl
theorem tc_U16_I64 (W:World) (x:Value):(Instr.typeAssert (.iface 317 x) 259 314 true).run Tryz.prog W = .ok (.tuple #[.int .u16 0,.bool false]) W:=by kernel_rfl
theorem tc_I32_I64 (W:World) (x:Value):(Instr.typeAssert (.iface 317 x) 259 315 true).run Tryz.prog W = .ok (.tuple #[.int .i32 0,.bool false]) W:=by kernel_rfl
theorem tc_U32_I64 (W:World) (x:Value):(Instr.typeAssert (.iface 317 x) 259 316 true).run Tryz.prog W = .ok (.tuple #[.int .u32 0,.bool false]) W:=by kernel_rfl
theorem tc_I64_I64 (W:World) (x:Value):(Instr.typeAssert (.iface 317 x) 259 317 true).run Tryz.prog W = .ok (.tuple #[x,.bool true]) W:=by kernel_rfl
theorem tc_I8_U64 (W:World) (x:Value):(Instr.typeAssert (.iface 318 x) 259 310 true).run Tryz.prog W = .ok (.tuple #[.int .i8 0,.bool false]) W:=by kernel_rfl
theorem tc_U8_U64 (W:World) (x:Value):(Instr.typeAssert (.iface 318 x) 259 311 true).run Tryz.prog W = .ok (.tuple #[.int .u8 0,.bool false]) W:=by kernel_rfl
theorem tc_I16_U64 (W:World) (x:Value):(Instr.typeAssert (.iface 318 x) 259 313 true).run Tryz.prog W = .ok (.tuple #[.int .i16 0,.bool false]) W:=by kernel_rfl
theorem tc_U16_U64 (W:World) (x:Value):(Instr.typeAssert (.iface 318 x) 259 314 true).run Tryz.prog W = .ok (.tuple #[.int .u16 0,.bool false]) W:=by kernel_rfl
theorem tc_I32_U64 (W:World) (x:Value):(Instr.typeAssert (.iface 318 x) 259 315 true).run Tryz.prog W = .ok (.tuple #[.int .i32 0,.bool false]) W:=by kernel_rfl
theorem tc_U32_U64 (W:World) (x:Value):(Instr.typeAssert (.iface 318 x) 259 316 true).run Tryz.prog W = .ok (.tuple #[.int .u32 0,.bool false]) W:=by kernel_rfl
theorem tc_I64_U64 (W:World) (x:Value):(Instr.typeAssert (.iface 318 x) 259 317 true).run Tryz.prog W = .ok (.tuple #[.int .i64 0,.bool false]) W:=by kernel_rfl
theorem tc_U64_U64 (W:World) (x:Value):(Instr.typeAssert (.iface 318 x) 259 318 true).run Tryz.prog W = .ok (.tuple #[x,.bool true]) W:=by kernel_rfl
theorem tc_I8_F32 (W:World) (x:Value):(Instr.typeAssert (.iface 320 x) 259 310 true).run Tryz.prog W = .ok (.tuple #[.int .i8 0,.bool false]) W:=by kernel_rfl
theorem tc_U8_F32 (W:World) (x:Value):(Instr.typeAssert (.iface 320 x) 259 311 true).run Tryz.prog W = .ok (.tuple #[.int .u8 0,.bool false]) W:=by kernel_rfl
theorem tc_I16_F32 (W:World) (x:Value):(Instr.typeAssert (.iface 320 x) 259 313 true).run Tryz.prog W = .ok (.tuple #[.int .i16 0,.bool false]) W:=by kernel_rfl
theorem tc_U16_F32 (W:World) (x:Value):(Instr.typeAssert (.iface 320 x) 259 314 true).run Tryz.prog W = .ok (.tuple #[.int .u16 0,.bool false]) W:=by kernel_rfl
theorem tc_I32_F32 (W:World) (x:Value):(Instr.typeAssert (.iface 320 x) 259 315 true).run Tryz.prog W = .ok (.tuple #[.int .i32 0,.bool false]) W:=by kernel_rfl
theorem tc_U32_F32 (W:World) (x:Value):(Instr.typeAssert (.iface 320 x) 259 316 true).run Tryz.prog W = .ok (.tuple #[.int .u32 0,.bool false]) W:=by kernel_rfl
theorem tc_I64_F32 (W:World) (x:Value):(Instr.typeAssert (.iface 320 x) 259 317 true).run Tryz.prog W = .ok (.tuple #[.int .i64 0,.bool false]) W:=by kernel_rfl
theorem tc_U64_F32 (W:World) (x:Value):(Instr.typeAssert (.iface 320 x) 259 318 true).run Tryz.prog W = .ok (.tuple #[.int .u64 0,.bool false]) W:=by kernel_rfl
theorem tc_F32_F32 (W:World) (x:Value):(Instr.typeAssert (.iface 320 x) 259 320 true).run Tryz.prog W = .ok (.tuple #[x,.bool true]) W:=by kernel_rfl
theorem tc_I8_F64 (W:World) (x:Value):(Instr.typeAssert (.iface 323 x) 259 310 true).run Tryz.prog W = .ok (.tuple #[.int .i8 0,.bool false]) W:=by kernel_rfl
theorem tc_U8_F64 (W:World) (x:Value):(Instr.typeAssert (.iface 323 x) 259 311 true).run Tryz.prog W = .ok (.tuple #[.int .u8 0,.bool false]) W:=by kernel_rfl
theorem tc_I16_F64 (W:World) (x:Value):(Instr.typeAssert (.iface 323 x) 259 313 true).run Tryz.prog W = .ok (.tuple #[.int .i16 0,.bool false]) W:=by kernel_rfl
theorem tc_U16_F64 (W:World) (x:Value):(Instr.typeAssert (.iface 323 x) 259 314 true).run Tryz.prog W = .ok (.tuple #[.int .u16 0,.bool false]) W:=by kernel_rfl
theorem tc_I32_F64 (W:World) (x:Value):(Instr.typeAssert (.iface 323 x) 259 315 true).run Tryz.prog W = .ok (.tuple #[.int .i32 0,.bool false]) W:=by kernel_rfl
theorem tc_U32_F64 (W:World) (x:Value):(Instr.typeAssert (.iface 323 x) 259 316 true).run Tryz.prog W = .ok (.tuple #[.int .u32 0,.bool false]) W:=by kernel_rfl
theorem tc_I64_F64 (W:World) (x:Value):(Instr.typeAssert (.iface 323 x) 259 317 true).run Tryz.prog W = .ok (.tuple #[.int .i64 0,.bool false]) W:=by kernel_rfl
theorem tc_U64_F64 (W:World) (x:Value):(Instr.typeAssert (.iface 323 x) 259 318 true).run Tryz.prog W = .ok (.tuple #[.int .u64 0,.bool false]) W:=by kernel_rfl
theorem tc_F32_F64 (W:World) (x:Value):(Instr.typeAssert (.iface 323 x) 259 320 true).run Tryz.prog W = .ok (.tuple #[.float .f32 0,.bool false]) W:=by kernel_rfl
theorem tc_F64_F64 (W:World) (x:Value):(Instr.typeAssert (.iface 323 x) 259 323 true).run Tryz.prog W = .ok (.tuple #[x,.bool true]) W:=by kernel_rfl
theorem tc_I8_String (W:World) (x:Value):(Instr.typeAssert (.iface 325 x) 259 310 true).run Tryz.prog W = .ok (.tuple #[.int .i8 0,.bool false]) W:=by kernel_rfl
theorem tc_U8_String (W:World) (x:Value):(Instr.typeAssert (.iface 325 x) 259 311 true).run Tryz.prog W = .ok (.tuple #[.int .u8 0,.bool false]) W:=by kernel_rfl
theorem tc_I16_String (W:World) (x:Value):(Instr.typeAssert (.iface 325 x) 259 313 true).run Tryz.prog W = .ok (.tuple #[.int .i16 0,.bool false]) W:=by kernel_rfl
theorem tc_U16_String (W:World) (x:Value):(Instr.typeAssert (.iface 325 x) 259 314 true).run Tryz.prog W = .ok (.tuple #[.int .u16 0,.bool false]) W:=by kernel_rfl
theorem tc_I32_String (W:World) (x:Value):(Instr.typeAssert (.iface 325 x) 259 315 true).run Tryz.prog W = .ok (.tuple #[.int .i32 0,.bool false]) W:=by kernel_rfl
theorem tc_U32_String (W:World) (x:Value):(Instr.typeAssert (.iface 325 x) 259 316 true).run Tryz.prog W = .ok (.tuple #[.int .u32 0,.bool false]) W:=by kernel_rfl
theorem tc_I64_String (W:World) (x:Value):(Instr.typeAssert (.iface 325 x) 259 317 true).run Tryz.prog W = .ok (.tuple #[.int .i64 0,.bool false]) W:=by kernel_rfl
theorem tc_U64_String (W:World) (x:Value):(Instr.typeAssert (.iface 325 x) 259 318 true).run Tryz.prog W = .ok (.tuple #[.int .u64 0,.bool false]) W:=by kernel_rfl
theorem tc_F32_String (W:World) (x:Value):(Instr.typeAssert (.iface 325 x) 259 320 true).run Tryz.prog W = .ok (.tuple #[.float .f32 0,.bool false]) W:=by kernel_rfl
theorem tc_F64_String (W:World) (x:Value):(Instr.typeAssert (.iface 325 x) 259 323 true).run Tryz.prog W = .ok (.tuple #[.float .f64 0,.bool false]) W:=by kernel_rfl
theorem tc_String_String (W:World) (x:Value):(Instr.typeAssert (.iface 325 x) 259 325 true).run Tryz.prog W = .ok (.tuple #[x,.bool true]) W:=by kernel_rfl
set_option maxHeartbeats 4000000 in
theorem plainConstant_calls (w:World) (c:C):Calls Tryz.prog 165 #[O.val (.con c)] w fun e w'=>e = .returned c.pc∧Fr nope w w':=by
 obtain ⟨k,n,s⟩:=c
 simp only [O.val,C.pc]
 cases k
 ·simp only [CK.ty,C.pay,CK.num,C.bits,C.text]
  have h0:=tc_I8_I8
  go_enter Tryz.func165,Tryz.ntmps165
  go_wp2
  refine bodyPost_ret (results_cell_row rfl _ _ w.heap.size _ _ _ _ rfl (heap_alloc_new w _) Tryz.underlying43 rfl (by kernel_rfl)) rfl ⟨?_,(Fr.refl _ _).alloc _⟩
  first | rfl | simp
 ·simp only [CK.ty,C.pay,CK.num,C.bits,C.text]
  have h0:=tc_I8_U8
  have h1:=tc_U8_U8
  go_enter Tryz.func165,Tryz.ntmps165
  go_wp2
  refine bodyPost_ret (results_cell_row rfl _ _ w.heap.size _ _ _ _ rfl (heap_alloc_new w _) Tryz.underlying43 rfl (by kernel_rfl)) rfl ⟨?_,(Fr.refl _ _).alloc _⟩
  first | rfl | simp
 ·simp only [CK.ty,C.pay,CK.num,C.bits,C.text]
  have h0:=tc_I8_I16
  have h1:=tc_U8_I16
  have h2:=tc_I16_I16
  go_enter Tryz.func165,Tryz.ntmps165
  go_wp2
  refine bodyPost_ret (results_cell_row rfl _ _ w.heap.size _ _ _ _ rfl (heap_alloc_new w _) Tryz.underlying43 rfl (by kernel_rfl)) rfl ⟨?_,(Fr.refl _ _).alloc _⟩
  first | rfl | simp
 ·simp only [CK.ty,C.pay,CK.num,C.bits,C.text]
  have h0:=tc_I8_U16
  have h1:=tc_U8_U16
  have h2:=tc_I16_U16
  have h3:=tc_U16_U16
  go_enter Tryz.func165,Tryz.ntmps165
  go_wp2
  refine bodyPost_ret (results_cell_row rfl _ _ w.heap.size _ _ _ _ rfl (heap_alloc_new w _) Tryz.underlying43 rfl (by kernel_rfl)) rfl ⟨?_,(Fr.refl _ _).alloc _⟩
  first | rfl | simp
 ·simp only [CK.ty,C.pay,CK.num,C.bits,C.text]
  have h0:=tc_I8_I32
  have h1:=tc_U8_I32
  have h2:=tc_I16_I32
  have h3:=tc_U16_I32
  have h4:=tc_I32_I32
  go_enter Tryz.func165,Tryz.ntmps165
  go_wp2
  refine bodyPost_ret (results_cell_row rfl _ _ w.heap.size _ _ _ _ rfl (heap_alloc_new w _) Tryz.underlying43 rfl (by kernel_rfl)) rfl ⟨?_,(Fr.refl _ _).alloc _⟩
  first | rfl | simp
 ·simp only [CK.ty,C.pay,CK.num,C.bits,C.text]
  have h0:=tc_I8_U32
  have h1:=tc_U8_U32
  have h2:=tc_I16_U32
  have h3:=tc_U16_U32
  have h4:=tc_I32_U32
  have h5:=tc_U32_U32
  go_enter Tryz.func165,Tryz.ntmps165
  go_wp2
  refine bodyPost_ret (results_cell_row rfl _ _ w.heap.size _ _ _ _ rfl (heap_alloc_new w _) Tryz.underlying43 rfl (by kernel_rfl)) rfl ⟨?_,(Fr.refl _ _).alloc _⟩
  first | rfl | simp
 ·simp only [CK.ty,C.pay,CK.num,C.bits,C.text]
  have h0:=tc_I8_I64
  have h1:=tc_U8_I64
  have h2:=tc_I16_I64
  have h3:=tc_U16_I64
  have h4:=tc_I32_I64
  have h5:=tc_U32_I64
  have h6:=tc_I64_I64
  go_enter Tryz.func165,Tryz.ntmps165
  go_wp2
  refine bodyPost_ret (results_cell_row rfl _ _ w.heap.size _ _ _ _ rfl (heap_alloc_new w _) Tryz.underlying43 rfl (by kernel_rfl)) rfl ⟨?_,(Fr.refl _ _).alloc _⟩
  first | rfl | simp
 ·simp only [CK.ty,C.pay,CK.num,C.bits,C.text]
  have h0:=tc_I8_U64
  have h1:=tc_U8_U64
  have h2:=tc_I16_U64
  have h3:=tc_U16_U64
  have h4:=tc_I32_U64
  have h5:=tc_U32_U64
  have h6:=tc_I64_U64
  have h7:=tc_U64_U64
  go_enter Tryz.func165,Tryz.ntmps165
  go_wp2
  refine bodyPost_ret (results_cell_row rfl _ _ w.heap.size _ _ _ _ rfl (heap_alloc_new w _) Tryz.underlying43 rfl (by kernel_rfl)) rfl ⟨?_,(Fr.refl _ _).alloc _⟩
  first | rfl | simp
 ·simp only [CK.ty,C.pay,CK.num,C.bits,C.text]
  have h0:=tc_I8_F32
  have h1:=tc_U8_F32
  have h2:=tc_I16_F32
  have h3:=tc_U16_F32
  have h4:=tc_I32_F32
  have h5:=tc_U32_F32
  have h6:=tc_I64_F32
  have h7:=tc_U64_F32
  have h8:=tc_F32_F32
  have hb:=run_b32
  go_enter Tryz.func165,Tryz.ntmps165
  go_wp2
  refine bodyPost_ret (results_cell_row rfl _ _ w.heap.size _ _ _ _ rfl (heap_alloc_new w _) Tryz.underlying43 rfl (by kernel_rfl)) rfl ⟨?_,(Fr.refl _ _).alloc _⟩
  first | rfl | simp
 ·simp only [CK.ty,C.pay,CK.num,C.bits,C.text]
  have h0:=tc_I8_F64
  have h1:=tc_U8_F64
  have h2:=tc_I16_F64
  have h3:=tc_U16_F64
  have h4:=tc_I32_F64
  have h5:=tc_U32_F64
  have h6:=tc_I64_F64
  have h7:=tc_U64_F64
  have h8:=tc_F32_F64
  have h9:=tc_F64_F64
  have hb:=run_b64
  go_enter Tryz.func165,Tryz.ntmps165
  go_wp2
  refine bodyPost_ret (results_cell_row rfl _ _ w.heap.size _ _ _ _ rfl (heap_alloc_new w _) Tryz.underlying43 rfl (by kernel_rfl)) rfl ⟨?_,(Fr.refl _ _).alloc _⟩
  first | rfl | simp
 ·simp only [CK.ty,C.pay,CK.num,C.bits,C.text]
  have h0:=tc_I8_String
  have h1:=tc_U8_String
  have h2:=tc_I16_String
  have h3:=tc_U16_String
  have h4:=tc_I32_String
  have h5:=tc_U32_String
  have h6:=tc_I64_String
  have h7:=tc_U64_String
  have h8:=tc_F32_String
  have h9:=tc_F64_String
  have h10:=tc_String_String
  go_enter Tryz.func165,Tryz.ntmps165
  go_wp2
  refine bodyPost_ret (results_cell_row rfl _ _ w.heap.size _ _ _ _ rfl (heap_alloc_new w _) Tryz.underlying43 rfl (by kernel_rfl)) rfl ⟨?_,(Fr.refl _ _).alloc _⟩
  first | rfl | simp
end
section
open Go Go.RowKit Bth
set_option maxRecDepth 100000
def g0:G:=⟨false,0,0,0⟩
def opCells (kind:Int) (r:G) (hb hi:Bool) (base index:G) (scale:Nat) (disp:Int) (sym:ByteArray) (static:Bool) (ck cb:Int) (ct:ByteArray) (label:ByteArray) (rel:Int):Array Value:=
 #[.int .i64 kind,.bool r.virt,.int .u8 (r.kind:Int),.int .u16 (r.idx:Int),.int .u16 (r.spec:Int),.bool hb,.bool hi,
  .bool base.virt,.int .u8 (base.kind:Int),.int .u16 (base.idx:Int),.int .u16 (base.spec:Int),.bool index.virt,.int .u8 (index.kind:Int),.int .u16 (index.idx:Int),.int .u16 (index.spec:Int),
  .int .u8 (scale:Int),.int .i64 disp,.string sym,.bool static,.int .i64 ck,.int .u64 cb,.string ct,.string label,.int .i32 rel]
def e0:ByteArray:=⟨#[]⟩
def M.pcells (m:M):Array Value:=opCells 2 g0 m.base.isSome m.index.isSome ((m.base.map R.plain).getD g0) ((m.index.map R.plain).getD g0) m.scale m.disp m.sym m.static 0 0 e0 e0 0
theorem opCells_size (kind:Int) (r:G) (hb hi:Bool) (base index:G) (scale:Nat) (disp:Int) (sym:ByteArray) (static:Bool) (ck cb:Int) (ct:ByteArray) (label:ByteArray) (rel:Int):(opCells kind r hb hi base index scale disp sym static ck cb ct label rel).size=24:=rfl
theorem opCells_one (kind:Int) (r:G) (hb hi:Bool) (base index:G) (scale:Nat) (disp:Int) (sym:ByteArray) (static:Bool) (ck cb:Int) (ct:ByteArray) (label:ByteArray) (rel:Int):(opCells kind r hb hi base index scale disp sym static ck cb ct label rel).all (·.oneCell')=true:=by simp [opCells,Value.oneCell']
theorem wpList_store4 {P:Program} {ops:Array Oper} {rest:List Oper} {op:Oper} {a:Act} {w:World} {Q:Exit→Act→World→Prop} (hgd:op.guard=none) {ty:TypeId} {x y:Operand} (ho:op.op = .store ty x y)
  {b o:Nat} {x1 x2 x3 x4:Value} {cs cs':Array Value} {t:TypeId} (hx:a.eval x = .pointer (some ⟨b,o,none⟩)) (hy:a.eval y = .agg #[x1,x2,x3,x4]) (hb:w.heap[b]? = some (.cells cs t (0,0))) (hl:o+4≤cs.size)
  (hi:(P.info? ty).map (·.size)=some 4) (h1:(#[x1,x2,x3,x4]:Array Value).all (·.oneCell')=true) (hc:(((cs.setIfInBounds o x1).setIfInBounds (o+1) x2).setIfInBounds (o+1+1) x3).setIfInBounds (o+1+1+1) x4=cs')
  (h:∀ w',w'.heap[b]? = some (.cells cs' t (0,0))→Fr (fun x=>x=b) w w'→wpList P ops Q rest (a.put op.dst undef) w'):wpList P ops Q (op :: rest) a w:=by
 refine wpList_store_mid hgd ty x y ho b o #[x1,x2,x3,x4] hx hy (fun j hj=>⟨?_,frozen_row hb _⟩) hi h1 (h _ ?_ (setCells_fr _ _ _ _ (Fr.refl _ _) (.inl rfl)))
 ·rw [cell_of_row w b _ _ _ (0,0) hb]
  have hj':j < 4:=hj
  rw [Array.getElem?_eq_getElem (by omega)];rfl
 ·rw [← hc]
  exact setCell_heap (setCell_heap (setCell_heap (setCell_heap hb x1) x2) x3) x4
set_option maxHeartbeats 4000000 in
theorem plainMem_00 (w:World) (m:M) (hb:m.base=none) (hi:m.index=none):Calls Tryz.prog 164 #[m.agg] w fun e w'=>e = .returned (.agg m.pcells)∧Fr nope w w':=by
 obtain ⟨sym,st,d,x,y,sc⟩:=m
 simp only at hb hi
 subst hb hi
 have hp:M.pcells ⟨sym,st,d,none,none,sc⟩=opCells 2 g0 false false g0 g0 sc d sym st 0 0 e0 e0 0:=rfl
 rw [hp]
 simp only [M.agg,optV]
 clear hp
 have hA:∀ x y z,_:=fun x y z=>alloc3 (w:=w) (x:=x) (y:=y) (z:=z) (Fr.refl nope _) (fun _ _ x=>x)
 go_enter Tryz.func164,Tryz.ntmps164
 go_upto_region 2 with (first
  | (refine wpList_storeRow (b:=w.heap.size+1+1) rfl rfl rfl rfl (hA _ _ _).2.2 rfl (by kernel_rfl) (by simp [Value.oneCell']) ?_;intro w3 hb3 hf3))
 have k0:=hf3.heap (hA _ _ _).1 (by omega)
 have k1:=hf3.heap (hA _ _ _).2.1 (by omega)
 have k2:w3.heap[w.heap.size+1+1]? = some (.cells (opCells 2 g0 false false g0 g0 sc d sym st 0 0 e0 e0 0) 45 (0,0)):=hb3
 have hF0:Fr nope w w3:=((((Fr.refl nope w).alloc _).alloc _).alloc _).then_new hf3 (fun x hx e=>by omega)
 clear hb3 hf3 hA
 have l0:=lt_of_heap k0
 have l1:=lt_of_heap k1
 have l2:=lt_of_heap k2
 have c0:=fun j=>cell_of_row _ _ j _ _ (0,0) k0
 go_wp2_with (first
  | (refine wpList_loadRow (b:=w.heap.size+1+1) rfl rfl rfl k2 Tryz.underlying45 rfl (by kernel_rfl) ?_)
  | (refine wpList_storeRow (b:=w.heap.size+1) rfl rfl rfl rfl k1 rfl (by kernel_rfl) (opCells_one _ _ _ _ _ _ _ _ _ _ _ _ _ _ _) ?_;intro w9 hb9 hf9))
 refine bodyPost_ret (results_cell_row rfl _ _ (w.heap.size+1) _ _ _ _ rfl hb9 Tryz.underlying45 rfl (by kernel_rfl)) rfl ⟨rfl,hF0.then_new hf9 (fun x hx e=>by omega)⟩
set_option maxHeartbeats 4000000 in
theorem plainMem_01 (w:World) (m:M) (q:R) (hb:m.base=none) (hi:m.index=some q) (hq:q.At w):Calls Tryz.prog 164 #[m.agg] w fun e w'=>e = .returned (.agg m.pcells)∧Fr nope w w':=by
 have hI:=fun W (hW:Fr nope w W)=>plainReg_calls W q (hq.nope hW)
 obtain ⟨T',v',hv'⟩:=q.val_iface
 rw [hv'] at hI
 obtain ⟨sym,st,d,x,y,sc⟩:=m
 simp only at hb hi
 subst hb hi
 have hp:M.pcells ⟨sym,st,d,none,some q,sc⟩=opCells 2 g0 false true g0 q.plain sc d sym st 0 0 e0 e0 0:=rfl
 rw [hp]
 simp only [M.agg,optV,hv']
 clear hp
 have hA:∀ x y z,_:=fun x y z=>alloc3 (w:=w) (x:=x) (y:=y) (z:=z) (Fr.refl nope _) (fun _ _ x=>x)
 go_enter Tryz.func164,Tryz.ntmps164
 go_upto_region 2 with (first
  | (refine wpList_storeRow (b:=w.heap.size+1+1) rfl rfl rfl rfl (hA _ _ _).2.2 rfl (by kernel_rfl) (by simp [Value.oneCell']) ?_;intro w3 hb3 hf3))
 have k0:=hf3.heap (hA _ _ _).1 (by omega)
 have k1:=hf3.heap (hA _ _ _).2.1 (by omega)
 have k2:w3.heap[w.heap.size+1+1]? = some (.cells (opCells 2 g0 false false g0 g0 sc d sym st 0 0 e0 e0 0) 45 (0,0)):=hb3
 have hF0:Fr nope w w3:=((((Fr.refl nope w).alloc _).alloc _).alloc _).then_new hf3 (fun x hx e=>by omega)
 clear hb3 hf3 hA
 have l0:=lt_of_heap k0
 have l1:=lt_of_heap k1
 have l2:=lt_of_heap k2
 have c0:=fun j=>cell_of_row _ _ j _ _ (0,0) k0
 go_wp2_with fail
 refine (hI _ hF0).mono ?_
 rintro e w4 ⟨rfl,hf4⟩
 replace k0:=hf4.heap k0 (fun x=>x)
 replace k1:=hf4.heap k1 (fun x=>x)
 replace k2:=hf4.heap k2 (fun x=>x)
 replace hF0:=hF0.then hf4
 clear c0 hf4
 replace l0:=lt_of_heap k0
 replace l1:=lt_of_heap k1
 replace l2:=lt_of_heap k2
 have c0:=fun j=>cell_of_row _ _ j _ _ (0,0) k0
 have c2:=fun j=>cell_of_row _ _ j _ _ (0,0) k2
 have z2:=frozen_row k2
 have s3:Fr (fun x=>x=w.heap.size+1+1) w4 (w4.setCell ⟨w.heap.size+1+1,6,none⟩ (.bool true)):=(Fr.refl (fun x=>x=w.heap.size+1+1) w4).setCell (.inl rfl) _
 have k3:=setCell_heap (k:=6) k2 (.bool true)
 have k0':=s3.heap k0 (by omega)
 have k1':=s3.heap k1 (by omega)
 unfold G.agg
 go_upto_region 6 with (first
  | (refine wpList_store4 (b:=w.heap.size+1+1) (o:=11) (cs':=opCells 2 g0 false true g0 q.plain sc d sym st 0 0 e0 e0 0) rfl rfl rfl rfl k3 (by simp [opCells]) (by kernel_rfl) (by simp [Value.oneCell']) rfl ?_;intro w5 hb5 hf5))
 have hF1:=(hF0.then_new s3 (fun x hx e=>by omega)).then_new hf5 (fun x hx e=>by omega)
 replace k0:=hf5.heap k0' (by omega)
 replace k1:=hf5.heap k1' (by omega)
 replace k2:=hb5
 clear c0 c2 z2 k3 k0' k1' s3 l0 l1 l2 hf5 hb5
 have l0:=lt_of_heap k0
 have l1:=lt_of_heap k1
 have l2:=lt_of_heap k2
 have c0:=fun j=>cell_of_row _ _ j _ _ (0,0) k0
 go_wp2_with (first
  | (refine wpList_loadRow (b:=w.heap.size+1+1) rfl rfl rfl k2 Tryz.underlying45 rfl (by kernel_rfl) ?_)
  | (refine wpList_storeRow (b:=w.heap.size+1) rfl rfl rfl rfl k1 rfl (by kernel_rfl) (opCells_one _ _ _ _ _ _ _ _ _ _ _ _ _ _ _) ?_;intro w9 hb9 hf9))
 refine bodyPost_ret (results_cell_row rfl _ _ (w.heap.size+1) _ _ _ _ rfl hb9 Tryz.underlying45 rfl (by kernel_rfl)) rfl ⟨rfl,hF1.then_new hf9 (fun x hx e=>by omega)⟩
set_option maxHeartbeats 4000000 in
theorem plainMem_10 (w:World) (m:M) (r:R) (hb:m.base=some r) (hr:r.At w) (hi:m.index=none):Calls Tryz.prog 164 #[m.agg] w fun e w'=>e = .returned (.agg m.pcells)∧Fr nope w w':=by
 have hR:=fun W (hW:Fr nope w W)=>plainReg_calls W r (hr.nope hW)
 obtain ⟨T,v,hv⟩:=r.val_iface
 rw [hv] at hR
 obtain ⟨sym,st,d,x,y,sc⟩:=m
 simp only at hb hi
 subst hb hi
 have hp:M.pcells ⟨sym,st,d,some r,none,sc⟩=opCells 2 g0 true false r.plain g0 sc d sym st 0 0 e0 e0 0:=rfl
 rw [hp]
 simp only [M.agg,optV,hv]
 clear hp
 have hA:∀ x y z,_:=fun x y z=>alloc3 (w:=w) (x:=x) (y:=y) (z:=z) (Fr.refl nope _) (fun _ _ x=>x)
 go_enter Tryz.func164,Tryz.ntmps164
 go_upto_region 2 with (first
  | (refine wpList_storeRow (b:=w.heap.size+1+1) rfl rfl rfl rfl (hA _ _ _).2.2 rfl (by kernel_rfl) (by simp [Value.oneCell']) ?_;intro w3 hb3 hf3))
 have k0:=hf3.heap (hA _ _ _).1 (by omega)
 have k1:=hf3.heap (hA _ _ _).2.1 (by omega)
 have k2:w3.heap[w.heap.size+1+1]? = some (.cells (opCells 2 g0 false false g0 g0 sc d sym st 0 0 e0 e0 0) 45 (0,0)):=hb3
 have hF0:Fr nope w w3:=((((Fr.refl nope w).alloc _).alloc _).alloc _).then_new hf3 (fun x hx e=>by omega)
 clear hb3 hf3 hA
 have l0:=lt_of_heap k0
 have l1:=lt_of_heap k1
 have l2:=lt_of_heap k2
 have c0:=fun j=>cell_of_row _ _ j _ _ (0,0) k0
 go_wp2_with fail
 refine (hR _ hF0).mono ?_
 rintro e w4 ⟨rfl,hf4⟩
 replace k0:=hf4.heap k0 (fun x=>x)
 replace k1:=hf4.heap k1 (fun x=>x)
 replace k2:=hf4.heap k2 (fun x=>x)
 replace hF0:=hF0.then hf4
 clear c0 hf4
 replace l0:=lt_of_heap k0
 replace l1:=lt_of_heap k1
 replace l2:=lt_of_heap k2
 have c0:=fun j=>cell_of_row _ _ j _ _ (0,0) k0
 have c2:=fun j=>cell_of_row _ _ j _ _ (0,0) k2
 have z2:=frozen_row k2
 have s3:Fr (fun x=>x=w.heap.size+1+1) w4 (w4.setCell ⟨w.heap.size+1+1,5,none⟩ (.bool true)):=(Fr.refl (fun x=>x=w.heap.size+1+1) w4).setCell (.inl rfl) _
 have k3:=setCell_heap (k:=5) k2 (.bool true)
 have k0':=s3.heap k0 (by omega)
 have k1':=s3.heap k1 (by omega)
 unfold G.agg
 go_upto_region 4 with (first
  | (refine wpList_store4 (b:=w.heap.size+1+1) (o:=7) (cs':=opCells 2 g0 true false r.plain g0 sc d sym st 0 0 e0 e0 0) rfl rfl rfl rfl k3 (by simp [opCells]) (by kernel_rfl) (by simp [Value.oneCell']) rfl ?_;intro w5 hb5 hf5))
 have hF1:=(hF0.then_new s3 (fun x hx e=>by omega)).then_new hf5 (fun x hx e=>by omega)
 replace k0:=hf5.heap k0' (by omega)
 replace k1:=hf5.heap k1' (by omega)
 replace k2:=hb5
 clear c0 c2 z2 k3 k0' k1' s3 l0 l1 l2 hf5 hb5
 have l0:=lt_of_heap k0
 have l1:=lt_of_heap k1
 have l2:=lt_of_heap k2
 have c0:=fun j=>cell_of_row _ _ j _ _ (0,0) k0
 go_wp2_with (first
  | (refine wpList_loadRow (b:=w.heap.size+1+1) rfl rfl rfl k2 Tryz.underlying45 rfl (by kernel_rfl) ?_)
  | (refine wpList_storeRow (b:=w.heap.size+1) rfl rfl rfl rfl k1 rfl (by kernel_rfl) (opCells_one _ _ _ _ _ _ _ _ _ _ _ _ _ _ _) ?_;intro w9 hb9 hf9))
 refine bodyPost_ret (results_cell_row rfl _ _ (w.heap.size+1) _ _ _ _ rfl hb9 Tryz.underlying45 rfl (by kernel_rfl)) rfl ⟨rfl,hF1.then_new hf9 (fun x hx e=>by omega)⟩
set_option maxHeartbeats 4000000 in
theorem plainMem_11 (w:World) (m:M) (r:R) (q:R) (hb:m.base=some r) (hr:r.At w) (hi:m.index=some q) (hq:q.At w):Calls Tryz.prog 164 #[m.agg] w fun e w'=>e = .returned (.agg m.pcells)∧Fr nope w w':=by
 have hR:=fun W (hW:Fr nope w W)=>plainReg_calls W r (hr.nope hW)
 obtain ⟨T,v,hv⟩:=r.val_iface
 rw [hv] at hR
 have hI:=fun W (hW:Fr nope w W)=>plainReg_calls W q (hq.nope hW)
 obtain ⟨T',v',hv'⟩:=q.val_iface
 rw [hv'] at hI
 obtain ⟨sym,st,d,x,y,sc⟩:=m
 simp only at hb hi
 subst hb hi
 have hp:M.pcells ⟨sym,st,d,some r,some q,sc⟩=opCells 2 g0 true true r.plain q.plain sc d sym st 0 0 e0 e0 0:=rfl
 rw [hp]
 simp only [M.agg,optV,hv,hv']
 clear hp
 have hA:∀ x y z,_:=fun x y z=>alloc3 (w:=w) (x:=x) (y:=y) (z:=z) (Fr.refl nope _) (fun _ _ x=>x)
 go_enter Tryz.func164,Tryz.ntmps164
 go_upto_region 2 with (first
  | (refine wpList_storeRow (b:=w.heap.size+1+1) rfl rfl rfl rfl (hA _ _ _).2.2 rfl (by kernel_rfl) (by simp [Value.oneCell']) ?_;intro w3 hb3 hf3))
 have k0:=hf3.heap (hA _ _ _).1 (by omega)
 have k1:=hf3.heap (hA _ _ _).2.1 (by omega)
 have k2:w3.heap[w.heap.size+1+1]? = some (.cells (opCells 2 g0 false false g0 g0 sc d sym st 0 0 e0 e0 0) 45 (0,0)):=hb3
 have hF0:Fr nope w w3:=((((Fr.refl nope w).alloc _).alloc _).alloc _).then_new hf3 (fun x hx e=>by omega)
 clear hb3 hf3 hA
 have l0:=lt_of_heap k0
 have l1:=lt_of_heap k1
 have l2:=lt_of_heap k2
 have c0:=fun j=>cell_of_row _ _ j _ _ (0,0) k0
 go_wp2_with fail
 refine (hR _ hF0).mono ?_
 rintro e w4 ⟨rfl,hf4⟩
 replace k0:=hf4.heap k0 (fun x=>x)
 replace k1:=hf4.heap k1 (fun x=>x)
 replace k2:=hf4.heap k2 (fun x=>x)
 replace hF0:=hF0.then hf4
 clear c0 hf4
 replace l0:=lt_of_heap k0
 replace l1:=lt_of_heap k1
 replace l2:=lt_of_heap k2
 have c0:=fun j=>cell_of_row _ _ j _ _ (0,0) k0
 have c2:=fun j=>cell_of_row _ _ j _ _ (0,0) k2
 have z2:=frozen_row k2
 have s3:Fr (fun x=>x=w.heap.size+1+1) w4 (w4.setCell ⟨w.heap.size+1+1,5,none⟩ (.bool true)):=(Fr.refl (fun x=>x=w.heap.size+1+1) w4).setCell (.inl rfl) _
 have k3:=setCell_heap (k:=5) k2 (.bool true)
 have k0':=s3.heap k0 (by omega)
 have k1':=s3.heap k1 (by omega)
 unfold G.agg
 go_upto_region 4 with (first
  | (refine wpList_store4 (b:=w.heap.size+1+1) (o:=7) (cs':=opCells 2 g0 true false r.plain g0 sc d sym st 0 0 e0 e0 0) rfl rfl rfl rfl k3 (by simp [opCells]) (by kernel_rfl) (by simp [Value.oneCell']) rfl ?_;intro w5 hb5 hf5))
 have hF1:=(hF0.then_new s3 (fun x hx e=>by omega)).then_new hf5 (fun x hx e=>by omega)
 replace k0:=hf5.heap k0' (by omega)
 replace k1:=hf5.heap k1' (by omega)
 replace k2:=hb5
 clear c0 c2 z2 k3 k0' k1' s3 l0 l1 l2 hf5 hb5
 have l0:=lt_of_heap k0
 have l1:=lt_of_heap k1
 have l2:=lt_of_heap k2
 have c0:=fun j=>cell_of_row _ _ j _ _ (0,0) k0
 go_wp2_with fail
 refine (hI _ hF1).mono ?_
 rintro e w4' ⟨rfl,hf4⟩
 replace k0:=hf4.heap k0 (fun x=>x)
 replace k1:=hf4.heap k1 (fun x=>x)
 replace k2:=hf4.heap k2 (fun x=>x)
 replace hF1:=hF1.then hf4
 clear c0 hf4
 replace l0:=lt_of_heap k0
 replace l1:=lt_of_heap k1
 replace l2:=lt_of_heap k2
 have c0:=fun j=>cell_of_row _ _ j _ _ (0,0) k0
 have c2:=fun j=>cell_of_row _ _ j _ _ (0,0) k2
 have z2:=frozen_row k2
 have s3:Fr (fun x=>x=w.heap.size+1+1) w4' (w4'.setCell ⟨w.heap.size+1+1,6,none⟩ (.bool true)):=(Fr.refl (fun x=>x=w.heap.size+1+1) w4').setCell (.inl rfl) _
 have k3:=setCell_heap (k:=6) k2 (.bool true)
 have k0':=s3.heap k0 (by omega)
 have k1':=s3.heap k1 (by omega)
 unfold G.agg
 go_upto_region 6 with (first
  | (refine wpList_store4 (b:=w.heap.size+1+1) (o:=11) (cs':=opCells 2 g0 true true r.plain q.plain sc d sym st 0 0 e0 e0 0) rfl rfl rfl rfl k3 (by simp [opCells]) (by kernel_rfl) (by simp [Value.oneCell']) rfl ?_;intro w6 hb6 hf6))
 have hF2:=(hF1.then_new s3 (fun x hx e=>by omega)).then_new hf6 (fun x hx e=>by omega)
 replace k0:=hf6.heap k0' (by omega)
 replace k1:=hf6.heap k1' (by omega)
 replace k2:=hb6
 clear c0 c2 z2 k3 k0' k1' s3 l0 l1 l2 hf6 hb6
 have l0:=lt_of_heap k0
 have l1:=lt_of_heap k1
 have l2:=lt_of_heap k2
 have c0:=fun j=>cell_of_row _ _ j _ _ (0,0) k0
 go_wp2_with (first
  | (refine wpList_loadRow (b:=w.heap.size+1+1) rfl rfl rfl k2 Tryz.underlying45 rfl (by kernel_rfl) ?_)
  | (refine wpList_storeRow (b:=w.heap.size+1) rfl rfl rfl rfl k1 rfl (by kernel_rfl) (opCells_one _ _ _ _ _ _ _ _ _ _ _ _ _ _ _) ?_;intro w9 hb9 hf9))
 refine bodyPost_ret (results_cell_row rfl _ _ (w.heap.size+1) _ _ _ _ rfl hb9 Tryz.underlying45 rfl (by kernel_rfl)) rfl ⟨rfl,hF2.then_new hf9 (fun x hx e=>by omega)⟩
theorem plainMem_calls (w:World) (m:M) (hm:∀ r∈m.regs,r.At w):Calls Tryz.prog 164 #[m.agg] w fun e w'=>e = .returned (.agg m.pcells)∧Fr nope w w':=by
 cases hb:m.base with
 | none=>
  cases hi:m.index with
  | none=>exact plainMem_00 w m hb hi
  | some q=>exact plainMem_01 w m q hb hi (hm q (by simp [M.regs,hi]))
 | some r=>
  cases hi:m.index with
  | none=>exact plainMem_10 w m r hb (hm r (by simp [M.regs,hb])) hi
  | some q=>exact plainMem_11 w m r q hb (hm r (by simp [M.regs,hb])) hi (hm q (by simp [M.regs,hi]))
end
end Go.Proofs.YtpbeedabmjmdmaaGreatDoor
