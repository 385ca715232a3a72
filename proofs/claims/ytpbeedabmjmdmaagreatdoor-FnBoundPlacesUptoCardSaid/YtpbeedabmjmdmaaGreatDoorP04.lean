/- Part of the proof of a statement about pub-berthage: what its texts have in common. -/
import Derived.Test.YtpbeedabmjmdmaaGreatDoorP02
namespace Go.Proofs.YtpbeedabmjmdmaaGreatDoor
section
open Go Go.RowKit Bth
set_option maxRecDepth 100000
inductive CK where
 | I8
 | U8
 | I16
 | U16
 | I32
 | U32
 | I64
 | U64
 | F32
 | F64
 | String
structure C where
 k:CK
 n:Int
 s:ByteArray
def CK.ty:CK→TypeId
 | .I8=>310
 | .U8=>311
 | .I16=>313
 | .U16=>314
 | .I32=>315
 | .U32=>316
 | .I64=>317
 | .U64=>318
 | .F32=>320
 | .F64=>323
 | .String=>325
def C.pay (c:C):Value:=
 match c.k with
 | .I8=>.int .i8 c.n
 | .U8=>.int .u8 c.n
 | .I16=>.int .i16 c.n
 | .U16=>.int .u16 c.n
 | .I32=>.int .i32 c.n
 | .U32=>.int .u32 c.n
 | .I64=>.int .i64 c.n
 | .U64=>.int .u64 c.n
 | .F32=>.float .f32 c.n.toNat
 | .F64=>.float .f64 c.n.toNat
 | .String=>.string c.s
structure M where
 sym:ByteArray
 static:Bool
 disp:Int
 base:Option R
 index:Option R
 scale:Nat
inductive O where
 | reg (r:R)
 | mem (m:M)
 | con (c:C)
 | label (s:ByteArray)
 | rel (n:Int)
def optV:Option R→Value
 | none=>.nilIface
 | some r=>r.val
def M.agg (m:M):Value:=.agg #[.string m.sym,.bool m.static,.int .i64 m.disp,optV m.base,optV m.index,.int .u8 (m.scale:Int)]
def O.val:O→Value
 | .reg r=>r.val
 | .mem m=>.iface 197 m.agg
 | .con c=>.iface c.k.ty c.pay
 | .label s=>.iface 205 (.string s)
 | .rel n=>.iface 260 (.int .i32 n)
def O.isReg:O→Bool
 | .reg _=>true
 | _=>false
def O.isMem:O→Bool
 | .mem _=>true
 | _=>false
def O.isCon:O→Bool
 | .con _=>true
 | _=>false
theorem run_ta_fails {P:Program} {A T:TypeId} {want:Array (String × TypeId)} (hA:P.underlying A=some (.interface want))
  (hi:((P.info? T).any fun i=>want.toList.any fun p=>!i.methods.any fun m=>m.name == p.1 && m.sig == p.2)=true) (hz:∀ w,(zeroValue A).run P w = .ok .nilIface w) (w:World) (S:TypeId) (x:Value):
  (Instr.typeAssert (.iface T x) S A true).run P w = .ok (.tuple #[.nilIface,.bool false]) w:=by
 obtain ⟨i,hi,hm⟩:∃ i,P.info? T=some i∧(want.toList.any fun p=>!i.methods.any fun m=>m.name == p.1 && m.sig == p.2)=true:=by
  cases h:P.info? T with
  | none=>rw [h] at hi;cases hi
  | some i=>rw [h] at hi;exact ⟨i,rfl,hi⟩
 have hsome:∃ m,Instr.missingMethod want i.methods=some m:=by
  unfold Instr.missingMethod
  have hne:(want.toList.filter fun (p:String × TypeId)=>!i.methods.any fun m=>m.name == p.1 && m.sig == p.2).map (·.1)≠[]:=by
   intro e
   obtain ⟨p,hp,hq⟩:=List.any_eq_true.1 hm
   have:p∈want.toList.filter fun (p:String × TypeId)=>!i.methods.any fun m=>m.name == p.1 && m.sig == p.2:=List.mem_filter.2 ⟨hp,hq⟩
   rw [List.map_eq_nil_iff] at e
   rw [e] at this
   cases this
  have key:∀ l:List String,l≠[]→∃ m,(match l.partition (·.contains '.') with | (unexported,exported)=>Instr.least exported <|> Instr.least (unexported.map fun id=>(id.splitOn ".").getLastD id))=some m:=by
   intro l hl
   rw [List.partition_eq_filter_filter]
   simp only
   cases h1:l.filter (not ∘ fun s=>s.contains '.') with
   | cons a b=>exact ⟨_,rfl⟩
   | nil=>
    cases h2:l.filter (fun s=>s.contains '.') with
    | cons a b=>exact ⟨_,rfl⟩
    | nil=>
     exfalso
     cases l with
     | nil=>exact hl rfl
     | cons s l=>
      by_cases hs:s.contains '.'=true
      ·rw [List.filter_cons_of_pos (by simpa using hs)] at h2;cases h2
      ·rw [List.filter_cons_of_pos (by simpa using hs)] at h1;cases h1
  exact key _ hne
 obtain ⟨m,hm'⟩:=hsome
 simp [Instr.typeAssert,run_underlying hA,typeInfo,hi,Result.andThen,hm',hz w]
section
variable (w:World) (S:TypeId) (x:Value)
theorem ta_Register_gpv:(Instr.typeAssert (.iface 352 x) S 145 true).run Tryz.prog w = .ok (.tuple #[.iface 352 x,.bool true]) w:=by kernel_rfl
theorem ta_Register_vecv:(Instr.typeAssert (.iface 354 x) S 145 true).run Tryz.prog w = .ok (.tuple #[.iface 354 x,.bool true]) w:=by kernel_rfl
theorem ta_Register_opmaskv:(Instr.typeAssert (.iface 355 x) S 145 true).run Tryz.prog w = .ok (.tuple #[.iface 355 x,.bool true]) w:=by kernel_rfl
theorem ta_Register_virtual:(Instr.typeAssert (.iface 350 x) S 145 true).run Tryz.prog w = .ok (.tuple #[.iface 350 x,.bool true]) w:=by kernel_rfl
theorem ta_Register_gpp:(Instr.typeAssert (.iface 265 x) S 145 true).run Tryz.prog w = .ok (.tuple #[.iface 265 x,.bool true]) w:=by kernel_rfl
theorem ta_Register_vecp:(Instr.typeAssert (.iface 269 x) S 145 true).run Tryz.prog w = .ok (.tuple #[.iface 269 x,.bool true]) w:=by kernel_rfl
theorem ta_Register_opmaskp:(Instr.typeAssert (.iface 270 x) S 145 true).run Tryz.prog w = .ok (.tuple #[.iface 270 x,.bool true]) w:=by kernel_rfl
theorem ta_Register_register:(Instr.typeAssert (.iface 221 x) S 145 true).run Tryz.prog w = .ok (.tuple #[.iface 221 x,.bool true]) w:=by kernel_rfl
theorem ta_Register_Mem:(Instr.typeAssert (.iface 197 x) S 145 true).run Tryz.prog w = .ok (.tuple #[.nilIface,.bool false]) w:=run_ta_fails Tryz.underlying145 (by kernel_rfl) (fun w=>by kernel_rfl) w S x
theorem ta_Register_I8:(Instr.typeAssert (.iface 310 x) S 145 true).run Tryz.prog w = .ok (.tuple #[.nilIface,.bool false]) w:=run_ta_fails Tryz.underlying145 (by kernel_rfl) (fun w=>by kernel_rfl) w S x
theorem ta_Register_U8:(Instr.typeAssert (.iface 311 x) S 145 true).run Tryz.prog w = .ok (.tuple #[.nilIface,.bool false]) w:=run_ta_fails Tryz.underlying145 (by kernel_rfl) (fun w=>by kernel_rfl) w S x
theorem ta_Register_I16:(Instr.typeAssert (.iface 313 x) S 145 true).run Tryz.prog w = .ok (.tuple #[.nilIface,.bool false]) w:=run_ta_fails Tryz.underlying145 (by kernel_rfl) (fun w=>by kernel_rfl) w S x
theorem ta_Register_U16:(Instr.typeAssert (.iface 314 x) S 145 true).run Tryz.prog w = .ok (.tuple #[.nilIface,.bool false]) w:=run_ta_fails Tryz.underlying145 (by kernel_rfl) (fun w=>by kernel_rfl) w S x
theorem ta_Register_I32:(Instr.typeAssert (.iface 315 x) S 145 true).run Tryz.prog w = .ok (.tuple #[.nilIface,.bool false]) w:=run_ta_fails Tryz.underlying145 (by kernel_rfl) (fun w=>by kernel_rfl) w S x
theorem ta_Register_U32:(Instr.typeAssert (.iface 316 x) S 145 true).run Tryz.prog w = .ok (.tuple #[.nilIface,.bool false]) w:=run_ta_fails Tryz.underlying145 (by kernel_rfl) (fun w=>by kernel_rfl) w S x
theorem ta_Register_I64:(Instr.typeAssert (.iface 317 x) S 145 true).run Tryz.prog w = .ok (.tuple #[.nilIface,.bool false]) w:=run_ta_fails Tryz.underlying145 (by kernel_rfl) (fun w=>by kernel_rfl) w S x
theorem ta_Register_U64:(Instr.typeAssert (.iface 318 x) S 145 true).run Tryz.prog w = .ok (.tuple #[.nilIface,.bool false]) w:=run_ta_fails Tryz.underlying145 (by kernel_rfl) (fun w=>by kernel_rfl) w S x
theorem ta_Register_F32:(Instr.typeAssert (.iface 320 x) S 145 true).run Tryz.prog w = .ok (.tuple #[.nilIface,.bool false]) w:=run_ta_fails Tryz.underlying145 (by kernel_rfl) (fun w=>by kernel_rfl) w S x
theorem ta_Register_F64:(Instr.typeAssert (.iface 323 x) S 145 true).run Tryz.prog w = .ok (.tuple #[.nilIface,.bool false]) w:=run_ta_fails Tryz.underlying145 (by kernel_rfl) (fun w=>by kernel_rfl) w S x
theorem ta_Register_String:(Instr.typeAssert (.iface 325 x) S 145 true).run Tryz.prog w = .ok (.tuple #[.nilIface,.bool false]) w:=run_ta_fails Tryz.underlying145 (by kernel_rfl) (fun w=>by kernel_rfl) w S x
theorem ta_Register_LabelRef:(Instr.typeAssert (.iface 205 x) S 145 true).run Tryz.prog w = .ok (.tuple #[.nilIface,.bool false]) w:=run_ta_fails Tryz.underlying145 (by kernel_rfl) (fun w=>by kernel_rfl) w S x
theorem ta_Register_Rel:(Instr.typeAssert (.iface 260 x) S 145 true).run Tryz.prog w = .ok (.tuple #[.nilIface,.bool false]) w:=run_ta_fails Tryz.underlying145 (by kernel_rfl) (fun w=>by kernel_rfl) w S x
theorem ta_Constant_gpv:(Instr.typeAssert (.iface 352 x) S 259 true).run Tryz.prog w = .ok (.tuple #[.nilIface,.bool false]) w:=run_ta_fails Tryz.underlying259 (by kernel_rfl) (fun w=>by kernel_rfl) w S x
theorem ta_Constant_vecv:(Instr.typeAssert (.iface 354 x) S 259 true).run Tryz.prog w = .ok (.tuple #[.nilIface,.bool false]) w:=run_ta_fails Tryz.underlying259 (by kernel_rfl) (fun w=>by kernel_rfl) w S x
theorem ta_Constant_opmaskv:(Instr.typeAssert (.iface 355 x) S 259 true).run Tryz.prog w = .ok (.tuple #[.nilIface,.bool false]) w:=run_ta_fails Tryz.underlying259 (by kernel_rfl) (fun w=>by kernel_rfl) w S x
theorem ta_Constant_virtual:(Instr.typeAssert (.iface 350 x) S 259 true).run Tryz.prog w = .ok (.tuple #[.nilIface,.bool false]) w:=run_ta_fails Tryz.underlying259 (by kernel_rfl) (fun w=>by kernel_rfl) w S x
theorem ta_Constant_gpp:(Instr.typeAssert (.iface 265 x) S 259 true).run Tryz.prog w = .ok (.tuple #[.nilIface,.bool false]) w:=run_ta_fails Tryz.underlying259 (by kernel_rfl) (fun w=>by kernel_rfl) w S x
theorem ta_Constant_vecp:(Instr.typeAssert (.iface 269 x) S 259 true).run Tryz.prog w = .ok (.tuple #[.nilIface,.bool false]) w:=run_ta_fails Tryz.underlying259 (by kernel_rfl) (fun w=>by kernel_rfl) w S x
theorem ta_Constant_opmaskp:(Instr.typeAssert (.iface 270 x) S 259 true).run Tryz.prog w = .ok (.tuple #[.nilIface,.bool false]) w:=run_ta_fails Tryz.underlying259 (by kernel_rfl) (fun w=>by kernel_rfl) w S x
theorem ta_Constant_register:(Instr.typeAssert (.iface 221 x) S 259 true).run Tryz.prog w = .ok (.tuple #[.nilIface,.bool false]) w:=run_ta_fails Tryz.underlying259 (by kernel_rfl) (fun w=>by kernel_rfl) w S x
theorem ta_Constant_Mem:(Instr.typeAssert (.iface 197 x) S 259 true).run Tryz.prog w = .ok (.tuple #[.nilIface,.bool false]) w:=run_ta_fails Tryz.underlying259 (by kernel_rfl) (fun w=>by kernel_rfl) w S x
theorem ta_Constant_I8:(Instr.typeAssert (.iface 310 x) S 259 true).run Tryz.prog w = .ok (.tuple #[.iface 310 x,.bool true]) w:=by kernel_rfl
theorem ta_Constant_U8:(Instr.typeAssert (.iface 311 x) S 259 true).run Tryz.prog w = .ok (.tuple #[.iface 311 x,.bool true]) w:=by kernel_rfl
theorem ta_Constant_I16:(Instr.typeAssert (.iface 313 x) S 259 true).run Tryz.prog w = .ok (.tuple #[.iface 313 x,.bool true]) w:=by kernel_rfl
theorem ta_Constant_U16:(Instr.typeAssert (.iface 314 x) S 259 true).run Tryz.prog w = .ok (.tuple #[.iface 314 x,.bool true]) w:=by kernel_rfl
theorem ta_Constant_I32:(Instr.typeAssert (.iface 315 x) S 259 true).run Tryz.prog w = .ok (.tuple #[.iface 315 x,.bool true]) w:=by kernel_rfl
theorem ta_Constant_U32:(Instr.typeAssert (.iface 316 x) S 259 true).run Tryz.prog w = .ok (.tuple #[.iface 316 x,.bool true]) w:=by kernel_rfl
theorem ta_Constant_I64:(Instr.typeAssert (.iface 317 x) S 259 true).run Tryz.prog w = .ok (.tuple #[.iface 317 x,.bool true]) w:=by kernel_rfl
theorem ta_Constant_U64:(Instr.typeAssert (.iface 318 x) S 259 true).run Tryz.prog w = .ok (.tuple #[.iface 318 x,.bool true]) w:=by kernel_rfl
theorem ta_Constant_F32:(Instr.typeAssert (.iface 320 x) S 259 true).run Tryz.prog w = .ok (.tuple #[.iface 320 x,.bool true]) w:=by kernel_rfl
theorem ta_Constant_F64:(Instr.typeAssert (.iface 323 x) S 259 true).run Tryz.prog w = .ok (.tuple #[.iface 323 x,.bool true]) w:=by kernel_rfl
theorem ta_Constant_String:(Instr.typeAssert (.iface 325 x) S 259 true).run Tryz.prog w = .ok (.tuple #[.iface 325 x,.bool true]) w:=by kernel_rfl
theorem ta_Constant_LabelRef:(Instr.typeAssert (.iface 205 x) S 259 true).run Tryz.prog w = .ok (.tuple #[.nilIface,.bool false]) w:=run_ta_fails Tryz.underlying259 (by kernel_rfl) (fun w=>by kernel_rfl) w S x
theorem ta_Constant_Rel:(Instr.typeAssert (.iface 260 x) S 259 true).run Tryz.prog w = .ok (.tuple #[.nilIface,.bool false]) w:=run_ta_fails Tryz.underlying259 (by kernel_rfl) (fun w=>by kernel_rfl) w S x
theorem ta_Mem_gpv:(Instr.typeAssert (.iface 352 x) S 197 true).run Tryz.prog w = .ok (.tuple #[.agg #[.string ⟨#[]⟩,.bool false,.int .i64 0,.nilIface,.nilIface,.int .u8 0],.bool false]) w:=by kernel_rfl
theorem ta_Mem_vecv:(Instr.typeAssert (.iface 354 x) S 197 true).run Tryz.prog w = .ok (.tuple #[.agg #[.string ⟨#[]⟩,.bool false,.int .i64 0,.nilIface,.nilIface,.int .u8 0],.bool false]) w:=by kernel_rfl
theorem ta_Mem_opmaskv:(Instr.typeAssert (.iface 355 x) S 197 true).run Tryz.prog w = .ok (.tuple #[.agg #[.string ⟨#[]⟩,.bool false,.int .i64 0,.nilIface,.nilIface,.int .u8 0],.bool false]) w:=by kernel_rfl
theorem ta_Mem_virtual:(Instr.typeAssert (.iface 350 x) S 197 true).run Tryz.prog w = .ok (.tuple #[.agg #[.string ⟨#[]⟩,.bool false,.int .i64 0,.nilIface,.nilIface,.int .u8 0],.bool false]) w:=by kernel_rfl
theorem ta_Mem_gpp:(Instr.typeAssert (.iface 265 x) S 197 true).run Tryz.prog w = .ok (.tuple #[.agg #[.string ⟨#[]⟩,.bool false,.int .i64 0,.nilIface,.nilIface,.int .u8 0],.bool false]) w:=by kernel_rfl
theorem ta_Mem_vecp:(Instr.typeAssert (.iface 269 x) S 197 true).run Tryz.prog w = .ok (.tuple #[.agg #[.string ⟨#[]⟩,.bool false,.int .i64 0,.nilIface,.nilIface,.int .u8 0],.bool false]) w:=by kernel_rfl
theorem ta_Mem_opmaskp:(Instr.typeAssert (.iface 270 x) S 197 true).run Tryz.prog w = .ok (.tuple #[.agg #[.string ⟨#[]⟩,.bool false,.int .i64 0,.nilIface,.nilIface,.int .u8 0],.bool false]) w:=by kernel_rfl
theorem ta_Mem_register:(Instr.typeAssert (.iface 221 x) S 197 true).run Tryz.prog w = .ok (.tuple #[.agg #[.string ⟨#[]⟩,.bool false,.int .i64 0,.nilIface,.nilIface,.int .u8 0],.bool false]) w:=by kernel_rfl
theorem ta_Mem_Mem:(Instr.typeAssert (.iface 197 x) S 197 true).run Tryz.prog w = .ok (.tuple #[x,.bool true]) w:=by kernel_rfl
theorem ta_Mem_I8:(Instr.typeAssert (.iface 310 x) S 197 true).run Tryz.prog w = .ok (.tuple #[.agg #[.string ⟨#[]⟩,.bool false,.int .i64 0,.nilIface,.nilIface,.int .u8 0],.bool false]) w:=by kernel_rfl
theorem ta_Mem_U8:(Instr.typeAssert (.iface 311 x) S 197 true).run Tryz.prog w = .ok (.tuple #[.agg #[.string ⟨#[]⟩,.bool false,.int .i64 0,.nilIface,.nilIface,.int .u8 0],.bool false]) w:=by kernel_rfl
theorem ta_Mem_I16:(Instr.typeAssert (.iface 313 x) S 197 true).run Tryz.prog w = .ok (.tuple #[.agg #[.string ⟨#[]⟩,.bool false,.int .i64 0,.nilIface,.nilIface,.int .u8 0],.bool false]) w:=by kernel_rfl
theorem ta_Mem_U16:(Instr.typeAssert (.iface 314 x) S 197 true).run Tryz.prog w = .ok (.tuple #[.agg #[.string ⟨#[]⟩,.bool false,.int .i64 0,.nilIface,.nilIface,.int .u8 0],.bool false]) w:=by kernel_rfl
theorem ta_Mem_I32:(Instr.typeAssert (.iface 315 x) S 197 true).run Tryz.prog w = .ok (.tuple #[.agg #[.string ⟨#[]⟩,.bool false,.int .i64 0,.nilIface,.nilIface,.int .u8 0],.bool false]) w:=by kernel_rfl
theorem ta_Mem_U32:(Instr.typeAssert (.iface 316 x) S 197 true).run Tryz.prog w = .ok (.tuple #[.agg #[.string ⟨#[]⟩,.bool false,.int .i64 0,.nilIface,.nilIface,.int .u8 0],.bool false]) w:=by kernel_rfl
theorem ta_Mem_I64:(Instr.typeAssert (.iface 317 x) S 197 true).run Tryz.prog w = .ok (.tuple #[.agg #[.string ⟨#[]⟩,.bool false,.int .i64 0,.nilIface,.nilIface,.int .u8 0],.bool false]) w:=by kernel_rfl
theorem ta_Mem_U64:(Instr.typeAssert (.iface 318 x) S 197 true).run Tryz.prog w = .ok (.tuple #[.agg #[.string ⟨#[]⟩,.bool false,.int .i64 0,.nilIface,.nilIface,.int .u8 0],.bool false]) w:=by kernel_rfl
theorem ta_Mem_F32:(Instr.typeAssert (.iface 320 x) S 197 true).run Tryz.prog w = .ok (.tuple #[.agg #[.string ⟨#[]⟩,.bool false,.int .i64 0,.nilIface,.nilIface,.int .u8 0],.bool false]) w:=by kernel_rfl
theorem ta_Mem_F64:(Instr.typeAssert (.iface 323 x) S 197 true).run Tryz.prog w = .ok (.tuple #[.agg #[.string ⟨#[]⟩,.bool false,.int .i64 0,.nilIface,.nilIface,.int .u8 0],.bool false]) w:=by kernel_rfl
theorem ta_Mem_String:(Instr.typeAssert (.iface 325 x) S 197 true).run Tryz.prog w = .ok (.tuple #[.agg #[.string ⟨#[]⟩,.bool false,.int .i64 0,.nilIface,.nilIface,.int .u8 0],.bool false]) w:=by kernel_rfl
theorem ta_Mem_LabelRef:(Instr.typeAssert (.iface 205 x) S 197 true).run Tryz.prog w = .ok (.tuple #[.agg #[.string ⟨#[]⟩,.bool false,.int .i64 0,.nilIface,.nilIface,.int .u8 0],.bool false]) w:=by kernel_rfl
theorem ta_Mem_Rel:(Instr.typeAssert (.iface 260 x) S 197 true).run Tryz.prog w = .ok (.tuple #[.agg #[.string ⟨#[]⟩,.bool false,.int .i64 0,.nilIface,.nilIface,.int .u8 0],.bool false]) w:=by kernel_rfl
theorem ta_LabelRef_gpv:(Instr.typeAssert (.iface 352 x) S 205 true).run Tryz.prog w = .ok (.tuple #[.string ⟨#[]⟩,.bool false]) w:=by kernel_rfl
theorem ta_LabelRef_vecv:(Instr.typeAssert (.iface 354 x) S 205 true).run Tryz.prog w = .ok (.tuple #[.string ⟨#[]⟩,.bool false]) w:=by kernel_rfl
theorem ta_LabelRef_opmaskv:(Instr.typeAssert (.iface 355 x) S 205 true).run Tryz.prog w = .ok (.tuple #[.string ⟨#[]⟩,.bool false]) w:=by kernel_rfl
theorem ta_LabelRef_virtual:(Instr.typeAssert (.iface 350 x) S 205 true).run Tryz.prog w = .ok (.tuple #[.string ⟨#[]⟩,.bool false]) w:=by kernel_rfl
theorem ta_LabelRef_gpp:(Instr.typeAssert (.iface 265 x) S 205 true).run Tryz.prog w = .ok (.tuple #[.string ⟨#[]⟩,.bool false]) w:=by kernel_rfl
theorem ta_LabelRef_vecp:(Instr.typeAssert (.iface 269 x) S 205 true).run Tryz.prog w = .ok (.tuple #[.string ⟨#[]⟩,.bool false]) w:=by kernel_rfl
theorem ta_LabelRef_opmaskp:(Instr.typeAssert (.iface 270 x) S 205 true).run Tryz.prog w = .ok (.tuple #[.string ⟨#[]⟩,.bool false]) w:=by kernel_rfl
theorem ta_LabelRef_register:(Instr.typeAssert (.iface 221 x) S 205 true).run Tryz.prog w = .ok (.tuple #[.string ⟨#[]⟩,.bool false]) w:=by kernel_rfl
theorem ta_LabelRef_Mem:(Instr.typeAssert (.iface 197 x) S 205 true).run Tryz.prog w = .ok (.tuple #[.string ⟨#[]⟩,.bool false]) w:=by kernel_rfl
theorem ta_LabelRef_I8:(Instr.typeAssert (.iface 310 x) S 205 true).run Tryz.prog w = .ok (.tuple #[.string ⟨#[]⟩,.bool false]) w:=by kernel_rfl
theorem ta_LabelRef_U8:(Instr.typeAssert (.iface 311 x) S 205 true).run Tryz.prog w = .ok (.tuple #[.string ⟨#[]⟩,.bool false]) w:=by kernel_rfl
theorem ta_LabelRef_I16:(Instr.typeAssert (.iface 313 x) S 205 true).run Tryz.prog w = .ok (.tuple #[.string ⟨#[]⟩,.bool false]) w:=by kernel_rfl
theorem ta_LabelRef_U16:(Instr.typeAssert (.iface 314 x) S 205 true).run Tryz.prog w = .ok (.tuple #[.string ⟨#[]⟩,.bool false]) w:=by kernel_rfl
theorem ta_LabelRef_I32:(Instr.typeAssert (.iface 315 x) S 205 true).run Tryz.prog w = .ok (.tuple #[.string ⟨#[]⟩,.bool false]) w:=by kernel_rfl
theorem ta_LabelRef_U32:(Instr.typeAssert (.iface 316 x) S 205 true).run Tryz.prog w = .ok (.tuple #[.string ⟨#[]⟩,.bool false]) w:=by kernel_rfl
theorem ta_LabelRef_I64:(Instr.typeAssert (.iface 317 x) S 205 true).run Tryz.prog w = .ok (.tuple #[.string ⟨#[]⟩,.bool false]) w:=by kernel_rfl
theorem ta_LabelRef_U64:(Instr.typeAssert (.iface 318 x) S 205 true).run Tryz.prog w = .ok (.tuple #[.string ⟨#[]⟩,.bool false]) w:=by kernel_rfl
theorem ta_LabelRef_F32:(Instr.typeAssert (.iface 320 x) S 205 true).run Tryz.prog w = .ok (.tuple #[.string ⟨#[]⟩,.bool false]) w:=by kernel_rfl
theorem ta_LabelRef_F64:(Instr.typeAssert (.iface 323 x) S 205 true).run Tryz.prog w = .ok (.tuple #[.string ⟨#[]⟩,.bool false]) w:=by kernel_rfl
theorem ta_LabelRef_String:(Instr.typeAssert (.iface 325 x) S 205 true).run Tryz.prog w = .ok (.tuple #[.string ⟨#[]⟩,.bool false]) w:=by kernel_rfl
theorem ta_LabelRef_LabelRef:(Instr.typeAssert (.iface 205 x) S 205 true).run Tryz.prog w = .ok (.tuple #[x,.bool true]) w:=by kernel_rfl
theorem ta_LabelRef_Rel:(Instr.typeAssert (.iface 260 x) S 205 true).run Tryz.prog w = .ok (.tuple #[.string ⟨#[]⟩,.bool false]) w:=by kernel_rfl
theorem ta_Rel_gpv:(Instr.typeAssert (.iface 352 x) S 260 true).run Tryz.prog w = .ok (.tuple #[.int .i32 0,.bool false]) w:=by kernel_rfl
theorem ta_Rel_vecv:(Instr.typeAssert (.iface 354 x) S 260 true).run Tryz.prog w = .ok (.tuple #[.int .i32 0,.bool false]) w:=by kernel_rfl
theorem ta_Rel_opmaskv:(Instr.typeAssert (.iface 355 x) S 260 true).run Tryz.prog w = .ok (.tuple #[.int .i32 0,.bool false]) w:=by kernel_rfl
theorem ta_Rel_virtual:(Instr.typeAssert (.iface 350 x) S 260 true).run Tryz.prog w = .ok (.tuple #[.int .i32 0,.bool false]) w:=by kernel_rfl
theorem ta_Rel_gpp:(Instr.typeAssert (.iface 265 x) S 260 true).run Tryz.prog w = .ok (.tuple #[.int .i32 0,.bool false]) w:=by kernel_rfl
theorem ta_Rel_vecp:(Instr.typeAssert (.iface 269 x) S 260 true).run Tryz.prog w = .ok (.tuple #[.int .i32 0,.bool false]) w:=by kernel_rfl
theorem ta_Rel_opmaskp:(Instr.typeAssert (.iface 270 x) S 260 true).run Tryz.prog w = .ok (.tuple #[.int .i32 0,.bool false]) w:=by kernel_rfl
theorem ta_Rel_register:(Instr.typeAssert (.iface 221 x) S 260 true).run Tryz.prog w = .ok (.tuple #[.int .i32 0,.bool false]) w:=by kernel_rfl
theorem ta_Rel_Mem:(Instr.typeAssert (.iface 197 x) S 260 true).run Tryz.prog w = .ok (.tuple #[.int .i32 0,.bool false]) w:=by kernel_rfl
theorem ta_Rel_I8:(Instr.typeAssert (.iface 310 x) S 260 true).run Tryz.prog w = .ok (.tuple #[.int .i32 0,.bool false]) w:=by kernel_rfl
theorem ta_Rel_U8:(Instr.typeAssert (.iface 311 x) S 260 true).run Tryz.prog w = .ok (.tuple #[.int .i32 0,.bool false]) w:=by kernel_rfl
theorem ta_Rel_I16:(Instr.typeAssert (.iface 313 x) S 260 true).run Tryz.prog w = .ok (.tuple #[.int .i32 0,.bool false]) w:=by kernel_rfl
theorem ta_Rel_U16:(Instr.typeAssert (.iface 314 x) S 260 true).run Tryz.prog w = .ok (.tuple #[.int .i32 0,.bool false]) w:=by kernel_rfl
theorem ta_Rel_I32:(Instr.typeAssert (.iface 315 x) S 260 true).run Tryz.prog w = .ok (.tuple #[.int .i32 0,.bool false]) w:=by kernel_rfl
theorem ta_Rel_U32:(Instr.typeAssert (.iface 316 x) S 260 true).run Tryz.prog w = .ok (.tuple #[.int .i32 0,.bool false]) w:=by kernel_rfl
theorem ta_Rel_I64:(Instr.typeAssert (.iface 317 x) S 260 true).run Tryz.prog w = .ok (.tuple #[.int .i32 0,.bool false]) w:=by kernel_rfl
theorem ta_Rel_U64:(Instr.typeAssert (.iface 318 x) S 260 true).run Tryz.prog w = .ok (.tuple #[.int .i32 0,.bool false]) w:=by kernel_rfl
theorem ta_Rel_F32:(Instr.typeAssert (.iface 320 x) S 260 true).run Tryz.prog w = .ok (.tuple #[.int .i32 0,.bool false]) w:=by kernel_rfl
theorem ta_Rel_F64:(Instr.typeAssert (.iface 323 x) S 260 true).run Tryz.prog w = .ok (.tuple #[.int .i32 0,.bool false]) w:=by kernel_rfl
theorem ta_Rel_String:(Instr.typeAssert (.iface 325 x) S 260 true).run Tryz.prog w = .ok (.tuple #[.int .i32 0,.bool false]) w:=by kernel_rfl
theorem ta_Rel_LabelRef:(Instr.typeAssert (.iface 205 x) S 260 true).run Tryz.prog w = .ok (.tuple #[.int .i32 0,.bool false]) w:=by kernel_rfl
theorem ta_Rel_Rel:(Instr.typeAssert (.iface 260 x) S 260 true).run Tryz.prog w = .ok (.tuple #[x,.bool true]) w:=by kernel_rfl
theorem ta_Physical_gpv:(Instr.typeAssert (.iface 352 x) S 147 true).run Tryz.prog w = .ok (.tuple #[.nilIface,.bool false]) w:=run_ta_fails Tryz.underlying147 (by kernel_rfl) (fun w=>by kernel_rfl) w S x
theorem ta_Physical_vecv:(Instr.typeAssert (.iface 354 x) S 147 true).run Tryz.prog w = .ok (.tuple #[.nilIface,.bool false]) w:=run_ta_fails Tryz.underlying147 (by kernel_rfl) (fun w=>by kernel_rfl) w S x
theorem ta_Physical_opmaskv:(Instr.typeAssert (.iface 355 x) S 147 true).run Tryz.prog w = .ok (.tuple #[.nilIface,.bool false]) w:=run_ta_fails Tryz.underlying147 (by kernel_rfl) (fun w=>by kernel_rfl) w S x
theorem ta_Physical_virtual:(Instr.typeAssert (.iface 350 x) S 147 true).run Tryz.prog w = .ok (.tuple #[.nilIface,.bool false]) w:=run_ta_fails Tryz.underlying147 (by kernel_rfl) (fun w=>by kernel_rfl) w S x
theorem ta_Physical_gpp:(Instr.typeAssert (.iface 265 x) S 147 true).run Tryz.prog w = .ok (.tuple #[.iface 265 x,.bool true]) w:=by kernel_rfl
theorem ta_Physical_vecp:(Instr.typeAssert (.iface 269 x) S 147 true).run Tryz.prog w = .ok (.tuple #[.iface 269 x,.bool true]) w:=by kernel_rfl
theorem ta_Physical_opmaskp:(Instr.typeAssert (.iface 270 x) S 147 true).run Tryz.prog w = .ok (.tuple #[.iface 270 x,.bool true]) w:=by kernel_rfl
theorem ta_Physical_register:(Instr.typeAssert (.iface 221 x) S 147 true).run Tryz.prog w = .ok (.tuple #[.iface 221 x,.bool true]) w:=by kernel_rfl
theorem ta_Virtual_gpv:(Instr.typeAssert (.iface 352 x) S 329 true).run Tryz.prog w = .ok (.tuple #[.iface 352 x,.bool true]) w:=by kernel_rfl
theorem ta_Virtual_vecv:(Instr.typeAssert (.iface 354 x) S 329 true).run Tryz.prog w = .ok (.tuple #[.iface 354 x,.bool true]) w:=by kernel_rfl
theorem ta_Virtual_opmaskv:(Instr.typeAssert (.iface 355 x) S 329 true).run Tryz.prog w = .ok (.tuple #[.iface 355 x,.bool true]) w:=by kernel_rfl
theorem ta_Virtual_virtual:(Instr.typeAssert (.iface 350 x) S 329 true).run Tryz.prog w = .ok (.tuple #[.iface 350 x,.bool true]) w:=by kernel_rfl
theorem ta_Virtual_gpp:(Instr.typeAssert (.iface 265 x) S 329 true).run Tryz.prog w = .ok (.tuple #[.nilIface,.bool false]) w:=run_ta_fails Tryz.underlying329 (by kernel_rfl) (fun w=>by kernel_rfl) w S x
theorem ta_Virtual_vecp:(Instr.typeAssert (.iface 269 x) S 329 true).run Tryz.prog w = .ok (.tuple #[.nilIface,.bool false]) w:=run_ta_fails Tryz.underlying329 (by kernel_rfl) (fun w=>by kernel_rfl) w S x
theorem ta_Virtual_opmaskp:(Instr.typeAssert (.iface 270 x) S 329 true).run Tryz.prog w = .ok (.tuple #[.nilIface,.bool false]) w:=run_ta_fails Tryz.underlying329 (by kernel_rfl) (fun w=>by kernel_rfl) w S x
theorem ta_Virtual_register:(Instr.typeAssert (.iface 221 x) S 329 true).run Tryz.prog w = .ok (.tuple #[.nilIface,.bool false]) w:=run_ta_fails Tryz.underlying329 (by kernel_rfl) (fun w=>by kernel_rfl) w S x
end
def zeroMem:Value:=.agg #[.string ⟨#[]⟩,.bool false,.int .i64 0,.nilIface,.nilIface,.int .u8 0]
section
variable (w:World) (S:TypeId)
theorem R.val_cases {p:Value→Prop} (r:R) (h1:∀ x,p (.iface 352 x)) (h2:∀ x,p (.iface 354 x)) (h3:∀ x,p (.iface 355 x)) (h4:∀ x,p (.iface 350 x)) (g1:∀ x,p (.iface 265 x)) (g2:∀ x,p (.iface 269 x)) (g3:∀ x,p (.iface 270 x)) (g4:∀ x,p (.iface 221 x)):p r.val:=by
 unfold R.val
 split
 ·unfold wrapV
  split
  ·exact h1 _
  ·exact h2 _
  ·exact h3 _
  ·exact h4 _
 ·unfold wrapP
  split
  ·exact g1 _
  ·exact g2 _
  ·exact g3 _
  ·exact g4 _
theorem O.ta_Register (o:O):(Instr.typeAssert o.val S 145 true).run Tryz.prog w = .ok (.tuple #[(if o.isReg then o.val else .nilIface),.bool o.isReg]) w:=by
 cases o with
 | reg r=>
  show (Instr.typeAssert (r.val) S 145 true).run Tryz.prog w = .ok (.tuple #[r.val,.bool true]) w
  exact R.val_cases (p:=fun v=>(Instr.typeAssert v S 145 true).run Tryz.prog w = .ok (.tuple #[v,.bool true]) w) r (ta_Register_gpv w S) (ta_Register_vecv w S) (ta_Register_opmaskv w S) (ta_Register_virtual w S) (ta_Register_gpp w S) (ta_Register_vecp w S) (ta_Register_opmaskp w S) (ta_Register_register w S)
 | mem m=>
  show (Instr.typeAssert (.iface 197 m.agg) S 145 true).run Tryz.prog w = .ok (.tuple #[.nilIface,.bool false]) w
  exact ta_Register_Mem w S _
 | con c=>
  obtain ⟨k,n,s⟩:=c
  cases k
  ·exact ta_Register_I8 w S _
  ·exact ta_Register_U8 w S _
  ·exact ta_Register_I16 w S _
  ·exact ta_Register_U16 w S _
  ·exact ta_Register_I32 w S _
  ·exact ta_Register_U32 w S _
  ·exact ta_Register_I64 w S _
  ·exact ta_Register_U64 w S _
  ·exact ta_Register_F32 w S _
  ·exact ta_Register_F64 w S _
  ·exact ta_Register_String w S _
 | label s=>exact ta_Register_LabelRef w S _
 | rel n=>exact ta_Register_Rel w S _
theorem O.ta_Constant (o:O):(Instr.typeAssert o.val S 259 true).run Tryz.prog w = .ok (.tuple #[(if o.isCon then o.val else .nilIface),.bool o.isCon]) w:=by
 cases o with
 | reg r=>
  show (Instr.typeAssert (r.val) S 259 true).run Tryz.prog w = .ok (.tuple #[.nilIface,.bool false]) w
  exact R.val_cases (p:=fun v=>(Instr.typeAssert v S 259 true).run Tryz.prog w = .ok (.tuple #[.nilIface,.bool false]) w) r (ta_Constant_gpv w S) (ta_Constant_vecv w S) (ta_Constant_opmaskv w S) (ta_Constant_virtual w S) (ta_Constant_gpp w S) (ta_Constant_vecp w S) (ta_Constant_opmaskp w S) (ta_Constant_register w S)
 | mem m=>
  show (Instr.typeAssert (.iface 197 m.agg) S 259 true).run Tryz.prog w = .ok (.tuple #[.nilIface,.bool false]) w
  exact ta_Constant_Mem w S _
 | con c=>
  obtain ⟨k,n,s⟩:=c
  cases k
  ·exact ta_Constant_I8 w S _
  ·exact ta_Constant_U8 w S _
  ·exact ta_Constant_I16 w S _
  ·exact ta_Constant_U16 w S _
  ·exact ta_Constant_I32 w S _
  ·exact ta_Constant_U32 w S _
  ·exact ta_Constant_I64 w S _
  ·exact ta_Constant_U64 w S _
  ·exact ta_Constant_F32 w S _
  ·exact ta_Constant_F64 w S _
  ·exact ta_Constant_String w S _
 | label s=>exact ta_Constant_LabelRef w S _
 | rel n=>exact ta_Constant_Rel w S _
def O.memAgg:O→Value
 | .mem m=>m.agg
 | _=>zeroMem
theorem O.ta_Mem (o:O):(Instr.typeAssert o.val S 197 true).run Tryz.prog w = .ok (.tuple #[o.memAgg,.bool o.isMem]) w:=by
 cases o with
 | reg r=>
  show (Instr.typeAssert (r.val) S 197 true).run Tryz.prog w = .ok (.tuple #[zeroMem,.bool false]) w
  exact R.val_cases (p:=fun v=>(Instr.typeAssert v S 197 true).run Tryz.prog w = .ok (.tuple #[zeroMem,.bool false]) w) r (ta_Mem_gpv w S) (ta_Mem_vecv w S) (ta_Mem_opmaskv w S) (ta_Mem_virtual w S) (ta_Mem_gpp w S) (ta_Mem_vecp w S) (ta_Mem_opmaskp w S) (ta_Mem_register w S)
 | mem m=>
  show (Instr.typeAssert (.iface 197 m.agg) S 197 true).run Tryz.prog w = .ok (.tuple #[m.agg,.bool true]) w
  exact ta_Mem_Mem w S _
 | con c=>
  obtain ⟨k,n,s⟩:=c
  cases k
  ·exact ta_Mem_I8 w S _
  ·exact ta_Mem_U8 w S _
  ·exact ta_Mem_I16 w S _
  ·exact ta_Mem_U16 w S _
  ·exact ta_Mem_I32 w S _
  ·exact ta_Mem_U32 w S _
  ·exact ta_Mem_I64 w S _
  ·exact ta_Mem_U64 w S _
  ·exact ta_Mem_F32 w S _
  ·exact ta_Mem_F64 w S _
  ·exact ta_Mem_String w S _
 | label s=>exact ta_Mem_LabelRef w S _
 | rel n=>exact ta_Mem_Rel w S _
def O.labelOf:O→ByteArray
 | .label s=>s
 | _=>⟨#[]⟩
def O.isLabel:O→Bool
 | .label _=>true
 | _=>false
theorem O.ta_LabelRef (o:O):(Instr.typeAssert o.val S 205 true).run Tryz.prog w = .ok (.tuple #[(.string o.labelOf),.bool o.isLabel]) w:=by
 cases o with
 | reg r=>
  show (Instr.typeAssert (r.val) S 205 true).run Tryz.prog w = .ok (.tuple #[.string ⟨#[]⟩,.bool false]) w
  exact R.val_cases (p:=fun v=>(Instr.typeAssert v S 205 true).run Tryz.prog w = .ok (.tuple #[.string ⟨#[]⟩,.bool false]) w) r (ta_LabelRef_gpv w S) (ta_LabelRef_vecv w S) (ta_LabelRef_opmaskv w S) (ta_LabelRef_virtual w S) (ta_LabelRef_gpp w S) (ta_LabelRef_vecp w S) (ta_LabelRef_opmaskp w S) (ta_LabelRef_register w S)
 | mem m=>
  show (Instr.typeAssert (.iface 197 m.agg) S 205 true).run Tryz.prog w = .ok (.tuple #[.string ⟨#[]⟩,.bool false]) w
  exact ta_LabelRef_Mem w S _
 | con c=>
  obtain ⟨k,n,s⟩:=c
  cases k
  ·exact ta_LabelRef_I8 w S _
  ·exact ta_LabelRef_U8 w S _
  ·exact ta_LabelRef_I16 w S _
  ·exact ta_LabelRef_U16 w S _
  ·exact ta_LabelRef_I32 w S _
  ·exact ta_LabelRef_U32 w S _
  ·exact ta_LabelRef_I64 w S _
  ·exact ta_LabelRef_U64 w S _
  ·exact ta_LabelRef_F32 w S _
  ·exact ta_LabelRef_F64 w S _
  ·exact ta_LabelRef_String w S _
 | label s=>exact ta_LabelRef_LabelRef w S _
 | rel n=>exact ta_LabelRef_Rel w S _
def O.relOf:O→Int
 | .rel n=>n
 | _=>0
def O.isRel:O→Bool
 | .rel _=>true
 | _=>false
theorem O.ta_Rel (o:O):(Instr.typeAssert o.val S 260 true).run Tryz.prog w = .ok (.tuple #[(.int .i32 o.relOf),.bool o.isRel]) w:=by
 cases o with
 | reg r=>
  show (Instr.typeAssert (r.val) S 260 true).run Tryz.prog w = .ok (.tuple #[.int .i32 0,.bool false]) w
  exact R.val_cases (p:=fun v=>(Instr.typeAssert v S 260 true).run Tryz.prog w = .ok (.tuple #[.int .i32 0,.bool false]) w) r (ta_Rel_gpv w S) (ta_Rel_vecv w S) (ta_Rel_opmaskv w S) (ta_Rel_virtual w S) (ta_Rel_gpp w S) (ta_Rel_vecp w S) (ta_Rel_opmaskp w S) (ta_Rel_register w S)
 | mem m=>
  show (Instr.typeAssert (.iface 197 m.agg) S 260 true).run Tryz.prog w = .ok (.tuple #[.int .i32 0,.bool false]) w
  exact ta_Rel_Mem w S _
 | con c=>
  obtain ⟨k,n,s⟩:=c
  cases k
  ·exact ta_Rel_I8 w S _
  ·exact ta_Rel_U8 w S _
  ·exact ta_Rel_I16 w S _
  ·exact ta_Rel_U16 w S _
  ·exact ta_Rel_I32 w S _
  ·exact ta_Rel_U32 w S _
  ·exact ta_Rel_I64 w S _
  ·exact ta_Rel_U64 w S _
  ·exact ta_Rel_F32 w S _
  ·exact ta_Rel_F64 w S _
  ·exact ta_Rel_String w S _
 | label s=>exact ta_Rel_LabelRef w S _
 | rel n=>exact ta_Rel_Rel w S _
theorem R.ta_Physical (r:R):(Instr.typeAssert r.val S 147 true).run Tryz.prog w = .ok (.tuple #[if r.virt then .nilIface else r.val,.bool (!r.virt)]) w:=by
 obtain ⟨virt,kind,idx,spec,fb,name,info⟩:=r
 cases virt
 ·show (Instr.typeAssert (wrapP kind _) S 147 true).run Tryz.prog w = .ok (.tuple #[wrapP kind _,.bool true]) w
  unfold wrapP
  split
  ·exact ta_Physical_gpp w S _
  ·exact ta_Physical_vecp w S _
  ·exact ta_Physical_opmaskp w S _
  ·exact ta_Physical_register w S _
 ·show (Instr.typeAssert (wrapV kind _) S 147 true).run Tryz.prog w = .ok (.tuple #[.nilIface,.bool false]) w
  unfold wrapV
  split
  ·exact ta_Physical_gpv w S _
  ·exact ta_Physical_vecv w S _
  ·exact ta_Physical_opmaskv w S _
  ·exact ta_Physical_virtual w S _
theorem R.ta_Virtual (r:R):(Instr.typeAssert r.val S 329 true).run Tryz.prog w = .ok (.tuple #[if r.virt then r.val else .nilIface,.bool r.virt]) w:=by
 obtain ⟨virt,kind,idx,spec,fb,name,info⟩:=r
 cases virt
 ·show (Instr.typeAssert (wrapP kind _) S 329 true).run Tryz.prog w = .ok (.tuple #[.nilIface,.bool false]) w
  unfold wrapP
  split
  ·exact ta_Virtual_gpp w S _
  ·exact ta_Virtual_vecp w S _
  ·exact ta_Virtual_opmaskp w S _
  ·exact ta_Virtual_register w S _
 ·show (Instr.typeAssert (wrapV kind _) S 329 true).run Tryz.prog w = .ok (.tuple #[wrapV kind _,.bool true]) w
  unfold wrapV
  split
  ·exact ta_Virtual_gpv w S _
  ·exact ta_Virtual_vecv w S _
  ·exact ta_Virtual_opmaskv w S _
  ·exact ta_Virtual_virtual w S _
end
end
end Go.Proofs.YtpbeedabmjmdmaaGreatDoor
