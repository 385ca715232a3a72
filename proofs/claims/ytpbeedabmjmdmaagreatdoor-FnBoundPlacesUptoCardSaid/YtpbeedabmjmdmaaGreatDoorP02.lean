/- Part of the proof of a statement about pub-berthage: what its texts have in common. -/
import Derived.Test.YtpbeedabmjmdmaaGreatDoorProg
import Derived.Lib.Hide
import Derived.Laws.BitsAllLaws
import Derived.Laws.BitsLemmas
import Derived.Deep.RegionWith
import Derived.Deep.RegionHeld3
import Derived.BigQuiet
import Derived.Deep.QuietTactic
import Derived.Test.YtpbeedabmjmdmaaGreatDoorP00
namespace Go.Proofs.YtpbeedabmjmdmaaGreatDoor
section
open Go Go.RowKit Bth
structure R where
 virt:Bool
 kind:Nat
 idx:Nat
 spec:Nat
 fb:Nat
 name:ByteArray
 info:Nat
structure R.Ok (r:R):Prop where
 kind:r.kind < 256
 idx:r.idx < 65536
 spec:r.spec < 65536
 info:r.info < 256
def R.coreV (r:R):Value:=.agg #[.int .u16 (r.idx:Int),.int .u8 (r.kind:Int),.int .u16 (r.spec:Int)]
def R.coreP (r:R):Value:=.agg #[.pointer (some ⟨r.fb,0,none⟩),.int .u16 (r.idx:Int),.string r.name,.int .u8 (r.info:Int),.int .u16 (r.spec:Int)]
def wrapV (kind:Nat) (x:Value):Value:=
 match kind with
 | 1=>.iface 352 (.agg #[x])
 | 2=>.iface 354 (.agg #[x,.nilIface])
 | 3=>.iface 355 (.agg #[x])
 | _=>x
def wrapP (kind:Nat) (x:Value):Value:=
 match kind with
 | 1=>.iface 265 (.agg #[x])
 | 2=>.iface 269 (.agg #[x,.nilIface])
 | 3=>.iface 270 (.agg #[x])
 | _=>x
def R.core (r:R):Value:=if r.virt then r.coreV else r.coreP
def R.val (r:R):Value:=if r.virt then wrapV r.kind (.iface 350 r.coreV) else wrapP r.kind (.iface 221 r.coreP)
def R.id (r:R):Nat:=(if r.virt then 1 else 0)+r.kind*256+r.idx*65536
theorem sizeTypes:Tryz.prog.types.size+Made.depth=479:=by kernel_rfl
section
variable (w:World) (i k s f:Int) (b:Nat) (n:ByteArray)
theorem m_gpv_ID:(method 479 352 (.agg #[.iface 350 (.agg #[.int .u16 i,.int .u8 k,.int .u16 s])]) "ID").run Tryz.prog w = .ok (274,.agg #[.int .u16 i,.int .u8 k,.int .u16 s]) w:=by kernel_rfl
theorem m_vecv_ID:(method 479 354 (.agg #[.iface 350 (.agg #[.int .u16 i,.int .u8 k,.int .u16 s]),.nilIface]) "ID").run Tryz.prog w = .ok (274,.agg #[.int .u16 i,.int .u8 k,.int .u16 s]) w:=by kernel_rfl
theorem m_opmaskv_ID:(method 479 355 (.agg #[.iface 350 (.agg #[.int .u16 i,.int .u8 k,.int .u16 s])]) "ID").run Tryz.prog w = .ok (274,.agg #[.int .u16 i,.int .u8 k,.int .u16 s]) w:=by kernel_rfl
theorem m_virtual_ID:(method 479 350 (.agg #[.int .u16 i,.int .u8 k,.int .u16 s]) "ID").run Tryz.prog w = .ok (274,.agg #[.int .u16 i,.int .u8 k,.int .u16 s]) w:=by kernel_rfl
theorem m_gpp_ID:(method 479 265 (.agg #[.iface 221 (.agg #[.pointer (some ⟨b,0,none⟩),.int .u16 i,.string n,.int .u8 f,.int .u16 s])]) "ID").run Tryz.prog w = .ok (218,.agg #[.pointer (some ⟨b,0,none⟩),.int .u16 i,.string n,.int .u8 f,.int .u16 s]) w:=by kernel_rfl
theorem m_vecp_ID:(method 479 269 (.agg #[.iface 221 (.agg #[.pointer (some ⟨b,0,none⟩),.int .u16 i,.string n,.int .u8 f,.int .u16 s]),.nilIface]) "ID").run Tryz.prog w = .ok (218,.agg #[.pointer (some ⟨b,0,none⟩),.int .u16 i,.string n,.int .u8 f,.int .u16 s]) w:=by kernel_rfl
theorem m_opmaskp_ID:(method 479 270 (.agg #[.iface 221 (.agg #[.pointer (some ⟨b,0,none⟩),.int .u16 i,.string n,.int .u8 f,.int .u16 s])]) "ID").run Tryz.prog w = .ok (218,.agg #[.pointer (some ⟨b,0,none⟩),.int .u16 i,.string n,.int .u8 f,.int .u16 s]) w:=by kernel_rfl
theorem m_register_ID:(method 479 221 (.agg #[.pointer (some ⟨b,0,none⟩),.int .u16 i,.string n,.int .u8 f,.int .u16 s]) "ID").run Tryz.prog w = .ok (218,.agg #[.pointer (some ⟨b,0,none⟩),.int .u16 i,.string n,.int .u8 f,.int .u16 s]) w:=by kernel_rfl
theorem m_gpv_Kind:(method 479 352 (.agg #[.iface 350 (.agg #[.int .u16 i,.int .u8 k,.int .u16 s])]) "Kind").run Tryz.prog w = .ok (275,.agg #[.int .u16 i,.int .u8 k,.int .u16 s]) w:=by kernel_rfl
theorem m_vecv_Kind:(method 479 354 (.agg #[.iface 350 (.agg #[.int .u16 i,.int .u8 k,.int .u16 s]),.nilIface]) "Kind").run Tryz.prog w = .ok (275,.agg #[.int .u16 i,.int .u8 k,.int .u16 s]) w:=by kernel_rfl
theorem m_opmaskv_Kind:(method 479 355 (.agg #[.iface 350 (.agg #[.int .u16 i,.int .u8 k,.int .u16 s])]) "Kind").run Tryz.prog w = .ok (275,.agg #[.int .u16 i,.int .u8 k,.int .u16 s]) w:=by kernel_rfl
theorem m_virtual_Kind:(method 479 350 (.agg #[.int .u16 i,.int .u8 k,.int .u16 s]) "Kind").run Tryz.prog w = .ok (275,.agg #[.int .u16 i,.int .u8 k,.int .u16 s]) w:=by kernel_rfl
theorem m_gpp_Kind:(method 479 265 (.agg #[.iface 221 (.agg #[.pointer (some ⟨b,0,none⟩),.int .u16 i,.string n,.int .u8 f,.int .u16 s])]) "Kind").run Tryz.prog w = .ok (220,.agg #[.pointer (some ⟨b,0,none⟩),.int .u16 i,.string n,.int .u8 f,.int .u16 s]) w:=by kernel_rfl
theorem m_vecp_Kind:(method 479 269 (.agg #[.iface 221 (.agg #[.pointer (some ⟨b,0,none⟩),.int .u16 i,.string n,.int .u8 f,.int .u16 s]),.nilIface]) "Kind").run Tryz.prog w = .ok (220,.agg #[.pointer (some ⟨b,0,none⟩),.int .u16 i,.string n,.int .u8 f,.int .u16 s]) w:=by kernel_rfl
theorem m_opmaskp_Kind:(method 479 270 (.agg #[.iface 221 (.agg #[.pointer (some ⟨b,0,none⟩),.int .u16 i,.string n,.int .u8 f,.int .u16 s])]) "Kind").run Tryz.prog w = .ok (220,.agg #[.pointer (some ⟨b,0,none⟩),.int .u16 i,.string n,.int .u8 f,.int .u16 s]) w:=by kernel_rfl
theorem m_register_Kind:(method 479 221 (.agg #[.pointer (some ⟨b,0,none⟩),.int .u16 i,.string n,.int .u8 f,.int .u16 s]) "Kind").run Tryz.prog w = .ok (220,.agg #[.pointer (some ⟨b,0,none⟩),.int .u16 i,.string n,.int .u8 f,.int .u16 s]) w:=by kernel_rfl
theorem m_gpv_Mask:(method 479 352 (.agg #[.iface 350 (.agg #[.int .u16 i,.int .u8 k,.int .u16 s])]) "Mask").run Tryz.prog w = .ok (190,.int .u16 s) w:=by kernel_rfl
theorem m_vecv_Mask:(method 479 354 (.agg #[.iface 350 (.agg #[.int .u16 i,.int .u8 k,.int .u16 s]),.nilIface]) "Mask").run Tryz.prog w = .ok (190,.int .u16 s) w:=by kernel_rfl
theorem m_opmaskv_Mask:(method 479 355 (.agg #[.iface 350 (.agg #[.int .u16 i,.int .u8 k,.int .u16 s])]) "Mask").run Tryz.prog w = .ok (190,.int .u16 s) w:=by kernel_rfl
theorem m_virtual_Mask:(method 479 350 (.agg #[.int .u16 i,.int .u8 k,.int .u16 s]) "Mask").run Tryz.prog w = .ok (190,.int .u16 s) w:=by kernel_rfl
theorem m_gpp_Mask:(method 479 265 (.agg #[.iface 221 (.agg #[.pointer (some ⟨b,0,none⟩),.int .u16 i,.string n,.int .u8 f,.int .u16 s])]) "Mask").run Tryz.prog w = .ok (190,.int .u16 s) w:=by kernel_rfl
theorem m_vecp_Mask:(method 479 269 (.agg #[.iface 221 (.agg #[.pointer (some ⟨b,0,none⟩),.int .u16 i,.string n,.int .u8 f,.int .u16 s]),.nilIface]) "Mask").run Tryz.prog w = .ok (190,.int .u16 s) w:=by kernel_rfl
theorem m_opmaskp_Mask:(method 479 270 (.agg #[.iface 221 (.agg #[.pointer (some ⟨b,0,none⟩),.int .u16 i,.string n,.int .u8 f,.int .u16 s])]) "Mask").run Tryz.prog w = .ok (190,.int .u16 s) w:=by kernel_rfl
theorem m_register_Mask:(method 479 221 (.agg #[.pointer (some ⟨b,0,none⟩),.int .u16 i,.string n,.int .u8 f,.int .u16 s]) "Mask").run Tryz.prog w = .ok (190,.int .u16 s) w:=by kernel_rfl
theorem m_gpv_Size:(method 479 352 (.agg #[.iface 350 (.agg #[.int .u16 i,.int .u8 k,.int .u16 s])]) "Size").run Tryz.prog w = .ok (216,.int .u16 s) w:=by kernel_rfl
theorem m_vecv_Size:(method 479 354 (.agg #[.iface 350 (.agg #[.int .u16 i,.int .u8 k,.int .u16 s]),.nilIface]) "Size").run Tryz.prog w = .ok (216,.int .u16 s) w:=by kernel_rfl
theorem m_opmaskv_Size:(method 479 355 (.agg #[.iface 350 (.agg #[.int .u16 i,.int .u8 k,.int .u16 s])]) "Size").run Tryz.prog w = .ok (216,.int .u16 s) w:=by kernel_rfl
theorem m_virtual_Size:(method 479 350 (.agg #[.int .u16 i,.int .u8 k,.int .u16 s]) "Size").run Tryz.prog w = .ok (216,.int .u16 s) w:=by kernel_rfl
theorem m_gpp_Size:(method 479 265 (.agg #[.iface 221 (.agg #[.pointer (some ⟨b,0,none⟩),.int .u16 i,.string n,.int .u8 f,.int .u16 s])]) "Size").run Tryz.prog w = .ok (216,.int .u16 s) w:=by kernel_rfl
theorem m_vecp_Size:(method 479 269 (.agg #[.iface 221 (.agg #[.pointer (some ⟨b,0,none⟩),.int .u16 i,.string n,.int .u8 f,.int .u16 s]),.nilIface]) "Size").run Tryz.prog w = .ok (216,.int .u16 s) w:=by kernel_rfl
theorem m_opmaskp_Size:(method 479 270 (.agg #[.iface 221 (.agg #[.pointer (some ⟨b,0,none⟩),.int .u16 i,.string n,.int .u8 f,.int .u16 s])]) "Size").run Tryz.prog w = .ok (216,.int .u16 s) w:=by kernel_rfl
theorem m_register_Size:(method 479 221 (.agg #[.pointer (some ⟨b,0,none⟩),.int .u16 i,.string n,.int .u8 f,.int .u16 s]) "Size").run Tryz.prog w = .ok (216,.int .u16 s) w:=by kernel_rfl
theorem m_gpv_spec:(method 479 352 (.agg #[.iface 350 (.agg #[.int .u16 i,.int .u8 k,.int .u16 s])]) "pub-berthage/pub/avo/reg.spec").run Tryz.prog w = .ok (279,.agg #[.int .u16 i,.int .u8 k,.int .u16 s]) w:=by kernel_rfl
theorem m_vecv_spec:(method 479 354 (.agg #[.iface 350 (.agg #[.int .u16 i,.int .u8 k,.int .u16 s]),.nilIface]) "pub-berthage/pub/avo/reg.spec").run Tryz.prog w = .ok (279,.agg #[.int .u16 i,.int .u8 k,.int .u16 s]) w:=by kernel_rfl
theorem m_opmaskv_spec:(method 479 355 (.agg #[.iface 350 (.agg #[.int .u16 i,.int .u8 k,.int .u16 s])]) "pub-berthage/pub/avo/reg.spec").run Tryz.prog w = .ok (279,.agg #[.int .u16 i,.int .u8 k,.int .u16 s]) w:=by kernel_rfl
theorem m_virtual_spec:(method 479 350 (.agg #[.int .u16 i,.int .u8 k,.int .u16 s]) "pub-berthage/pub/avo/reg.spec").run Tryz.prog w = .ok (279,.agg #[.int .u16 i,.int .u8 k,.int .u16 s]) w:=by kernel_rfl
theorem m_gpp_spec:(method 479 265 (.agg #[.iface 221 (.agg #[.pointer (some ⟨b,0,none⟩),.int .u16 i,.string n,.int .u8 f,.int .u16 s])]) "pub-berthage/pub/avo/reg.spec").run Tryz.prog w = .ok (224,.agg #[.pointer (some ⟨b,0,none⟩),.int .u16 i,.string n,.int .u8 f,.int .u16 s]) w:=by kernel_rfl
theorem m_vecp_spec:(method 479 269 (.agg #[.iface 221 (.agg #[.pointer (some ⟨b,0,none⟩),.int .u16 i,.string n,.int .u8 f,.int .u16 s]),.nilIface]) "pub-berthage/pub/avo/reg.spec").run Tryz.prog w = .ok (224,.agg #[.pointer (some ⟨b,0,none⟩),.int .u16 i,.string n,.int .u8 f,.int .u16 s]) w:=by kernel_rfl
theorem m_opmaskp_spec:(method 479 270 (.agg #[.iface 221 (.agg #[.pointer (some ⟨b,0,none⟩),.int .u16 i,.string n,.int .u8 f,.int .u16 s])]) "pub-berthage/pub/avo/reg.spec").run Tryz.prog w = .ok (224,.agg #[.pointer (some ⟨b,0,none⟩),.int .u16 i,.string n,.int .u8 f,.int .u16 s]) w:=by kernel_rfl
theorem m_register_spec:(method 479 221 (.agg #[.pointer (some ⟨b,0,none⟩),.int .u16 i,.string n,.int .u8 f,.int .u16 s]) "pub-berthage/pub/avo/reg.spec").run Tryz.prog w = .ok (224,.agg #[.pointer (some ⟨b,0,none⟩),.int .u16 i,.string n,.int .u8 f,.int .u16 s]) w:=by kernel_rfl
theorem m_gpv_as:(method 479 352 (.agg #[.iface 350 (.agg #[.int .u16 i,.int .u8 k,.int .u16 s])]) "pub-berthage/pub/avo/reg.as").run Tryz.prog w = .ok (277,.agg #[.int .u16 i,.int .u8 k,.int .u16 s]) w:=by kernel_rfl
theorem m_vecv_as:(method 479 354 (.agg #[.iface 350 (.agg #[.int .u16 i,.int .u8 k,.int .u16 s]),.nilIface]) "pub-berthage/pub/avo/reg.as").run Tryz.prog w = .ok (277,.agg #[.int .u16 i,.int .u8 k,.int .u16 s]) w:=by kernel_rfl
theorem m_opmaskv_as:(method 479 355 (.agg #[.iface 350 (.agg #[.int .u16 i,.int .u8 k,.int .u16 s])]) "pub-berthage/pub/avo/reg.as").run Tryz.prog w = .ok (277,.agg #[.int .u16 i,.int .u8 k,.int .u16 s]) w:=by kernel_rfl
theorem m_virtual_as:(method 479 350 (.agg #[.int .u16 i,.int .u8 k,.int .u16 s]) "pub-berthage/pub/avo/reg.as").run Tryz.prog w = .ok (277,.agg #[.int .u16 i,.int .u8 k,.int .u16 s]) w:=by kernel_rfl
theorem m_gpp_as:(method 479 265 (.agg #[.iface 221 (.agg #[.pointer (some ⟨b,0,none⟩),.int .u16 i,.string n,.int .u8 f,.int .u16 s])]) "pub-berthage/pub/avo/reg.as").run Tryz.prog w = .ok (222,.agg #[.pointer (some ⟨b,0,none⟩),.int .u16 i,.string n,.int .u8 f,.int .u16 s]) w:=by kernel_rfl
theorem m_vecp_as:(method 479 269 (.agg #[.iface 221 (.agg #[.pointer (some ⟨b,0,none⟩),.int .u16 i,.string n,.int .u8 f,.int .u16 s]),.nilIface]) "pub-berthage/pub/avo/reg.as").run Tryz.prog w = .ok (222,.agg #[.pointer (some ⟨b,0,none⟩),.int .u16 i,.string n,.int .u8 f,.int .u16 s]) w:=by kernel_rfl
theorem m_opmaskp_as:(method 479 270 (.agg #[.iface 221 (.agg #[.pointer (some ⟨b,0,none⟩),.int .u16 i,.string n,.int .u8 f,.int .u16 s])]) "pub-berthage/pub/avo/reg.as").run Tryz.prog w = .ok (222,.agg #[.pointer (some ⟨b,0,none⟩),.int .u16 i,.string n,.int .u8 f,.int .u16 s]) w:=by kernel_rfl
theorem m_register_as:(method 479 221 (.agg #[.pointer (some ⟨b,0,none⟩),.int .u16 i,.string n,.int .u8 f,.int .u16 s]) "pub-berthage/pub/avo/reg.as").run Tryz.prog w = .ok (222,.agg #[.pointer (some ⟨b,0,none⟩),.int .u16 i,.string n,.int .u8 f,.int .u16 s]) w:=by kernel_rfl
theorem m_gpv_VirtualIndex:(method 479 352 (.agg #[.iface 350 (.agg #[.int .u16 i,.int .u8 k,.int .u16 s])]) "VirtualIndex").run Tryz.prog w = .ok (276,.agg #[.int .u16 i,.int .u8 k,.int .u16 s]) w:=by kernel_rfl
theorem m_vecv_VirtualIndex:(method 479 354 (.agg #[.iface 350 (.agg #[.int .u16 i,.int .u8 k,.int .u16 s]),.nilIface]) "VirtualIndex").run Tryz.prog w = .ok (276,.agg #[.int .u16 i,.int .u8 k,.int .u16 s]) w:=by kernel_rfl
theorem m_opmaskv_VirtualIndex:(method 479 355 (.agg #[.iface 350 (.agg #[.int .u16 i,.int .u8 k,.int .u16 s])]) "VirtualIndex").run Tryz.prog w = .ok (276,.agg #[.int .u16 i,.int .u8 k,.int .u16 s]) w:=by kernel_rfl
theorem m_virtual_VirtualIndex:(method 479 350 (.agg #[.int .u16 i,.int .u8 k,.int .u16 s]) "VirtualIndex").run Tryz.prog w = .ok (276,.agg #[.int .u16 i,.int .u8 k,.int .u16 s]) w:=by kernel_rfl
theorem m_gpp_PhysicalIndex:(method 479 265 (.agg #[.iface 221 (.agg #[.pointer (some ⟨b,0,none⟩),.int .u16 i,.string n,.int .u8 f,.int .u16 s])]) "PhysicalIndex").run Tryz.prog w = .ok (221,.agg #[.pointer (some ⟨b,0,none⟩),.int .u16 i,.string n,.int .u8 f,.int .u16 s]) w:=by kernel_rfl
theorem m_vecp_PhysicalIndex:(method 479 269 (.agg #[.iface 221 (.agg #[.pointer (some ⟨b,0,none⟩),.int .u16 i,.string n,.int .u8 f,.int .u16 s]),.nilIface]) "PhysicalIndex").run Tryz.prog w = .ok (221,.agg #[.pointer (some ⟨b,0,none⟩),.int .u16 i,.string n,.int .u8 f,.int .u16 s]) w:=by kernel_rfl
theorem m_opmaskp_PhysicalIndex:(method 479 270 (.agg #[.iface 221 (.agg #[.pointer (some ⟨b,0,none⟩),.int .u16 i,.string n,.int .u8 f,.int .u16 s])]) "PhysicalIndex").run Tryz.prog w = .ok (221,.agg #[.pointer (some ⟨b,0,none⟩),.int .u16 i,.string n,.int .u8 f,.int .u16 s]) w:=by kernel_rfl
theorem m_register_PhysicalIndex:(method 479 221 (.agg #[.pointer (some ⟨b,0,none⟩),.int .u16 i,.string n,.int .u8 f,.int .u16 s]) "PhysicalIndex").run Tryz.prog w = .ok (221,.agg #[.pointer (some ⟨b,0,none⟩),.int .u16 i,.string n,.int .u8 f,.int .u16 s]) w:=by kernel_rfl
theorem m_gpp_Info:(method 479 265 (.agg #[.iface 221 (.agg #[.pointer (some ⟨b,0,none⟩),.int .u16 i,.string n,.int .u8 f,.int .u16 s])]) "Info").run Tryz.prog w = .ok (219,.agg #[.pointer (some ⟨b,0,none⟩),.int .u16 i,.string n,.int .u8 f,.int .u16 s]) w:=by kernel_rfl
theorem m_vecp_Info:(method 479 269 (.agg #[.iface 221 (.agg #[.pointer (some ⟨b,0,none⟩),.int .u16 i,.string n,.int .u8 f,.int .u16 s]),.nilIface]) "Info").run Tryz.prog w = .ok (219,.agg #[.pointer (some ⟨b,0,none⟩),.int .u16 i,.string n,.int .u8 f,.int .u16 s]) w:=by kernel_rfl
theorem m_opmaskp_Info:(method 479 270 (.agg #[.iface 221 (.agg #[.pointer (some ⟨b,0,none⟩),.int .u16 i,.string n,.int .u8 f,.int .u16 s])]) "Info").run Tryz.prog w = .ok (219,.agg #[.pointer (some ⟨b,0,none⟩),.int .u16 i,.string n,.int .u8 f,.int .u16 s]) w:=by kernel_rfl
theorem m_register_Info:(method 479 221 (.agg #[.pointer (some ⟨b,0,none⟩),.int .u16 i,.string n,.int .u8 f,.int .u16 s]) "Info").run Tryz.prog w = .ok (219,.agg #[.pointer (some ⟨b,0,none⟩),.int .u16 i,.string n,.int .u8 f,.int .u16 s]) w:=by kernel_rfl
end
section
variable {P:Program} {ops:Array Oper} {rest:List Oper} {o:Oper} {a:Act} {Q:Exit→Act→World→Prop} {w:World}
theorem run_callFunc {f:FuncId} {fn:Func} (hf:P.funcs[f]? = some fn) (hn:(fn.name == "runtime.NumGoroutine")=false) (hb:fn.body.isNone=false) (xs:Array Value) (w:World):
  (callFunc f xs).run P w = .ok (.enter f xs) w:=by
 have h1:fn.name ≠ "runtime.NumGoroutine":=by simpa using hn
 have h2:fn.body≠none:=by intro e;rw [e] at hb;simp at hb
 simp [callFunc,hf,h1,h2,Result.andThen]
theorem wpList_invoke {t:Operand} {name:String} {args:Array Operand} {ats:Array TypeId} {T:TypeId} {v c:Value} {f:FuncId} {fn:Func}
  (hg:o.guard=none) (hop:o.op = .call { callee:=.invoke t name,args:=args,argTypes:=ats }) (hx:a.eval t = .iface T v)
  (hm:(method (P.types.size+Made.depth) T v name).run P w = .ok (f,c) w)
  (hf:P.funcs[f]? = some fn) (hn:(fn.name == "runtime.NumGoroutine")=false) (hb:fn.body.isNone=false)
  (hc:Calls P f (#[c] ++ args.map a.eval) w fun
   | .returned y,w'=>wpList P ops Q rest (a.put o.dst y) w'
   | _,_=>False):wpList P ops Q (o :: rest) a w:=by
 refine wpList_plain hg fun K hK=>?_
 have hrun:(execOp a.eval o).run P w = .ok (.enter f (#[c] ++ args.map a.eval)) w:=by
  have h1:(callMethod (.iface T v) name (args.map a.eval)).run P w = .ok (.enter f (#[c] ++ args.map a.eval)) w:=by
   simp only [callMethod,Sem.run_bind,run_program,Result.andThen,hm,run_callFunc hf hn hb]
  have h2:(#[Value.iface T v] ++ args.map a.eval)[0]? = some (.iface T v):=by rw [Array.getElem?_append_left (by simp)];rfl
  have h3:(#[Value.iface T v] ++ args.map a.eval).extract 1 (#[Value.iface T v] ++ args.map a.eval).size=args.map a.eval:=by simp
  have h4:(execOp a.eval o)=(do let d ← resolve a.eval { callee:=.invoke t name,args:=args,argTypes:=ats } o.type;invoke d.target d.args):=by
   unfold execOp
   rw [hop]
  rw [h4]
  have h5:resolve a.eval { callee:=.invoke t name,args:=args,argTypes:=ats } o.type=(pure { target:=.fn (.method name) #[],args:=#[a.eval t] ++ args.map a.eval } : Sem Deferred):=rfl
  rw [h5,hx]
  show (invoke (.fn (.method name) #[]) (#[Value.iface T v] ++ args.map a.eval)).run P w=_
  simp only [invoke,h2,h3]
  exact h1
 show o.upon P a K Q ((execOp a.eval o).run P w)
 rw [hrun]
 refine hc.mono fun e w' h=>?_
 cases e with
 | returned y=>exact hK _ _ h
 | panicked chain=>exact h.elim
 | outgrown=>exact h.elim
theorem wpList_invoke0 {t:Operand} {name:String} {ats:Array TypeId} {T:TypeId} {v c:Value} {f:FuncId} {fn:Func}
  (hg:o.guard=none) (hop:o.op = .call { callee:=.invoke t name,args:=#[],argTypes:=ats }) (hx:a.eval t = .iface T v)
  (hm:(method (P.types.size+Made.depth) T v name).run P w = .ok (f,c) w)
  (hf:P.funcs[f]? = some fn) (hn:(fn.name == "runtime.NumGoroutine")=false) (hb:fn.body.isNone=false)
  (hc:Calls P f #[c] w fun
   | .returned y,w'=>wpList P ops Q rest (a.put o.dst y) w'
   | _,_=>False):wpList P ops Q (o :: rest) a w:=
 wpList_invoke hg hop hx hm hf hn hb (by simpa using hc)
end
end
section
open Go Go.RowKit Bth
set_option maxRecDepth 100000
theorem ofInt_u32 (a:Nat) (ha:a < 4294967296):(BitVec.ofInt 32 (a:Int)).toNat=a:=by
 rw [BitVec.ofInt_natCast,BitVec.toNat_ofNat];exact Nat.mod_eq_of_lt (by omega)
theorem wrap_u32 (a:Nat) (ha:a < 4294967296):IntKind.u32.wrap (a:Int)=(a:Int):=by
 simp [IntKind.wrap,IntKind.bits,IntKind.signed];omega
theorem u32_or (a b:Nat) (ha:a < 4294967296) (hb:b < 4294967296):bits .or .u32 (a:Int) (b:Int)=((a ||| b:Nat):Int):=by
 have hx:a ||| b < 2 ^ 32:=Nat.or_lt_two_pow (by omega) (by omega)
 show IntKind.u32.wrap ((BitVec.ofInt 32 (a:Int) ||| BitVec.ofInt 32 (b:Int)).toNat:Int)=_
 rw [BitVec.toNat_or,ofInt_u32 a ha,ofInt_u32 b hb,wrap_u32 _ (by omega)]
theorem or_parts (v k i:Nat) (hv:v < 2) (hk:k < 256):v ||| k*256 ||| i*65536=v+k*256+i*65536:=by
 have h1:v ||| k*256=k*256+v:=by
  rw [Nat.or_comm,Nat.mul_comm k 256];exact (Nat.two_pow_add_eq_or_of_lt (i:=8) (by omega) k).symm
 have h2:k*256+v ||| i*65536=i*65536+(k*256+v):=by
  rw [Nat.or_comm,Nat.mul_comm i 65536];exact (Nat.two_pow_add_eq_or_of_lt (i:=16) (by omega) i).symm
 rw [h1,h2];omega
theorem newid_calls (w:World) (v k i:Nat) (hv:v < 2) (hk:k < 256) (hi:i < 65536):
  Calls Tryz.prog 225 #[.int .u8 (v:Int),.int .u8 (k:Int),.int .u16 (i:Int)] w fun e w'=>e = .returned (.int .u32 ((v+k*256+i*65536:Nat):Int))∧w=w':=by
 have e1:=u32_or v (k*256) (by omega) (by omega)
 have h1:v ||| k*256 < 2 ^ 16:=Nat.or_lt_two_pow (by omega) (by omega)
 have e2:=u32_or (v ||| k*256) (i*65536) (by omega) (by omega)
 have e3:=or_parts v k i hv hk
 have E:bits .or .u32 (bits .or .u32 (v:Int) ((k:Int)*256)) ((i:Int)*65536)=((v+k*256+i*65536:Nat):Int):=by
  rw [← e3,← e2,← e1];simp
 have E':=Lib.hid E
 clear e1 e2 e3 h1 E
 go_enter Tryz.func225,Tryz.ntmps225
 go_wp2
 go_ret
 exact ⟨congrArg (fun x=>Ending.returned (.int .u32 x)) E'.out,rfl⟩
theorem newid1_calls (w:World) (k i:Nat) (hk:k < 256) (hi:i < 65536):
  Calls Tryz.prog 225 #[.int .u8 1,.int .u8 (k:Int),.int .u16 (i:Int)] w fun e w'=>e = .returned (.int .u32 ((1+k*256+i*65536:Nat):Int))∧w=w':=newid_calls w 1 k i (by omega) hk hi
theorem newid0_calls (w:World) (k i:Nat) (hk:k < 256) (hi:i < 65536):
  Calls Tryz.prog 225 #[.int .u8 0,.int .u8 (k:Int),.int .u16 (i:Int)] w fun e w'=>e = .returned (.int .u32 ((0+k*256+i*65536:Nat):Int))∧w=w':=newid_calls w 0 k i (by omega) hk hi
theorem virtual_ID_calls (w:World) (i k s:Nat) (hi:i < 65536) (hk:k < 256):
  Calls Tryz.prog 274 #[.agg #[.int .u16 (i:Int),.int .u8 (k:Int),.int .u16 (s:Int)]] w fun e w'=>e = .returned (.int .u32 ((1+k*256+i*65536:Nat):Int))∧Fr nope w w':=by
 go_enter Tryz.func274,Tryz.ntmps274
 go_wp2_with fail
 refine (newid1_calls _ k i hk hi).mono ?_
 rintro e w' ⟨rfl,rfl⟩
 go_wp2_with fail
 go_ret
 exact ⟨rfl,(Fr.refl _ _).alloc _⟩
theorem register_Kind_calls (w:World) (b:Nat) (i k s f:Nat) (n:ByteArray) (hc:w.cell? ⟨b,0,none⟩=some (.int .u8 (k:Int))):
  Calls Tryz.prog 220 #[.agg #[.pointer (some ⟨b,0,none⟩),.int .u16 (i:Int),.string n,.int .u8 (f:Int),.int .u16 (s:Int)]] w fun e w'=>e = .returned (.int .u8 (k:Int))∧Fr nope w w':=by
 have hlt:b < w.heap.size:=World.block_lt_of_cell? w ⟨b,0,none⟩ hc
 go_enter Tryz.func220,Tryz.ntmps220
 go_wp2
 go_ret
 exact ⟨rfl,(Fr.refl _ _).alloc _⟩
theorem register_ID_calls (w:World) (b:Nat) (i k s f:Nat) (n:ByteArray) (hi:i < 65536) (hk:k < 256) (hc:w.cell? ⟨b,0,none⟩=some (.int .u8 (k:Int))):
  Calls Tryz.prog 218 #[.agg #[.pointer (some ⟨b,0,none⟩),.int .u16 (i:Int),.string n,.int .u8 (f:Int),.int .u16 (s:Int)]] w fun e w'=>e = .returned (.int .u32 ((0+k*256+i*65536:Nat):Int))∧Fr nope w w':=by
 have hlt:b < w.heap.size:=World.block_lt_of_cell? w ⟨b,0,none⟩ hc
 go_enter Tryz.func218,Tryz.ntmps218
 go_wp2_with fail
 go_region_with (first
  | (go_at_call 220;refine (register_Kind_calls _ b i k s f n ?_).mono ?_;go_simp;rintro e w1 ⟨rfl,hf⟩;obtain ⟨hc1,hf1⟩:=hf.cells)
  | (go_at_call 225;refine (newid0_calls _ k i hk hi).mono ?_;rintro e w' ⟨rfl,rfl⟩))
 all_goals
  go_wp2
  go_ret
  exact ⟨congrArg (fun x=>Ending.returned (.int .u32 x)) (by omega),((Fr.refl nope w).alloc _).drew.then hf⟩
theorem register_PI_calls (w:World) (b:Nat) (i k f:Nat) (n:ByteArray):
  Calls Tryz.prog 221 #[.agg #[.pointer (some ⟨b,0,none⟩),.int .u16 (i:Int),.string n,.int .u8 (f:Int),.int .u16 (k:Int)]] w fun e w'=>e = .returned (.int .u16 (i:Int))∧Fr nope w w':=by
 go_enter Tryz.func221,Tryz.ntmps221
 go_wp2
 go_ret
 exact ⟨rfl,(Fr.refl _ _).alloc _⟩
theorem register_Info_calls (w:World) (b:Nat) (i k f:Nat) (n:ByteArray):
  Calls Tryz.prog 219 #[.agg #[.pointer (some ⟨b,0,none⟩),.int .u16 (i:Int),.string n,.int .u8 (f:Int),.int .u16 (k:Int)]] w fun e w'=>e = .returned (.int .u8 (f:Int))∧Fr nope w w':=by
 go_enter Tryz.func219,Tryz.ntmps219
 go_wp2
 go_ret
 exact ⟨rfl,(Fr.refl _ _).alloc _⟩
theorem register_spec_calls (w:World) (b:Nat) (i k f:Nat) (n:ByteArray):
  Calls Tryz.prog 224 #[.agg #[.pointer (some ⟨b,0,none⟩),.int .u16 (i:Int),.string n,.int .u8 (f:Int),.int .u16 (k:Int)]] w fun e w'=>e = .returned (.int .u16 (k:Int))∧Fr nope w w':=by
 go_enter Tryz.func224,Tryz.ntmps224
 go_wp2
 go_ret
 exact ⟨rfl,(Fr.refl _ _).alloc _⟩
theorem virtual_Kind_calls (w:World) (i k s:Nat):
  Calls Tryz.prog 275 #[.agg #[.int .u16 (i:Int),.int .u8 (k:Int),.int .u16 (s:Int)]] w fun e w'=>e = .returned (.int .u8 (k:Int))∧Fr nope w w':=by
 go_enter Tryz.func275,Tryz.ntmps275
 go_wp2
 go_ret
 exact ⟨rfl,(Fr.refl _ _).alloc _⟩
theorem virtual_VI_calls (w:World) (i k s:Nat):
  Calls Tryz.prog 276 #[.agg #[.int .u16 (i:Int),.int .u8 (k:Int),.int .u16 (s:Int)]] w fun e w'=>e = .returned (.int .u16 (i:Int))∧Fr nope w w':=by
 go_enter Tryz.func276,Tryz.ntmps276
 go_wp2
 go_ret
 exact ⟨rfl,(Fr.refl _ _).alloc _⟩
theorem virtual_spec_calls (w:World) (i k s:Nat):
  Calls Tryz.prog 279 #[.agg #[.int .u16 (i:Int),.int .u8 (k:Int),.int .u16 (s:Int)]] w fun e w'=>e = .returned (.int .u16 (s:Int))∧Fr nope w w':=by
 go_enter Tryz.func279,Tryz.ntmps279
 go_wp2
 go_ret
 exact ⟨rfl,(Fr.refl _ _).alloc _⟩
theorem Mask_calls (w:World) (s:Nat):
  Calls Tryz.prog 190 #[.int .u16 (s:Int)] w fun e w'=>e = .returned (.int .u16 (s:Int))∧w=w':=by
 go_enter Tryz.func190,Tryz.ntmps190
 go_wp2
 go_ret
 exact ⟨rfl,rfl⟩
end
section
open Go Go.RowKit Bth
set_option maxRecDepth 100000
def R.At (w:World) (r:R):Prop:=r.virt=false→∃ v,w.heap[r.fb]? = some (.cells #[.int .u8 (r.kind:Int),v] 212 (0,0))
theorem R.At.cell {w:World} {r:R} (h:r.At w) (hv:r.virt=false):w.cell? ⟨r.fb,0,none⟩=some (.int .u8 (r.kind:Int)):=by
 obtain ⟨v,hb⟩:=h hv
 rw [cell_of_row w r.fb 0 _ _ (0,0) hb]
 rfl
theorem R.At.fr {S:Nat→Prop} {w w':World} {r:R} (h:r.At w) (hf:Fr S w w') (hs:r.virt=false→¬S r.fb):r.At w':=fun hv=>by
 obtain ⟨v,hb⟩:=h hv
 exact ⟨v,hf.heap hb (hs hv)⟩
theorem R.At.nope {w w':World} {r:R} (h:r.At w) (hf:Fr nope w w'):r.At w':=h.fr hf fun _ x=>x
section
variable {ops:Array Oper} {rest:List Oper} {o:Oper} {a:Act} {Q:Exit→Act→World→Prop} {w:World} {t:Operand} {r:R}
theorem R.m_ID_v (r:R) (w:World) (hv:r.virt=true):∃ T v,r.val = .iface T v∧(method (Tryz.prog.types.size+Made.depth) T v "ID").run Tryz.prog w = .ok (274,r.coreV) w:=by
 obtain ⟨virt,kind,idx,spec,fb,name,info⟩:=r
 simp only at hv
 subst hv
 rw [sizeTypes]
 show ∃ T v,wrapV kind _ = .iface T v∧_
 unfold wrapV
 split
 ·exact ⟨_,_,rfl,m_gpv_ID ..⟩
 ·exact ⟨_,_,rfl,m_vecv_ID ..⟩
 ·exact ⟨_,_,rfl,m_opmaskv_ID ..⟩
 ·exact ⟨_,_,rfl,m_virtual_ID ..⟩
theorem R.m_ID_p (r:R) (w:World) (hv:r.virt=false):∃ T v,r.val = .iface T v∧(method (Tryz.prog.types.size+Made.depth) T v "ID").run Tryz.prog w = .ok (218,r.coreP) w:=by
 obtain ⟨virt,kind,idx,spec,fb,name,info⟩:=r
 simp only at hv
 subst hv
 rw [sizeTypes]
 show ∃ T v,wrapP kind _ = .iface T v∧_
 unfold wrapP
 split
 ·exact ⟨_,_,rfl,m_gpp_ID ..⟩
 ·exact ⟨_,_,rfl,m_vecp_ID ..⟩
 ·exact ⟨_,_,rfl,m_opmaskp_ID ..⟩
 ·exact ⟨_,_,rfl,m_register_ID ..⟩
theorem wpList_ID (hg:o.guard=none) (hop:o.op = .call { callee:=.invoke t "ID",args:=#[],argTypes:=#[] }) (hx:a.eval t=r.val) (ok:r.Ok) (hat:r.At w) (h:∀ w',Fr nope w w'→wpList Tryz.prog ops Q rest (a.put o.dst (.int .u32 (r.id:Int))) w'):
  wpList Tryz.prog ops Q (o :: rest) a w:=by
 cases hv:r.virt
 ·obtain ⟨T,v,hv1,hm⟩:=r.m_ID_p w hv
  refine wpList_invoke0 hg hop (hx.trans hv1) hm Tryz.func218 (by kernel_rfl) (by kernel_rfl) ((register_ID_calls w r.fb r.idx r.kind r.spec r.info r.name ok.idx ok.kind (hat.cell hv)).mono ?_)
  rintro e w' ⟨rfl,hf⟩
  have hid:r.id=0+r.kind*256+r.idx*65536:=by simp [R.id,hv]
  rw [hid] at h
  exact h w' hf
 ·obtain ⟨T,v,hv1,hm⟩:=r.m_ID_v w hv
  refine wpList_invoke0 hg hop (hx.trans hv1) hm Tryz.func274 (by kernel_rfl) (by kernel_rfl) ((virtual_ID_calls w r.idx r.kind r.spec ok.idx ok.kind).mono ?_)
  rintro e w' ⟨rfl,hf⟩
  have hid:r.id=1+r.kind*256+r.idx*65536:=by simp [R.id,hv]
  rw [hid] at h
  exact h w' hf
theorem R.m_Kind_v (r:R) (w:World) (hv:r.virt=true):∃ T v,r.val = .iface T v∧(method (Tryz.prog.types.size+Made.depth) T v "Kind").run Tryz.prog w = .ok (275,r.coreV) w:=by
 obtain ⟨virt,kind,idx,spec,fb,name,info⟩:=r
 simp only at hv
 subst hv
 rw [sizeTypes]
 show ∃ T v,wrapV kind _ = .iface T v∧_
 unfold wrapV
 split
 ·exact ⟨_,_,rfl,m_gpv_Kind ..⟩
 ·exact ⟨_,_,rfl,m_vecv_Kind ..⟩
 ·exact ⟨_,_,rfl,m_opmaskv_Kind ..⟩
 ·exact ⟨_,_,rfl,m_virtual_Kind ..⟩
theorem R.m_Kind_p (r:R) (w:World) (hv:r.virt=false):∃ T v,r.val = .iface T v∧(method (Tryz.prog.types.size+Made.depth) T v "Kind").run Tryz.prog w = .ok (220,r.coreP) w:=by
 obtain ⟨virt,kind,idx,spec,fb,name,info⟩:=r
 simp only at hv
 subst hv
 rw [sizeTypes]
 show ∃ T v,wrapP kind _ = .iface T v∧_
 unfold wrapP
 split
 ·exact ⟨_,_,rfl,m_gpp_Kind ..⟩
 ·exact ⟨_,_,rfl,m_vecp_Kind ..⟩
 ·exact ⟨_,_,rfl,m_opmaskp_Kind ..⟩
 ·exact ⟨_,_,rfl,m_register_Kind ..⟩
theorem wpList_Kind (hg:o.guard=none) (hop:o.op = .call { callee:=.invoke t "Kind",args:=#[],argTypes:=#[] }) (hx:a.eval t=r.val) (hat:r.At w) (h:∀ w',Fr nope w w'→wpList Tryz.prog ops Q rest (a.put o.dst (.int .u8 (r.kind:Int))) w'):
  wpList Tryz.prog ops Q (o :: rest) a w:=by
 cases hv:r.virt
 ·obtain ⟨T,v,hv1,hm⟩:=r.m_Kind_p w hv
  refine wpList_invoke0 hg hop (hx.trans hv1) hm Tryz.func220 (by kernel_rfl) (by kernel_rfl) ((register_Kind_calls w r.fb r.idx r.kind r.spec r.info r.name (hat.cell hv)).mono ?_)
  rintro e w' ⟨rfl,hf⟩
  exact h w' hf
 ·obtain ⟨T,v,hv1,hm⟩:=r.m_Kind_v w hv
  refine wpList_invoke0 hg hop (hx.trans hv1) hm Tryz.func275 (by kernel_rfl) (by kernel_rfl) ((virtual_Kind_calls w r.idx r.kind r.spec).mono ?_)
  rintro e w' ⟨rfl,hf⟩
  exact h w' hf
theorem R.m_Mask_v (r:R) (w:World) (hv:r.virt=true):∃ T v,r.val = .iface T v∧(method (Tryz.prog.types.size+Made.depth) T v "Mask").run Tryz.prog w = .ok (190,.int .u16 (r.spec:Int)) w:=by
 obtain ⟨virt,kind,idx,spec,fb,name,info⟩:=r
 simp only at hv
 subst hv
 rw [sizeTypes]
 show ∃ T v,wrapV kind _ = .iface T v∧_
 unfold wrapV
 split
 ·exact ⟨_,_,rfl,m_gpv_Mask ..⟩
 ·exact ⟨_,_,rfl,m_vecv_Mask ..⟩
 ·exact ⟨_,_,rfl,m_opmaskv_Mask ..⟩
 ·exact ⟨_,_,rfl,m_virtual_Mask ..⟩
theorem R.m_Mask_p (r:R) (w:World) (hv:r.virt=false):∃ T v,r.val = .iface T v∧(method (Tryz.prog.types.size+Made.depth) T v "Mask").run Tryz.prog w = .ok (190,.int .u16 (r.spec:Int)) w:=by
 obtain ⟨virt,kind,idx,spec,fb,name,info⟩:=r
 simp only at hv
 subst hv
 rw [sizeTypes]
 show ∃ T v,wrapP kind _ = .iface T v∧_
 unfold wrapP
 split
 ·exact ⟨_,_,rfl,m_gpp_Mask ..⟩
 ·exact ⟨_,_,rfl,m_vecp_Mask ..⟩
 ·exact ⟨_,_,rfl,m_opmaskp_Mask ..⟩
 ·exact ⟨_,_,rfl,m_register_Mask ..⟩
theorem wpList_Mask (hg:o.guard=none) (hop:o.op = .call { callee:=.invoke t "Mask",args:=#[],argTypes:=#[] }) (hx:a.eval t=r.val) (h:∀ w',Fr nope w w'→wpList Tryz.prog ops Q rest (a.put o.dst (.int .u16 (r.spec:Int))) w'):
  wpList Tryz.prog ops Q (o :: rest) a w:=by
 cases hv:r.virt
 ·obtain ⟨T,v,hv1,hm⟩:=r.m_Mask_p w hv
  refine wpList_invoke0 hg hop (hx.trans hv1) hm Tryz.func190 (by kernel_rfl) (by kernel_rfl) ((Mask_calls w r.spec).mono ?_)
  rintro e w' ⟨rfl,hf⟩
  exact h w' (hf ▸ Fr.refl _ _)
 ·obtain ⟨T,v,hv1,hm⟩:=r.m_Mask_v w hv
  refine wpList_invoke0 hg hop (hx.trans hv1) hm Tryz.func190 (by kernel_rfl) (by kernel_rfl) ((Mask_calls w r.spec).mono ?_)
  rintro e w' ⟨rfl,hf⟩
  exact h w' (hf ▸ Fr.refl _ _)
theorem R.m_spec_v (r:R) (w:World) (hv:r.virt=true):∃ T v,r.val = .iface T v∧(method (Tryz.prog.types.size+Made.depth) T v "pub-berthage/pub/avo/reg.spec").run Tryz.prog w = .ok (279,r.coreV) w:=by
 obtain ⟨virt,kind,idx,spec,fb,name,info⟩:=r
 simp only at hv
 subst hv
 rw [sizeTypes]
 show ∃ T v,wrapV kind _ = .iface T v∧_
 unfold wrapV
 split
 ·exact ⟨_,_,rfl,m_gpv_spec ..⟩
 ·exact ⟨_,_,rfl,m_vecv_spec ..⟩
 ·exact ⟨_,_,rfl,m_opmaskv_spec ..⟩
 ·exact ⟨_,_,rfl,m_virtual_spec ..⟩
theorem R.m_spec_p (r:R) (w:World) (hv:r.virt=false):∃ T v,r.val = .iface T v∧(method (Tryz.prog.types.size+Made.depth) T v "pub-berthage/pub/avo/reg.spec").run Tryz.prog w = .ok (224,r.coreP) w:=by
 obtain ⟨virt,kind,idx,spec,fb,name,info⟩:=r
 simp only at hv
 subst hv
 rw [sizeTypes]
 show ∃ T v,wrapP kind _ = .iface T v∧_
 unfold wrapP
 split
 ·exact ⟨_,_,rfl,m_gpp_spec ..⟩
 ·exact ⟨_,_,rfl,m_vecp_spec ..⟩
 ·exact ⟨_,_,rfl,m_opmaskp_spec ..⟩
 ·exact ⟨_,_,rfl,m_register_spec ..⟩
theorem wpList_spec (hg:o.guard=none) (hop:o.op = .call { callee:=.invoke t "pub-berthage/pub/avo/reg.spec",args:=#[],argTypes:=#[] }) (hx:a.eval t=r.val) (h:∀ w',Fr nope w w'→wpList Tryz.prog ops Q rest (a.put o.dst (.int .u16 (r.spec:Int))) w'):
  wpList Tryz.prog ops Q (o :: rest) a w:=by
 cases hv:r.virt
 ·obtain ⟨T,v,hv1,hm⟩:=r.m_spec_p w hv
  refine wpList_invoke0 hg hop (hx.trans hv1) hm Tryz.func224 (by kernel_rfl) (by kernel_rfl) ((register_spec_calls w r.fb r.idx r.spec r.info r.name).mono ?_)
  rintro e w' ⟨rfl,hf⟩
  exact h w' hf
 ·obtain ⟨T,v,hv1,hm⟩:=r.m_spec_v w hv
  refine wpList_invoke0 hg hop (hx.trans hv1) hm Tryz.func279 (by kernel_rfl) (by kernel_rfl) ((virtual_spec_calls w r.idx r.kind r.spec).mono ?_)
  rintro e w' ⟨rfl,hf⟩
  exact h w' hf
theorem R.m_VirtualIndex_v (r:R) (w:World) (hv:r.virt=true):∃ T v,r.val = .iface T v∧(method (Tryz.prog.types.size+Made.depth) T v "VirtualIndex").run Tryz.prog w = .ok (276,r.coreV) w:=by
 obtain ⟨virt,kind,idx,spec,fb,name,info⟩:=r
 simp only at hv
 subst hv
 rw [sizeTypes]
 show ∃ T v,wrapV kind _ = .iface T v∧_
 unfold wrapV
 split
 ·exact ⟨_,_,rfl,m_gpv_VirtualIndex ..⟩
 ·exact ⟨_,_,rfl,m_vecv_VirtualIndex ..⟩
 ·exact ⟨_,_,rfl,m_opmaskv_VirtualIndex ..⟩
 ·exact ⟨_,_,rfl,m_virtual_VirtualIndex ..⟩
theorem wpList_VirtualIndex (hg:o.guard=none) (hop:o.op = .call { callee:=.invoke t "VirtualIndex",args:=#[],argTypes:=#[] }) (hx:a.eval t=r.val) (hv:r.virt=true) (h:∀ w',Fr nope w w'→wpList Tryz.prog ops Q rest (a.put o.dst (.int .u16 (r.idx:Int))) w'):
  wpList Tryz.prog ops Q (o :: rest) a w:=by
 obtain ⟨T,v,hv1,hm⟩:=r.m_VirtualIndex_v w hv
 refine wpList_invoke0 hg hop (hx.trans hv1) hm Tryz.func276 (by kernel_rfl) (by kernel_rfl) ((virtual_VI_calls w r.idx r.kind r.spec).mono ?_)
 rintro e w' ⟨rfl,hf⟩
 exact h w' hf
theorem R.m_PhysicalIndex_p (r:R) (w:World) (hv:r.virt=false):∃ T v,r.val = .iface T v∧(method (Tryz.prog.types.size+Made.depth) T v "PhysicalIndex").run Tryz.prog w = .ok (221,r.coreP) w:=by
 obtain ⟨virt,kind,idx,spec,fb,name,info⟩:=r
 simp only at hv
 subst hv
 rw [sizeTypes]
 show ∃ T v,wrapP kind _ = .iface T v∧_
 unfold wrapP
 split
 ·exact ⟨_,_,rfl,m_gpp_PhysicalIndex ..⟩
 ·exact ⟨_,_,rfl,m_vecp_PhysicalIndex ..⟩
 ·exact ⟨_,_,rfl,m_opmaskp_PhysicalIndex ..⟩
 ·exact ⟨_,_,rfl,m_register_PhysicalIndex ..⟩
theorem wpList_PhysicalIndex (hg:o.guard=none) (hop:o.op = .call { callee:=.invoke t "PhysicalIndex",args:=#[],argTypes:=#[] }) (hx:a.eval t=r.val) (hv:r.virt=false) (h:∀ w',Fr nope w w'→wpList Tryz.prog ops Q rest (a.put o.dst (.int .u16 (r.idx:Int))) w'):
  wpList Tryz.prog ops Q (o :: rest) a w:=by
 obtain ⟨T,v,hv1,hm⟩:=r.m_PhysicalIndex_p w hv
 refine wpList_invoke0 hg hop (hx.trans hv1) hm Tryz.func221 (by kernel_rfl) (by kernel_rfl) ((register_PI_calls w r.fb r.idx r.spec r.info r.name).mono ?_)
 rintro e w' ⟨rfl,hf⟩
 exact h w' hf
theorem R.m_Info_p (r:R) (w:World) (hv:r.virt=false):∃ T v,r.val = .iface T v∧(method (Tryz.prog.types.size+Made.depth) T v "Info").run Tryz.prog w = .ok (219,r.coreP) w:=by
 obtain ⟨virt,kind,idx,spec,fb,name,info⟩:=r
 simp only at hv
 subst hv
 rw [sizeTypes]
 show ∃ T v,wrapP kind _ = .iface T v∧_
 unfold wrapP
 split
 ·exact ⟨_,_,rfl,m_gpp_Info ..⟩
 ·exact ⟨_,_,rfl,m_vecp_Info ..⟩
 ·exact ⟨_,_,rfl,m_opmaskp_Info ..⟩
 ·exact ⟨_,_,rfl,m_register_Info ..⟩
theorem wpList_Info (hg:o.guard=none) (hop:o.op = .call { callee:=.invoke t "Info",args:=#[],argTypes:=#[] }) (hx:a.eval t=r.val) (hv:r.virt=false) (h:∀ w',Fr nope w w'→wpList Tryz.prog ops Q rest (a.put o.dst (.int .u8 (r.info:Int))) w'):
  wpList Tryz.prog ops Q (o :: rest) a w:=by
 obtain ⟨T,v,hv1,hm⟩:=r.m_Info_p w hv
 refine wpList_invoke0 hg hop (hx.trans hv1) hm Tryz.func219 (by kernel_rfl) (by kernel_rfl) ((register_Info_calls w r.fb r.idx r.spec r.info r.name).mono ?_)
 rintro e w' ⟨rfl,hf⟩
 exact h w' hf
end
end
end Go.Proofs.YtpbeedabmjmdmaaGreatDoor
