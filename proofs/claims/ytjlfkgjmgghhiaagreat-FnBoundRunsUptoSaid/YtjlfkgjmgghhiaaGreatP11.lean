/- Part of the proof of a statement about pub-berthage: what its texts have in common. -/
import Derived.Deep.MidRow
import Derived.Handy
import Derived.Test.YtjlfkgjmgghhiaaGreatP08
import Derived.Test.YtjlfkgjmgghhiaaGreatP10
namespace Go.Proofs.YtjlfkgjmgghhiaaGreat
section
open Go Go.RowKit Bth
set_option maxRecDepth 100000
structure G where
 virt:Bool
 kind:Nat
 idx:Nat
 spec:Nat
 deriving DecidableEq
def G.agg (g:G):Value:=.agg #[.bool g.virt,.int .u8 (g.kind:Int),.int .u16 (g.idx:Int),.int .u16 (g.spec:Int)]
structure G.Ok (g:G):Prop where
 kind:g.kind < 256
 idx:g.idx < 65536
 spec:g.spec < 65536
def mkV (g:G):R:={ virt:=true,kind:=g.kind,idx:=g.idx,spec:=g.spec,fb:=0,name:=⟨#[]⟩,info:=0 }
def regOf (fs:Nat→Option Nat) (g:G):Option R:=if g.virt then some (mkV g) else physOf fs g.kind g.idx g.spec
theorem NewVirtual_calls (w:World) (i k s:Nat):
  Calls Tryz.prog 218 #[.int .u16 (i:Int),.int .u8 (k:Int),.int .u16 (s:Int)] w fun e w'=>e = .returned (.iface 392 (.agg #[.int .u16 (i:Int),.int .u8 (k:Int),.int .u16 (s:Int)]))∧w'=w:=by
 go_enter Tryz.func218,Tryz.ntmps218
 go_wp2
 go_ret
 exact ⟨rfl,rfl⟩
theorem newgpv_calls (w:World) (T:TypeId) (x:Value):Calls Tryz.prog 219 #[.iface T x] w fun e w'=>e = .returned (.iface 394 (.agg #[.iface T x]))∧w'=w:=by
 go_enter Tryz.func219,Tryz.ntmps219
 go_wp2
 go_ret
 exact ⟨rfl,rfl⟩
theorem newvecv_calls (w:World) (T:TypeId) (x:Value):Calls Tryz.prog 220 #[.iface T x] w fun e w'=>e = .returned (.iface 396 (.agg #[.iface T x,.nilIface]))∧w'=w:=by
 go_enter Tryz.func220,Tryz.ntmps220
 go_wp2
 go_ret
 exact ⟨rfl,rfl⟩
theorem newopmaskv_calls (w:World) (T:TypeId) (x:Value):Calls Tryz.prog 221 #[.iface T x] w fun e w'=>e = .returned (.iface 397 (.agg #[.iface T x]))∧w'=w:=by
 go_enter Tryz.func221,Tryz.ntmps221
 go_wp2
 go_ret
 exact ⟨rfl,rfl⟩
theorem wrapV_other {k:Nat} (h1:k≠1) (h2:k≠2) (h3:k≠3) (x:Value):wrapV k x=x:=by
 unfold wrapV;split<;>first | rfl | contradiction
theorem ZZVirtual_calls (w:World) (g:G) (hg:g.Ok):
  Calls Tryz.prog 207 #[.int .u8 (g.kind:Int),.int .u16 (g.idx:Int),.int .u16 (g.spec:Int)] w fun e w'=>e = .returned (mkV g).val∧w'=w:=by
 obtain ⟨virt,k,i,s⟩:=g
 show Calls _ _ #[.int .u8 (k:Int),.int .u16 (i:Int),.int .u16 (s:Int)] _ fun e w'=>e = .returned (wrapV k (.iface 392 (.agg #[.int .u16 (i:Int),.int .u8 (k:Int),.int .u16 (s:Int)])))∧_
 by_cases h1:k=1
 ·subst h1
  go_enter Tryz.func207,Tryz.ntmps207
  go_wp2
  go_ret
  exact ⟨rfl,rfl⟩
 by_cases h2:k=2
 ·subst h2
  go_enter Tryz.func207,Tryz.ntmps207
  go_wp2
  go_ret
  exact ⟨rfl,rfl⟩
 by_cases h3:k=3
 ·subst h3
  go_enter Tryz.func207,Tryz.ntmps207
  go_wp2
  go_ret
  exact ⟨rfl,rfl⟩
 rw [wrapV_other h1 h2 h3]
 go_enter Tryz.func207,Tryz.ntmps207
 go_wp2
 go_ret
 exact ⟨rfl,rfl⟩
theorem WAt.phys {w:World} {wb:Nat} {fs:Nat→Option Nat} (h:WAt w wb fs) {k i s:Nat} {r:R} (hr:physOf fs k i s=some r):r.virt=false∧r.kind=k∧r.idx=i∧r.spec=s∧r.Ok∧r.At w:=by
 unfold physOf at hr
 obtain ⟨fb,e1,e2⟩:=Option.bind_eq_some_iff.1 hr
 obtain ⟨hk,_,hF⟩:=h.2 k fb e1
 have hm:=List.mem_of_find?_eq_some e2
 have hp:=List.find?_some e2
 simp only [Bool.and_eq_true,beq_iff_eq] at hp
 obtain ⟨a1,a2,a3,a4⟩:=famRegs_ok hk r hm
 exact ⟨a1,a3,hp.1,hp.2,a4,(hF.reg hk hm).2⟩
theorem WAt.reg {w:World} {wb:Nat} {fs:Nat→Option Nat} (h:WAt w wb fs) {g:G} (hg:g.Ok) {r:R} (hr:regOf fs g=some r):r.virt=g.virt∧r.kind=g.kind∧r.idx=g.idx∧r.spec=g.spec∧r.Ok∧r.At w:=by
 unfold regOf at hr
 split at hr
 ·rename_i hv
  injection hr with hr
  subst hr
  exact ⟨by rw [hv];rfl,rfl,rfl,rfl,⟨hg.kind,hg.idx,hg.spec,by show 0 < 256;omega⟩,fun h=>by cases h⟩
 ·rename_i hv
  obtain ⟨a,b⟩:=h.phys hr
  exact ⟨by rw [a];simpa using hv,b⟩
theorem physOf_grows {fs fs':Nat→Option Nat} (h:Grows fs fs') {k i s:Nat} (hk:(fs k).isSome):physOf fs' k i s=physOf fs k i s:=by
 obtain ⟨fb,e⟩:=Option.isSome_iff_exists.1 hk
 simp [physOf,e,h k fb e]
def GivesRegOf (w:World) (wb:Nat) (fs:Nat→Option Nat) (g:G) (e:Ending) (w':World):Prop:=
 ∃ fs',Grows fs fs'∧(g.virt=false→g.kind≤3→(fs' g.kind).isSome)∧WAt w' wb fs'∧e = .returned (.tuple #[optV (regOf fs' g),.bool (regOf fs' g).isSome])∧Fr (fun b=>b=wb) w w'
theorem reg_calls (w:World) (wb:Nat) (fs:Nat→Option Nat) (g:G) (hg:g.Ok) (hW:WAt w wb fs):
  Calls Tryz.prog 192 #[ptr wb,g.agg] w (GivesRegOf w wb fs g):=by
 unfold GivesRegOf
 simp only [G.agg]
 cases hv:g.virt with
 | true=>
  go_enter Tryz.func192,Tryz.ntmps192
  go_wp2_with (go_at_call 207;refine (ZZVirtual_calls _ g hg).mono ?_;rintro e w1 ⟨rfl,rfl⟩)
  go_ret2
  refine ⟨fs,Grows.refl _,(fun h=>by cases h),hW.nope ((Fr.refl _ _).alloc _),?_,(Fr.refl _ _).alloc _⟩
  simp [regOf,hv,optV]
 | false=>
  go_enter Tryz.func192,Tryz.ntmps192
  go_wp2_with (go_at_call 208;refine (physical_calls _ wb fs g.kind g.idx g.spec hg.kind (hW.nope ((Fr.refl _ _).alloc _))).mono ?_;rintro e w1 ⟨fs',h1,h2,h3,rfl,h4⟩)
  have hO:regOf fs' g=physOf fs' g.kind g.idx g.spec:=by simp [regOf,hv]
  cases hp:physOf fs' g.kind g.idx g.spec with
  | none=>
   simp only [optV]
   go_wp2
   go_quiet (fail)
   go_wp2
   go_ret2
   refine ⟨fs',h1,fun _ h=>h2 h,h3.nope ((Fr.refl _ _).drewN _),?_,((Fr.refl _ _).alloc _).then (h4.drewN _)⟩
   rw [hO,hp]
   rfl
  | some r=>
   obtain ⟨T,v,hr⟩:=r.val_iface
   simp only [optV,hr]
   go_wp2
   go_quiet (fail)
   go_wp2
   go_ret2
   refine ⟨fs',h1,fun _ h=>h2 h,h3.nope ((Fr.refl _ _).drewN _),?_,((Fr.refl _ _).alloc _).then (h4.drewN _)⟩
   rw [hO,hp]
   simp [optV,hr]
end
section
open Go Go.RowKit Bth
set_option maxRecDepth 100000
structure PC where
 kind:Int
 bits:Nat
 text:ByteArray
def PC.agg (c:PC):Value:=.agg #[.int .i64 c.kind,.int .u64 (c.bits:Int),.string c.text]
def PC.Ok (c:PC):Prop:=c.bits < 18446744073709551616
def conK (n:Int):Option CK:=
 if n=1 then some .I8 else
 if n=2 then some .U8 else
 if n=3 then some .I16 else
 if n=4 then some .U16 else
 if n=5 then some .I32 else
 if n=6 then some .U32 else
 if n=7 then some .I64 else
 if n=8 then some .U64 else
 if n=9 then some .F32 else
 if n=10 then some .F64 else
 if n=11 then some .String else
 none
def CK.norm (k:CK) (b:Nat):Int:=
 match k with
 | .I8=>IntKind.i8.wrap (b:Int)
 | .U8=>IntKind.u8.wrap (b:Int)
 | .I16=>IntKind.i16.wrap (b:Int)
 | .U16=>IntKind.u16.wrap (b:Int)
 | .I32=>wrap32 (b:Int)
 | .U32=>IntKind.u32.wrap (b:Int)
 | .I64=>wrap64 (b:Int)
 | .U64=>(b:Int)
 | .F32=>IntKind.u32.wrap (b:Int)
 | .F64=>(b:Int)
 | .String=>0
def CK.txt (k:CK) (t:ByteArray):ByteArray:=
 match k with
 | .String=>t
 | _=>⟨#[]⟩
def conOf (c:PC):Option C:=(conK c.kind).map fun k=>⟨k,k.norm c.bits,k.txt c.text⟩
def optC:Option C→Value
 | none=>.nilIface
 | some c=>(O.con c).val
def GivesCon (w:World) (c:PC) (e:Ending) (w':World):Prop:=e = .returned (.tuple #[optC (conOf c),.bool (conOf c).isSome])∧Fr nope w w'
theorem run_f32 (n:Int) (W:World):(callFunc 209 #[.int .u32 n]).run Tryz.prog W = .ok (.value (.float .f32 n.toNat)) W:=by kernel_rfl
theorem run_f64 (n:Int) (W:World):(callFunc 210 #[.int .u64 n]).run Tryz.prog W = .ok (.value (.float .f64 n.toNat)) W:=by kernel_rfl
theorem constant_calls (w:World) (c:PC):Calls Tryz.prog 194 #[c.agg] w (GivesCon w c):=by
 obtain ⟨n,b,t⟩:=c
 unfold GivesCon
 simp only [PC.agg]
 by_cases h1:n=1
 ·subst h1
  go_enter Tryz.func194,Tryz.ntmps194
  go_wp2
  go_ret2
  exact ⟨rfl,(Fr.refl _ _).alloc _⟩
 by_cases h2:n=2
 ·subst h2
  go_enter Tryz.func194,Tryz.ntmps194
  go_wp2
  go_ret2
  exact ⟨rfl,(Fr.refl _ _).alloc _⟩
 by_cases h3:n=3
 ·subst h3
  go_enter Tryz.func194,Tryz.ntmps194
  go_wp2
  go_ret2
  exact ⟨rfl,(Fr.refl _ _).alloc _⟩
 by_cases h4:n=4
 ·subst h4
  go_enter Tryz.func194,Tryz.ntmps194
  go_wp2
  go_ret2
  exact ⟨rfl,(Fr.refl _ _).alloc _⟩
 by_cases h5:n=5
 ·subst h5
  go_enter Tryz.func194,Tryz.ntmps194
  go_wp2
  go_ret2
  exact ⟨rfl,(Fr.refl _ _).alloc _⟩
 by_cases h6:n=6
 ·subst h6
  go_enter Tryz.func194,Tryz.ntmps194
  go_wp2
  go_ret2
  exact ⟨rfl,(Fr.refl _ _).alloc _⟩
 by_cases h7:n=7
 ·subst h7
  go_enter Tryz.func194,Tryz.ntmps194
  go_wp2
  go_ret2
  exact ⟨rfl,(Fr.refl _ _).alloc _⟩
 by_cases h8:n=8
 ·subst h8
  go_enter Tryz.func194,Tryz.ntmps194
  go_wp2
  go_ret2
  exact ⟨rfl,(Fr.refl _ _).alloc _⟩
 by_cases h9:n=9
 ·subst h9
  have hf32:=run_f32
  go_enter Tryz.func194,Tryz.ntmps194
  go_wp2
  go_ret2
  exact ⟨rfl,(Fr.refl _ _).alloc _⟩
 by_cases h10:n=10
 ·subst h10
  have hf64:=run_f64
  go_enter Tryz.func194,Tryz.ntmps194
  go_wp2
  go_ret2
  exact ⟨rfl,(Fr.refl _ _).alloc _⟩
 by_cases h11:n=11
 ·subst h11
  go_enter Tryz.func194,Tryz.ntmps194
  go_wp2
  go_ret2
  exact ⟨rfl,(Fr.refl _ _).alloc _⟩
 have hn:conK n=none:=by simp [conK, *]
 go_enter Tryz.func194,Tryz.ntmps194
 go_wp2
 go_ret2
 refine ⟨?_,(Fr.refl _ _).alloc _⟩
 simp [conOf,hn,optC]
end
end Go.Proofs.YtjlfkgjmgghhiaaGreat
namespace Bth
section
open Go Go.RowKit
theorem setCells_heap {b:Nat} {t:TypeId} {fr:Nat × Nat} : ∀ (vs pre suf:List Value) (w:World),suf.length=vs.length→w.heap[b]? = some (.cells (pre ++ suf).toArray t fr)→(w.setCells b pre.length vs).heap[b]? = some (.cells (pre ++ vs).toArray t fr):=by
 intro vs
 induction vs with
 | nil=>
  intro pre suf w hl h
  obtain rfl:suf=[]:=by simpa using hl
  simpa [World.setCells] using h
 | cons v vs ih=>
  intro pre suf w hl h
  cases suf with
  | nil=>simp at hl
  | cons u suf=>
   have h2:=Go.Proofs.YtjlfkgjmgghhiaaGreat.setCell_heap (k:=pre.length) h v
   have e:((pre ++ u :: suf).toArray.setIfInBounds pre.length v)=((pre ++ [v]) ++ suf).toArray:=by simp
   rw [e] at h2
   have:=ih (pre ++ [v]) suf (w.setCell ⟨b,pre.length,none⟩ v) (by simpa using hl) h2
   simpa [World.setCells] using this
theorem setCells_fr {S:Nat→Prop} {b:Nat} : ∀ (vs:List Value) (o:Nat) (a w:World),Fr S a w→(S b∨a.heap.size≤b)→Fr S a (w.setCells b o vs):=by
 intro vs
 induction vs with
 | nil=>intro o a w h _;simpa [World.setCells] using h
 | cons v vs ih=>intro o a w h hb;exact ih (o+1) a _ (h.setCell (p:=⟨b,o,none⟩) hb v) hb
theorem wpList_storeRow {P:Program} {ops:Array Oper} {rest:List Oper} {op:Oper} {a:Act} {w:World} {Q:Exit→Act→World→Prop} (hgd:op.guard=none) {ty:TypeId} {x y:Operand} (ho:op.op = .store ty x y)
  {b:Nat} {cells cs:Array Value} {t:TypeId} (hx:a.eval x = .pointer (some ⟨b,0,none⟩)) (hy:a.eval y = .agg cells) (hb:w.heap[b]? = some (.cells cs t (0,0))) (hl:cs.size=cells.size)
  (hi:(P.info? ty).map (·.size)=some cells.size) (h1:cells.all (·.oneCell')=true)
  (h:∀ w',w'.heap[b]? = some (.cells cells t (0,0))→Fr (fun x=>x=b) w w'→wpList P ops Q rest (a.put op.dst undef) w'):wpList P ops Q (op :: rest) a w:=by
 refine wpList_store_mid hgd ty x y ho b 0 cells hx hy (fun j hj=>⟨?_,?_⟩) hi h1 (h _ ?_ (setCells_fr _ _ _ _ (Fr.refl _ _) (.inl rfl)))
 ·rw [cell_of_row w b _ _ _ (0,0) hb]
  simp;omega
 ·simp [World.frozen?,hb]
 ·have:=setCells_heap (b:=b) (t:=t) (fr:=(0,0)) cells.toList [] cs.toList w (by simpa using hl) (by simpa using hb)
  simpa using this
theorem wpList_loadRow {P:Program} {ops:Array Oper} {rest:List Oper} {op:Oper} {a:Act} {w:World} {Q:Exit→Act→World→Prop} (hgd:op.guard=none) {ty:TypeId} {x:Operand} (ho:op.op = .load ty x)
  {b:Nat} {cells:Array Value} {t:TypeId} {d:TypeDesc} (hx:a.eval x = .pointer (some ⟨b,0,none⟩)) (hb:w.heap[b]? = some (.cells cells t (0,0)))
  (hu:P.underlying ty=some d) (hd:d.isRow=true) (hi:(P.info? ty).map (·.size)=some cells.size)
  (h:wpList P ops Q rest (a.put op.dst (.agg cells)) w):wpList P ops Q (op :: rest) a w:=by
 refine wpList_load_mid hgd ty x ho b 0 hx cells.toList d (fun j v hv=>?_) hu hd (by simpa using hi) (by simpa using h)
 rw [cell_of_row w b _ _ _ (0,0) hb]
 simpa using hv
theorem results_cell_row2 {P:Program} {fn:Func} {p s:Tmp} {ty:TypeId} (h:fn.results = #[.cell p ty,.tmp s]) (tmps:Array Value) (w:World) (g:Nat) (t:TypeId) (cs:Array Value) (fr:Nat × Nat) (d:TypeDesc)
  (hp:tmps.getD p undef = .pointer (some ⟨g,0,none⟩)) (hg:w.heap[g]? = some (.cells cs t fr))
  (hu:P.underlying ty=some d) (hd:(match d with | .struct _ | .array _ _=>true | _=>false)=true) (hi:(P.info? ty).map (·.size)=some cs.size):
  (results fn tmps).run P w = .ok (.tuple #[.agg cs,tmps.getD s undef]) w:=by
 have hp':tmps[p]?.getD undef = .pointer (some ⟨g,0,none⟩):=by simpa using hp
 simp [results,h,hp',asAddr,run_loadVar_row w g t ty cs fr d hg hu hd hi]
end
end Bth
namespace Go.Proofs.YtjlfkgjmgghhiaaGreat
section
open Go Go.RowKit Bth
set_option maxRecDepth 100000
structure PO where
 kind:Int
 reg:G
 hasBase:Bool
 hasIndex:Bool
 base:G
 index:G
 scale:Nat
 disp:Int
 sym:ByteArray
 static:Bool
 con:PC
 label:ByteArray
 rel:Int
def PO.cells (p:PO):Array Value:=#[.int .i64 p.kind,.bool p.reg.virt,.int .u8 (p.reg.kind:Int),.int .u16 (p.reg.idx:Int),.int .u16 (p.reg.spec:Int),.bool p.hasBase,.bool p.hasIndex,
 .bool p.base.virt,.int .u8 (p.base.kind:Int),.int .u16 (p.base.idx:Int),.int .u16 (p.base.spec:Int),.bool p.index.virt,.int .u8 (p.index.kind:Int),.int .u16 (p.index.idx:Int),.int .u16 (p.index.spec:Int),
 .int .u8 (p.scale:Int),.int .i64 p.disp,.string p.sym,.bool p.static,.int .i64 p.con.kind,.int .u64 (p.con.bits:Int),.string p.con.text,.string p.label,.int .i32 p.rel]
def PO.agg (p:PO):Value:=.agg p.cells
structure PO.Ok (p:PO):Prop where
 reg:p.reg.Ok
 base:p.base.Ok
 index:p.index.Ok
def optReg (fs:Nat→Option Nat) (has:Bool) (g:G):Option (Option R):=if has then (regOf fs g).map some else some none
def memOf (fs:Nat→Option Nat) (p:PO):Option M:=
 if p.kind=2 then (optReg fs p.hasBase p.base).bind fun b=>(optReg fs p.hasIndex p.index).map fun i=>{ sym:=p.sym,static:=p.static,disp:=p.disp,base:=b,index:=i,scale:=p.scale } else none
def memV:Option M→Value
 | none=>zeroMem
 | some m=>m.agg
def Known (fs:Nat→Option Nat) (g:G):Prop:=g.virt=false→g.kind≤3→(fs g.kind).isSome
theorem regOf_grows {w:World} {wb:Nat} {fs fs':Nat→Option Nat} {g:G} (hW:WAt w wb fs') (h:Grows fs fs') (hk:Known fs g):regOf fs' g=regOf fs g:=by
 unfold regOf
 split
 ·rfl
 ·rename_i hv
  by_cases h3:g.kind≤3
  ·exact physOf_grows h (hk (by simpa using hv) h3)
  ·have e':fs' g.kind=none:=by
    cases e:fs' g.kind with
    | none=>rfl
    | some fb=>exact absurd (hW.2 _ fb e).1 h3
   have e:fs g.kind=none:=by
    cases e:fs g.kind with
    | none=>rfl
    | some fb=>have:=h _ fb e;rw [e'] at this;cases this
   simp [physOf,e,e']
theorem Known.grows {fs fs':Nat→Option Nat} {g:G} (hk:Known fs g) (h:Grows fs fs'):Known fs' g:=fun h1 h2=>by
 obtain ⟨fb,e⟩:=Option.isSome_iff_exists.1 (hk h1 h2)
 rw [h _ fb e];rfl
def GivesMem (w:World) (wb:Nat) (fs:Nat→Option Nat) (p:PO) (e:Ending) (w':World):Prop:=
 ∃ fs',Grows fs fs'∧(p.hasBase=true→Known fs' p.base)∧(p.hasIndex=true→(optReg fs' p.hasBase p.base).isSome=true→Known fs' p.index)∧WAt w' wb fs'∧e = .returned (.tuple #[memV (memOf fs' p),.bool (memOf fs' p).isSome])∧Fr (fun b=>b=wb) w w'
theorem alloc3 {S:Nat→Prop} {w w1:World} {x y z:Obj} (hf:Fr S (((w.alloc x).alloc y).alloc z) w1) (h:∀ b,w.heap.size≤b→¬S b):
  w1.heap[w.heap.size]? = some x∧w1.heap[w.heap.size+1]? = some y∧w1.heap[w.heap.size+1+1]? = some z:=by
 have a0:=heap_alloc_new w x
 have a1:=heap_alloc_new (w.alloc x) y
 have a2:=heap_alloc_new ((w.alloc x).alloc y) z
 have b0:=(((Fr.refl nope (w.alloc x)).alloc y).alloc z).heap a0 (fun x=>x)
 have b1:=((Fr.refl nope ((w.alloc x).alloc y)).alloc z).heap a1 (fun x=>x)
 have c0:=hf.heap b0 (h _ (by omega))
 have c1:=hf.heap b1 (h _ (by simp))
 have c2:=hf.heap a2 (h _ (by simp;omega))
 exact ⟨c0,by simpa using c1,by simpa using c2⟩
def zeroMemCells:Array Value:=#[.string ⟨#[]⟩,.bool false,.int .i64 0,.nilIface,.nilIface,.int .u8 0]
set_option maxHeartbeats 1000000 in
theorem mem_calls (w:World) (wb:Nat) (fs:Nat→Option Nat) (p:PO) (hp:p.Ok) (hW:WAt w wb fs) (h2:p.kind=2):
  Calls Tryz.prog 193 #[ptr wb,p.agg] w (GivesMem w wb fs p):=by
 have hlt:=lt_of_heap hW.1
 obtain ⟨kind,rg,hasBase,hasIndex,base,index,scale,disp,sym,static,con,label,rel⟩:=p
 simp only at h2
 subst h2
 simp only [PO.agg,PO.cells]
 go_enter Tryz.func193,Tryz.ntmps193
 cases hasBase with
 | false=>
  cases hasIndex with
  | false=>
   go_wp2
   go_returns
   refine ⟨fs,Grows.refl _,(fun h=>by cases h),(fun h=>by cases h),hW.nope ((((Fr.refl _ _).alloc _).alloc _).alloc _),rfl,(((Fr.refl _ _).alloc _).alloc _).alloc _⟩
  | true=>
   go_wp2_with fail
   refine (reg_calls _ wb fs index hp.index (hW.nope ((((Fr.refl _ _).alloc _).alloc _).alloc _))).mono ?_
   rintro e w1 ⟨fs1,g1,g2,g3,rfl,g4⟩
   obtain ⟨k0,k1,k2⟩:=alloc3 g4 (fun b hb e=>by omega)
   have c0:=fun j=>cell_of_row _ _ j _ _ (0,0) k0
   have c2:=fun j=>cell_of_row _ _ j _ _ (0,0) k2
   have z1:=frozen_row k1
   have z2:=frozen_row k2
   have hf4:Fr (fun b=>b=wb) w w1:=Fr.then ((((Fr.refl _ _).alloc _).alloc _).alloc _) g4
   cases hr:regOf fs1 index with
   | none=>
    simp only [optV,Option.isSome_none]
    go_wp2_with (refine wpList_storeRow (b:=w.heap.size+1) rfl rfl rfl rfl k1 rfl (by kernel_rfl) (by simp [Value.oneCell']) ?_;intro w2 hb2 hf2)
    refine bodyPost_ret (results_cell_row2 rfl _ _ (w.heap.size+1) _ _ _ _ rfl hb2 Tryz.underlying292 rfl (by kernel_rfl)) rfl ?_
    exact ⟨fs1,g1,(fun h=>by cases h),(fun _ _=>g2),g3.frT hf2 (.one k1 (by decide)),by simp [memOf,optReg,hr,memV,zeroMem],hf4.then_new hf2 (fun x hx e=>by omega)⟩
   | some r=>
    obtain ⟨T,v,hv⟩:=r.val_iface
    simp only [optV,hv,Option.isSome_some]
    have k3:=setCell_heap (k:=4) k2 (.iface T v)
    have s3:=Fr.setCell (S:=fun b=>b=w.heap.size+1+1) (p:=⟨w.heap.size+1+1,4,none⟩) (Fr.refl _ w1) (.inl rfl) (.iface T v)
    have k4:=s3.heap k1 (by show ¬(w.heap.size+1=w.heap.size+1+1);omega)
    have c3:=fun j=>cell_of_row _ _ j _ _ (0,0) k3
    go_wp2_with (refine wpList_storeRow (b:=w.heap.size+1) rfl rfl rfl rfl k4 rfl (by kernel_rfl) (by simp [Value.oneCell']) ?_;intro w2 hb2 hf2)
    refine bodyPost_ret (results_cell_row2 rfl _ _ (w.heap.size+1) _ _ _ _ rfl hb2 Tryz.underlying292 rfl (by kernel_rfl)) rfl ?_
    exact ⟨fs1,g1,(fun h=>by cases h),(fun _ _=>g2),(g3.frT s3 (.one k2 (by decide))).frT hf2 (.one k4 (by decide)),by simp [memOf,optReg,hr,memV,M.agg,optV,hv],(hf4.then_new s3 (fun x hx e=>by omega)).then_new hf2 (fun x hx e=>by omega)⟩
 | true=>
  go_wp2_with fail
  refine (reg_calls _ wb fs base hp.base (hW.nope ((((Fr.refl _ _).alloc _).alloc _).alloc _))).mono ?_
  rintro e w1 ⟨fs1,g1,g2,g3,rfl,g4⟩
  obtain ⟨k0,k1,k2⟩:=alloc3 g4 (fun b hb e=>by omega)
  have c0:=fun j=>cell_of_row _ _ j _ _ (0,0) k0
  have c2:=fun j=>cell_of_row _ _ j _ _ (0,0) k2
  have z1:=frozen_row k1
  have z2:=frozen_row k2
  have hf4:Fr (fun b=>b=wb) w w1:=Fr.then ((((Fr.refl _ _).alloc _).alloc _).alloc _) g4
  cases hr:regOf fs1 base with
  | none=>
   simp only [optV,Option.isSome_none]
   go_wp2_with (refine wpList_storeRow (b:=w.heap.size+1) rfl rfl rfl rfl k1 rfl (by kernel_rfl) (by simp [Value.oneCell']) ?_;intro w2 hb2 hf2)
   refine bodyPost_ret (results_cell_row2 rfl _ _ (w.heap.size+1) _ _ _ _ rfl hb2 Tryz.underlying292 rfl (by kernel_rfl)) rfl ?_
   exact ⟨fs1,g1,(fun _=>g2),(fun _ h=>by simp [optReg,hr] at h),g3.frT hf2 (.one k1 (by decide)),by simp [memOf,optReg,hr,memV,zeroMem],hf4.then_new hf2 (fun x hx e=>by omega)⟩
  | some r=>
   obtain ⟨T,v,hv⟩:=r.val_iface
   simp only [optV,hv,Option.isSome_some]
   have k3:=setCell_heap (k:=3) k2 (.iface T v)
   have s3:=Fr.setCell (S:=fun b=>b=w.heap.size+1+1) (p:=⟨w.heap.size+1+1,3,none⟩) (Fr.refl _ w1) (.inl rfl) (.iface T v)
   have k4:=s3.heap k1 (by show ¬(w.heap.size+1=w.heap.size+1+1);omega)
   have k5:=s3.heap k0 (by show ¬(w.heap.size=w.heap.size+1+1);omega)
   have hW3:=g3.frT s3 (.one k2 (by decide))
   have hf5:=hf4.then_new s3 (fun x hx e=>by omega)
   have c3:=fun j=>cell_of_row _ _ j _ _ (0,0) k3
   have c5:=fun j=>cell_of_row _ _ j _ _ (0,0) k5
   cases hasIndex with
   | false=>
    go_wp2_with (refine wpList_storeRow (b:=w.heap.size+1) rfl rfl rfl rfl k4 rfl (by kernel_rfl) (by simp [Value.oneCell']) ?_;intro w2 hb2 hf2)
    refine bodyPost_ret (results_cell_row2 rfl _ _ (w.heap.size+1) _ _ _ _ rfl hb2 Tryz.underlying292 rfl (by kernel_rfl)) rfl ?_
    exact ⟨fs1,g1,(fun _=>g2),(fun h=>by cases h),hW3.frT hf2 (.one k4 (by decide)),by simp [memOf,optReg,hr,memV,M.agg,optV,hv],hf5.then_new hf2 (fun x hx e=>by omega)⟩
   | true=>
    go_wp2_with fail
    refine (reg_calls _ wb fs1 index hp.index hW3).mono ?_
    rintro e w2 ⟨fs2,q1,q2,q3,rfl,q4⟩
    have m0:=q4.heap k5 (by show ¬(w.heap.size=wb);omega)
    have m1:=q4.heap k4 (by show ¬(w.heap.size+1=wb);omega)
    have m2:=q4.heap k3 (by show ¬(w.heap.size+1+1=wb);omega)
    have n0:=fun j=>cell_of_row _ _ j _ _ (0,0) m0
    have n2:=fun j=>cell_of_row _ _ j _ _ (0,0) m2
    have y1:=frozen_row m1
    have y2:=frozen_row m2
    have hgb:=regOf_grows (g:=base) q3 q1 g2
    have hf6:=hf5.then q4
    have hg12:=g1.trans q1
    have g2':Known fs2 base:=Known.grows g2 q1
    cases hr2:regOf fs2 index with
    | none=>
     simp only [optV,Option.isSome_none]
     go_wp2_with (refine wpList_storeRow (b:=w.heap.size+1) rfl rfl rfl rfl m1 rfl (by kernel_rfl) (by simp [Value.oneCell']) ?_;intro w3 hb3 hf3)
     refine bodyPost_ret (results_cell_row2 rfl _ _ (w.heap.size+1) _ _ _ _ rfl hb3 Tryz.underlying292 rfl (by kernel_rfl)) rfl ?_
     exact ⟨fs2,hg12,(fun _=>g2'),(fun _ _=>q2),q3.frT hf3 (.one m1 (by decide)),by simp [memOf,optReg,hgb,hr,hr2,memV,zeroMem],hf6.then_new hf3 (fun x hx e=>by omega)⟩
    | some r2=>
     obtain ⟨T2,v2,hv2⟩:=r2.val_iface
     simp only [optV,hv2,Option.isSome_some]
     have m3:=setCell_heap (k:=4) m2 (.iface T2 v2)
     have s4:=Fr.setCell (S:=fun b=>b=w.heap.size+1+1) (p:=⟨w.heap.size+1+1,4,none⟩) (Fr.refl _ w2) (.inl rfl) (.iface T2 v2)
     have m4:=s4.heap m1 (by show ¬(w.heap.size+1=w.heap.size+1+1);omega)
     have n3:=fun j=>cell_of_row _ _ j _ _ (0,0) m3
     go_wp2_with (refine wpList_storeRow (b:=w.heap.size+1) rfl rfl rfl rfl m4 rfl (by kernel_rfl) (by simp [Value.oneCell']) ?_;intro w3 hb3 hf3)
     refine bodyPost_ret (results_cell_row2 rfl _ _ (w.heap.size+1) _ _ _ _ rfl hb3 Tryz.underlying292 rfl (by kernel_rfl)) rfl ?_
     exact ⟨fs2,hg12,(fun _=>g2'),(fun _ _=>q2),(q3.frT s4 (.one m2 (by decide))).frT hf3 (.one m4 (by decide)),by simp [memOf,optReg,hgb,hr,hr2,memV,M.agg,optV,hv,hv2],(hf6.then_new s4 (fun x hx e=>by omega)).then_new hf3 (fun x hx e=>by omega)⟩
end
end Go.Proofs.YtjlfkgjmgghhiaaGreat
