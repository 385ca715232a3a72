/- Part of the proof of a statement about pub-berthage: what its texts have in common. -/
import Derived.Deep.MidRow
import Derived.Handy
import Derived.Test.YtpbeedabmjmdmaaGreatDoorP06
import Derived.Test.YtpbeedabmjmdmaaGreatDoorP08
namespace Bth
section
open Go Go.RowKit
theorem setCells_heap {b:Nat} {t:TypeId} {fr:Nat × Nat} : ∀ (vs pre suf:List Value) (w:World),suf.length=vs.length→w.heap[b]? = some (.cells (pre ++ suf).toArray t fr)→(w.setCells b pre.length vs).heap[b]? = some (.cells (pre ++ vs).toArray t fr):=by
 intro vs
 induction vs with
 | nil=>
  intro pre suf w hl h
  obtain rfl:suf=[]:=by simpa using hl
  simpa [World.setCells] using h
 | cons v vs ih=>
  intro pre suf w hl h
  cases suf with
  | nil=>simp at hl
  | cons u suf=>
   have h2:=Go.Proofs.YtpbeedabmjmdmaaGreatDoor.setCell_heap (k:=pre.length) h v
   have e:((pre ++ u :: suf).toArray.setIfInBounds pre.length v)=((pre ++ [v]) ++ suf).toArray:=by simp
   rw [e] at h2
   have:=ih (pre ++ [v]) suf (w.setCell ⟨b,pre.length,none⟩ v) (by simpa using hl) h2
   simpa [World.setCells] using this
theorem setCells_fr {S:Nat→Prop} {b:Nat} : ∀ (vs:List Value) (o:Nat) (a w:World),Fr S a w→(S b∨a.heap.size≤b)→Fr S a (w.setCells b o vs):=by
 intro vs
 induction vs with
 | nil=>intro o a w h _;simpa [World.setCells] using h
 | cons v vs ih=>intro o a w h hb;exact ih (o+1) a _ (h.setCell (p:=⟨b,o,none⟩) hb v) hb
theorem wpList_storeRow {P:Program} {ops:Array Oper} {rest:List Oper} {op:Oper} {a:Act} {w:World} {Q:Exit→Act→World→Prop} (hgd:op.guard=none) {ty:TypeId} {x y:Operand} (ho:op.op = .store ty x y)
  {b:Nat} {cells cs:Array Value} {t:TypeId} (hx:a.eval x = .pointer (some ⟨b,0,none⟩)) (hy:a.eval y = .agg cells) (hb:w.heap[b]? = some (.cells cs t (0,0))) (hl:cs.size=cells.size)
  (hi:(P.info? ty).map (·.size)=some cells.size) (h1:cells.all (·.oneCell')=true)
  (h:∀ w',w'.heap[b]? = some (.cells cells t (0,0))→Fr (fun x=>x=b) w w'→wpList P ops Q rest (a.put op.dst undef) w'):wpList P ops Q (op :: rest) a w:=by
 refine wpList_store_mid hgd ty x y ho b 0 cells hx hy (fun j hj=>⟨?_,?_⟩) hi h1 (h _ ?_ (setCells_fr _ _ _ _ (Fr.refl _ _) (.inl rfl)))
 ·rw [cell_of_row w b _ _ _ (0,0) hb]
  simp;omega
 ·simp [World.frozen?,hb]
 ·have:=setCells_heap (b:=b) (t:=t) (fr:=(0,0)) cells.toList [] cs.toList w (by simpa using hl) (by simpa using hb)
  simpa using this
theorem wpList_loadRow {P:Program} {ops:Array Oper} {rest:List Oper} {op:Oper} {a:Act} {w:World} {Q:Exit→Act→World→Prop} (hgd:op.guard=none) {ty:TypeId} {x:Operand} (ho:op.op = .load ty x)
  {b:Nat} {cells:Array Value} {t:TypeId} {d:TypeDesc} (hx:a.eval x = .pointer (some ⟨b,0,none⟩)) (hb:w.heap[b]? = some (.cells cells t (0,0)))
  (hu:P.underlying ty=some d) (hd:d.isRow=true) (hi:(P.info? ty).map (·.size)=some cells.size)
  (h:wpList P ops Q rest (a.put op.dst (.agg cells)) w):wpList P ops Q (op :: rest) a w:=by
 refine wpList_load_mid hgd ty x ho b 0 hx cells.toList d (fun j v hv=>?_) hu hd (by simpa using hi) (by simpa using h)
 rw [cell_of_row w b _ _ _ (0,0) hb]
 simpa using hv
theorem results_cell_row2 {P:Program} {fn:Func} {p s:Tmp} {ty:TypeId} (h:fn.results = #[.cell p ty,.tmp s]) (tmps:Array Value) (w:World) (g:Nat) (t:TypeId) (cs:Array Value) (fr:Nat × Nat) (d:TypeDesc)
  (hp:tmps.getD p undef = .pointer (some ⟨g,0,none⟩)) (hg:w.heap[g]? = some (.cells cs t fr))
  (hu:P.underlying ty=some d) (hd:(match d with | .struct _ | .array _ _=>true | _=>false)=true) (hi:(P.info? ty).map (·.size)=some cs.size):
  (results fn tmps).run P w = .ok (.tuple #[.agg cs,tmps.getD s undef]) w:=by
 have hp':tmps[p]?.getD undef = .pointer (some ⟨g,0,none⟩):=by simpa using hp
 simp [results,h,hp',asAddr,run_loadVar_row w g t ty cs fr d hg hu hd hi]
end
end Bth
namespace Go.Proofs.YtpbeedabmjmdmaaGreatDoor
section
open Go Go.RowKit Bth
set_option maxRecDepth 100000
structure PO where
 kind:Int
 reg:G
 hasBase:Bool
 hasIndex:Bool
 base:G
 index:G
 scale:Nat
 disp:Int
 sym:ByteArray
 static:Bool
 con:PC
 label:ByteArray
 rel:Int
def PO.cells (p:PO):Array Value:=#[.int .i64 p.kind,.bool p.reg.virt,.int .u8 (p.reg.kind:Int),.int .u16 (p.reg.idx:Int),.int .u16 (p.reg.spec:Int),.bool p.hasBase,.bool p.hasIndex,
 .bool p.base.virt,.int .u8 (p.base.kind:Int),.int .u16 (p.base.idx:Int),.int .u16 (p.base.spec:Int),.bool p.index.virt,.int .u8 (p.index.kind:Int),.int .u16 (p.index.idx:Int),.int .u16 (p.index.spec:Int),
 .int .u8 (p.scale:Int),.int .i64 p.disp,.string p.sym,.bool p.static,.int .i64 p.con.kind,.int .u64 (p.con.bits:Int),.string p.con.text,.string p.label,.int .i32 p.rel]
def PO.agg (p:PO):Value:=.agg p.cells
structure PO.Ok (p:PO):Prop where
 reg:p.reg.Ok
 base:p.base.Ok
 index:p.index.Ok
def optReg (fs:Nat→Option Nat) (has:Bool) (g:G):Option (Option R):=if has then (regOf fs g).map some else some none
def memOf (fs:Nat→Option Nat) (p:PO):Option M:=
 if p.kind=2 then (optReg fs p.hasBase p.base).bind fun b=>(optReg fs p.hasIndex p.index).map fun i=>{ sym:=p.sym,static:=p.static,disp:=p.disp,base:=b,index:=i,scale:=p.scale } else none
def memV:Option M→Value
 | none=>zeroMem
 | some m=>m.agg
def Known (fs:Nat→Option Nat) (g:G):Prop:=g.virt=false→g.kind≤3→(fs g.kind).isSome
theorem regOf_grows {w:World} {wb:Nat} {fs fs':Nat→Option Nat} {g:G} (hW:WAt w wb fs') (h:Grows fs fs') (hk:Known fs g):regOf fs' g=regOf fs g:=by
 unfold regOf
 split
 ·rfl
 ·rename_i hv
  by_cases h3:g.kind≤3
  ·exact physOf_grows h (hk (by simpa using hv) h3)
  ·have e':fs' g.kind=none:=by
    cases e:fs' g.kind with
    | none=>rfl
    | some fb=>exact absurd (hW.2 _ fb e).1 h3
   have e:fs g.kind=none:=by
    cases e:fs g.kind with
    | none=>rfl
    | some fb=>have:=h _ fb e;rw [e'] at this;cases this
   simp [physOf,e,e']
theorem Known.grows {fs fs':Nat→Option Nat} {g:G} (hk:Known fs g) (h:Grows fs fs'):Known fs' g:=fun h1 h2=>by
 obtain ⟨fb,e⟩:=Option.isSome_iff_exists.1 (hk h1 h2)
 rw [h _ fb e];rfl
def GivesMem (w:World) (wb:Nat) (fs:Nat→Option Nat) (p:PO) (e:Ending) (w':World):Prop:=
 ∃ fs',Grows fs fs'∧(p.hasBase=true→Known fs' p.base)∧(p.hasIndex=true→(optReg fs' p.hasBase p.base).isSome=true→Known fs' p.index)∧WAt w' wb fs'∧e = .returned (.tuple #[memV (memOf fs' p),.bool (memOf fs' p).isSome])∧Fr (fun b=>b=wb) w w'
theorem alloc3 {S:Nat→Prop} {w w1:World} {x y z:Obj} (hf:Fr S (((w.alloc x).alloc y).alloc z) w1) (h:∀ b,w.heap.size≤b→¬S b):
  w1.heap[w.heap.size]? = some x∧w1.heap[w.heap.size+1]? = some y∧w1.heap[w.heap.size+1+1]? = some z:=by
 have a0:=heap_alloc_new w x
 have a1:=heap_alloc_new (w.alloc x) y
 have a2:=heap_alloc_new ((w.alloc x).alloc y) z
 have b0:=(((Fr.refl nope (w.alloc x)).alloc y).alloc z).heap a0 (fun x=>x)
 have b1:=((Fr.refl nope ((w.alloc x).alloc y)).alloc z).heap a1 (fun x=>x)
 have c0:=hf.heap b0 (h _ (by omega))
 have c1:=hf.heap b1 (h _ (by simp))
 have c2:=hf.heap a2 (h _ (by simp;omega))
 exact ⟨c0,by simpa using c1,by simpa using c2⟩
def zeroMemCells:Array Value:=#[.string ⟨#[]⟩,.bool false,.int .i64 0,.nilIface,.nilIface,.int .u8 0]
set_option maxHeartbeats 1000000 in
theorem mem_calls (w:World) (wb:Nat) (fs:Nat→Option Nat) (p:PO) (hp:p.Ok) (hW:WAt w wb fs) (h2:p.kind=2):
  Calls Tryz.prog 160 #[ptr wb,p.agg] w (GivesMem w wb fs p):=by
 have hlt:=lt_of_heap hW.1
 obtain ⟨kind,rg,hasBase,hasIndex,base,index,scale,disp,sym,static,con,label,rel⟩:=p
 simp only at h2
 subst h2
 simp only [PO.agg,PO.cells]
 go_enter Tryz.func160,Tryz.ntmps160
 cases hasBase with
 | false=>
  cases hasIndex with
  | false=>
   go_wp2
   go_returns
   refine ⟨fs,Grows.refl _,(fun h=>by cases h),(fun h=>by cases h),hW.nope ((((Fr.refl _ _).alloc _).alloc _).alloc _),rfl,(((Fr.refl _ _).alloc _).alloc _).alloc _⟩
  | true=>
   go_wp2_with fail
   refine (reg_calls _ wb fs index hp.index (hW.nope ((((Fr.refl _ _).alloc _).alloc _).alloc _))).mono ?_
   rintro e w1 ⟨fs1,g1,g2,g3,rfl,g4⟩
   obtain ⟨k0,k1,k2⟩:=alloc3 g4 (fun b hb e=>by omega)
   have c0:=fun j=>cell_of_row _ _ j _ _ (0,0) k0
   have c2:=fun j=>cell_of_row _ _ j _ _ (0,0) k2
   have z1:=frozen_row k1
   have z2:=frozen_row k2
   have hf4:Fr (fun b=>b=wb) w w1:=Fr.then ((((Fr.refl _ _).alloc _).alloc _).alloc _) g4
   cases hr:regOf fs1 index with
   | none=>
    simp only [optV,Option.isSome_none]
    go_wp2_with (refine wpList_storeRow (b:=w.heap.size+1) rfl rfl rfl rfl k1 rfl (by kernel_rfl) (by simp [Value.oneCell']) ?_;intro w2 hb2 hf2)
    refine bodyPost_ret (results_cell_row2 rfl _ _ (w.heap.size+1) _ _ _ _ rfl hb2 Tryz.underlying197 rfl (by kernel_rfl)) rfl ?_
    exact ⟨fs1,g1,(fun h=>by cases h),(fun _ _=>g2),g3.frT hf2 (.one k1 (by decide)),by simp [memOf,optReg,hr,memV,zeroMem],hf4.then_new hf2 (fun x hx e=>by omega)⟩
   | some r=>
    obtain ⟨T,v,hv⟩:=r.val_iface
    simp only [optV,hv,Option.isSome_some]
    have k3:=setCell_heap (k:=4) k2 (.iface T v)
    have s3:=Fr.setCell (S:=fun b=>b=w.heap.size+1+1) (p:=⟨w.heap.size+1+1,4,none⟩) (Fr.refl _ w1) (.inl rfl) (.iface T v)
    have k4:=s3.heap k1 (by show ¬(w.heap.size+1=w.heap.size+1+1);omega)
    have c3:=fun j=>cell_of_row _ _ j _ _ (0,0) k3
    go_wp2_with (refine wpList_storeRow (b:=w.heap.size+1) rfl rfl rfl rfl k4 rfl (by kernel_rfl) (by simp [Value.oneCell']) ?_;intro w2 hb2 hf2)
    refine bodyPost_ret (results_cell_row2 rfl _ _ (w.heap.size+1) _ _ _ _ rfl hb2 Tryz.underlying197 rfl (by kernel_rfl)) rfl ?_
    exact ⟨fs1,g1,(fun h=>by cases h),(fun _ _=>g2),(g3.frT s3 (.one k2 (by decide))).frT hf2 (.one k4 (by decide)),by simp [memOf,optReg,hr,memV,M.agg,optV,hv],(hf4.then_new s3 (fun x hx e=>by omega)).then_new hf2 (fun x hx e=>by omega)⟩
 | true=>
  go_wp2_with fail
  refine (reg_calls _ wb fs base hp.base (hW.nope ((((Fr.refl _ _).alloc _).alloc _).alloc _))).mono ?_
  rintro e w1 ⟨fs1,g1,g2,g3,rfl,g4⟩
  obtain ⟨k0,k1,k2⟩:=alloc3 g4 (fun b hb e=>by omega)
  have c0:=fun j=>cell_of_row _ _ j _ _ (0,0) k0
  have c2:=fun j=>cell_of_row _ _ j _ _ (0,0) k2
  have z1:=frozen_row k1
  have z2:=frozen_row k2
  have hf4:Fr (fun b=>b=wb) w w1:=Fr.then ((((Fr.refl _ _).alloc _).alloc _).alloc _) g4
  cases hr:regOf fs1 base with
  | none=>
   simp only [optV,Option.isSome_none]
   go_wp2_with (refine wpList_storeRow (b:=w.heap.size+1) rfl rfl rfl rfl k1 rfl (by kernel_rfl) (by simp [Value.oneCell']) ?_;intro w2 hb2 hf2)
   refine bodyPost_ret (results_cell_row2 rfl _ _ (w.heap.size+1) _ _ _ _ rfl hb2 Tryz.underlying197 rfl (by kernel_rfl)) rfl ?_
   exact ⟨fs1,g1,(fun _=>g2),(fun _ h=>by simp [optReg,hr] at h),g3.frT hf2 (.one k1 (by decide)),by simp [memOf,optReg,hr,memV,zeroMem],hf4.then_new hf2 (fun x hx e=>by omega)⟩
  | some r=>
   obtain ⟨T,v,hv⟩:=r.val_iface
   simp only [optV,hv,Option.isSome_some]
   have k3:=setCell_heap (k:=3) k2 (.iface T v)
   have s3:=Fr.setCell (S:=fun b=>b=w.heap.size+1+1) (p:=⟨w.heap.size+1+1,3,none⟩) (Fr.refl _ w1) (.inl rfl) (.iface T v)
   have k4:=s3.heap k1 (by show ¬(w.heap.size+1=w.heap.size+1+1);omega)
   have k5:=s3.heap k0 (by show ¬(w.heap.size=w.heap.size+1+1);omega)
   have hW3:=g3.frT s3 (.one k2 (by decide))
   have hf5:=hf4.then_new s3 (fun x hx e=>by omega)
   have c3:=fun j=>cell_of_row _ _ j _ _ (0,0) k3
   have c5:=fun j=>cell_of_row _ _ j _ _ (0,0) k5
   cases hasIndex with
   | false=>
    go_wp2_with (refine wpList_storeRow (b:=w.heap.size+1) rfl rfl rfl rfl k4 rfl (by kernel_rfl) (by simp [Value.oneCell']) ?_;intro w2 hb2 hf2)
    refine bodyPost_ret (results_cell_row2 rfl _ _ (w.heap.size+1) _ _ _ _ rfl hb2 Tryz.underlying197 rfl (by kernel_rfl)) rfl ?_
    exact ⟨fs1,g1,(fun _=>g2),(fun h=>by cases h),hW3.frT hf2 (.one k4 (by decide)),by simp [memOf,optReg,hr,memV,M.agg,optV,hv],hf5.then_new hf2 (fun x hx e=>by omega)⟩
   | true=>
    go_wp2_with fail
    refine (reg_calls _ wb fs1 index hp.index hW3).mono ?_
    rintro e w2 ⟨fs2,q1,q2,q3,rfl,q4⟩
    have m0:=q4.heap k5 (by show ¬(w.heap.size=wb);omega)
    have m1:=q4.heap k4 (by show ¬(w.heap.size+1=wb);omega)
    have m2:=q4.heap k3 (by show ¬(w.heap.size+1+1=wb);omega)
    have n0:=fun j=>cell_of_row _ _ j _ _ (0,0) m0
    have n2:=fun j=>cell_of_row _ _ j _ _ (0,0) m2
    have y1:=frozen_row m1
    have y2:=frozen_row m2
    have hgb:=regOf_grows (g:=base) q3 q1 g2
    have hf6:=hf5.then q4
    have hg12:=g1.trans q1
    have g2':Known fs2 base:=Known.grows g2 q1
    cases hr2:regOf fs2 index with
    | none=>
     simp only [optV,Option.isSome_none]
     go_wp2_with (refine wpList_storeRow (b:=w.heap.size+1) rfl rfl rfl rfl m1 rfl (by kernel_rfl) (by simp [Value.oneCell']) ?_;intro w3 hb3 hf3)
     refine bodyPost_ret (results_cell_row2 rfl _ _ (w.heap.size+1) _ _ _ _ rfl hb3 Tryz.underlying197 rfl (by kernel_rfl)) rfl ?_
     exact ⟨fs2,hg12,(fun _=>g2'),(fun _ _=>q2),q3.frT hf3 (.one m1 (by decide)),by simp [memOf,optReg,hgb,hr,hr2,memV,zeroMem],hf6.then_new hf3 (fun x hx e=>by omega)⟩
    | some r2=>
     obtain ⟨T2,v2,hv2⟩:=r2.val_iface
     simp only [optV,hv2,Option.isSome_some]
     have m3:=setCell_heap (k:=4) m2 (.iface T2 v2)
     have s4:=Fr.setCell (S:=fun b=>b=w.heap.size+1+1) (p:=⟨w.heap.size+1+1,4,none⟩) (Fr.refl _ w2) (.inl rfl) (.iface T2 v2)
     have m4:=s4.heap m1 (by show ¬(w.heap.size+1=w.heap.size+1+1);omega)
     have n3:=fun j=>cell_of_row _ _ j _ _ (0,0) m3
     go_wp2_with (refine wpList_storeRow (b:=w.heap.size+1) rfl rfl rfl rfl m4 rfl (by kernel_rfl) (by simp [Value.oneCell']) ?_;intro w3 hb3 hf3)
     refine bodyPost_ret (results_cell_row2 rfl _ _ (w.heap.size+1) _ _ _ _ rfl hb3 Tryz.underlying197 rfl (by kernel_rfl)) rfl ?_
     exact ⟨fs2,hg12,(fun _=>g2'),(fun _ _=>q2),(q3.frT s4 (.one m2 (by decide))).frT hf3 (.one m4 (by decide)),by simp [memOf,optReg,hgb,hr,hr2,memV,M.agg,optV,hv,hv2],(hf6.then_new s4 (fun x hx e=>by omega)).then_new hf3 (fun x hx e=>by omega)⟩
end
section
open Go Go.RowKit Bth
set_option maxRecDepth 100000
def opOf (fs:Nat→Option Nat) (p:PO):Option O:=
 if p.kind=1 then (regOf fs p.reg).map O.reg else if p.kind=2 then (memOf fs p).map O.mem else if p.kind=3 then (conOf p.con).map O.con else if p.kind=4 then some (.label p.label) else if p.kind=5 then some (.rel p.rel) else none
theorem optReg_at {w:World} {wb:Nat} {fs:Nat→Option Nat} {has:Bool} {g:G} {x:Option R} (hW:WAt w wb fs) (hg:g.Ok) (h:optReg fs has g=some x):∀ r,x=some r→r.Ok∧r.At w:=by
 intro r hr
 subst hr
 unfold optReg at h
 split at h
 ·obtain ⟨r',h1,h2⟩:=Option.map_eq_some_iff.1 h
  injection h2 with h2
  subst h2
  obtain ⟨_,_,_,_,a,b⟩:=hW.reg hg h1
  exact ⟨a,b⟩
 ·cases h
theorem memOf_parts {fs:Nat→Option Nat} {p:PO} {m:M} (h:memOf fs p=some m):p.kind=2∧∃ b i,optReg fs p.hasBase p.base=some b∧optReg fs p.hasIndex p.index=some i∧m = { sym:=p.sym,static:=p.static,disp:=p.disp,base:=b,index:=i,scale:=p.scale }:=by
 unfold memOf at h
 split at h
 ·rename_i h2
  obtain ⟨b,hb,h⟩:=Option.bind_eq_some_iff.1 h
  obtain ⟨i,hi,h⟩:=Option.map_eq_some_iff.1 h
  exact ⟨h2,b,i,hb,hi,h.symm⟩
 ·cases h
theorem opOf_at {w:World} {wb:Nat} {fs:Nat→Option Nat} {p:PO} {o:O} (hW:WAt w wb fs) (hp:p.Ok) (h:opOf fs p=some o):o.At w:=by
 unfold opOf at h
 split at h
 ·obtain ⟨r,h1,rfl⟩:=Option.map_eq_some_iff.1 h
  intro r' hr
  obtain rfl:r'=r:=by simpa [O.regs] using hr
  obtain ⟨_,_,_,_,a,b⟩:=hW.reg hp.reg h1
  exact ⟨a,b⟩
 split at h
 ·obtain ⟨m,h1,rfl⟩:=Option.map_eq_some_iff.1 h
  obtain ⟨_,b,i,hb,hi,rfl⟩:=memOf_parts h1
  intro r hr
  have hb':=optReg_at hW hp.base hb
  have hi':=optReg_at hW hp.index hi
  have hr:r∈b.toList ++ i.toList:=hr
  simp only [List.mem_append,Option.mem_toList] at hr
  rcases hr with hr | hr
  ·exact hb' r hr
  ·exact hi' r hr
 split at h
 ·obtain ⟨c,h1,rfl⟩:=Option.map_eq_some_iff.1 h
  intro r hr;simp [O.regs] at hr
 split at h
 ·injection h with h;subst h;intro r hr;simp [O.regs] at hr
 split at h
 ·injection h with h;subst h;intro r hr;simp [O.regs] at hr
 ·cases h
def tabOf:Nat→List (String × Ent)
 | 0=>tab0
 | 1=>tab1
 | 2=>tab2
 | _=>tab3
def okG (g:G):Bool:=g.virt || (decide (g.kind≤3) && (tabOf g.kind).any fun x=>x.2.idx == g.idx && x.2.spec == g.spec)
def okM (p:PO):Bool:=(!p.hasBase || okG p.base) && (!p.hasIndex || okG p.index)
def okP (p:PO):Bool:=if p.kind=1 then okG p.reg else if p.kind=2 then okM p else if p.kind=3 then (conK p.con.kind).isSome else if p.kind=4 then true else if p.kind=5 then true else false
theorem famRegs_tab (fb k:Nat) (hk:k≤3):famRegs fb k=regsF fb k (tabOf k):=by
 rcases k with _ | _ | _ | _ | k
 ·rfl
 ·rfl
 ·rfl
 ·rfl
 ·omega
theorem pickR_some (fb k i s:Nat) (hk:k≤3):(pickR (famRegs fb k) i s).isSome=(tabOf k).any fun x=>x.2.idx == i && x.2.spec == s:=by
 rw [famRegs_tab fb k hk]
 unfold pickR regsF
 rw [Bool.eq_iff_iff,List.find?_isSome]
 simp [Ent.r]
 constructor
 ·rintro ⟨x,⟨a,b,h,rfl⟩,h1,h2⟩;exact ⟨a,b,h,h1,h2⟩
 ·rintro ⟨a,b,h,h1,h2⟩;exact ⟨_,⟨a,b,h,rfl⟩,h1,h2⟩
theorem regOf_ok {w:World} {wb:Nat} {fs:Nat→Option Nat} {g:G} (hW:WAt w wb fs) (hk:Known fs g):(regOf fs g).isSome=okG g:=by
 unfold regOf okG
 cases hv:g.virt with
 | true=>rfl
 | false=>
  simp only [Bool.false_eq_true,if_false,Bool.false_or]
  unfold physOf
  by_cases h3:g.kind≤3
  ·obtain ⟨fb,e⟩:=Option.isSome_iff_exists.1 (hk hv h3)
   rw [e,Option.bind_some,pickR_some _ _ _ _ h3]
   simp [h3]
  ·have e:fs g.kind=none:=by
    cases e:fs g.kind with
    | none=>rfl
    | some fb=>exact absurd (hW.2 _ fb e).1 h3
   rw [e]
   simp [h3]
theorem optReg_ok {w:World} {wb:Nat} {fs:Nat→Option Nat} {has:Bool} {g:G} (hW:WAt w wb fs) (hk:has=true→Known fs g):(optReg fs has g).isSome=(!has || okG g):=by
 unfold optReg
 cases has with
 | false=>rfl
 | true=>simp [regOf_ok hW (hk rfl)]
theorem memOf_ok {w:World} {wb:Nat} {fs:Nat→Option Nat} {p:PO} (hW:WAt w wb fs) (h2:p.kind=2) (hb:p.hasBase=true→Known fs p.base) (hi:p.hasIndex=true→(optReg fs p.hasBase p.base).isSome=true→Known fs p.index):(memOf fs p).isSome=okM p:=by
 unfold memOf okM
 rw [if_pos h2,← optReg_ok hW hb]
 cases hx:optReg fs p.hasBase p.base with
 | none=>rfl
 | some b=>
  rw [← optReg_ok hW (fun hh=>hi hh (by rw [hx];rfl))]
  simp
def Settled (wb:Nat) (fs:Nat→Option Nat) (p:PO):Prop:=∀ w' fs',WAt w' wb fs'→Grows fs fs'→opOf fs' p=opOf fs p
theorem Settled.grows {wb:Nat} {fs fs':Nat→Option Nat} {p:PO} {w:World} (h:Settled wb fs p) (hW:WAt w wb fs') (hg:Grows fs fs'):Settled wb fs' p:=fun w2 fs2 hW2 hg2=>(h w2 fs2 hW2 (hg.trans hg2)).trans (h w fs' hW hg).symm
def GivesOp (w:World) (wb:Nat) (fs:Nat→Option Nat) (p:PO) (e:Ending) (w':World):Prop:=
 ∃ fs' x,Grows fs fs'∧Settled wb fs' p∧WAt w' wb fs'∧e = .returned (.tuple #[x,.bool (opOf fs' p).isSome])∧(∀ o,opOf fs' p=some o→x=o.val)∧Fr (fun b=>b=wb) w w'∧(opOf fs' p).isSome=okP p
theorem optReg_grows {w:World} {wb:Nat} {fs fs':Nat→Option Nat} {has:Bool} {g:G} (hW:WAt w wb fs') (h:Grows fs fs') (hk:has=true→Known fs g):optReg fs' has g=optReg fs has g:=by
 unfold optReg
 split
 ·rename_i hh;rw [regOf_grows hW h (hk hh)]
 ·rfl
theorem memOf_grows {w:World} {wb:Nat} {fs fs':Nat→Option Nat} {p:PO} (hW:WAt w wb fs') (h:Grows fs fs') (hb:p.hasBase=true→Known fs p.base) (hi:p.hasIndex=true→(optReg fs p.hasBase p.base).isSome=true→Known fs p.index):memOf fs' p=memOf fs p:=by
 unfold memOf
 split
 ·rw [optReg_grows hW h hb]
  cases hx:optReg fs p.hasBase p.base with
  | none=>rfl
  | some b=>rw [optReg_grows hW h (fun hh=>hi hh (by rw [hx];rfl))]
 ·rfl
theorem op_calls1 (w:World) (wb:Nat) (fs:Nat→Option Nat) (p:PO) (hp:p.Ok) (hW:WAt w wb fs) (h1:p.kind=1):
  Calls Tryz.prog 129 #[ptr wb,p.agg] w (GivesOp w wb fs p):=by
 have hWa:=fun o=>hW.nope ((Fr.refl nope w).alloc o)
 obtain ⟨kind,rg,hasBase,hasIndex,base,index,scale,disp,sym,static,con,label,rel⟩:=p
 simp only at h1
 subst h1
 simp only [PO.agg,PO.cells]
 go_enter Tryz.func129,Tryz.ntmps129
 go_wp2_with (go_at_call 159;refine (reg_calls _ wb fs rg hp.reg (hWa _)).mono ?_;rintro e w1 ⟨fs1,g1,g2,g3,rfl,g4⟩)
 go_ret2
 refine ⟨fs1,optV (regOf fs1 rg),g1,fun w' fs' hW' hg=>?_,g3,?_,?_,((Fr.refl _ _).alloc _).then g4,by simp [opOf,okP,regOf_ok g3 g2]⟩
 ·simp only [opOf];rw [if_pos trivial,if_pos trivial,regOf_grows hW' hg g2]
 ·simp [opOf]
 ·intro o ho
  simp only [opOf] at ho
  obtain ⟨r,h1,rfl⟩:=Option.map_eq_some_iff.1 ho
  rw [h1];rfl
theorem op_calls2 (w:World) (wb:Nat) (fs:Nat→Option Nat) (p:PO) (hp:p.Ok) (hW:WAt w wb fs) (h2:p.kind=2):
  Calls Tryz.prog 129 #[ptr wb,p.agg] w (GivesOp w wb fs p):=by
 have hWa:=fun o=>hW.nope ((Fr.refl nope w).alloc o)
 have hm:=fun W hW=>mem_calls W wb fs p hp hW h2
 obtain ⟨kind,rg,hasBase,hasIndex,base,index,scale,disp,sym,static,con,label,rel⟩:=p
 simp only at h2
 subst h2
 simp only [PO.agg,PO.cells] at hm ⊢
 go_enter Tryz.func129,Tryz.ntmps129
 go_wp2_with (refine wpList_loadRow (b:=w.heap.size) rfl rfl rfl (heap_alloc_new w _) Tryz.underlying45 rfl (by kernel_rfl) ?_)
 refine (hm _ (hWa _)).mono ?_
 rintro e w1 ⟨fs1,g1,g2,g2',g3,rfl,g4⟩
 cases hmm:memOf fs1 { kind:=2,reg:=rg,hasBase:=hasBase,hasIndex:=hasIndex,base:=base,index:=index,scale:=scale,disp:=disp,sym:=sym,static:=static,con:=con,label:=label,rel:=rel } with
 | none=>
  simp only [memV,zeroMem,Option.isSome_none]
  go_wp2
  go_ret2
  refine ⟨fs1,.iface 197 zeroMem,g1,fun w' fs' hW' hg=>?_,g3,?_,?_,((Fr.refl _ _).alloc _).then g4,by simp [opOf,okP,memOf_ok (p:={ kind:=2,reg:=rg,hasBase:=hasBase,hasIndex:=hasIndex,base:=base,index:=index,scale:=scale,disp:=disp,sym:=sym,static:=static,con:=con,label:=label,rel:=rel }) g3 rfl g2 g2']⟩
  ·simp [opOf,memOf_grows (p:={ kind:=2,reg:=rg,hasBase:=hasBase,hasIndex:=hasIndex,base:=base,index:=index,scale:=scale,disp:=disp,sym:=sym,static:=static,con:=con,label:=label,rel:=rel }) hW' hg g2 g2']
  ·simp [opOf,hmm,zeroMem]
  ·intro o ho;simp [opOf,hmm] at ho
 | some m=>
  simp only [memV,M.agg,Option.isSome_some]
  go_wp2
  go_ret2
  refine ⟨fs1,.iface 197 m.agg,g1,fun w' fs' hW' hg=>?_,g3,?_,?_,((Fr.refl _ _).alloc _).then g4,by simp [opOf,okP,memOf_ok (p:={ kind:=2,reg:=rg,hasBase:=hasBase,hasIndex:=hasIndex,base:=base,index:=index,scale:=scale,disp:=disp,sym:=sym,static:=static,con:=con,label:=label,rel:=rel }) g3 rfl g2 g2']⟩
  ·simp [opOf,memOf_grows (p:={ kind:=2,reg:=rg,hasBase:=hasBase,hasIndex:=hasIndex,base:=base,index:=index,scale:=scale,disp:=disp,sym:=sym,static:=static,con:=con,label:=label,rel:=rel }) hW' hg g2 g2']
  ·simp [opOf,hmm,M.agg]
  ·intro o ho
   obtain rfl:O.mem m=o:=by simpa [opOf,hmm] using ho
   rfl
theorem op_calls3 (w:World) (wb:Nat) (fs:Nat→Option Nat) (p:PO) (hW:WAt w wb fs) (h3:p.kind=3):
  Calls Tryz.prog 129 #[ptr wb,p.agg] w (GivesOp w wb fs p):=by
 have hWa:=fun o=>hW.nope ((Fr.refl nope w).alloc o)
 obtain ⟨kind,rg,hasBase,hasIndex,base,index,scale,disp,sym,static,con,label,rel⟩:=p
 simp only at h3
 subst h3
 simp only [PO.agg,PO.cells]
 go_enter Tryz.func129,Tryz.ntmps129
 go_wp2_with (go_at_call 161;refine (constant_calls _ con).mono ?_;rintro e w1 ⟨rfl,g4⟩)
 go_ret2
 refine ⟨fs,optC (conOf con),Grows.refl _,fun w' fs' hW' hg=>rfl,(hWa _).nope g4,?_,?_,((Fr.refl _ _).alloc _).then g4.of_nope,by simp [opOf,okP,conOf]⟩
 ·simp [opOf]
 ·intro o ho
  simp only [opOf] at ho
  obtain ⟨r,h1,rfl⟩:=Option.map_eq_some_iff.1 (show (conOf con).map O.con=some o by simpa using ho)
  rw [h1];rfl
theorem op_calls4 (w:World) (wb:Nat) (fs:Nat→Option Nat) (p:PO) (hW:WAt w wb fs) (h4:p.kind=4):
  Calls Tryz.prog 129 #[ptr wb,p.agg] w (GivesOp w wb fs p):=by
 have hWa:=fun o=>hW.nope ((Fr.refl nope w).alloc o)
 obtain ⟨kind,rg,hasBase,hasIndex,base,index,scale,disp,sym,static,con,label,rel⟩:=p
 simp only at h4
 subst h4
 simp only [PO.agg,PO.cells]
 go_enter Tryz.func129,Tryz.ntmps129
 go_wp2
 go_ret2
 refine ⟨fs,(O.label label).val,Grows.refl _,fun w' fs' hW' hg=>rfl,(hWa _),rfl,?_,((Fr.refl _ _).alloc _),rfl⟩
 intro o ho
 obtain rfl:O.label label=o:=by simpa [opOf] using ho
 rfl
theorem op_calls5 (w:World) (wb:Nat) (fs:Nat→Option Nat) (p:PO) (hW:WAt w wb fs) (h5:p.kind=5):
  Calls Tryz.prog 129 #[ptr wb,p.agg] w (GivesOp w wb fs p):=by
 have hWa:=fun o=>hW.nope ((Fr.refl nope w).alloc o)
 obtain ⟨kind,rg,hasBase,hasIndex,base,index,scale,disp,sym,static,con,label,rel⟩:=p
 simp only at h5
 subst h5
 simp only [PO.agg,PO.cells]
 go_enter Tryz.func129,Tryz.ntmps129
 go_wp2
 go_ret2
 refine ⟨fs,(O.rel rel).val,Grows.refl _,fun w' fs' hW' hg=>rfl,(hWa _),rfl,?_,((Fr.refl _ _).alloc _),rfl⟩
 intro o ho
 obtain rfl:O.rel rel=o:=by simpa [opOf] using ho
 rfl
theorem op_calls6 (w:World) (wb:Nat) (fs:Nat→Option Nat) (p:PO) (hW:WAt w wb fs) (h1:¬p.kind=1) (h2:¬p.kind=2) (h3:¬p.kind=3) (h4:¬p.kind=4) (h5:¬p.kind=5):
  Calls Tryz.prog 129 #[ptr wb,p.agg] w (GivesOp w wb fs p):=by
 have hWa:=fun o=>hW.nope ((Fr.refl nope w).alloc o)
 have hno:∀ fs,opOf fs p=none:=fun fs=>by simp [opOf, *]
 have hok:(opOf fs p).isSome=okP p:=by rw [hno];simp [okP, *]
 obtain ⟨kind,rg,hasBase,hasIndex,base,index,scale,disp,sym,static,con,label,rel⟩:=p
 simp only at h1 h2 h3 h4 h5
 simp only [PO.agg,PO.cells]
 go_enter Tryz.func129,Tryz.ntmps129
 go_wp2
 go_ret2
 refine ⟨fs,.nilIface,Grows.refl _,fun w' fs' hW' hg=>?_,(hWa _),?_,?_,((Fr.refl _ _).alloc _),hok⟩
 ·rw [hno,hno]
 ·rw [hno];rfl
 ·intro o ho;rw [hno] at ho;cases ho
theorem op_calls (w:World) (wb:Nat) (fs:Nat→Option Nat) (p:PO) (hp:p.Ok) (hW:WAt w wb fs):
  Calls Tryz.prog 129 #[ptr wb,p.agg] w (GivesOp w wb fs p):=by
 by_cases h1:p.kind=1
 ·exact op_calls1 w wb fs p hp hW h1
 by_cases h2:p.kind=2
 ·exact op_calls2 w wb fs p hp hW h2
 by_cases h3:p.kind=3
 ·exact op_calls3 w wb fs p hW h3
 by_cases h4:p.kind=4
 ·exact op_calls4 w wb fs p hW h4
 by_cases h5:p.kind=5
 ·exact op_calls5 w wb fs p hW h5
 exact op_calls6 w wb fs p hW h1 h2 h3 h4 h5
end
section
open Go Go.RowKit Bth
set_option maxRecDepth 100000
theorem infoOp:(Tryz.prog.info? 132).map (fun i=>(i.zero,i.size,i.bytes))=some (some .nilIface,1,16):=by kernel_rfl
def POsAt (w:World) (s:SV) (ps:List PO):Prop:=s.n=ps.length∧(0 < ps.length→∃ b off,s.A=some ⟨b,off,none⟩∧b < w.heap.size∧∀ (k:Nat) (p:PO),ps[k]? = some p→w.rangeAt b (off+k*24) p.cells.toList)
theorem POsAt.fr {S:Nat→Prop} {w w':World} {s:SV} {ps:List PO} (h:POsAt w s ps) (hf:Fr S w w') (hs:0 < s.n→∀ b off,s.A=some ⟨b,off,none⟩→¬S b):POsAt w' s ps:=
 ⟨h.1,fun hl=>by
  obtain ⟨b,off,h1,h2,h3⟩:=h.2 hl
  exact ⟨b,off,h1,Nat.lt_of_lt_of_le h2 hf.size,fun k p hk j v hv=>hf.cell (h3 k p hk j v hv) (hs (by rw [h.1];exact hl) b off h1)⟩⟩
theorem POsAt.nope {w w':World} {s:SV} {ps:List PO} (h:POsAt w s ps) (hf:Fr nope w w'):POsAt w' s ps:=h.fr hf fun _ _ _ _ x=>x
def pOps (fs:Nat→Option Nat):List PO→Option (List O)
 | []=>some []
 | p :: ps=>(opOf fs p).bind fun o=>(pOps fs ps).map fun os=>o :: os
theorem pOps_append {fs:Nat→Option Nat} {ps:List PO} {os:List O} {p:PO} (h:pOps fs ps=some os):pOps fs (ps ++ [p])=(opOf fs p).map fun o=>os ++ [o]:=by
 induction ps generalizing os with
 | nil=>
  simp only [pOps,Option.some.injEq] at h
  subst h
  simp only [List.nil_append,pOps]
  cases opOf fs p<;>rfl
 | cons q ps ih=>
  simp only [pOps] at h
  obtain ⟨o,ho,h⟩:=Option.bind_eq_some_iff.1 h
  obtain ⟨os',h',rfl⟩:=Option.map_eq_some_iff.1 h
  simp only [List.cons_append,pOps,ho,Option.bind_some,ih h']
  cases opOf fs p<;>rfl
theorem pOps_none {fs:Nat→Option Nat} {ps qs:List PO} {p:PO} (h:opOf fs p=none):pOps fs (ps ++ p :: qs)=none:=by
 induction ps with
 | nil=>simp [pOps,h]
 | cons q ps ih=>
  simp only [List.cons_append,pOps,ih]
  cases opOf fs q<;>rfl
theorem pOps_same {fs fs':Nat→Option Nat} {ps:List PO} (h:∀ p∈ps,opOf fs' p=opOf fs p):pOps fs' ps=pOps fs ps:=by
 induction ps with
 | nil=>rfl
 | cons q ps ih=>simp only [pOps];rw [h q (by simp),ih fun p hp=>h p (by simp [hp])]
theorem pOps_len {fs:Nat→Option Nat} {ps:List PO} {os:List O} (h:pOps fs ps=some os):os.length=ps.length:=by
 induction ps generalizing os with
 | nil=>simp only [pOps,Option.some.injEq] at h;subst h;rfl
 | cons q ps ih=>
  simp only [pOps] at h
  obtain ⟨o,ho,h⟩:=Option.bind_eq_some_iff.1 h
  obtain ⟨os',h',rfl⟩:=Option.map_eq_some_iff.1 h
  simp [ih h']
theorem pOps_at {w:World} {wb:Nat} {fs:Nat→Option Nat} {ps:List PO} {os:List O} (hW:WAt w wb fs) (hp:∀ p∈ps,p.Ok) (h:pOps fs ps=some os):∀ o∈os,o.At w:=by
 induction ps generalizing os with
 | nil=>simp only [pOps,Option.some.injEq] at h;subst h;simp
 | cons q ps ih=>
  simp only [pOps] at h
  obtain ⟨o,ho,h⟩:=Option.bind_eq_some_iff.1 h
  obtain ⟨os',h',rfl⟩:=Option.map_eq_some_iff.1 h
  intro x hx
  rcases List.mem_cons.1 hx with rfl | hx
  ·exact opOf_at hW (hp q (by simp)) ho
  ·exact ih (fun p hp'=>hp p (by simp [hp'])) h' x hx
def SettledL (wb:Nat) (fs:Nat→Option Nat) (ps:List PO):Prop:=∀ w' fs',WAt w' wb fs'→Grows fs fs'→pOps fs' ps=pOps fs ps
def GivesOps (w:World) (wb:Nat) (fs:Nat→Option Nat) (ps:List PO) (e:Ending) (w':World):Prop:=
 ∃ fs' v,Grows fs fs'∧SettledL wb fs' ps∧WAt w' wb fs'∧e = .returned (.tuple #[v,.bool (pOps fs' ps).isSome])∧(∀ os,pOps fs' ps=some os→w'.ownsRow w.heap.size 132 1 v os.length (os.map O.val))∧Fr (fun b=>b=wb) w w'∧(pOps fs' ps).isSome=ps.all okP
theorem ops_calls (w:World) (wb:Nat) (fs:Nat→Option Nat) (s:SV) (ps:List PO) (hps:POsAt w s ps) (hp:∀ p∈ps,p.Ok) (hW:WAt w wb fs) (hl:ps.length≤1073741824) (hA:0 < s.n→∀ b off,s.A=some ⟨b,off,none⟩→b≠wb):
  Calls Tryz.prog 93 #[ptr wb,.slice s.A s.n s.c] w (GivesOps w wb fs ps):=by
 have hlt:=lt_of_heap hW.1
 obtain ⟨A,n,c⟩:=s
 have hps':=hps
 obtain ⟨rfl,_⟩:n=ps.length∧_:=hps'
 simp only
 go_enter Tryz.func93,Tryz.ntmps93
 go_wp2
 go_loopg [6,13] ps.length (fun n c6 c13 wr=>∃ (k:Nat) (fs':Nat→Option Nat) (os:List O),k≤ps.length∧c13 = .int .i64 (k:Int)∧Grows fs fs'∧WAt wr wb fs'∧pOps fs' (ps.take k)=some os∧(∀ p∈ps.take k,Settled wb fs' p∧okP p=true)∧os.length=k ∧
  wr.ownsRow w.heap.size 132 1 c6 os.length (os.map O.val)∧Fr (fun b=>b=wb) w wr∧n=ps.length - k)
 case atStart=>exact ⟨0,fs,[],Nat.zero_le _,rfl,Grows.refl _,hW,rfl,by simp,rfl,own_nil _ _ _ _,Fr.refl _ _,rfl⟩
 case round=>
  obtain ⟨k,fs1,os,hk,rfl,hg,hW1,hos,hset,hlen,hown,hf,rfl⟩:=hrel
  by_cases hlt:k < ps.length
  ·obtain ⟨b,off,hAe,hbl,hc⟩:=(hps.fr hf (fun hn b off e hb=>hA hn b off e hb)).2 (by omega)
   simp only at hAe
   subst hAe
   obtain ⟨p,hok⟩:∃ p,ps[k]? = some p:=⟨_,List.getElem?_eq_getElem hlt⟩
   have hc:=hc k p hok
   have hpk:=hp p (List.mem_of_getElem? hok)
   have hT:ps.take (k+1)=ps.take k ++ [p]:=by rw [List.take_add_one,hok];rfl
   have hD:ps=ps.take k ++ p :: ps.drop (k+1):=by
    conv=>lhs;rw [← List.take_append_drop (k+1) ps,hT]
    simp
   replace hos:=Lib.hid hos
   replace hT:=Lib.hid hT
   replace hD:=Lib.hid hD
   have hsame:=fun (w':World) fs' (h1:WAt w' wb fs') (h2:Grows fs1 fs')=>pOps_same fun q hq=>(hset q hq).1 w' fs' h1 h2
   replace hsame:=Lib.hid hsame
   replace hset:=Lib.hid hset
   clear hps hok
   go_wp2_with (first
    | (refine wpList_load_mid rfl _ _ rfl b (off+k*24) rfl p.cells.toList _ hc Tryz.underlying45 rfl (by kernel_rfl) ?_)
    | (refine wpList_storeRow (b:=wr.heap.size) (cells:=p.cells) rfl rfl rfl rfl (heap_alloc_new _ _) rfl (by kernel_rfl) (by kernel_rfl) ?_;intro w2 hb2 hf2)
    | (refine wpList_loadRow (b:=wr.heap.size) (cells:=p.cells) rfl rfl rfl hb2 Tryz.underlying45 rfl (by kernel_rfl) ?_))
   have hn2:Fr nope wr w2:=((Fr.refl nope wr).alloc _).then_new hf2 (fun x hx e=>by omega)
   refine (op_calls w2 wb fs1 p hpk (hW1.nope hn2)).mono ?_
   rintro e w3 ⟨fs2,x,g1,g2,g3,rfl,g4,g5,gok⟩
   have hf3:Fr (fun b=>b=wb) w w3:=(hf.then hn2.of_nope).then g5
   have hown3:=own_fr (own_fr hown hn2 (fun _ _ x=>x)) g5 (fun b hb e=>by have:=own_base hown b hb;omega)
   cases hres:opOf fs2 p with
   | none=>
    simp only [Option.isSome_none]
    go_wp2
    go_ret2
    refine ⟨fs2,.slice none 0 0,hg.trans g1,fun w' fs' hW' hg'=>?_,g3,?_,fun os' h'=>?_,hf3,?_⟩
    ·rw [hD.out,pOps_none hres,pOps_none (by rw [g2 w' fs' hW' hg',hres])]
    ·rw [hD.out,pOps_none hres];rfl
    ·rw [hD.out,pOps_none hres] at h';cases h'
    ·rw [hres] at gok
     rw [hD.out,pOps_none hres,List.all_append,List.all_cons,← gok]
     simp
   | some o=>
    obtain ⟨T,v,hv⟩:=o.val_iface
    obtain rfl:=g4 o hres
    simp only [Option.isSome_some,hv]
    go_wp2_with (refine wpList_app (v:=u6) rfl rfl Tryz.underlying126 infoOp rfl (by omega) rfl (own_fr hown3 ((Fr.refl nope _).alloc _) (fun _ _ x=>x)) rfl (news:=[.iface T v]) rfl (one_new _ _ _ _ rfl) (by simp [Value.oneCell']) (by simp only [maxLen];omega) (by omega) (by have:=hf3.size;simp;omega) ?_;intro v4 w4 hown4 hf4 hb4)
    go_roundg (ps.length - (k+1))
    case measure=>omega
    case rel=>
     have hnf:=NoFam.own (own_fr hown3 ((Fr.refl nope w3).alloc (.cells #[.iface T v] 132)) (fun _ _ x=>x)) (by decide)
     refine ⟨k+1,fs2,os ++ [o],by omega,by go_num,hg.trans g1,(g3.nope ((Fr.refl nope _).alloc _)).frT hf4 hnf,?_,?_,by simp [hlen],?_,(hf3.alloc _).then_new hf4 (fun x hx he=>by have:=own_base hown x he;omega),rfl⟩
     ·rw [hT.out,pOps_append (hsame.out _ _ g3 g1 ▸ hos.out),hres];rfl
     ·intro q hq
      rw [hT.out] at hq
      rcases List.mem_append.1 hq with hq | hq
      ·exact ⟨(hset.out q hq).1.grows g3 g1,(hset.out q hq).2⟩
      ·obtain rfl:q=p:=by simpa using hq
       exact ⟨g2,by rw [← gok,hres];rfl⟩
     ·rw [List.map_append,List.length_append]
      simpa [hv] using hown4
  ·go_wp2
   go_ret2
   have e:ps.take k=ps:=List.take_of_length_le (by omega)
   rw [e] at hos hset
   refine ⟨fs1,u6,hg,fun w' fs' hW' hg'=>pOps_same fun p hp'=>(hset p hp').1 w' fs' hW' hg',hW1,by rw [hos];rfl,fun os' h'=>?_,hf,by rw [hos,Option.isSome_some];exact (List.all_eq_true.2 fun p hp'=>(hset p hp').2).symm⟩
   rw [hos] at h';injection h' with h';subst h'
   exact hown
end
end Go.Proofs.YtpbeedabmjmdmaaGreatDoor
