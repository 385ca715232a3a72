/- Part of the proof of a statement about pub-berthage: what its texts have in common. -/
import Derived.Great.BuildSlice
import Derived.Test.YtpbeedabmjmdmaaGreatDoorP09
import Derived.Test.YtpbeedabmjmdmaaGreatDoorP23
import Derived.Test.YtpbeedabmjmdmaaGreatDoorP24
import Derived.Test.YtpbeedabmjmdmaaGreatDoorP27
namespace Go.Proofs.YtpbeedabmjmdmaaGreatDoor
section
open Go Go.RowKit Bth
set_option maxRecDepth 100000
def O.pcells:O→Array Value
 | .reg r=>opCells 1 r.plain false false g0 g0 0 0 e0 false 0 0 e0 e0 0
 | .mem m=>m.pcells
 | .con c=>opCells 3 g0 false false g0 g0 0 0 e0 false c.k.num c.bits c.text e0 0
 | .label s=>opCells 4 g0 false false g0 g0 0 0 e0 false 0 0 e0 s 0
 | .rel n=>opCells 5 g0 false false g0 g0 0 0 e0 false 0 0 e0 e0 n
def GivesPO (w:World) (o:O) (e:Ending) (w':World):Prop:=e = .returned (.agg o.pcells)∧Fr nope w w'
set_option maxHeartbeats 4000000 in
theorem plainOp_reg (w:World) (r:R) (hat:r.At w):Calls Tryz.prog 131 #[O.val (.reg r)] w (GivesPO w (.reg r)):=by
 have h1:∀ W,(Instr.typeAssert (O.val (.reg r)) 132 145 true).run Tryz.prog W = .ok (.tuple #[r.val,.bool true]) W:=fun W=>O.ta_Register W _ (.reg r)
 have hR:=fun W (hW:Fr nope w W)=>plainReg_calls W r (hat.nope hW)
 simp only [O.val] at h1 ⊢
 unfold GivesPO
 obtain ⟨T,v,hrv⟩:=r.val_iface
 rw [hrv] at h1 hR ⊢
 simp only [O.pcells]
 have hp:r.plain.agg = .agg #[.bool r.plain.virt,.int .u8 (r.plain.kind:Int),.int .u16 (r.plain.idx:Int),.int .u16 (r.plain.spec:Int)]:=rfl
 go_enter Tryz.func131,Tryz.ntmps131
 go_wp2_with fail
 refine (hR _ ((Fr.refl _ _).alloc _)).mono ?_
 rintro e w1 ⟨rfl,hf1⟩
 have k1:=hf1.heap (heap_alloc_new w _) (fun x=>x)
 have hF:=((Fr.refl nope w).alloc _).then hf1
 have l1:=lt_of_heap k1
 rw [hp]
 go_wp2_with (first
  | (refine wpList_storeRow (b:=w.heap.size) (cells:=opCells 1 r.plain false false g0 g0 0 0 e0 false 0 0 e0 e0 0) rfl rfl rfl rfl k1 rfl (by kernel_rfl) (opCells_one _ _ _ _ _ _ _ _ _ _ _ _ _ _ _) ?_;intro w9 hb9 hf9))
 refine bodyPost_ret (results_cell_row rfl _ _ w.heap.size _ _ _ _ rfl hb9 Tryz.underlying45 rfl (by kernel_rfl)) rfl ⟨rfl,hF.then_new hf9 (fun x hx e=>by omega)⟩
set_option maxHeartbeats 4000000 in
theorem plainOp_mem (w:World) (m:M) (hm:∀ r∈m.regs,r.At w):Calls Tryz.prog 131 #[O.val (.mem m)] w (GivesPO w (.mem m)):=by
 have h1:∀ W,(Instr.typeAssert (O.val (.mem m)) 132 145 true).run Tryz.prog W = .ok (.tuple #[.nilIface,.bool false]) W:=fun W=>O.ta_Register W _ (.mem m)
 have h2:∀ W,(Instr.typeAssert (O.val (.mem m)) 132 197 true).run Tryz.prog W = .ok (.tuple #[m.agg,.bool true]) W:=fun W=>O.ta_Mem W _ (.mem m)
 have hR:=fun W (hW:Fr nope w W)=>plainMem_calls W m (fun r hr=>(hm r hr).nope hW)
 simp only [O.val] at h1 h2 ⊢
 unfold GivesPO
 simp only [O.pcells]
 have hp1:m.pcells.size=24:=rfl
 have hp2:m.pcells.all (·.oneCell')=true:=opCells_one _ _ _ _ _ _ _ _ _ _ _ _ _ _ _
 generalize m.pcells=pc at *
 obtain ⟨sym,st,d,x,y,sc⟩:=m
 have hcx:=optV_cases x
 have hcy:=optV_cases y
 rw [M.agg] at h1 h2 hR ⊢
 simp only at h1 h2 hR ⊢
 clear hm
 generalize optV x=vx at h1 h2 hR hcx ⊢
 generalize optV y=vy at h1 h2 hR hcy ⊢
 rcases hcx with rfl | ⟨Tx,ux,rfl⟩<;>rcases hcy with rfl | ⟨Ty,uy,rfl⟩
 all_goals
  go_enter Tryz.func131,Tryz.ntmps131
  go_wp2_with fail
  refine (hR _ (((Fr.refl _ _).alloc _).alloc _)).mono ?_
  rintro e w1 ⟨rfl,hf1⟩
  have k1:=hf1.heap (((Fr.refl nope (w.alloc _)).alloc _).heap (heap_alloc_new w _) (fun x=>x)) (fun x=>x)
  have hF:=(((Fr.refl nope w).alloc _).alloc _).then hf1
  have l1:=lt_of_heap k1
  go_wp2_with (first
   | (refine wpList_storeRow (b:=w.heap.size) (cells:=pc) rfl rfl rfl rfl k1 hp1.symm (by rw [hp1];kernel_rfl) hp2 ?_;intro w9 hb9 hf9))
  refine bodyPost_ret (results_cell_row rfl _ _ w.heap.size _ _ _ _ rfl hb9 Tryz.underlying45 rfl (by kernel_rfl)) rfl ⟨rfl,hF.then_new hf9 (fun x hx e=>by omega)⟩
set_option maxHeartbeats 4000000 in
theorem plainOp_con (w:World) (c:C):Calls Tryz.prog 131 #[O.val (.con c)] w (GivesPO w (.con c)):=by
 have h1:∀ W,(Instr.typeAssert (O.val (.con c)) 132 145 true).run Tryz.prog W = .ok (.tuple #[.nilIface,.bool false]) W:=fun W=>O.ta_Register W _ (.con c)
 have h2:∀ W,(Instr.typeAssert (O.val (.con c)) 132 197 true).run Tryz.prog W = .ok (.tuple #[.agg #[.string ⟨#[]⟩,.bool false,.int .i64 0,.nilIface,.nilIface,.int .u8 0],.bool false]) W:=fun W=>O.ta_Mem W _ (.con c)
 have h3:∀ W,(Instr.typeAssert (O.val (.con c)) 132 259 true).run Tryz.prog W = .ok (.tuple #[O.val (.con c),.bool true]) W:=fun W=>O.ta_Constant W _ (.con c)
 have hC:=fun W=>plainConstant_calls W c
 unfold GivesPO
 simp only [O.pcells]
 unfold C.pc at hC
 obtain ⟨T,v,hv⟩:=(O.con c).val_iface
 rw [hv] at h1 h2 h3 hC ⊢
 go_enter Tryz.func131,Tryz.ntmps131
 go_wp2_with fail
 refine (hC _).mono ?_
 rintro e w1 ⟨rfl,hf1⟩
 have k1:=hf1.heap (heap_alloc_new w _) (fun x=>x)
 have hF:=((Fr.refl nope w).alloc _).then hf1
 have l1:=lt_of_heap k1
 go_wp2_with (first
  | (refine wpList_storeRow (b:=w.heap.size) (cells:=opCells 3 g0 false false g0 g0 0 0 e0 false c.k.num c.bits c.text e0 0) rfl rfl rfl rfl k1 rfl (by kernel_rfl) (opCells_one _ _ _ _ _ _ _ _ _ _ _ _ _ _ _) ?_;intro w9 hb9 hf9))
 refine bodyPost_ret (results_cell_row rfl _ _ w.heap.size _ _ _ _ rfl hb9 Tryz.underlying45 rfl (by kernel_rfl)) rfl ⟨rfl,hF.then_new hf9 (fun x hx e=>by omega)⟩
set_option maxHeartbeats 4000000 in
theorem plainOp_label (w:World) (s:ByteArray):Calls Tryz.prog 131 #[O.val (.label s)] w (GivesPO w (.label s)):=by
 have h1:∀ W,(Instr.typeAssert (O.val (.label s)) 132 145 true).run Tryz.prog W = .ok (.tuple #[.nilIface,.bool false]) W:=fun W=>O.ta_Register W _ (.label s)
 have h2:∀ W,(Instr.typeAssert (O.val (.label s)) 132 197 true).run Tryz.prog W = .ok (.tuple #[.agg #[.string ⟨#[]⟩,.bool false,.int .i64 0,.nilIface,.nilIface,.int .u8 0],.bool false]) W:=fun W=>O.ta_Mem W _ (.label s)
 have h3:∀ W,(Instr.typeAssert (O.val (.label s)) 132 259 true).run Tryz.prog W = .ok (.tuple #[.nilIface,.bool false]) W:=fun W=>O.ta_Constant W _ (.label s)
 have h4:∀ W,(Instr.typeAssert (O.val (.label s)) 132 205 true).run Tryz.prog W = .ok (.tuple #[.string s,.bool true]) W:=fun W=>O.ta_LabelRef W _ (.label s)
 unfold GivesPO
 simp only [O.pcells]
 simp only [O.val] at h1 h2 h3 h4 ⊢
 have k1:∀ o,((w.alloc o).heap[w.heap.size]? = some o):=fun o=>heap_alloc_new w o
 have hF:∀ o,Fr nope w (w.alloc o):=fun o=>(Fr.refl nope w).alloc o
 go_enter Tryz.func131,Tryz.ntmps131
 go_wp2_with (first
  | (refine wpList_storeRow (b:=w.heap.size) (cells:=opCells 4 g0 false false g0 g0 0 0 e0 false 0 0 e0 s 0) rfl rfl rfl rfl (k1 _) rfl (by kernel_rfl) (opCells_one _ _ _ _ _ _ _ _ _ _ _ _ _ _ _) ?_;intro w9 hb9 hf9))
 refine bodyPost_ret (results_cell_row rfl _ _ w.heap.size _ _ _ _ rfl hb9 Tryz.underlying45 rfl (by kernel_rfl)) rfl ⟨rfl,(hF _).then_new hf9 (fun x hx e=>by omega)⟩
set_option maxHeartbeats 4000000 in
theorem plainOp_rel (w:World) (n:Int):Calls Tryz.prog 131 #[O.val (.rel n)] w (GivesPO w (.rel n)):=by
 have h1:∀ W,(Instr.typeAssert (O.val (.rel n)) 132 145 true).run Tryz.prog W = .ok (.tuple #[.nilIface,.bool false]) W:=fun W=>O.ta_Register W _ (.rel n)
 have h2:∀ W,(Instr.typeAssert (O.val (.rel n)) 132 197 true).run Tryz.prog W = .ok (.tuple #[.agg #[.string ⟨#[]⟩,.bool false,.int .i64 0,.nilIface,.nilIface,.int .u8 0],.bool false]) W:=fun W=>O.ta_Mem W _ (.rel n)
 have h3:∀ W,(Instr.typeAssert (O.val (.rel n)) 132 259 true).run Tryz.prog W = .ok (.tuple #[.nilIface,.bool false]) W:=fun W=>O.ta_Constant W _ (.rel n)
 have h4:∀ W,(Instr.typeAssert (O.val (.rel n)) 132 205 true).run Tryz.prog W = .ok (.tuple #[.string ⟨#[]⟩,.bool false]) W:=fun W=>O.ta_LabelRef W _ (.rel n)
 have h5:∀ W,(Instr.typeAssert (O.val (.rel n)) 132 260 true).run Tryz.prog W = .ok (.tuple #[.int .i32 n,.bool true]) W:=fun W=>O.ta_Rel W _ (.rel n)
 unfold GivesPO
 simp only [O.pcells]
 simp only [O.val] at h1 h2 h3 h4 h5 ⊢
 have k1:∀ o,((w.alloc o).heap[w.heap.size]? = some o):=fun o=>heap_alloc_new w o
 have hF:∀ o,Fr nope w (w.alloc o):=fun o=>(Fr.refl nope w).alloc o
 go_enter Tryz.func131,Tryz.ntmps131
 go_wp2_with (first
  | (refine wpList_storeRow (b:=w.heap.size) (cells:=opCells 5 g0 false false g0 g0 0 0 e0 false 0 0 e0 e0 n) rfl rfl rfl rfl (k1 _) rfl (by kernel_rfl) (opCells_one _ _ _ _ _ _ _ _ _ _ _ _ _ _ _) ?_;intro w9 hb9 hf9))
 refine bodyPost_ret (results_cell_row rfl _ _ w.heap.size _ _ _ _ rfl hb9 Tryz.underlying45 rfl (by kernel_rfl)) rfl ⟨rfl,(hF _).then_new hf9 (fun x hx e=>by omega)⟩
theorem plainOp_calls (w:World) (o:O) (ho:o.At w):Calls Tryz.prog 131 #[o.val] w (GivesPO w o):=by
 cases o with
 | reg r=>exact plainOp_reg w r (ho r (by simp [O.regs])).2
 | mem m=>exact plainOp_mem w m fun r hr=>(ho r hr).2
 | con c=>exact plainOp_con w c
 | label s=>exact plainOp_label w s
 | rel n=>exact plainOp_rel w n
end
section
open Go Go.RowKit Bth
set_option maxRecDepth 100000
theorem set_all:∀ (l pre rest:List Value) (arr:Array Value),arr=(pre ++ rest).toArray→rest.length=l.length→(l.zipIdx pre.length).foldl (fun (cs:Array Value) (p:Value × Nat)=>cs.setIfInBounds (0+p.2) p.1) arr=(pre ++ l).toArray
 | [],pre,rest,arr,h,hl=>by
  have:rest=[]:=List.eq_nil_of_length_eq_zero (by simpa using hl)
  subst this h
  rfl
 | c :: l,pre,[],arr,h,hl=>by simp at hl
 | c :: l,pre,r :: rest,arr,h,hl=>by
  rw [List.zipIdx_cons,List.foldl_cons]
  have h1:=set_all l (pre ++ [c]) rest (arr.setIfInBounds (0+pre.length) c) (by subst h;simp) (by simpa using hl)
  rw [List.length_append,List.length_singleton] at h1
  rw [h1]
  simp
theorem fill_one {size:Nat} (zs:Array Value) (l:List Value) (hz:zs.size=size) (hl:l.length=size):Instr.fill (fun i=>some (i*size,size)) zs [(0,.agg l.toArray)]=some l.toArray:=by
 have hc:(Value.agg l.toArray).cells=l.toArray:=rfl
 unfold Instr.fill
 simp only [Nat.zero_mul,hc]
 rw [if_neg (by simp;omega)]
 unfold Instr.fill
 have h:=set_all l [] zs.toList zs (by simp) (by simp;omega)
 simp only [List.nil_append,List.length_nil] at h
 refine congrArg some (Eq.trans ?_ h)
 rw [← Array.foldl_toList]
 simp
theorem wpList_build1 {P:Program} {ops:Array Oper} {rest:List Oper} {o:Oper} {a:Act} {w:World} {Q:Exit→Act→World→Prop} (hg:o.guard=none) {t e:TypeId} {x:Operand} (ho:o.op = .buildSlice t 1 #[(0,x)])
  {l:List Value} {z:Value} {size bytes:Nat} (hx:a.eval x = .agg l.toArray) (hu:P.underlying t=some (.slice e)) (hinfo:(P.info? e).map (fun i=>(i.zero,i.size,i.bytes))=some (some z,size,bytes)) (hl:l.length=size) (hpos:0 < size) (hsm:size≤2 ^ 24)
  (h:wpList P ops Q rest (a.put o.dst (.slice (some ⟨w.heap.size,0,none⟩) 1 1)) (w.alloc (.cells l.toArray e))):wpList P ops Q (o :: rest) a w:=by
 obtain ⟨ie,hi,hzz⟩:=Option.map_eq_some_iff.1 hinfo
 simp only [Prod.mk.injEq] at hzz
 obtain ⟨h1,h2,h3⟩:=hzz
 refine wpList_buildSlice hg t e 1 _ ho l.toArray ie z hu hi h1 (by omega) (by omega) ?_ h
 have:=fill_one ((Array.range (1*ie.size)).map (z.cells[· % z.cells.size]!)) l (size:=ie.size) (by simp) (by omega)
 simpa [hx] using this
end
section
open Go Go.RowKit Bth
set_option maxRecDepth 100000
def opsCells (os:List O):List Value:=os.flatMap fun o=>o.pcells.toList
theorem O.pcells_size (o:O):o.pcells.size=24:=by cases o<;>rfl
theorem O.pcells_one (o:O):o.pcells.all (·.oneCell')=true:=by cases o<;>exact opCells_one _ _ _ _ _ _ _ _ _ _ _ _ _ _ _
theorem infoPOp:(Tryz.prog.info? 45).map (fun i=>(i.zero,i.size,i.bytes))=some (some (.agg (opCells 0 g0 false false g0 g0 0 0 e0 false 0 0 e0 e0 0)),24,120):=by kernel_rfl
theorem opsCells_take {os:List O} {k:Nat} {o:O} (h:os[k]? = some o):opsCells (os.take (k+1))=opsCells (os.take k) ++ o.pcells.toList:=by
 unfold opsCells
 rw [List.take_add_one,h,List.flatMap_append]
 simp
def GivesPOs (w:World) (os:List O) (e:Ending) (w':World):Prop:=Fr nope w w'∧∃ A c,e = .returned (.slice A os.length c)∧w'.ownsRow w.heap.size 45 24 (.slice A os.length c) os.length (opsCells os)
theorem plainOps_calls (w:World) (os:List O) (A:Option Addr) (c:Nat) (hS:Sl w A os.length (os.map O.val)) (ho:∀ o∈os,o.At w) (hl:os.length≤1048576):
  Calls Tryz.prog 97 #[.slice A os.length c] w (GivesPOs w os):=by
 go_enter Tryz.func97,Tryz.ntmps97
 go_wp2
 go_loopg [3,8] os.length (fun n c3 c8 wr=>∃ (k:Nat) (A2:Option Addr) (c2:Nat),k≤os.length∧c8 = .int .i64 (k:Int)∧c3 = .slice A2 k c2∧wr.ownsRow w.heap.size 45 24 (.slice A2 k c2) k (opsCells (os.take k))∧Fr nope w wr∧n=os.length - k)
 case atStart=>exact ⟨0,none,0,Nat.zero_le _,rfl,rfl,own_nil _ _ _ _,Fr.refl _ _,rfl⟩
 case round=>
  obtain ⟨k,A2,c2,hk,rfl,rfl,hown,hf,rfl⟩:=hrel
  by_cases hlt:k < os.length
  ·obtain ⟨b0,off,u,hAe,hbl,hu,hc⟩:=(hS.nope hf).at_ hlt
   rw [List.getElem?_map] at hu
   obtain ⟨o,hok,rfl⟩:=Option.map_eq_some_iff.1 hu
   have hT:=opsCells_take hok
   have hP:=fun W (hW:Fr nope wr W)=>plainOp_calls W o (fun r hr=>⟨(ho o (List.mem_of_getElem? hok) r hr).1,((ho o (List.mem_of_getElem? hok) r hr).2.nope hf).nope hW⟩)
   have hsz:=o.pcells_size
   have hone:=o.pcells_one
   obtain ⟨T,v,hv⟩:=o.val_iface
   unfold GivesPO at hP
   rw [hv] at hP hc
   generalize o.pcells=pc at hT hP hsz hone
   replace hT:=Lib.hid hT
   replace hv:=Lib.hid hv
   replace hok:=Lib.hid hok
   subst hAe
   clear hu
   go_wp2_with fail
   refine (hP _ (Fr.refl _ _)).mono ?_
   rintro e w1 ⟨rfl,hf1⟩
   have hown1:=own_fr hown hf1 (fun _ _ x=>x)
   have hsz1:=hf1.size
   have hw:=hf.size
   obtain ⟨pl⟩:=pc
   replace hsz:pl.length=24:=hsz
   replace hone:∀ u∈pl,u.oneCell'=true:=fun u hu=>Array.all_eq_true_iff_forall_mem.1 hone u (by simpa using hu)
   replace hsz:=Lib.hid hsz
   go_wp2_with (first
    | (refine wpList_build1 (l:=pl) (z:=.agg (opCells 0 g0 false false g0 g0 0 0 e0 false 0 0 e0 e0 0)) rfl rfl rfl Tryz.underlying36 infoPOp hsz.out (by omega) (by decide) ?_)
    | refine wpList_app (v:=.slice A2 k c2) rfl rfl Tryz.underlying36 infoPOp rfl (by omega) rfl (own_fr hown1 ((Fr.refl nope _).alloc _) (fun _ _ x=>x)) rfl (news:=pl) (by rw [hsz.out]) (fun _=>cells_new _ _ _ _ (by simp)) hone (by simp only [maxLen];omega) (by omega) (by simp;omega) ?hk)
   case hk=>
    intro v3 w3 hown3 hf3 hb3
    obtain ⟨A3,c3,rfl,_,_⟩:=own_slice hown3
    clear hb3
    go_wp2
    go_roundg (os.length - (k+1))
    case measure=>omega
    case rel=>
     have hbs:∀ x,Value.ownBlock (.slice A2 k c2)=some x→w.heap.size≤x:=own_base hown
     exact ⟨k+1,A3,c3,by omega,by go_num,rfl,by rw [hT.out];exact hown3,((hf.then hf1).alloc _).then_new hf3 (fun x hx e=>by have:=hbs x e;omega),rfl⟩
  ·have hke:k=os.length:=by omega
   subst hke
   rw [List.take_length] at hown
   go_wp2
   go_ret
   exact ⟨hf,A2,c2,rfl,hown⟩
end
section
open Go Go.RowKit Bth
set_option maxRecDepth 100000
theorem G.kind_id {g:G} (ok:g.Ok):kindOf g.id=g.kind:=by
 have:=ok.kind
 have:=ok.idx
 unfold kindOf G.id
 cases g.virt<;>simp<;>omega
theorem G.virt_id {g:G} : isV g.id=g.virt:=by
 unfold isV G.id
 cases g.virt<;>simp<;>omega
theorem ColorP.spec {is:List PI} {sc:Nat→List (Option Nat)} {k:Nat} {f:Nat→Option Nat} (h:ColorP is sc k (some f)):
  (∀ e,edgesP is sc k e→lk f e.1=lk f e.2→isV (lk f e.1)=true)∧(∀ v,isV v=true→toldOf (addsP is k) (edgesP is sc k) v→∃ p,f v=some p∧p∈regsK k)∧(∀ v,f v≠none→∃ p,f v=some p∧p∈regsK k)∧∀ v,isV v=false→f v=none:=by
 obtain ⟨E,rem,h1,h2,h3,h4⟩:=h
 obtain ⟨s1,s2,s3⟩:=color_spec _ rem _ f h2 h4.symm
 have hn:∀ v,f v≠none→v∈rem:=fun v hv=>Classical.byContradiction fun hn=>hv (s2 v hn)
 refine ⟨fun e he=>clash_iff.1 s1 e ((h1 e).2 he),fun v hv ht=>s3 v ((h3 v).2 ⟨hv,ht⟩),fun v hv=>s3 v (hn v hv),fun v hv=>Classical.byContradiction fun hne=>?_⟩
 have:=((h3 v).1 (hn v hne)).1
 rw [hv] at this;cases this
theorem regsK_mem {k p:Nat} (hk:k≤3) (h:p∈regsK k):isV p=false∧p < 4294967296∧kindOf p=k:=(regsK_facts k (by omega)).2.2.2.2.1 p h
theorem af_given {ns:List PN} {f:Nat→Option Nat} (h:AFRes ns (some f)) (hk:∀ k,kindsP (insP ns) k→k≤3):∀ v p,f v=some p→isV v=true∧isV p=false∧p < 4294967296∧kindOf p=kindOf v:=by
 obtain ⟨sc,fk,hG,hc,hf⟩:=h
 intro v p hv
 by_cases hkv:kindsP (insP ns) (kindOf v)
 ·have e:=(hf v).1 hkv
  have h3:=hk _ hkv
  obtain ⟨_,_,s3,s4⟩:=(hc _ hkv).spec
  obtain ⟨q,hq,hm⟩:=s3 v (by rw [← e,hv];simp)
  rw [← e,hv] at hq
  injection hq with hq
  subst hq
  refine ⟨?_,regsK_mem h3 hm⟩
  cases hvv:isV v with
  | true=>rfl
  | false=>rw [e,s4 v hvv] at hv;cases hv
 ·rw [(hf v).2 hkv] at hv;cases hv
theorem af_apart {ns:List PN} {f:Nat→Option Nat} (h:AFRes ns (some f)) (hok:AFOk ns):∃ sc,GraphP ns sc∧∀ (i:Nat) (p:PI) (g:G) (c b:Nat),(insP ns)[i]? = some p→g∈outGs p.out→c≠g.id→LiveOutP (insP ns) sc i c b→g.spec.testBit b=true→lk f c≠lk f g.id:=by
 have hk3:∀ k,kindsP (insP ns) k→k≤3:=by
  rintro k ⟨p,hp,g,hg,rfl⟩
  exact hok.kinds p hp g hg
 have hgv:=af_given h hk3
 obtain ⟨sc,fk,hG,hc,hf⟩:=h
 refine ⟨sc,hG,fun i p g c b hp hg hne hl hb heq=>?_⟩
 have hpm:=List.mem_of_getElem? hp
 have hgo:g.Ok:=gsOf_ok (hok.ops p hpm).out g (outGs_mem hg)
 have hlkk:∀ v,kindOf (lk f v)=kindOf v:=fun v=>by
  unfold lk
  cases hv:f v with
  | none=>rfl
  | some q=>exact (hgv v q hv).2.2.2
 have hke:kindOf c=g.kind:=by
  have:=congrArg kindOf heq
  rw [hlkk,hlkk,G.kind_id hgo] at this
  exact this
 have hkk:=hok.outs p hpm g hg
 have hE:edgesP (insP ns) sc g.kind (g.id,c):=⟨i,p,g,hp,hg,rfl,rfl,hne,hke,b,hl,hb⟩
 obtain ⟨s1,s2,s3,s4⟩:=(hc _ hkk).spec
 have f1:f g.id=fk g.kind g.id:=by
  have:=(hf g.id).1 (by rw [G.kind_id hgo];exact hkk)
  rwa [G.kind_id hgo] at this
 have f2:f c=fk g.kind c:=by
  have:=(hf c).1 (by rw [hke];exact hkk)
  rwa [hke] at this
 have e1:lk f g.id=lk (fk g.kind) g.id:=by unfold lk;rw [f1]
 have e2:lk f c=lk (fk g.kind) c:=by unfold lk;rw [f2]
 have h1:=s1 _ hE (by show lk (fk g.kind) g.id=lk (fk g.kind) c;rw [← e1,← e2,heq])
 have h2:isV (lk (fk g.kind) g.id)=false:=by
  cases hv:isV g.id with
  | false=>unfold lk;rw [s4 _ hv];exact hv
  | true=>
   obtain ⟨q,hq,hm⟩:=s2 g.id hv (.inr ⟨_,hE,.inl rfl⟩)
   unfold lk
   rw [hq]
   exact (regsK_mem (hk3 _ hkk) hm).1
 have h1:isV (lk (fk g.kind) g.id)=true:=h1
 rw [h2] at h1
 cases h1
def PI.gs (p:PI):List G:=gsOf p.ops ++ gsOf p.inp ++ gsOf p.out
def FewP (is:List PI):Prop:=∃ L:Nat→List Nat,(∀ k,(L k).length≤4)∧L 0=[]∧∀ p∈is,∀ g∈p.gs,g.id∈L g.kind
theorem regsK_len:∀ k,1≤k→k≤3→4 < (regsK k).length:=by
 intro k h1 h3
 rcases k with _ | _ | _ | _ | k<;>first | omega | decide
theorem af_few {ns:List PN} (hok:AFOk ns) (hg:∃ sc,GraphP ns sc) (hfew:FewP (insP ns)):¬AFRes ns none:=by
 rintro (h | ⟨sc,k,hG,hk,E,rem,h1,h2,h3,h4⟩)
 ·obtain ⟨sc,hsc⟩:=hg;exact h sc hsc
 obtain ⟨L,hL,hL0,hin⟩:=hfew
 have hk3:k≤3:=by obtain ⟨p,hp,g,hgm,rfl⟩:=hk;exact hok.kinds p hp g hgm
 have hk1:1≤k:=by
  obtain ⟨p,hp,g,hgm,rfl⟩:=hk
  have:=hin p hp g (by unfold PI.gs;simp [hgm])
  rcases Nat.eq_zero_or_pos g.kind with h0 | h0
  ·rw [h0,hL0] at this;cases this
  ·exact h0
 have hEL:∀ e∈E,e.1∈L k∧e.2∈L k∧e.1≠e.2:=fun e he=>by
  obtain ⟨i,p,g,hp,hgm,rfl,e1,hne,hke,b,hl,_⟩:=(h1 e).1 he
  have hpm:=List.mem_of_getElem? hp
  refine ⟨?_,?_,fun h=>hne (by rw [← h,e1])⟩
  ·rw [e1];exact hin p hpm g (by unfold PI.gs;simp [outGs_mem hgm])
  ·obtain ⟨q,hq,h5⟩:=List.mem_flatMap.1 (live_sup hl)
   obtain ⟨g',hg',h6⟩:=List.mem_map.1 h5
   have hg'm:g'∈q.gs:=by unfold PI.gs;rcases inGs_mem hg' with h | h<;>simp [h]
   have hg'o:g'.Ok:=by
    rcases inGs_mem hg' with h | h
    ·exact gsOf_ok (hok.ops q hq).inp g' h
    ·exact gsOf_ok (hok.ops q hq).out g' h
   have h7:=hin q hq g' hg'm
   have h8:g'.kind=g.kind:=by rw [← hke,← h6,G.kind_id hg'o]
   rw [h8,h6] at h7
   exact h7
 obtain ⟨al',hal⟩:=color_easy (edges:=E) (regsK_facts k (by omega)).2.2.1 (fun v=>(L k).filter (· != v))
  (fun e he=>by
   obtain ⟨g1,g2,g3⟩:=hEL e he
   simp only [List.mem_filter,bne_iff_ne,ne_eq]
   exact ⟨⟨g2,fun h=>g3 h.symm⟩,g1,g3⟩)
  (fun e he=>(hEL e he).2.2) (rem.length+1) rem (fun _=>none) h2 (Nat.lt_succ_self _)
  (fun v _=>Nat.lt_of_le_of_lt (Nat.le_trans (List.length_filter_le _ _) (hL k)) (regsK_len k hk1 hk3))
  (clash_iff.2 fun e he heq=>absurd heq (hEL e he).2.2)
 rw [hal] at h4
 cases h4
end
section
open Go Go.RowKit Bth
structure Rw (w:World) (e:TypeId) (size:Nat) (A:Option Addr) (n:Nat) (xs:List Value):Prop where
 len:xs.length=n*size
 row:0 < n→∃ b off cs fr,A=some ⟨b,off,none⟩∧w.heap[b]? = some (.cells cs e fr)∧∀ j u,xs[j]? = some u→w.cell? ⟨b,off+j,none⟩=some u
theorem Rw.nil (w:World) (e:TypeId) (size:Nat):Rw w e size none 0 []:=⟨by simp,fun h=>absurd h (by omega)⟩
theorem Rw.frT {T:List TypeId} {S:Nat→Prop} {w w':World} {e:TypeId} {size n:Nat} {A:Option Addr} {xs:List Value} (h:Rw w e size A n xs) (hf:Fr S w w') (hs:NoT T w S) (he:e∈T):Rw w' e size A n xs:=
 ⟨h.len,fun hn=>by
  obtain ⟨b,off,cs,fr,h1,h2,h3⟩:=h.row hn
  have hb:¬S b:=fun hS=>hs b cs e fr hS h2 he
  exact ⟨b,off,cs,fr,h1,hf.heap h2 hb,fun j u hu=>hf.cell (h3 j u hu) hb⟩⟩
theorem Rw.nope {w w':World} {e:TypeId} {size n:Nat} {A:Option Addr} {xs:List Value} (h:Rw w e size A n xs) (hf:Fr nope w w'):Rw w' e size A n xs:=h.frT (T:=[e]) hf (NoT.nope _ _) (by simp)
theorem Rw.of_own {w:World} {base:Nat} {e:TypeId} {size n c:Nat} {A:Option Addr} {xs:List Value} (h:w.ownsRow base e size (.slice A n c) n xs):Rw w e size A n xs:=by
 refine ⟨h.1,fun hn=>?_⟩
 have h2:=h.2
 rcases h2 with ⟨h1,h0⟩ | ⟨g,cap,cur,h1,hb,hh,h3,h4,h5,h6⟩
 ·omega
 ·injection h1 with hA _ _
  subst hA
  obtain ⟨g',e1,_,hc⟩:=own_cells h hn
  injection e1 with e1
  injection e1 with e1
  subst e1
  exact ⟨g,0,cur,_,rfl,hh,fun j u hu=>by rw [Nat.zero_add];exact hc j u hu⟩
theorem Rw.src {w:World} {e:TypeId} {size n:Nat} {A:Option Addr} {xs:List Value} (h:Rw w e size A n xs):0 < n→∃ ad,A=some ad∧∀ j u,xs[j]? = some u→w.cell? (ad.add j)=some u:=by
 intro hn
 obtain ⟨b,off,cs,fr,rfl,_,hc⟩:=h.row hn
 exact ⟨_,rfl,fun j u hu=>by
  have:=hc j u hu
  have e:(⟨b,off,none⟩:Addr).add j=⟨b,off+j,none⟩:=by unfold Addr.add;split<;>simp_all
  rw [e];exact this⟩
theorem flat_len {α : Type} {f:α → List Value} {size:Nat} (hs:∀ x,(f x).length=size) (l:List α):(l.flatMap f).length=l.length*size:=by
 induction l with
 | nil=>simp
 | cons x l ih=>rw [List.flatMap_cons,List.length_append,ih,hs,List.length_cons,Nat.succ_mul];omega
theorem flat_get {α : Type} {f:α → List Value} {size:Nat} (hs:∀ x,(f x).length=size):∀ {l:List α} {k:Nat} {x:α},l[k]? = some x→∀ j v,(f x)[j]? = some v→(l.flatMap f)[k*size+j]? = some v:=by
 intro l
 induction l with
 | nil=>intro k x h;simp at h
 | cons q l ih=>
  intro k x h j v hv
  cases k with
  | zero=>
   simp only [List.getElem?_cons_zero,Option.some.injEq] at h
   subst h
   have hj:=(List.getElem?_eq_some_iff.1 hv).1
   rw [List.flatMap_cons,Nat.zero_mul,Nat.zero_add,List.getElem?_append_left hj]
   exact hv
  | succ k=>
   rw [List.getElem?_cons_succ] at h
   have e:(k+1)*size+j - size=k*size+j:=by rw [Nat.succ_mul];omega
   rw [List.flatMap_cons,List.getElem?_append_right (by rw [hs,Nat.succ_mul];omega),hs,e]
   exact ih h j v hv
theorem Rw.at_ {α : Type} {f:α → List Value} {w:World} {e:TypeId} {size:Nat} {A:Option Addr} {l:List α} (h:Rw w e size A l.length (l.flatMap f)) (hs:∀ x,(f x).length=size) {k:Nat} {x:α} (hk:l[k]? = some x):
  ∃ b off,A=some ⟨b,off,none⟩∧b < w.heap.size∧w.rangeAt b (off+k*size) (f x):=by
 have hl:=(List.getElem?_eq_some_iff.1 hk).1
 obtain ⟨b,off,cs,fr,h1,h2,h3⟩:=h.row (by omega)
 refine ⟨b,off,h1,lt_of_heap h2,fun j v hv=>?_⟩
 have:=h3 _ v (flat_get hs hk j v hv)
 rw [← Nat.add_assoc] at this
 exact this
def G.cells (g:G):List Value:=[.bool g.virt,.int .u8 (g.kind:Int),.int .u16 (g.idx:Int),.int .u16 (g.spec:Int)]
def gsCells (gs:List G):List Value:=gs.flatMap G.cells
theorem G.cells_len (g:G):g.cells.length=4:=rfl
def GsAt (w:World) (A:Option Addr) (gs:List G):Prop:=Rw w 40 4 A gs.length (gsCells gs)
theorem take_snoc {α : Type} {l:List α} {k:Nat} {x:α} (h:l[k]? = some x):l.take (k+1)=l.take k ++ [x]:=by rw [List.take_add_one,h];rfl
theorem take_all {α : Type} {l:List α} {k:Nat} (h:¬k < l.length):l.take k=l:=List.take_of_length_le (by omega)
end
section
open Go Go.RowKit Bth
set_option maxRecDepth 100000
def hasR (k i s:Nat):Bool:=
 if k=0 then decide (i=0) && decide (s=0) else if k=1 then (if s=2 then decide (i < 4) else decide (i < 16) && (decide (s=1) || decide (s=3) || decide (s=7) || decide (s=15)))
 else if k=2 then decide (i < 32) && (decide (s=31) || decide (s=63) || decide (s=127)) else if k=3 then decide (i < 8) && decide (s=15) else false
def tabP (k:Nat):List (Nat × Nat):=(tabOf k).map fun x=>(x.2.idx,x.2.spec)
theorem tab_any (k i s:Nat):((tabOf k).any fun x=>x.2.idx == i && x.2.spec == s)=decide ((i,s)∈tabP k):=by
 rw [Bool.eq_iff_iff,List.any_eq_true,decide_eq_true_eq]
 unfold tabP
 rw [List.mem_map]
 constructor
 ·rintro ⟨x,hx,h⟩
  simp only [Bool.and_eq_true,beq_iff_eq] at h
  exact ⟨x,hx,by rw [h.1,h.2]⟩
 ·rintro ⟨x,hx,h⟩
  injection h with h1 h2
  exact ⟨x,hx,by simp [h1,h2]⟩
theorem tab_has {k i s:Nat} (hk:k≤3):((tabOf k).any fun x=>x.2.idx == i && x.2.spec == s)=hasR k i s:=by
 rw [tab_any,Bool.eq_iff_iff,decide_eq_true_eq]
 have f:∀ k,k≤3→∀ p∈tabP k,hasR k p.1 p.2=true:=by decide
 refine ⟨fun h=>f k hk _ h,fun h=>?_⟩
 unfold hasR at h
 clear f
 have hk4:k=0∨k=1∨k=2∨k=3:=by omega
 rcases hk4 with rfl | rfl | rfl | rfl
 ·simp at h;obtain ⟨rfl,rfl⟩:=h;decide
 ·rw [if_neg (by decide),if_pos rfl] at h
  split at h
  ·rename_i e;subst e
   have:∀ i,i < 4→(i,2)∈tabP 1:=by decide
   exact this i (by simpa using h)
  ·have:∀ i,i < 16→(i,1)∈tabP 1∧(i,3)∈tabP 1∧(i,7)∈tabP 1∧(i,15)∈tabP 1:=by decide
   simp at h
   obtain ⟨a,b,c,d⟩:=this i h.1
   rcases h.2 with ((rfl | rfl) | rfl) | rfl<;>assumption
 ·simp at h
  have:∀ i,i < 32→(i,31)∈tabP 2∧(i,63)∈tabP 2∧(i,127)∈tabP 2:=by decide
  obtain ⟨a,b,c⟩:=this i h.1
  rcases h.2 with (rfl | rfl) | rfl<;>assumption
 ·simp at h
  have:∀ i,i < 8→(i,15)∈tabP 3:=by decide
  obtain ⟨h1,rfl⟩:=h
  exact this i h1
theorem okG_has (g:G):okG g=(g.virt || hasR g.kind g.idx g.spec):=by
 unfold okG
 congr 1
 by_cases hk:g.kind≤3
 ·rw [tab_has hk];simp [hk]
 ·have:hasR g.kind g.idx g.spec=false:=by unfold hasR;rw [if_neg (by omega),if_neg (by omega),if_neg (by omega),if_neg (by omega)]
  rw [this];simp [hk]
theorem regHas_calls (w:World) (k i s:Nat):Calls Tryz.prog 50 #[.int .u8 (k:Int),.int .u16 (i:Int),.int .u16 (s:Int)] w fun e w'=>e = .returned (.bool (hasR k i s))∧w'=w:=by
 have eB:∀ a b:Nat,((a:Int) == (b:Int))=decide (a=b):=fun a b=>by
  by_cases h:a=b
  ·subst h;simp
  ·have:(a:Int)≠(b:Int):=by omega
   simp [h,this]
 have n0:k≠0→(k:Int)≠0:=fun h=>by omega
 have n1:k≠1→(k:Int)≠1:=fun h=>by omega
 have n2:k≠2→(k:Int)≠2:=fun h=>by omega
 have n3:k≠3→(k:Int)≠3:=fun h=>by omega
 by_cases h0:k=0
 ·subst h0
  by_cases hi:i=0
  ·subst hi
   go_enter Tryz.func50,Tryz.ntmps50
   go_wp2
   go_ret
   show Ending.returned (Value.bool _)=_∧_
   refine ⟨congrArg (fun b=>Ending.returned (Value.bool b)) ?_,rfl⟩
   simp only [hasR];have:=eB s 0;simpa using this
  ·have hi':(i:Int)≠0:=by omega
   go_enter Tryz.func50,Tryz.ntmps50
   go_wp2
   go_ret
   show Ending.returned (Value.bool _)=_∧_
   refine ⟨congrArg (fun b=>Ending.returned (Value.bool b)) ?_,rfl⟩
   simp [hasR,hi]
 have m0:=n0 h0
 by_cases h1:k=1
 ·subst h1
  clear m0 n0 n1 n2 n3
  by_cases hs:s=2
  ·subst hs
   go_enter Tryz.func50,Tryz.ntmps50
   go_wp2
   go_ret
   show Ending.returned (Value.bool _)=_∧_
   refine ⟨congrArg (fun b=>Ending.returned (Value.bool b)) ?_,rfl⟩
   simp only [hasR];by_cases h:i < 4<;>simp [h]<;>omega
  have hs':(s:Int)≠2:=by omega
  by_cases hi:i < 16
  ·have hi':(i:Int) < 16:=by omega
   by_cases q1:s=1
   ·subst q1
    go_enter Tryz.func50,Tryz.ntmps50
    go_wp2
    go_ret
    show Ending.returned (Value.bool _)=_∧_
    refine ⟨congrArg (fun b=>Ending.returned (Value.bool b)) ?_,rfl⟩
    simp [hasR,hi]
   have q1':(s:Int)≠1:=by omega
   by_cases q2:s=3
   ·subst q2
    go_enter Tryz.func50,Tryz.ntmps50
    go_wp2
    go_ret
    show Ending.returned (Value.bool _)=_∧_
    refine ⟨congrArg (fun b=>Ending.returned (Value.bool b)) ?_,rfl⟩
    simp [hasR,hi]
   have q2':(s:Int)≠3:=by omega
   by_cases q3:s=7
   ·subst q3
    go_enter Tryz.func50,Tryz.ntmps50
    go_wp2
    go_ret
    show Ending.returned (Value.bool _)=_∧_
    refine ⟨congrArg (fun b=>Ending.returned (Value.bool b)) ?_,rfl⟩
    simp [hasR,hi]
   have q3':(s:Int)≠7:=by omega
   go_enter Tryz.func50,Tryz.ntmps50
   go_wp2
   go_ret
   show Ending.returned (Value.bool _)=_∧_
   refine ⟨congrArg (fun b=>Ending.returned (Value.bool b)) ?_,rfl⟩
   have e1:((s:Int) == 1)=decide (s=1):=eB s 1
   have e2:((s:Int) == 3)=decide (s=3):=eB s 3
   have e3:((s:Int) == 7)=decide (s=7):=eB s 7
   have e4:((s:Int) == 15)=decide (s=15):=eB s 15
   rw [e1,e2,e3,e4]
   simp [hasR,hs,hi,q1,q2,q3]
  ·have hi':¬(i:Int) < 16:=by omega
   go_enter Tryz.func50,Tryz.ntmps50
   go_wp2
   go_ret
   show Ending.returned (Value.bool _)=_∧_
   refine ⟨congrArg (fun b=>Ending.returned (Value.bool b)) ?_,rfl⟩
   simp [hasR,hs,hi]
 have m1:=n1 h1
 by_cases h2:k=2
 ·subst h2
  clear m0 m1 n0 n1 n2 n3
  by_cases hi:i < 32
  ·have hi':(i:Int) < 32:=by omega
   by_cases q1:s=31
   ·subst q1
    go_enter Tryz.func50,Tryz.ntmps50
    go_wp2
    go_ret
    show Ending.returned (Value.bool _)=_∧_
    refine ⟨congrArg (fun b=>Ending.returned (Value.bool b)) ?_,rfl⟩
    simp [hasR,hi]
   have q1':(s:Int)≠31:=by omega
   by_cases q2:s=63
   ·subst q2
    go_enter Tryz.func50,Tryz.ntmps50
    go_wp2
    go_ret
    show Ending.returned (Value.bool _)=_∧_
    refine ⟨congrArg (fun b=>Ending.returned (Value.bool b)) ?_,rfl⟩
    simp [hasR,hi]
   have q2':(s:Int)≠63:=by omega
   go_enter Tryz.func50,Tryz.ntmps50
   go_wp2
   go_ret
   show Ending.returned (Value.bool _)=_∧_
   refine ⟨congrArg (fun b=>Ending.returned (Value.bool b)) ?_,rfl⟩
   have e1:((s:Int) == 31)=decide (s=31):=eB s 31
   have e2:((s:Int) == 63)=decide (s=63):=eB s 63
   have e3:((s:Int) == 127)=decide (s=127):=eB s 127
   rw [e1,e2,e3]
   simp [hasR,hi,q1,q2]
  ·have hi':¬(i:Int) < 32:=by omega
   go_enter Tryz.func50,Tryz.ntmps50
   go_wp2
   go_ret
   show Ending.returned (Value.bool _)=_∧_
   refine ⟨congrArg (fun b=>Ending.returned (Value.bool b)) ?_,rfl⟩
   simp [hasR,hi]
 have m2:=n2 h2
 by_cases h3:k=3
 ·subst h3
  clear m0 m1 m2 n0 n1 n2 n3
  by_cases hi:i < 8
  ·have hi':(i:Int) < 8:=by omega
   go_enter Tryz.func50,Tryz.ntmps50
   go_wp2
   go_ret
   show Ending.returned (Value.bool _)=_∧_
   refine ⟨congrArg (fun b=>Ending.returned (Value.bool b)) ?_,rfl⟩
   have:=eB s 15;simp only [hasR];simpa [hi] using this
  ·have hi':¬(i:Int) < 8:=by omega
   go_enter Tryz.func50,Tryz.ntmps50
   go_wp2
   go_ret
   show Ending.returned (Value.bool _)=_∧_
   refine ⟨congrArg (fun b=>Ending.returned (Value.bool b)) ?_,rfl⟩
   simp [hasR,hi]
 have m3:=n3 h3
 go_enter Tryz.func50,Tryz.ntmps50
 go_wp2
 go_ret
 show Ending.returned (Value.bool _)=_∧_
 refine ⟨congrArg (fun b=>Ending.returned (Value.bool b)) ?_,rfl⟩
 simp [hasR,h0,h1,h2,h3]
theorem IsRegister_calls (w:World) (g:G):Calls Tryz.prog 48 #[g.agg] w fun e w'=>e = .returned (.bool (okG g))∧Fr nope w w':=by
 have hH:=fun W=>regHas_calls W g.kind g.idx g.spec
 rw [okG_has]
 obtain ⟨virt,kind,idx,spec⟩:=g
 simp only [G.agg] at hH ⊢
 generalize hasR kind idx spec=b at hH ⊢
 cases virt with
 | true=>
  go_enter Tryz.func48,Tryz.ntmps48
  go_wp2
  go_ret
  exact ⟨rfl,(Fr.refl _ _).alloc _⟩
 | false=>
  go_enter Tryz.func48,Tryz.ntmps48
  go_wp2_with (go_at_call 50;refine (hH _).mono ?_;rintro e w1 ⟨rfl,rfl⟩)
  go_ret
  exact ⟨rfl,(Fr.refl _ _).alloc _⟩
theorem ConstOK_calls (w:World) (c:PC):Calls Tryz.prog 49 #[c.agg] w fun e w'=>e = .returned (.bool (conK c.kind).isSome)∧Fr nope w w':=by
 have hk:(conK c.kind).isSome=decide (1≤c.kind∧c.kind≤11):=by
  by_cases h:1≤c.kind∧c.kind≤11
  ·have:c.kind=1∨c.kind=2∨c.kind=3∨c.kind=4∨c.kind=5∨c.kind=6∨c.kind=7∨c.kind=8∨c.kind=9∨c.kind=10∨c.kind=11:=by omega
   rw [decide_eq_true h]
   rcases this with e | e | e | e | e | e | e | e | e | e | e<;>rw [e]<;>decide
  ·rw [decide_eq_false h]
   unfold conK
   repeat' (split;· omega)
   rfl
 rw [hk]
 obtain ⟨kind,bits,text⟩:=c
 simp only [PC.agg]
 by_cases h1:1≤kind
 ·by_cases h2:kind≤11
  ·rw [decide_eq_true ⟨h1,h2⟩]
   go_enter Tryz.func49,Tryz.ntmps49
   go_wp2
   go_ret
   exact ⟨rfl,(Fr.refl _ _).alloc _⟩
  ·rw [decide_eq_false fun h=>h2 h.2]
   go_enter Tryz.func49,Tryz.ntmps49
   go_wp2
   go_ret
   exact ⟨rfl,(Fr.refl _ _).alloc _⟩
 ·rw [decide_eq_false fun h=>h1 h.1]
  go_enter Tryz.func49,Tryz.ntmps49
  go_wp2
  go_ret
  exact ⟨rfl,(Fr.refl _ _).alloc _⟩
def wholeG (g:G):Bool:=if g.kind=1 then decide (g.spec=1) || decide (g.spec=3) || decide (g.spec=7) || decide (g.spec=15) else if g.kind=2 then decide (g.spec=31) || decide (g.spec=63) || decide (g.spec=127) else if g.kind=3 then decide (g.spec=15) else false
end
end Go.Proofs.YtpbeedabmjmdmaaGreatDoor
