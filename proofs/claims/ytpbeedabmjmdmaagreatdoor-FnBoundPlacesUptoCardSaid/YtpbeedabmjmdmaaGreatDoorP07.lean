/- Part of the proof of a statement about pub-berthage: what its texts have in common. -/
import Derived.Test.YtpbeedabmjmdmaaGreatDoorP02
import Derived.Test.YtpbeedabmjmdmaaGreatDoorP05
import Derived.Test.YtpbeedabmjmdmaaGreatDoorP06
namespace Go.Proofs.YtpbeedabmjmdmaaGreatDoor
section
open Go Go.RowKit Bth
set_option maxRecDepth 100000
def orF (fl:List Nat):Nat:=fl.foldl (fun a b=>a ||| b) 0
theorem orF_take {fl:List Nat} {k b:Nat} (h:fl[k]? = some b):orF (fl.take (k+1))=orF (fl.take k) ||| b:=by
 unfold orF;rw [List.take_add_one,h];simp
theorem ofInt_u8 (a:Nat) (h:a < 256):(BitVec.ofInt 8 (a:Int)).toNat=a:=by
 rw [BitVec.toNat_ofInt];omega
theorem wrap_u8 (a:Nat) (h:a < 256):IntKind.u8.wrap (a:Int)=(a:Int):=by
 show ((BitVec.ofInt 8 (a:Int)).toNat:Int)=_
 rw [ofInt_u8 a h]
theorem u8_or (a b:Nat) (ha:a < 256) (hb:b < 256):Go.bits .or .u8 (a:Int) (b:Int)=((a ||| b:Nat):Int):=by
 have hx:a ||| b < 2 ^ 8:=Nat.or_lt_two_pow (by omega) (by omega)
 show IntKind.u8.wrap ((BitVec.ofInt 8 (a:Int) ||| BitVec.ofInt 8 (b:Int)).toNat:Int)=_
 rw [BitVec.toNat_or,ofInt_u8 a ha,ofInt_u8 b hb,wrap_u8 _ (by omega)]
theorem orF_lt (fl:List Nat) (h:∀ x∈fl,x < 256):orF fl < 256:=by
 unfold orF
 have key:∀ (l:List Nat) (a:Nat),a < 256→(∀ x∈l,x < 256)→l.foldl (fun a b=>a ||| b) a < 256:=by
  intro l
  induction l with
  | nil=>intro a ha _;exact ha
  | cons b l ih=>
   intro a ha hl
   have:a ||| b < 2 ^ 8:=Nat.or_lt_two_pow (by omega) (hl b (by simp))
   exact ih _ (by omega) (fun x hx=>hl x (by simp [hx]))
 exact key fl 0 (by omega) h
theorem newregister_calls (w:World) (fb:Nat) (s i:Int) (n:ByteArray) (A:Option Addr) (c:Nat) (fl:List Nat) (hS:Sl w A fl.length (fl.map fun (x:Nat)=>.int .u8 (x:Int))) (hfl:∀ x∈fl,x < 256) (hl:fl.length < 100):
  Calls Tryz.prog 111 #[.pointer (some ⟨fb,0,none⟩),.int .u16 s,.int .u16 i,.string n,.slice A fl.length c] w fun e w'=>e = .returned (.agg #[.pointer (some ⟨fb,0,none⟩),.int .u16 i,.string n,.int .u8 (orF fl:Int),.int .u16 s])∧Fr nope w w':=by
 go_enter Tryz.func111,Tryz.ntmps111
 go_wp2
 go_loopg [21] fl.length (fun m c21 wr=>∃ k:Nat,k≤fl.length∧c21 = .int .i64 (k:Int)∧wr.heap[w.heap.size+1]? = some (.cells #[.pointer (some ⟨fb,0,none⟩),.int .u16 i,.string n,.int .u8 (orF (fl.take k):Int),.int .u16 s] 221 (0,0))∧wr.heap[w.heap.size]? = some (.cells #[.pointer none,.int .u16 0,.string ⟨#[]⟩,.int .u8 0,.int .u16 0] 221 (0,0))∧Fr nope w wr∧m=fl.length - k)
 case atStart=>
  refine ⟨0,Nat.zero_le _,rfl,?_,?_,((Fr.refl _ _).alloc _).alloc _,rfl⟩
  ·exact (heap_alloc2_new w _ _)
  ·exact ((Fr.refl nope _).alloc _).heap (heap_alloc_new w _) (fun x=>x)
 case round=>
  obtain ⟨k,hk,rfl,hb1,hb0,hf,rfl⟩:=hrel
  have hlt1:=lt_of_heap hb1
  have hlt0:=lt_of_heap hb0
  have hc1:=fun j=>cell_of_row _ _ j _ _ (0,0) hb1
  have hc0:=fun j=>cell_of_row _ _ j _ _ (0,0) hb0
  have hz1:∀ j,wr.frozen? ⟨w.heap.size+1,j,none⟩=false:=fun j=>by simp [World.frozen?,hb1]
  have hz0:∀ j,wr.frozen? ⟨w.heap.size,j,none⟩=false:=fun j=>by simp [World.frozen?,hb0]
  by_cases hlt:k < fl.length
  ·obtain ⟨b,off,u,rfl,hbl,hu,hc⟩:=(hS.nope hf).at_ hlt
   rw [List.getElem?_map] at hu
   obtain ⟨x,hx,rfl⟩:=Option.map_eq_some_iff.1 hu
   have hT:=Lib.hid (orF_take hx)
   have hB:=Lib.hid (u8_or (orF (fl.take k)) x (orF_lt _ fun y hy=>hfl y (List.mem_of_mem_take hy)) (hfl x (List.mem_of_getElem? hx)))
   clear hS hu hx
   go_wp2
   go_roundg (fl.length - (k+1))
   case measure=>omega
   case rel=>
    refine ⟨k+1,by omega,by go_num,?_,?_,hf.setCell (.inr (by simp)) _,rfl⟩
    ·rw [hT.out]
     rw [← hB.out]
     exact setCell_heap hb1 _
    ·exact ((Fr.refl (fun b=>b=w.heap.size+1) wr).setCell (.inl rfl) _).heap hb0 (by omega)
  ·go_wp2
   have e:fl.take k=fl:=List.take_of_length_le (by omega)
   rw [e] at *
   refine bodyPost_ret (results_cell_row rfl _ _ w.heap.size _ _ _ _ rfl (setCell_heap (setCell_heap (setCell_heap (setCell_heap (setCell_heap hb0 _) _) _) _) _) Tryz.underlying221 rfl (by kernel_rfl)) rfl ?_
   exact ⟨rfl,((((hf.setCell (.inr (Nat.le_refl _)) _).setCell (.inr (Nat.le_refl _)) _).setCell (.inr (Nat.le_refl _)) _).setCell (.inr (Nat.le_refl _)) _).setCell (.inr (Nat.le_refl _)) _⟩
theorem newgpp_calls (w:World) (T:TypeId) (v:Value):Calls Tryz.prog 110 #[.iface T v] w fun e w'=>e = .returned (.iface 265 (.agg #[.iface T v]))∧w'=w:=by
 go_enter Tryz.func110,Tryz.ntmps110
 go_wp2
 go_ret
 exact ⟨rfl,rfl⟩
theorem newvecp_calls (w:World) (T:TypeId) (v:Value):Calls Tryz.prog 112 #[.iface T v] w fun e w'=>e = .returned (.iface 269 (.agg #[.iface T v,.nilIface]))∧w'=w:=by
 go_enter Tryz.func112,Tryz.ntmps112
 go_wp2
 go_ret
 exact ⟨rfl,rfl⟩
theorem newopmaskp_calls (w:World) (T:TypeId) (v:Value):Calls Tryz.prog 113 #[.iface T v] w fun e w'=>e = .returned (.iface 270 (.agg #[.iface T v]))∧w'=w:=by
 go_enter Tryz.func113,Tryz.ntmps113
 go_wp2
 go_ret
 exact ⟨rfl,rfl⟩
end
section
open Go Go.RowKit Bth
set_option maxRecDepth 100000
theorem infoPhys:(Tryz.prog.info? 147).map (fun i=>(i.zero,i.size,i.bytes))=some (some .nilIface,1,16):=by kernel_rfl
def FamAt (w:World) (fb:Nat) (k:Nat) (v:Value):Prop:=w.heap[fb]? = some (.cells #[.int .u8 (k:Int),v] 212 (0,0))
theorem FamAt.reg {w:World} {fb k:Nat} {v:Value} (h:FamAt w fb k v) (r:R) (h1:r.fb=fb) (h2:r.kind=k):r.At w:=fun _=>⟨v,by rw [h1,h2];exact h⟩
def GivesReg (w:World) (fb k:Nat) (v0:Value) (r:R) (base n:Nat) (xs:List Value) (e:Ending) (w':World):Prop:=
 e = .returned (.tuple #[])∧∃ v,FamAt w' fb k v∧w'.ownsRow base 147 1 v (n+1) (xs ++ [r.val])∧Fr (fun b=>b=fb∨v0.ownBlock=some b) w w'
theorem R.kindP (r:R) (hv:r.virt=false):∃ T v,r.val = .iface T v∧∀ W,(method 479 T v "Kind").run Tryz.prog W = .ok (220,.agg #[.pointer (some ⟨r.fb,0,none⟩),.int .u16 (r.idx:Int),.string r.name,.int .u8 (r.info:Int),.int .u16 (r.spec:Int)]) W:=by
 obtain ⟨T,v,h⟩:=r.val_iface
 refine ⟨T,v,h,fun W=>?_⟩
 obtain ⟨T',v',h1,h2⟩:=r.m_Kind_p W hv
 rw [h] at h1
 injection h1 with e1 e2
 subst e1 e2
 rw [sizeTypes] at h2
 exact h2
theorem add_calls (w:World) (fb k:Nat) (v:Value) (r:R) (base n:Nat) (xs:List Value) (hfb:FamAt w fb k v) (hown:w.ownsRow base 147 1 v n xs) (hn:n≤1000) (hb:fb < base) (hbs:base≤w.heap.size) (h1:r.fb=fb) (h2:r.kind=k) (hvirt:r.virt=false):
  Calls Tryz.prog 109 #[.pointer (some ⟨fb,0,none⟩),r.val] w (GivesReg w fb k v r base n xs):=by
 obtain ⟨A,c,rfl,_,_⟩:=own_slice hown
 have hat:=hfb.reg r h1 h2
 subst h1 h2
 have hbl:=lt_of_heap hfb
 have hc:=fun j=>cell_of_row _ _ j _ _ (0,0) hfb
 have hc0:w.cell? ⟨r.fb,0,none⟩=some (.int .u8 (r.kind:Int)):=hc 0
 unfold GivesReg
 obtain ⟨T,v,hv,hm⟩:=r.kindP hvirt
 rw [hv]
 have h1:∀ u∈[Value.iface T v],u.oneCell'=true:=by simp [Value.oneCell']
 clear hv hat
 go_enter Tryz.func109,Tryz.ntmps109
 go_wp2
 go_region_with (first
  | (go_at_call 220;refine (register_Kind_calls _ r.fb r.idx r.kind r.spec r.info r.name ?_).mono ?_;go_simp;rintro e w1 ⟨rfl,hf⟩;have hk0:w1.cell? ⟨r.fb,0,none⟩=some (.int .u8 (r.kind:Int)):=hf.cell (p:=⟨r.fb,0,none⟩) hc0 (fun x=>x)))
 all_goals
  have hfr:=((Fr.refl nope w).drew.then hf)
  have hfam1:=hfr.heap hfb (fun x=>x)
  have hown1:=own_fr hown hfr (fun _ _ x=>x)
  have hcw:=fun j=>cell_of_row _ _ j _ _ (0,0) hfam1
  have hblw:=lt_of_heap hfam1
  have hsz:=hfr.size
  go_wp2_with (refine wpList_app (v:=.slice A n c) rfl rfl Tryz.underlying171 infoPhys rfl (by omega) rfl (own_fr hown1 ((Fr.refl nope _).alloc _) (fun _ _ x=>x)) rfl (news:=[.iface T v]) rfl (one_new _ _ _ _ rfl) h1 (by simp only [maxLen];omega) (by omega) (by simp;omega) ?hk)
  case hk=>
   intro v3 w3 hown3 hf3 hb3
   obtain ⟨A3,c3,rfl,_,_⟩:=own_slice hown3
   have hfn3:=hf3.heap (((Fr.refl nope w1).alloc _).heap hfam1 (fun x=>x)) (fun he=>by have:=own_base hown _ he;omega)
   have hz:∀ j,w3.frozen? ⟨r.fb,j,none⟩=false:=fun j=>by simp [World.frozen?,hfn3]
   have hc3:=fun j=>cell_of_row _ _ j _ _ (0,0) hfn3
   go_wp2
   go_end0
   refine ⟨rfl,_,setCell_heap hfn3 _,?_,?_⟩
   ·refine own_fr hown3 ((Fr.refl (fun b=>b=r.fb) w3).setCell (.inl rfl) _) (fun b hb2 he=>?_)
    have:=own_base hown3 b hb2
    omega
   ·refine Fr.setCell (a:=w) (b:=w3) (((hfr.of_nope.alloc _).then (hf3.mono (T:=fun b=>b=r.fb∨(Value.slice A n c).ownBlock=some b) (fun x _ h=>.inr h)))) (.inl (.inl rfl)) _
end
end Go.Proofs.YtpbeedabmjmdmaaGreatDoor
namespace Bth
section
open Go Go.RowKit
section
variable {P:Program} {ops:Array Oper} {rest:List Oper} {o:Oper} {a:Act} {Q:Exit→Act→World→Prop} {w:World}
theorem put_eval (a:Act) (d t:Nat) (v:Value) (hd:d < a.tmps.size):(a.put (some d) v).eval (.tmp t)=if d=t then v else a.eval (.tmp t):=by
 simp only [Act.put,Act.eval,Array.getD_eq_getD_getElem?,Array.getElem?_setIfInBounds]
 split
 ·rename_i h;subst h;rfl
 ·rfl
theorem put_size (a:Act) (d:Nat) (v:Value):(a.put (some d) v).tmps.size=a.tmps.size:=by simp [Act.put]
theorem put_defers (a:Act) (d:Nat) (v:Value):(a.put (some d) v).defers=a.defers:=rfl
theorem L_move {x:Operand} (hg:o.guard=none) (hop:o.op = .move x) (h:wpList P ops Q rest (a.put o.dst (a.eval x)) w):wpList P ops Q (o :: rest) a w:=by
 refine wpList_plain hg fun K hK=>?_
 unfold Oper.wp
 simp [execOp,hop]
 exact hK _ _ h
theorem L_iface {x:Operand} {T:TypeId} (hg:o.guard=none) (hop:o.op = .makeInterface T x) (hr:(Instr.makeInterface T (a.eval x)).run P w = .ok (.iface T (a.eval x)) w) (h:wpList P ops Q rest (a.put o.dst (.iface T (a.eval x))) w):wpList P ops Q (o :: rest) a w:=by
 refine wpList_plain hg fun K hK=>?_
 unfold Oper.wp
 simp [execOp,hop,hr]
 exact hK _ _ h
theorem L_call {f:FuncId} {fn:Func} {args:Array Operand} {ats:Array TypeId} (hg:o.guard=none) (hop:o.op = .call { callee:=.value (.func f),args:=args,argTypes:=ats })
  (hf:P.funcs[f]? = some fn) (hn:(fn.name == "runtime.NumGoroutine")=false) (hb:fn.body.isNone=false)
  (hc:Calls P f (args.map a.eval) w fun
   | .returned y,w'=>wpList P ops Q rest (a.put o.dst y) w'
   | _,_=>False):wpList P ops Q (o :: rest) a w:=by
 refine wpList_plain hg fun K hK=>?_
 have hrun:(execOp a.eval o).run P w = .ok (.enter f (args.map a.eval)) w:=by
  unfold execOp
  rw [hop]
  simp [resolve,invoke,Act.eval,Deferred.ofValue,Go.Proofs.YtpbeedabmjmdmaaGreatDoor.run_callFunc hf hn hb]
 show o.upon P a K Q ((execOp a.eval o).run P w)
 rw [hrun]
 refine hc.mono fun e w' h=>?_
 cases e with
 | returned y=>exact hK _ _ h
 | panicked chain=>exact h.elim
 | outgrown=>exact h.elim
end
end
end Bth
namespace Go.Proofs.YtpbeedabmjmdmaaGreatDoor
section
open Go Go.RowKit Bth
set_option maxRecDepth 100000
structure FrameOk (fb:Nat) (x7:Value) (a:Act):Prop where
 size:a.tmps.size=1066
 defers:a.defers=[]
 t3:a.eval (.tmp 3) = .pointer (some ⟨fb,0,none⟩)
 t7:a.eval (.tmp 7)=x7
theorem FrameOk.put {fb:Nat} {x7:Value} {a:Act} (h:FrameOk fb x7 a) {d:Nat} (v:Value) (hd:d < 1066) (h3:d≠3) (h7:d≠7):FrameOk fb x7 (a.put (some d) v):=
 ⟨by rw [put_size,h.size],h.defers,by rw [put_eval a d 3 v (by rw [h.size];exact hd),if_neg h3,h.t3],by rw [put_eval a d 7 v (by rw [h.size];exact hd),if_neg h7,h.t7]⟩
def wrapF:Nat→FuncId
 | 1=>110
 | 2=>112
 | _=>113
structure Ent where
 spec:Nat
 idx:Nat
 name:ByteArray
 info:Nat
def Ent.r (e:Ent) (fb k:Nat):R:={ virt:=false,kind:=k,idx:=e.idx,spec:=e.spec,fb:=fb,name:=e.name,info:=e.info }
theorem bs_flag (w:World) (v':Int):(Instr.buildSlice 263 1 #[(0,.int .u8 v')]).run Tryz.prog w = .ok (.slice (some ⟨w.heap.size,0,none⟩) 1 1) (w.alloc (.cells #[.int .u8 v'] 173)):=by kernel_rfl
theorem mi_reg (w:World) (v:Value):(Instr.makeInterface 221 v).run Tryz.prog w = .ok (.iface 221 v) w:=by kernel_rfl
theorem wrap_calls (w:World) (k:Nat) (hk:k=1∨k=2∨k=3) (x:Value):Calls Tryz.prog (wrapF k) #[.iface 221 x] w fun e w'=>e = .returned (wrapP k (.iface 221 x))∧w'=w:=by
 rcases hk with rfl | rfl | rfl
 ·exact newgpp_calls w _ x
 ·exact newvecp_calls w _ x
 ·exact newopmaskp_calls w _ x
section
variable {ops:Array Oper} {rest:List Oper} {o0 o1 oF o2 o3 o4 o5:Oper} {a:Act} {Q:Exit→Act→World→Prop} {w:World}
theorem step_tail {s c:Nat} {fb k:Nat} {x7:Value} {v:Value} {base n:Nat} {xs:List Value} (e:Ent) (fl:List Nat) (A:Option Addr) (cp:Nat) (x:Operand) (hk:k=1∨k=2∨k=3) (he:e.info=orF fl)
  (hs:7 < s) (hsc:s+1 < c) (hs2:c+4≤1066) (hfr:FrameOk fb x7 a) (hfb:FamAt w fb k v) (hown:w.ownsRow base 147 1 v n xs) (hn:n≤1000) (hb:fb < base) (hbs:base≤w.heap.size)
  (e0:a.eval (.tmp s) = .pointer (some ⟨fb,0,none⟩)) (e1:a.eval (.tmp (s+1)) = .pointer (some ⟨fb,0,none⟩)) (hx:a.eval x = .slice A fl.length cp) (hS:Sl w A fl.length (fl.map fun (x:Nat)=>.int .u8 (x:Int))) (hfl:∀ x∈fl,x < 256) (hl:fl.length < 100)
  (g2:o2.guard=none) (g3:o3.guard=none) (g4:o4.guard=none) (g5:o5.guard=none)
  (d2:o2.dst=some c) (d3:o3.dst=some (c+1)) (d4:o4.dst=some (c+2)) (d5:o5.dst=some (c+3))
  {t2 t4 t5:Array TypeId}
  (p2:o2.op = .call { callee:=.value (.func 111),args:=#[.tmp (s+1),.const (.int .u16 (e.spec:Int)),.const (.int .u16 (e.idx:Int)),.const (.string e.name),x],argTypes:=t2 })
  (p3:o3.op = .makeInterface 221 (.tmp c))
  (p4:o4.op = .call { callee:=.value (.func (wrapF k)),args:=#[.tmp (c+1)],argTypes:=t4 })
  (p5:o5.op = .call { callee:=.value (.func 109),args:=#[.tmp s,.tmp (c+2)],argTypes:=t5 })
  (h:∀ a' w' v',FrameOk fb x7 a'→FamAt w' fb k v'→w'.ownsRow base 147 1 v' (n+1) (xs ++ [(e.r fb k).val])→Fr (fun b=>fb≤b) w w'→wpList Tryz.prog ops Q rest a' w'):
  wpList Tryz.prog ops Q (o2 :: o3 :: o4 :: o5 :: rest) a w:=by
 have ev:∀ {a:Act},FrameOk fb x7 a→∀ (d t:Nat) v,d < 1066→(a.put (some d) v).eval (.tmp t)=if d=t then v else a.eval (.tmp t):=fun h d t v hd=>put_eval _ d t v (by rw [h.size];exact hd)
 have evs:∀ {a:Act},FrameOk fb x7 a→∀ (d:Nat) v,d < 1066→(a.put (some d) v).eval (.tmp d)=v:=fun h d v hd=>(ev h d d v hd).trans (if_pos rfl)
 have evn:∀ {a:Act},FrameOk fb x7 a→∀ (d t:Nat) v,d < 1066→d≠t→(a.put (some d) v).eval (.tmp t)=a.eval (.tmp t):=fun h d t v hd hn=>(ev h d t v hd).trans (if_neg hn)
 have hw:∃ fn,Tryz.prog.funcs[wrapF k]? = some fn∧(fn.name == "runtime.NumGoroutine")=false∧fn.body.isNone=false:=by
  rcases hk with rfl | rfl | rfl
  ·exact ⟨_,Tryz.func110,by kernel_rfl,by kernel_rfl⟩
  ·exact ⟨_,Tryz.func112,by kernel_rfl,by kernel_rfl⟩
  ·exact ⟨_,Tryz.func113,by kernel_rfl,by kernel_rfl⟩
 refine L_call g2 p2 Tryz.func111 (by kernel_rfl) (by kernel_rfl) ?_
 have ea:(#[Operand.tmp (s+1),.const (.int .u16 (e.spec:Int)),.const (.int .u16 (e.idx:Int)),.const (.string e.name),x].map a.eval) = #[.pointer (some ⟨fb,0,none⟩),.int .u16 (e.spec:Int),.int .u16 (e.idx:Int),.string e.name,.slice A fl.length cp]:=by
  simp only [List.map_toArray,List.map_cons,List.map_nil,e1,hx]
  rfl
 rw [ea]
 refine (newregister_calls w fb e.spec e.idx e.name A cp fl hS hfl hl).mono ?_
 rintro en w1 ⟨rfl,hf1⟩
 show wpList _ _ _ _ _ _
 rw [d2,← he]
 generalize hx:Value.agg #[.pointer (some ⟨fb,0,none⟩),.int .u16 (e.idx:Int),.string e.name,.int .u8 (e.info:Int),.int .u16 (e.spec:Int)]=x
 have f3:=hfr.put (d:=c) x (by omega) (by omega) (by omega)
 have e3:=evs hfr c x (by omega)
 have e3':=(evn hfr c s x (by omega) (by omega)).trans e0
 generalize a.put (some c) x=a3 at f3 e3 e3' ⊢
 refine L_iface g3 p3 (mi_reg _ _) ?_
 rw [d3,e3]
 generalize hy:Value.iface 221 x=y
 have f4:=f3.put (d:=c+1) y (by omega) (by omega) (by omega)
 have e4:=evs f3 (c+1) y (by omega)
 have e4':=(evn f3 (c+1) s y (by omega) (by omega)).trans e3'
 generalize a3.put (some (c+1)) y=a4 at f4 e4 e4' ⊢
 obtain ⟨fn,hw1,hw2,hw3⟩:=hw
 refine L_call g4 p4 hw1 hw2 hw3 ?_
 have eb:(#[Operand.tmp (c+1)].map a4.eval) = #[.iface 221 x]:=by
  simp only [List.map_toArray,List.map_cons,List.map_nil,e4,hy]
 rw [eb]
 refine (wrap_calls _ k hk x).mono ?_
 rintro en w2 ⟨rfl,rfl⟩
 show wpList _ _ _ _ _ _
 have hr:wrapP k (.iface 221 x)=(e.r fb k).val:=by rw [← hx];rfl
 rw [d4,hr]
 have f5:=f4.put (d:=c+2) (e.r fb k).val (by omega) (by omega) (by omega)
 have e5:=evs f4 (c+2) (e.r fb k).val (by omega)
 have e5':=(evn f4 (c+2) s (e.r fb k).val (by omega) (by omega)).trans e4'
 generalize a4.put (some (c+2)) (e.r fb k).val=a5 at f5 e5 e5' ⊢
 refine L_call g5 p5 Tryz.func109 (by kernel_rfl) (by kernel_rfl) ?_
 have ec:(#[Operand.tmp s,.tmp (c+2)].map a5.eval) = #[.pointer (some ⟨fb,0,none⟩),(e.r fb k).val]:=by
  simp only [List.map_toArray,List.map_cons,List.map_nil,e5,e5']
 rw [ec]
 have hfb2:FamAt w2 fb k v:=hf1.heap hfb (fun x=>x)
 refine (add_calls w2 fb k v (e.r fb k) base n xs hfb2 (own_fr hown hf1 (fun _ _ x=>x)) hn hb (Nat.le_trans hbs hf1.size) rfl rfl rfl).mono ?_
 rintro en w3 ⟨rfl,v',h1,h2,h3⟩
 show wpList _ _ _ _ _ _
 rw [d5]
 exact h _ _ v' (f5.put _ (by omega) (by omega) (by omega)) h1 h2 (hf1.of_nope.then (h3.mono fun x _ hx=>by
  rcases hx with rfl | hx
  ·exact Nat.le_refl _
  ·have:=own_base hown x hx
   show fb≤x
   omega))
theorem step_head {s:Nat} {fb:Nat} {x7:Value} {l:List Oper} (hs:7 < s) (hs2:s+6≤1066) (hfr:FrameOk fb x7 a)
  (g0:o0.guard=none) (g1:o1.guard=none) (d0:o0.dst=some s) (d1:o1.dst=some (s+1)) (p0:o0.op = .move (.tmp 3)) (p1:o1.op = .move (.tmp 3))
  (h:∀ a',FrameOk fb x7 a'→a'.eval (.tmp s) = .pointer (some ⟨fb,0,none⟩)→a'.eval (.tmp (s+1)) = .pointer (some ⟨fb,0,none⟩)→wpList Tryz.prog ops Q l a' w):
  wpList Tryz.prog ops Q (o0 :: o1 :: l) a w:=by
 have ev:∀ {a:Act},FrameOk fb x7 a→∀ (d t:Nat) v,d < 1066→(a.put (some d) v).eval (.tmp t)=if d=t then v else a.eval (.tmp t):=fun h d t v hd=>put_eval _ d t v (by rw [h.size];exact hd)
 refine L_move g0 p0 ?_
 rw [d0,hfr.t3]
 have f1:=hfr.put (d:=s) (.pointer (some ⟨fb,0,none⟩)) (by omega) (by omega) (by omega)
 have e1:=(ev hfr s s (.pointer (some ⟨fb,0,none⟩)) (by omega)).trans (if_pos rfl)
 generalize a.put (some s) (.pointer (some ⟨fb,0,none⟩))=a1 at f1 e1 ⊢
 refine L_move g1 p1 ?_
 rw [d1,f1.t3]
 exact h _ (f1.put (d:=s+1) _ (by omega) (by omega) (by omega)) (((ev f1 (s+1) s _ (by omega)).trans (if_neg (by omega))).trans e1) ((ev f1 (s+1) (s+1) _ (by omega)).trans (if_pos rfl))
theorem L_flag {d:Nat} {f:Nat} (hg:oF.guard=none) (hd:oF.dst=some d) (hop:oF.op = .buildSlice 263 1 #[(0,.const (.int .u8 (f:Int)))])
  (h:wpList Tryz.prog ops Q rest (a.put (some d) (.slice (some ⟨w.heap.size,0,none⟩) 1 1)) (w.alloc (.cells #[.int .u8 (f:Int)] 173))):wpList Tryz.prog ops Q (oF :: rest) a w:=by
 refine wpList_plain hg fun K hK=>?_
 have hr:=bs_flag w (f:Int)
 unfold Oper.wp
 simp [execOp,hop,Act.eval,hr]
 rw [← hd] at h
 exact hK _ _ h
end
end
section
open Go Go.RowKit Bth
set_option maxRecDepth 100000
theorem define_calls (w:World) (fb k:Nat) (v:Value) (e:Ent) (base n:Nat) (xs:List Value) (hk:k=0) (he:e.info=0) (hfb:FamAt w fb k v) (hown:w.ownsRow base 147 1 v n xs) (hn:n≤1000) (hb:fb < base) (hbs:base≤w.heap.size):
  Calls Tryz.prog 108 #[.pointer (some ⟨fb,0,none⟩),.int .u16 (e.spec:Int),.int .u16 (e.idx:Int),.string e.name,.slice none 0 0] w
   fun en w'=>(∃ y,en = .returned y)∧∃ v',FamAt w' fb k v'∧w'.ownsRow base 147 1 v' (n+1) (xs ++ [(e.r fb k).val])∧Fr (fun b=>fb≤b) w w':=by
 obtain ⟨sp,ix,nm,inf⟩:=e
 simp only at he
 subst he hk
 go_enter Tryz.func108,Tryz.ntmps108
 go_wp2_with (first
  | (go_at_call 111;refine (newregister_calls w fb sp ix nm none 0 [] (Sl.nil w) (by simp) (by simp)).mono ?_;rintro en w1 ⟨rfl,hf1⟩)
  | (go_at_call 109;refine (add_calls _ fb 0 v (Ent.r ⟨sp,ix,nm,0⟩ fb 0) base n xs ((hf1.alloc _).heap hfb (fun x=>x)) (own_fr hown (hf1.alloc _) (fun _ _ x=>x)) hn hb (by have:=hf1.size;simp;omega) rfl rfl rfl).mono ?_;rintro en w2 ⟨rfl,v2,hF,hO,hf2⟩;have hbx:=hf2.heap (heap_alloc_new w1 _) (by rintro (h | h);(have:=lt_of_heap (hf1.heap hfb (fun x=>x));omega);(have:=own_lt hown _ h;have:=hf1.size;omega));have hcx:=fun j=>cell_of_row _ _ j _ _ (0,0) hbx))
 go_ret
 refine ⟨⟨_,rfl⟩,v2,hF,hO,(hf1.of_nope.alloc _).then (hf2.mono fun x _ hx=>?_)⟩
 rcases hx with rfl | hx
 ·exact Nat.le_refl _
 ·have:=own_base hown x hx
  show fb≤x
  omega
end
section
open Go Go.RowKit Bth
set_option maxRecDepth 100000
def wrapT:Nat→TypeId
 | 1=>218
 | 2=>224
 | _=>226
def tF:TypeId:=111
def opM (s:Nat) (p:String):Oper:={ dst:=some s,op:=.move (.tmp 3),type:=111,pos:=p,after:=#[],guard:=none }
def opN (c:Nat) (s1:Nat) (p:String) (e:Ent) (x:Operand) (af:Array Edge):Oper:={ dst:=some c,op:=.call { callee:=.value (.func 111),args:=#[.tmp s1,.const (.int .u16 (e.spec:Int)),.const (.int .u16 (e.idx:Int)),.const (.string e.name),x],argTypes:=#[111,214,215,9,263] },type:=221,pos:=p,after:=af,guard:=none }
def opI (c:Nat) (p:String) (on:Nat):Oper:={ dst:=some (c+1),op:=.makeInterface 221 (.tmp c),type:=147,pos:=p,after:=#[{ on:=on,ground:=.data }],guard:=none }
def opW (k c:Nat) (p:String) (on:Nat):Oper:={ dst:=some (c+2),op:=.call { callee:=.value (.func (wrapF k)),args:=#[.tmp (c+1)],argTypes:=#[147] },type:=wrapT k,pos:=p,after:=#[{ on:=on+1,ground:=.data },{ on:=on,ground:=.chain }],guard:=none }
def opA (s c:Nat) (p:String) (on:Nat):Oper:={ dst:=some (c+3),op:=.call { callee:=.value (.func 109),args:=#[.tmp s,.tmp (c+2)],argTypes:=#[111,147] },type:=0,pos:=p,after:=#[{ on:=0,ground:=.data },{ on:=on+2,ground:=.data },{ on:=on+2,ground:=.chain }],guard:=none }
def opFl (c:Nat) (p:String) (f:Nat):Oper:={ dst:=some c,op:=.buildSlice 263 1 #[(0,.const (.int .u8 (f:Int)))],type:=263,pos:=p,after:=#[],guard:=none }
def width (e:Ent):Nat:=if e.info=0 then 6 else 7
def opsOf (k s:Nat) (p:String) (e:Ent):List Oper:=
 if e.info=0 then [opM s p,opM (s+1) p,opN (s+2) (s+1) p e (.const (.slice none 0 0)) #[{ on:=1,ground:=.data }],opI (s+2) p 2,opW k (s+2) p 2,opA s (s+2) p 2]
 else [opM s p,opM (s+1) p,opFl (s+2) p e.info,opN (s+3) (s+1) p e (.tmp (s+2)) #[{ on:=1,ground:=.data },{ on:=2,ground:=.data }],opI (s+3) p 3,opW k (s+3) p 3,opA s (s+3) p 3]
def codeOf (k:Nat):List (String × Ent)→Nat→Nat→Code
 | [],_,_=>.skip
 | [(p,e)],id,s=>.region id (opsOf k s p e).toArray false
 | (p,e) :: l,id,s=>.seq (.region id (opsOf k s p e).toArray false) (codeOf k l (id+1) (s+width e))
def tab0:List (String × Ent):=[("zz_turned.go:8",⟨0,0,⟨#[70,80]⟩,0⟩),("zz_turned.go:9",⟨0,0,⟨#[80,67]⟩,0⟩),("zz_turned.go:10",⟨0,0,⟨#[83,66]⟩,0⟩),("zz_turned.go:11",⟨0,0,⟨#[83,80]⟩,0⟩)]
def tab1:List (String × Ent):=[("zz_turned.go:13",⟨1,0,⟨#[65,76]⟩,0⟩),("zz_turned.go:14",⟨1,1,⟨#[67,76]⟩,0⟩),("zz_turned.go:15",⟨1,2,⟨#[68,76]⟩,0⟩),("zz_turned.go:16",⟨1,3,⟨#[66,76]⟩,0⟩),("zz_turned.go:17",⟨2,0,⟨#[65,72]⟩,0⟩),("zz_turned.go:18",⟨2,1,⟨#[67,72]⟩,0⟩),("zz_turned.go:19",⟨2,2,⟨#[68,72]⟩,0⟩),("zz_turned.go:20",⟨2,3,⟨#[66,72]⟩,0⟩),("zz_turned.go:21",⟨1,4,⟨#[83,80]⟩,2⟩),("zz_turned.go:22",⟨1,5,⟨#[66,80]⟩,4⟩),("zz_turned.go:23",⟨1,6,⟨#[83,73]⟩,0⟩),("zz_turned.go:24",⟨1,7,⟨#[68,73]⟩,0⟩),("zz_turned.go:25",⟨1,8,⟨#[82,56]⟩,0⟩),("zz_turned.go:26",⟨1,9,⟨#[82,57]⟩,0⟩),("zz_turned.go:27",⟨1,10,⟨#[82,49,48]⟩,0⟩),("zz_turned.go:28",⟨1,11,⟨#[82,49,49]⟩,0⟩),("zz_turned.go:29",⟨1,12,⟨#[82,49,50]⟩,0⟩),("zz_turned.go:30",⟨1,13,⟨#[82,49,51]⟩,0⟩),("zz_turned.go:31",⟨1,14,⟨#[82,49,52]⟩,0⟩),("zz_turned.go:32",⟨1,15,⟨#[82,49,53]⟩,0⟩),("zz_turned.go:33",⟨3,0,⟨#[65,88]⟩,0⟩),("zz_turned.go:34",⟨3,1,⟨#[67,88]⟩,0⟩),("zz_turned.go:35",⟨3,2,⟨#[68,88]⟩,0⟩),("zz_turned.go:36",⟨3,3,⟨#[66,88]⟩,0⟩),("zz_turned.go:37",⟨3,4,⟨#[83,80]⟩,2⟩),("zz_turned.go:38",⟨3,5,⟨#[66,80]⟩,4⟩),("zz_turned.go:39",⟨3,6,⟨#[83,73]⟩,0⟩),("zz_turned.go:40",⟨3,7,⟨#[68,73]⟩,0⟩),("zz_turned.go:41",⟨3,8,⟨#[82,56]⟩,0⟩),("zz_turned.go:42",⟨3,9,⟨#[82,57]⟩,0⟩),("zz_turned.go:43",⟨3,10,⟨#[82,49,48]⟩,0⟩),("zz_turned.go:44",⟨3,11,⟨#[82,49,49]⟩,0⟩),("zz_turned.go:45",⟨3,12,⟨#[82,49,50]⟩,0⟩),("zz_turned.go:46",⟨3,13,⟨#[82,49,51]⟩,0⟩),("zz_turned.go:47",⟨3,14,⟨#[82,49,52]⟩,0⟩),("zz_turned.go:48",⟨3,15,⟨#[82,49,53]⟩,0⟩),("zz_turned.go:49",⟨7,0,⟨#[65,88]⟩,0⟩),("zz_turned.go:50",⟨7,1,⟨#[67,88]⟩,0⟩),("zz_turned.go:51",⟨7,2,⟨#[68,88]⟩,0⟩),("zz_turned.go:52",⟨7,3,⟨#[66,88]⟩,0⟩),("zz_turned.go:53",⟨7,4,⟨#[83,80]⟩,2⟩),("zz_turned.go:54",⟨7,5,⟨#[66,80]⟩,4⟩),("zz_turned.go:55",⟨7,6,⟨#[83,73]⟩,0⟩),("zz_turned.go:56",⟨7,7,⟨#[68,73]⟩,0⟩),("zz_turned.go:57",⟨7,8,⟨#[82,56]⟩,0⟩),("zz_turned.go:58",⟨7,9,⟨#[82,57]⟩,0⟩),("zz_turned.go:59",⟨7,10,⟨#[82,49,48]⟩,0⟩),("zz_turned.go:60",⟨7,11,⟨#[82,49,49]⟩,0⟩),("zz_turned.go:61",⟨7,12,⟨#[82,49,50]⟩,0⟩),("zz_turned.go:62",⟨7,13,⟨#[82,49,51]⟩,0⟩),("zz_turned.go:63",⟨7,14,⟨#[82,49,52]⟩,0⟩),("zz_turned.go:64",⟨7,15,⟨#[82,49,53]⟩,0⟩),("zz_turned.go:65",⟨15,0,⟨#[65,88]⟩,0⟩),("zz_turned.go:66",⟨15,1,⟨#[67,88]⟩,0⟩),("zz_turned.go:67",⟨15,2,⟨#[68,88]⟩,0⟩),("zz_turned.go:68",⟨15,3,⟨#[66,88]⟩,0⟩),("zz_turned.go:69",⟨15,4,⟨#[83,80]⟩,2⟩),("zz_turned.go:70",⟨15,5,⟨#[66,80]⟩,4⟩),("zz_turned.go:71",⟨15,6,⟨#[83,73]⟩,0⟩),("zz_turned.go:72",⟨15,7,⟨#[68,73]⟩,0⟩),("zz_turned.go:73",⟨15,8,⟨#[82,56]⟩,0⟩),("zz_turned.go:74",⟨15,9,⟨#[82,57]⟩,0⟩),("zz_turned.go:75",⟨15,10,⟨#[82,49,48]⟩,0⟩),("zz_turned.go:76",⟨15,11,⟨#[82,49,49]⟩,0⟩),("zz_turned.go:77",⟨15,12,⟨#[82,49,50]⟩,0⟩),("zz_turned.go:78",⟨15,13,⟨#[82,49,51]⟩,0⟩),("zz_turned.go:79",⟨15,14,⟨#[82,49,52]⟩,0⟩),("zz_turned.go:80",⟨15,15,⟨#[82,49,53]⟩,0⟩)]
def tab2:List (String × Ent):=[("zz_turned.go:82",⟨31,0,⟨#[88,48]⟩,0⟩),("zz_turned.go:83",⟨31,1,⟨#[88,49]⟩,0⟩),("zz_turned.go:84",⟨31,2,⟨#[88,50]⟩,0⟩),("zz_turned.go:85",⟨31,3,⟨#[88,51]⟩,0⟩),("zz_turned.go:86",⟨31,4,⟨#[88,52]⟩,0⟩),("zz_turned.go:87",⟨31,5,⟨#[88,53]⟩,0⟩),("zz_turned.go:88",⟨31,6,⟨#[88,54]⟩,0⟩),("zz_turned.go:89",⟨31,7,⟨#[88,55]⟩,0⟩),("zz_turned.go:90",⟨31,8,⟨#[88,56]⟩,0⟩),("zz_turned.go:91",⟨31,9,⟨#[88,57]⟩,0⟩),("zz_turned.go:92",⟨31,10,⟨#[88,49,48]⟩,0⟩),("zz_turned.go:93",⟨31,11,⟨#[88,49,49]⟩,0⟩),("zz_turned.go:94",⟨31,12,⟨#[88,49,50]⟩,0⟩),("zz_turned.go:95",⟨31,13,⟨#[88,49,51]⟩,0⟩),("zz_turned.go:96",⟨31,14,⟨#[88,49,52]⟩,0⟩),("zz_turned.go:97",⟨31,15,⟨#[88,49,53]⟩,0⟩),("zz_turned.go:98",⟨31,16,⟨#[88,49,54]⟩,0⟩),("zz_turned.go:99",⟨31,17,⟨#[88,49,55]⟩,0⟩),("zz_turned.go:100",⟨31,18,⟨#[88,49,56]⟩,0⟩),("zz_turned.go:101",⟨31,19,⟨#[88,49,57]⟩,0⟩),("zz_turned.go:102",⟨31,20,⟨#[88,50,48]⟩,0⟩),("zz_turned.go:103",⟨31,21,⟨#[88,50,49]⟩,0⟩),("zz_turned.go:104",⟨31,22,⟨#[88,50,50]⟩,0⟩),("zz_turned.go:105",⟨31,23,⟨#[88,50,51]⟩,0⟩),("zz_turned.go:106",⟨31,24,⟨#[88,50,52]⟩,0⟩),("zz_turned.go:107",⟨31,25,⟨#[88,50,53]⟩,0⟩),("zz_turned.go:108",⟨31,26,⟨#[88,50,54]⟩,0⟩),("zz_turned.go:109",⟨31,27,⟨#[88,50,55]⟩,0⟩),("zz_turned.go:110",⟨31,28,⟨#[88,50,56]⟩,0⟩),("zz_turned.go:111",⟨31,29,⟨#[88,50,57]⟩,0⟩),("zz_turned.go:112",⟨31,30,⟨#[88,51,48]⟩,0⟩),("zz_turned.go:113",⟨31,31,⟨#[88,51,49]⟩,0⟩),("zz_turned.go:114",⟨63,0,⟨#[89,48]⟩,0⟩),("zz_turned.go:115",⟨63,1,⟨#[89,49]⟩,0⟩),("zz_turned.go:116",⟨63,2,⟨#[89,50]⟩,0⟩),("zz_turned.go:117",⟨63,3,⟨#[89,51]⟩,0⟩),("zz_turned.go:118",⟨63,4,⟨#[89,52]⟩,0⟩),("zz_turned.go:119",⟨63,5,⟨#[89,53]⟩,0⟩),("zz_turned.go:120",⟨63,6,⟨#[89,54]⟩,0⟩),("zz_turned.go:121",⟨63,7,⟨#[89,55]⟩,0⟩),("zz_turned.go:122",⟨63,8,⟨#[89,56]⟩,0⟩),("zz_turned.go:123",⟨63,9,⟨#[89,57]⟩,0⟩),("zz_turned.go:124",⟨63,10,⟨#[89,49,48]⟩,0⟩),("zz_turned.go:125",⟨63,11,⟨#[89,49,49]⟩,0⟩),("zz_turned.go:126",⟨63,12,⟨#[89,49,50]⟩,0⟩),("zz_turned.go:127",⟨63,13,⟨#[89,49,51]⟩,0⟩),("zz_turned.go:128",⟨63,14,⟨#[89,49,52]⟩,0⟩),("zz_turned.go:129",⟨63,15,⟨#[89,49,53]⟩,0⟩),("zz_turned.go:130",⟨63,16,⟨#[89,49,54]⟩,0⟩),("zz_turned.go:131",⟨63,17,⟨#[89,49,55]⟩,0⟩),("zz_turned.go:132",⟨63,18,⟨#[89,49,56]⟩,0⟩),("zz_turned.go:133",⟨63,19,⟨#[89,49,57]⟩,0⟩),("zz_turned.go:134",⟨63,20,⟨#[89,50,48]⟩,0⟩),("zz_turned.go:135",⟨63,21,⟨#[89,50,49]⟩,0⟩),("zz_turned.go:136",⟨63,22,⟨#[89,50,50]⟩,0⟩),("zz_turned.go:137",⟨63,23,⟨#[89,50,51]⟩,0⟩),("zz_turned.go:138",⟨63,24,⟨#[89,50,52]⟩,0⟩),("zz_turned.go:139",⟨63,25,⟨#[89,50,53]⟩,0⟩),("zz_turned.go:140",⟨63,26,⟨#[89,50,54]⟩,0⟩),("zz_turned.go:141",⟨63,27,⟨#[89,50,55]⟩,0⟩),("zz_turned.go:142",⟨63,28,⟨#[89,50,56]⟩,0⟩),("zz_turned.go:143",⟨63,29,⟨#[89,50,57]⟩,0⟩),("zz_turned.go:144",⟨63,30,⟨#[89,51,48]⟩,0⟩),("zz_turned.go:145",⟨63,31,⟨#[89,51,49]⟩,0⟩),("zz_turned.go:146",⟨127,0,⟨#[90,48]⟩,0⟩),("zz_turned.go:147",⟨127,1,⟨#[90,49]⟩,0⟩),("zz_turned.go:148",⟨127,2,⟨#[90,50]⟩,0⟩),("zz_turned.go:149",⟨127,3,⟨#[90,51]⟩,0⟩),("zz_turned.go:150",⟨127,4,⟨#[90,52]⟩,0⟩),("zz_turned.go:151",⟨127,5,⟨#[90,53]⟩,0⟩),("zz_turned.go:152",⟨127,6,⟨#[90,54]⟩,0⟩),("zz_turned.go:153",⟨127,7,⟨#[90,55]⟩,0⟩),("zz_turned.go:154",⟨127,8,⟨#[90,56]⟩,0⟩),("zz_turned.go:155",⟨127,9,⟨#[90,57]⟩,0⟩),("zz_turned.go:156",⟨127,10,⟨#[90,49,48]⟩,0⟩),("zz_turned.go:157",⟨127,11,⟨#[90,49,49]⟩,0⟩),("zz_turned.go:158",⟨127,12,⟨#[90,49,50]⟩,0⟩),("zz_turned.go:159",⟨127,13,⟨#[90,49,51]⟩,0⟩),("zz_turned.go:160",⟨127,14,⟨#[90,49,52]⟩,0⟩),("zz_turned.go:161",⟨127,15,⟨#[90,49,53]⟩,0⟩),("zz_turned.go:162",⟨127,16,⟨#[90,49,54]⟩,0⟩),("zz_turned.go:163",⟨127,17,⟨#[90,49,55]⟩,0⟩),("zz_turned.go:164",⟨127,18,⟨#[90,49,56]⟩,0⟩),("zz_turned.go:165",⟨127,19,⟨#[90,49,57]⟩,0⟩),("zz_turned.go:166",⟨127,20,⟨#[90,50,48]⟩,0⟩),("zz_turned.go:167",⟨127,21,⟨#[90,50,49]⟩,0⟩),("zz_turned.go:168",⟨127,22,⟨#[90,50,50]⟩,0⟩),("zz_turned.go:169",⟨127,23,⟨#[90,50,51]⟩,0⟩),("zz_turned.go:170",⟨127,24,⟨#[90,50,52]⟩,0⟩),("zz_turned.go:171",⟨127,25,⟨#[90,50,53]⟩,0⟩),("zz_turned.go:172",⟨127,26,⟨#[90,50,54]⟩,0⟩),("zz_turned.go:173",⟨127,27,⟨#[90,50,55]⟩,0⟩),("zz_turned.go:174",⟨127,28,⟨#[90,50,56]⟩,0⟩),("zz_turned.go:175",⟨127,29,⟨#[90,50,57]⟩,0⟩),("zz_turned.go:176",⟨127,30,⟨#[90,51,48]⟩,0⟩),("zz_turned.go:177",⟨127,31,⟨#[90,51,49]⟩,0⟩)]
def tab3:List (String × Ent):=[("zz_turned.go:179",⟨15,0,⟨#[75,48]⟩,2⟩),("zz_turned.go:180",⟨15,1,⟨#[75,49]⟩,0⟩),("zz_turned.go:181",⟨15,2,⟨#[75,50]⟩,0⟩),("zz_turned.go:182",⟨15,3,⟨#[75,51]⟩,0⟩),("zz_turned.go:183",⟨15,4,⟨#[75,52]⟩,0⟩),("zz_turned.go:184",⟨15,5,⟨#[75,53]⟩,0⟩),("zz_turned.go:185",⟨15,6,⟨#[75,54]⟩,0⟩),("zz_turned.go:186",⟨15,7,⟨#[75,55]⟩,0⟩)]
theorem opsOf_wp {ops:Array Oper} {a:Act} {Q:Exit→Act→World→Prop} {w:World} {s:Nat} {fb k:Nat} {x7:Value} {v:Value} {base n:Nat} {xs:List Value} (p:String) (e:Ent) (hk:k=1∨k=2∨k=3) (he:e.info < 256)
  (hs:7 < s) (hs2:s+7≤1066) (hfr:FrameOk fb x7 a) (hfb:FamAt w fb k v) (hown:w.ownsRow base 147 1 v n xs) (hn:n≤1000) (hb:fb < base) (hbs:base≤w.heap.size)
  (h:∀ a' w' v',FrameOk fb x7 a'→FamAt w' fb k v'→w'.ownsRow base 147 1 v' (n+1) (xs ++ [(e.r fb k).val])→Fr (fun b=>fb≤b) w w'→Q .normal a' w'):
  wpList Tryz.prog ops Q (opsOf k s p e) a w:=by
 unfold opsOf
 split
 ·rename_i h0
  refine step_head hs (by omega) hfr rfl rfl rfl rfl rfl rfl fun a' f1 e0 e1=>?_
  exact step_tail e [] none 0 (.const (.slice none 0 0)) hk (by rw [h0];rfl) hs (by omega) (by omega) f1 hfb hown hn hb hbs e0 e1 rfl (Sl.nil w) (by simp) (by simp) rfl rfl rfl rfl rfl rfl rfl rfl rfl rfl rfl rfl fun a' w' v' h1 h2 h3 h4=>h a' w' v' h1 h2 h3 h4
 ·rename_i h0
  refine step_head hs (by omega) hfr rfl rfl rfl rfl rfl rfl fun a' f1 e0 e1=>?_
  refine L_flag (d:=s+2) rfl rfl rfl ?_
  have hf:Fr nope w (w.alloc (.cells #[.int .u8 (e.info:Int)] 173)):=(Fr.refl _ _).alloc _
  have hsz:a'.tmps.size=1066:=f1.size
  refine step_tail e [e.info] (some ⟨w.heap.size,0,none⟩) 1 (.tmp (s+2)) hk ?_ hs (by omega) (by omega) (f1.put _ (by omega) (by omega) (by omega)) (hf.heap hfb (fun x=>x)) (own_fr hown hf (fun _ _ x=>x)) hn hb (Nat.le_trans hbs hf.size) ?_ ?_ ?_ (Sl_one w _ _) (by simpa using he) (by simp) rfl rfl rfl rfl rfl rfl rfl rfl rfl rfl rfl rfl fun a' w' v' h1 h2 h3 h4=>h a' w' v' h1 h2 h3 (hf.of_nope.then h4)
  ·simp [orF]
  ·rw [put_eval _ _ _ _ (by rw [hsz];omega),if_neg (by omega)];exact e0
  ·rw [put_eval _ _ _ _ (by rw [hsz];omega),if_neg (by omega)];exact e1
  ·rw [put_eval _ _ _ _ (by rw [hsz];omega),if_pos rfl];rfl
def slots:List (String × Ent)→Nat
 | []=>0
 | (_,e) :: l=>width e+slots l
def regsF (fb k:Nat) (l:List (String × Ent)):List R:=l.map fun x=>x.2.r fb k
theorem codeOf_wp {fb k:Nat} {x7:Value} {base:Nat} (hk:k=1∨k=2∨k=3) (hb:fb < base):∀ (l:List (String × Ent)) (id s:Nat) (a:Act) (w:World) (v:Value) (n:Nat) (xs:List Value) (Q:Exit→Act→World→Prop),l≠[]→(∀ x∈l,x.2.info < 256) →
  7 < s→s+slots l+1≤1066→FrameOk fb x7 a→FamAt w fb k v→w.ownsRow base 147 1 v n xs→n+l.length≤1000→base≤w.heap.size →
  (∀ a' w' v',FrameOk fb x7 a'→FamAt w' fb k v'→w'.ownsRow base 147 1 v' (n+l.length) (xs ++ (regsF fb k l).map R.val)→Fr (fun b=>fb≤b) w w'→Q .normal a' w') →
  (codeOf k l id s).wp Tryz.prog Q a w:=by
 intro l
 induction l with
 | nil=>intro _ _ _ _ _ _ _ _ h;exact absurd rfl h
 | cons x l ih=>
  obtain ⟨p,e⟩:=x
  intro id s a w v n xs Q _ he hs hs2 hfr hfb hown hn hbs h
  have hwid:width e=6∨width e=7:=by unfold width;split<;>simp
  have hs3:s+width e+slots l+1≤1066:=by simp only [slots] at hs2;omega
  have hn2:n+(l.length+1)≤1000:=hn
  cases l with
  | nil=>
   refine wp_region_lit (opsOf_wp p e hk (he (p,e) (by simp)) hs (by simp only [slots] at hs3;omega) hfr hfb hown (by omega) hb hbs fun a' w' v' h1 h2 h3 h4=>?_)
   exact h a' w' v' h1 h2 (by simpa [regsF] using h3) h4
  | cons y l=>
   refine wp_seq (wp_region_lit (opsOf_wp p e hk (he (p,e) (by simp)) hs (by simp only [slots] at hs3;have:6≤width y.2:=by { unfold width;split<;>simp };omega) hfr hfb hown (by omega) hb hbs fun a' w' v' h1 h2 h3 h4=>?_))
   show (codeOf k (y :: l) (id+1) (s+width e)).wp _ _ _ _
   refine ih (id+1) (s+width e) a' w' v' (n+1) _ Q (by simp) (fun x hx=>he x (by simp [hx])) (by omega) (by omega) h1 h2 h3 (by simp only [List.length_cons] at hn2 ⊢;omega) (Nat.le_trans hbs h4.size) fun a2 w2 v2 g1 g2 g3 g4=>?_
   refine h a2 w2 v2 g1 g2 ?_ (h4.then g4)
   have e1:n+1+(y :: l).length=n+((p,e) :: y :: l).length:=by simp only [List.length_cons];omega
   rw [e1] at g3
   simpa [regsF] using g3
end
section
open Go Go.RowKit Bth
set_option maxRecDepth 100000
def opD (s:Nat) (p:String) (e:Ent):Oper:={ dst:=some (s+1),op:=.call { callee:=.value (.func 108),args:=#[.tmp s,.const (.int .u16 (e.spec:Int)),.const (.int .u16 (e.idx:Int)),.const (.string e.name),.const (.slice none 0 0)],argTypes:=#[111,214,215,9,263] },type:=147,pos:=p,after:=#[{ on:=0,ground:=.data }],guard:=none }
def codeD:List (String × Ent)→Nat→Nat→Code
 | [],_,_=>.skip
 | [(p,e)],id,s=>.region id [opM s p,opD s p e].toArray false
 | (p,e) :: l,id,s=>.seq (.region id [opM s p,opD s p e].toArray false) (codeD l (id+1) (s+2))
def opsT (k c:Nat) (p:String):List Oper:=
 [{ dst:=some (c+1),op:=.binOp .eql 164 (.tmp 7) (.const (.int .u8 (k:Int))) 164,type:=4,pos:=p,after:=#[],guard:=none },
  { dst:=some c,op:=.assign (.tmp (c+1)),type:=4,pos:=p,after:=#[{ on:=0,ground:=.data }],guard:=none }]
def codeT (id k c:Nat) (p:String) (x y:Code):Code:=.seq (.region id (opsT k c p).toArray false) (.cond (.tmp c) x y)
def famCases:Code:=
 codeT 4 0 8 "zz_turned.go:7" (codeD tab0 5 10) (codeT 9 1 18 "zz_turned.go:12" (codeOf 1 tab1 10 20) (codeT 78 2 436 "zz_turned.go:81" (codeOf 2 tab2 79 438) (codeT 175 3 1014 "zz_turned.go:178" (codeOf 3 tab3 176 1016)
  (.seq (.region 3 #[{ dst:=some 2,op:=.assign (.const (.pointer none)),type:=111,pos := "zz_turned.go:188",after:=#[],guard:=none }] false) .ret))))
def famBody:Code:=
 .seq (.region 0 #[{ dst:=some 2,op:=.assign (.const (.pointer none)),type:=111,pos := "zz_turned.go:4",after:=#[],guard:=none }] false)
  (.seq (.region 1 #[{ dst:=some 4,op:=.move (.tmp 0),type:=164,pos := "zz_turned.go:5",after:=#[],guard:=none },
    { dst:=some 5,op:=.build 212 #[(0,.tmp 4)],type:=212,pos := "zz_turned.go:5",after:=#[{ on:=0,ground:=.data }],guard:=none },
    { dst:=some 6,op:=.box 212 (.tmp 5),type:=111,pos := "zz_turned.go:5",after:=#[{ on:=1,ground:=.data }],guard:=none },
    { dst:=some 3,op:=.assign (.tmp 6),type:=111,pos := "zz_turned.go:5",after:=#[{ on:=2,ground:=.data },{ on:=0,ground:=.phase },{ on:=1,ground:=.phase },{ on:=2,ground:=.phase }],guard:=none }] false)
  (.seq (.seq (.region 2 #[{ dst:=some 7,op:=.move (.tmp 0),type:=164,pos := "zz_turned.go:6",after:=#[],guard:=none }] false) (.block 0 famCases))
   (.seq (.region 184 #[{ dst:=some 1065,op:=.move (.tmp 3),type:=111,pos := "zz_turned.go:190",after:=#[],guard:=none },
    { dst:=some 2,op:=.assign (.tmp 1065),type:=111,pos := "zz_turned.go:190",after:=#[{ on:=0,ground:=.data },{ on:=0,ground:=.phase }],guard:=none }] false) .ret)))
theorem famBody_eq:Tryz.f81.body=some famBody:=by kernel_rfl
end
end Go.Proofs.YtpbeedabmjmdmaaGreatDoor
