/- Part of the proof of a statement about pub-berthage: what its texts have in common. -/
import Derived.Deep.RegionHeld3
import Derived.Test.YtjlfkgjmgghhiaaGreatP17
namespace Go.Proofs.YtjlfkgjmgghhiaaGreat
section
open Go Go.RowKit Bth
set_option maxRecDepth 100000
def findReg (id:Nat):Code→Array Oper
 | .region i ops _=>if Nat.beq i id then ops else #[]
 | .seq a b=>findReg id a ++ findReg id b
 | .cond _ a b=>findReg id a ++ findReg id b
 | .block _ a=>findReg id a
 | .loop a=>findReg id a
 | .scope a=>findReg id a
 | _=>#[]
def opAt (r:Array Oper) (i:Nat):Oper:=(r[i]?).getD { dst:=none,op:=.move (.tmp 0),type:=0,pos := "",after:=#[],guard:=none }
theorem opAt_get {r:Array Oper} {n i:Nat} (e:r.size=n) (h:Nat.blt i n=true):r[i]? = some (opAt r i):=by
 have hi:i < r.size:=by rw [e];simpa [Nat.blt_eq] using h
 unfold opAt
 rw [Array.getElem?_eq_getElem hi]
 rfl
theorem yielded_of {ops:Array Oper} {a:Act} {j d:Nat} {b:Bool} (h1:(ops[j]?).bind (·.dst)=some d) (hd:d < a.tmps.size) (h2:a.eval (.tmp d) = .bool b):yielded ops a.tmps j=some b:=by
 unfold yielded
 have h3:a.tmps[d]? = some (.bool b):=by
  have:a.tmps.getD d undef = .bool b:=h2
  rw [Array.getD_eq_getD_getElem?,Array.getElem?_eq_getElem hd] at this
  rw [Array.getElem?_eq_getElem hd]
  simpa using this
 rw [h1,Option.bind_some,h3]
theorem wp_callU {P:Program} {o:Oper} {a:Act} {w:World} {K:Act→World→Prop} {Q:Exit→Act→World→Prop} {f:FuncId} {fn:Func} {args:Array Operand} {ats:Array TypeId} (hop:o.op = .call { callee:=.value (.func f),args:=args,argTypes:=ats })
  (hf:P.funcs[f]? = some fn) (hn:(fn.name == "runtime.NumGoroutine")=false) (hb:fn.body.isNone=false)
  (hc:Calls P f (args.map a.eval) w fun
   | .returned y,w'=>K (a.put o.dst y) w'
   | _,_=>False):Oper.wp P o a w K Q:=by
 have hrun:(execOp a.eval o).run P w = .ok (.enter f (args.map a.eval)) w:=by
  unfold execOp
  rw [hop]
  simp [resolve,invoke,Act.eval,Deferred.ofValue,run_callFunc hf hn hb]
 show o.upon P a K Q ((execOp a.eval o).run P w)
 rw [hrun]
 refine hc.mono fun e w' h=>?_
 cases e with
 | returned y=>exact h
 | panicked chain=>exact h.elim
 | outgrown=>exact h.elim
def lkB:List (Nat × Value)→Nat→Option Value
 | [],_=>none
 | x :: l,t=>if Nat.beq x.1 t then some x.2 else lkB l t
structure Bun (a:Act) (n:Nat) (l:List (Nat × Value)):Prop where
 sz:a.tmps.size=n
 df:a.defers=[]
 at_:∀ t v,lkB l t=some v→a.eval (.tmp t)=v
theorem Bun.put {a:Act} {n:Nat} {l:List (Nat × Value)} (h:Bun a n l) {x:Option Nat} {d:Nat} (hx:x=some d) (hd:d < n) (v:Value):Bun (a.put x v) n ((d,v) :: l):=by
 subst hx
 refine ⟨by simpa [Act.put] using h.sz,h.df,fun t u hu=>?_⟩
 rw [put_eval _ _ _ _ (by rw [h.sz];exact hd)]
 unfold lkB at hu
 split at hu
 ·rename_i e
  have e:d=t:=Nat.eq_of_beq_eq_true e
  rw [if_pos e]
  exact Option.some.inj hu
 ·rename_i e
  have e:¬d=t:=fun h=>e (by rw [h];exact Nat.beq_refl t)
  rw [if_neg e]
  exact h.at_ t u hu
theorem Bun.skip {a:Act} {n:Nat} {l:List (Nat × Value)} (h:Bun a n l) {x:Option Nat} (hx:x=none) (v:Value):Bun (a.put x v) n l:=by
 subst hx;exact h
theorem Bun.nil {a:Act} {n:Nat} (h:a.tmps.size=n) (h':a.defers=[]):Bun a n []:=⟨h,h',fun _ _ h=>by simp [lkB] at h⟩
theorem Bun.cons {a:Act} {n:Nat} {l:List (Nat × Value)} (h:Bun a n l) (d:Nat) {v:Value} (e:a.eval (.tmp d)=v):Bun a n ((d,v) :: l):=⟨h.sz,h.df,fun t u hu=>by
 unfold lkB at hu
 split at hu
 ·rename_i e2
  rw [← Nat.eq_of_beq_eq_true e2,← Option.some.inj hu]
  exact e
 ·exact h.at_ t u hu⟩
def mayB (ops:Array Oper) (listed:Array Bool) (i d n:Nat):Bool:=Region.noSelect ops && Region.free .any ops listed i && (Region.ready .any ops listed).contains i && Nat.blt d n
def isB (ops:Array Oper) (i d:Nat) (op:Op):Prop:=(ops[i]?).map (fun o=>(o.op,o.dst,o.guard))=some (op,some d,none)
section
variable {P:Program} {ops:Array Oper} {Q:Exit→Act→World→Prop} {S:World→Prop} {fuel n:Nat} {listed:Array Bool} {a:Act} {w:World} {l:List (Nat × Value)}
theorem takeB (h:Bun a n l) (hS:S w) (hQ:∀ d v c a w,Q (.panic c) (a.put d v) w→Q (.panic c) a w) (i d:Nat) (op:Op) (v:Value) (ho:isB ops i d op) (hm:mayB ops listed i d n=true)
  (hx:∀ o:Oper,o.op=op→∀ w,S w→(execOp a.eval o).run P w = .ok (.value v) w)
  (next:∀ a',a'=a.put (some d) v→Bun a' n ((d,v) :: l)→wpAnyH P .any ops Q S fuel (listed.setIfInBounds i true) a' w):wpAnyH P .any ops Q S (fuel+1) listed a w:=by
 obtain ⟨o,hi,ho⟩:=Option.map_eq_some_iff.1 ho
 simp only [Prod.mk.injEq] at ho
 obtain ⟨h1,h2,h3⟩:=ho
 unfold mayB at hm
 simp only [Bool.and_eq_true] at hm
 obtain ⟨⟨⟨m1,m2⟩,m3⟩,m4⟩:=hm
 refine wpAnyH_take (v:=v) hi m1 m2 m3 (fun c a w=>hQ _ _ c a w) (Or.inl ⟨by unfold Region.wanted;rw [h3],hx o h1⟩) hS (next _ (by rw [h2]) (h.put h2 (by simpa [Nat.blt_eq] using m4) v))
theorem takeMv (h:Bun a n l) (hS:S w) (hQ:∀ d v c a w,Q (.panic c) (a.put d v) w→Q (.panic c) a w) (i d t:Nat) (v:Value) (ho:isB ops i d (.move (.tmp t))) (hm:mayB ops listed i d n=true) (ht:lkB l t=some v)
  (next:∀ a',a'=a.put (some d) v→Bun a' n ((d,v) :: l)→wpAnyH P .any ops Q S fuel (listed.setIfInBounds i true) a' w):wpAnyH P .any ops Q S (fuel+1) listed a w:=
 takeB h hS hQ i d _ v ho hm (fun o e w _=>by have:=h.at_ t v ht;simp [execOp,e,this]) next
theorem takeNil (h:Bun a n l) (hS:S w) (hQ:∀ d v c a w,Q (.panic c) (a.put d v) w→Q (.panic c) a w) (i d t:Nat) (p:Addr) (ho:isB ops i d (.nilCheck (.tmp t))) (hm:mayB ops listed i d n=true) (ht:lkB l t=some (.pointer (some p)))
  (next:∀ a',a'=a.put (some d) (.pointer (some p))→Bun a' n ((d,.pointer (some p)) :: l)→wpAnyH P .any ops Q S fuel (listed.setIfInBounds i true) a' w):wpAnyH P .any ops Q S (fuel+1) listed a w:=
 takeB h hS hQ i d _ _ ho hm (fun o e w _=>by have:=h.at_ t _ ht;simp [execOp,e,this]) next
theorem takeFld (h:Bun a n l) (hS:S w) (hQ:∀ d v c a w,Q (.panic c) (a.put d v) w→Q (.panic c) a w) (i d t:Nat) (T:TypeId) (f:Nat) (p q:Addr) (ho:isB ops i d (.fieldAddr T (.tmp t) f)) (hm:mayB ops listed i d n=true) (ht:lkB l t=some (.pointer (some p)))
  (hf:∀ w,(Go.Instr.fieldAt T (.pointer (some p)) f).run P w = .ok (.pointer (some q)) w)
  (next:∀ a',a'=a.put (some d) (.pointer (some q))→Bun a' n ((d,.pointer (some q)) :: l)→wpAnyH P .any ops Q S fuel (listed.setIfInBounds i true) a' w):wpAnyH P .any ops Q S (fuel+1) listed a w:=
 takeB h hS hQ i d _ _ ho hm (fun o e w _=>by have:=h.at_ t _ ht;have:=hf w;simp_all [execOp]) next
theorem takeLd (h:Bun a n l) (hS:S w) (hQ:∀ d v c a w,Q (.panic c) (a.put d v) w→Q (.panic c) a w) (i d t:Nat) (T:TypeId) (p:Addr) (v:Value) (ho:isB ops i d (.load T (.tmp t))) (hm:mayB ops listed i d n=true) (ht:lkB l t=some (.pointer (some p)))
  (hf:∀ w,S w→(Go.Instr.loadAt T (.pointer (some p))).run P w = .ok v w)
  (next:∀ a',a'=a.put (some d) v→Bun a' n ((d,v) :: l)→wpAnyH P .any ops Q S fuel (listed.setIfInBounds i true) a' w):wpAnyH P .any ops Q S (fuel+1) listed a w:=
 takeB h hS hQ i d _ _ ho hm (fun o e w hw=>by have:=h.at_ t _ ht;have:=hf w hw;simp_all [execOp]) next
theorem takeG (h:Bun a n l) (hS:S w) (hQ:∀ d v c a w,Q (.panic c) (a.put d v) w→Q (.panic c) a w) (i d t j e:Nat) (b0 b:Bool) (v:Value) (ho:(ops[i]?).map (fun o=>(o.op,o.dst,o.guard))=some (.move (.tmp t),some d,some (j,b0))∧(ops[j]?).bind (·.dst)=some e) (hm:mayB ops listed i d n=true) (he:Nat.blt e n=true)
  (hb:lkB l e=some (.bool b)) (ht:lkB l t=some v) (next:∀ a',a'=a.put (some d) (if b == b0 then v else undef)→Bun a' n ((d,if b == b0 then v else undef) :: l)→wpAnyH P .any ops Q S fuel (listed.setIfInBounds i true) a' w):wpAnyH P .any ops Q S (fuel+1) listed a w:=by
 obtain ⟨ho,hj⟩:=ho
 obtain ⟨o,hi,ho⟩:=Option.map_eq_some_iff.1 ho
 simp only [Prod.mk.injEq] at ho
 obtain ⟨h1,h2,h3⟩:=ho
 unfold mayB at hm
 simp only [Bool.and_eq_true] at hm
 obtain ⟨⟨⟨m1,m2⟩,m3⟩,m4⟩:=hm
 have hy:=yielded_of (ops:=ops) (a:=a) hj (by rw [h.sz];simpa [Nat.blt_eq] using he) (h.at_ e _ hb)
 refine wpAnyH_take (v:=if b == b0 then v else undef) hi m1 m2 m3 (fun c a w=>hQ _ _ c a w) ?_ hS (next _ (by rw [h2]) (h.put h2 (by simpa [Nat.blt_eq] using m4) _))
 have hw:Region.wanted o (yielded ops a.tmps)=(b == b0):=by unfold Region.wanted;rw [h3];simp [hy]
 cases hbb:b == b0 with
 | true=>exact Or.inl ⟨by rw [hw,hbb],fun w _=>by have:=h.at_ t v ht;simp [execOp,h1,this]⟩
 | false=>exact Or.inr ⟨by rw [hw,hbb],rfl⟩
theorem takeQ (h:Bun a n l) (hS:S w) (hQ:∀ d v c a w,Q (.panic c) (a.put d v) w→Q (.panic c) a w) (i d t:Nat) (T U:TypeId) (f:Nat) (p q:Addr) (v:Value)
  (ho:isB ops i d (.move (.tmp t))∧isB ops (i+1) (d+1) (.nilCheck (.tmp d))∧isB ops (i+2) (d+2) (.fieldAddr T (.tmp (d+1)) f)∧isB ops (i+3) (d+3) (.load U (.tmp (d+2))))
  (hm:(mayB ops listed i d n && mayB ops (listed.setIfInBounds i true) (i+1) (d+1) n && mayB ops ((listed.setIfInBounds i true).setIfInBounds (i+1) true) (i+2) (d+2) n && mayB ops (((listed.setIfInBounds i true).setIfInBounds (i+1) true).setIfInBounds (i+2) true) (i+3) (d+3) n)=true)
  (ht:lkB l t=some (.pointer (some p))) (hf:∀ w,(Go.Instr.fieldAt T (.pointer (some p)) f).run P w = .ok (.pointer (some q)) w) (hl:∀ w,S w→(Go.Instr.loadAt U (.pointer (some q))).run P w = .ok v w)
  (hk:l.all (fun x=>Nat.blt x.1 d)=true)
  (next:∀ a',a'=(((a.put (some d) (.pointer (some p))).put (some (d+1)) (.pointer (some p))).put (some (d+2)) (.pointer (some q))).put (some (d+3)) v→Bun a' n ((d+3,v) :: l)→wpAnyH P .any ops Q S fuel ((((listed.setIfInBounds i true).setIfInBounds (i+1) true).setIfInBounds (i+2) true).setIfInBounds (i+3) true) a' w):wpAnyH P .any ops Q S (fuel+1+1+1+1) listed a w:=by
 simp only [Bool.and_eq_true] at hm
 obtain ⟨⟨⟨m1,m2⟩,m3⟩,m4⟩:=hm
 refine takeMv h hS hQ i d t _ ho.1 m1 ht fun a1 e1 h1=>takeNil h1 hS hQ _ _ d p ho.2.1 m2 (by simp [lkB]) fun a2 e2 h2=>takeFld h2 hS hQ _ _ _ T f p q ho.2.2.1 m3 (by simp [lkB]) hf fun a3 e3 h3=>takeLd h3 hS hQ _ _ _ U q v ho.2.2.2 m4 (by simp [lkB]) hl fun a4 e4 h4=>next a4 (by rw [e4,e3,e2,e1]) ⟨h4.sz,h4.df,fun t u hu=>h4.at_ t u ?_⟩
 unfold lkB at hu ⊢
 split
 ·rename_i e;rw [if_pos e] at hu;exact hu
 ·rename_i e
  rw [if_neg e] at hu
  have hd:t < d:=by
   clear h h1 h2 h3 h4 ht next
   induction l with
   | nil=>simp [lkB] at hu
   | cons x l ih=>
    simp only [List.all_cons,Bool.and_eq_true] at hk
    unfold lkB at hu
    split at hu
    ·rename_i e2
     have:=Nat.eq_of_beq_eq_true e2
     have hk1:=hk.1;simp only [Nat.blt_eq] at hk1
     omega
    ·exact ih hk.2 hu
  have e:∀ x,d≤x→Nat.beq x t=false:=fun x hx=>by
   cases hb:Nat.beq x t with
   | false=>rfl
   | true=>have:=Nat.eq_of_beq_eq_true hb;omega
  simp only [lkB,e (d+2) (by omega),e (d+1) (by omega),e d (Nat.le_refl _)]
  exact hu
end
theorem insFld (b j:Nat) (hj:j < 14) (w:World):(Instr.fieldAt 174 (.pointer (some ⟨b,0,none⟩)) j).run Tryz.prog w = .ok (.pointer (some ⟨b,j,none⟩)) w:=by
 match j,hj with
 | 0,_=>go_simp
 | 1,_=>go_simp
 | 2,_=>go_simp
 | 3,_=>go_simp
 | 4,_=>go_simp
 | 5,_=>go_simp
 | 6,_=>go_simp
 | 7,_=>go_simp
 | 8,_=>go_simp
 | 9,_=>go_simp
 | 10,_=>go_simp
 | 11,_=>go_simp
 | 12,_=>go_simp
 | 13,_=>go_simp
end
section
open Go Go.RowKit Bth
set_option maxRecDepth 100000
noncomputable def reg20:Array Oper:=findReg 20 (Tryz.f50.body.getD .skip)
theorem reg20_get {i:Nat} (h:Nat.blt i 13=true):reg20[i]? = some (opAt reg20 i):=opAt_get (by kernel_rfl) h
def put20 (a:Act) (b1 b3 o i:Nat) (x ch:Bool):Act:=
 (((((((((((((a.put (some 76) (.pointer (some ⟨b1,0,none⟩))).put (some 77) (.pointer (some ⟨b1,0,none⟩))).put (some 78) (.pointer (some ⟨b1,13,none⟩))).put (some 79) (.map (some o))).put (some 80) (.pointer (some ⟨b3,0,none⟩))).put (some 81) (.pointer (some ⟨b3,0,none⟩))).put (some 82) (.pointer (some ⟨b3,12,none⟩))).put (some 83) (.map (some i))).put (some 84) (.bool x)).put (some 85) (.bool x)).put (some 86) (if x then undef else .bool ch)).put (some 87) (.bool (x || ch))).put (some 8) (.bool (x || ch)))
set_option maxHeartbeats 2000000 in
theorem region20 {a:Act} {w:World} {Q:Exit→Act→World→Prop} {b1 b3 o i:Nat} {x ch:Bool} {R:World→Prop} (hsz:a.tmps.size=111) (hdf:a.defers=[])
  (h10:a.eval (.tmp 10) = .pointer (some ⟨b1,0,none⟩)) (h12:a.eval (.tmp 12) = .pointer (some ⟨b3,0,none⟩)) (h8:a.eval (.tmp 8) = .bool ch) (hQ:∀ d v c a w,Q (.panic c) (a.put d v) w→Q (.panic c) a w)
  (hS:∀ w',(w'=w.drew∨R w')→w'.cell? ⟨b1,13,none⟩=some (.map (some o))∧w'.cell? ⟨b3,12,none⟩=some (.map (some i)))
  (hc:Calls Tryz.prog 90 #[.map (some o),.map (some i)] w.drew fun e w'=>e = .returned (.bool x)∧R w')
  (h:∀ w',R w'→Q .normal (put20 a b1 b3 o i x ch) w'):(Code.region 20 reg20 true).wp Tryz.prog Q a w:=by
 refine wp_region_held_drew (S:=fun w'=>w'.cell? ⟨b1,13,none⟩=some (.map (some o))∧w'.cell? ⟨b3,12,none⟩=some (.map (some i))) (by kernel_rfl) (hS _ (.inl rfl)) (fun hS0=>?_)
 rw [show reg20.size=13 from by kernel_rfl]
 have g0:Bun a 111 [(10,_),(12,_),(8,_)]:=(((Bun.nil hsz hdf).cons 8 h8).cons 12 h12).cons 10 h10
 refine takeQ g0 hS0 hQ 0 76 10 174 172 13 _ _ (.map (some o)) (by unfold isB;refine ⟨?_,?_,?_,?_⟩<;>kernel_rfl) (by kernel_rfl) rfl (insFld _ 13 (by decide)) (fun w hw=>by have hc:=hw.1;go_simp) rfl fun a0 e0 g0=>?_
 refine takeQ g0 hS0 hQ 4 80 12 174 172 12 _ _ (.map (some i)) (by unfold isB;refine ⟨?_,?_,?_,?_⟩<;>kernel_rfl) (by kernel_rfl) rfl (insFld _ 12 (by decide)) (fun w hw=>by have hc:=hw.2;go_simp) rfl fun a4 e4 g0=>?_
 refine wpAnyH_ready (rs:=[8]) (by kernel_rfl) (by simp) (AllReadyH.cons (o:=opAt reg20 8) (reg20_get rfl) (fun K hK=>?_) AllReadyH.nil)
 rw [if_pos (show Region.wanted (opAt reg20 8) _=true from rfl)]
 refine wp_callU (show (opAt reg20 8).op = .call { callee:=.value (.func 90),args:=#[.tmp 79,.tmp 83],argTypes:=#[172,172] } from by kernel_rfl) Tryz.func90 (by kernel_rfl) (by kernel_rfl) ?_
 simp only [List.map_toArray,List.map_cons,List.map_nil,g0.at_ 79 _ rfl,g0.at_ 83 _ rfl]
 refine (hc).mono ?_
 rintro e w5 ⟨rfl,hR5⟩
 refine hK.out _ _ (hS _ (.inr hR5)) (fun hS0=>?_)
 replace g0:=g0.put (x:=(opAt reg20 8).dst) (by kernel_rfl) (d:=84) (by decide) (.bool x)
 rw [show (opAt reg20 8).dst=some 84 from by kernel_rfl] at g0 ⊢
 refine takeMv g0 hS0 hQ 9 85 84 _ (by unfold isB;kernel_rfl) (by kernel_rfl) rfl fun a9 e9 g0=>?_
 refine takeG g0 hS0 hQ 10 86 8 9 85 false x (.bool ch) ⟨by kernel_rfl,by kernel_rfl⟩ (by kernel_rfl) (by kernel_rfl) rfl rfl fun a10 e10 g0=>?_
 refine takeB g0 hS0 hQ 11 87 _ (.bool (x || ch)) (show isB reg20 11 87 (.pick (.tmp 85) (.const (.bool true)) (.tmp 86)) from by unfold isB;kernel_rfl) (by kernel_rfl) (fun o e w hw=>by
  simp only [execOp,e,g0.at_ 85 _ rfl,g0.at_ 86 _ rfl]
  cases x<;>simp [asBool,Act.eval]) fun a11 e11 g0=>?_
 refine takeB g0 hS0 hQ 12 8 _ (.bool (x || ch)) (show isB reg20 12 8 (.assign (.tmp 87)) from by unfold isB;kernel_rfl) (by kernel_rfl) (fun o e w hw=>by
  simp [execOp,e,g0.at_ 87 _ rfl]) fun a12 e12 g0=>?_
 refine wpAnyH_done (by kernel_rfl) ?_ _
 subst e12 e11 e10 e9 e4 e0
 have h:=h _ hR5
 unfold put20 at h
 cases x<;>exact h
noncomputable def reg23:Array Oper:=findReg 23 (Tryz.f50.body.getD .skip)
theorem reg23_get {i:Nat} (h:Nat.blt i 15=true):reg23[i]? = some (opAt reg23 i):=opAt_get (by kernel_rfl) h
def put23 (a:Act) (b1 o i d n:Nat) (x ch:Bool):Act:=
 (((((((((((((((a.put (some 94) (.pointer (some ⟨b1,0,none⟩))).put (some 95) (.pointer (some ⟨b1,0,none⟩))).put (some 96) (.pointer (some ⟨b1,12,none⟩))).put (some 97) (.map (some o))).put (some 98) (.pointer (some ⟨b1,0,none⟩))).put (some 99) (.pointer (some ⟨b1,0,none⟩))).put (some 100) (.pointer (some ⟨b1,13,none⟩))).put (some 101) (.map (some i))).put (some 102) (.map (some d))).put (some 103) (.map (some n))).put (some 104) (.bool x)).put (some 105) (.bool x)).put (some 106) (if x then undef else .bool ch)).put (some 107) (.bool (x || ch))).put (some 8) (.bool (x || ch)))
set_option maxHeartbeats 2000000 in
theorem region23 {a:Act} {w:World} {Q:Exit→Act→World→Prop} {b1 o i d n:Nat} {x ch:Bool} {R1 R:World→Prop} (hsz:a.tmps.size=111) (hdf:a.defers=[])
  (h10:a.eval (.tmp 10) = .pointer (some ⟨b1,0,none⟩)) (h13:a.eval (.tmp 13) = .map (some d)) (h8:a.eval (.tmp 8) = .bool ch) (hQ:∀ d v c a w,Q (.panic c) (a.put d v) w→Q (.panic c) a w)
  (hS:∀ w',(w'=w.drew∨R1 w'∨R w')→w'.cell? ⟨b1,12,none⟩=some (.map (some o))∧w'.cell? ⟨b1,13,none⟩=some (.map (some i)))
  (hc:Calls Tryz.prog 92 #[.map (some i),.map (some d)] w.drew fun e w'=>e = .returned (.map (some n))∧R1 w')
  (hc2:∀ w1,R1 w1→Calls Tryz.prog 90 #[.map (some o),.map (some n)] w1 fun e w'=>e = .returned (.bool x)∧R w')
  (h:∀ w',R w'→Q .normal (put23 a b1 o i d n x ch) w'):(Code.region 23 reg23 true).wp Tryz.prog Q a w:=by
 refine wp_region_held_drew (S:=fun w'=>w'.cell? ⟨b1,12,none⟩=some (.map (some o))∧w'.cell? ⟨b1,13,none⟩=some (.map (some i))) (by kernel_rfl) (hS _ (.inl rfl)) (fun hS0=>?_)
 rw [show reg23.size=15 from by kernel_rfl]
 have g0:Bun a 111 [(10,_),(13,_),(8,_)]:=(((Bun.nil hsz hdf).cons 8 h8).cons 13 h13).cons 10 h10
 refine takeQ g0 hS0 hQ 0 94 10 174 172 12 _ _ (.map (some o)) (by unfold isB;refine ⟨?_,?_,?_,?_⟩<;>kernel_rfl) (by kernel_rfl) rfl (insFld _ 12 (by decide)) (fun w hw=>by have hc:=hw.1;go_simp) rfl fun a0 e0 g0=>?_
 refine takeQ g0 hS0 hQ 4 98 10 174 172 13 _ _ (.map (some i)) (by unfold isB;refine ⟨?_,?_,?_,?_⟩<;>kernel_rfl) (by kernel_rfl) rfl (insFld _ 13 (by decide)) (fun w hw=>by have hc:=hw.2;go_simp) rfl fun a4 e4 g0=>?_
 refine takeMv g0 hS0 hQ 8 102 13 _ (by unfold isB;kernel_rfl) (by kernel_rfl) rfl fun a8 e8 g0=>?_
 refine wpAnyH_ready (rs:=[9]) (by kernel_rfl) (by simp) (AllReadyH.cons (o:=opAt reg23 9) (reg23_get rfl) (fun K hK=>?_) AllReadyH.nil)
 rw [if_pos (show Region.wanted (opAt reg23 9) _=true from rfl)]
 refine wp_callU (show (opAt reg23 9).op = .call { callee:=.value (.func 92),args:=#[.tmp 101,.tmp 102],argTypes:=#[172,172] } from by kernel_rfl) Tryz.func92 (by kernel_rfl) (by kernel_rfl) ?_
 simp only [List.map_toArray,List.map_cons,List.map_nil,g0.at_ 101 _ rfl,g0.at_ 102 _ rfl]
 refine (hc).mono ?_
 rintro e w4 ⟨rfl,hR4⟩
 refine hK.out _ _ (hS _ (.inr (.inl hR4))) (fun hS0=>?_)
 replace g0:=g0.put (x:=(opAt reg23 9).dst) (by kernel_rfl) (d:=103) (by decide) (.map (some n))
 rw [show (opAt reg23 9).dst=some 103 from by kernel_rfl] at g0 ⊢
 refine wpAnyH_ready (rs:=[10]) (by kernel_rfl) (by simp) (AllReadyH.cons (o:=opAt reg23 10) (reg23_get rfl) (fun K hK=>?_) AllReadyH.nil)
 rw [if_pos (show Region.wanted (opAt reg23 10) _=true from rfl)]
 refine wp_callU (show (opAt reg23 10).op = .call { callee:=.value (.func 90),args:=#[.tmp 97,.tmp 103],argTypes:=#[172,172] } from by kernel_rfl) Tryz.func90 (by kernel_rfl) (by kernel_rfl) ?_
 simp only [List.map_toArray,List.map_cons,List.map_nil,g0.at_ 97 _ rfl,g0.at_ 103 _ rfl]
 refine (hc2 _ hR4).mono ?_
 rintro e w5 ⟨rfl,hR5⟩
 refine hK.out _ _ (hS _ (.inr (.inr hR5))) (fun hS0=>?_)
 replace g0:=g0.put (x:=(opAt reg23 10).dst) (by kernel_rfl) (d:=104) (by decide) (.bool x)
 rw [show (opAt reg23 10).dst=some 104 from by kernel_rfl] at g0 ⊢
 refine takeMv g0 hS0 hQ 11 105 104 _ (by unfold isB;kernel_rfl) (by kernel_rfl) rfl fun a11 e11 g0=>?_
 refine takeG g0 hS0 hQ 12 106 8 11 105 false x (.bool ch) ⟨by kernel_rfl,by kernel_rfl⟩ (by kernel_rfl) (by kernel_rfl) rfl rfl fun a12 e12 g0=>?_
 refine takeB g0 hS0 hQ 13 107 _ (.bool (x || ch)) (show isB reg23 13 107 (.pick (.tmp 105) (.const (.bool true)) (.tmp 106)) from by unfold isB;kernel_rfl) (by kernel_rfl) (fun o e w hw=>by
  simp only [execOp,e,g0.at_ 105 _ rfl,g0.at_ 106 _ rfl]
  cases x<;>simp [asBool,Act.eval]) fun a13 e13 g0=>?_
 refine takeB g0 hS0 hQ 14 8 _ (.bool (x || ch)) (show isB reg23 14 8 (.assign (.tmp 107)) from by unfold isB;kernel_rfl) (by kernel_rfl) (fun o e w hw=>by
  simp [execOp,e,g0.at_ 107 _ rfl]) fun a14 e14 g0=>?_
 refine wpAnyH_done (by kernel_rfl) ?_ _
 subst e14 e13 e12 e11 e8 e4 e0
 have h:=h _ hR5
 unfold put23 at h
 cases x<;>exact h
end
end Go.Proofs.YtjlfkgjmgghhiaaGreat
