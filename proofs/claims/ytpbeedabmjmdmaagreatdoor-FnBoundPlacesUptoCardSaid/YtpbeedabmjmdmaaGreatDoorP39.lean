/- Part of the proof of a statement about pub-berthage: what its texts have in common. -/
import Derived.LaidEqlPtr
import Derived.BigQuiet
import Derived.Test.YtpbeedabmjmdmaaGreatDoorP13
import Derived.Test.YtpbeedabmjmdmaaGreatDoorP14
import Derived.Test.YtpbeedabmjmdmaaGreatDoorP31
import Derived.Test.YtpbeedabmjmdmaaGreatDoorP32
import Derived.Test.YtpbeedabmjmdmaaGreatDoorP33
import Derived.Test.YtpbeedabmjmdmaaGreatDoorP34
import Derived.Test.YtpbeedabmjmdmaaGreatDoorP36
import Derived.Test.YtpbeedabmjmdmaaGreatDoorP38
namespace Go.Proofs.YtpbeedabmjmdmaaGreatDoor
section
open Go Go.RowKit Bth
set_option maxRecDepth 100000
section
variable {P:Program} {ops:Array Oper} {Q:Exit→Act→World→Prop} {S:World→Prop} {T:List Nat}
def noneT (T:List Nat) (listed:Array Bool):Prop:=∀ t∈T,listed.getD t true=false
def wpAnyT (P:Program) (ops:Array Oper) (Q:Exit→Act→World→Prop) (S:World→Prop) (T:List Nat):Nat→Array Bool→Act→World→Prop
 | 0,listed,a,w=>Region.ready .any ops listed=[]∧Q .normal a w
 | fuel+1,listed,a,w=>
  (Region.ready .any ops listed=[]→Q .normal a w) ∧
  ∀ i∈Region.ready .any ops listed,wpOp P ops Q i (fun a' w'=>(noneT T (listed.setIfInBounds i true)→S w')∧wpAnyT P ops Q S T fuel (listed.setIfInBounds i true) a' w') a w
theorem wpAny_ofT:∀ (fuel:Nat) (listed:Array Bool) (a:Act) (w:World),wpAnyT P ops Q S T fuel listed a w→wpAny P .any ops Q fuel listed a w
 | 0,_,_,_,h=>h
 | fuel+1,_,_,_,h=>⟨h.1,fun i hi=>wpOp_mono (fun a' w' h'=>wpAny_ofT fuel _ a' w' h'.2) (h.2 i hi)⟩
def waitsOn (ops:Array Oper) (m i:Nat):Bool:=match ops[m]? with
 | some o=>o.after.any fun e=>Region.binds .any e && e.on == i
 | none=>false
theorem waitsOn_spec {m i:Nat} (h:waitsOn ops m i=true):∃ o,ops[m]? = some o∧∃ e∈o.after,Region.binds .any e=true∧e.on=i:=by
 unfold waitsOn at h
 cases ho:ops[m]? with
 | none=>rw [ho] at h;cases h
 | some o=>
  rw [ho] at h
  obtain ⟨e,he,h2⟩:=Array.any_eq_true'.1 h
  simp only [Bool.and_eq_true,beq_iff_eq] at h2
  exact ⟨o,rfl,e,he,h2.1,h2.2⟩
def waitB (ops:Array Oper) (T:List Nat) (i:Nat):Bool:=T.all fun t=>t != i && (waitsOn ops t i || (List.range ops.size).any fun m=>waitsOn ops t m && waitsOn ops m i)
def unl (ops:Array Oper) (listed:Array Bool) (i:Nat):Bool:=(List.range ops.size).all fun m=>!(waitsOn ops m i) || !(listed.getD m true)
theorem wpAnyT_first {i:Nat} {oi:Oper} {v:Value} (hi:ops[i]? = some oi) (hsel:∀ (j:Nat) (o:Oper) cs b,ops[j]? = some o→o.op ≠ .select cs b) (hwt:waitB ops T i=true)
  (hQ:∀ c a w,Q (.panic c) (a.put oi.dst v) w→Q (.panic c) a w):
  ∀ (fuel:Nat) (listed:Array Bool) (a:Act) (w:World),
   (∀ j oj,ops[j]? = some oj→j≠i→listed.getD j true=false→(∀ e∈oj.after,Region.binds .any e=true→e.on≠i)→oi.apart ops oj=true) →
   i∈Region.ready .any ops listed→(∀ m,waitsOn ops m i=true→listed.getD m true=false)→noneT T listed→YieldsIf P ops S oi v a→S w →
   wpAnyT P ops Q S T fuel (listed.setIfInBounds i true) (a.put oi.dst v) w→wpAnyT P ops Q S T (fuel+1) listed a w:=by
 have hwait:∀ t∈T,t≠i∧(waitsOn ops t i=true∨∃ m,waitsOn ops t m=true∧waitsOn ops m i=true):=fun t ht=>by
  have:=List.all_eq_true.1 hwt t ht
  simp only [Bool.and_eq_true,bne_iff_ne,ne_eq,Bool.or_eq_true,List.any_eq_true] at this
  exact ⟨this.1,this.2.imp id fun ⟨m,_,h⟩=>⟨m,h⟩⟩
 intro fuel
 induction fuel with
 | zero=>
  intro listed a w _ hr hu hn hy hS H
  refine ⟨fun h=>(by rw [h] at hr;cases hr),fun j hj=>?_⟩
  by_cases hji:j=i
  ·subst hji;exact hy.wpOp hi hS ⟨fun _=>hS,H⟩
  ·have:=ready_mono hj hji
   rw [H.1] at this
   cases this
 | succ fuel ih=>
  intro listed a w hfree hr hu hn hy hS H
  refine ⟨fun h=>(by rw [h] at hr;cases hr),fun j hj=>?_⟩
  by_cases hji:j=i
  ·subst hji;exact hy.wpOp hi hS ⟨fun _=>hS,H⟩
  ·have h1:=H.2 j (ready_mono hj hji)
   obtain ⟨hjun,oj,hoj,hall⟩:=mem_ready.1 hj
   have hnot:∀ e∈oj.after,Region.binds .any e=true→e.on≠i:=fun e he hb heq=>by
    have h1:=hall e he hb
    have h0:=(mem_ready.1 hr).1
    rw [heq] at h1
    rcases Nat.lt_or_ge i listed.size with h' | h'
    ·simp [h'] at h0 h1;rw [h0] at h1;cases h1
    ·simp [Array.getElem?_eq_none h'] at h1
   have hjw:∀ m,waitsOn ops m i=true→m≠j:=fun m hm e=>by
    subst e
    obtain ⟨o,ho,e,he,hb,hon⟩:=waitsOn_spec hm
    rw [hoj] at ho
    injection ho with ho
    subst ho
    exact hnot e he hb hon
   have hjT:j∉T:=fun hm=>by
    obtain ⟨_,h | ⟨m,h1,h2⟩⟩:=hwait j hm
    ·exact hjw j h rfl
    ·obtain ⟨o,ho,e,he,hb,hon⟩:=waitsOn_spec h1
     rw [hoj] at ho
     injection ho with ho
     subst ho
     have h3:=hall e he hb
     have h4:=hu m h2
     rw [hon] at h3
     rcases Nat.lt_or_ge m listed.size with h' | h'
     ·simp [h'] at h3 h4;rw [h4] at h3;cases h3
     ·simp [Array.getElem?_eq_none h'] at h3
   have hu':∀ m,waitsOn ops m i=true→(listed.setIfInBounds j true).getD m true=false:=fun m hm=>by
    rw [getD_set_ne true (fun e=>hjw m hm e.symm)]
    exact hu m hm
   have hn':noneT T (listed.setIfInBounds j true):=fun t ht=>by
    rw [getD_set_ne true (fun e=>hjT (by rw [e];exact ht))]
    exact hn t ht
   have hni:noneT T ((listed.setIfInBounds i true).setIfInBounds j true):=fun t ht=>by
    rw [getD_set_ne true (fun e=>hjT (by rw [e];exact ht)),getD_set_ne true (Ne.symm (hwait t ht).1)]
    exact hn t ht
   have h2:=wpOp_putIf hoj (hfree j oj hoj hji hjun hnot) (fun cs b=>hsel i oi cs b hi) (fun cs b=>hsel j oj cs b hoj) hQ hy h1
   have hfree':∀ k ok,ops[k]? = some ok→k≠i→(listed.setIfInBounds j true).getD k true=false →
     (∀ e∈ok.after,Region.binds .any e=true→e.on≠i)→oi.apart ops ok=true:=fun k ok hk hki hun hno=>by
    refine hfree k ok hk hki ?_ hno
    by_cases hjk:j=k
    ·subst hjk;exact hjun
    ·rw [getD_set_ne true hjk] at hun;exact hun
   refine wpOp_mono (fun a' w' h3=>⟨fun _=>h3.2.1 hni,ih (listed.setIfInBounds j true) a' w' hfree' (ready_mono hr (Ne.symm hji)) hu' hn' h3.1 (h3.2.1 hni) ?_⟩) h2
   rw [Array.setIfInBounds_comm _ _ hji]
   exact h3.2.2
theorem wpAnyT_firstU {i:Nat} {oi:Oper} {v:Value} (hi:ops[i]? = some oi) (hsel:∀ (j:Nat) (o:Oper) cs b,ops[j]? = some o→o.op ≠ .select cs b) (hiT:i∉T)
  (hQ:∀ c a w,Q (.panic c) (a.put oi.dst v) w→Q (.panic c) a w):
  ∀ (fuel:Nat) (listed:Array Bool) (a:Act) (w:World),
   (∀ j oj,ops[j]? = some oj→j≠i→listed.getD j true=false→(∀ e∈oj.after,Region.binds .any e=true→e.on≠i)→oi.apart ops oj=true) →
   i∈Region.ready .any ops listed→YieldsIf P ops (fun _=>True) oi v a→(noneT T listed→S w) →
   wpAnyT P ops Q S T fuel (listed.setIfInBounds i true) (a.put oi.dst v) w→wpAnyT P ops Q S T (fuel+1) listed a w:=by
 have back:∀ {l:Array Bool},noneT T (l.setIfInBounds i true)→noneT T l:=fun h t ht=>by
  have:=h t ht
  rwa [getD_set_ne true (fun e=>hiT (by rw [e];exact ht))] at this
 have fwd:∀ {l:Array Bool},noneT T l→noneT T (l.setIfInBounds i true):=fun h t ht=>by
  rw [getD_set_ne true (fun e=>hiT (by rw [e];exact ht))]
  exact h t ht
 intro fuel
 induction fuel with
 | zero=>
  intro listed a w _ hr hy hS H
  refine ⟨fun h=>(by rw [h] at hr;cases hr),fun j hj=>?_⟩
  by_cases hji:j=i
  ·subst hji;exact hy.wpOp hi trivial ⟨fun h=>hS (back h),H⟩
  ·have:=ready_mono hj hji
   rw [H.1] at this
   cases this
 | succ fuel ih=>
  intro listed a w hfree hr hy hS H
  refine ⟨fun h=>(by rw [h] at hr;cases hr),fun j hj=>?_⟩
  by_cases hji:j=i
  ·subst hji;exact hy.wpOp hi trivial ⟨fun h=>hS (back h),H⟩
  ·have h1:=H.2 j (ready_mono hj hji)
   obtain ⟨hjun,oj,hoj,hall⟩:=mem_ready.1 hj
   have hnot:∀ e∈oj.after,Region.binds .any e=true→e.on≠i:=fun e he hb heq=>by
    have h1:=hall e he hb
    have h0:=(mem_ready.1 hr).1
    rw [heq] at h1
    rcases Nat.lt_or_ge i listed.size with h' | h'
    ·simp [h'] at h0 h1;rw [h0] at h1;cases h1
    ·simp [Array.getElem?_eq_none h'] at h1
   have h2:=wpOp_putIf hoj (hfree j oj hoj hji hjun hnot) (fun cs b=>hsel i oi cs b hi) (fun cs b=>hsel j oj cs b hoj) hQ hy h1
   have hfree':∀ k ok,ops[k]? = some ok→k≠i→(listed.setIfInBounds j true).getD k true=false →
     (∀ e∈ok.after,Region.binds .any e=true→e.on≠i)→oi.apart ops ok=true:=fun k ok hk hki hun hno=>by
    refine hfree k ok hk hki ?_ hno
    by_cases hjk:j=k
    ·subst hjk;exact hjun
    ·rw [getD_set_ne true hjk] at hun;exact hun
   have hSj:∀ {w':World},(noneT T ((listed.setIfInBounds i true).setIfInBounds j true)→S w')→noneT T (listed.setIfInBounds j true)→S w':=fun h hn=>h (by
    rw [Array.setIfInBounds_comm _ _ (Ne.symm hji)]
    exact fwd hn)
   refine wpOp_mono (fun a' w' h3=>⟨hSj h3.2.1,ih (listed.setIfInBounds j true) a' w' hfree' (ready_mono hr (Ne.symm hji)) h3.1 (hSj h3.2.1) ?_⟩) h2
   rw [Array.setIfInBounds_comm _ _ hji]
   exact h3.2.2
def mayT (ops:Array Oper) (T:List Nat) (listed:Array Bool) (i d n:Nat):Bool:=Region.noSelect ops && Region.free .any ops listed i && (Region.ready .any ops listed).contains i && Nat.blt d n && !(T.contains i)
theorem takeU {fuel n:Nat} {listed:Array Bool} {a:Act} {w:World} {l:List (Nat × Value)} (h:Bun a n l) (hS:noneT T listed→S w) (hQ:∀ d v c a w,Q (.panic c) (a.put d v) w→Q (.panic c) a w) (i d:Nat) (op:Op) (v:Value) (ho:isB ops i d op) (hm:mayT ops T listed i d n=true)
  (hx:∀ o:Oper,o.op=op→∀ w,(execOp a.eval o).run P w = .ok (.value v) w)
  (next:∀ a',a'=a.put (some d) v→Bun a' n ((d,v) :: l)→wpAnyT P ops Q S T fuel (listed.setIfInBounds i true) a' w):wpAnyT P ops Q S T (fuel+1) listed a w:=by
 obtain ⟨o,hi,ho⟩:=Option.map_eq_some_iff.1 ho
 simp only [Prod.mk.injEq] at ho
 obtain ⟨h1,h2,h3⟩:=ho
 unfold mayT at hm
 simp only [Bool.and_eq_true,Bool.not_eq_true',← Bool.not_eq_true,List.contains_iff_mem] at hm
 obtain ⟨⟨⟨⟨m1,m2⟩,m3⟩,m4⟩,m5⟩:=hm
 exact wpAnyT_firstU (v:=v) hi (Region.noSelect_spec m1) m5 (fun c a w=>hQ _ _ c a w) fuel listed a w (Region.free_spec hi m2) (by simpa using m3) (Or.inl ⟨by unfold Region.wanted;rw [h3],fun w _=>hx o h1 w⟩) hS (next _ (by rw [h2]) (h.put h2 (by simpa [Nat.blt_eq] using m4) v))
theorem takeL {fuel n:Nat} {listed:Array Bool} {a:Act} {w:World} {l:List (Nat × Value)} (h:Bun a n l) (hS:S w) (hQ:∀ d v c a w,Q (.panic c) (a.put d v) w→Q (.panic c) a w) (i d:Nat) (op:Op) (v:Value) (ho:isB ops i d op) (hm:(mayT ops T listed i d n && waitB ops T i && unl ops listed i && T.all fun t=>!(listed.getD t true))=true)
  (hx:∀ o:Oper,o.op=op→∀ w,S w→(execOp a.eval o).run P w = .ok (.value v) w)
  (next:∀ a',a'=a.put (some d) v→Bun a' n ((d,v) :: l)→wpAnyT P ops Q S T fuel (listed.setIfInBounds i true) a' w):wpAnyT P ops Q S T (fuel+1) listed a w:=by
 obtain ⟨o,hi,ho⟩:=Option.map_eq_some_iff.1 ho
 simp only [Prod.mk.injEq] at ho
 obtain ⟨h1,h2,h3⟩:=ho
 unfold mayT at hm
 simp only [Bool.and_eq_true] at hm
 obtain ⟨⟨⟨⟨⟨⟨⟨m1,m2⟩,m3⟩,m4⟩,_⟩,m6⟩,mu⟩,m7⟩:=hm
 have hu:∀ m,waitsOn ops m i=true→listed.getD m true=false:=fun m hm=>by
  obtain ⟨o,ho,_⟩:=waitsOn_spec hm
  have hlt:=(Array.getElem?_eq_some_iff.1 ho).1
  have:=List.all_eq_true.1 mu m (List.mem_range.2 hlt)
  rw [hm] at this
  simpa using this
 have hn:noneT T listed:=fun t ht=>by simpa using List.all_eq_true.1 m7 t ht
 exact wpAnyT_first (v:=v) hi (Region.noSelect_spec m1) m6 (fun c a w=>hQ _ _ c a w) fuel listed a w (Region.free_spec hi m2) (by simpa using m3) hu hn (Or.inl ⟨by unfold Region.wanted;rw [h3],hx o h1⟩) hS (next _ (by rw [h2]) (h.put h2 (by simpa [Nat.blt_eq] using m4) v))
theorem takeM {fuel n:Nat} {listed:Array Bool} {a:Act} {w:World} {l:List (Nat × Value)} (h:Bun a n l) (hS:noneT T listed→S w) (hQ:∀ d v c a w,Q (.panic c) (a.put d v) w→Q (.panic c) a w) (i d t:Nat) (v:Value) (ho:isB ops i d (.move (.tmp t))) (hm:mayT ops T listed i d n=true) (ht:lkB l t=some v)
  (next:∀ a',a'=a.put (some d) v→Bun a' n ((d,v) :: l)→wpAnyT P ops Q S T fuel (listed.setIfInBounds i true) a' w):wpAnyT P ops Q S T (fuel+1) listed a w:=
 takeU h hS hQ i d _ v ho hm (fun o e w=>by have:=h.at_ t v ht;simp [execOp,e,this]) next
theorem takeI {fuel n:Nat} {listed:Array Bool} {a:Act} {w:World} {l:List (Nat × Value)} (h:Bun a n l) (hS:noneT T listed→S w) (hQ:∀ d v c a w,Q (.panic c) (a.put d v) w→Q (.panic c) a w) (i d t k:Nat) (ty:TypeId) (x y:Value) (p:Addr) (ho:isB ops i d (.indexAddr ty (.tmp t) (.tmp k))) (hm:mayT ops T listed i d n=true) (ht:lkB l t=some x) (hk:lkB l k=some y)
  (hx:∀ w,(Go.Instr.indexAt ty x y).run P w = .ok (.pointer (some p)) w)
  (next:∀ a',a'=a.put (some d) (.pointer (some p))→Bun a' n ((d,.pointer (some p)) :: l)→wpAnyT P ops Q S T fuel (listed.setIfInBounds i true) a' w):wpAnyT P ops Q S T (fuel+1) listed a w:=
 takeU h hS hQ i d _ _ ho hm (fun o e w=>by have h1:=h.at_ t _ ht;have h2:=h.at_ k _ hk;have:=hx w;simp_all [execOp]) next
theorem takeF {fuel n:Nat} {listed:Array Bool} {a:Act} {w:World} {l:List (Nat × Value)} (h:Bun a n l) (hS:noneT T listed→S w) (hQ:∀ d v c a w,Q (.panic c) (a.put d v) w→Q (.panic c) a w) (i d t f:Nat) (ty:TypeId) (p q:Addr) (ho:isB ops i d (.fieldAddr ty (.tmp t) f)) (hm:mayT ops T listed i d n=true) (ht:lkB l t=some (.pointer (some p)))
  (hx:∀ w,(Go.Instr.fieldAt ty (.pointer (some p)) f).run P w = .ok (.pointer (some q)) w)
  (next:∀ a',a'=a.put (some d) (.pointer (some q))→Bun a' n ((d,.pointer (some q)) :: l)→wpAnyT P ops Q S T fuel (listed.setIfInBounds i true) a' w):wpAnyT P ops Q S T (fuel+1) listed a w:=
 takeU h hS hQ i d _ _ ho hm (fun o e w=>by have h1:=h.at_ t _ ht;have:=hx w;simp_all [execOp]) next
theorem takeC {fuel n:Nat} {listed:Array Bool} {a:Act} {w:World} {l:List (Nat × Value)} (h:Bun a n l) (hS:S w) (hQ:∀ d v c a w,Q (.panic c) (a.put d v) w→Q (.panic c) a w) (i d t:Nat) (ty:TypeId) (p:Addr) (v:Value) (ho:isB ops i d (.load ty (.tmp t))) (hm:(mayT ops T listed i d n && waitB ops T i && unl ops listed i && T.all fun t=>!(listed.getD t true))=true) (ht:lkB l t=some (.pointer (some p)))
  (hx:∀ w,S w→(Go.Instr.loadAt ty (.pointer (some p))).run P w = .ok v w)
  (next:∀ a',a'=a.put (some d) v→Bun a' n ((d,v) :: l)→wpAnyT P ops Q S T fuel (listed.setIfInBounds i true) a' w):wpAnyT P ops Q S T (fuel+1) listed a w:=
 takeL h hS hQ i d _ v ho hm (fun o e w hw=>by have h1:=h.at_ t _ ht;have:=hx w hw;simp_all [execOp]) next
theorem takeS {fuel n:Nat} {listed:Array Bool} {a:Act} {w:World} {l:List (Nat × Value)} (h:Bun a n l) (hS:S w) (hQ:∀ d v c a w,Q (.panic c) (a.put d v) w→Q (.panic c) a w) (i d t:Nat) (ty:TypeId) (b o:Nat) (cs:List Value) (ds:TypeDesc) (ho:isB ops i d (.load ty (.tmp t))) (hm:(mayT ops T listed i d n && waitB ops T i && unl ops listed i && T.all fun t=>!(listed.getD t true))=true) (ht:lkB l t=some (.pointer (some ⟨b,o,none⟩)))
  (hu:P.underlying ty=some ds) (hd:ds.isRow=true) (hi:(P.info? ty).map (·.size)=some cs.length) (hx:∀ w,S w→w.rangeAt b o cs)
  (next:∀ a',a'=a.put (some d) (.agg cs.toArray)→Bun a' n ((d,.agg cs.toArray) :: l)→wpAnyT P ops Q S T fuel (listed.setIfInBounds i true) a' w):wpAnyT P ops Q S T (fuel+1) listed a w:=
 takeL h hS hQ i d _ _ ho hm (fun oo e w hw=>by
  have h1:=h.at_ t _ ht
  have:=run_loadVar_mid w b o ty cs ds (hx w hw) hu hd hi
  unfold execOp
  simp only [e,h1,Go.Instr.loadAt,Go.Instr.sureAddr,Sem.run_bind,Sem.run_pure,Result.andThen_ok,this]) next
def putL (a:Act) (l:List (Nat × Value)):Act:=l.foldl (fun a x=>a.put (some x.1) x.2) a
theorem wpAnyT_next {i:Nat} {o:Oper} {fuel:Nat} {listed:Array Bool} {a:Act} {w:World} (hr:Region.ready .any ops listed=[i]) (ho:ops[i]? = some o) (hw:o.guard=none)
  (h:∀ K':Act→World→Prop,Shut (∀ a w,(noneT T (listed.setIfInBounds i true)→S w)→wpAnyT P ops Q S T fuel (listed.setIfInBounds i true) a w→K' a w)→Oper.wp P o a w K' Q):wpAnyT P ops Q S T (fuel+1) listed a w:=by
 refine ⟨fun h=>(by rw [hr] at h;cases h),fun j hj=>?_⟩
 rw [hr] at hj
 obtain rfl:j=i:=by simpa using hj
 refine wpOp_step ho fun K' hK=>?_
 rw [if_pos (by unfold Region.wanted;rw [hw])]
 exact h K' fun a w h1 h2=>hK a w ⟨h1,h2⟩
theorem takeCall {fuel n:Nat} {listed:Array Bool} {a:Act} {w:World} {l:List (Nat × Value)} (h:Bun a n l) (i d:Nat) (f:FuncId) (ts:List Nat) (ats:Array TypeId) (vs:List Value) {fn:Func} (R:Value→World→Prop)
  (hr:Region.ready .any ops listed=[i]) (ho:isB ops i d (.call { callee:=.value (.func f),args:=(ts.map fun t=>Operand.tmp t).toArray,argTypes:=ats })) (hd:Nat.blt d n=true)
  (hf:P.funcs[f]? = some fn) (hn:(fn.name == "runtime.NumGoroutine")=false) (hb:fn.body.isNone=false) (ht:ts.map (lkB l)=vs.map some)
  (hc:Calls P f vs.toArray w fun e w'=>∃ v,e = .returned v∧R v w')
  (next:∀ a' v w',R v w'→a'=a.put (some d) v→Bun a' n ((d,v) :: l)→(noneT T (listed.setIfInBounds i true)→S w')∧wpAnyT P ops Q S T fuel (listed.setIfInBounds i true) a' w'):wpAnyT P ops Q S T (fuel+1) listed a w:=by
 have hargs:((ts.map fun t=>Operand.tmp t).toArray).map a.eval=vs.toArray:=by
  rw [List.map_toArray,List.map_map]
  congr 1
  clear ho hc
  induction ts generalizing vs with
  | nil=>cases vs with
   | nil=>rfl
   | cons v vs=>simp at ht
  | cons t ts ih=>cases vs with
   | nil=>simp at ht
   | cons v vs=>
    simp only [List.map_cons,List.cons.injEq] at ht
    rw [List.map_cons,ih vs ht.2]
    congr 1
    exact h.at_ t v ht.1
 obtain ⟨o,hi,ho⟩:=Option.map_eq_some_iff.1 ho
 simp only [Prod.mk.injEq] at ho
 obtain ⟨h1,h2,h3⟩:=ho
 refine wpAnyT_next hr hi h3 fun K hK=>?_
 refine wp_callU h1 hf hn hb ?_
 rw [hargs]
 refine hc.mono fun e w' h'=>?_
 obtain ⟨v,rfl,hR⟩:=h'
 have hx:=next _ v w' hR rfl (h.put rfl (by simpa [Nat.blt_eq] using hd) v)
 show K (a.put o.dst v) w'
 rw [h2]
 exact hK.out _ _ hx.1 hx.2
theorem takeStore {fuel n:Nat} {listed:Array Bool} {a:Act} {w:World} {l:List (Nat × Value)} (h:Bun a n l) (i x y:Nat) (ty:TypeId) (b o:Nat) (cs:List Value)
  (hr:Region.ready .any ops listed=[i]) (ho:(ops[i]?.map fun o=>(o.op,o.dst,o.guard))=some (.store ty (.tmp x) (.tmp y),none,none)) (hx:lkB l x=some (.pointer (some ⟨b,o,none⟩))) (hy:lkB l y=some (.agg cs.toArray))
  (ht:w.there b o cs.length) (hi:(P.info? ty).map (·.size)=some cs.length) (h1:∀ v∈cs,v.oneCell'=true) (hT:(T.all fun t=>!((listed.setIfInBounds i true).getD t true))=false)
  (next:wpAnyT P ops Q S T fuel (listed.setIfInBounds i true) a (w.setCells b o cs)):wpAnyT P ops Q S T (fuel+1) listed a w:=by
 obtain ⟨oo,ho1,ho2⟩:=Option.map_eq_some_iff.1 ho
 simp only [Prod.mk.injEq] at ho2
 obtain ⟨h2,h3,h4⟩:=ho2
 refine wpAnyT_next hr ho1 h4 fun K hK=>?_
 refine wp_store_mid ty (.tmp x) (.tmp y) h2 b o cs.toArray (h.at_ x _ hx) (h.at_ y _ hy) (by simpa using ht) (by simpa using hi) (all_oneCell_toArray h1) ?_
 rw [h3]
 refine hK.out _ _ (fun hn=>?_) next
 have:(T.all fun t=>!((listed.setIfInBounds i true).getD t true))=true:=List.all_eq_true.2 fun t ht=>by simpa using hn t ht
 rw [hT] at this
 cases this
theorem wpAnyT_done {listed:Array Bool} {a:Act} {w:World} (hr:Region.ready .any ops listed=[]) (h:Q .normal a w):∀ fuel,wpAnyT P ops Q S T fuel listed a w
 | 0=>⟨hr,h⟩
 | fuel+1=>⟨fun _=>h,fun i hi=>by rw [hr] at hi;cases hi⟩
theorem wp_region_T {id:Nat} {a:Act} {w:World} (hm:P.follows .mixedOrders=true) (h:wpAnyT P ops Q S T ops.size (Array.replicate ops.size false) a w.drew):(Code.region id ops true).wp P Q a w:=
 wp_region_any hm (wpAny_ofT _ _ _ _ h)
end
end
section
open Go Go.RowKit Bth
set_option maxRecDepth 100000
theorem tmod_bd (x y:Int) (h:0 < y):-y < x.tmod y∧x.tmod y < y:=by
 have h1:=Int.tmod_lt_of_pos x h
 have h2:=Int.tmod_lt_of_pos (-x) h
 rw [Int.neg_tmod] at h2
 omega
theorem oV_int (o:Option Nat):∃ z:Int,oV o = .int .i64 z∧(∀ s:Nat,z=(s:Int)→o=some s) ∧ -1≤z:=by
 cases o with
 | none=>exact ⟨-1,rfl,fun s h=>by omega,by omega⟩
 | some s=>exact ⟨s,rfl,fun t h=>by congr 1;omega,by omega⟩
end
section
open Go Go.RowKit Bth
set_option maxRecDepth 100000
def pdI (sc:Nat→List (Option Nat)) (n k:Nat):List Nat:=(List.range n).flatMap fun i=>((sc i).filter fun s=>s == some k).map fun _=>i
theorem pd_plain {bs:List Nat} {sc scB:Nat→List (Option Nat)} {n k b:Nat} (hsc:∀ i,i < n→scB i=(sc i).map (blk bs)) (hnd:∀ j,bs[j]? = some b→j=k) (hb:bs[k]? = some b):
  pdOf (edgesK scB bs n) b=(pdI sc n k).map fun i=>bs.getD i 0:=by
 unfold pdOf edgesK pdI
 rw [List.filter_flatMap,List.map_flatMap,List.map_flatMap]
 refine map_flat rfl fun j x y h1 h2=>?_
 rw [h1] at h2
 injection h2 with h2
 subst h2
 have hx:x < n:=List.mem_range.1 (List.mem_of_getElem? h1)
 rw [hsc x hx]
 have e:∀ l:List (Option Nat),(((l.map (blk bs)).map fun s=>(s,bs.getD x 0)).filter fun e=>e.1 == some b).map (·.2)=((l.filter fun s=>s == some k).map fun _=>x).map fun i=>bs.getD i 0:=by
  intro l
  induction l with
  | nil=>rfl
  | cons s l ih=>
   have hs:(blk bs s == some b)=(s == some k):=by
    cases s with
    | none=>rfl
    | some j=>
     show (bs[j]? == some b)=(some j == some k)
     by_cases h:j=k
     ·subst h;rw [hb];simp
     ·have h':¬bs[j]? = some b:=fun e=>h (hnd j e)
      rw [beq_eq_false_iff_ne.2 h',beq_eq_false_iff_ne.2 (fun e=>h (Option.some.inj e))]
   simp only [List.map_cons,List.filter_cons]
   rw [hs]
   split
   ·simp only [List.map_cons,ih]
   ·exact ih
 exact e _
theorem pdI_lt {sc:Nat→List (Option Nat)} {n k i:Nat} (h:i∈pdI sc n k):i < n:=by
 obtain ⟨j,hj,hm⟩:=List.mem_flatMap.1 h
 obtain ⟨_,_,rfl⟩:=List.mem_map.1 hm
 exact List.mem_range.1 hj
theorem pdI_len {sc:Nat→List (Option Nat)} {n k:Nat} (h:∀ i,i < n→(sc i).length≤2):(pdI sc n k).length≤2*n:=by
 unfold pdI
 induction n with
 | zero=>simp
 | succ n ih=>
  rw [List.range_succ,List.flatMap_append,List.length_append]
  have h1:=ih fun i hi=>h i (by omega)
  have h2:=h n (by omega)
  have h3:=List.length_filter_le (fun s=>s == some k) (sc n)
  simp only [List.flatMap_cons,List.flatMap_nil,List.append_nil,List.length_map]
  omega
theorem infoIns:(Tryz.prog.info? 130).map (·.size)=some 14:=by kernel_rfl
theorem eqP_same (w:World) (b:Nat):(binOp .eql 115 (.pointer (some ⟨b,0,none⟩)) (.pointer (some ⟨b,0,none⟩))).run Tryz.prog w = .ok (.bool true) w:=by
 obtain ⟨j,hj,_⟩:=Option.map_eq_some_iff.1 infoIns
 exact run_eql_ptr_same w _ Tryz.underlying115 hj
theorem eqP_ne (w:World) (b c:Nat) (hne:b≠c) {cb cc:Array Value} {tb tc:TypeId} (h1:w.heap[b]? = some (.cells cb tb (0,0))) (h2:w.heap[c]? = some (.cells cc tc (0,0))):(binOp .eql 115 (.pointer (some ⟨b,0,none⟩)) (.pointer (some ⟨c,0,none⟩))).run Tryz.prog w = .ok (.bool false) w:=by
 obtain ⟨j,hj,h⟩:=Option.map_eq_some_iff.1 infoIns
 exact run_eql_ptr_other w Tryz.underlying115 hj (by omega) (fun h=>by injection h with h;exact hne h) h1 h2
theorem eqP_nil (w:World) (c:Nat):(binOp .eql 115 (.pointer none) (.pointer (some ⟨c,0,none⟩))).run Tryz.prog w = .ok (.bool false) w:=by
 have h:∀ d:Nat,(Op.equalIn (d+1) 115 (.pointer none) (.pointer (some ⟨c,0,none⟩))).run Tryz.prog w = .ok false w:=fun d=>by
  simp [Op.equalIn,run_underlying Tryz.underlying115,sizeOf,typeInfo]
 simp only [binOp]
 simp [Op.equal,Op.maxDepth,h 9999]
def Live_ (w:World) (bs:List Nat):Prop:=∀ b∈bs,∃ cs t,w.heap[b]? = some (.cells cs t (0,0))
theorem Live_.nope {w w':World} {bs:List Nat} (h:Live_ w bs) (hf:Fr nope w w'):Live_ w' bs:=fun b hb=>by
 obtain ⟨cs,t,e⟩:=h b hb
 exact ⟨cs,t,hf.heap e (fun x=>x)⟩
def GivesPs (w:World) (os:List (Option Nat)) (e:Ending) (w':World):Prop:=Fr nope w w'∧∃ A c,e = .returned (.slice A os.length c)∧w'.ownsRow w.heap.size 3 1 (.slice A os.length c) os.length (os.map oV)
end
section
open Go Go.RowKit Bth
set_option maxRecDepth 100000
theorem irTexts_calls (w:World) (A1 A2:Option Addr) (c1 c2:Nat) (l:List ByteArray) (h1:Sl w A1 l.length (l.map Value.string)) (h2:Sl w A2 l.length (l.map Value.string)) (hl:l.length≤1048576):
  Calls Tryz.prog 62 #[.slice A1 l.length c1,.slice A2 l.length c2] w (GivesB w true):=by
 go_enter Tryz.func62,Tryz.ntmps62
 go_wp2
 go_loopg [13] l.length (fun n c13 wr=>∃ k:Nat,k≤l.length∧c13 = .int .i64 (k:Int)∧Fr nope w wr∧n=l.length - k)
 case atStart=>exact ⟨0,Nat.zero_le _,rfl,Fr.refl _ _,rfl⟩
 case round=>
  obtain ⟨k,hk,rfl,hf,rfl⟩:=hrel
  by_cases hlt:k < l.length
  ·obtain ⟨b1,o1,u1,hA1,hb1,hu1,hc1⟩:=(h1.nope hf).at_ hlt
   obtain ⟨b2,o2,u2,hA2,hb2,hu2,hc2⟩:=(h2.nope hf).at_ hlt
   rw [hu1] at hu2
   injection hu2 with hu2
   rw [List.getElem?_map] at hu1
   obtain ⟨y,_,rfl⟩:=Option.map_eq_some_iff.1 hu1
   subst hA1 hA2 hu2
   have hk0:(0:Int)≤(k:Int):=by omega
   have hk1:(k:Int) < (l.length:Int):=by omega
   have d1:∀ m,(wr.drewN m).cell? ⟨b1,o1+k,none⟩=some (.string y):=fun m=>((Fr.refl nope wr).drewN m).cell hc1 (fun x=>x)
   have d2:∀ m,(wr.drewN m).cell? ⟨b2,o2+k,none⟩=some (.string y):=fun m=>((Fr.refl nope wr).drewN m).cell hc2 (fun x=>x)
   clear hu1 h1 h2
   go_wp2
   go_quiet (fail)
   go_wp2
   go_roundg (l.length - (k+1))
   case measure=>omega
   case rel=>exact ⟨k+1,by omega,by go_num,by first | exact hf | exact hf.drewN _,rfl⟩
  ·go_wp2
   go_ret
   exact ⟨rfl,hf⟩
set_option maxHeartbeats 1000000 in
theorem SameNode_calls (w:World) (B:Nat) (p p':PN) (h:p.At w B) (h':∃ B,p'.At w B) (hs:SimN p p') (hk:p.kind=2∨p.kind=3):Calls Tryz.prog 30 #[p.agg,p'.agg] w (GivesB w true):=by
 obtain ⟨B',h'⟩:=h'
 obtain ⟨s1,s2,s3⟩:=hs
 have hl1:=h.lines
 have hl2:=h'.lines
 have hfew:=h.few
 clear h h'
 obtain ⟨kind,label,⟨lA,ln,lc⟩,lines,⟨opc,⟨A1,n1,c1⟩,suf,⟨A2,n2,c2⟩,ops,⟨A3,n3,c3⟩,inp,⟨A4,n4,c4⟩,out,term,br,cond,canc,⟨A5,n5,c5⟩,isa⟩⟩:=p
 obtain ⟨kind',label',⟨lA',ln',lc'⟩,lines',⟨opc',⟨A1',n1',c1'⟩,suf',⟨A2',n2',c2'⟩,ops',⟨A3',n3',c3'⟩,inp',⟨A4',n4',c4'⟩,out',term',br',cond',canc',⟨A5',n5',c5'⟩,isa'⟩⟩:=p'
 simp only at s1 s2 s3 hk hl1 hl2 hfew
 subst s1
 simp only [PN.agg,PN.cells,SV.val]
 have f0:=fun o=>(Fr.refl nope w).alloc o
 rcases hk with rfl | rfl
 ·obtain rfl:=s2 rfl
  clear s2 s3 hl1 hl2
  go_enter Tryz.func30,Tryz.ntmps30
  go_wp2
  go_ret
  exact ⟨rfl,(f0 _).alloc _⟩
 ·obtain rfl:=s3 rfl
  clear s2 s3
  obtain ⟨e1,hl1⟩:=hl1
  obtain ⟨e2,hl2⟩:=hl2
  simp only at e1 e2 hl1 hl2
  subst e1 e2
  go_enter Tryz.func30,Tryz.ntmps30
  go_wp2_with fail
  have f2:Fr nope w _:=(f0 (.cells #[.int .i64 3,.string label,.slice lA lines'.length lc,.string opc,.slice A1 n1 c1,.slice A2 n2 c2,.slice A3 n3 c3,.slice A4 n4 c4,.bool term,.bool br,.bool cond,.bool canc,.slice A5 n5 c5] 57)).alloc (.cells #[.int .i64 3,.string label',.slice lA' lines'.length lc',.string opc',.slice A1' n1' c1',.slice A2' n2' c2',.slice A3' n3' c3',.slice A4' n4' c4',.bool term',.bool br',.bool cond',.bool canc',.slice A5' n5' c5'] 57)
  refine (irTexts_calls _ lA lA' lc lc' lines' (hl1.nope f2) (hl2.nope f2) hfew).mono ?_
  rintro e w1 ⟨rfl,hf1⟩
  go_wp2
  go_ret
  exact ⟨rfl,f2.then hf1⟩
end
section
open Go Go.RowKit Bth
set_option maxRecDepth 100000
structure RegI (p p':PI):Prop where
 ops:gsOf p'.ops=gsOf p.ops
 outs:outGs p'.out=outGs p.out
 ins:inGs p'.canc p'.inp p'.out=inGs p.canc p.inp p.out
def RegL (is is':List PI):Prop:=is'.length=is.length∧∀ (k:Nat) (p p':PI),is[k]? = some p→is'[k]? = some p'→RegI p p'
theorem RegI.refl (p:PI):RegI p p:=⟨rfl,rfl,rfl⟩
theorem RegI.symm {p p':PI} (h:RegI p p'):RegI p' p:=⟨h.ops.symm,h.outs.symm,h.ins.symm⟩
theorem RegL.refl (is:List PI):RegL is is:=⟨rfl,fun k p p' h1 h2=>by rw [h1] at h2;injection h2 with h2;subst h2;exact .refl p⟩
theorem RegL.symm {is is':List PI} (h:RegL is is'):RegL is' is:=⟨h.1.symm,fun k p p' h1 h2=>(h.2 k p' p h2 h1).symm⟩
theorem RegL.get {is is':List PI} (h:RegL is is') {k:Nat} {p:PI} (hk:is[k]? = some p):∃ p',is'[k]? = some p'∧RegI p p':=by
 have hl:=(List.getElem?_eq_some_iff.1 hk).1
 have:is'[k]? = some (is'[k]'(by rw [h.1];exact hl)):=List.getElem?_eq_getElem _
 exact ⟨_,this,h.2 k p _ hk this⟩
theorem RegL.mem {is is':List PI} (h:RegL is is') {p:PI} (hp:p∈is):∃ p'∈is',RegI p p':=by
 obtain ⟨k,hk⟩:=List.mem_iff_getElem?.1 hp
 obtain ⟨p',h1,h2⟩:=h.get hk
 exact ⟨p',List.mem_of_getElem? h1,h2⟩
theorem RegL.kinds {is is':List PI} (h:RegL is is') {k:Nat} (hk:kindsP is k):kindsP is' k:=by
 obtain ⟨p,hp,g,hg,e⟩:=hk
 obtain ⟨p',hp',hr⟩:=h.mem hp
 exact ⟨p',hp',g,by rw [hr.ops];exact hg,e⟩
theorem RegL.adds {is is':List PI} (h:RegL is is') {k v:Nat} (hk:addsP is k v):addsP is' k v:=by
 obtain ⟨p,hp,g,hg,e⟩:=hk
 obtain ⟨p',hp',hr⟩:=h.mem hp
 exact ⟨p',hp',g,by rw [hr.ops];exact hg,e⟩
theorem RegL.use {is is':List PI} (h:RegL is is'):useP is'=useP is∧defP is'=defP is:=by
 constructor<;>funext k
 ·unfold useP
  cases hk:is[k]? with
  | none=>rw [List.getElem?_eq_none_iff] at hk;rw [List.getElem?_eq_none (by rw [h.1];exact hk)]
  | some p=>obtain ⟨p',h1,h2⟩:=h.get hk;rw [h1];show ofGs _=ofGs _;rw [h2.ins]
 ·unfold defP
  cases hk:is[k]? with
  | none=>rw [List.getElem?_eq_none_iff] at hk;rw [List.getElem?_eq_none (by rw [h.1];exact hk)]
  | some p=>obtain ⟨p',h1,h2⟩:=h.get hk;rw [h1];show ofGs _=ofGs _;rw [h2.outs]
theorem RegL.flow {is is':List PI} (h:RegL is is') (sc:Nat→List (Option Nat)):(flowP is' sc).reads=(flowP is sc).reads∧(flowP is' sc).writes=(flowP is sc).writes∧(flowP is' sc).succ=(flowP is sc).succ:=by
 obtain ⟨h1,h2⟩:=h.use
 refine ⟨?_,?_,?_⟩
 ·funext i c b
  show (i < is'.length∧(useP is' i c).testBit b=true)=(i < is.length∧(useP is i c).testBit b=true)
  rw [h.1,h1]
 ·funext i c b
  show ((defP is' i c).testBit b=true)=((defP is i c).testBit b=true)
  rw [h2]
 ·funext x y
  show (x < is'.length∧y < is'.length∧some y∈sc x)=(x < is.length∧y < is.length∧some y∈sc x)
  rw [h.1]
theorem RegL.out {is is':List PI} (h:RegL is is') (sc:Nat→List (Option Nat)):LiveOutP is' sc=LiveOutP is sc:=by
 obtain ⟨h1,h2,h3⟩:=h.flow sc
 unfold LiveOutP
 rw [h1,h2,h3]
theorem RegL.edges {is is':List PI} (h:RegL is is') {sc:Nat→List (Option Nat)} {k:Nat} {e:Nat × Nat} (he:edgesP is sc k e):edgesP is' sc k e:=by
 obtain ⟨i,p,g,hp,hg,h1,h2,h3,h4,b,h5,h6⟩:=he
 obtain ⟨p',hp',hr⟩:=h.get hp
 exact ⟨i,p',g,hp',by rw [hr.outs];exact hg,h1,h2,h3,h4,b,by rw [h.out];exact h5,h6⟩
theorem RegL.color {is is':List PI} (h:RegL is is') {sc:Nat→List (Option Nat)} {k:Nat} {r:Option (Nat→Option Nat)} (hc:ColorP is sc k r):ColorP is' sc k r:=by
 have e1:edgesP is' sc k=edgesP is sc k:=by funext e;exact propext ⟨fun he=>h.symm.edges he,fun he=>h.edges he⟩
 have e2:addsP is' k=addsP is k:=by funext v;exact propext ⟨fun he=>h.symm.adds he,fun he=>h.adds he⟩
 unfold ColorP at hc ⊢
 rw [e1,e2]
 exact hc
theorem AFRes.regs {ns ns':List PN} (h:RegL (insP ns) (insP ns')) (hG:∀ sc,GraphP ns' sc↔GraphP ns sc):∀ {r:Option (Nat→Option Nat)},AFRes ns r→AFRes ns' r
 | some f,hr=>by
  obtain ⟨sc,fk,h1,h2,h3⟩:=hr
  refine ⟨sc,fk,(hG sc).2 h1,fun k hk=>h.color (h2 k (h.symm.kinds hk)),fun v=>⟨fun hk=>(h3 v).1 (h.symm.kinds hk),fun hk=>(h3 v).2 fun hk2=>hk (h.kinds hk2)⟩⟩
 | none,hr=>by
  rcases hr with hr | ⟨sc,k,h1,h2,h3⟩
  ·exact .inl fun sc hs=>hr sc ((hG sc).1 hs)
  ·exact .inr ⟨sc,k,(hG sc).2 h1,h.kinds h2,h.color h3⟩
theorem ColorP.sc {is:List PI} {sc sc':Nat→List (Option Nat)} (h:∀ k,k < is.length→sc k=sc' k) {k:Nat} {r:Option (Nat→Option Nat)} (hc:ColorP is sc k r):ColorP is sc' k r:=by
 have e:edgesP is sc k=edgesP is sc' k:=by
  funext x
  unfold edgesP
  rw [LiveOutP.congr h]
 unfold ColorP at hc ⊢
 rw [← e]
 exact hc
theorem AFRes.uniq {ns:List PN} : ∀ {r r':Option (Nat→Option Nat)},AFRes ns r→AFRes ns r'→r=r'
 | none,none,_,_=>rfl
 | some f,some f',h,h'=>by
  obtain ⟨sc,fk,h1,h2,h3⟩:=h
  obtain ⟨sc',fk',h1',h2',h3'⟩:=h'
  congr 1
  funext v
  by_cases hk:kindsP (insP ns) (kindOf v)
  ·rw [(h3 v).1 hk,(h3' v).1 hk]
   have:=((h2 _ hk).sc (h1.uniq h1')).uniq (h2' _ hk)
   injection this with this
   rw [this]
  ·rw [(h3 v).2 hk,(h3' v).2 hk]
 | some f,none,h,h'=>by
  obtain ⟨sc,fk,h1,h2,_⟩:=h
  rcases h' with h' | ⟨sc',k,h1',h2',h3'⟩
  ·exact absurd h1 (h' sc)
  ·have:=((h2 _ h2').sc (h1.uniq h1')).uniq h3'
   cases this
 | none,some f,h',h=>by
  obtain ⟨sc,fk,h1,h2,_⟩:=h
  rcases h' with h' | ⟨sc',k,h1',h2',h3'⟩
  ·exact absurd h1 (h' sc)
  ·have:=((h2 _ h2').sc (h1.uniq h1')).uniq h3'
   cases this
theorem PairsOf.uniq {f:Nat→Option Nat} {l l':List (Nat × Nat)} (h:PairsOf f l) (h':PairsOf f l'):l=l':=by
 obtain ⟨h1,h2⟩:=h
 obtain ⟨h1',h2'⟩:=h'
 have nd:∀ {l:List (Nat × Nat)},(l.Pairwise fun a b=>a.1 < b.1)→l.Nodup:=fun h=>h.imp fun {a b} hab e=>by rw [e] at hab;omega
 have hp:l.Perm l':=(List.perm_ext_iff_of_nodup (nd h2) (nd h2')).2 fun p=>(h1 p).trans (h1' p).symm
 exact hp.eq_of_pairwise (le:=fun a b=>a.1 < b.1) (fun a b _ _ hab hba=>by omega) h2 h2'
def quietL (ns:List PN):List PN:=ns.filter fun p=>!(p.kind == 3)
theorem quiet_ins (ns:List PN):insP (quietL ns)=insP ns:=by
 unfold insP quietL
 rw [List.filter_filter]
 congr 2
 funext p
 by_cases h:p.kind=1
 ·simp [h]
 ·simp [h]
theorem quiet_run (ns:List PN):lpRun (quietL ns)=lpRun ns:=by
 have key:∀ (ns:List PN) (s:LP),(quietL ns).foldlM lpStep s=ns.foldlM lpStep s:=by
  intro ns
  induction ns with
  | nil=>intro s;rfl
  | cons p ns ih=>
   intro s
   by_cases h3:p.kind=3
   ·have e:quietL (p :: ns)=quietL ns:=by unfold quietL;rw [List.filter_cons];simp [h3]
    have e2:lpStep s p=some s:=by unfold lpStep;rw [if_neg (by omega),if_neg (by omega)]
    rw [e,List.foldlM_cons,e2,ih s]
    rfl
   ·have e:quietL (p :: ns)=p :: quietL ns:=by unfold quietL;rw [List.filter_cons];simp [h3]
    rw [e,List.foldlM_cons,List.foldlM_cons]
    cases lpStep s p with
    | none=>rfl
    | some s'=>exact ih s'
 exact key ns _
theorem quiet_graph (ns:List PN) (sc:Nat→List (Option Nat)):GraphP (quietL ns) sc↔GraphP ns sc:=by
 unfold GraphP
 rw [quiet_run,quiet_ins]
end
end Go.Proofs.YtpbeedabmjmdmaaGreatDoor
