/- The drawn regions of the spec's Keeps. -/
import Derived.Test.YtjlfkgjmgghhiaaGreatP11
import Derived.Test.YtjlfkgjmgghhiaaGreatP18
import Derived.Test.YtjlfkgjmgghhiaaGreatP21
import Derived.Test.YtjlfkgjmgghhiaaGreatP25
import Derived.Test.YtjlfkgjmgghhiaaGreatP35
import Derived.Test.YtjlfkgjmgghhiaaGreatP39
import Derived.Test.YtjlfkgjmgghhiaaGreatP41
import Derived.Test.YtjlfkgjmgghhiaaGreatP42
import Derived.Test.YtjlfkgjmgghhiaaGreatP43
import Derived.Test.YtjlfkgjmgghhiaaGreatP45
import Derived.Test.YtjlfkgjmgghhiaaGreatP47
namespace Go.Proofs.YtjlfkgjmgghhiaaGreat
section
open Go Go.RowKit Bth
set_option maxRecDepth 100000
abbrev KS:=Nat→Nat→Int
def wrK (s:KS) (id m:Nat) (n:Int):KS:=fun i b=>if i=id∧m.testBit b=true then n else s i b
def KLive (live:Nat→Nat→Prop) (a:Nat→Nat) (ow bo:KS):Prop:=∀ c b,live c b→ow c b≠0→bo (a c) b=ow c b
def pendK (l:List (Nat × Nat)) (c b:Nat):Prop:=∃ y∈l,y.1=c∧y.2.testBit b=true
theorem KLive.start {live:Nat→Nat→Prop} {a:Nat→Nat} {bo:KS} : KLive live a (fun _ _=>0) bo:=fun _ _ _ h=>absurd rfl h
theorem KLive.mono {live live':Nat→Nat→Prop} {a:Nat→Nat} {ow bo:KS} (h:KLive live a ow bo) (hs:∀ c b,live' c b→live c b):KLive live' a ow bo:=fun c b hl=>h c b (hs c b hl)
theorem KLive.write {live:Nat→Nat→Prop} {a:Nat→Nat} {ow bo:KS} {x:Nat × Nat} {l:List (Nat × Nat)} (h:KLive (fun c b=>live c b∧¬pendK (x :: l) c b) a ow bo)
  (hap:∀ c b,live c b→x.2.testBit b=true→c≠x.1→a c≠a x.1) (n:Int):KLive (fun c b=>live c b∧¬pendK l c b) a (wrK ow x.1 x.2 n) (wrK bo (a x.1) x.2 n):=by
 rintro c b ⟨hl,hp⟩ h0
 unfold wrK at h0 ⊢
 by_cases hc:c=x.1
 ·subst hc
  by_cases hb:x.2.testBit b=true
  ·simp [hb]
  ·have hb':¬(x.1=x.1∧x.2.testBit b=true):=fun h=>hb h.2
   have hb2:¬(a x.1=a x.1∧x.2.testBit b=true):=fun h=>hb h.2
   rw [if_neg hb'] at h0 ⊢
   rw [if_neg hb2]
   refine h _ b ⟨hl,?_⟩ h0
   rintro ⟨y,hy,e1,e2⟩
   rcases List.mem_cons.1 hy with rfl | hy
   ·exact hb e2
   ·exact hp ⟨y,hy,e1,e2⟩
 ·have h1:¬(c=x.1∧x.2.testBit b=true):=fun h=>hc h.1
  rw [if_neg h1] at h0 ⊢
  have h2:¬(a c=a x.1∧x.2.testBit b=true):=fun h=>hap c b hl h.2 hc h.1
  rw [if_neg h2]
  refine h c b ⟨hl,?_⟩ h0
  rintro ⟨y,hy,e1,e2⟩
  rcases List.mem_cons.1 hy with rfl | hy
  ·exact hc e1.symm
  ·exact hp ⟨y,hy,e1,e2⟩
abbrev KC:=Nat × (Nat→Int)
def kcV (x:KC):List Value:=.int .u32 (x.1:Int) :: (List.range 16).map fun b=>.int .i64 (x.2 b)
def kget:List KC→KS
 | [],_=>fun _=>0
 | x :: l,c=>if x.1=c then x.2 else kget l c
theorem kcV_len (x:KC):(kcV x).length=17:=rfl
def FirstK (l:List KC) (k:Nat) (id:Nat):Prop:=∀ (j:Nat) (y:KC),j < k→l[j]? = some y→y.1≠id
theorem kget_first:∀ {l:List KC} {k:Nat} {x:KC},l[k]? = some x→FirstK l k x.1→kget l x.1=x.2
 | [],_,_,h,_=>by cases h
 | y :: l,0,x,h,_=>by injection h with h;subst h;simp [kget]
 | y :: l,k+1,x,h,hf=>by
  unfold kget
  rw [if_neg (hf 0 y (Nat.succ_pos k) rfl)]
  exact kget_first (l:=l) (k:=k) h fun j z hj hz=>hf (j+1) z (Nat.succ_lt_succ hj) hz
theorem kget_none:∀ {l:List KC} {c:Nat},(∀ y∈l,y.1≠c)→kget l c=fun _=>0
 | [],_,_=>rfl
 | y :: l,c,h=>by
  unfold kget
  rw [if_neg (h y (by simp))]
  exact kget_none fun z hz=>h z (by simp [hz])
theorem kget_snoc:∀ {l:List KC} {c:Nat},(∀ y∈l,y.1≠c)→kget (l ++ [(c,fun _=>0)])=kget l
 | [],c,_=>by funext i;simp only [List.nil_append,kget];split<;>rfl
 | y :: l,c,h=>by
  funext i
  simp only [List.cons_append,kget]
  rw [kget_snoc fun z hz=>h z (by simp [hz])]
theorem kget_set:∀ {l:List KC} {k:Nat} {x:KC} (f:Nat→Int),l[k]? = some x→FirstK l k x.1→kget (l.set k (x.1,f))=fun c=>if c=x.1 then f else kget l c
 | [],_,_,_,h,_=>by cases h
 | y :: l,0,x,f,h,_=>by
  injection h with h
  subst h
  funext c
  simp only [List.set_cons_zero,kget]
  by_cases e:c=y.1
  ·rw [if_pos e.symm,if_pos e]
  ·rw [if_neg (fun h=>e h.symm),if_neg e,if_neg (fun h=>e h.symm)]
 | y :: l,k+1,x,f,h,hf=>by
  funext c
  have hy:=hf 0 y (Nat.succ_pos k) rfl
  simp only [List.set_cons_succ,kget]
  rw [kget_set f (l:=l) (k:=k) h fun j z hj hz=>hf (j+1) z (Nat.succ_lt_succ hj) hz]
  by_cases e:y.1=c
  ·rw [if_pos e,if_neg (fun h=>hy (e.trans h)),if_pos e]
  ·rw [if_neg e,if_neg e]
structure KlOk (l:List KC):Prop where
 nd:(l.map (·.1)).Nodup
 lt:∀ x∈l,x.1 < 4294967296
theorem KlOk.len {l:List KC} (h:KlOk l):l.length≤4294967296:=by
 have:=nodup_le h.nd (m:=List.range 4294967296) fun x hx=>by
  obtain ⟨y,hy,rfl⟩:=List.mem_map.1 hx
  exact List.mem_range.2 (h.lt y hy)
 rwa [List.length_map,List.length_range] at this
theorem KlOk.snoc {l:List KC} (h:KlOk l) {c:Nat} (hc:c < 4294967296) (hn:∀ y∈l,y.1≠c) (f:Nat→Int):KlOk (l ++ [(c,f)]):=by
 refine ⟨?_,fun x hx=>?_⟩
 ·rw [List.map_append,List.map_cons,List.map_nil,List.nodup_append]
  refine ⟨h.nd,by simp,?_⟩
  intro a ha b hb
  obtain ⟨y,hy,rfl⟩:=List.mem_map.1 ha
  obtain rfl:b=c:=by simpa using hb
  exact hn y hy
 ·rcases List.mem_append.1 hx with hx | hx
  ·exact h.lt x hx
  ·obtain rfl:x=(c,f):=by simpa using hx
   exact hc
theorem KlOk.set {l:List KC} (h:KlOk l) {k:Nat} {x:KC} (hk:l[k]? = some x) (f:Nat→Int):KlOk (l.set k (x.1,f)):=by
 have e:(l.set k (x.1,f)).map (·.1)=l.map (·.1):=by
  rw [List.map_set]
  refine List.ext_getElem? fun j=>?_
  rw [List.getElem?_set]
  split
  ·rename_i e
   subst e
   have:=(List.getElem?_eq_some_iff.1 hk).1
   rw [if_pos (by simpa using this),List.getElem?_map,hk]
   rfl
  ·rfl
 refine ⟨by rw [e];exact h.nd,fun y hy=>?_⟩
 have:y.1∈l.map (·.1):=by rw [← e];exact List.mem_map.2 ⟨y,hy,rfl⟩
 obtain ⟨z,hz,e⟩:=List.mem_map.1 this
 rw [← e]
 exact h.lt z hz
end
section
open Go Go.RowKit Bth
set_option maxRecDepth 100000
def LiveInP (is:List PI) (sc:Nat→List (Option Nat)):Nat→Nat→Nat→Prop:=LiveIn (flowP is sc).reads (flowP is sc).writes (flowP is sc).succ
theorem ofGs_bit':∀ (gs:List G) (F:Nat→Nat) (c b:Nat),(gs.foldl (fun F g=>orM F g.id g.spec) F c).testBit b=true↔(F c).testBit b=true∨∃ g∈gs,g.id=c∧g.spec.testBit b=true
 | [],F,c,b=>by simp
 | g :: gs,F,c,b=>by
  rw [List.foldl_cons,ofGs_bit' gs]
  unfold orM
  by_cases hc:c=g.id
  ·subst hc
   simp only [if_true,Nat.testBit_or,Bool.or_eq_true,List.mem_cons,exists_eq_or_imp,true_and]
   exact ⟨fun h=>by rcases h with (h | h) | h<;>simp [h],fun h=>by rcases h with h | h | h<;>simp [h]⟩
  ·have hc':¬g.id=c:=fun h=>hc h.symm
   simp only [if_neg hc,List.mem_cons,exists_eq_or_imp,hc',false_and,false_or]
theorem ofGs_bit {gs:List G} {c b:Nat} : (ofGs gs c).testBit b=true↔∃ g∈gs,g.id=c∧g.spec.testBit b=true:=by
 unfold ofGs
 rw [ofGs_bit']
 simp
theorem tl_bit {gs:List G} (hg:∀ g∈gs,g.Ok) {c b:Nat} : (∃ y∈tlOf gs,y.1=c∧y.2.testBit b=true)↔(ofGs gs c).testBit b=true:=by
 obtain ⟨ht,he⟩:=tlOf_spec hg
 rw [← he]
 constructor
 ·rintro ⟨y,hy,rfl,hb⟩
  rw [tv_of_mem ht hy];exact hb
 ·intro hb
  have h0:tv (tlOf gs) c≠0:=fun h=>by rw [h] at hb;simp at hb
  exact ⟨_,tv_mem h0,rfl,hb⟩
section
variable {is:List PI} {sc:Nat→List (Option Nat)} {i:Nat} {p:PI}
theorem read_live (hp:is[i]? = some p) (ho:∀ g∈inGs p.canc p.inp p.out,g.Ok) {x:Nat × Nat} (hx:x∈rdT p) {b:Nat} (hb:x.2.testBit b=true):LiveInP is sc i x.1 b:=by
 refine .read ⟨(List.getElem?_eq_some_iff.1 hp).1,?_⟩
 show (useP is i x.1).testBit b=true
 unfold useP
 rw [hp]
 exact (tl_bit ho).1 ⟨x,hx,rfl,hb⟩
theorem KLive.toWrites {a:Nat→Nat} {ow bo:KS} (h:KLive (LiveInP is sc i) a ow bo) (hp:is[i]? = some p) (ho:∀ g∈outGs p.out,g.Ok):KLive (fun c b=>LiveOutP is sc i c b∧¬pendK (wrT p) c b) a ow bo:=
 h.mono fun c b hl=>LiveIn.cases_iff.2 (.inr ⟨hl.1,fun hw=>hl.2 ((tl_bit ho).2 (by
  have hw:(defP is i c).testBit b=true:=hw
  unfold defP at hw
  rw [hp] at hw
  exact hw))⟩)
theorem KLive.next {a:Nat→Nat} {ow bo:KS} {s:Nat} (h:KLive (fun c b=>LiveOutP is sc i c b∧¬pendK [] c b) a ow bo) (hi:i < is.length) (hs:some s∈sc i) (hl:s < is.length):KLive (LiveInP is sc s) a ow bo:=
 h.mono fun c b hv=>⟨⟨s,⟨hi,hl,hs⟩,hv⟩,by rintro ⟨y,hy,_⟩;cases hy⟩
def ApartW (is:List PI) (sc:Nat→List (Option Nat)) (a:Nat→Nat):Prop:=∀ (i:Nat) (p:PI),is[i]? = some p→∀ x∈wrT p,∀ c b,LiveOutP is sc i c b→x.2.testBit b=true→c≠x.1→a c≠a x.1
end
theorem apartW_of {ns:List PN} {f:Nat→Option Nat} {l:List (Nat × Nat)} (hr:AFRes ns (some f)) (hok:AFOk ns) (he:ofPairs l=f):∃ sc,GraphP ns sc∧ApartW (insP ns) sc (aid l):=by
 obtain ⟨sc,hG,h⟩:=af_apart hr hok
 refine ⟨sc,hG,fun i p hp x hx c b hl hb hne=>?_⟩
 have ho:∀ g∈outGs p.out,g.Ok:=fun g hg=>gsOf_ok (hok.ops p (List.mem_of_getElem? hp)).out g (outGs_mem hg)
 obtain ⟨g,hg,e1,e2⟩:=ofGs_bit.1 ((tl_bit ho).1 ⟨x,hx,rfl,hb⟩)
 have:=h i p g c b hp hg (by rw [e1];exact hne) hl e2
 unfold aid
 rw [he,← e1]
 exact this
end
section
open Go Go.RowKit Bth
set_option maxRecDepth 100000
section
variable {P:Program} {ops:Array Oper} {Q:Exit→Act→World→Prop} {S:World→Prop} {T:List Nat}
def noneT (T:List Nat) (listed:Array Bool):Prop:=∀ t∈T,listed.getD t true=false
def wpAnyT (P:Program) (ops:Array Oper) (Q:Exit→Act→World→Prop) (S:World→Prop) (T:List Nat):Nat→Array Bool→Act→World→Prop
 | 0,listed,a,w=>Region.ready .any ops listed=[]∧Q .normal a w
 | fuel+1,listed,a,w=>
  (Region.ready .any ops listed=[]→Q .normal a w) ∧
  ∀ i∈Region.ready .any ops listed,wpOp P ops Q i (fun a' w'=>(noneT T (listed.setIfInBounds i true)→S w')∧wpAnyT P ops Q S T fuel (listed.setIfInBounds i true) a' w') a w
theorem wpAny_ofT:∀ (fuel:Nat) (listed:Array Bool) (a:Act) (w:World),wpAnyT P ops Q S T fuel listed a w→wpAny P .any ops Q fuel listed a w
 | 0,_,_,_,h=>h
 | fuel+1,_,_,_,h=>⟨h.1,fun i hi=>wpOp_mono (fun a' w' h'=>wpAny_ofT fuel _ a' w' h'.2) (h.2 i hi)⟩
def waitsOn (ops:Array Oper) (m i:Nat):Bool:=match ops[m]? with
 | some o=>o.after.any fun e=>Region.binds .any e && e.on == i
 | none=>false
theorem waitsOn_spec {m i:Nat} (h:waitsOn ops m i=true):∃ o,ops[m]? = some o∧∃ e∈o.after,Region.binds .any e=true∧e.on=i:=by
 unfold waitsOn at h
 cases ho:ops[m]? with
 | none=>rw [ho] at h;cases h
 | some o=>
  rw [ho] at h
  obtain ⟨e,he,h2⟩:=Array.any_eq_true'.1 h
  simp only [Bool.and_eq_true,beq_iff_eq] at h2
  exact ⟨o,rfl,e,he,h2.1,h2.2⟩
def waitB (ops:Array Oper) (T:List Nat) (i:Nat):Bool:=T.all fun t=>t != i && (waitsOn ops t i || (List.range ops.size).any fun m=>waitsOn ops t m && waitsOn ops m i)
def unl (ops:Array Oper) (listed:Array Bool) (i:Nat):Bool:=(List.range ops.size).all fun m=>!(waitsOn ops m i) || !(listed.getD m true)
theorem wpAnyT_first {i:Nat} {oi:Oper} {v:Value} (hi:ops[i]? = some oi) (hsel:∀ (j:Nat) (o:Oper) cs b,ops[j]? = some o→o.op ≠ .select cs b) (hwt:waitB ops T i=true)
  (hQ:∀ c a w,Q (.panic c) (a.put oi.dst v) w→Q (.panic c) a w):
  ∀ (fuel:Nat) (listed:Array Bool) (a:Act) (w:World),
   (∀ j oj,ops[j]? = some oj→j≠i→listed.getD j true=false→(∀ e∈oj.after,Region.binds .any e=true→e.on≠i)→oi.apart ops oj=true) →
   i∈Region.ready .any ops listed→(∀ m,waitsOn ops m i=true→listed.getD m true=false)→noneT T listed→YieldsIf P ops S oi v a→S w →
   wpAnyT P ops Q S T fuel (listed.setIfInBounds i true) (a.put oi.dst v) w→wpAnyT P ops Q S T (fuel+1) listed a w:=by
 have hwait:∀ t∈T,t≠i∧(waitsOn ops t i=true∨∃ m,waitsOn ops t m=true∧waitsOn ops m i=true):=fun t ht=>by
  have:=List.all_eq_true.1 hwt t ht
  simp only [Bool.and_eq_true,bne_iff_ne,ne_eq,Bool.or_eq_true,List.any_eq_true] at this
  exact ⟨this.1,this.2.imp id fun ⟨m,_,h⟩=>⟨m,h⟩⟩
 intro fuel
 induction fuel with
 | zero=>
  intro listed a w _ hr hu hn hy hS H
  refine ⟨fun h=>(by rw [h] at hr;cases hr),fun j hj=>?_⟩
  by_cases hji:j=i
  ·subst hji;exact hy.wpOp hi hS ⟨fun _=>hS,H⟩
  ·have:=ready_mono hj hji
   rw [H.1] at this
   cases this
 | succ fuel ih=>
  intro listed a w hfree hr hu hn hy hS H
  refine ⟨fun h=>(by rw [h] at hr;cases hr),fun j hj=>?_⟩
  by_cases hji:j=i
  ·subst hji;exact hy.wpOp hi hS ⟨fun _=>hS,H⟩
  ·have h1:=H.2 j (ready_mono hj hji)
   obtain ⟨hjun,oj,hoj,hall⟩:=mem_ready.1 hj
   have hnot:∀ e∈oj.after,Region.binds .any e=true→e.on≠i:=fun e he hb heq=>by
    have h1:=hall e he hb
    have h0:=(mem_ready.1 hr).1
    rw [heq] at h1
    rcases Nat.lt_or_ge i listed.size with h' | h'
    ·simp [h'] at h0 h1;rw [h0] at h1;cases h1
    ·simp [Array.getElem?_eq_none h'] at h1
   have hjw:∀ m,waitsOn ops m i=true→m≠j:=fun m hm e=>by
    subst e
    obtain ⟨o,ho,e,he,hb,hon⟩:=waitsOn_spec hm
    rw [hoj] at ho
    injection ho with ho
    subst ho
    exact hnot e he hb hon
   have hjT:j∉T:=fun hm=>by
    obtain ⟨_,h | ⟨m,h1,h2⟩⟩:=hwait j hm
    ·exact hjw j h rfl
    ·obtain ⟨o,ho,e,he,hb,hon⟩:=waitsOn_spec h1
     rw [hoj] at ho
     injection ho with ho
     subst ho
     have h3:=hall e he hb
     have h4:=hu m h2
     rw [hon] at h3
     rcases Nat.lt_or_ge m listed.size with h' | h'
     ·simp [h'] at h3 h4;rw [h4] at h3;cases h3
     ·simp [Array.getElem?_eq_none h'] at h3
   have hu':∀ m,waitsOn ops m i=true→(listed.setIfInBounds j true).getD m true=false:=fun m hm=>by
    rw [getD_set_ne true (fun e=>hjw m hm e.symm)]
    exact hu m hm
   have hn':noneT T (listed.setIfInBounds j true):=fun t ht=>by
    rw [getD_set_ne true (fun e=>hjT (by rw [e];exact ht))]
    exact hn t ht
   have hni:noneT T ((listed.setIfInBounds i true).setIfInBounds j true):=fun t ht=>by
    rw [getD_set_ne true (fun e=>hjT (by rw [e];exact ht)),getD_set_ne true (Ne.symm (hwait t ht).1)]
    exact hn t ht
   have h2:=wpOp_putIf hoj (hfree j oj hoj hji hjun hnot) (fun cs b=>hsel i oi cs b hi) (fun cs b=>hsel j oj cs b hoj) hQ hy h1
   have hfree':∀ k ok,ops[k]? = some ok→k≠i→(listed.setIfInBounds j true).getD k true=false →
     (∀ e∈ok.after,Region.binds .any e=true→e.on≠i)→oi.apart ops ok=true:=fun k ok hk hki hun hno=>by
    refine hfree k ok hk hki ?_ hno
    by_cases hjk:j=k
    ·subst hjk;exact hjun
    ·rw [getD_set_ne true hjk] at hun;exact hun
   refine wpOp_mono (fun a' w' h3=>⟨fun _=>h3.2.1 hni,ih (listed.setIfInBounds j true) a' w' hfree' (ready_mono hr (Ne.symm hji)) hu' hn' h3.1 (h3.2.1 hni) ?_⟩) h2
   rw [Array.setIfInBounds_comm _ _ hji]
   exact h3.2.2
theorem wpAnyT_firstU {i:Nat} {oi:Oper} {v:Value} (hi:ops[i]? = some oi) (hsel:∀ (j:Nat) (o:Oper) cs b,ops[j]? = some o→o.op ≠ .select cs b) (hiT:i∉T)
  (hQ:∀ c a w,Q (.panic c) (a.put oi.dst v) w→Q (.panic c) a w):
  ∀ (fuel:Nat) (listed:Array Bool) (a:Act) (w:World),
   (∀ j oj,ops[j]? = some oj→j≠i→listed.getD j true=false→(∀ e∈oj.after,Region.binds .any e=true→e.on≠i)→oi.apart ops oj=true) →
   i∈Region.ready .any ops listed→YieldsIf P ops (fun _=>True) oi v a→(noneT T listed→S w) →
   wpAnyT P ops Q S T fuel (listed.setIfInBounds i true) (a.put oi.dst v) w→wpAnyT P ops Q S T (fuel+1) listed a w:=by
 have back:∀ {l:Array Bool},noneT T (l.setIfInBounds i true)→noneT T l:=fun h t ht=>by
  have:=h t ht
  rwa [getD_set_ne true (fun e=>hiT (by rw [e];exact ht))] at this
 have fwd:∀ {l:Array Bool},noneT T l→noneT T (l.setIfInBounds i true):=fun h t ht=>by
  rw [getD_set_ne true (fun e=>hiT (by rw [e];exact ht))]
  exact h t ht
 intro fuel
 induction fuel with
 | zero=>
  intro listed a w _ hr hy hS H
  refine ⟨fun h=>(by rw [h] at hr;cases hr),fun j hj=>?_⟩
  by_cases hji:j=i
  ·subst hji;exact hy.wpOp hi trivial ⟨fun h=>hS (back h),H⟩
  ·have:=ready_mono hj hji
   rw [H.1] at this
   cases this
 | succ fuel ih=>
  intro listed a w hfree hr hy hS H
  refine ⟨fun h=>(by rw [h] at hr;cases hr),fun j hj=>?_⟩
  by_cases hji:j=i
  ·subst hji;exact hy.wpOp hi trivial ⟨fun h=>hS (back h),H⟩
  ·have h1:=H.2 j (ready_mono hj hji)
   obtain ⟨hjun,oj,hoj,hall⟩:=mem_ready.1 hj
   have hnot:∀ e∈oj.after,Region.binds .any e=true→e.on≠i:=fun e he hb heq=>by
    have h1:=hall e he hb
    have h0:=(mem_ready.1 hr).1
    rw [heq] at h1
    rcases Nat.lt_or_ge i listed.size with h' | h'
    ·simp [h'] at h0 h1;rw [h0] at h1;cases h1
    ·simp [Array.getElem?_eq_none h'] at h1
   have h2:=wpOp_putIf hoj (hfree j oj hoj hji hjun hnot) (fun cs b=>hsel i oi cs b hi) (fun cs b=>hsel j oj cs b hoj) hQ hy h1
   have hfree':∀ k ok,ops[k]? = some ok→k≠i→(listed.setIfInBounds j true).getD k true=false →
     (∀ e∈ok.after,Region.binds .any e=true→e.on≠i)→oi.apart ops ok=true:=fun k ok hk hki hun hno=>by
    refine hfree k ok hk hki ?_ hno
    by_cases hjk:j=k
    ·subst hjk;exact hjun
    ·rw [getD_set_ne true hjk] at hun;exact hun
   have hSj:∀ {w':World},(noneT T ((listed.setIfInBounds i true).setIfInBounds j true)→S w')→noneT T (listed.setIfInBounds j true)→S w':=fun h hn=>h (by
    rw [Array.setIfInBounds_comm _ _ (Ne.symm hji)]
    exact fwd hn)
   refine wpOp_mono (fun a' w' h3=>⟨hSj h3.2.1,ih (listed.setIfInBounds j true) a' w' hfree' (ready_mono hr (Ne.symm hji)) h3.1 (hSj h3.2.1) ?_⟩) h2
   rw [Array.setIfInBounds_comm _ _ hji]
   exact h3.2.2
def mayT (ops:Array Oper) (T:List Nat) (listed:Array Bool) (i d n:Nat):Bool:=Region.noSelect ops && Region.free .any ops listed i && (Region.ready .any ops listed).contains i && Nat.blt d n && !(T.contains i)
theorem takeU {fuel n:Nat} {listed:Array Bool} {a:Act} {w:World} {l:List (Nat × Value)} (h:Bun a n l) (hS:noneT T listed→S w) (hQ:∀ d v c a w,Q (.panic c) (a.put d v) w→Q (.panic c) a w) (i d:Nat) (op:Op) (v:Value) (ho:isB ops i d op) (hm:mayT ops T listed i d n=true)
  (hx:∀ o:Oper,o.op=op→∀ w,(execOp a.eval o).run P w = .ok (.value v) w)
  (next:∀ a',a'=a.put (some d) v→Bun a' n ((d,v) :: l)→wpAnyT P ops Q S T fuel (listed.setIfInBounds i true) a' w):wpAnyT P ops Q S T (fuel+1) listed a w:=by
 obtain ⟨o,hi,ho⟩:=Option.map_eq_some_iff.1 ho
 simp only [Prod.mk.injEq] at ho
 obtain ⟨h1,h2,h3⟩:=ho
 unfold mayT at hm
 simp only [Bool.and_eq_true,Bool.not_eq_true',← Bool.not_eq_true,List.contains_iff_mem] at hm
 obtain ⟨⟨⟨⟨m1,m2⟩,m3⟩,m4⟩,m5⟩:=hm
 exact wpAnyT_firstU (v:=v) hi (Region.noSelect_spec m1) m5 (fun c a w=>hQ _ _ c a w) fuel listed a w (Region.free_spec hi m2) (by simpa using m3) (Or.inl ⟨by unfold Region.wanted;rw [h3],fun w _=>hx o h1 w⟩) hS (next _ (by rw [h2]) (h.put h2 (by simpa [Nat.blt_eq] using m4) v))
theorem takeL {fuel n:Nat} {listed:Array Bool} {a:Act} {w:World} {l:List (Nat × Value)} (h:Bun a n l) (hS:S w) (hQ:∀ d v c a w,Q (.panic c) (a.put d v) w→Q (.panic c) a w) (i d:Nat) (op:Op) (v:Value) (ho:isB ops i d op) (hm:(mayT ops T listed i d n && waitB ops T i && unl ops listed i && T.all fun t=>!(listed.getD t true))=true)
  (hx:∀ o:Oper,o.op=op→∀ w,S w→(execOp a.eval o).run P w = .ok (.value v) w)
  (next:∀ a',a'=a.put (some d) v→Bun a' n ((d,v) :: l)→wpAnyT P ops Q S T fuel (listed.setIfInBounds i true) a' w):wpAnyT P ops Q S T (fuel+1) listed a w:=by
 obtain ⟨o,hi,ho⟩:=Option.map_eq_some_iff.1 ho
 simp only [Prod.mk.injEq] at ho
 obtain ⟨h1,h2,h3⟩:=ho
 unfold mayT at hm
 simp only [Bool.and_eq_true] at hm
 obtain ⟨⟨⟨⟨⟨⟨⟨m1,m2⟩,m3⟩,m4⟩,_⟩,m6⟩,mu⟩,m7⟩:=hm
 have hu:∀ m,waitsOn ops m i=true→listed.getD m true=false:=fun m hm=>by
  obtain ⟨o,ho,_⟩:=waitsOn_spec hm
  have hlt:=(Array.getElem?_eq_some_iff.1 ho).1
  have:=List.all_eq_true.1 mu m (List.mem_range.2 hlt)
  rw [hm] at this
  simpa using this
 have hn:noneT T listed:=fun t ht=>by simpa using List.all_eq_true.1 m7 t ht
 exact wpAnyT_first (v:=v) hi (Region.noSelect_spec m1) m6 (fun c a w=>hQ _ _ c a w) fuel listed a w (Region.free_spec hi m2) (by simpa using m3) hu hn (Or.inl ⟨by unfold Region.wanted;rw [h3],hx o h1⟩) hS (next _ (by rw [h2]) (h.put h2 (by simpa [Nat.blt_eq] using m4) v))
theorem takeM {fuel n:Nat} {listed:Array Bool} {a:Act} {w:World} {l:List (Nat × Value)} (h:Bun a n l) (hS:noneT T listed→S w) (hQ:∀ d v c a w,Q (.panic c) (a.put d v) w→Q (.panic c) a w) (i d t:Nat) (v:Value) (ho:isB ops i d (.move (.tmp t))) (hm:mayT ops T listed i d n=true) (ht:lkB l t=some v)
  (next:∀ a',a'=a.put (some d) v→Bun a' n ((d,v) :: l)→wpAnyT P ops Q S T fuel (listed.setIfInBounds i true) a' w):wpAnyT P ops Q S T (fuel+1) listed a w:=
 takeU h hS hQ i d _ v ho hm (fun o e w=>by have:=h.at_ t v ht;simp [execOp,e,this]) next
theorem takeI {fuel n:Nat} {listed:Array Bool} {a:Act} {w:World} {l:List (Nat × Value)} (h:Bun a n l) (hS:noneT T listed→S w) (hQ:∀ d v c a w,Q (.panic c) (a.put d v) w→Q (.panic c) a w) (i d t k:Nat) (ty:TypeId) (x y:Value) (p:Addr) (ho:isB ops i d (.indexAddr ty (.tmp t) (.tmp k))) (hm:mayT ops T listed i d n=true) (ht:lkB l t=some x) (hk:lkB l k=some y)
  (hx:∀ w,(Go.Instr.indexAt ty x y).run P w = .ok (.pointer (some p)) w)
  (next:∀ a',a'=a.put (some d) (.pointer (some p))→Bun a' n ((d,.pointer (some p)) :: l)→wpAnyT P ops Q S T fuel (listed.setIfInBounds i true) a' w):wpAnyT P ops Q S T (fuel+1) listed a w:=
 takeU h hS hQ i d _ _ ho hm (fun o e w=>by have h1:=h.at_ t _ ht;have h2:=h.at_ k _ hk;have:=hx w;simp_all [execOp]) next
theorem takeF {fuel n:Nat} {listed:Array Bool} {a:Act} {w:World} {l:List (Nat × Value)} (h:Bun a n l) (hS:noneT T listed→S w) (hQ:∀ d v c a w,Q (.panic c) (a.put d v) w→Q (.panic c) a w) (i d t f:Nat) (ty:TypeId) (p q:Addr) (ho:isB ops i d (.fieldAddr ty (.tmp t) f)) (hm:mayT ops T listed i d n=true) (ht:lkB l t=some (.pointer (some p)))
  (hx:∀ w,(Go.Instr.fieldAt ty (.pointer (some p)) f).run P w = .ok (.pointer (some q)) w)
  (next:∀ a',a'=a.put (some d) (.pointer (some q))→Bun a' n ((d,.pointer (some q)) :: l)→wpAnyT P ops Q S T fuel (listed.setIfInBounds i true) a' w):wpAnyT P ops Q S T (fuel+1) listed a w:=
 takeU h hS hQ i d _ _ ho hm (fun o e w=>by have h1:=h.at_ t _ ht;have:=hx w;simp_all [execOp]) next
theorem takeC {fuel n:Nat} {listed:Array Bool} {a:Act} {w:World} {l:List (Nat × Value)} (h:Bun a n l) (hS:S w) (hQ:∀ d v c a w,Q (.panic c) (a.put d v) w→Q (.panic c) a w) (i d t:Nat) (ty:TypeId) (p:Addr) (v:Value) (ho:isB ops i d (.load ty (.tmp t))) (hm:(mayT ops T listed i d n && waitB ops T i && unl ops listed i && T.all fun t=>!(listed.getD t true))=true) (ht:lkB l t=some (.pointer (some p)))
  (hx:∀ w,S w→(Go.Instr.loadAt ty (.pointer (some p))).run P w = .ok v w)
  (next:∀ a',a'=a.put (some d) v→Bun a' n ((d,v) :: l)→wpAnyT P ops Q S T fuel (listed.setIfInBounds i true) a' w):wpAnyT P ops Q S T (fuel+1) listed a w:=
 takeL h hS hQ i d _ v ho hm (fun o e w hw=>by have h1:=h.at_ t _ ht;have:=hx w hw;simp_all [execOp]) next
theorem takeS {fuel n:Nat} {listed:Array Bool} {a:Act} {w:World} {l:List (Nat × Value)} (h:Bun a n l) (hS:S w) (hQ:∀ d v c a w,Q (.panic c) (a.put d v) w→Q (.panic c) a w) (i d t:Nat) (ty:TypeId) (b o:Nat) (cs:List Value) (ds:TypeDesc) (ho:isB ops i d (.load ty (.tmp t))) (hm:(mayT ops T listed i d n && waitB ops T i && unl ops listed i && T.all fun t=>!(listed.getD t true))=true) (ht:lkB l t=some (.pointer (some ⟨b,o,none⟩)))
  (hu:P.underlying ty=some ds) (hd:ds.isRow=true) (hi:(P.info? ty).map (·.size)=some cs.length) (hx:∀ w,S w→w.rangeAt b o cs)
  (next:∀ a',a'=a.put (some d) (.agg cs.toArray)→Bun a' n ((d,.agg cs.toArray) :: l)→wpAnyT P ops Q S T fuel (listed.setIfInBounds i true) a' w):wpAnyT P ops Q S T (fuel+1) listed a w:=
 takeL h hS hQ i d _ _ ho hm (fun oo e w hw=>by
  have h1:=h.at_ t _ ht
  have:=run_loadVar_mid w b o ty cs ds (hx w hw) hu hd hi
  unfold execOp
  simp only [e,h1,Go.Instr.loadAt,Go.Instr.sureAddr,Sem.run_bind,Sem.run_pure,Result.andThen_ok,this]) next
def putL (a:Act) (l:List (Nat × Value)):Act:=l.foldl (fun a x=>a.put (some x.1) x.2) a
theorem wpAnyT_next {i:Nat} {o:Oper} {fuel:Nat} {listed:Array Bool} {a:Act} {w:World} (hr:Region.ready .any ops listed=[i]) (ho:ops[i]? = some o) (hw:o.guard=none)
  (h:∀ K':Act→World→Prop,Shut (∀ a w,(noneT T (listed.setIfInBounds i true)→S w)→wpAnyT P ops Q S T fuel (listed.setIfInBounds i true) a w→K' a w)→Oper.wp P o a w K' Q):wpAnyT P ops Q S T (fuel+1) listed a w:=by
 refine ⟨fun h=>(by rw [hr] at h;cases h),fun j hj=>?_⟩
 rw [hr] at hj
 obtain rfl:j=i:=by simpa using hj
 refine wpOp_step ho fun K' hK=>?_
 rw [if_pos (by unfold Region.wanted;rw [hw])]
 exact h K' fun a w h1 h2=>hK a w ⟨h1,h2⟩
theorem takeCall {fuel n:Nat} {listed:Array Bool} {a:Act} {w:World} {l:List (Nat × Value)} (h:Bun a n l) (i d:Nat) (f:FuncId) (ts:List Nat) (ats:Array TypeId) (vs:List Value) {fn:Func} (R:Value→World→Prop)
  (hr:Region.ready .any ops listed=[i]) (ho:isB ops i d (.call { callee:=.value (.func f),args:=(ts.map fun t=>Operand.tmp t).toArray,argTypes:=ats })) (hd:Nat.blt d n=true)
  (hf:P.funcs[f]? = some fn) (hn:(fn.name == "runtime.NumGoroutine")=false) (hb:fn.body.isNone=false) (ht:ts.map (lkB l)=vs.map some)
  (hc:Calls P f vs.toArray w fun e w'=>∃ v,e = .returned v∧R v w')
  (next:∀ a' v w',R v w'→a'=a.put (some d) v→Bun a' n ((d,v) :: l)→(noneT T (listed.setIfInBounds i true)→S w')∧wpAnyT P ops Q S T fuel (listed.setIfInBounds i true) a' w'):wpAnyT P ops Q S T (fuel+1) listed a w:=by
 have hargs:((ts.map fun t=>Operand.tmp t).toArray).map a.eval=vs.toArray:=by
  rw [List.map_toArray,List.map_map]
  congr 1
  clear ho hc
  induction ts generalizing vs with
  | nil=>cases vs with
   | nil=>rfl
   | cons v vs=>simp at ht
  | cons t ts ih=>cases vs with
   | nil=>simp at ht
   | cons v vs=>
    simp only [List.map_cons,List.cons.injEq] at ht
    rw [List.map_cons,ih vs ht.2]
    congr 1
    exact h.at_ t v ht.1
 obtain ⟨o,hi,ho⟩:=Option.map_eq_some_iff.1 ho
 simp only [Prod.mk.injEq] at ho
 obtain ⟨h1,h2,h3⟩:=ho
 refine wpAnyT_next hr hi h3 fun K hK=>?_
 refine wp_callU h1 hf hn hb ?_
 rw [hargs]
 refine hc.mono fun e w' h'=>?_
 obtain ⟨v,rfl,hR⟩:=h'
 have hx:=next _ v w' hR rfl (h.put rfl (by simpa [Nat.blt_eq] using hd) v)
 show K (a.put o.dst v) w'
 rw [h2]
 exact hK.out _ _ hx.1 hx.2
theorem takeStore {fuel n:Nat} {listed:Array Bool} {a:Act} {w:World} {l:List (Nat × Value)} (h:Bun a n l) (i x y:Nat) (ty:TypeId) (b o:Nat) (cs:List Value)
  (hr:Region.ready .any ops listed=[i]) (ho:(ops[i]?.map fun o=>(o.op,o.dst,o.guard))=some (.store ty (.tmp x) (.tmp y),none,none)) (hx:lkB l x=some (.pointer (some ⟨b,o,none⟩))) (hy:lkB l y=some (.agg cs.toArray))
  (ht:w.there b o cs.length) (hi:(P.info? ty).map (·.size)=some cs.length) (h1:∀ v∈cs,v.oneCell'=true) (hT:(T.all fun t=>!((listed.setIfInBounds i true).getD t true))=false)
  (next:wpAnyT P ops Q S T fuel (listed.setIfInBounds i true) a (w.setCells b o cs)):wpAnyT P ops Q S T (fuel+1) listed a w:=by
 obtain ⟨oo,ho1,ho2⟩:=Option.map_eq_some_iff.1 ho
 simp only [Prod.mk.injEq] at ho2
 obtain ⟨h2,h3,h4⟩:=ho2
 refine wpAnyT_next hr ho1 h4 fun K hK=>?_
 refine wp_store_mid ty (.tmp x) (.tmp y) h2 b o cs.toArray (h.at_ x _ hx) (h.at_ y _ hy) (by simpa using ht) (by simpa using hi) (all_oneCell_toArray h1) ?_
 rw [h3]
 refine hK.out _ _ (fun hn=>?_) next
 have:(T.all fun t=>!((listed.setIfInBounds i true).getD t true))=true:=List.all_eq_true.2 fun t ht=>by simpa using hn t ht
 rw [hT] at this
 cases this
theorem wpAnyT_done {listed:Array Bool} {a:Act} {w:World} (hr:Region.ready .any ops listed=[]) (h:Q .normal a w):∀ fuel,wpAnyT P ops Q S T fuel listed a w
 | 0=>⟨hr,h⟩
 | fuel+1=>⟨fun _=>h,fun i hi=>by rw [hr] at hi;cases hi⟩
theorem wp_region_T {id:Nat} {a:Act} {w:World} (hm:P.follows .mixedOrders=true) (h:wpAnyT P ops Q S T ops.size (Array.replicate ops.size false) a w.drew):(Code.region id ops true).wp P Q a w:=
 wp_region_any hm (wpAny_ofT _ _ _ _ h)
end
end
section
open Go Go.RowKit Bth
set_option maxRecDepth 100000
theorem infoKC:(Tryz.prog.info? 94).map (fun i=>(i.zero,i.size,i.bytes))=some (some (.agg (kcV (0,fun _=>0)).toArray),17,136):=by kernel_rfl
theorem kcV_one (x:KC):∀ u∈kcV x,u.oneCell'=true:=by
 intro u hu
 rcases List.mem_cons.1 hu with rfl | hu
 ·rfl
 ·obtain ⟨b,_,rfl⟩:=List.mem_map.1 hu
  rfl
theorem kcV_bit (x:KC) {b:Nat} (hb:b < 16):(kcV x)[1+b]? = some (.int .i64 (x.2 b)):=by
 unfold kcV
 rw [Nat.add_comm,List.getElem?_cons_succ,List.getElem?_map,List.getElem?_range hb]
 rfl
def KRow (w:World) (B:Nat) (s:SV) (l:List KC):Prop:=s.n=l.length∧w.ownsRow B 94 17 s.val l.length (l.flatMap kcV)
def GivesKA (w:World) (B:Nat) (s:SV) (l:List KC) (id:Nat) (e:Ending) (w':World):Prop:=
 ∃ (l':List KC) (k:Nat) (s':SV),e = .returned (.tuple #[s'.val,.int .i64 (k:Int)])∧l'[k]? = some (id,kget l id)∧FirstK l' k id∧kget l'=kget l∧KlOk l'∧KRow w' B s' l'∧Fr (fun b=>s.val.ownBlock=some b) w w'∧(s'.val.ownBlock=s.val.ownBlock∨∃ b,s'.val.ownBlock=some b∧w.heap.size≤b)
set_option maxHeartbeats 2000000 in
theorem keepAt_calls (w:World) (B:Nat) (s:SV) (l:List KC) (id:Nat) (h:KRow w B s l) (hok:KlOk l) (hid:id < 4294967296) (hB:B≤w.heap.size):
  Calls Tryz.prog 41 #[s.val,.int .u32 (id:Int)] w (GivesKA w B s l id):=by
 have hlen:=hok.len
 obtain ⟨A,n,c⟩:=s
 obtain ⟨rfl,h⟩:n=l.length∧_:=h
 simp only [SV.val] at h ⊢
 have hrw:=Rw.of_own h
 replace hok:=Lib.hid hok
 replace h:=Lib.hid h
 go_enter Tryz.func41,Tryz.ntmps41
 go_wp2
 go_loopg [6] l.length (fun m c6 wx=>∃ i:Nat,i≤l.length∧c6 = .int .i64 (i:Int)∧Hid (FirstK l i id)∧wx=w∧m=l.length - i)
 case atStart=>exact ⟨0,Nat.zero_le _,rfl,Lib.hid (fun j y hj=>by omega),rfl,rfl⟩
 case round=>
  obtain ⟨i,hi,rfl,hf,rfl,rfl⟩:=hrel
  by_cases hlt:i < l.length
  ·obtain ⟨x,hx⟩:∃ x,l[i]? = some x:=⟨_,List.getElem?_eq_getElem hlt⟩
   obtain ⟨b,off,hAe,hbl,hr⟩:=hrw.at_ kcV_len hx
   subst hAe
   have h0:wr.cell? ⟨b,off+i*17,none⟩=some (.int .u32 (x.1:Int)):=hr 0 _ rfl
   have hi0:(0:Int)≤(i:Int):=by omega
   have hil:(i:Int) < (l.length:Int):=by omega
   clear hr hrw
   by_cases e:x.1=id
   ·have e3:((x.1:Int) == (id:Int))=true:=by simp [e]
    have hg:=kget_first (x:=x) hx (by rw [e];exact hf.out)
    rw [e] at hg
    have hxx:l[i]? = some (id,kget l id):=by rw [hx,hg,← e]
    replace hxx:=Lib.hid hxx
    clear hx hg e
    go_wp2
    go_ret2
    exact ⟨l,i,⟨_,_,c⟩,rfl,hxx.out,hf.out,rfl,hok.out,⟨rfl,h.out⟩,Fr.refl _ _,.inl rfl⟩
   ·have e3:((x.1:Int) == (id:Int))=false:=beq_eq_false_iff_ne.2 (by omega)
    have hf':Hid (FirstK l (i+1) id):=Lib.hid fun j y hj hy=>by
     by_cases hji:j=i
     ·subst hji;rw [hx] at hy;injection hy with hy;subst hy;exact e
     ·exact hf.out j y (by omega) hy
    clear hx hf e
    go_wp2
    go_roundg (l.length - (i+1))
    case measure=>omega
    case rel=>exact ⟨i+1,by omega,by go_num,hf',rfl,rfl⟩
  ·obtain rfl:i=l.length:=by omega
   have hno:∀ y∈l,y.1≠id:=fun y hy=>by
    obtain ⟨j,hj⟩:=List.getElem?_of_mem hy
    exact hf.out j y (List.getElem?_eq_some_iff.1 hj).1 hj
   replace hno:=Lib.hid hno
   clear hrw hf
   have hown:=own_fr h.out ((Fr.refl nope wr).alloc (.cells (kcV (id,fun _=>0)).toArray 94)) (fun _ _ x=>x)
   go_wp2_with (first
    | (refine wpList_build1 (l:=kcV (id,fun _=>0)) rfl rfl rfl Tryz.underlying87 infoKC rfl (by omega) (by decide) ?_)
    | refine wpList_app (v:=.slice A l.length c) rfl rfl Tryz.underlying87 infoKC rfl (by omega) rfl hown rfl (news:=kcV (id,fun _=>0)) rfl (fun _=>cells_new _ _ _ _ (by simp)) (kcV_one _) (by simp only [maxLen];omega) (by omega) (by simp;omega) ?hm)
   case hm=>
    intro v5 w5 hown5 hf5 hb5
    obtain ⟨A5,c5,rfl,_,_⟩:=own_slice hown5
    have hres:KRow w5 B ⟨A5,(l ++ [(id,fun _=>0)]).length,c5⟩ (l ++ [(id,fun _=>0)]):=by
     refine ⟨rfl,?_⟩
     rw [List.flatMap_append,List.length_append]
     exact hown5
    have hf':Fr (fun b=>(Value.slice A l.length c).ownBlock=some b) wr w5:=((Fr.refl _ wr).alloc _).then hf5
    replace hb5:=Lib.hid hb5
    replace hres:=Lib.hid hres
    clear hown5 hown
    go_wp2
    go_ret2
    refine ⟨l ++ [(id,fun _=>0)],l.length,⟨A5,_,c5⟩,?_,?_,?_,kget_snoc hno.out,hok.out.snoc hid hno.out _,hres.out,hf',?_⟩
    ·simp [SV.val]
    ·rw [List.getElem?_append_right (Nat.le_refl _),Nat.sub_self,kget_none hno.out]
     rfl
    ·intro j y hj hy
     rw [List.getElem?_append_left hj] at hy
     exact hno.out y (List.mem_of_getElem? hy)
    ·have:=hb5.out
     simp only [SV.val,List.length_append,List.length_singleton] at this ⊢
     rcases this with h1 | h1
     ·exact .inl h1
     ·exact .inr ⟨_,h1,by simp⟩
def rdOK (o b:Nat→Int) (m:Nat):Prop:=∀ i,i < 16→m.testBit i=true→o i≠0→o i=b i
theorem u16_bit (m b:Nat) (hm:m < 65536):bits .and .u16 ((m:Int) / 2 ^ b) 1=if m.testBit b then 1 else 0:=by
 have e:((m:Int) / 2 ^ b)=((m >>> b:Nat):Int):=by simp [Nat.shiftRight_eq_div_pow]
 have hl:m >>> b < 65536:=by rw [Nat.shiftRight_eq_div_pow];exact Nat.lt_of_le_of_lt (Nat.div_le_self _ _) hm
 have:=u16_and (m >>> b) 1 hl (by omega)
 rw [e]
 refine this.trans ?_
 have h2:(m >>> b) &&& 1=if m.testBit b then 1 else 0:=by
  rw [Nat.and_one_is_mod,Nat.testBit]
  have h3:(m >>> b) % 2=0∨(m >>> b) % 2=1:=by omega
  rcases h3 with h | h<;>simp [h,Nat.and_comm,Nat.and_one_is_mod]
 rw [h2]
 split<;>rfl
theorem kc_cell {w:World} {g:Nat} {x:KC} {t:TypeId} (h:w.heap[g]? = some (.cells (kcV x).toArray t (0,0))) {i:Nat} (hi:i < 16):w.cell? ⟨g,1+i,none⟩=some (.int .i64 (x.2 i)):=by
 rw [cell_of_row w g _ _ _ (0,0) h,List.getElem?_toArray]
 exact kcV_bit x hi
set_option maxHeartbeats 2000000 in
theorem keepReads_calls (w:World) (x y:KC) (m:Nat) (hm:m < 65536) (h:rdOK x.2 y.2 m):
  Calls Tryz.prog 43 #[.agg (kcV x).toArray,.agg (kcV y).toArray,.int .u16 (m:Int)] w (GivesB w true):=by
 go_enter Tryz.func43,Tryz.ntmps43
 go_wp2
 have hb1:=((Fr.refl nope _).alloc (.cells (kcV y).toArray 94)).heap (heap_alloc_new w (.cells (kcV x).toArray 94)) (fun x=>x)
 have hb2:=heap_alloc_new (w.alloc (.cells (kcV x).toArray 94)) (.cells (kcV y).toArray 94)
 have hn0:Fr nope w ((w.alloc (.cells (kcV x).toArray 94)).alloc (.cells (kcV y).toArray 94)):=((Fr.refl _ _).alloc _).alloc _
 have e1:(w.alloc (.cells (kcV x).toArray 94)).heap.size=w.heap.size+1:=by simp
 rw [e1] at hb2
 try rw [e1]
 generalize (w.alloc (.cells (kcV x).toArray 94)).alloc (.cells (kcV y).toArray 94)=w0 at hb1 hb2 hn0 ⊢
 clear e1
 go_loopg [7] 16 (fun n c7 wr=>∃ i:Nat,i≤16∧c7 = .int .i64 (i:Int)∧Fr nope w0 wr∧n=16 - i)
 case atStart=>exact ⟨0,Nat.zero_le _,rfl,Fr.refl _ _,rfl⟩
 case round=>
  obtain ⟨i,hi,rfl,hf,rfl⟩:=hrel
  by_cases hlt:i < 16
  ·have hcx:=kc_cell (hf.heap hb1 (fun x=>x)) hlt
   have hcy:=kc_cell (hf.heap hb2 (fun x=>x)) hlt
   have hi0:(0:Int)≤(i:Int):=by omega
   have hi1:(i:Int) < 16:=by omega
   have hi2:(i:Int)≤16:=by omega
   have hbit:=u16_bit m i hm
   cases hb:m.testBit i with
   | false=>
    simp only [hb,Bool.false_eq_true,if_false] at hbit
    replace hb:=Lib.hid hb
    go_wp2
    go_quiet (fail)
    go_wp2
    go_roundg (16 - (i+1))
    case measure=>omega
    case rel=>exact ⟨i+1,by omega,by go_num,hf.drewN _,rfl⟩
   | true=>
    simp only [hb,if_true] at hbit
    have hr:=h i hlt hb
    generalize x.2 i=u at hcx hr
    generalize y.2 i=v at hcy hr
    replace hb:=Lib.hid hb
    by_cases h0:u=0
    ·subst h0
     clear hr
     go_wp2
     go_quiet (fail)
     go_wp2
     go_roundg (16 - (i+1))
     case measure=>omega
     case rel=>exact ⟨i+1,by omega,by go_num,hf.drewN _,rfl⟩
    ·obtain rfl:=hr h0
     go_wp2
     go_quiet (fail)
     go_wp2
     go_roundg (16 - (i+1))
     case measure=>omega
     case rel=>exact ⟨i+1,by omega,by go_num,hf.drewN _,rfl⟩
  ·go_wp2
   go_ret
   exact ⟨rfl,hn0.then hf⟩
def wrF (f:Nat→Int) (m:Nat) (z:Int) (k:Nat):Nat→Int:=fun b=>if b < k∧m.testBit b=true then z else f b
theorem kcV_set (x:KC) {i:Nat} (hi:i < 16) (z:Int) (f:Nat→Int) (h:∀ b,f b=if b=i then z else x.2 b):((kcV x).toArray.setIfInBounds (1+i) (.int .i64 z))=(kcV (x.1,f)).toArray:=by
 rw [List.setIfInBounds_toArray]
 congr 1
 unfold kcV
 rw [Nat.add_comm,List.set_cons_succ]
 congr 1
 refine List.ext_getElem? fun j=>?_
 rw [List.getElem?_set,List.getElem?_map,List.getElem?_map]
 by_cases hj:j < 16
 ·rw [List.getElem?_range hj,Option.map_some,Option.map_some]
  show _=some (Value.int .i64 (f j))
  rw [h j]
  by_cases e:i=j
  ·subst e;simp [hi]
  ·rw [if_neg e,if_neg (fun h=>e h.symm)]
 ·rw [List.getElem?_eq_none (by simp;omega)]
  simp
  omega
theorem wrF_step (f:Nat→Int) (m:Nat) (z:Int) (k:Nat):wrF f m z (k+1)=if m.testBit k=true then fun b=>if b=k then z else wrF f m z k b else wrF f m z k:=by
 funext b
 unfold wrF
 by_cases hb:m.testBit k=true
 ·rw [if_pos hb]
  by_cases e:b=k
  ·subst e;simp [hb]
  ·have:(b < k+1)=(b < k):=by apply propext;omega
   simp [e,this]
 ·rw [if_neg hb]
  by_cases e:b=k
  ·subst e;simp [hb]
  ·have:(b < k+1)=(b < k):=by apply propext;omega
   simp [this]
set_option maxHeartbeats 2000000 in
theorem keepWrites_calls (w:World) (x:KC) (m:Nat) (hm:m < 65536) (z:Int):
  Calls Tryz.prog 44 #[.agg (kcV x).toArray,.int .u16 (m:Int),.int .i64 z] w fun e w'=>e = .returned (.agg (kcV (x.1,wrF x.2 m z 16)).toArray)∧Fr nope w w':=by
 go_enter Tryz.func44,Tryz.ntmps44
 go_wp2
 have hb1:=((Fr.refl nope _).alloc (.cells (kcV (0,fun _=>0)).toArray 94)).heap (heap_alloc_new w (.cells (kcV x).toArray 94)) (fun x=>x)
 have hb2:=heap_alloc_new (w.alloc (.cells (kcV x).toArray 94)) (.cells (kcV (0,fun _=>0)).toArray 94)
 have hn0:Fr nope w ((w.alloc (.cells (kcV x).toArray 94)).alloc (.cells (kcV (0,fun _=>0)).toArray 94)):=((Fr.refl _ _).alloc _).alloc _
 have e1:(w.alloc (.cells (kcV x).toArray 94)).heap.size=w.heap.size+1:=by simp
 rw [e1] at hb2
 try rw [e1]
 have hk0:(kcV (0,fun _=>0)).toArray = #[.int .u32 0,.int .i64 0,.int .i64 0,.int .i64 0,.int .i64 0,.int .i64 0,.int .i64 0,.int .i64 0,.int .i64 0,.int .i64 0,.int .i64 0,.int .i64 0,.int .i64 0,.int .i64 0,.int .i64 0,.int .i64 0,.int .i64 0]:=rfl
 rw [hk0] at hb1 hb2 hn0
 generalize (w.alloc (.cells (kcV x).toArray 94)).alloc (.cells #[.int .u32 0,.int .i64 0,.int .i64 0,.int .i64 0,.int .i64 0,.int .i64 0,.int .i64 0,.int .i64 0,.int .i64 0,.int .i64 0,.int .i64 0,.int .i64 0,.int .i64 0,.int .i64 0,.int .i64 0,.int .i64 0,.int .i64 0] 94)=w0 at hb1 hb2 hn0 ⊢
 rw [← hk0] at hb2
 clear hk0
 clear e1
 have hl0:=lt_of_heap hb2
 have e0:x=(x.1,wrF x.2 m z 0):=by
  refine Prod.ext rfl (funext fun b=>?_)
  show x.2 b=wrF x.2 m z 0 b
  unfold wrF
  rw [if_neg (fun h=>absurd h.1 (Nat.not_lt_zero b))]
 rw [e0] at hb1
 replace e0:=Lib.hid e0
 go_loopg [7] 16 (fun n c7 wr=>∃ i:Nat,i≤16∧c7 = .int .i64 (i:Int)∧wr.heap[w.heap.size]? = some (.cells (kcV (x.1,wrF x.2 m z i)).toArray 94 (0,0))∧Fr (fun b=>b=w.heap.size) w0 wr∧n=16 - i)
 case atStart=>exact ⟨0,Nat.zero_le _,rfl,hb1,Fr.refl _ _,rfl⟩
 case round=>
  clear hb1
  obtain ⟨i,hi,rfl,hb1,hf,rfl⟩:=hrel
  have hl1:=lt_of_heap hb1
  by_cases hlt:i < 16
  ·have hcx:=kc_cell hb1 hlt
   have hzx:=frozen_row hb1 (1+i)
   have hi0:(0:Int)≤(i:Int):=by omega
   have hi1:(i:Int) < 16:=by omega
   have hi2:(i:Int)≤16:=by omega
   have hbit:=u16_bit m i hm
   have hst:=wrF_step x.2 m z i
   cases hb:m.testBit i with
   | false=>
    simp only [hb,Bool.false_eq_true,if_false] at hbit hst
    replace hst:=Lib.hid hst
    go_wp2
    go_roundg (16 - (i+1))
    case measure=>omega
    case rel=>exact ⟨i+1,by omega,by go_num,by rw [hst.out];exact hb1,hf,rfl⟩
   | true=>
    simp only [hb,if_true] at hbit hst
    have hrow:=setCell_heap (k:=1+i) hb1 (.int .i64 z)
    rw [kcV_set (x.1,wrF x.2 m z i) hlt z (wrF x.2 m z (i+1)) (fun b=>by rw [hst])] at hrow
    replace hst:=Lib.hid hst
    replace hrow:=Lib.hid hrow
    go_wp2
    go_roundg (16 - (i+1))
    case measure=>omega
    case rel=>exact ⟨i+1,by omega,by go_num,hrow.out,hf.then ((Fr.refl (fun b=>b=w.heap.size) wr).setCell (.inl rfl) _),rfl⟩
  ·obtain rfl:i=16:=by omega
   have hb2':=hf.heap hb2 (by omega)
   go_wp2_with (first
    | (refine wpList_loadRow (b:=w.heap.size) (cells:=(kcV (x.1,wrF x.2 m z 16)).toArray) rfl rfl rfl hb1 Tryz.underlying94 rfl (by kernel_rfl) ?_)
    | (refine wpList_storeRow (b:=w.heap.size+1) (cells:=(kcV (x.1,wrF x.2 m z 16)).toArray) rfl rfl rfl rfl hb2' rfl (by kernel_rfl) (all_oneCell_toArray (kcV_one _)) ?_;intro w3 hb3 hf3))
   refine bodyPost_ret (results_cell_row rfl _ _ (w.heap.size+1) _ _ _ _ rfl hb3 Tryz.underlying94 rfl (by kernel_rfl)) rfl ?_
   exact ⟨rfl,(hn0.then_new hf (fun x hx e=>by omega)).then_new hf3 (fun x hx e=>by omega)⟩
end
section
open Go Go.RowKit Bth
set_option maxRecDepth 100000
theorem tmod_bd (x y:Int) (h:0 < y):-y < x.tmod y∧x.tmod y < y:=by
 have h1:=Int.tmod_lt_of_pos x h
 have h2:=Int.tmod_lt_of_pos (-x) h
 rw [Int.neg_tmod] at h2
 omega
theorem oV_int (o:Option Nat):∃ z:Int,oV o = .int .i64 z∧(∀ s:Nat,z=(s:Int)→o=some s) ∧ -1≤z:=by
 cases o with
 | none=>exact ⟨-1,rfl,fun s h=>by omega,by omega⟩
 | some s=>exact ⟨s,rfl,fun t h=>by congr 1;omega,by omega⟩
set_option maxHeartbeats 2000000 in
theorem keepNext_calls (w:World) (A:Option Addr) (c:Nat) (l:List (Option Nat)) (hl:l.length≤1048576) (h:Rw w 3 1 A l.length (l.map oV)) (z:Int) (n:Nat):
  Calls Tryz.prog 45 #[.slice A l.length c,.int .i64 z,.int .i64 (n:Int)] w fun e w'=>Fr nope w w'∧∃ r:Int,e = .returned (.int .i64 r)∧(r = -1∨∃ s:Nat,r=(s:Int)∧some s∈l∧s < n):=by
 go_enter Tryz.func45,Tryz.ntmps45
 go_wp2
 go_loopg [7,8] l.length (fun m c7 c8 wr=>∃ (k:Nat) (D:List Nat) (A':Option Addr) (c':Nat),k≤l.length∧c8 = .int .i64 (k:Int)∧c7 = .slice A' D.length c'∧wr.ownsRow w.heap.size 3 1 (.slice A' D.length c') D.length (D.map fun s:Nat=>Value.int .i64 (s:Int)) ∧
  Hid (∀ s∈D,some s∈l∧s < n)∧D.length≤k∧Fr nope w wr∧m=l.length - k)
 case atStart=>exact ⟨0,[],none,0,Nat.zero_le _,rfl,rfl,own_nil _ _ _ _,Lib.hid (by simp),Nat.le_refl _,Fr.refl _ _,rfl⟩
 case round=>
  obtain ⟨k,D,A',c',hk,rfl,rfl,hown,hD,hDk,hf,rfl⟩:=hrel
  by_cases hlt:k < l.length
  ·obtain ⟨o,ho⟩:∃ o,l[k]? = some o:=⟨_,List.getElem?_eq_getElem hlt⟩
   obtain ⟨b,off,hAe,hbl,hc0⟩:=(h.nope hf).one (k:=k) (v:=oV o) (by rw [List.getElem?_map,ho];rfl)
   subst hAe
   obtain ⟨x,hox,hxs,hx1⟩:=oV_int o
   rw [hox] at hc0
   have hk0:(0:Int)≤(k:Int):=by omega
   have hk1:(k:Int) < (l.length:Int):=by omega
   have hol:=List.mem_of_getElem? ho
   replace hxs:=Lib.hid hxs
   replace hol:=Lib.hid hol
   clear ho hox
   by_cases hx0:0≤x
   ·by_cases hxn:x < (n:Int)
    ·obtain ⟨s,rfl⟩:∃ s:Nat,x=(s:Int):=⟨x.toNat,by omega⟩
     have hD':Hid (∀ t∈D ++ [s],some t∈l∧t < n):=Lib.hid fun t ht=>by
      rcases List.mem_append.1 ht with h | h
      ·exact hD.out t h
      ·obtain rfl:t=s:=by simpa using h
       exact ⟨by rw [← hxs.out t rfl];exact hol.out,by omega⟩
     clear hD hxs hol
     go_wp2_with (refine wpList_app (v:=.slice A' D.length c') rfl rfl Tryz.underlying23 infoInt rfl (by omega) rfl (own_fr hown ((Fr.refl nope _).alloc _) (fun _ _ x=>x)) rfl (news:=[.int .i64 (s:Int)]) rfl (one_new _ _ _ _ rfl) (by simp [Value.oneCell']) (by simp only [maxLen];omega) (by omega) (by have:=hf.size;simp;omega) ?hk)
     case hk=>
      intro v3 w3 hown3 hf3 hb3
      obtain ⟨A3,c3,rfl,_,_⟩:=own_slice hown3
      have hbo:=own_base hown
      clear hb3
      go_wp2
      go_roundg (l.length - (k+1))
      case measure=>omega
      case rel=>
       refine ⟨k+1,D ++ [s],A3,c3,by omega,by go_num,by simp,?_,hD',by simp;omega,(hf.alloc _).then_new hf3 (fun y hy e=>by have:=hbo y e;omega),rfl⟩
       rw [List.length_append,List.map_append]
       exact hown3
    ·go_wp2
     go_roundg (l.length - (k+1))
     case measure=>omega
     case rel=>exact ⟨k+1,D,A',c',by omega,by go_num,rfl,hown,hD,by omega,hf,rfl⟩
   ·go_wp2
    go_roundg (l.length - (k+1))
    case measure=>omega
    case rel=>exact ⟨k+1,D,A',c',by omega,by go_num,rfl,hown,hD,by omega,hf,rfl⟩
  ·by_cases h0:D.length=0
   ·have h0':((D.length:Int) == 0)=true:=by simp [h0]
    go_wp2
    go_ret
    exact ⟨hf,-1,rfl,.inl rfl⟩
   ·have h0':((D.length:Int) == 0)=false:=by rw [beq_eq_false_iff_ne];omega
    have h0'':¬((D.length:Int)=0):=by omega
    obtain ⟨hr1,hr2⟩:=tmod_bd z D.length (by omega)
    obtain ⟨g,hA,hgl,hcs⟩:=own_cells hown (by omega)
    subst hA
    obtain ⟨r,hr⟩:∃ r,r=Int.tmod z D.length:=⟨_,rfl⟩
    have fin:∀ j:Nat,j < D.length→∃ s:Nat,wr.cell? ⟨g,j,none⟩=some (.int .i64 (s:Int))∧some s∈l∧s < n:=fun j hj=>by
     obtain ⟨s,hs⟩:∃ s,D[j]? = some s:=⟨_,List.getElem?_eq_getElem hj⟩
     have:=hD.out s (List.mem_of_getElem? hs)
     exact ⟨s,hcs j _ (by rw [List.getElem?_map,hs];rfl),this.1,this.2⟩
    replace fin:=Lib.hid fin
    clear hcs hD hown
    by_cases hneg:r < 0
    ·obtain ⟨j,hj⟩:∃ j:Nat,r+D.length=(j:Int):=⟨(r+D.length).toNat,by omega⟩
     have hjl:j < D.length:=by omega
     obtain ⟨s,hcj,hs1,hs2⟩:=fin.out j hjl
     have hj0:(0:Int)≤(j:Int):=by omega
     have hj1:(j:Int) < (D.length:Int):=by omega
     have hneg':Int.tmod z D.length < 0:=by omega
     rw [hr] at hj
     replace hs1:=Lib.hid hs1
     clear fin hr hneg
     go_wp2
     go_ret
     exact ⟨hf,s,rfl,.inr ⟨s,rfl,hs1.out,hs2⟩⟩
    ·obtain ⟨j,hj⟩:∃ j:Nat,r=(j:Int):=⟨r.toNat,by omega⟩
     have hjl:j < D.length:=by omega
     obtain ⟨s,hcj,hs1,hs2⟩:=fin.out j hjl
     have hj0:(0:Int)≤(j:Int):=by omega
     have hj1:(j:Int) < (D.length:Int):=by omega
     rw [hr] at hj
     replace hs1:=Lib.hid hs1
     clear fin hr hneg
     go_wp2
     go_ret
     exact ⟨hf,s,rfl,.inr ⟨s,rfl,hs1.out,hs2⟩⟩
end
section
open Go Go.RowKit Bth
set_option maxRecDepth 100000
theorem setCells_mid {b:Nat} {t:TypeId} {fr:Nat × Nat} : ∀ (vs pre mid suf:List Value) (w:World),mid.length=vs.length→w.heap[b]? = some (.cells (pre ++ mid ++ suf).toArray t fr)→(w.setCells b pre.length vs).heap[b]? = some (.cells (pre ++ vs ++ suf).toArray t fr):=by
 intro vs
 induction vs with
 | nil=>
  intro pre mid suf w hl h
  obtain rfl:mid=[]:=by simpa using hl
  simpa [World.setCells] using h
 | cons v vs ih=>
  intro pre mid suf w hl h
  cases mid with
  | nil=>simp at hl
  | cons u mid=>
   have h2:=setCell_heap (k:=pre.length) h v
   have e:((pre ++ u :: mid ++ suf).toArray.setIfInBounds pre.length v)=((pre ++ [v]) ++ mid ++ suf).toArray:=by simp
   rw [e] at h2
   have:=ih (pre ++ [v]) mid suf (w.setCell ⟨b,pre.length,none⟩ v) (by simpa using hl) h2
   simpa [World.setCells] using this
theorem KRow.fr {S:Nat→Prop} {w w':World} {B:Nat} {s:SV} {l:List KC} (h:KRow w B s l) (hf:Fr S w w') (hs:∀ b,s.val.ownBlock=some b→¬S b):KRow w' B s l:=⟨h.1,own_fr h.2 hf hs⟩
theorem KRow.at_ {w:World} {B:Nat} {s:SV} {l:List KC} (h:KRow w B s l) {k:Nat} {x:KC} (hk:l[k]? = some x):
  ∃ g,s.A=some ⟨g,0,none⟩∧s.val.ownBlock=some g∧g < w.heap.size∧B≤g∧w.rangeAt g (k*17) (kcV x)∧w.there g (k*17) 17:=by
 obtain ⟨A,n,c⟩:=s
 obtain ⟨hn,h⟩:=h
 have hn:n=l.length:=hn
 subst hn
 have hkl:=(List.getElem?_eq_some_iff.1 hk).1
 simp only [SV.val] at h ⊢
 obtain ⟨g,hA,hg,hc⟩:=own_cells h (by omega)
 subst hA
 have hB:=own_base h g rfl
 have hr:w.rangeAt g (k*17) (kcV x):=fun j v hv=>hc _ v (flat_get kcV_len hk j v hv)
 refine ⟨g,rfl,rfl,hg,hB,hr,fun j hj=>?_⟩
 have hjv:(kcV x)[j]? = some ((kcV x)[j]'(by rw [kcV_len];exact hj)):=List.getElem?_eq_getElem _
 refine ⟨by rw [hr j _ hjv];rfl,?_⟩
 obtain ⟨_,h2⟩:=h
 rcases h2 with ⟨h1,h0⟩ | ⟨g',cap,cur,h1,_,hh,_⟩
 ·omega
 ·injection h1 with h1 _ _
  injection h1 with h1
  injection h1 with h1
  subst h1
  simp [World.frozen?,hh]
theorem KRow.set {w:World} {B:Nat} {s:SV} {l:List KC} (h:KRow w B s l) {k:Nat} {x:KC} (hk:l[k]? = some x) (y:KC) {g:Nat} (hg:s.val.ownBlock=some g):
  KRow (w.setCells g (k*17) (kcV y)) B s (l.set k y)∧Fr (fun b=>b=g) w (w.setCells g (k*17) (kcV y)):=by
 obtain ⟨hn,hl,h2⟩:=h
 have hkl:=(List.getElem?_eq_some_iff.1 hk).1
 rcases h2 with ⟨h1,h0⟩ | ⟨g',cap,cur,h1,hb,hh,h3,h4,h5,h6⟩
 ·omega
 ·rw [h1] at hg
  injection hg with hg
  have hg:g'=g:=hg
  subst hg
  obtain ⟨pre,hpre⟩:∃ pre,pre=(l.take k).flatMap kcV:=⟨_,rfl⟩
  obtain ⟨suf,hsuf⟩:∃ suf,suf=(l.drop (k+1)).flatMap kcV:=⟨_,rfl⟩
  have hs1:l.flatMap kcV=pre ++ kcV x ++ suf:=by
   have e:l=l.take k ++ x :: l.drop (k+1):=by
    conv=>lhs;rw [← List.take_append_drop (k+1) l,List.take_add_one,hk]
    simp
   conv=>lhs;rw [e]
   rw [hpre,hsuf,List.flatMap_append,List.flatMap_cons,List.append_assoc]
  have hs2:(l.set k y).flatMap kcV=pre ++ kcV y ++ suf:=by
   rw [List.set_eq_take_append_cons_drop,if_pos hkl,hpre,hsuf,List.flatMap_append,List.flatMap_cons,List.append_assoc]
  have hpl:pre.length=k*17:=by rw [hpre,flat_len kcV_len,List.length_take,Nat.min_eq_left (by omega)]
  have hcur:cur.toList=pre ++ kcV x ++ (suf ++ cur.toList.drop (l.length*17)):=by
   conv=>lhs;rw [← List.take_append_drop (l.length*17) cur.toList,h6,hs1]
   simp
  have hh':w.heap[g']? = some (.cells (pre ++ kcV x ++ (suf ++ cur.toList.drop (l.length*17))).toArray 94 (0,0)):=by rw [← hcur];simpa using hh
  have hset:=setCells_mid (kcV y) pre (kcV x) _ w rfl hh'
  rw [hpl] at hset
  have hsz:(pre ++ kcV y ++ (suf ++ cur.toList.drop (l.length*17))).length=cap*17:=by
   have e1:=congrArg List.length hcur
   simp only [List.length_append,kcV_len,Array.length_toList] at e1 ⊢
   omega
  have hfl:(pre ++ kcV y ++ suf).length=l.length*17:=by
   have:=flat_len kcV_len (l.set k y)
   rw [hs2,List.length_set] at this
   exact this
  refine ⟨⟨by rw [List.length_set];exact hn,by rw [List.length_set,hs2];exact hfl,.inr ⟨g',cap,_,by rw [List.length_set];exact h1,hb,hset,by rw [List.length_set];exact h3,h4,by simpa using hsz,?_⟩⟩,setCells_fr _ _ _ _ (Fr.refl _ _) (.inl rfl)⟩
  rw [List.length_set,hs2]
  simp only [← List.append_assoc]
  rw [← hfl,List.take_left']
  rfl
structure KSt (w:World) (B:Nat) (so sb:SV) (ow bn:List KC):Prop where
 o:KRow w B so ow
 b:KRow w B sb bn
 ne:∀ x,so.val.ownBlock=some x→sb.val.ownBlock≠some x
 oo:KlOk ow
 ob:KlOk bn
theorem KSt.swap {w:World} {B:Nat} {so sb:SV} {ow bn:List KC} (h:KSt w B so sb ow bn):KSt w B sb so bn ow:=⟨h.b,h.o,fun x h1 h2=>h.ne x h2 h1,h.ob,h.oo⟩
theorem KSt.nope {w w':World} {B:Nat} {so sb:SV} {ow bn:List KC} (h:KSt w B so sb ow bn) (hf:Fr nope w w'):KSt w' B so sb ow bn:=⟨h.o.fr hf (fun _ _ x=>x),h.b.fr hf (fun _ _ x=>x),h.ne,h.oo,h.ob⟩
theorem KSt.step {w w':World} {B:Nat} {so sb s':SV} {ow bn l':List KC} (h:KSt w B so sb ow bn) (hr:KRow w' B s' l') (hk:KlOk l') (hf:Fr (fun b=>so.val.ownBlock=some b) w w') (hb:s'.val.ownBlock=so.val.ownBlock∨∃ b,s'.val.ownBlock=some b∧w.heap.size≤b):KSt w' B s' sb l' bn:=by
 refine ⟨hr,h.b.fr hf (fun b h1 h2=>h.ne b h2 h1),fun x h1 h2=>?_,hk,h.ob⟩
 rcases hb with hb | ⟨b,hb,hge⟩
 ·rw [hb] at h1
  exact h.ne x h1 h2
 ·rw [hb] at h1
  injection h1 with h1
  have:=own_lt h.b.2 x h2
  omega
theorem KSt.set {w:World} {B:Nat} {so sb:SV} {ow bn:List KC} (h:KSt w B so sb ow bn) {k:Nat} {x:KC} (hk:ow[k]? = some x) (f:Nat→Int) {g:Nat} (hg:so.val.ownBlock=some g):
  KSt (w.setCells g (k*17) (kcV (x.1,f))) B so sb (ow.set k (x.1,f)) bn∧Fr (fun b=>b=g) w (w.setCells g (k*17) (kcV (x.1,f))):=by
 obtain ⟨h1,h2⟩:=h.o.set hk (x.1,f) hg
 exact ⟨⟨h1,h.b.fr h2 (fun b hb e=>by subst e;exact h.ne b hg hb),h.ne,h.oo.set hk f,h.ob⟩,h2⟩
end
section
open Go Go.RowKit Bth
set_option maxRecDepth 100000
theorem noneT_abs {T:List Nat} {listed:Array Bool} (h:(T.all fun t=>!(listed.getD t true))=false):¬noneT T listed:=fun hn=>by
 have:(T.all fun t=>!(listed.getD t true))=true:=List.all_eq_true.2 fun t ht=>by simpa using hn t ht
 rw [h] at this;cases this
noncomputable def kpReg (i:Nat):Array Oper:=findReg i (Tryz.f17.body.getD .skip)
theorem idxK (g n c p:Nat) (hp:p < n) (w:World):(Instr.indexAt 87 (.slice (some ⟨g,0,none⟩) n c) (.int .i64 (p:Int))).run Tryz.prog w = .ok (.pointer (some ⟨g,p*17,none⟩)) w:=by
 have h0:(0:Int)≤(p:Int):=by omega
 have h1:(p:Int) < (n:Int):=by omega
 go_simp
theorem idxI (b off n c p:Nat) (hp:p < n) (w:World):(Instr.indexAt 23 (.slice (some ⟨b,off,none⟩) n c) (.int .i64 (p:Int))).run Tryz.prog w = .ok (.pointer (some ⟨b,off+p,none⟩)) w:=by
 have h0:(0:Int)≤(p:Int):=by omega
 have h1:(p:Int) < (n:Int):=by omega
 go_simp
theorem idxS (b off n c p:Nat) (hp:p < n) (w:World):(Instr.indexAt 28 (.slice (some ⟨b,off,none⟩) n c) (.int .i64 (p:Int))).run Tryz.prog w = .ok (.pointer (some ⟨b,off+p,none⟩)) w:=by
 have h0:(0:Int)≤(p:Int):=by omega
 have h1:(p:Int) < (n:Int):=by omega
 go_simp
theorem fldL (b:Nat) (w:World):(Instr.fieldAt 77 (.pointer (some ⟨b,0,none⟩)) 1).run Tryz.prog w = .ok (.pointer (some ⟨b,1,none⟩)) w:=by go_simp
set_option maxHeartbeats 2000000 in
theorem rg16 {a0:Act} {w:World} {Q:Exit→Act→World→Prop} {S R:World→Prop} {so sb:SV} {p q g1 g2 xb m:Nat} {cx cy:List Value} {r:Bool}
  (h0:Bun a0 167 [(12,so.val),(19,.int .i64 (p:Int)),(13,sb.val),(20,.int .i64 (q:Int)),(18,.pointer (some ⟨xb,0,none⟩))]) (hQ:∀ d v c a w,Q (.panic c) (a.put d v) w→Q (.panic c) a w)
  (h1:so.A=some ⟨g1,0,none⟩) (h2:sb.A=some ⟨g2,0,none⟩) (hp:p < so.n) (hq:q < sb.n) (hcx:cx.length=17) (hcy:cy.length=17) (hS0:S w.drew) (hS:∀ w,S w→w.rangeAt g1 (p*17) cx∧w.rangeAt g2 (q*17) cy∧w.cell? ⟨xb,1,none⟩=some (.int .u16 (m:Int)))
  (hc:Calls Tryz.prog 43 #[.agg cx.toArray,.agg cy.toArray,.int .u16 (m:Int)] w.drew fun e w'=>e = .returned (.bool r)∧R w'∧S w')
  (h:∀ w',R w'→Q .normal (putL a0 [(85,so.val),(86,.int .i64 (p:Int)),(87,.pointer (some ⟨g1,p*17,none⟩)),(88,.agg cx.toArray),(89,sb.val),(90,.int .i64 (q:Int)),(91,.pointer (some ⟨g2,q*17,none⟩)),(92,.agg cy.toArray),(93,.pointer (some ⟨xb,1,none⟩)),(94,.int .u16 (m:Int)),(95,.bool r),(96,.bool (!r))]) w'):(Code.region 16 (kpReg 16) true).wp Tryz.prog Q a0 w:=by
 refine wp_region_T (S:=S) (T:=[]) (by kernel_rfl) ?_
 rw [show (kpReg 16).size=12 from by kernel_rfl]
 have hT:∀ {l:Array Bool},noneT [] l→S w.drew:=fun _=>hS0
 refine takeM h0 hT hQ 0 85 12 _ (by unfold isB;kernel_rfl) (by kernel_rfl) rfl fun a0 e0 h0=>?_
 refine takeM h0 hT hQ 1 86 19 _ (by unfold isB;kernel_rfl) (by kernel_rfl) rfl fun a1 e1 h0=>?_
 refine takeI h0 hT hQ 2 87 85 86 87 _ _ ⟨g1,p*17,none⟩ (by unfold isB;kernel_rfl) (by kernel_rfl) rfl rfl (fun w=>by rw [SV.val,h1];exact idxK g1 so.n so.c p hp w) fun a2 e2 h0=>?_
 refine takeS h0 hS0 hQ 3 88 87 94 g1 (p*17) cx _ (by unfold isB;kernel_rfl) (by kernel_rfl) rfl Tryz.underlying94 rfl (by rw [hcx];kernel_rfl) (fun w hw=>(hS w hw).1) fun a3 e3 h0=>?_
 refine takeM h0 hT hQ 4 89 13 _ (by unfold isB;kernel_rfl) (by kernel_rfl) rfl fun a4 e4 h0=>?_
 refine takeM h0 hT hQ 5 90 20 _ (by unfold isB;kernel_rfl) (by kernel_rfl) rfl fun a5 e5 h0=>?_
 refine takeI h0 hT hQ 6 91 89 90 87 _ _ ⟨g2,q*17,none⟩ (by unfold isB;kernel_rfl) (by kernel_rfl) rfl rfl (fun w=>by rw [SV.val,h2];exact idxK g2 sb.n sb.c q hq w) fun a6 e6 h0=>?_
 refine takeS h0 hS0 hQ 7 92 91 94 g2 (q*17) cy _ (by unfold isB;kernel_rfl) (by kernel_rfl) rfl Tryz.underlying94 rfl (by rw [hcy];kernel_rfl) (fun w hw=>(hS w hw).2.1) fun a7 e7 h0=>?_
 refine takeF h0 hT hQ 8 93 18 1 77 _ ⟨xb,1,none⟩ (by unfold isB;kernel_rfl) (by kernel_rfl) rfl (fldL xb) fun a8 e8 h0=>?_
 refine takeC h0 hS0 hQ 9 94 93 75 _ (.int .u16 (m:Int)) (by unfold isB;kernel_rfl) (by kernel_rfl) rfl (fun w hw=>by have hc:=(hS w hw).2.2;go_simp) fun a9 e9 h0=>?_
 refine takeCall h0 10 95 43 [88,92,94] #[94,94,75] [.agg cx.toArray,.agg cy.toArray,.int .u16 (m:Int)] (fun v W=>v = .bool r∧R W∧S W) (by kernel_rfl) (by unfold isB;kernel_rfl) (by kernel_rfl) Tryz.func43 (by kernel_rfl) (by kernel_rfl) rfl ((hc).mono fun e w' h=>⟨_,h.1,rfl,h.2⟩) ?_
 rintro a10 _ w5 ⟨rfl,hR,hS5⟩ e10 h0
 refine ⟨fun _=>hS5,?_⟩
 have hT:∀ {l:Array Bool},noneT [] l→S w5:=fun _=>hS5
 refine takeU h0 hT hQ 11 96 _ (.bool (!r)) (show isB (kpReg 16) 11 96 (.unOp .not 4 (.tmp 95)) from by unfold isB;kernel_rfl) (by kernel_rfl) (fun o e w=>by simp only [execOp,e,h0.at_ 95 _ rfl];go_simp) fun a11 e11 h0=>?_
 refine wpAnyT_done (by kernel_rfl) ?_ _
 subst e11 e10 e9 e8 e7 e6 e5 e4 e3 e2 e1 e0
 exact h _ hR
set_option maxHeartbeats 2000000 in
theorem rg26 {a0:Act} {w:World} {Q:Exit→Act→World→Prop} {S R1 R2:World→Prop} {so sb:SV} {p q g1 g2 xb m:Nat} {z:Int} {cx cy dx dy:List Value}
  (h0:Bun a0 167 [(12,so.val),(23,.int .i64 (p:Int)),(13,sb.val),(24,.int .i64 (q:Int)),(22,.pointer (some ⟨xb,0,none⟩)),(15,.int .i64 z)]) (hQ:∀ d v c a w,Q (.panic c) (a.put d v) w→Q (.panic c) a w)
  (h1:so.A=some ⟨g1,0,none⟩) (h2:sb.A=some ⟨g2,0,none⟩) (hp:p < so.n) (hq:q < sb.n) (hcx:cx.length=17) (hcy:cy.length=17) (hdx:dx.length=17) (hdy:dy.length=17) (odx:∀ v∈dx,v.oneCell'=true) (ody:∀ v∈dy,v.oneCell'=true)
  (hS0:S w.drew) (hS:∀ w,S w→w.rangeAt g1 (p*17) cx∧w.rangeAt g2 (q*17) cy∧w.cell? ⟨xb,1,none⟩=some (.int .u16 (m:Int)))
  (hc:Calls Tryz.prog 44 #[.agg cx.toArray,.int .u16 (m:Int),.int .i64 z] w.drew fun e w'=>e = .returned (.agg dx.toArray)∧R1 w'∧S w')
  (hc2:∀ w1,R1 w1→Calls Tryz.prog 44 #[.agg cy.toArray,.int .u16 (m:Int),.int .i64 z] w1 fun e w'=>e = .returned (.agg dy.toArray)∧R2 w'∧S w')
  (ht:∀ w2,R2 w2→w2.there g1 (p*17) 17∧(w2.setCells g1 (p*17) dx).there g2 (q*17) 17)
  (h:∀ w2,R2 w2→Q .normal (putL a0 [(131,so.val),(132,.int .i64 (p:Int)),(133,sb.val),(134,.int .i64 (q:Int)),(135,so.val),(136,.int .i64 (p:Int)),(137,.pointer (some ⟨g1,p*17,none⟩)),(138,.agg cx.toArray),(139,.pointer (some ⟨xb,1,none⟩)),(140,.int .u16 (m:Int)),(141,.int .i64 z),(143,sb.val),(144,.int .i64 (q:Int)),(145,.pointer (some ⟨g2,q*17,none⟩)),(146,.agg cy.toArray),(147,.pointer (some ⟨xb,1,none⟩)),(148,.int .u16 (m:Int)),(149,.int .i64 z),(142,.agg dx.toArray),(150,.agg dy.toArray),(151,.pointer (some ⟨g1,p*17,none⟩)),(152,.pointer (some ⟨g2,q*17,none⟩))]) ((w2.setCells g1 (p*17) dx).setCells g2 (q*17) dy)):(Code.region 26 (kpReg 26) true).wp Tryz.prog Q a0 w:=by
 refine wp_region_T (S:=S) (T:=[21,23]) (by kernel_rfl) ?_
 rw [show (kpReg 26).size=24 from by kernel_rfl]
 have hT:∀ {l:Array Bool},noneT [21,23] l→S w.drew:=fun _=>hS0
 refine takeM h0 hT hQ 0 131 12 _ (by unfold isB;kernel_rfl) (by kernel_rfl) rfl fun a0 e0 h0=>?_
 refine takeM h0 hT hQ 1 132 23 _ (by unfold isB;kernel_rfl) (by kernel_rfl) rfl fun a1 e1 h0=>?_
 refine takeM h0 hT hQ 2 133 13 _ (by unfold isB;kernel_rfl) (by kernel_rfl) rfl fun a2 e2 h0=>?_
 refine takeM h0 hT hQ 3 134 24 _ (by unfold isB;kernel_rfl) (by kernel_rfl) rfl fun a3 e3 h0=>?_
 refine takeM h0 hT hQ 4 135 12 _ (by unfold isB;kernel_rfl) (by kernel_rfl) rfl fun a4 e4 h0=>?_
 refine takeM h0 hT hQ 5 136 23 _ (by unfold isB;kernel_rfl) (by kernel_rfl) rfl fun a5 e5 h0=>?_
 refine takeI h0 hT hQ 6 137 135 136 87 _ _ ⟨g1,p*17,none⟩ (by unfold isB;kernel_rfl) (by kernel_rfl) rfl rfl (fun w=>by rw [SV.val,h1];exact idxK g1 so.n so.c p hp w) fun a6 e6 h0=>?_
 refine takeS h0 hS0 hQ 7 138 137 94 g1 (p*17) cx _ (by unfold isB;kernel_rfl) (by kernel_rfl) rfl Tryz.underlying94 rfl (by rw [hcx];kernel_rfl) (fun w hw=>(hS w hw).1) fun a7 e7 h0=>?_
 refine takeF h0 hT hQ 8 139 22 1 77 _ ⟨xb,1,none⟩ (by unfold isB;kernel_rfl) (by kernel_rfl) rfl (fldL xb) fun a8 e8 h0=>?_
 refine takeC h0 hS0 hQ 9 140 139 75 _ (.int .u16 (m:Int)) (by unfold isB;kernel_rfl) (by kernel_rfl) rfl (fun w hw=>by have hc:=(hS w hw).2.2;go_simp) fun a9 e9 h0=>?_
 refine takeM h0 hT hQ 10 141 15 _ (by unfold isB;kernel_rfl) (by kernel_rfl) rfl fun a10 e10 h0=>?_
 refine takeM h0 hT hQ 12 143 13 _ (by unfold isB;kernel_rfl) (by kernel_rfl) rfl fun a12 e12 h0=>?_
 refine takeM h0 hT hQ 13 144 24 _ (by unfold isB;kernel_rfl) (by kernel_rfl) rfl fun a13 e13 h0=>?_
 refine takeI h0 hT hQ 14 145 143 144 87 _ _ ⟨g2,q*17,none⟩ (by unfold isB;kernel_rfl) (by kernel_rfl) rfl rfl (fun w=>by rw [SV.val,h2];exact idxK g2 sb.n sb.c q hq w) fun a14 e14 h0=>?_
 refine takeS h0 hS0 hQ 15 146 145 94 g2 (q*17) cy _ (by unfold isB;kernel_rfl) (by kernel_rfl) rfl Tryz.underlying94 rfl (by rw [hcy];kernel_rfl) (fun w hw=>(hS w hw).2.1) fun a15 e15 h0=>?_
 refine takeF h0 hT hQ 16 147 22 1 77 _ ⟨xb,1,none⟩ (by unfold isB;kernel_rfl) (by kernel_rfl) rfl (fldL xb) fun a16 e16 h0=>?_
 refine takeC h0 hS0 hQ 17 148 147 75 _ (.int .u16 (m:Int)) (by unfold isB;kernel_rfl) (by kernel_rfl) rfl (fun w hw=>by have hc:=(hS w hw).2.2;go_simp) fun a17 e17 h0=>?_
 refine takeM h0 hT hQ 18 149 15 _ (by unfold isB;kernel_rfl) (by kernel_rfl) rfl fun a18 e18 h0=>?_
 refine takeCall h0 11 142 44 [138,140,141] #[94,75,3] [.agg cx.toArray,.int .u16 (m:Int),.int .i64 z] (fun v W=>v = .agg dx.toArray∧R1 W∧S W) (by kernel_rfl) (by unfold isB;kernel_rfl) (by kernel_rfl) Tryz.func44 (by kernel_rfl) (by kernel_rfl) rfl ((hc).mono fun e w' h=>⟨_,h.1,rfl,h.2⟩) ?_
 rintro a11 _ w5 ⟨rfl,hR5,hS5⟩ e11 h0
 refine ⟨fun _=>hS5,?_⟩
 refine takeCall h0 19 150 44 [146,148,149] #[94,75,3] [.agg cy.toArray,.int .u16 (m:Int),.int .i64 z] (fun v W=>v = .agg dy.toArray∧R2 W∧S W) (by kernel_rfl) (by unfold isB;kernel_rfl) (by kernel_rfl) Tryz.func44 (by kernel_rfl) (by kernel_rfl) rfl ((hc2 _ hR5).mono fun e w' h=>⟨_,h.1,rfl,h.2⟩) ?_
 rintro a19 _ w6 ⟨rfl,hR6,hS6⟩ e19 h0
 refine ⟨fun _=>hS6,?_⟩
 have hT:∀ {l:Array Bool},noneT [21,23] l→S w6:=fun _=>hS6
 refine takeI h0 hT hQ 20 151 131 132 87 _ _ ⟨g1,p*17,none⟩ (by unfold isB;kernel_rfl) (by kernel_rfl) rfl rfl (fun w=>by rw [SV.val,h1];exact idxK g1 so.n so.c p hp w) fun a20 e20 h0=>?_
 refine takeStore h0 21 151 142 94 g1 (p*17) dx (by kernel_rfl) (by kernel_rfl) rfl rfl (by rw [hdx];exact (ht _ hR6).1) (by rw [hdx];kernel_rfl) odx (by kernel_rfl) ?_
 refine takeI h0 (fun hn=>absurd hn (noneT_abs (by kernel_rfl))) hQ 22 152 133 134 87 _ _ ⟨g2,q*17,none⟩ (by unfold isB;kernel_rfl) (by kernel_rfl) rfl rfl (fun w=>by rw [SV.val,h2];exact idxK g2 sb.n sb.c q hq w) fun a22 e22 h0=>?_
 refine takeStore h0 23 152 150 94 g2 (q*17) dy (by kernel_rfl) (by kernel_rfl) rfl rfl (by rw [hdy];exact (ht _ hR6).2) (by rw [hdy];kernel_rfl) ody (by kernel_rfl) ?_
 refine wpAnyT_done (by kernel_rfl) ?_ _
 subst e22 e20 e19 e11 e18 e17 e16 e15 e14 e13 e12 e10 e9 e8 e7 e6 e5 e4 e3 e2 e1 e0
 exact h _ hR6
set_option maxHeartbeats 2000000 in
theorem rg28 {a0:Act} {w:World} {Q:Exit→Act→World→Prop} {S:World→Prop} {R:Int→World→Prop} {bs os n cs at_ n1 c1 bp op np cp k:Nat} {A1:Option Addr} {z:Int}
  (h0:Bun a0 167 [(2,.slice (some ⟨bs,os,none⟩) n cs),(14,.int .i64 (at_:Int)),(3,.slice (some ⟨bp,op,none⟩) np cp),(16,.int .i64 (k:Int)),(11,.int .i64 (n:Int))]) (hQ:∀ d v c a w,Q (.panic c) (a.put d v) w→Q (.panic c) a w)
  (hat:at_ < n) (hk:k < np) (hS0:S w.drew) (hS:∀ w,S w→w.cell? ⟨bs,os+at_,none⟩=some (.slice A1 n1 c1)∧w.cell? ⟨bp,op+k,none⟩=some (.int .i64 z))
  (hc:Calls Tryz.prog 45 #[.slice A1 n1 c1,.int .i64 z,.int .i64 (n:Int)] w.drew fun e w'=>∃ r:Int,e = .returned (.int .i64 r)∧R r w'∧S w')
  (h:∀ r w',R r w'→Q .normal (putL a0 [(157,.slice (some ⟨bs,os,none⟩) n cs),(158,.int .i64 (at_:Int)),(159,.pointer (some ⟨bs,os+at_,none⟩)),(160,.slice A1 n1 c1),(161,.slice (some ⟨bp,op,none⟩) np cp),(162,.int .i64 (k:Int)),(163,.pointer (some ⟨bp,op+k,none⟩)),(164,.int .i64 z),(165,.int .i64 (n:Int)),(166,.int .i64 r),(14,.int .i64 r)]) w'):(Code.region 28 (kpReg 28) true).wp Tryz.prog Q a0 w:=by
 refine wp_region_T (S:=S) (T:=[]) (by kernel_rfl) ?_
 rw [show (kpReg 28).size=11 from by kernel_rfl]
 have hT:∀ {l:Array Bool},noneT [] l→S w.drew:=fun _=>hS0
 refine takeM h0 hT hQ 0 157 2 _ (by unfold isB;kernel_rfl) (by kernel_rfl) rfl fun a0 e0 h0=>?_
 refine takeM h0 hT hQ 1 158 14 _ (by unfold isB;kernel_rfl) (by kernel_rfl) rfl fun a1 e1 h0=>?_
 refine takeI h0 hT hQ 2 159 157 158 28 _ _ ⟨bs,os+at_,none⟩ (by unfold isB;kernel_rfl) (by kernel_rfl) rfl rfl (idxS bs os n cs at_ hat) fun a2 e2 h0=>?_
 refine takeC h0 hS0 hQ 3 160 159 23 _ (.slice A1 n1 c1) (by unfold isB;kernel_rfl) (by kernel_rfl) rfl (fun w hw=>by have hc:=(hS w hw).1;go_simp) fun a3 e3 h0=>?_
 refine takeM h0 hT hQ 4 161 3 _ (by unfold isB;kernel_rfl) (by kernel_rfl) rfl fun a4 e4 h0=>?_
 refine takeM h0 hT hQ 5 162 16 _ (by unfold isB;kernel_rfl) (by kernel_rfl) rfl fun a5 e5 h0=>?_
 refine takeI h0 hT hQ 6 163 161 162 23 _ _ ⟨bp,op+k,none⟩ (by unfold isB;kernel_rfl) (by kernel_rfl) rfl rfl (idxI bp op np cp k hk) fun a6 e6 h0=>?_
 refine takeC h0 hS0 hQ 7 164 163 3 _ (.int .i64 z) (by unfold isB;kernel_rfl) (by kernel_rfl) rfl (fun w hw=>by have hc:=(hS w hw).2;go_simp) fun a7 e7 h0=>?_
 refine takeM h0 hT hQ 8 165 11 _ (by unfold isB;kernel_rfl) (by kernel_rfl) rfl fun a8 e8 h0=>?_
 refine takeCall h0 9 166 45 [160,164,165] #[23,3,3] [.slice A1 n1 c1,.int .i64 z,.int .i64 (n:Int)] (fun v W=>∃ r,v = .int .i64 r∧R r W∧S W) (by kernel_rfl) (by unfold isB;kernel_rfl) (by kernel_rfl) Tryz.func45 (by kernel_rfl) (by kernel_rfl) rfl ((hc).mono fun e w' ⟨r,h1,h2⟩=>⟨_,h1,r,rfl,h2⟩) ?_
 rintro a9 _ w5 ⟨r,rfl,hR,hS5⟩ e9 h0
 refine ⟨fun _=>hS5,?_⟩
 have hT:∀ {l:Array Bool},noneT [] l→S w5:=fun _=>hS5
 refine takeU h0 hT hQ 10 14 _ (.int .i64 r) (show isB (kpReg 28) 10 14 (.assign (.tmp 166)) from by unfold isB;kernel_rfl) (by kernel_rfl) (fun o e w=>by simp [execOp,e,h0.at_ 166 _ rfl]) fun a10 e10 h0=>?_
 refine wpAnyT_done (by kernel_rfl) ?_ _
 subst e10 e9 e8 e7 e6 e5 e4 e3 e2 e1 e0
 exact h _ _ hR
end
end Go.Proofs.YtjlfkgjmgghhiaaGreat
