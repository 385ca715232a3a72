/- impl.Liveness. -/
import Derived.Deep.QuietTactic
import Derived.BigQuiet
import Derived.Test.YtjlfkgjmgghhiaaGreatP18
import Derived.Test.YtjlfkgjmgghhiaaGreatP19
import Derived.Test.YtjlfkgjmgghhiaaGreatP21
import Derived.Test.YtjlfkgjmgghhiaaGreatP28
import Derived.Test.YtjlfkgjmgghhiaaGreatP29
import Derived.Test.YtjlfkgjmgghhiaaGreatP30
import Derived.Test.YtjlfkgjmgghhiaaGreatP35
import Derived.Test.YtjlfkgjmgghhiaaGreatP41
import Derived.Test.YtjlfkgjmgghhiaaGreatP42
import Derived.Test.YtjlfkgjmgghhiaaGreatP43
import Derived.Test.YtjlfkgjmgghhiaaGreatP47
namespace Go.Proofs.YtjlfkgjmgghhiaaGreat
section
open Go Go.RowKit Bth
set_option maxRecDepth 100000
abbrev KS:=Nat→Nat→Int
def wrK (s:KS) (id m:Nat) (n:Int):KS:=fun i b=>if i=id∧m.testBit b=true then n else s i b
def KLive (live:Nat→Nat→Prop) (a:Nat→Nat) (ow bo:KS):Prop:=∀ c b,live c b→ow c b≠0→bo (a c) b=ow c b
def pendK (l:List (Nat × Nat)) (c b:Nat):Prop:=∃ y∈l,y.1=c∧y.2.testBit b=true
theorem KLive.start {live:Nat→Nat→Prop} {a:Nat→Nat} {bo:KS} : KLive live a (fun _ _=>0) bo:=fun _ _ _ h=>absurd rfl h
theorem KLive.mono {live live':Nat→Nat→Prop} {a:Nat→Nat} {ow bo:KS} (h:KLive live a ow bo) (hs:∀ c b,live' c b→live c b):KLive live' a ow bo:=fun c b hl=>h c b (hs c b hl)
theorem KLive.write {live:Nat→Nat→Prop} {a:Nat→Nat} {ow bo:KS} {x:Nat × Nat} {l:List (Nat × Nat)} (h:KLive (fun c b=>live c b∧¬pendK (x :: l) c b) a ow bo)
  (hap:∀ c b,live c b→x.2.testBit b=true→c≠x.1→a c≠a x.1) (n:Int):KLive (fun c b=>live c b∧¬pendK l c b) a (wrK ow x.1 x.2 n) (wrK bo (a x.1) x.2 n):=by
 rintro c b ⟨hl,hp⟩ h0
 unfold wrK at h0 ⊢
 by_cases hc:c=x.1
 ·subst hc
  by_cases hb:x.2.testBit b=true
  ·simp [hb]
  ·have hb':¬(x.1=x.1∧x.2.testBit b=true):=fun h=>hb h.2
   have hb2:¬(a x.1=a x.1∧x.2.testBit b=true):=fun h=>hb h.2
   rw [if_neg hb'] at h0 ⊢
   rw [if_neg hb2]
   refine h _ b ⟨hl,?_⟩ h0
   rintro ⟨y,hy,e1,e2⟩
   rcases List.mem_cons.1 hy with rfl | hy
   ·exact hb e2
   ·exact hp ⟨y,hy,e1,e2⟩
 ·have h1:¬(c=x.1∧x.2.testBit b=true):=fun h=>hc h.1
  rw [if_neg h1] at h0 ⊢
  have h2:¬(a c=a x.1∧x.2.testBit b=true):=fun h=>hap c b hl h.2 hc h.1
  rw [if_neg h2]
  refine h c b ⟨hl,?_⟩ h0
  rintro ⟨y,hy,e1,e2⟩
  rcases List.mem_cons.1 hy with rfl | hy
  ·exact hc e1.symm
  ·exact hp ⟨y,hy,e1,e2⟩
abbrev KC:=Nat × (Nat→Int)
def kcV (x:KC):List Value:=.int .u32 (x.1:Int) :: (List.range 16).map fun b=>.int .i64 (x.2 b)
def kget:List KC→KS
 | [],_=>fun _=>0
 | x :: l,c=>if x.1=c then x.2 else kget l c
theorem kcV_len (x:KC):(kcV x).length=17:=rfl
def FirstK (l:List KC) (k:Nat) (id:Nat):Prop:=∀ (j:Nat) (y:KC),j < k→l[j]? = some y→y.1≠id
theorem kget_first:∀ {l:List KC} {k:Nat} {x:KC},l[k]? = some x→FirstK l k x.1→kget l x.1=x.2
 | [],_,_,h,_=>by cases h
 | y :: l,0,x,h,_=>by injection h with h;subst h;simp [kget]
 | y :: l,k+1,x,h,hf=>by
  unfold kget
  rw [if_neg (hf 0 y (Nat.succ_pos k) rfl)]
  exact kget_first (l:=l) (k:=k) h fun j z hj hz=>hf (j+1) z (Nat.succ_lt_succ hj) hz
theorem kget_none:∀ {l:List KC} {c:Nat},(∀ y∈l,y.1≠c)→kget l c=fun _=>0
 | [],_,_=>rfl
 | y :: l,c,h=>by
  unfold kget
  rw [if_neg (h y (by simp))]
  exact kget_none fun z hz=>h z (by simp [hz])
theorem kget_snoc:∀ {l:List KC} {c:Nat},(∀ y∈l,y.1≠c)→kget (l ++ [(c,fun _=>0)])=kget l
 | [],c,_=>by funext i;simp only [List.nil_append,kget];split<;>rfl
 | y :: l,c,h=>by
  funext i
  simp only [List.cons_append,kget]
  rw [kget_snoc fun z hz=>h z (by simp [hz])]
theorem kget_set:∀ {l:List KC} {k:Nat} {x:KC} (f:Nat→Int),l[k]? = some x→FirstK l k x.1→kget (l.set k (x.1,f))=fun c=>if c=x.1 then f else kget l c
 | [],_,_,_,h,_=>by cases h
 | y :: l,0,x,f,h,_=>by
  injection h with h
  subst h
  funext c
  simp only [List.set_cons_zero,kget]
  by_cases e:c=y.1
  ·rw [if_pos e.symm,if_pos e]
  ·rw [if_neg (fun h=>e h.symm),if_neg e,if_neg (fun h=>e h.symm)]
 | y :: l,k+1,x,f,h,hf=>by
  funext c
  have hy:=hf 0 y (Nat.succ_pos k) rfl
  simp only [List.set_cons_succ,kget]
  rw [kget_set f (l:=l) (k:=k) h fun j z hj hz=>hf (j+1) z (Nat.succ_lt_succ hj) hz]
  by_cases e:y.1=c
  ·rw [if_pos e,if_neg (fun h=>hy (e.trans h)),if_pos e]
  ·rw [if_neg e,if_neg e]
structure KlOk (l:List KC):Prop where
 nd:(l.map (·.1)).Nodup
 lt:∀ x∈l,x.1 < 4294967296
theorem KlOk.len {l:List KC} (h:KlOk l):l.length≤4294967296:=by
 have:=nodup_le h.nd (m:=List.range 4294967296) fun x hx=>by
  obtain ⟨y,hy,rfl⟩:=List.mem_map.1 hx
  exact List.mem_range.2 (h.lt y hy)
 rwa [List.length_map,List.length_range] at this
theorem KlOk.snoc {l:List KC} (h:KlOk l) {c:Nat} (hc:c < 4294967296) (hn:∀ y∈l,y.1≠c) (f:Nat→Int):KlOk (l ++ [(c,f)]):=by
 refine ⟨?_,fun x hx=>?_⟩
 ·rw [List.map_append,List.map_cons,List.map_nil,List.nodup_append]
  refine ⟨h.nd,by simp,?_⟩
  intro a ha b hb
  obtain ⟨y,hy,rfl⟩:=List.mem_map.1 ha
  obtain rfl:b=c:=by simpa using hb
  exact hn y hy
 ·rcases List.mem_append.1 hx with hx | hx
  ·exact h.lt x hx
  ·obtain rfl:x=(c,f):=by simpa using hx
   exact hc
theorem KlOk.set {l:List KC} (h:KlOk l) {k:Nat} {x:KC} (hk:l[k]? = some x) (f:Nat→Int):KlOk (l.set k (x.1,f)):=by
 have e:(l.set k (x.1,f)).map (·.1)=l.map (·.1):=by
  rw [List.map_set]
  refine List.ext_getElem? fun j=>?_
  rw [List.getElem?_set]
  split
  ·rename_i e
   subst e
   have:=(List.getElem?_eq_some_iff.1 hk).1
   rw [if_pos (by simpa using this),List.getElem?_map,hk]
   rfl
  ·rfl
 refine ⟨by rw [e];exact h.nd,fun y hy=>?_⟩
 have:y.1∈l.map (·.1):=by rw [← e];exact List.mem_map.2 ⟨y,hy,rfl⟩
 obtain ⟨z,hz,e⟩:=List.mem_map.1 this
 rw [← e]
 exact h.lt z hz
end
section
open Go Go.RowKit Bth
set_option maxRecDepth 100000
def LiveInP (is:List PI) (sc:Nat→List (Option Nat)):Nat→Nat→Nat→Prop:=LiveIn (flowP is sc).reads (flowP is sc).writes (flowP is sc).succ
theorem ofGs_bit':∀ (gs:List G) (F:Nat→Nat) (c b:Nat),(gs.foldl (fun F g=>orM F g.id g.spec) F c).testBit b=true↔(F c).testBit b=true∨∃ g∈gs,g.id=c∧g.spec.testBit b=true
 | [],F,c,b=>by simp
 | g :: gs,F,c,b=>by
  rw [List.foldl_cons,ofGs_bit' gs]
  unfold orM
  by_cases hc:c=g.id
  ·subst hc
   simp only [if_true,Nat.testBit_or,Bool.or_eq_true,List.mem_cons,exists_eq_or_imp,true_and]
   exact ⟨fun h=>by rcases h with (h | h) | h<;>simp [h],fun h=>by rcases h with h | h | h<;>simp [h]⟩
  ·have hc':¬g.id=c:=fun h=>hc h.symm
   simp only [if_neg hc,List.mem_cons,exists_eq_or_imp,hc',false_and,false_or]
theorem ofGs_bit {gs:List G} {c b:Nat} : (ofGs gs c).testBit b=true↔∃ g∈gs,g.id=c∧g.spec.testBit b=true:=by
 unfold ofGs
 rw [ofGs_bit']
 simp
theorem tl_bit {gs:List G} (hg:∀ g∈gs,g.Ok) {c b:Nat} : (∃ y∈tlOf gs,y.1=c∧y.2.testBit b=true)↔(ofGs gs c).testBit b=true:=by
 obtain ⟨ht,he⟩:=tlOf_spec hg
 rw [← he]
 constructor
 ·rintro ⟨y,hy,rfl,hb⟩
  rw [tv_of_mem ht hy];exact hb
 ·intro hb
  have h0:tv (tlOf gs) c≠0:=fun h=>by rw [h] at hb;simp at hb
  exact ⟨_,tv_mem h0,rfl,hb⟩
section
variable {is:List PI} {sc:Nat→List (Option Nat)} {i:Nat} {p:PI}
theorem read_live (hp:is[i]? = some p) (ho:∀ g∈inGs p.canc p.inp p.out,g.Ok) {x:Nat × Nat} (hx:x∈rdT p) {b:Nat} (hb:x.2.testBit b=true):LiveInP is sc i x.1 b:=by
 refine .read ⟨(List.getElem?_eq_some_iff.1 hp).1,?_⟩
 show (useP is i x.1).testBit b=true
 unfold useP
 rw [hp]
 exact (tl_bit ho).1 ⟨x,hx,rfl,hb⟩
theorem KLive.toWrites {a:Nat→Nat} {ow bo:KS} (h:KLive (LiveInP is sc i) a ow bo) (hp:is[i]? = some p) (ho:∀ g∈outGs p.out,g.Ok):KLive (fun c b=>LiveOutP is sc i c b∧¬pendK (wrT p) c b) a ow bo:=
 h.mono fun c b hl=>LiveIn.cases_iff.2 (.inr ⟨hl.1,fun hw=>hl.2 ((tl_bit ho).2 (by
  have hw:(defP is i c).testBit b=true:=hw
  unfold defP at hw
  rw [hp] at hw
  exact hw))⟩)
theorem KLive.next {a:Nat→Nat} {ow bo:KS} {s:Nat} (h:KLive (fun c b=>LiveOutP is sc i c b∧¬pendK [] c b) a ow bo) (hi:i < is.length) (hs:some s∈sc i) (hl:s < is.length):KLive (LiveInP is sc s) a ow bo:=
 h.mono fun c b hv=>⟨⟨s,⟨hi,hl,hs⟩,hv⟩,by rintro ⟨y,hy,_⟩;cases hy⟩
def ApartW (is:List PI) (sc:Nat→List (Option Nat)) (a:Nat→Nat):Prop:=∀ (i:Nat) (p:PI),is[i]? = some p→∀ x∈wrT p,∀ c b,LiveOutP is sc i c b→x.2.testBit b=true→c≠x.1→a c≠a x.1
end
theorem apartW_of {ns:List PN} {f:Nat→Option Nat} {l:List (Nat × Nat)} (hr:AFRes ns (some f)) (hok:AFOk ns) (he:ofPairs l=f):∃ sc,GraphP ns sc∧ApartW (insP ns) sc (aid l):=by
 obtain ⟨sc,hG,h⟩:=af_apart hr hok
 refine ⟨sc,hG,fun i p hp x hx c b hl hb hne=>?_⟩
 have ho:∀ g∈outGs p.out,g.Ok:=fun g hg=>gsOf_ok (hok.ops p (List.mem_of_getElem? hp)).out g (outGs_mem hg)
 obtain ⟨g,hg,e1,e2⟩:=ofGs_bit.1 ((tl_bit ho).1 ⟨x,hx,rfl,hb⟩)
 have:=h i p g c b hp hg (by rw [e1];exact hne) hl e2
 unfold aid
 rw [he,← e1]
 exact this
end
section
open Go Go.RowKit Bth
set_option maxRecDepth 100000
section
variable {P:Program} {ops:Array Oper} {Q:Exit→Act→World→Prop} {S:World→Prop} {T:List Nat}
def noneT (T:List Nat) (listed:Array Bool):Prop:=∀ t∈T,listed.getD t true=false
def wpAnyT (P:Program) (ops:Array Oper) (Q:Exit→Act→World→Prop) (S:World→Prop) (T:List Nat):Nat→Array Bool→Act→World→Prop
 | 0,listed,a,w=>Region.ready .any ops listed=[]∧Q .normal a w
 | fuel+1,listed,a,w=>
  (Region.ready .any ops listed=[]→Q .normal a w) ∧
  ∀ i∈Region.ready .any ops listed,wpOp P ops Q i (fun a' w'=>(noneT T (listed.setIfInBounds i true)→S w')∧wpAnyT P ops Q S T fuel (listed.setIfInBounds i true) a' w') a w
theorem wpAny_ofT:∀ (fuel:Nat) (listed:Array Bool) (a:Act) (w:World),wpAnyT P ops Q S T fuel listed a w→wpAny P .any ops Q fuel listed a w
 | 0,_,_,_,h=>h
 | fuel+1,_,_,_,h=>⟨h.1,fun i hi=>wpOp_mono (fun a' w' h'=>wpAny_ofT fuel _ a' w' h'.2) (h.2 i hi)⟩
def waitsOn (ops:Array Oper) (m i:Nat):Bool:=match ops[m]? with
 | some o=>o.after.any fun e=>Region.binds .any e && e.on == i
 | none=>false
theorem waitsOn_spec {m i:Nat} (h:waitsOn ops m i=true):∃ o,ops[m]? = some o∧∃ e∈o.after,Region.binds .any e=true∧e.on=i:=by
 unfold waitsOn at h
 cases ho:ops[m]? with
 | none=>rw [ho] at h;cases h
 | some o=>
  rw [ho] at h
  obtain ⟨e,he,h2⟩:=Array.any_eq_true'.1 h
  simp only [Bool.and_eq_true,beq_iff_eq] at h2
  exact ⟨o,rfl,e,he,h2.1,h2.2⟩
def waitB (ops:Array Oper) (T:List Nat) (i:Nat):Bool:=T.all fun t=>t != i && (waitsOn ops t i || (List.range ops.size).any fun m=>waitsOn ops t m && waitsOn ops m i)
def unl (ops:Array Oper) (listed:Array Bool) (i:Nat):Bool:=(List.range ops.size).all fun m=>!(waitsOn ops m i) || !(listed.getD m true)
theorem wpAnyT_first {i:Nat} {oi:Oper} {v:Value} (hi:ops[i]? = some oi) (hsel:∀ (j:Nat) (o:Oper) cs b,ops[j]? = some o→o.op ≠ .select cs b) (hwt:waitB ops T i=true)
  (hQ:∀ c a w,Q (.panic c) (a.put oi.dst v) w→Q (.panic c) a w):
  ∀ (fuel:Nat) (listed:Array Bool) (a:Act) (w:World),
   (∀ j oj,ops[j]? = some oj→j≠i→listed.getD j true=false→(∀ e∈oj.after,Region.binds .any e=true→e.on≠i)→oi.apart ops oj=true) →
   i∈Region.ready .any ops listed→(∀ m,waitsOn ops m i=true→listed.getD m true=false)→noneT T listed→YieldsIf P ops S oi v a→S w →
   wpAnyT P ops Q S T fuel (listed.setIfInBounds i true) (a.put oi.dst v) w→wpAnyT P ops Q S T (fuel+1) listed a w:=by
 have hwait:∀ t∈T,t≠i∧(waitsOn ops t i=true∨∃ m,waitsOn ops t m=true∧waitsOn ops m i=true):=fun t ht=>by
  have:=List.all_eq_true.1 hwt t ht
  simp only [Bool.and_eq_true,bne_iff_ne,ne_eq,Bool.or_eq_true,List.any_eq_true] at this
  exact ⟨this.1,this.2.imp id fun ⟨m,_,h⟩=>⟨m,h⟩⟩
 intro fuel
 induction fuel with
 | zero=>
  intro listed a w _ hr hu hn hy hS H
  refine ⟨fun h=>(by rw [h] at hr;cases hr),fun j hj=>?_⟩
  by_cases hji:j=i
  ·subst hji;exact hy.wpOp hi hS ⟨fun _=>hS,H⟩
  ·have:=ready_mono hj hji
   rw [H.1] at this
   cases this
 | succ fuel ih=>
  intro listed a w hfree hr hu hn hy hS H
  refine ⟨fun h=>(by rw [h] at hr;cases hr),fun j hj=>?_⟩
  by_cases hji:j=i
  ·subst hji;exact hy.wpOp hi hS ⟨fun _=>hS,H⟩
  ·have h1:=H.2 j (ready_mono hj hji)
   obtain ⟨hjun,oj,hoj,hall⟩:=mem_ready.1 hj
   have hnot:∀ e∈oj.after,Region.binds .any e=true→e.on≠i:=fun e he hb heq=>by
    have h1:=hall e he hb
    have h0:=(mem_ready.1 hr).1
    rw [heq] at h1
    rcases Nat.lt_or_ge i listed.size with h' | h'
    ·simp [h'] at h0 h1;rw [h0] at h1;cases h1
    ·simp [Array.getElem?_eq_none h'] at h1
   have hjw:∀ m,waitsOn ops m i=true→m≠j:=fun m hm e=>by
    subst e
    obtain ⟨o,ho,e,he,hb,hon⟩:=waitsOn_spec hm
    rw [hoj] at ho
    injection ho with ho
    subst ho
    exact hnot e he hb hon
   have hjT:j∉T:=fun hm=>by
    obtain ⟨_,h | ⟨m,h1,h2⟩⟩:=hwait j hm
    ·exact hjw j h rfl
    ·obtain ⟨o,ho,e,he,hb,hon⟩:=waitsOn_spec h1
     rw [hoj] at ho
     injection ho with ho
     subst ho
     have h3:=hall e he hb
     have h4:=hu m h2
     rw [hon] at h3
     rcases Nat.lt_or_ge m listed.size with h' | h'
     ·simp [h'] at h3 h4;rw [h4] at h3;cases h3
     ·simp [Array.getElem?_eq_none h'] at h3
   have hu':∀ m,waitsOn ops m i=true→(listed.setIfInBounds j true).getD m true=false:=fun m hm=>by
    rw [getD_set_ne true (fun e=>hjw m hm e.symm)]
    exact hu m hm
   have hn':noneT T (listed.setIfInBounds j true):=fun t ht=>by
    rw [getD_set_ne true (fun e=>hjT (by rw [e];exact ht))]
    exact hn t ht
   have hni:noneT T ((listed.setIfInBounds i true).setIfInBounds j true):=fun t ht=>by
    rw [getD_set_ne true (fun e=>hjT (by rw [e];exact ht)),getD_set_ne true (Ne.symm (hwait t ht).1)]
    exact hn t ht
   have h2:=wpOp_putIf hoj (hfree j oj hoj hji hjun hnot) (fun cs b=>hsel i oi cs b hi) (fun cs b=>hsel j oj cs b hoj) hQ hy h1
   have hfree':∀ k ok,ops[k]? = some ok→k≠i→(listed.setIfInBounds j true).getD k true=false →
     (∀ e∈ok.after,Region.binds .any e=true→e.on≠i)→oi.apart ops ok=true:=fun k ok hk hki hun hno=>by
    refine hfree k ok hk hki ?_ hno
    by_cases hjk:j=k
    ·subst hjk;exact hjun
    ·rw [getD_set_ne true hjk] at hun;exact hun
   refine wpOp_mono (fun a' w' h3=>⟨fun _=>h3.2.1 hni,ih (listed.setIfInBounds j true) a' w' hfree' (ready_mono hr (Ne.symm hji)) hu' hn' h3.1 (h3.2.1 hni) ?_⟩) h2
   rw [Array.setIfInBounds_comm _ _ hji]
   exact h3.2.2
theorem wpAnyT_firstU {i:Nat} {oi:Oper} {v:Value} (hi:ops[i]? = some oi) (hsel:∀ (j:Nat) (o:Oper) cs b,ops[j]? = some o→o.op ≠ .select cs b) (hiT:i∉T)
  (hQ:∀ c a w,Q (.panic c) (a.put oi.dst v) w→Q (.panic c) a w):
  ∀ (fuel:Nat) (listed:Array Bool) (a:Act) (w:World),
   (∀ j oj,ops[j]? = some oj→j≠i→listed.getD j true=false→(∀ e∈oj.after,Region.binds .any e=true→e.on≠i)→oi.apart ops oj=true) →
   i∈Region.ready .any ops listed→YieldsIf P ops (fun _=>True) oi v a→(noneT T listed→S w) →
   wpAnyT P ops Q S T fuel (listed.setIfInBounds i true) (a.put oi.dst v) w→wpAnyT P ops Q S T (fuel+1) listed a w:=by
 have back:∀ {l:Array Bool},noneT T (l.setIfInBounds i true)→noneT T l:=fun h t ht=>by
  have:=h t ht
  rwa [getD_set_ne true (fun e=>hiT (by rw [e];exact ht))] at this
 have fwd:∀ {l:Array Bool},noneT T l→noneT T (l.setIfInBounds i true):=fun h t ht=>by
  rw [getD_set_ne true (fun e=>hiT (by rw [e];exact ht))]
  exact h t ht
 intro fuel
 induction fuel with
 | zero=>
  intro listed a w _ hr hy hS H
  refine ⟨fun h=>(by rw [h] at hr;cases hr),fun j hj=>?_⟩
  by_cases hji:j=i
  ·subst hji;exact hy.wpOp hi trivial ⟨fun h=>hS (back h),H⟩
  ·have:=ready_mono hj hji
   rw [H.1] at this
   cases this
 | succ fuel ih=>
  intro listed a w hfree hr hy hS H
  refine ⟨fun h=>(by rw [h] at hr;cases hr),fun j hj=>?_⟩
  by_cases hji:j=i
  ·subst hji;exact hy.wpOp hi trivial ⟨fun h=>hS (back h),H⟩
  ·have h1:=H.2 j (ready_mono hj hji)
   obtain ⟨hjun,oj,hoj,hall⟩:=mem_ready.1 hj
   have hnot:∀ e∈oj.after,Region.binds .any e=true→e.on≠i:=fun e he hb heq=>by
    have h1:=hall e he hb
    have h0:=(mem_ready.1 hr).1
    rw [heq] at h1
    rcases Nat.lt_or_ge i listed.size with h' | h'
    ·simp [h'] at h0 h1;rw [h0] at h1;cases h1
    ·simp [Array.getElem?_eq_none h'] at h1
   have h2:=wpOp_putIf hoj (hfree j oj hoj hji hjun hnot) (fun cs b=>hsel i oi cs b hi) (fun cs b=>hsel j oj cs b hoj) hQ hy h1
   have hfree':∀ k ok,ops[k]? = some ok→k≠i→(listed.setIfInBounds j true).getD k true=false →
     (∀ e∈ok.after,Region.binds .any e=true→e.on≠i)→oi.apart ops ok=true:=fun k ok hk hki hun hno=>by
    refine hfree k ok hk hki ?_ hno
    by_cases hjk:j=k
    ·subst hjk;exact hjun
    ·rw [getD_set_ne true hjk] at hun;exact hun
   have hSj:∀ {w':World},(noneT T ((listed.setIfInBounds i true).setIfInBounds j true)→S w')→noneT T (listed.setIfInBounds j true)→S w':=fun h hn=>h (by
    rw [Array.setIfInBounds_comm _ _ (Ne.symm hji)]
    exact fwd hn)
   refine wpOp_mono (fun a' w' h3=>⟨hSj h3.2.1,ih (listed.setIfInBounds j true) a' w' hfree' (ready_mono hr (Ne.symm hji)) h3.1 (hSj h3.2.1) ?_⟩) h2
   rw [Array.setIfInBounds_comm _ _ hji]
   exact h3.2.2
def mayT (ops:Array Oper) (T:List Nat) (listed:Array Bool) (i d n:Nat):Bool:=Region.noSelect ops && Region.free .any ops listed i && (Region.ready .any ops listed).contains i && Nat.blt d n && !(T.contains i)
theorem takeU {fuel n:Nat} {listed:Array Bool} {a:Act} {w:World} {l:List (Nat × Value)} (h:Bun a n l) (hS:noneT T listed→S w) (hQ:∀ d v c a w,Q (.panic c) (a.put d v) w→Q (.panic c) a w) (i d:Nat) (op:Op) (v:Value) (ho:isB ops i d op) (hm:mayT ops T listed i d n=true)
  (hx:∀ o:Oper,o.op=op→∀ w,(execOp a.eval o).run P w = .ok (.value v) w)
  (next:∀ a',a'=a.put (some d) v→Bun a' n ((d,v) :: l)→wpAnyT P ops Q S T fuel (listed.setIfInBounds i true) a' w):wpAnyT P ops Q S T (fuel+1) listed a w:=by
 obtain ⟨o,hi,ho⟩:=Option.map_eq_some_iff.1 ho
 simp only [Prod.mk.injEq] at ho
 obtain ⟨h1,h2,h3⟩:=ho
 unfold mayT at hm
 simp only [Bool.and_eq_true,Bool.not_eq_true',← Bool.not_eq_true,List.contains_iff_mem] at hm
 obtain ⟨⟨⟨⟨m1,m2⟩,m3⟩,m4⟩,m5⟩:=hm
 exact wpAnyT_firstU (v:=v) hi (Region.noSelect_spec m1) m5 (fun c a w=>hQ _ _ c a w) fuel listed a w (Region.free_spec hi m2) (by simpa using m3) (Or.inl ⟨by unfold Region.wanted;rw [h3],fun w _=>hx o h1 w⟩) hS (next _ (by rw [h2]) (h.put h2 (by simpa [Nat.blt_eq] using m4) v))
theorem takeL {fuel n:Nat} {listed:Array Bool} {a:Act} {w:World} {l:List (Nat × Value)} (h:Bun a n l) (hS:S w) (hQ:∀ d v c a w,Q (.panic c) (a.put d v) w→Q (.panic c) a w) (i d:Nat) (op:Op) (v:Value) (ho:isB ops i d op) (hm:(mayT ops T listed i d n && waitB ops T i && unl ops listed i && T.all fun t=>!(listed.getD t true))=true)
  (hx:∀ o:Oper,o.op=op→∀ w,S w→(execOp a.eval o).run P w = .ok (.value v) w)
  (next:∀ a',a'=a.put (some d) v→Bun a' n ((d,v) :: l)→wpAnyT P ops Q S T fuel (listed.setIfInBounds i true) a' w):wpAnyT P ops Q S T (fuel+1) listed a w:=by
 obtain ⟨o,hi,ho⟩:=Option.map_eq_some_iff.1 ho
 simp only [Prod.mk.injEq] at ho
 obtain ⟨h1,h2,h3⟩:=ho
 unfold mayT at hm
 simp only [Bool.and_eq_true] at hm
 obtain ⟨⟨⟨⟨⟨⟨⟨m1,m2⟩,m3⟩,m4⟩,_⟩,m6⟩,mu⟩,m7⟩:=hm
 have hu:∀ m,waitsOn ops m i=true→listed.getD m true=false:=fun m hm=>by
  obtain ⟨o,ho,_⟩:=waitsOn_spec hm
  have hlt:=(Array.getElem?_eq_some_iff.1 ho).1
  have:=List.all_eq_true.1 mu m (List.mem_range.2 hlt)
  rw [hm] at this
  simpa using this
 have hn:noneT T listed:=fun t ht=>by simpa using List.all_eq_true.1 m7 t ht
 exact wpAnyT_first (v:=v) hi (Region.noSelect_spec m1) m6 (fun c a w=>hQ _ _ c a w) fuel listed a w (Region.free_spec hi m2) (by simpa using m3) hu hn (Or.inl ⟨by unfold Region.wanted;rw [h3],hx o h1⟩) hS (next _ (by rw [h2]) (h.put h2 (by simpa [Nat.blt_eq] using m4) v))
theorem takeM {fuel n:Nat} {listed:Array Bool} {a:Act} {w:World} {l:List (Nat × Value)} (h:Bun a n l) (hS:noneT T listed→S w) (hQ:∀ d v c a w,Q (.panic c) (a.put d v) w→Q (.panic c) a w) (i d t:Nat) (v:Value) (ho:isB ops i d (.move (.tmp t))) (hm:mayT ops T listed i d n=true) (ht:lkB l t=some v)
  (next:∀ a',a'=a.put (some d) v→Bun a' n ((d,v) :: l)→wpAnyT P ops Q S T fuel (listed.setIfInBounds i true) a' w):wpAnyT P ops Q S T (fuel+1) listed a w:=
 takeU h hS hQ i d _ v ho hm (fun o e w=>by have:=h.at_ t v ht;simp [execOp,e,this]) next
theorem takeI {fuel n:Nat} {listed:Array Bool} {a:Act} {w:World} {l:List (Nat × Value)} (h:Bun a n l) (hS:noneT T listed→S w) (hQ:∀ d v c a w,Q (.panic c) (a.put d v) w→Q (.panic c) a w) (i d t k:Nat) (ty:TypeId) (x y:Value) (p:Addr) (ho:isB ops i d (.indexAddr ty (.tmp t) (.tmp k))) (hm:mayT ops T listed i d n=true) (ht:lkB l t=some x) (hk:lkB l k=some y)
  (hx:∀ w,(Go.Instr.indexAt ty x y).run P w = .ok (.pointer (some p)) w)
  (next:∀ a',a'=a.put (some d) (.pointer (some p))→Bun a' n ((d,.pointer (some p)) :: l)→wpAnyT P ops Q S T fuel (listed.setIfInBounds i true) a' w):wpAnyT P ops Q S T (fuel+1) listed a w:=
 takeU h hS hQ i d _ _ ho hm (fun o e w=>by have h1:=h.at_ t _ ht;have h2:=h.at_ k _ hk;have:=hx w;simp_all [execOp]) next
theorem takeF {fuel n:Nat} {listed:Array Bool} {a:Act} {w:World} {l:List (Nat × Value)} (h:Bun a n l) (hS:noneT T listed→S w) (hQ:∀ d v c a w,Q (.panic c) (a.put d v) w→Q (.panic c) a w) (i d t f:Nat) (ty:TypeId) (p q:Addr) (ho:isB ops i d (.fieldAddr ty (.tmp t) f)) (hm:mayT ops T listed i d n=true) (ht:lkB l t=some (.pointer (some p)))
  (hx:∀ w,(Go.Instr.fieldAt ty (.pointer (some p)) f).run P w = .ok (.pointer (some q)) w)
  (next:∀ a',a'=a.put (some d) (.pointer (some q))→Bun a' n ((d,.pointer (some q)) :: l)→wpAnyT P ops Q S T fuel (listed.setIfInBounds i true) a' w):wpAnyT P ops Q S T (fuel+1) listed a w:=
 takeU h hS hQ i d _ _ ho hm (fun o e w=>by have h1:=h.at_ t _ ht;have:=hx w;simp_all [execOp]) next
theorem takeC {fuel n:Nat} {listed:Array Bool} {a:Act} {w:World} {l:List (Nat × Value)} (h:Bun a n l) (hS:S w) (hQ:∀ d v c a w,Q (.panic c) (a.put d v) w→Q (.panic c) a w) (i d t:Nat) (ty:TypeId) (p:Addr) (v:Value) (ho:isB ops i d (.load ty (.tmp t))) (hm:(mayT ops T listed i d n && waitB ops T i && unl ops listed i && T.all fun t=>!(listed.getD t true))=true) (ht:lkB l t=some (.pointer (some p)))
  (hx:∀ w,S w→(Go.Instr.loadAt ty (.pointer (some p))).run P w = .ok v w)
  (next:∀ a',a'=a.put (some d) v→Bun a' n ((d,v) :: l)→wpAnyT P ops Q S T fuel (listed.setIfInBounds i true) a' w):wpAnyT P ops Q S T (fuel+1) listed a w:=
 takeL h hS hQ i d _ v ho hm (fun o e w hw=>by have h1:=h.at_ t _ ht;have:=hx w hw;simp_all [execOp]) next
theorem takeS {fuel n:Nat} {listed:Array Bool} {a:Act} {w:World} {l:List (Nat × Value)} (h:Bun a n l) (hS:S w) (hQ:∀ d v c a w,Q (.panic c) (a.put d v) w→Q (.panic c) a w) (i d t:Nat) (ty:TypeId) (b o:Nat) (cs:List Value) (ds:TypeDesc) (ho:isB ops i d (.load ty (.tmp t))) (hm:(mayT ops T listed i d n && waitB ops T i && unl ops listed i && T.all fun t=>!(listed.getD t true))=true) (ht:lkB l t=some (.pointer (some ⟨b,o,none⟩)))
  (hu:P.underlying ty=some ds) (hd:ds.isRow=true) (hi:(P.info? ty).map (·.size)=some cs.length) (hx:∀ w,S w→w.rangeAt b o cs)
  (next:∀ a',a'=a.put (some d) (.agg cs.toArray)→Bun a' n ((d,.agg cs.toArray) :: l)→wpAnyT P ops Q S T fuel (listed.setIfInBounds i true) a' w):wpAnyT P ops Q S T (fuel+1) listed a w:=
 takeL h hS hQ i d _ _ ho hm (fun oo e w hw=>by
  have h1:=h.at_ t _ ht
  have:=run_loadVar_mid w b o ty cs ds (hx w hw) hu hd hi
  unfold execOp
  simp only [e,h1,Go.Instr.loadAt,Go.Instr.sureAddr,Sem.run_bind,Sem.run_pure,Result.andThen_ok,this]) next
def putL (a:Act) (l:List (Nat × Value)):Act:=l.foldl (fun a x=>a.put (some x.1) x.2) a
theorem wpAnyT_next {i:Nat} {o:Oper} {fuel:Nat} {listed:Array Bool} {a:Act} {w:World} (hr:Region.ready .any ops listed=[i]) (ho:ops[i]? = some o) (hw:o.guard=none)
  (h:∀ K':Act→World→Prop,Shut (∀ a w,(noneT T (listed.setIfInBounds i true)→S w)→wpAnyT P ops Q S T fuel (listed.setIfInBounds i true) a w→K' a w)→Oper.wp P o a w K' Q):wpAnyT P ops Q S T (fuel+1) listed a w:=by
 refine ⟨fun h=>(by rw [hr] at h;cases h),fun j hj=>?_⟩
 rw [hr] at hj
 obtain rfl:j=i:=by simpa using hj
 refine wpOp_step ho fun K' hK=>?_
 rw [if_pos (by unfold Region.wanted;rw [hw])]
 exact h K' fun a w h1 h2=>hK a w ⟨h1,h2⟩
theorem takeCall {fuel n:Nat} {listed:Array Bool} {a:Act} {w:World} {l:List (Nat × Value)} (h:Bun a n l) (i d:Nat) (f:FuncId) (ts:List Nat) (ats:Array TypeId) (vs:List Value) {fn:Func} (R:Value→World→Prop)
  (hr:Region.ready .any ops listed=[i]) (ho:isB ops i d (.call { callee:=.value (.func f),args:=(ts.map fun t=>Operand.tmp t).toArray,argTypes:=ats })) (hd:Nat.blt d n=true)
  (hf:P.funcs[f]? = some fn) (hn:(fn.name == "runtime.NumGoroutine")=false) (hb:fn.body.isNone=false) (ht:ts.map (lkB l)=vs.map some)
  (hc:Calls P f vs.toArray w fun e w'=>∃ v,e = .returned v∧R v w')
  (next:∀ a' v w',R v w'→a'=a.put (some d) v→Bun a' n ((d,v) :: l)→(noneT T (listed.setIfInBounds i true)→S w')∧wpAnyT P ops Q S T fuel (listed.setIfInBounds i true) a' w'):wpAnyT P ops Q S T (fuel+1) listed a w:=by
 have hargs:((ts.map fun t=>Operand.tmp t).toArray).map a.eval=vs.toArray:=by
  rw [List.map_toArray,List.map_map]
  congr 1
  clear ho hc
  induction ts generalizing vs with
  | nil=>cases vs with
   | nil=>rfl
   | cons v vs=>simp at ht
  | cons t ts ih=>cases vs with
   | nil=>simp at ht
   | cons v vs=>
    simp only [List.map_cons,List.cons.injEq] at ht
    rw [List.map_cons,ih vs ht.2]
    congr 1
    exact h.at_ t v ht.1
 obtain ⟨o,hi,ho⟩:=Option.map_eq_some_iff.1 ho
 simp only [Prod.mk.injEq] at ho
 obtain ⟨h1,h2,h3⟩:=ho
 refine wpAnyT_next hr hi h3 fun K hK=>?_
 refine wp_callU h1 hf hn hb ?_
 rw [hargs]
 refine hc.mono fun e w' h'=>?_
 obtain ⟨v,rfl,hR⟩:=h'
 have hx:=next _ v w' hR rfl (h.put rfl (by simpa [Nat.blt_eq] using hd) v)
 show K (a.put o.dst v) w'
 rw [h2]
 exact hK.out _ _ hx.1 hx.2
theorem takeStore {fuel n:Nat} {listed:Array Bool} {a:Act} {w:World} {l:List (Nat × Value)} (h:Bun a n l) (i x y:Nat) (ty:TypeId) (b o:Nat) (cs:List Value)
  (hr:Region.ready .any ops listed=[i]) (ho:(ops[i]?.map fun o=>(o.op,o.dst,o.guard))=some (.store ty (.tmp x) (.tmp y),none,none)) (hx:lkB l x=some (.pointer (some ⟨b,o,none⟩))) (hy:lkB l y=some (.agg cs.toArray))
  (ht:w.there b o cs.length) (hi:(P.info? ty).map (·.size)=some cs.length) (h1:∀ v∈cs,v.oneCell'=true) (hT:(T.all fun t=>!((listed.setIfInBounds i true).getD t true))=false)
  (next:wpAnyT P ops Q S T fuel (listed.setIfInBounds i true) a (w.setCells b o cs)):wpAnyT P ops Q S T (fuel+1) listed a w:=by
 obtain ⟨oo,ho1,ho2⟩:=Option.map_eq_some_iff.1 ho
 simp only [Prod.mk.injEq] at ho2
 obtain ⟨h2,h3,h4⟩:=ho2
 refine wpAnyT_next hr ho1 h4 fun K hK=>?_
 refine wp_store_mid ty (.tmp x) (.tmp y) h2 b o cs.toArray (h.at_ x _ hx) (h.at_ y _ hy) (by simpa using ht) (by simpa using hi) (all_oneCell_toArray h1) ?_
 rw [h3]
 refine hK.out _ _ (fun hn=>?_) next
 have:(T.all fun t=>!((listed.setIfInBounds i true).getD t true))=true:=List.all_eq_true.2 fun t ht=>by simpa using hn t ht
 rw [hT] at this
 cases this
theorem wpAnyT_done {listed:Array Bool} {a:Act} {w:World} (hr:Region.ready .any ops listed=[]) (h:Q .normal a w):∀ fuel,wpAnyT P ops Q S T fuel listed a w
 | 0=>⟨hr,h⟩
 | fuel+1=>⟨fun _=>h,fun i hi=>by rw [hr] at hi;cases hi⟩
theorem wp_region_T {id:Nat} {a:Act} {w:World} (hm:P.follows .mixedOrders=true) (h:wpAnyT P ops Q S T ops.size (Array.replicate ops.size false) a w.drew):(Code.region id ops true).wp P Q a w:=
 wp_region_any hm (wpAny_ofT _ _ _ _ h)
end
end
section
open Go Go.RowKit Go.MapKept Go.Lib Go.Sort Bth
set_option maxRecDepth 100000
noncomputable def livesT:TypeInfo:=(Tryz.prog.info? 49).get (by kernel_rfl)
noncomputable def liveT:TypeInfo:=(Tryz.prog.info? 77).get (by kernel_rfl)
theorem liveK (n:Nat) (h2:2≤n):Lib.swapperK n liveT 25=5:=by
 have a:liveT.hasPointers=false:=by kernel_rfl
 have b:liveT.bytes=8:=by kernel_rfl
 have c:(n == 0)=false:=by simp;omega
 have d:(n == 1)=false:=by simp;omega
 simp [Lib.swapperK,a,b,c,d]
def LessOwnL (g:FuncId) (lb:Array Value) (w:World) (base b c n:Nat):Prop:=
 ∀ (W:World) (ys:List (Nat × Nat)),Fr (fun x=>x=b) w W→ys.length=n→W.ownsRow base 77 2 (.slice (some ⟨b,0,none⟩) n c) n (ys.flatMap tlV)→∀ i j:Nat,i < n→j < n →
  Calls Tryz.prog g (#[.int .i64 i,.int .i64 j] ++ lb) W fun e w'=>e = .returned (.bool (ltPair (ys.getD i default) (ys.getD j default)))∧∃ q,w'=W.drewN q
def GivesSortedL (w:World) (base:Nat) (v:Value) (xs:List (Nat × Nat)) (e:Ending) (w':World):Prop:=
 e = .returned (.tuple #[])∧∃ ys,SortedOf ltPair xs ys∧w'.ownsRow base 77 2 v xs.length (ys.flatMap tlV)∧Fr (fun b=>v.ownBlock=some b) w w'
theorem sortLives_calls (w:World) (base:Nat) (A:Option Addr) (c:Nat) (xs:List (Nat × Nat)) (hown:w.ownsRow base 77 2 (.slice A xs.length c) xs.length (xs.flatMap tlV)) (g:FuncId) (lb:Array Value) (eg:∀ args w,(callFunc g args).run Tryz.prog w = .ok (.enter g args) w)
  (hless:∀ b,A=some ⟨b,0,none⟩→LessOwnL g lb w base b c xs.length) (hsz:xs.length < 4611686018427387904):
  Calls Tryz.prog 112 #[.iface 49 (.slice A xs.length c),.func (.func g) #[] lb] w (GivesSortedL w base (.slice A xs.length c) xs):=by
 have hk2:∀ x:Nat × Nat,(tlV x).length=2:=fun _=>rfl
 by_cases h2:2≤xs.length
 ·obtain ⟨b,rfl,hb,_⟩:=own_cells hown (by omega)
  have hS:=Any.sort_Slice_cells_sorted sl6 49 77 livesT liveT (by kernel_rfl) (by kernel_rfl) (by kernel_rfl) (by kernel_rfl) 25 (fun _=>by kernel_rfl) tlV 2 hk2 (by kernel_rfl) (fun _=>by kernel_rfl)
   (fun x v hv=>by simp [tlV] at hv;rcases hv with rfl | rfl<;>rfl) ltPair swo_ltPair g lb eg b 0 c xs.toArray (by simpa using h2) (by simpa using hsz)
   175 (by rw [liveK _ (by simpa using h2)];kernel_rfl) true
   (fun args W=>run_callFunc_extern Tryz.func175 (by kernel_rfl) (by kernel_rfl) (by kernel_rfl) (e:=Extern.ReflectliteSwapper.swap true) (by kernel_rfl) args W) w
   (fun m os dk hs i j hi hj=>by
    have hs':dk.size=xs.length:=by simpa using hs
    have hw:=hless b rfl (sorted w b m (flatK tlV 2 dk) os) dk.toList (sorted_fr _ _ _ _ _) (by simpa using hs') (by
     have:=sorted_own (m:=m) (os:=os) (F:=flatK tlV 2 dk) hown (by simp [hs'])
     rw [flatK_list tlV 2 hk2 (by omega) dk.toList] at this
     exact this) i j (by simpa using hi) (by simpa using hj)
    have e1:∀ t,t < xs.length→dk.toList.getD t default=dk[t]!:=fun t ht=>by
     rw [getElem!_pos dk t (by omega),List.getD_eq_getElem?_getD,Array.getElem?_toList,Array.getElem?_eq_getElem (by omega)];rfl
    rw [e1 i (by simpa using hi),e1 j (by simpa using hj)] at hw
    exact hw)
   (own_holdsK hk2 (by omega) hown) hb
  have hsz2:xs.toArray.size=xs.length:=by simp
  rw [hsz2] at hS
  refine Calls.mono hS ?_
  rintro e w' ⟨rfl,d',m,os,hp,hso,rfl⟩
  obtain ⟨h3,h4⟩:=sortedOf_of (by simpa using hp) (by simpa using hso)
  refine ⟨rfl,d'.toList,h3,?_,(sorted_fr w b m _ os).mono fun x _ e=>by rw [e];rfl⟩
  have:=sorted_own (m:=m) (os:=os) (F:=flatK tlV 2 d') hown (by simp [h4])
  rw [flatK_list tlV 2 hk2 (by omega) d'.toList] at this
  exact this
 ·have h1:xs.length=0∨xs.length=1:=by omega
  rcases h1 with h1 | h1
  ·have hS:=Any.sort_Slice_tiny sl6 49 77 livesT liveT (by kernel_rfl) (by kernel_rfl) (by kernel_rfl) (by kernel_rfl) 25 (fun _=>by kernel_rfl) A xs.length c (by omega) 171 (by rw [h1];kernel_rfl) (.func g) #[] lb w
   refine Calls.mono hS ?_
   rintro e w' ⟨rfl,os,rfl⟩
   exact ⟨rfl,xs,.tiny (by omega),own_fr hown (fr_grow w os) (fun _ _ x=>x),(fr_grow w os).of_nope⟩
  ·have hS:=Any.sort_Slice_tiny sl6 49 77 livesT liveT (by kernel_rfl) (by kernel_rfl) (by kernel_rfl) (by kernel_rfl) 25 (fun _=>by kernel_rfl) A xs.length c (by omega) 172 (by rw [h1];kernel_rfl) (.func g) #[] lb w
   refine Calls.mono hS ?_
   rintro e w' ⟨rfl,os,rfl⟩
   exact ⟨rfl,xs,.tiny (by omega),own_fr hown (fr_grow w os) (fun _ _ x=>x),(fr_grow w os).of_nope⟩
theorem lives_get {ys:List (Nat × Nat)} {i:Nat} {p:Nat × Nat} (h:ys[i]? = some p):(ys.flatMap tlV)[i*2]? = some (.int .u32 (p.1:Int)):=by
 induction ys generalizing i with
 | nil=>simp at h
 | cons a ys ih=>
  cases i with
  | zero=>simp only [List.getElem?_cons_zero,Option.some.injEq] at h;subst h;rfl
  | succ i=>
   simp only [List.getElem?_cons_succ] at h
   rw [List.flatMap_cons,Nat.succ_mul,List.getElem?_append_right (by simp [tlV])]
   simpa [tlV] using ih h
set_option maxHeartbeats 1000000 in
theorem lessLive_calls (W:World) (Bs b n c base:Nat) (ys:List (Nat × Nat)) (hB:W.cell? ⟨Bs,0,none⟩=some (.slice (some ⟨b,0,none⟩) n c)) (hl:ys.length=n)
  (hown:W.ownsRow base 77 2 (.slice (some ⟨b,0,none⟩) n c) n (ys.flatMap tlV)) (i j:Nat) (hi:i < n) (hj:j < n):
  Calls Tryz.prog 131 #[.int .i64 i,.int .i64 j,ptr Bs] W fun e w'=>e = .returned (.bool (ltPair (ys.getD i default) (ys.getD j default)))∧∃ q,w'=W.drewN q:=by
 obtain ⟨x,hx⟩:∃ x,ys[i]? = some x:=⟨_,List.getElem?_eq_getElem (by omega)⟩
 obtain ⟨y,hy⟩:∃ y,ys[j]? = some y:=⟨_,List.getElem?_eq_getElem (by omega)⟩
 have hci:=(own_cur hown (i*2) _ (lives_get hx)).1
 have hcj:=(own_cur hown (j*2) _ (lives_get hy)).1
 have hxd:ys.getD i default=x:=by rw [List.getD_eq_getElem?_getD,hx];rfl
 have hyd:ys.getD j default=y:=by rw [List.getD_eq_getElem?_getD,hy];rfl
 rw [hxd,hyd]
 unfold ltPair
 unfold ptr
 have hi':(0:Int)≤(i:Int):=by omega
 have hj':(0:Int)≤(j:Int):=by omega
 have hii:(i:Int) < (n:Int):=by omega
 have hjj:(j:Int) < (n:Int):=by omega
 clear hown hx hy hxd hyd hl
 go_enter Tryz.func131,Tryz.ntmps131
 go_wp2
 go_quiet (fail)
 go_wp2
 go_ret
 exact ⟨rfl,_,rfl⟩
end
section
open Go Go.RowKit Go.MapKept Bth
set_option maxRecDepth 100000
def fOf (F:Nat→Nat) (k:Nat):Option Nat:=if F k=0 then none else some (F k)
theorem tl_of {F:Nat→Nat} {l:TL} (h:PairsOf (fOf F) l) (h16:∀ c,F c < 65536) (h32:∀ c,F c≠0→c < 4294967296):Tidy l∧tv l=F:=by
 obtain ⟨h1,h2⟩:=h
 have key:∀ x∈l,F x.1=x.2∧x.2≠0:=fun x hx=>by
  have:=(h1 x).1 hx
  unfold fOf at this
  split at this
  ·cases this
  ·rename_i h
   injection this with this
   exact ⟨this,by rw [← this];exact h⟩
 have ht:Tidy l:=by
  clear h1
  induction l with
  | nil=>exact .nil
  | cons x l ih=>
   obtain ⟨p1,p2⟩:=List.pairwise_cons.1 h2
   obtain ⟨k1,k2⟩:=key x (by simp)
   exact .cons (ih p2 fun y hy=>key y (by simp [hy])) p1 k2 (by rw [← k1];exact h16 _) (h32 _ (by rw [k1];exact k2))
 refine ⟨ht,funext fun c=>?_⟩
 by_cases hc:F c=0
 ·rw [hc]
  apply Classical.byContradiction
  intro h
  have:=key _ (tv_mem h)
  exact this.2 (this.1.symm.trans hc)
 ·exact tv_of_mem ht (x:=(c,F c)) ((h1 _).2 (by unfold fOf;rw [if_neg hc]))
def GivesMs (w:World) (F:Nat→Nat) (e:Ending) (w':World):Prop:=
 Fr nope w w'∧∃ (A:Option Addr) (c:Nat) (l:TL),Tidy l∧tv l=F∧e = .returned (.slice A l.length c)∧TlAt w' A l
theorem infoLive:(Tryz.prog.info? 77).map (fun i=>(i.zero,i.size,i.bytes))=some (some (.agg #[.int .u32 0,.int .u16 0]),2,8):=by kernel_rfl
def mkOf (F:Nat→Nat) (k:Nat):Nat × Nat:=(k,F k)
set_option maxHeartbeats 2000000 in
theorem plainMasks_calls (w:World) (b:Nat) (F:Nat→Nat) (hb:MaskAt w b F) (h32:∀ c,F c≠0→c < 4294967296) (n:Nat) (hfew:∀ D:List Nat,D.Nodup→(∀ k∈D,F k≠0)→D.length≤n) (hn:n≤10000000000000):
  Calls Tryz.prog 93 #[.map (some b)] w (GivesMs w F):=by
 obtain ⟨⟨ks,hM⟩,h16⟩:=hb
 have hO:MapO w (some b) idV ks (fun k=>maskV (F k)):=hM
 have hks:∀ k,k∈ks↔F k≠0:=fun k=>by rw [hM.mem_iff];unfold maskV;by_cases h:F k=0<;>simp [h]
 have hnd:=hM.nodup
 have hbl:=hM.lt
 replace hks:=Lib.hid hks
 replace h16:=Lib.hid h16
 replace h32:=Lib.hid h32
 clear hM
 go_enter Tryz.func93,Tryz.ntmps93
 go_wp2_with (refine wpList_rangeO rfl rfl rfl (MapO.fr hO ((Fr.refl nope w).alloc _) (fun _ _ x=>x)) idInj maskSetT ?_;intro w0 hrg0 hf0 hs0)
 go_frame
 have hBs0:w0.heap[w.heap.size]? = some (.cells #[.slice none 0 0] 49 (0,0)):=hf0.heap (heap_alloc_new w _) (fun x=>x)
 have hs00:w0.heap.size=w.heap.size+2:=by rw [hs0];simp
 have e1:(w.alloc (Obj.cells #[Value.slice none 0 0] 49)).heap.size=w.heap.size+1:=by simp
 have hfw0:Fr nope w w0:=((Fr.refl nope w).alloc _).then hf0
 rw [e1] at hrg0
 try rw [e1]
 replace e1:=Lib.hid e1
 replace hs0:=Lib.hid hs0
 go_loopg [] ks.length (fun n wr=>∃ (todo D:List Nat) (A:Option Addr) (c:Nat),RangeO wr (w.heap.size+1) (some b) idV ks (fun k=>maskV (F k)) todo∧wr.heap[w.heap.size]? = some (.cells #[.slice A D.length c] 49 (0,0))∧wr.ownsRow (w.heap.size+2) 77 2 (.slice A D.length c) D.length ((D.map (mkOf F)).flatMap tlV)∧KInv ks todo D∧Fr nope w wr∧w.heap.size+2≤wr.heap.size∧todo.length=n)
 case atStart=>exact ⟨ks,[],none,0,hrg0,hBs0,own_nil _ _ _ _,⟨hnd,List.nodup_nil,by simp,by simp⟩,hfw0,Nat.le_of_eq hs00.symm,rfl⟩
 case round=>
  obtain ⟨todo,D,A,c,hrg,hBs,hown,hI,hf,hsz,rfl⟩:=hrel
  have hBl:=lt_of_heap hBs
  have hDn:D.length≤n:=hfew D hI.dn fun k hk=>(hks.out k).1 ((hI.mem k).2 (.inl hk))
  go_wp2_with (refine wpList_nextO rfl rfl rfl hrg idInj ?_ ?_)
  ·intro h0
   subst h0
   have hDk:∀ k,k∈D↔F k≠0:=fun k=>by rw [← hks.out,hI.mem];simp
   have hdn:=hI.dn
   have hcB:wr.cell? ⟨w.heap.size,0,none⟩=some (.slice A D.length c):=by rw [cell_of_row wr _ 0 _ _ (0,0) hBs];rfl
   have hlm:(D.map (mkOf F)).length=D.length:=List.length_map ..
   have hS:=sortLives_calls wr _ A c _ (show wr.ownsRow _ _ 2 (.slice A (D.map (mkOf F)).length c) (D.map (mkOf F)).length _ from by rw [hlm];exact hown) 131 #[ptr w.heap.size] (fun args w=>enters_of Tryz.func131 (by kernel_rfl) rfl args w) (fun b2 hb2=>by
    subst hb2
    intro W ys hW hl ho i j hi hj
    exact lessLive_calls W w.heap.size b2 _ c _ ys (hW.cell (by rw [hlm];exact hcB) (fun e=>by have:=own_base hown b2 rfl;have e':w.heap.size=b2:=e;omega)) hl ho i j hi hj) (by rw [hlm];omega)
   rw [hlm] at hS
   have hne:∀ b2,Value.ownBlock (.slice A D.length c)=some b2→w.heap.size+2≤b2:=own_base hown
   replace hDk:=Lib.hid hDk
   replace hne:=Lib.hid hne
   unfold ptr at hS
   replace hlm:=Lib.hid hlm
   clear hI hrg
   go_wp2_with fail
   refine hS.mono ?_
   rintro e w5 ⟨rfl,ys,hys,ho5,hf5⟩
   have hB5:=hf5.heap hBs (fun e=>by have:=hne.out _ e;omega)
   have hc5:w5.cell? ⟨w.heap.size,0,none⟩=some (.slice A D.length c):=by rw [cell_of_row w5 _ 0 _ _ (0,0) hB5];rfl
   have hB5l:=lt_of_heap hB5
   have hyl:=hys.1.length_eq
   rw [hlm.out] at hyl ho5
   replace hyl:=Lib.hid hyl
   go_wp2
   go_ret
   have hpo:PairsOf (fOf F) ys:=by
    refine pairs_of (ks:=ks) (ys:=ks) (f:=fOf F) (D:=D) (fun k=>by rw [hDk.out];unfold fOf;by_cases h:F k=0<;>simp [h]) hdn ?_ rfl
    have e:D.map (prOf (fOf F))=D.map (mkOf F):=List.map_congr_left fun k hk=>by
     have:=(hDk.out k).1 hk
     unfold prOf fOf mkOf
     rw [if_neg this];rfl
    rw [e];exact hys
   obtain ⟨t1,t2⟩:=tl_of hpo h16.out h32.out
   refine ⟨hf.then_new hf5 (fun c hc e=>by have:=hne.out _ e;omega),A,c,ys,t1,t2,?_,?_⟩
   ·rw [hyl.out];rfl
   ·unfold TlAt;rw [hyl.out];exact Rw.of_own ho5
  ·intro k v w1 hkt hkk hv hrg1 hf1 hs1 hen
   obtain ⟨p,hp,rfl⟩:∃ p,F k=p∧v = .int .u16 (p:Int):=by
    unfold maskV at hv
    split at hv
    ·cases hv
    ·injection hv with hv;exact ⟨_,rfl,hv.symm⟩
   have hI1:=hI.step hkt
   have hlen:(todo.erase k).length < todo.length:=by rw [List.length_erase_of_mem hkt];have:=List.length_pos_of_mem hkt;omega
   have hB1:=hf1.heap hBs (by omega)
   have hc1:w1.cell? ⟨w.heap.size,0,none⟩=some (.slice A D.length c):=by rw [cell_of_row w1 _ 0 _ _ (0,0) hB1];rfl
   have hB1l:=lt_of_heap hB1
   have hown1:=own_fr hown hf1 (fun b hb e=>by have:=own_base hown b hb;omega)
   have hpr:mkOf F k=(k,p):=by unfold mkOf;rw [hp]
   have hf01:Fr nope w w1:=hf.then_new hf1 (fun c hc e=>by omega)
   have hs1':wr.heap.size≤w1.heap.size:=Nat.le_of_eq hs1.symm
   replace hs1:=Lib.hid hs1
   replace hp:=Lib.hid hp
   replace hpr:=Lib.hid hpr
   clear hv hrg hBs
   unfold idV at hen
   go_wp2_with (refine wpList_app (v:=.slice A D.length c) rfl rfl Tryz.underlying49 infoLive rfl (by omega) rfl (own_fr hown1 ((Fr.refl nope _).alloc _) (fun _ _ x=>x)) rfl (news:=tlV (k,p)) rfl (fun _=>cells_new _ _ _ _ (by simp)) (by simp [Value.oneCell',tlV]) (by simp only [maxLen];omega) (by omega) (by simp;omega) ?hk)
   case hk=>
    intro v3 w3 hown3 hf3 hb3
    obtain ⟨A3,c3,rfl,_,_⟩:=own_slice hown3
    have hnb:¬Value.ownBlock (.slice A D.length c)=some w.heap.size:=fun e=>by have:=own_base hown _ e;omega
    have hB3:=hf3.heap (((Fr.refl nope w1).alloc _).heap hB1 (fun x=>x)) hnb
    have hc3':w3.cell? ⟨w.heap.size,0,none⟩=some (.slice A D.length c):=by rw [cell_of_row w3 _ 0 _ _ (0,0) hB3];rfl
    have hz3:=frozen_row hB3 0
    have hB3l:=lt_of_heap hB3
    replace hb3:=Lib.hid hb3
    go_wp2
    have hst:Fr (fun x=>x=w.heap.size) w3 (w3.setCell ⟨w.heap.size,0,none⟩ (.slice A3 (D.length+1) c3)):=(Fr.refl (fun x=>x=w.heap.size) w3).setCell (.inl rfl) _
    go_roundg (todo.erase k).length
    case measure=>exact hlen
    case rel=>
     have hsz3:=hf3.size
     simp at hsz3
     have hs4:(w3.setCell ⟨w.heap.size,0,none⟩ (.slice A3 (D.length+1) c3)).heap.size=w3.heap.size:=by simp [World.setCell]
     have hl3:∀ x,Value.ownBlock (.slice A3 (D.length+1) c3)=some x→w.heap.size+2≤x:=own_base hown3
     refine ⟨_,D ++ [k],A3,c3,((hrg1.fr ((Fr.refl nope w1).alloc _) (fun x=>x) (fun _ _ x=>x)).fr hf3 (fun e=>by have:=own_base hown _ e;omega) (fun b2 hb2 e=>by injection hb2 with hb2;subst hb2;have:=own_base hown _ e;omega)).fr hst (by omega) (fun b2 hb2 e=>by injection hb2 with hb2;omega),?_,?_,hI1,?_,by omega,rfl⟩
     ·rw [List.length_append];exact setCell_heap hB3 _
     ·rw [List.length_append,List.map_append,List.flatMap_append]
      refine own_fr ?_ hst (fun x hx e=>by have:=hl3 x (by simpa using hx);omega)
      simp only [List.map_cons,List.map_nil,hpr.out,List.flatMap_cons,List.flatMap_nil,List.append_nil,List.length_singleton]
      exact hown3
     ·exact (((hf01.alloc _).then_new hf3 (fun x hx e=>by have:=own_base hown _ e;omega))).then_new hst (fun x hx e=>by omega)
end
section
open Go Go.RowKit Bth
set_option maxRecDepth 100000
noncomputable def plReg:Array Oper:=findReg 4 (Tryz.f51.body.getD .skip)
noncomputable def oPL (i:Nat):Oper:=opAt plReg i
theorem plReg_get {i:Nat} (h:Nat.blt i 18=true):plReg[i]? = some (oPL i):=opAt_get (by kernel_rfl) h
theorem wp_bs2 {o:Oper} {a:Act} {w:World} {K:Act→World→Prop} {Q:Exit→Act→World→Prop} {t:Nat} (ho:o.op = .buildSlice 31 1 #[(0,.tmp t)]) {A:Option Addr} {n c:Nat} (hv:a.eval (.tmp t) = .slice A n c)
  (h:K (a.put o.dst (.slice (some ⟨w.heap.size,0,none⟩) 1 1)) (w.alloc (.cells #[.slice A n c] 49))):Oper.wp Tryz.prog o a w K Q:=by
 have hrun:(execOp a.eval o).run Tryz.prog w = .ok (.value (.slice (some ⟨w.heap.size,0,none⟩) 1 1)) (w.alloc (.cells #[.slice A n c] 49)):=by
  unfold execOp
  rw [ho]
  simp only [List.map_toArray,List.map_cons,List.map_nil,hv]
  go_simp
 show o.upon Tryz.prog a K Q ((execOp a.eval o).run Tryz.prog w)
 rw [hrun]
 exact h
set_option maxHeartbeats 2000000 in
theorem rgPL {a0:Act} {w:World} {Q:Exit→Act→World→Prop} {S:World→Prop} {b m1 m2:Nat} {s1 s2:Value} {R1 R2 R3 R4:Value→World→Prop} {R5:Value→Value→World→Prop}
  (h0:Bun a0 32 [(2,s1),(3,s2),(5,.pointer (some ⟨b,0,none⟩))]) (hQ:∀ d v c a w,Q (.panic c) (a.put d v) w→Q (.panic c) a w)
  (hS0:S w.drew) (l1:∀ w',S w'→w'.cell? ⟨b,12,none⟩=some (.map (some m1))) (l2:∀ w',S w'→w'.cell? ⟨b,13,none⟩=some (.map (some m2))) (hSa:∀ w o,S w→S (w.alloc o))
  (h1:Calls Tryz.prog 93 #[.map (some m1)] w.drew fun e w'=>∃ A n c,e = .returned (.slice A n c)∧R1 (.slice A n c) w'∧S w')
  (h2:∀ y w1 a K,R1 y w1→a.eval (.tmp 13)=s1→a.eval (.tmp 19) = .slice (some ⟨w1.heap.size,0,none⟩) 1 1→(∀ v w',R2 v w'→S w'→K (a.put (oPL 7).dst v) w')→Oper.wp Tryz.prog (oPL 7) a (w1.alloc (.cells #[y] 49)) K Q)
  (h3:∀ v w2,R2 v w2→Calls Tryz.prog 93 #[.map (some m2)] w2 fun e w'=>∃ A n c,e = .returned (.slice A n c)∧R3 v w'∧R4 (.slice A n c) w'∧S w')
  (h4:∀ v y w3 a K,R3 v w3→R4 y w3→a.eval (.tmp 21)=s2→a.eval (.tmp 27) = .slice (some ⟨w3.heap.size,0,none⟩) 1 1→(∀ u w',R5 v u w'→S w'→K (a.put (oPL 15).dst u) w')→Oper.wp Tryz.prog (oPL 15) a (w3.alloc (.cells #[y] 49)) K Q)
  (h:∀ v u w' a,R5 v u w'→(∃ x13 x14 x15 x16 x17 x18 x19 x20 x21 x22 x23 x24 x25 x26 x27 x28,a=putL a0 [(13,x13),(14,x14),(15,x15),(16,x16),(17,x17),(21,x21),(22,x22),(23,x23),(24,x24),(25,x25),(18,x18),(19,x19),(20,x20),(26,x26),(27,x27),(28,x28),(2,v),(3,u)])→Q .normal a w'):(Code.region 4 plReg true).wp Tryz.prog Q a0 w:=by
 refine wp_region_held_drew (S:=S) (by kernel_rfl) hS0 (fun hS0=>?_)
 rw [show plReg.size=18 from by kernel_rfl]
 refine takeMv h0 hS0 hQ 0 13 2 _ (by unfold isB;kernel_rfl) (by kernel_rfl) rfl fun a0 e0 h0=>?_
 refine takeMv h0 hS0 hQ 1 14 5 _ (by unfold isB;kernel_rfl) (by kernel_rfl) rfl fun a1 e1 h0=>?_
 refine takeNil h0 hS0 hQ 2 15 14 _ (by unfold isB;kernel_rfl) (by kernel_rfl) rfl fun a2 e2 h0=>?_
 refine takeFld h0 hS0 hQ 3 16 15 174 12 _ _ (by unfold isB;kernel_rfl) (by kernel_rfl) rfl (insFld b 12 (by decide)) fun a3 e3 h0=>?_
 refine takeLd h0 hS0 hQ 4 17 16 172 _ (.map (some m1)) (by unfold isB;kernel_rfl) (by kernel_rfl) rfl (fun w hw=>by have hc:=l1 _ hw;go_simp) fun a4 e4 h0=>?_
 refine takeMv h0 hS0 hQ 8 21 3 _ (by unfold isB;kernel_rfl) (by kernel_rfl) rfl fun a8 e8 h0=>?_
 refine takeMv h0 hS0 hQ 9 22 5 _ (by unfold isB;kernel_rfl) (by kernel_rfl) rfl fun a9 e9 h0=>?_
 refine takeNil h0 hS0 hQ 10 23 22 _ (by unfold isB;kernel_rfl) (by kernel_rfl) rfl fun a10 e10 h0=>?_
 refine takeFld h0 hS0 hQ 11 24 23 174 13 _ _ (by unfold isB;kernel_rfl) (by kernel_rfl) rfl (insFld b 13 (by decide)) fun a11 e11 h0=>?_
 refine takeLd h0 hS0 hQ 12 25 24 172 _ (.map (some m2)) (by unfold isB;kernel_rfl) (by kernel_rfl) rfl (fun w hw=>by have hc:=l2 _ hw;go_simp) fun a12 e12 h0=>?_
 refine wpAnyH_ready (rs:=[5]) (by kernel_rfl) (by simp) (AllReadyH.cons (o:=oPL 5) (plReg_get rfl) (fun K hK=>?_) AllReadyH.nil)
 rw [if_pos (show Region.wanted (oPL 5) _=true from rfl)]
 refine wp_callU (show (oPL 5).op = .call { callee:=.value (.func 93),args:=#[.tmp 17],argTypes:=#[172] } from by kernel_rfl) Tryz.func93 (by kernel_rfl) (by kernel_rfl) ?_
 simp only [List.map_toArray,List.map_cons,List.map_nil,h0.at_ 17 _ rfl]
 refine (h1).mono ?_
 rintro e w1 ⟨A1,k1,c1,rfl,r1,s1'⟩
 refine hK.out _ _ s1' (fun hS0=>?_)
 rw [show (oPL 5).dst=some 18 from by kernel_rfl]
 replace h0:=h0.put (x:=some 18) rfl (d:=18) (by decide) (.slice A1 k1 c1)
 refine wpAnyH_ready (rs:=[6]) (by kernel_rfl) (by simp) (AllReadyH.cons (o:=oPL 6) (plReg_get rfl) (fun K hK=>?_) AllReadyH.nil)
 rw [if_pos (show Region.wanted (oPL 6) _=true from rfl)]
 refine wp_bs2 (show (oPL 6).op = .buildSlice 31 1 #[(0,.tmp 18)] from by kernel_rfl) (h0.at_ 18 _ rfl) ?_
 refine hK.out _ _ (hSa _ _ s1') (fun hS0=>?_)
 rw [show (oPL 6).dst=some 19 from by kernel_rfl]
 replace h0:=h0.put (x:=some 19) rfl (d:=19) (by decide) (.slice (some ⟨w1.heap.size,0,none⟩) 1 1)
 refine wpAnyH_ready (rs:=[7]) (by kernel_rfl) (by simp) (AllReadyH.cons (o:=oPL 7) (plReg_get rfl) (fun K hK=>?_) AllReadyH.nil)
 rw [if_pos (show Region.wanted (oPL 7) _=true from rfl)]
 refine h2 _ w1 _ _ r1 (h0.at_ 13 _ rfl) (h0.at_ 19 _ rfl) ?_
 intro v w2 r2 s2'
 refine hK.out _ _ s2' (fun hS0=>?_)
 rw [show (oPL 7).dst=some 20 from by kernel_rfl]
 replace h0:=h0.put (x:=some 20) rfl (d:=20) (by decide) (v)
 refine wpAnyH_ready (rs:=[13]) (by kernel_rfl) (by simp) (AllReadyH.cons (o:=oPL 13) (plReg_get rfl) (fun K hK=>?_) AllReadyH.nil)
 rw [if_pos (show Region.wanted (oPL 13) _=true from rfl)]
 refine wp_callU (show (oPL 13).op = .call { callee:=.value (.func 93),args:=#[.tmp 25],argTypes:=#[172] } from by kernel_rfl) Tryz.func93 (by kernel_rfl) (by kernel_rfl) ?_
 simp only [List.map_toArray,List.map_cons,List.map_nil,h0.at_ 25 _ rfl]
 refine (h3 v w2 r2).mono ?_
 rintro e w3 ⟨A3,k3,c3,rfl,r3,r4,s3'⟩
 refine hK.out _ _ s3' (fun hS0=>?_)
 rw [show (oPL 13).dst=some 26 from by kernel_rfl]
 replace h0:=h0.put (x:=some 26) rfl (d:=26) (by decide) (.slice A3 k3 c3)
 refine wpAnyH_ready (rs:=[14]) (by kernel_rfl) (by simp) (AllReadyH.cons (o:=oPL 14) (plReg_get rfl) (fun K hK=>?_) AllReadyH.nil)
 rw [if_pos (show Region.wanted (oPL 14) _=true from rfl)]
 refine wp_bs2 (show (oPL 14).op = .buildSlice 31 1 #[(0,.tmp 26)] from by kernel_rfl) (h0.at_ 26 _ rfl) ?_
 refine hK.out _ _ (hSa _ _ s3') (fun hS0=>?_)
 rw [show (oPL 14).dst=some 27 from by kernel_rfl]
 replace h0:=h0.put (x:=some 27) rfl (d:=27) (by decide) (.slice (some ⟨w3.heap.size,0,none⟩) 1 1)
 refine wpAnyH_ready (rs:=[15]) (by kernel_rfl) (by simp) (AllReadyH.cons (o:=oPL 15) (plReg_get rfl) (fun K hK=>?_) AllReadyH.nil)
 rw [if_pos (show Region.wanted (oPL 15) _=true from rfl)]
 refine h4 v _ w3 _ _ r3 r4 (h0.at_ 21 _ rfl) (h0.at_ 27 _ rfl) ?_
 intro u w4 r5 s4'
 refine hK.out _ _ s4' (fun hS0=>?_)
 rw [show (oPL 15).dst=some 28 from by kernel_rfl]
 replace h0:=h0.put (x:=some 28) rfl (d:=28) (by decide) (u)
 refine takeB h0 hS0 hQ 16 2 _ (v) (show isB plReg 16 2 (.assign (.tmp 20)) from by unfold isB;kernel_rfl) (by kernel_rfl) (fun o e w hw=>by simp [execOp,e,h0.at_ 20 _ rfl]) fun a16 e16 h0=>?_
 refine takeB h0 hS0 hQ 17 3 _ (u) (show isB plReg 17 3 (.assign (.tmp 28)) from by unfold isB;kernel_rfl) (by kernel_rfl) (fun o e w hw=>by simp [execOp,e,h0.at_ 28 _ rfl]) fun a17 e17 h0=>?_
 refine wpAnyH_done (by kernel_rfl) (h v u w4 _ r5 ?_) _
 subst e17 e16 e12 e11 e10 e9 e8 e4 e3 e2 e1 e0
 exact ⟨_,_,_,_,_,_,_,_,_,_,_,_,_,_,_,_,rfl⟩
def TlsOf (V:Nat→Nat→Nat) (n:Nat) (l:List TL):Prop:=l.length=n∧∀ (k:Nat) (s:TL),l[k]? = some s→Tidy s∧tv s=V k
theorem TlsOf.snoc {V:Nat→Nat→Nat} {n:Nat} {l:List TL} (h:TlsOf V n l) {s:TL} (h1:Tidy s) (h2:tv s=V n):TlsOf V (n+1) (l ++ [s]):=by
 refine ⟨by rw [List.length_append,h.1];rfl,fun k t hk=>?_⟩
 by_cases hlt:k < l.length
 ·rw [List.getElem?_append_left hlt] at hk
  exact h.2 k t hk
 ·rw [List.getElem?_append_right (by omega)] at hk
  have h0:k - l.length=0:=by have:=(List.getElem?_eq_some_iff.1 hk).1;simp at this;omega
  rw [h0] at hk
  injection hk with hk
  have:k=n:=by have:=h.1;omega
  subst hk this
  exact ⟨h1,h2⟩
def GivesPL (w:World) (n:Nat) (V:Sets) (e:Ending) (w':World):Prop:=Fr nope w w'∧∃ A c D d l1 l2,e = .returned (.tuple #[.slice A n c,.slice D n d])∧TlsAt w' A l1∧TlsAt w' D l2∧TlsOf (V false) n l1∧TlsOf (V true) n l2
set_option maxHeartbeats 4000000 in
theorem plainLive_calls (w:World) (fs:Nat→Option Nat) (ns:List PN) (fb:Nat) (f:Fn) (nds:List Nd) (rs:List Rec) (cms:List (Nat × List ByteArray)) (mm:Bool→Nat→Nat) (V:Sets)
  (st:FState w fs ns fb f nds rs cms) (lv:Lv w rs mm V) (hl:nds.length≤1048576) (n:Nat) (hn:n≤10000000000000)
  (hV:∀ p k,k < rs.length→(∀ c,V p k c≠0→c < 4294967296)∧∀ D:List Nat,D.Nodup→(∀ c∈D,V p k c≠0)→D.length≤n):
  Calls Tryz.prog 51 #[ptr fb] w (GivesPL w rs.length V):=by
 obtain ⟨A,c,hnn,_,_⟩:=own_slice st.nodes
 have hrl:rs.length≤nds.length:=by
  have:=st.mt.insOf
  have h2:=insOf_le nds
  rw [this,List.length_map] at h2
  exact h2
 have hSn:Sl w A nds.length (nds.map Nd.val):=by have h:=st.nodes;rw [hnn] at h;exact own_Sl h
 have hc5:=st.fn.c5
 rw [hnn] at hc5
 have hI:=Instructions_calls w fb A c nds hc5 hSn (by omega)
 rw [st.mt.insOf] at hI
 have hbsl:(rs.map (·.b)).length=rs.length:=List.length_map ..
 have hgo:∀ k,k < rs.length→∃ rb,(rs.map (·.b))[k]? = some rb∧(∀ W,Fr nope w W→W.cell? ⟨rb,12,none⟩=some (.map (some (mm false k)))∧W.cell? ⟨rb,13,none⟩=some (.map (some (mm true k))))∧∀ p W,Fr nope w W→MaskAt W (mm p k) (V p k):=by
  intro k hk
  have hr:rs[k]? = some rs[k]:=List.getElem?_eq_getElem hk
  have hat:=(st.recs _ (List.mem_of_getElem? hr)).1.own.at_
  obtain ⟨a1,a2⟩:=lv.at_ k _ hr
  refine ⟨_,by rw [List.getElem?_map,hr];rfl,fun W hW=>?_,fun p W hW=>(lv.mask p k hk).fr hW (fun x=>x)⟩
  have:=fun j=>cell_of_row _ _ j _ _ (0,0) (hW.heap hat (fun x=>x))
  exact ⟨(this 12).trans (by rw [← a1];rfl),(this 13).trans (by rw [← a2];rfl)⟩
 obtain ⟨bs,hbs⟩:∃ bs,bs=rs.map (·.b):=⟨_,rfl⟩
 rw [← hbs] at hI hbsl hgo
 obtain ⟨m,hm⟩:∃ m,m=rs.length:=⟨_,rfl⟩
 rw [← hm] at hrl hbsl hgo hV ⊢
 clear st hSn hc5 hnn lv
 replace hgo:=Lib.hid hgo
 replace hV:=Lib.hid hV
 replace hbs:=Lib.hid hbs
 replace hm:=Lib.hid hm
 unfold ptr
 go_enter Tryz.func51,Tryz.ntmps51
 go_wp2_with fail
 refine hI.mono ?_
 rintro e w1 ⟨v,rfl,hown,hf1⟩
 obtain ⟨Ai,ci,rfl,_,_⟩:=own_slice hown
 rw [List.length_map,hbsl] at hown ⊢
 have hSi:Sl w1 Ai bs.length (bs.map ptr):=by rw [hbsl];exact own_Sl hown
 clear hown hI
 go_wp2
 go_loopg [2,3,9] m (fun q c2 c3 c9 wr=>∃ (k:Nat) (A1:Option Addr) (d1:Nat) (A2:Option Addr) (d2:Nat) (v1 v2:List Value) (t1 t2:List TL),k≤m∧c9 = .int .i64 (k:Int)∧c2 = .slice A1 k d1∧c3 = .slice A2 k d2∧wr.ownsRow w1.heap.size 49 1 (.slice A1 k d1) k v1∧wr.ownsRow w1.heap.size 49 1 (.slice A2 k d2) k v2∧Hid (TlsV wr v1 t1)∧Hid (TlsV wr v2 t2)∧Hid (TlsOf (V false) k t1)∧Hid (TlsOf (V true) k t2) ∧
  Hid (∀ b,(Value.slice A1 k d1).ownBlock=some b→(Value.slice A2 k d2).ownBlock≠some b)∧Fr nope w1 wr∧q=m - k)
 case atStart=>exact ⟨0,none,0,none,0,[],[],[],[],Nat.zero_le _,rfl,rfl,rfl,own_nil _ _ _ _,own_nil _ _ _ _,Lib.hid ⟨rfl,by simp⟩,Lib.hid ⟨rfl,by simp⟩,Lib.hid ⟨rfl,by simp⟩,Lib.hid ⟨rfl,by simp⟩,Lib.hid (by simp [Value.ownBlock]),Fr.refl _ _,rfl⟩
 case round=>
  obtain ⟨k,A1,d1,A2,d2,v1,v2,t1,t2,hk,rfl,rfl,rfl,ho1,ho2,ht1,ht2,hs1,hs2,hdj,hf,rfl⟩:=hrel
  by_cases hlt:k < m
  ·obtain ⟨rb,hrb,hcs,hms⟩:=hgo.out k hlt
   obtain ⟨b,off,u,hAe,hbl',hu,hc⟩:=(hSi.nope hf).at_ (show k < bs.length by omega)
   rw [List.getElem?_map,hrb] at hu
   injection hu with hu
   subst hu
   unfold ptr at hc
   have hP:=fun p W (hW:Fr nope w1 W)=>plainMasks_calls W (mm p k) (V p k) (hms p W (hf1.then hW)) (hV.out p k hlt).1 n (hV.out p k hlt).2 hn
   have hcs':∀ W,Fr nope w1 W→W.cell? ⟨rb,12,none⟩=some (.map (some (mm false k)))∧W.cell? ⟨rb,13,none⟩=some (.map (some (mm true k))):=fun W hW=>hcs W (hf1.then hW)
   replace hcs':=Lib.hid hcs'
   replace hP:=Lib.hid hP
   clear hcs hms hrb hgo
   subst hAe
   have hsz:=hf.size
   have hdr:=hf.drew
   have hd:=(Fr.refl nope wr).drew
   have hbo1:=own_base ho1
   have hbo2:=own_base ho2
   have hgrow:∀ W,Fr nope w1 W→w1.heap.size≤W.heap.size:=fun W h=>h.size
   go_wp2_with fail
   refine rgPL (S:=fun W=>Fr nope w1 W) (b:=rb) (m1:=mm false k) (m2:=mm true k)
    (R1:=fun y W=>Fr nope wr W∧Fr nope w1 W∧∃ A5 c5 s,y = .slice A5 s.length c5∧TlAt W A5 s∧Tidy s∧tv s=V false k)
    (R2:=fun v W=>Fr nope w1 W∧∃ A6 c6 x1 s1,v = .slice A6 (k+1) c6∧W.ownsRow w1.heap.size 49 1 (.slice A6 (k+1) c6) (k+1) x1∧TlsV W x1 s1∧TlsOf (V false) (k+1) s1∧W.ownsRow w1.heap.size 49 1 (.slice A2 k d2) k v2∧TlsV W v2 t2∧∀ b,(Value.slice A6 (k+1) c6).ownBlock=some b→(Value.slice A2 k d2).ownBlock≠some b)
    (R3:=fun v W=>Fr nope w1 W∧∃ A6 c6 x1 s1,v = .slice A6 (k+1) c6∧W.ownsRow w1.heap.size 49 1 (.slice A6 (k+1) c6) (k+1) x1∧TlsV W x1 s1∧TlsOf (V false) (k+1) s1∧W.ownsRow w1.heap.size 49 1 (.slice A2 k d2) k v2∧TlsV W v2 t2∧∀ b,(Value.slice A6 (k+1) c6).ownBlock=some b→(Value.slice A2 k d2).ownBlock≠some b)
    (R4:=fun y W=>∃ A7 c7 s,y = .slice A7 s.length c7∧TlAt W A7 s∧Tidy s∧tv s=V true k)
    (R5:=fun v u W=>Fr nope w1 W∧∃ A6 c6 A8 c8 x1 x2 s1 s2,v = .slice A6 (k+1) c6∧u = .slice A8 (k+1) c8∧W.ownsRow w1.heap.size 49 1 (.slice A6 (k+1) c6) (k+1) x1∧W.ownsRow w1.heap.size 49 1 (.slice A8 (k+1) c8) (k+1) x2∧TlsV W x1 s1∧TlsV W x2 s2∧TlsOf (V false) (k+1) s1∧TlsOf (V true) (k+1) s2∧∀ b,(Value.slice A6 (k+1) c6).ownBlock=some b→(Value.slice A8 (k+1) c8).ownBlock≠some b)
    (((Bun.nil rfl rfl).cons 5 rfl).cons 3 rfl |>.cons 2 rfl) (fun d _ _ _ _ h=>by cases d<;>simpa [Exit.inBlock,Exit.then,bodyPost,Act.put] using h) hdr (fun W hW=>(hcs'.out W hW).1) (fun W hW=>(hcs'.out W hW).2) (fun W o hW=>hW.alloc o) ?_ ?_ ?_ ?_ ?_
   ·refine (hP.out false _ hdr).mono ?_
    rintro e w5 ⟨hf5,A5,c5,s,q1,q2,rfl,hown5⟩
    exact ⟨_,_,_,rfl,⟨hd.then hf5,hdr.then hf5,A5,c5,s,rfl,hown5,q1,q2⟩,hdr.then hf5⟩
   ·rintro y w5 a K ⟨hq5,hn5,A5,c5,s,rfl,hr5,q1,q2⟩ f15 f22 hK
    have hal:=(Fr.refl nope w5).alloc (.cells #[.slice A5 s.length c5] 49)
    have ho15:=own_fr (own_fr ho1 hq5 (fun _ _ x=>x)) hal (fun _ _ x=>x)
    have ho25:=own_fr (own_fr ho2 hq5 (fun _ _ x=>x)) hal (fun _ _ x=>x)
    have hg:=hgrow _ (hn5.alloc (.cells #[.slice A5 s.length c5] 49))
    refine wp_app (o:=oPL 7) rfl Tryz.underlying31 infoLs rfl (by omega) (v:=.slice A1 k d1) f15 ho15 f22 (news:=[.slice A5 s.length c5]) rfl (one_new _ _ _ _ rfl) (by simp [Value.oneCell']) (by simp only [maxLen];omega) (by omega) hg ?_
    intro v w6 hown6 hf6 hb6
    obtain ⟨A6,c6,rfl,_,_⟩:=own_slice hown6
    have hS6:NoT [77] _ (fun b=>(Value.slice A1 k d1).ownBlock=some b):=NoT.own ho15 (by decide)
    have hn6:Fr nope w1 w6:=(hn5.alloc _).then_new hf6 (fun x hx e=>by have:=hbo1 x e;omega)
    refine hK _ _ ⟨hn6,A6,c6,_,_,rfl,hown6,?_,hs1.out.snoc q1 q2,own_fr ho25 hf6 (fun b hb e=>hdj.out b e hb),?_,?_⟩ hn6
    ·exact ((TlsV.snoc (ht1.out.frT hq5 (NoT.nope _ _)) hr5).frT hal (NoT.nope _ _)).frT hf6 hS6
    ·exact ((ht2.out.frT hq5 (NoT.nope _ _)).frT hal (NoT.nope _ _)).frT hf6 hS6
    ·intro b hb hb2
     rcases hb6 with e | e
     ·rw [hb] at e;exact hdj.out b e.symm hb2
     ·rw [hb] at e
      injection e with e
      have:=own_lt ho25 b hb2
      omega
   ·rintro v w6 ⟨hn6,A6,c6,x1,s1,rfl,g1,g2,g2',g3,g4,g5⟩
    refine (hP.out true _ hn6).mono ?_
    rintro e w7 ⟨hf7,A7,c7,s,q1,q2,rfl,hown7⟩
    exact ⟨_,_,_,rfl,⟨hn6.then hf7,A6,c6,x1,s1,rfl,own_fr g1 hf7 (fun _ _ x=>x),g2.frT hf7 (NoT.nope _ _),g2',own_fr g3 hf7 (fun _ _ x=>x),g4.frT hf7 (NoT.nope _ _),g5⟩,⟨A7,c7,s,rfl,hown7,q1,q2⟩,hn6.then hf7⟩
   ·rintro v y w7 a K ⟨hn7,A6,c6,x1,s1,rfl,g1,g2,g2',g3,g4,g5⟩ ⟨A7,c7,s,rfl,hr7,q1,q2⟩ f24 f31 hK
    have hal:=(Fr.refl nope w7).alloc (.cells #[.slice A7 s.length c7] 49)
    have ho17:=own_fr g1 hal (fun _ _ x=>x)
    have ho27:=own_fr g3 hal (fun _ _ x=>x)
    have hg:=hgrow _ (hn7.alloc (.cells #[.slice A7 s.length c7] 49))
    refine wp_app (o:=oPL 15) rfl Tryz.underlying31 infoLs rfl (by omega) (v:=.slice A2 k d2) f24 ho27 f31 (news:=[.slice A7 s.length c7]) rfl (one_new _ _ _ _ rfl) (by simp [Value.oneCell']) (by simp only [maxLen];omega) (by omega) hg ?_
    intro u w8 hown8 hf8 hb8
    obtain ⟨A8,c8,rfl,_,_⟩:=own_slice hown8
    have hS8:NoT [77] _ (fun b=>(Value.slice A2 k d2).ownBlock=some b):=NoT.own ho27 (by decide)
    have hn8:Fr nope w1 w8:=(hn7.alloc _).then_new hf8 (fun x hx e=>by have:=hbo2 x e;omega)
    refine hK _ _ ⟨hn8,A6,c6,A8,c8,x1,_,s1,_,rfl,rfl,own_fr ho17 hf8 (fun b hb e=>g5 b hb e),hown8,?_,?_,g2',hs2.out.snoc q1 q2,?_⟩ hn8
    ·exact (g2.frT hal (NoT.nope _ _)).frT hf8 hS8
    ·exact ((TlsV.snoc g4 hr7).frT hal (NoT.nope _ _)).frT hf8 hS8
    ·intro b hb hb2
     rcases hb8 with e | e
     ·rw [hb2] at e;exact g5 b hb e.symm
     ·rw [hb2] at e
      injection e with e
      have:=own_lt ho17 b hb
      omega
   ·rintro v u w8 a ⟨hn8,A6,c6,A8,c8,x1,x2,s1,s2,rfl,rfl,g1,g2,g3,g4,g6,g7,g5⟩ ⟨x13,x14,x15,x16,x17,x18,x19,x20,x21,x22,x23,x24,x25,x26,x27,x28,rfl⟩
    simp only [putL,List.foldl_cons,List.foldl_nil,Act.put,List.setIfInBounds_toArray,List.set_cons_zero,List.set_cons_succ]
    replace g3:=Lib.hid g3
    replace g4:=Lib.hid g4
    replace g5:=Lib.hid g5
    replace g6:=Lib.hid g6
    replace g7:=Lib.hid g7
    go_wp2
    go_roundg (m - (k+1))
    case measure=>omega
    case rel=>exact ⟨k+1,A6,c6,A8,c8,x1,x2,s1,s2,by omega,by go_num,rfl,rfl,g1,g2,g3,g4,g6,g7,g5,hn8,rfl⟩
  ·have hkn:k=m:=by omega
   subst hkn
   go_wp2
   go_ret2
   exact ⟨hf1.then hf,A1,d1,A2,d2,t1,t2,rfl,⟨v1,by rw [hs1.out.1];exact Rw.of_own ho1,ht1.out⟩,⟨v2,by rw [hs2.out.1];exact Rw.of_own ho2,ht2.out⟩,hs1.out,hs2.out⟩
end
section
open Go Go.RowKit Go.MapKept Bth
set_option maxRecDepth 100000
structure LvOk (ns:List PN):Prop where
 ok:ns.all okN=true
 ops:∀ p∈insP ns,p.Ok
 canc:∀ p∈insP ns,p.canc=true→2≤(gsOf p.inp).length
theorem AFOk.lv {ns:List PN} (h:AFOk ns):LvOk ns:=⟨h.ok,h.ops,h.canc⟩
theorem ins_ok_of {w w0:World} {wb B:Nat} {fs:Nat→Option Nat} (hW:WAt w wb fs) {s:SV} {ns:List PN} {nds:List Nd} {rs:List Rec} {cms:List (Nat × List ByteArray)} (hM:Mt fs ns nds rs cms) (hN:NodesAt w0 B s ns) (h:LvOk ns):∀ r∈rs,InsOk r:=by
 intro r hr
 obtain ⟨p,hp,hm⟩:=hM.each hr
 obtain ⟨n,hn,rfl⟩:=insP_mem hp
 have hf:=(hN.each n hn).ins.few
 have h2:=pOps_len hm.inp
 have h3:=pOps_len hm.out
 have h4:=(hm.regs hW (h.ops _ hp)).2.2.1
 refine ⟨by omega,by omega,fun hc=>?_⟩
 have h5:=h.canc _ hp (by rw [← hm.canc];exact hc)
 rw [← h4,List.length_map] at h5
 exact h5
theorem u_few {w:World} {B:Nat} {s:SV} {ns:List PN} (hN:NodesAt w B s ns) (hops:∀ p∈insP ns,p.Ok) (sc:Nat→List (Option Nat)):(flowP (insP ns) sc).U.length≤10000000000000∧∀ c∈(flowP (insP ns) sc).U,c < 4294967296:=by
 constructor
 ·show ((insP ns).flatMap fun p=>(inGs p.canc p.inp p.out).map G.id).length≤_
  have hl:(insP ns).length≤1048576:=by
   have h1:=hN.few
   have:(insP ns).length≤ns.length:=by unfold insP;rw [List.length_map];exact List.length_filter_le _ _
   omega
  have hp:∀ p∈insP ns,((inGs p.canc p.inp p.out).map G.id).length≤4194304:=fun p hp=>by
   obtain ⟨n,hn,rfl⟩:=insP_mem hp
   have hf:=(hN.each n hn).ins.few
   have:=inGs_le n.ins.canc n.ins.inp n.ins.out
   rw [List.length_map]
   omega
  have key:∀ l:List PI,(∀ p∈l,((inGs p.canc p.inp p.out).map G.id).length≤4194304)→(l.flatMap fun p=>(inGs p.canc p.inp p.out).map G.id).length≤l.length*4194304:=by
   intro l
   induction l with
   | nil=>simp
   | cons x l ih=>
    intro h
    have h1:=h x (by simp)
    have h2:=ih fun p hp=>h p (by simp [hp])
    rw [List.flatMap_cons,List.length_append,List.length_cons]
    omega
  have:=key _ hp
  omega
 ·intro c hc
  obtain ⟨p,hp,h2⟩:=List.mem_flatMap.1 hc
  obtain ⟨g,hg,rfl⟩:=List.mem_map.1 h2
  refine G.id_lt ?_
  rcases inGs_mem hg with hg | hg
  ·exact gsOf_ok (hops p hp).inp g hg
  ·exact gsOf_ok (hops p hp).out g hg
theorem live_plain2 {w0:World} {wb:Nat} {fs:Nat→Option Nat} (hW:WAt w0 wb fs) {ns:List PN} {nds:List Nd} {rs:List Rec} {cms:List (Nat × List ByteArray)} (hM:Mt fs ns nds rs cms) (hp:∀ p∈insP ns,p.Ok) (hinj:∀ (j k:Nat) (a b:Rec),rs[j]? = some a→rs[k]? = some b→a.b=b.b→j=k)
  {sc scP:Nat→List (Option Nat)} (hsc:∀ k,k < rs.length→sc k=(scP k).map (blk (rs.map (·.b)))) {V:Sets} (hS:Sound (flowOf rs sc) V) (ho:∀ k,k < rs.length→closedOut (flowOf rs sc) V k) (hi:∀ k,k < rs.length→closedIn (flowOf rs sc) V k):
  ∀ i c b,i < rs.length→((V false i c).testBit b=true↔LiveInP (insP ns) scP i c b)∧((V true i c).testBit b=true↔LiveOutP (insP ns) scP i c b):=by
 obtain ⟨h1,h2,h3,_,h5⟩:=flow_plain hW hM hp hinj hsc
 intro i c b hlt
 have e1:(flowOf rs sc).reads=(flowP (insP ns) scP).reads:=by unfold Flow.reads;rw [h1,h2]
 have e2:(flowOf rs sc).writes=(flowP (insP ns) scP).writes:=by unfold Flow.writes;rw [h3]
 have e3:(flowOf rs sc).succ=(flowP (insP ns) scP).succ:=by funext i s;exact propext (h5 i s)
 obtain ⟨x1,x2⟩:=hS.exact ho hi (c:=c) (b:=b) hlt
 rw [x1,x2,e1,e2,e3]
 exact ⟨Iff.rfl,Iff.rfl⟩
def LvT (L:Nat→Nat→Nat→Prop) (n:Nat) (l:List TL):Prop:=l.length=n∧∀ (k:Nat) (s:TL),l[k]? = some s→Tidy s∧∀ c b,(tv s c).testBit b=true↔L k c b
def GivesIL (w:World) (ns:List PN) (e:Ending) (w':World):Prop:=Fr nope w w' ∧
 ((∃ A c D d l1 l2 sc,e = .returned (.tuple #[.slice A (insP ns).length c,.slice D (insP ns).length d,.bool true])∧GraphP ns sc∧TlsAt w' A l1∧TlsAt w' D l2∧LvT (LiveInP (insP ns) sc) (insP ns).length l1∧LvT (LiveOutP (insP ns) sc) (insP ns).length l2) ∨
  (e = .returned (.tuple #[.slice none 0 0,.slice none 0 0,.bool false])∧∀ sc,¬GraphP ns sc))
set_option maxHeartbeats 4000000 in
theorem ImLive_calls (w:World) (s:SV) (ns:List PN) (hN:NodesAt w w.heap.size s ns) (h:LvOk ns):Calls Tryz.prog 18 #[.slice s.A s.n s.c] w (GivesIL w ns):=by
 have hfew:=hN.few
 go_enter Tryz.func18,Tryz.ntmps18
 go_wp2_with fail
 refine (newWorld_calls w).mono ?_
 rintro e w1 ⟨rfl,hW,hf1⟩
 have hN1:=hN.fr hf1 (fun _ _ x=>x)
 have hF:=function_calls w1 w.heap.size (fun _=>none) s ns hN1 hW
 have hl1:=hf1.size
 go_wp2_with fail
 refine hF.mono ?_
 rintro e w2 ⟨fs,hg,hW2,hf2,⟨fb,f,nds,rs,cms,hok,st,hfb,hbare,hfresh,rfl⟩ | ⟨hok,_⟩⟩
 rotate_left
 ·rw [h.ok] at hok;cases hok
 obtain ⟨A,c,hnn,_,_⟩:=own_slice st.nodes
 have hSn:Sl w2 A nds.length (nds.map Nd.val):=by have h:=st.nodes;rw [hnn] at h;exact own_Sl h
 have hnl:nds.length≤1048576:=by rw [st.mt.len];exact hfew
 have hLT:=LabelTarget_calls w2 fb f nds A c st.fn hnn hSn (by omega)
 have hwl:=lt_of_heap hW.1
 have hf02:Fr nope w w2:=hf1.then_new hf2 (fun x hx e=>by omega)
 have hsz2:=hf2.size
 unfold ptr at hLT ⊢
 have hfs3:∀ (w3:World) (mb:Nat),FnAt w3 fb { f with lt:=some mb } → Fr (fun b=>b=fb) w2 w3→FState w3 fs ns fb { f with lt:=some mb } nds rs cms:=fun w3 mb hv hf=>st.setFn hv rfl hf
 have htb:∀ t:ByteArray→Option Nat,ltRun nds=some ⟨t,[]⟩→∀ s b,t s=some b→∃ r∈rs,r.b=b:=by
  intro t ht s b hs
  have:=lt_targets ht s b hs
  rw [st.mt.insOf] at this
  obtain ⟨r,hr,e⟩:=List.mem_map.1 this
  exact ⟨r,hr,e⟩
 have hrb:∀ r∈rs,fb < r.b:=fun r hr=>Nat.lt_of_lt_of_le (st.recs r hr).2.1 (st.recs r hr).1.own.b1
 replace hfs3:=Lib.hid hfs3
 replace htb:=Lib.hid htb
 replace hrb:=Lib.hid hrb
 go_wp2_with fail
 refine hLT.mono ?_
 rintro e w3 (⟨t,mb,ht,rfl,hfn3,hM3,hmb,hf3⟩ | ⟨ht,⟨T,v,rfl⟩,hf3⟩)
 rotate_left
 ·go_wp2
  go_ret3
  exact ⟨hf02.then hf3,.inr ⟨rfl,graph_none st.mt ht⟩⟩
 have st3:=hfs3.out _ _ hfn3 hf3
 have hC:=CFG_calls w3 fs ns fb { f with lt:=some mb } nds rs cms mb t st3 hfresh rfl hM3 hnl (htb.out _ ht)
 have hf03:Fr nope w w3:=hf02.then_new hf3 (fun x hx e=>by omega)
 unfold ptr at hC
 have hsz3:=hf3.size
 go_wp2_with fail
 refine hC.mono ?_
 rintro e w4 ⟨hf4,hM4,⟨sc,rs1,X,hsc,rfl,hlk,st4,L4,hX⟩ | ⟨⟨k,r,hr,hno⟩,T,v,rfl⟩⟩
 rotate_left
 ·go_wp2
  go_ret3
  exact ⟨hf03.then_new hf4 (fun x hx ⟨r,hr,e⟩=>by have:=hrb.out r hr;omega),.inr ⟨rfl,graph_none2 st.mt ht hr hno⟩⟩
 have hrs1:rs1.length=rs.length:=hlk.1
 have hM1:=st4.mt
 have hbs1:=hlk.bs
 obtain ⟨scP,hG,hblk⟩:=graph_some st.mt ht hsc
 have hinj1:∀ (j k:Nat) (a b:Rec),rs1[j]? = some a→rs1[k]? = some b→a.b=b.b→j=k:=fun j k a b h1 h2 h3=>st4.inj h1 h2 h3
 have hblk1:∀ k,k < rs1.length→sc k=(scP k).map (blk (rs1.map (·.b))):=fun k hk=>by rw [hbs1];exact hblk k (by omega)
 have hpl:=flow_plain hW2 hM1 h.ops hinj1 hblk1
 have hnlen:(insP ns).length=rs.length:=st.mt.match_.1
 have hLv:=Liveness_calls w4 fs ns fb { f with lt:=some mb } nds rs1 cms w3.heap.size X sc st4 L4 (fun k hk=>hX.1 k (by omega)) (fun r hr=>ins_ok_of hW2 hM1 hN h r hr)
  (fun k b hk hb=>by
   have hk':k < rs.length:=by omega
   have h1:=succK_mem (hsc k _ (List.getElem?_eq_getElem hk')) hb fun s b hs=>by
    obtain ⟨r,hr,e⟩:=htb.out _ ht s b hs
    exact List.mem_map.2 ⟨r,hr,e⟩
   rw [← hbs1] at h1
   obtain ⟨r,hr,e⟩:=List.mem_map.1 h1
   exact ⟨r,hr,e⟩)
  (fun k hk=>succK_le (hsc k _ (List.getElem?_eq_getElem (show k < rs.length by omega)))) hnl
 have hrb1:∀ r∈rs1,fb < r.b:=fun r hr=>Nat.lt_of_lt_of_le (st4.recs r hr).2.1 (st4.recs r hr).1.own.b1
 have hf04:Fr nope w w4:=hf03.then_new hf4 (fun x hx ⟨r,hr,e⟩=>by have:=hrb.out r hr;omega)
 have hsz4:=hf4.size
 have huf:=u_few hN h.ops scP
 replace hrb1:=Lib.hid hrb1
 replace hpl:=Lib.hid hpl
 replace hinj1:=Lib.hid hinj1
 replace hblk1:=Lib.hid hblk1
 replace hblk:=Lib.hid hblk
 replace hsc:=Lib.hid hsc
 replace hbs1:=Lib.hid hbs1
 replace hrs1:=Lib.hid hrs1
 replace hnlen:=Lib.hid hnlen
 replace huf:=Lib.hid huf
 clear hX
 unfold ptr at hLv
 go_wp2_with fail
 refine hLv.mono ?_
 rintro e w5 ⟨rfl,hf5,rs2,mm,V,hlk2,st5,_,lv5,hS,ho,hi⟩
 have hV1:=live_plain2 hW2 hM1 h.ops hinj1.out hblk1.out hS ho hi
 have hrs2:rs2.length=rs1.length:=hlk2.1
 have hsup:∀ p k,k < rs2.length→(∀ c,V p k c≠0→c∈(flowP (insP ns) scP).U):=fun p k hk c hv=>by
  have h1:=hS.sup p k c (by show k < rs1.length;omega) hv
  rwa [hpl.out.2.2.2.1] at h1
 have hP:=plainLive_calls w5 fs ns fb { f with lt:=some mb } nds rs2 cms mm V st5 lv5 hnl _ huf.out.1
  (fun p k hk=>⟨fun c hc=>huf.out.2 c (hsup p k hk c hc),fun D hD hd=>nodup_le hD fun c hc=>hsup p k hk c (hd c hc)⟩)
 have hf05:Fr nope w w5:=hf04.then_new hf5 (fun x hx ⟨r,hr,e⟩=>by have:=hrb1.out r hr;omega)
 have hsz5:=hf5.size
 have hlen2:rs2.length=(insP ns).length:=by rw [hrs2,hrs1.out,hnlen.out]
 have hV2:∀ i c b,i < (insP ns).length→((V false i c).testBit b=true↔LiveInP (insP ns) scP i c b)∧((V true i c).testBit b=true↔LiveOutP (insP ns) scP i c b):=fun i c b hi=>hV1 i c b (by omega)
 clear hV1 ho hi hS hsup
 rw [hlen2] at hP
 replace hV2:=Lib.hid hV2
 replace hrs2:=Lib.hid hrs2
 replace hlen2:=Lib.hid hlen2
 replace hlk2:=Lib.hid hlk2
 unfold ptr at hP
 go_wp2_with fail
 refine hP.mono ?_
 rintro e w6 ⟨hf6,A6,c6,D6,d6,l1,l2,rfl,t1,t2,t3,t4⟩
 go_wp2
 go_ret3
 refine ⟨hf05.then hf6,.inl ⟨A6,c6,D6,d6,l1,l2,scP,rfl,hG,t1,t2,⟨t3.1,fun k s hk=>?_⟩,⟨t4.1,fun k s hk=>?_⟩⟩⟩
 ·have hkl:k < (insP ns).length:=by rw [← t3.1];exact (List.getElem?_eq_some_iff.1 hk).1
  obtain ⟨h1,h2⟩:=t3.2 k s hk
  exact ⟨h1,fun c b=>by rw [h2];exact (hV2.out k c b hkl).1⟩
 ·have hkl:k < (insP ns).length:=by rw [← t4.1];exact (List.getElem?_eq_some_iff.1 hk).1
  obtain ⟨h1,h2⟩:=t4.2 k s hk
  exact ⟨h1,fun c b=>by rw [h2];exact (hV2.out k c b hkl).2⟩
end
end Go.Proofs.YtjlfkgjmgghhiaaGreat
