/- Part of the proof of a statement about pub-berthage: what its texts have in common. -/
import Derived.Test.YtpbeedabmjmdmaaGreatDoorP23
import Derived.Test.YtpbeedabmjmdmaaGreatDoorP30
import Derived.Test.YtpbeedabmjmdmaaGreatDoorP32
import Derived.Test.YtpbeedabmjmdmaaGreatDoorP38
import Derived.Test.YtpbeedabmjmdmaaGreatDoorP39
namespace Go.Proofs.YtpbeedabmjmdmaaGreatDoor
section
open Go Go.RowKit Bth
set_option maxRecDepth 100000
section
variable (q:ByteArray→ByteArray)
structure CalP (p p':PO):Prop where
 kind:p'.kind=p.kind
 reg:p'.reg=p.reg
 hasBase:p'.hasBase=p.hasBase
 hasIndex:p'.hasIndex=p.hasIndex
 base:p'.base=p.base
 index:p'.index=p.index
 label:p.kind=4→p'.label=q p.label
def CalL (ps ps':List PO):Prop:=ps'.length=ps.length∧∀ (k:Nat) (p p':PO),ps[k]? = some p→ps'[k]? = some p'→CalP q p p'
structure CalI (p p':PI):Prop where
 ops:CalL q p.ops p'.ops
 inp:CalL q p.inp p'.inp
 out:CalL q p.out p'.out
 term:p'.term=p.term
 br:p'.br=p.br
 cond:p'.cond=p.cond
 canc:p'.canc=p.canc
structure CalN (p p':PN):Prop where
 kind:p'.kind=p.kind
 label:p.kind=2→p'.label=q p.label
 ins:p.kind=1→CalI q p.ins p'.ins
def CalNs (ns ns':List PN):Prop:=ns'.length=ns.length∧∀ (k:Nat) (p p':PN),ns[k]? = some p→ns'[k]? = some p'→CalN q p p'
variable {q}
theorem CalP.gs {p p':PO} (h:CalP q p p'):p'.gs=p.gs:=by unfold PO.gs;rw [h.kind,h.reg,h.hasBase,h.hasIndex,h.base,h.index]
theorem CalP.asG {p p':PO} (h:CalP q p p'):p'.asG=p.asG:=by unfold PO.asG;rw [h.kind,h.reg]
theorem CalL.tail {p p':PO} {ps ps':List PO} (h:CalL q (p :: ps) (p' :: ps')):CalP q p p'∧CalL q ps ps':=
 ⟨h.2 0 p p' rfl rfl,by simpa using h.1,fun k a b h1 h2=>h.2 (k+1) a b h1 h2⟩
theorem CalL.all:∀ {ps ps':List PO},CalL q ps ps'→gsOf ps'=gsOf ps∧outGs ps'=outGs ps∧memGs ps'=memGs ps∧targetP ps'=(targetP ps).map q
 | [],[],_=>⟨rfl,rfl,rfl,rfl⟩
 | [],_ :: _,h=>by have:=h.1;simp at this
 | _ :: _,[],h=>by have:=h.1;simp at this
 | p :: ps,p' :: ps',h=>by
  obtain ⟨h0,ht⟩:=h.tail
  obtain ⟨a1,a2,a3,_⟩:=CalL.all ht
  refine ⟨?_,?_,?_,?_⟩
  ·unfold gsOf at a1 ⊢
   rw [List.flatMap_cons,List.flatMap_cons,a1,h0.gs]
  ·unfold outGs at a2 ⊢
   rw [List.filterMap_cons,List.filterMap_cons,a2,h0.asG]
  ·unfold memGs at a3 ⊢
   unfold gsOf at a3 ⊢
   rw [List.filter_cons,List.filter_cons,h0.kind]
   split
   ·rw [List.flatMap_cons,List.flatMap_cons,a3,h0.gs]
   ·exact a3
  ·unfold targetP
   simp only [h0.kind]
   split
   ·rename_i h4
    rw [h0.label h4];rfl
   ·rfl
theorem CalI.regs {p p':PI} (h:CalI q p p'):RegI p p':=by
 obtain ⟨a1,a2,a3,_⟩:=h.ops.all
 obtain ⟨b1,b2,b3,_⟩:=h.inp.all
 obtain ⟨c1,c2,c3,_⟩:=h.out.all
 refine ⟨a1,c2,?_⟩
 rw [h.canc]
 cases p.canc with
 | false=>rw [inGs_f,inGs_f,b1,c3]
 | true=>rw [inGs_t _ _ _ rfl,inGs_t _ _ _ rfl,b1,c3]
theorem CalNs.tail {p p':PN} {ns ns':List PN} (h:CalNs q (p :: ns) (p' :: ns')):CalN q p p'∧CalNs q ns ns':=
 ⟨h.2 0 p p' rfl rfl,by simpa using h.1,fun k a b h1 h2=>h.2 (k+1) a b h1 h2⟩
theorem CalNs.ins:∀ {ns ns':List PN},CalNs q ns ns'→(insP ns').length=(insP ns).length∧∀ (k:Nat) (p p':PI),(insP ns)[k]? = some p→(insP ns')[k]? = some p'→CalI q p p'
 | [],[],_=>⟨rfl,fun k p p' h=>by simp [insP] at h⟩
 | [],_ :: _,h=>by have:=h.1;simp at this
 | _ :: _,[],h=>by have:=h.1;simp at this
 | n :: ns,n' :: ns',h=>by
  obtain ⟨h0,ht⟩:=h.tail
  obtain ⟨a1,a2⟩:=CalNs.ins ht
  have e:∀ (n:PN) (ns:List PN),insP (n :: ns)=if n.kind=1 then n.ins :: insP ns else insP ns:=fun n ns=>by
   unfold insP
   rw [List.filter_cons]
   by_cases hk:n.kind=1<;>simp [hk]
  rw [e,e,h0.kind]
  split
  ·rename_i hk
   refine ⟨by simp [a1],fun k p p' h1 h2=>?_⟩
   cases k with
   | zero=>
    injection h1 with h1
    injection h2 with h2
    subst h1 h2
    exact h0.ins hk
   | succ k=>exact a2 k p p' h1 h2
  ·exact ⟨a1,a2⟩
theorem CalNs.regs {ns ns':List PN} (h:CalNs q ns ns'):RegL (insP ns) (insP ns'):=by
 obtain ⟨h1,h2⟩:=h.ins
 exact ⟨h1,fun k p p' a b=>(h2 k p p' a b).regs⟩
structure CalS (q:ByteArray→ByteArray) (s s':LP):Prop where
 n:s'.n=s.n
 pend:s'.pend=s.pend.map q
 t:∀ x,s'.t (q x)=s.t x
open Classical in
theorem CalS.step (hq:∀ a b,q a=q b→a=b) {s s':LP} (h:CalS q s s') {p p':PN} (hp:CalN q p p'):match lpStep s p,lpStep s' p' with
  | none,none=>True
  | some a,some b=>CalS q a b
  | _,_=>False:=by
 unfold lpStep
 rw [hp.kind]
 by_cases h1:p.kind=1
 ·rw [if_pos h1,if_pos h1]
  refine ⟨by show s'.n+1=s.n+1;rw [h.n],rfl,fun x=>?_⟩
  show (if q x∈s'.pend then some s'.n else s'.t (q x))=if x∈s.pend then some s.n else s.t x
  rw [h.pend,h.n,h.t]
  have e:(q x∈s.pend.map q)↔x∈s.pend:=by
   rw [List.mem_map]
   exact ⟨fun ⟨y,hy,e⟩=>hq _ _ e ▸ hy,fun hx=>⟨x,hx,rfl⟩⟩
  by_cases hx:x∈s.pend
  ·rw [if_pos hx,if_pos (e.2 hx)]
  ·rw [if_neg hx,if_neg (fun h=>hx (e.1 h))]
 ·rw [if_neg h1,if_neg h1]
  by_cases h2:p.kind=2
  ·rw [if_pos h2,if_pos h2,hp.label h2,h.t]
   cases hs:(s.t p.label).isSome with
   | true=>simp
   | false=>
    simp only [Bool.false_eq_true,if_false]
    exact ⟨h.n,by show s'.pend ++ [q p.label]=(s.pend ++ [p.label]).map q;rw [h.pend,List.map_append];rfl,h.t⟩
  ·rw [if_neg h2,if_neg h2]
   exact h
theorem CalNs.run (hq:∀ a b,q a=q b→a=b):∀ {ns ns':List PN},CalNs q ns ns'→∀ {s s':LP},CalS q s s'→match ns.foldlM lpStep s,ns'.foldlM lpStep s' with
  | none,none=>True
  | some a,some b=>CalS q a b
  | _,_=>False
 | [],[],_,s,s',h=>h
 | [],_ :: _,h,_,_,_=>by have:=h.1;simp at this
 | _ :: _,[],h,_,_,_=>by have:=h.1;simp at this
 | n :: ns,n' :: ns',h,s,s',hs=>by
  obtain ⟨h0,ht⟩:=h.tail
  have h1:=hs.step hq h0
  rw [List.foldlM_cons,List.foldlM_cons]
  cases e1:lpStep s n with
  | none=>
   cases e2:lpStep s' n' with
   | none=>trivial
   | some b=>rw [e1,e2] at h1;exact h1.elim
  | some a=>
   cases e2:lpStep s' n' with
   | none=>rw [e1,e2] at h1;exact h1.elim
   | some b=>
    rw [e1,e2] at h1
    exact CalNs.run hq ht h1
theorem CalNs.graph (hq:∀ a b,q a=q b→a=b) {ns ns':List PN} (h:CalNs q ns ns') (sc:Nat→List (Option Nat)):GraphP ns' sc↔GraphP ns sc:=by
 have hr:=CalNs.run hq h (s:=⟨fun _=>none,[],0⟩) (s':=⟨fun _=>none,[],0⟩) ⟨rfl,rfl,fun _=>rfl⟩
 obtain ⟨hl,hi⟩:=h.ins
 have hsu:∀ {s s':LP},CalS q s s'→∀ (k:Nat) (p p':PI),CalI q p p'→succP s'.t s'.n k p'=succP s.t s.n k p:=by
  intro s s' hs k p p' hp
  unfold succP
  rw [hp.br,hp.term,hp.cond,hs.n,hp.ops.all.2.2.2]
  cases targetP p.ops with
  | none=>rfl
  | some x=>simp only [Option.map_some,Option.bind_some,hs.t]
 unfold GraphP
 unfold lpRun
 cases e1:ns.foldlM lpStep ⟨fun _=>none,[],0⟩ with
 | none=>
  cases e2:ns'.foldlM lpStep ⟨fun _=>none,[],0⟩ with
  | none=>simp
  | some b=>rw [e1,e2] at hr;exact hr.elim
 | some a=>
  cases e2:ns'.foldlM lpStep ⟨fun _=>none,[],0⟩ with
  | none=>rw [e1,e2] at hr;exact hr.elim
  | some b=>
   rw [e1,e2] at hr
   have hr:CalS q a b:=hr
   constructor
   ·rintro ⟨s,hs,hp,hk⟩
    injection hs with hs
    subst hs
    refine ⟨a,rfl,by have:=hr.pend;rw [hp] at this;exact List.map_eq_nil_iff.1 this.symm,fun k p hkp=>?_⟩
    have hlt:=(List.getElem?_eq_some_iff.1 hkp).1
    have hp':(insP ns')[k]? = some ((insP ns')[k]'(by omega)):=List.getElem?_eq_getElem _
    rw [← hsu hr k p _ (hi k p _ hkp hp')]
    exact hk k _ hp'
   ·rintro ⟨s,hs,hp,hk⟩
    injection hs with hs
    subst hs
    refine ⟨b,rfl,by rw [hr.pend,hp];rfl,fun k p' hkp=>?_⟩
    have hlt:=(List.getElem?_eq_some_iff.1 hkp).1
    have hp':(insP ns)[k]? = some ((insP ns)[k]'(by omega)):=List.getElem?_eq_getElem _
    rw [hsu hr k _ p' (hi k _ p' hp' hkp)]
    exact hk k _ hp'
end
end
section
open Go Go.RowKit Bth
set_option maxRecDepth 100000
def normP (p:PO):PO:=
 if p.kind=1 then ⟨1,p.reg,false,false,g0,g0,0,0,e0,false,⟨0,0,e0⟩,e0,0⟩
 else if p.kind=2 then ⟨2,g0,p.hasBase,p.hasIndex,if p.hasBase then p.base else g0,if p.hasIndex then p.index else g0,p.scale,p.disp,p.sym,p.static,⟨0,0,e0⟩,e0,0⟩
 else if p.kind=3 then (match conOf p.con with | some c=>(O.con c).po | none=>p)
 else if p.kind=4 then ⟨4,g0,false,false,g0,g0,0,0,e0,false,⟨0,0,e0⟩,p.label,0⟩
 else ⟨5,g0,false,false,g0,g0,0,0,e0,false,⟨0,0,e0⟩,e0,p.rel⟩
theorem opOf_po {w:World} {wb:Nat} {fs:Nat→Option Nat} (hW:WAt w wb fs) {p:PO} (hp:p.Ok) {o:O} (h:opOf fs p=some o):o.po=normP p:=by
 unfold opOf at h
 unfold normP
 split at h
 ·rename_i h1
  obtain ⟨r,hr,rfl⟩:=Option.map_eq_some_iff.1 h
  rw [if_pos h1]
  show (⟨1,r.plain,false,false,g0,g0,0,0,e0,false,⟨0,0,e0⟩,e0,0⟩:PO)=_
  rw [hW.plain hp.reg hr]
 split at h
 ·rename_i h1 h2
  obtain ⟨m,hm,rfl⟩:=Option.map_eq_some_iff.1 h
  rw [if_neg h1,if_pos h2]
  unfold memOf at hm
  rw [if_pos h2] at hm
  obtain ⟨b,hb,hm⟩:=Option.bind_eq_some_iff.1 hm
  obtain ⟨i,hi,rfl⟩:=Option.map_eq_some_iff.1 hm
  have key:∀ {has:Bool} {g:G} {x:Option R},g.Ok→optReg fs has g=some x→x.isSome=has∧(x.map R.plain).getD g0=if has then g else g0:=fun {has g x} hg hx=>by
   unfold optReg at hx
   cases has with
   | true=>
    obtain ⟨r,hr,rfl⟩:=Option.map_eq_some_iff.1 hx
    exact ⟨rfl,by simp [hW.plain hg hr]⟩
   | false=>
    injection hx with hx
    subst hx
    exact ⟨rfl,rfl⟩
  obtain ⟨b1,b2⟩:=key hp.base hb
  obtain ⟨i1,i2⟩:=key hp.index hi
  show (⟨2,g0,b.isSome,i.isSome,(b.map R.plain).getD g0,(i.map R.plain).getD g0,p.scale,p.disp,p.sym,p.static,⟨0,0,e0⟩,e0,0⟩:PO)=_
  rw [b1,b2,i1,i2]
 split at h
 ·rename_i h1 h2 h3
  obtain ⟨c,hc,rfl⟩:=Option.map_eq_some_iff.1 h
  rw [if_neg h1,if_neg h2,if_pos h3,hc]
 split at h
 ·rename_i h1 h2 h3 h4
  injection h with h
  subst h
  rw [if_neg h1,if_neg h2,if_neg h3,if_pos h4]
  rfl
 split at h
 ·rename_i h1 h2 h3 h4 h5
  injection h with h
  subst h
  rw [if_neg h1,if_neg h2,if_neg h3,if_neg h4]
  rfl
 ·cases h
theorem pOps_po {w:World} {wb:Nat} {fs:Nat→Option Nat} (hW:WAt w wb fs):∀ {ps:List PO} {os:List O},(∀ p∈ps,p.Ok)→pOps fs ps=some os→os.map O.po=ps.map normP
 | [],os,_,h=>by simp only [pOps,Option.some.injEq] at h;subst h;rfl
 | p :: ps,os,hp,h=>by
  simp only [pOps] at h
  obtain ⟨o,e1,e2⟩:=Option.bind_eq_some_iff.1 h
  obtain ⟨os',e3,rfl⟩:=Option.map_eq_some_iff.1 e2
  rw [List.map_cons,List.map_cons,opOf_po hW (hp p (by simp)) e1,pOps_po hW (fun q hq=>hp q (by simp [hq])) e3]
end
section
open Go Go.RowKit Bth
set_option maxRecDepth 100000
inductive F2 {α β : Type} (R:α → β → Prop):List α → List β → Prop
 | nil:F2 R [] []
 | cons {a b l m} : R a b→F2 R l m→F2 R (a :: l) (b :: m)
theorem F2.length {α β : Type} {R:α → β → Prop} {l:List α} {m:List β} (h:F2 R l m):m.length=l.length:=by
 induction h<;>simp_all
theorem F2.append {α β : Type} {R:α → β → Prop} {l l':List α} {m m':List β} (h:F2 R l m) (h':F2 R l' m'):F2 R (l ++ l') (m ++ m'):=by
 induction h with
 | nil=>exact h'
 | cons h1 _ ih=>exact .cons h1 ih
theorem F2.mono {α β : Type} {R S:α → β → Prop} {l:List α} {m:List β} (h:F2 R l m) (hs:∀ a b,R a b→S a b):F2 S l m:=by
 induction h with
 | nil=>exact .nil
 | cons h1 _ ih=>exact .cons (hs _ _ h1) ih
theorem F2.of_get {α β : Type} {R:α → β → Prop} : ∀ {l:List α} {m:List β},m.length=l.length→(∀ (k:Nat) (a:α) (b:β),l[k]? = some a→m[k]? = some b→R a b)→F2 R l m
 | [],[],_,_=>.nil
 | [],_ :: _,h,_=>by simp at h
 | _ :: _,[],h,_=>by simp at h
 | a :: l,b :: m,h,hk=>.cons (hk 0 a b rfl rfl) (F2.of_get (by simpa using h) fun k x y h1 h2=>hk (k+1) x y h1 h2)
theorem F2.get {α β : Type} {R:α → β → Prop} {l:List α} {m:List β} (h:F2 R l m):∀ (k:Nat) (a:α) (b:β),l[k]? = some a→m[k]? = some b→R a b:=by
 induction h with
 | nil=>intro k a b h1;simp at h1
 | cons h1 _ ih=>
  intro k a b e1 e2
  cases k with
  | zero=>injection e1 with e1;injection e2 with e2;subst e1 e2;exact h1
  | succ k=>exact ih k a b e1 e2
theorem F2.comp {α β γ : Type} {R:α → β → Prop} {S:β → γ → Prop} {l:List α} {m:List β} {n:List γ} (h:F2 R l m) (h':F2 S m n):F2 (fun a c=>∃ b,R a b∧S b c) l n:=by
 induction h generalizing n with
 | nil=>cases h';exact .nil
 | cons h1 _ ih=>cases h' with | cons h2 h3=>exact .cons ⟨_,h1,h2⟩ (ih h3)
theorem F2.swap {α β : Type} {R:α → β → Prop} {l:List α} {m:List β} (h:F2 R l m):F2 (fun b a=>R a b) m l:=by
 induction h with
 | nil=>exact .nil
 | cons h1 _ ih=>exact .cons h1 ih
def pruneJ {α : Type} (jmp lbl:α → Option ByteArray):List α → List α
 | []=>[]
 | [a]=>[a]
 | a :: b :: l=>if jmp a≠none∧jmp a=lbl b then pruneJ jmp lbl (b :: l) else a :: pruneJ jmp lbl (b :: l)
def pruneL {α : Type} (tgt lbl:α → Option ByteArray) (l:List α):List α:=
 l.filter fun a=>match lbl a with
  | none=>true
  | some s=>l.any fun b=>decide (tgt b=some s)
structure Names {α β : Type} (R:α → β → Prop) (q:ByteArray→ByteArray) (j l:α → Option ByteArray) (j' l':β → Option ByteArray):Prop where
 inj:∀ a b,q a=q b→a=b
 jmp:∀ a b,R a b→j' b=(j a).map q
 lbl:∀ a b,R a b→l' b=(l a).map q
theorem Names.same {α β : Type} {R:α → β → Prop} {q:ByteArray→ByteArray} {j l:α → Option ByteArray} {j' l':β → Option ByteArray} (h:Names R q j l j' l') {a b:α} {a' b':β} (ha:R a a') (hb:R b b'):(j' a'=l' b'↔j a=l b)∧(j' a'=none↔j a=none):=by
 rw [h.jmp a a' ha,h.lbl b b' hb]
 constructor
 ·cases j a<;>cases l b<;>simp
  rename_i x y
  exact ⟨h.inj x y,fun e=>by rw [e]⟩
 ·cases j a<;>simp
theorem F2.pruneJ {α β : Type} {R:α → β → Prop} {q:ByteArray→ByteArray} {j l:α → Option ByteArray} {j' l':β → Option ByteArray} (hn:Names R q j l j' l') {xs:List α} {ys:List β} (h:F2 R xs ys):F2 R (pruneJ j l xs) (pruneJ j' l' ys):=by
 induction h with
 | nil=>exact .nil
 | @cons a b xs ys h1 h2 ih=>
  cases h2 with
  | nil=>exact .cons h1 .nil
  | @cons c d xs ys h3 h4=>
   unfold Go.Proofs.YtpbeedabmjmdmaaGreatDoor.pruneJ
   have hs:=hn.same h1 h3
   by_cases hc:j a≠none∧j a=l c
   ·rw [if_pos hc,if_pos ⟨fun e=>hc.1 (hs.2.1 e),hs.1.2 hc.2⟩]
    exact ih
   ·rw [if_neg hc,if_neg fun e=>hc ⟨fun e'=>e.1 (hs.2.2 e'),hs.1.1 e.2⟩]
    exact .cons h1 ih
theorem F2.filter {α β : Type} {R:α → β → Prop} {f:α → Bool} {g:β → Bool} {xs:List α} {ys:List β} (h:F2 R xs ys) (hf:∀ a b,R a b→g b=f a):F2 R (xs.filter f) (ys.filter g):=by
 induction h with
 | nil=>exact .nil
 | cons h1 _ ih=>
  rw [List.filter_cons,List.filter_cons,hf _ _ h1]
  split
  ·exact .cons h1 ih
  ·exact ih
theorem F2.any {α β : Type} {R:α → β → Prop} {f:α → Bool} {g:β → Bool} {xs:List α} {ys:List β} (h:F2 R xs ys) (hf:∀ a b,R a b→g b=f a):ys.any g=xs.any f:=by
 induction h with
 | nil=>rfl
 | cons h1 _ ih=>rw [List.any_cons,List.any_cons,hf _ _ h1,ih]
theorem F2.pruneL {α β : Type} {R:α → β → Prop} {q:ByteArray→ByteArray} {j l:α → Option ByteArray} {j' l':β → Option ByteArray} (hn:Names R q j l j' l') {xs:List α} {ys:List β} (h:F2 R xs ys):F2 R (pruneL j l xs) (pruneL j' l' ys):=by
 refine F2.filter h fun a b hab=>?_
 rw [hn.lbl a b hab]
 cases l a with
 | none=>rfl
 | some s=>
  refine F2.any h fun c d hcd=>?_
  rw [hn.jmp c d hcd]
  cases j c with
  | none=>rfl
  | some t=>
   show decide (some (q t)=some (q s))=decide (some t=some s)
   exact decide_eq_decide.2 ⟨fun h=>congrArg some (hn.inj _ _ (Option.some.inj h)),fun h=>by rw [Option.some.inj h]⟩
def calP (q:ByteArray→ByteArray) (p:PO):PO:=if p.kind=4 then { p with label:=q p.label } else p
theorem calP_is (q:ByteArray→ByteArray) (p:PO):CalP q p (calP q p):=by
 unfold calP
 split
 ·exact ⟨rfl,rfl,rfl,rfl,rfl,rfl,fun _=>rfl⟩
 ·rename_i h
  exact ⟨rfl,rfl,rfl,rfl,rfl,rfl,fun h'=>absurd h' h⟩
theorem calP_norm (q:ByteArray→ByteArray) (p:PO):calP q (normP p)=normP (calP q p):=by
 by_cases h4:p.kind=4
 ·have e1:normP p=⟨4,g0,false,false,g0,g0,0,0,e0,false,⟨0,0,e0⟩,p.label,0⟩:=by
   unfold normP
   rw [if_neg (by omega),if_neg (by omega),if_neg (by omega),if_pos h4]
  have e2:calP q p = { p with label:=q p.label }:=if_pos h4
  rw [e1,e2]
  unfold normP
  rw [if_neg (by show p.kind≠1;omega),if_neg (by show p.kind≠2;omega),if_neg (by show p.kind≠3;omega),if_pos h4]
  rfl
 ·have e2:calP q p=p:=if_neg h4
  rw [e2]
  refine if_neg ?_
  unfold normP
  split
  ·show (1:Int)≠4;decide
  split
  ·show (2:Int)≠4;decide
  split
  ·rename_i h3
   cases conOf p.con with
   | none=>exact h4
   | some c=>show (3:Int)≠4;decide
  show (5:Int)≠4
  decide
structure CalX (q:ByteArray→ByteArray) (p p':PI):Prop where
 opc:p'.opc=p.opc
 suf:p'.suf=p.suf
 isa:p'.isa=p.isa
 ops:p'.ops=p.ops.map (calP q)
 inp:p'.inp=p.inp.map (calP q)
 out:p'.out=p.out.map (calP q)
 term:p'.term=p.term
 br:p'.br=p.br
 cond:p'.cond=p.cond
 canc:p'.canc=p.canc
structure CalM (q:ByteArray→ByteArray) (p p':PN):Prop where
 kind:p'.kind=p.kind
 label:p.kind=2→p'.label=q p.label
 lines:p'.lines=p.lines
 ins:p.kind=1→CalX q p.ins p'.ins
theorem CalX.is {q:ByteArray→ByteArray} {p p':PI} (h:CalX q p p'):CalI q p p':=by
 have key:∀ l:List PO,CalL q l (l.map (calP q)):=fun l=>⟨List.length_map ..,fun k a b h1 h2=>by
  rw [List.getElem?_map,h1] at h2
  injection h2 with h2
  rw [← h2]
  exact calP_is q a⟩
 exact ⟨h.ops ▸ key _,h.inp ▸ key _,h.out ▸ key _,h.term,h.br,h.cond,h.canc⟩
theorem CalM.ns {q:ByteArray→ByteArray} {l l':List PN} (h:F2 (CalM q) l l'):CalNs q l l':=
 ⟨h.length,fun k p p' h1 h2=>by
  have:=h.get k p p' h1 h2
  exact ⟨this.kind,this.label,fun e=>(this.ins e).is⟩⟩
structure BackI (p p':PI):Prop where
 opc:p'.opc=p.opc
 suf:p'.suf=p.suf
 isa:p'.isa=p.isa
 ops:p'.ops=p.ops.map normP
 inp:p'.inp=p.inp.map normP
 out:p'.out=p.out.map normP
 term:p'.term=p.term
 br:p'.br=p.br
 cond:p'.cond=p.cond
 canc:p'.canc=p.canc
structure BackN (p p':PN):Prop where
 kind:p'.kind=p.kind
 few:p.kind=1∨p.kind=2∨p.kind=3
 label:p.kind=2→p'.label=p.label
 lines:p.kind=3→p'.lines=p.lines
 ins:p.kind=1→BackI p.ins p'.ins
structure SameI (p p':PI):Prop where
 opc:p'.opc=p.opc
 suf:p'.suf=p.suf
 isa:p'.isa=p.isa
 ops:p'.ops=p.ops
 inp:p'.inp=p.inp
 out:p'.out=p.out
 term:p'.term=p.term
 br:p'.br=p.br
 cond:p'.cond=p.cond
 canc:p'.canc=p.canc
structure SameN (p p':PN):Prop where
 kind:p'.kind=p.kind
 label:p.kind=2→p'.label=p.label
 lines:p.kind=3→p'.lines=p.lines
 ins:p.kind=1→SameI p.ins p'.ins
theorem back_same {q:ByteArray→ByteArray} {n x c y d:PN} (h1:BackN n x) (h2:CalM q n c) (h3:BackN c y) (h4:CalM q x d):SameN d y:=by
 have k1:d.kind=n.kind:=h4.kind.trans h1.kind
 have k2:y.kind=n.kind:=h3.kind.trans h2.kind
 refine ⟨k2.trans k1.symm,fun e=>?_,fun e=>?_,fun e=>?_⟩
 ·rw [k1] at e
  rw [h3.label (h2.kind.trans e),h2.label e,h4.label (h1.kind.trans e),h1.label e]
 ·rw [k1] at e
  rw [h3.lines (h2.kind.trans e),h2.lines,h4.lines,h1.lines e]
 ·rw [k1] at e
  have a1:=h1.ins e
  have a2:=h2.ins e
  have a3:=h3.ins (h2.kind.trans e)
  have a4:=h4.ins (h1.kind.trans e)
  have key:∀ l:List PO,(l.map (calP q)).map normP=(l.map normP).map (calP q):=fun l=>by
   rw [List.map_map,List.map_map]
   exact List.map_congr_left fun p _=>(calP_norm q p).symm
  exact ⟨by rw [a3.opc,a2.opc,a4.opc,a1.opc],by rw [a3.suf,a2.suf,a4.suf,a1.suf],by rw [a3.isa,a2.isa,a4.isa,a1.isa],
   by rw [a3.ops,a2.ops,a4.ops,a1.ops,key],by rw [a3.inp,a2.inp,a4.inp,a1.inp,key],by rw [a3.out,a2.out,a4.out,a1.out,key],
   by rw [a3.term,a2.term,a4.term,a1.term],by rw [a3.br,a2.br,a4.br,a1.br],by rw [a3.cond,a2.cond,a4.cond,a1.cond],by rw [a3.canc,a2.canc,a4.canc,a1.canc]⟩
def jmpN (n:PN):Option ByteArray:=if n.kind=1∧n.ins.br=true∧n.ins.cond=false then targetP n.ins.ops else none
def tgtN (n:PN):Option ByteArray:=if n.kind=1∧n.ins.br=true then targetP n.ins.ops else none
def lblN (n:PN):Option ByteArray:=if n.kind=2 then some n.label else none
theorem CalM.names {q:ByteArray→ByteArray} (hq:∀ a b,q a=q b→a=b):Names (CalM q) q jmpN lblN jmpN lblN∧Names (CalM q) q tgtN lblN tgtN lblN:=by
 have hl:∀ a b,CalM q a b→lblN b=(lblN a).map q:=fun a b h=>by
  unfold lblN
  rw [h.kind]
  split
  ·rename_i e
   rw [h.label e]
   rfl
  ·rfl
 have ht:∀ a b,CalM q a b→a.kind=1→targetP b.ins.ops=(targetP a.ins.ops).map q:=fun a b h e=>(CalL.all (h.ins e).is.ops).2.2.2
 refine ⟨⟨hq,fun a b h=>?_,hl⟩,⟨hq,fun a b h=>?_,hl⟩⟩
 ·unfold jmpN
  rw [h.kind]
  by_cases e:a.kind=1
  ·rw [(h.ins e).br,(h.ins e).cond,ht a b h e]
   split<;>rfl
  ·rw [if_neg fun x=>e x.1,if_neg fun x=>e x.1]
   rfl
 ·unfold tgtN
  rw [h.kind]
  by_cases e:a.kind=1
  ·rw [(h.ins e).br,ht a b h e]
   split<;>rfl
  ·rw [if_neg fun x=>e x.1,if_neg fun x=>e x.1]
   rfl
def NdMt (fs:Nat→Option Nat) (rs:List Rec) (cms:List (Nat × List ByteArray)) (n:PN):Nd→Prop
 | .ins b=>n.kind=1∧∃ r∈rs,r.b=b∧RMatch fs n.ins r
 | .label s=>n.kind=2∧s=n.label
 | .comment c=>n.kind=3∧(c,n.lines)∈cms
theorem NdMt.mono {fs:Nat→Option Nat} {rs rs':List Rec} {cms cms':List (Nat × List ByteArray)} (h1:∀ r∈rs,r∈rs') (h2:∀ c∈cms,c∈cms') {n:PN} {nd:Nd} (h:NdMt fs rs cms n nd):NdMt fs rs' cms' n nd:=by
 cases nd with
 | ins b=>obtain ⟨e,r,hr,hb,hm⟩:=h;exact ⟨e,r,h1 r hr,hb,hm⟩
 | label s=>exact h
 | comment c=>exact ⟨h.1,h2 _ h.2⟩
theorem Mt.f2 {fs:Nat→Option Nat} {ns:List PN} {nds:List Nd} {rs:List Rec} {cms:List (Nat × List ByteArray)} (h:Mt fs ns nds rs cms):F2 (NdMt fs rs cms) ns nds:=by
 induction h with
 | nil=>exact .nil
 | ins _ h1 h2 ih=>exact (ih.mono fun a b=>NdMt.mono (fun r hr=>by simp [hr]) fun c hc=>hc).append (.cons ⟨h1,_,by simp,rfl,h2⟩ .nil)
 | label _ h1 ih=>exact ih.append (.cons ⟨h1,rfl⟩ .nil)
 | comment _ h1 ih=>exact (ih.mono fun a b=>NdMt.mono (fun r hr=>hr) fun c hc=>by simp [hc]).append (.cons ⟨h1,by simp⟩ .nil)
theorem NdsP.f2 {rs:List Rec} {cms:List (Nat × List ByteArray)} {nds:List Nd} {ns:List PN} (h:NdsP rs cms nds ns):F2 (NdP rs cms) nds ns:=
 F2.of_get h.1 fun k a b h1 h2=>by
  obtain ⟨p,e,hp⟩:=h.2 k a h1
  rw [e] at h2
  injection h2 with h2
  exact h2 ▸ hp
theorem nodup_eq {rs:List Rec} (hd:(rs.map (·.b)).Nodup) {r s:Rec} (hr:r∈rs) (hs:s∈rs) (e:r.b=s.b):r=s:=by
 induction rs with
 | nil=>cases hr
 | cons a l ih=>
  rw [List.map_cons,List.nodup_cons] at hd
  rcases List.mem_cons.1 hr with er | hr'
  ·rcases List.mem_cons.1 hs with es | hs'
   ·rw [er,es]
   ·exact absurd (List.mem_map.2 ⟨s,hs',by rw [← e,er]⟩) hd.1
  ·rcases List.mem_cons.1 hs with es | hs'
   ·exact absurd (List.mem_map.2 ⟨r,hr',by rw [e,es]⟩) hd.1
   ·exact ih hd.2 hr' hs'
theorem back_of {w:World} {wb:Nat} {fs:Nat→Option Nat} (hW:WAt w wb fs) {rs:List Rec} {cms:List (Nat × List ByteArray)} (hd:(rs.map (·.b)).Nodup) (hc:∀ c l l',(c,l)∈cms→(c,l')∈cms→l=l')
  {ns xs:List PN} {nds:List Nd} (hok:∀ n∈ns,n.kind=1→n.ins.Ok) (h1:F2 (NdMt fs rs cms) ns nds) (h2:F2 (NdP rs cms) nds xs):F2 BackN ns xs:=by
 induction h1 generalizing xs with
 | nil=>cases h2;exact .nil
 | @cons n nd ns nds a1 _ ih=>
  cases h2 with
  | @cons _ x _ xs a2 a3=>
   refine .cons ?_ (ih (fun n hn=>hok n (by simp [hn])) a3)
   have hk:=hok n (by simp)
   cases nd with
   | ins b=>
    obtain ⟨e1,r,hr,hb,hm⟩:=a1
    obtain ⟨e2,_,_,s,hs,hb',hp⟩:=a2
    obtain rfl:=nodup_eq hd hr hs (hb.trans hb'.symm)
    refine ⟨e2.trans e1.symm,Or.inl e1,fun e=>by omega,fun e=>by omega,fun _=>?_⟩
    have ho:=hk e1
    exact ⟨hp.opc.trans hm.opc,hp.suf.trans hm.suf,hp.isa.trans hm.isa,hp.ops.trans (pOps_po hW ho.ops hm.ops),hp.inp.trans (pOps_po hW ho.inp hm.inp),hp.out.trans (pOps_po hW ho.out hm.out),hp.term.trans hm.term,hp.br.trans hm.br,hp.cond.trans hm.cond,hp.canc.trans hm.canc⟩
   | label s=>
    obtain ⟨e1,rfl⟩:=a1
    obtain ⟨e2,e3,_⟩:=a2
    exact ⟨e2.trans e1.symm,Or.inr (Or.inl e1),fun _=>e3,fun e=>by omega,fun e=>by omega⟩
   | comment c=>
    obtain ⟨e1,hm⟩:=a1
    obtain ⟨e2,_,_,hm'⟩:=a2
    exact ⟨e2.trans e1.symm,Or.inr (Or.inr e1),fun e=>by omega,fun _=>hc c _ _ hm' hm,fun e=>by omega⟩
theorem F2.mem {α β : Type} {R:α → β → Prop} {l:List α} {m:List β} (h:F2 R l m):∀ b∈m,∃ a∈l,R a b:=by
 induction h with
 | nil=>intro b hb;cases hb
 | cons h1 _ ih=>
  intro b hb
  rcases List.mem_cons.1 hb with rfl | hb
  ·exact ⟨_,by simp,h1⟩
  ·obtain ⟨a,ha,hr⟩:=ih b hb
   exact ⟨a,by simp [ha],hr⟩
theorem F2.same {q:ByteArray→ByteArray} {ns cs xs ys ds:List PN} (h1:F2 BackN ns xs) (h2:F2 (CalM q) ns cs) (h3:F2 BackN cs ys) (h4:F2 (CalM q) xs ds):F2 SameN ds ys:=by
 induction h1 generalizing cs ys ds with
 | nil=>cases h2;cases h4;cases h3;exact .nil
 | cons a1 _ ih=>
  cases h2 with
  | cons a2 b2=>
   cases h3 with
   | cons a3 b3=>
    cases h4 with
    | cons a4 b4=>exact .cons (back_same a1 a2 a3 a4) (ih b2 b3 b4)
end
section
open Go Go.RowKit Bth
set_option maxRecDepth 100000
def recD (rs:List Rec) (b:Nat):Option Rec:=rs.find? fun r=>r.b == b
theorem recD_of {rs:List Rec} (hd:(rs.map (·.b)).Nodup) {r:Rec} (hr:r∈rs):recD rs r.b=some r:=by
 unfold recD
 cases h:rs.find? (fun x=>x.b == r.b) with
 | none=>exact absurd (List.find?_eq_none.1 h r hr) (by simp)
 | some s=>
  have h1:=List.mem_of_find?_eq_some h
  have h2:=List.find?_some h
  rw [nodup_eq hd h1 hr (by simpa using h2)]
def jmpD (rs:List Rec):Nd→Option ByteArray
 | .ins b=>(recD rs b).bind fun r=>if r.i.br=true∧r.i.cond=false then targetOf true r.ops else none
 | _=>none
def tgtD (rs:List Rec):Nd→Option ByteArray
 | .ins b=>(recD rs b).bind fun r=>if r.i.br=true then targetOf true r.ops else none
 | _=>none
def lblD:Nd→Option ByteArray
 | .label s=>some s
 | _=>none
theorem NdMt.names {fs:Nat→Option Nat} {rs:List Rec} {cms:List (Nat × List ByteArray)} (hd:(rs.map (·.b)).Nodup):Names (NdMt fs rs cms) id jmpN lblN (jmpD rs) lblD∧Names (NdMt fs rs cms) id tgtN lblN (tgtD rs) lblD:=by
 have hl:∀ n nd,NdMt fs rs cms n nd→lblD nd=(lblN n).map id:=fun n nd h=>by
  rw [Option.map_id]
  unfold lblN
  cases nd with
  | ins b=>rw [if_neg (by rw [h.1];decide)];rfl
  | label s=>rw [if_pos h.1,← h.2];rfl
  | comment c=>rw [if_neg (by rw [h.1];decide)];rfl
 refine ⟨⟨fun a b h=>h,fun n nd h=>?_,hl⟩,⟨fun a b h=>h,fun n nd h=>?_,hl⟩⟩
 ·rw [Option.map_id]
  unfold jmpN
  cases nd with
  | ins b=>
   obtain ⟨e,r,hr,rfl,hm⟩:=h
   show (recD rs r.b).bind _=_
   rw [recD_of hd hr]
   show (if r.i.br=true∧r.i.cond=false then targetOf true r.ops else none)=_
   rw [hm.br,hm.cond,target_plain hm.ops]
   by_cases hc:n.ins.br=true∧n.ins.cond=false
   ·rw [if_pos hc,if_pos ⟨e,hc⟩];rfl
   ·rw [if_neg hc,if_neg fun x=>hc x.2];rfl
  | label s=>rw [if_neg fun x=>by have:=h.1;omega];rfl
  | comment c=>rw [if_neg fun x=>by have:=h.1;omega];rfl
 ·rw [Option.map_id]
  unfold tgtN
  cases nd with
  | ins b=>
   obtain ⟨e,r,hr,rfl,hm⟩:=h
   show (recD rs r.b).bind _=_
   rw [recD_of hd hr]
   show (if r.i.br=true then targetOf true r.ops else none)=_
   rw [hm.br,target_plain hm.ops]
   by_cases hc:n.ins.br=true
   ·rw [if_pos hc,if_pos ⟨e,hc⟩];rfl
   ·rw [if_neg hc,if_neg fun x=>hc x.2];rfl
  | label s=>rw [if_neg fun x=>by have:=h.1;omega];rfl
  | comment c=>rw [if_neg fun x=>by have:=h.1;omega];rfl
theorem pruneJ_sub {α : Type} (j l:α → Option ByteArray):∀ xs:List α,(∀ x∈pruneJ j l xs,x∈xs)∧(pruneJ j l xs).length≤xs.length
 | []=>⟨fun _ h=>h,Nat.le_refl _⟩
 | [a]=>⟨fun _ h=>h,Nat.le_refl _⟩
 | a :: b :: xs=>by
  have ih:=pruneJ_sub j l (b :: xs)
  unfold pruneJ
  split
  ·exact ⟨fun x h=>List.mem_cons_of_mem _ (ih.1 x h),Nat.le_trans ih.2 (Nat.le_succ _)⟩
  ·exact ⟨fun x h=>by
    rcases List.mem_cons.1 h with rfl | h
    ·simp
    ·exact List.mem_cons_of_mem _ (ih.1 x h),by simpa using ih.2⟩
theorem pruneL_sub {α : Type} (j l:α → Option ByteArray) (xs:List α):(∀ x∈pruneL j l xs,x∈xs)∧(pruneL j l xs).length≤xs.length:=
 ⟨fun _ h=>(List.mem_filter.1 h).1,List.length_filter_le ..⟩
theorem back_prune {w:World} {wb:Nat} {fs:Nat→Option Nat} (hW:WAt w wb fs) {ns:List PN} {nds:List Nd} {rs:List Rec} {cms:List (Nat × List ByteArray)} (hM:Mt fs ns nds rs cms) (hd:(rs.map (·.b)).Nodup) (hc:∀ c l l',(c,l)∈cms→(c,l')∈cms→l=l')
  (hok:∀ n∈ns,n.kind=1→n.ins.Ok):(∀ xs,NdsP rs cms (pruneJ (jmpD rs) lblD nds) xs→F2 BackN (pruneJ jmpN lblN ns) xs)∧(∀ xs,NdsP rs cms (pruneL (tgtD rs) lblD nds) xs→F2 BackN (pruneL tgtN lblN ns) xs):=
 ⟨fun _ hx=>back_of hW hd hc (fun n hn=>hok n ((pruneJ_sub _ _ _).1 n hn)) (hM.f2.pruneJ (NdMt.names hd).1) hx.f2,
  fun _ hx=>back_of hW hd hc (fun n hn=>hok n ((pruneL_sub _ _ _).1 n hn)) (hM.f2.pruneL (NdMt.names hd).2) hx.f2⟩
theorem prune_names {q:ByteArray→ByteArray} (hq:∀ a b,q a=q b→a=b) {ns cs xs ys ds:List PN} (h2:F2 (CalM q) ns cs) (h4:F2 (CalM q) xs ds):
  (F2 BackN (pruneJ jmpN lblN ns) xs→F2 BackN (pruneJ jmpN lblN cs) ys→F2 SameN ds ys)∧(F2 BackN (pruneL tgtN lblN ns) xs→F2 BackN (pruneL tgtN lblN cs) ys→F2 SameN ds ys):=
 ⟨fun h1 h3=>h1.same (h2.pruneJ (CalM.names hq).1) h3 h4,fun h1 h3=>h1.same (h2.pruneL (CalM.names hq).2) h3 h4⟩
end
section
open Go Go.RowKit Bth
set_option maxRecDepth 100000
theorem wr_i8 (n:Int):IntKind.i8.wrap n=(n+128) % 256 - 128:=by
 simp [IntKind.wrap,IntKind.bits,IntKind.signed]
 split<;>omega
theorem wr_i16 (n:Int):IntKind.i16.wrap n=(n+32768) % 65536 - 32768:=by
 simp [IntKind.wrap,IntKind.bits,IntKind.signed]
 split<;>omega
theorem wr_u8 (n:Int):IntKind.u8.wrap n=n % 256:=by simp [IntKind.wrap,IntKind.bits,IntKind.signed]
theorem wr_u16 (n:Int):IntKind.u16.wrap n=n % 65536:=by simp [IntKind.wrap,IntKind.bits,IntKind.signed]
theorem wr_u32 (n:Int):IntKind.u32.wrap n=n % 4294967296:=by simp [IntKind.wrap,IntKind.bits,IntKind.signed]
theorem norm_norm (k:CK) (b:Nat) (s:ByteArray):k.norm (C.bits ⟨k,k.norm b,s⟩).toNat=k.norm b:=by
 cases k<;>simp only [C.bits,CK.norm,wr_i8,wr_i16,wr_u8,wr_u16,wr_u32,IntKind.wrap_u64,wrap32,wrap64]<;>omega
theorem conK_num (k:CK):conK k.num=some k:=by cases k<;>rfl
theorem conOf_back {p:PC} {c:C} (h:conOf p=some c):conOf ⟨c.k.num,c.bits.toNat,c.text⟩=some c:=by
 obtain ⟨k,hk,rfl⟩:=Option.map_eq_some_iff.1 h
 unfold conOf
 rw [conK_num]
 simp only [Option.map_some]
 rw [norm_norm k p.bits]
 cases k<;>rfl
theorem normP_norm (p:PO):normP (normP p)=normP p:=by
 by_cases h1:p.kind=1
 ·have e:normP p=⟨1,p.reg,false,false,g0,g0,0,0,e0,false,⟨0,0,e0⟩,e0,0⟩:=by unfold normP;rw [if_pos h1]
  rw [e]
  rfl
 by_cases h2:p.kind=2
 ·have e:normP p=⟨2,g0,p.hasBase,p.hasIndex,if p.hasBase then p.base else g0,if p.hasIndex then p.index else g0,p.scale,p.disp,p.sym,p.static,⟨0,0,e0⟩,e0,0⟩:=by
   unfold normP
   rw [if_neg h1,if_pos h2]
  rw [e]
  unfold normP
  rw [if_neg (by show (2:Int)≠1;decide),if_pos rfl]
  cases p.hasBase<;>cases p.hasIndex<;>rfl
 by_cases h3:p.kind=3
 ·cases hc:conOf p.con with
  | none=>
   have e:normP p=p:=by unfold normP;rw [if_neg h1,if_neg h2,if_pos h3,hc]
   rw [e,e]
  | some c=>
   have e:normP p=(O.con c).po:=by unfold normP;rw [if_neg h1,if_neg h2,if_pos h3,hc]
   rw [e]
   unfold normP
   rw [if_neg (by show (3:Int)≠1;decide),if_neg (by show (3:Int)≠2;decide),if_pos (show (O.con c).po.kind=3 from rfl)]
   show (match conOf ⟨c.k.num,c.bits.toNat,c.text⟩ with | some c=>(O.con c).po | none=>_)=_
   rw [conOf_back hc]
 by_cases h4:p.kind=4
 ·have e:normP p=⟨4,g0,false,false,g0,g0,0,0,e0,false,⟨0,0,e0⟩,p.label,0⟩:=by unfold normP;rw [if_neg h1,if_neg h2,if_neg h3,if_pos h4]
  rw [e]
  rfl
 ·have e:normP p=⟨5,g0,false,false,g0,g0,0,0,e0,false,⟨0,0,e0⟩,e0,p.rel⟩:=by unfold normP;rw [if_neg h1,if_neg h2,if_neg h3,if_neg h4]
  rw [e]
  rfl
def bindP (f:Nat→Option Nat) (p:PO):PO:={ p with reg:=bindG f p.reg,base:=bindG f p.base,index:=bindG f p.index }
theorem bindG_phys {f:Nat→Option Nat} {g:G} (h:g.virt=false):bindG f g=g:=by unfold bindG;rw [h];rfl
theorem bindG_g0 (f:Nat→Option Nat):bindG f g0=g0:=bindG_phys rfl
theorem bindG_twice (f:Nat→Option Nat) (g:G):bindG f (bindG f g)=bindG f g:=by
 have key:bindG f g=g∨(bindG f g).virt=false:=by
  unfold bindG
  split
  ·split
   ·exact .inl rfl
   ·split
    ·exact .inl rfl
    ·split
     ·exact .inr rfl
     ·exact .inl rfl
  ·exact .inl rfl
 rcases key with h | h
 ·rw [h,h]
 ·exact bindG_phys h
theorem bindP_twice (f:Nat→Option Nat) (p:PO):bindP f (bindP f p)=bindP f p:=by
 unfold bindP
 simp only [bindG_twice]
theorem bindP_norm (f:Nat→Option Nat) (p:PO):normP (bindP f p)=bindP f (normP p):=by
 unfold normP
 show (if p.kind=1 then _ else if p.kind=2 then _ else if p.kind=3 then (match conOf p.con with | some c=>(O.con c).po | none=>bindP f p) else if p.kind=4 then _ else _)=_
 split
 ·simp [bindP,bindG_g0]
 split
 ·have key:∀ (b:Bool) (g:G),(if b=true then bindG f g else g0)=bindG f (if b=true then g else g0):=fun b g=>by cases b<;>simp [bindG_g0]
  have k1:=key p.hasBase p.base
  have k2:=key p.hasIndex p.index
  exact congr (congrArg (fun x y=>(⟨2,g0,p.hasBase,p.hasIndex,x,y,p.scale,p.disp,p.sym,p.static,⟨0,0,e0⟩,e0,0⟩:PO)) k1) k2 |>.trans (by simp only [bindP,bindG_g0])
 split
 ·cases conOf p.con with
  | none=>rfl
  | some c=>simp [bindP,O.po,bindG_g0]
 split
 ·simp [bindP,bindG_g0]
 ·simp [bindP,bindG_g0]
theorem BX.po {f:Nat→Option Nat} {x y:Option R} (h:BX f x y):y.isSome=x.isSome∧(y.map R.plain).getD g0=bindG f ((x.map R.plain).getD g0):=by
 cases x<;>cases y
 ·exact ⟨rfl,(bindG_g0 f).symm⟩
 ·exact h.elim
 ·exact h.elim
 ·exact ⟨rfl,h⟩
theorem BO.po {f:Nat→Option Nat} {o o':O} (h:BO f o o'):o'.po=bindP f o.po:=by
 cases o<;>cases o'<;>try exact h.elim
 ·simp only [O.po,bindP,bindG_g0]
  rw [show (_:G)=_ from h]
 ·obtain ⟨x,y,rfl,hx,hy⟩:=h
  simp only [O.po,bindP,bindG_g0]
  rw [hx.po.1,hx.po.2,hy.po.1,hy.po.2]
 ·have:_=_:=h
  subst this
  simp only [O.po,bindP,bindG_g0]
 ·have:_=_:=h
  subst this
  simp only [O.po,bindP,bindG_g0]
 ·have:_=_:=h
  subst this
  simp only [O.po,bindP,bindG_g0]
theorem BL.po {f:Nat→Option Nat} {n:Nat} {l l':List O} (h:BL f n l l') (hn:l.length≤n):l'.map O.po=(l.map O.po).map (bindP f):=by
 refine List.ext_getElem? fun k=>?_
 rw [List.getElem?_map,List.getElem?_map,List.getElem?_map]
 cases h1:l[k]? with
 | none=>rw [List.getElem?_eq_none (by rw [h.1];exact List.getElem?_eq_none_iff.1 h1)];rfl
 | some o=>
  have hk:=(List.getElem?_eq_some_iff.1 h1).1
  have h2:l'[k]? = some (l'[k]'(by rw [h.1];exact hk)):=List.getElem?_eq_getElem _
  rw [h2]
  exact congrArg some (h.all hn k o _ h1 h2).po
theorem bound_again (f:Nat→Option Nat) (p:PO):bindP f (normP (bindP f (normP p)))=bindP f (normP p):=by
 rw [bindP_norm,bindP_twice,normP_norm]
end
end Go.Proofs.YtpbeedabmjmdmaaGreatDoor
