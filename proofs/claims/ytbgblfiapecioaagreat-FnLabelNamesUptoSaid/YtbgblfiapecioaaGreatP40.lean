/- Part of the proof of a statement about pub-berthage: what its texts have in common. -/
import Derived.Test.YtbgblfiapecioaaGreatP27
import Derived.Test.YtbgblfiapecioaaGreatP29
import Derived.Test.YtbgblfiapecioaaGreatP34
import Derived.Test.YtbgblfiapecioaaGreatP37
import Derived.Test.YtbgblfiapecioaaGreatP39
namespace Go.Proofs.YtbgblfiapecioaaGreat
section
open Go Go.RowKit Bth
set_option maxRecDepth 100000
inductive F2 {α β : Type} (R:α → β → Prop):List α → List β → Prop
 | nil:F2 R [] []
 | cons {a b l m} : R a b→F2 R l m→F2 R (a :: l) (b :: m)
theorem F2.length {α β : Type} {R:α → β → Prop} {l:List α} {m:List β} (h:F2 R l m):m.length=l.length:=by
 induction h<;>simp_all
theorem F2.append {α β : Type} {R:α → β → Prop} {l l':List α} {m m':List β} (h:F2 R l m) (h':F2 R l' m'):F2 R (l ++ l') (m ++ m'):=by
 induction h with
 | nil=>exact h'
 | cons h1 _ ih=>exact .cons h1 ih
theorem F2.mono {α β : Type} {R S:α → β → Prop} {l:List α} {m:List β} (h:F2 R l m) (hs:∀ a b,R a b→S a b):F2 S l m:=by
 induction h with
 | nil=>exact .nil
 | cons h1 _ ih=>exact .cons (hs _ _ h1) ih
theorem F2.of_get {α β : Type} {R:α → β → Prop} : ∀ {l:List α} {m:List β},m.length=l.length→(∀ (k:Nat) (a:α) (b:β),l[k]? = some a→m[k]? = some b→R a b)→F2 R l m
 | [],[],_,_=>.nil
 | [],_ :: _,h,_=>by simp at h
 | _ :: _,[],h,_=>by simp at h
 | a :: l,b :: m,h,hk=>.cons (hk 0 a b rfl rfl) (F2.of_get (by simpa using h) fun k x y h1 h2=>hk (k+1) x y h1 h2)
theorem F2.get {α β : Type} {R:α → β → Prop} {l:List α} {m:List β} (h:F2 R l m):∀ (k:Nat) (a:α) (b:β),l[k]? = some a→m[k]? = some b→R a b:=by
 induction h with
 | nil=>intro k a b h1;simp at h1
 | cons h1 _ ih=>
  intro k a b e1 e2
  cases k with
  | zero=>injection e1 with e1;injection e2 with e2;subst e1 e2;exact h1
  | succ k=>exact ih k a b e1 e2
theorem F2.comp {α β γ : Type} {R:α → β → Prop} {S:β → γ → Prop} {l:List α} {m:List β} {n:List γ} (h:F2 R l m) (h':F2 S m n):F2 (fun a c=>∃ b,R a b∧S b c) l n:=by
 induction h generalizing n with
 | nil=>cases h';exact .nil
 | cons h1 _ ih=>cases h' with | cons h2 h3=>exact .cons ⟨_,h1,h2⟩ (ih h3)
theorem F2.swap {α β : Type} {R:α → β → Prop} {l:List α} {m:List β} (h:F2 R l m):F2 (fun b a=>R a b) m l:=by
 induction h with
 | nil=>exact .nil
 | cons h1 _ ih=>exact .cons h1 ih
def pruneJ {α : Type} (jmp lbl:α → Option ByteArray):List α → List α
 | []=>[]
 | [a]=>[a]
 | a :: b :: l=>if jmp a≠none∧jmp a=lbl b then pruneJ jmp lbl (b :: l) else a :: pruneJ jmp lbl (b :: l)
def pruneL {α : Type} (tgt lbl:α → Option ByteArray) (l:List α):List α:=
 l.filter fun a=>match lbl a with
  | none=>true
  | some s=>l.any fun b=>decide (tgt b=some s)
structure Names {α β : Type} (R:α → β → Prop) (q:ByteArray→ByteArray) (j l:α → Option ByteArray) (j' l':β → Option ByteArray):Prop where
 inj:∀ a b,q a=q b→a=b
 jmp:∀ a b,R a b→j' b=(j a).map q
 lbl:∀ a b,R a b→l' b=(l a).map q
theorem Names.same {α β : Type} {R:α → β → Prop} {q:ByteArray→ByteArray} {j l:α → Option ByteArray} {j' l':β → Option ByteArray} (h:Names R q j l j' l') {a b:α} {a' b':β} (ha:R a a') (hb:R b b'):(j' a'=l' b'↔j a=l b)∧(j' a'=none↔j a=none):=by
 rw [h.jmp a a' ha,h.lbl b b' hb]
 constructor
 ·cases j a<;>cases l b<;>simp
  rename_i x y
  exact ⟨h.inj x y,fun e=>by rw [e]⟩
 ·cases j a<;>simp
theorem F2.pruneJ {α β : Type} {R:α → β → Prop} {q:ByteArray→ByteArray} {j l:α → Option ByteArray} {j' l':β → Option ByteArray} (hn:Names R q j l j' l') {xs:List α} {ys:List β} (h:F2 R xs ys):F2 R (pruneJ j l xs) (pruneJ j' l' ys):=by
 induction h with
 | nil=>exact .nil
 | @cons a b xs ys h1 h2 ih=>
  cases h2 with
  | nil=>exact .cons h1 .nil
  | @cons c d xs ys h3 h4=>
   unfold Go.Proofs.YtbgblfiapecioaaGreat.pruneJ
   have hs:=hn.same h1 h3
   by_cases hc:j a≠none∧j a=l c
   ·rw [if_pos hc,if_pos ⟨fun e=>hc.1 (hs.2.1 e),hs.1.2 hc.2⟩]
    exact ih
   ·rw [if_neg hc,if_neg fun e=>hc ⟨fun e'=>e.1 (hs.2.2 e'),hs.1.1 e.2⟩]
    exact .cons h1 ih
theorem F2.filter {α β : Type} {R:α → β → Prop} {f:α → Bool} {g:β → Bool} {xs:List α} {ys:List β} (h:F2 R xs ys) (hf:∀ a b,R a b→g b=f a):F2 R (xs.filter f) (ys.filter g):=by
 induction h with
 | nil=>exact .nil
 | cons h1 _ ih=>
  rw [List.filter_cons,List.filter_cons,hf _ _ h1]
  split
  ·exact .cons h1 ih
  ·exact ih
theorem F2.any {α β : Type} {R:α → β → Prop} {f:α → Bool} {g:β → Bool} {xs:List α} {ys:List β} (h:F2 R xs ys) (hf:∀ a b,R a b→g b=f a):ys.any g=xs.any f:=by
 induction h with
 | nil=>rfl
 | cons h1 _ ih=>rw [List.any_cons,List.any_cons,hf _ _ h1,ih]
theorem F2.pruneL {α β : Type} {R:α → β → Prop} {q:ByteArray→ByteArray} {j l:α → Option ByteArray} {j' l':β → Option ByteArray} (hn:Names R q j l j' l') {xs:List α} {ys:List β} (h:F2 R xs ys):F2 R (pruneL j l xs) (pruneL j' l' ys):=by
 refine F2.filter h fun a b hab=>?_
 rw [hn.lbl a b hab]
 cases l a with
 | none=>rfl
 | some s=>
  refine F2.any h fun c d hcd=>?_
  rw [hn.jmp c d hcd]
  cases j c with
  | none=>rfl
  | some t=>
   show decide (some (q t)=some (q s))=decide (some t=some s)
   exact decide_eq_decide.2 ⟨fun h=>congrArg some (hn.inj _ _ (Option.some.inj h)),fun h=>by rw [Option.some.inj h]⟩
def calP (q:ByteArray→ByteArray) (p:PO):PO:=if p.kind=4 then { p with label:=q p.label } else p
theorem calP_is (q:ByteArray→ByteArray) (p:PO):CalP q p (calP q p):=by
 unfold calP
 split
 ·exact ⟨rfl,rfl,rfl,rfl,rfl,rfl,fun _=>rfl⟩
 ·rename_i h
  exact ⟨rfl,rfl,rfl,rfl,rfl,rfl,fun h'=>absurd h' h⟩
theorem calP_norm (q:ByteArray→ByteArray) (p:PO):calP q (normP p)=normP (calP q p):=by
 by_cases h4:p.kind=4
 ·have e1:normP p=⟨4,g0,false,false,g0,g0,0,0,e0,false,⟨0,0,e0⟩,p.label,0⟩:=by
   unfold normP
   rw [if_neg (by omega),if_neg (by omega),if_neg (by omega),if_pos h4]
  have e2:calP q p = { p with label:=q p.label }:=if_pos h4
  rw [e1,e2]
  unfold normP
  rw [if_neg (by show p.kind≠1;omega),if_neg (by show p.kind≠2;omega),if_neg (by show p.kind≠3;omega),if_pos h4]
  rfl
 ·have e2:calP q p=p:=if_neg h4
  rw [e2]
  refine if_neg ?_
  unfold normP
  split
  ·show (1:Int)≠4;decide
  split
  ·show (2:Int)≠4;decide
  split
  ·rename_i h3
   cases conOf p.con with
   | none=>exact h4
   | some c=>show (3:Int)≠4;decide
  show (5:Int)≠4
  decide
structure CalX (q:ByteArray→ByteArray) (p p':PI):Prop where
 opc:p'.opc=p.opc
 suf:p'.suf=p.suf
 isa:p'.isa=p.isa
 ops:p'.ops=p.ops.map (calP q)
 inp:p'.inp=p.inp.map (calP q)
 out:p'.out=p.out.map (calP q)
 term:p'.term=p.term
 br:p'.br=p.br
 cond:p'.cond=p.cond
 canc:p'.canc=p.canc
structure CalM (q:ByteArray→ByteArray) (p p':PN):Prop where
 kind:p'.kind=p.kind
 label:p.kind=2→p'.label=q p.label
 lines:p'.lines=p.lines
 ins:p.kind=1→CalX q p.ins p'.ins
theorem CalX.is {q:ByteArray→ByteArray} {p p':PI} (h:CalX q p p'):CalI q p p':=by
 have key:∀ l:List PO,CalL q l (l.map (calP q)):=fun l=>⟨List.length_map ..,fun k a b h1 h2=>by
  rw [List.getElem?_map,h1] at h2
  injection h2 with h2
  rw [← h2]
  exact calP_is q a⟩
 exact ⟨h.ops ▸ key _,h.inp ▸ key _,h.out ▸ key _,h.term,h.br,h.cond,h.canc⟩
theorem CalM.ns {q:ByteArray→ByteArray} {l l':List PN} (h:F2 (CalM q) l l'):CalNs q l l':=
 ⟨h.length,fun k p p' h1 h2=>by
  have:=h.get k p p' h1 h2
  exact ⟨this.kind,this.label,fun e=>(this.ins e).is⟩⟩
structure BackI (p p':PI):Prop where
 opc:p'.opc=p.opc
 suf:p'.suf=p.suf
 isa:p'.isa=p.isa
 ops:p'.ops=p.ops.map normP
 inp:p'.inp=p.inp.map normP
 out:p'.out=p.out.map normP
 term:p'.term=p.term
 br:p'.br=p.br
 cond:p'.cond=p.cond
 canc:p'.canc=p.canc
structure BackN (p p':PN):Prop where
 kind:p'.kind=p.kind
 few:p.kind=1∨p.kind=2∨p.kind=3
 label:p.kind=2→p'.label=p.label
 lines:p.kind=3→p'.lines=p.lines
 ins:p.kind=1→BackI p.ins p'.ins
structure SameI (p p':PI):Prop where
 opc:p'.opc=p.opc
 suf:p'.suf=p.suf
 isa:p'.isa=p.isa
 ops:p'.ops=p.ops
 inp:p'.inp=p.inp
 out:p'.out=p.out
 term:p'.term=p.term
 br:p'.br=p.br
 cond:p'.cond=p.cond
 canc:p'.canc=p.canc
structure SameN (p p':PN):Prop where
 kind:p'.kind=p.kind
 label:p.kind=2→p'.label=p.label
 lines:p.kind=3→p'.lines=p.lines
 ins:p.kind=1→SameI p.ins p'.ins
theorem back_same {q:ByteArray→ByteArray} {n x c y d:PN} (h1:BackN n x) (h2:CalM q n c) (h3:BackN c y) (h4:CalM q x d):SameN d y:=by
 have k1:d.kind=n.kind:=h4.kind.trans h1.kind
 have k2:y.kind=n.kind:=h3.kind.trans h2.kind
 refine ⟨k2.trans k1.symm,fun e=>?_,fun e=>?_,fun e=>?_⟩
 ·rw [k1] at e
  rw [h3.label (h2.kind.trans e),h2.label e,h4.label (h1.kind.trans e),h1.label e]
 ·rw [k1] at e
  rw [h3.lines (h2.kind.trans e),h2.lines,h4.lines,h1.lines e]
 ·rw [k1] at e
  have a1:=h1.ins e
  have a2:=h2.ins e
  have a3:=h3.ins (h2.kind.trans e)
  have a4:=h4.ins (h1.kind.trans e)
  have key:∀ l:List PO,(l.map (calP q)).map normP=(l.map normP).map (calP q):=fun l=>by
   rw [List.map_map,List.map_map]
   exact List.map_congr_left fun p _=>(calP_norm q p).symm
  exact ⟨by rw [a3.opc,a2.opc,a4.opc,a1.opc],by rw [a3.suf,a2.suf,a4.suf,a1.suf],by rw [a3.isa,a2.isa,a4.isa,a1.isa],
   by rw [a3.ops,a2.ops,a4.ops,a1.ops,key],by rw [a3.inp,a2.inp,a4.inp,a1.inp,key],by rw [a3.out,a2.out,a4.out,a1.out,key],
   by rw [a3.term,a2.term,a4.term,a1.term],by rw [a3.br,a2.br,a4.br,a1.br],by rw [a3.cond,a2.cond,a4.cond,a1.cond],by rw [a3.canc,a2.canc,a4.canc,a1.canc]⟩
def jmpN (n:PN):Option ByteArray:=if n.kind=1∧n.ins.br=true∧n.ins.cond=false then targetP n.ins.ops else none
def tgtN (n:PN):Option ByteArray:=if n.kind=1∧n.ins.br=true then targetP n.ins.ops else none
def lblN (n:PN):Option ByteArray:=if n.kind=2 then some n.label else none
theorem CalM.names {q:ByteArray→ByteArray} (hq:∀ a b,q a=q b→a=b):Names (CalM q) q jmpN lblN jmpN lblN∧Names (CalM q) q tgtN lblN tgtN lblN:=by
 have hl:∀ a b,CalM q a b→lblN b=(lblN a).map q:=fun a b h=>by
  unfold lblN
  rw [h.kind]
  split
  ·rename_i e
   rw [h.label e]
   rfl
  ·rfl
 have ht:∀ a b,CalM q a b→a.kind=1→targetP b.ins.ops=(targetP a.ins.ops).map q:=fun a b h e=>(CalL.all (h.ins e).is.ops).2.2.2
 refine ⟨⟨hq,fun a b h=>?_,hl⟩,⟨hq,fun a b h=>?_,hl⟩⟩
 ·unfold jmpN
  rw [h.kind]
  by_cases e:a.kind=1
  ·rw [(h.ins e).br,(h.ins e).cond,ht a b h e]
   split<;>rfl
  ·rw [if_neg fun x=>e x.1,if_neg fun x=>e x.1]
   rfl
 ·unfold tgtN
  rw [h.kind]
  by_cases e:a.kind=1
  ·rw [(h.ins e).br,ht a b h e]
   split<;>rfl
  ·rw [if_neg fun x=>e x.1,if_neg fun x=>e x.1]
   rfl
def NdMt (fs:Nat→Option Nat) (rs:List Rec) (cms:List (Nat × List ByteArray)) (n:PN):Nd→Prop
 | .ins b=>n.kind=1∧∃ r∈rs,r.b=b∧RMatch fs n.ins r
 | .label s=>n.kind=2∧s=n.label
 | .comment c=>n.kind=3∧(c,n.lines)∈cms
theorem NdMt.mono {fs:Nat→Option Nat} {rs rs':List Rec} {cms cms':List (Nat × List ByteArray)} (h1:∀ r∈rs,r∈rs') (h2:∀ c∈cms,c∈cms') {n:PN} {nd:Nd} (h:NdMt fs rs cms n nd):NdMt fs rs' cms' n nd:=by
 cases nd with
 | ins b=>obtain ⟨e,r,hr,hb,hm⟩:=h;exact ⟨e,r,h1 r hr,hb,hm⟩
 | label s=>exact h
 | comment c=>exact ⟨h.1,h2 _ h.2⟩
theorem Mt.f2 {fs:Nat→Option Nat} {ns:List PN} {nds:List Nd} {rs:List Rec} {cms:List (Nat × List ByteArray)} (h:Mt fs ns nds rs cms):F2 (NdMt fs rs cms) ns nds:=by
 induction h with
 | nil=>exact .nil
 | ins _ h1 h2 ih=>exact (ih.mono fun a b=>NdMt.mono (fun r hr=>by simp [hr]) fun c hc=>hc).append (.cons ⟨h1,_,by simp,rfl,h2⟩ .nil)
 | label _ h1 ih=>exact ih.append (.cons ⟨h1,rfl⟩ .nil)
 | comment _ h1 ih=>exact (ih.mono fun a b=>NdMt.mono (fun r hr=>hr) fun c hc=>by simp [hc]).append (.cons ⟨h1,by simp⟩ .nil)
theorem NdsP.f2 {rs:List Rec} {cms:List (Nat × List ByteArray)} {nds:List Nd} {ns:List PN} (h:NdsP rs cms nds ns):F2 (NdP rs cms) nds ns:=
 F2.of_get h.1 fun k a b h1 h2=>by
  obtain ⟨p,e,hp⟩:=h.2 k a h1
  rw [e] at h2
  injection h2 with h2
  exact h2 ▸ hp
theorem nodup_eq {rs:List Rec} (hd:(rs.map (·.b)).Nodup) {r s:Rec} (hr:r∈rs) (hs:s∈rs) (e:r.b=s.b):r=s:=by
 induction rs with
 | nil=>cases hr
 | cons a l ih=>
  rw [List.map_cons,List.nodup_cons] at hd
  rcases List.mem_cons.1 hr with er | hr'
  ·rcases List.mem_cons.1 hs with es | hs'
   ·rw [er,es]
   ·exact absurd (List.mem_map.2 ⟨s,hs',by rw [← e,er]⟩) hd.1
  ·rcases List.mem_cons.1 hs with es | hs'
   ·exact absurd (List.mem_map.2 ⟨r,hr',by rw [e,es]⟩) hd.1
   ·exact ih hd.2 hr' hs'
theorem back_of {w:World} {wb:Nat} {fs:Nat→Option Nat} (hW:WAt w wb fs) {rs:List Rec} {cms:List (Nat × List ByteArray)} (hd:(rs.map (·.b)).Nodup) (hc:∀ c l l',(c,l)∈cms→(c,l')∈cms→l=l')
  {ns xs:List PN} {nds:List Nd} (hok:∀ n∈ns,n.kind=1→n.ins.Ok) (h1:F2 (NdMt fs rs cms) ns nds) (h2:F2 (NdP rs cms) nds xs):F2 BackN ns xs:=by
 induction h1 generalizing xs with
 | nil=>cases h2;exact .nil
 | @cons n nd ns nds a1 _ ih=>
  cases h2 with
  | @cons _ x _ xs a2 a3=>
   refine .cons ?_ (ih (fun n hn=>hok n (by simp [hn])) a3)
   have hk:=hok n (by simp)
   cases nd with
   | ins b=>
    obtain ⟨e1,r,hr,hb,hm⟩:=a1
    obtain ⟨e2,_,_,s,hs,hb',hp⟩:=a2
    obtain rfl:=nodup_eq hd hr hs (hb.trans hb'.symm)
    refine ⟨e2.trans e1.symm,Or.inl e1,fun e=>by omega,fun e=>by omega,fun _=>?_⟩
    have ho:=hk e1
    exact ⟨hp.opc.trans hm.opc,hp.suf.trans hm.suf,hp.isa.trans hm.isa,hp.ops.trans (pOps_po hW ho.ops hm.ops),hp.inp.trans (pOps_po hW ho.inp hm.inp),hp.out.trans (pOps_po hW ho.out hm.out),hp.term.trans hm.term,hp.br.trans hm.br,hp.cond.trans hm.cond,hp.canc.trans hm.canc⟩
   | label s=>
    obtain ⟨e1,rfl⟩:=a1
    obtain ⟨e2,e3,_⟩:=a2
    exact ⟨e2.trans e1.symm,Or.inr (Or.inl e1),fun _=>e3,fun e=>by omega,fun e=>by omega⟩
   | comment c=>
    obtain ⟨e1,hm⟩:=a1
    obtain ⟨e2,_,_,hm'⟩:=a2
    exact ⟨e2.trans e1.symm,Or.inr (Or.inr e1),fun e=>by omega,fun _=>hc c _ _ hm' hm,fun e=>by omega⟩
theorem F2.mem {α β : Type} {R:α → β → Prop} {l:List α} {m:List β} (h:F2 R l m):∀ b∈m,∃ a∈l,R a b:=by
 induction h with
 | nil=>intro b hb;cases hb
 | cons h1 _ ih=>
  intro b hb
  rcases List.mem_cons.1 hb with rfl | hb
  ·exact ⟨_,by simp,h1⟩
  ·obtain ⟨a,ha,hr⟩:=ih b hb
   exact ⟨a,by simp [ha],hr⟩
theorem F2.same {q:ByteArray→ByteArray} {ns cs xs ys ds:List PN} (h1:F2 BackN ns xs) (h2:F2 (CalM q) ns cs) (h3:F2 BackN cs ys) (h4:F2 (CalM q) xs ds):F2 SameN ds ys:=by
 induction h1 generalizing cs ys ds with
 | nil=>cases h2;cases h4;cases h3;exact .nil
 | cons a1 _ ih=>
  cases h2 with
  | cons a2 b2=>
   cases h3 with
   | cons a3 b3=>
    cases h4 with
    | cons a4 b4=>exact .cons (back_same a1 a2 a3 a4) (ih b2 b3 b4)
end
section
open Go Go.RowKit Bth
set_option maxRecDepth 100000
def recD (rs:List Rec) (b:Nat):Option Rec:=rs.find? fun r=>r.b == b
theorem recD_of {rs:List Rec} (hd:(rs.map (·.b)).Nodup) {r:Rec} (hr:r∈rs):recD rs r.b=some r:=by
 unfold recD
 cases h:rs.find? (fun x=>x.b == r.b) with
 | none=>exact absurd (List.find?_eq_none.1 h r hr) (by simp)
 | some s=>
  have h1:=List.mem_of_find?_eq_some h
  have h2:=List.find?_some h
  rw [nodup_eq hd h1 hr (by simpa using h2)]
def jmpD (rs:List Rec):Nd→Option ByteArray
 | .ins b=>(recD rs b).bind fun r=>if r.i.br=true∧r.i.cond=false then targetOf true r.ops else none
 | _=>none
def tgtD (rs:List Rec):Nd→Option ByteArray
 | .ins b=>(recD rs b).bind fun r=>if r.i.br=true then targetOf true r.ops else none
 | _=>none
def lblD:Nd→Option ByteArray
 | .label s=>some s
 | _=>none
theorem NdMt.names {fs:Nat→Option Nat} {rs:List Rec} {cms:List (Nat × List ByteArray)} (hd:(rs.map (·.b)).Nodup):Names (NdMt fs rs cms) id jmpN lblN (jmpD rs) lblD∧Names (NdMt fs rs cms) id tgtN lblN (tgtD rs) lblD:=by
 have hl:∀ n nd,NdMt fs rs cms n nd→lblD nd=(lblN n).map id:=fun n nd h=>by
  rw [Option.map_id]
  unfold lblN
  cases nd with
  | ins b=>rw [if_neg (by rw [h.1];decide)];rfl
  | label s=>rw [if_pos h.1,← h.2];rfl
  | comment c=>rw [if_neg (by rw [h.1];decide)];rfl
 refine ⟨⟨fun a b h=>h,fun n nd h=>?_,hl⟩,⟨fun a b h=>h,fun n nd h=>?_,hl⟩⟩
 ·rw [Option.map_id]
  unfold jmpN
  cases nd with
  | ins b=>
   obtain ⟨e,r,hr,rfl,hm⟩:=h
   show (recD rs r.b).bind _=_
   rw [recD_of hd hr]
   show (if r.i.br=true∧r.i.cond=false then targetOf true r.ops else none)=_
   rw [hm.br,hm.cond,target_plain hm.ops]
   by_cases hc:n.ins.br=true∧n.ins.cond=false
   ·rw [if_pos hc,if_pos ⟨e,hc⟩];rfl
   ·rw [if_neg hc,if_neg fun x=>hc x.2];rfl
  | label s=>rw [if_neg fun x=>by have:=h.1;omega];rfl
  | comment c=>rw [if_neg fun x=>by have:=h.1;omega];rfl
 ·rw [Option.map_id]
  unfold tgtN
  cases nd with
  | ins b=>
   obtain ⟨e,r,hr,rfl,hm⟩:=h
   show (recD rs r.b).bind _=_
   rw [recD_of hd hr]
   show (if r.i.br=true then targetOf true r.ops else none)=_
   rw [hm.br,target_plain hm.ops]
   by_cases hc:n.ins.br=true
   ·rw [if_pos hc,if_pos ⟨e,hc⟩];rfl
   ·rw [if_neg hc,if_neg fun x=>hc x.2];rfl
  | label s=>rw [if_neg fun x=>by have:=h.1;omega];rfl
  | comment c=>rw [if_neg fun x=>by have:=h.1;omega];rfl
theorem pruneJ_sub {α : Type} (j l:α → Option ByteArray):∀ xs:List α,(∀ x∈pruneJ j l xs,x∈xs)∧(pruneJ j l xs).length≤xs.length
 | []=>⟨fun _ h=>h,Nat.le_refl _⟩
 | [a]=>⟨fun _ h=>h,Nat.le_refl _⟩
 | a :: b :: xs=>by
  have ih:=pruneJ_sub j l (b :: xs)
  unfold pruneJ
  split
  ·exact ⟨fun x h=>List.mem_cons_of_mem _ (ih.1 x h),Nat.le_trans ih.2 (Nat.le_succ _)⟩
  ·exact ⟨fun x h=>by
    rcases List.mem_cons.1 h with rfl | h
    ·simp
    ·exact List.mem_cons_of_mem _ (ih.1 x h),by simpa using ih.2⟩
theorem pruneL_sub {α : Type} (j l:α → Option ByteArray) (xs:List α):(∀ x∈pruneL j l xs,x∈xs)∧(pruneL j l xs).length≤xs.length:=
 ⟨fun _ h=>(List.mem_filter.1 h).1,List.length_filter_le ..⟩
theorem back_prune {w:World} {wb:Nat} {fs:Nat→Option Nat} (hW:WAt w wb fs) {ns:List PN} {nds:List Nd} {rs:List Rec} {cms:List (Nat × List ByteArray)} (hM:Mt fs ns nds rs cms) (hd:(rs.map (·.b)).Nodup) (hc:∀ c l l',(c,l)∈cms→(c,l')∈cms→l=l')
  (hok:∀ n∈ns,n.kind=1→n.ins.Ok):(∀ xs,NdsP rs cms (pruneJ (jmpD rs) lblD nds) xs→F2 BackN (pruneJ jmpN lblN ns) xs)∧(∀ xs,NdsP rs cms (pruneL (tgtD rs) lblD nds) xs→F2 BackN (pruneL tgtN lblN ns) xs):=
 ⟨fun _ hx=>back_of hW hd hc (fun n hn=>hok n ((pruneJ_sub _ _ _).1 n hn)) (hM.f2.pruneJ (NdMt.names hd).1) hx.f2,
  fun _ hx=>back_of hW hd hc (fun n hn=>hok n ((pruneL_sub _ _ _).1 n hn)) (hM.f2.pruneL (NdMt.names hd).2) hx.f2⟩
theorem prune_names {q:ByteArray→ByteArray} (hq:∀ a b,q a=q b→a=b) {ns cs xs ys ds:List PN} (h2:F2 (CalM q) ns cs) (h4:F2 (CalM q) xs ds):
  (F2 BackN (pruneJ jmpN lblN ns) xs→F2 BackN (pruneJ jmpN lblN cs) ys→F2 SameN ds ys)∧(F2 BackN (pruneL tgtN lblN ns) xs→F2 BackN (pruneL tgtN lblN cs) ys→F2 SameN ds ys):=
 ⟨fun h1 h3=>h1.same (h2.pruneJ (CalM.names hq).1) h3 h4,fun h1 h3=>h1.same (h2.pruneL (CalM.names hq).2) h3 h4⟩
end
section
open Go Go.RowKit Bth
set_option maxRecDepth 100000
def PO.gsK (p:PO):List G:=if okP p then p.gs else []
theorem PO.gsK_len (p:PO):p.gsK.length≤2:=by
 unfold PO.gsK
 split
 ·exact p.gs_len
 ·simp
theorem opRegistersK_calls (w:World) (p:PO):Calls Tryz.prog 71 #[p.agg] w (GivesGs w p.gsK):=by
 by_cases hok:okP p=true
 ·have e:p.gsK=p.gs:=if_pos hok
  rw [e]
  exact opRegisters_calls w p hok
 ·have e:p.gsK=[]:=if_neg hok
  rw [e]
  have hOK:=fun W=>OpOK_calls W p
  unfold GivesB at hOK
  rw [Bool.not_eq_true] at hok
  rw [hok] at hOK
  clear hok e
  obtain ⟨kind,rg,hasBase,hasIndex,base,index,scale,disp,sym,static,con,label,rel⟩:=p
  simp only [PO.agg,PO.cells] at hOK ⊢
  go_enter Tryz.func71,Tryz.ntmps71
  go_wp2_with (refine wpList_loadRow (b:=w.heap.size) rfl rfl rfl (heap_alloc_new w _) Tryz.underlying83 rfl (by kernel_rfl) ?_)
  refine (hOK _).mono ?_
  rintro e w1 ⟨rfl,hf1⟩
  go_wp2
  go_ret
  exact ⟨((Fr.refl nope w).alloc _).then hf1,none,0,rfl,own_nil _ _ _ _⟩
def gsOfK (ps:List PO):List G:=ps.flatMap PO.gsK
theorem gsOfK_take {ps:List PO} {k:Nat} {p:PO} (h:ps[k]? = some p):gsOfK (ps.take (k+1))=gsOfK (ps.take k) ++ p.gsK:=by
 unfold gsOfK
 rw [take_snoc h,List.flatMap_append]
 simp
theorem gsOfK_ok {ps:List PO} (h:ps.all okP=true):gsOfK ps=gsOf ps:=by
 unfold gsOfK gsOf
 induction ps with
 | nil=>rfl
 | cons p l ih=>
  rw [List.all_cons,Bool.and_eq_true] at h
  rw [List.flatMap_cons,List.flatMap_cons,ih h.2]
  unfold PO.gsK
  rw [if_pos h.1]
theorem irRegistersK_calls (w:World) (s:SV) (ps:List PO) (h:POsAt w s ps) (hl:ps.length≤1048576):Calls Tryz.prog 55 #[s.val] w (GivesGs w (gsOfK ps)):=by
 obtain ⟨A,n,c⟩:=s
 have hps:=h
 obtain ⟨rfl,_⟩:n=ps.length∧_:=h
 simp only [SV.val]
 go_enter Tryz.func55,Tryz.ntmps55
 go_wp2
 go_loopg [3,8] ps.length (fun n c3 c8 wr=>∃ (k:Nat) (A2:Option Addr) (c2:Nat) (gs:List G),k≤ps.length∧Hid (gs=gsOfK (ps.take k))∧gs.length≤2*k∧c8 = .int .i64 (k:Int)∧c3 = .slice A2 gs.length c2∧wr.ownsRow w.heap.size 78 4 (.slice A2 gs.length c2) gs.length (gsCells gs)∧Fr nope w wr∧n=ps.length - k)
 case atStart=>exact ⟨0,none,0,[],Nat.zero_le _,Lib.hid rfl,Nat.le_refl _,rfl,rfl,own_nil _ _ _ _,Fr.refl _ _,rfl⟩
 case round=>
  obtain ⟨k,A2,c2,gs,hk,hgs,hgl,rfl,rfl,hown,hf,rfl⟩:=hrel
  have hsz:=hf.size
  by_cases hlt:k < ps.length
  ·obtain ⟨b,off,hAe,hbl,hc⟩:=(hps.nope hf).2 (by omega)
   simp only at hAe
   subst hAe
   obtain ⟨p,hpk⟩:∃ p,ps[k]? = some p:=⟨_,List.getElem?_eq_getElem hlt⟩
   have hc:=hc k p hpk
   have hT:=Lib.hid (gsOfK_take hpk)
   have hpl:=p.gsK_len
   have hbo:=own_base hown
   clear hpk hps
   go_wp2_with (first
    | (refine wpList_load_mid rfl _ _ rfl b (off+k*24) rfl p.cells.toList _ hc Tryz.underlying83 rfl (by kernel_rfl) ?_)
    | (refine wpList_storeRow (b:=wr.heap.size) (cells:=p.cells) rfl rfl rfl rfl (heap_alloc_new _ _) rfl (by kernel_rfl) (by kernel_rfl) ?_;intro w2 hb2 hf2)
    | (refine wpList_loadRow (b:=wr.heap.size) (cells:=p.cells) rfl rfl rfl hb2 Tryz.underlying83 rfl (by kernel_rfl) ?_))
   have hn2:Fr nope wr w2:=((Fr.refl nope wr).alloc _).then_new hf2 (fun x hx e=>by omega)
   refine (opRegistersK_calls w2 p).mono ?_
   rintro e w3 ⟨hf3,A3,c3,rfl,hown3⟩
   have hn3:=hn2.then hf3
   have hsz3:=hn3.size
   have hsrc:=(Rw.of_own hown3).src
   go_wp2_with (refine wpList_app (v:=.slice A2 gs.length c2) rfl rfl Tryz.underlying84 infoRg rfl (by omega) rfl (own_fr hown hn3 (fun _ _ x=>x)) rfl (news:=gsCells p.gsK) ?ha hsrc (gsCells_one _) ?hd ?he ?hf ?hk)
   case ha=>exact gsCells_len _
   case hd=>simp only [maxLen];omega
   case he=>omega
   case hf=>omega
   case hk=>
    intro v4 w4 hown4 hf4 hb4
    obtain ⟨A4,c4,rfl,_,_⟩:=own_slice hown4
    clear hb4
    go_wp2
    go_roundg (ps.length - (k+1))
    case measure=>omega
    case rel=>exact ⟨k+1,A4,c4,gs ++ p.gsK,by omega,Lib.hid (by rw [hT.out,← hgs.out]),by rw [List.length_append];omega,by go_num,by rw [List.length_append],by rw [List.length_append,gsCells_app];exact hown4,(hf.then hn3).then_new hf4 (fun x hx e=>by have:=hbo x e;omega),rfl⟩
  ·rw [take_all hlt] at hgs
   obtain rfl:=hgs.out
   go_wp2
   go_ret
   exact ⟨hf,A2,c2,rfl,hown⟩
def knI (p:PI):Bool:=!p.canc || decide (1 < (gsOfK p.inp).length)
theorem knI_ok {p:PI} (h:okI p=true):knI p=(!p.canc || decide (1 < (gsOf p.inp).length)):=by
 unfold okI at h
 simp only [Bool.and_eq_true] at h
 unfold knI
 rw [gsOfK_ok h.1.2]
set_option maxHeartbeats 1000000 in
theorem InputsKnownK_calls (w:World) (B:Nat) (p:PI) (h:p.At w B):Calls Tryz.prog 26 #[p.agg] w (GivesB w (knI p)):=by
 have hps:=h.inp
 have hl:=h.few.2.2.1
 have hn:p.inpV.n=p.inp.length:=h.inp.1
 unfold knI
 clear h
 obtain ⟨opc,⟨A1,n1,c1⟩,suf,⟨A2,n2,c2⟩,ops,⟨A3,n3,c3⟩,inp,⟨A4,n4,c4⟩,ps,term,br,cond,canc,⟨A5,n5,c5⟩,isa⟩:=p
 simp only at hl hps hn
 subst hn
 have hI:=fun W (hW:Fr nope w W)=>irRegistersK_calls W ⟨A3,inp.length,c3⟩ inp (hps.nope hW) hl
 simp only [PI.agg,PI.cells,SV.val] at hI ⊢
 replace hI:=Lib.hid hI
 clear hps
 cases canc with
 | false=>
  go_enter Tryz.func26,Tryz.ntmps26
  go_wp2_with fail
  go_ret
  exact ⟨rfl,(Fr.refl _ _).alloc _⟩
 | true=>
  go_enter Tryz.func26,Tryz.ntmps26
  go_wp2_with fail
  refine (hI.out _ ((Fr.refl _ _).alloc _)).mono ?_
  rintro e w1 ⟨hf1,A,c,rfl,hown⟩
  go_wp2
  go_ret
  refine ⟨congrArg (fun b=>Ending.returned (Value.bool b)) (?_:decide ((1:Int) < ((gsOfK inp).length:Int))=(!true || decide (1 < (gsOfK inp).length))),((Fr.refl _ _).alloc _).then hf1⟩
  rw [Bool.eq_iff_iff]
  simp
  omega
end
section
open Go Go.RowKit Bth
set_option maxRecDepth 100000
def bytesC (k:Int) (t:ByteArray):Int:=
 if k=1∨k=2 then 1 else if k=3∨k=4 then 2 else if k=5∨k=6∨k=9 then 4 else if k=7∨k=8∨k=10 then 8 else if k=11 then (t.size:Int) else -1
theorem Bytes_calls (w:World) (c:PC):Calls Tryz.prog 211 #[c.agg] w fun e w'=>e = .returned (.int .i64 (bytesC c.kind c.text))∧Fr nope w w':=by
 obtain ⟨kind,bits,text⟩:=c
 simp only [PC.agg]
 have go:(kind=1∨kind=2∨kind=3∨kind=4∨kind=5∨kind=6∨kind=7∨kind=8∨kind=9∨kind=10∨kind=11)∨(¬kind=1∧¬kind=2∧¬kind=3∧¬kind=4∧¬kind=5∧¬kind=6∧¬kind=7∧¬kind=8∧¬kind=9∧¬kind=10∧¬kind=11):=by omega
 rcases go with h | ⟨h1,h2,h3,h4,h5,h6,h7,h8,h9,h10,h11⟩
 ·rcases h with rfl | rfl | rfl | rfl | rfl | rfl | rfl | rfl | rfl | rfl | rfl
  all_goals
   go_enter Tryz.func211,Tryz.ntmps211
   go_wp2
   go_ret
   exact ⟨by first | rfl | simp [bytesC],(Fr.refl _ _).alloc _⟩
 ·have e:bytesC kind text = -1:=by unfold bytesC;simp [h1,h2,h3,h4,h5,h6,h7,h8,h9,h10,h11]
  rw [e]
  clear e
  go_enter Tryz.func211,Tryz.ntmps211
  go_wp2
  go_ret
  exact ⟨rfl,(Fr.refl _ _).alloc _⟩
def obitsC (k:Int) (b:Nat):Int:=if k=1 then Go.bits .and .u64 (b:Int) 255 else if k=2 then Go.bits .and .u64 (b:Int) 65535 else if k=4 then Go.bits .and .u64 (b:Int) 4294967295 else (b:Int)
theorem opBits_calls (w:World) (c:PC):Calls Tryz.prog 198 #[c.agg] w fun e w'=>e = .returned (.int .u64 (obitsC (bytesC c.kind c.text) c.bits))∧Fr nope w w':=by
 have hB:=fun w=>Bytes_calls w c
 obtain ⟨k,hk⟩:∃ k,k=bytesC c.kind c.text:=⟨_,rfl⟩
 rw [← hk] at hB ⊢
 clear hk
 obtain ⟨kind,bits,text⟩:=c
 simp only [PC.agg] at hB ⊢
 unfold obitsC
 by_cases h1:k=1
 ·subst h1
  rw [if_pos rfl]
  go_enter Tryz.func198,Tryz.ntmps198
  go_wp2_with fail
  refine (hB _).mono ?_
  rintro e w1 ⟨rfl,hf1⟩
  have hb1:=hf1.heap (heap_alloc_new w _) (fun x=>x)
  have hc1:=fun j=>cell_of_row _ _ j _ _ (0,0) hb1
  go_wp2
  go_ret
  exact ⟨rfl,((Fr.refl nope w).alloc _).then hf1⟩
 by_cases h2:k=2
 ·subst h2
  rw [if_neg (by decide),if_pos rfl]
  go_enter Tryz.func198,Tryz.ntmps198
  go_wp2_with fail
  refine (hB _).mono ?_
  rintro e w1 ⟨rfl,hf1⟩
  have hb1:=hf1.heap (heap_alloc_new w _) (fun x=>x)
  have hc1:=fun j=>cell_of_row _ _ j _ _ (0,0) hb1
  go_wp2
  go_ret
  exact ⟨rfl,((Fr.refl nope w).alloc _).then hf1⟩
 by_cases h4:k=4
 ·subst h4
  rw [if_neg (by decide),if_neg (by decide),if_pos rfl]
  go_enter Tryz.func198,Tryz.ntmps198
  go_wp2_with fail
  refine (hB _).mono ?_
  rintro e w1 ⟨rfl,hf1⟩
  have hb1:=hf1.heap (heap_alloc_new w _) (fun x=>x)
  have hc1:=fun j=>cell_of_row _ _ j _ _ (0,0) hb1
  go_wp2
  go_ret
  exact ⟨rfl,((Fr.refl nope w).alloc _).then hf1⟩
 rw [if_neg h1,if_neg h2,if_neg h4]
 go_enter Tryz.func198,Tryz.ntmps198
 go_wp2_with fail
 refine (hB _).mono ?_
 rintro e w1 ⟨rfl,hf1⟩
 have hb1:=hf1.heap (heap_alloc_new w _) (fun x=>x)
 have hc1:=fun j=>cell_of_row _ _ j _ _ (0,0) hb1
 go_wp2
 go_ret
 exact ⟨rfl,((Fr.refl nope w).alloc _).then hf1⟩
set_option maxHeartbeats 2000000 in
theorem SameConst_calls (w:World) (c:PC):Calls Tryz.prog 174 #[c.agg,c.agg] w (fun e w'=>e = .returned (.bool true)∧Fr nope w w'):=by
 have hB:=fun w=>opBits_calls w c
 obtain ⟨n,hn⟩:∃ n,n=obitsC (bytesC c.kind c.text) c.bits:=⟨_,rfl⟩
 rw [← hn] at hB
 clear hn
 obtain ⟨kind,bits,text⟩:=c
 simp only [PC.agg] at hB ⊢
 by_cases h11:kind=11
 ·subst h11
  clear hB
  go_enter Tryz.func174,Tryz.ntmps174
  go_wp2
  go_ret
  exact ⟨rfl,((Fr.refl _ _).alloc _).alloc _⟩
 ·obtain ⟨o,ho⟩:∃ o,o=Obj.cells #[.int .i64 kind,.int .u64 (bits:Int),.string text] 81:=⟨_,rfl⟩
  have hcs:∀ W,Fr nope ((w.alloc o).alloc o) W→W.cell? ⟨w.heap.size,0,none⟩=some (.int .i64 kind)∧W.cell? ⟨w.heap.size,1,none⟩=some (.int .u64 (bits:Int))∧W.cell? ⟨w.heap.size,2,none⟩=some (.string text)∧W.cell? ⟨w.heap.size+1,0,none⟩=some (.int .i64 kind)∧W.cell? ⟨w.heap.size+1,1,none⟩=some (.int .u64 (bits:Int))∧W.cell? ⟨w.heap.size+1,2,none⟩=some (.string text):=fun W hW=>by
   have h1:=(((Fr.refl nope (w.alloc o)).alloc o).then hW).heap (heap_alloc_new w o) (fun x=>x)
   have h2:=hW.heap (heap_alloc_new (w.alloc o) o) (fun x=>x)
   have es:(w.alloc o).heap.size=w.heap.size+1:=by simp
   rw [es] at h2
   subst ho
   have k1:=fun j=>cell_of_row _ _ j _ _ (0,0) h1
   have k2:=fun j=>cell_of_row _ _ j _ _ (0,0) h2
   exact ⟨k1 0,k1 1,k1 2,k2 0,k2 1,k2 2⟩
  have hd:Fr nope ((w.alloc o).alloc o) ((w.alloc o).alloc o).drew:=(Fr.refl nope _).drew
  have hS0:=hcs _ hd
  subst ho
  replace hcs:=Lib.hid hcs
  replace hB:=Lib.hid hB
  go_enter Tryz.func174,Tryz.ntmps174
  go_wp2_with fail
  go_region_held3 (fun W=>W.cell? ⟨w.heap.size,0,none⟩=some (.int .i64 kind)∧W.cell? ⟨w.heap.size,1,none⟩=some (.int .u64 (bits:Int))∧W.cell? ⟨w.heap.size,2,none⟩=some (.string text)∧W.cell? ⟨w.heap.size+1,0,none⟩=some (.int .i64 kind)∧W.cell? ⟨w.heap.size+1,1,none⟩=some (.int .u64 (bits:Int))∧W.cell? ⟨w.heap.size+1,2,none⟩=some (.string text)) (assumption)
   ((first
    | (go_at_call 198;refine (hB.out _).mono ?_;rintro e w2 ⟨rfl,hf2⟩;have hn2:=hn1.then hf2;have hS2:=hcs.out _ hn2)
    | (go_at_call 198;refine (hB.out _).mono ?_;rintro e w1 ⟨rfl,hf1⟩;have hn1:=hd.then hf1;have hS1:=hcs.out _ hn1)))
  all_goals
   go_wp2
   go_ret
   exact ⟨by simp,(((Fr.refl nope w).alloc _).alloc _).then hn2⟩
end
section
open Go Go.RowKit Bth
set_option maxRecDepth 100000
set_option maxHeartbeats 4000000 in
theorem SameOp_calls (w:World) (p:PO):Calls Tryz.prog 139 #[p.agg,p.agg] w (GivesB w true):=by
 have hC:=fun w=>SameConst_calls w p.con
 obtain ⟨kind,⟨rv,rk,ri,rs⟩,hasBase,hasIndex,⟨bv,bk,bi,bs⟩,⟨xv,xk,xi,xs⟩,scale,disp,sym,static,⟨ck,cb,ct⟩,label,rel⟩:=p
 simp only [PO.agg,PO.cells,PC.agg] at hC ⊢
 unfold GivesB
 by_cases h1:kind=1
 ·subst h1
  clear hC
  go_enter Tryz.func139,Tryz.ntmps139
  go_wp2
  go_ret
  exact ⟨by simp,((Fr.refl _ _).alloc _).alloc _⟩
 by_cases h2:kind=2
 ·subst h2
  clear hC
  cases hasBase<;>cases hasIndex
  all_goals
   go_enter Tryz.func139,Tryz.ntmps139
   go_wp2
   go_ret
   exact ⟨by simp,((Fr.refl _ _).alloc _).alloc _⟩
 by_cases h3:kind=3
 ·subst h3
  go_enter Tryz.func139,Tryz.ntmps139
  go_wp2_with fail
  refine (hC _).mono ?_
  rintro e w1 ⟨rfl,hf1⟩
  go_wp2
  go_ret
  exact ⟨rfl,(((Fr.refl _ _).alloc _).alloc _).then hf1⟩
 clear hC
 by_cases h4:kind=4
 ·subst h4
  go_enter Tryz.func139,Tryz.ntmps139
  go_wp2
  go_ret
  exact ⟨by simp,((Fr.refl _ _).alloc _).alloc _⟩
 ·go_enter Tryz.func139,Tryz.ntmps139
  go_wp2
  go_ret
  exact ⟨by simp,((Fr.refl _ _).alloc _).alloc _⟩
end
section
open Go Go.RowKit Bth
set_option maxRecDepth 100000
theorem reg_eq3 {P:Program} {Q:Exit→Act→World→Prop} {a:Act} {w:World} {id:Nat} {ops ops':Array Oper} (h:ops=ops') (H:(Code.region id ops' true).wp P Q a w):(Code.region id ops true).wp P Q a w:=h ▸ H
noncomputable def soReg:Array Oper:=findReg 6 (Tryz.f103.body.getD .skip)
theorem idxO (b off n c p:Nat) (hp:p < n) (w:World):(Instr.indexAt 44 (.slice (some ⟨b,off,none⟩) n c) (.int .i64 (p:Int))).run Tryz.prog w = .ok (.pointer (some ⟨b,off+p*24,none⟩)) w:=by
 have h0:(0:Int)≤(p:Int):=by omega
 have h1:(p:Int) < (n:Int):=by omega
 go_simp
set_option maxHeartbeats 2000000 in
theorem rgSO {a0:Act} {w:World} {Q:Exit→Act→World→Prop} {S R:World→Prop} {b1 o1 b2 o2 n c1 c2 k:Nat} {cx:List Value}
  (h0:Bun a0 27 [(0,.slice (some ⟨b1,o1,none⟩) n c1),(1,.slice (some ⟨b2,o2,none⟩) n c2),(5,.int .i64 (k:Int))]) (hQ:∀ d v c a w,Q (.panic c) (a.put d v) w→Q (.panic c) a w)
  (hk:k < n) (hcx:cx.length=24) (hS0:S w.drew) (hS:∀ w,S w→w.rangeAt b1 (o1+k*24) cx∧w.rangeAt b2 (o2+k*24) cx)
  (hc:Calls Tryz.prog 139 #[.agg cx.toArray,.agg cx.toArray] w.drew fun e w'=>e = .returned (.bool true)∧R w'∧S w')
  (h:∀ w',R w'→Q .normal (putL a0 [(16,.slice (some ⟨b1,o1,none⟩) n c1),(17,.int .i64 (k:Int)),(18,.pointer (some ⟨b1,o1+k*24,none⟩)),(19,.agg cx.toArray),(20,.slice (some ⟨b2,o2,none⟩) n c2),(21,.int .i64 (k:Int)),(22,.pointer (some ⟨b2,o2+k*24,none⟩)),(23,.agg cx.toArray),(24,.bool true),(25,.bool false)]) w'):(Code.region 6 soReg true).wp Tryz.prog Q a0 w:=by
 refine wp_region_T (S:=S) (T:=[]) (by kernel_rfl) ?_
 rw [show soReg.size=10 from by kernel_rfl]
 have hT:∀ {l:Array Bool},noneT [] l→S w.drew:=fun _=>hS0
 refine takeM h0 hT hQ 0 16 0 _ (by unfold isB;kernel_rfl) (by kernel_rfl) rfl fun a0 e0 h0=>?_
 refine takeM h0 hT hQ 1 17 5 _ (by unfold isB;kernel_rfl) (by kernel_rfl) rfl fun a1 e1 h0=>?_
 refine takeI h0 hT hQ 2 18 16 17 44 _ _ ⟨b1,o1+k*24,none⟩ (by unfold isB;kernel_rfl) (by kernel_rfl) rfl rfl (fun w=>idxO b1 o1 n c1 k hk w) fun a2 e2 h0=>?_
 refine takeS h0 hS0 hQ 3 19 18 83 b1 (o1+k*24) cx _ (by unfold isB;kernel_rfl) (by kernel_rfl) rfl Tryz.underlying83 rfl (by rw [hcx];kernel_rfl) (fun w hw=>(hS w hw).1) fun a3 e3 h0=>?_
 refine takeM h0 hT hQ 4 20 1 _ (by unfold isB;kernel_rfl) (by kernel_rfl) rfl fun a4 e4 h0=>?_
 refine takeM h0 hT hQ 5 21 5 _ (by unfold isB;kernel_rfl) (by kernel_rfl) rfl fun a5 e5 h0=>?_
 refine takeI h0 hT hQ 6 22 20 21 44 _ _ ⟨b2,o2+k*24,none⟩ (by unfold isB;kernel_rfl) (by kernel_rfl) rfl rfl (fun w=>idxO b2 o2 n c2 k hk w) fun a6 e6 h0=>?_
 refine takeS h0 hS0 hQ 7 23 22 83 b2 (o2+k*24) cx _ (by unfold isB;kernel_rfl) (by kernel_rfl) rfl Tryz.underlying83 rfl (by rw [hcx];kernel_rfl) (fun w hw=>(hS w hw).2) fun a7 e7 h0=>?_
 refine takeCall h0 8 24 139 [19,23] #[83,83] [.agg cx.toArray,.agg cx.toArray] (fun v W=>v = .bool true∧R W∧S W) (by kernel_rfl) (by unfold isB;kernel_rfl) (by kernel_rfl) Tryz.func139 (by kernel_rfl) (by kernel_rfl) rfl ((hc).mono fun e w' h=>⟨_,h.1,rfl,h.2⟩) ?_
 rintro a8 _ w5 ⟨rfl,hR,hS5⟩ e8 h0
 refine ⟨fun _=>hS5,?_⟩
 have hT:∀ {l:Array Bool},noneT [] l→S w5:=fun _=>hS5
 refine takeU h0 hT hQ 9 25 _ (.bool (!true)) (show isB soReg 9 25 (.unOp .not 4 (.tmp 24)) from by unfold isB;kernel_rfl) (by kernel_rfl) (fun o e w=>by simp only [execOp,e,h0.at_ 24 _ rfl];go_simp) fun a9 e9 h0=>?_
 refine wpAnyT_done (by kernel_rfl) ?_ _
 subst e9 e8 e7 e6 e5 e4 e3 e2 e1 e0
 exact h _ hR
set_option maxHeartbeats 2000000 in
theorem SameOps_calls (w:World) (s t:SV) (ps:List PO) (h:POsAt w s ps) (h':POsAt w t ps) (hl:ps.length≤1048576):Calls Tryz.prog 103 #[s.val,t.val] w (GivesB w true):=by
 obtain ⟨A,n,c⟩:=s
 obtain ⟨A',n',c'⟩:=t
 have hps:=h
 have hqs:=h'
 obtain ⟨rfl,_⟩:n=ps.length∧_:=h
 obtain ⟨rfl,_⟩:n'=ps.length∧_:=h'
 simp only [SV.val]
 go_enter Tryz.func103,Tryz.ntmps103
 go_wp2
 go_loopg [13] ps.length (fun m c13 wr=>∃ k:Nat,k≤ps.length∧c13 = .int .i64 (k:Int)∧Fr nope w wr∧m=ps.length - k)
 case atStart=>exact ⟨0,Nat.zero_le _,rfl,Fr.refl _ _,rfl⟩
 case round=>
  obtain ⟨k,hk,rfl,hf,rfl⟩:=hrel
  by_cases hlt:k < ps.length
  ·obtain ⟨b,off,hAe,hbl,hc⟩:=(hps.nope hf).2 (by omega)
   obtain ⟨b',off',hAe',hbl',hc'⟩:=(hqs.nope hf).2 (by omega)
   simp only at hAe hAe'
   subst hAe hAe'
   obtain ⟨p,hpk⟩:∃ p,ps[k]? = some p:=⟨_,List.getElem?_eq_getElem hlt⟩
   have hr:=hc k p hpk
   have hr':=hc' k p hpk
   clear hc hc' hpk hps hqs
   have hdr:Fr nope wr wr.drew:=(Fr.refl nope wr).drew
   have hSk:∀ W,Fr nope wr W→W.rangeAt b (off+k*24) p.cells.toList∧W.rangeAt b' (off'+k*24) p.cells.toList:=fun W hW=>⟨fun j v hv=>hW.cell (hr j v hv) (fun x=>x),fun j v hv=>hW.cell (hr' j v hv) (fun x=>x)⟩
   replace hr:=Lib.hid hr
   replace hr':=Lib.hid hr'
   go_wp2_with fail
   refine reg_eq3 (ops':=soReg) (by kernel_rfl) (rgSO (S:=fun W=>W.rangeAt b (off+k*24) p.cells.toList∧W.rangeAt b' (off'+k*24) p.cells.toList) (R:=fun W=>Fr nope wr W) (b1:=b) (o1:=off) (b2:=b') (o2:=off') (n:=ps.length) (c1:=c) (c2:=c') (k:=k) (cx:=p.cells.toList)
    ((((Bun.nil rfl rfl).cons 5 rfl).cons 1 rfl).cons 0 rfl) (fun d _ _ _ _ h=>by cases d<;>simpa [Exit.inBlock,Exit.then,bodyPost,Act.put] using h) hlt rfl (hSk _ hdr) (fun W hW=>hW) ?hc ?h)
   case hc=>
    refine (SameOp_calls wr.drew p).mono ?_
    rintro e w15 ⟨rfl,hf15⟩
    exact ⟨rfl,hdr.then hf15,hSk _ (hdr.then hf15)⟩
   case h=>
    intro w15 hf15
    clear hSk
    simp only [putL,List.foldl_cons,List.foldl_nil,Act.put,List.setIfInBounds_toArray,List.set_cons_zero,List.set_cons_succ]
    go_wp2
    go_roundg (ps.length - (k+1))
    case measure=>omega
    case rel=>exact ⟨k+1,by omega,by go_num,hf.then hf15,rfl⟩
  ·go_wp2
   go_ret
   exact ⟨rfl,hf⟩
end
end Go.Proofs.YtbgblfiapecioaaGreat
