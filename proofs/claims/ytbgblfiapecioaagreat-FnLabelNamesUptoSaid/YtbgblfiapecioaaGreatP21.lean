/- Part of the proof of a statement about pub-berthage: what its texts have in common. -/
import Derived.Test.YtbgblfiapecioaaGreatP08
import Derived.Test.YtbgblfiapecioaaGreatP09
import Derived.Test.YtbgblfiapecioaaGreatP20
namespace Go.Proofs.YtbgblfiapecioaaGreat
section
open Go Go.RowKit Bth
set_option maxRecDepth 100000
def toldOf (A:Nat→Prop) (E:Nat × Nat→Prop) (v:Nat):Prop:=A v∨∃ e,E e∧(v=e.1∨v=e.2)
structure AOk (k:Nat) (x:Al) (A:Nat→Prop) (E:Nat × Nat→Prop):Prop where
 regs:x.regs=regsK k
 al:x.al=fun _=>none
 edges:∀ e,e∈x.edges↔E e
 list:∀ v l,x.poss v=some l→isV v=true∧toldOf A E v∧l=x.regs
 has:∀ v,isV v=true→toldOf A E v→x.poss v≠none
 kind:∀ v,toldOf A E v→kindOf v=k∧v < 4294967296
theorem regsFor_kind {k:Nat} (hk:k≤3) {x:Al} (h:x.regs=regsK k) {v:Nat} (hv:kindOf v=k):regsFor x v=x.regs:=by
 unfold regsFor
 rw [h]
 refine List.filter_eq_self.2 fun r hr=>?_
 have:=((regsK_facts k (by omega)).2.2.2.2.1 r hr).2.2
 rw [hv,this]
 simp
theorem AOk.congr {k:Nat} {x:Al} {A A':Nat→Prop} {E E':Nat × Nat→Prop} (h:AOk k x A E) (hE:∀ e,E' e↔E e) (hT:∀ v,toldOf A' E' v↔toldOf A E v):AOk k x A' E':=
 ⟨h.regs,h.al,fun e=>(h.edges e).trans (hE e).symm,fun v l hl=>⟨(h.list v l hl).1,(hT v).2 (h.list v l hl).2.1,(h.list v l hl).2.2⟩,fun v h1 h2=>h.has v h1 ((hT v).1 h2),fun v hv=>h.kind v ((hT v).1 hv)⟩
theorem AOk.add {k:Nat} (hk:k≤3) {x:Al} {A:Nat→Prop} {E:Nat × Nat→Prop} (h:AOk k x A E) {v:Nat} (hv:kindOf v=k) (h32:v < 4294967296):AOk k (addA x v) (fun u=>A u∨u=v) E:=by
 have hT:∀ u,toldOf (fun u=>A u∨u=v) E u↔toldOf A E u∨u=v:=fun u=>by unfold toldOf;constructor<;>intro hh<;>rcases hh with (hh | hh) | hh<;>simp_all
 have hal:(addA x v).al=x.al:=by unfold addA;split<;>rfl
 refine ⟨(addA_regs x v).trans h.regs,hal.trans h.al,by rw [addA_edges];exact h.edges,fun u l hu=>?_,fun u hu ht=>?_,fun u hu=>?_⟩
 ·rw [addA_regs]
  unfold addA at hu
  split at hu
  ·rename_i hc
   simp only [setL] at hu
   split at hu
   ·rename_i e
    subst e
    injection hu with hu
    exact ⟨by simp at hc;exact hc.1,(hT u).2 (.inr rfl),by rw [← hu];exact regsFor_kind hk h.regs hv⟩
   ·obtain ⟨g1,g2,g3⟩:=h.list u l hu
    exact ⟨g1,(hT u).2 (.inl g2),g3⟩
  ·obtain ⟨g1,g2,g3⟩:=h.list u l hu
   exact ⟨g1,(hT u).2 (.inl g2),g3⟩
 ·unfold addA
  split
  ·simp only [setL]
   split
   ·simp
   ·rename_i e
    exact h.has u hu (((hT u).1 ht).resolve_right e)
  ·rename_i hc
   by_cases e:u=v
   ·subst e
    simp only [hu,Bool.true_and] at hc
    intro hn
    rw [hn] at hc
    exact hc rfl
   ·exact h.has u hu (((hT u).1 ht).resolve_right e)
 ·rcases (hT u).1 hu with hu | rfl
  ·exact h.kind u hu
  ·exact ⟨hv,h32⟩
theorem AOk.addI {k:Nat} (hk:k≤3) {x:Al} {A:Nat→Prop} {E:Nat × Nat→Prop} (h:AOk k x A E) {a b:Nat} (ha:kindOf a=k) (ha2:a < 4294967296) (hb:kindOf b=k) (hb2:b < 4294967296):AOk k (addI x a b) A (fun e=>E e∨e=(a,b)):=by
 have h2:=(h.add hk ha ha2).add hk hb hb2
 have hT:∀ u,toldOf A (fun e=>E e∨e=(a,b)) u↔toldOf (fun u=>(A u∨u=a)∨u=b) E u:=fun u=>by
  unfold toldOf
  constructor
  ·rintro (hh | ⟨e,he | rfl,hu⟩)
   ·exact .inl (.inl (.inl hh))
   ·exact .inr ⟨e,he,hu⟩
   ·rcases hu with rfl | rfl
    ·exact .inl (.inl (.inr rfl))
    ·exact .inl (.inr rfl)
  ·rintro (((hh | rfl) | rfl) | ⟨e,he,hu⟩)
   ·exact .inl hh
   ·exact .inr ⟨(u,b),.inr rfl,.inl rfl⟩
   ·exact .inr ⟨(a,u),.inr rfl,.inr rfl⟩
   ·exact .inr ⟨e,.inl he,hu⟩
 have he:(Go.Proofs.YtbgblfiapecioaaGreat.addI x a b).edges=x.edges ++ [(a,b)]:=rfl
 refine ⟨h2.regs,h2.al,fun e=>?_,fun v l hl=>?_,fun v h1 ht=>h2.has v h1 ((hT v).1 ht),fun v hv=>h2.kind v ((hT v).1 hv)⟩
 ·rw [he,List.mem_append,h.edges];simp
 ·obtain ⟨g1,g2,g3⟩:=h2.list v l hl
  exact ⟨g1,(hT v).2 g2,g3⟩
theorem AOk.addIs {k:Nat} (hk:k≤3) {d:Nat} (hd:kindOf d=k) (hd2:d < 4294967296):∀ (D:List Nat) {x:Al} {A:Nat→Prop} {E:Nat × Nat→Prop},AOk k x A E→(∀ c∈D,kindOf c=k∧c < 4294967296) →
  AOk k (addIs x d D) A (fun e=>E e∨∃ c∈D,e=(d,c)):=by
 intro D
 induction D with
 | nil=>intro x A E h _;exact h.congr (fun e=>by simp) (fun v=>by unfold toldOf;simp)
 | cons c D ih=>
  intro x A E h hD
  obtain ⟨h1,h2⟩:=hD c (by simp)
  have:=ih (h.addI hk hd hd2 h1 h2) (fun b hb=>hD b (by simp [hb]))
  refine AOk.congr (x:=Go.Proofs.YtbgblfiapecioaaGreat.addIs x d (c :: D)) this (fun e=>?_) (fun v=>?_)
  ·simp only [List.mem_cons]
   constructor
   ·rintro (hh | ⟨b,rfl | hb,rfl⟩)
    ·exact .inl (.inl hh)
    ·exact .inl (.inr rfl)
    ·exact .inr ⟨b,hb,rfl⟩
   ·rintro ((hh | rfl) | ⟨b,hb,rfl⟩)
    ·exact .inl hh
    ·exact .inr ⟨c,.inl rfl,rfl⟩
    ·exact .inr ⟨b,.inr hb,rfl⟩
  ·have hE:∀ e,(E e∨∃ b∈c :: D,e=(d,b))↔((E e∨e=(d,c))∨∃ b∈D,e=(d,b)):=fun e=>by
    simp only [List.mem_cons]
    constructor
    ·rintro (hh | ⟨b,rfl | hb,rfl⟩)
     ·exact .inl (.inl hh)
     ·exact .inl (.inr rfl)
     ·exact .inr ⟨b,hb,rfl⟩
    ·rintro ((hh | rfl) | ⟨b,hb,rfl⟩)
     ·exact .inl hh
     ·exact .inr ⟨c,.inl rfl,rfl⟩
     ·exact .inr ⟨b,.inr hb,rfl⟩
   unfold toldOf
   simp only [hE]
theorem AOk.ready {k:Nat} (hk:k≤3) {x:Al} {A:Nat→Prop} {E:Nat × Nat→Prop} (h:AOk k x A E) (hl:x.edges.length≤8796093022208):Ready k x:=by
 obtain ⟨_,_,_,_,hf,hlen,_⟩:=regsK_facts k (by omega)
 have hreg:∀ r∈x.regs,isV r=false∧r < 4294967296:=fun r hr=>by
  rw [h.regs] at hr
  exact ⟨(hf r hr).1,(hf r hr).2.1⟩
 have hend:∀ e∈x.edges,toldOf A E e.1∧toldOf A E e.2:=fun e he=>⟨.inr ⟨e,(h.edges e).1 he,.inl rfl⟩,.inr ⟨e,(h.edges e).1 he,.inr rfl⟩⟩
 refine ⟨h.al,?_,⟨fun e he=>⟨(h.kind _ (hend e he).1).2,(h.kind _ (hend e he).2).2⟩,fun v p hv=>(by rw [h.al] at hv;cases hv),fun v l hv=>?_,hl⟩,hreg,fun v hv=>?_⟩
 ·rw [h.al]
  exact Head.start (fun r hr=>(hreg r hr).1) (fun v l hv=>⟨(h.list v l hv).1,(h.list v l hv).2.2⟩) (fun e he=>⟨fun h1=>h.has _ h1 (hend e he).1,fun h1=>h.has _ h1 (hend e he).2⟩)
 ·rw [(h.list v l hv).2.2,h.regs];omega
 ·cases hp:x.poss v with
  | none=>exact absurd hp hv
  | some l=>exact (h.kind v (h.list v l hp).2.1).1
def hits (F:Nat→Nat) (d:R) (c:Nat):Prop:=c≠d.id∧kindOf c=d.kind∧F c &&& d.spec≠0
def EP (rs:List Rec) (V:Nat→Nat→Nat) (i j k:Nat) (e:Nat × Nat):Prop:=∃ i' r d,rs[i']? = some r∧((i' < i∧d∈outRegs r.out)∨(i'=i∧d∈(outRegs r.out).take j))∧d.kind=k∧e.1=d.id∧hits (V i') d e.2
def EAll (rs:List Rec) (V:Nat→Nat→Nat) (k:Nat) (e:Nat × Nat):Prop:=∃ (i':Nat) (r:Rec) (d:R),rs[i']? = some r∧d∈outRegs r.out∧d.kind=k∧e.1=d.id∧hits (V i') d e.2
theorem EP.start (rs:List Rec) (V:Nat→Nat→Nat) (k:Nat) (e:Nat × Nat):¬EP rs V 0 0 k e:=by
 rintro ⟨i',r,d,_,⟨h,_⟩ | ⟨_,h⟩,_⟩
 ·omega
 ·simp at h
theorem EP.done {rs:List Rec} {V:Nat→Nat→Nat} {k:Nat} {e:Nat × Nat} : EP rs V rs.length 0 k e↔EAll rs V k e:=by
 constructor
 ·rintro ⟨i',r,d,h1,⟨_,h⟩ | ⟨_,h⟩,h3⟩
  ·exact ⟨i',r,d,h1,h,h3⟩
  ·simp at h
 ·rintro ⟨i',r,d,h1,h,h3⟩
  exact ⟨i',r,d,h1,.inl ⟨(List.getElem?_eq_some_iff.1 h1).1,h⟩,h3⟩
theorem EP.row {rs:List Rec} {V:Nat→Nat→Nat} {i k:Nat} {r:Rec} (hr:rs[i]? = some r) {e:Nat × Nat} : EP rs V i (outRegs r.out).length k e↔EP rs V (i+1) 0 k e:=by
 constructor
 ·rintro ⟨i',r',d,h1,⟨h,h2⟩ | ⟨rfl,h2⟩,h3⟩
  ·exact ⟨i',r',d,h1,.inl ⟨by omega,h2⟩,h3⟩
  ·rw [hr] at h1
   injection h1 with h1
   subst h1
   exact ⟨i',r,d,hr,.inl ⟨by omega,by simpa using h2⟩,h3⟩
 ·rintro ⟨i',r',d,h1,⟨h,h2⟩ | ⟨_,h2⟩,h3⟩
  ·by_cases e:i'=i
   ·subst e
    rw [hr] at h1
    injection h1 with h1
    subst h1
    exact ⟨i',r,d,hr,.inr ⟨rfl,by simpa using h2⟩,h3⟩
   ·exact ⟨i',r',d,h1,.inl ⟨by omega,h2⟩,h3⟩
  ·simp at h2
theorem EP.step {rs:List Rec} {V:Nat→Nat→Nat} {i j k:Nat} {r:Rec} {d:R} (hr:rs[i]? = some r) (hd:(outRegs r.out)[j]? = some d) {e:Nat × Nat} : EP rs V i (j+1) k e↔EP rs V i j k e∨(d.kind=k∧e.1=d.id∧hits (V i) d e.2):=by
 constructor
 ·rintro ⟨i',r',d',h1,⟨h,h2⟩ | ⟨rfl,h2⟩,h3⟩
  ·exact .inl ⟨i',r',d',h1,.inl ⟨h,h2⟩,h3⟩
  ·rw [hr] at h1
   injection h1 with h1
   subst h1
   rw [List.take_add_one,hd] at h2
   rcases List.mem_append.1 h2 with h2 | h2
   ·exact .inl ⟨i',r,d',hr,.inr ⟨rfl,h2⟩,h3⟩
   ·obtain rfl:d'=d:=by simpa using h2
    exact .inr h3
 ·rintro (⟨i',r',d',h1,⟨h,h2⟩ | ⟨rfl,h2⟩,h3⟩ | h3)
  ·exact ⟨i',r',d',h1,.inl ⟨h,h2⟩,h3⟩
  ·rw [hr] at h1
   injection h1 with h1
   subst h1
   exact ⟨i',r,d',hr,.inr ⟨rfl,by rw [List.take_add_one];exact List.mem_append_left _ h2⟩,h3⟩
  ·exact ⟨i,r,d,hr,.inr ⟨rfl,by rw [List.take_add_one,hd];simp⟩,h3⟩
def outsN (rs:List Rec) (i:Nat):Nat:=((rs.take i).map fun r=>(outRegs r.out).length).sum
theorem outsN_step {rs:List Rec} {i:Nat} {r:Rec} (h:rs[i]? = some r):outsN rs (i+1)=outsN rs i+(outRegs r.out).length:=by
 unfold outsN
 rw [List.take_add_one,h,List.map_append,List.sum_append]
 simp
theorem outsN_le {rs:List Rec} {i:Nat} : outsN rs i≤outsN rs rs.length:=by
 unfold outsN
 have e:rs.take rs.length=rs.take i ++ rs.drop i:=by rw [List.take_length,List.take_append_drop]
 rw [e,List.map_append,List.sum_append]
 omega
theorem toldOf_congr {A:Nat→Prop} {E E':Nat × Nat→Prop} (h:∀ e,E' e↔E e) (v:Nat):toldOf A E' v↔toldOf A E v:=by unfold toldOf;simp only [h]
theorem R.kind_id {r:R} (ok:r.Ok):kindOf r.id=r.kind:=by
 have:=ok.kind
 have:=ok.idx
 unfold kindOf R.id
 split<;>omega
end
section
open Go Go.RowKit Go.MapKept Bth
set_option maxRecDepth 100000
theorem bodyPost_mono {P:Program} {fn:Func} {R R':Ending→World→Prop} (h:∀ e w,R e w→R' e w):∀ x a w,bodyPost P fn R x a w→bodyPost P fn R' x a w:=by
 intro x a w hb
 cases x
 all_goals first
  | exact hb.elim
  | (obtain ⟨h1,v,h2,h3⟩:=hb;exact ⟨h1,v,h2,h _ _ h3⟩)
  | (obtain ⟨h1,h3⟩:=hb;exact ⟨h1,h _ _ h3⟩)
  | exact h _ _ hb
  | exact hb
def GivesRA (w:World) (fb:Nat) (f:Fn) (kinds:Nat→Prop) (A:Nat→Nat→Prop) (E:Nat→Nat × Nat→Prop) (e:Ending) (w':World):Prop:=
 ∃ (K:List Nat) (xs:Nat→Al),(∀ k,k∈K↔kinds k)∧(∀ k∈K,AOk k (xs k) (A k) (E k))∧GivesAR w fb f K xs e w'
theorem GivesRA.of {w:World} {fb:Nat} {f:Fn} {kinds:Nat→Prop} {A:Nat→Nat→Prop} {E:Nat→Nat × Nat→Prop} {K:List Nat} {xs:Nat→Al} (hK:∀ k,k∈K↔kinds k) (hx:∀ k∈K,AOk k (xs k) (A k) (E k)) {n:Nat} {a:Act} {w1:World}
  (h:Code.wp Tryz.prog (arTail n) (bodyPost Tryz.prog Tryz.f46 (GivesAR w fb f K xs)) a w1):
  Code.wp Tryz.prog (arTail n) (bodyPost Tryz.prog Tryz.f46 (GivesRA w fb f kinds A E)) a w1:=
 Code.wp_mono (bodyPost_mono fun _ _ hh=>⟨K,xs,hK,hx,hh⟩) h
structure ARIn (w0:World) (fs:Nat→Option Nat) (ns:List PN) (fb:Nat) (f:Fn) (nds:List Nd) (rs:List Rec) (cms:List (Nat × List ByteArray)) (mm:Bool→Nat→Nat) (V:Sets) (U:List Nat):Prop where
 st:FState w0 fs ns fb f nds rs cms
 lv:Lv w0 rs mm V
 nl:nds.length≤1048576
 ol:∀ r∈rs,r.out.length≤1048576∧r.ops.length≤1048576
 kinds:∀ r∈rs,∀ d∈regsOf r.ops,d.kind≤3
 outs:∀ r∈rs,∀ d∈outRegs r.out,∃ r'∈rs,∃ d'∈regsOf r'.ops,d'.kind=d.kind
 ids:∀ i c,i < rs.length→V true i c≠0→c∈U∧c < 4294967296
 few:(outsN rs rs.length+1)*U.length≤8796093022208
theorem ARIn.len {w0:World} {fs:Nat→Option Nat} {ns:List PN} {fb:Nat} {f:Fn} {nds:List Nd} {rs:List Rec} {cms:List (Nat × List ByteArray)} {mm:Bool→Nat→Nat} {V:Sets} {U:List Nat} (h:ARIn w0 fs ns fb f nds rs cms mm V U):rs.length≤1048576:=by
 have:=h.st.mt.insOf
 have h2:=insOf_le nds
 rw [this,List.length_map] at h2
 exact Nat.le_trans h2 h.nl
theorem ARIn.instrs {w0:World} {fs:Nat→Option Nat} {ns:List PN} {fb:Nat} {f:Fn} {nds:List Nd} {rs:List Rec} {cms:List (Nat × List ByteArray)} {mm:Bool→Nat→Nat} {V:Sets} {U:List Nat} (h:ARIn w0 fs ns fb f nds rs cms mm V U) (w:World) (hf:Fr nope w0 w):
  Calls Tryz.prog 62 #[.pointer (some ⟨fb,0,none⟩)] w (GivesOwn w 113 ((rs.map (·.b)).map ptr)):=by
 obtain ⟨A,c,hnn,_,_⟩:=own_slice h.st.nodes
 have hc5:=h.st.fn.c5
 rw [hnn] at hc5
 have hSn:Sl w0 A nds.length (nds.map Nd.val):=by have h:=h.st.nodes;rw [hnn] at h;exact own_Sl h
 have:=Instructions_calls w fb A c nds (hf.cell hc5 (fun x=>x)) (hSn.nope hf) (by have:=h.nl;omega)
 rw [h.st.mt.insOf] at this
 exact this
def kindsOf (rs:List Rec) (k:Nat):Prop:=∃ r∈rs,∃ d∈regsOf r.ops,d.kind=k
theorem hits_drop {F:Nat→Nat} {d:R} (c:Nat):dropM (fun c=>if kindOf c=d.kind then F c else 0) d.id d.spec c &&& d.spec≠0↔hits F d c:=by
 unfold dropM hits
 by_cases e:c=d.id
 ·subst e
  simp only [if_true,ne_eq,not_true_eq_false,false_and,iff_false,Classical.not_not]
  apply Nat.eq_of_testBit_eq
  intro i
  rw [Nat.testBit_and,andn_testBit]
  cases h:d.spec.testBit i<;>simp
 ·rw [if_neg e]
  by_cases hk:kindOf c=d.kind<;>simp [hk,e]
set_option maxHeartbeats 4000000 in
theorem phD (w0 w:World) (fs:Nat→Option Nat) (ns:List PN) (fb:Nat) (f:Fn) (nds:List Nd) (rs:List Rec) (cms:List (Nat × List ByteArray)) (mm:Bool→Nat→Nat) (V:Sets) (U:List Nat) (hin:ARIn w0 fs ns fb f nds rs cms mm V U)
  (mb:Nat) (K:List Nat) (gs:Nat→AlG) (xs:Nat→Al) (Ps:Nat→Nat→Prop) (A:Nat→Nat→Prop) {u1 u2 u4 u5 u6 u7 u8 u9 u10 u11 u12 u13 u14 u15 u16 u17 u18 u19 u20 u21 u22 u23 u24 u25 u26 u27 u28 u29 u30 u31 u32 u33 u34 u35 u36 u37 u38 u39 u40 u41 u42 u43 u44 u45 u46 u47 u48 u49 u50 u51 u52 u53 u54 u55 u56 u57 u58 u59 u60 u61 u62 u63 u64 u65 u66 u67 u68 u69 u70 u71 u72 u73 u74 u75 u76 u77 u78 u79 u80 u81 u82 u83 u84 u85 u86 u87 u88 u89 u90 u91 u92 u93 u94 u95 u96 u97 u98 u99 u100 u101 u102 u103 u104 u105 u106 u107 u108 u109 u110 u111 u112 u113 u114 u115 u116 u117 u118 u119 u120 u121 u122 u123 u124 u125 u126 u127 u128 u129 u130 u131 u132 u133 u134 u135 u136 u137 u138 u139 u140 u141 u142 u143 u144 u145 u146 u147 u148 u149 u150 u151 u152 u153 u154 u155 u156 u157 u158 u159 u160 u161 u162 u163 u164 u165 u166 u167 u168 u169 u170 u171 u172 u173 u174 u175 u176 u177 u178 u179 u180 u181 u182 u183 u184:Value} (hA:AS w0 w mb K gs xs Ps) (hfr:Fr nope w0 w) (hK:∀ k,k∈K↔kindsOf rs k)
  (hR:∀ k∈K,AOk k (xs k) (A k) (fun _=>False)∧(xs k).edges=[]):
  Code.wp Tryz.prog (arTail 5) (bodyPost Tryz.prog Tryz.f46 (GivesRA w0 fb f (kindsOf rs) A (EAll rs (V true)))) ⟨#[.pointer (some ⟨fb,0,none⟩),u1,u2,.map (some mb),u4,u5,u6,u7,u8,u9,u10,u11,u12,u13,u14,u15,u16,u17,u18,u19,u20,u21,u22,u23,u24,u25,u26,u27,u28,u29,u30,u31,u32,u33,u34,u35,u36,u37,u38,u39,u40,u41,u42,u43,u44,u45,u46,u47,u48,u49,u50,u51,u52,u53,u54,u55,u56,u57,u58,u59,u60,u61,u62,u63,u64,u65,u66,u67,u68,u69,u70,u71,u72,u73,u74,u75,u76,u77,u78,u79,u80,u81,u82,u83,u84,u85,u86,u87,u88,u89,u90,u91,u92,u93,u94,u95,u96,u97,u98,u99,u100,u101,u102,u103,u104,u105,u106,u107,u108,u109,u110,u111,u112,u113,u114,u115,u116,u117,u118,u119,u120,u121,u122,u123,u124,u125,u126,u127,u128,u129,u130,u131,u132,u133,u134,u135,u136,u137,u138,u139,u140,u141,u142,u143,u144,u145,u146,u147,u148,u149,u150,u151,u152,u153,u154,u155,u156,u157,u158,u159,u160,u161,u162,u163,u164,u165,u166,u167,u168,u169,u170,u171,u172,u173,u174,u175,u176,u177,u178,u179,u180,u181,u182,u183,u184],[]⟩ w:=by
 conv=>arg 2;whnf
 have hrl:=hin.len
 have hfl:=Nat.lt_of_lt_of_le (lt_of_heap hin.st.fn) hfr.size
 have hI:=hin.instrs w hfr
 go_wp2_with fail
 refine hI.mono ?_
 rintro e w1 ⟨v,rfl,hown,hf1⟩
 simp only [List.length_map] at hown
 obtain ⟨A1,c1,rfl,_,_⟩:=own_slice hown
 have hA1:=hA.still hf1
 have hSl:=own_Sl hown
 rw [List.map_map] at hSl
 go_wp2
 have hbase:=own_base hown
 have hlt1:=own_lt hown
 replace hbase:=Lib.hid hbase
 replace hlt1:=Lib.hid hlt1
 have hw1:=hfr.then hf1
 have hPs0:∀ k∈K,∀ c,Ps k c→c < w.heap.size:=fun k hk c hc=>(hA.at_ k hk).lt c hc
 go_loopg [126] rs.length (fun n c126 wr=>∃ (i:Nat) (gs':Nat→AlG) (xs':Nat→Al) (Ps':Nat→Nat→Prop),i≤rs.length∧c126 = .int .i64 (i:Int)∧AS w0 wr mb K gs' xs' Ps'∧(∀ k∈K,∀ c,Ps' k c→Ps k c∨w1.heap.size≤c) ∧
  (∀ k∈K,AOk k (xs' k) (A k) (EP rs (V true) i 0 k)∧(xs' k).edges.length≤outsN rs i*U.length)∧Sl wr A1 rs.length (List.map (ptr ∘ fun x=>x.b) rs)∧w1.heap.size≤wr.heap.size∧Fr nope w0 wr∧n=rs.length - i)
 case atStart=>
  refine ⟨0,gs,xs,Ps,Nat.zero_le _,rfl,hA1,fun k hk c hc=>.inl hc,fun k hk=>⟨(hR k hk).1.congr (fun e=>⟨fun h=>EP.start rs _ k e h,fun h=>h.elim⟩) (toldOf_congr fun e=>⟨fun h=>EP.start rs _ k e h,fun h=>h.elim⟩),by rw [(hR k hk).2];exact Nat.zero_le _⟩,hSl,Nat.le_refl _,hw1,rfl⟩
 case round=>
  obtain ⟨i,gs',xs',Ps',hi,rfl,hAS,hPs,hX,hSr,hsz,hf,rfl⟩:=hrel
  by_cases hlt:i < rs.length
  ·obtain ⟨b0,off,u,hA1e,hbl,hu,hc⟩:=hSr.at_ hlt
   rw [List.getElem?_map] at hu
   obtain ⟨r,hr,rfl⟩:=Option.map_eq_some_iff.1 hu
   have hrm:=List.mem_of_getElem? hr
   have hrA0:=(hin.st.recs r hrm).1
   have hrA:=hrA0.nope hf
   have hb:=hrA.own.at_
   have hbl2:=lt_of_heap hb
   have hy:=hrA.outAt
   have hol:=(hin.ol r hrm).1
   have hOut:=OutputRegisters_own wr r.i r.out hy (by omega)
   have hOl:(outRegs r.out).length≤r.out.length:=List.length_filterMap_le _ _
   have hlo:=hin.lv.at_ i r hr
   have hMk:=(hin.lv.mask true i hlt)
   simp only [Function.comp,ptr] at hc
   have hstep:=outsN_step hr
   have hst2:=outsN_le (rs:=rs) (i:=i+1)
   have hfew:=hin.few
   replace hr:=Lib.hid hr
   replace hlo:=Lib.hid hlo
   replace hfew:=Lib.hid hfew
   replace hstep:=Lib.hid hstep
   replace hst2:=Lib.hid hst2
   obtain ⟨wo,rfl⟩:∃ wo:World,wo=wr:=⟨_,rfl⟩
   clear hu
   subst hA1e
   go_wp2_with (first
    | (refine wpList_loadRow (b:=r.b) rfl rfl rfl hb Tryz.underlying130 rfl (by kernel_rfl) ?_)
    | (go_at_call 77;refine hOut.mono ?_;rintro e w2 ⟨A2,c2,rfl,hO2,hR2,hf2⟩))
   have hb2:=own_base hO2
   have hl2:=own_lt hO2
   have hb0:=hbase.out b0 rfl
   have hl0:=hlt1.out b0 rfl
   have hsz2:=hf2.size
   have hAS2:=hAS.still hf2
   have hPs2:∀ k∈K,∀ c,Ps' k c→Ps k c∨(w1.heap.size≤c∧c < wo.heap.size):=fun k hk c hc=>(hPs k hk c hc).imp id fun h=>⟨h,(hAS.at_ k hk).lt c hc⟩
   have hSO:=own_Sl hO2
   replace hb2:=Lib.hid hb2
   replace hl2:=Lib.hid hl2
   go_loopg [135] (outRegs r.out).length (fun n c135 wr=>∃ (j:Nat) (gs':Nat→AlG) (xs':Nat→Al) (Ps':Nat→Nat→Prop),j≤(outRegs r.out).length∧c135 = .int .i64 (j:Int)∧AS w0 wr mb K gs' xs' Ps'∧(∀ k∈K,∀ c,Ps' k c→Ps k c∨(w1.heap.size≤c∧(c < wo.heap.size∨w2.heap.size≤c))) ∧
    (∀ k∈K,AOk k (xs' k) (A k) (EP rs (V true) i j k)∧(xs' k).edges.length≤(outsN rs i+j)*U.length)∧Sl wr (some ⟨b0,off,none⟩) rs.length (List.map (ptr ∘ fun x=>x.b) rs)∧Sl wr A2 (outRegs r.out).length ((outRegs r.out).map R.val)∧w2.heap.size≤wr.heap.size∧Fr nope w0 wr∧n=(outRegs r.out).length - j)
   case atStart=>exact ⟨0,gs',xs',Ps',Nat.zero_le _,rfl,hAS2,fun k hk c hc=>(hPs2 k hk c hc).imp id fun h=>⟨h.1,.inl h.2⟩,hX,hSr.nope hf2,hSO,Nat.le_refl _,hf.then hf2,rfl⟩
   case round=>
    clear hAS hAS2 hX hPs hPs2 hSr hSO hb
    obtain ⟨j,gs',xs',Ps',hj,rfl,hAS,hPs,hX,hSr,hSd,hszr,hf',rfl⟩:=hrel
    by_cases hjl:j < (outRegs r.out).length
    ·obtain ⟨b3,off3,u,hA2e,hbl3,hu,hc3⟩:=hSd.at_ hjl
     rw [List.getElem?_map] at hu
     obtain ⟨d,hd,rfl⟩:=Option.map_eq_some_iff.1 hu
     have hdm:=List.mem_of_getElem? hd
     have hdA0:=outRegs_at hrA0.outAt d hdm
     have hb3:=hb2.out b3 (by rw [hA2e];rfl)
     have hl3:=hl2.out b3 (by rw [hA2e];rfl)
     obtain ⟨r',hr'm,d',hd'm,hkd⟩:=hin.outs r hrm d hdm
     have hdK:d.kind∈K:=(hK _).2 ⟨r',hr'm,d',hd'm,hkd⟩
     have hd3:d.kind≤3:=by rw [← hkd];exact hin.kinds r' hr'm d' hd'm
     have hbr:=(hrA0.nope hf').own.at_
     have hc13:wr.cell? ⟨r.b,13,none⟩=some (.map (some (mm true i))):=by rw [cell_of_row wr r.b 13 _ _ (0,0) hbr,← hlo.out.2];rfl
     have hbrl:=lt_of_heap hbr
     have hM:=hMk.fr hf' (fun x=>x)
     have hkid:=R.kind_id hdA0.1
     have hid32:=R.id_lt hdA0.1
     have hEP:=fun k e=>EP.step (V:=V true) (k:=k) (e:=e) hr.out hd
     replace hd:=Lib.hid hd
     replace hEP:=Lib.hid hEP
     replace hkid:=Lib.hid hkid
     clear hu hkd
     subst hA2e
     obtain ⟨wo2,rfl⟩:∃ wo2:World,wo2=wr:=⟨_,rfl⟩
     go_upto_region 45 with (first
      | (refine wpList_Kind rfl rfl rfl (hdA0.2.nope hf') ?_;intro w3 hf3;have hc133:=hf3.cell hc13 (fun x=>x);have hbl33:=Nat.lt_of_lt_of_le hbrl hf3.size)
      | (go_at_call 85;refine (OfKind_calls w3 (some (mm true i)) (V true i) d.kind ((hM.fr hf3 (fun x=>x)).o)).mono ?_;rintro e w4 ⟨rfl,hM4,hf4⟩)
      | (go_at_call 86;refine (DiscardRegister_calls w4 w3.heap.size _ d hM4 hdA0.1 (hdA0.2.nope ((hf'.then hf3).then hf4))).mono ?_;rintro e w5 ⟨⟨ch,rfl⟩,hM5,hf5⟩))
     have hs3:=hf3.size
     have hs4:=hf4.size
     have hs5:=hf5.size
     have hm4:=hM4.lt
     have hw3n:∀ k∈K,¬Ps' k w3.heap.size:=fun k hk hp=>by have:=(hAS.at_ k hk).lt _ hp;omega
     have hAS5:=((hAS.still hf3).still hf4).keep hf5 (fun k hk c hc e=>hw3n k hk (e ▸ hc)) (fun e=>by have:=hAS.lt;omega)
     have hf05:Fr nope w0 w5:=((hf'.then hf3).then hf4).then_new hf5 (fun c hc e=>by have:=hf'.size;omega)
     have hf25:Fr (fun c=>c=w3.heap.size) wo2 w5:=(hf3.then hf4).of_nope.then hf5
     have hlk:=hAS5.look hdK
     have hXd:=hX d.kind hdK
     have hatd:∀ W,Fr (Ps' d.kind) w5 W→d.At W:=fun W hW=>hdA0.2.nope (hAS5.fr hf05 hdK hW)
     have hnz:∀ c,dropM (fun c=>if kindOf c=d.kind then V true i c else 0) d.id d.spec c≠0→V true i c≠0:=fun c hc h0=>by
      apply hc
      unfold dropM
      simp [h0,andn]
     have hbig:(xs' d.kind).edges.length+U.length≤8796093022208:=by
      have h1:=hXd.2
      have h2:=hfew.out
      have h3:=hstep.out
      have h4:=hst2.out
      have h5:(outsN rs i+j+1)*U.length≤(outsN rs rs.length+1)*U.length:=Nat.mul_le_mul_right _ (by omega)
      rw [Nat.succ_mul] at h5
      omega
     have hcall:=AddIS_calls w5 (Ps' d.kind) (xs' d.kind) (gs' d.kind) d (some w3.heap.size) _ (hAS5.at_ _ hdK) (by rw [hXd.1.regs];have:=(regsK_facts d.kind (by omega)).2.2.2.2.2.1;omega) hdA0.1 hatd hM5.o (fun b hb hp=>by injection hb with hb;exact hw3n _ hdK (hb ▸ hp)) U (fun c hc=>hin.ids i c hlt (hnz c hc)) hbig
     unfold ptr at hlk hcall
     replace hbig:=Lib.hid hbig
     go_wp2_with (go_at_call 87;refine hcall.mono ?_;rintro e w6 ⟨rfl,D,hD1,hD2,hT⟩)
     obtain ⟨g6,hg6,h6,hf6⟩:=hT
     have hD3:∀ c,c∈D↔hits (V true i) d c:=fun c=>(hD2 c).trans (hits_drop c)
     have hDl:D.length≤U.length:=nodup_le hD1 fun c hc=>(hin.ids i c hlt (fun h0=>by have:=((hD3 c).1 hc).2.2;rw [h0] at this;simp at this)).1
     have hAS6:=hAS5.turn hdK hg6 h6 hf6
     have hf06:=hAS5.fr hf05 hdK hf6
     have hs6:=hf6.size
     have hnot:∀ b,(w.heap.size≤b∧b < w1.heap.size)∨(wo.heap.size≤b∧b < w2.heap.size)→¬Ps' d.kind b:=fun b hb hp=>by
      rcases hPs _ hdK b hp with h | h
      ·have:=hPs0 _ hdK b h
       have:=hf1.size
       omega
      ·omega
     go_roundg ((outRegs r.out).length - (j+1))
     case measure=>omega
     case rel=>
      refine ⟨j+1,updF gs' d.kind g6,updF xs' d.kind (addIs (xs' d.kind) d.id D),updF Ps' d.kind (wider (Ps' d.kind) w5 w6),by omega,by go_num,hAS6,fun k hk c hc=>?_,fun k hk=>?_,(hSr.fr hf25 (fun _ b o e h=>?_)).fr hf6 (fun _ b o e=>?_),(hSd.fr hf25 (fun _ b o e h=>?_)).fr hf6 (fun _ b o e=>?_),by omega,hf06,rfl⟩
      ·by_cases ek:k=d.kind
       ·subst ek
        rw [updF_self] at hc
        rcases hc with hc | hc
        ·exact hPs _ hk c hc
        ·exact .inr ⟨by omega,.inr (by omega)⟩
       ·rw [updF_ne _ _ ek] at hc
        exact hPs k hk c hc
      ·by_cases ek:k=d.kind
       ·subst ek
        rw [updF_self]
        refine ⟨(hXd.1.addIs hd3 hkid.out hid32 D (fun c hc=>⟨((hD3 c).1 hc).2.1,?_⟩)).congr (fun e=>?_) (toldOf_congr fun e=>?_),?_⟩
        ·exact (hin.ids i c hlt (fun h0=>by have:=((hD3 c).1 hc).2.2;rw [h0] at this;simp at this)).2
        ·rw [hEP.out]
         exact or_congr Iff.rfl ⟨fun ⟨_,h1,h2⟩=>⟨e.2,(hD3 _).2 h2,by rw [← h1]⟩,fun ⟨c,h1,h2⟩=>by subst h2;exact ⟨rfl,rfl,(hD3 c).1 h1⟩⟩
        ·rw [hEP.out]
         exact or_congr Iff.rfl ⟨fun ⟨_,h1,h2⟩=>⟨e.2,(hD3 _).2 h2,by rw [← h1]⟩,fun ⟨c,h1,h2⟩=>by subst h2;exact ⟨rfl,rfl,(hD3 c).1 h1⟩⟩
        ·rw [addIs_edges,List.length_append,List.length_map,← Nat.add_assoc,Nat.succ_mul]
         have:=hXd.2
         omega
       ·rw [updF_ne _ _ ek]
        have hno:∀ e,EP rs (V true) i (j+1) k e↔EP rs (V true) i j k e:=fun e=>by
         rw [hEP.out]
         exact ⟨fun h=>h.elim id fun h=>absurd h.1.symm ek,.inl⟩
        refine ⟨(hX k hk).1.congr hno (toldOf_congr hno),Nat.le_trans (hX k hk).2 (Nat.mul_le_mul_right _ (by omega))⟩
      ·injection e with e
       injection e with e _
       subst e
       have:=hf1.size
       omega
      ·injection e with e
       injection e with e _
       subst e
       exact hnot _ (.inl ⟨hb0,hl0⟩)
      ·injection e with e
       injection e with e _
       subst e
       omega
      ·injection e with e
       injection e with e _
       subst e
       exact hnot _ (.inr ⟨hb3,hl3⟩)
    ·have hje:j=(outRegs r.out).length:=by omega
     subst hje
     go_wp2
     go_roundg (rs.length - (i+1))
     case measure=>omega
     case rel=>
      refine ⟨i+1,gs',xs',Ps',by omega,by go_num,hAS,fun k hk c hc=>(hPs k hk c hc).imp id fun h=>h.1,fun k hk=>⟨(hX k hk).1.congr (fun e=>(EP.row hr.out).symm) (toldOf_congr fun e=>(EP.row hr.out).symm),by rw [hstep.out];exact (hX k hk).2⟩,hSr,by omega,hf',rfl⟩
  ·obtain rfl:i=rs.length:=by omega
   go_upto_if 127 with (fail)
   iterate 4 (first | go_step | go_back)
   have hlen:∀ k∈K,(xs' k).edges.length≤8796093022208:=fun k hk=>by
    have h1:=(hX k hk).2
    have h2:=hin.few
    rw [Nat.succ_mul] at h2
    omega
   have hX2:∀ k∈K,AOk k (xs' k) (A k) (EAll rs (V true) k):=fun k hk=>(hX k hk).1.congr (fun e=>EP.done.symm) (toldOf_congr fun e=>EP.done.symm)
   have hK3:∀ k∈K,k≤3:=fun k hk=>by
    obtain ⟨r,hr,d,hd,rfl⟩:=(hK k).1 hk
    exact hin.kinds r hr d hd
   exact GivesRA.of (n:=6) hK hX2 (phE w0 wr mb fb f K gs' xs' Ps' hAS hf hin.st.fn (fun k hk=>(hX2 k hk).ready (hK3 k hk) (hlen k hk)))
end
section
open Go Go.RowKit Bth
set_option maxRecDepth 100000
theorem R.mV (r:R) (hv:r.virt=true):∃ T v,r.val = .iface T v∧(∀ W,(method 497 T v "Kind").run Tryz.prog W = .ok (298,r.coreV) W) ∧
  (∀ W,(method 497 T v "VirtualIndex").run Tryz.prog W = .ok (299,r.coreV) W)∧(∀ W,(method 497 T v "Mask").run Tryz.prog W = .ok (213,.int .u16 (r.spec:Int)) W) ∧
  (∀ W,(method 497 T v "ID").run Tryz.prog W = .ok (297,r.coreV) W):=by
 obtain ⟨T,v,h⟩:=r.val_iface
 have key:∀ {T' v'},r.val = .iface T' v'→T'=T∧v'=v:=fun h'=>by rw [h] at h';injection h' with a b;exact ⟨a.symm,b.symm⟩
 refine ⟨T,v,h,fun W=>?_,fun W=>?_,fun W=>?_,fun W=>?_⟩
 ·obtain ⟨T',v',h1,h2⟩:=r.m_Kind_v W hv;obtain ⟨rfl,rfl⟩:=key h1;rw [sizeTypes] at h2;exact h2
 ·obtain ⟨T',v',h1,h2⟩:=r.m_VirtualIndex_v W hv;obtain ⟨rfl,rfl⟩:=key h1;rw [sizeTypes] at h2;exact h2
 ·obtain ⟨T',v',h1,h2⟩:=r.m_Mask_v W hv;obtain ⟨rfl,rfl⟩:=key h1;rw [sizeTypes] at h2;exact h2
 ·obtain ⟨T',v',h1,h2⟩:=r.m_ID_v W hv;obtain ⟨rfl,rfl⟩:=key h1;rw [sizeTypes] at h2;exact h2
theorem ToVirtual_calls (w:World) (r:R):Calls Tryz.prog 194 #[r.val] w fun e w'=>e = .returned (if r.virt then r.val else .nilIface)∧w'=w:=by
 have hta:=fun W=>R.ta_Virtual (w:=W) 155 r
 obtain ⟨T,v,h⟩:=r.val_iface
 cases hv:r.virt
 all_goals
  simp only [hv,h,if_true,if_false,Bool.false_eq_true] at hta ⊢
  go_enter Tryz.func194,Tryz.ntmps194
  go_wp2
  go_ret
  exact ⟨rfl,rfl⟩
theorem ToPhysical_calls (w:World) (r:R):Calls Tryz.prog 195 #[r.val] w fun e w'=>e = .returned (if r.virt then .nilIface else r.val)∧w'=w:=by
 have hta:=fun W=>R.ta_Physical (w:=W) 155 r
 obtain ⟨T,v,h⟩:=r.val_iface
 cases hv:r.virt
 all_goals
  simp only [hv,h,if_true,if_false,Bool.false_eq_true,Bool.not_true,Bool.not_false] at hta ⊢
  go_enter Tryz.func195,Tryz.ntmps195
  go_wp2
  go_ret
  exact ⟨rfl,rfl⟩
def R.plain (r:R):G:=⟨r.virt,r.kind,r.idx,r.spec⟩
set_option maxHeartbeats 2000000 in
theorem plainReg_calls (w:World) (r:R) (hat:r.At w):Calls Tryz.prog 171 #[r.val] w fun e w'=>e = .returned r.plain.agg∧Fr nope w w':=by
 have hTV:=fun W=>ToVirtual_calls W r
 have hTP:=fun W=>ToPhysical_calls W r
 cases hv:r.virt with
 | true=>
  obtain ⟨T,v,h,hm1,hm2,hm3,_⟩:=r.mV hv
  simp only [R.coreV] at hm1 hm2
  simp only [hv,if_true,h] at hTV ⊢
  have hG:r.plain.agg = .agg #[.bool true,.int .u8 (r.kind:Int),.int .u16 (r.idx:Int),.int .u16 (r.spec:Int)]:=by unfold R.plain G.agg;rw [hv]
  rw [hG]
  clear hTP hG
  go_enter Tryz.func171,Tryz.ntmps171
  go_wp2_with (first
   | (go_at_call 194;refine (hTV _).mono ?_;rintro e w1 ⟨rfl,rfl⟩)
   | (go_at_call 298;refine (virtual_Kind_calls _ r.idx r.kind r.spec).mono ?_;rintro e w2 ⟨rfl,hf2⟩)
   | (go_at_call 299;refine (virtual_VI_calls _ r.idx r.kind r.spec).mono ?_;rintro e w3 ⟨rfl,hf3⟩)
   | (go_at_call 213;refine (Mask_calls _ r.spec).mono ?_;rintro e w4 ⟨rfl,rfl⟩;have hb4:=(hf2.then hf3).heap (heap_alloc_new w _) (fun x=>x))
   | (refine wpList_storeRow (b:=w.heap.size) rfl rfl rfl rfl hb4 rfl (by kernel_rfl) (by kernel_rfl) ?_;intro w5 hb5 hf5))
  refine bodyPost_ret (results_cell_row rfl _ _ w.heap.size _ _ _ _ rfl hb5 Tryz.underlying78 rfl (by kernel_rfl)) rfl ?_
  exact ⟨rfl,((((Fr.refl nope w).alloc _).then hf2).then hf3).then_new hf5 (fun x hx e=>by omega)⟩
 | false=>
  obtain ⟨T,v,h,hm1,hm2,_,_⟩:=r.mP hv
  obtain ⟨T',v',h',hm3⟩:=r.kindP hv
  obtain ⟨rfl,rfl⟩:T'=T∧v'=v:=by rw [h] at h';injection h' with a b;exact ⟨a.symm,b.symm⟩
  simp only [R.coreP] at hm1
  have hc:=hat.cell hv
  simp only [hv,if_false,Bool.false_eq_true,h] at hTV hTP ⊢
  have hG:r.plain.agg = .agg #[.bool false,.int .u8 (r.kind:Int),.int .u16 (r.idx:Int),.int .u16 (r.spec:Int)]:=by unfold R.plain G.agg;rw [hv]
  rw [hG]
  clear hG
  go_enter Tryz.func171,Tryz.ntmps171
  go_wp2_with (first
   | (go_at_call 194;refine (hTV _).mono ?_;rintro e w1 ⟨rfl,rfl⟩)
   | (go_at_call 195;refine (hTP _).mono ?_;rintro e w1 ⟨rfl,rfl⟩)
   | (go_at_call 241;refine (register_Kind_calls _ r.fb r.idx r.kind r.spec r.info r.name (((Fr.refl nope w).alloc _).cell hc (fun x=>x))).mono ?_;rintro e w2 ⟨rfl,hf2⟩)
   | (go_at_call 242;refine (register_PI_calls _ r.fb r.idx r.spec r.info r.name).mono ?_;rintro e w3 ⟨rfl,hf3⟩)
   | (go_at_call 213;refine (Mask_calls _ r.spec).mono ?_;rintro e w4 ⟨rfl,rfl⟩;have hb4:=(hf2.then hf3).heap (heap_alloc_new w _) (fun x=>x))
   | (refine wpList_storeRow (b:=w.heap.size) rfl rfl rfl rfl hb4 rfl (by kernel_rfl) (by kernel_rfl) ?_;intro w5 hb5 hf5))
  refine bodyPost_ret (results_cell_row rfl _ _ w.heap.size _ _ _ _ rfl hb5 Tryz.underlying78 rfl (by kernel_rfl)) rfl ?_
  exact ⟨rfl,((((Fr.refl nope w).alloc _).then hf2).then hf3).then_new hf5 (fun x hx e=>by omega)⟩
end
end Go.Proofs.YtbgblfiapecioaaGreat
