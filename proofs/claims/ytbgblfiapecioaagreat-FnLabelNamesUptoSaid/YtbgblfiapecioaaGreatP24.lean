/- Part of the proof of a statement about pub-berthage: what its texts have in common. -/
import Derived.Test.YtbgblfiapecioaaGreatP22
import Derived.Test.YtbgblfiapecioaaGreatP23
namespace Go.Proofs.YtbgblfiapecioaaGreat
section
open Go Go.RowKit Bth
set_option maxRecDepth 100000
def LiveOutP (is:List PI) (sc:Nat→List (Option Nat)):Nat→Nat→Nat→Prop:=LiveOut (flowP is sc).reads (flowP is sc).writes (flowP is sc).succ
def kindsP (is:List PI) (k:Nat):Prop:=∃ p∈is,∃ g∈gsOf p.ops,g.kind=k
def addsP (is:List PI) (k v:Nat):Prop:=∃ p∈is,∃ g∈gsOf p.ops,g.kind=k∧v=g.id
def edgesP (is:List PI) (sc:Nat→List (Option Nat)) (k:Nat) (e:Nat × Nat):Prop:=∃ (i:Nat) (p:PI) (g:G),is[i]? = some p∧g∈outGs p.out∧g.kind=k∧e.1=g.id∧e.2≠g.id∧kindOf e.2=g.kind∧∃ b,LiveOutP is sc i e.2 b∧g.spec.testBit b=true
def ColorP (is:List PI) (sc:Nat→List (Option Nat)) (k:Nat) (r:Option (Nat→Option Nat)):Prop:=
 ∃ (E:List (Nat × Nat)) (rem:List Nat),(∀ e,e∈E↔edgesP is sc k e)∧rem.Nodup∧(∀ v,v∈rem↔isV v=true∧toldOf (addsP is k) (edgesP is sc k) v)∧r=color (regsK k) E (rem.length+1) rem fun _=>none
theorem ColorP.uniq {is:List PI} {sc:Nat→List (Option Nat)} {k:Nat} {r r':Option (Nat→Option Nat)} (h:ColorP is sc k r) (h':ColorP is sc k r'):r=r':=by
 obtain ⟨E,rem,h1,h2,h3,rfl⟩:=h
 obtain ⟨E',rem',h1',h2',h3',rfl⟩:=h'
 exact color_congr (fun e=>(h1 e).trans (h1' e).symm) _ _ _ _ _ h2' h2 (fun v=>(h3 v).trans (h3' v).symm) (Nat.lt_succ_self _) (Nat.lt_succ_self _)
def GraphP (ns:List PN) (sc:Nat→List (Option Nat)):Prop:=∃ s,lpRun ns=some s∧s.pend=[]∧∀ (k:Nat) (p:PI),(insP ns)[k]? = some p→succP s.t s.n k p=some (sc k)
def AFRes (ns:List PN):Option (Nat→Option Nat)→Prop
 | some f=>∃ (sc:Nat→List (Option Nat)) (fk:Nat→Nat→Option Nat),GraphP ns sc∧(∀ k,kindsP (insP ns) k→ColorP (insP ns) sc k (some (fk k)))∧∀ v,(kindsP (insP ns) (kindOf v)→f v=fk (kindOf v) v)∧(¬kindsP (insP ns) (kindOf v)→f v=none)
 | none=>(∀ sc,¬GraphP ns sc)∨∃ sc k,GraphP ns sc∧kindsP (insP ns) k∧ColorP (insP ns) sc k none
def sumL {α : Type} (f:α → Nat) (l:List α):Nat:=(l.map f).sum
structure AFOk (ns:List PN):Prop where
 ok:ns.all okN=true
 ops:∀ p∈insP ns,p.Ok
 canc:∀ p∈insP ns,p.canc=true→2≤(gsOf p.inp).length
 kinds:∀ p∈insP ns,∀ g∈gsOf p.ops,g.kind≤3
 outs:∀ p∈insP ns,∀ g∈outGs p.out,kindsP (insP ns) g.kind
 few:(sumL (fun p=>(outGs p.out).length) (insP ns)+1)*(sumL (fun p=>(inGs p.canc p.inp p.out).length) (insP ns))≤8796093022208
 few2:sumL (fun p=>(gsOf p.ops).length) (insP ns)+sumL (fun p=>(outGs p.out).length) (insP ns)+sumL (fun p=>(inGs p.canc p.inp p.out).length) (insP ns)≤1000000000
theorem PI.ok_of {w:World} {B:Nat} {p:PI} (h:p.At w B):p.Ok:=⟨h.ok.1,h.ok.2.1,h.ok.2.2⟩
theorem FState.setFn {w w':World} {fs:Nat→Option Nat} {ns:List PN} {fb:Nat} {f f':Fn} {nds:List Nd} {rs:List Rec} {cms:List (Nat × List ByteArray)} (h:FState w fs ns fb f nds rs cms) (hv:FnAt w' fb f') (hn:f'.nodes=f.nodes) (hf:Fr (fun b=>b=fb) w w'):FState w' fs ns fb f' nds rs cms:=by
 have hs:NoT (122 :: addT) w (fun b=>b=fb):=NoT.one h.fn (by decide)
 refine ⟨hv,by rw [hn];exact own_frT h.nodes hf hs (by decide),h.mt,fun r hr=>?_,h.apart,fun c hc=>(h.coms c hc).frT hf hs (by decide) (by decide)⟩
 have:=h.recs r hr
 exact ⟨this.1.frT hf (hs.sub (by decide)),this.2.1,Nat.le_trans this.2.2 hf.size⟩
theorem lt_targets {nds:List Nd} : ∀ {s:LS},ltRun nds=some s→∀ x b,s.t x=some b→b∈insOf nds:=by
 have hsnoc:∀ (l:List Nd) (nd:Nd),ltRun (l ++ [nd])=(ltRun l).bind fun s=>ltStep s nd:=by
  intro l nd
  unfold ltRun
  rw [List.foldlM_append]
  cases List.foldlM ltStep ⟨fun _=>none,[]⟩ l<;>simp
 have key:∀ n (nds:List Nd),nds.length=n→∀ {s:LS},ltRun nds=some s→∀ x b,s.t x=some b→b∈insOf nds:=by
  intro n
  induction n with
  | zero=>
   intro nds hl s hs x b hb
   rw [List.eq_nil_of_length_eq_zero hl] at hs
   injection hs with hs
   subst hs
   cases hb
  | succ n ih=>
   intro nds hl s hs x b hb
   obtain ⟨l,nd,rfl⟩:∃ l nd,nds=l ++ [nd]:=(List.eq_nil_or_concat nds).elim (fun h=>by rw [h] at hl;simp at hl) (fun ⟨l,nd,h⟩=>⟨l,nd,by simpa using h⟩)
   rw [hsnoc] at hs
   obtain ⟨s0,h1,h2⟩:=Option.bind_eq_some_iff.1 hs
   have ih':=ih l (by simpa using hl) h1
   have hm:insOf (l ++ [nd])=insOf l ++ insOf [nd]:=by unfold insOf;rw [List.filterMap_append]
   rw [hm]
   cases nd with
   | label z=>
    simp only [ltStep] at h2
    split at h2
    ·cases h2
    ·injection h2 with h2;subst h2;exact List.mem_append_left _ (ih' x b hb)
   | comment z=>simp only [ltStep] at h2;injection h2 with h2;subst h2;exact List.mem_append_left _ (ih' x b hb)
   | ins z=>
    simp only [ltStep] at h2
    injection h2 with h2
    subst h2
    simp only [settle] at hb
    split at hb
    ·injection hb with hb;subst hb;exact List.mem_append_right _ (by simp [insOf,Nd.insOf])
    ·exact List.mem_append_left _ (ih' x b hb)
 intro s hs
 exact key _ nds rfl hs
end
section
open Go Go.RowKit Bth
set_option maxRecDepth 100000
theorem Mt.iffs {fs:Nat→Option Nat} {ns:List PN} {nds:List Nd} {rs:List Rec} {cms:List (Nat × List ByteArray)} (hM:Mt fs ns nds rs cms) (hp:∀ p∈insP ns,p.Ok) {Q:Nat→Rec→Prop} {Q':Nat→PI→Prop}
  (h:∀ (i:Nat) (p:PI) (r:Rec),rs[i]? = some r→RMatch fs p r→p.Ok→(Q i r↔Q' i p)):(∃ (i:Nat) (r:Rec),rs[i]? = some r∧Q i r)↔∃ (i:Nat) (p:PI),(insP ns)[i]? = some p∧Q' i p:=by
 obtain ⟨hl,hr⟩:=hM.match_
 constructor
 ·rintro ⟨i,r,h1,h2⟩
  have hlt:i < (insP ns).length:=by rw [hl];exact (List.getElem?_eq_some_iff.1 h1).1
  have hi:=List.getElem?_eq_getElem hlt
  exact ⟨i,_,hi,(h i _ r h1 (hr i _ r hi h1) (hp _ (List.getElem_mem hlt))).1 h2⟩
 ·rintro ⟨i,p,h1,h2⟩
  have hlt:i < rs.length:=by rw [← hl];exact (List.getElem?_eq_some_iff.1 h1).1
  have hi:=List.getElem?_eq_getElem hlt
  exact ⟨i,_,hi,(h i p _ hi (hr i p _ h1 hi) (hp _ (List.mem_of_getElem? h1))).2 h2⟩
theorem ex_plain {l:List R} {Q:R→Prop} {Q':G→Prop} (h:∀ d,Q d↔Q' d.plain):(∃ d∈l,Q d)↔∃ g∈l.map R.plain,Q' g:=by
 constructor
 ·rintro ⟨d,h1,h2⟩;exact ⟨_,List.mem_map.2 ⟨d,h1,rfl⟩,(h d).1 h2⟩
 ·rintro ⟨g,h1,h2⟩
  obtain ⟨d,h3,rfl⟩:=List.mem_map.1 h1
  exact ⟨d,h3,(h d).2 h2⟩
theorem ex_index {α : Type} {l:List α} {Q:α → Prop} : (∃ a∈l,Q a)↔∃ (i:Nat) (a:α),l[i]? = some a∧Q a:=by
 constructor
 ·rintro ⟨a,h1,h2⟩
  obtain ⟨i,hi⟩:=List.mem_iff_getElem?.1 h1
  exact ⟨i,a,hi,h2⟩
 ·rintro ⟨i,a,h1,h2⟩
  exact ⟨a,List.mem_of_getElem? h1,h2⟩
theorem Mt.kinds {w:World} {wb:Nat} {fs:Nat→Option Nat} (hW:WAt w wb fs) {ns:List PN} {nds:List Nd} {rs:List Rec} {cms:List (Nat × List ByteArray)} (hM:Mt fs ns nds rs cms) (hp:∀ p∈insP ns,p.Ok) (k:Nat):kindsOf rs k↔kindsP (insP ns) k:=by
 unfold kindsOf kindsP
 rw [ex_index,ex_index]
 refine hM.iffs hp (Q:=fun _ r=>∃ d∈regsOf r.ops,d.kind=k) (Q':=fun _ p=>∃ g∈gsOf p.ops,g.kind=k) fun i p r hr hm hk=>?_
 rw [← (hm.regs hW hk).1]
 exact ex_plain fun d=>Iff.rfl
theorem Mt.adds {w:World} {wb:Nat} {fs:Nat→Option Nat} (hW:WAt w wb fs) {ns:List PN} {nds:List Nd} {rs:List Rec} {cms:List (Nat × List ByteArray)} (hM:Mt fs ns nds rs cms) (hp:∀ p∈insP ns,p.Ok) (k v:Nat):AAll rs k v↔addsP (insP ns) k v:=by
 unfold AAll addsP
 rw [ex_index,ex_index]
 refine hM.iffs hp (Q:=fun _ r=>∃ d∈regsOf r.ops,d.kind=k∧v=d.id) (Q':=fun _ p=>∃ g∈gsOf p.ops,g.kind=k∧v=g.id) fun i p r hr hm hk=>?_
 rw [← (hm.regs hW hk).1]
 exact ex_plain fun d=>by rw [R.id_plain];exact Iff.rfl
theorem and_ne {a b:Nat} : a &&& b≠0↔∃ i,a.testBit i=true∧b.testBit i=true:=by
 constructor
 ·intro h
  refine Classical.byContradiction fun hn=>h (Nat.eq_of_testBit_eq fun i=>?_)
  rw [Nat.testBit_and,Nat.zero_testBit]
  cases h1:a.testBit i
  ·rfl
  cases h2:b.testBit i
  ·rfl
  ·exact absurd ⟨i,h1,h2⟩ hn
 ·rintro ⟨i,h1,h2⟩ h
  have:(a &&& b).testBit i=true:=by rw [Nat.testBit_and,h1,h2];rfl
  rw [h,Nat.zero_testBit] at this
  cases this
theorem Mt.edges {w:World} {wb:Nat} {fs:Nat→Option Nat} (hW:WAt w wb fs) {ns:List PN} {nds:List Nd} {rs:List Rec} {cms:List (Nat × List ByteArray)} (hM:Mt fs ns nds rs cms) (hp:∀ p∈insP ns,p.Ok) {V:Nat→Nat→Nat} {sc:Nat→List (Option Nat)}
  (hV:∀ i c b,i < rs.length→((V i c).testBit b=true↔LiveOutP (insP ns) sc i c b)) (k:Nat) (e:Nat × Nat):EAll rs V k e↔edgesP (insP ns) sc k e:=by
 have h:=hM.iffs hp (Q:=fun i r=>∃ d∈outRegs r.out,d.kind=k∧e.1=d.id∧hits (V i) d e.2) (Q':=fun i p=>∃ g∈outGs p.out,g.kind=k∧e.1=g.id∧e.2≠g.id∧kindOf e.2=g.kind∧∃ b,LiveOutP (insP ns) sc i e.2 b∧g.spec.testBit b=true) fun i p r hr hm hk=>by
  rw [← (hm.regs hW hk).2.1]
  refine ex_plain fun d=>?_
  unfold hits
  have hi:=(List.getElem?_eq_some_iff.1 hr).1
  rw [and_ne,R.id_plain]
  refine and_congr Iff.rfl (and_congr Iff.rfl (and_congr Iff.rfl (and_congr Iff.rfl (exists_congr fun b=>?_))))
  rw [hV i _ b hi]
  exact Iff.rfl
 unfold EAll edgesP
 constructor
 ·rintro ⟨i,r,d,h1,h2,h3⟩
  obtain ⟨i,p,h4,g,h5,h6⟩:=h.1 ⟨i,r,h1,d,h2,h3⟩
  exact ⟨i,p,g,h4,h5,h6⟩
 ·rintro ⟨i,p,g,h1,h2,h3⟩
  obtain ⟨i,r,h4,d,h5,h6⟩:=h.2 ⟨i,p,h1,g,h2,h3⟩
  exact ⟨i,r,d,h4,h5,h6⟩
theorem ColorP.of {k:Nat} {x:Al} {A:Nat→Prop} {E:Nat × Nat→Prop} {r:Option (Nat→Option Nat)} {is:List PI} {sc:Nat→List (Option Nat)} (ha:AOk k x A E) (h:ColorOf x r) (hA:∀ v,A v↔addsP is k v) (hE:∀ e,E e↔edgesP is sc k e):ColorP is sc k r:=by
 obtain ⟨rem,h1,h2⟩:=h
 have ht:∀ v,toldOf A E v↔toldOf (addsP is k) (edgesP is sc k) v:=fun v=>by unfold toldOf;simp only [hA,hE]
 refine ⟨x.edges,rem,fun e=>(ha.edges e).trans (hE e),h1.nd,fun v=>?_,by rw [h2,ha.regs,ha.al]⟩
 rw [h1.mem,← ht]
 constructor
 ·intro hv
  cases hl:x.poss v with
  | none=>exact absurd hl hv
  | some l=>exact ⟨(ha.list v l hl).1,(ha.list v l hl).2.1⟩
 ·rintro ⟨g1,g2⟩
  exact ha.has v g1 g2
end
section
open Go Go.RowKit Bth
set_option maxRecDepth 100000
theorem G.id_lt {g:G} (h:g.Ok):g.id < 4294967296:=by
 have h1:=h.kind
 have h2:=h.idx
 unfold G.id
 cases g.virt<;>simp<;>omega
theorem inGs_mem {c:Bool} {ps qs:List PO} {g:G} (h:g∈inGs c ps qs):g∈gsOf ps∨g∈gsOf qs:=by
 unfold inGs at h
 rcases List.mem_append.1 h with h | h
 ·left
  cases c with
  | false=>exact h
  | true=>
   match hl:gsOf ps with
   | []=>rw [hl] at h;exact h
   | [g1]=>rw [hl] at h;exact h
   | g1 :: g2 :: l=>
    rw [hl] at h
    simp only at h
    split at h
    ·cases h
    ·exact h
 ·right
  obtain ⟨p,hp,hg⟩:=List.mem_flatMap.1 h
  exact List.mem_flatMap.2 ⟨p,(List.mem_filter.1 hp).1,hg⟩
theorem outGs_mem {ps:List PO} {g:G} (h:g∈outGs ps):g∈gsOf ps:=by
 obtain ⟨p,hp,hg⟩:=List.mem_filterMap.1 h
 refine List.mem_flatMap.2 ⟨p,hp,?_⟩
 unfold PO.asG at hg
 split at hg
 ·rename_i h1
  injection hg with hg
  subst hg
  simp [PO.gs,h1]
 ·cases hg
theorem ofGs_sup {gs:List G} {c:Nat} (h:ofGs gs c≠0):c∈gs.map G.id:=by
 have key:∀ (gs:List G) (F:Nat→Nat),(gs.foldl (fun F g=>orM F g.id g.spec) F) c≠0→F c≠0∨c∈gs.map G.id:=by
  intro gs
  induction gs with
  | nil=>intro F h;exact .inl h
  | cons g gs ih=>
   intro F h
   rcases ih _ h with h | h
   ·have h2:(if c=g.id then F c ||| g.spec else F c)≠0:=h
    split at h2
    ·rename_i e;exact .inr (by simp [e])
    ·exact .inl h2
   ·exact .inr (List.mem_cons_of_mem _ h)
 rcases key gs _ h with h | h
 ·exact absurd rfl h
 ·exact h
theorem bit_ne {a b:Nat} (h:a.testBit b=true):a≠0:=by rintro rfl;simp at h
theorem live_sup {is:List PI} {sc:Nat→List (Option Nat)} {i c b:Nat} (h:LiveOutP is sc i c b):c∈(flowP is sc).U:=by
 obtain ⟨s,_,h⟩:=h
 refine LiveIn.least (inn:=fun _ c _=>c∈(flowP is sc).U) (fun i c b hr=>?_) (fun _ _ _ _ _ h _=>h) h
 have h2:useP is i c≠0:=bit_ne hr.2
 cases hp:is[i]? with
 | none=>unfold useP at h2;rw [hp] at h2;exact absurd rfl h2
 | some p=>
  have h3:ofGs (inGs p.canc p.inp p.out) c≠0:=by unfold useP at h2;rw [hp] at h2;exact h2
  exact List.mem_flatMap.2 ⟨p,List.mem_of_getElem? hp,ofGs_sup h3⟩
def allIds (is:List PI):List Nat:=is.flatMap (fun p=>(gsOf p.ops).map G.id) ++ is.flatMap (fun p=>(outGs p.out).map G.id) ++ is.flatMap fun p=>(inGs p.canc p.inp p.out).map G.id
theorem len_flat {α β : Type} (f:α → List β) (l:List α):(l.flatMap f).length=sumL (fun a=>(f a).length) l:=by
 unfold sumL
 exact List.length_flatMap
theorem allIds_len (is:List PI):(allIds is).length=sumL (fun p=>(gsOf p.ops).length) is+sumL (fun p=>(outGs p.out).length) is+sumL (fun p=>(inGs p.canc p.inp p.out).length) is:=by
 unfold allIds
 rw [List.length_append,List.length_append,len_flat,len_flat,len_flat]
 simp only [List.length_map]
theorem told_ids {is:List PI} {sc:Nat→List (Option Nat)} {k v:Nat} (h:toldOf (addsP is k) (edgesP is sc k) v):v∈allIds is:=by
 unfold allIds
 rcases h with ⟨p,hp,g,hg,_,rfl⟩ | ⟨e,⟨i,p,g,hp,hg,_,h1,_,_,b,hb,_⟩,rfl | rfl⟩
 ·exact List.mem_append_left _ (List.mem_append_left _ (List.mem_flatMap.2 ⟨p,hp,List.mem_map.2 ⟨g,hg,rfl⟩⟩))
 ·rw [h1]
  exact List.mem_append_left _ (List.mem_append_right _ (List.mem_flatMap.2 ⟨p,List.mem_of_getElem? hp,List.mem_map.2 ⟨g,hg,rfl⟩⟩))
 ·exact List.mem_append_right _ (live_sup hb)
theorem ColorP.told {is:List PI} {sc:Nat→List (Option Nat)} {k:Nat} {f:Nat→Option Nat} (h:ColorP is sc k (some f)) {v:Nat} (hv:f v≠none):isV v=true∧toldOf (addsP is k) (edgesP is sc k) v:=by
 obtain ⟨E,rem,h1,h2,h3,h4⟩:=h
 obtain ⟨_,h5,_⟩:=color_spec _ rem _ f h2 h4.symm
 refine (h3 v).1 (Classical.byContradiction fun hn=>?_)
 exact hv (h5 v hn)
theorem few_keys {is:List PI} {sc:Nat→List (Option Nat)} {fk:Nat→Nat→Option Nat} {f:Nat→Option Nat} (hc:∀ k,kindsP is k→ColorP is sc k (some (fk k))) (hf:∀ v,f v≠none→kindsP is (kindOf v)∧f v=fk (kindOf v) v) (D:List Nat) (hD:D.Nodup) (hn:∀ v∈D,f v≠none):D.length≤(allIds is).length:=by
 refine nodup_le hD fun v hv=>?_
 obtain ⟨h1,h2⟩:=hf v (hn v hv)
 exact told_ids ((hc _ h1).told (by rw [← h2];exact hn v hv)).2
theorem graph_of {fs:Nat→Option Nat} {ns:List PN} {nds:List Nd} {rs:List Rec} {cms:List (Nat × List ByteArray)} (hM:Mt fs ns nds rs cms) {t:ByteArray→Option Nat} (ht:ltRun nds=some ⟨t,[]⟩):
  ∃ s,lpRun ns=some s∧s.pend=[]∧s.n=rs.length∧(∀ (k:Nat) (p:PI) (r:Rec),(insP ns)[k]? = some p→rs[k]? = some r→succK t (rs.map (·.b)) k r.i r.ops=(succP s.t s.n k p).map fun l=>l.map (blk (rs.map (·.b)))):=by
 obtain ⟨h1,h2⟩:=lp_run hM
 cases hl:lpRun ns with
 | none=>rw [h1 hl] at ht;cases ht
 | some s=>
  obtain ⟨t',g1,g2,g3,g4⟩:=h2 s hl
  rw [ht] at g1
  injection g1 with g1
  injection g1 with e1 e2
  subst e1
  refine ⟨s,rfl,e2.symm,g2,fun k p r hp hr=>?_⟩
  have:=succ_plain (hM.match_.2 k p r hp hr) (bs:=rs.map (·.b)) g3 (fun x i hx=>by rw [List.length_map];exact g4 x i hx) k
  rw [List.length_map,← g2] at this
  exact this
theorem graph_none {fs:Nat→Option Nat} {ns:List PN} {nds:List Nd} {rs:List Rec} {cms:List (Nat × List ByteArray)} (hM:Mt fs ns nds rs cms) (ht:∀ t,ltRun nds≠some ⟨t,[]⟩) (sc:Nat→List (Option Nat)):¬GraphP ns sc:=by
 rintro ⟨s,h1,h2,_⟩
 obtain ⟨t',g1,_⟩:=(lp_run hM).2 s h1
 rw [h2] at g1
 exact ht t' g1
theorem graph_none2 {fs:Nat→Option Nat} {ns:List PN} {nds:List Nd} {rs:List Rec} {cms:List (Nat × List ByteArray)} (hM:Mt fs ns nds rs cms) {t:ByteArray→Option Nat} (ht:ltRun nds=some ⟨t,[]⟩) {k:Nat} {r:Rec} (hr:rs[k]? = some r) (hs:succK t (rs.map (·.b)) k r.i r.ops=none) (sc:Nat→List (Option Nat)):¬GraphP ns sc:=by
 rintro ⟨s,h1,h2,h3⟩
 obtain ⟨s',g1,g2,g3,g4⟩:=graph_of hM ht
 rw [h1] at g1
 injection g1 with g1
 subst g1
 have hlt:k < (insP ns).length:=by rw [hM.match_.1];exact (List.getElem?_eq_some_iff.1 hr).1
 have hp:=List.getElem?_eq_getElem hlt
 rw [g4 k _ r hp hr,h3 k _ hp] at hs
 cases hs
theorem graph_some {fs:Nat→Option Nat} {ns:List PN} {nds:List Nd} {rs:List Rec} {cms:List (Nat × List ByteArray)} (hM:Mt fs ns nds rs cms) {t:ByteArray→Option Nat} (ht:ltRun nds=some ⟨t,[]⟩) {sc:Nat→List (Option Nat)} (hs:∀ (k:Nat) (r:Rec),rs[k]? = some r→succK t (rs.map (·.b)) k r.i r.ops=some (sc k)):
  ∃ scP,GraphP ns scP∧∀ k,k < rs.length→sc k=(scP k).map (blk (rs.map (·.b))):=by
 obtain ⟨s,g1,g2,g3,g4⟩:=graph_of hM ht
 have key:∀ (k:Nat) (p:PI),(insP ns)[k]? = some p→∃ l,succP s.t s.n k p=some l∧sc k=l.map (blk (rs.map (·.b))):=fun k p hp=>by
  have hlt:k < rs.length:=by rw [← hM.match_.1];exact (List.getElem?_eq_some_iff.1 hp).1
  have hr:=List.getElem?_eq_getElem hlt
  have h1:=hs k _ hr
  rw [g4 k p _ hp hr] at h1
  obtain ⟨l,h2,h3⟩:=Option.map_eq_some_iff.1 h1
  exact ⟨l,h2,h3.symm⟩
 refine ⟨fun k=>(((insP ns)[k]?).bind fun p=>succP s.t s.n k p).getD [],⟨s,g1,g2,fun k p hp=>?_⟩,fun k hk=>?_⟩
 ·obtain ⟨l,h1,_⟩:=key k p hp
  simp [hp,h1]
 ·have hlt:k < (insP ns).length:=by rw [hM.match_.1];exact hk
  have hp:=List.getElem?_eq_getElem hlt
  obtain ⟨l,h1,h2⟩:=key k _ hp
  simp only [hp,Option.bind_some,h1,Option.getD_some]
  exact h2
end
section
open Go Go.RowKit Go.MapKept Bth
set_option maxRecDepth 100000
theorem insP_mem {ns:List PN} {p:PI} (h:p∈insP ns):∃ n∈ns,n.ins=p:=by
 obtain ⟨n,h1,h2⟩:=List.mem_map.1 h
 exact ⟨n,(List.mem_filter.1 h1).1,h2⟩
theorem Mt.each {fs:Nat→Option Nat} {ns:List PN} {nds:List Nd} {rs:List Rec} {cms:List (Nat × List ByteArray)} (hM:Mt fs ns nds rs cms) {r:Rec} (hr:r∈rs):∃ p∈insP ns,RMatch fs p r:=by
 obtain ⟨hl,hm⟩:=hM.match_
 obtain ⟨k,hk⟩:=List.mem_iff_getElem?.1 hr
 have hlt:k < (insP ns).length:=by rw [hl];exact (List.getElem?_eq_some_iff.1 hk).1
 exact ⟨_,List.getElem_mem hlt,hm k _ r (List.getElem?_eq_getElem hlt) hk⟩
structure Lens (r:Rec):Prop where
 ok:InsOk r
 ops:r.ops.length≤1048576
theorem lens_of {w w0:World} {wb B:Nat} {fs:Nat→Option Nat} (hW:WAt w wb fs) {s:SV} {ns:List PN} {nds:List Nd} {rs:List Rec} {cms:List (Nat × List ByteArray)} (hM:Mt fs ns nds rs cms) (hN:NodesAt w0 B s ns) (h:AFOk ns):∀ r∈rs,Lens r:=by
 intro r hr
 obtain ⟨p,hp,hm⟩:=hM.each hr
 obtain ⟨n,hn,rfl⟩:=insP_mem hp
 have hf:=(hN.each n hn).ins.few
 have h1:=pOps_len hm.ops
 have h2:=pOps_len hm.inp
 have h3:=pOps_len hm.out
 have h4:=(hm.regs hW (h.ops _ hp)).2.2.1
 refine ⟨⟨by omega,by omega,fun hc=>?_⟩,by omega⟩
 have h5:=h.canc _ hp (by rw [← hm.canc];exact hc)
 rw [← h4,List.length_map] at h5
 exact h5
theorem outs_sum {w:World} {wb:Nat} {fs:Nat→Option Nat} (hW:WAt w wb fs) {ns:List PN} {nds:List Nd} {rs:List Rec} {cms:List (Nat × List ByteArray)} (hM:Mt fs ns nds rs cms) (hp:∀ p∈insP ns,p.Ok):outsN rs rs.length=sumL (fun p=>(outGs p.out).length) (insP ns):=by
 unfold outsN sumL
 rw [List.take_length]
 congr 1
 obtain ⟨hl,hm⟩:=hM.match_
 refine List.ext_getElem? fun k=>?_
 rw [List.getElem?_map,List.getElem?_map]
 cases hr:rs[k]? with
 | none=>rw [List.getElem?_eq_none_iff] at hr;rw [List.getElem?_eq_none (by omega)];rfl
 | some r=>
  have hlt:k < (insP ns).length:=by rw [hl];exact (List.getElem?_eq_some_iff.1 hr).1
  have hpk:=List.getElem?_eq_getElem hlt
  rw [hpk,Option.map_some,Option.map_some,← ((hm k _ r hpk hr).regs hW (hp _ (List.getElem_mem hlt))).2.1,List.length_map]
theorem arin_of {w0 w:World} {wb:Nat} {fs:Nat→Option Nat} (hW:WAt w0 wb fs) {ns:List PN} {fb:Nat} {f:Fn} {nds:List Nd} {rs rs1:List Rec} {cms:List (Nat × List ByteArray)} {mm:Bool→Nat→Nat} {V:Sets} {sc scP:Nat→List (Option Nat)}
  (st:FState w fs ns fb f nds rs cms) (lv:Lv w rs mm V) (hl:nds.length≤1048576) (hlen:∀ r∈rs,Lens r) (h:AFOk ns) (hU:(flowOf rs1 sc).U=(flowP (insP ns) scP).U) (hn:(flowOf rs1 sc).n=rs.length) (hS:Sound (flowOf rs1 sc) V):
  ARIn w fs ns fb f nds rs cms mm V (flowP (insP ns) scP).U:=by
 have hM:=st.mt
 refine ⟨st,lv,hl,fun r hr=>⟨(hlen r hr).ok.2.1,(hlen r hr).ops⟩,fun r hr d hd=>?_,fun r hr d hd=>?_,fun i c hi hv=>?_,?_⟩
 ·obtain ⟨p,hp,hm⟩:=hM.each hr
  have:d.plain∈gsOf p.ops:=by rw [← (hm.regs hW (h.ops p hp)).1];exact List.mem_map_of_mem hd
  exact h.kinds p hp _ this
 ·obtain ⟨p,hp,hm⟩:=hM.each hr
  have:d.plain∈outGs p.out:=by rw [← (hm.regs hW (h.ops p hp)).2.1];exact List.mem_map_of_mem hd
  exact (hM.kinds hW h.ops d.kind).2 (h.outs p hp _ this)
 ·have h1:=hS.sup true i c (by rw [hn];exact hi) hv
  rw [hU] at h1
  refine ⟨h1,?_⟩
  obtain ⟨p,hp,h2⟩:=List.mem_flatMap.1 h1
  obtain ⟨g,hg,rfl⟩:=List.mem_map.1 h2
  refine G.id_lt ?_
  rcases inGs_mem hg with hg | hg
  ·exact gsOf_ok (h.ops p hp).inp g hg
  ·exact gsOf_ok (h.ops p hp).out g hg
 ·rw [outs_sum hW hM h.ops]
  have:(flowP (insP ns) scP).U.length=sumL (fun p=>(inGs p.canc p.inp p.out).length) (insP ns):=by
   show ((insP ns).flatMap fun p=>(inGs p.canc p.inp p.out).map G.id).length=_
   rw [len_flat]
   simp only [List.length_map]
  rw [this]
  exact h.few
theorem live_plain {w0:World} {wb:Nat} {fs:Nat→Option Nat} (hW:WAt w0 wb fs) {ns:List PN} {nds:List Nd} {rs:List Rec} {cms:List (Nat × List ByteArray)} (hM:Mt fs ns nds rs cms) (hp:∀ p∈insP ns,p.Ok) (hinj:∀ (j k:Nat) (a b:Rec),rs[j]? = some a→rs[k]? = some b→a.b=b.b→j=k)
  {sc scP:Nat→List (Option Nat)} (hsc:∀ k,k < rs.length→sc k=(scP k).map (blk (rs.map (·.b)))) {V:Sets} (hS:Sound (flowOf rs sc) V) (ho:∀ k,k < rs.length→closedOut (flowOf rs sc) V k) (hi:∀ k,k < rs.length→closedIn (flowOf rs sc) V k):
  ∀ i c b,i < rs.length→((V true i c).testBit b=true↔LiveOutP (insP ns) scP i c b):=by
 obtain ⟨h1,h2,h3,_,h5⟩:=flow_plain hW hM hp hinj hsc
 intro i c b hlt
 rw [(hS.exact ho hi hlt).2]
 have e1:(flowOf rs sc).reads=(flowP (insP ns) scP).reads:=by unfold Flow.reads;rw [h1,h2]
 have e2:(flowOf rs sc).writes=(flowP (insP ns) scP).writes:=by unfold Flow.writes;rw [h3]
 have e3:(flowOf rs sc).succ=(flowP (insP ns) scP).succ:=by funext i s;exact propext (h5 i s)
 rw [e1,e2,e3]
 exact Iff.rfl
theorem afres_of {w0 w:World} {wb:Nat} {fs:Nat→Option Nat} (hW:WAt w0 wb fs) {ns:List PN} {nds:List Nd} {rs:List Rec} {cms:List (Nat × List ByteArray)} (hM:Mt fs ns nds rs cms) (h:AFOk ns) {V:Sets} {scP:Nat→List (Option Nat)} (hG:GraphP ns scP)
  (hV:∀ i c b,i < rs.length→((V true i c).testBit b=true↔LiveOutP (insP ns) scP i c b)) {fb:Nat} {f:Fn} {e:Ending} {w':World} (hR:GivesRB w fb f rs V e w'):
  Fr (fun b=>b=fb) w w'∧((AFRes ns none∧∃ T v,e = .returned (.iface T v))∨∃ (u:Nat→Option Nat) (b:Nat),AFRes ns (some u)∧e = .returned .nilIface∧FnAt w' fb { f with al:=some b } ∧ IdMap w' b u∧w.heap.size≤b∧∀ D:List Nat,D.Nodup→(∀ v∈D,u v≠none)→D.length≤(allIds (insP ns)).length):=by
 obtain ⟨K,xs,hK,hA,hf,hR⟩:=hR
 have hc:∀ k∈K,∀ r,ColorOf (xs k) r→ColorP (insP ns) scP k r:=fun k hk r hr=>ColorP.of (hA k hk) hr (fun v=>hM.adds hW h.ops k v) (fun e=>hM.edges hW h.ops hV k e)
 have hK2:∀ k,k∈K↔kindsP (insP ns) k:=fun k=>(hK k).trans (hM.kinds hW h.ops k)
 refine ⟨hf,?_⟩
 rcases hR with ⟨⟨k,hk,h1⟩,h2⟩ | ⟨fk,b,h1,h2,h3,h4,h5⟩
 ·exact .inl ⟨.inr ⟨scP,k,hG,(hK2 k).1 hk,hc k hk _ h1⟩,h2⟩
 ·have hfk:∀ k,kindsP (insP ns) k→ColorP (insP ns) scP k (some (fk k)):=fun k hk=>hc k ((hK2 k).2 hk) _ (h1 k ((hK2 k).2 hk))
  refine .inr ⟨uni K fk,b,⟨scP,fk,hG,hfk,fun v=>⟨fun hk=>?_,fun hk=>?_⟩⟩,h2,h3,h4,h5,few_keys hfk fun v hv=>?_⟩
  ·unfold uni;rw [if_pos ((hK2 _).2 hk)]
  ·unfold uni;rw [if_neg (fun h=>hk ((hK2 _).1 h))]
  ·unfold uni at hv ⊢
   split at hv
   ·rename_i hk
    rw [if_pos hk]
    exact ⟨(hK2 _).1 hk,rfl⟩
   ·exact absurd rfl hv
def GivesAF (w:World) (ns:List PN) (e:Ending) (w':World):Prop:=
 Fr nope w w'∧((AFRes ns none∧e = .returned (.tuple #[.slice none 0 0,.bool false])) ∨
  ∃ (f:Nat→Option Nat) (A:Option Addr) (c:Nat) (l:List (Nat × Nat)),AFRes ns (some f)∧PairsOf f l∧l.length≤1000000000∧e = .returned (.tuple #[.slice A l.length c,.bool true])∧w'.ownsRow w.heap.size 100 2 (.slice A l.length c) l.length (l.flatMap pairV))
set_option maxHeartbeats 4000000 in
theorem AllocFn_calls (w:World) (s:SV) (ns:List PN) (hN:NodesAt w w.heap.size s ns) (h:AFOk ns):
  Calls Tryz.prog 16 #[.slice s.A s.n s.c] w (GivesAF w ns):=by
 have hfew:=hN.few
 go_enter Tryz.func16,Tryz.ntmps16
 go_wp2_with fail
 refine (newWorld_calls w).mono ?_
 rintro e w1 ⟨rfl,hW,hf1⟩
 have hN1:=hN.fr hf1 (fun _ _ x=>x)
 have hF:=function_calls w1 w.heap.size (fun _=>none) s ns hN1 hW
 have hl1:=hf1.size
 go_wp2_with fail
 refine hF.mono ?_
 rintro e w2 ⟨fs,hg,hW2,hf2,⟨fb,f,nds,rs,cms,hok,st,hfb,hbare,hfresh,rfl⟩ | ⟨hok,_⟩⟩
 rotate_left
 ·rw [h.ok] at hok;cases hok
 obtain ⟨A,c,hnn,_,_⟩:=own_slice st.nodes
 have hSn:Sl w2 A nds.length (nds.map Nd.val):=by have h:=st.nodes;rw [hnn] at h;exact own_Sl h
 have hnl:nds.length≤1048576:=by rw [st.mt.len];exact hfew
 have hLT:=LabelTarget_calls w2 fb f nds A c st.fn hnn hSn (by omega)
 have hwl:=lt_of_heap hW.1
 have hf02:Fr nope w w2:=hf1.then_new hf2 (fun x hx e=>by omega)
 have hsz2:=hf2.size
 unfold ptr at hLT ⊢
 have hfs3:∀ (w3:World) (mb:Nat),FnAt w3 fb { f with lt:=some mb } → Fr (fun b=>b=fb) w2 w3→FState w3 fs ns fb { f with lt:=some mb } nds rs cms:=fun w3 mb hv hf=>st.setFn hv rfl hf
 have htb:∀ t:ByteArray→Option Nat,ltRun nds=some ⟨t,[]⟩→∀ s b,t s=some b→∃ r∈rs,r.b=b:=by
  intro t ht s b hs
  have:=lt_targets ht s b hs
  rw [st.mt.insOf] at this
  obtain ⟨r,hr,e⟩:=List.mem_map.1 this
  exact ⟨r,hr,e⟩
 have hrb:∀ r∈rs,fb < r.b:=fun r hr=>Nat.lt_of_lt_of_le (st.recs r hr).2.1 (st.recs r hr).1.own.b1
 replace hfs3:=Lib.hid hfs3
 replace htb:=Lib.hid htb
 replace hrb:=Lib.hid hrb
 go_wp2_with fail
 refine hLT.mono ?_
 rintro e w3 (⟨t,mb,ht,rfl,hfn3,hM3,hmb,hf3⟩ | ⟨ht,⟨T,v,rfl⟩,hf3⟩)
 rotate_left
 ·go_wp2
  go_ret2
  exact ⟨hf02.then hf3,.inl ⟨.inl (graph_none st.mt ht),rfl⟩⟩
 have st3:=hfs3.out _ _ hfn3 hf3
 have hC:=CFG_calls w3 fs ns fb { f with lt:=some mb } nds rs cms mb t st3 hfresh rfl hM3 hnl (htb.out _ ht)
 have hf03:Fr nope w w3:=hf02.then_new hf3 (fun x hx e=>by omega)
 unfold ptr at hC
 have hsz3:=hf3.size
 go_wp2_with fail
 refine hC.mono ?_
 rintro e w4 ⟨hf4,hM4,⟨sc,rs1,X,hsc,rfl,hlk,st4,L4,hX⟩ | ⟨⟨k,r,hr,hno⟩,T,v,rfl⟩⟩
 rotate_left
 ·go_wp2
  go_ret2
  exact ⟨hf03.then_new hf4 (fun x hx ⟨r,hr,e⟩=>by have:=hrb.out r hr;omega),.inl ⟨.inl (graph_none2 st.mt ht hr hno),rfl⟩⟩
 have hrs1:rs1.length=rs.length:=hlk.1
 have hM1:=st4.mt
 have hbs1:=hlk.bs
 obtain ⟨scP,hG,hblk⟩:=graph_some st.mt ht hsc
 have hinj1:∀ (j k:Nat) (a b:Rec),rs1[j]? = some a→rs1[k]? = some b→a.b=b.b→j=k:=fun j k a b h1 h2 h3=>st4.inj h1 h2 h3
 have hblk1:∀ k,k < rs1.length→sc k=(scP k).map (blk (rs1.map (·.b))):=fun k hk=>by rw [hbs1];exact hblk k (by omega)
 have hpl:=flow_plain hW2 hM1 h.ops hinj1 hblk1
 have hLv:=Liveness_calls w4 fs ns fb { f with lt:=some mb } nds rs1 cms w3.heap.size X sc st4 L4 (fun k hk=>hX.1 k (by omega)) (fun r hr=>(lens_of hW2 hM1 hN h r hr).ok)
  (fun k b hk hb=>by
   have hk':k < rs.length:=by omega
   have h1:=succK_mem (hsc k _ (List.getElem?_eq_getElem hk')) hb fun s b hs=>by
    obtain ⟨r,hr,e⟩:=htb.out _ ht s b hs
    exact List.mem_map.2 ⟨r,hr,e⟩
   rw [← hbs1] at h1
   obtain ⟨r,hr,e⟩:=List.mem_map.1 h1
   exact ⟨r,hr,e⟩)
  (fun k hk=>succK_le (hsc k _ (List.getElem?_eq_getElem (show k < rs.length by omega)))) hnl
 have hrb1:∀ r∈rs1,fb < r.b:=fun r hr=>Nat.lt_of_lt_of_le (st4.recs r hr).2.1 (st4.recs r hr).1.own.b1
 have hf04:Fr nope w w4:=hf03.then_new hf4 (fun x hx ⟨r,hr,e⟩=>by have:=hrb.out r hr;omega)
 have hsz4:=hf4.size
 replace hrb1:=Lib.hid hrb1
 replace hpl:=Lib.hid hpl
 replace hinj1:=Lib.hid hinj1
 replace hblk1:=Lib.hid hblk1
 replace hblk:=Lib.hid hblk
 replace hsc:=Lib.hid hsc
 replace hbs1:=Lib.hid hbs1
 replace hrs1:=Lib.hid hrs1
 clear hX
 unfold ptr at hLv
 go_wp2_with fail
 refine hLv.mono ?_
 rintro e w5 ⟨rfl,hf5,rs2,mm,V,hlk2,st5,_,lv5,hS,ho,hi⟩
 have hV1:=live_plain hW2 hM1 h.ops hinj1.out hblk1.out hS ho hi
 have hrs2:rs2.length=rs1.length:=hlk2.1
 have hA:=arin_of hW2 st5 lv5 hnl (lens_of hW2 st5.mt hN h) h hpl.out.2.2.2.1 (by show rs1.length=rs2.length;rw [hrs2]) hS
 have hR:=AllocRegs_calls w5 fs ns fb { f with lt:=some mb } nds rs2 cms mm V _ hA
 have hM2:=st5.mt
 have hf05:Fr nope w w5:=hf04.then_new hf5 (fun x hx ⟨r,hr,e⟩=>by have:=hrb1.out r hr;omega)
 have hsz5:=hf5.size
 have hV2:∀ i c b,i < rs2.length→((V true i c).testBit b=true↔LiveOutP (insP ns) scP i c b):=fun i c b hi=>hV1 i c b (by omega)
 clear hV1 ho hi hS
 replace hV2:=Lib.hid hV2
 replace hrs2:=Lib.hid hrs2
 replace hlk2:=Lib.hid hlk2
 unfold ptr at hR
 go_wp2_with fail
 refine hR.mono ?_
 intro e w6 hGR
 obtain ⟨hf6,⟨hno,T,v,rfl⟩ | ⟨u,b,hres,rfl,hfn6,hid6,hb6,hkeys⟩⟩:=afres_of hW2 hM2 h hG hV2.out hGR
 ·go_wp2
  go_ret2
  exact ⟨hf05.then_new hf6 (fun x hx e=>by omega),.inl ⟨hno,rfl⟩⟩
 have hP:=plainAlloc_calls w6 b u hid6 _ hkeys (by rw [allIds_len];exact h.few2)
 have hf06:Fr nope w w6:=hf05.then_new hf6 (fun x hx e=>by omega)
 have hsz6:=hf6.size
 have hc7:=FnAt.c7 hfn6
 have hal:=allIds_len (insP ns)
 simp only at hc7
 clear hGR
 replace hkeys:=Lib.hid hkeys
 go_wp2_with fail
 refine hP.mono ?_
 rintro e w7 ⟨hf7,A7,c7,l,hpr,rfl,hown⟩
 go_wp2
 go_ret2
 refine ⟨hf06.then hf7,.inr ⟨u,A7,c7,l,hres,hpr,?_,rfl,own_le hown (by omega)⟩⟩
 have hlen:l.length≤(allIds (insP ns)).length:=by
  have h1:(l.map (·.1)).Nodup:=by
   have:=hpr.2.imp (S:=fun a b:Nat × Nat=>a.1≠b.1) fun {a b} hab=>by omega
   exact List.pairwise_map.2 this
  have h2:=hkeys.out (l.map (·.1)) h1 fun v hv=>by
   obtain ⟨p,hp,rfl⟩:=List.mem_map.1 hv
   rw [(hpr.1 p).1 hp];simp
  rwa [List.length_map] at h2
 exact Nat.le_trans hlen (by rw [hal];exact h.few2)
end
section
open Go Go.RowKit Bth
set_option maxRecDepth 100000
def Found (w:World) (g:G) (o:Option R):Prop:=o.isSome=okG g∧∀ r,o=some r→r.plain=g∧r.Ok∧r.At w
def GivesPR (w:World) (g:G) (e:Ending) (w':World):Prop:=∃ o:Option R,e = .returned (optV o)∧Fr nope w w'∧Found w' g o
theorem Found.fr {w w':World} {g:G} {o:Option R} (h:Found w g o) (hf:Fr nope w w'):Found w' g o:=⟨h.1,fun r hr=>⟨(h.2 r hr).1,(h.2 r hr).2.1,(h.2 r hr).2.2.nope hf⟩⟩
def FoundID (w:World) (id s:Nat) (o:Option R):Prop:=(isV id=true→o=none)∧(isV id=false→Found w ⟨false,kindOf id,indexOf id,s⟩ o)
theorem FoundID.fr {w w':World} {id s:Nat} {o:Option R} (h:FoundID w id s o) (hf:Fr nope w w'):FoundID w' id s o:=⟨h.1,fun hv=>(h.2 hv).fr hf⟩
def bindG (f:Nat→Option Nat) (g:G):G:=
 if g.virt then match f g.id with
  | none=>g
  | some p=>if isV p then g else if okG ⟨false,kindOf p,indexOf p,g.spec⟩ then ⟨false,kindOf p,indexOf p,g.spec⟩ else g
 else g
def Bound (w:World) (f:Nat→Option Nat) (r r':R):Prop:=r'.plain=bindG f r.plain∧r'.Ok∧r'.At w
theorem Bound.fr {w w':World} {f:Nat→Option Nat} {r r':R} (h:Bound w f r r') (hf:Fr nope w w'):Bound w' f r r':=⟨h.1,h.2.1,h.2.2.nope hf⟩
def small (f:Nat→Option Nat):Prop:=∀ v p,f v=some p→p < 4294967296
end
section
open Go Go.RowKit Bth
set_option maxRecDepth 100000
def BoundX (w:World) (f:Nat→Option Nat):Option R→Option R→Prop
 | none,none=>True
 | some r,some r'=>Bound w f r r'
 | _,_=>False
theorem BoundX.fr {w w':World} {f:Nat→Option Nat} {r r':Option R} (h:BoundX w f r r') (hf:Fr nope w w'):BoundX w' f r r':=by
 cases r<;>cases r'
 ·trivial
 ·exact h
 ·exact h
 ·exact Bound.fr h hf
def famT:List TypeId:=[210]
theorem Bound.frT {S:Nat→Prop} {w w':World} {f:Nat→Option Nat} {r r':R} (h:Bound w f r r') (hf:Fr S w w') (hs:NoT famT w S):Bound w' f r r':=⟨h.1,h.2.1,h.2.2.frT hf hs (by decide)⟩
theorem BoundX.frT {S:Nat→Prop} {w w':World} {f:Nat→Option Nat} {r r':Option R} (h:BoundX w f r r') (hf:Fr S w w') (hs:NoT famT w S):BoundX w' f r r':=by
 cases r<;>cases r'
 ·trivial
 ·exact h
 ·exact h
 ·exact Bound.frT h hf hs
def BoundM (w:World) (f:Nat→Option Nat) (m m':M):Prop:=∃ x y,m' = { m with base:=x,index:=y } ∧ BoundX w f m.base x∧BoundX w f m.index y
def BoundO (w:World) (f:Nat→Option Nat):O→O→Prop
 | .reg r,.reg r'=>Bound w f r r'
 | .mem m,.mem m'=>BoundM w f m m'
 | .con c,.con c'=>c'=c
 | .label s,.label s'=>s'=s
 | .rel n,.rel n'=>n'=n
 | _,_=>False
end
end Go.Proofs.YtbgblfiapecioaaGreat
