/- Part of the proof of a statement about pub-berthage: what its texts have in common. -/
import Derived.Test.YtpbeedabmjmdmaaGreatDoorP23
namespace Go.Proofs.YtpbeedabmjmdmaaGreatDoor
section
open Go Go.RowKit Bth
set_option maxRecDepth 100000
structure LP where
 t:ByteArray→Option Nat
 pend:List ByteArray
 n:Nat
open Classical in
noncomputable def lpStep (s:LP) (p:PN):Option LP:=
 if p.kind=1 then some ⟨fun x=>if x∈s.pend then some s.n else s.t x,[],s.n+1⟩
 else if p.kind=2 then (if (s.t p.label).isSome then none else some { s with pend:=s.pend ++ [p.label] }) else some s
noncomputable def lpRun (ns:List PN):Option LP:=ns.foldlM lpStep ⟨fun _=>none,[],0⟩
theorem lpRun_snoc (ns:List PN) (p:PN):lpRun (ns ++ [p])=(lpRun ns).bind fun s=>lpStep s p:=by
 unfold lpRun
 rw [List.foldlM_append]
 cases List.foldlM lpStep ⟨fun _=>none,[],0⟩ ns<;>simp
def insP (ns:List PN):List PI:=(ns.filter fun p=>p.kind == 1).map PN.ins
theorem Mt.match_ {fs:Nat→Option Nat} {ns:List PN} {nds:List Nd} {rs:List Rec} {cms:List (Nat × List ByteArray)} (h:Mt fs ns nds rs cms):(insP ns).length=rs.length∧∀ (k:Nat) (p:PI) (r:Rec),(insP ns)[k]? = some p→rs[k]? = some r→RMatch fs p r:=by
 induction h with
 | nil=>exact ⟨rfl,by simp [insP]⟩
 | @ins ns nds rs cms n r _ h1 h2 ih=>
  have e:insP (ns ++ [n])=insP ns ++ [n.ins]:=by unfold insP;rw [List.filter_append,List.map_append];simp [h1]
  rw [e]
  refine ⟨by simp [ih.1],fun k p r' hk hr=>?_⟩
  by_cases hlt:k < rs.length
  ·rw [List.getElem?_append_left (by rw [ih.1];exact hlt)] at hk
   rw [List.getElem?_append_left hlt] at hr
   exact ih.2 k p r' hk hr
  ·have hkl:=(List.getElem?_eq_some_iff.1 hr).1
   have hke:k=rs.length:=by simp at hkl;omega
   subst hke
   have hk':(insP ns ++ [n.ins])[(insP ns).length]? = some p:=by rw [ih.1];exact hk
   rw [List.getElem?_concat_length] at hk' hr
   injection hk' with hk'
   injection hr with hr
   subst hk' hr
   exact h2
 | @label ns nds rs cms n _ h1 ih=>
  have e:insP (ns ++ [n])=insP ns:=by unfold insP;rw [List.filter_append];simp [h1]
  rw [e];exact ih
 | @comment ns nds rs cms n c _ h1 ih=>
  have e:insP (ns ++ [n])=insP ns:=by unfold insP;rw [List.filter_append];simp [h1]
  rw [e];exact ih
open Classical in
theorem lp_run {fs:Nat→Option Nat} {ns:List PN} {nds:List Nd} {rs:List Rec} {cms:List (Nat × List ByteArray)} (h:Mt fs ns nds rs cms):
  (lpRun ns=none→ltRun nds=none)∧∀ s,lpRun ns=some s→∃ t,ltRun nds=some ⟨t,s.pend⟩∧s.n=rs.length∧(∀ x,t x=(s.t x).bind fun i=>(rs.map (·.b))[i]?)∧∀ x i,s.t x=some i→i < rs.length:=by
 have hsnoc:∀ (l:List Nd) (nd:Nd),ltRun (l ++ [nd])=(ltRun l).bind fun s=>ltStep s nd:=by
  intro l nd
  unfold ltRun
  rw [List.foldlM_append]
  cases List.foldlM ltStep ⟨fun _=>none,[]⟩ l<;>simp
 induction h with
 | nil=>exact ⟨fun h=>(by cases h),fun s h=>by injection h with h;subst h;exact ⟨fun _=>none,rfl,rfl,fun _=>rfl,fun x i h=>(by cases h)⟩⟩
 | @ins ns nds rs cms n r hM h1 h2 ih=>
  rw [lpRun_snoc,hsnoc]
  cases hl:lpRun ns with
  | none=>rw [ih.1 hl];exact ⟨fun _=>rfl,fun s h=>(by cases h)⟩
  | some s0=>
   obtain ⟨t,g1,g2,g3,g4⟩:=ih.2 s0 hl
   rw [g1]
   simp only [Option.bind_some,lpStep,if_pos h1,ltStep]
   refine ⟨fun h=>(by cases h),fun s h=>?_⟩
   injection h with h
   subst h
   refine ⟨_,rfl,by simp [g2],fun x=>?_,fun x i hx=>?_⟩
   ·show settle s0.pend r.b t x=(if x∈s0.pend then some s0.n else s0.t x).bind fun i=>((rs ++ [r]).map (·.b))[i]?
    unfold settle
    by_cases hx:x∈s0.pend
    ·rw [if_pos hx,if_pos hx,g2];simp
    ·rw [if_neg hx,if_neg hx,g3]
     cases hs:s0.t x with
     | none=>rfl
     | some i=>
      simp only [Option.bind_some]
      rw [List.map_append,List.getElem?_append_left (by rw [List.length_map];exact g4 x i hs)]
   ·simp only at hx
    split at hx
    ·injection hx with hx;rw [List.length_append,← hx,g2];simp
    ·have:=g4 x i hx;rw [List.length_append];omega
 | @label ns nds rs cms n hM h1 ih=>
  rw [lpRun_snoc,hsnoc]
  cases hl:lpRun ns with
  | none=>rw [ih.1 hl];exact ⟨fun _=>rfl,fun s h=>(by cases h)⟩
  | some s0=>
   obtain ⟨t,g1,g2,g3,g4⟩:=ih.2 s0 hl
   rw [g1]
   have hk:¬n.kind=1:=by omega
   have hs:(t n.label).isSome=(s0.t n.label).isSome:=by
    rw [g3]
    cases hx:s0.t n.label with
    | none=>rfl
    | some i=>
     have:=g4 _ i hx
     simp only [Option.bind_some,Option.isSome_some]
     rw [List.getElem?_eq_getElem (by rw [List.length_map];exact this)];rfl
   simp only [Option.bind_some,lpStep,if_neg hk,if_pos h1,ltStep,hs]
   split
   ·exact ⟨fun _=>rfl,fun s h=>(by cases h)⟩
   ·refine ⟨fun h=>(by cases h),fun s h=>?_⟩
    injection h with h
    subst h
    exact ⟨t,rfl,g2,g3,g4⟩
 | @comment ns nds rs cms n c hM h1 ih=>
  rw [lpRun_snoc,hsnoc]
  cases hl:lpRun ns with
  | none=>rw [ih.1 hl];exact ⟨fun _=>rfl,fun s h=>(by cases h)⟩
  | some s0=>
   obtain ⟨t,g1,g2,g3,g4⟩:=ih.2 s0 hl
   rw [g1]
   have hk:¬n.kind=1:=by omega
   have hk2:¬n.kind=2:=by omega
   simp only [Option.bind_some,lpStep,if_neg hk,if_neg hk2,ltStep]
   refine ⟨fun h=>(by cases h),fun s h=>?_⟩
   injection h with h
   subst h
   exact ⟨t,rfl,g2,g3,g4⟩
def targetP (ops:List PO):Option ByteArray:=
 match ops with
 | p :: _=>if p.kind=4 then some p.label else none
 | []=>none
def succP (t:ByteArray→Option Nat) (n k:Nat) (p:PI):Option (List (Option Nat)):=
 (if p.br then (targetP p.ops).bind fun s=>(t s).map fun b=>[some b] else some []).map fun l=>l ++ (if p.term || (p.br && !p.cond) then [] else [if k+1 < n then some (k+1) else none])
theorem target_plain {fs:Nat→Option Nat} {ps:List PO} {os:List O} (h:pOps fs ps=some os):targetOf true os=targetP ps:=by
 cases ps with
 | nil=>simp only [pOps,Option.some.injEq] at h;subst h;rfl
 | cons p ps=>
  simp only [pOps] at h
  obtain ⟨o,e1,e2⟩:=Option.bind_eq_some_iff.1 h
  obtain ⟨os',_,rfl⟩:=Option.map_eq_some_iff.1 e2
  unfold opOf at e1
  split at e1
  ·rename_i h1
   obtain ⟨r,_,rfl⟩:=Option.map_eq_some_iff.1 e1
   simp [targetOf,targetP,h1]
  split at e1
  ·rename_i h1
   obtain ⟨r,_,rfl⟩:=Option.map_eq_some_iff.1 e1
   simp [targetOf,targetP,h1]
  split at e1
  ·rename_i h1
   obtain ⟨r,_,rfl⟩:=Option.map_eq_some_iff.1 e1
   simp [targetOf,targetP,h1]
  split at e1
  ·rename_i h1
   injection e1 with e1;subst e1
   simp [targetOf,targetP,h1]
  split at e1
  ·rename_i h1
   injection e1 with e1;subst e1
   simp [targetOf,targetP,h1]
  ·cases e1
def blk (bs:List Nat) (o:Option Nat):Option Nat:=o.bind fun i=>bs[i]?
theorem succ_plain {fs:Nat→Option Nat} {p:PI} {r:Rec} (h:RMatch fs p r) {t:ByteArray→Option Nat} {tI:ByteArray→Option Nat} {bs:List Nat} (ht:∀ x,t x=(tI x).bind fun i=>bs[i]?) (hlt:∀ x i,tI x=some i→i < bs.length) (k:Nat):
  succK t bs k r.i r.ops=(succP tI bs.length k p).map fun l=>l.map (blk bs):=by
 unfold succK succP
 rw [target_plain h.ops,h.br,h.term,h.cond]
 have hn:([bs[k+1]?]:List (Option Nat))=[if k+1 < bs.length then some (k+1) else none].map (blk bs):=by
  simp only [List.map_cons,List.map_nil,blk]
  split
  ·rfl
  ·rename_i hh;rw [List.getElem?_eq_none (by omega)];rfl
 have hx:(if p.br=true then (targetP p.ops).bind fun s=>(t s).map fun b=>[some b] else some [])=((if p.br=true then (targetP p.ops).bind fun s=>(tI s).map fun b=>[some b] else some []).map fun l=>l.map (blk bs)):=by
  split
  ·cases targetP p.ops with
   | none=>rfl
   | some s=>
    simp only [Option.bind_some,ht]
    cases hi:tI s with
    | none=>rfl
    | some i=>
     have:=hlt s i hi
     simp [blk,List.getElem?_eq_getElem this]
  ·rfl
 rw [hx]
 cases (if p.br=true then (targetP p.ops).bind fun s=>(tI s).map fun b=>[some b] else some []) with
 | none=>rfl
 | some l=>
  simp only [Option.map_some,List.map_append]
  congr 2
  split
  ·rfl
  ·exact hn
def ofGs (gs:List G):Nat→Nat:=gs.foldl (fun F g=>orM F g.id g.spec) (fun _=>0)
theorem ofRegs_plain (rs:List R):ofRegs rs=ofGs (rs.map R.plain):=by
 unfold ofRegs ofGs
 rw [List.foldl_map]
 rfl
def useP (is:List PI) (k:Nat):Nat→Nat:=match is[k]? with
 | some p=>ofGs (inGs p.canc p.inp p.out)
 | none=>fun _=>0
def defP (is:List PI) (k:Nat):Nat→Nat:=match is[k]? with
 | some p=>ofGs (outGs p.out)
 | none=>fun _=>0
def flowP (is:List PI) (sc:Nat→List (Option Nat)):Flow:=
 { n:=is.length,use:=useP is,df:=defP is,next:=fun k s=>some s∈sc k,U:=is.flatMap fun p=>(inGs p.canc p.inp p.out).map G.id }
structure PI.Ok (p:PI):Prop where
 ops:∀ q∈p.ops,q.Ok
 inp:∀ q∈p.inp,q.Ok
 out:∀ q∈p.out,q.Ok
theorem RMatch.regs {w:World} {wb:Nat} {fs:Nat→Option Nat} (hW:WAt w wb fs) {p:PI} {r:Rec} (h:RMatch fs p r) (hp:p.Ok):(regsOf r.ops).map R.plain=gsOf p.ops∧(outRegs r.out).map R.plain=outGs p.out∧(regsOf r.inp).map R.plain=gsOf p.inp∧(inRegs r.i.canc r.inp r.out).map R.plain=inGs p.canc p.inp p.out:=by
 refine ⟨(pOps_regs hW hp.ops h.ops).1,(pOps_regs hW hp.out h.out).2.1,(pOps_regs hW hp.inp h.inp).1,?_⟩
 rw [h.canc]
 exact inRegs_plain hW _ hp.inp hp.out h.inp h.out
theorem map_flat {α β γ : Type} {f:α → List γ} {g:β → List γ} : ∀ {l:List α} {m:List β},l.length=m.length→(∀ (k:Nat) (a:α) (b:β),l[k]? = some a→m[k]? = some b→f a=g b)→l.flatMap f=m.flatMap g
 | [],[],_,_=>rfl
 | [],_ :: _,h,_=>by simp at h
 | _ :: _,[],h,_=>by simp at h
 | a :: l,b :: m,h,hk=>by
  rw [List.flatMap_cons,List.flatMap_cons,hk 0 a b rfl rfl,map_flat (by simpa using h) fun k x y h1 h2=>hk (k+1) x y h1 h2]
theorem flow_plain {w:World} {wb:Nat} {fs:Nat→Option Nat} (hW:WAt w wb fs) {ns:List PN} {nds:List Nd} {rs:List Rec} {cms:List (Nat × List ByteArray)} (hM:Mt fs ns nds rs cms) (hp:∀ p∈insP ns,p.Ok) (hinj:∀ (j k:Nat) (a b:Rec),rs[j]? = some a→rs[k]? = some b→a.b=b.b→j=k)
  {sc scP:Nat→List (Option Nat)} (hsc:∀ k,k < rs.length→sc k=(scP k).map (blk (rs.map (·.b)))):
  (flowOf rs sc).n=(flowP (insP ns) scP).n∧(flowOf rs sc).use=(flowP (insP ns) scP).use∧(flowOf rs sc).df=(flowP (insP ns) scP).df∧(flowOf rs sc).U=(flowP (insP ns) scP).U∧∀ i s,(flowOf rs sc).succ i s↔(flowP (insP ns) scP).succ i s:=by
 obtain ⟨hl,hr⟩:=hM.match_
 have hat:∀ (k:Nat) (r:Rec),rs[k]? = some r→∃ p,(insP ns)[k]? = some p∧RMatch fs p r∧p.Ok:=fun k r hk=>by
  have hlt:k < (insP ns).length:=by rw [hl];exact (List.getElem?_eq_some_iff.1 hk).1
  exact ⟨_,List.getElem?_eq_getElem hlt,hr k _ r (List.getElem?_eq_getElem hlt) hk,hp _ (List.getElem_mem hlt)⟩
 have hno:∀ k,rs[k]? = none→(insP ns)[k]? = none:=fun k hk=>by
  rw [List.getElem?_eq_none_iff] at hk ⊢;omega
 refine ⟨hl.symm,?_,?_,?_,fun i s=>?_⟩
 ·funext k
  show useOf rs k=useP (insP ns) k
  unfold useOf useP
  cases hk:rs[k]? with
  | none=>rw [hno k hk]
  | some r=>
   obtain ⟨p,h1,h2,h3⟩:=hat k r hk
   rw [h1]
   show ofRegs (inRegs r.i.canc r.inp r.out)=ofGs (inGs p.canc p.inp p.out)
   rw [ofRegs_plain,(h2.regs hW h3).2.2.2]
 ·funext k
  show defOf rs k=defP (insP ns) k
  unfold defOf defP
  cases hk:rs[k]? with
  | none=>rw [hno k hk]
  | some r=>
   obtain ⟨p,h1,h2,h3⟩:=hat k r hk
   rw [h1]
   show ofRegs (outRegs r.out)=ofGs (outGs p.out)
   rw [ofRegs_plain,(h2.regs hW h3).2.1]
 ·show (rs.flatMap fun r=>(inRegs r.i.canc r.inp r.out).map R.id)=(insP ns).flatMap fun p=>(inGs p.canc p.inp p.out).map G.id
  refine map_flat hl.symm fun k r p h1 h2=>?_
  rw [← ((hr k p r h2 h1).regs hW (hp p (List.mem_of_getElem? h2))).2.2.2,List.map_map]
  rfl
 ·unfold Flow.succ
  show i < rs.length∧s < rs.length∧(∃ r,rs[s]? = some r∧some r.b∈sc i)↔i < (insP ns).length∧s < (insP ns).length∧some s∈scP i
  rw [hl]
  constructor
  ·rintro ⟨h1,h2,r,h3,h4⟩
   refine ⟨h1,h2,?_⟩
   rw [hsc i h1] at h4
   obtain ⟨o,ho,hb⟩:=List.mem_map.1 h4
   unfold blk at hb
   obtain ⟨j,rfl,hj⟩:=Option.bind_eq_some_iff.1 hb
   rw [List.getElem?_map] at hj
   obtain ⟨r',hr',hb'⟩:=Option.map_eq_some_iff.1 hj
   rw [hinj s j r r' h3 hr' hb'.symm]
   exact ho
  ·rintro ⟨h1,h2,h3⟩
   refine ⟨h1,h2,rs[s],List.getElem?_eq_getElem h2,?_⟩
   rw [hsc i h1]
   refine List.mem_map.2 ⟨some s,h3,?_⟩
   simp [blk,List.getElem?_eq_getElem h2]
end
section
open Go Go.RowKit Bth
set_option maxRecDepth 100000
def LiveOutP (is:List PI) (sc:Nat→List (Option Nat)):Nat→Nat→Nat→Prop:=LiveOut (flowP is sc).reads (flowP is sc).writes (flowP is sc).succ
def kindsP (is:List PI) (k:Nat):Prop:=∃ p∈is,∃ g∈gsOf p.ops,g.kind=k
def addsP (is:List PI) (k v:Nat):Prop:=∃ p∈is,∃ g∈gsOf p.ops,g.kind=k∧v=g.id
def edgesP (is:List PI) (sc:Nat→List (Option Nat)) (k:Nat) (e:Nat × Nat):Prop:=∃ (i:Nat) (p:PI) (g:G),is[i]? = some p∧g∈outGs p.out∧g.kind=k∧e.1=g.id∧e.2≠g.id∧kindOf e.2=g.kind∧∃ b,LiveOutP is sc i e.2 b∧g.spec.testBit b=true
def ColorP (is:List PI) (sc:Nat→List (Option Nat)) (k:Nat) (r:Option (Nat→Option Nat)):Prop:=
 ∃ (E:List (Nat × Nat)) (rem:List Nat),(∀ e,e∈E↔edgesP is sc k e)∧rem.Nodup∧(∀ v,v∈rem↔isV v=true∧toldOf (addsP is k) (edgesP is sc k) v)∧r=color (regsK k) E (rem.length+1) rem fun _=>none
theorem ColorP.uniq {is:List PI} {sc:Nat→List (Option Nat)} {k:Nat} {r r':Option (Nat→Option Nat)} (h:ColorP is sc k r) (h':ColorP is sc k r'):r=r':=by
 obtain ⟨E,rem,h1,h2,h3,rfl⟩:=h
 obtain ⟨E',rem',h1',h2',h3',rfl⟩:=h'
 exact color_congr (fun e=>(h1 e).trans (h1' e).symm) _ _ _ _ _ h2' h2 (fun v=>(h3 v).trans (h3' v).symm) (Nat.lt_succ_self _) (Nat.lt_succ_self _)
def GraphP (ns:List PN) (sc:Nat→List (Option Nat)):Prop:=∃ s,lpRun ns=some s∧s.pend=[]∧∀ (k:Nat) (p:PI),(insP ns)[k]? = some p→succP s.t s.n k p=some (sc k)
def AFRes (ns:List PN):Option (Nat→Option Nat)→Prop
 | some f=>∃ (sc:Nat→List (Option Nat)) (fk:Nat→Nat→Option Nat),GraphP ns sc∧(∀ k,kindsP (insP ns) k→ColorP (insP ns) sc k (some (fk k)))∧∀ v,(kindsP (insP ns) (kindOf v)→f v=fk (kindOf v) v)∧(¬kindsP (insP ns) (kindOf v)→f v=none)
 | none=>(∀ sc,¬GraphP ns sc)∨∃ sc k,GraphP ns sc∧kindsP (insP ns) k∧ColorP (insP ns) sc k none
def sumL {α : Type} (f:α → Nat) (l:List α):Nat:=(l.map f).sum
structure AFOk (ns:List PN):Prop where
 ok:ns.all okN=true
 ops:∀ p∈insP ns,p.Ok
 canc:∀ p∈insP ns,p.canc=true→2≤(gsOf p.inp).length
 kinds:∀ p∈insP ns,∀ g∈gsOf p.ops,g.kind≤3
 outs:∀ p∈insP ns,∀ g∈outGs p.out,kindsP (insP ns) g.kind
 few:(sumL (fun p=>(outGs p.out).length) (insP ns)+1)*(sumL (fun p=>(inGs p.canc p.inp p.out).length) (insP ns))≤8796093022208
 few2:sumL (fun p=>(gsOf p.ops).length) (insP ns)+sumL (fun p=>(outGs p.out).length) (insP ns)+sumL (fun p=>(inGs p.canc p.inp p.out).length) (insP ns)≤1000000000
theorem PI.ok_of {w:World} {B:Nat} {p:PI} (h:p.At w B):p.Ok:=⟨h.ok.1,h.ok.2.1,h.ok.2.2⟩
theorem FState.setFn {w w':World} {fs:Nat→Option Nat} {ns:List PN} {fb:Nat} {f f':Fn} {nds:List Nd} {rs:List Rec} {cms:List (Nat × List ByteArray)} (h:FState w fs ns fb f nds rs cms) (hv:FnAt w' fb f') (hn:f'.nodes=f.nodes) (hf:Fr (fun b=>b=fb) w w'):FState w' fs ns fb f' nds rs cms:=by
 have hs:NoT (135 :: addT) w (fun b=>b=fb):=NoT.one h.fn (by decide)
 refine ⟨hv,by rw [hn];exact own_frT h.nodes hf hs (by decide),h.mt,fun r hr=>?_,h.apart,fun c hc=>(h.coms c hc).frT hf hs (by decide) (by decide)⟩
 have:=h.recs r hr
 exact ⟨this.1.frT hf (hs.sub (by decide)),this.2.1,Nat.le_trans this.2.2 hf.size⟩
theorem lt_targets {nds:List Nd} : ∀ {s:LS},ltRun nds=some s→∀ x b,s.t x=some b→b∈insOf nds:=by
 have hsnoc:∀ (l:List Nd) (nd:Nd),ltRun (l ++ [nd])=(ltRun l).bind fun s=>ltStep s nd:=by
  intro l nd
  unfold ltRun
  rw [List.foldlM_append]
  cases List.foldlM ltStep ⟨fun _=>none,[]⟩ l<;>simp
 have key:∀ n (nds:List Nd),nds.length=n→∀ {s:LS},ltRun nds=some s→∀ x b,s.t x=some b→b∈insOf nds:=by
  intro n
  induction n with
  | zero=>
   intro nds hl s hs x b hb
   rw [List.eq_nil_of_length_eq_zero hl] at hs
   injection hs with hs
   subst hs
   cases hb
  | succ n ih=>
   intro nds hl s hs x b hb
   obtain ⟨l,nd,rfl⟩:∃ l nd,nds=l ++ [nd]:=(List.eq_nil_or_concat nds).elim (fun h=>by rw [h] at hl;simp at hl) (fun ⟨l,nd,h⟩=>⟨l,nd,by simpa using h⟩)
   rw [hsnoc] at hs
   obtain ⟨s0,h1,h2⟩:=Option.bind_eq_some_iff.1 hs
   have ih':=ih l (by simpa using hl) h1
   have hm:insOf (l ++ [nd])=insOf l ++ insOf [nd]:=by unfold insOf;rw [List.filterMap_append]
   rw [hm]
   cases nd with
   | label z=>
    simp only [ltStep] at h2
    split at h2
    ·cases h2
    ·injection h2 with h2;subst h2;exact List.mem_append_left _ (ih' x b hb)
   | comment z=>simp only [ltStep] at h2;injection h2 with h2;subst h2;exact List.mem_append_left _ (ih' x b hb)
   | ins z=>
    simp only [ltStep] at h2
    injection h2 with h2
    subst h2
    simp only [settle] at hb
    split at hb
    ·injection hb with hb;subst hb;exact List.mem_append_right _ (by simp [insOf,Nd.insOf])
    ·exact List.mem_append_left _ (ih' x b hb)
 intro s hs
 exact key _ nds rfl hs
end
section
open Go Go.RowKit Bth
set_option maxRecDepth 100000
theorem Mt.iffs {fs:Nat→Option Nat} {ns:List PN} {nds:List Nd} {rs:List Rec} {cms:List (Nat × List ByteArray)} (hM:Mt fs ns nds rs cms) (hp:∀ p∈insP ns,p.Ok) {Q:Nat→Rec→Prop} {Q':Nat→PI→Prop}
  (h:∀ (i:Nat) (p:PI) (r:Rec),rs[i]? = some r→RMatch fs p r→p.Ok→(Q i r↔Q' i p)):(∃ (i:Nat) (r:Rec),rs[i]? = some r∧Q i r)↔∃ (i:Nat) (p:PI),(insP ns)[i]? = some p∧Q' i p:=by
 obtain ⟨hl,hr⟩:=hM.match_
 constructor
 ·rintro ⟨i,r,h1,h2⟩
  have hlt:i < (insP ns).length:=by rw [hl];exact (List.getElem?_eq_some_iff.1 h1).1
  have hi:=List.getElem?_eq_getElem hlt
  exact ⟨i,_,hi,(h i _ r h1 (hr i _ r hi h1) (hp _ (List.getElem_mem hlt))).1 h2⟩
 ·rintro ⟨i,p,h1,h2⟩
  have hlt:i < rs.length:=by rw [← hl];exact (List.getElem?_eq_some_iff.1 h1).1
  have hi:=List.getElem?_eq_getElem hlt
  exact ⟨i,_,hi,(h i p _ hi (hr i p _ h1 hi) (hp _ (List.mem_of_getElem? h1))).2 h2⟩
theorem ex_plain {l:List R} {Q:R→Prop} {Q':G→Prop} (h:∀ d,Q d↔Q' d.plain):(∃ d∈l,Q d)↔∃ g∈l.map R.plain,Q' g:=by
 constructor
 ·rintro ⟨d,h1,h2⟩;exact ⟨_,List.mem_map.2 ⟨d,h1,rfl⟩,(h d).1 h2⟩
 ·rintro ⟨g,h1,h2⟩
  obtain ⟨d,h3,rfl⟩:=List.mem_map.1 h1
  exact ⟨d,h3,(h d).2 h2⟩
theorem ex_index {α : Type} {l:List α} {Q:α → Prop} : (∃ a∈l,Q a)↔∃ (i:Nat) (a:α),l[i]? = some a∧Q a:=by
 constructor
 ·rintro ⟨a,h1,h2⟩
  obtain ⟨i,hi⟩:=List.mem_iff_getElem?.1 h1
  exact ⟨i,a,hi,h2⟩
 ·rintro ⟨i,a,h1,h2⟩
  exact ⟨a,List.mem_of_getElem? h1,h2⟩
theorem Mt.kinds {w:World} {wb:Nat} {fs:Nat→Option Nat} (hW:WAt w wb fs) {ns:List PN} {nds:List Nd} {rs:List Rec} {cms:List (Nat × List ByteArray)} (hM:Mt fs ns nds rs cms) (hp:∀ p∈insP ns,p.Ok) (k:Nat):kindsOf rs k↔kindsP (insP ns) k:=by
 unfold kindsOf kindsP
 rw [ex_index,ex_index]
 refine hM.iffs hp (Q:=fun _ r=>∃ d∈regsOf r.ops,d.kind=k) (Q':=fun _ p=>∃ g∈gsOf p.ops,g.kind=k) fun i p r hr hm hk=>?_
 rw [← (hm.regs hW hk).1]
 exact ex_plain fun d=>Iff.rfl
theorem Mt.adds {w:World} {wb:Nat} {fs:Nat→Option Nat} (hW:WAt w wb fs) {ns:List PN} {nds:List Nd} {rs:List Rec} {cms:List (Nat × List ByteArray)} (hM:Mt fs ns nds rs cms) (hp:∀ p∈insP ns,p.Ok) (k v:Nat):AAll rs k v↔addsP (insP ns) k v:=by
 unfold AAll addsP
 rw [ex_index,ex_index]
 refine hM.iffs hp (Q:=fun _ r=>∃ d∈regsOf r.ops,d.kind=k∧v=d.id) (Q':=fun _ p=>∃ g∈gsOf p.ops,g.kind=k∧v=g.id) fun i p r hr hm hk=>?_
 rw [← (hm.regs hW hk).1]
 exact ex_plain fun d=>by rw [R.id_plain];exact Iff.rfl
theorem and_ne {a b:Nat} : a &&& b≠0↔∃ i,a.testBit i=true∧b.testBit i=true:=by
 constructor
 ·intro h
  refine Classical.byContradiction fun hn=>h (Nat.eq_of_testBit_eq fun i=>?_)
  rw [Nat.testBit_and,Nat.zero_testBit]
  cases h1:a.testBit i
  ·rfl
  cases h2:b.testBit i
  ·rfl
  ·exact absurd ⟨i,h1,h2⟩ hn
 ·rintro ⟨i,h1,h2⟩ h
  have:(a &&& b).testBit i=true:=by rw [Nat.testBit_and,h1,h2];rfl
  rw [h,Nat.zero_testBit] at this
  cases this
theorem Mt.edges {w:World} {wb:Nat} {fs:Nat→Option Nat} (hW:WAt w wb fs) {ns:List PN} {nds:List Nd} {rs:List Rec} {cms:List (Nat × List ByteArray)} (hM:Mt fs ns nds rs cms) (hp:∀ p∈insP ns,p.Ok) {V:Nat→Nat→Nat} {sc:Nat→List (Option Nat)}
  (hV:∀ i c b,i < rs.length→((V i c).testBit b=true↔LiveOutP (insP ns) sc i c b)) (k:Nat) (e:Nat × Nat):EAll rs V k e↔edgesP (insP ns) sc k e:=by
 have h:=hM.iffs hp (Q:=fun i r=>∃ d∈outRegs r.out,d.kind=k∧e.1=d.id∧hits (V i) d e.2) (Q':=fun i p=>∃ g∈outGs p.out,g.kind=k∧e.1=g.id∧e.2≠g.id∧kindOf e.2=g.kind∧∃ b,LiveOutP (insP ns) sc i e.2 b∧g.spec.testBit b=true) fun i p r hr hm hk=>by
  rw [← (hm.regs hW hk).2.1]
  refine ex_plain fun d=>?_
  unfold hits
  have hi:=(List.getElem?_eq_some_iff.1 hr).1
  rw [and_ne,R.id_plain]
  refine and_congr Iff.rfl (and_congr Iff.rfl (and_congr Iff.rfl (and_congr Iff.rfl (exists_congr fun b=>?_))))
  rw [hV i _ b hi]
  exact Iff.rfl
 unfold EAll edgesP
 constructor
 ·rintro ⟨i,r,d,h1,h2,h3⟩
  obtain ⟨i,p,h4,g,h5,h6⟩:=h.1 ⟨i,r,h1,d,h2,h3⟩
  exact ⟨i,p,g,h4,h5,h6⟩
 ·rintro ⟨i,p,g,h1,h2,h3⟩
  obtain ⟨i,r,h4,d,h5,h6⟩:=h.2 ⟨i,p,h1,g,h2,h3⟩
  exact ⟨i,r,d,h4,h5,h6⟩
theorem ColorP.of {k:Nat} {x:Al} {A:Nat→Prop} {E:Nat × Nat→Prop} {r:Option (Nat→Option Nat)} {is:List PI} {sc:Nat→List (Option Nat)} (ha:AOk k x A E) (h:ColorOf x r) (hA:∀ v,A v↔addsP is k v) (hE:∀ e,E e↔edgesP is sc k e):ColorP is sc k r:=by
 obtain ⟨rem,h1,h2⟩:=h
 have ht:∀ v,toldOf A E v↔toldOf (addsP is k) (edgesP is sc k) v:=fun v=>by unfold toldOf;simp only [hA,hE]
 refine ⟨x.edges,rem,fun e=>(ha.edges e).trans (hE e),h1.nd,fun v=>?_,by rw [h2,ha.regs,ha.al]⟩
 rw [h1.mem,← ht]
 constructor
 ·intro hv
  cases hl:x.poss v with
  | none=>exact absurd hl hv
  | some l=>exact ⟨(ha.list v l hl).1,(ha.list v l hl).2.1⟩
 ·rintro ⟨g1,g2⟩
  exact ha.has v g1 g2
end
section
open Go Go.RowKit Bth
set_option maxRecDepth 100000
theorem G.id_lt {g:G} (h:g.Ok):g.id < 4294967296:=by
 have h1:=h.kind
 have h2:=h.idx
 unfold G.id
 cases g.virt<;>simp<;>omega
theorem inGs_mem {c:Bool} {ps qs:List PO} {g:G} (h:g∈inGs c ps qs):g∈gsOf ps∨g∈gsOf qs:=by
 unfold inGs at h
 rcases List.mem_append.1 h with h | h
 ·left
  cases c with
  | false=>exact h
  | true=>
   match hl:gsOf ps with
   | []=>rw [hl] at h;exact h
   | [g1]=>rw [hl] at h;exact h
   | g1 :: g2 :: l=>
    rw [hl] at h
    simp only at h
    split at h
    ·cases h
    ·exact h
 ·right
  obtain ⟨p,hp,hg⟩:=List.mem_flatMap.1 h
  exact List.mem_flatMap.2 ⟨p,(List.mem_filter.1 hp).1,hg⟩
theorem outGs_mem {ps:List PO} {g:G} (h:g∈outGs ps):g∈gsOf ps:=by
 obtain ⟨p,hp,hg⟩:=List.mem_filterMap.1 h
 refine List.mem_flatMap.2 ⟨p,hp,?_⟩
 unfold PO.asG at hg
 split at hg
 ·rename_i h1
  injection hg with hg
  subst hg
  simp [PO.gs,h1]
 ·cases hg
theorem ofGs_sup {gs:List G} {c:Nat} (h:ofGs gs c≠0):c∈gs.map G.id:=by
 have key:∀ (gs:List G) (F:Nat→Nat),(gs.foldl (fun F g=>orM F g.id g.spec) F) c≠0→F c≠0∨c∈gs.map G.id:=by
  intro gs
  induction gs with
  | nil=>intro F h;exact .inl h
  | cons g gs ih=>
   intro F h
   rcases ih _ h with h | h
   ·have h2:(if c=g.id then F c ||| g.spec else F c)≠0:=h
    split at h2
    ·rename_i e;exact .inr (by simp [e])
    ·exact .inl h2
   ·exact .inr (List.mem_cons_of_mem _ h)
 rcases key gs _ h with h | h
 ·exact absurd rfl h
 ·exact h
theorem bit_ne {a b:Nat} (h:a.testBit b=true):a≠0:=by rintro rfl;simp at h
theorem live_sup {is:List PI} {sc:Nat→List (Option Nat)} {i c b:Nat} (h:LiveOutP is sc i c b):c∈(flowP is sc).U:=by
 obtain ⟨s,_,h⟩:=h
 refine LiveIn.least (inn:=fun _ c _=>c∈(flowP is sc).U) (fun i c b hr=>?_) (fun _ _ _ _ _ h _=>h) h
 have h2:useP is i c≠0:=bit_ne hr.2
 cases hp:is[i]? with
 | none=>unfold useP at h2;rw [hp] at h2;exact absurd rfl h2
 | some p=>
  have h3:ofGs (inGs p.canc p.inp p.out) c≠0:=by unfold useP at h2;rw [hp] at h2;exact h2
  exact List.mem_flatMap.2 ⟨p,List.mem_of_getElem? hp,ofGs_sup h3⟩
def allIds (is:List PI):List Nat:=is.flatMap (fun p=>(gsOf p.ops).map G.id) ++ is.flatMap (fun p=>(outGs p.out).map G.id) ++ is.flatMap fun p=>(inGs p.canc p.inp p.out).map G.id
theorem len_flat {α β : Type} (f:α → List β) (l:List α):(l.flatMap f).length=sumL (fun a=>(f a).length) l:=by
 unfold sumL
 exact List.length_flatMap
theorem allIds_len (is:List PI):(allIds is).length=sumL (fun p=>(gsOf p.ops).length) is+sumL (fun p=>(outGs p.out).length) is+sumL (fun p=>(inGs p.canc p.inp p.out).length) is:=by
 unfold allIds
 rw [List.length_append,List.length_append,len_flat,len_flat,len_flat]
 simp only [List.length_map]
theorem told_ids {is:List PI} {sc:Nat→List (Option Nat)} {k v:Nat} (h:toldOf (addsP is k) (edgesP is sc k) v):v∈allIds is:=by
 unfold allIds
 rcases h with ⟨p,hp,g,hg,_,rfl⟩ | ⟨e,⟨i,p,g,hp,hg,_,h1,_,_,b,hb,_⟩,rfl | rfl⟩
 ·exact List.mem_append_left _ (List.mem_append_left _ (List.mem_flatMap.2 ⟨p,hp,List.mem_map.2 ⟨g,hg,rfl⟩⟩))
 ·rw [h1]
  exact List.mem_append_left _ (List.mem_append_right _ (List.mem_flatMap.2 ⟨p,List.mem_of_getElem? hp,List.mem_map.2 ⟨g,hg,rfl⟩⟩))
 ·exact List.mem_append_right _ (live_sup hb)
theorem ColorP.told {is:List PI} {sc:Nat→List (Option Nat)} {k:Nat} {f:Nat→Option Nat} (h:ColorP is sc k (some f)) {v:Nat} (hv:f v≠none):isV v=true∧toldOf (addsP is k) (edgesP is sc k) v:=by
 obtain ⟨E,rem,h1,h2,h3,h4⟩:=h
 obtain ⟨_,h5,_⟩:=color_spec _ rem _ f h2 h4.symm
 refine (h3 v).1 (Classical.byContradiction fun hn=>?_)
 exact hv (h5 v hn)
theorem few_keys {is:List PI} {sc:Nat→List (Option Nat)} {fk:Nat→Nat→Option Nat} {f:Nat→Option Nat} (hc:∀ k,kindsP is k→ColorP is sc k (some (fk k))) (hf:∀ v,f v≠none→kindsP is (kindOf v)∧f v=fk (kindOf v) v) (D:List Nat) (hD:D.Nodup) (hn:∀ v∈D,f v≠none):D.length≤(allIds is).length:=by
 refine nodup_le hD fun v hv=>?_
 obtain ⟨h1,h2⟩:=hf v (hn v hv)
 exact told_ids ((hc _ h1).told (by rw [← h2];exact hn v hv)).2
theorem graph_of {fs:Nat→Option Nat} {ns:List PN} {nds:List Nd} {rs:List Rec} {cms:List (Nat × List ByteArray)} (hM:Mt fs ns nds rs cms) {t:ByteArray→Option Nat} (ht:ltRun nds=some ⟨t,[]⟩):
  ∃ s,lpRun ns=some s∧s.pend=[]∧s.n=rs.length∧(∀ (k:Nat) (p:PI) (r:Rec),(insP ns)[k]? = some p→rs[k]? = some r→succK t (rs.map (·.b)) k r.i r.ops=(succP s.t s.n k p).map fun l=>l.map (blk (rs.map (·.b)))):=by
 obtain ⟨h1,h2⟩:=lp_run hM
 cases hl:lpRun ns with
 | none=>rw [h1 hl] at ht;cases ht
 | some s=>
  obtain ⟨t',g1,g2,g3,g4⟩:=h2 s hl
  rw [ht] at g1
  injection g1 with g1
  injection g1 with e1 e2
  subst e1
  refine ⟨s,rfl,e2.symm,g2,fun k p r hp hr=>?_⟩
  have:=succ_plain (hM.match_.2 k p r hp hr) (bs:=rs.map (·.b)) g3 (fun x i hx=>by rw [List.length_map];exact g4 x i hx) k
  rw [List.length_map,← g2] at this
  exact this
theorem graph_none {fs:Nat→Option Nat} {ns:List PN} {nds:List Nd} {rs:List Rec} {cms:List (Nat × List ByteArray)} (hM:Mt fs ns nds rs cms) (ht:∀ t,ltRun nds≠some ⟨t,[]⟩) (sc:Nat→List (Option Nat)):¬GraphP ns sc:=by
 rintro ⟨s,h1,h2,_⟩
 obtain ⟨t',g1,_⟩:=(lp_run hM).2 s h1
 rw [h2] at g1
 exact ht t' g1
theorem graph_none2 {fs:Nat→Option Nat} {ns:List PN} {nds:List Nd} {rs:List Rec} {cms:List (Nat × List ByteArray)} (hM:Mt fs ns nds rs cms) {t:ByteArray→Option Nat} (ht:ltRun nds=some ⟨t,[]⟩) {k:Nat} {r:Rec} (hr:rs[k]? = some r) (hs:succK t (rs.map (·.b)) k r.i r.ops=none) (sc:Nat→List (Option Nat)):¬GraphP ns sc:=by
 rintro ⟨s,h1,h2,h3⟩
 obtain ⟨s',g1,g2,g3,g4⟩:=graph_of hM ht
 rw [h1] at g1
 injection g1 with g1
 subst g1
 have hlt:k < (insP ns).length:=by rw [hM.match_.1];exact (List.getElem?_eq_some_iff.1 hr).1
 have hp:=List.getElem?_eq_getElem hlt
 rw [g4 k _ r hp hr,h3 k _ hp] at hs
 cases hs
theorem graph_some {fs:Nat→Option Nat} {ns:List PN} {nds:List Nd} {rs:List Rec} {cms:List (Nat × List ByteArray)} (hM:Mt fs ns nds rs cms) {t:ByteArray→Option Nat} (ht:ltRun nds=some ⟨t,[]⟩) {sc:Nat→List (Option Nat)} (hs:∀ (k:Nat) (r:Rec),rs[k]? = some r→succK t (rs.map (·.b)) k r.i r.ops=some (sc k)):
  ∃ scP,GraphP ns scP∧∀ k,k < rs.length→sc k=(scP k).map (blk (rs.map (·.b))):=by
 obtain ⟨s,g1,g2,g3,g4⟩:=graph_of hM ht
 have key:∀ (k:Nat) (p:PI),(insP ns)[k]? = some p→∃ l,succP s.t s.n k p=some l∧sc k=l.map (blk (rs.map (·.b))):=fun k p hp=>by
  have hlt:k < rs.length:=by rw [← hM.match_.1];exact (List.getElem?_eq_some_iff.1 hp).1
  have hr:=List.getElem?_eq_getElem hlt
  have h1:=hs k _ hr
  rw [g4 k p _ hp hr] at h1
  obtain ⟨l,h2,h3⟩:=Option.map_eq_some_iff.1 h1
  exact ⟨l,h2,h3.symm⟩
 refine ⟨fun k=>(((insP ns)[k]?).bind fun p=>succP s.t s.n k p).getD [],⟨s,g1,g2,fun k p hp=>?_⟩,fun k hk=>?_⟩
 ·obtain ⟨l,h1,_⟩:=key k p hp
  simp [hp,h1]
 ·have hlt:k < (insP ns).length:=by rw [hM.match_.1];exact hk
  have hp:=List.getElem?_eq_getElem hlt
  obtain ⟨l,h1,h2⟩:=key k _ hp
  simp only [hp,Option.bind_some,h1,Option.getD_some]
  exact h2
end
end Go.Proofs.YtpbeedabmjmdmaaGreatDoor
