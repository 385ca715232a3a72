/- Part of the proof of a statement about pub-berthage: what its texts have in common. -/
import Derived.Test.YtbgblfiapecioaaGreatP14
import Derived.Test.YtbgblfiapecioaaGreatP31
import Derived.Test.YtbgblfiapecioaaGreatP33
import Derived.Test.YtbgblfiapecioaaGreatP35
namespace Go.Proofs.YtbgblfiapecioaaGreat
section
open Go Go.RowKit Bth
set_option maxRecDepth 100000
theorem BX.map {f:Nat→Option Nat} {x y:Option R} (h:BX f x y):y.map R.plain=(x.map R.plain).map (bindG f):=by
 cases x<;>cases y
 ·rfl
 ·exact h.elim
 ·exact h.elim
 ·simp only [Option.map_some];exact congrArg some h
theorem toList_map {α β : Type} (g:α → β) (x:Option α):x.toList.map g=(x.map g).toList:=by cases x<;>rfl
theorem BO.regs {f:Nat→Option Nat} {o o':O} (h:BO f o o'):o'.regs.map R.plain=(o.regs.map R.plain).map (bindG f)∧o'.asReg.map R.plain=(o.asReg.map R.plain).map (bindG f)∧o'.isMem=o.isMem:=by
 cases o<;>cases o'<;>try exact h.elim
 ·refine ⟨?_,?_,rfl⟩
  ·simp only [O.regs,List.map_cons,List.map_nil];exact congrArg (fun x=>[x]) h
  ·simp only [O.asReg,Option.map_some];exact congrArg some h
 ·obtain ⟨x,y,rfl,hx,hy⟩:=h
  refine ⟨?_,rfl,rfl⟩
  simp only [O.regs,M.regs,List.map_append,toList_map,hx.map,hy.map]
 ·exact ⟨rfl,rfl,rfl⟩
 ·exact ⟨rfl,rfl,rfl⟩
 ·exact ⟨rfl,rfl,rfl⟩
theorem po_regs (o:O):o.po.gs=o.regs.map R.plain∧o.po.asG=o.asReg.map R.plain∧(o.po.kind == 2)=o.isMem:=by
 cases o with
 | mem m=>
  obtain ⟨sy,st,di,ba,ix,sc⟩:=m
  refine ⟨?_,rfl,rfl⟩
  cases ba<;>cases ix<;>rfl
 | _=>exact ⟨rfl,rfl,rfl⟩
theorem BL.all {f:Nat→Option Nat} {n:Nat} {l l':List O} (h:BL f n l l') (hn:l.length≤n):∀ (k:Nat) (o o':O),l[k]? = some o→l'[k]? = some o'→BO f o o':=fun k o o' h1 h2=>by
 have:=h.2 k o o' h1 h2
 have hk:=(List.getElem?_eq_some_iff.1 h1).1
 rwa [if_pos (by omega)] at this
def BLs (f:Nat→Option Nat):List O→List O→Prop
 | [],[]=>True
 | o :: l,o' :: l'=>BO f o o'∧BLs f l l'
 | _,_=>False
theorem BLs.of {f:Nat→Option Nat} : ∀ {l l':List O},l'.length=l.length→(∀ (k:Nat) (o o':O),l[k]? = some o→l'[k]? = some o'→BO f o o')→BLs f l l'
 | [],[],_,_=>trivial
 | [],_ :: _,h,_=>by simp at h
 | _ :: _,[],h,_=>by simp at h
 | o :: l,o' :: l',h,hb=>⟨hb 0 o o' rfl rfl,BLs.of (by simpa using h) fun k x x' h1 h2=>hb (k+1) x x' h1 h2⟩
theorem bindG_ok {f:Nat→Option Nat} {g:G} (h:okG g=true):okG (bindG f g)=true:=by
 unfold bindG
 split
 ·split
  ·exact h
  ·split
   ·exact h
   ·split
    ·assumption
    ·exact h
 ·exact h
theorem okP_po {o:O} (h:∀ g∈o.regs.map R.plain,okG g=true):okP o.po=true:=by
 cases o with
 | reg r=>exact h r.plain (by simp [O.regs])
 | mem m=>
  obtain ⟨sy,st,di,ba,ix,sc⟩:=m
  show okM _=true
  unfold okM O.po
  cases ba with
  | none=>
   cases ix with
   | none=>rfl
   | some r=>simpa using h r.plain (by simp [O.regs,M.regs])
  | some b=>
   cases ix with
   | none=>simpa using h b.plain (by simp [O.regs,M.regs])
   | some r=>simpa using ⟨h b.plain (by simp [O.regs,M.regs]),h r.plain (by simp [O.regs,M.regs])⟩
 | con c=>obtain ⟨k,b,t⟩:=c;cases k<;>rfl
 | label s=>rfl
 | rel n=>rfl
structure BoundL (f:Nat→Option Nat) (ps ps':List PO):Prop where
 gs:gsOf ps'=(gsOf ps).map (bindG f)
 outs:outGs ps'=(outGs ps).map (bindG f)
 mem:memGs ps'=(memGs ps).map (bindG f)
 ok:ps.all okP=true→ps'.all okP=true
theorem BLs.regs {f:Nat→Option Nat} : ∀ {l l':List O} {ps:List PO},BLs f l l'→ps.length=l.length→(∀ (k:Nat) (p:PO) (o:O),ps[k]? = some p→l[k]? = some o→p.gs=o.regs.map R.plain∧p.asG=o.asReg.map R.plain∧(p.kind == 2)=o.isMem)→BoundL f ps (l'.map O.po)
 | [],[],[],_,_,_=>⟨rfl,rfl,rfl,fun h=>h⟩
 | [],[],_ :: _,_,h,_=>by simp at h
 | [],_ :: _,_,h,_,_=>h.elim
 | _ :: _,[],_,h,_,_=>h.elim
 | _ :: _,_ :: _,[],_,h,_=>by simp at h
 | o :: l,o' :: l',p :: ps,h,hl,hp=>by
  obtain ⟨h1,h2⟩:=h
  have ih:=BLs.regs h2 (by simpa using hl) fun k q x e1 e2=>hp (k+1) q x e1 e2
  obtain ⟨a1,a2,a3⟩:=hp 0 p o rfl rfl
  obtain ⟨b1,b2,b3⟩:=h1.regs
  obtain ⟨c1,c2,c3⟩:=po_regs o'
  refine ⟨?_,?_,?_,fun hk=>?_⟩
  rotate_left 3
  ·rw [List.all_cons,Bool.and_eq_true] at hk
   rw [List.map_cons,List.all_cons,Bool.and_eq_true]
   refine ⟨okP_po fun g hg=>?_,ih.ok hk.2⟩
   rw [b1,← a1] at hg
   obtain ⟨g',hg',rfl⟩:=List.mem_map.1 hg
   exact bindG_ok (okP_gs hk.1 g' hg')
  ·simp only [gsOf,List.map_cons,List.flatMap_cons,List.map_append]
   rw [c1,b1,← a1]
   congr 1
   exact ih.gs
  ·have e:=ih.outs
   simp only [outGs,List.map_cons,List.filterMap_cons] at e ⊢
   rw [c2,b2,← a2]
   cases p.asG with
   | none=>exact e
   | some g=>simp only [Option.map_some,List.map_cons];exact congrArg _ e
  ·have e:=ih.mem
   unfold memGs at e ⊢
   simp only [List.map_cons,List.filter_cons]
   rw [c3,b3,← a3]
   cases hk:p.kind == 2 with
   | false=>simpa using e
   | true=>
    simp only [if_true,gsOf,List.flatMap_cons,List.map_append]
    rw [c1,b1,← a1]
    congr 1
theorem po_target (l:List O):targetP (l.map O.po)=targetOf true l:=by
 cases l with
 | nil=>rfl
 | cons o l=>cases o<;>rfl
theorem BLs.target {f:Nat→Option Nat} : ∀ {l l':List O},BLs f l l'→targetOf true l'=targetOf true l
 | [],[],_=>rfl
 | [],_ :: _,h=>h.elim
 | _ :: _,[],h=>h.elim
 | o :: _,o' :: _,h=>by
  obtain ⟨h1,_⟩:=h
  cases o<;>cases o'<;>first | exact h1.elim | rfl | (obtain rfl:=h1;rfl)
structure BoundI (f:Nat→Option Nat) (p p':PI):Prop where
 ops:BoundL f p.ops p'.ops
 inp:BoundL f p.inp p'.inp
 out:BoundL f p.out p'.out
 opc:p'.opc=p.opc
 suf:p'.suf=p.suf
 isa:p'.isa=p.isa
 term:p'.term=p.term
 br:p'.br=p.br
 cond:p'.cond=p.cond
 canc:p'.canc=p.canc
 tgt:targetP p'.ops=targetP p.ops
theorem pOps_each {w:World} {wb:Nat} {fs:Nat→Option Nat} (h:WAt w wb fs):∀ {ps:List PO} {os:List O},(∀ p∈ps,p.Ok)→pOps fs ps=some os→∀ (k:Nat) (p:PO) (o:O),ps[k]? = some p→os[k]? = some o→p.gs=o.regs.map R.plain∧p.asG=o.asReg.map R.plain∧(p.kind == 2)=o.isMem
 | [],_,_,_,k,p,o,h1,_=>by cases h1
 | p :: ps,os,hp,ho,k,q,o,h1,h2=>by
  simp only [pOps] at ho
  obtain ⟨o1,e1,ho⟩:=Option.bind_eq_some_iff.1 ho
  obtain ⟨os',e2,rfl⟩:=Option.map_eq_some_iff.1 ho
  cases k with
  | zero=>
   injection h1 with h1
   injection h2 with h2
   subst h1 h2
   obtain ⟨a,b,c,_⟩:=opOf_regs h (hp p (by simp)) e1
   exact ⟨a.symm,b.symm,c.symm⟩
  | succ k=>exact pOps_each h (fun x hx=>hp x (by simp [hx])) e2 k q o h1 h2
theorem bound_list {w:World} {wb:Nat} {fs:Nat→Option Nat} (hW:WAt w wb fs) {f:Nat→Option Nat} {n:Nat} {ps:List PO} {l l':List O} (hp:∀ p∈ps,p.Ok) (ho:pOps fs ps=some l) (h:BL f n l l') (hn:l.length≤n):BoundL f ps (l'.map O.po):=
 (BLs.of h.1 (h.all hn)).regs (pOps_len ho).symm (pOps_each hW hp ho)
theorem bound_ins {f:Nat→Option Nat} {ns ns':List PN} (h:BoundN f ns ns') (hp:∀ p∈insP ns,p.Ok):
  (insP ns').length=(insP ns).length∧∀ (k:Nat) (p p':PI),(insP ns)[k]? = some p→(insP ns')[k]? = some p'→BoundI f p p':=by
 obtain ⟨fs,w0,wb,nds,rs,rs',cms,hW,hM,hB,hP,hnd,hcu⟩:=h
 obtain ⟨hl,hm⟩:=hM.match_
 have hbs:insOf nds=rs.map (·.b):=hM.insOf
 have hb':rs'.map (·.b)=rs.map (·.b):=by
  refine List.ext_getElem? fun k=>?_
  rw [List.getElem?_map,List.getElem?_map]
  cases h1:rs[k]? with
  | none=>
   have:=List.getElem?_eq_none_iff.1 h1
   rw [List.getElem?_eq_none (by rw [hB.len];omega)]
  | some r=>
   have hk:=(List.getElem?_eq_some_iff.1 h1).1
   have h2:rs'[k]? = some (rs'[k]'(by rw [hB.len];omega)):=List.getElem?_eq_getElem _
   rw [h2]
   exact congrArg some (hB.each k r _ h1 h2).b
 have key:∀ (nds:List Nd) (ns':List PN),NdsP rs' cms nds ns'→(insP ns').length=(insOf nds).length∧∀ (k:Nat) (p':PI) (b:Nat),(insP ns')[k]? = some p'→(insOf nds)[k]? = some b→∃ r∈rs',r.b=b∧RecP r p':=by
  intro nds
  induction nds with
  | nil=>
   intro ns' h
   have:ns'=[]:=List.eq_nil_of_length_eq_zero (by simpa using h.1)
   subst this
   exact ⟨rfl,fun k p' b h1=>by cases h1⟩
  | cons nd nds ih=>
   intro ns' h
   obtain ⟨q,hq,hnq⟩:=h.2 0 nd rfl
   cases ns' with
   | nil=>cases hq
   | cons n0 ns'=>
    injection hq with hq
    subst hq
    obtain ⟨i1,i2⟩:=ih ns' ⟨by simpa using h.1,fun k x hx=>h.2 (k+1) x hx⟩
    cases nd with
    | ins b0=>
     obtain ⟨hk,_,_,r,hr,hrb,hrp⟩:=hnq
     have e1:insP (n0 :: ns')=n0.ins :: insP ns':=by unfold insP;rw [List.filter_cons,if_pos (by simp [hk])];rfl
     have e2:insOf (Nd.ins b0 :: nds)=b0 :: insOf nds:=rfl
     rw [e1,e2]
     refine ⟨by simp [i1],fun k p' b h1 h2=>?_⟩
     cases k with
     | zero=>
      injection h1 with h1
      injection h2 with h2
      subst h1 h2
      exact ⟨r,hr,hrb,hrp⟩
     | succ k=>exact i2 k p' b h1 h2
    | label s=>
     have hk:n0.kind=2:=hnq.1
     have e1:insP (n0 :: ns')=insP ns':=by unfold insP;rw [List.filter_cons,if_neg (by simp [hk])]
     have e2:insOf (Nd.label s :: nds)=insOf nds:=rfl
     rw [e1,e2]
     exact ⟨i1,i2⟩
    | comment c=>
     have hk:n0.kind=3:=hnq.1
     have e1:insP (n0 :: ns')=insP ns':=by unfold insP;rw [List.filter_cons,if_neg (by simp [hk])]
     have e2:insOf (Nd.comment c :: nds)=insOf nds:=rfl
     rw [e1,e2]
     exact ⟨i1,i2⟩
 obtain ⟨k1,k2⟩:=key nds ns' hP
 refine ⟨by rw [k1,hbs,List.length_map,hl],fun k p p' h1 h2=>?_⟩
 have hk:k < rs.length:=by rw [← hl];exact (List.getElem?_eq_some_iff.1 h1).1
 obtain ⟨r,hr⟩:∃ r,rs[k]? = some r:=⟨_,List.getElem?_eq_getElem hk⟩
 obtain ⟨r1,hr1,hrb,hrp⟩:=k2 k p' r.b h2 (by rw [hbs,List.getElem?_map,hr];rfl)
 obtain ⟨r',hr'⟩:∃ r',rs'[k]? = some r':=⟨_,List.getElem?_eq_getElem (by rw [hB.len];exact hk)⟩
 have hBR:=hB.each k r r' hr hr'
 have e:r1=r':=by
  obtain ⟨j,hj⟩:=List.getElem?_of_mem hr1
  have hjb:(rs.map (·.b))[j]? = some r.b:=by rw [← hb',List.getElem?_map,hj,Option.map_some,hrb]
  have hkb:(rs.map (·.b))[k]? = some r.b:=by rw [List.getElem?_map,hr];rfl
  have:=(List.getElem?_inj (by rw [List.length_map];exact (by have:=(List.getElem?_eq_some_iff.1 hj).1;rw [hB.len] at this;exact this)) hnd).1 (hjb.trans hkb.symm)
  subst this
  rw [hr'] at hj
  exact (Option.some.inj hj).symm
 subst e
 have hR:=hm k p r h1 hr
 have hpk:=hp p (List.mem_of_getElem? h1)
 have hup:∀ q,upTo2 rs rs.length k q=(r.row q).length:=fun q=>by unfold upTo2;rw [if_pos hk,hr];rfl
 have row:=hBR.row
 refine ⟨?_,?_,?_,?_,?_,?_,?_,?_,?_,?_,?_⟩
 ·rw [hrp.ops];exact bound_list hW hpk.ops hR.ops (row 0 (by omega)) (by rw [hup];exact Nat.le_refl _)
 ·rw [hrp.inp];exact bound_list hW hpk.inp hR.inp (row 1 (by omega)) (by rw [hup];exact Nat.le_refl _)
 ·rw [hrp.out];exact bound_list hW hpk.out hR.out (row 2 (by omega)) (by rw [hup];exact Nat.le_refl _)
 ·rw [hrp.opc,hBR.i,hR.opc]
 ·rw [hrp.suf,hBR.suf,hR.suf]
 ·rw [hrp.isa,hBR.isa,hR.isa]
 ·rw [hrp.term,hBR.i,hR.term]
 ·rw [hrp.br,hBR.i,hR.br]
 ·rw [hrp.cond,hBR.i,hR.cond]
 ·rw [hrp.canc,hBR.i,hR.canc]
 ·rw [hrp.ops,po_target,← target_plain hR.ops]
  exact (BLs.of (row 0 (by omega)).1 ((row 0 (by omega)).all (by rw [hup];exact Nat.le_refl _))).target
theorem BoundI.ins {f:Nat→Option Nat} {p p':PI} (h:BoundI f p p') (hc:p.canc=true→∀ g g' l,gsOf p.inp=g :: g' :: l→bindG f g=bindG f g'→g=g'):inGs p'.canc p'.inp p'.out=(inGs p.canc p.inp p.out).map (bindG f):=by
 rw [h.canc]
 cases hcn:p.canc with
 | false=>rw [inGs_f,inGs_f,h.inp.gs,h.out.mem,List.map_append]
 | true=>
  rw [inGs_t _ _ _ rfl,inGs_t _ _ _ rfl,h.inp.gs,h.out.mem,List.map_append]
  congr 1
  have hc:=hc hcn
  generalize gsOf p.inp=l at hc ⊢
  match l,hc with
  | [],_=>rfl
  | [g],_=>rfl
  | g :: g' :: l,hc=>
   by_cases hgg:g=g'
   ·subst hgg
    simp [canc2]
   ·have hne:¬bindG f g=bindG f g':=fun e=>hgg (hc g g' l rfl e)
    simp [canc2,hgg,hne]
theorem BoundI.ok {f:Nat→Option Nat} {p p':PI} (h:BoundI f p p') (hk:okI p=true):okI p'=true:=by
 unfold okI at hk ⊢
 simp only [Bool.and_eq_true] at hk ⊢
 exact ⟨⟨h.ops.ok hk.1.1,h.inp.ok hk.1.2⟩,h.out.ok hk.2⟩
theorem bound_ok {f:Nat→Option Nat} {ns ns':List PN} (h:BoundN f ns ns') (hp:∀ p∈insP ns,p.Ok) (hk:ns.all okN=true):ns'.all okN=true:=by
 have hb:=bound_ins h hp
 have hki:∀ p∈insP ns,okI p=true:=fun p hpm=>by
  obtain ⟨n,h1,rfl⟩:=List.mem_map.1 hpm
  obtain ⟨h1,h2⟩:=List.mem_filter.1 h1
  have h3:=List.all_eq_true.1 hk n h1
  unfold okN at h3
  rw [if_pos (by simpa using h2)] at h3
  exact h3
 have hki':∀ p'∈insP ns',okI p'=true:=fun p' hp'=>by
  obtain ⟨k,hk'⟩:=List.getElem?_of_mem hp'
  have hlt:k < (insP ns).length:=by rw [← hb.1];exact (List.getElem?_eq_some_iff.1 hk').1
  have h1:=List.getElem?_eq_getElem hlt
  exact (hb.2 k _ p' h1 hk').ok (hki _ (List.mem_of_getElem? h1))
 obtain ⟨fs,w0,wb,nds,rs,rs',cms,hW,hM,hB,hP,hnd,hcu⟩:=h
 rw [List.all_eq_true]
 intro n hn
 obtain ⟨k,hkn⟩:=List.getElem?_of_mem hn
 have hlt:k < nds.length:=by rw [← hP.1];exact (List.getElem?_eq_some_iff.1 hkn).1
 obtain ⟨q,hq,hnq⟩:=hP.2 k _ (List.getElem?_eq_getElem hlt)
 rw [hkn] at hq
 obtain rfl:=Option.some.inj hq
 unfold okN
 generalize nds[k]=nd at hnq
 cases nd with
 | ins b=>
  have hk1:n.kind=1:=hnq.1
  rw [if_pos hk1]
  exact hki' _ (List.mem_map.2 ⟨n,List.mem_filter.2 ⟨hn,by simp [hk1]⟩,rfl⟩)
 | label s=>
  have hk2:n.kind=2:=hnq.1
  simp [hk2]
 | comment c=>
  have hk3:n.kind=3:=hnq.1
  simp [hk3]
end
section
open Go Go.RowKit Bth
set_option maxRecDepth 100000
structure SimN (p p':PN):Prop where
 kind:p'.kind=p.kind
 label:p.kind=2→p'.label=p.label
 lines:p.kind=3→p'.lines=p.lines
theorem Mt.at_ {fs:Nat→Option Nat} {ns:List PN} {nds:List Nd} {rs:List Rec} {cms:List (Nat × List ByteArray)} (h:Mt fs ns nds rs cms):∀ (k:Nat) (n:PN) (nd:Nd),ns[k]? = some n→nds[k]? = some nd →
  (n.kind=1∧∃ b,nd = .ins b)∨(n.kind=2∧nd = .label n.label)∨(n.kind=3∧∃ c,nd = .comment c∧(c,n.lines)∈cms):=by
 have key:∀ {ns:List PN} {nds:List Nd} {n:PN} {nd:Nd} {Q:PN→Nd→Prop},nds.length=ns.length→(∀ (k:Nat) (n:PN) (nd:Nd),ns[k]? = some n→nds[k]? = some nd→Q n nd)→Q n nd→∀ (k:Nat) (n':PN) (nd':Nd),(ns ++ [n])[k]? = some n'→(nds ++ [nd])[k]? = some nd'→Q n' nd':=by
  intro ns nds n nd Q hl h1 h2 k n' nd' e1 e2
  by_cases hk:k < ns.length
  ·rw [List.getElem?_append_left hk] at e1
   rw [List.getElem?_append_left (by omega)] at e2
   exact h1 k n' nd' e1 e2
  ·rw [List.getElem?_append_right (by omega)] at e1
   rw [List.getElem?_append_right (by omega)] at e2
   have h0:k - ns.length=0:=by have:=(List.getElem?_eq_some_iff.1 e1).1;simp at this;omega
   rw [h0] at e1
   rw [hl,h0] at e2
   injection e1 with e1
   injection e2 with e2
   subst e1 e2
   exact h2
 induction h with
 | nil=>intro k n nd h;cases h
 | ins hM h1 h2 ih=>exact key hM.len (fun k n nd a b=>ih k n nd a b) (.inl ⟨h1,_,rfl⟩)
 | label hM h1 ih=>exact key hM.len (fun k n nd a b=>ih k n nd a b) (.inr (.inl ⟨h1,rfl⟩))
 | @comment ns nds rs cms n c hM h1 ih=>
  refine key (Q:=fun n nd=>(n.kind=1∧∃ b,nd = .ins b)∨(n.kind=2∧nd = .label n.label)∨(n.kind=3∧∃ c',nd = .comment c'∧(c',n.lines)∈cms ++ [(c,_)])) hM.len (fun k n nd a b=>?_) (.inr (.inr ⟨h1,c,rfl,by simp⟩))
  rcases ih k n nd a b with h | h | ⟨h,c',e,hm⟩
  ·exact .inl h
  ·exact .inr (.inl h)
  ·exact .inr (.inr ⟨h,c',e,by simp [hm]⟩)
theorem bound_sim {f:Nat→Option Nat} {ns ns':List PN} (h:BoundN f ns ns'):ns'.length=ns.length∧∀ (k:Nat) (p p':PN),ns[k]? = some p→ns'[k]? = some p'→SimN p p':=by
 obtain ⟨fs,w0,wb,nds,rs,rs',cms,hW,hM,hB,hP,hnd,hcu⟩:=h
 refine ⟨by rw [hP.1,hM.len],fun k p p' h1 h2=>?_⟩
 have hk:k < nds.length:=by rw [hM.len];exact (List.getElem?_eq_some_iff.1 h1).1
 have h3:=List.getElem?_eq_getElem hk
 obtain ⟨q,hq,hn⟩:=hP.2 k _ h3
 rw [h2] at hq
 obtain rfl:=Option.some.inj hq
 rcases hM.at_ k p _ h1 h3 with ⟨a,b,e⟩ | ⟨a,e⟩ | ⟨a,c,e,hc⟩<;>rw [e] at hn
 ·exact ⟨by rw [hn.1,a],fun h=>by omega,fun h=>by omega⟩
 ·exact ⟨by rw [hn.1,a],fun _=>hn.2.1,fun h=>by omega⟩
 ·exact ⟨by rw [hn.1,a],fun h=>by omega,fun _=>hcu c _ _ hn.2.2.2 hc⟩
theorem lpRun_sim:∀ {ns ns':List PN},ns'.length=ns.length→(∀ (k:Nat) (p p':PN),ns[k]? = some p→ns'[k]? = some p'→SimN p p')→lpRun ns'=lpRun ns:=by
 have key:∀ {ns ns':List PN} (s:LP),ns'.length=ns.length→(∀ (k:Nat) (p p':PN),ns[k]? = some p→ns'[k]? = some p'→SimN p p')→ns'.foldlM lpStep s=ns.foldlM lpStep s:=by
  intro ns
  induction ns with
  | nil=>intro ns' s h _;rw [List.eq_nil_of_length_eq_zero h]
  | cons p ns ih=>
   intro ns' s h hs
   cases ns' with
   | nil=>simp at h
   | cons p' ns'=>
    have h0:=hs 0 p p' rfl rfl
    have e:lpStep s p'=lpStep s p:=by
     unfold lpStep
     rw [h0.kind]
     by_cases h1:p.kind=1
     ·rw [if_pos h1,if_pos h1]
     ·by_cases h2:p.kind=2
      ·rw [if_neg h1,if_neg h1,if_pos h2,if_pos h2,h0.label h2]
      ·rw [if_neg h1,if_neg h1,if_neg h2,if_neg h2]
    rw [List.foldlM_cons,List.foldlM_cons,e]
    cases lpStep s p with
    | none=>rfl
    | some s'=>exact ih s' (by simpa using h) fun k q q' a b=>hs (k+1) q q' a b
 exact fun {ns ns'} h hs=>key _ h hs
theorem bound_graph {f:Nat→Option Nat} {ns ns':List PN} (h:BoundN f ns ns') (hp:∀ p∈insP ns,p.Ok) {sc:Nat→List (Option Nat)} (hG:GraphP ns sc):GraphP ns' sc:=by
 obtain ⟨s,h1,h2,h3⟩:=hG
 obtain ⟨a1,a2⟩:=bound_sim h
 obtain ⟨b1,b2⟩:=bound_ins h hp
 refine ⟨s,by rw [lpRun_sim a1 a2];exact h1,h2,fun k p' hk=>?_⟩
 have hlt:k < (insP ns).length:=by rw [← b1];exact (List.getElem?_eq_some_iff.1 hk).1
 have hpk:=List.getElem?_eq_getElem hlt
 have hI:=b2 k _ p' hpk hk
 have:=h3 k _ hpk
 unfold succP at this ⊢
 rw [hI.br,hI.term,hI.cond,hI.tgt]
 exact this
end
section
open Go Go.RowKit Bth
set_option maxRecDepth 100000
section
variable {P:Program} {ops:Array Oper} {Q:Exit→Act→World→Prop} {S:World→Prop} {T:List Nat}
def noneT (T:List Nat) (listed:Array Bool):Prop:=∀ t∈T,listed.getD t true=false
def wpAnyT (P:Program) (ops:Array Oper) (Q:Exit→Act→World→Prop) (S:World→Prop) (T:List Nat):Nat→Array Bool→Act→World→Prop
 | 0,listed,a,w=>Region.ready .any ops listed=[]∧Q .normal a w
 | fuel+1,listed,a,w=>
  (Region.ready .any ops listed=[]→Q .normal a w) ∧
  ∀ i∈Region.ready .any ops listed,wpOp P ops Q i (fun a' w'=>(noneT T (listed.setIfInBounds i true)→S w')∧wpAnyT P ops Q S T fuel (listed.setIfInBounds i true) a' w') a w
theorem wpAny_ofT:∀ (fuel:Nat) (listed:Array Bool) (a:Act) (w:World),wpAnyT P ops Q S T fuel listed a w→wpAny P .any ops Q fuel listed a w
 | 0,_,_,_,h=>h
 | fuel+1,_,_,_,h=>⟨h.1,fun i hi=>wpOp_mono (fun a' w' h'=>wpAny_ofT fuel _ a' w' h'.2) (h.2 i hi)⟩
def waitsOn (ops:Array Oper) (m i:Nat):Bool:=match ops[m]? with
 | some o=>o.after.any fun e=>Region.binds .any e && e.on == i
 | none=>false
theorem waitsOn_spec {m i:Nat} (h:waitsOn ops m i=true):∃ o,ops[m]? = some o∧∃ e∈o.after,Region.binds .any e=true∧e.on=i:=by
 unfold waitsOn at h
 cases ho:ops[m]? with
 | none=>rw [ho] at h;cases h
 | some o=>
  rw [ho] at h
  obtain ⟨e,he,h2⟩:=Array.any_eq_true'.1 h
  simp only [Bool.and_eq_true,beq_iff_eq] at h2
  exact ⟨o,rfl,e,he,h2.1,h2.2⟩
def waitB (ops:Array Oper) (T:List Nat) (i:Nat):Bool:=T.all fun t=>t != i && (waitsOn ops t i || (List.range ops.size).any fun m=>waitsOn ops t m && waitsOn ops m i)
def unl (ops:Array Oper) (listed:Array Bool) (i:Nat):Bool:=(List.range ops.size).all fun m=>!(waitsOn ops m i) || !(listed.getD m true)
theorem wpAnyT_first {i:Nat} {oi:Oper} {v:Value} (hi:ops[i]? = some oi) (hsel:∀ (j:Nat) (o:Oper) cs b,ops[j]? = some o→o.op ≠ .select cs b) (hwt:waitB ops T i=true)
  (hQ:∀ c a w,Q (.panic c) (a.put oi.dst v) w→Q (.panic c) a w):
  ∀ (fuel:Nat) (listed:Array Bool) (a:Act) (w:World),
   (∀ j oj,ops[j]? = some oj→j≠i→listed.getD j true=false→(∀ e∈oj.after,Region.binds .any e=true→e.on≠i)→oi.apart ops oj=true) →
   i∈Region.ready .any ops listed→(∀ m,waitsOn ops m i=true→listed.getD m true=false)→noneT T listed→YieldsIf P ops S oi v a→S w →
   wpAnyT P ops Q S T fuel (listed.setIfInBounds i true) (a.put oi.dst v) w→wpAnyT P ops Q S T (fuel+1) listed a w:=by
 have hwait:∀ t∈T,t≠i∧(waitsOn ops t i=true∨∃ m,waitsOn ops t m=true∧waitsOn ops m i=true):=fun t ht=>by
  have:=List.all_eq_true.1 hwt t ht
  simp only [Bool.and_eq_true,bne_iff_ne,ne_eq,Bool.or_eq_true,List.any_eq_true] at this
  exact ⟨this.1,this.2.imp id fun ⟨m,_,h⟩=>⟨m,h⟩⟩
 intro fuel
 induction fuel with
 | zero=>
  intro listed a w _ hr hu hn hy hS H
  refine ⟨fun h=>(by rw [h] at hr;cases hr),fun j hj=>?_⟩
  by_cases hji:j=i
  ·subst hji;exact hy.wpOp hi hS ⟨fun _=>hS,H⟩
  ·have:=ready_mono hj hji
   rw [H.1] at this
   cases this
 | succ fuel ih=>
  intro listed a w hfree hr hu hn hy hS H
  refine ⟨fun h=>(by rw [h] at hr;cases hr),fun j hj=>?_⟩
  by_cases hji:j=i
  ·subst hji;exact hy.wpOp hi hS ⟨fun _=>hS,H⟩
  ·have h1:=H.2 j (ready_mono hj hji)
   obtain ⟨hjun,oj,hoj,hall⟩:=mem_ready.1 hj
   have hnot:∀ e∈oj.after,Region.binds .any e=true→e.on≠i:=fun e he hb heq=>by
    have h1:=hall e he hb
    have h0:=(mem_ready.1 hr).1
    rw [heq] at h1
    rcases Nat.lt_or_ge i listed.size with h' | h'
    ·simp [h'] at h0 h1;rw [h0] at h1;cases h1
    ·simp [Array.getElem?_eq_none h'] at h1
   have hjw:∀ m,waitsOn ops m i=true→m≠j:=fun m hm e=>by
    subst e
    obtain ⟨o,ho,e,he,hb,hon⟩:=waitsOn_spec hm
    rw [hoj] at ho
    injection ho with ho
    subst ho
    exact hnot e he hb hon
   have hjT:j∉T:=fun hm=>by
    obtain ⟨_,h | ⟨m,h1,h2⟩⟩:=hwait j hm
    ·exact hjw j h rfl
    ·obtain ⟨o,ho,e,he,hb,hon⟩:=waitsOn_spec h1
     rw [hoj] at ho
     injection ho with ho
     subst ho
     have h3:=hall e he hb
     have h4:=hu m h2
     rw [hon] at h3
     rcases Nat.lt_or_ge m listed.size with h' | h'
     ·simp [h'] at h3 h4;rw [h4] at h3;cases h3
     ·simp [Array.getElem?_eq_none h'] at h3
   have hu':∀ m,waitsOn ops m i=true→(listed.setIfInBounds j true).getD m true=false:=fun m hm=>by
    rw [getD_set_ne true (fun e=>hjw m hm e.symm)]
    exact hu m hm
   have hn':noneT T (listed.setIfInBounds j true):=fun t ht=>by
    rw [getD_set_ne true (fun e=>hjT (by rw [e];exact ht))]
    exact hn t ht
   have hni:noneT T ((listed.setIfInBounds i true).setIfInBounds j true):=fun t ht=>by
    rw [getD_set_ne true (fun e=>hjT (by rw [e];exact ht)),getD_set_ne true (Ne.symm (hwait t ht).1)]
    exact hn t ht
   have h2:=wpOp_putIf hoj (hfree j oj hoj hji hjun hnot) (fun cs b=>hsel i oi cs b hi) (fun cs b=>hsel j oj cs b hoj) hQ hy h1
   have hfree':∀ k ok,ops[k]? = some ok→k≠i→(listed.setIfInBounds j true).getD k true=false →
     (∀ e∈ok.after,Region.binds .any e=true→e.on≠i)→oi.apart ops ok=true:=fun k ok hk hki hun hno=>by
    refine hfree k ok hk hki ?_ hno
    by_cases hjk:j=k
    ·subst hjk;exact hjun
    ·rw [getD_set_ne true hjk] at hun;exact hun
   refine wpOp_mono (fun a' w' h3=>⟨fun _=>h3.2.1 hni,ih (listed.setIfInBounds j true) a' w' hfree' (ready_mono hr (Ne.symm hji)) hu' hn' h3.1 (h3.2.1 hni) ?_⟩) h2
   rw [Array.setIfInBounds_comm _ _ hji]
   exact h3.2.2
theorem wpAnyT_firstU {i:Nat} {oi:Oper} {v:Value} (hi:ops[i]? = some oi) (hsel:∀ (j:Nat) (o:Oper) cs b,ops[j]? = some o→o.op ≠ .select cs b) (hiT:i∉T)
  (hQ:∀ c a w,Q (.panic c) (a.put oi.dst v) w→Q (.panic c) a w):
  ∀ (fuel:Nat) (listed:Array Bool) (a:Act) (w:World),
   (∀ j oj,ops[j]? = some oj→j≠i→listed.getD j true=false→(∀ e∈oj.after,Region.binds .any e=true→e.on≠i)→oi.apart ops oj=true) →
   i∈Region.ready .any ops listed→YieldsIf P ops (fun _=>True) oi v a→(noneT T listed→S w) →
   wpAnyT P ops Q S T fuel (listed.setIfInBounds i true) (a.put oi.dst v) w→wpAnyT P ops Q S T (fuel+1) listed a w:=by
 have back:∀ {l:Array Bool},noneT T (l.setIfInBounds i true)→noneT T l:=fun h t ht=>by
  have:=h t ht
  rwa [getD_set_ne true (fun e=>hiT (by rw [e];exact ht))] at this
 have fwd:∀ {l:Array Bool},noneT T l→noneT T (l.setIfInBounds i true):=fun h t ht=>by
  rw [getD_set_ne true (fun e=>hiT (by rw [e];exact ht))]
  exact h t ht
 intro fuel
 induction fuel with
 | zero=>
  intro listed a w _ hr hy hS H
  refine ⟨fun h=>(by rw [h] at hr;cases hr),fun j hj=>?_⟩
  by_cases hji:j=i
  ·subst hji;exact hy.wpOp hi trivial ⟨fun h=>hS (back h),H⟩
  ·have:=ready_mono hj hji
   rw [H.1] at this
   cases this
 | succ fuel ih=>
  intro listed a w hfree hr hy hS H
  refine ⟨fun h=>(by rw [h] at hr;cases hr),fun j hj=>?_⟩
  by_cases hji:j=i
  ·subst hji;exact hy.wpOp hi trivial ⟨fun h=>hS (back h),H⟩
  ·have h1:=H.2 j (ready_mono hj hji)
   obtain ⟨hjun,oj,hoj,hall⟩:=mem_ready.1 hj
   have hnot:∀ e∈oj.after,Region.binds .any e=true→e.on≠i:=fun e he hb heq=>by
    have h1:=hall e he hb
    have h0:=(mem_ready.1 hr).1
    rw [heq] at h1
    rcases Nat.lt_or_ge i listed.size with h' | h'
    ·simp [h'] at h0 h1;rw [h0] at h1;cases h1
    ·simp [Array.getElem?_eq_none h'] at h1
   have h2:=wpOp_putIf hoj (hfree j oj hoj hji hjun hnot) (fun cs b=>hsel i oi cs b hi) (fun cs b=>hsel j oj cs b hoj) hQ hy h1
   have hfree':∀ k ok,ops[k]? = some ok→k≠i→(listed.setIfInBounds j true).getD k true=false →
     (∀ e∈ok.after,Region.binds .any e=true→e.on≠i)→oi.apart ops ok=true:=fun k ok hk hki hun hno=>by
    refine hfree k ok hk hki ?_ hno
    by_cases hjk:j=k
    ·subst hjk;exact hjun
    ·rw [getD_set_ne true hjk] at hun;exact hun
   have hSj:∀ {w':World},(noneT T ((listed.setIfInBounds i true).setIfInBounds j true)→S w')→noneT T (listed.setIfInBounds j true)→S w':=fun h hn=>h (by
    rw [Array.setIfInBounds_comm _ _ (Ne.symm hji)]
    exact fwd hn)
   refine wpOp_mono (fun a' w' h3=>⟨hSj h3.2.1,ih (listed.setIfInBounds j true) a' w' hfree' (ready_mono hr (Ne.symm hji)) h3.1 (hSj h3.2.1) ?_⟩) h2
   rw [Array.setIfInBounds_comm _ _ hji]
   exact h3.2.2
def mayT (ops:Array Oper) (T:List Nat) (listed:Array Bool) (i d n:Nat):Bool:=Region.noSelect ops && Region.free .any ops listed i && (Region.ready .any ops listed).contains i && Nat.blt d n && !(T.contains i)
theorem takeU {fuel n:Nat} {listed:Array Bool} {a:Act} {w:World} {l:List (Nat × Value)} (h:Bun a n l) (hS:noneT T listed→S w) (hQ:∀ d v c a w,Q (.panic c) (a.put d v) w→Q (.panic c) a w) (i d:Nat) (op:Op) (v:Value) (ho:isB ops i d op) (hm:mayT ops T listed i d n=true)
  (hx:∀ o:Oper,o.op=op→∀ w,(execOp a.eval o).run P w = .ok (.value v) w)
  (next:∀ a',a'=a.put (some d) v→Bun a' n ((d,v) :: l)→wpAnyT P ops Q S T fuel (listed.setIfInBounds i true) a' w):wpAnyT P ops Q S T (fuel+1) listed a w:=by
 obtain ⟨o,hi,ho⟩:=Option.map_eq_some_iff.1 ho
 simp only [Prod.mk.injEq] at ho
 obtain ⟨h1,h2,h3⟩:=ho
 unfold mayT at hm
 simp only [Bool.and_eq_true,Bool.not_eq_true',← Bool.not_eq_true,List.contains_iff_mem] at hm
 obtain ⟨⟨⟨⟨m1,m2⟩,m3⟩,m4⟩,m5⟩:=hm
 exact wpAnyT_firstU (v:=v) hi (Region.noSelect_spec m1) m5 (fun c a w=>hQ _ _ c a w) fuel listed a w (Region.free_spec hi m2) (by simpa using m3) (Or.inl ⟨by unfold Region.wanted;rw [h3],fun w _=>hx o h1 w⟩) hS (next _ (by rw [h2]) (h.put h2 (by simpa [Nat.blt_eq] using m4) v))
theorem takeL {fuel n:Nat} {listed:Array Bool} {a:Act} {w:World} {l:List (Nat × Value)} (h:Bun a n l) (hS:S w) (hQ:∀ d v c a w,Q (.panic c) (a.put d v) w→Q (.panic c) a w) (i d:Nat) (op:Op) (v:Value) (ho:isB ops i d op) (hm:(mayT ops T listed i d n && waitB ops T i && unl ops listed i && T.all fun t=>!(listed.getD t true))=true)
  (hx:∀ o:Oper,o.op=op→∀ w,S w→(execOp a.eval o).run P w = .ok (.value v) w)
  (next:∀ a',a'=a.put (some d) v→Bun a' n ((d,v) :: l)→wpAnyT P ops Q S T fuel (listed.setIfInBounds i true) a' w):wpAnyT P ops Q S T (fuel+1) listed a w:=by
 obtain ⟨o,hi,ho⟩:=Option.map_eq_some_iff.1 ho
 simp only [Prod.mk.injEq] at ho
 obtain ⟨h1,h2,h3⟩:=ho
 unfold mayT at hm
 simp only [Bool.and_eq_true] at hm
 obtain ⟨⟨⟨⟨⟨⟨⟨m1,m2⟩,m3⟩,m4⟩,_⟩,m6⟩,mu⟩,m7⟩:=hm
 have hu:∀ m,waitsOn ops m i=true→listed.getD m true=false:=fun m hm=>by
  obtain ⟨o,ho,_⟩:=waitsOn_spec hm
  have hlt:=(Array.getElem?_eq_some_iff.1 ho).1
  have:=List.all_eq_true.1 mu m (List.mem_range.2 hlt)
  rw [hm] at this
  simpa using this
 have hn:noneT T listed:=fun t ht=>by simpa using List.all_eq_true.1 m7 t ht
 exact wpAnyT_first (v:=v) hi (Region.noSelect_spec m1) m6 (fun c a w=>hQ _ _ c a w) fuel listed a w (Region.free_spec hi m2) (by simpa using m3) hu hn (Or.inl ⟨by unfold Region.wanted;rw [h3],hx o h1⟩) hS (next _ (by rw [h2]) (h.put h2 (by simpa [Nat.blt_eq] using m4) v))
theorem takeM {fuel n:Nat} {listed:Array Bool} {a:Act} {w:World} {l:List (Nat × Value)} (h:Bun a n l) (hS:noneT T listed→S w) (hQ:∀ d v c a w,Q (.panic c) (a.put d v) w→Q (.panic c) a w) (i d t:Nat) (v:Value) (ho:isB ops i d (.move (.tmp t))) (hm:mayT ops T listed i d n=true) (ht:lkB l t=some v)
  (next:∀ a',a'=a.put (some d) v→Bun a' n ((d,v) :: l)→wpAnyT P ops Q S T fuel (listed.setIfInBounds i true) a' w):wpAnyT P ops Q S T (fuel+1) listed a w:=
 takeU h hS hQ i d _ v ho hm (fun o e w=>by have:=h.at_ t v ht;simp [execOp,e,this]) next
theorem takeI {fuel n:Nat} {listed:Array Bool} {a:Act} {w:World} {l:List (Nat × Value)} (h:Bun a n l) (hS:noneT T listed→S w) (hQ:∀ d v c a w,Q (.panic c) (a.put d v) w→Q (.panic c) a w) (i d t k:Nat) (ty:TypeId) (x y:Value) (p:Addr) (ho:isB ops i d (.indexAddr ty (.tmp t) (.tmp k))) (hm:mayT ops T listed i d n=true) (ht:lkB l t=some x) (hk:lkB l k=some y)
  (hx:∀ w,(Go.Instr.indexAt ty x y).run P w = .ok (.pointer (some p)) w)
  (next:∀ a',a'=a.put (some d) (.pointer (some p))→Bun a' n ((d,.pointer (some p)) :: l)→wpAnyT P ops Q S T fuel (listed.setIfInBounds i true) a' w):wpAnyT P ops Q S T (fuel+1) listed a w:=
 takeU h hS hQ i d _ _ ho hm (fun o e w=>by have h1:=h.at_ t _ ht;have h2:=h.at_ k _ hk;have:=hx w;simp_all [execOp]) next
theorem takeF {fuel n:Nat} {listed:Array Bool} {a:Act} {w:World} {l:List (Nat × Value)} (h:Bun a n l) (hS:noneT T listed→S w) (hQ:∀ d v c a w,Q (.panic c) (a.put d v) w→Q (.panic c) a w) (i d t f:Nat) (ty:TypeId) (p q:Addr) (ho:isB ops i d (.fieldAddr ty (.tmp t) f)) (hm:mayT ops T listed i d n=true) (ht:lkB l t=some (.pointer (some p)))
  (hx:∀ w,(Go.Instr.fieldAt ty (.pointer (some p)) f).run P w = .ok (.pointer (some q)) w)
  (next:∀ a',a'=a.put (some d) (.pointer (some q))→Bun a' n ((d,.pointer (some q)) :: l)→wpAnyT P ops Q S T fuel (listed.setIfInBounds i true) a' w):wpAnyT P ops Q S T (fuel+1) listed a w:=
 takeU h hS hQ i d _ _ ho hm (fun o e w=>by have h1:=h.at_ t _ ht;have:=hx w;simp_all [execOp]) next
theorem takeC {fuel n:Nat} {listed:Array Bool} {a:Act} {w:World} {l:List (Nat × Value)} (h:Bun a n l) (hS:S w) (hQ:∀ d v c a w,Q (.panic c) (a.put d v) w→Q (.panic c) a w) (i d t:Nat) (ty:TypeId) (p:Addr) (v:Value) (ho:isB ops i d (.load ty (.tmp t))) (hm:(mayT ops T listed i d n && waitB ops T i && unl ops listed i && T.all fun t=>!(listed.getD t true))=true) (ht:lkB l t=some (.pointer (some p)))
  (hx:∀ w,S w→(Go.Instr.loadAt ty (.pointer (some p))).run P w = .ok v w)
  (next:∀ a',a'=a.put (some d) v→Bun a' n ((d,v) :: l)→wpAnyT P ops Q S T fuel (listed.setIfInBounds i true) a' w):wpAnyT P ops Q S T (fuel+1) listed a w:=
 takeL h hS hQ i d _ v ho hm (fun o e w hw=>by have h1:=h.at_ t _ ht;have:=hx w hw;simp_all [execOp]) next
theorem takeS {fuel n:Nat} {listed:Array Bool} {a:Act} {w:World} {l:List (Nat × Value)} (h:Bun a n l) (hS:S w) (hQ:∀ d v c a w,Q (.panic c) (a.put d v) w→Q (.panic c) a w) (i d t:Nat) (ty:TypeId) (b o:Nat) (cs:List Value) (ds:TypeDesc) (ho:isB ops i d (.load ty (.tmp t))) (hm:(mayT ops T listed i d n && waitB ops T i && unl ops listed i && T.all fun t=>!(listed.getD t true))=true) (ht:lkB l t=some (.pointer (some ⟨b,o,none⟩)))
  (hu:P.underlying ty=some ds) (hd:ds.isRow=true) (hi:(P.info? ty).map (·.size)=some cs.length) (hx:∀ w,S w→w.rangeAt b o cs)
  (next:∀ a',a'=a.put (some d) (.agg cs.toArray)→Bun a' n ((d,.agg cs.toArray) :: l)→wpAnyT P ops Q S T fuel (listed.setIfInBounds i true) a' w):wpAnyT P ops Q S T (fuel+1) listed a w:=
 takeL h hS hQ i d _ _ ho hm (fun oo e w hw=>by
  have h1:=h.at_ t _ ht
  have:=run_loadVar_mid w b o ty cs ds (hx w hw) hu hd hi
  unfold execOp
  simp only [e,h1,Go.Instr.loadAt,Go.Instr.sureAddr,Sem.run_bind,Sem.run_pure,Result.andThen_ok,this]) next
def putL (a:Act) (l:List (Nat × Value)):Act:=l.foldl (fun a x=>a.put (some x.1) x.2) a
theorem wpAnyT_next {i:Nat} {o:Oper} {fuel:Nat} {listed:Array Bool} {a:Act} {w:World} (hr:Region.ready .any ops listed=[i]) (ho:ops[i]? = some o) (hw:o.guard=none)
  (h:∀ K':Act→World→Prop,Shut (∀ a w,(noneT T (listed.setIfInBounds i true)→S w)→wpAnyT P ops Q S T fuel (listed.setIfInBounds i true) a w→K' a w)→Oper.wp P o a w K' Q):wpAnyT P ops Q S T (fuel+1) listed a w:=by
 refine ⟨fun h=>(by rw [hr] at h;cases h),fun j hj=>?_⟩
 rw [hr] at hj
 obtain rfl:j=i:=by simpa using hj
 refine wpOp_step ho fun K' hK=>?_
 rw [if_pos (by unfold Region.wanted;rw [hw])]
 exact h K' fun a w h1 h2=>hK a w ⟨h1,h2⟩
theorem takeCall {fuel n:Nat} {listed:Array Bool} {a:Act} {w:World} {l:List (Nat × Value)} (h:Bun a n l) (i d:Nat) (f:FuncId) (ts:List Nat) (ats:Array TypeId) (vs:List Value) {fn:Func} (R:Value→World→Prop)
  (hr:Region.ready .any ops listed=[i]) (ho:isB ops i d (.call { callee:=.value (.func f),args:=(ts.map fun t=>Operand.tmp t).toArray,argTypes:=ats })) (hd:Nat.blt d n=true)
  (hf:P.funcs[f]? = some fn) (hn:(fn.name == "runtime.NumGoroutine")=false) (hb:fn.body.isNone=false) (ht:ts.map (lkB l)=vs.map some)
  (hc:Calls P f vs.toArray w fun e w'=>∃ v,e = .returned v∧R v w')
  (next:∀ a' v w',R v w'→a'=a.put (some d) v→Bun a' n ((d,v) :: l)→(noneT T (listed.setIfInBounds i true)→S w')∧wpAnyT P ops Q S T fuel (listed.setIfInBounds i true) a' w'):wpAnyT P ops Q S T (fuel+1) listed a w:=by
 have hargs:((ts.map fun t=>Operand.tmp t).toArray).map a.eval=vs.toArray:=by
  rw [List.map_toArray,List.map_map]
  congr 1
  clear ho hc
  induction ts generalizing vs with
  | nil=>cases vs with
   | nil=>rfl
   | cons v vs=>simp at ht
  | cons t ts ih=>cases vs with
   | nil=>simp at ht
   | cons v vs=>
    simp only [List.map_cons,List.cons.injEq] at ht
    rw [List.map_cons,ih vs ht.2]
    congr 1
    exact h.at_ t v ht.1
 obtain ⟨o,hi,ho⟩:=Option.map_eq_some_iff.1 ho
 simp only [Prod.mk.injEq] at ho
 obtain ⟨h1,h2,h3⟩:=ho
 refine wpAnyT_next hr hi h3 fun K hK=>?_
 refine wp_callU h1 hf hn hb ?_
 rw [hargs]
 refine hc.mono fun e w' h'=>?_
 obtain ⟨v,rfl,hR⟩:=h'
 have hx:=next _ v w' hR rfl (h.put rfl (by simpa [Nat.blt_eq] using hd) v)
 show K (a.put o.dst v) w'
 rw [h2]
 exact hK.out _ _ hx.1 hx.2
theorem takeStore {fuel n:Nat} {listed:Array Bool} {a:Act} {w:World} {l:List (Nat × Value)} (h:Bun a n l) (i x y:Nat) (ty:TypeId) (b o:Nat) (cs:List Value)
  (hr:Region.ready .any ops listed=[i]) (ho:(ops[i]?.map fun o=>(o.op,o.dst,o.guard))=some (.store ty (.tmp x) (.tmp y),none,none)) (hx:lkB l x=some (.pointer (some ⟨b,o,none⟩))) (hy:lkB l y=some (.agg cs.toArray))
  (ht:w.there b o cs.length) (hi:(P.info? ty).map (·.size)=some cs.length) (h1:∀ v∈cs,v.oneCell'=true) (hT:(T.all fun t=>!((listed.setIfInBounds i true).getD t true))=false)
  (next:wpAnyT P ops Q S T fuel (listed.setIfInBounds i true) a (w.setCells b o cs)):wpAnyT P ops Q S T (fuel+1) listed a w:=by
 obtain ⟨oo,ho1,ho2⟩:=Option.map_eq_some_iff.1 ho
 simp only [Prod.mk.injEq] at ho2
 obtain ⟨h2,h3,h4⟩:=ho2
 refine wpAnyT_next hr ho1 h4 fun K hK=>?_
 refine wp_store_mid ty (.tmp x) (.tmp y) h2 b o cs.toArray (h.at_ x _ hx) (h.at_ y _ hy) (by simpa using ht) (by simpa using hi) (all_oneCell_toArray h1) ?_
 rw [h3]
 refine hK.out _ _ (fun hn=>?_) next
 have:(T.all fun t=>!((listed.setIfInBounds i true).getD t true))=true:=List.all_eq_true.2 fun t ht=>by simpa using hn t ht
 rw [hT] at this
 cases this
theorem wpAnyT_done {listed:Array Bool} {a:Act} {w:World} (hr:Region.ready .any ops listed=[]) (h:Q .normal a w):∀ fuel,wpAnyT P ops Q S T fuel listed a w
 | 0=>⟨hr,h⟩
 | fuel+1=>⟨fun _=>h,fun i hi=>by rw [hr] at hi;cases hi⟩
theorem wp_region_T {id:Nat} {a:Act} {w:World} (hm:P.follows .mixedOrders=true) (h:wpAnyT P ops Q S T ops.size (Array.replicate ops.size false) a w.drew):(Code.region id ops true).wp P Q a w:=
 wp_region_any hm (wpAny_ofT _ _ _ _ h)
end
end
section
open Go Go.RowKit Bth
set_option maxRecDepth 100000
theorem tmod_bd (x y:Int) (h:0 < y):-y < x.tmod y∧x.tmod y < y:=by
 have h1:=Int.tmod_lt_of_pos x h
 have h2:=Int.tmod_lt_of_pos (-x) h
 rw [Int.neg_tmod] at h2
 omega
theorem oV_int (o:Option Nat):∃ z:Int,oV o = .int .i64 z∧(∀ s:Nat,z=(s:Int)→o=some s) ∧ -1≤z:=by
 cases o with
 | none=>exact ⟨-1,rfl,fun s h=>by omega,by omega⟩
 | some s=>exact ⟨s,rfl,fun t h=>by congr 1;omega,by omega⟩
end
end Go.Proofs.YtbgblfiapecioaaGreat
