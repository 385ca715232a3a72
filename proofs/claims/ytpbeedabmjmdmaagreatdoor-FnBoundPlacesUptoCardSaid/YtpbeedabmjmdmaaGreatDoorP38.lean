/- Part of the proof of a statement about pub-berthage: what its texts have in common. -/
import Derived.Test.YtpbeedabmjmdmaaGreatDoorP32
import Derived.Test.YtpbeedabmjmdmaaGreatDoorP34
import Derived.Test.YtpbeedabmjmdmaaGreatDoorP36
import Derived.Test.YtpbeedabmjmdmaaGreatDoorP37
namespace Go.Proofs.YtpbeedabmjmdmaaGreatDoor
section
open Go Go.RowKit Bth
set_option maxRecDepth 100000
abbrev MC:=Nat→Nat→Option Nat
section
variable (mx:Nat→Nat→Nat)
def valC (M:MC) (c b:Nat):Nat:=(M c b).getD (mx c b)
def setC (M:MC) (x:Nat × Nat × Nat):MC:=fun i b=>if i=x.1∧b=x.2.1 then some x.2.2 else M i b
def rdB (M:MC) (id sp s b:Nat):Nat:=if sp.testBit b then mx s (valC mx M id b) else s
def rdG (M:MC) (s:Nat) (x:Nat × Nat):Nat:=(List.range 16).foldl (rdB mx M x.1 x.2) s
def rdM (M:MC) (l:List (Nat × Nat)) (s:Nat):Nat:=l.foldl (rdG mx M) s
def wrG (n k:Nat) (x:Nat × Nat):List (Nat × Nat × Nat):=((List.range 16).filter fun b=>x.2.testBit b).map fun b=>(x.1,b,mx n (16*k+b))
def wrM (n:Nat):Nat→List (Nat × Nat)→List (Nat × Nat × Nat)
 | _,[]=>[]
 | k,x :: l=>wrG mx n k x ++ wrM n (k+1) l
def Vrel (live:Nat→Nat→Prop) (a:Nat→Nat) (M M':MC):Prop:=∀ c b,live c b→valC mx M' (a c) b=valC mx M c b
def pendC (l:List (Nat × Nat × Nat)) (c b:Nat):Prop:=∃ y∈l,y.1=c∧y.2.1=b
variable {mx}
theorem Vrel.mono {live live':Nat→Nat→Prop} {a:Nat→Nat} {M M':MC} (h:Vrel mx live a M M') (hs:∀ c b,live' c b→live c b):Vrel mx live' a M M':=fun c b hl=>h c b (hs c b hl)
theorem Vrel.set {live:Nat→Nat→Prop} {a:Nat→Nat} {x:Nat × Nat × Nat} {l:List (Nat × Nat × Nat)} {M M':MC} (h:Vrel mx (fun c b=>live c b∧¬pendC (x :: l) c b) a M M')
  (hap:∀ c,live c x.2.1→c≠x.1→a c≠a x.1):Vrel mx (fun c b=>live c b∧¬pendC l c b) a (setC M x) (setC M' (a x.1,x.2)):=by
 rintro c b ⟨hl,hp⟩
 unfold valC setC
 by_cases h1:c=x.1∧b=x.2.1
 ·obtain ⟨rfl,rfl⟩:=h1
  simp
 ·rw [if_neg h1]
  have h2:¬(a c=(a x.1,x.2).1∧b=(a x.1,x.2).2.1):=by
   rintro ⟨e1,e2⟩
   have e2:b=x.2.1:=e2
   subst e2
   exact hap c hl (fun e=>h1 ⟨e,rfl⟩) e1
  rw [if_neg h2]
  refine h c b ⟨hl,?_⟩
  rintro ⟨y,hy,e1,e2⟩
  rcases List.mem_cons.1 hy with rfl | hy
  ·exact h1 ⟨e1.symm,e2.symm⟩
  ·exact hp ⟨y,hy,e1,e2⟩
theorem Vrel.sets {live:Nat→Nat→Prop} {a:Nat→Nat} : ∀ {l:List (Nat × Nat × Nat)} {M M':MC},Vrel mx (fun c b=>live c b∧¬pendC l c b) a M M'→(∀ x∈l,∀ c,live c x.2.1→c≠x.1→a c≠a x.1) →
  Vrel mx live a (l.foldl setC M) ((l.map fun x=>(a x.1,x.2)).foldl setC M')
 | [],M,M',h,_=>h.mono fun c b hl=>⟨hl,by rintro ⟨y,hy,_⟩;cases hy⟩
 | x :: l,M,M',h,hap=>by
  simp only [List.map_cons,List.foldl_cons]
  exact Vrel.sets (h.set (hap x (by simp))) fun y hy=>hap y (by simp [hy])
theorem wrM_map {a:Nat→Nat} (n:Nat):∀ (k:Nat) (l:List (Nat × Nat)),wrM mx n k (l.map fun x=>(a x.1,x.2))=(wrM mx n k l).map fun x=>(a x.1,x.2)
 | _,[]=>rfl
 | k,x :: l=>by
  simp only [List.map_cons,wrM,List.map_append]
  rw [wrM_map n (k+1) l]
  congr 1
  simp [wrG,Function.comp_def]
theorem wrM_mem {n:Nat} {y:Nat × Nat × Nat} : ∀ {k:Nat} {l:List (Nat × Nat)},y∈wrM mx n k l→∃ x∈l,x.1=y.1∧x.2.testBit y.2.1=true∧y.2.1 < 16
 | _,[],h=>by cases h
 | k,x :: l,h=>by
  rcases List.mem_append.1 h with h | h
  ·obtain ⟨b,hb,rfl⟩:=List.mem_map.1 h
   obtain ⟨h1,h2⟩:=List.mem_filter.1 hb
   exact ⟨x,by simp,rfl,h2,List.mem_range.1 h1⟩
  ·obtain ⟨z,hz,h⟩:=wrM_mem h
   exact ⟨z,by simp [hz],h⟩
theorem wrM_of {n:Nat} {x:Nat × Nat} {b:Nat} (hb:x.2.testBit b=true) (h16:b < 16):∀ {k:Nat} {l:List (Nat × Nat)},x∈l→pendC (wrM mx n k l) x.1 b
 | k,z :: l,h=>by
  rcases List.mem_cons.1 h with rfl | h
  ·exact ⟨(x.1,b,mx n (16*k+b)),List.mem_append.2 (.inl (List.mem_map.2 ⟨b,List.mem_filter.2 ⟨List.mem_range.2 h16,hb⟩,rfl⟩)),rfl,rfl⟩
  ·obtain ⟨y,hy,e⟩:=wrM_of hb h16 (k:=k+1) h
   exact ⟨y,List.mem_append.2 (.inr hy),e⟩
theorem rdM_map {live:Nat→Nat→Prop} {a:Nat→Nat} {M M':MC} (h:Vrel mx live a M M'):∀ (l:List (Nat × Nat)) (s:Nat),(∀ x∈l,∀ b,x.2.testBit b=true→live x.1 b)→rdM mx M' (l.map fun x=>(a x.1,x.2)) s=rdM mx M l s
 | [],_,_=>rfl
 | x :: l,s,hl=>by
  simp only [rdM,List.map_cons,List.foldl_cons]
  have e:rdG mx M' s (a x.1,x.2)=rdG mx M s x:=by
   unfold rdG
   have key:∀ (L:List Nat) (s:Nat),L.foldl (rdB mx M' (a x.1) x.2) s=L.foldl (rdB mx M x.1 x.2) s:=by
    intro L
    induction L with
    | nil=>exact fun _=>rfl
    | cons b L ih=>
     intro s
     rw [List.foldl_cons,List.foldl_cons,ih]
     congr 1
     unfold rdB
     by_cases hb:x.2.testBit b=true
     ·rw [if_pos hb,if_pos hb,h x.1 b (hl x (by simp) b hb)]
     ·rw [if_neg hb,if_neg hb]
   exact key _ _
  rw [e]
  exact rdM_map h l _ fun y hy=>hl y (by simp [hy])
end
def WayP (n:Nat) (sc:Nat→List (Option Nat)):Nat→List Nat→Prop
 | _,[]=>True
 | at_,p :: ps=>p=at_∧at_ < n∧(ps=[]∨∃ s,some s∈sc at_∧WayP n sc s ps)
def ranP (mx:Nat→Nat→Nat) (R W:Nat→List (Nat × Nat)):MC→List Nat→List Nat
 | _,[]=>[]
 | M,p :: ps=>let n:=rdM mx M (R p) (p+1);n :: ranP mx R W ((wrM mx n 0 (W p)).foldl setC M) ps
theorem ran_same {mx:Nat→Nat→Nat} {f:Flow} {a:Nat→Nat} {R W R' W':Nat→List (Nat × Nat)} {sc:Nat→List (Option Nat)} (hsc:f.next=fun k s=>some s∈sc k)
  (hR:∀ k,k < f.n→∀ c b,(∃ x∈R k,x.1=c∧x.2.testBit b=true)→f.reads k c b)
  (hW:∀ k c b,k < f.n→f.writes k c b→∃ x∈W k,x.1=c∧x.2.testBit b=true∧b < 16)
  (hap:∀ k,k < f.n→∀ x∈W k,∀ c b,LiveOut f.reads f.writes f.succ k c b→x.2.testBit b=true→c≠x.1→a c≠a x.1)
  (hW':∀ k,k < f.n→W' k=(W k).map fun x=>(a x.1,x.2))
  (hR':∀ k,k < f.n→(∀ c d b,LiveIn f.reads f.writes f.succ k c b→LiveIn f.reads f.writes f.succ k d b→a c=a d→c=d)→R' k=(R k).map fun x=>(a x.1,x.2)):
  ∀ (ps:List Nat) (at_:Nat) (M M':MC),WayP f.n sc at_ ps→Vrel mx (LiveIn f.reads f.writes f.succ at_) a M M'→(∀ c d b,LiveIn f.reads f.writes f.succ at_ c b→LiveIn f.reads f.writes f.succ at_ d b→a c=a d→c=d) →
   ranP mx R' W' M' ps=ranP mx R W M ps
 | [],_,_,_,_,_,_=>rfl
 | p :: ps,at_,M,M',hw,hv,hi=>by
  obtain ⟨rfl,hn,hw⟩:=hw
  have e1:=hR' p hn hi
  have e2:rdM mx M' (R' p) (p+1)=rdM mx M (R p) (p+1):=by
   rw [e1]
   exact rdM_map hv _ _ fun x hx b hb=>.read (hR p hn x.1 b ⟨x,hx,rfl,hb⟩)
  simp only [ranP,e2]
  congr 1
  cases ps with
  | nil=>rfl
  | cons q ps=>
  rcases hw with h | ⟨s,hs,hw⟩
  ·cases h
  have hlt:s < f.n:=hw.2.1
  have hsu:f.succ p s:=⟨hn,hlt,by rw [hsc];exact hs⟩
  have hout:∀ c b,LiveIn f.reads f.writes f.succ s c b→LiveOut f.reads f.writes f.succ p c b:=fun c b h=>⟨s,hsu,h⟩
  refine ran_same hsc hR hW hap hW' hR' (q :: ps) s _ _ hw ?_ fun c d b hc hd hcd=>?_
  ·rw [hW' p hn,wrM_map]
   refine Vrel.sets (live:=LiveIn f.reads f.writes f.succ s) (hv.mono fun c b hl=>?_) fun x hx c hl hne=>?_
   ·refine LiveIn.cases_iff.2 (.inr ⟨hout c b hl.1,fun hwr=>hl.2 ?_⟩)
    obtain ⟨x,hx,rfl,hb,h16⟩:=hW p c b hn hwr
    exact wrM_of hb h16 hx
   ·obtain ⟨y,hy,e,hb,_⟩:=wrM_mem hx
    rw [← e]
    exact hap p hn y hy c _ (hout _ _ hl) hb (by rw [e];exact hne)
  ·have hc':=hout c b hc
   have hd':=hout d b hd
   by_cases hcw:f.writes p c b
   ·obtain ⟨x,hx,rfl,hb,_⟩:=hW p c b hn hcw
    exact Classical.byContradiction fun hne=>hap p hn x hx d b hd' hb (fun e=>hne e.symm) hcd.symm
   ·by_cases hdw:f.writes p d b
    ·obtain ⟨x,hx,rfl,hb,_⟩:=hW p d b hn hdw
     exact Classical.byContradiction fun hne=>hap p hn x hx c b hc' hb hne hcd
    ·exact hi c d b (LiveIn.cases_iff.2 (.inr ⟨hc',hcw⟩)) (LiveIn.cases_iff.2 (.inr ⟨hd',hdw⟩)) hcd
end
section
open Go Go.RowKit Bth
set_option maxRecDepth 100000
theorem BX.map {f:Nat→Option Nat} {x y:Option R} (h:BX f x y):y.map R.plain=(x.map R.plain).map (bindG f):=by
 cases x<;>cases y
 ·rfl
 ·exact h.elim
 ·exact h.elim
 ·simp only [Option.map_some];exact congrArg some h
theorem toList_map {α β : Type} (g:α → β) (x:Option α):x.toList.map g=(x.map g).toList:=by cases x<;>rfl
theorem BO.regs {f:Nat→Option Nat} {o o':O} (h:BO f o o'):o'.regs.map R.plain=(o.regs.map R.plain).map (bindG f)∧o'.asReg.map R.plain=(o.asReg.map R.plain).map (bindG f)∧o'.isMem=o.isMem:=by
 cases o<;>cases o'<;>try exact h.elim
 ·refine ⟨?_,?_,rfl⟩
  ·simp only [O.regs,List.map_cons,List.map_nil];exact congrArg (fun x=>[x]) h
  ·simp only [O.asReg,Option.map_some];exact congrArg some h
 ·obtain ⟨x,y,rfl,hx,hy⟩:=h
  refine ⟨?_,rfl,rfl⟩
  simp only [O.regs,M.regs,List.map_append,toList_map,hx.map,hy.map]
 ·exact ⟨rfl,rfl,rfl⟩
 ·exact ⟨rfl,rfl,rfl⟩
 ·exact ⟨rfl,rfl,rfl⟩
theorem po_regs (o:O):o.po.gs=o.regs.map R.plain∧o.po.asG=o.asReg.map R.plain∧(o.po.kind == 2)=o.isMem:=by
 cases o with
 | mem m=>
  obtain ⟨sy,st,di,ba,ix,sc⟩:=m
  refine ⟨?_,rfl,rfl⟩
  cases ba<;>cases ix<;>rfl
 | _=>exact ⟨rfl,rfl,rfl⟩
theorem BL.all {f:Nat→Option Nat} {n:Nat} {l l':List O} (h:BL f n l l') (hn:l.length≤n):∀ (k:Nat) (o o':O),l[k]? = some o→l'[k]? = some o'→BO f o o':=fun k o o' h1 h2=>by
 have:=h.2 k o o' h1 h2
 have hk:=(List.getElem?_eq_some_iff.1 h1).1
 rwa [if_pos (by omega)] at this
def BLs (f:Nat→Option Nat):List O→List O→Prop
 | [],[]=>True
 | o :: l,o' :: l'=>BO f o o'∧BLs f l l'
 | _,_=>False
theorem BLs.of {f:Nat→Option Nat} : ∀ {l l':List O},l'.length=l.length→(∀ (k:Nat) (o o':O),l[k]? = some o→l'[k]? = some o'→BO f o o')→BLs f l l'
 | [],[],_,_=>trivial
 | [],_ :: _,h,_=>by simp at h
 | _ :: _,[],h,_=>by simp at h
 | o :: l,o' :: l',h,hb=>⟨hb 0 o o' rfl rfl,BLs.of (by simpa using h) fun k x x' h1 h2=>hb (k+1) x x' h1 h2⟩
theorem bindG_ok {f:Nat→Option Nat} {g:G} (h:okG g=true):okG (bindG f g)=true:=by
 unfold bindG
 split
 ·split
  ·exact h
  ·split
   ·exact h
   ·split
    ·assumption
    ·exact h
 ·exact h
theorem okP_po {o:O} (h:∀ g∈o.regs.map R.plain,okG g=true):okP o.po=true:=by
 cases o with
 | reg r=>exact h r.plain (by simp [O.regs])
 | mem m=>
  obtain ⟨sy,st,di,ba,ix,sc⟩:=m
  show okM _=true
  unfold okM O.po
  cases ba with
  | none=>
   cases ix with
   | none=>rfl
   | some r=>simpa using h r.plain (by simp [O.regs,M.regs])
  | some b=>
   cases ix with
   | none=>simpa using h b.plain (by simp [O.regs,M.regs])
   | some r=>simpa using ⟨h b.plain (by simp [O.regs,M.regs]),h r.plain (by simp [O.regs,M.regs])⟩
 | con c=>obtain ⟨k,b,t⟩:=c;cases k<;>rfl
 | label s=>rfl
 | rel n=>rfl
structure BoundL (f:Nat→Option Nat) (ps ps':List PO):Prop where
 gs:gsOf ps'=(gsOf ps).map (bindG f)
 outs:outGs ps'=(outGs ps).map (bindG f)
 mem:memGs ps'=(memGs ps).map (bindG f)
 ok:ps.all okP=true→ps'.all okP=true
theorem BLs.regs {f:Nat→Option Nat} : ∀ {l l':List O} {ps:List PO},BLs f l l'→ps.length=l.length→(∀ (k:Nat) (p:PO) (o:O),ps[k]? = some p→l[k]? = some o→p.gs=o.regs.map R.plain∧p.asG=o.asReg.map R.plain∧(p.kind == 2)=o.isMem)→BoundL f ps (l'.map O.po)
 | [],[],[],_,_,_=>⟨rfl,rfl,rfl,fun h=>h⟩
 | [],[],_ :: _,_,h,_=>by simp at h
 | [],_ :: _,_,h,_,_=>h.elim
 | _ :: _,[],_,h,_,_=>h.elim
 | _ :: _,_ :: _,[],_,h,_=>by simp at h
 | o :: l,o' :: l',p :: ps,h,hl,hp=>by
  obtain ⟨h1,h2⟩:=h
  have ih:=BLs.regs h2 (by simpa using hl) fun k q x e1 e2=>hp (k+1) q x e1 e2
  obtain ⟨a1,a2,a3⟩:=hp 0 p o rfl rfl
  obtain ⟨b1,b2,b3⟩:=h1.regs
  obtain ⟨c1,c2,c3⟩:=po_regs o'
  refine ⟨?_,?_,?_,fun hk=>?_⟩
  rotate_left 3
  ·rw [List.all_cons,Bool.and_eq_true] at hk
   rw [List.map_cons,List.all_cons,Bool.and_eq_true]
   refine ⟨okP_po fun g hg=>?_,ih.ok hk.2⟩
   rw [b1,← a1] at hg
   obtain ⟨g',hg',rfl⟩:=List.mem_map.1 hg
   exact bindG_ok (okP_gs hk.1 g' hg')
  ·simp only [gsOf,List.map_cons,List.flatMap_cons,List.map_append]
   rw [c1,b1,← a1]
   congr 1
   exact ih.gs
  ·have e:=ih.outs
   simp only [outGs,List.map_cons,List.filterMap_cons] at e ⊢
   rw [c2,b2,← a2]
   cases p.asG with
   | none=>exact e
   | some g=>simp only [Option.map_some,List.map_cons];exact congrArg _ e
  ·have e:=ih.mem
   unfold memGs at e ⊢
   simp only [List.map_cons,List.filter_cons]
   rw [c3,b3,← a3]
   cases hk:p.kind == 2 with
   | false=>simpa using e
   | true=>
    simp only [if_true,gsOf,List.flatMap_cons,List.map_append]
    rw [c1,b1,← a1]
    congr 1
theorem po_target (l:List O):targetP (l.map O.po)=targetOf true l:=by
 cases l with
 | nil=>rfl
 | cons o l=>cases o<;>rfl
theorem BLs.target {f:Nat→Option Nat} : ∀ {l l':List O},BLs f l l'→targetOf true l'=targetOf true l
 | [],[],_=>rfl
 | [],_ :: _,h=>h.elim
 | _ :: _,[],h=>h.elim
 | o :: _,o' :: _,h=>by
  obtain ⟨h1,_⟩:=h
  cases o<;>cases o'<;>first | exact h1.elim | rfl | (obtain rfl:=h1;rfl)
structure BoundI (f:Nat→Option Nat) (p p':PI):Prop where
 ops:BoundL f p.ops p'.ops
 inp:BoundL f p.inp p'.inp
 out:BoundL f p.out p'.out
 opc:p'.opc=p.opc
 suf:p'.suf=p.suf
 isa:p'.isa=p.isa
 term:p'.term=p.term
 br:p'.br=p.br
 cond:p'.cond=p.cond
 canc:p'.canc=p.canc
 tgt:targetP p'.ops=targetP p.ops
theorem pOps_each {w:World} {wb:Nat} {fs:Nat→Option Nat} (h:WAt w wb fs):∀ {ps:List PO} {os:List O},(∀ p∈ps,p.Ok)→pOps fs ps=some os→∀ (k:Nat) (p:PO) (o:O),ps[k]? = some p→os[k]? = some o→p.gs=o.regs.map R.plain∧p.asG=o.asReg.map R.plain∧(p.kind == 2)=o.isMem
 | [],_,_,_,k,p,o,h1,_=>by cases h1
 | p :: ps,os,hp,ho,k,q,o,h1,h2=>by
  simp only [pOps] at ho
  obtain ⟨o1,e1,ho⟩:=Option.bind_eq_some_iff.1 ho
  obtain ⟨os',e2,rfl⟩:=Option.map_eq_some_iff.1 ho
  cases k with
  | zero=>
   injection h1 with h1
   injection h2 with h2
   subst h1 h2
   obtain ⟨a,b,c,_⟩:=opOf_regs h (hp p (by simp)) e1
   exact ⟨a.symm,b.symm,c.symm⟩
  | succ k=>exact pOps_each h (fun x hx=>hp x (by simp [hx])) e2 k q o h1 h2
theorem bound_list {w:World} {wb:Nat} {fs:Nat→Option Nat} (hW:WAt w wb fs) {f:Nat→Option Nat} {n:Nat} {ps:List PO} {l l':List O} (hp:∀ p∈ps,p.Ok) (ho:pOps fs ps=some l) (h:BL f n l l') (hn:l.length≤n):BoundL f ps (l'.map O.po):=
 (BLs.of h.1 (h.all hn)).regs (pOps_len ho).symm (pOps_each hW hp ho)
theorem bound_ins {f:Nat→Option Nat} {ns ns':List PN} (h:BoundN f ns ns') (hp:∀ p∈insP ns,p.Ok):
  (insP ns').length=(insP ns).length∧∀ (k:Nat) (p p':PI),(insP ns)[k]? = some p→(insP ns')[k]? = some p'→BoundI f p p':=by
 obtain ⟨fs,w0,wb,nds,rs,rs',cms,hW,hM,hB,hP,hnd,hcu⟩:=h
 obtain ⟨hl,hm⟩:=hM.match_
 have hbs:insOf nds=rs.map (·.b):=hM.insOf
 have hb':rs'.map (·.b)=rs.map (·.b):=by
  refine List.ext_getElem? fun k=>?_
  rw [List.getElem?_map,List.getElem?_map]
  cases h1:rs[k]? with
  | none=>
   have:=List.getElem?_eq_none_iff.1 h1
   rw [List.getElem?_eq_none (by rw [hB.len];omega)]
  | some r=>
   have hk:=(List.getElem?_eq_some_iff.1 h1).1
   have h2:rs'[k]? = some (rs'[k]'(by rw [hB.len];omega)):=List.getElem?_eq_getElem _
   rw [h2]
   exact congrArg some (hB.each k r _ h1 h2).b
 have key:∀ (nds:List Nd) (ns':List PN),NdsP rs' cms nds ns'→(insP ns').length=(insOf nds).length∧∀ (k:Nat) (p':PI) (b:Nat),(insP ns')[k]? = some p'→(insOf nds)[k]? = some b→∃ r∈rs',r.b=b∧RecP r p':=by
  intro nds
  induction nds with
  | nil=>
   intro ns' h
   have:ns'=[]:=List.eq_nil_of_length_eq_zero (by simpa using h.1)
   subst this
   exact ⟨rfl,fun k p' b h1=>by cases h1⟩
  | cons nd nds ih=>
   intro ns' h
   obtain ⟨q,hq,hnq⟩:=h.2 0 nd rfl
   cases ns' with
   | nil=>cases hq
   | cons n0 ns'=>
    injection hq with hq
    subst hq
    obtain ⟨i1,i2⟩:=ih ns' ⟨by simpa using h.1,fun k x hx=>h.2 (k+1) x hx⟩
    cases nd with
    | ins b0=>
     obtain ⟨hk,_,_,r,hr,hrb,hrp⟩:=hnq
     have e1:insP (n0 :: ns')=n0.ins :: insP ns':=by unfold insP;rw [List.filter_cons,if_pos (by simp [hk])];rfl
     have e2:insOf (Nd.ins b0 :: nds)=b0 :: insOf nds:=rfl
     rw [e1,e2]
     refine ⟨by simp [i1],fun k p' b h1 h2=>?_⟩
     cases k with
     | zero=>
      injection h1 with h1
      injection h2 with h2
      subst h1 h2
      exact ⟨r,hr,hrb,hrp⟩
     | succ k=>exact i2 k p' b h1 h2
    | label s=>
     have hk:n0.kind=2:=hnq.1
     have e1:insP (n0 :: ns')=insP ns':=by unfold insP;rw [List.filter_cons,if_neg (by simp [hk])]
     have e2:insOf (Nd.label s :: nds)=insOf nds:=rfl
     rw [e1,e2]
     exact ⟨i1,i2⟩
    | comment c=>
     have hk:n0.kind=3:=hnq.1
     have e1:insP (n0 :: ns')=insP ns':=by unfold insP;rw [List.filter_cons,if_neg (by simp [hk])]
     have e2:insOf (Nd.comment c :: nds)=insOf nds:=rfl
     rw [e1,e2]
     exact ⟨i1,i2⟩
 obtain ⟨k1,k2⟩:=key nds ns' hP
 refine ⟨by rw [k1,hbs,List.length_map,hl],fun k p p' h1 h2=>?_⟩
 have hk:k < rs.length:=by rw [← hl];exact (List.getElem?_eq_some_iff.1 h1).1
 obtain ⟨r,hr⟩:∃ r,rs[k]? = some r:=⟨_,List.getElem?_eq_getElem hk⟩
 obtain ⟨r1,hr1,hrb,hrp⟩:=k2 k p' r.b h2 (by rw [hbs,List.getElem?_map,hr];rfl)
 obtain ⟨r',hr'⟩:∃ r',rs'[k]? = some r':=⟨_,List.getElem?_eq_getElem (by rw [hB.len];exact hk)⟩
 have hBR:=hB.each k r r' hr hr'
 have e:r1=r':=by
  obtain ⟨j,hj⟩:=List.getElem?_of_mem hr1
  have hjb:(rs.map (·.b))[j]? = some r.b:=by rw [← hb',List.getElem?_map,hj,Option.map_some,hrb]
  have hkb:(rs.map (·.b))[k]? = some r.b:=by rw [List.getElem?_map,hr];rfl
  have:=(List.getElem?_inj (by rw [List.length_map];exact (by have:=(List.getElem?_eq_some_iff.1 hj).1;rw [hB.len] at this;exact this)) hnd).1 (hjb.trans hkb.symm)
  subst this
  rw [hr'] at hj
  exact (Option.some.inj hj).symm
 subst e
 have hR:=hm k p r h1 hr
 have hpk:=hp p (List.mem_of_getElem? h1)
 have hup:∀ q,upTo2 rs rs.length k q=(r.row q).length:=fun q=>by unfold upTo2;rw [if_pos hk,hr];rfl
 have row:=hBR.row
 refine ⟨?_,?_,?_,?_,?_,?_,?_,?_,?_,?_,?_⟩
 ·rw [hrp.ops];exact bound_list hW hpk.ops hR.ops (row 0 (by omega)) (by rw [hup];exact Nat.le_refl _)
 ·rw [hrp.inp];exact bound_list hW hpk.inp hR.inp (row 1 (by omega)) (by rw [hup];exact Nat.le_refl _)
 ·rw [hrp.out];exact bound_list hW hpk.out hR.out (row 2 (by omega)) (by rw [hup];exact Nat.le_refl _)
 ·rw [hrp.opc,hBR.i,hR.opc]
 ·rw [hrp.suf,hBR.suf,hR.suf]
 ·rw [hrp.isa,hBR.isa,hR.isa]
 ·rw [hrp.term,hBR.i,hR.term]
 ·rw [hrp.br,hBR.i,hR.br]
 ·rw [hrp.cond,hBR.i,hR.cond]
 ·rw [hrp.canc,hBR.i,hR.canc]
 ·rw [hrp.ops,po_target,← target_plain hR.ops]
  exact (BLs.of (row 0 (by omega)).1 ((row 0 (by omega)).all (by rw [hup];exact Nat.le_refl _))).target
theorem BoundI.ins {f:Nat→Option Nat} {p p':PI} (h:BoundI f p p') (hc:p.canc=true→∀ g g' l,gsOf p.inp=g :: g' :: l→bindG f g=bindG f g'→g=g'):inGs p'.canc p'.inp p'.out=(inGs p.canc p.inp p.out).map (bindG f):=by
 rw [h.canc]
 cases hcn:p.canc with
 | false=>rw [inGs_f,inGs_f,h.inp.gs,h.out.mem,List.map_append]
 | true=>
  rw [inGs_t _ _ _ rfl,inGs_t _ _ _ rfl,h.inp.gs,h.out.mem,List.map_append]
  congr 1
  have hc:=hc hcn
  generalize gsOf p.inp=l at hc ⊢
  match l,hc with
  | [],_=>rfl
  | [g],_=>rfl
  | g :: g' :: l,hc=>
   by_cases hgg:g=g'
   ·subst hgg
    simp [canc2]
   ·have hne:¬bindG f g=bindG f g':=fun e=>hgg (hc g g' l rfl e)
    simp [canc2,hgg,hne]
theorem BoundI.ok {f:Nat→Option Nat} {p p':PI} (h:BoundI f p p') (hk:okI p=true):okI p'=true:=by
 unfold okI at hk ⊢
 simp only [Bool.and_eq_true] at hk ⊢
 exact ⟨⟨h.ops.ok hk.1.1,h.inp.ok hk.1.2⟩,h.out.ok hk.2⟩
theorem bound_ok {f:Nat→Option Nat} {ns ns':List PN} (h:BoundN f ns ns') (hp:∀ p∈insP ns,p.Ok) (hk:ns.all okN=true):ns'.all okN=true:=by
 have hb:=bound_ins h hp
 have hki:∀ p∈insP ns,okI p=true:=fun p hpm=>by
  obtain ⟨n,h1,rfl⟩:=List.mem_map.1 hpm
  obtain ⟨h1,h2⟩:=List.mem_filter.1 h1
  have h3:=List.all_eq_true.1 hk n h1
  unfold okN at h3
  rw [if_pos (by simpa using h2)] at h3
  exact h3
 have hki':∀ p'∈insP ns',okI p'=true:=fun p' hp'=>by
  obtain ⟨k,hk'⟩:=List.getElem?_of_mem hp'
  have hlt:k < (insP ns).length:=by rw [← hb.1];exact (List.getElem?_eq_some_iff.1 hk').1
  have h1:=List.getElem?_eq_getElem hlt
  exact (hb.2 k _ p' h1 hk').ok (hki _ (List.mem_of_getElem? h1))
 obtain ⟨fs,w0,wb,nds,rs,rs',cms,hW,hM,hB,hP,hnd,hcu⟩:=h
 rw [List.all_eq_true]
 intro n hn
 obtain ⟨k,hkn⟩:=List.getElem?_of_mem hn
 have hlt:k < nds.length:=by rw [← hP.1];exact (List.getElem?_eq_some_iff.1 hkn).1
 obtain ⟨q,hq,hnq⟩:=hP.2 k _ (List.getElem?_eq_getElem hlt)
 rw [hkn] at hq
 obtain rfl:=Option.some.inj hq
 unfold okN
 generalize nds[k]=nd at hnq
 cases nd with
 | ins b=>
  have hk1:n.kind=1:=hnq.1
  rw [if_pos hk1]
  exact hki' _ (List.mem_map.2 ⟨n,List.mem_filter.2 ⟨hn,by simp [hk1]⟩,rfl⟩)
 | label s=>
  have hk2:n.kind=2:=hnq.1
  simp [hk2]
 | comment c=>
  have hk3:n.kind=3:=hnq.1
  simp [hk3]
end
section
open Go Go.RowKit Bth
set_option maxRecDepth 100000
theorem SInv.full {f:LF} (hf:f.Ok) {I O:Nat→TL} (h:SInv f I O) (hc:Closed f I O) {k c b:Nat} (hl:LiveIn f.flow.reads f.flow.writes f.flow.succ k c b):(tv (I k) c).testBit b=true:=by
 refine LiveIn.least (inn:=fun k c b=>(tv (I k) c).testBit b=true) (fun i c b hr=>?_) (fun i s c b hs hb hw=>?_) hl
 ·obtain ⟨hi,hr⟩:=hr
  show (tv (I i) c).testBit b=true
  rw [← (hc i hi).2,LF.A,lvA_bit (B:=f.B I i) (lvB_tidy h.ti .nil) (hf.w i) (hf.r i)]
  exact .inr hr
 ·obtain ⟨hi,_,hs⟩:=hs
  show (tv (I i) c).testBit b=true
  rw [← (hc i hi).2,LF.A,lvA_bit (B:=f.B I i) (lvB_tidy h.ti .nil) (hf.w i) (hf.r i)]
  refine .inl ⟨?_,Bool.eq_false_iff.2 hw⟩
  rw [LF.B,lvB_bit h.ti c b .nil]
  exact .inr ⟨s,hs,hb⟩
theorem regsK_id:∀ k,k < 4→∀ p∈regsK k,isV p=false∧(⟨false,kindOf p,indexOf p,0⟩:G).id=p∧kindOf p=k:=by decide +kernel
theorem regsK_whole:∀ k,k < 4→∀ p∈regsK k,∀ s∈[1,3,7,15,31,63,127],wholeG ⟨true,k,0,s⟩=true→okG ⟨false,k,indexOf p,s⟩=true:=by decide +kernel
theorem wholeG_spec {g:G} (h:wholeG g=true):g.spec∈[1,3,7,15,31,63,127]∧g.kind < 4:=by
 unfold wholeG at h
 split at h
 ·simp at h ⊢;omega
 ·split at h
  ·simp at h ⊢;omega
  ·split at h
   ·simp at h ⊢;omega
   ·cases h
theorem af_mem {ns:List PN} {f:Nat→Option Nat} (h:AFRes ns (some f)) (hk:∀ k,kindsP (insP ns) k→k≤3):∀ v p,f v=some p→isV v=true∧kindOf v≤3∧p∈regsK (kindOf v):=by
 obtain ⟨sc,fk,hG,hc,hf⟩:=h
 intro v p hv
 by_cases hkv:kindsP (insP ns) (kindOf v)
 ·have e:=(hf v).1 hkv
  obtain ⟨_,_,s3,s4⟩:=(hc _ hkv).spec
  obtain ⟨q,hq,hm⟩:=s3 v (by rw [← e,hv];simp)
  rw [← e,hv] at hq
  injection hq with hq
  subst hq
  refine ⟨?_,hk _ hkv,hm⟩
  cases hvv:isV v with
  | true=>rfl
  | false=>rw [e,s4 v hvv] at hv;cases hv
 ·rw [(hf v).2 hkv] at hv;cases hv
section
variable {ns ns':List PN} {f:Nat→Option Nat}
theorem bindG_id (hr:AFRes ns (some f)) (hok:AFOk ns) {g:G} (hg:g.Ok) (hw:g.virt=true→wholeG g=true):(bindG f g).id=lk f g.id∧(bindG f g).spec=g.spec∧(g.virt=false→bindG f g=g):=by
 have hm:=af_mem hr (fun k ⟨p,hp,g,hg,e⟩=>by rw [← e];exact hok.kinds p hp g hg)
 have hvg:isV g.id=g.virt:=G.virt_id
 cases hv:g.virt with
 | false=>
  have e:bindG f g=g:=by unfold bindG;rw [hv];rfl
  have en:f g.id=none:=by
   cases hf:f g.id with
   | none=>rfl
   | some p=>have:=(hm _ _ hf).1;rw [hvg,hv] at this;cases this
  refine ⟨?_,by rw [e],fun _=>e⟩
  rw [e];unfold lk;rw [en];rfl
 | true=>
  have e0:bindG f g=match f g.id with
   | none=>g
   | some p=>if isV p then g else if okG ⟨false,kindOf p,indexOf p,g.spec⟩ then ⟨false,kindOf p,indexOf p,g.spec⟩ else g:=by unfold bindG;rw [if_pos hv];rfl
  cases hf:f g.id with
  | none=>
   rw [hf] at e0
   exact ⟨by rw [e0];unfold lk;rw [hf];rfl,by rw [e0],fun h=>by cases h⟩
  | some p=>
   obtain ⟨_,h3,hp⟩:=hm _ _ hf
   rw [G.kind_id hg] at h3 hp
   obtain ⟨i1,i2,i3⟩:=regsK_id _ (by omega) p hp
   have hwg:=hw hv
   obtain ⟨w1,_⟩:=wholeG_spec hwg
   have hwk:=regsK_whole g.kind (by omega) p hp g.spec w1 (by unfold wholeG at hwg ⊢;exact hwg)
   rw [← i3] at hwk
   rw [hf] at e0
   simp only [i1,hwk,if_true,Bool.false_eq_true,if_false] at e0
   exact ⟨by rw [e0];unfold lk;rw [hf];exact i2,by rw [e0],fun h=>by cases h⟩
def rdL (is:List PI) (k:Nat):List (Nat × Nat):=match is[k]? with
 | some p=>(inGs p.canc p.inp p.out).map fun g=>(g.id,g.spec)
 | none=>[]
def wrL (is:List PI) (k:Nat):List (Nat × Nat):=match is[k]? with
 | some p=>(outGs p.out).map fun g=>(g.id,g.spec)
 | none=>[]
theorem rdL_at {is:List PI} {k:Nat} {p:PI} (h:is[k]? = some p):rdL is k=(inGs p.canc p.inp p.out).map fun g=>(g.id,g.spec):=by unfold rdL;rw [h]
theorem wrL_at {is:List PI} {k:Nat} {p:PI} (h:is[k]? = some p):wrL is k=(outGs p.out).map fun g=>(g.id,g.spec):=by unfold wrL;rw [h]
theorem G.ext_id {g g':G} (h:g.Ok) (h':g'.Ok) (e:g.id=g'.id) (es:g.spec=g'.spec):g=g':=by
 have h1:=h.kind
 have h2:=h.idx
 have h3:=h'.kind
 have h4:=h'.idx
 obtain ⟨v,k,i,s⟩:=g
 obtain ⟨v',k',i',s'⟩:=g'
 simp only at h1 h2 h3 h4 es
 unfold G.id at e
 cases v<;>cases v'<;>simp only [if_true,if_false,Bool.false_eq_true] at e
 ·obtain ⟨rfl,rfl⟩:k=k'∧i=i':=by omega
  subst es;rfl
 ·omega
 ·omega
 ·obtain ⟨rfl,rfl⟩:k=k'∧i=i':=by omega
  subst es;rfl
theorem runs_same (hr:AFRes ns (some f)) (hok:AFOk ns) (hu:UsualP ns) (hB:BoundN f ns ns') {sc:Nat→List (Option Nat)} (hG:GraphP ns sc) {I O:Nat→TL} (hS:SInv (lfOf (insP ns) sc) I O) (hC:Closed (lfOf (insP ns) sc) I O) (ha:okA (insP ns)) (hlf:(lfOf (insP ns) sc).Ok)
  (hearly:∀ x∈I 0,isV x.1=false) (mx:Nat→Nat→Nat) {ps:List Nat} (hw:WayP (insP ns).length sc 0 ps):ranP mx (rdL (insP ns')) (wrL (insP ns')) (fun _ _=>none) ps=ranP mx (rdL (insP ns)) (wrL (insP ns)) (fun _ _=>none) ps:=by
 obtain ⟨hlen,hb⟩:=bound_ins hB hok.ops
 obtain ⟨sc',hG',hap⟩:=af_apart hr hok
 have hwh:∀ p∈insP ns,∀ g∈p.gs,g.Ok∧(g.virt=true→wholeG g=true):=fun p hp g hg=>by
  refine ⟨?_,(hu.2.2 p hp).1 g hg⟩
  have o:=hok.ops p hp
  unfold PI.gs at hg
  simp only [List.mem_append] at hg
  rcases hg with (hg | hg) | hg
  ·exact gsOf_ok o.ops g hg
  ·exact gsOf_ok o.inp g hg
  ·exact gsOf_ok o.out g hg
 have hin:∀ {p:PI} {g:G},g∈gsOf p.inp→g∈p.gs:=fun h=>by unfold PI.gs;simp [h]
 have hot:∀ {p:PI} {g:G},g∈gsOf p.out→g∈p.gs:=fun h=>by unfold PI.gs;simp [h]
 have hsame:∀ k,k < (insP ns).length→sc k=sc' k:=fun k hk=>hG.uniq hG' k hk
 have hlo:LiveOutP (insP ns) sc=LiveOutP (insP ns) sc':=LiveOutP.congr hsame
 have mapB:∀ {p:PI},p∈insP ns→∀ l:List G,(∀ g∈l,g∈p.gs)→(l.map (bindG f)).map (fun g=>(g.id,g.spec))=(l.map fun g=>(g.id,g.spec)).map fun x=>(lk f x.1,x.2):=fun {p} hp l hl=>by
  rw [List.map_map,List.map_map]
  refine List.map_congr_left fun g hg=>?_
  obtain ⟨h1,h2⟩:=hwh p hp g (hl g hg)
  obtain ⟨e1,e2,_⟩:=bindG_id hr hok h1 h2
  simp only [Function.comp,e1,e2]
 have hk':∀ k,k < (insP ns).length→∃ p p',(insP ns)[k]? = some p∧(insP ns')[k]? = some p'∧p∈insP ns∧BoundI f p p':=fun k hk=>by
  have h1:=List.getElem?_eq_getElem hk
  have h2:(insP ns')[k]? = some ((insP ns')[k]'(by omega)):=List.getElem?_eq_getElem _
  exact ⟨_,_,h1,h2,List.getElem_mem hk,hb k _ _ h1 h2⟩
 refine ran_same (f:=flowP (insP ns) sc) (a:=lk f) rfl ?_ ?_ ?_ ?_ ?_ ps 0 _ _ hw ?_ ?_
 ·rintro k hk c b ⟨x,hx,rfl,hbt⟩
  obtain ⟨p,_,hp,_⟩:=hk' k hk
  rw [rdL_at hp] at hx
  obtain ⟨g,hg,rfl⟩:=List.mem_map.1 hx
  refine ⟨hk,?_⟩
  show (useP (insP ns) k g.id).testBit b=true
  unfold useP
  rw [hp]
  exact ofGs_bit.2 ⟨g,hg,rfl,hbt⟩
 ·intro k c b hk hwr
  obtain ⟨p,_,hp,_,hpm,_⟩:=hk' k hk
  have hwr:(defP (insP ns) k c).testBit b=true:=hwr
  unfold defP at hwr
  rw [hp] at hwr
  obtain ⟨g,hg,rfl,hbt⟩:=ofGs_bit.1 hwr
  rw [wrL_at hp]
  refine ⟨_,List.mem_map.2 ⟨g,hg,rfl⟩,rfl,hbt,?_⟩
  have h16:=(hwh p hpm g (hot (outGs_mem hg))).1.spec
  exact Classical.byContradiction fun hn=>by
   have:g.spec < 2 ^ b:=Nat.lt_of_lt_of_le (show g.spec < 2 ^ 16 from h16) (Nat.pow_le_pow_right (by omega) (show 16≤b by omega))
   rw [Nat.testBit_lt_two_pow this] at hbt
   cases hbt
 ·intro k hk x hx c b hl hbt hne
  obtain ⟨p,_,hp,_⟩:=hk' k hk
  rw [wrL_at hp] at hx
  obtain ⟨g,hg,rfl⟩:=List.mem_map.1 hx
  have hl:LiveOutP (insP ns) sc k c b:=hl
  rw [hlo] at hl
  exact hap k p g c b hp hg hne hl hbt
 ·intro k hk
  obtain ⟨p,p',hp,hp',hpm,hI⟩:=hk' k hk
  rw [wrL_at hp,wrL_at hp',hI.out.outs]
  exact mapB hpm _ fun g hg=>hot (outGs_mem hg)
 ·intro k hk hinj
  obtain ⟨p,p',hp,hp',hpm,hI⟩:=hk' k hk
  rw [rdL_at hp,rdL_at hp']
  have e:=hI.ins fun hcn g g' l hl heq=>Classical.byContradiction fun hgg=>hgg (by
   have hgs:∀ x∈gsOf p.inp,x.Ok∧(x.virt=true→wholeG x=true):=fun x hx=>hwh p hpm x (hin hx)
   have hrd:∀ x∈[g,g'],∀ b,x.spec.testBit b=true→LiveIn (flowP (insP ns) sc).reads (flowP (insP ns) sc).writes (flowP (insP ns) sc).succ k x.id b:=fun x hx b hbt=>by
    refine .read ⟨hk,?_⟩
    show (useP (insP ns) k x.id).testBit b=true
    unfold useP
    rw [hp]
    refine ofGs_bit.2 ⟨x,?_,rfl,hbt⟩
    show x∈inGs p.canc p.inp p.out
    rw [hcn,inGs_t _ _ _ rfl,hl]
    refine List.mem_append.2 (.inl ?_)
    simp only [canc2,if_neg hgg,List.mem_cons]
    simp only [List.mem_cons,List.not_mem_nil,or_false] at hx
    rcases hx with hx | hx<;>simp [hx]
   obtain ⟨o1,w1⟩:=hgs g (by rw [hl];simp)
   obtain ⟨o2,w2⟩:=hgs g' (by rw [hl];simp)
   obtain ⟨a1,a2,a3⟩:=bindG_id hr hok o1 w1
   obtain ⟨b1,b2,b3⟩:=bindG_id hr hok o2 w2
   have es:g.spec=g'.spec:=by rw [← a2,← b2,heq]
   have ei:lk f g.id=lk f g'.id:=by rw [← a1,← b1,heq]
   by_cases h0:g.spec=0
   ·have v1:g.virt=false:=by
     cases hv:g.virt with
     | false=>rfl
     | true=>have:=(wholeG_spec (w1 hv)).1;rw [h0] at this;simp at this
    have v2:g'.virt=false:=by
     cases hv:g'.virt with
     | false=>rfl
     | true=>have:=(wholeG_spec (w2 hv)).1;rw [← es,h0] at this;simp at this
    rw [a3 v1,b3 v2] at heq
    exact heq
   ·obtain ⟨b,hbt⟩:=Nat.exists_testBit_of_ne_zero h0
    exact G.ext_id o1 o2 (hinj _ _ _ (hrd g (by simp) b hbt) (hrd g' (by simp) b (by rw [← es];exact hbt)) ei) es)
  rw [e]
  refine mapB hpm _ fun g hg=>?_
  exact (inGs_sub g hg).elim hin hot
 all_goals
  have hphys:∀ c b,LiveIn (flowP (insP ns) sc).reads (flowP (insP ns) sc).writes (flowP (insP ns) sc).succ 0 c b→lk f c=c:=fun c b hl=>by
   have hl':LiveIn (lfOf (insP ns) sc).flow.reads (lfOf (insP ns) sc).flow.writes (lfOf (insP ns) sc).flow.succ 0 c b:=by rw [lfOf_flow ha];exact hl
   have hbt:=hS.full hlf hC hl'
   have h0:tv (I 0) c≠0:=fun h=>by rw [h] at hbt;simp at hbt
   have hv:=hearly _ (tv_mem h0)
   have hm:=af_mem hr (fun k ⟨p,hp,g,hg,e⟩=>by rw [← e];exact hok.kinds p hp g hg)
   unfold lk
   cases hf:f c with
   | none=>rfl
   | some q=>have:=(hm _ _ hf).1;rw [hv] at this;cases this
 ·intro c b hl
  rw [hphys c b hl]
 ·intro c d b hc hd h
  rw [hphys c b hc,hphys d b hd] at h
  exact h
end
end
section
open Go Go.RowKit Bth
set_option maxRecDepth 100000
structure SimN (p p':PN):Prop where
 kind:p'.kind=p.kind
 label:p.kind=2→p'.label=p.label
 lines:p.kind=3→p'.lines=p.lines
theorem Mt.at_ {fs:Nat→Option Nat} {ns:List PN} {nds:List Nd} {rs:List Rec} {cms:List (Nat × List ByteArray)} (h:Mt fs ns nds rs cms):∀ (k:Nat) (n:PN) (nd:Nd),ns[k]? = some n→nds[k]? = some nd →
  (n.kind=1∧∃ b,nd = .ins b)∨(n.kind=2∧nd = .label n.label)∨(n.kind=3∧∃ c,nd = .comment c∧(c,n.lines)∈cms):=by
 have key:∀ {ns:List PN} {nds:List Nd} {n:PN} {nd:Nd} {Q:PN→Nd→Prop},nds.length=ns.length→(∀ (k:Nat) (n:PN) (nd:Nd),ns[k]? = some n→nds[k]? = some nd→Q n nd)→Q n nd→∀ (k:Nat) (n':PN) (nd':Nd),(ns ++ [n])[k]? = some n'→(nds ++ [nd])[k]? = some nd'→Q n' nd':=by
  intro ns nds n nd Q hl h1 h2 k n' nd' e1 e2
  by_cases hk:k < ns.length
  ·rw [List.getElem?_append_left hk] at e1
   rw [List.getElem?_append_left (by omega)] at e2
   exact h1 k n' nd' e1 e2
  ·rw [List.getElem?_append_right (by omega)] at e1
   rw [List.getElem?_append_right (by omega)] at e2
   have h0:k - ns.length=0:=by have:=(List.getElem?_eq_some_iff.1 e1).1;simp at this;omega
   rw [h0] at e1
   rw [hl,h0] at e2
   injection e1 with e1
   injection e2 with e2
   subst e1 e2
   exact h2
 induction h with
 | nil=>intro k n nd h;cases h
 | ins hM h1 h2 ih=>exact key hM.len (fun k n nd a b=>ih k n nd a b) (.inl ⟨h1,_,rfl⟩)
 | label hM h1 ih=>exact key hM.len (fun k n nd a b=>ih k n nd a b) (.inr (.inl ⟨h1,rfl⟩))
 | @comment ns nds rs cms n c hM h1 ih=>
  refine key (Q:=fun n nd=>(n.kind=1∧∃ b,nd = .ins b)∨(n.kind=2∧nd = .label n.label)∨(n.kind=3∧∃ c',nd = .comment c'∧(c',n.lines)∈cms ++ [(c,_)])) hM.len (fun k n nd a b=>?_) (.inr (.inr ⟨h1,c,rfl,by simp⟩))
  rcases ih k n nd a b with h | h | ⟨h,c',e,hm⟩
  ·exact .inl h
  ·exact .inr (.inl h)
  ·exact .inr (.inr ⟨h,c',e,by simp [hm]⟩)
theorem bound_sim {f:Nat→Option Nat} {ns ns':List PN} (h:BoundN f ns ns'):ns'.length=ns.length∧∀ (k:Nat) (p p':PN),ns[k]? = some p→ns'[k]? = some p'→SimN p p':=by
 obtain ⟨fs,w0,wb,nds,rs,rs',cms,hW,hM,hB,hP,hnd,hcu⟩:=h
 refine ⟨by rw [hP.1,hM.len],fun k p p' h1 h2=>?_⟩
 have hk:k < nds.length:=by rw [hM.len];exact (List.getElem?_eq_some_iff.1 h1).1
 have h3:=List.getElem?_eq_getElem hk
 obtain ⟨q,hq,hn⟩:=hP.2 k _ h3
 rw [h2] at hq
 obtain rfl:=Option.some.inj hq
 rcases hM.at_ k p _ h1 h3 with ⟨a,b,e⟩ | ⟨a,e⟩ | ⟨a,c,e,hc⟩<;>rw [e] at hn
 ·exact ⟨by rw [hn.1,a],fun h=>by omega,fun h=>by omega⟩
 ·exact ⟨by rw [hn.1,a],fun _=>hn.2.1,fun h=>by omega⟩
 ·exact ⟨by rw [hn.1,a],fun h=>by omega,fun _=>hcu c _ _ hn.2.2.2 hc⟩
theorem lpRun_sim:∀ {ns ns':List PN},ns'.length=ns.length→(∀ (k:Nat) (p p':PN),ns[k]? = some p→ns'[k]? = some p'→SimN p p')→lpRun ns'=lpRun ns:=by
 have key:∀ {ns ns':List PN} (s:LP),ns'.length=ns.length→(∀ (k:Nat) (p p':PN),ns[k]? = some p→ns'[k]? = some p'→SimN p p')→ns'.foldlM lpStep s=ns.foldlM lpStep s:=by
  intro ns
  induction ns with
  | nil=>intro ns' s h _;rw [List.eq_nil_of_length_eq_zero h]
  | cons p ns ih=>
   intro ns' s h hs
   cases ns' with
   | nil=>simp at h
   | cons p' ns'=>
    have h0:=hs 0 p p' rfl rfl
    have e:lpStep s p'=lpStep s p:=by
     unfold lpStep
     rw [h0.kind]
     by_cases h1:p.kind=1
     ·rw [if_pos h1,if_pos h1]
     ·by_cases h2:p.kind=2
      ·rw [if_neg h1,if_neg h1,if_pos h2,if_pos h2,h0.label h2]
      ·rw [if_neg h1,if_neg h1,if_neg h2,if_neg h2]
    rw [List.foldlM_cons,List.foldlM_cons,e]
    cases lpStep s p with
    | none=>rfl
    | some s'=>exact ih s' (by simpa using h) fun k q q' a b=>hs (k+1) q q' a b
 exact fun {ns ns'} h hs=>key _ h hs
theorem bound_graph {f:Nat→Option Nat} {ns ns':List PN} (h:BoundN f ns ns') (hp:∀ p∈insP ns,p.Ok) {sc:Nat→List (Option Nat)} (hG:GraphP ns sc):GraphP ns' sc:=by
 obtain ⟨s,h1,h2,h3⟩:=hG
 obtain ⟨a1,a2⟩:=bound_sim h
 obtain ⟨b1,b2⟩:=bound_ins h hp
 refine ⟨s,by rw [lpRun_sim a1 a2];exact h1,h2,fun k p' hk=>?_⟩
 have hlt:k < (insP ns).length:=by rw [← b1];exact (List.getElem?_eq_some_iff.1 hk).1
 have hpk:=List.getElem?_eq_getElem hlt
 have hI:=b2 k _ p' hpk hk
 have:=h3 k _ hpk
 unfold succP at this ⊢
 rw [hI.br,hI.term,hI.cond,hI.tgt]
 exact this
end
end Go.Proofs.YtpbeedabmjmdmaaGreatDoor
