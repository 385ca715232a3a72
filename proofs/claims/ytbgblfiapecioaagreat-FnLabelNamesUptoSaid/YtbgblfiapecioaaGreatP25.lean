/- Part of the proof of a statement about pub-berthage: what its texts have in common. -/
import Derived.Deep.RegionHeld3
import Derived.Test.YtbgblfiapecioaaGreatP24
namespace Go.Proofs.YtbgblfiapecioaaGreat
section
open Go Go.RowKit Bth
set_option maxRecDepth 100000
def BX (f:Nat→Option Nat):Option R→Option R→Prop
 | none,none=>True
 | some r,some r'=>r'.plain=bindG f r.plain
 | _,_=>False
def BO (f:Nat→Option Nat):O→O→Prop
 | .reg r,.reg r'=>r'.plain=bindG f r.plain
 | .mem m,.mem m'=>∃ x y,m' = { m with base:=x,index:=y } ∧ BX f m.base x∧BX f m.index y
 | .con c,.con c'=>c'=c
 | .label s,.label s'=>s'=s
 | .rel n,.rel n'=>n'=n
 | _,_=>False
theorem BoundX.bx {w:World} {f:Nat→Option Nat} {x y:Option R} (h:BoundX w f x y):BX f x y∧∀ r,y=some r→r.Ok∧r.At w:=by
 cases x<;>cases y
 ·exact ⟨trivial,fun r h=>(by cases h)⟩
 ·exact h.elim
 ·exact h.elim
 ·exact ⟨h.1,fun r e=>by injection e with e;subst e;exact h.2⟩
theorem BoundO.bo {w:World} {f:Nat→Option Nat} {o o':O} (h:BoundO w f o o'):BO f o o'∧o'.At w:=by
 cases o<;>cases o'<;>try exact h.elim
 ·refine ⟨h.1,fun r hr=>?_⟩
  obtain rfl:=List.mem_singleton.1 hr
  exact h.2
 ·obtain ⟨x,y,rfl,h1,h2⟩:=h
  refine ⟨⟨x,y,rfl,h1.bx.1,h2.bx.1⟩,fun r hr=>?_⟩
  have hr:r∈x.toList ++ y.toList:=hr
  simp only [List.mem_append,Option.mem_toList] at hr
  rcases hr with hr | hr
  ·exact h1.bx.2 r hr
  ·exact h2.bx.2 r hr
 all_goals exact ⟨h,fun r hr=>by cases hr⟩
def Rec.row (r:Rec):Nat→List O
 | 0=>r.ops
 | 1=>r.inp
 | _=>r.out
def Rec.setRow (r:Rec) (p:Nat) (l:List O):Rec:=match p with
 | 0=>{ r with ops:=l }
 | 1=>{ r with inp:=l }
 | _=>{ r with out:=l }
def Ins.rowV (i:Ins):Nat→SV
 | 0=>i.ops
 | 1=>i.inp
 | _=>i.out
def RowB (r:Rec) (c:Nat):Prop:=∃ p,p < 3∧(r.i.rowV p).val.ownBlock=some c
theorem Rec.At.rowOwn {w:World} {r:Rec} (h:r.At w) (p:Nat):w.ownsRow r.lo 199 1 (r.i.rowV p).val (r.row p).length ((r.row p).map O.val):=by
 match p with
 | 0=>exact h.own.ops
 | 1=>exact h.own.inp
 | _+2=>exact h.own.out
theorem Rec.At.rowAts {w:World} {r:Rec} (h:r.At w) (p:Nat):∀ o∈r.row p,o.At w:=by
 match p with
 | 0=>exact h.ats.1
 | 1=>exact h.ats.2.1
 | _+2=>exact h.ats.2.2
theorem Rec.At.noT {w:World} {r:Rec} (h:r.At w):NoT [97,122,141,130,9,210] w (RowB r):=by
 have key:∀ p,NoT [97,122,141,130,9,210] w (fun c=>(r.i.rowV p).val.ownBlock=some c):=fun p=>NoT.own (h.rowOwn p) (by decide)
 rintro b cs t fr ⟨p,_,hp⟩
 exact key p b cs t fr hp
theorem Rec.At.noMap {w:World} {r:Rec} (h:r.At w) {b:Nat} {es:Array MapEntry} {cl:Nat} (hm:w.heap[b]? = some (.map es cl)):¬RowB r b:=by
 rintro ⟨p,_,hp⟩
 exact own_nomap (h.rowOwn p) hm hp
theorem IdMap.noRow {w:World} {b:Nat} {f:Nat→Option Nat} (hb:IdMap w b f) {r:Rec} (h:r.At w):¬RowB r b:=by
 obtain ⟨ks,hm⟩:=hb
 obtain ⟨_,_,ho⟩:=MapAt.obj hm
 exact h.noMap ho
theorem Rec.At.setRow {w:World} {r:Rec} (h:r.At w) {p j g:Nat} {o:O} (hp:p < 3) (hg:(r.i.rowV p).A=some ⟨g,0,none⟩) (ho:o.At w):
  (r.setRow p ((r.row p).set j o)).At (w.setCell ⟨g,j,none⟩ o.val)∧Fr (RowB r) w (w.setCell ⟨g,j,none⟩ o.val):=by
 have hS:Fr (fun c=>c=g) w (w.setCell ⟨g,j,none⟩ o.val):=(Fr.refl (fun x=>x=g) w).setCell (.inl rfl) _
 have hgp:(r.i.rowV p).val.ownBlock=some g:=by
  show (Value.slice (r.i.rowV p).A (r.i.rowV p).n (r.i.rowV p).c).ownBlock=_
  rw [hg];rfl
 have hT:NoT [97,122,141,130,9,210] w (fun c=>c=g):=by
  rintro b cs t fr rfl
  exact h.noT b cs t fr ⟨p,hp,hgp⟩
 refine ⟨?_,hS.mono fun c _ e=>⟨p,hp,by rw [e];exact hgp⟩⟩
 have hat:=heap_frT h.own.at_ hS hT (by decide)
 have own1:∀ q,q < 3→q≠p→(w.setCell ⟨g,j,none⟩ o.val).ownsRow r.lo 199 1 (r.i.rowV q).val (r.row q).length ((r.row q).map O.val):=fun q hq hne=>by
  refine own_fr (h.rowOwn q) hS fun b hb e=>?_
  subst e
  have d1:=h.own.d1
  have d2:=h.own.d2
  rcases p with _ | _ | _ | p<;>rcases q with _ | _ | _ | q<;>first | exact hne rfl | omega | skip
  ·exact (d1 _ hgp).1 hb
  ·exact (d1 _ hgp).2 hb
  ·exact (d1 _ hb).1 hgp
  ·exact d2 _ hgp hb
  ·exact (d1 _ hb).2 hgp
  ·exact d2 _ hb hgp
 have own2:(w.setCell ⟨g,j,none⟩ o.val).ownsRow r.lo 199 1 (r.i.rowV p).val ((r.row p).set j o).length (((r.row p).set j o).map O.val):=by
  have h1:=h.rowOwn p
  obtain ⟨A,c,hv,_,_⟩:=own_slice h1
  have hA:A=some ⟨g,0,none⟩:=by
   have:(r.i.rowV p).val = .slice (r.i.rowV p).A (r.i.rowV p).n (r.i.rowV p).c:=rfl
   rw [this,hg] at hv
   injection hv with e1 e2 e3
   exact e1.symm
  rw [hv,hA] at h1 ⊢
  have:=own_set h1 j o.val
  rw [List.length_set,List.map_set]
  exact this
 have ats:∀ q,∀ x∈r.row q,x.At (w.setCell ⟨g,j,none⟩ o.val):=fun q x hx=>(h.rowAts q x hx).frT hS hT (by decide)
 have ats2:∀ x∈(r.row p).set j o,x.At (w.setCell ⟨g,j,none⟩ o.val):=fun x hx=>by
  rcases List.mem_or_eq_of_mem_set hx with hx | rfl
  ·exact ats p x hx
  ·exact ho.frT hS hT (by decide)
 have hsuf:StrOwn (w.setCell ⟨g,j,none⟩ o.val) r.lo r.i.suf r.suf:=⟨h.suf.1,own_frT h.suf.2 hS hT (by decide)⟩
 have hisa:StrOwn (w.setCell ⟨g,j,none⟩ o.val) r.lo r.i.isa r.isa:=⟨h.isa.1,own_frT h.isa.2 hS hT (by decide)⟩
 rcases p with _ | _ | _ | p
 ·exact { own:={ h.own with at_:=hat,ops:=own2,inp:=own1 1 (by omega) (by omega),out:=own1 2 (by omega) (by omega) },suf:=hsuf,isa:=hisa,s1:=h.s1,s2:=h.s2,ats:=⟨ats2,ats 1,ats 2⟩ }
 ·exact { own:={ h.own with at_:=hat,ops:=own1 0 (by omega) (by omega),inp:=own2,out:=own1 2 (by omega) (by omega) },suf:=hsuf,isa:=hisa,s1:=h.s1,s2:=h.s2,ats:=⟨ats 0,ats2,ats 2⟩ }
 ·exact { own:={ h.own with at_:=hat,ops:=own1 0 (by omega) (by omega),inp:=own1 1 (by omega) (by omega),out:=own2 },suf:=hsuf,isa:=hisa,s1:=h.s1,s2:=h.s2,ats:=⟨ats 0,ats 1,ats2⟩ }
 ·omega
def BL (f:Nat→Option Nat) (j:Nat) (l l':List O):Prop:=l'.length=l.length∧∀ (k:Nat) (o o':O),l[k]? = some o→l'[k]? = some o'→if k < j then BO f o o' else o'=o
theorem BL.start (f:Nat→Option Nat) (l:List O):BL f 0 l l:=⟨rfl,fun k o o' h1 h2=>by rw [h1] at h2;injection h2 with h2;rw [if_neg (by omega)];exact h2.symm⟩
theorem BL.at_ {f:Nat→Option Nat} {j:Nat} {l l':List O} (h:BL f j l l') {o:O} (ho:l[j]? = some o):l'[j]? = some o:=by
 have hlt:j < l'.length:=by rw [h.1];exact (List.getElem?_eq_some_iff.1 ho).1
 have h1:=List.getElem?_eq_getElem hlt
 have h2:=h.2 j _ _ ho h1
 rw [if_neg (by omega)] at h2
 rw [h1,h2]
theorem BL.step {f:Nat→Option Nat} {j:Nat} {l l':List O} (h:BL f j l l') {o o':O} (ho:l[j]? = some o) (hb:BO f o o'):BL f (j+1) l (l'.set j o'):=by
 refine ⟨by rw [List.length_set];exact h.1,fun k x x' h1 h2=>?_⟩
 rw [List.getElem?_set] at h2
 split at h2
 ·rename_i e
  subst e
  split at h2
  ·injection h2 with h2
   subst h2
   rw [ho] at h1
   injection h1 with h1
   subst h1
   rw [if_pos (by omega)]
   exact hb
  ·cases h2
 ·rename_i e
  have:=h.2 k x x' h1 h2
  by_cases hk:k < j
  ·rw [if_pos hk] at this;rw [if_pos (by omega)];exact this
  ·rw [if_neg hk] at this;rw [if_neg (by omega)];exact this
structure BR (f:Nat→Option Nat) (n:Nat→Nat) (r r':Rec):Prop where
 b:r'.b=r.b
 lo:r'.lo=r.lo
 hi:r'.hi=r.hi
 i:r'.i=r.i
 suf:r'.suf=r.suf
 isa:r'.isa=r.isa
 row:∀ p,p < 3→BL f (n p) (r.row p) (r'.row p)
theorem BR.start (f:Nat→Option Nat) (r:Rec):BR f (fun _=>0) r r:=⟨rfl,rfl,rfl,rfl,rfl,rfl,fun _ _=>BL.start _ _⟩
theorem BR.rowB {f:Nat→Option Nat} {n:Nat→Nat} {r r':Rec} (h:BR f n r r') (c:Nat):RowB r' c↔RowB r c:=by unfold RowB;rw [h.i]
theorem setRow_row (r:Rec) {p q:Nat} (hp:p < 3) (hq:q < 3) (l:List O):(r.setRow p l).row q=if q=p then l else r.row q:=by
 rcases p with _ | _ | _ | p<;>rcases q with _ | _ | _ | q<;>first | rfl | omega
theorem BR.step {f:Nat→Option Nat} {n:Nat→Nat} {r r':Rec} (h:BR f n r r') {p:Nat} (hp:p < 3) {o o':O} (ho:(r.row p)[n p]? = some o) (hb:BO f o o'):BR f (fun q=>if q=p then n p+1 else n q) r (r'.setRow p ((r'.row p).set (n p) o')):=by
 have e:∀ l,(r'.setRow p l).b=r'.b∧(r'.setRow p l).lo=r'.lo∧(r'.setRow p l).hi=r'.hi∧(r'.setRow p l).i=r'.i∧(r'.setRow p l).suf=r'.suf∧(r'.setRow p l).isa=r'.isa:=fun l=>by
  rcases p with _ | _ | p<;>exact ⟨rfl,rfl,rfl,rfl,rfl,rfl⟩
 obtain ⟨e1,e2,e3,e4,e5,e6⟩:=e ((r'.row p).set (n p) o')
 refine ⟨e1.trans h.b,e2.trans h.lo,e3.trans h.hi,e4.trans h.i,e5.trans h.suf,e6.trans h.isa,fun q hq=>?_⟩
 rw [setRow_row r' hp hq]
 by_cases hqp:q=p
 ·subst hqp
  simp only [if_true]
  exact (h.row q hq).step ho hb
 ·simp only [if_neg hqp]
  exact h.row q hq
theorem BR.congr {f:Nat→Option Nat} {n n':Nat→Nat} {r r':Rec} (h:BR f n r r') (hn:∀ p,p < 3→n' p=n p):BR f n' r r':=⟨h.b,h.lo,h.hi,h.i,h.suf,h.isa,fun p hp=>by rw [hn p hp];exact h.row p hp⟩
end
section
open Go Go.RowKit Bth
set_option maxRecDepth 100000
structure FB (w:World) (fb:Nat) (f:Fn) (nds:List Nd) (rs:List Rec) (cms:List (Nat × List ByteArray)):Prop where
 fn:FnAt w fb f
 nodes:w.ownsRow (fb+1) 122 1 f.nodes nds.length (nds.map Nd.val)
 recs:∀ r∈rs,r.At w∧fb < r.lo∧r.hi≤w.heap.size
 apart:rs.Pairwise fun a b=>a.hi≤b.lo
 coms:∀ c∈cms,CmAt w fb c.1 c.2
 bs:insOf nds=rs.map (·.b)
theorem FState.toFB {w:World} {fs:Nat→Option Nat} {ns:List PN} {fb:Nat} {f:Fn} {nds:List Nd} {rs:List Rec} {cms:List (Nat × List ByteArray)} (h:FState w fs ns fb f nds rs cms):FB w fb f nds rs cms:=⟨h.fn,h.nodes,h.recs,h.apart,h.coms,h.mt.insOf⟩
def AllB (rs:List Rec) (c:Nat):Prop:=∃ r∈rs,RowB r c
theorem FB.noT {w:World} {fb:Nat} {f:Fn} {nds:List Nd} {rs:List Rec} {cms:List (Nat × List ByteArray)} (h:FB w fb f nds rs cms):NoT [97,122,141,130,9,210] w (AllB rs):=by
 rintro b cs t fr ⟨r,hr,hb⟩
 exact (h.recs r hr).1.noT b cs t fr hb
theorem FB.rowlt {w:World} {fb:Nat} {f:Fn} {nds:List Nd} {rs:List Rec} {cms:List (Nat × List ByteArray)} (h:FB w fb f nds rs cms):∀ c,AllB rs c→fb < c∧c < w.heap.size:=by
 rintro c ⟨r,hr,p,hp,hc⟩
 obtain ⟨h1,h2,h3⟩:=h.recs r hr
 have h4:=own_base (h1.rowOwn p) c hc
 refine ⟨by omega,Nat.lt_of_lt_of_le ?_ h3⟩
 match p,hc with
 | 0,hc=>exact h1.own.h1 c hc
 | 1,hc=>exact h1.own.h2 c hc
 | 2,hc=>exact h1.own.h3 c hc
theorem IdMap.noAll {w:World} {b:Nat} {g:Nat→Option Nat} (hb:IdMap w b g) {fb:Nat} {f:Fn} {nds:List Nd} {rs:List Rec} {cms:List (Nat × List ByteArray)} (h:FB w fb f nds rs cms):¬AllB rs b:=by
 rintro ⟨r,hr,hc⟩
 exact hb.noRow (h.recs r hr).1 hc
theorem BR.all {g:Nat→Option Nat} {n:Nat→Nat→Nat} {rs rs':List Rec} (hl:rs'.length=rs.length) (h:∀ (k:Nat) (r r':Rec),rs[k]? = some r→rs'[k]? = some r'→BR g (n k) r r') (c:Nat):AllB rs' c↔AllB rs c:=by
 constructor
 ·rintro ⟨r',hr',hc⟩
  obtain ⟨k,hk⟩:=List.mem_iff_getElem?.1 hr'
  have hlt:k < rs.length:=by rw [← hl];exact (List.getElem?_eq_some_iff.1 hk).1
  exact ⟨_,List.getElem_mem hlt,((h k _ r' (List.getElem?_eq_getElem hlt) hk).rowB c).1 hc⟩
 ·rintro ⟨r,hr,hc⟩
  obtain ⟨k,hk⟩:=List.mem_iff_getElem?.1 hr
  have hlt:k < rs'.length:=by rw [hl];exact (List.getElem?_eq_some_iff.1 hk).1
  exact ⟨_,List.getElem_mem hlt,((h k r _ hk (List.getElem?_eq_getElem hlt)).rowB c).2 hc⟩
theorem FB.upd {w w':World} {fb:Nat} {f:Fn} {nds:List Nd} {rs:List Rec} {cms:List (Nat × List ByteArray)} (h:FB w fb f nds rs cms) {k:Nat} {r r':Rec} (hk:rs[k]? = some r) (hf:Fr (RowB r) w w') (hr:r'.At w') (hb:r'.b=r.b) (hlo:r'.lo=r.lo) (hhi:r'.hi=r.hi):FB w' fb f nds (rs.set k r') cms:=by
 have hr0:=h.recs r (List.mem_of_getElem? hk)
 have hT:=hr0.1.noT
 have hlt:=(List.getElem?_eq_some_iff.1 hk).1
 refine ⟨heap_frT h.fn hf hT (by decide),own_frT h.nodes hf hT (by decide),fun x hx=>?_,?_,fun c hc=>(h.coms c hc).frT hf hT (by decide) (by decide),?_⟩
 ·obtain ⟨j,hj⟩:=List.mem_iff_getElem?.1 hx
  rw [List.getElem?_set] at hj
  split at hj
  ·rename_i e
   injection hj with hj
   subst hj
   exact ⟨hr,by rw [hlo];exact hr0.2.1,by rw [hhi];exact Nat.le_trans hr0.2.2 hf.size⟩
  ·rename_i e
   have hx0:=h.recs x (List.mem_of_getElem? hj)
   refine ⟨?_,hx0.2.1,Nat.le_trans hx0.2.2 hf.size⟩
   have hne:∀ p c,(x.i.rowV p).val.ownBlock=some c→¬RowB r c:=by
    rintro p c hc ⟨q,hq,hc2⟩
    obtain ⟨h1,e1⟩:=List.getElem?_eq_some_iff.1 hj
    obtain ⟨h2,e2⟩:=List.getElem?_eq_some_iff.1 hk
    have l1:=own_base (hx0.1.rowOwn p) c hc
    have l2:=own_base (hr0.1.rowOwn q) c hc2
    have u1:c < x.hi:=by
     match p,hc with
     | 0,hc=>exact hx0.1.own.h1 c hc
     | 1,hc=>exact hx0.1.own.h2 c hc
     | _+2,hc=>exact hx0.1.own.h3 c hc
    have u2:c < r.hi:=by
     match q,hc2 with
     | 0,hc=>exact hr0.1.own.h1 c hc
     | 1,hc=>exact hr0.1.own.h2 c hc
     | _+2,hc=>exact hr0.1.own.h3 c hc
    rcases Nat.lt_or_gt_of_ne e with hkj | hkj
    ·have:=List.pairwise_iff_getElem.1 h.apart k j h2 h1 hkj
     rw [e1,e2] at this
     omega
    ·have:=List.pairwise_iff_getElem.1 h.apart j k h1 h2 hkj
     rw [e1,e2] at this
     omega
   exact
    { own:={ hx0.1.own with
       at_:=heap_frT hx0.1.own.at_ hf hT (by decide)
       ops:=own_fr hx0.1.own.ops hf (hne 0)
       inp:=own_fr hx0.1.own.inp hf (hne 1)
       out:=own_fr hx0.1.own.out hf (hne 2) }
      suf:=⟨hx0.1.suf.1,own_frT hx0.1.suf.2 hf hT (by decide)⟩
      isa:=⟨hx0.1.isa.1,own_frT hx0.1.isa.2 hf hT (by decide)⟩
      s1:=hx0.1.s1
      s2:=hx0.1.s2
      ats:=⟨fun o ho=>(hx0.1.ats.1 o ho).frT hf hT (by decide),fun o ho=>(hx0.1.ats.2.1 o ho).frT hf hT (by decide),fun o ho=>(hx0.1.ats.2.2 o ho).frT hf hT (by decide)⟩ }
 ·rw [List.pairwise_iff_getElem]
  intro a b ha hb2 hab
  rw [List.length_set] at ha hb2
  have:=List.pairwise_iff_getElem.1 h.apart a b ha hb2 hab
  simp only [List.getElem_set]
  obtain ⟨hkl,hke⟩:=List.getElem?_eq_some_iff.1 hk
  split<;>split
  ·rename_i e1 e2;omega
  ·rename_i e1 e2;subst e1;rw [hke] at this;rw [hhi];exact this
  ·rename_i e1 e2;subst e2;rw [hke] at this;rw [hlo];exact this
  ·exact this
 ·rw [h.bs]
  refine List.ext_getElem? fun j=>?_
  rw [List.getElem?_map,List.getElem?_map,List.getElem?_set]
  by_cases e:k=j
  ·subst e;rw [if_pos rfl,if_pos hlt,hk];simp [hb]
  ·rw [if_neg e]
theorem FB.fr {w w':World} {fb:Nat} {f:Fn} {nds:List Nd} {rs:List Rec} {cms:List (Nat × List ByteArray)} (h:FB w fb f nds rs cms) (hf:Fr nope w w'):FB w' fb f nds rs cms:=
 ⟨hf.heap h.fn (fun x=>x),own_fr h.nodes hf (fun _ _ x=>x),fun r hr=>⟨(h.recs r hr).1.nope hf,(h.recs r hr).2.1,Nat.le_trans (h.recs r hr).2.2 hf.size⟩,h.apart,fun c hc=>(h.coms c hc).frT hf (NoT.nope _ _) (T:=[141,9]) (by decide) (by decide),h.bs⟩
def upTo (r:Rec) (p j:Nat) (q:Nat):Nat:=if q < p then (r.row q).length else if q=p then j else 0
theorem BR.done {g:Nat→Option Nat} {r r':Rec} {p:Nat} (h:BR g (upTo r p (r.row p).length) r r'):BR g (upTo r (p+1) 0) r r':=h.congr fun q hq=>by
 unfold upTo
 by_cases h1:q < p
 ·rw [if_pos (by omega),if_pos h1]
 ·by_cases h2:q=p
  ·subst h2;rw [if_pos (by omega),if_neg h1,if_pos rfl]
  ·rw [if_neg (by omega),if_neg h1,if_neg h2]
   split<;>rfl
theorem BR.step2 {g:Nat→Option Nat} {r r':Rec} {p j:Nat} (h:BR g (upTo r p j) r r') (hp:p < 3) {o o':O} (ho:(r.row p)[j]? = some o) (hb:BO g o o'):BR g (upTo r p (j+1)) r (r'.setRow p ((r'.row p).set j o')):=by
 have e:upTo r p j p=j:=by unfold upTo;rw [if_neg (by omega),if_pos rfl]
 have h1:=h.step hp (by rw [e];exact ho) hb
 rw [e] at h1
 refine h1.congr fun q hq=>?_
 unfold upTo
 by_cases h2:q=p
 ·subst h2;rw [if_neg (by omega),if_pos rfl,if_pos rfl]
 ·by_cases h3:q < p
  ·simp [h2,h3]
  ·simp [h2,h3]
def upTo2 (rs:List Rec) (k:Nat) (j:Nat):Nat→Nat:=if j < k then fun q=>((rs[j]?).map fun r=>(r.row q).length).getD 0 else fun _=>0
structure BRs (g:Nat→Option Nat) (k:Nat) (rs rs':List Rec):Prop where
 len:rs'.length=rs.length
 each:∀ (j:Nat) (r r':Rec),rs[j]? = some r→rs'[j]? = some r'→BR g (upTo2 rs k j) r r'
theorem BRs.start (g:Nat→Option Nat) (rs:List Rec):BRs g 0 rs rs:=⟨rfl,fun j r r' h1 h2=>by rw [h1] at h2;injection h2 with h2;subst h2;exact (BR.start g r).congr fun p _=>by simp [upTo2]⟩
theorem BRs.at_ {g:Nat→Option Nat} {k:Nat} {rs rs':List Rec} (h:BRs g k rs rs') {r:Rec} (hr:rs[k]? = some r):∃ r',rs'[k]? = some r'∧BR g (upTo r 0 0) r r':=by
 have hlt:k < rs'.length:=by rw [h.len];exact (List.getElem?_eq_some_iff.1 hr).1
 refine ⟨_,List.getElem?_eq_getElem hlt,(h.each k r _ hr (List.getElem?_eq_getElem hlt)).congr fun p _=>?_⟩
 simp [upTo2,upTo]
theorem BRs.step {g:Nat→Option Nat} {k:Nat} {rs rs':List Rec} (h:BRs g k rs rs') {r r':Rec} (hr:rs[k]? = some r) (hb:BR g (upTo r 3 0) r r'):BRs g (k+1) rs (rs'.set k r'):=by
 refine ⟨by rw [List.length_set];exact h.len,fun j x x' h1 h2=>?_⟩
 rw [List.getElem?_set] at h2
 split at h2
 ·rename_i e
  subst e
  split at h2
  ·injection h2 with h2
   subst h2
   rw [hr] at h1
   injection h1 with h1
   subst h1
   refine hb.congr fun p hp=>?_
   unfold upTo2 upTo
   rw [if_pos (by omega),hr,if_pos hp]
   rfl
  ·cases h2
 ·rename_i e
  refine (h.each j x x' h1 h2).congr fun p hp=>?_
  unfold upTo2
  by_cases hj:j < k
  ·rw [if_pos (by omega),if_pos hj]
  ·rw [if_neg (by omega),if_neg hj]
theorem Rec.At.cellP {w:World} {r:Rec} (h:r.At w) {p:Nat} (hp:p < 3):w.cell? ⟨r.b,2+p,none⟩=some (.slice (r.i.rowV p).A (r.row p).length (r.i.rowV p).c):=by
 obtain ⟨A,c,hv,_,_⟩:=own_slice (h.rowOwn p)
 have hv':Value.slice (r.i.rowV p).A (r.i.rowV p).n (r.i.rowV p).c = .slice A (r.row p).length c:=hv
 injection hv' with e1 e2 e3
 rw [cell_of_row _ _ _ _ _ (0,0) h.own.at_,← e2]
 rcases p with _ | _ | _ | p<;>first | rfl | omega
theorem Rec.At.elem {w:World} {r:Rec} (h:r.At w) {p j:Nat} (hp:p < 3) {o:O} (ho:(r.row p)[j]? = some o):∃ gb,(r.i.rowV p).A=some ⟨gb,0,none⟩∧gb < w.heap.size∧w.cell? ⟨gb,j,none⟩=some o.val∧w.frozen? ⟨gb,j,none⟩=false∧gb≠r.b∧RowB r gb∧∀ w',Fr Bth.nope w w'→w'.frozen? ⟨gb,j,none⟩=false:=by
 have hO:=h.rowOwn p
 obtain ⟨A,c,hv,_,_⟩:=own_slice hO
 have hv':Value.slice (r.i.rowV p).A (r.i.rowV p).n (r.i.rowV p).c = .slice A (r.row p).length c:=hv
 injection hv' with e1 e2 e3
 have hlt:=(List.getElem?_eq_some_iff.1 ho).1
 rw [hv] at hO
 obtain ⟨gb,hA,hg,hc⟩:=own_cells hO (by omega)
 have hob:(r.i.rowV p).val.ownBlock=some gb:=by rw [hv,hA];rfl
 obtain ⟨cur,hcur⟩:=own_heap (h.rowOwn p) hob
 exact ⟨gb,by rw [e1,hA],hg,hc j o.val (by rw [List.getElem?_map,ho];rfl),frozen_row hcur j,fun e=>own_ne (h.rowOwn p) h.own.at_ (by decide) (by rw [hob,e]),⟨p,hp,hob⟩,fun w' hf=>frozen_row (hf.heap hcur (fun x=>x)) j⟩
def GivesBR (w:World) (fb:Nat) (f:Fn) (nds:List Nd) (rs:List Rec) (cms:List (Nat × List ByteArray)) (g:Nat→Option Nat) (e:Ending) (w':World):Prop:=
 e = .returned .nilIface∧Fr (AllB rs) w w'∧∃ rs',BRs g rs.length rs rs'∧FB w' fb f nds rs' cms
end
section
open Go Go.RowKit Go.MapKept Bth
set_option maxRecDepth 100000
def ofPairs (l:List (Nat × Nat)):Nat→Option Nat:=l.foldl (fun f p x=>if x=p.1 then some p.2 else f x) fun _=>none
theorem ofPairs_take {l:List (Nat × Nat)} {k:Nat} {p:Nat × Nat} (h:l[k]? = some p):ofPairs (l.take (k+1))=fun x=>if x=p.1 then some p.2 else ofPairs (l.take k) x:=by
 unfold ofPairs
 rw [List.take_add_one,h,List.foldl_append]
 rfl
def PairsAt (w:World) (A:Option Addr) (l:List (Nat × Nat)):Prop:=0 < l.length→∃ b,A=some ⟨b,0,none⟩∧b < w.heap.size∧∀ (k:Nat) (p:Nat × Nat),l[k]? = some p→w.rangeAt b (k*2) (pairV p)
theorem PairsAt.fr {w w':World} {A:Option Addr} {l:List (Nat × Nat)} (h:PairsAt w A l) (hf:Fr nope w w'):PairsAt w' A l:=fun hl=>by
 obtain ⟨b,h1,h2,h3⟩:=h hl
 exact ⟨b,h1,Nat.lt_of_lt_of_le h2 hf.size,fun k p hk j v hv=>hf.cell (h3 k p hk j v hv) (fun x=>x)⟩
theorem flat_at {l:List (Nat × Nat)} : ∀ {k:Nat} {p:Nat × Nat},l[k]? = some p→∀ j v,(pairV p)[j]? = some v→(l.flatMap pairV)[k*2+j]? = some v:=by
 induction l with
 | nil=>intro k p h;simp at h
 | cons q l ih=>
  intro k p h j v hv
  have hlen:(pairV q).length=2:=rfl
  cases k with
  | zero=>
   simp only [List.getElem?_cons_zero,Option.some.injEq] at h
   subst h
   have hj:j < 2:=by have:=(List.getElem?_eq_some_iff.1 hv).1;simpa [pairV] using this
   rw [List.flatMap_cons,Nat.zero_mul,Nat.zero_add,List.getElem?_append_left (by rw [hlen];exact hj)]
   exact hv
  | succ k=>
   rw [List.getElem?_cons_succ] at h
   rw [List.flatMap_cons,List.getElem?_append_right (by rw [hlen];omega),hlen,show (k+1)*2+j - 2=k*2+j from by omega]
   exact ih h j v hv
theorem PairsAt.of {w:World} {base:Nat} {A:Option Addr} {c:Nat} {l:List (Nat × Nat)} (h:w.ownsRow base 100 2 (.slice A l.length c) l.length (l.flatMap pairV)):PairsAt w A l:=fun hl=>by
 obtain ⟨g,hA,hg,hc⟩:=own_cells h hl
 exact ⟨g,hA,hg,fun k p hk j v hv=>hc _ v (flat_at hk j v hv)⟩
end
section
open Go Go.RowKit Bth
set_option maxRecDepth 100000
def CK.num:CK→Int
 | .I8=>1
 | .U8=>2
 | .I16=>3
 | .U16=>4
 | .I32=>5
 | .U32=>6
 | .I64=>7
 | .U64=>8
 | .F32=>9
 | .F64=>10
 | .String=>11
def C.bits (c:C):Int:=
 match c.k with
 | .I8=>c.n % 256
 | .U8=>IntKind.u64.wrap c.n
 | .I16=>IntKind.u64.wrap (IntKind.u16.wrap c.n)
 | .U16=>IntKind.u64.wrap c.n
 | .I32=>c.n % 4294967296
 | .U32=>IntKind.u64.wrap c.n
 | .I64=>IntKind.u64.wrap c.n
 | .U64=>c.n
 | .F32=>IntKind.u64.wrap (c.n.toNat:Int)
 | .F64=>(c.n.toNat:Int)
 | .String=>0
def C.text (c:C):ByteArray:=match c.k with
 | .String=>c.s
 | _=>⟨#[]⟩
def C.pc (c:C):Value:=.agg #[.int .i64 c.k.num,.int .u64 c.bits,.string c.text]
theorem run_b32 (n:Nat) (W:World):(callFunc 196 #[.float .f32 n]).run Tryz.prog W = .ok (.value (.int .u32 n)) W:=by kernel_rfl
theorem run_b64 (n:Nat) (W:World):(callFunc 197 #[.float .f64 n]).run Tryz.prog W = .ok (.value (.int .u64 n)) W:=by kernel_rfl
theorem tc_I8_I8 (W:World) (x:Value):(Instr.typeAssert (.iface 320 x) 262 320 true).run Tryz.prog W = .ok (.tuple #[x,.bool true]) W:=by kernel_rfl
theorem tc_I8_U8 (W:World) (x:Value):(Instr.typeAssert (.iface 321 x) 262 320 true).run Tryz.prog W = .ok (.tuple #[.int .i8 0,.bool false]) W:=by kernel_rfl
theorem tc_U8_U8 (W:World) (x:Value):(Instr.typeAssert (.iface 321 x) 262 321 true).run Tryz.prog W = .ok (.tuple #[x,.bool true]) W:=by kernel_rfl
theorem tc_I8_I16 (W:World) (x:Value):(Instr.typeAssert (.iface 323 x) 262 320 true).run Tryz.prog W = .ok (.tuple #[.int .i8 0,.bool false]) W:=by kernel_rfl
theorem tc_U8_I16 (W:World) (x:Value):(Instr.typeAssert (.iface 323 x) 262 321 true).run Tryz.prog W = .ok (.tuple #[.int .u8 0,.bool false]) W:=by kernel_rfl
theorem tc_I16_I16 (W:World) (x:Value):(Instr.typeAssert (.iface 323 x) 262 323 true).run Tryz.prog W = .ok (.tuple #[x,.bool true]) W:=by kernel_rfl
theorem tc_I8_U16 (W:World) (x:Value):(Instr.typeAssert (.iface 324 x) 262 320 true).run Tryz.prog W = .ok (.tuple #[.int .i8 0,.bool false]) W:=by kernel_rfl
theorem tc_U8_U16 (W:World) (x:Value):(Instr.typeAssert (.iface 324 x) 262 321 true).run Tryz.prog W = .ok (.tuple #[.int .u8 0,.bool false]) W:=by kernel_rfl
theorem tc_I16_U16 (W:World) (x:Value):(Instr.typeAssert (.iface 324 x) 262 323 true).run Tryz.prog W = .ok (.tuple #[.int .i16 0,.bool false]) W:=by kernel_rfl
theorem tc_U16_U16 (W:World) (x:Value):(Instr.typeAssert (.iface 324 x) 262 324 true).run Tryz.prog W = .ok (.tuple #[x,.bool true]) W:=by kernel_rfl
theorem tc_I8_I32 (W:World) (x:Value):(Instr.typeAssert (.iface 325 x) 262 320 true).run Tryz.prog W = .ok (.tuple #[.int .i8 0,.bool false]) W:=by kernel_rfl
theorem tc_U8_I32 (W:World) (x:Value):(Instr.typeAssert (.iface 325 x) 262 321 true).run Tryz.prog W = .ok (.tuple #[.int .u8 0,.bool false]) W:=by kernel_rfl
theorem tc_I16_I32 (W:World) (x:Value):(Instr.typeAssert (.iface 325 x) 262 323 true).run Tryz.prog W = .ok (.tuple #[.int .i16 0,.bool false]) W:=by kernel_rfl
theorem tc_U16_I32 (W:World) (x:Value):(Instr.typeAssert (.iface 325 x) 262 324 true).run Tryz.prog W = .ok (.tuple #[.int .u16 0,.bool false]) W:=by kernel_rfl
theorem tc_I32_I32 (W:World) (x:Value):(Instr.typeAssert (.iface 325 x) 262 325 true).run Tryz.prog W = .ok (.tuple #[x,.bool true]) W:=by kernel_rfl
theorem tc_I8_U32 (W:World) (x:Value):(Instr.typeAssert (.iface 326 x) 262 320 true).run Tryz.prog W = .ok (.tuple #[.int .i8 0,.bool false]) W:=by kernel_rfl
theorem tc_U8_U32 (W:World) (x:Value):(Instr.typeAssert (.iface 326 x) 262 321 true).run Tryz.prog W = .ok (.tuple #[.int .u8 0,.bool false]) W:=by kernel_rfl
theorem tc_I16_U32 (W:World) (x:Value):(Instr.typeAssert (.iface 326 x) 262 323 true).run Tryz.prog W = .ok (.tuple #[.int .i16 0,.bool false]) W:=by kernel_rfl
theorem tc_U16_U32 (W:World) (x:Value):(Instr.typeAssert (.iface 326 x) 262 324 true).run Tryz.prog W = .ok (.tuple #[.int .u16 0,.bool false]) W:=by kernel_rfl
theorem tc_I32_U32 (W:World) (x:Value):(Instr.typeAssert (.iface 326 x) 262 325 true).run Tryz.prog W = .ok (.tuple #[.int .i32 0,.bool false]) W:=by kernel_rfl
theorem tc_U32_U32 (W:World) (x:Value):(Instr.typeAssert (.iface 326 x) 262 326 true).run Tryz.prog W = .ok (.tuple #[x,.bool true]) W:=by kernel_rfl
theorem tc_I8_I64 (W:World) (x:Value):(Instr.typeAssert (.iface 327 x) 262 320 true).run Tryz.prog W = .ok (.tuple #[.int .i8 0,.bool false]) W:=by kernel_rfl
theorem tc_U8_I64 (W:World) (x:Value):(Instr.typeAssert (.iface 327 x) 262 321 true).run Tryz.prog W = .ok (.tuple #[.int .u8 0,.bool false]) W:=by kernel_rfl
theorem tc_I16_I64 (W:World) (x:Value):(Instr.typeAssert (.iface 327 x) 262 323 true).run Tryz.prog W = .ok (.tuple #[.int .i16 0,.bool false]) W:=by kernel_rfl
theorem tc_U16_I64 (W:World) (x:Value):(Instr.typeAssert (.iface 327 x) 262 324 true).run Tryz.prog W = .ok (.tuple #[.int .u16 0,.bool false]) W:=by kernel_rfl
theorem tc_I32_I64 (W:World) (x:Value):(Instr.typeAssert (.iface 327 x) 262 325 true).run Tryz.prog W = .ok (.tuple #[.int .i32 0,.bool false]) W:=by kernel_rfl
theorem tc_U32_I64 (W:World) (x:Value):(Instr.typeAssert (.iface 327 x) 262 326 true).run Tryz.prog W = .ok (.tuple #[.int .u32 0,.bool false]) W:=by kernel_rfl
theorem tc_I64_I64 (W:World) (x:Value):(Instr.typeAssert (.iface 327 x) 262 327 true).run Tryz.prog W = .ok (.tuple #[x,.bool true]) W:=by kernel_rfl
theorem tc_I8_U64 (W:World) (x:Value):(Instr.typeAssert (.iface 328 x) 262 320 true).run Tryz.prog W = .ok (.tuple #[.int .i8 0,.bool false]) W:=by kernel_rfl
theorem tc_U8_U64 (W:World) (x:Value):(Instr.typeAssert (.iface 328 x) 262 321 true).run Tryz.prog W = .ok (.tuple #[.int .u8 0,.bool false]) W:=by kernel_rfl
theorem tc_I16_U64 (W:World) (x:Value):(Instr.typeAssert (.iface 328 x) 262 323 true).run Tryz.prog W = .ok (.tuple #[.int .i16 0,.bool false]) W:=by kernel_rfl
theorem tc_U16_U64 (W:World) (x:Value):(Instr.typeAssert (.iface 328 x) 262 324 true).run Tryz.prog W = .ok (.tuple #[.int .u16 0,.bool false]) W:=by kernel_rfl
theorem tc_I32_U64 (W:World) (x:Value):(Instr.typeAssert (.iface 328 x) 262 325 true).run Tryz.prog W = .ok (.tuple #[.int .i32 0,.bool false]) W:=by kernel_rfl
theorem tc_U32_U64 (W:World) (x:Value):(Instr.typeAssert (.iface 328 x) 262 326 true).run Tryz.prog W = .ok (.tuple #[.int .u32 0,.bool false]) W:=by kernel_rfl
theorem tc_I64_U64 (W:World) (x:Value):(Instr.typeAssert (.iface 328 x) 262 327 true).run Tryz.prog W = .ok (.tuple #[.int .i64 0,.bool false]) W:=by kernel_rfl
theorem tc_U64_U64 (W:World) (x:Value):(Instr.typeAssert (.iface 328 x) 262 328 true).run Tryz.prog W = .ok (.tuple #[x,.bool true]) W:=by kernel_rfl
theorem tc_I8_F32 (W:World) (x:Value):(Instr.typeAssert (.iface 330 x) 262 320 true).run Tryz.prog W = .ok (.tuple #[.int .i8 0,.bool false]) W:=by kernel_rfl
theorem tc_U8_F32 (W:World) (x:Value):(Instr.typeAssert (.iface 330 x) 262 321 true).run Tryz.prog W = .ok (.tuple #[.int .u8 0,.bool false]) W:=by kernel_rfl
theorem tc_I16_F32 (W:World) (x:Value):(Instr.typeAssert (.iface 330 x) 262 323 true).run Tryz.prog W = .ok (.tuple #[.int .i16 0,.bool false]) W:=by kernel_rfl
theorem tc_U16_F32 (W:World) (x:Value):(Instr.typeAssert (.iface 330 x) 262 324 true).run Tryz.prog W = .ok (.tuple #[.int .u16 0,.bool false]) W:=by kernel_rfl
theorem tc_I32_F32 (W:World) (x:Value):(Instr.typeAssert (.iface 330 x) 262 325 true).run Tryz.prog W = .ok (.tuple #[.int .i32 0,.bool false]) W:=by kernel_rfl
theorem tc_U32_F32 (W:World) (x:Value):(Instr.typeAssert (.iface 330 x) 262 326 true).run Tryz.prog W = .ok (.tuple #[.int .u32 0,.bool false]) W:=by kernel_rfl
theorem tc_I64_F32 (W:World) (x:Value):(Instr.typeAssert (.iface 330 x) 262 327 true).run Tryz.prog W = .ok (.tuple #[.int .i64 0,.bool false]) W:=by kernel_rfl
theorem tc_U64_F32 (W:World) (x:Value):(Instr.typeAssert (.iface 330 x) 262 328 true).run Tryz.prog W = .ok (.tuple #[.int .u64 0,.bool false]) W:=by kernel_rfl
theorem tc_F32_F32 (W:World) (x:Value):(Instr.typeAssert (.iface 330 x) 262 330 true).run Tryz.prog W = .ok (.tuple #[x,.bool true]) W:=by kernel_rfl
theorem tc_I8_F64 (W:World) (x:Value):(Instr.typeAssert (.iface 333 x) 262 320 true).run Tryz.prog W = .ok (.tuple #[.int .i8 0,.bool false]) W:=by kernel_rfl
theorem tc_U8_F64 (W:World) (x:Value):(Instr.typeAssert (.iface 333 x) 262 321 true).run Tryz.prog W = .ok (.tuple #[.int .u8 0,.bool false]) W:=by kernel_rfl
theorem tc_I16_F64 (W:World) (x:Value):(Instr.typeAssert (.iface 333 x) 262 323 true).run Tryz.prog W = .ok (.tuple #[.int .i16 0,.bool false]) W:=by kernel_rfl
theorem tc_U16_F64 (W:World) (x:Value):(Instr.typeAssert (.iface 333 x) 262 324 true).run Tryz.prog W = .ok (.tuple #[.int .u16 0,.bool false]) W:=by kernel_rfl
theorem tc_I32_F64 (W:World) (x:Value):(Instr.typeAssert (.iface 333 x) 262 325 true).run Tryz.prog W = .ok (.tuple #[.int .i32 0,.bool false]) W:=by kernel_rfl
theorem tc_U32_F64 (W:World) (x:Value):(Instr.typeAssert (.iface 333 x) 262 326 true).run Tryz.prog W = .ok (.tuple #[.int .u32 0,.bool false]) W:=by kernel_rfl
theorem tc_I64_F64 (W:World) (x:Value):(Instr.typeAssert (.iface 333 x) 262 327 true).run Tryz.prog W = .ok (.tuple #[.int .i64 0,.bool false]) W:=by kernel_rfl
theorem tc_U64_F64 (W:World) (x:Value):(Instr.typeAssert (.iface 333 x) 262 328 true).run Tryz.prog W = .ok (.tuple #[.int .u64 0,.bool false]) W:=by kernel_rfl
theorem tc_F32_F64 (W:World) (x:Value):(Instr.typeAssert (.iface 333 x) 262 330 true).run Tryz.prog W = .ok (.tuple #[.float .f32 0,.bool false]) W:=by kernel_rfl
theorem tc_F64_F64 (W:World) (x:Value):(Instr.typeAssert (.iface 333 x) 262 333 true).run Tryz.prog W = .ok (.tuple #[x,.bool true]) W:=by kernel_rfl
theorem tc_I8_String (W:World) (x:Value):(Instr.typeAssert (.iface 335 x) 262 320 true).run Tryz.prog W = .ok (.tuple #[.int .i8 0,.bool false]) W:=by kernel_rfl
theorem tc_U8_String (W:World) (x:Value):(Instr.typeAssert (.iface 335 x) 262 321 true).run Tryz.prog W = .ok (.tuple #[.int .u8 0,.bool false]) W:=by kernel_rfl
theorem tc_I16_String (W:World) (x:Value):(Instr.typeAssert (.iface 335 x) 262 323 true).run Tryz.prog W = .ok (.tuple #[.int .i16 0,.bool false]) W:=by kernel_rfl
theorem tc_U16_String (W:World) (x:Value):(Instr.typeAssert (.iface 335 x) 262 324 true).run Tryz.prog W = .ok (.tuple #[.int .u16 0,.bool false]) W:=by kernel_rfl
theorem tc_I32_String (W:World) (x:Value):(Instr.typeAssert (.iface 335 x) 262 325 true).run Tryz.prog W = .ok (.tuple #[.int .i32 0,.bool false]) W:=by kernel_rfl
theorem tc_U32_String (W:World) (x:Value):(Instr.typeAssert (.iface 335 x) 262 326 true).run Tryz.prog W = .ok (.tuple #[.int .u32 0,.bool false]) W:=by kernel_rfl
theorem tc_I64_String (W:World) (x:Value):(Instr.typeAssert (.iface 335 x) 262 327 true).run Tryz.prog W = .ok (.tuple #[.int .i64 0,.bool false]) W:=by kernel_rfl
theorem tc_U64_String (W:World) (x:Value):(Instr.typeAssert (.iface 335 x) 262 328 true).run Tryz.prog W = .ok (.tuple #[.int .u64 0,.bool false]) W:=by kernel_rfl
theorem tc_F32_String (W:World) (x:Value):(Instr.typeAssert (.iface 335 x) 262 330 true).run Tryz.prog W = .ok (.tuple #[.float .f32 0,.bool false]) W:=by kernel_rfl
theorem tc_F64_String (W:World) (x:Value):(Instr.typeAssert (.iface 335 x) 262 333 true).run Tryz.prog W = .ok (.tuple #[.float .f64 0,.bool false]) W:=by kernel_rfl
theorem tc_String_String (W:World) (x:Value):(Instr.typeAssert (.iface 335 x) 262 335 true).run Tryz.prog W = .ok (.tuple #[x,.bool true]) W:=by kernel_rfl
set_option maxHeartbeats 4000000 in
theorem plainConstant_calls (w:World) (c:C):Calls Tryz.prog 173 #[O.val (.con c)] w fun e w'=>e = .returned c.pc∧Fr nope w w':=by
 obtain ⟨k,n,s⟩:=c
 simp only [O.val,C.pc]
 cases k
 ·simp only [CK.ty,C.pay,CK.num,C.bits,C.text]
  have h0:=tc_I8_I8
  go_enter Tryz.func173,Tryz.ntmps173
  go_wp2
  refine bodyPost_ret (results_cell_row rfl _ _ w.heap.size _ _ _ _ rfl (heap_alloc_new w _) Tryz.underlying81 rfl (by kernel_rfl)) rfl ⟨?_,(Fr.refl _ _).alloc _⟩
  first | rfl | simp
 ·simp only [CK.ty,C.pay,CK.num,C.bits,C.text]
  have h0:=tc_I8_U8
  have h1:=tc_U8_U8
  go_enter Tryz.func173,Tryz.ntmps173
  go_wp2
  refine bodyPost_ret (results_cell_row rfl _ _ w.heap.size _ _ _ _ rfl (heap_alloc_new w _) Tryz.underlying81 rfl (by kernel_rfl)) rfl ⟨?_,(Fr.refl _ _).alloc _⟩
  first | rfl | simp
 ·simp only [CK.ty,C.pay,CK.num,C.bits,C.text]
  have h0:=tc_I8_I16
  have h1:=tc_U8_I16
  have h2:=tc_I16_I16
  go_enter Tryz.func173,Tryz.ntmps173
  go_wp2
  refine bodyPost_ret (results_cell_row rfl _ _ w.heap.size _ _ _ _ rfl (heap_alloc_new w _) Tryz.underlying81 rfl (by kernel_rfl)) rfl ⟨?_,(Fr.refl _ _).alloc _⟩
  first | rfl | simp
 ·simp only [CK.ty,C.pay,CK.num,C.bits,C.text]
  have h0:=tc_I8_U16
  have h1:=tc_U8_U16
  have h2:=tc_I16_U16
  have h3:=tc_U16_U16
  go_enter Tryz.func173,Tryz.ntmps173
  go_wp2
  refine bodyPost_ret (results_cell_row rfl _ _ w.heap.size _ _ _ _ rfl (heap_alloc_new w _) Tryz.underlying81 rfl (by kernel_rfl)) rfl ⟨?_,(Fr.refl _ _).alloc _⟩
  first | rfl | simp
 ·simp only [CK.ty,C.pay,CK.num,C.bits,C.text]
  have h0:=tc_I8_I32
  have h1:=tc_U8_I32
  have h2:=tc_I16_I32
  have h3:=tc_U16_I32
  have h4:=tc_I32_I32
  go_enter Tryz.func173,Tryz.ntmps173
  go_wp2
  refine bodyPost_ret (results_cell_row rfl _ _ w.heap.size _ _ _ _ rfl (heap_alloc_new w _) Tryz.underlying81 rfl (by kernel_rfl)) rfl ⟨?_,(Fr.refl _ _).alloc _⟩
  first | rfl | simp
 ·simp only [CK.ty,C.pay,CK.num,C.bits,C.text]
  have h0:=tc_I8_U32
  have h1:=tc_U8_U32
  have h2:=tc_I16_U32
  have h3:=tc_U16_U32
  have h4:=tc_I32_U32
  have h5:=tc_U32_U32
  go_enter Tryz.func173,Tryz.ntmps173
  go_wp2
  refine bodyPost_ret (results_cell_row rfl _ _ w.heap.size _ _ _ _ rfl (heap_alloc_new w _) Tryz.underlying81 rfl (by kernel_rfl)) rfl ⟨?_,(Fr.refl _ _).alloc _⟩
  first | rfl | simp
 ·simp only [CK.ty,C.pay,CK.num,C.bits,C.text]
  have h0:=tc_I8_I64
  have h1:=tc_U8_I64
  have h2:=tc_I16_I64
  have h3:=tc_U16_I64
  have h4:=tc_I32_I64
  have h5:=tc_U32_I64
  have h6:=tc_I64_I64
  go_enter Tryz.func173,Tryz.ntmps173
  go_wp2
  refine bodyPost_ret (results_cell_row rfl _ _ w.heap.size _ _ _ _ rfl (heap_alloc_new w _) Tryz.underlying81 rfl (by kernel_rfl)) rfl ⟨?_,(Fr.refl _ _).alloc _⟩
  first | rfl | simp
 ·simp only [CK.ty,C.pay,CK.num,C.bits,C.text]
  have h0:=tc_I8_U64
  have h1:=tc_U8_U64
  have h2:=tc_I16_U64
  have h3:=tc_U16_U64
  have h4:=tc_I32_U64
  have h5:=tc_U32_U64
  have h6:=tc_I64_U64
  have h7:=tc_U64_U64
  go_enter Tryz.func173,Tryz.ntmps173
  go_wp2
  refine bodyPost_ret (results_cell_row rfl _ _ w.heap.size _ _ _ _ rfl (heap_alloc_new w _) Tryz.underlying81 rfl (by kernel_rfl)) rfl ⟨?_,(Fr.refl _ _).alloc _⟩
  first | rfl | simp
 ·simp only [CK.ty,C.pay,CK.num,C.bits,C.text]
  have h0:=tc_I8_F32
  have h1:=tc_U8_F32
  have h2:=tc_I16_F32
  have h3:=tc_U16_F32
  have h4:=tc_I32_F32
  have h5:=tc_U32_F32
  have h6:=tc_I64_F32
  have h7:=tc_U64_F32
  have h8:=tc_F32_F32
  have hb:=run_b32
  go_enter Tryz.func173,Tryz.ntmps173
  go_wp2
  refine bodyPost_ret (results_cell_row rfl _ _ w.heap.size _ _ _ _ rfl (heap_alloc_new w _) Tryz.underlying81 rfl (by kernel_rfl)) rfl ⟨?_,(Fr.refl _ _).alloc _⟩
  first | rfl | simp
 ·simp only [CK.ty,C.pay,CK.num,C.bits,C.text]
  have h0:=tc_I8_F64
  have h1:=tc_U8_F64
  have h2:=tc_I16_F64
  have h3:=tc_U16_F64
  have h4:=tc_I32_F64
  have h5:=tc_U32_F64
  have h6:=tc_I64_F64
  have h7:=tc_U64_F64
  have h8:=tc_F32_F64
  have h9:=tc_F64_F64
  have hb:=run_b64
  go_enter Tryz.func173,Tryz.ntmps173
  go_wp2
  refine bodyPost_ret (results_cell_row rfl _ _ w.heap.size _ _ _ _ rfl (heap_alloc_new w _) Tryz.underlying81 rfl (by kernel_rfl)) rfl ⟨?_,(Fr.refl _ _).alloc _⟩
  first | rfl | simp
 ·simp only [CK.ty,C.pay,CK.num,C.bits,C.text]
  have h0:=tc_I8_String
  have h1:=tc_U8_String
  have h2:=tc_I16_String
  have h3:=tc_U16_String
  have h4:=tc_I32_String
  have h5:=tc_U32_String
  have h6:=tc_I64_String
  have h7:=tc_U64_String
  have h8:=tc_F32_String
  have h9:=tc_F64_String
  have h10:=tc_String_String
  go_enter Tryz.func173,Tryz.ntmps173
  go_wp2
  refine bodyPost_ret (results_cell_row rfl _ _ w.heap.size _ _ _ _ rfl (heap_alloc_new w _) Tryz.underlying81 rfl (by kernel_rfl)) rfl ⟨?_,(Fr.refl _ _).alloc _⟩
  first | rfl | simp
end
end Go.Proofs.YtbgblfiapecioaaGreat
