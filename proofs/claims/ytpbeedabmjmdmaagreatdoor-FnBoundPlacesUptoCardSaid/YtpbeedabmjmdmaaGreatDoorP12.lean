/- Part of the proof of a statement about pub-berthage: what its texts have in common. -/
import Derived.Test.YtpbeedabmjmdmaaGreatDoorP11
namespace Go.Proofs.YtpbeedabmjmdmaaGreatDoor
section
open Go Go.RowKit Bth
set_option maxRecDepth 100000
theorem Rec.At.opsAt {w:World} {r:Rec} (h:r.At w):OpsAt w r.i.ops r.ops:=by
 obtain ⟨A,c,e,_,_⟩:=own_slice h.own.ops
 have hs:=h.own.ops
 rw [e] at hs
 have hv:r.i.ops.val = .slice A r.ops.length c:=e
 unfold SV.val at hv
 injection hv with e1 e2 e3
 exact ⟨e2,by rw [e1];exact own_Sl hs,h.ats.1⟩
theorem Rec.At.inpAt {w:World} {r:Rec} (h:r.At w):OpsAt w r.i.inp r.inp:=by
 obtain ⟨A,c,e,_,_⟩:=own_slice h.own.inp
 have hs:=h.own.inp
 rw [e] at hs
 have hv:r.i.inp.val = .slice A r.inp.length c:=e
 unfold SV.val at hv
 injection hv with e1 e2 e3
 exact ⟨e2,by rw [e1];exact own_Sl hs,h.ats.2.1⟩
theorem Rec.At.outAt {w:World} {r:Rec} (h:r.At w):OpsAt w r.i.out r.out:=by
 obtain ⟨A,c,e,_,_⟩:=own_slice h.own.out
 have hs:=h.own.out
 rw [e] at hs
 have hv:r.i.out.val = .slice A r.out.length c:=e
 unfold SV.val at hv
 injection hv with e1 e2 e3
 exact ⟨e2,by rw [e1];exact own_Sl hs,h.ats.2.2⟩
def Ins.row (i:Ins) (p:Bool):SV:=if p then i.succ else i.pred
def Ins.setRow (i:Ins) (p:Bool) (s:SV):Ins:=if p then { i with succ:=s } else { i with pred:=s }
theorem Ins.setRow_same (i:Ins) (p:Bool) (s:SV):SameBut i (i.setRow p s):=by
 unfold Ins.setRow
 split<;>exact ⟨rfl,rfl,rfl,rfl,rfl,rfl,rfl,rfl,rfl,rfl⟩
def rowB (rs:List Rec) (p:Bool) (k:Nat):Option Nat:=(rs[k]?).bind fun r=>(r.i.row p).val.ownBlock
structure Links (w:World) (B:Nat) (rs:List Rec) (X:Bool→Nat→List Value):Prop where
 row:∀ p k r,rs[k]? = some r→w.ownsRow B 115 1 (r.i.row p).val (X p k).length (X p k)
 apart:∀ p k q j b,(p,k)≠(q,j)→rowB rs p k=some b→rowB rs q j≠some b
def pushX (X:Bool→Nat→List Value) (p:Bool) (k:Nat) (v:Value):Bool→Nat→List Value:=fun q j=>if q=p∧j=k then X q j ++ [v] else X q j
theorem Links.frT {T:List TypeId} {S:Nat→Prop} {w w':World} {B:Nat} {rs:List Rec} {X:Bool→Nat→List Value} (h:Links w B rs X) (hf:Fr S w w') (hs:NoT T w S) (ht:115∈T):Links w' B rs X:=
 ⟨fun p k r hk=>own_frT (h.row p k r hk) hf hs ht,h.apart⟩
theorem Links.push {w w':World} {B:Nat} {rs:List Rec} {X:Bool→Nat→List Value} (h:Links w B rs X) {k:Nat} {r:Rec} (hk:rs[k]? = some r) {p:Bool} {s:SV} {v:Value} {ty:TypeId} {cs:Array Value}
  (hrow:w'.ownsRow B 115 1 s.val ((X p k).length+1) (X p k ++ [v])) (hf:Fr (fun b=>b=r.b∨(r.i.row p).val.ownBlock=some b) w w') (hrb:w.heap[r.b]? = some (.cells cs ty (0,0))) (hty:ty≠115)
  (hb:s.val.ownBlock=(r.i.row p).val.ownBlock∨∃ b,s.val.ownBlock=some b∧w.heap.size≤b):Links w' B (rs.set k (r.with (r.i.setRow p s))) (pushX X p k v):=by
 have hkl:=(List.getElem?_eq_some_iff.1 hk).1
 have hB:∀ q j b,rowB rs q j=some b→b < w.heap.size:=by
  intro q j b hb
  unfold rowB at hb
  obtain ⟨x,h1,h2⟩:=Option.bind_eq_some_iff.1 hb
  exact own_lt (h.row q j x h1) b h2
 have hset:∀ q j,(q,j)≠(p,k)→rowB (rs.set k (r.with (r.i.setRow p s))) q j=rowB rs q j:=by
  intro q j hne
  unfold rowB
  rw [List.getElem?_set]
  split
  ·rename_i e
   subst e
   rw [hk]
   have hqp:q≠p:=fun e=>hne (by rw [e])
   simp only [Option.bind_some,Rec.with]
   unfold Ins.setRow Ins.row
   cases q<;>cases p<;>simp_all
  ·rfl
 have hself:rowB (rs.set k (r.with (r.i.setRow p s))) p k=s.val.ownBlock:=by
  unfold rowB
  rw [List.getElem?_set,if_pos rfl,if_pos hkl]
  simp only [Option.bind_some,Rec.with]
  unfold Ins.setRow Ins.row
  cases p<;>rfl
 have hself0:rowB rs p k=(r.i.row p).val.ownBlock:=by unfold rowB;rw [hk];rfl
 refine ⟨fun q j x hx=>?_,fun q j q' j' b hne h1 h2=>?_⟩
 ·by_cases hqj:(q,j)=(p,k)
  ·injection hqj with e1 e2
   subst e1 e2
   rw [List.getElem?_set,if_pos rfl,if_pos hkl] at hx
   injection hx with hx
   subst hx
   have e1:((r.with (r.i.setRow q s)).i.row q).val=s.val:=by
    simp only [Rec.with]
    unfold Ins.setRow Ins.row
    cases q<;>rfl
   have e2:pushX X q j v q j=X q j ++ [v]:=by simp [pushX]
   rw [e1,e2,List.length_append]
   exact hrow
  ·have e2:pushX X p k v q j=X q j:=by
    unfold pushX
    rw [if_neg (fun e=>hqj (by rw [e.1,e.2]))]
   rw [e2]
   have hold:∃ y,rs[j]? = some y∧(y.i.row q).val=(x.i.row q).val:=by
    rw [List.getElem?_set] at hx
    split at hx
    ·rename_i e
     subst e
     injection hx with hx
     subst hx
     refine ⟨r,hk,?_⟩
     have hqp:q≠p:=fun e=>hqj (by rw [e])
     simp only [Rec.with]
     unfold Ins.setRow Ins.row
     cases q<;>cases p<;>simp_all
    ·exact ⟨x,hx,rfl⟩
   obtain ⟨y,hy,hxy⟩:=hold
   have hrow0:=h.row q j y hy
   rw [← hxy]
   refine own_fr hrow0 hf fun b hb1 hS=>?_
   rcases hS with rfl | hS
   ·rcases hrow0.2 with ⟨e,_⟩ | ⟨g,cap,cur,e,_,hg,_⟩
    ·rw [e] at hb1;simp [Value.ownBlock] at hb1
    ·rw [e] at hb1
     simp only [Value.ownBlock,Option.some.injEq] at hb1
     subst hb1
     rw [hrb] at hg
     injection hg with hg
     injection hg with _ hg
     exact hty hg
   ·have e3:rowB rs q j=some b:=by unfold rowB;rw [hy];exact hb1
    exact h.apart q j p k b hqj e3 (hself0.trans hS)
 ·by_cases hqj:(q,j)=(p,k)
  ·have hne':(q',j')≠(p,k):=fun e=>hne (hqj.trans e.symm)
   injection hqj with e1 e2
   subst e1 e2
   rw [hself] at h1
   rw [hset q' j' hne'] at h2
   rcases hb with hb | ⟨nb,hb,hlt⟩
   ·exact h.apart q j q' j' b hne (hself0.trans (hb.symm.trans h1)) h2
   ·rw [h1] at hb
    injection hb with hb
    have:=hB q' j' b h2
    omega
  ·rw [hset q j hqj] at h1
   by_cases hqj':(q',j')=(p,k)
   ·injection hqj' with e1 e2
    subst e1 e2
    rw [hself] at h2
    rcases hb with hb | ⟨nb,hb,hlt⟩
    ·exact h.apart q j q' j' b hne h1 (hself0.trans (hb.symm.trans h2))
    ·rw [h2] at hb
     injection hb with hb
     have:=hB q j b h1
     omega
   ·rw [hset q' j' hqj'] at h2
    exact h.apart q j q' j' b hne h1 h2
theorem Links.fresh {w:World} {B:Nat} {rs:List Rec} (h:∀ r∈rs,Fresh r):Links w B rs (fun _ _=>[]):=by
 have key:∀ (p:Bool) (k:Nat) (r:Rec),rs[k]? = some r→(r.i.row p).val=Value.slice none 0 0:=by
  intro p k r hk
  obtain ⟨h1,h2,_⟩:=h r (List.mem_of_getElem? hk)
  unfold Ins.row
  cases p
  ·simp [h1,SV.val]
  ·simp [h2,SV.val]
 refine ⟨fun p k r hk=>?_,fun p k q j b _ h1 _=>?_⟩
 ·rw [key p k r hk];exact own_nil _ _ _ _
 ·unfold rowB at h1
  obtain ⟨x,h2,h3⟩:=Option.bind_eq_some_iff.1 h1
  rw [key p k x h2] at h3
  simp [Value.ownBlock] at h3
end
section
open Go Go.RowKit Bth
set_option maxRecDepth 100000
def offR (p:Bool):Nat:=if p then 11 else 10
theorem own_ne {w:World} {base n size:Nat} {e:TypeId} {v:Value} {xs:List Value} {b:Nat} {cs:Array Value} {t:TypeId} {fr:Nat × Nat} (h:w.ownsRow base e size v n xs) (hb:w.heap[b]? = some (.cells cs t fr)) (ht:t≠e):v.ownBlock≠some b:=by
 intro e1
 rcases h.2 with ⟨rfl,_⟩ | ⟨g,cap,cur,rfl,_,hg,_⟩
 ·simp [Value.ownBlock] at e1
 ·simp only [Value.ownBlock,Option.some.injEq] at e1
  subst e1
  rw [hb] at hg
  injection hg with hg
  injection hg with _ hg
  exact ht hg
theorem setRow_cells (i:Ins) (p:Bool) (s:SV):i.cells.setIfInBounds (offR p) (.slice s.A s.n s.c)=(i.setRow p s).cells:=by cases p<;>rfl
theorem FState.push {w w1 w3:World} {fs:Nat→Option Nat} {ns:List PN} {fb:Nat} {f:Fn} {nds:List Nd} {rs:List Rec} {cms:List (Nat × List ByteArray)} {B:Nat} {X:Bool→Nat→List Value}
  (h:FState w fs ns fb f nds rs cms) (L:Links w B rs X) {k:Nat} {r:Rec} (hk:rs[k]? = some r) (p:Bool) (s:SV) (v:Value) (hf1:Fr nope w w1)
  (hown:w3.ownsRow B 115 1 s.val ((X p k).length+1) (X p k ++ [v])) (hf3:Fr (fun b=>(r.i.row p).val.ownBlock=some b) w1 w3) (hb:s.val.ownBlock=(r.i.row p).val.ownBlock∨s.val.ownBlock=some w1.heap.size):
  FState (w3.setCell ⟨r.b,offR p,none⟩ (.slice s.A s.n s.c)) fs ns fb f nds (rs.set k (r.with (r.i.setRow p s))) cms∧Links (w3.setCell ⟨r.b,offR p,none⟩ (.slice s.A s.n s.c)) B (rs.set k (r.with (r.i.setRow p s))) (pushX X p k v) ∧
   Fr (fun b=>b=r.b∨(r.i.row p).val.ownBlock=some b) w (w3.setCell ⟨r.b,offR p,none⟩ (.slice s.A s.n s.c)):=by
 have hr:=(h.recs r (List.mem_of_getElem? hk)).1.own.at_
 have hrow:=L.row p k r hk
 have hne:=own_ne hrow hr (by decide)
 have hr3:=hf3.heap (hf1.heap hr (fun x=>x)) hne
 have hb4:=setCell_heap (k:=offR p) hr3 (.slice s.A s.n s.c)
 rw [setRow_cells] at hb4
 have hst:Fr (fun b=>b=r.b) w3 (w3.setCell ⟨r.b,offR p,none⟩ (.slice s.A s.n s.c)):=Fr.setCell (S:=fun b=>b=r.b) (p:=⟨r.b,offR p,none⟩) (Fr.refl _ w3) (.inl rfl) _
 have hf:Fr (fun b=>b=r.b∨(r.i.row p).val.ownBlock=some b) w (w3.setCell ⟨r.b,offR p,none⟩ (.slice s.A s.n s.c)):=(hf1.of_nope.then (hf3.mono fun x _ hx=>.inr hx)).then (hst.mono fun x _ hx=>.inl hx)
 refine ⟨h.upd hk (r.i.setRow_same p s) hf (NoT.own hrow (by decide)) hb4,L.push hk (own_fr hown hst ?_) hf hr (by decide) ?_,hf⟩
 ·intro b hb1 hb2
  subst hb2
  exact own_ne hown hr3 (by decide) hb1
 ·rcases hb with hb | hb
  ·exact .inl hb
  ·exact .inr ⟨_,hb,hf1.size⟩
def Like (rs rs':List Rec):Prop:=rs'.length=rs.length∧∀ (k:Nat) (r':Rec),rs'[k]? = some r'→∃ (r:Rec) (i:Ins),rs[k]? = some r∧r'=r.with i∧SameBut r.i i
theorem SameBut.refl (i:Ins):SameBut i i:=⟨rfl,rfl,rfl,rfl,rfl,rfl,rfl,rfl,rfl,rfl⟩
theorem SameBut.trans {a b c:Ins} (h:SameBut a b) (k:SameBut b c):SameBut a c:=
 ⟨k.opc.trans h.opc,k.suf.trans h.suf,k.ops.trans h.ops,k.inp.trans h.inp,k.out.trans h.out,k.term.trans h.term,k.br.trans h.br,k.cond.trans h.cond,k.canc.trans h.canc,k.isa.trans h.isa⟩
theorem Like.refl (rs:List Rec):Like rs rs:=⟨rfl,fun _ r h=>⟨r,r.i,h,rfl,SameBut.refl _⟩⟩
theorem Like.set {rs rs':List Rec} (h:Like rs rs') {k:Nat} {r:Rec} (hk:rs'[k]? = some r) {i:Ins} (hi:SameBut r.i i):Like rs (rs'.set k (r.with i)):=by
 refine ⟨by rw [List.length_set];exact h.1,fun j x hx=>?_⟩
 rw [List.getElem?_set] at hx
 split at hx
 ·rename_i e
  split at hx
  ·injection hx with hx
   subst hx e
   obtain ⟨r0,i0,h1,rfl,h3⟩:=h.2 k r hk
   exact ⟨r0,i,h1,rfl,h3.trans hi⟩
  ·cases hx
 ·exact h.2 j x hx
theorem Like.trans {a b c:List Rec} (h:Like a b) (k:Like b c):Like a c:=by
 refine ⟨k.1.trans h.1,fun j x hx=>?_⟩
 obtain ⟨r,i,h1,rfl,h3⟩:=k.2 j x hx
 obtain ⟨r0,i0,g1,rfl,g3⟩:=h.2 j r h1
 exact ⟨r0,i,g1,rfl,g3.trans h3⟩
theorem Like.bs {rs rs':List Rec} (h:Like rs rs'):rs'.map (·.b)=rs.map (·.b):=by
 apply List.ext_getElem?
 intro k
 rw [List.getElem?_map,List.getElem?_map]
 cases hk:rs'[k]? with
 | none=>
  have hl:=h.1
  have:rs[k]? = none:=by rw [List.getElem?_eq_none_iff] at hk ⊢;omega
  rw [this]
 | some x=>
  obtain ⟨r,i,h1,rfl,_⟩:=h.2 k x hk
  rw [h1];rfl
theorem LabAt.ne {w:World} {mb b:Nat} {t:ByteArray→Option Nat} {cs:Array Value} {ty:TypeId} {fr:Nat × Nat} (h:LabAt w mb t) (hb:w.heap[b]? = some (.cells cs ty fr)):mb≠b:=by
 rintro rfl
 obtain ⟨ks,es,clock,h1,_⟩:=h
 rw [hb] at h1
 cases h1
theorem own_heap {w:World} {base n size:Nat} {e:TypeId} {v:Value} {xs:List Value} {b:Nat} (h:w.ownsRow base e size v n xs) (hb:v.ownBlock=some b):∃ cur,w.heap[b]? = some (.cells cur e (0,0)):=by
 rcases h.2 with ⟨rfl,_⟩ | ⟨g,cap,cur,rfl,_,hg,_⟩
 ·simp [Value.ownBlock] at hb
 ·simp only [Value.ownBlock,Option.some.injEq] at hb
  subst hb
  exact ⟨cur,hg⟩
def succK (t:ByteArray→Option Nat) (bs:List Nat) (k:Nat) (i:Ins) (ops:List O):Option (List (Option Nat)):=
 (if i.br then (targetOf true ops).bind fun s=>(t s).map fun b=>[some b] else some []).map fun l=>l ++ (if i.term || (i.br && !i.cond) then [] else [bs[k+1]?])
theorem succK_same {t:ByteArray→Option Nat} {bs:List Nat} {k:Nat} {i i':Ins} {ops:List O} (h:SameBut i i'):succK t bs k i' ops=succK t bs k i ops:=by
 unfold succK;rw [h.br,h.term,h.cond]
theorem bs_next {rs:List Rec} {k:Nat} : (rs.map (·.b))[k]? = (rs[k]?).map (·.b):=by rw [List.getElem?_map]
end
end Go.Proofs.YtpbeedabmjmdmaaGreatDoor
