/- Part of the proof of a statement about pub-berthage: what its texts have in common. -/
import Derived.Deep.QuietTactic
import Derived.BigQuiet
import Derived.Test.YtpbeedabmjmdmaaGreatDoorP03
import Derived.Test.YtpbeedabmjmdmaaGreatDoorP17
namespace Go.Proofs.YtpbeedabmjmdmaaGreatDoor
section
open Go Go.RowKit Go.MapKept Bth
set_option maxRecDepth 100000
theorem nodup_le {l m:List Nat} (h:l.Nodup) (hs:∀ x∈l,x∈m):l.length≤m.length:=by
 induction l generalizing m with
 | nil=>simp
 | cons a l ih=>
  have ha:=hs a (by simp)
  obtain ⟨h1,h2⟩:=List.nodup_cons.1 h
  have:=ih (m:=m.erase a) h2 (fun x hx=>(List.mem_erase_of_ne (by rintro rfl;exact h1 hx)).2 (hs x (List.mem_cons_of_mem _ hx)))
  rw [List.length_erase_of_mem ha] at this
  have:=List.length_pos_of_mem ha
  simp only [List.length_cons]
  omega
def addIs (x:Al) (d:Nat) (D:List Nat):Al:=D.foldl (fun x k=>addI x d k) x
theorem addIs_snoc (x:Al) (d:Nat) (D:List Nat) (k:Nat):addIs x d (D ++ [k])=addI (addIs x d D) d k:=by simp [addIs]
theorem addIs_regs (x:Al) (d:Nat) (D:List Nat):(addIs x d D).regs=x.regs:=by
 induction D generalizing x with
 | nil=>rfl
 | cons k D ih=>simp only [addIs,List.foldl_cons] at ih ⊢;rw [ih,addI_regs]
theorem addIs_edges (x:Al) (d:Nat) (D:List Nat):(addIs x d D).edges=x.edges ++ D.map fun k=>(d,k):=by
 induction D generalizing x with
 | nil=>simp [addIs]
 | cons k D ih=>simp only [addIs,List.foldl_cons] at ih ⊢;rw [ih];simp [addI]
structure DInv (F:Nat→Nat) (m:Nat) (todo D:List Nat):Prop where
 nd:todo.Nodup
 dn:D.Nodup
 to:∀ k∈D,F k &&& m≠0∧k∉todo
 all:∀ k,k∉todo→F k &&& m≠0→k∈D
theorem DInv.no {F:Nat→Nat} {m:Nat} {todo D:List Nat} (h:DInv F m todo D) {k:Nat} (hk:F k &&& m=0):DInv F m (todo.erase k) D:=
 ⟨h.nd.erase k,h.dn,fun x hx=>⟨(h.to x hx).1,fun hm=>(h.to x hx).2 (List.mem_of_mem_erase hm)⟩,fun x hx hm=>h.all x (fun hh=>hx ((List.Nodup.mem_erase_iff h.nd).2 ⟨fun e=>by rw [e] at hm;exact hm hk,hh⟩)) hm⟩
theorem DInv.yes {F:Nat→Nat} {m:Nat} {todo D:List Nat} (h:DInv F m todo D) {k:Nat} (hk:F k &&& m≠0) (ht:k∈todo):DInv F m (todo.erase k) (D ++ [k]):=by
 refine ⟨h.nd.erase k,List.nodup_append.2 ⟨h.dn,by simp,fun a ha b hb e=>?_⟩,fun x hx=>?_,fun x hx hm=>?_⟩
 ·obtain rfl:b=k:=by simpa using hb
  subst e
  exact (h.to a ha).2 ht
 ·rcases List.mem_append.1 hx with hx | hx
  ·exact ⟨(h.to x hx).1,fun hm=>(h.to x hx).2 (List.mem_of_mem_erase hm)⟩
  ·obtain rfl:x=k:=by simpa using hx
   exact ⟨hk,fun hm=>((List.Nodup.mem_erase_iff h.nd).1 hm).1 rfl⟩
 ·by_cases e:x=k
  ·subst e;simp
  ·exact List.mem_append_left _ (h.all x (fun hh=>hx ((List.Nodup.mem_erase_iff h.nd).2 ⟨e,hh⟩)) hm)
theorem R.id_lt {r:R} (ok:r.Ok):r.id < 4294967296:=by
 have:=ok.kind
 have:=ok.idx
 unfold R.id
 split<;>omega
theorem Turns.grow {P:Nat→Prop} {w w1 w2:World} {a:Nat} {x:Al} (hl:∀ c,P c→c < w.heap.size) (hs:w.heap.size≤w1.heap.size) (k:Turns (wider P w w1) w1 a x w2):∃ g:AlG,g.a=a∧AlAt w2 (wider P w w2) x g∧Fr (wider P w w1) w1 w2:=by
 obtain ⟨g,h1,h2,h3⟩:=k
 exact ⟨g,h1,h2.more (fun c hc=>wider.trans h3.size c hc hs) (wider_lt hl (Nat.le_trans hs h3.size)),h3⟩
def GivesIs (w:World) (P:Nat→Prop) (a:Nat) (x:Al) (d m:Nat) (F:Nat→Nat) (e:Ending) (w':World):Prop:=e = .returned (.tuple #[])∧∃ D:List Nat,D.Nodup∧(∀ k,k∈D↔F k &&& m≠0)∧Turns P w a (addIs x d D) w'
set_option maxHeartbeats 2000000 in
theorem AddIS_calls (w:World) (P:Nat→Prop) (x:Al) (g:AlG) (r:R) (bo:Option Nat) (F:Nat→Nat) (h:AlAt w P x g) (hl:x.regs.length≤1073741824) (ok:r.Ok) (hat:∀ W,Fr P w W→r.At W) (ho:MaskO w bo F) (hb:∀ b,bo=some b→¬P b)
  (U:List Nat) (hU:∀ k,F k≠0→k∈U∧k < 4294967296) (hle:x.edges.length+U.length≤8796093022208):
  Calls Tryz.prog 87 #[ptr g.a,r.val,.map bo] w (GivesIs w P g.a x r.id r.spec F):=by
 obtain ⟨⟨ks,hO⟩,hF⟩:=ho
 have hks:∀ k,k∈ks↔F k≠0:=fun k=>hO.mem_iff.trans maskV_ne
 have hI0:DInv F r.spec ks []:=⟨hO.nodup,List.nodup_nil,by simp,fun k hk hm=>absurd ((hks k).2 (fun h0=>hm (by rw [h0];simp))) hk⟩
 have hbl:∀ b,bo=some b→b < w.heap.size:=fun c hc=>by subst hc;exact MapAt.lt hO
 have hid:=R.id_lt ok
 go_enter Tryz.func87,Tryz.ntmps87
 go_wp2_with (refine wpList_rangeO rfl rfl rfl hO idInj maskSetT ?_;intro w0 hrg0 hf0 hs0)
 go_frame
 have h0:=h.still hf0
 have hs0':=Lib.hid hs0
 clear hks hs0
 go_loopg [] ks.length (fun n wr=>∃ (todo D:List Nat) (g1:AlG),RangeO wr w.heap.size bo idV ks (fun k=>maskV (F k)) todo∧Hid (g1.a=g.a)∧AlAt wr (wider P w0 wr) (addIs x r.id D) g1∧DInv F r.spec todo D∧Fr (fun c=>P c∨c=w.heap.size) w0 wr∧todo.length=n)
 case atStart=>exact ⟨ks,[],g,hrg0,Lib.hid rfl,h0.more (fun c hc=>.inl hc) (wider_lt h0.lt (Nat.le_refl _)),hI0,Fr.refl _ _,rfl⟩
 case round=>
  obtain ⟨todo,D,g1,hrg,hg1,h1,hI,hf,rfl⟩:=hrel
  have hnr:¬wider P w0 wr w.heap.size:=fun hc=>by
   rcases hc with hc | hc
   ·have:=h.lt _ hc;omega
   ·have:=hc.1;rw [hs0'.out] at this;omega
  go_wp2_with (refine wpList_nextO rfl rfl rfl hrg idInj ?_ ?_)
  ·intro h00
   subst h00
   have hD:=hI.all
   have hD2:=hI.to
   have hD3:=hI.dn
   clear hI
   go_wp2
   go_end0
   refine ⟨rfl,D,hD3,fun k=>⟨fun hk=>(hD2 k hk).1,fun hk=>hD k (by simp) hk⟩,g1,hg1.out,?_,hf0.of_nope.trans hf (fun _ _ x=>x) (fun c hc hh=>hh.elim id (fun e=>by omega))⟩
   refine h1.more (fun c hc=>?_) (wider_lt h.lt (Nat.le_trans hf0.size hf.size))
   rcases hc with hc | hc
   ·exact .inl hc
   ·exact .inr ⟨Nat.le_trans hf0.size hc.1,hc.2⟩
  ·intro k v w1 hk hkk hv hrg1 hf1 hs1 hen
   obtain ⟨rfl,hFk⟩:=maskV_some hv
   have h11:AlAt w1 (wider P w0 wr) (addIs x r.id D) g1:=h1.fr hf1 (fun c hc e=>hnr (e ▸ hc))
   have hlen:(todo.erase k).length < todo.length:=by rw [List.length_erase_of_mem hk];have:=List.length_pos_of_mem hk;omega
   have hf01:Fr (fun c=>P c∨c=w.heap.size) w0 w1:=hf.then (hf1.mono fun _ _ e=>.inr e)
   have hf0w:∀ W,Fr (fun c=>P c∨c=w.heap.size) w0 W→Fr P w W:=fun W hW=>hf0.of_nope.trans hW (fun _ _ x=>x) (fun c hc hh=>hh.elim id (fun e=>by omega))
   have hk32:=(hU k hFk).2
   have ha:=u16_and r.spec (F k) ok.spec (hF k)
   have hDl:D.length≤U.length:=nodup_le hI.dn fun z hz=>(hU z (fun h0=>(hI.to z hz).1 (by rw [h0];simp))).1
   have hel:(addIs x r.id D).edges.length≤8796093022208:=by rw [addIs_edges,List.length_append,List.length_map];omega
   have hrl:(addIs x r.id D).regs.length≤1073741824:=by rw [addIs_regs];exact hl
   have hat1:∀ W,Fr nope w1 W→r.At W:=fun W hW=>hat W ((hf0w _ hf01).then hW.of_nope)
   replace hs1:=Lib.hid hs1
   have hmm:(F k &&& r.spec=0)↔r.spec &&& F k=0:=by rw [Nat.and_comm]
   generalize hm:r.spec &&& F k=m at ha hmm
   replace hm:=Lib.hid hm
   clear hv
   unfold idV at hen
   by_cases hz:m=0
   ·have hI1:=hI.no (hmm.2 hz)
    subst hz
    clear hI hmm
    go_wp2_with (refine wpList_Mask rfl rfl rfl ?_;intro w2 hf2)
    go_roundg (todo.erase k).length
    case measure=>exact hlen
    case rel=>
     refine ⟨_,D,g1,hrg1.fr hf2 (fun x=>x) (fun _ _ x=>x),hg1,?_,hI1,hf01.then hf2.of_nope,rfl⟩
     refine (h11.still hf2).more (fun c hc=>?_) (wider_lt h0.lt (hf01.then hf2.of_nope).size)
     rcases hc with hc | hc
     ·exact .inl hc
     ·exact .inr ⟨hc.1,by have:=hs1.out;have:=hf2.size;omega⟩
   ·have hI1:=hI.yes (fun e=>hz (hmm.1 e)) hk
    have hzz:((m:Int) == 0)=false:=by rw [beq_eq_false_iff_ne];omega
    clear hI hmm
    go_wp2_with (first
     | (refine wpList_Mask rfl rfl rfl ?_;intro w2 hf2)
     | (refine wpList_ID rfl rfl rfl ok (hat1 _ hf2) ?_;intro w3 hf3))
    have hf03:Fr (fun c=>P c∨c=w.heap.size) w0 w3:=(hf01.then hf2.of_nope).then hf3.of_nope
    have h13:AlAt w3 (wider P w0 w3) (addIs x r.id D) g1:=((h11.still hf2).still hf3).more (fun c hc=>by
     rcases hc with hc | hc
     ·exact .inl hc
     ·exact .inr ⟨hc.1,by have:=hs1.out;have:=hf2.size;have:=hf3.size;omega⟩) (wider_lt h0.lt hf03.size)
    have hcall:=AddI_calls w3 _ _ g1 r.id k h13 hrl hel hid hk32
    rw [hg1.out] at hcall
    refine hcall.mono ?_
    rintro e w4 ⟨rfl,hT⟩
    obtain ⟨g4,hg4,h4,hf34⟩:=hT.grow h0.lt hf03.size
    go_wp2
    go_roundg (todo.erase k).length
    case measure=>exact hlen
    case rel=>
     have hsz:=hf03.size
     have hs0o:=hs0'.out
     refine ⟨_,D ++ [k],g4,((hrg1.fr hf2 (fun x=>x) (fun _ _ x=>x)).fr hf3 (fun x=>x) (fun _ _ x=>x)).fr hf34 ?_ ?_,Lib.hid hg4,by rw [addIs_snoc];exact h4,hI1,hf03.trans hf34 (fun _ _ x=>x) (fun c hc hh=>by
      rcases hh with hh | hh
      ·exact .inl hh
      ·omega),rfl⟩
     ·rintro (hc | hc)
      ·have:=h.lt _ hc;omega
      ·have:=hc.1;omega
     ·rintro c hc (hc2 | hc2)
      ·exact hb c hc hc2
      ·have:=hbl c hc;have:=hc2.1;omega
end
section
open Go Go.RowKit Go.MapKept Bth
set_option maxRecDepth 100000
theorem AlAt.edgesTo {w w4:World} {P Q:Nat→Prop} {x:Al} {g:AlG} (h:AlAt w P x g) {E:List (Nat × Nat)} {bs:List Nat} {s:SV} (hf:Fr (fun c=>c=g.a) w w4)
  (ha:w4.heap[g.a]? = some (.cells { g with se:=s,eb:=bs }.cells 233 (0,0))) (hrow:w4.ownsRow 0 274 1 s.val E.length (bs.map ptr)) (hlen:bs.length=E.length)
  (he:∀ (k b:Nat) (e:Nat × Nat),bs[k]? = some b→E[k]? = some e→w4.heap[b]? = some (.cells (edgeCells e) 276 (0,0))∧Q b) (hq:∀ c,P c→Q c) (hl:∀ c,Q c→c < w4.heap.size) (hs:∀ c,s.val.ownBlock=some c→Q c):
  AlAt w4 Q { x with edges:=E } { g with se:=s,eb:=bs }:=by
 have hT:NoT [123,276] w (fun c=>c=g.a):=NoT.one h.ha (by decide)
 have hm:∀ {c:Nat} {es:Array MapEntry} {cl:Nat},w.heap[c]? = some (.map es cl)→¬c=g.a:=by
  rintro c es cl hm rfl
  rw [h.ha] at hm;cases hm
 obtain ⟨k1,m1⟩:=h.prio
 obtain ⟨k2,m2⟩:=h.al
 have n1:¬g.bp=g.a:=by obtain ⟨_,_,o⟩:=MapAt.obj m1;exact hm o
 have n2:¬g.ba=g.a:=by obtain ⟨_,_,o⟩:=MapAt.obj m2;exact hm o
 have n3:¬g.bq=g.a:=by obtain ⟨_,_,m3,_⟩:=h.poss;obtain ⟨_,_,o⟩:=MapAt.obj m3;exact hm o
 exact
  {
   ha:=ha
   regs:=own_frT h.regs hf hT (by decide)
   prio:=⟨k1,m1.fr hf n1⟩
   al:=⟨k2,m2.fr hf n2⟩
   edges:=hrow
   elen:=hlen
   eat:=fun k b e h1 h2=>(he k b e h1 h2).1
   poss:=(h.poss.frT hf hT (by decide) n3).mono hq
   ne1:=h.ne1
   ne2:=h.ne2
   ne3:=h.ne3
   pa:=hq _ h.pa
   pp:=hq _ h.pp
   pl:=hq _ h.pl
   pq:=hq _ h.pq
   pr:=fun c hc=>hq c (h.pr c hc)
   ps:=hs
   pe:=fun c hc=>by
    obtain ⟨k,hk⟩:=List.getElem?_of_mem hc
    have hk2:k < E.length:=by rw [← hlen];exact (List.getElem?_eq_some_iff.1 hk).1
    exact (he k c _ hk (List.getElem?_eq_getElem hk2)).2
   lt:=hl }
def remK (al:Nat→Option Nat) (E:List (Nat × Nat)) (bs:List Nat) (k:Nat):List ((Nat × Nat) × Nat):=((E.zip bs).take k).filter fun q=>open2 al q.1
theorem remK_step {al:Nat→Option Nat} {E:List (Nat × Nat)} {bs:List Nat} {k b:Nat} {e:Nat × Nat} (he:E[k]? = some e) (hb:bs[k]? = some b):remK al E bs (k+1)=remK al E bs k ++ if open2 al e then [(e,b)] else []:=by
 unfold remK
 rw [List.take_add_one,List.filter_append]
 have:(E.zip bs)[k]? = some (e,b):=List.getElem?_zip_eq_some.2 ⟨he,hb⟩
 rw [this]
 congr 1
 cases ho:open2 al e<;>simp [ho]
theorem remK_le (al:Nat→Option Nat) (E:List (Nat × Nat)) (bs:List Nat) (k:Nat):(remK al E bs k).length≤k:=by
 unfold remK
 refine Nat.le_trans (List.length_filter_le _ _) ?_
 rw [List.length_take];omega
theorem filter_fst (al:Nat→Option Nat):∀ (l:List ((Nat × Nat) × Nat)),(l.filter fun q=>open2 al q.1).map (·.1)=(l.map (·.1)).filter (open2 al)
 | []=>rfl
 | q :: l=>by
  have ih:=filter_fst al l
  simp only [List.filter_cons,List.map_cons]
  split<;>simp [ih]
theorem remK_fst {al:Nat→Option Nat} {E:List (Nat × Nat)} {bs:List Nat} (hl:bs.length=E.length):(remK al E bs E.length).map (·.1)=E.filter (open2 al):=by
 unfold remK
 rw [List.take_of_length_le (by simp [hl]),filter_fst,List.map_fst_zip (by omega)]
def GivesUpd (w:World) (P:Nat→Prop) (a:Nat) (x:Al) (e:Ending) (w':World):Prop:=
 Fr P w w'∧((clash x.edges x.al=true∧∃ T v,e = .returned (.iface T v)) ∨
  (clash x.edges x.al=false∧e = .returned .nilIface∧∃ g':AlG,g'.a=a∧AlAt w' (wider P w w') { x with edges:=x.edges.filter (open2 x.al),poss:=strikeL x.al x.edges x.poss } g'))
structure AlFits (x:Al):Prop where
 ids:∀ e∈x.edges,e.1 < 4294967296∧e.2 < 4294967296
 al:∀ v p,x.al v=some p→p < 4294967296
 poss:∀ v l,x.poss v=some l→l.length≤1073741824
 edges:x.edges.length≤8796093022208
theorem lk_lt {al:Nat→Option Nat} (h:∀ v p,al v=some p→p < 4294967296) {v:Nat} (hv:v < 4294967296):lk al v < 4294967296:=by
 unfold lk
 cases ha:al v with
 | none=>exact hv
 | some p=>exact h v p ha
theorem strikeL_len {al:Nat→Option Nat} {E:List (Nat × Nat)} {L:Poss} {n:Nat} (h:∀ v l,L v=some l→l.length≤n) {v:Nat} {l:List Nat} (hl:strikeL al E L v=some l):l.length≤n:=by
 unfold strikeL at hl
 obtain ⟨l0,h1,rfl⟩:=Option.map_eq_some_iff.1 hl
 exact Nat.le_trans (List.length_filter_le _ _) (h v l0 h1)
def less (P:Nat→Prop) (w w':World) (v:Value):Nat→Prop:=fun c=>wider P w w' c∧v.ownBlock≠some c
theorem less_lt {P:Nat→Prop} {w w':World} {v:Value} (h:∀ c,P c→c < w.heap.size) (hs:w.heap.size≤w'.heap.size):∀ c,less P w w' v c→c < w'.heap.size:=fun c hc=>wider_lt h hs c hc.1
theorem errorsNew_calls (w:World) (s:ByteArray):Calls Tryz.prog 65 #[.string s] w fun e w'=>e = .returned (.iface 202 (.pointer (some ⟨w.heap.size,0,none⟩)))∧Fr nope w w':=by
 go_enter Tryz.func65,Tryz.ntmps65
 go_wp2
 go_ret
 exact ⟨rfl,(Fr.refl _ _).alloc _⟩
theorem quiet_again {P:Program} {f:FuncId} {args:Array Value} {w:World} {a n:Nat} {v:Value} (h:Calls P f args (w.drewN (a+n)) fun e w'=>e = .returned v∧w'=w.drewN (a+n)):
  Calls P f args (w.drewN (a+n)) fun e w''=>e = .returned v∧∃ m,w''=w.drewN (a+m):=h.mono fun _ _ ⟨he,hm⟩=>⟨he,n,hm⟩
theorem less_step {P:Nat→Prop} {w wr W w5:World} {v:Value} (h0:w.heap.size≤wr.heap.size) (h1:wr.heap.size≤W.heap.size) (h2:W.heap.size≤w5.heap.size) (hv:∀ c,v.ownBlock=some c→c < wr.heap.size):∀ c,wider (less P w wr v) W w5 c→less P w w5 v c:=fun c hc=>by
 rcases hc with ⟨hc,hn⟩ | hc
 ·refine ⟨?_,hn⟩
  rcases hc with hc | hc
  ·exact .inl hc
  ·exact .inr ⟨hc.1,by omega⟩
 ·exact ⟨.inr ⟨by omega,hc.2⟩,fun e=>by have:=hv c e;omega⟩
theorem Fr_less {P:Nat→Prop} {w wr W w5:World} {v:Value} (h:Fr P w wr) (h1:Fr nope wr W) (h2:Fr (less P w wr v) W w5):Fr P w w5:=(h.then h1.of_nope).trans h2 (fun _ _ x=>x) (fun c hc hl=>by
 rcases hl.1 with hh | hh
 ·exact hh
 ·omega)
set_option maxHeartbeats 4000000 in
theorem update_calls (w:World) (P:Nat→Prop) (x:Al) (g:AlG) (h:AlAt w P x g) (fit:Fit x.al x.edges x.poss) (hz:AlFits x):
  Calls Tryz.prog 120 #[ptr g.a] w (GivesUpd w P g.a x):=by
 have hc2:=h.c2
 have hc3:=h.c3
 have halt:=h.lt _ h.pa
 obtain ⟨a,bp,ba,bq,sr,⟨eA,en,ec⟩,eb⟩:=g
 obtain rfl:en=x.edges.length:=h.en
 have hel:=h.elen
 simp only at hc2 hc3 halt hel
 have hz4:=hz.edges
 unfold ptr
 go_enter Tryz.func120,Tryz.ntmps120
 go_wp2
 replace hel:=Lib.hid hel
 replace hc2:=Lib.hid hc2
 replace hc3:=Lib.hid hc3
 go_loopg [3,13] x.edges.length (fun n c3 c13 wr=>∃ k:Nat,k≤x.edges.length∧c13 = .int .i64 (k:Int)∧wr.ownsRow w.heap.size 274 1 c3 (remK x.al x.edges eb k).length ((remK x.al x.edges eb k).map fun q=>ptr q.2) ∧
  AlAt wr (less P w wr c3) { x with poss:=strikeL x.al (x.edges.take k) x.poss } ⟨a,bp,ba,bq,sr,⟨eA,x.edges.length,ec⟩,eb⟩∧Hid (clash (x.edges.take k) x.al=false)∧Fr P w wr∧n=x.edges.length - k)
 case atStart=>
  refine ⟨0,Nat.zero_le _,rfl,by simpa [remK] using own_nil _ _ _ _,?_,Lib.hid rfl,Fr.refl _ _,rfl⟩
  have e:strikeL x.al (x.edges.take 0) x.poss=x.poss:=by
   funext v
   unfold strikeL strike
   cases hv:x.poss v with
   | none=>rfl
   | some l=>simp
  rw [e]
  exact h.more (fun c hc=>⟨.inl hc,by simp [Value.ownBlock]⟩) (less_lt h.lt (Nat.le_refl _))
 case round=>
  obtain ⟨k,hk,rfl,hown,h1,hcl,hf,rfl⟩:=hrel
  by_cases hlt:k < x.edges.length
  ·obtain ⟨bb,off,u,hA,hbl,hu,hce⟩:=(own_Sl (c:=ec) h1.edges).at_ hlt
   rw [List.getElem?_map] at hu
   obtain ⟨bk,hbk,rfl⟩:=Option.map_eq_some_iff.1 hu
   obtain ⟨⟨e1,e2⟩,hek⟩:∃ e,x.edges[k]? = some e:=⟨_,List.getElem?_eq_getElem hlt⟩
   have hmem:=List.mem_of_getElem? hek
   have hblk:=h1.eat k bk (e1,e2) hbk hek
   have hbkl:=lt_of_heap hblk
   have he0:wr.cell? ⟨bk,0,none⟩=some (.int .u32 (e1:Int)):=by rw [cell_of_row wr bk 0 _ _ (0,0) hblk];rfl
   have he1:wr.cell? ⟨bk,1,none⟩=some (.int .u32 (e2:Int)):=by rw [cell_of_row wr bk 1 _ _ (0,0) hblk];rfl
   have hcl2:wr.cell? ⟨a,2,none⟩=some (.map (some ba)):=h1.c2
   have hal:=Nat.lt_of_lt_of_le halt hf.size
   simp only at hA
   have hT:x.edges.take (k+1)=x.edges.take k ++ [(e1,e2)]:=by rw [List.take_add_one,hek];rfl
   have hR:=remK_step (al:=x.al) hek hbk
   obtain ⟨X,hX⟩:∃ X,lk x.al e1=X:=⟨_,rfl⟩
   obtain ⟨Y,hY⟩:∃ Y,lk x.al e2=Y:=⟨_,rfl⟩
   have hX32:X < 4294967296:=by rw [← hX];exact lk_lt hz.al (hz.ids _ hmem).1
   have hY32:Y < 4294967296:=by rw [← hY];exact lk_lt hz.al (hz.ids _ hmem).2
   have hcT:clash (x.edges.take (k+1)) x.al=(X == Y && !isV X):=by
    rw [hT]
    unfold clash
    rw [List.any_append]
    have:=hcl.out
    unfold clash at this
    rw [this]
    simp [hX,hY]
   have hcD:(X == Y && !isV X)=true→clash x.edges x.al=true:=fun hh=>by
    rw [← hcT] at hh
    unfold clash at hh ⊢
    obtain ⟨q,g1,g2⟩:=List.any_eq_true.1 hh
    exact List.any_eq_true.2 ⟨q,List.mem_of_mem_take g1,g2⟩
   have hLX:∀ m,Calls Tryz.prog 137 #[.map (some ba),.int .u32 (e1:Int)] (wr.drewN m) fun e w'=>e = .returned (.int .u32 (X:Int))∧w'=wr.drewN m:=fun m=>by
    rw [← hX];exact LookupDefault_calls _ ba x.al e1 (IdMap.eqHeap h1.al rfl)
   have hLY:∀ m,Calls Tryz.prog 137 #[.map (some ba),.int .u32 (e2:Int)] (wr.drewN m) fun e w'=>e = .returned (.int .u32 (Y:Int))∧w'=wr.drewN m:=fun m=>by
    rw [← hY];exact LookupDefault_calls _ ba x.al e2 (IdMap.eqHeap h1.al rfl)
   have hopen:open2 x.al (e1,e2)=(isV X && isV Y):=by unfold open2;rw [hX,hY]
   rw [hopen] at hR
   have hstay:isV X=isV Y→strikeL x.al (x.edges.take (k+1)) x.poss=strikeL x.al (x.edges.take k) x.poss:=fun hh=>by
    rw [hT];exact strikeL_stay fit (by rw [hX,hY];exact hh)
   have hone1:isV X=false→isV Y=true→∃ l,strikeL x.al (x.edges.take k) x.poss Y=some l∧strikeL x.al (x.edges.take (k+1)) x.poss=setL (strikeL x.al (x.edges.take k) x.poss) Y (l.filter fun r=>r != X):=fun g1 g2=>by
    rw [hT];exact strikeL_one fit hmem (.inl ⟨hX.symm,hY.symm⟩) g1 g2
   have hone2:isV Y=false→isV X=true→∃ l,strikeL x.al (x.edges.take k) x.poss X=some l∧strikeL x.al (x.edges.take (k+1)) x.poss=setL (strikeL x.al (x.edges.take k) x.poss) X (l.filter fun r=>r != Y):=fun g1 g2=>by
    rw [hT];exact strikeL_one fit hmem (.inr ⟨hY.symm,hX.symm⟩) g1 g2
   have hRl:=remK_le x.al x.edges eb k
   have hVX:=fun W=>IsVirtual_calls W X hX32
   have hVY:=fun W=>IsVirtual_calls W Y hY32
   have hPX:=fun W=>IsPhysical_calls W X hX32
   have hPY:=fun W=>IsPhysical_calls W Y hY32
   replace hT:=Lib.hid hT
   replace hR:=Lib.hid hR
   replace hcT:=Lib.hid hcT
   replace hcD:=Lib.hid hcD
   replace hstay:=Lib.hid hstay
   replace hone1:=Lib.hid hone1
   replace hone2:=Lib.hid hone2
   replace hX:=Lib.hid hX
   replace hY:=Lib.hid hY
   replace hek:=Lib.hid hek
   clear hu hbk hopen
   subst hA
   simp only [ptr] at hce
   have hle:=hf.size
   have hul:=own_lt hown
   go_wp2_with fail
   go_quiet ((exact Calls.quiet_of_same (hLX _)))
   go_wp2_with fail
   go_quiet ((exact quiet_again (hLY _)))
   have hq:∀ m,Fr nope wr (wr.drewN m):=fun m=>(Fr.refl nope wr).drewN m
   cases hiX:isV X<;>cases hiY:isV Y
   all_goals
    rw [hiX] at hVX hPX
    rw [hiY] at hVY hPY
    simp only [Bool.not_true,Bool.not_false] at hPX hPY
    replace hiX:=Lib.hid hiX
    replace hiY:=Lib.hid hiY
   ·by_cases hXY:X=Y
    ·subst hXY
     go_wp2_with (first
      | (go_at_call 115;refine (hVX _).mono ?_;rintro e w3 ⟨rfl,rfl⟩)
      | (go_at_call 138;refine (hPX _).mono ?_;rintro e w3 ⟨rfl,rfl⟩)
      | (go_at_call 65;refine (errorsNew_calls _ _).mono ?_;rintro e w4 ⟨rfl,hf4⟩))
     go_ret
     refine ⟨(hf.then (hq _).of_nope).then hf4.of_nope,.inl ⟨hcD.out (by rw [hiX.out];simp),_,_,rfl⟩⟩
    ·have hne:(X == Y)=false:=by simpa using hXY
     replace hne:=Lib.hid hne
     go_wp2_with (first
      | (go_at_call 115;refine (hVX _).mono ?_;rintro e w3 ⟨rfl,rfl⟩)
      | (go_at_call 138;refine (hPX _).mono ?_;rintro e w3 ⟨rfl,rfl⟩)
      | (go_at_call 138;refine (hPY _).mono ?_;rintro e w3 ⟨rfl,rfl⟩))
     go_roundg (x.edges.length - (k+1))
     case measure=>omega
     case rel=>
      refine ⟨k+1,by omega,by go_num,?_,?_,Lib.hid (by rw [hcT.out,hne.out];rfl),hf.then (hq _).of_nope,rfl⟩
      ·rw [hR.out,hiX.out];simpa using own_fr hown (hq _) (fun _ _ x=>x)
      ·rw [hstay.out (by rw [hiX.out,hiY.out])]
       exact h1.still (hq _)
   ·obtain ⟨l,hl1,hl2⟩:=hone1.out hiX.out hiY.out
    have hll:=strikeL_len hz.poss hl1
    replace hl2:=Lib.hid hl2
    have hdc:=fun W hW=>disc_calls W _ _ _ Y X l (h1.still (w':=W) hW) hl1 hll
    replace hl1:=Lib.hid hl1
    unfold ptr at hdc
    go_wp2_with (first
     | (go_at_call 115;refine (hVX _).mono ?_;rintro e w3 ⟨rfl,rfl⟩)
     | (go_at_call 115;refine (hVY _).mono ?_;rintro e w3 ⟨rfl,rfl⟩)
     | (go_at_call 138;refine (hPX _).mono ?_;rintro e w3 ⟨rfl,rfl⟩)
     | (go_at_call 138;refine (hPY _).mono ?_;rintro e w3 ⟨rfl,rfl⟩)
     | (go_at_call 139;refine (hdc _ (hq _)).mono ?_;rintro e w5 ⟨rfl,h5,hf5⟩))
    go_roundg (x.edges.length - (k+1))
    case measure=>omega
    case rel=>
     refine ⟨k+1,by omega,by go_num,?_,?_,Lib.hid (by rw [hcT.out,hiX.out];cases hb:X == Y;rfl;rw [beq_iff_eq] at hb;rw [hb,hiY.out] at hiX;exact absurd hiX.out (by simp)),Fr_less hf (hq _) hf5,rfl⟩
     ·rw [hR.out,hiX.out];simpa using own_fr (own_fr hown (hq _) (fun _ _ x=>x)) hf5 (fun b hb hc=>hc.2 hb)
     ·rw [hl2.out]
      exact h5.more (less_step hle (Nat.le_refl _) hf5.size hul) (less_lt h.lt (Fr_less hf (hq _) hf5).size)
   ·obtain ⟨l,hl1,hl2⟩:=hone2.out hiY.out hiX.out
    have hll:=strikeL_len hz.poss hl1
    replace hl2:=Lib.hid hl2
    have hdc:=fun W hW=>disc_calls W _ _ _ X Y l (h1.still (w':=W) hW) hl1 hll
    replace hl1:=Lib.hid hl1
    unfold ptr at hdc
    go_wp2_with (first
     | (go_at_call 115;refine (hVX _).mono ?_;rintro e w3 ⟨rfl,rfl⟩)
     | (go_at_call 115;refine (hVY _).mono ?_;rintro e w3 ⟨rfl,rfl⟩)
     | (go_at_call 138;refine (hPX _).mono ?_;rintro e w3 ⟨rfl,rfl⟩)
     | (go_at_call 138;refine (hPY _).mono ?_;rintro e w3 ⟨rfl,rfl⟩)
     | (go_at_call 139;refine (hdc _ (hq _)).mono ?_;rintro e w5 ⟨rfl,h5,hf5⟩))
    go_roundg (x.edges.length - (k+1))
    case measure=>omega
    case rel=>
     refine ⟨k+1,by omega,by go_num,?_,?_,Lib.hid (by rw [hcT.out,hiX.out];simp),Fr_less hf (hq _) hf5,rfl⟩
     ·rw [hR.out,hiX.out,hiY.out];simpa using own_fr (own_fr hown (hq _) (fun _ _ x=>x)) hf5 (fun b hb hc=>hc.2 hb)
     ·rw [hl2.out]
      exact h5.more (less_step hle (Nat.le_refl _) hf5.size hul) (less_lt h.lt (Fr_less hf (hq _) hf5).size)
   ·go_wp2_with (first
     | (go_at_call 115;refine (hVX _).mono ?_;rintro e w3 ⟨rfl,rfl⟩)
     | (go_at_call 115;refine (hVY _).mono ?_;rintro e w3 ⟨rfl,rfl⟩)
     | (refine wpList_app (v:=u3) rfl rfl Tryz.underlying230 infoPE rfl (by omega) rfl (own_fr (own_fr hown (hq _) (fun _ _ x=>x)) ((Fr.refl nope _).alloc _) (fun _ _ x=>x)) rfl (news:=[.pointer (some ⟨bk,0,none⟩)]) rfl (one_new _ _ _ _ (by simp)) (by simp [Value.oneCell']) (by simp only [maxLen];omega) (by omega) (by simp;omega) ?_;intro v5 w5 hown5 hf5 hb5))
    go_roundg (x.edges.length - (k+1))
    case measure=>omega
    case rel=>
     have hqa:∀ m o,Fr nope wr ((wr.drewN m).alloc o):=fun m o=>(hq m).alloc o
     have hs5:=hf5.size
     simp at hs5
     have hw5:Fr P w w5:=(hf.then (hqa _ _).of_nope).then_new hf5 (fun c hc e=>by have:=own_base hown c e;omega)
     refine ⟨k+1,by omega,by go_num,?_,?_,Lib.hid (by rw [hcT.out,hiX.out];simp),hw5,rfl⟩
     ·rw [hR.out,hiX.out,hiY.out];simp only [Bool.and_self,if_true,List.map_append,List.length_append];exact hown5
     ·rw [hstay.out (by rw [hiX.out,hiY.out])]
      refine ((h1.still (hqa _ _)).fr hf5 (fun c hc e=>hc.2 e)).more (fun c hc=>⟨?_,fun e=>?_⟩) (less_lt h.lt hw5.size)
      ·rcases hc.1 with hc1 | hc1
       ·exact .inl hc1
       ·exact .inr ⟨hc1.1,by omega⟩
      ·rcases hb5 with hb | hb
       ·exact hc.2 (hb ▸ e)
       ·rw [hb] at e
        injection e with e
        have:=less_lt h.lt hle c hc
        simp at e
        omega
  ·obtain rfl:k=x.edges.length:=by omega
   have ha1:=h1.ha
   have hfz:wr.frozen? ⟨a,3,none⟩=false:=frozen_row ha1 3
   have hc31:wr.cell? ⟨a,3,none⟩=some (.slice eA x.edges.length ec):=h1.c3
   have hal:=Nat.lt_of_lt_of_le halt hf.size
   obtain ⟨A5,c5,rfl,_,_⟩:=own_slice hown
   have hle:=hf.size
   go_wp2
   go_ret
   have hst:Fr (fun c=>c=a) wr (wr.setCell ⟨a,3,none⟩ (.slice A5 (remK x.al x.edges eb x.edges.length).length c5)):=(Fr.refl (fun c=>c=a) wr).setCell (.inl rfl) _
   have hst2:Fr P w (wr.setCell ⟨a,3,none⟩ (.slice A5 (remK x.al x.edges eb x.edges.length).length c5)):=hf.then (hst.mono fun c _ e=>by rw [e];exact h.pa)
   have hlen:(remK x.al x.edges eb x.edges.length).length=(x.edges.filter (open2 x.al)).length:=by rw [← remK_fst hel.out,List.length_map]
   have hs4:(wr.setCell ⟨a,3,none⟩ (.slice A5 (remK x.al x.edges eb x.edges.length).length c5)).heap.size=wr.heap.size:=by simp [World.setCell]
   have hsub:∀ c,less P w wr (.slice A5 (remK x.al x.edges eb x.edges.length).length c5) c→wider P w (wr.setCell ⟨a,3,none⟩ (.slice A5 (remK x.al x.edges eb x.edges.length).length c5)) c:=fun c hc=>by
    rcases hc.1 with hc1 | hc1
    ·exact .inl hc1
    ·exact .inr ⟨hc1.1,by rw [hs4];exact hc1.2⟩
   rw [List.take_of_length_le (Nat.le_refl _)] at h1 hcl
   refine ⟨hst2,.inr ⟨hcl.out,rfl,⟨a,bp,ba,bq,sr,⟨A5,(remK x.al x.edges eb x.edges.length).length,c5⟩,(remK x.al x.edges eb x.edges.length).map (·.2)⟩,rfl,?_⟩⟩
   refine AlAt.edgesTo (E:=x.edges.filter (open2 x.al)) h1 hst (setCell_heap ha1 _) ?_ (by rw [List.length_map,hlen]) ?_ hsub (wider_lt h.lt hst2.size) ?_
   ·rw [← hlen,List.map_map]
    exact own_le (own_fr hown hst (fun c hc e=>own_ne hown ha1 (by decide) (by rw [e] at hc;exact hc))) (Nat.zero_le _)
   ·intro j b e hb he
    rw [← remK_fst hel.out,List.getElem?_map] at he
    rw [List.getElem?_map] at hb
    obtain ⟨q,hq1,hq2⟩:=Option.map_eq_some_iff.1 hb
    rw [hq1] at he
    simp only [Option.map_some,Option.some.injEq] at he
    have hqm:q∈x.edges.zip eb:=List.mem_of_mem_take (List.mem_filter.1 (List.mem_of_getElem? hq1)).1
    obtain ⟨i,hi⟩:=List.getElem?_of_mem hqm
    obtain ⟨hi1,hi2⟩:=List.getElem?_zip_eq_some.1 hi
    rw [hq2] at hi2
    rw [he] at hi1
    have hbl:=h1.eat i b e hi2 hi1
    exact ⟨hst.heap hbl (fun e2=>by rw [e2,ha1] at hbl;cases hbl),hsub b (h1.pe b (List.mem_of_getElem? hi2))⟩
   ·intro c hc
    exact .inr ⟨own_base hown c hc,by rw [hs4];exact own_lt hown c hc⟩
end
section
open Go Go.RowKit Go.MapKept Bth
set_option maxRecDepth 100000
theorem length_same {a b:List Nat} (ha:a.Nodup) (hb:b.Nodup) (h:∀ v,v∈a↔v∈b):a.length=b.length:=
 Nat.le_antisymm (nodup_le ha fun x hx=>(h x).1 hx) (nodup_le hb fun x hx=>(h x).2 hx)
structure RemOf (L:Poss) (rem:List Nat):Prop where
 nd:rem.Nodup
 mem:∀ v,v∈rem↔L v≠none
theorem rem_ks {w:World} {b:Nat} {ks:List Nat} {L:Poss} {sv:Nat→SV} (hm:MapAt w b idV ks (fun k=>(L k).map fun _=>(sv k).val)):RemOf L ks:=
 ⟨hm.nodup,fun v=>by rw [hm.mem_iff];cases L v<;>simp⟩
theorem remaining_calls (w:World) (P:Nat→Prop) (x:Al) (g:AlG) (rem:List Nat) (h:AlAt w P x g) (hr:RemOf x.poss rem):
  Calls Tryz.prog 121 #[ptr g.a] w fun e w'=>e = .returned (.int .i64 (rem.length:Int))∧w=w':=by
 have hc4:=h.c4
 have halt:=h.lt _ h.pa
 obtain ⟨ks,sv,hm,_⟩:=h.poss
 have hlen:=fun ty=>hm.len possT ty
 have hk:=rem_ks hm
 rw [length_same hr.nd hk.nd (fun v=>(hr.mem v).trans (hk.mem v).symm)]
 unfold ptr
 clear hm hk hr
 go_enter Tryz.func121,Tryz.ntmps121
 go_wp2
 go_ret
 exact ⟨rfl,rfl⟩
def score (L:Poss) (v:Nat):Nat:=((L v).getD []).length
def Best (L:Poss) (ks todo:List Nat) (n v:Nat):Prop:=
 todo.Nodup∧(((∀ k∈ks,k∈todo)∧n=2147483647)∨(v∈ks∧n=score L v∧∀ k∈ks,k∉todo→n < score L k∨(n=score L k∧v≤k)))
theorem Best.keep {L:Poss} {ks todo:List Nat} {n v k:Nat} (h:Best L ks todo n v) (hk:k∈todo) (hk2:k∈ks) (hs:score L k < 2147483647) (h1:¬score L k < n) (h2:¬(score L k=n∧k < v)):Best L ks (todo.erase k) n v:=by
 obtain ⟨hn,h⟩:=h
 refine ⟨hn.erase k,?_⟩
 rcases h with ⟨_,h4⟩ | ⟨h3,h4,h5⟩
 ·omega
 ·refine .inr ⟨h3,h4,fun j hj hjt=>?_⟩
  by_cases e:j=k
  ·subst e;omega
  ·exact h5 j hj fun hh=>hjt ((List.Nodup.mem_erase_iff hn).2 ⟨e,hh⟩)
theorem Best.take {L:Poss} {ks todo:List Nat} {n v k:Nat} (h:Best L ks todo n v) (hk2:k∈ks) (hs:score L k < n∨(score L k=n∧k < v)) (hm:score L k < 2147483647):Best L ks (todo.erase k) (score L k) k:=by
 obtain ⟨hn,h⟩:=h
 refine ⟨hn.erase k,.inr ⟨hk2,rfl,fun j hj hjt=>?_⟩⟩
 by_cases e:j=k
 ·subst e;exact .inr ⟨rfl,Nat.le_refl _⟩
 ·have hjt2:j∉todo:=fun hh=>hjt ((List.Nodup.mem_erase_iff hn).2 ⟨e,hh⟩)
  rcases h with ⟨h3,h4⟩ | ⟨h3,h4,h5⟩
  ·exact absurd (h3 j hj) hjt2
  ·have:=h5 j hj hjt2
   omega
def possF (L:Poss) (sv:Nat→SV) (k:Nat):Option Value:=(L k).map fun _=>(sv k).val
set_option maxHeartbeats 1000000 in
theorem most_calls (w:World) (P:Nat→Prop) (x:Al) (g:AlG) (rem:List Nat) (h:AlAt w P x g) (hr:RemOf x.poss rem) (hne:rem≠[]) (hl:∀ v l,x.poss v=some l→l.length≤1073741824):
  Calls Tryz.prog 122 #[ptr g.a] w fun e w'=>(∃ v:Nat,e = .returned (.int .u32 (v:Int))∧Least (score x.poss) rem v)∧Fr nope w w':=by
 have hc4:=h.c4
 have halt:=h.lt _ h.pa
 obtain ⟨ks,sv,hm,hrow⟩:=h.poss
 have hk:=rem_ks hm
 have hO:MapO w (some g.bq) idV ks (possF x.poss sv):=hm
 have hks:ks≠[]:=by
  rintro rfl
  cases rem with
  | nil=>exact hne rfl
  | cons a l=>have:=(hk.mem a).2 ((hr.mem a).1 (by simp));cases this
 have hB0:Best x.poss ks ks 2147483647 0:=⟨hk.nd,.inl ⟨fun _ h=>h,rfl⟩⟩
 unfold ptr
 clear hm
 go_enter Tryz.func122,Tryz.ntmps122
 go_wp2_with (refine wpList_rangeO rfl rfl rfl hO idInj possT ?_;intro w0 hrg0 hf0 hs0)
 go_frame
 clear hs0 hc4 halt
 go_loopg [3,4] ks.length (fun m c3 c4 wr=>∃ (todo:List Nat) (n v:Nat),RangeO wr w.heap.size (some g.bq) idV ks (possF x.poss sv) todo∧c3 = .int .i64 (n:Int)∧c4 = .int .u32 (v:Int)∧Best x.poss ks todo n v∧n≤2147483647∧Fr nope w wr∧todo.length=m)
 case atStart=>exact ⟨ks,2147483647,0,hrg0,rfl,rfl,hB0,Nat.le_refl _,hf0,rfl⟩
 case round=>
  obtain ⟨todo,n,v,hrg,rfl,rfl,hB,hnm,hf,rfl⟩:=hrel
  go_wp2_with (refine wpList_nextO rfl rfl rfl hrg idInj ?_ ?_)
  ·intro h00
   subst h00
   replace hB:=Lib.hid hB
   go_wp2
   go_ret
   refine ⟨⟨v,rfl,?_⟩,hf⟩
   obtain ⟨_,⟨h3,_⟩ | ⟨h3,h4,h5⟩⟩:=hB.out
   ·exfalso
    cases ks with
    | nil=>exact hks rfl
    | cons a l=>have:=h3 a (by simp);cases this
   ·have hrk:∀ j,j∈rem↔j∈ks:=fun j=>(hr.mem j).trans (hk.mem j).symm
    exact ⟨(hrk v).2 h3,fun j hj=>by rw [← h4];exact h5 j ((hrk j).1 hj) (by simp)⟩
  ·intro k vv w1 hkt hkk hv hrg1 hf1 hs1 hen
   obtain ⟨l,hl1,hl2⟩:=Option.map_eq_some_iff.1 hv
   obtain ⟨A,c,rfl,_,_⟩:∃ A c,vv = .slice A l.length c∧l.length≤c∧c≤maxLen:=by
    rw [← hl2];exact own_slice (hrow k l hl1).1
   have hsc:score x.poss k=l.length:=by unfold score;rw [hl1];rfl
   have hll:=hl k l hl1
   have hlen:(todo.erase k).length < todo.length:=by rw [List.length_erase_of_mem hkt];have:=List.length_pos_of_mem hkt;omega
   have hf01:Fr nope w w1:=hf.then_new hf1 (fun x hx e=>by omega)
   have hkp:=fun a b=>hB.keep hkt hkk (by rw [hsc];omega) a b
   have htk:=fun a=>hB.take hkk a (by rw [hsc];omega)
   rw [hsc] at hkp htk
   replace hkp:=Lib.hid hkp
   replace htk:=Lib.hid htk
   clear hv hl2 hs1 hsc hl1 hB
   unfold idV at hen
   by_cases h1:l.length < n
   ·go_wp2
    go_roundg (todo.erase k).length
    case measure=>exact hlen
    case rel=>exact ⟨_,_,_,hrg1,rfl,rfl,htk.out (.inl h1),by omega,hf01,rfl⟩
   ·by_cases h2:l.length=n
    ·subst h2
     by_cases h3:k < v
     ·go_wp2
      go_roundg (todo.erase k).length
      case measure=>exact hlen
      case rel=>exact ⟨_,_,_,hrg1,rfl,rfl,htk.out (.inr (by simpa using h3)),by omega,hf01,rfl⟩
     ·go_wp2
      go_roundg (todo.erase k).length
      case measure=>exact hlen
      case rel=>exact ⟨_,_,_,hrg1,rfl,rfl,hkp.out h1 (fun h=>h3 h.2),by omega,hf01,rfl⟩
    ·have h22:((l.length:Int) == (n:Int))=false:=by rw [beq_eq_false_iff_ne];omega
     go_wp2
     go_roundg (todo.erase k).length
     case measure=>exact hlen
     case rel=>exact ⟨_,_,_,hrg1,rfl,rfl,hkp.out h1 (fun h=>h2 h.1),by omega,hf01,rfl⟩
theorem AlAt.setAl {w w1 w2:World} {P:Nat→Prop} {x:Al} {g:AlG} (h:AlAt w P x g) {f:Nat→Option Nat} {L:Poss} (h1:IdMap w1 g.ba f) (hf1:Fr (fun b=>b=g.ba) w w1) (h2:PossAt w2 P g.bq L) (hf2:Fr (fun b=>b=g.bq) w1 w2) (hs:w2.heap.size=w.heap.size):
  AlAt w2 P { x with al:=f,poss:=L } g:=by
 obtain ⟨k2,m2⟩:=h.al
 obtain ⟨_,_,o2⟩:=MapAt.obj m2
 obtain ⟨k3,sv3,m3,hl3⟩:=h.poss
 obtain ⟨_,_,o3⟩:=MapAt.obj m3
 have hc:∀ {cs:Array Value} {t:TypeId} {fr:Nat × Nat} {b:Nat},w.heap[b]? = some (.cells cs t fr)→w2.heap[b]? = some (.cells cs t fr):=fun {cs t fr b} hb=>
  hf2.heap (hf1.heap hb (fun e=>by rw [e,o2] at hb;cases hb)) (fun e=>by rw [e,o3] at hb;cases hb)
 have hown:∀ {n size:Nat} {e:TypeId} {v:Value} {xs:List Value},w.ownsRow 0 e size v n xs→w2.ownsRow 0 e size v n xs:=fun ho=>
  own_fr (own_fr ho hf1 (fun c hc e=>own_nomap ho o2 (by rw [e] at hc;exact hc))) hf2 (fun c hc e=>own_nomap ho o3 (by rw [e] at hc;exact hc))
 exact
  {
   ha:=hc h.ha
   regs:=hown h.regs
   prio:=(h.prio.fr hf1 h.ne1).fr hf2 h.ne2
   al:=by obtain ⟨k,m⟩:=h1;exact ⟨k,m.fr hf2 h.ne3⟩
   edges:=hown h.edges
   elen:=h.elen
   eat:=fun k b e h1 h2=>hc (h.eat k b e h1 h2)
   poss:=h2
   ne1:=h.ne1
   ne2:=h.ne2
   ne3:=h.ne3
   pa:=h.pa
   pp:=h.pp
   pl:=h.pl
   pq:=h.pq
   pr:=h.pr
   ps:=h.ps
   pe:=h.pe
   lt:=fun c hc=>by rw [hs];exact h.lt c hc }
def GivesAlloc (w:World) (P:Nat→Prop) (g:AlG) (x:Al) (v:Nat) (l:List Nat) (e:Ending) (w':World):Prop:=
 (l=[]∧(∃ T y,e = .returned (.iface T y))∧Fr nope w w')∨∃ p q,l=p :: q∧e = .returned .nilIface∧AlAt w' P { x with al:=setA x.al v p,poss:=delL x.poss v } g∧Fr P w w'
theorem alloc_calls (w:World) (P:Nat→Prop) (x:Al) (g:AlG) (v:Nat) (l:List Nat) (h:AlAt w P x g) (hl:x.poss v=some l):
  Calls Tryz.prog 123 #[ptr g.a,.int .u32 (v:Int)] w (GivesAlloc w P g x v l):=by
 have hc4:=h.c4
 have hc2:=h.c2
 have halt:=h.lt _ h.pa
 obtain ⟨⟨A,n,c⟩,hlk,hso,hsn⟩:=h.poss.look v
 rw [hl] at hso hsn
 simp only [Option.getD_some] at hso hsn
 subst hsn
 have hlk1:=(hlk w (Fr.refl _ _)).1
 have hS:Sl w A l.length (l.map idV):=own_Sl (c:=c) hso
 unfold ptr
 clear hlk hso
 cases l with
 | nil=>
  simp only [List.length_nil] at hlk1
  clear hS hl
  go_enter Tryz.func123,Tryz.ntmps123
  go_wp2_with (go_at_call 65;refine (errorsNew_calls _ _).mono ?_;rintro e w4 ⟨rfl,hf4⟩)
  go_ret
  exact .inl ⟨rfl,⟨_,_,rfl⟩,hf4⟩
 | cons p q=>
  obtain ⟨b,off,u,rfl,hbl,hu,hc⟩:=hS.at_ (k:=0) (by simp)
  simp only [List.map_cons,List.getElem?_cons_zero,Option.some.injEq] at hu
  subst hu
  unfold idV at hc
  rw [Nat.add_zero] at hc
  obtain ⟨w1,hu1,hm1,hf1,hs1⟩:=h.al.put v p
  have hne3:=h.ne3
  have hp1:PossAt w1 P g.bq x.poss:=by
   obtain ⟨k2,m2⟩:=h.al
   obtain ⟨_,_,o2⟩:=MapAt.obj m2
   obtain ⟨k3,sv3,m3,hl3⟩:=h.poss
   exact ⟨k3,sv3,m3.fr hf1 (fun e=>hne3 e.symm),fun k l e=>⟨own_fr (hl3 k l e).1 hf1 (fun c hc e2=>own_nomap (hl3 k l e).1 o2 (by rw [e2] at hc;exact hc)),(hl3 k l e).2⟩⟩
  obtain ⟨w2,hu2,hm2,hf2,hs2⟩:=hp1.del v 0
  have hc4':w1.cell? ⟨g.a,4,none⟩=some (.map (some g.bq)):=hf1.cell hc4 (fun e=>by
   obtain ⟨k2,m2⟩:=h.al
   obtain ⟨_,_,o2⟩:=MapAt.obj m2
   have:=h.ha
   have e':g.a=g.ba:=e
   rw [e',o2] at this;cases this)
  have hsl:(q.length:Int)+1≤9223372036854775807∨True:=.inr trivial
  have hf:Fr P w w2:=(hf1.mono fun c _ e=>by rw [e];exact h.pl).then (hf2.mono fun c _ e=>by rw [e];exact h.pq)
  have key:=h.setAl hm1 hf1 hm2 hf2 (hs2.trans hs1)
  replace hs1:=Lib.hid hs1
  replace hs2:=Lib.hid hs2
  replace hl:=Lib.hid hl
  clear hS hsl hne3
  go_enter Tryz.func123,Tryz.ntmps123
  go_wp2
  go_ret
  exact .inr ⟨p,q,rfl,rfl,key,hf⟩
end
end Go.Proofs.YtpbeedabmjmdmaaGreatDoor
