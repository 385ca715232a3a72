/- Part of the proof of a statement about pub-berthage: what its texts have in common. -/
import Derived.Test.YtjlfkgjmgghhiaaGreatP04
import Derived.Test.YtjlfkgjmgghhiaaGreatP20
namespace Go.Proofs.YtjlfkgjmgghhiaaGreat
section
open Go Go.RowKit Go.MapKept Bth
set_option maxRecDepth 100000
theorem wider_eq {P:Nat→Prop} {w1 w2 a b:World} (h1:w1.heap.size=w2.heap.size) (h2:a.heap.size=b.heap.size):wider P w1 a=wider P w2 b:=by funext c;unfold wider;rw [h1,h2]
theorem disc_calls (w:World) (P:Nat→Prop) (x:Al) (g:AlG) (v p:Nat) (l:List Nat) (h:AlAt w P x g) (hL:x.poss v=some l) (hl:l.length≤1073741824):
  Calls Tryz.prog 170 #[ptr g.a,.int .u32 (v:Int),.int .u32 (p:Int)] w fun e w'=>e = .returned (.tuple #[])∧AlAt w' (wider P w w') { x with poss:=setL x.poss v (l.filter fun r=>r != p) } g∧Fr P w w':=by
 have hc4:=h.c4
 have halt:=h.lt _ h.pa
 obtain ⟨⟨A,n,c⟩,hlk,hso,hsn⟩:=h.poss.look v
 rw [hL] at hso hsn
 simp only [Option.getD_some] at hso hsn
 subst hsn
 have hS:Sl w A l.length (l.map idV):=own_Sl (c:=c) hso
 obtain ⟨wb,hwb⟩:∃ wb,wb=w.alloc (.cells #[.int .u32 (p:Int)] 208):=⟨_,rfl⟩
 have hfb:Fr nope w wb:=by rw [hwb];exact (Fr.refl nope w).alloc _
 have hcb:wb.cell? ⟨w.heap.size,0,none⟩=some (.int .u32 (p:Int)):=by rw [hwb];simp
 have hlb:w.heap.size < wb.heap.size:=by rw [hwb];simp
 have hdw:Fr nope wb wb.drew:=(Fr.refl _ _).drew
 have hc0:wb.drew.cell? ⟨g.a,4,none⟩=some (.map (some g.bq)):=(hfb.then hdw).cell hc4 (fun x=>x)
 have hl0:=(hlk wb.drew (hfb.then hdw)).1
 have hne:g.a≠g.bq:=fun e=>by
  obtain ⟨_,_,⟨es,cl,hm,_⟩,_⟩:=h.poss
  rw [← e,h.ha] at hm;cases hm
 unfold ptr
 clear hL hlk hso
 go_enter Tryz.func170,Tryz.ntmps170
 go_wp2
 rw [← hwb]
 replace hwb:=Lib.hid hwb
 go_region_held3 (fun W=>W.cell? ⟨g.a,4,none⟩=some (.map (some g.bq))) (assumption)
  ((go_at_call 166;refine (filter_calls _ A c l (hS.nope (hfb.then hdw)) hl _ _ (fun r=>r != p) enter_ne (ne_pred _ _ p _ (Nat.lt_of_lt_of_le hlb hdw.size) (hdw.cell hcb (fun x=>x)))).mono ?_;rintro e w1 ⟨u,rfl,hown,hf1'⟩;have hf1:Fr nope wb w1:=hdw.then hf1';rw [List.length_map] at hown;have h1:=(h.still hfb).still hf1;obtain ⟨A2,c2,rfl,_,_⟩:=own_slice hown;have hh:=h1.more (P':=wider P w w1) (fun c hc=>Or.inl hc) (wider_lt h.lt (Nat.le_trans hfb.size hf1.size));obtain ⟨w2,hu,hp2,hf2,hs2⟩:=hh.poss.put v (l.filter fun r=>r != p) ⟨A2,(l.filter fun r=>r != p).length,c2⟩ (own_le hown (Nat.zero_le _)) (fun c hc=>.inr ⟨by have h4:=own_base hown c hc;have:=hfb.size;have h5:wb.drew.heap.size=wb.heap.size:=rfl;omega,own_lt hown c hc⟩);have hc41:w1.cell? ⟨g.a,4,none⟩=some (.map (some g.bq)):=h1.c4;have hc42:w2.cell? ⟨g.a,4,none⟩=some (.map (some g.bq)):=hf2.cell hc41 hne;replace hs2:=Lib.hid hs2))
 all_goals
  go_end0
  have hx:=hh.putPoss hf2 hp2 (fun c hc=>hc) (by rw [hs2.out];exact hh.lt)
  have hff:Fr P w w2:=((hfb.then hf1).of_nope).then (hf2.mono fun x _ e=>by rw [e];exact h.pq)
  have e:wider P w w2=wider P w w1:=wider_eq rfl hs2.out
  rw [e]
  exact ⟨rfl,hx,hff⟩
theorem MapAt.obj {K:Type} {w:World} {b:Nat} {mk:K→Value} {ks:List K} {f:K→Option Value} (h:MapAt w b mk ks f):∃ es clock,w.heap[b]? = some (.map es clock):=by obtain ⟨es,cl,h,_⟩:=h;exact ⟨es,cl,h⟩
theorem own_nomap {w:World} {base n size:Nat} {e:TypeId} {v:Value} {xs:List Value} {b:Nat} {es:Array MapEntry} {cl:Nat} (h:w.ownsRow base e size v n xs) (hm:w.heap[b]? = some (.map es cl)):v.ownBlock≠some b:=fun he=>by
 obtain ⟨cur,h2⟩:=own_heap h he
 rw [hm] at h2;cases h2
theorem AlAt.push {w w4:World} {P Q:Nat→Prop} {x:Al} {g:AlG} (h:AlAt w P x g) {e:Nat × Nat} {b:Nat} {s:SV} (hf:Fr (fun c=>c=g.a∨g.se.val.ownBlock=some c) w w4)
  (ha:w4.heap[g.a]? = some (.cells { g with se:=s,eb:=g.eb ++ [b] }.cells 268 (0,0))) (hrow:w4.ownsRow 0 314 1 s.val (x.edges.length+1) ((g.eb ++ [b]).map ptr))
  (he:w4.heap[b]? = some (.cells (edgeCells e) 316 (0,0))) (hq:∀ c,P c→Q c) (hl:∀ c,Q c→c < w4.heap.size) (hs:∀ c,s.val.ownBlock=some c→Q c) (hb:Q b):
  AlAt w4 Q { x with edges:=x.edges ++ [e] } { g with se:=s,eb:=g.eb ++ [b] }:=by
 have hT:NoT [208,316] w (fun c=>c=g.a∨g.se.val.ownBlock=some c):=NoT.or (NoT.one h.ha (by decide)) (NoT.own h.edges (by decide))
 have hm:∀ {c:Nat} {es:Array MapEntry} {cl:Nat},w.heap[c]? = some (.map es cl)→¬(c=g.a∨g.se.val.ownBlock=some c):=by
  rintro c es cl hm (rfl | hc)
  ·rw [h.ha] at hm;cases hm
  ·exact own_nomap h.edges hm hc
 obtain ⟨k1,m1⟩:=h.prio
 obtain ⟨k2,m2⟩:=h.al
 have n1:¬(g.bp=g.a∨g.se.val.ownBlock=some g.bp):=by obtain ⟨_,_,o⟩:=MapAt.obj m1;exact hm o
 have n2:¬(g.ba=g.a∨g.se.val.ownBlock=some g.ba):=by obtain ⟨_,_,o⟩:=MapAt.obj m2;exact hm o
 have n3:¬(g.bq=g.a∨g.se.val.ownBlock=some g.bq):=by obtain ⟨_,_,m3,_⟩:=h.poss;obtain ⟨_,_,o⟩:=MapAt.obj m3;exact hm o
 exact
  {
   ha:=ha
   regs:=own_frT h.regs hf hT (by decide)
   prio:=⟨k1,m1.fr hf n1⟩
   al:=⟨k2,m2.fr hf n2⟩
   edges:=by rw [List.length_append];exact hrow
   elen:=by simp [h.elen]
   eat:=fun k c e' h1 h2=>by
    by_cases hk:k < g.eb.length
    ·have hk2:k < x.edges.length:=by rw [← h.elen];exact hk
     rw [List.getElem?_append_left hk] at h1
     rw [List.getElem?_append_left hk2] at h2
     exact heap_frT (h.eat k c e' h1 h2) hf hT (by decide)
    ·have hk2:¬k < x.edges.length:=by rw [← h.elen];exact hk
     rw [List.getElem?_append_right (by omega)] at h1 h2
     have e1:k - g.eb.length=0:=by
      apply Classical.byContradiction;intro hn
      have:([b]:List Nat)[k - g.eb.length]? = none:=List.getElem?_eq_none (by simp;omega)
      rw [this] at h1;cases h1
     have e2:k - x.edges.length=0:=by rw [← h.elen];exact e1
     rw [e1] at h1;rw [e2] at h2
     simp only [List.getElem?_cons_zero,Option.some.injEq] at h1 h2
     subst h1 h2;exact he
   poss:=(h.poss.frT hf hT (by decide) n3).mono hq
   ne1:=h.ne1
   ne2:=h.ne2
   ne3:=h.ne3
   pa:=hq _ h.pa
   pp:=hq _ h.pp
   pl:=hq _ h.pl
   pq:=hq _ h.pq
   pr:=fun c hc=>hq c (h.pr c hc)
   ps:=hs
   pe:=fun c hc=>by
    rcases List.mem_append.1 hc with hc | hc
    ·exact hq c (h.pe c hc)
    ·obtain rfl:c=b:=by simpa using hc
     exact hb
   lt:=hl }
theorem infoPE:(Tryz.prog.info? 314).map (fun i=>(i.zero,i.size,i.bytes))=some (some (.pointer none),1,8):=by kernel_rfl
def addI (x:Al) (a b:Nat):Al:={ addA (addA x a) b with edges:=x.edges ++ [(a,b)] }
theorem addI_regs (x:Al) (a b:Nat):(addI x a b).regs=x.regs:=by unfold addI;rw [addA_regs,addA_regs]
set_option maxHeartbeats 1000000 in
theorem AddI_calls (w:World) (P:Nat→Prop) (x:Al) (g:AlG) (a b:Nat) (h:AlAt w P x g) (hl:x.regs.length≤1073741824) (hle:x.edges.length≤8796093022208) (ha:a < 4294967296) (hb:b < 4294967296):
  Calls Tryz.prog 148 #[ptr g.a,.int .u32 (a:Int),.int .u32 (b:Int)] w fun e w'=>e = .returned (.tuple #[])∧Turns P w g.a (addI x a b) w':=by
 go_enter Tryz.func148,Tryz.ntmps148
 go_wp2_with fail
 refine (AlAdd_calls w P x g a h hl ha).mono ?_
 rintro e w1 ⟨rfl,⟨g1,hg1,h1,hf1⟩⟩
 rw [← hg1]
 replace hg1:=Lib.hid hg1
 go_wp2_with fail
 refine (AlAdd_calls w1 _ (addA x a) g1 b h1 (by rw [addA_regs];exact hl) hb).mono ?_
 rintro e w2 ⟨rfl,⟨g2,hg2,h2,hf2⟩⟩
 rw [← hg2]
 replace hg2:=Lib.hid hg2
 have hx2:(addA (addA x a) b).edges=x.edges:=by rw [addA_edges,addA_edges]
 have hle2:(addA (addA x a) b).edges.length≤8796093022208:=by rw [hx2];exact hle
 have hw:=Fr_wide hf1 hf2
 replace h2:=h2.more (P':=wider P w w2) (fun c hc=>wider.trans hf2.size c hc hf1.size) (wider_lt h.lt hw.size)
 clear hle hx2
 obtain ⟨a2,bp2,ba2,bq2,sr2,⟨eA,en,ec⟩,eb2⟩:=g2
 generalize hy:addA (addA x a) b=y at h2 hle2
 replace hy:=Lib.hid hy
 obtain rfl:en=y.edges.length:=h2.en
 have hc3:=h2.c3
 have halt:=h2.lt _ h2.pa
 have hown:=h2.edges
 simp only at hc3 halt hown
 simp only [SV.val] at hown
 unfold ptr
 go_wp2_with (refine wpList_app (v:=.slice eA y.edges.length ec) rfl rfl Tryz.underlying265 infoPE rfl (by omega) rfl (own_fr hown (((Fr.refl nope _).alloc _).alloc _) (fun _ _ x=>x)) rfl (news:=[ptr w2.heap.size]) rfl (one_new _ _ _ _ (by simp)) (by simp [Value.oneCell',ptr]) (by simp only [maxLen];omega) (by omega) (Nat.zero_le _) ?hk)
 case hk=>
  intro v3 w3 hown3 hf3 hb3
  obtain ⟨A3,c3,rfl,_,_⟩:=own_slice hown3
  have hae:∀ o o',Fr nope w2 ((w2.alloc o).alloc o'):=fun o o'=>((Fr.refl nope _).alloc _).alloc _
  have ha3:w3.heap[a2]? = some (.cells (AlG.cells ⟨a2,bp2,ba2,bq2,sr2,⟨eA,y.edges.length,ec⟩,eb2⟩) 268 (0,0)):=hf3.heap ((hae _ _).heap h2.ha (fun x=>x)) (own_ne hown h2.ha (by decide))
  have he3:w3.heap[w2.heap.size]? = some (.cells (edgeCells (a,b)) 316 (0,0)):=hf3.heap (((Fr.refl nope (w2.alloc _)).alloc _).heap (heap_alloc_new w2 _) (fun x=>x)) (fun e=>by have:=own_lt hown _ e;omega)
  have hz:w3.frozen? ⟨a2,3,none⟩=false:=frozen_row ha3 3
  have hc33:w3.cell? ⟨a2,3,none⟩=some (.slice eA y.edges.length ec):=by rw [cell_of_row w3 a2 3 _ _ (0,0) ha3];rfl
  have hsz:w2.heap.size < w3.heap.size:=lt_of_heap he3
  replace hb3:=Lib.hid hb3
  go_wp2
  go_end0
  have hst:Fr (fun c=>c=a2) w3 (w3.setCell ⟨a2,3,none⟩ (.slice A3 (y.edges.length+1) c3)):=(Fr.refl (fun c=>c=a2) w3).setCell (.inl rfl) _
  have hf4:Fr (fun c=>c=a2∨(Value.slice eA y.edges.length ec).ownBlock=some c) w2 (w3.setCell ⟨a2,3,none⟩ (.slice A3 (y.edges.length+1) c3)):=(((hae _ _).of_nope).then (hf3.mono fun _ _ h=>.inr h)).then (hst.mono fun _ _ h=>.inl h)
  have hw4:Fr P w (w3.setCell ⟨a2,3,none⟩ (.slice A3 (y.edges.length+1) c3)):=Fr_wide hw (hf4.mono fun c _ h=>by
   rcases h with rfl | h
   ·exact h2.pa
   ·exact h2.ps c h)
  have hs4:(w3.setCell ⟨a2,3,none⟩ (.slice A3 (y.edges.length+1) c3)).heap.size=w3.heap.size:=by simp [World.setCell]
  have hq:∀ c,wider P w w2 c→wider P w (w3.setCell ⟨a2,3,none⟩ (.slice A3 (y.edges.length+1) c3)) c:=fun c hc=>by
   rcases hc with hc | hc
   ·exact .inl hc
   ·exact .inr ⟨hc.1,by rw [hs4];omega⟩
  have hws:=hw.size
  have key:=h2.push (Q:=wider P w (w3.setCell ⟨a2,3,none⟩ (.slice A3 (y.edges.length+1) c3))) (e:=(a,b)) (b:=w2.heap.size) (s:=⟨A3,y.edges.length+1,c3⟩) hf4 (setCell_heap ha3 _)
   (by rw [List.map_append];exact own_fr hown3 hst (fun c hc e=>own_ne hown3 ha3 (by decide) (by rw [e] at hc;exact hc))) (hst.heap he3 (by have:=h2.lt _ h2.pa;simp only at this;omega)) hq (wider_lt h.lt hw4.size)
   (fun c hc=>by
    rcases hb3.out with hb | hb
    ·exact hq c (h2.ps c (hb.symm.trans hc))
    ·have e:Value.ownBlock (.slice A3 (y.edges.length+1) c3)=some c:=hc
     rw [hb] at e
     injection e with e
     have hl3:=own_lt hown3 _ hc
     exact .inr ⟨by rw [← e];first | omega | (simp;omega),by rw [hs4];exact hl3⟩) (.inr ⟨hws,by rw [hs4];exact hsz⟩)
  refine ⟨rfl,⟨a2,bp2,ba2,bq2,sr2,⟨A3,y.edges.length+1,c3⟩,eb2 ++ [w2.heap.size]⟩,hg2.out.trans hg1.out,?_,hw4⟩
  ·have ee:addI x a b = { y with edges:=y.edges ++ [(a,b)] }:=by rw [← hy.out];unfold addI;rw [addA_edges,addA_edges]
   rw [ee]
   exact key
end
section
open Go Go.RowKit Go.MapKept Bth
set_option maxRecDepth 100000
theorem nodup_le {l m:List Nat} (h:l.Nodup) (hs:∀ x∈l,x∈m):l.length≤m.length:=by
 induction l generalizing m with
 | nil=>simp
 | cons a l ih=>
  have ha:=hs a (by simp)
  obtain ⟨h1,h2⟩:=List.nodup_cons.1 h
  have:=ih (m:=m.erase a) h2 (fun x hx=>(List.mem_erase_of_ne (by rintro rfl;exact h1 hx)).2 (hs x (List.mem_cons_of_mem _ hx)))
  rw [List.length_erase_of_mem ha] at this
  have:=List.length_pos_of_mem ha
  simp only [List.length_cons]
  omega
def addIs (x:Al) (d:Nat) (D:List Nat):Al:=D.foldl (fun x k=>addI x d k) x
theorem addIs_snoc (x:Al) (d:Nat) (D:List Nat) (k:Nat):addIs x d (D ++ [k])=addI (addIs x d D) d k:=by simp [addIs]
theorem addIs_regs (x:Al) (d:Nat) (D:List Nat):(addIs x d D).regs=x.regs:=by
 induction D generalizing x with
 | nil=>rfl
 | cons k D ih=>simp only [addIs,List.foldl_cons] at ih ⊢;rw [ih,addI_regs]
theorem addIs_edges (x:Al) (d:Nat) (D:List Nat):(addIs x d D).edges=x.edges ++ D.map fun k=>(d,k):=by
 induction D generalizing x with
 | nil=>simp [addIs]
 | cons k D ih=>simp only [addIs,List.foldl_cons] at ih ⊢;rw [ih];simp [addI]
structure DInv (F:Nat→Nat) (m:Nat) (todo D:List Nat):Prop where
 nd:todo.Nodup
 dn:D.Nodup
 to:∀ k∈D,F k &&& m≠0∧k∉todo
 all:∀ k,k∉todo→F k &&& m≠0→k∈D
theorem DInv.no {F:Nat→Nat} {m:Nat} {todo D:List Nat} (h:DInv F m todo D) {k:Nat} (hk:F k &&& m=0):DInv F m (todo.erase k) D:=
 ⟨h.nd.erase k,h.dn,fun x hx=>⟨(h.to x hx).1,fun hm=>(h.to x hx).2 (List.mem_of_mem_erase hm)⟩,fun x hx hm=>h.all x (fun hh=>hx ((List.Nodup.mem_erase_iff h.nd).2 ⟨fun e=>by rw [e] at hm;exact hm hk,hh⟩)) hm⟩
theorem DInv.yes {F:Nat→Nat} {m:Nat} {todo D:List Nat} (h:DInv F m todo D) {k:Nat} (hk:F k &&& m≠0) (ht:k∈todo):DInv F m (todo.erase k) (D ++ [k]):=by
 refine ⟨h.nd.erase k,List.nodup_append.2 ⟨h.dn,by simp,fun a ha b hb e=>?_⟩,fun x hx=>?_,fun x hx hm=>?_⟩
 ·obtain rfl:b=k:=by simpa using hb
  subst e
  exact (h.to a ha).2 ht
 ·rcases List.mem_append.1 hx with hx | hx
  ·exact ⟨(h.to x hx).1,fun hm=>(h.to x hx).2 (List.mem_of_mem_erase hm)⟩
  ·obtain rfl:x=k:=by simpa using hx
   exact ⟨hk,fun hm=>((List.Nodup.mem_erase_iff h.nd).1 hm).1 rfl⟩
 ·by_cases e:x=k
  ·subst e;simp
  ·exact List.mem_append_left _ (h.all x (fun hh=>hx ((List.Nodup.mem_erase_iff h.nd).2 ⟨e,hh⟩)) hm)
theorem R.id_lt {r:R} (ok:r.Ok):r.id < 4294967296:=by
 have:=ok.kind
 have:=ok.idx
 unfold R.id
 split<;>omega
theorem Turns.grow {P:Nat→Prop} {w w1 w2:World} {a:Nat} {x:Al} (hl:∀ c,P c→c < w.heap.size) (hs:w.heap.size≤w1.heap.size) (k:Turns (wider P w w1) w1 a x w2):∃ g:AlG,g.a=a∧AlAt w2 (wider P w w2) x g∧Fr (wider P w w1) w1 w2:=by
 obtain ⟨g,h1,h2,h3⟩:=k
 exact ⟨g,h1,h2.more (fun c hc=>wider.trans h3.size c hc hs) (wider_lt hl (Nat.le_trans hs h3.size)),h3⟩
def GivesIs (w:World) (P:Nat→Prop) (a:Nat) (x:Al) (d m:Nat) (F:Nat→Nat) (e:Ending) (w':World):Prop:=e = .returned (.tuple #[])∧∃ D:List Nat,D.Nodup∧(∀ k,k∈D↔F k &&& m≠0)∧Turns P w a (addIs x d D) w'
set_option maxHeartbeats 2000000 in
theorem AddIS_calls (w:World) (P:Nat→Prop) (x:Al) (g:AlG) (r:R) (bo:Option Nat) (F:Nat→Nat) (h:AlAt w P x g) (hl:x.regs.length≤1073741824) (ok:r.Ok) (hat:∀ W,Fr P w W→r.At W) (ho:MaskO w bo F) (hb:∀ b,bo=some b→¬P b)
  (U:List Nat) (hU:∀ k,F k≠0→k∈U∧k < 4294967296) (hle:x.edges.length+U.length≤8796093022208):
  Calls Tryz.prog 108 #[ptr g.a,r.val,.map bo] w (GivesIs w P g.a x r.id r.spec F):=by
 obtain ⟨⟨ks,hO⟩,hF⟩:=ho
 have hks:∀ k,k∈ks↔F k≠0:=fun k=>hO.mem_iff.trans maskV_ne
 have hI0:DInv F r.spec ks []:=⟨hO.nodup,List.nodup_nil,by simp,fun k hk hm=>absurd ((hks k).2 (fun h0=>hm (by rw [h0];simp))) hk⟩
 have hbl:∀ b,bo=some b→b < w.heap.size:=fun c hc=>by subst hc;exact MapAt.lt hO
 have hid:=R.id_lt ok
 go_enter Tryz.func108,Tryz.ntmps108
 go_wp2_with (refine wpList_rangeO rfl rfl rfl hO idInj maskSetT ?_;intro w0 hrg0 hf0 hs0)
 go_frame
 have h0:=h.still hf0
 have hs0':=Lib.hid hs0
 clear hks hs0
 go_loopg [] ks.length (fun n wr=>∃ (todo D:List Nat) (g1:AlG),RangeO wr w.heap.size bo idV ks (fun k=>maskV (F k)) todo∧Hid (g1.a=g.a)∧AlAt wr (wider P w0 wr) (addIs x r.id D) g1∧DInv F r.spec todo D∧Fr (fun c=>P c∨c=w.heap.size) w0 wr∧todo.length=n)
 case atStart=>exact ⟨ks,[],g,hrg0,Lib.hid rfl,h0.more (fun c hc=>.inl hc) (wider_lt h0.lt (Nat.le_refl _)),hI0,Fr.refl _ _,rfl⟩
 case round=>
  obtain ⟨todo,D,g1,hrg,hg1,h1,hI,hf,rfl⟩:=hrel
  have hnr:¬wider P w0 wr w.heap.size:=fun hc=>by
   rcases hc with hc | hc
   ·have:=h.lt _ hc;omega
   ·have:=hc.1;rw [hs0'.out] at this;omega
  go_wp2_with (refine wpList_nextO rfl rfl rfl hrg idInj ?_ ?_)
  ·intro h00
   subst h00
   have hD:=hI.all
   have hD2:=hI.to
   have hD3:=hI.dn
   clear hI
   go_wp2
   go_end0
   refine ⟨rfl,D,hD3,fun k=>⟨fun hk=>(hD2 k hk).1,fun hk=>hD k (by simp) hk⟩,g1,hg1.out,?_,hf0.of_nope.trans hf (fun _ _ x=>x) (fun c hc hh=>hh.elim id (fun e=>by omega))⟩
   refine h1.more (fun c hc=>?_) (wider_lt h.lt (Nat.le_trans hf0.size hf.size))
   rcases hc with hc | hc
   ·exact .inl hc
   ·exact .inr ⟨Nat.le_trans hf0.size hc.1,hc.2⟩
  ·intro k v w1 hk hkk hv hrg1 hf1 hs1 hen
   obtain ⟨rfl,hFk⟩:=maskV_some hv
   have h11:AlAt w1 (wider P w0 wr) (addIs x r.id D) g1:=h1.fr hf1 (fun c hc e=>hnr (e ▸ hc))
   have hlen:(todo.erase k).length < todo.length:=by rw [List.length_erase_of_mem hk];have:=List.length_pos_of_mem hk;omega
   have hf01:Fr (fun c=>P c∨c=w.heap.size) w0 w1:=hf.then (hf1.mono fun _ _ e=>.inr e)
   have hf0w:∀ W,Fr (fun c=>P c∨c=w.heap.size) w0 W→Fr P w W:=fun W hW=>hf0.of_nope.trans hW (fun _ _ x=>x) (fun c hc hh=>hh.elim id (fun e=>by omega))
   have hk32:=(hU k hFk).2
   have ha:=u16_and r.spec (F k) ok.spec (hF k)
   have hDl:D.length≤U.length:=nodup_le hI.dn fun z hz=>(hU z (fun h0=>(hI.to z hz).1 (by rw [h0];simp))).1
   have hel:(addIs x r.id D).edges.length≤8796093022208:=by rw [addIs_edges,List.length_append,List.length_map];omega
   have hrl:(addIs x r.id D).regs.length≤1073741824:=by rw [addIs_regs];exact hl
   have hat1:∀ W,Fr nope w1 W→r.At W:=fun W hW=>hat W ((hf0w _ hf01).then hW.of_nope)
   replace hs1:=Lib.hid hs1
   have hmm:(F k &&& r.spec=0)↔r.spec &&& F k=0:=by rw [Nat.and_comm]
   generalize hm:r.spec &&& F k=m at ha hmm
   replace hm:=Lib.hid hm
   clear hv
   unfold idV at hen
   by_cases hz:m=0
   ·have hI1:=hI.no (hmm.2 hz)
    subst hz
    clear hI hmm
    go_wp2_with (refine wpList_Mask rfl rfl rfl ?_;intro w2 hf2)
    go_roundg (todo.erase k).length
    case measure=>exact hlen
    case rel=>
     refine ⟨_,D,g1,hrg1.fr hf2 (fun x=>x) (fun _ _ x=>x),hg1,?_,hI1,hf01.then hf2.of_nope,rfl⟩
     refine (h11.still hf2).more (fun c hc=>?_) (wider_lt h0.lt (hf01.then hf2.of_nope).size)
     rcases hc with hc | hc
     ·exact .inl hc
     ·exact .inr ⟨hc.1,by have:=hs1.out;have:=hf2.size;omega⟩
   ·have hI1:=hI.yes (fun e=>hz (hmm.1 e)) hk
    have hzz:((m:Int) == 0)=false:=by rw [beq_eq_false_iff_ne];omega
    clear hI hmm
    go_wp2_with (first
     | (refine wpList_Mask rfl rfl rfl ?_;intro w2 hf2)
     | (refine wpList_ID rfl rfl rfl ok (hat1 _ hf2) ?_;intro w3 hf3))
    have hf03:Fr (fun c=>P c∨c=w.heap.size) w0 w3:=(hf01.then hf2.of_nope).then hf3.of_nope
    have h13:AlAt w3 (wider P w0 w3) (addIs x r.id D) g1:=((h11.still hf2).still hf3).more (fun c hc=>by
     rcases hc with hc | hc
     ·exact .inl hc
     ·exact .inr ⟨hc.1,by have:=hs1.out;have:=hf2.size;have:=hf3.size;omega⟩) (wider_lt h0.lt hf03.size)
    have hcall:=AddI_calls w3 _ _ g1 r.id k h13 hrl hel hid hk32
    rw [hg1.out] at hcall
    refine hcall.mono ?_
    rintro e w4 ⟨rfl,hT⟩
    obtain ⟨g4,hg4,h4,hf34⟩:=hT.grow h0.lt hf03.size
    go_wp2
    go_roundg (todo.erase k).length
    case measure=>exact hlen
    case rel=>
     have hsz:=hf03.size
     have hs0o:=hs0'.out
     refine ⟨_,D ++ [k],g4,((hrg1.fr hf2 (fun x=>x) (fun _ _ x=>x)).fr hf3 (fun x=>x) (fun _ _ x=>x)).fr hf34 ?_ ?_,Lib.hid hg4,by rw [addIs_snoc];exact h4,hI1,hf03.trans hf34 (fun _ _ x=>x) (fun c hc hh=>by
      rcases hh with hh | hh
      ·exact .inl hh
      ·omega),rfl⟩
     ·rintro (hc | hc)
      ·have:=h.lt _ hc;omega
      ·have:=hc.1;omega
     ·rintro c hc (hc2 | hc2)
      ·exact hb c hc hc2
      ·have:=hbl c hc;have:=hc2.1;omega
end
end Go.Proofs.YtjlfkgjmgghhiaaGreat
