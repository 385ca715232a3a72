/- Part of the proof of a statement about pub-berthage: what its texts have in common. -/
import Derived.Shelf.Abstract
import Derived.Test.YtpbeedabmjmdmaaGreatDoorP01
import Derived.Test.YtpbeedabmjmdmaaGreatDoorP03
import Derived.Test.YtpbeedabmjmdmaaGreatDoorP16
namespace Go.Proofs.YtpbeedabmjmdmaaGreatDoor
section
open Go Go.RowKit Go.MapKept Bth
open Go.ChangeMaps (setBlock)
set_option maxRecDepth 100000
def IdMap (w:World) (b:Nat) (f:Nat→Option Nat):Prop:=∃ ks,MapAt w b idV ks fun k=>(f k).map idV
theorem allocT:Tryz.prog.underlying 77=some (.map 123 123):=Tryz.underlying77
theorem zeroID (w:World):(zeroValue 123).run Tryz.prog w = .ok (.int .u32 0) w:=by kernel_rfl
theorem IdMap.lt {w:World} {b:Nat} {f:Nat→Option Nat} (h:IdMap w b f):b < w.heap.size:=by obtain ⟨ks,hm⟩:=h;exact hm.lt
theorem IdMap.fr {S:Nat→Prop} {w w':World} {b:Nat} {f:Nat→Option Nat} (h:IdMap w b f) (hf:Fr S w w') (hs:¬S b):IdMap w' b f:=by obtain ⟨ks,hm⟩:=h;exact ⟨ks,hm.fr hf hs⟩
theorem IdMap.look {w:World} {b:Nat} {f:Nat→Option Nat} (h:IdMap w b f) (k:Nat):
  (Instr.lookup 77 (.map (some b)) (.int .u32 (k:Int)) false).run Tryz.prog w = .ok (.int .u32 (((f k).getD 0:Nat):Int)) w:=by
 obtain ⟨ks,hm⟩:=h
 have:=hm.lookup idKey allocT (zeroID w) k false
 rw [show (Value.int .u32 (k:Int))=idV k from rfl,this]
 cases f k<;>simp [idV]
theorem IdMap.look2 {w:World} {b:Nat} {f:Nat→Option Nat} (h:IdMap w b f) (k:Nat):
  (Instr.lookup 77 (.map (some b)) (.int .u32 (k:Int)) true).run Tryz.prog w = .ok (.tuple #[.int .u32 (((f k).getD 0:Nat):Int),.bool (f k).isSome]) w:=by
 obtain ⟨ks,hm⟩:=h
 have:=hm.lookup idKey allocT (zeroID w) k true
 rw [show (Value.int .u32 (k:Int))=idV k from rfl,this]
 cases f k<;>simp [idV]
theorem IdMap.put {w:World} {b:Nat} {f:Nat→Option Nat} (h:IdMap w b f) (k v:Nat):
  ∃ w',(Instr.mapUpdate 77 (.map (some b)) (.int .u32 (k:Int)) (.int .u32 (v:Int))).run Tryz.prog w = .ok () w'∧IdMap w' b (fun x=>if x=k then some v else f x)∧Fr (fun x=>x=b) w w'∧w'.heap.size=w.heap.size:=by
 obtain ⟨ks,hM⟩:=h
 obtain ⟨es,clock,h1,h2⟩:=hM.update idKey allocT k (idV v)
 have e:(fun x=>(if x=k then some v else f x).map idV)=updM (fun s=>(f s).map idV) k (some (idV v)):=by
  funext x
  unfold updM
  by_cases hx:x=k<;>simp [hx]
 rw [← e] at h2
 exact ⟨setBlock w b (.map es clock),h1,⟨_,h2⟩,(Fr.refl (fun x=>x=b) w).setBlock (.inl rfl) _,by simp [setBlock]⟩
theorem IdMap.eqHeap {w W:World} {b:Nat} {f:Nat→Option Nat} (h:IdMap w b f) (he:W.heap=w.heap):IdMap W b f:=by obtain ⟨ks,hm⟩:=h;exact ⟨ks,hm.keep (by rw [he])⟩
theorem LookupDefault_calls (w:World) (b:Nat) (f:Nat→Option Nat) (id:Nat) (hb:IdMap w b f):
  Calls Tryz.prog 137 #[.map (some b),.int .u32 (id:Int)] w fun e w'=>e = .returned (.int .u32 (lk f id:Int))∧w'=w:=by
 have h1:=hb.look id
 have h2:=hb.look2 id
 unfold lk
 cases hf:f id with
 | none=>
  rw [hf] at h1 h2
  simp only [Option.getD_none,Option.isSome_none] at h1 h2
  replace hf:=Lib.hid hf
  go_enter Tryz.func137,Tryz.ntmps137
  go_wp2
  go_ret
  exact ⟨rfl,rfl⟩
 | some v=>
  rw [hf] at h1 h2
  simp only [Option.getD_some,Option.isSome_some] at h1 h2
  replace hf:=Lib.hid hf
  go_enter Tryz.func137,Tryz.ntmps137
  go_wp2
  go_ret
  exact ⟨rfl,rfl⟩
def PossAt (w:World) (P:Nat→Prop) (b:Nat) (L:Nat→Option (List Nat)):Prop:=∃ (ks:List Nat) (sv:Nat→SV),MapAt w b idV ks (fun k=>(L k).map fun _=>(sv k).val)∧∀ k l,L k=some l→w.ownsRow 0 123 1 (sv k).val l.length (l.map idV)∧∀ c,(sv k).val.ownBlock=some c→P c
theorem possT:Tryz.prog.underlying 231=some (.map 123 228):=Tryz.underlying231
theorem zeroIDs (w:World):(zeroValue 228).run Tryz.prog w = .ok (.slice none 0 0) w:=by kernel_rfl
theorem PossAt.lt {w:World} {P:Nat→Prop} {b:Nat} {L:Nat→Option (List Nat)} (h:PossAt w P b L):b < w.heap.size:=by obtain ⟨ks,sv,hm,_⟩:=h;exact hm.lt
theorem PossAt.mono {w:World} {P P':Nat→Prop} {b:Nat} {L:Nat→Option (List Nat)} (h:PossAt w P b L) (hp:∀ c,P c→P' c):PossAt w P' b L:=by
 obtain ⟨ks,sv,hm,hl⟩:=h
 exact ⟨ks,sv,hm,fun k l e=>⟨(hl k l e).1,fun c hc=>hp c ((hl k l e).2 c hc)⟩⟩
theorem PossAt.frT {T:List TypeId} {P S:Nat→Prop} {w w':World} {b:Nat} {L:Nat→Option (List Nat)} (h:PossAt w P b L) (hf:Fr S w w') (hs:NoT T w S) (ht:123∈T) (hb:¬S b):PossAt w' P b L:=by
 obtain ⟨ks,sv,hm,hl⟩:=h
 exact ⟨ks,sv,hm.fr hf hb,fun k l e=>⟨own_frT (hl k l e).1 hf hs ht,(hl k l e).2⟩⟩
theorem PossAt.frP {P S:Nat→Prop} {w w':World} {b:Nat} {L:Nat→Option (List Nat)} (h:PossAt w P b L) (hf:Fr S w w') (hs:∀ c,P c→¬S c) (hb:¬S b):PossAt w' P b L:=by
 obtain ⟨ks,sv,hm,hl⟩:=h
 exact ⟨ks,sv,hm.fr hf hb,fun k l e=>⟨own_fr (hl k l e).1 hf fun c hc=>hs c ((hl k l e).2 c hc),(hl k l e).2⟩⟩
theorem PossAt.still {P:Nat→Prop} {w w':World} {b:Nat} {L:Nat→Option (List Nat)} (h:PossAt w P b L) (hf:Fr nope w w'):PossAt w' P b L:=h.frT (T:=[123]) hf (NoT.nope _ _) (by decide) (fun x=>x)
theorem PossAt.look {P:Nat→Prop} {w:World} {b:Nat} {L:Nat→Option (List Nat)} (h:PossAt w P b L) (k:Nat):
  ∃ s:SV,(∀ W,Fr nope w W→(Instr.lookup 231 (.map (some b)) (.int .u32 (k:Int)) false).run Tryz.prog W = .ok (.slice s.A s.n s.c) W∧(Instr.lookup 231 (.map (some b)) (.int .u32 (k:Int)) true).run Tryz.prog W = .ok (.tuple #[.slice s.A s.n s.c,.bool (L k).isSome]) W) ∧
   w.ownsRow 0 123 1 s.val ((L k).getD []).length (((L k).getD []).map idV)∧s.n=((L k).getD []).length:=by
 obtain ⟨ks,sv,hm,hl⟩:=h
 cases hL:L k with
 | none=>
  refine ⟨⟨none,0,0⟩,fun W hW=>?_,own_nil _ _ _ _,rfl⟩
  have h1:=(hm.fr hW (fun x=>x)).lookup idKey possT (zeroIDs W) k false
  have h2:=(hm.fr hW (fun x=>x)).lookup idKey possT (zeroIDs W) k true
  rw [show (Value.int .u32 (k:Int))=idV k from rfl,h1,h2]
  simp [hL]
 | some l=>
  have hr:=(hl k l hL).1
  refine ⟨sv k,fun W hW=>?_,hr,?_⟩
  ·have h1:=(hm.fr hW (fun x=>x)).lookup idKey possT (zeroIDs W) k false
   have h2:=(hm.fr hW (fun x=>x)).lookup idKey possT (zeroIDs W) k true
   rw [show (Value.int .u32 (k:Int))=idV k from rfl,h1,h2]
   simp [hL,SV.val]
  ·obtain ⟨A,c,e,_,_⟩:=own_slice hr
   unfold SV.val at e
   injection e with _ e _
theorem PossAt.setBlock {w:World} {b:Nat} {es:Array MapEntry} {clock:Nat} {es':Array MapEntry} {clock':Nat} (hh:w.heap[b]? = some (.map es clock)) {n:Nat} {xs:List Value} {v:Value} (hr:w.ownsRow 0 123 1 v n xs):
  (setBlock w b (.map es' clock')).ownsRow 0 123 1 v n xs:=own_fr hr ((Fr.refl (fun x=>x=b) w).setBlock (.inl rfl) _) fun c hc he=>by
 subst he
 obtain ⟨cur,h2⟩:=own_heap hr hc
 rw [h2] at hh;cases hh
theorem PossAt.put {P:Nat→Prop} {w:World} {b:Nat} {L:Nat→Option (List Nat)} (h:PossAt w P b L) (k:Nat) (l:List Nat) (s:SV) (hr:w.ownsRow 0 123 1 s.val l.length (l.map idV)) (hP:∀ c,s.val.ownBlock=some c→P c):
  ∃ w',(Instr.mapUpdate 231 (.map (some b)) (.int .u32 (k:Int)) (.slice s.A s.n s.c)).run Tryz.prog w = .ok () w'∧PossAt w' P b (fun x=>if x=k then some l else L x)∧Fr (fun x=>x=b) w w'∧w'.heap.size=w.heap.size:=by
 obtain ⟨ks,sv,hM,hl⟩:=h
 obtain ⟨es,clock,h1,h2⟩:=hM.update idKey possT k s.val
 have e:(fun x=>(if x=k then some l else L x).map fun _=>(if x=k then s else sv x).val)=updM (fun k=>(L k).map fun _=>(sv k).val) k (some s.val):=by
  funext x
  unfold updM
  by_cases hx:x=k<;>simp [hx]
 rw [← e] at h2
 have hf:Fr (fun x=>x=b) w (ChangeMaps.setBlock w b (.map es clock)):=(Fr.refl (fun x=>x=b) w).setBlock (.inl rfl) _
 obtain ⟨es',cl',g1,_⟩:=hM
 refine ⟨ChangeMaps.setBlock w b (.map es clock),h1,⟨_,fun x=>if x=k then s else sv x,h2,fun x m hx=>?_⟩,hf,by simp [ChangeMaps.setBlock]⟩
 by_cases hxk:x=k
 ·simp only [if_pos hxk,Option.some.injEq] at hx ⊢
  subst hx
  exact ⟨PossAt.setBlock g1 hr,hP⟩
 ·simp only [if_neg hxk] at hx ⊢
  exact ⟨PossAt.setBlock g1 (hl x m hx).1,(hl x m hx).2⟩
theorem PossAt.del {P:Nat→Prop} {w:World} {b:Nat} {L:Nat→Option (List Nat)} (h:PossAt w P b L) (k:Nat) (ty:TypeId):
  ∃ w',(Builtin.delete_ #[231,123] ty #[.map (some b),.int .u32 (k:Int)]).run Tryz.prog w = .ok (.tuple #[]) w'∧PossAt w' P b (fun x=>if x=k then none else L x)∧Fr (fun x=>x=b) w w'∧w'.heap.size=w.heap.size:=by
 obtain ⟨ks,sv,hM,hl⟩:=h
 obtain ⟨es,clock,h1,h2⟩:=hM.delete idKey possT k ty
 have e:(fun x=>(if x=k then none else L x).map fun _=>(sv x).val)=updM (fun k=>(L k).map fun _=>(sv k).val) k none:=by
  funext x
  unfold updM
  by_cases hx:x=k<;>simp [hx]
 rw [← e] at h2
 obtain ⟨es',cl',g1,_⟩:=hM
 refine ⟨ChangeMaps.setBlock w b (.map es clock),h1,⟨_,sv,h2,fun x m hx=>?_⟩,(Fr.refl (fun x=>x=b) w).setBlock (.inl rfl) _,by simp [ChangeMaps.setBlock]⟩
 by_cases hxk:x=k
 ·simp [if_pos hxk] at hx
 ·simp only [if_neg hxk] at hx
  exact ⟨PossAt.setBlock g1 (hl x m hx).1,(hl x m hx).2⟩
end
section
open Go Go.RowKit Go.MapKept Bth
open Go.ChangeMaps (setBlock)
set_option maxRecDepth 100000
structure Al where
 regs:List Nat
 prio:Nat→Option Int
 al:Nat→Option Nat
 edges:List (Nat × Nat)
 poss:Nat→Option (List Nat)
structure AlG where
 a:Nat
 bp:Nat
 ba:Nat
 bq:Nat
 sr:SV
 se:SV
 eb:List Nat
def AlG.cells (g:AlG):Array Value:=#[.slice g.sr.A g.sr.n g.sr.c,.map (some g.bp),.map (some g.ba),.slice g.se.A g.se.n g.se.c,.map (some g.bq)]
def edgeCells (e:Nat × Nat):Array Value:=#[.int .u32 (e.1:Int),.int .u32 (e.2:Int)]
def PrioAt (w:World) (b:Nat) (f:Nat→Option Int):Prop:=∃ ks,MapAt w b idV ks fun k=>(f k).map fun p=>.int .i64 p
structure AlAt (w:World) (P:Nat→Prop) (x:Al) (g:AlG):Prop where
 ha:w.heap[g.a]? = some (.cells g.cells 233 (0,0))
 regs:w.ownsRow 0 123 1 g.sr.val x.regs.length (x.regs.map idV)
 prio:PrioAt w g.bp x.prio
 al:IdMap w g.ba x.al
 edges:w.ownsRow 0 274 1 g.se.val x.edges.length (g.eb.map ptr)
 elen:g.eb.length=x.edges.length
 eat:∀ (k b:Nat) (e:Nat × Nat),g.eb[k]? = some b→x.edges[k]? = some e→w.heap[b]? = some (.cells (edgeCells e) 276 (0,0))
 poss:PossAt w P g.bq x.poss
 ne1:g.bp≠g.ba
 ne2:g.bp≠g.bq
 ne3:g.ba≠g.bq
 pa:P g.a
 pp:P g.bp
 pl:P g.ba
 pq:P g.bq
 pr:∀ c,g.sr.val.ownBlock=some c→P c
 ps:∀ c,g.se.val.ownBlock=some c→P c
 pe:∀ b∈g.eb,P b
 lt:∀ c,P c→c < w.heap.size
theorem PrioAt.fr {S:Nat→Prop} {w w':World} {b:Nat} {f:Nat→Option Int} (h:PrioAt w b f) (hf:Fr S w w') (hs:¬S b):PrioAt w' b f:=by obtain ⟨ks,hm⟩:=h;exact ⟨ks,hm.fr hf hs⟩
theorem AlAt.fr {w w':World} {P S:Nat→Prop} {x:Al} {g:AlG} (h:AlAt w P x g) (hf:Fr S w w') (hs:∀ c,P c→¬S c):AlAt w' P x g:=
 { h with
   ha:=hf.heap h.ha (hs _ h.pa)
   regs:=own_fr h.regs hf fun c hc=>hs c (h.pr c hc)
   prio:=h.prio.fr hf (hs _ h.pp)
   al:=h.al.fr hf (hs _ h.pl)
   edges:=own_fr h.edges hf fun c hc=>hs c (h.ps c hc)
   eat:=fun k b e h1 h2=>hf.heap (h.eat k b e h1 h2) (hs _ (h.pe b (List.mem_of_getElem? h1)))
   poss:=h.poss.frP hf hs (hs _ h.pq)
   lt:=fun c hc=>Nat.lt_of_lt_of_le (h.lt c hc) hf.size }
theorem AlAt.still {w w':World} {P:Nat→Prop} {x:Al} {g:AlG} (h:AlAt w P x g) (hf:Fr nope w w'):AlAt w' P x g:=h.fr hf fun _ _ x=>x
theorem AlAt.more {w:World} {P P':Nat→Prop} {x:Al} {g:AlG} (h:AlAt w P x g) (hp:∀ c,P c→P' c) (hl:∀ c,P' c→c < w.heap.size):AlAt w P' x g:=
 { h with
   poss:=h.poss.mono hp
   pa:=hp _ h.pa
   pp:=hp _ h.pp
   pl:=hp _ h.pl
   pq:=hp _ h.pq
   pr:=fun c hc=>hp c (h.pr c hc)
   ps:=fun c hc=>hp c (h.ps c hc)
   pe:=fun b hb=>hp b (h.pe b hb)
   lt:=hl }
def wider (P:Nat→Prop) (w w':World):Nat→Prop:=fun c=>P c∨w.heap.size≤c∧c < w'.heap.size
theorem wider.trans {P:Nat→Prop} {w1 w2 w3:World} (h:w2.heap.size≤w3.heap.size) (c:Nat) (hc:wider (wider P w1 w2) w2 w3 c) (h12:w1.heap.size≤w2.heap.size):wider P w1 w3 c:=by
 unfold wider at *
 rcases hc with (hc | hc) | hc
 ·exact .inl hc
 ·exact .inr ⟨hc.1,by omega⟩
 ·exact .inr ⟨by omega,hc.2⟩
theorem AlAt.c0 {w:World} {P:Nat→Prop} {x:Al} {g:AlG} (h:AlAt w P x g):w.cell? ⟨g.a,0,none⟩=some (.slice g.sr.A g.sr.n g.sr.c):=by rw [cell_of_row w g.a 0 _ _ (0,0) h.ha];rfl
theorem AlAt.c1 {w:World} {P:Nat→Prop} {x:Al} {g:AlG} (h:AlAt w P x g):w.cell? ⟨g.a,1,none⟩=some (.map (some g.bp)):=by rw [cell_of_row w g.a 1 _ _ (0,0) h.ha];rfl
theorem AlAt.c2 {w:World} {P:Nat→Prop} {x:Al} {g:AlG} (h:AlAt w P x g):w.cell? ⟨g.a,2,none⟩=some (.map (some g.ba)):=by rw [cell_of_row w g.a 2 _ _ (0,0) h.ha];rfl
theorem AlAt.c3 {w:World} {P:Nat→Prop} {x:Al} {g:AlG} (h:AlAt w P x g):w.cell? ⟨g.a,3,none⟩=some (.slice g.se.A g.se.n g.se.c):=by rw [cell_of_row w g.a 3 _ _ (0,0) h.ha];rfl
theorem AlAt.c4 {w:World} {P:Nat→Prop} {x:Al} {g:AlG} (h:AlAt w P x g):w.cell? ⟨g.a,4,none⟩=some (.map (some g.bq)):=by rw [cell_of_row w g.a 4 _ _ (0,0) h.ha];rfl
theorem AlAt.rn {w:World} {P:Nat→Prop} {x:Al} {g:AlG} (h:AlAt w P x g):g.sr.n=x.regs.length:=by
 obtain ⟨A,c,e,_,_⟩:=own_slice h.regs
 unfold SV.val at e
 injection e with _ e _
theorem AlAt.en {w:World} {P:Nat→Prop} {x:Al} {g:AlG} (h:AlAt w P x g):g.se.n=x.edges.length:=by
 obtain ⟨A,c,e,_,_⟩:=own_slice h.edges
 unfold SV.val at e
 injection e with _ e _
theorem cast_beq (a b:Nat):((a:Int) == (b:Int))=(a == b):=by
 rw [Bool.eq_iff_iff,beq_iff_eq,beq_iff_eq]
 omega
theorem kind_pred (w:World) (b v:Nat) (xs:List Nat) (hb:b < w.heap.size) (hc:w.cell? ⟨b,0,none⟩=some (.int .u32 (v:Int))):
  Pred w 136 #[.pointer (some ⟨b,0,none⟩)] (fun r=>kindOf v == kindOf r) xs:=by
 intro W r _ hf
 have hcW:=hf.cell hc (fun x=>x)
 have hbW:b < W.heap.size:=Nat.lt_of_lt_of_le hb hf.size
 clear hc hb hf
 go_enter Tryz.func136,Tryz.ntmps136
 go_wp2_with (go_at_call 117;refine (IDKind_calls _ _).mono ?_;rintro e w2 ⟨rfl,rfl⟩)
 go_ret
 exact ⟨congrArg (fun b=>Ending.returned (Value.bool b)) (cast_beq _ _),Fr.refl _ _⟩
theorem ne_pred (w:World) (b p:Nat) (xs:List Nat) (hb:b < w.heap.size) (hc:w.cell? ⟨b,0,none⟩=some (.int .u32 (p:Int))):
  Pred w 167 #[.pointer (some ⟨b,0,none⟩)] (fun r=>r != p) xs:=by
 intro W r _ hf
 have hcW:=hf.cell hc (fun x=>x)
 have hbW:b < W.heap.size:=Nat.lt_of_lt_of_le hb hf.size
 clear hc hb hf
 go_enter Tryz.func167,Tryz.ntmps167
 go_wp2
 go_ret
 exact ⟨congrArg (fun b=>Ending.returned (Value.bool (!b))) (cast_beq _ _),Fr.refl _ _⟩
theorem enter_kind (args:Array Value) (w:World):(callFunc 136 args).run Tryz.prog w = .ok (.enter 136 args) w:=enters_of Tryz.func136 (by kernel_rfl) rfl args w
theorem enter_ne (args:Array Value) (w:World):(callFunc 167 args).run Tryz.prog w = .ok (.enter 167 args) w:=enters_of Tryz.func167 (by kernel_rfl) rfl args w
def regsFor (x:Al) (v:Nat):List Nat:=x.regs.filter fun r=>kindOf v == kindOf r
theorem possible_calls (w:World) (P:Nat→Prop) (x:Al) (g:AlG) (v:Nat) (h:AlAt w P x g) (hl:x.regs.length≤1073741824):
  Calls Tryz.prog 116 #[.pointer (some ⟨g.a,0,none⟩),.int .u32 (v:Int)] w (GivesOwn w 123 ((regsFor x v).map idV)):=by
 obtain ⟨a,bp,ba,bq,⟨rA,rn,rc⟩,se,eb⟩:=g
 obtain rfl:rn=x.regs.length:=h.rn
 have hc0:=h.c0
 have halt:=h.lt _ h.pa
 have hS:Sl w rA x.regs.length (x.regs.map idV):=own_Sl (c:=rc) h.regs
 simp only at hc0 halt hS
 clear h
 go_enter Tryz.func116,Tryz.ntmps116
 go_wp2_with (refine (filter_calls _ rA rc x.regs (hS.nope ((Fr.refl nope _).alloc _)) hl _ _ (fun r=>kindOf v == kindOf r) enter_kind (kind_pred _ _ v _ (by simp) (by simp))).mono ?_;rintro e w2 ⟨u,rfl,hown,hf⟩)
 go_ret
 exact ⟨u,rfl,own_le hown (by simp),((Fr.refl nope _).alloc _).then hf⟩
end
section
open Go Go.RowKit Go.MapKept Bth
set_option maxRecDepth 100000
def Turns (P:Nat→Prop) (w:World) (a:Nat) (x:Al) (w':World):Prop:=∃ g:AlG,g.a=a∧AlAt w' (wider P w w') x g∧Fr P w w'
theorem wider_lt {P:Nat→Prop} {w w':World} (h:∀ c,P c→c < w.heap.size) (hs:w.heap.size≤w'.heap.size):∀ c,wider P w w' c→c < w'.heap.size:=fun c hc=>by
 rcases hc with hc | hc
 ·exact Nat.lt_of_lt_of_le (h c hc) hs
 ·exact hc.2
theorem Turns.refl {P:Nat→Prop} {w:World} {x:Al} {g:AlG} (h:AlAt w P x g):Turns P w g.a x w:=⟨g,rfl,h.more (fun _ hc=>.inl hc) (wider_lt h.lt (Nat.le_refl _)),Fr.refl _ _⟩
theorem Turns.still {P:Nat→Prop} {w w':World} {x:Al} {g:AlG} (h:AlAt w P x g) (hf:Fr nope w w'):Turns P w g.a x w':=⟨g,rfl,(h.still hf).more (fun _ hc=>.inl hc) (wider_lt h.lt hf.size),hf.of_nope⟩
theorem Fr_wide {P:Nat→Prop} {w w1 w2:World} (h:Fr P w w1) (k:Fr (wider P w w1) w1 w2):Fr P w w2:=h.trans k (fun _ _ x=>x) (fun x hx hw=>by
 rcases hw with hw | hw
 ·exact hw
 ·omega)
theorem Turns.then {P:Nat→Prop} {w w1 w2:World} {a:Nat} {x:Al} (h:Fr P w w1) (k:Turns (wider P w w1) w1 a x w2):Turns P w a x w2:=by
 obtain ⟨g,h1,h2,h3⟩:=k
 have hl:=Fr_wide h h3
 exact ⟨g,h1,h2.more (fun c hc=>wider.trans h3.size c hc h.size) (fun c hc=>h2.lt c (by
  rcases hc with hc | hc
  ·exact .inl (.inl hc)
  ·by_cases hlt:c < w1.heap.size
   ·exact .inl (.inr ⟨hc.1,hlt⟩)
   ·exact .inr ⟨by omega,hc.2⟩)),hl⟩
def addA (x:Al) (v:Nat):Al:=if isV v && (x.poss v).isNone then { x with poss:=setL x.poss v (regsFor x v) } else x
theorem addA_regs (x:Al) (v:Nat):(addA x v).regs=x.regs:=by unfold addA;split<;>rfl
theorem addA_edges (x:Al) (v:Nat):(addA x v).edges=x.edges:=by unfold addA;split<;>rfl
theorem AlAt.putPoss {w w':World} {P Q:Nat→Prop} {x:Al} {g:AlG} (h:AlAt w P x g) (hf:Fr (fun b=>b=g.bq) w w') {L:Poss} (hp:PossAt w' Q g.bq L) (hq:∀ c,P c→Q c) (hl:∀ c,Q c→c < w'.heap.size):AlAt w' Q { x with poss:=L } g:=by
 have hkind:∀ {cs:Array Value} {t:TypeId} {fr:Nat × Nat} {b:Nat},w.heap[b]? = some (.cells cs t fr)→b≠g.bq:=by
  rintro cs t fr b hb rfl
  obtain ⟨ks,sv,⟨es,cl,hm,_⟩,_⟩:=h.poss
  rw [hb] at hm;cases hm
 have hown:∀ {n size:Nat} {e:TypeId} {v:Value} {xs:List Value},w.ownsRow 0 e size v n xs→w'.ownsRow 0 e size v n xs:=fun ho=>own_fr ho hf fun c hc he=>by
  obtain ⟨cur,h2⟩:=own_heap ho hc
  exact hkind h2 he
 exact {
  ha:=hf.heap h.ha (hkind h.ha)
  regs:=hown h.regs
  prio:=h.prio.fr hf h.ne2
  al:=h.al.fr hf h.ne3
  edges:=hown h.edges
  elen:=h.elen
  eat:=fun k b e h1 h2=>hf.heap (h.eat k b e h1 h2) (hkind (h.eat k b e h1 h2))
  poss:=hp
  ne1:=h.ne1
  ne2:=h.ne2
  ne3:=h.ne3
  pa:=hq _ h.pa
  pp:=hq _ h.pp
  pl:=hq _ h.pl
  pq:=hq _ h.pq
  pr:=fun c hc=>hq c (h.pr c hc)
  ps:=fun c hc=>hq c (h.ps c hc)
  pe:=fun b hb=>hq b (h.pe b hb)
  lt:=hl }
theorem own_new {w w1:World} {e:TypeId} {u:Value} {n:Nat} {xs:List Value} (h:w1.ownsRow w.heap.size e 1 u n xs) (P:Nat→Prop):∀ c,u.ownBlock=some c→wider P w w1 c:=fun c hc=>.inr ⟨own_base h c hc,own_lt h c hc⟩
theorem AlAdd_calls (w:World) (P:Nat→Prop) (x:Al) (g:AlG) (v:Nat) (h:AlAt w P x g) (hl:x.regs.length≤1073741824) (hv:v < 4294967296):
  Calls Tryz.prog 84 #[ptr g.a,.int .u32 (v:Int)] w fun e w'=>e = .returned (.tuple #[])∧Turns P w g.a (addA x v) w':=by
 have hc4:=h.c4
 have halt:=h.lt _ h.pa
 have hIV:=fun W=>IsVirtual_calls W v hv
 unfold ptr
 cases hi:isV v with
 | false=>
  have e:addA x v=x:=by unfold addA;rw [hi];rfl
  rw [hi] at hIV
  rw [e]
  clear e hi
  go_enter Tryz.func84,Tryz.ntmps84
  go_wp2_with (go_at_call 115;refine (hIV _).mono ?_;rintro e w1 ⟨rfl,rfl⟩)
  refine bodyPost_ret (results_none rfl _ _ _) rfl ?_
  exact ⟨rfl,Turns.refl h⟩
 | true=>
  rw [hi] at hIV
  obtain ⟨s,hlk,hso,hsn⟩:=h.poss.look v
  cases hp:x.poss v with
  | some l=>
   have e:addA x v=x:=by unfold addA;rw [hi,hp];rfl
   rw [e]
   rw [hp] at hlk
   simp only [Option.isSome_some] at hlk
   have hlk2:=(hlk w (Fr.refl _ _)).2
   clear e hi hp hlk hsn hso
   go_enter Tryz.func84,Tryz.ntmps84
   go_wp2_with (go_at_call 115;refine (hIV _).mono ?_;rintro e w1 ⟨rfl,rfl⟩)
   refine bodyPost_ret (results_none rfl _ _ _) rfl ?_
   exact ⟨rfl,Turns.refl h⟩
  | none=>
   have e:addA x v = { x with poss:=setL x.poss v (regsFor x v) }:=by unfold addA;rw [hi,hp];rfl
   rw [e]
   rw [hp] at hlk
   simp only [Option.isSome_none] at hlk
   have hlk2:=(hlk w (Fr.refl _ _)).2
   clear e hi hp hlk hsn hso
   have hd:Fr nope w w.drew:=(Fr.refl nope w).drew
   go_enter Tryz.func84,Tryz.ntmps84
   go_wp2_with (go_at_call 115;refine (hIV _).mono ?_;rintro e w1 ⟨rfl,rfl⟩)
   go_region_with (go_at_call 116;refine (possible_calls _ P x g v (h.still hd) hl).mono ?_;rintro e w1 ⟨u,rfl,hown,hf1⟩;rw [List.length_map] at hown;have h1:=(h.still hd).still hf1;have hc41:=h1.c4;obtain ⟨A,c,rfl,_,_⟩:=own_slice hown;have hh:=h1.more (fun c hc=>Or.inl hc) (wider_lt (h.still hd).lt hf1.size);obtain ⟨w2,hu,hp2,hf2,hs2⟩:=hh.poss.put v (regsFor x v) ⟨A,(regsFor x v).length,c⟩ (own_le hown (Nat.zero_le _)) (fun c hc=>own_new hown P c hc);replace hs2:=Lib.hid hs2)
   all_goals
    go_end0
    have hx:=hh.putPoss hf2 hp2 (fun c hc=>hc) (by rw [hs2.out];exact hh.lt)
    refine ⟨rfl,g,rfl,?_,?_⟩
    ·have:wider P w w2=wider P w.drew w1:=by funext c;unfold wider;rw [hs2.out];rfl
     rw [this];exact hx
    ·exact ((hd.then hf1).of_nope).then (hf2.mono fun x _ e=>by rw [e];exact h.pq)
end
section
open Go Go.RowKit Go.MapKept Bth
set_option maxRecDepth 100000
theorem wider_eq {P:Nat→Prop} {w1 w2 a b:World} (h1:w1.heap.size=w2.heap.size) (h2:a.heap.size=b.heap.size):wider P w1 a=wider P w2 b:=by funext c;unfold wider;rw [h1,h2]
theorem disc_calls (w:World) (P:Nat→Prop) (x:Al) (g:AlG) (v p:Nat) (l:List Nat) (h:AlAt w P x g) (hL:x.poss v=some l) (hl:l.length≤1073741824):
  Calls Tryz.prog 139 #[ptr g.a,.int .u32 (v:Int),.int .u32 (p:Int)] w fun e w'=>e = .returned (.tuple #[])∧AlAt w' (wider P w w') { x with poss:=setL x.poss v (l.filter fun r=>r != p) } g∧Fr P w w':=by
 have hc4:=h.c4
 have halt:=h.lt _ h.pa
 obtain ⟨⟨A,n,c⟩,hlk,hso,hsn⟩:=h.poss.look v
 rw [hL] at hso hsn
 simp only [Option.getD_some] at hso hsn
 subst hsn
 have hS:Sl w A l.length (l.map idV):=own_Sl (c:=c) hso
 obtain ⟨wb,hwb⟩:∃ wb,wb=w.alloc (.cells #[.int .u32 (p:Int)] 123):=⟨_,rfl⟩
 have hfb:Fr nope w wb:=by rw [hwb];exact (Fr.refl nope w).alloc _
 have hcb:wb.cell? ⟨w.heap.size,0,none⟩=some (.int .u32 (p:Int)):=by rw [hwb];simp
 have hlb:w.heap.size < wb.heap.size:=by rw [hwb];simp
 have hdw:Fr nope wb wb.drew:=(Fr.refl _ _).drew
 have hc0:wb.drew.cell? ⟨g.a,4,none⟩=some (.map (some g.bq)):=(hfb.then hdw).cell hc4 (fun x=>x)
 have hl0:=(hlk wb.drew (hfb.then hdw)).1
 have hne:g.a≠g.bq:=fun e=>by
  obtain ⟨_,_,⟨es,cl,hm,_⟩,_⟩:=h.poss
  rw [← e,h.ha] at hm;cases hm
 unfold ptr
 clear hL hlk hso
 go_enter Tryz.func139,Tryz.ntmps139
 go_wp2
 rw [← hwb]
 replace hwb:=Lib.hid hwb
 go_region_held3 (fun W=>W.cell? ⟨g.a,4,none⟩=some (.map (some g.bq))) (assumption)
  ((go_at_call 135;refine (filter_calls _ A c l (hS.nope (hfb.then hdw)) hl _ _ (fun r=>r != p) enter_ne (ne_pred _ _ p _ (Nat.lt_of_lt_of_le hlb hdw.size) (hdw.cell hcb (fun x=>x)))).mono ?_;rintro e w1 ⟨u,rfl,hown,hf1'⟩;have hf1:Fr nope wb w1:=hdw.then hf1';rw [List.length_map] at hown;have h1:=(h.still hfb).still hf1;obtain ⟨A2,c2,rfl,_,_⟩:=own_slice hown;have hh:=h1.more (P':=wider P w w1) (fun c hc=>Or.inl hc) (wider_lt h.lt (Nat.le_trans hfb.size hf1.size));obtain ⟨w2,hu,hp2,hf2,hs2⟩:=hh.poss.put v (l.filter fun r=>r != p) ⟨A2,(l.filter fun r=>r != p).length,c2⟩ (own_le hown (Nat.zero_le _)) (fun c hc=>.inr ⟨by have h4:=own_base hown c hc;have:=hfb.size;have h5:wb.drew.heap.size=wb.heap.size:=rfl;omega,own_lt hown c hc⟩);have hc41:w1.cell? ⟨g.a,4,none⟩=some (.map (some g.bq)):=h1.c4;have hc42:w2.cell? ⟨g.a,4,none⟩=some (.map (some g.bq)):=hf2.cell hc41 hne;replace hs2:=Lib.hid hs2))
 all_goals
  go_end0
  have hx:=hh.putPoss hf2 hp2 (fun c hc=>hc) (by rw [hs2.out];exact hh.lt)
  have hff:Fr P w w2:=((hfb.then hf1).of_nope).then (hf2.mono fun x _ e=>by rw [e];exact h.pq)
  have e:wider P w w2=wider P w w1:=wider_eq rfl hs2.out
  rw [e]
  exact ⟨rfl,hx,hff⟩
theorem MapAt.obj {K:Type} {w:World} {b:Nat} {mk:K→Value} {ks:List K} {f:K→Option Value} (h:MapAt w b mk ks f):∃ es clock,w.heap[b]? = some (.map es clock):=by obtain ⟨es,cl,h,_⟩:=h;exact ⟨es,cl,h⟩
theorem own_nomap {w:World} {base n size:Nat} {e:TypeId} {v:Value} {xs:List Value} {b:Nat} {es:Array MapEntry} {cl:Nat} (h:w.ownsRow base e size v n xs) (hm:w.heap[b]? = some (.map es cl)):v.ownBlock≠some b:=fun he=>by
 obtain ⟨cur,h2⟩:=own_heap h he
 rw [hm] at h2;cases h2
theorem AlAt.push {w w4:World} {P Q:Nat→Prop} {x:Al} {g:AlG} (h:AlAt w P x g) {e:Nat × Nat} {b:Nat} {s:SV} (hf:Fr (fun c=>c=g.a∨g.se.val.ownBlock=some c) w w4)
  (ha:w4.heap[g.a]? = some (.cells { g with se:=s,eb:=g.eb ++ [b] }.cells 233 (0,0))) (hrow:w4.ownsRow 0 274 1 s.val (x.edges.length+1) ((g.eb ++ [b]).map ptr))
  (he:w4.heap[b]? = some (.cells (edgeCells e) 276 (0,0))) (hq:∀ c,P c→Q c) (hl:∀ c,Q c→c < w4.heap.size) (hs:∀ c,s.val.ownBlock=some c→Q c) (hb:Q b):
  AlAt w4 Q { x with edges:=x.edges ++ [e] } { g with se:=s,eb:=g.eb ++ [b] }:=by
 have hT:NoT [123,276] w (fun c=>c=g.a∨g.se.val.ownBlock=some c):=NoT.or (NoT.one h.ha (by decide)) (NoT.own h.edges (by decide))
 have hm:∀ {c:Nat} {es:Array MapEntry} {cl:Nat},w.heap[c]? = some (.map es cl)→¬(c=g.a∨g.se.val.ownBlock=some c):=by
  rintro c es cl hm (rfl | hc)
  ·rw [h.ha] at hm;cases hm
  ·exact own_nomap h.edges hm hc
 obtain ⟨k1,m1⟩:=h.prio
 obtain ⟨k2,m2⟩:=h.al
 have n1:¬(g.bp=g.a∨g.se.val.ownBlock=some g.bp):=by obtain ⟨_,_,o⟩:=MapAt.obj m1;exact hm o
 have n2:¬(g.ba=g.a∨g.se.val.ownBlock=some g.ba):=by obtain ⟨_,_,o⟩:=MapAt.obj m2;exact hm o
 have n3:¬(g.bq=g.a∨g.se.val.ownBlock=some g.bq):=by obtain ⟨_,_,m3,_⟩:=h.poss;obtain ⟨_,_,o⟩:=MapAt.obj m3;exact hm o
 exact
  {
   ha:=ha
   regs:=own_frT h.regs hf hT (by decide)
   prio:=⟨k1,m1.fr hf n1⟩
   al:=⟨k2,m2.fr hf n2⟩
   edges:=by rw [List.length_append];exact hrow
   elen:=by simp [h.elen]
   eat:=fun k c e' h1 h2=>by
    by_cases hk:k < g.eb.length
    ·have hk2:k < x.edges.length:=by rw [← h.elen];exact hk
     rw [List.getElem?_append_left hk] at h1
     rw [List.getElem?_append_left hk2] at h2
     exact heap_frT (h.eat k c e' h1 h2) hf hT (by decide)
    ·have hk2:¬k < x.edges.length:=by rw [← h.elen];exact hk
     rw [List.getElem?_append_right (by omega)] at h1 h2
     have e1:k - g.eb.length=0:=by
      apply Classical.byContradiction;intro hn
      have:([b]:List Nat)[k - g.eb.length]? = none:=List.getElem?_eq_none (by simp;omega)
      rw [this] at h1;cases h1
     have e2:k - x.edges.length=0:=by rw [← h.elen];exact e1
     rw [e1] at h1;rw [e2] at h2
     simp only [List.getElem?_cons_zero,Option.some.injEq] at h1 h2
     subst h1 h2;exact he
   poss:=(h.poss.frT hf hT (by decide) n3).mono hq
   ne1:=h.ne1
   ne2:=h.ne2
   ne3:=h.ne3
   pa:=hq _ h.pa
   pp:=hq _ h.pp
   pl:=hq _ h.pl
   pq:=hq _ h.pq
   pr:=fun c hc=>hq c (h.pr c hc)
   ps:=hs
   pe:=fun c hc=>by
    rcases List.mem_append.1 hc with hc | hc
    ·exact hq c (h.pe c hc)
    ·obtain rfl:c=b:=by simpa using hc
     exact hb
   lt:=hl }
theorem infoPE:(Tryz.prog.info? 274).map (fun i=>(i.zero,i.size,i.bytes))=some (some (.pointer none),1,8):=by kernel_rfl
def addI (x:Al) (a b:Nat):Al:={ addA (addA x a) b with edges:=x.edges ++ [(a,b)] }
theorem addI_regs (x:Al) (a b:Nat):(addI x a b).regs=x.regs:=by unfold addI;rw [addA_regs,addA_regs]
set_option maxHeartbeats 1000000 in
theorem AddI_calls (w:World) (P:Nat→Prop) (x:Al) (g:AlG) (a b:Nat) (h:AlAt w P x g) (hl:x.regs.length≤1073741824) (hle:x.edges.length≤8796093022208) (ha:a < 4294967296) (hb:b < 4294967296):
  Calls Tryz.prog 119 #[ptr g.a,.int .u32 (a:Int),.int .u32 (b:Int)] w fun e w'=>e = .returned (.tuple #[])∧Turns P w g.a (addI x a b) w':=by
 go_enter Tryz.func119,Tryz.ntmps119
 go_wp2_with fail
 refine (AlAdd_calls w P x g a h hl ha).mono ?_
 rintro e w1 ⟨rfl,⟨g1,hg1,h1,hf1⟩⟩
 rw [← hg1]
 replace hg1:=Lib.hid hg1
 go_wp2_with fail
 refine (AlAdd_calls w1 _ (addA x a) g1 b h1 (by rw [addA_regs];exact hl) hb).mono ?_
 rintro e w2 ⟨rfl,⟨g2,hg2,h2,hf2⟩⟩
 rw [← hg2]
 replace hg2:=Lib.hid hg2
 have hx2:(addA (addA x a) b).edges=x.edges:=by rw [addA_edges,addA_edges]
 have hle2:(addA (addA x a) b).edges.length≤8796093022208:=by rw [hx2];exact hle
 have hw:=Fr_wide hf1 hf2
 replace h2:=h2.more (P':=wider P w w2) (fun c hc=>wider.trans hf2.size c hc hf1.size) (wider_lt h.lt hw.size)
 clear hle hx2
 obtain ⟨a2,bp2,ba2,bq2,sr2,⟨eA,en,ec⟩,eb2⟩:=g2
 generalize hy:addA (addA x a) b=y at h2 hle2
 replace hy:=Lib.hid hy
 obtain rfl:en=y.edges.length:=h2.en
 have hc3:=h2.c3
 have halt:=h2.lt _ h2.pa
 have hown:=h2.edges
 simp only at hc3 halt hown
 simp only [SV.val] at hown
 unfold ptr
 go_wp2_with (refine wpList_app (v:=.slice eA y.edges.length ec) rfl rfl Tryz.underlying230 infoPE rfl (by omega) rfl (own_fr hown (((Fr.refl nope _).alloc _).alloc _) (fun _ _ x=>x)) rfl (news:=[ptr w2.heap.size]) rfl (one_new _ _ _ _ (by simp)) (by simp [Value.oneCell',ptr]) (by simp only [maxLen];omega) (by omega) (Nat.zero_le _) ?hk)
 case hk=>
  intro v3 w3 hown3 hf3 hb3
  obtain ⟨A3,c3,rfl,_,_⟩:=own_slice hown3
  have hae:∀ o o',Fr nope w2 ((w2.alloc o).alloc o'):=fun o o'=>((Fr.refl nope _).alloc _).alloc _
  have ha3:w3.heap[a2]? = some (.cells (AlG.cells ⟨a2,bp2,ba2,bq2,sr2,⟨eA,y.edges.length,ec⟩,eb2⟩) 233 (0,0)):=hf3.heap ((hae _ _).heap h2.ha (fun x=>x)) (own_ne hown h2.ha (by decide))
  have he3:w3.heap[w2.heap.size]? = some (.cells (edgeCells (a,b)) 276 (0,0)):=hf3.heap (((Fr.refl nope (w2.alloc _)).alloc _).heap (heap_alloc_new w2 _) (fun x=>x)) (fun e=>by have:=own_lt hown _ e;omega)
  have hz:w3.frozen? ⟨a2,3,none⟩=false:=frozen_row ha3 3
  have hc33:w3.cell? ⟨a2,3,none⟩=some (.slice eA y.edges.length ec):=by rw [cell_of_row w3 a2 3 _ _ (0,0) ha3];rfl
  have hsz:w2.heap.size < w3.heap.size:=lt_of_heap he3
  replace hb3:=Lib.hid hb3
  go_wp2
  go_end0
  have hst:Fr (fun c=>c=a2) w3 (w3.setCell ⟨a2,3,none⟩ (.slice A3 (y.edges.length+1) c3)):=(Fr.refl (fun c=>c=a2) w3).setCell (.inl rfl) _
  have hf4:Fr (fun c=>c=a2∨(Value.slice eA y.edges.length ec).ownBlock=some c) w2 (w3.setCell ⟨a2,3,none⟩ (.slice A3 (y.edges.length+1) c3)):=(((hae _ _).of_nope).then (hf3.mono fun _ _ h=>.inr h)).then (hst.mono fun _ _ h=>.inl h)
  have hw4:Fr P w (w3.setCell ⟨a2,3,none⟩ (.slice A3 (y.edges.length+1) c3)):=Fr_wide hw (hf4.mono fun c _ h=>by
   rcases h with rfl | h
   ·exact h2.pa
   ·exact h2.ps c h)
  have hs4:(w3.setCell ⟨a2,3,none⟩ (.slice A3 (y.edges.length+1) c3)).heap.size=w3.heap.size:=by simp [World.setCell]
  have hq:∀ c,wider P w w2 c→wider P w (w3.setCell ⟨a2,3,none⟩ (.slice A3 (y.edges.length+1) c3)) c:=fun c hc=>by
   rcases hc with hc | hc
   ·exact .inl hc
   ·exact .inr ⟨hc.1,by rw [hs4];omega⟩
  have hws:=hw.size
  have key:=h2.push (Q:=wider P w (w3.setCell ⟨a2,3,none⟩ (.slice A3 (y.edges.length+1) c3))) (e:=(a,b)) (b:=w2.heap.size) (s:=⟨A3,y.edges.length+1,c3⟩) hf4 (setCell_heap ha3 _)
   (by rw [List.map_append];exact own_fr hown3 hst (fun c hc e=>own_ne hown3 ha3 (by decide) (by rw [e] at hc;exact hc))) (hst.heap he3 (by have:=h2.lt _ h2.pa;simp only at this;omega)) hq (wider_lt h.lt hw4.size)
   (fun c hc=>by
    rcases hb3.out with hb | hb
    ·exact hq c (h2.ps c (hb.symm.trans hc))
    ·have e:Value.ownBlock (.slice A3 (y.edges.length+1) c3)=some c:=hc
     rw [hb] at e
     injection e with e
     have hl3:=own_lt hown3 _ hc
     exact .inr ⟨by rw [← e];first | omega | (simp;omega),by rw [hs4];exact hl3⟩) (.inr ⟨hws,by rw [hs4];exact hsz⟩)
  refine ⟨rfl,⟨a2,bp2,ba2,bq2,sr2,⟨A3,y.edges.length+1,c3⟩,eb2 ++ [w2.heap.size]⟩,hg2.out.trans hg1.out,?_,hw4⟩
  ·have ee:addI x a b = { y with edges:=y.edges ++ [(a,b)] }:=by rw [← hy.out];unfold addI;rw [addA_edges,addA_edges]
   rw [ee]
   exact key
end
end Go.Proofs.YtpbeedabmjmdmaaGreatDoor
