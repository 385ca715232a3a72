/- Part of the proof of a statement about pub-berthage: what its texts have in common. -/
import Derived.Below
import Derived.MapKept
import Derived.ChangeMaps4
import Derived.Maps.RangeRun
import Derived.Deep.Draws
import Derived.WalkKit
import Derived.KernelRfl
namespace Bth
section
open Go Go.RowKit Go.MapKept
open Go.ChangeMaps (setBlock)
structure Fr (S:Nat→Prop) (w w':World):Prop where
 os:w'.os=w.os
 tape:w'.tape=w.tape
 output:w'.output=w.output
 size:w.heap.size≤w'.heap.size
 block:∀ k,k < w.heap.size→¬S k→w'.heap[k]? = w.heap[k]?
def nope:Nat→Prop:=fun _=>False
theorem Fr.refl (S:Nat→Prop) (w:World):Fr S w w:=⟨rfl,rfl,rfl,Nat.le_refl _,fun _ _ _=>rfl⟩
theorem Fr.trans {S T U:Nat→Prop} {a b c:World} (h:Fr S a b) (k:Fr T b c) (hS:∀ x,x < a.heap.size→S x→U x) (hT:∀ x,x < a.heap.size→T x→U x):Fr U a c:=
 ⟨k.os.trans h.os,k.tape.trans h.tape,k.output.trans h.output,Nat.le_trans h.size k.size,fun i hi hU=>(k.block i (Nat.lt_of_lt_of_le hi h.size) fun ht=>hU (hT i hi ht)).trans (h.block i hi fun hs=>hU (hS i hi hs))⟩
theorem Fr.then {S:Nat→Prop} {a b c:World} (h:Fr S a b) (k:Fr S b c):Fr S a c:=h.trans k (fun _ _ x=>x) (fun _ _ x=>x)
theorem Fr.mono {S T:Nat→Prop} {a b:World} (h:Fr S a b) (hS:∀ x,x < a.heap.size→S x→T x):Fr T a b:=⟨h.os,h.tape,h.output,h.size,fun i hi hT=>h.block i hi fun hs=>hT (hS i hi hs)⟩
theorem Fr.of_nope {S:Nat→Prop} {a b:World} (h:Fr nope a b):Fr S a b:=h.mono fun _ _ x=>x.elim
theorem Fr.then_new {S T:Nat→Prop} {a b c:World} (h:Fr S a b) (k:Fr T b c) (hT:∀ x,x < a.heap.size→¬T x):Fr S a c:=h.trans k (fun _ _ x=>x) (fun x hx ht=>(hT x hx ht).elim)
theorem Fr.drew {S:Nat→Prop} {a b:World} (h:Fr S a b):Fr S a b.drew:=⟨h.os,h.tape,h.output,h.size,h.block⟩
theorem Fr.drewN {S:Nat→Prop} {a b:World} (h:Fr S a b) (n:Nat):Fr S a (b.drewN n):=⟨h.os,h.tape,h.output,h.size,h.block⟩
theorem Fr.alloc {S:Nat→Prop} {a b:World} (h:Fr S a b) (o:Obj):Fr S a (b.alloc o):=
 ⟨h.os,h.tape,h.output,Nat.le_trans h.size (by simp),fun i hi hs=>(Below.heap_alloc b o i (Nat.lt_of_lt_of_le hi h.size)).trans (h.block i hi hs)⟩
theorem Fr.setCell {S:Nat→Prop} {a b:World} (h:Fr S a b) {p:Addr} (hp:S p.block∨a.heap.size≤p.block) (u:Value):Fr S a (b.setCell p u):=
 ⟨h.os,h.tape,h.output,by simpa [World.setCell] using h.size,fun i hi hs=>(Below.heap_setCell b p u i (by
  rintro rfl
  rcases hp with hp | hp
  ·exact hs hp
  ·omega)).trans (h.block i hi hs)⟩
theorem heap_setBlock (w:World) (b:Nat) (o:Obj) (i:Nat) (h:i≠b):(setBlock w b o).heap[i]? = w.heap[i]?:=by
 simp [setBlock,Ne.symm h]
theorem heap_setBlock_same {w:World} {b:Nat} {o o':Obj} (h:w.heap[b]? = some o'):(setBlock w b o).heap[b]? = some o:=by
 have hlt:b < w.heap.size:=(Array.getElem?_eq_some_iff.1 h).1
 simp [setBlock,hlt]
theorem Fr.setBlock {S:Nat→Prop} {a b:World} (h:Fr S a b) {r:Nat} (hr:S r∨a.heap.size≤r) (o:Obj):Fr S a (setBlock b r o):=
 ⟨h.os,h.tape,h.output,by simpa [ChangeMaps.setBlock] using h.size,fun i hi hs=>(heap_setBlock b r o i (by
  rintro rfl
  rcases hr with hr | hr
  ·exact hs hr
  ·omega)).trans (h.block i hi hs)⟩
theorem Fr.grown {S:Nat→Prop} {a w w':World} {row:Option Nat} (h:Fr S a w) (hg:w.grownBy w' row) (hr:∀ k,row=some k→k < a.heap.size→S k):Fr S a w':=
 ⟨hg.os.trans h.os,hg.tape.trans h.tape,hg.output.trans h.output,Nat.le_trans h.size hg.size,fun i hi hs=>(hg.block i (Nat.lt_of_lt_of_le hi h.size) (fun e=>hs (hr i e.symm hi))).trans (h.block i hi hs)⟩
theorem Fr.below {a b:World} (h:Fr nope a b):Below a.heap.size a b:=⟨h.os,h.tape,h.output,h.size,fun i hi=>h.block i hi (fun x=>x)⟩
theorem Fr.belowOf {S:Nat→Prop} {B:Nat} {a b:World} (h:Fr S a b) (hB:B≤a.heap.size) (hS:∀ x,S x→B≤x):Below B a b:=⟨h.os,h.tape,h.output,h.size,fun i hi=>h.block i (by omega) (fun x=>by have:=hS i x;omega)⟩
theorem Fr.of_below {S:Nat→Prop} {a b:World} (h:Below a.heap.size a b):Fr S a b:=⟨h.os,h.tape,h.output,h.size,fun i hi _=>h.block i hi⟩
theorem Fr.heap {S:Nat→Prop} {a b:World} (h:Fr S a b) {k:Nat} {o:Obj} (ho:a.heap[k]? = some o) (hs:¬S k):b.heap[k]? = some o:=
 (h.block k (Array.getElem?_eq_some_iff.1 ho).1 hs).trans ho
theorem Fr.cells {a b:World} (h:Fr nope a b):(∀ k o,k < a.heap.size→b.cell? ⟨k,o,none⟩=a.cell? ⟨k,o,none⟩)∧(∀ k o,k < a.heap.size→b.frozen? ⟨k,o,none⟩=a.frozen? ⟨k,o,none⟩):=
 ⟨fun k o hk=>h.below.cell (p:=⟨k,o,none⟩) hk,fun k o hk=>h.below.frozen (p:=⟨k,o,none⟩) hk⟩
theorem Fr.cell {S:Nat→Prop} {a b:World} (h:Fr S a b) {p:Addr} {v:Value} (hc:a.cell? p=some v) (hs:¬S p.block):b.cell? p=some v:=
 (World.cell?_of_block (h.block p.block (World.block_lt_of_cell? a p hc) hs)).trans hc
theorem lt_of_heap {w:World} {k:Nat} {o:Obj} (ho:w.heap[k]? = some o):k < w.heap.size:=(Array.getElem?_eq_some_iff.1 ho).1
def Sl (w:World) (A:Option Addr) (n:Nat) (xs:List Value):Prop:=
 xs.length=n∧(0 < n→∃ b off,A=some ⟨b,off,none⟩∧b < w.heap.size∧∀ j u,xs[j]? = some u→w.cell? ⟨b,off+j,none⟩=some u)
theorem Sl.nil (w:World):Sl w none 0 []:=⟨rfl,fun h=>absurd h (by omega)⟩
theorem Sl.fr {S:Nat→Prop} {w w':World} {A:Option Addr} {n:Nat} {xs:List Value} (h:Sl w A n xs) (hf:Fr S w w') (hs:0 < n→∀ b off,A=some ⟨b,off,none⟩→¬S b):Sl w' A n xs:=
 ⟨h.1,fun hn=>by
  obtain ⟨b,off,e,hb,hc⟩:=h.2 hn
  exact ⟨b,off,e,Nat.lt_of_lt_of_le hb hf.size,fun j u hu=>hf.cell (hc j u hu) (hs hn b off e)⟩⟩
theorem Sl.nope {w w':World} {A:Option Addr} {n:Nat} {xs:List Value} (h:Sl w A n xs) (hf:Fr nope w w'):Sl w' A n xs:=h.fr hf fun _ _ _ _ x=>x
theorem Sl.at_ {w:World} {A:Option Addr} {n:Nat} {xs:List Value} (h:Sl w A n xs) {k:Nat} (hk:k < n):∃ b off u,A=some ⟨b,off,none⟩∧b < w.heap.size∧xs[k]? = some u∧w.cell? ⟨b,off+k,none⟩=some u:=by
 obtain ⟨b,off,e,hb,hc⟩:=h.2 (by omega)
 have hl:k < xs.length:=by have:=h.1;omega
 exact ⟨b,off,xs[k],e,hb,List.getElem?_eq_getElem hl,hc k _ (List.getElem?_eq_getElem hl)⟩
section
variable {K:Type}
def MapAt (w:World) (b:Nat) (mk:K→Value) (ks:List K) (f:K→Option Value):Prop:=
 ∃ (es:Array MapEntry) (clock:Nat),w.heap[b]? = some (.map es clock)∧ks.Nodup∧es.toList.map (fun e=>(e.key,some e.val))=ks.map (fun k=>(mk k,f k)) ∧
  (∀ k,k∉ks→f k=none)∧(es.toList.map (·.born)).Nodup∧∀ e∈es.toList,e.born < clock
def updM [DecidableEq K] (f:K→Option Value) (k:K) (v:Option Value):K→Option Value:=fun x=>if x=k then v else f x
variable {w w':World} {b:Nat} {mk:K→Value} {ks:List K} {f:K→Option Value}
theorem MapAt.lt (h:MapAt w b mk ks f):b < w.heap.size:=by obtain ⟨es,clock,hb,_⟩:=h;exact lt_of_heap hb
theorem MapAt.keep (h:MapAt w b mk ks f) (hw:w'.heap[b]? = w.heap[b]?):MapAt w' b mk ks f:=by
 obtain ⟨es,clock,hb,hr⟩:=h
 exact ⟨es,clock,hw.trans hb,hr⟩
theorem MapAt.fr {S:Nat→Prop} (h:MapAt w b mk ks f) (hf:Fr S w w') (hs:¬S b):MapAt w' b mk ks f:=h.keep (hf.block b h.lt hs)
theorem MapAt.made (w:World) (mk:K→Value):MapAt (w.alloc (.map #[] 0)) w.heap.size mk ([]:List K) (fun _=>none):=
 ⟨#[],0,heap_alloc_new w _,List.nodup_nil,rfl,fun _ _=>rfl,List.nodup_nil,fun e he=>by simp at he⟩
theorem MapAt.nodup (h:MapAt w b mk ks f):ks.Nodup:=by obtain ⟨_,_,_,h,_⟩:=h;exact h
theorem MapAt.some_of (h:MapAt w b mk ks f) {k:K} (hk:k∈ks):∃ v,f k=some v:=by
 obtain ⟨es,clock,hb,hn,hm,_⟩:=h
 have:(mk k,f k)∈ks.map (fun k=>(mk k,f k)):=List.mem_map.2 ⟨k,hk,rfl⟩
 rw [← hm] at this
 obtain ⟨e,_,he⟩:=List.mem_map.1 this
 simp only [Prod.mk.injEq] at he
 exact ⟨e.val,he.2.symm⟩
theorem MapAt.mem_iff (h:MapAt w b mk ks f) {k:K} : k∈ks↔f k≠none:=by
 constructor
 ·intro hk
  obtain ⟨v,hv⟩:=h.some_of hk
  rw [hv];simp
 ·intro hk
  obtain ⟨_,_,_,_,_,h',_⟩:=h
  exact Classical.byContradiction fun hn=>hk (h' k hn)
theorem MapAt.size (h:MapAt w b mk ks f):∃ es clock,w.heap[b]? = some (.map es clock)∧es.size=ks.length:=by
 obtain ⟨es,clock,hb,_,hm,_⟩:=h
 refine ⟨es,clock,hb,?_⟩
 have:=congrArg List.length hm
 simpa using this
variable {P:Program} {T kt et:TypeId} {d:TypeDesc}
structure KeyOk (P:Program) (kt:TypeId) (d:TypeDesc) (mk:K→Value):Prop where
 under:P.underlying kt=some d
 isKey:∀ k,IsKey d (mk k)
 inj:∀ a b,mk a=mk b→a=b
theorem MapAt.find (h:MapAt w b mk ks f) (hk:KeyOk P kt d mk) (k:K):
  ∃ es clock,w.heap[b]? = some (.map es clock) ∧
   ((f k=none∧(Instr.findKey kt (mk k) es.toList).run P w = .ok none w∧∀ x∈es.toList,x.key≠mk k) ∨
    ∃ (j:Nat) (e:MapEntry),f k=some e.val∧(Instr.findKey kt (mk k) es.toList).run P w = .ok (some (j,e.val)) w∧es.toList[j]? = some e∧e.key=mk k∧ks[j]? = some k):=by
 obtain ⟨es,clock,hb,hn,hm,hf,_⟩:=h
 have hkeys:∀ x∈es.toList,∃ k',x.key=mk k'∧f k'=some x.val∧k'∈ks:=by
  intro x hx
  have:(x.key,some x.val)∈es.toList.map (fun e=>(e.key,some e.val)):=List.mem_map.2 ⟨x,hx,rfl⟩
  rw [hm] at this
  obtain ⟨k',hk',he⟩:=List.mem_map.1 this
  simp only [Prod.mk.injEq] at he
  exact ⟨k',he.1.symm,he.2,hk'⟩
 refine ⟨es,clock,hb,?_⟩
 rcases findNow_spec (hk.isKey k) es.toList 0 (fun x hx=>by obtain ⟨k',e,_⟩:=hkeys x hx;rw [e];exact hk.isKey k') with ⟨h1,h2⟩ | ⟨j,e,h1,h2,h3⟩
 ·refine .inl ⟨?_,run_findKey hk.under h1,h2⟩
  refine hf k fun hmem=>?_
  have:(mk k,f k)∈ks.map (fun k=>(mk k,f k)):=List.mem_map.2 ⟨k,hmem,rfl⟩
  rw [← hm] at this
  obtain ⟨x,hx,he⟩:=List.mem_map.1 this
  simp only [Prod.mk.injEq] at he
  exact h2 x hx he.1
 ·refine .inr ⟨j,e,?_,by simpa using run_findKey hk.under h1,h2,h3,?_⟩
  ·obtain ⟨k',e1,e2,_⟩:=hkeys e (List.mem_of_getElem? h2)
   have:k'=k:=hk.inj _ _ (e1.symm.trans h3)
   rw [← this];exact e2
  ·have hj:=congrArg (fun l=>l[j]?) hm
   simp only [List.getElem?_map,h2,Option.map_some] at hj
   cases hq:ks[j]? with
   | none=>rw [hq] at hj;simp at hj
   | some k'=>
    rw [hq] at hj
    simp only [Option.map_some,Option.some.injEq,Prod.mk.injEq] at hj
    have:k'=k:=hk.inj _ _ (hj.1.symm.trans h3)
    rw [this]
theorem MapAt.lookup (h:MapAt w b mk ks f) (hk:KeyOk P kt d mk) (hT:P.underlying T=some (.map kt et)) {z:Value} (hz:(zeroValue et).run P w = .ok z w) (k:K) (ok:Bool):
  (Instr.lookup T (.map (some b)) (mk k) ok).run P w = .ok (if ok then .tuple #[(f k).getD z,.bool (f k).isSome] else (f k).getD z) w:=by
 obtain ⟨es,clock,hb,hc⟩:=h.find hk k
 rcases hc with ⟨h1,h2,_⟩ | ⟨j,e,h1,h2,_⟩
 ·cases ok<;>simp [Instr.lookup,run_underlying hT,MapKept.run_getObj_map hb,run_checkKey hk.under (hk.isKey k),h2,hz,h1,Result.andThen]
 ·cases ok<;>simp [Instr.lookup,run_underlying hT,MapKept.run_getObj_map hb,run_checkKey hk.under (hk.isKey k),h2,h1,Result.andThen]
theorem run_lookup_nil {P:Program} {T kt et:TypeId} {d:TypeDesc} {mk:K→Value} (w:World) (hk:KeyOk P kt d mk) (hT:P.underlying T=some (.map kt et)) {z:Value} (hz:(zeroValue et).run P w = .ok z w) (k:K) (ok:Bool):
  (Instr.lookup T (.map none) (mk k) ok).run P w = .ok (if ok then .tuple #[z,.bool false] else z) w:=by
 cases ok<;>simp [Instr.lookup,run_underlying hT,run_checkKey hk.under (hk.isKey k),Instr.findKey,run_underlying hk.under,Instr.findNow,hz,Result.andThen]
theorem nodup_map_set_born:∀ (l:List MapEntry) (j:Nat) (g:MapEntry→MapEntry),(∀ e,(g e).born=e.born)→(l.modify j g).map (·.born)=l.map (·.born)
 | [],j,g,_=>by cases j<;>simp
 | e :: l,0,g,hg=>by simp [hg]
 | e :: l,j+1,g,hg=>by simp [nodup_map_set_born l j g hg]
theorem map_modify_entry [DecidableEq K] {mk:K→Value} {f:K→Option Value} {k:K} {v:Value} : ∀ (l:List MapEntry) (ks:List K) (j:Nat),ks.Nodup→l.map (fun e=>(e.key,some e.val))=ks.map (fun k=>(mk k,f k))→ks[j]? = some k →
  (l.modify j fun e=>{ e with key:=mk k,val:=v }).map (fun e=>(e.key,some e.val))=ks.map (fun x=>(mk x,updM f k (some v) x))
 | [],ks,j,_,hm,hj=>by cases ks<;>simp at hm hj
 | e :: l,[],j,_,hm,hj=>by simp at hj
 | e :: l,x :: ks,0,hn,hm,hj=>by
  simp only [List.getElem?_cons_zero,Option.some.injEq] at hj
  subst hj
  simp only [List.map_cons,List.cons.injEq] at hm
  simp only [List.modify_zero_cons,List.map_cons,updM,if_true,hm.2]
  congr 1
  refine List.map_congr_left fun y hy=>?_
  have:y≠x:=fun e=>(List.nodup_cons.1 hn).1 (e ▸ hy)
  simp [this]
 | e :: l,x :: ks,j+1,hn,hm,hj=>by
  simp only [List.getElem?_cons_succ] at hj
  simp only [List.map_cons,List.cons.injEq] at hm
  simp only [List.modify_succ_cons,List.map_cons,map_modify_entry l ks j (List.nodup_cons.1 hn).2 hm.2 hj,hm.1]
  have:x≠k:=fun e=>(List.nodup_cons.1 hn).1 (e ▸ List.mem_of_getElem? hj)
  simp [updM,this]
theorem MapAt.update [DecidableEq K] (h:MapAt w b mk ks f) (hk:KeyOk P kt d mk) (hT:P.underlying T=some (.map kt et)) (k:K) (v:Value):
  ∃ es clock,(Instr.mapUpdate T (.map (some b)) (mk k) v).run P w = .ok () (setBlock w b (.map es clock))∧MapAt (setBlock w b (.map es clock)) b mk (if k∈ks then ks else ks ++ [k]) (updM f k (some v)):=by
 have hfull:=h
 obtain ⟨es,clock,hb,hc⟩:=h.find hk k
 obtain ⟨es',clock',hb',hn,hm,hf,hborn,hlt⟩:=hfull
 rw [hb] at hb'
 simp only [Option.some.injEq,Obj.map.injEq] at hb'
 obtain ⟨rfl,rfl⟩:=hb'
 rcases hc with ⟨h1,h2,h3⟩ | ⟨j,e,h1,h2,h3,h4,h5⟩
 ·have hnot:k∉ks:=fun hmem=>by
   have hmem':(mk k,f k)∈ks.map (fun k=>(mk k,f k)):=List.mem_map.2 ⟨k,hmem,rfl⟩
   rw [← hm] at hmem'
   obtain ⟨x,hx,he⟩:=List.mem_map.1 hmem'
   simp only [Prod.mk.injEq] at he
   exact h3 x hx he.1
  refine ⟨es.push { key:=mk k,val:=v,born:=clock },clock+1,?_,?_⟩
  ·simp [Instr.mapUpdate,run_underlying hT,MapKept.run_getObj_map hb,run_checkKey hk.under (hk.isKey k),h2,run_setObj_map _ hb,Result.andThen]
   rfl
  ·rw [if_neg hnot]
   refine ⟨_,_,heap_setBlock_same hb,?_,?_,?_,?_,?_⟩
   ·rw [List.nodup_append];exact ⟨hn,by simp,fun a ha x hx=>by simp at hx;subst hx;rintro rfl;exact hnot ha⟩
   ·simp only [Array.toList_push,List.map_append,hm,List.map_cons,List.map_nil]
    congr 1
    ·refine List.map_congr_left fun y hy=>?_
     have:y≠k:=fun e=>hnot (e ▸ hy)
     simp [updM,this]
    ·simp [updM]
   ·intro x hx
    simp only [List.mem_append,List.mem_singleton,not_or] at hx
    simp only [updM,hx.2,if_false];exact hf x hx.1
   ·simp only [Array.toList_push,List.map_append,List.map_cons,List.map_nil]
    rw [List.nodup_append]
    exact ⟨hborn,by simp,fun a ha x hx=>by
     simp at hx;subst hx
     obtain ⟨e,he,rfl⟩:=List.mem_map.1 ha
     have:=hlt e he;omega⟩
   ·intro e he
    simp only [Array.toList_push,List.mem_append,List.mem_singleton] at he
    rcases he with he | rfl
    ·have:=hlt e he;omega
    ·simp
 ·have hmem:k∈ks:=List.mem_of_getElem? h5
  have hj:es[j]? = some e:=by simpa using h3
  refine ⟨es.modify j fun e=>{ e with key:=mk k,val:=v },clock,?_,?_⟩
  ·have hst:(Instr.keyThatStays e.key (mk k)).run P w = .ok (mk k) w:=by rw [h4];exact run_keyThatStays (hk.isKey k)
   simp [Instr.mapUpdate,run_underlying hT,MapKept.run_getObj_map hb,run_checkKey hk.under (hk.isKey k),h2,run_setObj_map _ hb,Result.andThen,hj,hst]
   rfl
  ·rw [if_pos hmem]
   have hl:(es.modify j fun e=>{ e with key:=mk k,val:=v }).toList=es.toList.modify j fun e=>{ e with key:=mk k,val:=v }:=by simp
   have hbs:(es.toList.modify j fun e=>{ e with key:=mk k,val:=v }).map (·.born)=es.toList.map (·.born):=nodup_map_set_born _ _ (fun e=>{ e with key:=mk k,val:=v }) (fun _=>rfl)
   refine ⟨_,_,heap_setBlock_same hb,hn,?_,?_,?_,?_⟩
   ·rw [hl];exact map_modify_entry _ _ _ hn hm h5
   ·intro x hx
    have:x≠k:=fun e=>hx (e ▸ hmem)
    simp [updM,this,hf x hx]
   ·rw [hl,hbs];exact hborn
   ·rw [hl]
    intro x hx
    have:x.born∈(es.toList.modify j fun e=>{ e with key:=mk k,val:=v }).map (·.born):=List.mem_map.2 ⟨x,hx,rfl⟩
    rw [hbs] at this
    obtain ⟨y,hy,hye⟩:=List.mem_map.1 this
    rw [← hye];exact hlt y hy
theorem MapAt.delete [DecidableEq K] (h:MapAt w b mk ks f) (hk:KeyOk P kt d mk) (hT:P.underlying T=some (.map kt et)) (k:K) (ty:TypeId):
  ∃ es clock,(Builtin.delete_ #[T,kt] ty #[.map (some b),mk k]).run P w = .ok (.tuple #[]) (setBlock w b (.map es clock))∧MapAt (setBlock w b (.map es clock)) b mk (ks.erase k) (updM f k none):=by
 have hfull:=h
 obtain ⟨es,clock,hb,hc⟩:=h.find hk k
 obtain ⟨es',clock',hb',hn,hm,hf,hborn,hlt⟩:=hfull
 rw [hb] at hb'
 simp only [Option.some.injEq,Obj.map.injEq] at hb'
 obtain ⟨rfl,rfl⟩:=hb'
 rcases hc with ⟨h1,h2,h3⟩ | ⟨j,e,h1,h2,h3,h4,h5⟩
 ·have hnot:k∉ks:=fun hmem=>by
   have hmem':(mk k,f k)∈ks.map (fun k=>(mk k,f k)):=List.mem_map.2 ⟨k,hmem,rfl⟩
   rw [← hm] at hmem'
   obtain ⟨x,hx,he⟩:=List.mem_map.1 hmem'
   simp only [Prod.mk.injEq] at he
   exact h3 x hx he.1
  have hu:updM f k none=f:=by
   funext x
   unfold updM
   split
   ·rename_i e;subst e;exact h1.symm
   ·rfl
  refine ⟨es,clock,?_,?_⟩
  ·simp [Builtin.delete_,run_underlying hT,MapKept.run_getObj_map hb,run_checkKey hk.under (hk.isKey k),h2,run_setObj_map _ hb,Result.andThen]
   rfl
  ·rw [hu,List.erase_of_not_mem hnot]
   exact ⟨es,clock,heap_setBlock_same hb,hn,hm,hf,hborn,hlt⟩
 ·have hmem:k∈ks:=List.mem_of_getElem? h5
  have hjs:j < es.size:=by
   have:=(List.getElem?_eq_some_iff.1 h3).1
   simpa using this
  have her:ks.erase k=ks.eraseIdx j:=by
   have hne:∀ (l:List K) (j:Nat),l.Nodup→l[j]? = some k→l.erase k=l.eraseIdx j:=by
    intro l
    induction l with
    | nil=>intro j _ hj;simp at hj
    | cons x l ih=>
     intro j hd hj
     cases j with
     | zero=>
      simp only [List.getElem?_cons_zero,Option.some.injEq] at hj
      subst hj;simp
     | succ j=>
      simp only [List.getElem?_cons_succ] at hj
      have hx:x≠k:=fun e=>(List.nodup_cons.1 hd).1 (e ▸ List.mem_of_getElem? hj)
      rw [List.erase_cons_tail (by simpa using hx),List.eraseIdx_cons_succ,ih j (List.nodup_cons.1 hd).2 hj]
   exact hne ks j hn h5
  refine ⟨es.eraseIdxIfInBounds j,clock,?_,?_⟩
  ·simp [Builtin.delete_,run_underlying hT,MapKept.run_getObj_map hb,run_checkKey hk.under (hk.isKey k),h2,run_setObj_map _ hb,Result.andThen]
   rfl
  ·have hl:(es.eraseIdxIfInBounds j).toList=es.toList.eraseIdx j:=by
    unfold Array.eraseIdxIfInBounds
    rw [dif_pos hjs]
    simp
   rw [her]
   refine ⟨_,_,heap_setBlock_same hb,(List.eraseIdx_sublist _ _).nodup hn,?_,?_,?_,?_⟩
   ·rw [hl,ChangeMaps.map_eraseIdx,hm,← ChangeMaps.map_eraseIdx]
    refine List.map_congr_left fun x hx=>?_
    have hx':x∈ks.erase k:=by rw [her];exact hx
    have:x≠k:=((List.Nodup.mem_erase_iff hn).1 hx').1
    simp [updM,this]
   ·intro x hx
    rw [← her] at hx
    unfold updM
    split
    ·rfl
    ·rename_i hne
     exact hf x fun hmem=>hx ((List.Nodup.mem_erase_iff hn).2 ⟨hne,hmem⟩)
   ·rw [hl,ChangeMaps.map_eraseIdx]
    exact (List.eraseIdx_sublist _ _).nodup hborn
   ·rw [hl]
    intro x hx
    exact hlt x ((List.eraseIdx_sublist _ _).subset hx)
theorem MapAt.len (h:MapAt w b mk ks f) (hT:P.underlying T=some (.map kt et)) (ty:TypeId):(Builtin.len_ #[T] ty #[.map (some b)]).run P w = .ok (.int .i64 (ks.length:Int)) w:=by
 obtain ⟨es,clock,hb,hs⟩:=h.size
 simp [Builtin.len_,run_underlying hT,MapKept.run_getObj_map hb,Result.andThen,hs,goInt]
theorem nodup_map_inj {α β : Type} (f:α → β):∀ (l:List α),(l.map f).Nodup→∀ {x y:α},x∈l→y∈l→f x=f y→x=y
 | [],_,_,_,hx,_,_=>by cases hx
 | a :: l,h,x,y,hx,hy,he=>by
  simp only [List.map_cons,List.nodup_cons] at h
  rcases List.mem_cons.1 hx with rfl | hx'<;>rcases List.mem_cons.1 hy with rfl | hy'
  ·rfl
  ·exact absurd (List.mem_map.2 ⟨y,hy',he.symm⟩) h.1
  ·exact absurd (List.mem_map.2 ⟨x,hx',he⟩) h.1
  ·exact nodup_map_inj f l h.2 hx' hy' he
variable {r:Nat} {todo:List K}
def RangeAt (w:World) (r b:Nat) (mk:K→Value) (ks:List K) (f:K→Option Value) (todo:List K):Prop:=
 ∃ (es:Array MapEntry) (clock since c0:Nat) (seen:Array Nat),w.heap[r]? = some (.mapIter (some b) since seen c0)∧w.heap[b]? = some (.map es clock)∧ks.Nodup∧todo.Nodup ∧
  es.toList.map (fun e=>(e.key,some e.val))=ks.map (fun k=>(mk k,f k))∧(∀ k,k∉ks→f k=none)∧(es.toList.map (·.born)).Nodup∧(∀ e∈es.toList,e.born < since)∧since≤c0∧(∀ e∈es.toList,e.born < clock) ∧
  (∀ k,k∈todo↔∃ e∈es.toList,e.key=mk k∧e.born∉seen)∧clock=c0
theorem RangeAt.map (h:RangeAt w r b mk ks f todo):MapAt w b mk ks f:=by
 obtain ⟨es,clock,since,c0,seen,h1,h2,h3,h4,h5,h6,h7,h8,h9,h10,h11⟩:=h
 exact ⟨es,clock,h2,h3,h5,h6,h7,h10⟩
theorem RangeAt.keep (h:RangeAt w r b mk ks f todo) (hr:w'.heap[r]? = w.heap[r]?) (hb:w'.heap[b]? = w.heap[b]?):RangeAt w' r b mk ks f todo:=by
 obtain ⟨es,clock,since,c0,seen,h1,h2,h3⟩:=h
 exact ⟨es,clock,since,c0,seen,hr.trans h1,hb.trans h2,h3⟩
theorem RangeAt.lt (h:RangeAt w r b mk ks f todo):r < w.heap.size:=by
 obtain ⟨es,clock,since,c0,seen,h1,_⟩:=h
 exact lt_of_heap h1
theorem RangeAt.fr {S:Nat→Prop} (h:RangeAt w r b mk ks f todo) (hf:Fr S w w') (hr:¬S r) (hb:¬S b):RangeAt w' r b mk ks f todo:=h.keep (hf.block r h.lt hr) (hf.block b h.map.lt hb)
theorem MapAt.range (h:MapAt w b mk ks f) (hinj:∀ a b,mk a=mk b→a=b) (hT:P.underlying T=some (.map kt et)):
  ∃ o,(Instr.range T (.map (some b))).run P w = .ok (.pointer (some ⟨w.heap.size,0,none⟩)) (w.alloc o)∧RangeAt (w.alloc o) w.heap.size b mk ks f ks:=by
 have hlt:=h.lt
 obtain ⟨es,clock,hb,hn,hm,hf,hborn,hclk⟩:=h
 refine ⟨.mapIter (some b) clock #[] clock,?_,?_⟩
 ·simp [Instr.range,run_underlying hT,MapKept.run_getObj_map hb,Result.andThen]
 ·refine ⟨es,clock,clock,clock,#[],heap_alloc_new w _,(Below.heap_alloc w _ b hlt).trans hb,hn,hn,hm,hf,hborn,hclk,Nat.le_refl _,hclk,fun k=>?_,rfl⟩
  constructor
  ·intro hk
   have:(mk k,f k)∈ks.map (fun k=>(mk k,f k)):=List.mem_map.2 ⟨k,hk,rfl⟩
   rw [← hm] at this
   obtain ⟨e,he,hee⟩:=List.mem_map.1 this
   simp only [Prod.mk.injEq] at hee
   exact ⟨e,he,hee.1,by simp⟩
  ·rintro ⟨e,he,hk,_⟩
   have:(e.key,some e.val)∈es.toList.map (fun e=>(e.key,some e.val)):=List.mem_map.2 ⟨e,he,rfl⟩
   rw [hm] at this
   obtain ⟨k',hk',hee⟩:=List.mem_map.1 this
   simp only [Prod.mk.injEq] at hee
   have:k'=k:=hinj _ _ (hee.1.trans hk)
   exact this ▸ hk'
theorem RangeAt.next [DecidableEq K] (h:RangeAt w r b mk ks f todo) (hinj:∀ a b,mk a=mk b→a=b) (ty:TypeId):
  (todo=[]∧(Instr.next (.pointer (some ⟨r,0,none⟩)) false ty).run P w = .ok (.tuple #[.bool false]) w) ∨
  ∃ k v w',k∈todo∧k∈ks∧f k=some v∧(Instr.next (.pointer (some ⟨r,0,none⟩)) false ty).run P w = .ok (.tuple #[.bool true,mk k,v]) w'∧RangeAt w' r b mk ks f (todo.erase k)∧Fr (fun x=>x=r) w w'∧w'.heap.size=w.heap.size ∧
   (Instr.entry (.pointer (some ⟨r,0,none⟩))).run P w' = .ok (.tuple #[mk k,v]) w':=by
 obtain ⟨es,clock,since,c0,seen,h1,h2,h3,h4,h5,h6,h7,h8,h9,h10,h11,h12⟩:=h
 have hne:b≠r:=by rintro rfl;rw [h1] at h2;simp at h2
 have hkey:∀ e∈es.toList,∃ k,e.key=mk k∧f k=some e.val∧k∈ks:=by
  intro e he
  have:(e.key,some e.val)∈es.toList.map (fun e=>(e.key,some e.val)):=List.mem_map.2 ⟨e,he,rfl⟩
  rw [h5] at this
  obtain ⟨k',hk',hee⟩:=List.mem_map.1 this
  simp only [Prod.mk.injEq] at hee
  exact ⟨k',hee.1.symm,hee.2,hk'⟩
 have hleft:∀ e,e∈(leftOf es seen).toList↔e∈es.toList∧e.born∉seen:=by
  intro e
  unfold leftOf
  simp
 rcases run_next_at (P:=P) w ty r b since c0 seen es clock h1 h2 h8 h9 with ⟨hz,hrun⟩ | ⟨e,he,w1,hw1,hrun⟩
 ·refine .inl ⟨?_,hrun⟩
  rcases todo with _ | ⟨k,todo⟩
  ·rfl
  ·obtain ⟨e,he,_,hs⟩:=(h11 k).1 (by simp)
   have:=(hleft e).2 ⟨he,hs⟩
   have hl:(leftOf es seen).toList.length=0:=by simpa using hz
   rw [List.eq_nil_of_length_eq_zero hl] at this
   cases this
 ·obtain ⟨he1,he2⟩:=(hleft e).1 he
  obtain ⟨k,hk1,hk2,hk3⟩:=hkey e he1
  have hheap:w1.heap=w.heap:=by rcases hw1 with rfl | rfl<;>rfl
  have hr1:w1.heap[r]? = some (.mapIter (some b) since seen c0):=by rw [hheap];exact h1
  rw [hk1] at hrun
  refine .inr ⟨k,e.val,_,(h11 k).2 ⟨e,he1,hk1,he2⟩,hk3,hk2,hrun,?_,?_,?_,?_⟩
  ·refine ⟨es,clock,since,c0,seen.push e.born,?_,?_,h3,h4.erase k,h5,h6,h7,h8,h9,h10,fun x=>?_,h12⟩
   ·rw [h12];exact heap_setBlock_same hr1
   ·rw [heap_setBlock _ _ _ _ hne,hheap];exact h2
   ·rw [List.Nodup.mem_erase_iff h4]
    constructor
    ·rintro ⟨hxk,hx⟩
     obtain ⟨e',he',hk',hs'⟩:=(h11 x).1 hx
     refine ⟨e',he',hk',?_⟩
     rw [Array.mem_push]
     rintro (hh | hh)
     ·exact hs' hh
     ·have hee:e'=e:=by
       exact nodup_map_inj _ _ h7 he' he1 hh
      subst hee
      exact hxk (hinj _ _ (hk'.symm.trans hk1))
    ·rintro ⟨e',he',hk',hs'⟩
     rw [Array.mem_push,not_or] at hs'
     refine ⟨?_,(h11 x).2 ⟨e',he',hk',hs'.1⟩⟩
     rintro rfl
     have hnd:(es.toList.map (·.key)).Nodup:=by
      have hkk:es.toList.map (·.key)=ks.map mk:=by
       have:=congrArg (List.map Prod.fst) h5
       simpa [List.map_map,Function.comp_def] using this
      rw [hkk]
      exact List.Pairwise.map mk (fun a b hab e=>hab (hinj a b e)) h3
     have hee:e'=e:=by
      exact nodup_map_inj _ _ hnd he' he1 (hk'.trans hk1.symm)
     exact hs'.2 (by rw [hee])
  ·refine Fr.setBlock (S:=fun x=>x=r) (a:=w) (b:=w1) (r:=r) ?_ (.inl rfl) _
   rcases hw1 with rfl | rfl
   ·exact Fr.refl _ _
   ·exact (Fr.refl _ _).drew
  ·simp [setBlock,hheap]
  ·have:=run_entry_at (P:=P) (setBlock w1 r (.mapIter (some b) since (seen.push e.born) clock)) r b since seen es clock e (heap_setBlock_same hr1) (by rw [heap_setBlock _ _ _ _ hne,hheap];exact h2) he1 h7
   rw [hk1] at this
   exact this
def MapO (w:World) (bo:Option Nat) (mk:K→Value) (ks:List K) (f:K→Option Value):Prop:=
 match bo with
 | none=>ks=[]∧∀ k,f k=none
 | some b=>MapAt w b mk ks f
def RangeO (w:World) (r:Nat) (bo:Option Nat) (mk:K→Value) (ks:List K) (f:K→Option Value) (todo:List K):Prop:=
 match bo with
 | none=>w.heap[r]? = some (.mapIter none 0 #[] 0)∧todo=[]∧ks=[]∧∀ k,f k=none
 | some b=>RangeAt w r b mk ks f todo
variable {bo:Option Nat}
theorem MapO.nodup (h:MapO w bo mk ks f):ks.Nodup:=by
 cases bo with
 | none=>rw [h.1];exact List.nodup_nil
 | some b=>exact MapAt.nodup h
theorem MapO.mem_iff (h:MapO w bo mk ks f) {k:K} : k∈ks↔f k≠none:=by
 cases bo with
 | none=>rw [h.1,h.2 k];simp
 | some b=>exact MapAt.mem_iff h
theorem MapO.fr {S:Nat→Prop} (h:MapO w bo mk ks f) (hf:Fr S w w') (hs:∀ b,bo=some b→¬S b):MapO w' bo mk ks f:=by
 cases bo with
 | none=>exact h
 | some b=>exact MapAt.fr h hf (hs b rfl)
theorem MapO.lookup (h:MapO w bo mk ks f) (hk:KeyOk P kt d mk) (hT:P.underlying T=some (.map kt et)) {z:Value} (hz:(zeroValue et).run P w = .ok z w) (k:K) (ok:Bool):
  (Instr.lookup T (.map bo) (mk k) ok).run P w = .ok (if ok then .tuple #[(f k).getD z,.bool (f k).isSome] else (f k).getD z) w:=by
 cases bo with
 | none=>
  rw [run_lookup_nil w hk hT hz k ok,h.2 k]
  rfl
 | some b=>exact MapAt.lookup h hk hT hz k ok
theorem RangeO.fr {S:Nat→Prop} (h:RangeO w r bo mk ks f todo) (hf:Fr S w w') (hr:¬S r) (hb:∀ b,bo=some b→¬S b):RangeO w' r bo mk ks f todo:=by
 cases bo with
 | none=>exact ⟨hf.heap h.1 hr,h.2⟩
 | some b=>exact RangeAt.fr h hf hr (hb b rfl)
theorem RangeO.map (h:RangeO w r bo mk ks f todo):MapO w bo mk ks f:=by
 cases bo with
 | none=>exact h.2.2
 | some b=>exact RangeAt.map h
theorem RangeO.lt (h:RangeO w r bo mk ks f todo):r < w.heap.size:=by
 cases bo with
 | none=>exact lt_of_heap h.1
 | some b=>exact RangeAt.lt h
section
variable {ops:Array Oper} {rest:List Oper} {o:Oper} {a:Act} {Q:Exit→Act→World→Prop}
theorem wpList_rangeO (hg:o.guard=none) {m:Operand} (hop:o.op = .range T m) (hm:a.eval m = .map bo) (h:MapO w bo mk ks f) (hinj:∀ a b,mk a=mk b→a=b) (hT:P.underlying T=some (.map kt et))
  (hK:∀ w',RangeO w' w.heap.size bo mk ks f ks→Fr nope w w'→w'.heap.size=w.heap.size+1→wpList P ops Q rest (a.put o.dst (.pointer (some ⟨w.heap.size,0,none⟩))) w'):wpList P ops Q (o :: rest) a w:=by
 refine wpList_plain hg fun K' hK'=>?_
 have hrun:∃ w',(Instr.range T (.map bo)).run P w = .ok (.pointer (some ⟨w.heap.size,0,none⟩)) w'∧RangeO w' w.heap.size bo mk ks f ks∧Fr nope w w'∧w'.heap.size=w.heap.size+1:=by
  cases bo with
  | none=>
   refine ⟨w.alloc (.mapIter none 0 #[] 0),?_,⟨heap_alloc_new w _,h.1,h⟩,(Fr.refl _ _).alloc _,by simp⟩
   simp [Instr.range,run_underlying hT,Result.andThen]
  | some b=>
   obtain ⟨o,h1,h2⟩:=MapAt.range h hinj hT
   exact ⟨w.alloc o,h1,h2,(Fr.refl _ _).alloc _,by simp⟩
 obtain ⟨w',h1,h2,h3,h4⟩:=hrun
 unfold Oper.wp
 simp [execOp,hop,hm,h1,Result.andThen]
 exact hK' _ _ (hK w' h2 h3 h4)
theorem wpList_nextO [DecidableEq K] (hg:o.guard=none) {it:Operand} (hop:o.op = .next it false) (hit:a.eval it = .pointer (some ⟨r,0,none⟩)) (h:RangeO w r bo mk ks f todo) (hinj:∀ a b,mk a=mk b→a=b)
  (hDone:todo=[]→wpList P ops Q rest (a.put o.dst (.tuple #[.bool false])) w)
  (hMore:∀ k v w',k∈todo→k∈ks→f k=some v→RangeO w' r bo mk ks f (todo.erase k)→Fr (fun x=>x=r) w w'→w'.heap.size=w.heap.size→(Instr.entry (.pointer (some ⟨r,0,none⟩))).run P w' = .ok (.tuple #[mk k,v]) w' →
   wpList P ops Q rest (a.put o.dst (.tuple #[.bool true,mk k,v])) w'):wpList P ops Q (o :: rest) a w:=by
 refine wpList_plain hg fun K' hK'=>?_
 unfold Oper.wp
 have hstep:(todo=[]∧(Instr.next (.pointer (some ⟨r,0,none⟩)) false o.type).run P w = .ok (.tuple #[.bool false]) w) ∨
   ∃ k v w',k∈todo∧k∈ks∧f k=some v∧(Instr.next (.pointer (some ⟨r,0,none⟩)) false o.type).run P w = .ok (.tuple #[.bool true,mk k,v]) w'∧RangeO w' r bo mk ks f (todo.erase k)∧Fr (fun x=>x=r) w w'∧w'.heap.size=w.heap.size ∧
    (Instr.entry (.pointer (some ⟨r,0,none⟩))).run P w' = .ok (.tuple #[mk k,v]) w':=by
  cases bo with
  | none=>
   refine .inl ⟨h.2.1,?_⟩
   simp [Instr.next,getObj,Sem.run,h.1,Result.andThen]
  | some b=>exact RangeAt.next h hinj o.type
 rcases hstep with ⟨h0,hrun⟩ | ⟨k,v,w',h1,h2,h3,hrun,h4,h5,h6,h7⟩
 ·simp [execOp,hop,hit,hrun,Result.andThen]
  exact hK' _ _ (hDone h0)
 ·simp [execOp,hop,hit,hrun,Result.andThen]
  exact hK' _ _ (hMore k v w' h1 h2 h3 h4 h5 h6 h7)
end
end
end
section
section
variable (reads writes:Nat→Nat→Nat→Prop) (succ:Nat→Nat→Prop)
inductive LiveIn:Nat→Nat→Nat→Prop
 | read {i c b:Nat} (h:reads i c b):LiveIn i c b
 | thru {i s c b:Nat} (hs:succ i s) (h:LiveIn s c b) (hw:¬writes i c b):LiveIn i c b
def LiveOut (i c b:Nat):Prop:=∃ s,succ i s∧LiveIn reads writes succ s c b
end
section
variable {reads writes:Nat→Nat→Nat→Prop} {succ:Nat→Nat→Prop}
theorem LiveIn.cases_iff {i c b:Nat} : LiveIn reads writes succ i c b↔reads i c b∨(LiveOut reads writes succ i c b∧¬writes i c b):=by
 constructor
 ·intro h
  cases h with
  | read h=>exact .inl h
  | thru hs h hw=>exact .inr ⟨⟨_,hs,h⟩,hw⟩
 ·rintro (h | ⟨⟨s,hs,h⟩,hw⟩)
  ·exact .read h
  ·exact .thru hs h hw
theorem LiveIn.least {inn:Nat→Nat→Nat→Prop} (hr:∀ i c b,reads i c b→inn i c b) (ht:∀ i s c b,succ i s→inn s c b→¬writes i c b→inn i c b) {i c b:Nat} (h:LiveIn reads writes succ i c b):inn i c b:=by
 induction h with
 | read h=>exact hr _ _ _ h
 | thru hs _ hw ih=>exact ht _ _ _ _ hs ih hw
theorem LiveIn.rename {reads' writes':Nat→Nat→Nat→Prop} {f:Nat→Nat}
  (hr:∀ i p b,reads' i p b↔∃ c,f c=p∧reads i c b) (hw:∀ i p b,writes' i p b↔∃ c,f c=p∧writes i c b)
  (hf:∀ i d c b,writes i d b→LiveOut reads writes succ i c b→f d=f c→d=c) {i p b:Nat} :
  LiveIn reads' writes' succ i p b↔∃ c,f c=p∧LiveIn reads writes succ i c b:=by
 constructor
 ·intro h
  induction h with
  | read h=>obtain ⟨c,hc,h⟩:=(hr _ _ _).1 h;exact ⟨c,hc,.read h⟩
  | thru hs _ hn ih=>
   obtain ⟨c,hc,h⟩:=ih
   exact ⟨c,hc,.thru hs h fun hwr=>hn ((hw _ _ _).2 ⟨c,hc,hwr⟩)⟩
 ·rintro ⟨c,rfl,h⟩
  induction h with
  | read h=>exact .read ((hr _ _ _).2 ⟨_,rfl,h⟩)
  | @thru i s c b hs h hn ih=>
   refine .thru hs ih fun hwr=>?_
   obtain ⟨d,hd,hwd⟩:=(hw _ _ _).1 hwr
   have:=hf i d c b hwd ⟨s,hs,h⟩ hd
   subst this
   exact hn hwd
theorem LiveOut.rename {reads' writes':Nat→Nat→Nat→Prop} {f:Nat→Nat}
  (hr:∀ i p b,reads' i p b↔∃ c,f c=p∧reads i c b) (hw:∀ i p b,writes' i p b↔∃ c,f c=p∧writes i c b)
  (hf:∀ i d c b,writes i d b→LiveOut reads writes succ i c b→f d=f c→d=c) {i p b:Nat} :
  LiveOut reads' writes' succ i p b↔∃ c,f c=p∧LiveOut reads writes succ i c b:=by
 constructor
 ·rintro ⟨s,hs,h⟩
  obtain ⟨c,hc,h⟩:=(LiveIn.rename hr hw hf).1 h
  exact ⟨c,hc,s,hs,h⟩
 ·rintro ⟨c,hc,s,hs,h⟩
  exact ⟨s,hs,(LiveIn.rename hr hw hf).2 ⟨c,hc,h⟩⟩
end
end
end Bth
