/- Part of the proof of a statement about pub-berthage: what its texts have in common. -/
import Derived.Test.YtjlfkgjmgghhiaaGreatP04
import Derived.Test.YtjlfkgjmgghhiaaGreatP10
import Derived.Test.YtjlfkgjmgghhiaaGreatP22
import Derived.Test.YtjlfkgjmgghhiaaGreatP23
namespace Go.Proofs.YtjlfkgjmgghhiaaGreat
section
open Go Go.RowKit Go.MapKept Bth
open Go.ChangeMaps (setBlock)
set_option maxRecDepth 100000
def pr (f:Nat→Option Int) (k:Nat):Int:=(f k).getD 0
def ltP (f:Nat→Option Int) (a b:Nat):Bool:=decide (pr f b < pr f a) || (decide (pr f a=pr f b) && decide (a < b))
theorem swo_ltP (f:Nat→Option Int):Go.Sort.SWO (ltP f) where
 irrefl x:=by simp [ltP]
 trans x y z h1 h2:=by simp [ltP] at *;omega
 ntrans x y z h1 h2:=by simp [ltP] at *;omega
theorem prioT:Tryz.prog.underlying 264=some (.map 208 3):=Tryz.underlying264
theorem zeroInt (w:World):(zeroValue 3).run Tryz.prog w = .ok (.int .i64 0) w:=by kernel_rfl
theorem PrioAt.look {w:World} {b:Nat} {f:Nat→Option Int} (h:PrioAt w b f) (k:Nat):
  (Instr.lookup 264 (.map (some b)) (.int .u32 (k:Int)) false).run Tryz.prog w = .ok (.int .i64 (pr f k)) w:=by
 obtain ⟨ks,hm⟩:=h
 have:=hm.lookup idKey prioT (zeroInt w) k false
 rw [show (Value.int .u32 (k:Int))=idV k from rfl,this]
 unfold pr
 cases f k<;>simp
theorem PrioAt.put {w:World} {b:Nat} {f:Nat→Option Int} (h:PrioAt w b f) (k:Nat) (v:Int):
  ∃ w',(Instr.mapUpdate 264 (.map (some b)) (.int .u32 (k:Int)) (.int .i64 v)).run Tryz.prog w = .ok () w'∧PrioAt w' b (fun x=>if x=k then some v else f x)∧Fr (fun x=>x=b) w w'∧w'.heap.size=w.heap.size:=by
 obtain ⟨ks,hM⟩:=h
 obtain ⟨es,clock,h1,h2⟩:=hM.update idKey prioT k (.int .i64 v)
 have e:(fun x=>(if x=k then some v else f x).map fun p=>Value.int .i64 p)=updM (fun s=>(f s).map fun p=>Value.int .i64 p) k (some (.int .i64 v)):=by
  funext x
  unfold updM
  by_cases hx:x=k<;>simp [hx]
 rw [← e] at h2
 exact ⟨setBlock w b (.map es clock),h1,⟨_,h2⟩,(Fr.refl (fun x=>x=b) w).setBlock (.inl rfl) _,by simp [setBlock]⟩
theorem PrioAt.eqHeap {w W:World} {b:Nat} {f:Nat→Option Int} (h:PrioAt w b f) (he:W.heap=w.heap):PrioAt W b f:=by obtain ⟨ks,hm⟩:=h;exact ⟨ks,hm.keep (by rw [he])⟩
set_option maxHeartbeats 1000000 in
theorem less_calls (W:World) (a Bs bp b n c:Nat) (f:Nat→Option Int) (ys:List Nat) (hB:W.cell? ⟨Bs,0,none⟩=some (ptr a)) (h0:W.cell? ⟨a,0,none⟩=some (.slice (some ⟨b,0,none⟩) n c)) (h1:W.cell? ⟨a,1,none⟩=some (.map (some bp)))
  (hP:PrioAt W bp f) (hl:ys.length=n) (hown:W.ownsRow 0 208 1 (.slice (some ⟨b,0,none⟩) n c) n (ys.map idV)) (i j:Nat) (hi:i < n) (hj:j < n):
  Calls Tryz.prog 165 #[.int .i64 i,.int .i64 j,ptr Bs] W fun e w'=>e = .returned (.bool (ltP f (ys.getD i 0) (ys.getD j 0)))∧∃ q,w'=W.drewN q:=by
 obtain ⟨x,hx⟩:∃ x,ys[i]? = some x:=⟨_,List.getElem?_eq_getElem (by omega)⟩
 obtain ⟨y,hy⟩:∃ y,ys[j]? = some y:=⟨_,List.getElem?_eq_getElem (by omega)⟩
 have hci:=(own_cur hown i (idV x) (by rw [List.getElem?_map,hx];rfl)).1
 have hcj:=(own_cur hown j (idV y) (by rw [List.getElem?_map,hy];rfl)).1
 have hxd:ys.getD i 0=x:=by rw [List.getD_eq_getElem?_getD,hx];rfl
 have hyd:ys.getD j 0=y:=by rw [List.getD_eq_getElem?_getD,hy];rfl
 rw [hxd,hyd]
 have hlx:=fun m=>(PrioAt.eqHeap (W:=W.drewN m) hP rfl).look x
 have hly:=fun m=>(PrioAt.eqHeap (W:=W.drewN m) hP rfl).look y
 obtain ⟨p,hp⟩:∃ p,pr f x=p:=⟨_,rfl⟩
 obtain ⟨q,hq⟩:∃ q,pr f y=q:=⟨_,rfl⟩
 unfold ltP
 rw [hp] at hlx ⊢
 rw [hq] at hly ⊢
 unfold idV at hci hcj
 unfold ptr at hB ⊢
 have hi':(0:Int)≤(i:Int):=by omega
 have hj':(0:Int)≤(j:Int):=by omega
 have hii:(i:Int) < (n:Int):=by omega
 have hjj:(j:Int) < (n:Int):=by omega
 clear hP hown hx hy hxd hyd hp hq hl
 go_enter Tryz.func165,Tryz.ntmps165
 go_wp2
 go_quiet (fail)
 go_wp2
 go_quiet (fail)
 by_cases c1:q < p
 ·go_wp2
  go_ret
  exact ⟨by simp [c1],_,rfl⟩
 ·by_cases c2:p=q
  ·subst c2
   go_wp2
   go_ret
   exact ⟨by simp,_,rfl⟩
  ·have c3:(p == q)=false:=by simpa using c2
   go_wp2
   go_ret
   exact ⟨by simp [c1],_,rfl⟩
theorem AlAt.setRegs {w w':World} {P:Nat→Prop} {x:Al} {g:AlG} (h:AlAt w P x g) (hf:Fr (fun b=>g.sr.val.ownBlock=some b) w w') {ys:List Nat} (hl:ys.length=x.regs.length) (hown:w'.ownsRow 0 208 1 g.sr.val x.regs.length (ys.map idV)) (hp:∀ v,x.poss v=none):
  AlAt w' P { x with regs:=ys } g:=by
 have hT:NoT [314,316,268] w (fun b=>g.sr.val.ownBlock=some b):=NoT.own h.regs (by decide)
 have hm:∀ {c:Nat} {es:Array MapEntry} {cl:Nat},w.heap[c]? = some (.map es cl)→¬(g.sr.val.ownBlock=some c):=fun hm=>own_nomap h.regs hm
 obtain ⟨k1,m1⟩:=h.prio
 obtain ⟨k2,m2⟩:=h.al
 obtain ⟨k3,sv3,m3,_⟩:=h.poss
 exact
  { h with
    ha:=heap_frT h.ha hf hT (by decide)
    regs:=by show w'.ownsRow _ _ _ _ ys.length _;rw [hl];exact hown
    prio:=⟨k1,m1.fr hf (by obtain ⟨_,_,o⟩:=MapAt.obj m1;exact hm o)⟩
    al:=⟨k2,m2.fr hf (by obtain ⟨_,_,o⟩:=MapAt.obj m2;exact hm o)⟩
    edges:=own_frT h.edges hf hT (by decide)
    eat:=fun k b e h1 h2=>heap_frT (h.eat k b e h1 h2) hf hT (by decide)
    poss:=⟨k3,sv3,m3.fr hf (by obtain ⟨_,_,o⟩:=MapAt.obj m3;exact hm o),fun k l e=>by have:=hp k;rw [this] at e;cases e⟩
    lt:=fun c hc=>Nat.lt_of_lt_of_le (h.lt c hc) hf.size }
theorem sortregs_calls (w:World) (P:Nat→Prop) (x:Al) (g:AlG) (h:AlAt w P x g) (hp:∀ v,x.poss v=none) (hsz:x.regs.length < 4611686018427387904):
  Calls Tryz.prog 143 #[ptr g.a] w fun e w'=>e = .returned (.tuple #[])∧∃ ys,SortedOf (ltP x.prio) x.regs ys∧AlAt w' P { x with regs:=ys } g∧Fr P w w':=by
 obtain ⟨wb,hwb⟩:∃ wb,wb=w.alloc (.cells #[ptr g.a] 196):=⟨_,rfl⟩
 have hfb:Fr nope w wb:=by rw [hwb];exact (Fr.refl nope w).alloc _
 have hbb:wb.heap[w.heap.size]? = some (.cells #[ptr g.a] 196 (0,0)):=by rw [hwb];exact heap_alloc_new w _
 have hb:=h.still hfb
 obtain ⟨a,bp,ba,bq,⟨sA,sn,sc⟩,se,eb⟩:=g
 obtain rfl:sn=x.regs.length:=h.rn
 have hc0:=hb.c0
 have halt:=hb.lt _ hb.pa
 have hcb:wb.cell? ⟨w.heap.size,0,none⟩=some (ptr a):=by rw [cell_of_row wb _ 0 _ _ (0,0) hbb];rfl
 have hlb:=lt_of_heap hbb
 have hc0w:=h.c0
 have haltw:=h.lt _ h.pa
 simp only at hc0 halt hc0w haltw
 have hless:∀ b,sA=some ⟨b,0,none⟩→LessOwn 165 #[ptr w.heap.size] (ltP x.prio) wb b sc x.regs.length:=by
  rintro b rfl W ys hf hlen hown i j hi hj
  have h1:¬a=b:=fun e=>own_ne hb.regs hb.ha (by decide) (by rw [e];rfl)
  have h2:¬bp=b:=fun e=>by
   obtain ⟨k1,m1⟩:=hb.prio
   obtain ⟨_,_,o⟩:=MapAt.obj m1
   exact own_nomap hb.regs o (by show some b=some bp;rw [e])
  have h3:¬w.heap.size=b:=fun e=>by
   have:=own_lt h.regs b rfl
   omega
  exact less_calls W a w.heap.size bp b x.regs.length sc x.prio ys (hf.cell hcb h3) (hf.cell hb.c0 h1) (hf.cell hb.c1 h1) (PrioAt.fr hb.prio hf h2) hlen hown i j hi hj
 have hS:=sortIDs_calls wb sA sc x.regs hb.regs _ _ (fun args w=>enters_of Tryz.func165 (by kernel_rfl) rfl args w) (ltP x.prio) (swo_ltP _) hless hsz
 clear hless
 unfold ptr at hS ⊢
 unfold ptr at hcb hwb
 go_enter Tryz.func143,Tryz.ntmps143
 go_wp2_with fail
 rw [← hwb]
 refine hS.mono ?_
 rintro e w2 ⟨rfl,ys,hys,hown,hf2⟩
 replace hwb:=Lib.hid hwb
 go_wp2
 go_end0
 refine ⟨rfl,ys,hys,hb.setRegs hf2 hys.1.length_eq hown hp,hfb.of_nope.then (hf2.mono fun c _ hc=>h.pr c hc)⟩
def setPr (f:Nat→Option Int) (id:Nat) (p:Int):Nat→Option Int:=fun x=>if x=id then some p else f x
theorem AlAt.setPrio {w w':World} {P:Nat→Prop} {x:Al} {g:AlG} (h:AlAt w P x g) (hf:Fr (fun b=>b=g.bp) w w') {f:Nat→Option Int} (hp:PrioAt w' g.bp f):AlAt w' P { x with prio:=f } g:=by
 obtain ⟨k1,m1⟩:=h.prio
 obtain ⟨_,_,o⟩:=MapAt.obj m1
 have hkind:∀ {cs:Array Value} {t:TypeId} {fr:Nat × Nat} {b:Nat},w.heap[b]? = some (.cells cs t fr)→b≠g.bp:=by
  rintro cs t fr b hb rfl
  rw [hb] at o;cases o
 have hown:∀ {n size:Nat} {e:TypeId} {v:Value} {xs:List Value},w.ownsRow 0 e size v n xs→w'.ownsRow 0 e size v n xs:=fun ho=>own_fr ho hf fun c hc he=>by
  obtain ⟨cur,h2⟩:=own_heap ho hc
  exact hkind h2 he
 have hposs:=h.poss
 obtain ⟨k3,sv3,m3,hl3⟩:=hposs
 exact
  { h with
    ha:=hf.heap h.ha (hkind h.ha)
    regs:=hown h.regs
    prio:=hp
    al:=h.al.fr hf (fun e=>h.ne1 e.symm)
    edges:=hown h.edges
    eat:=fun k b e h1 h2=>hf.heap (h.eat k b e h1 h2) (hkind (h.eat k b e h1 h2))
    poss:=⟨k3,sv3,m3.fr hf (fun e=>h.ne2 e.symm),fun k l e=>⟨hown (hl3 k l e).1,(hl3 k l e).2⟩⟩
    lt:=fun c hc=>Nat.lt_of_lt_of_le (h.lt c hc) hf.size }
theorem SetPrio_calls (w:World) (P:Nat→Prop) (x:Al) (g:AlG) (id:Nat) (p:Int) (h:AlAt w P x g) (hp:∀ v,x.poss v=none) (hsz:x.regs.length < 4611686018427387904):
  Calls Tryz.prog 104 #[ptr g.a,.int .u32 (id:Int),.int .i64 p] w fun e w'=>e = .returned (.tuple #[])∧∃ ys,SortedOf (ltP (setPr x.prio id p)) x.regs ys∧AlAt w' P { x with regs:=ys,prio:=setPr x.prio id p } g∧Fr P w w':=by
 have hc1:=h.c1
 have halt:=h.lt _ h.pa
 obtain ⟨w1,hu,hp1,hf1,hs1⟩:=h.prio.put id p
 have h1:=h.setPrio hf1 hp1
 have hS:=sortregs_calls w1 P _ g h1 hp hsz
 replace hs1:=Lib.hid hs1
 unfold ptr at hS ⊢
 go_enter Tryz.func104,Tryz.ntmps104
 go_wp2_with (go_at_call 143;refine hS.mono ?_;rintro e w2 ⟨rfl,ys,hys,h2,hf2⟩)
 go_end0
 exact ⟨rfl,ys,hys,h2,(hf1.mono fun c _ e=>by rw [e];exact h.pp).then hf2⟩
end
section
open Go Go.RowKit Go.MapKept Bth
open Go.ChangeMaps (setBlock)
set_option maxRecDepth 100000
theorem u8_and (a b:Nat) (ha:a < 256) (hb:b < 256):Go.bits .and .u8 (a:Int) (b:Int)=((a &&& b:Nat):Int):=by
 have hx:a &&& b < 2 ^ 8:=Nat.and_lt_two_pow _ (by omega)
 show IntKind.u8.wrap ((BitVec.ofInt 8 (a:Int) &&& BitVec.ofInt 8 (b:Int)).toNat:Int)=_
 rw [BitVec.toNat_and,ofInt_u8 a ha,ofInt_u8 b hb,wrap_u8 _ (by omega)]
def SetAt (w:World) (b:Nat) (S:List Nat):Prop:=∃ ks,MapAt w b idV ks fun k=>if k∈S then some (.bool true) else none
theorem setT:Tryz.prog.underlying 302=some (.map 208 4):=Tryz.underlying302
theorem SetAt.put {w:World} {b:Nat} {S:List Nat} (h:SetAt w b S) (k:Nat):
  ∃ w',(Instr.mapUpdate 302 (.map (some b)) (.int .u32 (k:Int)) (.bool true)).run Tryz.prog w = .ok () w'∧SetAt w' b (S ++ [k])∧Fr (fun x=>x=b) w w'∧w'.heap.size=w.heap.size:=by
 obtain ⟨ks,hM⟩:=h
 obtain ⟨es,clock,h1,h2⟩:=hM.update idKey setT k (.bool true)
 have e:(fun x=>if x∈S ++ [k] then some (Value.bool true) else none)=updM (fun x=>if x∈S then some (Value.bool true) else none) k (some (.bool true)):=by
  funext x
  unfold updM
  by_cases hx:x=k<;>simp [hx]
 rw [← e] at h2
 exact ⟨setBlock w b (.map es clock),h1,⟨_,h2⟩,(Fr.refl (fun x=>x=b) w).setBlock (.inl rfl) _,by simp [setBlock]⟩
theorem SetAt.fr {S:Nat→Prop} {w w':World} {b:Nat} {l:List Nat} (h:SetAt w b l) (hf:Fr S w w') (hs:¬S b):SetAt w' b l:=by obtain ⟨ks,hm⟩:=h;exact ⟨ks,hm.fr hf hs⟩
def freeIds (rs:List R):List Nat:=(rs.filter fun r=>r.info &&& 2 == 0).map R.id
theorem freeIds_take {rs:List R} {k:Nat} {r:R} (h:rs[k]? = some r):freeIds (rs.take (k+1))=freeIds (rs.take k) ++ if r.info &&& 2=0 then [r.id] else []:=by
 unfold freeIds
 rw [List.take_add_one,h,List.filter_append,List.map_append]
 congr 1
 by_cases hi:r.info &&& 2=0<;>simp [hi]
structure KInv (ks todo D:List Nat):Prop where
 nd:todo.Nodup
 dn:D.Nodup
 mem:∀ k,k∈ks↔k∈D∨k∈todo
 ap:∀ k,k∈D→k∉todo
theorem KInv.step {ks todo D:List Nat} (h:KInv ks todo D) {k:Nat} (hk:k∈todo):KInv ks (todo.erase k) (D ++ [k]):=by
 refine ⟨h.nd.erase k,List.nodup_append.2 ⟨h.dn,by simp,fun a ha b hb e=>?_⟩,fun x=>?_,fun x hx=>?_⟩
 ·obtain rfl:b=k:=by simpa using hb
  subst e
  exact h.ap a ha hk
 ·rw [h.mem,List.Nodup.mem_erase_iff h.nd,List.mem_append,List.mem_singleton]
  by_cases e:x=k
  ·subst e;simp [hk]
  ·simp [e]
 ·rw [List.Nodup.mem_erase_iff h.nd]
  rcases List.mem_append.1 hx with hx | hx
  ·exact fun hh=>h.ap x hx hh.2
  ·obtain rfl:x=k:=by simpa using hx
   exact fun hh=>hh.1 rfl
def newer (w w':World):Nat→Prop:=fun c=>w.heap.size≤c∧c < w'.heap.size
theorem NewEmptyAl_calls (w:World):Calls Tryz.prog 109 #[] w fun e w'=>e = .returned (.map (some w.heap.size))∧w'=w.alloc (.map #[] 0):=by
 have hmm:=@run_makeMap Tryz.prog
 go_enter Tryz.func109,Tryz.ntmps109
 go_wp2
 go_ret
 exact ⟨rfl,rfl⟩
def freshG (N:Nat) (s:SV):AlG:=⟨N+1+1+1,N,N+1,N+1+1,s,⟨none,0,0⟩,[]⟩
def freshW (wr:World) (s:SV):World:=(((wr.alloc (.map #[] 0)).alloc (.map #[] 0)).alloc (.map #[] 0)).alloc (.cells (freshG wr.heap.size s).cells 268)
theorem freshW_fr (wr:World) (s:SV):Fr nope wr (freshW wr s):=((((Fr.refl _ _).alloc _).alloc _).alloc _).alloc _
theorem AlAt.fresh {w wr:World} {B:Nat} {D:List Nat} {s:SV} (hown:wr.ownsRow B 208 1 s.val D.length (D.map idV)) (hB:w.heap.size≤B) (hs:w.heap.size≤wr.heap.size):
  AlAt (freshW wr s) (newer w (freshW wr s)) ⟨D,fun _=>none,fun _=>none,[],fun _=>none⟩ (freshG wr.heap.size s):=by
 have hsz:(freshW wr s).heap.size=wr.heap.size+4:=by simp [freshW]
 have e1:(wr.alloc (.map #[] 0)).heap.size=wr.heap.size+1:=by simp
 have e2:((wr.alloc (.map #[] 0)).alloc (.map #[] 0)).heap.size=wr.heap.size+1+1:=by simp
 have e3:(((wr.alloc (.map #[] 0)).alloc (.map #[] 0)).alloc (.map #[] 0)).heap.size=wr.heap.size+1+1+1:=by simp
 have a1:∀ o:World,∀ ob,Fr nope o (o.alloc ob):=fun o ob=>(Fr.refl _ _).alloc _
 have m1:∀ {β : Type} (f:Nat→Option β) (h:Nat → β → Value),(∀ k,f k=none)→∃ ks,MapAt (freshW wr s) wr.heap.size idV ks fun k=>(f k).map (h k):=fun f h hf=>
  ⟨[],by
   have:=(((MapAt.made wr idV).fr (a1 _ (.map #[] 0)) (fun x=>x)).fr (a1 _ (.map #[] 0)) (fun x=>x)).fr (a1 _ (.cells (freshG wr.heap.size s).cells 268)) (fun x=>x)
   have ee:(fun k=>(f k).map (h k))=fun _=>none:=by funext k;rw [hf];rfl
   rw [ee];exact this⟩
 refine { ha:=?_,regs:=own_le (own_fr hown (freshW_fr wr s) (fun _ _ x=>x)) (Nat.zero_le _),prio:=m1 (fun _=>none) (fun _ p=>.int .i64 p) (fun _=>rfl),al:=?_,edges:=own_nil _ _ _ _,elen:=rfl,eat:=fun k b e h1=>by simp [freshG] at h1,poss:=?_,ne1:=?_,ne2:=?_,ne3:=?_,pa:=?_,pp:=?_,pl:=?_,pq:=?_,pr:=fun c hc=>⟨Nat.le_trans hB (own_base hown c hc),by have:=own_lt hown c hc;omega⟩,ps:=fun c hc=>by (cases hc),pe:=fun b hb=>by (cases hb),lt:=fun c hc=>hc.2 }
 ·have:=heap_alloc_new (((wr.alloc (.map #[] 0)).alloc (.map #[] 0)).alloc (.map #[] 0)) (.cells (freshG wr.heap.size s).cells 268)
  rw [e3] at this
  exact this
 ·refine ⟨[],?_⟩
  have:=((MapAt.made (wr.alloc (.map #[] 0)) idV).fr (a1 _ (.map #[] 0)) (fun x=>x)).fr (a1 _ (.cells (freshG wr.heap.size s).cells 268)) (fun x=>x)
  rw [e1] at this
  exact this
 ·refine ⟨[],fun _=>⟨none,0,0⟩,?_,fun k l e=>by (cases e)⟩
  have:=(MapAt.made ((wr.alloc (.map #[] 0)).alloc (.map #[] 0)) idV).fr (a1 _ (.cells (freshG wr.heap.size s).cells 268)) (fun x=>x)
  rw [e2] at this
  exact this
 all_goals (simp only [freshG,newer];omega)
def GivesNA (w:World) (S:List Nat) (e:Ending) (w':World):Prop:=
 Fr nope w w'∧((S=[]∧∃ T v,e = .returned (.tuple #[.pointer none,.iface T v])) ∨
  ∃ (g:AlG) (ids ys:List Nat),ids.Nodup∧(∀ k,k∈ids↔k∈S)∧SortedOf (ltP fun _=>none) ids ys∧e = .returned (.tuple #[ptr g.a,.nilIface])∧AlAt w' (newer w w') ⟨ys,fun _=>none,fun _=>none,[],fun _=>none⟩ g)
set_option maxHeartbeats 2000000 in
theorem NewAlloc_calls (w:World) (A:Option Addr) (c:Nat) (rs:List R) (hR:RegsAt w A rs) (hv:∀ r∈rs,r.virt=false) (hl:rs.length≤1000):
  Calls Tryz.prog 136 #[.slice A rs.length c] w (GivesNA w (freeIds rs)):=by
 have hmm:=@run_makeMap Tryz.prog
 go_enter Tryz.func136,Tryz.ntmps136
 go_wp2
 go_loopg [13] rs.length (fun n c13 wr=>∃ k:Nat,k≤rs.length∧c13 = .int .i64 (k:Int)∧SetAt wr w.heap.size (freeIds (rs.take k))∧Fr nope w wr∧n=rs.length - k)
 case atStart=>exact ⟨0,Nat.zero_le _,rfl,⟨[],by simpa [freeIds] using MapAt.made w idV⟩,(Fr.refl _ _).alloc _,rfl⟩
 case round=>
  obtain ⟨k,hk,rfl,hM,hf,rfl⟩:=hrel
  by_cases hlt:k < rs.length
  ·obtain ⟨b,off,r,rfl,hbl,hrk,hc,ok,hat⟩:=(hR.nope hf).at_ hlt
   have hrv:=hv r (List.mem_of_getElem? hrk)
   have hT:=Lib.hid (freeIds_take hrk)
   have ha:Go.bits .and .u8 (r.info:Int) 2=((r.info &&& 2:Nat):Int):=u8_and r.info 2 ok.info (by omega)
   obtain ⟨m,hm⟩:∃ m,r.info &&& 2=m:=⟨_,rfl⟩
   rw [hm] at ha hT
   replace hm:=Lib.hid hm
   have hML:w.heap.size < wr.heap.size:=by obtain ⟨_,hh⟩:=hM;exact hh.lt
   clear hrk
   by_cases hz:m=0
   ·subst hz
    go_wp2_with (first
     | (refine wpList_Info rfl rfl rfl hrv ?_;intro w1 hf1)
     | (refine wpList_ID rfl rfl rfl ok (hat.nope hf1) ?_;intro w2 hf2;obtain ⟨w3,hu,hM3,hf3,hs3⟩:=((hM.fr hf1 (fun x=>x)).fr hf2 (fun x=>x)).put r.id;replace hs3:=Lib.hid hs3))
    go_roundg (rs.length - (k+1))
    case measure=>omega
    case rel=>exact ⟨k+1,by omega,by go_num,by rw [hT.out];simpa using hM3,((hf.then hf1).then hf2).then_new hf3 (fun x hx e=>by omega),rfl⟩
   ·have hzz:((m:Int) == 0)=false:=by rw [beq_eq_false_iff_ne];omega
    go_wp2_with (refine wpList_Info rfl rfl rfl hrv ?_;intro w1 hf1)
    go_roundg (rs.length - (k+1))
    case measure=>omega
    case rel=>exact ⟨k+1,by omega,by go_num,by rw [hT.out];simpa [hz] using hM.fr hf1 (fun x=>x),hf.then hf1,rfl⟩
  ·obtain rfl:k=rs.length:=by omega
   rw [List.take_length] at hM
   have hML:w.heap.size < wr.heap.size:=by obtain ⟨_,hh⟩:=hM;exact hh.lt
   generalize hS:freeIds rs=S at hM
   replace hS:=Lib.hid hS
   obtain ⟨ks,hM⟩:=hM
   have hks:∀ k,k∈ks↔k∈S:=fun k=>by rw [hM.mem_iff];by_cases h:k∈S<;>simp [h]
   have hlen:=fun ty=>hM.len setT ty
   have hknd:=hM.nodup
   cases hke:ks with
   | nil=>
    subst hke
    have hSn:S=[]:=by
     cases S with
     | nil=>rfl
     | cons a l=>have:=(hks a).2 (by simp);cases this
    subst hSn
    clear hks
    simp only [List.length_nil] at hlen
    go_wp2_with (go_at_call 83;refine (errorsNew_calls _ _).mono ?_;rintro e w4 ⟨rfl,hf4⟩)
    go_ret2
    exact ⟨hf.then hf4,.inl ⟨hS.out,_,_,rfl⟩⟩
   | cons k0 kl=>
    have hk0:ks≠[]:=by rw [hke];simp
    have hlz:((ks.length:Int) == 0)=false:=by rw [beq_eq_false_iff_ne];have:=List.length_pos_iff.2 hk0;omega
    clear hke k0 kl
    go_wp2_with (refine wpList_rangeO rfl rfl rfl (show MapO wr (some w.heap.size) idV ks _ from hM) idInj setT ?_;intro w0 hrg0 hf0 hs0)
    go_frame
    have hI0:KInv ks ks []:=⟨hknd,List.nodup_nil,by simp,by simp⟩
    have hwr:wr.heap.size≤w0.heap.size:=hf0.size
    obtain ⟨wo,rfl⟩:∃ wo:World,wo=wr:=⟨_,rfl⟩
    replace hs0:=Lib.hid hs0
    replace hmm:=Lib.hid hmm
    clear hlen hlz
    go_loopg [7] ks.length (fun n c7 wr=>∃ (todo D:List Nat),RangeO wr wo.heap.size (some w.heap.size) idV ks (fun k=>if k∈S then some (.bool true) else none) todo∧wr.ownsRow w0.heap.size 208 1 c7 D.length (D.map idV)∧KInv ks todo D∧Fr (fun b=>b=wo.heap.size) w0 wr∧todo.length=n)
    case atStart=>exact ⟨ks,[],hrg0,by simpa using own_nil _ _ _ _,hI0,Fr.refl _ _,rfl⟩
    case round=>
     obtain ⟨todo,D,hrg,hown,hI,hfq,rfl⟩:=hrel
     go_wp2_with (refine wpList_nextO rfl rfl rfl hrg idInj ?_ ?_)
     ·intro h00
      subst h00
      have hmem:∀ k,k∈D↔k∈S:=fun k=>by rw [← hks,hI.mem];simp
      have hdn:=hI.dn
      have hw0:Fr nope w wr:=(hf.then hf0).then_new hfq (fun x hx e=>by have:=hf.size;omega)
      obtain ⟨A7,c7',rfl,_,_⟩:=own_slice hown
      have hDl:D.length≤1000:=by
       have h1:=nodup_le (m:=S) hI.dn (fun x hx=>(hmem x).1 hx)
       have h2:(freeIds rs).length≤rs.length:=by unfold freeIds;rw [List.length_map];exact List.length_filter_le _ _
       rw [hS.out] at h2
       omega
      have hbase:=own_base hown
      have hs00:=hs0.out
      have hq0:=hfq.size
      have hww:=hf.size
      replace hs0:=Lib.hid hs0
      replace hmm:=hmm.out
      clear hI hrg hks
      go_wp2_with (go_at_call 109;refine (NewEmptyAl_calls _).mono ?_;rintro e w5 ⟨rfl,rfl⟩)
      have hF:AlAt (freshW wr ⟨A7,D.length,c7'⟩) _ _ _:=AlAt.fresh (w:=w) (B:=w0.heap.size) hown (by omega) (by omega)
      have hS1:=sortregs_calls _ _ _ _ hF (fun _=>rfl) (by show D.length < 4611686018427387904;omega)
      refine hS1.mono ?_
      rintro e w6 ⟨rfl,ys,hys,h6,hf6⟩
      go_wp2
      go_ret2
      have hf66:Fr nope w w6:=(hw0.then (freshW_fr wr _)).then_new hf6 (fun x hx hn=>by have:=hn.1;omega)
      exact ⟨hf66,.inr ⟨_,D,ys,hdn,fun k=>by rw [hS.out];exact hmem k,hys,rfl,h6.more (fun c hc=>⟨hc.1,Nat.lt_of_lt_of_le hc.2 hf6.size⟩) (fun c hc=>hc.2)⟩⟩
     ·intro k v w1 hkt hkk hv' hrg1 hf1 hs1 hen
      have hI1:=hI.step hkt
      have hlen:(todo.erase k).length < todo.length:=by rw [List.length_erase_of_mem hkt];have:=List.length_pos_of_mem hkt;omega
      unfold idV at hen
      have hDl:D.length≤1000:=by
       have h1:=nodup_le (m:=S) hI.dn (fun x hx=>(hks x).1 ((hI.mem x).2 (.inl hx)))
       have h2:(freeIds rs).length≤rs.length:=by unfold freeIds;rw [List.length_map];exact List.length_filter_le _ _
       rw [hS.out] at h2
       omega
      have hown1:=own_fr hown hf1 (fun b hb e=>by have:=own_base hown b hb;have:=hs0.out;omega)
      have hs01:=hfq.size
      have hf01:Fr (fun b=>b=wo.heap.size) w0 w1:=hfq.then hf1
      replace hs1:=Lib.hid hs1
      clear hv'
      go_wp2_with (refine wpList_app (v:=u7) rfl rfl Tryz.underlying263 infoID rfl (by omega) rfl (own_fr hown1 ((Fr.refl nope _).alloc _) (fun _ _ x=>x)) rfl (news:=[idV k]) rfl (one_new _ _ _ _ (by simp)) (by simp [Value.oneCell',idV]) (by simp only [maxLen];omega) (by omega) (by have:=hf01.size;simp;omega) ?_;intro v3 w3 hown3 hf3 _)
      go_roundg (todo.erase k).length
      case measure=>exact hlen
      case rel=>
       have hs00:=hs0.out
       have hs11:=hs1.out
       refine ⟨_,D ++ [k],(hrg1.fr ((Fr.refl nope w1).alloc _) (fun x=>x) (fun _ _ x=>x)).fr hf3 (fun e=>by have:=own_base hown _ e;omega) (fun b hb e=>by injection hb with hb;subst hb;have:=own_base hown _ e;omega),by rw [List.map_append,List.length_append];exact hown3,hI1,(hf01.alloc _).then_new hf3 (fun x hx e=>by have:=own_base hown x e;omega),rfl⟩
end
section
open Go Go.RowKit Go.MapKept Bth
set_option maxRecDepth 100000
def freeK (k:Nat):List Nat:=freeIds (famRegs 0 k)
theorem freeIds_fb (fb k:Nat):freeIds (famRegs fb k)=freeK k:=by
 have key:∀ (j:Nat) (l:List (String × Ent)),freeIds (regsF fb j l)=freeIds (regsF 0 j l):=by
  intro j l
  unfold freeIds regsF
  rw [List.filter_map,List.filter_map,List.map_map,List.map_map]
  rfl
 unfold freeK famRegs
 split<;>exact key _ _
def bpIds (rs:List R):List Nat:=(rs.filter fun r=>r.info &&& 4 != 0).map R.id
theorem bpIds_fb (fb k:Nat):bpIds (famRegs fb k)=bpIds (famRegs 0 k):=by
 have key:∀ (j:Nat) (l:List (String × Ent)),bpIds (regsF fb j l)=bpIds (regsF 0 j l):=by
  intro j l
  unfold bpIds regsF
  rw [List.filter_map,List.filter_map,List.map_map,List.map_map]
  rfl
 unfold famRegs
 split<;>exact key _ _
theorem bpIds_take {rs:List R} {k:Nat} {r:R} (h:rs[k]? = some r):bpIds (rs.take (k+1))=bpIds (rs.take k) ++ if r.info &&& 4=0 then [] else [r.id]:=by
 unfold bpIds
 rw [List.take_add_one,h,List.filter_append,List.map_append]
 congr 1
 by_cases hi:r.info &&& 4=0<;>simp [hi]
def prs (l:List Nat):Nat→Option Int:=l.foldl (fun f id=>setPr f id (-1)) fun _=>none
theorem prs_snoc (l:List Nat) (id:Nat):prs (l ++ [id])=setPr (prs l) id (-1):=by simp [prs]
def prK (k:Nat):Nat→Option Int:=prs (bpIds (famRegs 0 k))
def regsK (k:Nat):List Nat:=
 match k with
 | 0=>[0]
 | 1=>[0,1,2,3,6,7,8,9,10,11,12,13,14,15,5].map fun i=>256+i*65536
 | 2=>(List.range 32).map fun i=>512+i*65536
 | 3=>[1,2,3,4,5,6,7].map fun i=>768+i*65536
 | _=>[]
theorem regsK_facts:∀ k,k < 4→(∀ r∈regsK k,r∈freeK k)∧(∀ r∈freeK k,r∈regsK k)∧(regsK k).Nodup∧(regsK k).Pairwise (fun a b=>ltP (prK k) b a=false)∧(∀ r∈regsK k,isV r=false∧r < 4294967296∧kindOf r=k)∧(regsK k).length < 100∧(freeK k).length≠0:=by
 decide +kernel
theorem regsK_of {k:Nat} (hk:k≤3) {ids ys:List Nat} (hn:ids.Nodup) (hm:∀ x,x∈ids↔x∈freeK k) (h:SortedOf (ltP (prK k)) ids ys):ys=regsK k:=by
 obtain ⟨h1,h2,h3,h4,_⟩:=regsK_facts k (by omega)
 have hp:ys.Perm (regsK k):=h.1.trans ((List.perm_ext_iff_of_nodup hn h3).2 fun a=>(hm a).trans ⟨h2 a,h1 a⟩)
 refine List.Perm.eq_of_pairwise (le:=fun a b=>ltP (prK k) b a=false) (fun a b _ _ h1 h2=>?_) h.2 h4 hp
 simp [ltP] at h1 h2
 omega
def NewK (k:Nat) (x:Al):Prop:=∃ ids,ids.Nodup∧(∀ j,j∈ids↔j∈freeK k)∧SortedOf (ltP x.prio) ids x.regs∧x.al=(fun _=>none)∧x.edges=[]∧x.poss=fun _=>none
def GivesNK (w:World) (k:Nat) (e:Ending) (w':World):Prop:=
 Fr nope w w'∧∃ (g:AlG) (x:Al),NewK k x∧x.prio=(fun _=>none)∧e = .returned (.tuple #[ptr g.a,.nilIface])∧AlAt w' (newer w w') x g
theorem newer_mono {w w1 w2:World} (h1:w.heap.size≤w1.heap.size):∀ c,newer w1 w2 c→newer w w2 c:=fun _ hc=>⟨Nat.le_trans h1 hc.1,hc.2⟩
theorem NewAllocK_calls (w:World) (k:Nat) (hk:k≤3):
  Calls Tryz.prog 101 #[.int .u8 (k:Int)] w (GivesNK w k):=by
 go_enter Tryz.func101,Tryz.ntmps101
 go_wp2_with (go_at_call 102;refine (FamilyOfKind_calls _ k hk).mono ?_;rintro e w1 ⟨rfl,v,hF,hO,hf1⟩)
 refine (Registers_fam_calls w1 w.heap.size k v _ (famRegs w.heap.size k) hF hO (by have:=famRegs_len w.heap.size k;omega)).mono ?_
 rintro e w2 ⟨u,rfl,hu,hf2⟩
 rw [List.length_map] at hu
 obtain ⟨A,c,rfl,_,_⟩:=own_slice hu
 go_wp2_with fail
 have hreg:=famRegs_ok (fb:=w.heap.size) hk
 refine (NewAlloc_calls w2 A c (famRegs w.heap.size k) ⟨own_Sl hu,fun r hr=>?_⟩ (fun r hr=>(hreg r hr).1) (by have:=famRegs_len w.heap.size k;omega)).mono ?_
 ·obtain ⟨h1,h2,h3,h4⟩:=hreg r hr
  exact ⟨h4,(hF.reg r h2 h3).nope hf2⟩
 ·rintro e w3 ⟨hf3,⟨h0,_⟩ | ⟨g,ids,ys,h1,h2,h3,rfl,h4⟩⟩
  ·rw [freeIds_fb] at h0
   have:=(regsK_facts k (by omega)).2.2.2.2.2.2
   rw [h0] at this
   exact absurd rfl this
  ·rw [freeIds_fb] at h2
   go_wp2
   go_ret2
   have hw2:=hf1.then hf2
   exact ⟨hw2.then hf3,g,_,⟨ids,h1,h2,h3,rfl,rfl,rfl⟩,rfl,rfl,h4.more (newer_mono hw2.size) (fun c hc=>hc.2)⟩
end
end Go.Proofs.YtjlfkgjmgghhiaaGreat
