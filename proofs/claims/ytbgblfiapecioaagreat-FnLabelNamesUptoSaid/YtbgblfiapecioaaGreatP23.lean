/- Part of the proof of a statement about pub-berthage: what its texts have in common. -/
import Derived.Deep.QuietTactic
import Derived.BigQuiet
import Derived.Test.YtbgblfiapecioaaGreatP11
import Derived.Test.YtbgblfiapecioaaGreatP16
import Derived.Test.YtbgblfiapecioaaGreatP19
import Derived.Test.YtbgblfiapecioaaGreatP20
import Derived.Test.YtbgblfiapecioaaGreatP21
namespace Go.Proofs.YtbgblfiapecioaaGreat
section
open Go Go.RowKit Go.MapKept Go.Lib Go.Sort Bth
set_option maxRecDepth 100000
noncomputable def pairsT:TypeInfo:=(Tryz.prog.info? 32).get (by kernel_rfl)
noncomputable def pairT:TypeInfo:=(Tryz.prog.info? 100).get (by kernel_rfl)
theorem pairK (n:Nat) (h2:2≤n):Lib.swapperK n pairT 25=5:=by
 have a:pairT.hasPointers=false:=by kernel_rfl
 have b:pairT.bytes=8:=by kernel_rfl
 have c:(n == 0)=false:=by simp;omega
 have d:(n == 1)=false:=by simp;omega
 simp [Lib.swapperK,a,b,c,d]
def pairV (p:Nat × Nat):List Value:=[idV p.1,idV p.2]
def ltPair (a b:Nat × Nat):Bool:=decide (a.1 < b.1)
theorem swo_ltPair:SWO ltPair where
 irrefl x:=by simp [ltPair]
 trans x y z h1 h2:=by simp [ltPair] at *;omega
 ntrans x y z h1 h2:=by simp [ltPair] at *;omega
def LessOwnP (g:FuncId) (lb:Array Value) (w:World) (base b c n:Nat):Prop:=
 ∀ (W:World) (ys:List (Nat × Nat)),Fr (fun x=>x=b) w W→ys.length=n→W.ownsRow base 100 2 (.slice (some ⟨b,0,none⟩) n c) n (ys.flatMap pairV)→∀ i j:Nat,i < n→j < n →
  Calls Tryz.prog g (#[.int .i64 i,.int .i64 j] ++ lb) W fun e w'=>e = .returned (.bool (ltPair (ys.getD i default) (ys.getD j default)))∧∃ q,w'=W.drewN q
def GivesSortedP (w:World) (base:Nat) (v:Value) (xs:List (Nat × Nat)) (e:Ending) (w':World):Prop:=
 e = .returned (.tuple #[])∧∃ ys,SortedOf ltPair xs ys∧w'.ownsRow base 100 2 v xs.length (ys.flatMap pairV)∧Fr (fun b=>v.ownBlock=some b) w w'
theorem sortPairs_calls (w:World) (base:Nat) (A:Option Addr) (c:Nat) (xs:List (Nat × Nat)) (hown:w.ownsRow base 100 2 (.slice A xs.length c) xs.length (xs.flatMap pairV)) (g:FuncId) (lb:Array Value) (eg:∀ args w,(callFunc g args).run Tryz.prog w = .ok (.enter g args) w)
  (hless:∀ b,A=some ⟨b,0,none⟩→LessOwnP g lb w base b c xs.length) (hsz:xs.length < 4611686018427387904):
  Calls Tryz.prog 91 #[.iface 32 (.slice A xs.length c),.func (.func g) #[] lb] w (GivesSortedP w base (.slice A xs.length c) xs):=by
 have hk2:∀ x:Nat × Nat,(pairV x).length=2:=fun _=>rfl
 by_cases h2:2≤xs.length
 ·obtain ⟨b,rfl,hb,_⟩:=own_cells hown (by omega)
  have hS:=Any.sort_Slice_cells_sorted sl6 32 100 pairsT pairT (by kernel_rfl) (by kernel_rfl) (by kernel_rfl) (by kernel_rfl) 25 (fun _=>by kernel_rfl) pairV 2 hk2 (by kernel_rfl) (fun _=>by kernel_rfl)
   (fun x v hv=>by simp [pairV] at hv;rcases hv with rfl | rfl<;>rfl) ltPair swo_ltPair g lb eg b 0 c xs.toArray (by simpa using h2) (by simpa using hsz)
   151 (by rw [pairK _ (by simpa using h2)];kernel_rfl) true
   (fun args W=>run_callFunc_extern Tryz.func151 (by kernel_rfl) (by kernel_rfl) (by kernel_rfl) (e:=Extern.ReflectliteSwapper.swap true) (by kernel_rfl) args W) w
   (fun m os dk hs i j hi hj=>by
    have hs':dk.size=xs.length:=by simpa using hs
    have hw:=hless b rfl (sorted w b m (flatK pairV 2 dk) os) dk.toList (sorted_fr _ _ _ _ _) (by simpa using hs') (by
     have:=sorted_own (m:=m) (os:=os) (F:=flatK pairV 2 dk) hown (by simp [hs'])
     rw [flatK_list pairV 2 hk2 (by omega) dk.toList] at this
     exact this) i j (by simpa using hi) (by simpa using hj)
    have e1:∀ t,t < xs.length→dk.toList.getD t default=dk[t]!:=fun t ht=>by
     rw [getElem!_pos dk t (by omega),List.getD_eq_getElem?_getD,Array.getElem?_toList,Array.getElem?_eq_getElem (by omega)];rfl
    rw [e1 i (by simpa using hi),e1 j (by simpa using hj)] at hw
    exact hw)
   (own_holdsK hk2 (by omega) hown) hb
  have hsz2:xs.toArray.size=xs.length:=by simp
  rw [hsz2] at hS
  refine Calls.mono hS ?_
  rintro e w' ⟨rfl,d',m,os,hp,hso,rfl⟩
  obtain ⟨h3,h4⟩:=sortedOf_of (by simpa using hp) (by simpa using hso)
  refine ⟨rfl,d'.toList,h3,?_,(sorted_fr w b m _ os).mono fun x _ e=>by rw [e];rfl⟩
  have:=sorted_own (m:=m) (os:=os) (F:=flatK pairV 2 d') hown (by simp [h4])
  rw [flatK_list pairV 2 hk2 (by omega) d'.toList] at this
  exact this
 ·have h1:xs.length=0∨xs.length=1:=by omega
  rcases h1 with h1 | h1
  ·have hS:=Any.sort_Slice_tiny sl6 32 100 pairsT pairT (by kernel_rfl) (by kernel_rfl) (by kernel_rfl) (by kernel_rfl) 25 (fun _=>by kernel_rfl) A xs.length c (by omega) 147 (by rw [h1];kernel_rfl) (.func g) #[] lb w
   refine Calls.mono hS ?_
   rintro e w' ⟨rfl,os,rfl⟩
   exact ⟨rfl,xs,.tiny (by omega),own_fr hown (fr_grow w os) (fun _ _ x=>x),(fr_grow w os).of_nope⟩
  ·have hS:=Any.sort_Slice_tiny sl6 32 100 pairsT pairT (by kernel_rfl) (by kernel_rfl) (by kernel_rfl) (by kernel_rfl) 25 (fun _=>by kernel_rfl) A xs.length c (by omega) 148 (by rw [h1];kernel_rfl) (.func g) #[] lb w
   refine Calls.mono hS ?_
   rintro e w' ⟨rfl,os,rfl⟩
   exact ⟨rfl,xs,.tiny (by omega),own_fr hown (fr_grow w os) (fun _ _ x=>x),(fr_grow w os).of_nope⟩
theorem pairs_get {ys:List (Nat × Nat)} {i:Nat} {p:Nat × Nat} (h:ys[i]? = some p):(ys.flatMap pairV)[i*2]? = some (idV p.1):=by
 induction ys generalizing i with
 | nil=>simp at h
 | cons a ys ih=>
  cases i with
  | zero=>simp only [List.getElem?_cons_zero,Option.some.injEq] at h;subst h;rfl
  | succ i=>
   simp only [List.getElem?_cons_succ] at h
   rw [List.flatMap_cons,Nat.succ_mul,List.getElem?_append_right (by simp [pairV])]
   simpa [pairV] using ih h
set_option maxHeartbeats 1000000 in
theorem lessPair_calls (W:World) (Bs b n c base:Nat) (ys:List (Nat × Nat)) (hB:W.cell? ⟨Bs,0,none⟩=some (.slice (some ⟨b,0,none⟩) n c)) (hl:ys.length=n)
  (hown:W.ownsRow base 100 2 (.slice (some ⟨b,0,none⟩) n c) n (ys.flatMap pairV)) (i j:Nat) (hi:i < n) (hj:j < n):
  Calls Tryz.prog 92 #[.int .i64 i,.int .i64 j,ptr Bs] W fun e w'=>e = .returned (.bool (ltPair (ys.getD i default) (ys.getD j default)))∧∃ q,w'=W.drewN q:=by
 obtain ⟨x,hx⟩:∃ x,ys[i]? = some x:=⟨_,List.getElem?_eq_getElem (by omega)⟩
 obtain ⟨y,hy⟩:∃ y,ys[j]? = some y:=⟨_,List.getElem?_eq_getElem (by omega)⟩
 have hci:=(own_cur hown (i*2) _ (pairs_get hx)).1
 have hcj:=(own_cur hown (j*2) _ (pairs_get hy)).1
 have hxd:ys.getD i default=x:=by rw [List.getD_eq_getElem?_getD,hx];rfl
 have hyd:ys.getD j default=y:=by rw [List.getD_eq_getElem?_getD,hy];rfl
 rw [hxd,hyd]
 unfold ltPair
 unfold idV at hci hcj
 unfold ptr
 have hi':(0:Int)≤(i:Int):=by omega
 have hj':(0:Int)≤(j:Int):=by omega
 have hii:(i:Int) < (n:Int):=by omega
 have hjj:(j:Int) < (n:Int):=by omega
 clear hown hx hy hxd hyd hl
 go_enter Tryz.func92,Tryz.ntmps92
 go_wp2
 go_quiet (fail)
 go_wp2
 go_ret
 exact ⟨rfl,_,rfl⟩
end
section
open Go Go.RowKit Go.MapKept Bth
set_option maxRecDepth 100000
theorem infoPair:(Tryz.prog.info? 100).map (fun i=>(i.zero,i.size,i.bytes))=some (some (.agg #[.int .u32 0,.int .u32 0]),2,8):=by kernel_rfl
theorem cells_new (w:World) (cs:List Value) (t:TypeId) (b:Nat) (hb:b=w.heap.size):∃ ad,some (⟨b,0,none⟩:Addr)=some ad∧∀ j u,cs[j]? = some u→(w.alloc (.cells cs.toArray t)).cell? (ad.add j)=some u:=by
 subst hb
 refine ⟨_,rfl,fun j u hu=>?_⟩
 have e:(⟨w.heap.size,0,none⟩:Addr).add j=⟨w.heap.size,j,none⟩:=by unfold Addr.add;split<;>simp_all
 rw [e,cell_of_row _ _ j cs.toArray t (0,0) (heap_alloc_new w _)]
 simpa using hu
def PairsOf (f:Nat→Option Nat) (l:List (Nat × Nat)):Prop:=(∀ p,p∈l↔f p.1=some p.2)∧l.Pairwise fun a b=>a.1 < b.1
def GivesPairs (w:World) (f:Nat→Option Nat) (e:Ending) (w':World):Prop:=
 Fr nope w w'∧∃ (A:Option Addr) (c:Nat) (l:List (Nat × Nat)),PairsOf f l∧e = .returned (.slice A l.length c)∧w'.ownsRow w.heap.size 100 2 (.slice A l.length c) l.length (l.flatMap pairV)
def prOf (f:Nat→Option Nat) (k:Nat):Nat × Nat:=(k,(f k).getD 0)
def imgP (f:Nat→Option Nat) (k:Nat):Option Value:=(f k).map idV
theorem pairs_of {f:Nat→Option Nat} {ks D ys:List Nat} {l:List (Nat × Nat)} (hk:∀ k,k∈D↔f k≠none) (hn:D.Nodup) (h:SortedOf ltPair (D.map (prOf f)) l) (_:ks=ys):PairsOf f l:=by
 obtain ⟨hp,hs⟩:=h
 refine ⟨fun p=>?_,?_⟩
 ·rw [hp.mem_iff,List.mem_map]
  constructor
  ·rintro ⟨k,hkD,rfl⟩
   have:=(hk k).1 hkD
   unfold prOf
   cases hf:f k with
   | none=>exact absurd hf this
   | some v=>simp
  ·intro h
   exact ⟨p.1,(hk _).2 (by rw [h];simp),by unfold prOf;rw [h];rfl⟩
 ·have hnd:(l.map (·.1)).Nodup:=by
   have h1:((D.map (prOf f)).map (·.1)).Nodup:=by
    rw [List.map_map]
    have:(fun x:Nat × Nat=>x.1) ∘ prOf f=id:=by funext k;rfl
    rw [this,List.map_id]
    exact hn
   exact (hp.map _).nodup_iff.2 h1
  have hnd2:l.Pairwise fun a b=>a.1≠b.1:=by
   have:=List.pairwise_map.1 (show (l.map (·.1)).Pairwise (· ≠ ·) from hnd)
   exact this
  refine (hs.and hnd2).imp fun {a b} hab=>?_
  have:=hab.1
  simp only [ltPair,decide_eq_false_iff_not] at this
  omega
set_option maxHeartbeats 2000000 in
theorem plainAlloc_calls (w:World) (b:Nat) (f:Nat→Option Nat) (hb:IdMap w b f) (n:Nat) (hfew:∀ D:List Nat,D.Nodup→(∀ k∈D,f k≠none)→D.length≤n) (hn:n≤1000000000):
  Calls Tryz.prog 47 #[.map (some b)] w (GivesPairs w f):=by
 obtain ⟨ks,hM⟩:=hb
 have hO:MapO w (some b) idV ks (imgP f):=hM
 have hks:∀ k,k∈ks↔f k≠none:=fun k=>by rw [hM.mem_iff];cases f k<;>simp
 have hnd:=hM.nodup
 have hbl:=hM.lt
 replace hks:=Lib.hid hks
 clear hM
 go_enter Tryz.func47,Tryz.ntmps47
 go_wp2_with (refine wpList_rangeO rfl rfl rfl (MapO.fr hO ((Fr.refl nope w).alloc _) (fun _ _ x=>x)) idInj allocT ?_;intro w0 hrg0 hf0 hs0)
 go_frame
 have hBs0:w0.heap[w.heap.size]? = some (.cells #[.slice none 0 0] 32 (0,0)):=hf0.heap (heap_alloc_new w _) (fun x=>x)
 have hs00:w0.heap.size=w.heap.size+2:=by rw [hs0];simp
 have e1:(w.alloc (Obj.cells #[Value.slice none 0 0] 32)).heap.size=w.heap.size+1:=by simp
 have hfw0:Fr nope w w0:=((Fr.refl nope w).alloc _).then hf0
 rw [e1] at hrg0
 try rw [e1]
 replace e1:=Lib.hid e1
 replace hs0:=Lib.hid hs0
 go_loopg [] ks.length (fun n wr=>∃ (todo D:List Nat) (A:Option Addr) (c:Nat),RangeO wr (w.heap.size+1) (some b) idV ks (imgP f) todo∧wr.heap[w.heap.size]? = some (.cells #[.slice A D.length c] 32 (0,0))∧wr.ownsRow (w.heap.size+2) 100 2 (.slice A D.length c) D.length ((D.map (prOf f)).flatMap pairV)∧KInv ks todo D∧Fr nope w wr∧w.heap.size+2≤wr.heap.size∧todo.length=n)
 case atStart=>exact ⟨ks,[],none,0,hrg0,hBs0,own_nil _ _ _ _,⟨hnd,List.nodup_nil,by simp,by simp⟩,hfw0,Nat.le_of_eq hs00.symm,rfl⟩
 case round=>
  obtain ⟨todo,D,A,c,hrg,hBs,hown,hI,hf,hsz,rfl⟩:=hrel
  have hBl:=lt_of_heap hBs
  have hDn:D.length≤n:=hfew D hI.dn fun k hk=>(hks.out k).1 ((hI.mem k).2 (.inl hk))
  go_wp2_with (refine wpList_nextO rfl rfl rfl hrg idInj ?_ ?_)
  ·intro h0
   subst h0
   have hDk:∀ k,k∈D↔f k≠none:=fun k=>by rw [← hks.out,hI.mem];simp
   have hdn:=hI.dn
   have hcB:wr.cell? ⟨w.heap.size,0,none⟩=some (.slice A D.length c):=by rw [cell_of_row wr _ 0 _ _ (0,0) hBs];rfl
   have hlm:(D.map (prOf f)).length=D.length:=List.length_map ..
   have hS:=sortPairs_calls wr _ A c _ (show wr.ownsRow _ _ 2 (.slice A (D.map (prOf f)).length c) (D.map (prOf f)).length _ from by rw [hlm];exact hown) 92 #[ptr w.heap.size] (fun args w=>enters_of Tryz.func92 (by kernel_rfl) rfl args w) (fun b2 hb2=>by
    subst hb2
    intro W ys hW hl ho i j hi hj
    exact lessPair_calls W w.heap.size b2 _ c _ ys (hW.cell (by rw [hlm];exact hcB) (fun e=>by have:=own_base hown b2 rfl;have e':w.heap.size=b2:=e;omega)) hl ho i j hi hj) (by rw [hlm];omega)
   rw [hlm] at hS
   have hne:∀ b2,Value.ownBlock (.slice A D.length c)=some b2→w.heap.size+2≤b2:=own_base hown
   replace hDk:=Lib.hid hDk
   replace hne:=Lib.hid hne
   unfold ptr at hS
   replace hlm:=Lib.hid hlm
   clear hI hrg
   go_wp2_with fail
   refine hS.mono ?_
   rintro e w5 ⟨rfl,ys,hys,ho5,hf5⟩
   have hB5:=hf5.heap hBs (fun e=>by have:=hne.out _ e;omega)
   have hc5:w5.cell? ⟨w.heap.size,0,none⟩=some (.slice A D.length c):=by rw [cell_of_row w5 _ 0 _ _ (0,0) hB5];rfl
   have hB5l:=lt_of_heap hB5
   have hyl:=hys.1.length_eq
   rw [hlm.out] at hyl ho5
   replace hyl:=Lib.hid hyl
   go_wp2
   go_ret
   refine ⟨hf.then_new hf5 (fun c hc e=>by have:=hne.out _ e;omega),A,c,ys,pairs_of (ks:=ks) (ys:=ks) hDk.out hdn hys rfl,?_,?_⟩
   ·rw [hyl.out];rfl
   ·rw [hyl.out];exact own_le ho5 (by omega)
  ·intro k v w1 hkt hkk hv hrg1 hf1 hs1 hen
   obtain ⟨p,hp,rfl⟩:∃ p,f k=some p∧v=idV p:=by
    unfold imgP at hv
    obtain ⟨p,h1,h2⟩:=Option.map_eq_some_iff.1 hv
    exact ⟨p,h1,h2.symm⟩
   have hI1:=hI.step hkt
   have hlen:(todo.erase k).length < todo.length:=by rw [List.length_erase_of_mem hkt];have:=List.length_pos_of_mem hkt;omega
   have hB1:=hf1.heap hBs (by omega)
   have hc1:w1.cell? ⟨w.heap.size,0,none⟩=some (.slice A D.length c):=by rw [cell_of_row w1 _ 0 _ _ (0,0) hB1];rfl
   have hB1l:=lt_of_heap hB1
   have hown1:=own_fr hown hf1 (fun b hb e=>by have:=own_base hown b hb;omega)
   have hpr:prOf f k=(k,p):=by unfold prOf;rw [hp];rfl
   have hf01:Fr nope w w1:=hf.then_new hf1 (fun c hc e=>by omega)
   have hs1':wr.heap.size≤w1.heap.size:=Nat.le_of_eq hs1.symm
   replace hs1:=Lib.hid hs1
   replace hp:=Lib.hid hp
   replace hpr:=Lib.hid hpr
   clear hv hrg hBs
   unfold idV at hen
   go_wp2_with (refine wpList_app (v:=.slice A D.length c) rfl rfl Tryz.underlying32 infoPair rfl (by omega) rfl (own_fr hown1 ((Fr.refl nope _).alloc _) (fun _ _ x=>x)) rfl (news:=pairV (k,p)) rfl (fun _=>cells_new _ _ _ _ (by simp)) (by simp [Value.oneCell',pairV,idV]) (by simp only [maxLen];omega) (by omega) (by simp;omega) ?hk)
   case hk=>
    intro v3 w3 hown3 hf3 hb3
    obtain ⟨A3,c3,rfl,_,_⟩:=own_slice hown3
    have hnb:¬Value.ownBlock (.slice A D.length c)=some w.heap.size:=fun e=>by have:=own_base hown _ e;omega
    have hB3:=hf3.heap (((Fr.refl nope w1).alloc _).heap hB1 (fun x=>x)) hnb
    have hc3':w3.cell? ⟨w.heap.size,0,none⟩=some (.slice A D.length c):=by rw [cell_of_row w3 _ 0 _ _ (0,0) hB3];rfl
    have hz3:=frozen_row hB3 0
    have hB3l:=lt_of_heap hB3
    replace hb3:=Lib.hid hb3
    go_wp2
    have hst:Fr (fun x=>x=w.heap.size) w3 (w3.setCell ⟨w.heap.size,0,none⟩ (.slice A3 (D.length+1) c3)):=(Fr.refl (fun x=>x=w.heap.size) w3).setCell (.inl rfl) _
    go_roundg (todo.erase k).length
    case measure=>exact hlen
    case rel=>
     have hsz3:=hf3.size
     simp at hsz3
     have hs4:(w3.setCell ⟨w.heap.size,0,none⟩ (.slice A3 (D.length+1) c3)).heap.size=w3.heap.size:=by simp [World.setCell]
     have hl3:∀ x,Value.ownBlock (.slice A3 (D.length+1) c3)=some x→w.heap.size+2≤x:=own_base hown3
     refine ⟨_,D ++ [k],A3,c3,((hrg1.fr ((Fr.refl nope w1).alloc _) (fun x=>x) (fun _ _ x=>x)).fr hf3 (fun e=>by have:=own_base hown _ e;omega) (fun b2 hb2 e=>by injection hb2 with hb2;subst hb2;have:=own_base hown _ e;omega)).fr hst (by omega) (fun b2 hb2 e=>by injection hb2 with hb2;omega),?_,?_,hI1,?_,by omega,rfl⟩
     ·rw [List.length_append];exact setCell_heap hB3 _
     ·rw [List.length_append,List.map_append,List.flatMap_append]
      refine own_fr ?_ hst (fun x hx e=>by have:=hl3 x (by simpa using hx);omega)
      simp only [List.map_cons,List.map_nil,hpr.out,List.flatMap_cons,List.flatMap_nil,List.append_nil,List.length_singleton]
      exact hown3
     ·exact (((hf01.alloc _).then_new hf3 (fun x hx e=>by have:=own_base hown _ e;omega))).then_new hst (fun x hx e=>by omega)
end
section
open Go Go.RowKit Bth
set_option maxRecDepth 100000
def G.id (g:G):Nat:=(if g.virt then 1 else 0)+g.kind*256+g.idx*65536
theorem R.id_plain (r:R):r.id=r.plain.id:=rfl
def PO.gs (p:PO):List G:=if p.kind=1 then [p.reg] else if p.kind=2 then (if p.hasBase then [p.base] else []) ++ (if p.hasIndex then [p.index] else []) else []
def gsOf (ps:List PO):List G:=ps.flatMap PO.gs
def PO.asG (p:PO):Option G:=if p.kind=1 then some p.reg else none
def outGs (ps:List PO):List G:=ps.filterMap PO.asG
def inGs (canc:Bool) (ins outs:List PO):List G:=
 (match canc,gsOf ins with
  | true,g :: g' :: l=>if g=g' then [] else g :: g' :: l
  | _,l=>l) ++ gsOf (outs.filter fun p=>p.kind == 2)
theorem WAt.plain {w:World} {wb:Nat} {fs:Nat→Option Nat} (h:WAt w wb fs) {g:G} (hg:g.Ok) {r:R} (hr:regOf fs g=some r):r.plain=g:=by
 obtain ⟨h1,h2,h3,h4,_⟩:=h.reg hg hr
 unfold R.plain
 rw [h1,h2,h3,h4]
theorem opOf_regs {w:World} {wb:Nat} {fs:Nat→Option Nat} (h:WAt w wb fs) {p:PO} (hp:p.Ok) {o:O} (ho:opOf fs p=some o):(o.regs.map R.plain=p.gs)∧(o.asReg.map R.plain=p.asG)∧(o.isMem=(p.kind == 2))∧∀ r∈o.regs,∃ g∈p.gs,regOf fs g=some r:=by
 unfold opOf at ho
 split at ho
 ·rename_i h1
  obtain ⟨r,hr,rfl⟩:=Option.map_eq_some_iff.1 ho
  have e:=h.plain hp.reg hr
  refine ⟨?_,?_,?_,?_⟩
  ·simp [O.regs,PO.gs,h1,e]
  ·simp [O.asReg,PO.asG,h1,e]
  ·simp [O.isMem,h1]
  ·intro r' hr'
   obtain rfl:r'=r:=by simpa [O.regs] using hr'
   exact ⟨p.reg,by simp [PO.gs,h1],hr⟩
 rename_i h1
 split at ho
 ·rename_i h2
  obtain ⟨m,hm,rfl⟩:=Option.map_eq_some_iff.1 ho
  obtain ⟨_,b,i,hb,hi,rfl⟩:=memOf_parts hm
  have key:∀ {has:Bool} {g:G} {x:Option R},g.Ok→optReg fs has g=some x→x.toList.map R.plain=(if has then [g] else [])∧∀ r∈x.toList,regOf fs g=some r∧has=true:=by
   intro has g x hg hx
   unfold optReg at hx
   split at hx
   ·rename_i hh
    obtain ⟨r,hr,rfl⟩:=Option.map_eq_some_iff.1 hx
    exact ⟨by simp [hh,h.plain hg hr],by simp [hr,hh]⟩
   ·rename_i hh
    injection hx with hx
    subst hx
    exact ⟨by simp [hh],by simp⟩
  obtain ⟨kb,kb2⟩:=key hp.base hb
  obtain ⟨ki,ki2⟩:=key hp.index hi
  refine ⟨?_,?_,?_,?_⟩
  ·unfold PO.gs
   rw [if_neg h1,if_pos h2]
   simp only [O.regs,M.regs,List.map_append,kb,ki]
  ·simp [O.asReg,PO.asG,h1]
  ·simp [O.isMem,h2]
  ·intro r hr
   simp only [O.regs,M.regs,List.mem_append] at hr
   rcases hr with hr | hr
   ·obtain ⟨e1,e2⟩:=kb2 r hr
    exact ⟨p.base,by simp [PO.gs,h2,e2],e1⟩
   ·obtain ⟨e1,e2⟩:=ki2 r hr
    exact ⟨p.index,by simp [PO.gs,h2,e2],e1⟩
 rename_i h2
 have hno:p.gs=[]∧p.asG=none∧(p.kind == 2)=false:=by simp [PO.gs,PO.asG,h1,h2]
 rw [hno.1,hno.2.1,hno.2.2]
 split at ho
 ·obtain ⟨c,hc,rfl⟩:=Option.map_eq_some_iff.1 ho
  exact ⟨rfl,rfl,rfl,by simp [O.regs]⟩
 split at ho
 ·injection ho with ho;subst ho;exact ⟨rfl,rfl,rfl,by simp [O.regs]⟩
 split at ho
 ·injection ho with ho;subst ho;exact ⟨rfl,rfl,rfl,by simp [O.regs]⟩
 ·cases ho
theorem pOps_regs {w:World} {wb:Nat} {fs:Nat→Option Nat} (h:WAt w wb fs):∀ {ps:List PO} {os:List O},(∀ p∈ps,p.Ok)→pOps fs ps=some os →
  (regsOf os).map R.plain=gsOf ps∧(outRegs os).map R.plain=outGs ps∧(regsOf (os.filter O.isMem)).map R.plain=gsOf (ps.filter fun p=>p.kind == 2)∧∀ r∈regsOf os,∃ g∈gsOf ps,regOf fs g=some r:=by
 intro ps
 induction ps with
 | nil=>
  intro os _ ho
  simp only [pOps,Option.some.injEq] at ho
  subst ho
  exact ⟨rfl,rfl,rfl,by simp [regsOf]⟩
 | cons p ps ih=>
  intro os hp ho
  simp only [pOps] at ho
  obtain ⟨o,e1,e2⟩:=Option.bind_eq_some_iff.1 ho
  obtain ⟨os',e3,rfl⟩:=Option.map_eq_some_iff.1 e2
  obtain ⟨g1,g2,g3,g4⟩:=opOf_regs h (hp p (by simp)) e1
  obtain ⟨k1,k2,k3,k4⟩:=ih (fun q hq=>hp q (by simp [hq])) e3
  refine ⟨?_,?_,?_,?_⟩
  ·show (o.regs ++ regsOf os').map R.plain=p.gs ++ gsOf ps
   rw [List.map_append,g1,k1]
  ·unfold outRegs outGs at k2 ⊢
   rw [List.filterMap_cons,List.filterMap_cons]
   cases ha:o.asReg with
   | none=>
    rw [ha] at g2
    rw [← g2]
    exact k2
   | some r=>
    rw [ha] at g2
    rw [← g2]
    simp only [Option.map_some,List.map_cons,k2]
  ·rw [List.filter_cons,List.filter_cons,g3]
   split
   ·show (o.regs ++ regsOf (os'.filter O.isMem)).map R.plain=p.gs ++ gsOf _
    rw [List.map_append,g1,k3]
   ·exact k3
  ·intro r hr
   have hr:r∈o.regs ++ regsOf os':=hr
   show ∃ g∈p.gs ++ gsOf ps,_
   rcases List.mem_append.1 hr with hr | hr
   ·obtain ⟨g,h1,h2⟩:=g4 r hr
    exact ⟨g,List.mem_append_left _ h1,h2⟩
   ·obtain ⟨g,h1,h2⟩:=k4 r hr
    exact ⟨g,List.mem_append_right _ h1,h2⟩
theorem gsOf_ok {ps:List PO} (hp:∀ p∈ps,p.Ok):∀ g∈gsOf ps,g.Ok:=by
 intro g hg
 obtain ⟨p,hpm,hg⟩:=List.mem_flatMap.1 hg
 have hk:=hp p hpm
 unfold PO.gs at hg
 split at hg
 ·obtain rfl:g=p.reg:=by simpa using hg
  exact hk.reg
 split at hg
 ·rcases List.mem_append.1 hg with hg | hg
  ·split at hg
   ·obtain rfl:g=p.base:=by simpa using hg
    exact hk.base
   ·cases hg
  ·split at hg
   ·obtain rfl:g=p.index:=by simpa using hg
    exact hk.index
   ·cases hg
 ·cases hg
theorem wk_inj {a b:Nat} (ha:a≤3) (hb:b≤3) (h:wk a=wk b):a=b:=by
 unfold wk at h
 split at h<;>split at h<;>omega
theorem same_plain {w:World} {wb:Nat} {fs:Nat→Option Nat} (h:WAt w wb fs) {g g':G} (hg:g.Ok) (hg':g'.Ok) {r r':R} (hr:regOf fs g=some r) (hr':regOf fs g'=some r'):r.same r'=decide (g=g'):=by
 have e1:=h.plain hg hr
 have e2:=h.plain hg' hr'
 have hk3:∀ {g:G} {r:R},regOf fs g=some r→r.virt=false→g.virt=false→g.kind≤3:=by
  intro g r hr _ hv
  unfold regOf at hr
  rw [if_neg (by simp [hv])] at hr
  unfold physOf at hr
  obtain ⟨fb,e,_⟩:=Option.bind_eq_some_iff.1 hr
  exact (h.2 _ fb e).1
 rw [Bool.eq_iff_iff,decide_eq_true_eq]
 constructor
 ·intro hs
  unfold R.same at hs
  simp only [Bool.and_eq_true,beq_iff_eq] at hs
  obtain ⟨⟨⟨h1,h2⟩,h3,h4⟩,h5⟩:=hs
  have hkk:r.kind=r'.kind:=by
   cases hv:r.virt with
   | true=>rw [hv,if_pos rfl] at h5;exact beq_iff_eq.1 h5
   | false=>
    have hgv:g.virt=false:=by rw [← e1];exact hv
    have hgv':g'.virt=false:=by rw [← e2];rw [h1] at hv;exact hv
    have k1:=hk3 hr hv hgv
    have k2:=hk3 hr' (by rw [← h1];exact hv) hgv'
    have a1:r.kind=g.kind:=by rw [← e1];rfl
    have a2:r'.kind=g'.kind:=by rw [← e2];rfl
    exact wk_inj (by omega) (by omega) h2
  rw [← e1,← e2]
  unfold R.plain
  rw [h1,hkk,h3,h4]
 ·rintro rfl
  rw [hr] at hr'
  injection hr' with hr'
  subst hr'
  have hn:(r.name == r.name)=true:=by first | exact beq_self_eq_true _ | (show (r.name.data == r.name.data)=true;simp) | (cases r.name;rfl) | exact decide_eq_true rfl
  unfold R.same
  cases r.virt<;>simp [hn]
theorem inRegs_plain {w:World} {wb:Nat} {fs:Nat→Option Nat} (h:WAt w wb fs) {ps qs:List PO} {os us:List O} (canc:Bool) (hp:∀ p∈ps,p.Ok) (hq:∀ p∈qs,p.Ok) (ho:pOps fs ps=some os) (hu:pOps fs qs=some us):(inRegs canc os us).map R.plain=inGs canc ps qs:=by
 obtain ⟨k1,_,_,k4⟩:=pOps_regs h hp ho
 obtain ⟨_,_,k3,_⟩:=pOps_regs h hq hu
 have hok:=gsOf_ok hp
 unfold inRegs inGs
 rw [List.map_append,k3]
 congr 1
 cases canc with
 | false=>simp only;exact k1
 | true=>
  match hl:regsOf os,k1 with
  | [],k1=>rw [← k1];rfl
  | [r],k1=>rw [← k1];rfl
  | r :: r' :: l,k1=>
   rw [← k1]
   simp only [List.map_cons]
   obtain ⟨g,hg,hr⟩:=k4 r (by rw [hl];simp)
   obtain ⟨g',hg',hr'⟩:=k4 r' (by rw [hl];simp)
   have e1:=h.plain (hok g hg) hr
   have e2:=h.plain (hok g' hg') hr'
   rw [same_plain h (hok g hg) (hok g' hg') hr hr',e1,e2]
   by_cases e:g=g'<;>simp [e,e1,e2]
end
section
open Go Go.RowKit Bth
set_option maxRecDepth 100000
structure LP where
 t:ByteArray→Option Nat
 pend:List ByteArray
 n:Nat
open Classical in
noncomputable def lpStep (s:LP) (p:PN):Option LP:=
 if p.kind=1 then some ⟨fun x=>if x∈s.pend then some s.n else s.t x,[],s.n+1⟩
 else if p.kind=2 then (if (s.t p.label).isSome then none else some { s with pend:=s.pend ++ [p.label] }) else some s
noncomputable def lpRun (ns:List PN):Option LP:=ns.foldlM lpStep ⟨fun _=>none,[],0⟩
theorem lpRun_snoc (ns:List PN) (p:PN):lpRun (ns ++ [p])=(lpRun ns).bind fun s=>lpStep s p:=by
 unfold lpRun
 rw [List.foldlM_append]
 cases List.foldlM lpStep ⟨fun _=>none,[],0⟩ ns<;>simp
def insP (ns:List PN):List PI:=(ns.filter fun p=>p.kind == 1).map PN.ins
theorem Mt.match_ {fs:Nat→Option Nat} {ns:List PN} {nds:List Nd} {rs:List Rec} {cms:List (Nat × List ByteArray)} (h:Mt fs ns nds rs cms):(insP ns).length=rs.length∧∀ (k:Nat) (p:PI) (r:Rec),(insP ns)[k]? = some p→rs[k]? = some r→RMatch fs p r:=by
 induction h with
 | nil=>exact ⟨rfl,by simp [insP]⟩
 | @ins ns nds rs cms n r _ h1 h2 ih=>
  have e:insP (ns ++ [n])=insP ns ++ [n.ins]:=by unfold insP;rw [List.filter_append,List.map_append];simp [h1]
  rw [e]
  refine ⟨by simp [ih.1],fun k p r' hk hr=>?_⟩
  by_cases hlt:k < rs.length
  ·rw [List.getElem?_append_left (by rw [ih.1];exact hlt)] at hk
   rw [List.getElem?_append_left hlt] at hr
   exact ih.2 k p r' hk hr
  ·have hkl:=(List.getElem?_eq_some_iff.1 hr).1
   have hke:k=rs.length:=by simp at hkl;omega
   subst hke
   have hk':(insP ns ++ [n.ins])[(insP ns).length]? = some p:=by rw [ih.1];exact hk
   rw [List.getElem?_concat_length] at hk' hr
   injection hk' with hk'
   injection hr with hr
   subst hk' hr
   exact h2
 | @label ns nds rs cms n _ h1 ih=>
  have e:insP (ns ++ [n])=insP ns:=by unfold insP;rw [List.filter_append];simp [h1]
  rw [e];exact ih
 | @comment ns nds rs cms n c _ h1 ih=>
  have e:insP (ns ++ [n])=insP ns:=by unfold insP;rw [List.filter_append];simp [h1]
  rw [e];exact ih
open Classical in
theorem lp_run {fs:Nat→Option Nat} {ns:List PN} {nds:List Nd} {rs:List Rec} {cms:List (Nat × List ByteArray)} (h:Mt fs ns nds rs cms):
  (lpRun ns=none→ltRun nds=none)∧∀ s,lpRun ns=some s→∃ t,ltRun nds=some ⟨t,s.pend⟩∧s.n=rs.length∧(∀ x,t x=(s.t x).bind fun i=>(rs.map (·.b))[i]?)∧∀ x i,s.t x=some i→i < rs.length:=by
 have hsnoc:∀ (l:List Nd) (nd:Nd),ltRun (l ++ [nd])=(ltRun l).bind fun s=>ltStep s nd:=by
  intro l nd
  unfold ltRun
  rw [List.foldlM_append]
  cases List.foldlM ltStep ⟨fun _=>none,[]⟩ l<;>simp
 induction h with
 | nil=>exact ⟨fun h=>(by cases h),fun s h=>by injection h with h;subst h;exact ⟨fun _=>none,rfl,rfl,fun _=>rfl,fun x i h=>(by cases h)⟩⟩
 | @ins ns nds rs cms n r hM h1 h2 ih=>
  rw [lpRun_snoc,hsnoc]
  cases hl:lpRun ns with
  | none=>rw [ih.1 hl];exact ⟨fun _=>rfl,fun s h=>(by cases h)⟩
  | some s0=>
   obtain ⟨t,g1,g2,g3,g4⟩:=ih.2 s0 hl
   rw [g1]
   simp only [Option.bind_some,lpStep,if_pos h1,ltStep]
   refine ⟨fun h=>(by cases h),fun s h=>?_⟩
   injection h with h
   subst h
   refine ⟨_,rfl,by simp [g2],fun x=>?_,fun x i hx=>?_⟩
   ·show settle s0.pend r.b t x=(if x∈s0.pend then some s0.n else s0.t x).bind fun i=>((rs ++ [r]).map (·.b))[i]?
    unfold settle
    by_cases hx:x∈s0.pend
    ·rw [if_pos hx,if_pos hx,g2];simp
    ·rw [if_neg hx,if_neg hx,g3]
     cases hs:s0.t x with
     | none=>rfl
     | some i=>
      simp only [Option.bind_some]
      rw [List.map_append,List.getElem?_append_left (by rw [List.length_map];exact g4 x i hs)]
   ·simp only at hx
    split at hx
    ·injection hx with hx;rw [List.length_append,← hx,g2];simp
    ·have:=g4 x i hx;rw [List.length_append];omega
 | @label ns nds rs cms n hM h1 ih=>
  rw [lpRun_snoc,hsnoc]
  cases hl:lpRun ns with
  | none=>rw [ih.1 hl];exact ⟨fun _=>rfl,fun s h=>(by cases h)⟩
  | some s0=>
   obtain ⟨t,g1,g2,g3,g4⟩:=ih.2 s0 hl
   rw [g1]
   have hk:¬n.kind=1:=by omega
   have hs:(t n.label).isSome=(s0.t n.label).isSome:=by
    rw [g3]
    cases hx:s0.t n.label with
    | none=>rfl
    | some i=>
     have:=g4 _ i hx
     simp only [Option.bind_some,Option.isSome_some]
     rw [List.getElem?_eq_getElem (by rw [List.length_map];exact this)];rfl
   simp only [Option.bind_some,lpStep,if_neg hk,if_pos h1,ltStep,hs]
   split
   ·exact ⟨fun _=>rfl,fun s h=>(by cases h)⟩
   ·refine ⟨fun h=>(by cases h),fun s h=>?_⟩
    injection h with h
    subst h
    exact ⟨t,rfl,g2,g3,g4⟩
 | @comment ns nds rs cms n c hM h1 ih=>
  rw [lpRun_snoc,hsnoc]
  cases hl:lpRun ns with
  | none=>rw [ih.1 hl];exact ⟨fun _=>rfl,fun s h=>(by cases h)⟩
  | some s0=>
   obtain ⟨t,g1,g2,g3,g4⟩:=ih.2 s0 hl
   rw [g1]
   have hk:¬n.kind=1:=by omega
   have hk2:¬n.kind=2:=by omega
   simp only [Option.bind_some,lpStep,if_neg hk,if_neg hk2,ltStep]
   refine ⟨fun h=>(by cases h),fun s h=>?_⟩
   injection h with h
   subst h
   exact ⟨t,rfl,g2,g3,g4⟩
def targetP (ops:List PO):Option ByteArray:=
 match ops with
 | p :: _=>if p.kind=4 then some p.label else none
 | []=>none
def succP (t:ByteArray→Option Nat) (n k:Nat) (p:PI):Option (List (Option Nat)):=
 (if p.br then (targetP p.ops).bind fun s=>(t s).map fun b=>[some b] else some []).map fun l=>l ++ (if p.term || (p.br && !p.cond) then [] else [if k+1 < n then some (k+1) else none])
theorem target_plain {fs:Nat→Option Nat} {ps:List PO} {os:List O} (h:pOps fs ps=some os):targetOf true os=targetP ps:=by
 cases ps with
 | nil=>simp only [pOps,Option.some.injEq] at h;subst h;rfl
 | cons p ps=>
  simp only [pOps] at h
  obtain ⟨o,e1,e2⟩:=Option.bind_eq_some_iff.1 h
  obtain ⟨os',_,rfl⟩:=Option.map_eq_some_iff.1 e2
  unfold opOf at e1
  split at e1
  ·rename_i h1
   obtain ⟨r,_,rfl⟩:=Option.map_eq_some_iff.1 e1
   simp [targetOf,targetP,h1]
  split at e1
  ·rename_i h1
   obtain ⟨r,_,rfl⟩:=Option.map_eq_some_iff.1 e1
   simp [targetOf,targetP,h1]
  split at e1
  ·rename_i h1
   obtain ⟨r,_,rfl⟩:=Option.map_eq_some_iff.1 e1
   simp [targetOf,targetP,h1]
  split at e1
  ·rename_i h1
   injection e1 with e1;subst e1
   simp [targetOf,targetP,h1]
  split at e1
  ·rename_i h1
   injection e1 with e1;subst e1
   simp [targetOf,targetP,h1]
  ·cases e1
def blk (bs:List Nat) (o:Option Nat):Option Nat:=o.bind fun i=>bs[i]?
theorem succ_plain {fs:Nat→Option Nat} {p:PI} {r:Rec} (h:RMatch fs p r) {t:ByteArray→Option Nat} {tI:ByteArray→Option Nat} {bs:List Nat} (ht:∀ x,t x=(tI x).bind fun i=>bs[i]?) (hlt:∀ x i,tI x=some i→i < bs.length) (k:Nat):
  succK t bs k r.i r.ops=(succP tI bs.length k p).map fun l=>l.map (blk bs):=by
 unfold succK succP
 rw [target_plain h.ops,h.br,h.term,h.cond]
 have hn:([bs[k+1]?]:List (Option Nat))=[if k+1 < bs.length then some (k+1) else none].map (blk bs):=by
  simp only [List.map_cons,List.map_nil,blk]
  split
  ·rfl
  ·rename_i hh;rw [List.getElem?_eq_none (by omega)];rfl
 have hx:(if p.br=true then (targetP p.ops).bind fun s=>(t s).map fun b=>[some b] else some [])=((if p.br=true then (targetP p.ops).bind fun s=>(tI s).map fun b=>[some b] else some []).map fun l=>l.map (blk bs)):=by
  split
  ·cases targetP p.ops with
   | none=>rfl
   | some s=>
    simp only [Option.bind_some,ht]
    cases hi:tI s with
    | none=>rfl
    | some i=>
     have:=hlt s i hi
     simp [blk,List.getElem?_eq_getElem this]
  ·rfl
 rw [hx]
 cases (if p.br=true then (targetP p.ops).bind fun s=>(tI s).map fun b=>[some b] else some []) with
 | none=>rfl
 | some l=>
  simp only [Option.map_some,List.map_append]
  congr 2
  split
  ·rfl
  ·exact hn
def ofGs (gs:List G):Nat→Nat:=gs.foldl (fun F g=>orM F g.id g.spec) (fun _=>0)
theorem ofRegs_plain (rs:List R):ofRegs rs=ofGs (rs.map R.plain):=by
 unfold ofRegs ofGs
 rw [List.foldl_map]
 rfl
def useP (is:List PI) (k:Nat):Nat→Nat:=match is[k]? with
 | some p=>ofGs (inGs p.canc p.inp p.out)
 | none=>fun _=>0
def defP (is:List PI) (k:Nat):Nat→Nat:=match is[k]? with
 | some p=>ofGs (outGs p.out)
 | none=>fun _=>0
def flowP (is:List PI) (sc:Nat→List (Option Nat)):Flow:=
 { n:=is.length,use:=useP is,df:=defP is,next:=fun k s=>some s∈sc k,U:=is.flatMap fun p=>(inGs p.canc p.inp p.out).map G.id }
structure PI.Ok (p:PI):Prop where
 ops:∀ q∈p.ops,q.Ok
 inp:∀ q∈p.inp,q.Ok
 out:∀ q∈p.out,q.Ok
theorem RMatch.regs {w:World} {wb:Nat} {fs:Nat→Option Nat} (hW:WAt w wb fs) {p:PI} {r:Rec} (h:RMatch fs p r) (hp:p.Ok):(regsOf r.ops).map R.plain=gsOf p.ops∧(outRegs r.out).map R.plain=outGs p.out∧(regsOf r.inp).map R.plain=gsOf p.inp∧(inRegs r.i.canc r.inp r.out).map R.plain=inGs p.canc p.inp p.out:=by
 refine ⟨(pOps_regs hW hp.ops h.ops).1,(pOps_regs hW hp.out h.out).2.1,(pOps_regs hW hp.inp h.inp).1,?_⟩
 rw [h.canc]
 exact inRegs_plain hW _ hp.inp hp.out h.inp h.out
theorem map_flat {α β γ : Type} {f:α → List γ} {g:β → List γ} : ∀ {l:List α} {m:List β},l.length=m.length→(∀ (k:Nat) (a:α) (b:β),l[k]? = some a→m[k]? = some b→f a=g b)→l.flatMap f=m.flatMap g
 | [],[],_,_=>rfl
 | [],_ :: _,h,_=>by simp at h
 | _ :: _,[],h,_=>by simp at h
 | a :: l,b :: m,h,hk=>by
  rw [List.flatMap_cons,List.flatMap_cons,hk 0 a b rfl rfl,map_flat (by simpa using h) fun k x y h1 h2=>hk (k+1) x y h1 h2]
theorem flow_plain {w:World} {wb:Nat} {fs:Nat→Option Nat} (hW:WAt w wb fs) {ns:List PN} {nds:List Nd} {rs:List Rec} {cms:List (Nat × List ByteArray)} (hM:Mt fs ns nds rs cms) (hp:∀ p∈insP ns,p.Ok) (hinj:∀ (j k:Nat) (a b:Rec),rs[j]? = some a→rs[k]? = some b→a.b=b.b→j=k)
  {sc scP:Nat→List (Option Nat)} (hsc:∀ k,k < rs.length→sc k=(scP k).map (blk (rs.map (·.b)))):
  (flowOf rs sc).n=(flowP (insP ns) scP).n∧(flowOf rs sc).use=(flowP (insP ns) scP).use∧(flowOf rs sc).df=(flowP (insP ns) scP).df∧(flowOf rs sc).U=(flowP (insP ns) scP).U∧∀ i s,(flowOf rs sc).succ i s↔(flowP (insP ns) scP).succ i s:=by
 obtain ⟨hl,hr⟩:=hM.match_
 have hat:∀ (k:Nat) (r:Rec),rs[k]? = some r→∃ p,(insP ns)[k]? = some p∧RMatch fs p r∧p.Ok:=fun k r hk=>by
  have hlt:k < (insP ns).length:=by rw [hl];exact (List.getElem?_eq_some_iff.1 hk).1
  exact ⟨_,List.getElem?_eq_getElem hlt,hr k _ r (List.getElem?_eq_getElem hlt) hk,hp _ (List.getElem_mem hlt)⟩
 have hno:∀ k,rs[k]? = none→(insP ns)[k]? = none:=fun k hk=>by
  rw [List.getElem?_eq_none_iff] at hk ⊢;omega
 refine ⟨hl.symm,?_,?_,?_,fun i s=>?_⟩
 ·funext k
  show useOf rs k=useP (insP ns) k
  unfold useOf useP
  cases hk:rs[k]? with
  | none=>rw [hno k hk]
  | some r=>
   obtain ⟨p,h1,h2,h3⟩:=hat k r hk
   rw [h1]
   show ofRegs (inRegs r.i.canc r.inp r.out)=ofGs (inGs p.canc p.inp p.out)
   rw [ofRegs_plain,(h2.regs hW h3).2.2.2]
 ·funext k
  show defOf rs k=defP (insP ns) k
  unfold defOf defP
  cases hk:rs[k]? with
  | none=>rw [hno k hk]
  | some r=>
   obtain ⟨p,h1,h2,h3⟩:=hat k r hk
   rw [h1]
   show ofRegs (outRegs r.out)=ofGs (outGs p.out)
   rw [ofRegs_plain,(h2.regs hW h3).2.1]
 ·show (rs.flatMap fun r=>(inRegs r.i.canc r.inp r.out).map R.id)=(insP ns).flatMap fun p=>(inGs p.canc p.inp p.out).map G.id
  refine map_flat hl.symm fun k r p h1 h2=>?_
  rw [← ((hr k p r h2 h1).regs hW (hp p (List.mem_of_getElem? h2))).2.2.2,List.map_map]
  rfl
 ·unfold Flow.succ
  show i < rs.length∧s < rs.length∧(∃ r,rs[s]? = some r∧some r.b∈sc i)↔i < (insP ns).length∧s < (insP ns).length∧some s∈scP i
  rw [hl]
  constructor
  ·rintro ⟨h1,h2,r,h3,h4⟩
   refine ⟨h1,h2,?_⟩
   rw [hsc i h1] at h4
   obtain ⟨o,ho,hb⟩:=List.mem_map.1 h4
   unfold blk at hb
   obtain ⟨j,rfl,hj⟩:=Option.bind_eq_some_iff.1 hb
   rw [List.getElem?_map] at hj
   obtain ⟨r',hr',hb'⟩:=Option.map_eq_some_iff.1 hj
   rw [hinj s j r r' h3 hr' hb'.symm]
   exact ho
  ·rintro ⟨h1,h2,h3⟩
   refine ⟨h1,h2,rs[s],List.getElem?_eq_getElem h2,?_⟩
   rw [hsc i h1]
   refine List.mem_map.2 ⟨some s,h3,?_⟩
   simp [blk,List.getElem?_eq_getElem h2]
end
end Go.Proofs.YtbgblfiapecioaaGreat
