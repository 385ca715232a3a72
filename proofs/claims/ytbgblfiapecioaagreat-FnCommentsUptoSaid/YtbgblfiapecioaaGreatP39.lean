/- Part of the proof of a statement about pub-berthage: what its texts have in common. -/
import Derived.Deep.QuietTactic
import Derived.BigQuiet
import Derived.Test.YtbgblfiapecioaaGreatP23
import Derived.Test.YtbgblfiapecioaaGreatP24
import Derived.Test.YtbgblfiapecioaaGreatP31
import Derived.Test.YtbgblfiapecioaaGreatP33
import Derived.Test.YtbgblfiapecioaaGreatP38
namespace Go.Proofs.YtbgblfiapecioaaGreat
section
open Go Go.RowKit Go.MapKept Bth
set_option maxRecDepth 100000
def GivesFl (w:World) (ns:List PN) (e:Ending) (w':World):Prop:=Fr nope w w' ∧
 ((∃ A c D d sc,e = .returned (.tuple #[.slice A (insP ns).length c,.slice D (insP ns).length d,.bool true])∧GraphP ns sc∧SuccAt w' A (insP ns).length sc∧SuccAt w' D (insP ns).length fun k=>(pdI sc (insP ns).length k).map some) ∨
  (e = .returned (.tuple #[.slice none 0 0,.slice none 0 0,.bool false])∧∀ sc,¬GraphP ns sc))
theorem px_plain {rs:List Rec} {sc scP:Nat→List (Option Nat)} {X:Bool→Nat→List Value} {bs:List Nat} (hbs:bs=rs.map (·.b)) (hX:PX rs sc X (edgesK sc bs rs.length)) (hsc:∀ k,k < rs.length→sc k=(scP k).map (blk bs))
  (hinj:∀ (j k b:Nat),bs[j]? = some b→bs[k]? = some b→j=k):∀ k,k < rs.length→X true k=(scP k).map (fun o=>fvI (blk bs o))∧X false k=((pdI scP rs.length k).map some).map (fun o=>fvI (blk bs o)):=by
 intro k hk
 refine ⟨by rw [hX.1 k hk,hsc k hk,List.map_map];rfl,?_⟩
 have hr:rs[k]? = some rs[k]:=List.getElem?_eq_getElem hk
 have hb:bs[k]? = some (rs[k]).b:=by rw [hbs,List.getElem?_map,hr];rfl
 rw [hX.2 k _ hr,pd_plain hsc (fun j h=>hinj j k _ h hb) hb,List.map_map,List.map_map]
 refine List.map_congr_left fun i hi=>?_
 have hi':i < bs.length:=by rw [hbs,List.length_map];exact pdI_lt hi
 show ptr (bs.getD i 0)=fvI (bs[i]?)
 rw [List.getD_eq_getElem?_getD,List.getElem?_eq_getElem hi']
 rfl
set_option maxHeartbeats 4000000 in
theorem ImFlow_calls (w:World) (s:SV) (ns:List PN) (hN:NodesAt w w.heap.size s ns) (hok0:ns.all okN=true):Calls Tryz.prog 9 #[.slice s.A s.n s.c] w (GivesFl w ns):=by
 have hfew:=hN.few
 go_enter Tryz.func9,Tryz.ntmps9
 go_wp2_with fail
 refine (newWorld_calls w).mono ?_
 rintro e w1 ⟨rfl,hW,hf1⟩
 have hN1:=hN.fr hf1 (fun _ _ x=>x)
 have hF:=function_calls w1 w.heap.size (fun _=>none) s ns hN1 hW
 have hl1:=hf1.size
 go_wp2_with fail
 refine hF.mono ?_
 rintro e w2 ⟨fs,hg,hW2,hf2,⟨fb,f,nds,rs,cms,hok,st,hfb,hbare,hfresh,rfl⟩ | ⟨hok,_⟩⟩
 rotate_left
 ·rw [hok0] at hok;cases hok
 obtain ⟨A,c,hnn,_,_⟩:=own_slice st.nodes
 have hSn:Sl w2 A nds.length (nds.map Nd.val):=by have h:=st.nodes;rw [hnn] at h;exact own_Sl h
 have hnl:nds.length≤1048576:=by rw [st.mt.len];exact hfew
 have hLT:=LabelTarget_calls w2 fb f nds A c st.fn hnn hSn (by omega)
 have hwl:=lt_of_heap hW.1
 have hf02:Fr nope w w2:=hf1.then_new hf2 (fun x hx e=>by omega)
 have hsz2:=hf2.size
 unfold ptr at hLT ⊢
 have hfs3:∀ (w3:World) (mb:Nat),FnAt w3 fb { f with lt:=some mb } → Fr (fun b=>b=fb) w2 w3→FState w3 fs ns fb { f with lt:=some mb } nds rs cms:=fun w3 mb hv hf=>st.setFn hv rfl hf
 have htb:∀ t:ByteArray→Option Nat,ltRun nds=some ⟨t,[]⟩→∀ s b,t s=some b→∃ r∈rs,r.b=b:=by
  intro t ht s b hs
  have:=lt_targets ht s b hs
  rw [st.mt.insOf] at this
  obtain ⟨r,hr,e⟩:=List.mem_map.1 this
  exact ⟨r,hr,e⟩
 have hrb:∀ r∈rs,fb < r.b:=fun r hr=>Nat.lt_of_lt_of_le (st.recs r hr).2.1 (st.recs r hr).1.own.b1
 replace hfs3:=Lib.hid hfs3
 replace htb:=Lib.hid htb
 replace hrb:=Lib.hid hrb
 go_wp2_with fail
 refine hLT.mono ?_
 rintro e w3 (⟨t,mb,ht,rfl,hfn3,hM3,hmb,hf3⟩ | ⟨ht,⟨T,v,rfl⟩,hf3⟩)
 rotate_left
 ·go_wp2
  go_ret3
  exact ⟨hf02.then hf3,.inr ⟨rfl,graph_none st.mt ht⟩⟩
 have st3:=hfs3.out _ _ hfn3 hf3
 have hC:=CFG_calls w3 fs ns fb { f with lt:=some mb } nds rs cms mb t st3 hfresh rfl hM3 hnl (htb.out _ ht)
 have hf03:Fr nope w w3:=hf02.then_new hf3 (fun x hx e=>by omega)
 unfold ptr at hC
 have hsz3:=hf3.size
 go_wp2_with fail
 refine hC.mono ?_
 rintro e w4 ⟨hf4,hM4,⟨sc,rs1,X,hsc,rfl,hlk,st4,L4,hX⟩ | ⟨⟨k,r,hr,hno⟩,T,v,rfl⟩⟩
 rotate_left
 ·go_wp2
  go_ret3
  exact ⟨hf03.then_new hf4 (fun x hx ⟨r,hr,e⟩=>by have:=hrb.out r hr;omega),.inr ⟨rfl,graph_none2 st.mt ht hr hno⟩⟩
 have hrs1:rs1.length=rs.length:=hlk.1
 have hbs1:=hlk.bs
 obtain ⟨scP,hG,hblk⟩:=graph_some st.mt ht hsc
 have hnlen:(insP ns).length=rs.length:=st.mt.match_.1
 have hinj:∀ (j k b:Nat),(rs.map (·.b))[j]? = some b→(rs.map (·.b))[k]? = some b→j=k:=by
  intro j k b h1 h2
  rw [List.getElem?_map] at h1 h2
  obtain ⟨x,hx,rfl⟩:=Option.map_eq_some_iff.1 h1
  obtain ⟨y,hy,e⟩:=Option.map_eq_some_iff.1 h2
  exact st.inj hx hy e.symm
 have hpx:=px_plain rfl hX hblk hinj
 obtain ⟨hG1,hG2⟩:=hG.lt
 have hrl:rs.length≤1048576:=by
  have:=st.mt.insOf
  have h2:=insOf_le nds
  rw [this,List.length_map] at h2
  omega
 have hPF:=plainFlow_calls w4 fs ns fb { f with lt:=some mb } nds rs1 cms w3.heap.size X scP (fun k=>(pdI scP rs.length k).map some) st4 L4 hnl
  (fun k hk=>by rw [hbs1];exact hpx k (by omega))
  (fun k hk=>⟨fun j hj=>by have:=hG1 k j (by omega) hj;omega,fun j hj=>by
   obtain ⟨i,hi,e⟩:=List.mem_map.1 hj
   injection e with e
   subst e
   have:=pdI_lt hi
   omega⟩)
  (fun k hk=>⟨by have:=hG2 k (by omega);omega,by rw [List.length_map];have:=pdI_len (n:=rs.length) (k:=k) (fun i hi=>hG2 i (by omega));omega⟩)
 have hf04:Fr nope w w4:=hf03.then_new hf4 (fun x hx ⟨r,hr,e⟩=>by have:=hrb.out r hr;omega)
 have hsz4:=hf4.size
 clear hX hpx hblk hsc hinj
 replace hG1:=Lib.hid hG1
 replace hG2:=Lib.hid hG2
 replace hbs1:=Lib.hid hbs1
 rw [hrs1,← hnlen] at hPF
 replace hrs1:=Lib.hid hrs1
 replace hnlen:=Lib.hid hnlen
 unfold ptr at hPF
 go_wp2_with fail
 refine hPF.mono ?_
 rintro e w5 ⟨hf5,A5,c5,D5,d5,rfl,hS1,hS2⟩
 go_wp2
 go_ret3
 exact ⟨hf04.then hf5,.inl ⟨A5,c5,D5,d5,scP,rfl,hG,hS1,hS2⟩⟩
end
section
open Go Go.RowKit Go.MapKept Go.Lib Go.Sort Bth
set_option maxRecDepth 100000
noncomputable def livesT:TypeInfo:=(Tryz.prog.info? 105).get (by kernel_rfl)
noncomputable def liveT:TypeInfo:=(Tryz.prog.info? 184).get (by kernel_rfl)
theorem liveK (n:Nat) (h2:2≤n):Lib.swapperK n liveT 25=5:=by
 have a:liveT.hasPointers=false:=by kernel_rfl
 have b:liveT.bytes=8:=by kernel_rfl
 have c:(n == 0)=false:=by simp;omega
 have d:(n == 1)=false:=by simp;omega
 simp [Lib.swapperK,a,b,c,d]
def LessOwnL (g:FuncId) (lb:Array Value) (w:World) (base b c n:Nat):Prop:=
 ∀ (W:World) (ys:List (Nat × Nat)),Fr (fun x=>x=b) w W→ys.length=n→W.ownsRow base 184 2 (.slice (some ⟨b,0,none⟩) n c) n (ys.flatMap tlV)→∀ i j:Nat,i < n→j < n →
  Calls Tryz.prog g (#[.int .i64 i,.int .i64 j] ++ lb) W fun e w'=>e = .returned (.bool (ltPair (ys.getD i default) (ys.getD j default)))∧∃ q,w'=W.drewN q
def GivesSortedL (w:World) (base:Nat) (v:Value) (xs:List (Nat × Nat)) (e:Ending) (w':World):Prop:=
 e = .returned (.tuple #[])∧∃ ys,SortedOf ltPair xs ys∧w'.ownsRow base 184 2 v xs.length (ys.flatMap tlV)∧Fr (fun b=>v.ownBlock=some b) w w'
theorem sortLives_calls (w:World) (base:Nat) (A:Option Addr) (c:Nat) (xs:List (Nat × Nat)) (hown:w.ownsRow base 184 2 (.slice A xs.length c) xs.length (xs.flatMap tlV)) (g:FuncId) (lb:Array Value) (eg:∀ args w,(callFunc g args).run Tryz.prog w = .ok (.enter g args) w)
  (hless:∀ b,A=some ⟨b,0,none⟩→LessOwnL g lb w base b c xs.length) (hsz:xs.length < 4611686018427387904):
  Calls Tryz.prog 91 #[.iface 105 (.slice A xs.length c),.func (.func g) #[] lb] w (GivesSortedL w base (.slice A xs.length c) xs):=by
 have hk2:∀ x:Nat × Nat,(tlV x).length=2:=fun _=>rfl
 by_cases h2:2≤xs.length
 ·obtain ⟨b,rfl,hb,_⟩:=own_cells hown (by omega)
  have hS:=Any.sort_Slice_cells_sorted sl6 105 184 livesT liveT (by kernel_rfl) (by kernel_rfl) (by kernel_rfl) (by kernel_rfl) 25 (fun _=>by kernel_rfl) tlV 2 hk2 (by kernel_rfl) (fun _=>by kernel_rfl)
   (fun x v hv=>by simp [tlV] at hv;rcases hv with rfl | rfl<;>rfl) ltPair swo_ltPair g lb eg b 0 c xs.toArray (by simpa using h2) (by simpa using hsz)
   151 (by rw [liveK _ (by simpa using h2)];kernel_rfl) true
   (fun args W=>run_callFunc_extern Tryz.func151 (by kernel_rfl) (by kernel_rfl) (by kernel_rfl) (e:=Extern.ReflectliteSwapper.swap true) (by kernel_rfl) args W) w
   (fun m os dk hs i j hi hj=>by
    have hs':dk.size=xs.length:=by simpa using hs
    have hw:=hless b rfl (sorted w b m (flatK tlV 2 dk) os) dk.toList (sorted_fr _ _ _ _ _) (by simpa using hs') (by
     have:=sorted_own (m:=m) (os:=os) (F:=flatK tlV 2 dk) hown (by simp [hs'])
     rw [flatK_list tlV 2 hk2 (by omega) dk.toList] at this
     exact this) i j (by simpa using hi) (by simpa using hj)
    have e1:∀ t,t < xs.length→dk.toList.getD t default=dk[t]!:=fun t ht=>by
     rw [getElem!_pos dk t (by omega),List.getD_eq_getElem?_getD,Array.getElem?_toList,Array.getElem?_eq_getElem (by omega)];rfl
    rw [e1 i (by simpa using hi),e1 j (by simpa using hj)] at hw
    exact hw)
   (own_holdsK hk2 (by omega) hown) hb
  have hsz2:xs.toArray.size=xs.length:=by simp
  rw [hsz2] at hS
  refine Calls.mono hS ?_
  rintro e w' ⟨rfl,d',m,os,hp,hso,rfl⟩
  obtain ⟨h3,h4⟩:=sortedOf_of (by simpa using hp) (by simpa using hso)
  refine ⟨rfl,d'.toList,h3,?_,(sorted_fr w b m _ os).mono fun x _ e=>by rw [e];rfl⟩
  have:=sorted_own (m:=m) (os:=os) (F:=flatK tlV 2 d') hown (by simp [h4])
  rw [flatK_list tlV 2 hk2 (by omega) d'.toList] at this
  exact this
 ·have h1:xs.length=0∨xs.length=1:=by omega
  rcases h1 with h1 | h1
  ·have hS:=Any.sort_Slice_tiny sl6 105 184 livesT liveT (by kernel_rfl) (by kernel_rfl) (by kernel_rfl) (by kernel_rfl) 25 (fun _=>by kernel_rfl) A xs.length c (by omega) 147 (by rw [h1];kernel_rfl) (.func g) #[] lb w
   refine Calls.mono hS ?_
   rintro e w' ⟨rfl,os,rfl⟩
   exact ⟨rfl,xs,.tiny (by omega),own_fr hown (fr_grow w os) (fun _ _ x=>x),(fr_grow w os).of_nope⟩
  ·have hS:=Any.sort_Slice_tiny sl6 105 184 livesT liveT (by kernel_rfl) (by kernel_rfl) (by kernel_rfl) (by kernel_rfl) 25 (fun _=>by kernel_rfl) A xs.length c (by omega) 148 (by rw [h1];kernel_rfl) (.func g) #[] lb w
   refine Calls.mono hS ?_
   rintro e w' ⟨rfl,os,rfl⟩
   exact ⟨rfl,xs,.tiny (by omega),own_fr hown (fr_grow w os) (fun _ _ x=>x),(fr_grow w os).of_nope⟩
theorem lives_get {ys:List (Nat × Nat)} {i:Nat} {p:Nat × Nat} (h:ys[i]? = some p):(ys.flatMap tlV)[i*2]? = some (.int .u32 (p.1:Int)):=by
 induction ys generalizing i with
 | nil=>simp at h
 | cons a ys ih=>
  cases i with
  | zero=>simp only [List.getElem?_cons_zero,Option.some.injEq] at h;subst h;rfl
  | succ i=>
   simp only [List.getElem?_cons_succ] at h
   rw [List.flatMap_cons,Nat.succ_mul,List.getElem?_append_right (by simp [tlV])]
   simpa [tlV] using ih h
set_option maxHeartbeats 1000000 in
theorem lessLive_calls (W:World) (Bs b n c base:Nat) (ys:List (Nat × Nat)) (hB:W.cell? ⟨Bs,0,none⟩=some (.slice (some ⟨b,0,none⟩) n c)) (hl:ys.length=n)
  (hown:W.ownsRow base 184 2 (.slice (some ⟨b,0,none⟩) n c) n (ys.flatMap tlV)) (i j:Nat) (hi:i < n) (hj:j < n):
  Calls Tryz.prog 134 #[.int .i64 i,.int .i64 j,ptr Bs] W fun e w'=>e = .returned (.bool (ltPair (ys.getD i default) (ys.getD j default)))∧∃ q,w'=W.drewN q:=by
 obtain ⟨x,hx⟩:∃ x,ys[i]? = some x:=⟨_,List.getElem?_eq_getElem (by omega)⟩
 obtain ⟨y,hy⟩:∃ y,ys[j]? = some y:=⟨_,List.getElem?_eq_getElem (by omega)⟩
 have hci:=(own_cur hown (i*2) _ (lives_get hx)).1
 have hcj:=(own_cur hown (j*2) _ (lives_get hy)).1
 have hxd:ys.getD i default=x:=by rw [List.getD_eq_getElem?_getD,hx];rfl
 have hyd:ys.getD j default=y:=by rw [List.getD_eq_getElem?_getD,hy];rfl
 rw [hxd,hyd]
 unfold ltPair
 unfold ptr
 have hi':(0:Int)≤(i:Int):=by omega
 have hj':(0:Int)≤(j:Int):=by omega
 have hii:(i:Int) < (n:Int):=by omega
 have hjj:(j:Int) < (n:Int):=by omega
 clear hown hx hy hxd hyd hl
 go_enter Tryz.func134,Tryz.ntmps134
 go_wp2
 go_quiet (fail)
 go_wp2
 go_ret
 exact ⟨rfl,_,rfl⟩
end
section
open Go Go.RowKit Go.MapKept Bth
set_option maxRecDepth 100000
def fOf (F:Nat→Nat) (k:Nat):Option Nat:=if F k=0 then none else some (F k)
theorem tl_of {F:Nat→Nat} {l:TL} (h:PairsOf (fOf F) l) (h16:∀ c,F c < 65536) (h32:∀ c,F c≠0→c < 4294967296):Tidy l∧tv l=F:=by
 obtain ⟨h1,h2⟩:=h
 have key:∀ x∈l,F x.1=x.2∧x.2≠0:=fun x hx=>by
  have:=(h1 x).1 hx
  unfold fOf at this
  split at this
  ·cases this
  ·rename_i h
   injection this with this
   exact ⟨this,by rw [← this];exact h⟩
 have ht:Tidy l:=by
  clear h1
  induction l with
  | nil=>exact .nil
  | cons x l ih=>
   obtain ⟨p1,p2⟩:=List.pairwise_cons.1 h2
   obtain ⟨k1,k2⟩:=key x (by simp)
   exact .cons (ih p2 fun y hy=>key y (by simp [hy])) p1 k2 (by rw [← k1];exact h16 _) (h32 _ (by rw [k1];exact k2))
 refine ⟨ht,funext fun c=>?_⟩
 by_cases hc:F c=0
 ·rw [hc]
  apply Classical.byContradiction
  intro h
  have:=key _ (tv_mem h)
  exact this.2 (this.1.symm.trans hc)
 ·exact tv_of_mem ht (x:=(c,F c)) ((h1 _).2 (by unfold fOf;rw [if_neg hc]))
def GivesMs (w:World) (F:Nat→Nat) (e:Ending) (w':World):Prop:=
 Fr nope w w'∧∃ (A:Option Addr) (c:Nat) (l:TL),Tidy l∧tv l=F∧e = .returned (.slice A l.length c)∧TlAt w' A l
theorem infoLive:(Tryz.prog.info? 184).map (fun i=>(i.zero,i.size,i.bytes))=some (some (.agg #[.int .u32 0,.int .u16 0]),2,8):=by kernel_rfl
def mkOf (F:Nat→Nat) (k:Nat):Nat × Nat:=(k,F k)
set_option maxHeartbeats 2000000 in
theorem plainMasks_calls (w:World) (b:Nat) (F:Nat→Nat) (hb:MaskAt w b F) (h32:∀ c,F c≠0→c < 4294967296) (n:Nat) (hfew:∀ D:List Nat,D.Nodup→(∀ k∈D,F k≠0)→D.length≤n) (hn:n≤10000000000000):
  Calls Tryz.prog 93 #[.map (some b)] w (GivesMs w F):=by
 obtain ⟨⟨ks,hM⟩,h16⟩:=hb
 have hO:MapO w (some b) idV ks (fun k=>maskV (F k)):=hM
 have hks:∀ k,k∈ks↔F k≠0:=fun k=>by rw [hM.mem_iff];unfold maskV;by_cases h:F k=0<;>simp [h]
 have hnd:=hM.nodup
 have hbl:=hM.lt
 replace hks:=Lib.hid hks
 replace h16:=Lib.hid h16
 replace h32:=Lib.hid h32
 clear hM
 go_enter Tryz.func93,Tryz.ntmps93
 go_wp2_with (refine wpList_rangeO rfl rfl rfl (MapO.fr hO ((Fr.refl nope w).alloc _) (fun _ _ x=>x)) idInj maskSetT ?_;intro w0 hrg0 hf0 hs0)
 go_frame
 have hBs0:w0.heap[w.heap.size]? = some (.cells #[.slice none 0 0] 105 (0,0)):=hf0.heap (heap_alloc_new w _) (fun x=>x)
 have hs00:w0.heap.size=w.heap.size+2:=by rw [hs0];simp
 have e1:(w.alloc (Obj.cells #[Value.slice none 0 0] 105)).heap.size=w.heap.size+1:=by simp
 have hfw0:Fr nope w w0:=((Fr.refl nope w).alloc _).then hf0
 rw [e1] at hrg0
 try rw [e1]
 replace e1:=Lib.hid e1
 replace hs0:=Lib.hid hs0
 go_loopg [] ks.length (fun n wr=>∃ (todo D:List Nat) (A:Option Addr) (c:Nat),RangeO wr (w.heap.size+1) (some b) idV ks (fun k=>maskV (F k)) todo∧wr.heap[w.heap.size]? = some (.cells #[.slice A D.length c] 105 (0,0))∧wr.ownsRow (w.heap.size+2) 184 2 (.slice A D.length c) D.length ((D.map (mkOf F)).flatMap tlV)∧KInv ks todo D∧Fr nope w wr∧w.heap.size+2≤wr.heap.size∧todo.length=n)
 case atStart=>exact ⟨ks,[],none,0,hrg0,hBs0,own_nil _ _ _ _,⟨hnd,List.nodup_nil,by simp,by simp⟩,hfw0,Nat.le_of_eq hs00.symm,rfl⟩
 case round=>
  obtain ⟨todo,D,A,c,hrg,hBs,hown,hI,hf,hsz,rfl⟩:=hrel
  have hBl:=lt_of_heap hBs
  have hDn:D.length≤n:=hfew D hI.dn fun k hk=>(hks.out k).1 ((hI.mem k).2 (.inl hk))
  go_wp2_with (refine wpList_nextO rfl rfl rfl hrg idInj ?_ ?_)
  ·intro h0
   subst h0
   have hDk:∀ k,k∈D↔F k≠0:=fun k=>by rw [← hks.out,hI.mem];simp
   have hdn:=hI.dn
   have hcB:wr.cell? ⟨w.heap.size,0,none⟩=some (.slice A D.length c):=by rw [cell_of_row wr _ 0 _ _ (0,0) hBs];rfl
   have hlm:(D.map (mkOf F)).length=D.length:=List.length_map ..
   have hS:=sortLives_calls wr _ A c _ (show wr.ownsRow _ _ 2 (.slice A (D.map (mkOf F)).length c) (D.map (mkOf F)).length _ from by rw [hlm];exact hown) 134 #[ptr w.heap.size] (fun args w=>enters_of Tryz.func134 (by kernel_rfl) rfl args w) (fun b2 hb2=>by
    subst hb2
    intro W ys hW hl ho i j hi hj
    exact lessLive_calls W w.heap.size b2 _ c _ ys (hW.cell (by rw [hlm];exact hcB) (fun e=>by have:=own_base hown b2 rfl;have e':w.heap.size=b2:=e;omega)) hl ho i j hi hj) (by rw [hlm];omega)
   rw [hlm] at hS
   have hne:∀ b2,Value.ownBlock (.slice A D.length c)=some b2→w.heap.size+2≤b2:=own_base hown
   replace hDk:=Lib.hid hDk
   replace hne:=Lib.hid hne
   unfold ptr at hS
   replace hlm:=Lib.hid hlm
   clear hI hrg
   go_wp2_with fail
   refine hS.mono ?_
   rintro e w5 ⟨rfl,ys,hys,ho5,hf5⟩
   have hB5:=hf5.heap hBs (fun e=>by have:=hne.out _ e;omega)
   have hc5:w5.cell? ⟨w.heap.size,0,none⟩=some (.slice A D.length c):=by rw [cell_of_row w5 _ 0 _ _ (0,0) hB5];rfl
   have hB5l:=lt_of_heap hB5
   have hyl:=hys.1.length_eq
   rw [hlm.out] at hyl ho5
   replace hyl:=Lib.hid hyl
   go_wp2
   go_ret
   have hpo:PairsOf (fOf F) ys:=by
    refine pairs_of (ks:=ks) (ys:=ks) (f:=fOf F) (D:=D) (fun k=>by rw [hDk.out];unfold fOf;by_cases h:F k=0<;>simp [h]) hdn ?_ rfl
    have e:D.map (prOf (fOf F))=D.map (mkOf F):=List.map_congr_left fun k hk=>by
     have:=(hDk.out k).1 hk
     unfold prOf fOf mkOf
     rw [if_neg this];rfl
    rw [e];exact hys
   obtain ⟨t1,t2⟩:=tl_of hpo h16.out h32.out
   refine ⟨hf.then_new hf5 (fun c hc e=>by have:=hne.out _ e;omega),A,c,ys,t1,t2,?_,?_⟩
   ·rw [hyl.out];rfl
   ·unfold TlAt;rw [hyl.out];exact Rw.of_own ho5
  ·intro k v w1 hkt hkk hv hrg1 hf1 hs1 hen
   obtain ⟨p,hp,rfl⟩:∃ p,F k=p∧v = .int .u16 (p:Int):=by
    unfold maskV at hv
    split at hv
    ·cases hv
    ·injection hv with hv;exact ⟨_,rfl,hv.symm⟩
   have hI1:=hI.step hkt
   have hlen:(todo.erase k).length < todo.length:=by rw [List.length_erase_of_mem hkt];have:=List.length_pos_of_mem hkt;omega
   have hB1:=hf1.heap hBs (by omega)
   have hc1:w1.cell? ⟨w.heap.size,0,none⟩=some (.slice A D.length c):=by rw [cell_of_row w1 _ 0 _ _ (0,0) hB1];rfl
   have hB1l:=lt_of_heap hB1
   have hown1:=own_fr hown hf1 (fun b hb e=>by have:=own_base hown b hb;omega)
   have hpr:mkOf F k=(k,p):=by unfold mkOf;rw [hp]
   have hf01:Fr nope w w1:=hf.then_new hf1 (fun c hc e=>by omega)
   have hs1':wr.heap.size≤w1.heap.size:=Nat.le_of_eq hs1.symm
   replace hs1:=Lib.hid hs1
   replace hp:=Lib.hid hp
   replace hpr:=Lib.hid hpr
   clear hv hrg hBs
   unfold idV at hen
   go_wp2_with (refine wpList_app (v:=.slice A D.length c) rfl rfl Tryz.underlying105 infoLive rfl (by omega) rfl (own_fr hown1 ((Fr.refl nope _).alloc _) (fun _ _ x=>x)) rfl (news:=tlV (k,p)) rfl (fun _=>cells_new _ _ _ _ (by simp)) (by simp [Value.oneCell',tlV]) (by simp only [maxLen];omega) (by omega) (by simp;omega) ?hk)
   case hk=>
    intro v3 w3 hown3 hf3 hb3
    obtain ⟨A3,c3,rfl,_,_⟩:=own_slice hown3
    have hnb:¬Value.ownBlock (.slice A D.length c)=some w.heap.size:=fun e=>by have:=own_base hown _ e;omega
    have hB3:=hf3.heap (((Fr.refl nope w1).alloc _).heap hB1 (fun x=>x)) hnb
    have hc3':w3.cell? ⟨w.heap.size,0,none⟩=some (.slice A D.length c):=by rw [cell_of_row w3 _ 0 _ _ (0,0) hB3];rfl
    have hz3:=frozen_row hB3 0
    have hB3l:=lt_of_heap hB3
    replace hb3:=Lib.hid hb3
    go_wp2
    have hst:Fr (fun x=>x=w.heap.size) w3 (w3.setCell ⟨w.heap.size,0,none⟩ (.slice A3 (D.length+1) c3)):=(Fr.refl (fun x=>x=w.heap.size) w3).setCell (.inl rfl) _
    go_roundg (todo.erase k).length
    case measure=>exact hlen
    case rel=>
     have hsz3:=hf3.size
     simp at hsz3
     have hs4:(w3.setCell ⟨w.heap.size,0,none⟩ (.slice A3 (D.length+1) c3)).heap.size=w3.heap.size:=by simp [World.setCell]
     have hl3:∀ x,Value.ownBlock (.slice A3 (D.length+1) c3)=some x→w.heap.size+2≤x:=own_base hown3
     refine ⟨_,D ++ [k],A3,c3,((hrg1.fr ((Fr.refl nope w1).alloc _) (fun x=>x) (fun _ _ x=>x)).fr hf3 (fun e=>by have:=own_base hown _ e;omega) (fun b2 hb2 e=>by injection hb2 with hb2;subst hb2;have:=own_base hown _ e;omega)).fr hst (by omega) (fun b2 hb2 e=>by injection hb2 with hb2;omega),?_,?_,hI1,?_,by omega,rfl⟩
     ·rw [List.length_append];exact setCell_heap hB3 _
     ·rw [List.length_append,List.map_append,List.flatMap_append]
      refine own_fr ?_ hst (fun x hx e=>by have:=hl3 x (by simpa using hx);omega)
      simp only [List.map_cons,List.map_nil,hpr.out,List.flatMap_cons,List.flatMap_nil,List.append_nil,List.length_singleton]
      exact hown3
     ·exact (((hf01.alloc _).then_new hf3 (fun x hx e=>by have:=own_base hown _ e;omega))).then_new hst (fun x hx e=>by omega)
end
end Go.Proofs.YtbgblfiapecioaaGreat
