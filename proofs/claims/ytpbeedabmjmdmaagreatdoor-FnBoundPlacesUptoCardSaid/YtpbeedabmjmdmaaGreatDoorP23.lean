/- Part of the proof of a statement about pub-berthage: what its texts have in common. -/
import Derived.Deep.QuietTactic
import Derived.BigQuiet
import Derived.Test.YtpbeedabmjmdmaaGreatDoorP11
import Derived.Test.YtpbeedabmjmdmaaGreatDoorP16
import Derived.Test.YtpbeedabmjmdmaaGreatDoorP19
import Derived.Test.YtpbeedabmjmdmaaGreatDoorP20
import Derived.Test.YtpbeedabmjmdmaaGreatDoorP22
namespace Go.Proofs.YtpbeedabmjmdmaaGreatDoor
section
open Go Go.RowKit Go.MapKept Bth
set_option maxRecDepth 100000
theorem MidK.new {k:Nat} {x:Al} (h:NewK k x) (hp:x.prio=fun _=>none):MidK k [] x:=by
 obtain ⟨ids,h1,h2,h3,h4,h5,h6⟩:=h
 exact ⟨ids,h1,h2,hp,h3,h4,h5,h6⟩
theorem AS.start (w0:World) (gs:Nat→AlG) (xs:Nat→Al) (Ps:Nat→Nat→Prop):AS w0 (w0.alloc (.map #[] 0)) w0.heap.size [] gs xs Ps:=
 ⟨⟨[],by
  have e:asF [] gs=fun _=>none:=by funext k;simp [asF]
  rw [e];exact MapAt.made w0 kindV⟩,by simp,by simp,by simp,by simp,Nat.le_refl _⟩
set_option maxHeartbeats 4000000 in
theorem AllocRegs_calls (w0:World) (fs:Nat→Option Nat) (ns:List PN) (fb:Nat) (f:Fn) (nds:List Nd) (rs:List Rec) (cms:List (Nat × List ByteArray)) (mm:Bool→Nat→Nat) (V:Sets) (U:List Nat) (hin:ARIn w0 fs ns fb f nds rs cms mm V U):
  Calls Tryz.prog 46 #[ptr fb] w0 (GivesRB w0 fb f rs V):=by
 have hmm:=@run_makeMap Tryz.prog
 have hrl:=hin.len
 have hfl0:=lt_of_heap hin.st.fn
 have hw1:Fr nope w0 (w0.alloc (.map #[] 0)):=(Fr.refl _ _).alloc _
 have hI:=hin.instrs _ hw1
 have hA0:=AS.start w0 (fun _=>⟨0,0,0,0,⟨none,0,0⟩,⟨none,0,0⟩,[]⟩) (fun _=>⟨[],fun _=>none,fun _=>none,[],fun _=>none⟩) (fun _ _=>False)
 have hK0:∀ k,k∈([]:List Nat)↔∃ v,AP rs 0 0 k v:=fun k=>by simp only [List.not_mem_nil,false_iff];rintro ⟨v,hv⟩;exact AP.start rs k v hv
 unfold ptr
 go_enter Tryz.func46,Tryz.ntmps46
 go_wp2_with fail
 refine hI.mono ?_
 rintro e w1 ⟨v,rfl,hown,hf1⟩
 simp only [List.length_map] at hown
 obtain ⟨A1,c1,rfl,_,_⟩:=own_slice hown
 have hA1:=hA0.still hf1
 have hSl:=own_Sl hown
 rw [List.map_map] at hSl
 have hfw1:=hw1.then hf1
 have hbase:∀ b,Value.ownBlock (.slice A1 rs.length c1)=some b→w0.heap.size < b:=fun b hb=>by have:=own_base hown b hb;simp at this;omega
 replace hbase:=Lib.hid hbase
 replace hK0:=Lib.hid hK0
 replace hmm:=Lib.hid hmm
 go_wp2
 go_loopg [37] rs.length (fun n c37 wr=>∃ (i:Nat) (K:List Nat) (gs:Nat→AlG) (xs:Nat→Al) (Ps:Nat→Nat→Prop),i≤rs.length∧c37 = .int .i64 (i:Int)∧AS w0 wr w0.heap.size K gs xs Ps∧(∀ k,k∈K↔∃ v,AP rs i 0 k v)∧(∀ k∈K,MidK k [] (xs k))∧Sl wr A1 rs.length (List.map (ptr ∘ fun x=>x.b) rs)∧Fr nope w0 wr∧n=rs.length - i)
 case atStart=>exact ⟨0,[],_,_,_,Nat.zero_le _,rfl,hA1,hK0.out,by simp,hSl,hfw1,rfl⟩
 case round=>
  obtain ⟨i,K,gs,xs,Ps,hi,rfl,hAS,hK,hX,hSr,hf,rfl⟩:=hrel
  by_cases hlt:i < rs.length
  ·obtain ⟨b0,off,u,hA1e,hbl,hu,hc⟩:=hSr.at_ hlt
   rw [List.getElem?_map] at hu
   obtain ⟨r,hr,rfl⟩:=Option.map_eq_some_iff.1 hu
   have hrm:=List.mem_of_getElem? hr
   have hrA0:=(hin.st.recs r hrm).1
   have hrA:=hrA0.nope hf
   have hb:=hrA.own.at_
   have hbl2:=lt_of_heap hb
   have hol:=(hin.ol r hrm).2
   have hOut:=InsRegisters_own wr r.i r.ops hrA.opsAt (by omega)
   have hOl:=regsOf_le r.ops
   have hb0:=hbase.out b0 (by rw [hA1e];rfl)
   simp only [Function.comp,ptr] at hc
   replace hr:=Lib.hid hr
   replace hK:=Lib.hid hK
   obtain ⟨wo,rfl⟩:∃ wo:World,wo=wr:=⟨_,rfl⟩
   clear hu
   subst hA1e
   go_wp2_with (first
    | (refine wpList_loadRow (b:=r.b) rfl rfl rfl hb Tryz.underlying130 rfl (by kernel_rfl) ?_)
    | (go_at_call 63;refine hOut.mono ?_;rintro e w2 ⟨A2,c2,rfl,hO2,hR2,hf2⟩))
   have hb2:=own_base hO2
   have hAS2:=hAS.still hf2
   have hSO:=own_Sl hO2
   have hml:=hAS.lt
   have hs2:=hf2.size
   replace hb2:=Lib.hid hb2
   go_loopg [46] (regsOf r.ops).length (fun n c46 wr=>∃ (j:Nat) (K:List Nat) (gs:Nat→AlG) (xs:Nat→Al) (Ps:Nat→Nat→Prop),j≤(regsOf r.ops).length∧c46 = .int .i64 (j:Int)∧AS w0 wr w0.heap.size K gs xs Ps∧Hid (∀ k,k∈K↔∃ v,AP rs i j k v)∧(∀ k∈K,MidK k [] (xs k))∧Sl wr (some ⟨b0,off,none⟩) rs.length (List.map (ptr ∘ fun x=>x.b) rs)∧Sl wr A2 (regsOf r.ops).length ((regsOf r.ops).map R.val)∧Fr nope w0 wr∧n=(regsOf r.ops).length - j)
   case atStart=>exact ⟨0,K,gs,xs,Ps,Nat.zero_le _,rfl,hAS2,hK,hX,hSr.nope hf2,hSO,hf.then hf2,rfl⟩
   case round=>
    clear hAS hAS2 hX hSr hSO hb hK
    obtain ⟨j,K,gs,xs,Ps,hj,rfl,hAS,hK,hX,hSr,hSd,hf',rfl⟩:=hrel
    by_cases hjl:j < (regsOf r.ops).length
    ·obtain ⟨b3,off3,u,hA2e,hbl3,hu,hc3⟩:=hSd.at_ hjl
     rw [List.getElem?_map] at hu
     obtain ⟨d,hd,rfl⟩:=Option.map_eq_some_iff.1 hu
     have hdm:=List.mem_of_getElem? hd
     have hdA0:=regsOf_at hrA0.opsAt d hdm
     have hb3:=hb2.out b3 (by rw [hA2e];rfl)
     have hd3:d.kind≤3:=hin.kinds r hrm d hdm
     have hAP:=fun k v=>AP.step (k:=k) (v:=v) hr.out hd
     have hKs:∀ k,(∃ v,AP rs i (j+1) k v)↔k∈K∨k=d.kind:=fun k=>by
      rw [hK.out]
      constructor
      ·rintro ⟨v,hv⟩
       rcases (hAP k v).1 hv with h | h
       ·exact .inl ⟨v,h⟩
       ·exact .inr h.1.symm
      ·rintro (⟨v,h⟩ | rfl)
       ·exact ⟨v,(hAP k v).2 (.inl h)⟩
       ·exact ⟨d.id,(hAP _ _).2 (.inr ⟨rfl,rfl⟩)⟩
     replace hKs:=Lib.hid hKs
     clear hu hd hAP
     subst hA2e
     obtain ⟨wo2,rfl⟩:∃ wo2:World,wo2=wr:=⟨_,rfl⟩
     have hat:=hdA0.2.nope hf'
     by_cases hk:d.kind∈K
     ·have hlk:∀ W,Fr nope wo2 W→∃ v,(Instr.lookup 163 (.map (some w0.heap.size)) (.int .u8 (d.kind:Int)) true).run Tryz.prog W = .ok (.tuple #[v,.bool true]) W:=fun W hW=>by
       obtain ⟨v,hv⟩:=(hAS.still hW).look2 d.kind
       exact ⟨v,by rw [hv];simp [hk]⟩
      replace hk:=Lib.hid hk
      go_wp2_with (refine wpList_Kind rfl rfl rfl hat ?_;intro w3 hf3;obtain ⟨v3,hv3⟩:=hlk w3 hf3)
      go_roundg ((regsOf r.ops).length - (j+1))
      case measure=>omega
      case rel=>exact ⟨j+1,K,gs,xs,Ps,by omega,by go_num,hAS.still hf3,Lib.hid fun k=>by rw [hKs.out];exact ⟨.inl,fun h=>h.elim id fun e=>by rw [e];exact hk.out⟩,hX,hSr.nope hf3,hSd.nope hf3,hf'.then hf3,rfl⟩
     ·have hlk:∀ W,Fr nope wo2 W→∃ v,(Instr.lookup 163 (.map (some w0.heap.size)) (.int .u8 (d.kind:Int)) true).run Tryz.prog W = .ok (.tuple #[v,.bool false]) W:=fun W hW=>by
       obtain ⟨v,hv⟩:=(hAS.still hW).look2 d.kind
       exact ⟨v,by rw [hv];simp [hk]⟩
      go_upto_region 12 with (first
       | (refine wpList_Kind rfl rfl rfl hat ?_;intro w3 hf3;obtain ⟨v3,hv3⟩:=hlk w3 hf3)
       | (go_at_call 80;refine (NewAllocK_calls w3 d.kind hd3).mono ?_;rintro e w4 ⟨hf4,g,x,hN,hp,rfl,hat4⟩))
      obtain ⟨w5,hu5,hAS5,hf5⟩:=(hAS.still hf3).add hk hat4 hf4
      have hmk:=MidK.new hN hp
      have hf05:Fr nope w0 w5:=((hAS.still hf3).still hf4).frM ((hf'.then hf3).then hf4) hf5
      replace hk:=Lib.hid hk
      replace hp:=Lib.hid hp
      go_wp2
      go_roundg ((regsOf r.ops).length - (j+1))
      case measure=>omega
      case rel=>
       refine ⟨j+1,K ++ [d.kind],_,_,_,by omega,by go_num,hAS5,Lib.hid fun k=>by rw [hKs.out];simp,fun k hk2=>?_,((hSr.nope hf3).nope hf4).fr hf5 (fun _ b o e=>?_),((hSd.nope hf3).nope hf4).fr hf5 (fun _ b o e=>?_),hf05,rfl⟩
       ·by_cases ek:k=d.kind
        ·subst ek;rw [updF_self];exact hmk
        ·rw [updF_ne _ _ ek];exact hX k (by simpa [ek] using hk2)
       ·injection e with e
        injection e with e _
        subst e
        omega
       ·injection e with e
        injection e with e _
        subst e
        omega
    ·have hje:j=(regsOf r.ops).length:=by omega
     subst hje
     go_wp2
     go_roundg (rs.length - (i+1))
     case measure=>omega
     case rel=>
      exact ⟨i+1,K,gs,xs,Ps,by omega,by go_num,hAS,fun k=>by rw [hK.out];exact exists_congr fun v=>AP.row hr.out,hX,hSr,hf',rfl⟩
  ·obtain rfl:i=rs.length:=by omega
   replace hK:=Lib.hid hK
   go_upto_if 38 with (fail)
   iterate 4 (first | go_step | go_back)
   refine phB w0 wr fs ns fb f nds rs cms mm V U hin w0.heap.size K gs xs Ps hAS hf (fun k=>?_) hX
   rw [hK.out]
   constructor
   ·rintro ⟨v,hv⟩
    obtain ⟨r,hr,d,hd,h1,_⟩:=AP.done.1 hv
    exact ⟨r,hr,d,hd,h1⟩
   ·rintro ⟨r,hr,d,hd,h1⟩
    exact ⟨d.id,AP.done.2 ⟨r,hr,d,hd,h1,rfl⟩⟩
end
section
open Go Go.RowKit Go.MapKept Go.Lib Go.Sort Bth
set_option maxRecDepth 100000
noncomputable def pairsT:TypeInfo:=(Tryz.prog.info? 24).get (by kernel_rfl)
noncomputable def pairT:TypeInfo:=(Tryz.prog.info? 29).get (by kernel_rfl)
theorem pairK (n:Nat) (h2:2≤n):Lib.swapperK n pairT 25=5:=by
 have a:pairT.hasPointers=false:=by kernel_rfl
 have b:pairT.bytes=8:=by kernel_rfl
 have c:(n == 0)=false:=by simp;omega
 have d:(n == 1)=false:=by simp;omega
 simp [Lib.swapperK,a,b,c,d]
def pairV (p:Nat × Nat):List Value:=[idV p.1,idV p.2]
def ltPair (a b:Nat × Nat):Bool:=decide (a.1 < b.1)
theorem swo_ltPair:SWO ltPair where
 irrefl x:=by simp [ltPair]
 trans x y z h1 h2:=by simp [ltPair] at *;omega
 ntrans x y z h1 h2:=by simp [ltPair] at *;omega
def LessOwnP (g:FuncId) (lb:Array Value) (w:World) (base b c n:Nat):Prop:=
 ∀ (W:World) (ys:List (Nat × Nat)),Fr (fun x=>x=b) w W→ys.length=n→W.ownsRow base 29 2 (.slice (some ⟨b,0,none⟩) n c) n (ys.flatMap pairV)→∀ i j:Nat,i < n→j < n →
  Calls Tryz.prog g (#[.int .i64 i,.int .i64 j] ++ lb) W fun e w'=>e = .returned (.bool (ltPair (ys.getD i default) (ys.getD j default)))∧∃ q,w'=W.drewN q
def GivesSortedP (w:World) (base:Nat) (v:Value) (xs:List (Nat × Nat)) (e:Ending) (w':World):Prop:=
 e = .returned (.tuple #[])∧∃ ys,SortedOf ltPair xs ys∧w'.ownsRow base 29 2 v xs.length (ys.flatMap pairV)∧Fr (fun b=>v.ownBlock=some b) w w'
theorem sortPairs_calls (w:World) (base:Nat) (A:Option Addr) (c:Nat) (xs:List (Nat × Nat)) (hown:w.ownsRow base 29 2 (.slice A xs.length c) xs.length (xs.flatMap pairV)) (g:FuncId) (lb:Array Value) (eg:∀ args w,(callFunc g args).run Tryz.prog w = .ok (.enter g args) w)
  (hless:∀ b,A=some ⟨b,0,none⟩→LessOwnP g lb w base b c xs.length) (hsz:xs.length < 4611686018427387904):
  Calls Tryz.prog 90 #[.iface 24 (.slice A xs.length c),.func (.func g) #[] lb] w (GivesSortedP w base (.slice A xs.length c) xs):=by
 have hk2:∀ x:Nat × Nat,(pairV x).length=2:=fun _=>rfl
 by_cases h2:2≤xs.length
 ·obtain ⟨b,rfl,hb,_⟩:=own_cells hown (by omega)
  have hS:=Any.sort_Slice_cells_sorted sl6 24 29 pairsT pairT (by kernel_rfl) (by kernel_rfl) (by kernel_rfl) (by kernel_rfl) 25 (fun _=>by kernel_rfl) pairV 2 hk2 (by kernel_rfl) (fun _=>by kernel_rfl)
   (fun x v hv=>by simp [pairV] at hv;rcases hv with rfl | rfl<;>rfl) ltPair swo_ltPair g lb eg b 0 c xs.toArray (by simpa using h2) (by simpa using hsz)
   144 (by rw [pairK _ (by simpa using h2)];kernel_rfl) true
   (fun args W=>run_callFunc_extern Tryz.func144 (by kernel_rfl) (by kernel_rfl) (by kernel_rfl) (e:=Extern.ReflectliteSwapper.swap true) (by kernel_rfl) args W) w
   (fun m os dk hs i j hi hj=>by
    have hs':dk.size=xs.length:=by simpa using hs
    have hw:=hless b rfl (sorted w b m (flatK pairV 2 dk) os) dk.toList (sorted_fr _ _ _ _ _) (by simpa using hs') (by
     have:=sorted_own (m:=m) (os:=os) (F:=flatK pairV 2 dk) hown (by simp [hs'])
     rw [flatK_list pairV 2 hk2 (by omega) dk.toList] at this
     exact this) i j (by simpa using hi) (by simpa using hj)
    have e1:∀ t,t < xs.length→dk.toList.getD t default=dk[t]!:=fun t ht=>by
     rw [getElem!_pos dk t (by omega),List.getD_eq_getElem?_getD,Array.getElem?_toList,Array.getElem?_eq_getElem (by omega)];rfl
    rw [e1 i (by simpa using hi),e1 j (by simpa using hj)] at hw
    exact hw)
   (own_holdsK hk2 (by omega) hown) hb
  have hsz2:xs.toArray.size=xs.length:=by simp
  rw [hsz2] at hS
  refine Calls.mono hS ?_
  rintro e w' ⟨rfl,d',m,os,hp,hso,rfl⟩
  obtain ⟨h3,h4⟩:=sortedOf_of (by simpa using hp) (by simpa using hso)
  refine ⟨rfl,d'.toList,h3,?_,(sorted_fr w b m _ os).mono fun x _ e=>by rw [e];rfl⟩
  have:=sorted_own (m:=m) (os:=os) (F:=flatK pairV 2 d') hown (by simp [h4])
  rw [flatK_list pairV 2 hk2 (by omega) d'.toList] at this
  exact this
 ·have h1:xs.length=0∨xs.length=1:=by omega
  rcases h1 with h1 | h1
  ·have hS:=Any.sort_Slice_tiny sl6 24 29 pairsT pairT (by kernel_rfl) (by kernel_rfl) (by kernel_rfl) (by kernel_rfl) 25 (fun _=>by kernel_rfl) A xs.length c (by omega) 140 (by rw [h1];kernel_rfl) (.func g) #[] lb w
   refine Calls.mono hS ?_
   rintro e w' ⟨rfl,os,rfl⟩
   exact ⟨rfl,xs,.tiny (by omega),own_fr hown (fr_grow w os) (fun _ _ x=>x),(fr_grow w os).of_nope⟩
  ·have hS:=Any.sort_Slice_tiny sl6 24 29 pairsT pairT (by kernel_rfl) (by kernel_rfl) (by kernel_rfl) (by kernel_rfl) 25 (fun _=>by kernel_rfl) A xs.length c (by omega) 141 (by rw [h1];kernel_rfl) (.func g) #[] lb w
   refine Calls.mono hS ?_
   rintro e w' ⟨rfl,os,rfl⟩
   exact ⟨rfl,xs,.tiny (by omega),own_fr hown (fr_grow w os) (fun _ _ x=>x),(fr_grow w os).of_nope⟩
theorem pairs_get {ys:List (Nat × Nat)} {i:Nat} {p:Nat × Nat} (h:ys[i]? = some p):(ys.flatMap pairV)[i*2]? = some (idV p.1):=by
 induction ys generalizing i with
 | nil=>simp at h
 | cons a ys ih=>
  cases i with
  | zero=>simp only [List.getElem?_cons_zero,Option.some.injEq] at h;subst h;rfl
  | succ i=>
   simp only [List.getElem?_cons_succ] at h
   rw [List.flatMap_cons,Nat.succ_mul,List.getElem?_append_right (by simp [pairV])]
   simpa [pairV] using ih h
set_option maxHeartbeats 1000000 in
theorem lessPair_calls (W:World) (Bs b n c base:Nat) (ys:List (Nat × Nat)) (hB:W.cell? ⟨Bs,0,none⟩=some (.slice (some ⟨b,0,none⟩) n c)) (hl:ys.length=n)
  (hown:W.ownsRow base 29 2 (.slice (some ⟨b,0,none⟩) n c) n (ys.flatMap pairV)) (i j:Nat) (hi:i < n) (hj:j < n):
  Calls Tryz.prog 91 #[.int .i64 i,.int .i64 j,ptr Bs] W fun e w'=>e = .returned (.bool (ltPair (ys.getD i default) (ys.getD j default)))∧∃ q,w'=W.drewN q:=by
 obtain ⟨x,hx⟩:∃ x,ys[i]? = some x:=⟨_,List.getElem?_eq_getElem (by omega)⟩
 obtain ⟨y,hy⟩:∃ y,ys[j]? = some y:=⟨_,List.getElem?_eq_getElem (by omega)⟩
 have hci:=(own_cur hown (i*2) _ (pairs_get hx)).1
 have hcj:=(own_cur hown (j*2) _ (pairs_get hy)).1
 have hxd:ys.getD i default=x:=by rw [List.getD_eq_getElem?_getD,hx];rfl
 have hyd:ys.getD j default=y:=by rw [List.getD_eq_getElem?_getD,hy];rfl
 rw [hxd,hyd]
 unfold ltPair
 unfold idV at hci hcj
 unfold ptr
 have hi':(0:Int)≤(i:Int):=by omega
 have hj':(0:Int)≤(j:Int):=by omega
 have hii:(i:Int) < (n:Int):=by omega
 have hjj:(j:Int) < (n:Int):=by omega
 clear hown hx hy hxd hyd hl
 go_enter Tryz.func91,Tryz.ntmps91
 go_wp2
 go_quiet (fail)
 go_wp2
 go_ret
 exact ⟨rfl,_,rfl⟩
end
section
open Go Go.RowKit Go.MapKept Bth
set_option maxRecDepth 100000
theorem infoPair:(Tryz.prog.info? 29).map (fun i=>(i.zero,i.size,i.bytes))=some (some (.agg #[.int .u32 0,.int .u32 0]),2,8):=by kernel_rfl
theorem cells_new (w:World) (cs:List Value) (t:TypeId) (b:Nat) (hb:b=w.heap.size):∃ ad,some (⟨b,0,none⟩:Addr)=some ad∧∀ j u,cs[j]? = some u→(w.alloc (.cells cs.toArray t)).cell? (ad.add j)=some u:=by
 subst hb
 refine ⟨_,rfl,fun j u hu=>?_⟩
 have e:(⟨w.heap.size,0,none⟩:Addr).add j=⟨w.heap.size,j,none⟩:=by unfold Addr.add;split<;>simp_all
 rw [e,cell_of_row _ _ j cs.toArray t (0,0) (heap_alloc_new w _)]
 simpa using hu
def PairsOf (f:Nat→Option Nat) (l:List (Nat × Nat)):Prop:=(∀ p,p∈l↔f p.1=some p.2)∧l.Pairwise fun a b=>a.1 < b.1
def GivesPairs (w:World) (f:Nat→Option Nat) (e:Ending) (w':World):Prop:=
 Fr nope w w'∧∃ (A:Option Addr) (c:Nat) (l:List (Nat × Nat)),PairsOf f l∧e = .returned (.slice A l.length c)∧w'.ownsRow w.heap.size 29 2 (.slice A l.length c) l.length (l.flatMap pairV)
def prOf (f:Nat→Option Nat) (k:Nat):Nat × Nat:=(k,(f k).getD 0)
def imgP (f:Nat→Option Nat) (k:Nat):Option Value:=(f k).map idV
theorem pairs_of {f:Nat→Option Nat} {ks D ys:List Nat} {l:List (Nat × Nat)} (hk:∀ k,k∈D↔f k≠none) (hn:D.Nodup) (h:SortedOf ltPair (D.map (prOf f)) l) (_:ks=ys):PairsOf f l:=by
 obtain ⟨hp,hs⟩:=h
 refine ⟨fun p=>?_,?_⟩
 ·rw [hp.mem_iff,List.mem_map]
  constructor
  ·rintro ⟨k,hkD,rfl⟩
   have:=(hk k).1 hkD
   unfold prOf
   cases hf:f k with
   | none=>exact absurd hf this
   | some v=>simp
  ·intro h
   exact ⟨p.1,(hk _).2 (by rw [h];simp),by unfold prOf;rw [h];rfl⟩
 ·have hnd:(l.map (·.1)).Nodup:=by
   have h1:((D.map (prOf f)).map (·.1)).Nodup:=by
    rw [List.map_map]
    have:(fun x:Nat × Nat=>x.1) ∘ prOf f=id:=by funext k;rfl
    rw [this,List.map_id]
    exact hn
   exact (hp.map _).nodup_iff.2 h1
  have hnd2:l.Pairwise fun a b=>a.1≠b.1:=by
   have:=List.pairwise_map.1 (show (l.map (·.1)).Pairwise (· ≠ ·) from hnd)
   exact this
  refine (hs.and hnd2).imp fun {a b} hab=>?_
  have:=hab.1
  simp only [ltPair,decide_eq_false_iff_not] at this
  omega
set_option maxHeartbeats 2000000 in
theorem plainAlloc_calls (w:World) (b:Nat) (f:Nat→Option Nat) (hb:IdMap w b f) (n:Nat) (hfew:∀ D:List Nat,D.Nodup→(∀ k∈D,f k≠none)→D.length≤n) (hn:n≤1000000000):
  Calls Tryz.prog 47 #[.map (some b)] w (GivesPairs w f):=by
 obtain ⟨ks,hM⟩:=hb
 have hO:MapO w (some b) idV ks (imgP f):=hM
 have hks:∀ k,k∈ks↔f k≠none:=fun k=>by rw [hM.mem_iff];cases f k<;>simp
 have hnd:=hM.nodup
 have hbl:=hM.lt
 replace hks:=Lib.hid hks
 clear hM
 go_enter Tryz.func47,Tryz.ntmps47
 go_wp2_with (refine wpList_rangeO rfl rfl rfl (MapO.fr hO ((Fr.refl nope w).alloc _) (fun _ _ x=>x)) idInj allocT ?_;intro w0 hrg0 hf0 hs0)
 go_frame
 have hBs0:w0.heap[w.heap.size]? = some (.cells #[.slice none 0 0] 24 (0,0)):=hf0.heap (heap_alloc_new w _) (fun x=>x)
 have hs00:w0.heap.size=w.heap.size+2:=by rw [hs0];simp
 have e1:(w.alloc (Obj.cells #[Value.slice none 0 0] 24)).heap.size=w.heap.size+1:=by simp
 have hfw0:Fr nope w w0:=((Fr.refl nope w).alloc _).then hf0
 rw [e1] at hrg0
 try rw [e1]
 replace e1:=Lib.hid e1
 replace hs0:=Lib.hid hs0
 go_loopg [] ks.length (fun n wr=>∃ (todo D:List Nat) (A:Option Addr) (c:Nat),RangeO wr (w.heap.size+1) (some b) idV ks (imgP f) todo∧wr.heap[w.heap.size]? = some (.cells #[.slice A D.length c] 24 (0,0))∧wr.ownsRow (w.heap.size+2) 29 2 (.slice A D.length c) D.length ((D.map (prOf f)).flatMap pairV)∧KInv ks todo D∧Fr nope w wr∧w.heap.size+2≤wr.heap.size∧todo.length=n)
 case atStart=>exact ⟨ks,[],none,0,hrg0,hBs0,own_nil _ _ _ _,⟨hnd,List.nodup_nil,by simp,by simp⟩,hfw0,Nat.le_of_eq hs00.symm,rfl⟩
 case round=>
  obtain ⟨todo,D,A,c,hrg,hBs,hown,hI,hf,hsz,rfl⟩:=hrel
  have hBl:=lt_of_heap hBs
  have hDn:D.length≤n:=hfew D hI.dn fun k hk=>(hks.out k).1 ((hI.mem k).2 (.inl hk))
  go_wp2_with (refine wpList_nextO rfl rfl rfl hrg idInj ?_ ?_)
  ·intro h0
   subst h0
   have hDk:∀ k,k∈D↔f k≠none:=fun k=>by rw [← hks.out,hI.mem];simp
   have hdn:=hI.dn
   have hcB:wr.cell? ⟨w.heap.size,0,none⟩=some (.slice A D.length c):=by rw [cell_of_row wr _ 0 _ _ (0,0) hBs];rfl
   have hlm:(D.map (prOf f)).length=D.length:=List.length_map ..
   have hS:=sortPairs_calls wr _ A c _ (show wr.ownsRow _ _ 2 (.slice A (D.map (prOf f)).length c) (D.map (prOf f)).length _ from by rw [hlm];exact hown) 91 #[ptr w.heap.size] (fun args w=>enters_of Tryz.func91 (by kernel_rfl) rfl args w) (fun b2 hb2=>by
    subst hb2
    intro W ys hW hl ho i j hi hj
    exact lessPair_calls W w.heap.size b2 _ c _ ys (hW.cell (by rw [hlm];exact hcB) (fun e=>by have:=own_base hown b2 rfl;have e':w.heap.size=b2:=e;omega)) hl ho i j hi hj) (by rw [hlm];omega)
   rw [hlm] at hS
   have hne:∀ b2,Value.ownBlock (.slice A D.length c)=some b2→w.heap.size+2≤b2:=own_base hown
   replace hDk:=Lib.hid hDk
   replace hne:=Lib.hid hne
   unfold ptr at hS
   replace hlm:=Lib.hid hlm
   clear hI hrg
   go_wp2_with fail
   refine hS.mono ?_
   rintro e w5 ⟨rfl,ys,hys,ho5,hf5⟩
   have hB5:=hf5.heap hBs (fun e=>by have:=hne.out _ e;omega)
   have hc5:w5.cell? ⟨w.heap.size,0,none⟩=some (.slice A D.length c):=by rw [cell_of_row w5 _ 0 _ _ (0,0) hB5];rfl
   have hB5l:=lt_of_heap hB5
   have hyl:=hys.1.length_eq
   rw [hlm.out] at hyl ho5
   replace hyl:=Lib.hid hyl
   go_wp2
   go_ret
   refine ⟨hf.then_new hf5 (fun c hc e=>by have:=hne.out _ e;omega),A,c,ys,pairs_of (ks:=ks) (ys:=ks) hDk.out hdn hys rfl,?_,?_⟩
   ·rw [hyl.out];rfl
   ·rw [hyl.out];exact own_le ho5 (by omega)
  ·intro k v w1 hkt hkk hv hrg1 hf1 hs1 hen
   obtain ⟨p,hp,rfl⟩:∃ p,f k=some p∧v=idV p:=by
    unfold imgP at hv
    obtain ⟨p,h1,h2⟩:=Option.map_eq_some_iff.1 hv
    exact ⟨p,h1,h2.symm⟩
   have hI1:=hI.step hkt
   have hlen:(todo.erase k).length < todo.length:=by rw [List.length_erase_of_mem hkt];have:=List.length_pos_of_mem hkt;omega
   have hB1:=hf1.heap hBs (by omega)
   have hc1:w1.cell? ⟨w.heap.size,0,none⟩=some (.slice A D.length c):=by rw [cell_of_row w1 _ 0 _ _ (0,0) hB1];rfl
   have hB1l:=lt_of_heap hB1
   have hown1:=own_fr hown hf1 (fun b hb e=>by have:=own_base hown b hb;omega)
   have hpr:prOf f k=(k,p):=by unfold prOf;rw [hp];rfl
   have hf01:Fr nope w w1:=hf.then_new hf1 (fun c hc e=>by omega)
   have hs1':wr.heap.size≤w1.heap.size:=Nat.le_of_eq hs1.symm
   replace hs1:=Lib.hid hs1
   replace hp:=Lib.hid hp
   replace hpr:=Lib.hid hpr
   clear hv hrg hBs
   unfold idV at hen
   go_wp2_with (refine wpList_app (v:=.slice A D.length c) rfl rfl Tryz.underlying24 infoPair rfl (by omega) rfl (own_fr hown1 ((Fr.refl nope _).alloc _) (fun _ _ x=>x)) rfl (news:=pairV (k,p)) rfl (fun _=>cells_new _ _ _ _ (by simp)) (by simp [Value.oneCell',pairV,idV]) (by simp only [maxLen];omega) (by omega) (by simp;omega) ?hk)
   case hk=>
    intro v3 w3 hown3 hf3 hb3
    obtain ⟨A3,c3,rfl,_,_⟩:=own_slice hown3
    have hnb:¬Value.ownBlock (.slice A D.length c)=some w.heap.size:=fun e=>by have:=own_base hown _ e;omega
    have hB3:=hf3.heap (((Fr.refl nope w1).alloc _).heap hB1 (fun x=>x)) hnb
    have hc3':w3.cell? ⟨w.heap.size,0,none⟩=some (.slice A D.length c):=by rw [cell_of_row w3 _ 0 _ _ (0,0) hB3];rfl
    have hz3:=frozen_row hB3 0
    have hB3l:=lt_of_heap hB3
    replace hb3:=Lib.hid hb3
    go_wp2
    have hst:Fr (fun x=>x=w.heap.size) w3 (w3.setCell ⟨w.heap.size,0,none⟩ (.slice A3 (D.length+1) c3)):=(Fr.refl (fun x=>x=w.heap.size) w3).setCell (.inl rfl) _
    go_roundg (todo.erase k).length
    case measure=>exact hlen
    case rel=>
     have hsz3:=hf3.size
     simp at hsz3
     have hs4:(w3.setCell ⟨w.heap.size,0,none⟩ (.slice A3 (D.length+1) c3)).heap.size=w3.heap.size:=by simp [World.setCell]
     have hl3:∀ x,Value.ownBlock (.slice A3 (D.length+1) c3)=some x→w.heap.size+2≤x:=own_base hown3
     refine ⟨_,D ++ [k],A3,c3,((hrg1.fr ((Fr.refl nope w1).alloc _) (fun x=>x) (fun _ _ x=>x)).fr hf3 (fun e=>by have:=own_base hown _ e;omega) (fun b2 hb2 e=>by injection hb2 with hb2;subst hb2;have:=own_base hown _ e;omega)).fr hst (by omega) (fun b2 hb2 e=>by injection hb2 with hb2;omega),?_,?_,hI1,?_,by omega,rfl⟩
     ·rw [List.length_append];exact setCell_heap hB3 _
     ·rw [List.length_append,List.map_append,List.flatMap_append]
      refine own_fr ?_ hst (fun x hx e=>by have:=hl3 x (by simpa using hx);omega)
      simp only [List.map_cons,List.map_nil,hpr.out,List.flatMap_cons,List.flatMap_nil,List.append_nil,List.length_singleton]
      exact hown3
     ·exact (((hf01.alloc _).then_new hf3 (fun x hx e=>by have:=own_base hown _ e;omega))).then_new hst (fun x hx e=>by omega)
end
section
open Go Go.RowKit Bth
set_option maxRecDepth 100000
def G.id (g:G):Nat:=(if g.virt then 1 else 0)+g.kind*256+g.idx*65536
theorem R.id_plain (r:R):r.id=r.plain.id:=rfl
def PO.gs (p:PO):List G:=if p.kind=1 then [p.reg] else if p.kind=2 then (if p.hasBase then [p.base] else []) ++ (if p.hasIndex then [p.index] else []) else []
def gsOf (ps:List PO):List G:=ps.flatMap PO.gs
def PO.asG (p:PO):Option G:=if p.kind=1 then some p.reg else none
def outGs (ps:List PO):List G:=ps.filterMap PO.asG
def inGs (canc:Bool) (ins outs:List PO):List G:=
 (match canc,gsOf ins with
  | true,g :: g' :: l=>if g=g' then [] else g :: g' :: l
  | _,l=>l) ++ gsOf (outs.filter fun p=>p.kind == 2)
theorem WAt.plain {w:World} {wb:Nat} {fs:Nat→Option Nat} (h:WAt w wb fs) {g:G} (hg:g.Ok) {r:R} (hr:regOf fs g=some r):r.plain=g:=by
 obtain ⟨h1,h2,h3,h4,_⟩:=h.reg hg hr
 unfold R.plain
 rw [h1,h2,h3,h4]
theorem opOf_regs {w:World} {wb:Nat} {fs:Nat→Option Nat} (h:WAt w wb fs) {p:PO} (hp:p.Ok) {o:O} (ho:opOf fs p=some o):(o.regs.map R.plain=p.gs)∧(o.asReg.map R.plain=p.asG)∧(o.isMem=(p.kind == 2))∧∀ r∈o.regs,∃ g∈p.gs,regOf fs g=some r:=by
 unfold opOf at ho
 split at ho
 ·rename_i h1
  obtain ⟨r,hr,rfl⟩:=Option.map_eq_some_iff.1 ho
  have e:=h.plain hp.reg hr
  refine ⟨?_,?_,?_,?_⟩
  ·simp [O.regs,PO.gs,h1,e]
  ·simp [O.asReg,PO.asG,h1,e]
  ·simp [O.isMem,h1]
  ·intro r' hr'
   obtain rfl:r'=r:=by simpa [O.regs] using hr'
   exact ⟨p.reg,by simp [PO.gs,h1],hr⟩
 rename_i h1
 split at ho
 ·rename_i h2
  obtain ⟨m,hm,rfl⟩:=Option.map_eq_some_iff.1 ho
  obtain ⟨_,b,i,hb,hi,rfl⟩:=memOf_parts hm
  have key:∀ {has:Bool} {g:G} {x:Option R},g.Ok→optReg fs has g=some x→x.toList.map R.plain=(if has then [g] else [])∧∀ r∈x.toList,regOf fs g=some r∧has=true:=by
   intro has g x hg hx
   unfold optReg at hx
   split at hx
   ·rename_i hh
    obtain ⟨r,hr,rfl⟩:=Option.map_eq_some_iff.1 hx
    exact ⟨by simp [hh,h.plain hg hr],by simp [hr,hh]⟩
   ·rename_i hh
    injection hx with hx
    subst hx
    exact ⟨by simp [hh],by simp⟩
  obtain ⟨kb,kb2⟩:=key hp.base hb
  obtain ⟨ki,ki2⟩:=key hp.index hi
  refine ⟨?_,?_,?_,?_⟩
  ·unfold PO.gs
   rw [if_neg h1,if_pos h2]
   simp only [O.regs,M.regs,List.map_append,kb,ki]
  ·simp [O.asReg,PO.asG,h1]
  ·simp [O.isMem,h2]
  ·intro r hr
   simp only [O.regs,M.regs,List.mem_append] at hr
   rcases hr with hr | hr
   ·obtain ⟨e1,e2⟩:=kb2 r hr
    exact ⟨p.base,by simp [PO.gs,h2,e2],e1⟩
   ·obtain ⟨e1,e2⟩:=ki2 r hr
    exact ⟨p.index,by simp [PO.gs,h2,e2],e1⟩
 rename_i h2
 have hno:p.gs=[]∧p.asG=none∧(p.kind == 2)=false:=by simp [PO.gs,PO.asG,h1,h2]
 rw [hno.1,hno.2.1,hno.2.2]
 split at ho
 ·obtain ⟨c,hc,rfl⟩:=Option.map_eq_some_iff.1 ho
  exact ⟨rfl,rfl,rfl,by simp [O.regs]⟩
 split at ho
 ·injection ho with ho;subst ho;exact ⟨rfl,rfl,rfl,by simp [O.regs]⟩
 split at ho
 ·injection ho with ho;subst ho;exact ⟨rfl,rfl,rfl,by simp [O.regs]⟩
 ·cases ho
theorem pOps_regs {w:World} {wb:Nat} {fs:Nat→Option Nat} (h:WAt w wb fs):∀ {ps:List PO} {os:List O},(∀ p∈ps,p.Ok)→pOps fs ps=some os →
  (regsOf os).map R.plain=gsOf ps∧(outRegs os).map R.plain=outGs ps∧(regsOf (os.filter O.isMem)).map R.plain=gsOf (ps.filter fun p=>p.kind == 2)∧∀ r∈regsOf os,∃ g∈gsOf ps,regOf fs g=some r:=by
 intro ps
 induction ps with
 | nil=>
  intro os _ ho
  simp only [pOps,Option.some.injEq] at ho
  subst ho
  exact ⟨rfl,rfl,rfl,by simp [regsOf]⟩
 | cons p ps ih=>
  intro os hp ho
  simp only [pOps] at ho
  obtain ⟨o,e1,e2⟩:=Option.bind_eq_some_iff.1 ho
  obtain ⟨os',e3,rfl⟩:=Option.map_eq_some_iff.1 e2
  obtain ⟨g1,g2,g3,g4⟩:=opOf_regs h (hp p (by simp)) e1
  obtain ⟨k1,k2,k3,k4⟩:=ih (fun q hq=>hp q (by simp [hq])) e3
  refine ⟨?_,?_,?_,?_⟩
  ·show (o.regs ++ regsOf os').map R.plain=p.gs ++ gsOf ps
   rw [List.map_append,g1,k1]
  ·unfold outRegs outGs at k2 ⊢
   rw [List.filterMap_cons,List.filterMap_cons]
   cases ha:o.asReg with
   | none=>
    rw [ha] at g2
    rw [← g2]
    exact k2
   | some r=>
    rw [ha] at g2
    rw [← g2]
    simp only [Option.map_some,List.map_cons,k2]
  ·rw [List.filter_cons,List.filter_cons,g3]
   split
   ·show (o.regs ++ regsOf (os'.filter O.isMem)).map R.plain=p.gs ++ gsOf _
    rw [List.map_append,g1,k3]
   ·exact k3
  ·intro r hr
   have hr:r∈o.regs ++ regsOf os':=hr
   show ∃ g∈p.gs ++ gsOf ps,_
   rcases List.mem_append.1 hr with hr | hr
   ·obtain ⟨g,h1,h2⟩:=g4 r hr
    exact ⟨g,List.mem_append_left _ h1,h2⟩
   ·obtain ⟨g,h1,h2⟩:=k4 r hr
    exact ⟨g,List.mem_append_right _ h1,h2⟩
theorem gsOf_ok {ps:List PO} (hp:∀ p∈ps,p.Ok):∀ g∈gsOf ps,g.Ok:=by
 intro g hg
 obtain ⟨p,hpm,hg⟩:=List.mem_flatMap.1 hg
 have hk:=hp p hpm
 unfold PO.gs at hg
 split at hg
 ·obtain rfl:g=p.reg:=by simpa using hg
  exact hk.reg
 split at hg
 ·rcases List.mem_append.1 hg with hg | hg
  ·split at hg
   ·obtain rfl:g=p.base:=by simpa using hg
    exact hk.base
   ·cases hg
  ·split at hg
   ·obtain rfl:g=p.index:=by simpa using hg
    exact hk.index
   ·cases hg
 ·cases hg
theorem wk_inj {a b:Nat} (ha:a≤3) (hb:b≤3) (h:wk a=wk b):a=b:=by
 unfold wk at h
 split at h<;>split at h<;>omega
theorem same_plain {w:World} {wb:Nat} {fs:Nat→Option Nat} (h:WAt w wb fs) {g g':G} (hg:g.Ok) (hg':g'.Ok) {r r':R} (hr:regOf fs g=some r) (hr':regOf fs g'=some r'):r.same r'=decide (g=g'):=by
 have e1:=h.plain hg hr
 have e2:=h.plain hg' hr'
 have hk3:∀ {g:G} {r:R},regOf fs g=some r→r.virt=false→g.virt=false→g.kind≤3:=by
  intro g r hr _ hv
  unfold regOf at hr
  rw [if_neg (by simp [hv])] at hr
  unfold physOf at hr
  obtain ⟨fb,e,_⟩:=Option.bind_eq_some_iff.1 hr
  exact (h.2 _ fb e).1
 rw [Bool.eq_iff_iff,decide_eq_true_eq]
 constructor
 ·intro hs
  unfold R.same at hs
  simp only [Bool.and_eq_true,beq_iff_eq] at hs
  obtain ⟨⟨⟨h1,h2⟩,h3,h4⟩,h5⟩:=hs
  have hkk:r.kind=r'.kind:=by
   cases hv:r.virt with
   | true=>rw [hv,if_pos rfl] at h5;exact beq_iff_eq.1 h5
   | false=>
    have hgv:g.virt=false:=by rw [← e1];exact hv
    have hgv':g'.virt=false:=by rw [← e2];rw [h1] at hv;exact hv
    have k1:=hk3 hr hv hgv
    have k2:=hk3 hr' (by rw [← h1];exact hv) hgv'
    have a1:r.kind=g.kind:=by rw [← e1];rfl
    have a2:r'.kind=g'.kind:=by rw [← e2];rfl
    exact wk_inj (by omega) (by omega) h2
  rw [← e1,← e2]
  unfold R.plain
  rw [h1,hkk,h3,h4]
 ·rintro rfl
  rw [hr] at hr'
  injection hr' with hr'
  subst hr'
  have hn:(r.name == r.name)=true:=by first | exact beq_self_eq_true _ | (show (r.name.data == r.name.data)=true;simp) | (cases r.name;rfl) | exact decide_eq_true rfl
  unfold R.same
  cases r.virt<;>simp [hn]
theorem inRegs_plain {w:World} {wb:Nat} {fs:Nat→Option Nat} (h:WAt w wb fs) {ps qs:List PO} {os us:List O} (canc:Bool) (hp:∀ p∈ps,p.Ok) (hq:∀ p∈qs,p.Ok) (ho:pOps fs ps=some os) (hu:pOps fs qs=some us):(inRegs canc os us).map R.plain=inGs canc ps qs:=by
 obtain ⟨k1,_,_,k4⟩:=pOps_regs h hp ho
 obtain ⟨_,_,k3,_⟩:=pOps_regs h hq hu
 have hok:=gsOf_ok hp
 unfold inRegs inGs
 rw [List.map_append,k3]
 congr 1
 cases canc with
 | false=>simp only;exact k1
 | true=>
  match hl:regsOf os,k1 with
  | [],k1=>rw [← k1];rfl
  | [r],k1=>rw [← k1];rfl
  | r :: r' :: l,k1=>
   rw [← k1]
   simp only [List.map_cons]
   obtain ⟨g,hg,hr⟩:=k4 r (by rw [hl];simp)
   obtain ⟨g',hg',hr'⟩:=k4 r' (by rw [hl];simp)
   have e1:=h.plain (hok g hg) hr
   have e2:=h.plain (hok g' hg') hr'
   rw [same_plain h (hok g hg) (hok g' hg') hr hr',e1,e2]
   by_cases e:g=g'<;>simp [e,e1,e2]
end
end Go.Proofs.YtpbeedabmjmdmaaGreatDoor
