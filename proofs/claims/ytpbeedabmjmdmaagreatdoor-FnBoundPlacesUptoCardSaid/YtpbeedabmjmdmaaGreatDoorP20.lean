/- Part of the proof of a statement about pub-berthage: what its texts have in common. -/
import Derived.Deep.Cut
import Derived.Deep.CutBlock
import Derived.Test.YtpbeedabmjmdmaaGreatDoorP03
import Derived.Test.YtpbeedabmjmdmaaGreatDoorP08
import Derived.Test.YtpbeedabmjmdmaaGreatDoorP19
namespace Go.Proofs.YtpbeedabmjmdmaaGreatDoor
section
open Go Go.RowKit Go.MapKept Bth
open Go.ChangeMaps (setBlock)
set_option maxRecDepth 100000
theorem u8_and (a b:Nat) (ha:a < 256) (hb:b < 256):Go.bits .and .u8 (a:Int) (b:Int)=((a &&& b:Nat):Int):=by
 have hx:a &&& b < 2 ^ 8:=Nat.and_lt_two_pow _ (by omega)
 show IntKind.u8.wrap ((BitVec.ofInt 8 (a:Int) &&& BitVec.ofInt 8 (b:Int)).toNat:Int)=_
 rw [BitVec.toNat_and,ofInt_u8 a ha,ofInt_u8 b hb,wrap_u8 _ (by omega)]
def SetAt (w:World) (b:Nat) (S:List Nat):Prop:=∃ ks,MapAt w b idV ks fun k=>if k∈S then some (.bool true) else none
theorem setT:Tryz.prog.underlying 262=some (.map 123 4):=Tryz.underlying262
theorem SetAt.put {w:World} {b:Nat} {S:List Nat} (h:SetAt w b S) (k:Nat):
  ∃ w',(Instr.mapUpdate 262 (.map (some b)) (.int .u32 (k:Int)) (.bool true)).run Tryz.prog w = .ok () w'∧SetAt w' b (S ++ [k])∧Fr (fun x=>x=b) w w'∧w'.heap.size=w.heap.size:=by
 obtain ⟨ks,hM⟩:=h
 obtain ⟨es,clock,h1,h2⟩:=hM.update idKey setT k (.bool true)
 have e:(fun x=>if x∈S ++ [k] then some (Value.bool true) else none)=updM (fun x=>if x∈S then some (Value.bool true) else none) k (some (.bool true)):=by
  funext x
  unfold updM
  by_cases hx:x=k<;>simp [hx]
 rw [← e] at h2
 exact ⟨setBlock w b (.map es clock),h1,⟨_,h2⟩,(Fr.refl (fun x=>x=b) w).setBlock (.inl rfl) _,by simp [setBlock]⟩
theorem SetAt.fr {S:Nat→Prop} {w w':World} {b:Nat} {l:List Nat} (h:SetAt w b l) (hf:Fr S w w') (hs:¬S b):SetAt w' b l:=by obtain ⟨ks,hm⟩:=h;exact ⟨ks,hm.fr hf hs⟩
def freeIds (rs:List R):List Nat:=(rs.filter fun r=>r.info &&& 2 == 0).map R.id
theorem freeIds_take {rs:List R} {k:Nat} {r:R} (h:rs[k]? = some r):freeIds (rs.take (k+1))=freeIds (rs.take k) ++ if r.info &&& 2=0 then [r.id] else []:=by
 unfold freeIds
 rw [List.take_add_one,h,List.filter_append,List.map_append]
 congr 1
 by_cases hi:r.info &&& 2=0<;>simp [hi]
structure KInv (ks todo D:List Nat):Prop where
 nd:todo.Nodup
 dn:D.Nodup
 mem:∀ k,k∈ks↔k∈D∨k∈todo
 ap:∀ k,k∈D→k∉todo
theorem KInv.step {ks todo D:List Nat} (h:KInv ks todo D) {k:Nat} (hk:k∈todo):KInv ks (todo.erase k) (D ++ [k]):=by
 refine ⟨h.nd.erase k,List.nodup_append.2 ⟨h.dn,by simp,fun a ha b hb e=>?_⟩,fun x=>?_,fun x hx=>?_⟩
 ·obtain rfl:b=k:=by simpa using hb
  subst e
  exact h.ap a ha hk
 ·rw [h.mem,List.Nodup.mem_erase_iff h.nd,List.mem_append,List.mem_singleton]
  by_cases e:x=k
  ·subst e;simp [hk]
  ·simp [e]
 ·rw [List.Nodup.mem_erase_iff h.nd]
  rcases List.mem_append.1 hx with hx | hx
  ·exact fun hh=>h.ap x hx hh.2
  ·obtain rfl:x=k:=by simpa using hx
   exact fun hh=>hh.1 rfl
def newer (w w':World):Nat→Prop:=fun c=>w.heap.size≤c∧c < w'.heap.size
theorem NewEmptyAl_calls (w:World):Calls Tryz.prog 57 #[] w fun e w'=>e = .returned (.map (some w.heap.size))∧w'=w.alloc (.map #[] 0):=by
 have hmm:=@run_makeMap Tryz.prog
 go_enter Tryz.func57,Tryz.ntmps57
 go_wp2
 go_ret
 exact ⟨rfl,rfl⟩
def freshG (N:Nat) (s:SV):AlG:=⟨N+1+1+1,N,N+1,N+1+1,s,⟨none,0,0⟩,[]⟩
def freshW (wr:World) (s:SV):World:=(((wr.alloc (.map #[] 0)).alloc (.map #[] 0)).alloc (.map #[] 0)).alloc (.cells (freshG wr.heap.size s).cells 233)
theorem freshW_fr (wr:World) (s:SV):Fr nope wr (freshW wr s):=((((Fr.refl _ _).alloc _).alloc _).alloc _).alloc _
theorem AlAt.fresh {w wr:World} {B:Nat} {D:List Nat} {s:SV} (hown:wr.ownsRow B 123 1 s.val D.length (D.map idV)) (hB:w.heap.size≤B) (hs:w.heap.size≤wr.heap.size):
  AlAt (freshW wr s) (newer w (freshW wr s)) ⟨D,fun _=>none,fun _=>none,[],fun _=>none⟩ (freshG wr.heap.size s):=by
 have hsz:(freshW wr s).heap.size=wr.heap.size+4:=by simp [freshW]
 have e1:(wr.alloc (.map #[] 0)).heap.size=wr.heap.size+1:=by simp
 have e2:((wr.alloc (.map #[] 0)).alloc (.map #[] 0)).heap.size=wr.heap.size+1+1:=by simp
 have e3:(((wr.alloc (.map #[] 0)).alloc (.map #[] 0)).alloc (.map #[] 0)).heap.size=wr.heap.size+1+1+1:=by simp
 have a1:∀ o:World,∀ ob,Fr nope o (o.alloc ob):=fun o ob=>(Fr.refl _ _).alloc _
 have m1:∀ {β : Type} (f:Nat→Option β) (h:Nat → β → Value),(∀ k,f k=none)→∃ ks,MapAt (freshW wr s) wr.heap.size idV ks fun k=>(f k).map (h k):=fun f h hf=>
  ⟨[],by
   have:=(((MapAt.made wr idV).fr (a1 _ (.map #[] 0)) (fun x=>x)).fr (a1 _ (.map #[] 0)) (fun x=>x)).fr (a1 _ (.cells (freshG wr.heap.size s).cells 233)) (fun x=>x)
   have ee:(fun k=>(f k).map (h k))=fun _=>none:=by funext k;rw [hf];rfl
   rw [ee];exact this⟩
 refine { ha:=?_,regs:=own_le (own_fr hown (freshW_fr wr s) (fun _ _ x=>x)) (Nat.zero_le _),prio:=m1 (fun _=>none) (fun _ p=>.int .i64 p) (fun _=>rfl),al:=?_,edges:=own_nil _ _ _ _,elen:=rfl,eat:=fun k b e h1=>by simp [freshG] at h1,poss:=?_,ne1:=?_,ne2:=?_,ne3:=?_,pa:=?_,pp:=?_,pl:=?_,pq:=?_,pr:=fun c hc=>⟨Nat.le_trans hB (own_base hown c hc),by have:=own_lt hown c hc;omega⟩,ps:=fun c hc=>by (cases hc),pe:=fun b hb=>by (cases hb),lt:=fun c hc=>hc.2 }
 ·have:=heap_alloc_new (((wr.alloc (.map #[] 0)).alloc (.map #[] 0)).alloc (.map #[] 0)) (.cells (freshG wr.heap.size s).cells 233)
  rw [e3] at this
  exact this
 ·refine ⟨[],?_⟩
  have:=((MapAt.made (wr.alloc (.map #[] 0)) idV).fr (a1 _ (.map #[] 0)) (fun x=>x)).fr (a1 _ (.cells (freshG wr.heap.size s).cells 233)) (fun x=>x)
  rw [e1] at this
  exact this
 ·refine ⟨[],fun _=>⟨none,0,0⟩,?_,fun k l e=>by (cases e)⟩
  have:=(MapAt.made ((wr.alloc (.map #[] 0)).alloc (.map #[] 0)) idV).fr (a1 _ (.cells (freshG wr.heap.size s).cells 233)) (fun x=>x)
  rw [e2] at this
  exact this
 all_goals (simp only [freshG,newer];omega)
def GivesNA (w:World) (S:List Nat) (e:Ending) (w':World):Prop:=
 Fr nope w w'∧((S=[]∧∃ T v,e = .returned (.tuple #[.pointer none,.iface T v])) ∨
  ∃ (g:AlG) (ids ys:List Nat),ids.Nodup∧(∀ k,k∈ids↔k∈S)∧SortedOf (ltP fun _=>none) ids ys∧e = .returned (.tuple #[ptr g.a,.nilIface])∧AlAt w' (newer w w') ⟨ys,fun _=>none,fun _=>none,[],fun _=>none⟩ g)
set_option maxHeartbeats 2000000 in
theorem NewAlloc_calls (w:World) (A:Option Addr) (c:Nat) (rs:List R) (hR:RegsAt w A rs) (hv:∀ r∈rs,r.virt=false) (hl:rs.length≤1000):
  Calls Tryz.prog 107 #[.slice A rs.length c] w (GivesNA w (freeIds rs)):=by
 have hmm:=@run_makeMap Tryz.prog
 go_enter Tryz.func107,Tryz.ntmps107
 go_wp2
 go_loopg [13] rs.length (fun n c13 wr=>∃ k:Nat,k≤rs.length∧c13 = .int .i64 (k:Int)∧SetAt wr w.heap.size (freeIds (rs.take k))∧Fr nope w wr∧n=rs.length - k)
 case atStart=>exact ⟨0,Nat.zero_le _,rfl,⟨[],by simpa [freeIds] using MapAt.made w idV⟩,(Fr.refl _ _).alloc _,rfl⟩
 case round=>
  obtain ⟨k,hk,rfl,hM,hf,rfl⟩:=hrel
  by_cases hlt:k < rs.length
  ·obtain ⟨b,off,r,rfl,hbl,hrk,hc,ok,hat⟩:=(hR.nope hf).at_ hlt
   have hrv:=hv r (List.mem_of_getElem? hrk)
   have hT:=Lib.hid (freeIds_take hrk)
   have ha:Go.bits .and .u8 (r.info:Int) 2=((r.info &&& 2:Nat):Int):=u8_and r.info 2 ok.info (by omega)
   obtain ⟨m,hm⟩:∃ m,r.info &&& 2=m:=⟨_,rfl⟩
   rw [hm] at ha hT
   replace hm:=Lib.hid hm
   have hML:w.heap.size < wr.heap.size:=by obtain ⟨_,hh⟩:=hM;exact hh.lt
   clear hrk
   by_cases hz:m=0
   ·subst hz
    go_wp2_with (first
     | (refine wpList_Info rfl rfl rfl hrv ?_;intro w1 hf1)
     | (refine wpList_ID rfl rfl rfl ok (hat.nope hf1) ?_;intro w2 hf2;obtain ⟨w3,hu,hM3,hf3,hs3⟩:=((hM.fr hf1 (fun x=>x)).fr hf2 (fun x=>x)).put r.id;replace hs3:=Lib.hid hs3))
    go_roundg (rs.length - (k+1))
    case measure=>omega
    case rel=>exact ⟨k+1,by omega,by go_num,by rw [hT.out];simpa using hM3,((hf.then hf1).then hf2).then_new hf3 (fun x hx e=>by omega),rfl⟩
   ·have hzz:((m:Int) == 0)=false:=by rw [beq_eq_false_iff_ne];omega
    go_wp2_with (refine wpList_Info rfl rfl rfl hrv ?_;intro w1 hf1)
    go_roundg (rs.length - (k+1))
    case measure=>omega
    case rel=>exact ⟨k+1,by omega,by go_num,by rw [hT.out];simpa [hz] using hM.fr hf1 (fun x=>x),hf.then hf1,rfl⟩
  ·obtain rfl:k=rs.length:=by omega
   rw [List.take_length] at hM
   have hML:w.heap.size < wr.heap.size:=by obtain ⟨_,hh⟩:=hM;exact hh.lt
   generalize hS:freeIds rs=S at hM
   replace hS:=Lib.hid hS
   obtain ⟨ks,hM⟩:=hM
   have hks:∀ k,k∈ks↔k∈S:=fun k=>by rw [hM.mem_iff];by_cases h:k∈S<;>simp [h]
   have hlen:=fun ty=>hM.len setT ty
   have hknd:=hM.nodup
   cases hke:ks with
   | nil=>
    subst hke
    have hSn:S=[]:=by
     cases S with
     | nil=>rfl
     | cons a l=>have:=(hks a).2 (by simp);cases this
    subst hSn
    clear hks
    simp only [List.length_nil] at hlen
    go_wp2_with (go_at_call 65;refine (errorsNew_calls _ _).mono ?_;rintro e w4 ⟨rfl,hf4⟩)
    go_ret2
    exact ⟨hf.then hf4,.inl ⟨hS.out,_,_,rfl⟩⟩
   | cons k0 kl=>
    have hk0:ks≠[]:=by rw [hke];simp
    have hlz:((ks.length:Int) == 0)=false:=by rw [beq_eq_false_iff_ne];have:=List.length_pos_iff.2 hk0;omega
    clear hke k0 kl
    go_wp2_with (refine wpList_rangeO rfl rfl rfl (show MapO wr (some w.heap.size) idV ks _ from hM) idInj setT ?_;intro w0 hrg0 hf0 hs0)
    go_frame
    have hI0:KInv ks ks []:=⟨hknd,List.nodup_nil,by simp,by simp⟩
    have hwr:wr.heap.size≤w0.heap.size:=hf0.size
    obtain ⟨wo,rfl⟩:∃ wo:World,wo=wr:=⟨_,rfl⟩
    replace hs0:=Lib.hid hs0
    replace hmm:=Lib.hid hmm
    clear hlen hlz
    go_loopg [7] ks.length (fun n c7 wr=>∃ (todo D:List Nat),RangeO wr wo.heap.size (some w.heap.size) idV ks (fun k=>if k∈S then some (.bool true) else none) todo∧wr.ownsRow w0.heap.size 123 1 c7 D.length (D.map idV)∧KInv ks todo D∧Fr (fun b=>b=wo.heap.size) w0 wr∧todo.length=n)
    case atStart=>exact ⟨ks,[],hrg0,by simpa using own_nil _ _ _ _,hI0,Fr.refl _ _,rfl⟩
    case round=>
     obtain ⟨todo,D,hrg,hown,hI,hfq,rfl⟩:=hrel
     go_wp2_with (refine wpList_nextO rfl rfl rfl hrg idInj ?_ ?_)
     ·intro h00
      subst h00
      have hmem:∀ k,k∈D↔k∈S:=fun k=>by rw [← hks,hI.mem];simp
      have hdn:=hI.dn
      have hw0:Fr nope w wr:=(hf.then hf0).then_new hfq (fun x hx e=>by have:=hf.size;omega)
      obtain ⟨A7,c7',rfl,_,_⟩:=own_slice hown
      have hDl:D.length≤1000:=by
       have h1:=nodup_le (m:=S) hI.dn (fun x hx=>(hmem x).1 hx)
       have h2:(freeIds rs).length≤rs.length:=by unfold freeIds;rw [List.length_map];exact List.length_filter_le _ _
       rw [hS.out] at h2
       omega
      have hbase:=own_base hown
      have hs00:=hs0.out
      have hq0:=hfq.size
      have hww:=hf.size
      replace hs0:=Lib.hid hs0
      replace hmm:=hmm.out
      clear hI hrg hks
      go_wp2_with (go_at_call 57;refine (NewEmptyAl_calls _).mono ?_;rintro e w5 ⟨rfl,rfl⟩)
      have hF:AlAt (freshW wr ⟨A7,D.length,c7'⟩) _ _ _:=AlAt.fresh (w:=w) (B:=w0.heap.size) hown (by omega) (by omega)
      have hS1:=sortregs_calls _ _ _ _ hF (fun _=>rfl) (by show D.length < 4611686018427387904;omega)
      refine hS1.mono ?_
      rintro e w6 ⟨rfl,ys,hys,h6,hf6⟩
      go_wp2
      go_ret2
      have hf66:Fr nope w w6:=(hw0.then (freshW_fr wr _)).then_new hf6 (fun x hx hn=>by have:=hn.1;omega)
      exact ⟨hf66,.inr ⟨_,D,ys,hdn,fun k=>by rw [hS.out];exact hmem k,hys,rfl,h6.more (fun c hc=>⟨hc.1,Nat.lt_of_lt_of_le hc.2 hf6.size⟩) (fun c hc=>hc.2)⟩⟩
     ·intro k v w1 hkt hkk hv' hrg1 hf1 hs1 hen
      have hI1:=hI.step hkt
      have hlen:(todo.erase k).length < todo.length:=by rw [List.length_erase_of_mem hkt];have:=List.length_pos_of_mem hkt;omega
      unfold idV at hen
      have hDl:D.length≤1000:=by
       have h1:=nodup_le (m:=S) hI.dn (fun x hx=>(hks x).1 ((hI.mem x).2 (.inl hx)))
       have h2:(freeIds rs).length≤rs.length:=by unfold freeIds;rw [List.length_map];exact List.length_filter_le _ _
       rw [hS.out] at h2
       omega
      have hown1:=own_fr hown hf1 (fun b hb e=>by have:=own_base hown b hb;have:=hs0.out;omega)
      have hs01:=hfq.size
      have hf01:Fr (fun b=>b=wo.heap.size) w0 w1:=hfq.then hf1
      replace hs1:=Lib.hid hs1
      clear hv'
      go_wp2_with (refine wpList_app (v:=u7) rfl rfl Tryz.underlying228 infoID rfl (by omega) rfl (own_fr hown1 ((Fr.refl nope _).alloc _) (fun _ _ x=>x)) rfl (news:=[idV k]) rfl (one_new _ _ _ _ (by simp)) (by simp [Value.oneCell',idV]) (by simp only [maxLen];omega) (by omega) (by have:=hf01.size;simp;omega) ?_;intro v3 w3 hown3 hf3 _)
      go_roundg (todo.erase k).length
      case measure=>exact hlen
      case rel=>
       have hs00:=hs0.out
       have hs11:=hs1.out
       refine ⟨_,D ++ [k],(hrg1.fr ((Fr.refl nope w1).alloc _) (fun x=>x) (fun _ _ x=>x)).fr hf3 (fun e=>by have:=own_base hown _ e;omega) (fun b hb e=>by injection hb with hb;subst hb;have:=own_base hown _ e;omega),by rw [List.map_append,List.length_append];exact hown3,hI1,(hf01.alloc _).then_new hf3 (fun x hx e=>by have:=own_base hown x e;omega),rfl⟩
end
section
open Go Go.RowKit Go.MapKept Bth
set_option maxRecDepth 100000
def freeK (k:Nat):List Nat:=freeIds (famRegs 0 k)
theorem freeIds_fb (fb k:Nat):freeIds (famRegs fb k)=freeK k:=by
 have key:∀ (j:Nat) (l:List (String × Ent)),freeIds (regsF fb j l)=freeIds (regsF 0 j l):=by
  intro j l
  unfold freeIds regsF
  rw [List.filter_map,List.filter_map,List.map_map,List.map_map]
  rfl
 unfold freeK famRegs
 split<;>exact key _ _
def bpIds (rs:List R):List Nat:=(rs.filter fun r=>r.info &&& 4 != 0).map R.id
theorem bpIds_fb (fb k:Nat):bpIds (famRegs fb k)=bpIds (famRegs 0 k):=by
 have key:∀ (j:Nat) (l:List (String × Ent)),bpIds (regsF fb j l)=bpIds (regsF 0 j l):=by
  intro j l
  unfold bpIds regsF
  rw [List.filter_map,List.filter_map,List.map_map,List.map_map]
  rfl
 unfold famRegs
 split<;>exact key _ _
theorem bpIds_take {rs:List R} {k:Nat} {r:R} (h:rs[k]? = some r):bpIds (rs.take (k+1))=bpIds (rs.take k) ++ if r.info &&& 4=0 then [] else [r.id]:=by
 unfold bpIds
 rw [List.take_add_one,h,List.filter_append,List.map_append]
 congr 1
 by_cases hi:r.info &&& 4=0<;>simp [hi]
def prs (l:List Nat):Nat→Option Int:=l.foldl (fun f id=>setPr f id (-1)) fun _=>none
theorem prs_snoc (l:List Nat) (id:Nat):prs (l ++ [id])=setPr (prs l) id (-1):=by simp [prs]
def prK (k:Nat):Nat→Option Int:=prs (bpIds (famRegs 0 k))
def regsK (k:Nat):List Nat:=
 match k with
 | 0=>[0]
 | 1=>[0,1,2,3,6,7,8,9,10,11,12,13,14,15,5].map fun i=>256+i*65536
 | 2=>(List.range 32).map fun i=>512+i*65536
 | 3=>[1,2,3,4,5,6,7].map fun i=>768+i*65536
 | _=>[]
theorem regsK_facts:∀ k,k < 4→(∀ r∈regsK k,r∈freeK k)∧(∀ r∈freeK k,r∈regsK k)∧(regsK k).Nodup∧(regsK k).Pairwise (fun a b=>ltP (prK k) b a=false)∧(∀ r∈regsK k,isV r=false∧r < 4294967296∧kindOf r=k)∧(regsK k).length < 100∧(freeK k).length≠0:=by
 decide +kernel
theorem regsK_of {k:Nat} (hk:k≤3) {ids ys:List Nat} (hn:ids.Nodup) (hm:∀ x,x∈ids↔x∈freeK k) (h:SortedOf (ltP (prK k)) ids ys):ys=regsK k:=by
 obtain ⟨h1,h2,h3,h4,_⟩:=regsK_facts k (by omega)
 have hp:ys.Perm (regsK k):=h.1.trans ((List.perm_ext_iff_of_nodup hn h3).2 fun a=>(hm a).trans ⟨h2 a,h1 a⟩)
 refine List.Perm.eq_of_pairwise (le:=fun a b=>ltP (prK k) b a=false) (fun a b _ _ h1 h2=>?_) h.2 h4 hp
 simp [ltP] at h1 h2
 omega
def NewK (k:Nat) (x:Al):Prop:=∃ ids,ids.Nodup∧(∀ j,j∈ids↔j∈freeK k)∧SortedOf (ltP x.prio) ids x.regs∧x.al=(fun _=>none)∧x.edges=[]∧x.poss=fun _=>none
def GivesNK (w:World) (k:Nat) (e:Ending) (w':World):Prop:=
 Fr nope w w'∧∃ (g:AlG) (x:Al),NewK k x∧x.prio=(fun _=>none)∧e = .returned (.tuple #[ptr g.a,.nilIface])∧AlAt w' (newer w w') x g
theorem newer_mono {w w1 w2:World} (h1:w.heap.size≤w1.heap.size):∀ c,newer w1 w2 c→newer w w2 c:=fun _ hc=>⟨Nat.le_trans h1 hc.1,hc.2⟩
theorem NewAllocK_calls (w:World) (k:Nat) (hk:k≤3):
  Calls Tryz.prog 80 #[.int .u8 (k:Int)] w (GivesNK w k):=by
 go_enter Tryz.func80,Tryz.ntmps80
 go_wp2_with (go_at_call 81;refine (FamilyOfKind_calls _ k hk).mono ?_;rintro e w1 ⟨rfl,v,hF,hO,hf1⟩)
 refine (Registers_fam_calls w1 w.heap.size k v _ (famRegs w.heap.size k) hF hO (by have:=famRegs_len w.heap.size k;omega)).mono ?_
 rintro e w2 ⟨u,rfl,hu,hf2⟩
 rw [List.length_map] at hu
 obtain ⟨A,c,rfl,_,_⟩:=own_slice hu
 go_wp2_with fail
 have hreg:=famRegs_ok (fb:=w.heap.size) hk
 refine (NewAlloc_calls w2 A c (famRegs w.heap.size k) ⟨own_Sl hu,fun r hr=>?_⟩ (fun r hr=>(hreg r hr).1) (by have:=famRegs_len w.heap.size k;omega)).mono ?_
 ·obtain ⟨h1,h2,h3,h4⟩:=hreg r hr
  exact ⟨h4,(hF.reg r h2 h3).nope hf2⟩
 ·rintro e w3 ⟨hf3,⟨h0,_⟩ | ⟨g,ids,ys,h1,h2,h3,rfl,h4⟩⟩
  ·rw [freeIds_fb] at h0
   have:=(regsK_facts k (by omega)).2.2.2.2.2.2
   rw [h0] at this
   exact absurd rfl this
  ·rw [freeIds_fb] at h2
   go_wp2
   go_ret2
   have hw2:=hf1.then hf2
   exact ⟨hw2.then hf3,g,_,⟨ids,h1,h2,h3,rfl,rfl,rfl⟩,rfl,rfl,h4.more (newer_mono hw2.size) (fun c hc=>hc.2)⟩
end
section
open Go Go.RowKit Go.MapKept Bth
open Go.ChangeMaps (setBlock)
set_option maxRecDepth 100000
def both (f g:Nat→Option Nat):Nat→Option Nat:=fun x=>match g x with
 | some p=>some p
 | none=>f x
def imgF (f:Nat→Option Nat) (k:Nat):Option Value:=(f k).map idV
set_option maxHeartbeats 1000000 in
theorem Merge_calls (w:World) (ba bb:Nat) (fa fb:Nat→Option Nat) (ha:IdMap w ba fa) (hb:IdMap w bb fb) (hne:bb≠ba) (hd:∀ k,fb k≠none→fa k=none):
  Calls Tryz.prog 89 #[.map (some ba),.map (some bb)] w fun e w'=>e = .returned .nilIface∧IdMap w' ba (both fa fb)∧Fr (fun b=>b=ba) w w':=by
 obtain ⟨ks,hM⟩:=hb
 have hO:MapO w (some bb) idV ks (imgF fb):=hM
 have hks:∀ k,k∈ks↔fb k≠none:=fun k=>by rw [hM.mem_iff];cases fb k<;>simp
 have hnd:=hM.nodup
 have hal:=ha.lt
 clear hM
 go_enter Tryz.func89,Tryz.ntmps89
 go_wp2_with (refine wpList_rangeO rfl rfl rfl hO idInj allocT ?_;intro w0 hrg0 hf0 hs0)
 go_frame
 have h00:∀ x,(if x∈ks then fa x else both fa fb x)=fa x:=fun x=>by
  split
  ·rfl
  ·rename_i h
   have:fb x=none:=Classical.byContradiction fun hh=>h ((hks x).2 hh)
   unfold both;rw [this]
 replace h00:=Lib.hid h00
 replace hks:=Lib.hid hks
 replace hd:=Lib.hid hd
 clear hs0
 go_loopg [] ks.length (fun n wr=>∃ (todo:List Nat),RangeO wr w.heap.size (some bb) idV ks (imgF fb) todo∧IdMap wr ba (fun x=>if x∈todo then fa x else both fa fb x)∧todo.Nodup∧Fr (fun b=>b=ba) w wr∧todo.length=n)
 case atStart=>exact ⟨ks,hrg0,by rw [show (fun x=>if x∈ks then fa x else both fa fb x)=fa from funext h00.out];exact ha.fr hf0 (fun x=>x),hnd,hf0.of_nope,rfl⟩
 case round=>
  obtain ⟨todo,hrg,hM,htd,hf,rfl⟩:=hrel
  go_wp2_with (refine wpList_nextO rfl rfl rfl hrg idInj ?_ ?_)
  ·intro h0
   subst h0
   replace hM:=Lib.hid hM
   go_wp2
   go_ret
   exact ⟨rfl,by simpa using hM.out,hf⟩
  ·intro k v w1 hkt hkk hv hrg1 hf1 hs1 hen
   obtain ⟨p,hp,rfl⟩:∃ p,fb k=some p∧v=idV p:=by
    unfold imgF at hv
    obtain ⟨p,h1,h2⟩:=Option.map_eq_some_iff.1 hv
    exact ⟨p,h1,h2.symm⟩
   have hM1:IdMap w1 ba _:=hM.fr hf1 (by omega)
   have hfa:=hd.out k (by rw [hp];simp)
   have hl2:=hM1.look2 k
   simp only [hkt,if_true,hfa,Option.getD_none,Option.isSome_none] at hl2
   obtain ⟨w2,hu,hM2,hf2,hs2⟩:=hM1.put k p
   have hlen:(todo.erase k).length < todo.length:=by rw [List.length_erase_of_mem hkt];have:=List.length_pos_of_mem hkt;omega
   have hfn:(fun x=>if x=k then some p else if x∈todo then fa x else both fa fb x)=fun x=>if x∈todo.erase k then fa x else both fa fb x:=by
    funext x
    by_cases e:x=k
    ·subst e
     have:x∉todo.erase x:=fun hm=>((List.Nodup.mem_erase_iff htd).1 hm).1 rfl
     rw [if_pos rfl,if_neg this]
     simp [both,hp]
    ·have:(x∈todo.erase k)↔x∈todo:=by rw [List.Nodup.mem_erase_iff htd];exact ⟨fun h=>h.2,fun h=>⟨e,h⟩⟩
     simp only [this,if_neg e]
   rw [hfn] at hM2
   have hfr:Fr (fun b=>b=ba) w w2:=(hf.then_new hf1 (fun x hx e=>by omega)).then hf2
   have htd2:=htd.erase k
   replace hs1:=Lib.hid hs1
   replace hs2:=Lib.hid hs2
   replace hM2:=Lib.hid hM2
   clear hv hp hfa hfn
   unfold idV at hen
   go_wp2
   go_roundg (todo.erase k).length
   case measure=>exact hlen
   case rel=>exact ⟨_,hrg1.fr hf2 (by omega) (fun c hc=>by injection hc with hc;subst hc;exact hne),hM2.out,htd2,hfr,rfl⟩
def kindV (k:Nat):Value:=.int .u8 (k:Int)
theorem kindKey:KeyOk Tryz.prog 164 (.int .u8) kindV:=⟨Tryz.underlying164,fun _=>rfl,fun a b h=>by simp [kindV] at h;omega⟩
theorem kindInj:∀ a b:Nat,kindV a=kindV b→a=b:=fun a b h=>by simp [kindV] at h;omega
theorem asT:Tryz.prog.underlying 163=some (.map 164 166):=Tryz.underlying163
theorem zeroAl (w:World):(zeroValue 166).run Tryz.prog w = .ok (.pointer none) w:=by kernel_rfl
def updF {α : Type} (f:Nat → α) (k:Nat) (v:α):Nat → α:=fun j=>if j=k then v else f j
theorem updF_self {α : Type} (f:Nat → α) (k:Nat) (v:α):updF f k v k=v:=by simp [updF]
theorem updF_ne {α : Type} (f:Nat → α) {j k:Nat} (v:α) (h:j≠k):updF f k v j=f j:=by simp [updF,h]
def asF (K:List Nat) (gs:Nat→AlG) (k:Nat):Option Value:=if k∈K then some (ptr (gs k).a) else none
structure AS (w0 w:World) (mb:Nat) (K:List Nat) (gs:Nat→AlG) (xs:Nat→Al) (Ps:Nat→Nat→Prop):Prop where
 map:∃ ks,MapAt w mb kindV ks (asF K gs)
 at_:∀ k∈K,AlAt w (Ps k) (xs k) (gs k)
 new:∀ k∈K,∀ c,Ps k c→w0.heap.size≤c∧c≠mb
 apart:∀ j∈K,∀ k∈K,j≠k→∀ c,Ps j c→¬Ps k c
 sz:w0.heap.size≤w.heap.size
 mbn:w0.heap.size≤mb
theorem AS.lt {w0 w:World} {mb:Nat} {K:List Nat} {gs:Nat→AlG} {xs:Nat→Al} {Ps:Nat→Nat→Prop} (h:AS w0 w mb K gs xs Ps):mb < w.heap.size:=by obtain ⟨_,hm⟩:=h.map;exact hm.lt
theorem AS.keep {S:Nat→Prop} {w0 w w':World} {mb:Nat} {K:List Nat} {gs:Nat→AlG} {xs:Nat→Al} {Ps:Nat→Nat→Prop} (h:AS w0 w mb K gs xs Ps) (hf:Fr S w w') (h1:∀ k∈K,∀ c,Ps k c→¬S c) (h2:¬S mb):AS w0 w' mb K gs xs Ps:=
 { h with
   map:=by obtain ⟨ks,hm⟩:=h.map;exact ⟨ks,hm.fr hf h2⟩
   at_:=fun k hk=>(h.at_ k hk).fr hf (h1 k hk)
   sz:=Nat.le_trans h.sz hf.size }
theorem AS.still {w0 w w':World} {mb:Nat} {K:List Nat} {gs:Nat→AlG} {xs:Nat→Al} {Ps:Nat→Nat→Prop} (h:AS w0 w mb K gs xs Ps) (hf:Fr nope w w'):AS w0 w' mb K gs xs Ps:=h.keep hf (fun _ _ _ _ x=>x) (fun x=>x)
theorem AS.look {w0 w:World} {mb:Nat} {K:List Nat} {gs:Nat→AlG} {xs:Nat→Al} {Ps:Nat→Nat→Prop} (h:AS w0 w mb K gs xs Ps) {k:Nat} (hk:k∈K):
  (Instr.lookup 163 (.map (some mb)) (.int .u8 (k:Int)) false).run Tryz.prog w = .ok (ptr (gs k).a) w:=by
 obtain ⟨ks,hm⟩:=h.map
 have:=hm.lookup kindKey asT (zeroAl w) k false
 rw [show (Value.int .u8 (k:Int))=kindV k from rfl,this]
 simp [asF,hk]
theorem AS.look2 {w0 w:World} {mb:Nat} {K:List Nat} {gs:Nat→AlG} {xs:Nat→Al} {Ps:Nat→Nat→Prop} (h:AS w0 w mb K gs xs Ps) (k:Nat):
  ∃ v,(Instr.lookup 163 (.map (some mb)) (.int .u8 (k:Int)) true).run Tryz.prog w = .ok (.tuple #[v,.bool (decide (k∈K))]) w:=by
 obtain ⟨ks,hm⟩:=h.map
 have:=hm.lookup kindKey asT (zeroAl w) k true
 rw [show (Value.int .u8 (k:Int))=kindV k from rfl,this]
 by_cases hk:k∈K
 ·exact ⟨ptr (gs k).a,by simp [asF,hk]⟩
 ·exact ⟨.pointer none,by simp [asF,hk]⟩
theorem AS.turn {w0 w w':World} {mb:Nat} {K:List Nat} {gs:Nat→AlG} {xs:Nat→Al} {Ps:Nat→Nat→Prop} (h:AS w0 w mb K gs xs Ps) {k:Nat} (hk:k∈K) {x:Al} {g:AlG} (hg:g.a=(gs k).a) (ha:AlAt w' (wider (Ps k) w w') x g) (hf:Fr (Ps k) w w'):
  AS w0 w' mb K (updF gs k g) (updF xs k x) (updF Ps k (wider (Ps k) w w')):=by
 have hl:=h.lt
 have hw0:=h.sz
 have hnew:∀ c,wider (Ps k) w w' c→w0.heap.size≤c∧c≠mb:=fun c hc=>by
  rcases hc with hc | hc
  ·exact h.new k hk c hc
  ·exact ⟨by omega,by omega⟩
 refine ⟨?_,fun j hj=>?_,fun j hj c hc=>?_,fun i hi j hj hij c hc=>?_,Nat.le_trans h.sz hf.size,h.mbn⟩
 ·obtain ⟨ks,hm⟩:=h.map
  refine ⟨ks,?_⟩
  have e:asF K (updF gs k g)=asF K gs:=by
   funext j
   unfold asF
   by_cases e:j=k
   ·subst e;rw [updF_self,hg]
   ·rw [updF_ne _ _ e]
  rw [e]
  exact hm.fr hf (fun hp=>(h.new k hk _ hp).2 rfl)
 ·by_cases e:j=k
  ·subst e;rw [updF_self,updF_self,updF_self];exact ha
  ·rw [updF_ne _ _ e,updF_ne _ _ e,updF_ne _ _ e]
   exact (h.at_ j hj).fr hf (fun c hc hp=>h.apart j hj k hk e c hc hp)
 ·by_cases e:j=k
  ·subst e;rw [updF_self] at hc;exact hnew c hc
  ·rw [updF_ne _ _ e] at hc;exact h.new j hj c hc
 ·have key:∀ j,j∈K→j≠k→∀ c,Ps j c→¬wider (Ps k) w w' c:=fun j hj hjk c hc hw=>by
   rcases hw with hw | hw
   ·exact h.apart j hj k hk hjk c hc hw
   ·have:=(h.at_ j hj).lt c hc;omega
  by_cases e1:i=k
  ·subst e1
   rw [updF_self] at hc
   rw [updF_ne _ _ (fun e=>hij e.symm)]
   exact fun hp=>key j hj (fun e=>hij e.symm) c hp hc
  ·rw [updF_ne _ _ e1] at hc
   by_cases e2:j=k
   ·subst e2;rw [updF_self];exact key i hi e1 c hc
   ·rw [updF_ne _ _ e2];exact h.apart i hi j hj hij c hc
theorem AS.fr {S:Nat→Prop} {w0 w w':World} {mb:Nat} {K:List Nat} {gs:Nat→AlG} {xs:Nat→Al} {Ps:Nat→Nat→Prop} (h:AS w0 w mb K gs xs Ps) (h0:Fr S w0 w) {k:Nat} (hk:k∈K) (hf:Fr (Ps k) w w'):Fr S w0 w':=
 h0.then_new hf (fun c hc hp=>by have:=(h.new k hk c hp).1;omega)
theorem AS.frM {S:Nat→Prop} {w0 w w':World} {mb:Nat} {K:List Nat} {gs:Nat→AlG} {xs:Nat→Al} {Ps:Nat→Nat→Prop} (h:AS w0 w mb K gs xs Ps) (h0:Fr S w0 w) (hf:Fr (fun b=>b=mb) w w'):Fr S w0 w':=
 h0.then_new hf (fun c hc hp=>by have:=h.mbn;omega)
theorem AS.add {w0 w w1:World} {mb:Nat} {K:List Nat} {gs:Nat→AlG} {xs:Nat→Al} {Ps:Nat→Nat→Prop} (h:AS w0 w mb K gs xs Ps) {k:Nat} (hk:k∉K) {x:Al} {g:AlG} (ha:AlAt w1 (newer w w1) x g) (hf:Fr nope w w1):
  ∃ w2,(Instr.mapUpdate 163 (.map (some mb)) (.int .u8 (k:Int)) (ptr g.a)).run Tryz.prog w1 = .ok () w2∧AS w0 w2 mb (K ++ [k]) (updF gs k g) (updF xs k x) (updF Ps k (newer w w1))∧Fr (fun b=>b=mb) w1 w2:=by
 have hl:=h.lt
 have hw0:=h.sz
 have h1:=h.still hf
 obtain ⟨ks,hm⟩:=h1.map
 obtain ⟨es,clock,g1,g2⟩:=hm.update kindKey asT k (ptr g.a)
 have hst:Fr (fun x=>x=mb) w1 (setBlock w1 mb (.map es clock)):=(Fr.refl (fun x=>x=mb) w1).setBlock (.inl rfl) _
 have hne:∀ j,j∈K→j≠k:=fun j hj e=>hk (e ▸ hj)
 refine ⟨setBlock w1 mb (.map es clock),g1,⟨⟨if k∈ks then ks else ks ++ [k],?_⟩,fun j hj=>?_,fun j hj c hc=>?_,fun i hi j hj hij c hc=>?_,Nat.le_trans h1.sz hst.size,h.mbn⟩,hst⟩
 ·have e:asF (K ++ [k]) (updF gs k g)=updM (asF K gs) k (some (ptr g.a)):=by
   funext j
   unfold asF updM
   by_cases e:j=k
   ·subst e;simp [updF]
   ·simp [updF,e]
  rw [e];exact g2
 ·by_cases e:j=k
  ·subst e;rw [updF_self,updF_self,updF_self];exact ha.fr hst (fun c hc e=>by have:=hc.1;omega)
  ·rw [updF_ne _ _ e,updF_ne _ _ e,updF_ne _ _ e]
   have hjK:j∈K:=by simpa [e] using hj
   exact (h1.at_ j hjK).fr hst (fun c hc e=>(h.new j hjK c hc).2 e)
 ·by_cases e:j=k
  ·subst e;rw [updF_self] at hc;exact ⟨Nat.le_trans hw0 hc.1,by have:=hc.1;omega⟩
  ·rw [updF_ne _ _ e] at hc;exact h.new j (by simpa [e] using hj) c hc
 ·have key:∀ j,j∈K→∀ c,Ps j c→¬newer w w1 c:=fun j hj c hc hw=>by have:=(h.at_ j hj).lt c hc;have:=hw.1;omega
  by_cases e1:i=k
  ·subst e1
   rw [updF_self] at hc
   rw [updF_ne _ _ (fun e=>hij e.symm)]
   exact fun hp=>key j (by simpa [Ne.symm hij] using hj) c hp hc
  ·rw [updF_ne _ _ e1] at hc
   have hiK:i∈K:=by simpa [e1] using hi
   by_cases e2:j=k
   ·subst e2;rw [updF_self];exact key i hiK c hc
   ·rw [updF_ne _ _ e2];exact h.apart i hiK j (by simpa [e2] using hj) hij c hc
end
end Go.Proofs.YtpbeedabmjmdmaaGreatDoor
