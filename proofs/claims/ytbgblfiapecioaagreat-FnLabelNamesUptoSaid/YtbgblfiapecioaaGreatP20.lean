/- Part of the proof of a statement about pub-berthage: what its texts have in common. -/
import Derived.Deep.Cut
import Derived.Deep.CutBlock
import Derived.Test.YtbgblfiapecioaaGreatP03
import Derived.Test.YtbgblfiapecioaaGreatP08
import Derived.Test.YtbgblfiapecioaaGreatP16
import Derived.Test.YtbgblfiapecioaaGreatP19
namespace Go.Proofs.YtbgblfiapecioaaGreat
section
open Go Go.RowKit Go.MapKept Bth
open Go.ChangeMaps (setBlock)
set_option maxRecDepth 100000
theorem u8_and (a b:Nat) (ha:a < 256) (hb:b < 256):Go.bits .and .u8 (a:Int) (b:Int)=((a &&& b:Nat):Int):=by
 have hx:a &&& b < 2 ^ 8:=Nat.and_lt_two_pow _ (by omega)
 show IntKind.u8.wrap ((BitVec.ofInt 8 (a:Int) &&& BitVec.ofInt 8 (b:Int)).toNat:Int)=_
 rw [BitVec.toNat_and,ofInt_u8 a ha,ofInt_u8 b hb,wrap_u8 _ (by omega)]
def SetAt (w:World) (b:Nat) (S:List Nat):Prop:=∃ ks,MapAt w b idV ks fun k=>if k∈S then some (.bool true) else none
theorem setT:Tryz.prog.underlying 265=some (.map 170 4):=Tryz.underlying265
theorem SetAt.put {w:World} {b:Nat} {S:List Nat} (h:SetAt w b S) (k:Nat):
  ∃ w',(Instr.mapUpdate 265 (.map (some b)) (.int .u32 (k:Int)) (.bool true)).run Tryz.prog w = .ok () w'∧SetAt w' b (S ++ [k])∧Fr (fun x=>x=b) w w'∧w'.heap.size=w.heap.size:=by
 obtain ⟨ks,hM⟩:=h
 obtain ⟨es,clock,h1,h2⟩:=hM.update idKey setT k (.bool true)
 have e:(fun x=>if x∈S ++ [k] then some (Value.bool true) else none)=updM (fun x=>if x∈S then some (Value.bool true) else none) k (some (.bool true)):=by
  funext x
  unfold updM
  by_cases hx:x=k<;>simp [hx]
 rw [← e] at h2
 exact ⟨setBlock w b (.map es clock),h1,⟨_,h2⟩,(Fr.refl (fun x=>x=b) w).setBlock (.inl rfl) _,by simp [setBlock]⟩
theorem SetAt.fr {S:Nat→Prop} {w w':World} {b:Nat} {l:List Nat} (h:SetAt w b l) (hf:Fr S w w') (hs:¬S b):SetAt w' b l:=by obtain ⟨ks,hm⟩:=h;exact ⟨ks,hm.fr hf hs⟩
def freeIds (rs:List R):List Nat:=(rs.filter fun r=>r.info &&& 2 == 0).map R.id
theorem freeIds_take {rs:List R} {k:Nat} {r:R} (h:rs[k]? = some r):freeIds (rs.take (k+1))=freeIds (rs.take k) ++ if r.info &&& 2=0 then [r.id] else []:=by
 unfold freeIds
 rw [List.take_add_one,h,List.filter_append,List.map_append]
 congr 1
 by_cases hi:r.info &&& 2=0<;>simp [hi]
structure KInv (ks todo D:List Nat):Prop where
 nd:todo.Nodup
 dn:D.Nodup
 mem:∀ k,k∈ks↔k∈D∨k∈todo
 ap:∀ k,k∈D→k∉todo
theorem KInv.step {ks todo D:List Nat} (h:KInv ks todo D) {k:Nat} (hk:k∈todo):KInv ks (todo.erase k) (D ++ [k]):=by
 refine ⟨h.nd.erase k,List.nodup_append.2 ⟨h.dn,by simp,fun a ha b hb e=>?_⟩,fun x=>?_,fun x hx=>?_⟩
 ·obtain rfl:b=k:=by simpa using hb
  subst e
  exact h.ap a ha hk
 ·rw [h.mem,List.Nodup.mem_erase_iff h.nd,List.mem_append,List.mem_singleton]
  by_cases e:x=k
  ·subst e;simp [hk]
  ·simp [e]
 ·rw [List.Nodup.mem_erase_iff h.nd]
  rcases List.mem_append.1 hx with hx | hx
  ·exact fun hh=>h.ap x hx hh.2
  ·obtain rfl:x=k:=by simpa using hx
   exact fun hh=>hh.1 rfl
def newer (w w':World):Nat→Prop:=fun c=>w.heap.size≤c∧c < w'.heap.size
theorem NewEmptyAl_calls (w:World):Calls Tryz.prog 88 #[] w fun e w'=>e = .returned (.map (some w.heap.size))∧w'=w.alloc (.map #[] 0):=by
 have hmm:=@run_makeMap Tryz.prog
 go_enter Tryz.func88,Tryz.ntmps88
 go_wp2
 go_ret
 exact ⟨rfl,rfl⟩
def freshG (N:Nat) (s:SV):AlG:=⟨N+1+1+1,N,N+1,N+1+1,s,⟨none,0,0⟩,[]⟩
def freshW (wr:World) (s:SV):World:=(((wr.alloc (.map #[] 0)).alloc (.map #[] 0)).alloc (.map #[] 0)).alloc (.cells (freshG wr.heap.size s).cells 231)
theorem freshW_fr (wr:World) (s:SV):Fr nope wr (freshW wr s):=((((Fr.refl _ _).alloc _).alloc _).alloc _).alloc _
theorem AlAt.fresh {w wr:World} {B:Nat} {D:List Nat} {s:SV} (hown:wr.ownsRow B 170 1 s.val D.length (D.map idV)) (hB:w.heap.size≤B) (hs:w.heap.size≤wr.heap.size):
  AlAt (freshW wr s) (newer w (freshW wr s)) ⟨D,fun _=>none,fun _=>none,[],fun _=>none⟩ (freshG wr.heap.size s):=by
 have hsz:(freshW wr s).heap.size=wr.heap.size+4:=by simp [freshW]
 have e1:(wr.alloc (.map #[] 0)).heap.size=wr.heap.size+1:=by simp
 have e2:((wr.alloc (.map #[] 0)).alloc (.map #[] 0)).heap.size=wr.heap.size+1+1:=by simp
 have e3:(((wr.alloc (.map #[] 0)).alloc (.map #[] 0)).alloc (.map #[] 0)).heap.size=wr.heap.size+1+1+1:=by simp
 have a1:∀ o:World,∀ ob,Fr nope o (o.alloc ob):=fun o ob=>(Fr.refl _ _).alloc _
 have m1:∀ {β : Type} (f:Nat→Option β) (h:Nat → β → Value),(∀ k,f k=none)→∃ ks,MapAt (freshW wr s) wr.heap.size idV ks fun k=>(f k).map (h k):=fun f h hf=>
  ⟨[],by
   have:=(((MapAt.made wr idV).fr (a1 _ (.map #[] 0)) (fun x=>x)).fr (a1 _ (.map #[] 0)) (fun x=>x)).fr (a1 _ (.cells (freshG wr.heap.size s).cells 231)) (fun x=>x)
   have ee:(fun k=>(f k).map (h k))=fun _=>none:=by funext k;rw [hf];rfl
   rw [ee];exact this⟩
 refine { ha:=?_,regs:=own_le (own_fr hown (freshW_fr wr s) (fun _ _ x=>x)) (Nat.zero_le _),prio:=m1 (fun _=>none) (fun _ p=>.int .i64 p) (fun _=>rfl),al:=?_,edges:=own_nil _ _ _ _,elen:=rfl,eat:=fun k b e h1=>by simp [freshG] at h1,poss:=?_,ne1:=?_,ne2:=?_,ne3:=?_,pa:=?_,pp:=?_,pl:=?_,pq:=?_,pr:=fun c hc=>⟨Nat.le_trans hB (own_base hown c hc),by have:=own_lt hown c hc;omega⟩,ps:=fun c hc=>by (cases hc),pe:=fun b hb=>by (cases hb),lt:=fun c hc=>hc.2 }
 ·have:=heap_alloc_new (((wr.alloc (.map #[] 0)).alloc (.map #[] 0)).alloc (.map #[] 0)) (.cells (freshG wr.heap.size s).cells 231)
  rw [e3] at this
  exact this
 ·refine ⟨[],?_⟩
  have:=((MapAt.made (wr.alloc (.map #[] 0)) idV).fr (a1 _ (.map #[] 0)) (fun x=>x)).fr (a1 _ (.cells (freshG wr.heap.size s).cells 231)) (fun x=>x)
  rw [e1] at this
  exact this
 ·refine ⟨[],fun _=>⟨none,0,0⟩,?_,fun k l e=>by (cases e)⟩
  have:=(MapAt.made ((wr.alloc (.map #[] 0)).alloc (.map #[] 0)) idV).fr (a1 _ (.cells (freshG wr.heap.size s).cells 231)) (fun x=>x)
  rw [e2] at this
  exact this
 all_goals (simp only [freshG,newer];omega)
def GivesNA (w:World) (S:List Nat) (e:Ending) (w':World):Prop:=
 Fr nope w w'∧((S=[]∧∃ T v,e = .returned (.tuple #[.pointer none,.iface T v])) ∨
  ∃ (g:AlG) (ids ys:List Nat),ids.Nodup∧(∀ k,k∈ids↔k∈S)∧SortedOf (ltP fun _=>none) ids ys∧e = .returned (.tuple #[ptr g.a,.nilIface])∧AlAt w' (newer w w') ⟨ys,fun _=>none,fun _=>none,[],fun _=>none⟩ g)
set_option maxHeartbeats 2000000 in
theorem NewAlloc_calls (w:World) (A:Option Addr) (c:Nat) (rs:List R) (hR:RegsAt w A rs) (hv:∀ r∈rs,r.virt=false) (hl:rs.length≤1000):
  Calls Tryz.prog 112 #[.slice A rs.length c] w (GivesNA w (freeIds rs)):=by
 have hmm:=@run_makeMap Tryz.prog
 go_enter Tryz.func112,Tryz.ntmps112
 go_wp2
 go_loopg [13] rs.length (fun n c13 wr=>∃ k:Nat,k≤rs.length∧c13 = .int .i64 (k:Int)∧SetAt wr w.heap.size (freeIds (rs.take k))∧Fr nope w wr∧n=rs.length - k)
 case atStart=>exact ⟨0,Nat.zero_le _,rfl,⟨[],by simpa [freeIds] using MapAt.made w idV⟩,(Fr.refl _ _).alloc _,rfl⟩
 case round=>
  obtain ⟨k,hk,rfl,hM,hf,rfl⟩:=hrel
  by_cases hlt:k < rs.length
  ·obtain ⟨b,off,r,rfl,hbl,hrk,hc,ok,hat⟩:=(hR.nope hf).at_ hlt
   have hrv:=hv r (List.mem_of_getElem? hrk)
   have hT:=Lib.hid (freeIds_take hrk)
   have ha:Go.bits .and .u8 (r.info:Int) 2=((r.info &&& 2:Nat):Int):=u8_and r.info 2 ok.info (by omega)
   obtain ⟨m,hm⟩:∃ m,r.info &&& 2=m:=⟨_,rfl⟩
   rw [hm] at ha hT
   replace hm:=Lib.hid hm
   have hML:w.heap.size < wr.heap.size:=by obtain ⟨_,hh⟩:=hM;exact hh.lt
   clear hrk
   by_cases hz:m=0
   ·subst hz
    go_wp2_with (first
     | (refine wpList_Info rfl rfl rfl hrv ?_;intro w1 hf1)
     | (refine wpList_ID rfl rfl rfl ok (hat.nope hf1) ?_;intro w2 hf2;obtain ⟨w3,hu,hM3,hf3,hs3⟩:=((hM.fr hf1 (fun x=>x)).fr hf2 (fun x=>x)).put r.id;replace hs3:=Lib.hid hs3))
    go_roundg (rs.length - (k+1))
    case measure=>omega
    case rel=>exact ⟨k+1,by omega,by go_num,by rw [hT.out];simpa using hM3,((hf.then hf1).then hf2).then_new hf3 (fun x hx e=>by omega),rfl⟩
   ·have hzz:((m:Int) == 0)=false:=by rw [beq_eq_false_iff_ne];omega
    go_wp2_with (refine wpList_Info rfl rfl rfl hrv ?_;intro w1 hf1)
    go_roundg (rs.length - (k+1))
    case measure=>omega
    case rel=>exact ⟨k+1,by omega,by go_num,by rw [hT.out];simpa [hz] using hM.fr hf1 (fun x=>x),hf.then hf1,rfl⟩
  ·obtain rfl:k=rs.length:=by omega
   rw [List.take_length] at hM
   have hML:w.heap.size < wr.heap.size:=by obtain ⟨_,hh⟩:=hM;exact hh.lt
   generalize hS:freeIds rs=S at hM
   replace hS:=Lib.hid hS
   obtain ⟨ks,hM⟩:=hM
   have hks:∀ k,k∈ks↔k∈S:=fun k=>by rw [hM.mem_iff];by_cases h:k∈S<;>simp [h]
   have hlen:=fun ty=>hM.len setT ty
   have hknd:=hM.nodup
   cases hke:ks with
   | nil=>
    subst hke
    have hSn:S=[]:=by
     cases S with
     | nil=>rfl
     | cons a l=>have:=(hks a).2 (by simp);cases this
    subst hSn
    clear hks
    simp only [List.length_nil] at hlen
    go_wp2_with (go_at_call 61;refine (errorsNew_calls _ _).mono ?_;rintro e w4 ⟨rfl,hf4⟩)
    go_ret2
    exact ⟨hf.then hf4,.inl ⟨hS.out,_,_,rfl⟩⟩
   | cons k0 kl=>
    have hk0:ks≠[]:=by rw [hke];simp
    have hlz:((ks.length:Int) == 0)=false:=by rw [beq_eq_false_iff_ne];have:=List.length_pos_iff.2 hk0;omega
    clear hke k0 kl
    go_wp2_with (refine wpList_rangeO rfl rfl rfl (show MapO wr (some w.heap.size) idV ks _ from hM) idInj setT ?_;intro w0 hrg0 hf0 hs0)
    go_frame
    have hI0:KInv ks ks []:=⟨hknd,List.nodup_nil,by simp,by simp⟩
    have hwr:wr.heap.size≤w0.heap.size:=hf0.size
    obtain ⟨wo,rfl⟩:∃ wo:World,wo=wr:=⟨_,rfl⟩
    replace hs0:=Lib.hid hs0
    replace hmm:=Lib.hid hmm
    clear hlen hlz
    go_loopg [7] ks.length (fun n c7 wr=>∃ (todo D:List Nat),RangeO wr wo.heap.size (some w.heap.size) idV ks (fun k=>if k∈S then some (.bool true) else none) todo∧wr.ownsRow w0.heap.size 170 1 c7 D.length (D.map idV)∧KInv ks todo D∧Fr (fun b=>b=wo.heap.size) w0 wr∧todo.length=n)
    case atStart=>exact ⟨ks,[],hrg0,by simpa using own_nil _ _ _ _,hI0,Fr.refl _ _,rfl⟩
    case round=>
     obtain ⟨todo,D,hrg,hown,hI,hfq,rfl⟩:=hrel
     go_wp2_with (refine wpList_nextO rfl rfl rfl hrg idInj ?_ ?_)
     ·intro h00
      subst h00
      have hmem:∀ k,k∈D↔k∈S:=fun k=>by rw [← hks,hI.mem];simp
      have hdn:=hI.dn
      have hw0:Fr nope w wr:=(hf.then hf0).then_new hfq (fun x hx e=>by have:=hf.size;omega)
      obtain ⟨A7,c7',rfl,_,_⟩:=own_slice hown
      have hDl:D.length≤1000:=by
       have h1:=nodup_le (m:=S) hI.dn (fun x hx=>(hmem x).1 hx)
       have h2:(freeIds rs).length≤rs.length:=by unfold freeIds;rw [List.length_map];exact List.length_filter_le _ _
       rw [hS.out] at h2
       omega
      have hbase:=own_base hown
      have hs00:=hs0.out
      have hq0:=hfq.size
      have hww:=hf.size
      replace hs0:=Lib.hid hs0
      replace hmm:=hmm.out
      clear hI hrg hks
      go_wp2_with (go_at_call 88;refine (NewEmptyAl_calls _).mono ?_;rintro e w5 ⟨rfl,rfl⟩)
      have hF:AlAt (freshW wr ⟨A7,D.length,c7'⟩) _ _ _:=AlAt.fresh (w:=w) (B:=w0.heap.size) hown (by omega) (by omega)
      have hS1:=sortregs_calls _ _ _ _ hF (fun _=>rfl) (by show D.length < 4611686018427387904;omega)
      refine hS1.mono ?_
      rintro e w6 ⟨rfl,ys,hys,h6,hf6⟩
      go_wp2
      go_ret2
      have hf66:Fr nope w w6:=(hw0.then (freshW_fr wr _)).then_new hf6 (fun x hx hn=>by have:=hn.1;omega)
      exact ⟨hf66,.inr ⟨_,D,ys,hdn,fun k=>by rw [hS.out];exact hmem k,hys,rfl,h6.more (fun c hc=>⟨hc.1,Nat.lt_of_lt_of_le hc.2 hf6.size⟩) (fun c hc=>hc.2)⟩⟩
     ·intro k v w1 hkt hkk hv' hrg1 hf1 hs1 hen
      have hI1:=hI.step hkt
      have hlen:(todo.erase k).length < todo.length:=by rw [List.length_erase_of_mem hkt];have:=List.length_pos_of_mem hkt;omega
      unfold idV at hen
      have hDl:D.length≤1000:=by
       have h1:=nodup_le (m:=S) hI.dn (fun x hx=>(hks x).1 ((hI.mem x).2 (.inl hx)))
       have h2:(freeIds rs).length≤rs.length:=by unfold freeIds;rw [List.length_map];exact List.length_filter_le _ _
       rw [hS.out] at h2
       omega
      have hown1:=own_fr hown hf1 (fun b hb e=>by have:=own_base hown b hb;have:=hs0.out;omega)
      have hs01:=hfq.size
      have hf01:Fr (fun b=>b=wo.heap.size) w0 w1:=hfq.then hf1
      replace hs1:=Lib.hid hs1
      clear hv'
      go_wp2_with (refine wpList_app (v:=u7) rfl rfl Tryz.underlying226 infoID rfl (by omega) rfl (own_fr hown1 ((Fr.refl nope _).alloc _) (fun _ _ x=>x)) rfl (news:=[idV k]) rfl (one_new _ _ _ _ (by simp)) (by simp [Value.oneCell',idV]) (by simp only [maxLen];omega) (by omega) (by have:=hf01.size;simp;omega) ?_;intro v3 w3 hown3 hf3 _)
      go_roundg (todo.erase k).length
      case measure=>exact hlen
      case rel=>
       have hs00:=hs0.out
       have hs11:=hs1.out
       refine ⟨_,D ++ [k],(hrg1.fr ((Fr.refl nope w1).alloc _) (fun x=>x) (fun _ _ x=>x)).fr hf3 (fun e=>by have:=own_base hown _ e;omega) (fun b hb e=>by injection hb with hb;subst hb;have:=own_base hown _ e;omega),by rw [List.map_append,List.length_append];exact hown3,hI1,(hf01.alloc _).then_new hf3 (fun x hx e=>by have:=own_base hown x e;omega),rfl⟩
end
section
open Go Go.RowKit Go.MapKept Bth
set_option maxRecDepth 100000
def freeK (k:Nat):List Nat:=freeIds (famRegs 0 k)
theorem freeIds_fb (fb k:Nat):freeIds (famRegs fb k)=freeK k:=by
 have key:∀ (j:Nat) (l:List (String × Ent)),freeIds (regsF fb j l)=freeIds (regsF 0 j l):=by
  intro j l
  unfold freeIds regsF
  rw [List.filter_map,List.filter_map,List.map_map,List.map_map]
  rfl
 unfold freeK famRegs
 split<;>exact key _ _
def bpIds (rs:List R):List Nat:=(rs.filter fun r=>r.info &&& 4 != 0).map R.id
theorem bpIds_fb (fb k:Nat):bpIds (famRegs fb k)=bpIds (famRegs 0 k):=by
 have key:∀ (j:Nat) (l:List (String × Ent)),bpIds (regsF fb j l)=bpIds (regsF 0 j l):=by
  intro j l
  unfold bpIds regsF
  rw [List.filter_map,List.filter_map,List.map_map,List.map_map]
  rfl
 unfold famRegs
 split<;>exact key _ _
theorem bpIds_take {rs:List R} {k:Nat} {r:R} (h:rs[k]? = some r):bpIds (rs.take (k+1))=bpIds (rs.take k) ++ if r.info &&& 4=0 then [] else [r.id]:=by
 unfold bpIds
 rw [List.take_add_one,h,List.filter_append,List.map_append]
 congr 1
 by_cases hi:r.info &&& 4=0<;>simp [hi]
def prs (l:List Nat):Nat→Option Int:=l.foldl (fun f id=>setPr f id (-1)) fun _=>none
theorem prs_snoc (l:List Nat) (id:Nat):prs (l ++ [id])=setPr (prs l) id (-1):=by simp [prs]
def prK (k:Nat):Nat→Option Int:=prs (bpIds (famRegs 0 k))
def regsK (k:Nat):List Nat:=
 match k with
 | 0=>[0]
 | 1=>[0,1,2,3,6,7,8,9,10,11,12,13,14,15,5].map fun i=>256+i*65536
 | 2=>(List.range 32).map fun i=>512+i*65536
 | 3=>[1,2,3,4,5,6,7].map fun i=>768+i*65536
 | _=>[]
theorem regsK_facts:∀ k,k < 4→(∀ r∈regsK k,r∈freeK k)∧(∀ r∈freeK k,r∈regsK k)∧(regsK k).Nodup∧(regsK k).Pairwise (fun a b=>ltP (prK k) b a=false)∧(∀ r∈regsK k,isV r=false∧r < 4294967296∧kindOf r=k)∧(regsK k).length < 100∧(freeK k).length≠0:=by
 decide +kernel
theorem regsK_of {k:Nat} (hk:k≤3) {ids ys:List Nat} (hn:ids.Nodup) (hm:∀ x,x∈ids↔x∈freeK k) (h:SortedOf (ltP (prK k)) ids ys):ys=regsK k:=by
 obtain ⟨h1,h2,h3,h4,_⟩:=regsK_facts k (by omega)
 have hp:ys.Perm (regsK k):=h.1.trans ((List.perm_ext_iff_of_nodup hn h3).2 fun a=>(hm a).trans ⟨h2 a,h1 a⟩)
 refine List.Perm.eq_of_pairwise (le:=fun a b=>ltP (prK k) b a=false) (fun a b _ _ h1 h2=>?_) h.2 h4 hp
 simp [ltP] at h1 h2
 omega
def NewK (k:Nat) (x:Al):Prop:=∃ ids,ids.Nodup∧(∀ j,j∈ids↔j∈freeK k)∧SortedOf (ltP x.prio) ids x.regs∧x.al=(fun _=>none)∧x.edges=[]∧x.poss=fun _=>none
def GivesNK (w:World) (k:Nat) (e:Ending) (w':World):Prop:=
 Fr nope w w'∧∃ (g:AlG) (x:Al),NewK k x∧x.prio=(fun _=>none)∧e = .returned (.tuple #[ptr g.a,.nilIface])∧AlAt w' (newer w w') x g
theorem newer_mono {w w1 w2:World} (h1:w.heap.size≤w1.heap.size):∀ c,newer w1 w2 c→newer w w2 c:=fun _ hc=>⟨Nat.le_trans h1 hc.1,hc.2⟩
theorem NewAllocK_calls (w:World) (k:Nat) (hk:k≤3):
  Calls Tryz.prog 80 #[.int .u8 (k:Int)] w (GivesNK w k):=by
 go_enter Tryz.func80,Tryz.ntmps80
 go_wp2_with (go_at_call 81;refine (FamilyOfKind_calls _ k hk).mono ?_;rintro e w1 ⟨rfl,v,hF,hO,hf1⟩)
 refine (Registers_fam_calls w1 w.heap.size k v _ (famRegs w.heap.size k) hF hO (by have:=famRegs_len w.heap.size k;omega)).mono ?_
 rintro e w2 ⟨u,rfl,hu,hf2⟩
 rw [List.length_map] at hu
 obtain ⟨A,c,rfl,_,_⟩:=own_slice hu
 go_wp2_with fail
 have hreg:=famRegs_ok (fb:=w.heap.size) hk
 refine (NewAlloc_calls w2 A c (famRegs w.heap.size k) ⟨own_Sl hu,fun r hr=>?_⟩ (fun r hr=>(hreg r hr).1) (by have:=famRegs_len w.heap.size k;omega)).mono ?_
 ·obtain ⟨h1,h2,h3,h4⟩:=hreg r hr
  exact ⟨h4,(hF.reg r h2 h3).nope hf2⟩
 ·rintro e w3 ⟨hf3,⟨h0,_⟩ | ⟨g,ids,ys,h1,h2,h3,rfl,h4⟩⟩
  ·rw [freeIds_fb] at h0
   have:=(regsK_facts k (by omega)).2.2.2.2.2.2
   rw [h0] at this
   exact absurd rfl this
  ·rw [freeIds_fb] at h2
   go_wp2
   go_ret2
   have hw2:=hf1.then hf2
   exact ⟨hw2.then hf3,g,_,⟨ids,h1,h2,h3,rfl,rfl,rfl⟩,rfl,rfl,h4.more (newer_mono hw2.size) (fun c hc=>hc.2)⟩
end
section
open Go Go.RowKit Go.MapKept Bth
open Go.ChangeMaps (setBlock)
set_option maxRecDepth 100000
def both (f g:Nat→Option Nat):Nat→Option Nat:=fun x=>match g x with
 | some p=>some p
 | none=>f x
def imgF (f:Nat→Option Nat) (k:Nat):Option Value:=(f k).map idV
set_option maxHeartbeats 1000000 in
theorem Merge_calls (w:World) (ba bb:Nat) (fa fb:Nat→Option Nat) (ha:IdMap w ba fa) (hb:IdMap w bb fb) (hne:bb≠ba) (hd:∀ k,fb k≠none→fa k=none):
  Calls Tryz.prog 90 #[.map (some ba),.map (some bb)] w fun e w'=>e = .returned .nilIface∧IdMap w' ba (both fa fb)∧Fr (fun b=>b=ba) w w':=by
 obtain ⟨ks,hM⟩:=hb
 have hO:MapO w (some bb) idV ks (imgF fb):=hM
 have hks:∀ k,k∈ks↔fb k≠none:=fun k=>by rw [hM.mem_iff];cases fb k<;>simp
 have hnd:=hM.nodup
 have hal:=ha.lt
 clear hM
 go_enter Tryz.func90,Tryz.ntmps90
 go_wp2_with (refine wpList_rangeO rfl rfl rfl hO idInj allocT ?_;intro w0 hrg0 hf0 hs0)
 go_frame
 have h00:∀ x,(if x∈ks then fa x else both fa fb x)=fa x:=fun x=>by
  split
  ·rfl
  ·rename_i h
   have:fb x=none:=Classical.byContradiction fun hh=>h ((hks x).2 hh)
   unfold both;rw [this]
 replace h00:=Lib.hid h00
 replace hks:=Lib.hid hks
 replace hd:=Lib.hid hd
 clear hs0
 go_loopg [] ks.length (fun n wr=>∃ (todo:List Nat),RangeO wr w.heap.size (some bb) idV ks (imgF fb) todo∧IdMap wr ba (fun x=>if x∈todo then fa x else both fa fb x)∧todo.Nodup∧Fr (fun b=>b=ba) w wr∧todo.length=n)
 case atStart=>exact ⟨ks,hrg0,by rw [show (fun x=>if x∈ks then fa x else both fa fb x)=fa from funext h00.out];exact ha.fr hf0 (fun x=>x),hnd,hf0.of_nope,rfl⟩
 case round=>
  obtain ⟨todo,hrg,hM,htd,hf,rfl⟩:=hrel
  go_wp2_with (refine wpList_nextO rfl rfl rfl hrg idInj ?_ ?_)
  ·intro h0
   subst h0
   replace hM:=Lib.hid hM
   go_wp2
   go_ret
   exact ⟨rfl,by simpa using hM.out,hf⟩
  ·intro k v w1 hkt hkk hv hrg1 hf1 hs1 hen
   obtain ⟨p,hp,rfl⟩:∃ p,fb k=some p∧v=idV p:=by
    unfold imgF at hv
    obtain ⟨p,h1,h2⟩:=Option.map_eq_some_iff.1 hv
    exact ⟨p,h1,h2.symm⟩
   have hM1:IdMap w1 ba _:=hM.fr hf1 (by omega)
   have hfa:=hd.out k (by rw [hp];simp)
   have hl2:=hM1.look2 k
   simp only [hkt,if_true,hfa,Option.getD_none,Option.isSome_none] at hl2
   obtain ⟨w2,hu,hM2,hf2,hs2⟩:=hM1.put k p
   have hlen:(todo.erase k).length < todo.length:=by rw [List.length_erase_of_mem hkt];have:=List.length_pos_of_mem hkt;omega
   have hfn:(fun x=>if x=k then some p else if x∈todo then fa x else both fa fb x)=fun x=>if x∈todo.erase k then fa x else both fa fb x:=by
    funext x
    by_cases e:x=k
    ·subst e
     have:x∉todo.erase x:=fun hm=>((List.Nodup.mem_erase_iff htd).1 hm).1 rfl
     rw [if_pos rfl,if_neg this]
     simp [both,hp]
    ·have:(x∈todo.erase k)↔x∈todo:=by rw [List.Nodup.mem_erase_iff htd];exact ⟨fun h=>h.2,fun h=>⟨e,h⟩⟩
     simp only [this,if_neg e]
   rw [hfn] at hM2
   have hfr:Fr (fun b=>b=ba) w w2:=(hf.then_new hf1 (fun x hx e=>by omega)).then hf2
   have htd2:=htd.erase k
   replace hs1:=Lib.hid hs1
   replace hs2:=Lib.hid hs2
   replace hM2:=Lib.hid hM2
   clear hv hp hfa hfn
   unfold idV at hen
   go_wp2
   go_roundg (todo.erase k).length
   case measure=>exact hlen
   case rel=>exact ⟨_,hrg1.fr hf2 (by omega) (fun c hc=>by injection hc with hc;subst hc;exact hne),hM2.out,htd2,hfr,rfl⟩
def kindV (k:Nat):Value:=.int .u8 (k:Int)
theorem kindKey:KeyOk Tryz.prog 156 (.int .u8) kindV:=⟨Tryz.underlying156,fun _=>rfl,fun a b h=>by simp [kindV] at h;omega⟩
theorem kindInj:∀ a b:Nat,kindV a=kindV b→a=b:=fun a b h=>by simp [kindV] at h;omega
theorem asT:Tryz.prog.underlying 153=some (.map 156 158):=Tryz.underlying153
theorem zeroAl (w:World):(zeroValue 158).run Tryz.prog w = .ok (.pointer none) w:=by kernel_rfl
def updF {α : Type} (f:Nat → α) (k:Nat) (v:α):Nat → α:=fun j=>if j=k then v else f j
theorem updF_self {α : Type} (f:Nat → α) (k:Nat) (v:α):updF f k v k=v:=by simp [updF]
theorem updF_ne {α : Type} (f:Nat → α) {j k:Nat} (v:α) (h:j≠k):updF f k v j=f j:=by simp [updF,h]
def asF (K:List Nat) (gs:Nat→AlG) (k:Nat):Option Value:=if k∈K then some (ptr (gs k).a) else none
structure AS (w0 w:World) (mb:Nat) (K:List Nat) (gs:Nat→AlG) (xs:Nat→Al) (Ps:Nat→Nat→Prop):Prop where
 map:∃ ks,MapAt w mb kindV ks (asF K gs)
 at_:∀ k∈K,AlAt w (Ps k) (xs k) (gs k)
 new:∀ k∈K,∀ c,Ps k c→w0.heap.size≤c∧c≠mb
 apart:∀ j∈K,∀ k∈K,j≠k→∀ c,Ps j c→¬Ps k c
 sz:w0.heap.size≤w.heap.size
 mbn:w0.heap.size≤mb
theorem AS.lt {w0 w:World} {mb:Nat} {K:List Nat} {gs:Nat→AlG} {xs:Nat→Al} {Ps:Nat→Nat→Prop} (h:AS w0 w mb K gs xs Ps):mb < w.heap.size:=by obtain ⟨_,hm⟩:=h.map;exact hm.lt
theorem AS.keep {S:Nat→Prop} {w0 w w':World} {mb:Nat} {K:List Nat} {gs:Nat→AlG} {xs:Nat→Al} {Ps:Nat→Nat→Prop} (h:AS w0 w mb K gs xs Ps) (hf:Fr S w w') (h1:∀ k∈K,∀ c,Ps k c→¬S c) (h2:¬S mb):AS w0 w' mb K gs xs Ps:=
 { h with
   map:=by obtain ⟨ks,hm⟩:=h.map;exact ⟨ks,hm.fr hf h2⟩
   at_:=fun k hk=>(h.at_ k hk).fr hf (h1 k hk)
   sz:=Nat.le_trans h.sz hf.size }
theorem AS.still {w0 w w':World} {mb:Nat} {K:List Nat} {gs:Nat→AlG} {xs:Nat→Al} {Ps:Nat→Nat→Prop} (h:AS w0 w mb K gs xs Ps) (hf:Fr nope w w'):AS w0 w' mb K gs xs Ps:=h.keep hf (fun _ _ _ _ x=>x) (fun x=>x)
theorem AS.look {w0 w:World} {mb:Nat} {K:List Nat} {gs:Nat→AlG} {xs:Nat→Al} {Ps:Nat→Nat→Prop} (h:AS w0 w mb K gs xs Ps) {k:Nat} (hk:k∈K):
  (Instr.lookup 153 (.map (some mb)) (.int .u8 (k:Int)) false).run Tryz.prog w = .ok (ptr (gs k).a) w:=by
 obtain ⟨ks,hm⟩:=h.map
 have:=hm.lookup kindKey asT (zeroAl w) k false
 rw [show (Value.int .u8 (k:Int))=kindV k from rfl,this]
 simp [asF,hk]
theorem AS.look2 {w0 w:World} {mb:Nat} {K:List Nat} {gs:Nat→AlG} {xs:Nat→Al} {Ps:Nat→Nat→Prop} (h:AS w0 w mb K gs xs Ps) (k:Nat):
  ∃ v,(Instr.lookup 153 (.map (some mb)) (.int .u8 (k:Int)) true).run Tryz.prog w = .ok (.tuple #[v,.bool (decide (k∈K))]) w:=by
 obtain ⟨ks,hm⟩:=h.map
 have:=hm.lookup kindKey asT (zeroAl w) k true
 rw [show (Value.int .u8 (k:Int))=kindV k from rfl,this]
 by_cases hk:k∈K
 ·exact ⟨ptr (gs k).a,by simp [asF,hk]⟩
 ·exact ⟨.pointer none,by simp [asF,hk]⟩
theorem AS.turn {w0 w w':World} {mb:Nat} {K:List Nat} {gs:Nat→AlG} {xs:Nat→Al} {Ps:Nat→Nat→Prop} (h:AS w0 w mb K gs xs Ps) {k:Nat} (hk:k∈K) {x:Al} {g:AlG} (hg:g.a=(gs k).a) (ha:AlAt w' (wider (Ps k) w w') x g) (hf:Fr (Ps k) w w'):
  AS w0 w' mb K (updF gs k g) (updF xs k x) (updF Ps k (wider (Ps k) w w')):=by
 have hl:=h.lt
 have hw0:=h.sz
 have hnew:∀ c,wider (Ps k) w w' c→w0.heap.size≤c∧c≠mb:=fun c hc=>by
  rcases hc with hc | hc
  ·exact h.new k hk c hc
  ·exact ⟨by omega,by omega⟩
 refine ⟨?_,fun j hj=>?_,fun j hj c hc=>?_,fun i hi j hj hij c hc=>?_,Nat.le_trans h.sz hf.size,h.mbn⟩
 ·obtain ⟨ks,hm⟩:=h.map
  refine ⟨ks,?_⟩
  have e:asF K (updF gs k g)=asF K gs:=by
   funext j
   unfold asF
   by_cases e:j=k
   ·subst e;rw [updF_self,hg]
   ·rw [updF_ne _ _ e]
  rw [e]
  exact hm.fr hf (fun hp=>(h.new k hk _ hp).2 rfl)
 ·by_cases e:j=k
  ·subst e;rw [updF_self,updF_self,updF_self];exact ha
  ·rw [updF_ne _ _ e,updF_ne _ _ e,updF_ne _ _ e]
   exact (h.at_ j hj).fr hf (fun c hc hp=>h.apart j hj k hk e c hc hp)
 ·by_cases e:j=k
  ·subst e;rw [updF_self] at hc;exact hnew c hc
  ·rw [updF_ne _ _ e] at hc;exact h.new j hj c hc
 ·have key:∀ j,j∈K→j≠k→∀ c,Ps j c→¬wider (Ps k) w w' c:=fun j hj hjk c hc hw=>by
   rcases hw with hw | hw
   ·exact h.apart j hj k hk hjk c hc hw
   ·have:=(h.at_ j hj).lt c hc;omega
  by_cases e1:i=k
  ·subst e1
   rw [updF_self] at hc
   rw [updF_ne _ _ (fun e=>hij e.symm)]
   exact fun hp=>key j hj (fun e=>hij e.symm) c hp hc
  ·rw [updF_ne _ _ e1] at hc
   by_cases e2:j=k
   ·subst e2;rw [updF_self];exact key i hi e1 c hc
   ·rw [updF_ne _ _ e2];exact h.apart i hi j hj hij c hc
theorem AS.fr {S:Nat→Prop} {w0 w w':World} {mb:Nat} {K:List Nat} {gs:Nat→AlG} {xs:Nat→Al} {Ps:Nat→Nat→Prop} (h:AS w0 w mb K gs xs Ps) (h0:Fr S w0 w) {k:Nat} (hk:k∈K) (hf:Fr (Ps k) w w'):Fr S w0 w':=
 h0.then_new hf (fun c hc hp=>by have:=(h.new k hk c hp).1;omega)
theorem AS.frM {S:Nat→Prop} {w0 w w':World} {mb:Nat} {K:List Nat} {gs:Nat→AlG} {xs:Nat→Al} {Ps:Nat→Nat→Prop} (h:AS w0 w mb K gs xs Ps) (h0:Fr S w0 w) (hf:Fr (fun b=>b=mb) w w'):Fr S w0 w':=
 h0.then_new hf (fun c hc hp=>by have:=h.mbn;omega)
theorem AS.add {w0 w w1:World} {mb:Nat} {K:List Nat} {gs:Nat→AlG} {xs:Nat→Al} {Ps:Nat→Nat→Prop} (h:AS w0 w mb K gs xs Ps) {k:Nat} (hk:k∉K) {x:Al} {g:AlG} (ha:AlAt w1 (newer w w1) x g) (hf:Fr nope w w1):
  ∃ w2,(Instr.mapUpdate 153 (.map (some mb)) (.int .u8 (k:Int)) (ptr g.a)).run Tryz.prog w1 = .ok () w2∧AS w0 w2 mb (K ++ [k]) (updF gs k g) (updF xs k x) (updF Ps k (newer w w1))∧Fr (fun b=>b=mb) w1 w2:=by
 have hl:=h.lt
 have hw0:=h.sz
 have h1:=h.still hf
 obtain ⟨ks,hm⟩:=h1.map
 obtain ⟨es,clock,g1,g2⟩:=hm.update kindKey asT k (ptr g.a)
 have hst:Fr (fun x=>x=mb) w1 (setBlock w1 mb (.map es clock)):=(Fr.refl (fun x=>x=mb) w1).setBlock (.inl rfl) _
 have hne:∀ j,j∈K→j≠k:=fun j hj e=>hk (e ▸ hj)
 refine ⟨setBlock w1 mb (.map es clock),g1,⟨⟨if k∈ks then ks else ks ++ [k],?_⟩,fun j hj=>?_,fun j hj c hc=>?_,fun i hi j hj hij c hc=>?_,Nat.le_trans h1.sz hst.size,h.mbn⟩,hst⟩
 ·have e:asF (K ++ [k]) (updF gs k g)=updM (asF K gs) k (some (ptr g.a)):=by
   funext j
   unfold asF updM
   by_cases e:j=k
   ·subst e;simp [updF]
   ·simp [updF,e]
  rw [e];exact g2
 ·by_cases e:j=k
  ·subst e;rw [updF_self,updF_self,updF_self];exact ha.fr hst (fun c hc e=>by have:=hc.1;omega)
  ·rw [updF_ne _ _ e,updF_ne _ _ e,updF_ne _ _ e]
   have hjK:j∈K:=by simpa [e] using hj
   exact (h1.at_ j hjK).fr hst (fun c hc e=>(h.new j hjK c hc).2 e)
 ·by_cases e:j=k
  ·subst e;rw [updF_self] at hc;exact ⟨Nat.le_trans hw0 hc.1,by have:=hc.1;omega⟩
  ·rw [updF_ne _ _ e] at hc;exact h.new j (by simpa [e] using hj) c hc
 ·have key:∀ j,j∈K→∀ c,Ps j c→¬newer w w1 c:=fun j hj c hc hw=>by have:=(h.at_ j hj).lt c hc;have:=hw.1;omega
  by_cases e1:i=k
  ·subst e1
   rw [updF_self] at hc
   rw [updF_ne _ _ (fun e=>hij e.symm)]
   exact fun hp=>key j (by simpa [Ne.symm hij] using hj) c hp hc
  ·rw [updF_ne _ _ e1] at hc
   have hiK:i∈K:=by simpa [e1] using hi
   by_cases e2:j=k
   ·subst e2;rw [updF_self];exact key i hiK c hc
   ·rw [updF_ne _ _ e2];exact h.apart i hiK j (by simpa [e2] using hj) hij c hc
end
section
open Go Go.RowKit Go.MapKept Bth
set_option maxRecDepth 100000
def seqTail:Nat→Code→Code
 | 0,c=>c
 | n+1,.seq _ b=>seqTail n b
 | _,c=>c
noncomputable def arTail (n:Nat):Code:=seqTail n (Tryz.f46.body.getD .skip)
structure Ready (k:Nat) (x:Al):Prop where
 al:x.al=fun _=>none
 head:Bth.Head x.regs x.edges x.al x.edges x.poss
 fits:AlFits x
 regs:∀ r∈x.regs,isV r=false∧r < 4294967296
 kind:∀ v,x.poss v≠none→kindOf v=k
def ColorOf (x:Al) (r:Option (Nat→Option Nat)):Prop:=∃ rem,RemOf x.poss rem∧r=color x.regs x.edges (rem.length+1) rem x.al
def uni (D:List Nat) (fk:Nat→Nat→Option Nat) (v:Nat):Option Nat:=if kindOf v∈D then fk (kindOf v) v else none
def GivesAR (w:World) (fb:Nat) (f:Fn) (K:List Nat) (xs:Nat→Al) (e:Ending) (w':World):Prop:=
 Fr (fun b=>b=fb) w w'∧(((∃ k∈K,ColorOf (xs k) none)∧∃ T v,e = .returned (.iface T v)) ∨
  ∃ (fk:Nat→Nat→Option Nat) (b:Nat),(∀ k∈K,ColorOf (xs k) (some (fk k)))∧e = .returned .nilIface∧FnAt w' fb { f with al:=some b } ∧ IdMap w' b (uni K fk)∧w.heap.size≤b)
theorem ColorOf.kind {k:Nat} {x:Al} {f:Nat→Option Nat} (hr:Ready k x) (h:ColorOf x (some f)):∀ v,f v≠none→kindOf v=k:=by
 obtain ⟨rem,h1,h2⟩:=h
 intro v hv
 have h3:=(color_spec (rem.length+1) rem x.al f h1.nd h2.symm).2.1
 by_cases hm:v∈rem
 ·exact hr.kind v ((h1.mem v).1 hm)
 ·have:=h3 v hm
  rw [this,hr.al] at hv
  exact absurd rfl hv
theorem uni_step {D:List Nat} {fk:Nat→Nat→Option Nat} {k:Nat} (hk:k∉D) (f:Nat→Option Nat) (hf:∀ v,f v≠none→kindOf v=k):both (uni D fk) f=uni (D ++ [k]) (updF fk k f):=by
 funext v
 unfold both uni
 by_cases e:kindOf v=k
 ·rw [e,updF_self]
  simp only [List.mem_append,List.mem_singleton,or_true,if_true,if_neg hk]
  cases f v<;>rfl
 ·have:f v=none:=Classical.byContradiction fun h=>e (hf v h)
  rw [this,updF_ne _ _ e]
  simp [e]
set_option maxHeartbeats 4000000 in
theorem phE (w0 w:World) (mb fb:Nat) (f:Fn) (K:List Nat) (gs:Nat→AlG) (xs:Nat→Al) (Ps:Nat→Nat→Prop) {u1 u2 u4 u5 u6 u7 u8 u9 u10 u11 u12 u13 u14 u15 u16 u17 u18 u19 u20 u21 u22 u23 u24 u25 u26 u27 u28 u29 u30 u31 u32 u33 u34 u35 u36 u37 u38 u39 u40 u41 u42 u43 u44 u45 u46 u47 u48 u49 u50 u51 u52 u53 u54 u55 u56 u57 u58 u59 u60 u61 u62 u63 u64 u65 u66 u67 u68 u69 u70 u71 u72 u73 u74 u75 u76 u77 u78 u79 u80 u81 u82 u83 u84 u85 u86 u87 u88 u89 u90 u91 u92 u93 u94 u95 u96 u97 u98 u99 u100 u101 u102 u103 u104 u105 u106 u107 u108 u109 u110 u111 u112 u113 u114 u115 u116 u117 u118 u119 u120 u121 u122 u123 u124 u125 u126 u127 u128 u129 u130 u131 u132 u133 u134 u135 u136 u137 u138 u139 u140 u141 u142 u143 u144 u145 u146 u147 u148 u149 u150 u151 u152 u153 u154 u155 u156 u157 u158 u159 u160 u161 u162 u163 u164 u165 u166 u167 u168 u169 u170 u171 u172 u173 u174 u175 u176 u177 u178 u179 u180 u181 u182 u183 u184:Value} (hA:AS w0 w mb K gs xs Ps) (hfr:Fr nope w0 w) (hfn:FnAt w0 fb f) (hR:∀ k∈K,Ready k (xs k)):
  Code.wp Tryz.prog (arTail 6) (bodyPost Tryz.prog Tryz.f46 (GivesAR w0 fb f K xs)) ⟨#[.pointer (some ⟨fb,0,none⟩),u1,u2,.map (some mb),u4,u5,u6,u7,u8,u9,u10,u11,u12,u13,u14,u15,u16,u17,u18,u19,u20,u21,u22,u23,u24,u25,u26,u27,u28,u29,u30,u31,u32,u33,u34,u35,u36,u37,u38,u39,u40,u41,u42,u43,u44,u45,u46,u47,u48,u49,u50,u51,u52,u53,u54,u55,u56,u57,u58,u59,u60,u61,u62,u63,u64,u65,u66,u67,u68,u69,u70,u71,u72,u73,u74,u75,u76,u77,u78,u79,u80,u81,u82,u83,u84,u85,u86,u87,u88,u89,u90,u91,u92,u93,u94,u95,u96,u97,u98,u99,u100,u101,u102,u103,u104,u105,u106,u107,u108,u109,u110,u111,u112,u113,u114,u115,u116,u117,u118,u119,u120,u121,u122,u123,u124,u125,u126,u127,u128,u129,u130,u131,u132,u133,u134,u135,u136,u137,u138,u139,u140,u141,u142,u143,u144,u145,u146,u147,u148,u149,u150,u151,u152,u153,u154,u155,u156,u157,u158,u159,u160,u161,u162,u163,u164,u165,u166,u167,u168,u169,u170,u171,u172,u173,u174,u175,u176,u177,u178,u179,u180,u181,u182,u183,u184],[]⟩ w:=by
 have hfw:=hfr.heap hfn (fun x=>x)
 have hfl:=lt_of_heap hfw
 have hfl0:=lt_of_heap hfn
 conv=>arg 2;whnf
 have hc7:=FnAt.c7 hfw
 have hz7:=frozen_row hfw 7
 go_upto_region 49 with (go_at_call 88;refine (NewEmptyAl_calls _).mono ?_;rintro e w5 ⟨rfl,rfl⟩)
 have hPlt:∀ k∈K,∀ c,Ps k c→c < w.heap.size:=fun k hk c hc=>(hA.at_ k hk).lt c hc
 have hwsz:=hfr.size
 obtain ⟨W0,hW0⟩:∃ W0,W0=(w.setCell ⟨fb,7,none⟩ (.map (some w.heap.size))).alloc (.map #[] 0):=⟨_,rfl⟩
 have hs0:(w.setCell ⟨fb,7,none⟩ (.map (some w.heap.size))).heap.size=w.heap.size:=by simp [World.setCell]
 have hf0:Fr (fun b=>b=fb) w W0:=by rw [hW0];exact ((Fr.refl (fun b=>b=fb) w).setCell (.inl rfl) _).alloc _
 have hfn0:FnAt W0 fb { f with al:=some w.heap.size }:=by
  rw [hW0]
  exact ((Fr.refl nope _).alloc _).heap (setCell_heap hfw _) (fun x=>x)
 have hM0:IdMap W0 w.heap.size (uni [] fun _ _=>none):=by
  rw [hW0]
  refine ⟨[],?_⟩
  have:=MapAt.made (w.setCell ⟨fb,7,none⟩ (.map (some w.heap.size))) idV
  rw [hs0] at this
  exact this
 have hs1:W0.heap.size=w.heap.size+1:=by rw [hW0];simp [hs0]
 have hA0:=hA.keep hf0 (fun k hk c hc e=>by have:=(hA.new k hk c hc).1;omega) (fun e=>by have:=hA.mbn;omega)
 have hfr0:Fr (fun b=>b=fb) w0 W0:=hfr.of_nope.then hf0
 obtain ⟨ks,hmap⟩:=hA0.map
 have hks:∀ k,k∈ks↔k∈K:=fun k=>by rw [hmap.mem_iff];unfold asF;by_cases h:k∈K<;>simp [h]
 have hks0:=hmap.nodup
 have hat0:=hA0.at_
 have hnew:=hA.new
 have hapart:=hA.apart
 have hmbn:=hA.mbn
 have hmbl:=hA.lt
 rw [← hW0]
 replace hW0:=Lib.hid hW0
 replace hs0:=Lib.hid hs0
 clear hA hA0 hc7 hz7 hfn hfw hfr hf0
 go_wp2_with (refine wpList_rangeO rfl rfl rfl (show MapO W0 (some mb) kindV ks (asF K gs) from hmap) kindInj asT ?_;intro w1 hrg0 hf1 hsz1)
 go_frame
 have hs11:w1.heap.size=w.heap.size+2:=by rw [hsz1,hs1]
 rw [hs1] at hrg0 ⊢
 replace hs1:=Lib.hid hs1
 replace hsz1:=Lib.hid hsz1
 replace hs11:=Lib.hid hs11
 clear hmap
 replace hks:=Lib.hid hks
 go_loopg [] ks.length (fun n wr=>∃ (todo D:List Nat) (fk:Nat→Nat→Option Nat),RangeO wr (w.heap.size+1) (some mb) kindV ks (asF K gs) todo∧(∀ k∈todo,k∈K∧AlAt wr (Ps k) (xs k) (gs k))∧KInv ks todo D∧(∀ k∈D,ColorOf (xs k) (some (fk k)))∧IdMap wr w.heap.size (uni D fk)∧FnAt wr fb { f with al:=some w.heap.size } ∧ Fr (fun b=>b=fb) w0 wr∧w.heap.size+2≤wr.heap.size∧todo.length=n)
 case atStart=>exact ⟨ks,[],fun _ _=>none,hrg0,fun k hk=>⟨(hks.out k).1 hk,(hat0 k ((hks.out k).1 hk)).still hf1⟩,⟨hks0,List.nodup_nil,by simp,by simp⟩,by simp,hM0.fr hf1 (fun x=>x),hfn0.fr hf1 (fun x=>x),hfr0.then hf1.of_nope,Nat.le_of_eq hs11.out.symm,rfl⟩
 case round=>
  obtain ⟨todo,D,fk,hrg,hat,hI,hC,hM,hfn,hf,hsw,rfl⟩:=hrel
  go_wp2_with (refine wpList_nextO rfl rfl rfl hrg kindInj ?_ ?_)
  ·intro h0
   subst h0
   have hDK:∀ k,k∈D↔k∈K:=fun k=>by rw [← hks.out,hI.mem];simp
   have hun:uni D fk=uni K fk:=by
    funext v
    unfold uni
    simp only [hDK]
   replace hun:=Lib.hid hun
   clear hI hrg hat
   go_wp2
   go_ret
   exact ⟨hf,.inr ⟨fk,w.heap.size,fun k hk=>hC k ((hDK k).2 hk),rfl,hfn,by rw [← hun.out];exact hM,hwsz⟩⟩
  ·intro k v w2 hkt hkk hv hrg2 hf2 hs2 hen
   have hkK:=(hks.out k).1 hkk
   obtain rfl:v=ptr (gs k).a:=by
    unfold asF at hv
    rw [if_pos hkK] at hv
    exact (Option.some.inj hv).symm
   have hI1:=hI.step hkt
   have hkD:k∉D:=fun hh=>hI.ap k hh hkt
   have hlen:(todo.erase k).length < todo.length:=by rw [List.length_erase_of_mem hkt];have:=List.length_pos_of_mem hkt;omega
   have hr0:∀ j∈K,¬Ps j (w.heap.size+1):=fun j hj hp=>by have:=hPlt j hj _ hp;omega
   have hN0:∀ j∈K,¬Ps j w.heap.size:=fun j hj hp=>by have:=hPlt j hj _ hp;omega
   have hat2:∀ j∈todo,AlAt w2 (Ps j) (xs j) (gs j):=fun j hj=>((hat j hj).2).fr hf2 (fun c hc e=>hr0 j (hat j hj).1 (e ▸ hc))
   have hkA:=hat2 k hkt
   obtain ⟨rem,hrem⟩:∃ rem,RemOf (xs k).poss rem:=by
    obtain ⟨kq,sv,hm,_⟩:=hkA.poss
    exact ⟨kq,rem_ks hm⟩
   have hRk:=hR k hkK
   have hM2:IdMap w2 w.heap.size (uni D fk):=hM.fr hf2 (by omega)
   have hfn2:FnAt w2 fb { f with al:=some w.heap.size }:=hfn.fr hf2 (by omega)
   have hfr2:Fr (fun b=>b=fb) w0 w2:=hf.then_new hf2 (fun c hc e=>by omega)
   have hcall:=Allocate_calls w2 (Ps k) (xs k) (gs k) rem hkA hrem hRk.head hRk.fits hRk.regs
   unfold ptr at hen hcall
   unfold kindV at hen
   have hs2':w.heap.size+2≤w2.heap.size:=by omega
   replace hs2:=Lib.hid hs2
   clear hv hrg hat
   go_wp2_with fail
   refine hcall.mono ?_
   rintro e w3 ⟨hf3,⟨hn,T,y,rfl⟩ | ⟨g,ba,hg,rfl,hba,hwb⟩⟩
   ·have hcol:ColorOf (xs k) none:=⟨rem,hrem,hn.symm⟩
    have hfr3:Fr (fun b=>b=fb) w0 w3:=hfr2.then_new hf3 (fun c hc hp=>by have:=(hnew k hkK c hp).1;omega)
    replace hn:=Lib.hid hn
    go_wp2
    go_ret
    exact ⟨hfr3,.inl ⟨⟨k,hkK,hcol⟩,_,_,rfl⟩⟩
   ·have hcol:ColorOf (xs k) (some g):=⟨rem,hrem,hg.symm⟩
    have hgk:=hcol.kind hRk
    have hfr3:Fr (fun b=>b=fb) w0 w3:=hfr2.then_new hf3 (fun c hc hp=>by have:=(hnew k hkK c hp).1;omega)
    have hM3:IdMap w3 w.heap.size (uni D fk):=hM2.fr hf3 (hN0 k hkK)
    have hfn3:FnAt w3 fb { f with al:=some w.heap.size }:=hfn2.fr hf3 (fun hp=>by have:=(hnew k hkK _ hp).1;omega)
    have hbn:ba≠w.heap.size:=fun e=>by
     rcases hwb with hwb | hwb
     ·exact hN0 k hkK (e ▸ hwb)
     ·have:=hwb.1;omega
    have hmc:=Merge_calls w3 w.heap.size ba (uni D fk) g hM3 hba hbn (fun v hv=>by
     unfold uni
     rw [hgk v hv,if_neg hkD])
    rw [uni_step hkD g hgk] at hmc
    have hc73:=FnAt.c7 hfn3
    have hfl3:=lt_of_heap hfn3
    replace hg:=Lib.hid hg
    simp only at hc73
    clear hba hwb
    go_wp2_with (go_at_call 90;refine hmc.mono ?_;rintro e w4 ⟨rfl,hM4,hf4⟩)
    go_roundg (todo.erase k).length
    case measure=>exact hlen
    case rel=>
     refine ⟨_,D ++ [k],updF fk k g,(hrg2.fr hf3 (hr0 k hkK) (fun b hb hp=>?_)).fr hf4 (by omega) (fun b hb e=>by injection hb with hb;omega),fun j hj=>?_,hI1,fun j hj=>?_,hM4,hfn3.fr hf4 (by omega),hfr3.then_new hf4 (fun c hc e=>by omega),by have:=hf3.size;have:=hf4.size;omega,rfl⟩
     ·injection hb with hb
      subst hb
      exact (hnew k hkK _ hp).2 rfl
     ·have hjt:=List.mem_of_mem_erase hj
      have hjk:j≠k:=fun e=>by subst e;exact ((List.Nodup.mem_erase_iff hI.nd).1 hj).1 rfl
      have hjK:j∈K:=(hks.out j).1 ((hI.mem j).2 (.inr hjt))
      exact ⟨hjK,((hat2 j hjt).fr hf3 (fun c hc hp=>hapart j hjK k hkK hjk c hc hp)).fr hf4 (fun c hc e=>hN0 j hjK (e ▸ hc))⟩
     ·rcases List.mem_append.1 hj with hj | hj
      ·rw [updF_ne _ _ (fun e=>hkD (by rw [← e];exact hj))];exact hC j hj
      ·obtain rfl:j=k:=by simpa using hj
       rw [updF_self];exact hcol
end
end Go.Proofs.YtbgblfiapecioaaGreat
