/- Part of the proof of a statement about pub-berthage: what its texts have in common. -/
import Derived.Lib.LaidTab
import Derived.MakeChecks
import Derived.KernelRfl
import Derived.Test.YtpbeedabmjmdmaaGreatDoorProg
import Derived.Laws.BytesString
import Derived.Lib.Hide
import Derived.Deep.RegionHeld3
import Derived.BigQuiet
import Derived.Test.YtpbeedabmjmdmaaGreatDoorP00
import Derived.Test.YtpbeedabmjmdmaaGreatDoorP03
import Derived.Test.YtpbeedabmjmdmaaGreatDoorP09
import Derived.Test.YtpbeedabmjmdmaaGreatDoorP11
import Derived.Test.YtpbeedabmjmdmaaGreatDoorP22
import Derived.Test.YtpbeedabmjmdmaaGreatDoorP24
import Derived.Test.YtpbeedabmjmdmaaGreatDoorP25
import Derived.Test.YtpbeedabmjmdmaaGreatDoorP28
import Derived.Test.YtpbeedabmjmdmaaGreatDoorP31
import Derived.Test.YtpbeedabmjmdmaaGreatDoorP34
import Derived.Test.YtpbeedabmjmdmaaGreatDoorP35
import Derived.Test.YtpbeedabmjmdmaaGreatDoorP36
import Derived.Test.YtpbeedabmjmdmaaGreatDoorP38
import Derived.Test.YtpbeedabmjmdmaaGreatDoorP41
namespace Bth
section
open Go Go.Lib
def strData {H:Type} (zs:List (List UInt8)):DataW H:=.agg (zs.map fun z=>.lit (.string z))
theorem cells_of_strs {H:Type} {enc:TypeId × Value→H} {P:Program} {w:World} {base:Nat} {sp:Nat→Bool} {held:Bool} {fuel:Nat} {t e:TypeId} {n:Nat} {cs:List Value} {zs:List (List UInt8)} {p:List MemPlace}
  (ht:P.underlying t=some (.array n e)) (he:P.underlying e=some .string) (hce:P.cellsOf e=1)
  (h:DataW.trod enc P w base sp held fuel t cs=some (strData zs,p)):∀ (i:Nat) (z:List UInt8),zs[i]? = some z→cs[i]? = some (.string ⟨z.toArray⟩):=by
 cases fuel with
 | zero=>simp [DataW.trod] at h
 | succ fuel=>
  simp only [DataW.trod,ht,hce,Nat.mul_one] at h
  split at h
  ·rename_i hl
   obtain ⟨xs,hm,hx⟩:=Option.map_eq_some_iff.1 h
   have hxs:xs.map (·.1)=zs.map fun z=>(DataW.lit (.string z):DataW H):=by
    have:=congrArg Prod.fst hx
    simpa [strData] using this
   have hxl:xs.length=n:=by simpa using mapM_length hm
   have hzl:zs.length=n:=by
    have:=congrArg List.length hxs
    simp at this
    omega
   intro i z hz
   have hi:i < n:=by rw [← hzl];exact (List.getElem?_eq_some_iff.1 hz).1
   obtain ⟨b,hb,hf⟩:=mapM_at hm i i (by simp [hi])
   obtain ⟨s,hc,rfl,_⟩:=DataW.trod_string he hf
   have h1:cs[i]? = some (.string s):=by
    have:=congrArg (·[0]?) hc
    simpa [List.getElem?_take,List.getElem?_drop] using this
   have h2:(xs.map (·.1))[i]? = some (DataW.lit (.string s.data.toList):DataW H):=by simp [hb]
   rw [hxs,List.getElem?_map,hz] at h2
   simp only [Option.map_some,Option.some.injEq,DataW.lit.injEq,Lit.string.injEq] at h2
   rw [h1,h2]
  ·cases h
def StrsIs (w:World) (g:Nat) (zs:List (List UInt8)):Prop:=∀ (i:Nat) (z:List UInt8),zs[i]? = some z→w.cell? ⟨g,i,none⟩=some (.string ⟨z.toArray⟩)
theorem two_strs {P:Program} {W:World} {n1 n2:String} {z1 z2:List (List UInt8)} {g1 g2:Nat} {t1 t2 e1 e2:TypeId} {l1 l2:Nat} (hg1:P.globalNamed n1=some g1) (hg2:P.globalNamed n2=some g2)
  (ht1:(P.globals[g1]?).map (·.type)=some t1) (ht2:(P.globals[g2]?).map (·.type)=some t2) (hu1:P.underlying t1=some (.array l1 e1)) (hu2:P.underlying t2=some (.array l2 e2)) (he1:P.underlying e1=some .string) (he2:P.underlying e2=some .string) (hc1:P.cellsOf e1=1) (hc2:P.cellsOf e2=1)
  (h:laidMet P [(n1,strData z1),(n2,strData z2)] W):StrsIs W g1 z1∧StrsIs W g2 z2:=by
 obtain ⟨ps,⟨g',t',cs,fuel,p,q,hg',ht',hvar,hd,⟨g'',t'',cs',fuel',p',q',hg'',ht'',hvar',hd',_,_⟩,_⟩,_⟩:=h
 obtain rfl:=Option.some.inj (hg1.symm.trans hg')
 obtain rfl:=Option.some.inj (ht1.symm.trans ht')
 obtain rfl:=Option.some.inj (hg2.symm.trans hg'')
 obtain rfl:=Option.some.inj (ht2.symm.trans ht'')
 have k1:=cells_of_strs hu1 he1 hc1 hd
 have k2:=cells_of_strs hu2 he2 hc2 hd'
 refine ⟨fun i z hz=>?_,fun i z hz=>?_⟩
 ·have:=World.var?_cell hg1 hvar i
  rw [this]
  simpa using k1 i z hz
 ·have:=World.var?_cell hg2 hvar' i
  rw [this]
  simpa using k2 i z hz
end
end Bth
namespace Go.Proofs.YtpbeedabmjmdmaaGreatDoor
section
open Go Go.RowKit Bth
set_option maxRecDepth 100000
def infoP (k i:Nat):Nat:=if (k=1∧i=4)∨(k=3∧i=0) then 2 else if k=1∧i=5 then 4 else 0
theorem regInfo_calls (w:World) (k i:Nat):Calls Tryz.prog 52 #[.int .u8 (k:Int),.int .u16 (i:Int)] w fun e w'=>e = .returned (.int .u8 (infoP k i:Int))∧w'=w:=by
 by_cases k1:k=1
 ·subst k1
  by_cases i4:i=4
  ·subst i4
   go_enter Tryz.func52,Tryz.ntmps52
   go_wp2
   go_ret
   exact ⟨rfl,rfl⟩
  have i4':(i:Int)≠4:=by omega
  by_cases i5:i=5
  ·subst i5
   go_enter Tryz.func52,Tryz.ntmps52
   go_wp2
   go_ret
   exact ⟨rfl,rfl⟩
  have i5':(i:Int)≠5:=by omega
  have e:infoP 1 i=0:=by simp [infoP,i4,i5]
  rw [e]
  go_enter Tryz.func52,Tryz.ntmps52
  go_wp2
  go_ret
  exact ⟨rfl,rfl⟩
 have k1':(k:Int)≠1:=by omega
 by_cases k3:k=3
 ·subst k3
  by_cases i0:i=0
  ·subst i0
   go_enter Tryz.func52,Tryz.ntmps52
   go_wp2
   go_ret
   exact ⟨rfl,rfl⟩
  have i0':(i:Int)≠0:=by omega
  have e:infoP 3 i=0:=by simp [infoP,i0]
  rw [e]
  go_enter Tryz.func52,Tryz.ntmps52
  go_wp2
  go_ret
  exact ⟨rfl,rfl⟩
 have k3':(k:Int)≠3:=by omega
 have e:infoP k i=0:=by simp [infoP,k1,k3]
 rw [e]
 go_enter Tryz.func52,Tryz.ntmps52
 go_wp2
 go_ret
 exact ⟨rfl,rfl⟩
def GivesTx (n:Nat) (w:World) (e:Ending) (w':World):Prop:=(∃ s:ByteArray,e = .returned (.string s)∧s.size≤n)∧Fr nope w w'
def one8 (z:Int):ByteArray:=⟨#[UInt8.ofNat z.toNat]⟩
theorem conv1 (W:World) (b:Nat) (z:Int) (hc:W.cell? ⟨b,0,none⟩=some (.int .u8 z)):(convert 253 9 (.slice (some ⟨b,0,none⟩) 1 1)).run Tryz.prog W = .ok (.string (one8 z)) W:=by
 rw [run_convert_bytes_string W _ _ 5 _ _ _ Tryz.underlying253 Tryz.underlying5 Tryz.underlying9]
 refine run_bytesToString W ⟨b,0,none⟩ 1 1 [z] ?_
 go_simp
theorem one8_size (z:Int):(one8 z).size=1:=rfl
theorem regDigits_calls (w:World) (n:Nat) (hn:n < 100):Calls Tryz.prog 92 #[.int .u16 (n:Int)] w (GivesTx 2 w):=by
 have hcv:=conv1
 by_cases h10:n < 10
 ·have h10':(n:Int) < 10:=by omega
  go_enter Tryz.func92,Tryz.ntmps92
  go_wp2
  go_ret
  exact ⟨⟨_,rfl,by rw [one8_size];decide⟩,(Fr.refl nope w).alloc _⟩
 ·have h10':¬(n:Int) < 10:=by omega
  have hsz:∀ a b:Int,(one8 a ++ one8 b).size=2:=fun a b=>by rw [ByteArray.size_append];rfl
  have hs1:∀ a:Int,(one8 a).size=1:=one8_size
  replace hsz:=Lib.hid hsz
  go_enter Tryz.func92,Tryz.ntmps92
  go_wp2
  go_ret
  exact ⟨⟨_,rfl,by rw [hsz.out];decide⟩,((Fr.refl nope w).alloc _).alloc _⟩
def Tabs (w:World):Prop:=StrsIs w 1 [[65,88],[67,88],[68,88],[66,88],[83,80],[66,80],[83,73],[68,73]]∧StrsIs w 0 [[70,80],[80,67],[83,66],[83,80]]
theorem Tabs.fr {w w':World} (h:Tabs w) (hf:Fr nope w w'):Tabs w':=⟨fun i z hz=>hf.cell (h.1 i z hz) (fun x=>x),fun i z hz=>hf.cell (h.2 i z hz) (fun x=>x)⟩
inductive HasC:Nat→Nat→Nat→Prop
 | ps:HasC 0 0 0
 | hi {i} : i < 4→HasC 1 i 2
 | lo {i} : i < 4→HasC 1 i 1
 | gp {i s} : i < 8→s≠2→(s=1→4≤i)→HasC 1 i s
 | gq {i s} : 8≤i→i < 16→s≠2→HasC 1 i s
 | vx {i} : i < 32→HasC 2 i 31
 | vy {i} : i < 32→HasC 2 i 63
 | vz {i s} : i < 32→s≠31→s≠63→HasC 2 i s
 | op {i s} : i < 8→HasC 3 i s
theorem regName_calls (w:World) (k i s:Nat) (hT:Tabs w) (h:HasC k i s):Calls Tryz.prog 51 #[.int .u8 (k:Int),.int .u16 (i:Int),.int .u16 (s:Int)] w (GivesTx 100 w):=by
 have hD:=fun W n h=>regDigits_calls W n h
 obtain ⟨h1,h2⟩:=hT
 have hL:=fun (i:Nat) (hi:i < 8)=>h1 i _ (List.getElem?_eq_getElem hi)
 have c0:=hL 0 (by decide)
 have c1:=hL 1 (by decide)
 have c2:=hL 2 (by decide)
 have c3:=hL 3 (by decide)
 have p0:=h2 0 _ rfl
 simp only [List.getElem_cons_zero,List.getElem_cons_succ] at c0 c1 c2 c3
 clear h1 h2
 cases h with
 | ps=>
  go_enter Tryz.func51,Tryz.ntmps51
  go_wp2
  go_ret
  exact ⟨⟨_,rfl,by decide⟩,Fr.refl _ _⟩
 | @hi i hi=>
  obtain rfl | rfl | rfl | rfl:i=0∨i=1∨i=2∨i=3:=by omega
  all_goals
   go_enter Tryz.func51,Tryz.ntmps51
   go_wp2
   go_ret
   exact ⟨⟨_,rfl,by decide⟩,Fr.refl _ _⟩
 | @lo i hi=>
  obtain rfl | rfl | rfl | rfl:i=0∨i=1∨i=2∨i=3:=by omega
  all_goals
   go_enter Tryz.func51,Tryz.ntmps51
   go_wp2
   go_ret
   exact ⟨⟨_,rfl,by decide⟩,Fr.refl _ _⟩
 | @gp i s hi hs h4=>
  have hc:=hL i hi
  obtain ⟨t,ht⟩:∃ t:ByteArray,t=⟨(([[65,88],[67,88],[68,88],[66,88],[83,80],[66,80],[83,73],[68,73]]:List (List UInt8))[i]'hi).toArray⟩:=⟨_,rfl⟩
  have hts:t.size≤100:=by
   rw [ht]
   have:∀ i:Nat,i < 8→∀ z,([[65,88],[67,88],[68,88],[66,88],[83,80],[66,80],[83,73],[68,73]]:List (List UInt8))[i]? = some z→z.length=2:=by decide
   have:=this i hi _ (List.getElem?_eq_getElem hi)
   show Array.size _≤100
   rw [List.size_toArray,this]
   decide
  rw [← ht] at hc
  replace ht:=Lib.hid ht
  have hs':(s:Int)≠2:=by omega
  have hi':(i:Int) < 8:=by omega
  have hi0:(0:Int)≤(i:Int):=by omega
  clear hL c0 c1 c2 c3
  by_cases s1:s=1
  ·subst s1
   have h4':¬(i:Int) < 4:=by have:=h4 rfl;omega
   go_enter Tryz.func51,Tryz.ntmps51
   go_wp2
   go_ret
   exact ⟨⟨_,rfl,hts⟩,Fr.refl _ _⟩
  ·have s1':(s:Int)≠1:=by omega
   go_enter Tryz.func51,Tryz.ntmps51
   go_wp2
   go_ret
   exact ⟨⟨_,rfl,hts⟩,Fr.refl _ _⟩
 | @gq i s h8 hi hs=>
  have hs':(s:Int)≠2:=by omega
  have h8':¬(i:Int) < 8:=by omega
  have h4':¬(i:Int) < 4:=by omega
  by_cases s1:s=1
  ·subst s1
   go_enter Tryz.func51,Tryz.ntmps51
   go_wp2_with fail
   refine (hD _ i (by omega)).mono ?_
   rintro e w1 ⟨⟨t,rfl,ht⟩,hf⟩
   have ht':(t.size:Int)≤8388608:=by omega
   have hadd:=fun W=>run_string_add (P:=Tryz.prog) (w:=W) ⟨#[82]⟩ t (by decide) ht'
   go_wp2
   go_ret
   exact ⟨⟨_,rfl,by rw [ByteArray.size_append];exact Nat.le_trans (Nat.add_le_add_left ht 1) (by decide)⟩,hf⟩
  ·have s1':(s:Int)≠1:=by omega
   go_enter Tryz.func51,Tryz.ntmps51
   go_wp2_with fail
   refine (hD _ i (by omega)).mono ?_
   rintro e w1 ⟨⟨t,rfl,ht⟩,hf⟩
   have ht':(t.size:Int)≤8388608:=by omega
   have hadd:=fun W=>run_string_add (P:=Tryz.prog) (w:=W) ⟨#[82]⟩ t (by decide) ht'
   go_wp2
   go_ret
   exact ⟨⟨_,rfl,by rw [ByteArray.size_append];exact Nat.le_trans (Nat.add_le_add_left ht 1) (by decide)⟩,hf⟩
 | @vx i hi=>
  go_enter Tryz.func51,Tryz.ntmps51
  go_wp2_with fail
  refine (hD _ i (by omega)).mono ?_
  rintro e w1 ⟨⟨t,rfl,ht⟩,hf⟩
  have ht':(t.size:Int)≤8388608:=by omega
  have hadd:=fun W=>run_string_add (P:=Tryz.prog) (w:=W) ⟨#[88]⟩ t (by decide) ht'
  go_wp2
  go_ret
  exact ⟨⟨_,rfl,by rw [ByteArray.size_append];exact Nat.le_trans (Nat.add_le_add_left ht 1) (by decide)⟩,hf⟩
 | @vy i hi=>
  go_enter Tryz.func51,Tryz.ntmps51
  go_wp2_with fail
  refine (hD _ i (by omega)).mono ?_
  rintro e w1 ⟨⟨t,rfl,ht⟩,hf⟩
  have ht':(t.size:Int)≤8388608:=by omega
  have hadd:=fun W=>run_string_add (P:=Tryz.prog) (w:=W) ⟨#[89]⟩ t (by decide) ht'
  go_wp2
  go_ret
  exact ⟨⟨_,rfl,by rw [ByteArray.size_append];exact Nat.le_trans (Nat.add_le_add_left ht 1) (by decide)⟩,hf⟩
 | @vz i s hi ha hb=>
  have ha':(s:Int)≠31:=by omega
  have hb':(s:Int)≠63:=by omega
  go_enter Tryz.func51,Tryz.ntmps51
  go_wp2_with fail
  refine (hD _ i (by omega)).mono ?_
  rintro e w1 ⟨⟨t,rfl,ht⟩,hf⟩
  have ht':(t.size:Int)≤8388608:=by omega
  have hadd:=fun W=>run_string_add (P:=Tryz.prog) (w:=W) ⟨#[90]⟩ t (by decide) ht'
  go_wp2
  go_ret
  exact ⟨⟨_,rfl,by rw [ByteArray.size_append];exact Nat.le_trans (Nat.add_le_add_left ht 1) (by decide)⟩,hf⟩
 | @op i s hi=>
  go_enter Tryz.func51,Tryz.ntmps51
  go_wp2_with fail
  refine (hD _ i (by omega)).mono ?_
  rintro e w1 ⟨⟨t,rfl,ht⟩,hf⟩
  have ht':(t.size:Int)≤8388608:=by omega
  have hadd:=fun W=>run_string_add (P:=Tryz.prog) (w:=W) ⟨#[75]⟩ t (by decide) ht'
  go_wp2
  go_ret
  exact ⟨⟨_,rfl,by rw [ByteArray.size_append];exact Nat.le_trans (Nat.add_le_add_left ht 1) (by decide)⟩,hf⟩
end
section
open Go Go.RowKit Bth
set_option maxRecDepth 100000
theorem IDPartsX_calls (w:World) (id:Nat) (hid:id < 4294967296):Calls Tryz.prog 6 #[.int .u32 (id:Int)] w fun e w'=>e = .returned (.tuple #[.bool (isV id),.int .u8 (kindOf id:Int),.int .u16 (indexOf id:Int)])∧w'=w:=by
 have ha:bits .and .u32 (id:Int) 1=((id % 2:Nat):Int):=by
  have:=u32_and id 1 hid (by omega)
  rw [Nat.and_one_is_mod] at this
  exact this
 have hb:isV id=(((id % 2:Nat):Int) == 1):=by
  unfold isV
  rw [Bool.eq_iff_iff];simp;omega
 have e1:(kindOf id:Int)=(id:Int) / 256 % 256:=by unfold kindOf;omega
 have e2:(indexOf id:Int)=(id:Int) / 65536 % 65536:=by unfold indexOf;omega
 rw [e1,e2,hb]
 clear e1 e2 hb
 go_enter Tryz.func6,Tryz.ntmps6
 go_wp2
 go_ret3
 exact ⟨by simp;omega,rfl⟩
end
section
open Go Go.RowKit Bth
set_option maxRecDepth 100000
theorem hasC_of {k i s:Nat} (h:hasR k i s=true):HasC k i s:=by
 unfold hasR at h
 by_cases k0:k=0
 ·subst k0
  simp at h
  obtain ⟨rfl,rfl⟩:=h
  exact .ps
 by_cases k1:k=1
 ·subst k1
  rw [if_neg (by decide),if_pos rfl] at h
  by_cases s2:s=2
  ·subst s2
   rw [if_pos rfl] at h
   exact .hi (by simpa using h)
  ·rw [if_neg s2] at h
   simp at h
   by_cases i8:i < 8
   ·by_cases s1:s=1
    ·subst s1
     by_cases i4:i < 4
     ·exact .lo i4
     ·exact .gp i8 s2 fun _=>by omega
    ·exact .gp i8 s2 fun e=>absurd e s1
   ·exact .gq (by omega) h.1 s2
 by_cases k2:k=2
 ·subst k2
  simp at h
  rcases h.2 with (rfl | rfl) | rfl
  ·exact .vx h.1
  ·exact .vy h.1
  ·exact .vz h.1 (by decide) (by decide)
 by_cases k3:k=3
 ·subst k3
  simp at h
  exact .op h.1
 rw [if_neg k0,if_neg k1,if_neg k2,if_neg k3] at h
 cases h
def physC (k i s:Nat) (nm:ByteArray):Array Value:=#[.int .u8 (k:Int),.int .u16 (i:Int),.int .u16 (s:Int),.string nm,.int .u8 (infoP k i:Int)]
def GivesPh (w:World) (k i s:Nat) (e:Ending) (w':World):Prop:=(∃ nm,e = .returned (.tuple #[.agg (physC k i s nm),.bool true]))∧Fr nope w w'
set_option maxHeartbeats 1000000 in
theorem spLookup_calls (w:World) (k i s:Nat) (hT:Tabs w) (h:hasR k i s=true):Calls Tryz.prog 21 #[.int .u8 (k:Int),.int .u16 (i:Int),.int .u16 (s:Int)] w (GivesPh w k i s):=by
 have hH:=fun W=>regHas_calls W k i s
 have hN:=fun W (hW:Fr nope w W)=>regName_calls W k i s (hT.fr hW) (hasC_of h)
 have hI:=fun W=>regInfo_calls W k i
 rw [h] at hH
 clear h hT
 replace hH:=Lib.hid hH
 replace hN:=Lib.hid hN
 replace hI:=Lib.hid hI
 obtain ⟨z,hz⟩:∃ z:Int,z=(infoP k i:Int):=⟨_,rfl⟩
 rw [← hz] at hI
 unfold GivesPh physC
 rw [← hz]
 replace hz:=Lib.hid hz
 have f0:Fr nope w (w.alloc (.cells #[.int .u8 0,.int .u16 0,.int .u16 0,.string ⟨#[]⟩,.int .u8 0] 50)):=(Fr.refl nope w).alloc _
 go_enter Tryz.func21,Tryz.ntmps21
 go_wp2_with fail
 refine (hH.out _).mono ?_
 rintro e w1 ⟨rfl,rfl⟩
 go_wp2_with fail
 refine (hN.out _ f0).mono ?_
 rintro e w2 ⟨⟨nm,rfl,hnm⟩,hf2⟩
 have hb2:=hf2.heap (heap_alloc_new w (.cells #[.int .u8 0,.int .u16 0,.int .u16 0,.string ⟨#[]⟩,.int .u8 0] 50)) (fun x=>x)
 have hn2:=f0.then hf2
 go_wp2_with fail
 refine (hI.out _).mono ?_
 rintro e w3 ⟨rfl,rfl⟩
 go_wp2_with (refine wpList_storeRow (b:=w.heap.size) (cells:=#[.int .u8 (k:Int),.int .u16 (i:Int),.int .u16 (s:Int),.string nm,.int .u8 z]) rfl rfl rfl rfl hb2 rfl (by kernel_rfl) (by kernel_rfl) ?_;intro w4 hb4 hf4)
 try simp only [Exit.inBlock,Exit.then]
 refine bodyPost_ret (results_cell_row2 rfl _ _ w.heap.size _ _ _ _ rfl hb4 Tryz.underlying50 rfl (by kernel_rfl)) rfl ?_
 exact ⟨⟨nm,rfl⟩,hn2.then_new hf4 (fun x hx e=>by have e':x=w.heap.size:=e;omega)⟩
set_option maxHeartbeats 1000000 in
theorem spLookupID_calls (w:World) (id k i s:Nat) (hT:Tabs w) (hid:id < 4294967296) (hv:isV id=false) (hk:kindOf id=k) (hi:indexOf id=i) (h:hasR k i s=true):Calls Tryz.prog 22 #[.int .u32 (id:Int),.int .u16 (s:Int)] w (GivesPh w k i s):=by
 have hP:=fun W=>IDPartsX_calls W id hid
 rw [hv,hk,hi] at hP
 have hL:=fun W (hW:Fr nope w W)=>spLookup_calls W k i s (hT.fr hW) h
 clear h hT hv hid hk hi
 replace hP:=Lib.hid hP
 replace hL:=Lib.hid hL
 have f0:Fr nope w (w.alloc (.cells #[.int .u8 0,.int .u16 0,.int .u16 0,.string ⟨#[]⟩,.int .u8 0] 50)):=(Fr.refl nope w).alloc _
 go_enter Tryz.func22,Tryz.ntmps22
 go_wp2_with fail
 refine (hP.out _).mono ?_
 rintro e w1 ⟨rfl,rfl⟩
 go_wp2_with fail
 refine (hL.out _ f0).mono ?_
 rintro e w2 ⟨⟨nm,rfl⟩,hf2⟩
 have hb2:=hf2.heap (heap_alloc_new w (.cells #[.int .u8 0,.int .u16 0,.int .u16 0,.string ⟨#[]⟩,.int .u8 0] 50)) (fun x=>x)
 have hn2:=f0.then hf2
 go_wp2_with (refine wpList_storeRow (b:=w.heap.size) (cells:=physC k i s nm) rfl rfl rfl rfl hb2 rfl (by kernel_rfl) (by kernel_rfl) ?_;intro w4 hb4 hf4)
 try simp only [Exit.inBlock,Exit.then]
 refine bodyPost_ret (results_cell_row2 rfl _ _ w.heap.size _ _ _ _ rfl hb4 Tryz.underlying50 rfl (by kernel_rfl)) rfl ?_
 exact ⟨⟨nm,rfl⟩,hn2.then_new hf4 (fun x hx e=>by have e':x=w.heap.size:=e;omega)⟩
end
section
open Go Go.RowKit Bth
set_option maxRecDepth 100000
set_option maxHeartbeats 2000000 in
theorem VerifyAlloc_calls (w:World) (fb:Nat) (f:Fn) (nds:List Nd) (rs:List Rec) (A0:Option Addr) (c0:Nat) (hfn:FnAt w fb f) (hnd:f.nodes = .slice A0 nds.length c0) (hS:Sl w A0 nds.length (nds.map Nd.val)) (hio:insOf nds=rs.map (·.b)) (hrs:∀ r∈rs,r.At w)
  (hph:∀ r∈rs,∀ x∈regsOf r.ops,x.virt=false) (hl:nds.length≤1048576) (hfew:∀ r∈rs,r.ops.length≤1048576):
  Calls Tryz.prog 31 #[ptr fb] w fun e w'=>e = .returned .nilIface∧Fr nope w w':=by
 have hrl:rs.length≤1048576:=by
  have h2:=insOf_le nds
  rw [hio,List.length_map] at h2
  omega
 have hI:Calls Tryz.prog 58 #[.pointer (some ⟨fb,0,none⟩)] w (GivesOwn w 115 ((rs.map (·.b)).map ptr)):=by
  have hc5:=hfn.c5
  rw [hnd] at hc5
  have:=Instructions_calls w fb A0 c0 nds hc5 hS (by omega)
  rw [hio] at this
  exact this
 clear hfn hnd hS hio hl
 replace hrs:=Lib.hid hrs
 replace hph:=Lib.hid hph
 replace hfew:=Lib.hid hfew
 unfold ptr
 go_enter Tryz.func31,Tryz.ntmps31
 go_wp2_with fail
 refine hI.mono ?_
 rintro e w1 ⟨v,rfl,hown,hf1⟩
 simp only [List.length_map] at hown
 obtain ⟨A1,c1,rfl,_,_⟩:=own_slice hown
 have hSl:=own_Sl hown
 rw [List.map_map] at hSl
 clear hown hI
 go_wp2
 go_loopg [10] rs.length (fun n c10 wr=>∃ k:Nat,k≤rs.length∧c10 = .int .i64 (k:Int)∧Fr nope w1 wr∧n=rs.length - k)
 case atStart=>exact ⟨0,Nat.zero_le _,rfl,Fr.refl _ _,rfl⟩
 case round=>
  obtain ⟨k,hk,rfl,hf,rfl⟩:=hrel
  have hfw:=hf1.then hf
  by_cases hlt:k < rs.length
  ·obtain ⟨b0,off,u,hA1e,hbl,hu,hc⟩:=(hSl.nope hf).at_ hlt
   rw [List.getElem?_map] at hu
   obtain ⟨r,hr,rfl⟩:=Option.map_eq_some_iff.1 hu
   have hrm:=List.mem_of_getElem? hr
   have hat:=(hrs.out r hrm).nope hfw
   have hphr:=Lib.hid (hph.out r hrm)
   have hfr:=hfew.out r hrm
   have hbb:=hat.own.at_
   have hR:=InsRegisters_calls wr r.i r.ops hat.opsAt (by omega)
   have hibl:=lt_of_heap hbb
   simp only [Function.comp,ptr] at hc
   subst hA1e
   clear hu hr hrm hat
   go_wp2_with (refine wpList_loadRow (b:=r.b) rfl rfl rfl hbb Tryz.underlying130 rfl (by kernel_rfl) ?_)
   refine hR.mono ?_
   rintro e w2 ⟨A2,c2,rfl,⟨hS2,_⟩,hf2⟩
   have hrlen:(regsOf r.ops).length≤2097152:=by have:=regsOf_le r.ops;omega
   obtain ⟨xs,hxs⟩:∃ xs,xs=regsOf r.ops:=⟨_,rfl⟩
   rw [← hxs] at hS2 hrlen hphr ⊢
   replace hxs:=Lib.hid hxs
   clear hR hbb hc
   go_wp2
   go_loopg [19] xs.length (fun n c19 wx=>∃ j:Nat,j≤xs.length∧c19 = .int .i64 (j:Int)∧Fr nope w2 wx∧n=xs.length - j)
   case atStart=>exact ⟨0,Nat.zero_le _,rfl,Fr.refl _ _,rfl⟩
   case round=>
    obtain ⟨j,hj,rfl,hg,rfl⟩:=hrel
    by_cases hjl:j < xs.length
    ·obtain ⟨b3,o3,u,hAe,hbl3,hu,hc3⟩:=(hS2.nope hg).at_ hjl
     rw [List.getElem?_map] at hu
     obtain ⟨x,hx,rfl⟩:=Option.map_eq_some_iff.1 hu
     have hv0:=hphr.out x (List.mem_of_getElem? hx)
     have hTP:=ToPhysical_calls wr x
     obtain ⟨T,v,hv⟩:=x.val_iface
     rw [hv0,hv] at hTP
     rw [hv] at hc3
     simp only [Bool.false_eq_true,if_false] at hTP
     replace hv:=Lib.hid hv
     subst hAe
     clear hu hx hv0
     go_wp2_with fail
     refine hTP.mono ?_
     rintro e w4 ⟨rfl,rfl⟩
     go_wp2
     go_roundg (xs.length - (j+1))
     case measure=>omega
     case rel=>exact ⟨j+1,by omega,by go_num,hg,rfl⟩
    ·go_wp2
     go_roundg (rs.length - (k+1))
     case measure=>omega
     case rel=>exact ⟨k+1,by omega,by go_num,(hf.then hf2).then hg,rfl⟩
  ·go_wp2
   go_ret
   exact ⟨rfl,hfw⟩
end
section
open Go Go.RowKit Bth
set_option maxRecDepth 100000
theorem ImVA_calls (w:World) (s:SV) (ns:List PN) (hN:NodesAt w w.heap.size s ns) (hok:ns.all okN=true) (hb:∀ p∈insP ns,∀ g∈gsOf p.ops,g.virt=false):Calls Tryz.prog 13 #[.slice s.A s.n s.c] w fun e w'=>e = .returned (.bool true)∧Fr nope w w':=by
 have hfew:=hN.few
 go_enter Tryz.func13,Tryz.ntmps13
 go_wp2_with fail
 refine (newWorld_calls w).mono ?_
 rintro e w1 ⟨rfl,hW,hf1⟩
 have hN1:=hN.fr hf1 (fun _ _ x=>x)
 have hF:=function_calls w1 w.heap.size (fun _=>none) s ns hN1 hW
 have hl1:=hf1.size
 go_wp2_with fail
 refine hF.mono ?_
 rintro e w2 ⟨fs,hg,hW2,hf2,⟨fb,f,nds,rs,cms,hok',st,hfb,hbare,hfresh,rfl⟩ | ⟨hok',_⟩⟩
 rotate_left
 ·rw [hok] at hok';cases hok'
 have hwl:=lt_of_heap hW.1
 have hf02:Fr nope w w2:=hf1.then_new hf2 (fun x hx e=>by omega)
 have hnl:nds.length≤1048576:=by rw [st.mt.len];exact hfew
 obtain ⟨A,c,hnn,_,_⟩:=own_slice st.nodes
 have hSn:Sl w2 A nds.length (nds.map Nd.val):=by have h:=st.nodes;rw [hnn] at h;exact own_Sl h
 have hph:∀ r∈rs,∀ x∈regsOf r.ops,x.virt=false:=fun r hr x hx=>by
  obtain ⟨p,hp,hm⟩:=st.mt.each hr
  obtain ⟨n,hn,rfl⟩:=insP_mem hp
  have h1:=(hm.regs hW2 (PI.ok_of (hN.each n hn).ins)).1
  have:x.plain∈gsOf n.ins.ops:=by rw [← h1];exact List.mem_map.2 ⟨x,hx,rfl⟩
  exact hb _ hp _ this
 have hol:∀ r∈rs,r.ops.length≤1048576:=fun r hr=>by
  obtain ⟨p,hp,hm⟩:=st.mt.each hr
  obtain ⟨n,hn,rfl⟩:=insP_mem hp
  have:=(hN.each n hn).ins.few
  have:=pOps_len hm.ops
  omega
 have hV:=VerifyAlloc_calls w2 fb f nds rs A c st.fn hnn hSn st.mt.insOf (fun r hr=>(st.recs r hr).1) hph hnl hol
 clear hN1 hF hok' hfresh hbare hph hol hSn
 unfold ptr at hV ⊢
 go_wp2_with fail
 refine hV.mono ?_
 rintro e w3 ⟨rfl,hf3⟩
 go_wp2
 go_ret
 exact ⟨rfl,hf02.then hf3⟩
end
section
open Go Go.RowKit Bth
set_option maxRecDepth 100000
set_option maxHeartbeats 2000000 in
theorem bare_calls (w:World) (B:Nat) (s:SV) (ns:List PN) (hN:NodesAt w B s ns) (hok:ns.all okN=true) (h2000:ns.length≤2000) (hb:∀ p∈insP ns,∀ g∈gsOf p.ops,g.virt=false):Calls Tryz.prog 12 #[s.val] w fun e w'=>e = .returned (.bool true)∧Fr nope w w':=by
 have hI:=Instrs_calls w B s ns hN
 have hat:=insP_at hN hok
 have hlen:(insP ns).length≤2000:=Nat.le_trans (by unfold insP;rw [List.length_map];exact List.length_filter_le _ _) h2000
 obtain ⟨A,n,c⟩:=s
 simp only [SV.val] at hI ⊢
 clear hN hok h2000
 obtain ⟨is,his⟩:∃ is,is=insP ns:=⟨_,rfl⟩
 rw [← his] at hlen hat hb
 replace his:=Lib.hid his
 replace hat:=Lib.hid hat
 replace hb:=Lib.hid hb
 go_enter Tryz.func12,Tryz.ntmps12
 go_wp2_with fail
 refine hI.mono ?_
 rintro e w4 ⟨hf4,Aa,ca,rfl,hins⟩
 rw [← his.out] at hins ⊢
 clear hI
 go_wp2
 go_loopg [14] is.length (fun m c39 wx=>∃ k:Nat,k≤is.length∧c39 = .int .i64 (k:Int)∧Fr nope w4 wx∧m=is.length - k)
 case atStart=>exact ⟨0,Nat.zero_le _,rfl,Fr.refl _ _,rfl⟩
 case round=>
  obtain ⟨k,hk,rfl,hf,rfl⟩:=hrel
  by_cases hlt:k < is.length
  ·obtain ⟨p,hx⟩:∃ x,is[k]? = some x:=⟨_,List.getElem?_eq_getElem hlt⟩
   obtain ⟨b,off,hBe,hbl,hr⟩:=(Rw.nope hins hf).at_ PI.list_len hx
   subst hBe
   have hpm:=List.mem_of_getElem? hx
   obtain ⟨hpa,hpo⟩:=hat.out p hpm
   have hpa:=hpa.fr (hf4.then hf) (fun x hx e=>e)
   have hbp:=Lib.hid (hb.out p hpm)
   clear hpm
   replace hx:=Lib.hid hx
   have hszr:=hf.size
   go_wp2_with (first
    | (refine wpList_load_mid rfl _ _ rfl b (off+k*10) rfl p.cells.toList _ hr Tryz.underlying38 rfl (by kernel_rfl) ?_)
    | (refine wpList_storeRow (b:=wr.heap.size) (cells:=p.cells) rfl rfl rfl rfl (heap_alloc_new _ _) rfl (by kernel_rfl) (by kernel_rfl) ?_;intro w5 hb5 hf5;have hn5:Fr nope wr w5:=((Fr.refl nope wr).alloc _).then_new hf5 (fun x hx e=>by omega);have hc2:=cell_of_row _ _ 2 _ _ (0,0) hb5;replace hc2:w5.cell? ⟨wr.heap.size,2,none⟩=some p.opsV.val:=hc2;have hps:=(hpa.fr hn5 (fun _ _ x=>x)).ops;obtain ⟨⟨Ax,nx,cx⟩,hsv⟩:∃ s,s=p.opsV:=⟨_,rfl⟩;rw [← hsv] at hc2 hps;obtain rfl:nx=p.ops.length:=hps.1;have hd2:w5.cell? ⟨wr.heap.size,2,none⟩=some (.slice Ax p.ops.length cx):=hc2;clear hc2 hb5))
   have hpol:p.ops.length≤1048576:=hpa.few.2.1
   have hpok:p.ops.all okP=true:=by
    unfold okI at hpo
    simp only [Bool.and_eq_true] at hpo
    exact hpo.1.1
   have hf5':Fr nope w4 w5:=hf.then hn5
   replace hsv:=Lib.hid hsv
   replace hpok:=Lib.hid hpok
   clear hpa hpo hr hf
   go_loopg [21] p.ops.length (fun m c46 wx=>∃ j:Nat,j≤p.ops.length∧c46 = .int .i64 (j:Int)∧Fr nope w5 wx∧m=p.ops.length - j)
   case atStart=>exact ⟨0,Nat.zero_le _,rfl,Fr.refl _ _,rfl⟩
   case round=>
    obtain ⟨j,hj,rfl,hf,rfl⟩:=hrel
    by_cases hjl:j < p.ops.length
    ·obtain ⟨bo,oo,hAe,hbb,hc⟩:=(hps.nope hf).2 (by omega)
     simp only at hAe
     subst hAe
     obtain ⟨q,hqk⟩:∃ q,p.ops[j]? = some q:=⟨_,List.getElem?_eq_getElem hjl⟩
     have hc:=hc j q hqk
     have hqm:=List.mem_of_getElem? hqk
     have hokq:okP q=true:=List.all_eq_true.1 hpok.out q hqm
     have hql:=q.gs_len
     replace hqm:=Lib.hid hqm
     have hszj:=hf.size
     clear hqk
     go_wp2_with (first
      | (refine wpList_load_mid rfl _ _ rfl bo (oo+j*24) rfl q.cells.toList _ hc Tryz.underlying45 rfl (by kernel_rfl) ?_)
      | (refine wpList_storeRow (b:=wr.heap.size) (cells:=q.cells) rfl rfl rfl rfl (heap_alloc_new _ _) rfl (by kernel_rfl) (by kernel_rfl) ?_;intro w6 hb6 hf6)
      | (refine wpList_loadRow (b:=wr.heap.size) (cells:=q.cells) rfl rfl rfl hb6 Tryz.underlying45 rfl (by kernel_rfl) ?_))
     have hn6:Fr nope wr w6:=((Fr.refl nope wr).alloc _).then_new hf6 (fun x hx e=>by omega)
     refine (OpRegisters_calls w6 q hokq).mono ?_
     rintro e w7 ⟨hf7,A9,c9,rfl,hown7⟩
     have hn7:=hn6.then hf7
     have hrow:=Rw.of_own hown7
     clear hb6 hf6 hc hown7 hokq
     go_wp2
     go_loopg [32] q.gs.length (fun m c57 wx=>∃ i:Nat,i≤q.gs.length∧c57 = .int .i64 (i:Int)∧Fr nope w7 wx∧m=q.gs.length - i)
     case atStart=>exact ⟨0,Nat.zero_le _,rfl,Fr.refl _ _,rfl⟩
     case round=>
      obtain ⟨i,hi,rfl,hg7,rfl⟩:=hrel
      by_cases hil:i < q.gs.length
      ·obtain ⟨g,hg⟩:∃ g,q.gs[i]? = some g:=⟨_,List.getElem?_eq_getElem hil⟩
       obtain ⟨br,ro,hRe,hrb,hrr⟩:=(hrow.nope hg7).at_ G.cells_len hg
       subst hRe
       have hv:g.virt=false:=hbp.out g (gs_mem hqm.out (List.mem_of_getElem? hg))
       replace hg:=Lib.hid hg
       have hszi:=hg7.size
       go_wp2_with (first
        | (refine wpList_load_mid rfl _ _ rfl br (ro+i*4) rfl g.cells _ hrr Tryz.underlying40 rfl (by kernel_rfl) ?_)
        | (refine wpList_storeRow (b:=wr.heap.size) (cells:=#[.bool g.virt,.int .u8 (g.kind:Int),.int .u16 (g.idx:Int),.int .u16 (g.spec:Int)]) rfl rfl rfl rfl (heap_alloc_new _ _) rfl (by kernel_rfl) (by kernel_rfl) ?_;intro w8 hb8 hf8;have hc8:=cell_of_row _ _ 0 _ _ (0,0) hb8;replace hc8:w8.cell? ⟨wr.heap.size,0,none⟩=some (.bool g.virt):=hc8;rw [hv] at hc8;have hn8:Fr nope wr w8:=((Fr.refl nope wr).alloc _).then_new hf8 (fun x hx e=>by omega)))
       go_roundg (q.gs.length - (i+1))
       case measure=>omega
       case rel=>exact ⟨i+1,by omega,by go_num,hg7.then hn8,rfl⟩
      ·go_wp2
       go_roundg (p.ops.length - (j+1))
       case measure=>omega
       case rel=>exact ⟨j+1,by omega,by go_num,(hf.then hn7).then hg7,rfl⟩
    ·go_wp2
     go_roundg (is.length - (k+1))
     case measure=>omega
     case rel=>exact ⟨k+1,by omega,by go_num,hf5'.then hf,rfl⟩
  ·go_wp2
   go_ret
   exact ⟨rfl,hf4.then hf⟩
end
section
open Go Go.RowKit Bth
set_option maxRecDepth 100000
def GivesAlP (w:World) (ns:List PN) (e:Ending) (w':World):Prop:=Fr nope w w'∧((∃ x y,e = .returned (.tuple #[x,y,.bool false,.bool false])) ∨
 ∃ (A:Option Addr) (c:Nat) (l:List (Nat × Nat)) (A':Option Addr) (c':Nat) (ns':List PN) (f:Nat→Option Nat),e = .returned (.tuple #[.slice A l.length c,.slice A' ns'.length c',.bool true,.bool false])∧PairsAt w' A l∧l.length≤1000000000∧ofPairs l=f∧AFRes ns (some f)∧AFOk ns∧UsualP ns∧NodesAt w' w'.heap.size ⟨A',ns'.length,c'⟩ ns'∧BoundN f ns ns'∧PairsOf f l)
set_option maxHeartbeats 4000000 in
theorem allocatedP_calls (w:World) (B:Nat) (s:SV) (ns:List PN) (hN:NodesAt w B s ns) (hB:B≤w.heap.size) (hb:BulkP ns):Calls Tryz.prog 5 #[s.val] w (GivesAlP w ns):=by
 have hU:=usual_calls w B s ns hN hB
 have hFG:=fun W (hW:Fr nope w W) (hok:ns.all okN=true)=>FlowGraph_calls W B s ns (hN.fr hW (fun _ _ x=>x)) hok
 have hAF:=fun W (hW:Fr nope w W) (h:AFOk ns)=>AllocFn_calls W s ns ((hN.fr hW (fun _ _ x=>x)).up (Nat.le_trans hB hW.size)) h
 have hFw:=fun W (hW:Fr nope w W) (hok:ns.all okN=true)=>few_calls W B s ns (hN.fr hW (fun _ _ x=>x)) hok (Nat.le_trans hB hW.size)
 have hBd:=fun W (hW:Fr nope w W) (hok:ns.all okN=true)=>Bind_calls W s ns ((hN.fr hW (fun _ _ x=>x)).up (Nat.le_trans hB hW.size)) hok
 have hops:∀ p∈insP ns,p.Ok:=fun p hp=>by
  obtain ⟨n,hn,rfl⟩:=insP_mem hp
  exact PI.ok_of (hN.each n hn).ins
 obtain ⟨A,n,c⟩:=s
 simp only [SV.val] at hU hFG hAF hFw hBd ⊢
 clear hN
 replace hFG:=Lib.hid hFG
 replace hAF:=Lib.hid hAF
 replace hFw:=Lib.hid hFw
 replace hBd:=Lib.hid hBd
 replace hops:=Lib.hid hops
 replace hb:=Lib.hid hb
 go_enter Tryz.func5,Tryz.ntmps5
 go_wp2_with fail
 refine hU.mono ?_
 rintro e w1 ⟨hf1,b,rfl,hus⟩
 clear hU
 cases b with
 | false=>
  clear hus
  go_wp2
  try simp only [Exit.inBlock,Exit.then]
  refine bodyPost_ret (results_tmp4 rfl _ _ _) rfl ?_
  exact ⟨hf1,.inl ⟨_,_,rfl⟩⟩
 | true=>
 have hu:=hus rfl
 have hao:=hu.af hops.out hb.out
 have hok:=hu.2.1
 clear hus
 replace hu:=Lib.hid hu
 replace hao:=Lib.hid hao
 replace hok:=Lib.hid hok
 go_wp2_with fail
 refine (hFG.out _ hf1 hok.out).mono ?_
 rintro e w2 ⟨hf2,⟨A1,c1,D,d,sc,rfl,hG,hS⟩ | ⟨rfl,hbad⟩⟩
 rotate_left
 ·clear hbad
  go_wp2
  try simp only [Exit.inBlock,Exit.then]
  refine bodyPost_ret (results_tmp4 rfl _ _ _) rfl ?_
  exact ⟨hf1.then hf2,.inl ⟨_,_,rfl⟩⟩
 have hn2:=hf1.then hf2
 have hG:Hid (∃ sc,GraphP ns sc):=Lib.hid ⟨sc,hG⟩
 clear hS
 go_wp2_with fail
 refine (hAF.out _ hn2 hao.out).mono ?_
 rintro e w3 ⟨hf3,⟨hnone,rfl⟩ | ⟨f,A2,c2,l,haf,hpo,hl,rfl,hown⟩⟩
 ·have hno:=Lib.hid (few_fit hu.out hao.out hG.out hnone)
  have hn3:=hn2.then hf3
  clear hnone
  go_wp2_with fail
  refine (hFw.out _ hn3 hok.out).mono ?_
  rintro e w4 ⟨hf4,b,rfl,hfew⟩
  obtain rfl:b=false:=by
   cases b with
   | false=>rfl
   | true=>exact absurd (hfew rfl) hno.out
  clear hfew
  go_wp2
  try simp only [Exit.inBlock,Exit.then]
  refine bodyPost_ret (results_tmp4 rfl _ _ _) rfl ?_
  exact ⟨hn3.then hf4,.inl ⟨_,_,rfl⟩⟩
 ·have hn3:=hn2.then hf3
  have heq:=hpo.eq
  have hpa:=PairsAt.of hown
  have hsm:small (ofPairs l):=by
   rw [heq]
   intro v p hv
   exact (af_given haf (fun k ⟨p,hp,g,hg,e⟩=>by rw [← e];exact hu.out.kind p hp g (by unfold PI.gs;simp [hg])) v p hv).2.2.1
  have hpo':=Lib.hid hpo
  replace heq:=Lib.hid heq
  replace haf:=Lib.hid haf
  replace hsm:=Lib.hid hsm
  clear hpo hown
  go_wp2_with fail
  refine (hBd.out _ hn3 hok.out A2 c2 l hpa hl hsm.out).mono ?_
  rintro e w4 ⟨hf4,A3,c3,ns',rfl,hN',hB'⟩
  rw [heq.out] at hB'
  replace hN':=Lib.hid hN'
  replace hB':=Lib.hid hB'
  go_wp2
  try simp only [Exit.inBlock,Exit.then]
  refine bodyPost_ret (results_tmp4 rfl _ _ _) rfl ?_
  exact ⟨hn3.then hf4,.inr ⟨A2,c2,l,A3,c3,ns',f,rfl,hpa.fr hf4,hl,heq.out,haf.out,hao.out,hu.out,hN'.out,hB'.out,hpo'.out⟩⟩
end
section
open Go Go.RowKit Bth
set_option maxRecDepth 100000
theorem regsK_info:∀ k,k < 4→∀ p∈regsK k,infoP k (indexOf p)=0∨infoP k (indexOf p)=4:=by decide +kernel
section
variable {ns ns':List PN} {f:Nat→Option Nat}
theorem place_of (hr:AFRes ns (some f)) (hok:AFOk ns) (hu:UsualP ns):∀ p∈insP ns,∀ g∈gsOf p.ops,g.virt=true→∃ q,f g.id=some q∧isV q=false∧q < 4294967296∧kindOf q=g.kind∧okG ⟨false,g.kind,indexOf q,g.spec⟩=true∧(infoP g.kind (indexOf q)=0∨infoP g.kind (indexOf q)=4):=by
 intro p hp g hg hv
 have hgo:g.Ok:=gsOf_ok (hok.ops p hp).ops g hg
 have hk3:=hok.kinds p hp g hg
 obtain ⟨sc,fk,hG,hc,hf⟩:=hr
 have hkk:kindsP (insP ns) g.kind:=⟨p,hp,g,hg,rfl⟩
 obtain ⟨_,s2,_,_⟩:=(hc _ hkk).spec
 have hvi:isV g.id=true:=by rw [G.virt_id];exact hv
 obtain ⟨q,hq,hm⟩:=s2 g.id hvi (.inl ⟨p,hp,g,hg,rfl,rfl⟩)
 have e:=(hf g.id).1 (by rw [G.kind_id hgo];exact hkk)
 rw [G.kind_id hgo] at e
 obtain ⟨m1,m2,m3⟩:=regsK_mem hk3 hm
 have hw:=(hu.2.2 p hp).1 g (by unfold PI.gs;simp [hg]) hv
 obtain ⟨w1,_⟩:=wholeG_spec hw
 exact ⟨q,e.trans hq,m1,m2,m3,regsK_whole g.kind (by omega) q hm g.spec w1 (by unfold wholeG at hw ⊢;exact hw),regsK_info g.kind (by omega) q hm⟩
theorem bind_virt (hr:AFRes ns (some f)) (hok:AFOk ns) (hu:UsualP ns):∀ p∈insP ns,∀ g∈gsOf p.ops,(bindG f g).virt=false:=by
 intro p hp g hg
 cases hv:g.virt with
 | false=>rw [bindG_phys hv];exact hv
 | true=>
  obtain ⟨q,h1,h2,h3,h4,h5,_⟩:=place_of hr hok hu p hp g hg hv
  unfold bindG
  rw [if_pos hv,h1]
  simp only [h2,h4,h5,if_true,Bool.false_eq_true,if_false]
theorem bound_bare (hr:AFRes ns (some f)) (hok:AFOk ns) (hu:UsualP ns) (hB:BoundN f ns ns'):∀ p∈insP ns',∀ g∈gsOf p.ops,g.virt=false:=by
 obtain ⟨hlen,hb⟩:=bound_ins hB hok.ops
 intro p' hp' g' hg'
 obtain ⟨k,hk⟩:=List.getElem?_of_mem hp'
 have hlt:=(List.getElem?_eq_some_iff.1 hk).1
 have hp:(insP ns)[k]? = some ((insP ns)[k]'(by omega)):=List.getElem?_eq_getElem _
 have hBI:=hb k _ p' hp hk
 rw [hBI.ops.gs] at hg'
 obtain ⟨g,hg,rfl⟩:=List.mem_map.1 hg'
 exact bind_virt hr hok hu _ (List.mem_of_getElem? hp) g hg
theorem pair_of (hr:AFRes ns (some f)) (hok:AFOk ns) {l:List (Nat × Nat)} (hl:PairsOf f l):∀ p∈l,isV p.1=true∧isV p.2=false∧p.2 < 4294967296∧kindOf p.2=kindOf p.1:=fun p hp=>
 af_given hr (fun k ⟨p,hp,g,hg,e⟩=>by rw [← e];exact hok.kinds p hp g hg) p.1 p.2 ((hl.1 p).1 hp)
theorem allIds_lt {is:List PI} (h:∀ p∈is,p.Ok):∀ v∈allIds is,v < 4294967296:=by
 intro v hv
 unfold allIds at hv
 rcases List.mem_append.1 hv with hv | hv
 ·rcases List.mem_append.1 hv with hv | hv
  ·obtain ⟨p,hp,hv⟩:=List.mem_flatMap.1 hv
   obtain ⟨g,hg,rfl⟩:=List.mem_map.1 hv
   exact G.id_lt (gsOf_ok (h p hp).ops g hg)
  ·obtain ⟨p,hp,hv⟩:=List.mem_flatMap.1 hv
   obtain ⟨g,hg,rfl⟩:=List.mem_map.1 hv
   exact G.id_lt (gsOf_ok (h p hp).out g (outGs_mem hg))
 ·obtain ⟨p,hp,hv⟩:=List.mem_flatMap.1 hv
  obtain ⟨g,hg,rfl⟩:=List.mem_map.1 hv
  rcases inGs_mem hg with hg | hg
  ·exact G.id_lt (gsOf_ok (h p hp).inp g hg)
  ·exact G.id_lt (gsOf_ok (h p hp).out g hg)
theorem key_lt (hr:AFRes ns (some f)) (hok:AFOk ns) {v:Nat} (hv:f v≠none):v < 4294967296:=by
 obtain ⟨sc,fk,hG,hc,hf⟩:=hr
 by_cases hk:kindsP (insP ns) (kindOf v)
 ·have e:=(hf v).1 hk
  exact allIds_lt hok.ops v (told_ids ((hc _ hk).told (by rw [← e];exact hv)).2)
 ·exact absurd ((hf v).2 hk) hv
theorem pairs_law (hr:AFRes ns (some f)) (hok:AFOk ns) {l:List (Nat × Nat)} (hl:PairsOf f l):(∀ p∈l,p.1 < 4294967296∧p.2 < 4294967296∧isV p.1=true∧isV p.2=false∧kindOf p.2=kindOf p.1)∧∀ (i:Nat) (p q:Nat × Nat),l[i]? = some p→l[i+1]? = some q→p.1 < q.1:=by
 refine ⟨fun p hp=>?_,fun i p q h1 h2=>?_⟩
 ·obtain ⟨a,b,c,d⟩:=pair_of hr hok hl p hp
  exact ⟨key_lt hr hok (by rw [(hl.1 p).1 hp];simp),c,a,b,d⟩
 ·obtain ⟨a1,a2⟩:=List.getElem?_eq_some_iff.1 h1
  obtain ⟨b1,b2⟩:=List.getElem?_eq_some_iff.1 h2
  have:=List.pairwise_iff_getElem.1 hl.2 i (i+1) a1 b1 (by omega)
  rwa [a2,b2] at this
def PlaceI (l:List (Nat × Nat)) (g:G) (i:Nat):Prop:=hasR g.kind i g.spec=true∧(g.virt=false→i=g.idx)∧(g.virt=true→isV (aid l g.id)=false∧aid l g.id < 4294967296∧kindOf (aid l g.id)=g.kind∧indexOf (aid l g.id)=i∧(infoP g.kind i=0∨infoP g.kind i=4))
theorem place_i (hr:AFRes ns (some f)) (hok:AFOk ns) (hu:UsualP ns) {l:List (Nat × Nat)} (he:ofPairs l=f):∀ p∈insP ns,∀ g∈gsOf p.ops,∃ i,PlaceI l g i:=by
 intro p hp g hg
 have hio:okI p=true:=by
  obtain ⟨n,hn,rfl⟩:=insP_mem hp
  have h3:=List.all_eq_true.1 hok.ok n hn
  unfold okN at h3
  obtain ⟨n',h1,h2⟩:=List.mem_map.1 hp
  obtain ⟨h1,h4⟩:=List.mem_filter.1 h1
  have h5:=List.all_eq_true.1 hok.ok n' h1
  unfold okN at h5
  rw [if_pos (by simpa using h4),h2] at h5
  exact h5
 cases hv:g.virt with
 | false=>
  refine ⟨g.idx,?_,fun _=>rfl,fun h=>by rw [hv] at h;cases h⟩
  unfold okI at hio
  simp only [Bool.and_eq_true] at hio
  have:=gsOf_okG hio.1.1 g hg
  rw [okG_has,hv,Bool.false_or] at this
  exact this
 | true=>
  obtain ⟨q,h1,h2,h3,h4,h5,h6⟩:=place_of hr hok hu p hp g hg hv
  have ha:aid l g.id=q:=by unfold aid;rw [he,h1];rfl
  rw [okG_has] at h5
  simp only [Bool.false_or] at h5
  exact ⟨indexOf q,h5,(fun h=>by rw [hv] at h;cases h),fun _=>by rw [ha];exact ⟨h2,h3,h4,rfl,h6⟩⟩
theorem F2.symS {l m:List PN} (h:F2 SameN l m):F2 SameN m l:=h.swap.mono fun a b hs=>⟨hs.kind.symm,fun e=>(hs.label (hs.kind.symm.trans e)).symm,fun e=>(hs.lines (hs.kind.symm.trans e)).symm,fun e=>by
 have hi:=hs.ins (hs.kind.symm.trans e)
 exact ⟨hi.opc.symm,hi.suf.symm,hi.isa.symm,hi.ops.symm,hi.inp.symm,hi.out.symm,hi.term.symm,hi.br.symm,hi.cond.symm,hi.canc.symm⟩⟩
theorem few_back {xs ys:List PN} (h:F2 (BackM f) xs ys):∀ n∈ys,n.kind=1∨n.kind=2∨n.kind=3:=by
 intro y hy
 obtain ⟨x,_,hb⟩:=h.mem y hy
 rw [hb.kind]
 exact hb.few
end
end
section
open Go Go.RowKit Bth
set_option maxRecDepth 100000
theorem store_row {P:Program} {w:World} {b:Nat} {cells cs:Array Value} {t:TypeId} (hb:w.heap[b]? = some (.cells cs t (0,0))) (hl:cs.size=cells.size) (h1:cells.all (·.oneCell')=true):
  ∃ w',(storeCells ⟨b,0,none⟩ cells.toList).run P w = .ok () w'∧w'.heap[b]? = some (.cells cells t (0,0))∧Fr (fun x=>x=b) w w':=by
 refine ⟨w.setCells b 0 cells.toList,?_,?_,setCells_fr _ _ _ _ (Fr.refl _ _) (.inl rfl)⟩
 ·refine run_storeCells_cells (P:=P) b 0 cells.toList 0 w (fun j hj=>?_) (fun j hj=>?_) (fun v hv=>Array.all_eq_true'.1 h1 v (by simpa using hv))
  ·rw [cell_of_row w b _ _ _ (0,0) hb]
   simp at hj ⊢;omega
  ·simp [World.frozen?,hb]
 ·have:=setCells_heap (b:=b) (t:=t) (fr:=(0,0)) cells.toList [] cs.toList w (by simpa using hl) (by simpa using hb)
  simpa using this
set_option maxHeartbeats 4000000 in
theorem Allocated_calls (w:World) (A:Option Addr) (c:Nat) (l:List (Nat × Nat)) (g:G) (i:Nat) (hT:Tabs w) (ha:PairsAt w A l) (hl:l.length≤1000000000) (hg:g.Ok) (h:PlaceI l g i):Calls Tryz.prog 9 #[.slice A l.length c,g.agg] w (GivesPh w g.kind i g.spec):=by
 obtain ⟨h1,h2,h3⟩:=h
 have hR:=fun W=>RegID_calls W g hg
 have hL:=fun W (hW:Fr nope w W)=>spLookup_calls W g.kind i g.spec (hT.fr hW) h1
 have hA:=fun W (hW:Fr nope w W)=>AllocatedID_calls W A c l g.id (ha.fr hW) hl
 have hK:=fun (hv:g.virt=true) W (hW:Fr nope w W)=>spLookupID_calls W (aid l g.id) g.kind i g.spec (hT.fr hW) (h3 hv).2.1 (h3 hv).1 (h3 hv).2.2.1 (h3 hv).2.2.2.1 h1
 clear h3 h1 hT ha hl hg
 generalize aid l g.id=q at hA hK
 generalize g.id=gid at hR hA
 obtain ⟨gv,gk,gi,gsp⟩:=g
 simp only [G.agg] at hR hL hA hK h2 ⊢
 obtain ⟨w2,hw2⟩:∃ x,x=(w.alloc (.cells #[.bool gv,.int .u8 (gk:Int),.int .u16 (gi:Int),.int .u16 (gsp:Int)] 40)).alloc (.cells #[.int .u8 0,.int .u16 0,.int .u16 0,.string ⟨#[]⟩,.int .u8 0] 50):=⟨_,rfl⟩
 have f0:Fr nope w w2:=by rw [hw2];exact ((Fr.refl nope w).alloc _).alloc _
 have hbR:w2.heap[w.heap.size]? = some (.cells #[.bool gv,.int .u8 (gk:Int),.int .u16 (gi:Int),.int .u16 (gsp:Int)] 40 (0,0)):=by
  rw [hw2]
  exact ((Fr.refl nope _).alloc _).heap (heap_alloc_new w (.cells #[.bool gv,.int .u8 (gk:Int),.int .u16 (gi:Int),.int .u16 (gsp:Int)] 40)) (fun x=>x)
 have hbP:w2.heap[w.heap.size+1]? = some (.cells #[.int .u8 0,.int .u16 0,.int .u16 0,.string ⟨#[]⟩,.int .u8 0] 50 (0,0)):=by
  rw [hw2]
  have:=heap_alloc_new (w.alloc (.cells #[.bool gv,.int .u8 (gk:Int),.int .u16 (gi:Int),.int .u16 (gsp:Int)] 40)) (.cells #[.int .u8 0,.int .u16 0,.int .u16 0,.string ⟨#[]⟩,.int .u8 0] 50)
  rwa [show (w.alloc (.cells #[.bool gv,.int .u8 (gk:Int),.int .u16 (gi:Int),.int .u16 (gsp:Int)] 40)).heap.size=w.heap.size+1 from by simp] at this
 have hcs:∀ W,Fr nope w2 W→W.cell? ⟨w.heap.size,0,none⟩=some (.bool gv)∧W.cell? ⟨w.heap.size,1,none⟩=some (.int .u8 (gk:Int))∧W.cell? ⟨w.heap.size,2,none⟩=some (.int .u16 (gi:Int))∧W.cell? ⟨w.heap.size,3,none⟩=some (.int .u16 (gsp:Int)):=fun W hW=>by
  have hbW:=hW.heap hbR (fun x=>x)
  exact ⟨cell_of_row _ _ 0 _ _ (0,0) hbW,cell_of_row _ _ 1 _ _ (0,0) hbW,cell_of_row _ _ 2 _ _ (0,0) hbW,cell_of_row _ _ 3 _ _ (0,0) hbW⟩
 clear hbR
 replace hR:=Lib.hid hR
 replace hL:=Lib.hid hL
 replace hA:=Lib.hid hA
 unfold GivesPh
 cases gv with
 | false=>
  obtain rfl:=h2 rfl
  clear hK hcs hR hA
  go_enter Tryz.func9,Tryz.ntmps9
  go_wp2_with fail
  rw [← hw2]
  replace hw2:=Lib.hid hw2
  refine (hL.out _ f0).mono ?_
  rintro e w5 ⟨⟨nm,rfl⟩,hf5⟩
  have hn5:=f0.then hf5
  have hbP5:=hf5.heap hbP (fun x=>x)
  clear hbP
  go_wp2_with (refine wpList_storeRow (b:=w.heap.size+1) (cells:=physC gk i gsp nm) rfl rfl rfl rfl hbP5 rfl (by kernel_rfl) (by kernel_rfl) ?_;intro w6 hb6 hf6)
  try simp only [Exit.inBlock,Exit.then]
  refine bodyPost_ret (results_cell_row2 rfl _ _ (w.heap.size+1) _ _ _ _ rfl hb6 Tryz.underlying50 rfl (by kernel_rfl)) rfl ?_
  exact ⟨⟨nm,rfl⟩,hn5.then_new hf6 (fun x hx e=>by have e':x=w.heap.size+1:=e;omega)⟩
 | true=>
  replace hK:=Lib.hid (hK rfl)
  have hd2:=(Fr.refl nope w2).drew
  have hS2:=hcs _ hd2
  replace hcs:=Lib.hid hcs
  replace hbP:=Lib.hid hbP
  clear h2
  go_enter Tryz.func9,Tryz.ntmps9
  go_wp2_with fail
  rw [← hw2]
  replace hw2:=Lib.hid hw2
  go_region_held3 (fun W=>W.cell? ⟨w.heap.size,0,none⟩=some (.bool true)∧W.cell? ⟨w.heap.size,1,none⟩=some (.int .u8 (gk:Int))∧W.cell? ⟨w.heap.size,2,none⟩=some (.int .u16 (gi:Int))∧W.cell? ⟨w.heap.size,3,none⟩=some (.int .u16 (gsp:Int))) (assumption)
   ((first
    | (go_at_call 24;refine (hR.out _).mono ?_;rintro e w3 ⟨rfl,hf3⟩;have hn3:=hd2.then hf3;have hS3:=hcs.out _ hn3)
    | (go_at_call 23;refine (hA.out _ (f0.then hn3)).mono ?_;rintro e w4 ⟨rfl,hf4⟩;have hn4:=hn3.then hf4;have hS4:=hcs.out _ hn4)
    | (go_at_call 22;refine (hK.out _ (f0.then hn4)).mono ?_;rintro e w5 ⟨⟨nm,rfl⟩,hf5⟩;have hn5:=hn4.then hf5;have hS5:=hcs.out _ hn5;have hbP5:=hn5.heap hbP.out (fun x=>x);obtain ⟨w6,hst,hb6,hf6⟩:=store_row (P:=Tryz.prog) (cells:=physC gk i gsp nm) hbP5 rfl (by kernel_rfl);have hq6:¬w.heap.size=w.heap.size+1:=(by omega);have hS6:=And.intro (hf6.cell hS5.1 hq6) (And.intro (hf6.cell hS5.2.1 hq6) (And.intro (hf6.cell hS5.2.2.1 hq6) (hf6.cell hS5.2.2.2 hq6))))))
  all_goals
   go_wp2
   try simp only [Exit.then]
   refine bodyPost_ret (results_cell_row2 rfl _ _ (w.heap.size+1) _ _ _ _ rfl hb6 Tryz.underlying50 rfl (by kernel_rfl)) rfl ?_
   exact ⟨⟨nm,rfl⟩,(f0.then hn5).then_new hf6 (fun x hx e=>by have e':x=w.heap.size+1:=e;omega)⟩
end
section
open Go Go.RowKit Bth
set_option maxRecDepth 100000
noncomputable def snReg:Array Oper:=findReg 6 (Tryz.f11.body.getD .skip)
theorem idxNd (b off n c p:Nat) (hp:p < n) (w:World):(Instr.indexAt 22 (.slice (some ⟨b,off,none⟩) n c) (.int .i64 (p:Int))).run Tryz.prog w = .ok (.pointer (some ⟨b,off+p*13,none⟩)) w:=by
 have h0:(0:Int)≤(p:Int):=by omega
 have h1:(p:Int) < (n:Int):=by omega
 go_simp
set_option maxHeartbeats 2000000 in
theorem rgSN {a0:Act} {w:World} {Q:Exit→Act→World→Prop} {S R:World→Prop} {b1 o1 b2 o2 n c1 c2 k:Nat} {cx cy:List Value}
  (h0:Bun a0 27 [(0,.slice (some ⟨b1,o1,none⟩) n c1),(1,.slice (some ⟨b2,o2,none⟩) n c2),(5,.int .i64 (k:Int))]) (hQ:∀ d v c a w,Q (.panic c) (a.put d v) w→Q (.panic c) a w)
  (hk:k < n) (hcx:cx.length=13) (hcy:cy.length=13) (hS0:S w.drew) (hS:∀ w,S w→w.rangeAt b1 (o1+k*13) cx∧w.rangeAt b2 (o2+k*13) cy)
  (hc:Calls Tryz.prog 30 #[.agg cx.toArray,.agg cy.toArray] w.drew fun e w'=>e = .returned (.bool true)∧R w'∧S w')
  (h:∀ w',R w'→Q .normal (putL a0 [(16,.slice (some ⟨b1,o1,none⟩) n c1),(17,.int .i64 (k:Int)),(18,.pointer (some ⟨b1,o1+k*13,none⟩)),(19,.agg cx.toArray),(20,.slice (some ⟨b2,o2,none⟩) n c2),(21,.int .i64 (k:Int)),(22,.pointer (some ⟨b2,o2+k*13,none⟩)),(23,.agg cy.toArray),(24,.bool true),(25,.bool false)]) w'):(Code.region 6 snReg true).wp Tryz.prog Q a0 w:=by
 refine wp_region_T (S:=S) (T:=[]) (by kernel_rfl) ?_
 rw [show snReg.size=10 from by kernel_rfl]
 have hT:∀ {l:Array Bool},noneT [] l→S w.drew:=fun _=>hS0
 refine takeM h0 hT hQ 0 16 0 _ (by unfold isB;kernel_rfl) (by kernel_rfl) rfl fun a0 e0 h0=>?_
 refine takeM h0 hT hQ 1 17 5 _ (by unfold isB;kernel_rfl) (by kernel_rfl) rfl fun a1 e1 h0=>?_
 refine takeI h0 hT hQ 2 18 16 17 22 _ _ ⟨b1,o1+k*13,none⟩ (by unfold isB;kernel_rfl) (by kernel_rfl) rfl rfl (fun w=>idxNd b1 o1 n c1 k hk w) fun a2 e2 h0=>?_
 refine takeS h0 hS0 hQ 3 19 18 57 b1 (o1+k*13) cx _ (by unfold isB;kernel_rfl) (by kernel_rfl) rfl Tryz.underlying57 rfl (by rw [hcx];kernel_rfl) (fun w hw=>(hS w hw).1) fun a3 e3 h0=>?_
 refine takeM h0 hT hQ 4 20 1 _ (by unfold isB;kernel_rfl) (by kernel_rfl) rfl fun a4 e4 h0=>?_
 refine takeM h0 hT hQ 5 21 5 _ (by unfold isB;kernel_rfl) (by kernel_rfl) rfl fun a5 e5 h0=>?_
 refine takeI h0 hT hQ 6 22 20 21 22 _ _ ⟨b2,o2+k*13,none⟩ (by unfold isB;kernel_rfl) (by kernel_rfl) rfl rfl (fun w=>idxNd b2 o2 n c2 k hk w) fun a6 e6 h0=>?_
 refine takeS h0 hS0 hQ 7 23 22 57 b2 (o2+k*13) cy _ (by unfold isB;kernel_rfl) (by kernel_rfl) rfl Tryz.underlying57 rfl (by rw [hcy];kernel_rfl) (fun w hw=>(hS w hw).2) fun a7 e7 h0=>?_
 refine takeCall h0 8 24 30 [19,23] #[57,57] [.agg cx.toArray,.agg cy.toArray] (fun v W=>v = .bool true∧R W∧S W) (by kernel_rfl) (by unfold isB;kernel_rfl) (by kernel_rfl) Tryz.func30 (by kernel_rfl) (by kernel_rfl) rfl ((hc).mono fun e w' h=>⟨_,h.1,rfl,h.2⟩) ?_
 rintro a8 _ w5 ⟨rfl,hR,hS5⟩ e8 h0
 refine ⟨fun _=>hS5,?_⟩
 have hT:∀ {l:Array Bool},noneT [] l→S w5:=fun _=>hS5
 refine takeU h0 hT hQ 9 25 _ (.bool (!true)) (show isB snReg 9 25 (.unOp .not 4 (.tmp 24)) from by unfold isB;kernel_rfl) (by kernel_rfl) (fun o e w=>by simp only [execOp,e,h0.at_ 24 _ rfl];go_simp) fun a9 e9 h0=>?_
 refine wpAnyT_done (by kernel_rfl) ?_ _
 subst e9 e8 e7 e6 e5 e4 e3 e2 e1 e0
 exact h _ hR
set_option maxHeartbeats 2000000 in
theorem SameNodes_calls (w:World) (B B':Nat) (s t:SV) (ns ms:List PN) (h:NodesAt w B s ns) (h':NodesAt w B' t ms) (hs:F2 SameN ns ms) (hk:∀ n∈ns,n.kind=1∨n.kind=2∨n.kind=3):Calls Tryz.prog 11 #[s.val,t.val] w (GivesB w true):=by
 have hlen:=hs.length
 have hfew:=h.few
 have hN:=fun W (hW:Fr nope w W)=>h.fr hW (fun _ _ x=>x)
 have hM:=fun W (hW:Fr nope w W)=>h'.fr hW (fun _ _ x=>x)
 have hR:=fun W (hW:Fr nope w W) (k:Nat) (p q:PN) (hp:ns[k]? = some p) (hq:ms[k]? = some q)=>SameNodeN_calls W B B' p q ((hN W hW).each p (List.mem_of_getElem? hp)) ((hM W hW).each q (List.mem_of_getElem? hq)) (hs.get k p q hp hq) (hk p (List.mem_of_getElem? hp))
 obtain ⟨A,n,c⟩:=s
 obtain ⟨A',n',c'⟩:=t
 obtain rfl:n=ns.length:=h.len
 obtain rfl:n'=ns.length:=h'.len.trans hlen
 simp only [SV.val]
 clear h h' hs hk
 replace hN:=Lib.hid hN
 replace hM:=Lib.hid hM
 replace hR:=Lib.hid hR
 replace hlen:=Lib.hid hlen
 go_enter Tryz.func11,Tryz.ntmps11
 go_wp2
 go_loopg [13] ns.length (fun m c13 wr=>∃ k:Nat,k≤ns.length∧c13 = .int .i64 (k:Int)∧Fr nope w wr∧m=ns.length - k)
 case atStart=>exact ⟨0,Nat.zero_le _,rfl,Fr.refl _ _,rfl⟩
 case round=>
  obtain ⟨k,hk',rfl,hf,rfl⟩:=hrel
  by_cases hlt:k < ns.length
  ·obtain ⟨b,off,hAe,_,hbl,hc⟩:=(hN.out _ hf).row (by omega)
   obtain ⟨b',off',hAe',_,hbl',hc'⟩:=(hM.out _ hf).row (by rw [hlen.out];omega)
   simp only at hAe hAe'
   obtain ⟨p,hpk⟩:∃ p,ns[k]? = some p:=⟨_,List.getElem?_eq_getElem hlt⟩
   obtain ⟨q,hqk⟩:∃ q,ms[k]? = some q:=⟨_,List.getElem?_eq_getElem (by rw [hlen.out];exact hlt)⟩
   have hr:=hc k p hpk
   have hr':=hc' k q hqk
   have hSN:=fun W (hW:Fr nope w W)=>hR.out W hW k p q hpk hqk
   clear hN hM hR
   subst hAe hAe'
   replace hSN:=Lib.hid hSN
   clear hc hc' hpk hqk
   have hdr:Fr nope wr wr.drew:=(Fr.refl nope wr).drew
   have hSk:∀ W,Fr nope wr W→W.rangeAt b (off+k*13) p.cells.toList∧W.rangeAt b' (off'+k*13) q.cells.toList:=fun W hW=>⟨fun j v hv=>hW.cell (hr j v hv) (fun x=>x),fun j v hv=>hW.cell (hr' j v hv) (fun x=>x)⟩
   replace hr:=Lib.hid hr
   replace hr':=Lib.hid hr'
   go_wp2_with fail
   refine reg_eq3 (ops':=snReg) (by kernel_rfl) (rgSN (S:=fun W=>W.rangeAt b (off+k*13) p.cells.toList∧W.rangeAt b' (off'+k*13) q.cells.toList) (R:=fun W=>Fr nope wr W) (b1:=b) (o1:=off) (b2:=b') (o2:=off') (n:=ns.length) (c1:=c) (c2:=c') (k:=k) (cx:=p.cells.toList) (cy:=q.cells.toList)
    ((((Bun.nil rfl rfl).cons 5 rfl).cons 1 rfl).cons 0 rfl) (fun d _ _ _ _ h=>by cases d<;>simpa [Exit.inBlock,Exit.then,bodyPost,Act.put] using h) hlt rfl rfl (hSk _ hdr) (fun W hW=>hW) ?hc ?h)
   case hc=>
    refine (hSN.out wr.drew (hf.then hdr)).mono ?_
    rintro e w15 ⟨rfl,hf15⟩
    exact ⟨rfl,hdr.then hf15,hSk _ (hdr.then hf15)⟩
   case h=>
    intro w15 hf15
    clear hSk
    simp only [putL,List.foldl_cons,List.foldl_nil,Act.put,List.setIfInBounds_toArray,List.set_cons_zero,List.set_cons_succ]
    go_wp2
    go_roundg (ns.length - (k+1))
    case measure=>omega
    case rel=>exact ⟨k+1,by omega,by go_num,hf.then hf15,rfl⟩
  ·go_wp2
   go_ret
   exact ⟨rfl,hf⟩
end
section
open Go Go.RowKit Bth
set_option maxRecDepth 100000
theorem info2 {k i:Nat} (h:infoP k i=0∨infoP k i=4):bits .and .u8 (infoP k i:Int) 2=0:=by
 rcases h with h | h<;>rw [h]<;>first | rfl | decide
def PairsL (l:List (Nat × Nat)):Prop:=(∀ p∈l,p.1 < 4294967296∧p.2 < 4294967296∧isV p.1=true∧isV p.2=false∧kindOf p.2=kindOf p.1)∧∀ (i:Nat) (p q:Nat × Nat),l[i]? = some p→l[i+1]? = some q→p.1 < q.1
set_option maxHeartbeats 8000000 in
theorem FnBoundPlaces_calls (w:World) (B:Nat) (s:SV) (ns:List PN) (hN:NodesAt w B s ns) (hB:B≤w.heap.size) (hb:BulkP ns) (hT:Tabs w):Calls Tryz.prog 3 #[s.val] w (GivesB w true):=by
 have hZ:=zz5_calls w B s ns hN
 have hA:=fun W (hW:Fr nope w W)=>allocatedP_calls W B s ns (hN.fr hW (fun _ _ x=>x)) (Nat.le_trans hB hW.size) hb
 have hI:=fun W (hW:Fr nope w W)=>Instrs_calls W B s ns (hN.fr hW (fun _ _ x=>x))
 have hat:=fun (hok:ns.all okN=true)=>insP_at hN hok
 have hnk:∀ n∈ns,n.kind=1→n.ins.Ok:=fun n hn _=>PI.ok_of (hN.each n hn).ins
 obtain ⟨A,n,c⟩:=s
 simp only [SV.val] at hZ hA hI ⊢
 clear hN hb
 replace hA:=Lib.hid hA
 replace hI:=Lib.hid hI
 replace hat:=Lib.hid hat
 replace hnk:=Lib.hid hnk
 replace hT:=Lib.hid hT
 go_enter Tryz.func3,Tryz.ntmps3
 go_wp2_with fail
 refine hZ.mono ?_
 rintro e w1 ⟨hf1,b,rfl⟩
 clear hZ
 cases b with
 | false=>
  go_wp2
  go_ret
  exact ⟨rfl,hf1⟩
 | true=>
 go_wp2_with fail
 refine (hA.out _ hf1).mono ?_
 rintro e w2 ⟨hf2,⟨x,y,rfl⟩ | ⟨A2,c2,l,A3,c3,ns',f,rfl,hpa,hll,hef,haf,hao,hu,hN',hBN,hpo⟩⟩
 ·go_wp2
  go_ret
  exact ⟨rfl,hf1.then hf2⟩
 have hn2:=hf1.then hf2
 have hok:=hu.2.1
 have hok':=bound_ok hBN hao.ops hok
 obtain ⟨hbl,_⟩:=bound_sim hBN
 have hbr:=bound_bare haf hao hu hBN
 have hPL:PairsL l:=pairs_law haf hao hpo
 have hpl:=place_i haf hao hu hef
 have hf2B:=hBN.f2 hnk.out
 have hnk':∀ n∈ns',n.kind=1→n.ins.Ok:=fun n hn _=>PI.ok_of (hN'.each n hn).ins
 have hsm:small (ofPairs l):=by
  rw [hef]
  intro v p hv
  exact (hPL.1 (v,p) ((hpo.1 (v,p)).2 hv)).2.1
 have hBd:=fun W (hW:Fr nope w2 W)=>Bind_calls W ⟨A3,ns'.length,c3⟩ ns' ((hN'.fr hW (fun _ _ x=>x)).up hW.size) hok' A2 c2 l (hpa.fr hW) hll hsm
 have hBr:=fun W (hW:Fr nope w2 W)=>bare_calls W w2.heap.size ⟨A3,ns'.length,c3⟩ ns' (hN'.fr hW (fun _ _ x=>x)) hok' (by rw [hbl];exact hu.1) hbr
 have hVA:=fun W (hW:Fr nope w2 W)=>ImVA_calls W ⟨A3,ns'.length,c3⟩ ns' ((hN'.fr hW (fun _ _ x=>x)).up hW.size) hok' hbr
 have hAL:=fun W (hW:Fr nope w2 W) (g:G) (i:Nat) (hg:g.Ok) (h:PlaceI l g i)=>Allocated_calls W A2 c2 l g i (hT.out.fr (hn2.then hW)) (hpa.fr hW) hll hg h
 have hSN:=fun W (hW:Fr nope w2 W) (A4:Option Addr) (c4:Nat) (ms:List PN) (hNm:NodesAt W W.heap.size ⟨A4,ms.length,c4⟩ ms) (hBm:BoundN (ofPairs l) ns' ms)=>SameNodes_calls W W.heap.size w2.heap.size ⟨A4,ms.length,c4⟩ ⟨A3,ns'.length,c3⟩ ms ns' hNm (hN'.fr hW (fun _ _ x=>x)) (bound_twice hf2B (by rw [hef] at hBm;exact hBm.f2 hnk')).symS (few_back (f:=f) (by rw [hef] at hBm;exact hBm.f2 hnk'))
 have hat:=hat.out hok
 have hlen:(insP ns).length≤2000:=Nat.le_trans (by unfold insP;rw [List.length_map];exact List.length_filter_le _ _) hu.1
 obtain ⟨is,his⟩:∃ is,is=insP ns:=⟨_,rfl⟩
 simp only [← his] at hI hat hlen hpl
 clear hsm hnk' hf2B hbr hok hok' hbl hN' hBN hpo hu haf hao hA
 simp only [SV.val] at hSN hBr
 replace hBd:=Lib.hid hBd
 replace hBr:=Lib.hid hBr
 replace hVA:=Lib.hid hVA
 replace hAL:=Lib.hid hAL
 replace hSN:=Lib.hid hSN
 replace hat:=Lib.hid hat
 replace hpl:=Lib.hid hpl
 replace hPL:=Lib.hid hPL
 replace hef:=Lib.hid hef
 replace his:=Lib.hid his
 go_wp2
 go_loopg [42] l.length (fun m c42 wx=>∃ (k:Nat) (z:Int),k≤l.length∧c42 = .int .i64 z∧z=(k:Int)∧Fr nope w2 wx∧m=l.length - k)
 case atStart=>exact ⟨0,_,Nat.zero_le _,rfl,rfl,Fr.refl _ _,rfl⟩
 case round=>
  obtain ⟨k,z,hk,rfl,hz,hf,rfl⟩:=hrel
  by_cases hlt:k < l.length
  ·obtain ⟨⟨x1,x2⟩,hx⟩:∃ x,l[k]? = some x:=⟨_,List.getElem?_eq_getElem hlt⟩
   obtain ⟨q1,q2,q3,q4,q5⟩:=hPL.out.1 _ (List.mem_of_getElem? hx)
   simp only at q1 q2 q3 q4 q5
   obtain ⟨b,hAe,hbl,hrow⟩:=(hpa.fr hf) (by omega)
   subst hAe
   have hr:wr.rangeAt b (k*2) [.int .u32 (x1:Int),.int .u32 (x2:Int)]:=hrow k _ hx
   have hP1:=fun W=>IDPartsX_calls W x1 q1
   have hP2:=fun W=>IDPartsX_calls W x2 q2
   rw [q3] at hP1
   rw [q4,q5] at hP2
   replace hP1:=Lib.hid hP1
   replace hP2:=Lib.hid hP2
   clear q1 q2 q3 q4 q5
   rcases k with _ | j
   ·obtain rfl:z=0:=hz
    have hl0:(0:Int) < (l.length:Int):=by omega
    clear hrow hx
    go_wp2_with (first
     | (refine wpList_load_mid rfl _ _ rfl b (0*2) rfl [.int .u32 (x1:Int),.int .u32 (x2:Int)] _ hr Tryz.underlying29 rfl (by kernel_rfl) ?_)
     | (refine wpList_storeRow (b:=wr.heap.size) (cells:=#[.int .u32 (x1:Int),.int .u32 (x2:Int)]) rfl rfl rfl rfl (heap_alloc_new _ _) rfl (by kernel_rfl) (by kernel_rfl) ?_;intro w5 hb5 hf5;have hn5:Fr nope wr w5:=((Fr.refl nope wr).alloc _).then_new hf5 (fun x hx e=>by omega);have d0:w5.cell? ⟨wr.heap.size,0,none⟩=some (.int .u32 (x1:Int)):=cell_of_row _ _ 0 _ _ (0,0) hb5;have d1:w5.cell? ⟨wr.heap.size,1,none⟩=some (.int .u32 (x2:Int)):=cell_of_row _ _ 1 _ _ (0,0) hb5))
    refine (hP1.out _).mono ?_
    rintro e w6 ⟨rfl,rfl⟩
    go_wp2_with fail
    refine (hP2.out _).mono ?_
    rintro e w6 ⟨rfl,rfl⟩
    have g0:∀ m,(wr.drewN m).cell? ⟨b,0,none⟩=some (.int .u32 (x1:Int)):=fun m=>((Fr.refl nope wr).drewN m).cell (hr 0 _ rfl) (fun x=>x)
    go_wp2
    go_quiet (fail)
    go_wp2
    go_roundg (l.length - (0+1))
    case measure=>omega
    case rel=>exact ⟨0+1,_,by omega,rfl,by simp,by first | exact hf.then hn5 | exact (hf.then hn5).drewN _,rfl⟩
   ·obtain rfl:z=(j:Int)+1:=by omega
    obtain ⟨⟨y1,y2⟩,hy⟩:∃ x,l[j]? = some x:=⟨_,List.getElem?_eq_getElem (by omega)⟩
    have hyx:=hPL.out.2 j _ _ hy hx
    simp only at hyx
    have hry:wr.cell? ⟨b,j*2,none⟩=some (.int .u32 (y1:Int)):=hrow j _ hy 0 _ rfl
    have hge:¬(x1:Int)≤(y1:Int):=by omega
    have hge2:(y1:Int) < (x1:Int):=by omega
    have hj0:(0:Int)≤(j:Int):=by omega
    have hj1:(j:Int)+1 < (l.length:Int):=by omega
    have hj2:(j:Int) < (l.length:Int):=by omega
    have hj3:(0:Int) < (j:Int)+1:=by omega
    clear hrow hx hy hz hyx
    go_wp2_with (first
     | (refine wpList_load_mid rfl _ _ rfl b ((j+1)*2) rfl [.int .u32 (x1:Int),.int .u32 (x2:Int)] _ hr Tryz.underlying29 rfl (by kernel_rfl) ?_)
     | (refine wpList_storeRow (b:=wr.heap.size) (cells:=#[.int .u32 (x1:Int),.int .u32 (x2:Int)]) rfl rfl rfl rfl (heap_alloc_new _ _) rfl (by kernel_rfl) (by kernel_rfl) ?_;intro w5 hb5 hf5;have hn5:Fr nope wr w5:=((Fr.refl nope wr).alloc _).then_new hf5 (fun x hx e=>by omega);have d0:w5.cell? ⟨wr.heap.size,0,none⟩=some (.int .u32 (x1:Int)):=cell_of_row _ _ 0 _ _ (0,0) hb5;have d1:w5.cell? ⟨wr.heap.size,1,none⟩=some (.int .u32 (x2:Int)):=cell_of_row _ _ 1 _ _ (0,0) hb5))
    refine (hP1.out _).mono ?_
    rintro e w6 ⟨rfl,rfl⟩
    go_wp2_with fail
    refine (hP2.out _).mono ?_
    rintro e w6 ⟨rfl,rfl⟩
    have hb5':=hb5
    have g0:∀ m,(w6.drewN m).cell? ⟨wr.heap.size,0,none⟩=some (.int .u32 (x1:Int)):=fun m=>((Fr.refl nope w6).drewN m).cell d0 (fun x=>x)
    have g1:∀ m,(w6.drewN m).cell? ⟨b,j*2,none⟩=some (.int .u32 (y1:Int)):=fun m=>(hn5.then ((Fr.refl nope w6).drewN m)).cell hry (fun x=>x)
    go_wp2
    go_quiet (fail)
    go_wp2
    go_roundg (l.length - (j+1+1))
    case measure=>omega
    case rel=>exact ⟨j+1+1,_,by omega,rfl,by omega,by first | exact hf.then hn5 | exact (hf.then hn5).drewN _,rfl⟩
  ·have hnr:=hn2.then hf
   subst hz
   clear hPL
   go_wp2_with fail
   refine (hI.out _ hnr).mono ?_
   rintro e w4 ⟨hf4,Aa,ca,rfl,hins⟩
   rw [← his.out] at hins ⊢
   have hn4:=hf.then hf4
   clear hI
   go_wp2
   go_loopg [97] is.length (fun m c39 wx=>∃ k:Nat,k≤is.length∧c39 = .int .i64 (k:Int)∧Fr nope w4 wx∧m=is.length - k)
   case atStart=>exact ⟨0,Nat.zero_le _,rfl,Fr.refl _ _,rfl⟩
   case round=>
    obtain ⟨k,hk,rfl,hf,rfl⟩:=hrel
    by_cases hlt:k < is.length
    ·obtain ⟨p,hx⟩:∃ x,is[k]? = some x:=⟨_,List.getElem?_eq_getElem hlt⟩
     obtain ⟨b,off,hBe,hbl,hr⟩:=(Rw.nope hins hf).at_ PI.list_len hx
     subst hBe
     have hpm:=List.mem_of_getElem? hx
     obtain ⟨hpa',hpo⟩:=hat.out p hpm
     have hpa':=hpa'.fr ((hn2.then hn4).then hf) (fun x hx e=>e)
     have hpp:=Lib.hid (hpl.out p hpm)
     have hgk:=gsOf_ok (PI.ok_of hpa').ops
     replace hgk:=Lib.hid hgk
     clear hpm
     replace hx:=Lib.hid hx
     have hszr:=hf.size
     go_wp2_with (first
      | (refine wpList_load_mid rfl _ _ rfl b (off+k*10) rfl p.cells.toList _ hr Tryz.underlying38 rfl (by kernel_rfl) ?_)
      | (refine wpList_storeRow (b:=wr.heap.size) (cells:=p.cells) rfl rfl rfl rfl (heap_alloc_new _ _) rfl (by kernel_rfl) (by kernel_rfl) ?_;intro w5 hb5 hf5;have hn5:Fr nope wr w5:=((Fr.refl nope wr).alloc _).then_new hf5 (fun x hx e=>by omega);have hc2:=cell_of_row _ _ 2 _ _ (0,0) hb5;replace hc2:w5.cell? ⟨wr.heap.size,2,none⟩=some p.opsV.val:=hc2;have hps:=(hpa'.fr hn5 (fun _ _ x=>x)).ops;obtain ⟨⟨Ax,nx,cx⟩,hsv⟩:∃ s,s=p.opsV:=⟨_,rfl⟩;rw [← hsv] at hc2 hps;obtain rfl:nx=p.ops.length:=hps.1;have hd2:w5.cell? ⟨wr.heap.size,2,none⟩=some (.slice Ax p.ops.length cx):=hc2;clear hc2 hb5))
     have hpol:p.ops.length≤1048576:=hpa'.few.2.1
     have hpok:p.ops.all okP=true:=by
      unfold okI at hpo
      simp only [Bool.and_eq_true] at hpo
      exact hpo.1.1
     have hf5':Fr nope w4 w5:=hf.then hn5
     replace hsv:=Lib.hid hsv
     replace hpok:=Lib.hid hpok
     clear hpa' hpo hr hf
     go_loopg [104] p.ops.length (fun m c46 wx=>∃ j:Nat,j≤p.ops.length∧c46 = .int .i64 (j:Int)∧Fr nope w5 wx∧m=p.ops.length - j)
     case atStart=>exact ⟨0,Nat.zero_le _,rfl,Fr.refl _ _,rfl⟩
     case round=>
      obtain ⟨j,hj,rfl,hf,rfl⟩:=hrel
      by_cases hjl:j < p.ops.length
      ·obtain ⟨bo,oo,hAe,hbb,hc⟩:=(hps.nope hf).2 (by omega)
       simp only at hAe
       subst hAe
       obtain ⟨q,hqk⟩:∃ q,p.ops[j]? = some q:=⟨_,List.getElem?_eq_getElem hjl⟩
       have hc:=hc j q hqk
       have hqm:=List.mem_of_getElem? hqk
       have hokq:okP q=true:=List.all_eq_true.1 hpok.out q hqm
       have hql:=q.gs_len
       replace hqm:=Lib.hid hqm
       have hszj:=hf.size
       clear hqk
       go_wp2_with (first
        | (refine wpList_load_mid rfl _ _ rfl bo (oo+j*24) rfl q.cells.toList _ hc Tryz.underlying45 rfl (by kernel_rfl) ?_)
        | (refine wpList_storeRow (b:=wr.heap.size) (cells:=q.cells) rfl rfl rfl rfl (heap_alloc_new _ _) rfl (by kernel_rfl) (by kernel_rfl) ?_;intro w6 hb6 hf6)
        | (refine wpList_loadRow (b:=wr.heap.size) (cells:=q.cells) rfl rfl rfl hb6 Tryz.underlying45 rfl (by kernel_rfl) ?_))
       have hn6:Fr nope wr w6:=((Fr.refl nope wr).alloc _).then_new hf6 (fun x hx e=>by omega)
       refine (OpRegisters_calls w6 q hokq).mono ?_
       rintro e w7 ⟨hf7,A9,c9,rfl,hown7⟩
       have hn7:=hn6.then hf7
       have hrw:=Rw.of_own hown7
       have hn27:Fr nope w2 w7:=((hn4.then hf5').then hf).then hn7
       clear hb6 hf6 hc hown7 hokq
       go_wp2
       go_loopg [115] q.gs.length (fun m c57 wx=>∃ i:Nat,i≤q.gs.length∧c57 = .int .i64 (i:Int)∧Fr nope w7 wx∧m=q.gs.length - i)
       case atStart=>exact ⟨0,Nat.zero_le _,rfl,Fr.refl _ _,rfl⟩
       case round=>
        obtain ⟨i,hi,rfl,hg7,rfl⟩:=hrel
        by_cases hil:i < q.gs.length
        ·obtain ⟨g,hg⟩:∃ g,q.gs[i]? = some g:=⟨_,List.getElem?_eq_getElem hil⟩
         obtain ⟨br,ro,hRe,hrb,hrr⟩:=(hrw.nope hg7).at_ G.cells_len hg
         subst hRe
         have hgm:=gs_mem hqm.out (List.mem_of_getElem? hg)
         obtain ⟨ii,hpi⟩:=hpp.out g hgm
         have hgo:g.Ok:=hgk.out g hgm
         have hz2:=fun hv:g.virt=true=>info2 (hpi.2.2 hv).2.2.2.2
         have hAg:=fun W (hW:Fr nope w2 W)=>hAL.out W hW g ii hgo hpi
         unfold G.agg at hAg
         clear hgm hpi hgo
         replace hg:=Lib.hid hg
         replace hAg:=Lib.hid hAg
         have hszi:=hg7.size
         go_wp2_with (first
          | (refine wpList_load_mid rfl _ _ rfl br (ro+i*4) rfl g.cells _ hrr Tryz.underlying40 rfl (by kernel_rfl) ?_)
          | (refine wpList_storeRow (b:=wr.heap.size) (cells:=#[.bool g.virt,.int .u8 (g.kind:Int),.int .u16 (g.idx:Int),.int .u16 (g.spec:Int)]) rfl rfl rfl rfl (heap_alloc_new _ _) rfl (by kernel_rfl) (by kernel_rfl) ?_;intro w8 hb8 hf8)
          | (refine wpList_loadRow (b:=wr.heap.size) (cells:=#[.bool g.virt,.int .u8 (g.kind:Int),.int .u16 (g.idx:Int),.int .u16 (g.spec:Int)]) rfl rfl rfl hb8 Tryz.underlying40 rfl (by kernel_rfl) ?_))
         have hn8:Fr nope wr w8:=((Fr.refl nope wr).alloc _).then_new hf8 (fun x hx e=>by omega)
         refine (hAg.out _ ((hn27.then hg7).then hn8)).mono ?_
         rintro e w9 ⟨⟨nm,rfl⟩,hf9⟩
         have hb9:=hf9.heap hb8 (fun x=>x)
         have hg9:=hg7.then (hn8.then hf9)
         have hsz9:=hf9.size
         have hlt8:=lt_of_heap hb8
         clear hb8 hf8 hrr
         obtain ⟨bx,hbx⟩:∃ bx,bx=wr.heap.size:=⟨_,rfl⟩
         rw [← hbx] at hb9 hlt8 ⊢
         replace hbx:=Lib.hid hbx
         cases hv:g.virt with
         | false=>
          rw [hv] at hb9
          go_wp2_with (refine wpList_storeRow (b:=w9.heap.size) (cells:=physC g.kind ii g.spec nm) rfl rfl rfl rfl (heap_alloc_new _ _) rfl (by kernel_rfl) (by kernel_rfl) ?_;intro w10 hb10 hf10;have hn10:Fr nope w9 w10:=((Fr.refl nope w9).alloc _).then_new hf10 (fun x hx e=>by omega);have hbX:=hn10.heap hb9 (fun x=>x);have d0:w10.cell? ⟨bx,0,none⟩=some (.bool false):=cell_of_row _ _ 0 _ _ (0,0) hbX;clear hbX hb10)
          go_roundg (q.gs.length - (i+1))
          case measure=>omega
          case rel=>exact ⟨i+1,by omega,by go_num,hg9.then hn10,rfl⟩
         | true=>
          have hz2:=hz2 hv
          rw [hv] at hb9
          go_wp2_with (refine wpList_storeRow (b:=w9.heap.size) (cells:=physC g.kind ii g.spec nm) rfl rfl rfl rfl (heap_alloc_new _ _) rfl (by kernel_rfl) (by kernel_rfl) ?_;intro w10 hb10 hf10;have hn10:Fr nope w9 w10:=((Fr.refl nope w9).alloc _).then_new hf10 (fun x hx e=>by omega);have hbX:=hn10.heap hb9 (fun x=>x);have d0:w10.cell? ⟨bx,0,none⟩=some (.bool true):=cell_of_row _ _ 0 _ _ (0,0) hbX;have d1:w10.cell? ⟨bx,1,none⟩=some (.int .u8 (g.kind:Int)):=cell_of_row _ _ 1 _ _ (0,0) hbX;have d3:w10.cell? ⟨bx,3,none⟩=some (.int .u16 (g.spec:Int)):=cell_of_row _ _ 3 _ _ (0,0) hbX;have e0:w10.cell? ⟨w9.heap.size,0,none⟩=some (.int .u8 (g.kind:Int)):=cell_of_row _ _ 0 _ _ (0,0) hb10;have e2:w10.cell? ⟨w9.heap.size,2,none⟩=some (.int .u16 (g.spec:Int)):=cell_of_row _ _ 2 _ _ (0,0) hb10;have e4:w10.cell? ⟨w9.heap.size,4,none⟩=some (.int .u8 (infoP g.kind ii:Int)):=cell_of_row _ _ 4 _ _ (0,0) hb10;clear hbX hb10)
          go_roundg (q.gs.length - (i+1))
          case measure=>omega
          case rel=>exact ⟨i+1,by omega,by go_num,hg9.then hn10,rfl⟩
        ·go_wp2
         go_roundg (p.ops.length - (j+1))
         case measure=>omega
         case rel=>exact ⟨j+1,by omega,by go_num,(hf.then hn7).then hg7,rfl⟩
      ·go_wp2
       go_roundg (is.length - (k+1))
       case measure=>omega
       case rel=>exact ⟨k+1,by omega,by go_num,hf5'.then hf,rfl⟩
    ·have hn9:=hn4.then hf
     clear hf hins hAL hpl hat
     go_wp2_with fail
     refine (hBd.out _ hn9).mono ?_
     rintro e w10 ⟨hf10,A4,c4,ms,rfl,hNm,hBm⟩
     have hn10:=hn9.then hf10
     have hSN:=hSN.out _ hn10 A4 c4 ms hNm hBm
     clear hNm hBm hBd
     go_wp2_with fail
     refine hSN.mono ?_
     rintro e w11 ⟨rfl,hf11⟩
     have hn11:=hn10.then hf11
     clear hSN
     go_wp2_with fail
     refine (hBr.out _ hn11).mono ?_
     rintro e w12 ⟨rfl,hf12⟩
     have hn12:=hn11.then hf12
     go_wp2_with fail
     refine (hVA.out _ hn12).mono ?_
     rintro e w13 ⟨rfl,hf13⟩
     go_wp2
     go_ret
     exact ⟨rfl,hn2.then (hn12.then hf13)⟩
end
end Go.Proofs.YtpbeedabmjmdmaaGreatDoor
