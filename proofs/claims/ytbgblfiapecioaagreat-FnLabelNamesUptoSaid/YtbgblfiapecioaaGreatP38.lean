/- Part of the proof of a statement about pub-berthage: what its texts have in common. -/
import Derived.LaidEqlPtr
import Derived.BigQuiet
import Derived.Test.YtbgblfiapecioaaGreatP13
import Derived.Test.YtbgblfiapecioaaGreatP30
import Derived.Test.YtbgblfiapecioaaGreatP31
import Derived.Test.YtbgblfiapecioaaGreatP33
import Derived.Test.YtbgblfiapecioaaGreatP37
namespace Go.Proofs.YtbgblfiapecioaaGreat
section
open Go Go.RowKit Bth
set_option maxRecDepth 100000
def pdI (sc:Nat→List (Option Nat)) (n k:Nat):List Nat:=(List.range n).flatMap fun i=>((sc i).filter fun s=>s == some k).map fun _=>i
theorem pd_plain {bs:List Nat} {sc scB:Nat→List (Option Nat)} {n k b:Nat} (hsc:∀ i,i < n→scB i=(sc i).map (blk bs)) (hnd:∀ j,bs[j]? = some b→j=k) (hb:bs[k]? = some b):
  pdOf (edgesK scB bs n) b=(pdI sc n k).map fun i=>bs.getD i 0:=by
 unfold pdOf edgesK pdI
 rw [List.filter_flatMap,List.map_flatMap,List.map_flatMap]
 refine map_flat rfl fun j x y h1 h2=>?_
 rw [h1] at h2
 injection h2 with h2
 subst h2
 have hx:x < n:=List.mem_range.1 (List.mem_of_getElem? h1)
 rw [hsc x hx]
 have e:∀ l:List (Option Nat),(((l.map (blk bs)).map fun s=>(s,bs.getD x 0)).filter fun e=>e.1 == some b).map (·.2)=((l.filter fun s=>s == some k).map fun _=>x).map fun i=>bs.getD i 0:=by
  intro l
  induction l with
  | nil=>rfl
  | cons s l ih=>
   have hs:(blk bs s == some b)=(s == some k):=by
    cases s with
    | none=>rfl
    | some j=>
     show (bs[j]? == some b)=(some j == some k)
     by_cases h:j=k
     ·subst h;rw [hb];simp
     ·have h':¬bs[j]? = some b:=fun e=>h (hnd j e)
      rw [beq_eq_false_iff_ne.2 h',beq_eq_false_iff_ne.2 (fun e=>h (Option.some.inj e))]
   simp only [List.map_cons,List.filter_cons]
   rw [hs]
   split
   ·simp only [List.map_cons,ih]
   ·exact ih
 exact e _
theorem pdI_lt {sc:Nat→List (Option Nat)} {n k i:Nat} (h:i∈pdI sc n k):i < n:=by
 obtain ⟨j,hj,hm⟩:=List.mem_flatMap.1 h
 obtain ⟨_,_,rfl⟩:=List.mem_map.1 hm
 exact List.mem_range.1 hj
theorem pdI_len {sc:Nat→List (Option Nat)} {n k:Nat} (h:∀ i,i < n→(sc i).length≤2):(pdI sc n k).length≤2*n:=by
 unfold pdI
 induction n with
 | zero=>simp
 | succ n ih=>
  rw [List.range_succ,List.flatMap_append,List.length_append]
  have h1:=ih fun i hi=>h i (by omega)
  have h2:=h n (by omega)
  have h3:=List.length_filter_le (fun s=>s == some k) (sc n)
  simp only [List.flatMap_cons,List.flatMap_nil,List.append_nil,List.length_map]
  omega
theorem infoIns:(Tryz.prog.info? 130).map (·.size)=some 14:=by kernel_rfl
theorem eqP_same (w:World) (b:Nat):(binOp .eql 113 (.pointer (some ⟨b,0,none⟩)) (.pointer (some ⟨b,0,none⟩))).run Tryz.prog w = .ok (.bool true) w:=by
 obtain ⟨j,hj,_⟩:=Option.map_eq_some_iff.1 infoIns
 exact run_eql_ptr_same w _ Tryz.underlying113 hj
theorem eqP_ne (w:World) (b c:Nat) (hne:b≠c) {cb cc:Array Value} {tb tc:TypeId} (h1:w.heap[b]? = some (.cells cb tb (0,0))) (h2:w.heap[c]? = some (.cells cc tc (0,0))):(binOp .eql 113 (.pointer (some ⟨b,0,none⟩)) (.pointer (some ⟨c,0,none⟩))).run Tryz.prog w = .ok (.bool false) w:=by
 obtain ⟨j,hj,h⟩:=Option.map_eq_some_iff.1 infoIns
 exact run_eql_ptr_other w Tryz.underlying113 hj (by omega) (fun h=>by injection h with h;exact hne h) h1 h2
theorem eqP_nil (w:World) (c:Nat):(binOp .eql 113 (.pointer none) (.pointer (some ⟨c,0,none⟩))).run Tryz.prog w = .ok (.bool false) w:=by
 have h:∀ d:Nat,(Op.equalIn (d+1) 113 (.pointer none) (.pointer (some ⟨c,0,none⟩))).run Tryz.prog w = .ok false w:=fun d=>by
  simp [Op.equalIn,run_underlying Tryz.underlying113,sizeOf,typeInfo]
 simp only [binOp]
 simp [Op.equal,Op.maxDepth,h 9999]
def Live_ (w:World) (bs:List Nat):Prop:=∀ b∈bs,∃ cs t,w.heap[b]? = some (.cells cs t (0,0))
theorem Live_.nope {w w':World} {bs:List Nat} (h:Live_ w bs) (hf:Fr nope w w'):Live_ w' bs:=fun b hb=>by
 obtain ⟨cs,t,e⟩:=h b hb
 exact ⟨cs,t,hf.heap e (fun x=>x)⟩
theorem place_calls (w:World) (A:Option Addr) (c:Nat) (bs:List Nat) (hS:Sl w A bs.length (bs.map ptr)) (hl:bs.length≤1048576) (hlv:Live_ w bs) (hnd:∀ (j k b:Nat),bs[j]? = some b→bs[k]? = some b→j=k) (o:Option Nat) (ho:∀ k,o=some k→k < bs.length):
  Calls Tryz.prog 101 #[.slice A bs.length c,fvI (blk bs o)] w fun e w'=>e = .returned (oV o)∧w'=w:=by
 cases o with
 | none=>
  have e:fvI (blk bs none) = .pointer none:=rfl
  rw [e]
  clear ho hnd hlv
  go_enter Tryz.func101,Tryz.ntmps101
  go_wp2
  go_loopg [9] bs.length (fun n c9 wr=>∃ k:Nat,k≤bs.length∧c9 = .int .i64 (k:Int)∧wr=w∧n=bs.length - k)
  case atStart=>exact ⟨0,Nat.zero_le _,rfl,rfl,rfl⟩
  case round=>
   obtain ⟨k,hk,rfl,rfl,rfl⟩:=hrel
   by_cases hlt:k < bs.length
   ·obtain ⟨b,off,u,hA,hbl,hu,hc⟩:=hS.at_ hlt
    rw [List.getElem?_map] at hu
    obtain ⟨y,_,rfl⟩:=Option.map_eq_some_iff.1 hu
    subst hA
    unfold ptr at hc
    have hq:=eqP_nil wr y
    clear hu hS
    go_wp2
    go_roundg (bs.length - (k+1))
    case measure=>omega
    case rel=>exact ⟨k+1,by omega,by go_num,rfl,rfl⟩
   ·go_wp2
    go_ret
    exact ⟨rfl,rfl⟩
 | some m=>
  have hm:=ho m rfl
  obtain ⟨x,hx⟩:∃ x,bs[m]? = some x:=⟨_,List.getElem?_eq_getElem hm⟩
  have e:fvI (blk bs (some m)) = .pointer (some ⟨x,0,none⟩):=by show fvI (bs[m]?)=_;rw [hx];rfl
  rw [e]
  have hne:∀ k y,bs[k]? = some y→k≠m→y≠x:=fun k y hy hk h=>hk (hnd k m x (h ▸ hy) hx)
  clear ho hnd e
  replace hne:=Lib.hid hne
  go_enter Tryz.func101,Tryz.ntmps101
  go_wp2
  go_loopg [9] bs.length (fun n c9 wr=>∃ k:Nat,k≤m∧c9 = .int .i64 (k:Int)∧wr=w∧n=bs.length - k)
  case atStart=>exact ⟨0,Nat.zero_le _,rfl,rfl,rfl⟩
  case round=>
   obtain ⟨k,hk,rfl,rfl,rfl⟩:=hrel
   have hlt:k < bs.length:=by omega
   obtain ⟨b,off,u,hA,hbl,hu,hc⟩:=hS.at_ hlt
   rw [List.getElem?_map] at hu
   obtain ⟨y,hy,rfl⟩:=Option.map_eq_some_iff.1 hu
   subst hA
   unfold ptr at hc
   clear hu hS
   by_cases hkm:k=m
   ·subst hkm
    rw [hx] at hy
    injection hy with hy
    subst hy
    have hq:=eqP_same wr x
    clear hx hlv
    go_wp2
    go_ret
    exact ⟨rfl,rfl⟩
   ·have hyx:=hne.out k y hy hkm
    obtain ⟨_,_,g1⟩:=hlv x (List.mem_of_getElem? hx)
    obtain ⟨_,_,g2⟩:=hlv y (List.mem_of_getElem? hy)
    have hq:=eqP_ne wr x y (fun h=>hyx h.symm) g1 g2
    clear hx hy hlv g1 g2
    go_wp2
    go_roundg (bs.length - (k+1))
    case measure=>omega
    case rel=>exact ⟨k+1,by omega,by go_num,rfl,rfl⟩
def GivesPs (w:World) (os:List (Option Nat)) (e:Ending) (w':World):Prop:=Fr nope w w'∧∃ A c,e = .returned (.slice A os.length c)∧w'.ownsRow w.heap.size 3 1 (.slice A os.length c) os.length (os.map oV)
set_option maxHeartbeats 1000000 in
theorem places_calls (w:World) (A A2:Option Addr) (c c2:Nat) (bs:List Nat) (hS:Sl w A bs.length (bs.map ptr)) (hl:bs.length≤1048576) (hlv:Live_ w bs) (hnd:∀ (j k b:Nat),bs[j]? = some b→bs[k]? = some b→j=k) (os:List (Option Nat)) (ho:∀ k,some k∈os→k < bs.length)
  (h2:Sl w A2 os.length (os.map fun o=>fvI (blk bs o))) (hl2:os.length≤1073741824):
  Calls Tryz.prog 65 #[.slice A bs.length c,.slice A2 os.length c2] w (GivesPs w os):=by
 replace hnd:=Lib.hid hnd
 replace ho:=Lib.hid ho
 go_enter Tryz.func65,Tryz.ntmps65
 go_wp2
 go_loopg [5,10] os.length (fun n c5 c10 wr=>∃ (k:Nat) (A':Option Addr) (c':Nat),k≤os.length∧c10 = .int .i64 (k:Int)∧c5 = .slice A' k c'∧wr.ownsRow w.heap.size 3 1 (.slice A' k c') k ((os.take k).map oV)∧Fr nope w wr∧n=os.length - k)
 case atStart=>exact ⟨0,none,0,Nat.zero_le _,rfl,rfl,own_nil _ _ _ _,Fr.refl _ _,rfl⟩
 case round=>
  obtain ⟨k,A',c',hk,rfl,rfl,hown,hf,rfl⟩:=hrel
  by_cases hlt:k < os.length
  ·obtain ⟨b,off,u,hAe,hbl,hu,hc⟩:=(h2.nope hf).at_ hlt
   rw [List.getElem?_map] at hu
   obtain ⟨o,hok,rfl⟩:=Option.map_eq_some_iff.1 hu
   subst hAe
   have hT:=Lib.hid (take_snoc hok)
   have hoo:∀ j,o=some j→j < bs.length:=fun j e=>ho.out j (by rw [← e];exact List.mem_of_getElem? hok)
   replace hoo:=Lib.hid hoo
   have hsz:=hf.size
   clear hu hok h2
   go_wp2_with fail
   refine (place_calls wr A c bs (hS.nope hf) hl (hlv.nope hf) hnd.out o hoo.out).mono ?_
   rintro e w1 ⟨rfl,rfl⟩
   obtain ⟨z,hz,_,_⟩:=oV_int o
   rw [hz]
   go_wp2_with (refine wpList_app (v:=.slice A' k c') rfl rfl Tryz.underlying67 infoInt rfl (by omega) rfl (own_fr hown ((Fr.refl nope _).alloc _) (fun _ _ x=>x)) rfl (news:=[.int .i64 z]) rfl (one_new _ _ _ _ rfl) (by simp [Value.oneCell']) (by simp only [maxLen];omega) (by omega) (by simp;omega) ?hk)
   case hk=>
    intro v4 w4 hown4 hf4 hb4
    obtain ⟨A3,d3,rfl,_,_⟩:=own_slice hown4
    have hbo:=own_base hown
    have hn4:Fr nope w w4:=(hf.alloc _).then_new hf4 (fun x hx e=>by have:=hbo x e;omega)
    go_wp2
    go_roundg (os.length - (k+1))
    case measure=>omega
    case rel=>exact ⟨k+1,A3,d3,by omega,by go_num,rfl,by rw [hT.out,List.map_append];simpa [hz] using hown4,hn4,rfl⟩
  ·have hkn:k=os.length:=by omega
   subst hkn
   rw [List.take_length] at hown
   go_wp2
   go_ret
   exact ⟨hf,A',c',rfl,hown⟩
end
section
open Go Go.RowKit Bth
set_option maxRecDepth 100000
theorem irTexts_calls (w:World) (A1 A2:Option Addr) (c1 c2:Nat) (l:List ByteArray) (h1:Sl w A1 l.length (l.map Value.string)) (h2:Sl w A2 l.length (l.map Value.string)) (hl:l.length≤1048576):
  Calls Tryz.prog 70 #[.slice A1 l.length c1,.slice A2 l.length c2] w (GivesB w true):=by
 go_enter Tryz.func70,Tryz.ntmps70
 go_wp2
 go_loopg [13] l.length (fun n c13 wr=>∃ k:Nat,k≤l.length∧c13 = .int .i64 (k:Int)∧Fr nope w wr∧n=l.length - k)
 case atStart=>exact ⟨0,Nat.zero_le _,rfl,Fr.refl _ _,rfl⟩
 case round=>
  obtain ⟨k,hk,rfl,hf,rfl⟩:=hrel
  by_cases hlt:k < l.length
  ·obtain ⟨b1,o1,u1,hA1,hb1,hu1,hc1⟩:=(h1.nope hf).at_ hlt
   obtain ⟨b2,o2,u2,hA2,hb2,hu2,hc2⟩:=(h2.nope hf).at_ hlt
   rw [hu1] at hu2
   injection hu2 with hu2
   rw [List.getElem?_map] at hu1
   obtain ⟨y,_,rfl⟩:=Option.map_eq_some_iff.1 hu1
   subst hA1 hA2 hu2
   have hk0:(0:Int)≤(k:Int):=by omega
   have hk1:(k:Int) < (l.length:Int):=by omega
   have d1:∀ m,(wr.drewN m).cell? ⟨b1,o1+k,none⟩=some (.string y):=fun m=>((Fr.refl nope wr).drewN m).cell hc1 (fun x=>x)
   have d2:∀ m,(wr.drewN m).cell? ⟨b2,o2+k,none⟩=some (.string y):=fun m=>((Fr.refl nope wr).drewN m).cell hc2 (fun x=>x)
   clear hu1 h1 h2
   go_wp2
   go_quiet (fail)
   go_wp2
   go_roundg (l.length - (k+1))
   case measure=>omega
   case rel=>exact ⟨k+1,by omega,by go_num,by first | exact hf | exact hf.drewN _,rfl⟩
  ·go_wp2
   go_ret
   exact ⟨rfl,hf⟩
set_option maxHeartbeats 1000000 in
theorem lists_calls (w:World) (A1 A2:Option Addr) (c1 c2 n:Nat) (sc:Nat→List (Option Nat)) (h1:SuccAt w A1 n sc) (h2:SuccAt w A2 n sc) (hn:n≤1048576) (hl:∀ k,k < n→(sc k).length≤1073741824):
  Calls Tryz.prog 11 #[.slice A1 n c1,.slice A2 n c2] w (GivesB w true):=by
 replace hl:=Lib.hid hl
 go_enter Tryz.func11,Tryz.ntmps11
 go_wp2
 go_loopg [14] n (fun m c14 wr=>∃ k:Nat,k≤n∧c14 = .int .i64 (k:Int)∧Fr nope w wr∧m=n - k)
 case atStart=>exact ⟨0,Nat.zero_le _,rfl,Fr.refl _ _,rfl⟩
 case round=>
  obtain ⟨k,hk,rfl,hf,rfl⟩:=hrel
  by_cases hlt:k < n
  ·obtain ⟨b1,o1,B1,d1,hA1,hb1,hc1,hr1⟩:=h1.at_ hlt
   obtain ⟨b2,o2,B2,d2,hA2,hb2,hc2,hr2⟩:=h2.at_ hlt
   have hll:=hl.out k hlt
   obtain ⟨l,hle⟩:∃ l,l=sc k:=⟨_,rfl⟩
   rw [← hle] at hc1 hc2 hr1 hr2 hll
   replace hle:=Lib.hid hle
   subst hA1 hA2
   have hk0:(0:Int)≤(k:Int):=by omega
   have hk1:(k:Int) < (n:Int):=by omega
   have e1:=hf.cell hc1 (fun x=>x)
   have e2:=hf.cell hc2 (fun x=>x)
   have d1':∀ m,(wr.drewN m).cell? ⟨b1,o1+k,none⟩=some (.slice B1 l.length d1):=fun m=>((Fr.refl nope wr).drewN m).cell e1 (fun x=>x)
   have d2':∀ m,(wr.drewN m).cell? ⟨b2,o2+k,none⟩=some (.slice B2 l.length d2):=fun m=>((Fr.refl nope wr).drewN m).cell e2 (fun x=>x)
   clear h1 h2
   go_wp2
   go_quiet (fail)
   go_wp2
   go_loopg [33] l.length (fun m c33 wx=>∃ j:Nat,j≤l.length∧c33 = .int .i64 (j:Int)∧Fr nope w wx∧m=l.length - j)
   case atStart=>exact ⟨0,Nat.zero_le _,rfl,by first | exact hf | exact hf.drewN _,rfl⟩
   case round=>
    clear e1 e2 d1' d2'
    obtain ⟨j,hj,rfl,hg,rfl⟩:=hrel
    by_cases hjl:j < l.length
    ·obtain ⟨u,hu⟩:∃ u,(l.map oV)[j]? = some u:=⟨_,List.getElem?_eq_getElem (by rw [List.length_map];exact hjl)⟩
     obtain ⟨b3,o3,hB1,hb3,hc3⟩:=hr1.one hu
     obtain ⟨b4,o4,hB2,hb4,hc4⟩:=hr2.one hu
     rw [List.getElem?_map] at hu
     obtain ⟨y,_,rfl⟩:=Option.map_eq_some_iff.1 hu
     obtain ⟨z,hz,_,_⟩:=oV_int y
     rw [hz] at hc3 hc4
     subst hB1 hB2
     have hj0:(0:Int)≤(j:Int):=by omega
     have hj1:(j:Int) < (l.length:Int):=by omega
     have g1:=hg.cell hc1 (fun x=>x)
     have g2:=hg.cell hc2 (fun x=>x)
     have g3:=hg.cell hc3 (fun x=>x)
     have g4:=hg.cell hc4 (fun x=>x)
     have f1:∀ m,(wr.drewN m).cell? ⟨b1,o1+k,none⟩=some (.slice (some ⟨b3,o3,none⟩) l.length d1):=fun m=>((Fr.refl nope wr).drewN m).cell g1 (fun x=>x)
     have f2:∀ m,(wr.drewN m).cell? ⟨b2,o2+k,none⟩=some (.slice (some ⟨b4,o4,none⟩) l.length d2):=fun m=>((Fr.refl nope wr).drewN m).cell g2 (fun x=>x)
     have f3:∀ m,(wr.drewN m).cell? ⟨b3,o3+j,none⟩=some (.int .i64 z):=fun m=>((Fr.refl nope wr).drewN m).cell g3 (fun x=>x)
     have f4:∀ m,(wr.drewN m).cell? ⟨b4,o4+j,none⟩=some (.int .i64 z):=fun m=>((Fr.refl nope wr).drewN m).cell g4 (fun x=>x)
     clear hu hz hr1 hr2
     go_wp2
     go_quiet (fail)
     go_wp2
     go_roundg (l.length - (j+1))
     case measure=>omega
     case rel=>exact ⟨j+1,by omega,by go_num,by first | exact hg | exact hg.drewN _,rfl⟩
    ·go_wp2
     go_roundg (n - (k+1))
     case measure=>omega
     case rel=>exact ⟨k+1,by omega,by go_num,hg,rfl⟩
  ·go_wp2
   go_ret
   exact ⟨rfl,hf⟩
set_option maxHeartbeats 1000000 in
theorem SameNode_calls (w:World) (B:Nat) (p p':PN) (h:p.At w B) (h':∃ B,p'.At w B) (hs:SimN p p') (hk:p.kind=2∨p.kind=3):Calls Tryz.prog 40 #[p.agg,p'.agg] w (GivesB w true):=by
 obtain ⟨B',h'⟩:=h'
 obtain ⟨s1,s2,s3⟩:=hs
 have hl1:=h.lines
 have hl2:=h'.lines
 have hfew:=h.few
 clear h h'
 obtain ⟨kind,label,⟨lA,ln,lc⟩,lines,⟨opc,⟨A1,n1,c1⟩,suf,⟨A2,n2,c2⟩,ops,⟨A3,n3,c3⟩,inp,⟨A4,n4,c4⟩,out,term,br,cond,canc,⟨A5,n5,c5⟩,isa⟩⟩:=p
 obtain ⟨kind',label',⟨lA',ln',lc'⟩,lines',⟨opc',⟨A1',n1',c1'⟩,suf',⟨A2',n2',c2'⟩,ops',⟨A3',n3',c3'⟩,inp',⟨A4',n4',c4'⟩,out',term',br',cond',canc',⟨A5',n5',c5'⟩,isa'⟩⟩:=p'
 simp only at s1 s2 s3 hk hl1 hl2 hfew
 subst s1
 simp only [PN.agg,PN.cells,SV.val]
 have f0:=fun o=>(Fr.refl nope w).alloc o
 rcases hk with rfl | rfl
 ·obtain rfl:=s2 rfl
  clear s2 s3 hl1 hl2
  go_enter Tryz.func40,Tryz.ntmps40
  go_wp2
  go_ret
  exact ⟨rfl,(f0 _).alloc _⟩
 ·obtain rfl:=s3 rfl
  clear s2 s3
  obtain ⟨e1,hl1⟩:=hl1
  obtain ⟨e2,hl2⟩:=hl2
  simp only at e1 e2 hl1 hl2
  subst e1 e2
  go_enter Tryz.func40,Tryz.ntmps40
  go_wp2_with fail
  have f2:Fr nope w _:=(f0 (.cells #[.int .i64 3,.string label,.slice lA lines'.length lc,.string opc,.slice A1 n1 c1,.slice A2 n2 c2,.slice A3 n3 c3,.slice A4 n4 c4,.bool term,.bool br,.bool cond,.bool canc,.slice A5 n5 c5] 48)).alloc (.cells #[.int .i64 3,.string label',.slice lA' lines'.length lc',.string opc',.slice A1' n1' c1',.slice A2' n2' c2',.slice A3' n3' c3',.slice A4' n4' c4',.bool term',.bool br',.bool cond',.bool canc',.slice A5' n5' c5'] 48)
  refine (irTexts_calls _ lA lA' lc lc' lines' (hl1.nope f2) (hl2.nope f2) hfew).mono ?_
  rintro e w1 ⟨rfl,hf1⟩
  go_wp2
  go_ret
  exact ⟨rfl,f2.then hf1⟩
end
section
open Go Go.RowKit Bth
set_option maxRecDepth 100000
def IntV (w:World) (vs:List Value) (ls:List (List (Option Nat))):Prop:=vs.length=ls.length∧∀ (k:Nat) (v:Value) (s:List (Option Nat)),vs[k]? = some v→ls[k]? = some s→∃ A c,v = .slice A s.length c∧Rw w 3 1 A s.length (s.map oV)
theorem IntV.frT {S:Nat→Prop} {w w':World} {vs:List Value} {ls:List (List (Option Nat))} (h:IntV w vs ls) (hf:Fr S w w') (hs:NoT [3] w S):IntV w' vs ls:=⟨h.1,fun k v s h1 h2=>by
 obtain ⟨A,c,e,hT⟩:=h.2 k v s h1 h2
 exact ⟨A,c,e,Rw.frT hT hf hs (by decide)⟩⟩
theorem IntV.snoc {w:World} {vs:List Value} {ls:List (List (Option Nat))} {A:Option Addr} {c:Nat} {s:List (Option Nat)} (h:IntV w vs ls) (hs:Rw w 3 1 A s.length (s.map oV)):IntV w (vs ++ [.slice A s.length c]) (ls ++ [s]):=by
 refine ⟨by simp [h.1],fun k v t h1 h2=>?_⟩
 by_cases hlt:k < vs.length
 ·rw [List.getElem?_append_left hlt] at h1
  rw [List.getElem?_append_left (by rw [← h.1];exact hlt)] at h2
  exact h.2 k v t h1 h2
 ·rw [List.getElem?_append_right (by omega)] at h1
  rw [List.getElem?_append_right (by rw [← h.1];omega),← h.1] at h2
  have hk:k - vs.length=0:=by
   have:=(List.getElem?_eq_some_iff.1 h1).1
   simp at this;omega
  rw [hk] at h1 h2
  simp only [List.getElem?_cons_zero,Option.some.injEq] at h1 h2
  subst h1 h2
  exact ⟨A,c,rfl,hs⟩
theorem SuccAt.of {w:World} {A:Option Addr} {n:Nat} {vs:List Value} {sc:Nat→List (Option Nat)} (h:Rw w 67 1 A n vs) (hv:IntV w vs ((List.range n).map sc)):SuccAt w A n sc:=by
 refine ⟨vs,h,fun k hk=>?_⟩
 have hl:vs.length=n:=by rw [hv.1];simp
 have h1:vs[k]? = some vs[k]:=List.getElem?_eq_getElem (by omega)
 obtain ⟨A',c,e,hr⟩:=hv.2 k _ (sc k) h1 (by rw [List.getElem?_map,List.getElem?_range hk];rfl)
 exact ⟨A',c,by rw [h1,e],hr⟩
theorem range_snoc (sc:Nat→List (Option Nat)) (k:Nat):(List.range (k+1)).map sc=(List.range k).map sc ++ [sc k]:=by rw [List.range_succ,List.map_append];rfl
noncomputable def pfReg:Array Oper:=findReg 5 (Tryz.f33.body.getD .skip)
noncomputable def oPF (i:Nat):Oper:=opAt pfReg i
theorem pfReg_get {i:Nat} (h:Nat.blt i 20=true):pfReg[i]? = some (oPF i):=opAt_get (by kernel_rfl) h
theorem wp_bs1 {o:Oper} {a:Act} {w:World} {K:Act→World→Prop} {Q:Exit→Act→World→Prop} {t:Nat} (ho:o.op = .buildSlice 25 1 #[(0,.tmp t)]) {A:Option Addr} {n c:Nat} (hv:a.eval (.tmp t) = .slice A n c)
  (h:K (a.put o.dst (.slice (some ⟨w.heap.size,0,none⟩) 1 1)) (w.alloc (.cells #[.slice A n c] 67))):Oper.wp Tryz.prog o a w K Q:=by
 have hrun:(execOp a.eval o).run Tryz.prog w = .ok (.value (.slice (some ⟨w.heap.size,0,none⟩) 1 1)) (w.alloc (.cells #[.slice A n c] 67)):=by
  unfold execOp
  rw [ho]
  simp only [List.map_toArray,List.map_cons,List.map_nil,hv]
  go_simp
 show o.upon Tryz.prog a K Q ((execOp a.eval o).run Tryz.prog w)
 rw [hrun]
 exact h
set_option maxHeartbeats 2000000 in
theorem rgPF {a0:Act} {w:World} {Q:Exit→Act→World→Prop} {S:World→Prop} {b:Nat} {is s1 s2:Value} {B1 B2:Option Addr} {n1 m1 n2 m2:Nat} {R1 R2 R3 R4:Value→World→Prop} {R5:Value→Value→World→Prop}
  (h0:Bun a0 36 [(2,s1),(3,s2),(4,is),(6,.pointer (some ⟨b,0,none⟩))]) (hQ:∀ d v c a w,Q (.panic c) (a.put d v) w→Q (.panic c) a w)
  (hS0:S w.drew) (l1:∀ w',S w'→w'.cell? ⟨b,11,none⟩=some (.slice B1 n1 m1)) (l2:∀ w',S w'→w'.cell? ⟨b,10,none⟩=some (.slice B2 n2 m2)) (hSa:∀ w o,S w→S (w.alloc o))
  (h1:Calls Tryz.prog 65 #[is,.slice B1 n1 m1] w.drew fun e w'=>∃ A n c,e = .returned (.slice A n c)∧R1 (.slice A n c) w'∧S w')
  (h2:∀ y w1 a K,R1 y w1→a.eval (.tmp 15)=s1→a.eval (.tmp 22) = .slice (some ⟨w1.heap.size,0,none⟩) 1 1→(∀ v w',R2 v w'→S w'→K (a.put (oPF 8).dst v) w')→Oper.wp Tryz.prog (oPF 8) a (w1.alloc (.cells #[y] 67)) K Q)
  (h3:∀ v w2,R2 v w2→Calls Tryz.prog 65 #[is,.slice B2 n2 m2] w2 fun e w'=>∃ A n c,e = .returned (.slice A n c)∧R3 v w'∧R4 (.slice A n c) w'∧S w')
  (h4:∀ v y w3 a K,R3 v w3→R4 y w3→a.eval (.tmp 24)=s2→a.eval (.tmp 31) = .slice (some ⟨w3.heap.size,0,none⟩) 1 1→(∀ u w',R5 v u w'→S w'→K (a.put (oPF 17).dst u) w')→Oper.wp Tryz.prog (oPF 17) a (w3.alloc (.cells #[y] 67)) K Q)
  (h:∀ v u w' a,R5 v u w'→(∃ x15 x16 x17 x18 x19 x20 x21 x22 x23 x24 x25 x26 x27 x28 x29 x30 x31 x32,a=putL a0 [(15,x15),(16,x16),(17,x17),(18,x18),(19,x19),(20,x20),(24,x24),(25,x25),(26,x26),(27,x27),(28,x28),(29,x29),(21,x21),(22,x22),(23,x23),(30,x30),(31,x31),(32,x32),(2,v),(3,u)])→Q .normal a w'):(Code.region 5 pfReg true).wp Tryz.prog Q a0 w:=by
 refine wp_region_held_drew (S:=S) (by kernel_rfl) hS0 (fun hS0=>?_)
 rw [show pfReg.size=20 from by kernel_rfl]
 refine takeMv h0 hS0 hQ 0 15 2 _ (by unfold isB;kernel_rfl) (by kernel_rfl) rfl fun a0 e0 h0=>?_
 refine takeMv h0 hS0 hQ 1 16 4 _ (by unfold isB;kernel_rfl) (by kernel_rfl) rfl fun a1 e1 h0=>?_
 refine takeMv h0 hS0 hQ 2 17 6 _ (by unfold isB;kernel_rfl) (by kernel_rfl) rfl fun a2 e2 h0=>?_
 refine takeNil h0 hS0 hQ 3 18 17 _ (by unfold isB;kernel_rfl) (by kernel_rfl) rfl fun a3 e3 h0=>?_
 refine takeFld h0 hS0 hQ 4 19 18 130 11 _ _ (by unfold isB;kernel_rfl) (by kernel_rfl) rfl (insFld b 11 (by decide)) fun a4 e4 h0=>?_
 refine takeLd h0 hS0 hQ 5 20 19 124 _ (.slice B1 n1 m1) (by unfold isB;kernel_rfl) (by kernel_rfl) rfl (fun w hw=>by have hc:=l1 _ hw;go_simp) fun a5 e5 h0=>?_
 refine takeMv h0 hS0 hQ 9 24 3 _ (by unfold isB;kernel_rfl) (by kernel_rfl) rfl fun a9 e9 h0=>?_
 refine takeMv h0 hS0 hQ 10 25 4 _ (by unfold isB;kernel_rfl) (by kernel_rfl) rfl fun a10 e10 h0=>?_
 refine takeMv h0 hS0 hQ 11 26 6 _ (by unfold isB;kernel_rfl) (by kernel_rfl) rfl fun a11 e11 h0=>?_
 refine takeNil h0 hS0 hQ 12 27 26 _ (by unfold isB;kernel_rfl) (by kernel_rfl) rfl fun a12 e12 h0=>?_
 refine takeFld h0 hS0 hQ 13 28 27 130 10 _ _ (by unfold isB;kernel_rfl) (by kernel_rfl) rfl (insFld b 10 (by decide)) fun a13 e13 h0=>?_
 refine takeLd h0 hS0 hQ 14 29 28 124 _ (.slice B2 n2 m2) (by unfold isB;kernel_rfl) (by kernel_rfl) rfl (fun w hw=>by have hc:=l2 _ hw;go_simp) fun a14 e14 h0=>?_
 refine wpAnyH_ready (rs:=[6]) (by kernel_rfl) (by simp) (AllReadyH.cons (o:=oPF 6) (pfReg_get rfl) (fun K hK=>?_) AllReadyH.nil)
 rw [if_pos (show Region.wanted (oPF 6) _=true from rfl)]
 refine wp_callU (show (oPF 6).op = .call { callee:=.value (.func 65),args:=#[.tmp 16,.tmp 20],argTypes:=#[124,124] } from by kernel_rfl) Tryz.func65 (by kernel_rfl) (by kernel_rfl) ?_
 simp only [List.map_toArray,List.map_cons,List.map_nil,h0.at_ 16 _ rfl,h0.at_ 20 _ rfl]
 refine (h1).mono ?_
 rintro e w1 ⟨A1,k1,c1,rfl,r1,s1'⟩
 refine hK.out _ _ s1' (fun hS0=>?_)
 rw [show (oPF 6).dst=some 21 from by kernel_rfl]
 replace h0:=h0.put (x:=some 21) rfl (d:=21) (by decide) (.slice A1 k1 c1)
 refine wpAnyH_ready (rs:=[7]) (by kernel_rfl) (by simp) (AllReadyH.cons (o:=oPF 7) (pfReg_get rfl) (fun K hK=>?_) AllReadyH.nil)
 rw [if_pos (show Region.wanted (oPF 7) _=true from rfl)]
 refine wp_bs1 (show (oPF 7).op = .buildSlice 25 1 #[(0,.tmp 21)] from by kernel_rfl) (h0.at_ 21 _ rfl) ?_
 refine hK.out _ _ (hSa _ _ s1') (fun hS0=>?_)
 rw [show (oPF 7).dst=some 22 from by kernel_rfl]
 replace h0:=h0.put (x:=some 22) rfl (d:=22) (by decide) (.slice (some ⟨w1.heap.size,0,none⟩) 1 1)
 refine wpAnyH_ready (rs:=[8]) (by kernel_rfl) (by simp) (AllReadyH.cons (o:=oPF 8) (pfReg_get rfl) (fun K hK=>?_) AllReadyH.nil)
 rw [if_pos (show Region.wanted (oPF 8) _=true from rfl)]
 refine h2 _ w1 _ _ r1 (h0.at_ 15 _ rfl) (h0.at_ 22 _ rfl) ?_
 intro v w2 r2 s2'
 refine hK.out _ _ s2' (fun hS0=>?_)
 rw [show (oPF 8).dst=some 23 from by kernel_rfl]
 replace h0:=h0.put (x:=some 23) rfl (d:=23) (by decide) (v)
 refine wpAnyH_ready (rs:=[15]) (by kernel_rfl) (by simp) (AllReadyH.cons (o:=oPF 15) (pfReg_get rfl) (fun K hK=>?_) AllReadyH.nil)
 rw [if_pos (show Region.wanted (oPF 15) _=true from rfl)]
 refine wp_callU (show (oPF 15).op = .call { callee:=.value (.func 65),args:=#[.tmp 25,.tmp 29],argTypes:=#[124,124] } from by kernel_rfl) Tryz.func65 (by kernel_rfl) (by kernel_rfl) ?_
 simp only [List.map_toArray,List.map_cons,List.map_nil,h0.at_ 25 _ rfl,h0.at_ 29 _ rfl]
 refine (h3 v w2 r2).mono ?_
 rintro e w3 ⟨A3,k3,c3,rfl,r3,r4,s3'⟩
 refine hK.out _ _ s3' (fun hS0=>?_)
 rw [show (oPF 15).dst=some 30 from by kernel_rfl]
 replace h0:=h0.put (x:=some 30) rfl (d:=30) (by decide) (.slice A3 k3 c3)
 refine wpAnyH_ready (rs:=[16]) (by kernel_rfl) (by simp) (AllReadyH.cons (o:=oPF 16) (pfReg_get rfl) (fun K hK=>?_) AllReadyH.nil)
 rw [if_pos (show Region.wanted (oPF 16) _=true from rfl)]
 refine wp_bs1 (show (oPF 16).op = .buildSlice 25 1 #[(0,.tmp 30)] from by kernel_rfl) (h0.at_ 30 _ rfl) ?_
 refine hK.out _ _ (hSa _ _ s3') (fun hS0=>?_)
 rw [show (oPF 16).dst=some 31 from by kernel_rfl]
 replace h0:=h0.put (x:=some 31) rfl (d:=31) (by decide) (.slice (some ⟨w3.heap.size,0,none⟩) 1 1)
 refine wpAnyH_ready (rs:=[17]) (by kernel_rfl) (by simp) (AllReadyH.cons (o:=oPF 17) (pfReg_get rfl) (fun K hK=>?_) AllReadyH.nil)
 rw [if_pos (show Region.wanted (oPF 17) _=true from rfl)]
 refine h4 v _ w3 _ _ r3 r4 (h0.at_ 24 _ rfl) (h0.at_ 31 _ rfl) ?_
 intro u w4 r5 s4'
 refine hK.out _ _ s4' (fun hS0=>?_)
 rw [show (oPF 17).dst=some 32 from by kernel_rfl]
 replace h0:=h0.put (x:=some 32) rfl (d:=32) (by decide) (u)
 refine takeB h0 hS0 hQ 18 2 _ (v) (show isB pfReg 18 2 (.assign (.tmp 23)) from by unfold isB;kernel_rfl) (by kernel_rfl) (fun o e w hw=>by simp [execOp,e,h0.at_ 23 _ rfl]) fun a18 e18 h0=>?_
 refine takeB h0 hS0 hQ 19 3 _ (u) (show isB pfReg 19 3 (.assign (.tmp 32)) from by unfold isB;kernel_rfl) (by kernel_rfl) (fun o e w hw=>by simp [execOp,e,h0.at_ 32 _ rfl]) fun a19 e19 h0=>?_
 refine wpAnyH_done (by kernel_rfl) (h v u w4 _ r5 ?_) _
 subst e19 e18 e14 e13 e12 e11 e10 e9 e5 e4 e3 e2 e1 e0
 exact ⟨_,_,_,_,_,_,_,_,_,_,_,_,_,_,_,_,_,_,rfl⟩
def GivesPF (w:World) (n:Nat) (sc pd:Nat→List (Option Nat)) (e:Ending) (w':World):Prop:=Fr nope w w'∧∃ A c D d,e = .returned (.tuple #[.slice A n c,.slice D n d])∧SuccAt w' A n sc∧SuccAt w' D n pd
set_option maxHeartbeats 4000000 in
theorem plainFlow_calls (w:World) (fs:Nat→Option Nat) (ns:List PN) (fb:Nat) (f:Fn) (nds:List Nd) (rs:List Rec) (cms:List (Nat × List ByteArray)) (B:Nat) (X:Bool→Nat→List Value) (sc pd:Nat→List (Option Nat))
  (st:FState w fs ns fb f nds rs cms) (L:Links w B rs X) (hl:nds.length≤1048576)
  (hX:∀ k,k < rs.length→X true k=(sc k).map (fun o=>fvI (blk (rs.map (·.b)) o))∧X false k=(pd k).map (fun o=>fvI (blk (rs.map (·.b)) o)))
  (hb:∀ k,k < rs.length→(∀ j,some j∈sc k→j < rs.length)∧(∀ j,some j∈pd k→j < rs.length)) (hbl:∀ k,k < rs.length→(sc k).length≤1073741824∧(pd k).length≤1073741824):
  Calls Tryz.prog 33 #[ptr fb] w (GivesPF w rs.length sc pd):=by
 obtain ⟨A,c,hnn,_,_⟩:=own_slice st.nodes
 have hrl:rs.length≤nds.length:=by
  have:=st.mt.insOf
  have h2:=insOf_le nds
  rw [this,List.length_map] at h2
  exact h2
 have hSn:Sl w A nds.length (nds.map Nd.val):=by have h:=st.nodes;rw [hnn] at h;exact own_Sl h
 have hc5:=st.fn.c5
 rw [hnn] at hc5
 have hI:=Instructions_calls w fb A c nds hc5 hSn (by omega)
 rw [st.mt.insOf] at hI
 have hnd:∀ (j k b:Nat),(rs.map (·.b))[j]? = some b→(rs.map (·.b))[k]? = some b→j=k:=by
  intro j k b h1 h2
  rw [List.getElem?_map] at h1 h2
  obtain ⟨x,hx,rfl⟩:=Option.map_eq_some_iff.1 h1
  obtain ⟨y,hy,e⟩:=Option.map_eq_some_iff.1 h2
  exact st.inj hx hy e.symm
 have hlv:Live_ w (rs.map (·.b)):=fun b hb=>by
  obtain ⟨r,hr,rfl⟩:=List.mem_map.1 hb
  exact ⟨_,_,(st.recs r hr).1.own.at_⟩
 have hbsl:(rs.map (·.b)).length=rs.length:=List.length_map ..
 have hcells:∀ (k:Nat) (r:Rec),rs[k]? = some r→∃ B1 e1 B2 e2,(∀ W,Fr nope w W→W.cell? ⟨r.b,11,none⟩=some (.slice B1 (sc k).length e1)∧W.cell? ⟨r.b,10,none⟩=some (.slice B2 (pd k).length e2)) ∧
   Sl w B1 (sc k).length ((sc k).map fun o=>fvI (blk (rs.map (·.b)) o))∧Sl w B2 (pd k).length ((pd k).map fun o=>fvI (blk (rs.map (·.b)) o)):=by
  intro k r hr
  have hk:=(List.getElem?_eq_some_iff.1 hr).1
  obtain ⟨x1,x2⟩:=hX k hk
  have r1:=L.row true k r hr
  have r2:=L.row false k r hr
  rw [x1,List.length_map] at r1
  rw [x2,List.length_map] at r2
  obtain ⟨B1,e1,hB1,_,_⟩:=own_slice r1
  obtain ⟨B2,e2,hB2,_,_⟩:=own_slice r2
  have hat:=(st.recs r (List.mem_of_getElem? hr)).1.own.at_
  refine ⟨B1,e1,B2,e2,fun W hW=>?_,?_,?_⟩
  ·have:=fun j=>cell_of_row _ _ j _ _ (0,0) (hW.heap hat (fun x=>x))
   exact ⟨(this 11).trans (congrArg some hB1),(this 10).trans (congrArg some hB2)⟩
  ·rw [hB1] at r1;exact own_Sl r1
  ·rw [hB2] at r2;exact own_Sl r2
 obtain ⟨bs,hbs⟩:∃ bs,bs=rs.map (·.b):=⟨_,rfl⟩
 rw [← hbs] at hI hnd hbsl hcells hlv
 have hrb:∀ (k:Nat) (r:Rec),rs[k]? = some r→bs[k]? = some r.b:=fun k r h=>by rw [hbs,List.getElem?_map,h];rfl
 obtain ⟨n,hn⟩:∃ n,n=rs.length:=⟨_,rfl⟩
 rw [← hn] at hrl hbsl hb hbl ⊢
 have hgo:∀ k,k < n→∃ rb B1 e1 B2 e2,bs[k]? = some rb∧(∀ W,Fr nope w W→W.cell? ⟨rb,11,none⟩=some (.slice B1 (sc k).length e1)∧W.cell? ⟨rb,10,none⟩=some (.slice B2 (pd k).length e2)) ∧
   Sl w B1 (sc k).length ((sc k).map fun o=>fvI (blk bs o))∧Sl w B2 (pd k).length ((pd k).map fun o=>fvI (blk bs o)):=fun k hk=>by
  obtain ⟨r,hr⟩:∃ r,rs[k]? = some r:=⟨_,List.getElem?_eq_getElem (by omega)⟩
  obtain ⟨B1,e1,B2,e2,h1,h2,h3⟩:=hcells k r hr
  exact ⟨r.b,B1,e1,B2,e2,hrb k r hr,h1,h2,h3⟩
 clear hcells hrb hX L st hSn hc5 hnn
 replace hgo:=Lib.hid hgo
 replace hnd:=Lib.hid hnd
 replace hb:=Lib.hid hb
 replace hbl:=Lib.hid hbl
 replace hbs:=Lib.hid hbs
 replace hn:=Lib.hid hn
 have hbn:bs.length≤1048576:=by omega
 unfold ptr
 go_enter Tryz.func33,Tryz.ntmps33
 go_wp2_with fail
 refine hI.mono ?_
 rintro e w1 ⟨v,rfl,hown,hf1⟩
 obtain ⟨Ai,ci,rfl,_,_⟩:=own_slice hown
 rw [List.length_map,hbsl] at hown ⊢
 have hSi:Sl w1 Ai bs.length (bs.map ptr):=by rw [hbsl];exact own_Sl hown
 clear hown hI
 go_wp2
 go_loopg [2,3,11] n (fun m c2 c3 c11 wr=>∃ (k:Nat) (A1:Option Addr) (d1:Nat) (A2:Option Addr) (d2:Nat) (v1 v2:List Value),k≤n∧c11 = .int .i64 (k:Int)∧c2 = .slice A1 k d1∧c3 = .slice A2 k d2∧wr.ownsRow w1.heap.size 67 1 (.slice A1 k d1) k v1∧wr.ownsRow w1.heap.size 67 1 (.slice A2 k d2) k v2∧Hid (IntV wr v1 ((List.range k).map sc))∧Hid (IntV wr v2 ((List.range k).map pd)) ∧
  Hid (∀ b,(Value.slice A1 k d1).ownBlock=some b→(Value.slice A2 k d2).ownBlock≠some b)∧Fr nope w1 wr∧m=n - k)
 case atStart=>exact ⟨0,none,0,none,0,[],[],Nat.zero_le _,rfl,rfl,rfl,own_nil _ _ _ _,own_nil _ _ _ _,Lib.hid ⟨rfl,by simp⟩,Lib.hid ⟨rfl,by simp⟩,Lib.hid (by simp [Value.ownBlock]),Fr.refl _ _,rfl⟩
 case round=>
  obtain ⟨k,A1,d1,A2,d2,v1,v2,hk,rfl,rfl,rfl,ho1,ho2,ht1,ht2,hdj,hf,rfl⟩:=hrel
  by_cases hlt:k < n
  ·obtain ⟨rb,B1,e1,B2,e2,hrb,hcs,hs1,hs2⟩:=hgo.out k hlt
   obtain ⟨b,off,u,hAe,hbl',hu,hc⟩:=(hSi.nope hf).at_ (show k < bs.length by omega)
   rw [List.getElem?_map,hrb] at hu
   injection hu with hu
   subst hu
   unfold ptr at hc
   have hll:=hbl.out k hlt
   have hbb:=hb.out k hlt
   rw [← hbsl] at hbb
   have hP1:=fun W (hW:Fr nope w1 W)=>places_calls W Ai B1 ci e1 bs (hSi.nope hW) hbn (hlv.nope (hf1.then hW)) hnd.out (sc k) hbb.1 (hs1.nope (hf1.then hW)) hll.1
   have hP2:=fun W (hW:Fr nope w1 W)=>places_calls W Ai B2 ci e2 bs (hSi.nope hW) hbn (hlv.nope (hf1.then hW)) hnd.out (pd k) hbb.2 (hs2.nope (hf1.then hW)) hll.2
   rw [hbsl] at hP1 hP2
   have hT1:=Lib.hid (range_snoc sc k)
   have hT2:=Lib.hid (range_snoc pd k)
   have hcs':∀ W,Fr nope w1 W→W.cell? ⟨rb,11,none⟩=some (.slice B1 (sc k).length e1)∧W.cell? ⟨rb,10,none⟩=some (.slice B2 (pd k).length e2):=fun W hW=>hcs W (hf1.then hW)
   obtain ⟨s,hs⟩:∃ s,s=sc k:=⟨_,rfl⟩
   obtain ⟨p,hp⟩:∃ p,p=pd k:=⟨_,rfl⟩
   rw [← hs] at hP1 hT1 hcs'
   rw [← hp] at hP2 hT2 hcs'
   replace hcs':=Lib.hid hcs'
   replace hP1:=Lib.hid hP1
   replace hP2:=Lib.hid hP2
   replace hs:=Lib.hid hs
   replace hp:=Lib.hid hp
   clear hcs hs1 hs2 hrb hbb hll hgo
   subst hAe
   have hsz:=hf.size
   have hdr:=hf.drew
   have hd:=(Fr.refl nope wr).drew
   have hbo1:=own_base ho1
   have hbo2:=own_base ho2
   have hgrow:∀ W,Fr nope w1 W→w1.heap.size≤W.heap.size:=fun W h=>h.size
   go_wp2_with fail
   refine rgPF (S:=fun W=>Fr nope w1 W) (b:=rb) (B1:=B1) (n1:=s.length) (m1:=e1) (B2:=B2) (n2:=p.length) (m2:=e2)
    (R1:=fun y W=>Fr nope wr W∧Fr nope w1 W∧∃ A5 c5,y = .slice A5 s.length c5∧Rw W 3 1 A5 s.length (s.map oV))
    (R2:=fun v W=>Fr nope w1 W∧∃ A6 c6 x1,v = .slice A6 (k+1) c6∧W.ownsRow w1.heap.size 67 1 (.slice A6 (k+1) c6) (k+1) x1∧IntV W x1 ((List.range (k+1)).map sc)∧W.ownsRow w1.heap.size 67 1 (.slice A2 k d2) k v2∧IntV W v2 ((List.range k).map pd)∧∀ b,(Value.slice A6 (k+1) c6).ownBlock=some b→(Value.slice A2 k d2).ownBlock≠some b)
    (R3:=fun v W=>Fr nope w1 W∧∃ A6 c6 x1,v = .slice A6 (k+1) c6∧W.ownsRow w1.heap.size 67 1 (.slice A6 (k+1) c6) (k+1) x1∧IntV W x1 ((List.range (k+1)).map sc)∧W.ownsRow w1.heap.size 67 1 (.slice A2 k d2) k v2∧IntV W v2 ((List.range k).map pd)∧∀ b,(Value.slice A6 (k+1) c6).ownBlock=some b→(Value.slice A2 k d2).ownBlock≠some b)
    (R4:=fun y W=>∃ A7 c7,y = .slice A7 p.length c7∧Rw W 3 1 A7 p.length (p.map oV))
    (R5:=fun v u W=>Fr nope w1 W∧∃ A6 c6 A8 c8 x1 x2,v = .slice A6 (k+1) c6∧u = .slice A8 (k+1) c8∧W.ownsRow w1.heap.size 67 1 (.slice A6 (k+1) c6) (k+1) x1∧W.ownsRow w1.heap.size 67 1 (.slice A8 (k+1) c8) (k+1) x2∧IntV W x1 ((List.range (k+1)).map sc)∧IntV W x2 ((List.range (k+1)).map pd)∧∀ b,(Value.slice A6 (k+1) c6).ownBlock=some b→(Value.slice A8 (k+1) c8).ownBlock≠some b)
    ((((Bun.nil rfl rfl).cons 6 rfl).cons 4 rfl).cons 3 rfl |>.cons 2 rfl) (fun d _ _ _ _ h=>by cases d<;>simpa [Exit.inBlock,Exit.then,bodyPost,Act.put] using h) hdr (fun W hW=>(hcs'.out W hW).1) (fun W hW=>(hcs'.out W hW).2) (fun W o hW=>hW.alloc o) ?_ ?_ ?_ ?_ ?_
   ·refine (hP1.out _ hdr).mono ?_
    rintro e w5 ⟨hf5,A5,c5,rfl,hown5⟩
    exact ⟨_,_,_,rfl,⟨hd.then hf5,hdr.then hf5,A5,c5,rfl,Rw.of_own hown5⟩,hdr.then hf5⟩
   ·rintro y w5 a K ⟨hq5,hn5,A5,c5,rfl,hr5⟩ f15 f22 hK
    have hal:=(Fr.refl nope w5).alloc (.cells #[.slice A5 s.length c5] 67)
    have ho15:=own_fr (own_fr ho1 hq5 (fun _ _ x=>x)) hal (fun _ _ x=>x)
    have ho25:=own_fr (own_fr ho2 hq5 (fun _ _ x=>x)) hal (fun _ _ x=>x)
    have hg:=hgrow _ (hn5.alloc (.cells #[.slice A5 s.length c5] 67))
    refine wp_app (o:=oPF 8) rfl Tryz.underlying25 infoInts rfl (by omega) (v:=.slice A1 k d1) f15 ho15 f22 (news:=[.slice A5 s.length c5]) rfl (one_new _ _ _ _ rfl) (by simp [Value.oneCell']) (by simp only [maxLen];omega) (by omega) hg ?_
    intro v w6 hown6 hf6 hb6
    obtain ⟨A6,c6,rfl,_,_⟩:=own_slice hown6
    have hS6:NoT [3] _ (fun b=>(Value.slice A1 k d1).ownBlock=some b):=NoT.own ho15 (by decide)
    have hn6:Fr nope w1 w6:=(hn5.alloc _).then_new hf6 (fun x hx e=>by have:=hbo1 x e;omega)
    refine hK _ _ ⟨hn6,A6,c6,_,rfl,hown6,?_,own_fr ho25 hf6 (fun b hb e=>hdj.out b e hb),?_,?_⟩ hn6
    ·rw [hT1.out]
     exact ((IntV.snoc (ht1.out.frT hq5 (NoT.nope _ _)) hr5).frT hal (NoT.nope _ _)).frT hf6 hS6
    ·exact ((ht2.out.frT hq5 (NoT.nope _ _)).frT hal (NoT.nope _ _)).frT hf6 hS6
    ·intro b hb hb2
     rcases hb6 with e | e
     ·rw [hb] at e;exact hdj.out b e.symm hb2
     ·rw [hb] at e
      injection e with e
      have:=own_lt ho25 b hb2
      omega
   ·rintro v w6 ⟨hn6,A6,c6,x1,rfl,g1,g2,g3,g4,g5⟩
    refine (hP2.out _ hn6).mono ?_
    rintro e w7 ⟨hf7,A7,c7,rfl,hown7⟩
    exact ⟨_,_,_,rfl,⟨hn6.then hf7,A6,c6,x1,rfl,own_fr g1 hf7 (fun _ _ x=>x),g2.frT hf7 (NoT.nope _ _),own_fr g3 hf7 (fun _ _ x=>x),g4.frT hf7 (NoT.nope _ _),g5⟩,⟨A7,c7,rfl,Rw.of_own hown7⟩,hn6.then hf7⟩
   ·rintro v y w7 a K ⟨hn7,A6,c6,x1,rfl,g1,g2,g3,g4,g5⟩ ⟨A7,c7,rfl,hr7⟩ f24 f31 hK
    have hal:=(Fr.refl nope w7).alloc (.cells #[.slice A7 p.length c7] 67)
    have ho17:=own_fr g1 hal (fun _ _ x=>x)
    have ho27:=own_fr g3 hal (fun _ _ x=>x)
    have hg:=hgrow _ (hn7.alloc (.cells #[.slice A7 p.length c7] 67))
    refine wp_app (o:=oPF 17) rfl Tryz.underlying25 infoInts rfl (by omega) (v:=.slice A2 k d2) f24 ho27 f31 (news:=[.slice A7 p.length c7]) rfl (one_new _ _ _ _ rfl) (by simp [Value.oneCell']) (by simp only [maxLen];omega) (by omega) hg ?_
    intro u w8 hown8 hf8 hb8
    obtain ⟨A8,c8,rfl,_,_⟩:=own_slice hown8
    have hS8:NoT [3] _ (fun b=>(Value.slice A2 k d2).ownBlock=some b):=NoT.own ho27 (by decide)
    have hn8:Fr nope w1 w8:=(hn7.alloc _).then_new hf8 (fun x hx e=>by have:=hbo2 x e;omega)
    refine hK _ _ ⟨hn8,A6,c6,A8,c8,x1,_,rfl,rfl,own_fr ho17 hf8 (fun b hb e=>g5 b hb e),hown8,?_,?_,?_⟩ hn8
    ·exact (g2.frT hal (NoT.nope _ _)).frT hf8 hS8
    ·rw [hT2.out]
     exact ((IntV.snoc g4 hr7).frT hal (NoT.nope _ _)).frT hf8 hS8
    ·intro b hb hb2
     rcases hb8 with e | e
     ·rw [hb2] at e;exact g5 b hb e.symm
     ·rw [hb2] at e
      injection e with e
      have:=own_lt ho17 b hb
      omega
   ·rintro v u w8 a ⟨hn8,A6,c6,A8,c8,x1,x2,rfl,rfl,g1,g2,g3,g4,g5⟩ ⟨x15,x16,x17,x18,x19,x20,x21,x22,x23,x24,x25,x26,x27,x28,x29,x30,x31,x32,rfl⟩
    simp only [putL,List.foldl_cons,List.foldl_nil,Act.put,List.setIfInBounds_toArray,List.set_cons_zero,List.set_cons_succ]
    replace g3:=Lib.hid g3
    replace g4:=Lib.hid g4
    replace g5:=Lib.hid g5
    go_wp2
    go_roundg (n - (k+1))
    case measure=>omega
    case rel=>exact ⟨k+1,A6,c6,A8,c8,x1,x2,by omega,by go_num,rfl,rfl,g1,g2,g3,g4,g5,hn8,rfl⟩
  ·have hkn:k=n:=by omega
   subst hkn
   go_wp2
   go_ret2
   exact ⟨hf1.then hf,A1,d1,A2,d2,rfl,SuccAt.of (Rw.of_own ho1) ht1.out,SuccAt.of (Rw.of_own ho2) ht2.out⟩
end
end Go.Proofs.YtbgblfiapecioaaGreat
