/- Part of the proof of a statement about pub-berthage: what its texts have in common. -/
import Derived.Deep.CutRange
import Derived.BigQuiet
import Derived.Test.YtpbeedabmjmdmaaGreatDoorP26
import Derived.Test.YtpbeedabmjmdmaaGreatDoorP28
import Derived.Test.YtpbeedabmjmdmaaGreatDoorP32
import Derived.Test.YtpbeedabmjmdmaaGreatDoorP33
namespace Go.Proofs.YtpbeedabmjmdmaaGreatDoor
section
open Go Go.RowKit Bth
set_option maxRecDepth 100000
def GivesFG (w:World) (ns:List PN) (e:Ending) (w':World):Prop:=Fr nope w w' ∧
 ((∃ A c D d sc,e = .returned (.tuple #[.slice A (insP ns).length c,.slice D (insP ns).length d,.bool true])∧GraphP ns sc∧SuccAt w' A (insP ns).length sc) ∨
  (e = .returned (.tuple #[.slice none 0 0,.slice none 0 0,.bool false])∧∀ sc,¬GraphP ns sc))
def brP (t:ByteArray→Option Nat) (p:PI):Option (List (Option Nat)):=if p.br then (targetP p.ops).bind fun s=>(t s).map fun b=>[some b] else some []
def nxP (n k:Nat) (p:PI):List (Option Nat):=if p.term || (p.br && !p.cond) then [] else [if k+1 < n then some (k+1) else none]
theorem succP_two (t:ByteArray→Option Nat) (n k:Nat) (p:PI):succP t n k p=(brP t p).map fun l=>l ++ nxP n k p:=rfl
theorem insP_at {w:World} {B:Nat} {s:SV} {ns:List PN} (hN:NodesAt w B s ns) (hok:ns.all okN=true):∀ p∈insP ns,p.At w B∧okI p=true:=by
 intro p hp
 obtain ⟨n,hn,rfl⟩:=insP_mem hp
 refine ⟨(hN.each n hn).ins,?_⟩
 obtain ⟨n',hn',e⟩:=List.mem_map.1 hp
 obtain ⟨h1,h2⟩:=List.mem_filter.1 hn'
 have h3:=List.all_eq_true.1 hok n' h1
 unfold okN at h3
 rw [if_pos (by simpa using h2),e] at h3
 exact h3
theorem bool1:∀ a b:Bool,(!a && !b)=false→(a || b)=true:=by decide
theorem bool2:∀ a b:Bool,(!a && !b)=true→(a || b)=false:=by decide
theorem nx1 {n k:Nat} {p:PI} (h:(!p.term && !(p.br && !p.cond))=false):nxP n k p=[]:=by
 unfold nxP;rw [bool1 _ _ h];rfl
theorem nx2 {n k:Nat} {p:PI} (h:(!p.term && !(p.br && !p.cond))=true):nxP n k p=[if k+1 < n then some (k+1) else none]:=by
 unfold nxP;rw [bool2 _ _ h];rfl
set_option maxHeartbeats 1000000 in
theorem FlowGraph_calls (w:World) (B:Nat) (s:SV) (ns:List PN) (hN:NodesAt w B s ns) (hok:ns.all okN=true):Calls Tryz.prog 16 #[s.val] w (GivesFG w ns):=by
 have hLT:=LabelTargets_calls w B s ns hN hok
 have hI:=fun W (hW:Fr nope w W)=>Instrs_calls W B s ns (hN.fr hW (fun _ _ x=>x))
 have hat:=insP_at hN hok
 have hlen:(insP ns).length≤1048576:=by
  have h1:=hN.few
  have:(insP ns).length≤ns.length:=by unfold insP;rw [List.length_map];exact List.length_filter_le _ _
  omega
 obtain ⟨A,n,c⟩:=s
 simp only [SV.val] at hLT hI ⊢
 clear hN hok
 replace hI:=Lib.hid hI
 replace hat:=Lib.hid hat
 go_enter Tryz.func16,Tryz.ntmps16
 go_wp2_with fail
 refine hLT.mono ?_
 rintro e w1 ⟨hf1,⟨AT,cT,T,st,rfl,hT,hTc,hTl,hrun,hpend,hlk⟩ | ⟨rfl,hbad⟩⟩
 rotate_left
 ·replace hbad:=Lib.hid hbad
  go_wp2
  go_ret3
  exact ⟨hf1,.inr ⟨rfl,fun sc ⟨s,h1,h2,_⟩=>hbad.out s h1 h2⟩⟩
 replace hrun:=Lib.hid hrun
 replace hpend:=Lib.hid hpend
 replace hlk:=Lib.hid hlk
 go_wp2_with fail
 refine (hI.out _ hf1).mono ?_
 rintro e w2 ⟨hf2,Aa,ca,rfl,hins⟩
 have hT2:=Rw.nope hT hf2
 have hn2:=hf1.then hf2
 obtain ⟨is,his⟩:∃ is,is=insP ns:=⟨_,rfl⟩
 have hno:(∃ (k:Nat) (p:PI),is[k]? = some p∧succP st.t st.n k p=none)→∀ sc,¬GraphP ns sc:=by
  rintro ⟨k,p,h1,h2⟩ sc ⟨s,h3,_,h4⟩
  rw [hrun.out] at h3
  injection h3 with h3
  subst h3
  rw [his] at h1
  rw [h4 k p h1] at h2
  cases h2
 have hnn:st.n=is.length:=by rw [his];exact (lpRun_facts hrun.out).1
 rw [← his] at hins hlen hat ⊢
 replace hno:=Lib.hid hno
 replace his:=Lib.hid his
 replace hnn:=Lib.hid hnn
 clear hT hI
 obtain ⟨ii,hii,hzz⟩:=Option.map_eq_some_iff.1 infoInts
 simp only [Prod.mk.injEq] at hzz
 obtain ⟨hz,hz1,hz2⟩:=hzz
 go_wp2_with (refine wpList_make_full w2 rfl _ _ 59 rfl w.heap.size 98 ii _ 1 Tryz.underlying59 hii hz hz1 .i64 .i64 (is.length:Int) (is.length:Int) is.length rfl rfl rfl rfl (by rw [hz2];omega) (by simp only [maxLen];omega) hn2.size ?hmk)
 case hmk=>
  intro w3 hown3 hgr3
  have hf3:Fr nope w2 w3:=(Fr_of_grown hgr3).mono (fun x _ e=>by cases e)
  have hsz3:=hf3.size
  have hsz2:=hn2.size
  have hlt3:w2.heap.size < w3.heap.size:=own_lt hown3 _ rfl
  have hPr:∀ base,Prd w3 base w2.heap.size is.length 0:=fun base=>prd_new (by rw [Nat.mul_one];exact hown3)
  have hT3:=Rw.nope hT2 hf3
  have hins3:=Rw.nope hins hf3
  have hn3:=hn2.then hf3
  clear hown3 hgr3 hii hz hz1 hz2 hT2 hins
  go_wp2
  go_loopg [2,3,4,32] is.length (fun m c2 c3 c4 c32 wr=>c3 = .slice (some ⟨w2.heap.size,0,none⟩) is.length is.length∧c4 = .bool true∧∃ (k:Nat) (A2:Option Addr) (d2:Nat) (vs:List Value) (ls:List (List (Option Nat))),k≤is.length∧c32 = .int .i64 (k:Int)∧c2 = .slice A2 k d2∧wr.ownsRow w3.heap.size 98 1 (.slice A2 k d2) k vs∧Hid (SccV wr vs ls)∧Hid (ls.length=k∧∀ (j:Nat) (p:PI),j < k→is[j]? = some p→succP st.t st.n j p=ls[j]?)∧Fr nope w3 wr∧m=is.length - k)
  case atStart=>exact ⟨rfl,rfl,0,none,0,[],[],Nat.zero_le _,rfl,rfl,own_nil _ _ _ _,Lib.hid ⟨rfl,by simp⟩,Lib.hid ⟨rfl,fun j p h=>by omega⟩,Fr.refl _ _,rfl⟩
  case round=>
   obtain ⟨rfl,rfl,k,A2,d2,vs,ls,hk,rfl,rfl,hown,hsv,hls,hf,rfl⟩:=hrel
   have hsz:=hf.size
   have hbo:=own_base hown
   by_cases hlt:k < is.length
   ·obtain ⟨p,hx⟩:∃ x,is[k]? = some x:=⟨_,List.getElem?_eq_getElem hlt⟩
    obtain ⟨b,off,hBe,hbl,hr⟩:=(Rw.nope hins3 hf).at_ PI.list_len hx
    subst hBe
    obtain ⟨hpa,hpo⟩:=hat.out p (List.mem_of_getElem? hx)
    have hpa:=hpa.fr (hn3.then hf) (fun _ _ x=>x)
    replace hx:=Lib.hid hx
    go_upto_if 38 with (first
     | (refine wpList_load_mid rfl _ _ rfl b (off+k*10) rfl p.cells.toList _ hr Tryz.underlying38 rfl (by kernel_rfl) ?_)
     | (refine wpList_storeRow (b:=wr.heap.size) (cells:=p.cells) rfl rfl rfl rfl (heap_alloc_new _ _) rfl (by kernel_rfl) (by kernel_rfl) ?_;intro w4 hb4 hf4;have hn4:Fr nope wr w4:=((Fr.refl nope wr).alloc _).then_new hf4 (fun x hx e=>by omega);have hb5:=cell_of_row _ _ 5 _ _ (0,0) hb4;have hb6:=cell_of_row _ _ 6 _ _ (0,0) hb4;replace hb5:w4.cell? ⟨wr.heap.size,5,none⟩=some (.bool p.term):=hb5;replace hb6:w4.cell? ⟨wr.heap.size,6,none⟩=some (.bool p.br):=hb6))
    have hpa4:=hpa.fr hn4 (fun _ _ x=>x)
    have hnone:brP st.t p=none→∀ sc,¬GraphP ns sc:=fun h=>hno.out ⟨k,p,hx.out,by rw [succP_two,h];rfl⟩
    have hsz4:=hn4.size
    replace hnone:=Lib.hid hnone
    have hw4:Fr nope w w4:=(hn3.then hf).then hn4
    go_cut [2,3,4,9,10,11,12,32] from 32 to 83 (fun c2 c3 c4 c9 c10 c11 c12 c32 wx=>c2 = .slice A2 k d2∧c3 = .slice (some ⟨w2.heap.size,0,none⟩) is.length is.length∧c4 = .bool true∧c32 = .int .i64 (k:Int)∧∃ (l:List (Option Nat)) (A9:Option Addr) (d9:Nat),c9 = .slice A9 l.length d9∧brP st.t p=some l∧l.length≤1∧wx.ownsRow w4.heap.size 3 1 (.slice A9 l.length d9) l.length (l.map oV)∧Fr nope w4 wx)
    case first=>
     cases hbr:p.br with
     | false=>
      rw [hbr] at hb6
      have hbp:Hid (brP st.t p=some []):=Lib.hid (by simp [brP,hbr])
      clear hbr
      go_wp2
      go_meet
      exact ⟨rfl,rfl,rfl,rfl,[],none,0,rfl,hbp.out,by simp,own_nil _ _ _ _,Fr.refl _ _⟩
     | true=>
      rw [hbr] at hb6
      have hbp:brP st.t p=(targetP p.ops).bind fun s=>(st.t s).map fun b=>[some b]:=by simp [brP,hbr]
      replace hbp:=Lib.hid hbp
      have hTL:=spTargetLabel_calls w4 B p hpa4 hpo hbr
      clear hbr
      go_wp2_with (refine wpList_loadRow (b:=wr.heap.size) (cells:=p.cells) rfl rfl rfl hb4 Tryz.underlying38 rfl (by kernel_rfl) ?_)
      refine hTL.mono ?_
      rintro e w5 ⟨z1,bb,rfl,ht1,ht2,hf5⟩
      have hw5:=hw4.then hf5
      have hT5:=(((Rw.nope hT3 hf)).nope hn4).nope hf5
      go_wp2_with fail
      refine (flowAt_calls w5 AT cT T z1 hT5 (by omega)).mono ?_
      rintro e w6 ⟨z,rfl,hz,hf6⟩
      cases bb with
      | false=>
       have hend:=Lib.hid (hnone.out (by rw [hbp.out,ht2 rfl];rfl))
       clear hz ht1 ht2
       go_wp2
       go_ret3
       exact ⟨hw5.then hf6,.inr ⟨rfl,hend.out⟩⟩
      | true=>
       rcases hz with ⟨rfl,hz⟩ | ⟨k',b',rfl,hz1,hz⟩
       ·have hend:=Lib.hid (hnone.out (by rw [hbp.out,ht1 rfl,Option.bind_some,← hlk.out,hz];rfl))
        clear hz ht1 ht2
        have hneg:(-1:Int) < 0:=by omega
        go_wp2
        go_ret3
        exact ⟨hw5.then hf6,.inr ⟨rfl,hend.out⟩⟩
       ·have hbq:Hid (brP st.t p=some [some b']):=Lib.hid (by rw [hbp.out,ht1 rfl,Option.bind_some,← hlk.out,hz];rfl)
        obtain ⟨bt,offt,hAT,hbt,hrt⟩:=(Rw.nope hT5 hf6).at_ tgV_len hz1
        subst hAT
        have hct1:w6.cell? ⟨bt,offt+k'*2+1,none⟩=some (.int .i64 (b':Int)):=hrt 1 _ rfl
        have hkl:k' < T.length:=(List.getElem?_eq_some_iff.1 hz1).1
        have hk0:¬(k':Int) < 0:=by omega
        have hk1:(0:Int)≤(k':Int):=by omega
        have hk2:(k':Int) < (T.length:Int):=by omega
        have hsz6:=(hf5.then hf6).size
        clear hz ht1 ht2 hz1 hrt
        go_wp2_with (refine wpList_app (v:=.slice none 0 0) rfl rfl Tryz.underlying98 infoInt rfl (by omega) rfl (own_nil _ w4.heap.size _ _) rfl (news:=[.int .i64 (b':Int)]) rfl (one_new _ _ _ _ rfl) (by simp [Value.oneCell']) (by simp [maxLen]) (by simp) (by simp;omega) ?hk)
        case hk=>
         intro v7 w7 hown7 hf7 hb7
         obtain ⟨A7,c7,rfl,_,_⟩:=own_slice hown7
         clear hb7
         go_wp2
         go_meet
         exact ⟨rfl,rfl,rfl,rfl,[some b'],A7,c7,rfl,hbq.out,by simp,hown7,((hf5.then hf6).alloc _).then (hf7.mono (fun x _ h=>by simp [Value.ownBlock] at h))⟩
    case rest=>
     obtain ⟨rfl,rfl,rfl,rfl,l,A9,d9,rfl,hbp,hl1,ho9,hf9⟩:=hcut
     replace hbp:=Lib.hid hbp
     have hb5c:=hf9.cell hb5 (fun x=>x)
     have hb4c:=hf9.heap hb4 (fun x=>x)
     have hszc:=hf9.size
     have hbo9:=own_base ho9
     go_upto_region 16 with fail
     go_cut [32,68] from 32 to 83 (fun c32 c68 wx=>c32 = .int .i64 (k:Int)∧c68 = .bool (!p.term && !(p.br && !p.cond))∧Fr nope wc wx)
     case first=>
      cases hterm:p.term with
      | true=>
       rw [hterm] at hb5c
       replace hterm:=Lib.hid hterm
       clear hb4c
       go_wp2
       go_meet
       exact ⟨rfl,by rw [hterm.out];rfl,Fr.refl _ _⟩
      | false=>
       rw [hterm] at hb5c
       have hU:=spUncond_calls wc B p (hpa4.fr hf9 (fun _ _ x=>x)) hpo
       unfold GivesB PI.agg PI.cells at hU
       rw [hterm] at hU
       have hcj:=fun j=>cell_of_row _ _ j _ _ (0,0) hb4c
       simp only [PI.cells,hterm] at hcj
       replace hterm:=Lib.hid hterm
       clear hb4c
       go_wp2_with fail
       refine hU.mono ?_
       rintro e w5 ⟨rfl,hf5⟩
       clear hcj
       go_wp2
       go_meet
       exact ⟨rfl,by rw [hterm.out];simp,hf5⟩
     case rest=>
     obtain ⟨rfl,rfl,hf9'⟩:=hcut
     have hf9:=hf9.then hf9'
     have ho9:=own_fr ho9 hf9' (fun _ _ x=>x)
     have hszc:=hf9.size
     clear hb5c hb4c
     go_upto_if 68 with fail
     go_cut [9,13,32] from 32 to 83 (fun c9 c13 c32 wx=>c32 = .int .i64 (k:Int)∧∃ (l:List (Option Nat)) (A9:Option Addr) (d9:Nat),c9 = .slice A9 l.length d9∧succP st.t st.n k p=some l∧wx.ownsRow w4.heap.size 3 1 (.slice A9 l.length d9) l.length (l.map oV)∧Fr nope w4 wx)
     case first=>
      cases hu:(!p.term && !(p.br && !p.cond)) with
      | false=>
       have hs:Hid (succP st.t st.n k p=some l):=Lib.hid (by rw [succP_two,hbp.out,nx1 hu,Option.map_some,List.append_nil])
       clear hu
       go_wp2
       go_meet
       exact ⟨rfl,l,A9,d9,rfl,hs.out,ho9,hf9⟩
      | true=>
        have hnx:nxP st.n k p=[if k+1 < st.n then some (k+1) else none]:=nx2 hu
        replace hnx:=Lib.hid hnx
        by_cases hkn:k+1=is.length
        ·have hs:Hid (succP st.t st.n k p=some (l ++ [none])):=Lib.hid (by rw [succP_two,hbp.out,hnx.out,hnn.out,if_neg (by omega)];rfl)
         have hkn':(k:Int)+1=(is.length:Int):=by omega
         have hkn2:(((k:Int)+1) == (is.length:Int))=true:=by simp [hkn']
         clear hu
         replace hkn:=Lib.hid hkn
         go_wp2_with (refine wpList_app (v:=.slice A9 l.length d9) rfl rfl Tryz.underlying98 infoInt rfl (by omega) rfl (own_fr ho9 ((Fr.refl nope _).alloc _) (fun _ _ x=>x)) rfl (news:=[.int .i64 (-1)]) rfl (one_new _ _ _ _ rfl) (by simp [Value.oneCell']) (by simp only [maxLen];omega) (by omega) (by simp;omega) ?hk)
         case hk=>
          intro v7 w7 hown7 hf7 hb7
          obtain ⟨A7,c7,rfl,_,_⟩:=own_slice hown7
          clear hb7
          go_wp2
          go_meet
          exact ⟨rfl,l ++ [none],A7,c7,by simp,hs.out,by rw [List.map_append,List.length_append];exact hown7,(hf9.alloc _).then_new hf7 (fun x hx e=>by have:=hbo9 x e;omega)⟩
        ·have hs:Hid (succP st.t st.n k p=some (l ++ [some (k+1)])):=Lib.hid (by rw [succP_two,hbp.out,hnx.out,hnn.out,if_pos (by omega)];rfl)
         have hkn':(k:Int)+1≠(is.length:Int):=by omega
         have hkn2:(((k:Int)+1) == (is.length:Int))=false:=by simp;omega
         clear hu
         replace hkn:=Lib.hid hkn
         go_wp2_with (refine wpList_app (v:=.slice A9 l.length d9) rfl rfl Tryz.underlying98 infoInt rfl (by omega) rfl (own_fr ho9 ((Fr.refl nope _).alloc _) (fun _ _ x=>x)) rfl (news:=[.int .i64 ((k:Int)+1)]) rfl (one_new _ _ _ _ rfl) (by simp [Value.oneCell']) (by simp only [maxLen];omega) (by omega) (by simp;omega) ?hk)
         case hk=>
          intro v7 w7 hown7 hf7 hb7
          obtain ⟨A7,c7,rfl,_,_⟩:=own_slice hown7
          clear hb7
          go_wp2
          go_meet
          exact ⟨rfl,l ++ [some (k+1)],A7,c7,by simp,hs.out,by rw [List.map_append,List.length_append];simpa [oV] using hown7,(hf9.alloc _).then_new hf7 (fun x hx e=>by have:=hbo9 x e;omega)⟩
     case rest=>
      obtain ⟨rfl,l2,A10,d10,rfl,hs2,ho10,hf10⟩:=hcut
      replace hs2:=Lib.hid hs2
      clear ho9 hf9 hbo9 hszc
      have hfr:=hn4.then hf10
      have hszd:=hfr.size
      have hownc:=own_fr hown hfr (fun _ _ x=>x)
      have hz1:∀ u∈[Value.slice A10 l2.length d10],u.oneCell'=true:=fun u hu=>by rw [List.mem_singleton.1 hu];rfl
      have hz2:k+1≤maxLen:=by unfold maxLen;omega
      have hz3:(k+1)*24≤140737488355328:=by omega
      have hal:=(Fr.refl nope wc).alloc (.cells #[.slice A10 l2.length d10] 98)
      have hz4:w3.heap.size≤(wc.alloc (.cells #[.slice A10 l2.length d10] 98)).heap.size:=by have:=hfr.size;have:=hf.size;have:=hal.size;omega
      have hownd:=own_fr hownc hal (fun _ _ x=>x)
      have hone:=one_new wc (.slice A10 l2.length d10) 98 _ rfl
      go_wp2_with (refine wpList_app (v:=.slice A2 k d2) rfl rfl Tryz.underlying59 infoInts rfl (Nat.lt_succ_self 0) rfl hownd rfl (news:=[.slice A10 l2.length d10]) rfl hone hz1 hz2 hz3 hz4 ?hm)
      case hm=>
       intro v7 w7 hown7 hf7 hb7
       obtain ⟨A7,c7,rfl,_,_⟩:=own_slice hown7
       clear hb7
       have hS7:=NoT.own (T:=[3]) hownd (by decide)
       have hsva:=hsv.out.frT hfr (NoT.nope _ _)
       have hsvb:=hsva.snoc (c:=d10) (Rw.of_own ho10)
       have hsvc:=hsvb.frT hal (NoT.nope _ _)
       have hsv7:=Lib.hid (hsvc.frT hf7 hS7)
       have hls7:Hid ((ls ++ [l2]).length=k+1∧∀ (j:Nat) (p:PI),j < k+1→is[j]? = some p→succP st.t st.n j p=(ls ++ [l2])[j]?):=Lib.hid (by
        obtain ⟨q1,q2⟩:=hls.out
        refine ⟨by simp [q1],fun j q hj hq=>?_⟩
        by_cases e:j < k
        ·rw [List.getElem?_append_left (by omega)];exact q2 j q e hq
        ·obtain rfl:j=k:=by omega
         rw [List.getElem?_append_right (by omega),q1,Nat.sub_self]
         rw [hx.out] at hq
         injection hq with hq
         subst hq
         exact hs2.out)
       go_wp2
       go_roundg (is.length - (k+1))
       case measure=>omega
       case rel=>exact ⟨rfl,rfl,k+1,A7,c7,vs ++ [.slice A10 l2.length d10],ls ++ [l2],by omega,by go_num,rfl,hown7,hsv7,hls7,((hf.then hfr).alloc _).then_new hf7 (fun x hx e=>by have:=hbo x e;omega),rfl⟩
   ·have hke:k=is.length:=by omega
    subst hke
    have hbo:=own_base hown
    obtain ⟨wq,hwq⟩:∃ x,x=wr:=⟨_,rfl⟩
    subst hwq
    have hPq:=(hPr wq.heap.size).nope hf
    clear hPr
    have hnT:=hPq.noT
    obtain ⟨hl1,hl2⟩:=hls.out
    have hsv:=hsv.out
    replace hls:=Lib.hid hls
    go_wp2
    go_loopg [86] is.length (fun m c86 wx=>∃ i:Nat,i≤is.length∧c86 = .int .i64 (i:Int)∧Prd wx wq.heap.size w2.heap.size is.length (2*i)∧Fr (fun x=>x=w2.heap.size) wq wx∧m=is.length - i)
    case atStart=>exact ⟨0,Nat.zero_le _,rfl,hPq,Fr.refl _ _,rfl⟩
    case round=>
     obtain ⟨i,hi,rfl,hP,hfx,rfl⟩:=hrel
     have hownx:=own_fr hown hfx (fun b hb e=>by have:=hbo b hb;omega)
     by_cases hilt:i < is.length
     ·obtain ⟨l,hl⟩:∃ l,ls[i]? = some l:=⟨_,List.getElem?_eq_getElem (by omega)⟩
      obtain ⟨q,hq⟩:∃ x,is[i]? = some x:=⟨_,List.getElem?_eq_getElem hilt⟩
      have hsq:=hl2 i q hilt hq
      rw [hl] at hsq
      have hl2':=succP_len hsq
      have hlt':=succP_lt hsq (lpRun_facts hrun.out).2
      obtain ⟨u,hu⟩:∃ u,vs[i]? = some u:=⟨_,List.getElem?_eq_getElem (by rw [hsv.1];omega)⟩
      obtain ⟨Au,cu,rfl,hRu⟩:=hsv.2 i u l hu hl
      obtain ⟨g,hA2,hg,hcg⟩:=own_cells hownx (by omega)
      subst hA2
      have hcu:=hcg i _ hu
      have hcu2:wr.cell? ⟨g,0+i,none⟩=some (.slice Au l.length cu):=by rw [Nat.zero_add];exact hcu
      replace hl2:=Lib.hid hl2
      replace hlt':=Lib.hid hlt'
      replace hcg:=Lib.hid hcg
      replace hq:=Lib.hid hq
      replace hl:=Lib.hid hl
      replace hl1:=Lib.hid hl1
      replace hsq:=Lib.hid hsq
      have hszx:=hfx.size
      go_wp2
      go_loopg [93] l.length (fun m c93 wx=>∃ j:Nat,j≤l.length∧c93 = .int .i64 (j:Int)∧Prd wx wq.heap.size w2.heap.size is.length (2*i+j)∧Fr (fun x=>x=w2.heap.size) wq wx∧m=l.length - j)
      case atStart=>exact ⟨0,Nat.zero_le _,rfl,hP,hfx,rfl⟩
      case round=>
       obtain ⟨j,hj,rfl,hP2,hfy,rfl⟩:=hrel
       have hRy:=hRu.frT hfy hnT (by decide)
       have hszy:=hfy.size
       by_cases hjl:j < l.length
       ·obtain ⟨x,hx⟩:∃ x,l[j]? = some x:=⟨_,List.getElem?_eq_getElem hjl⟩
        obtain ⟨gx,ox,hAx,hgx,hcx⟩:=hRy.one (k:=j) (v:=oV x) (by rw [List.getElem?_map,hx];rfl)
        subst hAx
        have hneg:(-1:Int) < 0:=by omega
        cases x with
        | none=>
         have hcx':wr.cell? ⟨gx,ox+j,none⟩=some (.int .i64 (-1)):=hcx
         clear hcx
         go_wp2
         go_roundg (l.length - (j+1))
         case measure=>omega
         case rel=>exact ⟨j+1,by omega,by go_num,hP2.mono (by omega),hfy,rfl⟩
        | some s=>
         have hcx':wr.cell? ⟨gx,ox+j,none⟩=some (.int .i64 (s:Int)):=hcx
         have hsn:s < is.length:=by have:=hlt'.out s (List.mem_of_getElem? hx);have:=hnn.out;omega
         obtain ⟨Ap,lp,cp,xp,hcp,hlp,hop⟩:=hP2.at_ hsn
         have hzp:=hP2.frozen
         have hk1:(0:Int)≤(s:Int):=by omega
         have hk2:(s:Int) < (is.length:Int):=by omega
         have hba:w2.heap.size < wr.heap.size:=by omega
         clear hcx
         have hal:=(Fr.refl nope wr).alloc (.cells #[.int .i64 (i:Int)] 3)
         have hP3:=hP2.nope hal
         have hop3:=own_fr hop hal (fun _ _ x=>x)
         have hTp:NoT [98] (wr.alloc (.cells #[.int .i64 (i:Int)] 3)) (fun b=>(Value.slice Ap lp cp).ownBlock=some b):=NoT.own (T:=[98]) hop3 (by decide)
         go_wp2_with (refine wpList_app (v:=.slice Ap lp cp) rfl rfl Tryz.underlying98 infoInt rfl (by omega) rfl hop3 rfl (news:=[.int .i64 (i:Int)]) rfl (one_new _ _ _ _ rfl) (by simp [Value.oneCell']) (by simp only [maxLen];omega) (by omega) (by simp;omega) ?hk)
         case hk=>
          intro v7 w7 hown7 hf7 hb7
          obtain ⟨A7,c7,rfl,_,_⟩:=own_slice hown7
          have hst:=hP3.step (v':=.slice A7 (lp+1) c7) (l:=lp+1) hsn (hal.cell hcp (fun x=>x)) hown7 (by omega) hf7 (hb7.imp (fun x=>x) (fun x=>⟨_,x,by simp⟩)) hTp
          have hno7:¬(Value.slice Ap lp cp).ownBlock=some w2.heap.size:=hP3.notIn hTp
          have hc7:=hf7.cell (hal.cell hcp (fun x=>x)) hno7
          have hz7:=hP3.frozen7 hf7 hno7
          clear hb7
          go_wp2
          go_roundg (l.length - (j+1))
          case measure=>omega
          case rel=>
           have hba7:=own_base hop3
           exact ⟨j+1,by omega,by go_num,hst,((hfy.alloc _).then_new hf7 (fun x hx e=>by have:=hba7 x e;omega)).setCell (.inl rfl) _,rfl⟩
       ·go_wp2
        go_roundg (is.length - (i+1))
        case measure=>omega
        case rel=>exact ⟨i+1,by omega,by go_num,hP2.mono (by omega),hfy,rfl⟩
     ·go_wp2
      go_ret3
      refine ⟨?_,.inl ⟨A2,d2,some ⟨w2.heap.size,0,none⟩,is.length,fun k=>(ls[k]?).getD [],by rw [← his.out];rfl,?_,?_⟩⟩
      ·exact (hn3.then hf).then_new hfx (fun x hx e=>by omega)
      ·refine ⟨st,hrun.out,hpend.out,fun k p hk=>?_⟩
       rw [← his.out] at hk
       have hkl:=(List.getElem?_eq_some_iff.1 hk).1
       have hkk:ls[k]? = some ls[k]:=List.getElem?_eq_getElem (by omega)
       rw [hl2 k p hkl hk]
       simp only [hkk,Option.getD_some]
      ·rw [← his.out]
       refine ⟨vs,Rw.of_own hownx,fun k hk=>?_⟩
       obtain ⟨u,hu⟩:∃ u,vs[k]? = some u:=⟨_,List.getElem?_eq_getElem (by rw [hsv.1];omega)⟩
       obtain ⟨l,hl⟩:∃ l,ls[k]? = some l:=⟨_,List.getElem?_eq_getElem (by omega)⟩
       obtain ⟨A',c',rfl,hR⟩:=hsv.2 k u l hu hl
       refine ⟨A',c',?_,?_⟩
       ·simp only [hu,hl,Option.getD_some]
       ·simp only [hl,Option.getD_some];exact hR.frT hfx hnT (by decide)
end
section
open Go Go.RowKit Bth
set_option maxRecDepth 100000
def lfOf (is:List PI) (sc:Nat→List (Option Nat)):LF:=
 { n:=is.length,sc:=sc,W:=fun k=>match is[k]? with | some p=>wrT p | none=>[],R:=fun k=>match is[k]? with | some p=>rdT p | none=>[],U:=is.flatMap fun p=>(inGs p.canc p.inp p.out).map G.id }
theorem lfOf_rows {is:List PI} {sc:Nat→List (Option Nat)} : (List.range is.length).map (lfOf is sc).R=is.map rdT∧(List.range is.length).map (lfOf is sc).W=is.map wrT:=by
 constructor
 ·refine List.ext_getElem? fun k=>?_
  rw [List.getElem?_map,List.getElem?_map]
  by_cases h:k < is.length
  ·rw [List.getElem?_range h,List.getElem?_eq_getElem h]
   simp only [Option.map_some,lfOf,List.getElem?_eq_getElem h]
  ·rw [List.getElem?_eq_none (by simpa using h),List.getElem?_eq_none (by omega)];rfl
 ·refine List.ext_getElem? fun k=>?_
  rw [List.getElem?_map,List.getElem?_map]
  by_cases h:k < is.length
  ·rw [List.getElem?_range h,List.getElem?_eq_getElem h]
   simp only [Option.map_some,lfOf,List.getElem?_eq_getElem h]
  ·rw [List.getElem?_eq_none (by simpa using h),List.getElem?_eq_none (by omega)];rfl
def okA (is:List PI):Prop:=∀ p∈is,(∀ g∈inGs p.canc p.inp p.out,g.Ok)∧(∀ g∈outGs p.out,g.Ok)
theorem okA_of {w:World} {B:Nat} {is:List PI} (h:∀ p∈is,p.At w B∧okI p=true):okA is:=fun p hp=>by
 obtain ⟨h1,h2⟩:=h p hp
 obtain ⟨a,b⟩:=h1.okGs h2
 exact ⟨fun g hg=>(a g hg).2,fun g hg=>(b g hg).2⟩
theorem lfOf_flow {is:List PI} {sc:Nat→List (Option Nat)} (h:okA is):(lfOf is sc).flow=flowP is sc:=by
 have e1:(fun k=>tv ((lfOf is sc).R k))=useP is:=by
  funext k
  unfold useP lfOf
  cases hk:is[k]? with
  | none=>simp only [hk];rfl
  | some p=>simp only [hk];exact (tlOf_spec (h p (List.mem_of_getElem? hk)).1).2
 have e2:(fun k=>tv ((lfOf is sc).W k))=defP is:=by
  funext k
  unfold defP lfOf
  cases hk:is[k]? with
  | none=>simp only [hk];rfl
  | some p=>simp only [hk];exact (tlOf_spec (h p (List.mem_of_getElem? hk)).2).2
 unfold LF.flow
 rw [e1,e2]
 rfl
theorem tlOf_ids {gs:List G} {c:Nat} (h:ofGs gs c≠0):c∈gs.map G.id:=by
 unfold ofGs at h
 have key:∀ (gs:List G) (F:Nat→Nat),gs.foldl (fun F g=>orM F g.id g.spec) F c≠0→F c≠0∨c∈gs.map G.id:=by
  intro gs
  induction gs with
  | nil=>exact fun F h=>.inl h
  | cons g gs ih=>
   intro F h
   rw [List.foldl_cons] at h
   rcases ih _ h with h | h
   ·by_cases e:c=g.id
    ·exact .inr (by rw [e];simp)
    ·unfold orM at h
     rw [if_neg e] at h
     exact .inl h
   ·exact .inr (by rw [List.map_cons];exact List.mem_cons_of_mem _ h)
 rcases key gs _ h with h | h
 ·exact absurd rfl h
 ·exact h
theorem lfOf_ok {is:List PI} {sc:Nat→List (Option Nat)} (h:okA is) (hs:∀ k s,k < is.length→some s∈sc k→s < is.length):(lfOf is sc).Ok:=by
 refine ⟨fun k=>?_,fun k=>?_,hs,fun k c hk hc=>?_⟩
 ·unfold lfOf
  cases hk:is[k]? with
  | none=>simp only [hk];exact .nil
  | some p=>simp only [hk];exact (tlOf_spec (h p (List.mem_of_getElem? hk)).2).1
 ·unfold lfOf
  cases hk:is[k]? with
  | none=>simp only [hk];exact .nil
  | some p=>simp only [hk];exact (tlOf_spec (h p (List.mem_of_getElem? hk)).1).1
 ·unfold lfOf at hc
  have hk':is[k]? = some is[k]:=List.getElem?_eq_getElem hk
  simp only [hk'] at hc
  have hm:=List.mem_of_getElem? hk'
  have e:=(tlOf_spec (h _ hm).1).2
  unfold rdT at hc
  rw [e] at hc
  exact List.mem_flatMap.2 ⟨_,hm,tlOf_ids hc⟩
theorem SInv.live {is:List PI} {sc:Nat→List (Option Nat)} {I O:Nat→TL} (h:SInv (lfOf is sc) I O) (ha:okA is) {k c b:Nat} (hk:k < is.length) (hb:(tv (O k) c).testBit b=true):LiveOutP is sc k c b:=by
 have:=h.out k c b hk hb
 rw [lfOf_flow ha] at this
 exact this
theorem GraphP.lt {ns:List PN} {sc:Nat→List (Option Nat)} (h:GraphP ns sc):(∀ k s,k < (insP ns).length→some s∈sc k→s < (insP ns).length)∧∀ k,k < (insP ns).length→(sc k).length≤2:=by
 obtain ⟨s,h1,_,h3⟩:=h
 obtain ⟨e,h4⟩:=lpRun_facts h1
 refine ⟨fun k j hk hj=>?_,fun k hk=>succP_len (h3 k _ (List.getElem?_eq_getElem hk))⟩
 have:=succP_lt (h3 k _ (List.getElem?_eq_getElem hk)) h4 j hj
 omega
theorem LiveOutP.congr {is:List PI} {sc sc':Nat→List (Option Nat)} (h:∀ k,k < is.length→sc k=sc' k):LiveOutP is sc=LiveOutP is sc':=by
 have e:(flowP is sc).succ=(flowP is sc').succ:=by
  funext i s
  apply propext
  constructor
  ·rintro ⟨h1,h2,h3⟩
   refine ⟨h1,h2,?_⟩
   show some s∈sc' i
   rw [← h i h1];exact h3
  ·rintro ⟨h1,h2,h3⟩
   refine ⟨h1,h2,?_⟩
   show some s∈sc i
   rw [h i h1];exact h3
 unfold LiveOutP
 rw [e]
 rfl
end
section
open Go Go.RowKit Bth
set_option maxRecDepth 100000
def aid (l:List (Nat × Nat)) (id:Nat):Nat:=(ofPairs l id).getD id
theorem aid_take_eq {l:List (Nat × Nat)} {k id:Nat} {p:Nat × Nat} (h:l[k]? = some p) (e:id=p.1):aid (l.take (k+1)) id=p.2:=by
 unfold aid;rw [ofPairs_take h];simp [e]
theorem aid_take_ne {l:List (Nat × Nat)} {k id:Nat} {p:Nat × Nat} (h:l[k]? = some p) (e:¬id=p.1):aid (l.take (k+1)) id=aid (l.take k) id:=by
 unfold aid;rw [ofPairs_take h];simp [e]
theorem aid_zero {l:List (Nat × Nat)} {id:Nat} : aid (l.take 0) id=id:=by simp [aid,ofPairs]
set_option maxHeartbeats 1000000 in
theorem AllocatedID_calls (w:World) (A:Option Addr) (c:Nat) (l:List (Nat × Nat)) (id:Nat) (h:PairsAt w A l) (hl:l.length≤1000000000):
  Calls Tryz.prog 23 #[.slice A l.length c,.int .u32 (id:Int)] w fun e w'=>e = .returned (.int .u32 (aid l id:Int))∧Fr nope w w':=by
 go_enter Tryz.func23,Tryz.ntmps23
 go_wp2
 go_loopg [5] l.length (fun m c5 wx=>∃ (k:Nat) (z:Int),k≤l.length∧c5 = .int .i64 z∧z=(k:Int) - 1∧Hid (aid l id=aid (l.take k) id)∧wx=w∧m=k)
 case atStart=>
  refine ⟨l.length,_,Nat.le_refl _,rfl,rfl,Lib.hid (by rw [List.take_length]),rfl,rfl⟩
 case round=>
  obtain ⟨k,z,hk,rfl,hz,ha,rfl,hm⟩:=hrel
  rcases k with _ | k<;>subst hm
  ·have hn:¬(0:Int)≤z:=by omega
   have e:=ha.out
   rw [aid_zero] at e
   replace e:=Lib.hid e
   clear ha
   go_wp2
   go_ret
   exact ⟨by rw [e.out];rfl,Fr.refl _ _⟩
  ·obtain rfl:z=(k:Int):=by omega
   clear hz
   obtain ⟨p,hp⟩:∃ p,l[k]? = some p:=⟨_,List.getElem?_eq_getElem (by omega)⟩
   obtain ⟨b,hA,hb,hc⟩:=h (by omega)
   subst hA
   have hr:=hc k p hp
   have h0:wr.cell? ⟨b,k*2+0,none⟩=some (.int .u32 (p.1:Int)):=hr 0 _ rfl
   have h1:wr.cell? ⟨b,k*2+1,none⟩=some (.int .u32 (p.2:Int)):=hr 1 _ rfl
   have hkn:(0:Int)≤(k:Int):=by omega
   have hkl:(k:Int) < (l.length:Int):=by omega
   clear hc hr h
   rw [Nat.add_zero] at h0
   by_cases e:id=p.1
   ·have e2:=ha.out
    rw [aid_take_eq hp e] at e2
    have e3:((p.1:Int) == (id:Int))=true:=by simp [e]
    replace e2:=Lib.hid e2
    clear ha e
    go_wp2
    go_ret
    exact ⟨by rw [e2.out];rfl,Fr.refl _ _⟩
   ·have e2:=Lib.hid (ha.out.trans (aid_take_ne hp e))
    have e3:((p.1:Int) == (id:Int))=false:=beq_eq_false_iff_ne.2 (by omega)
    clear ha e
    go_wp2
    go_roundg k
    case measure=>omega
    case rel=>exact ⟨k,_,by omega,rfl,by go_num,e2,rfl,rfl⟩
end
section
open Go Go.RowKit Bth
set_option maxRecDepth 100000
set_option maxHeartbeats 1000000 in
theorem InputsKnown_calls (w:World) (B:Nat) (p:PI) (h:p.At w B) (hok:okI p=true):Calls Tryz.prog 38 #[p.agg] w (GivesB w (!p.canc || decide (1 < (gsOf p.inp).length))):=by
 have hps:=h.inp
 have hl:=h.few.2.2.1
 have hn:p.inpV.n=p.inp.length:=h.inp.1
 have hki:p.inp.all okP=true:=by
  unfold okI at hok
  simp only [Bool.and_eq_true] at hok
  exact hok.1.2
 clear h hok
 obtain ⟨opc,⟨A1,n1,c1⟩,suf,⟨A2,n2,c2⟩,ops,⟨A3,n3,c3⟩,inp,⟨A4,n4,c4⟩,ps,term,br,cond,canc,⟨A5,n5,c5⟩,isa⟩:=p
 simp only at hl hps hn hki
 subst hn
 have hI:=fun W (hW:Fr nope w W)=>irRegisters_calls W ⟨A3,inp.length,c3⟩ inp (hps.nope hW) hki hl
 simp only [PI.agg,PI.cells,SV.val] at hI ⊢
 replace hI:=Lib.hid hI
 clear hps
 cases canc with
 | false=>
  go_enter Tryz.func38,Tryz.ntmps38
  go_wp2_with fail
  go_ret
  exact ⟨rfl,(Fr.refl _ _).alloc _⟩
 | true=>
  go_enter Tryz.func38,Tryz.ntmps38
  go_wp2_with fail
  refine (hI.out _ ((Fr.refl _ _).alloc _)).mono ?_
  rintro e w1 ⟨hf1,A,c,rfl,hown⟩
  go_wp2
  go_ret
  refine ⟨congrArg (fun b=>Ending.returned (Value.bool b)) (?_:decide ((1:Int) < ((gsOf inp).length:Int))=(!true || decide (1 < (gsOf inp).length))),((Fr.refl _ _).alloc _).then hf1⟩
  rw [Bool.eq_iff_iff]
  simp
  omega
def opsL (p:PI):List (SV × List PO):=[(p.opsV,p.ops),(p.inpV,p.inp),(p.outV,p.out)]
def gsL (l:List (SV × List PO)):List G:=l.flatMap fun x=>gsOf x.2
theorem gsL_take {l:List (SV × List PO)} {k:Nat} {x:SV × List PO} (h:l[k]? = some x):gsL (l.take (k+1))=gsL (l.take k) ++ gsOf x.2:=by
 unfold gsL
 rw [List.take_add_one,h,List.flatMap_append]
 simp
theorem gsL_all (p:PI):gsL (opsL p)=p.gs:=by simp [gsL,opsL,PI.gs,List.append_assoc]
theorem opsL_at {w:World} {B:Nat} {p:PI} (h:p.At w B) (hok:okI p=true):∀ x∈opsL p,POsAt w x.1 x.2∧x.2.all okP=true∧x.2.length≤1048576:=by
 unfold okI at hok
 simp only [Bool.and_eq_true] at hok
 intro x hx
 simp only [opsL,List.mem_cons,List.not_mem_nil,or_false] at hx
 rcases hx with rfl | rfl | rfl
 ·exact ⟨h.ops,hok.1.1,h.few.2.1⟩
 ·exact ⟨h.inp,hok.1.2,h.few.2.2.1⟩
 ·exact ⟨h.out,hok.2,h.few.2.2.2.1⟩
set_option maxHeartbeats 1000000 in
theorem all_calls (w:World) (B:Nat) (p:PI) (h:p.At w B) (hok:okI p=true):Calls Tryz.prog 36 #[p.agg] w (GivesGs w p.gs):=by
 have hL:=opsL_at h hok
 have hcell:∀ (k:Nat) (x:SV × List PO),(opsL p)[k]? = some x → #[p.opsV.val,p.inpV.val,p.outV.val][k]? = some x.1.val:=by
  intro k x hx
  rcases k with _ | _ | _ | k<;>simp [opsL] at hx<;>subst hx<;>rfl
 have hlen:(opsL p).length=3:=rfl
 rw [← gsL_all]
 generalize opsL p=L at hL hcell hlen ⊢
 clear h hok
 obtain ⟨opc,⟨A1,n1,c1⟩,suf,⟨A2,n2,c2⟩,ops,⟨A3,n3,c3⟩,inp,⟨A4,n4,c4⟩,ps,term,br,cond,canc,⟨A5,n5,c5⟩,isa⟩:=p
 simp only [SV.val,PI.agg,PI.cells] at hcell ⊢
 replace hL:=Lib.hid hL
 replace hlen:=Lib.hid hlen
 go_enter Tryz.func36,Tryz.ntmps36
 go_wp2_with fail
 go_loopg [3,18] 3 (fun n d3 d18 wr=>∃ (k:Nat) (B2:Option Addr) (e2:Nat) (gs:List G),k≤3∧Hid (gs=gsL (L.take k))∧gs.length≤2097152*k∧d18 = .int .i64 (k:Int)∧d3 = .slice B2 gs.length e2∧wr.ownsRow w.heap.size 40 4 (.slice B2 gs.length e2) gs.length (gsCells gs)∧Fr nope w wr∧wr.heap[w.heap.size+1]? = some (.cells #[.slice A2 n2 c2,.slice A3 n3 c3,.slice A4 n4 c4] 36 (0,0))∧n=3 - k)
 case atStart=>
  refine ⟨0,none,0,[],Nat.zero_le _,Lib.hid rfl,Nat.le_refl _,rfl,rfl,own_nil _ _ _ _,((Fr.refl _ _).alloc _).alloc _,?_,rfl⟩
  have:=heap_alloc_new (w.alloc (Obj.cells #[.string opc,.slice A1 n1 c1,.slice A2 n2 c2,.slice A3 n3 c3,.slice A4 n4 c4,.bool term,.bool br,.bool cond,.bool canc,.slice A5 n5 c5] 38)) (Obj.cells #[.slice A2 n2 c2,.slice A3 n3 c3,.slice A4 n4 c4] 36)
  rw [show (w.alloc (Obj.cells #[.string opc,.slice A1 n1 c1,.slice A2 n2 c2,.slice A3 n3 c3,.slice A4 n4 c4,.bool term,.bool br,.bool cond,.bool canc,.slice A5 n5 c5] 38)).heap.size=w.heap.size+1 by simp] at this
  exact this
 case round=>
  obtain ⟨k,B2,e2,gs,hk,hgs,hgl,rfl,rfl,hown,hf,hbl,rfl⟩:=hrel
  have hsz:=hf.size
  by_cases hlt:k < 3
  ·obtain ⟨⟨⟨Ax,nx,cx⟩,ps⟩,hx⟩:∃ x,L[k]? = some x:=⟨_,List.getElem?_eq_getElem (by rw [hlen.out];exact hlt)⟩
   obtain ⟨hps,hko,hpl⟩:=hL.out _ (List.mem_of_getElem? hx)
   simp only at hps hko hpl
   obtain rfl:nx=ps.length:=hps.1
   have hck:=cell_of_row _ _ k _ _ (0,0) hbl
   rw [hcell k _ hx] at hck
   have hT:=Lib.hid (gsL_take hx)
   simp only at hck hT
   have hkn:(k:Int) < 3:=by omega
   have hkn0:(0:Int)≤(k:Int):=by omega
   replace hcell:=Lib.hid hcell
   clear hx
   go_wp2_with fail
   go_loopg [3,24] ps.length (fun n d3 d24 wx=>∃ (j:Nat) (D2:Option Addr) (f2:Nat) (gt:List G),j≤ps.length∧Hid (gt=gs ++ gsOf (ps.take j))∧gt.length≤gs.length+2*j∧d24 = .int .i64 (j:Int)∧d3 = .slice D2 gt.length f2∧wx.ownsRow w.heap.size 40 4 (.slice D2 gt.length f2) gt.length (gsCells gt)∧Fr nope w wx∧wx.heap[w.heap.size+1]? = some (.cells #[.slice A2 n2 c2,.slice A3 n3 c3,.slice A4 n4 c4] 36 (0,0))∧n=ps.length - j)
   case atStart=>exact ⟨0,B2,e2,gs,Nat.zero_le _,Lib.hid (by simp [gsOf]),by omega,rfl,rfl,hown,hf,hbl,rfl⟩
   case round=>
    clear hown hf hbl hsz hck
    obtain ⟨j,D2,f2,gt,hj,hgt,hgtl,rfl,rfl,hown,hf,hbl,rfl⟩:=hrel
    have hsz:=hf.size
    by_cases hjl:j < ps.length
    ·obtain ⟨b,off,hAe,hbb,hc⟩:=(hps.nope hf).2 (by omega)
     simp only at hAe
     subst hAe
     obtain ⟨p,hpk⟩:∃ p,ps[j]? = some p:=⟨_,List.getElem?_eq_getElem hjl⟩
     have hc:=hc j p hpk
     have hT2:=Lib.hid (gsOf_take hpk)
     have hokp:okP p=true:=List.all_eq_true.1 hko p (List.mem_of_getElem? hpk)
     have hpl2:=p.gs_len
     have hbo:=own_base hown
     clear hpk hps
     go_wp2_with (first
      | (refine wpList_load_mid rfl _ _ rfl b (off+j*24) rfl p.cells.toList _ hc Tryz.underlying45 rfl (by kernel_rfl) ?_)
      | (refine wpList_storeRow (b:=wr.heap.size) (cells:=p.cells) rfl rfl rfl rfl (heap_alloc_new _ _) rfl (by kernel_rfl) (by kernel_rfl) ?_;intro w2 hb2 hf2)
      | (refine wpList_loadRow (b:=wr.heap.size) (cells:=p.cells) rfl rfl rfl hb2 Tryz.underlying45 rfl (by kernel_rfl) ?_))
     have hn2:Fr nope wr w2:=((Fr.refl nope wr).alloc _).then_new hf2 (fun x hx e=>by omega)
     refine (OpRegisters_calls w2 p hokp).mono ?_
     rintro e w3 ⟨hf3,A9,c9,rfl,hown3⟩
     have hn3:=hn2.then hf3
     have hsz3:=hn3.size
     have hsrc:=(Rw.of_own hown3).src
     have hown4:=own_fr hown hn3 (fun _ _ x=>x)
     have hbl3:=hn3.heap hbl (fun x=>x)
     have hno:¬(Value.slice D2 gt.length f2).ownBlock=some (w.heap.size+1):=fun e=>NoT.own (T:=[36]) hown4 (by decide) _ _ _ _ e hbl3 (by decide)
     go_wp2_with (refine wpList_app (v:=.slice D2 gt.length f2) rfl rfl Tryz.underlying46 infoRg rfl (by omega) rfl hown4 rfl (news:=gsCells p.gs) ?ha hsrc (gsCells_one _) ?hd ?he ?hf ?hk)
     case ha=>exact gsCells_len _
     case hd=>simp only [maxLen];omega
     case he=>omega
     case hf=>omega
     case hk=>
      intro v4 w4 hown4 hf4 hb4
      obtain ⟨A8,c8,rfl,_,_⟩:=own_slice hown4
      clear hb4
      go_wp2
      go_roundg (ps.length - (j+1))
      case measure=>omega
      case rel=>exact ⟨j+1,A8,c8,gt ++ p.gs,by omega,Lib.hid (by rw [hT2.out,← List.append_assoc,← hgt.out]),by rw [List.length_append];omega,by go_num,by rw [List.length_append],by rw [List.length_append,gsCells_app];exact hown4,(hf.then hn3).then_new hf4 (fun x hx e=>by have:=hbo x e;omega),hf4.heap hbl3 hno,rfl⟩
    ·rw [take_all hjl] at hgt
     go_wp2
     go_roundg (3 - (k+1))
     case measure=>omega
     case rel=>exact ⟨k+1,D2,f2,gt,by omega,Lib.hid (by rw [hT.out,← hgs.out];exact hgt.out),by omega,by go_num,rfl,hown,hf,hbl,rfl⟩
  ·obtain rfl:k=3:=by omega
   have e:=hgs.out
   rw [← hlen.out,List.take_length] at e
   subst e
   go_wp2
   go_ret
   exact ⟨hf,B2,e2,rfl,hown⟩
end
end Go.Proofs.YtpbeedabmjmdmaaGreatDoor
