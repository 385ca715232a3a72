/- Row 2: bound nodes run as the nodes do: early. -/
import Derived.OwnWalk
import Derived.Test.YtjlfkgjmgghhiaaGreatP41
import Derived.Test.YtjlfkgjmgghhiaaGreatP50
import Derived.Test.YtjlfkgjmgghhiaaGreatR2A
import Derived.Test.YtjlfkgjmgghhiaaGreatR2B
namespace Go.Proofs.YtjlfkgjmgghhiaaGreat
section
open Go Go.RowKit Bth
set_option maxRecDepth 100000
theorem infoU64:(Tryz.prog.info? 83).map (fun i=>(i.zero,i.size,i.bytes))=some (some (.int .u64 0),1,8):=by kernel_rfl
def stepM (mx:Nat→Nat→Nat) (R W:Nat→List (Nat × Nat)) (M:MC) (p:Nat):MC:=(wrM mx (rdM mx M (R p) (p+1)) 0 (W p)).foldl setC M
def GivesRan (w:World) (b:Nat) (l:List Nat) (e:Ending) (w':World):Prop:=Fr (fun x=>x=b) w w'∧∃ A c,e = .returned (.tuple #[.slice A l.length c,.bool true])∧Rw w' 83 1 A l.length (l.map u64V)
theorem ranP_len (mx:Nat→Nat→Nat) (R W:Nat→List (Nat × Nat)):∀ (ps:List Nat) (M:MC),(ranP mx R W M ps).length=ps.length
 | [],_=>rfl
 | p :: ps,M=>by simp only [ranP,List.length_cons,ranP_len mx R W ps]
set_option maxHeartbeats 8000000 in
theorem ran_calls (mx:Nat→Nat→Nat) (hmx:MixC mx) (w:World) (b B:Nat) (M0:MC) (A A2:Option Addr) (c c2:Nat) (is:List PI) (ps:List Nat) (hM:MAt w b M0) (hbB:B≤b) (hI:InstrsAt w A is) (hp:∀ p∈is,p.At w B∧okI p=true) (hps:Rw w 3 1 A2 ps.length (ps.map i64V)) (hpl:ps.length≤1048577) (hlt:∀ p∈ps,p < is.length) (hl:is.length≤1048576):
  Calls Tryz.prog 13 #[.map (some b),.slice A is.length c,.slice A2 ps.length c2] w (GivesRan w b (ranP mx (rdL is) (wrL is) M0 ps)):=by
 have hbl:=hM.lt
 have hNI:NoT [55,3] w (fun x=>x=b):=hM.noT
 replace hp:=Lib.hid hp
 replace hlt:=Lib.hid hlt
 go_enter Tryz.func13,Tryz.ntmps13
 go_wp2
 go_loopg [8,18] ps.length (fun q c8 c18 wr=>∃ (k:Nat) (A':Option Addr) (c':Nat) (out:List Nat) (M:MC),k≤ps.length∧c18 = .int .i64 (k:Int)∧c8 = .slice A' k c'∧wr.ownsRow w.heap.size 83 1 (.slice A' k c') k (out.map u64V)∧Hid (ranP mx (rdL is) (wrL is) M0 ps=out ++ ranP mx (rdL is) (wrL is) M (ps.drop k))∧Hid (MAt wr b M)∧Fr (fun x=>x=b) w wr∧q=ps.length - k)
 case atStart=>exact ⟨0,none,0,[],M0,Nat.zero_le _,rfl,rfl,own_nil _ _ _ _,Lib.hid rfl,Lib.hid hM,Fr.refl _ _,rfl⟩
 case round=>
  obtain ⟨k,A',c',out,M,hk,rfl,rfl,hown,hR,hMk,hf,rfl⟩:=hrel
  by_cases hkl:k < ps.length
  ·obtain ⟨p,hpk⟩:∃ p,ps[k]? = some p:=⟨_,List.getElem?_eq_getElem hkl⟩
   have hpn:=hlt.out p (List.mem_of_getElem? hpk)
   obtain ⟨q,hq⟩:∃ q,is[p]? = some q:=⟨_,List.getElem?_eq_getElem hpn⟩
   obtain ⟨b2,o2,hA2,hb2,hc2⟩:=(Rw.frT hps hf hNI (by decide)).one (k:=k) (v:=i64V p) (by rw [List.getElem?_map,hpk];rfl)
   obtain ⟨b1,o1,hA1,hb1,hr1⟩:=(show Rw wr 55 10 A is.length _ from Rw.frT hI hf hNI (by decide)).at_ PI.list_len hq
   subst hA1 hA2
   unfold i64V at hc2
   obtain ⟨hpa,hpo⟩:=hp.out q (List.mem_of_getElem? hq)
   have hpa:=hpa.fr hf (fun x hx e=>by omega)
   obtain ⟨hgi,hgo⟩:=hpa.okGs hpo
   have hfew:=hpa.few
   have hli:=inGs_le q.canc q.inp q.out
   have hlo:=outGs_le q.out
   have hrd:rdL is p=(inGs q.canc q.inp q.out).map gP:=rdL_at hq
   have hwr:wrL is p=(outGs q.out).map gP:=wrL_at hq
   have hdrop:ps.drop k=p :: ps.drop (k+1):=List.drop_eq_getElem?_toList_append.trans (by rw [hpk];rfl)
   have hRs:ranP mx (rdL is) (wrL is) M0 ps=(out ++ [rdM mx M (rdL is p) (p+1)]) ++ ranP mx (rdL is) (wrL is) ((wrM mx (rdM mx M (rdL is p) (p+1)) 0 (wrL is p)).foldl setC M) (ps.drop (k+1)):=by
    rw [hR.out,hdrop,List.append_assoc];rfl
   rw [hrd,hwr] at hRs
   replace hRs:=Lib.hid hRs
   have hrg:∀ W,Fr nope wr W→W.rangeAt b1 (o1+p*10) q.cells.toList:=fun W hW j v hv=>hW.cell (hr1 j v hv) (fun x=>x)
   have hp0:(0:Int)≤(p:Int):=by omega
   have hp1:(p:Int) < (is.length:Int):=by omega
   have hsz:=hf.size
   have hbo:=own_base hown
   clear hr1 hpk hq hR hdrop hrd hwr
   go_wp2_with (refine wpList_load_mid rfl _ _ rfl b1 (o1+p*10) rfl q.cells.toList _ (hrg _ (Fr.refl _ _)) Tryz.underlying55 rfl (by kernel_rfl) ?_)
   refine (spInputRegisters_calls _ B q hpa hpo).mono ?_
   rintro e w1 ⟨hf1,Ag,cg,rfl,hog⟩
   go_wp2_with (refine wpList_load_mid rfl _ _ rfl b1 (o1+p*10) rfl q.cells.toList _ (hrg _ hf1) Tryz.underlying55 rfl (by kernel_rfl) ?_)
   refine (spOutputRegisters_calls _ B q (hpa.fr hf1 (fun _ _ x=>x)) hpo).mono ?_
   rintro e w2 ⟨hf2,Ah,ch,rfl,hoh⟩
   have hf12:=hf1.then hf2
   have hgI:GsAt w2 Ag (inGs q.canc q.inp q.out):=(Rw.of_own hog).nope hf2
   have hgO:GsAt w2 Ah (outGs q.out):=Rw.of_own hoh
   have hM2:=hMk.out.fr hf12 (fun x=>x)
   have hRd:=fun W (hW:Fr nope w2 W)=>read_calls mx hmx W b M Ag cg _ (p+1) (hM2.fr hW (fun x=>x)) (Rw.nope hgI hW) (fun g hg=>(hgi g hg).2) (by omega)
   have e1:((p+1:Nat):Int)=(p:Int)+1:=by omega
   simp only [e1] at hRd
   clear hog hoh hMk e1
   obtain ⟨gi,hgi'⟩:∃ gi,gi=inGs q.canc q.inp q.out:=⟨_,rfl⟩
   obtain ⟨go,hgo'⟩:∃ go,go=outGs q.out:=⟨_,rfl⟩
   rw [← hgi'] at hRd hRs hgi hli
   rw [← hgo'] at hRs hgO hgo hlo
   simp only [← hgi',← hgo']
   replace hgi':=Lib.hid hgi'
   replace hgo':=Lib.hid hgo'
   go_wp2_with fail
   refine (hRd _ (Fr.refl _ _)).mono ?_
   rintro e w3 ⟨rfl,hf3⟩
   obtain ⟨n,hn⟩:∃ n,n=rdM mx M (gi.map gP) (p+1):=⟨_,rfl⟩
   rw [← hn] at hRs ⊢
   replace hn:=Lib.hid hn
   go_wp2_with fail
   refine (write_calls mx hmx w3 b M Ah ch go n (hM2.fr hf3 (fun x=>x)) (Rw.nope hgO hf3) (fun g hg=>(hgo g hg).2) (by omega)).mono ?_
   rintro e w4 ⟨rfl,hM4,hf4⟩
   have hf13:Fr nope wr w3:=hf12.then hf3
   have hown4:=own_fr (own_fr hown hf13 (fun _ _ x=>x)) hf4 (fun x hx e=>by have:=hbo x hx;omega)
   have hf04:Fr (fun x=>x=b) w w4:=(hf.then_new hf13 (fun x hx e=>e)).then hf4
   have hsz4:=hf04.size
   clear hRd hgi hgo hgI hgO hM2
   go_wp2_with (refine wpList_app (v:=.slice A' k c') rfl rfl Tryz.underlying36 infoU64 rfl (by omega) rfl (own_fr hown4 ((Fr.refl nope _).alloc _) (fun _ _ x=>x)) rfl (news:=[.int .u64 (n:Int)]) rfl (one_new _ _ _ _ rfl) (by simp [Value.oneCell']) (by simp only [maxLen];omega) (by omega) (by simp;omega) ?hk)
   case hk=>
    intro v5 w5 hown5 hf5 hb5
    obtain ⟨A5,d5,rfl,_,_⟩:=own_slice hown5
    have hne:∀ x,(Value.slice A' k c').ownBlock=some x→x≠b:=fun x hx e=>by have:=hbo x hx;omega
    have hM5:=(hM4.fr ((Fr.refl nope w4).alloc _) (fun x=>x)).fr hf5 (fun e=>hne b e rfl)
    have hf05:Fr (fun x=>x=b) w w5:=(hf04.alloc _).then_new hf5 (fun x hx e=>by have:=hbo x e;omega)
    replace hM5:=Lib.hid hM5
    go_wp2
    go_roundg (ps.length - (k+1))
    case measure=>omega
    case rel=>exact ⟨k+1,A5,d5,out ++ [n],_,by omega,by go_num,rfl,by rw [List.map_append];exact hown5,hRs,hM5,hf05,rfl⟩
  ·have hkn:k=ps.length:=by omega
   subst hkn
   have hR':=hR.out
   rw [List.drop_length] at hR'
   have hR2:ranP mx (rdL is) (wrL is) M0 ps=out:=by rw [hR'];simp [ranP]
   have hol:out.length=ps.length:=by rw [← hR2,ranP_len]
   go_wp2
   go_ret2
   exact ⟨hf,A',c',by rw [hR2,hol];rfl,by rw [hR2,hol];exact Rw.of_own hown⟩
end
section
open Go Go.RowKit Bth
set_option maxRecDepth 100000
theorem IDPartsV_calls (w:World) (id:Nat) (h:id < 4294967296):Calls Tryz.prog 35 #[.int .u32 (id:Int)] w fun e w'=>(∃ x y,e = .returned (.tuple #[.bool (isV id),.int .u8 x,.int .u16 y]))∧w'=w:=by
 have hv:(bits .and .u32 (id:Int) 1 == 1)=isV id:=by
  have ha:bits .and .u32 (id:Int) 1=((id % 2:Nat):Int):=by
   have:=u32_and id 1 h (by omega)
   rw [Nat.and_one_is_mod] at this
   exact this
  rw [ha]
  unfold isV
  rw [Bool.eq_iff_iff]
  simp
  omega
 replace hv:=Lib.hid hv
 go_enter Tryz.func35,Tryz.ntmps35
 go_wp2
 go_ret3
 refine ⟨⟨(id:Int) / 256 % 256,(id:Int) / 65536,?_⟩,rfl⟩
 rw [← hv.out]
 rfl
def GivesEa (w:World) (ls:List TL) (e:Ending) (w':World):Prop:=Fr nope w w'∧∃ b,e = .returned (.bool b)∧(b=false→∀ s,ls[0]? = some s→∀ x∈s,isV x.1=false)
set_option maxHeartbeats 1000000 in
theorem earlyV_calls (w:World) (A:Option Addr) (c:Nat) (ls:List TL) (h:TlsAt w A ls) (ht:∀ s∈ls,Tidy s):Calls Tryz.prog 11 #[.slice A ls.length c] w (GivesEa w ls):=by
 go_enter Tryz.func11,Tryz.ntmps11
 by_cases h0:ls.length=0
 ·have h0':(ls.length:Int)=0:=by omega
  clear h
  go_wp2
  go_ret
  exact ⟨Fr.refl _ _,false,rfl,fun _ s hs=>by have:=(List.getElem?_eq_some_iff.1 hs).1;omega⟩
 have h0':¬(ls.length:Int)=0:=by omega
 have h0'':(0:Int) < (ls.length:Int):=by omega
 have hq0:((ls.length:Int) == 0)=false:=beq_eq_false_iff_ne.2 h0'
 obtain ⟨s,hs⟩:∃ s,ls[0]? = some s:=⟨_,List.getElem?_eq_getElem (by omega)⟩
 obtain ⟨b,off,A1,c1,hAe,hbl,hc,hT⟩:=h.at_ hs
 rw [Nat.add_zero] at hc
 subst hAe
 have hTd:=ht s (List.mem_of_getElem? hs)
 have hsl:=hTd.len
 replace hs:=Lib.hid hs
 clear h
 go_wp2
 go_loopg [15] s.length (fun m c15 wr=>∃ k:Nat,k≤s.length∧c15 = .int .i64 (k:Int)∧Hid (∀ x∈s.take k,isV x.1=false)∧Fr nope w wr∧m=s.length - k)
 case atStart=>exact ⟨0,Nat.zero_le _,rfl,Lib.hid (by simp),Fr.refl _ _,rfl⟩
 case round=>
  obtain ⟨k,hk,rfl,hall,hf,rfl⟩:=hrel
  by_cases hlt:k < s.length
  ·obtain ⟨⟨x1,x2⟩,hx⟩:∃ x,s[k]? = some x:=⟨_,List.getElem?_eq_getElem hlt⟩
   obtain ⟨bt,ot,hAe,hbt,hrt⟩:=(Rw.nope hT hf).at_ tlV_len hx
   subst hAe
   replace hrt:wr.rangeAt bt (ot+k*2) [.int .u32 (x1:Int),.int .u16 (x2:Int)]:=hrt
   have hx32:=(hTd.bound _ (List.mem_of_getElem? hx)).1
   simp only at hx32
   have hTk:=Lib.hid (take_snoc hx)
   clear hx
   go_wp2_with (first
    | (refine wpList_load_mid rfl _ _ rfl bt (ot+k*2) rfl [.int .u32 (x1:Int),.int .u16 (x2:Int)] _ hrt Tryz.underlying77 rfl (by kernel_rfl) ?_)
    | (refine wpList_storeRow (b:=wr.heap.size) (cells:=#[.int .u32 (x1:Int),.int .u16 (x2:Int)]) rfl rfl rfl rfl (heap_alloc_new _ _) rfl (by kernel_rfl) (by kernel_rfl) ?_;intro w11 hb11 hf11;have hn11:Fr nope wr w11:=((Fr.refl nope wr).alloc _).then_new hf11 (fun x hx e=>by omega);have hd0:w11.cell? ⟨wr.heap.size,0,none⟩=some (.int .u32 (x1:Int)):=cell_of_row _ _ 0 _ _ (0,0) hb11;clear hb11))
   refine (IDPartsV_calls w11 x1 hx32).mono ?_
   rintro e w12 ⟨⟨x,y,rfl⟩,rfl⟩
   cases hv:isV x1 with
   | true=>
    go_wp2
    go_ret
    exact ⟨hf.then hn11,true,rfl,fun h=>by cases h⟩
   | false=>
    have hall':Hid (∀ x∈s.take (k+1),isV x.1=false):=Lib.hid (fun x hx=>by
     rw [hTk.out] at hx
     rcases List.mem_append.1 hx with h | h
     ·exact hall.out x h
     ·obtain rfl:x=(x1,x2):=by simpa using h
      exact hv)
    replace hv:=Lib.hid hv
    go_wp2
    go_roundg (s.length - (k+1))
    case measure=>omega
    case rel=>exact ⟨k+1,by omega,by go_num,hall',hf.then hn11,rfl⟩
  ·rw [take_all hlt] at hall
   go_wp2
   go_ret
   exact ⟨hf,false,rfl,fun _ t ht'=>by rw [hs.out] at ht';injection ht' with ht';subst ht';exact hall.out⟩
theorem RowT.tls {w:World} {b n:Nat} {I:Nat→TL} (h:RowT w b n I):TlsAt w (some ⟨b,0,none⟩) ((List.range n).map I):=by
 obtain ⟨cs,h1,h2,h3⟩:=h
 refine ⟨cs.toList,⟨by simp [h2],fun _=>⟨b,0,cs,_,rfl,h1,fun j u hu=>?_⟩⟩,by simp [h2],fun k v s hv hs=>?_⟩
 ·rw [Nat.zero_add,cell_of_row _ _ j _ _ (0,0) h1]
  simpa using hu
 ·have hk:k < n:=by have:=(List.getElem?_eq_some_iff.1 hs).1;simpa using this
  obtain ⟨A,c,h4,h5⟩:=h3 k hk
  rw [List.getElem?_map,List.getElem?_range hk] at hs
  injection hs with hs
  subst hs
  rw [Array.getElem?_toList,h4] at hv
  injection hv with hv
  exact ⟨A,c,hv.symm,h5⟩
theorem wayP_lt {n:Nat} {sc:Nat→List (Option Nat)} : ∀ {ps:List Nat} {a:Nat},WayP n sc a ps→∀ p∈ps,p < n
 | [],_,_,p,h=>by cases h
 | q :: ps,a,h,p,hp=>by
  obtain ⟨rfl,h1,h2⟩:=h
  rcases List.mem_cons.1 hp with rfl | hp
  ·exact h1
  ·rcases h2 with rfl | ⟨s,_,h2⟩
   ·cases hp
   ·exact wayP_lt h2 p hp
end
end Go.Proofs.YtjlfkgjmgghhiaaGreat
