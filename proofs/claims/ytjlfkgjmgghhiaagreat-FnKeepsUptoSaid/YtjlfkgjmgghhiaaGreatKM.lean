/-
  Proves 'FnKeepsUptoSaid': for every input of bulk at most 1048576 the law FnKeeps answers true, and each argument reads behind the call as it read before: each read of a part of a register that was written finds, in the place that the register was given, what was written.
  Condition: the bulk of what comes in (the given form 'Upto'); no other.
-/
import Derived.WalkKit
import Derived.ProofKit
import Derived.OpenShut
import Derived.JoinedCond
import Derived.Carry
import Derived.Test.YtjlfkgjmgghhiaaGreatKA
import Derived.Test.YtjlfkgjmgghhiaaGreatP50
import Derived.Test.YtjlfkgjmgghhiaaGreatP51
namespace Go.Proofs.YtjlfkgjmgghhiaaGreat
section
open Go Go.RowKit Bth
set_option maxRecDepth 100000
theorem reg_eq {P:Program} {Q:Exit→Act→World→Prop} {a:Act} {w:World} {id:Nat} {ops ops':Array Oper} (h:ops=ops') (H:(Code.region id ops' true).wp P Q a w):(Code.region id ops true).wp P Q a w:=h ▸ H
theorem KRow.nilK (w:World) (B:Nat):KRow w B ⟨none,0,0⟩ []:=⟨rfl,own_nil _ _ _ _⟩
theorem KSt.start (w:World) (B:Nat):KSt w B ⟨none,0,0⟩ ⟨none,0,0⟩ [] []:=⟨.nilK w B,.nilK w B,(fun _ h=>by cases h),⟨by simp,by simp⟩,⟨by simp,by simp⟩⟩
theorem KRow.of {w:World} {B:Nat} {s:SV} {l:List KC} (h:KRow w B s l) {k g:Nat} {x:KC} (hk:l[k]? = some x) (hA:s.A=some ⟨g,0,none⟩):w.rangeAt g (k*17) (kcV x)∧w.there g (k*17) 17:=by
 obtain ⟨g',hA',_,_,_,h1,h2⟩:=h.at_ hk
 rw [hA] at hA'
 injection hA' with hA'
 injection hA' with hA'
 subst hA'
 exact ⟨h1,h2⟩
theorem KRow.lt {w:World} {B:Nat} {s:SV} {l:List KC} (h:KRow w B s l) {k:Nat} {x:KC} (hk:l[k]? = some x):k < s.n:=by
 rw [h.1];exact (List.getElem?_eq_some_iff.1 hk).1
theorem kget_wr {l:List KC} {k:Nat} {id m:Nat} (hk:l[k]? = some (id,kget l id)) (hf:FirstK l k id) (hm:m < 65536) (z:Int):kget (l.set k (id,wrF (kget l id) m z 16))=wrK (kget l) id m z:=by
 rw [kget_set (x:=(id,kget l id)) _ hk hf]
 funext c b
 unfold wrK wrF
 by_cases hc:c=id
 ·subst hc
  simp only [if_true,true_and]
  by_cases hb:m.testBit b=true
  ·have:b < 16:=by
    by_cases h:b < 16
    ·exact h
    ·rw [Nat.testBit_lt_two_pow (Nat.lt_of_lt_of_le hm (Nat.pow_le_pow_right (by decide:0 < 2) (by omega:16≤b)))] at hb
     cases hb
   simp [hb,this]
  ·simp [hb]
 ·simp [hc]
def KAt (is:List PI) (sc:Nat→List (Option Nat)) (l:List (Nat × Nat)) (np k:Nat) (at_:Int) (ow bn:List KC):Prop:=k≤np→at_ = -1∨∃ a:Nat,at_=(a:Int)∧a < is.length∧KLive (LiveInP is sc a) (aid l) (kget ow) (kget bn)
set_option maxHeartbeats 8000000 in
theorem Keeps_calls (w:World) (is:List PI) (sc:Nat→List (Option Nat)) (AR AW AS AP AA:Option Addr) (cR cW cS cP cA:Nat) (path:List Int) (l:List (Nat × Nat))
  (hops:∀ p∈is,(∀ g∈inGs p.canc p.inp p.out,g.Ok)∧∀ g∈outGs p.out,g.Ok) (hn:is.length≤1048576)
  (hR:TlsAt w AR (is.map rdT)) (hW:TlsAt w AW (is.map wrT)) (hS:SuccAt w AS is.length sc) (hsl:∀ k,k < is.length→(sc k).length≤1048576)
  (hP:Sl w AP path.length (path.map fun z=>Value.int .i64 z)) (hpl:path.length≤1048576) (hA:PairsAt w AA l) (hl:l.length≤1000000000) (hap:ApartW is sc (aid l)) (hai:∀ id,id < 4294967296→aid l id < 4294967296):
  Calls Tryz.prog 17 #[.slice AR is.length cR,.slice AW is.length cW,.slice AS is.length cS,.slice AP path.length cP,.slice AA l.length cA] w (GivesB w true):=by
 replace hops:=Lib.hid hops
 replace hsl:=Lib.hid hsl
 replace hap:=Lib.hid hap
 replace hai:=Lib.hid hai
 go_enter Tryz.func17,Tryz.ntmps17
 by_cases hz:is.length=0
 ·have hz':(is.length:Int)=0:=by omega
  clear hops hR hW hS hsl hP hA hap hai
  go_wp2
  go_ret
  exact ⟨by simp,Fr.refl _ _⟩
 have hz1:¬(is.length:Int)=0:=by omega
 have hz2:((is.length:Int) == 0)=false:=beq_eq_false_iff_ne.2 hz1
 go_wp2
 go_loopg [12,13,14,15,16] (path.length+1) (fun m c12 c13 c14 c15 c16 wx=>∃ (so sb:SV) (ow bn:List KC) (at_ z:Int) (k:Nat),k≤path.length+1∧c12=so.val∧c13=sb.val∧c14 = .int .i64 at_∧c15 = .int .i64 z∧c16 = .int .i64 (k:Int)∧Hid (KAt is sc l path.length k at_ ow bn)∧Hid (KSt wx w.heap.size so sb ow bn)∧Fr nope w wx∧m=path.length+1 - k)
 case atStart=>exact ⟨⟨none,0,0⟩,⟨none,0,0⟩,[],[],0,0,0,Nat.zero_le _,rfl,rfl,rfl,rfl,rfl,Lib.hid (fun _=>.inr ⟨0,rfl,by omega,KLive.start⟩),Lib.hid (KSt.start _ _),Fr.refl _ _,rfl⟩
 case round=>
  obtain ⟨so,sb,ow,bn,at_,z,k,hk,rfl,rfl,rfl,rfl,rfl,hat,hK,hf,rfl⟩:=hrel
  by_cases hkl:k≤path.length
  rotate_left
  ·have hkl':¬(k:Int)≤(path.length:Int):=by omega
   clear hat hK
   go_wp2
   go_ret
   exact ⟨rfl,hf⟩
  have hkl':(k:Int)≤(path.length:Int):=by omega
  rcases hat.out hkl with rfl | ⟨a,rfl,hal,hL⟩
  ·clear hat hK
   go_wp2
   go_ret
   exact ⟨rfl,hf⟩
  have ha0:(0:Int)≤(a:Int):=by omega
  have ha1:(a:Int) < (is.length:Int):=by omega
  obtain ⟨p,hp⟩:∃ p,is[a]? = some p:=⟨_,List.getElem?_eq_getElem hal⟩
  obtain ⟨br,offr,Ar,cr,hARe,hbr,hcr,hTr⟩:=hR.at_ (k:=a) (s:=rdT p) (by rw [List.getElem?_map,hp];rfl)
  obtain ⟨bw,offw,Aw,cw,hAWe,hbw,hcw,hTw⟩:=hW.at_ (k:=a) (s:=wrT p) (by rw [List.getElem?_map,hp];rfl)
  have hgo:=hops.out p (List.mem_of_getElem? hp)
  have hTdr:Tidy (rdT p):=(tlOf_spec hgo.1).1
  have hTdw:Tidy (wrT p):=(tlOf_spec hgo.2).1
  have hlr:=hTdr.len
  have hlw:=hTdw.len
  subst hARe hAWe
  replace hp:=Lib.hid hp
  replace hgo:=Lib.hid hgo
  replace hTdr:=Lib.hid hTdr
  replace hTdw:=Lib.hid hTdw
  replace hL:=Lib.hid hL
  have hcr':=hf.cell hcr (fun x=>x)
  clear hat hR hW
  obtain ⟨T,hT⟩:∃ T,T=rdT p:=⟨_,rfl⟩
  obtain ⟨U,hU⟩:∃ U,U=wrT p:=⟨_,rfl⟩
  rw [← hT] at hcr hcr' hTr hlr hTdr
  rw [← hU] at hcw hTw hlw hTdw
  replace hT:=Lib.hid hT
  replace hU:=Lib.hid hU
  go_wp2
  go_loopg [12,13,17] T.length (fun m c12 c13 c17 wx=>∃ (so sb:SV) (ow bn:List KC) (i:Nat),i≤T.length∧c12=so.val∧c13=sb.val∧c17 = .int .i64 (i:Int)∧Hid (KLive (LiveInP is sc a) (aid l) (kget ow) (kget bn))∧Hid (KSt wx w.heap.size so sb ow bn)∧Fr nope w wx∧m=T.length - i)
  case atStart=>exact ⟨so,sb,ow,bn,0,Nat.zero_le _,rfl,rfl,rfl,hL,hK,hf,rfl⟩
  case round=>
   clear hcr' hL hK hf
   obtain ⟨so,sb,ow,bn,i,hi,rfl,rfl,rfl,hL,hK,hf,rfl⟩:=hrel
   have hcr':=hf.cell hcr (fun x=>x)
   by_cases hil:i < T.length
   ·obtain ⟨⟨x1,x2⟩,hx⟩:∃ x,T[i]? = some x:=⟨_,List.getElem?_eq_getElem hil⟩
    obtain ⟨bt,ot,hAe,hbt,hrt⟩:=(Rw.nope hTr hf).at_ tlV_len hx
    subst hAe
    have hxm:=List.mem_of_getElem? hx
    obtain ⟨hx32,hx16,_⟩:=hTdr.out.bound _ hxm
    simp only at hx32 hx16
    have hax:=hai.out x1 hx32
    have hi0:(0:Int)≤(i:Int):=by omega
    have hi1:(i:Int) < (T.length:Int):=by omega
    have hsz:=hf.size
    replace hrt:wr.rangeAt bt (ot+i*2) [.int .u32 (x1:Int),.int .u16 (x2:Int)]:=hrt
    replace hxm:=Lib.hid hxm
    clear hx
    go_wp2_with (first
     | (refine wpList_load_mid rfl _ _ rfl bt (ot+i*2) rfl [.int .u32 (x1:Int),.int .u16 (x2:Int)] _ hrt Tryz.underlying77 rfl (by kernel_rfl) ?_)
     | (refine wpList_storeRow (b:=wr.heap.size) (cells:=#[.int .u32 (x1:Int),.int .u16 (x2:Int)]) rfl rfl rfl rfl (heap_alloc_new _ _) rfl (by kernel_rfl) (by kernel_rfl) ?_;intro w11 hb11 hf11;have hn11:Fr nope wr w11:=((Fr.refl nope wr).alloc _).then_new hf11 (fun x hx e=>by omega);have hd0:w11.cell? ⟨wr.heap.size,0,none⟩=some (.int .u32 (x1:Int)):=cell_of_row _ _ 0 _ _ (0,0) hb11;have hd1:w11.cell? ⟨wr.heap.size,1,none⟩=some (.int .u16 (x2:Int)):=cell_of_row _ _ 1 _ _ (0,0) hb11;clear hb11))
    have hK11:=hK.out.nope hn11
    have hl1:=own_lt hK.out.o.2
    have hl2:=own_lt hK.out.b.2
    refine (keepAt_calls w11 w.heap.size so ow x1 hK11.o hK11.oo hx32 (by have:=hn11.size;omega)).mono ?_
    rintro e w12 ⟨ow2,p1,so2,rfl,hp1,hF1,hkg1,hok1,hrow1,hf12,hb12⟩
    have hK12:=hK11.step hrow1 hok1 hf12 hb12
    have hd0':=hf12.cell hd0 (fun e=>absurd (hl1 _ e) (Nat.lt_irrefl _))
    have hd1':=hf12.cell hd1 (fun e=>absurd (hl1 _ e) (Nat.lt_irrefl _))
    have hnb1:∀ x,so.val.ownBlock=some x→w.heap.size≤x:=fun x e=>own_base hK.out.o.2 x e
    have hw12:Fr nope w w12:=(hf.then hn11).then_new hf12 (fun x hx e=>by have:=hnb1 x e;omega)
    have hs12:=hn11.size
    replace hK12:=Lib.hid hK12
    replace hp1:=Lib.hid hp1
    replace hF1:=Lib.hid hF1
    replace hkg1:=Lib.hid hkg1
    clear hd0 hd1 hrow1 hok1 hb12 hK11 hcr' hrt
    have hsz12:=hf12.size
    go_wp2_with fail
    refine (AllocatedID_calls w12 AA cA l x1 (hA.fr hw12) hl).mono ?_
    rintro e w13 ⟨rfl,hf13⟩
    have hK13:=hK12.out.nope hf13
    have hd1'':=hf13.cell hd1' (fun x=>x)
    have hw13:=hw12.then hf13
    have hsz13:=hf13.size
    clear hd0' hd1'
    go_wp2_with fail
    refine (keepAt_calls w13 w.heap.size sb bn (aid l x1) hK13.b hK13.ob hax (by omega)).mono ?_
    rintro e w14 ⟨bn2,q1,sb2,rfl,hq1,hF2,hkg2,hok2,hrow2,hf14,hb14⟩
    have hK14:=(hK13.swap.step hrow2 hok2 hf14 hb14).swap
    have hnb2:∀ x,sb.val.ownBlock=some x→w.heap.size≤x:=fun x e=>own_base hK.out.b.2 x e
    have hw14:Fr nope w w14:=hw13.then_new hf14 (fun x hx e=>by have:=hnb2 x e;omega)
    have hd14:=hf14.cell hd1'' (fun e=>absurd (hl2 _ e) (Nat.lt_irrefl _))
    clear hrow2 hok2 hb14 hK13 hK12 hd1''
    obtain ⟨g1,hg1,hgo1,_,_,hra1,_⟩:=hK14.o.at_ hp1.out
    obtain ⟨g2,hg2,hgo2,_,_,hra2,_⟩:=hK14.b.at_ hq1
    have hp1n:=hK14.o.lt hp1.out
    have hq1n:=hK14.b.lt hq1
    have hrd:rdOK (kget ow x1) (kget bn (aid l x1)) x2:=fun b hb hbit h0=>(hL.out x1 b (read_live hp.out hgo.out.1 (hT.out ▸ hxm.out) hbit) h0).symm
    replace hq1:=Lib.hid hq1
    replace hF2:=Lib.hid hF2
    replace hkg2:=Lib.hid hkg2
    replace hrd:=Lib.hid hrd
    replace hK14:=Lib.hid hK14
    go_wp2_with fail
    have hdr:Fr nope w14 w14.drew:=(Fr.refl nope w14).drew
    have hSk:∀ W,Fr nope w14 W→W.rangeAt g1 (p1*17) (kcV (x1,kget ow x1))∧W.rangeAt g2 (q1*17) (kcV (aid l x1,kget bn (aid l x1)))∧W.cell? ⟨wr.heap.size,1,none⟩=some (.int .u16 (x2:Int)):=fun W hW=>⟨fun j v hv=>hW.cell (hra1 j v hv) (fun x=>x),fun j v hv=>hW.cell (hra2 j v hv) (fun x=>x),hW.cell hd14 (fun x=>x)⟩
    refine reg_eq (ops':=kpReg 16) (by kernel_rfl) (rg16 (S:=fun W=>W.rangeAt g1 (p1*17) (kcV (x1,kget ow x1))∧W.rangeAt g2 (q1*17) (kcV (aid l x1,kget bn (aid l x1)))∧W.cell? ⟨wr.heap.size,1,none⟩=some (.int .u16 (x2:Int))) (R:=fun W=>Fr nope w14 W) (so:=so2) (sb:=sb2) (p:=p1) (q:=q1) (g1:=g1) (g2:=g2) (xb:=wr.heap.size) (m:=x2) (cx:=kcV (x1,kget ow x1)) (cy:=kcV (aid l x1,kget bn (aid l x1))) (r:=true)
     ((((((Bun.nil rfl rfl).cons 18 rfl).cons 20 rfl).cons 13 rfl).cons 19 rfl).cons 12 rfl) (fun d _ _ _ _ h=>by cases d<;>simpa [Exit.inBlock,Exit.then,bodyPost,Act.put] using h) hg1 hg2 hp1n hq1n rfl rfl (hSk _ hdr) (fun W hW=>hW) ?hc ?h)
    case hc=>
     refine (keepReads_calls w14.drew (x1,kget ow x1) (aid l x1,kget bn (aid l x1)) x2 hx16 hrd.out).mono ?_
     rintro e w15 ⟨rfl,hf15⟩
     exact ⟨rfl,hdr.then hf15,hSk _ (hdr.then hf15)⟩
    case h=>
     intro w15 hf15
     clear hSk hra1 hra2 hd14
     simp only [putL,List.foldl_cons,List.foldl_nil,Act.put,List.setIfInBounds_toArray,List.set_cons_zero,List.set_cons_succ]
     go_wp2
     go_roundg (T.length - (i+1))
     case measure=>omega
     case rel=>exact ⟨so2,sb2,ow2,bn2,i+1,by omega,rfl,rfl,by go_num,Lib.hid (by rw [hkg1.out,hkg2.out];exact hL.out),Lib.hid (hK14.out.nope hf15),hw14.then hf15,rfl⟩
   ·have hcw':=hf.cell hcw (fun x=>x)
    have hL0:Hid (KLive (fun c b=>LiveOutP is sc a c b∧¬pendK (U.drop 0) c b) (aid l) (kget ow) (kget bn)):=Lib.hid (by rw [hU.out];exact hL.out.toWrites hp.out hgo.out.2)
    clear hL
    go_wp2
    go_loopg [12,13,15,21] U.length (fun m c12 c13 c15 c21 wx=>∃ (so sb:SV) (ow bn:List KC) (z:Int) (i:Nat),i≤U.length∧c12=so.val∧c13=sb.val∧c15 = .int .i64 z∧c21 = .int .i64 (i:Int)∧Hid (KLive (fun c b=>LiveOutP is sc a c b∧¬pendK (U.drop i) c b) (aid l) (kget ow) (kget bn))∧Hid (KSt wx w.heap.size so sb ow bn)∧Fr nope w wx∧m=U.length - i)
    case atStart=>exact ⟨so,sb,ow,bn,z,0,Nat.zero_le _,rfl,rfl,rfl,rfl,hL0,hK,hf,rfl⟩
    case round=>
     clear hcw' hcr' hL0 hK hf
     obtain ⟨so,sb,ow,bn,z,i,hi,rfl,rfl,rfl,rfl,hL,hK,hf,rfl⟩:=hrel
     have hcw':=hf.cell hcw (fun x=>x)
     by_cases hil:i < U.length
     ·obtain ⟨⟨x1,x2⟩,hx⟩:∃ x,U[i]? = some x:=⟨_,List.getElem?_eq_getElem hil⟩
      obtain ⟨bt,ot,hAe,hbt,hrt⟩:=(Rw.nope hTw hf).at_ tlV_len hx
      subst hAe
      have hxm:=List.mem_of_getElem? hx
      obtain ⟨hx32,hx16,_⟩:=hTdw.out.bound _ hxm
      simp only at hx32 hx16
      have hax:=hai.out x1 hx32
      have hi0:(0:Int)≤(i:Int):=by omega
      have hi1:(i:Int) < (U.length:Int):=by omega
      have hsz:=hf.size
      replace hrt:wr.rangeAt bt (ot+i*2) [.int .u32 (x1:Int),.int .u16 (x2:Int)]:=hrt
      have hdrop:U.drop i=(x1,x2) :: U.drop (i+1):=List.drop_eq_getElem?_toList_append.trans (by rw [hx];rfl)
      replace hxm:=Lib.hid hxm
      replace hdrop:=Lib.hid hdrop
      clear hx
      go_wp2_with (first
       | (refine wpList_load_mid rfl _ _ rfl bt (ot+i*2) rfl [.int .u32 (x1:Int),.int .u16 (x2:Int)] _ hrt Tryz.underlying77 rfl (by kernel_rfl) ?_)
       | (refine wpList_storeRow (b:=wr.heap.size) (cells:=#[.int .u32 (x1:Int),.int .u16 (x2:Int)]) rfl rfl rfl rfl (heap_alloc_new _ _) rfl (by kernel_rfl) (by kernel_rfl) ?_;intro w11 hb11 hf11;have hn11:Fr nope wr w11:=((Fr.refl nope wr).alloc _).then_new hf11 (fun x hx e=>by omega);have hd0:w11.cell? ⟨wr.heap.size,0,none⟩=some (.int .u32 (x1:Int)):=cell_of_row _ _ 0 _ _ (0,0) hb11;have hd1:w11.cell? ⟨wr.heap.size,1,none⟩=some (.int .u16 (x2:Int)):=cell_of_row _ _ 1 _ _ (0,0) hb11;clear hb11))
      have hK11:=hK.out.nope hn11
      have hl1:=own_lt hK.out.o.2
      have hl2:=own_lt hK.out.b.2
      refine (keepAt_calls w11 w.heap.size so ow x1 hK11.o hK11.oo hx32 (by have:=hn11.size;omega)).mono ?_
      rintro e w12 ⟨ow2,p1,so2,rfl,hp1,hF1,hkg1,hok1,hrow1,hf12,hb12⟩
      have hK12:=hK11.step hrow1 hok1 hf12 hb12
      have hd0':=hf12.cell hd0 (fun e=>absurd (hl1 _ e) (Nat.lt_irrefl _))
      have hd1':=hf12.cell hd1 (fun e=>absurd (hl1 _ e) (Nat.lt_irrefl _))
      have hnb1:∀ x,so.val.ownBlock=some x→w.heap.size≤x:=fun x e=>own_base hK.out.o.2 x e
      have hw12:Fr nope w w12:=(hf.then hn11).then_new hf12 (fun x hx e=>by have:=hnb1 x e;omega)
      have hs12:=hn11.size
      replace hK12:=Lib.hid hK12
      replace hp1:=Lib.hid hp1
      replace hF1:=Lib.hid hF1
      replace hkg1:=Lib.hid hkg1
      clear hd0 hd1 hrow1 hok1 hb12 hK11 hcw' hrt
      have hsz12:=hf12.size
      go_wp2_with fail
      refine (AllocatedID_calls w12 AA cA l x1 (hA.fr hw12) hl).mono ?_
      rintro e w13 ⟨rfl,hf13⟩
      have hK13:=hK12.out.nope hf13
      have hd1'':=hf13.cell hd1' (fun x=>x)
      have hw13:=hw12.then hf13
      have hsz13:=hf13.size
      clear hd0' hd1'
      go_wp2_with fail
      refine (keepAt_calls w13 w.heap.size sb bn (aid l x1) hK13.b hK13.ob hax (by omega)).mono ?_
      rintro e w14 ⟨bn2,q1,sb2,rfl,hq1,hF2,hkg2,hok2,hrow2,hf14,hb14⟩
      have hK14:=(hK13.swap.step hrow2 hok2 hf14 hb14).swap
      have hnb2:∀ x,sb.val.ownBlock=some x→w.heap.size≤x:=fun x e=>own_base hK.out.b.2 x e
      have hw14:Fr nope w w14:=hw13.then_new hf14 (fun x hx e=>by have:=hnb2 x e;omega)
      have hd14:=hf14.cell hd1'' (fun e=>absurd (hl2 _ e) (Nat.lt_irrefl _))
      clear hrow2 hok2 hb14 hK13 hK12 hd1''
      obtain ⟨g1,hg1,hgo1,_,hB1,hra1,_⟩:=hK14.o.at_ hp1.out
      obtain ⟨g2,hg2,hgo2,_,hB2,hra2,_⟩:=hK14.b.at_ hq1
      have hp1n:=hK14.o.lt hp1.out
      have hq1n:=hK14.b.lt hq1
      replace hq1:=Lib.hid hq1
      replace hF2:=Lib.hid hF2
      replace hkg2:=Lib.hid hkg2
      replace hK14:=Lib.hid hK14
      go_wp2_with fail
      generalize wrap64 (z+1)=z3
      have hdr:Fr nope w14 w14.drew:=(Fr.refl nope w14).drew
      have hSk:∀ W,Fr nope w14 W→W.rangeAt g1 (p1*17) (kcV (x1,kget ow x1))∧W.rangeAt g2 (q1*17) (kcV (aid l x1,kget bn (aid l x1)))∧W.cell? ⟨wr.heap.size,1,none⟩=some (.int .u16 (x2:Int)):=fun W hW=>⟨fun j v hv=>hW.cell (hra1 j v hv) (fun x=>x),fun j v hv=>hW.cell (hra2 j v hv) (fun x=>x),hW.cell hd14 (fun x=>x)⟩
      refine reg_eq (ops':=kpReg 26) (by kernel_rfl) (rg26 (S:=fun W=>W.rangeAt g1 (p1*17) (kcV (x1,kget ow x1))∧W.rangeAt g2 (q1*17) (kcV (aid l x1,kget bn (aid l x1)))∧W.cell? ⟨wr.heap.size,1,none⟩=some (.int .u16 (x2:Int))) (R1:=fun W=>Fr nope w14 W) (R2:=fun W=>Fr nope w14 W) (so:=so2) (sb:=sb2) (p:=p1) (q:=q1) (g1:=g1) (g2:=g2) (xb:=wr.heap.size) (m:=x2) (z:=z3) (cx:=kcV (x1,kget ow x1)) (cy:=kcV (aid l x1,kget bn (aid l x1)))
       (dx:=kcV (x1,wrF (kget ow x1) x2 z3 16)) (dy:=kcV (aid l x1,wrF (kget bn (aid l x1)) x2 z3 16))
       (((((((Bun.nil rfl rfl).cons 15 rfl).cons 22 rfl).cons 24 rfl).cons 13 rfl).cons 23 rfl).cons 12 rfl) (fun d _ _ _ _ h=>by cases d<;>simpa [Exit.inBlock,Exit.then,bodyPost,Act.put] using h) hg1 hg2 hp1n hq1n rfl rfl rfl rfl (kcV_one _) (kcV_one _) (hSk _ hdr) (fun W hW=>hW) ?hc ?hc2 ?ht ?h)
      case hc=>
       refine (keepWrites_calls w14.drew (x1,kget ow x1) x2 hx16 z3).mono ?_
       rintro e w15 ⟨rfl,hf15⟩
       exact ⟨rfl,hdr.then hf15,hSk _ (hdr.then hf15)⟩
      case hc2=>
       intro W hW
       refine (keepWrites_calls W (aid l x1,kget bn (aid l x1)) x2 hx16 z3).mono ?_
       rintro e w15 ⟨rfl,hf15⟩
       exact ⟨rfl,hW.then hf15,hSk _ (hW.then hf15)⟩
      case ht=>
       intro W hW
       have h1:=hK14.out.nope hW
       exact ⟨(h1.o.of hp1.out hg1).2,((h1.set hp1.out _ hgo1).1.b.of hq1.out hg2).2⟩
      case h=>
       intro w15 hf15
       have h1:=hK14.out.nope hf15
       obtain ⟨h2,h3⟩:=h1.set hp1.out (wrF (kget ow x1) x2 z3 16) hgo1
       obtain ⟨h4,h5⟩:=h2.swap.set hq1.out (wrF (kget bn (aid l x1)) x2 z3 16) hgo2
       have hw16:Fr nope w _:=((hw14.then hf15).then_new h3 (fun x hx e=>by omega)).then_new h5 (fun x hx e=>by omega)
       have hLn:Hid (KLive (fun c b=>LiveOutP is sc a c b∧¬pendK (U.drop (i+1)) c b) (aid l) (kget (ow2.set p1 (x1,wrF (kget ow x1) x2 z3 16))) (kget (bn2.set q1 (aid l x1,wrF (kget bn (aid l x1)) x2 z3 16)))):=Lib.hid (by
        have e1:=kget_wr (l:=ow2) (k:=p1) (id:=x1) (by rw [hkg1.out];exact hp1.out) hF1.out hx16 z3
        have e2:=kget_wr (l:=bn2) (k:=q1) (id:=aid l x1) (by rw [hkg2.out];exact hq1.out) hF2.out hx16 z3
        rw [hkg1.out] at e1
        rw [hkg2.out] at e2
        rw [e1,e2]
        have hLo:=hL.out
        rw [hdrop.out] at hLo
        exact hLo.write (fun c b hl hb hne=>hap.out a p hp.out (x1,x2) (hU.out ▸ hxm.out) c b hl hb hne) z3)
       replace h4:=Lib.hid h4.swap
       clear hSk hra1 hra2 hd14 h1 h2 h3 h5 hL hK14
       generalize (w15.setCells g1 (p1*17) (kcV (x1,wrF (kget ow x1) x2 z3 16))).setCells g2 (q1*17) (kcV (aid l x1,wrF (kget bn (aid l x1)) x2 z3 16))=w16 at h4 hw16 ⊢
       simp only [putL,List.foldl_cons,List.foldl_nil,Act.put,List.setIfInBounds_toArray,List.set_cons_zero,List.set_cons_succ]
       go_wp2
       go_roundg (U.length - (i+1))
       case measure=>omega
       case rel=>exact ⟨so2,sb2,_,_,z3,i+1,by omega,rfl,rfl,rfl,by go_num,hLn,h4,hw16,rfl⟩
     ·have hLe:KLive (fun c b=>LiveOutP is sc a c b∧¬pendK [] c b) (aid l) (kget ow) (kget bn):=by
       have:=hL.out
       rwa [List.drop_eq_nil_of_le (by omega)] at this
      replace hLe:=Lib.hid hLe
      clear hL
      by_cases hkn:k < path.length
      ·have hkn':(k:Int) < (path.length:Int):=by omega
       obtain ⟨bs,os,A1,c1,hASe,hbs,hcs,hrs⟩:=hS.at_ hal
       obtain ⟨bp,op,u,hAPe,hbp,hu,hcp⟩:=hP.at_ hkn
       rw [List.getElem?_map] at hu
       obtain ⟨zp,hzp⟩:∃ zp,path[k]? = some zp:=⟨_,List.getElem?_eq_getElem hkn⟩
       rw [hzp] at hu
       injection hu with hu
       subst hu
       subst hASe hAPe
       have hsla:=hsl.out a hal
       go_wp2_with fail
       have hdr:Fr nope wr wr.drew:=(Fr.refl nope wr).drew
       have hSk:∀ W,Fr nope wr W→W.cell? ⟨bs,os+a,none⟩=some (.slice A1 (sc a).length c1)∧W.cell? ⟨bp,op+k,none⟩=some (.int .i64 zp):=fun W hW=>⟨(hf.then hW).cell hcs (fun x=>x),(hf.then hW).cell hcp (fun x=>x)⟩
       refine reg_eq (ops':=kpReg 28) (by kernel_rfl) (rg28 (S:=fun W=>W.cell? ⟨bs,os+a,none⟩=some (.slice A1 (sc a).length c1)∧W.cell? ⟨bp,op+k,none⟩=some (.int .i64 zp)) (R:=fun r W=>Fr nope wr W∧(r = -1∨∃ s:Nat,r=(s:Int)∧some s∈sc a∧s < is.length)) (bs:=bs) (os:=os) (n:=is.length) (cs:=cS) (at_:=a) (n1:=(sc a).length) (c1:=c1) (bp:=bp) (op:=op) (np:=path.length) (cp:=cP) (k:=k) (A1:=A1) (z:=zp)
        ((((((Bun.nil rfl rfl).cons 11 rfl).cons 16 rfl).cons 3 rfl).cons 14 rfl).cons 2 rfl) (fun d _ _ _ _ h=>by cases d<;>simpa [Exit.inBlock,Exit.then,bodyPost,Act.put] using h) hal hkn (hSk _ hdr) (fun W hW=>hW) ?hc3 ?h3)
       case hc3=>
        refine (keepNext_calls wr.drew A1 c1 (sc a) hsla (hrs.nope (hf.then hdr)) zp is.length).mono ?_
        rintro e w15 ⟨hf15,r,rfl,hr⟩
        exact ⟨r,rfl,⟨hdr.then hf15,hr⟩,hSk _ (hdr.then hf15)⟩
       case h3=>
        rintro r w15 ⟨hf15,hr⟩
        have hat':Hid (KAt is sc l path.length (k+1) r ow bn):=Lib.hid (fun _=>by
         rcases hr with h | ⟨s,h1,h2,h3⟩
         ·exact .inl h
         ·exact .inr ⟨s,h1,h3,hLe.out.next hal h2 h3⟩)
        have hK15:=Lib.hid (hK.out.nope hf15)
        clear hSk hr hcs hcp
        simp only [putL,List.foldl_cons,List.foldl_nil,Act.put,List.setIfInBounds_toArray,List.set_cons_zero,List.set_cons_succ]
        go_wp2
        go_roundg (path.length+1 - (k+1))
        case measure=>omega
        case rel=>exact ⟨so,sb,ow,bn,r,z,k+1,by omega,rfl,rfl,rfl,rfl,by go_num,hat',hK15,hf.then hf15,rfl⟩
      ·have hkn':¬(k:Int) < (path.length:Int):=by omega
       go_wp2
       go_roundg (path.length+1 - (k+1))
       case measure=>omega
       case rel=>exact ⟨so,sb,ow,bn,(a:Int),z,k+1,by omega,rfl,rfl,rfl,rfl,by go_num,Lib.hid (fun h=>absurd h (by omega)),hK,hf,rfl⟩
end
section
open Go Go.RowKit Bth
set_option maxRecDepth 100000
theorem apartW_sc {ns:List PN} {f:Nat→Option Nat} {l:List (Nat × Nat)} {sc:Nat→List (Option Nat)} (hr:AFRes ns (some f)) (hok:AFOk ns) (he:ofPairs l=f) (hG:GraphP ns sc):ApartW (insP ns) sc (aid l):=by
 obtain ⟨sc',hG',h⟩:=apartW_of hr hok he
 intro i p hp x hx c b hl hb hne
 rw [LiveOutP.congr (hG.uniq hG')] at hl
 exact h i p hp x hx c b hl hb hne
theorem aid_small {ns:List PN} {f:Nat→Option Nat} {l:List (Nat × Nat)} (hr:AFRes ns (some f)) (hu:UsualP ns) (he:ofPairs l=f) {id:Nat} (h:id < 4294967296):aid l id < 4294967296:=by
 unfold aid
 rw [he]
 cases e:f id with
 | none=>exact h
 | some p=>exact (af_given hr (fun k ⟨p,hp,g,hg,e⟩=>by rw [← e];exact hu.kind p hp g (by unfold PI.gs;simp [hg])) id p e).2.2.1
set_option maxHeartbeats 4000000 in
theorem FnKeeps_calls (w:World) (B:Nat) (s:SV) (ns:List PN) (hN:NodesAt w B s ns) (hB:B≤w.heap.size) (hb:BulkP ns) (s2:SV) (zs:List Int) (hz:IntsAt w s2 zs):Calls Tryz.prog 4 #[s.val,s2.val] w (GivesB w true):=by
 have hZ:=zz5_calls w B s ns hN
 have hA:=fun W (hW:Fr nope w W)=>allocated_calls W B s ns (hN.fr hW (fun _ _ x=>x)) (Nat.le_trans hB hW.size) hb
 have hFG:=fun W (hW:Fr nope w W) (hok:ns.all okN=true)=>FlowGraph_calls W B s ns (hN.fr hW (fun _ _ x=>x)) hok
 have hI:=fun W (hW:Fr nope w W)=>Instrs_calls W B s ns (hN.fr hW (fun _ _ x=>x))
 have hat:=fun W (hW:Fr nope w W) (hok:ns.all okN=true)=>insP_at (hN.fr hW (fun _ _ x=>x)) hok
 have hlen:(insP ns).length≤1048576:=by
  have h1:=hN.few
  have:(insP ns).length≤ns.length:=by unfold insP;rw [List.length_map];exact List.length_filter_le _ _
  omega
 obtain ⟨A,n,c⟩:=s
 obtain ⟨A5,n5,c5⟩:=s2
 obtain rfl:n5=zs.length:=hz.len
 have hzr:=hz.row
 have hzf:=hz.few
 simp only [SV.val] at hZ hA hFG hI ⊢
 clear hN hz
 replace hA:=Lib.hid hA
 replace hFG:=Lib.hid hFG
 replace hI:=Lib.hid hI
 replace hat:=Lib.hid hat
 replace hlen:=Lib.hid hlen
 replace hb:=Lib.hid hb
 have hzm:¬(2147483647:Int) < (zs.length:Int):=by omega
 go_enter Tryz.func4,Tryz.ntmps4
 go_wp2_with fail
 refine hZ.mono ?_
 rintro e w1 ⟨hf1,b,rfl⟩
 clear hZ
 cases b with
 | false=>
  go_wp2
  go_ret
  exact ⟨rfl,hf1⟩
 | true=>
 go_wp2_with fail
 refine (hA.out _ hf1).mono ?_
 rintro e w2 ⟨hf2,⟨x,y,rfl⟩ | ⟨A2,c2,l,A3,c3,ns',f,rfl,hpa,hll,hef,haf,hao,hu,hN',hBN⟩⟩
 ·go_wp2
  go_ret
  exact ⟨rfl,hf1.then hf2⟩
 have hn2:=hf1.then hf2
 have hok:=Lib.hid hu.2.1
 clear hN' hBN
 replace hef:=Lib.hid hef
 replace haf:=Lib.hid haf
 replace hao:=Lib.hid hao
 replace hu:=Lib.hid hu
 by_cases hmost:(2000:Int) < (zs.length:Int)
 ·go_wp2
  go_ret
  exact ⟨rfl,hn2⟩
 go_wp2_with fail
 refine (hFG.out _ hn2 hok.out).mono ?_
 rintro e w3 ⟨hf3,⟨A4,c4,D,d,sc,rfl,hG,hS⟩ | ⟨rfl,hbad⟩⟩
 rotate_left
 ·obtain ⟨sc,hG,_⟩:=af_apart haf.out hao.out
  exact absurd hG (hbad sc)
 have hn3:=hn2.then hf3
 have hap:=apartW_sc haf.out hao.out hef.out hG
 have hai:∀ id,id < 4294967296→aid l id < 4294967296:=fun id h=>aid_small haf.out hu.out hef.out h
 have hsl:∀ k,k < (insP ns).length→(sc k).length≤1048576:=fun k hk=>Nat.le_trans (hG.lt.2 k hk) (by decide)
 replace hap:=Lib.hid hap
 replace hai:=Lib.hid hai
 replace hsl:=Lib.hid hsl
 replace hS:=Lib.hid hS
 clear hG
 go_wp2_with fail
 refine (hI.out _ hn3).mono ?_
 rintro e w4 ⟨hf4,Aa,ca,rfl,hins⟩
 have hn4:=hn3.then hf4
 have hat4:=hat.out _ hn4 hok.out
 have hops:=Lib.hid (okA_of hat4)
 go_wp2_with fail
 refine (Accesses_calls w4 Aa ca B _ hins hat4 hlen.out).mono ?_
 rintro e w5 ⟨hf5,A6,c6,A7,c7,rfl,hR,hW⟩
 have hn5:=hn4.then hf5
 replace hR:=Lib.hid hR
 replace hW:=Lib.hid hW
 clear hins hat4
 go_wp2_with fail
 refine (Keeps_calls w5 (insP ns) sc A6 A7 A4 A5 A2 c6 c7 c4 c5 c2 zs l hops.out hlen.out hR.out hW.out (hS.out.nope (hf4.then hf5)) hsl.out (hzr.nope hn5) hzf (hpa.fr (hf3.then (hf4.then hf5))) hll hap.out hai.out).mono ?_
 rintro e w6 ⟨rfl,hf6⟩
 go_wp2
 go_ret
 exact ⟨rfl,hn5.then hf6⟩
end
section
open Go Go.RowKit Go.ChangeShapes Go.WideShapes Go.ChangeAt Bth
set_option maxRecDepth 100000
theorem ownK:ownKnob Tryz.prog.godebug=none:=by kernel_rfl
theorem laidOutP:laidOutB Tryz.prog=true:=by kernel_rfl
theorem row_contract (H:Type) (enc:TypeId × Value→H) (W:World) (base:Nat) (args:Array Value) (ds gs:List (DataW H)) (before:List MemPlace)
  (hval:∀ (j:Nat) t v,Tryz.f4.params[j]? = some t→args[j]? = some v→Value.okWide Tryz.prog W .any base t v)
  (hW:DataW.Whole enc Tryz.prog Tryz.f4.params.toList Rows.fnKeepsSpec.vars false W args.toList ds gs before) (hk:Rows.uptoSmall H (ds ++ gs)=true):
  Calls Tryz.prog 4 args W fun e W'=>∃ v,e = .returned v∧Rows.fnKeepsSpec.post enc Tryz.prog Tryz.f4 false true false false W args v W':=by
 have hW':=hW
 obtain ⟨p,q,hA0,hV,rfl,hfz,hnd⟩:=hW
 have hA:DataW.TrodAll enc Tryz.prog W 0 (fun _=>true) true Tryz.f4.params.toList args.toList ds p:=hA0
 rw [Tryz.params4] at hA hval
 obtain ⟨v0,v1,d0,d1,p0,p1,rfl,rfl,rfl,h0,h1⟩:=trodAll_two hA
 obtain ⟨rfl,rfl⟩:=trodVars_none hV
 obtain ⟨a0,len,cap,rfl⟩:=okWide_slice Tryz.underlying22 (hval 0 22 v0 rfl rfl)
 obtain ⟨a1,len1,cap1,rfl⟩:=okWide_slice Tryz.underlying23 (hval 1 23 v1 rfl rfl)
 have h0k:=h0
 have h1k:=h1
 obtain ⟨fuel,hf⟩:=h0
 obtain ⟨fuel1,hf1⟩:=h1
 have hlt:∀ x∈p0,x.block < W.heap.size:=fun x hx=>hW'.lt x (by simp [hx])
 have hlt1:∀ x∈p1,x.block < W.heap.size:=fun x hx=>hW'.lt x (by simp [hx])
 have hkb:Rows.uptoBulk d0≤1048576∧Rows.uptoBulk d1≤1048576:=by
  have h:Rows.uptoBulkAll ([d0,d1] ++ ([]:List (DataW H)))≤1048576:=of_decide_eq_true hk
  simp only [List.append_nil,Rows.uptoBulkAll] at h
  omega
 obtain ⟨s,ns,hs,hN,hB⟩:=rd_nodes (by simpa [Value.cells] using hf) hkb.1
 obtain ⟨s2,zs,hs2,hz⟩:=rd_ints (by simpa [Value.cells] using hf1) hkb.2
 clear hA0
 rw [hs] at h0k hW' ⊢
 rw [hs2] at h1k hW' ⊢
 refine (FnKeeps_calls W W.heap.size s ns hN (Nat.le_refl _) hB s2 zs hz).mono ?_
 rintro e W' ⟨rfl,hfr⟩
 have hbel:=hfr.below
 refine ⟨_,rfl,_,_,_,[],p0 ++ p1,[],hW',trodAll_mk1 (shut_bool Tryz.underlying4 _),?_,rfl,hbel.frame _,fun h=>by cases h⟩
 rw [Tryz.params4]
 exact trodAll_mk2 (Below.trod laidOutP (by kernel_rfl) (of_decide_eq_true (by kernel_rfl)) h0k hbel hlt) (Below.trod laidOutP (by kernel_rfl) (of_decide_eq_true (by kernel_rfl)) h1k hbel hlt1)
theorem row_lifted (os:Os) (started:os.Started) (H:Type) (enc:TypeId × Value→H) (F:Stop.Interp):
  ReturnsInHanded {} Tryz.checked os 4 .any ((Rows.OpenSpec.upto Rows.fnKeepsSpec).pre6 enc Tryz.prog Tryz.f4 Rows.fnKeepsUptoRow.domain false) (((Rows.OpenSpec.upto Rows.fnKeepsSpec).at F).post enc Tryz.prog Tryz.f4 false true false false):=by
 refine returnsInHanded_of_cond (C:=Tryz.checked) (s:=Rows.OpenSpec.upto Rows.fnKeepsSpec) (k:=Rows.uptoSmall) rfl ownK started (by kernel_rfl) Tryz.func4
  (OpenSpec.witness (enc:=enc) (C:=Tryz.checked) (s:=Rows.OpenSpec.upto Rows.fnKeepsSpec) (k:=Rows.uptoSmall) rfl false ⟨#[],#[.slice none 0 0,.slice none 0 0],[]⟩ 8 (by kernel_rfl) (by kernel_rfl) (by kernel_rfl)
   (x:=([.nil,.nil],[],[])) (by kernel_rfl) rfl (by kernel_rfl)) ?_
 intro W base args ds gs before hval hW _ hk _
 exact row_contract H enc W base args ds gs before hval hW hk
theorem hfnT:Tryz.pinned.checked.prog.funcNamed Rows.fnKeepsUptoRow.func=some 4:=by kernel_rfl
set_option maxHeartbeats 8000000 in
theorem closedT:joinedFacts Tryz.pinned.checked.prog 4 Tryz.f4 (Rows.OpenSpec.upto Rows.fnKeepsSpec).bare Rows.fnKeepsUptoRow=true:=by
 unfold joinedFacts
 simp only [Bool.and_eq_true]
 refine ⟨⟨⟨⟨⟨⟨⟨⟨⟨⟨⟨⟨⟨⟨⟨⟨⟨⟨⟨⟨⟨⟨⟨⟨⟨⟨⟨⟨⟨⟨⟨?_,?_⟩,?_⟩,?_⟩,?_⟩,?_⟩,?_⟩,?_⟩,?_⟩,?_⟩,?_⟩,?_⟩,?_⟩,?_⟩,?_⟩,?_⟩,?_⟩,?_⟩,?_⟩,?_⟩,?_⟩,?_⟩,?_⟩,?_⟩,?_⟩,?_⟩,?_⟩,?_⟩,?_⟩,?_⟩,?_⟩,?_⟩<;>as_aux_lemma=>kernel_rfl
theorem hinstT:Tryz.f4.isInstance Tryz.pinned.checked.prog Rows.fnKeepsUptoRow.origin Rows.fnKeepsUptoRow.targs:=of_decide_eq_true (by kernel_rfl)
theorem hwrapT:Tryz.f4.isWrapper Tryz.pinned.checked.prog Rows.fnKeepsUptoRow.wrapper Rows.fnKeepsUptoRow.mainSum:=by
 unfold Func.isWrapper
 first | (rw [if_pos (by decide +kernel)];kernel_rfl) | (rw [if_neg (by decide +kernel)];exact ⟨rfl,rfl⟩)
theorem fnKeeps_upto:Rows.FnKeepsUptoSaid:=
 OpenClaim.holds_of_cond 4 Tryz.f4 rfl rfl rfl rfl rfl rfl rfl ⟨rfl,rfl,rfl,rfl,rfl⟩ rfl rfl rfl rfl rfl hfnT Tryz.func4 closedT hinstT hwrapT
  (fun os started H enc _ F=>row_lifted os started H enc F)
end
end Go.Proofs.YtjlfkgjmgghhiaaGreat
