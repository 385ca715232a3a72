/- Part of the proof of a statement about pub-berthage: what its texts have in common. -/
import Derived.Deep.QuietTactic
import Derived.BigQuiet
import Derived.Test.YtjlfkgjmgghhiaaGreatP23
import Derived.Test.YtjlfkgjmgghhiaaGreatP24
import Derived.Test.YtjlfkgjmgghhiaaGreatP27
namespace Go.Proofs.YtjlfkgjmgghhiaaGreat
section
open Go Go.RowKit Go.MapKept Bth
set_option maxRecDepth 100000
def MidK (k:Nat) (l:List Nat) (x:Al):Prop:=∃ ids,ids.Nodup∧(∀ j,j∈ids↔j∈freeK k)∧x.prio=prs l∧SortedOf (ltP x.prio) ids x.regs∧x.al=(fun _=>none)∧x.edges=[]∧x.poss=fun _=>none
def DoneK (k:Nat) (x:Al):Prop:=x.regs=regsK k∧x.al=(fun _=>none)∧x.edges=[]∧x.poss=fun _=>none
theorem MidK.done {k:Nat} (hk:k≤3) {fb:Nat} {x:Al} (h:MidK k (bpIds (famRegs fb k)) x):DoneK k x:=by
 obtain ⟨ids,h1,h2,h3,h4,h5,h6,h7⟩:=h
 rw [bpIds_fb] at h3
 rw [h3] at h4
 exact ⟨regsK_of hk h1 h2 h4,h5,h6,h7⟩
theorem MidK.len {k:Nat} (hk:k≤3) {l:List Nat} {x:Al} (h:MidK k l x):x.regs.length < 4611686018427387904:=by
 obtain ⟨ids,h1,h2,h3,h4,_⟩:=h
 obtain ⟨g1,g2,g3,_,_,g6,_⟩:=regsK_facts k (by omega)
 have:=h4.1.length_eq
 have h5:ids.length≤(regsK k).length:=nodup_le h1 fun x hx=>g2 x ((h2 x).1 hx)
 omega
theorem MidK.step {k:Nat} {l:List Nat} {x:Al} (h:MidK k l x) {id:Nat} {ys:List Nat} (hy:SortedOf (ltP (setPr x.prio id (-1))) x.regs ys):MidK k (l ++ [id]) { x with regs:=ys,prio:=setPr x.prio id (-1) }:=by
 obtain ⟨ids,h1,h2,h3,h4,h5⟩:=h
 exact ⟨ids,h1,h2,by rw [prs_snoc,h3],⟨hy.1.trans h4.1,hy.2⟩,h5⟩
theorem AS.turnSame {w0 w w':World} {mb:Nat} {K:List Nat} {gs:Nat→AlG} {xs:Nat→Al} {Ps:Nat→Nat→Prop} (h:AS w0 w mb K gs xs Ps) {k:Nat} (hk:k∈K) {x:Al} (ha:AlAt w' (Ps k) x (gs k)) (hf:Fr (Ps k) w w'):
  AS w0 w' mb K gs (updF xs k x) (updF Ps k (wider (Ps k) w w')):=by
 have:=h.turn hk rfl (ha.more (fun c hc=>.inl hc) (wider_lt (h.at_ k hk).lt hf.size)) hf
 have e:updF gs k (gs k)=gs:=by funext j;unfold updF;split;rename_i e;rw [e];rfl
 rw [e] at this
 exact this
set_option maxHeartbeats 4000000 in
theorem phB (w0 w:World) (fs:Nat→Option Nat) (ns:List PN) (fb:Nat) (f:Fn) (nds:List Nd) (rs:List Rec) (cms:List (Nat × List ByteArray)) (mm:Bool→Nat→Nat) (V:Sets) (U:List Nat) (hin:ARIn w0 fs ns fb f nds rs cms mm V U)
  (mb:Nat) (K:List Nat) (gs:Nat→AlG) (xs:Nat→Al) (Ps:Nat→Nat→Prop) {u1 u2 u4 u5 u6 u7 u8 u9 u10 u11 u12 u13 u14 u15 u16 u17 u18 u19 u20 u21 u22 u23 u24 u25 u26 u27 u28 u29 u30 u31 u32 u33 u34 u35 u36 u37 u38 u39 u40 u41 u42 u43 u44 u45 u46 u47 u48 u49 u50 u51 u52 u53 u54 u55 u56 u57 u58 u59 u60 u61 u62 u63 u64 u65 u66 u67 u68 u69 u70 u71 u72 u73 u74 u75 u76 u77 u78 u79 u80 u81 u82 u83 u84 u85 u86 u87 u88 u89 u90 u91 u92 u93 u94 u95 u96 u97 u98 u99 u100 u101 u102 u103 u104 u105 u106 u107 u108 u109 u110 u111 u112 u113 u114 u115 u116 u117 u118 u119 u120 u121 u122 u123 u124 u125 u126 u127 u128 u129 u130 u131 u132 u133 u134 u135 u136 u137 u138 u139 u140 u141 u142 u143 u144 u145 u146 u147 u148 u149 u150 u151 u152 u153 u154 u155 u156 u157 u158 u159 u160 u161 u162 u163 u164 u165 u166 u167 u168 u169 u170 u171 u172 u173 u174 u175 u176 u177 u178 u179 u180 u181 u182 u183 u184:Value} (hA:AS w0 w mb K gs xs Ps) (hfr:Fr nope w0 w) (hK:∀ k,k∈K↔kindsOf rs k)
  (hR:∀ k∈K,MidK k [] (xs k)):
  Code.wp Tryz.prog (arTail 3) (bodyPost Tryz.prog Tryz.f65 (GivesRB w0 fb f rs V)) ⟨#[.pointer (some ⟨fb,0,none⟩),u1,u2,.map (some mb),u4,u5,u6,u7,u8,u9,u10,u11,u12,u13,u14,u15,u16,u17,u18,u19,u20,u21,u22,u23,u24,u25,u26,u27,u28,u29,u30,u31,u32,u33,u34,u35,u36,u37,u38,u39,u40,u41,u42,u43,u44,u45,u46,u47,u48,u49,u50,u51,u52,u53,u54,u55,u56,u57,u58,u59,u60,u61,u62,u63,u64,u65,u66,u67,u68,u69,u70,u71,u72,u73,u74,u75,u76,u77,u78,u79,u80,u81,u82,u83,u84,u85,u86,u87,u88,u89,u90,u91,u92,u93,u94,u95,u96,u97,u98,u99,u100,u101,u102,u103,u104,u105,u106,u107,u108,u109,u110,u111,u112,u113,u114,u115,u116,u117,u118,u119,u120,u121,u122,u123,u124,u125,u126,u127,u128,u129,u130,u131,u132,u133,u134,u135,u136,u137,u138,u139,u140,u141,u142,u143,u144,u145,u146,u147,u148,u149,u150,u151,u152,u153,u154,u155,u156,u157,u158,u159,u160,u161,u162,u163,u164,u165,u166,u167,u168,u169,u170,u171,u172,u173,u174,u175,u176,u177,u178,u179,u180,u181,u182,u183,u184],[]⟩ w:=by
 conv=>arg 2;whnf
 obtain ⟨ks,hmap⟩:=hA.map
 have hks:∀ k,k∈ks↔k∈K:=fun k=>by rw [hmap.mem_iff];unfold asF;by_cases h:k∈K<;>simp [h]
 have hks0:=hmap.nodup
 have hml:=hA.lt
 have hPs0:∀ k∈K,∀ c,Ps k c→c < w.heap.size:=fun k hk c hc=>(hA.at_ k hk).lt c hc
 have hK3:∀ k∈K,k≤3:=fun k hk=>by
  obtain ⟨r,hr,d,hd,rfl⟩:=(hK k).1 hk
  exact hin.kinds r hr d hd
 replace hks:=Lib.hid hks
 go_wp2_with (refine wpList_rangeO rfl rfl rfl (show MapO w (some mb) kindV ks (asF K gs) from hmap) kindInj asT ?_;intro w1 hrg0 hf1 hsz1)
 go_frame
 have hA1:=hA.still hf1
 have hw1:=hfr.then hf1
 replace hsz1:=Lib.hid hsz1
 clear hmap
 go_loopg [] ks.length (fun n wr=>∃ (todo D:List Nat) (xs':Nat→Al) (Ps':Nat→Nat→Prop),RangeO wr w.heap.size (some mb) kindV ks (asF K gs) todo∧AS w0 wr mb K gs xs' Ps'∧(∀ k∈K,∀ c,Ps' k c→Ps k c∨w1.heap.size≤c)∧KInv ks todo D∧(∀ k∈todo,MidK k [] (xs' k))∧(∀ k∈D,DoneK k (xs' k))∧w1.heap.size≤wr.heap.size∧Fr nope w0 wr∧todo.length=n)
 case atStart=>exact ⟨ks,[],xs,Ps,hrg0,hA1,fun k hk c hc=>.inl hc,⟨hks0,List.nodup_nil,by simp,by simp⟩,fun k hk=>hR k ((hks.out k).1 hk),by simp,Nat.le_refl _,hw1,rfl⟩
 case round=>
  obtain ⟨todo,D,xs',Ps',hrg,hAS,hPs,hI,hmid,hdone,hsz,hf,rfl⟩:=hrel
  go_upto_if 76 with (refine wpList_nextO rfl rfl rfl hrg kindInj ?_ ?_)
  ·intro h0
   subst h0
   have hDK:∀ k,k∈K→k∈D:=fun k hk=>by
    have:=(hI.mem k).1 ((hks.out k).2 hk)
    simpa using this
   go_upto_if 76 with (fail)
   iterate 4 (first | go_step | go_back)
   exact phC w0 wr fs ns fb f nds rs cms mm V U hin mb K gs xs' Ps' hAS hf hK (fun k hk=>hdone k (hDK k hk))
  ·intro k v w2 hkt hkk hv hrg2 hf2 hs2 hen
   have hkK:=(hks.out k).1 hkk
   obtain rfl:v=ptr (gs k).a:=by
    unfold asF at hv
    rw [if_pos hkK] at hv
    exact (Option.some.inj hv).symm
   have hk3:=hK3 k hkK
   have hI1:=hI.step hkt
   have hkD:k∉D:=fun hh=>hI.ap k hh hkt
   have hnd:=hI.nd
   have hlen:(todo.erase k).length < todo.length:=by rw [List.length_erase_of_mem hkt];have:=List.length_pos_of_mem hkt;omega
   have hr0:∀ j∈K,¬Ps' j w.heap.size:=fun j hj hp=>by
    have h11:=hsz1.out
    rcases hPs j hj _ hp with h | h
    ·have:=hPs0 j hj _ h;omega
    ·omega
   have hAS2:=hAS.keep hf2 (fun j hj c hc e=>hr0 j hj (e ▸ hc)) (by omega)
   have hf02:Fr nope w0 w2:=hf.then_new hf2 (fun c hc e=>by have:=hfr.size;omega)
   have hPl2:∀ j∈K,∀ c,Ps' j c→c < w2.heap.size:=fun j hj c hc=>(hAS2.at_ j hj).lt c hc
   have hmk:=hmid k hkt
   unfold ptr kindV at hen
   have hs22:wr.heap.size≤w2.heap.size:=Nat.le_of_eq hs2.symm
   replace hs2:=Lib.hid hs2
   replace hI:=Lib.hid hI
   clear hv hrg
   go_wp2_with (first
    | (go_at_call 102;refine (FamilyOfKind_calls _ k hk3).mono ?_;rintro e w3 ⟨rfl,vf,hF,hO,hf3⟩)
    | (go_at_call 103;refine (Registers_fam_calls w3 w2.heap.size k vf _ (famRegs w2.heap.size k) hF hO (by have:=famRegs_len w2.heap.size k;omega)).mono ?_;rintro e w4 ⟨u,rfl,hu,hf4⟩;rw [List.length_map] at hu;obtain ⟨A4,c4,rfl,_,_⟩:=own_slice hu))
   have hreg:=famRegs_ok (fb:=w2.heap.size) hk3
   have hRl:=famRegs_len w2.heap.size k
   have hb4:=own_base hu
   have hl4:=own_lt hu
   have hs3:=hf3.size
   have hs4:=hf4.size
   have hFl:=lt_of_heap hF
   have hAS4:=(hAS2.still hf3).still hf4
   have hSu:=own_Sl hu
   have hF4:=hf4.heap hF (fun x=>x)
   have hrg4:=(hrg2.fr hf3 (fun x=>x) (fun _ _ x=>x)).fr hf4 (fun x=>x) (fun _ _ x=>x)
   have hf04:=(hf02.then hf3).then hf4
   replace hb4:=Lib.hid hb4
   replace hl4:=Lib.hid hl4
   obtain ⟨wo,rfl⟩:∃ wo:World,wo=wr:=⟨_,rfl⟩
   generalize hrsF:famRegs w2.heap.size k=rsF at hreg hRl hSu ⊢
   replace hrsF:=Lib.hid hrsF
   clear hu hO
   go_loopg [85] rsF.length (fun n c85 wr=>∃ (j:Nat) (xs'':Nat→Al) (Ps'':Nat→Nat→Prop),j≤rsF.length∧c85 = .int .i64 (j:Int)∧RangeO wr w.heap.size (some mb) kindV ks (asF K gs) (todo.erase k)∧AS w0 wr mb K gs xs'' Ps''∧(∀ i∈K,∀ c,Ps'' i c→Ps' i c∨w4.heap.size≤c)∧MidK k (bpIds (rsF.take j)) (xs'' k)∧(∀ i,i≠k→xs'' i=xs' i) ∧
    Sl wr A4 rsF.length (rsF.map R.val)∧FamAt wr w2.heap.size k vf∧w4.heap.size≤wr.heap.size∧Fr nope w0 wr∧n=rsF.length - j)
   case atStart=>exact ⟨0,xs',Ps',Nat.zero_le _,rfl,hrg4,hAS4,fun _ _ c hc=>.inl hc,hmk,fun _ _=>rfl,hSu,hF4,Nat.le_refl _,hf04,rfl⟩
   case round=>
    clear hAS hAS2 hAS4 hrg2 hrg4 hF4 hSu hF hmk
    obtain ⟨j,xs'',Ps'',hj,rfl,hrg,hAS,hPs2,hmk,hoth,hSu,hF,hsz4,hf',rfl⟩:=hrel
    by_cases hjl:j < rsF.length
    ·obtain ⟨b3,off3,u,hA4e,hbl3,hu,hc3⟩:=hSu.at_ hjl
     rw [List.getElem?_map] at hu
     obtain ⟨d,hd,rfl⟩:=Option.map_eq_some_iff.1 hu
     obtain ⟨hdv,hd2,hd3,ok⟩:=hreg d (List.mem_of_getElem? hd)
     have hat:=hF.reg d hd2 hd3
     have hb3:=hb4.out b3 (by rw [hA4e];rfl)
     have hl3:=hl4.out b3 (by rw [hA4e];rfl)
     have hT:=bpIds_take hd
     have ha:Go.bits .and .u8 (d.info:Int) 4=((d.info &&& 4:Nat):Int):=u8_and d.info 4 ok.info (by omega)
     obtain ⟨m,hm⟩:∃ m,d.info &&& 4=m:=⟨_,rfl⟩
     rw [hm] at ha hT
     replace hm:=Lib.hid hm
     replace hT:=Lib.hid hT
     replace hd2:=Lib.hid hd2
     replace hd3:=Lib.hid hd3
     clear hu hd
     subst hA4e
     obtain ⟨wo2,rfl⟩:∃ wo2:World,wo2=wr:=⟨_,rfl⟩
     by_cases hz:m=0
     ·subst hz
      go_wp2_with (refine wpList_Info rfl rfl rfl hdv ?_;intro w5 hf5)
      have hs5:=hf5.size
      go_roundg (rsF.length - (j+1))
      case measure=>omega
      case rel=>exact ⟨j+1,xs'',Ps'',by omega,by go_num,hrg.fr hf5 (fun x=>x) (fun _ _ x=>x),hAS.still hf5,hPs2,by rw [hT.out];simpa using hmk,hoth,hSu.nope hf5,hf5.heap hF (fun x=>x),by omega,hf'.then hf5,rfl⟩
     ·have hzz:((m:Int) == 0)=false:=by rw [beq_eq_false_iff_ne];omega
      go_upto_region 25 with (refine wpList_Info rfl rfl rfl hdv ?_;intro w5 hf5)
      have hs5:=hf5.size
      have hcall:∀ W,Fr nope w5 W→Calls Tryz.prog 104 #[.pointer (some ⟨(gs k).a,0,none⟩),.int .u32 (d.id:Int),.int .i64 (-1)] W _:=fun W hW=>
       SetPrio_calls W (Ps'' k) (xs'' k) (gs k) d.id (-1) (((hAS.still hf5).still hW).at_ k hkK) (fun v=>by obtain ⟨_,_,_,_,_,_,_,h7⟩:=hmk;rw [h7]) (hmk.len hk3)
      go_wp2_with (first
       | (refine wpList_ID rfl rfl rfl ok (hat.nope hf5) ?_;intro w6 hf6)
       | (go_at_call 104;refine (hcall _ hf6).mono ?_;rintro e w7 ⟨rfl,ys,hys,h7,hf7⟩))
      have hs6:=hf6.size
      have hs7:=hf7.size
      have hAS6:=(hAS.still hf5).still hf6
      have hAS7:=hAS6.turnSame hkK h7 hf7
      have hnot:∀ b,(b=w.heap.size∨(w2.heap.size≤b∧b < w4.heap.size))→¬Ps'' k b:=fun b hb hp=>by
       rcases hPs2 k hkK b hp with h | h
       ·rcases hb with rfl | hb
        ·exact hr0 k hkK h
        ·have:=hPl2 k hkK b h;omega
       ·rcases hb with rfl | hb
        ·have:=hsz1.out;omega
        ·omega
      go_roundg (rsF.length - (j+1))
      case measure=>omega
      case rel=>
       refine ⟨j+1,_,_,by omega,by go_num,((hrg.fr hf5 (fun x=>x) (fun _ _ x=>x)).fr hf6 (fun x=>x) (fun _ _ x=>x)).fr hf7 (hnot _ (.inl rfl)) (fun b hb hp=>by injection hb with hb;subst hb;exact (hAS.new k hkK _ hp).2 rfl),hAS7,fun i hi c hc=>?_,?_,fun i hi=>by rw [updF_ne _ _ hi];exact hoth i hi,((hSu.nope hf5).nope hf6).fr hf7 (fun _ b o e=>?_),hf7.heap (hf6.heap (hf5.heap hF (fun x=>x)) (fun x=>x)) (hnot _ (.inr ⟨Nat.le_refl _,by omega⟩)),by omega,hAS6.fr ((hf'.then hf5).then hf6) hkK hf7,rfl⟩
       ·by_cases ek:i=k
        ·subst ek
         rw [updF_self] at hc
         rcases hc with hc | hc
         ·exact hPs2 i hi c hc
         ·exact .inr (by omega)
        ·rw [updF_ne _ _ ek] at hc
         exact hPs2 i hi c hc
       ·rw [updF_self,hT.out,if_neg hz]
        exact hmk.step hys
       ·injection e with e
        injection e with e _
        subst e
        exact hnot _ (.inr ⟨by omega,hl3⟩)
    ·have hje:j=rsF.length:=by omega
     subst hje
     go_wp2
     go_roundg (todo.erase k).length
     case measure=>exact hlen
     case rel=>
      rw [List.take_length,← hrsF.out] at hmk
      refine ⟨_,D ++ [k],xs'',Ps'',hrg,hAS,fun i hi c hc=>(hPs2 i hi c hc).elim (fun h=>hPs i hi c h) (fun h=>.inr (by omega)),hI1,fun i hi=>?_,fun i hi=>?_,by omega,hf',rfl⟩
      ·have hik:i≠k:=fun e=>by subst e;exact ((List.Nodup.mem_erase_iff hnd).1 hi).1 rfl
       rw [hoth i hik]
       exact hmid i (List.mem_of_mem_erase hi)
      ·rcases List.mem_append.1 hi with hi | hi
       ·rw [hoth i (fun e=>hkD (by rw [← e];exact hi))];exact hdone i hi
       ·obtain rfl:i=k:=by simpa using hi
        exact hmk.done hk3
end
section
open Go Go.RowKit Go.MapKept Bth
set_option maxRecDepth 100000
theorem MidK.new {k:Nat} {x:Al} (h:NewK k x) (hp:x.prio=fun _=>none):MidK k [] x:=by
 obtain ⟨ids,h1,h2,h3,h4,h5,h6⟩:=h
 exact ⟨ids,h1,h2,hp,h3,h4,h5,h6⟩
theorem AS.start (w0:World) (gs:Nat→AlG) (xs:Nat→Al) (Ps:Nat→Nat→Prop):AS w0 (w0.alloc (.map #[] 0)) w0.heap.size [] gs xs Ps:=
 ⟨⟨[],by
  have e:asF [] gs=fun _=>none:=by funext k;simp [asF]
  rw [e];exact MapAt.made w0 kindV⟩,by simp,by simp,by simp,by simp,Nat.le_refl _⟩
set_option maxHeartbeats 4000000 in
theorem AllocRegs_calls (w0:World) (fs:Nat→Option Nat) (ns:List PN) (fb:Nat) (f:Fn) (nds:List Nd) (rs:List Rec) (cms:List (Nat × List ByteArray)) (mm:Bool→Nat→Nat) (V:Sets) (U:List Nat) (hin:ARIn w0 fs ns fb f nds rs cms mm V U):
  Calls Tryz.prog 65 #[ptr fb] w0 (GivesRB w0 fb f rs V):=by
 have hmm:=@run_makeMap Tryz.prog
 have hrl:=hin.len
 have hfl0:=lt_of_heap hin.st.fn
 have hw1:Fr nope w0 (w0.alloc (.map #[] 0)):=(Fr.refl _ _).alloc _
 have hI:=hin.instrs _ hw1
 have hA0:=AS.start w0 (fun _=>⟨0,0,0,0,⟨none,0,0⟩,⟨none,0,0⟩,[]⟩) (fun _=>⟨[],fun _=>none,fun _=>none,[],fun _=>none⟩) (fun _ _=>False)
 have hK0:∀ k,k∈([]:List Nat)↔∃ v,AP rs 0 0 k v:=fun k=>by simp only [List.not_mem_nil,false_iff];rintro ⟨v,hv⟩;exact AP.start rs k v hv
 unfold ptr
 go_enter Tryz.func65,Tryz.ntmps65
 go_wp2_with fail
 refine hI.mono ?_
 rintro e w1 ⟨v,rfl,hown,hf1⟩
 simp only [List.length_map] at hown
 obtain ⟨A1,c1,rfl,_,_⟩:=own_slice hown
 have hA1:=hA0.still hf1
 have hSl:=own_Sl hown
 rw [List.map_map] at hSl
 have hfw1:=hw1.then hf1
 have hbase:∀ b,Value.ownBlock (.slice A1 rs.length c1)=some b→w0.heap.size < b:=fun b hb=>by have:=own_base hown b hb;simp at this;omega
 replace hbase:=Lib.hid hbase
 replace hK0:=Lib.hid hK0
 replace hmm:=Lib.hid hmm
 go_wp2
 go_loopg [37] rs.length (fun n c37 wr=>∃ (i:Nat) (K:List Nat) (gs:Nat→AlG) (xs:Nat→Al) (Ps:Nat→Nat→Prop),i≤rs.length∧c37 = .int .i64 (i:Int)∧AS w0 wr w0.heap.size K gs xs Ps∧(∀ k,k∈K↔∃ v,AP rs i 0 k v)∧(∀ k∈K,MidK k [] (xs k))∧Sl wr A1 rs.length (List.map (ptr ∘ fun x=>x.b) rs)∧Fr nope w0 wr∧n=rs.length - i)
 case atStart=>exact ⟨0,[],_,_,_,Nat.zero_le _,rfl,hA1,hK0.out,by simp,hSl,hfw1,rfl⟩
 case round=>
  obtain ⟨i,K,gs,xs,Ps,hi,rfl,hAS,hK,hX,hSr,hf,rfl⟩:=hrel
  by_cases hlt:i < rs.length
  ·obtain ⟨b0,off,u,hA1e,hbl,hu,hc⟩:=hSr.at_ hlt
   rw [List.getElem?_map] at hu
   obtain ⟨r,hr,rfl⟩:=Option.map_eq_some_iff.1 hu
   have hrm:=List.mem_of_getElem? hr
   have hrA0:=(hin.st.recs r hrm).1
   have hrA:=hrA0.nope hf
   have hb:=hrA.own.at_
   have hbl2:=lt_of_heap hb
   have hol:=(hin.ol r hrm).2
   have hOut:=InsRegisters_own wr r.i r.ops hrA.opsAt (by omega)
   have hOl:=regsOf_le r.ops
   have hb0:=hbase.out b0 (by rw [hA1e];rfl)
   simp only [Function.comp,ptr] at hc
   replace hr:=Lib.hid hr
   replace hK:=Lib.hid hK
   obtain ⟨wo,rfl⟩:∃ wo:World,wo=wr:=⟨_,rfl⟩
   clear hu
   subst hA1e
   go_wp2_with (first
    | (refine wpList_loadRow (b:=r.b) rfl rfl rfl hb Tryz.underlying174 rfl (by kernel_rfl) ?_)
    | (go_at_call 100;refine hOut.mono ?_;rintro e w2 ⟨A2,c2,rfl,hO2,hR2,hf2⟩))
   have hb2:=own_base hO2
   have hAS2:=hAS.still hf2
   have hSO:=own_Sl hO2
   have hml:=hAS.lt
   have hs2:=hf2.size
   replace hb2:=Lib.hid hb2
   go_loopg [46] (regsOf r.ops).length (fun n c46 wr=>∃ (j:Nat) (K:List Nat) (gs:Nat→AlG) (xs:Nat→Al) (Ps:Nat→Nat→Prop),j≤(regsOf r.ops).length∧c46 = .int .i64 (j:Int)∧AS w0 wr w0.heap.size K gs xs Ps∧Hid (∀ k,k∈K↔∃ v,AP rs i j k v)∧(∀ k∈K,MidK k [] (xs k))∧Sl wr (some ⟨b0,off,none⟩) rs.length (List.map (ptr ∘ fun x=>x.b) rs)∧Sl wr A2 (regsOf r.ops).length ((regsOf r.ops).map R.val)∧Fr nope w0 wr∧n=(regsOf r.ops).length - j)
   case atStart=>exact ⟨0,K,gs,xs,Ps,Nat.zero_le _,rfl,hAS2,hK,hX,hSr.nope hf2,hSO,hf.then hf2,rfl⟩
   case round=>
    clear hAS hAS2 hX hSr hSO hb hK
    obtain ⟨j,K,gs,xs,Ps,hj,rfl,hAS,hK,hX,hSr,hSd,hf',rfl⟩:=hrel
    by_cases hjl:j < (regsOf r.ops).length
    ·obtain ⟨b3,off3,u,hA2e,hbl3,hu,hc3⟩:=hSd.at_ hjl
     rw [List.getElem?_map] at hu
     obtain ⟨d,hd,rfl⟩:=Option.map_eq_some_iff.1 hu
     have hdm:=List.mem_of_getElem? hd
     have hdA0:=regsOf_at hrA0.opsAt d hdm
     have hb3:=hb2.out b3 (by rw [hA2e];rfl)
     have hd3:d.kind≤3:=hin.kinds r hrm d hdm
     have hAP:=fun k v=>AP.step (k:=k) (v:=v) hr.out hd
     have hKs:∀ k,(∃ v,AP rs i (j+1) k v)↔k∈K∨k=d.kind:=fun k=>by
      rw [hK.out]
      constructor
      ·rintro ⟨v,hv⟩
       rcases (hAP k v).1 hv with h | h
       ·exact .inl ⟨v,h⟩
       ·exact .inr h.1.symm
      ·rintro (⟨v,h⟩ | rfl)
       ·exact ⟨v,(hAP k v).2 (.inl h)⟩
       ·exact ⟨d.id,(hAP _ _).2 (.inr ⟨rfl,rfl⟩)⟩
     replace hKs:=Lib.hid hKs
     clear hu hd hAP
     subst hA2e
     obtain ⟨wo2,rfl⟩:∃ wo2:World,wo2=wr:=⟨_,rfl⟩
     have hat:=hdA0.2.nope hf'
     by_cases hk:d.kind∈K
     ·have hlk:∀ W,Fr nope wo2 W→∃ v,(Instr.lookup 191 (.map (some w0.heap.size)) (.int .u8 (d.kind:Int)) true).run Tryz.prog W = .ok (.tuple #[v,.bool true]) W:=fun W hW=>by
       obtain ⟨v,hv⟩:=(hAS.still hW).look2 d.kind
       exact ⟨v,by rw [hv];simp [hk]⟩
      replace hk:=Lib.hid hk
      go_wp2_with (refine wpList_Kind rfl rfl rfl hat ?_;intro w3 hf3;obtain ⟨v3,hv3⟩:=hlk w3 hf3)
      go_roundg ((regsOf r.ops).length - (j+1))
      case measure=>omega
      case rel=>exact ⟨j+1,K,gs,xs,Ps,by omega,by go_num,hAS.still hf3,Lib.hid fun k=>by rw [hKs.out];exact ⟨.inl,fun h=>h.elim id fun e=>by rw [e];exact hk.out⟩,hX,hSr.nope hf3,hSd.nope hf3,hf'.then hf3,rfl⟩
     ·have hlk:∀ W,Fr nope wo2 W→∃ v,(Instr.lookup 191 (.map (some w0.heap.size)) (.int .u8 (d.kind:Int)) true).run Tryz.prog W = .ok (.tuple #[v,.bool false]) W:=fun W hW=>by
       obtain ⟨v,hv⟩:=(hAS.still hW).look2 d.kind
       exact ⟨v,by rw [hv];simp [hk]⟩
      go_upto_region 12 with (first
       | (refine wpList_Kind rfl rfl rfl hat ?_;intro w3 hf3;obtain ⟨v3,hv3⟩:=hlk w3 hf3)
       | (go_at_call 101;refine (NewAllocK_calls w3 d.kind hd3).mono ?_;rintro e w4 ⟨hf4,g,x,hN,hp,rfl,hat4⟩))
      obtain ⟨w5,hu5,hAS5,hf5⟩:=(hAS.still hf3).add hk hat4 hf4
      have hmk:=MidK.new hN hp
      have hf05:Fr nope w0 w5:=((hAS.still hf3).still hf4).frM ((hf'.then hf3).then hf4) hf5
      replace hk:=Lib.hid hk
      replace hp:=Lib.hid hp
      go_wp2
      go_roundg ((regsOf r.ops).length - (j+1))
      case measure=>omega
      case rel=>
       refine ⟨j+1,K ++ [d.kind],_,_,_,by omega,by go_num,hAS5,Lib.hid fun k=>by rw [hKs.out];simp,fun k hk2=>?_,((hSr.nope hf3).nope hf4).fr hf5 (fun _ b o e=>?_),((hSd.nope hf3).nope hf4).fr hf5 (fun _ b o e=>?_),hf05,rfl⟩
       ·by_cases ek:k=d.kind
        ·subst ek;rw [updF_self];exact hmk
        ·rw [updF_ne _ _ ek];exact hX k (by simpa [ek] using hk2)
       ·injection e with e
        injection e with e _
        subst e
        omega
       ·injection e with e
        injection e with e _
        subst e
        omega
    ·have hje:j=(regsOf r.ops).length:=by omega
     subst hje
     go_wp2
     go_roundg (rs.length - (i+1))
     case measure=>omega
     case rel=>
      exact ⟨i+1,K,gs,xs,Ps,by omega,by go_num,hAS,fun k=>by rw [hK.out];exact exists_congr fun v=>AP.row hr.out,hX,hSr,hf',rfl⟩
  ·obtain rfl:i=rs.length:=by omega
   replace hK:=Lib.hid hK
   go_upto_if 38 with (fail)
   iterate 4 (first | go_step | go_back)
   refine phB w0 wr fs ns fb f nds rs cms mm V U hin w0.heap.size K gs xs Ps hAS hf (fun k=>?_) hX
   rw [hK.out]
   constructor
   ·rintro ⟨v,hv⟩
    obtain ⟨r,hr,d,hd,h1,_⟩:=AP.done.1 hv
    exact ⟨r,hr,d,hd,h1⟩
   ·rintro ⟨r,hr,d,hd,h1⟩
    exact ⟨d.id,AP.done.2 ⟨r,hr,d,hd,h1,rfl⟩⟩
end
section
open Go Go.RowKit Go.MapKept Go.Lib Go.Sort Bth
set_option maxRecDepth 100000
noncomputable def pairsT:TypeInfo:=(Tryz.prog.info? 25).get (by kernel_rfl)
noncomputable def pairT:TypeInfo:=(Tryz.prog.info? 152).get (by kernel_rfl)
theorem pairK (n:Nat) (h2:2≤n):Lib.swapperK n pairT 25=5:=by
 have a:pairT.hasPointers=false:=by kernel_rfl
 have b:pairT.bytes=8:=by kernel_rfl
 have c:(n == 0)=false:=by simp;omega
 have d:(n == 1)=false:=by simp;omega
 simp [Lib.swapperK,a,b,c,d]
def pairV (p:Nat × Nat):List Value:=[idV p.1,idV p.2]
def ltPair (a b:Nat × Nat):Bool:=decide (a.1 < b.1)
theorem swo_ltPair:SWO ltPair where
 irrefl x:=by simp [ltPair]
 trans x y z h1 h2:=by simp [ltPair] at *;omega
 ntrans x y z h1 h2:=by simp [ltPair] at *;omega
def LessOwnP (g:FuncId) (lb:Array Value) (w:World) (base b c n:Nat):Prop:=
 ∀ (W:World) (ys:List (Nat × Nat)),Fr (fun x=>x=b) w W→ys.length=n→W.ownsRow base 152 2 (.slice (some ⟨b,0,none⟩) n c) n (ys.flatMap pairV)→∀ i j:Nat,i < n→j < n →
  Calls Tryz.prog g (#[.int .i64 i,.int .i64 j] ++ lb) W fun e w'=>e = .returned (.bool (ltPair (ys.getD i default) (ys.getD j default)))∧∃ q,w'=W.drewN q
def GivesSortedP (w:World) (base:Nat) (v:Value) (xs:List (Nat × Nat)) (e:Ending) (w':World):Prop:=
 e = .returned (.tuple #[])∧∃ ys,SortedOf ltPair xs ys∧w'.ownsRow base 152 2 v xs.length (ys.flatMap pairV)∧Fr (fun b=>v.ownBlock=some b) w w'
theorem sortPairs_calls (w:World) (base:Nat) (A:Option Addr) (c:Nat) (xs:List (Nat × Nat)) (hown:w.ownsRow base 152 2 (.slice A xs.length c) xs.length (xs.flatMap pairV)) (g:FuncId) (lb:Array Value) (eg:∀ args w,(callFunc g args).run Tryz.prog w = .ok (.enter g args) w)
  (hless:∀ b,A=some ⟨b,0,none⟩→LessOwnP g lb w base b c xs.length) (hsz:xs.length < 4611686018427387904):
  Calls Tryz.prog 112 #[.iface 25 (.slice A xs.length c),.func (.func g) #[] lb] w (GivesSortedP w base (.slice A xs.length c) xs):=by
 have hk2:∀ x:Nat × Nat,(pairV x).length=2:=fun _=>rfl
 by_cases h2:2≤xs.length
 ·obtain ⟨b,rfl,hb,_⟩:=own_cells hown (by omega)
  have hS:=Any.sort_Slice_cells_sorted sl6 25 152 pairsT pairT (by kernel_rfl) (by kernel_rfl) (by kernel_rfl) (by kernel_rfl) 25 (fun _=>by kernel_rfl) pairV 2 hk2 (by kernel_rfl) (fun _=>by kernel_rfl)
   (fun x v hv=>by simp [pairV] at hv;rcases hv with rfl | rfl<;>rfl) ltPair swo_ltPair g lb eg b 0 c xs.toArray (by simpa using h2) (by simpa using hsz)
   175 (by rw [pairK _ (by simpa using h2)];kernel_rfl) true
   (fun args W=>run_callFunc_extern Tryz.func175 (by kernel_rfl) (by kernel_rfl) (by kernel_rfl) (e:=Extern.ReflectliteSwapper.swap true) (by kernel_rfl) args W) w
   (fun m os dk hs i j hi hj=>by
    have hs':dk.size=xs.length:=by simpa using hs
    have hw:=hless b rfl (sorted w b m (flatK pairV 2 dk) os) dk.toList (sorted_fr _ _ _ _ _) (by simpa using hs') (by
     have:=sorted_own (m:=m) (os:=os) (F:=flatK pairV 2 dk) hown (by simp [hs'])
     rw [flatK_list pairV 2 hk2 (by omega) dk.toList] at this
     exact this) i j (by simpa using hi) (by simpa using hj)
    have e1:∀ t,t < xs.length→dk.toList.getD t default=dk[t]!:=fun t ht=>by
     rw [getElem!_pos dk t (by omega),List.getD_eq_getElem?_getD,Array.getElem?_toList,Array.getElem?_eq_getElem (by omega)];rfl
    rw [e1 i (by simpa using hi),e1 j (by simpa using hj)] at hw
    exact hw)
   (own_holdsK hk2 (by omega) hown) hb
  have hsz2:xs.toArray.size=xs.length:=by simp
  rw [hsz2] at hS
  refine Calls.mono hS ?_
  rintro e w' ⟨rfl,d',m,os,hp,hso,rfl⟩
  obtain ⟨h3,h4⟩:=sortedOf_of (by simpa using hp) (by simpa using hso)
  refine ⟨rfl,d'.toList,h3,?_,(sorted_fr w b m _ os).mono fun x _ e=>by rw [e];rfl⟩
  have:=sorted_own (m:=m) (os:=os) (F:=flatK pairV 2 d') hown (by simp [h4])
  rw [flatK_list pairV 2 hk2 (by omega) d'.toList] at this
  exact this
 ·have h1:xs.length=0∨xs.length=1:=by omega
  rcases h1 with h1 | h1
  ·have hS:=Any.sort_Slice_tiny sl6 25 152 pairsT pairT (by kernel_rfl) (by kernel_rfl) (by kernel_rfl) (by kernel_rfl) 25 (fun _=>by kernel_rfl) A xs.length c (by omega) 171 (by rw [h1];kernel_rfl) (.func g) #[] lb w
   refine Calls.mono hS ?_
   rintro e w' ⟨rfl,os,rfl⟩
   exact ⟨rfl,xs,.tiny (by omega),own_fr hown (fr_grow w os) (fun _ _ x=>x),(fr_grow w os).of_nope⟩
  ·have hS:=Any.sort_Slice_tiny sl6 25 152 pairsT pairT (by kernel_rfl) (by kernel_rfl) (by kernel_rfl) (by kernel_rfl) 25 (fun _=>by kernel_rfl) A xs.length c (by omega) 172 (by rw [h1];kernel_rfl) (.func g) #[] lb w
   refine Calls.mono hS ?_
   rintro e w' ⟨rfl,os,rfl⟩
   exact ⟨rfl,xs,.tiny (by omega),own_fr hown (fr_grow w os) (fun _ _ x=>x),(fr_grow w os).of_nope⟩
theorem pairs_get {ys:List (Nat × Nat)} {i:Nat} {p:Nat × Nat} (h:ys[i]? = some p):(ys.flatMap pairV)[i*2]? = some (idV p.1):=by
 induction ys generalizing i with
 | nil=>simp at h
 | cons a ys ih=>
  cases i with
  | zero=>simp only [List.getElem?_cons_zero,Option.some.injEq] at h;subst h;rfl
  | succ i=>
   simp only [List.getElem?_cons_succ] at h
   rw [List.flatMap_cons,Nat.succ_mul,List.getElem?_append_right (by simp [pairV])]
   simpa [pairV] using ih h
set_option maxHeartbeats 1000000 in
theorem lessPair_calls (W:World) (Bs b n c base:Nat) (ys:List (Nat × Nat)) (hB:W.cell? ⟨Bs,0,none⟩=some (.slice (some ⟨b,0,none⟩) n c)) (hl:ys.length=n)
  (hown:W.ownsRow base 152 2 (.slice (some ⟨b,0,none⟩) n c) n (ys.flatMap pairV)) (i j:Nat) (hi:i < n) (hj:j < n):
  Calls Tryz.prog 113 #[.int .i64 i,.int .i64 j,ptr Bs] W fun e w'=>e = .returned (.bool (ltPair (ys.getD i default) (ys.getD j default)))∧∃ q,w'=W.drewN q:=by
 obtain ⟨x,hx⟩:∃ x,ys[i]? = some x:=⟨_,List.getElem?_eq_getElem (by omega)⟩
 obtain ⟨y,hy⟩:∃ y,ys[j]? = some y:=⟨_,List.getElem?_eq_getElem (by omega)⟩
 have hci:=(own_cur hown (i*2) _ (pairs_get hx)).1
 have hcj:=(own_cur hown (j*2) _ (pairs_get hy)).1
 have hxd:ys.getD i default=x:=by rw [List.getD_eq_getElem?_getD,hx];rfl
 have hyd:ys.getD j default=y:=by rw [List.getD_eq_getElem?_getD,hy];rfl
 rw [hxd,hyd]
 unfold ltPair
 unfold idV at hci hcj
 unfold ptr
 have hi':(0:Int)≤(i:Int):=by omega
 have hj':(0:Int)≤(j:Int):=by omega
 have hii:(i:Int) < (n:Int):=by omega
 have hjj:(j:Int) < (n:Int):=by omega
 clear hown hx hy hxd hyd hl
 go_enter Tryz.func113,Tryz.ntmps113
 go_wp2
 go_quiet (fail)
 go_wp2
 go_ret
 exact ⟨rfl,_,rfl⟩
end
end Go.Proofs.YtjlfkgjmgghhiaaGreat
