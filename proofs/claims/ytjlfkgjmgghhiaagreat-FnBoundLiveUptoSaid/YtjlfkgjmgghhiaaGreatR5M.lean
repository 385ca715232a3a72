/-
  Proves 'FnBoundLiveUptoSaid': for every input of bulk at most 1048576 the law FnBoundLive answers true, and each argument reads behind the call as it read before: what is live ahead of and behind each instruction of the bound nodes is just what is live there of the nodes as they were, each register in the place that it was given.
  Condition: the bulk of what comes in (the given form 'Upto'); no other.
-/
import Derived.WalkKit
import Derived.ProofKit
import Derived.OpenShut
import Derived.JoinedCond
import Derived.Carry
import Derived.Test.YtjlfkgjmgghhiaaGreatP51
import Derived.Test.YtjlfkgjmgghhiaaGreatR5C
namespace Go.Proofs.YtjlfkgjmgghhiaaGreat
section
open Go Go.RowKit Bth
set_option maxRecDepth 100000
theorem reg_eq2 {P:Program} {Q:Exit→Act→World→Prop} {a:Act} {w:World} {id:Nat} {ops ops':Array Oper} (h:ops=ops') (H:(Code.region id ops' true).wp P Q a w):(Code.region id ops true).wp P Q a w:=h ▸ H
theorem moved_eq {L L':Nat→Nat→Prop} {a:Nat→Nat} {s x:TL} (hs:Tidy s) (h1:∀ c b,(tv s c).testBit b=true↔L c b) (h2:∀ c b,(tv x c).testBit b=true↔L' c b) (h:∀ p b,L' p b↔∃ c,a c=p∧L c b):tv (mvL a s)=tv x:=by
 funext p
 refine Nat.eq_of_testBit_eq fun b=>Bool.eq_iff_iff.2 ?_
 rw [(mvL_spec a s).2,h2,h]
 constructor
 ·rintro ⟨y,hy,e,hb⟩
  exact ⟨y.1,e,(h1 _ _).1 (by rw [tv_of_mem hs hy];exact hb)⟩
 ·rintro ⟨c,e,hl⟩
  have hb:=(h1 _ _).2 hl
  have h0:tv s c≠0:=fun h=>by rw [h] at hb;simp at hb
  exact ⟨_,tv_mem h0,e,hb⟩
set_option maxHeartbeats 8000000 in
theorem FnBoundLive_calls (w:World) (B:Nat) (s:SV) (ns:List PN) (hN:NodesAt w B s ns) (hB:B≤w.heap.size) (hb:BulkP ns):Calls Tryz.prog 5 #[s.val] w (GivesB w true):=by
 have hZ:=zz5_calls w B s ns hN
 have hA:=fun W (hW:Fr nope w W)=>allocated_calls W B s ns (hN.fr hW (fun _ _ x=>x)) (Nat.le_trans hB hW.size) hb
 have hF:=fun W (hW:Fr nope w W) (h:LvOk ns)=>ImLive_calls W s ns ((hN.fr hW (fun _ _ x=>x)).up (Nat.le_trans hB hW.size)) h
 have hI:=fun W (hW:Fr nope w W)=>Instrs_calls W B s ns (hN.fr hW (fun _ _ x=>x))
 have hat:=fun W (hW:Fr nope w W) (hok:ns.all okN=true)=>insP_at (hN.fr hW (fun _ _ x=>x)) hok
 have hlen:(insP ns).length≤1048576:=by
  have h1:=hN.few
  have:(insP ns).length≤ns.length:=by unfold insP;rw [List.length_map];exact List.length_filter_le _ _
  omega
 obtain ⟨A,n,c⟩:=s
 obtain rfl:n=ns.length:=hN.len
 have hfew:=hN.few
 simp only [SV.val] at hZ hA hF hI ⊢
 clear hN
 replace hA:=Lib.hid hA
 replace hF:=Lib.hid hF
 replace hI:=Lib.hid hI
 replace hat:=Lib.hid hat
 replace hlen:=Lib.hid hlen
 replace hb:=Lib.hid hb
 go_enter Tryz.func5,Tryz.ntmps5
 go_wp2_with fail
 refine hZ.mono ?_
 rintro e w1 ⟨hf1,b,rfl⟩
 clear hZ
 cases b with
 | false=>
  go_wp2
  go_ret
  exact ⟨rfl,hf1⟩
 | true=>
 go_wp2_with fail
 refine (hA.out _ hf1).mono ?_
 rintro e w2 ⟨hf2,⟨x,y,rfl⟩ | ⟨A2,c2,l,A3,c3,ns',f,rfl,hpa,hll,hef,haf,hao,hu,hN',hBN⟩⟩
 ·go_wp2
  go_ret
  exact ⟨rfl,hf1.then hf2⟩
 have hn2:=hf1.then hf2
 have hlv:=hao.lv
 have hlv':=lv_bound hao hBN hN'
 have hok':=hlv'.ok
 obtain ⟨hbi,_⟩:=bound_ins hBN hao.ops
 have hgr:∃ sc,GraphP ns sc:=by obtain ⟨sc,h,_⟩:=af_apart haf hao;exact ⟨sc,h⟩
 have hG':=fun sc (hG:GraphP ns sc)=>bound_graph hBN hao.ops hG
 have hmain:=fun (sc:Nat→List (Option Nat)) (hG:GraphP ns sc) (hl:∀ (k:Nat) (p p':PI),(insP ns)[k]? = some p→(insP ns')[k]? = some p'→(inGs p'.canc p'.inp p'.out).length=(inGs p.canc p.inp p.out).length) (i p b:Nat)=>live_moved (i:=i) (p:=p) (b:=b) haf hao hu hBN hG hl
 have haid:∀ c,lk f c=aid l c:=fun c=>by unfold lk aid;rw [hef]
 have hF2:=fun W (hW:Fr nope w2 W)=>ImLive_calls W ⟨A3,ns'.length,c3⟩ ns' ((hN'.fr hW (fun _ _ x=>x)).up hW.size) hlv'
 have hI2:=fun W (hW:Fr nope w2 W)=>Instrs_calls W _ ⟨A3,ns'.length,c3⟩ ns' (hN'.fr hW (fun _ _ x=>x))
 have hat2:=fun W (hW:Fr nope w2 W)=>insP_at (hN'.fr hW (fun _ _ x=>x)) hok'
 have hok:=Lib.hid hu.2.1
 clear hef haf hao hu hBN hN'
 simp only [SV.val] at hF2 hI2
 replace hF2:=Lib.hid hF2
 replace hI2:=Lib.hid hI2
 replace hat2:=Lib.hid hat2
 replace hgr:=Lib.hid hgr
 replace hG':=Lib.hid hG'
 replace hmain:=Lib.hid hmain
 replace haid:=Lib.hid haid
 replace hlv:=Lib.hid hlv
 replace hlv':=Lib.hid hlv'
 replace hok':=Lib.hid hok'
 replace hbi:=Lib.hid hbi
 go_wp2_with fail
 refine (hF.out _ hn2 hlv.out).mono ?_
 rintro e w3 ⟨hf3,⟨A4,c4,D4,d4,l1,l2,sc,rfl,hG,hT1,hT2,hv1,hv2⟩ | ⟨rfl,hbad⟩⟩
 rotate_left
 ·obtain ⟨sc,hG⟩:=hgr.out
  exact absurd hG (hbad sc)
 replace hG:=Lib.hid hG
 replace hT1:=Lib.hid hT1
 replace hT2:=Lib.hid hT2
 replace hv1:=Lib.hid hv1
 replace hv2:=Lib.hid hv2
 go_wp2_with fail
 refine (hF2.out _ hf3).mono ?_
 rintro e w4 ⟨hf4,⟨A5,c5,D5,d5,k1,k2,sc',rfl,hGb,hT3,hT4,hv3,hv4⟩ | ⟨rfl,hbad⟩⟩
 rotate_left
 ·exact absurd (hG'.out sc hG.out) (hbad sc)
 have huq:∀ k,k < (insP ns').length→sc' k=sc k:=fun k hk=>hGb.uniq (hG'.out sc hG.out) k hk
 rw [LiveInP.congr huq] at hv3
 rw [LiveOutP.congr huq] at hv4
 rw [hbi.out] at hv3 hv4 ⊢
 clear huq hGb
 replace hT3:=Lib.hid hT3
 replace hT4:=Lib.hid hT4
 replace hv3:=Lib.hid hv3
 replace hv4:=Lib.hid hv4
 have hf24:=hf3.then hf4
 have hE:=early_calls w4 A4 c4 l1 (hT1.out.nope hf4) (fun s hs=>by
  obtain ⟨k,hk⟩:=List.mem_iff_getElem?.1 hs
  have:=(hv1.out.2 k s hk).1.len
  omega)
 rw [hv1.out.1] at hE
 go_wp2_with fail
 refine hE.mono ?_
 rintro e w5 ⟨hf5,b,rfl⟩
 have hf25:=hf24.then hf5
 have hn5:=hn2.then hf25
 clear hE
 cases b with
 | true=>
  go_wp2
  go_ret
  exact ⟨rfl,hn5⟩
 | false=>
 go_wp2_with fail
 refine (hI.out _ hn5).mono ?_
 rintro e w6 ⟨hf6,Aa,ca,rfl,hins⟩
 have hf26:=hf25.then hf6
 go_wp2_with fail
 refine (hI2.out _ hf26).mono ?_
 rintro e w7 ⟨hf7,Ab,cb,rfl,hins2⟩
 have hf27:=hf26.then hf7
 have hn7:=hn2.then hf27
 go_wp2_with fail
 refine (reads_calls w7 Aa Ab ca cb B _ (insP ns) (insP ns') (Rw.nope hins hf7) hins2 (hat.out _ hn7 hok.out) (hat2.out _ hf27) hlen.out hbi.out).mono ?_
 rintro e w8 ⟨hf8,b,rfl,hrd⟩
 have hf28:=hf27.then hf8
 have hn8:=hn2.then hf28
 clear hins hins2
 cases b with
 | false=>
  clear hrd
  go_wp2
  go_ret
  exact ⟨rfl,hn8⟩
 | true=>
 have hrd:=hrd rfl
 have hm1:∀ i p b,LiveInP (insP ns') sc i p b↔∃ c,aid l c=p∧LiveInP (insP ns) sc i c b:=fun i p b=>by
  rw [(hmain.out sc hG.out hrd i p b).1];simp only [haid.out]
 have hm2:∀ i p b,LiveOutP (insP ns') sc i p b↔∃ c,aid l c=p∧LiveOutP (insP ns) sc i c b:=fun i p b=>by
  rw [(hmain.out sc hG.out hrd i p b).2];simp only [haid.out]
 have hf48:Fr nope w4 w8:=((hf5.then hf6).then hf7).then hf8
 have hq1:=hT1.out.nope (hf4.then hf48)
 have hq2:=hT2.out.nope (hf4.then hf48)
 have hq3:=hT3.out.nope hf48
 have hq4:=hT4.out.nope hf48
 have hpa8:=hpa.fr hf28
 have hgo:∀ i,i < (insP ns).length→∃ s1 s2 x1 x2,l1[i]? = some s1∧l2[i]? = some s2∧k1[i]? = some x1∧k2[i]? = some x2∧Tidy s1∧Tidy s2∧Tidy x1∧Tidy x2∧tv (mvL (aid l) s1)=tv x1∧tv (mvL (aid l) s2)=tv x2:=fun i hi=>by
  have a1:l1[i]? = some (l1[i]'(by rw [hv1.out.1];exact hi)):=List.getElem?_eq_getElem _
  have a2:l2[i]? = some (l2[i]'(by rw [hv2.out.1];exact hi)):=List.getElem?_eq_getElem _
  have a3:k1[i]? = some (k1[i]'(by rw [hv3.out.1];exact hi)):=List.getElem?_eq_getElem _
  have a4:k2[i]? = some (k2[i]'(by rw [hv4.out.1];exact hi)):=List.getElem?_eq_getElem _
  obtain ⟨t1,r1⟩:=hv1.out.2 i _ a1
  obtain ⟨t2,r2⟩:=hv2.out.2 i _ a2
  obtain ⟨t3,r3⟩:=hv3.out.2 i _ a3
  obtain ⟨t4,r4⟩:=hv4.out.2 i _ a4
  exact ⟨_,_,_,_,a1,a2,a3,a4,t1,t2,t3,t4,moved_eq t1 r1 r3 (fun p b=>hm1 i p b),moved_eq t2 r2 r4 (fun p b=>hm2 i p b)⟩
 clear hm1 hm2 hrd hpa
 replace hgo:=Lib.hid hgo
 replace hq1:=Lib.hid hq1
 replace hq2:=Lib.hid hq2
 replace hq3:=Lib.hid hq3
 replace hq4:=Lib.hid hq4
 obtain ⟨m,hm⟩:∃ m,m=(insP ns).length:=⟨_,rfl⟩
 rw [← hm] at hgo hlen ⊢
 replace hm:=Lib.hid hm
 have hlen':=hlen.out
 go_wp2
 go_loopg [74] m (fun q c74 wr=>∃ i:Nat,i≤m∧c74 = .int .i64 (i:Int)∧Fr nope w8 wr∧q=m - i)
 case atStart=>exact ⟨0,Nat.zero_le _,rfl,Fr.refl _ _,rfl⟩
 case round=>
  obtain ⟨i,hi,rfl,hf,rfl⟩:=hrel
  by_cases hilt:i < m
  ·obtain ⟨s1,s2,x1,x2,a1,a2,a3,a4,t1,t2,t3,t4,e1,e2⟩:=hgo.out i hilt
   obtain ⟨b1,o1,B1,f1,hA1,hb1,hc1,hr1⟩:=hq1.out.at_ a1
   obtain ⟨b2,o2,B2,f2,hA2,hb2,hc2,hr2⟩:=hq2.out.at_ a2
   obtain ⟨b3,o3,B3,f3,hA3,hb3,hc3,hr3⟩:=hq3.out.at_ a3
   obtain ⟨b4,o4,B4,f4,hA4,hb4,hc4,hr4⟩:=hq4.out.at_ a4
   subst hA1 hA2 hA3 hA4
   have hdr:=hf.drew
   have hT1':=t1.len
   have hT2':=t2.len
   have hT3':=t3.len
   have hT4':=t4.len
   have hML1:=mvL_len (aid l) s1
   have hML2:=mvL_len (aid l) s2
   have hN1:=(mvL_spec (aid l) s1).1
   have hN2:=(mvL_spec (aid l) s2).1
   have hMv1:=fun W (hW:Fr nope w8 W)=>moved_calls W B1 A2 f1 c2 s1 l (Rw.nope hr1 hW) t1 (hpa8.fr hW) hll
   have hMv2:=fun W (hW:Fr nope w8 W)=>moved_calls W B2 A2 f2 c2 s2 l (Rw.nope hr2 hW) t2 (hpa8.fr hW) hll
   have hMs1:=fun W A c (hW:Fr nope w8 W) (hT:TlAt W A (mvL (aid l) s1))=>masks_calls W A B3 c f3 _ x1 hT (Rw.nope hr3 hW) hN1 t3.nd (by omega) (by omega) e1
   have hMs2:=fun W A c (hW:Fr nope w8 W) (hT:TlAt W A (mvL (aid l) s2))=>masks_calls W A B4 c f4 _ x2 hT (Rw.nope hr4 hW) hN2 t4.nd (by omega) (by omega) e2
   have hcs:∀ W,Fr nope w8 W→W.cell? ⟨b1,o1+i,none⟩=some (.slice B1 s1.length f1)∧W.cell? ⟨b3,o3+i,none⟩=some (.slice B3 x1.length f3)∧W.cell? ⟨b2,o2+i,none⟩=some (.slice B2 s2.length f2)∧W.cell? ⟨b4,o4+i,none⟩=some (.slice B4 x2.length f4):=fun W hW=>⟨hW.cell hc1 (fun x=>x),hW.cell hc3 (fun x=>x),hW.cell hc2 (fun x=>x),hW.cell hc4 (fun x=>x)⟩
   replace hMv1:=Lib.hid hMv1
   replace hMv2:=Lib.hid hMv2
   replace hMs1:=Lib.hid hMs1
   replace hMs2:=Lib.hid hMs2
   replace hcs:=Lib.hid hcs
   clear a1 a2 a3 a4 hc1 hc2 hc3 hc4 hr1 hr2 hr3 hr4 e1 e2 t1 t2 t3 t4 hN1 hN2
   go_wp2
   refine reg_eq2 (ops':=blReg) (by kernel_rfl) (rgBL (S:=fun W=>Fr nope w8 W) (R1:=fun y W=>Fr nope w8 W∧∃ A c,y = .slice A (mvL (aid l) s1).length c∧TlAt W A (mvL (aid l) s1)) (R2:=fun W=>Fr nope w8 W) (R3:=fun y W=>Fr nope w8 W∧∃ A c,y = .slice A (mvL (aid l) s2).length c∧TlAt W A (mvL (aid l) s2)) (R4:=fun W=>Fr nope w8 W)
    (b1:=b1) (o1:=o1) (c1:=c4) (b2:=b3) (o2:=o3) (c2:=c5) (b3:=b2) (o3:=o2) (c3:=d4) (b4:=b4) (o4:=o4) (c4:=d5) (n:=m) (k:=i) (A1:=B1) (n1:=s1.length) (d1:=f1) (A2:=B3) (n2:=x1.length) (d2:=f3) (A3:=B2) (n3:=s2.length) (d3:=f2) (A4:=B4) (n4:=x2.length) (d4:=f4) (va:=.slice A2 l.length c2)
    ((((((Bun.nil rfl rfl).cons 3 rfl).cons 13 rfl).cons 11 rfl).cons 8 rfl).cons 10 rfl |>.cons 7 rfl) (fun d _ _ _ _ h=>by cases d<;>simpa [Exit.inBlock,Exit.then,bodyPost,Act.put] using h) hilt hdr
    (fun W hW=>(hcs.out W hW).1) (fun W hW=>(hcs.out W hW).2.1) (fun W hW=>(hcs.out W hW).2.2.1) (fun W hW=>(hcs.out W hW).2.2.2) ?_ ?_ ?_ ?_ ?_)
   ·refine (hMv1.out _ hdr).mono ?_
    rintro e W ⟨hW,A,c,rfl,hT⟩
    exact ⟨_,rfl,⟨hdr.then hW,A,c,rfl,hT⟩,hdr.then hW⟩
   ·rintro y W ⟨hW,A,c,rfl,hT⟩
    exact (hMs1.out W A c hW hT).mono fun e W' h=>⟨h.1,hW.then h.2,hW.then h.2⟩
   ·intro W hW
    refine (hMv2.out _ hW).mono ?_
    rintro e W' ⟨hW',A,c,rfl,hT⟩
    exact ⟨_,rfl,⟨hW.then hW',A,c,rfl,hT⟩,hW.then hW'⟩
   ·rintro y W ⟨hW,A,c,rfl,hT⟩
    exact (hMs2.out W A c hW hT).mono fun e W' h=>⟨h.1,hW.then h.2,hW.then h.2⟩
   ·rintro W a hW ⟨y77,y78,y79,y80,y81,y82,y83,y84,y85,y86,y87,y88,y89,y90,y91,y92,y93,y94,y95,y96,y97,y98,y99,y100,y101,rfl⟩
    simp only [putL,List.foldl_cons,List.foldl_nil,Act.put,List.setIfInBounds_toArray,List.set_cons_zero,List.set_cons_succ]
    go_wp2
    go_roundg (m - (i+1))
    case measure=>omega
    case rel=>exact ⟨i+1,by omega,by go_num,hW,rfl⟩
  ·go_wp2
   go_ret
   exact ⟨rfl,hn8.then hf⟩
end
section
open Go Go.RowKit Go.ChangeShapes Go.WideShapes Go.ChangeAt Bth
set_option maxRecDepth 100000
theorem ownK:ownKnob Tryz.prog.godebug=none:=by kernel_rfl
theorem laidOutP:laidOutB Tryz.prog=true:=by kernel_rfl
theorem row_contract (H:Type) (enc:TypeId × Value→H) (W:World) (base:Nat) (args:Array Value) (ds gs:List (DataW H)) (before:List MemPlace)
  (hval:∀ (j:Nat) t v,Tryz.f5.params[j]? = some t→args[j]? = some v→Value.okWide Tryz.prog W .any base t v)
  (hW:DataW.Whole enc Tryz.prog Tryz.f5.params.toList Rows.fnBoundLiveSpec.vars false W args.toList ds gs before) (hk:Rows.uptoSmall H (ds ++ gs)=true):
  Calls Tryz.prog 5 args W fun e W'=>∃ v,e = .returned v∧Rows.fnBoundLiveSpec.post enc Tryz.prog Tryz.f5 false true false false W args v W':=by
 have hW':=hW
 obtain ⟨p,q,hA0,hV,rfl,hfz,hnd⟩:=hW
 have hA:DataW.TrodAll enc Tryz.prog W 0 (fun _=>true) true Tryz.f5.params.toList args.toList ds p:=hA0
 rw [Tryz.params5] at hA hval
 obtain ⟨v0,vs0,d0,ds0,p0,q0,hargs,rfl,rfl,h0,r0⟩:=trodAll_cons hA
 obtain ⟨rfl,rfl,rfl⟩:=trodAll_nil r0
 obtain rfl:args = #[v0]:=by cases args;simp_all
 obtain ⟨rfl,rfl⟩:=trodVars_none hV
 obtain ⟨a0,len,cap,rfl⟩:=okWide_slice Tryz.underlying22 (hval 0 22 v0 rfl rfl)
 have h0k:=h0
 obtain ⟨fuel,hf⟩:=h0
 have hlt:∀ x∈p0,x.block < W.heap.size:=fun x hx=>hW'.lt x (by simp [hx])
 have hkb:Rows.uptoBulk d0≤1048576:=by
  have h:Rows.uptoBulkAll ([d0] ++ ([]:List (DataW H)))≤1048576:=of_decide_eq_true hk
  simp only [List.append_nil,Rows.uptoBulkAll] at h
  omega
 obtain ⟨s,ns,hs,hN,hB⟩:=rd_nodes (by simpa [Value.cells] using hf) hkb
 clear hA0
 rw [hs] at h0k hW' ⊢
 refine (FnBoundLive_calls W W.heap.size s ns hN (Nat.le_refl _) hB).mono ?_
 rintro e W' ⟨rfl,hfr⟩
 have hbel:=hfr.below
 refine ⟨_,rfl,_,_,_,[],p0,[],hW',trodAll_mk1 (shut_bool Tryz.underlying4 _),?_,rfl,hbel.frame _,fun h=>by cases h⟩
 rw [Tryz.params5]
 exact trodAll_mk1 (Below.trod laidOutP (by kernel_rfl) (of_decide_eq_true (by kernel_rfl)) h0k hbel hlt)
theorem row_lifted (os:Os) (started:os.Started) (H:Type) (enc:TypeId × Value→H) (F:Stop.Interp):
  ReturnsInHanded {} Tryz.checked os 5 .any ((Rows.OpenSpec.upto Rows.fnBoundLiveSpec).pre6 enc Tryz.prog Tryz.f5 Rows.fnBoundLiveUptoRow.domain false) (((Rows.OpenSpec.upto Rows.fnBoundLiveSpec).at F).post enc Tryz.prog Tryz.f5 false true false false):=by
 refine returnsInHanded_of_cond (C:=Tryz.checked) (s:=Rows.OpenSpec.upto Rows.fnBoundLiveSpec) (k:=Rows.uptoSmall) rfl ownK started (by kernel_rfl) Tryz.func5
  (OpenSpec.witness (enc:=enc) (C:=Tryz.checked) (s:=Rows.OpenSpec.upto Rows.fnBoundLiveSpec) (k:=Rows.uptoSmall) rfl false ⟨#[],#[.slice none 0 0],[]⟩ 8 (by kernel_rfl) (by kernel_rfl) (by kernel_rfl)
   (x:=([.nil],[],[])) (by kernel_rfl) rfl (by kernel_rfl)) ?_
 intro W base args ds gs before hval hW _ hk _
 exact row_contract H enc W base args ds gs before hval hW hk
theorem hfnT:Tryz.pinned.checked.prog.funcNamed Rows.fnBoundLiveUptoRow.func=some 5:=by kernel_rfl
set_option maxHeartbeats 8000000 in
theorem closedT:joinedFacts Tryz.pinned.checked.prog 5 Tryz.f5 (Rows.OpenSpec.upto Rows.fnBoundLiveSpec).bare Rows.fnBoundLiveUptoRow=true:=by
 unfold joinedFacts
 simp only [Bool.and_eq_true]
 refine ⟨⟨⟨⟨⟨⟨⟨⟨⟨⟨⟨⟨⟨⟨⟨⟨⟨⟨⟨⟨⟨⟨⟨⟨⟨⟨⟨⟨⟨⟨⟨?_,?_⟩,?_⟩,?_⟩,?_⟩,?_⟩,?_⟩,?_⟩,?_⟩,?_⟩,?_⟩,?_⟩,?_⟩,?_⟩,?_⟩,?_⟩,?_⟩,?_⟩,?_⟩,?_⟩,?_⟩,?_⟩,?_⟩,?_⟩,?_⟩,?_⟩,?_⟩,?_⟩,?_⟩,?_⟩,?_⟩,?_⟩<;>as_aux_lemma=>kernel_rfl
theorem hinstT:Tryz.f5.isInstance Tryz.pinned.checked.prog Rows.fnBoundLiveUptoRow.origin Rows.fnBoundLiveUptoRow.targs:=of_decide_eq_true (by kernel_rfl)
theorem hwrapT:Tryz.f5.isWrapper Tryz.pinned.checked.prog Rows.fnBoundLiveUptoRow.wrapper Rows.fnBoundLiveUptoRow.mainSum:=by
 unfold Func.isWrapper
 first | (rw [if_pos (by decide +kernel)];kernel_rfl) | (rw [if_neg (by decide +kernel)];exact ⟨rfl,rfl⟩)
theorem fnBoundLive_upto:Rows.FnBoundLiveUptoSaid:=
 OpenClaim.holds_of_cond 5 Tryz.f5 rfl rfl rfl rfl rfl rfl rfl ⟨rfl,rfl,rfl,rfl,rfl⟩ rfl rfl rfl rfl rfl hfnT Tryz.func5 closedT hinstT hwrapT
  (fun os started H enc _ F=>row_lifted os started H enc F)
end
end Go.Proofs.YtjlfkgjmgghhiaaGreat
