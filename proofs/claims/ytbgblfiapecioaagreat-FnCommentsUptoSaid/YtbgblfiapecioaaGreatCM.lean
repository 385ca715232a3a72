/-
  Proves 'FnCommentsUptoSaid': for every input of bulk at most 1048576 the law FnComments answers true, and each argument reads behind the call as it read before: comments change nothing, neither ways nor what is live, nor what is allocated, nor which extensions are needed.
  Condition: the bulk of what comes in (the given form 'Upto'); no other.
-/
import Derived.WalkKit
import Derived.ProofKit
import Derived.OpenShut
import Derived.JoinedCond
import Derived.Carry
import Derived.Test.YtbgblfiapecioaaGreatCA
import Derived.Test.YtbgblfiapecioaaGreatP35
import Derived.Test.YtbgblfiapecioaaGreatP36
namespace Go.Proofs.YtbgblfiapecioaaGreat
section
open Go Go.RowKit Bth
set_option maxRecDepth 100000
set_option maxHeartbeats 8000000 in
theorem FnComments_calls (w:World) (B:Nat) (s:SV) (ns:List PN) (hN:NodesAt w B s ns) (hB:B≤w.heap.size) (hb:BulkP ns):Calls Tryz.prog 4 #[s.val] w (GivesB w true):=by
 have hZ:=zz5_calls w B s ns hN
 have hNU:=fun W (hW:Fr nope w W)=>(hN.fr hW (fun _ _ x=>x)).up (Nat.le_trans hB hW.size)
 have hQ:=fun W (hW:Fr nope w W)=>quiet_calls W s ns (hNU W hW)
 have hK:=fun W (hW:Fr nope w W)=>known_calls W B s ns (hN.fr hW (fun _ _ x=>x))
 have hO:=fun W (hW:Fr nope w W)=>NodesOK_calls W B s ns (hN.fr hW (fun _ _ x=>x))
 have hU:=fun W (hW:Fr nope w W)=>usual_calls W B s ns (hN.fr hW (fun _ _ x=>x)) (Nat.le_trans hB hW.size)
 have hFG:=fun W (hW:Fr nope w W) (hok:ns.all okN=true)=>FlowGraph_calls W B s ns (hN.fr hW (fun _ _ x=>x)) hok
 obtain ⟨sc,ok,n,hg⟩:=grU_ex ns
 have hIF:=fun W (hW:Fr nope w W) (hok:ns.all okN=true)=>ImFlowU_calls W s ns (hNU W hW) hok hg
 have hSF:=fun W (hW:Fr nope w W) (hok:ns.all okN=true)=>FlowGraphU_calls W B s ns (hN.fr hW (fun _ _ x=>x)) hok hg
 have hIL:=fun W (hW:Fr nope w W) (hl:LvOk ns)=>ImLiveU_calls W s ns (hNU W hW) hl hg
 have hIE:=fun W (hW:Fr nope w W) (hok:ns.all okN=true)=>ImExt_calls W s ns (hNU W hW) hok
 have hIA:=fun W (hW:Fr nope w W) (ha:AFOk ns)=>AllocFnU_calls W s ns (hNU W hW) ha
 have hlv:=fun (hok:ns.all okN=true) (hk:∀ p∈insP ns,knI p=true)=>LvOk.known hN hok hk
 have haf:=fun (hu:UsualP ns)=>hu.af (fun p hp=>PI.ok_of (insP_each hN p hp)) hb
 have hfew:=hN.few
 have hsm:=hg.small hfew
 have hsh:=hg.short hfew
 have hreg:RegL (insP ns) (insP (quietL ns)):=by rw [quiet_ins];exact RegL.refl _
 have hgq:GrU (quietL ns) sc ok n:=hg.congr (quiet_graph ns) (by rw [quiet_ins])
 have hext:∀ l,ExtB (insP (quietL ns)) l→ExtB (insP ns) l:=by rw [quiet_ins];exact fun l h=>h
 clear hg
 obtain ⟨A,m,c⟩:=s
 simp only [SV.val] at hZ hQ hK hO hU hSF hIF hIL hIE hIA ⊢
 clear hN hNU hb
 replace hQ:=Lib.hid hQ
 replace hK:=Lib.hid hK
 replace hO:=Lib.hid hO
 replace hU:=Lib.hid hU
 replace hIF:=Lib.hid hIF
 replace hSF:=Lib.hid hSF
 replace hIL:=Lib.hid hIL
 replace hIE:=Lib.hid hIE
 replace hIA:=Lib.hid hIA
 replace hlv:=Lib.hid hlv
 replace haf:=Lib.hid haf
 replace hfew:=Lib.hid hfew
 replace hsm:=Lib.hid hsm
 replace hsh:=Lib.hid hsh
 replace hreg:=Lib.hid hreg
 replace hgq:=Lib.hid hgq
 replace hext:=Lib.hid hext
 go_enter Tryz.func4,Tryz.ntmps4
 go_wp2_with fail
 refine hZ.mono ?_
 rintro e w1 ⟨hf1,b,rfl⟩
 clear hZ
 cases b with
 | false=>
  go_wp2
  go_ret
  exact ⟨rfl,hf1⟩
 | true=>
 go_wp2_with fail
 refine (hQ.out _ hf1).mono ?_
 rintro e w2 ⟨hf2,AQ,cQ,rfl,hNQ⟩
 have hn2:=hf1.then hf2
 go_wp2_with fail
 refine (hK.out _ hn2).mono ?_
 rintro e w3 ⟨hf3,b,rfl,hkn⟩
 have hn3:=hn2.then hf3
 cases b with
 | false=>
  go_wp2
  go_ret
  exact ⟨rfl,hn3⟩
 | true=>
 replace hkn:=(hkn rfl).2
 replace hkn:=Lib.hid hkn
 go_wp2_with fail
 refine (hO.out _ hn3).mono ?_
 rintro e w4 ⟨rfl,hf4⟩
 have hn4:=hn3.then hf4
 cases hok:ns.all okN with
 | false=>
  go_wp2
  go_ret
  exact ⟨rfl,hn4⟩
 | true=>
 obtain ⟨nq,hnq⟩:∃ nq,nq=quietL ns:=⟨_,rfl⟩
 have hokq:=quiet_ok hok
 have hlvq:=(hlv.out hok hkn.out).quiet
 have hafq:=fun (hu:UsualP ns)=>(haf.out hu).quiet
 have hgq':=hgq.out
 have hreg':=hreg.out
 have hext':=hext.out
 have hGq:=quiet_graph ns
 rw [← hnq] at hNQ hokq hlvq hafq hgq' hreg' hext' hGq ⊢
 have hNQW:=fun W (hW:Fr nope w2 W)=>(hNQ.fr hW (fun _ _ x=>x)).up hW.size
 have hLQ:=fun W (hW:Fr nope w2 W)=>LabelsKnown_calls W _ ⟨AQ,nq.length,cQ⟩ nq (hNQW W hW)
 have hIFq:=fun W (hW:Fr nope w2 W)=>ImFlowU_calls W ⟨AQ,nq.length,cQ⟩ nq (hNQW W hW) hokq hgq'
 have hILq:=fun W (hW:Fr nope w2 W)=>ImLiveU_calls W ⟨AQ,nq.length,cQ⟩ nq (hNQW W hW) hlvq hgq'
 have hIEq:=fun W (hW:Fr nope w2 W)=>ImExt_calls W ⟨AQ,nq.length,cQ⟩ nq (hNQW W hW) hokq
 have hIAq:=fun W (hW:Fr nope w2 W) (hu:UsualP ns)=>AllocFnU_calls W ⟨AQ,nq.length,cQ⟩ nq (hNQW W hW) (hafq hu)
 have hlvn:=hlv.out hok hkn.out
 simp only [SV.val] at hLQ hIFq hILq hIEq hIAq
 clear hNQ hNQW hokq hlvq hafq hgq' hgq hreg hext hlv hkn
 replace hLQ:=Lib.hid hLQ
 replace hIFq:=Lib.hid hIFq
 replace hILq:=Lib.hid hILq
 replace hIEq:=Lib.hid hIEq
 replace hIAq:=Lib.hid hIAq
 replace hlvn:=Lib.hid hlvn
 replace hnq:=Lib.hid hnq
 replace hok:=Lib.hid hok
 replace hreg':=Lib.hid hreg'
 replace hext':=Lib.hid hext'
 replace hGq:=Lib.hid hGq
 have hn24:Fr nope w2 w4:=hf3.then hf4
 go_wp2_with fail
 refine (hLQ.out _ hn24).mono ?_
 rintro e w5 ⟨b,rfl,hf5⟩
 cases b with
 | false=>
  go_wp2
  go_ret
  exact ⟨rfl,hn4.then hf5⟩
 | true=>
 have hn5:=hn4.then hf5
 have hn25:=hn24.then hf5
 go_wp2_with fail
 refine (hIF.out _ hn5 hok.out).mono ?_
 rintro e w6 ⟨hf6,A6,c6,D6,d6,rfl,hS1,hS2⟩
 have hn6:=hn5.then hf6
 have hn26:=hn25.then hf6
 go_wp2_with fail
 refine (hIFq.out _ hn26).mono ?_
 rintro e w7 ⟨hf7,A7,c7,D7,d7,rfl,hT1,hT2⟩
 have hn7:=hn6.then hf7
 have hn27:=hn26.then hf7
 go_wp2_with fail
 refine (hSF.out _ hn7 hok.out).mono ?_
 rintro e w8 ⟨hf8,x8,y8,rfl⟩
 have hn8:=hn7.then hf8
 have hn28:=hn27.then hf8
 have hf78:=hf7.then hf8
 replace hS1:=Lib.hid (hS1.nope hf78)
 replace hS2:=Lib.hid (hS2.nope hf78)
 replace hT1:=Lib.hid (hT1.nope hf8)
 replace hT2:=Lib.hid (hT2.nope hf8)
 go_wp2_with fail
 refine (lists_calls w8 A6 A7 c6 c7 n sc hS1.out hT1.out hsm.out hsh.out.1).mono ?_
 rintro e w9 ⟨rfl,hf9⟩
 go_wp2_with fail
 refine (lists_calls w9 D6 D7 d6 d7 n _ (hS2.out.nope hf9) (hT2.out.nope hf9) hsm.out hsh.out.2).mono ?_
 rintro e w10 ⟨rfl,hf10⟩
 have hf810:=hf9.then hf10
 have hn10:=hn8.then hf810
 have hn210:=hn28.then hf810
 clear hS1 hS2 hT1 hT2
 go_wp2_with fail
 refine (hIL.out _ hn10 hlvn.out).mono ?_
 rintro e w11 ⟨hf11,A11,c11,D11,d11,l1,l2,rfl,hL1,hL2,hLU⟩
 go_wp2_with fail
 refine (hILq.out _ (hn210.then hf11)).mono ?_
 rintro e w12 ⟨hf12,A12,c12,D12,d12,l1',l2',rfl,hM1,hM2,hMU⟩
 obtain ⟨rfl,rfl⟩:=hLU.uniq hreg'.out hMU
 have ht:=hLU.tidy
 have hll:=hLU.len hfew.out
 clear hLU hMU
 replace hL1:=Lib.hid (hL1.nope hf12)
 replace hL2:=Lib.hid (hL2.nope hf12)
 replace hM1:=Lib.hid hM1
 replace hM2:=Lib.hid hM2
 replace ht:=Lib.hid ht
 replace hll:=Lib.hid hll
 go_wp2_with fail
 refine (sets_calls w12 A11 A12 c11 c12 l1' hL1.out hM1.out ht.out.1 hll.out.1).mono ?_
 rintro e w13 ⟨rfl,hf13⟩
 go_wp2_with fail
 refine (sets_calls w13 D11 D12 d11 d12 l2' (hL2.out.nope hf13) (hM2.out.nope hf13) ht.out.2 hll.out.2).mono ?_
 rintro e w14 ⟨rfl,hf14⟩
 have hf1014:=((hf11.then hf12).then hf13).then hf14
 have hn14:=hn10.then hf1014
 have hn214:=hn210.then hf1014
 clear hL1 hL2 hM1 hM2 ht hll
 go_wp2_with fail
 refine (hIE.out _ hn14 hok.out).mono ?_
 rintro e w15 ⟨hf15,A15,c15,le,rfl,hE1,hE2,hE3⟩
 have hn15:=hn14.then hf15
 have hn215:=hn214.then hf15
 go_wp2_with fail
 refine (hIEq.out _ hn215).mono ?_
 rintro e w16 ⟨hf16,A16,c16,le',rfl,hF1,hF2,hF3⟩
 have hn16:=hn15.then hf16
 have hn216:=hn215.then hf16
 obtain rfl:=hE1.uniq (hext'.out _ hF1)
 replace hE3:=Lib.hid (hE3.nope hf16)
 replace hF3:=Lib.hid hF3
 clear hE1 hF1 hF2
 go_wp2_with fail
 refine (texts_calls w16 A15 A16 c15 c16 le' hE3.out hF3.out hE2).mono ?_
 rintro e w17 ⟨rfl,hf17⟩
 have hn17:=hn16.then hf17
 have hn217:=hn216.then hf17
 clear hE2 hE3 hF3
 go_wp2_with fail
 refine (hU.out _ hn17).mono ?_
 rintro e w18 ⟨hf18,b,rfl,hus⟩
 have hn18:=hn17.then hf18
 have hn218:=hn217.then hf18
 cases b with
 | false=>
  go_wp2
  go_ret
  exact ⟨rfl,hn18⟩
 | true=>
 have husU:=Lib.hid (hus rfl)
 clear hus
 have hafn:=haf.out husU.out
 replace hafn:=Lib.hid hafn
 go_wp2_with fail
 refine (hIA.out _ hn18 hafn.out).mono ?_
 rintro e w19 ⟨hf19,A19,c19,l19,ok19,rfl,hAU,hAl,hAP⟩
 go_wp2_with fail
 refine (hIAq.out _ (hn218.then hf19) husU.out).mono ?_
 rintro e w20 ⟨hf20,A20,c20,l20,ok20,rfl,hBU,hBl,hBP⟩
 obtain ⟨rfl,rfl⟩:=hAU.uniq (hBU.regs hreg'.out hGq.out)
 have hAP':=Lib.hid (hAP.fr hf20)
 replace hBP:=Lib.hid hBP
 have hn20:=(hn18.then hf19).then hf20
 clear hAU hBU hAP hBl
 go_wp2_with fail
 refine (same_calls w20 A19 A20 c19 c20 l20 hAP'.out hBP.out hAl).mono ?_
 rintro e w21 ⟨rfl,hf21⟩
 go_wp2
 go_ret
 exact ⟨rfl,hn20.then hf21⟩
end
section
open Go Go.RowKit Go.ChangeShapes Go.WideShapes Go.ChangeAt Bth
set_option maxRecDepth 100000
theorem ownK:ownKnob Tryz.prog.godebug=none:=by kernel_rfl
theorem laidOutP:laidOutB Tryz.prog=true:=by kernel_rfl
theorem row_contract (H:Type) (enc:TypeId × Value→H) (W:World) (base:Nat) (args:Array Value) (ds gs:List (DataW H)) (before:List MemPlace)
  (hval:∀ (j:Nat) t v,Tryz.f4.params[j]? = some t→args[j]? = some v→Value.okWide Tryz.prog W .any base t v)
  (hW:DataW.Whole enc Tryz.prog Tryz.f4.params.toList Rows.fnCommentsSpec.vars false W args.toList ds gs before) (hk:Rows.uptoSmall H (ds ++ gs)=true):
  Calls Tryz.prog 4 args W fun e W'=>∃ v,e = .returned v∧Rows.fnCommentsSpec.post enc Tryz.prog Tryz.f4 false true false false W args v W':=by
 have hW':=hW
 obtain ⟨p,q,hA0,hV,rfl,hfz,hnd⟩:=hW
 have hA:DataW.TrodAll enc Tryz.prog W 0 (fun _=>true) true Tryz.f4.params.toList args.toList ds p:=hA0
 rw [Tryz.params4] at hA hval
 obtain ⟨v0,vs0,d0,ds0,p0,q0,hargs,rfl,rfl,h0,r0⟩:=trodAll_cons hA
 obtain ⟨rfl,rfl,rfl⟩:=trodAll_nil r0
 obtain rfl:args = #[v0]:=by cases args;simp_all
 obtain ⟨rfl,rfl⟩:=trodVars_none hV
 obtain ⟨a0,len,cap,rfl⟩:=okWide_slice Tryz.underlying22 (hval 0 22 v0 rfl rfl)
 have h0k:=h0
 obtain ⟨fuel,hf⟩:=h0
 have hlt:∀ x∈p0,x.block < W.heap.size:=fun x hx=>hW'.lt x (by simp [hx])
 have hkb:Rows.uptoBulk d0≤1048576:=by
  have h:Rows.uptoBulkAll ([d0] ++ ([]:List (DataW H)))≤1048576:=of_decide_eq_true hk
  simp only [List.append_nil,Rows.uptoBulkAll] at h
  omega
 obtain ⟨s,ns,hs,hN,hB⟩:=rd_nodes (by simpa [Value.cells] using hf) hkb
 clear hA0
 rw [hs] at h0k hW' ⊢
 refine (FnComments_calls W W.heap.size s ns hN (Nat.le_refl _) hB).mono ?_
 rintro e W' ⟨rfl,hfr⟩
 have hbel:=hfr.below
 refine ⟨_,rfl,_,_,_,[],p0,[],hW',trodAll_mk1 (shut_bool Tryz.underlying4 _),?_,rfl,hbel.frame _,fun h=>by cases h⟩
 rw [Tryz.params4]
 exact trodAll_mk1 (Below.trod laidOutP (by kernel_rfl) (of_decide_eq_true (by kernel_rfl)) h0k hbel hlt)
theorem row_lifted (os:Os) (started:os.Started) (H:Type) (enc:TypeId × Value→H) (F:Stop.Interp):
  ReturnsInHanded {} Tryz.checked os 4 .any ((Rows.OpenSpec.upto Rows.fnCommentsSpec).pre6 enc Tryz.prog Tryz.f4 Rows.fnCommentsUptoRow.domain false) (((Rows.OpenSpec.upto Rows.fnCommentsSpec).at F).post enc Tryz.prog Tryz.f4 false true false false):=by
 refine returnsInHanded_of_cond (C:=Tryz.checked) (s:=Rows.OpenSpec.upto Rows.fnCommentsSpec) (k:=Rows.uptoSmall) rfl ownK started (by kernel_rfl) Tryz.func4
  (OpenSpec.witness (enc:=enc) (C:=Tryz.checked) (s:=Rows.OpenSpec.upto Rows.fnCommentsSpec) (k:=Rows.uptoSmall) rfl false ⟨#[],#[.slice none 0 0],[]⟩ 8 (by kernel_rfl) (by kernel_rfl) (by kernel_rfl)
   (x:=([.nil],[],[])) (by kernel_rfl) rfl (by kernel_rfl)) ?_
 intro W base args ds gs before hval hW _ hk _
 exact row_contract H enc W base args ds gs before hval hW hk
theorem hfnT:Tryz.pinned.checked.prog.funcNamed Rows.fnCommentsUptoRow.func=some 4:=by kernel_rfl
set_option maxHeartbeats 8000000 in
theorem closedT:joinedFacts Tryz.pinned.checked.prog 4 Tryz.f4 (Rows.OpenSpec.upto Rows.fnCommentsSpec).bare Rows.fnCommentsUptoRow=true:=by
 unfold joinedFacts
 simp only [Bool.and_eq_true]
 refine ⟨⟨⟨⟨⟨⟨⟨⟨⟨⟨⟨⟨⟨⟨⟨⟨⟨⟨⟨⟨⟨⟨⟨⟨⟨⟨⟨⟨⟨⟨⟨?_,?_⟩,?_⟩,?_⟩,?_⟩,?_⟩,?_⟩,?_⟩,?_⟩,?_⟩,?_⟩,?_⟩,?_⟩,?_⟩,?_⟩,?_⟩,?_⟩,?_⟩,?_⟩,?_⟩,?_⟩,?_⟩,?_⟩,?_⟩,?_⟩,?_⟩,?_⟩,?_⟩,?_⟩,?_⟩,?_⟩,?_⟩<;>as_aux_lemma=>kernel_rfl
theorem hinstT:Tryz.f4.isInstance Tryz.pinned.checked.prog Rows.fnCommentsUptoRow.origin Rows.fnCommentsUptoRow.targs:=of_decide_eq_true (by kernel_rfl)
theorem hwrapT:Tryz.f4.isWrapper Tryz.pinned.checked.prog Rows.fnCommentsUptoRow.wrapper Rows.fnCommentsUptoRow.mainSum:=by
 unfold Func.isWrapper
 first | (rw [if_pos (by decide +kernel)];kernel_rfl) | (rw [if_neg (by decide +kernel)];exact ⟨rfl,rfl⟩)
theorem fnComments_upto:Rows.FnCommentsUptoSaid:=
 OpenClaim.holds_of_cond 4 Tryz.f4 rfl rfl rfl rfl rfl rfl rfl ⟨rfl,rfl,rfl,rfl,rfl⟩ rfl rfl rfl rfl rfl hfnT Tryz.func4 closedT hinstT hwrapT
  (fun os started H enc _ F=>row_lifted os started H enc F)
end
end Go.Proofs.YtbgblfiapecioaaGreat
