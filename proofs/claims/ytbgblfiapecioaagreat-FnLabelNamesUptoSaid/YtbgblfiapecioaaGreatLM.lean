/-
  Proves 'FnLabelNamesUptoSaid': for every input of bulk at most 1048576 the law FnLabelNames answers true, and each argument reads behind the call as it read before: labels are only names: with other ones ways, what is live, what is allocated and what is pruned stay as they were.
  Condition: the bulk of what comes in (the given form 'Upto'); no other.
-/
import Derived.WalkKit
import Derived.ProofKit
import Derived.OpenShut
import Derived.JoinedCond
import Derived.Carry
import Derived.Test.YtbgblfiapecioaaGreatLA
import Derived.Test.YtbgblfiapecioaaGreatP35
import Derived.Test.YtbgblfiapecioaaGreatP36
import Derived.Test.YtbgblfiapecioaaGreatP41
namespace Go.Proofs.YtbgblfiapecioaaGreat
section
open Go Go.RowKit Bth
set_option maxRecDepth 100000
theorem normP_label {p:PO} (h:(normP p).kind=4):p.kind=4∧(normP p).label=p.label:=by
 by_cases h4:p.kind=4
 ·refine ⟨h4,?_⟩
  unfold normP
  rw [if_neg (by omega),if_neg (by omega),if_neg (by omega),if_pos h4]
 ·exfalso
  revert h
  unfold normP
  split
  ·intro h;cases h
  split
  ·intro h;cases h
  split
  ·cases conOf p.con with
   | none=>exact h4
   | some c=>intro h;cases h
  intro h;cases h
theorem F2.memL {α β : Type} {R:α → β → Prop} {l:List α} {m:List β} (h:F2 R l m):∀ b∈m,∃ a∈l,R a b:=h.mem
theorem back_lbl {ns xs:List PN} (h:F2 BackN ns xs) (hq:LblOk ns):LblOk xs:=by
 intro x hx
 obtain ⟨n,hn,hb⟩:=h.mem x hx
 obtain ⟨q2,q1⟩:=hq n hn
 have key:∀ l:List PO,(∀ o∈l,o.kind=4→o.label.size≤8388608)→∀ o∈l.map normP,o.kind=4→o.label.size≤8388608:=fun l hl o ho hk=>by
  obtain ⟨p,hp,rfl⟩:=List.mem_map.1 ho
  obtain ⟨e1,e2⟩:=normP_label hk
  rw [e2]
  exact hl p hp e1
 refine ⟨fun e=>?_,fun e=>?_⟩
 ·rw [hb.kind] at e
  rw [hb.label e]
  exact q2 e
 ·rw [hb.kind] at e
  have hi:=hb.ins e
  obtain ⟨a1,a2,a3⟩:=q1 e
  rw [hi.ops,hi.inp,hi.out]
  exact ⟨key _ a1,key _ a2,key _ a3⟩
theorem LblOk.sub {ns xs:List PN} (h:LblOk ns) (hs:∀ x∈xs,x∈ns):LblOk xs:=fun x hx=>h x (hs x hx)
theorem LblOk.of {N:Nat} {ns:List PN} (h:∀ p∈ns,LblN N p) (hN:N≤8388608):LblOk ns:=fun p hp=>by
 obtain ⟨h1,h2,h3,h4⟩:=h p hp
 exact ⟨fun _=>Nat.le_trans h1 hN,fun _=>⟨fun o ho _=>Nat.le_trans (h2 o ho) hN,fun o ho _=>Nat.le_trans (h3 o ho) hN,fun o ho _=>Nat.le_trans (h4 o ho) hN⟩⟩
theorem kinds3 {ns xs ds:List PN} (h:F2 BackN ns xs) (h':F2 (CalM qL) xs ds):∀ n∈ds,n.kind=1∨n.kind=2∨n.kind=3:=by
 intro d hd
 obtain ⟨x,hx,hc⟩:=h'.mem d hd
 obtain ⟨n,_,hb⟩:=h.mem x hx
 rw [hc.kind,hb.kind]
 exact hb.few
set_option maxHeartbeats 16000000 in
theorem FnLabelNames_calls (w:World) (B:Nat) (s:SV) (ns:List PN) (hN:NodesAt w B s ns) (hB:B≤w.heap.size) (hb:BulkP ns) (hq:LblOk ns):Calls Tryz.prog 3 #[s.val] w (GivesB w true):=by
 have hZ:=zz5_calls w B s ns hN
 have hNU:=fun W (hW:Fr nope w W)=>(hN.fr hW (fun _ _ x=>x)).up (Nat.le_trans hB hW.size)
 have hK:=fun W (hW:Fr nope w W)=>known_calls W B s ns (hN.fr hW (fun _ _ x=>x))
 have hO:=fun W (hW:Fr nope w W)=>NodesOK_calls W B s ns (hN.fr hW (fun _ _ x=>x))
 have hU:=fun W (hW:Fr nope w W)=>usual_calls W B s ns (hN.fr hW (fun _ _ x=>x)) (Nat.le_trans hB hW.size)
 have hC:=fun W (hW:Fr nope w W)=>called_calls W s ns (hNU W hW) hq
 obtain ⟨sc,ok,n,hg⟩:=grU_ex ns
 have hIF:=fun W (hW:Fr nope w W) (hok:ns.all okN=true)=>ImFlowU_calls W s ns (hNU W hW) hok hg
 have hSF:=fun W (hW:Fr nope w W) (hok:ns.all okN=true)=>FlowGraphU_calls W B s ns (hN.fr hW (fun _ _ x=>x)) hok hg
 have hPJ:=fun W (hW:Fr nope w W) (hok:ns.all okN=true)=>ImPJ_calls W s ns (hNU W hW) hok
 have hPL:=fun W (hW:Fr nope w W) (hok:ns.all okN=true)=>ImPL_calls W s ns (hNU W hW) hok
 have hIA:=fun W (hW:Fr nope w W) (ha:AFOk ns)=>AllocFnU_calls W s ns (hNU W hW) ha
 have haf:=fun (hu:UsualP ns)=>hu.af (fun p hp=>PI.ok_of (insP_each hN p hp)) hb
 have hfew:=hN.few
 have hsm:=hg.small hfew
 have hsh:=hg.short hfew
 obtain ⟨A,m,c⟩:=s
 simp only [SV.val] at hZ hK hO hU hC hSF hIF hPJ hPL hIA ⊢
 clear hN hNU hb
 replace hg:=Lib.hid hg
 replace hq:=Lib.hid hq
 replace hK:=Lib.hid hK
 replace hO:=Lib.hid hO
 replace hU:=Lib.hid hU
 replace hC:=Lib.hid hC
 replace hIF:=Lib.hid hIF
 replace hSF:=Lib.hid hSF
 replace hPJ:=Lib.hid hPJ
 replace hPL:=Lib.hid hPL
 replace hIA:=Lib.hid hIA
 replace haf:=Lib.hid haf
 replace hfew:=Lib.hid hfew
 replace hsm:=Lib.hid hsm
 replace hsh:=Lib.hid hsh
 go_enter Tryz.func3,Tryz.ntmps3
 go_wp2_with fail
 refine hZ.mono ?_
 rintro e w1 ⟨hf1,b,rfl⟩
 clear hZ
 cases b with
 | false=>
  go_wp2
  go_ret
  exact ⟨rfl,hf1⟩
 | true=>
 go_wp2_with fail
 refine (hK.out _ hf1).mono ?_
 rintro e w2 ⟨hf2,b,rfl,hkn⟩
 have hn2:=hf1.then hf2
 clear hkn
 cases b with
 | false=>
  go_wp2
  go_ret
  exact ⟨rfl,hn2⟩
 | true=>
 go_wp2_with fail
 refine (hO.out _ hn2).mono ?_
 rintro e w3 ⟨rfl,hf3⟩
 have hn3:=hn2.then hf3
 cases hok:ns.all okN with
 | false=>
  go_wp2
  go_ret
  exact ⟨rfl,hn3⟩
 | true=>
 replace hok:=Lib.hid hok
 go_wp2_with fail
 refine (hC.out _ hn3).mono ?_
 rintro e w4 ⟨hf4,AQ,cQ,cs,rfl,hNC,hCM⟩
 have hn4:=hn3.then hf4
 have hcn:=CalM.ns hCM
 have hokc:cs.all okN=true:=by rw [hCM.ok];exact hok.out
 have hgc:GrU cs sc ok n:=hg.out.congr (CalNs.graph qL_inj hcn) hcn.ins.1
 have hreg:RegL (insP ns) (insP cs):=hcn.regs
 have hGc:=fun sc=>CalNs.graph qL_inj hcn sc
 have hNCW:=fun W (hW:Fr nope w4 W)=>(hNC.fr hW (fun _ _ x=>x)).up hW.size
 have hIFc:=fun W (hW:Fr nope w4 W)=>ImFlowU_calls W ⟨AQ,cs.length,cQ⟩ cs (hNCW W hW) hokc hgc
 have hPJc:=fun W (hW:Fr nope w4 W)=>ImPJ_calls W ⟨AQ,cs.length,cQ⟩ cs (hNCW W hW) hokc
 have hPLc:=fun W (hW:Fr nope w4 W)=>ImPL_calls W ⟨AQ,cs.length,cQ⟩ cs (hNCW W hW) hokc
 have hIAc:=fun W (hW:Fr nope w4 W) (hu:UsualP ns)=>AllocFnU_calls W ⟨AQ,cs.length,cQ⟩ cs (hNCW W hW) ((haf.out hu).cal hCM (hNCW W hW))
 simp only at hIFc hPJc hPLc hIAc
 clear hNC hNCW hcn hokc hgc hg
 replace hIFc:=Lib.hid hIFc
 replace hPJc:=Lib.hid hPJc
 replace hPLc:=Lib.hid hPLc
 replace hIAc:=Lib.hid hIAc
 replace hreg:=Lib.hid hreg
 replace hGc:=Lib.hid hGc
 replace hCM:=Lib.hid hCM
 obtain ⟨lc,hlc⟩:∃ lc,lc=cs.length:=⟨_,rfl⟩
 rw [← hlc] at hIFc hPJc hPLc hIAc ⊢
 replace hlc:=Lib.hid hlc
 go_wp2_with fail
 refine (hIF.out _ hn4 hok.out).mono ?_
 rintro e w6 ⟨hf6,A6,c6,D6,d6,rfl,hS1,hS2⟩
 have hn6:=hn4.then hf6
 go_wp2_with fail
 refine (hIFc.out _ hf6).mono ?_
 rintro e w7 ⟨hf7,A7,c7,D7,d7,rfl,hT1,hT2⟩
 have hn7:=hn6.then hf7
 go_wp2_with fail
 refine (hSF.out _ hn7 hok.out).mono ?_
 rintro e w8 ⟨hf8,x8,y8,rfl⟩
 have hn8:=hn7.then hf8
 have hf78:=hf7.then hf8
 have hn48:=hf6.then hf78
 replace hS1:=Lib.hid (hS1.nope hf78)
 replace hS2:=Lib.hid (hS2.nope hf78)
 replace hT1:=Lib.hid (hT1.nope hf8)
 replace hT2:=Lib.hid (hT2.nope hf8)
 go_wp2_with fail
 refine (lists_calls w8 A6 A7 c6 c7 n sc hS1.out hT1.out hsm.out hsh.out.1).mono ?_
 rintro e w9 ⟨rfl,hf9⟩
 go_wp2_with fail
 refine (lists_calls w9 D6 D7 d6 d7 n _ (hS2.out.nope hf9) (hT2.out.nope hf9) hsm.out hsh.out.2).mono ?_
 rintro e w10 ⟨rfl,hf10⟩
 have hf810:=hf9.then hf10
 have hn10:=hn8.then hf810
 have hn410:=hn48.then hf810
 clear hS1 hS2 hT1 hT2
 go_wp2_with fail
 refine (hPJ.out _ hn10 hok.out).mono ?_
 rintro e w11 ⟨hf11,A11,c11,xs,rfl,hNX,hBX⟩
 have hn11:=hn10.then hf11
 have hn411:=hn410.then hf11
 have hlx:=back_lbl hBX (hq.out.sub (pruneJ_sub _ _ _).1)
 go_wp2_with fail
 refine (hPJc.out _ hn411).mono ?_
 rintro e w12 ⟨hf12,A12,c12,ys,rfl,hNY,hBY⟩
 have hn12:=hn11.then hf12
 have hn412:=hn411.then hf12
 have hCX:=called_calls w12 ⟨A11,xs.length,c11⟩ xs ((hNX.fr hf12 (fun _ _ x=>x)).up hf12.size) hlx
 simp only [SV.val] at hCX
 clear hNX hlx
 replace hNY:=Lib.hid hNY
 replace hBX:=Lib.hid hBX
 replace hBY:=Lib.hid hBY
 go_wp2_with fail
 refine hCX.mono ?_
 rintro e w13 ⟨hf13,A13,c13,ds,rfl,hND,hCD⟩
 have hn13:=hn12.then hf13
 have hn413:=hn412.then hf13
 have hSN:=SameNodes_calls w13 _ _ ⟨A13,ds.length,c13⟩ ⟨A12,ys.length,c12⟩ ds ys hND (hNY.out.fr hf13 (fun _ _ x=>x)) ((prune_names qL_inj hCM.out hCD).1 hBX.out hBY.out) (kinds3 hBX.out hCD)
 simp only [SV.val] at hSN
 clear hND hCD hNY hBX hBY
 go_wp2_with fail
 refine hSN.mono ?_
 rintro e w14 ⟨rfl,hf14⟩
 have hn14:=hn13.then hf14
 have hn414:=hn413.then hf14
 go_wp2_with fail
 refine (hPL.out _ hn14 hok.out).mono ?_
 rintro e w15 ⟨hf15,A15,c15,xs,rfl,hNX,hBX⟩
 have hn15:=hn14.then hf15
 have hn415:=hn414.then hf15
 have hlx:=back_lbl hBX (hq.out.sub (pruneL_sub _ _ _).1)
 go_wp2_with fail
 refine (hPLc.out _ hn415).mono ?_
 rintro e w16 ⟨hf16,A16,c16,ys,rfl,hNY,hBY⟩
 have hn16:=hn15.then hf16
 have hn416:=hn415.then hf16
 have hCX:=called_calls w16 ⟨A15,xs.length,c15⟩ xs ((hNX.fr hf16 (fun _ _ x=>x)).up hf16.size) hlx
 simp only [SV.val] at hCX
 clear hNX hlx
 replace hNY:=Lib.hid hNY
 replace hBX:=Lib.hid hBX
 replace hBY:=Lib.hid hBY
 go_wp2_with fail
 refine hCX.mono ?_
 rintro e w17 ⟨hf17,A17,c17,ds,rfl,hND,hCD⟩
 have hn17:=hn16.then hf17
 have hn417:=hn416.then hf17
 have hSN:=SameNodes_calls w17 _ _ ⟨A17,ds.length,c17⟩ ⟨A16,ys.length,c16⟩ ds ys hND (hNY.out.fr hf17 (fun _ _ x=>x)) ((prune_names qL_inj hCM.out hCD).2 hBX.out hBY.out) (kinds3 hBX.out hCD)
 simp only [SV.val] at hSN
 clear hND hCD hNY hBX hBY
 go_wp2_with fail
 refine hSN.mono ?_
 rintro e w18 ⟨rfl,hf18⟩
 have hn18:=hn17.then hf18
 have hn418:=hn417.then hf18
 go_wp2_with fail
 refine (hU.out _ hn18).mono ?_
 rintro e w19 ⟨hf19,b,rfl,hus⟩
 have hn19:=hn18.then hf19
 have hn419:=hn418.then hf19
 cases b with
 | false=>
  go_wp2
  go_ret
  exact ⟨rfl,hn19⟩
 | true=>
 have husU:=Lib.hid (hus rfl)
 clear hus
 have hafn:=Lib.hid (haf.out husU.out)
 go_wp2_with fail
 refine (hIA.out _ hn19 hafn.out).mono ?_
 rintro e w20 ⟨hf20,A20,c20,l20,ok20,rfl,hAU,hAl,hAP⟩
 go_wp2_with fail
 refine (hIAc.out _ (hn419.then hf20) husU.out).mono ?_
 rintro e w21 ⟨hf21,A21,c21,l21,ok21,rfl,hBU,hBl,hBP⟩
 obtain ⟨rfl,rfl⟩:=hAU.uniq (hBU.regs hreg.out hGc.out)
 have hAP':=Lib.hid (hAP.fr hf21)
 replace hBP:=Lib.hid hBP
 have hn21:=(hn19.then hf20).then hf21
 clear hAU hBU hAP hBl
 go_wp2_with fail
 refine (same_calls w21 A20 A21 c20 c21 l21 hAP'.out hBP.out hAl).mono ?_
 rintro e w22 ⟨rfl,hf22⟩
 go_wp2
 go_ret
 exact ⟨rfl,hn21.then hf22⟩
end
section
open Go Go.RowKit Go.ChangeShapes Go.WideShapes Go.ChangeAt Bth
set_option maxRecDepth 100000
theorem ownK:ownKnob Tryz.prog.godebug=none:=by kernel_rfl
theorem laidOutP:laidOutB Tryz.prog=true:=by kernel_rfl
theorem rd_nodesL {H:Type} {enc:TypeId × Value→H} {w:World} {n:Nat} {c:Value} {x:DataW H × List MemPlace} (h:DataW.trod enc Tryz.prog w 0 (fun _=>true) true n 22 [c]=some x) (hk:Rows.uptoBulk x.1≤1048576):
  ∃ (s:SV) (l:List PN),c=s.val∧NodesAt w w.heap.size s l∧BulkP l∧LblOk l:=by
 obtain ⟨s,l,rfl,h1,h2⟩:=rd_nodes h hk
 exact ⟨s,l,rfl,h1,h2,LblOk.of (re_nodes h h1) (Nat.le_trans hk (by decide))⟩
theorem row_contract (H:Type) (enc:TypeId × Value→H) (W:World) (base:Nat) (args:Array Value) (ds gs:List (DataW H)) (before:List MemPlace)
  (hval:∀ (j:Nat) t v,Tryz.f3.params[j]? = some t→args[j]? = some v→Value.okWide Tryz.prog W .any base t v)
  (hW:DataW.Whole enc Tryz.prog Tryz.f3.params.toList Rows.fnLabelNamesSpec.vars false W args.toList ds gs before) (hk:Rows.uptoSmall H (ds ++ gs)=true):
  Calls Tryz.prog 3 args W fun e W'=>∃ v,e = .returned v∧Rows.fnLabelNamesSpec.post enc Tryz.prog Tryz.f3 false true false false W args v W':=by
 have hW':=hW
 obtain ⟨p,q,hA0,hV,rfl,hfz,hnd⟩:=hW
 have hA:DataW.TrodAll enc Tryz.prog W 0 (fun _=>true) true Tryz.f3.params.toList args.toList ds p:=hA0
 rw [Tryz.params3] at hA hval
 obtain ⟨v0,vs0,d0,ds0,p0,q0,hargs,rfl,rfl,h0,r0⟩:=trodAll_cons hA
 obtain ⟨rfl,rfl,rfl⟩:=trodAll_nil r0
 obtain rfl:args = #[v0]:=by cases args;simp_all
 obtain ⟨rfl,rfl⟩:=trodVars_none hV
 obtain ⟨a0,len,cap,rfl⟩:=okWide_slice Tryz.underlying22 (hval 0 22 v0 rfl rfl)
 have h0k:=h0
 obtain ⟨fuel,hf⟩:=h0
 have hlt:∀ x∈p0,x.block < W.heap.size:=fun x hx=>hW'.lt x (by simp [hx])
 have hkb:Rows.uptoBulk d0≤1048576:=by
  have h:Rows.uptoBulkAll ([d0] ++ ([]:List (DataW H)))≤1048576:=of_decide_eq_true hk
  simp only [List.append_nil,Rows.uptoBulkAll] at h
  omega
 obtain ⟨s,ns,hs,hN,hB,hL⟩:=rd_nodesL (by simpa [Value.cells] using hf) hkb
 clear hA0
 rw [hs] at h0k hW' ⊢
 refine (FnLabelNames_calls W W.heap.size s ns hN (Nat.le_refl _) hB hL).mono ?_
 rintro e W' ⟨rfl,hfr⟩
 have hbel:=hfr.below
 refine ⟨_,rfl,_,_,_,[],p0,[],hW',trodAll_mk1 (shut_bool Tryz.underlying4 _),?_,rfl,hbel.frame _,fun h=>by cases h⟩
 rw [Tryz.params3]
 exact trodAll_mk1 (Below.trod laidOutP (by kernel_rfl) (of_decide_eq_true (by kernel_rfl)) h0k hbel hlt)
theorem row_lifted (os:Os) (started:os.Started) (H:Type) (enc:TypeId × Value→H) (F:Stop.Interp):
  ReturnsInHanded {} Tryz.checked os 3 .any ((Rows.OpenSpec.upto Rows.fnLabelNamesSpec).pre6 enc Tryz.prog Tryz.f3 Rows.fnLabelNamesUptoRow.domain false) (((Rows.OpenSpec.upto Rows.fnLabelNamesSpec).at F).post enc Tryz.prog Tryz.f3 false true false false):=by
 refine returnsInHanded_of_cond (C:=Tryz.checked) (s:=Rows.OpenSpec.upto Rows.fnLabelNamesSpec) (k:=Rows.uptoSmall) rfl ownK started (by kernel_rfl) Tryz.func3
  (OpenSpec.witness (enc:=enc) (C:=Tryz.checked) (s:=Rows.OpenSpec.upto Rows.fnLabelNamesSpec) (k:=Rows.uptoSmall) rfl false ⟨#[],#[.slice none 0 0],[]⟩ 8 (by kernel_rfl) (by kernel_rfl) (by kernel_rfl)
   (x:=([.nil],[],[])) (by kernel_rfl) rfl (by kernel_rfl)) ?_
 intro W base args ds gs before hval hW _ hk _
 exact row_contract H enc W base args ds gs before hval hW hk
theorem hfnT:Tryz.pinned.checked.prog.funcNamed Rows.fnLabelNamesUptoRow.func=some 3:=by kernel_rfl
set_option maxHeartbeats 8000000 in
theorem closedT:joinedFacts Tryz.pinned.checked.prog 3 Tryz.f3 (Rows.OpenSpec.upto Rows.fnLabelNamesSpec).bare Rows.fnLabelNamesUptoRow=true:=by
 unfold joinedFacts
 simp only [Bool.and_eq_true]
 refine ⟨⟨⟨⟨⟨⟨⟨⟨⟨⟨⟨⟨⟨⟨⟨⟨⟨⟨⟨⟨⟨⟨⟨⟨⟨⟨⟨⟨⟨⟨⟨?_,?_⟩,?_⟩,?_⟩,?_⟩,?_⟩,?_⟩,?_⟩,?_⟩,?_⟩,?_⟩,?_⟩,?_⟩,?_⟩,?_⟩,?_⟩,?_⟩,?_⟩,?_⟩,?_⟩,?_⟩,?_⟩,?_⟩,?_⟩,?_⟩,?_⟩,?_⟩,?_⟩,?_⟩,?_⟩,?_⟩,?_⟩<;>as_aux_lemma=>kernel_rfl
theorem hinstT:Tryz.f3.isInstance Tryz.pinned.checked.prog Rows.fnLabelNamesUptoRow.origin Rows.fnLabelNamesUptoRow.targs:=of_decide_eq_true (by kernel_rfl)
theorem hwrapT:Tryz.f3.isWrapper Tryz.pinned.checked.prog Rows.fnLabelNamesUptoRow.wrapper Rows.fnLabelNamesUptoRow.mainSum:=by
 unfold Func.isWrapper
 first | (rw [if_pos (by decide +kernel)];kernel_rfl) | (rw [if_neg (by decide +kernel)];exact ⟨rfl,rfl⟩)
theorem fnLabelNames_upto:Rows.FnLabelNamesUptoSaid:=
 OpenClaim.holds_of_cond 3 Tryz.f3 rfl rfl rfl rfl rfl rfl rfl ⟨rfl,rfl,rfl,rfl,rfl⟩ rfl rfl rfl rfl rfl hfnT Tryz.func3 closedT hinstT hwrapT
  (fun os started H enc _ F=>row_lifted os started H enc F)
end
end Go.Proofs.YtbgblfiapecioaaGreat
