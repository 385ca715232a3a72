/-
  Proves 'FnBoundRunsUptoSaid': for every input of bulk at most 1048576 the law FnBoundRuns answers true, and each argument reads behind the call as it read before: nodes whose virtual registers were given physical ones do the same along every path: each instruction reads the values that it reads in the nodes as they were, where no virtual register is read that was never written; at most four registers of a kind are always given places.
  Condition: the bulk of what comes in (the given form 'Upto'); no other.
-/
import Derived.WalkKit
import Derived.ProofKit
import Derived.OpenShut
import Derived.JoinedCond
import Derived.Carry
import Derived.Test.YtjlfkgjmgghhiaaGreatP51
import Derived.Test.YtjlfkgjmgghhiaaGreatR2C
namespace Go.Proofs.YtjlfkgjmgghhiaaGreat
section
open Go Go.RowKit Go.MapKept Bth
set_option maxRecDepth 100000
set_option maxHeartbeats 8000000 in
theorem FnBoundRuns_calls (w:World) (B:Nat) (s:SV) (ns:List PN) (hN:NodesAt w B s ns) (hB:B≤w.heap.size) (hb:BulkP ns) (s2:SV) (zs:List Int) (hz:IntsAt w s2 zs):Calls Tryz.prog 3 #[s.val,s2.val] w (GivesB w true):=by
 have hZ:=zz5_calls w B s ns hN
 have hA:=fun W (hW:Fr nope w W)=>allocated_calls W B s ns (hN.fr hW (fun _ _ x=>x)) (Nat.le_trans hB hW.size) hb
 have hFG:=fun W (hW:Fr nope w W) (hok:ns.all okN=true)=>FlowGraph_calls W B s ns (hN.fr hW (fun _ _ x=>x)) hok
 have hL:=fun W (hW:Fr nope w W) (hok:ns.all okN=true)=>SpLiveness_calls W B s ns (hN.fr hW (fun _ _ x=>x)) hok
 have hI:=fun W (hW:Fr nope w W)=>Instrs_calls W B s ns (hN.fr hW (fun _ _ x=>x))
 have hat:=fun W (hW:Fr nope w W) (hok:ns.all okN=true)=>insP_at (hN.fr hW (fun _ _ x=>x)) hok
 have hlen:(insP ns).length≤1048576:=by
  have h1:=hN.few
  have:(insP ns).length≤ns.length:=by unfold insP;rw [List.length_map];exact List.length_filter_le _ _
  omega
 obtain ⟨A,n,c⟩:=s
 obtain ⟨A5,n5,c5⟩:=s2
 obtain rfl:n5=zs.length:=hz.len
 have hzr:=hz.row
 have hzf:=hz.few
 simp only [SV.val] at hZ hA hFG hL hI ⊢
 clear hN hz
 replace hA:=Lib.hid hA
 replace hFG:=Lib.hid hFG
 replace hL:=Lib.hid hL
 replace hI:=Lib.hid hI
 replace hat:=Lib.hid hat
 replace hlen:=Lib.hid hlen
 replace hb:=Lib.hid hb
 have hzm:¬(2147483647:Int) < (zs.length:Int):=by omega
 have hmm:=@run_makeMap Tryz.prog
 go_enter Tryz.func3,Tryz.ntmps3
 go_wp2_with fail
 refine hZ.mono ?_
 rintro e w1 ⟨hf1,b,rfl⟩
 clear hZ
 cases b with
 | false=>
  go_wp2
  go_ret
  exact ⟨rfl,hf1⟩
 | true=>
 go_wp2_with fail
 refine (hA.out _ hf1).mono ?_
 rintro e w2 ⟨hf2,⟨x,y,rfl⟩ | ⟨A2,c2,l,A3,c3,ns',f,rfl,hpa,hll,hef,haf,hao,hu,hN',hBN⟩⟩
 ·go_wp2
  go_ret
  exact ⟨rfl,hf1.then hf2⟩
 have hn2:=hf1.then hf2
 have hok:=Lib.hid hu.2.1
 have hok':=bound_ok hBN hao.ops hu.2.1
 obtain ⟨hbi,_⟩:=bound_ins hBN hao.ops
 have hI2:=fun W (hW:Fr nope w2 W)=>Instrs_calls W _ ⟨A3,ns'.length,c3⟩ ns' (hN'.fr hW (fun _ _ x=>x))
 have hat2:=fun W (hW:Fr nope w2 W)=>insP_at (hN'.fr hW (fun _ _ x=>x)) hok'
 simp only [SV.val] at hI2
 clear hpa hef hN' hll
 replace haf:=Lib.hid haf
 replace hao:=Lib.hid hao
 replace hu:=Lib.hid hu
 replace hBN:=Lib.hid hBN
 replace hI2:=Lib.hid hI2
 replace hat2:=Lib.hid hat2
 replace hok':=Lib.hid hok'
 replace hbi:=Lib.hid hbi
 by_cases hmost:(2000:Int) < (zs.length:Int)
 ·go_wp2
  go_ret
  exact ⟨rfl,hn2⟩
 go_wp2_with fail
 refine (hFG.out _ hn2 hok.out).mono ?_
 rintro e w3 ⟨hf3,⟨A4,c4,D,d,sc,rfl,hG,hS⟩ | ⟨rfl,hbad⟩⟩
 rotate_left
 ·obtain ⟨sc,hG,_⟩:=af_apart haf.out hao.out
  exact absurd hG (hbad sc)
 have hn3:=hn2.then hf3
 replace hG:=Lib.hid hG
 replace hS:=Lib.hid hS
 go_wp2_with fail
 refine (hL.out _ hn3 hok.out).mono ?_
 rintro e w4 ⟨hf4,⟨bi,bo,I,O,sc2,rfl,hG2,hRI,hRO,hSI,hCl⟩ | ⟨rfl,hbad⟩⟩
 rotate_left
 ·exact absurd hG.out (hbad sc)
 have hn4:=hn3.then hf4
 have hS4:SuccAt w4 A4 (insP ns).length sc2:=by
  obtain ⟨vs,h1,h2⟩:=hS.out.nope hf4
  exact ⟨vs,h1,fun k hk=>by rw [← hG.out.uniq hG2 k hk];exact h2 k hk⟩
 have hT4:=hRI.tls
 have hTt:∀ s∈(List.range (insP ns).length).map I,Tidy s:=fun s hs=>by
  obtain ⟨k,_,rfl⟩:=List.mem_map.1 hs
  exact hSI.ti k
 have hE:=earlyV_calls w4 (some ⟨bi,0,none⟩) (insP ns).length _ hT4 hTt
 rw [List.length_map,List.length_range] at hE
 clear hRI hRO hT4 hTt
 replace hG2:=Lib.hid hG2
 replace hSI:=Lib.hid hSI
 replace hCl:=Lib.hid hCl
 replace hS4:=Lib.hid hS4
 go_wp2_with fail
 refine hE.mono ?_
 rintro e w5 ⟨hf5,b,rfl,hea⟩
 have hn5:=hn4.then hf5
 clear hE
 cases b with
 | true=>
  clear hea
  go_wp2
  go_ret
  exact ⟨rfl,hn5⟩
 | false=>
 replace hea:=Lib.hid (hea rfl)
 obtain ⟨hg1,hg2⟩:=hG2.out.lt
 have hsl:∀ k,k < (insP ns).length→(sc2 k).length≤1048576:=fun k hk=>Nat.le_trans (hg2 k hk) (by decide)
 replace hg1:=Lib.hid hg1
 clear hg2
 go_wp2_with fail
 refine (path_calls w5 A4 A5 c4 c5 (insP ns).length sc2 zs (hS4.out.nope hf5) hsl (hzr.nope hn5) hzf).mono ?_
 rintro e w6 ⟨hf6,A6,c6,ps,rfl,hps,hpl,hway⟩
 have hn6:=hn5.then hf6
 have hwl:=Lib.hid (wayP_lt hway)
 replace hway:=Lib.hid hway
 clear hsl
 have hM6:=MAt.made w6
 have hf6a:Fr nope w6 (w6.alloc (.map #[] 0)):=(Fr.refl nope w6).alloc _
 go_wp2_with fail
 generalize w6.alloc (.map #[] 0)=w7 at hM6 hf6a ⊢
 have hn7:=hn6.then hf6a
 refine (hI.out _ hn7).mono ?_
 rintro e w8 ⟨hf8,Aa,ca,rfl,hins⟩
 have hn8:=hn7.then hf8
 have hB6:B≤w6.heap.size:=Nat.le_trans hB hn6.size
 have hat8:=hat.out _ hn8 hok.out
 have hok_a:=Lib.hid (okA_of hat8)
 have hlt8:=hwl.out
 go_wp2_with fail
 refine (ran_calls mxN mixC w8 w6.heap.size B _ Aa A6 ca c6 (insP ns) ps (hM6.fr hf8 (fun x=>x)) hB6 hins hat8 ((hps.nope hf6a).nope hf8) (by omega) hlt8 hlen.out).mono ?_
 rintro e w9 ⟨hf9,A9,c9,rfl,hx9⟩
 have hf69:Fr nope w6 w9:=(hf6a.then hf8).then_new hf9 (fun x hx e=>by omega)
 have hn9:=hn6.then hf69
 have hlen1:(ranP mxN (rdL (insP ns)) (wrL (insP ns)) (fun _ _=>none) ps).length=ps.length:=ranP_len _ _ _ _ _
 clear hat8 hlt8 hins hM6
 replace hx9:=Lib.hid hx9
 replace hlen1:=Lib.hid hlen1
 have hM9:=MAt.made w9
 have hf9a:Fr nope w9 (w9.alloc (.map #[] 0)):=(Fr.refl nope w9).alloc _
 have hf29:Fr nope w2 w9:=((((hf3.then hf4).then hf5).then hf6).then hf69)
 go_wp2_with fail
 generalize w9.alloc (.map #[] 0)=w10 at hM9 hf9a ⊢
 refine (hI2.out _ (hf29.then hf9a)).mono ?_
 rintro e w11 ⟨hf11,Ab,cb,rfl,hins2⟩
 have hf211:=(hf29.then hf9a).then hf11
 have hat11:=hat2.out _ hf211
 have hlt11:∀ p∈ps,p < (insP ns').length:=fun p hp=>by rw [hbi.out];exact hwl.out p hp
 have hl2:(insP ns').length≤1048576:=by rw [hbi.out];exact hlen.out
 have h2le:=hf29.size
 go_wp2_with fail
 refine (ran_calls mxN mixC w11 w9.heap.size w2.heap.size _ Ab A6 cb c6 (insP ns') ps (hM9.fr hf11 (fun x=>x)) h2le hins2 hat11 ((hps.nope hf69).nope (hf9a.then hf11)) (by omega) hlt11 hl2).mono ?_
 rintro e w12 ⟨hf12,A12,c12,rfl,hx12⟩
 have hf912:Fr nope w9 w12:=(hf9a.then hf11).then_new hf12 (fun x hx e=>by omega)
 have hn12:=hn9.then hf912
 have hsame:ranP mxN (rdL (insP ns')) (wrL (insP ns')) (fun _ _=>none) ps=ranP mxN (rdL (insP ns)) (wrL (insP ns)) (fun _ _=>none) ps:=by
  cases hpse:ps with
  | nil=>rfl
  | cons p qs=>
   have hw:=hway.out
   rw [hpse] at hw
   have h0:0 < (insP ns).length:=Nat.lt_of_le_of_lt (Nat.zero_le p) (wayP_lt hw p (by simp))
   exact runs_same haf.out hao.out hu.out hBN.out hG2.out hSI.out hCl.out hok_a.out (lfOf_ok hok_a.out hg1.out) (hea.out (I 0) (by rw [List.getElem?_map,List.getElem?_range h0];rfl)) mxN hw
 rw [hsame] at hx12 ⊢
 have hNm:=numbers_calls w12 A9 A12 c9 c12 _ (hx9.out.nope hf912) hx12 (by have:=hlen1.out;omega)
 clear hsame hat11 hlt11 hins2 hM9 hx12
 go_wp2_with fail
 refine hNm.mono ?_
 rintro e w13 ⟨rfl,hf13⟩
 go_wp2
 go_ret
 exact ⟨rfl,hn12.then hf13⟩
end
section
open Go Go.RowKit Go.ChangeShapes Go.WideShapes Go.ChangeAt Bth
set_option maxRecDepth 100000
theorem ownK:ownKnob Tryz.prog.godebug=none:=by kernel_rfl
theorem laidOutP:laidOutB Tryz.prog=true:=by kernel_rfl
theorem row_contract (H:Type) (enc:TypeId × Value→H) (W:World) (base:Nat) (args:Array Value) (ds gs:List (DataW H)) (before:List MemPlace)
  (hval:∀ (j:Nat) t v,Tryz.f3.params[j]? = some t→args[j]? = some v→Value.okWide Tryz.prog W .any base t v)
  (hW:DataW.Whole enc Tryz.prog Tryz.f3.params.toList Rows.fnBoundRunsSpec.vars false W args.toList ds gs before) (hk:Rows.uptoSmall H (ds ++ gs)=true):
  Calls Tryz.prog 3 args W fun e W'=>∃ v,e = .returned v∧Rows.fnBoundRunsSpec.post enc Tryz.prog Tryz.f3 false true false false W args v W':=by
 have hW':=hW
 obtain ⟨p,q,hA0,hV,rfl,hfz,hnd⟩:=hW
 have hA:DataW.TrodAll enc Tryz.prog W 0 (fun _=>true) true Tryz.f3.params.toList args.toList ds p:=hA0
 rw [Tryz.params3] at hA hval
 obtain ⟨v0,v1,d0,d1,p0,p1,rfl,rfl,rfl,h0,h1⟩:=trodAll_two hA
 obtain ⟨rfl,rfl⟩:=trodVars_none hV
 obtain ⟨a0,len,cap,rfl⟩:=okWide_slice Tryz.underlying22 (hval 0 22 v0 rfl rfl)
 obtain ⟨a1,len1,cap1,rfl⟩:=okWide_slice Tryz.underlying23 (hval 1 23 v1 rfl rfl)
 have h0k:=h0
 have h1k:=h1
 obtain ⟨fuel,hf⟩:=h0
 obtain ⟨fuel1,hf1⟩:=h1
 have hlt:∀ x∈p0,x.block < W.heap.size:=fun x hx=>hW'.lt x (by simp [hx])
 have hlt1:∀ x∈p1,x.block < W.heap.size:=fun x hx=>hW'.lt x (by simp [hx])
 have hkb:Rows.uptoBulk d0≤1048576∧Rows.uptoBulk d1≤1048576:=by
  have h:Rows.uptoBulkAll ([d0,d1] ++ ([]:List (DataW H)))≤1048576:=of_decide_eq_true hk
  simp only [List.append_nil,Rows.uptoBulkAll] at h
  omega
 obtain ⟨s,ns,hs,hN,hB⟩:=rd_nodes (by simpa [Value.cells] using hf) hkb.1
 obtain ⟨s2,zs,hs2,hz⟩:=rd_ints (by simpa [Value.cells] using hf1) hkb.2
 clear hA0
 rw [hs] at h0k hW' ⊢
 rw [hs2] at h1k hW' ⊢
 refine (FnBoundRuns_calls W W.heap.size s ns hN (Nat.le_refl _) hB s2 zs hz).mono ?_
 rintro e W' ⟨rfl,hfr⟩
 have hbel:=hfr.below
 refine ⟨_,rfl,_,_,_,[],p0 ++ p1,[],hW',trodAll_mk1 (shut_bool Tryz.underlying4 _),?_,rfl,hbel.frame _,fun h=>by cases h⟩
 rw [Tryz.params3]
 exact trodAll_mk2 (Below.trod laidOutP (by kernel_rfl) (of_decide_eq_true (by kernel_rfl)) h0k hbel hlt) (Below.trod laidOutP (by kernel_rfl) (of_decide_eq_true (by kernel_rfl)) h1k hbel hlt1)
theorem row_lifted (os:Os) (started:os.Started) (H:Type) (enc:TypeId × Value→H) (F:Stop.Interp):
  ReturnsInHanded {} Tryz.checked os 3 .any ((Rows.OpenSpec.upto Rows.fnBoundRunsSpec).pre6 enc Tryz.prog Tryz.f3 Rows.fnBoundRunsUptoRow.domain false) (((Rows.OpenSpec.upto Rows.fnBoundRunsSpec).at F).post enc Tryz.prog Tryz.f3 false true false false):=by
 refine returnsInHanded_of_cond (C:=Tryz.checked) (s:=Rows.OpenSpec.upto Rows.fnBoundRunsSpec) (k:=Rows.uptoSmall) rfl ownK started (by kernel_rfl) Tryz.func3
  (OpenSpec.witness (enc:=enc) (C:=Tryz.checked) (s:=Rows.OpenSpec.upto Rows.fnBoundRunsSpec) (k:=Rows.uptoSmall) rfl false ⟨#[],#[.slice none 0 0,.slice none 0 0],[]⟩ 8 (by kernel_rfl) (by kernel_rfl) (by kernel_rfl)
   (x:=([.nil,.nil],[],[])) (by kernel_rfl) rfl (by kernel_rfl)) ?_
 intro W base args ds gs before hval hW _ hk _
 exact row_contract H enc W base args ds gs before hval hW hk
theorem hfnT:Tryz.pinned.checked.prog.funcNamed Rows.fnBoundRunsUptoRow.func=some 3:=by kernel_rfl
set_option maxHeartbeats 8000000 in
theorem closedT:joinedFacts Tryz.pinned.checked.prog 3 Tryz.f3 (Rows.OpenSpec.upto Rows.fnBoundRunsSpec).bare Rows.fnBoundRunsUptoRow=true:=by
 unfold joinedFacts
 simp only [Bool.and_eq_true]
 refine ⟨⟨⟨⟨⟨⟨⟨⟨⟨⟨⟨⟨⟨⟨⟨⟨⟨⟨⟨⟨⟨⟨⟨⟨⟨⟨⟨⟨⟨⟨⟨?_,?_⟩,?_⟩,?_⟩,?_⟩,?_⟩,?_⟩,?_⟩,?_⟩,?_⟩,?_⟩,?_⟩,?_⟩,?_⟩,?_⟩,?_⟩,?_⟩,?_⟩,?_⟩,?_⟩,?_⟩,?_⟩,?_⟩,?_⟩,?_⟩,?_⟩,?_⟩,?_⟩,?_⟩,?_⟩,?_⟩,?_⟩<;>as_aux_lemma=>kernel_rfl
theorem hinstT:Tryz.f3.isInstance Tryz.pinned.checked.prog Rows.fnBoundRunsUptoRow.origin Rows.fnBoundRunsUptoRow.targs:=of_decide_eq_true (by kernel_rfl)
theorem hwrapT:Tryz.f3.isWrapper Tryz.pinned.checked.prog Rows.fnBoundRunsUptoRow.wrapper Rows.fnBoundRunsUptoRow.mainSum:=by
 unfold Func.isWrapper
 first | (rw [if_pos (by decide +kernel)];kernel_rfl) | (rw [if_neg (by decide +kernel)];exact ⟨rfl,rfl⟩)
theorem fnBoundRuns_upto:Rows.FnBoundRunsUptoSaid:=
 OpenClaim.holds_of_cond 3 Tryz.f3 rfl rfl rfl rfl rfl rfl rfl ⟨rfl,rfl,rfl,rfl,rfl⟩ rfl rfl rfl rfl rfl hfnT Tryz.func3 closedT hinstT hwrapT
  (fun os started H enc _ F=>row_lifted os started H enc F)
end
end Go.Proofs.YtjlfkgjmgghhiaaGreat
