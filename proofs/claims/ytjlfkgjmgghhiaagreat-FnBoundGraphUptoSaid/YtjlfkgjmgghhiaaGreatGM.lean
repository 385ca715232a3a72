/-
  Proves 'FnBoundGraphUptoSaid': for every input of bulk at most 1048576 the law FnBoundGraph answers true, and each argument reads behind the call as it read before: binding changes no label, no comment and no way through the instructions.
  Condition: the bulk of what comes in (the given form 'Upto'); no other.
-/
import Derived.BigQuiet
import Derived.WalkKit
import Derived.ProofKit
import Derived.OpenShut
import Derived.JoinedCond
import Derived.Carry
import Derived.Test.YtjlfkgjmgghhiaaGreatGA
import Derived.Test.YtjlfkgjmgghhiaaGreatKA
import Derived.Test.YtjlfkgjmgghhiaaGreatP50
import Derived.Test.YtjlfkgjmgghhiaaGreatP51
namespace Go.Proofs.YtjlfkgjmgghhiaaGreat
section
open Go Go.RowKit Bth
set_option maxRecDepth 100000
noncomputable def bgReg:Array Oper:=findReg 15 (Tryz.f6.body.getD .skip)
noncomputable def oBG (i:Nat):Oper:=opAt bgReg i
theorem bgReg_get {i:Nat} (h:Nat.blt i 31=true):bgReg[i]? = some (oBG i):=opAt_get (by kernel_rfl) h
theorem idxN (b off n c p:Nat) (hp:p < n) (w:World):(Instr.indexAt 22 (.slice (some ⟨b,off,none⟩) n c) (.int .i64 (p:Int))).run Tryz.prog w = .ok (.pointer (some ⟨b,off+p*13,none⟩)) w:=by
 have h0:(0:Int)≤(p:Int):=by omega
 have h1:(p:Int) < (n:Int):=by omega
 go_simp
theorem fldN0 (b off:Nat) (w:World):(Instr.fieldAt 57 (.pointer (some ⟨b,off,none⟩)) 0).run Tryz.prog w = .ok (.pointer (some ⟨b,off,none⟩)) w:=by go_simp
theorem takeGB {P:Program} {ops:Array Oper} {Q:Exit→Act→World→Prop} {S:World→Prop} {fuel n:Nat} {listed:Array Bool} {a:Act} {w:World} {l:List (Nat × Value)} (h:Bun a n l) (hS:S w) (hQ:∀ d v c a w,Q (.panic c) (a.put d v) w→Q (.panic c) a w) (i d j e:Nat) (b0:Bool) (op:Op) (v:Value)
  (ho:(ops[i]?).map (fun o=>(o.op,o.dst,o.guard))=some (op,some d,some (j,b0))∧(ops[j]?).bind (·.dst)=some e) (hm:mayB ops listed i d n=true) (he:Nat.blt e n=true) (hb:lkB l e=some (.bool b0))
  (hx:∀ o:Oper,o.op=op→∀ w,S w→(execOp a.eval o).run P w = .ok (.value v) w)
  (next:∀ a',a'=a.put (some d) v→Bun a' n ((d,v) :: l)→wpAnyH P .any ops Q S fuel (listed.setIfInBounds i true) a' w):wpAnyH P .any ops Q S (fuel+1) listed a w:=by
 obtain ⟨ho,hj⟩:=ho
 obtain ⟨o,hi,ho⟩:=Option.map_eq_some_iff.1 ho
 simp only [Prod.mk.injEq] at ho
 obtain ⟨h1,h2,h3⟩:=ho
 unfold mayB at hm
 simp only [Bool.and_eq_true] at hm
 obtain ⟨⟨⟨m1,m2⟩,m3⟩,m4⟩:=hm
 have hy:=yielded_of (ops:=ops) (a:=a) hj (by rw [h.sz];simpa [Nat.blt_eq] using he) (h.at_ e _ hb)
 refine wpAnyH_take (v:=v) hi m1 m2 m3 (fun c a w=>hQ _ _ c a w) (Or.inl ⟨by unfold Region.wanted;rw [h3];simp [hy],hx o h1⟩) hS (next _ (by rw [h2]) (h.put h2 (by simpa [Nat.blt_eq] using m4) v))
theorem wanted_on {ops:Array Oper} {a:Act} {n:Nat} {l:List (Nat × Value)} (h:Bun a n l) {o:Oper} {j e:Nat} {b0:Bool} (hg:o.guard=some (j,b0)) (hj:(ops[j]?).bind (·.dst)=some e) (he:Nat.blt e n=true) (hb:lkB l e=some (.bool b0)):Region.wanted o (yielded ops a.tmps)=true:=by
 have hy:=yielded_of (ops:=ops) (a:=a) hj (by rw [h.sz];simpa [Nat.blt_eq] using he) (h.at_ e _ hb)
 unfold Region.wanted
 rw [hg]
 simp [hy]
set_option maxHeartbeats 2000000 in
theorem rgBG {a0:Act} {w:World} {Q:Exit→Act→World→Prop} {S R:World→Prop} {b1 o1 b2 o2 n c1 c2 k:Nat} {cs1 cs2:List Value} {z:Int}
  (h0:Bun a0 101 [(0,.slice (some ⟨b1,o1,none⟩) n c1),(4,.slice (some ⟨b2,o2,none⟩) n c2),(13,.int .i64 (k:Int))]) (hQ:∀ d v c a w,Q (.panic c) (a.put d v) w→Q (.panic c) a w)
  (hk:k < n) (hS0:S w.drew) (l1:∀ w',S w'→w'.rangeAt b1 (o1+k*13) cs1∧w'.cell? ⟨b1,o1+k*13,none⟩=some (.int .i64 z)) (l2:∀ w',S w'→w'.rangeAt b2 (o2+k*13) cs2∧w'.cell? ⟨b2,o2+k*13,none⟩=some (.int .i64 z)) (hz:z≠1) (hl1:cs1.length=13) (hl2:cs2.length=13)
  (hc:Calls Tryz.prog 24 #[.agg cs1.toArray,.agg cs2.toArray] w.drew fun e w'=>e = .returned (.bool true)∧R w'∧S w')
  (h:∀ w' a,R w'→(∃ x69 x70 x71 x72 x73 x74 x75 x76 x77 x78 x79 x80 x81 x82 x83 x84 x85 x86 x87 x88 x89 x90 x91 x92 x93 x94 x95 x96 x97 x98,a=putL a0 [(69,x69),(70,x70),(71,x71),(72,x72),(73,x73),(74,x74),(75,x75),(76,x76),(77,x77),(78,x78),(79,x79),(80,x80),(81,x81),(82,x82),(83,x83),(84,x84),(85,x85),(86,x86),(87,x87),(88,x88),(89,x89),(90,x90),(91,x91),(92,x92),(93,x93),(94,x94),(95,x95),(96,x96),(97,x97),(98,x98),(99,.bool false)])→Q .normal a w'):(Code.region 15 bgReg true).wp Tryz.prog Q a0 w:=by
 have hz':(z == 1)=false:=beq_eq_false_iff_ne.2 hz
 refine wp_region_held_drew (S:=S) (by kernel_rfl) hS0 (fun hS0=>?_)
 rw [show bgReg.size=31 from by kernel_rfl]
 refine takeB h0 hS0 hQ 0 69 _ (.slice (some ⟨b1,o1,none⟩) n c1) (show isB bgReg 0 69 (.move (.tmp 0)) from by unfold isB;kernel_rfl) (by kernel_rfl) (fun o e w hw=>by simp [execOp,e,h0.at_ 0 _ rfl]) fun a0 e0 h0=>?_
 refine takeB h0 hS0 hQ 1 70 _ (.int .i64 (k:Int)) (show isB bgReg 1 70 (.move (.tmp 13)) from by unfold isB;kernel_rfl) (by kernel_rfl) (fun o e w hw=>by simp [execOp,e,h0.at_ 13 _ rfl]) fun a1 e1 h0=>?_
 refine takeB h0 hS0 hQ 2 71 _ (.pointer (some ⟨b1,o1+k*13,none⟩)) (show isB bgReg 2 71 (.indexAddr 22 (.tmp 69) (.tmp 70)) from by unfold isB;kernel_rfl) (by kernel_rfl) (fun o e w hw=>by have h1:=h0.at_ 69 _ rfl;have h2:=h0.at_ 70 _ rfl;have h3:=idxN b1 o1 n c1 k hk w;simp only [execOp,e,h1,h2,h3,Sem.run_bind,Result.andThen_ok,Sem.run_pure]) fun a2 e2 h0=>?_
 refine takeB h0 hS0 hQ 3 72 _ (.pointer (some ⟨b1,o1+k*13,none⟩)) (show isB bgReg 3 72 (.fieldAddr 57 (.tmp 71) 0) from by unfold isB;kernel_rfl) (by kernel_rfl) (fun o e w hw=>by have h1:=h0.at_ 71 _ rfl;have h3:=fldN0 b1 (o1+k*13) w;simp only [execOp,e,h1,h3,Sem.run_bind,Result.andThen_ok,Sem.run_pure]) fun a3 e3 h0=>?_
 refine takeB h0 hS0 hQ 4 73 _ (.int .i64 z) (show isB bgReg 4 73 (.load 3 (.tmp 72)) from by unfold isB;kernel_rfl) (by kernel_rfl) (fun o e w hw=>by have h1:=h0.at_ 72 _ rfl;have hc:=(l1 w hw).2;simp only [execOp,e,h1];go_simp) fun a4 e4 h0=>?_
 refine takeB h0 hS0 hQ 5 74 _ (.slice (some ⟨b2,o2,none⟩) n c2) (show isB bgReg 5 74 (.move (.tmp 4)) from by unfold isB;kernel_rfl) (by kernel_rfl) (fun o e w hw=>by simp [execOp,e,h0.at_ 4 _ rfl]) fun a5 e5 h0=>?_
 refine takeB h0 hS0 hQ 6 75 _ (.int .i64 (k:Int)) (show isB bgReg 6 75 (.move (.tmp 13)) from by unfold isB;kernel_rfl) (by kernel_rfl) (fun o e w hw=>by simp [execOp,e,h0.at_ 13 _ rfl]) fun a6 e6 h0=>?_
 refine takeB h0 hS0 hQ 7 76 _ (.pointer (some ⟨b2,o2+k*13,none⟩)) (show isB bgReg 7 76 (.indexAddr 22 (.tmp 74) (.tmp 75)) from by unfold isB;kernel_rfl) (by kernel_rfl) (fun o e w hw=>by have h1:=h0.at_ 74 _ rfl;have h2:=h0.at_ 75 _ rfl;have h3:=idxN b2 o2 n c2 k hk w;simp only [execOp,e,h1,h2,h3,Sem.run_bind,Result.andThen_ok,Sem.run_pure]) fun a7 e7 h0=>?_
 refine takeB h0 hS0 hQ 8 77 _ (.pointer (some ⟨b2,o2+k*13,none⟩)) (show isB bgReg 8 77 (.fieldAddr 57 (.tmp 76) 0) from by unfold isB;kernel_rfl) (by kernel_rfl) (fun o e w hw=>by have h1:=h0.at_ 76 _ rfl;have h3:=fldN0 b2 (o2+k*13) w;simp only [execOp,e,h1,h3,Sem.run_bind,Result.andThen_ok,Sem.run_pure]) fun a8 e8 h0=>?_
 refine takeB h0 hS0 hQ 9 78 _ (.int .i64 z) (show isB bgReg 9 78 (.load 3 (.tmp 77)) from by unfold isB;kernel_rfl) (by kernel_rfl) (fun o e w hw=>by have h1:=h0.at_ 77 _ rfl;have hc:=(l2 w hw).2;simp only [execOp,e,h1];go_simp) fun a9 e9 h0=>?_
 refine takeB h0 hS0 hQ 10 79 _ (.bool false) (show isB bgReg 10 79 (.binOp .neq 3 (.tmp 73) (.tmp 78) 3) from by unfold isB;kernel_rfl) (by kernel_rfl) (fun o e w hw=>by have h1:=h0.at_ 73 _ rfl;have h2:=h0.at_ 78 _ rfl;simp only [execOp,e,h1,h2];go_simp) fun a10 e10 h0=>?_
 refine takeB h0 hS0 hQ 11 80 _ (.bool false) (show isB bgReg 11 80 (.move (.tmp 79)) from by unfold isB;kernel_rfl) (by kernel_rfl) (fun o e w hw=>by simp [execOp,e,h0.at_ 79 _ rfl]) fun a11 e11 h0=>?_
 refine takeGB h0 hS0 hQ 12 81 11 80 false (.move (.tmp 0)) (.slice (some ⟨b1,o1,none⟩) n c1) ⟨by kernel_rfl,by kernel_rfl⟩ (by kernel_rfl) (by kernel_rfl) rfl (fun o e w hw=>by simp [execOp,e,h0.at_ 0 _ rfl]) fun a12 e12 h0=>?_
 refine takeGB h0 hS0 hQ 13 82 11 80 false (.move (.tmp 13)) (.int .i64 (k:Int)) ⟨by kernel_rfl,by kernel_rfl⟩ (by kernel_rfl) (by kernel_rfl) rfl (fun o e w hw=>by simp [execOp,e,h0.at_ 13 _ rfl]) fun a13 e13 h0=>?_
 refine takeGB h0 hS0 hQ 14 83 11 80 false (.indexAddr 22 (.tmp 81) (.tmp 82)) (.pointer (some ⟨b1,o1+k*13,none⟩)) ⟨by kernel_rfl,by kernel_rfl⟩ (by kernel_rfl) (by kernel_rfl) rfl (fun o e w hw=>by have h1:=h0.at_ 81 _ rfl;have h2:=h0.at_ 82 _ rfl;have h3:=idxN b1 o1 n c1 k hk w;simp only [execOp,e,h1,h2,h3,Sem.run_bind,Result.andThen_ok,Sem.run_pure]) fun a14 e14 h0=>?_
 refine takeGB h0 hS0 hQ 15 84 11 80 false (.fieldAddr 57 (.tmp 83) 0) (.pointer (some ⟨b1,o1+k*13,none⟩)) ⟨by kernel_rfl,by kernel_rfl⟩ (by kernel_rfl) (by kernel_rfl) rfl (fun o e w hw=>by have h1:=h0.at_ 83 _ rfl;have h3:=fldN0 b1 (o1+k*13) w;simp only [execOp,e,h1,h3,Sem.run_bind,Result.andThen_ok,Sem.run_pure]) fun a15 e15 h0=>?_
 refine takeGB h0 hS0 hQ 16 85 11 80 false (.load 3 (.tmp 84)) (.int .i64 z) ⟨by kernel_rfl,by kernel_rfl⟩ (by kernel_rfl) (by kernel_rfl) rfl (fun o e w hw=>by have h1:=h0.at_ 84 _ rfl;have hc:=(l1 w hw).2;simp only [execOp,e,h1];go_simp) fun a16 e16 h0=>?_
 refine takeGB h0 hS0 hQ 17 86 11 80 false (.binOp .neq 3 (.tmp 85) (.const (.int .i64 1)) 3) (.bool true) ⟨by kernel_rfl,by kernel_rfl⟩ (by kernel_rfl) (by kernel_rfl) rfl (fun o e w hw=>by have h1:=h0.at_ 85 _ rfl;simp only [execOp,e,h1];go_simp) fun a17 e17 h0=>?_
 refine takeGB h0 hS0 hQ 18 87 11 80 false (.move (.tmp 86)) (.bool true) ⟨by kernel_rfl,by kernel_rfl⟩ (by kernel_rfl) (by kernel_rfl) rfl (fun o e w hw=>by simp [execOp,e,h0.at_ 86 _ rfl]) fun a18 e18 h0=>?_
 refine takeGB h0 hS0 hQ 19 88 18 87 true (.move (.tmp 0)) (.slice (some ⟨b1,o1,none⟩) n c1) ⟨by kernel_rfl,by kernel_rfl⟩ (by kernel_rfl) (by kernel_rfl) rfl (fun o e w hw=>by simp [execOp,e,h0.at_ 0 _ rfl]) fun a19 e19 h0=>?_
 refine takeGB h0 hS0 hQ 20 89 18 87 true (.move (.tmp 13)) (.int .i64 (k:Int)) ⟨by kernel_rfl,by kernel_rfl⟩ (by kernel_rfl) (by kernel_rfl) rfl (fun o e w hw=>by simp [execOp,e,h0.at_ 13 _ rfl]) fun a20 e20 h0=>?_
 refine takeGB h0 hS0 hQ 21 90 18 87 true (.indexAddr 22 (.tmp 88) (.tmp 89)) (.pointer (some ⟨b1,o1+k*13,none⟩)) ⟨by kernel_rfl,by kernel_rfl⟩ (by kernel_rfl) (by kernel_rfl) rfl (fun o e w hw=>by have h1:=h0.at_ 88 _ rfl;have h2:=h0.at_ 89 _ rfl;have h3:=idxN b1 o1 n c1 k hk w;simp only [execOp,e,h1,h2,h3,Sem.run_bind,Result.andThen_ok,Sem.run_pure]) fun a21 e21 h0=>?_
 refine takeGB h0 hS0 hQ 22 91 18 87 true (.load 57 (.tmp 90)) (.agg cs1.toArray) ⟨by kernel_rfl,by kernel_rfl⟩ (by kernel_rfl) (by kernel_rfl) rfl (fun o e w hw=>by have h1:=h0.at_ 90 _ rfl;have h3:=run_loadVar_mid w b1 (o1+k*13) 57 cs1 _ (l1 w hw).1 Tryz.underlying57 rfl (by rw [hl1];kernel_rfl);unfold execOp;simp only [e,h1,Go.Instr.loadAt,Go.Instr.sureAddr,Sem.run_bind,Sem.run_pure,Result.andThen_ok,h3]) fun a22 e22 h0=>?_
 refine takeGB h0 hS0 hQ 23 92 18 87 true (.move (.tmp 4)) (.slice (some ⟨b2,o2,none⟩) n c2) ⟨by kernel_rfl,by kernel_rfl⟩ (by kernel_rfl) (by kernel_rfl) rfl (fun o e w hw=>by simp [execOp,e,h0.at_ 4 _ rfl]) fun a23 e23 h0=>?_
 refine takeGB h0 hS0 hQ 24 93 18 87 true (.move (.tmp 13)) (.int .i64 (k:Int)) ⟨by kernel_rfl,by kernel_rfl⟩ (by kernel_rfl) (by kernel_rfl) rfl (fun o e w hw=>by simp [execOp,e,h0.at_ 13 _ rfl]) fun a24 e24 h0=>?_
 refine takeGB h0 hS0 hQ 25 94 18 87 true (.indexAddr 22 (.tmp 92) (.tmp 93)) (.pointer (some ⟨b2,o2+k*13,none⟩)) ⟨by kernel_rfl,by kernel_rfl⟩ (by kernel_rfl) (by kernel_rfl) rfl (fun o e w hw=>by have h1:=h0.at_ 92 _ rfl;have h2:=h0.at_ 93 _ rfl;have h3:=idxN b2 o2 n c2 k hk w;simp only [execOp,e,h1,h2,h3,Sem.run_bind,Result.andThen_ok,Sem.run_pure]) fun a25 e25 h0=>?_
 refine takeGB h0 hS0 hQ 26 95 18 87 true (.load 57 (.tmp 94)) (.agg cs2.toArray) ⟨by kernel_rfl,by kernel_rfl⟩ (by kernel_rfl) (by kernel_rfl) rfl (fun o e w hw=>by have h1:=h0.at_ 94 _ rfl;have h3:=run_loadVar_mid w b2 (o2+k*13) 57 cs2 _ (l2 w hw).1 Tryz.underlying57 rfl (by rw [hl2];kernel_rfl);unfold execOp;simp only [e,h1,Go.Instr.loadAt,Go.Instr.sureAddr,Sem.run_bind,Sem.run_pure,Result.andThen_ok,h3]) fun a26 e26 h0=>?_
 refine wpAnyH_ready (rs:=[27]) (by kernel_rfl) (by simp) (AllReadyH.cons (o:=oBG 27) (bgReg_get rfl) (fun K hK=>?_) AllReadyH.nil)
 rw [if_pos (wanted_on h0 (j:=18) (e:=87) (b0:=true) (by kernel_rfl) (by kernel_rfl) (by kernel_rfl) rfl)]
 refine wp_callU (show (oBG 27).op = .call { callee:=.value (.func 24),args:=#[.tmp 91,.tmp 95],argTypes:=#[57,57] } from by kernel_rfl) Tryz.func24 (by kernel_rfl) (by kernel_rfl) ?_
 simp only [List.map_toArray,List.map_cons,List.map_nil,h0.at_ 91 _ rfl,h0.at_ 95 _ rfl]
 refine hc.mono ?_
 rintro e w8 ⟨rfl,r8,s8⟩
 refine hK.out _ _ s8 (fun hS0=>?_)
 rw [show (oBG 27).dst=some 96 from by kernel_rfl]
 replace h0:=h0.put (x:=some 96) rfl (d:=96) (by decide) (.bool true)
 refine takeGB h0 hS0 hQ 28 97 18 87 true (.unOp .not 4 (.tmp 96)) (.bool false) ⟨by kernel_rfl,by kernel_rfl⟩ (by kernel_rfl) (by kernel_rfl) rfl (fun o e w hw=>by have h1:=h0.at_ 96 _ rfl;simp only [execOp,e,h1];go_simp) fun a28 e28 h0=>?_
 refine takeGB h0 hS0 hQ 29 98 11 80 false (.pick (.tmp 87) (.tmp 97) (.const (.bool false))) (.bool false) ⟨by kernel_rfl,by kernel_rfl⟩ (by kernel_rfl) (by kernel_rfl) rfl (fun o e w hw=>by have h1:=h0.at_ 87 _ rfl;have h2:=h0.at_ 97 _ rfl;simp only [execOp,e,h1,h2];go_simp) fun a29 e29 h0=>?_
 refine takeB h0 hS0 hQ 30 99 _ (.bool false) (show isB bgReg 30 99 (.pick (.tmp 80) (.const (.bool true)) (.tmp 98)) from by unfold isB;kernel_rfl) (by kernel_rfl) (fun o e w hw=>by have h1:=h0.at_ 80 _ rfl;have h2:=h0.at_ 98 _ rfl;simp only [execOp,e,h1,h2];go_simp) fun a30 e30 h0=>?_
 refine wpAnyH_done (by kernel_rfl) (h w8 _ r8 ?_) _
 subst e30 e29 e28 e26 e25 e24 e23 e22 e21 e20 e19 e18 e17 e16 e15 e14 e13 e12 e11 e10 e9 e8 e7 e6 e5 e4 e3 e2 e1 e0
 exact ⟨_,_,_,_,_,_,_,_,_,_,_,_,_,_,_,_,_,_,_,_,_,_,_,_,_,_,_,_,_,_,rfl⟩
set_option maxHeartbeats 8000000 in
theorem FnBoundGraph_calls (w:World) (B:Nat) (s:SV) (ns:List PN) (hN:NodesAt w B s ns) (hB:B≤w.heap.size) (hb:BulkP ns):Calls Tryz.prog 6 #[s.val] w (GivesB w true):=by
 have hZ:=zz5_calls w B s ns hN
 have hA:=fun W (hW:Fr nope w W)=>allocated_calls W B s ns (hN.fr hW (fun _ _ x=>x)) (Nat.le_trans hB hW.size) hb
 have hF:=fun W (hW:Fr nope w W) (hok:ns.all okN=true)=>ImFlow_calls W s ns ((hN.fr hW (fun _ _ x=>x)).up (Nat.le_trans hB hW.size)) hok
 have hNW:=fun W (hW:Fr nope w W)=>hN.fr hW (fun _ _ x=>x)
 have hlen:(insP ns).length≤1048576:=by
  have h1:=hN.few
  have:(insP ns).length≤ns.length:=by unfold insP;rw [List.length_map];exact List.length_filter_le _ _
  omega
 obtain ⟨A,n,c⟩:=s
 obtain rfl:n=ns.length:=hN.len
 have hfew:=hN.few
 simp only [SV.val] at hZ hA hF hNW ⊢
 clear hN
 replace hA:=Lib.hid hA
 replace hF:=Lib.hid hF
 replace hNW:=Lib.hid hNW
 replace hlen:=Lib.hid hlen
 replace hb:=Lib.hid hb
 go_enter Tryz.func6,Tryz.ntmps6
 go_wp2_with fail
 refine hZ.mono ?_
 rintro e w1 ⟨hf1,b,rfl⟩
 clear hZ
 cases b with
 | false=>
  go_wp2
  go_ret
  exact ⟨rfl,hf1⟩
 | true=>
 go_wp2_with fail
 refine (hA.out _ hf1).mono ?_
 rintro e w2 ⟨hf2,⟨x,y,rfl⟩ | ⟨A2,c2,l,A3,c3,ns',f,rfl,hpa,hll,hef,haf,hao,hu,hN',hBN⟩⟩
 ·go_wp2
  go_ret
  exact ⟨rfl,hf1.then hf2⟩
 have hn2:=hf1.then hf2
 have hok:=hu.2.1
 obtain ⟨hbl,hsim⟩:=bound_sim hBN
 have hok':=bound_ok hBN hao.ops hok
 have hG':=fun sc (hG:GraphP ns sc)=>bound_graph hBN hao.ops hG
 obtain ⟨hbi,_⟩:=bound_ins hBN hao.ops
 have hgr:∃ sc,GraphP ns sc:=by obtain ⟨sc,h,_⟩:=af_apart haf hao;exact ⟨sc,h⟩
 have hF2:=fun W (hW:Fr nope w2 W)=>ImFlow_calls W ⟨A3,ns'.length,c3⟩ ns' ((hN'.fr hW (fun _ _ x=>x)).up hW.size) hok'
 rw [hbl] at hN'
 have hN'W:=fun W (hW:Fr nope w2 W)=>hN'.fr hW (fun _ _ x=>x)
 clear hpa hef haf hao hu hBN hN'
 simp only [hbl] at hF2
 rw [hbl]
 replace hF2:=Lib.hid hF2
 replace hN'W:=Lib.hid hN'W
 replace hgr:=Lib.hid hgr
 replace hG':=Lib.hid hG'
 replace hsim:=Lib.hid hsim
 replace hok:=Lib.hid hok
 replace hok':=Lib.hid hok'
 replace hbl:=Lib.hid hbl
 go_wp2_with fail
 refine (hF.out _ hn2 hok.out).mono ?_
 rintro e w3 ⟨hf3,⟨A4,c4,D4,d4,sc,rfl,hG,hS1,hS2⟩ | ⟨rfl,hbad⟩⟩
 rotate_left
 ·obtain ⟨sc,hG⟩:=hgr.out
  exact absurd hG (hbad sc)
 go_wp2_with fail
 refine (hF2.out _ hf3).mono ?_
 rintro e w4 ⟨hf4,⟨A5,c5,D5,d5,sc',rfl,hGb,hT1,hT2⟩ | ⟨rfl,hbad⟩⟩
 rotate_left
 ·exact absurd (hG'.out sc hG) (hbad sc)
 have hbi':=hbi
 rw [hbi] at hT1 hT2 ⊢
 have hsc:∀ k,k < (insP ns).length→sc k=sc' k:=fun k hk=>(hG'.out sc hG).uniq hGb k (by rw [hbi];exact hk)
 have hT1':SuccAt w4 A5 (insP ns).length sc:=by
  obtain ⟨vs,h1,h2⟩:=hT1
  exact ⟨vs,h1,fun k hk=>by rw [hsc k hk];exact h2 k hk⟩
 have hpd:∀ k,pdI sc (insP ns).length k=pdI sc' (insP ns).length k:=fun k=>by
  unfold pdI
  refine map_flat rfl fun j x y h1 h2=>?_
  rw [h1] at h2
  injection h2 with h2
  subst h2
  rw [hsc x (List.mem_range.1 (List.mem_of_getElem? h1))]
 have hT2':SuccAt w4 D5 (insP ns).length fun k=>(pdI sc (insP ns).length k).map some:=by
  obtain ⟨vs,h1,h2⟩:=hT2
  exact ⟨vs,h1,fun k hk=>by show ∃ A' c,vs[k]? = some (.slice A' ((pdI sc (insP ns).length k).map some).length c)∧Rw w4 3 1 A' ((pdI sc (insP ns).length k).map some).length (((pdI sc (insP ns).length k).map some).map oV);rw [hpd k];exact h2 k hk⟩
 have hL2:=hG.lt.2
 have hL1:∀ k,k < (insP ns).length→(sc k).length≤1073741824:=fun k hk=>Nat.le_trans (hL2 k hk) (by decide)
 have hL3:∀ k,k < (insP ns).length→((pdI sc (insP ns).length k).map some).length≤1073741824:=fun k hk=>by
  rw [List.length_map]
  have:=pdI_len (n:=(insP ns).length) (k:=k) hL2
  have:=hlen.out
  omega
 clear hT1 hT2 hpd hsc hL2 hG hGb hbi hbi'
 obtain ⟨m,hm⟩:∃ m,m=(insP ns).length:=⟨_,rfl⟩
 rw [← hm] at hS1 hS2 hT1' hT2' hL1 hL3 hlen ⊢
 replace hm:=Lib.hid hm
 replace hS1:=Lib.hid (hS1.nope hf4)
 replace hS2:=Lib.hid (hS2.nope hf4)
 replace hT1':=Lib.hid hT1'
 replace hT2':=Lib.hid hT2'
 replace hL1:=Lib.hid hL1
 replace hL3:=Lib.hid hL3
 have hf34:=hf3.then hf4
 go_wp2_with fail
 refine (lists_calls w4 A4 A5 c4 c5 m sc hS1.out hT1'.out hlen.out hL1.out).mono ?_
 rintro e w5 ⟨rfl,hf5⟩
 go_wp2_with fail
 refine (lists_calls w5 D4 D5 d4 d5 m _ (hS2.out.nope hf5) (hT2'.out.nope hf5) hlen.out hL3.out).mono ?_
 rintro e w6 ⟨rfl,hf6⟩
 have hf26:Fr nope w2 w6:=(hf34.then hf5).then hf6
 clear hS1 hS2 hT1' hT2' hL1 hL3
 go_wp2
 go_loopg [66] ns.length (fun n c66 wr=>∃ k:Nat,k≤ns.length∧c66 = .int .i64 (k:Int)∧Fr nope w2 wr∧n=ns.length - k)
 case atStart=>exact ⟨0,Nat.zero_le _,rfl,hf26,rfl⟩
 case round=>
  obtain ⟨k,hk,rfl,hf,rfl⟩:=hrel
  by_cases hlt:k < ns.length
  ·obtain ⟨b1,o1,hA1,_,hb1,hr1⟩:=(hNW.out _ hn2).row (by omega)
   obtain ⟨b2,o2,hA2,_,hb2,hr2⟩:=(hN'W.out _ (Fr.refl _ _)).row (by have:=hbl.out;omega)
   simp only at hA1 hA2
   subst hA1 hA2
   obtain ⟨p,hpk⟩:∃ p,ns[k]? = some p:=⟨_,List.getElem?_eq_getElem hlt⟩
   obtain ⟨p',hpk'⟩:∃ p',ns'[k]? = some p':=⟨_,List.getElem?_eq_getElem (by have:=hbl.out;omega)⟩
   have hr1:=hr1 k p hpk
   have hr2:=hr2 k p' hpk'
   have hs:=hsim.out k p p' hpk hpk'
   have hat:=fun W (hW:Fr nope w2 W)=>(hNW.out _ (hn2.then hW)).each p (List.mem_of_getElem? hpk)
   have hat':=fun W (hW:Fr nope w2 W)=>(hN'W.out _ hW).each p' (List.mem_of_getElem? hpk')
   have hpok:=List.all_eq_true.1 hok.out p (List.mem_of_getElem? hpk)
   clear hpk hpk'
   have hC:=fun W (hW:Fr nope w2 W) (h:p.kind=2∨p.kind=3)=>SameNode_calls W B p p' (hat W hW) ⟨_,hat' W hW⟩ hs h
   have hk1:=hs.kind
   have hcl:∀ W,Fr nope w2 W→W.rangeAt b1 (o1+k*13) p.cells.toList∧W.rangeAt b2 (o2+k*13) p'.cells.toList:=fun W hW=>⟨fun j v hv=>hW.cell (hr1 j v hv) (fun x=>x),fun j v hv=>hW.cell (hr2 j v hv) (fun x=>x)⟩
   have hc0:∀ W,Fr nope w2 W→W.cell? ⟨b1,o1+k*13,none⟩=some (.int .i64 p.kind)∧W.cell? ⟨b2,o2+k*13,none⟩=some (.int .i64 p.kind):=fun W hW=>⟨(hcl W hW).1 0 _ rfl,by rw [← hk1];exact (hcl W hW).2 0 _ rfl⟩
   have hk0:(0:Int)≤(k:Int):=by omega
   have hkl:(k:Int) < (ns.length:Int):=by omega
   clear hr1 hr2 hs hat hat' hk1
   replace hC:=Lib.hid hC
   replace hcl:=Lib.hid hcl
   have hbs:=hf.size
   by_cases k1:p.kind=1
   ·have hd1:∀ m,(wr.drewN m).cell? ⟨b1,o1+k*13,none⟩=some (.int .i64 1):=fun m=>by rw [← k1];exact (hc0 _ (hf.drewN m)).1
    have hd2:∀ m,(wr.drewN m).cell? ⟨b2,o2+k*13,none⟩=some (.int .i64 1):=fun m=>by rw [← k1];exact (hc0 _ (hf.drewN m)).2
    clear hc0 k1
    go_wp2
    go_quiet (fail)
    go_wp2
    go_roundg (ns.length - (k+1))
    case measure=>omega
    case rel=>exact ⟨k+1,by omega,by go_num,hf.drewN _,rfl⟩
   ·have k23:p.kind=2∨p.kind=3:=by
     unfold okN at hpok
     rw [if_neg k1] at hpok
     split at hpok
     ·left;assumption
     ·split at hpok
      ·right;assumption
      ·cases hpok
    have hdr:=hf.drew
    have hSd:=hc0 _ hdr
    have hSd2:=hcl.out _ hdr
    have hCd:=hC.out _ hdr k23
    have hz:p.kind≠1:=k1
    clear hSd hSd2 k1 hpok
    go_wp2
    refine rgBG (S:=fun W=>Fr nope w2 W) (R:=fun W=>Fr nope w2 W) (z:=p.kind) (cs1:=p.cells.toList) (cs2:=p'.cells.toList) (((Bun.nil rfl rfl).cons 13 rfl).cons 4 rfl |>.cons 0 rfl) (fun d _ _ _ _ h=>by cases d<;>simpa [Exit.inBlock,Exit.then,bodyPost,Act.put] using h) hlt hdr
     (fun W hW=>⟨(hcl.out W hW).1,(hc0 W hW).1⟩) (fun W hW=>⟨(hcl.out W hW).2,(hc0 W hW).2⟩) hz rfl rfl (hCd.mono fun e w' h=>⟨h.1,hdr.then h.2,hdr.then h.2⟩) ?_
    rintro w8 a hn8 ⟨x69,x70,x71,x72,x73,x74,x75,x76,x77,x78,x79,x80,x81,x82,x83,x84,x85,x86,x87,x88,x89,x90,x91,x92,x93,x94,x95,x96,x97,x98,rfl⟩
    simp only [putL,List.foldl_cons,List.foldl_nil,Act.put,List.setIfInBounds_toArray,List.set_cons_zero,List.set_cons_succ]
    go_wp2
    go_roundg (ns.length - (k+1))
    case measure=>omega
    case rel=>exact ⟨k+1,by omega,by go_num,hn8,rfl⟩
  ·go_wp2
   go_ret
   exact ⟨rfl,hn2.then hf⟩
end
section
open Go Go.RowKit Go.ChangeShapes Go.WideShapes Go.ChangeAt Bth
set_option maxRecDepth 100000
theorem ownK:ownKnob Tryz.prog.godebug=none:=by kernel_rfl
theorem laidOutP:laidOutB Tryz.prog=true:=by kernel_rfl
theorem row_contract (H:Type) (enc:TypeId × Value→H) (W:World) (base:Nat) (args:Array Value) (ds gs:List (DataW H)) (before:List MemPlace)
  (hval:∀ (j:Nat) t v,Tryz.f6.params[j]? = some t→args[j]? = some v→Value.okWide Tryz.prog W .any base t v)
  (hW:DataW.Whole enc Tryz.prog Tryz.f6.params.toList Rows.fnBoundGraphSpec.vars false W args.toList ds gs before) (hk:Rows.uptoSmall H (ds ++ gs)=true):
  Calls Tryz.prog 6 args W fun e W'=>∃ v,e = .returned v∧Rows.fnBoundGraphSpec.post enc Tryz.prog Tryz.f6 false true false false W args v W':=by
 have hW':=hW
 obtain ⟨p,q,hA0,hV,rfl,hfz,hnd⟩:=hW
 have hA:DataW.TrodAll enc Tryz.prog W 0 (fun _=>true) true Tryz.f6.params.toList args.toList ds p:=hA0
 rw [Tryz.params6] at hA hval
 obtain ⟨v0,vs0,d0,ds0,p0,q0,hargs,rfl,rfl,h0,r0⟩:=trodAll_cons hA
 obtain ⟨rfl,rfl,rfl⟩:=trodAll_nil r0
 obtain rfl:args = #[v0]:=by cases args;simp_all
 obtain ⟨rfl,rfl⟩:=trodVars_none hV
 obtain ⟨a0,len,cap,rfl⟩:=okWide_slice Tryz.underlying22 (hval 0 22 v0 rfl rfl)
 have h0k:=h0
 obtain ⟨fuel,hf⟩:=h0
 have hlt:∀ x∈p0,x.block < W.heap.size:=fun x hx=>hW'.lt x (by simp [hx])
 have hkb:Rows.uptoBulk d0≤1048576:=by
  have h:Rows.uptoBulkAll ([d0] ++ ([]:List (DataW H)))≤1048576:=of_decide_eq_true hk
  simp only [List.append_nil,Rows.uptoBulkAll] at h
  omega
 obtain ⟨s,ns,hs,hN,hB⟩:=rd_nodes (by simpa [Value.cells] using hf) hkb
 clear hA0
 rw [hs] at h0k hW' ⊢
 refine (FnBoundGraph_calls W W.heap.size s ns hN (Nat.le_refl _) hB).mono ?_
 rintro e W' ⟨rfl,hfr⟩
 have hbel:=hfr.below
 refine ⟨_,rfl,_,_,_,[],p0,[],hW',trodAll_mk1 (shut_bool Tryz.underlying4 _),?_,rfl,hbel.frame _,fun h=>by cases h⟩
 rw [Tryz.params6]
 exact trodAll_mk1 (Below.trod laidOutP (by kernel_rfl) (of_decide_eq_true (by kernel_rfl)) h0k hbel hlt)
theorem row_lifted (os:Os) (started:os.Started) (H:Type) (enc:TypeId × Value→H) (F:Stop.Interp):
  ReturnsInHanded {} Tryz.checked os 6 .any ((Rows.OpenSpec.upto Rows.fnBoundGraphSpec).pre6 enc Tryz.prog Tryz.f6 Rows.fnBoundGraphUptoRow.domain false) (((Rows.OpenSpec.upto Rows.fnBoundGraphSpec).at F).post enc Tryz.prog Tryz.f6 false true false false):=by
 refine returnsInHanded_of_cond (C:=Tryz.checked) (s:=Rows.OpenSpec.upto Rows.fnBoundGraphSpec) (k:=Rows.uptoSmall) rfl ownK started (by kernel_rfl) Tryz.func6
  (OpenSpec.witness (enc:=enc) (C:=Tryz.checked) (s:=Rows.OpenSpec.upto Rows.fnBoundGraphSpec) (k:=Rows.uptoSmall) rfl false ⟨#[],#[.slice none 0 0],[]⟩ 8 (by kernel_rfl) (by kernel_rfl) (by kernel_rfl)
   (x:=([.nil],[],[])) (by kernel_rfl) rfl (by kernel_rfl)) ?_
 intro W base args ds gs before hval hW _ hk _
 exact row_contract H enc W base args ds gs before hval hW hk
theorem hfnT:Tryz.pinned.checked.prog.funcNamed Rows.fnBoundGraphUptoRow.func=some 6:=by kernel_rfl
set_option maxHeartbeats 8000000 in
theorem closedT:joinedFacts Tryz.pinned.checked.prog 6 Tryz.f6 (Rows.OpenSpec.upto Rows.fnBoundGraphSpec).bare Rows.fnBoundGraphUptoRow=true:=by
 unfold joinedFacts
 simp only [Bool.and_eq_true]
 refine ⟨⟨⟨⟨⟨⟨⟨⟨⟨⟨⟨⟨⟨⟨⟨⟨⟨⟨⟨⟨⟨⟨⟨⟨⟨⟨⟨⟨⟨⟨⟨?_,?_⟩,?_⟩,?_⟩,?_⟩,?_⟩,?_⟩,?_⟩,?_⟩,?_⟩,?_⟩,?_⟩,?_⟩,?_⟩,?_⟩,?_⟩,?_⟩,?_⟩,?_⟩,?_⟩,?_⟩,?_⟩,?_⟩,?_⟩,?_⟩,?_⟩,?_⟩,?_⟩,?_⟩,?_⟩,?_⟩,?_⟩<;>as_aux_lemma=>kernel_rfl
theorem hinstT:Tryz.f6.isInstance Tryz.pinned.checked.prog Rows.fnBoundGraphUptoRow.origin Rows.fnBoundGraphUptoRow.targs:=of_decide_eq_true (by kernel_rfl)
theorem hwrapT:Tryz.f6.isWrapper Tryz.pinned.checked.prog Rows.fnBoundGraphUptoRow.wrapper Rows.fnBoundGraphUptoRow.mainSum:=by
 unfold Func.isWrapper
 first | (rw [if_pos (by decide +kernel)];kernel_rfl) | (rw [if_neg (by decide +kernel)];exact ⟨rfl,rfl⟩)
theorem fnBoundGraph_upto:Rows.FnBoundGraphUptoSaid:=
 OpenClaim.holds_of_cond 6 Tryz.f6 rfl rfl rfl rfl rfl rfl rfl ⟨rfl,rfl,rfl,rfl,rfl⟩ rfl rfl rfl rfl rfl hfnT Tryz.func6 closedT hinstT hwrapT
  (fun os started H enc _ F=>row_lifted os started H enc F)
end
end Go.Proofs.YtjlfkgjmgghhiaaGreat
