/- Part of the proof of a statement about pub-berthage: what its texts have in common. -/
import Derived.Test.YtpbeedabmjmdmaaGreatDoorCards
import Derived.Test.YtpbeedabmjmdmaaGreatDoorTie
import Derived.WalkKit
import Derived.ProofKit
import Derived.OpenShut
import Derived.JoinedCond
import Derived.Carry
import Derived.Deep.DeepHandedRow
import Derived.Test.YtpbeedabmjmdmaaGreatDoorP37
import Derived.Test.YtpbeedabmjmdmaaGreatDoorPA
namespace Go.Proofs.YtpbeedabmjmdmaaGreatDoor
section
open Go Go.RowKit Go.ChangeShapes Go.WideShapes Go.ChangeAt Bth
set_option maxRecDepth 100000
theorem ownK:ownKnob Tryz.prog.godebug=none:=by kernel_rfl
theorem laidOutP:laidOutB Tryz.prog=true:=by kernel_rfl
theorem tabs_of {W:World} (h:laidMetH Tryz.prog Rows.fnBoundPlacesUptoRow.laid W):Tabs W:=by
 rw [MakeChecks.laidMetH_plain _ _ _ (by kernel_rfl)] at h
 exact two_strs (n1 := "pub-berthage/spec.regLow") (n2 := "pub-berthage/spec.regPseudo") (P:=Tryz.prog) (g1:=1) (g2:=0) (by kernel_rfl) (by kernel_rfl) (by kernel_rfl) (by kernel_rfl) Tryz.underlying187 Tryz.underlying186 Tryz.underlying9 Tryz.underlying9 (by kernel_rfl) (by kernel_rfl) h
def setVar (h:Array Obj) (g:Nat) (cs:Array Value):Array Obj:=h.modify g fun
 | .cells _ t frozen=>.cells cs t frozen
 | o=>o
noncomputable def laidWorld (os:Os):World:=
 let w0:=World.holding Tryz.prog os ⟨#[],#[],[]⟩
 { w0 with heap:=setVar (setVar w0.heap 1 #[.string ⟨#[65,88]⟩,.string ⟨#[67,88]⟩,.string ⟨#[68,88]⟩,.string ⟨#[66,88]⟩,.string ⟨#[83,80]⟩,.string ⟨#[66,80]⟩,.string ⟨#[83,73]⟩,.string ⟨#[68,73]⟩]) 0 #[.string ⟨#[70,80]⟩,.string ⟨#[80,67]⟩,.string ⟨#[83,66]⟩,.string ⟨#[83,80]⟩] }
theorem laid_met (os:Os):laidMet Tryz.prog Rows.fnBoundPlacesUptoRow.laid ((laidWorld os).forCall (fun _ _=>0) ⟨#[],#[.slice none 0 0],[]⟩).memory:=
 laidMet_of_run' 8 (by kernel_rfl) (by kernel_rfl)
theorem reads (os:Os) {H:Type} (enc:TypeId × Value→H):∃ places,DataW.whole enc Tryz.prog ((laidWorld os).forCall (fun _ _=>0) ⟨#[],#[.slice none 0 0],[]⟩).memory Tryz.f3.params.toList Rows.fnBoundPlacesSpec.vars false #[Value.slice none 0 0].toList 8=some ([.nil],[],places):=
 ⟨[],by kernel_rfl⟩
theorem hfnT:Tryz.pinned.checked.prog.funcNamed Rows.fnBoundPlacesUptoRow.func=some 3:=by kernel_rfl
set_option maxHeartbeats 8000000 in
theorem closedT:joinedFacts Tryz.pinned.checked.prog 3 Tryz.f3 (Rows.OpenSpec.upto Rows.fnBoundPlacesSpec).bare Rows.fnBoundPlacesUptoRow=true:=by
 unfold joinedFacts
 simp only [Bool.and_eq_true]
 refine ⟨⟨⟨⟨⟨⟨⟨⟨⟨⟨⟨⟨⟨⟨⟨⟨⟨⟨⟨⟨⟨⟨⟨⟨⟨⟨⟨⟨⟨⟨⟨?_,?_⟩,?_⟩,?_⟩,?_⟩,?_⟩,?_⟩,?_⟩,?_⟩,?_⟩,?_⟩,?_⟩,?_⟩,?_⟩,?_⟩,?_⟩,?_⟩,?_⟩,?_⟩,?_⟩,?_⟩,?_⟩,?_⟩,?_⟩,?_⟩,?_⟩,?_⟩,?_⟩,?_⟩,?_⟩,?_⟩,?_⟩<;>as_aux_lemma=>kernel_rfl
theorem hinstT:Tryz.f3.isInstance Tryz.pinned.checked.prog Rows.fnBoundPlacesUptoRow.origin Rows.fnBoundPlacesUptoRow.targs:=of_decide_eq_true (by kernel_rfl)
theorem hwrapT:Tryz.f3.isWrapper Tryz.pinned.checked.prog Rows.fnBoundPlacesUptoRow.wrapper Rows.fnBoundPlacesUptoRow.mainSum:=by
 unfold Func.isWrapper
 first | (rw [if_pos (by decide +kernel)];kernel_rfl) | (rw [if_neg (by decide +kernel)];exact ⟨rfl,rfl⟩)
theorem plainT (f:FuncId) (fn:Func) (hf:Tryz.pinned.checked.prog.funcNamed Rows.fnBoundPlacesUptoRow.func=some f) (hfn:Tryz.pinned.checked.prog.funcs[f]? = some fn):
  true=Tryz.pinned.checked.prog.looks []∧∀ (j:Nat) t,fn.params[j]? = some t→Tryz.pinned.checked.prog.wantsStandIn t=false:=by
 obtain rfl:f=3:=Option.some.inj (hfnT.symm.trans hf) |>.symm
 obtain rfl:fn=Tryz.f3:=(Option.some.inj (Tryz.func3.symm.trans hfn)).symm
 refine ⟨by kernel_rfl,fun j t ht=>?_⟩
 rw [Tryz.params3] at ht
 obtain rfl:t=22:=by simpa using Array.mem_of_getElem? ht
 exact (show Tryz.prog.wantsStandIn 22=false by kernel_rfl)
theorem wfT:Rows.fnBoundPlacesUptoRow.wfByText (Rows.OpenSpec.upto Rows.fnBoundPlacesSpec)=true:=by kernel_rfl
theorem goesT:false=Rows.fnBoundPlacesUptoRow.goesBy Tryz.pinned.checked.prog:=by kernel_rfl
theorem preRowT (os:Os) {H:Type} (enc:TypeId × Value→H):(Rows.OpenSpec.upto Rows.fnBoundPlacesSpec).preRow enc Tryz.prog Tryz.f3 Rows.fnBoundPlacesUptoRow.domain false Rows.fnBoundPlacesUptoRow.laid ((laidWorld os).forCall (fun _ _=>0) ⟨#[],#[.slice none 0 0],[]⟩).memory #[.slice none 0 0]:=by
 obtain ⟨places,hx⟩:=reads os enc
 exact OpenSpec.preRow_of_cond 8 hx (by kernel_rfl) (fun k hk=>by cases hk;kernel_rfl) (by kernel_rfl) (laid_met os)
theorem witnessT (os:Os) {H:Type} (enc:TypeId × Value→H):∃ (w:World) (tape:Tape) (i:Input),w.os=os∧(w.forCall tape i).Shaped Tryz.checked.prog∧i.vars=[]∧Input.okWide Tryz.checked.prog (w.forCall tape i) .any w.heap.size 3 i ∧
   (Rows.OpenSpec.upto Rows.fnBoundPlacesSpec).preRow enc Tryz.checked.prog Tryz.f3 Rows.fnBoundPlacesUptoRow.domain false Rows.fnBoundPlacesUptoRow.laid (w.forCall tape i).memory i.args∧({ modest:=false } : Assume).holds Tryz.checked.prog (lone (Frame.enter Tryz.checked.prog 3 i.args .normal) [] (w.forCall tape i)):=
 witness_row_at (enc:=enc) (C:=Tryz.checked) false (laidWorld os) #[.slice none 0 0] rfl (by kernel_rfl) (by kernel_rfl) (by kernel_rfl) (preRowT os enc)
end
section
open Go Go.RowKit Go.ChangeShapes Go.WideShapes Go.ChangeAt Bth
set_option maxRecDepth 100000
theorem row_contract (H:Type) (enc:TypeId × Value→H) (W:World) (base:Nat) (args:Array Value) (ds gs:List (DataW H)) (before:List MemPlace)
  (hval:∀ (j:Nat) t v,Tryz.f3.params[j]? = some t→args[j]? = some v→Value.okWide Tryz.prog W .any base t v)
  (hW:DataW.Whole enc Tryz.prog Tryz.f3.params.toList Rows.fnBoundPlacesSpec.vars false W args.toList ds gs before) (hL:laidMetH Tryz.prog Rows.fnBoundPlacesUptoRow.laid W) (hk:Rows.uptoSmall H (ds ++ gs)=true):
  Calls Tryz.prog 3 args W fun e W'=>∃ v,e = .returned v∧Rows.fnBoundPlacesSpec.post enc Tryz.prog Tryz.f3 false true false false W args v W':=by
 have hW':=hW
 obtain ⟨p,q,hA0,hV,rfl,hfz,hnd⟩:=hW
 have hA:DataW.TrodAll enc Tryz.prog W 0 (fun _=>true) true Tryz.f3.params.toList args.toList ds p:=hA0
 rw [Tryz.params3] at hA hval
 obtain ⟨v0,vs0,d0,ds0,p0,q0,hargs,rfl,rfl,h0,r0⟩:=trodAll_cons hA
 obtain ⟨rfl,rfl,rfl⟩:=trodAll_nil r0
 obtain rfl:args = #[v0]:=by cases args;simp_all
 obtain ⟨rfl,rfl⟩:=trodVars_none hV
 obtain ⟨a0,len,cap,rfl⟩:=okWide_slice Tryz.underlying22 (hval 0 22 v0 rfl rfl)
 have h0k:=h0
 obtain ⟨fuel,hf⟩:=h0
 have hlt:∀ x∈p0,x.block < W.heap.size:=fun x hx=>hW'.lt x (by simp [hx])
 have hkb:Rows.uptoBulk d0≤1048576:=by
  have h:Rows.uptoBulkAll ([d0] ++ ([]:List (DataW H)))≤1048576:=of_decide_eq_true hk
  simp only [List.append_nil,Rows.uptoBulkAll] at h
  omega
 obtain ⟨s,ns,hs,hN,hB⟩:=rd_nodes (by simpa [Value.cells] using hf) hkb
 clear hA0
 rw [hs] at h0k hW' ⊢
 refine (FnBoundPlaces_calls W W.heap.size s ns hN (Nat.le_refl _) hB (tabs_of hL)).mono ?_
 rintro e W' ⟨rfl,hfr⟩
 have hbel:=hfr.below
 refine ⟨_,rfl,_,_,_,[],p0,[],hW',trodAll_mk1 (shut_bool Tryz.underlying4 _),?_,rfl,hbel.frame _,fun h=>by cases h⟩
 rw [Tryz.params3]
 exact trodAll_mk1 (Below.trod laidOutP (by kernel_rfl) (of_decide_eq_true (by kernel_rfl)) h0k hbel hlt)
theorem row_lifted (os:Os) (started:os.Started) (H:Type) (enc:TypeId × Value→H) (F:Stop.Interp):
  ReturnsInHanded {} Tryz.checked os 3 .any ((Rows.OpenSpec.upto Rows.fnBoundPlacesSpec).preRow enc Tryz.prog Tryz.f3 Rows.fnBoundPlacesUptoRow.domain false Rows.fnBoundPlacesUptoRow.laid) (((Rows.OpenSpec.upto Rows.fnBoundPlacesSpec).at F).post enc Tryz.prog Tryz.f3 false true false false):=by
 refine returnsInHanded_of_row (C:=Tryz.checked) (s:=Rows.OpenSpec.upto Rows.fnBoundPlacesSpec) ownK started (by kernel_rfl) Tryz.func3 (witnessT os enc) ?_
 intro W base args ds gs before hval hW _ hcond _ hL _ _
 exact row_contract H enc W base args ds gs before hval hW hL (hcond _ rfl)
theorem fnBoundPlaces_said:Rows.FnBoundPlacesUptoSaid:=
 OpenClaim.holds_of_cond 3 Tryz.f3 rfl rfl rfl rfl rfl rfl rfl ⟨rfl,rfl,rfl,rfl,rfl⟩ rfl rfl rfl rfl rfl hfnT Tryz.func3 closedT hinstT hwrapT
  (fun os started H enc _ F=>by rw [OpenClaim.pre_eq_preRow];exact row_lifted os started H enc F)
theorem fnBoundPlaces_upto:Rows.FnBoundPlacesUptoCardSaid:=
 Claim7.holds_tied_plain_at .later [] _ _ _ _ fnBoundPlaces_said (fun _ h=>by cases h) wfT (fun _ h=>by cases h) fnBoundPlacesUpto_row_tie rfl ⟨rfl,rfl⟩ (by kernel_rfl) rfl plainT goesT
end
end Go.Proofs.YtpbeedabmjmdmaaGreatDoor
