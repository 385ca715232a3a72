/- Part of the proof of a statement about pub-berthage: what its texts have in common. -/
import Derived.Test.YtpbeedabmjmdmaaGreatDoorP14
namespace Go.Proofs.YtpbeedabmjmdmaaGreatDoor
section
open Go Go.RowKit Bth
set_option maxRecDepth 100000
noncomputable def reg20:Array Oper:=findReg 20 (Tryz.f45.body.getD .skip)
theorem reg20_get {i:Nat} (h:Nat.blt i 13=true):reg20[i]? = some (opAt reg20 i):=opAt_get (by kernel_rfl) h
def put20 (a:Act) (b1 b3 o i:Nat) (x ch:Bool):Act:=
 (((((((((((((a.put (some 76) (.pointer (some ⟨b1,0,none⟩))).put (some 77) (.pointer (some ⟨b1,0,none⟩))).put (some 78) (.pointer (some ⟨b1,13,none⟩))).put (some 79) (.map (some o))).put (some 80) (.pointer (some ⟨b3,0,none⟩))).put (some 81) (.pointer (some ⟨b3,0,none⟩))).put (some 82) (.pointer (some ⟨b3,12,none⟩))).put (some 83) (.map (some i))).put (some 84) (.bool x)).put (some 85) (.bool x)).put (some 86) (if x then undef else .bool ch)).put (some 87) (.bool (x || ch))).put (some 8) (.bool (x || ch)))
set_option maxHeartbeats 2000000 in
theorem region20 {a:Act} {w:World} {Q:Exit→Act→World→Prop} {b1 b3 o i:Nat} {x ch:Bool} {R:World→Prop} (hsz:a.tmps.size=111) (hdf:a.defers=[])
  (h10:a.eval (.tmp 10) = .pointer (some ⟨b1,0,none⟩)) (h12:a.eval (.tmp 12) = .pointer (some ⟨b3,0,none⟩)) (h8:a.eval (.tmp 8) = .bool ch) (hQ:∀ d v c a w,Q (.panic c) (a.put d v) w→Q (.panic c) a w)
  (hS:∀ w',(w'=w.drew∨R w')→w'.cell? ⟨b1,13,none⟩=some (.map (some o))∧w'.cell? ⟨b3,12,none⟩=some (.map (some i)))
  (hc:Calls Tryz.prog 77 #[.map (some o),.map (some i)] w.drew fun e w'=>e = .returned (.bool x)∧R w')
  (h:∀ w',R w'→Q .normal (put20 a b1 b3 o i x ch) w'):(Code.region 20 reg20 true).wp Tryz.prog Q a w:=by
 refine wp_region_held_drew (S:=fun w'=>w'.cell? ⟨b1,13,none⟩=some (.map (some o))∧w'.cell? ⟨b3,12,none⟩=some (.map (some i))) (by kernel_rfl) (hS _ (.inl rfl)) (fun hS0=>?_)
 rw [show reg20.size=13 from by kernel_rfl]
 have g0:Bun a 111 [(10,_),(12,_),(8,_)]:=(((Bun.nil hsz hdf).cons 8 h8).cons 12 h12).cons 10 h10
 refine takeQ g0 hS0 hQ 0 76 10 130 128 13 _ _ (.map (some o)) (by unfold isB;refine ⟨?_,?_,?_,?_⟩<;>kernel_rfl) (by kernel_rfl) rfl (insFld _ 13 (by decide)) (fun w hw=>by have hc:=hw.1;go_simp) rfl fun a0 e0 g0=>?_
 refine takeQ g0 hS0 hQ 4 80 12 130 128 12 _ _ (.map (some i)) (by unfold isB;refine ⟨?_,?_,?_,?_⟩<;>kernel_rfl) (by kernel_rfl) rfl (insFld _ 12 (by decide)) (fun w hw=>by have hc:=hw.2;go_simp) rfl fun a4 e4 g0=>?_
 refine wpAnyH_ready (rs:=[8]) (by kernel_rfl) (by simp) (AllReadyH.cons (o:=opAt reg20 8) (reg20_get rfl) (fun K hK=>?_) AllReadyH.nil)
 rw [if_pos (show Region.wanted (opAt reg20 8) _=true from rfl)]
 refine wp_callU (show (opAt reg20 8).op = .call { callee:=.value (.func 77),args:=#[.tmp 79,.tmp 83],argTypes:=#[128,128] } from by kernel_rfl) Tryz.func77 (by kernel_rfl) (by kernel_rfl) ?_
 simp only [List.map_toArray,List.map_cons,List.map_nil,g0.at_ 79 _ rfl,g0.at_ 83 _ rfl]
 refine (hc).mono ?_
 rintro e w5 ⟨rfl,hR5⟩
 refine hK.out _ _ (hS _ (.inr hR5)) (fun hS0=>?_)
 replace g0:=g0.put (x:=(opAt reg20 8).dst) (by kernel_rfl) (d:=84) (by decide) (.bool x)
 rw [show (opAt reg20 8).dst=some 84 from by kernel_rfl] at g0 ⊢
 refine takeMv g0 hS0 hQ 9 85 84 _ (by unfold isB;kernel_rfl) (by kernel_rfl) rfl fun a9 e9 g0=>?_
 refine takeG g0 hS0 hQ 10 86 8 9 85 false x (.bool ch) ⟨by kernel_rfl,by kernel_rfl⟩ (by kernel_rfl) (by kernel_rfl) rfl rfl fun a10 e10 g0=>?_
 refine takeB g0 hS0 hQ 11 87 _ (.bool (x || ch)) (show isB reg20 11 87 (.pick (.tmp 85) (.const (.bool true)) (.tmp 86)) from by unfold isB;kernel_rfl) (by kernel_rfl) (fun o e w hw=>by
  simp only [execOp,e,g0.at_ 85 _ rfl,g0.at_ 86 _ rfl]
  cases x<;>simp [asBool,Act.eval]) fun a11 e11 g0=>?_
 refine takeB g0 hS0 hQ 12 8 _ (.bool (x || ch)) (show isB reg20 12 8 (.assign (.tmp 87)) from by unfold isB;kernel_rfl) (by kernel_rfl) (fun o e w hw=>by
  simp [execOp,e,g0.at_ 87 _ rfl]) fun a12 e12 g0=>?_
 refine wpAnyH_done (by kernel_rfl) ?_ _
 subst e12 e11 e10 e9 e4 e0
 have h:=h _ hR5
 unfold put20 at h
 cases x<;>exact h
noncomputable def reg23:Array Oper:=findReg 23 (Tryz.f45.body.getD .skip)
theorem reg23_get {i:Nat} (h:Nat.blt i 15=true):reg23[i]? = some (opAt reg23 i):=opAt_get (by kernel_rfl) h
def put23 (a:Act) (b1 o i d n:Nat) (x ch:Bool):Act:=
 (((((((((((((((a.put (some 94) (.pointer (some ⟨b1,0,none⟩))).put (some 95) (.pointer (some ⟨b1,0,none⟩))).put (some 96) (.pointer (some ⟨b1,12,none⟩))).put (some 97) (.map (some o))).put (some 98) (.pointer (some ⟨b1,0,none⟩))).put (some 99) (.pointer (some ⟨b1,0,none⟩))).put (some 100) (.pointer (some ⟨b1,13,none⟩))).put (some 101) (.map (some i))).put (some 102) (.map (some d))).put (some 103) (.map (some n))).put (some 104) (.bool x)).put (some 105) (.bool x)).put (some 106) (if x then undef else .bool ch)).put (some 107) (.bool (x || ch))).put (some 8) (.bool (x || ch)))
set_option maxHeartbeats 2000000 in
theorem region23 {a:Act} {w:World} {Q:Exit→Act→World→Prop} {b1 o i d n:Nat} {x ch:Bool} {R1 R:World→Prop} (hsz:a.tmps.size=111) (hdf:a.defers=[])
  (h10:a.eval (.tmp 10) = .pointer (some ⟨b1,0,none⟩)) (h13:a.eval (.tmp 13) = .map (some d)) (h8:a.eval (.tmp 8) = .bool ch) (hQ:∀ d v c a w,Q (.panic c) (a.put d v) w→Q (.panic c) a w)
  (hS:∀ w',(w'=w.drew∨R1 w'∨R w')→w'.cell? ⟨b1,12,none⟩=some (.map (some o))∧w'.cell? ⟨b1,13,none⟩=some (.map (some i)))
  (hc:Calls Tryz.prog 79 #[.map (some i),.map (some d)] w.drew fun e w'=>e = .returned (.map (some n))∧R1 w')
  (hc2:∀ w1,R1 w1→Calls Tryz.prog 77 #[.map (some o),.map (some n)] w1 fun e w'=>e = .returned (.bool x)∧R w')
  (h:∀ w',R w'→Q .normal (put23 a b1 o i d n x ch) w'):(Code.region 23 reg23 true).wp Tryz.prog Q a w:=by
 refine wp_region_held_drew (S:=fun w'=>w'.cell? ⟨b1,12,none⟩=some (.map (some o))∧w'.cell? ⟨b1,13,none⟩=some (.map (some i))) (by kernel_rfl) (hS _ (.inl rfl)) (fun hS0=>?_)
 rw [show reg23.size=15 from by kernel_rfl]
 have g0:Bun a 111 [(10,_),(13,_),(8,_)]:=(((Bun.nil hsz hdf).cons 8 h8).cons 13 h13).cons 10 h10
 refine takeQ g0 hS0 hQ 0 94 10 130 128 12 _ _ (.map (some o)) (by unfold isB;refine ⟨?_,?_,?_,?_⟩<;>kernel_rfl) (by kernel_rfl) rfl (insFld _ 12 (by decide)) (fun w hw=>by have hc:=hw.1;go_simp) rfl fun a0 e0 g0=>?_
 refine takeQ g0 hS0 hQ 4 98 10 130 128 13 _ _ (.map (some i)) (by unfold isB;refine ⟨?_,?_,?_,?_⟩<;>kernel_rfl) (by kernel_rfl) rfl (insFld _ 13 (by decide)) (fun w hw=>by have hc:=hw.2;go_simp) rfl fun a4 e4 g0=>?_
 refine takeMv g0 hS0 hQ 8 102 13 _ (by unfold isB;kernel_rfl) (by kernel_rfl) rfl fun a8 e8 g0=>?_
 refine wpAnyH_ready (rs:=[9]) (by kernel_rfl) (by simp) (AllReadyH.cons (o:=opAt reg23 9) (reg23_get rfl) (fun K hK=>?_) AllReadyH.nil)
 rw [if_pos (show Region.wanted (opAt reg23 9) _=true from rfl)]
 refine wp_callU (show (opAt reg23 9).op = .call { callee:=.value (.func 79),args:=#[.tmp 101,.tmp 102],argTypes:=#[128,128] } from by kernel_rfl) Tryz.func79 (by kernel_rfl) (by kernel_rfl) ?_
 simp only [List.map_toArray,List.map_cons,List.map_nil,g0.at_ 101 _ rfl,g0.at_ 102 _ rfl]
 refine (hc).mono ?_
 rintro e w4 ⟨rfl,hR4⟩
 refine hK.out _ _ (hS _ (.inr (.inl hR4))) (fun hS0=>?_)
 replace g0:=g0.put (x:=(opAt reg23 9).dst) (by kernel_rfl) (d:=103) (by decide) (.map (some n))
 rw [show (opAt reg23 9).dst=some 103 from by kernel_rfl] at g0 ⊢
 refine wpAnyH_ready (rs:=[10]) (by kernel_rfl) (by simp) (AllReadyH.cons (o:=opAt reg23 10) (reg23_get rfl) (fun K hK=>?_) AllReadyH.nil)
 rw [if_pos (show Region.wanted (opAt reg23 10) _=true from rfl)]
 refine wp_callU (show (opAt reg23 10).op = .call { callee:=.value (.func 77),args:=#[.tmp 97,.tmp 103],argTypes:=#[128,128] } from by kernel_rfl) Tryz.func77 (by kernel_rfl) (by kernel_rfl) ?_
 simp only [List.map_toArray,List.map_cons,List.map_nil,g0.at_ 97 _ rfl,g0.at_ 103 _ rfl]
 refine (hc2 _ hR4).mono ?_
 rintro e w5 ⟨rfl,hR5⟩
 refine hK.out _ _ (hS _ (.inr (.inr hR5))) (fun hS0=>?_)
 replace g0:=g0.put (x:=(opAt reg23 10).dst) (by kernel_rfl) (d:=104) (by decide) (.bool x)
 rw [show (opAt reg23 10).dst=some 104 from by kernel_rfl] at g0 ⊢
 refine takeMv g0 hS0 hQ 11 105 104 _ (by unfold isB;kernel_rfl) (by kernel_rfl) rfl fun a11 e11 g0=>?_
 refine takeG g0 hS0 hQ 12 106 8 11 105 false x (.bool ch) ⟨by kernel_rfl,by kernel_rfl⟩ (by kernel_rfl) (by kernel_rfl) rfl rfl fun a12 e12 g0=>?_
 refine takeB g0 hS0 hQ 13 107 _ (.bool (x || ch)) (show isB reg23 13 107 (.pick (.tmp 105) (.const (.bool true)) (.tmp 106)) from by unfold isB;kernel_rfl) (by kernel_rfl) (fun o e w hw=>by
  simp only [execOp,e,g0.at_ 105 _ rfl,g0.at_ 106 _ rfl]
  cases x<;>simp [asBool,Act.eval]) fun a13 e13 g0=>?_
 refine takeB g0 hS0 hQ 14 8 _ (.bool (x || ch)) (show isB reg23 14 8 (.assign (.tmp 107)) from by unfold isB;kernel_rfl) (by kernel_rfl) (fun o e w hw=>by
  simp [execOp,e,g0.at_ 107 _ rfl]) fun a14 e14 g0=>?_
 refine wpAnyH_done (by kernel_rfl) ?_ _
 subst e14 e13 e12 e11 e8 e4 e0
 have h:=h _ hR5
 unfold put23 at h
 cases x<;>exact h
end
end Go.Proofs.YtpbeedabmjmdmaaGreatDoor
