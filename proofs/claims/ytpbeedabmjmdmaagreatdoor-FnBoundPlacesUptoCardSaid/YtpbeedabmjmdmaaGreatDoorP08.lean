/- Part of the proof of a statement about pub-berthage: what its texts have in common. -/
import Derived.Test.YtpbeedabmjmdmaaGreatDoorP07
namespace Go.Proofs.YtpbeedabmjmdmaaGreatDoor
section
open Go Go.RowKit Bth
set_option maxRecDepth 100000
section
variable {P:Program} {ops:Array Oper} {rest:List Oper} {o:Oper} {a:Act} {Q:Exit→Act→World→Prop} {w:World}
theorem L_op {v:Value} {w':World} (hg:o.guard=none) (hr:(execOp a.eval o).run P w = .ok (.value v) w') (h:wpList P ops Q rest (a.put o.dst v) w'):wpList P ops Q (o :: rest) a w:=by
 refine wpList_plain hg fun K hK=>?_
 unfold Oper.wp
 rw [hr]
 exact hK _ _ h
theorem L_assign {x:Operand} (hg:o.guard=none) (hop:o.op = .assign x) (h:wpList P ops Q rest (a.put o.dst (a.eval x)) w):wpList P ops Q (o :: rest) a w:=
 L_op hg (by simp [execOp,hop]) h
end
theorem define_wp {fb:Nat} {x7:Value} {base:Nat} (hb:fb < base):∀ (l:List (String × Ent)) (id s:Nat) (a:Act) (w:World) (v:Value) (n:Nat) (xs:List Value) (Q:Exit→Act→World→Prop),l≠[]→(∀ x∈l,x.2.info=0) →
  7 < s→s+2*l.length≤1066→FrameOk fb x7 a→FamAt w fb 0 v→w.ownsRow base 147 1 v n xs→n+l.length≤1000→base≤w.heap.size →
  (∀ a' w' v',FrameOk fb x7 a'→FamAt w' fb 0 v'→w'.ownsRow base 147 1 v' (n+l.length) (xs ++ (regsF fb 0 l).map R.val)→Fr (fun b=>fb≤b) w w'→Q .normal a' w') →
  (codeD l id s).wp Tryz.prog Q a w:=by
 have one:∀ (p:String) (e:Ent) (s:Nat) (a:Act) (w:World) (v:Value) (n:Nat) (xs:List Value) (ops:Array Oper) (Q:Exit→Act→World→Prop),e.info=0→7 < s→s+2≤1066→FrameOk fb x7 a→FamAt w fb 0 v→w.ownsRow base 147 1 v n xs→n≤999→base≤w.heap.size →
   (∀ a' w' v',FrameOk fb x7 a'→FamAt w' fb 0 v'→w'.ownsRow base 147 1 v' (n+1) (xs ++ [(e.r fb 0).val])→Fr (fun b=>fb≤b) w w'→Q .normal a' w') →
   wpList Tryz.prog ops Q [opM s p,opD s p e] a w:=by
  intro p e s a w v n xs ops Q he hs hs2 hfr hfb hown hn hbs h
  refine L_move rfl rfl ?_
  show wpList _ _ _ _ (a.put (some s) (a.eval (.tmp 3))) _
  rw [hfr.t3]
  have f1:=hfr.put (d:=s) (.pointer (some ⟨fb,0,none⟩)) (by omega) (by omega) (by omega)
  have e1:=(put_eval a s s (.pointer (some ⟨fb,0,none⟩)) (by rw [hfr.size];omega)).trans (if_pos rfl)
  generalize a.put (some s) (.pointer (some ⟨fb,0,none⟩))=a1 at f1 e1 ⊢
  refine L_call rfl rfl Tryz.func108 (by kernel_rfl) (by kernel_rfl) ?_
  have ea:(#[Operand.tmp s,.const (.int .u16 (e.spec:Int)),.const (.int .u16 (e.idx:Int)),.const (.string e.name),.const (.slice none 0 0)].map a1.eval) = #[.pointer (some ⟨fb,0,none⟩),.int .u16 (e.spec:Int),.int .u16 (e.idx:Int),.string e.name,.slice none 0 0]:=by
   simp only [List.map_toArray,List.map_cons,List.map_nil,e1]
   rfl
  rw [ea]
  refine (define_calls w fb 0 v e base n xs rfl he hfb hown (by omega) hb hbs).mono ?_
  rintro en w2 ⟨⟨y,rfl⟩,v',h1,h2,h3⟩
  exact h _ _ v' (f1.put (d:=s+1) _ (by omega) (by omega) (by omega)) h1 h2 h3
 intro l
 induction l with
 | nil=>intro _ _ _ _ _ _ _ _ h;exact absurd rfl h
 | cons x l ih=>
  obtain ⟨p,e⟩:=x
  intro id s a w v n xs Q _ he hs hs2 hfr hfb hown hn hbs h
  simp only [List.length_cons] at hs2 hn
  cases l with
  | nil=>
   refine wp_region_lit (one p e s a w v n xs _ Q (he (p,e) (by simp)) hs (by omega) hfr hfb hown (by omega) hbs fun a' w' v' h1 h2 h3 h4=>?_)
   exact h a' w' v' h1 h2 (by simpa [regsF] using h3) h4
  | cons y l=>
   refine wp_seq (wp_region_lit (one p e s a w v n xs _ _ (he (p,e) (by simp)) hs (by omega) hfr hfb hown (by omega) hbs fun a' w' v' h1 h2 h3 h4=>?_))
   show (codeD (y :: l) (id+1) (s+2)).wp _ _ _ _
   refine ih (id+1) (s+2) a' w' v' (n+1) _ Q (by simp) (fun x hx=>he x (by simp [hx])) (by omega) (by omega) h1 h2 h3 (by omega) (Nat.le_trans hbs h4.size) fun a2 w2 v2 g1 g2 g3 g4=>?_
   refine h a2 w2 v2 g1 g2 ?_ (h4.then g4)
   have e1:n+1+(y :: l).length=n+((p,e) :: y :: l).length:=by simp only [List.length_cons];omega
   rw [e1] at g3
   simpa [regsF] using g3
theorem test_wp {fb k':Nat} {a:Act} {w:World} {Q:Exit→Act→World→Prop} (id k c:Nat) (p:String) (x y:Code) (hc:7 < c) (hc2:c+2≤1066) (hfr:FrameOk fb (.int .u8 (k':Int)) a)
  (h1:k'=k→∀ a',FrameOk fb (.int .u8 (k':Int)) a'→x.wp Tryz.prog Q a' w) (h2:k'≠k→∀ a',FrameOk fb (.int .u8 (k':Int)) a'→y.wp Tryz.prog Q a' w):(codeT id k c p x y).wp Tryz.prog Q a w:=by
 refine wp_seq (wp_region_lit ?_)
 have hr:(execOp a.eval { dst:=some (c+1),op:=.binOp .eql 164 (.tmp 7) (.const (.int .u8 (k:Int))) 164,type:=4,pos:=p,after:=#[],guard:=none }).run Tryz.prog w = .ok (.value (.bool (k' == k))) w:=by
  have h7:=hfr.t7
  have hcc:a.eval (.const (.int .u8 (k:Int))) = .int .u8 (k:Int):=rfl
  unfold execOp
  simp only [h7,hcc]
  go_simp
  rw [Bool.eq_iff_iff];simp;omega
 refine L_op rfl hr ?_
 have f1:=hfr.put (d:=c+1) (.bool (k' == k)) (by omega) (by omega) (by omega)
 have e1:=(put_eval a (c+1) (c+1) (.bool (k' == k)) (by rw [hfr.size];omega)).trans (if_pos rfl)
 show wpList _ _ _ _ (a.put (some (c+1)) (.bool (k' == k))) _
 generalize a.put (some (c+1)) (.bool (k' == k))=a1 at f1 e1 ⊢
 refine L_assign rfl rfl ?_
 show wpList _ _ _ _ (a1.put (some c) (a1.eval (.tmp (c+1)))) _
 rw [e1]
 have f2:=f1.put (d:=c) (.bool (k' == k)) (by omega) (by omega) (by omega)
 have e2:=(put_eval a1 c c (.bool (k' == k)) (by rw [f1.size];omega)).trans (if_pos rfl)
 generalize a1.put (some c) (.bool (k' == k))=a2 at f2 e2 ⊢
 refine wp_cond e2 ?_
 by_cases h:k'=k
 ·rw [if_pos (by simpa using h)];exact h1 h a2 f2
 ·rw [if_neg (by simpa using h)];exact h2 h a2 f2
def famRegs (fb:Nat) (k:Nat):List R:=
 match k with
 | 0=>regsF fb 0 tab0
 | 1=>regsF fb 1 tab1
 | 2=>regsF fb 2 tab2
 | _=>regsF fb 3 tab3
def GivesFam (w:World) (k:Nat) (e:Ending) (w':World):Prop:=
 e = .returned (.pointer (some ⟨w.heap.size,0,none⟩))∧∃ v,FamAt w' w.heap.size k v∧w'.ownsRow (w.heap.size+1) 147 1 v (famRegs w.heap.size k).length ((famRegs w.heap.size k).map R.val)∧Fr nope w w'
theorem cases_wp {w w1:World} {k:Nat} (hk:k≤3) {a:Act} {Q:Exit→Act→World→Prop} (hw1:Fr nope w w1) (hs:w1.heap.size=w.heap.size+1) (hfb:FamAt w1 w.heap.size k (.slice none 0 0)) (hfr:FrameOk w.heap.size (.int .u8 (k:Int)) a)
  (h:∀ a' w' v,FrameOk w.heap.size (.int .u8 (k:Int)) a'→FamAt w' w.heap.size k v→w'.ownsRow (w.heap.size+1) 147 1 v (famRegs w.heap.size k).length ((famRegs w.heap.size k).map R.val)→Fr nope w w'→Q .normal a' w'):famCases.wp Tryz.prog Q a w1:=by
 have fin:∀ {a' w' v} {l:List R},famRegs w.heap.size k=l→FrameOk w.heap.size (.int .u8 (k:Int)) a'→FamAt w' w.heap.size k v→w'.ownsRow (w.heap.size+1) 147 1 v (0+l.length) ([] ++ l.map R.val)→Fr (fun b=>w.heap.size≤b) w1 w'→Q .normal a' w':=by
  intro a' w' v l e g1 g2 g3 g4
  subst e
  exact h a' w' v g1 g2 (by simpa using g3) (hw1.then_new g4 fun x hx hx2=>by omega)
 refine test_wp 4 0 8 _ _ _ (by omega) (by omega) hfr (fun e a' f=>?_) (fun e a' f=>?_)
 ·subst e
  exact define_wp (base:=w.heap.size+1) (by omega) tab0 5 10 a' w1 _ 0 [] Q (by decide) (by decide) (by omega) (by decide) f hfb (own_nil _ _ _ _) (by decide) (by omega) fun a2 w2 v2 g1 g2 g3 g4=>fin (l:=regsF w.heap.size 0 tab0) rfl g1 g2 (by simpa [regsF] using g3) g4
 ·refine test_wp 9 1 18 _ _ _ (by omega) (by omega) f (fun e1 a' f=>?_) (fun e1 a' f=>?_)
  ·subst e1
   exact codeOf_wp (base:=w.heap.size+1) (.inl rfl) (by omega) tab1 10 20 a' w1 _ 0 [] Q (by decide) (by decide) (by omega) (by decide) f hfb (own_nil _ _ _ _) (by decide) (by omega) fun a2 w2 v2 g1 g2 g3 g4=>fin (l:=regsF w.heap.size 1 tab1) rfl g1 g2 (by simpa [regsF] using g3) g4
  ·refine test_wp 78 2 436 _ _ _ (by omega) (by omega) f (fun e2 a' f=>?_) (fun e2 a' f=>?_)
   ·subst e2
    exact codeOf_wp (base:=w.heap.size+1) (.inr (.inl rfl)) (by omega) tab2 79 438 a' w1 _ 0 [] Q (by decide) (by decide) (by omega) (by decide) f hfb (own_nil _ _ _ _) (by decide) (by omega) fun a2 w2 v2 g1 g2 g3 g4=>fin (l:=regsF w.heap.size 2 tab2) rfl g1 g2 (by simpa [regsF] using g3) g4
   ·refine test_wp 175 3 1014 _ _ _ (by omega) (by omega) f (fun e3 a' f=>?_) (fun e3 a' f=>absurd e3 (by omega))
    subst e3
    exact codeOf_wp (base:=w.heap.size+1) (.inr (.inr rfl)) (by omega) tab3 176 1016 a' w1 _ 0 [] Q (by decide) (by decide) (by omega) (by decide) f hfb (own_nil _ _ _ _) (by decide) (by omega) fun a2 w2 v2 g1 g2 g3 g4=>fin (l:=regsF w.heap.size 3 tab3) rfl g1 g2 (by simpa [regsF] using g3) g4
theorem cases_nil {w:World} {fb k:Nat} (hk:4≤k) {a:Act} {Q:Exit→Act→World→Prop} (hfr:FrameOk fb (.int .u8 (k:Int)) a)
  (h:∀ a',a'.tmps.size=1066→a'.defers=[]→a'.eval (.tmp 2) = .pointer none→Q .ret a' w):famCases.wp Tryz.prog Q a w:=by
 refine test_wp 4 0 8 _ _ _ (by omega) (by omega) hfr (fun e a' f=>absurd e (by omega)) (fun e a' f=>?_)
 refine test_wp 9 1 18 _ _ _ (by omega) (by omega) f (fun e a' f=>absurd e (by omega)) (fun e a' f=>?_)
 refine test_wp 78 2 436 _ _ _ (by omega) (by omega) f (fun e a' f=>absurd e (by omega)) (fun e a' f=>?_)
 refine test_wp 175 3 1014 _ _ _ (by omega) (by omega) f (fun e a' f=>absurd e (by omega)) (fun e a' f=>?_)
 refine wp_seq (wp_region_lit (L_assign rfl rfl ?_))
 refine wp_ret (h _ ?_ ?_ ?_)
 ·exact (f.put (d:=2) _ (by omega) (by omega) (by omega)).size
 ·exact f.defers
 ·exact (put_eval a' 2 2 _ (by rw [f.size];omega)).trans (if_pos rfl)
theorem build_fam (w:World) (v:Int):(Instr.build 212 #[(0,.int .u8 v)]).run Tryz.prog w = .ok (.agg #[.int .u8 v,.slice none 0 0]) w:=by kernel_rfl
theorem box_fam (w:World) (v:Int):(Instr.box 212 (.agg #[.int .u8 v,.slice none 0 0])).run Tryz.prog w = .ok (.pointer (some ⟨w.heap.size,0,none⟩)) (w.alloc (.cells #[.int .u8 v,.slice none 0 0] 212)):=by kernel_rfl
structure Head (k:Nat) (a:Act):Prop where
 size:a.tmps.size=1066
 defers:a.defers=[]
 t0:a.eval (.tmp 0) = .int .u8 (k:Int)
theorem Head.put {k:Nat} {a:Act} (h:Head k a) (d:Nat) (v:Value) (hd:d < 1066) (h0:d≠0):Head k (a.put (some d) v):=
 ⟨by rw [put_size,h.size],h.defers,by rw [put_eval a d 0 v (by rw [h.size];exact hd),if_neg h0,h.t0]⟩
theorem Head.get {k:Nat} {a:Act} (h:Head k a) (d:Nat) (v:Value) (hd:d < 1066):(a.put (some d) v).eval (.tmp d)=v:=(put_eval a d d v (by rw [h.size];exact hd)).trans (if_pos rfl)
theorem famRun {w:World} {k:Nat} {a:Act} {Q:Exit→Act→World→Prop} (hh:Head k a)
  (h:∀ a',FrameOk w.heap.size (.int .u8 (k:Int)) a'→famCases.wp Tryz.prog (Exit.inBlock 0 (Exit.then (fun a' w'=>Code.wp Tryz.prog (.seq (.region 184 #[{ dst:=some 1065,op:=.move (.tmp 3),type:=111,pos := "zz_turned.go:190",after:=#[],guard:=none },
    { dst:=some 2,op:=.assign (.tmp 1065),type:=111,pos := "zz_turned.go:190",after:=#[{ on:=0,ground:=.data },{ on:=0,ground:=.phase }],guard:=none }] false) .ret) Q a' w') Q)) a' (w.alloc (.cells #[.int .u8 (k:Int),.slice none 0 0] 212))):
  famBody.wp Tryz.prog Q a w:=by
 unfold famBody
 refine wp_seq (wp_region_lit (L_assign rfl rfl ?_))
 show Code.wp _ (.seq _ _) _ _ _
 have h1:=hh.put 2 (a.eval (.const (.pointer none))) (by omega) (by omega)
 generalize a.put (some 2) (a.eval (.const (.pointer none)))=a1 at h1 ⊢
 refine wp_seq (wp_region_lit (L_move rfl rfl ?_))
 show wpList _ _ _ _ (a1.put (some 4) _) _
 rw [h1.t0]
 have h2:=h1.put 4 (.int .u8 (k:Int)) (by omega) (by omega)
 have e2:=h1.get 4 (.int .u8 (k:Int)) (by omega)
 generalize a1.put (some 4) (.int .u8 (k:Int))=a2 at h2 e2 ⊢
 refine L_op (v:=.agg #[.int .u8 (k:Int),.slice none 0 0]) (w':=w) rfl (by have hb:=build_fam w (k:Int);simp [execOp,e2,hb]) ?_
 show wpList _ _ _ _ (a2.put (some 5) _) _
 have h3:=h2.put 5 (.agg #[.int .u8 (k:Int),.slice none 0 0]) (by omega) (by omega)
 have e3:=h2.get 5 (.agg #[.int .u8 (k:Int),.slice none 0 0]) (by omega)
 generalize a2.put (some 5) (.agg #[.int .u8 (k:Int),.slice none 0 0])=a3 at h3 e3 ⊢
 refine L_op (v:=.pointer (some ⟨w.heap.size,0,none⟩)) (w':=w.alloc (.cells #[.int .u8 (k:Int),.slice none 0 0] 212)) rfl (by have hb:=box_fam w (k:Int);simp [execOp,e3,hb]) ?_
 show wpList _ _ _ _ (a3.put (some 6) _) _
 have h4:=h3.put 6 (.pointer (some ⟨w.heap.size,0,none⟩)) (by omega) (by omega)
 have e4:=h3.get 6 (.pointer (some ⟨w.heap.size,0,none⟩)) (by omega)
 generalize a3.put (some 6) (.pointer (some ⟨w.heap.size,0,none⟩))=a4 at h4 e4 ⊢
 refine L_assign rfl rfl ?_
 show wpList _ _ _ _ (a4.put (some 3) (a4.eval (.tmp 6))) _
 rw [e4]
 have h5:=h4.put 3 (.pointer (some ⟨w.heap.size,0,none⟩)) (by omega) (by omega)
 have e5:=h4.get 3 (.pointer (some ⟨w.heap.size,0,none⟩)) (by omega)
 generalize a4.put (some 3) (.pointer (some ⟨w.heap.size,0,none⟩))=a5 at h5 e5 ⊢
 show Code.wp _ (.seq _ _) _ _ _
 refine wp_seq (wp_seq (wp_region_lit (L_move rfl rfl ?_)))
 show Code.wp _ (.block _ _) _ (a5.put (some 7) _) _
 rw [h5.t0]
 have h6:=h5.put 7 (.int .u8 (k:Int)) (by omega) (by omega)
 have e6:=h5.get 7 (.int .u8 (k:Int)) (by omega)
 have e7:=(put_eval a5 7 3 (.int .u8 (k:Int)) (by rw [h5.size];omega)).trans (if_neg (by omega))
 rw [e5] at e7
 generalize a5.put (some 7) (.int .u8 (k:Int))=a6 at h6 e6 e7 ⊢
 exact wp_block (h a6 ⟨h6.size,h6.defers,e7,e6⟩)
theorem famStart (k:Nat):Head k { tmps:=#[Value.int .u8 (k:Int)] ++ Array.replicate (Tryz.f81.ntmps - (#[Value.int .u8 (k:Int)]:Array Value).size) undef,defers:=[] }:=by
 refine ⟨by simp,rfl,?_⟩
 simp [Act.eval]
theorem FamilyOfKind_calls (w:World) (k:Nat) (hk:k≤3):Calls Tryz.prog 81 #[.int .u8 (k:Int)] w (GivesFam w k):=by
 refine calls_of_wp Tryz.func81 famBody_eq (famRun (famStart k) fun a hfr=>?_)
 have hfa:FamAt (w.alloc (.cells #[.int .u8 (k:Int),.slice none 0 0] 212)) w.heap.size k (.slice none 0 0):=heap_alloc_new w _
 refine cases_wp hk ((Fr.refl _ _).alloc _) (by simp) hfa hfr fun a' w' v g1 g2 g3 g4=>?_
 show Code.wp _ (.seq _ _) _ _ _
 refine wp_seq (wp_region_lit (L_move rfl rfl ?_))
 show wpList _ _ _ _ (a'.put (some 1065) _) _
 rw [g1.t3]
 have e1:=(put_eval a' 1065 1065 (.pointer (some ⟨w.heap.size,0,none⟩)) (by rw [g1.size];omega)).trans (if_pos rfl)
 have s1:=(put_size a' 1065 (.pointer (some ⟨w.heap.size,0,none⟩))).trans g1.size
 have d1:=(put_defers a' 1065 (.pointer (some ⟨w.heap.size,0,none⟩))).trans g1.defers
 generalize a'.put (some 1065) (.pointer (some ⟨w.heap.size,0,none⟩))=a1 at e1 s1 d1 ⊢
 refine L_assign rfl rfl ?_
 show Code.wp _ .ret _ (a1.put (some 2) (a1.eval (.tmp 1065))) _
 rw [e1]
 have e2:=(put_eval a1 2 2 (.pointer (some ⟨w.heap.size,0,none⟩)) (by rw [s1];omega)).trans (if_pos rfl)
 have d2:=(put_defers a1 2 (.pointer (some ⟨w.heap.size,0,none⟩))).trans d1
 generalize a1.put (some 2) (.pointer (some ⟨w.heap.size,0,none⟩))=a2 at e2 d2 ⊢
 refine wp_ret (bodyPost_ret (results_tmp (t:=2) rfl _ _ _) d2 ?_)
 rw [show a2.tmps.getD 2 undef=_ from e2]
 exact ⟨rfl,v,g2,g3,g4⟩
theorem FamilyOfKind_none (w:World) (k:Nat) (hk:4≤k):Calls Tryz.prog 81 #[.int .u8 (k:Int)] w fun e w'=>e = .returned (.pointer none)∧Fr nope w w':=by
 refine calls_of_wp Tryz.func81 famBody_eq (famRun (famStart k) fun a hfr=>?_)
 refine cases_nil hk hfr fun a' s1 d1 e1=>?_
 simp only [Exit.inBlock,Exit.then]
 refine bodyPost_ret (results_tmp (t:=2) rfl _ _ _) d1 ?_
 rw [show a'.tmps.getD 2 undef=_ from e1]
 exact ⟨rfl,(Fr.refl _ _).alloc _⟩
end
section
open Go Go.RowKit Bth
set_option maxRecDepth 100000
theorem R.mP (r:R) (hv:r.virt=false):∃ T v,r.val = .iface T v∧(∀ W,(method 479 T v "PhysicalIndex").run Tryz.prog W = .ok (221,r.coreP) W) ∧
  (∀ W,(method 479 T v "Mask").run Tryz.prog W = .ok (190,.int .u16 (r.spec:Int)) W)∧(∀ W,(method 479 T v "Info").run Tryz.prog W = .ok (219,r.coreP) W) ∧
  (∀ W,(method 479 T v "ID").run Tryz.prog W = .ok (218,r.coreP) W):=by
 obtain ⟨T,v,h⟩:=r.val_iface
 have key:∀ {T' v'},r.val = .iface T' v'→T'=T∧v'=v:=fun h'=>by rw [h] at h';injection h' with a b;exact ⟨a.symm,b.symm⟩
 refine ⟨T,v,h,fun W=>?_,fun W=>?_,fun W=>?_,fun W=>?_⟩
 ·obtain ⟨T',v',h1,h2⟩:=r.m_PhysicalIndex_p W hv;obtain ⟨rfl,rfl⟩:=key h1;rw [sizeTypes] at h2;exact h2
 ·obtain ⟨T',v',h1,h2⟩:=r.m_Mask_p W hv;obtain ⟨rfl,rfl⟩:=key h1;rw [sizeTypes] at h2;exact h2
 ·obtain ⟨T',v',h1,h2⟩:=r.m_Info_p W hv;obtain ⟨rfl,rfl⟩:=key h1;rw [sizeTypes] at h2;exact h2
 ·obtain ⟨T',v',h1,h2⟩:=r.m_ID_p W hv;obtain ⟨rfl,rfl⟩:=key h1;rw [sizeTypes] at h2;exact h2
def pickR (rs:List R) (i s:Nat):Option R:=rs.find? fun r=>r.idx == i && r.spec == s
theorem pickR_take_no {rs:List R} {i s k:Nat} {r:R} (h:rs[k]? = some r) (h0:pickR (rs.take k) i s=none) (hn:¬(r.idx=i∧r.spec=s)):pickR (rs.take (k+1)) i s=none:=by
 unfold pickR at h0 ⊢
 rw [List.take_add_one,h,List.find?_append,h0]
 simpa using hn
theorem pickR_take_yes {rs:List R} {i s k:Nat} {r:R} (h:rs[k]? = some r) (h0:pickR (rs.take k) i s=none) (hn:r.idx=i∧r.spec=s):pickR rs i s=some r:=by
 unfold pickR at h0 ⊢
 have e:rs=rs.take k ++ rs.drop k:=(List.take_append_drop k rs).symm
 rw [e,List.find?_append,h0,List.drop_eq_getElem_cons (List.getElem?_eq_some_iff.1 h).1]
 have:=(List.getElem?_eq_some_iff.1 h).2
 rw [this]
 simp [hn.1,hn.2]
theorem Lookup_calls (w:World) (fb k:Nat) (v:Value) (base:Nat) (rs:List R) (i s:Nat) (hF:FamAt w fb k v) (hown:w.ownsRow base 147 1 v rs.length (rs.map R.val)) (hr:∀ r∈rs,r.virt=false) (hl:rs.length≤1000):
  Calls Tryz.prog 188 #[.pointer (some ⟨fb,0,none⟩),.int .u16 (i:Int),.int .u16 (s:Int)] w fun e w'=>e = .returned (optV (pickR rs i s))∧Fr nope w w':=by
 obtain ⟨A,c,rfl,_,_⟩:=own_slice hown
 have hS:=own_Sl hown
 have hlt:=lt_of_heap hF
 have hcf:=fun j=>cell_of_row _ _ j _ _ (0,0) hF
 have hlen:(rs.map R.val).length=rs.length:=List.length_map ..
 clear hown hF
 go_enter Tryz.func188,Tryz.ntmps188
 go_wp2
 clear hcf hlt
 go_loopg [14] rs.length (fun n c14 wr=>∃ k:Nat,k≤rs.length∧c14 = .int .i64 (k:Int)∧pickR (rs.take k) i s=none∧Fr nope w wr∧n=rs.length - k)
 case atStart=>exact ⟨0,Nat.zero_le _,rfl,rfl,Fr.refl _ _,rfl⟩
 case round=>
  obtain ⟨j,hj,rfl,hp,hf,rfl⟩:=hrel
  by_cases hjl:j < rs.length
  ·obtain ⟨b,off,u,rfl,hbl,hu,hc⟩:=(hS.nope hf).at_ hjl
   rw [List.getElem?_map] at hu
   obtain ⟨r,hok,rfl⟩:=Option.map_eq_some_iff.1 hu
   obtain ⟨T,x,hv,hm1,hm2,_,_⟩:=r.mP (hr r (List.mem_of_getElem? hok))
   have hyes:=Lib.hid (fun hn=>pickR_take_yes (i:=i) (s:=s) hok hp hn)
   have hno:=Lib.hid (fun hn=>pickR_take_no (i:=i) (s:=s) hok hp hn)
   have hvv:=Lib.hid hv
   rw [hv] at hc
   clear hu hS hok hp hv
   unfold R.coreP at hm1
   obtain ⟨virt,kind,idx,spec,fb',name,info⟩:=r
   simp only at hm1 hm2
   by_cases h1:idx=i
   ·subst h1
    by_cases h2:spec=s
    ·subst h2
     go_wp2
     go_ret
     exact ⟨by rw [hyes.out (by simp)];simp only [optV];rw [hvv.out];rfl,hf.alloc _⟩
    ·go_wp2
     go_roundg (rs.length - (j+1))
     case measure=>omega
     case rel=>exact ⟨j+1,by omega,by go_num,hno.out (fun h=>h2 h.2),hf.alloc _,rfl⟩
   ·go_wp2
    go_roundg (rs.length - (j+1))
    case measure=>omega
    case rel=>exact ⟨j+1,by omega,by go_num,hno.out (fun h=>h1 h.1),hf.alloc _,rfl⟩
  ·go_wp2
   go_ret
   have e:rs.take j=rs:=List.take_of_length_le (by omega)
   rw [e] at hp
   exact ⟨by rw [hp];rfl,hf⟩
theorem Registers_fam_calls (w:World) (fb k:Nat) (v:Value) (base:Nat) (rs:List R) (hF:FamAt w fb k v) (hown:w.ownsRow base 147 1 v rs.length (rs.map R.val)) (hl:rs.length≤1000):
  Calls Tryz.prog 82 #[.pointer (some ⟨fb,0,none⟩)] w (GivesOwn w 147 (rs.map R.val)):=by
 obtain ⟨A,c,rfl,_,_⟩:=own_slice hown
 have hS:=own_Sl hown
 have hlt:=lt_of_heap hF
 have hcf:=fun j=>cell_of_row _ _ j _ _ (0,0) hF
 have hlen:(rs.map R.val).length=rs.length:=List.length_map ..
 clear hown hF
 unfold GivesOwn
 go_enter Tryz.func82,Tryz.ntmps82
 go_wp2_with (refine wpList_app (v:=.slice none 0 0) rfl rfl Tryz.underlying171 infoPhys rfl (by omega) rfl (own_nil w w.heap.size _ _) rfl (news:=rs.map R.val) (by simp) (Sl.src hS) (regs_one _) (by simp only [maxLen];omega) (by omega) (by omega) ?_;intro v3 w3 hown3 hf3 hb3)
 go_ret
 exact ⟨_,rfl,by simpa using hown3,hf3.mono (fun x _ h=>by simp [Value.ownBlock] at h)⟩
end
section
open Go Go.RowKit Bth
set_option maxRecDepth 100000
theorem tabs_ok:(∀ x∈tab0,x.2.idx < 65536∧x.2.spec < 65536∧x.2.info < 256)∧(∀ x∈tab1,x.2.idx < 65536∧x.2.spec < 65536∧x.2.info < 256)∧(∀ x∈tab2,x.2.idx < 65536∧x.2.spec < 65536∧x.2.info < 256)∧(∀ x∈tab3,x.2.idx < 65536∧x.2.spec < 65536∧x.2.info < 256):=by
 decide +kernel
theorem regsF_ok {fb k:Nat} {l:List (String × Ent)} (hk:k < 256) (h:∀ x∈l,x.2.idx < 65536∧x.2.spec < 65536∧x.2.info < 256):∀ r∈regsF fb k l,r.virt=false∧r.fb=fb∧r.kind=k∧r.Ok:=by
 intro r hr
 obtain ⟨x,hx,rfl⟩:=List.mem_map.1 hr
 obtain ⟨h1,h2,h3⟩:=h x hx
 exact ⟨rfl,rfl,rfl,⟨hk,h1,h2,h3⟩⟩
theorem famRegs_ok {fb k:Nat} (hk:k≤3):∀ r∈famRegs fb k,r.virt=false∧r.fb=fb∧r.kind=k∧r.Ok:=by
 obtain ⟨h0,h1,h2,h3⟩:=tabs_ok
 rcases k with _ | _ | _ | _ | k
 ·exact regsF_ok (by omega) h0
 ·exact regsF_ok (by omega) h1
 ·exact regsF_ok (by omega) h2
 ·exact regsF_ok (by omega) h3
 ·omega
theorem famRegs_len (fb k:Nat):(famRegs fb k).length≤96:=by
 unfold famRegs
 split<;>simp only [regsF,List.length_map]<;>decide
def FamOk (w:World) (fb k:Nat):Prop:=∃ v,FamAt w fb k v∧w.ownsRow (fb+1) 147 1 v (famRegs fb k).length ((famRegs fb k).map R.val)
theorem FamOk.fr {S:Nat→Prop} {w w':World} {fb k:Nat} (h:FamOk w fb k) (hf:Fr S w w') (hs:∀ b,fb≤b→¬S b):FamOk w' fb k:=by
 obtain ⟨v,h1,h2⟩:=h
 exact ⟨v,hf.heap h1 (hs _ (Nat.le_refl _)),own_fr h2 hf fun b hb=>hs b (by have:=own_base h2 b hb;omega)⟩
theorem FamOk.nope {w w':World} {fb k:Nat} (h:FamOk w fb k) (hf:Fr nope w w'):FamOk w' fb k:=h.fr hf fun _ _ x=>x
theorem FamOk.reg {w:World} {fb k:Nat} (h:FamOk w fb k) (hk:k≤3) {r:R} (hr:r∈famRegs fb k):r.Ok∧r.At w:=by
 obtain ⟨v,h1,_⟩:=h
 obtain ⟨_,e1,e2,e3⟩:=famRegs_ok hk r hr
 exact ⟨e3,h1.reg r e1 e2⟩
theorem frozen_row {w:World} {b:Nat} {cs:Array Value} {t:TypeId} (h:w.heap[b]? = some (.cells cs t (0,0))) (j:Nat):w.frozen? ⟨b,j,none⟩=false:=by simp [World.frozen?,h]
def fv:Option Nat→Value
 | none=>.pointer none
 | some fb=>ptr fb
def famCells (fs:Nat→Option Nat):Array Value:=#[fv (fs 0),fv (fs 1),fv (fs 2),fv (fs 3)]
def WAt (w:World) (wb:Nat) (fs:Nat→Option Nat):Prop:=w.heap[wb]? = some (.cells (famCells fs) 114 (0,0))∧(∀ k fb,fs k=some fb→k≤3∧wb < fb∧FamOk w fb k)
theorem WAt.nope {w w':World} {wb:Nat} {fs:Nat→Option Nat} (h:WAt w wb fs) (hf:Fr nope w w'):WAt w' wb fs:=⟨hf.heap h.1 (fun x=>x),fun k fb e=>⟨(h.2 k fb e).1,(h.2 k fb e).2.1,(h.2 k fb e).2.2.nope hf⟩⟩
def NoFam (w:World) (S:Nat→Prop):Prop:=∀ b cs t fr,S b→w.heap[b]? = some (.cells cs t fr)→t≠212∧t≠147∧t≠114
theorem NoFam.one {w:World} {b:Nat} {cs:Array Value} {t:TypeId} {fr:Nat × Nat} (hb:w.heap[b]? = some (.cells cs t fr)) (ht:t≠212∧t≠147∧t≠114):NoFam w (fun x=>x=b):=by
 rintro c cs' t' fr' rfl e
 rw [hb] at e
 injection e with e
 injection e with e1 e2
 subst e2
 exact ht
theorem NoFam.own {w:World} {base n size:Nat} {e:TypeId} {v:Value} {xs:List Value} (h:w.ownsRow base e size v n xs) (he:e≠212∧e≠147∧e≠114):NoFam w (fun b=>v.ownBlock=some b):=by
 intro b cs t fr hb hh
 rcases h.2 with ⟨rfl,_⟩ | ⟨g,cap,cur,rfl,_,hg,_⟩
 ·simp [Value.ownBlock] at hb
 ·simp only [Value.ownBlock,Option.some.injEq] at hb
  subst hb
  rw [hg] at hh
  injection hh with hh
  injection hh with _ e2
  subst e2
  exact he
theorem FamOk.frT {S:Nat→Prop} {w w':World} {fb k:Nat} (h:FamOk w fb k) (hf:Fr S w w') (hs:NoFam w S):FamOk w' fb k:=by
 obtain ⟨v,h1,h2⟩:=h
 refine ⟨v,hf.heap h1 (fun hS=>(hs _ _ _ _ hS h1).1 rfl),own_fr h2 hf fun b hb hS=>?_⟩
 rcases h2.2 with ⟨rfl,_⟩ | ⟨g,cap,cur,rfl,_,hg,_⟩
 ·simp [Value.ownBlock] at hb
 ·simp only [Value.ownBlock,Option.some.injEq] at hb
  subst hb
  exact (hs _ _ _ _ hS hg).2.1 rfl
theorem WAt.frT {S:Nat→Prop} {w w':World} {wb:Nat} {fs:Nat→Option Nat} (h:WAt w wb fs) (hf:Fr S w w') (hs:NoFam w S):WAt w' wb fs:=
 ⟨hf.heap h.1 (fun hS=>(hs _ _ _ _ hS h.1).2.2 rfl),fun k fb e=>⟨(h.2 k fb e).1,(h.2 k fb e).2.1,(h.2 k fb e).2.2.frT hf hs⟩⟩
theorem newWorld_calls (w:World):Calls Tryz.prog 25 #[] w fun e w'=>e = .returned (ptr w.heap.size)∧WAt w' w.heap.size (fun _=>none)∧Fr nope w w':=by
 go_enter Tryz.func25,Tryz.ntmps25
 go_wp2
 go_ret
 exact ⟨rfl,⟨heap_alloc_new w _,by simp⟩,(Fr.refl _ _).alloc _⟩
def setF (fs:Nat→Option Nat) (k fb:Nat):Nat→Option Nat:=fun j=>if j=k then some fb else fs j
theorem famCells_get (fs:Nat→Option Nat) {k:Nat} (hk:k≤3):(famCells fs)[k]? = some (fv (fs k)):=by
 rcases k with _ | _ | _ | _ | k
 ·rfl
 ·rfl
 ·rfl
 ·rfl
 ·omega
theorem famCells_set (fs:Nat→Option Nat) {k:Nat} (hk:k≤3) (fb:Nat):(famCells fs).setIfInBounds k (ptr fb)=famCells (setF fs k fb):=by
 rcases k with _ | _ | _ | _ | k
 ·rfl
 ·rfl
 ·rfl
 ·rfl
 ·omega
def Grows (fs fs':Nat→Option Nat):Prop:=∀ k fb,fs k=some fb→fs' k=some fb
theorem Grows.refl (fs:Nat→Option Nat):Grows fs fs:=fun _ _ h=>h
theorem Grows.trans {a b c:Nat→Option Nat} (h:Grows a b) (k:Grows b c):Grows a c:=fun i fb e=>k i fb (h i fb e)
theorem Grows.set {fs:Nat→Option Nat} {k fb:Nat} (h:fs k=none):Grows fs (setF fs k fb):=fun j b e=>by
 unfold setF
 split
 ·rename_i e1;subst e1;rw [h] at e;cases e
 ·exact e
def physOf (fs:Nat→Option Nat) (k i s:Nat):Option R:=(fs k).bind fun fb=>pickR (famRegs fb k) i s
def GivesPhys (w:World) (wb:Nat) (fs:Nat→Option Nat) (k i s:Nat) (e:Ending) (w':World):Prop:=
 ∃ fs',Grows fs fs'∧(k≤3→(fs' k).isSome)∧WAt w' wb fs'∧e = .returned (optV (physOf fs' k i s))∧Fr (fun b=>b=wb) w w'
theorem physical_calls (w:World) (wb:Nat) (fs:Nat→Option Nat) (k i s:Nat) (hk8:k < 256) (hW:WAt w wb fs):
  Calls Tryz.prog 174 #[ptr wb,.int .u8 (k:Int),.int .u16 (i:Int),.int .u16 (s:Int)] w (GivesPhys w wb fs k i s):=by
 have hlt:=lt_of_heap hW.1
 have hcw:=fun j=>cell_of_row _ _ j _ _ (0,0) hW.1
 unfold GivesPhys ptr
 go_enter Tryz.func174,Tryz.ntmps174
 have h64:wrap64 (k:Int)=(k:Int):=by unfold wrap64;omega
 by_cases hk:k≤3
 ·have hck:w.cell? ⟨wb,k,none⟩=some (fv (fs k)):=(hcw k).trans (famCells_get fs hk)
  clear hcw
  cases hfs:fs k with
  | none=>
   rw [hfs] at hck
   simp only [fv] at hck
   go_wp2
   go_region_with (first
    | (go_at_call 81;refine (FamilyOfKind_calls _ k hk).mono ?_;rintro e w1 ⟨rfl,v,hF,hO,hf⟩;have hb1:=hf.heap (k:=wb) hW.1 (fun x=>x);have hl1:=lt_of_heap hb1;have hz1:∀ j,w1.frozen? ⟨wb,j,none⟩=false:=fun j=>frozen_row hb1 j;have hc1:w1.cell? ⟨wb,k,none⟩=some (.pointer none):=by rw [cell_of_row _ _ _ _ _ (0,0) hb1,famCells_get fs hk,hfs];rfl))
   all_goals
    have hfw:Fr nope w w1:=(Fr.refl nope w).drew.then hf
    have hst:Fr (fun b=>b=wb) w1 (w1.setCell ⟨wb,k,none⟩ (.pointer (some ⟨w.heap.size,0,none⟩))):=Fr.setCell (S:=fun b=>b=wb) (p:=⟨wb,k,none⟩) (Fr.refl _ w1) (.inl rfl) _
    have hF2:FamAt _ w.heap.size k v:=hst.heap hF (by show ¬(w.heap.size=wb);omega)
    have hO2:=own_fr hO hst (fun b hb e=>by have:=own_base hO b hb;simp at this;omega)
    have hb2:=setCell_heap (k:=k) hb1 (.pointer (some ⟨w.heap.size,0,none⟩))
    have hset:=famCells_set fs hk w.heap.size
    unfold ptr at hset
    rw [hset] at hb2
    have hW2:WAt (w1.setCell ⟨wb,k,none⟩ (.pointer (some ⟨w.heap.size,0,none⟩))) wb (setF fs k w.heap.size):=by
     refine ⟨hb2,fun j fb e=>?_⟩
     unfold setF at e
     split at e
     ·rename_i e1
      injection e with e
      subst e1 e
      exact ⟨hk,hlt,v,hF2,hO2⟩
     ·obtain ⟨g1,g2,g3⟩:=hW.2 j fb e
      exact ⟨g1,g2,(g3.nope hfw).fr hst (fun b hb e=>by omega)⟩
    go_wp2_with (go_at_call 188;refine (Lookup_calls _ w.heap.size k v _ (famRegs w.heap.size k) i s hF2 hO2 (fun r hr=>(famRegs_ok hk r hr).1) (by have:=famRegs_len w.heap.size k;omega)).mono ?_;rintro e w3 ⟨rfl,hf3⟩)
    go_ret
    exact ⟨setF fs k w.heap.size,Grows.set hfs,fun _=>by simp [setF],hW2.nope hf3,by simp [physOf,setF],(hfw.of_nope.then hst).then hf3.of_nope⟩
  | some fb=>
   rw [hfs] at hck
   simp only [fv,ptr] at hck
   obtain ⟨v,hF,hO⟩:=(hW.2 k fb hfs).2.2
   go_wp2_with (go_at_call 188;refine (Lookup_calls w fb k v _ (famRegs fb k) i s hF hO (fun r hr=>(famRegs_ok hk r hr).1) (by have:=famRegs_len fb k;omega)).mono ?_;rintro e w1 ⟨rfl,hf⟩)
   go_ret
   exact ⟨fs,Grows.refl _,fun _=>by rw [hfs];rfl,hW.nope hf,by simp [physOf,hfs],hf.of_nope⟩
 ·go_wp2
  go_ret
  refine ⟨fs,Grows.refl _,fun h=>absurd h hk,hW,?_,Fr.refl _ _⟩
  have:fs k=none:=by
   cases e:fs k with
   | none=>rfl
   | some fb=>exact absurd (hW.2 k fb e).1 hk
  simp [physOf,this,optV]
end
section
open Go Go.RowKit Bth
set_option maxRecDepth 100000
structure G where
 virt:Bool
 kind:Nat
 idx:Nat
 spec:Nat
 deriving DecidableEq
def G.agg (g:G):Value:=.agg #[.bool g.virt,.int .u8 (g.kind:Int),.int .u16 (g.idx:Int),.int .u16 (g.spec:Int)]
structure G.Ok (g:G):Prop where
 kind:g.kind < 256
 idx:g.idx < 65536
 spec:g.spec < 65536
def mkV (g:G):R:={ virt:=true,kind:=g.kind,idx:=g.idx,spec:=g.spec,fb:=0,name:=⟨#[]⟩,info:=0 }
def regOf (fs:Nat→Option Nat) (g:G):Option R:=if g.virt then some (mkV g) else physOf fs g.kind g.idx g.spec
theorem NewVirtual_calls (w:World) (i k s:Nat):
  Calls Tryz.prog 184 #[.int .u16 (i:Int),.int .u8 (k:Int),.int .u16 (s:Int)] w fun e w'=>e = .returned (.iface 350 (.agg #[.int .u16 (i:Int),.int .u8 (k:Int),.int .u16 (s:Int)]))∧w'=w:=by
 go_enter Tryz.func184,Tryz.ntmps184
 go_wp2
 go_ret
 exact ⟨rfl,rfl⟩
theorem newgpv_calls (w:World) (T:TypeId) (x:Value):Calls Tryz.prog 185 #[.iface T x] w fun e w'=>e = .returned (.iface 352 (.agg #[.iface T x]))∧w'=w:=by
 go_enter Tryz.func185,Tryz.ntmps185
 go_wp2
 go_ret
 exact ⟨rfl,rfl⟩
theorem newvecv_calls (w:World) (T:TypeId) (x:Value):Calls Tryz.prog 186 #[.iface T x] w fun e w'=>e = .returned (.iface 354 (.agg #[.iface T x,.nilIface]))∧w'=w:=by
 go_enter Tryz.func186,Tryz.ntmps186
 go_wp2
 go_ret
 exact ⟨rfl,rfl⟩
theorem newopmaskv_calls (w:World) (T:TypeId) (x:Value):Calls Tryz.prog 187 #[.iface T x] w fun e w'=>e = .returned (.iface 355 (.agg #[.iface T x]))∧w'=w:=by
 go_enter Tryz.func187,Tryz.ntmps187
 go_wp2
 go_ret
 exact ⟨rfl,rfl⟩
theorem wrapV_other {k:Nat} (h1:k≠1) (h2:k≠2) (h3:k≠3) (x:Value):wrapV k x=x:=by
 unfold wrapV;split<;>first | rfl | contradiction
theorem ZZVirtual_calls (w:World) (g:G) (hg:g.Ok):
  Calls Tryz.prog 173 #[.int .u8 (g.kind:Int),.int .u16 (g.idx:Int),.int .u16 (g.spec:Int)] w fun e w'=>e = .returned (mkV g).val∧w'=w:=by
 obtain ⟨virt,k,i,s⟩:=g
 show Calls _ _ #[.int .u8 (k:Int),.int .u16 (i:Int),.int .u16 (s:Int)] _ fun e w'=>e = .returned (wrapV k (.iface 350 (.agg #[.int .u16 (i:Int),.int .u8 (k:Int),.int .u16 (s:Int)])))∧_
 by_cases h1:k=1
 ·subst h1
  go_enter Tryz.func173,Tryz.ntmps173
  go_wp2
  go_ret
  exact ⟨rfl,rfl⟩
 by_cases h2:k=2
 ·subst h2
  go_enter Tryz.func173,Tryz.ntmps173
  go_wp2
  go_ret
  exact ⟨rfl,rfl⟩
 by_cases h3:k=3
 ·subst h3
  go_enter Tryz.func173,Tryz.ntmps173
  go_wp2
  go_ret
  exact ⟨rfl,rfl⟩
 rw [wrapV_other h1 h2 h3]
 go_enter Tryz.func173,Tryz.ntmps173
 go_wp2
 go_ret
 exact ⟨rfl,rfl⟩
theorem WAt.phys {w:World} {wb:Nat} {fs:Nat→Option Nat} (h:WAt w wb fs) {k i s:Nat} {r:R} (hr:physOf fs k i s=some r):r.virt=false∧r.kind=k∧r.idx=i∧r.spec=s∧r.Ok∧r.At w:=by
 unfold physOf at hr
 obtain ⟨fb,e1,e2⟩:=Option.bind_eq_some_iff.1 hr
 obtain ⟨hk,_,hF⟩:=h.2 k fb e1
 have hm:=List.mem_of_find?_eq_some e2
 have hp:=List.find?_some e2
 simp only [Bool.and_eq_true,beq_iff_eq] at hp
 obtain ⟨a1,a2,a3,a4⟩:=famRegs_ok hk r hm
 exact ⟨a1,a3,hp.1,hp.2,a4,(hF.reg hk hm).2⟩
theorem WAt.reg {w:World} {wb:Nat} {fs:Nat→Option Nat} (h:WAt w wb fs) {g:G} (hg:g.Ok) {r:R} (hr:regOf fs g=some r):r.virt=g.virt∧r.kind=g.kind∧r.idx=g.idx∧r.spec=g.spec∧r.Ok∧r.At w:=by
 unfold regOf at hr
 split at hr
 ·rename_i hv
  injection hr with hr
  subst hr
  exact ⟨by rw [hv];rfl,rfl,rfl,rfl,⟨hg.kind,hg.idx,hg.spec,by show 0 < 256;omega⟩,fun h=>by cases h⟩
 ·rename_i hv
  obtain ⟨a,b⟩:=h.phys hr
  exact ⟨by rw [a];simpa using hv,b⟩
theorem physOf_grows {fs fs':Nat→Option Nat} (h:Grows fs fs') {k i s:Nat} (hk:(fs k).isSome):physOf fs' k i s=physOf fs k i s:=by
 obtain ⟨fb,e⟩:=Option.isSome_iff_exists.1 hk
 simp [physOf,e,h k fb e]
def GivesRegOf (w:World) (wb:Nat) (fs:Nat→Option Nat) (g:G) (e:Ending) (w':World):Prop:=
 ∃ fs',Grows fs fs'∧(g.virt=false→g.kind≤3→(fs' g.kind).isSome)∧WAt w' wb fs'∧e = .returned (.tuple #[optV (regOf fs' g),.bool (regOf fs' g).isSome])∧Fr (fun b=>b=wb) w w'
theorem reg_calls (w:World) (wb:Nat) (fs:Nat→Option Nat) (g:G) (hg:g.Ok) (hW:WAt w wb fs):
  Calls Tryz.prog 159 #[ptr wb,g.agg] w (GivesRegOf w wb fs g):=by
 unfold GivesRegOf
 simp only [G.agg]
 cases hv:g.virt with
 | true=>
  go_enter Tryz.func159,Tryz.ntmps159
  go_wp2_with (go_at_call 173;refine (ZZVirtual_calls _ g hg).mono ?_;rintro e w1 ⟨rfl,rfl⟩)
  go_ret2
  refine ⟨fs,Grows.refl _,(fun h=>by cases h),hW.nope ((Fr.refl _ _).alloc _),?_,(Fr.refl _ _).alloc _⟩
  simp [regOf,hv,optV]
 | false=>
  go_enter Tryz.func159,Tryz.ntmps159
  go_wp2_with (go_at_call 174;refine (physical_calls _ wb fs g.kind g.idx g.spec hg.kind (hW.nope ((Fr.refl _ _).alloc _))).mono ?_;rintro e w1 ⟨fs',h1,h2,h3,rfl,h4⟩)
  have hO:regOf fs' g=physOf fs' g.kind g.idx g.spec:=by simp [regOf,hv]
  cases hp:physOf fs' g.kind g.idx g.spec with
  | none=>
   simp only [optV]
   go_wp2
   go_quiet (fail)
   go_wp2
   go_ret2
   refine ⟨fs',h1,fun _ h=>h2 h,h3.nope ((Fr.refl _ _).drewN _),?_,((Fr.refl _ _).alloc _).then (h4.drewN _)⟩
   rw [hO,hp]
   rfl
  | some r=>
   obtain ⟨T,v,hr⟩:=r.val_iface
   simp only [optV,hr]
   go_wp2
   go_quiet (fail)
   go_wp2
   go_ret2
   refine ⟨fs',h1,fun _ h=>h2 h,h3.nope ((Fr.refl _ _).drewN _),?_,((Fr.refl _ _).alloc _).then (h4.drewN _)⟩
   rw [hO,hp]
   simp [optV,hr]
end
section
open Go Go.RowKit Bth
set_option maxRecDepth 100000
structure PC where
 kind:Int
 bits:Nat
 text:ByteArray
def PC.agg (c:PC):Value:=.agg #[.int .i64 c.kind,.int .u64 (c.bits:Int),.string c.text]
def PC.Ok (c:PC):Prop:=c.bits < 18446744073709551616
def conK (n:Int):Option CK:=
 if n=1 then some .I8 else
 if n=2 then some .U8 else
 if n=3 then some .I16 else
 if n=4 then some .U16 else
 if n=5 then some .I32 else
 if n=6 then some .U32 else
 if n=7 then some .I64 else
 if n=8 then some .U64 else
 if n=9 then some .F32 else
 if n=10 then some .F64 else
 if n=11 then some .String else
 none
def CK.norm (k:CK) (b:Nat):Int:=
 match k with
 | .I8=>IntKind.i8.wrap (b:Int)
 | .U8=>IntKind.u8.wrap (b:Int)
 | .I16=>IntKind.i16.wrap (b:Int)
 | .U16=>IntKind.u16.wrap (b:Int)
 | .I32=>wrap32 (b:Int)
 | .U32=>IntKind.u32.wrap (b:Int)
 | .I64=>wrap64 (b:Int)
 | .U64=>(b:Int)
 | .F32=>IntKind.u32.wrap (b:Int)
 | .F64=>(b:Int)
 | .String=>0
def CK.txt (k:CK) (t:ByteArray):ByteArray:=
 match k with
 | .String=>t
 | _=>⟨#[]⟩
def conOf (c:PC):Option C:=(conK c.kind).map fun k=>⟨k,k.norm c.bits,k.txt c.text⟩
def optC:Option C→Value
 | none=>.nilIface
 | some c=>(O.con c).val
def GivesCon (w:World) (c:PC) (e:Ending) (w':World):Prop:=e = .returned (.tuple #[optC (conOf c),.bool (conOf c).isSome])∧Fr nope w w'
theorem run_f32 (n:Int) (W:World):(callFunc 175 #[.int .u32 n]).run Tryz.prog W = .ok (.value (.float .f32 n.toNat)) W:=by kernel_rfl
theorem run_f64 (n:Int) (W:World):(callFunc 176 #[.int .u64 n]).run Tryz.prog W = .ok (.value (.float .f64 n.toNat)) W:=by kernel_rfl
theorem constant_calls (w:World) (c:PC):Calls Tryz.prog 161 #[c.agg] w (GivesCon w c):=by
 obtain ⟨n,b,t⟩:=c
 unfold GivesCon
 simp only [PC.agg]
 by_cases h1:n=1
 ·subst h1
  go_enter Tryz.func161,Tryz.ntmps161
  go_wp2
  go_ret2
  exact ⟨rfl,(Fr.refl _ _).alloc _⟩
 by_cases h2:n=2
 ·subst h2
  go_enter Tryz.func161,Tryz.ntmps161
  go_wp2
  go_ret2
  exact ⟨rfl,(Fr.refl _ _).alloc _⟩
 by_cases h3:n=3
 ·subst h3
  go_enter Tryz.func161,Tryz.ntmps161
  go_wp2
  go_ret2
  exact ⟨rfl,(Fr.refl _ _).alloc _⟩
 by_cases h4:n=4
 ·subst h4
  go_enter Tryz.func161,Tryz.ntmps161
  go_wp2
  go_ret2
  exact ⟨rfl,(Fr.refl _ _).alloc _⟩
 by_cases h5:n=5
 ·subst h5
  go_enter Tryz.func161,Tryz.ntmps161
  go_wp2
  go_ret2
  exact ⟨rfl,(Fr.refl _ _).alloc _⟩
 by_cases h6:n=6
 ·subst h6
  go_enter Tryz.func161,Tryz.ntmps161
  go_wp2
  go_ret2
  exact ⟨rfl,(Fr.refl _ _).alloc _⟩
 by_cases h7:n=7
 ·subst h7
  go_enter Tryz.func161,Tryz.ntmps161
  go_wp2
  go_ret2
  exact ⟨rfl,(Fr.refl _ _).alloc _⟩
 by_cases h8:n=8
 ·subst h8
  go_enter Tryz.func161,Tryz.ntmps161
  go_wp2
  go_ret2
  exact ⟨rfl,(Fr.refl _ _).alloc _⟩
 by_cases h9:n=9
 ·subst h9
  have hf32:=run_f32
  go_enter Tryz.func161,Tryz.ntmps161
  go_wp2
  go_ret2
  exact ⟨rfl,(Fr.refl _ _).alloc _⟩
 by_cases h10:n=10
 ·subst h10
  have hf64:=run_f64
  go_enter Tryz.func161,Tryz.ntmps161
  go_wp2
  go_ret2
  exact ⟨rfl,(Fr.refl _ _).alloc _⟩
 by_cases h11:n=11
 ·subst h11
  go_enter Tryz.func161,Tryz.ntmps161
  go_wp2
  go_ret2
  exact ⟨rfl,(Fr.refl _ _).alloc _⟩
 have hn:conK n=none:=by simp [conK, *]
 go_enter Tryz.func161,Tryz.ntmps161
 go_wp2
 go_ret2
 refine ⟨?_,(Fr.refl _ _).alloc _⟩
 simp [conOf,hn,optC]
end
end Go.Proofs.YtpbeedabmjmdmaaGreatDoor
