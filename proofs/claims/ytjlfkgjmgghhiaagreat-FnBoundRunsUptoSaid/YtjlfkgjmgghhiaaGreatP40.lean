/- Part of the proof of a statement about pub-berthage: what its texts have in common. -/
import Derived.Test.YtjlfkgjmgghhiaaGreatP29
import Derived.Test.YtjlfkgjmgghhiaaGreatP37
import Derived.Test.YtjlfkgjmgghhiaaGreatP39
namespace Go.Proofs.YtjlfkgjmgghhiaaGreat
section
open Go Go.RowKit Bth
set_option maxRecDepth 100000
set_option maxHeartbeats 2000000 in
theorem opRegisters_calls (w:World) (p:PO) (hok:okP p=true):Calls Tryz.prog 75 #[p.agg] w (GivesGs w p.gs):=by
 have hOK:=fun W=>OpOK_calls W p
 unfold GivesB at hOK
 rw [hok] at hOK
 clear hok
 unfold PO.gs
 obtain ⟨kind,rg,hasBase,hasIndex,base,index,scale,disp,sym,static,con,label,rel⟩:=p
 simp only [PO.agg] at hOK ⊢
 by_cases h1:kind=1
 ·subst h1
  rw [if_pos rfl]
  simp only [PO.cells] at hOK ⊢
  go_enter Tryz.func75,Tryz.ntmps75
  go_wp2_with (refine wpList_loadRow (b:=w.heap.size) rfl rfl rfl (heap_alloc_new w _) Tryz.underlying121 rfl (by kernel_rfl) ?_)
  refine (hOK _).mono ?_
  rintro e w1 ⟨rfl,hf1⟩
  have hb1:=hf1.heap (heap_alloc_new w _) (fun x=>x)
  have hc1:=fun j=>cell_of_row _ _ j _ _ (0,0) hb1
  have hn1:Fr nope w w1:=((Fr.refl nope w).alloc _).then hf1
  have hs1:=hn1.size
  go_wp2_with (first
   | (refine wpList_build1 (l:=G.cells rg) rfl rfl rfl Tryz.underlying80 infoRg rfl (by omega) (by decide) ?_)
   | refine wpList_app (v:=.slice none 0 0) rfl rfl Tryz.underlying80 infoRg rfl (by omega) rfl (own_fr (own_nil w1 w.heap.size _ _) ((Fr.refl nope _).alloc _) (fun _ _ x=>x)) rfl (news:=G.cells rg) ?ha ?hb ?hc ?hd ?he ?hf ?hk)
  case ha=>rfl
  case hb=>exact fun _=>cells_new _ _ _ _ (by simp)
  case hc=>simp [G.cells,Value.oneCell']
  case hd=>simp [maxLen]
  case he=>simp
  case hf=>simp;omega
  case hk=>
   intro v2 w2 hown2 hf2 hb2
   obtain ⟨A2,c2,rfl,_,_⟩:=own_slice hown2
   clear hb2
   go_wp2
   go_ret
   exact ⟨(hn1.alloc _).then (hf2.mono (fun x _ h=>by simp [Value.ownBlock] at h)),A2,c2,rfl,hown2⟩
 by_cases h2:kind=2
 ·subst h2
  rw [if_neg (by decide),if_pos rfl]
  cases hasBase with
  | false=>
   cases hasIndex with
   | false=>
    simp only [PO.cells] at hOK ⊢
    go_enter Tryz.func75,Tryz.ntmps75
    go_wp2_with (refine wpList_loadRow (b:=w.heap.size) rfl rfl rfl (heap_alloc_new w _) Tryz.underlying121 rfl (by kernel_rfl) ?_)
    refine (hOK _).mono ?_
    rintro e w1 ⟨rfl,hf1⟩
    have hb1:=hf1.heap (heap_alloc_new w _) (fun x=>x)
    have hc1:=fun j=>cell_of_row _ _ j _ _ (0,0) hb1
    have hn1:Fr nope w w1:=((Fr.refl nope w).alloc _).then hf1
    have hs1:=hn1.size
    go_wp2
    go_ret
    exact ⟨hn1,none,0,rfl,own_nil _ _ _ _⟩
   | true=>
    simp only [PO.cells] at hOK ⊢
    go_enter Tryz.func75,Tryz.ntmps75
    go_wp2_with (refine wpList_loadRow (b:=w.heap.size) rfl rfl rfl (heap_alloc_new w _) Tryz.underlying121 rfl (by kernel_rfl) ?_)
    refine (hOK _).mono ?_
    rintro e w1 ⟨rfl,hf1⟩
    have hb1:=hf1.heap (heap_alloc_new w _) (fun x=>x)
    have hc1:=fun j=>cell_of_row _ _ j _ _ (0,0) hb1
    have hn1:Fr nope w w1:=((Fr.refl nope w).alloc _).then hf1
    have hs1:=hn1.size
    go_wp2_with (first
     | (refine wpList_build1 (l:=G.cells index) rfl rfl rfl Tryz.underlying80 infoRg rfl (by omega) (by decide) ?_)
     | refine wpList_app (v:=.slice none 0 0) rfl rfl Tryz.underlying80 infoRg rfl (by omega) rfl (own_fr (own_nil w1 w.heap.size _ _) ((Fr.refl nope _).alloc _) (fun _ _ x=>x)) rfl (news:=G.cells index) ?ha ?hb ?hc ?hd ?he ?hf ?hk)
    case ha=>rfl
    case hb=>exact fun _=>cells_new _ _ _ _ (by simp)
    case hc=>simp [G.cells,Value.oneCell']
    case hd=>simp [maxLen]
    case he=>simp
    case hf=>simp;omega
    case hk=>
     intro v2 w2 hown2 hf2 hb2
     obtain ⟨A2,c2,rfl,_,_⟩:=own_slice hown2
     clear hb2
     go_wp2
     go_ret
     exact ⟨(hn1.alloc _).then (hf2.mono (fun x _ h=>by simp [Value.ownBlock] at h)),A2,c2,rfl,hown2⟩
  | true=>
   cases hasIndex with
   | false=>
    simp only [PO.cells] at hOK ⊢
    go_enter Tryz.func75,Tryz.ntmps75
    go_wp2_with (refine wpList_loadRow (b:=w.heap.size) rfl rfl rfl (heap_alloc_new w _) Tryz.underlying121 rfl (by kernel_rfl) ?_)
    refine (hOK _).mono ?_
    rintro e w1 ⟨rfl,hf1⟩
    have hb1:=hf1.heap (heap_alloc_new w _) (fun x=>x)
    have hc1:=fun j=>cell_of_row _ _ j _ _ (0,0) hb1
    have hn1:Fr nope w w1:=((Fr.refl nope w).alloc _).then hf1
    have hs1:=hn1.size
    go_wp2_with (first
     | (refine wpList_build1 (l:=G.cells base) rfl rfl rfl Tryz.underlying80 infoRg rfl (by omega) (by decide) ?_)
     | refine wpList_app (v:=.slice none 0 0) rfl rfl Tryz.underlying80 infoRg rfl (by omega) rfl (own_fr (own_nil w1 w.heap.size _ _) ((Fr.refl nope _).alloc _) (fun _ _ x=>x)) rfl (news:=G.cells base) ?ha ?hb ?hc ?hd ?he ?hf ?hk)
    case ha=>rfl
    case hb=>exact fun _=>cells_new _ _ _ _ (by simp)
    case hc=>simp [G.cells,Value.oneCell']
    case hd=>simp [maxLen]
    case he=>simp
    case hf=>simp;omega
    case hk=>
     intro v2 w2 hown2 hf2 hb2
     obtain ⟨A2,c2,rfl,_,_⟩:=own_slice hown2
     clear hb2
     have hb3:=((Fr.refl nope w1).alloc _ |>.then (hf2.mono (fun x _ h=>by simp [Value.ownBlock] at h):Fr nope _ _)).heap hb1 (fun x=>x)
     have hc3:=fun j=>cell_of_row _ _ j _ _ (0,0) hb3
     clear hc1
     go_wp2
     go_ret
     exact ⟨(hn1.alloc _).then (hf2.mono (fun x _ h=>by simp [Value.ownBlock] at h)),A2,c2,rfl,hown2⟩
   | true=>
    simp only [PO.cells] at hOK ⊢
    go_enter Tryz.func75,Tryz.ntmps75
    go_wp2_with (refine wpList_loadRow (b:=w.heap.size) rfl rfl rfl (heap_alloc_new w _) Tryz.underlying121 rfl (by kernel_rfl) ?_)
    refine (hOK _).mono ?_
    rintro e w1 ⟨rfl,hf1⟩
    have hb1:=hf1.heap (heap_alloc_new w _) (fun x=>x)
    have hc1:=fun j=>cell_of_row _ _ j _ _ (0,0) hb1
    have hn1:Fr nope w w1:=((Fr.refl nope w).alloc _).then hf1
    have hs1:=hn1.size
    go_wp2_with (first
     | (refine wpList_build1 (l:=G.cells base) rfl rfl rfl Tryz.underlying80 infoRg rfl (by omega) (by decide) ?_)
     | refine wpList_app (v:=.slice none 0 0) rfl rfl Tryz.underlying80 infoRg rfl (by omega) rfl (own_fr (own_nil w1 w.heap.size _ _) ((Fr.refl nope _).alloc _) (fun _ _ x=>x)) rfl (news:=G.cells base) ?ha ?hb ?hc ?hd ?he ?hf ?hk)
    case ha=>rfl
    case hb=>exact fun _=>cells_new _ _ _ _ (by simp)
    case hc=>simp [G.cells,Value.oneCell']
    case hd=>simp [maxLen]
    case he=>simp
    case hf=>simp;omega
    case hk=>
     intro v2 w2 hown2 hf2 hb2
     obtain ⟨A2,c2,rfl,_,_⟩:=own_slice hown2
     clear hb2
     have hn2:=(hn1.alloc _).then (hf2.mono (fun x _ h=>by simp [Value.ownBlock] at h):Fr nope _ _)
     have hb3:=((Fr.refl nope w1).alloc _ |>.then (hf2.mono (fun x _ h=>by simp [Value.ownBlock] at h):Fr nope _ _)).heap hb1 (fun x=>x)
     have hc3:=fun j=>cell_of_row _ _ j _ _ (0,0) hb3
     have hs2:=hn2.size
     clear hc1
     go_wp2_with (first
      | (refine wpList_build1 (l:=G.cells index) rfl rfl rfl Tryz.underlying80 infoRg rfl (by omega) (by decide) ?_)
      | refine wpList_app (v:=.slice A2 1 c2) rfl rfl Tryz.underlying80 infoRg rfl (by omega) rfl (own_fr hown2 ((Fr.refl nope _).alloc _) (fun _ _ x=>x)) rfl (news:=G.cells index) ?ha ?hb ?hc ?hd ?he ?hf ?hm)
     case ha=>rfl
     case hb=>exact fun _=>cells_new _ _ _ _ (by simp)
     case hc=>simp [G.cells,Value.oneCell']
     case hd=>simp [maxLen]
     case he=>simp
     case hf=>simp;omega
     case hm=>
      intro v4 w4 hown4 hf4 hb4
      obtain ⟨A4,c4,rfl,_,_⟩:=own_slice hown4
      clear hb4
      have hbo:=own_base hown2
      go_wp2
      go_ret
      exact ⟨(hn2.alloc _).then_new hf4 (fun x hx e=>by have:=hbo x e;omega),A4,c4,rfl,hown4⟩
 rw [if_neg h1,if_neg h2]
 simp only [PO.cells] at hOK ⊢
 go_enter Tryz.func75,Tryz.ntmps75
 go_wp2_with (refine wpList_loadRow (b:=w.heap.size) rfl rfl rfl (heap_alloc_new w _) Tryz.underlying121 rfl (by kernel_rfl) ?_)
 refine (hOK _).mono ?_
 rintro e w1 ⟨rfl,hf1⟩
 have hb1:=hf1.heap (heap_alloc_new w _) (fun x=>x)
 have hc1:=fun j=>cell_of_row _ _ j _ _ (0,0) hb1
 have hn1:Fr nope w w1:=((Fr.refl nope w).alloc _).then hf1
 have hs1:=hn1.size
 go_wp2
 go_ret
 exact ⟨hn1,none,0,rfl,own_nil _ _ _ _⟩
end
section
open Go Go.RowKit Bth
set_option maxRecDepth 100000
def u0:Oper:={ dst:=some 4,op:=Op.load 121 (Operand.tmp 1),type:=121,pos := "operand.go:173",after:=#[],guard:=none }
def u1:Oper:={ dst:=some 5,op:=Op.call { callee:=Callee.value (Operand.func 75),args:=#[Operand.tmp 4],argTypes:=#[121] },type:=80,pos := "operand.go:173",after:=#[{ on:=0,ground:=Ground.data }],guard:=none }
def u2:Oper:={ dst:=some 6,op:=Op.load 121 (Operand.tmp 1),type:=121,pos := "operand.go:173",after:=#[],guard:=none }
def u3:Oper:={ dst:=some 7,op:=Op.call { callee:=Callee.value (Operand.func 99),args:=#[Operand.tmp 6],argTypes:=#[121] },type:=4,pos := "operand.go:173",after:=#[{ on:=2,ground:=Ground.data },{ on:=1,ground:=Ground.chain }],guard:=none }
def u4:Oper:={ dst:=some 2,op:=Op.assign (Operand.tmp 5),type:=80,pos := "operand.go:173",after:=#[{ on:=1,ground:=Ground.data },{ on:=3,ground:=Ground.chain },{ on:=0,ground:=Ground.phase },{ on:=1,ground:=Ground.phase },{ on:=2,ground:=Ground.textOnly Departure.lateStores },{ on:=3,ground:=Ground.textOnly Departure.lateStoresUnsure }],guard:=none }
def u5:Oper:={ dst:=some 3,op:=Op.assign (Operand.tmp 7),type:=4,pos := "operand.go:173",after:=#[{ on:=3,ground:=Ground.data },{ on:=4,ground:=Ground.chain },{ on:=0,ground:=Ground.phase },{ on:=1,ground:=Ground.phase },{ on:=2,ground:=Ground.phase },{ on:=3,ground:=Ground.phase },{ on:=4,ground:=Ground.phase }],guard:=none }
theorem PO.cells_len (p:PO):p.cells.size=24:=rfl
def regU:Array Oper:=#[u0,u1,u2,u3,u4,u5]
theorem regionU {a0:Act} {w:World} {Q:Exit→Act→World→Prop} {S:World→Prop} {b:Nat} {cs:List Value} {R1:Value→World→Prop} {R2:Value→Value→World→Prop}
  (z0:a0.tmps.size=8) (q0:a0.defers=[]) (f1:a0.eval (.tmp 1) = .pointer (some ⟨b,0,none⟩)) (hQ:∀ d v c a w,Q (.panic c) (a.put d v) w→Q (.panic c) a w)
  (hS0:S w.drew) (hr:∀ w,S w→w.rangeAt b 0 cs) (hl:(Tryz.prog.info? 121).map (·.size)=some cs.length)
  (h1:Calls Tryz.prog 75 #[.agg cs.toArray] w.drew fun e w'=>∃ x,e = .returned x∧R1 x w'∧S w')
  (h2:∀ x w1,R1 x w1→Calls Tryz.prog 99 #[.agg cs.toArray] w1 fun e w'=>∃ y,e = .returned y∧R2 x y w'∧S w')
  (h:∀ x y w2 a,R2 x y w2→a.eval (.tmp 2)=x→a.eval (.tmp 3)=y→a.defers=[]→Q .normal a w2):(Code.region 1 regU true).wp Tryz.prog Q a0 w:=by
 refine wp_region_held_drew (S:=S) (by kernel_rfl) hS0 (fun hS0=>?_)
 refine wpAnyH_take (i:=0) (oi:=u0) (v:=.agg cs.toArray) rfl (by kernel_rfl) (by kernel_rfl) (by kernel_rfl) (hQ _ _) (yieldsIf_load_mid (by rfl) _ _ rfl b 0 f1 cs _ hr Tryz.underlying121 rfl hl) hS0 ?_
 generalize e0:a0.put (u0).dst (.agg cs.toArray)=a1
 have z1:=put_sz e0 z0
 have q1:=put_df e0 q0
 have f1:=put_keep e0 (d:=4) rfl (by decide) f1
 have f4:=put_new e0 (d:=4) rfl (by rw [z0];decide)
 clear e0 z0 q0
 refine wpAnyH_take (i:=2) (oi:=u2) (v:=.agg cs.toArray) rfl (by kernel_rfl) (by kernel_rfl) (by kernel_rfl) (hQ _ _) (yieldsIf_load_mid (by rfl) _ _ rfl b 0 f1 cs _ hr Tryz.underlying121 rfl hl) hS0 ?_
 generalize e1:a1.put (u2).dst (.agg cs.toArray)=a2
 have z2:=put_sz e1 z1
 have q2:=put_df e1 q1
 have f4:=put_keep e1 (d:=6) rfl (by decide) f4
 have f6:=put_new e1 (d:=6) rfl (by rw [z1];decide)
 clear e1 z1 q1 f1
 refine wpAnyH_ready (rs:=[1]) (by kernel_rfl) (by simp) (AllReadyH.cons (o:=u1) rfl (fun K hK=>?_) AllReadyH.nil)
 rw [if_pos (show Region.wanted u1 _=true from rfl)]
 refine wp_callU rfl Tryz.func75 (by kernel_rfl) (by kernel_rfl) ?_
 simp only [List.map_toArray,List.map_cons,List.map_nil,f4]
 refine h1.mono ?_
 rintro e w1 ⟨x,rfl,r1,s1⟩
 refine hK.out _ _ s1 (fun hS1=>?_)
 generalize e2:a2.put (u1).dst x=a3
 have z3:=put_sz e2 z2
 have q3:=put_df e2 q2
 have f6:=put_keep e2 (d:=5) rfl (by decide) f6
 have f5:=put_new e2 (d:=5) rfl (by rw [z2];decide)
 clear e2 z2 q2 f4
 refine wpAnyH_ready (rs:=[3]) (by kernel_rfl) (by simp) (AllReadyH.cons (o:=u3) rfl (fun K hK=>?_) AllReadyH.nil)
 rw [if_pos (show Region.wanted u3 _=true from rfl)]
 refine wp_callU rfl Tryz.func99 (by kernel_rfl) (by kernel_rfl) ?_
 simp only [List.map_toArray,List.map_cons,List.map_nil,f6]
 refine (h2 x w1 r1).mono ?_
 rintro e w2 ⟨y,rfl,r2,s2⟩
 refine hK.out _ _ s2 (fun hS2=>?_)
 generalize e3:a3.put (u3).dst y=a4
 have z4:=put_sz e3 z3
 have q4:=put_df e3 q3
 have f5:=put_keep e3 (d:=7) rfl (by decide) f5
 have f7:=put_new e3 (d:=7) rfl (by rw [z3];decide)
 clear e3 z3 q3 f6
 refine wpAnyH_take (i:=4) (oi:=u4) (v:=x) rfl (by kernel_rfl) (by kernel_rfl) (by kernel_rfl) (hQ _ _) (Or.inl ⟨rfl,fun w hw=>by simp [execOp,u4,f5]⟩) hS2 ?_
 generalize e4:a4.put (u4).dst x=a5
 have z5:=put_sz e4 z4
 have q5:=put_df e4 q4
 have f7:=put_keep e4 (d:=2) rfl (by decide) f7
 have f2:=put_new e4 (d:=2) rfl (by rw [z4];decide)
 clear e4 z4 q4 f5
 refine wpAnyH_take (i:=5) (oi:=u5) (v:=y) rfl (by kernel_rfl) (by kernel_rfl) (by kernel_rfl) (hQ _ _) (Or.inl ⟨rfl,fun w hw=>by simp [execOp,u5,f7]⟩) hS2 ?_
 generalize e5:a5.put (u5).dst y=a6
 have q6:=put_df e5 q5
 have f2:=put_keep e5 (d:=3) rfl (by decide) f2
 have f3:=put_new e5 (d:=3) rfl (by rw [z5];decide)
 exact wpAnyH_done (by kernel_rfl) (h _ _ _ _ r2 f2 f3 q6) _
set_option maxHeartbeats 1000000 in
theorem OpRegisters_calls (w:World) (p:PO) (hok:okP p=true):Calls Tryz.prog 61 #[p.agg] w fun e w'=>Fr nope w w'∧∃ A c,e = .returned (.tuple #[.slice A p.gs.length c,.bool true])∧w'.ownsRow w.heap.size 117 4 (.slice A p.gs.length c) p.gs.length (gsCells p.gs):=by
 have hG:=fun W=>opRegisters_calls W p hok
 have hO:=fun W=>OpOK_calls W p
 unfold GivesB at hO
 rw [hok] at hO
 have hlen:=p.cells_len
 unfold PO.agg at hG hO ⊢
 generalize p.cells=cs at hG hO hlen ⊢
 go_enter Tryz.func61,Tryz.ntmps61
 go_wp2_with fail
 rename_i Q' K hK
 obtain ⟨w0,hw0⟩:∃ w0,w0=w.alloc (.cells cs 121):=⟨_,rfl⟩
 have hn0:Fr nope w w0:=by rw [hw0];exact (Fr.refl _ _).alloc _
 have hb0:w0.heap[w.heap.size]? = some (.cells cs 121 (0,0)):=by rw [hw0];exact heap_alloc_new w _
 have hl0:w.heap.size≤w0.heap.size:=hn0.size
 rw [← hw0]
 clear hw0
 have hd:Fr nope w0 w0.drew:=(Fr.refl nope w0).drew
 refine regionU (S:=fun w'=>Fr nope w0 w') (b:=w.heap.size) (cs:=cs.toList) (R1:=fun x w'=>Fr nope w0 w'∧∃ A c,x = .slice A p.gs.length c∧w'.ownsRow w.heap.size 117 4 (.slice A p.gs.length c) p.gs.length (gsCells p.gs))
  (R2:=fun x y w'=>y = .bool true∧Fr nope w0 w'∧∃ A c,x = .slice A p.gs.length c∧w'.ownsRow w.heap.size 117 4 (.slice A p.gs.length c) p.gs.length (gsCells p.gs))
  rfl rfl rfl (fun d _ _ _ _ h=>by cases d<;>simp [Q',Exit.then,bodyPost] at h) hd (fun w' hf j v hv=>?_) (by rw [Array.length_toList,hlen];kernel_rfl) ?_ ?_ ?_
 ·rw [Nat.zero_add,cell_of_row w' _ j _ _ (0,0) (hf.heap hb0 (fun x=>x))]
  simpa using hv
 ·refine (hG w0.drew).mono ?_
  rintro e w1 ⟨hf1,A1,c1,rfl,hown1⟩
  have h1:=hd.then hf1
  exact ⟨_,rfl,⟨h1,A1,c1,rfl,own_le hown1 (Nat.le_trans hl0 hd.size)⟩,h1⟩
 ·rintro x w1 ⟨hf1,A1,c1,rfl,hown1⟩
  refine (hO w1).mono ?_
  rintro e w2 ⟨rfl,hf2⟩
  exact ⟨_,rfl,⟨rfl,hf1.then hf2,A1,c1,rfl,own_fr hown1 hf2 (fun _ _ x=>x)⟩,hf1.then hf2⟩
 ·rintro x y w2 a ⟨rfl,hf2,A1,c1,rfl,hown2⟩ f2 f3 q
  refine hK _ _ (wp_ret ?_)
  have hr:=results_tmp2 (fn:=Tryz.f61) (t:=2) (u:=3) rfl a.tmps Tryz.prog w2
  rw [show a.tmps.getD 2 undef=_ from f2,show a.tmps.getD 3 undef=_ from f3] at hr
  exact bodyPost_ret hr q ⟨hn0.then hf2,A1,c1,rfl,hown2⟩
end
section
open Go Go.RowKit Bth
set_option maxRecDepth 100000
theorem PO.gs_len (p:PO):p.gs.length≤2:=by
 unfold PO.gs
 split
 ·simp
 ·split
  ·cases p.hasBase<;>cases p.hasIndex<;>simp
  ·simp
theorem gsOf_take {ps:List PO} {k:Nat} {p:PO} (h:ps[k]? = some p):gsOf (ps.take (k+1))=gsOf (ps.take k) ++ p.gs:=by
 unfold gsOf
 rw [take_snoc h,List.flatMap_append]
 simp
theorem gsCells_app (a b:List G):gsCells (a ++ b)=gsCells a ++ gsCells b:=List.flatMap_append
theorem gsCells_len (a:List G):(gsCells a).length=a.length*4:=flat_len G.cells_len a
theorem gsCells_one (a:List G):∀ u∈gsCells a,u.oneCell'=true:=by
 intro u hu
 obtain ⟨g,_,hg⟩:=List.mem_flatMap.1 hu
 simp only [G.cells,List.mem_cons,List.not_mem_nil,or_false] at hg
 rcases hg with rfl | rfl | rfl | rfl<;>rfl
theorem irRegisters_calls (w:World) (s:SV) (ps:List PO) (h:POsAt w s ps) (hok:ps.all okP=true) (hl:ps.length≤1048576):Calls Tryz.prog 74 #[s.val] w (GivesGs w (gsOf ps)):=by
 obtain ⟨A,n,c⟩:=s
 have hps:=h
 obtain ⟨rfl,_⟩:n=ps.length∧_:=h
 simp only [SV.val]
 go_enter Tryz.func74,Tryz.ntmps74
 go_wp2
 go_loopg [3,8] ps.length (fun n c3 c8 wr=>∃ (k:Nat) (A2:Option Addr) (c2:Nat) (gs:List G),k≤ps.length∧Hid (gs=gsOf (ps.take k))∧gs.length≤2*k∧c8 = .int .i64 (k:Int)∧c3 = .slice A2 gs.length c2∧wr.ownsRow w.heap.size 117 4 (.slice A2 gs.length c2) gs.length (gsCells gs)∧Fr nope w wr∧n=ps.length - k)
 case atStart=>exact ⟨0,none,0,[],Nat.zero_le _,Lib.hid rfl,Nat.le_refl _,rfl,rfl,own_nil _ _ _ _,Fr.refl _ _,rfl⟩
 case round=>
  obtain ⟨k,A2,c2,gs,hk,hgs,hgl,rfl,rfl,hown,hf,rfl⟩:=hrel
  have hsz:=hf.size
  by_cases hlt:k < ps.length
  ·obtain ⟨b,off,hAe,hbl,hc⟩:=(hps.nope hf).2 (by omega)
   simp only at hAe
   subst hAe
   obtain ⟨p,hpk⟩:∃ p,ps[k]? = some p:=⟨_,List.getElem?_eq_getElem hlt⟩
   have hc:=hc k p hpk
   have hT:=Lib.hid (gsOf_take hpk)
   have hokp:okP p=true:=List.all_eq_true.1 hok p (List.mem_of_getElem? hpk)
   have hpl:=p.gs_len
   have hbo:=own_base hown
   clear hpk hps
   go_wp2_with (first
    | (refine wpList_load_mid rfl _ _ rfl b (off+k*24) rfl p.cells.toList _ hc Tryz.underlying121 rfl (by kernel_rfl) ?_)
    | (refine wpList_storeRow (b:=wr.heap.size) (cells:=p.cells) rfl rfl rfl rfl (heap_alloc_new _ _) rfl (by kernel_rfl) (by kernel_rfl) ?_;intro w2 hb2 hf2)
    | (refine wpList_loadRow (b:=wr.heap.size) (cells:=p.cells) rfl rfl rfl hb2 Tryz.underlying121 rfl (by kernel_rfl) ?_))
   have hn2:Fr nope wr w2:=((Fr.refl nope wr).alloc _).then_new hf2 (fun x hx e=>by omega)
   refine (opRegisters_calls w2 p hokp).mono ?_
   rintro e w3 ⟨hf3,A3,c3,rfl,hown3⟩
   have hn3:=hn2.then hf3
   have hsz3:=hn3.size
   have hsrc:=(Rw.of_own hown3).src
   go_wp2_with (refine wpList_app (v:=.slice A2 gs.length c2) rfl rfl Tryz.underlying80 infoRg rfl (by omega) rfl (own_fr hown hn3 (fun _ _ x=>x)) rfl (news:=gsCells p.gs) ?ha hsrc (gsCells_one _) ?hd ?he ?hf ?hk)
   case ha=>exact gsCells_len _
   case hd=>simp only [maxLen];omega
   case he=>omega
   case hf=>omega
   case hk=>
    intro v4 w4 hown4 hf4 hb4
    obtain ⟨A4,c4,rfl,_,_⟩:=own_slice hown4
    clear hb4
    go_wp2
    go_roundg (ps.length - (k+1))
    case measure=>omega
    case rel=>exact ⟨k+1,A4,c4,gs ++ p.gs,by omega,Lib.hid (by rw [hT.out,← hgs.out]),by rw [List.length_append];omega,by go_num,by rw [List.length_append],by rw [List.length_append,gsCells_app];exact hown4,(hf.then hn3).then_new hf4 (fun x hx e=>by have:=hbo x e;omega),rfl⟩
  ·rw [take_all hlt] at hgs
   obtain rfl:=hgs.out
   go_wp2
   go_ret
   exact ⟨hf,A2,c2,rfl,hown⟩
theorem outGs_take {ps:List PO} {k:Nat} {p:PO} (h:ps[k]? = some p):outGs (ps.take (k+1))=outGs (ps.take k) ++ (if p.kind=1 then [p.reg] else []):=by
 unfold outGs
 rw [take_snoc h,List.filterMap_append]
 by_cases e:p.kind=1<;>simp [PO.asG,e]
def GivesGs2 (w:World) (gs:List G) (e:Ending) (w':World):Prop:=Fr nope w w'∧∃ A c,e = .returned (.tuple #[.slice A gs.length c,.bool true])∧w'.ownsRow w.heap.size 117 4 (.slice A gs.length c) gs.length (gsCells gs)
set_option maxHeartbeats 1000000 in
theorem spOutputRegisters_calls (w:World) (B:Nat) (p:PI) (h:p.At w B) (hok:okI p=true):Calls Tryz.prog 37 #[p.agg] w (GivesGs2 w (outGs p.out)):=by
 have hO:=fun W (hW:Fr nope w W)=>InstrOK_calls W B p (h.fr hW (fun _ _ x=>x))
 unfold GivesB at hO
 rw [hok] at hO
 have hps:=h.out
 have hl:=h.few.2.2.2.1
 have hn:p.outV.n=p.out.length:=h.out.1
 clear h
 obtain ⟨opc,⟨A1,n1,c1⟩,suf,⟨A2,n2,c2⟩,ops,⟨A3,n3,c3⟩,inp,⟨A4,n4,c4⟩,ps,term,br,cond,canc,⟨A5,n5,c5⟩,isa⟩:=p
 simp only at hl hps hn
 subst hn
 simp only [PI.agg,PI.cells,SV.val] at hO ⊢
 replace hO:=Lib.hid hO
 go_enter Tryz.func37,Tryz.ntmps37
 go_wp2_with (refine wpList_loadRow (b:=w.heap.size) rfl rfl rfl (heap_alloc_new w _) Tryz.underlying55 rfl (by kernel_rfl) ?_)
 refine (hO.out _ ((Fr.refl _ _).alloc _)).mono ?_
 rintro e w1 ⟨rfl,hf1⟩
 have hb1:=hf1.heap (heap_alloc_new w _) (fun x=>x)
 have hc1:=cell_of_row _ _ 4 _ _ (0,0) hb1
 simp only [List.getElem?_toArray,List.getElem?_cons_succ,List.getElem?_cons_zero] at hc1
 have hn1:Fr nope w w1:=((Fr.refl _ _).alloc _).then hf1
 have hps1:=hps.nope hn1
 clear hb1 hps hO
 go_wp2
 go_loopg [2,12] ps.length (fun n c3 c8 wr=>∃ (k:Nat) (A2:Option Addr) (c2:Nat) (gs:List G),k≤ps.length∧Hid (gs=outGs (ps.take k))∧gs.length≤k∧c8 = .int .i64 (k:Int)∧c3 = .slice A2 gs.length c2∧wr.ownsRow w1.heap.size 117 4 (.slice A2 gs.length c2) gs.length (gsCells gs)∧Fr nope w1 wr∧n=ps.length - k)
 case atStart=>exact ⟨0,none,0,[],Nat.zero_le _,Lib.hid rfl,Nat.le_refl _,rfl,rfl,own_nil _ _ _ _,Fr.refl _ _,rfl⟩
 case round=>
  obtain ⟨k,A2,c2,gs,hk,hgs,hgl,rfl,rfl,hown,hf,rfl⟩:=hrel
  have hsz:=hf.size
  have hsz1:=hn1.size
  by_cases hlt:k < ps.length
  ·obtain ⟨b,off,hAe,hbl,hc⟩:=(hps1.nope hf).2 (by omega)
   simp only at hAe
   subst hAe
   obtain ⟨p,hpk⟩:∃ p,ps[k]? = some p:=⟨_,List.getElem?_eq_getElem hlt⟩
   have hc:=hc k p hpk
   have hT:=Lib.hid (outGs_take hpk)
   have hbo:=own_base hown
   clear hpk hps1
   obtain ⟨kind,rg,hasBase,hasIndex,base,index,scale,disp,sym,static,con,label,rel⟩:=p
   by_cases k1:kind=1
   ·subst k1
    go_wp2_with (first
     | (refine wpList_load_mid rfl _ _ rfl b (off+k*24) rfl (PO.cells ⟨1,rg,hasBase,hasIndex,base,index,scale,disp,sym,static,con,label,rel⟩).toList _ hc Tryz.underlying121 rfl (by kernel_rfl) ?_)
     | (refine wpList_storeRow (b:=wr.heap.size) (cells:=PO.cells ⟨1,rg,hasBase,hasIndex,base,index,scale,disp,sym,static,con,label,rel⟩) rfl rfl rfl rfl (heap_alloc_new _ _) rfl (by kernel_rfl) (by kernel_rfl) ?_;intro w2 hb2 hf2;have hn2:Fr nope wr w2:=((Fr.refl nope wr).alloc _).then_new hf2 (fun x hx e=>by omega);have k0:=cell_of_row _ _ 0 _ _ (0,0) hb2;have k1:=cell_of_row _ _ 1 _ _ (0,0) hb2;have k2:=cell_of_row _ _ 2 _ _ (0,0) hb2;have k3:=cell_of_row _ _ 3 _ _ (0,0) hb2;have k4:=cell_of_row _ _ 4 _ _ (0,0) hb2;simp only [PO.cells,List.getElem?_toArray,List.getElem?_cons_zero,List.getElem?_cons_succ] at k0 k1 k2 k3 k4)
     | (refine wpList_build1 (l:=G.cells rg) rfl rfl rfl Tryz.underlying80 infoRg rfl (by omega) (by decide) ?_)
     | refine wpList_app (v:=.slice A2 gs.length c2) rfl rfl Tryz.underlying80 infoRg rfl (by omega) rfl (own_fr (own_fr hown hn2 (fun _ _ x=>x)) ((Fr.refl nope _).alloc _) (fun _ _ x=>x)) rfl (news:=G.cells rg) ?ha ?hb ?hc ?hd ?he ?hf ?hk)
    case ha=>rfl
    case hc=>simp [G.cells,Value.oneCell']
    case hd=>simp only [maxLen];omega
    case he=>omega
    case hf=>have:=hn2.size;simp;omega
    case hk=>
     intro v4 w4 hown4 hf4 hb4
     obtain ⟨A4,c4,rfl,_,_⟩:=own_slice hown4
     clear hb4
     have hsz2:=hn2.size
     go_wp2
     go_roundg (ps.length - (k+1))
     case measure=>omega
     case rel=>exact ⟨k+1,A4,c4,gs ++ [rg],by omega,Lib.hid (by rw [hT.out,← hgs.out];rfl),by simp;omega,by go_num,by simp,by rw [List.length_append,gsCells_app];simpa [gsCells] using hown4,((hf.then hn2).alloc _).then_new hf4 (fun x hx e=>by have:=hbo x e;omega),rfl⟩
   ·go_wp2_with (first
     | (refine wpList_load_mid rfl _ _ rfl b (off+k*24) rfl (PO.cells ⟨kind,rg,hasBase,hasIndex,base,index,scale,disp,sym,static,con,label,rel⟩).toList _ hc Tryz.underlying121 rfl (by kernel_rfl) ?_)
     | (refine wpList_storeRow (b:=wr.heap.size) (cells:=PO.cells ⟨kind,rg,hasBase,hasIndex,base,index,scale,disp,sym,static,con,label,rel⟩) rfl rfl rfl rfl (heap_alloc_new _ _) rfl (by kernel_rfl) (by kernel_rfl) ?_;intro w2 hb2 hf2;have k0:=cell_of_row _ _ 0 _ _ (0,0) hb2;simp only [PO.cells,List.getElem?_toArray,List.getElem?_cons_zero] at k0))
    have hn2:Fr nope wr w2:=((Fr.refl nope wr).alloc _).then_new hf2 (fun x hx e=>by omega)
    go_roundg (ps.length - (k+1))
    case measure=>omega
    case rel=>exact ⟨k+1,A2,c2,gs,by omega,Lib.hid (by rw [hT.out,← hgs.out];simp [k1]),by omega,by go_num,rfl,own_fr hown hn2 (fun _ _ x=>x),hf.then hn2,rfl⟩
  ·rw [take_all hlt] at hgs
   obtain rfl:=hgs.out
   go_wp2
   go_ret2
   exact ⟨hn1.then hf,A2,c2,rfl,own_le hown hn1.size⟩
end
end Go.Proofs.YtjlfkgjmgghhiaaGreat
