/- Part of the proof of a statement about pub-berthage: what its texts have in common. -/
import Derived.Test.YtjlfkgjmgghhiaaGreatP47
import Derived.Test.YtjlfkgjmgghhiaaGreatP48
namespace Go.Proofs.YtjlfkgjmgghhiaaGreat
section
open Go Go.RowKit Bth
set_option maxRecDepth 100000
def FewI (is:List PI):Prop:=∃ L:Nat→List Nat,(∀ k,k≤3→(L k).length≤4)∧L 0=[]∧∀ p∈is,∀ g∈p.gs,g.id∈L g.kind
def GivesF (w:World) (ns:List PN) (e:Ending) (w':World):Prop:=Fr nope w w'∧∃ b,e = .returned (.bool b)∧(b=true→FewI (insP ns))
def FInv (S:Nat→Bool) (C:Nat→Option Nat):Prop:=∃ L:Nat→List Nat,(∀ k,(L k).length=(C k).getD 0)∧∀ id,S id=true→id∈L (kindOf id)
theorem FInv.start:FInv (fun _=>false) fun _=>none:=⟨fun _=>[],fun _=>rfl,fun _ h=>by cases h⟩
theorem FInv.step {S:Nat→Bool} {C:Nat→Option Nat} (h:FInv S C) {id k:Nat} (hk:kindOf id=k):FInv (addF S id) (incC C k):=by
 obtain ⟨L,h1,h2⟩:=h
 refine ⟨fun x=>if x=k then id :: L x else L x,fun x=>?_,fun x hx=>?_⟩
 ·unfold incC
  by_cases e:x=k
  ·subst e;simp [h1 x]
  ·simp only [if_neg e];exact h1 x
 ·unfold addF at hx
  by_cases e:x=id
  ·subst e;simp [hk]
  ·rw [decide_eq_false e,Bool.false_or] at hx
   have:=h2 x hx
   show x∈if kindOf x=k then id :: L (kindOf x) else L (kindOf x)
   split
   ·exact List.mem_cons_of_mem _ this
   ·exact this
theorem incC_le {C:Nat→Option Nat} {m k:Nat} (h:∀ x,(C x).getD 0≤m):∀ x,(incC C k x).getD 0≤m+1:=fun x=>by
 unfold incC
 have h1:=h k
 have h2:=h x
 split
 ·show (C k).getD 0+1≤m+1;omega
 ·omega
theorem addF_mono {S:Nat→Bool} {id x:Nat} (h:S x=true):addF S id x=true:=by unfold addF;rw [h,Bool.or_true]
theorem addF_self {S:Nat→Bool} {id:Nat} : addF S id id=true:=by simp [addF]
theorem FInv.few {is:List PI} {S:Nat→Bool} {C:Nat→Option Nat} (h:FInv S C) (hs:∀ p∈is,∀ g∈p.gs,S g.id=true) (hk:∀ p∈is,∀ g∈p.gs,kindOf g.id=g.kind) (h0:(C 0).getD 0=0) (h1:(C 1).getD 0≤4) (h2:(C 2).getD 0≤4) (h3:(C 3).getD 0≤4):FewI is:=by
 obtain ⟨L,a,b⟩:=h
 refine ⟨L,fun k hk=>?_,List.eq_nil_of_length_eq_zero (by rw [a,h0]),fun p hp g hg=>?_⟩
 ·rw [a]
  have:k=0∨k=1∨k=2∨k=3:=by omega
  rcases this with rfl | rfl | rfl | rfl<;>omega
 ·have:=b _ (hs p hp g hg)
  rw [hk p hp g hg] at this
  exact this
def two (a b:Nat):Nat→Prop:=fun x=>x=a∨x=b
theorem noT_two {T:List TypeId} {w:World} {a b:Nat} (h1:NoT T w (fun x=>x=a)) (h2:NoT T w (fun x=>x=b)):NoT T w (two a b):=by
 rintro x cs t fr (h | h) hx
 ·exact h1 x cs t fr h hx
 ·exact h2 x cs t fr h hx
theorem gs_okG {p:PI} (h:p.Ok):∀ g∈p.gs,g.Ok:=fun g hg=>by
 unfold PI.gs at hg
 rcases List.mem_append.1 hg with hg | hg
 ·rcases List.mem_append.1 hg with hg | hg
  ·exact gsOf_ok h.ops g hg
  ·exact gsOf_ok h.inp g hg
 ·exact gsOf_ok h.out g hg
set_option maxHeartbeats 4000000 in
theorem few_calls (w:World) (B:Nat) (s:SV) (ns:List PN) (hN:NodesAt w B s ns) (hok:ns.all okN=true) (hB:B≤w.heap.size):Calls Tryz.prog 28 #[s.val] w (GivesF w ns):=by
 have hI:=fun W (hW:Fr nope w W)=>Instrs_calls W B s ns (hN.fr hW (fun _ _ x=>x))
 have hat:=insP_at hN hok
 have hmm:=@run_makeMap Tryz.prog
 have hlen:(insP ns).length≤1048576:=by
  have h1:=hN.few
  have:(insP ns).length≤ns.length:=by unfold insP;rw [List.length_map];exact List.length_filter_le _ _
  omega
 obtain ⟨A,n,c⟩:=s
 simp only [SV.val] at hI ⊢
 clear hN hok
 replace hI:=Lib.hid hI
 replace hat:=Lib.hid hat
 go_enter Tryz.func28,Tryz.ntmps28
 go_wp2_with fail
 refine (hI.out _ (((Fr.refl nope w).alloc _).alloc _)).mono ?_
 rintro e w4 ⟨hf4,Aa,ca,rfl,hins⟩
 have hS4:SM w4 w.heap.size fun _=>false:=(SM.made w).fr (((Fr.refl nope _).alloc _).then hf4) (fun x=>x)
 have hC4:CM w4 (w.heap.size+1) fun _=>none:=by
  have:=(CM.made (w.alloc (.map #[] 0))).fr hf4 (fun x=>x)
  rw [show (w.alloc (.map #[] 0)).heap.size=w.heap.size+1 by simp] at this
  exact this
 have hn4:=(((Fr.refl nope w).alloc _).alloc _).then hf4
 obtain ⟨is,his⟩:∃ is,is=insP ns:=⟨_,rfl⟩
 rw [← his] at hins hlen hat ⊢
 replace his:=Lib.hid his
 obtain ⟨bs,hbs⟩:∃ x,x=w.heap.size:=⟨_,rfl⟩
 obtain ⟨bc,hbc⟩:∃ x,x=w.heap.size+1:=⟨_,rfl⟩
 rw [← hbc] at hC4 ⊢
 rw [← hbs] at hS4 ⊢
 have hne:bs≠bc:=by omega
 have hBs:B≤bs:=by omega
 have hBc:B≤bc:=by omega
 have hnew:∀ x,x < w.heap.size→¬two bs bc x:=fun x hx e=>by rcases e with e | e<;>omega
 replace hnew:=Lib.hid hnew
 clear hbs hbc
 have hM4:NoT [55] w4 (two bs bc):=noT_two hS4.noT hC4.noT
 have hlt4:=hS4.lt
 have hlc4:=hC4.lt
 go_wp2
 go_loopg [15] is.length (fun m c15 wx=>∃ (k:Nat) (S:Nat→Bool) (C:Nat→Option Nat),k≤is.length∧c15 = .int .i64 (k:Int)∧SM wx bs S∧CM wx bc C∧Hid (FInv S C∧∀ p∈is.take k,∀ g∈p.gs,S g.id=true)∧Hid (∀ x,(C x).getD 0≤6291456*k)∧Fr (two bs bc) w4 wx∧m=is.length - k)
 case atStart=>exact ⟨0,_,_,Nat.zero_le _,rfl,hS4,hC4,Lib.hid ⟨FInv.start,by simp⟩,Lib.hid (fun _=>Nat.le_refl _),Fr.refl _ _,rfl⟩
 case round=>
  clear hS4 hC4
  obtain ⟨k,S,C,hk,rfl,hS,hC,hF,hbd,hf,rfl⟩:=hrel
  by_cases hlt:k < is.length
  ·obtain ⟨p,hx⟩:∃ x,is[k]? = some x:=⟨_,List.getElem?_eq_getElem hlt⟩
   obtain ⟨b,off,hBe,hbl,hr⟩:=(hins.frT hf hM4).at_ PI.list_len hx
   subst hBe
   obtain ⟨hpa,hpo⟩:=hat.out p (List.mem_of_getElem? hx)
   have hpa:=hpa.fr (hn4.trans hf (U:=two bs bc) (fun _ _ e=>e.elim) (fun _ _ e=>e)) (fun x hx e=>by rcases e with e | e<;>omega)
   have hT:=Lib.hid (take_snoc hx)
   replace hx:=Lib.hid hx
   have hszr:=hf.size
   have hgl:p.gs.length≤6291456:=PI.gs_few hpa
   have hgk:=Lib.hid (gs_okG (PI.ok_of hpa))
   go_wp2_with (first
    | (refine wpList_load_mid rfl _ _ rfl b (off+k*10) rfl p.cells.toList _ hr Tryz.underlying55 rfl (by kernel_rfl) ?_)
    | (refine wpList_storeRow (b:=wr.heap.size) (cells:=p.cells) rfl rfl rfl rfl (heap_alloc_new _ _) rfl (by kernel_rfl) (by kernel_rfl) ?_;intro w5 hb5 hf5)
    | (refine wpList_loadRow (b:=wr.heap.size) (cells:=p.cells) rfl rfl rfl hb5 Tryz.underlying55 rfl (by kernel_rfl) ?_))
   have hn5:Fr nope wr w5:=((Fr.refl nope wr).alloc _).then_new hf5 (fun x hx e=>by omega)
   refine (all_calls w5 B p (hpa.fr hn5 (fun _ _ x=>x)) hpo).mono ?_
   rintro e w6 ⟨hf6,Ag,cg,rfl,hown6⟩
   have hn6:=hn5.then hf6
   have hrow:=Rw.of_own hown6
   have hS6:=hS.fr hn6 (fun x=>x)
   have hC6:=hC.fr hn6 (fun x=>x)
   have hM6:NoT [117] w6 (two bs bc):=noT_two hS6.noT hC6.noT
   have hf6':Fr (two bs bc) w4 w6:=hf.trans hn6 (fun _ _ e=>e) (fun _ _ e=>e.elim)
   have hF6:Hid (FInv S C∧(∀ p∈is.take k,∀ g∈p.gs,S g.id=true)∧∀ g∈p.gs.take 0,S g.id=true):=Lib.hid ⟨hF.out.1,hF.out.2,by simp⟩
   clear hb5 hf5 hr hown6 hpa hn5 hf6 hn6 hS hC hf hF
   go_wp2
   go_loopg [22] p.gs.length (fun m c22 wx=>∃ (i:Nat) (S:Nat→Bool) (C:Nat→Option Nat),i≤p.gs.length∧c22 = .int .i64 (i:Int)∧SM wx bs S∧CM wx bc C∧Hid (FInv S C∧(∀ p∈is.take k,∀ g∈p.gs,S g.id=true)∧∀ g∈p.gs.take i,S g.id=true)∧Hid (∀ x,(C x).getD 0≤6291456*k+i)∧Fr (two bs bc) w6 wx∧m=p.gs.length - i)
   case atStart=>exact ⟨0,S,C,Nat.zero_le _,rfl,hS6,hC6,hF6,hbd,Fr.refl _ _,rfl⟩
   case round=>
    clear hS6 hC6 hF6 hbd
    obtain ⟨i,S,C,hi,rfl,hS,hC,hF,hbd,hf,rfl⟩:=hrel
    by_cases hil:i < p.gs.length
    ·obtain ⟨g,hg⟩:∃ g,p.gs[i]? = some g:=⟨_,List.getElem?_eq_getElem hil⟩
     obtain ⟨br,ro,hRe,hrb,hrr⟩:=(hrow.frT hf hM6 (by decide)).at_ G.cells_len hg
     subst hRe
     have hTg:=Lib.hid (take_snoc hg)
     have hgo:=hgk.out g (List.mem_of_getElem? hg)
     have hki:=Lib.hid (G.kind_id hgo)
     replace hg:=Lib.hid hg
     have hszi:=hf.size
     go_wp2_with (first
       | (refine wpList_load_mid rfl _ _ rfl br (ro+i*4) rfl g.cells _ hrr Tryz.underlying117 rfl (by kernel_rfl) ?_)
       | (refine wpList_storeRow (b:=wr.heap.size) (cells:=#[.bool g.virt,.int .u8 (g.kind:Int),.int .u16 (g.idx:Int),.int .u16 (g.spec:Int)]) rfl rfl rfl rfl (heap_alloc_new _ _) rfl (by kernel_rfl) (by kernel_rfl) ?_;intro w8 hb8 hf8)
       | (refine wpList_loadRow (b:=wr.heap.size) (cells:=#[.bool g.virt,.int .u8 (g.kind:Int),.int .u16 (g.idx:Int),.int .u16 (g.spec:Int)]) rfl rfl rfl hb8 Tryz.underlying117 rfl (by kernel_rfl) ?_))
     have hn8:Fr nope wr w8:=((Fr.refl nope wr).alloc _).then_new hf8 (fun x hx e=>by omega)
     refine (RegID_calls w8 g hgo).mono ?_
     rintro e w9 ⟨rfl,hf9⟩
     have hn9:=hn8.then hf9
     have hb9:=hf9.heap hb8 (fun x=>x)
     have hS9:=hS.fr hn9 (fun x=>x)
     have hC9:=hC.fr hn9 (fun x=>x)
     have hk9:w9.cell? ⟨wr.heap.size,1,none⟩=some (.int .u8 (g.kind:Int)):=cell_of_row _ _ 1 _ _ (0,0) hb9
     have hlS:=hS9.look g.id
     have hln:=hS.lt
     have hlm:=hC.lt
     cases hs:S g.id with
     | true=>
      rw [hs] at hlS
      replace hs:=Lib.hid hs
      clear hb8 hb9 hgo
      go_wp2
      go_roundg (p.gs.length - (i+1))
      case measure=>omega
      case rel=>exact ⟨i+1,S,C,by omega,by go_num,hS9,hC9,Lib.hid ⟨hF.out.1,hF.out.2.1,by rw [hTg.out];exact all_snoc (P:=fun x:G=>S x.id=true) hF.out.2.2 hs.out⟩,Lib.hid (fun x=>by have:=hbd.out x;omega),hf.trans hn9 (fun _ _ e=>e) (fun _ _ e=>e.elim),rfl⟩
     | false=>
      rw [hs] at hlS
      replace hs:=Lib.hid hs
      obtain ⟨w10,hu10,hS10,hf10,hz10⟩:=hS9.put g.id
      have hC10:=hC9.fr hf10 (fun e=>hne e.symm)
      have hlC:=hC10.look g.kind
      have hcb:=hbd.out g.kind
      obtain ⟨cnt,hcnt⟩:∃ x,x=(C g.kind).getD 0:=⟨_,rfl⟩
      rw [← hcnt] at hlC hcb
      obtain ⟨w11,hu11,hC11,hf11,hz11⟩:=hC10.put g.kind (z:=(cnt:Int)+1) (by omega)
      have e64:wrap64 ((cnt:Int)+1)=(cnt:Int)+1:=by unfold wrap64;omega
      replace hcnt:=Lib.hid hcnt
      have hS11:=hS10.fr hf11 hne
      have hk10:=hf10.cell hk9 (fun (e:wr.heap.size=bs)=>by omega)
      clear hb8 hb9 hgo hS9 hC9 hS10 hC10
      go_wp2
      go_roundg (p.gs.length - (i+1))
      case measure=>omega
      case rel=>exact ⟨i+1,addF S g.id,incC C g.kind,by omega,by go_num,hS11,hC11,Lib.hid ⟨hF.out.1.step hki.out,fun p hp g' hg'=>addF_mono (hF.out.2.1 p hp g' hg'),by rw [hTg.out];exact all_snoc (P:=fun x:G=>addF S g.id x.id=true) (fun x hx=>addF_mono (hF.out.2.2 x hx)) addF_self⟩,Lib.hid (incC_le hbd.out),((hf.trans hn9 (U:=two bs bc) (fun _ _ e=>e) (fun _ _ e=>e.elim)).trans hf10 (U:=two bs bc) (fun _ _ e=>e) (fun _ _ e=>.inl e)).trans hf11 (fun _ _ e=>e) (fun _ _ e=>.inr e),rfl⟩
    ·rw [take_all hil] at hF
     go_wp2
     go_roundg (is.length - (k+1))
     case measure=>omega
     case rel=>exact ⟨k+1,S,C,by omega,by go_num,hS,hC,Lib.hid ⟨hF.out.1,by rw [hT.out];exact all_snoc (P:=fun p:PI=>∀ g∈p.gs,S g.id=true) hF.out.2.1 hF.out.2.2⟩,Lib.hid (fun x=>by have:=hbd.out x;omega),hf6'.then hf,rfl⟩
  ·rw [take_all hlt] at hF
   have hl0:(Instr.lookup 135 (.map (some bc)) (.int .u8 0) false).run Tryz.prog wr = .ok (.int .i64 (((C 0).getD 0:Nat):Int)) wr:=hC.look 0
   have hl1:(Instr.lookup 135 (.map (some bc)) (.int .u8 1) false).run Tryz.prog wr = .ok (.int .i64 (((C 1).getD 0:Nat):Int)) wr:=hC.look 1
   have hl2:(Instr.lookup 135 (.map (some bc)) (.int .u8 2) false).run Tryz.prog wr = .ok (.int .i64 (((C 2).getD 0:Nat):Int)) wr:=hC.look 2
   have hl3:(Instr.lookup 135 (.map (some bc)) (.int .u8 3) false).run Tryz.prog wr = .ok (.int .i64 (((C 3).getD 0:Nat):Int)) wr:=hC.look 3
   have hfew:=Lib.hid (fun h0 h1 h2 h3=>hF.out.1.few hF.out.2 (fun p hp g hg=>G.kind_id (gs_okG (PI.ok_of (hat.out p hp).1) g hg)) h0 h1 h2 h3)
   generalize (C 0).getD 0=c0 at hl0 hfew
   generalize (C 1).getD 0=c1 at hl1 hfew
   generalize (C 2).getD 0=c2 at hl2 hfew
   generalize (C 3).getD 0=c3 at hl3 hfew
   have hend:Fr nope w wr:=hn4.then_new hf hnew.out
   by_cases h0:c0=0
   ·subst h0
    by_cases h1:(c1:Int)≤4
    ·by_cases h2:(c2:Int)≤4
     ·by_cases h3:(c3:Int)≤4
      ·have hfin:=Lib.hid (hfew.out rfl (by omega) (by omega) (by omega))
       go_wp2
       go_ret
       exact ⟨hend,true,rfl,fun _=>by rw [← his.out];exact hfin.out⟩
      ·have d:=decide_eq_false h3
       go_wp2
       go_ret
       exact ⟨hend,false,rfl,fun h=>by cases h⟩
     ·have d:=decide_eq_false h2
      go_wp2
      go_ret
      exact ⟨hend,false,rfl,fun h=>by cases h⟩
    ·have d:=decide_eq_false h1
     go_wp2
     go_ret
     exact ⟨hend,false,rfl,fun h=>by cases h⟩
   ·have h0':((c0:Int) == 0)=false:=beq_eq_false_iff_ne.2 (by omega)
    clear h0
    go_wp2
    go_ret
    exact ⟨hend,false,rfl,fun h=>by cases h⟩
end
section
open Go Go.RowKit Bth
set_option maxRecDepth 100000
def GivesAny (w:World) (e:Ending) (w':World):Prop:=Fr nope w w'∧∃ b,e = .returned (.bool b)
theorem zz11_calls (w:World) (c:PC):Calls Tryz.prog 164 #[c.agg] w (GivesAny w):=by
 obtain ⟨k,b,t⟩:=c
 unfold PC.agg
 by_cases h:(2147483647:Int) < (t.size:Int)
 ·go_enter Tryz.func164,Tryz.ntmps164
  go_wp2_with fail
  go_ret
  exact ⟨(Fr.refl _ _).alloc _,_,rfl⟩
 ·go_enter Tryz.func164,Tryz.ntmps164
  go_wp2_with fail
  go_ret
  exact ⟨(Fr.refl _ _).alloc _,_,rfl⟩
set_option maxHeartbeats 1000000 in
theorem zz10_calls (w:World) (p:PO):Calls Tryz.prog 134 #[p.agg] w (GivesAny w):=by
 have hb:=heap_alloc_new w (.cells p.cells 121)
 have hc8:(w.alloc (.cells p.cells 121)).cell? ⟨w.heap.size,17,none⟩=some (.string p.sym):=cell_of_row _ _ 17 _ _ (0,0) hb
 have hc11:(w.alloc (.cells p.cells 121)).cell? ⟨w.heap.size,22,none⟩=some (.string p.label):=cell_of_row _ _ 22 _ _ (0,0) hb
 have hcc:(w.alloc (.cells p.cells 121)).rangeAt w.heap.size 19 [.int .i64 p.con.kind,.int .u64 (p.con.bits:Int),.string p.con.text]:=fun j v hj=>by
  rcases j with _ | _ | _ | j
  ·injection hj with hj;subst hj;exact cell_of_row _ _ 19 _ _ (0,0) hb
  ·injection hj with hj;subst hj;exact cell_of_row _ _ 20 _ _ (0,0) hb
  ·injection hj with hj;subst hj;exact cell_of_row _ _ 21 _ _ (0,0) hb
  ·simp at hj
 have hZ:=zz11_calls (w.alloc (.cells p.cells 121)) p.con
 unfold PC.agg at hZ
 clear hb
 unfold PO.agg
 by_cases h:(2147483647:Int) < (p.sym.size:Int)
 ·go_enter Tryz.func134,Tryz.ntmps134
  go_wp2_with fail
  go_ret
  exact ⟨(Fr.refl _ _).alloc _,_,rfl⟩
 ·go_enter Tryz.func134,Tryz.ntmps134
  go_wp2_with (refine wpList_load_mid rfl _ _ rfl w.heap.size 19 rfl _ _ hcc Tryz.underlying119 rfl (by kernel_rfl) ?_)
  refine hZ.mono ?_
  rintro e w1 ⟨hf1,b,rfl⟩
  have hc1:=hf1.cell hc11 (fun x=>x)
  have hn1:=((Fr.refl nope w).alloc (.cells p.cells 121)).then hf1
  clear hc8 hc11 hcc
  cases b with
  | false=>
   go_wp2
   go_ret
   exact ⟨hn1,_,rfl⟩
  | true=>
   by_cases h2:(2147483647:Int) < (p.label.size:Int)
   ·go_wp2
    go_ret
    exact ⟨hn1,_,rfl⟩
   ·go_wp2
    go_ret
    exact ⟨hn1,_,rfl⟩
set_option maxHeartbeats 1000000 in
theorem zz9_calls (w:World) (s:SV) (ps:List PO) (h:POsAt w s ps) (hl:ps.length≤1048576):Calls Tryz.prog 96 #[s.val] w (GivesAny w):=by
 obtain ⟨A,n,c⟩:=s
 have hps:=h
 obtain ⟨rfl,_⟩:n=ps.length∧_:=h
 simp only [SV.val]
 go_enter Tryz.func96,Tryz.ntmps96
 go_wp2
 go_loopg [10] ps.length (fun n c8 wr=>∃ k:Nat,k≤ps.length∧c8 = .int .i64 (k:Int)∧Fr nope w wr∧n=ps.length - k)
 case atStart=>exact ⟨0,Nat.zero_le _,rfl,Fr.refl _ _,rfl⟩
 case round=>
  obtain ⟨k,hk,rfl,hf,rfl⟩:=hrel
  have hsz:=hf.size
  by_cases hlt:k < ps.length
  ·obtain ⟨b,off,hAe,hbl,hc⟩:=(hps.nope hf).2 (by omega)
   simp only at hAe
   subst hAe
   obtain ⟨p,hpk⟩:∃ p,ps[k]? = some p:=⟨_,List.getElem?_eq_getElem hlt⟩
   have hc:=hc k p hpk
   clear hpk hps
   go_wp2_with (first
    | (refine wpList_load_mid rfl _ _ rfl b (off+k*24) rfl p.cells.toList _ hc Tryz.underlying121 rfl (by kernel_rfl) ?_)
    | (refine wpList_storeRow (b:=wr.heap.size) (cells:=p.cells) rfl rfl rfl rfl (heap_alloc_new _ _) rfl (by kernel_rfl) (by kernel_rfl) ?_;intro w2 hb2 hf2)
    | (refine wpList_loadRow (b:=wr.heap.size) (cells:=p.cells) rfl rfl rfl hb2 Tryz.underlying121 rfl (by kernel_rfl) ?_))
   have hn2:Fr nope wr w2:=((Fr.refl nope wr).alloc _).then_new hf2 (fun x hx e=>by omega)
   refine (zz10_calls w2 p).mono ?_
   rintro e w3 ⟨hf3,b,rfl⟩
   have hn3:=hf.then (hn2.then hf3)
   cases b with
   | false=>
    go_wp2
    go_ret
    exact ⟨hn3,_,rfl⟩
   | true=>
    go_wp2
    go_roundg (ps.length - (k+1))
    case measure=>omega
    case rel=>exact ⟨k+1,by omega,by go_num,hn3,rfl⟩
  ·go_wp2
   go_ret
   exact ⟨hf,_,rfl⟩
set_option maxHeartbeats 1000000 in
theorem zz7_calls (w:World) (s:SV) (l:List ByteArray) (h:StrsAt w s l) (hl:l.length≤1048576):Calls Tryz.prog 57 #[s.val] w (GivesAny w):=by
 obtain ⟨A,n,c⟩:=s
 have hps:=h
 obtain ⟨rfl,_⟩:n=l.length∧_:=h
 simp only [SV.val]
 go_enter Tryz.func57,Tryz.ntmps57
 go_wp2
 go_loopg [10] l.length (fun n c8 wr=>∃ k:Nat,k≤l.length∧c8 = .int .i64 (k:Int)∧Fr nope w wr∧n=l.length - k)
 case atStart=>exact ⟨0,Nat.zero_le _,rfl,Fr.refl _ _,rfl⟩
 case round=>
  obtain ⟨k,hk,rfl,hf,rfl⟩:=hrel
  have hsz:=hf.size
  by_cases hlt:k < l.length
  ·obtain ⟨x,hxk⟩:∃ x,l[k]? = some x:=⟨_,List.getElem?_eq_getElem hlt⟩
   obtain ⟨b,off,u,hAe,hbl,hu,hc⟩:=(hps.fr hf (fun _ _ _ _ e=>e)).2.at_ hlt
   simp only at hAe
   subst hAe
   rw [List.getElem?_map,hxk] at hu
   injection hu with hu
   subst hu
   clear hps hxk
   by_cases h2:(2147483647:Int) < (x.size:Int)
   ·go_wp2
    go_ret
    exact ⟨hf,_,rfl⟩
   ·go_wp2
    go_roundg (l.length - (k+1))
    case measure=>omega
    case rel=>exact ⟨k+1,by omega,by go_num,hf,rfl⟩
  ·go_wp2
   go_ret
   exact ⟨hf,_,rfl⟩
end
section
open Go Go.RowKit Bth
set_option maxRecDepth 100000
set_option maxHeartbeats 4000000 in
theorem zz8_calls (w:World) (B:Nat) (p:PI) (h:p.At w B):Calls Tryz.prog 58 #[p.agg] w (GivesAny w):=by
 have h7s:=fun W (hW:Fr nope w W)=>zz7_calls W p.sufV p.suf (h.fr hW (fun _ _ x=>x)).suf h.few.1
 have h7i:=fun W (hW:Fr nope w W)=>zz7_calls W p.isaV p.isa (h.fr hW (fun _ _ x=>x)).isa h.few.2.2.2.2
 have h9a:=fun W (hW:Fr nope w W)=>zz9_calls W p.opsV p.ops (h.fr hW (fun _ _ x=>x)).ops h.few.2.1
 have h9b:=fun W (hW:Fr nope w W)=>zz9_calls W p.inpV p.inp (h.fr hW (fun _ _ x=>x)).inp h.few.2.2.1
 have h9c:=fun W (hW:Fr nope w W)=>zz9_calls W p.outV p.out (h.fr hW (fun _ _ x=>x)).out h.few.2.2.2.1
 clear h
 obtain ⟨opc,⟨A1,n1,c1⟩,suf,⟨A2,n2,c2⟩,ops,⟨A3,n3,c3⟩,inp,⟨A4,n4,c4⟩,ps,term,br,cond,canc,⟨A5,n5,c5⟩,isa⟩:=p
 simp only [PI.agg,PI.cells,SV.val] at h7s h7i h9a h9b h9c ⊢
 have hb0:=heap_alloc_new w (.cells #[.string opc,.slice A1 n1 c1,.slice A2 n2 c2,.slice A3 n3 c3,.slice A4 n4 c4,.bool term,.bool br,.bool cond,.bool canc,.slice A5 n5 c5] 55)
 have hn0:=(Fr.refl nope w).alloc (.cells #[.string opc,.slice A1 n1 c1,.slice A2 n2 c2,.slice A3 n3 c3,.slice A4 n4 c4,.bool term,.bool br,.bool cond,.bool canc,.slice A5 n5 c5] 55)
 replace h7s:=Lib.hid h7s
 replace h7i:=Lib.hid h7i
 replace h9a:=Lib.hid h9a
 replace h9b:=Lib.hid h9b
 replace h9c:=Lib.hid h9c
 replace hb0:=Lib.hid hb0
 by_cases h:(2147483647:Int) < (opc.size:Int)
 ·go_enter Tryz.func58,Tryz.ntmps58
  go_wp2_with fail
  go_ret
  exact ⟨hn0,_,rfl⟩
 ·go_enter Tryz.func58,Tryz.ntmps58
  go_wp2_with fail
  refine (h7s.out _ hn0).mono ?_
  rintro e w1 ⟨hf1,b,rfl⟩
  have hn1:=hn0.then hf1
  have hb1:=Lib.hid (hf1.heap hb0.out (fun x=>x))
  have hc:=cell_of_row _ _ 2 _ _ (0,0) hb1.out
  replace hc:w1.cell? ⟨w.heap.size,2,none⟩=some (.slice A2 n2 c2):=hc
  cases b with
  | false=>
   go_wp2
   go_ret
   exact ⟨hn1,_,rfl⟩
  | true=>
  go_wp2_with fail
  clear hc
  refine (h9a.out _ hn1).mono ?_
  rintro e w2 ⟨hf2,b,rfl⟩
  have hn2:=hn1.then hf2
  have hb2:=Lib.hid (hf2.heap hb1.out (fun x=>x))
  have hc:=cell_of_row _ _ 3 _ _ (0,0) hb2.out
  replace hc:w2.cell? ⟨w.heap.size,3,none⟩=some (.slice A3 n3 c3):=hc
  cases b with
  | false=>
   go_wp2
   go_ret
   exact ⟨hn2,_,rfl⟩
  | true=>
  go_wp2_with fail
  clear hc
  refine (h9b.out _ hn2).mono ?_
  rintro e w3 ⟨hf3,b,rfl⟩
  have hn3:=hn2.then hf3
  have hb3:=Lib.hid (hf3.heap hb2.out (fun x=>x))
  have hc:=cell_of_row _ _ 4 _ _ (0,0) hb3.out
  replace hc:w3.cell? ⟨w.heap.size,4,none⟩=some (.slice A4 n4 c4):=hc
  cases b with
  | false=>
   go_wp2
   go_ret
   exact ⟨hn3,_,rfl⟩
  | true=>
  go_wp2_with fail
  clear hc
  refine (h9c.out _ hn3).mono ?_
  rintro e w4 ⟨hf4,b,rfl⟩
  have hn4:=hn3.then hf4
  have hb4:=Lib.hid (hf4.heap hb3.out (fun x=>x))
  have hc:=cell_of_row _ _ 9 _ _ (0,0) hb4.out
  replace hc:w4.cell? ⟨w.heap.size,9,none⟩=some (.slice A5 n5 c5):=hc
  cases b with
  | false=>
   go_wp2
   go_ret
   exact ⟨hn4,_,rfl⟩
  | true=>
  go_wp2_with fail
  clear hc
  refine (h7i.out _ hn4).mono ?_
  rintro e w5 ⟨hf5,b,rfl⟩
  have hn5:=hn4.then hf5
  have hb5:=Lib.hid (hf5.heap hb4.out (fun x=>x))
  cases b with
  | false=>
   go_wp2
   go_ret
   exact ⟨hn5,_,rfl⟩
  | true=>
  go_wp2
  go_ret
  exact ⟨hn5,_,rfl⟩
theorem pn_ins (p:PN):∀ (j:Nat) (v:Value),p.ins.cells.toList[j]? = some v→p.cells[3+j]? = some v:=fun j v h=>by
 rcases j with _ | _ | _ | _ | _ | _ | _ | _ | _ | _ | j
 all_goals first
  | exact h
  | (simp [PI.cells] at h)
set_option maxHeartbeats 4000000 in
theorem zz6_calls (w:World) (B:Nat) (p:PN) (h:p.At w B):Calls Tryz.prog 25 #[p.agg] w (GivesAny w):=by
 have h7:=fun W (hW:Fr nope w W)=>zz7_calls W p.linesV p.lines (h.fr hW (fun _ _ x=>x)).lines h.few
 have h8:=fun W (hW:Fr nope w W)=>zz8_calls W B p.ins (h.fr hW (fun _ _ x=>x)).ins
 have hb0:=heap_alloc_new w (.cells p.cells 57)
 have hn0:=(Fr.refl nope w).alloc (.cells p.cells 57)
 have hc1:(w.alloc (.cells p.cells 57)).cell? ⟨w.heap.size,1,none⟩=some (.string p.label):=cell_of_row _ _ 1 _ _ (0,0) hb0
 have hc2:(w.alloc (.cells p.cells 57)).cell? ⟨w.heap.size,2,none⟩=some p.linesV.val:=cell_of_row _ _ 2 _ _ (0,0) hb0
 clear h
 unfold SV.val at hc2 h7
 replace h7:=Lib.hid h7
 replace h8:=Lib.hid h8
 replace hb0:=Lib.hid hb0
 unfold PN.agg
 by_cases h:(2147483647:Int) < (p.label.size:Int)
 ·go_enter Tryz.func25,Tryz.ntmps25
  go_wp2_with fail
  go_ret
  exact ⟨hn0,_,rfl⟩
 ·go_enter Tryz.func25,Tryz.ntmps25
  go_wp2_with fail
  refine (h7.out _ hn0).mono ?_
  rintro e w1 ⟨hf1,b,rfl⟩
  have hn1:=hn0.then hf1
  have hb1:=hf1.heap hb0.out (fun x=>x)
  have hr:w1.rangeAt w.heap.size 3 p.ins.cells.toList:=fun j v hj=>by
   rw [cell_of_row _ _ (3+j) _ _ (0,0) hb1]
   exact pn_ins p j v hj
  clear hc1 hc2 hb1
  cases b with
  | false=>
   go_wp2
   go_ret
   exact ⟨hn1,_,rfl⟩
  | true=>
   go_wp2_with (refine wpList_load_mid rfl _ _ rfl w.heap.size 3 rfl p.ins.cells.toList _ hr Tryz.underlying55 rfl (by kernel_rfl) ?_)
   refine (h8.out _ hn1).mono ?_
   rintro e w2 ⟨hf2,b,rfl⟩
   have hn2:=hn1.then hf2
   clear hr
   cases b with
   | false=>
    go_wp2
    go_ret
    exact ⟨hn2,_,rfl⟩
   | true=>
    go_wp2
    go_ret
    exact ⟨hn2,_,rfl⟩
set_option maxHeartbeats 4000000 in
theorem zz5_calls (w:World) (B:Nat) (s:SV) (ns:List PN) (hN:NodesAt w B s ns):Calls Tryz.prog 7 #[s.val] w (GivesAny w):=by
 obtain ⟨A,n,c⟩:=s
 obtain rfl:n=ns.length:=hN.len
 have hfew:=hN.few
 simp only [SV.val]
 go_enter Tryz.func7,Tryz.ntmps7
 go_wp2
 go_loopg [10] ns.length (fun n c7 wr=>∃ k:Nat,k≤ns.length∧c7 = .int .i64 (k:Int)∧Fr nope w wr∧n=ns.length - k)
 case atStart=>exact ⟨0,Nat.zero_le _,rfl,Fr.refl _ _,rfl⟩
 case round=>
  obtain ⟨k,hk,rfl,hf,rfl⟩:=hrel
  by_cases hlt:k < ns.length
  ·obtain ⟨b,off,hAe,hbB,hbl,hc⟩:=(hN.fr hf (fun _ _ x=>x)).row (by omega)
   simp only at hAe
   subst hAe
   obtain ⟨p,hpk⟩:∃ p,ns[k]? = some p:=⟨_,List.getElem?_eq_getElem hlt⟩
   have hc:=hc k p hpk
   have hat:=hN.each p (List.mem_of_getElem? hpk)
   clear hpk hN
   go_wp2_with (first
    | (refine wpList_load_mid rfl _ _ rfl b (off+k*13) rfl p.cells.toList _ hc Tryz.underlying57 rfl (by kernel_rfl) ?_)
    | (refine wpList_storeRow (b:=wr.heap.size) (cells:=p.cells) rfl rfl rfl rfl (heap_alloc_new _ _) rfl (by kernel_rfl) (by kernel_rfl) ?_;intro w2 hb2 hf2)
    | (refine wpList_loadRow (b:=wr.heap.size) (cells:=p.cells) rfl rfl rfl hb2 Tryz.underlying57 rfl (by kernel_rfl) ?_))
   have hn2:Fr nope wr w2:=((Fr.refl nope wr).alloc _).then_new hf2 (fun x hx e=>by omega)
   refine (zz6_calls w2 B p (hat.fr (hf.then hn2) (fun _ _ x=>x))).mono ?_
   rintro e w3 ⟨hf3,b,rfl⟩
   have hf13:=(hf.then hn2).then hf3
   cases b with
   | false=>
    go_wp2
    go_ret
    exact ⟨hf13,_,rfl⟩
   | true=>
    go_wp2
    go_roundg (ns.length - (k+1))
    case measure=>omega
    case rel=>exact ⟨k+1,by omega,by go_num,hf13,rfl⟩
  ·go_wp2
   go_ret
   exact ⟨hf,_,rfl⟩
end
end Go.Proofs.YtjlfkgjmgghhiaaGreat
