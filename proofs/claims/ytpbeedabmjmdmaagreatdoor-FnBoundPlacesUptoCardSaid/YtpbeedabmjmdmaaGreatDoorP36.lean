/- Part of the proof of a statement about pub-berthage: what its texts have in common. -/
import Derived.Test.YtpbeedabmjmdmaaGreatDoorP25
import Derived.Test.YtpbeedabmjmdmaaGreatDoorP30
import Derived.Test.YtpbeedabmjmdmaaGreatDoorP34
import Derived.Test.YtpbeedabmjmdmaaGreatDoorP35
namespace Go.Proofs.YtpbeedabmjmdmaaGreatDoor
section
open Go Go.RowKit Bth
set_option maxRecDepth 100000
def FewI (is:List PI):Prop:=∃ L:Nat→List Nat,(∀ k,k≤3→(L k).length≤4)∧L 0=[]∧∀ p∈is,∀ g∈p.gs,g.id∈L g.kind
def GivesF (w:World) (ns:List PN) (e:Ending) (w':World):Prop:=Fr nope w w'∧∃ b,e = .returned (.bool b)∧(b=true→FewI (insP ns))
def FInv (S:Nat→Bool) (C:Nat→Option Nat):Prop:=∃ L:Nat→List Nat,(∀ k,(L k).length=(C k).getD 0)∧∀ id,S id=true→id∈L (kindOf id)
theorem FInv.start:FInv (fun _=>false) fun _=>none:=⟨fun _=>[],fun _=>rfl,fun _ h=>by cases h⟩
theorem FInv.step {S:Nat→Bool} {C:Nat→Option Nat} (h:FInv S C) {id k:Nat} (hk:kindOf id=k):FInv (addF S id) (incC C k):=by
 obtain ⟨L,h1,h2⟩:=h
 refine ⟨fun x=>if x=k then id :: L x else L x,fun x=>?_,fun x hx=>?_⟩
 ·unfold incC
  by_cases e:x=k
  ·subst e;simp [h1 x]
  ·simp only [if_neg e];exact h1 x
 ·unfold addF at hx
  by_cases e:x=id
  ·subst e;simp [hk]
  ·rw [decide_eq_false e,Bool.false_or] at hx
   have:=h2 x hx
   show x∈if kindOf x=k then id :: L (kindOf x) else L (kindOf x)
   split
   ·exact List.mem_cons_of_mem _ this
   ·exact this
theorem incC_le {C:Nat→Option Nat} {m k:Nat} (h:∀ x,(C x).getD 0≤m):∀ x,(incC C k x).getD 0≤m+1:=fun x=>by
 unfold incC
 have h1:=h k
 have h2:=h x
 split
 ·show (C k).getD 0+1≤m+1;omega
 ·omega
theorem addF_mono {S:Nat→Bool} {id x:Nat} (h:S x=true):addF S id x=true:=by unfold addF;rw [h,Bool.or_true]
theorem addF_self {S:Nat→Bool} {id:Nat} : addF S id id=true:=by simp [addF]
theorem FInv.few {is:List PI} {S:Nat→Bool} {C:Nat→Option Nat} (h:FInv S C) (hs:∀ p∈is,∀ g∈p.gs,S g.id=true) (hk:∀ p∈is,∀ g∈p.gs,kindOf g.id=g.kind) (h0:(C 0).getD 0=0) (h1:(C 1).getD 0≤4) (h2:(C 2).getD 0≤4) (h3:(C 3).getD 0≤4):FewI is:=by
 obtain ⟨L,a,b⟩:=h
 refine ⟨L,fun k hk=>?_,List.eq_nil_of_length_eq_zero (by rw [a,h0]),fun p hp g hg=>?_⟩
 ·rw [a]
  have:k=0∨k=1∨k=2∨k=3:=by omega
  rcases this with rfl | rfl | rfl | rfl<;>omega
 ·have:=b _ (hs p hp g hg)
  rw [hk p hp g hg] at this
  exact this
def two (a b:Nat):Nat→Prop:=fun x=>x=a∨x=b
theorem noT_two {T:List TypeId} {w:World} {a b:Nat} (h1:NoT T w (fun x=>x=a)) (h2:NoT T w (fun x=>x=b)):NoT T w (two a b):=by
 rintro x cs t fr (h | h) hx
 ·exact h1 x cs t fr h hx
 ·exact h2 x cs t fr h hx
theorem gs_okG {p:PI} (h:p.Ok):∀ g∈p.gs,g.Ok:=fun g hg=>by
 unfold PI.gs at hg
 rcases List.mem_append.1 hg with hg | hg
 ·rcases List.mem_append.1 hg with hg | hg
  ·exact gsOf_ok h.ops g hg
  ·exact gsOf_ok h.inp g hg
 ·exact gsOf_ok h.out g hg
set_option maxHeartbeats 4000000 in
theorem few_calls (w:World) (B:Nat) (s:SV) (ns:List PN) (hN:NodesAt w B s ns) (hok:ns.all okN=true) (hB:B≤w.heap.size):Calls Tryz.prog 18 #[s.val] w (GivesF w ns):=by
 have hI:=fun W (hW:Fr nope w W)=>Instrs_calls W B s ns (hN.fr hW (fun _ _ x=>x))
 have hat:=insP_at hN hok
 have hmm:=@run_makeMap Tryz.prog
 have hlen:(insP ns).length≤1048576:=by
  have h1:=hN.few
  have:(insP ns).length≤ns.length:=by unfold insP;rw [List.length_map];exact List.length_filter_le _ _
  omega
 obtain ⟨A,n,c⟩:=s
 simp only [SV.val] at hI ⊢
 clear hN hok
 replace hI:=Lib.hid hI
 replace hat:=Lib.hid hat
 go_enter Tryz.func18,Tryz.ntmps18
 go_wp2_with fail
 refine (hI.out _ (((Fr.refl nope w).alloc _).alloc _)).mono ?_
 rintro e w4 ⟨hf4,Aa,ca,rfl,hins⟩
 have hS4:SM w4 w.heap.size fun _=>false:=(SM.made w).fr (((Fr.refl nope _).alloc _).then hf4) (fun x=>x)
 have hC4:CM w4 (w.heap.size+1) fun _=>none:=by
  have:=(CM.made (w.alloc (.map #[] 0))).fr hf4 (fun x=>x)
  rw [show (w.alloc (.map #[] 0)).heap.size=w.heap.size+1 by simp] at this
  exact this
 have hn4:=(((Fr.refl nope w).alloc _).alloc _).then hf4
 obtain ⟨is,his⟩:∃ is,is=insP ns:=⟨_,rfl⟩
 rw [← his] at hins hlen hat ⊢
 replace his:=Lib.hid his
 obtain ⟨bs,hbs⟩:∃ x,x=w.heap.size:=⟨_,rfl⟩
 obtain ⟨bc,hbc⟩:∃ x,x=w.heap.size+1:=⟨_,rfl⟩
 rw [← hbc] at hC4 ⊢
 rw [← hbs] at hS4 ⊢
 have hne:bs≠bc:=by omega
 have hBs:B≤bs:=by omega
 have hBc:B≤bc:=by omega
 have hnew:∀ x,x < w.heap.size→¬two bs bc x:=fun x hx e=>by rcases e with e | e<;>omega
 replace hnew:=Lib.hid hnew
 clear hbs hbc
 have hM4:NoT [38] w4 (two bs bc):=noT_two hS4.noT hC4.noT
 have hlt4:=hS4.lt
 have hlc4:=hC4.lt
 go_wp2
 go_loopg [15] is.length (fun m c15 wx=>∃ (k:Nat) (S:Nat→Bool) (C:Nat→Option Nat),k≤is.length∧c15 = .int .i64 (k:Int)∧SM wx bs S∧CM wx bc C∧Hid (FInv S C∧∀ p∈is.take k,∀ g∈p.gs,S g.id=true)∧Hid (∀ x,(C x).getD 0≤6291456*k)∧Fr (two bs bc) w4 wx∧m=is.length - k)
 case atStart=>exact ⟨0,_,_,Nat.zero_le _,rfl,hS4,hC4,Lib.hid ⟨FInv.start,by simp⟩,Lib.hid (fun _=>Nat.le_refl _),Fr.refl _ _,rfl⟩
 case round=>
  clear hS4 hC4
  obtain ⟨k,S,C,hk,rfl,hS,hC,hF,hbd,hf,rfl⟩:=hrel
  by_cases hlt:k < is.length
  ·obtain ⟨p,hx⟩:∃ x,is[k]? = some x:=⟨_,List.getElem?_eq_getElem hlt⟩
   obtain ⟨b,off,hBe,hbl,hr⟩:=(hins.frT hf hM4).at_ PI.list_len hx
   subst hBe
   obtain ⟨hpa,hpo⟩:=hat.out p (List.mem_of_getElem? hx)
   have hpa:=hpa.fr (hn4.trans hf (U:=two bs bc) (fun _ _ e=>e.elim) (fun _ _ e=>e)) (fun x hx e=>by rcases e with e | e<;>omega)
   have hT:=Lib.hid (take_snoc hx)
   replace hx:=Lib.hid hx
   have hszr:=hf.size
   have hgl:p.gs.length≤6291456:=PI.gs_few hpa
   have hgk:=Lib.hid (gs_okG (PI.ok_of hpa))
   go_wp2_with (first
    | (refine wpList_load_mid rfl _ _ rfl b (off+k*10) rfl p.cells.toList _ hr Tryz.underlying38 rfl (by kernel_rfl) ?_)
    | (refine wpList_storeRow (b:=wr.heap.size) (cells:=p.cells) rfl rfl rfl rfl (heap_alloc_new _ _) rfl (by kernel_rfl) (by kernel_rfl) ?_;intro w5 hb5 hf5)
    | (refine wpList_loadRow (b:=wr.heap.size) (cells:=p.cells) rfl rfl rfl hb5 Tryz.underlying38 rfl (by kernel_rfl) ?_))
   have hn5:Fr nope wr w5:=((Fr.refl nope wr).alloc _).then_new hf5 (fun x hx e=>by omega)
   refine (all_calls w5 B p (hpa.fr hn5 (fun _ _ x=>x)) hpo).mono ?_
   rintro e w6 ⟨hf6,Ag,cg,rfl,hown6⟩
   have hn6:=hn5.then hf6
   have hrow:=Rw.of_own hown6
   have hS6:=hS.fr hn6 (fun x=>x)
   have hC6:=hC.fr hn6 (fun x=>x)
   have hM6:NoT [40] w6 (two bs bc):=noT_two hS6.noT hC6.noT
   have hf6':Fr (two bs bc) w4 w6:=hf.trans hn6 (fun _ _ e=>e) (fun _ _ e=>e.elim)
   have hF6:Hid (FInv S C∧(∀ p∈is.take k,∀ g∈p.gs,S g.id=true)∧∀ g∈p.gs.take 0,S g.id=true):=Lib.hid ⟨hF.out.1,hF.out.2,by simp⟩
   clear hb5 hf5 hr hown6 hpa hn5 hf6 hn6 hS hC hf hF
   go_wp2
   go_loopg [22] p.gs.length (fun m c22 wx=>∃ (i:Nat) (S:Nat→Bool) (C:Nat→Option Nat),i≤p.gs.length∧c22 = .int .i64 (i:Int)∧SM wx bs S∧CM wx bc C∧Hid (FInv S C∧(∀ p∈is.take k,∀ g∈p.gs,S g.id=true)∧∀ g∈p.gs.take i,S g.id=true)∧Hid (∀ x,(C x).getD 0≤6291456*k+i)∧Fr (two bs bc) w6 wx∧m=p.gs.length - i)
   case atStart=>exact ⟨0,S,C,Nat.zero_le _,rfl,hS6,hC6,hF6,hbd,Fr.refl _ _,rfl⟩
   case round=>
    clear hS6 hC6 hF6 hbd
    obtain ⟨i,S,C,hi,rfl,hS,hC,hF,hbd,hf,rfl⟩:=hrel
    by_cases hil:i < p.gs.length
    ·obtain ⟨g,hg⟩:∃ g,p.gs[i]? = some g:=⟨_,List.getElem?_eq_getElem hil⟩
     obtain ⟨br,ro,hRe,hrb,hrr⟩:=(hrow.frT hf hM6 (by decide)).at_ G.cells_len hg
     subst hRe
     have hTg:=Lib.hid (take_snoc hg)
     have hgo:=hgk.out g (List.mem_of_getElem? hg)
     have hki:=Lib.hid (G.kind_id hgo)
     replace hg:=Lib.hid hg
     have hszi:=hf.size
     go_wp2_with (first
       | (refine wpList_load_mid rfl _ _ rfl br (ro+i*4) rfl g.cells _ hrr Tryz.underlying40 rfl (by kernel_rfl) ?_)
       | (refine wpList_storeRow (b:=wr.heap.size) (cells:=#[.bool g.virt,.int .u8 (g.kind:Int),.int .u16 (g.idx:Int),.int .u16 (g.spec:Int)]) rfl rfl rfl rfl (heap_alloc_new _ _) rfl (by kernel_rfl) (by kernel_rfl) ?_;intro w8 hb8 hf8)
       | (refine wpList_loadRow (b:=wr.heap.size) (cells:=#[.bool g.virt,.int .u8 (g.kind:Int),.int .u16 (g.idx:Int),.int .u16 (g.spec:Int)]) rfl rfl rfl hb8 Tryz.underlying40 rfl (by kernel_rfl) ?_))
     have hn8:Fr nope wr w8:=((Fr.refl nope wr).alloc _).then_new hf8 (fun x hx e=>by omega)
     refine (RegID_calls w8 g hgo).mono ?_
     rintro e w9 ⟨rfl,hf9⟩
     have hn9:=hn8.then hf9
     have hb9:=hf9.heap hb8 (fun x=>x)
     have hS9:=hS.fr hn9 (fun x=>x)
     have hC9:=hC.fr hn9 (fun x=>x)
     have hk9:w9.cell? ⟨wr.heap.size,1,none⟩=some (.int .u8 (g.kind:Int)):=cell_of_row _ _ 1 _ _ (0,0) hb9
     have hlS:=hS9.look g.id
     have hln:=hS.lt
     have hlm:=hC.lt
     cases hs:S g.id with
     | true=>
      rw [hs] at hlS
      replace hs:=Lib.hid hs
      clear hb8 hb9 hgo
      go_wp2
      go_roundg (p.gs.length - (i+1))
      case measure=>omega
      case rel=>exact ⟨i+1,S,C,by omega,by go_num,hS9,hC9,Lib.hid ⟨hF.out.1,hF.out.2.1,by rw [hTg.out];exact all_snoc (P:=fun x:G=>S x.id=true) hF.out.2.2 hs.out⟩,Lib.hid (fun x=>by have:=hbd.out x;omega),hf.trans hn9 (fun _ _ e=>e) (fun _ _ e=>e.elim),rfl⟩
     | false=>
      rw [hs] at hlS
      replace hs:=Lib.hid hs
      obtain ⟨w10,hu10,hS10,hf10,hz10⟩:=hS9.put g.id
      have hC10:=hC9.fr hf10 (fun e=>hne e.symm)
      have hlC:=hC10.look g.kind
      have hcb:=hbd.out g.kind
      obtain ⟨cnt,hcnt⟩:∃ x,x=(C g.kind).getD 0:=⟨_,rfl⟩
      rw [← hcnt] at hlC hcb
      obtain ⟨w11,hu11,hC11,hf11,hz11⟩:=hC10.put g.kind (z:=(cnt:Int)+1) (by omega)
      have e64:wrap64 ((cnt:Int)+1)=(cnt:Int)+1:=by unfold wrap64;omega
      replace hcnt:=Lib.hid hcnt
      have hS11:=hS10.fr hf11 hne
      have hk10:=hf10.cell hk9 (fun (e:wr.heap.size=bs)=>by omega)
      clear hb8 hb9 hgo hS9 hC9 hS10 hC10
      go_wp2
      go_roundg (p.gs.length - (i+1))
      case measure=>omega
      case rel=>exact ⟨i+1,addF S g.id,incC C g.kind,by omega,by go_num,hS11,hC11,Lib.hid ⟨hF.out.1.step hki.out,fun p hp g' hg'=>addF_mono (hF.out.2.1 p hp g' hg'),by rw [hTg.out];exact all_snoc (P:=fun x:G=>addF S g.id x.id=true) (fun x hx=>addF_mono (hF.out.2.2 x hx)) addF_self⟩,Lib.hid (incC_le hbd.out),((hf.trans hn9 (U:=two bs bc) (fun _ _ e=>e) (fun _ _ e=>e.elim)).trans hf10 (U:=two bs bc) (fun _ _ e=>e) (fun _ _ e=>.inl e)).trans hf11 (fun _ _ e=>e) (fun _ _ e=>.inr e),rfl⟩
    ·rw [take_all hil] at hF
     go_wp2
     go_roundg (is.length - (k+1))
     case measure=>omega
     case rel=>exact ⟨k+1,S,C,by omega,by go_num,hS,hC,Lib.hid ⟨hF.out.1,by rw [hT.out];exact all_snoc (P:=fun p:PI=>∀ g∈p.gs,S g.id=true) hF.out.2.1 hF.out.2.2⟩,Lib.hid (fun x=>by have:=hbd.out x;omega),hf6'.then hf,rfl⟩
  ·rw [take_all hlt] at hF
   have hl0:(Instr.lookup 106 (.map (some bc)) (.int .u8 0) false).run Tryz.prog wr = .ok (.int .i64 (((C 0).getD 0:Nat):Int)) wr:=hC.look 0
   have hl1:(Instr.lookup 106 (.map (some bc)) (.int .u8 1) false).run Tryz.prog wr = .ok (.int .i64 (((C 1).getD 0:Nat):Int)) wr:=hC.look 1
   have hl2:(Instr.lookup 106 (.map (some bc)) (.int .u8 2) false).run Tryz.prog wr = .ok (.int .i64 (((C 2).getD 0:Nat):Int)) wr:=hC.look 2
   have hl3:(Instr.lookup 106 (.map (some bc)) (.int .u8 3) false).run Tryz.prog wr = .ok (.int .i64 (((C 3).getD 0:Nat):Int)) wr:=hC.look 3
   have hfew:=Lib.hid (fun h0 h1 h2 h3=>hF.out.1.few hF.out.2 (fun p hp g hg=>G.kind_id (gs_okG (PI.ok_of (hat.out p hp).1) g hg)) h0 h1 h2 h3)
   generalize (C 0).getD 0=c0 at hl0 hfew
   generalize (C 1).getD 0=c1 at hl1 hfew
   generalize (C 2).getD 0=c2 at hl2 hfew
   generalize (C 3).getD 0=c3 at hl3 hfew
   have hend:Fr nope w wr:=hn4.then_new hf hnew.out
   by_cases h0:c0=0
   ·subst h0
    by_cases h1:(c1:Int)≤4
    ·by_cases h2:(c2:Int)≤4
     ·by_cases h3:(c3:Int)≤4
      ·have hfin:=Lib.hid (hfew.out rfl (by omega) (by omega) (by omega))
       go_wp2
       go_ret
       exact ⟨hend,true,rfl,fun _=>by rw [← his.out];exact hfin.out⟩
      ·have d:=decide_eq_false h3
       go_wp2
       go_ret
       exact ⟨hend,false,rfl,fun h=>by cases h⟩
     ·have d:=decide_eq_false h2
      go_wp2
      go_ret
      exact ⟨hend,false,rfl,fun h=>by cases h⟩
    ·have d:=decide_eq_false h1
     go_wp2
     go_ret
     exact ⟨hend,false,rfl,fun h=>by cases h⟩
   ·have h0':((c0:Int) == 0)=false:=beq_eq_false_iff_ne.2 (by omega)
    clear h0
    go_wp2
    go_ret
    exact ⟨hend,false,rfl,fun h=>by cases h⟩
end
section
open Go Go.RowKit Bth
set_option maxRecDepth 100000
def GivesAny (w:World) (e:Ending) (w':World):Prop:=Fr nope w w'∧∃ b,e = .returned (.bool b)
theorem zz11_calls (w:World) (c:PC):Calls Tryz.prog 133 #[c.agg] w (GivesAny w):=by
 obtain ⟨k,b,t⟩:=c
 unfold PC.agg
 by_cases h:(2147483647:Int) < (t.size:Int)
 ·go_enter Tryz.func133,Tryz.ntmps133
  go_wp2_with fail
  go_ret
  exact ⟨(Fr.refl _ _).alloc _,_,rfl⟩
 ·go_enter Tryz.func133,Tryz.ntmps133
  go_wp2_with fail
  go_ret
  exact ⟨(Fr.refl _ _).alloc _,_,rfl⟩
set_option maxHeartbeats 1000000 in
theorem zz10_calls (w:World) (p:PO):Calls Tryz.prog 100 #[p.agg] w (GivesAny w):=by
 have hb:=heap_alloc_new w (.cells p.cells 45)
 have hc8:(w.alloc (.cells p.cells 45)).cell? ⟨w.heap.size,17,none⟩=some (.string p.sym):=cell_of_row _ _ 17 _ _ (0,0) hb
 have hc11:(w.alloc (.cells p.cells 45)).cell? ⟨w.heap.size,22,none⟩=some (.string p.label):=cell_of_row _ _ 22 _ _ (0,0) hb
 have hcc:(w.alloc (.cells p.cells 45)).rangeAt w.heap.size 19 [.int .i64 p.con.kind,.int .u64 (p.con.bits:Int),.string p.con.text]:=fun j v hj=>by
  rcases j with _ | _ | _ | j
  ·injection hj with hj;subst hj;exact cell_of_row _ _ 19 _ _ (0,0) hb
  ·injection hj with hj;subst hj;exact cell_of_row _ _ 20 _ _ (0,0) hb
  ·injection hj with hj;subst hj;exact cell_of_row _ _ 21 _ _ (0,0) hb
  ·simp at hj
 have hZ:=zz11_calls (w.alloc (.cells p.cells 45)) p.con
 unfold PC.agg at hZ
 clear hb
 unfold PO.agg
 by_cases h:(2147483647:Int) < (p.sym.size:Int)
 ·go_enter Tryz.func100,Tryz.ntmps100
  go_wp2_with fail
  go_ret
  exact ⟨(Fr.refl _ _).alloc _,_,rfl⟩
 ·go_enter Tryz.func100,Tryz.ntmps100
  go_wp2_with (refine wpList_load_mid rfl _ _ rfl w.heap.size 19 rfl _ _ hcc Tryz.underlying43 rfl (by kernel_rfl) ?_)
  refine hZ.mono ?_
  rintro e w1 ⟨hf1,b,rfl⟩
  have hc1:=hf1.cell hc11 (fun x=>x)
  have hn1:=((Fr.refl nope w).alloc (.cells p.cells 45)).then hf1
  clear hc8 hc11 hcc
  cases b with
  | false=>
   go_wp2
   go_ret
   exact ⟨hn1,_,rfl⟩
  | true=>
   by_cases h2:(2147483647:Int) < (p.label.size:Int)
   ·go_wp2
    go_ret
    exact ⟨hn1,_,rfl⟩
   ·go_wp2
    go_ret
    exact ⟨hn1,_,rfl⟩
set_option maxHeartbeats 1000000 in
theorem zz9_calls (w:World) (s:SV) (ps:List PO) (h:POsAt w s ps) (hl:ps.length≤1048576):Calls Tryz.prog 66 #[s.val] w (GivesAny w):=by
 obtain ⟨A,n,c⟩:=s
 have hps:=h
 obtain ⟨rfl,_⟩:n=ps.length∧_:=h
 simp only [SV.val]
 go_enter Tryz.func66,Tryz.ntmps66
 go_wp2
 go_loopg [10] ps.length (fun n c8 wr=>∃ k:Nat,k≤ps.length∧c8 = .int .i64 (k:Int)∧Fr nope w wr∧n=ps.length - k)
 case atStart=>exact ⟨0,Nat.zero_le _,rfl,Fr.refl _ _,rfl⟩
 case round=>
  obtain ⟨k,hk,rfl,hf,rfl⟩:=hrel
  have hsz:=hf.size
  by_cases hlt:k < ps.length
  ·obtain ⟨b,off,hAe,hbl,hc⟩:=(hps.nope hf).2 (by omega)
   simp only at hAe
   subst hAe
   obtain ⟨p,hpk⟩:∃ p,ps[k]? = some p:=⟨_,List.getElem?_eq_getElem hlt⟩
   have hc:=hc k p hpk
   clear hpk hps
   go_wp2_with (first
    | (refine wpList_load_mid rfl _ _ rfl b (off+k*24) rfl p.cells.toList _ hc Tryz.underlying45 rfl (by kernel_rfl) ?_)
    | (refine wpList_storeRow (b:=wr.heap.size) (cells:=p.cells) rfl rfl rfl rfl (heap_alloc_new _ _) rfl (by kernel_rfl) (by kernel_rfl) ?_;intro w2 hb2 hf2)
    | (refine wpList_loadRow (b:=wr.heap.size) (cells:=p.cells) rfl rfl rfl hb2 Tryz.underlying45 rfl (by kernel_rfl) ?_))
   have hn2:Fr nope wr w2:=((Fr.refl nope wr).alloc _).then_new hf2 (fun x hx e=>by omega)
   refine (zz10_calls w2 p).mono ?_
   rintro e w3 ⟨hf3,b,rfl⟩
   have hn3:=hf.then (hn2.then hf3)
   cases b with
   | false=>
    go_wp2
    go_ret
    exact ⟨hn3,_,rfl⟩
   | true=>
    go_wp2
    go_roundg (ps.length - (k+1))
    case measure=>omega
    case rel=>exact ⟨k+1,by omega,by go_num,hn3,rfl⟩
  ·go_wp2
   go_ret
   exact ⟨hf,_,rfl⟩
set_option maxHeartbeats 1000000 in
theorem zz7_calls (w:World) (s:SV) (l:List ByteArray) (h:StrsAt w s l) (hl:l.length≤1048576):Calls Tryz.prog 32 #[s.val] w (GivesAny w):=by
 obtain ⟨A,n,c⟩:=s
 have hps:=h
 obtain ⟨rfl,_⟩:n=l.length∧_:=h
 simp only [SV.val]
 go_enter Tryz.func32,Tryz.ntmps32
 go_wp2
 go_loopg [10] l.length (fun n c8 wr=>∃ k:Nat,k≤l.length∧c8 = .int .i64 (k:Int)∧Fr nope w wr∧n=l.length - k)
 case atStart=>exact ⟨0,Nat.zero_le _,rfl,Fr.refl _ _,rfl⟩
 case round=>
  obtain ⟨k,hk,rfl,hf,rfl⟩:=hrel
  have hsz:=hf.size
  by_cases hlt:k < l.length
  ·obtain ⟨x,hxk⟩:∃ x,l[k]? = some x:=⟨_,List.getElem?_eq_getElem hlt⟩
   obtain ⟨b,off,u,hAe,hbl,hu,hc⟩:=(hps.fr hf (fun _ _ _ _ e=>e)).2.at_ hlt
   simp only at hAe
   subst hAe
   rw [List.getElem?_map,hxk] at hu
   injection hu with hu
   subst hu
   clear hps hxk
   by_cases h2:(2147483647:Int) < (x.size:Int)
   ·go_wp2
    go_ret
    exact ⟨hf,_,rfl⟩
   ·go_wp2
    go_roundg (l.length - (k+1))
    case measure=>omega
    case rel=>exact ⟨k+1,by omega,by go_num,hf,rfl⟩
  ·go_wp2
   go_ret
   exact ⟨hf,_,rfl⟩
end
section
open Go Go.RowKit Bth
set_option maxRecDepth 100000
set_option maxHeartbeats 4000000 in
theorem zz8_calls (w:World) (B:Nat) (p:PI) (h:p.At w B):Calls Tryz.prog 33 #[p.agg] w (GivesAny w):=by
 have h7s:=fun W (hW:Fr nope w W)=>zz7_calls W p.sufV p.suf (h.fr hW (fun _ _ x=>x)).suf h.few.1
 have h7i:=fun W (hW:Fr nope w W)=>zz7_calls W p.isaV p.isa (h.fr hW (fun _ _ x=>x)).isa h.few.2.2.2.2
 have h9a:=fun W (hW:Fr nope w W)=>zz9_calls W p.opsV p.ops (h.fr hW (fun _ _ x=>x)).ops h.few.2.1
 have h9b:=fun W (hW:Fr nope w W)=>zz9_calls W p.inpV p.inp (h.fr hW (fun _ _ x=>x)).inp h.few.2.2.1
 have h9c:=fun W (hW:Fr nope w W)=>zz9_calls W p.outV p.out (h.fr hW (fun _ _ x=>x)).out h.few.2.2.2.1
 clear h
 obtain ⟨opc,⟨A1,n1,c1⟩,suf,⟨A2,n2,c2⟩,ops,⟨A3,n3,c3⟩,inp,⟨A4,n4,c4⟩,ps,term,br,cond,canc,⟨A5,n5,c5⟩,isa⟩:=p
 simp only [PI.agg,PI.cells,SV.val] at h7s h7i h9a h9b h9c ⊢
 have hb0:=heap_alloc_new w (.cells #[.string opc,.slice A1 n1 c1,.slice A2 n2 c2,.slice A3 n3 c3,.slice A4 n4 c4,.bool term,.bool br,.bool cond,.bool canc,.slice A5 n5 c5] 38)
 have hn0:=(Fr.refl nope w).alloc (.cells #[.string opc,.slice A1 n1 c1,.slice A2 n2 c2,.slice A3 n3 c3,.slice A4 n4 c4,.bool term,.bool br,.bool cond,.bool canc,.slice A5 n5 c5] 38)
 replace h7s:=Lib.hid h7s
 replace h7i:=Lib.hid h7i
 replace h9a:=Lib.hid h9a
 replace h9b:=Lib.hid h9b
 replace h9c:=Lib.hid h9c
 replace hb0:=Lib.hid hb0
 by_cases h:(2147483647:Int) < (opc.size:Int)
 ·go_enter Tryz.func33,Tryz.ntmps33
  go_wp2_with fail
  go_ret
  exact ⟨hn0,_,rfl⟩
 ·go_enter Tryz.func33,Tryz.ntmps33
  go_wp2_with fail
  refine (h7s.out _ hn0).mono ?_
  rintro e w1 ⟨hf1,b,rfl⟩
  have hn1:=hn0.then hf1
  have hb1:=Lib.hid (hf1.heap hb0.out (fun x=>x))
  have hc:=cell_of_row _ _ 2 _ _ (0,0) hb1.out
  replace hc:w1.cell? ⟨w.heap.size,2,none⟩=some (.slice A2 n2 c2):=hc
  cases b with
  | false=>
   go_wp2
   go_ret
   exact ⟨hn1,_,rfl⟩
  | true=>
  go_wp2_with fail
  clear hc
  refine (h9a.out _ hn1).mono ?_
  rintro e w2 ⟨hf2,b,rfl⟩
  have hn2:=hn1.then hf2
  have hb2:=Lib.hid (hf2.heap hb1.out (fun x=>x))
  have hc:=cell_of_row _ _ 3 _ _ (0,0) hb2.out
  replace hc:w2.cell? ⟨w.heap.size,3,none⟩=some (.slice A3 n3 c3):=hc
  cases b with
  | false=>
   go_wp2
   go_ret
   exact ⟨hn2,_,rfl⟩
  | true=>
  go_wp2_with fail
  clear hc
  refine (h9b.out _ hn2).mono ?_
  rintro e w3 ⟨hf3,b,rfl⟩
  have hn3:=hn2.then hf3
  have hb3:=Lib.hid (hf3.heap hb2.out (fun x=>x))
  have hc:=cell_of_row _ _ 4 _ _ (0,0) hb3.out
  replace hc:w3.cell? ⟨w.heap.size,4,none⟩=some (.slice A4 n4 c4):=hc
  cases b with
  | false=>
   go_wp2
   go_ret
   exact ⟨hn3,_,rfl⟩
  | true=>
  go_wp2_with fail
  clear hc
  refine (h9c.out _ hn3).mono ?_
  rintro e w4 ⟨hf4,b,rfl⟩
  have hn4:=hn3.then hf4
  have hb4:=Lib.hid (hf4.heap hb3.out (fun x=>x))
  have hc:=cell_of_row _ _ 9 _ _ (0,0) hb4.out
  replace hc:w4.cell? ⟨w.heap.size,9,none⟩=some (.slice A5 n5 c5):=hc
  cases b with
  | false=>
   go_wp2
   go_ret
   exact ⟨hn4,_,rfl⟩
  | true=>
  go_wp2_with fail
  clear hc
  refine (h7i.out _ hn4).mono ?_
  rintro e w5 ⟨hf5,b,rfl⟩
  have hn5:=hn4.then hf5
  have hb5:=Lib.hid (hf5.heap hb4.out (fun x=>x))
  cases b with
  | false=>
   go_wp2
   go_ret
   exact ⟨hn5,_,rfl⟩
  | true=>
  go_wp2
  go_ret
  exact ⟨hn5,_,rfl⟩
theorem pn_ins (p:PN):∀ (j:Nat) (v:Value),p.ins.cells.toList[j]? = some v→p.cells[3+j]? = some v:=fun j v h=>by
 rcases j with _ | _ | _ | _ | _ | _ | _ | _ | _ | _ | j
 all_goals first
  | exact h
  | (simp [PI.cells] at h)
set_option maxHeartbeats 4000000 in
theorem zz6_calls (w:World) (B:Nat) (p:PN) (h:p.At w B):Calls Tryz.prog 14 #[p.agg] w (GivesAny w):=by
 have h7:=fun W (hW:Fr nope w W)=>zz7_calls W p.linesV p.lines (h.fr hW (fun _ _ x=>x)).lines h.few
 have h8:=fun W (hW:Fr nope w W)=>zz8_calls W B p.ins (h.fr hW (fun _ _ x=>x)).ins
 have hb0:=heap_alloc_new w (.cells p.cells 57)
 have hn0:=(Fr.refl nope w).alloc (.cells p.cells 57)
 have hc1:(w.alloc (.cells p.cells 57)).cell? ⟨w.heap.size,1,none⟩=some (.string p.label):=cell_of_row _ _ 1 _ _ (0,0) hb0
 have hc2:(w.alloc (.cells p.cells 57)).cell? ⟨w.heap.size,2,none⟩=some p.linesV.val:=cell_of_row _ _ 2 _ _ (0,0) hb0
 clear h
 unfold SV.val at hc2 h7
 replace h7:=Lib.hid h7
 replace h8:=Lib.hid h8
 replace hb0:=Lib.hid hb0
 unfold PN.agg
 by_cases h:(2147483647:Int) < (p.label.size:Int)
 ·go_enter Tryz.func14,Tryz.ntmps14
  go_wp2_with fail
  go_ret
  exact ⟨hn0,_,rfl⟩
 ·go_enter Tryz.func14,Tryz.ntmps14
  go_wp2_with fail
  refine (h7.out _ hn0).mono ?_
  rintro e w1 ⟨hf1,b,rfl⟩
  have hn1:=hn0.then hf1
  have hb1:=hf1.heap hb0.out (fun x=>x)
  have hr:w1.rangeAt w.heap.size 3 p.ins.cells.toList:=fun j v hj=>by
   rw [cell_of_row _ _ (3+j) _ _ (0,0) hb1]
   exact pn_ins p j v hj
  clear hc1 hc2 hb1
  cases b with
  | false=>
   go_wp2
   go_ret
   exact ⟨hn1,_,rfl⟩
  | true=>
   go_wp2_with (refine wpList_load_mid rfl _ _ rfl w.heap.size 3 rfl p.ins.cells.toList _ hr Tryz.underlying38 rfl (by kernel_rfl) ?_)
   refine (h8.out _ hn1).mono ?_
   rintro e w2 ⟨hf2,b,rfl⟩
   have hn2:=hn1.then hf2
   clear hr
   cases b with
   | false=>
    go_wp2
    go_ret
    exact ⟨hn2,_,rfl⟩
   | true=>
    go_wp2
    go_ret
    exact ⟨hn2,_,rfl⟩
set_option maxHeartbeats 4000000 in
theorem zz5_calls (w:World) (B:Nat) (s:SV) (ns:List PN) (hN:NodesAt w B s ns):Calls Tryz.prog 4 #[s.val] w (GivesAny w):=by
 obtain ⟨A,n,c⟩:=s
 obtain rfl:n=ns.length:=hN.len
 have hfew:=hN.few
 simp only [SV.val]
 go_enter Tryz.func4,Tryz.ntmps4
 go_wp2
 go_loopg [10] ns.length (fun n c7 wr=>∃ k:Nat,k≤ns.length∧c7 = .int .i64 (k:Int)∧Fr nope w wr∧n=ns.length - k)
 case atStart=>exact ⟨0,Nat.zero_le _,rfl,Fr.refl _ _,rfl⟩
 case round=>
  obtain ⟨k,hk,rfl,hf,rfl⟩:=hrel
  by_cases hlt:k < ns.length
  ·obtain ⟨b,off,hAe,hbB,hbl,hc⟩:=(hN.fr hf (fun _ _ x=>x)).row (by omega)
   simp only at hAe
   subst hAe
   obtain ⟨p,hpk⟩:∃ p,ns[k]? = some p:=⟨_,List.getElem?_eq_getElem hlt⟩
   have hc:=hc k p hpk
   have hat:=hN.each p (List.mem_of_getElem? hpk)
   clear hpk hN
   go_wp2_with (first
    | (refine wpList_load_mid rfl _ _ rfl b (off+k*13) rfl p.cells.toList _ hc Tryz.underlying57 rfl (by kernel_rfl) ?_)
    | (refine wpList_storeRow (b:=wr.heap.size) (cells:=p.cells) rfl rfl rfl rfl (heap_alloc_new _ _) rfl (by kernel_rfl) (by kernel_rfl) ?_;intro w2 hb2 hf2)
    | (refine wpList_loadRow (b:=wr.heap.size) (cells:=p.cells) rfl rfl rfl hb2 Tryz.underlying57 rfl (by kernel_rfl) ?_))
   have hn2:Fr nope wr w2:=((Fr.refl nope wr).alloc _).then_new hf2 (fun x hx e=>by omega)
   refine (zz6_calls w2 B p (hat.fr (hf.then hn2) (fun _ _ x=>x))).mono ?_
   rintro e w3 ⟨hf3,b,rfl⟩
   have hf13:=(hf.then hn2).then hf3
   cases b with
   | false=>
    go_wp2
    go_ret
    exact ⟨hf13,_,rfl⟩
   | true=>
    go_wp2
    go_roundg (ns.length - (k+1))
    case measure=>omega
    case rel=>exact ⟨k+1,by omega,by go_num,hf13,rfl⟩
  ·go_wp2
   go_ret
   exact ⟨hf,_,rfl⟩
end
section
open Go Go.RowKit Bth
set_option maxRecDepth 100000
theorem PI.At.up {w:World} {B B':Nat} {p:PI} (h:p.At w B) (hB:B≤B'):p.At w B':={ h with below:=fun s hs hn b off e=>Nat.lt_of_lt_of_le (h.below s hs hn b off e) hB }
theorem PN.At.up {w:World} {B B':Nat} {p:PN} (h:p.At w B) (hB:B≤B'):p.At w B':={ h with ins:=h.ins.up hB,below:=fun hn b off e=>Nat.lt_of_lt_of_le (h.below hn b off e) hB }
theorem NodesAt.up {w:World} {B B':Nat} {s:SV} {ns:List PN} (h:NodesAt w B s ns) (hB:B≤B'):NodesAt w B' s ns:={ h with
 row:=fun hl=>by obtain ⟨b,off,h1,h2,h3,h4⟩:=h.row hl;exact ⟨b,off,h1,Nat.lt_of_lt_of_le h2 hB,h3,h4⟩
 each:=fun p hp=>(h.each p hp).up hB }
theorem ofPairs_fold (l:List (Nat × Nat)):∀ (F:Nat→Option Nat) (x:Nat),(∀ y,l.foldl (fun f p x=>if x=p.1 then some p.2 else f x) F x=some y→(x,y)∈l∨F x=some y)∧((F x≠none∨∃ y,(x,y)∈l)→l.foldl (fun f p x=>if x=p.1 then some p.2 else f x) F x≠none):=by
 induction l with
 | nil=>exact fun F x=>⟨fun y h=>.inr h,fun h=>h.elim id fun ⟨y,hy⟩=>by cases hy⟩
 | cons p l ih=>
  intro F x
  rw [List.foldl_cons]
  obtain ⟨i1,i2⟩:=ih (fun x=>if x=p.1 then some p.2 else F x) x
  refine ⟨fun y h=>?_,fun h=>i2 ?_⟩
  ·rcases i1 y h with h | h
   ·exact .inl (List.mem_cons_of_mem _ h)
   ·by_cases e:x=p.1
    ·rw [if_pos e] at h
     injection h with h
     exact .inl (by rw [e,← h];exact List.mem_cons_self)
    ·rw [if_neg e] at h;exact .inr h
  ·by_cases e:x=p.1
   ·exact .inl (by simp [e])
   ·rw [if_neg e]
    rcases h with h | ⟨y,hy⟩
    ·exact .inl h
    ·rcases List.mem_cons.1 hy with hy | hy
     ·exact absurd (congrArg Prod.fst hy) e
     ·exact .inr ⟨y,hy⟩
theorem PairsOf.eq {f:Nat→Option Nat} {l:List (Nat × Nat)} (h:PairsOf f l):ofPairs l=f:=by
 funext x
 obtain ⟨i1,i2⟩:=ofPairs_fold l (fun _=>none) x
 cases hf:f x with
 | none=>
  cases ho:ofPairs l x with
  | none=>rfl
  | some y=>
   rcases i1 y ho with hm | hm
   ·have:=(h.1 _).1 hm;rw [hf] at this;cases this
   ·cases hm
 | some y=>
  have hm:(x,y)∈l:=(h.1 (x,y)).2 hf
  cases ho:ofPairs l x with
  | none=>exact absurd ho (i2 (.inr ⟨y,hm⟩))
  | some z=>
   rcases i1 z ho with hz | hz
   ·have:=(h.1 _).1 hz;rw [hf] at this;exact this.symm
   ·cases hz
def BulkP (ns:List PN):Prop:=sumL (fun p:PI=>p.ops.length+p.inp.length+p.out.length) (insP ns)≤1048576
theorem sumL_le {α : Type} {f g:α → Nat} {l:List α} (h:∀ x∈l,f x≤g x):sumL f l≤sumL g l:=by
 unfold sumL
 induction l with
 | nil=>exact Nat.le_refl _
 | cons x l ih=>
  have h1:=h x (by simp)
  have h2:=ih fun y hy=>h y (by simp [hy])
  simp only [List.map_cons,List.sum_cons]
  omega
theorem sumL_two {α : Type} {f:α → Nat} {l:List α} : sumL (fun x=>2*f x) l=2*sumL f l:=by
 unfold sumL
 induction l with
 | nil=>rfl
 | cons x l ih=>simp only [List.map_cons,List.sum_cons,ih];omega
theorem whole_kind {g:G} (h:wholeG g=true):1≤g.kind∧g.kind≤3:=by
 unfold wholeG at h
 split at h
 ·omega
 ·split at h
  ·omega
  ·split at h
   ·omega
   ·cases h
theorem okG_kind {g:G} (h:okG g=true) (hw:g.virt=true→wholeG g=true):g.kind≤3:=by
 cases hv:g.virt with
 | true=>exact (whole_kind (hw hv)).2
 | false=>
  unfold okG at h
  rw [hv] at h
  simp only [Bool.false_or,Bool.and_eq_true,decide_eq_true_eq] at h
  exact h.1
theorem insP_ok {ns:List PN} (hok:ns.all okN=true):∀ p∈insP ns,okI p=true:=fun p hp=>by
 obtain ⟨n',hn',e⟩:=List.mem_map.1 hp
 obtain ⟨h1,h2⟩:=List.mem_filter.1 hn'
 have h3:=List.all_eq_true.1 hok n' h1
 unfold okN at h3
 rw [if_pos (by simpa using h2),e] at h3
 exact h3
theorem gs_okI {p:PI} (h:okI p=true):∀ g∈p.gs,okG g=true:=fun g hg=>by
 unfold okI at h
 simp only [Bool.and_eq_true] at h
 unfold PI.gs at hg
 rcases List.mem_append.1 hg with hg | hg
 ·rcases List.mem_append.1 hg with hg | hg
  ·exact gsOf_okG h.1.1 g hg
  ·exact gsOf_okG h.1.2 g hg
 ·exact gsOf_okG h.2 g hg
theorem UsualP.kind {ns:List PN} (h:UsualP ns):∀ p∈insP ns,∀ g∈p.gs,g.kind≤3:=fun p hp g hg=>okG_kind (gs_okI (insP_ok h.2.1 p hp) g hg) ((h.2.2 p hp).1 g hg)
theorem UsualP.af {ns:List PN} (h:UsualP ns) (hops:∀ p∈insP ns,p.Ok) (hb:BulkP ns):AFOk ns:=by
 have h1:sumL (fun p:PI=>(outGs p.out).length) (insP ns)≤1048576:=Nat.le_trans (sumL_le fun p _=>by have:=outGs_le p.out;omega) hb
 have h2:sumL (fun p:PI=>(inGs p.canc p.inp p.out).length) (insP ns)≤2097152:=by
  refine Nat.le_trans (sumL_le (g:=fun p:PI=>2*(p.ops.length+p.inp.length+p.out.length)) fun p _=>by have:=inGs_le p.canc p.inp p.out;omega) ?_
  rw [sumL_two]
  unfold BulkP at hb
  omega
 have h3:sumL (fun p:PI=>(gsOf p.ops).length) (insP ns)≤2097152:=by
  refine Nat.le_trans (sumL_le (g:=fun p:PI=>2*(p.ops.length+p.inp.length+p.out.length)) fun p _=>by have:=gsOf_le p.ops;omega) ?_
  rw [sumL_two]
  unfold BulkP at hb
  omega
 refine ⟨h.2.1,hops,fun p hp hc=>(h.2.2 p hp).2.2 hc,fun p hp g hg=>h.kind p hp g (by unfold PI.gs;simp [hg]),fun p hp g hg=>(h.2.2 p hp).2.1 g (outGs_mem hg),?_,by omega⟩
 exact Nat.le_trans (Nat.mul_le_mul (Nat.add_le_add_right h1 1) h2) (by decide)
theorem FewI.few {ns:List PN} (h:FewI (insP ns)) (hu:UsualP ns):FewP (insP ns):=by
 obtain ⟨L,h1,h2,h3⟩:=h
 refine ⟨fun k=>if k≤3 then L k else [],fun k=>?_,by simp [h2],fun p hp g hg=>?_⟩
 ·show (if k≤3 then L k else []).length≤4
  split
  ·rename_i e;exact h1 k e
  ·simp
 ·show g.id∈if g.kind≤3 then L g.kind else []
  rw [if_pos (hu.kind p hp g hg)]
  exact h3 p hp g hg
theorem few_fit {ns:List PN} (hu:UsualP ns) (hok:AFOk ns) (hg:∃ sc,GraphP ns sc) (hn:AFRes ns none):¬FewI (insP ns):=fun h=>af_few hok hg (h.few hu) hn
end
section
open Go Go.RowKit Bth
set_option maxRecDepth 100000
theorem results_tmp4 {fn:Func} {t u v x:Tmp} (h:fn.results = #[.tmp t,.tmp u,.tmp v,.tmp x]) (tmps:Array Value) (P:Program) (w:World):
  (results fn tmps).run P w = .ok (.tuple #[tmps.getD t undef,tmps.getD u undef,tmps.getD v undef,tmps.getD x undef]) w:=by
 simp [results,h]
def GivesAl (w:World) (ns:List PN) (e:Ending) (w':World):Prop:=Fr nope w w'∧((∃ x y,e = .returned (.tuple #[x,y,.bool false,.bool false])) ∨
 ∃ (A:Option Addr) (c:Nat) (l:List (Nat × Nat)) (A':Option Addr) (c':Nat) (ns':List PN) (f:Nat→Option Nat),e = .returned (.tuple #[.slice A l.length c,.slice A' ns'.length c',.bool true,.bool false])∧PairsAt w' A l∧l.length≤1000000000∧ofPairs l=f∧AFRes ns (some f)∧AFOk ns∧UsualP ns∧NodesAt w' w'.heap.size ⟨A',ns'.length,c'⟩ ns'∧BoundN f ns ns')
set_option maxHeartbeats 4000000 in
theorem allocated_calls (w:World) (B:Nat) (s:SV) (ns:List PN) (hN:NodesAt w B s ns) (hB:B≤w.heap.size) (hb:BulkP ns):Calls Tryz.prog 5 #[s.val] w (GivesAl w ns):=by
 have hU:=usual_calls w B s ns hN hB
 have hFG:=fun W (hW:Fr nope w W) (hok:ns.all okN=true)=>FlowGraph_calls W B s ns (hN.fr hW (fun _ _ x=>x)) hok
 have hAF:=fun W (hW:Fr nope w W) (h:AFOk ns)=>AllocFn_calls W s ns ((hN.fr hW (fun _ _ x=>x)).up (Nat.le_trans hB hW.size)) h
 have hFw:=fun W (hW:Fr nope w W) (hok:ns.all okN=true)=>few_calls W B s ns (hN.fr hW (fun _ _ x=>x)) hok (Nat.le_trans hB hW.size)
 have hBd:=fun W (hW:Fr nope w W) (hok:ns.all okN=true)=>Bind_calls W s ns ((hN.fr hW (fun _ _ x=>x)).up (Nat.le_trans hB hW.size)) hok
 have hops:∀ p∈insP ns,p.Ok:=fun p hp=>by
  obtain ⟨n,hn,rfl⟩:=insP_mem hp
  exact PI.ok_of (hN.each n hn).ins
 obtain ⟨A,n,c⟩:=s
 simp only [SV.val] at hU hFG hAF hFw hBd ⊢
 clear hN
 replace hFG:=Lib.hid hFG
 replace hAF:=Lib.hid hAF
 replace hFw:=Lib.hid hFw
 replace hBd:=Lib.hid hBd
 replace hops:=Lib.hid hops
 replace hb:=Lib.hid hb
 go_enter Tryz.func5,Tryz.ntmps5
 go_wp2_with fail
 refine hU.mono ?_
 rintro e w1 ⟨hf1,b,rfl,hus⟩
 clear hU
 cases b with
 | false=>
  clear hus
  go_wp2
  try simp only [Exit.inBlock,Exit.then]
  refine bodyPost_ret (results_tmp4 rfl _ _ _) rfl ?_
  exact ⟨hf1,.inl ⟨_,_,rfl⟩⟩
 | true=>
 have hu:=hus rfl
 have hao:=hu.af hops.out hb.out
 have hok:=hu.2.1
 clear hus
 replace hu:=Lib.hid hu
 replace hao:=Lib.hid hao
 replace hok:=Lib.hid hok
 go_wp2_with fail
 refine (hFG.out _ hf1 hok.out).mono ?_
 rintro e w2 ⟨hf2,⟨A1,c1,D,d,sc,rfl,hG,hS⟩ | ⟨rfl,hbad⟩⟩
 rotate_left
 ·clear hbad
  go_wp2
  try simp only [Exit.inBlock,Exit.then]
  refine bodyPost_ret (results_tmp4 rfl _ _ _) rfl ?_
  exact ⟨hf1.then hf2,.inl ⟨_,_,rfl⟩⟩
 have hn2:=hf1.then hf2
 have hG:Hid (∃ sc,GraphP ns sc):=Lib.hid ⟨sc,hG⟩
 clear hS
 go_wp2_with fail
 refine (hAF.out _ hn2 hao.out).mono ?_
 rintro e w3 ⟨hf3,⟨hnone,rfl⟩ | ⟨f,A2,c2,l,haf,hpo,hl,rfl,hown⟩⟩
 ·have hno:=Lib.hid (few_fit hu.out hao.out hG.out hnone)
  have hn3:=hn2.then hf3
  clear hnone
  go_wp2_with fail
  refine (hFw.out _ hn3 hok.out).mono ?_
  rintro e w4 ⟨hf4,b,rfl,hfew⟩
  obtain rfl:b=false:=by
   cases b with
   | false=>rfl
   | true=>exact absurd (hfew rfl) hno.out
  clear hfew
  go_wp2
  try simp only [Exit.inBlock,Exit.then]
  refine bodyPost_ret (results_tmp4 rfl _ _ _) rfl ?_
  exact ⟨hn3.then hf4,.inl ⟨_,_,rfl⟩⟩
 ·have hn3:=hn2.then hf3
  have heq:=hpo.eq
  have hpa:=PairsAt.of hown
  have hsm:small (ofPairs l):=by
   rw [heq]
   intro v p hv
   exact (af_given haf (fun k ⟨p,hp,g,hg,e⟩=>by rw [← e];exact hu.out.kind p hp g (by unfold PI.gs;simp [hg])) v p hv).2.2.1
  replace heq:=Lib.hid heq
  replace haf:=Lib.hid haf
  replace hsm:=Lib.hid hsm
  clear hpo hown
  go_wp2_with fail
  refine (hBd.out _ hn3 hok.out A2 c2 l hpa hl hsm.out).mono ?_
  rintro e w4 ⟨hf4,A3,c3,ns',rfl,hN',hB'⟩
  rw [heq.out] at hB'
  replace hN':=Lib.hid hN'
  replace hB':=Lib.hid hB'
  go_wp2
  try simp only [Exit.inBlock,Exit.then]
  refine bodyPost_ret (results_tmp4 rfl _ _ _) rfl ?_
  exact ⟨hn3.then hf4,.inr ⟨A2,c2,l,A3,c3,ns',f,rfl,hpa.fr hf4,hl,heq.out,haf.out,hao.out,hu.out,hN'.out,hB'.out⟩⟩
end
end Go.Proofs.YtpbeedabmjmdmaaGreatDoor
