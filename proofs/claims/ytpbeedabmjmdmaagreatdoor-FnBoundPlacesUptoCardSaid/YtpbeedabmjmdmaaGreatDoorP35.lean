/- Part of the proof of a statement about pub-berthage: what its texts have in common. -/
import Derived.Test.YtpbeedabmjmdmaaGreatDoorP20
import Derived.Test.YtpbeedabmjmdmaaGreatDoorP34
namespace Go.Proofs.YtpbeedabmjmdmaaGreatDoor
section
open Go Go.RowKit Go.MapKept Bth
open Go.ChangeMaps (setBlock)
set_option maxRecDepth 100000
theorem u8Key:KeyOk Tryz.prog 5 (.int .u8) kindV:=⟨Tryz.underlying5,fun _=>rfl,fun a b h=>by simp [kindV] at h;omega⟩
theorem u32Key:KeyOk Tryz.prog 27 (.int .u32) idV:=⟨Tryz.underlying27,fun _=>rfl,fun a b h=>by simp [idV] at h;omega⟩
theorem u8bT:Tryz.prog.underlying 92=some (.map 5 4):=Tryz.underlying92
theorem u32bT:Tryz.prog.underlying 105=some (.map 27 4):=Tryz.underlying105
theorem u8iT:Tryz.prog.underlying 106=some (.map 5 3):=Tryz.underlying106
theorem zeroBo (w:World):(zeroValue 4).run Tryz.prog w = .ok (.bool false) w:=by kernel_rfl
theorem zeroIn (w:World):(zeroValue 3).run Tryz.prog w = .ok (.int .i64 0) w:=by kernel_rfl
def kinF (S:Nat→Bool) (k:Nat):Option Value:=if S k then some (.bool true) else none
def addF (S:Nat→Bool) (k:Nat):Nat→Bool:=fun x=>decide (x=k) || S x
theorem kinF_add (S:Nat→Bool) (k:Nat):kinF (addF S k)=updM (kinF S) k (some (.bool true)):=by
 funext x
 unfold kinF addF updM
 by_cases e:x=k<;>simp [e]
theorem kinF_get (S:Nat→Bool) (k:Nat):(kinF S k).getD (.bool false) = .bool (S k):=by
 unfold kinF;cases S k<;>rfl
def KM (w:World) (b:Nat) (S:Nat→Bool):Prop:=∃ ks,MapAt w b kindV ks (kinF S)
def SM (w:World) (b:Nat) (S:Nat→Bool):Prop:=∃ ks,MapAt w b idV ks (kinF S)
def cntF (C:Nat→Option Nat) (k:Nat):Option Value:=(C k).map fun n=>.int .i64 (n:Int)
def CM (w:World) (b:Nat) (C:Nat→Option Nat):Prop:=∃ ks,MapAt w b kindV ks (cntF C)
def incC (C:Nat→Option Nat) (k:Nat):Nat→Option Nat:=fun x=>if x=k then some ((C k).getD 0+1) else C x
theorem cntF_inc (C:Nat→Option Nat) (k:Nat):cntF (incC C k)=updM (cntF C) k (some (.int .i64 ((((C k).getD 0+1:Nat)):Int))):=by
 funext x
 unfold cntF incC updM
 by_cases e:x=k<;>simp [e]
theorem KM.lt {w:World} {b:Nat} {S:Nat→Bool} (h:KM w b S):b < w.heap.size:=by obtain ⟨ks,hm⟩:=h;exact hm.lt
theorem SM.lt {w:World} {b:Nat} {S:Nat→Bool} (h:SM w b S):b < w.heap.size:=by obtain ⟨ks,hm⟩:=h;exact hm.lt
theorem CM.lt {w:World} {b:Nat} {S:Nat→Option Nat} (h:CM w b S):b < w.heap.size:=by obtain ⟨ks,hm⟩:=h;exact hm.lt
theorem KM.fr {T:Nat→Prop} {w w':World} {b:Nat} {S:Nat→Bool} (h:KM w b S) (hf:Fr T w w') (hs:¬T b):KM w' b S:=by obtain ⟨ks,hm⟩:=h;exact ⟨ks,hm.fr hf hs⟩
theorem SM.fr {T:Nat→Prop} {w w':World} {b:Nat} {S:Nat→Bool} (h:SM w b S) (hf:Fr T w w') (hs:¬T b):SM w' b S:=by obtain ⟨ks,hm⟩:=h;exact ⟨ks,hm.fr hf hs⟩
theorem CM.fr {T:Nat→Prop} {w w':World} {b:Nat} {S:Nat→Option Nat} (h:CM w b S) (hf:Fr T w w') (hs:¬T b):CM w' b S:=by obtain ⟨ks,hm⟩:=h;exact ⟨ks,hm.fr hf hs⟩
theorem map_noT {K:Type} {w:World} {b:Nat} {mk:K→Value} {ks:List K} {f:K→Option Value} {T:List TypeId} (h:MapAt w b mk ks f):NoT T w (fun x=>x=b):=by
 obtain ⟨es,clock,hb,_⟩:=h
 rintro c cs t fr rfl e
 rw [hb] at e
 cases e
theorem KM.noT {w:World} {b:Nat} {S:Nat→Bool} {T:List TypeId} (h:KM w b S):NoT T w (fun x=>x=b):=by obtain ⟨ks,hm⟩:=h;exact map_noT hm
theorem SM.noT {w:World} {b:Nat} {S:Nat→Bool} {T:List TypeId} (h:SM w b S):NoT T w (fun x=>x=b):=by obtain ⟨ks,hm⟩:=h;exact map_noT hm
theorem CM.noT {w:World} {b:Nat} {S:Nat→Option Nat} {T:List TypeId} (h:CM w b S):NoT T w (fun x=>x=b):=by obtain ⟨ks,hm⟩:=h;exact map_noT hm
theorem KM.made (w:World):KM (w.alloc (.map #[] 0)) w.heap.size fun _=>false:=⟨[],MapAt.made w kindV⟩
theorem SM.made (w:World):SM (w.alloc (.map #[] 0)) w.heap.size fun _=>false:=⟨[],MapAt.made w idV⟩
theorem CM.made (w:World):CM (w.alloc (.map #[] 0)) w.heap.size fun _=>none:=⟨[],MapAt.made w kindV⟩
theorem KM.look {w:World} {b:Nat} {S:Nat→Bool} (h:KM w b S) (k:Nat):(Instr.lookup 92 (.map (some b)) (.int .u8 (k:Int)) false).run Tryz.prog w = .ok (.bool (S k)) w:=by
 obtain ⟨ks,hm⟩:=h
 have:=hm.lookup u8Key u8bT (zeroBo w) k false
 rw [show (Value.int .u8 (k:Int))=kindV k from rfl,this]
 simp only [Bool.false_eq_true,if_false,kinF_get]
theorem SM.look {w:World} {b:Nat} {S:Nat→Bool} (h:SM w b S) (k:Nat):(Instr.lookup 105 (.map (some b)) (.int .u32 (k:Int)) false).run Tryz.prog w = .ok (.bool (S k)) w:=by
 obtain ⟨ks,hm⟩:=h
 have:=hm.lookup u32Key u32bT (zeroBo w) k false
 rw [show (Value.int .u32 (k:Int))=idV k from rfl,this]
 simp only [Bool.false_eq_true,if_false,kinF_get]
theorem CM.look {w:World} {b:Nat} {C:Nat→Option Nat} (h:CM w b C) (k:Nat):(Instr.lookup 106 (.map (some b)) (.int .u8 (k:Int)) false).run Tryz.prog w = .ok (.int .i64 (((C k).getD 0:Nat):Int)) w:=by
 obtain ⟨ks,hm⟩:=h
 have:=hm.lookup u8Key u8iT (zeroIn w) k false
 rw [show (Value.int .u8 (k:Int))=kindV k from rfl,this]
 simp only [Bool.false_eq_true,if_false,cntF]
 cases C k<;>rfl
theorem KM.put {w:World} {b:Nat} {S:Nat→Bool} (h:KM w b S) (k:Nat):
  ∃ w',(Instr.mapUpdate 92 (.map (some b)) (.int .u8 (k:Int)) (.bool true)).run Tryz.prog w = .ok () w'∧KM w' b (addF S k)∧Fr (fun x=>x=b) w w'∧w'.heap.size=w.heap.size:=by
 obtain ⟨ks,hM⟩:=h
 obtain ⟨es,clock,h1,h2⟩:=hM.update u8Key u8bT k (.bool true)
 rw [← kinF_add] at h2
 exact ⟨setBlock w b (.map es clock),h1,⟨_,h2⟩,(Fr.refl (fun x=>x=b) w).setBlock (.inl rfl) _,by simp [setBlock]⟩
theorem SM.put {w:World} {b:Nat} {S:Nat→Bool} (h:SM w b S) (k:Nat):
  ∃ w',(Instr.mapUpdate 105 (.map (some b)) (.int .u32 (k:Int)) (.bool true)).run Tryz.prog w = .ok () w'∧SM w' b (addF S k)∧Fr (fun x=>x=b) w w'∧w'.heap.size=w.heap.size:=by
 obtain ⟨ks,hM⟩:=h
 obtain ⟨es,clock,h1,h2⟩:=hM.update u32Key u32bT k (.bool true)
 rw [← kinF_add] at h2
 exact ⟨setBlock w b (.map es clock),h1,⟨_,h2⟩,(Fr.refl (fun x=>x=b) w).setBlock (.inl rfl) _,by simp [setBlock]⟩
theorem CM.put {w:World} {b:Nat} {C:Nat→Option Nat} (h:CM w b C) (k:Nat) {z:Int} (hz:z=(((C k).getD 0+1:Nat):Int)):
  ∃ w',(Instr.mapUpdate 106 (.map (some b)) (.int .u8 (k:Int)) (.int .i64 z)).run Tryz.prog w = .ok () w'∧CM w' b (incC C k)∧Fr (fun x=>x=b) w w'∧w'.heap.size=w.heap.size:=by
 obtain ⟨ks,hM⟩:=h
 subst hz
 obtain ⟨es,clock,h1,h2⟩:=hM.update u8Key u8iT k (.int .i64 (((C k).getD 0+1:Nat):Int))
 rw [← cntF_inc] at h2
 exact ⟨setBlock w b (.map es clock),h1,⟨_,h2⟩,(Fr.refl (fun x=>x=b) w).setBlock (.inl rfl) _,by simp [setBlock]⟩
theorem InstrsAt.frT {S:Nat→Prop} {w w':World} {A:Option Addr} {is:List PI} (h:InstrsAt w A is) (hf:Fr S w w') (hs:NoT [38] w S):InstrsAt w' A is:=Rw.frT h hf hs (by decide)
end
section
open Go Go.RowKit Bth
set_option maxRecDepth 100000
def UsualP (ns:List PN):Prop:=ns.length≤2000∧ns.all okN=true∧∀ p∈insP ns,(∀ g∈p.gs,g.virt=true→wholeG g=true)∧(∀ g∈gsOf p.out,kindsP (insP ns) g.kind)∧(p.canc=true→1 < (gsOf p.inp).length)
def GivesU (w:World) (ns:List PN) (e:Ending) (w':World):Prop:=Fr nope w w'∧∃ b,e = .returned (.bool b)∧(b=true→UsualP ns)
def KOk (is:List PI) (S:Nat→Bool):Prop:=∀ x,S x=true→kindsP is x
theorem KOk.none (is:List PI):KOk is fun _=>false:=fun _ h=>by cases h
theorem KOk.add {is:List PI} {S:Nat→Bool} (h:KOk is S) {p:PI} (hp:p∈is) {g:G} (hg:g∈gsOf p.ops):KOk is (addF S g.kind):=fun x hx=>by
 unfold addF at hx
 by_cases e:x=g.kind
 ·exact ⟨p,hp,g,hg,e.symm⟩
 ·rw [decide_eq_false e,Bool.false_or] at hx;exact h x hx
theorem gsOf_few {ps:List PO} : (gsOf ps).length≤2*ps.length:=by
 unfold gsOf
 induction ps with
 | nil=>simp
 | cons p ps ih=>rw [List.flatMap_cons,List.length_append,List.length_cons];have:=p.gs_len;omega
theorem PI.gs_few {w:World} {B:Nat} {p:PI} (h:p.At w B):p.gs.length≤6291456:=by
 have h1:=gsOf_few (ps:=p.ops)
 have h2:=gsOf_few (ps:=p.inp)
 have h3:=gsOf_few (ps:=p.out)
 obtain ⟨_,f1,f2,f3,_⟩:=h.few
 unfold PI.gs
 rw [List.length_append,List.length_append]
 omega
theorem VOk_snoc {l:List G} {g:G} (h:∀ x∈l,x.virt=true→wholeG x=true) (hg:g.virt=true→wholeG g=true):∀ x∈l ++ [g],x.virt=true→wholeG x=true:=fun x hx=>by
 rcases List.mem_append.1 hx with hx | hx
 ·exact h x hx
 ·rw [List.mem_singleton.1 hx];exact hg
theorem all_snoc {α : Type} {P:α → Prop} {l:List α} {g:α} (h:∀ x∈l,P x) (hg:P g):∀ x∈l ++ [g],P x:=fun x hx=>by
 rcases List.mem_append.1 hx with hx | hx
 ·exact h x hx
 ·rw [List.mem_singleton.1 hx];exact hg
theorem kinds_of {is:List PI} {ps:List PO} (h:∀ q∈ps,∀ g∈q.gs,kindsP is g.kind):∀ g∈gsOf ps,kindsP is g.kind:=fun g hg=>by
 obtain ⟨q,hq,hg⟩:=List.mem_flatMap.1 hg
 exact h q hq g hg
theorem canc_of {b:Bool} {n:Nat} (h:(!b || decide (1 < n))=true):b=true→1 < n:=by
 rintro rfl
 simpa using h
theorem gs_mem {p:PO} {ps:List PO} {g:G} (hp:p∈ps) (hg:g∈p.gs):g∈gsOf ps:=List.mem_flatMap.2 ⟨p,hp,hg⟩
def UsI (is:List PI) (p:PI):Prop:=(∀ g∈p.gs,g.virt=true→wholeG g=true)∧(∀ g∈gsOf p.out,kindsP is g.kind)∧(p.canc=true→1 < (gsOf p.inp).length)
set_option maxHeartbeats 4000000 in
theorem usual_calls (w:World) (B:Nat) (s:SV) (ns:List PN) (hN:NodesAt w B s ns) (hB:B≤w.heap.size):Calls Tryz.prog 15 #[s.val] w (GivesU w ns):=by
 have hNO:=NodesOK_calls w B s ns hN
 have hLK:=fun W (hW:Fr nope w W)=>LabelsKnown_calls W B s ns (hN.fr hW (fun _ _ x=>x))
 have hI:=fun W (hW:Fr nope w W)=>Instrs_calls W B s ns (hN.fr hW (fun _ _ x=>x))
 have hat:=fun (hok:ns.all okN=true)=>insP_at hN hok
 have hmm:=@run_makeMap Tryz.prog
 have hlen:(insP ns).length≤ns.length:=by unfold insP;rw [List.length_map];exact List.length_filter_le _ _
 obtain ⟨A,n,c⟩:=s
 obtain rfl:n=ns.length:=hN.len
 simp only [SV.val] at hNO hLK hI ⊢
 clear hN
 replace hLK:=Lib.hid hLK
 replace hI:=Lib.hid hI
 unfold GivesB at hNO
 go_enter Tryz.func15,Tryz.ntmps15
 by_cases h2000:(2000:Int) < (ns.length:Int)
 ·clear hlen
  go_wp2_with fail
  go_ret
  exact ⟨Fr.refl _ _,false,rfl,fun h=>by cases h⟩
 go_wp2_with fail
 refine hNO.mono ?_
 rintro e w1 ⟨rfl,hf1⟩
 clear hNO
 cases hok:ns.all okN with
 | false=>
  replace hok:=Lib.hid hok
  clear hlen
  go_wp2
  go_ret
  exact ⟨hf1,false,rfl,fun h=>by cases h⟩
 | true=>
 have hat:=hat hok
 replace hok:=Lib.hid hok
 replace hat:=Lib.hid hat
 go_wp2_with fail
 refine (hLK.out _ hf1).mono ?_
 rintro e w2 ⟨b,rfl,hf2⟩
 have hn2:=hf1.then hf2
 clear hf1 hf2 hLK
 cases b with
 | false=>
  clear hlen
  go_wp2
  go_ret
  exact ⟨hn2,false,rfl,fun h=>by cases h⟩
 | true=>
 have hns:ns.length≤2000:=by omega
 go_wp2_with fail
 refine (hI.out _ (hn2.alloc _)).mono ?_
 rintro e w4 ⟨hf4,Aa,ca,rfl,hins⟩
 have hK4:KM w4 w2.heap.size fun _=>false:=(KM.made w2).fr hf4 (fun x=>x)
 have hn4:=(hn2.alloc _).then hf4
 have hsz2:=hn2.size
 have hlt4:=hK4.lt
 obtain ⟨is,his⟩:∃ is,is=insP ns:=⟨_,rfl⟩
 rw [← his] at hins hlen hat ⊢
 replace his:=Lib.hid his
 obtain ⟨bm,hbm⟩:∃ x,x=w2.heap.size:=⟨_,rfl⟩
 rw [← hbm] at hK4 hlt4 hsz2 ⊢
 replace hbm:=Lib.hid hbm
 replace hns:=Lib.hid (⟨hns,hlen⟩:ns.length≤2000∧is.length≤ns.length)
 replace hlen:is.length≤2000:=by have:=hns.out;omega
 have hM4:=hK4.noT (T:=[38])
 go_wp2
 go_loopg [39] is.length (fun m c39 wx=>∃ (k:Nat) (S:Nat→Bool),k≤is.length∧c39 = .int .i64 (k:Int)∧KM wx bm S∧Hid (KOk is S)∧Fr (fun x=>x=bm) w4 wx∧m=is.length - k)
 case atStart=>exact ⟨0,_,Nat.zero_le _,rfl,hK4,Lib.hid (KOk.none is),Fr.refl _ _,rfl⟩
 case round=>
  obtain ⟨k,S,hk,rfl,hK,hKo,hf,rfl⟩:=hrel
  by_cases hlt:k < is.length
  ·obtain ⟨p,hx⟩:∃ x,is[k]? = some x:=⟨_,List.getElem?_eq_getElem hlt⟩
   obtain ⟨b,off,hBe,hbl,hr⟩:=(hins.frT hf hM4).at_ PI.list_len hx
   subst hBe
   have hpm:=List.mem_of_getElem? hx
   obtain ⟨hpa,hpo⟩:=hat.out p hpm
   have hpa:=hpa.fr (hn4.trans hf (U:=fun x=>x=bm) (fun _ _ e=>e.elim) (fun _ _ e=>e)) (fun x hx e=>by omega)
   replace hpm:=Lib.hid hpm
   replace hx:=Lib.hid hx
   have hszr:=hf.size
   go_wp2_with (first
    | (refine wpList_load_mid rfl _ _ rfl b (off+k*10) rfl p.cells.toList _ hr Tryz.underlying38 rfl (by kernel_rfl) ?_)
    | (refine wpList_storeRow (b:=wr.heap.size) (cells:=p.cells) rfl rfl rfl rfl (heap_alloc_new _ _) rfl (by kernel_rfl) (by kernel_rfl) ?_;intro w5 hb5 hf5;have hn5:Fr nope wr w5:=((Fr.refl nope wr).alloc _).then_new hf5 (fun x hx e=>by omega);have hc2:=cell_of_row _ _ 2 _ _ (0,0) hb5;replace hc2:w5.cell? ⟨wr.heap.size,2,none⟩=some p.opsV.val:=hc2;have hps:=(hpa.fr hn5 (fun _ _ x=>x)).ops;obtain ⟨⟨Ax,nx,cx⟩,hsv⟩:∃ s,s=p.opsV:=⟨_,rfl⟩;rw [← hsv] at hc2 hps;obtain rfl:nx=p.ops.length:=hps.1;have hd2:w5.cell? ⟨wr.heap.size,2,none⟩=some (.slice Ax p.ops.length cx):=hc2;clear hc2 hb5))
   have hM5:∀ T,NoT T w5 (fun x=>x=bm):=fun T=>(hK.fr hn5 (fun x=>x)).noT
   have hpol:p.ops.length≤1048576:=hpa.few.2.1
   have hpok:p.ops.all okP=true:=by
    unfold okI at hpo
    simp only [Bool.and_eq_true] at hpo
    exact hpo.1.1
   have hf5':Fr (fun x=>x=bm) w4 w5:=hf.trans hn5 (fun _ _ e=>e) (fun _ _ e=>e.elim)
   have hb5:0 < p.ops.length→∀ b off,Ax=some ⟨b,off,none⟩→¬b=bm:=fun hn b off e=>by have:=hpa.below p.opsV (by simp) (by have:=hpa.ops.1;omega) b off (by rw [← hsv];exact e);omega
   have hK5:=hK.fr hn5 (fun x=>x)
   have hsz5:=hn5.size
   replace hsv:=Lib.hid hsv
   replace hpok:=Lib.hid hpok
   replace hb5:=Lib.hid hb5
   clear hpa hpo hr hK hf
   go_loopg [46] p.ops.length (fun m c46 wx=>∃ (j:Nat) (S:Nat→Bool),j≤p.ops.length∧c46 = .int .i64 (j:Int)∧KM wx bm S∧Hid (KOk is S)∧Fr (fun x=>x=bm) w5 wx∧m=p.ops.length - j)
   case atStart=>exact ⟨0,S,Nat.zero_le _,rfl,hK5,hKo,Fr.refl _ _,rfl⟩
   case round=>
    clear hK5 hKo
    obtain ⟨j,S,hj,rfl,hK,hKo,hf,rfl⟩:=hrel
    by_cases hjl:j < p.ops.length
    ·obtain ⟨bo,oo,hAe,hbb,hc⟩:=(hps.fr hf (fun _=>hb5.out (by omega))).2 (by omega)
     simp only at hAe
     subst hAe
     obtain ⟨q,hqk⟩:∃ q,p.ops[j]? = some q:=⟨_,List.getElem?_eq_getElem hjl⟩
     have hc:=hc j q hqk
     have hqm:=List.mem_of_getElem? hqk
     have hokq:okP q=true:=List.all_eq_true.1 hpok.out q hqm
     have hql:=q.gs_len
     replace hqm:=Lib.hid hqm
     have hszj:=hf.size
     clear hqk
     go_wp2_with (first
      | (refine wpList_load_mid rfl _ _ rfl bo (oo+j*24) rfl q.cells.toList _ hc Tryz.underlying45 rfl (by kernel_rfl) ?_)
      | (refine wpList_storeRow (b:=wr.heap.size) (cells:=q.cells) rfl rfl rfl rfl (heap_alloc_new _ _) rfl (by kernel_rfl) (by kernel_rfl) ?_;intro w6 hb6 hf6)
      | (refine wpList_loadRow (b:=wr.heap.size) (cells:=q.cells) rfl rfl rfl hb6 Tryz.underlying45 rfl (by kernel_rfl) ?_))
     have hn6:Fr nope wr w6:=((Fr.refl nope wr).alloc _).then_new hf6 (fun x hx e=>by omega)
     refine (OpRegisters_calls w6 q hokq).mono ?_
     rintro e w7 ⟨hf7,A9,c9,rfl,hown7⟩
     have hn7:=hn6.then hf7
     have hrow:=Rw.of_own hown7
     have hK7:=hK.fr hn7 (fun x=>x)
     have hT7:∀ T,NoT T w7 (fun x=>x=bm):=fun T=>hK7.noT
     have hf7':Fr (fun x=>x=bm) w5 w7:=hf.trans hn7 (fun _ _ e=>e) (fun _ _ e=>e.elim)
     have hsz7:=hn7.size
     clear hb6 hf6 hc hown7 hokq
     go_wp2
     go_loopg [57] q.gs.length (fun m c57 wx=>∃ (i:Nat) (S:Nat→Bool),i≤q.gs.length∧c57 = .int .i64 (i:Int)∧KM wx bm S∧Hid (KOk is S)∧Fr (fun x=>x=bm) w7 wx∧m=q.gs.length - i)
     case atStart=>exact ⟨0,S,Nat.zero_le _,rfl,hK7,hKo,Fr.refl _ _,rfl⟩
     case round=>
      clear hK7 hKo hK hf
      obtain ⟨i,S,hi,rfl,hK,hKo,hf,rfl⟩:=hrel
      by_cases hil:i < q.gs.length
      ·obtain ⟨g,hg⟩:∃ g,q.gs[i]? = some g:=⟨_,List.getElem?_eq_getElem hil⟩
       obtain ⟨br,ro,hRe,hrb,hrr⟩:=(hrow.frT hf (hT7 [40]) (by decide)).at_ G.cells_len hg
       subst hRe
       have hgm:=Lib.hid (gs_mem hqm.out (List.mem_of_getElem? hg))
       replace hg:=Lib.hid hg
       have hszi:=hf.size
       go_wp2_with (first
        | (refine wpList_load_mid rfl _ _ rfl br (ro+i*4) rfl g.cells _ hrr Tryz.underlying40 rfl (by kernel_rfl) ?_)
        | (refine wpList_storeRow (b:=wr.heap.size) (cells:=#[.bool g.virt,.int .u8 (g.kind:Int),.int .u16 (g.idx:Int),.int .u16 (g.spec:Int)]) rfl rfl rfl rfl (heap_alloc_new _ _) rfl (by kernel_rfl) (by kernel_rfl) ?_;intro w8 hb8 hf8;have hc8:=cell_of_row _ _ 1 _ _ (0,0) hb8;replace hc8:w8.cell? ⟨wr.heap.size,1,none⟩=some (.int .u8 (g.kind:Int)):=hc8;have hn8:Fr nope wr w8:=((Fr.refl nope wr).alloc _).then_new hf8 (fun x hx e=>by omega);obtain ⟨w9,hu9,hK9,hf9,hs9⟩:=(hK.fr hn8 (fun x=>x)).put g.kind;clear hb8))
       go_roundg (q.gs.length - (i+1))
       case measure=>omega
       case rel=>exact ⟨i+1,addF S g.kind,by omega,by go_num,hK9,Lib.hid (hKo.out.add hpm.out hgm.out),(hf.trans hn8 (U:=fun x=>x=bm) (fun _ _ e=>e) (fun _ _ e=>e.elim)).then hf9,rfl⟩
      ·go_wp2
       go_roundg (p.ops.length - (j+1))
       case measure=>omega
       case rel=>exact ⟨j+1,S,by omega,by go_num,hK,hKo,hf7'.then hf,rfl⟩
    ·go_wp2
     go_roundg (is.length - (k+1))
     case measure=>omega
     case rel=>exact ⟨k+1,S,by omega,by go_num,hK,hKo,hf5'.then hf,rfl⟩
  ·have hnr:Fr nope w wr:=hn4.then_new hf (fun x hx e=>by omega)
   have hszr:=hf.size
   have hbmr:=hK.lt
   clear hf hins hK4 hM4
   go_wp2_with fail
   refine (hI.out _ hnr).mono ?_
   rintro e w9 ⟨hf9,Ab,cb,rfl,hins⟩
   rw [← his.out] at hins ⊢
   have hn9:=hnr.then hf9
   have hK9:=hK.fr hf9 (fun x=>x)
   clear hK hf9 hI
   go_wp2
   go_loopg [70] is.length (fun m c70 wx=>∃ k:Nat,k≤is.length∧c70 = .int .i64 (k:Int)∧Hid (∀ p∈is.take k,UsI is p)∧Fr nope w9 wx∧m=is.length - k)
   case atStart=>exact ⟨0,Nat.zero_le _,rfl,Lib.hid (by simp),Fr.refl _ _,rfl⟩
   case round=>
    obtain ⟨k,hk,rfl,hU,hf,rfl⟩:=hrel
    by_cases hlt:k < is.length
    ·obtain ⟨p,hx⟩:∃ x,is[k]? = some x:=⟨_,List.getElem?_eq_getElem hlt⟩
     obtain ⟨b,off,hBe,hbl,hr⟩:=(Rw.nope hins hf).at_ PI.list_len hx
     subst hBe
     obtain ⟨hpa,hpo⟩:=hat.out p (List.mem_of_getElem? hx)
     have hpa:=hpa.fr (hn9.then hf) (fun x hx e=>e)
     have hT:=Lib.hid (take_snoc hx)
     replace hx:=Lib.hid hx
     have hszr:=hf.size
     have hInK:=fun W (hW:Fr nope wr W)=>InputsKnown_calls W B p (hpa.fr hW (fun _ _ x=>x)) hpo
     have hgl:p.gs.length≤6291456:=PI.gs_few hpa
     unfold GivesB PI.agg at hInK
     replace hInK:=Lib.hid hInK
     go_wp2_with (first
      | (refine wpList_load_mid rfl _ _ rfl b (off+k*10) rfl p.cells.toList _ hr Tryz.underlying38 rfl (by kernel_rfl) ?_)
      | (refine wpList_storeRow (b:=wr.heap.size) (cells:=p.cells) rfl rfl rfl rfl (heap_alloc_new _ _) rfl (by kernel_rfl) (by kernel_rfl) ?_;intro w5 hb5 hf5)
      | (refine wpList_loadRow (b:=wr.heap.size) (cells:=p.cells) rfl rfl rfl hb5 Tryz.underlying38 rfl (by kernel_rfl) ?_))
     have hn5:Fr nope wr w5:=((Fr.refl nope wr).alloc _).then_new hf5 (fun x hx e=>by omega)
     refine (all_calls w5 B p (hpa.fr hn5 (fun _ _ x=>x)) hpo).mono ?_
     rintro e w6 ⟨hf6,Ag,cg,rfl,hown6⟩
     have hn6:=hn5.then hf6
     have hrow:=Rw.of_own hown6
     have hsz6:=hn6.size
     have hb6:=hf6.heap hb5 (fun x=>x)
     have hpa6:=hpa.fr hn6 (fun _ _ x=>x)
     clear hb5 hf5 hr hown6 hpa
     replace hInK:=Lib.hid (fun W (hW:Fr nope w6 W)=>hInK.out W (hn6.then hW))
     have hn6':=hf.then hn6
     clear hn6 hn5 hf6 hf
     obtain ⟨b5,hb5e⟩:∃ x,x=wr.heap.size:=⟨_,rfl⟩
     rw [← hb5e] at hb6 hszr hsz6 ⊢
     replace hb5e:=Lib.hid hb5e
     go_wp2
     go_loopg [77] p.gs.length (fun m c77 wx=>∃ i:Nat,i≤p.gs.length∧c77 = .int .i64 (i:Int)∧Hid (∀ g∈p.gs.take i,g.virt=true→wholeG g=true)∧Fr nope w6 wx∧m=p.gs.length - i)
     case atStart=>exact ⟨0,Nat.zero_le _,rfl,Lib.hid (by simp),Fr.refl _ _,rfl⟩
     case round=>
      obtain ⟨i,hi,rfl,hV,hg6,rfl⟩:=hrel
      by_cases hil:i < p.gs.length
      ·obtain ⟨g,hg⟩:∃ g,p.gs[i]? = some g:=⟨_,List.getElem?_eq_getElem hil⟩
       obtain ⟨br,ro,hRe,hrb,hrr⟩:=(hrow.nope hg6).at_ G.cells_len hg
       subst hRe
       have hTg:=Lib.hid (take_snoc hg)
       replace hg:=Lib.hid hg
       have hszi:=hg6.size
       cases hv:g.virt with
       | false=>
        go_wp2_with (first
        | (refine wpList_load_mid rfl _ _ rfl br (ro+i*4) rfl g.cells _ hrr Tryz.underlying40 rfl (by kernel_rfl) ?_)
        | (refine wpList_storeRow (b:=wr.heap.size) (cells:=#[.bool g.virt,.int .u8 (g.kind:Int),.int .u16 (g.idx:Int),.int .u16 (g.spec:Int)]) rfl rfl rfl rfl (heap_alloc_new _ _) rfl (by kernel_rfl) (by kernel_rfl) ?_;intro w8 hb8 hf8;have hc8:=cell_of_row _ _ 0 _ _ (0,0) hb8;replace hc8:w8.cell? ⟨wr.heap.size,0,none⟩=some (.bool g.virt):=hc8;rw [hv] at hc8;have hn8:Fr nope wr w8:=((Fr.refl nope wr).alloc _).then_new hf8 (fun x hx e=>by omega))
        | (refine wpList_loadRow (b:=wr.heap.size) (cells:=#[.bool g.virt,.int .u8 (g.kind:Int),.int .u16 (g.idx:Int),.int .u16 (g.spec:Int)]) rfl rfl rfl hb8 Tryz.underlying40 rfl (by kernel_rfl) ?_))
        replace hv:=Lib.hid hv
        go_roundg (p.gs.length - (i+1))
        case measure=>omega
        case rel=>exact ⟨i+1,by omega,by go_num,Lib.hid (by rw [hTg.out];exact VOk_snoc hV.out (fun h=>by rw [hv.out] at h;cases h)),hg6.then hn8,rfl⟩
       | true=>
        go_wp2_with (first
        | (refine wpList_load_mid rfl _ _ rfl br (ro+i*4) rfl g.cells _ hrr Tryz.underlying40 rfl (by kernel_rfl) ?_)
        | (refine wpList_storeRow (b:=wr.heap.size) (cells:=#[.bool g.virt,.int .u8 (g.kind:Int),.int .u16 (g.idx:Int),.int .u16 (g.spec:Int)]) rfl rfl rfl rfl (heap_alloc_new _ _) rfl (by kernel_rfl) (by kernel_rfl) ?_;intro w8 hb8 hf8;have hc8:=cell_of_row _ _ 0 _ _ (0,0) hb8;replace hc8:w8.cell? ⟨wr.heap.size,0,none⟩=some (.bool g.virt):=hc8;rw [hv] at hc8;have hd1:w8.cell? ⟨wr.heap.size,1,none⟩=some (.int .u8 (g.kind:Int)):=cell_of_row _ _ 1 _ _ (0,0) hb8;have hd2:w8.cell? ⟨wr.heap.size,2,none⟩=some (.int .u16 (g.idx:Int)):=cell_of_row _ _ 2 _ _ (0,0) hb8;have hd3:w8.cell? ⟨wr.heap.size,3,none⟩=some (.int .u16 (g.spec:Int)):=cell_of_row _ _ 3 _ _ (0,0) hb8;have hn8:Fr nope wr w8:=((Fr.refl nope wr).alloc _).then_new hf8 (fun x hx e=>by omega)))
        have hW:=whole_calls w8 g
        unfold G.agg at hW
        rw [hv] at hW
        refine hW.mono ?_
        rintro e w9' ⟨rfl,hf9⟩
        clear hb8 hc8 hd1 hd2 hd3 hW
        cases hw:wholeG g with
        | false=>
         replace hw:=Lib.hid hw
         go_wp2
         go_ret
         exact ⟨((hn9.then hn6').then hg6).then (hn8.then hf9),false,rfl,fun h=>by cases h⟩
        | true=>
         replace hw:=Lib.hid hw
         go_wp2
         go_roundg (p.gs.length - (i+1))
         case measure=>omega
         case rel=>exact ⟨i+1,by omega,by go_num,Lib.hid (by rw [hTg.out];exact VOk_snoc hV.out (fun _=>hw.out)),hg6.then (hn8.then hf9),rfl⟩
      ·rw [take_all hil] at hV
       have hszi:=hg6.size
       have hc4:=cell_of_row _ _ 4 _ _ (0,0) (hg6.heap hb6 (fun x=>x))
       replace hc4:wr.cell? ⟨b5,4,none⟩=some p.outV.val:=hc4
       have hps:=hpa6.out
       obtain ⟨⟨Ax,nx,cx⟩,hsv⟩:∃ s,s=p.outV:=⟨_,rfl⟩
       rw [← hsv] at hc4 hps
       obtain rfl:nx=p.out.length:=hps.1
       have hd4:wr.cell? ⟨b5,4,none⟩=some (.slice Ax p.out.length cx):=hc4
       have hpol:p.out.length≤1048576:=hpa6.few.2.2.2.1
       have hpok:p.out.all okP=true:=by
        unfold okI at hpo
        simp only [Bool.and_eq_true] at hpo
        exact hpo.2
       replace hpok:=Lib.hid hpok
       clear hc4 hsv hrow
       go_wp2
       go_loopg [92] p.out.length (fun m c92 wx=>∃ j:Nat,j≤p.out.length∧c92 = .int .i64 (j:Int)∧Hid (∀ q∈p.out.take j,∀ g∈q.gs,kindsP is g.kind)∧Fr nope w6 wx∧m=p.out.length - j)
       case atStart=>exact ⟨0,Nat.zero_le _,rfl,Lib.hid (by simp),hg6,rfl⟩
       case round=>
        clear hg6 hd4
        obtain ⟨j,hj,rfl,hKs,hg6,rfl⟩:=hrel
        have hszj:=hg6.size
        by_cases hjl:j < p.out.length
        ·obtain ⟨bo,oo,hAe,hbb,hc⟩:=(hps.nope hg6).2 (by omega)
         simp only at hAe
         subst hAe
         obtain ⟨q,hqk⟩:∃ q,p.out[j]? = some q:=⟨_,List.getElem?_eq_getElem hjl⟩
         have hc:=hc j q hqk
         have hokq:okP q=true:=List.all_eq_true.1 hpok.out q (List.mem_of_getElem? hqk)
         have hql:=q.gs_len
         have hTq:=Lib.hid (take_snoc hqk)
         clear hqk
         go_wp2_with (first
          | (refine wpList_load_mid rfl _ _ rfl bo (oo+j*24) rfl q.cells.toList _ hc Tryz.underlying45 rfl (by kernel_rfl) ?_)
          | (refine wpList_storeRow (b:=wr.heap.size) (cells:=q.cells) rfl rfl rfl rfl (heap_alloc_new _ _) rfl (by kernel_rfl) (by kernel_rfl) ?_;intro w7 hb7 hf7)
          | (refine wpList_loadRow (b:=wr.heap.size) (cells:=q.cells) rfl rfl rfl hb7 Tryz.underlying45 rfl (by kernel_rfl) ?_))
         have hn7:Fr nope wr w7:=((Fr.refl nope wr).alloc _).then_new hf7 (fun x hx e=>by omega)
         refine (OpRegisters_calls w7 q hokq).mono ?_
         rintro e w8 ⟨hf8,A9,c9,rfl,hown8⟩
         have hn8:=hg6.then (hn7.then hf8)
         have hrow:=Rw.of_own hown8
         clear hb7 hf7 hc hown8 hokq hn7 hf8
         go_wp2
         go_loopg [103] q.gs.length (fun m c103 wx=>∃ i:Nat,i≤q.gs.length∧c103 = .int .i64 (i:Int)∧Hid (∀ g∈q.gs.take i,kindsP is g.kind)∧Fr nope w8 wx∧m=q.gs.length - i)
         case atStart=>exact ⟨0,Nat.zero_le _,rfl,Lib.hid (by simp),Fr.refl _ _,rfl⟩
         case round=>
          obtain ⟨i,hi,rfl,hKi,hg8,rfl⟩:=hrel
          by_cases hil:i < q.gs.length
          ·obtain ⟨g,hg⟩:∃ g,q.gs[i]? = some g:=⟨_,List.getElem?_eq_getElem hil⟩
           obtain ⟨br,ro,hRe,hrb,hrr⟩:=(hrow.nope hg8).at_ G.cells_len hg
           subst hRe
           have hTg:=Lib.hid (take_snoc hg)
           replace hg:=Lib.hid hg
           have hKw:=hK9.fr ((hn6'.then hn8).then hg8) (fun x=>x)
           cases hS:S g.kind with
           | false=>
            go_wp2_with (first
             | (refine wpList_load_mid rfl _ _ rfl br (ro+i*4) rfl g.cells _ hrr Tryz.underlying40 rfl (by kernel_rfl) ?_)
             | (refine wpList_storeRow (b:=wr.heap.size) (cells:=#[.bool g.virt,.int .u8 (g.kind:Int),.int .u16 (g.idx:Int),.int .u16 (g.spec:Int)]) rfl rfl rfl rfl (heap_alloc_new _ _) rfl (by kernel_rfl) (by kernel_rfl) ?_;intro w9 hb9 hf9;have hc9:=cell_of_row _ _ 1 _ _ (0,0) hb9;replace hc9:w9.cell? ⟨wr.heap.size,1,none⟩=some (.int .u8 (g.kind:Int)):=hc9;have hn10:Fr nope wr w9:=((Fr.refl nope wr).alloc _).then_new hf9 (fun x hx e=>by omega);have hlk:=(hKw.fr hn10 (fun x=>x)).look g.kind;rw [hS] at hlk;clear hb9))
            go_ret
            exact ⟨(((hn9.then hn6').then hn8).then hg8).then hn10,false,rfl,fun h=>by cases h⟩
           | true=>
            go_wp2_with (first
             | (refine wpList_load_mid rfl _ _ rfl br (ro+i*4) rfl g.cells _ hrr Tryz.underlying40 rfl (by kernel_rfl) ?_)
             | (refine wpList_storeRow (b:=wr.heap.size) (cells:=#[.bool g.virt,.int .u8 (g.kind:Int),.int .u16 (g.idx:Int),.int .u16 (g.spec:Int)]) rfl rfl rfl rfl (heap_alloc_new _ _) rfl (by kernel_rfl) (by kernel_rfl) ?_;intro w9 hb9 hf9;have hc9:=cell_of_row _ _ 1 _ _ (0,0) hb9;replace hc9:w9.cell? ⟨wr.heap.size,1,none⟩=some (.int .u8 (g.kind:Int)):=hc9;have hn10:Fr nope wr w9:=((Fr.refl nope wr).alloc _).then_new hf9 (fun x hx e=>by omega);have hlk:=(hKw.fr hn10 (fun x=>x)).look g.kind;rw [hS] at hlk;replace hS:=Lib.hid hS;clear hb9))
            go_roundg (q.gs.length - (i+1))
            case measure=>omega
            case rel=>exact ⟨i+1,by omega,by go_num,Lib.hid (by rw [hTg.out];exact all_snoc hKi.out (hKo.out _ hS.out)),hg8.then hn10,rfl⟩
          ·rw [take_all hil] at hKi
           go_wp2
           go_roundg (p.out.length - (j+1))
           case measure=>omega
           case rel=>exact ⟨j+1,by omega,by go_num,Lib.hid (by rw [hTq.out];exact all_snoc hKs.out hKi.out),hn8.then hg8,rfl⟩
        ·rw [take_all hjl] at hKs
         have hb7:=hg6.heap hb6 (fun x=>x)
         go_wp2_with (refine wpList_loadRow (b:=b5) (cells:=p.cells) rfl rfl rfl hb7 Tryz.underlying38 rfl (by kernel_rfl) ?_)
         refine (hInK.out _ hg6).mono ?_
         rintro e w8 ⟨rfl,hf8⟩
         clear hb7
         cases hkb:(!p.canc || decide (1 < (gsOf p.inp).length)) with
         | false=>
          replace hkb:=Lib.hid hkb
          go_wp2
          go_ret
          exact ⟨((hn9.then hn6').then hg6).then hf8,false,rfl,fun h=>by cases h⟩
         | true=>
          replace hkb:=Lib.hid hkb
          go_wp2
          go_roundg (is.length - (k+1))
          case measure=>omega
          case rel=>exact ⟨k+1,by omega,by go_num,Lib.hid (by rw [hT.out];exact all_snoc hU.out ⟨hV.out,kinds_of hKs.out,canc_of hkb.out⟩),(hn6'.then hg6).then hf8,rfl⟩
    ·rw [take_all hlt] at hU
     go_wp2
     go_ret
     exact ⟨hn9.then hf,true,rfl,fun _=>⟨hns.out.1,hok.out,by rw [← his.out];exact hU.out⟩⟩
end
end Go.Proofs.YtpbeedabmjmdmaaGreatDoor
