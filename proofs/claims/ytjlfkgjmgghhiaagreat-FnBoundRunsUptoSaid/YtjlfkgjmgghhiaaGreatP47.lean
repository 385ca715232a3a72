/- Part of the proof of a statement about pub-berthage: what its texts have in common. -/
import Derived.BigQuiet
import Derived.Test.YtjlfkgjmgghhiaaGreatP25
import Derived.Test.YtjlfkgjmgghhiaaGreatP33
import Derived.Test.YtjlfkgjmgghhiaaGreatP35
import Derived.Test.YtjlfkgjmgghhiaaGreatP40
import Derived.Test.YtjlfkgjmgghhiaaGreatP42
import Derived.Test.YtjlfkgjmgghhiaaGreatP43
import Derived.Test.YtjlfkgjmgghhiaaGreatP46
namespace Go.Proofs.YtjlfkgjmgghhiaaGreat
section
open Go Go.RowKit Bth
set_option maxRecDepth 100000
def lfOf (is:List PI) (sc:Nat→List (Option Nat)):LF:=
 { n:=is.length,sc:=sc,W:=fun k=>match is[k]? with | some p=>wrT p | none=>[],R:=fun k=>match is[k]? with | some p=>rdT p | none=>[],U:=is.flatMap fun p=>(inGs p.canc p.inp p.out).map G.id }
theorem lfOf_rows {is:List PI} {sc:Nat→List (Option Nat)} : (List.range is.length).map (lfOf is sc).R=is.map rdT∧(List.range is.length).map (lfOf is sc).W=is.map wrT:=by
 constructor
 ·refine List.ext_getElem? fun k=>?_
  rw [List.getElem?_map,List.getElem?_map]
  by_cases h:k < is.length
  ·rw [List.getElem?_range h,List.getElem?_eq_getElem h]
   simp only [Option.map_some,lfOf,List.getElem?_eq_getElem h]
  ·rw [List.getElem?_eq_none (by simpa using h),List.getElem?_eq_none (by omega)];rfl
 ·refine List.ext_getElem? fun k=>?_
  rw [List.getElem?_map,List.getElem?_map]
  by_cases h:k < is.length
  ·rw [List.getElem?_range h,List.getElem?_eq_getElem h]
   simp only [Option.map_some,lfOf,List.getElem?_eq_getElem h]
  ·rw [List.getElem?_eq_none (by simpa using h),List.getElem?_eq_none (by omega)];rfl
def okA (is:List PI):Prop:=∀ p∈is,(∀ g∈inGs p.canc p.inp p.out,g.Ok)∧(∀ g∈outGs p.out,g.Ok)
theorem okA_of {w:World} {B:Nat} {is:List PI} (h:∀ p∈is,p.At w B∧okI p=true):okA is:=fun p hp=>by
 obtain ⟨h1,h2⟩:=h p hp
 obtain ⟨a,b⟩:=h1.okGs h2
 exact ⟨fun g hg=>(a g hg).2,fun g hg=>(b g hg).2⟩
theorem lfOf_flow {is:List PI} {sc:Nat→List (Option Nat)} (h:okA is):(lfOf is sc).flow=flowP is sc:=by
 have e1:(fun k=>tv ((lfOf is sc).R k))=useP is:=by
  funext k
  unfold useP lfOf
  cases hk:is[k]? with
  | none=>simp only [hk];rfl
  | some p=>simp only [hk];exact (tlOf_spec (h p (List.mem_of_getElem? hk)).1).2
 have e2:(fun k=>tv ((lfOf is sc).W k))=defP is:=by
  funext k
  unfold defP lfOf
  cases hk:is[k]? with
  | none=>simp only [hk];rfl
  | some p=>simp only [hk];exact (tlOf_spec (h p (List.mem_of_getElem? hk)).2).2
 unfold LF.flow
 rw [e1,e2]
 rfl
theorem tlOf_ids {gs:List G} {c:Nat} (h:ofGs gs c≠0):c∈gs.map G.id:=by
 unfold ofGs at h
 have key:∀ (gs:List G) (F:Nat→Nat),gs.foldl (fun F g=>orM F g.id g.spec) F c≠0→F c≠0∨c∈gs.map G.id:=by
  intro gs
  induction gs with
  | nil=>exact fun F h=>.inl h
  | cons g gs ih=>
   intro F h
   rw [List.foldl_cons] at h
   rcases ih _ h with h | h
   ·by_cases e:c=g.id
    ·exact .inr (by rw [e];simp)
    ·unfold orM at h
     rw [if_neg e] at h
     exact .inl h
   ·exact .inr (by rw [List.map_cons];exact List.mem_cons_of_mem _ h)
 rcases key gs _ h with h | h
 ·exact absurd rfl h
 ·exact h
theorem lfOf_ok {is:List PI} {sc:Nat→List (Option Nat)} (h:okA is) (hs:∀ k s,k < is.length→some s∈sc k→s < is.length):(lfOf is sc).Ok:=by
 refine ⟨fun k=>?_,fun k=>?_,hs,fun k c hk hc=>?_⟩
 ·unfold lfOf
  cases hk:is[k]? with
  | none=>simp only [hk];exact .nil
  | some p=>simp only [hk];exact (tlOf_spec (h p (List.mem_of_getElem? hk)).2).1
 ·unfold lfOf
  cases hk:is[k]? with
  | none=>simp only [hk];exact .nil
  | some p=>simp only [hk];exact (tlOf_spec (h p (List.mem_of_getElem? hk)).1).1
 ·unfold lfOf at hc
  have hk':is[k]? = some is[k]:=List.getElem?_eq_getElem hk
  simp only [hk'] at hc
  have hm:=List.mem_of_getElem? hk'
  have e:=(tlOf_spec (h _ hm).1).2
  unfold rdT at hc
  rw [e] at hc
  exact List.mem_flatMap.2 ⟨_,hm,tlOf_ids hc⟩
theorem SInv.live {is:List PI} {sc:Nat→List (Option Nat)} {I O:Nat→TL} (h:SInv (lfOf is sc) I O) (ha:okA is) {k c b:Nat} (hk:k < is.length) (hb:(tv (O k) c).testBit b=true):LiveOutP is sc k c b:=by
 have:=h.out k c b hk hb
 rw [lfOf_flow ha] at this
 exact this
def GivesLG (w:World) (is:List PI) (sc:Nat→List (Option Nat)) (e:Ending) (w':World):Prop:=Fr nope w w'∧∃ bi bo I O,e = .returned (.tuple #[.slice (some ⟨bi,0,none⟩) is.length is.length,.slice (some ⟨bo,0,none⟩) is.length is.length,.bool true])∧RowT w' bi is.length I∧RowT w' bo is.length O∧SInv (lfOf is sc) I O∧Closed (lfOf is sc) I O
set_option maxHeartbeats 1000000 in
theorem LiveGraph_calls (w:World) (B:Nat) (A:Option Addr) (c:Nat) (is:List PI) (A':Option Addr) (c':Nat) (sc:Nat→List (Option Nat)) (hI:InstrsAt w A is) (hat:∀ p∈is,p.At w B∧okI p=true) (hlen:is.length≤1048576)
  (hS:SuccAt w A' is.length sc) (hs:∀ k s,k < is.length→some s∈sc k→s < is.length) (hsl:∀ k,k < is.length→(sc k).length≤1048576):
  Calls Tryz.prog 34 #[.slice A is.length c,.slice A' is.length c'] w (GivesLG w is sc):=by
 have hAcc:=Accesses_calls w A c B is hI hat hlen
 have hok:=lfOf_ok (sc:=sc) (okA_of hat) hs
 obtain ⟨hr1,hr2⟩:=lfOf_rows (is:=is) (sc:=sc)
 replace hs:=Lib.hid hs
 replace hsl:=Lib.hid hsl
 replace hr1:=Lib.hid hr1
 replace hr2:=Lib.hid hr2
 clear hI hat
 go_enter Tryz.func34,Tryz.ntmps34
 go_wp2_with fail
 refine hAcc.mono ?_
 rintro e w1 ⟨hf1,A1,c1,A2,c2,rfl,hR,hW⟩
 have hS1:=hS.nope hf1
 rw [← hr1.out] at hR
 rw [← hr2.out] at hW
 clear hAcc hS
 go_wp2
 go_loopg [10] is.length (fun m c10 wx=>∃ i:Nat,i≤is.length∧c10 = .int .i64 (i:Int)∧Fr nope w1 wx∧m=is.length - i)
 case atStart=>exact ⟨0,Nat.zero_le _,rfl,Fr.refl _ _,rfl⟩
 case round=>
  obtain ⟨i,hi,rfl,hf,rfl⟩:=hrel
  by_cases hilt:i < is.length
  ·have hsi:=Lib.hid (fun s=>hs.out i s hilt)
   obtain ⟨l,hl⟩:∃ l,l=sc i:=⟨_,rfl⟩
   rw [← hl] at hsi
   have hll:l.length≤1048576:=by rw [hl];exact hsl.out i hilt
   replace hl:=Lib.hid hl
   go_wp2
   go_loopg [11] l.length (fun m c11 wx=>∃ j:Nat,j≤l.length∧c11 = .int .i64 (j:Int)∧Fr nope w1 wx∧m=l.length - j)
   case atStart=>exact ⟨0,Nat.zero_le _,rfl,hf,rfl⟩
   case round=>
    obtain ⟨j,hj,rfl,hg,rfl⟩:=hrel
    by_cases hjl:j < l.length
    ·obtain ⟨x,hx⟩:∃ x,l[j]? = some x:=⟨_,List.getElem?_eq_getElem hjl⟩
     obtain ⟨b,off,Ai,ci,hA',hbl,hcl,hRi⟩:=(hS1.nope hg).at_ hilt
     subst hA'
     rw [← hl.out] at hcl hRi
     obtain ⟨gx,ox,hAx,hgx,hcx⟩:=hRi.one (k:=j) (v:=oV x) (by rw [List.getElem?_map,hx];rfl)
     subst hAx
     have hcy:∃ z:Int,wr.cell? ⟨gx,ox+j,none⟩=some (.int .i64 z)∧¬z < -1∧¬(is.length:Int)≤z:=by
      cases x with
      | none=>exact ⟨-1,hcx,by omega,by omega⟩
      | some s=>exact ⟨(s:Int),hcx,by omega,by have:=hsi.out s (List.mem_of_getElem? hx);omega⟩
     obtain ⟨z,hcz,hz1,hz2⟩:=hcy
     have hczm:∀ m,(wr.drewN m).cell? ⟨gx,ox+j,none⟩=some (.int .i64 z):=fun m=>hcz
     have hclm:∀ m,(wr.drewN m).cell? ⟨b,off+i,none⟩=some (.slice (some ⟨gx,ox,none⟩) l.length ci):=fun m=>hcl
     clear hcx hczm hclm
     go_wp2
     go_roundg (l.length - (j+1))
     case measure=>omega
     case rel=>exact ⟨j+1,by omega,by go_num,hg,rfl⟩
    ·obtain ⟨b,off,Ai,ci,hA',hbl,hcl,hRi⟩:=(hS1.nope hg).at_ hilt
     subst hA'
     rw [← hl.out] at hcl hRi
     go_wp2
     go_roundg (is.length - (i+1))
     case measure=>omega
     case rel=>exact ⟨i+1,by omega,by go_num,hg,rfl⟩
  ·have hL:=Live_calls wr (lfOf is sc) hok A1 A2 A' c1 c2 c' hlen (hR.nope hf) (hW.nope hf) (hS1.nope hf) hsl.out
   go_wp2_with fail
   refine hL.mono ?_
   rintro e w2 ⟨hf2,bi,bo,I,O,rfl,hI,hO,hSI⟩
   go_wp2
   go_ret3
   exact ⟨(hf1.then hf).then hf2,bi,bo,I,O,rfl,hI,hO,hSI⟩
def GivesLn (w:World) (ns:List PN) (e:Ending) (w':World):Prop:=Fr nope w w' ∧
 ((∃ bi bo I O sc,e = .returned (.tuple #[.slice (some ⟨bi,0,none⟩) (insP ns).length (insP ns).length,.slice (some ⟨bo,0,none⟩) (insP ns).length (insP ns).length,.bool true])∧GraphP ns sc∧RowT w' bi (insP ns).length I∧RowT w' bo (insP ns).length O∧SInv (lfOf (insP ns) sc) I O∧Closed (lfOf (insP ns) sc) I O) ∨
  (e = .returned (.tuple #[.slice none 0 0,.slice none 0 0,.bool false])∧∀ sc,¬GraphP ns sc))
theorem GraphP.lt {ns:List PN} {sc:Nat→List (Option Nat)} (h:GraphP ns sc):(∀ k s,k < (insP ns).length→some s∈sc k→s < (insP ns).length)∧∀ k,k < (insP ns).length→(sc k).length≤2:=by
 obtain ⟨s,h1,_,h3⟩:=h
 obtain ⟨e,h4⟩:=lpRun_facts h1
 refine ⟨fun k j hk hj=>?_,fun k hk=>succP_len (h3 k _ (List.getElem?_eq_getElem hk))⟩
 have:=succP_lt (h3 k _ (List.getElem?_eq_getElem hk)) h4 j hj
 omega
set_option maxHeartbeats 1000000 in
theorem SpLiveness_calls (w:World) (B:Nat) (s:SV) (ns:List PN) (hN:NodesAt w B s ns) (hok:ns.all okN=true):Calls Tryz.prog 10 #[s.val] w (GivesLn w ns):=by
 have hFG:=FlowGraph_calls w B s ns hN hok
 have hI:=fun W (hW:Fr nope w W)=>Instrs_calls W B s ns (hN.fr hW (fun _ _ x=>x))
 have hat:=insP_at hN hok
 have hlen:(insP ns).length≤1048576:=by
  have h1:=hN.few
  have:(insP ns).length≤ns.length:=by unfold insP;rw [List.length_map];exact List.length_filter_le _ _
  omega
 obtain ⟨A,n,c⟩:=s
 simp only [SV.val] at hFG hI ⊢
 clear hN hok
 replace hI:=Lib.hid hI
 replace hat:=Lib.hid hat
 replace hlen:=Lib.hid hlen
 go_enter Tryz.func10,Tryz.ntmps10
 go_wp2_with fail
 refine hFG.mono ?_
 rintro e w1 ⟨hf1,⟨A1,c1,D,d,sc,rfl,hG,hS⟩ | ⟨rfl,hbad⟩⟩
 rotate_left
 ·replace hbad:=Lib.hid hbad
  go_wp2
  go_ret3
  exact ⟨hf1,.inr ⟨rfl,hbad.out⟩⟩
 replace hG:=Lib.hid hG
 clear hFG
 go_wp2_with fail
 refine (hI.out _ hf1).mono ?_
 rintro e w2 ⟨hf2,Aa,ca,rfl,hins⟩
 go_wp2_with fail
 refine (LiveGraph_calls w2 B Aa ca (insP ns) A1 c1 sc hins (fun p hp=>⟨(hat.out p hp).1.fr (hf1.then hf2) (fun _ _ x=>x),(hat.out p hp).2⟩) hlen.out (hS.nope hf2) hG.out.lt.1 (fun k hk=>Nat.le_trans (hG.out.lt.2 k hk) (by decide))).mono ?_
 rintro e w3 ⟨hf3,bi,bo,I,O,rfl,hI,hO,hSI⟩
 go_wp2
 go_ret3
 exact ⟨(hf1.then hf2).then hf3,.inl ⟨bi,bo,I,O,sc,rfl,hG.out,hI,hO,hSI⟩⟩
theorem LiveOutP.congr {is:List PI} {sc sc':Nat→List (Option Nat)} (h:∀ k,k < is.length→sc k=sc' k):LiveOutP is sc=LiveOutP is sc':=by
 have e:(flowP is sc).succ=(flowP is sc').succ:=by
  funext i s
  apply propext
  constructor
  ·rintro ⟨h1,h2,h3⟩
   refine ⟨h1,h2,?_⟩
   show some s∈sc' i
   rw [← h i h1];exact h3
  ·rintro ⟨h1,h2,h3⟩
   refine ⟨h1,h2,?_⟩
   show some s∈sc i
   rw [h i h1];exact h3
 unfold LiveOutP
 rw [e]
 rfl
end
section
open Go Go.RowKit Bth
set_option maxRecDepth 100000
def aid (l:List (Nat × Nat)) (id:Nat):Nat:=(ofPairs l id).getD id
theorem aid_take_eq {l:List (Nat × Nat)} {k id:Nat} {p:Nat × Nat} (h:l[k]? = some p) (e:id=p.1):aid (l.take (k+1)) id=p.2:=by
 unfold aid;rw [ofPairs_take h];simp [e]
theorem aid_take_ne {l:List (Nat × Nat)} {k id:Nat} {p:Nat × Nat} (h:l[k]? = some p) (e:¬id=p.1):aid (l.take (k+1)) id=aid (l.take k) id:=by
 unfold aid;rw [ofPairs_take h];simp [e]
theorem aid_zero {l:List (Nat × Nat)} {id:Nat} : aid (l.take 0) id=id:=by simp [aid,ofPairs]
set_option maxHeartbeats 1000000 in
theorem AllocatedID_calls (w:World) (A:Option Addr) (c:Nat) (l:List (Nat × Nat)) (id:Nat) (h:PairsAt w A l) (hl:l.length≤1000000000):
  Calls Tryz.prog 42 #[.slice A l.length c,.int .u32 (id:Int)] w fun e w'=>e = .returned (.int .u32 (aid l id:Int))∧Fr nope w w':=by
 go_enter Tryz.func42,Tryz.ntmps42
 go_wp2
 go_loopg [5] l.length (fun m c5 wx=>∃ (k:Nat) (z:Int),k≤l.length∧c5 = .int .i64 z∧z=(k:Int) - 1∧Hid (aid l id=aid (l.take k) id)∧wx=w∧m=k)
 case atStart=>
  refine ⟨l.length,_,Nat.le_refl _,rfl,rfl,Lib.hid (by rw [List.take_length]),rfl,rfl⟩
 case round=>
  obtain ⟨k,z,hk,rfl,hz,ha,rfl,hm⟩:=hrel
  rcases k with _ | k<;>subst hm
  ·have hn:¬(0:Int)≤z:=by omega
   have e:=ha.out
   rw [aid_zero] at e
   replace e:=Lib.hid e
   clear ha
   go_wp2
   go_ret
   exact ⟨by rw [e.out];rfl,Fr.refl _ _⟩
  ·obtain rfl:z=(k:Int):=by omega
   clear hz
   obtain ⟨p,hp⟩:∃ p,l[k]? = some p:=⟨_,List.getElem?_eq_getElem (by omega)⟩
   obtain ⟨b,hA,hb,hc⟩:=h (by omega)
   subst hA
   have hr:=hc k p hp
   have h0:wr.cell? ⟨b,k*2+0,none⟩=some (.int .u32 (p.1:Int)):=hr 0 _ rfl
   have h1:wr.cell? ⟨b,k*2+1,none⟩=some (.int .u32 (p.2:Int)):=hr 1 _ rfl
   have hkn:(0:Int)≤(k:Int):=by omega
   have hkl:(k:Int) < (l.length:Int):=by omega
   clear hc hr h
   rw [Nat.add_zero] at h0
   by_cases e:id=p.1
   ·have e2:=ha.out
    rw [aid_take_eq hp e] at e2
    have e3:((p.1:Int) == (id:Int))=true:=by simp [e]
    replace e2:=Lib.hid e2
    clear ha e
    go_wp2
    go_ret
    exact ⟨by rw [e2.out];rfl,Fr.refl _ _⟩
   ·have e2:=Lib.hid (ha.out.trans (aid_take_ne hp e))
    have e3:((p.1:Int) == (id:Int))=false:=beq_eq_false_iff_ne.2 (by omega)
    clear ha e
    go_wp2
    go_roundg k
    case measure=>omega
    case rel=>exact ⟨k,_,by omega,rfl,by go_num,e2,rfl,rfl⟩
end
section
open Go Go.RowKit Bth
set_option maxRecDepth 100000
set_option maxHeartbeats 1000000 in
theorem InputsKnown_calls (w:World) (B:Nat) (p:PI) (h:p.At w B) (hok:okI p=true):Calls Tryz.prog 64 #[p.agg] w (GivesB w (!p.canc || decide (1 < (gsOf p.inp).length))):=by
 have hps:=h.inp
 have hl:=h.few.2.2.1
 have hn:p.inpV.n=p.inp.length:=h.inp.1
 have hki:p.inp.all okP=true:=by
  unfold okI at hok
  simp only [Bool.and_eq_true] at hok
  exact hok.1.2
 clear h hok
 obtain ⟨opc,⟨A1,n1,c1⟩,suf,⟨A2,n2,c2⟩,ops,⟨A3,n3,c3⟩,inp,⟨A4,n4,c4⟩,ps,term,br,cond,canc,⟨A5,n5,c5⟩,isa⟩:=p
 simp only at hl hps hn hki
 subst hn
 have hI:=fun W (hW:Fr nope w W)=>irRegisters_calls W ⟨A3,inp.length,c3⟩ inp (hps.nope hW) hki hl
 simp only [PI.agg,PI.cells,SV.val] at hI ⊢
 replace hI:=Lib.hid hI
 clear hps
 cases canc with
 | false=>
  go_enter Tryz.func64,Tryz.ntmps64
  go_wp2_with fail
  go_ret
  exact ⟨rfl,(Fr.refl _ _).alloc _⟩
 | true=>
  go_enter Tryz.func64,Tryz.ntmps64
  go_wp2_with fail
  refine (hI.out _ ((Fr.refl _ _).alloc _)).mono ?_
  rintro e w1 ⟨hf1,A,c,rfl,hown⟩
  go_wp2
  go_ret
  refine ⟨congrArg (fun b=>Ending.returned (Value.bool b)) (?_:decide ((1:Int) < ((gsOf inp).length:Int))=(!true || decide (1 < (gsOf inp).length))),((Fr.refl _ _).alloc _).then hf1⟩
  rw [Bool.eq_iff_iff]
  simp
  omega
def opsL (p:PI):List (SV × List PO):=[(p.opsV,p.ops),(p.inpV,p.inp),(p.outV,p.out)]
def gsL (l:List (SV × List PO)):List G:=l.flatMap fun x=>gsOf x.2
theorem gsL_take {l:List (SV × List PO)} {k:Nat} {x:SV × List PO} (h:l[k]? = some x):gsL (l.take (k+1))=gsL (l.take k) ++ gsOf x.2:=by
 unfold gsL
 rw [List.take_add_one,h,List.flatMap_append]
 simp
theorem gsL_all (p:PI):gsL (opsL p)=p.gs:=by simp [gsL,opsL,PI.gs,List.append_assoc]
theorem opsL_at {w:World} {B:Nat} {p:PI} (h:p.At w B) (hok:okI p=true):∀ x∈opsL p,POsAt w x.1 x.2∧x.2.all okP=true∧x.2.length≤1048576:=by
 unfold okI at hok
 simp only [Bool.and_eq_true] at hok
 intro x hx
 simp only [opsL,List.mem_cons,List.not_mem_nil,or_false] at hx
 rcases hx with rfl | rfl | rfl
 ·exact ⟨h.ops,hok.1.1,h.few.2.1⟩
 ·exact ⟨h.inp,hok.1.2,h.few.2.2.1⟩
 ·exact ⟨h.out,hok.2,h.few.2.2.2.1⟩
set_option maxHeartbeats 1000000 in
theorem all_calls (w:World) (B:Nat) (p:PI) (h:p.At w B) (hok:okI p=true):Calls Tryz.prog 62 #[p.agg] w (GivesGs w p.gs):=by
 have hL:=opsL_at h hok
 have hcell:∀ (k:Nat) (x:SV × List PO),(opsL p)[k]? = some x → #[p.opsV.val,p.inpV.val,p.outV.val][k]? = some x.1.val:=by
  intro k x hx
  rcases k with _ | _ | _ | k<;>simp [opsL] at hx<;>subst hx<;>rfl
 have hlen:(opsL p).length=3:=rfl
 rw [← gsL_all]
 generalize opsL p=L at hL hcell hlen ⊢
 clear h hok
 obtain ⟨opc,⟨A1,n1,c1⟩,suf,⟨A2,n2,c2⟩,ops,⟨A3,n3,c3⟩,inp,⟨A4,n4,c4⟩,ps,term,br,cond,canc,⟨A5,n5,c5⟩,isa⟩:=p
 simp only [SV.val,PI.agg,PI.cells] at hcell ⊢
 replace hL:=Lib.hid hL
 replace hlen:=Lib.hid hlen
 go_enter Tryz.func62,Tryz.ntmps62
 go_wp2_with fail
 go_loopg [3,18] 3 (fun n d3 d18 wr=>∃ (k:Nat) (B2:Option Addr) (e2:Nat) (gs:List G),k≤3∧Hid (gs=gsL (L.take k))∧gs.length≤2097152*k∧d18 = .int .i64 (k:Int)∧d3 = .slice B2 gs.length e2∧wr.ownsRow w.heap.size 117 4 (.slice B2 gs.length e2) gs.length (gsCells gs)∧Fr nope w wr∧wr.heap[w.heap.size+1]? = some (.cells #[.slice A2 n2 c2,.slice A3 n3 c3,.slice A4 n4 c4] 53 (0,0))∧n=3 - k)
 case atStart=>
  refine ⟨0,none,0,[],Nat.zero_le _,Lib.hid rfl,Nat.le_refl _,rfl,rfl,own_nil _ _ _ _,((Fr.refl _ _).alloc _).alloc _,?_,rfl⟩
  have:=heap_alloc_new (w.alloc (Obj.cells #[.string opc,.slice A1 n1 c1,.slice A2 n2 c2,.slice A3 n3 c3,.slice A4 n4 c4,.bool term,.bool br,.bool cond,.bool canc,.slice A5 n5 c5] 55)) (Obj.cells #[.slice A2 n2 c2,.slice A3 n3 c3,.slice A4 n4 c4] 53)
  rw [show (w.alloc (Obj.cells #[.string opc,.slice A1 n1 c1,.slice A2 n2 c2,.slice A3 n3 c3,.slice A4 n4 c4,.bool term,.bool br,.bool cond,.bool canc,.slice A5 n5 c5] 55)).heap.size=w.heap.size+1 by simp] at this
  exact this
 case round=>
  obtain ⟨k,B2,e2,gs,hk,hgs,hgl,rfl,rfl,hown,hf,hbl,rfl⟩:=hrel
  have hsz:=hf.size
  by_cases hlt:k < 3
  ·obtain ⟨⟨⟨Ax,nx,cx⟩,ps⟩,hx⟩:∃ x,L[k]? = some x:=⟨_,List.getElem?_eq_getElem (by rw [hlen.out];exact hlt)⟩
   obtain ⟨hps,hko,hpl⟩:=hL.out _ (List.mem_of_getElem? hx)
   simp only at hps hko hpl
   obtain rfl:nx=ps.length:=hps.1
   have hck:=cell_of_row _ _ k _ _ (0,0) hbl
   rw [hcell k _ hx] at hck
   have hT:=Lib.hid (gsL_take hx)
   simp only at hck hT
   have hkn:(k:Int) < 3:=by omega
   have hkn0:(0:Int)≤(k:Int):=by omega
   replace hcell:=Lib.hid hcell
   clear hx
   go_wp2_with fail
   go_loopg [3,24] ps.length (fun n d3 d24 wx=>∃ (j:Nat) (D2:Option Addr) (f2:Nat) (gt:List G),j≤ps.length∧Hid (gt=gs ++ gsOf (ps.take j))∧gt.length≤gs.length+2*j∧d24 = .int .i64 (j:Int)∧d3 = .slice D2 gt.length f2∧wx.ownsRow w.heap.size 117 4 (.slice D2 gt.length f2) gt.length (gsCells gt)∧Fr nope w wx∧wx.heap[w.heap.size+1]? = some (.cells #[.slice A2 n2 c2,.slice A3 n3 c3,.slice A4 n4 c4] 53 (0,0))∧n=ps.length - j)
   case atStart=>exact ⟨0,B2,e2,gs,Nat.zero_le _,Lib.hid (by simp [gsOf]),by omega,rfl,rfl,hown,hf,hbl,rfl⟩
   case round=>
    clear hown hf hbl hsz hck
    obtain ⟨j,D2,f2,gt,hj,hgt,hgtl,rfl,rfl,hown,hf,hbl,rfl⟩:=hrel
    have hsz:=hf.size
    by_cases hjl:j < ps.length
    ·obtain ⟨b,off,hAe,hbb,hc⟩:=(hps.nope hf).2 (by omega)
     simp only at hAe
     subst hAe
     obtain ⟨p,hpk⟩:∃ p,ps[j]? = some p:=⟨_,List.getElem?_eq_getElem hjl⟩
     have hc:=hc j p hpk
     have hT2:=Lib.hid (gsOf_take hpk)
     have hokp:okP p=true:=List.all_eq_true.1 hko p (List.mem_of_getElem? hpk)
     have hpl2:=p.gs_len
     have hbo:=own_base hown
     clear hpk hps
     go_wp2_with (first
      | (refine wpList_load_mid rfl _ _ rfl b (off+j*24) rfl p.cells.toList _ hc Tryz.underlying121 rfl (by kernel_rfl) ?_)
      | (refine wpList_storeRow (b:=wr.heap.size) (cells:=p.cells) rfl rfl rfl rfl (heap_alloc_new _ _) rfl (by kernel_rfl) (by kernel_rfl) ?_;intro w2 hb2 hf2)
      | (refine wpList_loadRow (b:=wr.heap.size) (cells:=p.cells) rfl rfl rfl hb2 Tryz.underlying121 rfl (by kernel_rfl) ?_))
     have hn2:Fr nope wr w2:=((Fr.refl nope wr).alloc _).then_new hf2 (fun x hx e=>by omega)
     refine (OpRegisters_calls w2 p hokp).mono ?_
     rintro e w3 ⟨hf3,A9,c9,rfl,hown3⟩
     have hn3:=hn2.then hf3
     have hsz3:=hn3.size
     have hsrc:=(Rw.of_own hown3).src
     have hown4:=own_fr hown hn3 (fun _ _ x=>x)
     have hbl3:=hn3.heap hbl (fun x=>x)
     have hno:¬(Value.slice D2 gt.length f2).ownBlock=some (w.heap.size+1):=fun e=>NoT.own (T:=[53]) hown4 (by decide) _ _ _ _ e hbl3 (by decide)
     go_wp2_with (refine wpList_app (v:=.slice D2 gt.length f2) rfl rfl Tryz.underlying80 infoRg rfl (by omega) rfl hown4 rfl (news:=gsCells p.gs) ?ha hsrc (gsCells_one _) ?hd ?he ?hf ?hk)
     case ha=>exact gsCells_len _
     case hd=>simp only [maxLen];omega
     case he=>omega
     case hf=>omega
     case hk=>
      intro v4 w4 hown4 hf4 hb4
      obtain ⟨A8,c8,rfl,_,_⟩:=own_slice hown4
      clear hb4
      go_wp2
      go_roundg (ps.length - (j+1))
      case measure=>omega
      case rel=>exact ⟨j+1,A8,c8,gt ++ p.gs,by omega,Lib.hid (by rw [hT2.out,← List.append_assoc,← hgt.out]),by rw [List.length_append];omega,by go_num,by rw [List.length_append],by rw [List.length_append,gsCells_app];exact hown4,(hf.then hn3).then_new hf4 (fun x hx e=>by have:=hbo x e;omega),hf4.heap hbl3 hno,rfl⟩
    ·rw [take_all hjl] at hgt
     go_wp2
     go_roundg (3 - (k+1))
     case measure=>omega
     case rel=>exact ⟨k+1,D2,f2,gt,by omega,Lib.hid (by rw [hT.out,← hgs.out];exact hgt.out),by omega,by go_num,rfl,hown,hf,hbl,rfl⟩
  ·obtain rfl:k=3:=by omega
   have e:=hgs.out
   rw [← hlen.out,List.take_length] at e
   subst e
   go_wp2
   go_ret
   exact ⟨hf,B2,e2,rfl,hown⟩
end
section
open Go Go.RowKit Go.MapKept Bth
open Go.ChangeMaps (setBlock)
set_option maxRecDepth 100000
theorem u8Key:KeyOk Tryz.prog 5 (.int .u8) kindV:=⟨Tryz.underlying5,fun _=>rfl,fun a b h=>by simp [kindV] at h;omega⟩
theorem u32Key:KeyOk Tryz.prog 74 (.int .u32) idV:=⟨Tryz.underlying74,fun _=>rfl,fun a b h=>by simp [idV] at h;omega⟩
theorem u8bT:Tryz.prog.underlying 115=some (.map 5 4):=Tryz.underlying115
theorem u32bT:Tryz.prog.underlying 134=some (.map 74 4):=Tryz.underlying134
theorem u8iT:Tryz.prog.underlying 135=some (.map 5 3):=Tryz.underlying135
theorem zeroBo (w:World):(zeroValue 4).run Tryz.prog w = .ok (.bool false) w:=by kernel_rfl
theorem zeroIn (w:World):(zeroValue 3).run Tryz.prog w = .ok (.int .i64 0) w:=by kernel_rfl
def kinF (S:Nat→Bool) (k:Nat):Option Value:=if S k then some (.bool true) else none
def addF (S:Nat→Bool) (k:Nat):Nat→Bool:=fun x=>decide (x=k) || S x
theorem kinF_add (S:Nat→Bool) (k:Nat):kinF (addF S k)=updM (kinF S) k (some (.bool true)):=by
 funext x
 unfold kinF addF updM
 by_cases e:x=k<;>simp [e]
theorem kinF_get (S:Nat→Bool) (k:Nat):(kinF S k).getD (.bool false) = .bool (S k):=by
 unfold kinF;cases S k<;>rfl
def KM (w:World) (b:Nat) (S:Nat→Bool):Prop:=∃ ks,MapAt w b kindV ks (kinF S)
def SM (w:World) (b:Nat) (S:Nat→Bool):Prop:=∃ ks,MapAt w b idV ks (kinF S)
def cntF (C:Nat→Option Nat) (k:Nat):Option Value:=(C k).map fun n=>.int .i64 (n:Int)
def CM (w:World) (b:Nat) (C:Nat→Option Nat):Prop:=∃ ks,MapAt w b kindV ks (cntF C)
def incC (C:Nat→Option Nat) (k:Nat):Nat→Option Nat:=fun x=>if x=k then some ((C k).getD 0+1) else C x
theorem cntF_inc (C:Nat→Option Nat) (k:Nat):cntF (incC C k)=updM (cntF C) k (some (.int .i64 ((((C k).getD 0+1:Nat)):Int))):=by
 funext x
 unfold cntF incC updM
 by_cases e:x=k<;>simp [e]
theorem KM.lt {w:World} {b:Nat} {S:Nat→Bool} (h:KM w b S):b < w.heap.size:=by obtain ⟨ks,hm⟩:=h;exact hm.lt
theorem SM.lt {w:World} {b:Nat} {S:Nat→Bool} (h:SM w b S):b < w.heap.size:=by obtain ⟨ks,hm⟩:=h;exact hm.lt
theorem CM.lt {w:World} {b:Nat} {S:Nat→Option Nat} (h:CM w b S):b < w.heap.size:=by obtain ⟨ks,hm⟩:=h;exact hm.lt
theorem KM.fr {T:Nat→Prop} {w w':World} {b:Nat} {S:Nat→Bool} (h:KM w b S) (hf:Fr T w w') (hs:¬T b):KM w' b S:=by obtain ⟨ks,hm⟩:=h;exact ⟨ks,hm.fr hf hs⟩
theorem SM.fr {T:Nat→Prop} {w w':World} {b:Nat} {S:Nat→Bool} (h:SM w b S) (hf:Fr T w w') (hs:¬T b):SM w' b S:=by obtain ⟨ks,hm⟩:=h;exact ⟨ks,hm.fr hf hs⟩
theorem CM.fr {T:Nat→Prop} {w w':World} {b:Nat} {S:Nat→Option Nat} (h:CM w b S) (hf:Fr T w w') (hs:¬T b):CM w' b S:=by obtain ⟨ks,hm⟩:=h;exact ⟨ks,hm.fr hf hs⟩
theorem map_noT {K:Type} {w:World} {b:Nat} {mk:K→Value} {ks:List K} {f:K→Option Value} {T:List TypeId} (h:MapAt w b mk ks f):NoT T w (fun x=>x=b):=by
 obtain ⟨es,clock,hb,_⟩:=h
 rintro c cs t fr rfl e
 rw [hb] at e
 cases e
theorem KM.noT {w:World} {b:Nat} {S:Nat→Bool} {T:List TypeId} (h:KM w b S):NoT T w (fun x=>x=b):=by obtain ⟨ks,hm⟩:=h;exact map_noT hm
theorem SM.noT {w:World} {b:Nat} {S:Nat→Bool} {T:List TypeId} (h:SM w b S):NoT T w (fun x=>x=b):=by obtain ⟨ks,hm⟩:=h;exact map_noT hm
theorem CM.noT {w:World} {b:Nat} {S:Nat→Option Nat} {T:List TypeId} (h:CM w b S):NoT T w (fun x=>x=b):=by obtain ⟨ks,hm⟩:=h;exact map_noT hm
theorem KM.made (w:World):KM (w.alloc (.map #[] 0)) w.heap.size fun _=>false:=⟨[],MapAt.made w kindV⟩
theorem SM.made (w:World):SM (w.alloc (.map #[] 0)) w.heap.size fun _=>false:=⟨[],MapAt.made w idV⟩
theorem CM.made (w:World):CM (w.alloc (.map #[] 0)) w.heap.size fun _=>none:=⟨[],MapAt.made w kindV⟩
theorem KM.look {w:World} {b:Nat} {S:Nat→Bool} (h:KM w b S) (k:Nat):(Instr.lookup 115 (.map (some b)) (.int .u8 (k:Int)) false).run Tryz.prog w = .ok (.bool (S k)) w:=by
 obtain ⟨ks,hm⟩:=h
 have:=hm.lookup u8Key u8bT (zeroBo w) k false
 rw [show (Value.int .u8 (k:Int))=kindV k from rfl,this]
 simp only [Bool.false_eq_true,if_false,kinF_get]
theorem SM.look {w:World} {b:Nat} {S:Nat→Bool} (h:SM w b S) (k:Nat):(Instr.lookup 134 (.map (some b)) (.int .u32 (k:Int)) false).run Tryz.prog w = .ok (.bool (S k)) w:=by
 obtain ⟨ks,hm⟩:=h
 have:=hm.lookup u32Key u32bT (zeroBo w) k false
 rw [show (Value.int .u32 (k:Int))=idV k from rfl,this]
 simp only [Bool.false_eq_true,if_false,kinF_get]
theorem CM.look {w:World} {b:Nat} {C:Nat→Option Nat} (h:CM w b C) (k:Nat):(Instr.lookup 135 (.map (some b)) (.int .u8 (k:Int)) false).run Tryz.prog w = .ok (.int .i64 (((C k).getD 0:Nat):Int)) w:=by
 obtain ⟨ks,hm⟩:=h
 have:=hm.lookup u8Key u8iT (zeroIn w) k false
 rw [show (Value.int .u8 (k:Int))=kindV k from rfl,this]
 simp only [Bool.false_eq_true,if_false,cntF]
 cases C k<;>rfl
theorem KM.put {w:World} {b:Nat} {S:Nat→Bool} (h:KM w b S) (k:Nat):
  ∃ w',(Instr.mapUpdate 115 (.map (some b)) (.int .u8 (k:Int)) (.bool true)).run Tryz.prog w = .ok () w'∧KM w' b (addF S k)∧Fr (fun x=>x=b) w w'∧w'.heap.size=w.heap.size:=by
 obtain ⟨ks,hM⟩:=h
 obtain ⟨es,clock,h1,h2⟩:=hM.update u8Key u8bT k (.bool true)
 rw [← kinF_add] at h2
 exact ⟨setBlock w b (.map es clock),h1,⟨_,h2⟩,(Fr.refl (fun x=>x=b) w).setBlock (.inl rfl) _,by simp [setBlock]⟩
theorem SM.put {w:World} {b:Nat} {S:Nat→Bool} (h:SM w b S) (k:Nat):
  ∃ w',(Instr.mapUpdate 134 (.map (some b)) (.int .u32 (k:Int)) (.bool true)).run Tryz.prog w = .ok () w'∧SM w' b (addF S k)∧Fr (fun x=>x=b) w w'∧w'.heap.size=w.heap.size:=by
 obtain ⟨ks,hM⟩:=h
 obtain ⟨es,clock,h1,h2⟩:=hM.update u32Key u32bT k (.bool true)
 rw [← kinF_add] at h2
 exact ⟨setBlock w b (.map es clock),h1,⟨_,h2⟩,(Fr.refl (fun x=>x=b) w).setBlock (.inl rfl) _,by simp [setBlock]⟩
theorem CM.put {w:World} {b:Nat} {C:Nat→Option Nat} (h:CM w b C) (k:Nat) {z:Int} (hz:z=(((C k).getD 0+1:Nat):Int)):
  ∃ w',(Instr.mapUpdate 135 (.map (some b)) (.int .u8 (k:Int)) (.int .i64 z)).run Tryz.prog w = .ok () w'∧CM w' b (incC C k)∧Fr (fun x=>x=b) w w'∧w'.heap.size=w.heap.size:=by
 obtain ⟨ks,hM⟩:=h
 subst hz
 obtain ⟨es,clock,h1,h2⟩:=hM.update u8Key u8iT k (.int .i64 (((C k).getD 0+1:Nat):Int))
 rw [← cntF_inc] at h2
 exact ⟨setBlock w b (.map es clock),h1,⟨_,h2⟩,(Fr.refl (fun x=>x=b) w).setBlock (.inl rfl) _,by simp [setBlock]⟩
theorem InstrsAt.frT {S:Nat→Prop} {w w':World} {A:Option Addr} {is:List PI} (h:InstrsAt w A is) (hf:Fr S w w') (hs:NoT [55] w S):InstrsAt w' A is:=Rw.frT h hf hs (by decide)
end
end Go.Proofs.YtjlfkgjmgghhiaaGreat
