/- Part of the proof of a statement about pub-berthage: what its texts have in common. -/
import Derived.Test.YtpbeedabmjmdmaaGreatDoorP24
import Derived.Test.YtpbeedabmjmdmaaGreatDoorP32
namespace Go.Proofs.YtpbeedabmjmdmaaGreatDoor
section
open Go Go.RowKit Bth
set_option maxRecDepth 100000
theorem lkT_app (a b:TG) (s:ByteArray):lkT (a ++ b) s=match lkT a s with | some v=>some v | none=>lkT b s:=by
 induction a with
 | nil=>rfl
 | cons x a ih=>
  rw [List.cons_append,lkT,lkT]
  by_cases h:x.1=s
  ·rw [if_pos h,if_pos h]
  ·rw [if_neg h,if_neg h,ih]
open Classical in
theorem lkT_put {T:TG} (k:Nat) {s:ByteArray} {b:Nat} (h:∀ v,lkT T s=some v→v=b) (x:ByteArray):lkT (T.take k ++ (s,b) :: T.drop k) x=if x=s then some b else lkT T x:=by
 have e:lkT T x=match lkT (T.take k) x with | some v=>some v | none=>lkT (T.drop k) x:=by
  conv=>lhs;rw [← List.take_append_drop k T]
  exact lkT_app _ _ _
 rw [lkT_app,lkT]
 by_cases hx:x=s
 ·subst hx
  rw [if_pos rfl,if_pos rfl]
  cases hv:lkT (T.take k) x with
  | none=>rfl
  | some v=>rw [hv] at e;rw [h v e]
 ·rw [if_neg hx,if_neg (fun e=>hx e.symm),e]
theorem lpRun_none {a:List PN} (h:lpRun a=none) (b:List PN):lpRun (a ++ b)=none:=by
 unfold lpRun at h ⊢
 rw [List.foldlM_append,h]
 rfl
structure LtInv (s:LP) (opn:List ByteArray) (at_:Nat) (T:TG):Prop where
 pend:s.pend=opn
 n:s.n=at_
 t:∀ x,lkT T x=s.t x
 out:∀ x∈opn,s.t x=none
theorem LtInv.lab {s:LP} {opn:List ByteArray} {a:Nat} {T:TG} {p:PN} (h:LtInv s opn a T) (h2:p.kind=2) (hn:lkT T p.label=none):∃ s',lpStep s p=some s'∧LtInv s' (opn ++ [p.label]) a T:=by
 have e:(s.t p.label).isSome=false:=by rw [← h.t,hn];rfl
 refine ⟨{ s with pend:=s.pend ++ [p.label] },?_,⟨by rw [h.pend],h.n,h.t,fun x hx=>?_⟩⟩
 ·unfold lpStep
  rw [if_neg (by omega),if_pos h2,e];rfl
 ·rcases List.mem_append.1 hx with hx | hx
  ·exact h.out x hx
  ·obtain rfl:x=p.label:=by simpa using hx
   show s.t p.label=none
   rw [← h.t];exact hn
theorem LtInv.bad {s:LP} {opn:List ByteArray} {a:Nat} {T:TG} {p:PN} (h:LtInv s opn a T) (h2:p.kind=2) {b:Nat} (hn:lkT T p.label=some b):lpStep s p=none:=by
 have e:(s.t p.label).isSome=true:=by rw [← h.t,hn];rfl
 unfold lpStep
 rw [if_neg (by omega),if_pos h2,e];rfl
theorem lp_com {s:LP} {p:PN} (h1:p.kind≠1) (h2:p.kind≠2):lpStep s p=some s:=by
 unfold lpStep
 rw [if_neg h1,if_neg h2]
open Classical in
def PutInv (s:LP) (opn:List ByteArray) (j:Nat) (T:TG):Prop:=∀ x,lkT T x=if x∈opn.take j then some s.n else s.t x
theorem PutInv.step {s:LP} {opn:List ByteArray} {j:Nat} {T:TG} {x:ByteArray} (h:PutInv s opn j T) (ho:∀ x∈opn,s.t x=none) (hx:opn[j]? = some x) (k:Nat):PutInv s opn (j+1) (T.take k ++ (x,s.n) :: T.drop k):=by
 classical
 intro y
 rw [lkT_put k (fun v hv=>?_) y,take_snoc hx]
 ·by_cases e:y=x
  ·subst e;simp
  ·rw [if_neg e,h y]
   simp only [List.mem_append,List.mem_singleton,e,or_false]
 ·rw [h x] at hv
  split at hv
  ·injection hv with hv;exact hv.symm
  ·rw [ho x (List.mem_of_getElem? hx)] at hv;cases hv
theorem LtInv.ins {s:LP} {opn:List ByteArray} {a:Nat} {T T':TG} {p:PN} (h:LtInv s opn a T) (h1:p.kind=1) (hp:PutInv s opn opn.length T'):∃ s',lpStep s p=some s'∧LtInv s' [] (a+1) T':=by
 classical
 refine ⟨⟨fun x=>if x∈s.pend then some s.n else s.t x,[],s.n+1⟩,?_,⟨rfl,by show s.n+1=_;rw [h.n],fun x=>?_,by simp⟩⟩
 ·unfold lpStep
  rw [if_pos h1]
 ·have:=hp x
  rw [List.take_length] at this
  rw [this,h.pend]
def GivesLTs (w:World) (ns:List PN) (e:Ending) (w':World):Prop:=Fr nope w w' ∧
 ((∃ A c T s,e = .returned (.tuple #[.slice A T.length c,.bool true])∧TgAt w' A T∧T.length≤c∧T.length≤1048576∧lpRun ns=some s∧s.pend=[]∧∀ x,lkT T x=s.t x) ∨
  (e = .returned (.tuple #[.slice none 0 0,.bool false])∧∀ s,lpRun ns=some s→s.pend≠[]))
set_option maxHeartbeats 4000000 in
theorem LabelTargets_calls (w:World) (B:Nat) (s:SV) (ns:List PN) (hN:NodesAt w B s ns) (hok:ns.all okN=true):Calls Tryz.prog 39 #[s.val] w (GivesLTs w ns):=by
 have hO:=NodesOK_calls w B s ns hN
 unfold GivesB at hO
 rw [hok] at hO
 obtain ⟨A,n,c⟩:=s
 obtain rfl:n=ns.length:=hN.len
 have hfew:=hN.few
 simp only [SV.val] at hO ⊢
 go_enter Tryz.func39,Tryz.ntmps39
 go_wp2_with fail
 refine hO.mono ?_
 rintro e w1 ⟨rfl,hf1⟩
 have hN1:=hN.fr hf1 (fun _ _ x=>x)
 go_wp2
 go_loopg [2,4,5,15] ns.length (fun n c2 c4 c5 c15 wr=>∃ (k:Nat) (A2:Option Addr) (d2:Nat) (T:TG) (A4:Option Addr) (d4:Nat) (opn:List ByteArray) (a:Nat) (st:LP),k≤ns.length∧c15 = .int .i64 (k:Int)∧c5 = .int .i64 (a:Int)∧a≤k∧c4 = .slice A4 opn.length d4∧opn.length+T.length≤k∧c2 = .slice A2 T.length d2∧T.length≤d2 ∧
  wr.ownsRow w1.heap.size 9 1 (.slice A4 opn.length d4) opn.length (opn.map Value.string)∧TgAt wr A2 T∧Hid (lpRun (ns.take k)=some st∧LtInv st opn a T)∧Fr nope w1 wr∧n=ns.length - k)
 case atStart=>exact ⟨0,none,0,[],none,0,[],0,⟨fun _=>none,[],0⟩,Nat.zero_le _,rfl,rfl,Nat.le_refl _,rfl,Nat.le_refl _,rfl,Nat.le_refl _,own_nil _ _ _ _,Rw.nil _ _ _,Lib.hid ⟨rfl,⟨rfl,rfl,fun _=>rfl,by simp⟩⟩,Fr.refl _ _,rfl⟩
 case round=>
  obtain ⟨k,A2,d2,T,A4,d4,opn,a,st,hk,rfl,rfl,hak,rfl,hlen,rfl,hTd,hown,hT,hinv,hf,rfl⟩:=hrel
  have hsz:=hf.size
  have hsz1:=hf1.size
  by_cases hlt:k < ns.length
  ·obtain ⟨b,off,hAe,hbB,hbl,hc⟩:=(hN1.fr hf (fun _ _ x=>x)).row (by omega)
   simp only at hAe
   subst hAe
   obtain ⟨p,hpk⟩:∃ p,ns[k]? = some p:=⟨_,List.getElem?_eq_getElem hlt⟩
   have hc:=hc k p hpk
   have hstep:∀ st',lpStep st p=some st'→lpRun (ns.take (k+1))=some st':=fun st' h=>by
    rw [take_snoc hpk,lpRun_snoc,hinv.out.1];exact h
   have hbad:lpStep st p=none→lpRun ns=none:=fun h=>by
    have h1:lpRun (ns.take (k+1))=none:=by rw [take_snoc hpk,lpRun_snoc,hinv.out.1];exact h
    have:=lpRun_none h1 (ns.drop (k+1))
    rwa [List.take_append_drop] at this
   have hinv':=Lib.hid hinv.out.2
   replace hstep:=Lib.hid hstep
   replace hbad:=Lib.hid hbad
   clear hpk hinv hN hN1
   have hbo:=own_base hown
   obtain ⟨kind,label,⟨lA,ln,lc⟩,lines,ins⟩:=p
   by_cases k1:kind=1
   ·subst k1
    have hal:Hid (a=st.n):=Lib.hid hinv'.out.n.symm
    go_wp2_with (first
     | (refine wpList_load_mid rfl _ _ rfl b (off+k*13) rfl (PN.cells ⟨1,label,⟨lA,ln,lc⟩,lines,ins⟩).toList _ hc Tryz.underlying57 rfl (by kernel_rfl) ?_)
     | (refine wpList_storeRow (b:=wr.heap.size) (cells:=PN.cells ⟨1,label,⟨lA,ln,lc⟩,lines,ins⟩) rfl rfl rfl rfl (heap_alloc_new _ _) rfl (by kernel_rfl) (by kernel_rfl) ?_;intro w2 hb2 hf2;have hn2:Fr nope wr w2:=((Fr.refl nope wr).alloc _).then_new hf2 (fun x hx e=>by omega);have hcb0:=cell_of_row _ _ 0 _ _ (0,0) hb2;simp only [PN.cells,List.getElem?_toArray,List.getElem?_cons_zero] at hcb0))
    have hown2:=own_fr hown hn2 (fun _ _ x=>x)
    have hSl:=own_Sl hown2
    have hT2:=Rw.nope hT hn2
    have hf12:=hf.then hn2
    go_loopg [2,25] opn.length (fun m c2 c25 wq=>∃ (j:Nat) (A5:Option Addr) (d5:Nat) (T':TG),j≤opn.length∧c25 = .int .i64 (j:Int)∧c2 = .slice A5 T'.length d5∧T'.length≤d5∧Hid (T'.length=T.length+j)∧TgAt wq A5 T'∧Hid (PutInv st opn j T')∧Fr nope w2 wq∧m=opn.length - j)
    case atStart=>exact ⟨0,A2,d2,T,Nat.zero_le _,rfl,rfl,hTd,Lib.hid rfl,hT2,Lib.hid (fun x=>by rw [List.take_zero,if_neg (by simp)];exact hinv'.out.t x),Fr.refl _ _,rfl⟩
    case round=>
     obtain ⟨j,A5,d5,T',hj,rfl,rfl,hTd',hTl',hT',hput,hfq,rfl⟩:=hrel
     by_cases hjl:j < opn.length
     ·obtain ⟨b2,off2,u2,hA2,hbl2,hu2,hc2⟩:=(hSl.nope hfq).at_ hjl
      rw [List.getElem?_map] at hu2
      obtain ⟨z,hz,rfl⟩:=Option.map_eq_some_iff.1 hu2
      subst hA2
      have hps:=hput.out.step hinv'.out.out hz
      replace hps:=Lib.hid hps
      have hcall:=flowPut_calls wr A5 d5 T' z a hT' hTd' (by have:=hTl'.out;omega)
      clear hu2 hz
      go_wp2_with fail
      refine hcall.mono ?_
      rintro e w5 ⟨hf5,k5,A6,c6,hk5,hc6,rfl,hT6⟩
      have hlen6:(T'.take k5 ++ (z,a) :: T'.drop k5).length=T'.length+1:=by rw [List.length_append,List.length_take,List.length_cons,List.length_drop];omega
      have hp6:=hps.out k5
      rw [← hal.out] at hp6
      replace hp6:=Lib.hid hp6
      go_wp2
      go_roundg (opn.length - (j+1))
      case measure=>omega
      case rel=>exact ⟨j+1,A6,c6,_,by omega,by go_num,by rw [hlen6],by rw [hlen6];exact hc6,Lib.hid (by rw [hlen6,hTl'.out];omega),hT6,hp6,hfq.then hf5,rfl⟩
     ·obtain rfl:j=opn.length:=by omega
      obtain ⟨st',h1,h2⟩:=hinv'.out.ins (p:=⟨1,label,⟨lA,ln,lc⟩,lines,ins⟩) rfl hput.out
      have h3:=Lib.hid (And.intro (hstep.out st' h1) h2)
      clear h1 h2
      go_wp2
      go_roundg (ns.length - (k+1))
      case measure=>omega
      case rel=>exact ⟨k+1,A5,d5,T',none,0,[],a+1,st',by omega,by go_num,by go_num,by omega,rfl,by have:=hTl'.out;simp;omega,rfl,hTd',own_nil _ _ _ _,hT',h3,hf12.then hfq,rfl⟩
   by_cases k2:kind=2
   ·subst k2
    go_wp2_with (first
     | (refine wpList_load_mid rfl _ _ rfl b (off+k*13) rfl (PN.cells ⟨2,label,⟨lA,ln,lc⟩,lines,ins⟩).toList _ hc Tryz.underlying57 rfl (by kernel_rfl) ?_)
     | (refine wpList_storeRow (b:=wr.heap.size) (cells:=PN.cells ⟨2,label,⟨lA,ln,lc⟩,lines,ins⟩) rfl rfl rfl rfl (heap_alloc_new _ _) rfl (by kernel_rfl) (by kernel_rfl) ?_;intro w2 hb2 hf2;have hn2:Fr nope wr w2:=((Fr.refl nope wr).alloc _).then_new hf2 (fun x hx e=>by omega);have hcb0:=cell_of_row _ _ 0 _ _ (0,0) hb2;have hcb1:=cell_of_row _ _ 1 _ _ (0,0) hb2;simp only [PN.cells,List.getElem?_toArray,List.getElem?_cons_zero,List.getElem?_cons_succ] at hcb0 hcb1))
    have hown2:=own_fr hown hn2 (fun _ _ x=>x)
    have hT2:=Rw.nope hT hn2
    have hf12:=hf.then hn2
    have hn12:=hf1.then hf12
    have hsz2:=hn2.size
    refine (flowAt_calls w2 A2 d2 T label hT2 (by omega)).mono ?_
    rintro e w3 ⟨z,rfl,hz,hf3⟩
    rcases hz with ⟨rfl,hz⟩ | ⟨k',b',rfl,hz1,hz⟩
    ·obtain ⟨st',h1,h2⟩:=hinv'.out.lab (p:=⟨2,label,⟨lA,ln,lc⟩,lines,ins⟩) rfl hz
     have h3:=Lib.hid (And.intro (hstep.out st' h1) h2)
     have hown3:=own_fr hown2 hf3 (fun _ _ x=>x)
     have hT3:=Rw.nope hT2 hf3
     have hcb1:=hf3.cell hcb1 (fun x=>x)
     have hcb0:=hf3.cell hcb0 (fun x=>x)
     have hsz3:=hf3.size
     have hneg:¬(0:Int) ≤ -1:=by omega
     clear h1 h2 hz
     go_wp2_with (refine wpList_app (v:=.slice A4 opn.length d4) rfl rfl Tryz.underlying35 infoStr rfl (by omega) rfl (own_fr hown3 ((Fr.refl nope _).alloc _) (fun _ _ x=>x)) rfl (news:=[.string label]) rfl (one_new _ _ _ _ rfl) (by simp [Value.oneCell']) (by simp only [maxLen];omega) (by omega) (by simp;omega) ?hk)
     case hk=>
      intro v6 w6 hown6 hf6 hb6
      obtain ⟨A6,c6,rfl,_,_⟩:=own_slice hown6
      clear hb6
      have hS6:=NoT.own (T:=[103]) (own_fr hown3 ((Fr.refl nope _).alloc (.cells #[.string label] 9)) (fun _ _ x=>x)) (by decide)
      have hT6:=Rw.frT (Rw.nope hT3 ((Fr.refl nope _).alloc (.cells #[.string label] 9))) hf6 hS6 (by decide)
      have hfr6:Fr nope w w6:=((hn12.then hf3).alloc _).then_new hf6 (fun x hx e=>by have:=hbo x e;omega)
      have hfr1:Fr nope w1 w6:=((hf12.then hf3).alloc _).then_new hf6 (fun x hx e=>by have:=hbo x e;omega)
      go_wp2
      go_roundg (ns.length - (k+1))
      case measure=>omega
      case rel=>exact ⟨k+1,A2,d2,T,A6,c6,opn ++ [label],a,st',by omega,by go_num,rfl,by omega,by simp,by simp;omega,rfl,hTd,by simpa using hown6,hT6,h3,hfr1,rfl⟩
    ·have hb0:=hbad.out (hinv'.out.bad (p:=⟨2,label,⟨lA,ln,lc⟩,lines,ins⟩) rfl hz)
     replace hb0:=Lib.hid hb0
     have hpos:(0:Int)≤(k':Int):=by omega
     clear hz hz1
     go_wp2
     go_ret2
     exact ⟨hn12.then hf3,.inr ⟨rfl,fun s h=>by rw [hb0.out] at h;cases h⟩⟩
   ·have h3:=Lib.hid (And.intro (hstep.out st (lp_com (p:=⟨kind,label,⟨lA,ln,lc⟩,lines,ins⟩) k1 k2)) hinv'.out)
    go_wp2_with (first
     | (refine wpList_load_mid rfl _ _ rfl b (off+k*13) rfl (PN.cells ⟨kind,label,⟨lA,ln,lc⟩,lines,ins⟩).toList _ hc Tryz.underlying57 rfl (by kernel_rfl) ?_)
     | (refine wpList_storeRow (b:=wr.heap.size) (cells:=PN.cells ⟨kind,label,⟨lA,ln,lc⟩,lines,ins⟩) rfl rfl rfl rfl (heap_alloc_new _ _) rfl (by kernel_rfl) (by kernel_rfl) ?_;intro w2 hb2 hf2;have hn2:Fr nope wr w2:=((Fr.refl nope wr).alloc _).then_new hf2 (fun x hx e=>by omega);have hcb0:=cell_of_row _ _ 0 _ _ (0,0) hb2;simp only [PN.cells,List.getElem?_toArray,List.getElem?_cons_zero] at hcb0))
    go_roundg (ns.length - (k+1))
    case measure=>omega
    case rel=>exact ⟨k+1,A2,d2,T,A4,d4,opn,a,st,by omega,by go_num,rfl,by omega,rfl,by omega,rfl,hTd,own_fr hown hn2 (fun _ _ x=>x),Rw.nope hT hn2,h3,hf.then hn2,rfl⟩
  ·rw [take_all hlt] at hinv
   have hfin:lpRun ns=some st:=hinv.out.1
   have hi:=Lib.hid hinv.out.2
   replace hfin:=Lib.hid hfin
   cases opn with
   | nil=>
    simp only [List.length_nil]
    go_wp2
    go_ret2
    exact ⟨hf1.then hf,.inl ⟨A2,d2,T,st,rfl,hT,hTd,by omega,hfin.out,hi.out.pend,hi.out.t⟩⟩
   | cons y opn=>
    have hpos:(0:Int) < (((y :: opn).length:Nat):Int):=by simp
    generalize (y :: opn).length=m at hpos hlen
    go_wp2
    go_ret2
    exact ⟨hf1.then hf,.inr ⟨rfl,fun s h=>by rw [hfin.out] at h;injection h with h;rw [← h,hi.out.pend];simp⟩⟩
end
section
open Go Go.RowKit Bth
set_option maxRecDepth 100000
theorem lp_facts:∀ (m:Nat) (ns:List PN),ns.length=m→∀ {s:LP},lpRun ns=some s→s.n=(insP ns).length∧∀ x i,s.t x=some i→i < s.n:=by
 intro m
 induction m with
 | zero=>
  intro ns hl s h
  rw [List.eq_nil_of_length_eq_zero hl] at h ⊢
  injection h with h
  subst h
  exact ⟨rfl,fun x i h=>by cases h⟩
 | succ m ih=>
  intro ns hl s h
  obtain ⟨l,p,rfl⟩:∃ l p,ns=l ++ [p]:=(List.eq_nil_or_concat ns).elim (fun h=>by rw [h] at hl;simp at hl) (fun ⟨l,nd,h⟩=>⟨l,nd,by simpa using h⟩)
  rw [lpRun_snoc] at h
  obtain ⟨s0,h1,h2⟩:=Option.bind_eq_some_iff.1 h
  obtain ⟨k1,k2⟩:=ih l (by simpa using hl) h1
  have e:insP (l ++ [p])=insP l ++ (if p.kind=1 then [p.ins] else []):=by
   unfold insP
   rw [List.filter_append,List.map_append]
   by_cases e:p.kind=1<;>simp [e]
  rw [e]
  unfold lpStep at h2
  split at h2
  ·rename_i h3
   injection h2 with h2
   subst h2
   refine ⟨by simp [h3,k1],fun x i hx=>?_⟩
   simp only at hx ⊢
   split at hx
   ·injection hx with hx;omega
   ·have:=k2 x i hx;omega
  ·rename_i h3
   rw [if_neg h3,List.append_nil]
   split at h2
   ·split at h2
    ·cases h2
    ·injection h2 with h2;subst h2;exact ⟨k1,k2⟩
   ·injection h2 with h2;subst h2;exact ⟨k1,k2⟩
theorem lpRun_facts {ns:List PN} {s:LP} (h:lpRun ns=some s):s.n=(insP ns).length∧∀ x i,s.t x=some i→i < s.n:=lp_facts _ ns rfl h
theorem succP_lt {t:ByteArray→Option Nat} {n k:Nat} {p:PI} {l:List (Option Nat)} (h:succP t n k p=some l) (ht:∀ x i,t x=some i→i < n):∀ s,some s∈l→s < n:=by
 intro s hs
 unfold succP at h
 obtain ⟨l1,h1,rfl⟩:=Option.map_eq_some_iff.1 h
 rcases List.mem_append.1 hs with hs | hs
 ·split at h1
  ·obtain ⟨x,_,h3⟩:=Option.bind_eq_some_iff.1 h1
   obtain ⟨b,h4,rfl⟩:=Option.map_eq_some_iff.1 h3
   have e:s=b:=by simpa using hs
   rw [e];exact ht x b h4
  ·injection h1 with h1;subst h1;cases hs
 ·split at hs
  ·cases hs
  ·split at hs
   ·have e:s=k+1:=by simpa using hs
    omega
   ·simp at hs
theorem succP_len {t:ByteArray→Option Nat} {n k:Nat} {p:PI} {l:List (Option Nat)} (h:succP t n k p=some l):l.length≤2:=by
 unfold succP at h
 obtain ⟨l1,h1,rfl⟩:=Option.map_eq_some_iff.1 h
 have h2:l1.length≤1:=by
  split at h1
  ·obtain ⟨x,_,h3⟩:=Option.bind_eq_some_iff.1 h1
   obtain ⟨b,h4,rfl⟩:=Option.map_eq_some_iff.1 h3
   simp
  ·injection h1 with h1;subst h1;simp
 rw [List.length_append]
 split
 ·simp;omega
 ·simp;omega
theorem GraphP.uniq {ns:List PN} {sc sc':Nat→List (Option Nat)} (h:GraphP ns sc) (h':GraphP ns sc'):∀ k,k < (insP ns).length→sc k=sc' k:=by
 intro k hk
 obtain ⟨s,h1,_,h3⟩:=h
 obtain ⟨s',h1',_,h3'⟩:=h'
 rw [h1] at h1'
 injection h1' with e
 subst e
 have a:=h3 k _ (List.getElem?_eq_getElem hk)
 have b:=h3' k _ (List.getElem?_eq_getElem hk)
 rw [a] at b
 injection b
def SccV (w:World) (vs:List Value) (ls:List (List (Option Nat))):Prop:=vs.length=ls.length∧∀ (k:Nat) (v:Value) (l:List (Option Nat)),vs[k]? = some v→ls[k]? = some l→∃ A c,v = .slice A l.length c∧Rw w 3 1 A l.length (l.map oV)
theorem SccV.frT {S:Nat→Prop} {w w':World} {vs:List Value} {ls:List (List (Option Nat))} (h:SccV w vs ls) (hf:Fr S w w') (hs:NoT [3] w S):SccV w' vs ls:=⟨h.1,fun k v s h1 h2=>by
 obtain ⟨A,c,e,hT⟩:=h.2 k v s h1 h2
 exact ⟨A,c,e,hT.frT hf hs (by decide)⟩⟩
theorem SccV.snoc {w:World} {vs:List Value} {ls:List (List (Option Nat))} {A:Option Addr} {c:Nat} {s:List (Option Nat)} (h:SccV w vs ls) (hs:Rw w 3 1 A s.length (s.map oV)):SccV w (vs ++ [.slice A s.length c]) (ls ++ [s]):=by
 refine ⟨by simp [h.1],fun k v t h1 h2=>?_⟩
 by_cases hlt:k < vs.length
 ·rw [List.getElem?_append_left hlt] at h1
  rw [List.getElem?_append_left (by rw [← h.1];exact hlt)] at h2
  exact h.2 k v t h1 h2
 ·rw [List.getElem?_append_right (by omega)] at h1
  rw [List.getElem?_append_right (by rw [← h.1];omega),← h.1] at h2
  have hk:k - vs.length=0:=by
   have:=(List.getElem?_eq_some_iff.1 h1).1
   simp at this;omega
  rw [hk] at h1 h2
  simp only [List.getElem?_cons_zero,Option.some.injEq] at h1 h2
  subst h1 h2
  exact ⟨A,c,rfl,hs⟩
theorem infoInt:(Tryz.prog.info? 3).map (fun i=>(i.zero,i.size,i.bytes))=some (some (.int .i64 0),1,8):=by kernel_rfl
theorem infoInts:(Tryz.prog.info? 98).map (fun i=>(i.zero,i.size,i.bytes))=some (some (.slice none 0 0),1,24):=by kernel_rfl
def Prd (w:World) (base bp n m:Nat):Prop:=∃ (cs:Array Value),w.heap[bp]? = some (.cells cs 98 (0,0))∧cs.size=n∧(∀ j,j < n→∃ v l xs,cs[j]? = some v∧l≤m∧w.ownsRow base 3 1 v l xs) ∧
 ∀ (j j':Nat) (v v':Value) (b:Nat),j≠j'→cs[j]? = some v→cs[j']? = some v'→v.ownBlock=some b→v'.ownBlock≠some b
theorem Prd.nope {w w':World} {base bp n m:Nat} (h:Prd w base bp n m) (hf:Fr nope w w'):Prd w' base bp n m:=by
 obtain ⟨cs,h1,h2,h3,h4⟩:=h
 refine ⟨cs,hf.heap h1 (fun x=>x),h2,fun j hj=>?_,h4⟩
 obtain ⟨v,l,xs,a,b,c⟩:=h3 j hj
 exact ⟨v,l,xs,a,b,own_fr c hf (fun _ _ x=>x)⟩
theorem Prd.mono {w:World} {base bp n m m':Nat} (h:Prd w base bp n m) (hm:m≤m'):Prd w base bp n m':=by
 obtain ⟨cs,h1,h2,h3,h4⟩:=h
 refine ⟨cs,h1,h2,fun j hj=>?_,h4⟩
 obtain ⟨v,l,xs,a,b,c⟩:=h3 j hj
 exact ⟨v,l,xs,a,by omega,c⟩
theorem Prd.at_ {w:World} {base bp n m j:Nat} (h:Prd w base bp n m) (hj:j < n):∃ A l c xs,w.cell? ⟨bp,j,none⟩=some (.slice A l c)∧l≤m∧w.ownsRow base 3 1 (.slice A l c) l xs:=by
 obtain ⟨cs,h1,h2,h3,_⟩:=h
 obtain ⟨v,l,xs,a,b,c⟩:=h3 j hj
 obtain ⟨A,d,rfl,_,_⟩:=own_slice c
 exact ⟨A,l,d,xs,by rw [cell_of_row w bp j _ _ (0,0) h1];exact a,b,c⟩
theorem Prd.noT {w:World} {base bp n m:Nat} (h:Prd w base bp n m):NoT [3] w (fun x=>x=bp):=by
 obtain ⟨cs,h1,_⟩:=h
 exact NoT.one h1 (by decide)
theorem Prd.step {w w1:World} {base bp n m k l:Nat} {v v':Value} {xs:List Value} (h:Prd w base bp n m) (hk:k < n) (hv:w.cell? ⟨bp,k,none⟩=some v) (hown:w1.ownsRow base 3 1 v' l xs) (hl:l≤m+1) (hf:Fr (fun b=>v.ownBlock=some b) w w1) (hb:v'.ownBlock=v.ownBlock∨∃ b,v'.ownBlock=some b∧w.heap.size≤b) (hT:NoT [98] w (fun b=>v.ownBlock=some b)):
  Prd (w1.setCell ⟨bp,k,none⟩ v') base bp n (m+1):=by
 obtain ⟨cs,h1,h2,h3,h4⟩:=h
 have hvc:cs[k]? = some v:=by rw [cell_of_row w bp k _ _ (0,0) h1] at hv;exact hv
 have hbp:¬v.ownBlock=some bp:=fun e=>hT bp cs _ _ e h1 (by decide)
 have h1w:=hf.heap h1 hbp
 have hno:NoT [3] w1 (fun x=>x=bp):=NoT.one h1w (by decide)
 have hset:Fr (fun x=>x=bp) w1 (w1.setCell ⟨bp,k,none⟩ v'):=(Fr.refl (fun x=>x=bp) w1).setCell (.inl rfl) _
 have hlow:∀ j,j < n→∀ u b,cs[j]? = some u→u.ownBlock=some b→b < w.heap.size:=fun j hj u b hu hb=>by
  obtain ⟨v2,l2,xs2,a,_,c⟩:=h3 j hj
  rw [a] at hu;injection hu with hu;subst hu
  exact own_lt c b hb
 refine ⟨cs.setIfInBounds k v',setCell_heap h1w _,by simp [h2],fun j hj=>?_,fun j j' u u' b hne hu hu' hub=>?_⟩
 ·by_cases e:j=k
  ·subst e
   exact ⟨v',l,xs,by rw [Array.getElem?_setIfInBounds];simp [h2,hj],hl,own_frT hown hset hno (by decide)⟩
  ·obtain ⟨v2,l2,xs2,a,b,c⟩:=h3 j hj
   refine ⟨v2,l2,xs2,by rw [Array.getElem?_setIfInBounds,if_neg (fun h=>e h.symm)];exact a,by omega,own_frT (own_fr c hf (fun b hb e2=>?_)) hset hno (by decide)⟩
   exact h4 j k v2 v b e a hvc hb e2
 ·have hget:∀ i,(cs.setIfInBounds k v')[i]? = if i=k then (if i < n then some v' else none) else cs[i]?:=fun i=>by
   rw [Array.getElem?_setIfInBounds]
   by_cases e:i=k
   ·subst e;simp [h2]
   ·rw [if_neg (fun h=>e h.symm),if_neg e]
  have hjlt:∀ i x,cs[i]? = some x→i < n:=fun i x hx=>by rw [← h2];exact (Array.getElem?_eq_some_iff.1 hx).1
  rw [hget] at hu hu'
  by_cases e:j=k
  ·have e':j'≠k:=fun e'=>hne (by rw [e,e'])
   rw [if_pos e,if_pos (by omega)] at hu
   rw [if_neg e'] at hu'
   injection hu with hu
   subst hu
   intro hc
   rcases hb with hb | ⟨b0,hb,hge⟩
   ·rw [hb] at hub
    exact h4 k j' v u' b (fun x=>e' x.symm) hvc hu' hub hc
   ·rw [hub] at hb
    injection hb with hb
    have:=hlow j' (hjlt j' u' hu') u' b hu' hc
    omega
  ·rw [if_neg e] at hu
   by_cases e':j'=k
   ·rw [if_pos e',if_pos (by omega)] at hu'
    injection hu' with hu'
    subst hu'
    intro hc
    rcases hb with hb | ⟨b0,hb,hge⟩
    ·rw [hb] at hc
     exact h4 j k u v b e hu hvc hub hc
    ·rw [hc] at hb
     injection hb with hb
     have:=hlow j (hjlt j u hu) u b hu hub
     omega
   ·rw [if_neg e'] at hu'
    exact h4 j j' u u' b hne hu hu' hub
theorem Prd.frozen {w:World} {base bp n m:Nat} (h:Prd w base bp n m):∀ j,w.frozen? ⟨bp,j,none⟩=false:=by
 obtain ⟨cs,h1,_⟩:=h
 exact frozen_row h1
theorem Prd.notIn {w:World} {base bp n m:Nat} {v:Value} (h:Prd w base bp n m) (hT:NoT [98] w (fun b=>v.ownBlock=some b)):¬v.ownBlock=some bp:=by
 obtain ⟨cs,h1,_⟩:=h
 exact fun e=>hT bp cs _ _ e h1 (by decide)
theorem Prd.frozen7 {S:Nat→Prop} {w w':World} {base bp n m:Nat} (h:Prd w base bp n m) (hf:Fr S w w') (hn:¬S bp):∀ j,w'.frozen? ⟨bp,j,none⟩=false:=by
 obtain ⟨cs,h1,_⟩:=h
 exact frozen_row (hf.heap h1 hn)
theorem prd_new {w:World} {b0 base bp n:Nat} (h:w.ownsRow b0 98 1 (.slice (some ⟨bp,0,none⟩) n n) n (madeCells (Value.slice none 0 0).cells (n*1)).toList):Prd w base bp n 0:=by
 rcases h.2 with ⟨h1,_⟩ | ⟨g,cap,cur,h1,_,hh,_,_,h5,h6⟩
 ·cases h1
 ·injection h1 with hA _ hc
  injection hA with hA
  injection hA with hg _ _
  subst hg hc
  have hget:∀ j,j < n→cur[j]? = some (.slice none 0 0):=fun j hj=>by
   have e:=congrArg (fun l=>l[j]?) h6
   rw [List.getElem?_take_of_lt (by omega)] at e
   rw [Array.getElem?_toList] at e
   rw [e]
   unfold madeCells
   simp [hj,Value.cells,Nat.mod_one]
  refine ⟨cur,hh,by omega,fun j hj=>⟨_,0,[],hget j hj,Nat.le_refl _,own_nil _ _ _ _⟩,fun j j' v v' b _ hv _ hb=>?_⟩
  have hj:j < n:=by have:=(Array.getElem?_eq_some_iff.1 hv).1;omega
  rw [hget j hj] at hv
  injection hv with hv
  subst hv
  simp [Value.ownBlock] at hb
end
end Go.Proofs.YtpbeedabmjmdmaaGreatDoor
