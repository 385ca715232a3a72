/- Part of the proof of a statement about pub-berthage: what its texts have in common. -/
import Derived.Deep.CutRange
import Derived.BigQuiet
import Derived.Test.YtbgblfiapecioaaGreatP24
import Derived.Test.YtbgblfiapecioaaGreatP25
import Derived.Test.YtbgblfiapecioaaGreatP31
import Derived.Test.YtbgblfiapecioaaGreatP32
namespace Go.Proofs.YtbgblfiapecioaaGreat
section
open Go Go.RowKit Bth
set_option maxRecDepth 100000
theorem lp_facts:∀ (m:Nat) (ns:List PN),ns.length=m→∀ {s:LP},lpRun ns=some s→s.n=(insP ns).length∧∀ x i,s.t x=some i→i < s.n:=by
 intro m
 induction m with
 | zero=>
  intro ns hl s h
  rw [List.eq_nil_of_length_eq_zero hl] at h ⊢
  injection h with h
  subst h
  exact ⟨rfl,fun x i h=>by cases h⟩
 | succ m ih=>
  intro ns hl s h
  obtain ⟨l,p,rfl⟩:∃ l p,ns=l ++ [p]:=(List.eq_nil_or_concat ns).elim (fun h=>by rw [h] at hl;simp at hl) (fun ⟨l,nd,h⟩=>⟨l,nd,by simpa using h⟩)
  rw [lpRun_snoc] at h
  obtain ⟨s0,h1,h2⟩:=Option.bind_eq_some_iff.1 h
  obtain ⟨k1,k2⟩:=ih l (by simpa using hl) h1
  have e:insP (l ++ [p])=insP l ++ (if p.kind=1 then [p.ins] else []):=by
   unfold insP
   rw [List.filter_append,List.map_append]
   by_cases e:p.kind=1<;>simp [e]
  rw [e]
  unfold lpStep at h2
  split at h2
  ·rename_i h3
   injection h2 with h2
   subst h2
   refine ⟨by simp [h3,k1],fun x i hx=>?_⟩
   simp only at hx ⊢
   split at hx
   ·injection hx with hx;omega
   ·have:=k2 x i hx;omega
  ·rename_i h3
   rw [if_neg h3,List.append_nil]
   split at h2
   ·split at h2
    ·cases h2
    ·injection h2 with h2;subst h2;exact ⟨k1,k2⟩
   ·injection h2 with h2;subst h2;exact ⟨k1,k2⟩
theorem lpRun_facts {ns:List PN} {s:LP} (h:lpRun ns=some s):s.n=(insP ns).length∧∀ x i,s.t x=some i→i < s.n:=lp_facts _ ns rfl h
theorem succP_lt {t:ByteArray→Option Nat} {n k:Nat} {p:PI} {l:List (Option Nat)} (h:succP t n k p=some l) (ht:∀ x i,t x=some i→i < n):∀ s,some s∈l→s < n:=by
 intro s hs
 unfold succP at h
 obtain ⟨l1,h1,rfl⟩:=Option.map_eq_some_iff.1 h
 rcases List.mem_append.1 hs with hs | hs
 ·split at h1
  ·obtain ⟨x,_,h3⟩:=Option.bind_eq_some_iff.1 h1
   obtain ⟨b,h4,rfl⟩:=Option.map_eq_some_iff.1 h3
   have e:s=b:=by simpa using hs
   rw [e];exact ht x b h4
  ·injection h1 with h1;subst h1;cases hs
 ·split at hs
  ·cases hs
  ·split at hs
   ·have e:s=k+1:=by simpa using hs
    omega
   ·simp at hs
theorem succP_len {t:ByteArray→Option Nat} {n k:Nat} {p:PI} {l:List (Option Nat)} (h:succP t n k p=some l):l.length≤2:=by
 unfold succP at h
 obtain ⟨l1,h1,rfl⟩:=Option.map_eq_some_iff.1 h
 have h2:l1.length≤1:=by
  split at h1
  ·obtain ⟨x,_,h3⟩:=Option.bind_eq_some_iff.1 h1
   obtain ⟨b,h4,rfl⟩:=Option.map_eq_some_iff.1 h3
   simp
  ·injection h1 with h1;subst h1;simp
 rw [List.length_append]
 split
 ·simp;omega
 ·simp;omega
theorem GraphP.uniq {ns:List PN} {sc sc':Nat→List (Option Nat)} (h:GraphP ns sc) (h':GraphP ns sc'):∀ k,k < (insP ns).length→sc k=sc' k:=by
 intro k hk
 obtain ⟨s,h1,_,h3⟩:=h
 obtain ⟨s',h1',_,h3'⟩:=h'
 rw [h1] at h1'
 injection h1' with e
 subst e
 have a:=h3 k _ (List.getElem?_eq_getElem hk)
 have b:=h3' k _ (List.getElem?_eq_getElem hk)
 rw [a] at b
 injection b
def SccV (w:World) (vs:List Value) (ls:List (List (Option Nat))):Prop:=vs.length=ls.length∧∀ (k:Nat) (v:Value) (l:List (Option Nat)),vs[k]? = some v→ls[k]? = some l→∃ A c,v = .slice A l.length c∧Rw w 3 1 A l.length (l.map oV)
theorem SccV.frT {S:Nat→Prop} {w w':World} {vs:List Value} {ls:List (List (Option Nat))} (h:SccV w vs ls) (hf:Fr S w w') (hs:NoT [3] w S):SccV w' vs ls:=⟨h.1,fun k v s h1 h2=>by
 obtain ⟨A,c,e,hT⟩:=h.2 k v s h1 h2
 exact ⟨A,c,e,hT.frT hf hs (by decide)⟩⟩
theorem SccV.snoc {w:World} {vs:List Value} {ls:List (List (Option Nat))} {A:Option Addr} {c:Nat} {s:List (Option Nat)} (h:SccV w vs ls) (hs:Rw w 3 1 A s.length (s.map oV)):SccV w (vs ++ [.slice A s.length c]) (ls ++ [s]):=by
 refine ⟨by simp [h.1],fun k v t h1 h2=>?_⟩
 by_cases hlt:k < vs.length
 ·rw [List.getElem?_append_left hlt] at h1
  rw [List.getElem?_append_left (by rw [← h.1];exact hlt)] at h2
  exact h.2 k v t h1 h2
 ·rw [List.getElem?_append_right (by omega)] at h1
  rw [List.getElem?_append_right (by rw [← h.1];omega),← h.1] at h2
  have hk:k - vs.length=0:=by
   have:=(List.getElem?_eq_some_iff.1 h1).1
   simp at this;omega
  rw [hk] at h1 h2
  simp only [List.getElem?_cons_zero,Option.some.injEq] at h1 h2
  subst h1 h2
  exact ⟨A,c,rfl,hs⟩
theorem infoInt:(Tryz.prog.info? 3).map (fun i=>(i.zero,i.size,i.bytes))=some (some (.int .i64 0),1,8):=by kernel_rfl
theorem infoInts:(Tryz.prog.info? 67).map (fun i=>(i.zero,i.size,i.bytes))=some (some (.slice none 0 0),1,24):=by kernel_rfl
def Prd (w:World) (base bp n m:Nat):Prop:=∃ (cs:Array Value),w.heap[bp]? = some (.cells cs 67 (0,0))∧cs.size=n∧(∀ j,j < n→∃ v l xs,cs[j]? = some v∧l≤m∧w.ownsRow base 3 1 v l xs) ∧
 ∀ (j j':Nat) (v v':Value) (b:Nat),j≠j'→cs[j]? = some v→cs[j']? = some v'→v.ownBlock=some b→v'.ownBlock≠some b
theorem Prd.nope {w w':World} {base bp n m:Nat} (h:Prd w base bp n m) (hf:Fr nope w w'):Prd w' base bp n m:=by
 obtain ⟨cs,h1,h2,h3,h4⟩:=h
 refine ⟨cs,hf.heap h1 (fun x=>x),h2,fun j hj=>?_,h4⟩
 obtain ⟨v,l,xs,a,b,c⟩:=h3 j hj
 exact ⟨v,l,xs,a,b,own_fr c hf (fun _ _ x=>x)⟩
theorem Prd.mono {w:World} {base bp n m m':Nat} (h:Prd w base bp n m) (hm:m≤m'):Prd w base bp n m':=by
 obtain ⟨cs,h1,h2,h3,h4⟩:=h
 refine ⟨cs,h1,h2,fun j hj=>?_,h4⟩
 obtain ⟨v,l,xs,a,b,c⟩:=h3 j hj
 exact ⟨v,l,xs,a,by omega,c⟩
theorem Prd.at_ {w:World} {base bp n m j:Nat} (h:Prd w base bp n m) (hj:j < n):∃ A l c xs,w.cell? ⟨bp,j,none⟩=some (.slice A l c)∧l≤m∧w.ownsRow base 3 1 (.slice A l c) l xs:=by
 obtain ⟨cs,h1,h2,h3,_⟩:=h
 obtain ⟨v,l,xs,a,b,c⟩:=h3 j hj
 obtain ⟨A,d,rfl,_,_⟩:=own_slice c
 exact ⟨A,l,d,xs,by rw [cell_of_row w bp j _ _ (0,0) h1];exact a,b,c⟩
theorem Prd.noT {w:World} {base bp n m:Nat} (h:Prd w base bp n m):NoT [3] w (fun x=>x=bp):=by
 obtain ⟨cs,h1,_⟩:=h
 exact NoT.one h1 (by decide)
theorem Prd.step {w w1:World} {base bp n m k l:Nat} {v v':Value} {xs:List Value} (h:Prd w base bp n m) (hk:k < n) (hv:w.cell? ⟨bp,k,none⟩=some v) (hown:w1.ownsRow base 3 1 v' l xs) (hl:l≤m+1) (hf:Fr (fun b=>v.ownBlock=some b) w w1) (hb:v'.ownBlock=v.ownBlock∨∃ b,v'.ownBlock=some b∧w.heap.size≤b) (hT:NoT [67] w (fun b=>v.ownBlock=some b)):
  Prd (w1.setCell ⟨bp,k,none⟩ v') base bp n (m+1):=by
 obtain ⟨cs,h1,h2,h3,h4⟩:=h
 have hvc:cs[k]? = some v:=by rw [cell_of_row w bp k _ _ (0,0) h1] at hv;exact hv
 have hbp:¬v.ownBlock=some bp:=fun e=>hT bp cs _ _ e h1 (by decide)
 have h1w:=hf.heap h1 hbp
 have hno:NoT [3] w1 (fun x=>x=bp):=NoT.one h1w (by decide)
 have hset:Fr (fun x=>x=bp) w1 (w1.setCell ⟨bp,k,none⟩ v'):=(Fr.refl (fun x=>x=bp) w1).setCell (.inl rfl) _
 have hlow:∀ j,j < n→∀ u b,cs[j]? = some u→u.ownBlock=some b→b < w.heap.size:=fun j hj u b hu hb=>by
  obtain ⟨v2,l2,xs2,a,_,c⟩:=h3 j hj
  rw [a] at hu;injection hu with hu;subst hu
  exact own_lt c b hb
 refine ⟨cs.setIfInBounds k v',setCell_heap h1w _,by simp [h2],fun j hj=>?_,fun j j' u u' b hne hu hu' hub=>?_⟩
 ·by_cases e:j=k
  ·subst e
   exact ⟨v',l,xs,by rw [Array.getElem?_setIfInBounds];simp [h2,hj],hl,own_frT hown hset hno (by decide)⟩
  ·obtain ⟨v2,l2,xs2,a,b,c⟩:=h3 j hj
   refine ⟨v2,l2,xs2,by rw [Array.getElem?_setIfInBounds,if_neg (fun h=>e h.symm)];exact a,by omega,own_frT (own_fr c hf (fun b hb e2=>?_)) hset hno (by decide)⟩
   exact h4 j k v2 v b e a hvc hb e2
 ·have hget:∀ i,(cs.setIfInBounds k v')[i]? = if i=k then (if i < n then some v' else none) else cs[i]?:=fun i=>by
   rw [Array.getElem?_setIfInBounds]
   by_cases e:i=k
   ·subst e;simp [h2]
   ·rw [if_neg (fun h=>e h.symm),if_neg e]
  have hjlt:∀ i x,cs[i]? = some x→i < n:=fun i x hx=>by rw [← h2];exact (Array.getElem?_eq_some_iff.1 hx).1
  rw [hget] at hu hu'
  by_cases e:j=k
  ·have e':j'≠k:=fun e'=>hne (by rw [e,e'])
   rw [if_pos e,if_pos (by omega)] at hu
   rw [if_neg e'] at hu'
   injection hu with hu
   subst hu
   intro hc
   rcases hb with hb | ⟨b0,hb,hge⟩
   ·rw [hb] at hub
    exact h4 k j' v u' b (fun x=>e' x.symm) hvc hu' hub hc
   ·rw [hub] at hb
    injection hb with hb
    have:=hlow j' (hjlt j' u' hu') u' b hu' hc
    omega
  ·rw [if_neg e] at hu
   by_cases e':j'=k
   ·rw [if_pos e',if_pos (by omega)] at hu'
    injection hu' with hu'
    subst hu'
    intro hc
    rcases hb with hb | ⟨b0,hb,hge⟩
    ·rw [hb] at hc
     exact h4 j k u v b e hu hvc hub hc
    ·rw [hc] at hb
     injection hb with hb
     have:=hlow j (hjlt j u hu) u b hu hub
     omega
   ·rw [if_neg e'] at hu'
    exact h4 j j' u u' b hne hu hu' hub
theorem Prd.frozen {w:World} {base bp n m:Nat} (h:Prd w base bp n m):∀ j,w.frozen? ⟨bp,j,none⟩=false:=by
 obtain ⟨cs,h1,_⟩:=h
 exact frozen_row h1
theorem Prd.notIn {w:World} {base bp n m:Nat} {v:Value} (h:Prd w base bp n m) (hT:NoT [67] w (fun b=>v.ownBlock=some b)):¬v.ownBlock=some bp:=by
 obtain ⟨cs,h1,_⟩:=h
 exact fun e=>hT bp cs _ _ e h1 (by decide)
theorem Prd.frozen7 {S:Nat→Prop} {w w':World} {base bp n m:Nat} (h:Prd w base bp n m) (hf:Fr S w w') (hn:¬S bp):∀ j,w'.frozen? ⟨bp,j,none⟩=false:=by
 obtain ⟨cs,h1,_⟩:=h
 exact frozen_row (hf.heap h1 hn)
theorem prd_new {w:World} {b0 base bp n:Nat} (h:w.ownsRow b0 67 1 (.slice (some ⟨bp,0,none⟩) n n) n (madeCells (Value.slice none 0 0).cells (n*1)).toList):Prd w base bp n 0:=by
 rcases h.2 with ⟨h1,_⟩ | ⟨g,cap,cur,h1,_,hh,_,_,h5,h6⟩
 ·cases h1
 ·injection h1 with hA _ hc
  injection hA with hA
  injection hA with hg _ _
  subst hg hc
  have hget:∀ j,j < n→cur[j]? = some (.slice none 0 0):=fun j hj=>by
   have e:=congrArg (fun l=>l[j]?) h6
   rw [List.getElem?_take_of_lt (by omega)] at e
   rw [Array.getElem?_toList] at e
   rw [e]
   unfold madeCells
   simp [hj,Value.cells,Nat.mod_one]
  refine ⟨cur,hh,by omega,fun j hj=>⟨_,0,[],hget j hj,Nat.le_refl _,own_nil _ _ _ _⟩,fun j j' v v' b _ hv _ hb=>?_⟩
  have hj:j < n:=by have:=(Array.getElem?_eq_some_iff.1 hv).1;omega
  rw [hget j hj] at hv
  injection hv with hv
  subst hv
  simp [Value.ownBlock] at hb
end
section
open Go Go.RowKit Bth
set_option maxRecDepth 100000
def GivesFG (w:World) (ns:List PN) (e:Ending) (w':World):Prop:=Fr nope w w' ∧
 ((∃ A c D d sc,e = .returned (.tuple #[.slice A (insP ns).length c,.slice D (insP ns).length d,.bool true])∧GraphP ns sc∧SuccAt w' A (insP ns).length sc) ∨
  (e = .returned (.tuple #[.slice none 0 0,.slice none 0 0,.bool false])∧∀ sc,¬GraphP ns sc))
def brP (t:ByteArray→Option Nat) (p:PI):Option (List (Option Nat)):=if p.br then (targetP p.ops).bind fun s=>(t s).map fun b=>[some b] else some []
def nxP (n k:Nat) (p:PI):List (Option Nat):=if p.term || (p.br && !p.cond) then [] else [if k+1 < n then some (k+1) else none]
theorem succP_two (t:ByteArray→Option Nat) (n k:Nat) (p:PI):succP t n k p=(brP t p).map fun l=>l ++ nxP n k p:=rfl
theorem insP_at {w:World} {B:Nat} {s:SV} {ns:List PN} (hN:NodesAt w B s ns) (hok:ns.all okN=true):∀ p∈insP ns,p.At w B∧okI p=true:=by
 intro p hp
 obtain ⟨n,hn,rfl⟩:=insP_mem hp
 refine ⟨(hN.each n hn).ins,?_⟩
 obtain ⟨n',hn',e⟩:=List.mem_map.1 hp
 obtain ⟨h1,h2⟩:=List.mem_filter.1 hn'
 have h3:=List.all_eq_true.1 hok n' h1
 unfold okN at h3
 rw [if_pos (by simpa using h2),e] at h3
 exact h3
theorem bool1:∀ a b:Bool,(!a && !b)=false→(a || b)=true:=by decide
theorem bool2:∀ a b:Bool,(!a && !b)=true→(a || b)=false:=by decide
theorem nx1 {n k:Nat} {p:PI} (h:(!p.term && !(p.br && !p.cond))=false):nxP n k p=[]:=by
 unfold nxP;rw [bool1 _ _ h];rfl
theorem nx2 {n k:Nat} {p:PI} (h:(!p.term && !(p.br && !p.cond))=true):nxP n k p=[if k+1 < n then some (k+1) else none]:=by
 unfold nxP;rw [bool2 _ _ h];rfl
set_option maxHeartbeats 1000000 in
theorem FlowGraph_calls (w:World) (B:Nat) (s:SV) (ns:List PN) (hN:NodesAt w B s ns) (hok:ns.all okN=true):Calls Tryz.prog 10 #[s.val] w (GivesFG w ns):=by
 have hLT:=LabelTargets_calls w B s ns hN hok
 have hI:=fun W (hW:Fr nope w W)=>Instrs_calls W B s ns (hN.fr hW (fun _ _ x=>x))
 have hat:=insP_at hN hok
 have hlen:(insP ns).length≤1048576:=by
  have h1:=hN.few
  have:(insP ns).length≤ns.length:=by unfold insP;rw [List.length_map];exact List.length_filter_le _ _
  omega
 obtain ⟨A,n,c⟩:=s
 simp only [SV.val] at hLT hI ⊢
 clear hN hok
 replace hI:=Lib.hid hI
 replace hat:=Lib.hid hat
 go_enter Tryz.func10,Tryz.ntmps10
 go_wp2_with fail
 refine hLT.mono ?_
 rintro e w1 ⟨hf1,⟨AT,cT,T,st,rfl,hT,hTc,hTl,hrun,hpend,hlk⟩ | ⟨rfl,hbad⟩⟩
 rotate_left
 ·replace hbad:=Lib.hid hbad
  go_wp2
  go_ret3
  exact ⟨hf1,.inr ⟨rfl,fun sc ⟨s,h1,h2,_⟩=>hbad.out s h1 h2⟩⟩
 replace hrun:=Lib.hid hrun
 replace hpend:=Lib.hid hpend
 replace hlk:=Lib.hid hlk
 go_wp2_with fail
 refine (hI.out _ hf1).mono ?_
 rintro e w2 ⟨hf2,Aa,ca,rfl,hins⟩
 have hT2:=Rw.nope hT hf2
 have hn2:=hf1.then hf2
 obtain ⟨is,his⟩:∃ is,is=insP ns:=⟨_,rfl⟩
 have hno:(∃ (k:Nat) (p:PI),is[k]? = some p∧succP st.t st.n k p=none)→∀ sc,¬GraphP ns sc:=by
  rintro ⟨k,p,h1,h2⟩ sc ⟨s,h3,_,h4⟩
  rw [hrun.out] at h3
  injection h3 with h3
  subst h3
  rw [his] at h1
  rw [h4 k p h1] at h2
  cases h2
 have hnn:st.n=is.length:=by rw [his];exact (lpRun_facts hrun.out).1
 rw [← his] at hins hlen hat ⊢
 replace hno:=Lib.hid hno
 replace his:=Lib.hid his
 replace hnn:=Lib.hid hnn
 clear hT hI
 obtain ⟨ii,hii,hzz⟩:=Option.map_eq_some_iff.1 infoInts
 simp only [Prod.mk.injEq] at hzz
 obtain ⟨hz,hz1,hz2⟩:=hzz
 go_wp2_with (refine wpList_make_full w2 rfl _ _ 25 rfl w.heap.size 67 ii _ 1 Tryz.underlying25 hii hz hz1 .i64 .i64 (is.length:Int) (is.length:Int) is.length rfl rfl rfl rfl (by rw [hz2];omega) (by simp only [maxLen];omega) hn2.size ?hmk)
 case hmk=>
  intro w3 hown3 hgr3
  have hf3:Fr nope w2 w3:=(Fr_of_grown hgr3).mono (fun x _ e=>by cases e)
  have hsz3:=hf3.size
  have hsz2:=hn2.size
  have hlt3:w2.heap.size < w3.heap.size:=own_lt hown3 _ rfl
  have hPr:∀ base,Prd w3 base w2.heap.size is.length 0:=fun base=>prd_new (by rw [Nat.mul_one];exact hown3)
  have hT3:=Rw.nope hT2 hf3
  have hins3:=Rw.nope hins hf3
  have hn3:=hn2.then hf3
  clear hown3 hgr3 hii hz hz1 hz2 hT2 hins
  go_wp2
  go_loopg [2,3,4,32] is.length (fun m c2 c3 c4 c32 wr=>c3 = .slice (some ⟨w2.heap.size,0,none⟩) is.length is.length∧c4 = .bool true∧∃ (k:Nat) (A2:Option Addr) (d2:Nat) (vs:List Value) (ls:List (List (Option Nat))),k≤is.length∧c32 = .int .i64 (k:Int)∧c2 = .slice A2 k d2∧wr.ownsRow w3.heap.size 67 1 (.slice A2 k d2) k vs∧Hid (SccV wr vs ls)∧Hid (ls.length=k∧∀ (j:Nat) (p:PI),j < k→is[j]? = some p→succP st.t st.n j p=ls[j]?)∧Fr nope w3 wr∧m=is.length - k)
  case atStart=>exact ⟨rfl,rfl,0,none,0,[],[],Nat.zero_le _,rfl,rfl,own_nil _ _ _ _,Lib.hid ⟨rfl,by simp⟩,Lib.hid ⟨rfl,fun j p h=>by omega⟩,Fr.refl _ _,rfl⟩
  case round=>
   obtain ⟨rfl,rfl,k,A2,d2,vs,ls,hk,rfl,rfl,hown,hsv,hls,hf,rfl⟩:=hrel
   have hsz:=hf.size
   have hbo:=own_base hown
   by_cases hlt:k < is.length
   ·obtain ⟨p,hx⟩:∃ x,is[k]? = some x:=⟨_,List.getElem?_eq_getElem hlt⟩
    obtain ⟨b,off,hBe,hbl,hr⟩:=(Rw.nope hins3 hf).at_ PI.list_len hx
    subst hBe
    obtain ⟨hpa,hpo⟩:=hat.out p (List.mem_of_getElem? hx)
    have hpa:=hpa.fr (hn3.then hf) (fun _ _ x=>x)
    replace hx:=Lib.hid hx
    go_upto_if 38 with (first
     | (refine wpList_load_mid rfl _ _ rfl b (off+k*10) rfl p.cells.toList _ hr Tryz.underlying46 rfl (by kernel_rfl) ?_)
     | (refine wpList_storeRow (b:=wr.heap.size) (cells:=p.cells) rfl rfl rfl rfl (heap_alloc_new _ _) rfl (by kernel_rfl) (by kernel_rfl) ?_;intro w4 hb4 hf4;have hn4:Fr nope wr w4:=((Fr.refl nope wr).alloc _).then_new hf4 (fun x hx e=>by omega);have hb5:=cell_of_row _ _ 5 _ _ (0,0) hb4;have hb6:=cell_of_row _ _ 6 _ _ (0,0) hb4;replace hb5:w4.cell? ⟨wr.heap.size,5,none⟩=some (.bool p.term):=hb5;replace hb6:w4.cell? ⟨wr.heap.size,6,none⟩=some (.bool p.br):=hb6))
    have hpa4:=hpa.fr hn4 (fun _ _ x=>x)
    have hnone:brP st.t p=none→∀ sc,¬GraphP ns sc:=fun h=>hno.out ⟨k,p,hx.out,by rw [succP_two,h];rfl⟩
    have hsz4:=hn4.size
    replace hnone:=Lib.hid hnone
    have hw4:Fr nope w w4:=(hn3.then hf).then hn4
    go_cut [2,3,4,9,10,11,12,32] from 32 to 83 (fun c2 c3 c4 c9 c10 c11 c12 c32 wx=>c2 = .slice A2 k d2∧c3 = .slice (some ⟨w2.heap.size,0,none⟩) is.length is.length∧c4 = .bool true∧c32 = .int .i64 (k:Int)∧∃ (l:List (Option Nat)) (A9:Option Addr) (d9:Nat),c9 = .slice A9 l.length d9∧brP st.t p=some l∧l.length≤1∧wx.ownsRow w4.heap.size 3 1 (.slice A9 l.length d9) l.length (l.map oV)∧Fr nope w4 wx)
    case first=>
     cases hbr:p.br with
     | false=>
      rw [hbr] at hb6
      have hbp:Hid (brP st.t p=some []):=Lib.hid (by simp [brP,hbr])
      clear hbr
      go_wp2
      go_meet
      exact ⟨rfl,rfl,rfl,rfl,[],none,0,rfl,hbp.out,by simp,own_nil _ _ _ _,Fr.refl _ _⟩
     | true=>
      rw [hbr] at hb6
      have hbp:brP st.t p=(targetP p.ops).bind fun s=>(st.t s).map fun b=>[some b]:=by simp [brP,hbr]
      replace hbp:=Lib.hid hbp
      have hTL:=spTargetLabel_calls w4 B p hpa4 hpo hbr
      clear hbr
      go_wp2_with (refine wpList_loadRow (b:=wr.heap.size) (cells:=p.cells) rfl rfl rfl hb4 Tryz.underlying46 rfl (by kernel_rfl) ?_)
      refine hTL.mono ?_
      rintro e w5 ⟨z1,bb,rfl,ht1,ht2,hf5⟩
      have hw5:=hw4.then hf5
      have hT5:=(((Rw.nope hT3 hf)).nope hn4).nope hf5
      go_wp2_with fail
      refine (flowAt_calls w5 AT cT T z1 hT5 (by omega)).mono ?_
      rintro e w6 ⟨z,rfl,hz,hf6⟩
      cases bb with
      | false=>
       have hend:=Lib.hid (hnone.out (by rw [hbp.out,ht2 rfl];rfl))
       clear hz ht1 ht2
       go_wp2
       go_ret3
       exact ⟨hw5.then hf6,.inr ⟨rfl,hend.out⟩⟩
      | true=>
       rcases hz with ⟨rfl,hz⟩ | ⟨k',b',rfl,hz1,hz⟩
       ·have hend:=Lib.hid (hnone.out (by rw [hbp.out,ht1 rfl,Option.bind_some,← hlk.out,hz];rfl))
        clear hz ht1 ht2
        have hneg:(-1:Int) < 0:=by omega
        go_wp2
        go_ret3
        exact ⟨hw5.then hf6,.inr ⟨rfl,hend.out⟩⟩
       ·have hbq:Hid (brP st.t p=some [some b']):=Lib.hid (by rw [hbp.out,ht1 rfl,Option.bind_some,← hlk.out,hz];rfl)
        obtain ⟨bt,offt,hAT,hbt,hrt⟩:=(Rw.nope hT5 hf6).at_ tgV_len hz1
        subst hAT
        have hct1:w6.cell? ⟨bt,offt+k'*2+1,none⟩=some (.int .i64 (b':Int)):=hrt 1 _ rfl
        have hkl:k' < T.length:=(List.getElem?_eq_some_iff.1 hz1).1
        have hk0:¬(k':Int) < 0:=by omega
        have hk1:(0:Int)≤(k':Int):=by omega
        have hk2:(k':Int) < (T.length:Int):=by omega
        have hsz6:=(hf5.then hf6).size
        clear hz ht1 ht2 hz1 hrt
        go_wp2_with (refine wpList_app (v:=.slice none 0 0) rfl rfl Tryz.underlying67 infoInt rfl (by omega) rfl (own_nil _ w4.heap.size _ _) rfl (news:=[.int .i64 (b':Int)]) rfl (one_new _ _ _ _ rfl) (by simp [Value.oneCell']) (by simp [maxLen]) (by simp) (by simp;omega) ?hk)
        case hk=>
         intro v7 w7 hown7 hf7 hb7
         obtain ⟨A7,c7,rfl,_,_⟩:=own_slice hown7
         clear hb7
         go_wp2
         go_meet
         exact ⟨rfl,rfl,rfl,rfl,[some b'],A7,c7,rfl,hbq.out,by simp,hown7,((hf5.then hf6).alloc _).then (hf7.mono (fun x _ h=>by simp [Value.ownBlock] at h))⟩
    case rest=>
     obtain ⟨rfl,rfl,rfl,rfl,l,A9,d9,rfl,hbp,hl1,ho9,hf9⟩:=hcut
     replace hbp:=Lib.hid hbp
     have hb5c:=hf9.cell hb5 (fun x=>x)
     have hb4c:=hf9.heap hb4 (fun x=>x)
     have hszc:=hf9.size
     have hbo9:=own_base ho9
     go_upto_region 16 with fail
     go_cut [32,68] from 32 to 83 (fun c32 c68 wx=>c32 = .int .i64 (k:Int)∧c68 = .bool (!p.term && !(p.br && !p.cond))∧Fr nope wc wx)
     case first=>
      cases hterm:p.term with
      | true=>
       rw [hterm] at hb5c
       replace hterm:=Lib.hid hterm
       clear hb4c
       go_wp2
       go_meet
       exact ⟨rfl,by rw [hterm.out];rfl,Fr.refl _ _⟩
      | false=>
       rw [hterm] at hb5c
       have hU:=spUncond_calls wc B p (hpa4.fr hf9 (fun _ _ x=>x)) hpo
       unfold GivesB PI.agg PI.cells at hU
       rw [hterm] at hU
       have hcj:=fun j=>cell_of_row _ _ j _ _ (0,0) hb4c
       simp only [PI.cells,hterm] at hcj
       replace hterm:=Lib.hid hterm
       clear hb4c
       go_wp2_with fail
       refine hU.mono ?_
       rintro e w5 ⟨rfl,hf5⟩
       clear hcj
       go_wp2
       go_meet
       exact ⟨rfl,by rw [hterm.out];simp,hf5⟩
     case rest=>
     obtain ⟨rfl,rfl,hf9'⟩:=hcut
     have hf9:=hf9.then hf9'
     have ho9:=own_fr ho9 hf9' (fun _ _ x=>x)
     have hszc:=hf9.size
     clear hb5c hb4c
     go_upto_if 68 with fail
     go_cut [9,13,32] from 32 to 83 (fun c9 c13 c32 wx=>c32 = .int .i64 (k:Int)∧∃ (l:List (Option Nat)) (A9:Option Addr) (d9:Nat),c9 = .slice A9 l.length d9∧succP st.t st.n k p=some l∧wx.ownsRow w4.heap.size 3 1 (.slice A9 l.length d9) l.length (l.map oV)∧Fr nope w4 wx)
     case first=>
      cases hu:(!p.term && !(p.br && !p.cond)) with
      | false=>
       have hs:Hid (succP st.t st.n k p=some l):=Lib.hid (by rw [succP_two,hbp.out,nx1 hu,Option.map_some,List.append_nil])
       clear hu
       go_wp2
       go_meet
       exact ⟨rfl,l,A9,d9,rfl,hs.out,ho9,hf9⟩
      | true=>
        have hnx:nxP st.n k p=[if k+1 < st.n then some (k+1) else none]:=nx2 hu
        replace hnx:=Lib.hid hnx
        by_cases hkn:k+1=is.length
        ·have hs:Hid (succP st.t st.n k p=some (l ++ [none])):=Lib.hid (by rw [succP_two,hbp.out,hnx.out,hnn.out,if_neg (by omega)];rfl)
         have hkn':(k:Int)+1=(is.length:Int):=by omega
         have hkn2:(((k:Int)+1) == (is.length:Int))=true:=by simp [hkn']
         clear hu
         replace hkn:=Lib.hid hkn
         go_wp2_with (refine wpList_app (v:=.slice A9 l.length d9) rfl rfl Tryz.underlying67 infoInt rfl (by omega) rfl (own_fr ho9 ((Fr.refl nope _).alloc _) (fun _ _ x=>x)) rfl (news:=[.int .i64 (-1)]) rfl (one_new _ _ _ _ rfl) (by simp [Value.oneCell']) (by simp only [maxLen];omega) (by omega) (by simp;omega) ?hk)
         case hk=>
          intro v7 w7 hown7 hf7 hb7
          obtain ⟨A7,c7,rfl,_,_⟩:=own_slice hown7
          clear hb7
          go_wp2
          go_meet
          exact ⟨rfl,l ++ [none],A7,c7,by simp,hs.out,by rw [List.map_append,List.length_append];exact hown7,(hf9.alloc _).then_new hf7 (fun x hx e=>by have:=hbo9 x e;omega)⟩
        ·have hs:Hid (succP st.t st.n k p=some (l ++ [some (k+1)])):=Lib.hid (by rw [succP_two,hbp.out,hnx.out,hnn.out,if_pos (by omega)];rfl)
         have hkn':(k:Int)+1≠(is.length:Int):=by omega
         have hkn2:(((k:Int)+1) == (is.length:Int))=false:=by simp;omega
         clear hu
         replace hkn:=Lib.hid hkn
         go_wp2_with (refine wpList_app (v:=.slice A9 l.length d9) rfl rfl Tryz.underlying67 infoInt rfl (by omega) rfl (own_fr ho9 ((Fr.refl nope _).alloc _) (fun _ _ x=>x)) rfl (news:=[.int .i64 ((k:Int)+1)]) rfl (one_new _ _ _ _ rfl) (by simp [Value.oneCell']) (by simp only [maxLen];omega) (by omega) (by simp;omega) ?hk)
         case hk=>
          intro v7 w7 hown7 hf7 hb7
          obtain ⟨A7,c7,rfl,_,_⟩:=own_slice hown7
          clear hb7
          go_wp2
          go_meet
          exact ⟨rfl,l ++ [some (k+1)],A7,c7,by simp,hs.out,by rw [List.map_append,List.length_append];simpa [oV] using hown7,(hf9.alloc _).then_new hf7 (fun x hx e=>by have:=hbo9 x e;omega)⟩
     case rest=>
      obtain ⟨rfl,l2,A10,d10,rfl,hs2,ho10,hf10⟩:=hcut
      replace hs2:=Lib.hid hs2
      clear ho9 hf9 hbo9 hszc
      have hfr:=hn4.then hf10
      have hszd:=hfr.size
      have hownc:=own_fr hown hfr (fun _ _ x=>x)
      have hz1:∀ u∈[Value.slice A10 l2.length d10],u.oneCell'=true:=fun u hu=>by rw [List.mem_singleton.1 hu];rfl
      have hz2:k+1≤maxLen:=by unfold maxLen;omega
      have hz3:(k+1)*24≤140737488355328:=by omega
      have hal:=(Fr.refl nope wc).alloc (.cells #[.slice A10 l2.length d10] 67)
      have hz4:w3.heap.size≤(wc.alloc (.cells #[.slice A10 l2.length d10] 67)).heap.size:=by have:=hfr.size;have:=hf.size;have:=hal.size;omega
      have hownd:=own_fr hownc hal (fun _ _ x=>x)
      have hone:=one_new wc (.slice A10 l2.length d10) 67 _ rfl
      go_wp2_with (refine wpList_app (v:=.slice A2 k d2) rfl rfl Tryz.underlying25 infoInts rfl (Nat.lt_succ_self 0) rfl hownd rfl (news:=[.slice A10 l2.length d10]) rfl hone hz1 hz2 hz3 hz4 ?hm)
      case hm=>
       intro v7 w7 hown7 hf7 hb7
       obtain ⟨A7,c7,rfl,_,_⟩:=own_slice hown7
       clear hb7
       have hS7:=NoT.own (T:=[3]) hownd (by decide)
       have hsva:=hsv.out.frT hfr (NoT.nope _ _)
       have hsvb:=hsva.snoc (c:=d10) (Rw.of_own ho10)
       have hsvc:=hsvb.frT hal (NoT.nope _ _)
       have hsv7:=Lib.hid (hsvc.frT hf7 hS7)
       have hls7:Hid ((ls ++ [l2]).length=k+1∧∀ (j:Nat) (p:PI),j < k+1→is[j]? = some p→succP st.t st.n j p=(ls ++ [l2])[j]?):=Lib.hid (by
        obtain ⟨q1,q2⟩:=hls.out
        refine ⟨by simp [q1],fun j q hj hq=>?_⟩
        by_cases e:j < k
        ·rw [List.getElem?_append_left (by omega)];exact q2 j q e hq
        ·obtain rfl:j=k:=by omega
         rw [List.getElem?_append_right (by omega),q1,Nat.sub_self]
         rw [hx.out] at hq
         injection hq with hq
         subst hq
         exact hs2.out)
       go_wp2
       go_roundg (is.length - (k+1))
       case measure=>omega
       case rel=>exact ⟨rfl,rfl,k+1,A7,c7,vs ++ [.slice A10 l2.length d10],ls ++ [l2],by omega,by go_num,rfl,hown7,hsv7,hls7,((hf.then hfr).alloc _).then_new hf7 (fun x hx e=>by have:=hbo x e;omega),rfl⟩
   ·have hke:k=is.length:=by omega
    subst hke
    have hbo:=own_base hown
    obtain ⟨wq,hwq⟩:∃ x,x=wr:=⟨_,rfl⟩
    subst hwq
    have hPq:=(hPr wq.heap.size).nope hf
    clear hPr
    have hnT:=hPq.noT
    obtain ⟨hl1,hl2⟩:=hls.out
    have hsv:=hsv.out
    replace hls:=Lib.hid hls
    go_wp2
    go_loopg [86] is.length (fun m c86 wx=>∃ i:Nat,i≤is.length∧c86 = .int .i64 (i:Int)∧Prd wx wq.heap.size w2.heap.size is.length (2*i)∧Fr (fun x=>x=w2.heap.size) wq wx∧m=is.length - i)
    case atStart=>exact ⟨0,Nat.zero_le _,rfl,hPq,Fr.refl _ _,rfl⟩
    case round=>
     obtain ⟨i,hi,rfl,hP,hfx,rfl⟩:=hrel
     have hownx:=own_fr hown hfx (fun b hb e=>by have:=hbo b hb;omega)
     by_cases hilt:i < is.length
     ·obtain ⟨l,hl⟩:∃ l,ls[i]? = some l:=⟨_,List.getElem?_eq_getElem (by omega)⟩
      obtain ⟨q,hq⟩:∃ x,is[i]? = some x:=⟨_,List.getElem?_eq_getElem hilt⟩
      have hsq:=hl2 i q hilt hq
      rw [hl] at hsq
      have hl2':=succP_len hsq
      have hlt':=succP_lt hsq (lpRun_facts hrun.out).2
      obtain ⟨u,hu⟩:∃ u,vs[i]? = some u:=⟨_,List.getElem?_eq_getElem (by rw [hsv.1];omega)⟩
      obtain ⟨Au,cu,rfl,hRu⟩:=hsv.2 i u l hu hl
      obtain ⟨g,hA2,hg,hcg⟩:=own_cells hownx (by omega)
      subst hA2
      have hcu:=hcg i _ hu
      have hcu2:wr.cell? ⟨g,0+i,none⟩=some (.slice Au l.length cu):=by rw [Nat.zero_add];exact hcu
      replace hl2:=Lib.hid hl2
      replace hlt':=Lib.hid hlt'
      replace hcg:=Lib.hid hcg
      replace hq:=Lib.hid hq
      replace hl:=Lib.hid hl
      replace hl1:=Lib.hid hl1
      replace hsq:=Lib.hid hsq
      have hszx:=hfx.size
      go_wp2
      go_loopg [93] l.length (fun m c93 wx=>∃ j:Nat,j≤l.length∧c93 = .int .i64 (j:Int)∧Prd wx wq.heap.size w2.heap.size is.length (2*i+j)∧Fr (fun x=>x=w2.heap.size) wq wx∧m=l.length - j)
      case atStart=>exact ⟨0,Nat.zero_le _,rfl,hP,hfx,rfl⟩
      case round=>
       obtain ⟨j,hj,rfl,hP2,hfy,rfl⟩:=hrel
       have hRy:=hRu.frT hfy hnT (by decide)
       have hszy:=hfy.size
       by_cases hjl:j < l.length
       ·obtain ⟨x,hx⟩:∃ x,l[j]? = some x:=⟨_,List.getElem?_eq_getElem hjl⟩
        obtain ⟨gx,ox,hAx,hgx,hcx⟩:=hRy.one (k:=j) (v:=oV x) (by rw [List.getElem?_map,hx];rfl)
        subst hAx
        have hneg:(-1:Int) < 0:=by omega
        cases x with
        | none=>
         have hcx':wr.cell? ⟨gx,ox+j,none⟩=some (.int .i64 (-1)):=hcx
         clear hcx
         go_wp2
         go_roundg (l.length - (j+1))
         case measure=>omega
         case rel=>exact ⟨j+1,by omega,by go_num,hP2.mono (by omega),hfy,rfl⟩
        | some s=>
         have hcx':wr.cell? ⟨gx,ox+j,none⟩=some (.int .i64 (s:Int)):=hcx
         have hsn:s < is.length:=by have:=hlt'.out s (List.mem_of_getElem? hx);have:=hnn.out;omega
         obtain ⟨Ap,lp,cp,xp,hcp,hlp,hop⟩:=hP2.at_ hsn
         have hzp:=hP2.frozen
         have hk1:(0:Int)≤(s:Int):=by omega
         have hk2:(s:Int) < (is.length:Int):=by omega
         have hba:w2.heap.size < wr.heap.size:=by omega
         clear hcx
         have hal:=(Fr.refl nope wr).alloc (.cells #[.int .i64 (i:Int)] 3)
         have hP3:=hP2.nope hal
         have hop3:=own_fr hop hal (fun _ _ x=>x)
         have hTp:NoT [67] (wr.alloc (.cells #[.int .i64 (i:Int)] 3)) (fun b=>(Value.slice Ap lp cp).ownBlock=some b):=NoT.own (T:=[67]) hop3 (by decide)
         go_wp2_with (refine wpList_app (v:=.slice Ap lp cp) rfl rfl Tryz.underlying67 infoInt rfl (by omega) rfl hop3 rfl (news:=[.int .i64 (i:Int)]) rfl (one_new _ _ _ _ rfl) (by simp [Value.oneCell']) (by simp only [maxLen];omega) (by omega) (by simp;omega) ?hk)
         case hk=>
          intro v7 w7 hown7 hf7 hb7
          obtain ⟨A7,c7,rfl,_,_⟩:=own_slice hown7
          have hst:=hP3.step (v':=.slice A7 (lp+1) c7) (l:=lp+1) hsn (hal.cell hcp (fun x=>x)) hown7 (by omega) hf7 (hb7.imp (fun x=>x) (fun x=>⟨_,x,by simp⟩)) hTp
          have hno7:¬(Value.slice Ap lp cp).ownBlock=some w2.heap.size:=hP3.notIn hTp
          have hc7:=hf7.cell (hal.cell hcp (fun x=>x)) hno7
          have hz7:=hP3.frozen7 hf7 hno7
          clear hb7
          go_wp2
          go_roundg (l.length - (j+1))
          case measure=>omega
          case rel=>
           have hba7:=own_base hop3
           exact ⟨j+1,by omega,by go_num,hst,((hfy.alloc _).then_new hf7 (fun x hx e=>by have:=hba7 x e;omega)).setCell (.inl rfl) _,rfl⟩
       ·go_wp2
        go_roundg (is.length - (i+1))
        case measure=>omega
        case rel=>exact ⟨i+1,by omega,by go_num,hP2.mono (by omega),hfy,rfl⟩
     ·go_wp2
      go_ret3
      refine ⟨?_,.inl ⟨A2,d2,some ⟨w2.heap.size,0,none⟩,is.length,fun k=>(ls[k]?).getD [],by rw [← his.out];rfl,?_,?_⟩⟩
      ·exact (hn3.then hf).then_new hfx (fun x hx e=>by omega)
      ·refine ⟨st,hrun.out,hpend.out,fun k p hk=>?_⟩
       rw [← his.out] at hk
       have hkl:=(List.getElem?_eq_some_iff.1 hk).1
       have hkk:ls[k]? = some ls[k]:=List.getElem?_eq_getElem (by omega)
       rw [hl2 k p hkl hk]
       simp only [hkk,Option.getD_some]
      ·rw [← his.out]
       refine ⟨vs,Rw.of_own hownx,fun k hk=>?_⟩
       obtain ⟨u,hu⟩:∃ u,vs[k]? = some u:=⟨_,List.getElem?_eq_getElem (by rw [hsv.1];omega)⟩
       obtain ⟨l,hl⟩:∃ l,ls[k]? = some l:=⟨_,List.getElem?_eq_getElem (by omega)⟩
       obtain ⟨A',c',rfl,hR⟩:=hsv.2 k u l hu hl
       refine ⟨A',c',?_,?_⟩
       ·simp only [hu,hl,Option.getD_some]
       ·simp only [hl,Option.getD_some];exact hR.frT hfx hnT (by decide)
end
section
open Go Go.RowKit Bth
set_option maxRecDepth 100000
def lfOf (is:List PI) (sc:Nat→List (Option Nat)):LF:=
 { n:=is.length,sc:=sc,W:=fun k=>match is[k]? with | some p=>wrT p | none=>[],R:=fun k=>match is[k]? with | some p=>rdT p | none=>[],U:=is.flatMap fun p=>(inGs p.canc p.inp p.out).map G.id }
theorem lfOf_rows {is:List PI} {sc:Nat→List (Option Nat)} : (List.range is.length).map (lfOf is sc).R=is.map rdT∧(List.range is.length).map (lfOf is sc).W=is.map wrT:=by
 constructor
 ·refine List.ext_getElem? fun k=>?_
  rw [List.getElem?_map,List.getElem?_map]
  by_cases h:k < is.length
  ·rw [List.getElem?_range h,List.getElem?_eq_getElem h]
   simp only [Option.map_some,lfOf,List.getElem?_eq_getElem h]
  ·rw [List.getElem?_eq_none (by simpa using h),List.getElem?_eq_none (by omega)];rfl
 ·refine List.ext_getElem? fun k=>?_
  rw [List.getElem?_map,List.getElem?_map]
  by_cases h:k < is.length
  ·rw [List.getElem?_range h,List.getElem?_eq_getElem h]
   simp only [Option.map_some,lfOf,List.getElem?_eq_getElem h]
  ·rw [List.getElem?_eq_none (by simpa using h),List.getElem?_eq_none (by omega)];rfl
def okA (is:List PI):Prop:=∀ p∈is,(∀ g∈inGs p.canc p.inp p.out,g.Ok)∧(∀ g∈outGs p.out,g.Ok)
theorem okA_of {w:World} {B:Nat} {is:List PI} (h:∀ p∈is,p.At w B∧okI p=true):okA is:=fun p hp=>by
 obtain ⟨h1,h2⟩:=h p hp
 obtain ⟨a,b⟩:=h1.okGs h2
 exact ⟨fun g hg=>(a g hg).2,fun g hg=>(b g hg).2⟩
theorem lfOf_flow {is:List PI} {sc:Nat→List (Option Nat)} (h:okA is):(lfOf is sc).flow=flowP is sc:=by
 have e1:(fun k=>tv ((lfOf is sc).R k))=useP is:=by
  funext k
  unfold useP lfOf
  cases hk:is[k]? with
  | none=>simp only [hk];rfl
  | some p=>simp only [hk];exact (tlOf_spec (h p (List.mem_of_getElem? hk)).1).2
 have e2:(fun k=>tv ((lfOf is sc).W k))=defP is:=by
  funext k
  unfold defP lfOf
  cases hk:is[k]? with
  | none=>simp only [hk];rfl
  | some p=>simp only [hk];exact (tlOf_spec (h p (List.mem_of_getElem? hk)).2).2
 unfold LF.flow
 rw [e1,e2]
 rfl
theorem tlOf_ids {gs:List G} {c:Nat} (h:ofGs gs c≠0):c∈gs.map G.id:=by
 unfold ofGs at h
 have key:∀ (gs:List G) (F:Nat→Nat),gs.foldl (fun F g=>orM F g.id g.spec) F c≠0→F c≠0∨c∈gs.map G.id:=by
  intro gs
  induction gs with
  | nil=>exact fun F h=>.inl h
  | cons g gs ih=>
   intro F h
   rw [List.foldl_cons] at h
   rcases ih _ h with h | h
   ·by_cases e:c=g.id
    ·exact .inr (by rw [e];simp)
    ·unfold orM at h
     rw [if_neg e] at h
     exact .inl h
   ·exact .inr (by rw [List.map_cons];exact List.mem_cons_of_mem _ h)
 rcases key gs _ h with h | h
 ·exact absurd rfl h
 ·exact h
theorem lfOf_ok {is:List PI} {sc:Nat→List (Option Nat)} (h:okA is) (hs:∀ k s,k < is.length→some s∈sc k→s < is.length):(lfOf is sc).Ok:=by
 refine ⟨fun k=>?_,fun k=>?_,hs,fun k c hk hc=>?_⟩
 ·unfold lfOf
  cases hk:is[k]? with
  | none=>simp only [hk];exact .nil
  | some p=>simp only [hk];exact (tlOf_spec (h p (List.mem_of_getElem? hk)).2).1
 ·unfold lfOf
  cases hk:is[k]? with
  | none=>simp only [hk];exact .nil
  | some p=>simp only [hk];exact (tlOf_spec (h p (List.mem_of_getElem? hk)).1).1
 ·unfold lfOf at hc
  have hk':is[k]? = some is[k]:=List.getElem?_eq_getElem hk
  simp only [hk'] at hc
  have hm:=List.mem_of_getElem? hk'
  have e:=(tlOf_spec (h _ hm).1).2
  unfold rdT at hc
  rw [e] at hc
  exact List.mem_flatMap.2 ⟨_,hm,tlOf_ids hc⟩
theorem SInv.live {is:List PI} {sc:Nat→List (Option Nat)} {I O:Nat→TL} (h:SInv (lfOf is sc) I O) (ha:okA is) {k c b:Nat} (hk:k < is.length) (hb:(tv (O k) c).testBit b=true):LiveOutP is sc k c b:=by
 have:=h.out k c b hk hb
 rw [lfOf_flow ha] at this
 exact this
def GivesLG (w:World) (is:List PI) (sc:Nat→List (Option Nat)) (e:Ending) (w':World):Prop:=Fr nope w w'∧∃ bi bo I O,e = .returned (.tuple #[.slice (some ⟨bi,0,none⟩) is.length is.length,.slice (some ⟨bo,0,none⟩) is.length is.length,.bool true])∧RowT w' bi is.length I∧RowT w' bo is.length O∧SInv (lfOf is sc) I O∧Closed (lfOf is sc) I O
def GivesLn (w:World) (ns:List PN) (e:Ending) (w':World):Prop:=Fr nope w w' ∧
 ((∃ bi bo I O sc,e = .returned (.tuple #[.slice (some ⟨bi,0,none⟩) (insP ns).length (insP ns).length,.slice (some ⟨bo,0,none⟩) (insP ns).length (insP ns).length,.bool true])∧GraphP ns sc∧RowT w' bi (insP ns).length I∧RowT w' bo (insP ns).length O∧SInv (lfOf (insP ns) sc) I O∧Closed (lfOf (insP ns) sc) I O) ∨
  (e = .returned (.tuple #[.slice none 0 0,.slice none 0 0,.bool false])∧∀ sc,¬GraphP ns sc))
theorem GraphP.lt {ns:List PN} {sc:Nat→List (Option Nat)} (h:GraphP ns sc):(∀ k s,k < (insP ns).length→some s∈sc k→s < (insP ns).length)∧∀ k,k < (insP ns).length→(sc k).length≤2:=by
 obtain ⟨s,h1,_,h3⟩:=h
 obtain ⟨e,h4⟩:=lpRun_facts h1
 refine ⟨fun k j hk hj=>?_,fun k hk=>succP_len (h3 k _ (List.getElem?_eq_getElem hk))⟩
 have:=succP_lt (h3 k _ (List.getElem?_eq_getElem hk)) h4 j hj
 omega
theorem LiveOutP.congr {is:List PI} {sc sc':Nat→List (Option Nat)} (h:∀ k,k < is.length→sc k=sc' k):LiveOutP is sc=LiveOutP is sc':=by
 have e:(flowP is sc).succ=(flowP is sc').succ:=by
  funext i s
  apply propext
  constructor
  ·rintro ⟨h1,h2,h3⟩
   refine ⟨h1,h2,?_⟩
   show some s∈sc' i
   rw [← h i h1];exact h3
  ·rintro ⟨h1,h2,h3⟩
   refine ⟨h1,h2,?_⟩
   show some s∈sc i
   rw [h i h1];exact h3
 unfold LiveOutP
 rw [e]
 rfl
end
section
open Go Go.RowKit Bth
set_option maxRecDepth 100000
def aid (l:List (Nat × Nat)) (id:Nat):Nat:=(ofPairs l id).getD id
theorem aid_take_eq {l:List (Nat × Nat)} {k id:Nat} {p:Nat × Nat} (h:l[k]? = some p) (e:id=p.1):aid (l.take (k+1)) id=p.2:=by
 unfold aid;rw [ofPairs_take h];simp [e]
theorem aid_take_ne {l:List (Nat × Nat)} {k id:Nat} {p:Nat × Nat} (h:l[k]? = some p) (e:¬id=p.1):aid (l.take (k+1)) id=aid (l.take k) id:=by
 unfold aid;rw [ofPairs_take h];simp [e]
theorem aid_zero {l:List (Nat × Nat)} {id:Nat} : aid (l.take 0) id=id:=by simp [aid,ofPairs]
end
end Go.Proofs.YtbgblfiapecioaaGreat
