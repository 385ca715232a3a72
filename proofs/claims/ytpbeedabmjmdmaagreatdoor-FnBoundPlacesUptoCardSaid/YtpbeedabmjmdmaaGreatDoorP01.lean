/- Part of the proof of a statement about pub-berthage: what its texts have in common. -/
import Derived.Test.YtpbeedabmjmdmaaGreatDoorProg
import Derived.Laws.BitsAllLaws
import Derived.Laws.BitsLemmas
import Derived.Lib.Hide
import Derived.Test.YtpbeedabmjmdmaaGreatDoorP00
namespace Bth
section
def isV (id:Nat):Bool:=id % 2 == 1
def lk (f:Nat→Option Nat) (id:Nat):Nat:=(f id).getD id
def setA (f:Nat→Option Nat) (v p:Nat):Nat→Option Nat:=fun x=>if x=v then some p else f x
def ap (al:Nat→Option Nat) (e:Nat × Nat) (v r:Nat):Bool:=(e.1 != v || lk al e.2 != r) && (e.2 != v || lk al e.1 != r)
def strike (al:Nat→Option Nat) (edges:List (Nat × Nat)) (v:Nat) (l:List Nat):List Nat:=l.filter fun r=>edges.all fun e=>ap al e v r
def clash (edges:List (Nat × Nat)) (al:Nat→Option Nat):Bool:=edges.any fun e=>lk al e.1 == lk al e.2 && !isV (lk al e.1)
def pick (score:Nat→Nat):List Nat→Nat
 | []=>0
 | v :: l=>l.foldl (fun m w=>if score w < score m || (score w == score m && w < m) then w else m) v
def color (regs:List Nat) (edges:List (Nat × Nat)):Nat→List Nat→(Nat→Option Nat)→Option (Nat→Option Nat)
 | 0,_,_=>none
 | n+1,rem,al=>
  if clash edges al then none else
  if rem.isEmpty then some al else
  let v:=pick (fun w=>(strike al edges w regs).length) rem
  match strike al edges v regs with
  | []=>none
  | p :: _=>color regs edges n (rem.erase v) (setA al v p)
theorem lk_set (v p:Nat) (al:Nat→Option Nat) (id:Nat):lk (setA al v p) id=if id=v then p else lk al id:=by
 unfold lk setA
 split<;>rfl
def Least (score:Nat→Nat) (l:List Nat) (v:Nat):Prop:=v∈l∧∀ w∈l,score v < score w∨(score v=score w∧v≤w)
theorem Least.eq {score:Nat→Nat} {l:List Nat} {a b:Nat} (h:Least score l a) (k:Least score l b):a=b:=by
 have h1:=h.2 b k.1
 have h2:=k.2 a h.1
 omega
theorem pick_least (score:Nat→Nat) (v:Nat) (l:List Nat):Least score (v :: l) (pick score (v :: l)):=by
 have h:∀ (l:List Nat) (m:Nat),Least score (m :: l) (l.foldl (fun m w=>if score w < score m || (score w == score m && w < m) then w else m) m):=by
  intro l
  induction l with
  | nil=>intro m;exact ⟨by simp,fun w hw=>.inr (by simp at hw;subst hw;exact ⟨rfl,Nat.le_refl _⟩)⟩
  | cons w l ih=>
   intro m
   simp only [List.foldl_cons]
   obtain ⟨h1,h2⟩:=ih (if score w < score m || (score w == score m && w < m) then w else m)
   generalize hx:(if score w < score m || (score w == score m && w < m) then w else m)=x at h1 h2 ⊢
   have hxm:(x=w∨x=m)∧(score x < score m∨score x=score m∧x≤m)∧(score x < score w∨score x=score w∧x≤w):=by
    subst hx
    split
    ·rename_i hc
     simp only [Bool.or_eq_true,Bool.and_eq_true,decide_eq_true_eq,beq_iff_eq] at hc
     exact ⟨.inl rfl,by omega,.inr ⟨rfl,Nat.le_refl _⟩⟩
    ·rename_i hc
     simp only [Bool.or_eq_true,Bool.and_eq_true,decide_eq_true_eq,beq_iff_eq] at hc
     exact ⟨.inr rfl,.inr ⟨rfl,Nat.le_refl _⟩,by omega⟩
   generalize hy:l.foldl _ x=y at h1 h2 ⊢
   have hxy:=h2 x (by simp)
   refine ⟨?_,fun z hz=>?_⟩
   ·rcases List.mem_cons.1 h1 with h | h
    ·rw [h];rcases hxm.1 with h | h<;>rw [h]<;>simp
    ·exact List.mem_cons_of_mem _ (List.mem_cons_of_mem _ h)
   ·rcases List.mem_cons.1 hz with rfl | hz
    ·omega
    ·rcases List.mem_cons.1 hz with rfl | hz
     ·omega
     ·exact h2 z (List.mem_cons_of_mem _ hz)
 exact h l v
theorem pick_mem (score:Nat→Nat) {l:List Nat} (h:l≠[]):pick score l∈l:=by
 cases l with
 | nil=>exact absurd rfl h
 | cons v l=>exact (pick_least score v l).1
theorem Least.pick {score:Nat→Nat} {l:List Nat} {v:Nat} (h:Least score l v):pick score l=v:=by
 cases l with
 | nil=>cases h.1
 | cons a l=>exact (pick_least score a l).eq h
theorem Least.congr {score score':Nat→Nat} {l l':List Nat} {v:Nat} (h:Least score l v) (hs:∀ w∈l,score w=score' w) (hl:∀ w,w∈l'↔w∈l):Least score' l' v:=
 ⟨(hl v).2 h.1,fun w hw=>by rw [← hs v h.1,← hs w ((hl w).1 hw)];exact h.2 w ((hl w).1 hw)⟩
theorem clash_iff {edges:List (Nat × Nat)} {al:Nat→Option Nat} : clash edges al=false↔∀ e∈edges,lk al e.1=lk al e.2→isV (lk al e.1)=true:=by
 unfold clash
 rw [List.any_eq_false]
 constructor
 ·intro h e he heq
  have:=h e he
  simp [heq] at this
  rw [heq];simpa using this
 ·intro h e he
  simp only [Bool.and_eq_true,beq_iff_eq,Bool.not_eq_true',not_and,Bool.not_eq_false]
  exact h e he
theorem ap_iff {al:Nat→Option Nat} {e:Nat × Nat} {v r:Nat} : ap al e v r=true↔(e.1=v→lk al e.2≠r)∧(e.2=v→lk al e.1≠r):=by
 unfold ap
 simp only [Bool.and_eq_true,Bool.or_eq_true,bne_iff_ne,ne_eq]
 constructor
 ·exact fun h=>⟨fun h1=>h.1.resolve_left (fun hh=>hh h1),fun h1=>h.2.resolve_left (fun hh=>hh h1)⟩
 ·intro h
  constructor
  ·by_cases h1:e.1=v
   ·exact .inr (h.1 h1)
   ·exact .inl h1
  ·by_cases h1:e.2=v
   ·exact .inr (h.2 h1)
   ·exact .inl h1
theorem mem_strike {regs:List Nat} {edges:List (Nat × Nat)} {al:Nat→Option Nat} {v r:Nat} : r∈strike al edges v regs↔r∈regs∧∀ e∈edges,(e.1=v→lk al e.2≠r)∧(e.2=v→lk al e.1≠r):=by
 unfold strike
 rw [List.mem_filter,List.all_eq_true]
 simp only [ap_iff]
theorem color_spec {regs:List Nat} {edges:List (Nat × Nat)} : ∀ (n:Nat) (rem:List Nat) (al al':Nat→Option Nat),rem.Nodup→color regs edges n rem al=some al' →
  clash edges al'=false∧(∀ id,id∉rem→al' id=al id)∧(∀ v∈rem,∃ p,al' v=some p∧p∈regs):=by
 intro n
 induction n with
 | zero=>intro rem al al' _ h;simp [color] at h
 | succ n ih=>
  intro rem al al' hd h
  unfold color at h
  split at h
  ·simp at h
  rename_i hc
  split at h
  ·rename_i he
   have hr:rem=[]:=by simpa using he
   subst hr
   simp only [Option.some.injEq] at h
   subst h
   exact ⟨by simpa using hc,fun _ _=>rfl,by simp⟩
  ·rename_i he
   have hne:rem≠[]:=by simpa using he
   simp only at h
   generalize hv:pick (fun w=>(strike al edges w regs).length) rem=v at h
   have hmem:v∈rem:=by rw [← hv];exact pick_mem _ hne
   split at h
   ·simp at h
   rename_i p q hf
   have hp:p∈regs:=by
    have:p∈strike al edges v regs:=by rw [hf];simp
    exact (mem_strike.1 this).1
   obtain ⟨h1,h2,h3⟩:=ih _ _ _ (hd.erase v) h
   refine ⟨h1,fun id hid=>?_,fun w hw=>?_⟩
   ·rw [h2 id (fun hm=>hid (List.mem_of_mem_erase hm))]
    have:id≠v:=fun e=>hid (e ▸ hmem)
    unfold setA
    rw [if_neg this]
   ·by_cases e:w=v
    ·subst e
     refine ⟨p,?_,hp⟩
     rw [h2 w (fun hm=>((List.Nodup.mem_erase_iff hd).1 hm).1 rfl)]
     unfold setA
     rw [if_pos rfl]
    ·exact h3 w ((List.Nodup.mem_erase_iff hd).2 ⟨e,hw⟩)
theorem length_filter_ne (l:List Nat) (hd:l.Nodup) (x:Nat):l.length≤(l.filter fun r=>x != r).length+1:=by
 induction l with
 | nil=>simp
 | cons a l ih=>
  have hd':=(List.nodup_cons.1 hd)
  have:=ih hd'.2
  by_cases h:x=a
  ·subst h
   have e:(l.filter fun r=>x != r)=l:=List.filter_eq_self.2 fun r hr=>by simp;rintro rfl;exact hd'.1 hr
   simp [e]
  ·simp [h];omega
theorem length_strike (xs:List Nat):∀ (l:List Nat),l.Nodup→l.length≤(l.filter fun r=>xs.all fun x=>x != r).length+xs.length:=by
 induction xs with
 | nil=>intro l _;rw [show (l.filter fun r=>([]:List Nat).all fun x=>x != r)=l from List.filter_eq_self.2 fun _ _=>rfl];simp
 | cons x xs ih=>
  intro l hd
  have h1:=length_filter_ne l hd x
  have h2:=ih (l.filter fun r=>x != r) (hd.filter _)
  have e:(l.filter fun r=>(x :: xs).all fun x=>x != r)=(l.filter fun r=>x != r).filter fun r=>xs.all fun x=>x != r:=by
   rw [List.filter_filter]
   congr 1;funext r;simp [Bool.and_comm]
  rw [e];simp only [List.length_cons];omega
theorem color_easy {regs:List Nat} {edges:List (Nat × Nat)} (hr:regs.Nodup) (ns:Nat→List Nat)
  (hns:∀ e∈edges,e.2∈ns e.1∧e.1∈ns e.2) (hself:∀ e∈edges,e.1≠e.2):
  ∀ (n:Nat) (rem:List Nat) (al:Nat→Option Nat),rem.Nodup→rem.length < n→(∀ v∈rem,(ns v).length < regs.length)→clash edges al=false →
   ∃ al',color regs edges n rem al=some al':=by
 intro n
 induction n with
 | zero=>intro rem al _ h;omega
 | succ n ih=>
  intro rem al hd hl hv hc
  unfold color
  rw [if_neg (by simp [hc])]
  by_cases he:rem=[]
  ·subst he;exact ⟨al,by simp⟩
  rw [if_neg (by simpa using he)]
  simp only
  generalize hpk:pick (fun w=>(strike al edges w regs).length) rem=v
  have hmem:v∈rem:=by rw [← hpk];exact pick_mem _ he
  have hlen:=hv v hmem
  have hfree:∃ p q,strike al edges v regs=p :: q:=by
   have h1:=length_strike ((ns v).map (lk al)) regs hr
   have hsub:∀ r∈regs.filter (fun r=>((ns v).map (lk al)).all fun x=>x != r),r∈strike al edges v regs:=by
    intro r hr'
    obtain ⟨hr1,hr2⟩:=List.mem_filter.1 hr'
    refine mem_strike.2 ⟨hr1,fun e hE=>⟨fun h1=>?_,fun h1=>?_⟩⟩
    ·have:=List.all_eq_true.1 hr2 (lk al e.2) (List.mem_map.2 ⟨e.2,h1 ▸ (hns e hE).1,rfl⟩)
     simpa using this
    ·have:=List.all_eq_true.1 hr2 (lk al e.1) (List.mem_map.2 ⟨e.1,h1 ▸ (hns e hE).2,rfl⟩)
     simpa using this
   cases hf:strike al edges v regs with
   | cons p q=>exact ⟨p,q,rfl⟩
   | nil=>
    rw [List.length_map] at h1
    have:(regs.filter (fun r=>((ns v).map (lk al)).all fun x=>x != r))=[]:=by
     cases hz:regs.filter (fun r=>((ns v).map (lk al)).all fun x=>x != r) with
     | nil=>rfl
     | cons a b=>have:=hsub a (by rw [hz];simp);rw [hf] at this;cases this
    rw [this] at h1;simp at h1;omega
  obtain ⟨p,q,hf⟩:=hfree
  rw [hf]
  simp only
  have hpf:p∈strike al edges v regs:=by rw [hf];simp
  obtain ⟨hpr,hpe⟩:=mem_strike.1 hpf
  refine ih _ _ (hd.erase v) ?_ ?_ ?_
  ·rw [List.length_erase_of_mem hmem];have:=List.length_pos_of_mem hmem;omega
  ·exact fun w hw=>hv w (List.mem_of_mem_erase hw)
  ·rw [clash_iff] at hc ⊢
   intro e hE
   simp only [lk_set]
   have hs:=hself e hE
   by_cases h1:e.1=v
   ·have h2:e.2≠v:=fun h=>hs (h1.trans h.symm)
    rw [if_pos h1,if_neg h2]
    intro heq
    exact absurd heq.symm ((hpe e hE).1 h1)
   ·by_cases h2:e.2=v
    ·rw [if_neg h1,if_pos h2]
     intro heq
     exact absurd heq ((hpe e hE).2 h2)
    ·rw [if_neg h1,if_neg h2]
     exact hc e hE
theorem strike_congr {edges edges':List (Nat × Nat)} (he:∀ e,e∈edges'↔e∈edges) (al:Nat→Option Nat) (v:Nat) (l:List Nat):strike al edges' v l=strike al edges v l:=by
 unfold strike
 congr 1
 funext r
 rw [Bool.eq_iff_iff,List.all_eq_true,List.all_eq_true]
 exact ⟨fun h e hm=>h e ((he e).2 hm),fun h e hm=>h e ((he e).1 hm)⟩
theorem clash_congr {edges edges':List (Nat × Nat)} (he:∀ e,e∈edges'↔e∈edges) (al:Nat→Option Nat):clash edges' al=clash edges al:=by
 unfold clash
 rw [Bool.eq_iff_iff,List.any_eq_true,List.any_eq_true]
 exact ⟨fun ⟨e,h1,h2⟩=>⟨e,(he e).1 h1,h2⟩,fun ⟨e,h1,h2⟩=>⟨e,(he e).2 h1,h2⟩⟩
theorem color_congr {regs:List Nat} {edges edges':List (Nat × Nat)} (he:∀ e,e∈edges'↔e∈edges):∀ (n n':Nat) (rem rem':List Nat) (al:Nat→Option Nat),rem.Nodup→rem'.Nodup→(∀ v,v∈rem'↔v∈rem)→rem.length < n→rem'.length < n' →
  color regs edges' n' rem' al=color regs edges n rem al:=by
 intro n
 induction n with
 | zero=>intro n' rem rem' al _ _ _ h;omega
 | succ n ih=>
  intro n' rem rem' al hd hd' hr hl hl'
  obtain ⟨m,rfl⟩:∃ m,n'=m+1:=⟨n' - 1,by omega⟩
  unfold color
  rw [clash_congr he]
  split
  ·rfl
  by_cases h0:rem=[]
  ·have h0':rem'=[]:=by
    cases rem' with
    | nil=>rfl
    | cons a b=>have:=(hr a).1 (by simp);rw [h0] at this;cases this
   subst h0 h0'
   simp
  ·have h0':rem'≠[]:=by
    rintro rfl
    cases rem with
    | nil=>exact h0 rfl
    | cons a b=>have:=(hr a).2 (by simp);cases this
   rw [if_neg (by simpa using h0'),if_neg (by simpa using h0)]
   obtain ⟨a,l,rfl⟩:∃ a l,rem=a :: l:=by
    cases rem with
    | nil=>exact absurd rfl h0
    | cons a b=>exact ⟨a,b,rfl⟩
   have hL:=pick_least (fun w=>(strike al edges w regs).length) a l
   have hL':=(hL.congr (score':=fun w=>(strike al edges' w regs).length) (fun w _=>by simp only [strike_congr he]) hr).pick
   generalize hv:pick (fun w=>(strike al edges w regs).length) (a :: l)=v at hL hL' ⊢
   simp only [strike_congr he] at hL' ⊢
   rw [hL']
   split
   ·rfl
   ·rename_i p q hf
    have hm:=hL.1
    have hm':=(hr v).2 hm
    refine ih m _ _ _ (hd.erase v) (hd'.erase v) (fun w=>?_) ?_ ?_
    ·rw [List.Nodup.mem_erase_iff hd',List.Nodup.mem_erase_iff hd,hr]
    ·rw [List.length_erase_of_mem hm];have:=List.length_pos_of_mem hm;omega
    ·rw [List.length_erase_of_mem hm'];have:=List.length_pos_of_mem hm';omega
end
section
abbrev Poss:=Nat→Option (List Nat)
def strikeL (al:Nat→Option Nat) (E:List (Nat × Nat)) (L:Poss):Poss:=fun v=>(L v).map (strike al E v)
structure Fit (al:Nat→Option Nat) (E:List (Nat × Nat)) (L:Poss):Prop where
 got:∀ v p,al v=some p→isV p=false
 to:∀ v l,L v=some l→isV v=true∧al v=none∧∀ r∈l,isV r=false
 ends:∀ e∈E,(isV e.1=true→al e.1=none→L e.1≠none)∧(isV e.2=true→al e.2=none→L e.2≠none)
theorem lk_none {al:Nat→Option Nat} {v:Nat} (h:al v=none):lk al v=v:=by unfold lk;rw [h];rfl
theorem Fit.virt {al:Nat→Option Nat} {E:List (Nat × Nat)} {L:Poss} (h:Fit al E L) {v:Nat} (hv:isV (lk al v)=true):isV v=true∧al v=none∧lk al v=v:=by
 cases ha:al v with
 | none=>rw [lk_none ha] at hv;exact ⟨hv,rfl,lk_none ha⟩
 | some p=>
  have:=h.got v p ha
  unfold lk at hv
  rw [ha] at hv
  simp only [Option.getD_some] at hv
  rw [this] at hv;cases hv
theorem Fit.at_ {al:Nat→Option Nat} {E:List (Nat × Nat)} {L:Poss} (h:Fit al E L) {v:Nat} {l:List Nat} (hl:L v=some l):isV (lk al v)=true∧lk al v=v:=by
 obtain ⟨h1,h2,_⟩:=h.to v l hl
 rw [lk_none h2];exact ⟨h1,rfl⟩
theorem strike_snoc (al:Nat→Option Nat) (E:List (Nat × Nat)) (e:Nat × Nat) (v:Nat) (l:List Nat):strike al (E ++ [e]) v l=(strike al E v l).filter fun r=>ap al e v r:=by
 unfold strike
 rw [List.filter_filter]
 congr 1
 funext r
 rw [List.all_append,Bool.and_comm]
 simp
theorem strikeL_stay {al:Nat→Option Nat} {E E0:List (Nat × Nat)} {L:Poss} (h:Fit al E L) {e:Nat × Nat} (he:isV (lk al e.1)=isV (lk al e.2)):strikeL al (E0 ++ [e]) L=strikeL al E0 L:=by
 funext v
 unfold strikeL
 cases hl:L v with
 | none=>rfl
 | some l=>
  simp only [Option.map_some,Option.some.injEq,strike_snoc]
  refine List.filter_eq_self.2 fun r hr=>ap_iff.2 ?_
  have hr':=(h.to v l hl).2.2 r (List.mem_filter.1 hr).1
  have hv:=h.at_ hl
  refine ⟨?_,?_⟩
  ·rintro h1 rfl
   rw [h1,hv.1,hr'] at he;cases he
  ·rintro h1 rfl
   rw [h1,hv.1,hr'] at he;cases he
def setL (L:Poss) (v:Nat) (l:List Nat):Poss:=fun x=>if x=v then some l else L x
theorem strikeL_one {al:Nat→Option Nat} {E0 E:List (Nat × Nat)} {L:Poss} (h:Fit al E L) {e:Nat × Nat} (hm:e∈E) {x y:Nat} (hxy:(x=lk al e.1∧y=lk al e.2)∨(x=lk al e.2∧y=lk al e.1)) (hx:isV x=false) (hy:isV y=true):
  ∃ l,strikeL al E0 L y=some l∧strikeL al (E0 ++ [e]) L=setL (strikeL al E0 L) y (l.filter fun r=>r != x):=by
 obtain ⟨hL,hn⟩:L y≠none∧∀ v,v≠y→∀ l r,L v=some l→ap al e v r=true:=by
  rcases hxy with ⟨h1,h2⟩ | ⟨h1,h2⟩
  ·rw [h2] at hy
   obtain ⟨g1,g2,g3⟩:=h.virt hy
   rw [h2,g3]
   refine ⟨(h.ends e hm).2 g1 g2,fun v hv l r hl=>ap_iff.2 ⟨fun h3=>?_,fun h3=>absurd h3.symm hv⟩⟩
   have:=h.at_ hl
   rw [← h3,← h1,hx] at this;cases this.1
  ·rw [h2] at hy
   obtain ⟨g1,g2,g3⟩:=h.virt hy
   rw [h2,g3]
   refine ⟨(h.ends e hm).1 g1 g2,fun v hv l r hl=>ap_iff.2 ⟨fun h3=>absurd h3.symm hv,fun h3=>?_⟩⟩
   have:=h.at_ hl
   rw [← h3,← h1,hx] at this;cases this.1
 cases hl:L y with
 | none=>exact absurd hl hL
 | some l=>
  refine ⟨strike al E0 y l,by simp [strikeL,hl],?_⟩
  funext v
  unfold strikeL setL
  split
  ·rename_i hv
   subst hv
   rw [hl]
   simp only [Option.map_some,Option.some.injEq,strike_snoc]
   refine List.filter_congr fun r hr=>?_
   have hr':=(h.to v l hl).2.2 r (List.mem_filter.1 hr).1
   rw [Bool.eq_iff_iff,ap_iff]
   simp only [bne_iff_ne,ne_eq]
   rcases hxy with ⟨h1,h2⟩ | ⟨h1,h2⟩
   ·have hv2:=(h.virt (v:=e.2) (by rw [← h2];exact hy)).2.2
    rw [← h1]
    constructor
    ·intro hh he;exact hh.2 (h2.trans hv2).symm he.symm
    ·intro hh
     refine ⟨fun h3=>?_,fun _ he=>hh he.symm⟩
     have:=(h.at_ hl).1
     rw [← h3,← h1,hx] at this;cases this
   ·have hv2:=(h.virt (v:=e.1) (by rw [← h2];exact hy)).2.2
    rw [← h1]
    constructor
    ·intro hh he;exact hh.1 (h2.trans hv2).symm he.symm
    ·intro hh
     refine ⟨fun _ he=>hh he.symm,fun h3=>?_⟩
     have:=(h.at_ hl).1
     rw [← h3,← h1,hx] at this;cases this
  ·rename_i hv
   cases hlv:L v with
   | none=>simp [hlv]
   | some l2=>
    simp only [hlv,Option.map_some,Option.some.injEq,strike_snoc]
    exact List.filter_eq_self.2 fun r _=>hn v hv l2 r hlv
def open2 (al:Nat→Option Nat) (e:Nat × Nat):Bool:=isV (lk al e.1) && isV (lk al e.2)
structure Head (regs:List Nat) (A0:List (Nat × Nat)) (al:Nat→Option Nat) (E:List (Nat × Nat)) (L:Poss):Prop where
 fit:Fit al E L
 st:∀ v l,L v=some l→strike al E v l=strike al A0 v regs
 cl:clash E al=clash A0 al
 sub:∀ e∈E,e∈A0
 op:∀ e∈A0,open2 al e=true→e∈E
theorem Head.start {regs:List Nat} {A0:List (Nat × Nat)} {L:Poss} (hr:∀ r∈regs,isV r=false) (hL:∀ v l,L v=some l→isV v=true∧l=regs) (he:∀ e∈A0,(isV e.1=true→L e.1≠none)∧(isV e.2=true→L e.2≠none)):
  Head regs A0 (fun _=>none) A0 L:=
 ⟨⟨fun v p h=>by (cases h),fun v l h=>⟨(hL v l h).1,rfl,by rw [(hL v l h).2];exact hr⟩,fun e h=>⟨fun h1 _=>(he e h).1 h1,fun h1 _=>(he e h).2 h1⟩⟩,fun v l h=>by rw [(hL v l h).2],rfl,fun e h=>h,fun e h _=>h⟩
def delL (L:Poss) (v:Nat):Poss:=fun x=>if x=v then none else L x
theorem Head.next {regs:List Nat} {A0 E:List (Nat × Nat)} {al:Nat→Option Nat} {L:Poss} (h:Head regs A0 al E L) (hr:∀ r∈regs,isV r=false) (hc:clash A0 al=false) {v p:Nat} {q l:List Nat} (hv:L v=some l) (hp:strike al A0 v regs=p :: q):
  Head regs A0 (setA al v p) (E.filter (open2 al)) (delL (strikeL al E L) v):=by
 obtain ⟨hvV,hvn,_⟩:=h.fit.to v l hv
 have hpm:p∈strike al A0 v regs:=by rw [hp];simp
 obtain ⟨hpr,hpe⟩:=mem_strike.1 hpm
 have hpp:=hr p hpr
 have hlv:=lk_none hvn
 have hto:∀ w l',delL (strikeL al E L) v w=some l'→w≠v∧l'=strike al A0 w regs∧isV w=true∧al w=none:=by
  intro w l' hw
  unfold delL at hw
  split at hw
  ·cases hw
  ·rename_i hne
   unfold strikeL at hw
   obtain ⟨l0,e1,e2⟩:=Option.map_eq_some_iff.1 hw
   rw [← e2,h.st w l0 e1]
   exact ⟨hne,rfl,(h.fit.to w l0 e1).1,(h.fit.to w l0 e1).2.1⟩
 refine ⟨⟨fun w x hw=>?_,fun w l' hw=>?_,fun e he=>?_⟩,fun w l' hw=>?_,?_,fun e he=>h.sub e (List.mem_filter.1 he).1,fun e he ho=>?_⟩
 ·unfold setA at hw
  split at hw
  ·injection hw with hw;rw [← hw];exact hpp
  ·exact h.fit.got w x hw
 ·obtain ⟨h1,h2,h3,h4⟩:=hto w l' hw
  refine ⟨h3,by unfold setA;rw [if_neg h1];exact h4,fun r hr'=>?_⟩
  rw [h2] at hr'
  exact hr r (mem_strike.1 hr').1
 ·obtain ⟨he1,he2⟩:=List.mem_filter.1 he
  have key:∀ w,(L w≠none)→setA al v p w=none→delL (strikeL al E L) v w≠none:=by
   intro w hL hs
   unfold setA at hs
   split at hs
   ·cases hs
   ·rename_i hne
    unfold delL strikeL
    rw [if_neg hne]
    cases hl:L w with
    | none=>exact absurd hl hL
    | some x=>simp
  have hn:∀ w,setA al v p w=none→al w=none:=by
   intro w hs
   unfold setA at hs
   split at hs
   ·cases hs
   ·exact hs
  exact ⟨fun h1 h2=>key _ ((h.fit.ends e he1).1 h1 (hn _ h2)) h2,fun h1 h2=>key _ ((h.fit.ends e he1).2 h1 (hn _ h2)) h2⟩
 ·obtain ⟨h1,h2,h3,h4⟩:=hto w l' hw
  have hlw:=lk_none h4
  rw [h2]
  unfold strike
  rw [List.filter_filter]
  refine List.filter_congr fun r hrm=>?_
  have hrr:=hr r hrm
  rw [Bool.eq_iff_iff,Bool.and_eq_true,List.all_eq_true,List.all_eq_true,List.all_eq_true]
  constructor
  ·rintro ⟨ha,hb⟩ e he
   by_cases ho:open2 al e=true
   ·exact ha e (List.mem_filter.2 ⟨h.op e he ho,ho⟩)
   ·have hb':=ap_iff.1 (hb e he)
    refine ap_iff.2 ⟨fun g=>?_,fun g=>?_⟩
    ·rw [lk_set]
     split
     ·rename_i g2
      exfalso
      apply ho
      unfold open2
      rw [g,hlw,h3,g2,hlv,hvV];rfl
     ·exact hb'.1 g
    ·rw [lk_set]
     split
     ·rename_i g2
      exfalso
      apply ho
      unfold open2
      rw [g,hlw,h3,g2,hlv,hvV];rfl
     ·exact hb'.2 g
  ·intro hb
   refine ⟨fun e he=>hb e (h.sub e (List.mem_filter.1 he).1),fun e he=>?_⟩
   have hb':=ap_iff.1 (hb e he)
   refine ap_iff.2 ⟨fun g=>?_,fun g=>?_⟩
   ·have:=hb'.1 g
    rw [lk_set] at this
    split at this
    ·rename_i g2;rw [g2,hlv];rintro rfl;rw [hvV] at hrr;cases hrr
    ·exact this
   ·have:=hb'.2 g
    rw [lk_set] at this
    split at this
    ·rename_i g2;rw [g2,hlv];rintro rfl;rw [hvV] at hrr;cases hrr
    ·exact this
 ·rw [Bool.eq_iff_iff]
  unfold clash
  rw [List.any_eq_true,List.any_eq_true]
  constructor
  ·rintro ⟨e,he,g⟩
   exact ⟨e,h.sub e (List.mem_filter.1 he).1,g⟩
  ·rintro ⟨e,he,g⟩
   refine ⟨e,?_,g⟩
   simp only [Bool.and_eq_true,beq_iff_eq,Bool.not_eq_true',lk_set] at g
   obtain ⟨g1,g2⟩:=g
   by_cases a1:e.1=v
   ·by_cases a2:e.2=v
    ·have ho:open2 al e=true:=by unfold open2;rw [a1,a2,hlv,hvV];rfl
     exact List.mem_filter.2 ⟨h.op e he ho,ho⟩
    ·rw [if_pos a1,if_neg a2] at g1
     exact absurd g1.symm ((hpe e he).1 a1)
   ·by_cases a2:e.2=v
    ·rw [if_neg a1,if_pos a2] at g1
     exact absurd g1 ((hpe e he).2 a2)
    ·rw [if_neg a1,if_neg a2] at g1
     rw [if_neg a1] at g2
     have:=clash_iff.1 hc e he g1
     rw [g2] at this;cases this
 ·have key:∀ w,isV (lk (setA al v p) w)=true→isV (lk al w)=true:=by
   intro w hw
   rw [lk_set] at hw
   split at hw
   ·rw [hpp] at hw;cases hw
   ·exact hw
  unfold open2 at ho
  rw [Bool.and_eq_true] at ho
  have ho2:open2 al e=true:=by unfold open2;rw [key _ ho.1,key _ ho.2];rfl
  exact List.mem_filter.2 ⟨h.op e he ho2,ho2⟩
end
end Bth
namespace Go.Proofs.YtpbeedabmjmdmaaGreatDoor
section
open Go Go.RowKit Go.MapKept Bth
open Go.ChangeMaps (setBlock)
theorem ofInt_u16 (a:Nat) (ha:a < 65536):(BitVec.ofInt 16 (a:Int)).toNat=a:=by
 rw [BitVec.ofInt_natCast,BitVec.toNat_ofNat];exact Nat.mod_eq_of_lt (by omega)
theorem wrap_u16 (a:Nat) (ha:a < 65536):IntKind.u16.wrap (a:Int)=(a:Int):=by
 simp [IntKind.wrap,IntKind.bits,IntKind.signed];omega
theorem u16_and (a b:Nat) (ha:a < 65536) (hb:b < 65536):bits .and .u16 (a:Int) (b:Int)=((a &&& b:Nat):Int):=by
 have hx:a &&& b < 2 ^ 16:=Nat.and_lt_two_pow _ (by omega)
 show IntKind.u16.wrap ((BitVec.ofInt 16 (a:Int) &&& BitVec.ofInt 16 (b:Int)).toNat:Int)=_
 rw [BitVec.toNat_and,ofInt_u16 a ha,ofInt_u16 b hb,wrap_u16 _ (by omega)]
theorem u16_or (a b:Nat) (ha:a < 65536) (hb:b < 65536):bits .or .u16 (a:Int) (b:Int)=((a ||| b:Nat):Int):=by
 have hx:a ||| b < 2 ^ 16:=Nat.or_lt_two_pow (by omega) (by omega)
 show IntKind.u16.wrap ((BitVec.ofInt 16 (a:Int) ||| BitVec.ofInt 16 (b:Int)).toNat:Int)=_
 rw [BitVec.toNat_or,ofInt_u16 a ha,ofInt_u16 b hb,wrap_u16 _ (by omega)]
def idV (k:Nat):Value:=.int .u32 (k:Int)
def maskV (m:Nat):Option Value:=if m=0 then none else some (.int .u16 (m:Int))
def MaskAt (w:World) (b:Nat) (F:Nat→Nat):Prop:=(∃ ks,MapAt w b idV ks fun k=>maskV (F k))∧∀ k,F k < 65536
theorem idKey:KeyOk Tryz.prog 123 (.int .u32) idV:=⟨Tryz.underlying123,fun _=>rfl,fun a b h=>by simp [idV] at h;omega⟩
theorem zero39 (w:World):(zeroValue 30).run Tryz.prog w = .ok (.int .u16 0) w:=by kernel_rfl
theorem maskSetT:Tryz.prog.underlying 128=some (.map 123 30):=Tryz.underlying128
theorem MaskAt.look {w:World} {b:Nat} {F:Nat→Nat} (h:MaskAt w b F) (k:Nat):
  (Instr.lookup 128 (.map (some b)) (.int .u32 (k:Int)) false).run Tryz.prog w = .ok (.int .u16 (F k:Int)) w:=by
 obtain ⟨⟨ks,hm⟩,_⟩:=h
 have:=hm.lookup idKey maskSetT (zero39 w) k false
 rw [show (Value.int .u32 (k:Int))=idV k from rfl,this]
 unfold maskV
 by_cases h0:F k=0<;>simp [h0]
def orM (F:Nat→Nat) (id mask:Nat):Nat→Nat:=fun x=>if x=id then F x ||| mask else F x
theorem MaskAt.put {w:World} {b:Nat} {F:Nat→Nat} (h:MaskAt w b F) (k m:Nat) (hm:m < 65536) (h0:m≠0):
  ∃ w',(Instr.mapUpdate 128 (.map (some b)) (.int .u32 (k:Int)) (.int .u16 (m:Int))).run Tryz.prog w = .ok () w'∧MaskAt w' b (fun x=>if x=k then m else F x)∧Fr (fun x=>x=b) w w'∧w'.heap.size=w.heap.size:=by
 obtain ⟨⟨ks,hM⟩,hF⟩:=h
 obtain ⟨es,clock,h1,h2⟩:=hM.update idKey maskSetT k (.int .u16 (m:Int))
 refine ⟨setBlock w b (.map es clock),h1,⟨⟨if k∈ks then ks else ks ++ [k],?_⟩,fun x=>?_⟩,(Fr.refl (fun x=>x=b) w).setBlock (.inl rfl) _,by simp [setBlock]⟩
 ·have e:(fun x=>maskV (if x=k then m else F x))=updM (fun x=>maskV (F x)) k (some (.int .u16 (m:Int))):=by
   funext x
   unfold updM
   by_cases hx:x=k
   ·simp [hx,maskV,h0]
   ·simp [hx]
  rw [e];exact h2
 ·show (if x=k then m else F x) < 65536
  split
  ·exact hm
  ·exact hF x
theorem Add_no (w:World) (b:Nat) (F:Nat→Nat) (id mask:Nat) (hb:MaskAt w b F) (hm:mask < 65536) (h:F id &&& mask=mask):
  Calls Tryz.prog 104 #[.map (some b),.int .u32 (id:Int),.int .u16 (mask:Int)] w fun e w'=>e = .returned (.bool false)∧w=w':=by
 have hl:=hb.look id
 have ha:=u16_and (F id) mask (hb.2 id) hm
 rw [h] at ha
 clear h
 go_enter Tryz.func104,Tryz.ntmps104
 go_wp2
 go_ret
 exact ⟨rfl,rfl⟩
theorem Add_yes (w:World) (b:Nat) (F:Nat→Nat) (id mask:Nat) (hb:MaskAt w b F) (hm:mask < 65536) (h:F id &&& mask≠mask):
  Calls Tryz.prog 104 #[.map (some b),.int .u32 (id:Int),.int .u16 (mask:Int)] w fun e w'=>e = .returned (.bool true)∧MaskAt w' b (orM F id mask)∧Fr (fun x=>x=b) w w'∧w'.heap.size=w.heap.size:=by
 have hl:=hb.look id
 have ha:=u16_and (F id) mask (hb.2 id) hm
 have ho:=u16_or (F id) mask (hb.2 id) hm
 have h0:F id ||| mask≠0:=by
  intro e
  have:=(Nat.or_eq_zero_iff.1 e).2
  exact h (by rw [this];simp)
 have ht:(((F id &&& mask:Nat):Int) == (mask:Int))=false:=by rw [beq_eq_false_iff_ne];intro e;exact h (by omega)
 obtain ⟨w1,hu,hM,hf,hs⟩:=hb.put id (F id ||| mask) (Nat.or_lt_two_pow (n:=16) (hb.2 id) hm) h0
 have hM':=Lib.hid hM
 have hs':=Lib.hid hs
 clear h hM hs h0
 go_enter Tryz.func104,Tryz.ntmps104
 go_wp2
 go_ret
 refine ⟨rfl,?_,hf,hs'.out⟩
 have e:orM F id mask=fun x=>if x=id then F id ||| mask else F x:=by funext x;unfold orM;split<;>simp_all
 rw [e];exact hM'.out
end
end Go.Proofs.YtpbeedabmjmdmaaGreatDoor
