/- Part of the proof of a statement about pub-berthage: what its texts have in common. -/
import Derived.Deep.RegionHeld3
import Derived.Test.YtpbeedabmjmdmaaGreatDoorP00
import Derived.Test.YtpbeedabmjmdmaaGreatDoorP03
import Derived.Test.YtpbeedabmjmdmaaGreatDoorP06
import Derived.Test.YtpbeedabmjmdmaaGreatDoorP12
namespace Go.Proofs.YtpbeedabmjmdmaaGreatDoor
section
open Go Go.RowKit Bth
abbrev Sets:=Bool→Nat→Nat→Nat
def Sub (a b:Nat→Nat):Prop:=∀ id i,(a id).testBit i=true→(b id).testBit i=true
theorem Sub.refl (a:Nat→Nat):Sub a a:=fun _ _ h=>h
theorem Sub.or_left (a b:Nat→Nat):Sub a (fun id=>a id ||| b id):=fun id i h=>by simp [Nat.testBit_or,h]
theorem Sub.or_right (a b:Nat→Nat):Sub b (fun id=>a id ||| b id):=fun id i h=>by simp [Nat.testBit_or,h]
theorem Sub.of_and {a b:Nat→Nat} (h:∀ id,a id &&& b id=b id):Sub b a:=fun id i hb=>by
 have:=congrArg (fun x=>x.testBit i) (h id)
 simp only [Nat.testBit_and,hb,Bool.and_true] at this
 exact this
theorem or_of_and2 {a b:Nat} (h:a &&& b=b):a ||| b=a:=by
 apply Nat.eq_of_testBit_eq
 intro i
 have:=congrArg (fun x=>x.testBit i) h
 simp only [Nat.testBit_and] at this
 rw [Nat.testBit_or]
 cases ha:a.testBit i<;>cases hb:b.testBit i<;>simp_all
theorem bit_of_ne {a b:Nat} (h:a &&& b≠b):∃ i,b.testBit i=true∧a.testBit i=false:=by
 apply Classical.byContradiction
 intro hn
 apply h
 apply Nat.eq_of_testBit_eq
 intro i
 rw [Nat.testBit_and]
 cases hb:b.testBit i
 ·simp
 ·cases ha:a.testBit i
  ·exact absurd ⟨i,hb,ha⟩ hn
  ·rfl
def updS (V:Sets) (p:Bool) (k:Nat) (F:Nat→Nat):Sets:=fun q j=>if q=p∧j=k then F else V q j
theorem updS_self (V:Sets) (p:Bool) (k:Nat) (F:Nat→Nat):updS V p k F p k=F:=by simp [updS]
theorem updS_ne (V:Sets) (p:Bool) (k:Nat) (F:Nat→Nat) {q:Bool} {j:Nat} (h:(q,j)≠(p,k)):updS V p k F q j=V q j:=by
 unfold updS;rw [if_neg (fun e=>h (by rw [e.1,e.2]))]
theorem updS_same {V:Sets} {p:Bool} {k:Nat} {F:Nat→Nat} (h:F=V p k):updS V p k F=V:=by
 funext q j
 unfold updS
 split
 ·rename_i e;rw [h,e.1,e.2]
 ·rfl
theorem countP_lt {α : Type} {p q:α → Bool} : ∀ {l:List α} {x:α},x∈l→q x=true→p x=false→(∀ y∈l,p y=true→q y=true)→l.countP p < l.countP q:=by
 intro l
 induction l with
 | nil=>intro x hx;cases hx
 | cons a l ih=>
  intro x hx hq hp h
  have hmono:l.countP p≤l.countP q:=List.countP_mono_left fun y hy=>h y (by simp [hy])
  rw [List.countP_cons,List.countP_cons]
  rcases List.mem_cons.1 hx with rfl | hx
  ·rw [hq,hp];simp;omega
  ·have:=ih hx hq hp (fun y hy=>h y (by simp [hy]))
   have ha:=h a (by simp)
   cases hpa:p a
   ·simp;omega
   ·rw [ha hpa];simp;omega
def spots (n:Nat) (U:List Nat):List (Bool × Nat × Nat × Nat):=[false,true].flatMap fun p=>(List.range n).flatMap fun k=>U.flatMap fun id=>(List.range 16).map fun i=>(p,k,id,i)
theorem mem_spots {n:Nat} {U:List Nat} {p:Bool} {k id i:Nat} (hk:k < n) (hu:id∈U) (hi:i < 16):(p,k,id,i)∈spots n U:=by
 unfold spots
 refine List.mem_flatMap.2 ⟨p,by cases p<;>simp,List.mem_flatMap.2 ⟨k,by simpa using hk,List.mem_flatMap.2 ⟨id,hu,List.mem_map.2 ⟨i,by simpa using hi,rfl⟩⟩⟩⟩
def missing (n:Nat) (U:List Nat) (V:Sets):Nat:=(spots n U).countP fun q=>!(V q.1 q.2.1 q.2.2.1).testBit q.2.2.2
theorem missing_le {n:Nat} {U:List Nat} {V V':Sets} (h:∀ p k,Sub (V p k) (V' p k)):missing n U V'≤missing n U V:=by
 refine List.countP_mono_left fun q _ hq=>?_
 cases hb:(V q.1 q.2.1 q.2.2.1).testBit q.2.2.2
 ·rfl
 ·have:=h _ _ _ _ hb;simp [this] at hq
theorem missing_lt {n:Nat} {U:List Nat} {V V':Sets} (h:∀ p k,Sub (V p k) (V' p k)) {p:Bool} {k id i:Nat} (hk:k < n) (hu:id∈U) (hi:i < 16) (h1:(V p k id).testBit i=false) (h2:(V' p k id).testBit i=true):missing n U V' < missing n U V:=by
 refine countP_lt (mem_spots (p:=p) hk hu hi) (by simp [h1]) (by simp [h2]) fun q _ hq=>?_
 cases hb:(V q.1 q.2.1 q.2.2.1).testBit q.2.2.2
 ·rfl
 ·have:=h _ _ _ _ hb;simp [this] at hq
structure Flow where
 n:Nat
 use:Nat→Nat→Nat
 df:Nat→Nat→Nat
 next:Nat→Nat→Prop
 U:List Nat
def Flow.reads (f:Flow) (i c b:Nat):Prop:=i < f.n∧(f.use i c).testBit b=true
def Flow.writes (f:Flow) (i c b:Nat):Prop:=(f.df i c).testBit b=true
def Flow.succ (f:Flow) (i s:Nat):Prop:=i < f.n∧s < f.n∧f.next i s
structure Sound (f:Flow) (V:Sets):Prop where
 base:∀ k,k < f.n→Sub (f.use k) (V false k)
 inn:∀ k c b,k < f.n→(V false k c).testBit b=true→LiveIn f.reads f.writes f.succ k c b
 out:∀ k c b,k < f.n→(V true k c).testBit b=true→LiveOut f.reads f.writes f.succ k c b
 sup:∀ p k c,k < f.n→V p k c≠0→c∈f.U
 lt:∀ p k c,V p k c < 65536
def closedOut (f:Flow) (V:Sets) (k:Nat):Prop:=∀ s,f.succ k s→Sub (V false s) (V true k)
def closedIn (f:Flow) (V:Sets) (k:Nat):Prop:=Sub (fun c=>andn (V true k c) (f.df k c)) (V false k)
theorem bit_lt {x i:Nat} (hx:x < 65536) (h:x.testBit i=true):i < 16:=by
 apply Classical.byContradiction
 intro hn
 have:x.testBit i=false:=Nat.testBit_lt_two_pow (Nat.lt_of_lt_of_le (show x < 2 ^ 16 from hx) (Nat.pow_le_pow_right (by omega) (by omega)))
 rw [this] at h
 cases h
theorem or_lt16 {a b:Nat} (ha:a < 65536) (hb:b < 65536):a ||| b < 65536:=Nat.or_lt_two_pow (n:=16) ha hb
theorem Sound.stepOut {f:Flow} {V:Sets} (h:Sound f V) {k s:Nat} (hs:f.succ k s):Sound f (updS V true k fun c=>V true k c ||| V false s c):=by
 refine ⟨fun j hj=>?_,fun j c b hj hb=>?_,fun j c b hj hb=>?_,fun p j c hj hb=>?_,fun p j c=>?_⟩
 ·rw [updS_ne _ _ _ _ (by simp)];exact h.base j hj
 ·rw [updS_ne _ _ _ _ (by simp)] at hb;exact h.inn j c b hj hb
 ·by_cases hjk:j=k
  ·subst hjk
   rw [updS_self,Nat.testBit_or] at hb
   rcases Bool.or_eq_true_iff.1 hb with hb | hb
   ·exact h.out j c b hj hb
   ·exact ⟨s,hs,h.inn s c b hs.2.1 hb⟩
  ·rw [updS_ne _ _ _ _ (by simp [hjk])] at hb;exact h.out j c b hj hb
 ·by_cases hjk:(p,j)=(true,k)
  ·injection hjk with e1 e2
   subst e1 e2
   rw [updS_self] at hb
   by_cases h1:V true j c=0
   ·exact h.sup false s c hs.2.1 (by rw [h1] at hb;simpa using hb)
   ·exact h.sup true j c hj h1
  ·rw [updS_ne _ _ _ _ hjk] at hb;exact h.sup p j c hj hb
 ·by_cases hjk:(p,j)=(true,k)
  ·injection hjk with e1 e2
   subst e1 e2
   rw [updS_self];exact or_lt16 (h.lt _ _ _) (h.lt _ _ _)
  ·rw [updS_ne _ _ _ _ hjk];exact h.lt p j c
theorem Sound.stepIn {f:Flow} {V:Sets} (h:Sound f V) {k:Nat} (hk:k < f.n):Sound f (updS V false k fun c=>V false k c ||| andn (V true k c) (f.df k c)):=by
 have hle:∀ c,andn (V true k c) (f.df k c) < 65536:=fun c=>andn_lt (h.lt _ _ _)
 refine ⟨fun j hj=>?_,fun j c b hj hb=>?_,fun j c b hj hb=>?_,fun p j c hj hb=>?_,fun p j c=>?_⟩
 ·by_cases hjk:j=k
  ·subst hjk
   rw [updS_self];exact fun c i hc=>Sub.or_left (V false j) (fun c=>andn (V true j c) (f.df j c)) c i (h.base j hj c i hc)
  ·rw [updS_ne _ _ _ _ (by simp [hjk])];exact h.base j hj
 ·by_cases hjk:j=k
  ·subst hjk
   rw [updS_self,Nat.testBit_or] at hb
   rcases Bool.or_eq_true_iff.1 hb with hb | hb
   ·exact h.inn j c b hj hb
   ·rw [andn_testBit] at hb
    simp only [Bool.and_eq_true,Bool.not_eq_true'] at hb
    refine LiveIn.cases_iff.2 (.inr ⟨h.out j c b hj hb.1,fun hw=>?_⟩)
    unfold Flow.writes at hw
    rw [hb.2] at hw;cases hw
  ·rw [updS_ne _ _ _ _ (by simp [hjk])] at hb;exact h.inn j c b hj hb
 ·rw [updS_ne _ _ _ _ (by simp)] at hb;exact h.out j c b hj hb
 ·by_cases hjk:(p,j)=(false,k)
  ·injection hjk with e1 e2
   subst e1 e2
   rw [updS_self] at hb
   by_cases h1:V false j c=0
   ·refine h.sup true j c hj fun h2=>?_
    rw [h1,h2] at hb
    simp [andn] at hb
   ·exact h.sup false j c hj h1
  ·rw [updS_ne _ _ _ _ hjk] at hb;exact h.sup p j c hj hb
 ·by_cases hjk:(p,j)=(false,k)
  ·injection hjk with e1 e2
   subst e1 e2
   rw [updS_self];exact or_lt16 (h.lt _ _ _) (hle c)
  ·rw [updS_ne _ _ _ _ hjk];exact h.lt p j c
theorem Sound.exact {f:Flow} {V:Sets} (h:Sound f V) (ho:∀ k,k < f.n→closedOut f V k) (hi:∀ k,k < f.n→closedIn f V k) {k c b:Nat} (hk:k < f.n):
  ((V false k c).testBit b=true↔LiveIn f.reads f.writes f.succ k c b)∧((V true k c).testBit b=true↔LiveOut f.reads f.writes f.succ k c b):=by
 have hin:∀ {k c b},LiveIn f.reads f.writes f.succ k c b→k < f.n→(V false k c).testBit b=true:=by
  intro k c b hl hk
  have key:=LiveIn.least (reads:=f.reads) (writes:=f.writes) (succ:=f.succ) (inn:=fun i c b=>i < f.n→(V false i c).testBit b=true) (fun i c b hr hk=>h.base i hk c b hr.2) (fun i s c b hs hv hw hk=>by
   have h1:=ho i hk s hs c b (hv hs.2.1)
   refine hi i hk c b ?_
   rw [andn_testBit,h1]
   cases hd:(f.df i c).testBit b
   ·rfl
   ·exact absurd hd hw) hl
  exact key hk
 refine ⟨⟨h.inn k c b hk,fun hl=>hin hl hk⟩,⟨h.out k c b hk,?_⟩⟩
 rintro ⟨s,hs,hl⟩
 exact ho k hk s hs c b (hin hl hs.2.1)
structure Rel (f:Flow) (V V2:Sets) (ch:Bool):Prop where
 sub:∀ p k,Sub (V p k) (V2 p k)
 same:ch=false→V2=V
 less:ch=true→missing f.n f.U V2 < missing f.n f.U V
theorem Rel.refl (f:Flow) (V:Sets):Rel f V V false:=⟨fun _ _=>Sub.refl _,fun _=>rfl,fun h=>by cases h⟩
theorem Rel.trans {f:Flow} {V V2 V3:Sets} {a b:Bool} (h:Rel f V V2 a) (k:Rel f V2 V3 b):Rel f V V3 (b || a):=by
 refine ⟨fun p j id i hb=>k.sub p j id i (h.sub p j id i hb),fun e=>?_,fun e=>?_⟩
 ·simp only [Bool.or_eq_false_iff] at e
  rw [k.same e.1,h.same e.2]
 ·have h1:=missing_le (n:=f.n) (U:=f.U) h.sub
  have h2:=missing_le (n:=f.n) (U:=f.U) k.sub
  rcases Bool.or_eq_true_iff.1 e with e | e
  ·have:=k.less e;omega
  ·have:=h.less e;omega
theorem updS_sub (V:Sets) (p:Bool) (k:Nat) (G:Nat→Nat):∀ q j,Sub (V q j) (updS V p k (fun c=>V p k c ||| G c) q j):=by
 intro q j
 by_cases e:(q,j)=(p,k)
 ·injection e with e1 e2
  subst e1 e2
  rw [updS_self];exact Sub.or_left _ _
 ·rw [updS_ne _ _ _ _ e];exact Sub.refl _
theorem stepRel {f:Flow} {V:Sets} {p:Bool} {k:Nat} {G:Nat→Nat} {ch:Bool} (hk:k < f.n) (hG:∀ c,G c < 65536) (hU:∀ c,G c≠0→c∈f.U) (hch:ch=true↔∃ c,V p k c &&& G c≠G c):
  Rel f V (updS V p k fun c=>V p k c ||| G c) ch∧(ch=false→Sub G (V p k)):=by
 refine ⟨⟨updS_sub V p k G,fun e=>?_,fun e=>?_⟩,fun e=>?_⟩
 ·refine updS_same (funext fun c=>or_of_and2 ?_)
  apply Classical.byContradiction
  intro hn
  have:=hch.2 ⟨c,hn⟩
  rw [e] at this;cases this
 ·obtain ⟨c,hc⟩:=hch.1 e
  obtain ⟨i,h1,h2⟩:=bit_of_ne hc
  have hG0:G c≠0:=fun h0=>by rw [h0] at h1;simp at h1
  refine missing_lt (updS_sub V p k G) (p:=p) hk (hU c hG0) (bit_lt (hG c) h1) h2 ?_
  rw [updS_self,Nat.testBit_or,h1,Bool.or_true]
 ·refine Sub.of_and fun c=>?_
  apply Classical.byContradiction
  intro hn
  have:=hch.2 ⟨c,hn⟩
  rw [e] at this;cases this
end
section
open Go Go.RowKit Bth
set_option maxRecDepth 100000
theorem own_set {w:World} {base n:Nat} {e:TypeId} {g c:Nat} {xs:List Value} (h:w.ownsRow base e 1 (.slice (some ⟨g,0,none⟩) n c) n xs) (j:Nat) (v:Value):(w.setCell ⟨g,j,none⟩ v).ownsRow base e 1 (.slice (some ⟨g,0,none⟩) n c) n (xs.set j v):=by
 refine ⟨by rw [List.length_set];exact h.1,.inr ?_⟩
 rcases h.2 with ⟨h1,_⟩ | ⟨g',cap,cur,h1,h2,h3,h4,h5,h6,h7⟩
 ·cases h1
 ·injection h1 with e1 _ e2
  injection e1 with e1
  injection e1 with e1
  subst e1 e2
  refine ⟨g,c,cur.setIfInBounds j v,rfl,h2,setCell_heap h3 v,h4,h5,by simpa using h6,?_⟩
  rw [Array.toList_setIfInBounds,List.take_set,h7]
def revK (bs:List Nat) (l:Nat):List Nat:=(List.range bs.length).map fun i=>if i < l∨bs.length≤i+l then bs.getD (bs.length - 1 - i) 0 else bs.getD i 0
theorem revK_len (bs:List Nat) (l:Nat):(revK bs l).length=bs.length:=by simp [revK]
theorem revK_get (bs:List Nat) (l:Nat) {i:Nat} (hi:i < bs.length):(revK bs l)[i]? = some (if i < l∨bs.length≤i+l then bs.getD (bs.length - 1 - i) 0 else bs.getD i 0):=by
 unfold revK
 rw [List.getElem?_map,List.getElem?_range hi];rfl
theorem revK_zero (bs:List Nat):revK bs 0=bs:=by
 apply List.ext_getElem?
 intro i
 by_cases hi:i < bs.length
 ·rw [revK_get bs 0 hi]
  simp [show ¬bs.length≤i by omega,hi]
 ·rw [List.getElem?_eq_none_iff.2 (by rw [revK_len];omega),List.getElem?_eq_none_iff.2 (by omega)]
theorem revK_step (bs:List Nat) (l:Nat) (hl:2*l+1 < bs.length):((revK bs l).set l (bs.getD (bs.length - 1 - l) 0)).set (bs.length - 1 - l) (bs.getD l 0)=revK bs (l+1):=by
 apply List.ext_getElem?
 intro i
 by_cases hi:i < bs.length
 ·rw [revK_get bs (l+1) hi,List.getElem?_set,List.getElem?_set,List.length_set,revK_len,revK_get bs l hi]
  by_cases h1:bs.length - 1 - l=i
  ·subst h1
   rw [if_pos rfl,if_pos hi,if_pos (by omega),show bs.length - 1 - (bs.length - 1 - l)=l by omega]
  ·rw [if_neg h1]
   by_cases h2:l=i
   ·subst h2
    rw [if_pos rfl,if_pos hi,if_pos (by omega)]
   ·rw [if_neg h2]
    congr 1
    by_cases h3:i < l∨bs.length≤i+l
    ·rw [if_pos h3,if_pos (by omega)]
    ·rw [if_neg h3,if_neg (by omega)]
 ·rw [List.getElem?_eq_none_iff.2 (by simp [revK_len];omega),List.getElem?_eq_none_iff.2 (by rw [revK_len];omega)]
theorem revK_end (bs:List Nat) (l:Nat) (hl:bs.length≤2*l+1) {i:Nat} (hi:i < bs.length):(revK bs l)[i]? = some (bs.getD (bs.length - 1 - i) 0):=by
 rw [revK_get bs l hi]
 by_cases h:i < l∨bs.length≤i+l
 ·rw [if_pos h]
 ·rw [if_neg h,show bs.length - 1 - i=i by omega]
structure Lv (w:World) (rs:List Rec) (mm:Bool→Nat→Nat) (V:Sets):Prop where
 at_:∀ k r,rs[k]? = some r→r.i.lin=some (mm false k)∧r.i.lout=some (mm true k)
 mask:∀ p k,k < rs.length→MaskAt w (mm p k) (V p k)
 inj:∀ p k q j,k < rs.length→j < rs.length→mm p k=mm q j→p=q∧k=j
theorem NoT.mask {T:List TypeId} {w:World} {b:Nat} {F:Nat→Nat} (h:MaskAt w b F):NoT T w (fun x=>x=b):=by
 rintro c cs t fr rfl e
 obtain ⟨⟨ks,es,clock,h1,_⟩,_⟩:=h
 rw [e] at h1
 cases h1
theorem Lv.nope {w w':World} {rs:List Rec} {mm:Bool→Nat→Nat} {V:Sets} (h:Lv w rs mm V) (hf:Fr nope w w'):Lv w' rs mm V:=⟨h.at_,fun p k hk=>(h.mask p k hk).fr hf (fun x=>x),h.inj⟩
theorem Lv.upd {w w':World} {rs:List Rec} {mm:Bool→Nat→Nat} {V:Sets} (h:Lv w rs mm V) {p:Bool} {k:Nat} {F:Nat→Nat} (hk:k < rs.length) (hm:MaskAt w' (mm p k) F) (hf:Fr (fun b=>b=mm p k) w w'):Lv w' rs mm (updS V p k F):=by
 refine ⟨h.at_,fun q j hj=>?_,h.inj⟩
 by_cases e:(q,j)=(p,k)
 ·injection e with e1 e2
  subst e1 e2
  rw [updS_self];exact hm
 ·rw [updS_ne _ _ _ _ e]
  refine (h.mask q j hj).fr hf fun he=>e ?_
  obtain ⟨e1,e2⟩:=h.inj q j p k hj hk he
  rw [e1,e2]
theorem Links.with {w:World} {B:Nat} {rs:List Rec} {X:Bool→Nat→List Value} (h:Links w B rs X) {k:Nat} {r:Rec} (hk:rs[k]? = some r) {i:Ins} (hi:∀ p,i.row p=r.i.row p):Links w B (rs.set k (r.with i)) X:=by
 have hkl:=(List.getElem?_eq_some_iff.1 hk).1
 have key:∀ {j:Nat} {x:Rec},(rs.set k (r.with i))[j]? = some x→∃ y,rs[j]? = some y∧∀ p,x.i.row p=y.i.row p:=by
  intro j x hx
  rw [List.getElem?_set] at hx
  split at hx
  ·rename_i e
   subst e
   injection hx with hx
   subst hx
   exact ⟨r,hk,hi⟩
  ·exact ⟨x,hx,fun _=>rfl⟩
 have hB:∀ p j,rowB (rs.set k (r.with i)) p j=rowB rs p j:=by
  intro p j
  unfold rowB
  cases hx:(rs.set k (r.with i))[j]? with
  | none=>
   rw [List.getElem?_eq_none_iff,List.length_set] at hx
   rw [List.getElem?_eq_none_iff.2 hx]
  | some x=>
   obtain ⟨y,h1,h2⟩:=key hx
   rw [h1]
   simp only [Option.bind_some,h2]
 refine ⟨fun p j x hx=>?_,fun p j q j' b hne h1 h2=>?_⟩
 ·obtain ⟨y,h1,h2⟩:=key hx
  rw [h2];exact h.row p j y h1
 ·rw [hB] at h1 h2;exact h.apart p j q j' b hne h1 h2
theorem ofRegs_sup {rs:List R} {c:Nat} (h:ofRegs rs c≠0):c∈rs.map R.id:=by
 have key:∀ (rs:List R) (F:Nat→Nat),rs.foldl (fun F r=>orM F r.id r.spec) F c≠0→F c≠0∨c∈rs.map R.id:=by
  intro rs
  induction rs with
  | nil=>intro F h;exact .inl h
  | cons r rs ih=>
   intro F h
   rcases ih _ h with h1 | h1
   ·have h2:(if c=r.id then F c ||| r.spec else F c)≠0:=h1
    clear h1
    split at h2
    ·rename_i e;exact .inr (by simp [e])
    ·exact .inl h2
   ·exact .inr (by simp [h1])
 rcases key rs _ h with h | h
 ·exact absurd rfl h
 ·exact h
def useOf (rs:List Rec) (k:Nat):Nat→Nat:=match rs[k]? with
 | some r=>ofRegs (inRegs r.i.canc r.inp r.out)
 | none=>fun _=>0
def defOf (rs:List Rec) (k:Nat):Nat→Nat:=match rs[k]? with
 | some r=>ofRegs (outRegs r.out)
 | none=>fun _=>0
def flowOf (rs:List Rec) (sc:Nat→List (Option Nat)):Flow:=
 { n:=rs.length,use:=useOf rs,df:=defOf rs,next:=fun k s=>∃ r,rs[s]? = some r∧some r.b∈sc k,U:=rs.flatMap fun r=>(inRegs r.i.canc r.inp r.out).map R.id }
theorem useOf_like {rs rs':List Rec} (h:Like rs rs') (k:Nat):useOf rs' k=useOf rs k:=by
 unfold useOf
 cases hk:rs'[k]? with
 | none=>
  rw [List.getElem?_eq_none_iff] at hk
  rw [List.getElem?_eq_none_iff.2 (by have:=h.1;omega)]
 | some r'=>
  obtain ⟨r,i,h1,rfl,h3⟩:=h.2 k r' hk
  rw [h1]
  simp only [Rec.with,h3.canc]
theorem defOf_like {rs rs':List Rec} (h:Like rs rs') (k:Nat):defOf rs' k=defOf rs k:=by
 unfold defOf
 cases hk:rs'[k]? with
 | none=>
  rw [List.getElem?_eq_none_iff] at hk
  rw [List.getElem?_eq_none_iff.2 (by have:=h.1;omega)]
 | some r'=>
  obtain ⟨r,i,h1,rfl,h3⟩:=h.2 k r' hk
  rw [h1]
  rfl
structure LvPart (w:World) (rs:List Rec) (use:Nat→Nat→Nat) (m:Nat) (mm:Bool→Nat→Nat):Prop where
 at_:∀ k r,m≤k→rs[k]? = some r→r.i.lin=some (mm false k)∧r.i.lout=some (mm true k)
 mask:∀ k,m≤k→k < rs.length→MaskAt w (mm false k) (use k)∧MaskAt w (mm true k) (fun _=>0)
 inj:∀ p k q j,m≤k→m≤j→k < rs.length→j < rs.length→mm p k=mm q j→p=q∧k=j
theorem LvPart.step {w w':World} {rs:List Rec} {use:Nat→Nat→Nat} {m:Nat} {mm:Bool→Nat→Nat} (h:LvPart w rs use (m+1) mm) {r:Rec} (hk:rs[m]? = some r) {i:Ins} {b1 b2:Nat} (hi:i.lin=some b1∧i.lout=some b2) (h1:MaskAt w' b1 (use m)) (h2:MaskAt w' b2 (fun _=>0))
  (hf:Fr (fun b=>b=r.b) w w') (hr:∃ cs t fr,w.heap[r.b]? = some (.cells cs t fr)) (hb1:w.heap.size≤b1) (hb2:b1 < b2):LvPart w' (rs.set m (r.with i)) use m (fun p k=>if k=m then (if p then b2 else b1) else mm p k):=by
 obtain ⟨cs,t,fr,hr⟩:=hr
 have hml:=(List.getElem?_eq_some_iff.1 hk).1
 have hlt:∀ p k,m+1≤k→k < rs.length→mm p k < w.heap.size:=fun p k hm hk=>by
  cases p
  ·exact (h.mask k hm hk).1.lt
  ·exact (h.mask k hm hk).2.lt
 have hne:∀ {b F},MaskAt w b F→¬b=r.b:=by
  rintro b F ⟨⟨ks,es,clock,g1,_⟩,_⟩ rfl
  rw [hr] at g1;cases g1
 refine ⟨fun k x hmk hx=>?_,fun k hmk hkl=>?_,fun p k q j hmk hmj hkl hjl e=>?_⟩
 ·rw [List.getElem?_set] at hx
  split at hx
  ·rename_i e
   subst e
   injection hx with hx
   subst hx
   show i.lin=_∧i.lout=_
   simpa using hi
  ·rename_i e
   have hkm:k≠m:=fun e'=>e e'.symm
   simp only [if_neg hkm]
   exact h.at_ k x (by omega) hx
 ·rw [List.length_set] at hkl
  by_cases hkm:k=m
  ·subst hkm;simpa using ⟨h1,h2⟩
  ·simp only [if_neg hkm]
   obtain ⟨g1,g2⟩:=h.mask k (by omega) hkl
   exact ⟨g1.fr hf (hne g1),g2.fr hf (hne g2)⟩
 ·rw [List.length_set] at hkl hjl
  by_cases hkm:k=m
  ·by_cases hjm:j=m
   ·rw [if_pos hkm,if_pos hjm] at e
    cases p<;>cases q<;>simp at e<;>first | exact ⟨rfl,hkm.trans hjm.symm⟩ | omega
   ·rw [if_pos hkm,if_neg hjm] at e
    have:=hlt q j (by omega) hjl
    cases p<;>simp at e<;>omega
  ·by_cases hjm:j=m
   ·rw [if_neg hkm,if_pos hjm] at e
    have:=hlt p k (by omega) hkl
    cases q<;>simp at e<;>omega
   ·rw [if_neg hkm,if_neg hjm] at e
    exact h.inj p k q j (by omega) (by omega) hkl hjl e
theorem LvPart.done {w:World} {rs:List Rec} {use:Nat→Nat→Nat} {mm:Bool→Nat→Nat} (h:LvPart w rs use 0 mm):Lv w rs mm (fun p k=>if p then fun _=>0 else use k):=
 ⟨fun k r hk=>h.at_ k r (Nat.zero_le _) hk,fun p k hk=>by cases p;exact (h.mask k (Nat.zero_le _) hk).1;exact (h.mask k (Nat.zero_le _) hk).2,fun p k q j hk hj e=>h.inj p k q j (Nat.zero_le _) (Nat.zero_le _) hk hj e⟩
theorem flow_start {rs:List Rec} {sc:Nat→List (Option Nat)} (h:∀ k c,useOf rs k c < 65536):Sound (flowOf rs sc) (fun p k=>if p then fun _=>0 else useOf rs k):=by
 refine ⟨fun k _=>Sub.refl _,fun k c b hk hb=>.read ⟨hk,hb⟩,fun k c b hk hb=>by simp at hb,fun p k c hk hb=>?_,fun p k c=>?_⟩
 ·cases p
  ·simp only [Bool.false_eq_true,if_false] at hb
   unfold useOf at hb
   cases hr:rs[k]? with
   | none=>rw [hr] at hb;exact absurd rfl hb
   | some r=>
    rw [hr] at hb
    exact List.mem_flatMap.2 ⟨r,List.mem_of_getElem? hr,ofRegs_sup hb⟩
  ·simp at hb
 ·cases p
  ·exact h k c
  ·simp
end
section
open Go Go.RowKit Bth
set_option maxRecDepth 100000
def findReg (id:Nat):Code→Array Oper
 | .region i ops _=>if Nat.beq i id then ops else #[]
 | .seq a b=>findReg id a ++ findReg id b
 | .cond _ a b=>findReg id a ++ findReg id b
 | .block _ a=>findReg id a
 | .loop a=>findReg id a
 | .scope a=>findReg id a
 | _=>#[]
def opAt (r:Array Oper) (i:Nat):Oper:=(r[i]?).getD { dst:=none,op:=.move (.tmp 0),type:=0,pos := "",after:=#[],guard:=none }
theorem opAt_get {r:Array Oper} {n i:Nat} (e:r.size=n) (h:Nat.blt i n=true):r[i]? = some (opAt r i):=by
 have hi:i < r.size:=by rw [e];simpa [Nat.blt_eq] using h
 unfold opAt
 rw [Array.getElem?_eq_getElem hi]
 rfl
theorem yielded_of {ops:Array Oper} {a:Act} {j d:Nat} {b:Bool} (h1:(ops[j]?).bind (·.dst)=some d) (hd:d < a.tmps.size) (h2:a.eval (.tmp d) = .bool b):yielded ops a.tmps j=some b:=by
 unfold yielded
 have h3:a.tmps[d]? = some (.bool b):=by
  have:a.tmps.getD d undef = .bool b:=h2
  rw [Array.getD_eq_getD_getElem?,Array.getElem?_eq_getElem hd] at this
  rw [Array.getElem?_eq_getElem hd]
  simpa using this
 rw [h1,Option.bind_some,h3]
theorem wp_callU {P:Program} {o:Oper} {a:Act} {w:World} {K:Act→World→Prop} {Q:Exit→Act→World→Prop} {f:FuncId} {fn:Func} {args:Array Operand} {ats:Array TypeId} (hop:o.op = .call { callee:=.value (.func f),args:=args,argTypes:=ats })
  (hf:P.funcs[f]? = some fn) (hn:(fn.name == "runtime.NumGoroutine")=false) (hb:fn.body.isNone=false)
  (hc:Calls P f (args.map a.eval) w fun
   | .returned y,w'=>K (a.put o.dst y) w'
   | _,_=>False):Oper.wp P o a w K Q:=by
 have hrun:(execOp a.eval o).run P w = .ok (.enter f (args.map a.eval)) w:=by
  unfold execOp
  rw [hop]
  simp [resolve,invoke,Act.eval,Deferred.ofValue,run_callFunc hf hn hb]
 show o.upon P a K Q ((execOp a.eval o).run P w)
 rw [hrun]
 refine hc.mono fun e w' h=>?_
 cases e with
 | returned y=>exact h
 | panicked chain=>exact h.elim
 | outgrown=>exact h.elim
def lkB:List (Nat × Value)→Nat→Option Value
 | [],_=>none
 | x :: l,t=>if Nat.beq x.1 t then some x.2 else lkB l t
structure Bun (a:Act) (n:Nat) (l:List (Nat × Value)):Prop where
 sz:a.tmps.size=n
 df:a.defers=[]
 at_:∀ t v,lkB l t=some v→a.eval (.tmp t)=v
theorem Bun.put {a:Act} {n:Nat} {l:List (Nat × Value)} (h:Bun a n l) {x:Option Nat} {d:Nat} (hx:x=some d) (hd:d < n) (v:Value):Bun (a.put x v) n ((d,v) :: l):=by
 subst hx
 refine ⟨by simpa [Act.put] using h.sz,h.df,fun t u hu=>?_⟩
 rw [put_eval _ _ _ _ (by rw [h.sz];exact hd)]
 unfold lkB at hu
 split at hu
 ·rename_i e
  have e:d=t:=Nat.eq_of_beq_eq_true e
  rw [if_pos e]
  exact Option.some.inj hu
 ·rename_i e
  have e:¬d=t:=fun h=>e (by rw [h];exact Nat.beq_refl t)
  rw [if_neg e]
  exact h.at_ t u hu
theorem Bun.skip {a:Act} {n:Nat} {l:List (Nat × Value)} (h:Bun a n l) {x:Option Nat} (hx:x=none) (v:Value):Bun (a.put x v) n l:=by
 subst hx;exact h
theorem Bun.nil {a:Act} {n:Nat} (h:a.tmps.size=n) (h':a.defers=[]):Bun a n []:=⟨h,h',fun _ _ h=>by simp [lkB] at h⟩
theorem Bun.cons {a:Act} {n:Nat} {l:List (Nat × Value)} (h:Bun a n l) (d:Nat) {v:Value} (e:a.eval (.tmp d)=v):Bun a n ((d,v) :: l):=⟨h.sz,h.df,fun t u hu=>by
 unfold lkB at hu
 split at hu
 ·rename_i e2
  rw [← Nat.eq_of_beq_eq_true e2,← Option.some.inj hu]
  exact e
 ·exact h.at_ t u hu⟩
def mayB (ops:Array Oper) (listed:Array Bool) (i d n:Nat):Bool:=Region.noSelect ops && Region.free .any ops listed i && (Region.ready .any ops listed).contains i && Nat.blt d n
def isB (ops:Array Oper) (i d:Nat) (op:Op):Prop:=(ops[i]?).map (fun o=>(o.op,o.dst,o.guard))=some (op,some d,none)
section
variable {P:Program} {ops:Array Oper} {Q:Exit→Act→World→Prop} {S:World→Prop} {fuel n:Nat} {listed:Array Bool} {a:Act} {w:World} {l:List (Nat × Value)}
theorem takeB (h:Bun a n l) (hS:S w) (hQ:∀ d v c a w,Q (.panic c) (a.put d v) w→Q (.panic c) a w) (i d:Nat) (op:Op) (v:Value) (ho:isB ops i d op) (hm:mayB ops listed i d n=true)
  (hx:∀ o:Oper,o.op=op→∀ w,S w→(execOp a.eval o).run P w = .ok (.value v) w)
  (next:∀ a',a'=a.put (some d) v→Bun a' n ((d,v) :: l)→wpAnyH P .any ops Q S fuel (listed.setIfInBounds i true) a' w):wpAnyH P .any ops Q S (fuel+1) listed a w:=by
 obtain ⟨o,hi,ho⟩:=Option.map_eq_some_iff.1 ho
 simp only [Prod.mk.injEq] at ho
 obtain ⟨h1,h2,h3⟩:=ho
 unfold mayB at hm
 simp only [Bool.and_eq_true] at hm
 obtain ⟨⟨⟨m1,m2⟩,m3⟩,m4⟩:=hm
 refine wpAnyH_take (v:=v) hi m1 m2 m3 (fun c a w=>hQ _ _ c a w) (Or.inl ⟨by unfold Region.wanted;rw [h3],hx o h1⟩) hS (next _ (by rw [h2]) (h.put h2 (by simpa [Nat.blt_eq] using m4) v))
theorem takeMv (h:Bun a n l) (hS:S w) (hQ:∀ d v c a w,Q (.panic c) (a.put d v) w→Q (.panic c) a w) (i d t:Nat) (v:Value) (ho:isB ops i d (.move (.tmp t))) (hm:mayB ops listed i d n=true) (ht:lkB l t=some v)
  (next:∀ a',a'=a.put (some d) v→Bun a' n ((d,v) :: l)→wpAnyH P .any ops Q S fuel (listed.setIfInBounds i true) a' w):wpAnyH P .any ops Q S (fuel+1) listed a w:=
 takeB h hS hQ i d _ v ho hm (fun o e w _=>by have:=h.at_ t v ht;simp [execOp,e,this]) next
theorem takeNil (h:Bun a n l) (hS:S w) (hQ:∀ d v c a w,Q (.panic c) (a.put d v) w→Q (.panic c) a w) (i d t:Nat) (p:Addr) (ho:isB ops i d (.nilCheck (.tmp t))) (hm:mayB ops listed i d n=true) (ht:lkB l t=some (.pointer (some p)))
  (next:∀ a',a'=a.put (some d) (.pointer (some p))→Bun a' n ((d,.pointer (some p)) :: l)→wpAnyH P .any ops Q S fuel (listed.setIfInBounds i true) a' w):wpAnyH P .any ops Q S (fuel+1) listed a w:=
 takeB h hS hQ i d _ _ ho hm (fun o e w _=>by have:=h.at_ t _ ht;simp [execOp,e,this]) next
theorem takeFld (h:Bun a n l) (hS:S w) (hQ:∀ d v c a w,Q (.panic c) (a.put d v) w→Q (.panic c) a w) (i d t:Nat) (T:TypeId) (f:Nat) (p q:Addr) (ho:isB ops i d (.fieldAddr T (.tmp t) f)) (hm:mayB ops listed i d n=true) (ht:lkB l t=some (.pointer (some p)))
  (hf:∀ w,(Go.Instr.fieldAt T (.pointer (some p)) f).run P w = .ok (.pointer (some q)) w)
  (next:∀ a',a'=a.put (some d) (.pointer (some q))→Bun a' n ((d,.pointer (some q)) :: l)→wpAnyH P .any ops Q S fuel (listed.setIfInBounds i true) a' w):wpAnyH P .any ops Q S (fuel+1) listed a w:=
 takeB h hS hQ i d _ _ ho hm (fun o e w _=>by have:=h.at_ t _ ht;have:=hf w;simp_all [execOp]) next
theorem takeLd (h:Bun a n l) (hS:S w) (hQ:∀ d v c a w,Q (.panic c) (a.put d v) w→Q (.panic c) a w) (i d t:Nat) (T:TypeId) (p:Addr) (v:Value) (ho:isB ops i d (.load T (.tmp t))) (hm:mayB ops listed i d n=true) (ht:lkB l t=some (.pointer (some p)))
  (hf:∀ w,S w→(Go.Instr.loadAt T (.pointer (some p))).run P w = .ok v w)
  (next:∀ a',a'=a.put (some d) v→Bun a' n ((d,v) :: l)→wpAnyH P .any ops Q S fuel (listed.setIfInBounds i true) a' w):wpAnyH P .any ops Q S (fuel+1) listed a w:=
 takeB h hS hQ i d _ _ ho hm (fun o e w hw=>by have:=h.at_ t _ ht;have:=hf w hw;simp_all [execOp]) next
theorem takeG (h:Bun a n l) (hS:S w) (hQ:∀ d v c a w,Q (.panic c) (a.put d v) w→Q (.panic c) a w) (i d t j e:Nat) (b0 b:Bool) (v:Value) (ho:(ops[i]?).map (fun o=>(o.op,o.dst,o.guard))=some (.move (.tmp t),some d,some (j,b0))∧(ops[j]?).bind (·.dst)=some e) (hm:mayB ops listed i d n=true) (he:Nat.blt e n=true)
  (hb:lkB l e=some (.bool b)) (ht:lkB l t=some v) (next:∀ a',a'=a.put (some d) (if b == b0 then v else undef)→Bun a' n ((d,if b == b0 then v else undef) :: l)→wpAnyH P .any ops Q S fuel (listed.setIfInBounds i true) a' w):wpAnyH P .any ops Q S (fuel+1) listed a w:=by
 obtain ⟨ho,hj⟩:=ho
 obtain ⟨o,hi,ho⟩:=Option.map_eq_some_iff.1 ho
 simp only [Prod.mk.injEq] at ho
 obtain ⟨h1,h2,h3⟩:=ho
 unfold mayB at hm
 simp only [Bool.and_eq_true] at hm
 obtain ⟨⟨⟨m1,m2⟩,m3⟩,m4⟩:=hm
 have hy:=yielded_of (ops:=ops) (a:=a) hj (by rw [h.sz];simpa [Nat.blt_eq] using he) (h.at_ e _ hb)
 refine wpAnyH_take (v:=if b == b0 then v else undef) hi m1 m2 m3 (fun c a w=>hQ _ _ c a w) ?_ hS (next _ (by rw [h2]) (h.put h2 (by simpa [Nat.blt_eq] using m4) _))
 have hw:Region.wanted o (yielded ops a.tmps)=(b == b0):=by unfold Region.wanted;rw [h3];simp [hy]
 cases hbb:b == b0 with
 | true=>exact Or.inl ⟨by rw [hw,hbb],fun w _=>by have:=h.at_ t v ht;simp [execOp,h1,this]⟩
 | false=>exact Or.inr ⟨by rw [hw,hbb],rfl⟩
theorem takeQ (h:Bun a n l) (hS:S w) (hQ:∀ d v c a w,Q (.panic c) (a.put d v) w→Q (.panic c) a w) (i d t:Nat) (T U:TypeId) (f:Nat) (p q:Addr) (v:Value)
  (ho:isB ops i d (.move (.tmp t))∧isB ops (i+1) (d+1) (.nilCheck (.tmp d))∧isB ops (i+2) (d+2) (.fieldAddr T (.tmp (d+1)) f)∧isB ops (i+3) (d+3) (.load U (.tmp (d+2))))
  (hm:(mayB ops listed i d n && mayB ops (listed.setIfInBounds i true) (i+1) (d+1) n && mayB ops ((listed.setIfInBounds i true).setIfInBounds (i+1) true) (i+2) (d+2) n && mayB ops (((listed.setIfInBounds i true).setIfInBounds (i+1) true).setIfInBounds (i+2) true) (i+3) (d+3) n)=true)
  (ht:lkB l t=some (.pointer (some p))) (hf:∀ w,(Go.Instr.fieldAt T (.pointer (some p)) f).run P w = .ok (.pointer (some q)) w) (hl:∀ w,S w→(Go.Instr.loadAt U (.pointer (some q))).run P w = .ok v w)
  (hk:l.all (fun x=>Nat.blt x.1 d)=true)
  (next:∀ a',a'=(((a.put (some d) (.pointer (some p))).put (some (d+1)) (.pointer (some p))).put (some (d+2)) (.pointer (some q))).put (some (d+3)) v→Bun a' n ((d+3,v) :: l)→wpAnyH P .any ops Q S fuel ((((listed.setIfInBounds i true).setIfInBounds (i+1) true).setIfInBounds (i+2) true).setIfInBounds (i+3) true) a' w):wpAnyH P .any ops Q S (fuel+1+1+1+1) listed a w:=by
 simp only [Bool.and_eq_true] at hm
 obtain ⟨⟨⟨m1,m2⟩,m3⟩,m4⟩:=hm
 refine takeMv h hS hQ i d t _ ho.1 m1 ht fun a1 e1 h1=>takeNil h1 hS hQ _ _ d p ho.2.1 m2 (by simp [lkB]) fun a2 e2 h2=>takeFld h2 hS hQ _ _ _ T f p q ho.2.2.1 m3 (by simp [lkB]) hf fun a3 e3 h3=>takeLd h3 hS hQ _ _ _ U q v ho.2.2.2 m4 (by simp [lkB]) hl fun a4 e4 h4=>next a4 (by rw [e4,e3,e2,e1]) ⟨h4.sz,h4.df,fun t u hu=>h4.at_ t u ?_⟩
 unfold lkB at hu ⊢
 split
 ·rename_i e;rw [if_pos e] at hu;exact hu
 ·rename_i e
  rw [if_neg e] at hu
  have hd:t < d:=by
   clear h h1 h2 h3 h4 ht next
   induction l with
   | nil=>simp [lkB] at hu
   | cons x l ih=>
    simp only [List.all_cons,Bool.and_eq_true] at hk
    unfold lkB at hu
    split at hu
    ·rename_i e2
     have:=Nat.eq_of_beq_eq_true e2
     have hk1:=hk.1;simp only [Nat.blt_eq] at hk1
     omega
    ·exact ih hk.2 hu
  have e:∀ x,d≤x→Nat.beq x t=false:=fun x hx=>by
   cases hb:Nat.beq x t with
   | false=>rfl
   | true=>have:=Nat.eq_of_beq_eq_true hb;omega
  simp only [lkB,e (d+2) (by omega),e (d+1) (by omega),e d (Nat.le_refl _)]
  exact hu
end
theorem insFld (b j:Nat) (hj:j < 14) (w:World):(Instr.fieldAt 130 (.pointer (some ⟨b,0,none⟩)) j).run Tryz.prog w = .ok (.pointer (some ⟨b,j,none⟩)) w:=by
 match j,hj with
 | 0,_=>go_simp
 | 1,_=>go_simp
 | 2,_=>go_simp
 | 3,_=>go_simp
 | 4,_=>go_simp
 | 5,_=>go_simp
 | 6,_=>go_simp
 | 7,_=>go_simp
 | 8,_=>go_simp
 | 9,_=>go_simp
 | 10,_=>go_simp
 | 11,_=>go_simp
 | 12,_=>go_simp
 | 13,_=>go_simp
end
end Go.Proofs.YtpbeedabmjmdmaaGreatDoor
