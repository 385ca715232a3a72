/- Part of the proof of a statement about pub-berthage: what its texts have in common. -/
import Derived.Test.YtpbeedabmjmdmaaGreatDoorP10
import Derived.Test.YtpbeedabmjmdmaaGreatDoorP14
import Derived.Test.YtpbeedabmjmdmaaGreatDoorP24
import Derived.Test.YtpbeedabmjmdmaaGreatDoorP28
namespace Go.Proofs.YtpbeedabmjmdmaaGreatDoor
section
open Go Go.RowKit Bth
abbrev TL:=List (Nat × Nat)
def mIns (id m:Nat):TL→TL
 | []=>[(id,m)]
 | x :: t=>if x.1 < id then x :: mIns id m t else if x.1=id then (id,x.2 ||| m) :: t else (id,m) :: x :: t
def mAdd (s:TL) (id m:Nat):TL:=if m=0 then s else mIns id m s
def mDis1 (id m:Nat) (x:Nat × Nat):Nat × Nat:=if x.1=id then (x.1,andn x.2 m) else x
def mDis (s:TL) (id m:Nat):TL:=(s.map (mDis1 id m)).filter fun x=>x.2 != 0
def mUnion (s t:TL):TL:=t.foldl (fun s x=>mAdd s x.1 x.2) s
def mMinus (s t:TL):TL:=t.foldl (fun s x=>mDis s x.1 x.2) s
def tv:TL→Nat→Nat
 | [],_=>0
 | x :: t,c=>if x.1=c then x.2 else tv t c
inductive Tidy:TL→Prop
 | nil:Tidy []
 | cons {x:Nat × Nat} {t:TL} (h:Tidy t) (h1:∀ y∈t,x.1 < y.1) (h2:x.2≠0) (h3:x.2 < 65536) (h4:x.1 < 4294967296):Tidy (x :: t)
theorem tv_lt {s:TL} {c:Nat} (h:∀ y∈s,c < y.1):tv s c=0:=by
 induction s with
 | nil=>rfl
 | cons x t ih=>
  have:=h x (by simp)
  simp only [tv]
  rw [if_neg (by omega),ih fun y hy=>h y (by simp [hy])]
theorem tv_mem {s:TL} {c:Nat} (h:tv s c≠0):(c,tv s c)∈s:=by
 induction s with
 | nil=>exact absurd rfl h
 | cons x t ih=>
  simp only [tv] at h ⊢
  by_cases e:x.1=c
  ·rw [if_pos e];subst e;simp
  ·rw [if_neg e] at h ⊢;exact List.mem_cons_of_mem _ (ih h)
theorem tv_of_mem {s:TL} (ht:Tidy s) {x:Nat × Nat} (h:x∈s):tv s x.1=x.2:=by
 induction ht with
 | nil=>cases h
 | @cons y t ht h1 _ _ _ ih=>
  simp only [tv]
  rcases List.mem_cons.1 h with rfl | h
  ·simp
  ·have:=h1 x h
   rw [if_neg (by omega),ih h]
theorem Tidy.bound {s:TL} (h:Tidy s):∀ x∈s,x.1 < 4294967296∧x.2 < 65536∧x.2≠0:=by
 induction h with
 | nil=>simp
 | cons _ _ h2 h3 h4 ih=>
  intro y hy
  rcases List.mem_cons.1 hy with rfl | hy
  ·exact ⟨h4,h3,h2⟩
  ·exact ih y hy
theorem tv_lt16 {s:TL} (h:Tidy s) (c:Nat):tv s c < 65536:=by
 by_cases e:tv s c=0
 ·omega
 ·exact (h.bound _ (tv_mem e)).2.1
theorem or_pos16 {a b:Nat} (h:a≠0):a ||| b≠0:=fun e=>h (by
 apply Nat.eq_of_testBit_eq
 intro i
 have:=congrArg (fun x=>x.testBit i) e
 simp only [Nat.testBit_or,Nat.zero_testBit,Bool.or_eq_false_iff] at this
 rw [this.1];simp)
theorem mIns_mem {s:TL} {id m:Nat} : ∀ y∈mIns id m s,y.1=id∨y∈s:=by
 induction s with
 | nil=>intro y hy;exact .inl (by simp [mIns] at hy;rw [hy])
 | cons x t ih=>
  intro y hy
  simp only [mIns] at hy
  split at hy
  ·rcases List.mem_cons.1 hy with rfl | hy
   ·simp
   ·rcases ih y hy with h | h
    ·exact .inl h
    ·exact .inr (by simp [h])
  ·split at hy
   ·rcases List.mem_cons.1 hy with rfl | hy
    ·exact .inl rfl
    ·exact .inr (by simp [hy])
   ·rcases List.mem_cons.1 hy with rfl | hy
    ·exact .inl rfl
    ·exact .inr hy
theorem mIns_tidy {s:TL} (h:Tidy s) {id m:Nat} (h0:m≠0) (hm:m < 65536) (hi:id < 4294967296):Tidy (mIns id m s):=by
 induction h with
 | nil=>exact .cons .nil (by simp) h0 hm hi
 | @cons x t ht h1 h2 h3 h4 ih=>
  simp only [mIns]
  split
  ·rename_i hlt
   exact .cons ih (fun y hy=>by rcases mIns_mem y hy with h | h;omega;exact h1 y h) h2 h3 h4
  ·split
   ·rename_i _ he
    exact .cons ht (fun y hy=>by have:=h1 y hy;show id < y.1;omega) (or_pos16 h2) (or_lt16 h3 hm) hi
   ·exact .cons (.cons ht h1 h2 h3 h4) (fun y hy=>by
     show id < y.1
     rcases List.mem_cons.1 hy with rfl | hy
     ·omega
     ·have:=h1 y hy;omega) h0 hm hi
theorem tv_mIns {s:TL} (h:Tidy s) {id m:Nat} (c:Nat):tv (mIns id m s) c=if c=id then tv s c ||| m else tv s c:=by
 induction h with
 | nil=>
  simp only [mIns,tv]
  by_cases e:id=c
  ·simp [e]
  ·rw [if_neg e,if_neg (Ne.symm e)]
 | @cons x t ht h1 h2 h3 h4 ih=>
  simp only [mIns]
  split
  ·rename_i hlt
   simp only [tv]
   rw [ih]
   by_cases e:x.1=c
   ·rw [if_pos e,if_neg (by omega)];simp [e]
   ·simp [e]
  ·split
   ·rename_i _ he
    simp only [tv]
    by_cases e:id=c
    ·rw [if_pos e,if_pos e.symm,if_pos (by omega)]
    ·rw [if_neg e,if_neg (Ne.symm e),if_neg (by omega)]
   ·rename_i h5 h6
    simp only [tv]
    by_cases e:id=c
    ·subst e
     rw [if_pos rfl,if_pos rfl,if_neg (by omega),tv_lt fun y hy=>by have:=h1 y hy;omega]
     simp
    ·rw [if_neg e,if_neg (Ne.symm e)]
theorem mAdd_tidy {s:TL} (h:Tidy s) {id m:Nat} (hm:m < 65536) (hi:id < 4294967296):Tidy (mAdd s id m):=by
 unfold mAdd
 split
 ·exact h
 ·rename_i h0;exact mIns_tidy h h0 hm hi
theorem tv_mAdd {s:TL} (h:Tidy s) {id m:Nat} : tv (mAdd s id m)=orM (tv s) id m:=by
 funext c
 unfold mAdd orM
 split
 ·rename_i h0;subst h0;split<;>simp
 ·exact tv_mIns h c
theorem mDis1_fst (id m:Nat) (x:Nat × Nat):(mDis1 id m x).1=x.1:=by unfold mDis1;split<;>rfl
theorem mDis_mem {s:TL} {id m:Nat} : ∀ y∈mDis s id m,∃ x∈s,y.1=x.1∧y.2≠0∧(x.2 < 65536→y.2 < 65536):=by
 intro y hy
 unfold mDis at hy
 obtain ⟨h1,h2⟩:=List.mem_filter.1 hy
 obtain ⟨x,hx,rfl⟩:=List.mem_map.1 h1
 refine ⟨x,hx,mDis1_fst _ _ _,by simpa using h2,fun h=>?_⟩
 unfold mDis1
 split
 ·exact andn_lt h
 ·exact h
theorem mDis_cons (x:Nat × Nat) (t:TL) (id m:Nat):mDis (x :: t) id m=if (mDis1 id m x).2=0 then mDis t id m else mDis1 id m x :: mDis t id m:=by
 unfold mDis
 rw [List.map_cons,List.filter_cons]
 by_cases e:(mDis1 id m x).2=0<;>simp [e]
theorem mDis_tidy {s:TL} (h:Tidy s) {id m:Nat} : Tidy (mDis s id m):=by
 induction h with
 | nil=>exact .nil
 | @cons x t ht h1 h2 h3 h4 ih=>
  rw [mDis_cons]
  split
  ·exact ih
  ·rename_i h0
   refine .cons ih (fun y hy=>?_) h0 ?_ (by rw [mDis1_fst];exact h4)
   ·obtain ⟨z,hz,e,_⟩:=mDis_mem y hy
    rw [mDis1_fst,e];exact h1 z hz
   ·unfold mDis1;split
    ·exact andn_lt h3
    ·exact h3
theorem tv_mDis {s:TL} (h:Tidy s) {id m:Nat} (c:Nat):tv (mDis s id m) c=if c=id then andn (tv s c) m else tv s c:=by
 induction h with
 | nil=>simp [mDis,tv,andn]
 | @cons x t ht h1 h2 h3 h4 ih=>
  rw [mDis_cons]
  have hz:tv (mDis t id m) x.1=0:=tv_lt fun y hy=>by
   obtain ⟨z,hz,e,_⟩:=mDis_mem y hy
   rw [e];exact h1 z hz
  split
  ·rename_i h0
   by_cases e:x.1=c
   ·subst e
    rw [hz]
    simp only [tv,if_true]
    unfold mDis1 at h0
    split at h0
    ·rename_i e;rw [if_pos e];exact h0.symm
    ·exact absurd h0 h2
   ·rw [ih];simp only [tv];rw [if_neg e]
  ·simp only [tv,mDis1_fst]
   by_cases e:x.1=c
   ·rw [if_pos e,if_pos e]
    unfold mDis1
    by_cases e2:x.1=id
    ·rw [if_pos e2,if_pos (by omega)]
    ·rw [if_neg e2,if_neg (by omega)]
   ·rw [if_neg e,if_neg e,ih]
theorem mUnion_tidy {t:TL} (ht:Tidy t):∀ {s:TL},Tidy s→Tidy (mUnion s t):=by
 unfold mUnion
 induction ht with
 | nil=>exact fun h=>h
 | cons _ _ _ h3 h4 ih=>exact fun h=>ih (mAdd_tidy h h3 h4)
theorem tv_mUnion {t:TL} (ht:Tidy t):∀ {s:TL},Tidy s→∀ c,tv (mUnion s t) c=tv s c ||| tv t c:=by
 unfold mUnion
 induction ht with
 | nil=>intro s _ c;simp [tv]
 | @cons x t ht h1 _ h3 h4 ih=>
  intro s hs c
  rw [List.foldl_cons,ih (mAdd_tidy hs h3 h4),tv_mAdd hs]
  unfold orM
  simp only [tv]
  by_cases e:c=x.1
  ·subst e;rw [if_pos rfl,if_pos rfl,tv_lt h1];simp
  ·rw [if_neg e,if_neg (Ne.symm e)]
theorem mMinus_tidy:∀ {t s:TL},Tidy s→Tidy (mMinus s t):=by
 unfold mMinus
 intro t
 induction t with
 | nil=>exact fun h=>h
 | cons x t ih=>exact fun h=>ih (mDis_tidy h)
theorem andn_zero (a:Nat):andn a 0=a:=by simp [andn]
theorem tv_mMinus {t:TL} (ht:Tidy t):∀ {s:TL},Tidy s→∀ c,tv (mMinus s t) c=andn (tv s c) (tv t c):=by
 unfold mMinus
 induction ht with
 | nil=>intro s _ c;simp [tv,andn_zero]
 | @cons x t ht h1 _ h3 h4 ih=>
  intro s hs c
  rw [List.foldl_cons,ih (mDis_tidy hs),tv_mDis hs]
  simp only [tv]
  by_cases e:c=x.1
  ·subst e;rw [if_pos rfl,if_pos rfl,tv_lt h1,andn_zero]
  ·rw [if_neg e,if_neg (Ne.symm e)]
theorem Tidy.ext {s:TL} (hs:Tidy s):∀ {t:TL},Tidy t→(∀ c,tv s c=tv t c)→s=t:=by
 induction hs with
 | nil=>
  intro t ht h
  cases ht with
  | nil=>rfl
  | @cons y t _ _ h2 _ _=>
   have:=h y.1
   simp only [tv,if_true] at this
   exact absurd this.symm h2
 | @cons x s hs h1 h2 _ _ ih=>
  intro t ht h
  cases ht with
  | nil=>
   have:=h x.1
   simp only [tv,if_true] at this
   exact absurd this h2
  | @cons y t ht k1 k2 _ _=>
   have hxy:x.1=y.1:=by
    rcases Nat.lt_trichotomy x.1 y.1 with hl | he | hl
    ·have:=h x.1
     simp only [tv,if_true] at this
     rw [if_neg (by omega),tv_lt fun z hz=>by have:=k1 z hz;omega] at this
     exact absurd this h2
    ·exact he
    ·have:=h y.1
     simp only [tv,if_true] at this
     rw [if_neg (by omega),tv_lt fun z hz=>by have:=h1 z hz;omega] at this
     exact absurd this.symm k2
   have e2:x.2=y.2:=by
    have:=h x.1
    simp only [tv,if_true] at this
    rw [if_pos hxy.symm] at this
    exact this
   have:s=t:=ih ht fun c=>by
    have hc:=h c
    simp only [tv] at hc
    by_cases e:x.1=c
    ·subst e
     rw [tv_lt h1,tv_lt fun z hz=>by rw [hxy];exact k1 z hz]
    ·rw [if_neg e,if_neg (by omega)] at hc
     exact hc
   rw [this,Prod.ext hxy e2]
def lvB (sc:List (Option Nat)) (I:Nat→TL) (b:TL):TL:=sc.foldl (fun b o=>match o with | some s=>mUnion b (I s) | none=>b) b
def lvA (B W R:TL):TL:=mUnion (mMinus B W) R
def updT (I:Nat→TL) (k:Nat) (t:TL):Nat→TL:=fun j=>if j=k then t else I j
theorem lvB_tidy {I:Nat→TL} (hI:∀ k,Tidy (I k)):∀ {sc:List (Option Nat)} {b:TL},Tidy b→Tidy (lvB sc I b):=by
 unfold lvB
 intro sc
 induction sc with
 | nil=>exact fun h=>h
 | cons o sc ih=>
  intro b hb
  cases o with
  | none=>exact ih hb
  | some s=>exact ih (mUnion_tidy (hI s) hb)
theorem lvB_bit {I:Nat→TL} (hI:∀ k,Tidy (I k)) (c i:Nat):∀ {sc:List (Option Nat)} {b:TL},Tidy b→((tv (lvB sc I b) c).testBit i=true↔(tv b c).testBit i=true∨∃ s,some s∈sc∧(tv (I s) c).testBit i=true):=by
 unfold lvB
 intro sc
 induction sc with
 | nil=>intro b _;simp
 | cons o sc ih=>
  intro b hb
  cases o with
  | none=>
   rw [List.foldl_cons,ih hb]
   simp
  | some s=>
   rw [List.foldl_cons,ih (mUnion_tidy (hI s) hb),tv_mUnion (hI s) hb,Nat.testBit_or,Bool.or_eq_true_iff]
   constructor
   ·rintro ((h | h) | ⟨z,hz,h⟩)
    ·exact .inl h
    ·exact .inr ⟨s,by simp,h⟩
    ·exact .inr ⟨z,by simp [hz],h⟩
   ·rintro (h | ⟨z,hz,h⟩)
    ·exact .inl (.inl h)
    ·rcases List.mem_cons.1 hz with e | hz
     ·injection e with e;subst e;exact .inl (.inr h)
     ·exact .inr ⟨z,hz,h⟩
theorem lvA_bit {B W R:TL} (hB:Tidy B) (hW:Tidy W) (hR:Tidy R) (c i:Nat):(tv (lvA B W R) c).testBit i=true↔((tv B c).testBit i=true∧(tv W c).testBit i=false)∨(tv R c).testBit i=true:=by
 unfold lvA
 rw [tv_mUnion hR (mMinus_tidy hB),tv_mMinus hW hB,Nat.testBit_or,andn_testBit,Bool.or_eq_true_iff,Bool.and_eq_true,Bool.not_eq_true']
theorem lvA_tidy {B W R:TL} (hB:Tidy B) (hR:Tidy R):Tidy (lvA B W R):=mUnion_tidy hR (mMinus_tidy hB)
structure LF where
 n:Nat
 sc:Nat→List (Option Nat)
 W:Nat→TL
 R:Nat→TL
 U:List Nat
structure LF.Ok (f:LF):Prop where
 w:∀ k,Tidy (f.W k)
 r:∀ k,Tidy (f.R k)
 s:∀ k s,k < f.n→some s∈f.sc k→s < f.n
 u:∀ k c,k < f.n→tv (f.R k) c≠0→c∈f.U
def LF.flow (f:LF):Flow:=⟨f.n,fun k=>tv (f.R k),fun k=>tv (f.W k),fun k s=>some s∈f.sc k,f.U⟩
def LF.B (f:LF) (I:Nat→TL) (k:Nat):TL:=lvB (f.sc k) I []
def LF.A (f:LF) (I:Nat→TL) (k:Nat):TL:=lvA (f.B I k) (f.W k) (f.R k)
def setsOf (I O:Nat→TL):Sets:=fun p k=>if p then tv (O k) else tv (I k)
structure SInv (f:LF) (I O:Nat→TL):Prop where
 ti:∀ k,Tidy (I k)
 tO:∀ k,Tidy (O k)
 inn:∀ k c b,k < f.n→(tv (I k) c).testBit b=true→LiveIn f.flow.reads f.flow.writes f.flow.succ k c b
 out:∀ k c b,k < f.n→(tv (O k) c).testBit b=true→LiveOut f.flow.reads f.flow.writes f.flow.succ k c b
 sup:∀ k c,k < f.n→(tv (I k) c≠0∨tv (O k) c≠0)→c∈f.U
 preI:∀ k,k < f.n→Sub (tv (I k)) (tv (f.A I k))
 preO:∀ k,k < f.n→Sub (tv (O k)) (tv (f.B I k))
theorem SInv.start (f:LF):SInv f (fun _=>[]) (fun _=>[]):=
 ⟨fun _=>.nil,fun _=>.nil,fun _ _ _ _ h=>by simp [tv] at h,fun _ _ _ _ h=>by simp [tv] at h,fun _ _ _ h=>by simp [tv] at h,fun _ _ _ _ h=>by simp [tv] at h,fun _ _ _ _ h=>by simp [tv] at h⟩
theorem ne_zero_bit {x:Nat} (h:x≠0):∃ i,x.testBit i=true:=Nat.exists_testBit_of_ne_zero h
theorem LF.B_mono {f:LF} {I I':Nat→TL} (hI:∀ k,Tidy (I k)) (hI':∀ k,Tidy (I' k)) (h:∀ k,Sub (tv (I k)) (tv (I' k))) (k:Nat):Sub (tv (f.B I k)) (tv (f.B I' k)):=fun c i hb=>by
 rw [LF.B,lvB_bit hI' c i .nil]
 rw [LF.B,lvB_bit hI c i .nil] at hb
 rcases hb with hb | ⟨s,hs,hb⟩
 ·exact .inl hb
 ·exact .inr ⟨s,hs,h s c i hb⟩
theorem LF.A_mono {f:LF} (hf:f.Ok) {I I':Nat→TL} (hI:∀ k,Tidy (I k)) (hI':∀ k,Tidy (I' k)) (h:∀ k,Sub (tv (I k)) (tv (I' k))) (k:Nat):Sub (tv (f.A I k)) (tv (f.A I' k)):=fun c i hb=>by
 rw [LF.A,lvA_bit (B:=f.B I' k) (lvB_tidy hI' .nil) (hf.w k) (hf.r k)]
 rw [LF.A,lvA_bit (B:=f.B I k) (lvB_tidy hI .nil) (hf.w k) (hf.r k)] at hb
 rcases hb with ⟨h1,h2⟩ | hb
 ·exact .inl ⟨LF.B_mono hI hI' h k c i h1,h2⟩
 ·exact .inr hb
theorem SInv.step {f:LF} (hf:f.Ok) {I O:Nat→TL} (h:SInv f I O) {k:Nat} (hk:k < f.n):
  SInv f (updT I k (f.A I k)) (updT O k (f.B I k))∧(∀ p j,Sub (setsOf I O p j) (setsOf (updT I k (f.A I k)) (updT O k (f.B I k)) p j)) ∧
   ((f.B I k≠O k∨f.A I k≠I k)→missing f.n f.U (setsOf (updT I k (f.A I k)) (updT O k (f.B I k))) < missing f.n f.U (setsOf I O)):=by
 have tB:Tidy (f.B I k):=lvB_tidy h.ti .nil
 have tA:Tidy (f.A I k):=lvA_tidy tB (hf.r k)
 have tI':∀ j,Tidy (updT I k (f.A I k) j):=fun j=>by unfold updT;split;exact tA;exact h.ti j
 have hB:∀ c b,(tv (f.B I k) c).testBit b=true→LiveOut f.flow.reads f.flow.writes f.flow.succ k c b:=fun c b hb=>by
  rw [LF.B,lvB_bit h.ti c b .nil] at hb
  rcases hb with hb | ⟨s,hs,hb⟩
  ·simp [tv] at hb
  ·have hs':=hf.s k s hk hs
   exact ⟨s,⟨hk,hs',hs⟩,h.inn s c b hs' hb⟩
 have hA:∀ c b,(tv (f.A I k) c).testBit b=true→LiveIn f.flow.reads f.flow.writes f.flow.succ k c b:=fun c b hb=>by
  rw [LF.A,lvA_bit tB (hf.w k) (hf.r k)] at hb
  refine LiveIn.cases_iff.2 ?_
  rcases hb with ⟨h1,h2⟩ | hb
  ·refine .inr ⟨hB c b h1,fun hw=>?_⟩
   have hw:(tv (f.W k) c).testBit b=true:=hw
   rw [h2] at hw;cases hw
  ·exact .inl ⟨hk,hb⟩
 have uB:∀ c,tv (f.B I k) c≠0→c∈f.U:=fun c hc=>by
  obtain ⟨i,hi⟩:=ne_zero_bit hc
  rw [LF.B,lvB_bit h.ti c i .nil] at hi
  rcases hi with hi | ⟨s,hs,hi⟩
  ·simp [tv] at hi
  ·exact h.sup s c (hf.s k s hk hs) (.inl fun e=>by rw [e] at hi;simp at hi)
 have uA:∀ c,tv (f.A I k) c≠0→c∈f.U:=fun c hc=>by
  obtain ⟨i,hi⟩:=ne_zero_bit hc
  rw [LF.A,lvA_bit tB (hf.w k) (hf.r k)] at hi
  rcases hi with ⟨h1,_⟩ | hi
  ·exact uB c fun e=>by rw [e] at h1;simp at h1
  ·exact hf.u k c hk fun e=>by rw [e] at hi;simp at hi
 have mI:∀ j,Sub (tv (I j)) (tv (updT I k (f.A I k) j)):=fun j=>by
  unfold updT
  split
  ·rename_i e;rw [e];exact h.preI k hk
  ·exact Sub.refl _
 have mO:∀ j,Sub (tv (O j)) (tv (updT O k (f.B I k) j)):=fun j=>by
  unfold updT
  split
  ·rename_i e;rw [e];exact h.preO k hk
  ·exact Sub.refl _
 have hsub:∀ p j,Sub (setsOf I O p j) (setsOf (updT I k (f.A I k)) (updT O k (f.B I k)) p j):=fun p j=>by
  cases p
  ·exact mI j
  ·exact mO j
 refine ⟨⟨tI',fun j=>by unfold updT;split;exact tB;exact h.tO j,fun j c b hj hb=>?_,fun j c b hj hb=>?_,fun j c hj hc=>?_,fun j hj=>?_,fun j hj=>?_⟩,hsub,fun hne=>?_⟩
 ·unfold updT at hb
  split at hb
  ·rename_i e;subst e;exact hA c b hb
  ·exact h.inn j c b hj hb
 ·unfold updT at hb
  split at hb
  ·rename_i e;subst e;exact hB c b hb
  ·exact h.out j c b hj hb
 ·unfold updT at hc
  by_cases e:j=k
  ·rw [if_pos e,if_pos e] at hc;exact hc.elim (uA c) (uB c)
  ·rw [if_neg e,if_neg e] at hc;exact h.sup j c hj hc
 ·have hm:=LF.A_mono hf h.ti tI' mI j
  intro c i hb
  unfold updT at hb
  split at hb
  ·rename_i e;subst e;exact hm c i hb
  ·exact hm c i (h.preI j hj c i hb)
 ·have hm:=LF.B_mono (f:=f) h.ti tI' mI j
  intro c i hb
  unfold updT at hb
  split at hb
  ·rename_i e;subst e;exact hm c i hb
  ·exact hm c i (h.preO j hj c i hb)
 ·have key:∀ (s t:TL),Tidy s→Tidy t→Sub (tv s) (tv t)→t≠s→∃ c i,(tv s c).testBit i=false∧(tv t c).testBit i=true:=by
   intro s t hs ht hst hne
   apply Classical.byContradiction
   intro hn
   refine hne (ht.ext hs fun c=>Nat.eq_of_testBit_eq fun i=>?_)
   cases h1:(tv s c).testBit i
   ·cases h2:(tv t c).testBit i
    ·rfl
    ·exact absurd ⟨c,i,h1,h2⟩ hn
   ·rw [hst c i h1]
  rcases hne with hne | hne
  ·obtain ⟨c,i,h1,h2⟩:=key _ _ (h.tO k) tB (h.preO k hk) hne
   exact missing_lt hsub (p:=true) hk (uB c fun e=>by rw [e] at h2;simp at h2) (bit_lt (tv_lt16 tB c) h2) h1 (by show (tv (updT O k (f.B I k) k) c).testBit i=true;rw [updT,if_pos rfl];exact h2)
  ·obtain ⟨c,i,h1,h2⟩:=key _ _ (h.ti k) tA (h.preI k hk) hne
   exact missing_lt hsub (p:=false) hk (uA c fun e=>by rw [e] at h2;simp at h2) (bit_lt (tv_lt16 tA c) h2) h1 (by show (tv (updT I k (f.A I k) k) c).testBit i=true;rw [updT,if_pos rfl];exact h2)
def tlOf (gs:List G):TL:=gs.foldl (fun s g=>mAdd s g.id g.spec) []
theorem tlOf_spec {gs:List G} (hg:∀ g∈gs,g.Ok):Tidy (tlOf gs)∧tv (tlOf gs)=ofGs gs:=by
 unfold tlOf ofGs
 have key:∀ (gs:List G) (s:TL),(∀ g∈gs,g.Ok)→Tidy s→Tidy (gs.foldl (fun s g=>mAdd s g.id g.spec) s)∧tv (gs.foldl (fun s g=>mAdd s g.id g.spec) s)=gs.foldl (fun F g=>orM F g.id g.spec) (tv s):=by
  intro gs
  induction gs with
  | nil=>exact fun s _ hs=>⟨hs,rfl⟩
  | cons g gs ih=>
   intro s hg hs
   have ok:=hg g (by simp)
   have h1:=ok.kind
   have h2:=ok.idx
   have h3:=ok.spec
   have:=ih (mAdd s g.id g.spec) (fun x hx=>hg x (by simp [hx])) (mAdd_tidy hs (by omega) (by unfold G.id;cases g.virt<;>simp<;>omega))
   rw [List.foldl_cons,List.foldl_cons,← tv_mAdd hs]
   exact this
 have:=key gs [] hg .nil
 exact this
end
section
open Go Go.RowKit Bth
set_option maxRecDepth 100000
theorem wp_storeRow {P:Program} {o:Oper} {a:Act} {w:World} {K:Act→World→Prop} {Q:Exit→Act→World→Prop} {ty:TypeId} {x y:Operand} (ho:o.op = .store ty x y)
  {b:Nat} {cells cs:Array Value} {t:TypeId} (hx:a.eval x = .pointer (some ⟨b,0,none⟩)) (hy:a.eval y = .agg cells) (hb:w.heap[b]? = some (.cells cs t (0,0))) (hl:cs.size=cells.size)
  (hi:(P.info? ty).map (·.size)=some cells.size) (h1:cells.all (·.oneCell')=true)
  (h:∀ w',w'.heap[b]? = some (.cells cells t (0,0))→Fr (fun x=>x=b) w w'→K (a.put o.dst undef) w'):Oper.wp P o a w K Q:=by
 refine wp_store_mid ty x y ho b 0 cells hx hy (fun j hj=>⟨?_,?_⟩) hi h1 (h _ ?_ (setCells_fr _ _ _ _ (Fr.refl _ _) (.inl rfl)))
 ·rw [cell_of_row w b _ _ _ (0,0) hb]
  simp;omega
 ·simp [World.frozen?,hb]
 ·have:=setCells_heap (b:=b) (t:=t) (fr:=(0,0)) cells.toList [] cs.toList w (by simpa using hl) (by simpa using hb)
  simpa using this
theorem put_sz {a a':Act} {x:Option Nat} {v:Value} (h:a.put x v=a') {n:Nat} (hz:a.tmps.size=n):a'.tmps.size=n:=by
 subst h;cases x<;>simpa [Act.put] using hz
theorem put_df {a a':Act} {x:Option Nat} {v:Value} (h:a.put x v=a') (hz:a.defers=[]):a'.defers=[]:=by
 subst h;cases x<;>exact hz
theorem put_keep {a a':Act} {x:Option Nat} {v:Value} (h:a.put x v=a') {d t:Nat} {u:Value} (hx:x=some d) (hn:d≠t) (hu:a.eval (.tmp t)=u):a'.eval (.tmp t)=u:=by
 subst h hx
 rw [← hu]
 simp only [Act.put,Act.eval,Array.getD_eq_getD_getElem?,Array.getElem?_setIfInBounds]
 rw [if_neg hn]
theorem put_new {a a':Act} {x:Option Nat} {v:Value} (h:a.put x v=a') {d:Nat} (hx:x=some d) (hd:d < a.tmps.size):a'.eval (.tmp d)=v:=by
 subst h hx
 rw [put_eval _ _ _ _ hd,if_pos rfl]
def GivesPI (w:World) (r:Rec) (e:Ending) (w':World):Prop:=
 Fr nope w w'∧∃ A1 c1 A2 c2 A3 c3 A4 c4 A5 c5,e = .returned (.agg #[.string r.i.opc,.slice A1 r.suf.length c1,.slice A2 r.ops.length c2,.slice A3 r.inp.length c3,.slice A4 r.out.length c4,.bool r.i.term,.bool r.i.br,.bool r.i.cond,.bool r.i.canc,.slice A5 r.isa.length c5]) ∧
  w'.ownsRow w.heap.size 9 1 (.slice A1 r.suf.length c1) r.suf.length (r.suf.map Value.string)∧w'.ownsRow w.heap.size 45 24 (.slice A2 r.ops.length c2) r.ops.length (opsCells r.ops) ∧
  w'.ownsRow w.heap.size 45 24 (.slice A3 r.inp.length c3) r.inp.length (opsCells r.inp)∧w'.ownsRow w.heap.size 45 24 (.slice A4 r.out.length c4) r.out.length (opsCells r.out) ∧
  w'.ownsRow w.heap.size 9 1 (.slice A5 r.isa.length c5) r.isa.length (r.isa.map Value.string)
structure RLens (r:Rec):Prop where
 suf:r.suf.length≤1048576
 ops:r.ops.length≤1048576
 inp:r.inp.length≤1048576
 out:r.out.length≤1048576
 isa:r.isa.length≤1048576
noncomputable def regI:Array Oper:=findReg 1 (Tryz.f60.body.getD .skip)
noncomputable def oPI (i:Nat):Oper:=opAt regI i
theorem regI_get {i:Nat} (h:Nat.blt i 47=true):regI[i]? = some (oPI i):=opAt_get (by kernel_rfl) h
set_option maxHeartbeats 2000000 in
theorem regionI {a0:Act} {w:World} {Q:Exit→Act→World→Prop} {S:World→Prop} {b c n1 d1 n2 d2 n3 d3 n4 d4 n5 d5:Nat} {B1 B2 B3 B4 B5:Option Addr} {opc:ByteArray} {t1 t2 t3 t4:Bool} {R1:Value→World→Prop} {R2:Value→Value→World→Prop} {R3:Value→Value→Value→World→Prop} {R4:Value→Value→Value→Value→World→Prop} {R5 R6:Value→Value→Value→Value→Value→World→Prop}
  (h0:Bun a0 49 [(0,.pointer (some ⟨b,0,none⟩)),(2,.pointer (some ⟨c,0,none⟩))]) (hQ:∀ d v c a w,Q (.panic c) (a.put d v) w→Q (.panic c) a w)
  (hS0:S w.drew) (l0:∀ w',S w'→w'.cell? ⟨b,0,none⟩=some (.string opc)) (l1:∀ w',S w'→w'.cell? ⟨b,1,none⟩=some (.slice B1 n1 d1)) (l2:∀ w',S w'→w'.cell? ⟨b,2,none⟩=some (.slice B2 n2 d2)) (l3:∀ w',S w'→w'.cell? ⟨b,3,none⟩=some (.slice B3 n3 d3)) (l4:∀ w',S w'→w'.cell? ⟨b,4,none⟩=some (.slice B4 n4 d4)) (l5:∀ w',S w'→w'.cell? ⟨b,5,none⟩=some (.bool t1)) (l6:∀ w',S w'→w'.cell? ⟨b,6,none⟩=some (.bool t2)) (l7:∀ w',S w'→w'.cell? ⟨b,7,none⟩=some (.bool t3)) (l8:∀ w',S w'→w'.cell? ⟨b,8,none⟩=some (.bool t4)) (l9:∀ w',S w'→w'.cell? ⟨b,9,none⟩=some (.slice B5 n5 d5))
  (h1:∀ a K,a.eval (.tmp 10) = .slice B1 n1 d1→(∀ x w',R1 x w'→S w'→K (a.put (oPI 8).dst x) w')→Oper.wp Tryz.prog (oPI 8) a w.drew K Q)
  (h2:∀ x1 w1,R1 x1 w1→Calls Tryz.prog 97 #[.slice B2 n2 d2] w1 fun e w'=>∃ x,e = .returned x∧R2 x1 x w'∧S w')
  (h3:∀ x1 x2 w2,R2 x1 x2 w2→Calls Tryz.prog 97 #[.slice B3 n3 d3] w2 fun e w'=>∃ x,e = .returned x∧R3 x1 x2 x w'∧S w')
  (h4:∀ x1 x2 x3 w3,R3 x1 x2 x3 w3→Calls Tryz.prog 97 #[.slice B4 n4 d4] w3 fun e w'=>∃ x,e = .returned x∧R4 x1 x2 x3 x w'∧S w')
  (h5:∀ x1 x2 x3 x4 w4 a K,R4 x1 x2 x3 x4 w4→a.eval (.tmp 46) = .slice B5 n5 d5→(∀ x w',R5 x1 x2 x3 x4 x w'→S w'→K (a.put (oPI 44).dst x) w')→Oper.wp Tryz.prog (oPI 44) a w4 K Q)
  (h6:∀ x1 x2 x3 x4 x5 w5 a K,R5 x1 x2 x3 x4 x5 w5→a.eval (.tmp 2) = .pointer (some ⟨c,0,none⟩)→a.eval (.tmp 48) = .agg #[.string opc,x1,x2,x3,x4,.bool t1,.bool t2,.bool t3,.bool t4,x5]→(∀ w',R6 x1 x2 x3 x4 x5 w'→S w'→K (a.put (oPI 46).dst undef) w')→Oper.wp Tryz.prog (oPI 46) a w5 K Q)
  (hsl:∀ x1 x2 x3 x4 x5 w,R5 x1 x2 x3 x4 x5 w→(∃ A n c,x1 = .slice A n c)∧(∃ A n c,x2 = .slice A n c)∧(∃ A n c,x3 = .slice A n c)∧(∃ A n c,x4 = .slice A n c)∧∃ A n c,x5 = .slice A n c)
  (h:∀ x1 x2 x3 x4 x5 w6 a,R6 x1 x2 x3 x4 x5 w6→a.eval (.tmp 2) = .pointer (some ⟨c,0,none⟩)→a.tmps.size=49→a.defers=[]→Q .normal a w6):(Code.region 1 regI true).wp Tryz.prog Q a0 w:=by
 refine wp_region_held_drew (S:=S) (by kernel_rfl) hS0 (fun hS0=>?_)
 rw [show regI.size=47 from by kernel_rfl]
 refine takeQ h0 hS0 hQ 0 3 0 130 9 0 _ _ (.string opc) (by unfold isB;refine ⟨?_,?_,?_,?_⟩<;>kernel_rfl) (by kernel_rfl) rfl (insFld b 0 (by decide)) (fun w hw=>by have hc:=l0 _ hw;go_simp) rfl fun a0 _ h0=>?_
 refine takeQ h0 hS0 hQ 4 7 0 130 35 1 _ _ (.slice B1 n1 d1) (by unfold isB;refine ⟨?_,?_,?_,?_⟩<;>kernel_rfl) (by kernel_rfl) rfl (insFld b 1 (by decide)) (fun w hw=>by have hc:=l1 _ hw;go_simp) rfl fun a0 _ h0=>?_
 refine takeQ h0 hS0 hQ 9 12 0 130 126 2 _ _ (.slice B2 n2 d2) (by unfold isB;refine ⟨?_,?_,?_,?_⟩<;>kernel_rfl) (by kernel_rfl) rfl (insFld b 2 (by decide)) (fun w hw=>by have hc:=l2 _ hw;go_simp) rfl fun a0 _ h0=>?_
 refine takeQ h0 hS0 hQ 14 17 0 130 126 3 _ _ (.slice B3 n3 d3) (by unfold isB;refine ⟨?_,?_,?_,?_⟩<;>kernel_rfl) (by kernel_rfl) rfl (insFld b 3 (by decide)) (fun w hw=>by have hc:=l3 _ hw;go_simp) rfl fun a0 _ h0=>?_
 refine takeQ h0 hS0 hQ 19 22 0 130 126 4 _ _ (.slice B4 n4 d4) (by unfold isB;refine ⟨?_,?_,?_,?_⟩<;>kernel_rfl) (by kernel_rfl) rfl (insFld b 4 (by decide)) (fun w hw=>by have hc:=l4 _ hw;go_simp) rfl fun a0 _ h0=>?_
 refine takeQ h0 hS0 hQ 24 27 0 130 4 5 _ _ (.bool t1) (by unfold isB;refine ⟨?_,?_,?_,?_⟩<;>kernel_rfl) (by kernel_rfl) rfl (insFld b 5 (by decide)) (fun w hw=>by have hc:=l5 _ hw;go_simp) rfl fun a0 _ h0=>?_
 refine takeQ h0 hS0 hQ 28 31 0 130 4 6 _ _ (.bool t2) (by unfold isB;refine ⟨?_,?_,?_,?_⟩<;>kernel_rfl) (by kernel_rfl) rfl (insFld b 6 (by decide)) (fun w hw=>by have hc:=l6 _ hw;go_simp) rfl fun a0 _ h0=>?_
 refine takeQ h0 hS0 hQ 32 35 0 130 4 7 _ _ (.bool t3) (by unfold isB;refine ⟨?_,?_,?_,?_⟩<;>kernel_rfl) (by kernel_rfl) rfl (insFld b 7 (by decide)) (fun w hw=>by have hc:=l7 _ hw;go_simp) rfl fun a0 _ h0=>?_
 refine takeQ h0 hS0 hQ 36 39 0 130 4 8 _ _ (.bool t4) (by unfold isB;refine ⟨?_,?_,?_,?_⟩<;>kernel_rfl) (by kernel_rfl) rfl (insFld b 8 (by decide)) (fun w hw=>by have hc:=l8 _ hw;go_simp) rfl fun a0 _ h0=>?_
 refine takeQ h0 hS0 hQ 40 43 0 130 35 9 _ _ (.slice B5 n5 d5) (by unfold isB;refine ⟨?_,?_,?_,?_⟩<;>kernel_rfl) (by kernel_rfl) rfl (insFld b 9 (by decide)) (fun w hw=>by have hc:=l9 _ hw;go_simp) rfl fun a0 _ h0=>?_
 refine wpAnyH_ready (rs:=[8]) (by kernel_rfl) (by simp) (AllReadyH.cons (o:=oPI 8) (regI_get rfl) (fun K hK=>?_) AllReadyH.nil)
 rw [if_pos (show Region.wanted (oPI 8) _=true from rfl)]
 refine h1 _ _ (h0.at_ 10 _ rfl) ?_
 intro x1 w1 r1 s1
 refine hK.out _ _ s1 (fun hS0=>?_)
 replace h0:=h0.put (x:=(oPI 8).dst) (by kernel_rfl) (d:=11) (by decide) x1
 refine wpAnyH_ready (rs:=[13]) (by kernel_rfl) (by simp) (AllReadyH.cons (o:=oPI 13) (regI_get rfl) (fun K hK=>?_) AllReadyH.nil)
 rw [if_pos (show Region.wanted (oPI 13) _=true from rfl)]
 refine wp_callU (show (oPI 13).op = .call { callee:=.value (.func 97),args:=#[.tmp 15],argTypes:=#[126] } from by kernel_rfl) Tryz.func97 (by kernel_rfl) (by kernel_rfl) ?_
 simp only [List.map_toArray,List.map_cons,List.map_nil,h0.at_ 15 _ rfl]
 refine (h2 x1 w1 r1).mono ?_
 rintro e w2 ⟨x2,rfl,r2,s2⟩
 refine hK.out _ _ s2 (fun hS0=>?_)
 replace h0:=h0.put (x:=(oPI 13).dst) (by kernel_rfl) (d:=16) (by decide) x2
 refine wpAnyH_ready (rs:=[18]) (by kernel_rfl) (by simp) (AllReadyH.cons (o:=oPI 18) (regI_get rfl) (fun K hK=>?_) AllReadyH.nil)
 rw [if_pos (show Region.wanted (oPI 18) _=true from rfl)]
 refine wp_callU (show (oPI 18).op = .call { callee:=.value (.func 97),args:=#[.tmp 20],argTypes:=#[126] } from by kernel_rfl) Tryz.func97 (by kernel_rfl) (by kernel_rfl) ?_
 simp only [List.map_toArray,List.map_cons,List.map_nil,h0.at_ 20 _ rfl]
 refine (h3 x1 x2 w2 r2).mono ?_
 rintro e w3 ⟨x3,rfl,r3,s3⟩
 refine hK.out _ _ s3 (fun hS0=>?_)
 replace h0:=h0.put (x:=(oPI 18).dst) (by kernel_rfl) (d:=21) (by decide) x3
 refine wpAnyH_ready (rs:=[23]) (by kernel_rfl) (by simp) (AllReadyH.cons (o:=oPI 23) (regI_get rfl) (fun K hK=>?_) AllReadyH.nil)
 rw [if_pos (show Region.wanted (oPI 23) _=true from rfl)]
 refine wp_callU (show (oPI 23).op = .call { callee:=.value (.func 97),args:=#[.tmp 25],argTypes:=#[126] } from by kernel_rfl) Tryz.func97 (by kernel_rfl) (by kernel_rfl) ?_
 simp only [List.map_toArray,List.map_cons,List.map_nil,h0.at_ 25 _ rfl]
 refine (h4 x1 x2 x3 w3 r3).mono ?_
 rintro e w4 ⟨x4,rfl,r4,s4⟩
 refine hK.out _ _ s4 (fun hS0=>?_)
 replace h0:=h0.put (x:=(oPI 23).dst) (by kernel_rfl) (d:=26) (by decide) x4
 refine wpAnyH_ready (rs:=[44]) (by kernel_rfl) (by simp) (AllReadyH.cons (o:=oPI 44) (regI_get rfl) (fun K hK=>?_) AllReadyH.nil)
 rw [if_pos (show Region.wanted (oPI 44) _=true from rfl)]
 refine h5 x1 x2 x3 x4 _ _ _ r4 (h0.at_ 46 _ rfl) ?_
 intro x5 w5 r5 s5
 refine hK.out _ _ s5 (fun hS0=>?_)
 replace h0:=h0.put (x:=(oPI 44).dst) (by kernel_rfl) (d:=47) (by decide) x5
 obtain ⟨⟨A1,m1,c1,rfl⟩,⟨A2,m2,c2,rfl⟩,⟨A3,m3,c3,rfl⟩,⟨A4,m4,c4,rfl⟩,⟨A5,m5,c5,rfl⟩⟩:=hsl _ _ _ _ _ _ r5
 refine takeB h0 hS0 hQ 45 48 _ (.agg #[.string opc,.slice A1 m1 c1,.slice A2 m2 c2,.slice A3 m3 c3,.slice A4 m4 c4,.bool t1,.bool t2,.bool t3,.bool t4,.slice A5 m5 c5]) (show isB regI 45 48 (.build 38 #[(0,Operand.tmp 6),(1,Operand.tmp 11),(2,Operand.tmp 16),(3,Operand.tmp 21),(4,Operand.tmp 26),(5,Operand.tmp 30),(6,Operand.tmp 34),(7,Operand.tmp 38),(8,Operand.tmp 42),(9,Operand.tmp 47)]) from by unfold isB;kernel_rfl) (by kernel_rfl) (fun o e w hw=>by
  simp only [execOp,e,List.map_toArray,List.map_cons,List.map_nil,h0.at_ 6 _ rfl,h0.at_ 11 _ rfl,h0.at_ 16 _ rfl,h0.at_ 21 _ rfl,h0.at_ 26 _ rfl,h0.at_ 30 _ rfl,h0.at_ 34 _ rfl,h0.at_ 38 _ rfl,h0.at_ 42 _ rfl,h0.at_ 47 _ rfl]
  go_simp) fun a0 _ h0=>?_
 refine wpAnyH_ready (rs:=[46]) (by kernel_rfl) (by simp) (AllReadyH.cons (o:=oPI 46) (regI_get rfl) (fun K hK=>?_) AllReadyH.nil)
 rw [if_pos (show Region.wanted (oPI 46) _=true from rfl)]
 refine h6 _ _ _ _ _ _ _ _ r5 (h0.at_ 2 _ rfl) (h0.at_ 48 _ rfl) ?_
 intro w6 r6 s6
 refine hK.out _ _ s6 (fun hS0=>?_)
 replace h0:=h0.skip (x:=(oPI 46).dst) (by kernel_rfl) undef
 exact wpAnyH_done (by kernel_rfl) (h _ _ _ _ _ _ _ r6 (h0.at_ 2 _ rfl) h0.sz h0.df) _
def OwS (lo:Nat) (l:List ByteArray) (x:Value) (w':World):Prop:=w'.ownsRow lo 9 1 x l.length (l.map Value.string)
def OwO (lo:Nat) (l:List O) (x:Value) (w':World):Prop:=w'.ownsRow lo 45 24 x l.length (opsCells l)
set_option maxHeartbeats 2000000 in
theorem plainInstr_calls (w:World) (r:Rec) (h:r.At w) (hn:RLens r):Calls Tryz.prog 60 #[ptr r.b] w (GivesPI w r):=by
 have hbl:=lt_of_heap h.own.at_
 obtain ⟨B1,d1,hB1,_,_⟩:=own_slice h.suf.2
 obtain ⟨B2,d2,hB2,_,_⟩:=own_slice h.own.ops
 obtain ⟨B3,d3,hB3,_,_⟩:=own_slice h.own.inp
 obtain ⟨B4,d4,hB4,_,_⟩:=own_slice h.own.out
 obtain ⟨B5,d5,hB5,_,_⟩:=own_slice h.isa.2
 have o1:=h.suf.2
 have o2:=h.own.ops
 have o3:=h.own.inp
 have o4:=h.own.out
 have o5:=h.isa.2
 rw [hB1] at o1
 rw [hB2] at o2
 rw [hB3] at o3
 rw [hB4] at o4
 rw [hB5] at o5
 unfold ptr
 go_enter Tryz.func60,Tryz.ntmps60
 go_wp2_with fail
 rename_i K hK
 obtain ⟨w0,hw0⟩:∃ w0:World,w0=w.alloc (.cells #[.string ⟨#[]⟩,.slice none 0 0,.slice none 0 0,.slice none 0 0,.slice none 0 0,.bool false,.bool false,.bool false,.bool false,.slice none 0 0] 38):=⟨_,rfl⟩
 rw [← hw0]
 have hf0:Fr nope w w0:=by rw [hw0];exact (Fr.refl _ _).alloc _
 have hc0:w0.heap[w.heap.size]? = some (.cells #[.string ⟨#[]⟩,.slice none 0 0,.slice none 0 0,.slice none 0 0,.slice none 0 0,.bool false,.bool false,.bool false,.bool false,.slice none 0 0] 38 (0,0)):=by rw [hw0];exact heap_alloc_new w _
 have hl0:w0.heap.size=w.heap.size+1:=by rw [hw0];simp
 clear hw0
 have hcell:∀ w',Fr (fun x=>x=w.heap.size) w0 w'→∀ j,w'.cell? ⟨r.b,j,none⟩=r.i.cells[j]?:=fun w' hf j=>cell_of_row _ _ j _ _ (0,0) (hf.heap (hf0.heap h.own.at_ (fun x=>x)) (by omega))
 have hlo:∀ {w':World},Fr nope w0 w'→w.heap.size+1≤w'.heap.size:=fun hf=>by have:=hf.size;omega
 have hcomp:∀ {W W':World},Fr nope w0 W→Fr (fun b=>(Value.slice none 0 0).ownBlock=some b) W W'→Fr nope w0 W':=fun h k=>h.then (k.mono (fun x _ h=>by simp [Value.ownBlock] at h))
 have hcomp':∀ {W W':World},Fr (fun b=>(Value.slice none 0 0).ownBlock=some b) W W'→Fr nope W W':=fun k=>k.mono (fun x _ h=>by simp [Value.ownBlock] at h)
 refine regionI (S:=fun w'=>Fr (fun x=>x=w.heap.size) w0 w') (b:=r.b) (c:=w.heap.size) (opc:=r.i.opc) (B1:=B1) (n1:=r.suf.length) (d1:=d1) (B2:=B2) (n2:=r.ops.length) (d2:=d2) (B3:=B3) (n3:=r.inp.length) (d3:=d3) (B4:=B4) (n4:=r.out.length) (d4:=d4) (B5:=B5) (n5:=r.isa.length) (d5:=d5) (t1:=r.i.term) (t2:=r.i.br) (t3:=r.i.cond) (t4:=r.i.canc)
  (R1:=fun x1 w'=>Fr nope w0 w'∧OwS (w.heap.size+1) r.suf x1 w')
  (R2:=fun x1 x2 w'=>Fr nope w0 w'∧OwS (w.heap.size+1) r.suf x1 w'∧OwO (w.heap.size+1) r.ops x2 w')
  (R3:=fun x1 x2 x3 w'=>Fr nope w0 w'∧OwS (w.heap.size+1) r.suf x1 w'∧OwO (w.heap.size+1) r.ops x2 w'∧OwO (w.heap.size+1) r.inp x3 w')
  (R4:=fun x1 x2 x3 x4 w'=>Fr nope w0 w'∧OwS (w.heap.size+1) r.suf x1 w'∧OwO (w.heap.size+1) r.ops x2 w'∧OwO (w.heap.size+1) r.inp x3 w'∧OwO (w.heap.size+1) r.out x4 w')
  (R5:=fun x1 x2 x3 x4 x5 w'=>Fr nope w0 w'∧OwS (w.heap.size+1) r.suf x1 w'∧OwO (w.heap.size+1) r.ops x2 w'∧OwO (w.heap.size+1) r.inp x3 w'∧OwO (w.heap.size+1) r.out x4 w'∧OwS (w.heap.size+1) r.isa x5 w')
  (R6:=fun x1 x2 x3 x4 x5 w'=>Fr (fun x=>x=w.heap.size) w0 w'∧w'.heap[w.heap.size]? = some (.cells #[.string r.i.opc,x1,x2,x3,x4,.bool r.i.term,.bool r.i.br,.bool r.i.cond,.bool r.i.canc,x5] 38 (0,0)) ∧
   OwS (w.heap.size+1) r.suf x1 w'∧OwO (w.heap.size+1) r.ops x2 w'∧OwO (w.heap.size+1) r.inp x3 w'∧OwO (w.heap.size+1) r.out x4 w'∧OwS (w.heap.size+1) r.isa x5 w')
  (((Bun.nil rfl rfl).cons 2 rfl).cons 0 rfl) (fun d _ _ _ _ h=>by cases d<;>simpa [Exit.inBlock,Exit.then,bodyPost,Act.put] using h) (Fr.refl _ _).drew
  (fun w' hw=>hcell w' hw 0) (fun w' hw=>(hcell w' hw 1).trans (congrArg some hB1)) (fun w' hw=>(hcell w' hw 2).trans (congrArg some hB2)) (fun w' hw=>(hcell w' hw 3).trans (congrArg some hB3)) (fun w' hw=>(hcell w' hw 4).trans (congrArg some hB4))
  (fun w' hw=>hcell w' hw 5) (fun w' hw=>hcell w' hw 6) (fun w' hw=>hcell w' hw 7) (fun w' hw=>hcell w' hw 8) (fun w' hw=>(hcell w' hw 9).trans (congrArg some hB5)) ?_ ?_ ?_ ?_ ?_ ?_ ?_ ?_
 ·intro a K f hK
  have hd:Fr nope w0 w0.drew:=(Fr.refl nope w0).drew
  refine wp_app (o:=oPI 8) rfl Tryz.underlying35 infoStr rfl (by omega) (v:=.slice none 0 0) rfl (own_nil _ (w.heap.size+1) _ _) f (news:=r.suf.map Value.string) (by simp) (Sl.src ((own_Sl o1).nope (hf0.then hd))) (by simp [Value.oneCell']) (by have:=hn.suf;unfold maxLen;omega) (by have:=hn.suf;omega) (hlo hd) ?_
  intro v w1 hown hf _
  have hf1:=hcomp hd hf
  rw [Nat.zero_add] at hown
  exact hK v w1 ⟨hf1,hown⟩ hf1.of_nope
 ·intro x1 w1 hR
  refine (plainOps_calls w1 r.ops B2 d2 ((own_Sl o2).nope (hf0.then hR.1)) (fun o ho=>(h.ats.1 o ho).nope (hf0.then hR.1)) hn.ops).mono ?_
  rintro e w2 ⟨hf,A,c,rfl,hown⟩
  have hf2:=hR.1.then hf
  exact ⟨_,rfl,⟨hf2,own_fr hR.2 hf (fun _ _ x=>x),own_le hown (hlo hR.1)⟩,hf2.of_nope⟩
 ·intro x1 x2 w1 hR
  refine (plainOps_calls w1 r.inp B3 d3 ((own_Sl o3).nope (hf0.then hR.1)) (fun o ho=>(h.ats.2.1 o ho).nope (hf0.then hR.1)) hn.inp).mono ?_
  rintro e w2 ⟨hf,A,c,rfl,hown⟩
  have hf2:=hR.1.then hf
  exact ⟨_,rfl,⟨hf2,own_fr hR.2.1 hf (fun _ _ x=>x),own_fr hR.2.2 hf (fun _ _ x=>x),own_le hown (hlo hR.1)⟩,hf2.of_nope⟩
 ·intro x1 x2 x3 w1 hR
  refine (plainOps_calls w1 r.out B4 d4 ((own_Sl o4).nope (hf0.then hR.1)) (fun o ho=>(h.ats.2.2 o ho).nope (hf0.then hR.1)) hn.out).mono ?_
  rintro e w2 ⟨hf,A,c,rfl,hown⟩
  have hf2:=hR.1.then hf
  exact ⟨_,rfl,⟨hf2,own_fr hR.2.1 hf (fun _ _ x=>x),own_fr hR.2.2.1 hf (fun _ _ x=>x),own_fr hR.2.2.2 hf (fun _ _ x=>x),own_le hown (hlo hR.1)⟩,hf2.of_nope⟩
 ·intro x1 x2 x3 x4 w1 a K hR f hK
  refine wp_app (o:=oPI 44) rfl Tryz.underlying35 infoStr rfl (by omega) (v:=.slice none 0 0) rfl (own_nil _ (w.heap.size+1) _ _) f (news:=r.isa.map Value.string) (by simp) (Sl.src ((own_Sl o5).nope (hf0.then hR.1))) (by simp [Value.oneCell']) (by have:=hn.isa;unfold maxLen;omega) (by have:=hn.isa;omega) (hlo hR.1) ?_
  intro v w2 hown hf _
  have hf1:=hcomp hR.1 hf
  have hf':=hcomp' hf
  rw [Nat.zero_add] at hown
  exact hK v w2 ⟨hf1,own_fr hR.2.1 hf' (fun _ _ x=>x),own_fr hR.2.2.1 hf' (fun _ _ x=>x),own_fr hR.2.2.2.1 hf' (fun _ _ x=>x),own_fr hR.2.2.2.2 hf' (fun _ _ x=>x),hown⟩ hf1.of_nope
 ·intro x1 x2 x3 x4 x5 w5 a K hR f2 f48 hK
  obtain ⟨A1,c1,rfl,_,_⟩:=own_slice hR.2.1
  obtain ⟨A2,c2,rfl,_,_⟩:=own_slice hR.2.2.1
  obtain ⟨A3,c3,rfl,_,_⟩:=own_slice hR.2.2.2.1
  obtain ⟨A4,c4,rfl,_,_⟩:=own_slice hR.2.2.2.2.1
  obtain ⟨A5,c5,rfl,_,_⟩:=own_slice hR.2.2.2.2.2
  refine wp_storeRow (o:=oPI 46) rfl f2 f48 (hR.1.heap hc0 (fun x=>x)) rfl (by kernel_rfl) (by simp [Value.oneCell']) ?_
  intro w6 hb hf
  have hs:∀ {e:TypeId} {size n:Nat} {v:Value} {xs:List Value},w5.ownsRow (w.heap.size+1) e size v n xs→w6.ownsRow (w.heap.size+1) e size v n xs:=fun ho=>own_fr ho hf (fun b hb e=>by have:=own_base ho b hb;omega)
  have hf6:=hR.1.of_nope.then hf
  exact hK w6 ⟨hf6,hb,hs hR.2.1,hs hR.2.2.1,hs hR.2.2.2.1,hs hR.2.2.2.2.1,hs hR.2.2.2.2.2⟩ hf6
 ·intro x1 x2 x3 x4 x5 w5 hR
  obtain ⟨A1,c1,rfl,_,_⟩:=own_slice hR.2.1
  obtain ⟨A2,c2,rfl,_,_⟩:=own_slice hR.2.2.1
  obtain ⟨A3,c3,rfl,_,_⟩:=own_slice hR.2.2.2.1
  obtain ⟨A4,c4,rfl,_,_⟩:=own_slice hR.2.2.2.2.1
  obtain ⟨A5,c5,rfl,_,_⟩:=own_slice hR.2.2.2.2.2
  exact ⟨⟨_,_,_,rfl⟩,⟨_,_,_,rfl⟩,⟨_,_,_,rfl⟩,⟨_,_,_,rfl⟩,⟨_,_,_,rfl⟩⟩
 ·intro x1 x2 x3 x4 x5 w6 a hR f2 z q
  obtain ⟨hf6,hb,g1,g2,g3,g4,g5⟩:=hR
  obtain ⟨A1,c1,rfl,_,_⟩:=own_slice g1
  obtain ⟨A2,c2,rfl,_,_⟩:=own_slice g2
  obtain ⟨A3,c3,rfl,_,_⟩:=own_slice g3
  obtain ⟨A4,c4,rfl,_,_⟩:=own_slice g4
  obtain ⟨A5,c5,rfl,_,_⟩:=own_slice g5
  refine hK _ _ (wp_ret ?_)
  refine bodyPost_ret (results_cell_row (fn:=Tryz.f60) rfl _ _ w.heap.size _ _ _ _ f2 hb Tryz.underlying38 rfl (by kernel_rfl)) q ?_
  exact ⟨hf0.then_new hf6 (fun x hx e=>by omega),A1,c1,A2,c2,A3,c3,A4,c4,A5,c5,rfl,own_le g1 (Nat.le_succ _),own_le g2 (Nat.le_succ _),own_le g3 (Nat.le_succ _),own_le g4 (Nat.le_succ _),own_le g5 (Nat.le_succ _)⟩
end
end Go.Proofs.YtpbeedabmjmdmaaGreatDoor
