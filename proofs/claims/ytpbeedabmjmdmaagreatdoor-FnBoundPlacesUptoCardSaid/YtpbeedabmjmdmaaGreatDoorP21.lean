/- Part of the proof of a statement about pub-berthage: what its texts have in common. -/
import Derived.Test.YtpbeedabmjmdmaaGreatDoorP16
import Derived.Test.YtpbeedabmjmdmaaGreatDoorP20
namespace Go.Proofs.YtpbeedabmjmdmaaGreatDoor
section
open Go Go.RowKit Go.MapKept Bth
set_option maxRecDepth 100000
def seqTail:Nat→Code→Code
 | 0,c=>c
 | n+1,.seq _ b=>seqTail n b
 | _,c=>c
noncomputable def arTail (n:Nat):Code:=seqTail n (Tryz.f46.body.getD .skip)
structure Ready (k:Nat) (x:Al):Prop where
 al:x.al=fun _=>none
 head:Bth.Head x.regs x.edges x.al x.edges x.poss
 fits:AlFits x
 regs:∀ r∈x.regs,isV r=false∧r < 4294967296
 kind:∀ v,x.poss v≠none→kindOf v=k
def ColorOf (x:Al) (r:Option (Nat→Option Nat)):Prop:=∃ rem,RemOf x.poss rem∧r=color x.regs x.edges (rem.length+1) rem x.al
def uni (D:List Nat) (fk:Nat→Nat→Option Nat) (v:Nat):Option Nat:=if kindOf v∈D then fk (kindOf v) v else none
def GivesAR (w:World) (fb:Nat) (f:Fn) (K:List Nat) (xs:Nat→Al) (e:Ending) (w':World):Prop:=
 Fr (fun b=>b=fb) w w'∧(((∃ k∈K,ColorOf (xs k) none)∧∃ T v,e = .returned (.iface T v)) ∨
  ∃ (fk:Nat→Nat→Option Nat) (b:Nat),(∀ k∈K,ColorOf (xs k) (some (fk k)))∧e = .returned .nilIface∧FnAt w' fb { f with al:=some b } ∧ IdMap w' b (uni K fk)∧w.heap.size≤b)
theorem ColorOf.kind {k:Nat} {x:Al} {f:Nat→Option Nat} (hr:Ready k x) (h:ColorOf x (some f)):∀ v,f v≠none→kindOf v=k:=by
 obtain ⟨rem,h1,h2⟩:=h
 intro v hv
 have h3:=(color_spec (rem.length+1) rem x.al f h1.nd h2.symm).2.1
 by_cases hm:v∈rem
 ·exact hr.kind v ((h1.mem v).1 hm)
 ·have:=h3 v hm
  rw [this,hr.al] at hv
  exact absurd rfl hv
theorem uni_step {D:List Nat} {fk:Nat→Nat→Option Nat} {k:Nat} (hk:k∉D) (f:Nat→Option Nat) (hf:∀ v,f v≠none→kindOf v=k):both (uni D fk) f=uni (D ++ [k]) (updF fk k f):=by
 funext v
 unfold both uni
 by_cases e:kindOf v=k
 ·rw [e,updF_self]
  simp only [List.mem_append,List.mem_singleton,or_true,if_true,if_neg hk]
  cases f v<;>rfl
 ·have:f v=none:=Classical.byContradiction fun h=>e (hf v h)
  rw [this,updF_ne _ _ e]
  simp [e]
set_option maxHeartbeats 4000000 in
theorem phE (w0 w:World) (mb fb:Nat) (f:Fn) (K:List Nat) (gs:Nat→AlG) (xs:Nat→Al) (Ps:Nat→Nat→Prop) {u1 u2 u4 u5 u6 u7 u8 u9 u10 u11 u12 u13 u14 u15 u16 u17 u18 u19 u20 u21 u22 u23 u24 u25 u26 u27 u28 u29 u30 u31 u32 u33 u34 u35 u36 u37 u38 u39 u40 u41 u42 u43 u44 u45 u46 u47 u48 u49 u50 u51 u52 u53 u54 u55 u56 u57 u58 u59 u60 u61 u62 u63 u64 u65 u66 u67 u68 u69 u70 u71 u72 u73 u74 u75 u76 u77 u78 u79 u80 u81 u82 u83 u84 u85 u86 u87 u88 u89 u90 u91 u92 u93 u94 u95 u96 u97 u98 u99 u100 u101 u102 u103 u104 u105 u106 u107 u108 u109 u110 u111 u112 u113 u114 u115 u116 u117 u118 u119 u120 u121 u122 u123 u124 u125 u126 u127 u128 u129 u130 u131 u132 u133 u134 u135 u136 u137 u138 u139 u140 u141 u142 u143 u144 u145 u146 u147 u148 u149 u150 u151 u152 u153 u154 u155 u156 u157 u158 u159 u160 u161 u162 u163 u164 u165 u166 u167 u168 u169 u170 u171 u172 u173 u174 u175 u176 u177 u178 u179 u180 u181 u182 u183 u184:Value} (hA:AS w0 w mb K gs xs Ps) (hfr:Fr nope w0 w) (hfn:FnAt w0 fb f) (hR:∀ k∈K,Ready k (xs k)):
  Code.wp Tryz.prog (arTail 6) (bodyPost Tryz.prog Tryz.f46 (GivesAR w0 fb f K xs)) ⟨#[.pointer (some ⟨fb,0,none⟩),u1,u2,.map (some mb),u4,u5,u6,u7,u8,u9,u10,u11,u12,u13,u14,u15,u16,u17,u18,u19,u20,u21,u22,u23,u24,u25,u26,u27,u28,u29,u30,u31,u32,u33,u34,u35,u36,u37,u38,u39,u40,u41,u42,u43,u44,u45,u46,u47,u48,u49,u50,u51,u52,u53,u54,u55,u56,u57,u58,u59,u60,u61,u62,u63,u64,u65,u66,u67,u68,u69,u70,u71,u72,u73,u74,u75,u76,u77,u78,u79,u80,u81,u82,u83,u84,u85,u86,u87,u88,u89,u90,u91,u92,u93,u94,u95,u96,u97,u98,u99,u100,u101,u102,u103,u104,u105,u106,u107,u108,u109,u110,u111,u112,u113,u114,u115,u116,u117,u118,u119,u120,u121,u122,u123,u124,u125,u126,u127,u128,u129,u130,u131,u132,u133,u134,u135,u136,u137,u138,u139,u140,u141,u142,u143,u144,u145,u146,u147,u148,u149,u150,u151,u152,u153,u154,u155,u156,u157,u158,u159,u160,u161,u162,u163,u164,u165,u166,u167,u168,u169,u170,u171,u172,u173,u174,u175,u176,u177,u178,u179,u180,u181,u182,u183,u184],[]⟩ w:=by
 have hfw:=hfr.heap hfn (fun x=>x)
 have hfl:=lt_of_heap hfw
 have hfl0:=lt_of_heap hfn
 conv=>arg 2;whnf
 have hc7:=FnAt.c7 hfw
 have hz7:=frozen_row hfw 7
 go_upto_region 49 with (go_at_call 57;refine (NewEmptyAl_calls _).mono ?_;rintro e w5 ⟨rfl,rfl⟩)
 have hPlt:∀ k∈K,∀ c,Ps k c→c < w.heap.size:=fun k hk c hc=>(hA.at_ k hk).lt c hc
 have hwsz:=hfr.size
 obtain ⟨W0,hW0⟩:∃ W0,W0=(w.setCell ⟨fb,7,none⟩ (.map (some w.heap.size))).alloc (.map #[] 0):=⟨_,rfl⟩
 have hs0:(w.setCell ⟨fb,7,none⟩ (.map (some w.heap.size))).heap.size=w.heap.size:=by simp [World.setCell]
 have hf0:Fr (fun b=>b=fb) w W0:=by rw [hW0];exact ((Fr.refl (fun b=>b=fb) w).setCell (.inl rfl) _).alloc _
 have hfn0:FnAt W0 fb { f with al:=some w.heap.size }:=by
  rw [hW0]
  exact ((Fr.refl nope _).alloc _).heap (setCell_heap hfw _) (fun x=>x)
 have hM0:IdMap W0 w.heap.size (uni [] fun _ _=>none):=by
  rw [hW0]
  refine ⟨[],?_⟩
  have:=MapAt.made (w.setCell ⟨fb,7,none⟩ (.map (some w.heap.size))) idV
  rw [hs0] at this
  exact this
 have hs1:W0.heap.size=w.heap.size+1:=by rw [hW0];simp [hs0]
 have hA0:=hA.keep hf0 (fun k hk c hc e=>by have:=(hA.new k hk c hc).1;omega) (fun e=>by have:=hA.mbn;omega)
 have hfr0:Fr (fun b=>b=fb) w0 W0:=hfr.of_nope.then hf0
 obtain ⟨ks,hmap⟩:=hA0.map
 have hks:∀ k,k∈ks↔k∈K:=fun k=>by rw [hmap.mem_iff];unfold asF;by_cases h:k∈K<;>simp [h]
 have hks0:=hmap.nodup
 have hat0:=hA0.at_
 have hnew:=hA.new
 have hapart:=hA.apart
 have hmbn:=hA.mbn
 have hmbl:=hA.lt
 rw [← hW0]
 replace hW0:=Lib.hid hW0
 replace hs0:=Lib.hid hs0
 clear hA hA0 hc7 hz7 hfn hfw hfr hf0
 go_wp2_with (refine wpList_rangeO rfl rfl rfl (show MapO W0 (some mb) kindV ks (asF K gs) from hmap) kindInj asT ?_;intro w1 hrg0 hf1 hsz1)
 go_frame
 have hs11:w1.heap.size=w.heap.size+2:=by rw [hsz1,hs1]
 rw [hs1] at hrg0 ⊢
 replace hs1:=Lib.hid hs1
 replace hsz1:=Lib.hid hsz1
 replace hs11:=Lib.hid hs11
 clear hmap
 replace hks:=Lib.hid hks
 go_loopg [] ks.length (fun n wr=>∃ (todo D:List Nat) (fk:Nat→Nat→Option Nat),RangeO wr (w.heap.size+1) (some mb) kindV ks (asF K gs) todo∧(∀ k∈todo,k∈K∧AlAt wr (Ps k) (xs k) (gs k))∧KInv ks todo D∧(∀ k∈D,ColorOf (xs k) (some (fk k)))∧IdMap wr w.heap.size (uni D fk)∧FnAt wr fb { f with al:=some w.heap.size } ∧ Fr (fun b=>b=fb) w0 wr∧w.heap.size+2≤wr.heap.size∧todo.length=n)
 case atStart=>exact ⟨ks,[],fun _ _=>none,hrg0,fun k hk=>⟨(hks.out k).1 hk,(hat0 k ((hks.out k).1 hk)).still hf1⟩,⟨hks0,List.nodup_nil,by simp,by simp⟩,by simp,hM0.fr hf1 (fun x=>x),hfn0.fr hf1 (fun x=>x),hfr0.then hf1.of_nope,Nat.le_of_eq hs11.out.symm,rfl⟩
 case round=>
  obtain ⟨todo,D,fk,hrg,hat,hI,hC,hM,hfn,hf,hsw,rfl⟩:=hrel
  go_wp2_with (refine wpList_nextO rfl rfl rfl hrg kindInj ?_ ?_)
  ·intro h0
   subst h0
   have hDK:∀ k,k∈D↔k∈K:=fun k=>by rw [← hks.out,hI.mem];simp
   have hun:uni D fk=uni K fk:=by
    funext v
    unfold uni
    simp only [hDK]
   replace hun:=Lib.hid hun
   clear hI hrg hat
   go_wp2
   go_ret
   exact ⟨hf,.inr ⟨fk,w.heap.size,fun k hk=>hC k ((hDK k).2 hk),rfl,hfn,by rw [← hun.out];exact hM,hwsz⟩⟩
  ·intro k v w2 hkt hkk hv hrg2 hf2 hs2 hen
   have hkK:=(hks.out k).1 hkk
   obtain rfl:v=ptr (gs k).a:=by
    unfold asF at hv
    rw [if_pos hkK] at hv
    exact (Option.some.inj hv).symm
   have hI1:=hI.step hkt
   have hkD:k∉D:=fun hh=>hI.ap k hh hkt
   have hlen:(todo.erase k).length < todo.length:=by rw [List.length_erase_of_mem hkt];have:=List.length_pos_of_mem hkt;omega
   have hr0:∀ j∈K,¬Ps j (w.heap.size+1):=fun j hj hp=>by have:=hPlt j hj _ hp;omega
   have hN0:∀ j∈K,¬Ps j w.heap.size:=fun j hj hp=>by have:=hPlt j hj _ hp;omega
   have hat2:∀ j∈todo,AlAt w2 (Ps j) (xs j) (gs j):=fun j hj=>((hat j hj).2).fr hf2 (fun c hc e=>hr0 j (hat j hj).1 (e ▸ hc))
   have hkA:=hat2 k hkt
   obtain ⟨rem,hrem⟩:∃ rem,RemOf (xs k).poss rem:=by
    obtain ⟨kq,sv,hm,_⟩:=hkA.poss
    exact ⟨kq,rem_ks hm⟩
   have hRk:=hR k hkK
   have hM2:IdMap w2 w.heap.size (uni D fk):=hM.fr hf2 (by omega)
   have hfn2:FnAt w2 fb { f with al:=some w.heap.size }:=hfn.fr hf2 (by omega)
   have hfr2:Fr (fun b=>b=fb) w0 w2:=hf.then_new hf2 (fun c hc e=>by omega)
   have hcall:=Allocate_calls w2 (Ps k) (xs k) (gs k) rem hkA hrem hRk.head hRk.fits hRk.regs
   unfold ptr at hen hcall
   unfold kindV at hen
   have hs2':w.heap.size+2≤w2.heap.size:=by omega
   replace hs2:=Lib.hid hs2
   clear hv hrg hat
   go_wp2_with fail
   refine hcall.mono ?_
   rintro e w3 ⟨hf3,⟨hn,T,y,rfl⟩ | ⟨g,ba,hg,rfl,hba,hwb⟩⟩
   ·have hcol:ColorOf (xs k) none:=⟨rem,hrem,hn.symm⟩
    have hfr3:Fr (fun b=>b=fb) w0 w3:=hfr2.then_new hf3 (fun c hc hp=>by have:=(hnew k hkK c hp).1;omega)
    replace hn:=Lib.hid hn
    go_wp2
    go_ret
    exact ⟨hfr3,.inl ⟨⟨k,hkK,hcol⟩,_,_,rfl⟩⟩
   ·have hcol:ColorOf (xs k) (some g):=⟨rem,hrem,hg.symm⟩
    have hgk:=hcol.kind hRk
    have hfr3:Fr (fun b=>b=fb) w0 w3:=hfr2.then_new hf3 (fun c hc hp=>by have:=(hnew k hkK c hp).1;omega)
    have hM3:IdMap w3 w.heap.size (uni D fk):=hM2.fr hf3 (hN0 k hkK)
    have hfn3:FnAt w3 fb { f with al:=some w.heap.size }:=hfn2.fr hf3 (fun hp=>by have:=(hnew k hkK _ hp).1;omega)
    have hbn:ba≠w.heap.size:=fun e=>by
     rcases hwb with hwb | hwb
     ·exact hN0 k hkK (e ▸ hwb)
     ·have:=hwb.1;omega
    have hmc:=Merge_calls w3 w.heap.size ba (uni D fk) g hM3 hba hbn (fun v hv=>by
     unfold uni
     rw [hgk v hv,if_neg hkD])
    rw [uni_step hkD g hgk] at hmc
    have hc73:=FnAt.c7 hfn3
    have hfl3:=lt_of_heap hfn3
    replace hg:=Lib.hid hg
    simp only at hc73
    clear hba hwb
    go_wp2_with (go_at_call 89;refine hmc.mono ?_;rintro e w4 ⟨rfl,hM4,hf4⟩)
    go_roundg (todo.erase k).length
    case measure=>exact hlen
    case rel=>
     refine ⟨_,D ++ [k],updF fk k g,(hrg2.fr hf3 (hr0 k hkK) (fun b hb hp=>?_)).fr hf4 (by omega) (fun b hb e=>by injection hb with hb;omega),fun j hj=>?_,hI1,fun j hj=>?_,hM4,hfn3.fr hf4 (by omega),hfr3.then_new hf4 (fun c hc e=>by omega),by have:=hf3.size;have:=hf4.size;omega,rfl⟩
     ·injection hb with hb
      subst hb
      exact (hnew k hkK _ hp).2 rfl
     ·have hjt:=List.mem_of_mem_erase hj
      have hjk:j≠k:=fun e=>by subst e;exact ((List.Nodup.mem_erase_iff hI.nd).1 hj).1 rfl
      have hjK:j∈K:=(hks.out j).1 ((hI.mem j).2 (.inr hjt))
      exact ⟨hjK,((hat2 j hjt).fr hf3 (fun c hc hp=>hapart j hjK k hkK hjk c hc hp)).fr hf4 (fun c hc e=>hN0 j hjK (e ▸ hc))⟩
     ·rcases List.mem_append.1 hj with hj | hj
      ·rw [updF_ne _ _ (fun e=>hkD (by rw [← e];exact hj))];exact hC j hj
      ·obtain rfl:j=k:=by simpa using hj
       rw [updF_self];exact hcol
end
section
open Go Go.RowKit Bth
set_option maxRecDepth 100000
def toldOf (A:Nat→Prop) (E:Nat × Nat→Prop) (v:Nat):Prop:=A v∨∃ e,E e∧(v=e.1∨v=e.2)
structure AOk (k:Nat) (x:Al) (A:Nat→Prop) (E:Nat × Nat→Prop):Prop where
 regs:x.regs=regsK k
 al:x.al=fun _=>none
 edges:∀ e,e∈x.edges↔E e
 list:∀ v l,x.poss v=some l→isV v=true∧toldOf A E v∧l=x.regs
 has:∀ v,isV v=true→toldOf A E v→x.poss v≠none
 kind:∀ v,toldOf A E v→kindOf v=k∧v < 4294967296
theorem regsFor_kind {k:Nat} (hk:k≤3) {x:Al} (h:x.regs=regsK k) {v:Nat} (hv:kindOf v=k):regsFor x v=x.regs:=by
 unfold regsFor
 rw [h]
 refine List.filter_eq_self.2 fun r hr=>?_
 have:=((regsK_facts k (by omega)).2.2.2.2.1 r hr).2.2
 rw [hv,this]
 simp
theorem AOk.congr {k:Nat} {x:Al} {A A':Nat→Prop} {E E':Nat × Nat→Prop} (h:AOk k x A E) (hE:∀ e,E' e↔E e) (hT:∀ v,toldOf A' E' v↔toldOf A E v):AOk k x A' E':=
 ⟨h.regs,h.al,fun e=>(h.edges e).trans (hE e).symm,fun v l hl=>⟨(h.list v l hl).1,(hT v).2 (h.list v l hl).2.1,(h.list v l hl).2.2⟩,fun v h1 h2=>h.has v h1 ((hT v).1 h2),fun v hv=>h.kind v ((hT v).1 hv)⟩
theorem AOk.add {k:Nat} (hk:k≤3) {x:Al} {A:Nat→Prop} {E:Nat × Nat→Prop} (h:AOk k x A E) {v:Nat} (hv:kindOf v=k) (h32:v < 4294967296):AOk k (addA x v) (fun u=>A u∨u=v) E:=by
 have hT:∀ u,toldOf (fun u=>A u∨u=v) E u↔toldOf A E u∨u=v:=fun u=>by unfold toldOf;constructor<;>intro hh<;>rcases hh with (hh | hh) | hh<;>simp_all
 have hal:(addA x v).al=x.al:=by unfold addA;split<;>rfl
 refine ⟨(addA_regs x v).trans h.regs,hal.trans h.al,by rw [addA_edges];exact h.edges,fun u l hu=>?_,fun u hu ht=>?_,fun u hu=>?_⟩
 ·rw [addA_regs]
  unfold addA at hu
  split at hu
  ·rename_i hc
   simp only [setL] at hu
   split at hu
   ·rename_i e
    subst e
    injection hu with hu
    exact ⟨by simp at hc;exact hc.1,(hT u).2 (.inr rfl),by rw [← hu];exact regsFor_kind hk h.regs hv⟩
   ·obtain ⟨g1,g2,g3⟩:=h.list u l hu
    exact ⟨g1,(hT u).2 (.inl g2),g3⟩
  ·obtain ⟨g1,g2,g3⟩:=h.list u l hu
   exact ⟨g1,(hT u).2 (.inl g2),g3⟩
 ·unfold addA
  split
  ·simp only [setL]
   split
   ·simp
   ·rename_i e
    exact h.has u hu (((hT u).1 ht).resolve_right e)
  ·rename_i hc
   by_cases e:u=v
   ·subst e
    simp only [hu,Bool.true_and] at hc
    intro hn
    rw [hn] at hc
    exact hc rfl
   ·exact h.has u hu (((hT u).1 ht).resolve_right e)
 ·rcases (hT u).1 hu with hu | rfl
  ·exact h.kind u hu
  ·exact ⟨hv,h32⟩
theorem AOk.addI {k:Nat} (hk:k≤3) {x:Al} {A:Nat→Prop} {E:Nat × Nat→Prop} (h:AOk k x A E) {a b:Nat} (ha:kindOf a=k) (ha2:a < 4294967296) (hb:kindOf b=k) (hb2:b < 4294967296):AOk k (addI x a b) A (fun e=>E e∨e=(a,b)):=by
 have h2:=(h.add hk ha ha2).add hk hb hb2
 have hT:∀ u,toldOf A (fun e=>E e∨e=(a,b)) u↔toldOf (fun u=>(A u∨u=a)∨u=b) E u:=fun u=>by
  unfold toldOf
  constructor
  ·rintro (hh | ⟨e,he | rfl,hu⟩)
   ·exact .inl (.inl (.inl hh))
   ·exact .inr ⟨e,he,hu⟩
   ·rcases hu with rfl | rfl
    ·exact .inl (.inl (.inr rfl))
    ·exact .inl (.inr rfl)
  ·rintro (((hh | rfl) | rfl) | ⟨e,he,hu⟩)
   ·exact .inl hh
   ·exact .inr ⟨(u,b),.inr rfl,.inl rfl⟩
   ·exact .inr ⟨(a,u),.inr rfl,.inr rfl⟩
   ·exact .inr ⟨e,.inl he,hu⟩
 have he:(Go.Proofs.YtpbeedabmjmdmaaGreatDoor.addI x a b).edges=x.edges ++ [(a,b)]:=rfl
 refine ⟨h2.regs,h2.al,fun e=>?_,fun v l hl=>?_,fun v h1 ht=>h2.has v h1 ((hT v).1 ht),fun v hv=>h2.kind v ((hT v).1 hv)⟩
 ·rw [he,List.mem_append,h.edges];simp
 ·obtain ⟨g1,g2,g3⟩:=h2.list v l hl
  exact ⟨g1,(hT v).2 g2,g3⟩
theorem AOk.addIs {k:Nat} (hk:k≤3) {d:Nat} (hd:kindOf d=k) (hd2:d < 4294967296):∀ (D:List Nat) {x:Al} {A:Nat→Prop} {E:Nat × Nat→Prop},AOk k x A E→(∀ c∈D,kindOf c=k∧c < 4294967296) →
  AOk k (addIs x d D) A (fun e=>E e∨∃ c∈D,e=(d,c)):=by
 intro D
 induction D with
 | nil=>intro x A E h _;exact h.congr (fun e=>by simp) (fun v=>by unfold toldOf;simp)
 | cons c D ih=>
  intro x A E h hD
  obtain ⟨h1,h2⟩:=hD c (by simp)
  have:=ih (h.addI hk hd hd2 h1 h2) (fun b hb=>hD b (by simp [hb]))
  refine AOk.congr (x:=Go.Proofs.YtpbeedabmjmdmaaGreatDoor.addIs x d (c :: D)) this (fun e=>?_) (fun v=>?_)
  ·simp only [List.mem_cons]
   constructor
   ·rintro (hh | ⟨b,rfl | hb,rfl⟩)
    ·exact .inl (.inl hh)
    ·exact .inl (.inr rfl)
    ·exact .inr ⟨b,hb,rfl⟩
   ·rintro ((hh | rfl) | ⟨b,hb,rfl⟩)
    ·exact .inl hh
    ·exact .inr ⟨c,.inl rfl,rfl⟩
    ·exact .inr ⟨b,.inr hb,rfl⟩
  ·have hE:∀ e,(E e∨∃ b∈c :: D,e=(d,b))↔((E e∨e=(d,c))∨∃ b∈D,e=(d,b)):=fun e=>by
    simp only [List.mem_cons]
    constructor
    ·rintro (hh | ⟨b,rfl | hb,rfl⟩)
     ·exact .inl (.inl hh)
     ·exact .inl (.inr rfl)
     ·exact .inr ⟨b,hb,rfl⟩
    ·rintro ((hh | rfl) | ⟨b,hb,rfl⟩)
     ·exact .inl hh
     ·exact .inr ⟨c,.inl rfl,rfl⟩
     ·exact .inr ⟨b,.inr hb,rfl⟩
   unfold toldOf
   simp only [hE]
theorem AOk.ready {k:Nat} (hk:k≤3) {x:Al} {A:Nat→Prop} {E:Nat × Nat→Prop} (h:AOk k x A E) (hl:x.edges.length≤8796093022208):Ready k x:=by
 obtain ⟨_,_,_,_,hf,hlen,_⟩:=regsK_facts k (by omega)
 have hreg:∀ r∈x.regs,isV r=false∧r < 4294967296:=fun r hr=>by
  rw [h.regs] at hr
  exact ⟨(hf r hr).1,(hf r hr).2.1⟩
 have hend:∀ e∈x.edges,toldOf A E e.1∧toldOf A E e.2:=fun e he=>⟨.inr ⟨e,(h.edges e).1 he,.inl rfl⟩,.inr ⟨e,(h.edges e).1 he,.inr rfl⟩⟩
 refine ⟨h.al,?_,⟨fun e he=>⟨(h.kind _ (hend e he).1).2,(h.kind _ (hend e he).2).2⟩,fun v p hv=>(by rw [h.al] at hv;cases hv),fun v l hv=>?_,hl⟩,hreg,fun v hv=>?_⟩
 ·rw [h.al]
  exact Head.start (fun r hr=>(hreg r hr).1) (fun v l hv=>⟨(h.list v l hv).1,(h.list v l hv).2.2⟩) (fun e he=>⟨fun h1=>h.has _ h1 (hend e he).1,fun h1=>h.has _ h1 (hend e he).2⟩)
 ·rw [(h.list v l hv).2.2,h.regs];omega
 ·cases hp:x.poss v with
  | none=>exact absurd hp hv
  | some l=>exact (h.kind v (h.list v l hp).2.1).1
def hits (F:Nat→Nat) (d:R) (c:Nat):Prop:=c≠d.id∧kindOf c=d.kind∧F c &&& d.spec≠0
def EP (rs:List Rec) (V:Nat→Nat→Nat) (i j k:Nat) (e:Nat × Nat):Prop:=∃ i' r d,rs[i']? = some r∧((i' < i∧d∈outRegs r.out)∨(i'=i∧d∈(outRegs r.out).take j))∧d.kind=k∧e.1=d.id∧hits (V i') d e.2
def EAll (rs:List Rec) (V:Nat→Nat→Nat) (k:Nat) (e:Nat × Nat):Prop:=∃ (i':Nat) (r:Rec) (d:R),rs[i']? = some r∧d∈outRegs r.out∧d.kind=k∧e.1=d.id∧hits (V i') d e.2
theorem EP.start (rs:List Rec) (V:Nat→Nat→Nat) (k:Nat) (e:Nat × Nat):¬EP rs V 0 0 k e:=by
 rintro ⟨i',r,d,_,⟨h,_⟩ | ⟨_,h⟩,_⟩
 ·omega
 ·simp at h
theorem EP.done {rs:List Rec} {V:Nat→Nat→Nat} {k:Nat} {e:Nat × Nat} : EP rs V rs.length 0 k e↔EAll rs V k e:=by
 constructor
 ·rintro ⟨i',r,d,h1,⟨_,h⟩ | ⟨_,h⟩,h3⟩
  ·exact ⟨i',r,d,h1,h,h3⟩
  ·simp at h
 ·rintro ⟨i',r,d,h1,h,h3⟩
  exact ⟨i',r,d,h1,.inl ⟨(List.getElem?_eq_some_iff.1 h1).1,h⟩,h3⟩
theorem EP.row {rs:List Rec} {V:Nat→Nat→Nat} {i k:Nat} {r:Rec} (hr:rs[i]? = some r) {e:Nat × Nat} : EP rs V i (outRegs r.out).length k e↔EP rs V (i+1) 0 k e:=by
 constructor
 ·rintro ⟨i',r',d,h1,⟨h,h2⟩ | ⟨rfl,h2⟩,h3⟩
  ·exact ⟨i',r',d,h1,.inl ⟨by omega,h2⟩,h3⟩
  ·rw [hr] at h1
   injection h1 with h1
   subst h1
   exact ⟨i',r,d,hr,.inl ⟨by omega,by simpa using h2⟩,h3⟩
 ·rintro ⟨i',r',d,h1,⟨h,h2⟩ | ⟨_,h2⟩,h3⟩
  ·by_cases e:i'=i
   ·subst e
    rw [hr] at h1
    injection h1 with h1
    subst h1
    exact ⟨i',r,d,hr,.inr ⟨rfl,by simpa using h2⟩,h3⟩
   ·exact ⟨i',r',d,h1,.inl ⟨by omega,h2⟩,h3⟩
  ·simp at h2
theorem EP.step {rs:List Rec} {V:Nat→Nat→Nat} {i j k:Nat} {r:Rec} {d:R} (hr:rs[i]? = some r) (hd:(outRegs r.out)[j]? = some d) {e:Nat × Nat} : EP rs V i (j+1) k e↔EP rs V i j k e∨(d.kind=k∧e.1=d.id∧hits (V i) d e.2):=by
 constructor
 ·rintro ⟨i',r',d',h1,⟨h,h2⟩ | ⟨rfl,h2⟩,h3⟩
  ·exact .inl ⟨i',r',d',h1,.inl ⟨h,h2⟩,h3⟩
  ·rw [hr] at h1
   injection h1 with h1
   subst h1
   rw [List.take_add_one,hd] at h2
   rcases List.mem_append.1 h2 with h2 | h2
   ·exact .inl ⟨i',r,d',hr,.inr ⟨rfl,h2⟩,h3⟩
   ·obtain rfl:d'=d:=by simpa using h2
    exact .inr h3
 ·rintro (⟨i',r',d',h1,⟨h,h2⟩ | ⟨rfl,h2⟩,h3⟩ | h3)
  ·exact ⟨i',r',d',h1,.inl ⟨h,h2⟩,h3⟩
  ·rw [hr] at h1
   injection h1 with h1
   subst h1
   exact ⟨i',r,d',hr,.inr ⟨rfl,by rw [List.take_add_one];exact List.mem_append_left _ h2⟩,h3⟩
  ·exact ⟨i,r,d,hr,.inr ⟨rfl,by rw [List.take_add_one,hd];simp⟩,h3⟩
def outsN (rs:List Rec) (i:Nat):Nat:=((rs.take i).map fun r=>(outRegs r.out).length).sum
theorem outsN_step {rs:List Rec} {i:Nat} {r:Rec} (h:rs[i]? = some r):outsN rs (i+1)=outsN rs i+(outRegs r.out).length:=by
 unfold outsN
 rw [List.take_add_one,h,List.map_append,List.sum_append]
 simp
theorem outsN_le {rs:List Rec} {i:Nat} : outsN rs i≤outsN rs rs.length:=by
 unfold outsN
 have e:rs.take rs.length=rs.take i ++ rs.drop i:=by rw [List.take_length,List.take_append_drop]
 rw [e,List.map_append,List.sum_append]
 omega
theorem toldOf_congr {A:Nat→Prop} {E E':Nat × Nat→Prop} (h:∀ e,E' e↔E e) (v:Nat):toldOf A E' v↔toldOf A E v:=by unfold toldOf;simp only [h]
theorem R.kind_id {r:R} (ok:r.Ok):kindOf r.id=r.kind:=by
 have:=ok.kind
 have:=ok.idx
 unfold kindOf R.id
 split<;>omega
end
section
open Go Go.RowKit Go.MapKept Bth
set_option maxRecDepth 100000
theorem bodyPost_mono {P:Program} {fn:Func} {R R':Ending→World→Prop} (h:∀ e w,R e w→R' e w):∀ x a w,bodyPost P fn R x a w→bodyPost P fn R' x a w:=by
 intro x a w hb
 cases x
 all_goals first
  | exact hb.elim
  | (obtain ⟨h1,v,h2,h3⟩:=hb;exact ⟨h1,v,h2,h _ _ h3⟩)
  | (obtain ⟨h1,h3⟩:=hb;exact ⟨h1,h _ _ h3⟩)
  | exact h _ _ hb
  | exact hb
def GivesRA (w:World) (fb:Nat) (f:Fn) (kinds:Nat→Prop) (A:Nat→Nat→Prop) (E:Nat→Nat × Nat→Prop) (e:Ending) (w':World):Prop:=
 ∃ (K:List Nat) (xs:Nat→Al),(∀ k,k∈K↔kinds k)∧(∀ k∈K,AOk k (xs k) (A k) (E k))∧GivesAR w fb f K xs e w'
theorem GivesRA.of {w:World} {fb:Nat} {f:Fn} {kinds:Nat→Prop} {A:Nat→Nat→Prop} {E:Nat→Nat × Nat→Prop} {K:List Nat} {xs:Nat→Al} (hK:∀ k,k∈K↔kinds k) (hx:∀ k∈K,AOk k (xs k) (A k) (E k)) {n:Nat} {a:Act} {w1:World}
  (h:Code.wp Tryz.prog (arTail n) (bodyPost Tryz.prog Tryz.f46 (GivesAR w fb f K xs)) a w1):
  Code.wp Tryz.prog (arTail n) (bodyPost Tryz.prog Tryz.f46 (GivesRA w fb f kinds A E)) a w1:=
 Code.wp_mono (bodyPost_mono fun _ _ hh=>⟨K,xs,hK,hx,hh⟩) h
structure ARIn (w0:World) (fs:Nat→Option Nat) (ns:List PN) (fb:Nat) (f:Fn) (nds:List Nd) (rs:List Rec) (cms:List (Nat × List ByteArray)) (mm:Bool→Nat→Nat) (V:Sets) (U:List Nat):Prop where
 st:FState w0 fs ns fb f nds rs cms
 lv:Lv w0 rs mm V
 nl:nds.length≤1048576
 ol:∀ r∈rs,r.out.length≤1048576∧r.ops.length≤1048576
 kinds:∀ r∈rs,∀ d∈regsOf r.ops,d.kind≤3
 outs:∀ r∈rs,∀ d∈outRegs r.out,∃ r'∈rs,∃ d'∈regsOf r'.ops,d'.kind=d.kind
 ids:∀ i c,i < rs.length→V true i c≠0→c∈U∧c < 4294967296
 few:(outsN rs rs.length+1)*U.length≤8796093022208
theorem ARIn.len {w0:World} {fs:Nat→Option Nat} {ns:List PN} {fb:Nat} {f:Fn} {nds:List Nd} {rs:List Rec} {cms:List (Nat × List ByteArray)} {mm:Bool→Nat→Nat} {V:Sets} {U:List Nat} (h:ARIn w0 fs ns fb f nds rs cms mm V U):rs.length≤1048576:=by
 have:=h.st.mt.insOf
 have h2:=insOf_le nds
 rw [this,List.length_map] at h2
 exact Nat.le_trans h2 h.nl
theorem ARIn.instrs {w0:World} {fs:Nat→Option Nat} {ns:List PN} {fb:Nat} {f:Fn} {nds:List Nd} {rs:List Rec} {cms:List (Nat × List ByteArray)} {mm:Bool→Nat→Nat} {V:Sets} {U:List Nat} (h:ARIn w0 fs ns fb f nds rs cms mm V U) (w:World) (hf:Fr nope w0 w):
  Calls Tryz.prog 58 #[.pointer (some ⟨fb,0,none⟩)] w (GivesOwn w 115 ((rs.map (·.b)).map ptr)):=by
 obtain ⟨A,c,hnn,_,_⟩:=own_slice h.st.nodes
 have hc5:=h.st.fn.c5
 rw [hnn] at hc5
 have hSn:Sl w0 A nds.length (nds.map Nd.val):=by have h:=h.st.nodes;rw [hnn] at h;exact own_Sl h
 have:=Instructions_calls w fb A c nds (hf.cell hc5 (fun x=>x)) (hSn.nope hf) (by have:=h.nl;omega)
 rw [h.st.mt.insOf] at this
 exact this
def kindsOf (rs:List Rec) (k:Nat):Prop:=∃ r∈rs,∃ d∈regsOf r.ops,d.kind=k
theorem hits_drop {F:Nat→Nat} {d:R} (c:Nat):dropM (fun c=>if kindOf c=d.kind then F c else 0) d.id d.spec c &&& d.spec≠0↔hits F d c:=by
 unfold dropM hits
 by_cases e:c=d.id
 ·subst e
  simp only [if_true,ne_eq,not_true_eq_false,false_and,iff_false,Classical.not_not]
  apply Nat.eq_of_testBit_eq
  intro i
  rw [Nat.testBit_and,andn_testBit]
  cases h:d.spec.testBit i<;>simp
 ·rw [if_neg e]
  by_cases hk:kindOf c=d.kind<;>simp [hk,e]
set_option maxHeartbeats 4000000 in
theorem phD (w0 w:World) (fs:Nat→Option Nat) (ns:List PN) (fb:Nat) (f:Fn) (nds:List Nd) (rs:List Rec) (cms:List (Nat × List ByteArray)) (mm:Bool→Nat→Nat) (V:Sets) (U:List Nat) (hin:ARIn w0 fs ns fb f nds rs cms mm V U)
  (mb:Nat) (K:List Nat) (gs:Nat→AlG) (xs:Nat→Al) (Ps:Nat→Nat→Prop) (A:Nat→Nat→Prop) {u1 u2 u4 u5 u6 u7 u8 u9 u10 u11 u12 u13 u14 u15 u16 u17 u18 u19 u20 u21 u22 u23 u24 u25 u26 u27 u28 u29 u30 u31 u32 u33 u34 u35 u36 u37 u38 u39 u40 u41 u42 u43 u44 u45 u46 u47 u48 u49 u50 u51 u52 u53 u54 u55 u56 u57 u58 u59 u60 u61 u62 u63 u64 u65 u66 u67 u68 u69 u70 u71 u72 u73 u74 u75 u76 u77 u78 u79 u80 u81 u82 u83 u84 u85 u86 u87 u88 u89 u90 u91 u92 u93 u94 u95 u96 u97 u98 u99 u100 u101 u102 u103 u104 u105 u106 u107 u108 u109 u110 u111 u112 u113 u114 u115 u116 u117 u118 u119 u120 u121 u122 u123 u124 u125 u126 u127 u128 u129 u130 u131 u132 u133 u134 u135 u136 u137 u138 u139 u140 u141 u142 u143 u144 u145 u146 u147 u148 u149 u150 u151 u152 u153 u154 u155 u156 u157 u158 u159 u160 u161 u162 u163 u164 u165 u166 u167 u168 u169 u170 u171 u172 u173 u174 u175 u176 u177 u178 u179 u180 u181 u182 u183 u184:Value} (hA:AS w0 w mb K gs xs Ps) (hfr:Fr nope w0 w) (hK:∀ k,k∈K↔kindsOf rs k)
  (hR:∀ k∈K,AOk k (xs k) (A k) (fun _=>False)∧(xs k).edges=[]):
  Code.wp Tryz.prog (arTail 5) (bodyPost Tryz.prog Tryz.f46 (GivesRA w0 fb f (kindsOf rs) A (EAll rs (V true)))) ⟨#[.pointer (some ⟨fb,0,none⟩),u1,u2,.map (some mb),u4,u5,u6,u7,u8,u9,u10,u11,u12,u13,u14,u15,u16,u17,u18,u19,u20,u21,u22,u23,u24,u25,u26,u27,u28,u29,u30,u31,u32,u33,u34,u35,u36,u37,u38,u39,u40,u41,u42,u43,u44,u45,u46,u47,u48,u49,u50,u51,u52,u53,u54,u55,u56,u57,u58,u59,u60,u61,u62,u63,u64,u65,u66,u67,u68,u69,u70,u71,u72,u73,u74,u75,u76,u77,u78,u79,u80,u81,u82,u83,u84,u85,u86,u87,u88,u89,u90,u91,u92,u93,u94,u95,u96,u97,u98,u99,u100,u101,u102,u103,u104,u105,u106,u107,u108,u109,u110,u111,u112,u113,u114,u115,u116,u117,u118,u119,u120,u121,u122,u123,u124,u125,u126,u127,u128,u129,u130,u131,u132,u133,u134,u135,u136,u137,u138,u139,u140,u141,u142,u143,u144,u145,u146,u147,u148,u149,u150,u151,u152,u153,u154,u155,u156,u157,u158,u159,u160,u161,u162,u163,u164,u165,u166,u167,u168,u169,u170,u171,u172,u173,u174,u175,u176,u177,u178,u179,u180,u181,u182,u183,u184],[]⟩ w:=by
 conv=>arg 2;whnf
 have hrl:=hin.len
 have hfl:=Nat.lt_of_lt_of_le (lt_of_heap hin.st.fn) hfr.size
 have hI:=hin.instrs w hfr
 go_wp2_with fail
 refine hI.mono ?_
 rintro e w1 ⟨v,rfl,hown,hf1⟩
 simp only [List.length_map] at hown
 obtain ⟨A1,c1,rfl,_,_⟩:=own_slice hown
 have hA1:=hA.still hf1
 have hSl:=own_Sl hown
 rw [List.map_map] at hSl
 go_wp2
 have hbase:=own_base hown
 have hlt1:=own_lt hown
 replace hbase:=Lib.hid hbase
 replace hlt1:=Lib.hid hlt1
 have hw1:=hfr.then hf1
 have hPs0:∀ k∈K,∀ c,Ps k c→c < w.heap.size:=fun k hk c hc=>(hA.at_ k hk).lt c hc
 go_loopg [126] rs.length (fun n c126 wr=>∃ (i:Nat) (gs':Nat→AlG) (xs':Nat→Al) (Ps':Nat→Nat→Prop),i≤rs.length∧c126 = .int .i64 (i:Int)∧AS w0 wr mb K gs' xs' Ps'∧(∀ k∈K,∀ c,Ps' k c→Ps k c∨w1.heap.size≤c) ∧
  (∀ k∈K,AOk k (xs' k) (A k) (EP rs (V true) i 0 k)∧(xs' k).edges.length≤outsN rs i*U.length)∧Sl wr A1 rs.length (List.map (ptr ∘ fun x=>x.b) rs)∧w1.heap.size≤wr.heap.size∧Fr nope w0 wr∧n=rs.length - i)
 case atStart=>
  refine ⟨0,gs,xs,Ps,Nat.zero_le _,rfl,hA1,fun k hk c hc=>.inl hc,fun k hk=>⟨(hR k hk).1.congr (fun e=>⟨fun h=>EP.start rs _ k e h,fun h=>h.elim⟩) (toldOf_congr fun e=>⟨fun h=>EP.start rs _ k e h,fun h=>h.elim⟩),by rw [(hR k hk).2];exact Nat.zero_le _⟩,hSl,Nat.le_refl _,hw1,rfl⟩
 case round=>
  obtain ⟨i,gs',xs',Ps',hi,rfl,hAS,hPs,hX,hSr,hsz,hf,rfl⟩:=hrel
  by_cases hlt:i < rs.length
  ·obtain ⟨b0,off,u,hA1e,hbl,hu,hc⟩:=hSr.at_ hlt
   rw [List.getElem?_map] at hu
   obtain ⟨r,hr,rfl⟩:=Option.map_eq_some_iff.1 hu
   have hrm:=List.mem_of_getElem? hr
   have hrA0:=(hin.st.recs r hrm).1
   have hrA:=hrA0.nope hf
   have hb:=hrA.own.at_
   have hbl2:=lt_of_heap hb
   have hy:=hrA.outAt
   have hol:=(hin.ol r hrm).1
   have hOut:=OutputRegisters_own wr r.i r.out hy (by omega)
   have hOl:(outRegs r.out).length≤r.out.length:=List.length_filterMap_le _ _
   have hlo:=hin.lv.at_ i r hr
   have hMk:=(hin.lv.mask true i hlt)
   simp only [Function.comp,ptr] at hc
   have hstep:=outsN_step hr
   have hst2:=outsN_le (rs:=rs) (i:=i+1)
   have hfew:=hin.few
   replace hr:=Lib.hid hr
   replace hlo:=Lib.hid hlo
   replace hfew:=Lib.hid hfew
   replace hstep:=Lib.hid hstep
   replace hst2:=Lib.hid hst2
   obtain ⟨wo,rfl⟩:∃ wo:World,wo=wr:=⟨_,rfl⟩
   clear hu
   subst hA1e
   go_wp2_with (first
    | (refine wpList_loadRow (b:=r.b) rfl rfl rfl hb Tryz.underlying130 rfl (by kernel_rfl) ?_)
    | (go_at_call 78;refine hOut.mono ?_;rintro e w2 ⟨A2,c2,rfl,hO2,hR2,hf2⟩))
   have hb2:=own_base hO2
   have hl2:=own_lt hO2
   have hb0:=hbase.out b0 rfl
   have hl0:=hlt1.out b0 rfl
   have hsz2:=hf2.size
   have hAS2:=hAS.still hf2
   have hPs2:∀ k∈K,∀ c,Ps' k c→Ps k c∨(w1.heap.size≤c∧c < wo.heap.size):=fun k hk c hc=>(hPs k hk c hc).imp id fun h=>⟨h,(hAS.at_ k hk).lt c hc⟩
   have hSO:=own_Sl hO2
   replace hb2:=Lib.hid hb2
   replace hl2:=Lib.hid hl2
   go_loopg [135] (outRegs r.out).length (fun n c135 wr=>∃ (j:Nat) (gs':Nat→AlG) (xs':Nat→Al) (Ps':Nat→Nat→Prop),j≤(outRegs r.out).length∧c135 = .int .i64 (j:Int)∧AS w0 wr mb K gs' xs' Ps'∧(∀ k∈K,∀ c,Ps' k c→Ps k c∨(w1.heap.size≤c∧(c < wo.heap.size∨w2.heap.size≤c))) ∧
    (∀ k∈K,AOk k (xs' k) (A k) (EP rs (V true) i j k)∧(xs' k).edges.length≤(outsN rs i+j)*U.length)∧Sl wr (some ⟨b0,off,none⟩) rs.length (List.map (ptr ∘ fun x=>x.b) rs)∧Sl wr A2 (outRegs r.out).length ((outRegs r.out).map R.val)∧w2.heap.size≤wr.heap.size∧Fr nope w0 wr∧n=(outRegs r.out).length - j)
   case atStart=>exact ⟨0,gs',xs',Ps',Nat.zero_le _,rfl,hAS2,fun k hk c hc=>(hPs2 k hk c hc).imp id fun h=>⟨h.1,.inl h.2⟩,hX,hSr.nope hf2,hSO,Nat.le_refl _,hf.then hf2,rfl⟩
   case round=>
    clear hAS hAS2 hX hPs hPs2 hSr hSO hb
    obtain ⟨j,gs',xs',Ps',hj,rfl,hAS,hPs,hX,hSr,hSd,hszr,hf',rfl⟩:=hrel
    by_cases hjl:j < (outRegs r.out).length
    ·obtain ⟨b3,off3,u,hA2e,hbl3,hu,hc3⟩:=hSd.at_ hjl
     rw [List.getElem?_map] at hu
     obtain ⟨d,hd,rfl⟩:=Option.map_eq_some_iff.1 hu
     have hdm:=List.mem_of_getElem? hd
     have hdA0:=outRegs_at hrA0.outAt d hdm
     have hb3:=hb2.out b3 (by rw [hA2e];rfl)
     have hl3:=hl2.out b3 (by rw [hA2e];rfl)
     obtain ⟨r',hr'm,d',hd'm,hkd⟩:=hin.outs r hrm d hdm
     have hdK:d.kind∈K:=(hK _).2 ⟨r',hr'm,d',hd'm,hkd⟩
     have hd3:d.kind≤3:=by rw [← hkd];exact hin.kinds r' hr'm d' hd'm
     have hbr:=(hrA0.nope hf').own.at_
     have hc13:wr.cell? ⟨r.b,13,none⟩=some (.map (some (mm true i))):=by rw [cell_of_row wr r.b 13 _ _ (0,0) hbr,← hlo.out.2];rfl
     have hbrl:=lt_of_heap hbr
     have hM:=hMk.fr hf' (fun x=>x)
     have hkid:=R.kind_id hdA0.1
     have hid32:=R.id_lt hdA0.1
     have hEP:=fun k e=>EP.step (V:=V true) (k:=k) (e:=e) hr.out hd
     replace hd:=Lib.hid hd
     replace hEP:=Lib.hid hEP
     replace hkid:=Lib.hid hkid
     clear hu hkd
     subst hA2e
     obtain ⟨wo2,rfl⟩:∃ wo2:World,wo2=wr:=⟨_,rfl⟩
     go_upto_region 45 with (first
      | (refine wpList_Kind rfl rfl rfl (hdA0.2.nope hf') ?_;intro w3 hf3;have hc133:=hf3.cell hc13 (fun x=>x);have hbl33:=Nat.lt_of_lt_of_le hbrl hf3.size)
      | (go_at_call 85;refine (OfKind_calls w3 (some (mm true i)) (V true i) d.kind ((hM.fr hf3 (fun x=>x)).o)).mono ?_;rintro e w4 ⟨rfl,hM4,hf4⟩)
      | (go_at_call 86;refine (DiscardRegister_calls w4 w3.heap.size _ d hM4 hdA0.1 (hdA0.2.nope ((hf'.then hf3).then hf4))).mono ?_;rintro e w5 ⟨⟨ch,rfl⟩,hM5,hf5⟩))
     have hs3:=hf3.size
     have hs4:=hf4.size
     have hs5:=hf5.size
     have hm4:=hM4.lt
     have hw3n:∀ k∈K,¬Ps' k w3.heap.size:=fun k hk hp=>by have:=(hAS.at_ k hk).lt _ hp;omega
     have hAS5:=((hAS.still hf3).still hf4).keep hf5 (fun k hk c hc e=>hw3n k hk (e ▸ hc)) (fun e=>by have:=hAS.lt;omega)
     have hf05:Fr nope w0 w5:=((hf'.then hf3).then hf4).then_new hf5 (fun c hc e=>by have:=hf'.size;omega)
     have hf25:Fr (fun c=>c=w3.heap.size) wo2 w5:=(hf3.then hf4).of_nope.then hf5
     have hlk:=hAS5.look hdK
     have hXd:=hX d.kind hdK
     have hatd:∀ W,Fr (Ps' d.kind) w5 W→d.At W:=fun W hW=>hdA0.2.nope (hAS5.fr hf05 hdK hW)
     have hnz:∀ c,dropM (fun c=>if kindOf c=d.kind then V true i c else 0) d.id d.spec c≠0→V true i c≠0:=fun c hc h0=>by
      apply hc
      unfold dropM
      simp [h0,andn]
     have hbig:(xs' d.kind).edges.length+U.length≤8796093022208:=by
      have h1:=hXd.2
      have h2:=hfew.out
      have h3:=hstep.out
      have h4:=hst2.out
      have h5:(outsN rs i+j+1)*U.length≤(outsN rs rs.length+1)*U.length:=Nat.mul_le_mul_right _ (by omega)
      rw [Nat.succ_mul] at h5
      omega
     have hcall:=AddIS_calls w5 (Ps' d.kind) (xs' d.kind) (gs' d.kind) d (some w3.heap.size) _ (hAS5.at_ _ hdK) (by rw [hXd.1.regs];have:=(regsK_facts d.kind (by omega)).2.2.2.2.2.1;omega) hdA0.1 hatd hM5.o (fun b hb hp=>by injection hb with hb;exact hw3n _ hdK (hb ▸ hp)) U (fun c hc=>hin.ids i c hlt (hnz c hc)) hbig
     unfold ptr at hlk hcall
     replace hbig:=Lib.hid hbig
     go_wp2_with (go_at_call 87;refine hcall.mono ?_;rintro e w6 ⟨rfl,D,hD1,hD2,hT⟩)
     obtain ⟨g6,hg6,h6,hf6⟩:=hT
     have hD3:∀ c,c∈D↔hits (V true i) d c:=fun c=>(hD2 c).trans (hits_drop c)
     have hDl:D.length≤U.length:=nodup_le hD1 fun c hc=>(hin.ids i c hlt (fun h0=>by have:=((hD3 c).1 hc).2.2;rw [h0] at this;simp at this)).1
     have hAS6:=hAS5.turn hdK hg6 h6 hf6
     have hf06:=hAS5.fr hf05 hdK hf6
     have hs6:=hf6.size
     have hnot:∀ b,(w.heap.size≤b∧b < w1.heap.size)∨(wo.heap.size≤b∧b < w2.heap.size)→¬Ps' d.kind b:=fun b hb hp=>by
      rcases hPs _ hdK b hp with h | h
      ·have:=hPs0 _ hdK b h
       have:=hf1.size
       omega
      ·omega
     go_roundg ((outRegs r.out).length - (j+1))
     case measure=>omega
     case rel=>
      refine ⟨j+1,updF gs' d.kind g6,updF xs' d.kind (addIs (xs' d.kind) d.id D),updF Ps' d.kind (wider (Ps' d.kind) w5 w6),by omega,by go_num,hAS6,fun k hk c hc=>?_,fun k hk=>?_,(hSr.fr hf25 (fun _ b o e h=>?_)).fr hf6 (fun _ b o e=>?_),(hSd.fr hf25 (fun _ b o e h=>?_)).fr hf6 (fun _ b o e=>?_),by omega,hf06,rfl⟩
      ·by_cases ek:k=d.kind
       ·subst ek
        rw [updF_self] at hc
        rcases hc with hc | hc
        ·exact hPs _ hk c hc
        ·exact .inr ⟨by omega,.inr (by omega)⟩
       ·rw [updF_ne _ _ ek] at hc
        exact hPs k hk c hc
      ·by_cases ek:k=d.kind
       ·subst ek
        rw [updF_self]
        refine ⟨(hXd.1.addIs hd3 hkid.out hid32 D (fun c hc=>⟨((hD3 c).1 hc).2.1,?_⟩)).congr (fun e=>?_) (toldOf_congr fun e=>?_),?_⟩
        ·exact (hin.ids i c hlt (fun h0=>by have:=((hD3 c).1 hc).2.2;rw [h0] at this;simp at this)).2
        ·rw [hEP.out]
         exact or_congr Iff.rfl ⟨fun ⟨_,h1,h2⟩=>⟨e.2,(hD3 _).2 h2,by rw [← h1]⟩,fun ⟨c,h1,h2⟩=>by subst h2;exact ⟨rfl,rfl,(hD3 c).1 h1⟩⟩
        ·rw [hEP.out]
         exact or_congr Iff.rfl ⟨fun ⟨_,h1,h2⟩=>⟨e.2,(hD3 _).2 h2,by rw [← h1]⟩,fun ⟨c,h1,h2⟩=>by subst h2;exact ⟨rfl,rfl,(hD3 c).1 h1⟩⟩
        ·rw [addIs_edges,List.length_append,List.length_map,← Nat.add_assoc,Nat.succ_mul]
         have:=hXd.2
         omega
       ·rw [updF_ne _ _ ek]
        have hno:∀ e,EP rs (V true) i (j+1) k e↔EP rs (V true) i j k e:=fun e=>by
         rw [hEP.out]
         exact ⟨fun h=>h.elim id fun h=>absurd h.1.symm ek,.inl⟩
        refine ⟨(hX k hk).1.congr hno (toldOf_congr hno),Nat.le_trans (hX k hk).2 (Nat.mul_le_mul_right _ (by omega))⟩
      ·injection e with e
       injection e with e _
       subst e
       have:=hf1.size
       omega
      ·injection e with e
       injection e with e _
       subst e
       exact hnot _ (.inl ⟨hb0,hl0⟩)
      ·injection e with e
       injection e with e _
       subst e
       omega
      ·injection e with e
       injection e with e _
       subst e
       exact hnot _ (.inr ⟨hb3,hl3⟩)
    ·have hje:j=(outRegs r.out).length:=by omega
     subst hje
     go_wp2
     go_roundg (rs.length - (i+1))
     case measure=>omega
     case rel=>
      refine ⟨i+1,gs',xs',Ps',by omega,by go_num,hAS,fun k hk c hc=>(hPs k hk c hc).imp id fun h=>h.1,fun k hk=>⟨(hX k hk).1.congr (fun e=>(EP.row hr.out).symm) (toldOf_congr fun e=>(EP.row hr.out).symm),by rw [hstep.out];exact (hX k hk).2⟩,hSr,by omega,hf',rfl⟩
  ·obtain rfl:i=rs.length:=by omega
   go_upto_if 127 with (fail)
   iterate 4 (first | go_step | go_back)
   have hlen:∀ k∈K,(xs' k).edges.length≤8796093022208:=fun k hk=>by
    have h1:=(hX k hk).2
    have h2:=hin.few
    rw [Nat.succ_mul] at h2
    omega
   have hX2:∀ k∈K,AOk k (xs' k) (A k) (EAll rs (V true) k):=fun k hk=>(hX k hk).1.congr (fun e=>EP.done.symm) (toldOf_congr fun e=>EP.done.symm)
   have hK3:∀ k∈K,k≤3:=fun k hk=>by
    obtain ⟨r,hr,d,hd,rfl⟩:=(hK k).1 hk
    exact hin.kinds r hr d hd
   exact GivesRA.of (n:=6) hK hX2 (phE w0 wr mb fb f K gs' xs' Ps' hAS hf hin.st.fn (fun k hk=>(hX2 k hk).ready (hK3 k hk) (hlen k hk)))
end
end Go.Proofs.YtpbeedabmjmdmaaGreatDoor
