/- Part of the proof of a statement about pub-berthage: what its texts have in common. -/
import Derived.Test.YtjlfkgjmgghhiaaGreatP30
namespace Go.Proofs.YtjlfkgjmgghhiaaGreat
section
open Go Go.RowKit Bth
set_option maxRecDepth 100000
def Found (w:World) (g:G) (o:Option R):Prop:=o.isSome=okG g∧∀ r,o=some r→r.plain=g∧r.Ok∧r.At w
def GivesPR (w:World) (g:G) (e:Ending) (w':World):Prop:=∃ o:Option R,e = .returned (optV o)∧Fr nope w w'∧Found w' g o
theorem Found.fr {w w':World} {g:G} {o:Option R} (h:Found w g o) (hf:Fr nope w w'):Found w' g o:=⟨h.1,fun r hr=>⟨(h.2 r hr).1,(h.2 r hr).2.1,(h.2 r hr).2.2.nope hf⟩⟩
theorem LookupPhysical_calls (w:World) (k i s:Nat) (hk8:k < 256):Calls Tryz.prog 213 #[.int .u8 (k:Int),.int .u16 (i:Int),.int .u16 (s:Int)] w (GivesPR w ⟨false,k,i,s⟩):=by
 unfold GivesPR
 by_cases hk:k≤3
 ·go_enter Tryz.func213,Tryz.ntmps213
  go_wp2_with (first
   | (go_at_call 102;refine (FamilyOfKind_calls _ k hk).mono ?_;rintro e w1 ⟨rfl,v,hF,hO,hf⟩)
   | (go_at_call 222;refine (Lookup_calls _ w.heap.size k v _ (famRegs w.heap.size k) i s hF hO (fun r hr=>(famRegs_ok hk r hr).1) (by have:=famRegs_len w.heap.size k;omega)).mono ?_;rintro e w3 ⟨rfl,hf3⟩))
  go_ret
  refine ⟨_,rfl,hf.then hf3,?_,fun r hr=>?_⟩
  ·rw [pickR_some _ _ _ _ hk];simp [okG,hk]
  ·have hm:=List.mem_of_find?_eq_some hr
   have hq:=List.find?_some hr
   simp only [Bool.and_eq_true,beq_iff_eq] at hq
   obtain ⟨e1,e2,e3,e4⟩:=famRegs_ok hk r hm
   refine ⟨by unfold R.plain;rw [e1,e3,hq.1,hq.2],e4,(FamAt.reg hF r e2 e3).nope hf3⟩
 ·go_enter Tryz.func213,Tryz.ntmps213
  go_wp2_with (go_at_call 102;refine (FamilyOfKind_none _ k (by omega)).mono ?_;rintro e w1 ⟨rfl,hf⟩)
  go_ret
  refine ⟨none,rfl,hf,?_,fun r hr=>(by cases hr)⟩
  simp [okG,hk]
def FoundID (w:World) (id s:Nat) (o:Option R):Prop:=(isV id=true→o=none)∧(isV id=false→Found w ⟨false,kindOf id,indexOf id,s⟩ o)
theorem FoundID.fr {w w':World} {id s:Nat} {o:Option R} (h:FoundID w id s o) (hf:Fr nope w w'):FoundID w' id s o:=⟨h.1,fun hv=>(h.2 hv).fr hf⟩
theorem LookupID_calls (w:World) (id s:Nat) (hid:id < 4294967296):Calls Tryz.prog 203 #[.int .u32 (id:Int),.int .u16 (s:Int)] w fun e w'=>∃ o,e = .returned (optV o)∧Fr nope w w'∧FoundID w' id s o:=by
 have hV:=fun W=>IsVirtual_calls W id hid
 cases hv:isV id with
 | true=>
  rw [hv] at hV
  go_enter Tryz.func203,Tryz.ntmps203
  go_wp2_with (go_at_call 144;refine (hV _).mono ?_;rintro e w1 ⟨rfl,rfl⟩)
  go_ret
  exact ⟨none,rfl,Fr.refl _ _,fun _=>rfl,fun h=>(by rw [hv] at h;cases h)⟩
 | false=>
  rw [hv] at hV
  go_enter Tryz.func203,Tryz.ntmps203
  go_wp2_with (first
   | (go_at_call 144;refine (hV _).mono ?_;rintro e w1 ⟨rfl,rfl⟩)
   | (go_at_call 146;refine (IDKind_calls _ id).mono ?_;rintro e w1 ⟨rfl,rfl⟩)
   | (go_at_call 214;refine (IDIndex_calls _ id).mono ?_;rintro e w1 ⟨rfl,rfl⟩)
   | (go_at_call 213;refine (LookupPhysical_calls _ (kindOf id) (indexOf id) s (by unfold kindOf;omega)).mono ?_;rintro e w2 ⟨o,rfl,hf2,hF⟩))
  go_ret
  exact ⟨o,rfl,hf2,fun h=>(by rw [hv] at h;cases h),fun _=>hF⟩
def bindG (f:Nat→Option Nat) (g:G):G:=
 if g.virt then match f g.id with
  | none=>g
  | some p=>if isV p then g else if okG ⟨false,kindOf p,indexOf p,g.spec⟩ then ⟨false,kindOf p,indexOf p,g.spec⟩ else g
 else g
def Bound (w:World) (f:Nat→Option Nat) (r r':R):Prop:=r'.plain=bindG f r.plain∧r'.Ok∧r'.At w
theorem Bound.fr {w w':World} {f:Nat→Option Nat} {r r':R} (h:Bound w f r r') (hf:Fr nope w w'):Bound w' f r r':=⟨h.1,h.2.1,h.2.2.nope hf⟩
def small (f:Nat→Option Nat):Prop:=∀ v p,f v=some p→p < 4294967296
theorem LookupRegister_calls (w:World) (b:Nat) (f:Nat→Option Nat) (hb:IdMap w b f) (hs:small f) (r:R) (ok:r.Ok) (hat:r.At w):
  Calls Tryz.prog 190 #[.map (some b),r.val] w fun e w'=>∃ o:Option R,e = .returned (optV o)∧Fr nope w w'∧Bound w' f r (o.getD r):=by
 have hTP:=fun W=>ToPhysical_calls W r
 obtain ⟨T,v,hrv⟩:=r.val_iface
 cases hv:r.virt with
 | false=>
  simp only [hv,Bool.false_eq_true,if_false] at hTP
  rw [hrv] at hTP ⊢
  go_enter Tryz.func190,Tryz.ntmps190
  go_wp2_with (go_at_call 202;refine (hTP _).mono ?_;rintro e w1 ⟨rfl,rfl⟩)
  go_ret
  refine ⟨some r,by simp only [optV];rw [hrv];rfl,Fr.refl _ _,?_,ok,hat⟩
  show r.plain=_
  have:r.plain.virt=false:=hv
  unfold bindG;rw [this];rfl
 | true=>
  simp only [hv,if_true] at hTP
  have hl:=hb.look2 r.id
  have hbl:=hb.lt
  have hbg:bindG f r.plain=match f r.id with
    | none=>r.plain
    | some p=>if isV p then r.plain else if okG ⟨false,kindOf p,indexOf p,r.spec⟩ then ⟨false,kindOf p,indexOf p,r.spec⟩ else r.plain:=by
   have:r.plain.virt=true:=hv
   unfold bindG;rw [this];rfl
  replace hbg:=Lib.hid hbg
  cases hf:f r.id with
  | none=>
   simp only [hf,Option.isSome_none] at hl
   have hl':∀ W,Fr nope w W→(Instr.lookup 131 (.map (some b)) (.int .u32 (r.id:Int)) true).run Tryz.prog W = .ok (.tuple #[.int .u32 (((none:Option Nat).getD 0:Nat):Int),.bool false]) W:=fun W hW=>by
    have:=(hb.fr hW (fun x=>x)).look2 r.id
    rw [hf] at this
    exact this
   simp only [Option.getD_none] at hl'
   replace hf:=Lib.hid hf
   rw [hrv] at hTP ⊢
   go_enter Tryz.func190,Tryz.ntmps190
   go_wp2_with (first
    | (go_at_call 202;refine (hTP _).mono ?_;rintro e w1 ⟨rfl,rfl⟩)
    | (refine wpList_ID (r:=r) rfl rfl hrv.symm ok hat ?_;intro w2 hf2;have hl2:=hl' _ hf2))
   go_ret
   exact ⟨none,rfl,hf2,by rw [hbg.out,hf.out];rfl,ok,hat.nope hf2⟩
  | some p=>
   have hl':∀ W,Fr nope w W→(Instr.lookup 131 (.map (some b)) (.int .u32 (r.id:Int)) true).run Tryz.prog W = .ok (.tuple #[.int .u32 (p:Int),.bool true]) W:=fun W hW=>by
    have:=(hb.fr hW (fun x=>x)).look2 r.id
    rw [hf] at this
    exact this
   have hL:=fun W=>LookupID_calls W p r.spec (hs _ p hf)
   replace hf:=Lib.hid hf
   rw [hrv] at hTP ⊢
   go_enter Tryz.func190,Tryz.ntmps190
   go_wp2_with (first
    | (go_at_call 202;refine (hTP _).mono ?_;rintro e w1 ⟨rfl,rfl⟩)
    | (refine wpList_ID (r:=r) rfl rfl hrv.symm ok hat ?_;intro w2 hf2;have hl2:=hl' _ hf2)
    | (refine wpList_spec (r:=r) rfl rfl hrv.symm ?_;intro w3 hf3)
    | (go_at_call 203;refine (hL _).mono ?_;rintro e w4 ⟨o,rfl,hf4,hF⟩))
   go_ret
   refine ⟨o,rfl,(hf2.then hf3).then hf4,?_⟩
   have hbg2:=hbg.out
   rw [hf.out] at hbg2
   simp only at hbg2
   have hr4:r.At w4:=((hat.nope hf2).nope hf3).nope hf4
   cases hip:isV p with
   | true=>
    rw [hF.1 hip]
    exact ⟨by rw [hbg2,if_pos hip];rfl,ok,hr4⟩
   | false=>
    have hFo:=hF.2 hip
    rw [if_neg (by rw [hip];simp)] at hbg2
    cases o with
    | none=>exact ⟨by rw [hbg2,← hFo.1];rfl,ok,hr4⟩
    | some r'=>
     obtain ⟨g1,g2,g3⟩:=hFo.2 r' rfl
     exact ⟨by rw [hbg2,← hFo.1];exact g1,g2,g3⟩
theorem LookupRD_calls (w:World) (b:Nat) (f:Nat→Option Nat) (hb:IdMap w b f) (hs:small f) (r:R) (ok:r.Ok) (hat:r.At w):
  Calls Tryz.prog 158 #[.map (some b),r.val] w fun e w'=>∃ r',e = .returned (R.val r')∧Fr nope w w'∧Bound w' f r r':=by
 have hL:=LookupRegister_calls w b f hb hs r ok hat
 obtain ⟨T,v,hrv⟩:=r.val_iface
 rw [hrv] at hL ⊢
 go_enter Tryz.func158,Tryz.ntmps158
 go_wp2_with fail
 refine hL.mono ?_
 rintro e w1 ⟨o,rfl,hf,hB⟩
 cases o with
 | none=>
  simp only [optV]
  go_wp2
  go_ret
  exact ⟨r,by rw [hrv];rfl,hf,hB⟩
 | some r'=>
  obtain ⟨T',v',hrv'⟩:=r'.val_iface
  simp only [optV,hrv']
  go_wp2
  go_ret
  exact ⟨r',by rw [hrv'];rfl,hf,hB⟩
theorem LookupRD_nil (w:World) (b:Nat):
  Calls Tryz.prog 158 #[.map (some b),.nilIface] w fun e w'=>e = .returned .nilIface∧w'=w:=by
 go_enter Tryz.func158,Tryz.ntmps158
 go_wp2
 go_ret
 exact ⟨rfl,rfl⟩
end
section
open Go Go.RowKit Bth
set_option maxRecDepth 100000
def BoundX (w:World) (f:Nat→Option Nat):Option R→Option R→Prop
 | none,none=>True
 | some r,some r'=>Bound w f r r'
 | _,_=>False
theorem BoundX.fr {w w':World} {f:Nat→Option Nat} {r r':Option R} (h:BoundX w f r r') (hf:Fr nope w w'):BoundX w' f r r':=by
 cases r<;>cases r'
 ·trivial
 ·exact h
 ·exact h
 ·exact Bound.fr h hf
def famT:List TypeId:=[247]
theorem Bound.frT {S:Nat→Prop} {w w':World} {f:Nat→Option Nat} {r r':R} (h:Bound w f r r') (hf:Fr S w w') (hs:NoT famT w S):Bound w' f r r':=⟨h.1,h.2.1,h.2.2.frT hf hs (by decide)⟩
theorem BoundX.frT {S:Nat→Prop} {w w':World} {f:Nat→Option Nat} {r r':Option R} (h:BoundX w f r r') (hf:Fr S w w') (hs:NoT famT w S):BoundX w' f r r':=by
 cases r<;>cases r'
 ·trivial
 ·exact h
 ·exact h
 ·exact Bound.frT h hf hs
theorem LookupRX_calls (w:World) (b:Nat) (f:Nat→Option Nat) (hb:IdMap w b f) (hs:small f) (x:Option R) (hx:∀ r,x=some r→r.Ok∧r.At w):
  Calls Tryz.prog 158 #[.map (some b),optV x] w fun e w'=>∃ x',e = .returned (optV x')∧Fr nope w w'∧BoundX w' f x x':=by
 cases x with
 | none=>
  refine (LookupRD_nil w b).mono ?_
  rintro e w' ⟨rfl,rfl⟩
  exact ⟨none,rfl,Fr.refl _ _,trivial⟩
 | some r=>
  obtain ⟨ok,hat⟩:=hx r rfl
  refine (LookupRD_calls w b f hb hs r ok hat).mono ?_
  rintro e w' ⟨r',rfl,hf,hB⟩
  exact ⟨some r',rfl,hf,hB⟩
def BoundM (w:World) (f:Nat→Option Nat) (m m':M):Prop:=∃ x y,m' = { m with base:=x,index:=y } ∧ BoundX w f m.base x∧BoundX w f m.index y
set_option maxHeartbeats 1000000 in
theorem Apply_mem (w:World) (b:Nat) (f:Nat→Option Nat) (hb:IdMap w b f) (hs:small f) (m:M) (hm:∀ r∈m.regs,r.Ok∧r.At w):
  Calls Tryz.prog 114 #[O.val (.mem m),.map (some b)] w fun e w'=>∃ m',e = .returned (O.val (.mem m'))∧Fr nope w w'∧BoundM w' f m m':=by
 have h1:∀ W,(Instr.typeAssert (O.val (.mem m)) 221 193 true).run Tryz.prog W = .ok (.tuple #[.nilIface,.bool false]) W:=fun W=>O.ta_Register W _ (.mem m)
 have h2:∀ W,(Instr.typeAssert (O.val (.mem m)) 221 292 true).run Tryz.prog W = .ok (.tuple #[m.agg,.bool true]) W:=fun W=>O.ta_Mem W _ (.mem m)
 obtain ⟨sym,st,d,x,y,sc⟩:=m
 have hLx:=fun W hb hx=>LookupRX_calls W b f hb hs x hx
 have hLy:=fun W hb hx=>LookupRX_calls W b f hb hs y hx
 have hxm:∀ W,Fr nope w W→∀ r,x=some r→r.Ok∧r.At W:=fun W hW r hr=>by
  have:=hm r (by simp [M.regs,hr])
  exact ⟨this.1,this.2.nope hW⟩
 have hym:∀ W,Fr nope w W→∀ r,y=some r→r.Ok∧r.At W:=fun W hW r hr=>by
  have:=hm r (by simp [M.regs,hr])
  exact ⟨this.1,this.2.nope hW⟩
 have hbl:=hb.lt
 have hcx:=optV_cases x
 have hcy:=optV_cases y
 simp only [O.val] at h1 h2 ⊢
 rw [M.agg] at h1 h2 ⊢
 simp only at h1 h2 ⊢
 replace hxm:=Lib.hid hxm
 replace hym:=Lib.hid hym
 have hvx:Hid (optV x=optV x):=Lib.hid rfl
 have hvy:Hid (optV y=optV y):=Lib.hid rfl
 generalize hx0:optV x=vx at h1 h2 hLx hcx ⊢
 generalize hy0:optV y=vy at h1 h2 hLy hcy ⊢
 replace hx0:=Lib.hid hx0
 replace hy0:=Lib.hid hy0
 rcases hcx with rfl | ⟨Tx,ux,rfl⟩<;>rcases hcy with rfl | ⟨Ty,uy,rfl⟩
 all_goals
  go_enter Tryz.func114,Tryz.ntmps114
  go_wp2_with fail
  have hf1:∀ c,Fr nope w (w.alloc c):=fun c=>(Fr.refl nope w).alloc c
  refine (hLx _ (hb.fr (hf1 _) (fun x=>x)) (hxm.out _ (hf1 _))).mono ?_
  rintro e w2 ⟨x',rfl,hf2,hX⟩
  have hb2:=hf2.heap (heap_alloc_new w _) (fun x=>x)
  have hl2:=lt_of_heap hb2
  have hc2:=fun j=>cell_of_row _ _ j _ _ (0,0) hb2
  have hz2:=frozen_row hb2
  have hf02:=(hf1 _).then hf2
  have hcx':=optV_cases x'
  generalize hx1:optV x'=vx' at hcx' ⊢
  replace hx1:=Lib.hid hx1
  clear hf1
  have hb3:=setCell_heap (k:=3) hb2 vx'
  have hs3:Fr (fun c=>c=w.heap.size) w2 (w2.setCell ⟨w.heap.size,3,none⟩ vx'):=(Fr.refl (fun x=>x=w.heap.size) w2).setCell (.inl rfl) _
  have hf3:Fr nope w (w2.setCell ⟨w.heap.size,3,none⟩ vx'):=hf02.then_new hs3 (fun x hx e=>by omega)
  have hc3:=fun j=>cell_of_row _ _ j _ _ (0,0) hb3
  have hz3:=frozen_row hb3
  have hl3:=lt_of_heap hb3
  rcases hcx' with rfl | ⟨Tx',ux',rfl⟩
  all_goals
   go_wp2_with fail
   refine (hLy _ (hb.fr hf3 (fun x=>x)) (hym.out _ hf3)).mono ?_
   rintro e w4 ⟨y',rfl,hf4,hY⟩
   have hb4:=hf4.heap hb3 (fun x=>x)
   have hl4:=lt_of_heap hb4
   have hc4:=fun j=>cell_of_row _ _ j _ _ (0,0) hb4
   have hz4:=frozen_row hb4
   have hf04:=hf3.then hf4
   have hcy':=optV_cases y'
   generalize hy1:optV y'=vy' at hcy' ⊢
   replace hy1:=Lib.hid hy1
   have hb5:=setCell_heap (k:=4) hb4 vy'
   have hs5:Fr (fun c=>c=w.heap.size) w4 (w4.setCell ⟨w.heap.size,4,none⟩ vy'):=(Fr.refl (fun x=>x=w.heap.size) w4).setCell (.inl rfl) _
   have hf5:Fr nope w (w4.setCell ⟨w.heap.size,4,none⟩ vy'):=hf04.then_new hs5 (fun x hx e=>by omega)
   have hc5:=fun j=>cell_of_row _ _ j _ _ (0,0) hb5
   have hz5:=frozen_row hb5
   have hl5:=lt_of_heap hb5
   rcases hcy' with rfl | ⟨Ty',uy',rfl⟩
   all_goals
    go_wp2
    go_ret
    exact ⟨⟨sym,st,d,x',y',sc⟩,by simp only [M.agg,hx1.out,hy1.out];rfl,hf5,x',y',rfl,((hX.frT hs3 (.one hb2 (by decide))).fr hf4).frT hs5 (.one hb4 (by decide)),hY.frT hs5 (.one hb4 (by decide))⟩
theorem Apply_reg (w:World) (b:Nat) (f:Nat→Option Nat) (hb:IdMap w b f) (hs:small f) (r:R) (ok:r.Ok) (hat:r.At w):
  Calls Tryz.prog 114 #[O.val (.reg r),.map (some b)] w fun e w'=>∃ r',e = .returned (O.val (.reg r'))∧Fr nope w w'∧Bound w' f r r':=by
 have h1:∀ W,(Instr.typeAssert (O.val (.reg r)) 221 193 true).run Tryz.prog W = .ok (.tuple #[r.val,.bool true]) W:=fun W=>O.ta_Register W _ (.reg r)
 have hL:=LookupRD_calls w b f hb hs r ok hat
 simp only [O.val] at h1 ⊢
 obtain ⟨T,v,hrv⟩:=r.val_iface
 rw [hrv] at h1 hL ⊢
 go_enter Tryz.func114,Tryz.ntmps114
 go_wp2_with fail
 refine hL.mono ?_
 rintro e w1 ⟨r',rfl,hf,hB⟩
 obtain ⟨T',v',hrv'⟩:=r'.val_iface
 rw [hrv']
 go_wp2
 go_ret
 exact ⟨r',by rw [hrv'];rfl,hf,hB⟩
theorem Apply_other (w:World) (b:Nat) (o:O) (h:o.isReg=false) (h':o.isMem=false):
  Calls Tryz.prog 114 #[o.val,.map (some b)] w fun e w'=>e = .returned o.val∧Fr nope w w':=by
 have h1:=fun W=>O.ta_Register W 221 o
 have h2:=fun W=>O.ta_Mem W 221 o
 obtain ⟨s,st,d,x,y,sc,hm,hx,hy⟩:=o.memAgg_cases
 obtain ⟨T,v,hv⟩:=o.val_iface
 rw [hv,h] at h1
 rw [hv,h',hm] at h2
 simp only [Bool.false_eq_true,if_false] at h1
 rw [hv]
 clear hm hv
 rcases hx with rfl | ⟨T1,v1,rfl⟩<;>rcases hy with rfl | ⟨T2,v2,rfl⟩
 all_goals
  go_enter Tryz.func114,Tryz.ntmps114
  go_wp2
  go_ret
  exact ⟨rfl,Fr.refl _ _⟩
def BoundO (w:World) (f:Nat→Option Nat):O→O→Prop
 | .reg r,.reg r'=>Bound w f r r'
 | .mem m,.mem m'=>BoundM w f m m'
 | .con c,.con c'=>c'=c
 | .label s,.label s'=>s'=s
 | .rel n,.rel n'=>n'=n
 | _,_=>False
theorem Apply_calls (w:World) (b:Nat) (f:Nat→Option Nat) (hb:IdMap w b f) (hs:small f) (o:O) (ho:∀ r∈o.regs,r.Ok∧r.At w):
  Calls Tryz.prog 114 #[o.val,.map (some b)] w fun e w'=>∃ o',e = .returned (O.val o')∧Fr nope w w'∧BoundO w' f o o':=by
 cases o with
 | reg r=>
  obtain ⟨ok,hat⟩:=ho r (by simp [O.regs])
  refine (Apply_reg w b f hb hs r ok hat).mono ?_
  rintro e w' ⟨r',rfl,hf,hB⟩
  exact ⟨.reg r',rfl,hf,hB⟩
 | mem m=>
  refine (Apply_mem w b f hb hs m ho).mono ?_
  rintro e w' ⟨r',rfl,hf,hB⟩
  exact ⟨.mem r',rfl,hf,hB⟩
 | con c=>
  refine (Apply_other w b _ rfl rfl).mono ?_
  rintro e w' ⟨rfl,hf⟩
  exact ⟨.con c,rfl,hf,rfl⟩
 | label c=>
  refine (Apply_other w b _ rfl rfl).mono ?_
  rintro e w' ⟨rfl,hf⟩
  exact ⟨.label c,rfl,hf,rfl⟩
 | rel c=>
  refine (Apply_other w b _ rfl rfl).mono ?_
  rintro e w' ⟨rfl,hf⟩
  exact ⟨.rel c,rfl,hf,rfl⟩
end
section
open Go Go.RowKit Bth
set_option maxRecDepth 100000
def BX (f:Nat→Option Nat):Option R→Option R→Prop
 | none,none=>True
 | some r,some r'=>r'.plain=bindG f r.plain
 | _,_=>False
def BO (f:Nat→Option Nat):O→O→Prop
 | .reg r,.reg r'=>r'.plain=bindG f r.plain
 | .mem m,.mem m'=>∃ x y,m' = { m with base:=x,index:=y } ∧ BX f m.base x∧BX f m.index y
 | .con c,.con c'=>c'=c
 | .label s,.label s'=>s'=s
 | .rel n,.rel n'=>n'=n
 | _,_=>False
theorem BoundX.bx {w:World} {f:Nat→Option Nat} {x y:Option R} (h:BoundX w f x y):BX f x y∧∀ r,y=some r→r.Ok∧r.At w:=by
 cases x<;>cases y
 ·exact ⟨trivial,fun r h=>(by cases h)⟩
 ·exact h.elim
 ·exact h.elim
 ·exact ⟨h.1,fun r e=>by injection e with e;subst e;exact h.2⟩
theorem BoundO.bo {w:World} {f:Nat→Option Nat} {o o':O} (h:BoundO w f o o'):BO f o o'∧o'.At w:=by
 cases o<;>cases o'<;>try exact h.elim
 ·refine ⟨h.1,fun r hr=>?_⟩
  obtain rfl:=List.mem_singleton.1 hr
  exact h.2
 ·obtain ⟨x,y,rfl,h1,h2⟩:=h
  refine ⟨⟨x,y,rfl,h1.bx.1,h2.bx.1⟩,fun r hr=>?_⟩
  have hr:r∈x.toList ++ y.toList:=hr
  simp only [List.mem_append,Option.mem_toList] at hr
  rcases hr with hr | hr
  ·exact h1.bx.2 r hr
  ·exact h2.bx.2 r hr
 all_goals exact ⟨h,fun r hr=>by cases hr⟩
theorem ApplyB_calls (w:World) (b:Nat) (f:Nat→Option Nat) (hb:IdMap w b f) (hs:small f) (o:O) (ho:o.At w):
  Calls Tryz.prog 114 #[o.val,.map (some b)] w fun e w'=>∃ o',e = .returned (O.val o')∧Fr nope w w'∧BO f o o'∧o'.At w':=by
 refine (Apply_calls w b f hb hs o ho).mono ?_
 rintro e w' ⟨o',rfl,hf,hB⟩
 exact ⟨o',rfl,hf,hB.bo⟩
def Rec.row (r:Rec):Nat→List O
 | 0=>r.ops
 | 1=>r.inp
 | _=>r.out
def Rec.setRow (r:Rec) (p:Nat) (l:List O):Rec:=match p with
 | 0=>{ r with ops:=l }
 | 1=>{ r with inp:=l }
 | _=>{ r with out:=l }
def Ins.rowV (i:Ins):Nat→SV
 | 0=>i.ops
 | 1=>i.inp
 | _=>i.out
def RowB (r:Rec) (c:Nat):Prop:=∃ p,p < 3∧(r.i.rowV p).val.ownBlock=some c
theorem Rec.At.rowOwn {w:World} {r:Rec} (h:r.At w) (p:Nat):w.ownsRow r.lo 221 1 (r.i.rowV p).val (r.row p).length ((r.row p).map O.val):=by
 match p with
 | 0=>exact h.own.ops
 | 1=>exact h.own.inp
 | _+2=>exact h.own.out
theorem Rec.At.rowAts {w:World} {r:Rec} (h:r.At w) (p:Nat):∀ o∈r.row p,o.At w:=by
 match p with
 | 0=>exact h.ats.1
 | 1=>exact h.ats.2.1
 | _+2=>exact h.ats.2.2
theorem Rec.At.noT {w:World} {r:Rec} (h:r.At w):NoT [133,166,226,174,9,247] w (RowB r):=by
 have key:∀ p,NoT [133,166,226,174,9,247] w (fun c=>(r.i.rowV p).val.ownBlock=some c):=fun p=>NoT.own (h.rowOwn p) (by decide)
 rintro b cs t fr ⟨p,_,hp⟩
 exact key p b cs t fr hp
theorem Rec.At.noMap {w:World} {r:Rec} (h:r.At w) {b:Nat} {es:Array MapEntry} {cl:Nat} (hm:w.heap[b]? = some (.map es cl)):¬RowB r b:=by
 rintro ⟨p,_,hp⟩
 exact own_nomap (h.rowOwn p) hm hp
theorem IdMap.noRow {w:World} {b:Nat} {f:Nat→Option Nat} (hb:IdMap w b f) {r:Rec} (h:r.At w):¬RowB r b:=by
 obtain ⟨ks,hm⟩:=hb
 obtain ⟨_,_,ho⟩:=MapAt.obj hm
 exact h.noMap ho
theorem Rec.At.setRow {w:World} {r:Rec} (h:r.At w) {p j g:Nat} {o:O} (hp:p < 3) (hg:(r.i.rowV p).A=some ⟨g,0,none⟩) (ho:o.At w):
  (r.setRow p ((r.row p).set j o)).At (w.setCell ⟨g,j,none⟩ o.val)∧Fr (RowB r) w (w.setCell ⟨g,j,none⟩ o.val):=by
 have hS:Fr (fun c=>c=g) w (w.setCell ⟨g,j,none⟩ o.val):=(Fr.refl (fun x=>x=g) w).setCell (.inl rfl) _
 have hgp:(r.i.rowV p).val.ownBlock=some g:=by
  show (Value.slice (r.i.rowV p).A (r.i.rowV p).n (r.i.rowV p).c).ownBlock=_
  rw [hg];rfl
 have hT:NoT [133,166,226,174,9,247] w (fun c=>c=g):=by
  rintro b cs t fr rfl
  exact h.noT b cs t fr ⟨p,hp,hgp⟩
 refine ⟨?_,hS.mono fun c _ e=>⟨p,hp,by rw [e];exact hgp⟩⟩
 have hat:=heap_frT h.own.at_ hS hT (by decide)
 have own1:∀ q,q < 3→q≠p→(w.setCell ⟨g,j,none⟩ o.val).ownsRow r.lo 221 1 (r.i.rowV q).val (r.row q).length ((r.row q).map O.val):=fun q hq hne=>by
  refine own_fr (h.rowOwn q) hS fun b hb e=>?_
  subst e
  have d1:=h.own.d1
  have d2:=h.own.d2
  rcases p with _ | _ | _ | p<;>rcases q with _ | _ | _ | q<;>first | exact hne rfl | omega | skip
  ·exact (d1 _ hgp).1 hb
  ·exact (d1 _ hgp).2 hb
  ·exact (d1 _ hb).1 hgp
  ·exact d2 _ hgp hb
  ·exact (d1 _ hb).2 hgp
  ·exact d2 _ hb hgp
 have own2:(w.setCell ⟨g,j,none⟩ o.val).ownsRow r.lo 221 1 (r.i.rowV p).val ((r.row p).set j o).length (((r.row p).set j o).map O.val):=by
  have h1:=h.rowOwn p
  obtain ⟨A,c,hv,_,_⟩:=own_slice h1
  have hA:A=some ⟨g,0,none⟩:=by
   have:(r.i.rowV p).val = .slice (r.i.rowV p).A (r.i.rowV p).n (r.i.rowV p).c:=rfl
   rw [this,hg] at hv
   injection hv with e1 e2 e3
   exact e1.symm
  rw [hv,hA] at h1 ⊢
  have:=own_set h1 j o.val
  rw [List.length_set,List.map_set]
  exact this
 have ats:∀ q,∀ x∈r.row q,x.At (w.setCell ⟨g,j,none⟩ o.val):=fun q x hx=>(h.rowAts q x hx).frT hS hT (by decide)
 have ats2:∀ x∈(r.row p).set j o,x.At (w.setCell ⟨g,j,none⟩ o.val):=fun x hx=>by
  rcases List.mem_or_eq_of_mem_set hx with hx | rfl
  ·exact ats p x hx
  ·exact ho.frT hS hT (by decide)
 have hsuf:StrOwn (w.setCell ⟨g,j,none⟩ o.val) r.lo r.i.suf r.suf:=⟨h.suf.1,own_frT h.suf.2 hS hT (by decide)⟩
 have hisa:StrOwn (w.setCell ⟨g,j,none⟩ o.val) r.lo r.i.isa r.isa:=⟨h.isa.1,own_frT h.isa.2 hS hT (by decide)⟩
 rcases p with _ | _ | _ | p
 ·exact { own:={ h.own with at_:=hat,ops:=own2,inp:=own1 1 (by omega) (by omega),out:=own1 2 (by omega) (by omega) },suf:=hsuf,isa:=hisa,s1:=h.s1,s2:=h.s2,ats:=⟨ats2,ats 1,ats 2⟩ }
 ·exact { own:={ h.own with at_:=hat,ops:=own1 0 (by omega) (by omega),inp:=own2,out:=own1 2 (by omega) (by omega) },suf:=hsuf,isa:=hisa,s1:=h.s1,s2:=h.s2,ats:=⟨ats 0,ats2,ats 2⟩ }
 ·exact { own:={ h.own with at_:=hat,ops:=own1 0 (by omega) (by omega),inp:=own1 1 (by omega) (by omega),out:=own2 },suf:=hsuf,isa:=hisa,s1:=h.s1,s2:=h.s2,ats:=⟨ats 0,ats 1,ats2⟩ }
 ·omega
def BL (f:Nat→Option Nat) (j:Nat) (l l':List O):Prop:=l'.length=l.length∧∀ (k:Nat) (o o':O),l[k]? = some o→l'[k]? = some o'→if k < j then BO f o o' else o'=o
theorem BL.start (f:Nat→Option Nat) (l:List O):BL f 0 l l:=⟨rfl,fun k o o' h1 h2=>by rw [h1] at h2;injection h2 with h2;rw [if_neg (by omega)];exact h2.symm⟩
theorem BL.at_ {f:Nat→Option Nat} {j:Nat} {l l':List O} (h:BL f j l l') {o:O} (ho:l[j]? = some o):l'[j]? = some o:=by
 have hlt:j < l'.length:=by rw [h.1];exact (List.getElem?_eq_some_iff.1 ho).1
 have h1:=List.getElem?_eq_getElem hlt
 have h2:=h.2 j _ _ ho h1
 rw [if_neg (by omega)] at h2
 rw [h1,h2]
theorem BL.step {f:Nat→Option Nat} {j:Nat} {l l':List O} (h:BL f j l l') {o o':O} (ho:l[j]? = some o) (hb:BO f o o'):BL f (j+1) l (l'.set j o'):=by
 refine ⟨by rw [List.length_set];exact h.1,fun k x x' h1 h2=>?_⟩
 rw [List.getElem?_set] at h2
 split at h2
 ·rename_i e
  subst e
  split at h2
  ·injection h2 with h2
   subst h2
   rw [ho] at h1
   injection h1 with h1
   subst h1
   rw [if_pos (by omega)]
   exact hb
  ·cases h2
 ·rename_i e
  have:=h.2 k x x' h1 h2
  by_cases hk:k < j
  ·rw [if_pos hk] at this;rw [if_pos (by omega)];exact this
  ·rw [if_neg hk] at this;rw [if_neg (by omega)];exact this
structure BR (f:Nat→Option Nat) (n:Nat→Nat) (r r':Rec):Prop where
 b:r'.b=r.b
 lo:r'.lo=r.lo
 hi:r'.hi=r.hi
 i:r'.i=r.i
 suf:r'.suf=r.suf
 isa:r'.isa=r.isa
 row:∀ p,p < 3→BL f (n p) (r.row p) (r'.row p)
theorem BR.start (f:Nat→Option Nat) (r:Rec):BR f (fun _=>0) r r:=⟨rfl,rfl,rfl,rfl,rfl,rfl,fun _ _=>BL.start _ _⟩
theorem BR.rowB {f:Nat→Option Nat} {n:Nat→Nat} {r r':Rec} (h:BR f n r r') (c:Nat):RowB r' c↔RowB r c:=by unfold RowB;rw [h.i]
theorem setRow_row (r:Rec) {p q:Nat} (hp:p < 3) (hq:q < 3) (l:List O):(r.setRow p l).row q=if q=p then l else r.row q:=by
 rcases p with _ | _ | _ | p<;>rcases q with _ | _ | _ | q<;>first | rfl | omega
theorem BR.step {f:Nat→Option Nat} {n:Nat→Nat} {r r':Rec} (h:BR f n r r') {p:Nat} (hp:p < 3) {o o':O} (ho:(r.row p)[n p]? = some o) (hb:BO f o o'):BR f (fun q=>if q=p then n p+1 else n q) r (r'.setRow p ((r'.row p).set (n p) o')):=by
 have e:∀ l,(r'.setRow p l).b=r'.b∧(r'.setRow p l).lo=r'.lo∧(r'.setRow p l).hi=r'.hi∧(r'.setRow p l).i=r'.i∧(r'.setRow p l).suf=r'.suf∧(r'.setRow p l).isa=r'.isa:=fun l=>by
  rcases p with _ | _ | p<;>exact ⟨rfl,rfl,rfl,rfl,rfl,rfl⟩
 obtain ⟨e1,e2,e3,e4,e5,e6⟩:=e ((r'.row p).set (n p) o')
 refine ⟨e1.trans h.b,e2.trans h.lo,e3.trans h.hi,e4.trans h.i,e5.trans h.suf,e6.trans h.isa,fun q hq=>?_⟩
 rw [setRow_row r' hp hq]
 by_cases hqp:q=p
 ·subst hqp
  simp only [if_true]
  exact (h.row q hq).step ho hb
 ·simp only [if_neg hqp]
  exact h.row q hq
theorem BR.congr {f:Nat→Option Nat} {n n':Nat→Nat} {r r':Rec} (h:BR f n r r') (hn:∀ p,p < 3→n' p=n p):BR f n' r r':=⟨h.b,h.lo,h.hi,h.i,h.suf,h.isa,fun p hp=>by rw [hn p hp];exact h.row p hp⟩
end
end Go.Proofs.YtjlfkgjmgghhiaaGreat
