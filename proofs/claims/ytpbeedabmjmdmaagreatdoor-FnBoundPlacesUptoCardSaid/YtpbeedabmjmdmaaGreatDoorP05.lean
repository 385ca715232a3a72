/- Part of the proof of a statement about pub-berthage: what its texts have in common. -/
import Derived.Maps.AppendAt
import Derived.Deep.AppendLies
import Derived.OwnWalk
import Derived.Lib.Hide
import Derived.LaidEql
import Derived.Laws.StructEq
import Derived.Test.YtpbeedabmjmdmaaGreatDoorP00
import Derived.Test.YtpbeedabmjmdmaaGreatDoorP02
import Derived.Test.YtpbeedabmjmdmaaGreatDoorP03
import Derived.Test.YtpbeedabmjmdmaaGreatDoorP04
namespace Bth
section
open Go Go.RowKit
theorem Fr_of_grown {w w':World} {row:Option Nat} (h:w.grownBy w' row):Fr (fun b=>row=some b) w w':=
 ⟨h.os,h.tape,h.output,h.size,fun k hk hs=>h.block k hk (fun e=>hs e.symm)⟩
theorem grown_of_Fr {w w':World} {row:Option Nat} (h:Fr (fun b=>row=some b) w w'):w.grownBy w' row:=
 ⟨h.os,h.tape,h.output,h.size,fun k hk hs=>h.block k hk (fun e=>hs e.symm)⟩
theorem own_fr {S:Nat→Prop} {w w':World} {base:Nat} {e:TypeId} {size n:Nat} {v:Value} {xs:List Value} (h:w.ownsRow base e size v n xs) (hf:Fr S w w') (hs:∀ b,v.ownBlock=some b→¬S b):w'.ownsRow base e size v n xs:=by
 refine ⟨h.1,?_⟩
 rcases h.2 with ⟨rfl,h0⟩ | ⟨g,cap,cur,rfl,hb,hh,h1,h2,h3,h4⟩
 ·exact .inl ⟨rfl,h0⟩
 ·exact .inr ⟨g,cap,cur,rfl,hb,hf.heap hh (hs g rfl),h1,h2,h3,h4⟩
theorem own_base {w:World} {base:Nat} {e:TypeId} {size n:Nat} {v:Value} {xs:List Value} (h:w.ownsRow base e size v n xs):∀ k,v.ownBlock=some k→base≤k:=by
 intro k hk
 rcases h.2 with ⟨rfl,_⟩ | ⟨g,cap,cur,rfl,hb,_⟩
 ·simp [Value.ownBlock] at hk
 ·have:g=k:=by simpa [Value.ownBlock] using hk
  omega
theorem own_lt {w:World} {base:Nat} {e:TypeId} {size n:Nat} {v:Value} {xs:List Value} (h:w.ownsRow base e size v n xs):∀ k,v.ownBlock=some k→k < w.heap.size:=by
 intro k hk
 rcases h.2 with ⟨rfl,_⟩ | ⟨g,cap,cur,rfl,hb,hh,_⟩
 ·simp [Value.ownBlock] at hk
 ·have:g=k:=by simpa [Value.ownBlock] using hk
  subst this
  exact lt_of_heap hh
theorem own_slice {w:World} {base n:Nat} {e:TypeId} {size:Nat} {v:Value} {xs:List Value} (h:w.ownsRow base e size v n xs):∃ A c,v = .slice A n c∧n≤c∧c≤maxLen:=by
 rcases h.2 with ⟨rfl,rfl⟩ | ⟨g,cap,cur,rfl,_,_,h1,h2,_⟩
 ·exact ⟨none,0,rfl,Nat.le_refl _,Nat.zero_le _⟩
 ·exact ⟨_,cap,rfl,h1,h2⟩
theorem own_nil (W:World) (base:Nat) (e:TypeId) (size:Nat):W.ownsRow base e size (.slice none 0 0) 0 []:=⟨by simp,.inl ⟨rfl,rfl⟩⟩
theorem own_cells {w:World} {base n:Nat} {e:TypeId} {size:Nat} {A:Option Addr} {c:Nat} {xs:List Value} (h:w.ownsRow base e size (.slice A n c) n xs):0 < n→∃ g,A=some ⟨g,0,none⟩∧g < w.heap.size∧∀ j u,xs[j]? = some u→w.cell? ⟨g,j,none⟩=some u:=by
 intro hn
 obtain ⟨hl,h2⟩:=h
 rcases h2 with ⟨h1,h0⟩ | ⟨g,cap,cur,h1,hb,hh,h3,h4,h5,h6⟩
 ·omega
 ·injection h1 with hA _ _
  subst hA
  refine ⟨g,rfl,lt_of_heap hh,fun j u hu=>?_⟩
  rw [cell_of_row w g j cur e (0,0) hh]
  have hj:j < n*size:=by
   have:=(List.getElem?_eq_some_iff.1 hu).1
   omega
  rw [← h6,List.getElem?_take_of_lt hj] at hu
  simpa using hu
theorem own_Sl {w:World} {base n:Nat} {e:TypeId} {A:Option Addr} {c:Nat} {xs:List Value} (h:w.ownsRow base e 1 (.slice A n c) n xs):Sl w A n xs:=by
 refine ⟨by have:=h.1;omega,fun hn=>?_⟩
 obtain ⟨g,rfl,hg,hc⟩:=own_cells h hn
 exact ⟨g,0,rfl,hg,fun j u hu=>by rw [Nat.zero_add];exact hc j u hu⟩
section
variable {P:Program} {w:World}
theorem run_append_nil (t ty e:TypeId) (i:TypeInfo) (size:Nat) (ht:P.underlying t=some (.slice e)) (hi:P.info? e=some i)
  (base:Nat) (v:Value) (n:Nat) (xs:List Value) (hown:w.ownsRow base e size v n xs) (c:Nat):(Builtin.append_ #[t,t] ty #[v,.slice none 0 c]).run P w = .ok v w:=by
 rcases hown.2 with ⟨rfl,rfl⟩ | ⟨g,cap,cur,rfl,_,_,hnc,_⟩
 ·simp [Builtin.append_,run_underlying ht,Go.sizeOf,typeInfo,hi,Builtin.lenOf,Builtin.firstCells]
 ·simp [Builtin.append_,run_underlying ht,Go.sizeOf,typeInfo,hi,Builtin.lenOf,Builtin.firstCells,hnc,storeCells]
theorem wp_app {o:Oper} {a:Act} {K:Act→World→Prop} {Q:Exit→Act→World→Prop} {s x:Operand} {t:TypeId}
  (ho:o.op = .call { callee:=.builtin .append,args:=#[s,x],argTypes:=#[t,t] }) {base:Nat} {e:TypeId} {z:Value} {size bytes:Nat} (ht:P.underlying t=some (.slice e))
  (hinfo:(P.info? e).map (fun i=>(i.zero,i.size,i.bytes))=some (some z,size,bytes)) (hzs:z.cells.size=size) (hsz:0 < size)
  {v:Value} {n:Nat} {xs:List Value} (hs:a.eval s=v) (hown:w.ownsRow base e size v n xs)
  {A:Option Addr} {m c:Nat} {news:List Value} (hx:a.eval x = .slice A m c) (hl:news.length=m*size) (hA:0 < m→∃ ad,A=some ad∧∀ j u,news[j]? = some u→w.cell? (ad.add j)=some u) (h1:∀ u∈news,u.oneCell'=true)
  (h63:n+m≤maxLen) (hbytes:(n+m)*bytes≤140737488355328) (hbase:base≤w.heap.size)
  (h:∀ v' w',w'.ownsRow base e size v' (n+m) (xs ++ news)→Fr (fun b=>v.ownBlock=some b) w w'→(v'.ownBlock=v.ownBlock∨v'.ownBlock=some w.heap.size)→K (a.put o.dst v') w'):o.wp P a w K Q:=by
 obtain ⟨i,hi,hzz⟩:=Option.map_eq_some_iff.1 hinfo
 simp only [Prod.mk.injEq] at hzz
 obtain ⟨hz,hz1,hz2⟩:=hzz
 cases A with
 | some ad=>
  have hcells:∀ j u,news[j]? = some u→w.cell? (ad.add j)=some u:=by
   intro j u hu
   have hm:0 < m:=by
    rcases Nat.eq_zero_or_pos m with h0 | h0
    ·subst h0;have:news=[]:=List.eq_nil_of_length_eq_zero (by omega);subst this;simp at hu
    ·exact h0
   obtain ⟨ad',e1,hc⟩:=hA hm
   cases e1
   exact hc j u hu
  obtain ⟨v',w',hr,g1,g2,_,g4⟩:=run_append_own_at (P:=P) (w:=w) base t o.type e i z size bytes ht hi hz hz1 hz2 hzs hsz v n xs hown ad m c news hl hcells h1 h63 hbytes hbase
  unfold Oper.wp execOp
  simp only [ho,resolve,invoke,builtin,Sem.run_bind,Sem.run_pure,Result.andThen_ok,List.map_toArray,List.map_cons,List.map_nil,hs,hx,hr]
  exact h v' w' g1 (Fr_of_grown g2) g4
 | none=>
  have hm:m=0:=by
   rcases Nat.eq_zero_or_pos m with h0 | h0
   ·exact h0
   ·obtain ⟨ad,e1,_⟩:=hA h0;cases e1
  subst hm
  have hn:news=[]:=List.eq_nil_of_length_eq_zero (by omega)
  subst hn
  have hr:=run_append_nil (P:=P) t o.type e i size ht hi base v n xs hown c
  unfold Oper.wp execOp
  simp only [ho,resolve,invoke,builtin,Sem.run_bind,Sem.run_pure,Result.andThen_ok,List.map_toArray,List.map_cons,List.map_nil,hs,hx,hr]
  exact h v w (by simpa using hown) (Fr.refl _ _) (.inl rfl)
theorem step_app {ops:Array Oper} {o:Oper} {a:Act} {K:Act→World→Prop} {Q:Exit→Act→World→Prop} {E:Prop} (hgd:o.guard=none) {s x:Operand} {t:TypeId}
  (ho:o.op = .call { callee:=.builtin .append,args:=#[s,x],argTypes:=#[t,t] }) {base:Nat} {e:TypeId} {z:Value} {size bytes:Nat} (ht:P.underlying t=some (.slice e))
  (hinfo:(P.info? e).map (fun i=>(i.zero,i.size,i.bytes))=some (some z,size,bytes)) (hzs:z.cells.size=size) (hsz:0 < size)
  {v:Value} {n:Nat} {xs:List Value} (hs:a.eval s=v) (hown:w.ownsRow base e size v n xs)
  {A:Option Addr} {m c:Nat} {news:List Value} (hx:a.eval x = .slice A m c) (hl:news.length=m*size) (hA:0 < m→∃ ad,A=some ad∧∀ j u,news[j]? = some u→w.cell? (ad.add j)=some u) (h1:∀ u∈news,u.oneCell'=true)
  (h63:n+m≤maxLen) (hbytes:(n+m)*bytes≤140737488355328) (hbase:base≤w.heap.size)
  (h:∀ v' w',w'.ownsRow base e size v' (n+m) (xs ++ news)→Fr (fun b=>v.ownBlock=some b) w w'→(v'.ownBlock=v.ownBlock∨v'.ownBlock=some w.heap.size)→K (a.put o.dst v') w'):
  if Region.wanted o (yielded ops a.tmps)=true then Oper.wp P o a w K Q else E:=by
 have hw:Region.wanted o (yielded ops a.tmps)=true:=by simp [Region.wanted,hgd]
 rw [if_pos hw]
 exact wp_app ho ht hinfo hzs hsz hs hown hx hl hA h1 h63 hbytes hbase h
theorem wpList_app {ops:Array Oper} {rest:List Oper} {o:Oper} {a:Act} {Q:Exit→Act→World→Prop} (hgd:o.guard=none) {s x:Operand} {t:TypeId}
  (ho:o.op = .call { callee:=.builtin .append,args:=#[s,x],argTypes:=#[t,t] }) {base:Nat} {e:TypeId} {z:Value} {size bytes:Nat} (ht:P.underlying t=some (.slice e))
  (hinfo:(P.info? e).map (fun i=>(i.zero,i.size,i.bytes))=some (some z,size,bytes)) (hzs:z.cells.size=size) (hsz:0 < size)
  {v:Value} {n:Nat} {xs:List Value} (hs:a.eval s=v) (hown:w.ownsRow base e size v n xs)
  {A:Option Addr} {m c:Nat} {news:List Value} (hx:a.eval x = .slice A m c) (hl:news.length=m*size) (hA:0 < m→∃ ad,A=some ad∧∀ j u,news[j]? = some u→w.cell? (ad.add j)=some u) (h1:∀ u∈news,u.oneCell'=true)
  (h63:n+m≤maxLen) (hbytes:(n+m)*bytes≤140737488355328) (hbase:base≤w.heap.size)
  (h:∀ v' w',w'.ownsRow base e size v' (n+m) (xs ++ news)→Fr (fun b=>v.ownBlock=some b) w w'→(v'.ownBlock=v.ownBlock∨v'.ownBlock=some w.heap.size)→wpList P ops Q rest (a.put o.dst v') w'):
  wpList P ops Q (o :: rest) a w:=by
 obtain ⟨i,hi,hzz⟩:=Option.map_eq_some_iff.1 hinfo
 simp only [Prod.mk.injEq] at hzz
 obtain ⟨hz,hz1,hz2⟩:=hzz
 cases A with
 | some ad=>
  have hcells:∀ j u,news[j]? = some u→w.cell? (ad.add j)=some u:=by
   intro j u hu
   have hm:0 < m:=by
    rcases Nat.eq_zero_or_pos m with h0 | h0
    ·subst h0;have:news=[]:=List.eq_nil_of_length_eq_zero (by omega);subst this;simp at hu
    ·exact h0
   obtain ⟨ad',e1,hc⟩:=hA hm
   cases e1
   exact hc j u hu
  exact wpList_append_own_at w hgd s x t ho base e i z size bytes ht hi hz hz1 hz2 hzs hsz v n xs hs hown ad m c news hx hl hcells h1 h63 hbytes hbase
   fun v' w' g1 g2 _ g4=>h v' w' g1 (Fr_of_grown g2) g4
 | none=>
  have hm:m=0:=by
   rcases Nat.eq_zero_or_pos m with h0 | h0
   ·exact h0
   ·obtain ⟨ad,e1,_⟩:=hA h0;cases e1
  subst hm
  have hn:news=[]:=List.eq_nil_of_length_eq_zero (by omega)
  subst hn
  refine wpList_plain hgd fun K hK=>?_
  have hr:=run_append_nil (P:=P) t o.type e i size ht hi base v n xs hown c
  unfold Oper.wp execOp
  simp only [ho,resolve,invoke,builtin,Sem.run_bind,Sem.run_pure,Result.andThen_ok,List.map_toArray,List.map_cons,List.map_nil,hs,hx,hr]
  exact hK _ _ (h v w (by simpa using hown) (Fr.refl _ _) (.inl rfl))
end
end
end Bth
namespace Go.Proofs.YtpbeedabmjmdmaaGreatDoor
section
open Go Go.RowKit Bth
set_option maxRecDepth 100000
theorem R.val_iface (r:R):∃ T v,r.val = .iface T v:=
 R.val_cases (p:=fun x=>∃ T v,x = .iface T v) r (fun _=>⟨_,_,rfl⟩) (fun _=>⟨_,_,rfl⟩) (fun _=>⟨_,_,rfl⟩) (fun _=>⟨_,_,rfl⟩) (fun _=>⟨_,_,rfl⟩) (fun _=>⟨_,_,rfl⟩) (fun _=>⟨_,_,rfl⟩) (fun _=>⟨_,_,rfl⟩)
theorem O.val_iface (o:O):∃ T v,o.val = .iface T v:=by
 cases o with
 | reg r=>exact r.val_iface
 | mem m=>exact ⟨_,_,rfl⟩
 | con c=>exact ⟨_,_,rfl⟩
 | label s=>exact ⟨_,_,rfl⟩
 | rel n=>exact ⟨_,_,rfl⟩
def M.regs (m:M):List R:=m.base.toList ++ m.index.toList
def O.regs:O→List R
 | .reg r=>[r]
 | .mem m=>m.regs
 | _=>[]
theorem infoReg:(Tryz.prog.info? 145).map (fun i=>(i.zero,i.size,i.bytes))=some (some .nilIface,1,16):=by kernel_rfl
def GivesSl (w:World) (xs:List Value) (e:Ending) (w':World):Prop:=∃ A c,e = .returned (.slice A xs.length c)∧Sl w' A xs.length xs∧Fr nope w w'
theorem Sl_one (w:World) (x:Value) (t:TypeId):Sl (w.alloc (.cells #[x] t)) (some ⟨w.heap.size,0,none⟩) 1 [x]:=
 ⟨rfl,fun _=>⟨w.heap.size,0,rfl,by simp,fun j u hu=>by
  have:=cell_one_new w x t j u hu
  have e:(⟨w.heap.size,0,none⟩:Addr).add j=⟨w.heap.size,0+j,none⟩:=by unfold Addr.add;split<;>simp_all
  rwa [e] at this⟩⟩
theorem Registers_reg (w:World) (r:R):Calls Tryz.prog 99 #[r.val] w (GivesSl w [r.val]):=by
 have h1:∀ W,(Instr.typeAssert r.val 132 145 true).run Tryz.prog W = .ok (.tuple #[r.val,.bool true]) W:=fun W=>O.ta_Register W _ (.reg r)
 obtain ⟨T,v,hv⟩:=r.val_iface
 rw [hv] at h1 ⊢
 clear hv
 go_enter Tryz.func99,Tryz.ntmps99
 go_wp2
 go_ret
 exact ⟨_,1,rfl,Sl_one w _ _,(Fr.refl _ _).alloc _⟩
theorem Registers_other (w:World) (o:O) (h:o.isReg=false) (h':o.isMem=false):Calls Tryz.prog 99 #[o.val] w (GivesSl w []):=by
 have h1:∀ W,(Instr.typeAssert o.val 132 145 true).run Tryz.prog W = .ok (.tuple #[.nilIface,.bool false]) W:=fun W=>by rw [O.ta_Register W,h];rfl
 have h2:∀ W,(Instr.typeAssert o.val 132 197 true).run Tryz.prog W = .ok (.tuple #[zeroMem,.bool false]) W:=fun W=>by
  rw [O.ta_Mem W,h']
  cases o with
  | mem m=>cases h'
  | _=>rfl
 have h3:=fun W=>O.ta_Constant W 132 o
 have h4:=fun W=>O.ta_LabelRef W 132 o
 have h5:=fun W=>O.ta_Rel W 132 o
 have hone:(o.isCon=true)∨(o.isCon=false∧o.isRel=true)∨(o.isCon=false∧o.isRel=false∧o.isLabel=true):=by cases o<;>simp_all [O.isReg,O.isMem,O.isCon,O.isRel,O.isLabel]
 obtain ⟨T,v,hv⟩:=o.val_iface
 rw [hv] at h1 h2 h3 h4 h5 ⊢
 clear hv h h'
 generalize o.labelOf=lab at h4
 generalize o.relOf=rl at h5
 generalize o.isCon=b1 at *
 generalize o.isRel=b2 at *
 generalize o.isLabel=b3 at *
 rcases hone with rfl | ⟨rfl,rfl⟩ | ⟨rfl,rfl,rfl⟩
 all_goals
  simp only [Bool.false_eq_true,if_false,if_true] at h3
  go_enter Tryz.func99,Tryz.ntmps99
  go_wp2
  go_ret
  exact ⟨none,0,rfl,Sl.nil _,Fr.refl _ _⟩
end
section
open Go Go.RowKit Bth
set_option maxRecDepth 100000
theorem one_new (w:World) (x:Value) (t:TypeId) (b:Nat) (hb:b=w.heap.size):0 < 1→∃ ad,some (⟨b,0,none⟩:Addr)=some ad∧∀ j u,[x][j]? = some u→(w.alloc (.cells #[x] t)).cell? (ad.add j)=some u:=by
 subst hb
 exact fun _=>⟨_,rfl,cell_one_new _ _ _⟩
theorem one_cell (T:TypeId) (v:Value):∀ u∈[Value.iface T v],u.oneCell'=true:=by simp [Value.oneCell']
theorem Registers_mem00 (w:World) (m:M) (hb:m.base=none) (hi:m.index=none):Calls Tryz.prog 99 #[O.val (.mem m)] w (GivesSl w []):=by
 have h1:∀ W,(Instr.typeAssert (O.val (.mem m)) 132 145 true).run Tryz.prog W = .ok (.tuple #[.nilIface,.bool false]) W:=fun W=>O.ta_Register W _ (.mem m)
 have h2:∀ W,(Instr.typeAssert (O.val (.mem m)) 132 197 true).run Tryz.prog W = .ok (.tuple #[m.agg,.bool true]) W:=fun W=>O.ta_Mem W _ (.mem m)
 simp only [O.val] at h1 h2 ⊢
 rw [M.agg,hb,hi] at h1 h2 ⊢
 simp only [optV] at h1 h2 ⊢
 go_enter Tryz.func99,Tryz.ntmps99
 go_wp2
 go_ret
 exact ⟨none,0,rfl,Sl.nil _,(Fr.refl _ _).alloc _⟩
theorem Registers_mem10 (w:World) (m:M) (r:R) (hb:m.base=some r) (hi:m.index=none):Calls Tryz.prog 99 #[O.val (.mem m)] w (GivesSl w [r.val]):=by
 have h1:∀ W,(Instr.typeAssert (O.val (.mem m)) 132 145 true).run Tryz.prog W = .ok (.tuple #[.nilIface,.bool false]) W:=fun W=>O.ta_Register W _ (.mem m)
 have h2:∀ W,(Instr.typeAssert (O.val (.mem m)) 132 197 true).run Tryz.prog W = .ok (.tuple #[m.agg,.bool true]) W:=fun W=>O.ta_Mem W _ (.mem m)
 obtain ⟨T,v,hv⟩:=r.val_iface
 simp only [O.val] at h1 h2 ⊢
 rw [M.agg,hb,hi] at h1 h2 ⊢
 simp only [optV] at h1 h2 ⊢
 rw [hv] at h1 h2 ⊢
 clear hb hi hv
 go_enter Tryz.func99,Tryz.ntmps99
 go_wp2_with (refine wpList_app (v:=.slice none 0 0) rfl rfl Tryz.underlying142 infoReg rfl (by omega) rfl (own_nil _ w.heap.size _ _) rfl (news:=[.iface T v]) rfl (one_new _ _ _ _ (by simp)) (one_cell _ _) (by decide) (by omega) (by simp;omega) ?_;intro v1 w1 hown hf1 _;have hf2:=(hf1.mono (T:=nope) (by simp [Value.ownBlock]));obtain ⟨hc1,_⟩:=hf2.cells;simp at hc1;have hlt1:w.heap.size < w.heap.size+1+1:=by omega)
 go_ret
 obtain ⟨A,c,rfl,_,_⟩:=own_slice hown
 exact ⟨A,c,rfl,own_Sl hown,(((Fr.refl _ _).alloc _).alloc _).then hf2⟩
theorem Registers_mem01 (w:World) (m:M) (r:R) (hb:m.base=none) (hi:m.index=some r):Calls Tryz.prog 99 #[O.val (.mem m)] w (GivesSl w [r.val]):=by
 have h1:∀ W,(Instr.typeAssert (O.val (.mem m)) 132 145 true).run Tryz.prog W = .ok (.tuple #[.nilIface,.bool false]) W:=fun W=>O.ta_Register W _ (.mem m)
 have h2:∀ W,(Instr.typeAssert (O.val (.mem m)) 132 197 true).run Tryz.prog W = .ok (.tuple #[m.agg,.bool true]) W:=fun W=>O.ta_Mem W _ (.mem m)
 obtain ⟨T,v,hv⟩:=r.val_iface
 simp only [O.val] at h1 h2 ⊢
 rw [M.agg,hb,hi] at h1 h2 ⊢
 simp only [optV] at h1 h2 ⊢
 rw [hv] at h1 h2 ⊢
 clear hb hi hv
 go_enter Tryz.func99,Tryz.ntmps99
 go_wp2_with (refine wpList_app (v:=.slice none 0 0) rfl rfl Tryz.underlying142 infoReg rfl (by omega) rfl (own_nil _ w.heap.size _ _) rfl (news:=[.iface T v]) rfl (one_new _ _ _ _ (by simp)) (one_cell _ _) (by decide) (by omega) (by simp;omega) ?_;intro v1 w1 hown hf1 _;have hf2:=(hf1.mono (T:=nope) (by simp [Value.ownBlock]));obtain ⟨hc1,_⟩:=hf2.cells;simp at hc1;have hlt1:w.heap.size < w.heap.size+1+1:=by omega)
 go_ret
 obtain ⟨A,c,rfl,_,_⟩:=own_slice hown
 exact ⟨A,c,rfl,own_Sl hown,(((Fr.refl _ _).alloc _).alloc _).then hf2⟩
theorem Registers_mem11 (w:World) (m:M) (r r':R) (hb:m.base=some r) (hi:m.index=some r'):Calls Tryz.prog 99 #[O.val (.mem m)] w (GivesSl w [r.val,r'.val]):=by
 have h1:∀ W,(Instr.typeAssert (O.val (.mem m)) 132 145 true).run Tryz.prog W = .ok (.tuple #[.nilIface,.bool false]) W:=fun W=>O.ta_Register W _ (.mem m)
 have h2:∀ W,(Instr.typeAssert (O.val (.mem m)) 132 197 true).run Tryz.prog W = .ok (.tuple #[m.agg,.bool true]) W:=fun W=>O.ta_Mem W _ (.mem m)
 obtain ⟨T,v,hv⟩:=r.val_iface
 obtain ⟨T',v',hv'⟩:=r'.val_iface
 simp only [O.val] at h1 h2 ⊢
 rw [M.agg,hb,hi] at h1 h2 ⊢
 simp only [optV] at h1 h2 ⊢
 rw [hv,hv'] at h1 h2 ⊢
 clear hb hi hv hv'
 go_enter Tryz.func99,Tryz.ntmps99
 go_wp2_with (first
  | (refine wpList_app (v:=.slice none 0 0) rfl rfl Tryz.underlying142 infoReg rfl (by omega) rfl (own_nil _ w.heap.size _ _) rfl (news:=[.iface T v]) rfl (one_new _ _ _ _ (by simp)) (one_cell _ _) (by decide) (by omega) (by simp;omega) ?_;intro v1 w1 hown hf1 _;have hf2:=(hf1.mono (T:=nope) (by simp [Value.ownBlock]));obtain ⟨hc1,_⟩:=hf2.cells;simp at hc1;have hlt1:w.heap.size < w.heap.size+1+1:=by omega)
  | (refine wpList_app (v:=v1) rfl rfl Tryz.underlying142 infoReg rfl (by omega) rfl (own_fr hown ((Fr.refl nope _).alloc _) (fun _ _ x=>x)) rfl (news:=[.iface T' v']) rfl (one_new _ _ _ _ (by simp)) (one_cell _ _) (by decide) (by omega) (by have:=hf2.size;simp at this ⊢;omega) ?_;intro v2 w2 hown' hf3 _))
 go_ret
 obtain ⟨A,c,rfl,_,_⟩:=own_slice hown'
 refine ⟨A,c,rfl,own_Sl hown',?_⟩
 have hb1:=own_base hown
 have h3:=((((Fr.refl nope w).alloc _).alloc _).then hf2).alloc (.cells #[.iface T' v'] 145)
 refine h3.trans hf3 (fun _ _ x=>x) (fun x hx he=>?_)
 have:=hb1 x he
 omega
theorem optV_cases (o:Option R):optV o = .nilIface∨∃ T v,optV o = .iface T v:=by
 cases o with
 | none=>exact .inl rfl
 | some r=>exact .inr r.val_iface
theorem O.memAgg_cases (o:O):∃ s st d x y sc,o.memAgg = .agg #[.string s,.bool st,.int .i64 d,x,y,.int .u8 sc]∧(x = .nilIface∨∃ T v,x = .iface T v)∧(y = .nilIface∨∃ T v,y = .iface T v):=by
 cases o with
 | mem m=>exact ⟨_,_,_,_,_,_,rfl,optV_cases _,optV_cases _⟩
 | _=>exact ⟨_,_,_,_,_,_,rfl,.inl rfl,.inl rfl⟩
theorem IsMem_calls (w:World) (o:O):Calls Tryz.prog 103 #[o.val] w fun e w'=>e = .returned (.bool o.isMem)∧Fr nope w w':=by
 have h1:=fun W=>O.ta_Mem W 132 o
 obtain ⟨s,st,d,x,y,sc,hm,hx,hy⟩:=o.memAgg_cases
 obtain ⟨T,v,hv⟩:=o.val_iface
 rw [hv,hm] at h1
 rw [hv]
 clear hm
 generalize o.isMem=b at *
 clear hv
 rcases hx with rfl | ⟨T1,v1,rfl⟩<;>rcases hy with rfl | ⟨T2,v2,rfl⟩
 all_goals
  go_enter Tryz.func103,Tryz.ntmps103
  go_wp2
  go_ret
  exact ⟨rfl,(Fr.refl _ _).alloc _⟩
theorem Registers_calls (w:World) (o:O):Calls Tryz.prog 99 #[o.val] w (GivesSl w (o.regs.map R.val)):=by
 cases o with
 | reg r=>exact Registers_reg w r
 | mem m=>
  cases hb:m.base with
  | none=>
   cases hi:m.index with
   | none=>simpa [O.regs,M.regs,hb,hi] using Registers_mem00 w m hb hi
   | some r'=>simpa [O.regs,M.regs,hb,hi] using Registers_mem01 w m r' hb hi
  | some r=>
   cases hi:m.index with
   | none=>simpa [O.regs,M.regs,hb,hi] using Registers_mem10 w m r hb hi
   | some r'=>simpa [O.regs,M.regs,hb,hi] using Registers_mem11 w m r r' hb hi
 | con c=>exact Registers_other w _ rfl rfl
 | label s=>exact Registers_other w _ rfl rfl
 | rel n=>exact Registers_other w _ rfl rfl
end
section
open Go Go.RowKit Bth
set_option maxRecDepth 100000
structure SV where
 A:Option Addr
 n:Nat
 c:Nat
structure Ins where
 opc:ByteArray
 suf:SV
 ops:SV
 inp:SV
 out:SV
 term:Bool
 br:Bool
 cond:Bool
 canc:Bool
 isa:SV
 pred:SV
 succ:SV
 lin:Option Nat
 lout:Option Nat
def Ins.cells (i:Ins):Array Value:=#[.string i.opc,.slice i.suf.A i.suf.n i.suf.c,.slice i.ops.A i.ops.n i.ops.c,.slice i.inp.A i.inp.n i.inp.c,.slice i.out.A i.out.n i.out.c,.bool i.term,.bool i.br,.bool i.cond,.bool i.canc,
 .slice i.isa.A i.isa.n i.isa.c,.slice i.pred.A i.pred.n i.pred.c,.slice i.succ.A i.succ.n i.succ.c,.map i.lin,.map i.lout]
def Ins.agg (i:Ins):Value:=.agg i.cells
def O.At (w:World) (o:O):Prop:=∀ r∈o.regs,r.Ok∧r.At w
theorem O.At.nope {w w':World} {o:O} (h:o.At w) (hf:Fr nope w w'):o.At w':=fun r hr=>⟨(h r hr).1,(h r hr).2.nope hf⟩
def OpsAt (w:World) (s:SV) (xs:List O):Prop:=s.n=xs.length∧Sl w s.A xs.length (xs.map O.val)∧∀ o∈xs,o.At w
theorem OpsAt.nope {w w':World} {s:SV} {xs:List O} (h:OpsAt w s xs) (hf:Fr nope w w'):OpsAt w' s xs:=⟨h.1,h.2.1.nope hf,fun o ho=>(h.2.2 o ho).nope hf⟩
theorem OpsAt.at_ {w:World} {s:SV} {xs:List O} (h:OpsAt w s xs) {k:Nat} (hk:k < xs.length):∃ b off o,s.A=some ⟨b,off,none⟩∧b < w.heap.size∧xs[k]? = some o∧w.cell? ⟨b,off+k,none⟩=some o.val∧o.At w:=by
 obtain ⟨b,off,u,e,hb,hu,hc⟩:=h.2.1.at_ hk
 have hr:=List.getElem?_eq_getElem hk
 rw [List.getElem?_map,hr] at hu
 simp only [Option.map_some,Option.some.injEq] at hu
 subst hu
 exact ⟨b,off,xs[k],e,hb,hr,hc,h.2.2 _ (List.getElem_mem hk)⟩
def regsOf (xs:List O):List R:=xs.flatMap O.regs
theorem O.regs_le (o:O):o.regs.length≤2:=by
 cases o with
 | mem m=>simp only [O.regs,M.regs];cases m.base<;>cases m.index<;>simp
 | _=>simp [O.regs]
theorem regsOf_le (xs:List O):(regsOf xs).length≤2*xs.length:=by
 induction xs with
 | nil=>simp [regsOf]
 | cons o xs ih=>
  have:=o.regs_le
  have e:regsOf (o :: xs)=o.regs ++ regsOf xs:=rfl
  rw [e,List.length_append,List.length_cons];omega
theorem regsOf_take {xs:List O} {k:Nat} {o:O} (h:xs[k]? = some o):regsOf (xs.take (k+1))=regsOf (xs.take k) ++ o.regs:=by
 unfold regsOf
 rw [List.take_add_one,h]
 simp
theorem regs_one (rs:List R):∀ u∈rs.map R.val,u.oneCell'=true:=by
 intro u hu
 obtain ⟨r,_,rfl⟩:=List.mem_map.1 hu
 obtain ⟨T,v,e⟩:=r.val_iface
 rw [e];simp [Value.oneCell']
theorem regsOf_at {w:World} {s:SV} {xs:List O} (h:OpsAt w s xs):∀ r∈regsOf xs,r.Ok∧r.At w:=by
 intro r hr
 obtain ⟨o,ho,hr⟩:=List.mem_flatMap.1 hr
 exact h.2.2 o ho r hr
def GivesRegs (w:World) (rs:List R) (e:Ending) (w':World):Prop:=∃ A c,e = .returned (.slice A rs.length c)∧RegsAt w' A rs∧Fr nope w w'
theorem OpRegs_calls (w:World) (o:O) (hat:o.At w):Calls Tryz.prog 99 #[o.val] w (GivesRegs w o.regs):=by
 refine (Registers_calls w o).mono ?_
 rintro e w' ⟨A,c,rfl,hs,hf⟩
 rw [List.length_map] at hs ⊢
 exact ⟨A,c,rfl,⟨hs,hat.nope hf⟩,hf⟩
theorem Sl.src {w:World} {A:Option Addr} {n:Nat} {xs:List Value} (h:Sl w A n xs):0 < n→∃ ad,A=some ad∧∀ j u,xs[j]? = some u→w.cell? (ad.add j)=some u:=by
 intro hn
 obtain ⟨b,off,rfl,hb,hc⟩:=h.2 hn
 exact ⟨_,rfl,fun j u hu=>by
  have:=hc j u hu
  have e:(⟨b,off,none⟩:Addr).add j=⟨b,off+j,none⟩:=by unfold Addr.add;split<;>simp_all
  rw [e];exact this⟩
def GivesOwnRegs (w:World) (rs:List R) (e:Ending) (w':World):Prop:=∃ A c,e = .returned (.slice A rs.length c)∧w'.ownsRow w.heap.size 145 1 (.slice A rs.length c) rs.length (rs.map R.val)∧(∀ r∈rs,r.Ok∧r.At w')∧Fr nope w w'
theorem GivesOwnRegs.regs {w:World} {rs:List R} {e:Ending} {w':World} (h:GivesOwnRegs w rs e w'):GivesRegs w rs e w':=by
 obtain ⟨A,c,h1,h2,h3,h4⟩:=h
 exact ⟨A,c,h1,⟨own_Sl h2,h3⟩,h4⟩
theorem InsRegisters_own (w:World) (i:Ins) (xs:List O) (hx:OpsAt w i.ops xs) (hl:xs.length≤1073741824):
  Calls Tryz.prog 63 #[i.agg] w (GivesOwnRegs w (regsOf xs)):=by
 obtain ⟨opc,suf,⟨A,n,c⟩,inp,out,term,br,cond,canc,isa,pred,succ,lin,lout⟩:=i
 obtain ⟨rfl,hx1,hx2⟩:n=xs.length∧_:=hx
 have hx:OpsAt w ⟨A,xs.length,c⟩ xs:=⟨rfl,hx1,hx2⟩
 clear hx1 hx2
 simp only [Ins.agg,Ins.cells]
 go_enter Tryz.func63,Tryz.ntmps63
 go_wp2
 go_loopg [3,9] xs.length (fun n c3 c9 wr=>∃ k:Nat,k≤xs.length∧c9 = .int .i64 (k:Int)∧wr.ownsRow w.heap.size 145 1 c3 (regsOf (xs.take k)).length ((regsOf (xs.take k)).map R.val)∧Fr nope w wr∧n=xs.length - k)
 case atStart=>exact ⟨0,Nat.zero_le _,rfl,by simpa [regsOf] using own_nil _ _ _ _,(Fr.refl _ _).alloc _,rfl⟩
 case round=>
  obtain ⟨k,hk,rfl,hown,hf,rfl⟩:=hrel
  by_cases hlt:k < xs.length
  ·obtain ⟨b,off,o,hA,hbl,hok,hc,hat⟩:=(hx.nope hf).at_ hlt
   simp only at hA
   subst hA
   have hT:=Lib.hid (regsOf_take hok)
   have hB1:=regsOf_le (xs.take k)
   have hB2:=o.regs_le
   have hB3:(xs.take k).length≤k:=by rw [List.length_take];omega
   clear hok hx
   go_wp2_with (first
    | (go_at_call 99;refine (OpRegs_calls _ o hat).mono ?_;rintro e w2 ⟨A2,c2,rfl,⟨hS2,_⟩,hf2⟩)
    | (have hown2:=own_fr hown hf2 (fun _ _ x=>x);refine wpList_app (v:=u3) rfl rfl Tryz.underlying142 infoReg rfl (by omega) rfl hown2 rfl (news:=o.regs.map R.val) (by simp) (Sl.src hS2) (regs_one _) (by simp only [maxLen];omega) (by omega) (by have:=hf.size;have:=hf2.size;omega) ?_;intro v3 w3 hown3 hf3 _))
   go_roundg (xs.length - (k+1))
   case measure=>omega
   case rel=>exact ⟨k+1,by omega,by go_num,by rw [hT.out];simpa using hown3,(hf.then hf2).then_new hf3 (fun x hx he=>by have:=own_base hown x he;omega),rfl⟩
  ·go_wp2
   go_ret
   have e:xs.take k=xs:=List.take_of_length_le (by omega)
   rw [e] at hown
   obtain ⟨A',c',rfl,_,_⟩:=own_slice hown
   exact ⟨A',c',rfl,hown,regsOf_at (hx.nope hf),hf⟩
theorem InsRegisters_calls (w:World) (i:Ins) (xs:List O) (hx:OpsAt w i.ops xs) (hl:xs.length≤1073741824):
  Calls Tryz.prog 63 #[i.agg] w (GivesRegs w (regsOf xs)):=(InsRegisters_own w i xs hx hl).mono fun _ _ h=>h.regs
end
section
open Go Go.RowKit Bth
set_option maxRecDepth 100000
section
variable (w:World)
theorem eq_coreV (d:Nat) (i i' k k' s s':Int):(Op.equalIn (d+3) 350 (.agg #[.int .u16 i,.int .u8 k,.int .u16 s]) (.agg #[.int .u16 i',.int .u8 k',.int .u16 s'])).run Tryz.prog w = .ok (i == i' && k == k' && s == s') w:=by
 go_simp
 by_cases h1:i=i'<;>by_cases h2:k=k'<;>by_cases h3:s=s'<;>simp [h1,h2,h3]
theorem eq_fam (d:Nat) (b b':Nat) (hsa:b=b'∨(sameAddr ⟨b,0,none⟩ ⟨b',0,none⟩).run Tryz.prog w = .ok false w) (T:TypeId) (hT:Tryz.prog.underlying T=some (.pointer 212)):(Op.equalIn (d+1) T (.pointer (some ⟨b,0,none⟩)) (.pointer (some ⟨b',0,none⟩))).run Tryz.prog w = .ok (b == b') w:=by
 have hs:(Tryz.prog.info? 212).map (·.size)=some 2:=by kernel_rfl
 obtain ⟨i,hi,hi2⟩:=Option.map_eq_some_iff.1 hs
 by_cases hb:b=b'
 ·subst hb
  simp [Op.equalIn,run_underlying hT,typeInfo,sizeOf,hi,run_sameAddr_same]
 ·have h2:=hsa.resolve_left hb
  simp [Op.equalIn,run_underlying hT,typeInfo,sizeOf,hi,hi2,h2,hb]
theorem eq_coreP (d:Nat) (b b':Nat) (i i' s s' f f':Int) (n n':ByteArray) (hsa:b=b'∨(sameAddr ⟨b,0,none⟩ ⟨b',0,none⟩).run Tryz.prog w = .ok false w):
  (Op.equalIn (d+3) 221 (.agg #[.pointer (some ⟨b,0,none⟩),.int .u16 i,.string n,.int .u8 f,.int .u16 s]) (.agg #[.pointer (some ⟨b',0,none⟩),.int .u16 i',.string n',.int .u8 f',.int .u16 s'])).run Tryz.prog w = .ok (b == b' && i == i' && n == n' && f == f' && s == s') w:=by
 have h1:=fun T hT=>eq_fam w (d+1) b b' hsa T hT
 go_simp
 rw [beq_toListBytes]
 by_cases h1:b=b'<;>by_cases h2:i=i'<;>by_cases h3:n.toList=n'.toList<;>by_cases h4:f=f'<;>by_cases h5:s=s'<;>simp [h1,h2,h3,h4,h5]
theorem eq_iface (d:Nat) {S T T':TypeId} {ms:Array (String × TypeId)} (x y:Value) (hS:Tryz.prog.underlying S=some (.interface ms)) (hne:T≠T'):(Op.equalIn (d+1) S (.iface T x) (.iface T' y)).run Tryz.prog w = .ok false w:=by
 simp [Op.equalIn,run_underlying hS,hne]
theorem eq_iface_one (d:Nat) {S T:TypeId} {ms:Array (String × TypeId)} (x y:Value) (hS:Tryz.prog.underlying S=some (.interface ms)) (hc:(Tryz.prog.info? T).map (·.comparable)=some true):(Op.equalIn (d+1) S (.iface T x) (.iface T y)).run Tryz.prog w=(Op.equalIn d T x y).run Tryz.prog w:=by
 obtain ⟨i,hi,hi2⟩:=Option.map_eq_some_iff.1 hc
 simp [Op.equalIn,run_underlying hS,typeInfo,hi,hi2]
theorem eq_vIface (d:Nat) {S:TypeId} {ms:Array (String × TypeId)} (hS:Tryz.prog.underlying S=some (.interface ms)) (i i' k k' s s':Int):
  (Op.equalIn (d+4) S (.iface 350 (.agg #[.int .u16 i,.int .u8 k,.int .u16 s])) (.iface 350 (.agg #[.int .u16 i',.int .u8 k',.int .u16 s']))).run Tryz.prog w = .ok (i == i' && k == k' && s == s') w:=by
 rw [eq_iface_one w (d+3) _ _ hS (by kernel_rfl),eq_coreV]
theorem eq_pIface (d:Nat) {S:TypeId} {ms:Array (String × TypeId)} (hS:Tryz.prog.underlying S=some (.interface ms)) (b b':Nat) (i i' s s' f f':Int) (n n':ByteArray) (hsa:b=b'∨(sameAddr ⟨b,0,none⟩ ⟨b',0,none⟩).run Tryz.prog w = .ok false w):
  (Op.equalIn (d+4) S (.iface 221 (.agg #[.pointer (some ⟨b,0,none⟩),.int .u16 i,.string n,.int .u8 f,.int .u16 s])) (.iface 221 (.agg #[.pointer (some ⟨b',0,none⟩),.int .u16 i',.string n',.int .u8 f',.int .u16 s']))).run Tryz.prog w = .ok (b == b' && i == i' && n == n' && f == f' && s == s') w:=by
 rw [eq_iface_one w (d+3) _ _ hS (by kernel_rfl),eq_coreP w d b b' i i' s s' f f' n n' hsa]
theorem eq_wrapV (d:Nat) (kind:Nat) (x y:Value) (c:Bool) (h:∀ {S ms} (_:Tryz.prog.underlying S=some (.interface ms)) d,(Op.equalIn (d+4) S x y).run Tryz.prog w = .ok c w):
  (Op.equalIn (d+10) 145 (wrapV kind x) (wrapV kind y)).run Tryz.prog w = .ok c w:=by
 have hR:=Tryz.underlying145
 unfold wrapV
 split
 ·rw [eq_iface_one w (d+9) _ _ hR (by kernel_rfl)]
  have hh:=fun d=>h Tryz.underlying329 d
  go_simp
  cases c<;>rfl
 ·rw [eq_iface_one w (d+9) _ _ hR (by kernel_rfl)]
  have hh:=fun d=>h Tryz.underlying329 d
  have h2:=fun d T (hT:Tryz.prog.underlying T=some (.interface (Tryz.prog.methodsAt T)))=>run_equalIn_nil_nil (P:=Tryz.prog) (w:=w) d T hT
  go_simp
  cases c<;>rfl
 ·rw [eq_iface_one w (d+9) _ _ hR (by kernel_rfl)]
  have hh:=fun d=>h Tryz.underlying329 d
  go_simp
  cases c<;>rfl
 ·exact h hR (d+6)
theorem eq_wrapP (d:Nat) (kind:Nat) (x y:Value) (c:Bool) (h:∀ {S ms} (_:Tryz.prog.underlying S=some (.interface ms)) d,(Op.equalIn (d+4) S x y).run Tryz.prog w = .ok c w):
  (Op.equalIn (d+10) 145 (wrapP kind x) (wrapP kind y)).run Tryz.prog w = .ok c w:=by
 have hR:=Tryz.underlying145
 unfold wrapP
 split
 ·rw [eq_iface_one w (d+9) _ _ hR (by kernel_rfl)]
  have hh:=fun d=>h Tryz.underlying147 d
  go_simp
  cases c<;>rfl
 ·rw [eq_iface_one w (d+9) _ _ hR (by kernel_rfl)]
  have hh:=fun d=>h Tryz.underlying147 d
  go_simp
  cases c<;>rfl
 ·rw [eq_iface_one w (d+9) _ _ hR (by kernel_rfl)]
  have hh:=fun d=>h Tryz.underlying147 d
  go_simp
  cases c<;>rfl
 ·exact h hR (d+6)
end
theorem congr2 {α β γ : Sort _} (f:α → β → γ) {a a':α} {b b':β} (h:a=a') (h':b=b'):f a b=f a' b':=by rw [h,h']
def wk (k:Nat):Nat:=if k=1∨k=2∨k=3 then k else 0
def R.same (r r':R):Bool:=r.virt == r'.virt && wk r.kind == wk r'.kind && (r.idx == r'.idx && r.spec == r'.spec) && (if r.virt then r.kind == r'.kind else r.fb == r'.fb && (r.name == r'.name && r.info == r'.info))
theorem wrapV_wk (k:Nat) (x:Value):wrapV k x=wrapV (wk k) x:=by
 unfold wk
 split
 ·rfl
 ·rename_i h
  unfold wrapV
  split<;>simp_all
theorem wrapP_wk (k:Nat) (x:Value):wrapP k x=wrapP (wk k) x:=by
 unfold wk
 split
 ·rfl
 ·rename_i h
  unfold wrapP
  split<;>simp_all
def tyV (k:Nat):TypeId:=match k with
 | 1=>352
 | 2=>354
 | 3=>355
 | _=>350
def tyP (k:Nat):TypeId:=match k with
 | 1=>265
 | 2=>269
 | 3=>270
 | _=>221
theorem wk_lt (k:Nat):wk k=0∨wk k=1∨wk k=2∨wk k=3:=by unfold wk;split<;>omega
theorem wrapV_ty (k:Nat) (x:Value):∃ v,wrapV k (.iface 350 x) = .iface (tyV (wk k)) v:=by
 rw [wrapV_wk]
 rcases wk_lt k with h | h | h | h<;>rw [h]<;>exact ⟨_,rfl⟩
theorem wrapP_ty (k:Nat) (x:Value):∃ v,wrapP k (.iface 221 x) = .iface (tyP (wk k)) v:=by
 rw [wrapP_wk]
 rcases wk_lt k with h | h | h | h<;>rw [h]<;>exact ⟨_,rfl⟩
theorem R.eqIn (w:World) (r r':R) (h:r.At w) (h':r'.At w):(Op.equalIn 10000 145 r.val r'.val).run Tryz.prog w = .ok (r.same r') w:=by
 obtain ⟨virt,kind,idx,spec,fb,name,info⟩:=r
 obtain ⟨virt',kind',idx',spec',fb',name',info'⟩:=r'
 have hR:=Tryz.underlying145
 have hcast:∀ a b:Nat,((a:Int) == (b:Int))=(a == b):=fun a b=>by
  rw [Bool.eq_iff_iff];simp;omega
 cases virt<;>cases virt'
 ·show (Op.equalIn 10000 _ (wrapP kind (.iface 221 (.agg #[.pointer (some ⟨fb,0,none⟩),.int .u16 (idx:Int),.string name,.int .u8 (info:Int),.int .u16 (spec:Int)]))) (wrapP kind' (.iface 221 (.agg #[.pointer (some ⟨fb',0,none⟩),.int .u16 (idx':Int),.string name',.int .u8 (info':Int),.int .u16 (spec':Int)])))).run Tryz.prog w=_
  obtain ⟨v,hb⟩:=h rfl
  obtain ⟨v',hb'⟩:=h' rfl
  simp only at hb hb'
  by_cases hk:wk kind=wk kind'
  ·have hsa:fb=fb'∨(sameAddr ⟨fb,0,none⟩ ⟨fb',0,none⟩).run Tryz.prog w = .ok false w:=by
    by_cases e:fb=fb'
    ·exact .inl e
    ·exact .inr (run_sameAddr_other w (fun h=>e (by injection h)) hb hb')
   rw [wrapP_wk,wrapP_wk kind',hk,eq_wrapP w 9990 (wk kind') _ _ _ (fun hS d=>eq_pIface w d hS fb fb' idx idx' spec spec' info info' name name' hsa)]
   congr 1
   simp only [hcast,R.same,hk]
   cases fb == fb'<;>cases idx == idx'<;>cases spec == spec'<;>cases name == name'<;>cases info == info'<;>simp
  ·obtain ⟨x,hx⟩:=wrapP_ty kind (.agg #[.pointer (some ⟨fb,0,none⟩),.int .u16 (idx:Int),.string name,.int .u8 (info:Int),.int .u16 (spec:Int)])
   obtain ⟨x',hx'⟩:=wrapP_ty kind' (.agg #[.pointer (some ⟨fb',0,none⟩),.int .u16 (idx':Int),.string name',.int .u8 (info':Int),.int .u16 (spec':Int)])
   rw [hx,hx',eq_iface w 9999 _ _ hR]
   ·simp [R.same,hk]
   ·rcases wk_lt kind with h | h | h | h<;>rcases wk_lt kind' with h' | h' | h' | h'<;>rw [h,h'] at hk ⊢ <;> first | exact absurd rfl hk | decide
 ·obtain ⟨x,hx⟩:=wrapP_ty kind (.agg #[.pointer (some ⟨fb,0,none⟩),.int .u16 (idx:Int),.string name,.int .u8 (info:Int),.int .u16 (spec:Int)])
  obtain ⟨x',hx'⟩:=wrapV_ty kind' (.agg #[.int .u16 (idx':Int),.int .u8 (kind':Int),.int .u16 (spec':Int)])
  show (Op.equalIn 10000 _ (wrapP kind _) (wrapV kind' _)).run Tryz.prog w=_
  refine (congr2 (fun a b=>(Op.equalIn 10000 _ a b).run Tryz.prog w) hx hx').trans ?_
  rw [eq_iface w 9999 _ _ hR]
  ·simp [R.same]
  ·rcases wk_lt kind with h | h | h | h<;>rcases wk_lt kind' with h' | h' | h' | h'<;>rw [h,h']<;>decide
 ·obtain ⟨x,hx⟩:=wrapV_ty kind (.agg #[.int .u16 (idx:Int),.int .u8 (kind:Int),.int .u16 (spec:Int)])
  obtain ⟨x',hx'⟩:=wrapP_ty kind' (.agg #[.pointer (some ⟨fb',0,none⟩),.int .u16 (idx':Int),.string name',.int .u8 (info':Int),.int .u16 (spec':Int)])
  show (Op.equalIn 10000 _ (wrapV kind _) (wrapP kind' _)).run Tryz.prog w=_
  refine (congr2 (fun a b=>(Op.equalIn 10000 _ a b).run Tryz.prog w) hx hx').trans ?_
  rw [eq_iface w 9999 _ _ hR]
  ·simp [R.same]
  ·rcases wk_lt kind with h | h | h | h<;>rcases wk_lt kind' with h' | h' | h' | h'<;>rw [h,h']<;>decide
 ·show (Op.equalIn 10000 _ (wrapV kind (.iface 350 (.agg #[.int .u16 (idx:Int),.int .u8 (kind:Int),.int .u16 (spec:Int)]))) (wrapV kind' (.iface 350 (.agg #[.int .u16 (idx':Int),.int .u8 (kind':Int),.int .u16 (spec':Int)])))).run Tryz.prog w=_
  by_cases hk:wk kind=wk kind'
  ·rw [wrapV_wk,wrapV_wk kind',hk,eq_wrapV w 9990 (wk kind') _ _ _ (fun hS d=>eq_vIface w d hS idx idx' kind kind' spec spec')]
   congr 1
   simp only [hcast,R.same,hk]
   cases idx == idx'<;>cases kind == kind'<;>cases spec == spec'<;>simp
  ·obtain ⟨x,hx⟩:=wrapV_ty kind (.agg #[.int .u16 (idx:Int),.int .u8 (kind:Int),.int .u16 (spec:Int)])
   obtain ⟨x',hx'⟩:=wrapV_ty kind' (.agg #[.int .u16 (idx':Int),.int .u8 (kind':Int),.int .u16 (spec':Int)])
   rw [hx,hx',eq_iface w 9999 _ _ hR]
   ·simp [R.same,hk]
   ·rcases wk_lt kind with h | h | h | h<;>rcases wk_lt kind' with h' | h' | h' | h'<;>rw [h,h'] at hk ⊢ <;> first | exact absurd rfl hk | decide
end
end Go.Proofs.YtpbeedabmjmdmaaGreatDoor
