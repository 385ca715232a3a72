/- Part of the proof of a statement about pub-berthage: what its texts have in common. -/
import Derived.LaidEql
import Derived.Laws.StructEq
import Derived.BigQuiet
import Derived.Test.YtjlfkgjmgghhiaaGreatP03
import Derived.Test.YtjlfkgjmgghhiaaGreatP06
namespace Go.Proofs.YtjlfkgjmgghhiaaGreat
section
open Go Go.RowKit Bth
set_option maxRecDepth 100000
section
variable (w:World)
theorem eq_coreV (d:Nat) (i i' k k' s s':Int):(Op.equalIn (d+3) 392 (.agg #[.int .u16 i,.int .u8 k,.int .u16 s]) (.agg #[.int .u16 i',.int .u8 k',.int .u16 s'])).run Tryz.prog w = .ok (i == i' && k == k' && s == s') w:=by
 go_simp
 by_cases h1:i=i'<;>by_cases h2:k=k'<;>by_cases h3:s=s'<;>simp [h1,h2,h3]
theorem eq_fam (d:Nat) (b b':Nat) (hsa:b=b'∨(sameAddr ⟨b,0,none⟩ ⟨b',0,none⟩).run Tryz.prog w = .ok false w) (T:TypeId) (hT:Tryz.prog.underlying T=some (.pointer 247)):(Op.equalIn (d+1) T (.pointer (some ⟨b,0,none⟩)) (.pointer (some ⟨b',0,none⟩))).run Tryz.prog w = .ok (b == b') w:=by
 have hs:(Tryz.prog.info? 247).map (·.size)=some 2:=by kernel_rfl
 obtain ⟨i,hi,hi2⟩:=Option.map_eq_some_iff.1 hs
 by_cases hb:b=b'
 ·subst hb
  simp [Op.equalIn,run_underlying hT,typeInfo,sizeOf,hi,run_sameAddr_same]
 ·have h2:=hsa.resolve_left hb
  simp [Op.equalIn,run_underlying hT,typeInfo,sizeOf,hi,hi2,h2,hb]
theorem eq_coreP (d:Nat) (b b':Nat) (i i' s s' f f':Int) (n n':ByteArray) (hsa:b=b'∨(sameAddr ⟨b,0,none⟩ ⟨b',0,none⟩).run Tryz.prog w = .ok false w):
  (Op.equalIn (d+3) 256 (.agg #[.pointer (some ⟨b,0,none⟩),.int .u16 i,.string n,.int .u8 f,.int .u16 s]) (.agg #[.pointer (some ⟨b',0,none⟩),.int .u16 i',.string n',.int .u8 f',.int .u16 s'])).run Tryz.prog w = .ok (b == b' && i == i' && n == n' && f == f' && s == s') w:=by
 have h1:=fun T hT=>eq_fam w (d+1) b b' hsa T hT
 go_simp
 rw [beq_toListBytes]
 by_cases h1:b=b'<;>by_cases h2:i=i'<;>by_cases h3:n.toList=n'.toList<;>by_cases h4:f=f'<;>by_cases h5:s=s'<;>simp [h1,h2,h3,h4,h5]
theorem eq_iface (d:Nat) {S T T':TypeId} {ms:Array (String × TypeId)} (x y:Value) (hS:Tryz.prog.underlying S=some (.interface ms)) (hne:T≠T'):(Op.equalIn (d+1) S (.iface T x) (.iface T' y)).run Tryz.prog w = .ok false w:=by
 simp [Op.equalIn,run_underlying hS,hne]
theorem eq_iface_one (d:Nat) {S T:TypeId} {ms:Array (String × TypeId)} (x y:Value) (hS:Tryz.prog.underlying S=some (.interface ms)) (hc:(Tryz.prog.info? T).map (·.comparable)=some true):(Op.equalIn (d+1) S (.iface T x) (.iface T y)).run Tryz.prog w=(Op.equalIn d T x y).run Tryz.prog w:=by
 obtain ⟨i,hi,hi2⟩:=Option.map_eq_some_iff.1 hc
 simp [Op.equalIn,run_underlying hS,typeInfo,hi,hi2]
theorem eq_vIface (d:Nat) {S:TypeId} {ms:Array (String × TypeId)} (hS:Tryz.prog.underlying S=some (.interface ms)) (i i' k k' s s':Int):
  (Op.equalIn (d+4) S (.iface 392 (.agg #[.int .u16 i,.int .u8 k,.int .u16 s])) (.iface 392 (.agg #[.int .u16 i',.int .u8 k',.int .u16 s']))).run Tryz.prog w = .ok (i == i' && k == k' && s == s') w:=by
 rw [eq_iface_one w (d+3) _ _ hS (by kernel_rfl),eq_coreV]
theorem eq_pIface (d:Nat) {S:TypeId} {ms:Array (String × TypeId)} (hS:Tryz.prog.underlying S=some (.interface ms)) (b b':Nat) (i i' s s' f f':Int) (n n':ByteArray) (hsa:b=b'∨(sameAddr ⟨b,0,none⟩ ⟨b',0,none⟩).run Tryz.prog w = .ok false w):
  (Op.equalIn (d+4) S (.iface 256 (.agg #[.pointer (some ⟨b,0,none⟩),.int .u16 i,.string n,.int .u8 f,.int .u16 s])) (.iface 256 (.agg #[.pointer (some ⟨b',0,none⟩),.int .u16 i',.string n',.int .u8 f',.int .u16 s']))).run Tryz.prog w = .ok (b == b' && i == i' && n == n' && f == f' && s == s') w:=by
 rw [eq_iface_one w (d+3) _ _ hS (by kernel_rfl),eq_coreP w d b b' i i' s s' f f' n n' hsa]
theorem eq_wrapV (d:Nat) (kind:Nat) (x y:Value) (c:Bool) (h:∀ {S ms} (_:Tryz.prog.underlying S=some (.interface ms)) d,(Op.equalIn (d+4) S x y).run Tryz.prog w = .ok c w):
  (Op.equalIn (d+10) 193 (wrapV kind x) (wrapV kind y)).run Tryz.prog w = .ok c w:=by
 have hR:=Tryz.underlying193
 unfold wrapV
 split
 ·rw [eq_iface_one w (d+9) _ _ hR (by kernel_rfl)]
  have hh:=fun d=>h Tryz.underlying376 d
  go_simp
  cases c<;>rfl
 ·rw [eq_iface_one w (d+9) _ _ hR (by kernel_rfl)]
  have hh:=fun d=>h Tryz.underlying376 d
  have h2:=fun d T (hT:Tryz.prog.underlying T=some (.interface (Tryz.prog.methodsAt T)))=>run_equalIn_nil_nil (P:=Tryz.prog) (w:=w) d T hT
  go_simp
  cases c<;>rfl
 ·rw [eq_iface_one w (d+9) _ _ hR (by kernel_rfl)]
  have hh:=fun d=>h Tryz.underlying376 d
  go_simp
  cases c<;>rfl
 ·exact h hR (d+6)
theorem eq_wrapP (d:Nat) (kind:Nat) (x y:Value) (c:Bool) (h:∀ {S ms} (_:Tryz.prog.underlying S=some (.interface ms)) d,(Op.equalIn (d+4) S x y).run Tryz.prog w = .ok c w):
  (Op.equalIn (d+10) 193 (wrapP kind x) (wrapP kind y)).run Tryz.prog w = .ok c w:=by
 have hR:=Tryz.underlying193
 unfold wrapP
 split
 ·rw [eq_iface_one w (d+9) _ _ hR (by kernel_rfl)]
  have hh:=fun d=>h Tryz.underlying204 d
  go_simp
  cases c<;>rfl
 ·rw [eq_iface_one w (d+9) _ _ hR (by kernel_rfl)]
  have hh:=fun d=>h Tryz.underlying204 d
  go_simp
  cases c<;>rfl
 ·rw [eq_iface_one w (d+9) _ _ hR (by kernel_rfl)]
  have hh:=fun d=>h Tryz.underlying204 d
  go_simp
  cases c<;>rfl
 ·exact h hR (d+6)
end
theorem congr2 {α β γ : Sort _} (f:α → β → γ) {a a':α} {b b':β} (h:a=a') (h':b=b'):f a b=f a' b':=by rw [h,h']
def wk (k:Nat):Nat:=if k=1∨k=2∨k=3 then k else 0
def R.same (r r':R):Bool:=r.virt == r'.virt && wk r.kind == wk r'.kind && (r.idx == r'.idx && r.spec == r'.spec) && (if r.virt then r.kind == r'.kind else r.fb == r'.fb && (r.name == r'.name && r.info == r'.info))
theorem wrapV_wk (k:Nat) (x:Value):wrapV k x=wrapV (wk k) x:=by
 unfold wk
 split
 ·rfl
 ·rename_i h
  unfold wrapV
  split<;>simp_all
theorem wrapP_wk (k:Nat) (x:Value):wrapP k x=wrapP (wk k) x:=by
 unfold wk
 split
 ·rfl
 ·rename_i h
  unfold wrapP
  split<;>simp_all
def tyV (k:Nat):TypeId:=match k with
 | 1=>394
 | 2=>396
 | 3=>397
 | _=>392
def tyP (k:Nat):TypeId:=match k with
 | 1=>305
 | 2=>309
 | 3=>310
 | _=>256
theorem wk_lt (k:Nat):wk k=0∨wk k=1∨wk k=2∨wk k=3:=by unfold wk;split<;>omega
theorem wrapV_ty (k:Nat) (x:Value):∃ v,wrapV k (.iface 392 x) = .iface (tyV (wk k)) v:=by
 rw [wrapV_wk]
 rcases wk_lt k with h | h | h | h<;>rw [h]<;>exact ⟨_,rfl⟩
theorem wrapP_ty (k:Nat) (x:Value):∃ v,wrapP k (.iface 256 x) = .iface (tyP (wk k)) v:=by
 rw [wrapP_wk]
 rcases wk_lt k with h | h | h | h<;>rw [h]<;>exact ⟨_,rfl⟩
theorem R.eqIn (w:World) (r r':R) (h:r.At w) (h':r'.At w):(Op.equalIn 10000 193 r.val r'.val).run Tryz.prog w = .ok (r.same r') w:=by
 obtain ⟨virt,kind,idx,spec,fb,name,info⟩:=r
 obtain ⟨virt',kind',idx',spec',fb',name',info'⟩:=r'
 have hR:=Tryz.underlying193
 have hcast:∀ a b:Nat,((a:Int) == (b:Int))=(a == b):=fun a b=>by
  rw [Bool.eq_iff_iff];simp;omega
 cases virt<;>cases virt'
 ·show (Op.equalIn 10000 _ (wrapP kind (.iface 256 (.agg #[.pointer (some ⟨fb,0,none⟩),.int .u16 (idx:Int),.string name,.int .u8 (info:Int),.int .u16 (spec:Int)]))) (wrapP kind' (.iface 256 (.agg #[.pointer (some ⟨fb',0,none⟩),.int .u16 (idx':Int),.string name',.int .u8 (info':Int),.int .u16 (spec':Int)])))).run Tryz.prog w=_
  obtain ⟨v,hb⟩:=h rfl
  obtain ⟨v',hb'⟩:=h' rfl
  simp only at hb hb'
  by_cases hk:wk kind=wk kind'
  ·have hsa:fb=fb'∨(sameAddr ⟨fb,0,none⟩ ⟨fb',0,none⟩).run Tryz.prog w = .ok false w:=by
    by_cases e:fb=fb'
    ·exact .inl e
    ·exact .inr (run_sameAddr_other w (fun h=>e (by injection h)) hb hb')
   rw [wrapP_wk,wrapP_wk kind',hk,eq_wrapP w 9990 (wk kind') _ _ _ (fun hS d=>eq_pIface w d hS fb fb' idx idx' spec spec' info info' name name' hsa)]
   congr 1
   simp only [hcast,R.same,hk]
   cases fb == fb'<;>cases idx == idx'<;>cases spec == spec'<;>cases name == name'<;>cases info == info'<;>simp
  ·obtain ⟨x,hx⟩:=wrapP_ty kind (.agg #[.pointer (some ⟨fb,0,none⟩),.int .u16 (idx:Int),.string name,.int .u8 (info:Int),.int .u16 (spec:Int)])
   obtain ⟨x',hx'⟩:=wrapP_ty kind' (.agg #[.pointer (some ⟨fb',0,none⟩),.int .u16 (idx':Int),.string name',.int .u8 (info':Int),.int .u16 (spec':Int)])
   rw [hx,hx',eq_iface w 9999 _ _ hR]
   ·simp [R.same,hk]
   ·rcases wk_lt kind with h | h | h | h<;>rcases wk_lt kind' with h' | h' | h' | h'<;>rw [h,h'] at hk ⊢ <;> first | exact absurd rfl hk | decide
 ·obtain ⟨x,hx⟩:=wrapP_ty kind (.agg #[.pointer (some ⟨fb,0,none⟩),.int .u16 (idx:Int),.string name,.int .u8 (info:Int),.int .u16 (spec:Int)])
  obtain ⟨x',hx'⟩:=wrapV_ty kind' (.agg #[.int .u16 (idx':Int),.int .u8 (kind':Int),.int .u16 (spec':Int)])
  show (Op.equalIn 10000 _ (wrapP kind _) (wrapV kind' _)).run Tryz.prog w=_
  refine (congr2 (fun a b=>(Op.equalIn 10000 _ a b).run Tryz.prog w) hx hx').trans ?_
  rw [eq_iface w 9999 _ _ hR]
  ·simp [R.same]
  ·rcases wk_lt kind with h | h | h | h<;>rcases wk_lt kind' with h' | h' | h' | h'<;>rw [h,h']<;>decide
 ·obtain ⟨x,hx⟩:=wrapV_ty kind (.agg #[.int .u16 (idx:Int),.int .u8 (kind:Int),.int .u16 (spec:Int)])
  obtain ⟨x',hx'⟩:=wrapP_ty kind' (.agg #[.pointer (some ⟨fb',0,none⟩),.int .u16 (idx':Int),.string name',.int .u8 (info':Int),.int .u16 (spec':Int)])
  show (Op.equalIn 10000 _ (wrapV kind _) (wrapP kind' _)).run Tryz.prog w=_
  refine (congr2 (fun a b=>(Op.equalIn 10000 _ a b).run Tryz.prog w) hx hx').trans ?_
  rw [eq_iface w 9999 _ _ hR]
  ·simp [R.same]
  ·rcases wk_lt kind with h | h | h | h<;>rcases wk_lt kind' with h' | h' | h' | h'<;>rw [h,h']<;>decide
 ·show (Op.equalIn 10000 _ (wrapV kind (.iface 392 (.agg #[.int .u16 (idx:Int),.int .u8 (kind:Int),.int .u16 (spec:Int)]))) (wrapV kind' (.iface 392 (.agg #[.int .u16 (idx':Int),.int .u8 (kind':Int),.int .u16 (spec':Int)])))).run Tryz.prog w=_
  by_cases hk:wk kind=wk kind'
  ·rw [wrapV_wk,wrapV_wk kind',hk,eq_wrapV w 9990 (wk kind') _ _ _ (fun hS d=>eq_vIface w d hS idx idx' kind kind' spec spec')]
   congr 1
   simp only [hcast,R.same,hk]
   cases idx == idx'<;>cases kind == kind'<;>cases spec == spec'<;>simp
  ·obtain ⟨x,hx⟩:=wrapV_ty kind (.agg #[.int .u16 (idx:Int),.int .u8 (kind:Int),.int .u16 (spec:Int)])
   obtain ⟨x',hx'⟩:=wrapV_ty kind' (.agg #[.int .u16 (idx':Int),.int .u8 (kind':Int),.int .u16 (spec':Int)])
   rw [hx,hx',eq_iface w 9999 _ _ hR]
   ·simp [R.same,hk]
   ·rcases wk_lt kind with h | h | h | h<;>rcases wk_lt kind' with h' | h' | h' | h'<;>rw [h,h'] at hk ⊢ <;> first | exact absurd rfl hk | decide
end
section
open Go Go.RowKit Bth
set_option maxRecDepth 100000
theorem R.eql (w:World) (r r':R) (h:r.At w) (h':r'.At w):(binOp .eql 193 r.val r'.val).run Tryz.prog w = .ok (.bool (r.same r')) w:=by
 obtain ⟨T,v,hv⟩:=r.val_iface
 obtain ⟨T',v',hv'⟩:=r'.val_iface
 have he:=R.eqIn w r r' h h'
 rw [hv,hv'] at he ⊢
 simp only [binOp]
 simp [Op.equal,Op.maxDepth,he]
def inRegs (canc:Bool) (ins outs:List O):List R:=
 (match canc,regsOf ins with
  | true,r :: r' :: l=>if r.same r' then [] else r :: r' :: l
  | _,l=>l) ++ regsOf (outs.filter O.isMem)
theorem inRegs_false (ins outs:List O):inRegs false ins outs=regsOf ins ++ regsOf (outs.filter O.isMem):=by
 unfold inRegs
 split<;>simp_all
theorem inRegs_true_no {ins:List O} {r r':R} (h0:(regsOf ins)[0]? = some r) (h1:(regsOf ins)[1]? = some r') (h:r.same r'=false) (outs:List O):inRegs true ins outs=regsOf ins ++ regsOf (outs.filter O.isMem):=by
 match hl:regsOf ins with
 | []=>rw [hl] at h0;cases h0
 | [a]=>rw [hl] at h1;cases h1
 | a :: b :: l=>
  rw [hl] at h0 h1
  injection h0 with h0
  injection h1 with h1
  subst h0 h1
  simp [inRegs,hl,h]
theorem inRegs_true_yes {ins:List O} {r r':R} (h0:(regsOf ins)[0]? = some r) (h1:(regsOf ins)[1]? = some r') (h:r.same r'=true) (outs:List O):inRegs true ins outs=[] ++ regsOf (outs.filter O.isMem):=by
 match hl:regsOf ins with
 | []=>rw [hl] at h0;cases h0
 | [a]=>rw [hl] at h1;cases h1
 | a :: b :: l=>
  rw [hl] at h0 h1
  injection h0 with h0
  injection h1 with h1
  subst h0 h1
  simp [inRegs,hl,h]
theorem filter_take_no {ys:List O} {j:Nat} {o:O} {p:O→Bool} (h:ys[j]? = some o) (hp:p o=false):(ys.take (j+1)).filter p=(ys.take j).filter p:=by
 rw [List.take_add_one,h];simp [hp]
theorem filter_take_yes {ys:List O} {j:Nat} {o:O} {p:O→Bool} (h:ys[j]? = some o) (hp:p o=true):(ys.take (j+1)).filter p=(ys.take j).filter p ++ [o]:=by
 rw [List.take_add_one,h];simp [hp]
theorem regsOf_filter {ys:List O} {j:Nat} {o:O} {p:O→Bool} (h:ys[j]? = some o) (hp:p o=true):regsOf ((ys.take (j+1)).filter p)=regsOf ((ys.take j).filter p) ++ o.regs:=by
 rw [filter_take_yes h hp];simp [regsOf]
theorem regsOf_filter_at {w:World} {s:SV} {xs:List O} {p:O→Bool} (h:OpsAt w s xs):∀ r∈regsOf (xs.filter p),r.Ok∧r.At w:=by
 intro r hr
 obtain ⟨o,ho,hr⟩:=List.mem_flatMap.1 hr
 exact h.2.2 o (List.mem_filter.1 ho).1 r hr
theorem own_two {w:World} {base n:Nat} {e:TypeId} {A:Option Addr} {c:Nat} {xs:List Value} (h:w.ownsRow base e 1 (.slice A n c) n xs) (hn:2≤n):∃ g x y,A=some ⟨g,0,none⟩∧g < w.heap.size∧xs[0]? = some x∧xs[1]? = some y∧w.cell? ⟨g,0,none⟩=some x∧w.cell? ⟨g,1,none⟩=some y:=by
 obtain ⟨g,rfl,hg,hc⟩:=own_cells h (by omega)
 have hl:=h.1
 have h0:xs[0]? = some (xs[0]'(by omega)):=List.getElem?_eq_getElem (by omega)
 have h1:xs[1]? = some (xs[1]'(by omega)):=List.getElem?_eq_getElem (by omega)
 exact ⟨g,_,_,rfl,hg,h0,h1,hc 0 _ h0,hc 1 _ h1⟩
set_option maxHeartbeats 2000000 in
theorem InputRegisters_calls (w:World) (i:Ins) (xs ys:List O) (hx:OpsAt w i.inp xs) (hy:OpsAt w i.out ys) (hl:xs.length≤1073741824) (hl':ys.length≤1073741824) (hcanc:i.canc=true→2≤(regsOf xs).length):
  Calls Tryz.prog 88 #[i.agg] w (GivesRegs w (inRegs i.canc xs ys)):=by
 obtain ⟨opc,suf,ops,⟨A,n,c⟩,⟨A',n',c'⟩,term,br,cond,canc,isa,pred,succ,lin,lout⟩:=i
 obtain ⟨rfl,hx1,hx2⟩:n=xs.length∧_:=hx
 obtain ⟨rfl,hy1,hy2⟩:n'=ys.length∧_:=hy
 have hx:OpsAt w ⟨A,xs.length,c⟩ xs:=⟨rfl,hx1,hx2⟩
 have hy:OpsAt w ⟨A',ys.length,c'⟩ ys:=⟨rfl,hy1,hy2⟩
 clear hx1 hx2 hy1 hy2
 simp only [Ins.agg,Ins.cells] at hcanc ⊢
 go_enter Tryz.func88,Tryz.ntmps88
 go_wp2
 have hbox:∃ cs,(w.alloc (.cells cs 174)).heap[w.heap.size]? = some (.cells #[.string opc,.slice suf.A suf.n suf.c,.slice ops.A ops.n ops.c,.slice A xs.length c,.slice A' ys.length c',.bool term,.bool br,.bool cond,.bool canc,.slice isa.A isa.n isa.c,.slice pred.A pred.n pred.c,.slice succ.A succ.n succ.c,.map lin,.map lout] 174):=⟨_,heap_alloc_new w _⟩
 go_loopg [3,11] xs.length (fun n c3 c11 wr=>∃ k:Nat,k≤xs.length∧c11 = .int .i64 (k:Int)∧wr.ownsRow (w.heap.size+1) 193 1 c3 (regsOf (xs.take k)).length ((regsOf (xs.take k)).map R.val)∧Fr nope w wr ∧
   wr.heap[w.heap.size]? = some (.cells #[.string opc,.slice suf.A suf.n suf.c,.slice ops.A ops.n ops.c,.slice A xs.length c,.slice A' ys.length c',.bool term,.bool br,.bool cond,.bool canc,.slice isa.A isa.n isa.c,.slice pred.A pred.n pred.c,.slice succ.A succ.n succ.c,.map lin,.map lout] 174)∧n=xs.length - k)
 case atStart=>exact ⟨0,Nat.zero_le _,rfl,by simpa [regsOf] using own_nil _ _ _ _,(Fr.refl _ _).alloc _,heap_alloc_new w _,rfl⟩
 case round=>
  obtain ⟨k,hk,rfl,hown,hf,hbx,rfl⟩:=hrel
  by_cases hlt:k < xs.length
  ·obtain ⟨b,off,o,hA,hbl,hok,hc,hat⟩:=(hx.nope hf).at_ hlt
   simp only at hA
   subst hA
   have hT:=Lib.hid (regsOf_take hok)
   have hB1:=regsOf_le (xs.take k)
   have hB2:=o.regs_le
   have hB3:(xs.take k).length≤k:=by rw [List.length_take];omega
   have hbl2:=lt_of_heap hbx
   clear hok hx hy hcanc
   go_wp2_with (first
    | (go_at_call 126;refine (OpRegs_calls _ o hat).mono ?_;rintro e w2 ⟨A2,c2,rfl,⟨hS2,_⟩,hf2⟩)
    | (have hown2:=own_fr hown hf2 (fun _ _ x=>x);refine wpList_app (v:=u3) rfl rfl Tryz.underlying179 infoReg rfl (by omega) rfl hown2 rfl (news:=o.regs.map R.val) (by simp) (Sl.src hS2) (regs_one _) (by simp only [maxLen];omega) (by omega) (by have:=hf.size;have:=hf2.size;omega) ?_;intro v3 w3 hown3 hf3 _))
   go_roundg (xs.length - (k+1))
   case measure=>omega
   case rel=>exact ⟨k+1,by omega,by go_num,by rw [hT.out];simpa using hown3,(hf.then hf2).then_new hf3 (fun x hx he=>by have:=own_base hown x he;omega),hf3.heap (hf2.heap hbx (fun x=>x)) (fun he=>by have:=own_base hown _ he;omega),rfl⟩
  ·have e:xs.take k=xs:=List.take_of_length_le (by omega)
   rw [e] at hown
   obtain ⟨A1,c1,rfl,_,_⟩:=own_slice hown
   have hrs:=regsOf_at (hx.nope hf)
   have hbl2:=lt_of_heap hbx
   cases canc with
   | false=>
    have hc8:wr.cell? ⟨w.heap.size,8,none⟩=some (.bool false):=by rw [cell_of_row wr w.heap.size 8 _ _ (0,0) hbx];rfl
    have hc4:wr.cell? ⟨w.heap.size,4,none⟩=some (.slice A' ys.length c'):=by rw [cell_of_row wr w.heap.size 4 _ _ (0,0) hbx];rfl
    have hc4':∀ m o,((wr.drewN m).alloc o).cell? ⟨w.heap.size,4,none⟩=some (.slice A' ys.length c'):=fun m o=>((Fr.refl nope (wr.drewN m)).alloc o).cell hc4 (fun x=>x)
    go_wp2
    go_quiet (fail)
    go_wp2
    have hin:=inRegs_false xs ys
    have hlen:(regsOf xs).length≤2147483648:=by have:=regsOf_le xs;omega
    have hat0:=regsOf_at hx
    have hown0:(wr.drewN nq).ownsRow _ _ _ _ _ _:=hown
    have hf0:=hf.drewN nq
    have hs0:w.heap.size+1≤(wr.drewN nq).heap.size:=hbl2
    clear hown hrs
    clear hcanc
    generalize regsOf xs=l0 at hin hlen hat0 hown0 ⊢
    go_loopg [3,35] ys.length (fun n c3 c35 w2=>∃ j:Nat,j≤ys.length∧c35 = .int .i64 (j:Int)∧w2.ownsRow (w.heap.size+1) 193 1 c3 (l0 ++ regsOf ((ys.take j).filter O.isMem)).length ((l0 ++ regsOf ((ys.take j).filter O.isMem)).map R.val)∧Fr nope w w2∧w.heap.size+1≤w2.heap.size∧n=ys.length - j)
    case atStart=>exact ⟨0,Nat.zero_le _,rfl,by simpa [regsOf] using hown0,hf0,hs0,rfl⟩
    case round=>
     obtain ⟨j,hj,rfl,hownj,hfj,hsj,rfl⟩:=hrel
     clear hown0 hf0
     by_cases hjl:j < ys.length
     ·obtain ⟨b,off,o,hA,hbl,hok,hc,hat⟩:=(hy.nope hfj).at_ hjl
      simp only at hA
      subst hA
      have hB1:=regsOf_le ((ys.take j).filter O.isMem)
      have hB2:=o.regs_le
      have hB3:((ys.take j).filter O.isMem).length≤ys.length:=Nat.le_trans (List.length_filter_le _ _) (by rw [List.length_take];omega)
      have hB4:(l0 ++ regsOf ((ys.take j).filter O.isMem)).length≤4294967296:=by rw [List.length_append];omega
      cases hm:o.isMem
      ·have hT:=filter_take_no hok hm
       clear hok
       go_wp2_with (go_at_call 127;refine (IsMem_calls _ o).mono ?_;rw [hm];rintro e w3 ⟨rfl,hf3⟩)
       go_roundg (ys.length - (j+1))
       case measure=>omega
       case rel=>exact ⟨j+1,by omega,by go_num,by rw [hT];exact own_fr hownj hf3 (fun _ _ x=>x),hfj.then hf3,Nat.le_trans hsj hf3.size,rfl⟩
      ·have hT:=Lib.hid (regsOf_filter hok hm)
       clear hok
       go_wp2_with (first
        | (go_at_call 127;refine (IsMem_calls _ o).mono ?_;rw [hm];rintro e w3 ⟨rfl,hf3⟩)
        | (go_at_call 126;refine (OpRegs_calls _ o (hat.nope hf3)).mono ?_;rintro e w4 ⟨A2,c2,rfl,⟨hS2,_⟩,hf4⟩)
        | (have hown2:=own_fr hownj (hf3.then hf4) (fun _ _ x=>x);refine wpList_app (v:=u3) rfl rfl Tryz.underlying179 infoReg rfl (by omega) rfl hown2 rfl (news:=o.regs.map R.val) (by simp) (Sl.src hS2) (regs_one _) (by simp only [maxLen];omega) (by omega) (by have:=hf3.size;have:=hf4.size;omega) ?_;intro v5 w5 hown5 hf5 _))
       go_roundg (ys.length - (j+1))
       case measure=>omega
       case rel=>exact ⟨j+1,by omega,by go_num,by rw [hT.out,← List.append_assoc];simpa [Nat.add_assoc] using hown5,((hfj.then hf3).then hf4).then_new hf5 (fun x hx he=>by have:=own_base hownj x he;omega),by have:=hf3.size;have:=hf4.size;have:=hf5.size;omega,rfl⟩
     ·have e2:ys.take j=ys:=List.take_of_length_le (by omega)
      rw [e2] at hownj
      go_wp2
      go_ret
      rw [hin]
      obtain ⟨A5,c5,rfl,_,_⟩:=own_slice hownj
      exact ⟨A5,c5,rfl,⟨own_Sl hownj,fun r hr=>by
       rcases List.mem_append.1 hr with h | h
       ·exact ⟨(hat0 r h).1,(hat0 r h).2.nope hfj⟩
       ·exact regsOf_filter_at (hy.nope hfj) r h⟩,hfj⟩
   | true=>
    have hn:=hcanc rfl
    have hn0:0 < (regsOf xs).length:=by omega
    have hn1:1 < (regsOf xs).length:=by omega
    have hn2:(0:Int) < ((regsOf xs).length:Int):=by omega
    have hn3:(1:Int) < ((regsOf xs).length:Int):=by omega
    obtain ⟨g,x0,x1,rfl,hg,h0,h1,hc0,hc1⟩:=own_two hown hn
    rw [List.getElem?_map] at h0 h1
    obtain ⟨r0,hr0,rfl⟩:=Option.map_eq_some_iff.1 h0
    obtain ⟨r1,hr1,rfl⟩:=Option.map_eq_some_iff.1 h1
    have heql:=fun m=>R.eql (wr.drewN m) r0 r1 (hrs r0 (List.mem_of_getElem? hr0)).2 (hrs r1 (List.mem_of_getElem? hr1)).2
    have hc8:wr.cell? ⟨w.heap.size,8,none⟩=some (.bool true):=by rw [cell_of_row wr w.heap.size 8 _ _ (0,0) hbx];rfl
    have hc4:wr.cell? ⟨w.heap.size,4,none⟩=some (.slice A' ys.length c'):=by rw [cell_of_row wr w.heap.size 4 _ _ (0,0) hbx];rfl
    have hc4':∀ m o,((wr.drewN m).alloc o).cell? ⟨w.heap.size,4,none⟩=some (.slice A' ys.length c'):=fun m o=>((Fr.refl nope (wr.drewN m)).alloc o).cell hc4 (fun x=>x)
    obtain ⟨T0,v0,e0⟩:=r0.val_iface
    obtain ⟨T1,v1,e1⟩:=r1.val_iface
    rw [e0] at heql hc0
    rw [e1] at heql hc1
    cases hsm:r0.same r1
    ·rw [hsm] at heql
     go_wp2
     go_quiet (fail)
     go_wp2
     have hin:=inRegs_true_no hr0 hr1 hsm ys
     have hlen:(regsOf xs).length≤2147483648:=by have:=regsOf_le xs;omega
     have hat0:=regsOf_at hx
     have hown0:(wr.drewN nq).ownsRow _ _ _ _ _ _:=hown
     have hf0:=hf.drewN nq
     have hs0:w.heap.size+1≤(wr.drewN nq).heap.size:=hbl2
     clear hn0 hn1 hn2 hn3 hc0 hc1 h0 h1 heql hr0 hr1 hn hown hrs hcanc
     generalize regsOf xs=l0 at hin hlen hat0 hown0 ⊢
     go_loopg [3,35] ys.length (fun n c3 c35 w2=>∃ j:Nat,j≤ys.length∧c35 = .int .i64 (j:Int)∧w2.ownsRow (w.heap.size+1) 193 1 c3 (l0 ++ regsOf ((ys.take j).filter O.isMem)).length ((l0 ++ regsOf ((ys.take j).filter O.isMem)).map R.val)∧Fr nope w w2∧w.heap.size+1≤w2.heap.size∧n=ys.length - j)
     case atStart=>exact ⟨0,Nat.zero_le _,rfl,by simpa [regsOf] using hown0,hf0,hs0,rfl⟩
     case round=>
      obtain ⟨j,hj,rfl,hownj,hfj,hsj,rfl⟩:=hrel
      clear hown0 hf0
      by_cases hjl:j < ys.length
      ·obtain ⟨b,off,o,hA,hbl,hok,hc,hat⟩:=(hy.nope hfj).at_ hjl
       simp only at hA
       subst hA
       have hB1:=regsOf_le ((ys.take j).filter O.isMem)
       have hB2:=o.regs_le
       have hB3:((ys.take j).filter O.isMem).length≤ys.length:=Nat.le_trans (List.length_filter_le _ _) (by rw [List.length_take];omega)
       have hB4:(l0 ++ regsOf ((ys.take j).filter O.isMem)).length≤4294967296:=by rw [List.length_append];omega
       cases hm:o.isMem
       ·have hT:=filter_take_no hok hm
        clear hok
        go_wp2_with (go_at_call 127;refine (IsMem_calls _ o).mono ?_;rw [hm];rintro e w3 ⟨rfl,hf3⟩)
        go_roundg (ys.length - (j+1))
        case measure=>omega
        case rel=>exact ⟨j+1,by omega,by go_num,by rw [hT];exact own_fr hownj hf3 (fun _ _ x=>x),hfj.then hf3,Nat.le_trans hsj hf3.size,rfl⟩
       ·have hT:=Lib.hid (regsOf_filter hok hm)
        clear hok
        go_wp2_with (first
         | (go_at_call 127;refine (IsMem_calls _ o).mono ?_;rw [hm];rintro e w3 ⟨rfl,hf3⟩)
         | (go_at_call 126;refine (OpRegs_calls _ o (hat.nope hf3)).mono ?_;rintro e w4 ⟨A2,c2,rfl,⟨hS2,_⟩,hf4⟩)
         | (have hown2:=own_fr hownj (hf3.then hf4) (fun _ _ x=>x);refine wpList_app (v:=u3) rfl rfl Tryz.underlying179 infoReg rfl (by omega) rfl hown2 rfl (news:=o.regs.map R.val) (by simp) (Sl.src hS2) (regs_one _) (by simp only [maxLen];omega) (by omega) (by have:=hf3.size;have:=hf4.size;omega) ?_;intro v5 w5 hown5 hf5 _))
        go_roundg (ys.length - (j+1))
        case measure=>omega
        case rel=>exact ⟨j+1,by omega,by go_num,by rw [hT.out,← List.append_assoc];simpa [Nat.add_assoc] using hown5,((hfj.then hf3).then hf4).then_new hf5 (fun x hx he=>by have:=own_base hownj x he;omega),by have:=hf3.size;have:=hf4.size;have:=hf5.size;omega,rfl⟩
      ·have e2:ys.take j=ys:=List.take_of_length_le (by omega)
       rw [e2] at hownj
       go_wp2
       go_ret
       rw [hin]
       obtain ⟨A5,c5,rfl,_,_⟩:=own_slice hownj
       exact ⟨A5,c5,rfl,⟨own_Sl hownj,fun r hr=>by
        rcases List.mem_append.1 hr with h | h
        ·exact ⟨(hat0 r h).1,(hat0 r h).2.nope hfj⟩
        ·exact regsOf_filter_at (hy.nope hfj) r h⟩,hfj⟩
    ·rw [hsm] at heql
     go_wp2
     go_quiet (fail)
     go_wp2
     obtain ⟨l0,hl0⟩:∃ l0:List R,l0=[]:=⟨_,rfl⟩
     have hin:inRegs true xs ys=l0 ++ regsOf (ys.filter O.isMem):=by rw [hl0];exact inRegs_true_yes hr0 hr1 hsm ys
     have hlen:l0.length≤2147483648:=by rw [hl0];simp
     have hat0:∀ r∈l0,r.Ok∧r.At w:=by rw [hl0];intro r hr;cases hr
     have hown0:((wr.drewN nq).alloc (.cells #[] 193)).ownsRow (w.heap.size+1) 193 1 (.slice (some ⟨wr.heap.size,0,none⟩) 0 0) 0 []:=by
      exact ⟨rfl,.inr ⟨wr.heap.size,0,#[],rfl,by omega,heap_alloc_new (wr.drewN nq) _,by simp,by simp,by simp,by simp⟩⟩
     have hf0:=(hf.drewN nq).alloc (.cells #[] 193)
     have hs0:w.heap.size+1≤((wr.drewN nq).alloc (.cells #[] 193)).heap.size:=by simp;omega
     clear hn0 hn1 hn2 hn3 hc0 hc1 h0 h1 heql hr0 hr1 hn hown hrs hcanc
     have hl1:=Lib.hid hl0
     clear hl0
     go_loopg [3,35] ys.length (fun n c3 c35 w2=>∃ j:Nat,j≤ys.length∧c35 = .int .i64 (j:Int)∧w2.ownsRow (w.heap.size+1) 193 1 c3 (l0 ++ regsOf ((ys.take j).filter O.isMem)).length ((l0 ++ regsOf ((ys.take j).filter O.isMem)).map R.val)∧Fr nope w w2∧w.heap.size+1≤w2.heap.size∧n=ys.length - j)
     case atStart=>exact ⟨0,Nat.zero_le _,rfl,by have e:=hl1.out;rw [e];simpa [regsOf] using hown0,hf0,hs0,rfl⟩
     case round=>
      obtain ⟨j,hj,rfl,hownj,hfj,hsj,rfl⟩:=hrel
      clear hown0 hf0
      by_cases hjl:j < ys.length
      ·obtain ⟨b,off,o,hA,hbl,hok,hc,hat⟩:=(hy.nope hfj).at_ hjl
       simp only at hA
       subst hA
       have hB1:=regsOf_le ((ys.take j).filter O.isMem)
       have hB2:=o.regs_le
       have hB3:((ys.take j).filter O.isMem).length≤ys.length:=Nat.le_trans (List.length_filter_le _ _) (by rw [List.length_take];omega)
       have hB4:(l0 ++ regsOf ((ys.take j).filter O.isMem)).length≤4294967296:=by rw [List.length_append];omega
       cases hm:o.isMem
       ·have hT:=filter_take_no hok hm
        clear hok
        go_wp2_with (go_at_call 127;refine (IsMem_calls _ o).mono ?_;rw [hm];rintro e w3 ⟨rfl,hf3⟩)
        go_roundg (ys.length - (j+1))
        case measure=>omega
        case rel=>exact ⟨j+1,by omega,by go_num,by rw [hT];exact own_fr hownj hf3 (fun _ _ x=>x),hfj.then hf3,Nat.le_trans hsj hf3.size,rfl⟩
       ·have hT:=Lib.hid (regsOf_filter hok hm)
        clear hok
        go_wp2_with (first
         | (go_at_call 127;refine (IsMem_calls _ o).mono ?_;rw [hm];rintro e w3 ⟨rfl,hf3⟩)
         | (go_at_call 126;refine (OpRegs_calls _ o (hat.nope hf3)).mono ?_;rintro e w4 ⟨A2,c2,rfl,⟨hS2,_⟩,hf4⟩)
         | (have hown2:=own_fr hownj (hf3.then hf4) (fun _ _ x=>x);refine wpList_app (v:=u3) rfl rfl Tryz.underlying179 infoReg rfl (by omega) rfl hown2 rfl (news:=o.regs.map R.val) (by simp) (Sl.src hS2) (regs_one _) (by simp only [maxLen];omega) (by omega) (by have:=hf3.size;have:=hf4.size;omega) ?_;intro v5 w5 hown5 hf5 _))
        go_roundg (ys.length - (j+1))
        case measure=>omega
        case rel=>exact ⟨j+1,by omega,by go_num,by rw [hT.out,← List.append_assoc];simpa [Nat.add_assoc] using hown5,((hfj.then hf3).then hf4).then_new hf5 (fun x hx he=>by have:=own_base hownj x he;omega),by have:=hf3.size;have:=hf4.size;have:=hf5.size;omega,rfl⟩
      ·have e2:ys.take j=ys:=List.take_of_length_le (by omega)
       rw [e2] at hownj
       go_wp2
       go_ret
       rw [hin]
       obtain ⟨A5,c5,rfl,_,_⟩:=own_slice hownj
       exact ⟨A5,c5,rfl,⟨own_Sl hownj,fun r hr=>by
        rcases List.mem_append.1 hr with h | h
        ·exact ⟨(hat0 r h).1,(hat0 r h).2.nope hfj⟩
        ·exact regsOf_filter_at (hy.nope hfj) r h⟩,hfj⟩
end
end Go.Proofs.YtjlfkgjmgghhiaaGreat
