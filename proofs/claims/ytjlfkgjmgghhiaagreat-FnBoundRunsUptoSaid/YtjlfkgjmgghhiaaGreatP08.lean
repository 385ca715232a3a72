/- Part of the proof of a statement about pub-berthage: what its texts have in common. -/
import Derived.BigQuiet
import Derived.Test.YtjlfkgjmgghhiaaGreatP03
import Derived.Test.YtjlfkgjmgghhiaaGreatP06
namespace Go.Proofs.YtjlfkgjmgghhiaaGreat
section
open Go Go.RowKit Bth
set_option maxRecDepth 100000
def O.asReg:O→Option R
 | .reg r=>some r
 | _=>none
def outRegs (outs:List O):List R:=outs.filterMap O.asReg
theorem outRegs_take_none {ys:List O} {j:Nat} {o:O} (h:ys[j]? = some o) (hp:o.asReg=none):outRegs (ys.take (j+1))=outRegs (ys.take j):=by
 unfold outRegs;rw [List.take_add_one,h];simp [hp]
theorem outRegs_take_some {ys:List O} {j:Nat} {o:O} {r:R} (h:ys[j]? = some o) (hp:o.asReg=some r):outRegs (ys.take (j+1))=outRegs (ys.take j) ++ [r]:=by
 unfold outRegs;rw [List.take_add_one,h];simp [hp]
theorem outRegs_le (ys:List O):(outRegs ys).length≤ys.length:=List.length_filterMap_le _ _
theorem outRegs_at {w:World} {s:SV} {xs:List O} (h:OpsAt w s xs):∀ r∈outRegs xs,r.Ok∧r.At w:=by
 intro r hr
 obtain ⟨o,ho,hr⟩:=List.mem_filterMap.1 hr
 cases o with
 | reg r'=>cases hr;exact h.2.2 _ ho _ (by simp [O.regs])
 | _=>cases hr
set_option maxHeartbeats 1000000 in
theorem OutputRegisters_own (w:World) (i:Ins) (xs:List O) (hx:OpsAt w i.out xs) (hl:xs.length≤1073741824):
  Calls Tryz.prog 91 #[i.agg] w (GivesOwnRegs w (outRegs xs)):=by
 obtain ⟨opc,suf,ops,inp,⟨A,n,c⟩,term,br,cond,canc,isa,pred,succ,lin,lout⟩:=i
 obtain ⟨rfl,hx1,hx2⟩:n=xs.length∧_:=hx
 have hx:OpsAt w ⟨A,xs.length,c⟩ xs:=⟨rfl,hx1,hx2⟩
 clear hx1 hx2
 simp only [Ins.agg,Ins.cells]
 go_enter Tryz.func91,Tryz.ntmps91
 go_wp2
 go_loopg [3,11] xs.length (fun n c3 c11 wr=>∃ k:Nat,k≤xs.length∧c11 = .int .i64 (k:Int)∧wr.ownsRow w.heap.size 193 1 c3 (outRegs (xs.take k)).length ((outRegs (xs.take k)).map R.val)∧Fr nope w wr∧n=xs.length - k)
 case atStart=>exact ⟨0,Nat.zero_le _,rfl,by simpa [outRegs] using own_nil _ _ _ _,(Fr.refl _ _).alloc _,rfl⟩
 case round=>
  obtain ⟨k,hk,rfl,hown,hf,rfl⟩:=hrel
  by_cases hlt:k < xs.length
  ·obtain ⟨b,off,o,hA,hbl,hok,hc,hat⟩:=(hx.nope hf).at_ hlt
   simp only at hA
   subst hA
   have hB1:=outRegs_le (xs.take k)
   have hB3:(xs.take k).length≤k:=by rw [List.length_take];omega
   have hta:=fun W=>O.ta_Register W 221 o
   cases hr:o.asReg with
   | none=>
    have hT:=Lib.hid (outRegs_take_none hok hr)
    have hir:o.isReg=false:=by cases o<;>simp_all [O.asReg,O.isReg]
    clear hok hx hr
    rw [hir] at hta
    obtain ⟨T,v,hv⟩:=o.val_iface
    rw [hv] at hta hc
    clear hv hir
    simp only [Bool.false_eq_true,if_false] at hta
    go_wp2
    go_roundg (xs.length - (k+1))
    case measure=>omega
    case rel=>exact ⟨k+1,by omega,by go_num,by rw [hT.out];exact hown,hf,rfl⟩
   | some r=>
    have hT:=Lib.hid (outRegs_take_some hok hr)
    have hir:o = .reg r:=by cases o<;>simp_all [O.asReg]
    subst hir
    clear hok hx hr
    simp only [O.val,O.isReg,if_true] at hta hc
    obtain ⟨T,v,hv⟩:=r.val_iface
    rw [hv] at hta hc
    have h1:∀ u∈[R.val r],u.oneCell'=true:=regs_one [r]
    rw [hv] at h1
    go_wp2_with (refine wpList_app (v:=u3) rfl rfl Tryz.underlying179 infoReg rfl (by omega) rfl (own_fr hown ((Fr.refl nope _).alloc _) (fun _ _ x=>x)) rfl (news:=[.iface T v]) rfl (one_new _ _ _ _ rfl) h1 (by simp only [maxLen];omega) (by omega) (by have:=hf.size;simp;omega) ?_;intro v3 w3 hown3 hf3 _)
    go_roundg (xs.length - (k+1))
    case measure=>omega
    case rel=>exact ⟨k+1,by omega,by go_num,by rw [hT.out,List.map_append,List.length_append,show [r].map R.val=[.iface T v] from by rw [← hv];rfl];exact hown3,(hf.alloc _).then_new hf3 (fun x hx he=>by have:=own_base hown x he;omega),rfl⟩
  ·go_wp2
   go_ret
   have e:xs.take k=xs:=List.take_of_length_le (by omega)
   rw [e] at hown
   obtain ⟨A',c',rfl,_,_⟩:=own_slice hown
   exact ⟨A',c',rfl,hown,outRegs_at (hx.nope hf),hf⟩
theorem OutputRegisters_calls (w:World) (i:Ins) (xs:List O) (hx:OpsAt w i.out xs) (hl:xs.length≤1073741824):
  Calls Tryz.prog 91 #[i.agg] w (GivesRegs w (outRegs xs)):=(OutputRegisters_own w i xs hx hl).mono fun _ _ h=>h.regs
theorem IsUncond_calls (w:World) (i:Ins):
  Calls Tryz.prog 86 #[i.agg] w fun e w'=>e = .returned (.bool (i.br && !i.cond))∧Fr nope w w':=by
 obtain ⟨opc,suf,ops,inp,out,term,br,cond,canc,isa,pred,succ,lin,lout⟩:=i
 simp only [Ins.agg,Ins.cells]
 cases br
 all_goals
  go_enter Tryz.func86,Tryz.ntmps86
  go_wp2
  go_ret
  exact ⟨rfl,(Fr.refl _ _).alloc _⟩
def targetOf (br:Bool) (ops:List O):Option ByteArray:=
 match br,ops with
 | true,.label s :: _=>some s
 | _,_=>none
theorem cell_new (w:World) (v:Value) (t:TypeId) (b:Nat) (hb:b=w.heap.size):(w.alloc (.cells #[v] t)).cell? ⟨b,0,none⟩=some v:=by
 subst hb
 rw [cell_of_row _ _ 0 _ _ (0,0) (heap_alloc_new w _)]
 rfl
theorem TargetLabel_none (w:World) (i:Ins) (xs:List O) (hx:OpsAt w i.ops xs) (ht:targetOf i.br xs=none):
  Calls Tryz.prog 85 #[i.agg] w fun e w'=>e = .returned (.pointer none)∧Fr nope w w':=by
 obtain ⟨opc,suf,⟨A,n,c⟩,inp,out,term,br,cond,canc,isa,pred,succ,lin,lout⟩:=i
 obtain ⟨rfl,hx1,hx2⟩:n=xs.length∧_:=hx
 have hx:OpsAt w ⟨A,xs.length,c⟩ xs:=⟨rfl,hx1,hx2⟩
 clear hx1 hx2
 simp only [Ins.agg,Ins.cells] at ht ⊢
 cases br with
 | false=>
  go_enter Tryz.func85,Tryz.ntmps85
  go_wp2
  go_ret
  exact ⟨rfl,(Fr.refl _ _).alloc _⟩
 | true=>
  cases xs with
  | nil=>
   simp only [List.length_nil]
   go_enter Tryz.func85,Tryz.ntmps85
   go_wp2
   go_ret
   exact ⟨rfl,(Fr.refl _ _).alloc _⟩
  | cons o xs=>
   obtain ⟨b,off,o',hA,hbl,hok,hc,hat⟩:=hx.at_ (k:=0) (by simp)
   simp only [List.getElem?_cons_zero,Option.some.injEq] at hok
   subst hok
   simp only at hA
   subst hA
   have hlab:o.isLabel=false:=by cases o<;>simp_all [targetOf,O.isLabel]
   have hta:=fun W=>O.ta_LabelRef W 221 o
   rw [hlab] at hta
   obtain ⟨T,v,hv⟩:=o.val_iface
   rw [hv] at hta hc
   rw [Nat.add_zero] at hc
   generalize o.labelOf=lab at hta
   clear hx hv ht hat
   have hn:(o :: xs).length=xs.length+1:=rfl
   rw [hn]
   have h0:(((xs.length+1:Nat):Int) == 0)=false:=by simp;omega
   have h00:((xs.length+1:Nat):Int)≠0:=by omega
   have h1:(0:Int) < ((xs.length+1:Nat):Int):=by omega
   have h2:(0:Nat) < xs.length+1:=by omega
   go_enter Tryz.func85,Tryz.ntmps85
   go_wp2
   go_ret
   exact ⟨rfl,(Fr.refl _ _).alloc _⟩
theorem TargetLabel_some (w:World) (i:Ins) (xs:List O) (s:ByteArray) (hx:OpsAt w i.ops xs) (ht:targetOf i.br xs=some s):
  Calls Tryz.prog 85 #[i.agg] w fun e w'=>∃ b,e = .returned (.pointer (some ⟨b,0,none⟩))∧b < w'.heap.size∧w'.cell? ⟨b,0,none⟩=some (.string s)∧Fr nope w w':=by
 obtain ⟨opc,suf,⟨A,n,c⟩,inp,out,term,br,cond,canc,isa,pred,succ,lin,lout⟩:=i
 obtain ⟨rfl,hx1,hx2⟩:n=xs.length∧_:=hx
 have hx:OpsAt w ⟨A,xs.length,c⟩ xs:=⟨rfl,hx1,hx2⟩
 clear hx1 hx2
 simp only [Ins.agg,Ins.cells] at ht ⊢
 obtain ⟨rfl,xs',rfl⟩:br=true∧∃ xs',xs = .label s :: xs':=by
  unfold targetOf at ht
  split at ht
  ·injection ht with ht;subst ht;exact ⟨rfl,_,rfl⟩
  ·cases ht
 obtain ⟨b,off,o',hA,hbl,hok,hc,hat⟩:=hx.at_ (k:=0) (by simp)
 simp only [List.getElem?_cons_zero,Option.some.injEq] at hok
 subst hok
 simp only at hA
 subst hA
 have hta:=fun W=>O.ta_LabelRef W 221 (.label s)
 simp only [O.val,O.isLabel,O.labelOf] at hta hc
 rw [Nat.add_zero] at hc
 clear hx ht hat
 have hn:(O.label s :: xs').length=xs'.length+1:=rfl
 rw [hn]
 have h0:(((xs'.length+1:Nat):Int) == 0)=false:=by simp;omega
 have h00:((xs'.length+1:Nat):Int)≠0:=by omega
 have h1:(0:Int) < ((xs'.length+1:Nat):Int):=by omega
 have h2:(0:Nat) < xs'.length+1:=by omega
 go_enter Tryz.func85,Tryz.ntmps85
 go_wp2
 go_ret
 exact ⟨_,rfl,by simp,cell_new _ _ _ _ (by simp),((Fr.refl _ _).alloc _).alloc _⟩
end
section
open Go Go.RowKit Bth
set_option maxRecDepth 100000
inductive Nd where
 | ins (b:Nat)
 | label (s:ByteArray)
 | comment (b:Nat)
def ptr (b:Nat):Value:=.pointer (some ⟨b,0,none⟩)
def Nd.val:Nd→Value
 | .ins b=>.iface 157 (.pointer (some ⟨b,0,none⟩))
 | .label s=>.iface 162 (.string s)
 | .comment b=>.iface 224 (.pointer (some ⟨b,0,none⟩))
def Nd.insOf:Nd→Option Nat
 | .ins b=>some b
 | _=>none
def insOf (l:List Nd):List Nat:=l.filterMap Nd.insOf
theorem insOf_take_none {l:List Nd} {j:Nat} {o:Nd} (h:l[j]? = some o) (hp:o.insOf=none):insOf (l.take (j+1))=insOf (l.take j):=by
 unfold insOf;rw [List.take_add_one,h];simp [hp]
theorem insOf_take_some {l:List Nd} {j:Nat} {o:Nd} {b:Nat} (h:l[j]? = some o) (hp:o.insOf=some b):insOf (l.take (j+1))=insOf (l.take j) ++ [b]:=by
 unfold insOf;rw [List.take_add_one,h];simp [hp]
theorem insOf_le (l:List Nd):(insOf l).length≤l.length:=List.length_filterMap_le _ _
theorem Nd.val_iface (n:Nd):∃ T v,n.val = .iface T v:=by cases n<;>exact ⟨_,_,rfl⟩
section
variable (w:World) (S:TypeId)
theorem ta_Ins_ins (x:Value):(Instr.typeAssert (.iface 157 x) S 157 true).run Tryz.prog w = .ok (.tuple #[x,.bool true]) w:=by kernel_rfl
theorem ta_Ins_label (x:Value):(Instr.typeAssert (.iface 162 x) S 157 true).run Tryz.prog w = .ok (.tuple #[.pointer none,.bool false]) w:=by kernel_rfl
theorem ta_Ins_comment (x:Value):(Instr.typeAssert (.iface 224 x) S 157 true).run Tryz.prog w = .ok (.tuple #[.pointer none,.bool false]) w:=by kernel_rfl
theorem ta_Label_ins (x:Value):(Instr.typeAssert (.iface 157 x) S 162 true).run Tryz.prog w = .ok (.tuple #[.string ⟨#[]⟩,.bool false]) w:=by kernel_rfl
theorem ta_Label_label (x:Value):(Instr.typeAssert (.iface 162 x) S 162 true).run Tryz.prog w = .ok (.tuple #[x,.bool true]) w:=by kernel_rfl
theorem ta_Label_comment (x:Value):(Instr.typeAssert (.iface 224 x) S 162 true).run Tryz.prog w = .ok (.tuple #[.string ⟨#[]⟩,.bool false]) w:=by kernel_rfl
theorem ta_Comment_ins (x:Value):(Instr.typeAssert (.iface 157 x) S 224 true).run Tryz.prog w = .ok (.tuple #[.pointer none,.bool false]) w:=by kernel_rfl
theorem ta_Comment_label (x:Value):(Instr.typeAssert (.iface 162 x) S 224 true).run Tryz.prog w = .ok (.tuple #[.pointer none,.bool false]) w:=by kernel_rfl
theorem ta_Comment_comment (x:Value):(Instr.typeAssert (.iface 224 x) S 224 true).run Tryz.prog w = .ok (.tuple #[x,.bool true]) w:=by kernel_rfl
end
theorem infoPtr:(Tryz.prog.info? 157).map (fun i=>(i.zero,i.size,i.bytes))=some (some (.pointer none),1,8):=by kernel_rfl
theorem infoNode:(Tryz.prog.info? 166).map (fun i=>(i.zero,i.size,i.bytes))=some (some .nilIface,1,16):=by kernel_rfl
def GivesOwn (w:World) (e:TypeId) (xs:List Value) (en:Ending) (w':World):Prop:=∃ v,en = .returned v∧w'.ownsRow w.heap.size e 1 v xs.length xs∧Fr nope w w'
set_option maxHeartbeats 1000000 in
theorem Instructions_calls (w:World) (fb:Nat) (A:Option Addr) (c:Nat) (l:List Nd) (hc5:w.cell? ⟨fb,5,none⟩=some (.slice A l.length c)) (hS:Sl w A l.length (l.map Nd.val)) (hl:l.length≤1073741824):
  Calls Tryz.prog 84 #[.pointer (some ⟨fb,0,none⟩)] w (GivesOwn w 157 ((insOf l).map ptr)):=by
 go_enter Tryz.func84,Tryz.ntmps84
 go_wp2
 go_loopg [3,13] l.length (fun n c3 c13 wr=>∃ k:Nat,k≤l.length∧c13 = .int .i64 (k:Int)∧wr.ownsRow w.heap.size 157 1 c3 (insOf (l.take k)).length ((insOf (l.take k)).map ptr)∧Fr nope w wr∧n=l.length - k)
 case atStart=>exact ⟨0,Nat.zero_le _,rfl,by simpa [insOf] using own_nil _ _ _ _,(Fr.refl _ _),rfl⟩
 case round=>
  obtain ⟨k,hk,rfl,hown,hf,rfl⟩:=hrel
  by_cases hlt:k < l.length
  ·obtain ⟨b,off,u,rfl,hbl,hu,hc⟩:=(hS.nope hf).at_ hlt
   rw [List.getElem?_map] at hu
   obtain ⟨o,hok,rfl⟩:=Option.map_eq_some_iff.1 hu
   have hB1:=insOf_le (l.take k)
   have hB3:(l.take k).length≤k:=by rw [List.length_take];omega
   clear hS hu
   cases o with
   | label s=>
    have hT:=Lib.hid (insOf_take_none hok rfl)
    have hta:=fun W=>ta_Ins_label W 166 (.string s)
    simp only [Nd.val] at hc
    clear hok
    go_wp2
    go_roundg (l.length - (k+1))
    case measure=>omega
    case rel=>exact ⟨k+1,by omega,by go_num,by rw [hT.out];exact hown,hf,rfl⟩
   | comment s=>
    have hT:=Lib.hid (insOf_take_none hok rfl)
    have hta:=fun W=>ta_Ins_comment W 166 (.pointer (some ⟨s,0,none⟩))
    simp only [Nd.val] at hc
    clear hok
    go_wp2
    go_roundg (l.length - (k+1))
    case measure=>omega
    case rel=>exact ⟨k+1,by omega,by go_num,by rw [hT.out];exact hown,hf,rfl⟩
   | ins x=>
    have hT:=Lib.hid (insOf_take_some hok rfl)
    have hta:=fun W=>ta_Ins_ins W 166 (.pointer (some ⟨x,0,none⟩))
    simp only [Nd.val] at hc
    clear hok
    go_wp2_with (refine wpList_app (v:=u3) rfl rfl Tryz.underlying168 infoPtr rfl (by omega) rfl (own_fr hown ((Fr.refl nope _).alloc _) (fun _ _ x=>x)) rfl (news:=[.pointer (some ⟨x,0,none⟩)]) rfl (one_new _ _ _ _ rfl) (by simp [Value.oneCell']) (by simp only [maxLen];omega) (by omega) (by have:=hf.size;simp;omega) ?_;intro v3 w3 hown3 hf3 _)
    go_roundg (l.length - (k+1))
    case measure=>omega
    case rel=>exact ⟨k+1,by omega,by go_num,by rw [hT.out,List.map_append,List.length_append];exact hown3,(hf.alloc _).then_new hf3 (fun x hx he=>by have:=own_base hown x he;omega),rfl⟩
  ·go_wp2
   go_ret
   have e:l.take k=l:=List.take_of_length_le (by omega)
   rw [e] at hown
   exact ⟨_,rfl,by simpa using hown,hf⟩
end
section
open Go Go.RowKit Bth
set_option maxRecDepth 100000
structure Fn where
 nodes:Value
 lt:Option Nat
 al:Option Nat
 isa:Value
def Fn.cells (f:Fn):Array Value:=#[.string ⟨#[]⟩,.int .u16 0,.slice none 0 0,.slice none 0 0,.int .i64 0,f.nodes,.map f.lt,.map f.al,f.isa]
def FnAt (w:World) (fb:Nat) (f:Fn):Prop:=w.heap[fb]? = some (.cells f.cells 133 (0,0))
theorem FnAt.fr {S:Nat→Prop} {w w':World} {fb:Nat} {f:Fn} (h:FnAt w fb f) (hf:Fr S w w') (hs:¬S fb):FnAt w' fb f:=hf.heap h hs
theorem FnAt.c5 {w:World} {fb:Nat} {f:Fn} (h:FnAt w fb f):w.cell? ⟨fb,5,none⟩=some f.nodes:=by rw [cell_of_row w fb 5 _ _ (0,0) h];rfl
theorem FnAt.c6 {w:World} {fb:Nat} {f:Fn} (h:FnAt w fb f):w.cell? ⟨fb,6,none⟩=some (.map f.lt):=by rw [cell_of_row w fb 6 _ _ (0,0) h];rfl
theorem FnAt.c7 {w:World} {fb:Nat} {f:Fn} (h:FnAt w fb f):w.cell? ⟨fb,7,none⟩=some (.map f.al):=by rw [cell_of_row w fb 7 _ _ (0,0) h];rfl
theorem FnAt.c8 {w:World} {fb:Nat} {f:Fn} (h:FnAt w fb f):w.cell? ⟨fb,8,none⟩=some f.isa:=by rw [cell_of_row w fb 8 _ _ (0,0) h];rfl
theorem setCell_heap {w:World} {b k:Nat} {cs:Array Value} {t:TypeId} {fr:Nat × Nat} (h:w.heap[b]? = some (.cells cs t fr)) (v:Value):(w.setCell ⟨b,k,none⟩ v).heap[b]? = some (.cells (cs.setIfInBounds k v) t fr):=by
 simp only [World.setCell,Array.getElem?_modify,h,if_true,Option.map_some]
 rfl
def GivesNode (w:World) (fb:Nat) (f:Fn) (nd:Nd) (base n:Nat) (xs:List Value) (e:Ending) (w':World):Prop:=
 e = .returned (.tuple #[])∧∃ v,FnAt w' fb { f with nodes:=v } ∧ w'.ownsRow base 166 1 v (n+1) (xs ++ [nd.val])∧Fr (fun b=>b=fb∨f.nodes.ownBlock=some b) w w'∧(v.ownBlock=f.nodes.ownBlock∨∃ b,v.ownBlock=some b∧w.heap.size≤b)
theorem AddNode_calls (w:World) (fb:Nat) (f:Fn) (nd:Nd) (base:Nat) (n:Nat) (xs:List Value) (hfn:FnAt w fb f) (hown:w.ownsRow base 166 1 f.nodes n xs) (hn:n≤1073741824) (hb:fb < base) (hbs:base≤w.heap.size):
  Calls Tryz.prog 123 #[.pointer (some ⟨fb,0,none⟩),nd.val] w (GivesNode w fb f nd base n xs):=by
 obtain ⟨nodes,lt,al,isa⟩:=f
 simp only at hown
 obtain ⟨A,c,rfl,_,_⟩:=own_slice hown
 have hbl:=lt_of_heap hfn
 have h5:=hfn.c5
 obtain ⟨T,v,hv⟩:=nd.val_iface
 unfold GivesNode
 rw [hv]
 have h1:∀ u∈[Value.iface T v],u.oneCell'=true:=by simp [Value.oneCell']
 simp only at h5
 go_enter Tryz.func123,Tryz.ntmps123
 go_wp2_with (refine wpList_app (v:=.slice A n c) rfl rfl Tryz.underlying128 infoNode rfl (by omega) rfl (own_fr hown ((Fr.refl nope _).alloc _) (fun _ _ x=>x)) rfl (news:=[.iface T v]) rfl (one_new _ _ _ _ rfl) h1 (by simp only [maxLen];omega) (by omega) (by simp;omega) ?hk)
 case hk=>
  intro v3 w3 hown3 hf3 hb3
  obtain ⟨A3,c3,rfl,_,_⟩:=own_slice hown3
  have hfn3:w3.heap[fb]? = some (.cells (Fn.mk (.slice A n c) lt al isa).cells 133 (0,0)):=hf3.heap (((Fr.refl nope w).alloc _).heap hfn (fun x=>x)) (fun he=>by have:=own_base hown _ he;omega)
  have hz:w3.frozen? ⟨fb,5,none⟩=false:=by simp [World.frozen?,hfn3]
  have hc5:=FnAt.c5 hfn3
  simp only at hc5
  go_wp2
  go_end0
  refine ⟨rfl,_,setCell_heap hfn3 _,?_,?_,?_⟩
  ·refine own_fr hown3 ((Fr.refl (fun b=>b=fb) w3).setCell (.inl rfl) _) (fun b hb2 he=>?_)
   have:=own_base hown3 b hb2
   omega
  ·refine Fr.setCell (a:=w) (b:=w3) (((Fr.refl _ w).alloc _).then (hf3.mono (fun x _ h=>.inr h))) (.inl (.inl rfl)) _
  ·rcases hb3 with h | h
   ·exact .inl h
   ·exact .inr ⟨_,h,by simp⟩
theorem AddInstruction_calls (w:World) (fb:Nat) (f:Fn) (b:Nat) (base:Nat) (n:Nat) (xs:List Value) (hfn:FnAt w fb f) (hown:w.ownsRow base 166 1 f.nodes n xs) (hn:n≤1073741824) (hb:fb < base) (hbs:base≤w.heap.size):
  Calls Tryz.prog 80 #[.pointer (some ⟨fb,0,none⟩),.pointer (some ⟨b,0,none⟩)] w (GivesNode w fb f (.ins b) base n xs):=by
 go_enter Tryz.func80,Tryz.ntmps80
 go_wp2_with (go_at_call 123;refine (AddNode_calls w fb f (.ins b) base n xs hfn hown hn hb hbs).mono ?_;rintro e w2 ⟨rfl,hG⟩)
 go_end0
 exact ⟨rfl,hG⟩
theorem AddLabel_calls (w:World) (fb:Nat) (f:Fn) (s:ByteArray) (base:Nat) (n:Nat) (xs:List Value) (hfn:FnAt w fb f) (hown:w.ownsRow base 166 1 f.nodes n xs) (hn:n≤1073741824) (hb:fb < base) (hbs:base≤w.heap.size):
  Calls Tryz.prog 81 #[.pointer (some ⟨fb,0,none⟩),.string s] w (GivesNode w fb f (.label s) base n xs):=by
 go_enter Tryz.func81,Tryz.ntmps81
 go_wp2_with (go_at_call 123;refine (AddNode_calls w fb f (.label s) base n xs hfn hown hn hb hbs).mono ?_;rintro e w2 ⟨rfl,hG⟩)
 go_end0
 exact ⟨rfl,hG⟩
theorem NewComment_calls (w:World) (A:Option Addr) (n c:Nat):
  Calls Tryz.prog 124 #[.slice A n c] w fun e w'=>e = .returned (.pointer (some ⟨w.heap.size,0,none⟩))∧w'=w.alloc (.cells #[.slice A n c] 226):=by
 go_enter Tryz.func124,Tryz.ntmps124
 go_wp2
 go_ret
 exact ⟨rfl,rfl⟩
theorem AddComment_calls (w:World) (fb:Nat) (f:Fn) (A:Option Addr) (m c:Nat) (base:Nat) (n:Nat) (xs:List Value) (hfn:FnAt w fb f) (hown:w.ownsRow base 166 1 f.nodes n xs) (hn:n≤1073741824) (hb:fb < base) (hbs:base≤w.heap.size):
  Calls Tryz.prog 82 #[.pointer (some ⟨fb,0,none⟩),.slice A m c] w fun e w'=>GivesNode (w.alloc (.cells #[.slice A m c] 226)) fb f (.comment w.heap.size) base n xs e w':=by
 go_enter Tryz.func82,Tryz.ntmps82
 go_wp2_with (first
  | (go_at_call 124;refine (NewComment_calls w A m c).mono ?_;rintro e w1 ⟨rfl,rfl⟩)
  | (go_at_call 123;refine (AddNode_calls _ fb f (.comment w.heap.size) base n xs (hfn.fr ((Fr.refl nope w).alloc _) (fun x=>x)) (own_fr hown ((Fr.refl nope w).alloc _) (fun _ _ x=>x)) hn hb (by simp;omega)).mono ?_;rintro e w2 ⟨rfl,hG⟩))
 go_end0
 exact ⟨rfl,hG⟩
end
section
open Go Go.RowKit Bth
set_option maxRecDepth 100000
def orF (fl:List Nat):Nat:=fl.foldl (fun a b=>a ||| b) 0
theorem orF_take {fl:List Nat} {k b:Nat} (h:fl[k]? = some b):orF (fl.take (k+1))=orF (fl.take k) ||| b:=by
 unfold orF;rw [List.take_add_one,h];simp
theorem ofInt_u8 (a:Nat) (h:a < 256):(BitVec.ofInt 8 (a:Int)).toNat=a:=by
 rw [BitVec.toNat_ofInt];omega
theorem wrap_u8 (a:Nat) (h:a < 256):IntKind.u8.wrap (a:Int)=(a:Int):=by
 show ((BitVec.ofInt 8 (a:Int)).toNat:Int)=_
 rw [ofInt_u8 a h]
theorem u8_or (a b:Nat) (ha:a < 256) (hb:b < 256):Go.bits .or .u8 (a:Int) (b:Int)=((a ||| b:Nat):Int):=by
 have hx:a ||| b < 2 ^ 8:=Nat.or_lt_two_pow (by omega) (by omega)
 show IntKind.u8.wrap ((BitVec.ofInt 8 (a:Int) ||| BitVec.ofInt 8 (b:Int)).toNat:Int)=_
 rw [BitVec.toNat_or,ofInt_u8 a ha,ofInt_u8 b hb,wrap_u8 _ (by omega)]
theorem orF_lt (fl:List Nat) (h:∀ x∈fl,x < 256):orF fl < 256:=by
 unfold orF
 have key:∀ (l:List Nat) (a:Nat),a < 256→(∀ x∈l,x < 256)→l.foldl (fun a b=>a ||| b) a < 256:=by
  intro l
  induction l with
  | nil=>intro a ha _;exact ha
  | cons b l ih=>
   intro a ha hl
   have:a ||| b < 2 ^ 8:=Nat.or_lt_two_pow (by omega) (hl b (by simp))
   exact ih _ (by omega) (fun x hx=>hl x (by simp [hx]))
 exact key fl 0 (by omega) h
theorem newregister_calls (w:World) (fb:Nat) (s i:Int) (n:ByteArray) (A:Option Addr) (c:Nat) (fl:List Nat) (hS:Sl w A fl.length (fl.map fun (x:Nat)=>.int .u8 (x:Int))) (hfl:∀ x∈fl,x < 256) (hl:fl.length < 100):
  Calls Tryz.prog 140 #[.pointer (some ⟨fb,0,none⟩),.int .u16 s,.int .u16 i,.string n,.slice A fl.length c] w fun e w'=>e = .returned (.agg #[.pointer (some ⟨fb,0,none⟩),.int .u16 i,.string n,.int .u8 (orF fl:Int),.int .u16 s])∧Fr nope w w':=by
 go_enter Tryz.func140,Tryz.ntmps140
 go_wp2
 go_loopg [21] fl.length (fun m c21 wr=>∃ k:Nat,k≤fl.length∧c21 = .int .i64 (k:Int)∧wr.heap[w.heap.size+1]? = some (.cells #[.pointer (some ⟨fb,0,none⟩),.int .u16 i,.string n,.int .u8 (orF (fl.take k):Int),.int .u16 s] 256 (0,0))∧wr.heap[w.heap.size]? = some (.cells #[.pointer none,.int .u16 0,.string ⟨#[]⟩,.int .u8 0,.int .u16 0] 256 (0,0))∧Fr nope w wr∧m=fl.length - k)
 case atStart=>
  refine ⟨0,Nat.zero_le _,rfl,?_,?_,((Fr.refl _ _).alloc _).alloc _,rfl⟩
  ·exact (heap_alloc2_new w _ _)
  ·exact ((Fr.refl nope _).alloc _).heap (heap_alloc_new w _) (fun x=>x)
 case round=>
  obtain ⟨k,hk,rfl,hb1,hb0,hf,rfl⟩:=hrel
  have hlt1:=lt_of_heap hb1
  have hlt0:=lt_of_heap hb0
  have hc1:=fun j=>cell_of_row _ _ j _ _ (0,0) hb1
  have hc0:=fun j=>cell_of_row _ _ j _ _ (0,0) hb0
  have hz1:∀ j,wr.frozen? ⟨w.heap.size+1,j,none⟩=false:=fun j=>by simp [World.frozen?,hb1]
  have hz0:∀ j,wr.frozen? ⟨w.heap.size,j,none⟩=false:=fun j=>by simp [World.frozen?,hb0]
  by_cases hlt:k < fl.length
  ·obtain ⟨b,off,u,rfl,hbl,hu,hc⟩:=(hS.nope hf).at_ hlt
   rw [List.getElem?_map] at hu
   obtain ⟨x,hx,rfl⟩:=Option.map_eq_some_iff.1 hu
   have hT:=Lib.hid (orF_take hx)
   have hB:=Lib.hid (u8_or (orF (fl.take k)) x (orF_lt _ fun y hy=>hfl y (List.mem_of_mem_take hy)) (hfl x (List.mem_of_getElem? hx)))
   clear hS hu hx
   go_wp2
   go_roundg (fl.length - (k+1))
   case measure=>omega
   case rel=>
    refine ⟨k+1,by omega,by go_num,?_,?_,hf.setCell (.inr (by simp)) _,rfl⟩
    ·rw [hT.out]
     rw [← hB.out]
     exact setCell_heap hb1 _
    ·exact ((Fr.refl (fun b=>b=w.heap.size+1) wr).setCell (.inl rfl) _).heap hb0 (by omega)
  ·go_wp2
   have e:fl.take k=fl:=List.take_of_length_le (by omega)
   rw [e] at *
   refine bodyPost_ret (results_cell_row rfl _ _ w.heap.size _ _ _ _ rfl (setCell_heap (setCell_heap (setCell_heap (setCell_heap (setCell_heap hb0 _) _) _) _) _) Tryz.underlying256 rfl (by kernel_rfl)) rfl ?_
   exact ⟨rfl,((((hf.setCell (.inr (Nat.le_refl _)) _).setCell (.inr (Nat.le_refl _)) _).setCell (.inr (Nat.le_refl _)) _).setCell (.inr (Nat.le_refl _)) _).setCell (.inr (Nat.le_refl _)) _⟩
theorem newgpp_calls (w:World) (T:TypeId) (v:Value):Calls Tryz.prog 139 #[.iface T v] w fun e w'=>e = .returned (.iface 305 (.agg #[.iface T v]))∧w'=w:=by
 go_enter Tryz.func139,Tryz.ntmps139
 go_wp2
 go_ret
 exact ⟨rfl,rfl⟩
theorem newvecp_calls (w:World) (T:TypeId) (v:Value):Calls Tryz.prog 141 #[.iface T v] w fun e w'=>e = .returned (.iface 309 (.agg #[.iface T v,.nilIface]))∧w'=w:=by
 go_enter Tryz.func141,Tryz.ntmps141
 go_wp2
 go_ret
 exact ⟨rfl,rfl⟩
theorem newopmaskp_calls (w:World) (T:TypeId) (v:Value):Calls Tryz.prog 142 #[.iface T v] w fun e w'=>e = .returned (.iface 310 (.agg #[.iface T v]))∧w'=w:=by
 go_enter Tryz.func142,Tryz.ntmps142
 go_wp2
 go_ret
 exact ⟨rfl,rfl⟩
end
section
open Go Go.RowKit Bth
set_option maxRecDepth 100000
theorem infoPhys:(Tryz.prog.info? 204).map (fun i=>(i.zero,i.size,i.bytes))=some (some .nilIface,1,16):=by kernel_rfl
def FamAt (w:World) (fb:Nat) (k:Nat) (v:Value):Prop:=w.heap[fb]? = some (.cells #[.int .u8 (k:Int),v] 247 (0,0))
theorem FamAt.reg {w:World} {fb k:Nat} {v:Value} (h:FamAt w fb k v) (r:R) (h1:r.fb=fb) (h2:r.kind=k):r.At w:=fun _=>⟨v,by rw [h1,h2];exact h⟩
def GivesReg (w:World) (fb k:Nat) (v0:Value) (r:R) (base n:Nat) (xs:List Value) (e:Ending) (w':World):Prop:=
 e = .returned (.tuple #[])∧∃ v,FamAt w' fb k v∧w'.ownsRow base 204 1 v (n+1) (xs ++ [r.val])∧Fr (fun b=>b=fb∨v0.ownBlock=some b) w w'
theorem R.kindP (r:R) (hv:r.virt=false):∃ T v,r.val = .iface T v∧∀ W,(method 521 T v "Kind").run Tryz.prog W = .ok (251,.agg #[.pointer (some ⟨r.fb,0,none⟩),.int .u16 (r.idx:Int),.string r.name,.int .u8 (r.info:Int),.int .u16 (r.spec:Int)]) W:=by
 obtain ⟨T,v,h⟩:=r.val_iface
 refine ⟨T,v,h,fun W=>?_⟩
 obtain ⟨T',v',h1,h2⟩:=r.m_Kind_p W hv
 rw [h] at h1
 injection h1 with e1 e2
 subst e1 e2
 rw [sizeTypes] at h2
 exact h2
theorem add_calls (w:World) (fb k:Nat) (v:Value) (r:R) (base n:Nat) (xs:List Value) (hfb:FamAt w fb k v) (hown:w.ownsRow base 204 1 v n xs) (hn:n≤1000) (hb:fb < base) (hbs:base≤w.heap.size) (h1:r.fb=fb) (h2:r.kind=k) (hvirt:r.virt=false):
  Calls Tryz.prog 138 #[.pointer (some ⟨fb,0,none⟩),r.val] w (GivesReg w fb k v r base n xs):=by
 obtain ⟨A,c,rfl,_,_⟩:=own_slice hown
 have hat:=hfb.reg r h1 h2
 subst h1 h2
 have hbl:=lt_of_heap hfb
 have hc:=fun j=>cell_of_row _ _ j _ _ (0,0) hfb
 have hc0:w.cell? ⟨r.fb,0,none⟩=some (.int .u8 (r.kind:Int)):=hc 0
 unfold GivesReg
 obtain ⟨T,v,hv,hm⟩:=r.kindP hvirt
 rw [hv]
 have h1:∀ u∈[Value.iface T v],u.oneCell'=true:=by simp [Value.oneCell']
 clear hv hat
 go_enter Tryz.func138,Tryz.ntmps138
 go_wp2
 go_region_with (first
  | (go_at_call 251;refine (register_Kind_calls _ r.fb r.idx r.kind r.spec r.info r.name ?_).mono ?_;go_simp;rintro e w1 ⟨rfl,hf⟩;have hk0:w1.cell? ⟨r.fb,0,none⟩=some (.int .u8 (r.kind:Int)):=hf.cell (p:=⟨r.fb,0,none⟩) hc0 (fun x=>x)))
 all_goals
  have hfr:=((Fr.refl nope w).drew.then hf)
  have hfam1:=hfr.heap hfb (fun x=>x)
  have hown1:=own_fr hown hfr (fun _ _ x=>x)
  have hcw:=fun j=>cell_of_row _ _ j _ _ (0,0) hfam1
  have hblw:=lt_of_heap hfam1
  have hsz:=hfr.size
  go_wp2_with (refine wpList_app (v:=.slice A n c) rfl rfl Tryz.underlying201 infoPhys rfl (by omega) rfl (own_fr hown1 ((Fr.refl nope _).alloc _) (fun _ _ x=>x)) rfl (news:=[.iface T v]) rfl (one_new _ _ _ _ rfl) h1 (by simp only [maxLen];omega) (by omega) (by simp;omega) ?hk)
  case hk=>
   intro v3 w3 hown3 hf3 hb3
   obtain ⟨A3,c3,rfl,_,_⟩:=own_slice hown3
   have hfn3:=hf3.heap (((Fr.refl nope w1).alloc _).heap hfam1 (fun x=>x)) (fun he=>by have:=own_base hown _ he;omega)
   have hz:∀ j,w3.frozen? ⟨r.fb,j,none⟩=false:=fun j=>by simp [World.frozen?,hfn3]
   have hc3:=fun j=>cell_of_row _ _ j _ _ (0,0) hfn3
   go_wp2
   go_end0
   refine ⟨rfl,_,setCell_heap hfn3 _,?_,?_⟩
   ·refine own_fr hown3 ((Fr.refl (fun b=>b=r.fb) w3).setCell (.inl rfl) _) (fun b hb2 he=>?_)
    have:=own_base hown3 b hb2
    omega
   ·refine Fr.setCell (a:=w) (b:=w3) (((hfr.of_nope.alloc _).then (hf3.mono (T:=fun b=>b=r.fb∨(Value.slice A n c).ownBlock=some b) (fun x _ h=>.inr h)))) (.inl (.inl rfl)) _
end
end Go.Proofs.YtjlfkgjmgghhiaaGreat
namespace Bth
section
open Go Go.RowKit
section
variable {P:Program} {ops:Array Oper} {rest:List Oper} {o:Oper} {a:Act} {Q:Exit→Act→World→Prop} {w:World}
theorem put_eval (a:Act) (d t:Nat) (v:Value) (hd:d < a.tmps.size):(a.put (some d) v).eval (.tmp t)=if d=t then v else a.eval (.tmp t):=by
 simp only [Act.put,Act.eval,Array.getD_eq_getD_getElem?,Array.getElem?_setIfInBounds]
 split
 ·rename_i h;subst h;rfl
 ·rfl
theorem put_size (a:Act) (d:Nat) (v:Value):(a.put (some d) v).tmps.size=a.tmps.size:=by simp [Act.put]
theorem put_defers (a:Act) (d:Nat) (v:Value):(a.put (some d) v).defers=a.defers:=rfl
theorem L_move {x:Operand} (hg:o.guard=none) (hop:o.op = .move x) (h:wpList P ops Q rest (a.put o.dst (a.eval x)) w):wpList P ops Q (o :: rest) a w:=by
 refine wpList_plain hg fun K hK=>?_
 unfold Oper.wp
 simp [execOp,hop]
 exact hK _ _ h
theorem L_iface {x:Operand} {T:TypeId} (hg:o.guard=none) (hop:o.op = .makeInterface T x) (hr:(Instr.makeInterface T (a.eval x)).run P w = .ok (.iface T (a.eval x)) w) (h:wpList P ops Q rest (a.put o.dst (.iface T (a.eval x))) w):wpList P ops Q (o :: rest) a w:=by
 refine wpList_plain hg fun K hK=>?_
 unfold Oper.wp
 simp [execOp,hop,hr]
 exact hK _ _ h
theorem L_call {f:FuncId} {fn:Func} {args:Array Operand} {ats:Array TypeId} (hg:o.guard=none) (hop:o.op = .call { callee:=.value (.func f),args:=args,argTypes:=ats })
  (hf:P.funcs[f]? = some fn) (hn:(fn.name == "runtime.NumGoroutine")=false) (hb:fn.body.isNone=false)
  (hc:Calls P f (args.map a.eval) w fun
   | .returned y,w'=>wpList P ops Q rest (a.put o.dst y) w'
   | _,_=>False):wpList P ops Q (o :: rest) a w:=by
 refine wpList_plain hg fun K hK=>?_
 have hrun:(execOp a.eval o).run P w = .ok (.enter f (args.map a.eval)) w:=by
  unfold execOp
  rw [hop]
  simp [resolve,invoke,Act.eval,Deferred.ofValue,Go.Proofs.YtjlfkgjmgghhiaaGreat.run_callFunc hf hn hb]
 show o.upon P a K Q ((execOp a.eval o).run P w)
 rw [hrun]
 refine hc.mono fun e w' h=>?_
 cases e with
 | returned y=>exact hK _ _ h
 | panicked chain=>exact h.elim
 | outgrown=>exact h.elim
end
end
end Bth
