/- Part of the proof of a statement about pub-berthage: what its texts have in common. -/
import Derived.Test.YtbgblfiapecioaaGreatP24
import Derived.Test.YtbgblfiapecioaaGreatP29
import Derived.Test.YtbgblfiapecioaaGreatP33
import Derived.Test.YtbgblfiapecioaaGreatP34
namespace Go.Proofs.YtbgblfiapecioaaGreat
section
open Go Go.RowKit Bth
set_option maxRecDepth 100000
def GivesAny (w:World) (e:Ending) (w':World):Prop:=Fr nope w w'∧∃ b,e = .returned (.bool b)
theorem zz11_calls (w:World) (c:PC):Calls Tryz.prog 167 #[c.agg] w (GivesAny w):=by
 obtain ⟨k,b,t⟩:=c
 unfold PC.agg
 by_cases h:(2147483647:Int) < (t.size:Int)
 ·go_enter Tryz.func167,Tryz.ntmps167
  go_wp2_with fail
  go_ret
  exact ⟨(Fr.refl _ _).alloc _,_,rfl⟩
 ·go_enter Tryz.func167,Tryz.ntmps167
  go_wp2_with fail
  go_ret
  exact ⟨(Fr.refl _ _).alloc _,_,rfl⟩
set_option maxHeartbeats 1000000 in
theorem zz10_calls (w:World) (p:PO):Calls Tryz.prog 136 #[p.agg] w (GivesAny w):=by
 have hb:=heap_alloc_new w (.cells p.cells 83)
 have hc8:(w.alloc (.cells p.cells 83)).cell? ⟨w.heap.size,17,none⟩=some (.string p.sym):=cell_of_row _ _ 17 _ _ (0,0) hb
 have hc11:(w.alloc (.cells p.cells 83)).cell? ⟨w.heap.size,22,none⟩=some (.string p.label):=cell_of_row _ _ 22 _ _ (0,0) hb
 have hcc:(w.alloc (.cells p.cells 83)).rangeAt w.heap.size 19 [.int .i64 p.con.kind,.int .u64 (p.con.bits:Int),.string p.con.text]:=fun j v hj=>by
  rcases j with _ | _ | _ | j
  ·injection hj with hj;subst hj;exact cell_of_row _ _ 19 _ _ (0,0) hb
  ·injection hj with hj;subst hj;exact cell_of_row _ _ 20 _ _ (0,0) hb
  ·injection hj with hj;subst hj;exact cell_of_row _ _ 21 _ _ (0,0) hb
  ·simp at hj
 have hZ:=zz11_calls (w.alloc (.cells p.cells 83)) p.con
 unfold PC.agg at hZ
 clear hb
 unfold PO.agg
 by_cases h:(2147483647:Int) < (p.sym.size:Int)
 ·go_enter Tryz.func136,Tryz.ntmps136
  go_wp2_with fail
  go_ret
  exact ⟨(Fr.refl _ _).alloc _,_,rfl⟩
 ·go_enter Tryz.func136,Tryz.ntmps136
  go_wp2_with (refine wpList_load_mid rfl _ _ rfl w.heap.size 19 rfl _ _ hcc Tryz.underlying81 rfl (by kernel_rfl) ?_)
  refine hZ.mono ?_
  rintro e w1 ⟨hf1,b,rfl⟩
  have hc1:=hf1.cell hc11 (fun x=>x)
  have hn1:=((Fr.refl nope w).alloc (.cells p.cells 83)).then hf1
  clear hc8 hc11 hcc
  cases b with
  | false=>
   go_wp2
   go_ret
   exact ⟨hn1,_,rfl⟩
  | true=>
   by_cases h2:(2147483647:Int) < (p.label.size:Int)
   ·go_wp2
    go_ret
    exact ⟨hn1,_,rfl⟩
   ·go_wp2
    go_ret
    exact ⟨hn1,_,rfl⟩
set_option maxHeartbeats 1000000 in
theorem zz9_calls (w:World) (s:SV) (ps:List PO) (h:POsAt w s ps) (hl:ps.length≤1048576):Calls Tryz.prog 96 #[s.val] w (GivesAny w):=by
 obtain ⟨A,n,c⟩:=s
 have hps:=h
 obtain ⟨rfl,_⟩:n=ps.length∧_:=h
 simp only [SV.val]
 go_enter Tryz.func96,Tryz.ntmps96
 go_wp2
 go_loopg [10] ps.length (fun n c8 wr=>∃ k:Nat,k≤ps.length∧c8 = .int .i64 (k:Int)∧Fr nope w wr∧n=ps.length - k)
 case atStart=>exact ⟨0,Nat.zero_le _,rfl,Fr.refl _ _,rfl⟩
 case round=>
  obtain ⟨k,hk,rfl,hf,rfl⟩:=hrel
  have hsz:=hf.size
  by_cases hlt:k < ps.length
  ·obtain ⟨b,off,hAe,hbl,hc⟩:=(hps.nope hf).2 (by omega)
   simp only at hAe
   subst hAe
   obtain ⟨p,hpk⟩:∃ p,ps[k]? = some p:=⟨_,List.getElem?_eq_getElem hlt⟩
   have hc:=hc k p hpk
   clear hpk hps
   go_wp2_with (first
    | (refine wpList_load_mid rfl _ _ rfl b (off+k*24) rfl p.cells.toList _ hc Tryz.underlying83 rfl (by kernel_rfl) ?_)
    | (refine wpList_storeRow (b:=wr.heap.size) (cells:=p.cells) rfl rfl rfl rfl (heap_alloc_new _ _) rfl (by kernel_rfl) (by kernel_rfl) ?_;intro w2 hb2 hf2)
    | (refine wpList_loadRow (b:=wr.heap.size) (cells:=p.cells) rfl rfl rfl hb2 Tryz.underlying83 rfl (by kernel_rfl) ?_))
   have hn2:Fr nope wr w2:=((Fr.refl nope wr).alloc _).then_new hf2 (fun x hx e=>by omega)
   refine (zz10_calls w2 p).mono ?_
   rintro e w3 ⟨hf3,b,rfl⟩
   have hn3:=hf.then (hn2.then hf3)
   cases b with
   | false=>
    go_wp2
    go_ret
    exact ⟨hn3,_,rfl⟩
   | true=>
    go_wp2
    go_roundg (ps.length - (k+1))
    case measure=>omega
    case rel=>exact ⟨k+1,by omega,by go_num,hn3,rfl⟩
  ·go_wp2
   go_ret
   exact ⟨hf,_,rfl⟩
set_option maxHeartbeats 1000000 in
theorem zz7_calls (w:World) (s:SV) (l:List ByteArray) (h:StrsAt w s l) (hl:l.length≤1048576):Calls Tryz.prog 53 #[s.val] w (GivesAny w):=by
 obtain ⟨A,n,c⟩:=s
 have hps:=h
 obtain ⟨rfl,_⟩:n=l.length∧_:=h
 simp only [SV.val]
 go_enter Tryz.func53,Tryz.ntmps53
 go_wp2
 go_loopg [10] l.length (fun n c8 wr=>∃ k:Nat,k≤l.length∧c8 = .int .i64 (k:Int)∧Fr nope w wr∧n=l.length - k)
 case atStart=>exact ⟨0,Nat.zero_le _,rfl,Fr.refl _ _,rfl⟩
 case round=>
  obtain ⟨k,hk,rfl,hf,rfl⟩:=hrel
  have hsz:=hf.size
  by_cases hlt:k < l.length
  ·obtain ⟨x,hxk⟩:∃ x,l[k]? = some x:=⟨_,List.getElem?_eq_getElem hlt⟩
   obtain ⟨b,off,u,hAe,hbl,hu,hc⟩:=(hps.fr hf (fun _ _ _ _ e=>e)).2.at_ hlt
   simp only at hAe
   subst hAe
   rw [List.getElem?_map,hxk] at hu
   injection hu with hu
   subst hu
   clear hps hxk
   by_cases h2:(2147483647:Int) < (x.size:Int)
   ·go_wp2
    go_ret
    exact ⟨hf,_,rfl⟩
   ·go_wp2
    go_roundg (l.length - (k+1))
    case measure=>omega
    case rel=>exact ⟨k+1,by omega,by go_num,hf,rfl⟩
  ·go_wp2
   go_ret
   exact ⟨hf,_,rfl⟩
end
section
open Go Go.RowKit Bth
set_option maxRecDepth 100000
set_option maxHeartbeats 4000000 in
theorem zz8_calls (w:World) (B:Nat) (p:PI) (h:p.At w B):Calls Tryz.prog 54 #[p.agg] w (GivesAny w):=by
 have h7s:=fun W (hW:Fr nope w W)=>zz7_calls W p.sufV p.suf (h.fr hW (fun _ _ x=>x)).suf h.few.1
 have h7i:=fun W (hW:Fr nope w W)=>zz7_calls W p.isaV p.isa (h.fr hW (fun _ _ x=>x)).isa h.few.2.2.2.2
 have h9a:=fun W (hW:Fr nope w W)=>zz9_calls W p.opsV p.ops (h.fr hW (fun _ _ x=>x)).ops h.few.2.1
 have h9b:=fun W (hW:Fr nope w W)=>zz9_calls W p.inpV p.inp (h.fr hW (fun _ _ x=>x)).inp h.few.2.2.1
 have h9c:=fun W (hW:Fr nope w W)=>zz9_calls W p.outV p.out (h.fr hW (fun _ _ x=>x)).out h.few.2.2.2.1
 clear h
 obtain ⟨opc,⟨A1,n1,c1⟩,suf,⟨A2,n2,c2⟩,ops,⟨A3,n3,c3⟩,inp,⟨A4,n4,c4⟩,ps,term,br,cond,canc,⟨A5,n5,c5⟩,isa⟩:=p
 simp only [PI.agg,PI.cells,SV.val] at h7s h7i h9a h9b h9c ⊢
 have hb0:=heap_alloc_new w (.cells #[.string opc,.slice A1 n1 c1,.slice A2 n2 c2,.slice A3 n3 c3,.slice A4 n4 c4,.bool term,.bool br,.bool cond,.bool canc,.slice A5 n5 c5] 46)
 have hn0:=(Fr.refl nope w).alloc (.cells #[.string opc,.slice A1 n1 c1,.slice A2 n2 c2,.slice A3 n3 c3,.slice A4 n4 c4,.bool term,.bool br,.bool cond,.bool canc,.slice A5 n5 c5] 46)
 replace h7s:=Lib.hid h7s
 replace h7i:=Lib.hid h7i
 replace h9a:=Lib.hid h9a
 replace h9b:=Lib.hid h9b
 replace h9c:=Lib.hid h9c
 replace hb0:=Lib.hid hb0
 by_cases h:(2147483647:Int) < (opc.size:Int)
 ·go_enter Tryz.func54,Tryz.ntmps54
  go_wp2_with fail
  go_ret
  exact ⟨hn0,_,rfl⟩
 ·go_enter Tryz.func54,Tryz.ntmps54
  go_wp2_with fail
  refine (h7s.out _ hn0).mono ?_
  rintro e w1 ⟨hf1,b,rfl⟩
  have hn1:=hn0.then hf1
  have hb1:=Lib.hid (hf1.heap hb0.out (fun x=>x))
  have hc:=cell_of_row _ _ 2 _ _ (0,0) hb1.out
  replace hc:w1.cell? ⟨w.heap.size,2,none⟩=some (.slice A2 n2 c2):=hc
  cases b with
  | false=>
   go_wp2
   go_ret
   exact ⟨hn1,_,rfl⟩
  | true=>
  go_wp2_with fail
  clear hc
  refine (h9a.out _ hn1).mono ?_
  rintro e w2 ⟨hf2,b,rfl⟩
  have hn2:=hn1.then hf2
  have hb2:=Lib.hid (hf2.heap hb1.out (fun x=>x))
  have hc:=cell_of_row _ _ 3 _ _ (0,0) hb2.out
  replace hc:w2.cell? ⟨w.heap.size,3,none⟩=some (.slice A3 n3 c3):=hc
  cases b with
  | false=>
   go_wp2
   go_ret
   exact ⟨hn2,_,rfl⟩
  | true=>
  go_wp2_with fail
  clear hc
  refine (h9b.out _ hn2).mono ?_
  rintro e w3 ⟨hf3,b,rfl⟩
  have hn3:=hn2.then hf3
  have hb3:=Lib.hid (hf3.heap hb2.out (fun x=>x))
  have hc:=cell_of_row _ _ 4 _ _ (0,0) hb3.out
  replace hc:w3.cell? ⟨w.heap.size,4,none⟩=some (.slice A4 n4 c4):=hc
  cases b with
  | false=>
   go_wp2
   go_ret
   exact ⟨hn3,_,rfl⟩
  | true=>
  go_wp2_with fail
  clear hc
  refine (h9c.out _ hn3).mono ?_
  rintro e w4 ⟨hf4,b,rfl⟩
  have hn4:=hn3.then hf4
  have hb4:=Lib.hid (hf4.heap hb3.out (fun x=>x))
  have hc:=cell_of_row _ _ 9 _ _ (0,0) hb4.out
  replace hc:w4.cell? ⟨w.heap.size,9,none⟩=some (.slice A5 n5 c5):=hc
  cases b with
  | false=>
   go_wp2
   go_ret
   exact ⟨hn4,_,rfl⟩
  | true=>
  go_wp2_with fail
  clear hc
  refine (h7i.out _ hn4).mono ?_
  rintro e w5 ⟨hf5,b,rfl⟩
  have hn5:=hn4.then hf5
  have hb5:=Lib.hid (hf5.heap hb4.out (fun x=>x))
  cases b with
  | false=>
   go_wp2
   go_ret
   exact ⟨hn5,_,rfl⟩
  | true=>
  go_wp2
  go_ret
  exact ⟨hn5,_,rfl⟩
theorem pn_ins (p:PN):∀ (j:Nat) (v:Value),p.ins.cells.toList[j]? = some v→p.cells[3+j]? = some v:=fun j v h=>by
 rcases j with _ | _ | _ | _ | _ | _ | _ | _ | _ | _ | j
 all_goals first
  | exact h
  | (simp [PI.cells] at h)
set_option maxHeartbeats 4000000 in
theorem zz6_calls (w:World) (B:Nat) (p:PN) (h:p.At w B):Calls Tryz.prog 24 #[p.agg] w (GivesAny w):=by
 have h7:=fun W (hW:Fr nope w W)=>zz7_calls W p.linesV p.lines (h.fr hW (fun _ _ x=>x)).lines h.few
 have h8:=fun W (hW:Fr nope w W)=>zz8_calls W B p.ins (h.fr hW (fun _ _ x=>x)).ins
 have hb0:=heap_alloc_new w (.cells p.cells 48)
 have hn0:=(Fr.refl nope w).alloc (.cells p.cells 48)
 have hc1:(w.alloc (.cells p.cells 48)).cell? ⟨w.heap.size,1,none⟩=some (.string p.label):=cell_of_row _ _ 1 _ _ (0,0) hb0
 have hc2:(w.alloc (.cells p.cells 48)).cell? ⟨w.heap.size,2,none⟩=some p.linesV.val:=cell_of_row _ _ 2 _ _ (0,0) hb0
 clear h
 unfold SV.val at hc2 h7
 replace h7:=Lib.hid h7
 replace h8:=Lib.hid h8
 replace hb0:=Lib.hid hb0
 unfold PN.agg
 by_cases h:(2147483647:Int) < (p.label.size:Int)
 ·go_enter Tryz.func24,Tryz.ntmps24
  go_wp2_with fail
  go_ret
  exact ⟨hn0,_,rfl⟩
 ·go_enter Tryz.func24,Tryz.ntmps24
  go_wp2_with fail
  refine (h7.out _ hn0).mono ?_
  rintro e w1 ⟨hf1,b,rfl⟩
  have hn1:=hn0.then hf1
  have hb1:=hf1.heap hb0.out (fun x=>x)
  have hr:w1.rangeAt w.heap.size 3 p.ins.cells.toList:=fun j v hj=>by
   rw [cell_of_row _ _ (3+j) _ _ (0,0) hb1]
   exact pn_ins p j v hj
  clear hc1 hc2 hb1
  cases b with
  | false=>
   go_wp2
   go_ret
   exact ⟨hn1,_,rfl⟩
  | true=>
   go_wp2_with (refine wpList_load_mid rfl _ _ rfl w.heap.size 3 rfl p.ins.cells.toList _ hr Tryz.underlying46 rfl (by kernel_rfl) ?_)
   refine (h8.out _ hn1).mono ?_
   rintro e w2 ⟨hf2,b,rfl⟩
   have hn2:=hn1.then hf2
   clear hr
   cases b with
   | false=>
    go_wp2
    go_ret
    exact ⟨hn2,_,rfl⟩
   | true=>
    go_wp2
    go_ret
    exact ⟨hn2,_,rfl⟩
set_option maxHeartbeats 4000000 in
theorem zz5_calls (w:World) (B:Nat) (s:SV) (ns:List PN) (hN:NodesAt w B s ns):Calls Tryz.prog 5 #[s.val] w (GivesAny w):=by
 obtain ⟨A,n,c⟩:=s
 obtain rfl:n=ns.length:=hN.len
 have hfew:=hN.few
 simp only [SV.val]
 go_enter Tryz.func5,Tryz.ntmps5
 go_wp2
 go_loopg [10] ns.length (fun n c7 wr=>∃ k:Nat,k≤ns.length∧c7 = .int .i64 (k:Int)∧Fr nope w wr∧n=ns.length - k)
 case atStart=>exact ⟨0,Nat.zero_le _,rfl,Fr.refl _ _,rfl⟩
 case round=>
  obtain ⟨k,hk,rfl,hf,rfl⟩:=hrel
  by_cases hlt:k < ns.length
  ·obtain ⟨b,off,hAe,hbB,hbl,hc⟩:=(hN.fr hf (fun _ _ x=>x)).row (by omega)
   simp only at hAe
   subst hAe
   obtain ⟨p,hpk⟩:∃ p,ns[k]? = some p:=⟨_,List.getElem?_eq_getElem hlt⟩
   have hc:=hc k p hpk
   have hat:=hN.each p (List.mem_of_getElem? hpk)
   clear hpk hN
   go_wp2_with (first
    | (refine wpList_load_mid rfl _ _ rfl b (off+k*13) rfl p.cells.toList _ hc Tryz.underlying48 rfl (by kernel_rfl) ?_)
    | (refine wpList_storeRow (b:=wr.heap.size) (cells:=p.cells) rfl rfl rfl rfl (heap_alloc_new _ _) rfl (by kernel_rfl) (by kernel_rfl) ?_;intro w2 hb2 hf2)
    | (refine wpList_loadRow (b:=wr.heap.size) (cells:=p.cells) rfl rfl rfl hb2 Tryz.underlying48 rfl (by kernel_rfl) ?_))
   have hn2:Fr nope wr w2:=((Fr.refl nope wr).alloc _).then_new hf2 (fun x hx e=>by omega)
   refine (zz6_calls w2 B p (hat.fr (hf.then hn2) (fun _ _ x=>x))).mono ?_
   rintro e w3 ⟨hf3,b,rfl⟩
   have hf13:=(hf.then hn2).then hf3
   cases b with
   | false=>
    go_wp2
    go_ret
    exact ⟨hf13,_,rfl⟩
   | true=>
    go_wp2
    go_roundg (ns.length - (k+1))
    case measure=>omega
    case rel=>exact ⟨k+1,by omega,by go_num,hf13,rfl⟩
  ·go_wp2
   go_ret
   exact ⟨hf,_,rfl⟩
end
section
open Go Go.RowKit Bth
set_option maxRecDepth 100000
theorem PI.At.up {w:World} {B B':Nat} {p:PI} (h:p.At w B) (hB:B≤B'):p.At w B':={ h with below:=fun s hs hn b off e=>Nat.lt_of_lt_of_le (h.below s hs hn b off e) hB }
theorem PN.At.up {w:World} {B B':Nat} {p:PN} (h:p.At w B) (hB:B≤B'):p.At w B':={ h with ins:=h.ins.up hB,below:=fun hn b off e=>Nat.lt_of_lt_of_le (h.below hn b off e) hB }
theorem NodesAt.up {w:World} {B B':Nat} {s:SV} {ns:List PN} (h:NodesAt w B s ns) (hB:B≤B'):NodesAt w B' s ns:={ h with
 row:=fun hl=>by obtain ⟨b,off,h1,h2,h3,h4⟩:=h.row hl;exact ⟨b,off,h1,Nat.lt_of_lt_of_le h2 hB,h3,h4⟩
 each:=fun p hp=>(h.each p hp).up hB }
theorem ofPairs_fold (l:List (Nat × Nat)):∀ (F:Nat→Option Nat) (x:Nat),(∀ y,l.foldl (fun f p x=>if x=p.1 then some p.2 else f x) F x=some y→(x,y)∈l∨F x=some y)∧((F x≠none∨∃ y,(x,y)∈l)→l.foldl (fun f p x=>if x=p.1 then some p.2 else f x) F x≠none):=by
 induction l with
 | nil=>exact fun F x=>⟨fun y h=>.inr h,fun h=>h.elim id fun ⟨y,hy⟩=>by cases hy⟩
 | cons p l ih=>
  intro F x
  rw [List.foldl_cons]
  obtain ⟨i1,i2⟩:=ih (fun x=>if x=p.1 then some p.2 else F x) x
  refine ⟨fun y h=>?_,fun h=>i2 ?_⟩
  ·rcases i1 y h with h | h
   ·exact .inl (List.mem_cons_of_mem _ h)
   ·by_cases e:x=p.1
    ·rw [if_pos e] at h
     injection h with h
     exact .inl (by rw [e,← h];exact List.mem_cons_self)
    ·rw [if_neg e] at h;exact .inr h
  ·by_cases e:x=p.1
   ·exact .inl (by simp [e])
   ·rw [if_neg e]
    rcases h with h | ⟨y,hy⟩
    ·exact .inl h
    ·rcases List.mem_cons.1 hy with hy | hy
     ·exact absurd (congrArg Prod.fst hy) e
     ·exact .inr ⟨y,hy⟩
theorem PairsOf.eq {f:Nat→Option Nat} {l:List (Nat × Nat)} (h:PairsOf f l):ofPairs l=f:=by
 funext x
 obtain ⟨i1,i2⟩:=ofPairs_fold l (fun _=>none) x
 cases hf:f x with
 | none=>
  cases ho:ofPairs l x with
  | none=>rfl
  | some y=>
   rcases i1 y ho with hm | hm
   ·have:=(h.1 _).1 hm;rw [hf] at this;cases this
   ·cases hm
 | some y=>
  have hm:(x,y)∈l:=(h.1 (x,y)).2 hf
  cases ho:ofPairs l x with
  | none=>exact absurd ho (i2 (.inr ⟨y,hm⟩))
  | some z=>
   rcases i1 z ho with hz | hz
   ·have:=(h.1 _).1 hz;rw [hf] at this;exact this.symm
   ·cases hz
def BulkP (ns:List PN):Prop:=sumL (fun p:PI=>p.ops.length+p.inp.length+p.out.length) (insP ns)≤1048576
theorem sumL_le {α : Type} {f g:α → Nat} {l:List α} (h:∀ x∈l,f x≤g x):sumL f l≤sumL g l:=by
 unfold sumL
 induction l with
 | nil=>exact Nat.le_refl _
 | cons x l ih=>
  have h1:=h x (by simp)
  have h2:=ih fun y hy=>h y (by simp [hy])
  simp only [List.map_cons,List.sum_cons]
  omega
theorem sumL_two {α : Type} {f:α → Nat} {l:List α} : sumL (fun x=>2*f x) l=2*sumL f l:=by
 unfold sumL
 induction l with
 | nil=>rfl
 | cons x l ih=>simp only [List.map_cons,List.sum_cons,ih];omega
theorem whole_kind {g:G} (h:wholeG g=true):1≤g.kind∧g.kind≤3:=by
 unfold wholeG at h
 split at h
 ·omega
 ·split at h
  ·omega
  ·split at h
   ·omega
   ·cases h
theorem okG_kind {g:G} (h:okG g=true) (hw:g.virt=true→wholeG g=true):g.kind≤3:=by
 cases hv:g.virt with
 | true=>exact (whole_kind (hw hv)).2
 | false=>
  unfold okG at h
  rw [hv] at h
  simp only [Bool.false_or,Bool.and_eq_true,decide_eq_true_eq] at h
  exact h.1
theorem insP_ok {ns:List PN} (hok:ns.all okN=true):∀ p∈insP ns,okI p=true:=fun p hp=>by
 obtain ⟨n',hn',e⟩:=List.mem_map.1 hp
 obtain ⟨h1,h2⟩:=List.mem_filter.1 hn'
 have h3:=List.all_eq_true.1 hok n' h1
 unfold okN at h3
 rw [if_pos (by simpa using h2),e] at h3
 exact h3
theorem gs_okI {p:PI} (h:okI p=true):∀ g∈p.gs,okG g=true:=fun g hg=>by
 unfold okI at h
 simp only [Bool.and_eq_true] at h
 unfold PI.gs at hg
 rcases List.mem_append.1 hg with hg | hg
 ·rcases List.mem_append.1 hg with hg | hg
  ·exact gsOf_okG h.1.1 g hg
  ·exact gsOf_okG h.1.2 g hg
 ·exact gsOf_okG h.2 g hg
theorem UsualP.kind {ns:List PN} (h:UsualP ns):∀ p∈insP ns,∀ g∈p.gs,g.kind≤3:=fun p hp g hg=>okG_kind (gs_okI (insP_ok h.2.1 p hp) g hg) ((h.2.2 p hp).1 g hg)
theorem UsualP.af {ns:List PN} (h:UsualP ns) (hops:∀ p∈insP ns,p.Ok) (hb:BulkP ns):AFOk ns:=by
 have h1:sumL (fun p:PI=>(outGs p.out).length) (insP ns)≤1048576:=Nat.le_trans (sumL_le fun p _=>by have:=outGs_le p.out;omega) hb
 have h2:sumL (fun p:PI=>(inGs p.canc p.inp p.out).length) (insP ns)≤2097152:=by
  refine Nat.le_trans (sumL_le (g:=fun p:PI=>2*(p.ops.length+p.inp.length+p.out.length)) fun p _=>by have:=inGs_le p.canc p.inp p.out;omega) ?_
  rw [sumL_two]
  unfold BulkP at hb
  omega
 have h3:sumL (fun p:PI=>(gsOf p.ops).length) (insP ns)≤2097152:=by
  refine Nat.le_trans (sumL_le (g:=fun p:PI=>2*(p.ops.length+p.inp.length+p.out.length)) fun p _=>by have:=gsOf_le p.ops;omega) ?_
  rw [sumL_two]
  unfold BulkP at hb
  omega
 refine ⟨h.2.1,hops,fun p hp hc=>(h.2.2 p hp).2.2 hc,fun p hp g hg=>h.kind p hp g (by unfold PI.gs;simp [hg]),fun p hp g hg=>(h.2.2 p hp).2.1 g (outGs_mem hg),?_,by omega⟩
 exact Nat.le_trans (Nat.mul_le_mul (Nat.add_le_add_right h1 1) h2) (by decide)
theorem FewI.few {ns:List PN} (h:FewI (insP ns)) (hu:UsualP ns):FewP (insP ns):=by
 obtain ⟨L,h1,h2,h3⟩:=h
 refine ⟨fun k=>if k≤3 then L k else [],fun k=>?_,by simp [h2],fun p hp g hg=>?_⟩
 ·show (if k≤3 then L k else []).length≤4
  split
  ·rename_i e;exact h1 k e
  ·simp
 ·show g.id∈if g.kind≤3 then L g.kind else []
  rw [if_pos (hu.kind p hp g hg)]
  exact h3 p hp g hg
theorem few_fit {ns:List PN} (hu:UsualP ns) (hok:AFOk ns) (hg:∃ sc,GraphP ns sc) (hn:AFRes ns none):¬FewI (insP ns):=fun h=>af_few hok hg (h.few hu) hn
end
section
open Go Go.RowKit Bth
set_option maxRecDepth 100000
theorem results_tmp4 {fn:Func} {t u v x:Tmp} (h:fn.results = #[.tmp t,.tmp u,.tmp v,.tmp x]) (tmps:Array Value) (P:Program) (w:World):
  (results fn tmps).run P w = .ok (.tuple #[tmps.getD t undef,tmps.getD u undef,tmps.getD v undef,tmps.getD x undef]) w:=by
 simp [results,h]
def GivesAl (w:World) (ns:List PN) (e:Ending) (w':World):Prop:=Fr nope w w'∧((∃ x y,e = .returned (.tuple #[x,y,.bool false,.bool false])) ∨
 ∃ (A:Option Addr) (c:Nat) (l:List (Nat × Nat)) (A':Option Addr) (c':Nat) (ns':List PN) (f:Nat→Option Nat),e = .returned (.tuple #[.slice A l.length c,.slice A' ns'.length c',.bool true,.bool false])∧PairsAt w' A l∧l.length≤1000000000∧ofPairs l=f∧AFRes ns (some f)∧AFOk ns∧UsualP ns∧NodesAt w' w'.heap.size ⟨A',ns'.length,c'⟩ ns'∧BoundN f ns ns')
end
end Go.Proofs.YtbgblfiapecioaaGreat
