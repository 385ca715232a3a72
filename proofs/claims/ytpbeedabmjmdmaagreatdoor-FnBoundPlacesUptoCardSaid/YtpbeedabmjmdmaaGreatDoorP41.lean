/- Part of the proof of a statement about pub-berthage: what its texts have in common. -/
import Derived.Test.YtpbeedabmjmdmaaGreatDoorP28
import Derived.Test.YtpbeedabmjmdmaaGreatDoorP30
import Derived.Test.YtpbeedabmjmdmaaGreatDoorP39
import Derived.Test.YtpbeedabmjmdmaaGreatDoorP40
namespace Go.Proofs.YtpbeedabmjmdmaaGreatDoor
section
open Go Go.RowKit Bth
set_option maxRecDepth 100000
structure BackB (f:Nat→Option Nat) (p p':PI):Prop where
 opc:p'.opc=p.opc
 suf:p'.suf=p.suf
 isa:p'.isa=p.isa
 ops:p'.ops=(p.ops.map normP).map (bindP f)
 inp:p'.inp=(p.inp.map normP).map (bindP f)
 out:p'.out=(p.out.map normP).map (bindP f)
 term:p'.term=p.term
 br:p'.br=p.br
 cond:p'.cond=p.cond
 canc:p'.canc=p.canc
structure BackM (f:Nat→Option Nat) (p p':PN):Prop where
 kind:p'.kind=p.kind
 few:p.kind=1∨p.kind=2∨p.kind=3
 label:p.kind=2→p'.label=p.label
 lines:p.kind=3→p'.lines=p.lines
 ins:p.kind=1→BackB f p.ins p'.ins
theorem BoundN.f2 {f:Nat→Option Nat} {ns ns':List PN} (h:BoundN f ns ns') (hok:∀ n∈ns,n.kind=1→n.ins.Ok):F2 (BackM f) ns ns':=by
 obtain ⟨fs,w0,wb,nds,rs,rs',cms,hW,hM,hB,hP,hnd,hcu⟩:=h
 have hb':rs'.map (·.b)=rs.map (·.b):=by
  refine List.ext_getElem? fun k=>?_
  rw [List.getElem?_map,List.getElem?_map]
  cases h1:rs[k]? with
  | none=>
   have:=List.getElem?_eq_none_iff.1 h1
   rw [List.getElem?_eq_none (by rw [hB.len];omega)]
  | some r=>
   have hk:=(List.getElem?_eq_some_iff.1 h1).1
   have h2:rs'[k]? = some (rs'[k]'(by rw [hB.len];omega)):=List.getElem?_eq_getElem _
   rw [h2]
   exact congrArg some (hB.each k r _ h1 h2).b
 have key:∀ (r r1:Rec),r∈rs→r1∈rs'→r1.b=r.b→BR f (fun q=>(r.row q).length) r r1:=fun r r1 hr hr1 e=>by
  obtain ⟨k,hk⟩:=List.getElem?_of_mem hr
  obtain ⟨j,hj⟩:=List.getElem?_of_mem hr1
  have hjb:(rs.map (·.b))[j]? = some r.b:=by rw [← hb',List.getElem?_map,hj,Option.map_some,e]
  have hkb:(rs.map (·.b))[k]? = some r.b:=by rw [List.getElem?_map,hk];rfl
  have hlt:=(List.getElem?_eq_some_iff.1 hk).1
  have:=(List.getElem?_inj (by rw [List.length_map];exact (by have:=(List.getElem?_eq_some_iff.1 hj).1;rw [hB.len] at this;exact this)) hnd).1 (hjb.trans hkb.symm)
  subst this
  exact (hB.each j r r1 hk hj).congr fun q _=>by unfold upTo2;rw [if_pos hlt,hk];rfl
 have main:∀ {ns xs:List PN} {nds:List Nd},(∀ n∈ns,n.kind=1→n.ins.Ok)→F2 (NdMt fs rs cms) ns nds→F2 (NdP rs' cms) nds xs→F2 (BackM f) ns xs:=by
  intro ns xs nds hok h1 h2
  induction h1 generalizing xs with
  | nil=>cases h2;exact .nil
  | @cons n nd ns nds a1 _ ih=>
   cases h2 with
   | @cons _ x _ xs a2 a3=>
    refine .cons ?_ (ih (fun n hn=>hok n (by simp [hn])) a3)
    have hk:=hok n (by simp)
    cases nd with
    | ins b=>
     obtain ⟨e1,r,hr,hb,hm⟩:=a1
     obtain ⟨e2,_,_,s,hs,hbs,hp⟩:=a2
     have hR:=key r s hr hs (hbs.trans hb.symm)
     have ho:=hk e1
     have r0:=(hR.row 0 (by omega)).po (Nat.le_refl _)
     have r1:=(hR.row 1 (by omega)).po (Nat.le_refl _)
     have r2:=(hR.row 2 (by omega)).po (Nat.le_refl _)
     refine ⟨e2.trans e1.symm,Or.inl e1,fun e=>by omega,fun e=>by omega,fun _=>?_⟩
     refine ⟨by rw [hp.opc,hR.i,hm.opc],by rw [hp.suf,hR.suf,hm.suf],by rw [hp.isa,hR.isa,hm.isa],?_,?_,?_,by rw [hp.term,hR.i,hm.term],by rw [hp.br,hR.i,hm.br],by rw [hp.cond,hR.i,hm.cond],by rw [hp.canc,hR.i,hm.canc]⟩
     ·rw [hp.ops,← pOps_po hW ho.ops hm.ops];exact r0
     ·rw [hp.inp,← pOps_po hW ho.inp hm.inp];exact r1
     ·rw [hp.out,← pOps_po hW ho.out hm.out];exact r2
    | label s=>
     obtain ⟨e1,rfl⟩:=a1
     obtain ⟨e2,e3,_⟩:=a2
     exact ⟨e2.trans e1.symm,Or.inr (Or.inl e1),fun _=>e3,fun e=>by omega,fun e=>by omega⟩
    | comment c=>
     obtain ⟨e1,hm⟩:=a1
     obtain ⟨e2,_,_,hm'⟩:=a2
     exact ⟨e2.trans e1.symm,Or.inr (Or.inr e1),fun e=>by omega,fun _=>hcu c _ _ hm' hm,fun e=>by omega⟩
 exact main hok hM.f2 hP.f2
theorem bound_twice {f:Nat→Option Nat} {ns xs ys:List PN} (h1:F2 (BackM f) ns xs) (h2:F2 (BackM f) xs ys):F2 SameN xs ys:=by
 induction h1 generalizing ys with
 | nil=>cases h2;exact .nil
 | @cons n x ns xs a1 _ ih=>
  cases h2 with
  | @cons _ y _ ys a2 b2=>
   refine .cons ⟨a2.kind,a2.label,a2.lines,fun e=>?_⟩ (ih b2)
   have i1:=a1.ins (a1.kind.symm.trans e)
   have i2:=a2.ins e
   have key:∀ l:List PO,((((l.map normP).map (bindP f)).map normP).map (bindP f))=(l.map normP).map (bindP f):=fun l=>by
    induction l with
    | nil=>rfl
    | cons p l ih=>
     simp only [List.map_cons,List.cons.injEq]
     exact ⟨bound_again f p,ih⟩
   exact ⟨i2.opc,i2.suf,i2.isa,by rw [i2.ops,i1.ops,key],by rw [i2.inp,i1.inp,key],by rw [i2.out,i1.out,key],i2.term,i2.br,i2.cond,i2.canc⟩
end
section
open Go Go.RowKit Bth
set_option maxRecDepth 100000
def bytesC (k:Int) (t:ByteArray):Int:=
 if k=1∨k=2 then 1 else if k=3∨k=4 then 2 else if k=5∨k=6∨k=9 then 4 else if k=7∨k=8∨k=10 then 8 else if k=11 then (t.size:Int) else -1
theorem Bytes_calls (w:World) (c:PC):Calls Tryz.prog 189 #[c.agg] w fun e w'=>e = .returned (.int .i64 (bytesC c.kind c.text))∧Fr nope w w':=by
 obtain ⟨kind,bits,text⟩:=c
 simp only [PC.agg]
 have go:(kind=1∨kind=2∨kind=3∨kind=4∨kind=5∨kind=6∨kind=7∨kind=8∨kind=9∨kind=10∨kind=11)∨(¬kind=1∧¬kind=2∧¬kind=3∧¬kind=4∧¬kind=5∧¬kind=6∧¬kind=7∧¬kind=8∧¬kind=9∧¬kind=10∧¬kind=11):=by omega
 rcases go with h | ⟨h1,h2,h3,h4,h5,h6,h7,h8,h9,h10,h11⟩
 ·rcases h with rfl | rfl | rfl | rfl | rfl | rfl | rfl | rfl | rfl | rfl | rfl
  all_goals
   go_enter Tryz.func189,Tryz.ntmps189
   go_wp2
   go_ret
   exact ⟨by first | rfl | simp [bytesC],(Fr.refl _ _).alloc _⟩
 ·have e:bytesC kind text = -1:=by unfold bytesC;simp [h1,h2,h3,h4,h5,h6,h7,h8,h9,h10,h11]
  rw [e]
  clear e
  go_enter Tryz.func189,Tryz.ntmps189
  go_wp2
  go_ret
  exact ⟨rfl,(Fr.refl _ _).alloc _⟩
def obitsC (k:Int) (b:Nat):Int:=if k=1 then Go.bits .and .u64 (b:Int) 255 else if k=2 then Go.bits .and .u64 (b:Int) 65535 else if k=4 then Go.bits .and .u64 (b:Int) 4294967295 else (b:Int)
theorem opBits_calls (w:World) (c:PC):Calls Tryz.prog 182 #[c.agg] w fun e w'=>e = .returned (.int .u64 (obitsC (bytesC c.kind c.text) c.bits))∧Fr nope w w':=by
 have hB:=fun w=>Bytes_calls w c
 obtain ⟨k,hk⟩:∃ k,k=bytesC c.kind c.text:=⟨_,rfl⟩
 rw [← hk] at hB ⊢
 clear hk
 obtain ⟨kind,bits,text⟩:=c
 simp only [PC.agg] at hB ⊢
 unfold obitsC
 by_cases h1:k=1
 ·subst h1
  rw [if_pos rfl]
  go_enter Tryz.func182,Tryz.ntmps182
  go_wp2_with fail
  refine (hB _).mono ?_
  rintro e w1 ⟨rfl,hf1⟩
  have hb1:=hf1.heap (heap_alloc_new w _) (fun x=>x)
  have hc1:=fun j=>cell_of_row _ _ j _ _ (0,0) hb1
  go_wp2
  go_ret
  exact ⟨rfl,((Fr.refl nope w).alloc _).then hf1⟩
 by_cases h2:k=2
 ·subst h2
  rw [if_neg (by decide),if_pos rfl]
  go_enter Tryz.func182,Tryz.ntmps182
  go_wp2_with fail
  refine (hB _).mono ?_
  rintro e w1 ⟨rfl,hf1⟩
  have hb1:=hf1.heap (heap_alloc_new w _) (fun x=>x)
  have hc1:=fun j=>cell_of_row _ _ j _ _ (0,0) hb1
  go_wp2
  go_ret
  exact ⟨rfl,((Fr.refl nope w).alloc _).then hf1⟩
 by_cases h4:k=4
 ·subst h4
  rw [if_neg (by decide),if_neg (by decide),if_pos rfl]
  go_enter Tryz.func182,Tryz.ntmps182
  go_wp2_with fail
  refine (hB _).mono ?_
  rintro e w1 ⟨rfl,hf1⟩
  have hb1:=hf1.heap (heap_alloc_new w _) (fun x=>x)
  have hc1:=fun j=>cell_of_row _ _ j _ _ (0,0) hb1
  go_wp2
  go_ret
  exact ⟨rfl,((Fr.refl nope w).alloc _).then hf1⟩
 rw [if_neg h1,if_neg h2,if_neg h4]
 go_enter Tryz.func182,Tryz.ntmps182
 go_wp2_with fail
 refine (hB _).mono ?_
 rintro e w1 ⟨rfl,hf1⟩
 have hb1:=hf1.heap (heap_alloc_new w _) (fun x=>x)
 have hc1:=fun j=>cell_of_row _ _ j _ _ (0,0) hb1
 go_wp2
 go_ret
 exact ⟨rfl,((Fr.refl nope w).alloc _).then hf1⟩
set_option maxHeartbeats 2000000 in
theorem SameConst_calls (w:World) (c:PC):Calls Tryz.prog 166 #[c.agg,c.agg] w (fun e w'=>e = .returned (.bool true)∧Fr nope w w'):=by
 have hB:=fun w=>opBits_calls w c
 obtain ⟨n,hn⟩:∃ n,n=obitsC (bytesC c.kind c.text) c.bits:=⟨_,rfl⟩
 rw [← hn] at hB
 clear hn
 obtain ⟨kind,bits,text⟩:=c
 simp only [PC.agg] at hB ⊢
 by_cases h11:kind=11
 ·subst h11
  clear hB
  go_enter Tryz.func166,Tryz.ntmps166
  go_wp2
  go_ret
  exact ⟨rfl,((Fr.refl _ _).alloc _).alloc _⟩
 ·obtain ⟨o,ho⟩:∃ o,o=Obj.cells #[.int .i64 kind,.int .u64 (bits:Int),.string text] 43:=⟨_,rfl⟩
  have hcs:∀ W,Fr nope ((w.alloc o).alloc o) W→W.cell? ⟨w.heap.size,0,none⟩=some (.int .i64 kind)∧W.cell? ⟨w.heap.size,1,none⟩=some (.int .u64 (bits:Int))∧W.cell? ⟨w.heap.size,2,none⟩=some (.string text)∧W.cell? ⟨w.heap.size+1,0,none⟩=some (.int .i64 kind)∧W.cell? ⟨w.heap.size+1,1,none⟩=some (.int .u64 (bits:Int))∧W.cell? ⟨w.heap.size+1,2,none⟩=some (.string text):=fun W hW=>by
   have h1:=(((Fr.refl nope (w.alloc o)).alloc o).then hW).heap (heap_alloc_new w o) (fun x=>x)
   have h2:=hW.heap (heap_alloc_new (w.alloc o) o) (fun x=>x)
   have es:(w.alloc o).heap.size=w.heap.size+1:=by simp
   rw [es] at h2
   subst ho
   have k1:=fun j=>cell_of_row _ _ j _ _ (0,0) h1
   have k2:=fun j=>cell_of_row _ _ j _ _ (0,0) h2
   exact ⟨k1 0,k1 1,k1 2,k2 0,k2 1,k2 2⟩
  have hd:Fr nope ((w.alloc o).alloc o) ((w.alloc o).alloc o).drew:=(Fr.refl nope _).drew
  have hS0:=hcs _ hd
  subst ho
  replace hcs:=Lib.hid hcs
  replace hB:=Lib.hid hB
  go_enter Tryz.func166,Tryz.ntmps166
  go_wp2_with fail
  go_region_held3 (fun W=>W.cell? ⟨w.heap.size,0,none⟩=some (.int .i64 kind)∧W.cell? ⟨w.heap.size,1,none⟩=some (.int .u64 (bits:Int))∧W.cell? ⟨w.heap.size,2,none⟩=some (.string text)∧W.cell? ⟨w.heap.size+1,0,none⟩=some (.int .i64 kind)∧W.cell? ⟨w.heap.size+1,1,none⟩=some (.int .u64 (bits:Int))∧W.cell? ⟨w.heap.size+1,2,none⟩=some (.string text)) (assumption)
   ((first
    | (go_at_call 182;refine (hB.out _).mono ?_;rintro e w2 ⟨rfl,hf2⟩;have hn2:=hn1.then hf2;have hS2:=hcs.out _ hn2)
    | (go_at_call 182;refine (hB.out _).mono ?_;rintro e w1 ⟨rfl,hf1⟩;have hn1:=hd.then hf1;have hS1:=hcs.out _ hn1)))
  all_goals
   go_wp2
   go_ret
   exact ⟨by simp,(((Fr.refl nope w).alloc _).alloc _).then hn2⟩
end
section
open Go Go.RowKit Bth
set_option maxRecDepth 100000
set_option maxHeartbeats 4000000 in
theorem SameOp_calls (w:World) (p:PO):Calls Tryz.prog 132 #[p.agg,p.agg] w (GivesB w true):=by
 have hC:=fun w=>SameConst_calls w p.con
 obtain ⟨kind,⟨rv,rk,ri,rs⟩,hasBase,hasIndex,⟨bv,bk,bi,bs⟩,⟨xv,xk,xi,xs⟩,scale,disp,sym,static,⟨ck,cb,ct⟩,label,rel⟩:=p
 simp only [PO.agg,PO.cells,PC.agg] at hC ⊢
 unfold GivesB
 by_cases h1:kind=1
 ·subst h1
  clear hC
  go_enter Tryz.func132,Tryz.ntmps132
  go_wp2
  go_ret
  exact ⟨by simp,((Fr.refl _ _).alloc _).alloc _⟩
 by_cases h2:kind=2
 ·subst h2
  clear hC
  cases hasBase<;>cases hasIndex
  all_goals
   go_enter Tryz.func132,Tryz.ntmps132
   go_wp2
   go_ret
   exact ⟨by simp,((Fr.refl _ _).alloc _).alloc _⟩
 by_cases h3:kind=3
 ·subst h3
  go_enter Tryz.func132,Tryz.ntmps132
  go_wp2_with fail
  refine (hC _).mono ?_
  rintro e w1 ⟨rfl,hf1⟩
  go_wp2
  go_ret
  exact ⟨rfl,(((Fr.refl _ _).alloc _).alloc _).then hf1⟩
 clear hC
 by_cases h4:kind=4
 ·subst h4
  go_enter Tryz.func132,Tryz.ntmps132
  go_wp2
  go_ret
  exact ⟨by simp,((Fr.refl _ _).alloc _).alloc _⟩
 ·go_enter Tryz.func132,Tryz.ntmps132
  go_wp2
  go_ret
  exact ⟨by simp,((Fr.refl _ _).alloc _).alloc _⟩
end
section
open Go Go.RowKit Bth
set_option maxRecDepth 100000
theorem reg_eq3 {P:Program} {Q:Exit→Act→World→Prop} {a:Act} {w:World} {id:Nat} {ops ops':Array Oper} (h:ops=ops') (H:(Code.region id ops' true).wp P Q a w):(Code.region id ops true).wp P Q a w:=h ▸ H
noncomputable def soReg:Array Oper:=findReg 6 (Tryz.f98.body.getD .skip)
theorem idxO (b off n c p:Nat) (hp:p < n) (w:World):(Instr.indexAt 36 (.slice (some ⟨b,off,none⟩) n c) (.int .i64 (p:Int))).run Tryz.prog w = .ok (.pointer (some ⟨b,off+p*24,none⟩)) w:=by
 have h0:(0:Int)≤(p:Int):=by omega
 have h1:(p:Int) < (n:Int):=by omega
 go_simp
set_option maxHeartbeats 2000000 in
theorem rgSO {a0:Act} {w:World} {Q:Exit→Act→World→Prop} {S R:World→Prop} {b1 o1 b2 o2 n c1 c2 k:Nat} {cx:List Value}
  (h0:Bun a0 27 [(0,.slice (some ⟨b1,o1,none⟩) n c1),(1,.slice (some ⟨b2,o2,none⟩) n c2),(5,.int .i64 (k:Int))]) (hQ:∀ d v c a w,Q (.panic c) (a.put d v) w→Q (.panic c) a w)
  (hk:k < n) (hcx:cx.length=24) (hS0:S w.drew) (hS:∀ w,S w→w.rangeAt b1 (o1+k*24) cx∧w.rangeAt b2 (o2+k*24) cx)
  (hc:Calls Tryz.prog 132 #[.agg cx.toArray,.agg cx.toArray] w.drew fun e w'=>e = .returned (.bool true)∧R w'∧S w')
  (h:∀ w',R w'→Q .normal (putL a0 [(16,.slice (some ⟨b1,o1,none⟩) n c1),(17,.int .i64 (k:Int)),(18,.pointer (some ⟨b1,o1+k*24,none⟩)),(19,.agg cx.toArray),(20,.slice (some ⟨b2,o2,none⟩) n c2),(21,.int .i64 (k:Int)),(22,.pointer (some ⟨b2,o2+k*24,none⟩)),(23,.agg cx.toArray),(24,.bool true),(25,.bool false)]) w'):(Code.region 6 soReg true).wp Tryz.prog Q a0 w:=by
 refine wp_region_T (S:=S) (T:=[]) (by kernel_rfl) ?_
 rw [show soReg.size=10 from by kernel_rfl]
 have hT:∀ {l:Array Bool},noneT [] l→S w.drew:=fun _=>hS0
 refine takeM h0 hT hQ 0 16 0 _ (by unfold isB;kernel_rfl) (by kernel_rfl) rfl fun a0 e0 h0=>?_
 refine takeM h0 hT hQ 1 17 5 _ (by unfold isB;kernel_rfl) (by kernel_rfl) rfl fun a1 e1 h0=>?_
 refine takeI h0 hT hQ 2 18 16 17 36 _ _ ⟨b1,o1+k*24,none⟩ (by unfold isB;kernel_rfl) (by kernel_rfl) rfl rfl (fun w=>idxO b1 o1 n c1 k hk w) fun a2 e2 h0=>?_
 refine takeS h0 hS0 hQ 3 19 18 45 b1 (o1+k*24) cx _ (by unfold isB;kernel_rfl) (by kernel_rfl) rfl Tryz.underlying45 rfl (by rw [hcx];kernel_rfl) (fun w hw=>(hS w hw).1) fun a3 e3 h0=>?_
 refine takeM h0 hT hQ 4 20 1 _ (by unfold isB;kernel_rfl) (by kernel_rfl) rfl fun a4 e4 h0=>?_
 refine takeM h0 hT hQ 5 21 5 _ (by unfold isB;kernel_rfl) (by kernel_rfl) rfl fun a5 e5 h0=>?_
 refine takeI h0 hT hQ 6 22 20 21 36 _ _ ⟨b2,o2+k*24,none⟩ (by unfold isB;kernel_rfl) (by kernel_rfl) rfl rfl (fun w=>idxO b2 o2 n c2 k hk w) fun a6 e6 h0=>?_
 refine takeS h0 hS0 hQ 7 23 22 45 b2 (o2+k*24) cx _ (by unfold isB;kernel_rfl) (by kernel_rfl) rfl Tryz.underlying45 rfl (by rw [hcx];kernel_rfl) (fun w hw=>(hS w hw).2) fun a7 e7 h0=>?_
 refine takeCall h0 8 24 132 [19,23] #[45,45] [.agg cx.toArray,.agg cx.toArray] (fun v W=>v = .bool true∧R W∧S W) (by kernel_rfl) (by unfold isB;kernel_rfl) (by kernel_rfl) Tryz.func132 (by kernel_rfl) (by kernel_rfl) rfl ((hc).mono fun e w' h=>⟨_,h.1,rfl,h.2⟩) ?_
 rintro a8 _ w5 ⟨rfl,hR,hS5⟩ e8 h0
 refine ⟨fun _=>hS5,?_⟩
 have hT:∀ {l:Array Bool},noneT [] l→S w5:=fun _=>hS5
 refine takeU h0 hT hQ 9 25 _ (.bool (!true)) (show isB soReg 9 25 (.unOp .not 4 (.tmp 24)) from by unfold isB;kernel_rfl) (by kernel_rfl) (fun o e w=>by simp only [execOp,e,h0.at_ 24 _ rfl];go_simp) fun a9 e9 h0=>?_
 refine wpAnyT_done (by kernel_rfl) ?_ _
 subst e9 e8 e7 e6 e5 e4 e3 e2 e1 e0
 exact h _ hR
set_option maxHeartbeats 2000000 in
theorem SameOps_calls (w:World) (s t:SV) (ps:List PO) (h:POsAt w s ps) (h':POsAt w t ps) (hl:ps.length≤1048576):Calls Tryz.prog 98 #[s.val,t.val] w (GivesB w true):=by
 obtain ⟨A,n,c⟩:=s
 obtain ⟨A',n',c'⟩:=t
 have hps:=h
 have hqs:=h'
 obtain ⟨rfl,_⟩:n=ps.length∧_:=h
 obtain ⟨rfl,_⟩:n'=ps.length∧_:=h'
 simp only [SV.val]
 go_enter Tryz.func98,Tryz.ntmps98
 go_wp2
 go_loopg [13] ps.length (fun m c13 wr=>∃ k:Nat,k≤ps.length∧c13 = .int .i64 (k:Int)∧Fr nope w wr∧m=ps.length - k)
 case atStart=>exact ⟨0,Nat.zero_le _,rfl,Fr.refl _ _,rfl⟩
 case round=>
  obtain ⟨k,hk,rfl,hf,rfl⟩:=hrel
  by_cases hlt:k < ps.length
  ·obtain ⟨b,off,hAe,hbl,hc⟩:=(hps.nope hf).2 (by omega)
   obtain ⟨b',off',hAe',hbl',hc'⟩:=(hqs.nope hf).2 (by omega)
   simp only at hAe hAe'
   subst hAe hAe'
   obtain ⟨p,hpk⟩:∃ p,ps[k]? = some p:=⟨_,List.getElem?_eq_getElem hlt⟩
   have hr:=hc k p hpk
   have hr':=hc' k p hpk
   clear hc hc' hpk hps hqs
   have hdr:Fr nope wr wr.drew:=(Fr.refl nope wr).drew
   have hSk:∀ W,Fr nope wr W→W.rangeAt b (off+k*24) p.cells.toList∧W.rangeAt b' (off'+k*24) p.cells.toList:=fun W hW=>⟨fun j v hv=>hW.cell (hr j v hv) (fun x=>x),fun j v hv=>hW.cell (hr' j v hv) (fun x=>x)⟩
   replace hr:=Lib.hid hr
   replace hr':=Lib.hid hr'
   go_wp2_with fail
   refine reg_eq3 (ops':=soReg) (by kernel_rfl) (rgSO (S:=fun W=>W.rangeAt b (off+k*24) p.cells.toList∧W.rangeAt b' (off'+k*24) p.cells.toList) (R:=fun W=>Fr nope wr W) (b1:=b) (o1:=off) (b2:=b') (o2:=off') (n:=ps.length) (c1:=c) (c2:=c') (k:=k) (cx:=p.cells.toList)
    ((((Bun.nil rfl rfl).cons 5 rfl).cons 1 rfl).cons 0 rfl) (fun d _ _ _ _ h=>by cases d<;>simpa [Exit.inBlock,Exit.then,bodyPost,Act.put] using h) hlt rfl (hSk _ hdr) (fun W hW=>hW) ?hc ?h)
   case hc=>
    refine (SameOp_calls wr.drew p).mono ?_
    rintro e w15 ⟨rfl,hf15⟩
    exact ⟨rfl,hdr.then hf15,hSk _ (hdr.then hf15)⟩
   case h=>
    intro w15 hf15
    clear hSk
    simp only [putL,List.foldl_cons,List.foldl_nil,Act.put,List.setIfInBounds_toArray,List.set_cons_zero,List.set_cons_succ]
    go_wp2
    go_roundg (ps.length - (k+1))
    case measure=>omega
    case rel=>exact ⟨k+1,by omega,by go_num,hf.then hf15,rfl⟩
  ·go_wp2
   go_ret
   exact ⟨rfl,hf⟩
end
section
open Go Go.RowKit Bth
set_option maxRecDepth 100000
set_option maxHeartbeats 4000000 in
theorem SameInstr_calls (w:World) (B B':Nat) (p p':PI) (h:p.At w B) (h':p'.At w B') (hs:SameI p p'):Calls Tryz.prog 61 #[p.agg,p'.agg] w (GivesB w true):=by
 obtain ⟨s1,s2,s3,s4,s5,s6,s7,s8,s9,s10⟩:=hs
 have hT1:=fun W (hW:Fr nope w W)=>irTexts_calls W p.sufV.A p'.sufV.A p.sufV.c p'.sufV.c p.suf (h.suf.2.nope hW) (s2 ▸ h'.suf.2.nope hW) h.few.1
 have hT2:=fun W (hW:Fr nope w W)=>irTexts_calls W p.isaV.A p'.isaV.A p.isaV.c p'.isaV.c p.isa (h.isa.2.nope hW) (s3 ▸ h'.isa.2.nope hW) h.few.2.2.2.2
 have hO1:=fun W (hW:Fr nope w W)=>SameOps_calls W p.opsV p'.opsV p.ops (h.ops.nope hW) (s4 ▸ h'.ops.nope hW) h.few.2.1
 have hO2:=fun W (hW:Fr nope w W)=>SameOps_calls W p.inpV p'.inpV p.inp (h.inp.nope hW) (s5 ▸ h'.inp.nope hW) h.few.2.2.1
 have hO3:=fun W (hW:Fr nope w W)=>SameOps_calls W p.outV p'.outV p.out (h.out.nope hW) (s6 ▸ h'.out.nope hW) h.few.2.2.2.1
 have n1:p.sufV.n=p.suf.length:=h.suf.1
 have n2:p'.sufV.n=p.suf.length:=s2 ▸ h'.suf.1
 have n3:p.isaV.n=p.isa.length:=h.isa.1
 have n4:p'.isaV.n=p.isa.length:=s3 ▸ h'.isa.1
 clear h h'
 obtain ⟨opc,⟨A1,m1,c1⟩,suf,⟨A2,m2,c2⟩,ops,⟨A3,m3,c3⟩,inp,⟨A4,m4,c4⟩,out,term,br,cond,canc,⟨A5,m5,c5⟩,isa⟩:=p
 obtain ⟨opc',⟨A1',m1',c1'⟩,suf',⟨A2',m2',c2'⟩,ops',⟨A3',m3',c3'⟩,inp',⟨A4',m4',c4'⟩,out',term',br',cond',canc',⟨A5',m5',c5'⟩,isa'⟩:=p'
 simp only at s1 s2 s3 s4 s5 s6 s7 s8 s9 s10 n1 n2 n3 n4 hT1 hT2 hO1 hO2 hO3
 subst s1 s2 s3 s4 s5 s6 s7 s8 s9 s10 n1 n2 n3 n4
 simp only [PI.agg,PI.cells,SV.val] at hT1 hT2 hO1 hO2 hO3 ⊢
 obtain ⟨o1,ho1⟩:∃ o,o=Obj.cells #[.string opc',.slice A1 suf'.length c1,.slice A2 m2 c2,.slice A3 m3 c3,.slice A4 m4 c4,.bool term',.bool br',.bool cond',.bool canc',.slice A5 isa'.length c5] 38:=⟨_,rfl⟩
 obtain ⟨o2,ho2⟩:∃ o,o=Obj.cells #[.string opc',.slice A1' suf'.length c1',.slice A2' m2' c2',.slice A3' m3' c3',.slice A4' m4' c4',.bool term',.bool br',.bool cond',.bool canc',.slice A5' isa'.length c5'] 38:=⟨_,rfl⟩
 have hcs:∀ W,Fr nope ((w.alloc o1).alloc o2) W→W.cell? ⟨w.heap.size,1,none⟩=some (.slice A1 suf'.length c1)∧W.cell? ⟨w.heap.size,9,none⟩=some (.slice A5 isa'.length c5)∧W.cell? ⟨w.heap.size,2,none⟩=some (.slice A2 m2 c2)∧W.cell? ⟨w.heap.size,3,none⟩=some (.slice A3 m3 c3)∧W.cell? ⟨w.heap.size,4,none⟩=some (.slice A4 m4 c4)∧W.cell? ⟨w.heap.size+1,1,none⟩=some (.slice A1' suf'.length c1')∧W.cell? ⟨w.heap.size+1,9,none⟩=some (.slice A5' isa'.length c5')∧W.cell? ⟨w.heap.size+1,2,none⟩=some (.slice A2' m2' c2')∧W.cell? ⟨w.heap.size+1,3,none⟩=some (.slice A3' m3' c3')∧W.cell? ⟨w.heap.size+1,4,none⟩=some (.slice A4' m4' c4'):=fun W hW=>by
  have h1:=(((Fr.refl nope (w.alloc o1)).alloc o2).then hW).heap (heap_alloc_new w o1) (fun x=>x)
  have h2:=hW.heap (heap_alloc_new (w.alloc o1) o2) (fun x=>x)
  have es:(w.alloc o1).heap.size=w.heap.size+1:=by simp
  rw [es] at h2
  subst ho1 ho2
  have k1:=fun j=>cell_of_row _ _ j _ _ (0,0) h1
  have k2:=fun j=>cell_of_row _ _ j _ _ (0,0) h2
  exact ⟨k1 1,k1 9,k1 2,k1 3,k1 4,k2 1,k2 9,k2 2,k2 3,k2 4⟩
 have h00:Fr nope w ((w.alloc o1).alloc o2):=((Fr.refl nope w).alloc _).alloc _
 subst ho1 ho2
 replace hcs:=Lib.hid hcs
 replace hT1:=Lib.hid hT1
 replace hT2:=Lib.hid hT2
 replace hO1:=Lib.hid hO1
 replace hO2:=Lib.hid hO2
 replace hO3:=Lib.hid hO3
 go_enter Tryz.func61,Tryz.ntmps61
 go_wp2_with fail
 refine (hT1.out _ h00).mono ?_
 rintro e w1 ⟨rfl,hf1⟩
 have hn1:=(Fr.refl nope _).then hf1
 have hS1:=hcs.out _ hn1
 go_wp2_with fail
 refine (hT2.out _ (h00.then hn1)).mono ?_
 rintro e w2 ⟨rfl,hf2⟩
 have hn2:=hn1.then hf2
 have hS2:=hcs.out _ hn2
 go_wp2_with fail
 refine (hO1.out _ (h00.then hn2)).mono ?_
 rintro e w3 ⟨rfl,hf3⟩
 have hn3:=hn2.then hf3
 have hS3:=hcs.out _ hn3
 go_wp2_with fail
 refine (hO2.out _ (h00.then hn3)).mono ?_
 rintro e w4 ⟨rfl,hf4⟩
 have hn4:=hn3.then hf4
 have hS4:=hcs.out _ hn4
 go_wp2_with fail
 refine (hO3.out _ (h00.then hn4)).mono ?_
 rintro e w5 ⟨rfl,hf5⟩
 have hn5:=hn4.then hf5
 go_wp2
 go_ret
 exact ⟨rfl,h00.then hn5⟩
end
section
open Go Go.RowKit Bth
set_option maxRecDepth 100000
set_option maxHeartbeats 4000000 in
theorem SameNodeN_calls (w:World) (B B':Nat) (p p':PN) (h:p.At w B) (h':p'.At w B') (hs:SameN p p') (hk:p.kind=1∨p.kind=2∨p.kind=3):Calls Tryz.prog 30 #[p.agg,p'.agg] w (GivesB w true):=by
 rcases hk with hk | hk
 ·have hI:=fun W (hW:Fr nope w W)=>SameInstr_calls W B B' p.ins p'.ins (h.ins.fr hW (fun _ _ x=>x)) (h'.ins.fr hW (fun _ _ x=>x)) (hs.ins hk)
  have hk':=hs.kind
  clear h h' hs
  obtain ⟨o1,ho1⟩:∃ o,o=Obj.cells p.cells 57:=⟨_,rfl⟩
  obtain ⟨o2,ho2⟩:∃ o,o=Obj.cells p'.cells 57:=⟨_,rfl⟩
  have hr1:((w.alloc o1).alloc o2).rangeAt w.heap.size 3 p.ins.cells.toList:=by
   have h1:=((Fr.refl nope (w.alloc o1)).alloc o2).heap (heap_alloc_new w o1) (fun x=>x)
   subst ho1
   exact PN.range h1
  have hr2:((w.alloc o1).alloc o2).rangeAt (w.heap.size+1) 3 p'.ins.cells.toList:=by
   have h2:=heap_alloc_new (w.alloc o1) o2
   have es:(w.alloc o1).heap.size=w.heap.size+1:=by simp
   rw [es] at h2
   subst ho2
   exact PN.range h2
  have h00:Fr nope w ((w.alloc o1).alloc o2):=((Fr.refl nope w).alloc _).alloc _
  obtain ⟨kind,label,⟨lA,ln,lc⟩,lines,ins⟩:=p
  obtain ⟨kind',label',⟨lA',ln',lc'⟩,lines',ins'⟩:=p'
  simp only at hk hk' hI hr1 hr2
  rw [hk] at hk'
  subst hk hk' ho1 ho2
  simp only [PN.agg,PN.cells,SV.val] at hr1 hr2 h00 ⊢
  unfold PI.agg at hI
  replace hI:=Lib.hid hI
  go_enter Tryz.func30,Tryz.ntmps30
  go_wp2_with (first
   | (refine wpList_load_mid rfl _ _ rfl w.heap.size 3 rfl ins.cells.toList _ hr1 Tryz.underlying38 rfl (by kernel_rfl) ?_)
   | (refine wpList_load_mid rfl _ _ rfl (w.heap.size+1) 3 rfl ins'.cells.toList _ hr2 Tryz.underlying38 rfl (by kernel_rfl) ?_))
  refine (hI.out _ h00).mono ?_
  rintro e w1 ⟨rfl,hf1⟩
  go_wp2
  go_ret
  exact ⟨rfl,h00.then hf1⟩
 ·exact SameNode_calls w B p p' h ⟨B',h'⟩ ⟨hs.kind,hs.label,hs.lines⟩ hk
end
end Go.Proofs.YtpbeedabmjmdmaaGreatDoor
