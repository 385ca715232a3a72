/- Part of the proof of a statement about pub-berthage: what its texts have in common. -/
import Derived.Deep.RegionHeld3
import Derived.Lib.Hide
import Derived.Test.YtpbeedabmjmdmaaGreatDoorP09
namespace Go.Proofs.YtpbeedabmjmdmaaGreatDoor
section
open Go Go.RowKit Bth
set_option maxRecDepth 100000
theorem infoStr:(Tryz.prog.info? 9).map (fun i=>(i.zero,i.size,i.bytes))=some (some (.string ⟨#[]⟩),1,16):=by kernel_rfl
structure PI where
 opc:ByteArray
 sufV:SV
 suf:List ByteArray
 opsV:SV
 ops:List PO
 inpV:SV
 inp:List PO
 outV:SV
 out:List PO
 term:Bool
 br:Bool
 cond:Bool
 canc:Bool
 isaV:SV
 isa:List ByteArray
def SV.val (s:SV):Value:=.slice s.A s.n s.c
def PI.cells (i:PI):Array Value:=#[.string i.opc,i.sufV.val,i.opsV.val,i.inpV.val,i.outV.val,.bool i.term,.bool i.br,.bool i.cond,.bool i.canc,i.isaV.val]
def PI.agg (i:PI):Value:=.agg i.cells
def StrsAt (w:World) (s:SV) (l:List ByteArray):Prop:=s.n=l.length∧Sl w s.A l.length (l.map Value.string)
theorem StrsAt.fr {S:Nat→Prop} {w w':World} {s:SV} {l:List ByteArray} (h:StrsAt w s l) (hf:Fr S w w') (hs:0 < s.n→∀ b off,s.A=some ⟨b,off,none⟩→¬S b):StrsAt w' s l:=⟨h.1,h.2.fr hf fun hl=>hs (by rw [h.1];exact hl)⟩
structure PI.At (w:World) (B:Nat) (i:PI):Prop where
 suf:StrsAt w i.sufV i.suf
 ops:POsAt w i.opsV i.ops
 inp:POsAt w i.inpV i.inp
 out:POsAt w i.outV i.out
 isa:StrsAt w i.isaV i.isa
 below:∀ s∈[i.sufV,i.opsV,i.inpV,i.outV,i.isaV],0 < s.n→∀ b off,s.A=some ⟨b,off,none⟩→b < B
 few:i.suf.length≤1048576∧i.ops.length≤1048576∧i.inp.length≤1048576∧i.out.length≤1048576∧i.isa.length≤1048576
 ok:(∀ p∈i.ops,p.Ok)∧(∀ p∈i.inp,p.Ok)∧(∀ p∈i.out,p.Ok)
theorem PI.At.fr {S:Nat→Prop} {w w':World} {B:Nat} {i:PI} (h:i.At w B) (hf:Fr S w w') (hs:∀ b,b < B→¬S b):i.At w' B:=
 ⟨h.suf.fr hf fun hn b off e=>hs b (h.below _ (by simp) hn b off e),h.ops.fr hf fun hn b off e=>hs b (h.below _ (by simp) hn b off e),h.inp.fr hf fun hn b off e=>hs b (h.below _ (by simp) hn b off e),h.out.fr hf fun hn b off e=>hs b (h.below _ (by simp) hn b off e),h.isa.fr hf fun hn b off e=>hs b (h.below _ (by simp) hn b off e),h.below,h.few,h.ok⟩
structure Own (w:World) (lo hi b:Nat) (i:Ins) (ops inp out:List O):Prop where
 at_:w.heap[b]? = some (.cells i.cells 130 (0,0))
 b1:lo≤b
 b2:b < hi
 ops:w.ownsRow lo 132 1 i.ops.val ops.length (ops.map O.val)
 inp:w.ownsRow lo 132 1 i.inp.val inp.length (inp.map O.val)
 out:w.ownsRow lo 132 1 i.out.val out.length (out.map O.val)
 h1:∀ k,i.ops.val.ownBlock=some k→k < hi
 h2:∀ k,i.inp.val.ownBlock=some k→k < hi
 h3:∀ k,i.out.val.ownBlock=some k→k < hi
 d1:∀ k,i.ops.val.ownBlock=some k→i.inp.val.ownBlock≠some k∧i.out.val.ownBlock≠some k
 d2:∀ k,i.inp.val.ownBlock=some k→i.out.val.ownBlock≠some k
def StrOwn (w:World) (lo:Nat) (s:SV) (l:List ByteArray):Prop:=s.n=l.length∧w.ownsRow lo 9 1 s.val l.length (l.map Value.string)
theorem own_SV {w:World} {base n:Nat} {e:TypeId} {v:Value} {xs:List Value} (h:w.ownsRow base e 1 v n xs):∃ s:SV,v=s.val∧s.n=n:=by
 obtain ⟨A,c,rfl,_,_⟩:=own_slice h
 exact ⟨⟨A,n,c⟩,rfl,rfl⟩
theorem own_le {w:World} {b1 b2 n size:Nat} {e:TypeId} {v:Value} {xs:List Value} (h:w.ownsRow b1 e size v n xs) (hb:b2≤b1):w.ownsRow b2 e size v n xs:=by
 refine ⟨h.1,?_⟩
 rcases h.2 with hn | ⟨g,cap,cur,h1,h2,h3⟩
 ·exact .inl hn
 ·exact .inr ⟨g,cap,cur,h1,Nat.le_trans hb h2,h3⟩
theorem instr_fail {b1 b2 b3:Bool} (h:(b1 && b2 && b3)=false):b1=false∨(b1=true∧b2=false)∨(b1=true∧b2=true∧b3=false):=by
 cases b1<;>cases b2<;>cases b3<;>simp_all
def okI (p:PI):Bool:=p.ops.all okP && p.inp.all okP && p.out.all okP
def GivesInstr (w:World) (wb:Nat) (fs:Nat→Option Nat) (p:PI) (e:Ending) (w':World):Prop:=
 ∃ fs',Grows fs fs'∧(SettledL wb fs' p.ops∧SettledL wb fs' p.inp∧SettledL wb fs' p.out)∧WAt w' wb fs'∧Fr (fun b=>b=wb) w w' ∧
  ((∃ os is us i b,okI p=true∧pOps fs' p.ops=some os∧pOps fs' p.inp=some is∧pOps fs' p.out=some us∧e = .returned (.tuple #[ptr b,.bool true])∧Own w' w.heap.size w'.heap.size b i os is us ∧
    i.opc=p.opc∧i.term=p.term∧i.br=p.br∧i.cond=p.cond∧i.canc=p.canc∧i.pred=⟨none,0,0⟩∧i.succ=⟨none,0,0⟩∧i.lin=none∧i.lout=none∧StrOwn w' w.heap.size i.suf p.suf∧StrOwn w' w.heap.size i.isa p.isa ∧
    (∀ k,i.suf.val.ownBlock=some k→w.heap.size≤k∧k < w'.heap.size)∧(∀ k,i.isa.val.ownBlock=some k→w.heap.size≤k∧k < w'.heap.size)) ∨
   okI p=false∧e = .returned (.tuple #[.pointer none,.bool false]))
set_option maxHeartbeats 2000000 in
theorem instr_calls (w:World) (wb:Nat) (fs:Nat→Option Nat) (p:PI) (hp:p.At w wb) (hW:WAt w wb fs):
  Calls Tryz.prog 53 #[ptr wb,p.agg] w (GivesInstr w wb fs p):=by
 have hlt:=lt_of_heap hW.1
 have hbel:=hp.below
 have hp0:=fun o=>hp.fr ((Fr.refl nope w).alloc o) (fun _ _ x=>x)
 have hW0:=fun o=>hW.nope ((Fr.refl nope w).alloc o)
 obtain ⟨opc,⟨sA,sn,sc⟩,suf,opsV,ops,inpV,inp,outV,out,term,br,cond,canc,⟨iA,ni,ic⟩,isa⟩:=p
 obtain rfl:sn=suf.length:=hp.suf.1
 obtain rfl:ni=isa.length:=hp.isa.1
 have hfew:suf.length≤1048576∧ops.length≤1048576∧inp.length≤1048576∧out.length≤1048576∧isa.length≤1048576:=hp.few
 simp only [PI.agg,PI.cells,SV.val]
 go_enter Tryz.func53,Tryz.ntmps53
 go_wp2_with fail
 refine (ops_calls _ wb fs opsV ops (hp0 _).ops hp.ok.1 (hW0 _) (by omega) (fun hn b off e=>by have:=hbel _ (by simp) hn b off e;omega)).mono ?_
 rintro e w1 ⟨fs1,v1,g1,s1,W1,rfl,o1,f1,y1⟩
 replace y1:=Lib.hid y1
 have k1:=f1.heap (heap_alloc_new w _) (by omega)
 have c1:=fun j=>cell_of_row _ _ j _ _ (0,0) k1
 have hp1:=(hp0 _).fr f1 (fun b hb e=>by omega)
 go_wp2_with fail
 refine (ops_calls _ wb fs1 inpV inp hp1.inp hp.ok.2.1 W1 (by omega) (fun hn b off e=>by have:=hbel _ (by simp) hn b off e;omega)).mono ?_
 rintro e w2 ⟨fs2,v2,g2,s2,W2,rfl,o2,f2,y2⟩
 replace y2:=Lib.hid y2
 have k2:=f2.heap k1 (by omega)
 have c2:=fun j=>cell_of_row _ _ j _ _ (0,0) k2
 have hp2:=hp1.fr f2 (fun b hb e=>by omega)
 go_wp2_with fail
 refine (ops_calls _ wb fs2 outV out hp2.out hp.ok.2.2 W2 (by omega) (fun hn b off e=>by have:=hbel _ (by simp) hn b off e;omega)).mono ?_
 rintro e w3 ⟨fs3,v3,g3,s3,W3,rfl,o3,f3,y3⟩
 replace y3:=Lib.hid y3
 have k3:=f3.heap k2 (by omega)
 have c3:=fun j=>cell_of_row _ _ j _ _ (0,0) k3
 have hp3:=hp2.fr f3 (fun b hb e=>by omega)
 have hfr:Fr (fun b=>b=wb) w w3:=Fr.then (Fr.then (Fr.then ((Fr.refl _ w).alloc _) f1) f2) f3
 have q1:=s1 w3 fs3 W3 (g2.trans g3)
 have q2:=s2 w3 fs3 W3 g3
 have t1:SettledL wb fs3 ops:=fun w' fs' hw hg=>(s1 w' fs' hw ((g2.trans g3).trans hg)).trans q1.symm
 have t2:SettledL wb fs3 inp:=fun w' fs' hw hg=>(s2 w' fs' hw (g3.trans hg)).trans q2.symm
 cases h1:pOps fs1 ops with
 | none=>
  simp only [Option.isSome_none]
  go_wp2
  go_ret2
  exact ⟨fs3,(g1.trans g2).trans g3,⟨t1,t2,s3⟩,W3,hfr,.inr ⟨by have y1:=y1.out;rw [h1] at y1;simp [okI,← y1],rfl⟩⟩
 | some os=>
 cases h2:pOps fs2 inp with
 | none=>
  simp only [Option.isSome_none,Option.isSome_some]
  go_wp2
  go_ret2
  exact ⟨fs3,(g1.trans g2).trans g3,⟨t1,t2,s3⟩,W3,hfr,.inr ⟨by have y2:=y2.out;rw [h2] at y2;simp [okI,← y2],rfl⟩⟩
 | some is=>
 cases h3:pOps fs3 out with
 | none=>
  simp only [Option.isSome_none,Option.isSome_some]
  go_wp2
  go_ret2
  exact ⟨fs3,(g1.trans g2).trans g3,⟨t1,t2,s3⟩,W3,hfr,.inr ⟨by have y3:=y3.out;rw [h3] at y3;simp [okI,← y3],rfl⟩⟩
 | some us=>
  have o1:=o1 os h1
  have o2:=o2 is h2
  have o3:=o3 us h3
  obtain ⟨a1,b1,rfl,_,_⟩:=own_slice o1
  obtain ⟨a2,b2,rfl,_,_⟩:=own_slice o2
  obtain ⟨a3,b3,rfl,_,_⟩:=own_slice o3
  simp only [Option.isSome_some]
  have hS:∀ w',Fr nope w3 w'→(w'.cell? ⟨w.heap.size,0,none⟩=some (.string opc)∧w'.cell? ⟨w.heap.size,1,none⟩=some (.slice sA suf.length sc)∧w'.cell? ⟨w.heap.size,5,none⟩=some (.bool term)∧w'.cell? ⟨w.heap.size,6,none⟩=some (.bool br) ∧
    w'.cell? ⟨w.heap.size,7,none⟩=some (.bool cond)∧w'.cell? ⟨w.heap.size,8,none⟩=some (.bool canc)∧w'.cell? ⟨w.heap.size,9,none⟩=some (.slice iA isa.length ic)∧Fr nope w3 w'):=fun w' hf=>by
   have c:=fun j=>cell_of_row _ _ j _ _ (0,0) (hf.heap k3 (fun x=>x))
   exact ⟨c 0,c 1,c 5,c 6,c 7,c 8,c 9,hf⟩
  have x1:∀ w',Fr nope w3 w'→(0 < suf.length→∃ ad,sA=some ad∧∀ j u,(suf.map Value.string)[j]? = some u→w'.cell? (ad.add j)=some u):=fun w' hf=>Sl.src (hp3.suf.2.nope hf)
  have z1:∀ w',Fr nope w3 w'→(0 < isa.length→∃ ad,iA=some ad∧∀ j u,(isa.map Value.string)[j]? = some u→w'.cell? (ad.add j)=some u):=fun w' hf=>Sl.src (hp3.isa.2.nope hf)
  have x2:(suf.map Value.string).length=suf.length*1:=by simp
  have z2:(isa.map Value.string).length=isa.length*1:=by simp
  have x3:∀ u∈suf.map Value.string,u.oneCell'=true:=by simp [Value.oneCell']
  have z3:∀ u∈isa.map Value.string,u.oneCell'=true:=by simp [Value.oneCell']
  have x4:0+suf.length≤maxLen∧(0+suf.length)*16≤140737488355328:=by unfold maxLen;omega
  have z4:0+isa.length≤maxLen∧(0+isa.length)*16≤140737488355328:=by unfold maxLen;omega
  have x5:∀ w',Fr nope w3 w'→w.heap.size≤w'.heap.size:=fun w' hf=>Nat.le_trans hfr.size hf.size
  have hd:=(Fr.refl nope w3).drew
  have hcomp:∀ W W',Fr nope w3 W→Fr (fun b=>(Value.slice none 0 0).ownBlock=some b) W W'→Fr nope w3 W':=fun W W' h k=>h.then (k.mono (fun x _ h=>by simp [Value.ownBlock] at h))
  have hz1:=f1.size
  have hz2:=f2.size
  have hz3:=f3.size
  have fin:∀ wf A4 c4 A5 c5,Fr nope w3 wf→wf.ownsRow w.heap.size 9 1 (.slice A4 suf.length c4) suf.length (suf.map Value.string)→wf.ownsRow w.heap.size 9 1 (.slice A5 isa.length c5) isa.length (isa.map Value.string) →
    GivesInstr w wb fs ⟨opc,⟨sA,suf.length,sc⟩,suf,opsV,ops,inpV,inp,outV,out,term,br,cond,canc,⟨iA,isa.length,ic⟩,isa⟩ (.returned (.tuple #[.pointer (some ⟨wf.heap.size,0,none⟩),.bool true])) (wf.alloc (.cells #[.string opc,.slice A4 suf.length c4,.slice a1 os.length b1,.slice a2 is.length b2,.slice a3 us.length b3,.bool term,.bool br,.bool cond,.bool canc,.slice A5 isa.length c5,.slice none 0 0,.slice none 0 0,.map none,.map none] 130)):=by
   intro wf A4 c4 A5 c5 hf hS4 hS5
   have hz4:=hf.size
   have hnn:∀ o,Fr nope w3 (wf.alloc o):=fun o=>hf.alloc o
   have p1:=fun o=>own_fr (own_fr (own_fr o1 f2 (fun b hb e=>by have:=own_base o1 b hb;simp at this;omega)) f3 (fun b hb e=>by have:=own_base o1 b hb;simp at this;omega)) (hnn o) (fun _ _ x=>x)
   have p2:=fun o=>own_fr (own_fr o2 f3 (fun b hb e=>by have:=own_base o2 b hb;simp at hz1;omega)) (hnn o) (fun _ _ x=>x)
   have p3:=fun o=>own_fr o3 (hnn o) (fun _ _ x=>x)
   simp at hz1
   have hl1:=own_lt o1
   have hl2:=own_lt o2
   have hl3:=own_lt o3
   have hm1:=own_base o1
   have hm2:=own_base o2
   have hm3:=own_base o3
   refine ⟨fs3,(g1.trans g2).trans g3,⟨t1,t2,s3⟩,W3.nope (hnn _),hfr.then (hnn _).of_nope,.inl ⟨os,is,us,⟨opc,⟨A4,suf.length,c4⟩,⟨a1,os.length,b1⟩,⟨a2,is.length,b2⟩,⟨a3,us.length,b3⟩,term,br,cond,canc,⟨A5,isa.length,c5⟩,⟨none,0,0⟩,⟨none,0,0⟩,none,none⟩,wf.heap.size,by have y1:=y1.out;have y2:=y2.out;have y3:=y3.out;rw [h1] at y1;rw [h2] at y2;rw [h3] at y3;simp [okI,← y1,← y2,← y3],by rw [q1,h1],by rw [q2,h2],h3,rfl,?_,rfl,rfl,rfl,rfl,rfl,rfl,rfl,rfl,rfl,?_,?_,?_,?_⟩⟩
   ·exact {
     at_:=heap_alloc_new wf _
     b1:=by omega
     b2:=by simp
     ops:=own_le (p1 _) (by simp)
     inp:=own_le (p2 _) (by omega)
     out:=own_le (p3 _) (by omega)
     h1:=fun k hk=>by have:=hl1 k hk;simp;omega
     h2:=fun k hk=>by have:=hl2 k hk;simp;omega
     h3:=fun k hk=>by have:=hl3 k hk;simp;omega
     d1:=fun k hk=>⟨fun e=>by have:=hl1 k hk;have:=hm2 k e;omega,fun e=>by have:=hl1 k hk;have:=hm3 k e;omega⟩
     d2:=fun k hk e=>by have:=hl2 k hk;have:=hm3 k e;omega }
   ·exact ⟨rfl,own_fr hS4 ((Fr.refl nope wf).alloc _) (fun _ _ x=>x)⟩
   ·exact ⟨rfl,own_fr hS5 ((Fr.refl nope wf).alloc _) (fun _ _ x=>x)⟩
   ·exact fun k hk=>⟨own_base hS4 k hk,by have:=own_lt hS4 k hk;simp;omega⟩
   ·exact fun k hk=>⟨own_base hS5 k hk,by have:=own_lt hS5 k hk;simp;omega⟩
  go_wp2_with fail
  go_region_held3 (fun w'=>(w'.cell? ⟨w.heap.size,0,none⟩=some (.string opc)∧w'.cell? ⟨w.heap.size,1,none⟩=some (.slice sA suf.length sc)∧w'.cell? ⟨w.heap.size,5,none⟩=some (.bool term)∧w'.cell? ⟨w.heap.size,6,none⟩=some (.bool br) ∧
    w'.cell? ⟨w.heap.size,7,none⟩=some (.bool cond)∧w'.cell? ⟨w.heap.size,8,none⟩=some (.bool canc)∧w'.cell? ⟨w.heap.size,9,none⟩=some (.slice iA isa.length ic)∧Fr nope w3 w'))
   ((refine hS _ ?_;first | exact (Fr.refl _ _).drew | assumption | (refine Fr.alloc ?_ _;first | exact (Fr.refl _ _).drew | assumption)))
   ((first
    | (refine step_app (by rfl) (by rfl) Tryz.underlying35 infoStr rfl (by omega) (v:=.slice none 0 0) (by rfl) (own_nil _ w.heap.size _ _) (A:=sA) (m:=suf.length) (c:=sc) (news:=suf.map Value.string) (by rfl) x2 (x1 _ (by assumption)) x3 x4.1 x4.2 (x5 _ (by assumption)) ?_;intro v4 w4 hown4 hf4' hb4;have hf4:=hcomp _ _ (by assumption) hf4';obtain ⟨A4,c4,rfl,_,_⟩:=own_slice hown4)
    | (refine step_app (by rfl) (by rfl) Tryz.underlying35 infoStr rfl (by omega) (v:=.slice none 0 0) (by rfl) (own_nil _ w.heap.size _ _) (A:=iA) (m:=isa.length) (c:=ic) (news:=isa.map Value.string) (by rfl) z2 (z1 _ (by assumption)) z3 z4.1 z4.2 (x5 _ (by assumption)) ?_;intro v5 w5 hown5 hf5' hb5;have hf5:=hcomp _ _ (by assumption) hf5';obtain ⟨A5,c5,rfl,_,_⟩:=own_slice hown5)))
  ·have hz:=own_fr hown4 (hf5'.mono (fun x _ h=>by simp [Value.ownBlock] at h):Fr nope w4 w5) (fun _ _ x=>x)
   rw [Nat.zero_add] at hz hown5
   go_wp2
   go_ret2
   exact fin w5 A4 c4 A5 c5 hf5 (by simpa using hz) (by simpa using hown5)
end
section
open Go Go.RowKit Bth
set_option maxRecDepth 100000
def NoT (T:List TypeId) (w:World) (S:Nat→Prop):Prop:=∀ b cs t fr,S b→w.heap[b]? = some (.cells cs t fr)→t∉T
theorem NoT.one {T:List TypeId} {w:World} {b:Nat} {cs:Array Value} {t:TypeId} {fr:Nat × Nat} (hb:w.heap[b]? = some (.cells cs t fr)) (ht:t∉T):NoT T w (fun x=>x=b):=by
 rintro c cs' t' fr' rfl e
 rw [hb] at e
 injection e with e
 injection e with e1 e2
 subst e2
 exact ht
theorem NoT.own {T:List TypeId} {w:World} {base n size:Nat} {e:TypeId} {v:Value} {xs:List Value} (h:w.ownsRow base e size v n xs) (he:e∉T):NoT T w (fun b=>v.ownBlock=some b):=by
 intro b cs t fr hb hh
 rcases h.2 with ⟨rfl,_⟩ | ⟨g,cap,cur,rfl,_,hg,_⟩
 ·simp [Value.ownBlock] at hb
 ·simp only [Value.ownBlock,Option.some.injEq] at hb
  subst hb
  rw [hg] at hh
  injection hh with hh
  injection hh with _ e2
  subst e2
  exact he
theorem NoT.or {T:List TypeId} {w:World} {S S':Nat→Prop} (h:NoT T w S) (k:NoT T w S'):NoT T w (fun b=>S b∨S' b):=fun b cs t fr hs=>hs.elim (h b cs t fr) (k b cs t fr)
theorem NoT.sub {T T':List TypeId} {w:World} {S:Nat→Prop} (h:NoT T w S) (k:∀ t∈T',t∈T):NoT T' w S:=fun b cs t fr hs hh ht=>h b cs t fr hs hh (k t ht)
theorem NoT.mono {T:List TypeId} {w:World} {S S':Nat→Prop} (h:NoT T w S) (k:∀ b,S' b→S b):NoT T w S':=fun b cs t fr hs=>h b cs t fr (k b hs)
theorem NoT.nope (T:List TypeId) (w:World):NoT T w nope:=fun _ _ _ _ h=>h.elim
theorem NoT.fam {T:List TypeId} {w:World} {S:Nat→Prop} (h:NoT T w S) (k:∀ t∈[212,147,114],t∈T):NoFam w S:=fun b cs t fr hs hh=>
 ⟨fun e=>h b cs t fr hs hh (e ▸ k _ (by simp)),fun e=>h b cs t fr hs hh (e ▸ k _ (by simp)),fun e=>h b cs t fr hs hh (e ▸ k _ (by simp))⟩
theorem own_frT {T:List TypeId} {S:Nat→Prop} {w w':World} {base n size:Nat} {e:TypeId} {v:Value} {xs:List Value} (h:w.ownsRow base e size v n xs) (hf:Fr S w w') (hs:NoT T w S) (he:e∈T):w'.ownsRow base e size v n xs:=
 own_fr h hf fun b hb hS=>by
  rcases h.2 with ⟨rfl,_⟩ | ⟨g,cap,cur,rfl,_,hg,_⟩
  ·simp [Value.ownBlock] at hb
  ·simp only [Value.ownBlock,Option.some.injEq] at hb
   subst hb
   exact hs _ _ _ _ hS hg he
theorem heap_frT {T:List TypeId} {S:Nat→Prop} {w w':World} {b:Nat} {cs:Array Value} {t:TypeId} {fr:Nat × Nat} (h:w.heap[b]? = some (.cells cs t fr)) (hf:Fr S w w') (hs:NoT T w S) (ht:t∈T):w'.heap[b]? = some (.cells cs t fr):=
 hf.heap h fun hS=>hs _ _ _ _ hS h ht
structure Rec where
 b:Nat
 lo:Nat
 hi:Nat
 i:Ins
 ops:List O
 inp:List O
 out:List O
 suf:List ByteArray
 isa:List ByteArray
structure Rec.At (w:World) (r:Rec):Prop where
 own:Own w r.lo r.hi r.b r.i r.ops r.inp r.out
 suf:StrOwn w r.lo r.i.suf r.suf
 isa:StrOwn w r.lo r.i.isa r.isa
 s1:∀ k,r.i.suf.val.ownBlock=some k→k < r.hi
 s2:∀ k,r.i.isa.val.ownBlock=some k→k < r.hi
 ats:(∀ o∈r.ops,o.At w)∧(∀ o∈r.inp,o.At w)∧(∀ o∈r.out,o.At w)
def recT:List TypeId:=[130,132,9,212]
theorem R.At.frT {T:List TypeId} {S:Nat→Prop} {w w':World} {r:R} (h:r.At w) (hf:Fr S w w') (hs:NoT T w S) (ht:212∈T):r.At w':=fun hv=>by
 obtain ⟨v,hb⟩:=h hv
 exact ⟨v,heap_frT hb hf hs ht⟩
theorem O.At.frT {T:List TypeId} {S:Nat→Prop} {w w':World} {o:O} (h:o.At w) (hf:Fr S w w') (hs:NoT T w S) (ht:212∈T):o.At w':=fun r hr=>⟨(h r hr).1,(h r hr).2.frT hf hs ht⟩
theorem Own.frT {T:List TypeId} {S:Nat→Prop} {w w':World} {lo hi b:Nat} {i:Ins} {ops inp out:List O} (h:Own w lo hi b i ops inp out) (hf:Fr S w w') (hs:NoT T w S) (h1:130∈T) (h2:132∈T):Own w' lo hi b i ops inp out:=
 { h with
   at_:=heap_frT h.at_ hf hs h1
   ops:=own_frT h.ops hf hs h2
   inp:=own_frT h.inp hf hs h2
   out:=own_frT h.out hf hs h2 }
theorem Rec.At.frT {S:Nat→Prop} {w w':World} {r:Rec} (h:r.At w) (hf:Fr S w w') (hs:NoT recT w S):r.At w':=
 { own:=h.own.frT hf hs (by decide) (by decide)
   suf:=⟨h.suf.1,own_frT h.suf.2 hf hs (by decide)⟩
   isa:=⟨h.isa.1,own_frT h.isa.2 hf hs (by decide)⟩
   s1:=h.s1
   s2:=h.s2
   ats:=⟨fun o ho=>(h.ats.1 o ho).frT hf hs (by decide),fun o ho=>(h.ats.2.1 o ho).frT hf hs (by decide),fun o ho=>(h.ats.2.2 o ho).frT hf hs (by decide)⟩ }
theorem Rec.At.nope {w w':World} {r:Rec} (h:r.At w) (hf:Fr nope w w'):r.At w':=h.frT hf (NoT.nope _ _)
structure RMatch (fs:Nat→Option Nat) (p:PI) (r:Rec):Prop where
 ops:pOps fs p.ops=some r.ops
 inp:pOps fs p.inp=some r.inp
 out:pOps fs p.out=some r.out
 opc:r.i.opc=p.opc
 term:r.i.term=p.term
 br:r.i.br=p.br
 cond:r.i.cond=p.cond
 canc:r.i.canc=p.canc
 suf:r.suf=p.suf
 isa:r.isa=p.isa
theorem physOf_mono {fs fs':Nat→Option Nat} (h:Grows fs fs') {k i s:Nat} {r:R} (hr:physOf fs k i s=some r):physOf fs' k i s=some r:=by
 unfold physOf at hr ⊢
 obtain ⟨fb,e1,e2⟩:=Option.bind_eq_some_iff.1 hr
 rw [h k fb e1]
 exact e2
theorem regOf_mono {fs fs':Nat→Option Nat} (h:Grows fs fs') {g:G} {r:R} (hr:regOf fs g=some r):regOf fs' g=some r:=by
 unfold regOf at hr ⊢
 split at hr
 ·rename_i hv;rw [if_pos hv];exact hr
 ·rename_i hv;rw [if_neg hv];exact physOf_mono h hr
theorem optReg_mono {fs fs':Nat→Option Nat} (h:Grows fs fs') {has:Bool} {g:G} {x:Option R} (hr:optReg fs has g=some x):optReg fs' has g=some x:=by
 unfold optReg at hr ⊢
 split at hr
 ·rename_i hv
  rw [if_pos hv]
  obtain ⟨r,h1,h2⟩:=Option.map_eq_some_iff.1 hr
  rw [regOf_mono h h1,← h2];rfl
 ·rename_i hv;rw [if_neg hv];exact hr
theorem opOf_mono {fs fs':Nat→Option Nat} (h:Grows fs fs') {p:PO} {o:O} (hr:opOf fs p=some o):opOf fs' p=some o:=by
 unfold opOf at hr ⊢
 split at hr
 ·rename_i h1
  rw [if_pos h1]
  obtain ⟨r,e1,e2⟩:=Option.map_eq_some_iff.1 hr
  rw [regOf_mono h e1,← e2];rfl
 rename_i h1
 rw [if_neg h1]
 split at hr
 ·rename_i h2
  rw [if_pos h2]
  obtain ⟨m,e1,e2⟩:=Option.map_eq_some_iff.1 hr
  obtain ⟨_,b,i,hb,hi,rfl⟩:=memOf_parts e1
  rw [← e2]
  simp [memOf,h2,optReg_mono h hb,optReg_mono h hi]
 ·rename_i h2
  rw [if_neg h2]
  exact hr
theorem pOps_mono {fs fs':Nat→Option Nat} (h:Grows fs fs'):∀ {ps:List PO} {os:List O},pOps fs ps=some os→pOps fs' ps=some os:=by
 intro ps
 induction ps with
 | nil=>intro os hr;exact hr
 | cons p ps ih=>
  intro os hr
  simp only [pOps] at hr ⊢
  obtain ⟨o,e1,e2⟩:=Option.bind_eq_some_iff.1 hr
  obtain ⟨os',e3,e4⟩:=Option.map_eq_some_iff.1 e2
  rw [opOf_mono h e1,Option.bind_some,ih e3,← e4];rfl
theorem RMatch.mono {fs fs':Nat→Option Nat} {p:PI} {r:Rec} (h:RMatch fs p r) (hg:Grows fs fs'):RMatch fs' p r:=
 { h with ops:=pOps_mono hg h.ops,inp:=pOps_mono hg h.inp,out:=pOps_mono hg h.out }
def GivesRec (w:World) (wb:Nat) (fs:Nat→Option Nat) (p:PI) (e:Ending) (w':World):Prop:=
 ∃ fs',Grows fs fs'∧WAt w' wb fs'∧Fr (fun b=>b=wb) w w' ∧
  ((∃ r:Rec,okI p=true∧RMatch fs' p r∧r.At w'∧r.lo=w.heap.size∧r.hi=w'.heap.size∧e = .returned (.tuple #[ptr r.b,.bool true])∧r.i.pred=⟨none,0,0⟩∧r.i.succ=⟨none,0,0⟩∧r.i.lin=none∧r.i.lout=none) ∨
   okI p=false∧e = .returned (.tuple #[.pointer none,.bool false]))
theorem instrR_calls (w:World) (wb:Nat) (fs:Nat→Option Nat) (p:PI) (hp:p.At w wb) (hW:WAt w wb fs):
  Calls Tryz.prog 53 #[ptr wb,p.agg] w (GivesRec w wb fs p):=by
 refine (instr_calls w wb fs p hp hW).mono ?_
 rintro e w' ⟨fs',g1,_,g3,g4,h⟩
 refine ⟨fs',g1,g3,g4,h.imp ?_ (fun x=>x)⟩
 rintro ⟨os,is,us,i,b,h1,h2,h3,h4,rfl,h6,a1,a2,a3,a4,a5,a6,a7,a8,a9,c1,c2,c3,c4⟩
 exact ⟨⟨b,w.heap.size,w'.heap.size,i,os,is,us,p.suf,p.isa⟩,h1,⟨h2,h3,h4,a1,a2,a3,a4,a5,rfl,rfl⟩,
  ⟨h6,c1,c2,fun k hk=>(c3 k hk).2,fun k hk=>(c4 k hk).2,pOps_at g3 hp.ok.1 h2,pOps_at g3 hp.ok.2.1 h3,pOps_at g3 hp.ok.2.2 h4⟩,rfl,rfl,rfl,a6,a7,a8,a9⟩
end
end Go.Proofs.YtpbeedabmjmdmaaGreatDoor
