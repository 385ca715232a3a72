/- Part of the proof of a statement about pub-berthage: what its texts have in common. -/
import Derived.Test.YtpbeedabmjmdmaaGreatDoorP01
import Derived.Test.YtpbeedabmjmdmaaGreatDoorP10
namespace Go.Proofs.YtpbeedabmjmdmaaGreatDoor
section
open Go Go.RowKit Bth
set_option maxRecDepth 100000
structure PN where
 kind:Int
 label:ByteArray
 linesV:SV
 lines:List ByteArray
 ins:PI
def PN.cells (n:PN):Array Value:=#[.int .i64 n.kind,.string n.label,n.linesV.val,.string n.ins.opc,n.ins.sufV.val,n.ins.opsV.val,n.ins.inpV.val,n.ins.outV.val,.bool n.ins.term,.bool n.ins.br,.bool n.ins.cond,.bool n.ins.canc,n.ins.isaV.val]
structure PN.At (w:World) (B:Nat) (n:PN):Prop where
 ins:n.ins.At w B
 lines:StrsAt w n.linesV n.lines
 below:0 < n.linesV.n→∀ b off,n.linesV.A=some ⟨b,off,none⟩→b < B
 few:n.lines.length≤1048576
theorem PN.At.fr {S:Nat→Prop} {w w':World} {B:Nat} {n:PN} (h:n.At w B) (hf:Fr S w w') (hs:∀ b,b < B→¬S b):n.At w' B:=
 ⟨h.ins.fr hf hs,h.lines.fr hf fun hn b off e=>hs b (h.below hn b off e),h.below,h.few⟩
structure NodesAt (w:World) (B:Nat) (s:SV) (ns:List PN):Prop where
 len:s.n=ns.length
 row:0 < ns.length→∃ b off,s.A=some ⟨b,off,none⟩∧b < B∧b < w.heap.size∧∀ (k:Nat) (p:PN),ns[k]? = some p→w.rangeAt b (off+k*13) p.cells.toList
 each:∀ p∈ns,p.At w B
 few:ns.length≤1048576
theorem NodesAt.fr {S:Nat→Prop} {w w':World} {B:Nat} {s:SV} {ns:List PN} (h:NodesAt w B s ns) (hf:Fr S w w') (hs:∀ b,b < B→¬S b):NodesAt w' B s ns:=
 ⟨h.len,fun hl=>by
  obtain ⟨b,off,h1,h2,h3,h4⟩:=h.row hl
  exact ⟨b,off,h1,h2,Nat.lt_of_lt_of_le h3 hf.size,fun k p hk j v hv=>hf.cell (h4 k p hk j v hv) (hs b h2)⟩,fun p hp=>(h.each p hp).fr hf hs,h.few⟩
def okN (n:PN):Bool:=if n.kind=1 then okI n.ins else if n.kind=2 then true else if n.kind=3 then true else false
inductive Mt (fs:Nat→Option Nat):List PN→List Nd→List Rec→List (Nat × List ByteArray)→Prop
 | nil:Mt fs [] [] [] []
 | ins {ns nds rs cms n r} : Mt fs ns nds rs cms→n.kind=1→RMatch fs n.ins r→Mt fs (ns ++ [n]) (nds ++ [.ins r.b]) (rs ++ [r]) cms
 | label {ns nds rs cms n} : Mt fs ns nds rs cms→n.kind=2→Mt fs (ns ++ [n]) (nds ++ [.label n.label]) rs cms
 | comment {ns nds rs cms n c} : Mt fs ns nds rs cms→n.kind=3→Mt fs (ns ++ [n]) (nds ++ [.comment c]) rs (cms ++ [(c,n.lines)])
theorem Mt.mono {fs fs':Nat→Option Nat} (hg:Grows fs fs') {ns:List PN} {nds:List Nd} {rs:List Rec} {cms:List (Nat × List ByteArray)} (h:Mt fs ns nds rs cms):Mt fs' ns nds rs cms:=by
 induction h with
 | nil=>exact .nil
 | ins _ h1 h2 ih=>exact .ins ih h1 (h2.mono hg)
 | label _ h1 ih=>exact .label ih h1
 | comment _ h1 ih=>exact .comment ih h1
theorem Mt.len {fs:Nat→Option Nat} {ns:List PN} {nds:List Nd} {rs:List Rec} {cms:List (Nat × List ByteArray)} (h:Mt fs ns nds rs cms):nds.length=ns.length:=by
 induction h<;>simp_all
theorem Mt.insOf {fs:Nat→Option Nat} {ns:List PN} {nds:List Nd} {rs:List Rec} {cms:List (Nat × List ByteArray)} (h:Mt fs ns nds rs cms):insOf nds=rs.map (·.b):=by
 unfold Go.Proofs.YtpbeedabmjmdmaaGreatDoor.insOf
 induction h with
 | nil=>rfl
 | ins _ _ _ ih=>rw [List.filterMap_append,ih,List.map_append];rfl
 | label _ _ ih=>rw [List.filterMap_append,ih];exact List.append_nil _
 | comment _ _ ih=>rw [List.filterMap_append,ih];exact List.append_nil _
def CmAt (w:World) (fb c:Nat) (l:List ByteArray):Prop:=∃ sv:SV,w.heap[c]? = some (.cells #[sv.val] 139 (0,0))∧StrOwn w (fb+1) sv l∧fb < c
def fnT:List TypeId:=[84,135,139,130,132,9,212]
theorem CmAt.frT {T:List TypeId} {S:Nat→Prop} {w w':World} {fb c:Nat} {l:List ByteArray} (h:CmAt w fb c l) (hf:Fr S w w') (hs:NoT T w S) (h1:139∈T) (h2:9∈T):CmAt w' fb c l:=by
 obtain ⟨sv,a,b,c⟩:=h
 exact ⟨sv,heap_frT a hf hs h1,⟨b.1,own_frT b.2 hf hs h2⟩,c⟩
structure FState (w:World) (fs:Nat→Option Nat) (ns:List PN) (fb:Nat) (f:Fn) (nds:List Nd) (rs:List Rec) (cms:List (Nat × List ByteArray)):Prop where
 fn:FnAt w fb f
 nodes:w.ownsRow (fb+1) 135 1 f.nodes nds.length (nds.map Nd.val)
 mt:Mt fs ns nds rs cms
 recs:∀ r∈rs,r.At w∧fb < r.lo∧r.hi≤w.heap.size
 apart:rs.Pairwise fun a b=>a.hi≤b.lo
 coms:∀ c∈cms,CmAt w fb c.1 c.2
theorem FState.frT {S:Nat→Prop} {w w':World} {fs:Nat→Option Nat} {ns:List PN} {fb:Nat} {f:Fn} {nds:List Nd} {rs:List Rec} {cms:List (Nat × List ByteArray)} (h:FState w fs ns fb f nds rs cms) (hf:Fr S w w') (hs:NoT fnT w S):FState w' fs ns fb f nds rs cms:=
 ⟨heap_frT h.fn hf hs (by decide),own_frT h.nodes hf hs (by decide),h.mt,fun r hr=>⟨(h.recs r hr).1.frT hf (hs.sub (by decide)),(h.recs r hr).2.1,Nat.le_trans (h.recs r hr).2.2 hf.size⟩,h.apart,fun c hc=>(h.coms c hc).frT hf hs (by decide) (by decide)⟩
def Fresh (r:Rec):Prop:=r.i.pred=⟨none,0,0⟩∧r.i.succ=⟨none,0,0⟩∧r.i.lin=none∧r.i.lout=none
def addT:List TypeId:=[139,130,132,9,212,147,114]
theorem FState.addS {w:World} {fs:Nat→Option Nat} {ns:List PN} {fb:Nat} {f:Fn} {nds:List Nd} {rs:List Rec} {cms:List (Nat × List ByteArray)} (h:FState w fs ns fb f nds rs cms):NoT addT w (fun b=>b=fb∨f.nodes.ownBlock=some b):=
 NoT.or (NoT.one h.fn (by decide)) (NoT.own h.nodes (by decide))
theorem FState.grow {w:World} {fs fs':Nat→Option Nat} {ns:List PN} {fb:Nat} {f:Fn} {nds:List Nd} {rs:List Rec} {cms:List (Nat × List ByteArray)} (h:FState w fs ns fb f nds rs cms) (hg:Grows fs fs'):FState w fs' ns fb f nds rs cms:={ h with mt:=h.mt.mono hg }
theorem FState.add {w w':World} {fs:Nat→Option Nat} {ns:List PN} {fb:Nat} {f:Fn} {nds:List Nd} {rs:List Rec} {cms:List (Nat × List ByteArray)} {nd:Nd} {n:PN} {rs':List Rec} {cms':List (Nat × List ByteArray)} {v:Value}
  (h:FState w fs ns fb f nds rs cms) (hv:FnAt w' fb { f with nodes:=v }) (ho:w'.ownsRow (fb+1) 135 1 v (nds.length+1) (nds.map Nd.val ++ [nd.val])) (hf:Fr (fun b=>b=fb∨f.nodes.ownBlock=some b) w w')
  (hm:Mt fs (ns ++ [n]) (nds ++ [nd]) rs' cms') (hr:∀ r∈rs',r∈rs∨(r.At w∧fb < r.lo∧r.hi≤w.heap.size)) (ha:rs'.Pairwise fun a b=>a.hi≤b.lo) (hc:∀ c∈cms',c∈cms∨CmAt w fb c.1 c.2):
  FState w' fs (ns ++ [n]) fb { f with nodes:=v } (nds ++ [nd]) rs' cms':=by
 have hs:=h.addS
 refine ⟨hv,by rw [List.map_append,List.length_append];exact ho,hm,fun r hr'=>?_,ha,fun c hc'=>?_⟩
 ·rcases hr r hr' with h1 | h1
  ·have:=h.recs r h1
   exact ⟨this.1.frT hf (hs.sub (by decide)),this.2.1,Nat.le_trans this.2.2 hf.size⟩
  ·exact ⟨h1.1.frT hf (hs.sub (by decide)),h1.2.1,Nat.le_trans h1.2.2 hf.size⟩
 ·rcases hc c hc' with h1 | h1
  ·exact (h.coms c h1).frT hf hs (by decide) (by decide)
  ·exact h1.frT hf hs (by decide) (by decide)
theorem PN.range {w:World} {b:Nat} {n:PN} {t:TypeId} (h:w.heap[b]? = some (.cells n.cells t (0,0))):w.rangeAt b 3 n.ins.cells.toList:=by
 intro j v hv
 rw [cell_of_row w b _ _ _ (0,0) h]
 have hj:j < 10:=by have:=(List.getElem?_eq_some_iff.1 hv).1;simpa [PI.cells] using this
 rw [← hv]
 rcases j with _ | _ | _ | _ | _ | _ | _ | _ | _ | _ | j
 all_goals first | rfl | omega
def Bare (f:Fn):Prop:=f.lt=none∧f.al=none∧f.isa = .slice none 0 0
def GivesFn (w:World) (wb:Nat) (fs:Nat→Option Nat) (ns:List PN) (e:Ending) (w':World):Prop:=
 ∃ fs',Grows fs fs'∧WAt w' wb fs'∧Fr (fun b=>b=wb) w w' ∧
  ((∃ fb f nds rs cms,ns.all okN=true∧FState w' fs' ns fb f nds rs cms∧w.heap.size≤fb∧Bare f∧(∀ r∈rs,Fresh r)∧e = .returned (.tuple #[ptr fb,.bool true])) ∨
   ns.all okN=false∧e = .returned (.tuple #[.pointer none,.bool false]))
set_option maxHeartbeats 2000000 in
theorem function_calls (w:World) (wb:Nat) (fs:Nat→Option Nat) (s:SV) (ns:List PN) (hN:NodesAt w wb s ns) (hW:WAt w wb fs):
  Calls Tryz.prog 26 #[ptr wb,.slice s.A s.n s.c] w (GivesFn w wb fs ns):=by
 have hwb:=lt_of_heap hW.1
 obtain ⟨A,n,c⟩:=s
 obtain rfl:n=ns.length:=hN.len
 have hfew:=hN.few
 simp only
 go_enter Tryz.func26,Tryz.ntmps26
 go_wp2
 go_loopg [15] ns.length (fun n c15 wr=>∃ (k:Nat) (fs':Nat→Option Nat) (f:Fn) (nds:List Nd) (rs:List Rec) (cms:List (Nat × List ByteArray)),k≤ns.length∧c15 = .int .i64 (k:Int)∧Grows fs fs'∧WAt wr wb fs'∧FState wr fs' (ns.take k) w.heap.size f nds rs cms∧Bare f ∧
  (∀ r∈rs,Fresh r)∧Hid ((ns.take k).all okN=true)∧Fr (fun b=>b=wb) w wr∧n=ns.length - k)
 case atStart=>
  exact ⟨0,fs,⟨.slice none 0 0,none,none,.slice none 0 0⟩,[],[],[],Nat.zero_le _,rfl,Grows.refl _,hW.nope ((Fr.refl _ _).alloc _),⟨heap_alloc_new w _,own_nil _ _ _ _,.nil,by simp,.nil,by simp⟩,⟨rfl,rfl,rfl⟩,by simp,Lib.hid rfl,(Fr.refl _ _).alloc _,rfl⟩
 case round=>
  obtain ⟨k,fs1,f,nds,rs,cms,hk,rfl,hg,hW1,st,hbare,hfresh,hok,hf,rfl⟩:=hrel
  by_cases hlt:k < ns.length
  ·obtain ⟨b,off,hAe,hbB,hbl,hc⟩:=(hN.fr hf (fun b hb e=>by omega)).row (by omega)
   simp only at hAe
   subst hAe
   obtain ⟨p,hpk⟩:∃ p,ns[k]? = some p:=⟨_,List.getElem?_eq_getElem hlt⟩
   have hc:=hc k p hpk
   have hpm:=List.mem_of_getElem? hpk
   have hT:ns.take (k+1)=ns.take k ++ [p]:=by rw [List.take_add_one,hpk];rfl
   have hD:ns=ns.take k ++ p :: ns.drop (k+1):=by
    conv=>lhs;rw [← List.take_append_drop (k+1) ns,hT]
    simp
   replace hT:=Lib.hid hT
   replace hD:=Lib.hid hD
   have hlen:=Lib.hid st.mt.len
   have htk:(ns.take k).length≤k:=by rw [List.length_take];omega
   have hpA:=(hN.fr hf (fun b hb e=>by omega)).each p hpm
   have hnd:nds.length≤1048576:=by have:=hlen.out;omega
   have hbad:okN p=false→ns.all okN=false:=fun h=>by rw [hD.out,List.all_append,List.all_cons,h];simp
   replace hbad:=Lib.hid hbad
   clear hpk hN
   obtain ⟨kind,label,⟨lA,ln,lc⟩,lines,ins⟩:=p
   by_cases h1:kind=1
   ·subst h1
    go_wp2_with (first
     | (refine wpList_load_mid rfl _ _ rfl b (off+k*13) rfl (PN.cells ⟨1,label,⟨lA,ln,lc⟩,lines,ins⟩).toList _ hc Tryz.underlying57 rfl (by kernel_rfl) ?_)
     | (refine wpList_storeRow (b:=wr.heap.size) (cells:=PN.cells ⟨1,label,⟨lA,ln,lc⟩,lines,ins⟩) rfl rfl rfl rfl (heap_alloc_new _ _) rfl (by kernel_rfl) (by kernel_rfl) ?_;intro w2 hb2 hf2;have hcb:=fun j=>cell_of_row _ _ j _ _ (0,0) hb2;have hr2:=PN.range hb2;simp only [PN.cells,SV.val] at hcb)
     | (refine wpList_load_mid rfl _ _ rfl wr.heap.size 3 rfl ins.cells.toList _ hr2 Tryz.underlying38 rfl (by kernel_rfl) ?_))
    have hn2:Fr nope wr w2:=((Fr.refl nope wr).alloc _).then_new hf2 (fun x hx e=>by omega)
    refine (instrR_calls w2 wb fs1 ins (hpA.ins.fr hn2 (fun _ _ x=>x)) (hW1.nope hn2)).mono ?_
    rintro e w3 ⟨fs2,g1,W3,f3,h⟩
    have hf3:=(hf.then hn2.of_nope).then f3
    have st3:=((st.frT hn2 (NoT.nope _ _)).frT f3 (NoT.one (hW1.nope hn2).1 (by decide))).grow g1
    have hz3:=hf3.size
    rcases h with ⟨r,ok,hm,hr,hlo,hhi,rfl,hq1,hq2,hq3,hq4⟩ | ⟨bad,rfl⟩
    ·replace hq:=Lib.hid (show Fresh r from ⟨hq1,hq2,hq3,hq4⟩)
     replace ok:=Lib.hid ok
     replace hlo:=Lib.hid hlo
     replace hhi:=Lib.hid hhi
     clear hq1 hq2 hq3 hq4
     have hlt3:=lt_of_heap st3.fn
     simp only [ptr]
     go_wp2_with fail
     refine (AddInstruction_calls w3 w.heap.size f r.b (w.heap.size+1) nds.length (nds.map Nd.val) st3.fn st3.nodes (by omega) (by omega) (by omega)).mono ?_
     rintro e w4 ⟨rfl,v,hv,ho,hfa,_⟩
     go_wp2
     go_roundg (ns.length - (k+1))
     case measure=>omega
     case rel=>
      have hbo:=own_base st3.nodes
      refine ⟨k+1,fs2,{ f with nodes:=v },nds ++ [.ins r.b],rs ++ [r],cms,by omega,by go_num,hg.trans g1,W3.frT hfa (st3.addS.fam (by decide)),?_,hbare,?_,Lib.hid (by rw [hT.out,List.all_append,hok.out];simp [okN,ok.out]),hf3.then_new hfa (fun x hx hs=>by rcases hs with hs | hs;omega;have:=hbo x hs;omega),rfl⟩
      ·rw [hT.out]
       exact st3.add hv ho hfa (Mt.ins st3.mt rfl hm) (fun x hx=>by rcases List.mem_append.1 hx with h | h;exact .inl h;obtain rfl:x=r:=(by simpa using h);exact .inr ⟨hr,by have:=hlo.out;have:=hn2.size;have:=hf.size;have:=lt_of_heap st.fn;omega,Nat.le_of_eq hhi.out⟩) (List.pairwise_append.2 ⟨st.apart,List.pairwise_singleton _ _,fun x hx y hy=>by obtain rfl:y=r:=(by simpa using hy);have h1:=(st.recs x hx).2.2;have:=hn2.size;have:=hlo.out;omega⟩) (fun c hc=>.inl hc)
      ·intro x hx;rcases List.mem_append.1 hx with h | h;exact hfresh x h;obtain rfl:x=r:=(by simpa using h);exact hq.out
    ·replace bad:=Lib.hid bad
     go_wp2
     go_ret2
     exact ⟨fs2,hg.trans g1,W3,hf3,.inr ⟨hbad.out (by simp [okN,bad.out]),rfl⟩⟩
   by_cases h2:kind=2
   ·subst h2
    go_wp2_with (first
     | (refine wpList_load_mid rfl _ _ rfl b (off+k*13) rfl (PN.cells ⟨2,label,⟨lA,ln,lc⟩,lines,ins⟩).toList _ hc Tryz.underlying57 rfl (by kernel_rfl) ?_)
     | (refine wpList_storeRow (b:=wr.heap.size) (cells:=PN.cells ⟨2,label,⟨lA,ln,lc⟩,lines,ins⟩) rfl rfl rfl rfl (heap_alloc_new _ _) rfl (by kernel_rfl) (by kernel_rfl) ?_;intro w2 hb2 hf2;have hcb:=fun j=>cell_of_row _ _ j _ _ (0,0) hb2;have hr2:=PN.range hb2;simp only [PN.cells,SV.val] at hcb))
    have hn2:Fr nope wr w2:=((Fr.refl nope wr).alloc _).then_new hf2 (fun x hx e=>by omega)
    have st2:=st.frT hn2 (NoT.nope _ _)
    have hf3:=hf.then hn2.of_nope
    have hz3:=hf3.size
    have hlt3:=lt_of_heap st2.fn
    refine (AddLabel_calls w2 w.heap.size f label (w.heap.size+1) nds.length (nds.map Nd.val) st2.fn st2.nodes (by omega) (by omega) (by omega)).mono ?_
    rintro e w4 ⟨rfl,v,hv,ho,hfa,_⟩
    go_wp2
    go_roundg (ns.length - (k+1))
    case measure=>omega
    case rel=>
     have hbo:=own_base st2.nodes
     refine ⟨k+1,fs1,{ f with nodes:=v },nds ++ [.label label],rs,cms,by omega,by go_num,hg,(hW1.nope hn2).frT hfa (st2.addS.fam (by decide)),?_,hbare,?_,Lib.hid (by rw [hT.out,List.all_append,hok.out];simp [okN]),hf3.then_new hfa (fun x hx hs=>by rcases hs with hs | hs;omega;have:=hbo x hs;omega),rfl⟩
     ·rw [hT.out]
      exact st2.add hv ho hfa (Mt.label (n:=⟨2,label,⟨lA,ln,lc⟩,lines,ins⟩) st2.mt rfl) (fun x hx=>.inl hx) st2.apart (fun c hc=>.inl hc)
     ·exact hfresh
   by_cases h3:kind=3
   ·subst h3
    have hS:=hpA.lines
    have hlf:lines.length≤1048576:=hpA.few
    obtain ⟨rfl,hS⟩:ln=lines.length∧Sl wr lA lines.length (lines.map Value.string):=hS
    go_wp2_with (first
     | (refine wpList_load_mid rfl _ _ rfl b (off+k*13) rfl (PN.cells ⟨3,label,⟨lA,lines.length,lc⟩,lines,ins⟩).toList _ hc Tryz.underlying57 rfl (by kernel_rfl) ?_)
     | (refine wpList_storeRow (b:=wr.heap.size) (cells:=PN.cells ⟨3,label,⟨lA,lines.length,lc⟩,lines,ins⟩) rfl rfl rfl rfl (heap_alloc_new _ _) rfl (by kernel_rfl) (by kernel_rfl) ?_;intro w2 hb2 hf2;have hcb:=fun j=>cell_of_row _ _ j _ _ (0,0) hb2;have hn2:Fr nope wr w2:=((Fr.refl nope wr).alloc _).then_new hf2 (fun x hx e=>by omega);simp only [PN.cells,SV.val] at hcb)
     | (refine wpList_app (v:=.slice none 0 0) rfl rfl Tryz.underlying35 infoStr rfl (by omega) rfl (own_nil w2 (w.heap.size+1) _ _) rfl (news:=lines.map Value.string) (by simp) (Sl.src (hS.nope hn2)) (by simp [Value.oneCell']) (by simp only [maxLen];omega) (by omega) (by have:=hn2.size;have:=lt_of_heap st.fn;omega) ?_;intro v3 w3 hown3 hf3' hb3;obtain ⟨A3,c3,rfl,_,_⟩:=own_slice hown3))
    have hn3:Fr nope wr w3:=hn2.then (hf3'.mono (fun x _ h=>by simp [Value.ownBlock] at h))
    have st3:=st.frT hn3 (NoT.nope _ _)
    have hf3:=hf.then hn3.of_nope
    have hz3:=hf3.size
    have hlt3:=lt_of_heap st3.fn
    have hnc:∀ o,Fr nope w3 (w3.alloc o):=fun o=>(Fr.refl _ _).alloc o
    rw [Nat.zero_add] at hown3
    have st4:=fun o=>st3.frT (hnc o) (NoT.nope _ _)
    refine (AddComment_calls w3 w.heap.size f A3 lines.length c3 (w.heap.size+1) nds.length (nds.map Nd.val) st3.fn st3.nodes (by omega) (by omega) (by omega)).mono ?_
    rintro e w4 ⟨rfl,v,hv,ho,hfa,_⟩
    go_wp2
    go_roundg (ns.length - (k+1))
    case measure=>omega
    case rel=>
     have hbo:=own_base st3.nodes
     refine ⟨k+1,fs1,{ f with nodes:=v },nds ++ [.comment w3.heap.size],rs,cms ++ [(w3.heap.size,lines)],by omega,by go_num,hg,((hW1.nope hn3).nope (hnc _)).frT hfa ((st4 _).addS.fam (by decide)),?_,hbare,?_,Lib.hid (by rw [hT.out,List.all_append,hok.out];simp [okN]),(hf3.then (hnc _).of_nope).then_new hfa (fun x hx hs=>by rcases hs with hs | hs;omega;have:=hbo x hs;omega),rfl⟩
     ·rw [hT.out]
      exact (st4 _).add hv ho hfa (Mt.comment (n:=⟨3,label,⟨lA,lines.length,lc⟩,lines,ins⟩) st.mt rfl) (fun x hx=>.inl hx) st.apart (fun c hc=>by rcases List.mem_append.1 hc with h | h;exact .inl h;obtain rfl:c=(w3.heap.size,lines):=(by simpa using h);exact .inr ⟨⟨A3,lines.length,c3⟩,heap_alloc_new w3 _,⟨rfl,own_fr (show w3.ownsRow _ _ _ (SV.val ⟨A3,lines.length,c3⟩) _ _ from (by simpa [SV.val] using hown3)) (hnc _) (fun _ _ x=>x)⟩,hlt3⟩)
     ·exact hfresh
   ·go_wp2_with (first
     | (refine wpList_load_mid rfl _ _ rfl b (off+k*13) rfl (PN.cells ⟨kind,label,⟨lA,ln,lc⟩,lines,ins⟩).toList _ hc Tryz.underlying57 rfl (by kernel_rfl) ?_)
     | (refine wpList_storeRow (b:=wr.heap.size) (cells:=PN.cells ⟨kind,label,⟨lA,ln,lc⟩,lines,ins⟩) rfl rfl rfl rfl (heap_alloc_new _ _) rfl (by kernel_rfl) (by kernel_rfl) ?_;intro w2 hb2 hf2;have hcb:=fun j=>cell_of_row _ _ j _ _ (0,0) hb2;have hr2:=PN.range hb2;simp only [PN.cells,SV.val] at hcb))
    have hn2:Fr nope wr w2:=((Fr.refl nope wr).alloc _).then_new hf2 (fun x hx e=>by omega)
    go_ret2
    exact ⟨fs1,hg,hW1.nope hn2,hf.then hn2.of_nope,.inr ⟨hbad.out (by simp [okN,h1,h2,h3]),rfl⟩⟩
  ·go_wp2
   go_ret2
   have e:ns.take k=ns:=List.take_of_length_le (by omega)
   rw [e] at st hok
   exact ⟨fs1,hg,hW1,hf,.inl ⟨w.heap.size,f,nds,rs,cms,hok.out,st,Nat.le_refl _,hbare,hfresh,rfl⟩⟩
end
section
open Go Go.RowKit Go.MapKept Bth
open Go.ChangeMaps (setBlock)
set_option maxRecDepth 100000
instance:DecidableEq ByteArray:=fun a b=>decidable_of_iff (a.data=b.data) ⟨fun h=>by cases a;cases b;simp_all,fun h=>by rw [h]⟩
def LabAt (w:World) (b:Nat) (t:ByteArray→Option Nat):Prop:=∃ ks,MapAt w b Value.string ks fun s=>(t s).map ptr
theorem labKey:KeyOk Tryz.prog 120 .string Value.string:=⟨Tryz.underlying120,fun _=>trivial,fun a b h=>by injection h⟩
theorem labT:Tryz.prog.underlying 82=some (.map 120 115):=Tryz.underlying82
theorem zeroIns (w:World):(zeroValue 115).run Tryz.prog w = .ok (.pointer none) w:=by kernel_rfl
def fvI:Option Nat→Value
 | none=>.pointer none
 | some b=>ptr b
theorem LabAt.look {w:World} {b:Nat} {t:ByteArray→Option Nat} (h:LabAt w b t) (s:ByteArray):
  (Instr.lookup 82 (.map (some b)) (.string s) true).run Tryz.prog w = .ok (.tuple #[fvI (t s),.bool (t s).isSome]) w:=by
 obtain ⟨ks,hm⟩:=h
 have:=hm.lookup labKey labT (zeroIns w) s true
 rw [this]
 cases t s<;>simp [fvI]
theorem LabAt.put {w:World} {b:Nat} {t:ByteArray→Option Nat} (h:LabAt w b t) (s:ByteArray) (i:Nat):
  ∃ w',(Instr.mapUpdate 82 (.map (some b)) (.string s) (.pointer (some ⟨i,0,none⟩))).run Tryz.prog w = .ok () w'∧LabAt w' b (fun x=>if x=s then some i else t x)∧Fr (fun x=>x=b) w w'∧w'.heap.size=w.heap.size:=by
 obtain ⟨ks,hM⟩:=h
 obtain ⟨es,clock,h1,h2⟩:=hM.update labKey labT s (ptr i)
 have e:(fun x=>(if x=s then some i else t x).map ptr)=updM (fun s=>(t s).map ptr) s (some (ptr i)):=by
  funext x
  unfold updM
  by_cases hx:x=s<;>simp [hx]
 rw [← e] at h2
 exact ⟨setBlock w b (.map es clock),h1,⟨_,h2⟩,(Fr.refl (fun x=>x=b) w).setBlock (.inl rfl) _,by simp [setBlock]⟩
theorem LabAt.fr {S:Nat→Prop} {w w':World} {b:Nat} {t:ByteArray→Option Nat} (h:LabAt w b t) (hf:Fr S w w') (hs:¬S b):LabAt w' b t:=by
 obtain ⟨ks,hm⟩:=h
 exact ⟨ks,hm.fr hf hs⟩
theorem LabAt.lt {w:World} {b:Nat} {t:ByteArray→Option Nat} (h:LabAt w b t):b < w.heap.size:=by
 obtain ⟨ks,hm⟩:=h
 exact hm.lt
structure LS where
 t:ByteArray→Option Nat
 pend:List ByteArray
open Classical in
noncomputable def settle (pend:List ByteArray) (b:Nat) (t:ByteArray→Option Nat):ByteArray→Option Nat:=fun x=>if x∈pend then some b else t x
theorem settle_step {pend:List ByteArray} {j b:Nat} {t:ByteArray→Option Nat} {s:ByteArray} (h:pend[j]? = some s):(fun x=>if x=s then some b else settle (pend.take j) b t x)=settle (pend.take (j+1)) b t:=by
 funext x
 unfold settle
 rw [List.take_add_one,h]
 by_cases hx:x=s
 ·subst hx;simp
 ·simp only [if_neg hx]
  by_cases hm:x∈pend.take j
  ·rw [if_pos hm,if_pos (by simp [hm])]
  ·rw [if_neg hm,if_neg (by simp [hm,hx])]
noncomputable def ltStep (s:LS):Nd→Option LS
 | .label l=>if (s.t l).isSome then none else some { s with pend:=s.pend ++ [l] }
 | .ins b=>some ⟨settle s.pend b s.t,[]⟩
 | .comment _=>some s
noncomputable def ltRun (l:List Nd):Option LS:=l.foldlM ltStep ⟨fun _=>none,[]⟩
theorem ltRun_append {l:List Nd} {s:LS} {n:Nd} (h:ltRun l=some s):ltRun (l ++ [n])=ltStep s n:=by
 unfold ltRun at h ⊢
 rw [List.foldlM_append,h]
 simp
theorem ltRun_none {l r:List Nd} {s:LS} {n:Nd} (h:ltRun l=some s) (hn:ltStep s n=none):ltRun (l ++ n :: r)=none:=by
 unfold ltRun at h ⊢
 rw [List.foldlM_append,h]
 simp [hn]
theorem ltRun_pend {l:List Nd} {s:LS} (h:ltRun l=some s):s.pend.length≤l.length:=by
 unfold ltRun at h
 have key:∀ (l:List Nd) (a s:LS),l.foldlM ltStep a=some s→s.pend.length≤a.pend.length+l.length:=by
  intro l
  induction l with
  | nil=>intro a s h;simp at h;subst h;simp
  | cons n l ih=>
   intro a s h
   simp only [List.foldlM_cons,Option.bind_eq_bind] at h
   obtain ⟨b,h1,h2⟩:=Option.bind_eq_some_iff.1 h
   have:=ih b s h2
   cases n with
   | label x=>
    simp only [ltStep] at h1
    split at h1
    ·cases h1
    ·injection h1 with h1;subst h1;simp at this ⊢;omega
   | ins x=>simp only [ltStep,Option.some.injEq] at h1;subst h1;simp at this ⊢;omega
   | comment x=>simp only [ltStep,Option.some.injEq] at h1;subst h1;simp at this ⊢;omega
 simpa using key l _ s h
theorem infoLab:(Tryz.prog.info? 120).map (fun i=>(i.zero,i.size,i.bytes))=some (some (.string ⟨#[]⟩),1,16):=by kernel_rfl
def GivesErr (w:World) (e:Ending) (w':World):Prop:=(∃ T v,e = .returned (.iface T v))∧Fr nope w w'
def GivesLT (w:World) (fb:Nat) (f:Fn) (nds:List Nd) (e:Ending) (w':World):Prop:=
 (∃ t mb,ltRun nds=some ⟨t,[]⟩∧e = .returned .nilIface∧FnAt w' fb { f with lt:=some mb } ∧ LabAt w' mb t∧w.heap.size≤mb∧Fr (fun b=>b=fb) w w') ∨
 ((∀ t,ltRun nds≠some ⟨t,[]⟩)∧GivesErr w e w')
set_option maxHeartbeats 2000000 in
theorem LabelTarget_calls (w:World) (fb:Nat) (f:Fn) (nds:List Nd) (A:Option Addr) (c:Nat) (hfn:FnAt w fb f) (hn:f.nodes = .slice A nds.length c) (hS:Sl w A nds.length (nds.map Nd.val)) (hl:nds.length≤1073741824):
  Calls Tryz.prog 43 #[ptr fb] w (GivesLT w fb f nds):=by
 have hlt:=lt_of_heap hfn
 have hc5:=hfn.c5
 rw [hn] at hc5
 replace hn:=Lib.hid hn
 unfold ptr
 go_enter Tryz.func43,Tryz.ntmps43
 have hmm:=@run_makeMap Tryz.prog
 go_wp2
 go_loopg [4,19] nds.length (fun n c4 c19 wr=>∃ (k:Nat) (t:ByteArray→Option Nat) (pend:List ByteArray),k≤nds.length∧c19 = .int .i64 (k:Int)∧Hid (ltRun (nds.take k)=some ⟨t,pend⟩)∧LabAt wr w.heap.size t∧wr.ownsRow (w.heap.size+1) 120 1 c4 pend.length (pend.map Value.string)∧Fr nope w wr∧n=nds.length - k)
 case atStart=>exact ⟨0,_,[],Nat.zero_le _,rfl,rfl,⟨[],MapAt.made w Value.string⟩,own_nil _ _ _ _,(Fr.refl _ _).alloc _,rfl⟩
 case round=>
  obtain ⟨k,t,pend,hk,rfl,hrun,hM,hown,hf,rfl⟩:=hrel
  by_cases hlt2:k < nds.length
  ·obtain ⟨b,off,u,rfl,hbl,hu,hc⟩:=(hS.nope hf).at_ hlt2
   rw [List.getElem?_map] at hu
   obtain ⟨o,hok,rfl⟩:=Option.map_eq_some_iff.1 hu
   have hT:nds.take (k+1)=nds.take k ++ [o]:=by rw [List.take_add_one,hok];rfl
   have hD:nds=nds.take k ++ o :: nds.drop (k+1):=by
    conv=>lhs;rw [← List.take_append_drop (k+1) nds,hT]
    simp
   have hstep:ltRun (nds.take (k+1))=ltStep ⟨t,pend⟩ o:=by rw [hT];exact ltRun_append hrun
   have hbad:ltStep ⟨t,pend⟩ o=none→ltRun nds=none:=fun h=>by rw [hD];exact ltRun_none hrun h
   replace hstep:=Lib.hid hstep
   replace hbad:=Lib.hid hbad
   have hpl:pend.length≤k:=by have:=ltRun_pend hrun;simp only [List.length_take] at this;omega
   clear hS hu hT hD hok
   cases o with
   | label s=>
    have hta:=fun W=>ta_Label_label W 135 (.string s)
    simp only [Nd.val] at hc
    have hlk:=hM.look s
    cases hts:t s with
    | some i=>
     rw [hts] at hlk
     simp only [fvI,Option.isSome_some] at hlk
     replace hts:=Lib.hid hts
     go_wp2
     go_ret
     exact .inr ⟨(fun t' h=>by rw [hbad.out (by simp [ltStep,hts.out])] at h;cases h),⟨_,_,rfl⟩,hf.alloc _⟩
    | none=>
     rw [hts] at hlk
     simp only [fvI,Option.isSome_none] at hlk
     replace hts:=Lib.hid hts
     go_wp2_with (refine wpList_app (v:=u4) rfl rfl Tryz.underlying155 infoLab rfl (by omega) rfl (own_fr hown ((Fr.refl nope _).alloc _) (fun _ _ x=>x)) rfl (news:=[.string s]) rfl (one_new _ _ _ _ rfl) (by simp [Value.oneCell']) (by simp only [maxLen];omega) (by omega) (by have:=hf.size;have:=hM.lt;simp;omega) ?_;intro v3 w3 hown3 hf3 _)
     go_roundg (nds.length - (k+1))
     case measure=>omega
     case rel=>
      refine ⟨k+1,t,pend ++ [s],by omega,by go_num,?_,(hM.fr ((Fr.refl nope wr).alloc _) (fun x=>x)).fr hf3 (fun he=>by have:=own_base hown _ he;omega),by rw [List.map_append,List.length_append];exact hown3,(hf.alloc _).then_new hf3 (fun x hx he=>by have:=own_base hown x he;omega),rfl⟩
      show ltRun _=_
      rw [hstep.out]
      simp [ltStep,hts.out]
   | comment x=>
    have hta:=fun W=>ta_Label_comment W 135 (.pointer (some ⟨x,0,none⟩))
    have htb:=fun W=>ta_Ins_comment W 135 (.pointer (some ⟨x,0,none⟩))
    simp only [Nd.val] at hc
    go_wp2
    go_roundg (nds.length - (k+1))
    case measure=>omega
    case rel=>exact ⟨k+1,t,pend,by omega,by go_num,hstep.out,hM,hown,hf,rfl⟩
   | ins x=>
    have hta:=fun W=>ta_Label_ins W 135 (.pointer (some ⟨x,0,none⟩))
    have htb:=fun W=>ta_Ins_ins W 135 (.pointer (some ⟨x,0,none⟩))
    simp only [Nd.val] at hc
    obtain ⟨A4,c4,rfl,_,_⟩:=own_slice hown
    have hSp:=own_Sl hown
    have hbo:=own_base hown
    go_wp2
    go_loopg [44] pend.length (fun m c44 wq=>∃ j:Nat,j≤pend.length∧c44 = .int .i64 (j:Int)∧LabAt wq w.heap.size (settle (pend.take j) x t)∧Fr (fun b=>b=w.heap.size) wr wq∧m=pend.length - j)
    case atStart=>
     refine ⟨0,Nat.zero_le _,rfl,?_,Fr.refl _ _,rfl⟩
     have e:settle (pend.take 0) x t=t:=by funext y;simp [settle]
     rw [e];exact hM
    case round=>
     obtain ⟨j,hj,rfl,hMj,hfj,rfl⟩:=hrel
     by_cases hjl:j < pend.length
     ·obtain ⟨b2,off2,u2,hA2,hbl2,hu2,hc2⟩:=(hSp.fr hfj (fun _ b off e he=>by subst e;have:=hbo b rfl;omega)).at_ hjl
      subst hA2
      rw [List.getElem?_map] at hu2
      obtain ⟨s,hs,rfl⟩:=Option.map_eq_some_iff.1 hu2
      have hst:=Lib.hid (settle_step (b:=x) (t:=t) hs)
      obtain ⟨w5,hup,hM5,hf5,_⟩:=hMj.put s x
      replace hM5:=Lib.hid hM5
      clear hu2 hs hMj
      go_wp2
      go_roundg (pend.length - (j+1))
      case measure=>omega
      case rel=>exact ⟨j+1,by omega,by go_num,by rw [← hst.out];exact hM5.out,hfj.then hf5,rfl⟩
     ·have e:pend.take j=pend:=List.take_of_length_le (by omega)
      rw [e] at hMj
      go_wp2
      go_roundg (nds.length - (k+1))
      case measure=>omega
      case rel=>exact ⟨k+1,_,[],by omega,by go_num,hstep.out,hMj,own_nil _ _ _ _,hf.then_new hfj (fun x hx he=>by omega),rfl⟩
  ·have e:nds.take k=nds:=List.take_of_length_le (by omega)
   rw [e] at hrun
   obtain ⟨A4,c4,rfl,_,_⟩:=own_slice hown
   have hfnr:=hfn.fr hf (fun x=>x)
   have hcr:=fun j=>cell_of_row _ _ j _ _ (0,0) hfnr
   have hzr:=frozen_row hfnr
   simp only [Fn.cells] at hcr
   cases pend with
   | nil=>
    simp only [List.length_nil]
    go_wp2
    go_ret
    have hst:Fr (fun b=>b=fb) wr (wr.setCell ⟨fb,6,none⟩ (.map (some w.heap.size))):=Fr.setCell (S:=fun b=>b=fb) (p:=⟨fb,6,none⟩) (Fr.refl _ wr) (.inl rfl) _
    exact .inl ⟨t,w.heap.size,hrun.out,rfl,setCell_heap hfnr _,hM.fr hst (by omega),Nat.le_refl _,hf.of_nope.then hst⟩
   | cons s pend=>
    simp only [List.length_cons]
    go_wp2
    go_ret
    exact .inr ⟨(fun t' h=>by have hrun:=hrun.out;rw [h] at hrun;injection hrun with hr;injection hr with _ hr;cases hr),⟨_,_,rfl⟩,hf.alloc _⟩
end
section
open Go Go.RowKit Bth
set_option maxRecDepth 100000
structure SameBut (i i':Ins):Prop where
 opc:i'.opc=i.opc
 suf:i'.suf=i.suf
 ops:i'.ops=i.ops
 inp:i'.inp=i.inp
 out:i'.out=i.out
 term:i'.term=i.term
 br:i'.br=i.br
 cond:i'.cond=i.cond
 canc:i'.canc=i.canc
 isa:i'.isa=i.isa
def Rec.with (r:Rec) (i:Ins):Rec:={ r with i:=i }
theorem RMatch.with {fs:Nat→Option Nat} {p:PI} {r:Rec} {i:Ins} (h:RMatch fs p r) (hi:SameBut r.i i):RMatch fs p (r.with i):=
 ⟨h.ops,h.inp,h.out,hi.opc.trans h.opc,hi.term.trans h.term,hi.br.trans h.br,hi.cond.trans h.cond,hi.canc.trans h.canc,h.suf,h.isa⟩
theorem Mt.set {fs:Nat→Option Nat} {ns:List PN} {nds:List Nd} {rs:List Rec} {cms:List (Nat × List ByteArray)} (h:Mt fs ns nds rs cms):∀ {k:Nat} {r:Rec} {i:Ins},rs[k]? = some r→SameBut r.i i→Mt fs ns nds (rs.set k (r.with i)) cms:=by
 induction h with
 | nil=>intro k r i hk;simp at hk
 | @ins ns nds rs cms n r0 h h1 h2 ih=>
  intro k r i hk hi
  by_cases hlt:k < rs.length
  ·rw [List.getElem?_append_left hlt] at hk
   rw [List.set_append_left _ _ hlt]
   exact .ins (ih hk hi) h1 h2
  ·have hkk:k=rs.length:=by
    have:=(List.getElem?_eq_some_iff.1 hk).1
    simp at this;omega
   subst hkk
   simp at hk
   subst hk
   rw [List.set_append_right _ _ (Nat.le_refl _),Nat.sub_self]
   exact .ins (r:=r0.with i) h h1 (h2.with hi)
 | label _ h1 ih=>intro k r i hk hi;exact .label (ih hk hi) h1
 | comment _ h1 ih=>intro k r i hk hi;exact .comment (ih hk hi) h1
theorem FState.inj {w:World} {fs:Nat→Option Nat} {ns:List PN} {fb:Nat} {f:Fn} {nds:List Nd} {rs:List Rec} {cms:List (Nat × List ByteArray)} (h:FState w fs ns fb f nds rs cms) {j k:Nat} {a b:Rec} (hj:rs[j]? = some a) (hk:rs[k]? = some b) (hb:a.b=b.b):j=k:=by
 have key:∀ {j k:Nat} {a b:Rec},rs[j]? = some a→rs[k]? = some b→a.b=b.b→¬j < k:=by
  intro j k a b hj hk hb hlt
  obtain ⟨h1,rfl⟩:=List.getElem?_eq_some_iff.1 hj
  obtain ⟨h2,rfl⟩:=List.getElem?_eq_some_iff.1 hk
  have h3:=List.pairwise_iff_getElem.1 h.apart j k h1 h2 hlt
  have h4:=(h.recs _ (List.getElem_mem h1)).1.own
  have h5:=(h.recs _ (List.getElem_mem h2)).1.own
  have:=h4.b2
  have:=h5.b1
  omega
 have h1:=key hj hk hb
 have h2:=key hk hj hb.symm
 omega
theorem FState.upd {S:Nat→Prop} {w w':World} {fs:Nat→Option Nat} {ns:List PN} {fb:Nat} {f:Fn} {nds:List Nd} {rs:List Rec} {cms:List (Nat × List ByteArray)} (h:FState w fs ns fb f nds rs cms) {k:Nat} {r:Rec} {i:Ins} (hk:rs[k]? = some r) (hi:SameBut r.i i)
  (hf:Fr (fun b=>b=r.b∨S b) w w') (hS:NoT fnT w S) (hb:w'.heap[r.b]? = some (.cells i.cells 130 (0,0))):FState w' fs ns fb f nds (rs.set k (r.with i)) cms:=by
 have hr:=h.recs r (List.mem_of_getElem? hk)
 have hN:NoT [84,135,139,132,9,212] w (fun b=>b=r.b∨S b):=
  NoT.or (NoT.one hr.1.own.at_ (by decide)) (hS.sub (by decide))
 have rest:∀ {x:Rec},x.At w→w'.heap[x.b]? = some (.cells x.i.cells 130 (0,0))→x.At w':=fun {x} hx hb=>
  { own:={ hx.own with
     at_:=hb
     ops:=own_frT hx.own.ops hf hN (by decide)
     inp:=own_frT hx.own.inp hf hN (by decide)
     out:=own_frT hx.own.out hf hN (by decide) }
    suf:=⟨hx.suf.1,own_frT hx.suf.2 hf hN (by decide)⟩
    isa:=⟨hx.isa.1,own_frT hx.isa.2 hf hN (by decide)⟩
    s1:=hx.s1
    s2:=hx.s2
    ats:=⟨fun o ho=>(hx.ats.1 o ho).frT hf hN (by decide),fun o ho=>(hx.ats.2.1 o ho).frT hf hN (by decide),fun o ho=>(hx.ats.2.2 o ho).frT hf hN (by decide)⟩ }
 refine ⟨heap_frT h.fn hf hN (by decide),own_frT h.nodes hf hN (by decide),h.mt.set hk hi,fun x hx=>?_,?_,fun c hc=>(h.coms c hc).frT hf hN (by decide) (by decide)⟩
 ·obtain ⟨j,hj⟩:=List.getElem?_of_mem hx
  rw [List.getElem?_set] at hj
  split at hj
  ·rename_i e
   split at hj
   ·injection hj with hj
    subst hj
    refine ⟨?_,hr.2.1,Nat.le_trans hr.2.2 hf.size⟩
    have hx0:=hr.1
    exact
     {
      own:={
       at_:=hb,b1:=hx0.own.b1,b2:=hx0.own.b2
       ops:=by show w'.ownsRow _ _ _ i.ops.val _ _;rw [hi.ops];exact own_frT hx0.own.ops hf hN (by decide)
       inp:=by show w'.ownsRow _ _ _ i.inp.val _ _;rw [hi.inp];exact own_frT hx0.own.inp hf hN (by decide)
       out:=by show w'.ownsRow _ _ _ i.out.val _ _;rw [hi.out];exact own_frT hx0.own.out hf hN (by decide)
       h1:=by show ∀ k,i.ops.val.ownBlock=some k→_;rw [hi.ops];exact hx0.own.h1
       h2:=by show ∀ k,i.inp.val.ownBlock=some k→_;rw [hi.inp];exact hx0.own.h2
       h3:=by show ∀ k,i.out.val.ownBlock=some k→_;rw [hi.out];exact hx0.own.h3
       d1:=by show ∀ k,i.ops.val.ownBlock=some k→i.inp.val.ownBlock≠some k∧i.out.val.ownBlock≠some k;rw [hi.ops,hi.inp,hi.out];exact hx0.own.d1
       d2:=by show ∀ k,i.inp.val.ownBlock=some k→i.out.val.ownBlock≠some k;rw [hi.inp,hi.out];exact hx0.own.d2 }
      suf:=by show StrOwn w' _ i.suf _;rw [hi.suf];exact ⟨hx0.suf.1,own_frT hx0.suf.2 hf hN (by decide)⟩
      isa:=by show StrOwn w' _ i.isa _;rw [hi.isa];exact ⟨hx0.isa.1,own_frT hx0.isa.2 hf hN (by decide)⟩
      s1:=by show ∀ k,i.suf.val.ownBlock=some k→_;rw [hi.suf];exact hx0.s1
      s2:=by show ∀ k,i.isa.val.ownBlock=some k→_;rw [hi.isa];exact hx0.s2
      ats:=⟨fun o ho=>(hx0.ats.1 o ho).frT hf hN (by decide),fun o ho=>(hx0.ats.2.1 o ho).frT hf hN (by decide),fun o ho=>(hx0.ats.2.2 o ho).frT hf hN (by decide)⟩ }
   ·cases hj
  ·rename_i e
   have hxr:=h.recs x (List.mem_of_getElem? hj)
   refine ⟨rest hxr.1 (hf.heap hxr.1.own.at_ ?_),hxr.2.1,Nat.le_trans hxr.2.2 hf.size⟩
   rintro (he | he)
   ·exact e (h.inj hk hj he.symm)
   ·exact hS _ _ _ _ he hxr.1.own.at_ (by decide)
 ·rw [List.pairwise_iff_getElem]
  intro a b ha hb2 hab
  rw [List.length_set] at ha hb2
  have:=List.pairwise_iff_getElem.1 h.apart a b ha hb2 hab
  simp only [List.getElem_set]
  obtain ⟨hkl,hke⟩:=List.getElem?_eq_some_iff.1 hk
  split<;>split
  ·rename_i e1 e2;omega
  ·rename_i e1 e2;subst e1;rw [hke] at this;exact this
  ·rename_i e1 e2;subst e2;rw [hke] at this;exact this
  ·exact this
end
end Go.Proofs.YtpbeedabmjmdmaaGreatDoor
