/- Part of the proof of a statement about pub-berthage: what its texts have in common. -/
import Derived.Test.YtpbeedabmjmdmaaGreatDoorP23
import Derived.Test.YtpbeedabmjmdmaaGreatDoorP25
import Derived.Test.YtpbeedabmjmdmaaGreatDoorP26
import Derived.Test.YtpbeedabmjmdmaaGreatDoorP28
import Derived.Test.YtpbeedabmjmdmaaGreatDoorP29
namespace Go.Proofs.YtpbeedabmjmdmaaGreatDoor
section
open Go Go.RowKit Bth
set_option maxRecDepth 100000
def O.Nn:O→Prop
 | .con c=>0≤c.bits
 | _=>True
def O.po:O→PO
 | .reg r=>⟨1,r.plain,false,false,g0,g0,0,0,e0,false,⟨0,0,e0⟩,e0,0⟩
 | .mem m=>⟨2,g0,m.base.isSome,m.index.isSome,(m.base.map R.plain).getD g0,(m.index.map R.plain).getD g0,m.scale,m.disp,m.sym,m.static,⟨0,0,e0⟩,e0,0⟩
 | .con c=>⟨3,g0,false,false,g0,g0,0,0,e0,false,⟨c.k.num,c.bits.toNat,c.text⟩,e0,0⟩
 | .label s=>⟨4,g0,false,false,g0,g0,0,0,e0,false,⟨0,0,e0⟩,s,0⟩
 | .rel n=>⟨5,g0,false,false,g0,g0,0,0,e0,false,⟨0,0,e0⟩,e0,n⟩
theorem O.po_cells {o:O} (hn:o.Nn):o.pcells=o.po.cells:=by
 cases o with
 | con c=>
  have h:((c.bits.toNat:Nat):Int)=c.bits:=Int.toNat_of_nonneg hn
  unfold O.pcells O.po PO.cells opCells
  simp only [h]
 | _=>rfl
theorem R.plain_ok {r:R} (h:r.Ok):r.plain.Ok:=⟨h.kind,h.idx,h.spec⟩
theorem g0_ok:g0.Ok:=⟨by decide,by decide,by decide⟩
theorem O.po_ok {w:World} {o:O} (h:o.At w):o.po.Ok:=by
 cases o with
 | reg r=>exact ⟨R.plain_ok (h r (by simp [O.regs])).1,g0_ok,g0_ok⟩
 | mem m=>
  refine ⟨g0_ok,?_,?_⟩
  ·show ((m.base.map R.plain).getD g0).Ok
   cases hb:m.base with
   | none=>exact g0_ok
   | some r=>exact R.plain_ok (h r (by simp [O.regs,M.regs,hb])).1
  ·show ((m.index.map R.plain).getD g0).Ok
   cases hb:m.index with
   | none=>exact g0_ok
   | some r=>exact R.plain_ok (h r (by simp [O.regs,M.regs,hb])).1
 | con c=>exact ⟨g0_ok,g0_ok,g0_ok⟩
 | label s=>exact ⟨g0_ok,g0_ok,g0_ok⟩
 | rel n=>exact ⟨g0_ok,g0_ok,g0_ok⟩
def PO.list (p:PO):List Value:=p.cells.toList
theorem opsCells_po {os:List O} (hn:∀ o∈os,o.Nn):opsCells os=(os.map O.po).flatMap PO.list:=by
 unfold opsCells PO.list
 induction os with
 | nil=>rfl
 | cons o os ih=>rw [List.map_cons,List.flatMap_cons,List.flatMap_cons,ih (fun x hx=>hn x (by simp [hx])),O.po_cells (hn o (by simp))]
theorem PO.list_len (p:PO):p.list.length=24:=rfl
def SvS (w:World) (s:SV) (l:List ByteArray):Prop:=s.n=l.length∧Rw w 9 1 s.A l.length (l.map Value.string)
def SvO (w:World) (s:SV) (l:List PO):Prop:=s.n=l.length∧Rw w 45 24 s.A l.length (l.flatMap PO.list)
def plT:List TypeId:=[9,45]
theorem SvS.at_ {w:World} {s:SV} {l:List ByteArray} (h:SvS w s l):StrsAt w s l:=⟨h.1,by simp,fun hn=>by
 obtain ⟨b,off,cs,fr,h1,h2,h3⟩:=h.2.row hn
 exact ⟨b,off,h1,lt_of_heap h2,h3⟩⟩
theorem SvO.at_ {w:World} {s:SV} {l:List PO} (h:SvO w s l):POsAt w s l:=⟨h.1,fun hn=>by
 obtain ⟨b,off,cs,fr,h1,h2,h3⟩:=h.2.row hn
 refine ⟨b,off,h1,lt_of_heap h2,fun k p hk j v hv=>?_⟩
 have:=h3 _ v (flat_get (f:=PO.list) PO.list_len hk j v hv)
 rw [← Nat.add_assoc] at this
 exact this⟩
theorem Rw.below {w:World} {e:TypeId} {size n:Nat} {A:Option Addr} {xs:List Value} (h:Rw w e size A n xs) (hA:n=0→A=none):∀ b off,A=some ⟨b,off,none⟩→b < w.heap.size:=by
 intro b off e
 rcases Nat.eq_zero_or_pos n with h0 | h0
 ·rw [hA h0] at e;cases e
 ·obtain ⟨b',off',cs,fr,h1,h2,_⟩:=h.row h0
  rw [h1] at e
  injection e with e
  injection e with e
  subst e
  exact lt_of_heap h2
def Low (w:World) (A:Option Addr):Prop:=∀ b off,A=some ⟨b,off,none⟩→b < w.heap.size
theorem Low.fr {S:Nat→Prop} {w w':World} {A:Option Addr} (h:Low w A) (hf:Fr S w w'):Low w' A:=fun b off e=>Nat.lt_of_lt_of_le (h b off e) hf.size
theorem Low.nil (w:World):Low w none:=fun _ _ e=>by cases e
theorem Low.own {w:World} {base:Nat} {e:TypeId} {size n c:Nat} {A:Option Addr} {xs:List Value} (h:w.ownsRow base e size (.slice A n c) n xs):Low w A:=fun b off he=>by
 rcases h.2 with ⟨h1,h0⟩ | ⟨g,cap,cur,h1,hb,hh,_⟩
 ·injection h1 with hA _ _;rw [hA] at he;cases he
 ·injection h1 with hA _ _
  rw [hA] at he
  injection he with he
  injection he with he
  subst he
  exact lt_of_heap hh
structure PI.Row (w:World) (i:PI):Prop where
 suf:SvS w i.sufV i.suf
 ops:SvO w i.opsV i.ops
 inp:SvO w i.inpV i.inp
 out:SvO w i.outV i.out
 isa:SvS w i.isaV i.isa
 low:∀ s∈[i.sufV,i.opsV,i.inpV,i.outV,i.isaV],Low w s.A
 few:i.suf.length≤1048576∧i.ops.length≤1048576∧i.inp.length≤1048576∧i.out.length≤1048576∧i.isa.length≤1048576
 ok:(∀ p∈i.ops,p.Ok)∧(∀ p∈i.inp,p.Ok)∧(∀ p∈i.out,p.Ok)
theorem PI.Row.frT {S:Nat→Prop} {w w':World} {i:PI} (h:i.Row w) (hf:Fr S w w') (hs:NoT plT w S):i.Row w':=
 ⟨⟨h.suf.1,h.suf.2.frT hf hs (by decide)⟩,⟨h.ops.1,h.ops.2.frT hf hs (by decide)⟩,⟨h.inp.1,h.inp.2.frT hf hs (by decide)⟩,⟨h.out.1,h.out.2.frT hf hs (by decide)⟩,⟨h.isa.1,h.isa.2.frT hf hs (by decide)⟩,fun s hs'=>(h.low s hs').fr hf,h.few,h.ok⟩
theorem PI.Row.at_ {w:World} {i:PI} (h:i.Row w):i.At w w.heap.size:=⟨h.suf.at_,h.ops.at_,h.inp.at_,h.out.at_,h.isa.at_,fun s hs _ b off e=>h.low s hs b off e,h.few,h.ok⟩
structure PN.Row (w:World) (n:PN):Prop where
 ins:n.ins.Row w
 lines:SvS w n.linesV n.lines
 low:Low w n.linesV.A
 few:n.lines.length≤1048576
theorem PN.Row.frT {S:Nat→Prop} {w w':World} {n:PN} (h:n.Row w) (hf:Fr S w w') (hs:NoT plT w S):n.Row w':=⟨h.ins.frT hf hs,⟨h.lines.1,h.lines.2.frT hf hs (by decide)⟩,h.low.fr hf,h.few⟩
theorem PN.Row.at_ {w:World} {n:PN} (h:n.Row w):n.At w w.heap.size:=⟨h.ins.at_,h.lines.at_,fun _ b off e=>h.low b off e,h.few⟩
def PN.list (p:PN):List Value:=p.cells.toList
theorem PN.list_len (p:PN):p.list.length=13:=rfl
theorem nodes_of {w:World} {base c:Nat} {A:Option Addr} {ns:List PN} (h:w.ownsRow base 57 13 (.slice A ns.length c) ns.length (ns.flatMap PN.list)) (hr:∀ p∈ns,p.Row w) (hf:ns.length≤1048576):NodesAt w w.heap.size ⟨A,ns.length,c⟩ ns:=
 ⟨rfl,fun hn=>by
  obtain ⟨g,e1,hg,hc⟩:=own_cells h hn
  refine ⟨g,0,e1,hg,hg,fun k p hk j v hv=>?_⟩
  have:=hc _ v (flat_get (f:=PN.list) PN.list_len hk j v hv)
  rw [Nat.zero_add]
  exact this,fun p hp=>(hr p hp).at_,hf⟩
def sv0:SV:=⟨none,0,0⟩
def pi0:PI:=⟨e0,sv0,[],sv0,[],sv0,[],sv0,[],false,false,false,false,sv0,[]⟩
theorem sv0_S (w:World):SvS w sv0 []:=⟨rfl,Rw.nil _ _ _⟩
theorem sv0_O (w:World):SvO w sv0 []:=⟨rfl,Rw.nil _ _ _⟩
theorem pi0_row (w:World):pi0.Row w:=⟨sv0_S w,sv0_O w,sv0_O w,sv0_O w,sv0_S w,fun s hs=>by simp [pi0] at hs;subst hs;exact Low.nil w,by decide,by simp [pi0]⟩
structure RecP (r:Rec) (i:PI):Prop where
 opc:i.opc=r.i.opc
 suf:i.suf=r.suf
 isa:i.isa=r.isa
 ops:i.ops=r.ops.map O.po
 inp:i.inp=r.inp.map O.po
 out:i.out=r.out.map O.po
 term:i.term=r.i.term
 br:i.br=r.i.br
 cond:i.cond=r.i.cond
 canc:i.canc=r.i.canc
def NdP (rs:List Rec) (cms:List (Nat × List ByteArray)):Nd→PN→Prop
 | .ins b,p=>p.kind=1∧p.label=e0∧p.lines=[]∧∃ r∈rs,r.b=b∧RecP r p.ins
 | .label s,p=>p.kind=2∧p.label=s∧p.lines=[]∧p.ins=pi0
 | .comment c,p=>p.kind=3∧p.label=e0∧p.ins=pi0∧(c,p.lines)∈cms
def NdsP (rs:List Rec) (cms:List (Nat × List ByteArray)) (nds:List Nd) (ns:List PN):Prop:=ns.length=nds.length∧∀ (k:Nat) (nd:Nd),nds[k]? = some nd→∃ p,ns[k]? = some p∧NdP rs cms nd p
theorem NdsP.snoc {rs:List Rec} {cms:List (Nat × List ByteArray)} {nds:List Nd} {ns:List PN} {nd:Nd} {p:PN} (h:NdsP rs cms nds ns) (hp:NdP rs cms nd p):NdsP rs cms (nds ++ [nd]) (ns ++ [p]):=by
 refine ⟨by simp [h.1],fun k x hx=>?_⟩
 by_cases hlt:k < nds.length
 ·rw [List.getElem?_append_left hlt] at hx
  rw [List.getElem?_append_left (by rw [h.1];exact hlt)]
  exact h.2 k x hx
 ·rw [List.getElem?_append_right (by omega)] at hx
  have hk:k - nds.length=0:=by
   have:=(List.getElem?_eq_some_iff.1 hx).1
   simp at this;omega
  rw [hk] at hx
  simp only [List.getElem?_cons_zero,Option.some.injEq] at hx
  subst hx
  rw [List.getElem?_append_right (by rw [h.1];omega),h.1,hk]
  exact ⟨p,rfl,hp⟩
def piOf (r:Rec) (A1:Option Addr) (c1:Nat) (A2:Option Addr) (c2:Nat) (A3:Option Addr) (c3:Nat) (A4:Option Addr) (c4:Nat) (A5:Option Addr) (c5:Nat):PI:=
 ⟨r.i.opc,⟨A1,r.suf.length,c1⟩,r.suf,⟨A2,r.ops.length,c2⟩,r.ops.map O.po,⟨A3,r.inp.length,c3⟩,r.inp.map O.po,⟨A4,r.out.length,c4⟩,r.out.map O.po,r.i.term,r.i.br,r.i.cond,r.i.canc,⟨A5,r.isa.length,c5⟩,r.isa⟩
theorem piOf_row {w w':World} {base:Nat} {r:Rec} {A1:Option Addr} {c1:Nat} {A2:Option Addr} {c2:Nat} {A3:Option Addr} {c3:Nat} {A4:Option Addr} {c4:Nat} {A5:Option Addr} {c5:Nat} (h:r.At w') (hl:RLens r) (hn:∀ o,o∈r.ops∨o∈r.inp∨o∈r.out→o.Nn)
  (g1:w.ownsRow base 9 1 (.slice A1 r.suf.length c1) r.suf.length (r.suf.map Value.string)) (g2:w.ownsRow base 45 24 (.slice A2 r.ops.length c2) r.ops.length (opsCells r.ops))
  (g3:w.ownsRow base 45 24 (.slice A3 r.inp.length c3) r.inp.length (opsCells r.inp)) (g4:w.ownsRow base 45 24 (.slice A4 r.out.length c4) r.out.length (opsCells r.out))
  (g5:w.ownsRow base 9 1 (.slice A5 r.isa.length c5) r.isa.length (r.isa.map Value.string)):(piOf r A1 c1 A2 c2 A3 c3 A4 c4 A5 c5).Row w:=by
 have ko:∀ {os:List O} {A:Option Addr} {c:Nat},(∀ o∈os,o.Nn)→w.ownsRow base 45 24 (.slice A os.length c) os.length (opsCells os)→SvO w ⟨A,os.length,c⟩ (os.map O.po):=fun {os A c} hn g=>⟨by simp,by rw [List.length_map,← opsCells_po hn];exact Rw.of_own g⟩
 refine ⟨⟨rfl,Rw.of_own g1⟩,ko (fun o ho=>hn o (.inl ho)) g2,ko (fun o ho=>hn o (.inr (.inl ho))) g3,ko (fun o ho=>hn o (.inr (.inr ho))) g4,⟨rfl,Rw.of_own g5⟩,fun s hs=>?_,⟨hl.suf,by simpa [piOf] using hl.ops,by simpa [piOf] using hl.inp,by simpa [piOf] using hl.out,hl.isa⟩,?_,?_,?_⟩
 ·simp only [piOf,List.mem_cons,List.not_mem_nil,or_false] at hs
  rcases hs with rfl | rfl | rfl | rfl | rfl
  ·exact Low.own g1
  ·exact Low.own g2
  ·exact Low.own g3
  ·exact Low.own g4
  ·exact Low.own g5
 ·intro p hp;obtain ⟨o,ho,rfl⟩:=List.mem_map.1 hp;exact O.po_ok (h.ats.1 o ho)
 ·intro p hp;obtain ⟨o,ho,rfl⟩:=List.mem_map.1 hp;exact O.po_ok (h.ats.2.1 o ho)
 ·intro p hp;obtain ⟨o,ho,rfl⟩:=List.mem_map.1 hp;exact O.po_ok (h.ats.2.2 o ho)
theorem rows_snoc {w w':World} {base n:Nat} {v:Value} {xs:List Value} {ns:List PN} {p:PN} (h:∀ q∈ns,q.Row w) (hp:p.Row w) (ho:w.ownsRow base 57 13 v n xs) (hf:Fr (fun b=>v.ownBlock=some b) w w'):∀ q∈ns ++ [p],q.Row w':=by
 intro q hq
 have hT:=NoT.own (T:=plT) ho (by decide)
 rcases List.mem_append.1 hq with hq | hq
 ·exact (h q hq).frT hf hT
 ·obtain rfl:q=p:=by simpa using hq
  exact hp.frT hf hT
theorem infoPN:(Tryz.prog.info? 57).map (fun i=>(i.zero,i.size,i.bytes))=some (some (.agg #[.int .i64 0,.string ⟨#[]⟩,.slice none 0 0,.string ⟨#[]⟩,.slice none 0 0,.slice none 0 0,.slice none 0 0,.slice none 0 0,.bool false,.bool false,.bool false,.bool false,.slice none 0 0]),13,192):=by kernel_rfl
structure NdOk (w:World) (nds:List Nd) (rs:List Rec) (cms:List (Nat × List ByteArray)):Prop where
 ins:∀ b,Nd.ins b∈nds→∃ r∈rs,r.b=b
 com:∀ c,Nd.comment c∈nds→∃ l,(c,l)∈cms
 lens:∀ r∈rs,RLens r
 lines:∀ c∈cms,c.2.length≤1048576
 recs:∀ r∈rs,r.At w
 nn:∀ r∈rs,∀ o,o∈r.ops∨o∈r.inp∨o∈r.out→o.Nn
def GivesPN (w:World) (nds:List Nd) (rs:List Rec) (cms:List (Nat × List ByteArray)) (e:Ending) (w':World):Prop:=
 Fr nope w w'∧∃ A c ns,e = .returned (.slice A ns.length c)∧NdsP rs cms nds ns∧NodesAt w' w'.heap.size ⟨A,ns.length,c⟩ ns
set_option maxHeartbeats 2000000 in
theorem plainNodes_calls (w:World) (fb:Nat) (f:Fn) (nds:List Nd) (rs:List Rec) (cms:List (Nat × List ByteArray)) (hfn:FnAt w fb f) (hno:w.ownsRow (fb+1) 135 1 f.nodes nds.length (nds.map Nd.val)) (hcms:∀ c∈cms,CmAt w fb c.1 c.2) (hk:NdOk w nds rs cms) (hl:nds.length≤1048576):
  Calls Tryz.prog 29 #[ptr fb] w (GivesPN w nds rs cms):=by
 obtain ⟨A,c,hnn,_,_⟩:=own_slice hno
 have c5:=hfn.c5
 rw [hnn] at hno c5
 have hSl:=own_Sl hno
 unfold ptr
 go_enter Tryz.func29,Tryz.ntmps29
 go_wp2
 clear c5
 go_loopg [3,14] nds.length (fun n c3 c14 wr=>∃ (k:Nat) (A2:Option Addr) (c2:Nat) (ns:List PN),k≤nds.length∧ns.length=k∧c14 = .int .i64 (k:Int)∧c3 = .slice A2 k c2∧wr.ownsRow w.heap.size 57 13 (.slice A2 k c2) k (ns.flatMap PN.list)∧Hid (∀ p∈ns,p.Row wr)∧Hid (NdsP rs cms (nds.take k) ns)∧Fr nope w wr∧n=nds.length - k)
 case atStart=>exact ⟨0,none,0,[],Nat.zero_le _,rfl,rfl,rfl,own_nil _ _ _ _,Lib.hid (by simp),Lib.hid ⟨rfl,by simp⟩,Fr.refl _ _,rfl⟩
 case round=>
  obtain ⟨k,A2,c2,ns,hk',hnl,rfl,rfl,hown,hrow,hnp,hf,rfl⟩:=hrel
  by_cases hlt:k < nds.length
  ·obtain ⟨b0,off,u,hAe,hbl,hu,hc⟩:=(hSl.nope hf).at_ hlt
   rw [List.getElem?_map] at hu
   obtain ⟨nd,hnd,rfl⟩:=Option.map_eq_some_iff.1 hu
   have hndm:=List.mem_of_getElem? hnd
   have hT:=take_snoc hnd
   replace hT:=Lib.hid hT
   replace hnd:=Lib.hid hnd
   subst hAe
   clear hu
   have hsz:=hf.size
   cases nd with
   | ins b=>
    obtain ⟨r,hr,rfl⟩:=hk.ins b hndm
    have hta:=fun W=>ta_Ins_ins W 135 (.pointer (some ⟨r.b,0,none⟩))
    have hcall:=plainInstr_calls wr r ((hk.recs r hr).nope hf) (hk.lens r hr)
    have hokr:=(hk.recs r hr).ats
    simp only [Nd.val] at hc
    go_wp2_with fail
    refine hcall.mono ?_
    rintro e w1 ⟨hf1,A1,e1,A3,e3,A4,e4,A5,e5,A6,e6,rfl,g1,g3,g4,g5,g6⟩
    have hrw:=piOf_row (hk.recs r hr) (hk.lens r hr) (hk.nn r hr) g1 g3 g4 g5 g6
    have hown2:=own_fr (own_fr hown hf1 (fun _ _ x=>x)) ((Fr.refl nope _).alloc (.cells (PN.list ⟨1,e0,sv0,[],piOf r A1 e1 A3 e3 A4 e4 A5 e5 A6 e6⟩).toArray 57)) (fun _ _ x=>x)
    have hsz1:=hf1.size
    clear g1 g3 g4 g5 g6
    replace hrw:=Lib.hid hrw
    go_wp2_with (first
     | (refine wpList_build1 (l:=PN.list ⟨1,e0,sv0,[],piOf r A1 e1 A3 e3 A4 e4 A5 e5 A6 e6⟩) rfl rfl rfl Tryz.underlying22 infoPN rfl (by omega) (by decide) ?_)
     | refine wpList_app (v:=.slice A2 k c2) rfl rfl Tryz.underlying22 infoPN rfl (by omega) rfl hown2 rfl (news:=PN.list ⟨1,e0,sv0,[],piOf r A1 e1 A3 e3 A4 e4 A5 e5 A6 e6⟩) rfl (fun _=>cells_new _ _ _ _ (by simp)) (by simp [PN.list,PN.cells,Value.oneCell',SV.val,piOf]) (by simp only [maxLen];omega) (by omega) (by simp;omega) ?hk)
    case hk=>
     intro v3 w3 hown3 hf3 hb3
     obtain ⟨A7,e7,rfl,_,_⟩:=own_slice hown3
     clear hb3
     go_wp2
     go_roundg (nds.length - (k+1))
     case measure=>omega
     case rel=>
      have hbs:∀ x,Value.ownBlock (.slice A2 k c2)=some x→w.heap.size≤x:=own_base hown
      refine ⟨k+1,A7,e7,ns ++ [⟨1,e0,sv0,[],piOf r A1 e1 A3 e3 A4 e4 A5 e5 A6 e6⟩],by omega,by simp [hnl],by go_num,rfl,by rw [List.flatMap_append];simpa [List.flatMap_cons] using hown3,Lib.hid (rows_snoc (fun q hq=>?_) ?_ hown2 hf3),Lib.hid (by rw [hT.out];exact hnp.out.snoc ⟨rfl,rfl,rfl,r,hr,rfl,rfl,rfl,rfl,rfl,rfl,rfl,rfl,rfl,rfl,rfl⟩),((hf.then hf1).alloc _).then_new hf3 (fun x hx e=>by have:=hbs x e;omega),rfl⟩
      ·exact ((hrow.out q hq).frT hf1 (NoT.nope _ _)).frT ((Fr.refl nope _).alloc _) (NoT.nope _ _)
      ·exact (show PN.Row w1 ⟨1,e0,sv0,[],_⟩ from ⟨hrw.out,sv0_S _,Low.nil _,by simp⟩).frT ((Fr.refl nope _).alloc _) (NoT.nope _ _)
   | label z=>
    have hta:=fun W=>ta_Ins_label W 135 (.string z)
    have htb:=fun W=>ta_Label_label W 135 (.string z)
    simp only [Nd.val] at hc
    have hown2:=own_fr hown ((Fr.refl nope _).alloc (.cells (PN.list ⟨2,z,sv0,[],pi0⟩).toArray 57)) (fun _ _ x=>x)
    go_wp2_with (first
     | (refine wpList_build1 (l:=PN.list ⟨2,z,sv0,[],pi0⟩) rfl rfl rfl Tryz.underlying22 infoPN rfl (by omega) (by decide) ?_)
     | refine wpList_app (v:=.slice A2 k c2) rfl rfl Tryz.underlying22 infoPN rfl (by omega) rfl hown2 rfl (news:=PN.list ⟨2,z,sv0,[],pi0⟩) rfl (fun _=>cells_new _ _ _ _ (by simp)) (by simp [PN.list,PN.cells,Value.oneCell',SV.val]) (by simp only [maxLen];omega) (by omega) (by simp;omega) ?hk)
    case hk=>
     intro v3 w3 hown3 hf3 hb3
     obtain ⟨A7,e7,rfl,_,_⟩:=own_slice hown3
     clear hb3
     go_wp2
     go_roundg (nds.length - (k+1))
     case measure=>omega
     case rel=>
      have hbs:∀ x,Value.ownBlock (.slice A2 k c2)=some x→w.heap.size≤x:=own_base hown
      refine ⟨k+1,A7,e7,ns ++ [⟨2,z,sv0,[],pi0⟩],by omega,by simp [hnl],by go_num,rfl,by rw [List.flatMap_append];simpa [List.flatMap_cons] using hown3,Lib.hid (rows_snoc (fun q hq=>?_) ?_ hown2 hf3),Lib.hid (by rw [hT.out];exact hnp.out.snoc ⟨rfl,rfl,rfl,rfl⟩),(hf.alloc _).then_new hf3 (fun x hx e=>by have:=hbs x e;omega),rfl⟩
      ·exact ((hrow.out q hq).frT (Fr.refl nope _) (NoT.nope _ _)).frT ((Fr.refl nope _).alloc _) (NoT.nope _ _)
      ·exact (show PN.Row wr ⟨2,z,sv0,[],pi0⟩ from ⟨pi0_row _,sv0_S _,Low.nil _,by simp⟩).frT ((Fr.refl nope _).alloc _) (NoT.nope _ _)
   | comment b=>
    obtain ⟨l,hlm⟩:=hk.com b hndm
    obtain ⟨sv,hcb,hso,hfb⟩:=hcms _ hlm
    have hll:=hk.lines _ hlm
    simp only at hcb hso hfb hll
    have hta:=fun W=>ta_Ins_comment W 135 (.pointer (some ⟨b,0,none⟩))
    have htb:=fun W=>ta_Label_comment W 135 (.pointer (some ⟨b,0,none⟩))
    have htc:=fun W=>ta_Comment_comment W 135 (.pointer (some ⟨b,0,none⟩))
    simp only [Nd.val] at hc
    obtain ⟨B,m,d⟩:=sv
    obtain ⟨rfl,hso⟩:m=l.length∧_:=hso
    simp only [SV.val] at hcb hso
    have hcb:=cell_of_row _ _ 0 _ _ (0,0) (hf.heap hcb (fun x=>x))
    have hsrc:=Sl.src ((own_Sl hso).nope hf)
    simp only [List.getElem?_toArray,List.getElem?_cons_zero] at hcb
    go_wp2_with (refine wpList_app (v:=.slice none 0 0) rfl rfl Tryz.underlying35 infoStr rfl (by omega) rfl (own_nil wr w.heap.size _ _) rfl (news:=l.map Value.string) (by simp) hsrc (by simp [Value.oneCell']) (by simp only [maxLen];omega) (by omega) hsz ?hs)
    case hs=>
    intro v4 w1 hown4 hf1' hb4
    obtain ⟨A4,e4,rfl,_,_⟩:=own_slice hown4
    have hf1:Fr nope wr w1:=hf1'.mono (fun x _ h=>by simp [Value.ownBlock] at h)
    try rw [Nat.zero_add] at hown4
    try simp only [Nat.zero_add]
    have hrw:PN.Row w1 ⟨3,e0,⟨A4,l.length,e4⟩,l,pi0⟩:=⟨pi0_row _,⟨rfl,Rw.of_own hown4⟩,Low.own hown4,hll⟩
    have hown2:=own_fr (own_fr hown hf1 (fun _ _ x=>x)) ((Fr.refl nope _).alloc (.cells (PN.list ⟨3,e0,⟨A4,l.length,e4⟩,l,pi0⟩).toArray 57)) (fun _ _ x=>x)
    have hsz1:=hf1.size
    clear hb4 hf1' hown4 hsrc
    replace hrw:=Lib.hid hrw
    go_wp2_with (first
     | (refine wpList_build1 (l:=PN.list ⟨3,e0,⟨A4,l.length,e4⟩,l,pi0⟩) rfl rfl rfl Tryz.underlying22 infoPN rfl (by omega) (by decide) ?_)
     | refine wpList_app (v:=.slice A2 k c2) rfl rfl Tryz.underlying22 infoPN rfl (by omega) rfl hown2 rfl (news:=PN.list ⟨3,e0,⟨A4,l.length,e4⟩,l,pi0⟩) rfl (fun _=>cells_new _ _ _ _ (by simp)) (by simp [PN.list,PN.cells,Value.oneCell',SV.val]) (by simp only [maxLen];omega) (by omega) (by simp;omega) ?hk)
    case hk=>
     intro v3 w3 hown3 hf3 hb3
     obtain ⟨A7,e7,rfl,_,_⟩:=own_slice hown3
     clear hb3
     go_wp2
     go_roundg (nds.length - (k+1))
     case measure=>omega
     case rel=>
      have hbs:∀ x,Value.ownBlock (.slice A2 k c2)=some x→w.heap.size≤x:=own_base hown
      refine ⟨k+1,A7,e7,ns ++ [⟨3,e0,⟨A4,l.length,e4⟩,l,pi0⟩],by omega,by simp [hnl],by go_num,rfl,by rw [List.flatMap_append];simpa [List.flatMap_cons] using hown3,Lib.hid (rows_snoc (fun q hq=>?_) ?_ hown2 hf3),Lib.hid (by rw [hT.out];exact hnp.out.snoc ⟨rfl,rfl,rfl,hlm⟩),((hf.then hf1).alloc _).then_new hf3 (fun x hx e=>by have:=hbs x e;omega),rfl⟩
      ·exact ((hrow.out q hq).frT hf1 (NoT.nope _ _)).frT ((Fr.refl nope _).alloc _) (NoT.nope _ _)
      ·exact hrw.out.frT ((Fr.refl nope _).alloc _) (NoT.nope _ _)
  ·have hke:k=nds.length:=by omega
   subst hke
   rw [List.take_length] at hnp
   go_wp2
   go_ret
   rw [← hnl] at hown ⊢
   exact ⟨hf,A2,c2,ns,rfl,hnp.out,nodes_of hown hrow.out (by omega)⟩
end
section
open Go Go.RowKit Bth
set_option maxRecDepth 100000
theorem C.nn {c:PC} {d:C} (h:conOf c=some d):0≤d.bits:=by
 obtain ⟨k,hk,rfl⟩:=Option.map_eq_some_iff.1 h
 have hw:∀ n:Int,0≤IntKind.u64.wrap n:=fun n=>by rw [IntKind.wrap_u64];omega
 unfold C.bits
 cases k<;>simp only [CK.norm]<;>first | exact hw _ | omega
theorem opOf_nn {fs:Nat→Option Nat} {p:PO} {o:O} (h:opOf fs p=some o):o.Nn:=by
 unfold opOf at h
 split at h
 ·obtain ⟨r,_,rfl⟩:=Option.map_eq_some_iff.1 h;trivial
 split at h
 ·obtain ⟨r,_,rfl⟩:=Option.map_eq_some_iff.1 h;trivial
 split at h
 ·obtain ⟨c,hc,rfl⟩:=Option.map_eq_some_iff.1 h;exact C.nn hc
 split at h
 ·injection h with h;subst h;trivial
 split at h
 ·injection h with h;subst h;trivial
 ·cases h
theorem pOps_nn {fs:Nat→Option Nat} : ∀ {ps:List PO} {os:List O},pOps fs ps=some os→∀ o∈os,o.Nn:=by
 intro ps
 induction ps with
 | nil=>intro os h;simp only [pOps,Option.some.injEq] at h;subst h;simp
 | cons p ps ih=>
  intro os h
  simp only [pOps] at h
  obtain ⟨o,e1,e2⟩:=Option.bind_eq_some_iff.1 h
  obtain ⟨os',e3,rfl⟩:=Option.map_eq_some_iff.1 e2
  intro x hx
  rcases List.mem_cons.1 hx with rfl | hx
  ·exact opOf_nn e1
  ·exact ih e3 x hx
theorem BO.nn {f:Nat→Option Nat} {o o':O} (h:BO f o o') (hn:o.Nn):o'.Nn:=by
 cases o<;>cases o'<;>first | exact h.elim | trivial | (have h:_=_:=h;subst h;exact hn)
theorem BL.nn {f:Nat→Option Nat} {j:Nat} {l l':List O} (h:BL f j l l') (hn:∀ o∈l,o.Nn):∀ o∈l',o.Nn:=by
 intro o' ho'
 obtain ⟨k,hk⟩:=List.getElem?_of_mem ho'
 have hlt:k < l.length:=by rw [← h.1];exact (List.getElem?_eq_some_iff.1 hk).1
 have hl:=List.getElem?_eq_getElem hlt
 have:=h.2 k _ o' hl hk
 split at this
 ·exact this.nn (hn _ (List.getElem_mem hlt))
 ·rw [this];exact hn _ (List.getElem_mem hlt)
theorem Mt.com {fs:Nat→Option Nat} {ns:List PN} {nds:List Nd} {rs:List Rec} {cms:List (Nat × List ByteArray)} (h:Mt fs ns nds rs cms):(∀ c,Nd.comment c∈nds→∃ l,(c,l)∈cms)∧∀ c∈cms,∃ n∈ns,c.2=n.lines:=by
 induction h with
 | nil=>exact ⟨by simp,by simp⟩
 | ins _ _ _ ih=>
  refine ⟨fun c hc=>ih.1 c (by simpa using hc),fun c hc=>?_⟩
  obtain ⟨n,hn,e⟩:=ih.2 c hc
  exact ⟨n,by simp [hn],e⟩
 | label _ _ ih=>
  refine ⟨fun c hc=>ih.1 c (by simpa using hc),fun c hc=>?_⟩
  obtain ⟨n,hn,e⟩:=ih.2 c hc
  exact ⟨n,by simp [hn],e⟩
 | @comment ns nds rs cms n c0 _ _ ih=>
  refine ⟨fun c hc=>?_,fun c hc=>?_⟩
  ·rcases List.mem_append.1 hc with hc | hc
   ·obtain ⟨l,hl⟩:=ih.1 c hc
    exact ⟨l,by simp [hl]⟩
   ·obtain rfl:c=c0:=by simpa using hc
    exact ⟨n.lines,by simp⟩
  ·rcases List.mem_append.1 hc with hc | hc
   ·obtain ⟨n',hn,e⟩:=ih.2 c hc
    exact ⟨n',by simp [hn],e⟩
   ·obtain rfl:c=(c0,n.lines):=by simpa using hc
    exact ⟨n,by simp,rfl⟩
def BoundN (g:Nat→Option Nat) (ns ns':List PN):Prop:=∃ (fs:Nat→Option Nat) (w0:World) (wb:Nat) (nds:List Nd) (rs rs':List Rec) (cms:List (Nat × List ByteArray)),WAt w0 wb fs∧Mt fs ns nds rs cms∧BRs g rs.length rs rs'∧NdsP rs' cms nds ns'∧(rs.map (·.b)).Nodup∧∀ c l l',(c,l)∈cms→(c,l')∈cms→l=l'
theorem FB.nodup {w:World} {fb:Nat} {f:Fn} {nds:List Nd} {rs:List Rec} {cms:List (Nat × List ByteArray)} (h:FB w fb f nds rs cms):(rs.map (·.b)).Nodup:=
 List.pairwise_map.2 (h.apart.imp_of_mem fun {x y} hx hy hxy e=>by
  have h1:=(h.recs x hx).1.own.b2
  have h2:=(h.recs y hy).1.own.b1
  omega)
def GivesBd (w:World) (ns:List PN) (g:Nat→Option Nat) (e:Ending) (w':World):Prop:=
 Fr nope w w'∧∃ A c ns',e = .returned (.tuple #[.slice A ns'.length c,.bool true])∧NodesAt w' w'.heap.size ⟨A,ns'.length,c⟩ ns'∧BoundN g ns ns'
theorem ndok_of {w w0:World} {B fb:Nat} {f:Fn} {fs:Nat→Option Nat} {s:SV} {ns:List PN} {nds:List Nd} {rs rs':List Rec} {cms:List (Nat × List ByteArray)} {g:Nat→Option Nat} (hM:Mt fs ns nds rs cms) (hN:NodesAt w0 B s ns) (hb:BRs g rs.length rs rs') (st:FB w fb f nds rs' cms):NdOk w nds rs' cms:=by
 have hlen:∀ r'∈rs',∃ r∈rs,∃ n,BR g n r r':=fun r' hr'=>by
  obtain ⟨k,hk⟩:=List.getElem?_of_mem hr'
  have hlt:k < rs.length:=by rw [← hb.len];exact (List.getElem?_eq_some_iff.1 hk).1
  exact ⟨_,List.getElem_mem hlt,_,hb.each k _ r' (List.getElem?_eq_getElem hlt) hk⟩
 refine ⟨fun b hbm=>?_,hM.com.1,fun r' hr'=>?_,fun c hc=>?_,fun r hr=>(st.recs r hr).1,fun r' hr' o ho=>?_⟩
 ·have:b∈insOf nds:=by
   unfold insOf
   exact List.mem_filterMap.2 ⟨_,hbm,rfl⟩
  rw [st.bs] at this
  obtain ⟨r,hr,e⟩:=List.mem_map.1 this
  exact ⟨r,hr,e⟩
 ·obtain ⟨r,hr,n,hB⟩:=hlen r' hr'
  obtain ⟨p,hp,hm⟩:=hM.each hr
  obtain ⟨q,hq,rfl⟩:=insP_mem hp
  have hf:=(hN.each q hq).ins.few
  have h0:=(hB.row 0 (by omega)).1
  have h1:=(hB.row 1 (by omega)).1
  have h2:=(hB.row 2 (by omega)).1
  have l0:=pOps_len hm.ops
  have l1:=pOps_len hm.inp
  have l2:=pOps_len hm.out
  simp only [Rec.row] at h0 h1 h2
  exact ⟨by rw [hB.suf,hm.suf];exact hf.1,by omega,by omega,by omega,by rw [hB.isa,hm.isa];exact hf.2.2.2.2⟩
 ·obtain ⟨n,hn,e⟩:=hM.com.2 c hc
  rw [e]
  exact (hN.each n hn).few
 ·obtain ⟨r,hr,n,hB⟩:=hlen r' hr'
  obtain ⟨p,hp,hm⟩:=hM.each hr
  rcases ho with ho | ho | ho
  ·exact (hB.row 0 (by omega)).nn (pOps_nn hm.ops) o ho
  ·exact (hB.row 1 (by omega)).nn (pOps_nn hm.inp) o ho
  ·exact (hB.row 2 (by omega)).nn (pOps_nn hm.out) o ho
theorem own_texts {w:World} {b1 b2:Nat} {v:Value} {l l':List ByteArray} (h:w.ownsRow b1 9 1 v l.length (l.map Value.string)) (h':w.ownsRow b2 9 1 v l'.length (l'.map Value.string)):l=l':=by
 obtain ⟨A,c,hv,_,_⟩:=own_slice h
 obtain ⟨A',c',hv',_,_⟩:=own_slice h'
 have e:=hv.symm.trans hv'
 injection e with e1 e2 e3
 subst e1 e3
 rw [hv] at h
 rw [hv'] at h'
 rcases Nat.eq_zero_or_pos l.length with h0 | h0
 ·rw [List.eq_nil_of_length_eq_zero h0,List.eq_nil_of_length_eq_zero (by omega:l'.length=0)]
 ·obtain ⟨g,hg,_,k1⟩:=own_cells h h0
  obtain ⟨g',hg',_,k2⟩:=own_cells h' (by omega)
  rw [hg] at hg'
  injection hg' with hg'
  injection hg' with hg'
  subst hg'
  refine List.ext_getElem? fun j=>?_
  by_cases hj:j < l.length
  ·have hj':j < l'.length:=by omega
   have a1:=k1 j (.string l[j]) (by rw [List.getElem?_map,List.getElem?_eq_getElem hj];rfl)
   have a2:=k2 j (.string l'[j]) (by rw [List.getElem?_map,List.getElem?_eq_getElem hj'];rfl)
   rw [a1] at a2
   injection a2 with a2
   injection a2 with a2
   rw [List.getElem?_eq_getElem hj,List.getElem?_eq_getElem hj',a2]
  ·rw [List.getElem?_eq_none (by omega),List.getElem?_eq_none (by omega)]
theorem FB.comUniq {w:World} {fb:Nat} {f:Fn} {nds:List Nd} {rs:List Rec} {cms:List (Nat × List ByteArray)} (h:FB w fb f nds rs cms):∀ c l l',(c,l)∈cms→(c,l')∈cms→l=l':=by
 intro c l l' h1 h2
 obtain ⟨sv,a1,⟨a2,a3⟩,_⟩:=h.coms _ h1
 obtain ⟨sv',b1,⟨b2,b3⟩,_⟩:=h.coms _ h2
 rw [a1] at b1
 injection b1 with b1
 injection b1 with b1 _ _
 have e:sv.val=sv'.val:=by simpa using b1
 rw [← e] at b3
 exact own_texts a3 b3
set_option maxHeartbeats 2000000 in
theorem Bind_calls (w:World) (s:SV) (ns:List PN) (hN:NodesAt w w.heap.size s ns) (hok:ns.all okN=true) (A:Option Addr) (c:Nat) (l:List (Nat × Nat)) (ha:PairsAt w A l) (hl:l.length≤1000000000) (hs:small (ofPairs l)):
  Calls Tryz.prog 10 #[.slice s.A s.n s.c,.slice A l.length c] w (GivesBd w ns (ofPairs l)):=by
 have hfew:=hN.few
 go_enter Tryz.func10,Tryz.ntmps10
 go_wp2_with fail
 refine (newWorld_calls w).mono ?_
 rintro e w1 ⟨rfl,hW,hf1⟩
 have hN1:=hN.fr hf1 (fun _ _ x=>x)
 have hF:=function_calls w1 w.heap.size (fun _=>none) s ns hN1 hW
 have hl1:=hf1.size
 go_wp2_with fail
 refine hF.mono ?_
 rintro e w2 ⟨fs,hg,hW2,hf2,⟨fb,f,nds,rs,cms,hok',st,hfb,hbare,hfresh,rfl⟩ | ⟨hok',_⟩⟩
 rotate_left
 ·rw [hok] at hok';cases hok'
 have hwl:=lt_of_heap hW.1
 have hf02:Fr nope w w2:=hf1.then_new hf2 (fun x hx e=>by omega)
 have hsz2:=hf2.size
 have hA:=allocation_calls w2 A c l (ha.fr hf02) hl
 have hnl:nds.length≤1048576:=by rw [st.mt.len];exact hfew
 unfold ptr at ⊢
 go_wp2_with fail
 refine hA.mono ?_
 rintro e w3 ⟨rfl,hI3,hf3⟩
 have st3:=st.frT hf3 (NoT.nope _ _)
 have hfn3:=st3.fn
 have hfn3':w3.heap[fb]? = some (.cells f.cells 84 (0,0)):=hfn3
 have hsz3:=hf3.size
 have hc3:=fun j=>cell_of_row _ _ j _ _ (0,0) hfn3'
 have hz3:=frozen_row hfn3'
 have hblt:=lt_of_heap hfn3'
 simp only [Fn.cells] at hc3
 go_wp2_with fail
 have hset:Fr (fun b=>b=fb) w3 (w3.setCell ⟨fb,7,none⟩ (.map (some w2.heap.size))):=Fr.setCell (S:=fun b=>b=fb) (p:=⟨fb,7,none⟩) (Fr.refl _ w3) (.inl rfl) _
 have hv:FnAt (w3.setCell ⟨fb,7,none⟩ (.map (some w2.heap.size))) fb { f with al:=some w2.heap.size }:=setCell_heap hfn3' _
 have st4:=(st3.setFn hv rfl hset).toFB
 have hfl:fb < w2.heap.size:=lt_of_heap st.fn
 have hI4:=hI3.fr hset (by omega)
 have hf24:=hf3.of_nope.then hset
 generalize w3.setCell ⟨fb,7,none⟩ (.map (some w2.heap.size))=w4 at hv st4 hI4 hf24
 have hlens:∀ r∈rs,∀ p,(r.row p).length≤1048576:=fun r hr p=>by
  obtain ⟨q,hq,hm⟩:=st.mt.each hr
  obtain ⟨n,hn,rfl⟩:=insP_mem hq
  have hf:=(hN.each n hn).ins.few
  have l0:=pOps_len hm.ops
  have l1:=pOps_len hm.inp
  have l2:=pOps_len hm.out
  match p with
  | 0=>show r.ops.length≤_;omega
  | 1=>show r.inp.length≤_;omega
  | _+2=>show r.out.length≤_;omega
 have hB:=BindRegisters_calls w4 fb { f with al:=some w2.heap.size } nds rs cms w2.heap.size (ofPairs l) st4 rfl hI4 hs hnl hlens
 unfold ptr at hB
 refine hB.mono ?_
 rintro e w5 ⟨rfl,hf5,rs',hbs,st5⟩
 have hrow:=st4.rowlt
 have hf4:Fr nope w w4:=hf02.then_new hf24 (fun x hx e=>by omega)
 have hf05:Fr nope w w5:=hf4.then_new hf5 (fun x hx e=>by have:=hrow x e;omega)
 have hP:=plainNodes_calls w5 fb { f with al:=some w2.heap.size } nds rs' cms st5.fn st5.nodes st5.coms (ndok_of st.mt hN hbs st5) hnl
 unfold ptr at hP
 clear hc3 hz3
 go_wp2_with fail
 refine hP.mono ?_
 rintro e w6 ⟨hf6,A6,c6,ns',rfl,hnp,hN6⟩
 go_wp2
 go_ret2
 exact ⟨hf05.then hf6,A6,c6,ns',rfl,hN6,fs,w2,w.heap.size,nds,rs,rs',cms,hW2,st.mt,hbs,hnp,st4.nodup,st4.comUniq⟩
end
section
open Go Go.RowKit Bth
set_option maxRecDepth 100000
def GivesB (w:World) (b:Bool) (e:Ending) (w':World):Prop:=e = .returned (.bool b)∧Fr nope w w'
set_option maxHeartbeats 2000000 in
theorem OpOK_calls (w:World) (p:PO):Calls Tryz.prog 20 #[p.agg] w (GivesB w (okP p)):=by
 have hreg:=fun W=>IsRegister_calls W p.reg
 have hbase:=fun W=>IsRegister_calls W p.base
 have hindex:=fun W=>IsRegister_calls W p.index
 have hcon:=fun W=>ConstOK_calls W p.con
 unfold okP okM GivesB
 obtain ⟨kind,rg,hasBase,hasIndex,base,index,scale,disp,sym,static,con,label,rel⟩:=p
 simp only [PO.agg,PO.cells,G.agg,PC.agg] at hreg hbase hindex hcon ⊢
 by_cases h1:kind=1
 ·subst h1
  rw [if_pos rfl]
  generalize okG rg=b at hreg
  go_enter Tryz.func20,Tryz.ntmps20
  go_wp2_with (go_at_call 48;refine (hreg _).mono ?_;rintro e w1 ⟨rfl,hf1⟩)
  go_ret
  exact ⟨rfl,((Fr.refl _ _).alloc _).then hf1⟩
 by_cases h2:kind=2
 ·subst h2
  rw [if_neg (by decide),if_pos rfl]
  generalize okG base=b at hbase
  generalize okG index=c at hindex
  have nil0:∀ o,Fr nope w (w.alloc o):=fun o=>(Fr.refl nope w).alloc o
  cases hasBase with
  | false=>
   cases hasIndex with
   | false=>
    go_enter Tryz.func20,Tryz.ntmps20
    go_wp2
    go_ret
    exact ⟨rfl,nil0 _⟩
   | true=>
    go_enter Tryz.func20,Tryz.ntmps20
    go_wp2_with (go_at_call 48;refine (hindex _).mono ?_;rintro e w1 ⟨rfl,hf1⟩)
    go_ret
    exact ⟨by cases c<;>rfl,(nil0 _).then hf1⟩
  | true=>
   cases b with
   | false=>
    go_enter Tryz.func20,Tryz.ntmps20
    go_wp2_with (go_at_call 48;refine (hbase _).mono ?_;rintro e w1 ⟨rfl,hf1⟩)
    go_ret
    exact ⟨rfl,(nil0 _).then hf1⟩
   | true=>
    cases hasIndex with
    | false=>
     go_enter Tryz.func20,Tryz.ntmps20
     go_wp2_with (go_at_call 48;refine (hbase _).mono ?_;rintro e w1 ⟨rfl,hf1⟩;have hb1:=hf1.heap (heap_alloc_new w _) (fun x=>x);have k6:=(cell_of_row _ _ 6 _ _ (0,0) hb1);have k11:=(cell_of_row _ _ 11 _ _ (0,0) hb1);have k12:=(cell_of_row _ _ 12 _ _ (0,0) hb1);have k13:=(cell_of_row _ _ 13 _ _ (0,0) hb1);have k14:=(cell_of_row _ _ 14 _ _ (0,0) hb1);clear hb1;simp only [List.getElem?_toArray,List.getElem?_cons_succ,List.getElem?_cons_zero] at k6 k11 k12 k13 k14)
     go_ret
     exact ⟨rfl,(nil0 _).then hf1⟩
    | true=>
     go_enter Tryz.func20,Tryz.ntmps20
     go_wp2_with fail
     refine (hbase _).mono ?_
     rintro e w1 ⟨rfl,hf1⟩
     have hb1:=hf1.heap (heap_alloc_new w _) (fun x=>x)
     have k6:=cell_of_row _ _ 6 _ _ (0,0) hb1
     have k11:=cell_of_row _ _ 11 _ _ (0,0) hb1
     have k12:=cell_of_row _ _ 12 _ _ (0,0) hb1
     have k13:=cell_of_row _ _ 13 _ _ (0,0) hb1
     have k14:=cell_of_row _ _ 14 _ _ (0,0) hb1
     simp only [List.getElem?_toArray,List.getElem?_cons_succ,List.getElem?_cons_zero] at k6 k11 k12 k13 k14
     clear hb1
     go_wp2_with fail
     refine (hindex _).mono ?_
     rintro e w2 ⟨rfl,hf2⟩
     go_wp2
     go_ret
     exact ⟨by cases c<;>rfl,((nil0 _).then hf1).then hf2⟩
 by_cases h3:kind=3
 ·subst h3
  rw [if_neg (by decide),if_neg (by decide),if_pos rfl]
  generalize (conK con.kind).isSome=b at hcon
  go_enter Tryz.func20,Tryz.ntmps20
  go_wp2_with (go_at_call 49;refine (hcon _).mono ?_;rintro e w1 ⟨rfl,hf1⟩)
  go_ret
  exact ⟨rfl,((Fr.refl _ _).alloc _).then hf1⟩
 rw [if_neg h1,if_neg h2,if_neg h3]
 by_cases h4:kind=4
 ·subst h4
  rw [if_pos rfl]
  go_enter Tryz.func20,Tryz.ntmps20
  go_wp2
  go_ret
  exact ⟨rfl,(Fr.refl _ _).alloc _⟩
 by_cases h5:kind=5
 ·subst h5
  rw [if_neg (by decide),if_pos rfl]
  go_enter Tryz.func20,Tryz.ntmps20
  go_wp2
  go_ret
  exact ⟨rfl,(Fr.refl _ _).alloc _⟩
 rw [if_neg h4,if_neg h5]
 have e4:(kind == 4)=false:=by simp [h4]
 have e5:(kind == 5)=false:=by simp [h5]
 have e:(kind == 4 || kind == 5)=false:=by rw [e4,e5];rfl
 go_enter Tryz.func20,Tryz.ntmps20
 go_wp2
 go_ret
 show Ending.returned (Value.bool _)=_∧_
 refine ⟨congrArg (fun b=>Ending.returned (Value.bool b)) ?_,(Fr.refl _ _).alloc _⟩
 first | rfl | exact e5 | exact e
theorem irOps_calls (w:World) (s:SV) (ps:List PO) (h:POsAt w s ps) (hl:ps.length≤1048576):Calls Tryz.prog 101 #[s.val] w (GivesB w (ps.all okP)):=by
 obtain ⟨A,n,c⟩:=s
 have hps:=h
 obtain ⟨rfl,_⟩:n=ps.length∧_:=h
 simp only [SV.val]
 go_enter Tryz.func101,Tryz.ntmps101
 go_wp2
 go_loopg [7] ps.length (fun n c7 wr=>∃ k:Nat,k≤ps.length∧c7 = .int .i64 (k:Int)∧Hid ((ps.take k).all okP=true)∧Fr nope w wr∧n=ps.length - k)
 case atStart=>exact ⟨0,Nat.zero_le _,rfl,Lib.hid rfl,Fr.refl _ _,rfl⟩
 case round=>
  obtain ⟨k,hk,rfl,hall,hf,rfl⟩:=hrel
  by_cases hlt:k < ps.length
  ·obtain ⟨b,off,hAe,hbl,hc⟩:=(hps.nope hf).2 (by omega)
   simp only at hAe
   subst hAe
   obtain ⟨p,hok⟩:∃ p,ps[k]? = some p:=⟨_,List.getElem?_eq_getElem hlt⟩
   have hc:=hc k p hok
   have hT:=Lib.hid (take_snoc hok)
   have hpm:=List.mem_of_getElem? hok
   replace hpm:=Lib.hid hpm
   clear hok hps
   go_wp2_with (first
    | (refine wpList_load_mid rfl _ _ rfl b (off+k*24) rfl p.cells.toList _ hc Tryz.underlying45 rfl (by kernel_rfl) ?_)
    | (refine wpList_storeRow (b:=wr.heap.size) (cells:=p.cells) rfl rfl rfl rfl (heap_alloc_new _ _) rfl (by kernel_rfl) (by kernel_rfl) ?_;intro w2 hb2 hf2)
    | (refine wpList_loadRow (b:=wr.heap.size) (cells:=p.cells) rfl rfl rfl hb2 Tryz.underlying45 rfl (by kernel_rfl) ?_))
   have hn2:Fr nope wr w2:=((Fr.refl nope wr).alloc _).then_new hf2 (fun x hx e=>by omega)
   refine (OpOK_calls w2 p).mono ?_
   rintro e w3 ⟨rfl,hf3⟩
   have hf13:=(hf.then hn2).then hf3
   cases hb:okP p with
   | false=>
    go_wp2
    go_ret
    exact ⟨by rw [List.all_eq_false.2 ⟨p,hpm.out,by simp [hb]⟩];rfl,hf13⟩
   | true=>
    have hall':=Lib.hid (show (ps.take (k+1)).all okP=true by rw [hT.out,List.all_append,hall.out];simp [hb])
    go_wp2
    go_roundg (ps.length - (k+1))
    case measure=>omega
    case rel=>exact ⟨k+1,by omega,by go_num,hall',hf13,rfl⟩
  ·rw [take_all hlt] at hall
   go_wp2
   go_ret
   exact ⟨by rw [hall.out];rfl,hf⟩
theorem InstrOK_calls (w:World) (B:Nat) (p:PI) (h:p.At w B):Calls Tryz.prog 71 #[p.agg] w (GivesB w (okI p)):=by
 have hfew:=h.few
 have h1:∀ W,Fr nope w W→Calls Tryz.prog 101 #[p.opsV.val] W (GivesB W (p.ops.all okP)):=fun W hW=>irOps_calls W _ _ (h.ops.nope hW) (by omega)
 have h2:∀ W,Fr nope w W→Calls Tryz.prog 101 #[p.inpV.val] W (GivesB W (p.inp.all okP)):=fun W hW=>irOps_calls W _ _ (h.inp.nope hW) (by omega)
 have h3:∀ W,Fr nope w W→Calls Tryz.prog 101 #[p.outV.val] W (GivesB W (p.out.all okP)):=fun W hW=>irOps_calls W _ _ (h.out.nope hW) (by omega)
 unfold okI GivesB
 unfold GivesB at h1 h2 h3
 generalize p.ops.all okP=b1 at h1 ⊢
 generalize p.inp.all okP=b2 at h2 ⊢
 generalize p.out.all okP=b3 at h3 ⊢
 clear h hfew
 obtain ⟨opc,⟨A1,n1,c1⟩,suf,⟨A2,n2,c2⟩,ops,⟨A3,n3,c3⟩,inp,⟨A4,n4,c4⟩,out,term,br,cond,canc,⟨A5,n5,c5⟩,isa⟩:=p
 simp only [PI.agg,PI.cells,SV.val] at h1 h2 h3 ⊢
 have f0:=fun o=>(Fr.refl nope w).alloc o
 replace h1:=Lib.hid h1
 replace h2:=Lib.hid h2
 replace h3:=Lib.hid h3
 go_enter Tryz.func71,Tryz.ntmps71
 go_wp2_with fail
 refine (h1.out _ (f0 _)).mono ?_
 rintro e w1 ⟨rfl,hf1⟩
 have hb1:=hf1.heap (heap_alloc_new w _) (fun x=>x)
 have hc1:=fun j=>cell_of_row _ _ j _ _ (0,0) hb1
 cases b1 with
 | false=>
  go_wp2
  go_ret
  exact ⟨rfl,(f0 _).then hf1⟩
 | true=>
  go_wp2_with fail
  refine (h2.out _ ((f0 _).then hf1)).mono ?_
  rintro e w2 ⟨rfl,hf2⟩
  have hb2:=hf2.heap hb1 (fun x=>x)
  have hc2:=fun j=>cell_of_row _ _ j _ _ (0,0) hb2
  clear hc1
  cases b2 with
  | false=>
   go_wp2
   go_ret
   exact ⟨rfl,((f0 _).then hf1).then hf2⟩
  | true=>
   go_wp2_with fail
   refine (h3.out _ (((f0 _).then hf1).then hf2)).mono ?_
   rintro e w3 ⟨rfl,hf3⟩
   go_wp2
   go_ret
   exact ⟨by cases b3<;>rfl,(((f0 _).then hf1).then hf2).then hf3⟩
end
end Go.Proofs.YtpbeedabmjmdmaaGreatDoor
