/- Part of the proof of a statement about pub-berthage: what its texts have in common. -/
import Derived.Test.YtpbeedabmjmdmaaGreatDoorP24
namespace Go.Proofs.YtpbeedabmjmdmaaGreatDoor
section
open Go Go.RowKit Go.MapKept Bth
set_option maxRecDepth 100000
theorem insP_mem {ns:List PN} {p:PI} (h:p∈insP ns):∃ n∈ns,n.ins=p:=by
 obtain ⟨n,h1,h2⟩:=List.mem_map.1 h
 exact ⟨n,(List.mem_filter.1 h1).1,h2⟩
theorem Mt.each {fs:Nat→Option Nat} {ns:List PN} {nds:List Nd} {rs:List Rec} {cms:List (Nat × List ByteArray)} (hM:Mt fs ns nds rs cms) {r:Rec} (hr:r∈rs):∃ p∈insP ns,RMatch fs p r:=by
 obtain ⟨hl,hm⟩:=hM.match_
 obtain ⟨k,hk⟩:=List.mem_iff_getElem?.1 hr
 have hlt:k < (insP ns).length:=by rw [hl];exact (List.getElem?_eq_some_iff.1 hk).1
 exact ⟨_,List.getElem_mem hlt,hm k _ r (List.getElem?_eq_getElem hlt) hk⟩
structure Lens (r:Rec):Prop where
 ok:InsOk r
 ops:r.ops.length≤1048576
theorem lens_of {w w0:World} {wb B:Nat} {fs:Nat→Option Nat} (hW:WAt w wb fs) {s:SV} {ns:List PN} {nds:List Nd} {rs:List Rec} {cms:List (Nat × List ByteArray)} (hM:Mt fs ns nds rs cms) (hN:NodesAt w0 B s ns) (h:AFOk ns):∀ r∈rs,Lens r:=by
 intro r hr
 obtain ⟨p,hp,hm⟩:=hM.each hr
 obtain ⟨n,hn,rfl⟩:=insP_mem hp
 have hf:=(hN.each n hn).ins.few
 have h1:=pOps_len hm.ops
 have h2:=pOps_len hm.inp
 have h3:=pOps_len hm.out
 have h4:=(hm.regs hW (h.ops _ hp)).2.2.1
 refine ⟨⟨by omega,by omega,fun hc=>?_⟩,by omega⟩
 have h5:=h.canc _ hp (by rw [← hm.canc];exact hc)
 rw [← h4,List.length_map] at h5
 exact h5
theorem outs_sum {w:World} {wb:Nat} {fs:Nat→Option Nat} (hW:WAt w wb fs) {ns:List PN} {nds:List Nd} {rs:List Rec} {cms:List (Nat × List ByteArray)} (hM:Mt fs ns nds rs cms) (hp:∀ p∈insP ns,p.Ok):outsN rs rs.length=sumL (fun p=>(outGs p.out).length) (insP ns):=by
 unfold outsN sumL
 rw [List.take_length]
 congr 1
 obtain ⟨hl,hm⟩:=hM.match_
 refine List.ext_getElem? fun k=>?_
 rw [List.getElem?_map,List.getElem?_map]
 cases hr:rs[k]? with
 | none=>rw [List.getElem?_eq_none_iff] at hr;rw [List.getElem?_eq_none (by omega)];rfl
 | some r=>
  have hlt:k < (insP ns).length:=by rw [hl];exact (List.getElem?_eq_some_iff.1 hr).1
  have hpk:=List.getElem?_eq_getElem hlt
  rw [hpk,Option.map_some,Option.map_some,← ((hm k _ r hpk hr).regs hW (hp _ (List.getElem_mem hlt))).2.1,List.length_map]
theorem arin_of {w0 w:World} {wb:Nat} {fs:Nat→Option Nat} (hW:WAt w0 wb fs) {ns:List PN} {fb:Nat} {f:Fn} {nds:List Nd} {rs rs1:List Rec} {cms:List (Nat × List ByteArray)} {mm:Bool→Nat→Nat} {V:Sets} {sc scP:Nat→List (Option Nat)}
  (st:FState w fs ns fb f nds rs cms) (lv:Lv w rs mm V) (hl:nds.length≤1048576) (hlen:∀ r∈rs,Lens r) (h:AFOk ns) (hU:(flowOf rs1 sc).U=(flowP (insP ns) scP).U) (hn:(flowOf rs1 sc).n=rs.length) (hS:Sound (flowOf rs1 sc) V):
  ARIn w fs ns fb f nds rs cms mm V (flowP (insP ns) scP).U:=by
 have hM:=st.mt
 refine ⟨st,lv,hl,fun r hr=>⟨(hlen r hr).ok.2.1,(hlen r hr).ops⟩,fun r hr d hd=>?_,fun r hr d hd=>?_,fun i c hi hv=>?_,?_⟩
 ·obtain ⟨p,hp,hm⟩:=hM.each hr
  have:d.plain∈gsOf p.ops:=by rw [← (hm.regs hW (h.ops p hp)).1];exact List.mem_map_of_mem hd
  exact h.kinds p hp _ this
 ·obtain ⟨p,hp,hm⟩:=hM.each hr
  have:d.plain∈outGs p.out:=by rw [← (hm.regs hW (h.ops p hp)).2.1];exact List.mem_map_of_mem hd
  exact (hM.kinds hW h.ops d.kind).2 (h.outs p hp _ this)
 ·have h1:=hS.sup true i c (by rw [hn];exact hi) hv
  rw [hU] at h1
  refine ⟨h1,?_⟩
  obtain ⟨p,hp,h2⟩:=List.mem_flatMap.1 h1
  obtain ⟨g,hg,rfl⟩:=List.mem_map.1 h2
  refine G.id_lt ?_
  rcases inGs_mem hg with hg | hg
  ·exact gsOf_ok (h.ops p hp).inp g hg
  ·exact gsOf_ok (h.ops p hp).out g hg
 ·rw [outs_sum hW hM h.ops]
  have:(flowP (insP ns) scP).U.length=sumL (fun p=>(inGs p.canc p.inp p.out).length) (insP ns):=by
   show ((insP ns).flatMap fun p=>(inGs p.canc p.inp p.out).map G.id).length=_
   rw [len_flat]
   simp only [List.length_map]
  rw [this]
  exact h.few
theorem live_plain {w0:World} {wb:Nat} {fs:Nat→Option Nat} (hW:WAt w0 wb fs) {ns:List PN} {nds:List Nd} {rs:List Rec} {cms:List (Nat × List ByteArray)} (hM:Mt fs ns nds rs cms) (hp:∀ p∈insP ns,p.Ok) (hinj:∀ (j k:Nat) (a b:Rec),rs[j]? = some a→rs[k]? = some b→a.b=b.b→j=k)
  {sc scP:Nat→List (Option Nat)} (hsc:∀ k,k < rs.length→sc k=(scP k).map (blk (rs.map (·.b)))) {V:Sets} (hS:Sound (flowOf rs sc) V) (ho:∀ k,k < rs.length→closedOut (flowOf rs sc) V k) (hi:∀ k,k < rs.length→closedIn (flowOf rs sc) V k):
  ∀ i c b,i < rs.length→((V true i c).testBit b=true↔LiveOutP (insP ns) scP i c b):=by
 obtain ⟨h1,h2,h3,_,h5⟩:=flow_plain hW hM hp hinj hsc
 intro i c b hlt
 rw [(hS.exact ho hi hlt).2]
 have e1:(flowOf rs sc).reads=(flowP (insP ns) scP).reads:=by unfold Flow.reads;rw [h1,h2]
 have e2:(flowOf rs sc).writes=(flowP (insP ns) scP).writes:=by unfold Flow.writes;rw [h3]
 have e3:(flowOf rs sc).succ=(flowP (insP ns) scP).succ:=by funext i s;exact propext (h5 i s)
 rw [e1,e2,e3]
 exact Iff.rfl
theorem afres_of {w0 w:World} {wb:Nat} {fs:Nat→Option Nat} (hW:WAt w0 wb fs) {ns:List PN} {nds:List Nd} {rs:List Rec} {cms:List (Nat × List ByteArray)} (hM:Mt fs ns nds rs cms) (h:AFOk ns) {V:Sets} {scP:Nat→List (Option Nat)} (hG:GraphP ns scP)
  (hV:∀ i c b,i < rs.length→((V true i c).testBit b=true↔LiveOutP (insP ns) scP i c b)) {fb:Nat} {f:Fn} {e:Ending} {w':World} (hR:GivesRB w fb f rs V e w'):
  Fr (fun b=>b=fb) w w'∧((AFRes ns none∧∃ T v,e = .returned (.iface T v))∨∃ (u:Nat→Option Nat) (b:Nat),AFRes ns (some u)∧e = .returned .nilIface∧FnAt w' fb { f with al:=some b } ∧ IdMap w' b u∧w.heap.size≤b∧∀ D:List Nat,D.Nodup→(∀ v∈D,u v≠none)→D.length≤(allIds (insP ns)).length):=by
 obtain ⟨K,xs,hK,hA,hf,hR⟩:=hR
 have hc:∀ k∈K,∀ r,ColorOf (xs k) r→ColorP (insP ns) scP k r:=fun k hk r hr=>ColorP.of (hA k hk) hr (fun v=>hM.adds hW h.ops k v) (fun e=>hM.edges hW h.ops hV k e)
 have hK2:∀ k,k∈K↔kindsP (insP ns) k:=fun k=>(hK k).trans (hM.kinds hW h.ops k)
 refine ⟨hf,?_⟩
 rcases hR with ⟨⟨k,hk,h1⟩,h2⟩ | ⟨fk,b,h1,h2,h3,h4,h5⟩
 ·exact .inl ⟨.inr ⟨scP,k,hG,(hK2 k).1 hk,hc k hk _ h1⟩,h2⟩
 ·have hfk:∀ k,kindsP (insP ns) k→ColorP (insP ns) scP k (some (fk k)):=fun k hk=>hc k ((hK2 k).2 hk) _ (h1 k ((hK2 k).2 hk))
  refine .inr ⟨uni K fk,b,⟨scP,fk,hG,hfk,fun v=>⟨fun hk=>?_,fun hk=>?_⟩⟩,h2,h3,h4,h5,few_keys hfk fun v hv=>?_⟩
  ·unfold uni;rw [if_pos ((hK2 _).2 hk)]
  ·unfold uni;rw [if_neg (fun h=>hk ((hK2 _).1 h))]
  ·unfold uni at hv ⊢
   split at hv
   ·rename_i hk
    rw [if_pos hk]
    exact ⟨(hK2 _).1 hk,rfl⟩
   ·exact absurd rfl hv
def GivesAF (w:World) (ns:List PN) (e:Ending) (w':World):Prop:=
 Fr nope w w'∧((AFRes ns none∧e = .returned (.tuple #[.slice none 0 0,.bool false])) ∨
  ∃ (f:Nat→Option Nat) (A:Option Addr) (c:Nat) (l:List (Nat × Nat)),AFRes ns (some f)∧PairsOf f l∧l.length≤1000000000∧e = .returned (.tuple #[.slice A l.length c,.bool true])∧w'.ownsRow w.heap.size 29 2 (.slice A l.length c) l.length (l.flatMap pairV))
set_option maxHeartbeats 4000000 in
theorem AllocFn_calls (w:World) (s:SV) (ns:List PN) (hN:NodesAt w w.heap.size s ns) (h:AFOk ns):
  Calls Tryz.prog 17 #[.slice s.A s.n s.c] w (GivesAF w ns):=by
 have hfew:=hN.few
 go_enter Tryz.func17,Tryz.ntmps17
 go_wp2_with fail
 refine (newWorld_calls w).mono ?_
 rintro e w1 ⟨rfl,hW,hf1⟩
 have hN1:=hN.fr hf1 (fun _ _ x=>x)
 have hF:=function_calls w1 w.heap.size (fun _=>none) s ns hN1 hW
 have hl1:=hf1.size
 go_wp2_with fail
 refine hF.mono ?_
 rintro e w2 ⟨fs,hg,hW2,hf2,⟨fb,f,nds,rs,cms,hok,st,hfb,hbare,hfresh,rfl⟩ | ⟨hok,_⟩⟩
 rotate_left
 ·rw [h.ok] at hok;cases hok
 obtain ⟨A,c,hnn,_,_⟩:=own_slice st.nodes
 have hSn:Sl w2 A nds.length (nds.map Nd.val):=by have h:=st.nodes;rw [hnn] at h;exact own_Sl h
 have hnl:nds.length≤1048576:=by rw [st.mt.len];exact hfew
 have hLT:=LabelTarget_calls w2 fb f nds A c st.fn hnn hSn (by omega)
 have hwl:=lt_of_heap hW.1
 have hf02:Fr nope w w2:=hf1.then_new hf2 (fun x hx e=>by omega)
 have hsz2:=hf2.size
 unfold ptr at hLT ⊢
 have hfs3:∀ (w3:World) (mb:Nat),FnAt w3 fb { f with lt:=some mb } → Fr (fun b=>b=fb) w2 w3→FState w3 fs ns fb { f with lt:=some mb } nds rs cms:=fun w3 mb hv hf=>st.setFn hv rfl hf
 have htb:∀ t:ByteArray→Option Nat,ltRun nds=some ⟨t,[]⟩→∀ s b,t s=some b→∃ r∈rs,r.b=b:=by
  intro t ht s b hs
  have:=lt_targets ht s b hs
  rw [st.mt.insOf] at this
  obtain ⟨r,hr,e⟩:=List.mem_map.1 this
  exact ⟨r,hr,e⟩
 have hrb:∀ r∈rs,fb < r.b:=fun r hr=>Nat.lt_of_lt_of_le (st.recs r hr).2.1 (st.recs r hr).1.own.b1
 replace hfs3:=Lib.hid hfs3
 replace htb:=Lib.hid htb
 replace hrb:=Lib.hid hrb
 go_wp2_with fail
 refine hLT.mono ?_
 rintro e w3 (⟨t,mb,ht,rfl,hfn3,hM3,hmb,hf3⟩ | ⟨ht,⟨T,v,rfl⟩,hf3⟩)
 rotate_left
 ·go_wp2
  go_ret2
  exact ⟨hf02.then hf3,.inl ⟨.inl (graph_none st.mt ht),rfl⟩⟩
 have st3:=hfs3.out _ _ hfn3 hf3
 have hC:=CFG_calls w3 fs ns fb { f with lt:=some mb } nds rs cms mb t st3 hfresh rfl hM3 hnl (htb.out _ ht)
 have hf03:Fr nope w w3:=hf02.then_new hf3 (fun x hx e=>by omega)
 unfold ptr at hC
 have hsz3:=hf3.size
 go_wp2_with fail
 refine hC.mono ?_
 rintro e w4 ⟨hf4,hM4,⟨sc,rs1,X,hsc,rfl,hlk,st4,L4,hX⟩ | ⟨⟨k,r,hr,hno⟩,T,v,rfl⟩⟩
 rotate_left
 ·go_wp2
  go_ret2
  exact ⟨hf03.then_new hf4 (fun x hx ⟨r,hr,e⟩=>by have:=hrb.out r hr;omega),.inl ⟨.inl (graph_none2 st.mt ht hr hno),rfl⟩⟩
 have hrs1:rs1.length=rs.length:=hlk.1
 have hM1:=st4.mt
 have hbs1:=hlk.bs
 obtain ⟨scP,hG,hblk⟩:=graph_some st.mt ht hsc
 have hinj1:∀ (j k:Nat) (a b:Rec),rs1[j]? = some a→rs1[k]? = some b→a.b=b.b→j=k:=fun j k a b h1 h2 h3=>st4.inj h1 h2 h3
 have hblk1:∀ k,k < rs1.length→sc k=(scP k).map (blk (rs1.map (·.b))):=fun k hk=>by rw [hbs1];exact hblk k (by omega)
 have hpl:=flow_plain hW2 hM1 h.ops hinj1 hblk1
 have hLv:=Liveness_calls w4 fs ns fb { f with lt:=some mb } nds rs1 cms w3.heap.size X sc st4 L4 (fun k hk=>hX.1 k (by omega)) (fun r hr=>(lens_of hW2 hM1 hN h r hr).ok)
  (fun k b hk hb=>by
   have hk':k < rs.length:=by omega
   have h1:=succK_mem (hsc k _ (List.getElem?_eq_getElem hk')) hb fun s b hs=>by
    obtain ⟨r,hr,e⟩:=htb.out _ ht s b hs
    exact List.mem_map.2 ⟨r,hr,e⟩
   rw [← hbs1] at h1
   obtain ⟨r,hr,e⟩:=List.mem_map.1 h1
   exact ⟨r,hr,e⟩)
  (fun k hk=>succK_le (hsc k _ (List.getElem?_eq_getElem (show k < rs.length by omega)))) hnl
 have hrb1:∀ r∈rs1,fb < r.b:=fun r hr=>Nat.lt_of_lt_of_le (st4.recs r hr).2.1 (st4.recs r hr).1.own.b1
 have hf04:Fr nope w w4:=hf03.then_new hf4 (fun x hx ⟨r,hr,e⟩=>by have:=hrb.out r hr;omega)
 have hsz4:=hf4.size
 replace hrb1:=Lib.hid hrb1
 replace hpl:=Lib.hid hpl
 replace hinj1:=Lib.hid hinj1
 replace hblk1:=Lib.hid hblk1
 replace hblk:=Lib.hid hblk
 replace hsc:=Lib.hid hsc
 replace hbs1:=Lib.hid hbs1
 replace hrs1:=Lib.hid hrs1
 clear hX
 unfold ptr at hLv
 go_wp2_with fail
 refine hLv.mono ?_
 rintro e w5 ⟨rfl,hf5,rs2,mm,V,hlk2,st5,_,lv5,hS,ho,hi⟩
 have hV1:=live_plain hW2 hM1 h.ops hinj1.out hblk1.out hS ho hi
 have hrs2:rs2.length=rs1.length:=hlk2.1
 have hA:=arin_of hW2 st5 lv5 hnl (lens_of hW2 st5.mt hN h) h hpl.out.2.2.2.1 (by show rs1.length=rs2.length;rw [hrs2]) hS
 have hR:=AllocRegs_calls w5 fs ns fb { f with lt:=some mb } nds rs2 cms mm V _ hA
 have hM2:=st5.mt
 have hf05:Fr nope w w5:=hf04.then_new hf5 (fun x hx ⟨r,hr,e⟩=>by have:=hrb1.out r hr;omega)
 have hsz5:=hf5.size
 have hV2:∀ i c b,i < rs2.length→((V true i c).testBit b=true↔LiveOutP (insP ns) scP i c b):=fun i c b hi=>hV1 i c b (by omega)
 clear hV1 ho hi hS
 replace hV2:=Lib.hid hV2
 replace hrs2:=Lib.hid hrs2
 replace hlk2:=Lib.hid hlk2
 unfold ptr at hR
 go_wp2_with fail
 refine hR.mono ?_
 intro e w6 hGR
 obtain ⟨hf6,⟨hno,T,v,rfl⟩ | ⟨u,b,hres,rfl,hfn6,hid6,hb6,hkeys⟩⟩:=afres_of hW2 hM2 h hG hV2.out hGR
 ·go_wp2
  go_ret2
  exact ⟨hf05.then_new hf6 (fun x hx e=>by omega),.inl ⟨hno,rfl⟩⟩
 have hP:=plainAlloc_calls w6 b u hid6 _ hkeys (by rw [allIds_len];exact h.few2)
 have hf06:Fr nope w w6:=hf05.then_new hf6 (fun x hx e=>by omega)
 have hsz6:=hf6.size
 have hc7:=FnAt.c7 hfn6
 have hal:=allIds_len (insP ns)
 simp only at hc7
 clear hGR
 replace hkeys:=Lib.hid hkeys
 go_wp2_with fail
 refine hP.mono ?_
 rintro e w7 ⟨hf7,A7,c7,l,hpr,rfl,hown⟩
 go_wp2
 go_ret2
 refine ⟨hf06.then hf7,.inr ⟨u,A7,c7,l,hres,hpr,?_,rfl,own_le hown (by omega)⟩⟩
 have hlen:l.length≤(allIds (insP ns)).length:=by
  have h1:(l.map (·.1)).Nodup:=by
   have:=hpr.2.imp (S:=fun a b:Nat × Nat=>a.1≠b.1) fun {a b} hab=>by omega
   exact List.pairwise_map.2 this
  have h2:=hkeys.out (l.map (·.1)) h1 fun v hv=>by
   obtain ⟨p,hp,rfl⟩:=List.mem_map.1 hv
   rw [(hpr.1 p).1 hp];simp
  rwa [List.length_map] at h2
 exact Nat.le_trans hlen (by rw [hal];exact h.few2)
end
section
open Go Go.RowKit Bth
set_option maxRecDepth 100000
def Found (w:World) (g:G) (o:Option R):Prop:=o.isSome=okG g∧∀ r,o=some r→r.plain=g∧r.Ok∧r.At w
def GivesPR (w:World) (g:G) (e:Ending) (w':World):Prop:=∃ o:Option R,e = .returned (optV o)∧Fr nope w w'∧Found w' g o
theorem Found.fr {w w':World} {g:G} {o:Option R} (h:Found w g o) (hf:Fr nope w w'):Found w' g o:=⟨h.1,fun r hr=>⟨(h.2 r hr).1,(h.2 r hr).2.1,(h.2 r hr).2.2.nope hf⟩⟩
theorem LookupPhysical_calls (w:World) (k i s:Nat) (hk8:k < 256):Calls Tryz.prog 177 #[.int .u8 (k:Int),.int .u16 (i:Int),.int .u16 (s:Int)] w (GivesPR w ⟨false,k,i,s⟩):=by
 unfold GivesPR
 by_cases hk:k≤3
 ·go_enter Tryz.func177,Tryz.ntmps177
  go_wp2_with (first
   | (go_at_call 81;refine (FamilyOfKind_calls _ k hk).mono ?_;rintro e w1 ⟨rfl,v,hF,hO,hf⟩)
   | (go_at_call 188;refine (Lookup_calls _ w.heap.size k v _ (famRegs w.heap.size k) i s hF hO (fun r hr=>(famRegs_ok hk r hr).1) (by have:=famRegs_len w.heap.size k;omega)).mono ?_;rintro e w3 ⟨rfl,hf3⟩))
  go_ret
  refine ⟨_,rfl,hf.then hf3,?_,fun r hr=>?_⟩
  ·rw [pickR_some _ _ _ _ hk];simp [okG,hk]
  ·have hm:=List.mem_of_find?_eq_some hr
   have hq:=List.find?_some hr
   simp only [Bool.and_eq_true,beq_iff_eq] at hq
   obtain ⟨e1,e2,e3,e4⟩:=famRegs_ok hk r hm
   refine ⟨by unfold R.plain;rw [e1,e3,hq.1,hq.2],e4,(FamAt.reg hF r e2 e3).nope hf3⟩
 ·go_enter Tryz.func177,Tryz.ntmps177
  go_wp2_with (go_at_call 81;refine (FamilyOfKind_none _ k (by omega)).mono ?_;rintro e w1 ⟨rfl,hf⟩)
  go_ret
  refine ⟨none,rfl,hf,?_,fun r hr=>(by cases hr)⟩
  simp [okG,hk]
def FoundID (w:World) (id s:Nat) (o:Option R):Prop:=(isV id=true→o=none)∧(isV id=false→Found w ⟨false,kindOf id,indexOf id,s⟩ o)
theorem FoundID.fr {w w':World} {id s:Nat} {o:Option R} (h:FoundID w id s o) (hf:Fr nope w w'):FoundID w' id s o:=⟨h.1,fun hv=>(h.2 hv).fr hf⟩
theorem LookupID_calls (w:World) (id s:Nat) (hid:id < 4294967296):Calls Tryz.prog 162 #[.int .u32 (id:Int),.int .u16 (s:Int)] w fun e w'=>∃ o,e = .returned (optV o)∧Fr nope w w'∧FoundID w' id s o:=by
 have hV:=fun W=>IsVirtual_calls W id hid
 cases hv:isV id with
 | true=>
  rw [hv] at hV
  go_enter Tryz.func162,Tryz.ntmps162
  go_wp2_with (go_at_call 115;refine (hV _).mono ?_;rintro e w1 ⟨rfl,rfl⟩)
  go_ret
  exact ⟨none,rfl,Fr.refl _ _,fun _=>rfl,fun h=>(by rw [hv] at h;cases h)⟩
 | false=>
  rw [hv] at hV
  go_enter Tryz.func162,Tryz.ntmps162
  go_wp2_with (first
   | (go_at_call 115;refine (hV _).mono ?_;rintro e w1 ⟨rfl,rfl⟩)
   | (go_at_call 117;refine (IDKind_calls _ id).mono ?_;rintro e w1 ⟨rfl,rfl⟩)
   | (go_at_call 178;refine (IDIndex_calls _ id).mono ?_;rintro e w1 ⟨rfl,rfl⟩)
   | (go_at_call 177;refine (LookupPhysical_calls _ (kindOf id) (indexOf id) s (by unfold kindOf;omega)).mono ?_;rintro e w2 ⟨o,rfl,hf2,hF⟩))
  go_ret
  exact ⟨o,rfl,hf2,fun h=>(by rw [hv] at h;cases h),fun _=>hF⟩
def bindG (f:Nat→Option Nat) (g:G):G:=
 if g.virt then match f g.id with
  | none=>g
  | some p=>if isV p then g else if okG ⟨false,kindOf p,indexOf p,g.spec⟩ then ⟨false,kindOf p,indexOf p,g.spec⟩ else g
 else g
def Bound (w:World) (f:Nat→Option Nat) (r r':R):Prop:=r'.plain=bindG f r.plain∧r'.Ok∧r'.At w
theorem Bound.fr {w w':World} {f:Nat→Option Nat} {r r':R} (h:Bound w f r r') (hf:Fr nope w w'):Bound w' f r r':=⟨h.1,h.2.1,h.2.2.nope hf⟩
def small (f:Nat→Option Nat):Prop:=∀ v p,f v=some p→p < 4294967296
theorem LookupRegister_calls (w:World) (b:Nat) (f:Nat→Option Nat) (hb:IdMap w b f) (hs:small f) (r:R) (ok:r.Ok) (hat:r.At w):
  Calls Tryz.prog 130 #[.map (some b),r.val] w fun e w'=>∃ o:Option R,e = .returned (optV o)∧Fr nope w w'∧Bound w' f r (o.getD r):=by
 have hTP:=fun W=>ToPhysical_calls W r
 obtain ⟨T,v,hrv⟩:=r.val_iface
 cases hv:r.virt with
 | false=>
  simp only [hv,Bool.false_eq_true,if_false] at hTP
  rw [hrv] at hTP ⊢
  go_enter Tryz.func130,Tryz.ntmps130
  go_wp2_with (go_at_call 64;refine (hTP _).mono ?_;rintro e w1 ⟨rfl,rfl⟩)
  go_ret
  refine ⟨some r,by simp only [optV];rw [hrv];rfl,Fr.refl _ _,?_,ok,hat⟩
  show r.plain=_
  have:r.plain.virt=false:=hv
  unfold bindG;rw [this];rfl
 | true=>
  simp only [hv,if_true] at hTP
  have hl:=hb.look2 r.id
  have hbl:=hb.lt
  have hbg:bindG f r.plain=match f r.id with
    | none=>r.plain
    | some p=>if isV p then r.plain else if okG ⟨false,kindOf p,indexOf p,r.spec⟩ then ⟨false,kindOf p,indexOf p,r.spec⟩ else r.plain:=by
   have:r.plain.virt=true:=hv
   unfold bindG;rw [this];rfl
  replace hbg:=Lib.hid hbg
  cases hf:f r.id with
  | none=>
   simp only [hf,Option.isSome_none] at hl
   have hl':∀ W,Fr nope w W→(Instr.lookup 77 (.map (some b)) (.int .u32 (r.id:Int)) true).run Tryz.prog W = .ok (.tuple #[.int .u32 (((none:Option Nat).getD 0:Nat):Int),.bool false]) W:=fun W hW=>by
    have:=(hb.fr hW (fun x=>x)).look2 r.id
    rw [hf] at this
    exact this
   simp only [Option.getD_none] at hl'
   replace hf:=Lib.hid hf
   rw [hrv] at hTP ⊢
   go_enter Tryz.func130,Tryz.ntmps130
   go_wp2_with (first
    | (go_at_call 64;refine (hTP _).mono ?_;rintro e w1 ⟨rfl,rfl⟩)
    | (refine wpList_ID (r:=r) rfl rfl hrv.symm ok hat ?_;intro w2 hf2;have hl2:=hl' _ hf2))
   go_ret
   exact ⟨none,rfl,hf2,by rw [hbg.out,hf.out];rfl,ok,hat.nope hf2⟩
  | some p=>
   have hl':∀ W,Fr nope w W→(Instr.lookup 77 (.map (some b)) (.int .u32 (r.id:Int)) true).run Tryz.prog W = .ok (.tuple #[.int .u32 (p:Int),.bool true]) W:=fun W hW=>by
    have:=(hb.fr hW (fun x=>x)).look2 r.id
    rw [hf] at this
    exact this
   have hL:=fun W=>LookupID_calls W p r.spec (hs _ p hf)
   replace hf:=Lib.hid hf
   rw [hrv] at hTP ⊢
   go_enter Tryz.func130,Tryz.ntmps130
   go_wp2_with (first
    | (go_at_call 64;refine (hTP _).mono ?_;rintro e w1 ⟨rfl,rfl⟩)
    | (refine wpList_ID (r:=r) rfl rfl hrv.symm ok hat ?_;intro w2 hf2;have hl2:=hl' _ hf2)
    | (refine wpList_spec (r:=r) rfl rfl hrv.symm ?_;intro w3 hf3)
    | (go_at_call 162;refine (hL _).mono ?_;rintro e w4 ⟨o,rfl,hf4,hF⟩))
   go_ret
   refine ⟨o,rfl,(hf2.then hf3).then hf4,?_⟩
   have hbg2:=hbg.out
   rw [hf.out] at hbg2
   simp only at hbg2
   have hr4:r.At w4:=((hat.nope hf2).nope hf3).nope hf4
   cases hip:isV p with
   | true=>
    rw [hF.1 hip]
    exact ⟨by rw [hbg2,if_pos hip];rfl,ok,hr4⟩
   | false=>
    have hFo:=hF.2 hip
    rw [if_neg (by rw [hip];simp)] at hbg2
    cases o with
    | none=>exact ⟨by rw [hbg2,← hFo.1];rfl,ok,hr4⟩
    | some r'=>
     obtain ⟨g1,g2,g3⟩:=hFo.2 r' rfl
     exact ⟨by rw [hbg2,← hFo.1];exact g1,g2,g3⟩
theorem LookupRD_calls (w:World) (b:Nat) (f:Nat→Option Nat) (hb:IdMap w b f) (hs:small f) (r:R) (ok:r.Ok) (hat:r.At w):
  Calls Tryz.prog 96 #[.map (some b),r.val] w fun e w'=>∃ r',e = .returned (R.val r')∧Fr nope w w'∧Bound w' f r r':=by
 have hL:=LookupRegister_calls w b f hb hs r ok hat
 obtain ⟨T,v,hrv⟩:=r.val_iface
 rw [hrv] at hL ⊢
 go_enter Tryz.func96,Tryz.ntmps96
 go_wp2_with fail
 refine hL.mono ?_
 rintro e w1 ⟨o,rfl,hf,hB⟩
 cases o with
 | none=>
  simp only [optV]
  go_wp2
  go_ret
  exact ⟨r,by rw [hrv];rfl,hf,hB⟩
 | some r'=>
  obtain ⟨T',v',hrv'⟩:=r'.val_iface
  simp only [optV,hrv']
  go_wp2
  go_ret
  exact ⟨r',by rw [hrv'];rfl,hf,hB⟩
theorem LookupRD_nil (w:World) (b:Nat):
  Calls Tryz.prog 96 #[.map (some b),.nilIface] w fun e w'=>e = .returned .nilIface∧w'=w:=by
 go_enter Tryz.func96,Tryz.ntmps96
 go_wp2
 go_ret
 exact ⟨rfl,rfl⟩
end
section
open Go Go.RowKit Bth
set_option maxRecDepth 100000
def BoundX (w:World) (f:Nat→Option Nat):Option R→Option R→Prop
 | none,none=>True
 | some r,some r'=>Bound w f r r'
 | _,_=>False
theorem BoundX.fr {w w':World} {f:Nat→Option Nat} {r r':Option R} (h:BoundX w f r r') (hf:Fr nope w w'):BoundX w' f r r':=by
 cases r<;>cases r'
 ·trivial
 ·exact h
 ·exact h
 ·exact Bound.fr h hf
def famT:List TypeId:=[212]
theorem Bound.frT {S:Nat→Prop} {w w':World} {f:Nat→Option Nat} {r r':R} (h:Bound w f r r') (hf:Fr S w w') (hs:NoT famT w S):Bound w' f r r':=⟨h.1,h.2.1,h.2.2.frT hf hs (by decide)⟩
theorem BoundX.frT {S:Nat→Prop} {w w':World} {f:Nat→Option Nat} {r r':Option R} (h:BoundX w f r r') (hf:Fr S w w') (hs:NoT famT w S):BoundX w' f r r':=by
 cases r<;>cases r'
 ·trivial
 ·exact h
 ·exact h
 ·exact Bound.frT h hf hs
theorem LookupRX_calls (w:World) (b:Nat) (f:Nat→Option Nat) (hb:IdMap w b f) (hs:small f) (x:Option R) (hx:∀ r,x=some r→r.Ok∧r.At w):
  Calls Tryz.prog 96 #[.map (some b),optV x] w fun e w'=>∃ x',e = .returned (optV x')∧Fr nope w w'∧BoundX w' f x x':=by
 cases x with
 | none=>
  refine (LookupRD_nil w b).mono ?_
  rintro e w' ⟨rfl,rfl⟩
  exact ⟨none,rfl,Fr.refl _ _,trivial⟩
 | some r=>
  obtain ⟨ok,hat⟩:=hx r rfl
  refine (LookupRD_calls w b f hb hs r ok hat).mono ?_
  rintro e w' ⟨r',rfl,hf,hB⟩
  exact ⟨some r',rfl,hf,hB⟩
def BoundM (w:World) (f:Nat→Option Nat) (m m':M):Prop:=∃ x y,m' = { m with base:=x,index:=y } ∧ BoundX w f m.base x∧BoundX w f m.index y
set_option maxHeartbeats 1000000 in
theorem Apply_mem (w:World) (b:Nat) (f:Nat→Option Nat) (hb:IdMap w b f) (hs:small f) (m:M) (hm:∀ r∈m.regs,r.Ok∧r.At w):
  Calls Tryz.prog 59 #[O.val (.mem m),.map (some b)] w fun e w'=>∃ m',e = .returned (O.val (.mem m'))∧Fr nope w w'∧BoundM w' f m m':=by
 have h1:∀ W,(Instr.typeAssert (O.val (.mem m)) 132 145 true).run Tryz.prog W = .ok (.tuple #[.nilIface,.bool false]) W:=fun W=>O.ta_Register W _ (.mem m)
 have h2:∀ W,(Instr.typeAssert (O.val (.mem m)) 132 197 true).run Tryz.prog W = .ok (.tuple #[m.agg,.bool true]) W:=fun W=>O.ta_Mem W _ (.mem m)
 obtain ⟨sym,st,d,x,y,sc⟩:=m
 have hLx:=fun W hb hx=>LookupRX_calls W b f hb hs x hx
 have hLy:=fun W hb hx=>LookupRX_calls W b f hb hs y hx
 have hxm:∀ W,Fr nope w W→∀ r,x=some r→r.Ok∧r.At W:=fun W hW r hr=>by
  have:=hm r (by simp [M.regs,hr])
  exact ⟨this.1,this.2.nope hW⟩
 have hym:∀ W,Fr nope w W→∀ r,y=some r→r.Ok∧r.At W:=fun W hW r hr=>by
  have:=hm r (by simp [M.regs,hr])
  exact ⟨this.1,this.2.nope hW⟩
 have hbl:=hb.lt
 have hcx:=optV_cases x
 have hcy:=optV_cases y
 simp only [O.val] at h1 h2 ⊢
 rw [M.agg] at h1 h2 ⊢
 simp only at h1 h2 ⊢
 replace hxm:=Lib.hid hxm
 replace hym:=Lib.hid hym
 have hvx:Hid (optV x=optV x):=Lib.hid rfl
 have hvy:Hid (optV y=optV y):=Lib.hid rfl
 generalize hx0:optV x=vx at h1 h2 hLx hcx ⊢
 generalize hy0:optV y=vy at h1 h2 hLy hcy ⊢
 replace hx0:=Lib.hid hx0
 replace hy0:=Lib.hid hy0
 rcases hcx with rfl | ⟨Tx,ux,rfl⟩<;>rcases hcy with rfl | ⟨Ty,uy,rfl⟩
 all_goals
  go_enter Tryz.func59,Tryz.ntmps59
  go_wp2_with fail
  have hf1:∀ c,Fr nope w (w.alloc c):=fun c=>(Fr.refl nope w).alloc c
  refine (hLx _ (hb.fr (hf1 _) (fun x=>x)) (hxm.out _ (hf1 _))).mono ?_
  rintro e w2 ⟨x',rfl,hf2,hX⟩
  have hb2:=hf2.heap (heap_alloc_new w _) (fun x=>x)
  have hl2:=lt_of_heap hb2
  have hc2:=fun j=>cell_of_row _ _ j _ _ (0,0) hb2
  have hz2:=frozen_row hb2
  have hf02:=(hf1 _).then hf2
  have hcx':=optV_cases x'
  generalize hx1:optV x'=vx' at hcx' ⊢
  replace hx1:=Lib.hid hx1
  clear hf1
  have hb3:=setCell_heap (k:=3) hb2 vx'
  have hs3:Fr (fun c=>c=w.heap.size) w2 (w2.setCell ⟨w.heap.size,3,none⟩ vx'):=(Fr.refl (fun x=>x=w.heap.size) w2).setCell (.inl rfl) _
  have hf3:Fr nope w (w2.setCell ⟨w.heap.size,3,none⟩ vx'):=hf02.then_new hs3 (fun x hx e=>by omega)
  have hc3:=fun j=>cell_of_row _ _ j _ _ (0,0) hb3
  have hz3:=frozen_row hb3
  have hl3:=lt_of_heap hb3
  rcases hcx' with rfl | ⟨Tx',ux',rfl⟩
  all_goals
   go_wp2_with fail
   refine (hLy _ (hb.fr hf3 (fun x=>x)) (hym.out _ hf3)).mono ?_
   rintro e w4 ⟨y',rfl,hf4,hY⟩
   have hb4:=hf4.heap hb3 (fun x=>x)
   have hl4:=lt_of_heap hb4
   have hc4:=fun j=>cell_of_row _ _ j _ _ (0,0) hb4
   have hz4:=frozen_row hb4
   have hf04:=hf3.then hf4
   have hcy':=optV_cases y'
   generalize hy1:optV y'=vy' at hcy' ⊢
   replace hy1:=Lib.hid hy1
   have hb5:=setCell_heap (k:=4) hb4 vy'
   have hs5:Fr (fun c=>c=w.heap.size) w4 (w4.setCell ⟨w.heap.size,4,none⟩ vy'):=(Fr.refl (fun x=>x=w.heap.size) w4).setCell (.inl rfl) _
   have hf5:Fr nope w (w4.setCell ⟨w.heap.size,4,none⟩ vy'):=hf04.then_new hs5 (fun x hx e=>by omega)
   have hc5:=fun j=>cell_of_row _ _ j _ _ (0,0) hb5
   have hz5:=frozen_row hb5
   have hl5:=lt_of_heap hb5
   rcases hcy' with rfl | ⟨Ty',uy',rfl⟩
   all_goals
    go_wp2
    go_ret
    exact ⟨⟨sym,st,d,x',y',sc⟩,by simp only [M.agg,hx1.out,hy1.out];rfl,hf5,x',y',rfl,((hX.frT hs3 (.one hb2 (by decide))).fr hf4).frT hs5 (.one hb4 (by decide)),hY.frT hs5 (.one hb4 (by decide))⟩
theorem Apply_reg (w:World) (b:Nat) (f:Nat→Option Nat) (hb:IdMap w b f) (hs:small f) (r:R) (ok:r.Ok) (hat:r.At w):
  Calls Tryz.prog 59 #[O.val (.reg r),.map (some b)] w fun e w'=>∃ r',e = .returned (O.val (.reg r'))∧Fr nope w w'∧Bound w' f r r':=by
 have h1:∀ W,(Instr.typeAssert (O.val (.reg r)) 132 145 true).run Tryz.prog W = .ok (.tuple #[r.val,.bool true]) W:=fun W=>O.ta_Register W _ (.reg r)
 have hL:=LookupRD_calls w b f hb hs r ok hat
 simp only [O.val] at h1 ⊢
 obtain ⟨T,v,hrv⟩:=r.val_iface
 rw [hrv] at h1 hL ⊢
 go_enter Tryz.func59,Tryz.ntmps59
 go_wp2_with fail
 refine hL.mono ?_
 rintro e w1 ⟨r',rfl,hf,hB⟩
 obtain ⟨T',v',hrv'⟩:=r'.val_iface
 rw [hrv']
 go_wp2
 go_ret
 exact ⟨r',by rw [hrv'];rfl,hf,hB⟩
theorem Apply_other (w:World) (b:Nat) (o:O) (h:o.isReg=false) (h':o.isMem=false):
  Calls Tryz.prog 59 #[o.val,.map (some b)] w fun e w'=>e = .returned o.val∧Fr nope w w':=by
 have h1:=fun W=>O.ta_Register W 132 o
 have h2:=fun W=>O.ta_Mem W 132 o
 obtain ⟨s,st,d,x,y,sc,hm,hx,hy⟩:=o.memAgg_cases
 obtain ⟨T,v,hv⟩:=o.val_iface
 rw [hv,h] at h1
 rw [hv,h',hm] at h2
 simp only [Bool.false_eq_true,if_false] at h1
 rw [hv]
 clear hm hv
 rcases hx with rfl | ⟨T1,v1,rfl⟩<;>rcases hy with rfl | ⟨T2,v2,rfl⟩
 all_goals
  go_enter Tryz.func59,Tryz.ntmps59
  go_wp2
  go_ret
  exact ⟨rfl,Fr.refl _ _⟩
def BoundO (w:World) (f:Nat→Option Nat):O→O→Prop
 | .reg r,.reg r'=>Bound w f r r'
 | .mem m,.mem m'=>BoundM w f m m'
 | .con c,.con c'=>c'=c
 | .label s,.label s'=>s'=s
 | .rel n,.rel n'=>n'=n
 | _,_=>False
theorem Apply_calls (w:World) (b:Nat) (f:Nat→Option Nat) (hb:IdMap w b f) (hs:small f) (o:O) (ho:∀ r∈o.regs,r.Ok∧r.At w):
  Calls Tryz.prog 59 #[o.val,.map (some b)] w fun e w'=>∃ o',e = .returned (O.val o')∧Fr nope w w'∧BoundO w' f o o':=by
 cases o with
 | reg r=>
  obtain ⟨ok,hat⟩:=ho r (by simp [O.regs])
  refine (Apply_reg w b f hb hs r ok hat).mono ?_
  rintro e w' ⟨r',rfl,hf,hB⟩
  exact ⟨.reg r',rfl,hf,hB⟩
 | mem m=>
  refine (Apply_mem w b f hb hs m ho).mono ?_
  rintro e w' ⟨r',rfl,hf,hB⟩
  exact ⟨.mem r',rfl,hf,hB⟩
 | con c=>
  refine (Apply_other w b _ rfl rfl).mono ?_
  rintro e w' ⟨rfl,hf⟩
  exact ⟨.con c,rfl,hf,rfl⟩
 | label c=>
  refine (Apply_other w b _ rfl rfl).mono ?_
  rintro e w' ⟨rfl,hf⟩
  exact ⟨.label c,rfl,hf,rfl⟩
 | rel c=>
  refine (Apply_other w b _ rfl rfl).mono ?_
  rintro e w' ⟨rfl,hf⟩
  exact ⟨.rel c,rfl,hf,rfl⟩
end
section
open Go Go.RowKit Bth
set_option maxRecDepth 100000
def BX (f:Nat→Option Nat):Option R→Option R→Prop
 | none,none=>True
 | some r,some r'=>r'.plain=bindG f r.plain
 | _,_=>False
def BO (f:Nat→Option Nat):O→O→Prop
 | .reg r,.reg r'=>r'.plain=bindG f r.plain
 | .mem m,.mem m'=>∃ x y,m' = { m with base:=x,index:=y } ∧ BX f m.base x∧BX f m.index y
 | .con c,.con c'=>c'=c
 | .label s,.label s'=>s'=s
 | .rel n,.rel n'=>n'=n
 | _,_=>False
theorem BoundX.bx {w:World} {f:Nat→Option Nat} {x y:Option R} (h:BoundX w f x y):BX f x y∧∀ r,y=some r→r.Ok∧r.At w:=by
 cases x<;>cases y
 ·exact ⟨trivial,fun r h=>(by cases h)⟩
 ·exact h.elim
 ·exact h.elim
 ·exact ⟨h.1,fun r e=>by injection e with e;subst e;exact h.2⟩
theorem BoundO.bo {w:World} {f:Nat→Option Nat} {o o':O} (h:BoundO w f o o'):BO f o o'∧o'.At w:=by
 cases o<;>cases o'<;>try exact h.elim
 ·refine ⟨h.1,fun r hr=>?_⟩
  obtain rfl:=List.mem_singleton.1 hr
  exact h.2
 ·obtain ⟨x,y,rfl,h1,h2⟩:=h
  refine ⟨⟨x,y,rfl,h1.bx.1,h2.bx.1⟩,fun r hr=>?_⟩
  have hr:r∈x.toList ++ y.toList:=hr
  simp only [List.mem_append,Option.mem_toList] at hr
  rcases hr with hr | hr
  ·exact h1.bx.2 r hr
  ·exact h2.bx.2 r hr
 all_goals exact ⟨h,fun r hr=>by cases hr⟩
theorem ApplyB_calls (w:World) (b:Nat) (f:Nat→Option Nat) (hb:IdMap w b f) (hs:small f) (o:O) (ho:o.At w):
  Calls Tryz.prog 59 #[o.val,.map (some b)] w fun e w'=>∃ o',e = .returned (O.val o')∧Fr nope w w'∧BO f o o'∧o'.At w':=by
 refine (Apply_calls w b f hb hs o ho).mono ?_
 rintro e w' ⟨o',rfl,hf,hB⟩
 exact ⟨o',rfl,hf,hB.bo⟩
def Rec.row (r:Rec):Nat→List O
 | 0=>r.ops
 | 1=>r.inp
 | _=>r.out
def Rec.setRow (r:Rec) (p:Nat) (l:List O):Rec:=match p with
 | 0=>{ r with ops:=l }
 | 1=>{ r with inp:=l }
 | _=>{ r with out:=l }
def Ins.rowV (i:Ins):Nat→SV
 | 0=>i.ops
 | 1=>i.inp
 | _=>i.out
def RowB (r:Rec) (c:Nat):Prop:=∃ p,p < 3∧(r.i.rowV p).val.ownBlock=some c
theorem Rec.At.rowOwn {w:World} {r:Rec} (h:r.At w) (p:Nat):w.ownsRow r.lo 132 1 (r.i.rowV p).val (r.row p).length ((r.row p).map O.val):=by
 match p with
 | 0=>exact h.own.ops
 | 1=>exact h.own.inp
 | _+2=>exact h.own.out
theorem Rec.At.rowAts {w:World} {r:Rec} (h:r.At w) (p:Nat):∀ o∈r.row p,o.At w:=by
 match p with
 | 0=>exact h.ats.1
 | 1=>exact h.ats.2.1
 | _+2=>exact h.ats.2.2
theorem Rec.At.noT {w:World} {r:Rec} (h:r.At w):NoT [84,135,139,130,9,212] w (RowB r):=by
 have key:∀ p,NoT [84,135,139,130,9,212] w (fun c=>(r.i.rowV p).val.ownBlock=some c):=fun p=>NoT.own (h.rowOwn p) (by decide)
 rintro b cs t fr ⟨p,_,hp⟩
 exact key p b cs t fr hp
theorem Rec.At.noMap {w:World} {r:Rec} (h:r.At w) {b:Nat} {es:Array MapEntry} {cl:Nat} (hm:w.heap[b]? = some (.map es cl)):¬RowB r b:=by
 rintro ⟨p,_,hp⟩
 exact own_nomap (h.rowOwn p) hm hp
theorem IdMap.noRow {w:World} {b:Nat} {f:Nat→Option Nat} (hb:IdMap w b f) {r:Rec} (h:r.At w):¬RowB r b:=by
 obtain ⟨ks,hm⟩:=hb
 obtain ⟨_,_,ho⟩:=MapAt.obj hm
 exact h.noMap ho
theorem Rec.At.setRow {w:World} {r:Rec} (h:r.At w) {p j g:Nat} {o:O} (hp:p < 3) (hg:(r.i.rowV p).A=some ⟨g,0,none⟩) (ho:o.At w):
  (r.setRow p ((r.row p).set j o)).At (w.setCell ⟨g,j,none⟩ o.val)∧Fr (RowB r) w (w.setCell ⟨g,j,none⟩ o.val):=by
 have hS:Fr (fun c=>c=g) w (w.setCell ⟨g,j,none⟩ o.val):=(Fr.refl (fun x=>x=g) w).setCell (.inl rfl) _
 have hgp:(r.i.rowV p).val.ownBlock=some g:=by
  show (Value.slice (r.i.rowV p).A (r.i.rowV p).n (r.i.rowV p).c).ownBlock=_
  rw [hg];rfl
 have hT:NoT [84,135,139,130,9,212] w (fun c=>c=g):=by
  rintro b cs t fr rfl
  exact h.noT b cs t fr ⟨p,hp,hgp⟩
 refine ⟨?_,hS.mono fun c _ e=>⟨p,hp,by rw [e];exact hgp⟩⟩
 have hat:=heap_frT h.own.at_ hS hT (by decide)
 have own1:∀ q,q < 3→q≠p→(w.setCell ⟨g,j,none⟩ o.val).ownsRow r.lo 132 1 (r.i.rowV q).val (r.row q).length ((r.row q).map O.val):=fun q hq hne=>by
  refine own_fr (h.rowOwn q) hS fun b hb e=>?_
  subst e
  have d1:=h.own.d1
  have d2:=h.own.d2
  rcases p with _ | _ | _ | p<;>rcases q with _ | _ | _ | q<;>first | exact hne rfl | omega | skip
  ·exact (d1 _ hgp).1 hb
  ·exact (d1 _ hgp).2 hb
  ·exact (d1 _ hb).1 hgp
  ·exact d2 _ hgp hb
  ·exact (d1 _ hb).2 hgp
  ·exact d2 _ hb hgp
 have own2:(w.setCell ⟨g,j,none⟩ o.val).ownsRow r.lo 132 1 (r.i.rowV p).val ((r.row p).set j o).length (((r.row p).set j o).map O.val):=by
  have h1:=h.rowOwn p
  obtain ⟨A,c,hv,_,_⟩:=own_slice h1
  have hA:A=some ⟨g,0,none⟩:=by
   have:(r.i.rowV p).val = .slice (r.i.rowV p).A (r.i.rowV p).n (r.i.rowV p).c:=rfl
   rw [this,hg] at hv
   injection hv with e1 e2 e3
   exact e1.symm
  rw [hv,hA] at h1 ⊢
  have:=own_set h1 j o.val
  rw [List.length_set,List.map_set]
  exact this
 have ats:∀ q,∀ x∈r.row q,x.At (w.setCell ⟨g,j,none⟩ o.val):=fun q x hx=>(h.rowAts q x hx).frT hS hT (by decide)
 have ats2:∀ x∈(r.row p).set j o,x.At (w.setCell ⟨g,j,none⟩ o.val):=fun x hx=>by
  rcases List.mem_or_eq_of_mem_set hx with hx | rfl
  ·exact ats p x hx
  ·exact ho.frT hS hT (by decide)
 have hsuf:StrOwn (w.setCell ⟨g,j,none⟩ o.val) r.lo r.i.suf r.suf:=⟨h.suf.1,own_frT h.suf.2 hS hT (by decide)⟩
 have hisa:StrOwn (w.setCell ⟨g,j,none⟩ o.val) r.lo r.i.isa r.isa:=⟨h.isa.1,own_frT h.isa.2 hS hT (by decide)⟩
 rcases p with _ | _ | _ | p
 ·exact { own:={ h.own with at_:=hat,ops:=own2,inp:=own1 1 (by omega) (by omega),out:=own1 2 (by omega) (by omega) },suf:=hsuf,isa:=hisa,s1:=h.s1,s2:=h.s2,ats:=⟨ats2,ats 1,ats 2⟩ }
 ·exact { own:={ h.own with at_:=hat,ops:=own1 0 (by omega) (by omega),inp:=own2,out:=own1 2 (by omega) (by omega) },suf:=hsuf,isa:=hisa,s1:=h.s1,s2:=h.s2,ats:=⟨ats 0,ats2,ats 2⟩ }
 ·exact { own:={ h.own with at_:=hat,ops:=own1 0 (by omega) (by omega),inp:=own1 1 (by omega) (by omega),out:=own2 },suf:=hsuf,isa:=hisa,s1:=h.s1,s2:=h.s2,ats:=⟨ats 0,ats 1,ats2⟩ }
 ·omega
def BL (f:Nat→Option Nat) (j:Nat) (l l':List O):Prop:=l'.length=l.length∧∀ (k:Nat) (o o':O),l[k]? = some o→l'[k]? = some o'→if k < j then BO f o o' else o'=o
theorem BL.start (f:Nat→Option Nat) (l:List O):BL f 0 l l:=⟨rfl,fun k o o' h1 h2=>by rw [h1] at h2;injection h2 with h2;rw [if_neg (by omega)];exact h2.symm⟩
theorem BL.at_ {f:Nat→Option Nat} {j:Nat} {l l':List O} (h:BL f j l l') {o:O} (ho:l[j]? = some o):l'[j]? = some o:=by
 have hlt:j < l'.length:=by rw [h.1];exact (List.getElem?_eq_some_iff.1 ho).1
 have h1:=List.getElem?_eq_getElem hlt
 have h2:=h.2 j _ _ ho h1
 rw [if_neg (by omega)] at h2
 rw [h1,h2]
theorem BL.step {f:Nat→Option Nat} {j:Nat} {l l':List O} (h:BL f j l l') {o o':O} (ho:l[j]? = some o) (hb:BO f o o'):BL f (j+1) l (l'.set j o'):=by
 refine ⟨by rw [List.length_set];exact h.1,fun k x x' h1 h2=>?_⟩
 rw [List.getElem?_set] at h2
 split at h2
 ·rename_i e
  subst e
  split at h2
  ·injection h2 with h2
   subst h2
   rw [ho] at h1
   injection h1 with h1
   subst h1
   rw [if_pos (by omega)]
   exact hb
  ·cases h2
 ·rename_i e
  have:=h.2 k x x' h1 h2
  by_cases hk:k < j
  ·rw [if_pos hk] at this;rw [if_pos (by omega)];exact this
  ·rw [if_neg hk] at this;rw [if_neg (by omega)];exact this
structure BR (f:Nat→Option Nat) (n:Nat→Nat) (r r':Rec):Prop where
 b:r'.b=r.b
 lo:r'.lo=r.lo
 hi:r'.hi=r.hi
 i:r'.i=r.i
 suf:r'.suf=r.suf
 isa:r'.isa=r.isa
 row:∀ p,p < 3→BL f (n p) (r.row p) (r'.row p)
theorem BR.start (f:Nat→Option Nat) (r:Rec):BR f (fun _=>0) r r:=⟨rfl,rfl,rfl,rfl,rfl,rfl,fun _ _=>BL.start _ _⟩
theorem BR.rowB {f:Nat→Option Nat} {n:Nat→Nat} {r r':Rec} (h:BR f n r r') (c:Nat):RowB r' c↔RowB r c:=by unfold RowB;rw [h.i]
theorem setRow_row (r:Rec) {p q:Nat} (hp:p < 3) (hq:q < 3) (l:List O):(r.setRow p l).row q=if q=p then l else r.row q:=by
 rcases p with _ | _ | _ | p<;>rcases q with _ | _ | _ | q<;>first | rfl | omega
theorem BR.step {f:Nat→Option Nat} {n:Nat→Nat} {r r':Rec} (h:BR f n r r') {p:Nat} (hp:p < 3) {o o':O} (ho:(r.row p)[n p]? = some o) (hb:BO f o o'):BR f (fun q=>if q=p then n p+1 else n q) r (r'.setRow p ((r'.row p).set (n p) o')):=by
 have e:∀ l,(r'.setRow p l).b=r'.b∧(r'.setRow p l).lo=r'.lo∧(r'.setRow p l).hi=r'.hi∧(r'.setRow p l).i=r'.i∧(r'.setRow p l).suf=r'.suf∧(r'.setRow p l).isa=r'.isa:=fun l=>by
  rcases p with _ | _ | p<;>exact ⟨rfl,rfl,rfl,rfl,rfl,rfl⟩
 obtain ⟨e1,e2,e3,e4,e5,e6⟩:=e ((r'.row p).set (n p) o')
 refine ⟨e1.trans h.b,e2.trans h.lo,e3.trans h.hi,e4.trans h.i,e5.trans h.suf,e6.trans h.isa,fun q hq=>?_⟩
 rw [setRow_row r' hp hq]
 by_cases hqp:q=p
 ·subst hqp
  simp only [if_true]
  exact (h.row q hq).step ho hb
 ·simp only [if_neg hqp]
  exact h.row q hq
theorem BR.congr {f:Nat→Option Nat} {n n':Nat→Nat} {r r':Rec} (h:BR f n r r') (hn:∀ p,p < 3→n' p=n p):BR f n' r r':=⟨h.b,h.lo,h.hi,h.i,h.suf,h.isa,fun p hp=>by rw [hn p hp];exact h.row p hp⟩
end
end Go.Proofs.YtpbeedabmjmdmaaGreatDoor
