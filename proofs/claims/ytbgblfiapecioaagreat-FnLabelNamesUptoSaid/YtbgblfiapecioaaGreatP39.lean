/- Part of the proof of a statement about pub-berthage: what its texts have in common. -/
import Derived.Deep.QuietTactic
import Derived.BigQuiet
import Derived.Test.YtbgblfiapecioaaGreatP16
import Derived.Test.YtbgblfiapecioaaGreatP23
import Derived.Test.YtbgblfiapecioaaGreatP24
import Derived.Test.YtbgblfiapecioaaGreatP29
import Derived.Test.YtbgblfiapecioaaGreatP31
import Derived.Test.YtbgblfiapecioaaGreatP33
import Derived.Test.YtbgblfiapecioaaGreatP35
import Derived.Test.YtbgblfiapecioaaGreatP36
import Derived.Test.YtbgblfiapecioaaGreatP37
import Derived.Test.YtbgblfiapecioaaGreatP38
namespace Go.Proofs.YtbgblfiapecioaaGreat
section
open Go Go.RowKit Go.MapKept Bth
set_option maxRecDepth 100000
def GivesFl (w:World) (ns:List PN) (e:Ending) (w':World):Prop:=Fr nope w w' ∧
 ((∃ A c D d sc,e = .returned (.tuple #[.slice A (insP ns).length c,.slice D (insP ns).length d,.bool true])∧GraphP ns sc∧SuccAt w' A (insP ns).length sc∧SuccAt w' D (insP ns).length fun k=>(pdI sc (insP ns).length k).map some) ∨
  (e = .returned (.tuple #[.slice none 0 0,.slice none 0 0,.bool false])∧∀ sc,¬GraphP ns sc))
theorem px_plain {rs:List Rec} {sc scP:Nat→List (Option Nat)} {X:Bool→Nat→List Value} {bs:List Nat} (hbs:bs=rs.map (·.b)) (hX:PX rs sc X (edgesK sc bs rs.length)) (hsc:∀ k,k < rs.length→sc k=(scP k).map (blk bs))
  (hinj:∀ (j k b:Nat),bs[j]? = some b→bs[k]? = some b→j=k):∀ k,k < rs.length→X true k=(scP k).map (fun o=>fvI (blk bs o))∧X false k=((pdI scP rs.length k).map some).map (fun o=>fvI (blk bs o)):=by
 intro k hk
 refine ⟨by rw [hX.1 k hk,hsc k hk,List.map_map];rfl,?_⟩
 have hr:rs[k]? = some rs[k]:=List.getElem?_eq_getElem hk
 have hb:bs[k]? = some (rs[k]).b:=by rw [hbs,List.getElem?_map,hr];rfl
 rw [hX.2 k _ hr,pd_plain hsc (fun j h=>hinj j k _ h hb) hb,List.map_map,List.map_map]
 refine List.map_congr_left fun i hi=>?_
 have hi':i < bs.length:=by rw [hbs,List.length_map];exact pdI_lt hi
 show ptr (bs.getD i 0)=fvI (bs[i]?)
 rw [List.getD_eq_getElem?_getD,List.getElem?_eq_getElem hi']
 rfl
set_option maxHeartbeats 4000000 in
theorem ImFlow_calls (w:World) (s:SV) (ns:List PN) (hN:NodesAt w w.heap.size s ns) (hok0:ns.all okN=true):Calls Tryz.prog 9 #[.slice s.A s.n s.c] w (GivesFl w ns):=by
 have hfew:=hN.few
 go_enter Tryz.func9,Tryz.ntmps9
 go_wp2_with fail
 refine (newWorld_calls w).mono ?_
 rintro e w1 ⟨rfl,hW,hf1⟩
 have hN1:=hN.fr hf1 (fun _ _ x=>x)
 have hF:=function_calls w1 w.heap.size (fun _=>none) s ns hN1 hW
 have hl1:=hf1.size
 go_wp2_with fail
 refine hF.mono ?_
 rintro e w2 ⟨fs,hg,hW2,hf2,⟨fb,f,nds,rs,cms,hok,st,hfb,hbare,hfresh,rfl⟩ | ⟨hok,_⟩⟩
 rotate_left
 ·rw [hok0] at hok;cases hok
 obtain ⟨A,c,hnn,_,_⟩:=own_slice st.nodes
 have hSn:Sl w2 A nds.length (nds.map Nd.val):=by have h:=st.nodes;rw [hnn] at h;exact own_Sl h
 have hnl:nds.length≤1048576:=by rw [st.mt.len];exact hfew
 have hLT:=LabelTarget_calls w2 fb f nds A c st.fn hnn hSn (by omega)
 have hwl:=lt_of_heap hW.1
 have hf02:Fr nope w w2:=hf1.then_new hf2 (fun x hx e=>by omega)
 have hsz2:=hf2.size
 unfold ptr at hLT ⊢
 have hfs3:∀ (w3:World) (mb:Nat),FnAt w3 fb { f with lt:=some mb } → Fr (fun b=>b=fb) w2 w3→FState w3 fs ns fb { f with lt:=some mb } nds rs cms:=fun w3 mb hv hf=>st.setFn hv rfl hf
 have htb:∀ t:ByteArray→Option Nat,ltRun nds=some ⟨t,[]⟩→∀ s b,t s=some b→∃ r∈rs,r.b=b:=by
  intro t ht s b hs
  have:=lt_targets ht s b hs
  rw [st.mt.insOf] at this
  obtain ⟨r,hr,e⟩:=List.mem_map.1 this
  exact ⟨r,hr,e⟩
 have hrb:∀ r∈rs,fb < r.b:=fun r hr=>Nat.lt_of_lt_of_le (st.recs r hr).2.1 (st.recs r hr).1.own.b1
 replace hfs3:=Lib.hid hfs3
 replace htb:=Lib.hid htb
 replace hrb:=Lib.hid hrb
 go_wp2_with fail
 refine hLT.mono ?_
 rintro e w3 (⟨t,mb,ht,rfl,hfn3,hM3,hmb,hf3⟩ | ⟨ht,⟨T,v,rfl⟩,hf3⟩)
 rotate_left
 ·go_wp2
  go_ret3
  exact ⟨hf02.then hf3,.inr ⟨rfl,graph_none st.mt ht⟩⟩
 have st3:=hfs3.out _ _ hfn3 hf3
 have hC:=CFG_calls w3 fs ns fb { f with lt:=some mb } nds rs cms mb t st3 hfresh rfl hM3 hnl (htb.out _ ht)
 have hf03:Fr nope w w3:=hf02.then_new hf3 (fun x hx e=>by omega)
 unfold ptr at hC
 have hsz3:=hf3.size
 go_wp2_with fail
 refine hC.mono ?_
 rintro e w4 ⟨hf4,hM4,⟨sc,rs1,X,hsc,rfl,hlk,st4,L4,hX⟩ | ⟨⟨k,r,hr,hno⟩,T,v,rfl⟩⟩
 rotate_left
 ·go_wp2
  go_ret3
  exact ⟨hf03.then_new hf4 (fun x hx ⟨r,hr,e⟩=>by have:=hrb.out r hr;omega),.inr ⟨rfl,graph_none2 st.mt ht hr hno⟩⟩
 have hrs1:rs1.length=rs.length:=hlk.1
 have hbs1:=hlk.bs
 obtain ⟨scP,hG,hblk⟩:=graph_some st.mt ht hsc
 have hnlen:(insP ns).length=rs.length:=st.mt.match_.1
 have hinj:∀ (j k b:Nat),(rs.map (·.b))[j]? = some b→(rs.map (·.b))[k]? = some b→j=k:=by
  intro j k b h1 h2
  rw [List.getElem?_map] at h1 h2
  obtain ⟨x,hx,rfl⟩:=Option.map_eq_some_iff.1 h1
  obtain ⟨y,hy,e⟩:=Option.map_eq_some_iff.1 h2
  exact st.inj hx hy e.symm
 have hpx:=px_plain rfl hX hblk hinj
 obtain ⟨hG1,hG2⟩:=hG.lt
 have hrl:rs.length≤1048576:=by
  have:=st.mt.insOf
  have h2:=insOf_le nds
  rw [this,List.length_map] at h2
  omega
 have hPF:=plainFlow_calls w4 fs ns fb { f with lt:=some mb } nds rs1 cms w3.heap.size X scP (fun k=>(pdI scP rs.length k).map some) st4 L4 hnl
  (fun k hk=>by rw [hbs1];exact hpx k (by omega))
  (fun k hk=>⟨fun j hj=>by have:=hG1 k j (by omega) hj;omega,fun j hj=>by
   obtain ⟨i,hi,e⟩:=List.mem_map.1 hj
   injection e with e
   subst e
   have:=pdI_lt hi
   omega⟩)
  (fun k hk=>⟨by have:=hG2 k (by omega);omega,by rw [List.length_map];have:=pdI_len (n:=rs.length) (k:=k) (fun i hi=>hG2 i (by omega));omega⟩)
 have hf04:Fr nope w w4:=hf03.then_new hf4 (fun x hx ⟨r,hr,e⟩=>by have:=hrb.out r hr;omega)
 have hsz4:=hf4.size
 clear hX hpx hblk hsc hinj
 replace hG1:=Lib.hid hG1
 replace hG2:=Lib.hid hG2
 replace hbs1:=Lib.hid hbs1
 rw [hrs1,← hnlen] at hPF
 replace hrs1:=Lib.hid hrs1
 replace hnlen:=Lib.hid hnlen
 unfold ptr at hPF
 go_wp2_with fail
 refine hPF.mono ?_
 rintro e w5 ⟨hf5,A5,c5,D5,d5,rfl,hS1,hS2⟩
 go_wp2
 go_ret3
 exact ⟨hf04.then hf5,.inl ⟨A5,c5,D5,d5,scP,rfl,hG,hS1,hS2⟩⟩
end
section
open Go Go.RowKit Go.MapKept Go.Lib Go.Sort Bth
set_option maxRecDepth 100000
noncomputable def livesT:TypeInfo:=(Tryz.prog.info? 105).get (by kernel_rfl)
noncomputable def liveT:TypeInfo:=(Tryz.prog.info? 184).get (by kernel_rfl)
theorem liveK (n:Nat) (h2:2≤n):Lib.swapperK n liveT 25=5:=by
 have a:liveT.hasPointers=false:=by kernel_rfl
 have b:liveT.bytes=8:=by kernel_rfl
 have c:(n == 0)=false:=by simp;omega
 have d:(n == 1)=false:=by simp;omega
 simp [Lib.swapperK,a,b,c,d]
end
section
open Go Go.RowKit Go.MapKept Bth
set_option maxRecDepth 100000
def fOf (F:Nat→Nat) (k:Nat):Option Nat:=if F k=0 then none else some (F k)
theorem tl_of {F:Nat→Nat} {l:TL} (h:PairsOf (fOf F) l) (h16:∀ c,F c < 65536) (h32:∀ c,F c≠0→c < 4294967296):Tidy l∧tv l=F:=by
 obtain ⟨h1,h2⟩:=h
 have key:∀ x∈l,F x.1=x.2∧x.2≠0:=fun x hx=>by
  have:=(h1 x).1 hx
  unfold fOf at this
  split at this
  ·cases this
  ·rename_i h
   injection this with this
   exact ⟨this,by rw [← this];exact h⟩
 have ht:Tidy l:=by
  clear h1
  induction l with
  | nil=>exact .nil
  | cons x l ih=>
   obtain ⟨p1,p2⟩:=List.pairwise_cons.1 h2
   obtain ⟨k1,k2⟩:=key x (by simp)
   exact .cons (ih p2 fun y hy=>key y (by simp [hy])) p1 k2 (by rw [← k1];exact h16 _) (h32 _ (by rw [k1];exact k2))
 refine ⟨ht,funext fun c=>?_⟩
 by_cases hc:F c=0
 ·rw [hc]
  apply Classical.byContradiction
  intro h
  have:=key _ (tv_mem h)
  exact this.2 (this.1.symm.trans hc)
 ·exact tv_of_mem ht (x:=(c,F c)) ((h1 _).2 (by unfold fOf;rw [if_neg hc]))
def GivesMs (w:World) (F:Nat→Nat) (e:Ending) (w':World):Prop:=
 Fr nope w w'∧∃ (A:Option Addr) (c:Nat) (l:TL),Tidy l∧tv l=F∧e = .returned (.slice A l.length c)∧TlAt w' A l
theorem infoLive:(Tryz.prog.info? 184).map (fun i=>(i.zero,i.size,i.bytes))=some (some (.agg #[.int .u32 0,.int .u16 0]),2,8):=by kernel_rfl
def mkOf (F:Nat→Nat) (k:Nat):Nat × Nat:=(k,F k)
end
section
open Go Go.RowKit Bth
set_option maxRecDepth 100000
noncomputable def plReg:Array Oper:=findReg 4 (Tryz.f49.body.getD .skip)
noncomputable def oPL (i:Nat):Oper:=opAt plReg i
theorem wp_bs2 {o:Oper} {a:Act} {w:World} {K:Act→World→Prop} {Q:Exit→Act→World→Prop} {t:Nat} (ho:o.op = .buildSlice 36 1 #[(0,.tmp t)]) {A:Option Addr} {n c:Nat} (hv:a.eval (.tmp t) = .slice A n c)
  (h:K (a.put o.dst (.slice (some ⟨w.heap.size,0,none⟩) 1 1)) (w.alloc (.cells #[.slice A n c] 105))):Oper.wp Tryz.prog o a w K Q:=by
 have hrun:(execOp a.eval o).run Tryz.prog w = .ok (.value (.slice (some ⟨w.heap.size,0,none⟩) 1 1)) (w.alloc (.cells #[.slice A n c] 105)):=by
  unfold execOp
  rw [ho]
  simp only [List.map_toArray,List.map_cons,List.map_nil,hv]
  go_simp
 show o.upon Tryz.prog a K Q ((execOp a.eval o).run Tryz.prog w)
 rw [hrun]
 exact h
end
section
open Go Go.RowKit Go.MapKept Bth
set_option maxRecDepth 100000
structure LvOk (ns:List PN):Prop where
 ok:ns.all okN=true
 ops:∀ p∈insP ns,p.Ok
 canc:∀ p∈insP ns,p.canc=true→2≤(gsOf p.inp).length
theorem AFOk.lv {ns:List PN} (h:AFOk ns):LvOk ns:=⟨h.ok,h.ops,h.canc⟩
def LvT (L:Nat→Nat→Nat→Prop) (n:Nat) (l:List TL):Prop:=l.length=n∧∀ (k:Nat) (s:TL),l[k]? = some s→Tidy s∧∀ c b,(tv s c).testBit b=true↔L k c b
end
section
open Go Go.RowKit Bth
set_option maxRecDepth 100000
structure RegI (p p':PI):Prop where
 ops:gsOf p'.ops=gsOf p.ops
 outs:outGs p'.out=outGs p.out
 ins:inGs p'.canc p'.inp p'.out=inGs p.canc p.inp p.out
def RegL (is is':List PI):Prop:=is'.length=is.length∧∀ (k:Nat) (p p':PI),is[k]? = some p→is'[k]? = some p'→RegI p p'
theorem RegI.refl (p:PI):RegI p p:=⟨rfl,rfl,rfl⟩
theorem RegI.symm {p p':PI} (h:RegI p p'):RegI p' p:=⟨h.ops.symm,h.outs.symm,h.ins.symm⟩
theorem RegL.refl (is:List PI):RegL is is:=⟨rfl,fun k p p' h1 h2=>by rw [h1] at h2;injection h2 with h2;subst h2;exact .refl p⟩
theorem RegL.symm {is is':List PI} (h:RegL is is'):RegL is' is:=⟨h.1.symm,fun k p p' h1 h2=>(h.2 k p' p h2 h1).symm⟩
theorem RegL.get {is is':List PI} (h:RegL is is') {k:Nat} {p:PI} (hk:is[k]? = some p):∃ p',is'[k]? = some p'∧RegI p p':=by
 have hl:=(List.getElem?_eq_some_iff.1 hk).1
 have:is'[k]? = some (is'[k]'(by rw [h.1];exact hl)):=List.getElem?_eq_getElem _
 exact ⟨_,this,h.2 k p _ hk this⟩
theorem RegL.mem {is is':List PI} (h:RegL is is') {p:PI} (hp:p∈is):∃ p'∈is',RegI p p':=by
 obtain ⟨k,hk⟩:=List.mem_iff_getElem?.1 hp
 obtain ⟨p',h1,h2⟩:=h.get hk
 exact ⟨p',List.mem_of_getElem? h1,h2⟩
theorem RegL.kinds {is is':List PI} (h:RegL is is') {k:Nat} (hk:kindsP is k):kindsP is' k:=by
 obtain ⟨p,hp,g,hg,e⟩:=hk
 obtain ⟨p',hp',hr⟩:=h.mem hp
 exact ⟨p',hp',g,by rw [hr.ops];exact hg,e⟩
theorem RegL.adds {is is':List PI} (h:RegL is is') {k v:Nat} (hk:addsP is k v):addsP is' k v:=by
 obtain ⟨p,hp,g,hg,e⟩:=hk
 obtain ⟨p',hp',hr⟩:=h.mem hp
 exact ⟨p',hp',g,by rw [hr.ops];exact hg,e⟩
theorem RegL.use {is is':List PI} (h:RegL is is'):useP is'=useP is∧defP is'=defP is:=by
 constructor<;>funext k
 ·unfold useP
  cases hk:is[k]? with
  | none=>rw [List.getElem?_eq_none_iff] at hk;rw [List.getElem?_eq_none (by rw [h.1];exact hk)]
  | some p=>obtain ⟨p',h1,h2⟩:=h.get hk;rw [h1];show ofGs _=ofGs _;rw [h2.ins]
 ·unfold defP
  cases hk:is[k]? with
  | none=>rw [List.getElem?_eq_none_iff] at hk;rw [List.getElem?_eq_none (by rw [h.1];exact hk)]
  | some p=>obtain ⟨p',h1,h2⟩:=h.get hk;rw [h1];show ofGs _=ofGs _;rw [h2.outs]
theorem RegL.flow {is is':List PI} (h:RegL is is') (sc:Nat→List (Option Nat)):(flowP is' sc).reads=(flowP is sc).reads∧(flowP is' sc).writes=(flowP is sc).writes∧(flowP is' sc).succ=(flowP is sc).succ:=by
 obtain ⟨h1,h2⟩:=h.use
 refine ⟨?_,?_,?_⟩
 ·funext i c b
  show (i < is'.length∧(useP is' i c).testBit b=true)=(i < is.length∧(useP is i c).testBit b=true)
  rw [h.1,h1]
 ·funext i c b
  show ((defP is' i c).testBit b=true)=((defP is i c).testBit b=true)
  rw [h2]
 ·funext x y
  show (x < is'.length∧y < is'.length∧some y∈sc x)=(x < is.length∧y < is.length∧some y∈sc x)
  rw [h.1]
theorem RegL.out {is is':List PI} (h:RegL is is') (sc:Nat→List (Option Nat)):LiveOutP is' sc=LiveOutP is sc:=by
 obtain ⟨h1,h2,h3⟩:=h.flow sc
 unfold LiveOutP
 rw [h1,h2,h3]
theorem RegL.edges {is is':List PI} (h:RegL is is') {sc:Nat→List (Option Nat)} {k:Nat} {e:Nat × Nat} (he:edgesP is sc k e):edgesP is' sc k e:=by
 obtain ⟨i,p,g,hp,hg,h1,h2,h3,h4,b,h5,h6⟩:=he
 obtain ⟨p',hp',hr⟩:=h.get hp
 exact ⟨i,p',g,hp',by rw [hr.outs];exact hg,h1,h2,h3,h4,b,by rw [h.out];exact h5,h6⟩
theorem RegL.color {is is':List PI} (h:RegL is is') {sc:Nat→List (Option Nat)} {k:Nat} {r:Option (Nat→Option Nat)} (hc:ColorP is sc k r):ColorP is' sc k r:=by
 have e1:edgesP is' sc k=edgesP is sc k:=by funext e;exact propext ⟨fun he=>h.symm.edges he,fun he=>h.edges he⟩
 have e2:addsP is' k=addsP is k:=by funext v;exact propext ⟨fun he=>h.symm.adds he,fun he=>h.adds he⟩
 unfold ColorP at hc ⊢
 rw [e1,e2]
 exact hc
theorem AFRes.regs {ns ns':List PN} (h:RegL (insP ns) (insP ns')) (hG:∀ sc,GraphP ns' sc↔GraphP ns sc):∀ {r:Option (Nat→Option Nat)},AFRes ns r→AFRes ns' r
 | some f,hr=>by
  obtain ⟨sc,fk,h1,h2,h3⟩:=hr
  refine ⟨sc,fk,(hG sc).2 h1,fun k hk=>h.color (h2 k (h.symm.kinds hk)),fun v=>⟨fun hk=>(h3 v).1 (h.symm.kinds hk),fun hk=>(h3 v).2 fun hk2=>hk (h.kinds hk2)⟩⟩
 | none,hr=>by
  rcases hr with hr | ⟨sc,k,h1,h2,h3⟩
  ·exact .inl fun sc hs=>hr sc ((hG sc).1 hs)
  ·exact .inr ⟨sc,k,(hG sc).2 h1,h.kinds h2,h.color h3⟩
theorem ColorP.sc {is:List PI} {sc sc':Nat→List (Option Nat)} (h:∀ k,k < is.length→sc k=sc' k) {k:Nat} {r:Option (Nat→Option Nat)} (hc:ColorP is sc k r):ColorP is sc' k r:=by
 have e:edgesP is sc k=edgesP is sc' k:=by
  funext x
  unfold edgesP
  rw [LiveOutP.congr h]
 unfold ColorP at hc ⊢
 rw [← e]
 exact hc
theorem AFRes.uniq {ns:List PN} : ∀ {r r':Option (Nat→Option Nat)},AFRes ns r→AFRes ns r'→r=r'
 | none,none,_,_=>rfl
 | some f,some f',h,h'=>by
  obtain ⟨sc,fk,h1,h2,h3⟩:=h
  obtain ⟨sc',fk',h1',h2',h3'⟩:=h'
  congr 1
  funext v
  by_cases hk:kindsP (insP ns) (kindOf v)
  ·rw [(h3 v).1 hk,(h3' v).1 hk]
   have:=((h2 _ hk).sc (h1.uniq h1')).uniq (h2' _ hk)
   injection this with this
   rw [this]
  ·rw [(h3 v).2 hk,(h3' v).2 hk]
 | some f,none,h,h'=>by
  obtain ⟨sc,fk,h1,h2,_⟩:=h
  rcases h' with h' | ⟨sc',k,h1',h2',h3'⟩
  ·exact absurd h1 (h' sc)
  ·have:=((h2 _ h2').sc (h1.uniq h1')).uniq h3'
   cases this
 | none,some f,h',h=>by
  obtain ⟨sc,fk,h1,h2,_⟩:=h
  rcases h' with h' | ⟨sc',k,h1',h2',h3'⟩
  ·exact absurd h1 (h' sc)
  ·have:=((h2 _ h2').sc (h1.uniq h1')).uniq h3'
   cases this
theorem PairsOf.uniq {f:Nat→Option Nat} {l l':List (Nat × Nat)} (h:PairsOf f l) (h':PairsOf f l'):l=l':=by
 obtain ⟨h1,h2⟩:=h
 obtain ⟨h1',h2'⟩:=h'
 have nd:∀ {l:List (Nat × Nat)},(l.Pairwise fun a b=>a.1 < b.1)→l.Nodup:=fun h=>h.imp fun {a b} hab e=>by rw [e] at hab;omega
 have hp:l.Perm l':=(List.perm_ext_iff_of_nodup (nd h2) (nd h2')).2 fun p=>(h1 p).trans (h1' p).symm
 exact hp.eq_of_pairwise (le:=fun a b=>a.1 < b.1) (fun a b _ _ hab hba=>by omega) h2 h2'
def quietL (ns:List PN):List PN:=ns.filter fun p=>!(p.kind == 3)
theorem quiet_ins (ns:List PN):insP (quietL ns)=insP ns:=by
 unfold insP quietL
 rw [List.filter_filter]
 congr 2
 funext p
 by_cases h:p.kind=1
 ·simp [h]
 ·simp [h]
theorem quiet_run (ns:List PN):lpRun (quietL ns)=lpRun ns:=by
 have key:∀ (ns:List PN) (s:LP),(quietL ns).foldlM lpStep s=ns.foldlM lpStep s:=by
  intro ns
  induction ns with
  | nil=>intro s;rfl
  | cons p ns ih=>
   intro s
   by_cases h3:p.kind=3
   ·have e:quietL (p :: ns)=quietL ns:=by unfold quietL;rw [List.filter_cons];simp [h3]
    have e2:lpStep s p=some s:=by unfold lpStep;rw [if_neg (by omega),if_neg (by omega)]
    rw [e,List.foldlM_cons,e2,ih s]
    rfl
   ·have e:quietL (p :: ns)=p :: quietL ns:=by unfold quietL;rw [List.filter_cons];simp [h3]
    rw [e,List.foldlM_cons,List.foldlM_cons]
    cases lpStep s p with
    | none=>rfl
    | some s'=>exact ih s'
 exact key ns _
theorem quiet_graph (ns:List PN) (sc:Nat→List (Option Nat)):GraphP (quietL ns) sc↔GraphP ns sc:=by
 unfold GraphP
 rw [quiet_run,quiet_ins]
end
section
open Go Go.RowKit Bth
set_option maxRecDepth 100000
section
variable (q:ByteArray→ByteArray)
structure CalP (p p':PO):Prop where
 kind:p'.kind=p.kind
 reg:p'.reg=p.reg
 hasBase:p'.hasBase=p.hasBase
 hasIndex:p'.hasIndex=p.hasIndex
 base:p'.base=p.base
 index:p'.index=p.index
 label:p.kind=4→p'.label=q p.label
def CalL (ps ps':List PO):Prop:=ps'.length=ps.length∧∀ (k:Nat) (p p':PO),ps[k]? = some p→ps'[k]? = some p'→CalP q p p'
structure CalI (p p':PI):Prop where
 ops:CalL q p.ops p'.ops
 inp:CalL q p.inp p'.inp
 out:CalL q p.out p'.out
 term:p'.term=p.term
 br:p'.br=p.br
 cond:p'.cond=p.cond
 canc:p'.canc=p.canc
structure CalN (p p':PN):Prop where
 kind:p'.kind=p.kind
 label:p.kind=2→p'.label=q p.label
 ins:p.kind=1→CalI q p.ins p'.ins
def CalNs (ns ns':List PN):Prop:=ns'.length=ns.length∧∀ (k:Nat) (p p':PN),ns[k]? = some p→ns'[k]? = some p'→CalN q p p'
variable {q}
theorem CalP.gs {p p':PO} (h:CalP q p p'):p'.gs=p.gs:=by unfold PO.gs;rw [h.kind,h.reg,h.hasBase,h.hasIndex,h.base,h.index]
theorem CalP.asG {p p':PO} (h:CalP q p p'):p'.asG=p.asG:=by unfold PO.asG;rw [h.kind,h.reg]
theorem CalL.tail {p p':PO} {ps ps':List PO} (h:CalL q (p :: ps) (p' :: ps')):CalP q p p'∧CalL q ps ps':=
 ⟨h.2 0 p p' rfl rfl,by simpa using h.1,fun k a b h1 h2=>h.2 (k+1) a b h1 h2⟩
theorem CalL.all:∀ {ps ps':List PO},CalL q ps ps'→gsOf ps'=gsOf ps∧outGs ps'=outGs ps∧memGs ps'=memGs ps∧targetP ps'=(targetP ps).map q
 | [],[],_=>⟨rfl,rfl,rfl,rfl⟩
 | [],_ :: _,h=>by have:=h.1;simp at this
 | _ :: _,[],h=>by have:=h.1;simp at this
 | p :: ps,p' :: ps',h=>by
  obtain ⟨h0,ht⟩:=h.tail
  obtain ⟨a1,a2,a3,_⟩:=CalL.all ht
  refine ⟨?_,?_,?_,?_⟩
  ·unfold gsOf at a1 ⊢
   rw [List.flatMap_cons,List.flatMap_cons,a1,h0.gs]
  ·unfold outGs at a2 ⊢
   rw [List.filterMap_cons,List.filterMap_cons,a2,h0.asG]
  ·unfold memGs at a3 ⊢
   unfold gsOf at a3 ⊢
   rw [List.filter_cons,List.filter_cons,h0.kind]
   split
   ·rw [List.flatMap_cons,List.flatMap_cons,a3,h0.gs]
   ·exact a3
  ·unfold targetP
   simp only [h0.kind]
   split
   ·rename_i h4
    rw [h0.label h4];rfl
   ·rfl
theorem CalI.regs {p p':PI} (h:CalI q p p'):RegI p p':=by
 obtain ⟨a1,a2,a3,_⟩:=h.ops.all
 obtain ⟨b1,b2,b3,_⟩:=h.inp.all
 obtain ⟨c1,c2,c3,_⟩:=h.out.all
 refine ⟨a1,c2,?_⟩
 rw [h.canc]
 cases p.canc with
 | false=>rw [inGs_f,inGs_f,b1,c3]
 | true=>rw [inGs_t _ _ _ rfl,inGs_t _ _ _ rfl,b1,c3]
theorem CalNs.tail {p p':PN} {ns ns':List PN} (h:CalNs q (p :: ns) (p' :: ns')):CalN q p p'∧CalNs q ns ns':=
 ⟨h.2 0 p p' rfl rfl,by simpa using h.1,fun k a b h1 h2=>h.2 (k+1) a b h1 h2⟩
theorem CalNs.ins:∀ {ns ns':List PN},CalNs q ns ns'→(insP ns').length=(insP ns).length∧∀ (k:Nat) (p p':PI),(insP ns)[k]? = some p→(insP ns')[k]? = some p'→CalI q p p'
 | [],[],_=>⟨rfl,fun k p p' h=>by simp [insP] at h⟩
 | [],_ :: _,h=>by have:=h.1;simp at this
 | _ :: _,[],h=>by have:=h.1;simp at this
 | n :: ns,n' :: ns',h=>by
  obtain ⟨h0,ht⟩:=h.tail
  obtain ⟨a1,a2⟩:=CalNs.ins ht
  have e:∀ (n:PN) (ns:List PN),insP (n :: ns)=if n.kind=1 then n.ins :: insP ns else insP ns:=fun n ns=>by
   unfold insP
   rw [List.filter_cons]
   by_cases hk:n.kind=1<;>simp [hk]
  rw [e,e,h0.kind]
  split
  ·rename_i hk
   refine ⟨by simp [a1],fun k p p' h1 h2=>?_⟩
   cases k with
   | zero=>
    injection h1 with h1
    injection h2 with h2
    subst h1 h2
    exact h0.ins hk
   | succ k=>exact a2 k p p' h1 h2
  ·exact ⟨a1,a2⟩
theorem CalNs.regs {ns ns':List PN} (h:CalNs q ns ns'):RegL (insP ns) (insP ns'):=by
 obtain ⟨h1,h2⟩:=h.ins
 exact ⟨h1,fun k p p' a b=>(h2 k p p' a b).regs⟩
structure CalS (q:ByteArray→ByteArray) (s s':LP):Prop where
 n:s'.n=s.n
 pend:s'.pend=s.pend.map q
 t:∀ x,s'.t (q x)=s.t x
open Classical in
theorem CalS.step (hq:∀ a b,q a=q b→a=b) {s s':LP} (h:CalS q s s') {p p':PN} (hp:CalN q p p'):match lpStep s p,lpStep s' p' with
  | none,none=>True
  | some a,some b=>CalS q a b
  | _,_=>False:=by
 unfold lpStep
 rw [hp.kind]
 by_cases h1:p.kind=1
 ·rw [if_pos h1,if_pos h1]
  refine ⟨by show s'.n+1=s.n+1;rw [h.n],rfl,fun x=>?_⟩
  show (if q x∈s'.pend then some s'.n else s'.t (q x))=if x∈s.pend then some s.n else s.t x
  rw [h.pend,h.n,h.t]
  have e:(q x∈s.pend.map q)↔x∈s.pend:=by
   rw [List.mem_map]
   exact ⟨fun ⟨y,hy,e⟩=>hq _ _ e ▸ hy,fun hx=>⟨x,hx,rfl⟩⟩
  by_cases hx:x∈s.pend
  ·rw [if_pos hx,if_pos (e.2 hx)]
  ·rw [if_neg hx,if_neg (fun h=>hx (e.1 h))]
 ·rw [if_neg h1,if_neg h1]
  by_cases h2:p.kind=2
  ·rw [if_pos h2,if_pos h2,hp.label h2,h.t]
   cases hs:(s.t p.label).isSome with
   | true=>simp
   | false=>
    simp only [Bool.false_eq_true,if_false]
    exact ⟨h.n,by show s'.pend ++ [q p.label]=(s.pend ++ [p.label]).map q;rw [h.pend,List.map_append];rfl,h.t⟩
  ·rw [if_neg h2,if_neg h2]
   exact h
theorem CalNs.run (hq:∀ a b,q a=q b→a=b):∀ {ns ns':List PN},CalNs q ns ns'→∀ {s s':LP},CalS q s s'→match ns.foldlM lpStep s,ns'.foldlM lpStep s' with
  | none,none=>True
  | some a,some b=>CalS q a b
  | _,_=>False
 | [],[],_,s,s',h=>h
 | [],_ :: _,h,_,_,_=>by have:=h.1;simp at this
 | _ :: _,[],h,_,_,_=>by have:=h.1;simp at this
 | n :: ns,n' :: ns',h,s,s',hs=>by
  obtain ⟨h0,ht⟩:=h.tail
  have h1:=hs.step hq h0
  rw [List.foldlM_cons,List.foldlM_cons]
  cases e1:lpStep s n with
  | none=>
   cases e2:lpStep s' n' with
   | none=>trivial
   | some b=>rw [e1,e2] at h1;exact h1.elim
  | some a=>
   cases e2:lpStep s' n' with
   | none=>rw [e1,e2] at h1;exact h1.elim
   | some b=>
    rw [e1,e2] at h1
    exact CalNs.run hq ht h1
theorem CalNs.graph (hq:∀ a b,q a=q b→a=b) {ns ns':List PN} (h:CalNs q ns ns') (sc:Nat→List (Option Nat)):GraphP ns' sc↔GraphP ns sc:=by
 have hr:=CalNs.run hq h (s:=⟨fun _=>none,[],0⟩) (s':=⟨fun _=>none,[],0⟩) ⟨rfl,rfl,fun _=>rfl⟩
 obtain ⟨hl,hi⟩:=h.ins
 have hsu:∀ {s s':LP},CalS q s s'→∀ (k:Nat) (p p':PI),CalI q p p'→succP s'.t s'.n k p'=succP s.t s.n k p:=by
  intro s s' hs k p p' hp
  unfold succP
  rw [hp.br,hp.term,hp.cond,hs.n,hp.ops.all.2.2.2]
  cases targetP p.ops with
  | none=>rfl
  | some x=>simp only [Option.map_some,Option.bind_some,hs.t]
 unfold GraphP
 unfold lpRun
 cases e1:ns.foldlM lpStep ⟨fun _=>none,[],0⟩ with
 | none=>
  cases e2:ns'.foldlM lpStep ⟨fun _=>none,[],0⟩ with
  | none=>simp
  | some b=>rw [e1,e2] at hr;exact hr.elim
 | some a=>
  cases e2:ns'.foldlM lpStep ⟨fun _=>none,[],0⟩ with
  | none=>rw [e1,e2] at hr;exact hr.elim
  | some b=>
   rw [e1,e2] at hr
   have hr:CalS q a b:=hr
   constructor
   ·rintro ⟨s,hs,hp,hk⟩
    injection hs with hs
    subst hs
    refine ⟨a,rfl,by have:=hr.pend;rw [hp] at this;exact List.map_eq_nil_iff.1 this.symm,fun k p hkp=>?_⟩
    have hlt:=(List.getElem?_eq_some_iff.1 hkp).1
    have hp':(insP ns')[k]? = some ((insP ns')[k]'(by omega)):=List.getElem?_eq_getElem _
    rw [← hsu hr k p _ (hi k p _ hkp hp')]
    exact hk k _ hp'
   ·rintro ⟨s,hs,hp,hk⟩
    injection hs with hs
    subst hs
    refine ⟨b,rfl,by rw [hr.pend,hp];rfl,fun k p' hkp=>?_⟩
    have hlt:=(List.getElem?_eq_some_iff.1 hkp).1
    have hp':(insP ns)[k]? = some ((insP ns)[k]'(by omega)):=List.getElem?_eq_getElem _
    rw [hsu hr k _ p' (hi k _ p' hp' hkp)]
    exact hk k _ hp'
end
end
section
open Go Go.RowKit Bth
set_option maxRecDepth 100000
def normP (p:PO):PO:=
 if p.kind=1 then ⟨1,p.reg,false,false,g0,g0,0,0,e0,false,⟨0,0,e0⟩,e0,0⟩
 else if p.kind=2 then ⟨2,g0,p.hasBase,p.hasIndex,if p.hasBase then p.base else g0,if p.hasIndex then p.index else g0,p.scale,p.disp,p.sym,p.static,⟨0,0,e0⟩,e0,0⟩
 else if p.kind=3 then (match conOf p.con with | some c=>(O.con c).po | none=>p)
 else if p.kind=4 then ⟨4,g0,false,false,g0,g0,0,0,e0,false,⟨0,0,e0⟩,p.label,0⟩
 else ⟨5,g0,false,false,g0,g0,0,0,e0,false,⟨0,0,e0⟩,e0,p.rel⟩
theorem opOf_po {w:World} {wb:Nat} {fs:Nat→Option Nat} (hW:WAt w wb fs) {p:PO} (hp:p.Ok) {o:O} (h:opOf fs p=some o):o.po=normP p:=by
 unfold opOf at h
 unfold normP
 split at h
 ·rename_i h1
  obtain ⟨r,hr,rfl⟩:=Option.map_eq_some_iff.1 h
  rw [if_pos h1]
  show (⟨1,r.plain,false,false,g0,g0,0,0,e0,false,⟨0,0,e0⟩,e0,0⟩:PO)=_
  rw [hW.plain hp.reg hr]
 split at h
 ·rename_i h1 h2
  obtain ⟨m,hm,rfl⟩:=Option.map_eq_some_iff.1 h
  rw [if_neg h1,if_pos h2]
  unfold memOf at hm
  rw [if_pos h2] at hm
  obtain ⟨b,hb,hm⟩:=Option.bind_eq_some_iff.1 hm
  obtain ⟨i,hi,rfl⟩:=Option.map_eq_some_iff.1 hm
  have key:∀ {has:Bool} {g:G} {x:Option R},g.Ok→optReg fs has g=some x→x.isSome=has∧(x.map R.plain).getD g0=if has then g else g0:=fun {has g x} hg hx=>by
   unfold optReg at hx
   cases has with
   | true=>
    obtain ⟨r,hr,rfl⟩:=Option.map_eq_some_iff.1 hx
    exact ⟨rfl,by simp [hW.plain hg hr]⟩
   | false=>
    injection hx with hx
    subst hx
    exact ⟨rfl,rfl⟩
  obtain ⟨b1,b2⟩:=key hp.base hb
  obtain ⟨i1,i2⟩:=key hp.index hi
  show (⟨2,g0,b.isSome,i.isSome,(b.map R.plain).getD g0,(i.map R.plain).getD g0,p.scale,p.disp,p.sym,p.static,⟨0,0,e0⟩,e0,0⟩:PO)=_
  rw [b1,b2,i1,i2]
 split at h
 ·rename_i h1 h2 h3
  obtain ⟨c,hc,rfl⟩:=Option.map_eq_some_iff.1 h
  rw [if_neg h1,if_neg h2,if_pos h3,hc]
 split at h
 ·rename_i h1 h2 h3 h4
  injection h with h
  subst h
  rw [if_neg h1,if_neg h2,if_neg h3,if_pos h4]
  rfl
 split at h
 ·rename_i h1 h2 h3 h4 h5
  injection h with h
  subst h
  rw [if_neg h1,if_neg h2,if_neg h3,if_neg h4]
  rfl
 ·cases h
theorem pOps_po {w:World} {wb:Nat} {fs:Nat→Option Nat} (hW:WAt w wb fs):∀ {ps:List PO} {os:List O},(∀ p∈ps,p.Ok)→pOps fs ps=some os→os.map O.po=ps.map normP
 | [],os,_,h=>by simp only [pOps,Option.some.injEq] at h;subst h;rfl
 | p :: ps,os,hp,h=>by
  simp only [pOps] at h
  obtain ⟨o,e1,e2⟩:=Option.bind_eq_some_iff.1 h
  obtain ⟨os',e3,rfl⟩:=Option.map_eq_some_iff.1 e2
  rw [List.map_cons,List.map_cons,opOf_po hW (hp p (by simp)) e1,pOps_po hW (fun q hq=>hp q (by simp [hq])) e3]
end
end Go.Proofs.YtbgblfiapecioaaGreat
