/- Part of the proof of a statement about pub-berthage: what its texts have in common. -/
import Derived.Test.YtbgblfiapecioaaGreatP16
import Derived.Test.YtbgblfiapecioaaGreatP24
import Derived.Test.YtbgblfiapecioaaGreatP31
import Derived.Test.YtbgblfiapecioaaGreatP33
import Derived.Test.YtbgblfiapecioaaGreatP35
import Derived.Test.YtbgblfiapecioaaGreatP36
import Derived.Test.YtbgblfiapecioaaGreatP37
import Derived.Test.YtbgblfiapecioaaGreatP39
namespace Go.Proofs.YtbgblfiapecioaaGreat
section
open Go Go.RowKit Bth
set_option maxRecDepth 100000
noncomputable def plReg:Array Oper:=findReg 4 (Tryz.f49.body.getD .skip)
noncomputable def oPL (i:Nat):Oper:=opAt plReg i
theorem plReg_get {i:Nat} (h:Nat.blt i 18=true):plReg[i]? = some (oPL i):=opAt_get (by kernel_rfl) h
theorem wp_bs2 {o:Oper} {a:Act} {w:World} {K:Act→World→Prop} {Q:Exit→Act→World→Prop} {t:Nat} (ho:o.op = .buildSlice 36 1 #[(0,.tmp t)]) {A:Option Addr} {n c:Nat} (hv:a.eval (.tmp t) = .slice A n c)
  (h:K (a.put o.dst (.slice (some ⟨w.heap.size,0,none⟩) 1 1)) (w.alloc (.cells #[.slice A n c] 105))):Oper.wp Tryz.prog o a w K Q:=by
 have hrun:(execOp a.eval o).run Tryz.prog w = .ok (.value (.slice (some ⟨w.heap.size,0,none⟩) 1 1)) (w.alloc (.cells #[.slice A n c] 105)):=by
  unfold execOp
  rw [ho]
  simp only [List.map_toArray,List.map_cons,List.map_nil,hv]
  go_simp
 show o.upon Tryz.prog a K Q ((execOp a.eval o).run Tryz.prog w)
 rw [hrun]
 exact h
set_option maxHeartbeats 2000000 in
theorem rgPL {a0:Act} {w:World} {Q:Exit→Act→World→Prop} {S:World→Prop} {b m1 m2:Nat} {s1 s2:Value} {R1 R2 R3 R4:Value→World→Prop} {R5:Value→Value→World→Prop}
  (h0:Bun a0 32 [(2,s1),(3,s2),(5,.pointer (some ⟨b,0,none⟩))]) (hQ:∀ d v c a w,Q (.panic c) (a.put d v) w→Q (.panic c) a w)
  (hS0:S w.drew) (l1:∀ w',S w'→w'.cell? ⟨b,12,none⟩=some (.map (some m1))) (l2:∀ w',S w'→w'.cell? ⟨b,13,none⟩=some (.map (some m2))) (hSa:∀ w o,S w→S (w.alloc o))
  (h1:Calls Tryz.prog 93 #[.map (some m1)] w.drew fun e w'=>∃ A n c,e = .returned (.slice A n c)∧R1 (.slice A n c) w'∧S w')
  (h2:∀ y w1 a K,R1 y w1→a.eval (.tmp 13)=s1→a.eval (.tmp 19) = .slice (some ⟨w1.heap.size,0,none⟩) 1 1→(∀ v w',R2 v w'→S w'→K (a.put (oPL 7).dst v) w')→Oper.wp Tryz.prog (oPL 7) a (w1.alloc (.cells #[y] 105)) K Q)
  (h3:∀ v w2,R2 v w2→Calls Tryz.prog 93 #[.map (some m2)] w2 fun e w'=>∃ A n c,e = .returned (.slice A n c)∧R3 v w'∧R4 (.slice A n c) w'∧S w')
  (h4:∀ v y w3 a K,R3 v w3→R4 y w3→a.eval (.tmp 21)=s2→a.eval (.tmp 27) = .slice (some ⟨w3.heap.size,0,none⟩) 1 1→(∀ u w',R5 v u w'→S w'→K (a.put (oPL 15).dst u) w')→Oper.wp Tryz.prog (oPL 15) a (w3.alloc (.cells #[y] 105)) K Q)
  (h:∀ v u w' a,R5 v u w'→(∃ x13 x14 x15 x16 x17 x18 x19 x20 x21 x22 x23 x24 x25 x26 x27 x28,a=putL a0 [(13,x13),(14,x14),(15,x15),(16,x16),(17,x17),(21,x21),(22,x22),(23,x23),(24,x24),(25,x25),(18,x18),(19,x19),(20,x20),(26,x26),(27,x27),(28,x28),(2,v),(3,u)])→Q .normal a w'):(Code.region 4 plReg true).wp Tryz.prog Q a0 w:=by
 refine wp_region_held_drew (S:=S) (by kernel_rfl) hS0 (fun hS0=>?_)
 rw [show plReg.size=18 from by kernel_rfl]
 refine takeMv h0 hS0 hQ 0 13 2 _ (by unfold isB;kernel_rfl) (by kernel_rfl) rfl fun a0 e0 h0=>?_
 refine takeMv h0 hS0 hQ 1 14 5 _ (by unfold isB;kernel_rfl) (by kernel_rfl) rfl fun a1 e1 h0=>?_
 refine takeNil h0 hS0 hQ 2 15 14 _ (by unfold isB;kernel_rfl) (by kernel_rfl) rfl fun a2 e2 h0=>?_
 refine takeFld h0 hS0 hQ 3 16 15 130 12 _ _ (by unfold isB;kernel_rfl) (by kernel_rfl) rfl (insFld b 12 (by decide)) fun a3 e3 h0=>?_
 refine takeLd h0 hS0 hQ 4 17 16 128 _ (.map (some m1)) (by unfold isB;kernel_rfl) (by kernel_rfl) rfl (fun w hw=>by have hc:=l1 _ hw;go_simp) fun a4 e4 h0=>?_
 refine takeMv h0 hS0 hQ 8 21 3 _ (by unfold isB;kernel_rfl) (by kernel_rfl) rfl fun a8 e8 h0=>?_
 refine takeMv h0 hS0 hQ 9 22 5 _ (by unfold isB;kernel_rfl) (by kernel_rfl) rfl fun a9 e9 h0=>?_
 refine takeNil h0 hS0 hQ 10 23 22 _ (by unfold isB;kernel_rfl) (by kernel_rfl) rfl fun a10 e10 h0=>?_
 refine takeFld h0 hS0 hQ 11 24 23 130 13 _ _ (by unfold isB;kernel_rfl) (by kernel_rfl) rfl (insFld b 13 (by decide)) fun a11 e11 h0=>?_
 refine takeLd h0 hS0 hQ 12 25 24 128 _ (.map (some m2)) (by unfold isB;kernel_rfl) (by kernel_rfl) rfl (fun w hw=>by have hc:=l2 _ hw;go_simp) fun a12 e12 h0=>?_
 refine wpAnyH_ready (rs:=[5]) (by kernel_rfl) (by simp) (AllReadyH.cons (o:=oPL 5) (plReg_get rfl) (fun K hK=>?_) AllReadyH.nil)
 rw [if_pos (show Region.wanted (oPL 5) _=true from rfl)]
 refine wp_callU (show (oPL 5).op = .call { callee:=.value (.func 93),args:=#[.tmp 17],argTypes:=#[128] } from by kernel_rfl) Tryz.func93 (by kernel_rfl) (by kernel_rfl) ?_
 simp only [List.map_toArray,List.map_cons,List.map_nil,h0.at_ 17 _ rfl]
 refine (h1).mono ?_
 rintro e w1 ⟨A1,k1,c1,rfl,r1,s1'⟩
 refine hK.out _ _ s1' (fun hS0=>?_)
 rw [show (oPL 5).dst=some 18 from by kernel_rfl]
 replace h0:=h0.put (x:=some 18) rfl (d:=18) (by decide) (.slice A1 k1 c1)
 refine wpAnyH_ready (rs:=[6]) (by kernel_rfl) (by simp) (AllReadyH.cons (o:=oPL 6) (plReg_get rfl) (fun K hK=>?_) AllReadyH.nil)
 rw [if_pos (show Region.wanted (oPL 6) _=true from rfl)]
 refine wp_bs2 (show (oPL 6).op = .buildSlice 36 1 #[(0,.tmp 18)] from by kernel_rfl) (h0.at_ 18 _ rfl) ?_
 refine hK.out _ _ (hSa _ _ s1') (fun hS0=>?_)
 rw [show (oPL 6).dst=some 19 from by kernel_rfl]
 replace h0:=h0.put (x:=some 19) rfl (d:=19) (by decide) (.slice (some ⟨w1.heap.size,0,none⟩) 1 1)
 refine wpAnyH_ready (rs:=[7]) (by kernel_rfl) (by simp) (AllReadyH.cons (o:=oPL 7) (plReg_get rfl) (fun K hK=>?_) AllReadyH.nil)
 rw [if_pos (show Region.wanted (oPL 7) _=true from rfl)]
 refine h2 _ w1 _ _ r1 (h0.at_ 13 _ rfl) (h0.at_ 19 _ rfl) ?_
 intro v w2 r2 s2'
 refine hK.out _ _ s2' (fun hS0=>?_)
 rw [show (oPL 7).dst=some 20 from by kernel_rfl]
 replace h0:=h0.put (x:=some 20) rfl (d:=20) (by decide) (v)
 refine wpAnyH_ready (rs:=[13]) (by kernel_rfl) (by simp) (AllReadyH.cons (o:=oPL 13) (plReg_get rfl) (fun K hK=>?_) AllReadyH.nil)
 rw [if_pos (show Region.wanted (oPL 13) _=true from rfl)]
 refine wp_callU (show (oPL 13).op = .call { callee:=.value (.func 93),args:=#[.tmp 25],argTypes:=#[128] } from by kernel_rfl) Tryz.func93 (by kernel_rfl) (by kernel_rfl) ?_
 simp only [List.map_toArray,List.map_cons,List.map_nil,h0.at_ 25 _ rfl]
 refine (h3 v w2 r2).mono ?_
 rintro e w3 ⟨A3,k3,c3,rfl,r3,r4,s3'⟩
 refine hK.out _ _ s3' (fun hS0=>?_)
 rw [show (oPL 13).dst=some 26 from by kernel_rfl]
 replace h0:=h0.put (x:=some 26) rfl (d:=26) (by decide) (.slice A3 k3 c3)
 refine wpAnyH_ready (rs:=[14]) (by kernel_rfl) (by simp) (AllReadyH.cons (o:=oPL 14) (plReg_get rfl) (fun K hK=>?_) AllReadyH.nil)
 rw [if_pos (show Region.wanted (oPL 14) _=true from rfl)]
 refine wp_bs2 (show (oPL 14).op = .buildSlice 36 1 #[(0,.tmp 26)] from by kernel_rfl) (h0.at_ 26 _ rfl) ?_
 refine hK.out _ _ (hSa _ _ s3') (fun hS0=>?_)
 rw [show (oPL 14).dst=some 27 from by kernel_rfl]
 replace h0:=h0.put (x:=some 27) rfl (d:=27) (by decide) (.slice (some ⟨w3.heap.size,0,none⟩) 1 1)
 refine wpAnyH_ready (rs:=[15]) (by kernel_rfl) (by simp) (AllReadyH.cons (o:=oPL 15) (plReg_get rfl) (fun K hK=>?_) AllReadyH.nil)
 rw [if_pos (show Region.wanted (oPL 15) _=true from rfl)]
 refine h4 v _ w3 _ _ r3 r4 (h0.at_ 21 _ rfl) (h0.at_ 27 _ rfl) ?_
 intro u w4 r5 s4'
 refine hK.out _ _ s4' (fun hS0=>?_)
 rw [show (oPL 15).dst=some 28 from by kernel_rfl]
 replace h0:=h0.put (x:=some 28) rfl (d:=28) (by decide) (u)
 refine takeB h0 hS0 hQ 16 2 _ (v) (show isB plReg 16 2 (.assign (.tmp 20)) from by unfold isB;kernel_rfl) (by kernel_rfl) (fun o e w hw=>by simp [execOp,e,h0.at_ 20 _ rfl]) fun a16 e16 h0=>?_
 refine takeB h0 hS0 hQ 17 3 _ (u) (show isB plReg 17 3 (.assign (.tmp 28)) from by unfold isB;kernel_rfl) (by kernel_rfl) (fun o e w hw=>by simp [execOp,e,h0.at_ 28 _ rfl]) fun a17 e17 h0=>?_
 refine wpAnyH_done (by kernel_rfl) (h v u w4 _ r5 ?_) _
 subst e17 e16 e12 e11 e10 e9 e8 e4 e3 e2 e1 e0
 exact ⟨_,_,_,_,_,_,_,_,_,_,_,_,_,_,_,_,rfl⟩
def TlsOf (V:Nat→Nat→Nat) (n:Nat) (l:List TL):Prop:=l.length=n∧∀ (k:Nat) (s:TL),l[k]? = some s→Tidy s∧tv s=V k
theorem TlsOf.snoc {V:Nat→Nat→Nat} {n:Nat} {l:List TL} (h:TlsOf V n l) {s:TL} (h1:Tidy s) (h2:tv s=V n):TlsOf V (n+1) (l ++ [s]):=by
 refine ⟨by rw [List.length_append,h.1];rfl,fun k t hk=>?_⟩
 by_cases hlt:k < l.length
 ·rw [List.getElem?_append_left hlt] at hk
  exact h.2 k t hk
 ·rw [List.getElem?_append_right (by omega)] at hk
  have h0:k - l.length=0:=by have:=(List.getElem?_eq_some_iff.1 hk).1;simp at this;omega
  rw [h0] at hk
  injection hk with hk
  have:k=n:=by have:=h.1;omega
  subst hk this
  exact ⟨h1,h2⟩
def GivesPL (w:World) (n:Nat) (V:Sets) (e:Ending) (w':World):Prop:=Fr nope w w'∧∃ A c D d l1 l2,e = .returned (.tuple #[.slice A n c,.slice D n d])∧TlsAt w' A l1∧TlsAt w' D l2∧TlsOf (V false) n l1∧TlsOf (V true) n l2
set_option maxHeartbeats 4000000 in
theorem plainLive_calls (w:World) (fs:Nat→Option Nat) (ns:List PN) (fb:Nat) (f:Fn) (nds:List Nd) (rs:List Rec) (cms:List (Nat × List ByteArray)) (mm:Bool→Nat→Nat) (V:Sets)
  (st:FState w fs ns fb f nds rs cms) (lv:Lv w rs mm V) (hl:nds.length≤1048576) (n:Nat) (hn:n≤10000000000000)
  (hV:∀ p k,k < rs.length→(∀ c,V p k c≠0→c < 4294967296)∧∀ D:List Nat,D.Nodup→(∀ c∈D,V p k c≠0)→D.length≤n):
  Calls Tryz.prog 49 #[ptr fb] w (GivesPL w rs.length V):=by
 obtain ⟨A,c,hnn,_,_⟩:=own_slice st.nodes
 have hrl:rs.length≤nds.length:=by
  have:=st.mt.insOf
  have h2:=insOf_le nds
  rw [this,List.length_map] at h2
  exact h2
 have hSn:Sl w A nds.length (nds.map Nd.val):=by have h:=st.nodes;rw [hnn] at h;exact own_Sl h
 have hc5:=st.fn.c5
 rw [hnn] at hc5
 have hI:=Instructions_calls w fb A c nds hc5 hSn (by omega)
 rw [st.mt.insOf] at hI
 have hbsl:(rs.map (·.b)).length=rs.length:=List.length_map ..
 have hgo:∀ k,k < rs.length→∃ rb,(rs.map (·.b))[k]? = some rb∧(∀ W,Fr nope w W→W.cell? ⟨rb,12,none⟩=some (.map (some (mm false k)))∧W.cell? ⟨rb,13,none⟩=some (.map (some (mm true k))))∧∀ p W,Fr nope w W→MaskAt W (mm p k) (V p k):=by
  intro k hk
  have hr:rs[k]? = some rs[k]:=List.getElem?_eq_getElem hk
  have hat:=(st.recs _ (List.mem_of_getElem? hr)).1.own.at_
  obtain ⟨a1,a2⟩:=lv.at_ k _ hr
  refine ⟨_,by rw [List.getElem?_map,hr];rfl,fun W hW=>?_,fun p W hW=>(lv.mask p k hk).fr hW (fun x=>x)⟩
  have:=fun j=>cell_of_row _ _ j _ _ (0,0) (hW.heap hat (fun x=>x))
  exact ⟨(this 12).trans (by rw [← a1];rfl),(this 13).trans (by rw [← a2];rfl)⟩
 obtain ⟨bs,hbs⟩:∃ bs,bs=rs.map (·.b):=⟨_,rfl⟩
 rw [← hbs] at hI hbsl hgo
 obtain ⟨m,hm⟩:∃ m,m=rs.length:=⟨_,rfl⟩
 rw [← hm] at hrl hbsl hgo hV ⊢
 clear st hSn hc5 hnn lv
 replace hgo:=Lib.hid hgo
 replace hV:=Lib.hid hV
 replace hbs:=Lib.hid hbs
 replace hm:=Lib.hid hm
 unfold ptr
 go_enter Tryz.func49,Tryz.ntmps49
 go_wp2_with fail
 refine hI.mono ?_
 rintro e w1 ⟨v,rfl,hown,hf1⟩
 obtain ⟨Ai,ci,rfl,_,_⟩:=own_slice hown
 rw [List.length_map,hbsl] at hown ⊢
 have hSi:Sl w1 Ai bs.length (bs.map ptr):=by rw [hbsl];exact own_Sl hown
 clear hown hI
 go_wp2
 go_loopg [2,3,9] m (fun q c2 c3 c9 wr=>∃ (k:Nat) (A1:Option Addr) (d1:Nat) (A2:Option Addr) (d2:Nat) (v1 v2:List Value) (t1 t2:List TL),k≤m∧c9 = .int .i64 (k:Int)∧c2 = .slice A1 k d1∧c3 = .slice A2 k d2∧wr.ownsRow w1.heap.size 105 1 (.slice A1 k d1) k v1∧wr.ownsRow w1.heap.size 105 1 (.slice A2 k d2) k v2∧Hid (TlsV wr v1 t1)∧Hid (TlsV wr v2 t2)∧Hid (TlsOf (V false) k t1)∧Hid (TlsOf (V true) k t2) ∧
  Hid (∀ b,(Value.slice A1 k d1).ownBlock=some b→(Value.slice A2 k d2).ownBlock≠some b)∧Fr nope w1 wr∧q=m - k)
 case atStart=>exact ⟨0,none,0,none,0,[],[],[],[],Nat.zero_le _,rfl,rfl,rfl,own_nil _ _ _ _,own_nil _ _ _ _,Lib.hid ⟨rfl,by simp⟩,Lib.hid ⟨rfl,by simp⟩,Lib.hid ⟨rfl,by simp⟩,Lib.hid ⟨rfl,by simp⟩,Lib.hid (by simp [Value.ownBlock]),Fr.refl _ _,rfl⟩
 case round=>
  obtain ⟨k,A1,d1,A2,d2,v1,v2,t1,t2,hk,rfl,rfl,rfl,ho1,ho2,ht1,ht2,hs1,hs2,hdj,hf,rfl⟩:=hrel
  by_cases hlt:k < m
  ·obtain ⟨rb,hrb,hcs,hms⟩:=hgo.out k hlt
   obtain ⟨b,off,u,hAe,hbl',hu,hc⟩:=(hSi.nope hf).at_ (show k < bs.length by omega)
   rw [List.getElem?_map,hrb] at hu
   injection hu with hu
   subst hu
   unfold ptr at hc
   have hP:=fun p W (hW:Fr nope w1 W)=>plainMasks_calls W (mm p k) (V p k) (hms p W (hf1.then hW)) (hV.out p k hlt).1 n (hV.out p k hlt).2 hn
   have hcs':∀ W,Fr nope w1 W→W.cell? ⟨rb,12,none⟩=some (.map (some (mm false k)))∧W.cell? ⟨rb,13,none⟩=some (.map (some (mm true k))):=fun W hW=>hcs W (hf1.then hW)
   replace hcs':=Lib.hid hcs'
   replace hP:=Lib.hid hP
   clear hcs hms hrb hgo
   subst hAe
   have hsz:=hf.size
   have hdr:=hf.drew
   have hd:=(Fr.refl nope wr).drew
   have hbo1:=own_base ho1
   have hbo2:=own_base ho2
   have hgrow:∀ W,Fr nope w1 W→w1.heap.size≤W.heap.size:=fun W h=>h.size
   go_wp2_with fail
   refine rgPL (S:=fun W=>Fr nope w1 W) (b:=rb) (m1:=mm false k) (m2:=mm true k)
    (R1:=fun y W=>Fr nope wr W∧Fr nope w1 W∧∃ A5 c5 s,y = .slice A5 s.length c5∧TlAt W A5 s∧Tidy s∧tv s=V false k)
    (R2:=fun v W=>Fr nope w1 W∧∃ A6 c6 x1 s1,v = .slice A6 (k+1) c6∧W.ownsRow w1.heap.size 105 1 (.slice A6 (k+1) c6) (k+1) x1∧TlsV W x1 s1∧TlsOf (V false) (k+1) s1∧W.ownsRow w1.heap.size 105 1 (.slice A2 k d2) k v2∧TlsV W v2 t2∧∀ b,(Value.slice A6 (k+1) c6).ownBlock=some b→(Value.slice A2 k d2).ownBlock≠some b)
    (R3:=fun v W=>Fr nope w1 W∧∃ A6 c6 x1 s1,v = .slice A6 (k+1) c6∧W.ownsRow w1.heap.size 105 1 (.slice A6 (k+1) c6) (k+1) x1∧TlsV W x1 s1∧TlsOf (V false) (k+1) s1∧W.ownsRow w1.heap.size 105 1 (.slice A2 k d2) k v2∧TlsV W v2 t2∧∀ b,(Value.slice A6 (k+1) c6).ownBlock=some b→(Value.slice A2 k d2).ownBlock≠some b)
    (R4:=fun y W=>∃ A7 c7 s,y = .slice A7 s.length c7∧TlAt W A7 s∧Tidy s∧tv s=V true k)
    (R5:=fun v u W=>Fr nope w1 W∧∃ A6 c6 A8 c8 x1 x2 s1 s2,v = .slice A6 (k+1) c6∧u = .slice A8 (k+1) c8∧W.ownsRow w1.heap.size 105 1 (.slice A6 (k+1) c6) (k+1) x1∧W.ownsRow w1.heap.size 105 1 (.slice A8 (k+1) c8) (k+1) x2∧TlsV W x1 s1∧TlsV W x2 s2∧TlsOf (V false) (k+1) s1∧TlsOf (V true) (k+1) s2∧∀ b,(Value.slice A6 (k+1) c6).ownBlock=some b→(Value.slice A8 (k+1) c8).ownBlock≠some b)
    (((Bun.nil rfl rfl).cons 5 rfl).cons 3 rfl |>.cons 2 rfl) (fun d _ _ _ _ h=>by cases d<;>simpa [Exit.inBlock,Exit.then,bodyPost,Act.put] using h) hdr (fun W hW=>(hcs'.out W hW).1) (fun W hW=>(hcs'.out W hW).2) (fun W o hW=>hW.alloc o) ?_ ?_ ?_ ?_ ?_
   ·refine (hP.out false _ hdr).mono ?_
    rintro e w5 ⟨hf5,A5,c5,s,q1,q2,rfl,hown5⟩
    exact ⟨_,_,_,rfl,⟨hd.then hf5,hdr.then hf5,A5,c5,s,rfl,hown5,q1,q2⟩,hdr.then hf5⟩
   ·rintro y w5 a K ⟨hq5,hn5,A5,c5,s,rfl,hr5,q1,q2⟩ f15 f22 hK
    have hal:=(Fr.refl nope w5).alloc (.cells #[.slice A5 s.length c5] 105)
    have ho15:=own_fr (own_fr ho1 hq5 (fun _ _ x=>x)) hal (fun _ _ x=>x)
    have ho25:=own_fr (own_fr ho2 hq5 (fun _ _ x=>x)) hal (fun _ _ x=>x)
    have hg:=hgrow _ (hn5.alloc (.cells #[.slice A5 s.length c5] 105))
    refine wp_app (o:=oPL 7) rfl Tryz.underlying36 infoLs rfl (by omega) (v:=.slice A1 k d1) f15 ho15 f22 (news:=[.slice A5 s.length c5]) rfl (one_new _ _ _ _ rfl) (by simp [Value.oneCell']) (by simp only [maxLen];omega) (by omega) hg ?_
    intro v w6 hown6 hf6 hb6
    obtain ⟨A6,c6,rfl,_,_⟩:=own_slice hown6
    have hS6:NoT [184] _ (fun b=>(Value.slice A1 k d1).ownBlock=some b):=NoT.own ho15 (by decide)
    have hn6:Fr nope w1 w6:=(hn5.alloc _).then_new hf6 (fun x hx e=>by have:=hbo1 x e;omega)
    refine hK _ _ ⟨hn6,A6,c6,_,_,rfl,hown6,?_,hs1.out.snoc q1 q2,own_fr ho25 hf6 (fun b hb e=>hdj.out b e hb),?_,?_⟩ hn6
    ·exact ((TlsV.snoc (ht1.out.frT hq5 (NoT.nope _ _)) hr5).frT hal (NoT.nope _ _)).frT hf6 hS6
    ·exact ((ht2.out.frT hq5 (NoT.nope _ _)).frT hal (NoT.nope _ _)).frT hf6 hS6
    ·intro b hb hb2
     rcases hb6 with e | e
     ·rw [hb] at e;exact hdj.out b e.symm hb2
     ·rw [hb] at e
      injection e with e
      have:=own_lt ho25 b hb2
      omega
   ·rintro v w6 ⟨hn6,A6,c6,x1,s1,rfl,g1,g2,g2',g3,g4,g5⟩
    refine (hP.out true _ hn6).mono ?_
    rintro e w7 ⟨hf7,A7,c7,s,q1,q2,rfl,hown7⟩
    exact ⟨_,_,_,rfl,⟨hn6.then hf7,A6,c6,x1,s1,rfl,own_fr g1 hf7 (fun _ _ x=>x),g2.frT hf7 (NoT.nope _ _),g2',own_fr g3 hf7 (fun _ _ x=>x),g4.frT hf7 (NoT.nope _ _),g5⟩,⟨A7,c7,s,rfl,hown7,q1,q2⟩,hn6.then hf7⟩
   ·rintro v y w7 a K ⟨hn7,A6,c6,x1,s1,rfl,g1,g2,g2',g3,g4,g5⟩ ⟨A7,c7,s,rfl,hr7,q1,q2⟩ f24 f31 hK
    have hal:=(Fr.refl nope w7).alloc (.cells #[.slice A7 s.length c7] 105)
    have ho17:=own_fr g1 hal (fun _ _ x=>x)
    have ho27:=own_fr g3 hal (fun _ _ x=>x)
    have hg:=hgrow _ (hn7.alloc (.cells #[.slice A7 s.length c7] 105))
    refine wp_app (o:=oPL 15) rfl Tryz.underlying36 infoLs rfl (by omega) (v:=.slice A2 k d2) f24 ho27 f31 (news:=[.slice A7 s.length c7]) rfl (one_new _ _ _ _ rfl) (by simp [Value.oneCell']) (by simp only [maxLen];omega) (by omega) hg ?_
    intro u w8 hown8 hf8 hb8
    obtain ⟨A8,c8,rfl,_,_⟩:=own_slice hown8
    have hS8:NoT [184] _ (fun b=>(Value.slice A2 k d2).ownBlock=some b):=NoT.own ho27 (by decide)
    have hn8:Fr nope w1 w8:=(hn7.alloc _).then_new hf8 (fun x hx e=>by have:=hbo2 x e;omega)
    refine hK _ _ ⟨hn8,A6,c6,A8,c8,x1,_,s1,_,rfl,rfl,own_fr ho17 hf8 (fun b hb e=>g5 b hb e),hown8,?_,?_,g2',hs2.out.snoc q1 q2,?_⟩ hn8
    ·exact (g2.frT hal (NoT.nope _ _)).frT hf8 hS8
    ·exact ((TlsV.snoc g4 hr7).frT hal (NoT.nope _ _)).frT hf8 hS8
    ·intro b hb hb2
     rcases hb8 with e | e
     ·rw [hb2] at e;exact g5 b hb e.symm
     ·rw [hb2] at e
      injection e with e
      have:=own_lt ho17 b hb
      omega
   ·rintro v u w8 a ⟨hn8,A6,c6,A8,c8,x1,x2,s1,s2,rfl,rfl,g1,g2,g3,g4,g6,g7,g5⟩ ⟨x13,x14,x15,x16,x17,x18,x19,x20,x21,x22,x23,x24,x25,x26,x27,x28,rfl⟩
    simp only [putL,List.foldl_cons,List.foldl_nil,Act.put,List.setIfInBounds_toArray,List.set_cons_zero,List.set_cons_succ]
    replace g3:=Lib.hid g3
    replace g4:=Lib.hid g4
    replace g5:=Lib.hid g5
    replace g6:=Lib.hid g6
    replace g7:=Lib.hid g7
    go_wp2
    go_roundg (m - (k+1))
    case measure=>omega
    case rel=>exact ⟨k+1,A6,c6,A8,c8,x1,x2,s1,s2,by omega,by go_num,rfl,rfl,g1,g2,g3,g4,g6,g7,g5,hn8,rfl⟩
  ·have hkn:k=m:=by omega
   subst hkn
   go_wp2
   go_ret2
   exact ⟨hf1.then hf,A1,d1,A2,d2,t1,t2,rfl,⟨v1,by rw [hs1.out.1];exact Rw.of_own ho1,ht1.out⟩,⟨v2,by rw [hs2.out.1];exact Rw.of_own ho2,ht2.out⟩,hs1.out,hs2.out⟩
end
section
open Go Go.RowKit Go.MapKept Bth
set_option maxRecDepth 100000
structure LvOk (ns:List PN):Prop where
 ok:ns.all okN=true
 ops:∀ p∈insP ns,p.Ok
 canc:∀ p∈insP ns,p.canc=true→2≤(gsOf p.inp).length
theorem AFOk.lv {ns:List PN} (h:AFOk ns):LvOk ns:=⟨h.ok,h.ops,h.canc⟩
theorem ins_ok_of {w w0:World} {wb B:Nat} {fs:Nat→Option Nat} (hW:WAt w wb fs) {s:SV} {ns:List PN} {nds:List Nd} {rs:List Rec} {cms:List (Nat × List ByteArray)} (hM:Mt fs ns nds rs cms) (hN:NodesAt w0 B s ns) (h:LvOk ns):∀ r∈rs,InsOk r:=by
 intro r hr
 obtain ⟨p,hp,hm⟩:=hM.each hr
 obtain ⟨n,hn,rfl⟩:=insP_mem hp
 have hf:=(hN.each n hn).ins.few
 have h2:=pOps_len hm.inp
 have h3:=pOps_len hm.out
 have h4:=(hm.regs hW (h.ops _ hp)).2.2.1
 refine ⟨by omega,by omega,fun hc=>?_⟩
 have h5:=h.canc _ hp (by rw [← hm.canc];exact hc)
 rw [← h4,List.length_map] at h5
 exact h5
theorem u_few {w:World} {B:Nat} {s:SV} {ns:List PN} (hN:NodesAt w B s ns) (hops:∀ p∈insP ns,p.Ok) (sc:Nat→List (Option Nat)):(flowP (insP ns) sc).U.length≤10000000000000∧∀ c∈(flowP (insP ns) sc).U,c < 4294967296:=by
 constructor
 ·show ((insP ns).flatMap fun p=>(inGs p.canc p.inp p.out).map G.id).length≤_
  have hl:(insP ns).length≤1048576:=by
   have h1:=hN.few
   have:(insP ns).length≤ns.length:=by unfold insP;rw [List.length_map];exact List.length_filter_le _ _
   omega
  have hp:∀ p∈insP ns,((inGs p.canc p.inp p.out).map G.id).length≤4194304:=fun p hp=>by
   obtain ⟨n,hn,rfl⟩:=insP_mem hp
   have hf:=(hN.each n hn).ins.few
   have:=inGs_le n.ins.canc n.ins.inp n.ins.out
   rw [List.length_map]
   omega
  have key:∀ l:List PI,(∀ p∈l,((inGs p.canc p.inp p.out).map G.id).length≤4194304)→(l.flatMap fun p=>(inGs p.canc p.inp p.out).map G.id).length≤l.length*4194304:=by
   intro l
   induction l with
   | nil=>simp
   | cons x l ih=>
    intro h
    have h1:=h x (by simp)
    have h2:=ih fun p hp=>h p (by simp [hp])
    rw [List.flatMap_cons,List.length_append,List.length_cons]
    omega
  have:=key _ hp
  omega
 ·intro c hc
  obtain ⟨p,hp,h2⟩:=List.mem_flatMap.1 hc
  obtain ⟨g,hg,rfl⟩:=List.mem_map.1 h2
  refine G.id_lt ?_
  rcases inGs_mem hg with hg | hg
  ·exact gsOf_ok (hops p hp).inp g hg
  ·exact gsOf_ok (hops p hp).out g hg
theorem live_plain2 {w0:World} {wb:Nat} {fs:Nat→Option Nat} (hW:WAt w0 wb fs) {ns:List PN} {nds:List Nd} {rs:List Rec} {cms:List (Nat × List ByteArray)} (hM:Mt fs ns nds rs cms) (hp:∀ p∈insP ns,p.Ok) (hinj:∀ (j k:Nat) (a b:Rec),rs[j]? = some a→rs[k]? = some b→a.b=b.b→j=k)
  {sc scP:Nat→List (Option Nat)} (hsc:∀ k,k < rs.length→sc k=(scP k).map (blk (rs.map (·.b)))) {V:Sets} (hS:Sound (flowOf rs sc) V) (ho:∀ k,k < rs.length→closedOut (flowOf rs sc) V k) (hi:∀ k,k < rs.length→closedIn (flowOf rs sc) V k):
  ∀ i c b,i < rs.length→((V false i c).testBit b=true↔LiveInP (insP ns) scP i c b)∧((V true i c).testBit b=true↔LiveOutP (insP ns) scP i c b):=by
 obtain ⟨h1,h2,h3,_,h5⟩:=flow_plain hW hM hp hinj hsc
 intro i c b hlt
 have e1:(flowOf rs sc).reads=(flowP (insP ns) scP).reads:=by unfold Flow.reads;rw [h1,h2]
 have e2:(flowOf rs sc).writes=(flowP (insP ns) scP).writes:=by unfold Flow.writes;rw [h3]
 have e3:(flowOf rs sc).succ=(flowP (insP ns) scP).succ:=by funext i s;exact propext (h5 i s)
 obtain ⟨x1,x2⟩:=hS.exact ho hi (c:=c) (b:=b) hlt
 rw [x1,x2,e1,e2,e3]
 exact ⟨Iff.rfl,Iff.rfl⟩
def LvT (L:Nat→Nat→Nat→Prop) (n:Nat) (l:List TL):Prop:=l.length=n∧∀ (k:Nat) (s:TL),l[k]? = some s→Tidy s∧∀ c b,(tv s c).testBit b=true↔L k c b
def GivesIL (w:World) (ns:List PN) (e:Ending) (w':World):Prop:=Fr nope w w' ∧
 ((∃ A c D d l1 l2 sc,e = .returned (.tuple #[.slice A (insP ns).length c,.slice D (insP ns).length d,.bool true])∧GraphP ns sc∧TlsAt w' A l1∧TlsAt w' D l2∧LvT (LiveInP (insP ns) sc) (insP ns).length l1∧LvT (LiveOutP (insP ns) sc) (insP ns).length l2) ∨
  (e = .returned (.tuple #[.slice none 0 0,.slice none 0 0,.bool false])∧∀ sc,¬GraphP ns sc))
set_option maxHeartbeats 4000000 in
theorem ImLive_calls (w:World) (s:SV) (ns:List PN) (hN:NodesAt w w.heap.size s ns) (h:LvOk ns):Calls Tryz.prog 20 #[.slice s.A s.n s.c] w (GivesIL w ns):=by
 have hfew:=hN.few
 go_enter Tryz.func20,Tryz.ntmps20
 go_wp2_with fail
 refine (newWorld_calls w).mono ?_
 rintro e w1 ⟨rfl,hW,hf1⟩
 have hN1:=hN.fr hf1 (fun _ _ x=>x)
 have hF:=function_calls w1 w.heap.size (fun _=>none) s ns hN1 hW
 have hl1:=hf1.size
 go_wp2_with fail
 refine hF.mono ?_
 rintro e w2 ⟨fs,hg,hW2,hf2,⟨fb,f,nds,rs,cms,hok,st,hfb,hbare,hfresh,rfl⟩ | ⟨hok,_⟩⟩
 rotate_left
 ·rw [h.ok] at hok;cases hok
 obtain ⟨A,c,hnn,_,_⟩:=own_slice st.nodes
 have hSn:Sl w2 A nds.length (nds.map Nd.val):=by have h:=st.nodes;rw [hnn] at h;exact own_Sl h
 have hnl:nds.length≤1048576:=by rw [st.mt.len];exact hfew
 have hLT:=LabelTarget_calls w2 fb f nds A c st.fn hnn hSn (by omega)
 have hwl:=lt_of_heap hW.1
 have hf02:Fr nope w w2:=hf1.then_new hf2 (fun x hx e=>by omega)
 have hsz2:=hf2.size
 unfold ptr at hLT ⊢
 have hfs3:∀ (w3:World) (mb:Nat),FnAt w3 fb { f with lt:=some mb } → Fr (fun b=>b=fb) w2 w3→FState w3 fs ns fb { f with lt:=some mb } nds rs cms:=fun w3 mb hv hf=>st.setFn hv rfl hf
 have htb:∀ t:ByteArray→Option Nat,ltRun nds=some ⟨t,[]⟩→∀ s b,t s=some b→∃ r∈rs,r.b=b:=by
  intro t ht s b hs
  have:=lt_targets ht s b hs
  rw [st.mt.insOf] at this
  obtain ⟨r,hr,e⟩:=List.mem_map.1 this
  exact ⟨r,hr,e⟩
 have hrb:∀ r∈rs,fb < r.b:=fun r hr=>Nat.lt_of_lt_of_le (st.recs r hr).2.1 (st.recs r hr).1.own.b1
 replace hfs3:=Lib.hid hfs3
 replace htb:=Lib.hid htb
 replace hrb:=Lib.hid hrb
 go_wp2_with fail
 refine hLT.mono ?_
 rintro e w3 (⟨t,mb,ht,rfl,hfn3,hM3,hmb,hf3⟩ | ⟨ht,⟨T,v,rfl⟩,hf3⟩)
 rotate_left
 ·go_wp2
  go_ret3
  exact ⟨hf02.then hf3,.inr ⟨rfl,graph_none st.mt ht⟩⟩
 have st3:=hfs3.out _ _ hfn3 hf3
 have hC:=CFG_calls w3 fs ns fb { f with lt:=some mb } nds rs cms mb t st3 hfresh rfl hM3 hnl (htb.out _ ht)
 have hf03:Fr nope w w3:=hf02.then_new hf3 (fun x hx e=>by omega)
 unfold ptr at hC
 have hsz3:=hf3.size
 go_wp2_with fail
 refine hC.mono ?_
 rintro e w4 ⟨hf4,hM4,⟨sc,rs1,X,hsc,rfl,hlk,st4,L4,hX⟩ | ⟨⟨k,r,hr,hno⟩,T,v,rfl⟩⟩
 rotate_left
 ·go_wp2
  go_ret3
  exact ⟨hf03.then_new hf4 (fun x hx ⟨r,hr,e⟩=>by have:=hrb.out r hr;omega),.inr ⟨rfl,graph_none2 st.mt ht hr hno⟩⟩
 have hrs1:rs1.length=rs.length:=hlk.1
 have hM1:=st4.mt
 have hbs1:=hlk.bs
 obtain ⟨scP,hG,hblk⟩:=graph_some st.mt ht hsc
 have hinj1:∀ (j k:Nat) (a b:Rec),rs1[j]? = some a→rs1[k]? = some b→a.b=b.b→j=k:=fun j k a b h1 h2 h3=>st4.inj h1 h2 h3
 have hblk1:∀ k,k < rs1.length→sc k=(scP k).map (blk (rs1.map (·.b))):=fun k hk=>by rw [hbs1];exact hblk k (by omega)
 have hpl:=flow_plain hW2 hM1 h.ops hinj1 hblk1
 have hnlen:(insP ns).length=rs.length:=st.mt.match_.1
 have hLv:=Liveness_calls w4 fs ns fb { f with lt:=some mb } nds rs1 cms w3.heap.size X sc st4 L4 (fun k hk=>hX.1 k (by omega)) (fun r hr=>ins_ok_of hW2 hM1 hN h r hr)
  (fun k b hk hb=>by
   have hk':k < rs.length:=by omega
   have h1:=succK_mem (hsc k _ (List.getElem?_eq_getElem hk')) hb fun s b hs=>by
    obtain ⟨r,hr,e⟩:=htb.out _ ht s b hs
    exact List.mem_map.2 ⟨r,hr,e⟩
   rw [← hbs1] at h1
   obtain ⟨r,hr,e⟩:=List.mem_map.1 h1
   exact ⟨r,hr,e⟩)
  (fun k hk=>succK_le (hsc k _ (List.getElem?_eq_getElem (show k < rs.length by omega)))) hnl
 have hrb1:∀ r∈rs1,fb < r.b:=fun r hr=>Nat.lt_of_lt_of_le (st4.recs r hr).2.1 (st4.recs r hr).1.own.b1
 have hf04:Fr nope w w4:=hf03.then_new hf4 (fun x hx ⟨r,hr,e⟩=>by have:=hrb.out r hr;omega)
 have hsz4:=hf4.size
 have huf:=u_few hN h.ops scP
 replace hrb1:=Lib.hid hrb1
 replace hpl:=Lib.hid hpl
 replace hinj1:=Lib.hid hinj1
 replace hblk1:=Lib.hid hblk1
 replace hblk:=Lib.hid hblk
 replace hsc:=Lib.hid hsc
 replace hbs1:=Lib.hid hbs1
 replace hrs1:=Lib.hid hrs1
 replace hnlen:=Lib.hid hnlen
 replace huf:=Lib.hid huf
 clear hX
 unfold ptr at hLv
 go_wp2_with fail
 refine hLv.mono ?_
 rintro e w5 ⟨rfl,hf5,rs2,mm,V,hlk2,st5,_,lv5,hS,ho,hi⟩
 have hV1:=live_plain2 hW2 hM1 h.ops hinj1.out hblk1.out hS ho hi
 have hrs2:rs2.length=rs1.length:=hlk2.1
 have hsup:∀ p k,k < rs2.length→(∀ c,V p k c≠0→c∈(flowP (insP ns) scP).U):=fun p k hk c hv=>by
  have h1:=hS.sup p k c (by show k < rs1.length;omega) hv
  rwa [hpl.out.2.2.2.1] at h1
 have hP:=plainLive_calls w5 fs ns fb { f with lt:=some mb } nds rs2 cms mm V st5 lv5 hnl _ huf.out.1
  (fun p k hk=>⟨fun c hc=>huf.out.2 c (hsup p k hk c hc),fun D hD hd=>nodup_le hD fun c hc=>hsup p k hk c (hd c hc)⟩)
 have hf05:Fr nope w w5:=hf04.then_new hf5 (fun x hx ⟨r,hr,e⟩=>by have:=hrb1.out r hr;omega)
 have hsz5:=hf5.size
 have hlen2:rs2.length=(insP ns).length:=by rw [hrs2,hrs1.out,hnlen.out]
 have hV2:∀ i c b,i < (insP ns).length→((V false i c).testBit b=true↔LiveInP (insP ns) scP i c b)∧((V true i c).testBit b=true↔LiveOutP (insP ns) scP i c b):=fun i c b hi=>hV1 i c b (by omega)
 clear hV1 ho hi hS hsup
 rw [hlen2] at hP
 replace hV2:=Lib.hid hV2
 replace hrs2:=Lib.hid hrs2
 replace hlen2:=Lib.hid hlen2
 replace hlk2:=Lib.hid hlk2
 unfold ptr at hP
 go_wp2_with fail
 refine hP.mono ?_
 rintro e w6 ⟨hf6,A6,c6,D6,d6,l1,l2,rfl,t1,t2,t3,t4⟩
 go_wp2
 go_ret3
 refine ⟨hf05.then hf6,.inl ⟨A6,c6,D6,d6,l1,l2,scP,rfl,hG,t1,t2,⟨t3.1,fun k s hk=>?_⟩,⟨t4.1,fun k s hk=>?_⟩⟩⟩
 ·have hkl:k < (insP ns).length:=by rw [← t3.1];exact (List.getElem?_eq_some_iff.1 hk).1
  obtain ⟨h1,h2⟩:=t3.2 k s hk
  exact ⟨h1,fun c b=>by rw [h2];exact (hV2.out k c b hkl).1⟩
 ·have hkl:k < (insP ns).length:=by rw [← t4.1];exact (List.getElem?_eq_some_iff.1 hk).1
  obtain ⟨h1,h2⟩:=t4.2 k s hk
  exact ⟨h1,fun c b=>by rw [h2];exact (hV2.out k c b hkl).2⟩
end
section
open Go Go.RowKit Bth
set_option maxRecDepth 100000
structure RegI (p p':PI):Prop where
 ops:gsOf p'.ops=gsOf p.ops
 outs:outGs p'.out=outGs p.out
 ins:inGs p'.canc p'.inp p'.out=inGs p.canc p.inp p.out
def RegL (is is':List PI):Prop:=is'.length=is.length∧∀ (k:Nat) (p p':PI),is[k]? = some p→is'[k]? = some p'→RegI p p'
theorem RegI.refl (p:PI):RegI p p:=⟨rfl,rfl,rfl⟩
theorem RegI.symm {p p':PI} (h:RegI p p'):RegI p' p:=⟨h.ops.symm,h.outs.symm,h.ins.symm⟩
theorem RegL.refl (is:List PI):RegL is is:=⟨rfl,fun k p p' h1 h2=>by rw [h1] at h2;injection h2 with h2;subst h2;exact .refl p⟩
theorem RegL.symm {is is':List PI} (h:RegL is is'):RegL is' is:=⟨h.1.symm,fun k p p' h1 h2=>(h.2 k p' p h2 h1).symm⟩
theorem RegL.get {is is':List PI} (h:RegL is is') {k:Nat} {p:PI} (hk:is[k]? = some p):∃ p',is'[k]? = some p'∧RegI p p':=by
 have hl:=(List.getElem?_eq_some_iff.1 hk).1
 have:is'[k]? = some (is'[k]'(by rw [h.1];exact hl)):=List.getElem?_eq_getElem _
 exact ⟨_,this,h.2 k p _ hk this⟩
theorem RegL.mem {is is':List PI} (h:RegL is is') {p:PI} (hp:p∈is):∃ p'∈is',RegI p p':=by
 obtain ⟨k,hk⟩:=List.mem_iff_getElem?.1 hp
 obtain ⟨p',h1,h2⟩:=h.get hk
 exact ⟨p',List.mem_of_getElem? h1,h2⟩
theorem RegL.kinds {is is':List PI} (h:RegL is is') {k:Nat} (hk:kindsP is k):kindsP is' k:=by
 obtain ⟨p,hp,g,hg,e⟩:=hk
 obtain ⟨p',hp',hr⟩:=h.mem hp
 exact ⟨p',hp',g,by rw [hr.ops];exact hg,e⟩
theorem RegL.adds {is is':List PI} (h:RegL is is') {k v:Nat} (hk:addsP is k v):addsP is' k v:=by
 obtain ⟨p,hp,g,hg,e⟩:=hk
 obtain ⟨p',hp',hr⟩:=h.mem hp
 exact ⟨p',hp',g,by rw [hr.ops];exact hg,e⟩
theorem RegL.use {is is':List PI} (h:RegL is is'):useP is'=useP is∧defP is'=defP is:=by
 constructor<;>funext k
 ·unfold useP
  cases hk:is[k]? with
  | none=>rw [List.getElem?_eq_none_iff] at hk;rw [List.getElem?_eq_none (by rw [h.1];exact hk)]
  | some p=>obtain ⟨p',h1,h2⟩:=h.get hk;rw [h1];show ofGs _=ofGs _;rw [h2.ins]
 ·unfold defP
  cases hk:is[k]? with
  | none=>rw [List.getElem?_eq_none_iff] at hk;rw [List.getElem?_eq_none (by rw [h.1];exact hk)]
  | some p=>obtain ⟨p',h1,h2⟩:=h.get hk;rw [h1];show ofGs _=ofGs _;rw [h2.outs]
theorem RegL.flow {is is':List PI} (h:RegL is is') (sc:Nat→List (Option Nat)):(flowP is' sc).reads=(flowP is sc).reads∧(flowP is' sc).writes=(flowP is sc).writes∧(flowP is' sc).succ=(flowP is sc).succ:=by
 obtain ⟨h1,h2⟩:=h.use
 refine ⟨?_,?_,?_⟩
 ·funext i c b
  show (i < is'.length∧(useP is' i c).testBit b=true)=(i < is.length∧(useP is i c).testBit b=true)
  rw [h.1,h1]
 ·funext i c b
  show ((defP is' i c).testBit b=true)=((defP is i c).testBit b=true)
  rw [h2]
 ·funext x y
  show (x < is'.length∧y < is'.length∧some y∈sc x)=(x < is.length∧y < is.length∧some y∈sc x)
  rw [h.1]
theorem RegL.out {is is':List PI} (h:RegL is is') (sc:Nat→List (Option Nat)):LiveOutP is' sc=LiveOutP is sc:=by
 obtain ⟨h1,h2,h3⟩:=h.flow sc
 unfold LiveOutP
 rw [h1,h2,h3]
theorem RegL.edges {is is':List PI} (h:RegL is is') {sc:Nat→List (Option Nat)} {k:Nat} {e:Nat × Nat} (he:edgesP is sc k e):edgesP is' sc k e:=by
 obtain ⟨i,p,g,hp,hg,h1,h2,h3,h4,b,h5,h6⟩:=he
 obtain ⟨p',hp',hr⟩:=h.get hp
 exact ⟨i,p',g,hp',by rw [hr.outs];exact hg,h1,h2,h3,h4,b,by rw [h.out];exact h5,h6⟩
theorem RegL.color {is is':List PI} (h:RegL is is') {sc:Nat→List (Option Nat)} {k:Nat} {r:Option (Nat→Option Nat)} (hc:ColorP is sc k r):ColorP is' sc k r:=by
 have e1:edgesP is' sc k=edgesP is sc k:=by funext e;exact propext ⟨fun he=>h.symm.edges he,fun he=>h.edges he⟩
 have e2:addsP is' k=addsP is k:=by funext v;exact propext ⟨fun he=>h.symm.adds he,fun he=>h.adds he⟩
 unfold ColorP at hc ⊢
 rw [e1,e2]
 exact hc
theorem AFRes.regs {ns ns':List PN} (h:RegL (insP ns) (insP ns')) (hG:∀ sc,GraphP ns' sc↔GraphP ns sc):∀ {r:Option (Nat→Option Nat)},AFRes ns r→AFRes ns' r
 | some f,hr=>by
  obtain ⟨sc,fk,h1,h2,h3⟩:=hr
  refine ⟨sc,fk,(hG sc).2 h1,fun k hk=>h.color (h2 k (h.symm.kinds hk)),fun v=>⟨fun hk=>(h3 v).1 (h.symm.kinds hk),fun hk=>(h3 v).2 fun hk2=>hk (h.kinds hk2)⟩⟩
 | none,hr=>by
  rcases hr with hr | ⟨sc,k,h1,h2,h3⟩
  ·exact .inl fun sc hs=>hr sc ((hG sc).1 hs)
  ·exact .inr ⟨sc,k,(hG sc).2 h1,h.kinds h2,h.color h3⟩
theorem ColorP.sc {is:List PI} {sc sc':Nat→List (Option Nat)} (h:∀ k,k < is.length→sc k=sc' k) {k:Nat} {r:Option (Nat→Option Nat)} (hc:ColorP is sc k r):ColorP is sc' k r:=by
 have e:edgesP is sc k=edgesP is sc' k:=by
  funext x
  unfold edgesP
  rw [LiveOutP.congr h]
 unfold ColorP at hc ⊢
 rw [← e]
 exact hc
theorem AFRes.uniq {ns:List PN} : ∀ {r r':Option (Nat→Option Nat)},AFRes ns r→AFRes ns r'→r=r'
 | none,none,_,_=>rfl
 | some f,some f',h,h'=>by
  obtain ⟨sc,fk,h1,h2,h3⟩:=h
  obtain ⟨sc',fk',h1',h2',h3'⟩:=h'
  congr 1
  funext v
  by_cases hk:kindsP (insP ns) (kindOf v)
  ·rw [(h3 v).1 hk,(h3' v).1 hk]
   have:=((h2 _ hk).sc (h1.uniq h1')).uniq (h2' _ hk)
   injection this with this
   rw [this]
  ·rw [(h3 v).2 hk,(h3' v).2 hk]
 | some f,none,h,h'=>by
  obtain ⟨sc,fk,h1,h2,_⟩:=h
  rcases h' with h' | ⟨sc',k,h1',h2',h3'⟩
  ·exact absurd h1 (h' sc)
  ·have:=((h2 _ h2').sc (h1.uniq h1')).uniq h3'
   cases this
 | none,some f,h',h=>by
  obtain ⟨sc,fk,h1,h2,_⟩:=h
  rcases h' with h' | ⟨sc',k,h1',h2',h3'⟩
  ·exact absurd h1 (h' sc)
  ·have:=((h2 _ h2').sc (h1.uniq h1')).uniq h3'
   cases this
theorem PairsOf.uniq {f:Nat→Option Nat} {l l':List (Nat × Nat)} (h:PairsOf f l) (h':PairsOf f l'):l=l':=by
 obtain ⟨h1,h2⟩:=h
 obtain ⟨h1',h2'⟩:=h'
 have nd:∀ {l:List (Nat × Nat)},(l.Pairwise fun a b=>a.1 < b.1)→l.Nodup:=fun h=>h.imp fun {a b} hab e=>by rw [e] at hab;omega
 have hp:l.Perm l':=(List.perm_ext_iff_of_nodup (nd h2) (nd h2')).2 fun p=>(h1 p).trans (h1' p).symm
 exact hp.eq_of_pairwise (le:=fun a b=>a.1 < b.1) (fun a b _ _ hab hba=>by omega) h2 h2'
def quietL (ns:List PN):List PN:=ns.filter fun p=>!(p.kind == 3)
theorem quiet_ins (ns:List PN):insP (quietL ns)=insP ns:=by
 unfold insP quietL
 rw [List.filter_filter]
 congr 2
 funext p
 by_cases h:p.kind=1
 ·simp [h]
 ·simp [h]
theorem quiet_run (ns:List PN):lpRun (quietL ns)=lpRun ns:=by
 have key:∀ (ns:List PN) (s:LP),(quietL ns).foldlM lpStep s=ns.foldlM lpStep s:=by
  intro ns
  induction ns with
  | nil=>intro s;rfl
  | cons p ns ih=>
   intro s
   by_cases h3:p.kind=3
   ·have e:quietL (p :: ns)=quietL ns:=by unfold quietL;rw [List.filter_cons];simp [h3]
    have e2:lpStep s p=some s:=by unfold lpStep;rw [if_neg (by omega),if_neg (by omega)]
    rw [e,List.foldlM_cons,e2,ih s]
    rfl
   ·have e:quietL (p :: ns)=p :: quietL ns:=by unfold quietL;rw [List.filter_cons];simp [h3]
    rw [e,List.foldlM_cons,List.foldlM_cons]
    cases lpStep s p with
    | none=>rfl
    | some s'=>exact ih s'
 exact key ns _
theorem quiet_graph (ns:List PN) (sc:Nat→List (Option Nat)):GraphP (quietL ns) sc↔GraphP ns sc:=by
 unfold GraphP
 rw [quiet_run,quiet_ins]
end
end Go.Proofs.YtbgblfiapecioaaGreat
