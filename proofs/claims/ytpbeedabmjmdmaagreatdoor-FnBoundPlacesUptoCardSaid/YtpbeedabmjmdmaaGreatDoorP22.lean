/- Part of the proof of a statement about pub-berthage: what its texts have in common. -/
import Derived.Test.YtpbeedabmjmdmaaGreatDoorP08
import Derived.Test.YtpbeedabmjmdmaaGreatDoorP09
import Derived.Test.YtpbeedabmjmdmaaGreatDoorP21
namespace Go.Proofs.YtpbeedabmjmdmaaGreatDoor
section
open Go Go.RowKit Bth
set_option maxRecDepth 100000
theorem R.mV (r:R) (hv:r.virt=true):∃ T v,r.val = .iface T v∧(∀ W,(method 479 T v "Kind").run Tryz.prog W = .ok (275,r.coreV) W) ∧
  (∀ W,(method 479 T v "VirtualIndex").run Tryz.prog W = .ok (276,r.coreV) W)∧(∀ W,(method 479 T v "Mask").run Tryz.prog W = .ok (190,.int .u16 (r.spec:Int)) W) ∧
  (∀ W,(method 479 T v "ID").run Tryz.prog W = .ok (274,r.coreV) W):=by
 obtain ⟨T,v,h⟩:=r.val_iface
 have key:∀ {T' v'},r.val = .iface T' v'→T'=T∧v'=v:=fun h'=>by rw [h] at h';injection h' with a b;exact ⟨a.symm,b.symm⟩
 refine ⟨T,v,h,fun W=>?_,fun W=>?_,fun W=>?_,fun W=>?_⟩
 ·obtain ⟨T',v',h1,h2⟩:=r.m_Kind_v W hv;obtain ⟨rfl,rfl⟩:=key h1;rw [sizeTypes] at h2;exact h2
 ·obtain ⟨T',v',h1,h2⟩:=r.m_VirtualIndex_v W hv;obtain ⟨rfl,rfl⟩:=key h1;rw [sizeTypes] at h2;exact h2
 ·obtain ⟨T',v',h1,h2⟩:=r.m_Mask_v W hv;obtain ⟨rfl,rfl⟩:=key h1;rw [sizeTypes] at h2;exact h2
 ·obtain ⟨T',v',h1,h2⟩:=r.m_ID_v W hv;obtain ⟨rfl,rfl⟩:=key h1;rw [sizeTypes] at h2;exact h2
theorem ToVirtual_calls (w:World) (r:R):Calls Tryz.prog 179 #[r.val] w fun e w'=>e = .returned (if r.virt then r.val else .nilIface)∧w'=w:=by
 have hta:=fun W=>R.ta_Virtual (w:=W) 145 r
 obtain ⟨T,v,h⟩:=r.val_iface
 cases hv:r.virt
 all_goals
  simp only [hv,h,if_true,if_false,Bool.false_eq_true] at hta ⊢
  go_enter Tryz.func179,Tryz.ntmps179
  go_wp2
  go_ret
  exact ⟨rfl,rfl⟩
theorem ToPhysical_calls (w:World) (r:R):Calls Tryz.prog 64 #[r.val] w fun e w'=>e = .returned (if r.virt then .nilIface else r.val)∧w'=w:=by
 have hta:=fun W=>R.ta_Physical (w:=W) 145 r
 obtain ⟨T,v,h⟩:=r.val_iface
 cases hv:r.virt
 all_goals
  simp only [hv,h,if_true,if_false,Bool.false_eq_true,Bool.not_true,Bool.not_false] at hta ⊢
  go_enter Tryz.func64,Tryz.ntmps64
  go_wp2
  go_ret
  exact ⟨rfl,rfl⟩
def R.plain (r:R):G:=⟨r.virt,r.kind,r.idx,r.spec⟩
set_option maxHeartbeats 2000000 in
theorem plainReg_calls (w:World) (r:R) (hat:r.At w):Calls Tryz.prog 163 #[r.val] w fun e w'=>e = .returned r.plain.agg∧Fr nope w w':=by
 have hTV:=fun W=>ToVirtual_calls W r
 have hTP:=fun W=>ToPhysical_calls W r
 cases hv:r.virt with
 | true=>
  obtain ⟨T,v,h,hm1,hm2,hm3,_⟩:=r.mV hv
  simp only [R.coreV] at hm1 hm2
  simp only [hv,if_true,h] at hTV ⊢
  have hG:r.plain.agg = .agg #[.bool true,.int .u8 (r.kind:Int),.int .u16 (r.idx:Int),.int .u16 (r.spec:Int)]:=by unfold R.plain G.agg;rw [hv]
  rw [hG]
  clear hTP hG
  go_enter Tryz.func163,Tryz.ntmps163
  go_wp2_with (first
   | (go_at_call 179;refine (hTV _).mono ?_;rintro e w1 ⟨rfl,rfl⟩)
   | (go_at_call 275;refine (virtual_Kind_calls _ r.idx r.kind r.spec).mono ?_;rintro e w2 ⟨rfl,hf2⟩)
   | (go_at_call 276;refine (virtual_VI_calls _ r.idx r.kind r.spec).mono ?_;rintro e w3 ⟨rfl,hf3⟩)
   | (go_at_call 190;refine (Mask_calls _ r.spec).mono ?_;rintro e w4 ⟨rfl,rfl⟩;have hb4:=(hf2.then hf3).heap (heap_alloc_new w _) (fun x=>x))
   | (refine wpList_storeRow (b:=w.heap.size) rfl rfl rfl rfl hb4 rfl (by kernel_rfl) (by kernel_rfl) ?_;intro w5 hb5 hf5))
  refine bodyPost_ret (results_cell_row rfl _ _ w.heap.size _ _ _ _ rfl hb5 Tryz.underlying40 rfl (by kernel_rfl)) rfl ?_
  exact ⟨rfl,((((Fr.refl nope w).alloc _).then hf2).then hf3).then_new hf5 (fun x hx e=>by omega)⟩
 | false=>
  obtain ⟨T,v,h,hm1,hm2,_,_⟩:=r.mP hv
  obtain ⟨T',v',h',hm3⟩:=r.kindP hv
  obtain ⟨rfl,rfl⟩:T'=T∧v'=v:=by rw [h] at h';injection h' with a b;exact ⟨a.symm,b.symm⟩
  simp only [R.coreP] at hm1
  have hc:=hat.cell hv
  simp only [hv,if_false,Bool.false_eq_true,h] at hTV hTP ⊢
  have hG:r.plain.agg = .agg #[.bool false,.int .u8 (r.kind:Int),.int .u16 (r.idx:Int),.int .u16 (r.spec:Int)]:=by unfold R.plain G.agg;rw [hv]
  rw [hG]
  clear hG
  go_enter Tryz.func163,Tryz.ntmps163
  go_wp2_with (first
   | (go_at_call 179;refine (hTV _).mono ?_;rintro e w1 ⟨rfl,rfl⟩)
   | (go_at_call 64;refine (hTP _).mono ?_;rintro e w1 ⟨rfl,rfl⟩)
   | (go_at_call 220;refine (register_Kind_calls _ r.fb r.idx r.kind r.spec r.info r.name (((Fr.refl nope w).alloc _).cell hc (fun x=>x))).mono ?_;rintro e w2 ⟨rfl,hf2⟩)
   | (go_at_call 221;refine (register_PI_calls _ r.fb r.idx r.spec r.info r.name).mono ?_;rintro e w3 ⟨rfl,hf3⟩)
   | (go_at_call 190;refine (Mask_calls _ r.spec).mono ?_;rintro e w4 ⟨rfl,rfl⟩;have hb4:=(hf2.then hf3).heap (heap_alloc_new w _) (fun x=>x))
   | (refine wpList_storeRow (b:=w.heap.size) rfl rfl rfl rfl hb4 rfl (by kernel_rfl) (by kernel_rfl) ?_;intro w5 hb5 hf5))
  refine bodyPost_ret (results_cell_row rfl _ _ w.heap.size _ _ _ _ rfl hb5 Tryz.underlying40 rfl (by kernel_rfl)) rfl ?_
  exact ⟨rfl,((((Fr.refl nope w).alloc _).then hf2).then hf3).then_new hf5 (fun x hx e=>by omega)⟩
end
section
open Go Go.RowKit Go.MapKept Bth
set_option maxRecDepth 100000
def AP (rs:List Rec) (i j k:Nat) (v:Nat):Prop:=∃ (i':Nat) (r:Rec) (d:R),rs[i']? = some r∧((i' < i∧d∈regsOf r.ops)∨(i'=i∧d∈(regsOf r.ops).take j))∧d.kind=k∧v=d.id
def AAll (rs:List Rec) (k v:Nat):Prop:=∃ r∈rs,∃ d∈regsOf r.ops,d.kind=k∧v=d.id
theorem AP.start (rs:List Rec) (k v:Nat):¬AP rs 0 0 k v:=by
 rintro ⟨i',r,d,_,⟨h,_⟩ | ⟨_,h⟩,_⟩
 ·omega
 ·simp at h
theorem AP.done {rs:List Rec} {k v:Nat} : AP rs rs.length 0 k v↔AAll rs k v:=by
 constructor
 ·rintro ⟨i',r,d,h1,⟨_,h⟩ | ⟨_,h⟩,h3⟩
  ·exact ⟨r,List.mem_of_getElem? h1,d,h,h3⟩
  ·simp at h
 ·rintro ⟨r,hr,d,h,h3⟩
  obtain ⟨i',h1⟩:=List.getElem?_of_mem hr
  exact ⟨i',r,d,h1,.inl ⟨(List.getElem?_eq_some_iff.1 h1).1,h⟩,h3⟩
theorem AP.row {rs:List Rec} {i k:Nat} {r:Rec} (hr:rs[i]? = some r) {v:Nat} : AP rs i (regsOf r.ops).length k v↔AP rs (i+1) 0 k v:=by
 constructor
 ·rintro ⟨i',r',d,h1,⟨h,h2⟩ | ⟨rfl,h2⟩,h3⟩
  ·exact ⟨i',r',d,h1,.inl ⟨by omega,h2⟩,h3⟩
  ·rw [hr] at h1
   injection h1 with h1
   subst h1
   exact ⟨i',r,d,hr,.inl ⟨by omega,by simpa using h2⟩,h3⟩
 ·rintro ⟨i',r',d,h1,⟨h,h2⟩ | ⟨_,h2⟩,h3⟩
  ·by_cases e:i'=i
   ·subst e
    rw [hr] at h1
    injection h1 with h1
    subst h1
    exact ⟨i',r,d,hr,.inr ⟨rfl,by simpa using h2⟩,h3⟩
   ·exact ⟨i',r',d,h1,.inl ⟨by omega,h2⟩,h3⟩
  ·simp at h2
theorem AP.step {rs:List Rec} {i j k:Nat} {r:Rec} {d:R} (hr:rs[i]? = some r) (hd:(regsOf r.ops)[j]? = some d) {v:Nat} : AP rs i (j+1) k v↔AP rs i j k v∨(d.kind=k∧v=d.id):=by
 constructor
 ·rintro ⟨i',r',d',h1,⟨h,h2⟩ | ⟨rfl,h2⟩,h3⟩
  ·exact .inl ⟨i',r',d',h1,.inl ⟨h,h2⟩,h3⟩
  ·rw [hr] at h1
   injection h1 with h1
   subst h1
   rw [List.take_add_one,hd] at h2
   rcases List.mem_append.1 h2 with h2 | h2
   ·exact .inl ⟨i',r,d',hr,.inr ⟨rfl,h2⟩,h3⟩
   ·obtain rfl:d'=d:=by simpa using h2
    exact .inr h3
 ·rintro (⟨i',r',d',h1,⟨h,h2⟩ | ⟨rfl,h2⟩,h3⟩ | h3)
  ·exact ⟨i',r',d',h1,.inl ⟨h,h2⟩,h3⟩
  ·rw [hr] at h1
   injection h1 with h1
   subst h1
   exact ⟨i',r,d',hr,.inr ⟨rfl,by rw [List.take_add_one];exact List.mem_append_left _ h2⟩,h3⟩
  ·exact ⟨i,r,d,hr,.inr ⟨rfl,by rw [List.take_add_one,hd];simp⟩,h3⟩
abbrev GivesRB (w:World) (fb:Nat) (f:Fn) (rs:List Rec) (V:Sets):=GivesRA w fb f (kindsOf rs) (AAll rs) (EAll rs (V true))
set_option maxHeartbeats 4000000 in
theorem phC (w0 w:World) (fs:Nat→Option Nat) (ns:List PN) (fb:Nat) (f:Fn) (nds:List Nd) (rs:List Rec) (cms:List (Nat × List ByteArray)) (mm:Bool→Nat→Nat) (V:Sets) (U:List Nat) (hin:ARIn w0 fs ns fb f nds rs cms mm V U)
  (mb:Nat) (K:List Nat) (gs:Nat→AlG) (xs:Nat→Al) (Ps:Nat→Nat→Prop) {u1 u2 u4 u5 u6 u7 u8 u9 u10 u11 u12 u13 u14 u15 u16 u17 u18 u19 u20 u21 u22 u23 u24 u25 u26 u27 u28 u29 u30 u31 u32 u33 u34 u35 u36 u37 u38 u39 u40 u41 u42 u43 u44 u45 u46 u47 u48 u49 u50 u51 u52 u53 u54 u55 u56 u57 u58 u59 u60 u61 u62 u63 u64 u65 u66 u67 u68 u69 u70 u71 u72 u73 u74 u75 u76 u77 u78 u79 u80 u81 u82 u83 u84 u85 u86 u87 u88 u89 u90 u91 u92 u93 u94 u95 u96 u97 u98 u99 u100 u101 u102 u103 u104 u105 u106 u107 u108 u109 u110 u111 u112 u113 u114 u115 u116 u117 u118 u119 u120 u121 u122 u123 u124 u125 u126 u127 u128 u129 u130 u131 u132 u133 u134 u135 u136 u137 u138 u139 u140 u141 u142 u143 u144 u145 u146 u147 u148 u149 u150 u151 u152 u153 u154 u155 u156 u157 u158 u159 u160 u161 u162 u163 u164 u165 u166 u167 u168 u169 u170 u171 u172 u173 u174 u175 u176 u177 u178 u179 u180 u181 u182 u183 u184:Value} (hA:AS w0 w mb K gs xs Ps) (hfr:Fr nope w0 w) (hK:∀ k,k∈K↔kindsOf rs k)
  (hR:∀ k∈K,(xs k).regs=regsK k∧(xs k).al=(fun _=>none)∧(xs k).edges=[]∧(xs k).poss=fun _=>none):
  Code.wp Tryz.prog (arTail 4) (bodyPost Tryz.prog Tryz.f46 (GivesRB w0 fb f rs V)) ⟨#[.pointer (some ⟨fb,0,none⟩),u1,u2,.map (some mb),u4,u5,u6,u7,u8,u9,u10,u11,u12,u13,u14,u15,u16,u17,u18,u19,u20,u21,u22,u23,u24,u25,u26,u27,u28,u29,u30,u31,u32,u33,u34,u35,u36,u37,u38,u39,u40,u41,u42,u43,u44,u45,u46,u47,u48,u49,u50,u51,u52,u53,u54,u55,u56,u57,u58,u59,u60,u61,u62,u63,u64,u65,u66,u67,u68,u69,u70,u71,u72,u73,u74,u75,u76,u77,u78,u79,u80,u81,u82,u83,u84,u85,u86,u87,u88,u89,u90,u91,u92,u93,u94,u95,u96,u97,u98,u99,u100,u101,u102,u103,u104,u105,u106,u107,u108,u109,u110,u111,u112,u113,u114,u115,u116,u117,u118,u119,u120,u121,u122,u123,u124,u125,u126,u127,u128,u129,u130,u131,u132,u133,u134,u135,u136,u137,u138,u139,u140,u141,u142,u143,u144,u145,u146,u147,u148,u149,u150,u151,u152,u153,u154,u155,u156,u157,u158,u159,u160,u161,u162,u163,u164,u165,u166,u167,u168,u169,u170,u171,u172,u173,u174,u175,u176,u177,u178,u179,u180,u181,u182,u183,u184],[]⟩ w:=by
 conv=>arg 2;whnf
 have hrl:=hin.len
 have hfl:=Nat.lt_of_lt_of_le (lt_of_heap hin.st.fn) hfr.size
 have hI:=hin.instrs w hfr
 go_wp2_with fail
 refine hI.mono ?_
 rintro e w1 ⟨v,rfl,hown,hf1⟩
 simp only [List.length_map] at hown
 obtain ⟨A1,c1,rfl,_,_⟩:=own_slice hown
 have hA1:=hA.still hf1
 have hSl:=own_Sl hown
 rw [List.map_map] at hSl
 go_wp2
 have hbase:=own_base hown
 have hlt1:=own_lt hown
 replace hbase:=Lib.hid hbase
 replace hlt1:=Lib.hid hlt1
 have hw1:=hfr.then hf1
 have hPs0:∀ k∈K,∀ c,Ps k c→c < w.heap.size:=fun k hk c hc=>(hA.at_ k hk).lt c hc
 have hX0:∀ k∈K,AOk k (xs k) (AP rs 0 0 k) (fun _=>False)∧(xs k).edges=[]:=fun k hk=>by
  obtain ⟨h1,h2,h3,h4⟩:=hR k hk
  have hn:∀ v,¬toldOf (AP rs 0 0 k) (fun _=>False) v:=fun v hv=>hv.elim (AP.start rs k v) fun ⟨_,h,_⟩=>h
  exact ⟨⟨h1,h2,fun e=>by rw [h3];simp,fun v l hl=>(by rw [h4] at hl;cases hl),fun v _ hv=>absurd hv (hn v),fun v hv=>absurd hv (hn v)⟩,h3⟩
 go_loopg [101] rs.length (fun n c101 wr=>∃ (i:Nat) (gs':Nat→AlG) (xs':Nat→Al) (Ps':Nat→Nat→Prop),i≤rs.length∧c101 = .int .i64 (i:Int)∧AS w0 wr mb K gs' xs' Ps'∧(∀ k∈K,∀ c,Ps' k c→Ps k c∨w1.heap.size≤c) ∧
  (∀ k∈K,AOk k (xs' k) (AP rs i 0 k) (fun _=>False)∧(xs' k).edges=[])∧Sl wr A1 rs.length (List.map (ptr ∘ fun x=>x.b) rs)∧w1.heap.size≤wr.heap.size∧Fr nope w0 wr∧n=rs.length - i)
 case atStart=>exact ⟨0,gs,xs,Ps,Nat.zero_le _,rfl,hA1,fun k hk c hc=>.inl hc,hX0,hSl,Nat.le_refl _,hw1,rfl⟩
 case round=>
  obtain ⟨i,gs',xs',Ps',hi,rfl,hAS,hPs,hX,hSr,hsz,hf,rfl⟩:=hrel
  by_cases hlt:i < rs.length
  ·obtain ⟨b0,off,u,hA1e,hbl,hu,hc⟩:=hSr.at_ hlt
   rw [List.getElem?_map] at hu
   obtain ⟨r,hr,rfl⟩:=Option.map_eq_some_iff.1 hu
   have hrm:=List.mem_of_getElem? hr
   have hrA0:=(hin.st.recs r hrm).1
   have hrA:=hrA0.nope hf
   have hb:=hrA.own.at_
   have hbl2:=lt_of_heap hb
   have hol:=(hin.ol r hrm).2
   have hOut:=InsRegisters_own wr r.i r.ops hrA.opsAt (by omega)
   have hOl:=regsOf_le r.ops
   simp only [Function.comp,ptr] at hc
   replace hr:=Lib.hid hr
   obtain ⟨wo,rfl⟩:∃ wo:World,wo=wr:=⟨_,rfl⟩
   clear hu
   subst hA1e
   go_wp2_with (first
    | (refine wpList_loadRow (b:=r.b) rfl rfl rfl hb Tryz.underlying130 rfl (by kernel_rfl) ?_)
    | (go_at_call 63;refine hOut.mono ?_;rintro e w2 ⟨A2,c2,rfl,hO2,hR2,hf2⟩))
   have hb2:=own_base hO2
   have hl2:=own_lt hO2
   have hb0:=hbase.out b0 rfl
   have hl0:=hlt1.out b0 rfl
   have hsz2:=hf2.size
   have hAS2:=hAS.still hf2
   have hPs2:∀ k∈K,∀ c,Ps' k c→Ps k c∨(w1.heap.size≤c∧c < wo.heap.size):=fun k hk c hc=>(hPs k hk c hc).imp id fun h=>⟨h,(hAS.at_ k hk).lt c hc⟩
   have hSO:=own_Sl hO2
   replace hb2:=Lib.hid hb2
   replace hl2:=Lib.hid hl2
   go_loopg [110] (regsOf r.ops).length (fun n c110 wr=>∃ (j:Nat) (gs':Nat→AlG) (xs':Nat→Al) (Ps':Nat→Nat→Prop),j≤(regsOf r.ops).length∧c110 = .int .i64 (j:Int)∧AS w0 wr mb K gs' xs' Ps'∧(∀ k∈K,∀ c,Ps' k c→Ps k c∨(w1.heap.size≤c∧(c < wo.heap.size∨w2.heap.size≤c))) ∧
    (∀ k∈K,AOk k (xs' k) (AP rs i j k) (fun _=>False)∧(xs' k).edges=[])∧Sl wr (some ⟨b0,off,none⟩) rs.length (List.map (ptr ∘ fun x=>x.b) rs)∧Sl wr A2 (regsOf r.ops).length ((regsOf r.ops).map R.val)∧w2.heap.size≤wr.heap.size∧Fr nope w0 wr∧n=(regsOf r.ops).length - j)
   case atStart=>exact ⟨0,gs',xs',Ps',Nat.zero_le _,rfl,hAS2,fun k hk c hc=>(hPs2 k hk c hc).imp id fun h=>⟨h.1,.inl h.2⟩,hX,hSr.nope hf2,hSO,Nat.le_refl _,hf.then hf2,rfl⟩
   case round=>
    clear hAS hAS2 hX hPs hPs2 hSr hSO hb
    obtain ⟨j,gs',xs',Ps',hj,rfl,hAS,hPs,hX,hSr,hSd,hszr,hf',rfl⟩:=hrel
    by_cases hjl:j < (regsOf r.ops).length
    ·obtain ⟨b3,off3,u,hA2e,hbl3,hu,hc3⟩:=hSd.at_ hjl
     rw [List.getElem?_map] at hu
     obtain ⟨d,hd,rfl⟩:=Option.map_eq_some_iff.1 hu
     have hdm:=List.mem_of_getElem? hd
     have hdA0:=regsOf_at hrA0.opsAt d hdm
     have hb3:=hb2.out b3 (by rw [hA2e];rfl)
     have hl3:=hl2.out b3 (by rw [hA2e];rfl)
     have hdK:d.kind∈K:=(hK _).2 ⟨r,hrm,d,hdm,rfl⟩
     have hd3:d.kind≤3:=hin.kinds r hrm d hdm
     have hkid:=R.kind_id hdA0.1
     have hid32:=R.id_lt hdA0.1
     have hAP:=fun k v=>AP.step (k:=k) (v:=v) hr.out hd
     replace hd:=Lib.hid hd
     replace hAP:=Lib.hid hAP
     replace hkid:=Lib.hid hkid
     clear hu
     subst hA2e
     obtain ⟨wo2,rfl⟩:∃ wo2:World,wo2=wr:=⟨_,rfl⟩
     have hXd:=hX d.kind hdK
     have hlk:∀ W,Fr nope wo2 W→(Instr.lookup 163 (.map (some mb)) (.int .u8 (d.kind:Int)) false).run Tryz.prog W = .ok (.pointer (some ⟨(gs' d.kind).a,0,none⟩)) W:=fun W hW=>(hAS.still hW).look hdK
     have hcall:∀ W,Fr nope wo2 W→Calls Tryz.prog 84 #[.pointer (some ⟨(gs' d.kind).a,0,none⟩),.int .u32 (d.id:Int)] W fun e w'=>e = .returned (.tuple #[])∧Turns (Ps' d.kind) W (gs' d.kind).a (addA (xs' d.kind) d.id) w':=fun W hW=>
      AlAdd_calls W (Ps' d.kind) (xs' d.kind) (gs' d.kind) d.id ((hAS.still hW).at_ _ hdK) (by rw [hXd.1.regs];have:=(regsK_facts d.kind (by omega)).2.2.2.2.2.1;omega) hid32
     have fin:∀ (W w6:World),Fr nope wo2 W→Turns (Ps' d.kind) W (gs' d.kind).a (addA (xs' d.kind) d.id) w6→∃ (gs1:Nat→AlG) (xs1:Nat→Al) (Ps1:Nat→Nat→Prop),AS w0 w6 mb K gs1 xs1 Ps1∧(∀ k∈K,∀ c,Ps1 k c→Ps k c∨(w1.heap.size≤c∧(c < wo.heap.size∨w2.heap.size≤c))) ∧
       (∀ k∈K,AOk k (xs1 k) (AP rs i (j+1) k) (fun _=>False)∧(xs1 k).edges=[])∧Sl w6 (some ⟨b0,off,none⟩) rs.length (List.map (ptr ∘ fun x=>x.b) rs)∧Sl w6 (some ⟨b3,off3,none⟩) (regsOf r.ops).length ((regsOf r.ops).map R.val)∧w2.heap.size≤w6.heap.size∧Fr nope w0 w6:=by
      intro W w6 hW hT
      obtain ⟨g6,hg6,h6,hf6⟩:=hT
      have hASW:=hAS.still hW
      have hfW:=hf'.then hW
      have hs1:=hW.size
      have hs6:=hf6.size
      have hnot:∀ b,(w.heap.size≤b∧b < w1.heap.size)∨(wo.heap.size≤b∧b < w2.heap.size)→¬Ps' d.kind b:=fun b hb hp=>by
       rcases hPs _ hdK b hp with h | h
       ·have:=hPs0 _ hdK b h
        have:=hf1.size
        omega
       ·omega
      refine ⟨updF gs' d.kind g6,updF xs' d.kind (addA (xs' d.kind) d.id),updF Ps' d.kind (wider (Ps' d.kind) W w6),hASW.turn hdK hg6 h6 hf6,fun k hk c hc=>?_,fun k hk=>?_,(hSr.nope hW).fr hf6 (fun _ b o e=>?_),(hSd.nope hW).fr hf6 (fun _ b o e=>?_),by omega,hASW.fr hfW hdK hf6⟩
      ·by_cases ek:k=d.kind
       ·subst ek
        rw [updF_self] at hc
        rcases hc with hc | hc
        ·exact hPs _ hk c hc
        ·exact .inr ⟨by omega,.inr (by omega)⟩
       ·rw [updF_ne _ _ ek] at hc
        exact hPs k hk c hc
      ·by_cases ek:k=d.kind
       ·subst ek
        rw [updF_self]
        refine ⟨(hXd.1.add hd3 hkid.out hid32).congr (fun e=>Iff.rfl) (fun v=>?_),(addA_edges _ _).trans hXd.2⟩
        unfold toldOf
        rw [hAP.out]
        exact or_congr (or_congr Iff.rfl ⟨fun h=>h.2,fun h=>⟨rfl,h⟩⟩) Iff.rfl
       ·rw [updF_ne _ _ ek]
        have hno:∀ v,AP rs i (j+1) k v↔AP rs i j k v:=fun v=>by
         rw [hAP.out]
         exact ⟨fun h=>h.elim id fun h=>absurd h.1.symm ek,.inl⟩
        exact ⟨(hX k hk).1.congr (fun e=>Iff.rfl) (fun v=>by unfold toldOf;rw [hno]),(hX k hk).2⟩
      ·injection e with e
       injection e with e _
       subst e
       exact hnot _ (.inl ⟨hb0,hl0⟩)
      ·injection e with e
       injection e with e _
       subst e
       exact hnot _ (.inr ⟨hb3,hl3⟩)
     have hdw:Fr nope wo2 wo2.drew:=(Fr.refl _ _).drew
     have hatw:=hdA0.2.nope (hf'.then hdw)
     have ok:=hdA0.1
     have hvi:d.virt=true→d.id=1+d.kind*256+d.idx*65536:=fun h=>by simp [R.id,h]
     have hpi:d.virt=false→d.id=0+d.kind*256+d.idx*65536:=fun h=>by simp [R.id,h]
     cases hv:d.virt with
     | true=>
      obtain ⟨T,v,h,hm1,_,_,hm4⟩:=d.mV hv
      simp only [R.coreV] at hm1 hm4
      have hid:=hvi hv
      rw [h] at hc3
      have hcI:∀ W,Calls Tryz.prog 274 #[.agg #[.int .u16 (d.idx:Int),.int .u8 (d.kind:Int),.int .u16 (d.spec:Int)]] W fun e w'=>e = .returned (.int .u32 (d.id:Int))∧Fr nope W w':=fun W=>by
       rw [hid];exact virtual_ID_calls W d.idx d.kind d.spec ok.idx ok.kind
      replace hv:=Lib.hid hv
      replace hid:=Lib.hid hid
      go_upto_region 33 with fail
      go_region_with (first
       | (go_at_call 275;refine (virtual_Kind_calls _ d.idx d.kind d.spec).mono ?_;rintro e w3 ⟨rfl,hf3⟩;have hlk3:=hlk w3 (hdw.then hf3))
       | (go_at_call 274;refine (hcI _).mono ?_;rintro e w4 ⟨rfl,hf4⟩;have hlk4:=hlk w4 ((hdw.then hf3).then hf4))
       | (go_at_call 84;refine (hcall _ ((hdw.then hf3).then hf4)).mono ?_;rintro e w6 ⟨rfl,hT⟩))
      all_goals
       go_wp2
       go_roundg ((regsOf r.ops).length - (j+1))
       case measure=>omega
       case rel=>
        obtain ⟨gs1,xs1,Ps1,h1,h2,h3,h4,h5,h6,h7⟩:=fin _ w6 ((hdw.then hf3).then hf4) hT
        exact ⟨j+1,gs1,xs1,Ps1,by omega,by go_num,h1,h2,h3,h4,h5,h6,h7,rfl⟩
     | false=>
      obtain ⟨T,v,h,_,_,_,hm4⟩:=d.mP hv
      obtain ⟨T',v',h',hm1⟩:=d.kindP hv
      obtain ⟨rfl,rfl⟩:T'=T∧v'=v:=by rw [h] at h';injection h' with a b;exact ⟨a.symm,b.symm⟩
      simp only [R.coreP] at hm4
      have hid:=hpi hv
      rw [h] at hc3
      have hcI:∀ W,Fr nope wo2.drew W→Calls Tryz.prog 218 #[.agg #[.pointer (some ⟨d.fb,0,none⟩),.int .u16 (d.idx:Int),.string d.name,.int .u8 (d.info:Int),.int .u16 (d.spec:Int)]] W fun e w'=>e = .returned (.int .u32 (d.id:Int))∧Fr nope W w':=fun W hW=>by
       rw [hid];exact register_ID_calls W d.fb d.idx d.kind d.spec d.info d.name ok.idx ok.kind ((hatw.nope hW).cell hv)
      have hcK:=register_Kind_calls wo2.drew d.fb d.idx d.kind d.spec d.info d.name (hatw.cell hv)
      replace hv:=Lib.hid hv
      replace hid:=Lib.hid hid
      replace h':=Lib.hid h'
      go_upto_region 33 with fail
      go_region_with (first
       | (go_at_call 220;refine hcK.mono ?_;rintro e w3 ⟨rfl,hf3⟩;have hlk3:=hlk w3 (hdw.then hf3))
       | (go_at_call 218;refine (hcI _ hf3).mono ?_;rintro e w4 ⟨rfl,hf4⟩;have hlk4:=hlk w4 ((hdw.then hf3).then hf4))
       | (go_at_call 84;refine (hcall _ ((hdw.then hf3).then hf4)).mono ?_;rintro e w6 ⟨rfl,hT⟩))
      all_goals
       go_wp2
       go_roundg ((regsOf r.ops).length - (j+1))
       case measure=>omega
       case rel=>
        obtain ⟨gs1,xs1,Ps1,h1,h2,h3,h4,h5,h6,h7⟩:=fin _ w6 ((hdw.then hf3).then hf4) hT
        exact ⟨j+1,gs1,xs1,Ps1,by omega,by go_num,h1,h2,h3,h4,h5,h6,h7,rfl⟩
    ·have hje:j=(regsOf r.ops).length:=by omega
     subst hje
     go_wp2
     go_roundg (rs.length - (i+1))
     case measure=>omega
     case rel=>
      refine ⟨i+1,gs',xs',Ps',by omega,by go_num,hAS,fun k hk c hc=>(hPs k hk c hc).imp id fun h=>h.1,fun k hk=>⟨(hX k hk).1.congr (fun e=>Iff.rfl) (fun v=>?_),(hX k hk).2⟩,hSr,by omega,hf',rfl⟩
      unfold toldOf
      rw [AP.row hr.out]
  ·obtain rfl:i=rs.length:=by omega
   go_upto_if 102 with (fail)
   iterate 4 (first | go_step | go_back)
   exact phD w0 wr fs ns fb f nds rs cms mm V U hin mb K gs' xs' Ps' (AAll rs) hAS hf hK (fun k hk=>⟨(hX k hk).1.congr (fun e=>Iff.rfl) (fun v=>by unfold toldOf;rw [AP.done]),(hX k hk).2⟩)
end
section
open Go Go.RowKit Go.MapKept Bth
set_option maxRecDepth 100000
def MidK (k:Nat) (l:List Nat) (x:Al):Prop:=∃ ids,ids.Nodup∧(∀ j,j∈ids↔j∈freeK k)∧x.prio=prs l∧SortedOf (ltP x.prio) ids x.regs∧x.al=(fun _=>none)∧x.edges=[]∧x.poss=fun _=>none
def DoneK (k:Nat) (x:Al):Prop:=x.regs=regsK k∧x.al=(fun _=>none)∧x.edges=[]∧x.poss=fun _=>none
theorem MidK.done {k:Nat} (hk:k≤3) {fb:Nat} {x:Al} (h:MidK k (bpIds (famRegs fb k)) x):DoneK k x:=by
 obtain ⟨ids,h1,h2,h3,h4,h5,h6,h7⟩:=h
 rw [bpIds_fb] at h3
 rw [h3] at h4
 exact ⟨regsK_of hk h1 h2 h4,h5,h6,h7⟩
theorem MidK.len {k:Nat} (hk:k≤3) {l:List Nat} {x:Al} (h:MidK k l x):x.regs.length < 4611686018427387904:=by
 obtain ⟨ids,h1,h2,h3,h4,_⟩:=h
 obtain ⟨g1,g2,g3,_,_,g6,_⟩:=regsK_facts k (by omega)
 have:=h4.1.length_eq
 have h5:ids.length≤(regsK k).length:=nodup_le h1 fun x hx=>g2 x ((h2 x).1 hx)
 omega
theorem MidK.step {k:Nat} {l:List Nat} {x:Al} (h:MidK k l x) {id:Nat} {ys:List Nat} (hy:SortedOf (ltP (setPr x.prio id (-1))) x.regs ys):MidK k (l ++ [id]) { x with regs:=ys,prio:=setPr x.prio id (-1) }:=by
 obtain ⟨ids,h1,h2,h3,h4,h5⟩:=h
 exact ⟨ids,h1,h2,by rw [prs_snoc,h3],⟨hy.1.trans h4.1,hy.2⟩,h5⟩
theorem AS.turnSame {w0 w w':World} {mb:Nat} {K:List Nat} {gs:Nat→AlG} {xs:Nat→Al} {Ps:Nat→Nat→Prop} (h:AS w0 w mb K gs xs Ps) {k:Nat} (hk:k∈K) {x:Al} (ha:AlAt w' (Ps k) x (gs k)) (hf:Fr (Ps k) w w'):
  AS w0 w' mb K gs (updF xs k x) (updF Ps k (wider (Ps k) w w')):=by
 have:=h.turn hk rfl (ha.more (fun c hc=>.inl hc) (wider_lt (h.at_ k hk).lt hf.size)) hf
 have e:updF gs k (gs k)=gs:=by funext j;unfold updF;split;rename_i e;rw [e];rfl
 rw [e] at this
 exact this
set_option maxHeartbeats 4000000 in
theorem phB (w0 w:World) (fs:Nat→Option Nat) (ns:List PN) (fb:Nat) (f:Fn) (nds:List Nd) (rs:List Rec) (cms:List (Nat × List ByteArray)) (mm:Bool→Nat→Nat) (V:Sets) (U:List Nat) (hin:ARIn w0 fs ns fb f nds rs cms mm V U)
  (mb:Nat) (K:List Nat) (gs:Nat→AlG) (xs:Nat→Al) (Ps:Nat→Nat→Prop) {u1 u2 u4 u5 u6 u7 u8 u9 u10 u11 u12 u13 u14 u15 u16 u17 u18 u19 u20 u21 u22 u23 u24 u25 u26 u27 u28 u29 u30 u31 u32 u33 u34 u35 u36 u37 u38 u39 u40 u41 u42 u43 u44 u45 u46 u47 u48 u49 u50 u51 u52 u53 u54 u55 u56 u57 u58 u59 u60 u61 u62 u63 u64 u65 u66 u67 u68 u69 u70 u71 u72 u73 u74 u75 u76 u77 u78 u79 u80 u81 u82 u83 u84 u85 u86 u87 u88 u89 u90 u91 u92 u93 u94 u95 u96 u97 u98 u99 u100 u101 u102 u103 u104 u105 u106 u107 u108 u109 u110 u111 u112 u113 u114 u115 u116 u117 u118 u119 u120 u121 u122 u123 u124 u125 u126 u127 u128 u129 u130 u131 u132 u133 u134 u135 u136 u137 u138 u139 u140 u141 u142 u143 u144 u145 u146 u147 u148 u149 u150 u151 u152 u153 u154 u155 u156 u157 u158 u159 u160 u161 u162 u163 u164 u165 u166 u167 u168 u169 u170 u171 u172 u173 u174 u175 u176 u177 u178 u179 u180 u181 u182 u183 u184:Value} (hA:AS w0 w mb K gs xs Ps) (hfr:Fr nope w0 w) (hK:∀ k,k∈K↔kindsOf rs k)
  (hR:∀ k∈K,MidK k [] (xs k)):
  Code.wp Tryz.prog (arTail 3) (bodyPost Tryz.prog Tryz.f46 (GivesRB w0 fb f rs V)) ⟨#[.pointer (some ⟨fb,0,none⟩),u1,u2,.map (some mb),u4,u5,u6,u7,u8,u9,u10,u11,u12,u13,u14,u15,u16,u17,u18,u19,u20,u21,u22,u23,u24,u25,u26,u27,u28,u29,u30,u31,u32,u33,u34,u35,u36,u37,u38,u39,u40,u41,u42,u43,u44,u45,u46,u47,u48,u49,u50,u51,u52,u53,u54,u55,u56,u57,u58,u59,u60,u61,u62,u63,u64,u65,u66,u67,u68,u69,u70,u71,u72,u73,u74,u75,u76,u77,u78,u79,u80,u81,u82,u83,u84,u85,u86,u87,u88,u89,u90,u91,u92,u93,u94,u95,u96,u97,u98,u99,u100,u101,u102,u103,u104,u105,u106,u107,u108,u109,u110,u111,u112,u113,u114,u115,u116,u117,u118,u119,u120,u121,u122,u123,u124,u125,u126,u127,u128,u129,u130,u131,u132,u133,u134,u135,u136,u137,u138,u139,u140,u141,u142,u143,u144,u145,u146,u147,u148,u149,u150,u151,u152,u153,u154,u155,u156,u157,u158,u159,u160,u161,u162,u163,u164,u165,u166,u167,u168,u169,u170,u171,u172,u173,u174,u175,u176,u177,u178,u179,u180,u181,u182,u183,u184],[]⟩ w:=by
 conv=>arg 2;whnf
 obtain ⟨ks,hmap⟩:=hA.map
 have hks:∀ k,k∈ks↔k∈K:=fun k=>by rw [hmap.mem_iff];unfold asF;by_cases h:k∈K<;>simp [h]
 have hks0:=hmap.nodup
 have hml:=hA.lt
 have hPs0:∀ k∈K,∀ c,Ps k c→c < w.heap.size:=fun k hk c hc=>(hA.at_ k hk).lt c hc
 have hK3:∀ k∈K,k≤3:=fun k hk=>by
  obtain ⟨r,hr,d,hd,rfl⟩:=(hK k).1 hk
  exact hin.kinds r hr d hd
 replace hks:=Lib.hid hks
 go_wp2_with (refine wpList_rangeO rfl rfl rfl (show MapO w (some mb) kindV ks (asF K gs) from hmap) kindInj asT ?_;intro w1 hrg0 hf1 hsz1)
 go_frame
 have hA1:=hA.still hf1
 have hw1:=hfr.then hf1
 replace hsz1:=Lib.hid hsz1
 clear hmap
 go_loopg [] ks.length (fun n wr=>∃ (todo D:List Nat) (xs':Nat→Al) (Ps':Nat→Nat→Prop),RangeO wr w.heap.size (some mb) kindV ks (asF K gs) todo∧AS w0 wr mb K gs xs' Ps'∧(∀ k∈K,∀ c,Ps' k c→Ps k c∨w1.heap.size≤c)∧KInv ks todo D∧(∀ k∈todo,MidK k [] (xs' k))∧(∀ k∈D,DoneK k (xs' k))∧w1.heap.size≤wr.heap.size∧Fr nope w0 wr∧todo.length=n)
 case atStart=>exact ⟨ks,[],xs,Ps,hrg0,hA1,fun k hk c hc=>.inl hc,⟨hks0,List.nodup_nil,by simp,by simp⟩,fun k hk=>hR k ((hks.out k).1 hk),by simp,Nat.le_refl _,hw1,rfl⟩
 case round=>
  obtain ⟨todo,D,xs',Ps',hrg,hAS,hPs,hI,hmid,hdone,hsz,hf,rfl⟩:=hrel
  go_upto_if 76 with (refine wpList_nextO rfl rfl rfl hrg kindInj ?_ ?_)
  ·intro h0
   subst h0
   have hDK:∀ k,k∈K→k∈D:=fun k hk=>by
    have:=(hI.mem k).1 ((hks.out k).2 hk)
    simpa using this
   go_upto_if 76 with (fail)
   iterate 4 (first | go_step | go_back)
   exact phC w0 wr fs ns fb f nds rs cms mm V U hin mb K gs xs' Ps' hAS hf hK (fun k hk=>hdone k (hDK k hk))
  ·intro k v w2 hkt hkk hv hrg2 hf2 hs2 hen
   have hkK:=(hks.out k).1 hkk
   obtain rfl:v=ptr (gs k).a:=by
    unfold asF at hv
    rw [if_pos hkK] at hv
    exact (Option.some.inj hv).symm
   have hk3:=hK3 k hkK
   have hI1:=hI.step hkt
   have hkD:k∉D:=fun hh=>hI.ap k hh hkt
   have hnd:=hI.nd
   have hlen:(todo.erase k).length < todo.length:=by rw [List.length_erase_of_mem hkt];have:=List.length_pos_of_mem hkt;omega
   have hr0:∀ j∈K,¬Ps' j w.heap.size:=fun j hj hp=>by
    have h11:=hsz1.out
    rcases hPs j hj _ hp with h | h
    ·have:=hPs0 j hj _ h;omega
    ·omega
   have hAS2:=hAS.keep hf2 (fun j hj c hc e=>hr0 j hj (e ▸ hc)) (by omega)
   have hf02:Fr nope w0 w2:=hf.then_new hf2 (fun c hc e=>by have:=hfr.size;omega)
   have hPl2:∀ j∈K,∀ c,Ps' j c→c < w2.heap.size:=fun j hj c hc=>(hAS2.at_ j hj).lt c hc
   have hmk:=hmid k hkt
   unfold ptr kindV at hen
   have hs22:wr.heap.size≤w2.heap.size:=Nat.le_of_eq hs2.symm
   replace hs2:=Lib.hid hs2
   replace hI:=Lib.hid hI
   clear hv hrg
   go_wp2_with (first
    | (go_at_call 81;refine (FamilyOfKind_calls _ k hk3).mono ?_;rintro e w3 ⟨rfl,vf,hF,hO,hf3⟩)
    | (go_at_call 82;refine (Registers_fam_calls w3 w2.heap.size k vf _ (famRegs w2.heap.size k) hF hO (by have:=famRegs_len w2.heap.size k;omega)).mono ?_;rintro e w4 ⟨u,rfl,hu,hf4⟩;rw [List.length_map] at hu;obtain ⟨A4,c4,rfl,_,_⟩:=own_slice hu))
   have hreg:=famRegs_ok (fb:=w2.heap.size) hk3
   have hRl:=famRegs_len w2.heap.size k
   have hb4:=own_base hu
   have hl4:=own_lt hu
   have hs3:=hf3.size
   have hs4:=hf4.size
   have hFl:=lt_of_heap hF
   have hAS4:=(hAS2.still hf3).still hf4
   have hSu:=own_Sl hu
   have hF4:=hf4.heap hF (fun x=>x)
   have hrg4:=(hrg2.fr hf3 (fun x=>x) (fun _ _ x=>x)).fr hf4 (fun x=>x) (fun _ _ x=>x)
   have hf04:=(hf02.then hf3).then hf4
   replace hb4:=Lib.hid hb4
   replace hl4:=Lib.hid hl4
   obtain ⟨wo,rfl⟩:∃ wo:World,wo=wr:=⟨_,rfl⟩
   generalize hrsF:famRegs w2.heap.size k=rsF at hreg hRl hSu ⊢
   replace hrsF:=Lib.hid hrsF
   clear hu hO
   go_loopg [85] rsF.length (fun n c85 wr=>∃ (j:Nat) (xs'':Nat→Al) (Ps'':Nat→Nat→Prop),j≤rsF.length∧c85 = .int .i64 (j:Int)∧RangeO wr w.heap.size (some mb) kindV ks (asF K gs) (todo.erase k)∧AS w0 wr mb K gs xs'' Ps''∧(∀ i∈K,∀ c,Ps'' i c→Ps' i c∨w4.heap.size≤c)∧MidK k (bpIds (rsF.take j)) (xs'' k)∧(∀ i,i≠k→xs'' i=xs' i) ∧
    Sl wr A4 rsF.length (rsF.map R.val)∧FamAt wr w2.heap.size k vf∧w4.heap.size≤wr.heap.size∧Fr nope w0 wr∧n=rsF.length - j)
   case atStart=>exact ⟨0,xs',Ps',Nat.zero_le _,rfl,hrg4,hAS4,fun _ _ c hc=>.inl hc,hmk,fun _ _=>rfl,hSu,hF4,Nat.le_refl _,hf04,rfl⟩
   case round=>
    clear hAS hAS2 hAS4 hrg2 hrg4 hF4 hSu hF hmk
    obtain ⟨j,xs'',Ps'',hj,rfl,hrg,hAS,hPs2,hmk,hoth,hSu,hF,hsz4,hf',rfl⟩:=hrel
    by_cases hjl:j < rsF.length
    ·obtain ⟨b3,off3,u,hA4e,hbl3,hu,hc3⟩:=hSu.at_ hjl
     rw [List.getElem?_map] at hu
     obtain ⟨d,hd,rfl⟩:=Option.map_eq_some_iff.1 hu
     obtain ⟨hdv,hd2,hd3,ok⟩:=hreg d (List.mem_of_getElem? hd)
     have hat:=hF.reg d hd2 hd3
     have hb3:=hb4.out b3 (by rw [hA4e];rfl)
     have hl3:=hl4.out b3 (by rw [hA4e];rfl)
     have hT:=bpIds_take hd
     have ha:Go.bits .and .u8 (d.info:Int) 4=((d.info &&& 4:Nat):Int):=u8_and d.info 4 ok.info (by omega)
     obtain ⟨m,hm⟩:∃ m,d.info &&& 4=m:=⟨_,rfl⟩
     rw [hm] at ha hT
     replace hm:=Lib.hid hm
     replace hT:=Lib.hid hT
     replace hd2:=Lib.hid hd2
     replace hd3:=Lib.hid hd3
     clear hu hd
     subst hA4e
     obtain ⟨wo2,rfl⟩:∃ wo2:World,wo2=wr:=⟨_,rfl⟩
     by_cases hz:m=0
     ·subst hz
      go_wp2_with (refine wpList_Info rfl rfl rfl hdv ?_;intro w5 hf5)
      have hs5:=hf5.size
      go_roundg (rsF.length - (j+1))
      case measure=>omega
      case rel=>exact ⟨j+1,xs'',Ps'',by omega,by go_num,hrg.fr hf5 (fun x=>x) (fun _ _ x=>x),hAS.still hf5,hPs2,by rw [hT.out];simpa using hmk,hoth,hSu.nope hf5,hf5.heap hF (fun x=>x),by omega,hf'.then hf5,rfl⟩
     ·have hzz:((m:Int) == 0)=false:=by rw [beq_eq_false_iff_ne];omega
      go_upto_region 25 with (refine wpList_Info rfl rfl rfl hdv ?_;intro w5 hf5)
      have hs5:=hf5.size
      have hcall:∀ W,Fr nope w5 W→Calls Tryz.prog 83 #[.pointer (some ⟨(gs k).a,0,none⟩),.int .u32 (d.id:Int),.int .i64 (-1)] W _:=fun W hW=>
       SetPrio_calls W (Ps'' k) (xs'' k) (gs k) d.id (-1) (((hAS.still hf5).still hW).at_ k hkK) (fun v=>by obtain ⟨_,_,_,_,_,_,_,h7⟩:=hmk;rw [h7]) (hmk.len hk3)
      go_wp2_with (first
       | (refine wpList_ID rfl rfl rfl ok (hat.nope hf5) ?_;intro w6 hf6)
       | (go_at_call 83;refine (hcall _ hf6).mono ?_;rintro e w7 ⟨rfl,ys,hys,h7,hf7⟩))
      have hs6:=hf6.size
      have hs7:=hf7.size
      have hAS6:=(hAS.still hf5).still hf6
      have hAS7:=hAS6.turnSame hkK h7 hf7
      have hnot:∀ b,(b=w.heap.size∨(w2.heap.size≤b∧b < w4.heap.size))→¬Ps'' k b:=fun b hb hp=>by
       rcases hPs2 k hkK b hp with h | h
       ·rcases hb with rfl | hb
        ·exact hr0 k hkK h
        ·have:=hPl2 k hkK b h;omega
       ·rcases hb with rfl | hb
        ·have:=hsz1.out;omega
        ·omega
      go_roundg (rsF.length - (j+1))
      case measure=>omega
      case rel=>
       refine ⟨j+1,_,_,by omega,by go_num,((hrg.fr hf5 (fun x=>x) (fun _ _ x=>x)).fr hf6 (fun x=>x) (fun _ _ x=>x)).fr hf7 (hnot _ (.inl rfl)) (fun b hb hp=>by injection hb with hb;subst hb;exact (hAS.new k hkK _ hp).2 rfl),hAS7,fun i hi c hc=>?_,?_,fun i hi=>by rw [updF_ne _ _ hi];exact hoth i hi,((hSu.nope hf5).nope hf6).fr hf7 (fun _ b o e=>?_),hf7.heap (hf6.heap (hf5.heap hF (fun x=>x)) (fun x=>x)) (hnot _ (.inr ⟨Nat.le_refl _,by omega⟩)),by omega,hAS6.fr ((hf'.then hf5).then hf6) hkK hf7,rfl⟩
       ·by_cases ek:i=k
        ·subst ek
         rw [updF_self] at hc
         rcases hc with hc | hc
         ·exact hPs2 i hi c hc
         ·exact .inr (by omega)
        ·rw [updF_ne _ _ ek] at hc
         exact hPs2 i hi c hc
       ·rw [updF_self,hT.out,if_neg hz]
        exact hmk.step hys
       ·injection e with e
        injection e with e _
        subst e
        exact hnot _ (.inr ⟨by omega,hl3⟩)
    ·have hje:j=rsF.length:=by omega
     subst hje
     go_wp2
     go_roundg (todo.erase k).length
     case measure=>exact hlen
     case rel=>
      rw [List.take_length,← hrsF.out] at hmk
      refine ⟨_,D ++ [k],xs'',Ps'',hrg,hAS,fun i hi c hc=>(hPs2 i hi c hc).elim (fun h=>hPs i hi c h) (fun h=>.inr (by omega)),hI1,fun i hi=>?_,fun i hi=>?_,by omega,hf',rfl⟩
      ·have hik:i≠k:=fun e=>by subst e;exact ((List.Nodup.mem_erase_iff hnd).1 hi).1 rfl
       rw [hoth i hik]
       exact hmid i (List.mem_of_mem_erase hi)
      ·rcases List.mem_append.1 hi with hi | hi
       ·rw [hoth i (fun e=>hkD (by rw [← e];exact hi))];exact hdone i hi
       ·obtain rfl:i=k:=by simpa using hi
        exact hmk.done hk3
end
end Go.Proofs.YtpbeedabmjmdmaaGreatDoor
