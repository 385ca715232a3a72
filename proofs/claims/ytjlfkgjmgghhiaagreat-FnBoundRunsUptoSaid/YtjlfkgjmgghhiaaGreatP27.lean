/- Part of the proof of a statement about pub-berthage: what its texts have in common. -/
import Derived.Test.YtjlfkgjmgghhiaaGreatP11
import Derived.Test.YtjlfkgjmgghhiaaGreatP26
namespace Go.Proofs.YtjlfkgjmgghhiaaGreat
section
open Go Go.RowKit Bth
set_option maxRecDepth 100000
theorem R.mV (r:R) (hv:r.virt=true):∃ T v,r.val = .iface T v∧(∀ W,(method 521 T v "Kind").run Tryz.prog W = .ok (308,r.coreV) W) ∧
  (∀ W,(method 521 T v "VirtualIndex").run Tryz.prog W = .ok (309,r.coreV) W)∧(∀ W,(method 521 T v "Mask").run Tryz.prog W = .ok (223,.int .u16 (r.spec:Int)) W) ∧
  (∀ W,(method 521 T v "ID").run Tryz.prog W = .ok (307,r.coreV) W):=by
 obtain ⟨T,v,h⟩:=r.val_iface
 have key:∀ {T' v'},r.val = .iface T' v'→T'=T∧v'=v:=fun h'=>by rw [h] at h';injection h' with a b;exact ⟨a.symm,b.symm⟩
 refine ⟨T,v,h,fun W=>?_,fun W=>?_,fun W=>?_,fun W=>?_⟩
 ·obtain ⟨T',v',h1,h2⟩:=r.m_Kind_v W hv;obtain ⟨rfl,rfl⟩:=key h1;rw [sizeTypes] at h2;exact h2
 ·obtain ⟨T',v',h1,h2⟩:=r.m_VirtualIndex_v W hv;obtain ⟨rfl,rfl⟩:=key h1;rw [sizeTypes] at h2;exact h2
 ·obtain ⟨T',v',h1,h2⟩:=r.m_Mask_v W hv;obtain ⟨rfl,rfl⟩:=key h1;rw [sizeTypes] at h2;exact h2
 ·obtain ⟨T',v',h1,h2⟩:=r.m_ID_v W hv;obtain ⟨rfl,rfl⟩:=key h1;rw [sizeTypes] at h2;exact h2
theorem ToVirtual_calls (w:World) (r:R):Calls Tryz.prog 215 #[r.val] w fun e w'=>e = .returned (if r.virt then r.val else .nilIface)∧w'=w:=by
 have hta:=fun W=>R.ta_Virtual (w:=W) 193 r
 obtain ⟨T,v,h⟩:=r.val_iface
 cases hv:r.virt
 all_goals
  simp only [hv,h,if_true,if_false,Bool.false_eq_true] at hta ⊢
  go_enter Tryz.func215,Tryz.ntmps215
  go_wp2
  go_ret
  exact ⟨rfl,rfl⟩
theorem ToPhysical_calls (w:World) (r:R):Calls Tryz.prog 202 #[r.val] w fun e w'=>e = .returned (if r.virt then .nilIface else r.val)∧w'=w:=by
 have hta:=fun W=>R.ta_Physical (w:=W) 193 r
 obtain ⟨T,v,h⟩:=r.val_iface
 cases hv:r.virt
 all_goals
  simp only [hv,h,if_true,if_false,Bool.false_eq_true,Bool.not_true,Bool.not_false] at hta ⊢
  go_enter Tryz.func202,Tryz.ntmps202
  go_wp2
  go_ret
  exact ⟨rfl,rfl⟩
def R.plain (r:R):G:=⟨r.virt,r.kind,r.idx,r.spec⟩
set_option maxHeartbeats 2000000 in
theorem plainReg_calls (w:World) (r:R) (hat:r.At w):Calls Tryz.prog 204 #[r.val] w fun e w'=>e = .returned r.plain.agg∧Fr nope w w':=by
 have hTV:=fun W=>ToVirtual_calls W r
 have hTP:=fun W=>ToPhysical_calls W r
 cases hv:r.virt with
 | true=>
  obtain ⟨T,v,h,hm1,hm2,hm3,_⟩:=r.mV hv
  simp only [R.coreV] at hm1 hm2
  simp only [hv,if_true,h] at hTV ⊢
  have hG:r.plain.agg = .agg #[.bool true,.int .u8 (r.kind:Int),.int .u16 (r.idx:Int),.int .u16 (r.spec:Int)]:=by unfold R.plain G.agg;rw [hv]
  rw [hG]
  clear hTP hG
  go_enter Tryz.func204,Tryz.ntmps204
  go_wp2_with (first
   | (go_at_call 215;refine (hTV _).mono ?_;rintro e w1 ⟨rfl,rfl⟩)
   | (go_at_call 308;refine (virtual_Kind_calls _ r.idx r.kind r.spec).mono ?_;rintro e w2 ⟨rfl,hf2⟩)
   | (go_at_call 309;refine (virtual_VI_calls _ r.idx r.kind r.spec).mono ?_;rintro e w3 ⟨rfl,hf3⟩)
   | (go_at_call 223;refine (Mask_calls _ r.spec).mono ?_;rintro e w4 ⟨rfl,rfl⟩;have hb4:=(hf2.then hf3).heap (heap_alloc_new w _) (fun x=>x))
   | (refine wpList_storeRow (b:=w.heap.size) rfl rfl rfl rfl hb4 rfl (by kernel_rfl) (by kernel_rfl) ?_;intro w5 hb5 hf5))
  refine bodyPost_ret (results_cell_row rfl _ _ w.heap.size _ _ _ _ rfl hb5 Tryz.underlying117 rfl (by kernel_rfl)) rfl ?_
  exact ⟨rfl,((((Fr.refl nope w).alloc _).then hf2).then hf3).then_new hf5 (fun x hx e=>by omega)⟩
 | false=>
  obtain ⟨T,v,h,hm1,hm2,_,_⟩:=r.mP hv
  obtain ⟨T',v',h',hm3⟩:=r.kindP hv
  obtain ⟨rfl,rfl⟩:T'=T∧v'=v:=by rw [h] at h';injection h' with a b;exact ⟨a.symm,b.symm⟩
  simp only [R.coreP] at hm1
  have hc:=hat.cell hv
  simp only [hv,if_false,Bool.false_eq_true,h] at hTV hTP ⊢
  have hG:r.plain.agg = .agg #[.bool false,.int .u8 (r.kind:Int),.int .u16 (r.idx:Int),.int .u16 (r.spec:Int)]:=by unfold R.plain G.agg;rw [hv]
  rw [hG]
  clear hG
  go_enter Tryz.func204,Tryz.ntmps204
  go_wp2_with (first
   | (go_at_call 215;refine (hTV _).mono ?_;rintro e w1 ⟨rfl,rfl⟩)
   | (go_at_call 202;refine (hTP _).mono ?_;rintro e w1 ⟨rfl,rfl⟩)
   | (go_at_call 251;refine (register_Kind_calls _ r.fb r.idx r.kind r.spec r.info r.name (((Fr.refl nope w).alloc _).cell hc (fun x=>x))).mono ?_;rintro e w2 ⟨rfl,hf2⟩)
   | (go_at_call 252;refine (register_PI_calls _ r.fb r.idx r.spec r.info r.name).mono ?_;rintro e w3 ⟨rfl,hf3⟩)
   | (go_at_call 223;refine (Mask_calls _ r.spec).mono ?_;rintro e w4 ⟨rfl,rfl⟩;have hb4:=(hf2.then hf3).heap (heap_alloc_new w _) (fun x=>x))
   | (refine wpList_storeRow (b:=w.heap.size) rfl rfl rfl rfl hb4 rfl (by kernel_rfl) (by kernel_rfl) ?_;intro w5 hb5 hf5))
  refine bodyPost_ret (results_cell_row rfl _ _ w.heap.size _ _ _ _ rfl hb5 Tryz.underlying117 rfl (by kernel_rfl)) rfl ?_
  exact ⟨rfl,((((Fr.refl nope w).alloc _).then hf2).then hf3).then_new hf5 (fun x hx e=>by omega)⟩
end
section
open Go Go.RowKit Go.MapKept Bth
set_option maxRecDepth 100000
def AP (rs:List Rec) (i j k:Nat) (v:Nat):Prop:=∃ (i':Nat) (r:Rec) (d:R),rs[i']? = some r∧((i' < i∧d∈regsOf r.ops)∨(i'=i∧d∈(regsOf r.ops).take j))∧d.kind=k∧v=d.id
def AAll (rs:List Rec) (k v:Nat):Prop:=∃ r∈rs,∃ d∈regsOf r.ops,d.kind=k∧v=d.id
theorem AP.start (rs:List Rec) (k v:Nat):¬AP rs 0 0 k v:=by
 rintro ⟨i',r,d,_,⟨h,_⟩ | ⟨_,h⟩,_⟩
 ·omega
 ·simp at h
theorem AP.done {rs:List Rec} {k v:Nat} : AP rs rs.length 0 k v↔AAll rs k v:=by
 constructor
 ·rintro ⟨i',r,d,h1,⟨_,h⟩ | ⟨_,h⟩,h3⟩
  ·exact ⟨r,List.mem_of_getElem? h1,d,h,h3⟩
  ·simp at h
 ·rintro ⟨r,hr,d,h,h3⟩
  obtain ⟨i',h1⟩:=List.getElem?_of_mem hr
  exact ⟨i',r,d,h1,.inl ⟨(List.getElem?_eq_some_iff.1 h1).1,h⟩,h3⟩
theorem AP.row {rs:List Rec} {i k:Nat} {r:Rec} (hr:rs[i]? = some r) {v:Nat} : AP rs i (regsOf r.ops).length k v↔AP rs (i+1) 0 k v:=by
 constructor
 ·rintro ⟨i',r',d,h1,⟨h,h2⟩ | ⟨rfl,h2⟩,h3⟩
  ·exact ⟨i',r',d,h1,.inl ⟨by omega,h2⟩,h3⟩
  ·rw [hr] at h1
   injection h1 with h1
   subst h1
   exact ⟨i',r,d,hr,.inl ⟨by omega,by simpa using h2⟩,h3⟩
 ·rintro ⟨i',r',d,h1,⟨h,h2⟩ | ⟨_,h2⟩,h3⟩
  ·by_cases e:i'=i
   ·subst e
    rw [hr] at h1
    injection h1 with h1
    subst h1
    exact ⟨i',r,d,hr,.inr ⟨rfl,by simpa using h2⟩,h3⟩
   ·exact ⟨i',r',d,h1,.inl ⟨by omega,h2⟩,h3⟩
  ·simp at h2
theorem AP.step {rs:List Rec} {i j k:Nat} {r:Rec} {d:R} (hr:rs[i]? = some r) (hd:(regsOf r.ops)[j]? = some d) {v:Nat} : AP rs i (j+1) k v↔AP rs i j k v∨(d.kind=k∧v=d.id):=by
 constructor
 ·rintro ⟨i',r',d',h1,⟨h,h2⟩ | ⟨rfl,h2⟩,h3⟩
  ·exact .inl ⟨i',r',d',h1,.inl ⟨h,h2⟩,h3⟩
  ·rw [hr] at h1
   injection h1 with h1
   subst h1
   rw [List.take_add_one,hd] at h2
   rcases List.mem_append.1 h2 with h2 | h2
   ·exact .inl ⟨i',r,d',hr,.inr ⟨rfl,h2⟩,h3⟩
   ·obtain rfl:d'=d:=by simpa using h2
    exact .inr h3
 ·rintro (⟨i',r',d',h1,⟨h,h2⟩ | ⟨rfl,h2⟩,h3⟩ | h3)
  ·exact ⟨i',r',d',h1,.inl ⟨h,h2⟩,h3⟩
  ·rw [hr] at h1
   injection h1 with h1
   subst h1
   exact ⟨i',r,d',hr,.inr ⟨rfl,by rw [List.take_add_one];exact List.mem_append_left _ h2⟩,h3⟩
  ·exact ⟨i,r,d,hr,.inr ⟨rfl,by rw [List.take_add_one,hd];simp⟩,h3⟩
abbrev GivesRB (w:World) (fb:Nat) (f:Fn) (rs:List Rec) (V:Sets):=GivesRA w fb f (kindsOf rs) (AAll rs) (EAll rs (V true))
set_option maxHeartbeats 4000000 in
theorem phC (w0 w:World) (fs:Nat→Option Nat) (ns:List PN) (fb:Nat) (f:Fn) (nds:List Nd) (rs:List Rec) (cms:List (Nat × List ByteArray)) (mm:Bool→Nat→Nat) (V:Sets) (U:List Nat) (hin:ARIn w0 fs ns fb f nds rs cms mm V U)
  (mb:Nat) (K:List Nat) (gs:Nat→AlG) (xs:Nat→Al) (Ps:Nat→Nat→Prop) {u1 u2 u4 u5 u6 u7 u8 u9 u10 u11 u12 u13 u14 u15 u16 u17 u18 u19 u20 u21 u22 u23 u24 u25 u26 u27 u28 u29 u30 u31 u32 u33 u34 u35 u36 u37 u38 u39 u40 u41 u42 u43 u44 u45 u46 u47 u48 u49 u50 u51 u52 u53 u54 u55 u56 u57 u58 u59 u60 u61 u62 u63 u64 u65 u66 u67 u68 u69 u70 u71 u72 u73 u74 u75 u76 u77 u78 u79 u80 u81 u82 u83 u84 u85 u86 u87 u88 u89 u90 u91 u92 u93 u94 u95 u96 u97 u98 u99 u100 u101 u102 u103 u104 u105 u106 u107 u108 u109 u110 u111 u112 u113 u114 u115 u116 u117 u118 u119 u120 u121 u122 u123 u124 u125 u126 u127 u128 u129 u130 u131 u132 u133 u134 u135 u136 u137 u138 u139 u140 u141 u142 u143 u144 u145 u146 u147 u148 u149 u150 u151 u152 u153 u154 u155 u156 u157 u158 u159 u160 u161 u162 u163 u164 u165 u166 u167 u168 u169 u170 u171 u172 u173 u174 u175 u176 u177 u178 u179 u180 u181 u182 u183 u184:Value} (hA:AS w0 w mb K gs xs Ps) (hfr:Fr nope w0 w) (hK:∀ k,k∈K↔kindsOf rs k)
  (hR:∀ k∈K,(xs k).regs=regsK k∧(xs k).al=(fun _=>none)∧(xs k).edges=[]∧(xs k).poss=fun _=>none):
  Code.wp Tryz.prog (arTail 4) (bodyPost Tryz.prog Tryz.f65 (GivesRB w0 fb f rs V)) ⟨#[.pointer (some ⟨fb,0,none⟩),u1,u2,.map (some mb),u4,u5,u6,u7,u8,u9,u10,u11,u12,u13,u14,u15,u16,u17,u18,u19,u20,u21,u22,u23,u24,u25,u26,u27,u28,u29,u30,u31,u32,u33,u34,u35,u36,u37,u38,u39,u40,u41,u42,u43,u44,u45,u46,u47,u48,u49,u50,u51,u52,u53,u54,u55,u56,u57,u58,u59,u60,u61,u62,u63,u64,u65,u66,u67,u68,u69,u70,u71,u72,u73,u74,u75,u76,u77,u78,u79,u80,u81,u82,u83,u84,u85,u86,u87,u88,u89,u90,u91,u92,u93,u94,u95,u96,u97,u98,u99,u100,u101,u102,u103,u104,u105,u106,u107,u108,u109,u110,u111,u112,u113,u114,u115,u116,u117,u118,u119,u120,u121,u122,u123,u124,u125,u126,u127,u128,u129,u130,u131,u132,u133,u134,u135,u136,u137,u138,u139,u140,u141,u142,u143,u144,u145,u146,u147,u148,u149,u150,u151,u152,u153,u154,u155,u156,u157,u158,u159,u160,u161,u162,u163,u164,u165,u166,u167,u168,u169,u170,u171,u172,u173,u174,u175,u176,u177,u178,u179,u180,u181,u182,u183,u184],[]⟩ w:=by
 conv=>arg 2;whnf
 have hrl:=hin.len
 have hfl:=Nat.lt_of_lt_of_le (lt_of_heap hin.st.fn) hfr.size
 have hI:=hin.instrs w hfr
 go_wp2_with fail
 refine hI.mono ?_
 rintro e w1 ⟨v,rfl,hown,hf1⟩
 simp only [List.length_map] at hown
 obtain ⟨A1,c1,rfl,_,_⟩:=own_slice hown
 have hA1:=hA.still hf1
 have hSl:=own_Sl hown
 rw [List.map_map] at hSl
 go_wp2
 have hbase:=own_base hown
 have hlt1:=own_lt hown
 replace hbase:=Lib.hid hbase
 replace hlt1:=Lib.hid hlt1
 have hw1:=hfr.then hf1
 have hPs0:∀ k∈K,∀ c,Ps k c→c < w.heap.size:=fun k hk c hc=>(hA.at_ k hk).lt c hc
 have hX0:∀ k∈K,AOk k (xs k) (AP rs 0 0 k) (fun _=>False)∧(xs k).edges=[]:=fun k hk=>by
  obtain ⟨h1,h2,h3,h4⟩:=hR k hk
  have hn:∀ v,¬toldOf (AP rs 0 0 k) (fun _=>False) v:=fun v hv=>hv.elim (AP.start rs k v) fun ⟨_,h,_⟩=>h
  exact ⟨⟨h1,h2,fun e=>by rw [h3];simp,fun v l hl=>(by rw [h4] at hl;cases hl),fun v _ hv=>absurd hv (hn v),fun v hv=>absurd hv (hn v)⟩,h3⟩
 go_loopg [101] rs.length (fun n c101 wr=>∃ (i:Nat) (gs':Nat→AlG) (xs':Nat→Al) (Ps':Nat→Nat→Prop),i≤rs.length∧c101 = .int .i64 (i:Int)∧AS w0 wr mb K gs' xs' Ps'∧(∀ k∈K,∀ c,Ps' k c→Ps k c∨w1.heap.size≤c) ∧
  (∀ k∈K,AOk k (xs' k) (AP rs i 0 k) (fun _=>False)∧(xs' k).edges=[])∧Sl wr A1 rs.length (List.map (ptr ∘ fun x=>x.b) rs)∧w1.heap.size≤wr.heap.size∧Fr nope w0 wr∧n=rs.length - i)
 case atStart=>exact ⟨0,gs,xs,Ps,Nat.zero_le _,rfl,hA1,fun k hk c hc=>.inl hc,hX0,hSl,Nat.le_refl _,hw1,rfl⟩
 case round=>
  obtain ⟨i,gs',xs',Ps',hi,rfl,hAS,hPs,hX,hSr,hsz,hf,rfl⟩:=hrel
  by_cases hlt:i < rs.length
  ·obtain ⟨b0,off,u,hA1e,hbl,hu,hc⟩:=hSr.at_ hlt
   rw [List.getElem?_map] at hu
   obtain ⟨r,hr,rfl⟩:=Option.map_eq_some_iff.1 hu
   have hrm:=List.mem_of_getElem? hr
   have hrA0:=(hin.st.recs r hrm).1
   have hrA:=hrA0.nope hf
   have hb:=hrA.own.at_
   have hbl2:=lt_of_heap hb
   have hol:=(hin.ol r hrm).2
   have hOut:=InsRegisters_own wr r.i r.ops hrA.opsAt (by omega)
   have hOl:=regsOf_le r.ops
   simp only [Function.comp,ptr] at hc
   replace hr:=Lib.hid hr
   obtain ⟨wo,rfl⟩:∃ wo:World,wo=wr:=⟨_,rfl⟩
   clear hu
   subst hA1e
   go_wp2_with (first
    | (refine wpList_loadRow (b:=r.b) rfl rfl rfl hb Tryz.underlying174 rfl (by kernel_rfl) ?_)
    | (go_at_call 100;refine hOut.mono ?_;rintro e w2 ⟨A2,c2,rfl,hO2,hR2,hf2⟩))
   have hb2:=own_base hO2
   have hl2:=own_lt hO2
   have hb0:=hbase.out b0 rfl
   have hl0:=hlt1.out b0 rfl
   have hsz2:=hf2.size
   have hAS2:=hAS.still hf2
   have hPs2:∀ k∈K,∀ c,Ps' k c→Ps k c∨(w1.heap.size≤c∧c < wo.heap.size):=fun k hk c hc=>(hPs k hk c hc).imp id fun h=>⟨h,(hAS.at_ k hk).lt c hc⟩
   have hSO:=own_Sl hO2
   replace hb2:=Lib.hid hb2
   replace hl2:=Lib.hid hl2
   go_loopg [110] (regsOf r.ops).length (fun n c110 wr=>∃ (j:Nat) (gs':Nat→AlG) (xs':Nat→Al) (Ps':Nat→Nat→Prop),j≤(regsOf r.ops).length∧c110 = .int .i64 (j:Int)∧AS w0 wr mb K gs' xs' Ps'∧(∀ k∈K,∀ c,Ps' k c→Ps k c∨(w1.heap.size≤c∧(c < wo.heap.size∨w2.heap.size≤c))) ∧
    (∀ k∈K,AOk k (xs' k) (AP rs i j k) (fun _=>False)∧(xs' k).edges=[])∧Sl wr (some ⟨b0,off,none⟩) rs.length (List.map (ptr ∘ fun x=>x.b) rs)∧Sl wr A2 (regsOf r.ops).length ((regsOf r.ops).map R.val)∧w2.heap.size≤wr.heap.size∧Fr nope w0 wr∧n=(regsOf r.ops).length - j)
   case atStart=>exact ⟨0,gs',xs',Ps',Nat.zero_le _,rfl,hAS2,fun k hk c hc=>(hPs2 k hk c hc).imp id fun h=>⟨h.1,.inl h.2⟩,hX,hSr.nope hf2,hSO,Nat.le_refl _,hf.then hf2,rfl⟩
   case round=>
    clear hAS hAS2 hX hPs hPs2 hSr hSO hb
    obtain ⟨j,gs',xs',Ps',hj,rfl,hAS,hPs,hX,hSr,hSd,hszr,hf',rfl⟩:=hrel
    by_cases hjl:j < (regsOf r.ops).length
    ·obtain ⟨b3,off3,u,hA2e,hbl3,hu,hc3⟩:=hSd.at_ hjl
     rw [List.getElem?_map] at hu
     obtain ⟨d,hd,rfl⟩:=Option.map_eq_some_iff.1 hu
     have hdm:=List.mem_of_getElem? hd
     have hdA0:=regsOf_at hrA0.opsAt d hdm
     have hb3:=hb2.out b3 (by rw [hA2e];rfl)
     have hl3:=hl2.out b3 (by rw [hA2e];rfl)
     have hdK:d.kind∈K:=(hK _).2 ⟨r,hrm,d,hdm,rfl⟩
     have hd3:d.kind≤3:=hin.kinds r hrm d hdm
     have hkid:=R.kind_id hdA0.1
     have hid32:=R.id_lt hdA0.1
     have hAP:=fun k v=>AP.step (k:=k) (v:=v) hr.out hd
     replace hd:=Lib.hid hd
     replace hAP:=Lib.hid hAP
     replace hkid:=Lib.hid hkid
     clear hu
     subst hA2e
     obtain ⟨wo2,rfl⟩:∃ wo2:World,wo2=wr:=⟨_,rfl⟩
     have hXd:=hX d.kind hdK
     have hlk:∀ W,Fr nope wo2 W→(Instr.lookup 191 (.map (some mb)) (.int .u8 (d.kind:Int)) false).run Tryz.prog W = .ok (.pointer (some ⟨(gs' d.kind).a,0,none⟩)) W:=fun W hW=>(hAS.still hW).look hdK
     have hcall:∀ W,Fr nope wo2 W→Calls Tryz.prog 105 #[.pointer (some ⟨(gs' d.kind).a,0,none⟩),.int .u32 (d.id:Int)] W fun e w'=>e = .returned (.tuple #[])∧Turns (Ps' d.kind) W (gs' d.kind).a (addA (xs' d.kind) d.id) w':=fun W hW=>
      AlAdd_calls W (Ps' d.kind) (xs' d.kind) (gs' d.kind) d.id ((hAS.still hW).at_ _ hdK) (by rw [hXd.1.regs];have:=(regsK_facts d.kind (by omega)).2.2.2.2.2.1;omega) hid32
     have fin:∀ (W w6:World),Fr nope wo2 W→Turns (Ps' d.kind) W (gs' d.kind).a (addA (xs' d.kind) d.id) w6→∃ (gs1:Nat→AlG) (xs1:Nat→Al) (Ps1:Nat→Nat→Prop),AS w0 w6 mb K gs1 xs1 Ps1∧(∀ k∈K,∀ c,Ps1 k c→Ps k c∨(w1.heap.size≤c∧(c < wo.heap.size∨w2.heap.size≤c))) ∧
       (∀ k∈K,AOk k (xs1 k) (AP rs i (j+1) k) (fun _=>False)∧(xs1 k).edges=[])∧Sl w6 (some ⟨b0,off,none⟩) rs.length (List.map (ptr ∘ fun x=>x.b) rs)∧Sl w6 (some ⟨b3,off3,none⟩) (regsOf r.ops).length ((regsOf r.ops).map R.val)∧w2.heap.size≤w6.heap.size∧Fr nope w0 w6:=by
      intro W w6 hW hT
      obtain ⟨g6,hg6,h6,hf6⟩:=hT
      have hASW:=hAS.still hW
      have hfW:=hf'.then hW
      have hs1:=hW.size
      have hs6:=hf6.size
      have hnot:∀ b,(w.heap.size≤b∧b < w1.heap.size)∨(wo.heap.size≤b∧b < w2.heap.size)→¬Ps' d.kind b:=fun b hb hp=>by
       rcases hPs _ hdK b hp with h | h
       ·have:=hPs0 _ hdK b h
        have:=hf1.size
        omega
       ·omega
      refine ⟨updF gs' d.kind g6,updF xs' d.kind (addA (xs' d.kind) d.id),updF Ps' d.kind (wider (Ps' d.kind) W w6),hASW.turn hdK hg6 h6 hf6,fun k hk c hc=>?_,fun k hk=>?_,(hSr.nope hW).fr hf6 (fun _ b o e=>?_),(hSd.nope hW).fr hf6 (fun _ b o e=>?_),by omega,hASW.fr hfW hdK hf6⟩
      ·by_cases ek:k=d.kind
       ·subst ek
        rw [updF_self] at hc
        rcases hc with hc | hc
        ·exact hPs _ hk c hc
        ·exact .inr ⟨by omega,.inr (by omega)⟩
       ·rw [updF_ne _ _ ek] at hc
        exact hPs k hk c hc
      ·by_cases ek:k=d.kind
       ·subst ek
        rw [updF_self]
        refine ⟨(hXd.1.add hd3 hkid.out hid32).congr (fun e=>Iff.rfl) (fun v=>?_),(addA_edges _ _).trans hXd.2⟩
        unfold toldOf
        rw [hAP.out]
        exact or_congr (or_congr Iff.rfl ⟨fun h=>h.2,fun h=>⟨rfl,h⟩⟩) Iff.rfl
       ·rw [updF_ne _ _ ek]
        have hno:∀ v,AP rs i (j+1) k v↔AP rs i j k v:=fun v=>by
         rw [hAP.out]
         exact ⟨fun h=>h.elim id fun h=>absurd h.1.symm ek,.inl⟩
        exact ⟨(hX k hk).1.congr (fun e=>Iff.rfl) (fun v=>by unfold toldOf;rw [hno]),(hX k hk).2⟩
      ·injection e with e
       injection e with e _
       subst e
       exact hnot _ (.inl ⟨hb0,hl0⟩)
      ·injection e with e
       injection e with e _
       subst e
       exact hnot _ (.inr ⟨hb3,hl3⟩)
     have hdw:Fr nope wo2 wo2.drew:=(Fr.refl _ _).drew
     have hatw:=hdA0.2.nope (hf'.then hdw)
     have ok:=hdA0.1
     have hvi:d.virt=true→d.id=1+d.kind*256+d.idx*65536:=fun h=>by simp [R.id,h]
     have hpi:d.virt=false→d.id=0+d.kind*256+d.idx*65536:=fun h=>by simp [R.id,h]
     cases hv:d.virt with
     | true=>
      obtain ⟨T,v,h,hm1,_,_,hm4⟩:=d.mV hv
      simp only [R.coreV] at hm1 hm4
      have hid:=hvi hv
      rw [h] at hc3
      have hcI:∀ W,Calls Tryz.prog 307 #[.agg #[.int .u16 (d.idx:Int),.int .u8 (d.kind:Int),.int .u16 (d.spec:Int)]] W fun e w'=>e = .returned (.int .u32 (d.id:Int))∧Fr nope W w':=fun W=>by
       rw [hid];exact virtual_ID_calls W d.idx d.kind d.spec ok.idx ok.kind
      replace hv:=Lib.hid hv
      replace hid:=Lib.hid hid
      go_upto_region 33 with fail
      go_region_with (first
       | (go_at_call 308;refine (virtual_Kind_calls _ d.idx d.kind d.spec).mono ?_;rintro e w3 ⟨rfl,hf3⟩;have hlk3:=hlk w3 (hdw.then hf3))
       | (go_at_call 307;refine (hcI _).mono ?_;rintro e w4 ⟨rfl,hf4⟩;have hlk4:=hlk w4 ((hdw.then hf3).then hf4))
       | (go_at_call 105;refine (hcall _ ((hdw.then hf3).then hf4)).mono ?_;rintro e w6 ⟨rfl,hT⟩))
      all_goals
       go_wp2
       go_roundg ((regsOf r.ops).length - (j+1))
       case measure=>omega
       case rel=>
        obtain ⟨gs1,xs1,Ps1,h1,h2,h3,h4,h5,h6,h7⟩:=fin _ w6 ((hdw.then hf3).then hf4) hT
        exact ⟨j+1,gs1,xs1,Ps1,by omega,by go_num,h1,h2,h3,h4,h5,h6,h7,rfl⟩
     | false=>
      obtain ⟨T,v,h,_,_,_,hm4⟩:=d.mP hv
      obtain ⟨T',v',h',hm1⟩:=d.kindP hv
      obtain ⟨rfl,rfl⟩:T'=T∧v'=v:=by rw [h] at h';injection h' with a b;exact ⟨a.symm,b.symm⟩
      simp only [R.coreP] at hm4
      have hid:=hpi hv
      rw [h] at hc3
      have hcI:∀ W,Fr nope wo2.drew W→Calls Tryz.prog 249 #[.agg #[.pointer (some ⟨d.fb,0,none⟩),.int .u16 (d.idx:Int),.string d.name,.int .u8 (d.info:Int),.int .u16 (d.spec:Int)]] W fun e w'=>e = .returned (.int .u32 (d.id:Int))∧Fr nope W w':=fun W hW=>by
       rw [hid];exact register_ID_calls W d.fb d.idx d.kind d.spec d.info d.name ok.idx ok.kind ((hatw.nope hW).cell hv)
      have hcK:=register_Kind_calls wo2.drew d.fb d.idx d.kind d.spec d.info d.name (hatw.cell hv)
      replace hv:=Lib.hid hv
      replace hid:=Lib.hid hid
      replace h':=Lib.hid h'
      go_upto_region 33 with fail
      go_region_with (first
       | (go_at_call 251;refine hcK.mono ?_;rintro e w3 ⟨rfl,hf3⟩;have hlk3:=hlk w3 (hdw.then hf3))
       | (go_at_call 249;refine (hcI _ hf3).mono ?_;rintro e w4 ⟨rfl,hf4⟩;have hlk4:=hlk w4 ((hdw.then hf3).then hf4))
       | (go_at_call 105;refine (hcall _ ((hdw.then hf3).then hf4)).mono ?_;rintro e w6 ⟨rfl,hT⟩))
      all_goals
       go_wp2
       go_roundg ((regsOf r.ops).length - (j+1))
       case measure=>omega
       case rel=>
        obtain ⟨gs1,xs1,Ps1,h1,h2,h3,h4,h5,h6,h7⟩:=fin _ w6 ((hdw.then hf3).then hf4) hT
        exact ⟨j+1,gs1,xs1,Ps1,by omega,by go_num,h1,h2,h3,h4,h5,h6,h7,rfl⟩
    ·have hje:j=(regsOf r.ops).length:=by omega
     subst hje
     go_wp2
     go_roundg (rs.length - (i+1))
     case measure=>omega
     case rel=>
      refine ⟨i+1,gs',xs',Ps',by omega,by go_num,hAS,fun k hk c hc=>(hPs k hk c hc).imp id fun h=>h.1,fun k hk=>⟨(hX k hk).1.congr (fun e=>Iff.rfl) (fun v=>?_),(hX k hk).2⟩,hSr,by omega,hf',rfl⟩
      unfold toldOf
      rw [AP.row hr.out]
  ·obtain rfl:i=rs.length:=by omega
   go_upto_if 102 with (fail)
   iterate 4 (first | go_step | go_back)
   exact phD w0 wr fs ns fb f nds rs cms mm V U hin mb K gs' xs' Ps' (AAll rs) hAS hf hK (fun k hk=>⟨(hX k hk).1.congr (fun e=>Iff.rfl) (fun v=>by unfold toldOf;rw [AP.done]),(hX k hk).2⟩)
end
end Go.Proofs.YtjlfkgjmgghhiaaGreat
