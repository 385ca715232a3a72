/- Part of the proof of a statement about pub-berthage: what its texts have in common. -/
import Derived.Test.YtpbeedabmjmdmaaGreatDoorRows
import Derived.Deep.Strs
import Derived.Test.YtpbeedabmjmdmaaGreatDoorP18
import Derived.Test.YtpbeedabmjmdmaaGreatDoorP28
import Derived.Test.YtpbeedabmjmdmaaGreatDoorP32
import Derived.Test.YtpbeedabmjmdmaaGreatDoorP34
import Derived.Test.YtpbeedabmjmdmaaGreatDoorP36
namespace Go.Proofs.YtpbeedabmjmdmaaGreatDoor
section
open Go Go.RowKit Go.ChangeShapes Go.WideShapes Go.Deep Bth
set_option maxRecDepth 100000
section
variable {H:Type} {enc:TypeId × Value→H} {w:World} {n:Nat}
theorem bulk_one (d:DataW H):1≤Rows.uptoBulk d:=by
 cases d with
 | lit l=>cases l<;>simp [Rows.uptoBulk]
 | _=>simp [Rows.uptoBulk]
theorem bulk_len (l:List (DataW H)):l.length≤Rows.uptoBulkAll l:=by
 induction l with
 | nil=>simp [Rows.uptoBulkAll]
 | cons x r ih=>have:=bulk_one x;simp only [Rows.uptoBulkAll,List.length_cons];omega
theorem bulk_part {d:DataW H} {l:List (DataW H)} (h:d∈l):Rows.uptoBulk d≤Rows.uptoBulkAll l:=by
 induction l with
 | nil=>cases h
 | cons x r ih=>
  simp only [Rows.uptoBulkAll]
  cases List.mem_cons.1 h with
  | inl e=>subst e;omega
  | inr e=>have:=ih e;omega
theorem cells1:(Tryz.prog.cellsOf 3=1∧Tryz.prog.cellsOf 9=1∧Tryz.prog.cellsOf 4=1∧Tryz.prog.cellsOf 5=1)∧(Tryz.prog.cellsOf 30=1∧Tryz.prog.cellsOf 41=1∧Tryz.prog.cellsOf 21=1∧Tryz.prog.cellsOf 35=1) ∧
  (Tryz.prog.cellsOf 36=1∧Tryz.prog.cellsOf 40=4∧Tryz.prog.cellsOf 43=3∧Tryz.prog.cellsOf 45=24∧Tryz.prog.cellsOf 38=10∧Tryz.prog.cellsOf 57=13):=by
 refine ⟨⟨?_,?_,?_,?_⟩,⟨?_,?_,?_,?_⟩,?_,?_,?_,?_,?_,?_⟩<;>kernel_rfl
theorem rd_u8 {c:Value} {x:DataW H × List MemPlace} (h:DataW.trod enc Tryz.prog w 0 (fun _=>true) true n 5 [c]=some x):∃ m:Nat,c = .int .u8 (m:Int)∧m < 256:=by
 obtain ⟨z,h1,_,h3⟩:=DataW.trod_int Tryz.underlying5 h
 have hz:0≤z∧z < 256:=by
  simp [Lit.wf,IntKind.min,IntKind.max,IntKind.signed,IntKind.bits] at h3
  omega
 refine ⟨z.toNat,?_,by omega⟩
 have e:((z.toNat:Nat):Int)=z:=by omega
 rw [e]
 simpa using h1
theorem rd_u16 {c:Value} {x:DataW H × List MemPlace} (h:DataW.trod enc Tryz.prog w 0 (fun _=>true) true n 30 [c]=some x):∃ m:Nat,c = .int .u16 (m:Int)∧m < 65536:=by
 obtain ⟨z,h1,_,h3⟩:=DataW.trod_int Tryz.underlying30 h
 have hz:0≤z∧z < 65536:=by
  simp [Lit.wf,IntKind.min,IntKind.max,IntKind.signed,IntKind.bits] at h3
  omega
 refine ⟨z.toNat,?_,by omega⟩
 have e:((z.toNat:Nat):Int)=z:=by omega
 rw [e]
 simpa using h1
theorem rd_u64 {c:Value} {x:DataW H × List MemPlace} (h:DataW.trod enc Tryz.prog w 0 (fun _=>true) true n 41 [c]=some x):∃ m:Nat,c = .int .u64 (m:Int)∧m < 18446744073709551616:=by
 obtain ⟨z,h1,_,h3⟩:=DataW.trod_int Tryz.underlying41 h
 have hz:0≤z∧z < 18446744073709551616:=by
  simp [Lit.wf,IntKind.min,IntKind.max,IntKind.signed,IntKind.bits] at h3
  omega
 refine ⟨z.toNat,?_,by omega⟩
 have e:((z.toNat:Nat):Int)=z:=by omega
 rw [e]
 simpa using h1
theorem rd_i64 {c:Value} {x:DataW H × List MemPlace} (h:DataW.trod enc Tryz.prog w 0 (fun _=>true) true n 3 [c]=some x):∃ z:Int,c = .int .i64 z:=by
 obtain ⟨z,h1,_,_⟩:=DataW.trod_int Tryz.underlying3 h
 exact ⟨z,by simpa using h1⟩
theorem rd_i32 {c:Value} {x:DataW H × List MemPlace} (h:DataW.trod enc Tryz.prog w 0 (fun _=>true) true n 21 [c]=some x):∃ z:Int,c = .int .i32 z:=by
 obtain ⟨z,h1,_,_⟩:=DataW.trod_int Tryz.underlying21 h
 exact ⟨z,by simpa using h1⟩
theorem rd_bool {c:Value} {x:DataW H × List MemPlace} (h:DataW.trod enc Tryz.prog w 0 (fun _=>true) true n 4 [c]=some x):∃ b:Bool,c = .bool b:=by
 obtain ⟨b,h1,_⟩:=DataW.trod_bool Tryz.underlying4 h
 exact ⟨b,by simpa using h1⟩
theorem rd_str {c:Value} {x:DataW H × List MemPlace} (h:DataW.trod enc Tryz.prog w 0 (fun _=>true) true n 9 [c]=some x):∃ b:ByteArray,c = .string b:=by
 obtain ⟨b,h1,_,_⟩:=DataW.trod_string Tryz.underlying9 h
 exact ⟨b,by simpa using h1⟩
theorem rd_reg {c0 c1 c2 c3:Value} {x:DataW H × List MemPlace} (h:DataW.trod enc Tryz.prog w 0 (fun _=>true) true n 40 [c0,c1,c2,c3]=some x):∃ g:G,g.Ok∧c0 = .bool g.virt∧c1 = .int .u8 (g.kind:Int)∧c2 = .int .u16 (g.idx:Int)∧c3 = .int .u16 (g.spec:Int):=by
 obtain ⟨xs,m,_,hx,_,hl,hf⟩:=DataW.trod_struct Tryz.underlying40 h
 obtain ⟨⟨ki,ks,kb,k8⟩,⟨k16,k64,k32,ksl⟩,kop,kr,kc,ko,kin,kno⟩:=cells1
 match xs,hl with
 | [y0,y1,y2,y3],_=>
  have h0:DataW.trod enc Tryz.prog w 0 (fun _=>true) true m 4 [c0]=some y0:=by
   have q:DataW.trod enc Tryz.prog w 0 (fun _=>true) true m 4 ((List.drop 0 [c0,c1,c2,c3]).take (Tryz.prog.cellsOf 4))=some y0:=hf 0 _ rfl
   rw [kb] at q
   exact q
  have h1:DataW.trod enc Tryz.prog w 0 (fun _=>true) true m 5 [c1]=some y1:=by
   have q:DataW.trod enc Tryz.prog w 0 (fun _=>true) true m 5 ((List.drop 1 [c0,c1,c2,c3]).take (Tryz.prog.cellsOf 5))=some y1:=hf 1 _ rfl
   rw [k8] at q
   exact q
  have h2:DataW.trod enc Tryz.prog w 0 (fun _=>true) true m 30 [c2]=some y2:=by
   have q:DataW.trod enc Tryz.prog w 0 (fun _=>true) true m 30 ((List.drop 2 [c0,c1,c2,c3]).take (Tryz.prog.cellsOf 30))=some y2:=hf 2 _ rfl
   rw [k16] at q
   exact q
  have h3:DataW.trod enc Tryz.prog w 0 (fun _=>true) true m 30 [c3]=some y3:=by
   have q:DataW.trod enc Tryz.prog w 0 (fun _=>true) true m 30 ((List.drop 3 [c0,c1,c2,c3]).take (Tryz.prog.cellsOf 30))=some y3:=hf 3 _ rfl
   rw [k16] at q
   exact q
  obtain ⟨a,ea⟩:=rd_bool h0
  obtain ⟨b,eb,lb⟩:=rd_u8 h1
  obtain ⟨c,ec,lc⟩:=rd_u16 h2
  obtain ⟨d,ed,ld⟩:=rd_u16 h3
  exact ⟨⟨a,b,c,d⟩,⟨lb,lc,ld⟩,ea,eb,ec,ed⟩
theorem rd_con {c0 c1 c2:Value} {x:DataW H × List MemPlace} (h:DataW.trod enc Tryz.prog w 0 (fun _=>true) true n 43 [c0,c1,c2]=some x):∃ g:PC,c0 = .int .i64 g.kind∧c1 = .int .u64 (g.bits:Int)∧c2 = .string g.text:=by
 obtain ⟨xs,m,_,hx,_,hl,hf⟩:=DataW.trod_struct Tryz.underlying43 h
 obtain ⟨⟨ki,ks,kb,k8⟩,⟨k16,k64,k32,ksl⟩,kop,kr,kc,ko,kin,kno⟩:=cells1
 match xs,hl with
 | [y0,y1,y2],_=>
  have h0:DataW.trod enc Tryz.prog w 0 (fun _=>true) true m 3 [c0]=some y0:=by
   have q:DataW.trod enc Tryz.prog w 0 (fun _=>true) true m 3 ((List.drop 0 [c0,c1,c2]).take (Tryz.prog.cellsOf 3))=some y0:=hf 0 _ rfl
   rw [ki] at q
   exact q
  have h1:DataW.trod enc Tryz.prog w 0 (fun _=>true) true m 41 [c1]=some y1:=by
   have q:DataW.trod enc Tryz.prog w 0 (fun _=>true) true m 41 ((List.drop 1 [c0,c1,c2]).take (Tryz.prog.cellsOf 41))=some y1:=hf 1 _ rfl
   rw [k64] at q
   exact q
  have h2:DataW.trod enc Tryz.prog w 0 (fun _=>true) true m 9 [c2]=some y2:=by
   have q:DataW.trod enc Tryz.prog w 0 (fun _=>true) true m 9 ((List.drop 2 [c0,c1,c2]).take (Tryz.prog.cellsOf 9))=some y2:=hf 2 _ rfl
   rw [ks] at q
   exact q
  obtain ⟨a,ea⟩:=rd_i64 h0
  obtain ⟨b,eb,lb⟩:=rd_u64 h1
  obtain ⟨c,ec⟩:=rd_str h2
  exact ⟨⟨a,b,c⟩,ea,eb,ec⟩
theorem rd_op {c0 c1 c2 c3 c4 c5 c6 c7 c8 c9 c10 c11 c12 c13 c14 c15 c16 c17 c18 c19 c20 c21 c22 c23:Value} {x:DataW H × List MemPlace} (h:DataW.trod enc Tryz.prog w 0 (fun _=>true) true n 45 [c0,c1,c2,c3,c4,c5,c6,c7,c8,c9,c10,c11,c12,c13,c14,c15,c16,c17,c18,c19,c20,c21,c22,c23]=some x):∃ p:PO,p.Ok∧[c0,c1,c2,c3,c4,c5,c6,c7,c8,c9,c10,c11,c12,c13,c14,c15,c16,c17,c18,c19,c20,c21,c22,c23]=p.cells.toList:=by
 obtain ⟨xs,m,_,hx,_,hl,hf⟩:=DataW.trod_struct Tryz.underlying45 h
 obtain ⟨⟨ki,ks,kb,k8⟩,⟨k16,k64,k32,ksl⟩,kop,kr,kc,ko,kin,kno⟩:=cells1
 match xs,hl with
 | [y0,y1,y2,y3,y4,y5,y6,y7,y8,y9,y10,y11,y12],_=>
  have h0:DataW.trod enc Tryz.prog w 0 (fun _=>true) true m 3 [c0]=some y0:=by
   have q:DataW.trod enc Tryz.prog w 0 (fun _=>true) true m 3 ((List.drop 0 [c0,c1,c2,c3,c4,c5,c6,c7,c8,c9,c10,c11,c12,c13,c14,c15,c16,c17,c18,c19,c20,c21,c22,c23]).take (Tryz.prog.cellsOf 3))=some y0:=hf 0 _ rfl
   rw [ki] at q
   exact q
  have h1:DataW.trod enc Tryz.prog w 0 (fun _=>true) true m 40 [c1,c2,c3,c4]=some y1:=by
   have q:DataW.trod enc Tryz.prog w 0 (fun _=>true) true m 40 ((List.drop 1 [c0,c1,c2,c3,c4,c5,c6,c7,c8,c9,c10,c11,c12,c13,c14,c15,c16,c17,c18,c19,c20,c21,c22,c23]).take (Tryz.prog.cellsOf 40))=some y1:=hf 1 _ rfl
   rw [kr] at q
   exact q
  have h2:DataW.trod enc Tryz.prog w 0 (fun _=>true) true m 4 [c5]=some y2:=by
   have q:DataW.trod enc Tryz.prog w 0 (fun _=>true) true m 4 ((List.drop 5 [c0,c1,c2,c3,c4,c5,c6,c7,c8,c9,c10,c11,c12,c13,c14,c15,c16,c17,c18,c19,c20,c21,c22,c23]).take (Tryz.prog.cellsOf 4))=some y2:=hf 2 _ rfl
   rw [kb] at q
   exact q
  have h3:DataW.trod enc Tryz.prog w 0 (fun _=>true) true m 4 [c6]=some y3:=by
   have q:DataW.trod enc Tryz.prog w 0 (fun _=>true) true m 4 ((List.drop 6 [c0,c1,c2,c3,c4,c5,c6,c7,c8,c9,c10,c11,c12,c13,c14,c15,c16,c17,c18,c19,c20,c21,c22,c23]).take (Tryz.prog.cellsOf 4))=some y3:=hf 3 _ rfl
   rw [kb] at q
   exact q
  have h4:DataW.trod enc Tryz.prog w 0 (fun _=>true) true m 40 [c7,c8,c9,c10]=some y4:=by
   have q:DataW.trod enc Tryz.prog w 0 (fun _=>true) true m 40 ((List.drop 7 [c0,c1,c2,c3,c4,c5,c6,c7,c8,c9,c10,c11,c12,c13,c14,c15,c16,c17,c18,c19,c20,c21,c22,c23]).take (Tryz.prog.cellsOf 40))=some y4:=hf 4 _ rfl
   rw [kr] at q
   exact q
  have h5:DataW.trod enc Tryz.prog w 0 (fun _=>true) true m 40 [c11,c12,c13,c14]=some y5:=by
   have q:DataW.trod enc Tryz.prog w 0 (fun _=>true) true m 40 ((List.drop 11 [c0,c1,c2,c3,c4,c5,c6,c7,c8,c9,c10,c11,c12,c13,c14,c15,c16,c17,c18,c19,c20,c21,c22,c23]).take (Tryz.prog.cellsOf 40))=some y5:=hf 5 _ rfl
   rw [kr] at q
   exact q
  have h6:DataW.trod enc Tryz.prog w 0 (fun _=>true) true m 5 [c15]=some y6:=by
   have q:DataW.trod enc Tryz.prog w 0 (fun _=>true) true m 5 ((List.drop 15 [c0,c1,c2,c3,c4,c5,c6,c7,c8,c9,c10,c11,c12,c13,c14,c15,c16,c17,c18,c19,c20,c21,c22,c23]).take (Tryz.prog.cellsOf 5))=some y6:=hf 6 _ rfl
   rw [k8] at q
   exact q
  have h7:DataW.trod enc Tryz.prog w 0 (fun _=>true) true m 3 [c16]=some y7:=by
   have q:DataW.trod enc Tryz.prog w 0 (fun _=>true) true m 3 ((List.drop 16 [c0,c1,c2,c3,c4,c5,c6,c7,c8,c9,c10,c11,c12,c13,c14,c15,c16,c17,c18,c19,c20,c21,c22,c23]).take (Tryz.prog.cellsOf 3))=some y7:=hf 7 _ rfl
   rw [ki] at q
   exact q
  have h8:DataW.trod enc Tryz.prog w 0 (fun _=>true) true m 9 [c17]=some y8:=by
   have q:DataW.trod enc Tryz.prog w 0 (fun _=>true) true m 9 ((List.drop 17 [c0,c1,c2,c3,c4,c5,c6,c7,c8,c9,c10,c11,c12,c13,c14,c15,c16,c17,c18,c19,c20,c21,c22,c23]).take (Tryz.prog.cellsOf 9))=some y8:=hf 8 _ rfl
   rw [ks] at q
   exact q
  have h9:DataW.trod enc Tryz.prog w 0 (fun _=>true) true m 4 [c18]=some y9:=by
   have q:DataW.trod enc Tryz.prog w 0 (fun _=>true) true m 4 ((List.drop 18 [c0,c1,c2,c3,c4,c5,c6,c7,c8,c9,c10,c11,c12,c13,c14,c15,c16,c17,c18,c19,c20,c21,c22,c23]).take (Tryz.prog.cellsOf 4))=some y9:=hf 9 _ rfl
   rw [kb] at q
   exact q
  have h10:DataW.trod enc Tryz.prog w 0 (fun _=>true) true m 43 [c19,c20,c21]=some y10:=by
   have q:DataW.trod enc Tryz.prog w 0 (fun _=>true) true m 43 ((List.drop 19 [c0,c1,c2,c3,c4,c5,c6,c7,c8,c9,c10,c11,c12,c13,c14,c15,c16,c17,c18,c19,c20,c21,c22,c23]).take (Tryz.prog.cellsOf 43))=some y10:=hf 10 _ rfl
   rw [kc] at q
   exact q
  have h11:DataW.trod enc Tryz.prog w 0 (fun _=>true) true m 9 [c22]=some y11:=by
   have q:DataW.trod enc Tryz.prog w 0 (fun _=>true) true m 9 ((List.drop 22 [c0,c1,c2,c3,c4,c5,c6,c7,c8,c9,c10,c11,c12,c13,c14,c15,c16,c17,c18,c19,c20,c21,c22,c23]).take (Tryz.prog.cellsOf 9))=some y11:=hf 11 _ rfl
   rw [ks] at q
   exact q
  have h12:DataW.trod enc Tryz.prog w 0 (fun _=>true) true m 21 [c23]=some y12:=by
   have q:DataW.trod enc Tryz.prog w 0 (fun _=>true) true m 21 ((List.drop 23 [c0,c1,c2,c3,c4,c5,c6,c7,c8,c9,c10,c11,c12,c13,c14,c15,c16,c17,c18,c19,c20,c21,c22,c23]).take (Tryz.prog.cellsOf 21))=some y12:=hf 12 _ rfl
   rw [k32] at q
   exact q
  obtain ⟨k,ek⟩:=rd_i64 h0
  obtain ⟨r,hr,e1,e2,e3,e4⟩:=rd_reg h1
  obtain ⟨b1,e5⟩:=rd_bool h2
  obtain ⟨b2,e6⟩:=rd_bool h3
  obtain ⟨rb,hrb,e7,e8,e9,e10⟩:=rd_reg h4
  obtain ⟨ri,hri,e11,e12,e13,e14⟩:=rd_reg h5
  obtain ⟨sc,e15,_⟩:=rd_u8 h6
  obtain ⟨di,e16⟩:=rd_i64 h7
  obtain ⟨sy,e17⟩:=rd_str h8
  obtain ⟨st,e18⟩:=rd_bool h9
  obtain ⟨co,e19,e20,e21⟩:=rd_con h10
  obtain ⟨la,e22⟩:=rd_str h11
  obtain ⟨re,e23⟩:=rd_i32 h12
  subst ek e1 e2 e3 e4 e5 e6 e7 e8 e9 e10 e11 e12 e13 e14 e15 e16 e17 e18 e19 e20 e21 e22 e23
  exact ⟨⟨k,r,b1,b2,rb,ri,sc,di,sy,st,co,la,re⟩,⟨hr,hrb,hri⟩,rfl⟩
theorem rd_op' {cs:List Value} {x:DataW H × List MemPlace} (h:DataW.trod enc Tryz.prog w 0 (fun _=>true) true n 45 cs=some x):∃ p:PO,p.Ok∧cs=p.cells.toList:=by
 obtain ⟨_,_,_,_,hl,_,_⟩:=DataW.trod_struct Tryz.underlying45 h
 rw [cells1.2.2.2.2.2.1] at hl
 match cs,hl with
 | [c0,c1,c2,c3,c4,c5,c6,c7,c8,c9,c10,c11,c12,c13,c14,c15,c16,c17,c18,c19,c20,c21,c22,c23],_=>exact rd_op h
theorem add0 (a:Addr):a.add 0=a:=by simp [Addr.add]
theorem spot_of {a:Addr} {v:Value} (h:w.cell? a=some v):∃ b off,a=⟨b,off,none⟩∧b < w.heap.size:=by
 have h1:=World.cell?_spot h
 have h2:=World.block_lt_of_cell? w _ h
 obtain ⟨b,off,sp⟩:=a
 obtain rfl:sp=none:=h1
 exact ⟨b,off,rfl,h2⟩
theorem range_of {b off o k:Nat} {cs:List Value} (h:w.cells? 0 ((⟨b,off,none⟩:Addr).add o) k=some cs):w.rangeAt b (off+o) cs∧cs.length=k:=by
 obtain ⟨_,h1,h2⟩:=World.cells?_some h
 refine ⟨fun j v hj=>?_,h1⟩
 have hjk:j < k:=by have:=(List.getElem?_eq_some_iff.1 hj).1;omega
 have h3:=h2 j hjk
 rw [Addr.add_mid,Addr.add_mid,hj] at h3
 exact h3
theorem rd_strs {c:Value} {x:DataW H × List MemPlace} (h:DataW.trod enc Tryz.prog w 0 (fun _=>true) true n 35 [c]=some x):
  ∃ (s:SV) (l:List ByteArray),c=s.val∧StrsAt w s l∧(0 < s.n→∀ b off,s.A=some ⟨b,off,none⟩→b < w.heap.size)∧l.length≤Rows.uptoBulk x.1:=by
 rcases open_strs Tryz.underlying35 Tryz.underlying9 cells1.1.2.1 h with ⟨hc,hx⟩ | ⟨a,len,cap,m,Sx,hc,hb,hl,hm,hmm,hx,hi⟩
 ·obtain rfl:c = .slice none 0 0:=by simpa using hc
  exact ⟨⟨none,0,0⟩,[],rfl,⟨rfl,Sl.nil w⟩,fun h=>absurd h (by simp),by simp⟩
 ·obtain rfl:c = .slice (some a) len cap:=by simpa using hc
  have hmc:m=cap:=by simpa using hmm
  have hfirst:0 < len→∃ b off,a=⟨b,off,none⟩∧b < w.heap.size:=fun h0=>spot_of (by have:=(hi 0 (by omega)).1;rwa [add0] at this)
  refine ⟨⟨some a,len,cap⟩,(List.range len).map Sx,rfl,⟨by simp,by simp,fun hn=>?_⟩,fun hn b off e=>?_,?_⟩
  ·obtain ⟨b,off,rfl,hbl⟩:=hfirst (by simpa using hn)
   refine ⟨b,off,rfl,hbl,fun j u hj=>?_⟩
   have hjl:j < len:=by have:=(List.getElem?_eq_some_iff.1 hj).1;simpa using this
   have:=(hi j (by omega)).1
   rw [Addr.add_mid] at this
   rw [this]
   simpa [hjl] using hj
  ·obtain ⟨b',off',rfl,hbl⟩:=hfirst hn
   simp only [Option.some.injEq,Addr.mk.injEq] at e
   omega
  ·rw [hx]
   simp only [Rows.uptoBulk]
   have:=bulk_len ((List.range len).map fun i=>(DataW.lit (.string (Sx i).data.toList):DataW H))
   simp only [List.length_map,List.length_range] at this ⊢
   omega
instance:Inhabited PO:=⟨⟨0,⟨false,0,0,0⟩,false,false,⟨false,0,0,0⟩,⟨false,0,0,0⟩,0,0,⟨#[]⟩,false,⟨0,0,⟨#[]⟩⟩,⟨#[]⟩,0⟩⟩
theorem rd_ops {c:Value} {x:DataW H × List MemPlace} (h:DataW.trod enc Tryz.prog w 0 (fun _=>true) true n 36 [c]=some x):
  ∃ (s:SV) (l:List PO),c=s.val∧POsAt w s l∧(∀ p∈l,p.Ok)∧(0 < s.n→∀ b off,s.A=some ⟨b,off,none⟩→b < w.heap.size)∧l.length+1≤Rows.uptoBulk x.1:=by
 rcases open_slice Tryz.underlying36 h with ⟨hc,hx⟩ | ⟨a,len,cap,m,n',D,Pl,hc,hb,hl,hm,hmm,hx,hi⟩
 ·obtain rfl:c = .slice none 0 0:=by simpa using hc
  exact ⟨⟨none,0,0⟩,[],rfl,⟨rfl,fun h=>absurd h (by simp)⟩,by simp,fun h=>absurd h (by simp),by simpa using bulk_one x.1⟩
 ·obtain rfl:c = .slice (some a) len cap:=by simpa using hc
  have hmc:m=cap:=by simpa using hmm
  rw [cells1.2.2.2.2.2.1] at hi
  have hi':∀ i,i < len→∃ p:PO,p.Ok∧w.cells? 0 (a.add (i*24)) 24=some p.cells.toList:=fun i hil=>by
   obtain ⟨cs',h1,h2⟩:=hi i (by omega)
   obtain ⟨p,hp,rfl⟩:=rd_op' h2
   exact ⟨p,hp,h1⟩
  obtain ⟨P,hP⟩:=choose_lt hi'
  have hfirst:0 < len→∃ b off,a=⟨b,off,none⟩∧b < w.heap.size:=fun h0=>by
   obtain ⟨_,h1⟩:=hP 0 h0
   obtain ⟨_,_,h3⟩:=World.cells?_some h1
   have h4:=h3 0 (by omega)
   rw [Nat.zero_mul,add0,add0] at h4
   exact spot_of (v:=.int .i64 (P 0).kind) (by rw [h4];rfl)
  refine ⟨⟨some a,len,cap⟩,(List.range len).map P,rfl,⟨by simp,fun hn=>?_⟩,fun p hp=>?_,fun hn b off e=>?_,?_⟩
  ·obtain ⟨b,off,rfl,hbl⟩:=hfirst (by simpa using hn)
   refine ⟨b,off,rfl,hbl,fun k p hk=>?_⟩
   have hkl:k < len:=by have:=(List.getElem?_eq_some_iff.1 hk).1;simpa using this
   obtain rfl:P k=p:=by simpa [hkl] using hk
   exact (range_of (hP k hkl).2).1
  ·obtain ⟨i,hil,rfl⟩:=List.mem_map.1 hp
   exact (hP i (List.mem_range.1 hil)).1
  ·obtain ⟨b',off',rfl,hbl⟩:=hfirst hn
   simp only [Option.some.injEq,Addr.mk.injEq] at e
   omega
  ·rw [hx]
   simp only [Rows.uptoBulk]
   have:=bulk_len ((List.range len).map D)
   simp only [List.length_map,List.length_range] at this ⊢
   omega
theorem rd_ins {c0 c1 c2 c3 c4 c5 c6 c7 c8 c9:Value} {x:DataW H × List MemPlace} (h:DataW.trod enc Tryz.prog w 0 (fun _=>true) true n 38 [c0,c1,c2,c3,c4,c5,c6,c7,c8,c9]=some x):∃ p:PI,[c0,c1,c2,c3,c4,c5,c6,c7,c8,c9]=p.cells.toList∧(Rows.uptoBulk x.1≤1048576→p.At w w.heap.size)∧p.ops.length+p.inp.length+p.out.length≤Rows.uptoBulk x.1:=by
 obtain ⟨xs,m,_,hx,_,hl,hf⟩:=DataW.trod_struct Tryz.underlying38 h
 obtain ⟨⟨ki,ks,kb,k8⟩,⟨k16,k64,k32,ksl⟩,kop,kr,kc,ko,kin,kno⟩:=cells1
 match xs,hl with
 | [y0,y1,y2,y3,y4,y5,y6,y7,y8,y9],_=>
  have h0:DataW.trod enc Tryz.prog w 0 (fun _=>true) true m 9 [c0]=some y0:=by
   have q:DataW.trod enc Tryz.prog w 0 (fun _=>true) true m 9 ((List.drop 0 [c0,c1,c2,c3,c4,c5,c6,c7,c8,c9]).take (Tryz.prog.cellsOf 9))=some y0:=hf 0 _ rfl
   rw [ks] at q
   exact q
  have h1:DataW.trod enc Tryz.prog w 0 (fun _=>true) true m 35 [c1]=some y1:=by
   have q:DataW.trod enc Tryz.prog w 0 (fun _=>true) true m 35 ((List.drop 1 [c0,c1,c2,c3,c4,c5,c6,c7,c8,c9]).take (Tryz.prog.cellsOf 35))=some y1:=hf 1 _ rfl
   rw [ksl] at q
   exact q
  have h2:DataW.trod enc Tryz.prog w 0 (fun _=>true) true m 36 [c2]=some y2:=by
   have q:DataW.trod enc Tryz.prog w 0 (fun _=>true) true m 36 ((List.drop 2 [c0,c1,c2,c3,c4,c5,c6,c7,c8,c9]).take (Tryz.prog.cellsOf 36))=some y2:=hf 2 _ rfl
   rw [kop] at q
   exact q
  have h3:DataW.trod enc Tryz.prog w 0 (fun _=>true) true m 36 [c3]=some y3:=by
   have q:DataW.trod enc Tryz.prog w 0 (fun _=>true) true m 36 ((List.drop 3 [c0,c1,c2,c3,c4,c5,c6,c7,c8,c9]).take (Tryz.prog.cellsOf 36))=some y3:=hf 3 _ rfl
   rw [kop] at q
   exact q
  have h4:DataW.trod enc Tryz.prog w 0 (fun _=>true) true m 36 [c4]=some y4:=by
   have q:DataW.trod enc Tryz.prog w 0 (fun _=>true) true m 36 ((List.drop 4 [c0,c1,c2,c3,c4,c5,c6,c7,c8,c9]).take (Tryz.prog.cellsOf 36))=some y4:=hf 4 _ rfl
   rw [kop] at q
   exact q
  have h5:DataW.trod enc Tryz.prog w 0 (fun _=>true) true m 4 [c5]=some y5:=by
   have q:DataW.trod enc Tryz.prog w 0 (fun _=>true) true m 4 ((List.drop 5 [c0,c1,c2,c3,c4,c5,c6,c7,c8,c9]).take (Tryz.prog.cellsOf 4))=some y5:=hf 5 _ rfl
   rw [kb] at q
   exact q
  have h6:DataW.trod enc Tryz.prog w 0 (fun _=>true) true m 4 [c6]=some y6:=by
   have q:DataW.trod enc Tryz.prog w 0 (fun _=>true) true m 4 ((List.drop 6 [c0,c1,c2,c3,c4,c5,c6,c7,c8,c9]).take (Tryz.prog.cellsOf 4))=some y6:=hf 6 _ rfl
   rw [kb] at q
   exact q
  have h7:DataW.trod enc Tryz.prog w 0 (fun _=>true) true m 4 [c7]=some y7:=by
   have q:DataW.trod enc Tryz.prog w 0 (fun _=>true) true m 4 ((List.drop 7 [c0,c1,c2,c3,c4,c5,c6,c7,c8,c9]).take (Tryz.prog.cellsOf 4))=some y7:=hf 7 _ rfl
   rw [kb] at q
   exact q
  have h8:DataW.trod enc Tryz.prog w 0 (fun _=>true) true m 4 [c8]=some y8:=by
   have q:DataW.trod enc Tryz.prog w 0 (fun _=>true) true m 4 ((List.drop 8 [c0,c1,c2,c3,c4,c5,c6,c7,c8,c9]).take (Tryz.prog.cellsOf 4))=some y8:=hf 8 _ rfl
   rw [kb] at q
   exact q
  have h9:DataW.trod enc Tryz.prog w 0 (fun _=>true) true m 35 [c9]=some y9:=by
   have q:DataW.trod enc Tryz.prog w 0 (fun _=>true) true m 35 ((List.drop 9 [c0,c1,c2,c3,c4,c5,c6,c7,c8,c9]).take (Tryz.prog.cellsOf 35))=some y9:=hf 9 _ rfl
   rw [ksl] at q
   exact q
  obtain ⟨o0,e0⟩:=rd_str h0
  obtain ⟨s1,l1,e1,a1,b1,f1⟩:=rd_strs h1
  obtain ⟨s2,l2,e2,a2,k2,b2,f2⟩:=rd_ops h2
  obtain ⟨s3,l3,e3,a3,k3,b3,f3⟩:=rd_ops h3
  obtain ⟨s4,l4,e4,a4,k4,b4,f4⟩:=rd_ops h4
  obtain ⟨t5,e5⟩:=rd_bool h5
  obtain ⟨t6,e6⟩:=rd_bool h6
  obtain ⟨t7,e7⟩:=rd_bool h7
  obtain ⟨t8,e8⟩:=rd_bool h8
  obtain ⟨s9,l9,e9,a9,b9,f9⟩:=rd_strs h9
  subst e0 e1 e2 e3 e4 e5 e6 e7 e8 e9
  subst hx
  simp only [List.map_cons,List.map_nil,Rows.uptoBulk,Rows.uptoBulkAll]
  refine ⟨⟨o0,s1,l1,s2,l2,s3,l3,s4,l4,t5,t6,t7,t8,s9,l9⟩,rfl,fun hk=>⟨a1,a2,a3,a4,a9,?_,⟨by dsimp only;omega,by dsimp only;omega,by dsimp only;omega,by dsimp only;omega,by dsimp only;omega⟩,k2,k3,k4⟩,by dsimp only;omega⟩
  intro s hs
  simp only [List.mem_cons,List.not_mem_nil,or_false] at hs
  rcases hs with rfl | rfl | rfl | rfl | rfl
  ·exact b1
  ·exact b2
  ·exact b3
  ·exact b4
  ·exact b9
theorem rd_node {c0 c1 c2 c3 c4 c5 c6 c7 c8 c9 c10 c11 c12:Value} {x:DataW H × List MemPlace} (h:DataW.trod enc Tryz.prog w 0 (fun _=>true) true n 57 [c0,c1,c2,c3,c4,c5,c6,c7,c8,c9,c10,c11,c12]=some x):∃ p:PN,[c0,c1,c2,c3,c4,c5,c6,c7,c8,c9,c10,c11,c12]=p.cells.toList∧(Rows.uptoBulk x.1≤1048576→p.At w w.heap.size)∧p.ins.ops.length+p.ins.inp.length+p.ins.out.length≤Rows.uptoBulk x.1:=by
 obtain ⟨xs,m,_,hx,_,hl,hf⟩:=DataW.trod_struct Tryz.underlying57 h
 obtain ⟨⟨ki,ks,kb,k8⟩,⟨k16,k64,k32,ksl⟩,kop,kr,kc,ko,kin,kno⟩:=cells1
 match xs,hl with
 | [y0,y1,y2,y3],_=>
  have h0:DataW.trod enc Tryz.prog w 0 (fun _=>true) true m 3 [c0]=some y0:=by
   have q:DataW.trod enc Tryz.prog w 0 (fun _=>true) true m 3 ((List.drop 0 [c0,c1,c2,c3,c4,c5,c6,c7,c8,c9,c10,c11,c12]).take (Tryz.prog.cellsOf 3))=some y0:=hf 0 _ rfl
   rw [ki] at q
   exact q
  have h1:DataW.trod enc Tryz.prog w 0 (fun _=>true) true m 9 [c1]=some y1:=by
   have q:DataW.trod enc Tryz.prog w 0 (fun _=>true) true m 9 ((List.drop 1 [c0,c1,c2,c3,c4,c5,c6,c7,c8,c9,c10,c11,c12]).take (Tryz.prog.cellsOf 9))=some y1:=hf 1 _ rfl
   rw [ks] at q
   exact q
  have h2:DataW.trod enc Tryz.prog w 0 (fun _=>true) true m 35 [c2]=some y2:=by
   have q:DataW.trod enc Tryz.prog w 0 (fun _=>true) true m 35 ((List.drop 2 [c0,c1,c2,c3,c4,c5,c6,c7,c8,c9,c10,c11,c12]).take (Tryz.prog.cellsOf 35))=some y2:=hf 2 _ rfl
   rw [ksl] at q
   exact q
  have h3:DataW.trod enc Tryz.prog w 0 (fun _=>true) true m 38 [c3,c4,c5,c6,c7,c8,c9,c10,c11,c12]=some y3:=by
   have q:DataW.trod enc Tryz.prog w 0 (fun _=>true) true m 38 ((List.drop 3 [c0,c1,c2,c3,c4,c5,c6,c7,c8,c9,c10,c11,c12]).take (Tryz.prog.cellsOf 38))=some y3:=hf 3 _ rfl
   rw [kin] at q
   exact q
  obtain ⟨k,e0⟩:=rd_i64 h0
  obtain ⟨la,e1⟩:=rd_str h1
  obtain ⟨s,l,e2,a2,b2,f2⟩:=rd_strs h2
  obtain ⟨p,e3,a3,f3⟩:=rd_ins h3
  subst e0 e1 e2
  subst hx
  simp only [List.map_cons,List.map_nil,Rows.uptoBulk,Rows.uptoBulkAll]
  refine ⟨⟨k,la,s,l,p⟩,?_,fun hk=>⟨a3 (by omega),a2,b2,by dsimp only;omega⟩,by dsimp only;omega⟩
  have e4:PN.cells ⟨k,la,s,l,p⟩ = #[.int .i64 k,.string la,s.val] ++ p.cells:=rfl
  rw [e4,Array.toList_append,← e3]
  rfl
theorem rd_node' {cs:List Value} {x:DataW H × List MemPlace} (h:DataW.trod enc Tryz.prog w 0 (fun _=>true) true n 57 cs=some x):∃ p:PN,cs=p.cells.toList∧(Rows.uptoBulk x.1≤1048576→p.At w w.heap.size)∧p.ins.ops.length+p.ins.inp.length+p.ins.out.length≤Rows.uptoBulk x.1:=by
 obtain ⟨_,_,_,_,hl,_,_⟩:=DataW.trod_struct Tryz.underlying57 h
 rw [cells1.2.2.2.2.2.2.2] at hl
 match cs,hl with
 | [c0,c1,c2,c3,c4,c5,c6,c7,c8,c9,c10,c11,c12],_=>exact rd_node h
instance:Inhabited PN:=⟨⟨0,⟨#[]⟩,⟨none,0,0⟩,[],⟨⟨#[]⟩,⟨none,0,0⟩,[],⟨none,0,0⟩,[],⟨none,0,0⟩,[],⟨none,0,0⟩,[],false,false,false,false,⟨none,0,0⟩,[]⟩⟩⟩
theorem bulk_sum {D:Nat→DataW H} {P:Nat→PN} : ∀ (l:List Nat),(∀ i∈l,(P i).ins.ops.length+(P i).ins.inp.length+(P i).ins.out.length≤Rows.uptoBulk (D i))→sumL (fun p:PI=>p.ops.length+p.inp.length+p.out.length) (insP (l.map P))≤Rows.uptoBulkAll (l.map D)
 | [],_=>by simp [insP,sumL]
 | i :: l,h=>by
  have ih:=bulk_sum l fun j hj=>h j (by simp [hj])
  have h1:=h i (by simp)
  simp only [List.map_cons,Rows.uptoBulkAll]
  unfold insP sumL at ih ⊢
  rw [List.filter_cons]
  split
  ·simp only [List.map_cons,List.sum_cons]
   omega
  ·omega
structure IntsAt (w:World) (s:SV) (zs:List Int):Prop where
 len:s.n=zs.length
 row:Sl w s.A zs.length (zs.map fun z=>Value.int .i64 z)
 few:zs.length≤1048576
 fit:∀ z∈zs,-9223372036854775808≤z∧z≤9223372036854775807
theorem rd_ints {c:Value} {x:DataW H × List MemPlace} (h:DataW.trod enc Tryz.prog w 0 (fun _=>true) true n 98 [c]=some x) (hk:Rows.uptoBulk x.1≤1048576):∃ (s:SV) (l:List Int),c=s.val∧IntsAt w s l:=by
 rcases open_ints Tryz.underlying98 Tryz.underlying3 cells1.1.1 h with ⟨hc,hx⟩ | ⟨a,len,cap,zs,hc,hb,hl,hm,hz,hx,hi,hwf⟩
 ·obtain rfl:c = .slice none 0 0:=by simpa using hc
  exact ⟨⟨none,0,0⟩,[],rfl,rfl,Sl.nil w,by simp,by simp⟩
 ·obtain rfl:c = .slice (some a) len cap:=by simpa using hc
  have hzc:zs.length=cap:=by simpa using hz
  have hlt:(zs.take len).length=len:=by rw [List.length_take];omega
  refine ⟨⟨some a,len,cap⟩,zs.take len,rfl,hlt.symm,⟨by simp,fun hn=>?_⟩,?_,fun z hzm=>?_⟩
  ·rw [hlt] at hn
   obtain ⟨b,off,rfl,hbl⟩:∃ b off,a=⟨b,off,none⟩∧b < w.heap.size:=spot_of (by have:=hi 0 (by omega);rwa [add0] at this)
   refine ⟨b,off,rfl,hbl,fun j u hj=>?_⟩
   rw [List.getElem?_map] at hj
   obtain ⟨z,hz1,rfl⟩:=Option.map_eq_some_iff.1 hj
   rw [List.getElem?_take] at hz1
   split at hz1
   ·have hjz:=(List.getElem?_eq_some_iff.1 hz1).1
    have:=hi j hjz
    rw [Addr.add_mid] at this
    rw [this,List.getD_eq_getElem?_getD,hz1]
    rfl
   ·cases hz1
  ·have h1:=bulk_len (lits (H:=H) .i64 (zs.take len))
   rw [hx] at hk
   simp only [Rows.uptoBulk] at hk
   have h2:(lits (H:=H) .i64 (zs.take len)).length=(zs.take len).length:=by simp [lits]
   omega
  ·have:=hwf z (List.mem_of_mem_take hzm)
   simpa [Lit.wf,IntKind.min,IntKind.max,IntKind.signed,IntKind.bits] using this
theorem rd_nodes {c:Value} {x:DataW H × List MemPlace} (h:DataW.trod enc Tryz.prog w 0 (fun _=>true) true n 22 [c]=some x) (hk:Rows.uptoBulk x.1≤1048576):
  ∃ (s:SV) (l:List PN),c=s.val∧NodesAt w w.heap.size s l∧BulkP l:=by
 rcases open_slice Tryz.underlying22 h with ⟨hc,hx⟩ | ⟨a,len,cap,m,n',D,Pl,hc,hb,hl,hm,hmm,hx,hi⟩
 ·obtain rfl:c = .slice none 0 0:=by simpa using hc
  exact ⟨⟨none,0,0⟩,[],rfl,⟨rfl,fun h=>absurd h (by simp),by simp,by simp⟩,by simp [BulkP,insP,sumL]⟩
 ·obtain rfl:c = .slice (some a) len cap:=by simpa using hc
  have hmc:m=cap:=by simpa using hmm
  rw [cells1.2.2.2.2.2.2.2] at hi
  rw [hx] at hk
  simp only [Rows.uptoBulk] at hk
  have hbl:=bulk_len ((List.range len).map D)
  simp only [List.length_map,List.length_range] at hbl
  have hi':∀ i,i < len→∃ p:PN,w.cells? 0 (a.add (i*13)) 13=some p.cells.toList∧p.At w w.heap.size∧p.ins.ops.length+p.ins.inp.length+p.ins.out.length≤Rows.uptoBulk (D i):=fun i hil=>by
   obtain ⟨cs',h1,h2⟩:=hi i (by omega)
   obtain ⟨p,rfl,hp,hs⟩:=rd_node' h2
   have hle:Rows.uptoBulk (D i)≤Rows.uptoBulkAll ((List.range len).map D):=bulk_part (List.mem_map.2 ⟨i,List.mem_range.2 hil,rfl⟩)
   exact ⟨p,h1,hp (by simp only;omega),hs⟩
  obtain ⟨P,hP⟩:=choose_lt hi'
  have hfirst:0 < len→∃ b off,a=⟨b,off,none⟩∧b < w.heap.size:=fun h0=>by
   obtain ⟨h1,_⟩:=hP 0 h0
   obtain ⟨_,_,h3⟩:=World.cells?_some h1
   have h4:=h3 0 (by omega)
   rw [Nat.zero_mul,add0,add0] at h4
   exact spot_of (v:=.int .i64 (P 0).kind) (by rw [h4];rfl)
  refine ⟨⟨some a,len,cap⟩,(List.range len).map P,rfl,⟨by simp,fun hn=>?_,fun p hp=>?_,by simp;omega⟩,?_⟩
  ·obtain ⟨b,off,rfl,hbl⟩:=hfirst (by simpa using hn)
   refine ⟨b,off,rfl,hbl,hbl,fun k p hk=>?_⟩
   have hkl:k < len:=by have:=(List.getElem?_eq_some_iff.1 hk).1;simpa using this
   obtain rfl:P k=p:=by simpa [hkl] using hk
   exact (range_of (hP k hkl).1).1
  ·obtain ⟨i,hil,rfl⟩:=List.mem_map.1 hp
   exact (hP i (List.mem_range.1 hil)).2.1
  ·have:=bulk_sum (D:=D) (P:=P) (List.range len) fun i hil=>(hP i (List.mem_range.1 hil)).2.2
   show sumL _ _≤1048576
   omega
end
end
section
open Go Go.RowKit Bth
set_option maxRecDepth 100000
abbrev KS:=Nat→Nat→Int
def wrK (s:KS) (id m:Nat) (n:Int):KS:=fun i b=>if i=id∧m.testBit b=true then n else s i b
def KLive (live:Nat→Nat→Prop) (a:Nat→Nat) (ow bo:KS):Prop:=∀ c b,live c b→ow c b≠0→bo (a c) b=ow c b
def pendK (l:List (Nat × Nat)) (c b:Nat):Prop:=∃ y∈l,y.1=c∧y.2.testBit b=true
theorem KLive.start {live:Nat→Nat→Prop} {a:Nat→Nat} {bo:KS} : KLive live a (fun _ _=>0) bo:=fun _ _ _ h=>absurd rfl h
theorem KLive.mono {live live':Nat→Nat→Prop} {a:Nat→Nat} {ow bo:KS} (h:KLive live a ow bo) (hs:∀ c b,live' c b→live c b):KLive live' a ow bo:=fun c b hl=>h c b (hs c b hl)
theorem KLive.write {live:Nat→Nat→Prop} {a:Nat→Nat} {ow bo:KS} {x:Nat × Nat} {l:List (Nat × Nat)} (h:KLive (fun c b=>live c b∧¬pendK (x :: l) c b) a ow bo)
  (hap:∀ c b,live c b→x.2.testBit b=true→c≠x.1→a c≠a x.1) (n:Int):KLive (fun c b=>live c b∧¬pendK l c b) a (wrK ow x.1 x.2 n) (wrK bo (a x.1) x.2 n):=by
 rintro c b ⟨hl,hp⟩ h0
 unfold wrK at h0 ⊢
 by_cases hc:c=x.1
 ·subst hc
  by_cases hb:x.2.testBit b=true
  ·simp [hb]
  ·have hb':¬(x.1=x.1∧x.2.testBit b=true):=fun h=>hb h.2
   have hb2:¬(a x.1=a x.1∧x.2.testBit b=true):=fun h=>hb h.2
   rw [if_neg hb'] at h0 ⊢
   rw [if_neg hb2]
   refine h _ b ⟨hl,?_⟩ h0
   rintro ⟨y,hy,e1,e2⟩
   rcases List.mem_cons.1 hy with rfl | hy
   ·exact hb e2
   ·exact hp ⟨y,hy,e1,e2⟩
 ·have h1:¬(c=x.1∧x.2.testBit b=true):=fun h=>hc h.1
  rw [if_neg h1] at h0 ⊢
  have h2:¬(a c=a x.1∧x.2.testBit b=true):=fun h=>hap c b hl h.2 hc h.1
  rw [if_neg h2]
  refine h c b ⟨hl,?_⟩ h0
  rintro ⟨y,hy,e1,e2⟩
  rcases List.mem_cons.1 hy with rfl | hy
  ·exact hc e1.symm
  ·exact hp ⟨y,hy,e1,e2⟩
abbrev KC:=Nat × (Nat→Int)
def kcV (x:KC):List Value:=.int .u32 (x.1:Int) :: (List.range 16).map fun b=>.int .i64 (x.2 b)
def kget:List KC→KS
 | [],_=>fun _=>0
 | x :: l,c=>if x.1=c then x.2 else kget l c
theorem kcV_len (x:KC):(kcV x).length=17:=rfl
def FirstK (l:List KC) (k:Nat) (id:Nat):Prop:=∀ (j:Nat) (y:KC),j < k→l[j]? = some y→y.1≠id
theorem kget_first:∀ {l:List KC} {k:Nat} {x:KC},l[k]? = some x→FirstK l k x.1→kget l x.1=x.2
 | [],_,_,h,_=>by cases h
 | y :: l,0,x,h,_=>by injection h with h;subst h;simp [kget]
 | y :: l,k+1,x,h,hf=>by
  unfold kget
  rw [if_neg (hf 0 y (Nat.succ_pos k) rfl)]
  exact kget_first (l:=l) (k:=k) h fun j z hj hz=>hf (j+1) z (Nat.succ_lt_succ hj) hz
theorem kget_none:∀ {l:List KC} {c:Nat},(∀ y∈l,y.1≠c)→kget l c=fun _=>0
 | [],_,_=>rfl
 | y :: l,c,h=>by
  unfold kget
  rw [if_neg (h y (by simp))]
  exact kget_none fun z hz=>h z (by simp [hz])
theorem kget_snoc:∀ {l:List KC} {c:Nat},(∀ y∈l,y.1≠c)→kget (l ++ [(c,fun _=>0)])=kget l
 | [],c,_=>by funext i;simp only [List.nil_append,kget];split<;>rfl
 | y :: l,c,h=>by
  funext i
  simp only [List.cons_append,kget]
  rw [kget_snoc fun z hz=>h z (by simp [hz])]
theorem kget_set:∀ {l:List KC} {k:Nat} {x:KC} (f:Nat→Int),l[k]? = some x→FirstK l k x.1→kget (l.set k (x.1,f))=fun c=>if c=x.1 then f else kget l c
 | [],_,_,_,h,_=>by cases h
 | y :: l,0,x,f,h,_=>by
  injection h with h
  subst h
  funext c
  simp only [List.set_cons_zero,kget]
  by_cases e:c=y.1
  ·rw [if_pos e.symm,if_pos e]
  ·rw [if_neg (fun h=>e h.symm),if_neg e,if_neg (fun h=>e h.symm)]
 | y :: l,k+1,x,f,h,hf=>by
  funext c
  have hy:=hf 0 y (Nat.succ_pos k) rfl
  simp only [List.set_cons_succ,kget]
  rw [kget_set f (l:=l) (k:=k) h fun j z hj hz=>hf (j+1) z (Nat.succ_lt_succ hj) hz]
  by_cases e:y.1=c
  ·rw [if_pos e,if_neg (fun h=>hy (e.trans h)),if_pos e]
  ·rw [if_neg e,if_neg e]
structure KlOk (l:List KC):Prop where
 nd:(l.map (·.1)).Nodup
 lt:∀ x∈l,x.1 < 4294967296
theorem KlOk.len {l:List KC} (h:KlOk l):l.length≤4294967296:=by
 have:=nodup_le h.nd (m:=List.range 4294967296) fun x hx=>by
  obtain ⟨y,hy,rfl⟩:=List.mem_map.1 hx
  exact List.mem_range.2 (h.lt y hy)
 rwa [List.length_map,List.length_range] at this
theorem KlOk.snoc {l:List KC} (h:KlOk l) {c:Nat} (hc:c < 4294967296) (hn:∀ y∈l,y.1≠c) (f:Nat→Int):KlOk (l ++ [(c,f)]):=by
 refine ⟨?_,fun x hx=>?_⟩
 ·rw [List.map_append,List.map_cons,List.map_nil,List.nodup_append]
  refine ⟨h.nd,by simp,?_⟩
  intro a ha b hb
  obtain ⟨y,hy,rfl⟩:=List.mem_map.1 ha
  obtain rfl:b=c:=by simpa using hb
  exact hn y hy
 ·rcases List.mem_append.1 hx with hx | hx
  ·exact h.lt x hx
  ·obtain rfl:x=(c,f):=by simpa using hx
   exact hc
theorem KlOk.set {l:List KC} (h:KlOk l) {k:Nat} {x:KC} (hk:l[k]? = some x) (f:Nat→Int):KlOk (l.set k (x.1,f)):=by
 have e:(l.set k (x.1,f)).map (·.1)=l.map (·.1):=by
  rw [List.map_set]
  refine List.ext_getElem? fun j=>?_
  rw [List.getElem?_set]
  split
  ·rename_i e
   subst e
   have:=(List.getElem?_eq_some_iff.1 hk).1
   rw [if_pos (by simpa using this),List.getElem?_map,hk]
   rfl
  ·rfl
 refine ⟨by rw [e];exact h.nd,fun y hy=>?_⟩
 have:y.1∈l.map (·.1):=by rw [← e];exact List.mem_map.2 ⟨y,hy,rfl⟩
 obtain ⟨z,hz,e⟩:=List.mem_map.1 this
 rw [← e]
 exact h.lt z hz
end
section
open Go Go.RowKit Bth
set_option maxRecDepth 100000
def LiveInP (is:List PI) (sc:Nat→List (Option Nat)):Nat→Nat→Nat→Prop:=LiveIn (flowP is sc).reads (flowP is sc).writes (flowP is sc).succ
theorem ofGs_bit':∀ (gs:List G) (F:Nat→Nat) (c b:Nat),(gs.foldl (fun F g=>orM F g.id g.spec) F c).testBit b=true↔(F c).testBit b=true∨∃ g∈gs,g.id=c∧g.spec.testBit b=true
 | [],F,c,b=>by simp
 | g :: gs,F,c,b=>by
  rw [List.foldl_cons,ofGs_bit' gs]
  unfold orM
  by_cases hc:c=g.id
  ·subst hc
   simp only [if_true,Nat.testBit_or,Bool.or_eq_true,List.mem_cons,exists_eq_or_imp,true_and]
   exact ⟨fun h=>by rcases h with (h | h) | h<;>simp [h],fun h=>by rcases h with h | h | h<;>simp [h]⟩
  ·have hc':¬g.id=c:=fun h=>hc h.symm
   simp only [if_neg hc,List.mem_cons,exists_eq_or_imp,hc',false_and,false_or]
theorem ofGs_bit {gs:List G} {c b:Nat} : (ofGs gs c).testBit b=true↔∃ g∈gs,g.id=c∧g.spec.testBit b=true:=by
 unfold ofGs
 rw [ofGs_bit']
 simp
theorem tl_bit {gs:List G} (hg:∀ g∈gs,g.Ok) {c b:Nat} : (∃ y∈tlOf gs,y.1=c∧y.2.testBit b=true)↔(ofGs gs c).testBit b=true:=by
 obtain ⟨ht,he⟩:=tlOf_spec hg
 rw [← he]
 constructor
 ·rintro ⟨y,hy,rfl,hb⟩
  rw [tv_of_mem ht hy];exact hb
 ·intro hb
  have h0:tv (tlOf gs) c≠0:=fun h=>by rw [h] at hb;simp at hb
  exact ⟨_,tv_mem h0,rfl,hb⟩
section
variable {is:List PI} {sc:Nat→List (Option Nat)} {i:Nat} {p:PI}
theorem read_live (hp:is[i]? = some p) (ho:∀ g∈inGs p.canc p.inp p.out,g.Ok) {x:Nat × Nat} (hx:x∈rdT p) {b:Nat} (hb:x.2.testBit b=true):LiveInP is sc i x.1 b:=by
 refine .read ⟨(List.getElem?_eq_some_iff.1 hp).1,?_⟩
 show (useP is i x.1).testBit b=true
 unfold useP
 rw [hp]
 exact (tl_bit ho).1 ⟨x,hx,rfl,hb⟩
theorem KLive.toWrites {a:Nat→Nat} {ow bo:KS} (h:KLive (LiveInP is sc i) a ow bo) (hp:is[i]? = some p) (ho:∀ g∈outGs p.out,g.Ok):KLive (fun c b=>LiveOutP is sc i c b∧¬pendK (wrT p) c b) a ow bo:=
 h.mono fun c b hl=>LiveIn.cases_iff.2 (.inr ⟨hl.1,fun hw=>hl.2 ((tl_bit ho).2 (by
  have hw:(defP is i c).testBit b=true:=hw
  unfold defP at hw
  rw [hp] at hw
  exact hw))⟩)
theorem KLive.next {a:Nat→Nat} {ow bo:KS} {s:Nat} (h:KLive (fun c b=>LiveOutP is sc i c b∧¬pendK [] c b) a ow bo) (hi:i < is.length) (hs:some s∈sc i) (hl:s < is.length):KLive (LiveInP is sc s) a ow bo:=
 h.mono fun c b hv=>⟨⟨s,⟨hi,hl,hs⟩,hv⟩,by rintro ⟨y,hy,_⟩;cases hy⟩
def ApartW (is:List PI) (sc:Nat→List (Option Nat)) (a:Nat→Nat):Prop:=∀ (i:Nat) (p:PI),is[i]? = some p→∀ x∈wrT p,∀ c b,LiveOutP is sc i c b→x.2.testBit b=true→c≠x.1→a c≠a x.1
end
theorem apartW_of {ns:List PN} {f:Nat→Option Nat} {l:List (Nat × Nat)} (hr:AFRes ns (some f)) (hok:AFOk ns) (he:ofPairs l=f):∃ sc,GraphP ns sc∧ApartW (insP ns) sc (aid l):=by
 obtain ⟨sc,hG,h⟩:=af_apart hr hok
 refine ⟨sc,hG,fun i p hp x hx c b hl hb hne=>?_⟩
 have ho:∀ g∈outGs p.out,g.Ok:=fun g hg=>gsOf_ok (hok.ops p (List.mem_of_getElem? hp)).out g (outGs_mem hg)
 obtain ⟨g,hg,e1,e2⟩:=ofGs_bit.1 ((tl_bit ho).1 ⟨x,hx,rfl,hb⟩)
 have:=h i p g c b hp hg (by rw [e1];exact hne) hl e2
 unfold aid
 rw [he,← e1]
 exact this
end
end Go.Proofs.YtpbeedabmjmdmaaGreatDoor
