/- Part of the proof of a statement about pub-berthage: what its texts have in common. -/
import Derived.BigQuiet
import Derived.Test.YtjlfkgjmgghhiaaGreatP29
import Derived.Test.YtjlfkgjmgghhiaaGreatP34
import Derived.Test.YtjlfkgjmgghhiaaGreatP35
namespace Go.Proofs.YtjlfkgjmgghhiaaGreat
section
open Go Go.RowKit Bth
set_option maxRecDepth 100000
def GivesB (w:World) (b:Bool) (e:Ending) (w':World):Prop:=e = .returned (.bool b)∧Fr nope w w'
set_option maxHeartbeats 2000000 in
theorem OpOK_calls (w:World) (p:PO):Calls Tryz.prog 99 #[p.agg] w (GivesB w (okP p)):=by
 have hreg:=fun W=>IsRegister_calls W p.reg
 have hbase:=fun W=>IsRegister_calls W p.base
 have hindex:=fun W=>IsRegister_calls W p.index
 have hcon:=fun W=>ConstOK_calls W p.con
 unfold okP okM GivesB
 obtain ⟨kind,rg,hasBase,hasIndex,base,index,scale,disp,sym,static,con,label,rel⟩:=p
 simp only [PO.agg,PO.cells,G.agg,PC.agg] at hreg hbase hindex hcon ⊢
 by_cases h1:kind=1
 ·subst h1
  rw [if_pos rfl]
  generalize okG rg=b at hreg
  go_enter Tryz.func99,Tryz.ntmps99
  go_wp2_with (go_at_call 120;refine (hreg _).mono ?_;rintro e w1 ⟨rfl,hf1⟩)
  go_ret
  exact ⟨rfl,((Fr.refl _ _).alloc _).then hf1⟩
 by_cases h2:kind=2
 ·subst h2
  rw [if_neg (by decide),if_pos rfl]
  generalize okG base=b at hbase
  generalize okG index=c at hindex
  have nil0:∀ o,Fr nope w (w.alloc o):=fun o=>(Fr.refl nope w).alloc o
  cases hasBase with
  | false=>
   cases hasIndex with
   | false=>
    go_enter Tryz.func99,Tryz.ntmps99
    go_wp2
    go_ret
    exact ⟨rfl,nil0 _⟩
   | true=>
    go_enter Tryz.func99,Tryz.ntmps99
    go_wp2_with (go_at_call 120;refine (hindex _).mono ?_;rintro e w1 ⟨rfl,hf1⟩)
    go_ret
    exact ⟨by cases c<;>rfl,(nil0 _).then hf1⟩
  | true=>
   cases b with
   | false=>
    go_enter Tryz.func99,Tryz.ntmps99
    go_wp2_with (go_at_call 120;refine (hbase _).mono ?_;rintro e w1 ⟨rfl,hf1⟩)
    go_ret
    exact ⟨rfl,(nil0 _).then hf1⟩
   | true=>
    cases hasIndex with
    | false=>
     go_enter Tryz.func99,Tryz.ntmps99
     go_wp2_with (go_at_call 120;refine (hbase _).mono ?_;rintro e w1 ⟨rfl,hf1⟩;have hb1:=hf1.heap (heap_alloc_new w _) (fun x=>x);have k6:=(cell_of_row _ _ 6 _ _ (0,0) hb1);have k11:=(cell_of_row _ _ 11 _ _ (0,0) hb1);have k12:=(cell_of_row _ _ 12 _ _ (0,0) hb1);have k13:=(cell_of_row _ _ 13 _ _ (0,0) hb1);have k14:=(cell_of_row _ _ 14 _ _ (0,0) hb1);clear hb1;simp only [List.getElem?_toArray,List.getElem?_cons_succ,List.getElem?_cons_zero] at k6 k11 k12 k13 k14)
     go_ret
     exact ⟨rfl,(nil0 _).then hf1⟩
    | true=>
     go_enter Tryz.func99,Tryz.ntmps99
     go_wp2_with fail
     refine (hbase _).mono ?_
     rintro e w1 ⟨rfl,hf1⟩
     have hb1:=hf1.heap (heap_alloc_new w _) (fun x=>x)
     have k6:=cell_of_row _ _ 6 _ _ (0,0) hb1
     have k11:=cell_of_row _ _ 11 _ _ (0,0) hb1
     have k12:=cell_of_row _ _ 12 _ _ (0,0) hb1
     have k13:=cell_of_row _ _ 13 _ _ (0,0) hb1
     have k14:=cell_of_row _ _ 14 _ _ (0,0) hb1
     simp only [List.getElem?_toArray,List.getElem?_cons_succ,List.getElem?_cons_zero] at k6 k11 k12 k13 k14
     clear hb1
     go_wp2_with fail
     refine (hindex _).mono ?_
     rintro e w2 ⟨rfl,hf2⟩
     go_wp2
     go_ret
     exact ⟨by cases c<;>rfl,((nil0 _).then hf1).then hf2⟩
 by_cases h3:kind=3
 ·subst h3
  rw [if_neg (by decide),if_neg (by decide),if_pos rfl]
  generalize (conK con.kind).isSome=b at hcon
  go_enter Tryz.func99,Tryz.ntmps99
  go_wp2_with (go_at_call 135;refine (hcon _).mono ?_;rintro e w1 ⟨rfl,hf1⟩)
  go_ret
  exact ⟨rfl,((Fr.refl _ _).alloc _).then hf1⟩
 rw [if_neg h1,if_neg h2,if_neg h3]
 by_cases h4:kind=4
 ·subst h4
  rw [if_pos rfl]
  go_enter Tryz.func99,Tryz.ntmps99
  go_wp2
  go_ret
  exact ⟨rfl,(Fr.refl _ _).alloc _⟩
 by_cases h5:kind=5
 ·subst h5
  rw [if_neg (by decide),if_pos rfl]
  go_enter Tryz.func99,Tryz.ntmps99
  go_wp2
  go_ret
  exact ⟨rfl,(Fr.refl _ _).alloc _⟩
 rw [if_neg h4,if_neg h5]
 have e4:(kind == 4)=false:=by simp [h4]
 have e5:(kind == 5)=false:=by simp [h5]
 have e:(kind == 4 || kind == 5)=false:=by rw [e4,e5];rfl
 go_enter Tryz.func99,Tryz.ntmps99
 go_wp2
 go_ret
 show Ending.returned (Value.bool _)=_∧_
 refine ⟨congrArg (fun b=>Ending.returned (Value.bool b)) ?_,(Fr.refl _ _).alloc _⟩
 first | rfl | exact e5 | exact e
theorem irOps_calls (w:World) (s:SV) (ps:List PO) (h:POsAt w s ps) (hl:ps.length≤1048576):Calls Tryz.prog 116 #[s.val] w (GivesB w (ps.all okP)):=by
 obtain ⟨A,n,c⟩:=s
 have hps:=h
 obtain ⟨rfl,_⟩:n=ps.length∧_:=h
 simp only [SV.val]
 go_enter Tryz.func116,Tryz.ntmps116
 go_wp2
 go_loopg [7] ps.length (fun n c7 wr=>∃ k:Nat,k≤ps.length∧c7 = .int .i64 (k:Int)∧Hid ((ps.take k).all okP=true)∧Fr nope w wr∧n=ps.length - k)
 case atStart=>exact ⟨0,Nat.zero_le _,rfl,Lib.hid rfl,Fr.refl _ _,rfl⟩
 case round=>
  obtain ⟨k,hk,rfl,hall,hf,rfl⟩:=hrel
  by_cases hlt:k < ps.length
  ·obtain ⟨b,off,hAe,hbl,hc⟩:=(hps.nope hf).2 (by omega)
   simp only at hAe
   subst hAe
   obtain ⟨p,hok⟩:∃ p,ps[k]? = some p:=⟨_,List.getElem?_eq_getElem hlt⟩
   have hc:=hc k p hok
   have hT:=Lib.hid (take_snoc hok)
   have hpm:=List.mem_of_getElem? hok
   replace hpm:=Lib.hid hpm
   clear hok hps
   go_wp2_with (first
    | (refine wpList_load_mid rfl _ _ rfl b (off+k*24) rfl p.cells.toList _ hc Tryz.underlying121 rfl (by kernel_rfl) ?_)
    | (refine wpList_storeRow (b:=wr.heap.size) (cells:=p.cells) rfl rfl rfl rfl (heap_alloc_new _ _) rfl (by kernel_rfl) (by kernel_rfl) ?_;intro w2 hb2 hf2)
    | (refine wpList_loadRow (b:=wr.heap.size) (cells:=p.cells) rfl rfl rfl hb2 Tryz.underlying121 rfl (by kernel_rfl) ?_))
   have hn2:Fr nope wr w2:=((Fr.refl nope wr).alloc _).then_new hf2 (fun x hx e=>by omega)
   refine (OpOK_calls w2 p).mono ?_
   rintro e w3 ⟨rfl,hf3⟩
   have hf13:=(hf.then hn2).then hf3
   cases hb:okP p with
   | false=>
    go_wp2
    go_ret
    exact ⟨by rw [List.all_eq_false.2 ⟨p,hpm.out,by simp [hb]⟩];rfl,hf13⟩
   | true=>
    have hall':=Lib.hid (show (ps.take (k+1)).all okP=true by rw [hT.out,List.all_append,hall.out];simp [hb])
    go_wp2
    go_roundg (ps.length - (k+1))
    case measure=>omega
    case rel=>exact ⟨k+1,by omega,by go_num,hall',hf13,rfl⟩
  ·rw [take_all hlt] at hall
   go_wp2
   go_ret
   exact ⟨by rw [hall.out];rfl,hf⟩
theorem InstrOK_calls (w:World) (B:Nat) (p:PI) (h:p.At w B):Calls Tryz.prog 72 #[p.agg] w (GivesB w (okI p)):=by
 have hfew:=h.few
 have h1:∀ W,Fr nope w W→Calls Tryz.prog 116 #[p.opsV.val] W (GivesB W (p.ops.all okP)):=fun W hW=>irOps_calls W _ _ (h.ops.nope hW) (by omega)
 have h2:∀ W,Fr nope w W→Calls Tryz.prog 116 #[p.inpV.val] W (GivesB W (p.inp.all okP)):=fun W hW=>irOps_calls W _ _ (h.inp.nope hW) (by omega)
 have h3:∀ W,Fr nope w W→Calls Tryz.prog 116 #[p.outV.val] W (GivesB W (p.out.all okP)):=fun W hW=>irOps_calls W _ _ (h.out.nope hW) (by omega)
 unfold okI GivesB
 unfold GivesB at h1 h2 h3
 generalize p.ops.all okP=b1 at h1 ⊢
 generalize p.inp.all okP=b2 at h2 ⊢
 generalize p.out.all okP=b3 at h3 ⊢
 clear h hfew
 obtain ⟨opc,⟨A1,n1,c1⟩,suf,⟨A2,n2,c2⟩,ops,⟨A3,n3,c3⟩,inp,⟨A4,n4,c4⟩,out,term,br,cond,canc,⟨A5,n5,c5⟩,isa⟩:=p
 simp only [PI.agg,PI.cells,SV.val] at h1 h2 h3 ⊢
 have f0:=fun o=>(Fr.refl nope w).alloc o
 replace h1:=Lib.hid h1
 replace h2:=Lib.hid h2
 replace h3:=Lib.hid h3
 go_enter Tryz.func72,Tryz.ntmps72
 go_wp2_with fail
 refine (h1.out _ (f0 _)).mono ?_
 rintro e w1 ⟨rfl,hf1⟩
 have hb1:=hf1.heap (heap_alloc_new w _) (fun x=>x)
 have hc1:=fun j=>cell_of_row _ _ j _ _ (0,0) hb1
 cases b1 with
 | false=>
  go_wp2
  go_ret
  exact ⟨rfl,(f0 _).then hf1⟩
 | true=>
  go_wp2_with fail
  refine (h2.out _ ((f0 _).then hf1)).mono ?_
  rintro e w2 ⟨rfl,hf2⟩
  have hb2:=hf2.heap hb1 (fun x=>x)
  have hc2:=fun j=>cell_of_row _ _ j _ _ (0,0) hb2
  clear hc1
  cases b2 with
  | false=>
   go_wp2
   go_ret
   exact ⟨rfl,((f0 _).then hf1).then hf2⟩
  | true=>
   go_wp2_with fail
   refine (h3.out _ (((f0 _).then hf1).then hf2)).mono ?_
   rintro e w3 ⟨rfl,hf3⟩
   go_wp2
   go_ret
   exact ⟨by cases b3<;>rfl,(((f0 _).then hf1).then hf2).then hf3⟩
end
section
open Go Go.RowKit Bth
set_option maxRecDepth 100000
def PN.agg (n:PN):Value:=.agg n.cells
set_option maxHeartbeats 1000000 in
theorem NodeOK_calls (w:World) (B:Nat) (p:PN) (h:p.At w B):Calls Tryz.prog 97 #[p.agg] w (GivesB w (okN p)):=by
 have h1:∀ W,Fr nope w W→Calls Tryz.prog 72 #[p.ins.agg] W (GivesB W (okI p.ins)):=fun W hW=>InstrOK_calls W B p.ins (h.ins.fr hW (fun _ _ x=>x))
 clear h
 unfold okN GivesB
 unfold GivesB at h1
 obtain ⟨kind,label,⟨lA,ln,lc⟩,lines,⟨opc,⟨A1,n1,c1⟩,suf,⟨A2,n2,c2⟩,ops,⟨A3,n3,c3⟩,inp,⟨A4,n4,c4⟩,out,term,br,cond,canc,⟨A5,n5,c5⟩,isa⟩⟩:=p
 simp only [PN.agg,PN.cells,PI.agg,PI.cells,SV.val] at h1 ⊢
 generalize okI _=b at h1 ⊢
 have f0:=fun o=>(Fr.refl nope w).alloc o
 by_cases k1:kind=1
 ·subst k1
  rw [if_pos rfl]
  cases b with
  | false=>
   go_enter Tryz.func97,Tryz.ntmps97
   go_wp2_with fail
   refine (h1 _ (f0 _)).mono ?_
   rintro e w1 ⟨rfl,hf1⟩
   have hb1:=hf1.heap (heap_alloc_new w _) (fun x=>x)
   have hc1:=fun j=>cell_of_row _ _ j _ _ (0,0) hb1
   go_wp2
   go_ret
   exact ⟨rfl,(f0 _).then hf1⟩
  | true=>
   go_enter Tryz.func97,Tryz.ntmps97
   go_wp2_with fail
   refine (h1 _ (f0 _)).mono ?_
   rintro e w1 ⟨rfl,hf1⟩
   go_wp2
   go_ret
   exact ⟨rfl,(f0 _).then hf1⟩
 by_cases k2:kind=2
 ·subst k2
  rw [if_neg (by decide),if_pos rfl]
  go_enter Tryz.func97,Tryz.ntmps97
  go_wp2
  go_ret
  exact ⟨rfl,f0 _⟩
 by_cases k3:kind=3
 ·subst k3
  rw [if_neg (by decide),if_neg (by decide),if_pos rfl]
  go_enter Tryz.func97,Tryz.ntmps97
  go_wp2
  go_ret
  exact ⟨rfl,f0 _⟩
 rw [if_neg k1,if_neg k2,if_neg k3]
 have e3:(kind == 3)=false:=by simp [k3]
 have e1:(kind == 2)=false:=by simp [k2]
 have e2:(kind == 2 || kind == 3)=false:=by simp [k2,k3]
 go_enter Tryz.func97,Tryz.ntmps97
 go_wp2
 go_ret
 show Ending.returned (Value.bool _)=_∧_
 refine ⟨congrArg (fun b=>Ending.returned (Value.bool b)) ?_,f0 _⟩
 first | rfl | exact e3 | exact e2 | exact e1
set_option maxHeartbeats 1000000 in
theorem NodesOK_calls (w:World) (B:Nat) (s:SV) (ns:List PN) (hN:NodesAt w B s ns):Calls Tryz.prog 59 #[s.val] w (GivesB w (ns.all okN)):=by
 obtain ⟨A,n,c⟩:=s
 obtain rfl:n=ns.length:=hN.len
 have hfew:=hN.few
 simp only [SV.val]
 go_enter Tryz.func59,Tryz.ntmps59
 go_wp2
 go_loopg [7] ns.length (fun n c7 wr=>∃ k:Nat,k≤ns.length∧c7 = .int .i64 (k:Int)∧Hid ((ns.take k).all okN=true)∧Fr nope w wr∧n=ns.length - k)
 case atStart=>exact ⟨0,Nat.zero_le _,rfl,Lib.hid rfl,Fr.refl _ _,rfl⟩
 case round=>
  obtain ⟨k,hk,rfl,hall,hf,rfl⟩:=hrel
  by_cases hlt:k < ns.length
  ·obtain ⟨b,off,hAe,hbB,hbl,hc⟩:=(hN.fr hf (fun _ _ x=>x)).row (by omega)
   simp only at hAe
   subst hAe
   obtain ⟨p,hpk⟩:∃ p,ns[k]? = some p:=⟨_,List.getElem?_eq_getElem hlt⟩
   have hc:=hc k p hpk
   have hpm:=List.mem_of_getElem? hpk
   have hT:=Lib.hid (take_snoc hpk)
   have hat:=hN.each p hpm
   replace hpm:=Lib.hid hpm
   clear hpk hN
   go_wp2_with (first
    | (refine wpList_load_mid rfl _ _ rfl b (off+k*13) rfl p.cells.toList _ hc Tryz.underlying57 rfl (by kernel_rfl) ?_)
    | (refine wpList_storeRow (b:=wr.heap.size) (cells:=p.cells) rfl rfl rfl rfl (heap_alloc_new _ _) rfl (by kernel_rfl) (by kernel_rfl) ?_;intro w2 hb2 hf2)
    | (refine wpList_loadRow (b:=wr.heap.size) (cells:=p.cells) rfl rfl rfl hb2 Tryz.underlying57 rfl (by kernel_rfl) ?_))
   have hn2:Fr nope wr w2:=((Fr.refl nope wr).alloc _).then_new hf2 (fun x hx e=>by omega)
   refine (NodeOK_calls w2 B p (hat.fr (hf.then hn2) (fun _ _ x=>x))).mono ?_
   rintro e w3 ⟨rfl,hf3⟩
   have hf13:=(hf.then hn2).then hf3
   cases hb:okN p with
   | false=>
    go_wp2
    go_ret
    exact ⟨by rw [List.all_eq_false.2 ⟨p,hpm.out,by simp [hb]⟩];rfl,hf13⟩
   | true=>
    have hall':=Lib.hid (show (ns.take (k+1)).all okN=true by rw [hT.out,List.all_append,hall.out];simp [hb])
    go_wp2
    go_roundg (ns.length - (k+1))
    case measure=>omega
    case rel=>exact ⟨k+1,by omega,by go_num,hall',hf13,rfl⟩
  ·rw [take_all hlt] at hall
   go_wp2
   go_ret
   exact ⟨by rw [hall.out];rfl,hf⟩
theorem tagsListed_calls (w:World) (A:Option Addr) (l:List ByteArray) (c:Nat) (x:ByteArray) (h:Sl w A l.length (l.map Value.string)) (hl:l.length≤1073741824):Calls Tryz.prog 98 #[.slice A l.length c,.string x] w fun e w'=>∃ b,e = .returned (.bool b)∧w'=w:=by
 go_enter Tryz.func98,Tryz.ntmps98
 go_wp2
 go_loopg [6,9] l.length (fun n c6 c9 wr=>∃ k:Nat,k≤l.length∧c9 = .int .i64 (k:Int)∧wr=w∧n=l.length - k)
 case atStart=>exact ⟨0,Nat.zero_le _,rfl,rfl,rfl⟩
 case round=>
  obtain ⟨k,hk,rfl,rfl,rfl⟩:=hrel
  by_cases hlt:k < l.length
  ·obtain ⟨b,off,u,hAe,hbl,hu,hc⟩:=h.at_ hlt
   rw [List.getElem?_map] at hu
   obtain ⟨y,_,rfl⟩:=Option.map_eq_some_iff.1 hu
   subst hAe
   clear hu h
   cases hb:(y.toList == x.toList) with
   | true=>
    go_wp2
    go_ret
    exact ⟨true,rfl,rfl⟩
   | false=>
    go_wp2
    go_roundg (l.length - (k+1))
    case measure=>omega
    case rel=>exact ⟨k+1,by omega,by go_num,rfl,rfl⟩
  ·go_wp2
   go_ret
   exact ⟨false,rfl,rfl⟩
end
section
open Go Go.RowKit Bth
set_option maxRecDepth 100000
set_option maxHeartbeats 1000000 in
theorem LabelsKnown_calls (w:World) (B:Nat) (s:SV) (ns:List PN) (hN:NodesAt w B s ns):Calls Tryz.prog 60 #[s.val] w fun e w'=>∃ b,e = .returned (.bool b)∧Fr nope w w':=by
 obtain ⟨A,n,c⟩:=s
 obtain rfl:n=ns.length:=hN.len
 have hfew:=hN.few
 simp only [SV.val]
 go_enter Tryz.func60,Tryz.ntmps60
 go_wp2
 go_loopg [3,8] ns.length (fun n c3 c8 wr=>∃ (k:Nat) (A2:Option Addr) (c2:Nat) (l:List ByteArray),k≤ns.length∧l.length≤k∧c8 = .int .i64 (k:Int)∧c3 = .slice A2 l.length c2∧wr.ownsRow w.heap.size 9 1 (.slice A2 l.length c2) l.length (l.map Value.string)∧Fr nope w wr∧n=ns.length - k)
 case atStart=>exact ⟨0,none,0,[],Nat.zero_le _,Nat.le_refl _,rfl,rfl,own_nil _ _ _ _,Fr.refl _ _,rfl⟩
 case round=>
  obtain ⟨k,A2,c2,l,hk,hlk,rfl,rfl,hown,hf,rfl⟩:=hrel
  have hsz:=hf.size
  by_cases hlt:k < ns.length
  ·obtain ⟨b,off,hAe,hbB,hbl,hc⟩:=(hN.fr hf (fun _ _ x=>x)).row (by omega)
   simp only at hAe
   subst hAe
   obtain ⟨p,hpk⟩:∃ p,ns[k]? = some p:=⟨_,List.getElem?_eq_getElem hlt⟩
   have hc:=hc k p hpk
   clear hpk hN
   have hbo:=own_base hown
   obtain ⟨kind,label,⟨lA,ln,lc⟩,lines,ins⟩:=p
   by_cases k1:kind=1
   ·subst k1
    go_wp2_with (first
     | (refine wpList_load_mid rfl _ _ rfl b (off+k*13) rfl (PN.cells ⟨1,label,⟨lA,ln,lc⟩,lines,ins⟩).toList _ hc Tryz.underlying57 rfl (by kernel_rfl) ?_)
     | (refine wpList_storeRow (b:=wr.heap.size) (cells:=PN.cells ⟨1,label,⟨lA,ln,lc⟩,lines,ins⟩) rfl rfl rfl rfl (heap_alloc_new _ _) rfl (by kernel_rfl) (by kernel_rfl) ?_;intro w2 hb2 hf2;have hcb:=cell_of_row _ _ 0 _ _ (0,0) hb2;simp only [PN.cells,List.getElem?_toArray,List.getElem?_cons_zero] at hcb))
    have hn2:Fr nope wr w2:=((Fr.refl nope wr).alloc _).then_new hf2 (fun x hx e=>by omega)
    go_roundg (ns.length - (k+1))
    case measure=>omega
    case rel=>exact ⟨k+1,none,0,[],by omega,Nat.zero_le _,by go_num,rfl,own_nil _ _ _ _,hf.then hn2,rfl⟩
   by_cases k2:kind=2
   ·subst k2
    go_wp2_with (first
     | (refine wpList_load_mid rfl _ _ rfl b (off+k*13) rfl (PN.cells ⟨2,label,⟨lA,ln,lc⟩,lines,ins⟩).toList _ hc Tryz.underlying57 rfl (by kernel_rfl) ?_)
     | (refine wpList_storeRow (b:=wr.heap.size) (cells:=PN.cells ⟨2,label,⟨lA,ln,lc⟩,lines,ins⟩) rfl rfl rfl rfl (heap_alloc_new _ _) rfl (by kernel_rfl) (by kernel_rfl) ?_;intro w2 hb2 hf2;have hcb:=cell_of_row _ _ 0 _ _ (0,0) hb2;have hcb1:=cell_of_row _ _ 1 _ _ (0,0) hb2;simp only [PN.cells,List.getElem?_toArray,List.getElem?_cons_zero,List.getElem?_cons_succ] at hcb hcb1)
     | fail)
    have hn2:Fr nope wr w2:=((Fr.refl nope wr).alloc _).then_new hf2 (fun x hx e=>by omega)
    have hown2:=own_fr hown hn2 (fun _ _ x=>x)
    have hsz2:=hn2.size
    refine (tagsListed_calls w2 A2 l c2 label (own_Sl hown2) (by omega)).mono ?_
    rintro e w3 ⟨bb,rfl,rfl⟩
    cases bb with
    | true=>
     go_wp2
     go_ret
     exact ⟨false,rfl,hf.then hn2⟩
    | false=>
     go_wp2_with (refine wpList_app (v:=.slice A2 l.length c2) rfl rfl Tryz.underlying52 infoStr rfl (by omega) rfl (own_fr hown2 ((Fr.refl nope _).alloc _) (fun _ _ x=>x)) rfl (news:=[.string label]) rfl (one_new _ _ _ _ rfl) (by simp [Value.oneCell']) (by simp only [maxLen];omega) (by omega) (by simp;omega) ?hk)
     case hk=>
      intro v4 w4 hown4 hf4 hb4
      obtain ⟨A4,c4,rfl,_,_⟩:=own_slice hown4
      clear hb4
      go_wp2
      go_roundg (ns.length - (k+1))
      case measure=>omega
      case rel=>exact ⟨k+1,A4,c4,l ++ [label],by omega,by simp;omega,by go_num,by simp,by simpa using hown4,((hf.then hn2).alloc _).then_new hf4 (fun x hx e=>by have:=hbo x e;omega),rfl⟩
   ·go_wp2_with (first
     | (refine wpList_load_mid rfl _ _ rfl b (off+k*13) rfl (PN.cells ⟨kind,label,⟨lA,ln,lc⟩,lines,ins⟩).toList _ hc Tryz.underlying57 rfl (by kernel_rfl) ?_)
     | (refine wpList_storeRow (b:=wr.heap.size) (cells:=PN.cells ⟨kind,label,⟨lA,ln,lc⟩,lines,ins⟩) rfl rfl rfl rfl (heap_alloc_new _ _) rfl (by kernel_rfl) (by kernel_rfl) ?_;intro w2 hb2 hf2;have hcb:=cell_of_row _ _ 0 _ _ (0,0) hb2;simp only [PN.cells,List.getElem?_toArray,List.getElem?_cons_zero] at hcb))
    have hn2:Fr nope wr w2:=((Fr.refl nope wr).alloc _).then_new hf2 (fun x hx e=>by omega)
    go_roundg (ns.length - (k+1))
    case measure=>omega
    case rel=>exact ⟨k+1,A2,c2,l,by omega,by omega,by go_num,rfl,own_fr hown hn2 (fun _ _ x=>x),hf.then hn2,rfl⟩
  ·go_wp2
   go_ret
   exact ⟨true,rfl,hf⟩
def PI.list (p:PI):List Value:=p.cells.toList
theorem PI.list_len (p:PI):p.list.length=10:=rfl
def InstrsAt (w:World) (A:Option Addr) (is:List PI):Prop:=Rw w 55 10 A is.length (is.flatMap PI.list)
theorem infoPI:(Tryz.prog.info? 55).map (fun i=>(i.zero,i.size,i.bytes))=some (some (.agg #[.string ⟨#[]⟩,.slice none 0 0,.slice none 0 0,.slice none 0 0,.slice none 0 0,.bool false,.bool false,.bool false,.bool false,.slice none 0 0]),10,144):=by kernel_rfl
theorem insP_take {ns:List PN} {k:Nat} {p:PN} (h:ns[k]? = some p):insP (ns.take (k+1))=insP (ns.take k) ++ (if p.kind=1 then [p.ins] else []):=by
 unfold insP
 rw [take_snoc h,List.filter_append,List.map_append]
 by_cases e:p.kind=1<;>simp [e]
def GivesInstrs (w:World) (ns:List PN) (e:Ending) (w':World):Prop:=Fr nope w w'∧∃ A c,e = .returned (.slice A (insP ns).length c)∧InstrsAt w' A (insP ns)
set_option maxHeartbeats 1000000 in
theorem Instrs_calls (w:World) (B:Nat) (s:SV) (ns:List PN) (hN:NodesAt w B s ns):Calls Tryz.prog 14 #[s.val] w (GivesInstrs w ns):=by
 obtain ⟨A,n,c⟩:=s
 obtain rfl:n=ns.length:=hN.len
 have hfew:=hN.few
 simp only [SV.val]
 go_enter Tryz.func14,Tryz.ntmps14
 go_wp2
 go_loopg [3,8] ns.length (fun n c3 c8 wr=>∃ (k:Nat) (A2:Option Addr) (c2:Nat) (is:List PI),k≤ns.length∧Hid (is=insP (ns.take k))∧is.length≤k∧c8 = .int .i64 (k:Int)∧c3 = .slice A2 is.length c2∧wr.ownsRow w.heap.size 55 10 (.slice A2 is.length c2) is.length (is.flatMap PI.list)∧Fr nope w wr∧n=ns.length - k)
 case atStart=>exact ⟨0,none,0,[],Nat.zero_le _,Lib.hid rfl,Nat.le_refl _,rfl,rfl,own_nil _ _ _ _,Fr.refl _ _,rfl⟩
 case round=>
  obtain ⟨k,A2,c2,is,hk,his,hlk,rfl,rfl,hown,hf,rfl⟩:=hrel
  have hsz:=hf.size
  by_cases hlt:k < ns.length
  ·obtain ⟨b,off,hAe,hbB,hbl,hc⟩:=(hN.fr hf (fun _ _ x=>x)).row (by omega)
   simp only at hAe
   subst hAe
   obtain ⟨p,hpk⟩:∃ p,ns[k]? = some p:=⟨_,List.getElem?_eq_getElem hlt⟩
   have hc:=hc k p hpk
   have hT:=Lib.hid (insP_take hpk)
   clear hpk hN
   have hbo:=own_base hown
   obtain ⟨kind,label,⟨lA,ln,lc⟩,lines,ins⟩:=p
   by_cases k1:kind=1
   ·subst k1
    go_wp2_with (first
     | (refine wpList_load_mid rfl _ _ rfl b (off+k*13) rfl (PN.cells ⟨1,label,⟨lA,ln,lc⟩,lines,ins⟩).toList _ hc Tryz.underlying57 rfl (by kernel_rfl) ?_)
     | (refine wpList_storeRow (b:=wr.heap.size) (cells:=PN.cells ⟨1,label,⟨lA,ln,lc⟩,lines,ins⟩) rfl rfl rfl rfl (heap_alloc_new _ _) rfl (by kernel_rfl) (by kernel_rfl) ?_;intro w2 hb2 hf2;have hcb:=cell_of_row _ _ 0 _ _ (0,0) hb2;have hr2:=PN.range hb2;have hn2:Fr nope wr w2:=((Fr.refl nope wr).alloc _).then_new hf2 (fun x hx e=>by omega);simp only [PN.cells,List.getElem?_toArray,List.getElem?_cons_zero] at hcb)
     | (refine wpList_load_mid rfl _ _ rfl wr.heap.size 3 rfl ins.cells.toList _ hr2 Tryz.underlying55 rfl (by kernel_rfl) ?_)
     | (refine wpList_build1 (l:=ins.list) rfl rfl rfl Tryz.underlying41 infoPI rfl (by omega) (by decide) ?_)
     | refine wpList_app (v:=.slice A2 is.length c2) rfl rfl Tryz.underlying41 infoPI rfl (by omega) rfl (own_fr (own_fr hown hn2 (fun _ _ x=>x)) ((Fr.refl nope _).alloc _) (fun _ _ x=>x)) rfl (news:=ins.list) ?ha ?hb ?hc ?hd ?he ?hf ?hk)
    case ha=>rfl
    case hc=>simp [PI.list,PI.cells,Value.oneCell',SV.val]
    case hd=>simp only [maxLen];omega
    case he=>omega
    case hf=>have:=hn2.size;simp;omega
    case hk=>
     intro v4 w4 hown4 hf4 hb4
     obtain ⟨A4,c4,rfl,_,_⟩:=own_slice hown4
     clear hb4
     have hsz2:=hn2.size
     go_wp2
     go_roundg (ns.length - (k+1))
     case measure=>omega
     case rel=>exact ⟨k+1,A4,c4,is ++ [ins],by omega,Lib.hid (by rw [hT.out,← his.out];rfl),by simp;omega,by go_num,by simp,by rw [List.flatMap_append,List.length_append];simpa [List.flatMap_cons] using hown4,((hf.then hn2).alloc _).then_new hf4 (fun x hx e=>by have:=hbo x e;omega),rfl⟩
   ·go_wp2_with (first
     | (refine wpList_load_mid rfl _ _ rfl b (off+k*13) rfl (PN.cells ⟨kind,label,⟨lA,ln,lc⟩,lines,ins⟩).toList _ hc Tryz.underlying57 rfl (by kernel_rfl) ?_)
     | (refine wpList_storeRow (b:=wr.heap.size) (cells:=PN.cells ⟨kind,label,⟨lA,ln,lc⟩,lines,ins⟩) rfl rfl rfl rfl (heap_alloc_new _ _) rfl (by kernel_rfl) (by kernel_rfl) ?_;intro w2 hb2 hf2;have hcb:=cell_of_row _ _ 0 _ _ (0,0) hb2;simp only [PN.cells,List.getElem?_toArray,List.getElem?_cons_zero] at hcb))
    have hn2:Fr nope wr w2:=((Fr.refl nope wr).alloc _).then_new hf2 (fun x hx e=>by omega)
    go_roundg (ns.length - (k+1))
    case measure=>omega
    case rel=>exact ⟨k+1,A2,c2,is,by omega,Lib.hid (by rw [hT.out,← his.out];simp [k1]),by omega,by go_num,rfl,own_fr hown hn2 (fun _ _ x=>x),hf.then hn2,rfl⟩
  ·rw [take_all hlt] at his
   obtain rfl:=his.out
   go_wp2
   go_ret
   exact ⟨hf,A2,c2,rfl,Rw.of_own hown⟩
end
section
open Go Go.RowKit Bth
set_option maxRecDepth 100000
theorem RegID_calls (w:World) (g:G) (ok:g.Ok):Calls Tryz.prog 67 #[g.agg] w fun e w'=>e = .returned (.int .u32 (g.id:Int))∧Fr nope w w':=by
 have hk:=ok.kind
 have hi:=ok.idx
 unfold G.id
 obtain ⟨virt,kind,idx,spec⟩:=g
 simp only [G.agg] at hk hi ⊢
 obtain ⟨n,hn⟩:∃ n,n=(if virt then 1 else 0)+kind*256+idx*65536:=⟨_,rfl⟩
 rw [← hn]
 have e1:=u32_or (kind*256) (idx*65536) (by omega) (by omega)
 have h1:kind*256 ||| idx*65536 < 2 ^ 32:=Nat.or_lt_two_pow (by omega) (by omega)
 have e2:=u32_or (kind*256 ||| idx*65536) 1 (by omega) (by omega)
 have e0:=or_parts 0 kind idx (by omega) hk
 have e3:=or_parts 1 kind idx (by omega) hk
 rw [Nat.zero_or,Nat.zero_add] at e0
 have e4:kind*256 ||| idx*65536 ||| 1=1+kind*256+idx*65536:=by rw [← e3,Nat.or_assoc 1,Nat.or_comm]
 have E0:bits .or .u32 ((kind:Int)*256) ((idx:Int)*65536)=((0+kind*256+idx*65536:Nat):Int):=by
  rw [Nat.zero_add,← e0,← e1];simp
 have E1:bits .or .u32 (bits .or .u32 ((kind:Int)*256) ((idx:Int)*65536)) 1=((1+kind*256+idx*65536:Nat):Int):=by
  rw [← e4,← e2,← e1];simp
 replace E0:=Lib.hid E0
 replace E1:=Lib.hid E1
 clear e1 e2 e0 e3 e4 h1
 cases virt with
 | false=>
  have E0:=Lib.hid (E0.out.trans (congrArg Nat.cast hn.symm))
  clear hn
  go_enter Tryz.func67,Tryz.ntmps67
  go_wp2
  go_ret
  exact ⟨congrArg (fun x=>Ending.returned (.int .u32 x)) E0.out,(Fr.refl _ _).alloc _⟩
 | true=>
  have E1:=Lib.hid (E1.out.trans (congrArg Nat.cast hn.symm))
  clear hn
  go_enter Tryz.func67,Tryz.ntmps67
  go_wp2
  go_ret
  exact ⟨congrArg (fun x=>Ending.returned (.int .u32 x)) E1.out,(Fr.refl _ _).alloc _⟩
theorem whole_calls (w:World) (g:G):Calls Tryz.prog 63 #[g.agg] w (GivesB w (wholeG g)):=by
 have eB:∀ a b:Nat,((a:Int) == (b:Int))=decide (a=b):=fun a b=>by
  by_cases h:a=b
  ·subst h;simp
  ·have:(a:Int)≠(b:Int):=by omega
   simp [h,this]
 obtain ⟨virt,kind,idx,spec⟩:=g
 simp only [G.agg]
 by_cases k1:kind=1
 ·subst k1
  by_cases q1:spec=1
  ·subst q1
   go_enter Tryz.func63,Tryz.ntmps63
   go_wp2
   go_ret
   show Ending.returned (Value.bool _)=_∧_
   refine ⟨congrArg (fun b=>Ending.returned (Value.bool b)) ?_,(Fr.refl _ _).alloc _⟩
   first | rfl | simp [wholeG]
  have q1':(spec:Int)≠1:=by omega
  by_cases q3:spec=3
  ·subst q3
   go_enter Tryz.func63,Tryz.ntmps63
   go_wp2
   go_ret
   show Ending.returned (Value.bool _)=_∧_
   refine ⟨congrArg (fun b=>Ending.returned (Value.bool b)) ?_,(Fr.refl _ _).alloc _⟩
   first | rfl | simp [wholeG]
  have q3':(spec:Int)≠3:=by omega
  by_cases q7:spec=7
  ·subst q7
   go_enter Tryz.func63,Tryz.ntmps63
   go_wp2
   go_ret
   show Ending.returned (Value.bool _)=_∧_
   refine ⟨congrArg (fun b=>Ending.returned (Value.bool b)) ?_,(Fr.refl _ _).alloc _⟩
   first | rfl | simp [wholeG]
  have q7':(spec:Int)≠7:=by omega
  have e1:((spec:Int) == 1)=decide (spec=1):=eB spec 1
  have e3:((spec:Int) == 3)=decide (spec=3):=eB spec 3
  have e7:((spec:Int) == 7)=decide (spec=7):=eB spec 7
  have e15:((spec:Int) == 15)=decide (spec=15):=eB spec 15
  go_enter Tryz.func63,Tryz.ntmps63
  go_wp2
  go_ret
  show Ending.returned (Value.bool _)=_∧_
  refine ⟨congrArg (fun b=>Ending.returned (Value.bool b)) ?_,(Fr.refl _ _).alloc _⟩
  simp [wholeG,q1,q3,q7]
 have k1':(kind:Int)≠1:=by omega
 by_cases k2:kind=2
 ·subst k2
  by_cases q31:spec=31
  ·subst q31
   go_enter Tryz.func63,Tryz.ntmps63
   go_wp2
   go_ret
   show Ending.returned (Value.bool _)=_∧_
   refine ⟨congrArg (fun b=>Ending.returned (Value.bool b)) ?_,(Fr.refl _ _).alloc _⟩
   first | rfl | simp [wholeG]
  have q31':(spec:Int)≠31:=by omega
  by_cases q63:spec=63
  ·subst q63
   go_enter Tryz.func63,Tryz.ntmps63
   go_wp2
   go_ret
   show Ending.returned (Value.bool _)=_∧_
   refine ⟨congrArg (fun b=>Ending.returned (Value.bool b)) ?_,(Fr.refl _ _).alloc _⟩
   first | rfl | simp [wholeG]
  have q63':(spec:Int)≠63:=by omega
  have e31:((spec:Int) == 31)=decide (spec=31):=eB spec 31
  have e63:((spec:Int) == 63)=decide (spec=63):=eB spec 63
  have e127:((spec:Int) == 127)=decide (spec=127):=eB spec 127
  go_enter Tryz.func63,Tryz.ntmps63
  go_wp2
  go_ret
  show Ending.returned (Value.bool _)=_∧_
  refine ⟨congrArg (fun b=>Ending.returned (Value.bool b)) ?_,(Fr.refl _ _).alloc _⟩
  simp [wholeG,q31,q63]
 have k2':(kind:Int)≠2:=by omega
 by_cases k3:kind=3
 ·subst k3
  have e15:((spec:Int) == 15)=decide (spec=15):=eB spec 15
  go_enter Tryz.func63,Tryz.ntmps63
  go_wp2
  go_ret
  show Ending.returned (Value.bool _)=_∧_
  refine ⟨congrArg (fun b=>Ending.returned (Value.bool b)) ?_,(Fr.refl _ _).alloc _⟩
  simp [wholeG]
 have k3':(kind:Int)≠3:=by omega
 go_enter Tryz.func63,Tryz.ntmps63
 go_wp2
 go_ret
 show Ending.returned (Value.bool _)=_∧_
 refine ⟨congrArg (fun b=>Ending.returned (Value.bool b)) ?_,(Fr.refl _ _).alloc _⟩
 simp [wholeG,k1,k2,k3]
def GivesGs (w:World) (gs:List G) (e:Ending) (w':World):Prop:=Fr nope w w'∧∃ A c,e = .returned (.slice A gs.length c)∧w'.ownsRow w.heap.size 117 4 (.slice A gs.length c) gs.length (gsCells gs)
theorem infoRg:(Tryz.prog.info? 117).map (fun i=>(i.zero,i.size,i.bytes))=some (some (.agg #[.bool false,.int .u8 0,.int .u16 0,.int .u16 0]),4,6):=by kernel_rfl
end
end Go.Proofs.YtjlfkgjmgghhiaaGreat
