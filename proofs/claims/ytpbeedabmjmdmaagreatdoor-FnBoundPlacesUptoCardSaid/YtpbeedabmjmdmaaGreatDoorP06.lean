/- Part of the proof of a statement about pub-berthage: what its texts have in common. -/
import Derived.BigQuiet
import Derived.Test.YtpbeedabmjmdmaaGreatDoorP05
namespace Go.Proofs.YtpbeedabmjmdmaaGreatDoor
section
open Go Go.RowKit Bth
set_option maxRecDepth 100000
theorem R.eql (w:World) (r r':R) (h:r.At w) (h':r'.At w):(binOp .eql 145 r.val r'.val).run Tryz.prog w = .ok (.bool (r.same r')) w:=by
 obtain ⟨T,v,hv⟩:=r.val_iface
 obtain ⟨T',v',hv'⟩:=r'.val_iface
 have he:=R.eqIn w r r' h h'
 rw [hv,hv'] at he ⊢
 simp only [binOp]
 simp [Op.equal,Op.maxDepth,he]
def inRegs (canc:Bool) (ins outs:List O):List R:=
 (match canc,regsOf ins with
  | true,r :: r' :: l=>if r.same r' then [] else r :: r' :: l
  | _,l=>l) ++ regsOf (outs.filter O.isMem)
theorem inRegs_false (ins outs:List O):inRegs false ins outs=regsOf ins ++ regsOf (outs.filter O.isMem):=by
 unfold inRegs
 split<;>simp_all
theorem inRegs_true_no {ins:List O} {r r':R} (h0:(regsOf ins)[0]? = some r) (h1:(regsOf ins)[1]? = some r') (h:r.same r'=false) (outs:List O):inRegs true ins outs=regsOf ins ++ regsOf (outs.filter O.isMem):=by
 match hl:regsOf ins with
 | []=>rw [hl] at h0;cases h0
 | [a]=>rw [hl] at h1;cases h1
 | a :: b :: l=>
  rw [hl] at h0 h1
  injection h0 with h0
  injection h1 with h1
  subst h0 h1
  simp [inRegs,hl,h]
theorem inRegs_true_yes {ins:List O} {r r':R} (h0:(regsOf ins)[0]? = some r) (h1:(regsOf ins)[1]? = some r') (h:r.same r'=true) (outs:List O):inRegs true ins outs=[] ++ regsOf (outs.filter O.isMem):=by
 match hl:regsOf ins with
 | []=>rw [hl] at h0;cases h0
 | [a]=>rw [hl] at h1;cases h1
 | a :: b :: l=>
  rw [hl] at h0 h1
  injection h0 with h0
  injection h1 with h1
  subst h0 h1
  simp [inRegs,hl,h]
theorem filter_take_no {ys:List O} {j:Nat} {o:O} {p:O→Bool} (h:ys[j]? = some o) (hp:p o=false):(ys.take (j+1)).filter p=(ys.take j).filter p:=by
 rw [List.take_add_one,h];simp [hp]
theorem filter_take_yes {ys:List O} {j:Nat} {o:O} {p:O→Bool} (h:ys[j]? = some o) (hp:p o=true):(ys.take (j+1)).filter p=(ys.take j).filter p ++ [o]:=by
 rw [List.take_add_one,h];simp [hp]
theorem regsOf_filter {ys:List O} {j:Nat} {o:O} {p:O→Bool} (h:ys[j]? = some o) (hp:p o=true):regsOf ((ys.take (j+1)).filter p)=regsOf ((ys.take j).filter p) ++ o.regs:=by
 rw [filter_take_yes h hp];simp [regsOf]
theorem regsOf_filter_at {w:World} {s:SV} {xs:List O} {p:O→Bool} (h:OpsAt w s xs):∀ r∈regsOf (xs.filter p),r.Ok∧r.At w:=by
 intro r hr
 obtain ⟨o,ho,hr⟩:=List.mem_flatMap.1 hr
 exact h.2.2 o (List.mem_filter.1 ho).1 r hr
theorem own_two {w:World} {base n:Nat} {e:TypeId} {A:Option Addr} {c:Nat} {xs:List Value} (h:w.ownsRow base e 1 (.slice A n c) n xs) (hn:2≤n):∃ g x y,A=some ⟨g,0,none⟩∧g < w.heap.size∧xs[0]? = some x∧xs[1]? = some y∧w.cell? ⟨g,0,none⟩=some x∧w.cell? ⟨g,1,none⟩=some y:=by
 obtain ⟨g,rfl,hg,hc⟩:=own_cells h (by omega)
 have hl:=h.1
 have h0:xs[0]? = some (xs[0]'(by omega)):=List.getElem?_eq_getElem (by omega)
 have h1:xs[1]? = some (xs[1]'(by omega)):=List.getElem?_eq_getElem (by omega)
 exact ⟨g,_,_,rfl,hg,h0,h1,hc 0 _ h0,hc 1 _ h1⟩
set_option maxHeartbeats 2000000 in
theorem InputRegisters_calls (w:World) (i:Ins) (xs ys:List O) (hx:OpsAt w i.inp xs) (hy:OpsAt w i.out ys) (hl:xs.length≤1073741824) (hl':ys.length≤1073741824) (hcanc:i.canc=true→2≤(regsOf xs).length):
  Calls Tryz.prog 75 #[i.agg] w (GivesRegs w (inRegs i.canc xs ys)):=by
 obtain ⟨opc,suf,ops,⟨A,n,c⟩,⟨A',n',c'⟩,term,br,cond,canc,isa,pred,succ,lin,lout⟩:=i
 obtain ⟨rfl,hx1,hx2⟩:n=xs.length∧_:=hx
 obtain ⟨rfl,hy1,hy2⟩:n'=ys.length∧_:=hy
 have hx:OpsAt w ⟨A,xs.length,c⟩ xs:=⟨rfl,hx1,hx2⟩
 have hy:OpsAt w ⟨A',ys.length,c'⟩ ys:=⟨rfl,hy1,hy2⟩
 clear hx1 hx2 hy1 hy2
 simp only [Ins.agg,Ins.cells] at hcanc ⊢
 go_enter Tryz.func75,Tryz.ntmps75
 go_wp2
 have hbox:∃ cs,(w.alloc (.cells cs 130)).heap[w.heap.size]? = some (.cells #[.string opc,.slice suf.A suf.n suf.c,.slice ops.A ops.n ops.c,.slice A xs.length c,.slice A' ys.length c',.bool term,.bool br,.bool cond,.bool canc,.slice isa.A isa.n isa.c,.slice pred.A pred.n pred.c,.slice succ.A succ.n succ.c,.map lin,.map lout] 130):=⟨_,heap_alloc_new w _⟩
 go_loopg [3,11] xs.length (fun n c3 c11 wr=>∃ k:Nat,k≤xs.length∧c11 = .int .i64 (k:Int)∧wr.ownsRow (w.heap.size+1) 145 1 c3 (regsOf (xs.take k)).length ((regsOf (xs.take k)).map R.val)∧Fr nope w wr ∧
   wr.heap[w.heap.size]? = some (.cells #[.string opc,.slice suf.A suf.n suf.c,.slice ops.A ops.n ops.c,.slice A xs.length c,.slice A' ys.length c',.bool term,.bool br,.bool cond,.bool canc,.slice isa.A isa.n isa.c,.slice pred.A pred.n pred.c,.slice succ.A succ.n succ.c,.map lin,.map lout] 130)∧n=xs.length - k)
 case atStart=>exact ⟨0,Nat.zero_le _,rfl,by simpa [regsOf] using own_nil _ _ _ _,(Fr.refl _ _).alloc _,heap_alloc_new w _,rfl⟩
 case round=>
  obtain ⟨k,hk,rfl,hown,hf,hbx,rfl⟩:=hrel
  by_cases hlt:k < xs.length
  ·obtain ⟨b,off,o,hA,hbl,hok,hc,hat⟩:=(hx.nope hf).at_ hlt
   simp only at hA
   subst hA
   have hT:=Lib.hid (regsOf_take hok)
   have hB1:=regsOf_le (xs.take k)
   have hB2:=o.regs_le
   have hB3:(xs.take k).length≤k:=by rw [List.length_take];omega
   have hbl2:=lt_of_heap hbx
   clear hok hx hy hcanc
   go_wp2_with (first
    | (go_at_call 99;refine (OpRegs_calls _ o hat).mono ?_;rintro e w2 ⟨A2,c2,rfl,⟨hS2,_⟩,hf2⟩)
    | (have hown2:=own_fr hown hf2 (fun _ _ x=>x);refine wpList_app (v:=u3) rfl rfl Tryz.underlying142 infoReg rfl (by omega) rfl hown2 rfl (news:=o.regs.map R.val) (by simp) (Sl.src hS2) (regs_one _) (by simp only [maxLen];omega) (by omega) (by have:=hf.size;have:=hf2.size;omega) ?_;intro v3 w3 hown3 hf3 _))
   go_roundg (xs.length - (k+1))
   case measure=>omega
   case rel=>exact ⟨k+1,by omega,by go_num,by rw [hT.out];simpa using hown3,(hf.then hf2).then_new hf3 (fun x hx he=>by have:=own_base hown x he;omega),hf3.heap (hf2.heap hbx (fun x=>x)) (fun he=>by have:=own_base hown _ he;omega),rfl⟩
  ·have e:xs.take k=xs:=List.take_of_length_le (by omega)
   rw [e] at hown
   obtain ⟨A1,c1,rfl,_,_⟩:=own_slice hown
   have hrs:=regsOf_at (hx.nope hf)
   have hbl2:=lt_of_heap hbx
   cases canc with
   | false=>
    have hc8:wr.cell? ⟨w.heap.size,8,none⟩=some (.bool false):=by rw [cell_of_row wr w.heap.size 8 _ _ (0,0) hbx];rfl
    have hc4:wr.cell? ⟨w.heap.size,4,none⟩=some (.slice A' ys.length c'):=by rw [cell_of_row wr w.heap.size 4 _ _ (0,0) hbx];rfl
    have hc4':∀ m o,((wr.drewN m).alloc o).cell? ⟨w.heap.size,4,none⟩=some (.slice A' ys.length c'):=fun m o=>((Fr.refl nope (wr.drewN m)).alloc o).cell hc4 (fun x=>x)
    go_wp2
    go_quiet (fail)
    go_wp2
    have hin:=inRegs_false xs ys
    have hlen:(regsOf xs).length≤2147483648:=by have:=regsOf_le xs;omega
    have hat0:=regsOf_at hx
    have hown0:(wr.drewN nq).ownsRow _ _ _ _ _ _:=hown
    have hf0:=hf.drewN nq
    have hs0:w.heap.size+1≤(wr.drewN nq).heap.size:=hbl2
    clear hown hrs
    clear hcanc
    generalize regsOf xs=l0 at hin hlen hat0 hown0 ⊢
    go_loopg [3,35] ys.length (fun n c3 c35 w2=>∃ j:Nat,j≤ys.length∧c35 = .int .i64 (j:Int)∧w2.ownsRow (w.heap.size+1) 145 1 c3 (l0 ++ regsOf ((ys.take j).filter O.isMem)).length ((l0 ++ regsOf ((ys.take j).filter O.isMem)).map R.val)∧Fr nope w w2∧w.heap.size+1≤w2.heap.size∧n=ys.length - j)
    case atStart=>exact ⟨0,Nat.zero_le _,rfl,by simpa [regsOf] using hown0,hf0,hs0,rfl⟩
    case round=>
     obtain ⟨j,hj,rfl,hownj,hfj,hsj,rfl⟩:=hrel
     clear hown0 hf0
     by_cases hjl:j < ys.length
     ·obtain ⟨b,off,o,hA,hbl,hok,hc,hat⟩:=(hy.nope hfj).at_ hjl
      simp only at hA
      subst hA
      have hB1:=regsOf_le ((ys.take j).filter O.isMem)
      have hB2:=o.regs_le
      have hB3:((ys.take j).filter O.isMem).length≤ys.length:=Nat.le_trans (List.length_filter_le _ _) (by rw [List.length_take];omega)
      have hB4:(l0 ++ regsOf ((ys.take j).filter O.isMem)).length≤4294967296:=by rw [List.length_append];omega
      cases hm:o.isMem
      ·have hT:=filter_take_no hok hm
       clear hok
       go_wp2_with (go_at_call 103;refine (IsMem_calls _ o).mono ?_;rw [hm];rintro e w3 ⟨rfl,hf3⟩)
       go_roundg (ys.length - (j+1))
       case measure=>omega
       case rel=>exact ⟨j+1,by omega,by go_num,by rw [hT];exact own_fr hownj hf3 (fun _ _ x=>x),hfj.then hf3,Nat.le_trans hsj hf3.size,rfl⟩
      ·have hT:=Lib.hid (regsOf_filter hok hm)
       clear hok
       go_wp2_with (first
        | (go_at_call 103;refine (IsMem_calls _ o).mono ?_;rw [hm];rintro e w3 ⟨rfl,hf3⟩)
        | (go_at_call 99;refine (OpRegs_calls _ o (hat.nope hf3)).mono ?_;rintro e w4 ⟨A2,c2,rfl,⟨hS2,_⟩,hf4⟩)
        | (have hown2:=own_fr hownj (hf3.then hf4) (fun _ _ x=>x);refine wpList_app (v:=u3) rfl rfl Tryz.underlying142 infoReg rfl (by omega) rfl hown2 rfl (news:=o.regs.map R.val) (by simp) (Sl.src hS2) (regs_one _) (by simp only [maxLen];omega) (by omega) (by have:=hf3.size;have:=hf4.size;omega) ?_;intro v5 w5 hown5 hf5 _))
       go_roundg (ys.length - (j+1))
       case measure=>omega
       case rel=>exact ⟨j+1,by omega,by go_num,by rw [hT.out,← List.append_assoc];simpa [Nat.add_assoc] using hown5,((hfj.then hf3).then hf4).then_new hf5 (fun x hx he=>by have:=own_base hownj x he;omega),by have:=hf3.size;have:=hf4.size;have:=hf5.size;omega,rfl⟩
     ·have e2:ys.take j=ys:=List.take_of_length_le (by omega)
      rw [e2] at hownj
      go_wp2
      go_ret
      rw [hin]
      obtain ⟨A5,c5,rfl,_,_⟩:=own_slice hownj
      exact ⟨A5,c5,rfl,⟨own_Sl hownj,fun r hr=>by
       rcases List.mem_append.1 hr with h | h
       ·exact ⟨(hat0 r h).1,(hat0 r h).2.nope hfj⟩
       ·exact regsOf_filter_at (hy.nope hfj) r h⟩,hfj⟩
   | true=>
    have hn:=hcanc rfl
    have hn0:0 < (regsOf xs).length:=by omega
    have hn1:1 < (regsOf xs).length:=by omega
    have hn2:(0:Int) < ((regsOf xs).length:Int):=by omega
    have hn3:(1:Int) < ((regsOf xs).length:Int):=by omega
    obtain ⟨g,x0,x1,rfl,hg,h0,h1,hc0,hc1⟩:=own_two hown hn
    rw [List.getElem?_map] at h0 h1
    obtain ⟨r0,hr0,rfl⟩:=Option.map_eq_some_iff.1 h0
    obtain ⟨r1,hr1,rfl⟩:=Option.map_eq_some_iff.1 h1
    have heql:=fun m=>R.eql (wr.drewN m) r0 r1 (hrs r0 (List.mem_of_getElem? hr0)).2 (hrs r1 (List.mem_of_getElem? hr1)).2
    have hc8:wr.cell? ⟨w.heap.size,8,none⟩=some (.bool true):=by rw [cell_of_row wr w.heap.size 8 _ _ (0,0) hbx];rfl
    have hc4:wr.cell? ⟨w.heap.size,4,none⟩=some (.slice A' ys.length c'):=by rw [cell_of_row wr w.heap.size 4 _ _ (0,0) hbx];rfl
    have hc4':∀ m o,((wr.drewN m).alloc o).cell? ⟨w.heap.size,4,none⟩=some (.slice A' ys.length c'):=fun m o=>((Fr.refl nope (wr.drewN m)).alloc o).cell hc4 (fun x=>x)
    obtain ⟨T0,v0,e0⟩:=r0.val_iface
    obtain ⟨T1,v1,e1⟩:=r1.val_iface
    rw [e0] at heql hc0
    rw [e1] at heql hc1
    cases hsm:r0.same r1
    ·rw [hsm] at heql
     go_wp2
     go_quiet (fail)
     go_wp2
     have hin:=inRegs_true_no hr0 hr1 hsm ys
     have hlen:(regsOf xs).length≤2147483648:=by have:=regsOf_le xs;omega
     have hat0:=regsOf_at hx
     have hown0:(wr.drewN nq).ownsRow _ _ _ _ _ _:=hown
     have hf0:=hf.drewN nq
     have hs0:w.heap.size+1≤(wr.drewN nq).heap.size:=hbl2
     clear hn0 hn1 hn2 hn3 hc0 hc1 h0 h1 heql hr0 hr1 hn hown hrs hcanc
     generalize regsOf xs=l0 at hin hlen hat0 hown0 ⊢
     go_loopg [3,35] ys.length (fun n c3 c35 w2=>∃ j:Nat,j≤ys.length∧c35 = .int .i64 (j:Int)∧w2.ownsRow (w.heap.size+1) 145 1 c3 (l0 ++ regsOf ((ys.take j).filter O.isMem)).length ((l0 ++ regsOf ((ys.take j).filter O.isMem)).map R.val)∧Fr nope w w2∧w.heap.size+1≤w2.heap.size∧n=ys.length - j)
     case atStart=>exact ⟨0,Nat.zero_le _,rfl,by simpa [regsOf] using hown0,hf0,hs0,rfl⟩
     case round=>
      obtain ⟨j,hj,rfl,hownj,hfj,hsj,rfl⟩:=hrel
      clear hown0 hf0
      by_cases hjl:j < ys.length
      ·obtain ⟨b,off,o,hA,hbl,hok,hc,hat⟩:=(hy.nope hfj).at_ hjl
       simp only at hA
       subst hA
       have hB1:=regsOf_le ((ys.take j).filter O.isMem)
       have hB2:=o.regs_le
       have hB3:((ys.take j).filter O.isMem).length≤ys.length:=Nat.le_trans (List.length_filter_le _ _) (by rw [List.length_take];omega)
       have hB4:(l0 ++ regsOf ((ys.take j).filter O.isMem)).length≤4294967296:=by rw [List.length_append];omega
       cases hm:o.isMem
       ·have hT:=filter_take_no hok hm
        clear hok
        go_wp2_with (go_at_call 103;refine (IsMem_calls _ o).mono ?_;rw [hm];rintro e w3 ⟨rfl,hf3⟩)
        go_roundg (ys.length - (j+1))
        case measure=>omega
        case rel=>exact ⟨j+1,by omega,by go_num,by rw [hT];exact own_fr hownj hf3 (fun _ _ x=>x),hfj.then hf3,Nat.le_trans hsj hf3.size,rfl⟩
       ·have hT:=Lib.hid (regsOf_filter hok hm)
        clear hok
        go_wp2_with (first
         | (go_at_call 103;refine (IsMem_calls _ o).mono ?_;rw [hm];rintro e w3 ⟨rfl,hf3⟩)
         | (go_at_call 99;refine (OpRegs_calls _ o (hat.nope hf3)).mono ?_;rintro e w4 ⟨A2,c2,rfl,⟨hS2,_⟩,hf4⟩)
         | (have hown2:=own_fr hownj (hf3.then hf4) (fun _ _ x=>x);refine wpList_app (v:=u3) rfl rfl Tryz.underlying142 infoReg rfl (by omega) rfl hown2 rfl (news:=o.regs.map R.val) (by simp) (Sl.src hS2) (regs_one _) (by simp only [maxLen];omega) (by omega) (by have:=hf3.size;have:=hf4.size;omega) ?_;intro v5 w5 hown5 hf5 _))
        go_roundg (ys.length - (j+1))
        case measure=>omega
        case rel=>exact ⟨j+1,by omega,by go_num,by rw [hT.out,← List.append_assoc];simpa [Nat.add_assoc] using hown5,((hfj.then hf3).then hf4).then_new hf5 (fun x hx he=>by have:=own_base hownj x he;omega),by have:=hf3.size;have:=hf4.size;have:=hf5.size;omega,rfl⟩
      ·have e2:ys.take j=ys:=List.take_of_length_le (by omega)
       rw [e2] at hownj
       go_wp2
       go_ret
       rw [hin]
       obtain ⟨A5,c5,rfl,_,_⟩:=own_slice hownj
       exact ⟨A5,c5,rfl,⟨own_Sl hownj,fun r hr=>by
        rcases List.mem_append.1 hr with h | h
        ·exact ⟨(hat0 r h).1,(hat0 r h).2.nope hfj⟩
        ·exact regsOf_filter_at (hy.nope hfj) r h⟩,hfj⟩
    ·rw [hsm] at heql
     go_wp2
     go_quiet (fail)
     go_wp2
     obtain ⟨l0,hl0⟩:∃ l0:List R,l0=[]:=⟨_,rfl⟩
     have hin:inRegs true xs ys=l0 ++ regsOf (ys.filter O.isMem):=by rw [hl0];exact inRegs_true_yes hr0 hr1 hsm ys
     have hlen:l0.length≤2147483648:=by rw [hl0];simp
     have hat0:∀ r∈l0,r.Ok∧r.At w:=by rw [hl0];intro r hr;cases hr
     have hown0:((wr.drewN nq).alloc (.cells #[] 145)).ownsRow (w.heap.size+1) 145 1 (.slice (some ⟨wr.heap.size,0,none⟩) 0 0) 0 []:=by
      exact ⟨rfl,.inr ⟨wr.heap.size,0,#[],rfl,by omega,heap_alloc_new (wr.drewN nq) _,by simp,by simp,by simp,by simp⟩⟩
     have hf0:=(hf.drewN nq).alloc (.cells #[] 145)
     have hs0:w.heap.size+1≤((wr.drewN nq).alloc (.cells #[] 145)).heap.size:=by simp;omega
     clear hn0 hn1 hn2 hn3 hc0 hc1 h0 h1 heql hr0 hr1 hn hown hrs hcanc
     have hl1:=Lib.hid hl0
     clear hl0
     go_loopg [3,35] ys.length (fun n c3 c35 w2=>∃ j:Nat,j≤ys.length∧c35 = .int .i64 (j:Int)∧w2.ownsRow (w.heap.size+1) 145 1 c3 (l0 ++ regsOf ((ys.take j).filter O.isMem)).length ((l0 ++ regsOf ((ys.take j).filter O.isMem)).map R.val)∧Fr nope w w2∧w.heap.size+1≤w2.heap.size∧n=ys.length - j)
     case atStart=>exact ⟨0,Nat.zero_le _,rfl,by have e:=hl1.out;rw [e];simpa [regsOf] using hown0,hf0,hs0,rfl⟩
     case round=>
      obtain ⟨j,hj,rfl,hownj,hfj,hsj,rfl⟩:=hrel
      clear hown0 hf0
      by_cases hjl:j < ys.length
      ·obtain ⟨b,off,o,hA,hbl,hok,hc,hat⟩:=(hy.nope hfj).at_ hjl
       simp only at hA
       subst hA
       have hB1:=regsOf_le ((ys.take j).filter O.isMem)
       have hB2:=o.regs_le
       have hB3:((ys.take j).filter O.isMem).length≤ys.length:=Nat.le_trans (List.length_filter_le _ _) (by rw [List.length_take];omega)
       have hB4:(l0 ++ regsOf ((ys.take j).filter O.isMem)).length≤4294967296:=by rw [List.length_append];omega
       cases hm:o.isMem
       ·have hT:=filter_take_no hok hm
        clear hok
        go_wp2_with (go_at_call 103;refine (IsMem_calls _ o).mono ?_;rw [hm];rintro e w3 ⟨rfl,hf3⟩)
        go_roundg (ys.length - (j+1))
        case measure=>omega
        case rel=>exact ⟨j+1,by omega,by go_num,by rw [hT];exact own_fr hownj hf3 (fun _ _ x=>x),hfj.then hf3,Nat.le_trans hsj hf3.size,rfl⟩
       ·have hT:=Lib.hid (regsOf_filter hok hm)
        clear hok
        go_wp2_with (first
         | (go_at_call 103;refine (IsMem_calls _ o).mono ?_;rw [hm];rintro e w3 ⟨rfl,hf3⟩)
         | (go_at_call 99;refine (OpRegs_calls _ o (hat.nope hf3)).mono ?_;rintro e w4 ⟨A2,c2,rfl,⟨hS2,_⟩,hf4⟩)
         | (have hown2:=own_fr hownj (hf3.then hf4) (fun _ _ x=>x);refine wpList_app (v:=u3) rfl rfl Tryz.underlying142 infoReg rfl (by omega) rfl hown2 rfl (news:=o.regs.map R.val) (by simp) (Sl.src hS2) (regs_one _) (by simp only [maxLen];omega) (by omega) (by have:=hf3.size;have:=hf4.size;omega) ?_;intro v5 w5 hown5 hf5 _))
        go_roundg (ys.length - (j+1))
        case measure=>omega
        case rel=>exact ⟨j+1,by omega,by go_num,by rw [hT.out,← List.append_assoc];simpa [Nat.add_assoc] using hown5,((hfj.then hf3).then hf4).then_new hf5 (fun x hx he=>by have:=own_base hownj x he;omega),by have:=hf3.size;have:=hf4.size;have:=hf5.size;omega,rfl⟩
      ·have e2:ys.take j=ys:=List.take_of_length_le (by omega)
       rw [e2] at hownj
       go_wp2
       go_ret
       rw [hin]
       obtain ⟨A5,c5,rfl,_,_⟩:=own_slice hownj
       exact ⟨A5,c5,rfl,⟨own_Sl hownj,fun r hr=>by
        rcases List.mem_append.1 hr with h | h
        ·exact ⟨(hat0 r h).1,(hat0 r h).2.nope hfj⟩
        ·exact regsOf_filter_at (hy.nope hfj) r h⟩,hfj⟩
end
section
open Go Go.RowKit Bth
set_option maxRecDepth 100000
def O.asReg:O→Option R
 | .reg r=>some r
 | _=>none
def outRegs (outs:List O):List R:=outs.filterMap O.asReg
theorem outRegs_take_none {ys:List O} {j:Nat} {o:O} (h:ys[j]? = some o) (hp:o.asReg=none):outRegs (ys.take (j+1))=outRegs (ys.take j):=by
 unfold outRegs;rw [List.take_add_one,h];simp [hp]
theorem outRegs_take_some {ys:List O} {j:Nat} {o:O} {r:R} (h:ys[j]? = some o) (hp:o.asReg=some r):outRegs (ys.take (j+1))=outRegs (ys.take j) ++ [r]:=by
 unfold outRegs;rw [List.take_add_one,h];simp [hp]
theorem outRegs_le (ys:List O):(outRegs ys).length≤ys.length:=List.length_filterMap_le _ _
theorem outRegs_at {w:World} {s:SV} {xs:List O} (h:OpsAt w s xs):∀ r∈outRegs xs,r.Ok∧r.At w:=by
 intro r hr
 obtain ⟨o,ho,hr⟩:=List.mem_filterMap.1 hr
 cases o with
 | reg r'=>cases hr;exact h.2.2 _ ho _ (by simp [O.regs])
 | _=>cases hr
set_option maxHeartbeats 1000000 in
theorem OutputRegisters_own (w:World) (i:Ins) (xs:List O) (hx:OpsAt w i.out xs) (hl:xs.length≤1073741824):
  Calls Tryz.prog 78 #[i.agg] w (GivesOwnRegs w (outRegs xs)):=by
 obtain ⟨opc,suf,ops,inp,⟨A,n,c⟩,term,br,cond,canc,isa,pred,succ,lin,lout⟩:=i
 obtain ⟨rfl,hx1,hx2⟩:n=xs.length∧_:=hx
 have hx:OpsAt w ⟨A,xs.length,c⟩ xs:=⟨rfl,hx1,hx2⟩
 clear hx1 hx2
 simp only [Ins.agg,Ins.cells]
 go_enter Tryz.func78,Tryz.ntmps78
 go_wp2
 go_loopg [3,11] xs.length (fun n c3 c11 wr=>∃ k:Nat,k≤xs.length∧c11 = .int .i64 (k:Int)∧wr.ownsRow w.heap.size 145 1 c3 (outRegs (xs.take k)).length ((outRegs (xs.take k)).map R.val)∧Fr nope w wr∧n=xs.length - k)
 case atStart=>exact ⟨0,Nat.zero_le _,rfl,by simpa [outRegs] using own_nil _ _ _ _,(Fr.refl _ _).alloc _,rfl⟩
 case round=>
  obtain ⟨k,hk,rfl,hown,hf,rfl⟩:=hrel
  by_cases hlt:k < xs.length
  ·obtain ⟨b,off,o,hA,hbl,hok,hc,hat⟩:=(hx.nope hf).at_ hlt
   simp only at hA
   subst hA
   have hB1:=outRegs_le (xs.take k)
   have hB3:(xs.take k).length≤k:=by rw [List.length_take];omega
   have hta:=fun W=>O.ta_Register W 132 o
   cases hr:o.asReg with
   | none=>
    have hT:=Lib.hid (outRegs_take_none hok hr)
    have hir:o.isReg=false:=by cases o<;>simp_all [O.asReg,O.isReg]
    clear hok hx hr
    rw [hir] at hta
    obtain ⟨T,v,hv⟩:=o.val_iface
    rw [hv] at hta hc
    clear hv hir
    simp only [Bool.false_eq_true,if_false] at hta
    go_wp2
    go_roundg (xs.length - (k+1))
    case measure=>omega
    case rel=>exact ⟨k+1,by omega,by go_num,by rw [hT.out];exact hown,hf,rfl⟩
   | some r=>
    have hT:=Lib.hid (outRegs_take_some hok hr)
    have hir:o = .reg r:=by cases o<;>simp_all [O.asReg]
    subst hir
    clear hok hx hr
    simp only [O.val,O.isReg,if_true] at hta hc
    obtain ⟨T,v,hv⟩:=r.val_iface
    rw [hv] at hta hc
    have h1:∀ u∈[R.val r],u.oneCell'=true:=regs_one [r]
    rw [hv] at h1
    go_wp2_with (refine wpList_app (v:=u3) rfl rfl Tryz.underlying142 infoReg rfl (by omega) rfl (own_fr hown ((Fr.refl nope _).alloc _) (fun _ _ x=>x)) rfl (news:=[.iface T v]) rfl (one_new _ _ _ _ rfl) h1 (by simp only [maxLen];omega) (by omega) (by have:=hf.size;simp;omega) ?_;intro v3 w3 hown3 hf3 _)
    go_roundg (xs.length - (k+1))
    case measure=>omega
    case rel=>exact ⟨k+1,by omega,by go_num,by rw [hT.out,List.map_append,List.length_append,show [r].map R.val=[.iface T v] from by rw [← hv];rfl];exact hown3,(hf.alloc _).then_new hf3 (fun x hx he=>by have:=own_base hown x he;omega),rfl⟩
  ·go_wp2
   go_ret
   have e:xs.take k=xs:=List.take_of_length_le (by omega)
   rw [e] at hown
   obtain ⟨A',c',rfl,_,_⟩:=own_slice hown
   exact ⟨A',c',rfl,hown,outRegs_at (hx.nope hf),hf⟩
theorem OutputRegisters_calls (w:World) (i:Ins) (xs:List O) (hx:OpsAt w i.out xs) (hl:xs.length≤1073741824):
  Calls Tryz.prog 78 #[i.agg] w (GivesRegs w (outRegs xs)):=(OutputRegisters_own w i xs hx hl).mono fun _ _ h=>h.regs
theorem IsUncond_calls (w:World) (i:Ins):
  Calls Tryz.prog 73 #[i.agg] w fun e w'=>e = .returned (.bool (i.br && !i.cond))∧Fr nope w w':=by
 obtain ⟨opc,suf,ops,inp,out,term,br,cond,canc,isa,pred,succ,lin,lout⟩:=i
 simp only [Ins.agg,Ins.cells]
 cases br
 all_goals
  go_enter Tryz.func73,Tryz.ntmps73
  go_wp2
  go_ret
  exact ⟨rfl,(Fr.refl _ _).alloc _⟩
def targetOf (br:Bool) (ops:List O):Option ByteArray:=
 match br,ops with
 | true,.label s :: _=>some s
 | _,_=>none
theorem cell_new (w:World) (v:Value) (t:TypeId) (b:Nat) (hb:b=w.heap.size):(w.alloc (.cells #[v] t)).cell? ⟨b,0,none⟩=some v:=by
 subst hb
 rw [cell_of_row _ _ 0 _ _ (0,0) (heap_alloc_new w _)]
 rfl
theorem TargetLabel_none (w:World) (i:Ins) (xs:List O) (hx:OpsAt w i.ops xs) (ht:targetOf i.br xs=none):
  Calls Tryz.prog 72 #[i.agg] w fun e w'=>e = .returned (.pointer none)∧Fr nope w w':=by
 obtain ⟨opc,suf,⟨A,n,c⟩,inp,out,term,br,cond,canc,isa,pred,succ,lin,lout⟩:=i
 obtain ⟨rfl,hx1,hx2⟩:n=xs.length∧_:=hx
 have hx:OpsAt w ⟨A,xs.length,c⟩ xs:=⟨rfl,hx1,hx2⟩
 clear hx1 hx2
 simp only [Ins.agg,Ins.cells] at ht ⊢
 cases br with
 | false=>
  go_enter Tryz.func72,Tryz.ntmps72
  go_wp2
  go_ret
  exact ⟨rfl,(Fr.refl _ _).alloc _⟩
 | true=>
  cases xs with
  | nil=>
   simp only [List.length_nil]
   go_enter Tryz.func72,Tryz.ntmps72
   go_wp2
   go_ret
   exact ⟨rfl,(Fr.refl _ _).alloc _⟩
  | cons o xs=>
   obtain ⟨b,off,o',hA,hbl,hok,hc,hat⟩:=hx.at_ (k:=0) (by simp)
   simp only [List.getElem?_cons_zero,Option.some.injEq] at hok
   subst hok
   simp only at hA
   subst hA
   have hlab:o.isLabel=false:=by cases o<;>simp_all [targetOf,O.isLabel]
   have hta:=fun W=>O.ta_LabelRef W 132 o
   rw [hlab] at hta
   obtain ⟨T,v,hv⟩:=o.val_iface
   rw [hv] at hta hc
   rw [Nat.add_zero] at hc
   generalize o.labelOf=lab at hta
   clear hx hv ht hat
   have hn:(o :: xs).length=xs.length+1:=rfl
   rw [hn]
   have h0:(((xs.length+1:Nat):Int) == 0)=false:=by simp;omega
   have h00:((xs.length+1:Nat):Int)≠0:=by omega
   have h1:(0:Int) < ((xs.length+1:Nat):Int):=by omega
   have h2:(0:Nat) < xs.length+1:=by omega
   go_enter Tryz.func72,Tryz.ntmps72
   go_wp2
   go_ret
   exact ⟨rfl,(Fr.refl _ _).alloc _⟩
theorem TargetLabel_some (w:World) (i:Ins) (xs:List O) (s:ByteArray) (hx:OpsAt w i.ops xs) (ht:targetOf i.br xs=some s):
  Calls Tryz.prog 72 #[i.agg] w fun e w'=>∃ b,e = .returned (.pointer (some ⟨b,0,none⟩))∧b < w'.heap.size∧w'.cell? ⟨b,0,none⟩=some (.string s)∧Fr nope w w':=by
 obtain ⟨opc,suf,⟨A,n,c⟩,inp,out,term,br,cond,canc,isa,pred,succ,lin,lout⟩:=i
 obtain ⟨rfl,hx1,hx2⟩:n=xs.length∧_:=hx
 have hx:OpsAt w ⟨A,xs.length,c⟩ xs:=⟨rfl,hx1,hx2⟩
 clear hx1 hx2
 simp only [Ins.agg,Ins.cells] at ht ⊢
 obtain ⟨rfl,xs',rfl⟩:br=true∧∃ xs',xs = .label s :: xs':=by
  unfold targetOf at ht
  split at ht
  ·injection ht with ht;subst ht;exact ⟨rfl,_,rfl⟩
  ·cases ht
 obtain ⟨b,off,o',hA,hbl,hok,hc,hat⟩:=hx.at_ (k:=0) (by simp)
 simp only [List.getElem?_cons_zero,Option.some.injEq] at hok
 subst hok
 simp only at hA
 subst hA
 have hta:=fun W=>O.ta_LabelRef W 132 (.label s)
 simp only [O.val,O.isLabel,O.labelOf] at hta hc
 rw [Nat.add_zero] at hc
 clear hx ht hat
 have hn:(O.label s :: xs').length=xs'.length+1:=rfl
 rw [hn]
 have h0:(((xs'.length+1:Nat):Int) == 0)=false:=by simp;omega
 have h00:((xs'.length+1:Nat):Int)≠0:=by omega
 have h1:(0:Int) < ((xs'.length+1:Nat):Int):=by omega
 have h2:(0:Nat) < xs'.length+1:=by omega
 go_enter Tryz.func72,Tryz.ntmps72
 go_wp2
 go_ret
 exact ⟨_,rfl,by simp,cell_new _ _ _ _ (by simp),((Fr.refl _ _).alloc _).alloc _⟩
end
section
open Go Go.RowKit Bth
set_option maxRecDepth 100000
inductive Nd where
 | ins (b:Nat)
 | label (s:ByteArray)
 | comment (b:Nat)
def ptr (b:Nat):Value:=.pointer (some ⟨b,0,none⟩)
def Nd.val:Nd→Value
 | .ins b=>.iface 115 (.pointer (some ⟨b,0,none⟩))
 | .label s=>.iface 120 (.string s)
 | .comment b=>.iface 137 (.pointer (some ⟨b,0,none⟩))
def Nd.insOf:Nd→Option Nat
 | .ins b=>some b
 | _=>none
def insOf (l:List Nd):List Nat:=l.filterMap Nd.insOf
theorem insOf_take_none {l:List Nd} {j:Nat} {o:Nd} (h:l[j]? = some o) (hp:o.insOf=none):insOf (l.take (j+1))=insOf (l.take j):=by
 unfold insOf;rw [List.take_add_one,h];simp [hp]
theorem insOf_take_some {l:List Nd} {j:Nat} {o:Nd} {b:Nat} (h:l[j]? = some o) (hp:o.insOf=some b):insOf (l.take (j+1))=insOf (l.take j) ++ [b]:=by
 unfold insOf;rw [List.take_add_one,h];simp [hp]
theorem insOf_le (l:List Nd):(insOf l).length≤l.length:=List.length_filterMap_le _ _
theorem Nd.val_iface (n:Nd):∃ T v,n.val = .iface T v:=by cases n<;>exact ⟨_,_,rfl⟩
section
variable (w:World) (S:TypeId)
theorem ta_Ins_ins (x:Value):(Instr.typeAssert (.iface 115 x) S 115 true).run Tryz.prog w = .ok (.tuple #[x,.bool true]) w:=by kernel_rfl
theorem ta_Ins_label (x:Value):(Instr.typeAssert (.iface 120 x) S 115 true).run Tryz.prog w = .ok (.tuple #[.pointer none,.bool false]) w:=by kernel_rfl
theorem ta_Ins_comment (x:Value):(Instr.typeAssert (.iface 137 x) S 115 true).run Tryz.prog w = .ok (.tuple #[.pointer none,.bool false]) w:=by kernel_rfl
theorem ta_Label_ins (x:Value):(Instr.typeAssert (.iface 115 x) S 120 true).run Tryz.prog w = .ok (.tuple #[.string ⟨#[]⟩,.bool false]) w:=by kernel_rfl
theorem ta_Label_label (x:Value):(Instr.typeAssert (.iface 120 x) S 120 true).run Tryz.prog w = .ok (.tuple #[x,.bool true]) w:=by kernel_rfl
theorem ta_Label_comment (x:Value):(Instr.typeAssert (.iface 137 x) S 120 true).run Tryz.prog w = .ok (.tuple #[.string ⟨#[]⟩,.bool false]) w:=by kernel_rfl
theorem ta_Comment_ins (x:Value):(Instr.typeAssert (.iface 115 x) S 137 true).run Tryz.prog w = .ok (.tuple #[.pointer none,.bool false]) w:=by kernel_rfl
theorem ta_Comment_label (x:Value):(Instr.typeAssert (.iface 120 x) S 137 true).run Tryz.prog w = .ok (.tuple #[.pointer none,.bool false]) w:=by kernel_rfl
theorem ta_Comment_comment (x:Value):(Instr.typeAssert (.iface 137 x) S 137 true).run Tryz.prog w = .ok (.tuple #[x,.bool true]) w:=by kernel_rfl
end
theorem infoPtr:(Tryz.prog.info? 115).map (fun i=>(i.zero,i.size,i.bytes))=some (some (.pointer none),1,8):=by kernel_rfl
theorem infoNode:(Tryz.prog.info? 135).map (fun i=>(i.zero,i.size,i.bytes))=some (some .nilIface,1,16):=by kernel_rfl
def GivesOwn (w:World) (e:TypeId) (xs:List Value) (en:Ending) (w':World):Prop:=∃ v,en = .returned v∧w'.ownsRow w.heap.size e 1 v xs.length xs∧Fr nope w w'
set_option maxHeartbeats 1000000 in
theorem Instructions_calls (w:World) (fb:Nat) (A:Option Addr) (c:Nat) (l:List Nd) (hc5:w.cell? ⟨fb,5,none⟩=some (.slice A l.length c)) (hS:Sl w A l.length (l.map Nd.val)) (hl:l.length≤1073741824):
  Calls Tryz.prog 58 #[.pointer (some ⟨fb,0,none⟩)] w (GivesOwn w 115 ((insOf l).map ptr)):=by
 go_enter Tryz.func58,Tryz.ntmps58
 go_wp2
 go_loopg [3,13] l.length (fun n c3 c13 wr=>∃ k:Nat,k≤l.length∧c13 = .int .i64 (k:Int)∧wr.ownsRow w.heap.size 115 1 c3 (insOf (l.take k)).length ((insOf (l.take k)).map ptr)∧Fr nope w wr∧n=l.length - k)
 case atStart=>exact ⟨0,Nat.zero_le _,rfl,by simpa [insOf] using own_nil _ _ _ _,(Fr.refl _ _),rfl⟩
 case round=>
  obtain ⟨k,hk,rfl,hown,hf,rfl⟩:=hrel
  by_cases hlt:k < l.length
  ·obtain ⟨b,off,u,rfl,hbl,hu,hc⟩:=(hS.nope hf).at_ hlt
   rw [List.getElem?_map] at hu
   obtain ⟨o,hok,rfl⟩:=Option.map_eq_some_iff.1 hu
   have hB1:=insOf_le (l.take k)
   have hB3:(l.take k).length≤k:=by rw [List.length_take];omega
   clear hS hu
   cases o with
   | label s=>
    have hT:=Lib.hid (insOf_take_none hok rfl)
    have hta:=fun W=>ta_Ins_label W 135 (.string s)
    simp only [Nd.val] at hc
    clear hok
    go_wp2
    go_roundg (l.length - (k+1))
    case measure=>omega
    case rel=>exact ⟨k+1,by omega,by go_num,by rw [hT.out];exact hown,hf,rfl⟩
   | comment s=>
    have hT:=Lib.hid (insOf_take_none hok rfl)
    have hta:=fun W=>ta_Ins_comment W 135 (.pointer (some ⟨s,0,none⟩))
    simp only [Nd.val] at hc
    clear hok
    go_wp2
    go_roundg (l.length - (k+1))
    case measure=>omega
    case rel=>exact ⟨k+1,by omega,by go_num,by rw [hT.out];exact hown,hf,rfl⟩
   | ins x=>
    have hT:=Lib.hid (insOf_take_some hok rfl)
    have hta:=fun W=>ta_Ins_ins W 135 (.pointer (some ⟨x,0,none⟩))
    simp only [Nd.val] at hc
    clear hok
    go_wp2_with (refine wpList_app (v:=u3) rfl rfl Tryz.underlying124 infoPtr rfl (by omega) rfl (own_fr hown ((Fr.refl nope _).alloc _) (fun _ _ x=>x)) rfl (news:=[.pointer (some ⟨x,0,none⟩)]) rfl (one_new _ _ _ _ rfl) (by simp [Value.oneCell']) (by simp only [maxLen];omega) (by omega) (by have:=hf.size;simp;omega) ?_;intro v3 w3 hown3 hf3 _)
    go_roundg (l.length - (k+1))
    case measure=>omega
    case rel=>exact ⟨k+1,by omega,by go_num,by rw [hT.out,List.map_append,List.length_append];exact hown3,(hf.alloc _).then_new hf3 (fun x hx he=>by have:=own_base hown x he;omega),rfl⟩
  ·go_wp2
   go_ret
   have e:l.take k=l:=List.take_of_length_le (by omega)
   rw [e] at hown
   exact ⟨_,rfl,by simpa using hown,hf⟩
end
section
open Go Go.RowKit Bth
set_option maxRecDepth 100000
structure Fn where
 nodes:Value
 lt:Option Nat
 al:Option Nat
 isa:Value
def Fn.cells (f:Fn):Array Value:=#[.string ⟨#[]⟩,.int .u16 0,.slice none 0 0,.slice none 0 0,.int .i64 0,f.nodes,.map f.lt,.map f.al,f.isa]
def FnAt (w:World) (fb:Nat) (f:Fn):Prop:=w.heap[fb]? = some (.cells f.cells 84 (0,0))
theorem FnAt.fr {S:Nat→Prop} {w w':World} {fb:Nat} {f:Fn} (h:FnAt w fb f) (hf:Fr S w w') (hs:¬S fb):FnAt w' fb f:=hf.heap h hs
theorem FnAt.c5 {w:World} {fb:Nat} {f:Fn} (h:FnAt w fb f):w.cell? ⟨fb,5,none⟩=some f.nodes:=by rw [cell_of_row w fb 5 _ _ (0,0) h];rfl
theorem FnAt.c6 {w:World} {fb:Nat} {f:Fn} (h:FnAt w fb f):w.cell? ⟨fb,6,none⟩=some (.map f.lt):=by rw [cell_of_row w fb 6 _ _ (0,0) h];rfl
theorem FnAt.c7 {w:World} {fb:Nat} {f:Fn} (h:FnAt w fb f):w.cell? ⟨fb,7,none⟩=some (.map f.al):=by rw [cell_of_row w fb 7 _ _ (0,0) h];rfl
theorem FnAt.c8 {w:World} {fb:Nat} {f:Fn} (h:FnAt w fb f):w.cell? ⟨fb,8,none⟩=some f.isa:=by rw [cell_of_row w fb 8 _ _ (0,0) h];rfl
theorem setCell_heap {w:World} {b k:Nat} {cs:Array Value} {t:TypeId} {fr:Nat × Nat} (h:w.heap[b]? = some (.cells cs t fr)) (v:Value):(w.setCell ⟨b,k,none⟩ v).heap[b]? = some (.cells (cs.setIfInBounds k v) t fr):=by
 simp only [World.setCell,Array.getElem?_modify,h,if_true,Option.map_some]
 rfl
def GivesNode (w:World) (fb:Nat) (f:Fn) (nd:Nd) (base n:Nat) (xs:List Value) (e:Ending) (w':World):Prop:=
 e = .returned (.tuple #[])∧∃ v,FnAt w' fb { f with nodes:=v } ∧ w'.ownsRow base 135 1 v (n+1) (xs ++ [nd.val])∧Fr (fun b=>b=fb∨f.nodes.ownBlock=some b) w w'∧(v.ownBlock=f.nodes.ownBlock∨∃ b,v.ownBlock=some b∧w.heap.size≤b)
theorem AddNode_calls (w:World) (fb:Nat) (f:Fn) (nd:Nd) (base:Nat) (n:Nat) (xs:List Value) (hfn:FnAt w fb f) (hown:w.ownsRow base 135 1 f.nodes n xs) (hn:n≤1073741824) (hb:fb < base) (hbs:base≤w.heap.size):
  Calls Tryz.prog 94 #[.pointer (some ⟨fb,0,none⟩),nd.val] w (GivesNode w fb f nd base n xs):=by
 obtain ⟨nodes,lt,al,isa⟩:=f
 simp only at hown
 obtain ⟨A,c,rfl,_,_⟩:=own_slice hown
 have hbl:=lt_of_heap hfn
 have h5:=hfn.c5
 obtain ⟨T,v,hv⟩:=nd.val_iface
 unfold GivesNode
 rw [hv]
 have h1:∀ u∈[Value.iface T v],u.oneCell'=true:=by simp [Value.oneCell']
 simp only at h5
 go_enter Tryz.func94,Tryz.ntmps94
 go_wp2_with (refine wpList_app (v:=.slice A n c) rfl rfl Tryz.underlying81 infoNode rfl (by omega) rfl (own_fr hown ((Fr.refl nope _).alloc _) (fun _ _ x=>x)) rfl (news:=[.iface T v]) rfl (one_new _ _ _ _ rfl) h1 (by simp only [maxLen];omega) (by omega) (by simp;omega) ?hk)
 case hk=>
  intro v3 w3 hown3 hf3 hb3
  obtain ⟨A3,c3,rfl,_,_⟩:=own_slice hown3
  have hfn3:w3.heap[fb]? = some (.cells (Fn.mk (.slice A n c) lt al isa).cells 84 (0,0)):=hf3.heap (((Fr.refl nope w).alloc _).heap hfn (fun x=>x)) (fun he=>by have:=own_base hown _ he;omega)
  have hz:w3.frozen? ⟨fb,5,none⟩=false:=by simp [World.frozen?,hfn3]
  have hc5:=FnAt.c5 hfn3
  simp only at hc5
  go_wp2
  go_end0
  refine ⟨rfl,_,setCell_heap hfn3 _,?_,?_,?_⟩
  ·refine own_fr hown3 ((Fr.refl (fun b=>b=fb) w3).setCell (.inl rfl) _) (fun b hb2 he=>?_)
   have:=own_base hown3 b hb2
   omega
  ·refine Fr.setCell (a:=w) (b:=w3) (((Fr.refl _ w).alloc _).then (hf3.mono (fun x _ h=>.inr h))) (.inl (.inl rfl)) _
  ·rcases hb3 with h | h
   ·exact .inl h
   ·exact .inr ⟨_,h,by simp⟩
theorem AddInstruction_calls (w:World) (fb:Nat) (f:Fn) (b:Nat) (base:Nat) (n:Nat) (xs:List Value) (hfn:FnAt w fb f) (hown:w.ownsRow base 135 1 f.nodes n xs) (hn:n≤1073741824) (hb:fb < base) (hbs:base≤w.heap.size):
  Calls Tryz.prog 54 #[.pointer (some ⟨fb,0,none⟩),.pointer (some ⟨b,0,none⟩)] w (GivesNode w fb f (.ins b) base n xs):=by
 go_enter Tryz.func54,Tryz.ntmps54
 go_wp2_with (go_at_call 94;refine (AddNode_calls w fb f (.ins b) base n xs hfn hown hn hb hbs).mono ?_;rintro e w2 ⟨rfl,hG⟩)
 go_end0
 exact ⟨rfl,hG⟩
theorem AddLabel_calls (w:World) (fb:Nat) (f:Fn) (s:ByteArray) (base:Nat) (n:Nat) (xs:List Value) (hfn:FnAt w fb f) (hown:w.ownsRow base 135 1 f.nodes n xs) (hn:n≤1073741824) (hb:fb < base) (hbs:base≤w.heap.size):
  Calls Tryz.prog 55 #[.pointer (some ⟨fb,0,none⟩),.string s] w (GivesNode w fb f (.label s) base n xs):=by
 go_enter Tryz.func55,Tryz.ntmps55
 go_wp2_with (go_at_call 94;refine (AddNode_calls w fb f (.label s) base n xs hfn hown hn hb hbs).mono ?_;rintro e w2 ⟨rfl,hG⟩)
 go_end0
 exact ⟨rfl,hG⟩
theorem NewComment_calls (w:World) (A:Option Addr) (n c:Nat):
  Calls Tryz.prog 95 #[.slice A n c] w fun e w'=>e = .returned (.pointer (some ⟨w.heap.size,0,none⟩))∧w'=w.alloc (.cells #[.slice A n c] 139):=by
 go_enter Tryz.func95,Tryz.ntmps95
 go_wp2
 go_ret
 exact ⟨rfl,rfl⟩
theorem AddComment_calls (w:World) (fb:Nat) (f:Fn) (A:Option Addr) (m c:Nat) (base:Nat) (n:Nat) (xs:List Value) (hfn:FnAt w fb f) (hown:w.ownsRow base 135 1 f.nodes n xs) (hn:n≤1073741824) (hb:fb < base) (hbs:base≤w.heap.size):
  Calls Tryz.prog 56 #[.pointer (some ⟨fb,0,none⟩),.slice A m c] w fun e w'=>GivesNode (w.alloc (.cells #[.slice A m c] 139)) fb f (.comment w.heap.size) base n xs e w':=by
 go_enter Tryz.func56,Tryz.ntmps56
 go_wp2_with (first
  | (go_at_call 95;refine (NewComment_calls w A m c).mono ?_;rintro e w1 ⟨rfl,rfl⟩)
  | (go_at_call 94;refine (AddNode_calls _ fb f (.comment w.heap.size) base n xs (hfn.fr ((Fr.refl nope w).alloc _) (fun x=>x)) (own_fr hown ((Fr.refl nope w).alloc _) (fun _ _ x=>x)) hn hb (by simp;omega)).mono ?_;rintro e w2 ⟨rfl,hG⟩))
 go_end0
 exact ⟨rfl,hG⟩
end
end Go.Proofs.YtpbeedabmjmdmaaGreatDoor
