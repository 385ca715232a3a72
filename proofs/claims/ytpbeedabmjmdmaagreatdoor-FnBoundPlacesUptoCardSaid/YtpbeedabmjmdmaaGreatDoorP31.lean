/- Part of the proof of a statement about pub-berthage: what its texts have in common. -/
import Derived.BigQuiet
import Derived.Test.YtpbeedabmjmdmaaGreatDoorP23
import Derived.Test.YtpbeedabmjmdmaaGreatDoorP24
import Derived.Test.YtpbeedabmjmdmaaGreatDoorP28
import Derived.Test.YtpbeedabmjmdmaaGreatDoorP29
import Derived.Test.YtpbeedabmjmdmaaGreatDoorP30
namespace Go.Proofs.YtpbeedabmjmdmaaGreatDoor
section
open Go Go.RowKit Bth
set_option maxRecDepth 100000
def PN.agg (n:PN):Value:=.agg n.cells
set_option maxHeartbeats 1000000 in
theorem NodeOK_calls (w:World) (B:Nat) (p:PN) (h:p.At w B):Calls Tryz.prog 67 #[p.agg] w (GivesB w (okN p)):=by
 have h1:∀ W,Fr nope w W→Calls Tryz.prog 71 #[p.ins.agg] W (GivesB W (okI p.ins)):=fun W hW=>InstrOK_calls W B p.ins (h.ins.fr hW (fun _ _ x=>x))
 clear h
 unfold okN GivesB
 unfold GivesB at h1
 obtain ⟨kind,label,⟨lA,ln,lc⟩,lines,⟨opc,⟨A1,n1,c1⟩,suf,⟨A2,n2,c2⟩,ops,⟨A3,n3,c3⟩,inp,⟨A4,n4,c4⟩,out,term,br,cond,canc,⟨A5,n5,c5⟩,isa⟩⟩:=p
 simp only [PN.agg,PN.cells,PI.agg,PI.cells,SV.val] at h1 ⊢
 generalize okI _=b at h1 ⊢
 have f0:=fun o=>(Fr.refl nope w).alloc o
 by_cases k1:kind=1
 ·subst k1
  rw [if_pos rfl]
  cases b with
  | false=>
   go_enter Tryz.func67,Tryz.ntmps67
   go_wp2_with fail
   refine (h1 _ (f0 _)).mono ?_
   rintro e w1 ⟨rfl,hf1⟩
   have hb1:=hf1.heap (heap_alloc_new w _) (fun x=>x)
   have hc1:=fun j=>cell_of_row _ _ j _ _ (0,0) hb1
   go_wp2
   go_ret
   exact ⟨rfl,(f0 _).then hf1⟩
  | true=>
   go_enter Tryz.func67,Tryz.ntmps67
   go_wp2_with fail
   refine (h1 _ (f0 _)).mono ?_
   rintro e w1 ⟨rfl,hf1⟩
   go_wp2
   go_ret
   exact ⟨rfl,(f0 _).then hf1⟩
 by_cases k2:kind=2
 ·subst k2
  rw [if_neg (by decide),if_pos rfl]
  go_enter Tryz.func67,Tryz.ntmps67
  go_wp2
  go_ret
  exact ⟨rfl,f0 _⟩
 by_cases k3:kind=3
 ·subst k3
  rw [if_neg (by decide),if_neg (by decide),if_pos rfl]
  go_enter Tryz.func67,Tryz.ntmps67
  go_wp2
  go_ret
  exact ⟨rfl,f0 _⟩
 rw [if_neg k1,if_neg k2,if_neg k3]
 have e3:(kind == 3)=false:=by simp [k3]
 have e1:(kind == 2)=false:=by simp [k2]
 have e2:(kind == 2 || kind == 3)=false:=by simp [k2,k3]
 go_enter Tryz.func67,Tryz.ntmps67
 go_wp2
 go_ret
 show Ending.returned (Value.bool _)=_∧_
 refine ⟨congrArg (fun b=>Ending.returned (Value.bool b)) ?_,f0 _⟩
 first | rfl | exact e3 | exact e2 | exact e1
set_option maxHeartbeats 1000000 in
theorem NodesOK_calls (w:World) (B:Nat) (s:SV) (ns:List PN) (hN:NodesAt w B s ns):Calls Tryz.prog 34 #[s.val] w (GivesB w (ns.all okN)):=by
 obtain ⟨A,n,c⟩:=s
 obtain rfl:n=ns.length:=hN.len
 have hfew:=hN.few
 simp only [SV.val]
 go_enter Tryz.func34,Tryz.ntmps34
 go_wp2
 go_loopg [7] ns.length (fun n c7 wr=>∃ k:Nat,k≤ns.length∧c7 = .int .i64 (k:Int)∧Hid ((ns.take k).all okN=true)∧Fr nope w wr∧n=ns.length - k)
 case atStart=>exact ⟨0,Nat.zero_le _,rfl,Lib.hid rfl,Fr.refl _ _,rfl⟩
 case round=>
  obtain ⟨k,hk,rfl,hall,hf,rfl⟩:=hrel
  by_cases hlt:k < ns.length
  ·obtain ⟨b,off,hAe,hbB,hbl,hc⟩:=(hN.fr hf (fun _ _ x=>x)).row (by omega)
   simp only at hAe
   subst hAe
   obtain ⟨p,hpk⟩:∃ p,ns[k]? = some p:=⟨_,List.getElem?_eq_getElem hlt⟩
   have hc:=hc k p hpk
   have hpm:=List.mem_of_getElem? hpk
   have hT:=Lib.hid (take_snoc hpk)
   have hat:=hN.each p hpm
   replace hpm:=Lib.hid hpm
   clear hpk hN
   go_wp2_with (first
    | (refine wpList_load_mid rfl _ _ rfl b (off+k*13) rfl p.cells.toList _ hc Tryz.underlying57 rfl (by kernel_rfl) ?_)
    | (refine wpList_storeRow (b:=wr.heap.size) (cells:=p.cells) rfl rfl rfl rfl (heap_alloc_new _ _) rfl (by kernel_rfl) (by kernel_rfl) ?_;intro w2 hb2 hf2)
    | (refine wpList_loadRow (b:=wr.heap.size) (cells:=p.cells) rfl rfl rfl hb2 Tryz.underlying57 rfl (by kernel_rfl) ?_))
   have hn2:Fr nope wr w2:=((Fr.refl nope wr).alloc _).then_new hf2 (fun x hx e=>by omega)
   refine (NodeOK_calls w2 B p (hat.fr (hf.then hn2) (fun _ _ x=>x))).mono ?_
   rintro e w3 ⟨rfl,hf3⟩
   have hf13:=(hf.then hn2).then hf3
   cases hb:okN p with
   | false=>
    go_wp2
    go_ret
    exact ⟨by rw [List.all_eq_false.2 ⟨p,hpm.out,by simp [hb]⟩];rfl,hf13⟩
   | true=>
    have hall':=Lib.hid (show (ns.take (k+1)).all okN=true by rw [hT.out,List.all_append,hall.out];simp [hb])
    go_wp2
    go_roundg (ns.length - (k+1))
    case measure=>omega
    case rel=>exact ⟨k+1,by omega,by go_num,hall',hf13,rfl⟩
  ·rw [take_all hlt] at hall
   go_wp2
   go_ret
   exact ⟨by rw [hall.out];rfl,hf⟩
theorem tagsListed_calls (w:World) (A:Option Addr) (l:List ByteArray) (c:Nat) (x:ByteArray) (h:Sl w A l.length (l.map Value.string)) (hl:l.length≤1073741824):Calls Tryz.prog 68 #[.slice A l.length c,.string x] w fun e w'=>∃ b,e = .returned (.bool b)∧w'=w:=by
 go_enter Tryz.func68,Tryz.ntmps68
 go_wp2
 go_loopg [6,9] l.length (fun n c6 c9 wr=>∃ k:Nat,k≤l.length∧c9 = .int .i64 (k:Int)∧wr=w∧n=l.length - k)
 case atStart=>exact ⟨0,Nat.zero_le _,rfl,rfl,rfl⟩
 case round=>
  obtain ⟨k,hk,rfl,rfl,rfl⟩:=hrel
  by_cases hlt:k < l.length
  ·obtain ⟨b,off,u,hAe,hbl,hu,hc⟩:=h.at_ hlt
   rw [List.getElem?_map] at hu
   obtain ⟨y,_,rfl⟩:=Option.map_eq_some_iff.1 hu
   subst hAe
   clear hu h
   cases hb:(y.toList == x.toList) with
   | true=>
    go_wp2
    go_ret
    exact ⟨true,rfl,rfl⟩
   | false=>
    go_wp2
    go_roundg (l.length - (k+1))
    case measure=>omega
    case rel=>exact ⟨k+1,by omega,by go_num,rfl,rfl⟩
  ·go_wp2
   go_ret
   exact ⟨false,rfl,rfl⟩
end
section
open Go Go.RowKit Bth
set_option maxRecDepth 100000
set_option maxHeartbeats 1000000 in
theorem LabelsKnown_calls (w:World) (B:Nat) (s:SV) (ns:List PN) (hN:NodesAt w B s ns):Calls Tryz.prog 35 #[s.val] w fun e w'=>∃ b,e = .returned (.bool b)∧Fr nope w w':=by
 obtain ⟨A,n,c⟩:=s
 obtain rfl:n=ns.length:=hN.len
 have hfew:=hN.few
 simp only [SV.val]
 go_enter Tryz.func35,Tryz.ntmps35
 go_wp2
 go_loopg [3,8] ns.length (fun n c3 c8 wr=>∃ (k:Nat) (A2:Option Addr) (c2:Nat) (l:List ByteArray),k≤ns.length∧l.length≤k∧c8 = .int .i64 (k:Int)∧c3 = .slice A2 l.length c2∧wr.ownsRow w.heap.size 9 1 (.slice A2 l.length c2) l.length (l.map Value.string)∧Fr nope w wr∧n=ns.length - k)
 case atStart=>exact ⟨0,none,0,[],Nat.zero_le _,Nat.le_refl _,rfl,rfl,own_nil _ _ _ _,Fr.refl _ _,rfl⟩
 case round=>
  obtain ⟨k,A2,c2,l,hk,hlk,rfl,rfl,hown,hf,rfl⟩:=hrel
  have hsz:=hf.size
  by_cases hlt:k < ns.length
  ·obtain ⟨b,off,hAe,hbB,hbl,hc⟩:=(hN.fr hf (fun _ _ x=>x)).row (by omega)
   simp only at hAe
   subst hAe
   obtain ⟨p,hpk⟩:∃ p,ns[k]? = some p:=⟨_,List.getElem?_eq_getElem hlt⟩
   have hc:=hc k p hpk
   clear hpk hN
   have hbo:=own_base hown
   obtain ⟨kind,label,⟨lA,ln,lc⟩,lines,ins⟩:=p
   by_cases k1:kind=1
   ·subst k1
    go_wp2_with (first
     | (refine wpList_load_mid rfl _ _ rfl b (off+k*13) rfl (PN.cells ⟨1,label,⟨lA,ln,lc⟩,lines,ins⟩).toList _ hc Tryz.underlying57 rfl (by kernel_rfl) ?_)
     | (refine wpList_storeRow (b:=wr.heap.size) (cells:=PN.cells ⟨1,label,⟨lA,ln,lc⟩,lines,ins⟩) rfl rfl rfl rfl (heap_alloc_new _ _) rfl (by kernel_rfl) (by kernel_rfl) ?_;intro w2 hb2 hf2;have hcb:=cell_of_row _ _ 0 _ _ (0,0) hb2;simp only [PN.cells,List.getElem?_toArray,List.getElem?_cons_zero] at hcb))
    have hn2:Fr nope wr w2:=((Fr.refl nope wr).alloc _).then_new hf2 (fun x hx e=>by omega)
    go_roundg (ns.length - (k+1))
    case measure=>omega
    case rel=>exact ⟨k+1,none,0,[],by omega,Nat.zero_le _,by go_num,rfl,own_nil _ _ _ _,hf.then hn2,rfl⟩
   by_cases k2:kind=2
   ·subst k2
    go_wp2_with (first
     | (refine wpList_load_mid rfl _ _ rfl b (off+k*13) rfl (PN.cells ⟨2,label,⟨lA,ln,lc⟩,lines,ins⟩).toList _ hc Tryz.underlying57 rfl (by kernel_rfl) ?_)
     | (refine wpList_storeRow (b:=wr.heap.size) (cells:=PN.cells ⟨2,label,⟨lA,ln,lc⟩,lines,ins⟩) rfl rfl rfl rfl (heap_alloc_new _ _) rfl (by kernel_rfl) (by kernel_rfl) ?_;intro w2 hb2 hf2;have hcb:=cell_of_row _ _ 0 _ _ (0,0) hb2;have hcb1:=cell_of_row _ _ 1 _ _ (0,0) hb2;simp only [PN.cells,List.getElem?_toArray,List.getElem?_cons_zero,List.getElem?_cons_succ] at hcb hcb1)
     | fail)
    have hn2:Fr nope wr w2:=((Fr.refl nope wr).alloc _).then_new hf2 (fun x hx e=>by omega)
    have hown2:=own_fr hown hn2 (fun _ _ x=>x)
    have hsz2:=hn2.size
    refine (tagsListed_calls w2 A2 l c2 label (own_Sl hown2) (by omega)).mono ?_
    rintro e w3 ⟨bb,rfl,rfl⟩
    cases bb with
    | true=>
     go_wp2
     go_ret
     exact ⟨false,rfl,hf.then hn2⟩
    | false=>
     go_wp2_with (refine wpList_app (v:=.slice A2 l.length c2) rfl rfl Tryz.underlying35 infoStr rfl (by omega) rfl (own_fr hown2 ((Fr.refl nope _).alloc _) (fun _ _ x=>x)) rfl (news:=[.string label]) rfl (one_new _ _ _ _ rfl) (by simp [Value.oneCell']) (by simp only [maxLen];omega) (by omega) (by simp;omega) ?hk)
     case hk=>
      intro v4 w4 hown4 hf4 hb4
      obtain ⟨A4,c4,rfl,_,_⟩:=own_slice hown4
      clear hb4
      go_wp2
      go_roundg (ns.length - (k+1))
      case measure=>omega
      case rel=>exact ⟨k+1,A4,c4,l ++ [label],by omega,by simp;omega,by go_num,by simp,by simpa using hown4,((hf.then hn2).alloc _).then_new hf4 (fun x hx e=>by have:=hbo x e;omega),rfl⟩
   ·go_wp2_with (first
     | (refine wpList_load_mid rfl _ _ rfl b (off+k*13) rfl (PN.cells ⟨kind,label,⟨lA,ln,lc⟩,lines,ins⟩).toList _ hc Tryz.underlying57 rfl (by kernel_rfl) ?_)
     | (refine wpList_storeRow (b:=wr.heap.size) (cells:=PN.cells ⟨kind,label,⟨lA,ln,lc⟩,lines,ins⟩) rfl rfl rfl rfl (heap_alloc_new _ _) rfl (by kernel_rfl) (by kernel_rfl) ?_;intro w2 hb2 hf2;have hcb:=cell_of_row _ _ 0 _ _ (0,0) hb2;simp only [PN.cells,List.getElem?_toArray,List.getElem?_cons_zero] at hcb))
    have hn2:Fr nope wr w2:=((Fr.refl nope wr).alloc _).then_new hf2 (fun x hx e=>by omega)
    go_roundg (ns.length - (k+1))
    case measure=>omega
    case rel=>exact ⟨k+1,A2,c2,l,by omega,by omega,by go_num,rfl,own_fr hown hn2 (fun _ _ x=>x),hf.then hn2,rfl⟩
  ·go_wp2
   go_ret
   exact ⟨true,rfl,hf⟩
def PI.list (p:PI):List Value:=p.cells.toList
theorem PI.list_len (p:PI):p.list.length=10:=rfl
def InstrsAt (w:World) (A:Option Addr) (is:List PI):Prop:=Rw w 38 10 A is.length (is.flatMap PI.list)
theorem infoPI:(Tryz.prog.info? 38).map (fun i=>(i.zero,i.size,i.bytes))=some (some (.agg #[.string ⟨#[]⟩,.slice none 0 0,.slice none 0 0,.slice none 0 0,.slice none 0 0,.bool false,.bool false,.bool false,.bool false,.slice none 0 0]),10,144):=by kernel_rfl
theorem insP_take {ns:List PN} {k:Nat} {p:PN} (h:ns[k]? = some p):insP (ns.take (k+1))=insP (ns.take k) ++ (if p.kind=1 then [p.ins] else []):=by
 unfold insP
 rw [take_snoc h,List.filter_append,List.map_append]
 by_cases e:p.kind=1<;>simp [e]
def GivesInstrs (w:World) (ns:List PN) (e:Ending) (w':World):Prop:=Fr nope w w'∧∃ A c,e = .returned (.slice A (insP ns).length c)∧InstrsAt w' A (insP ns)
set_option maxHeartbeats 1000000 in
theorem Instrs_calls (w:World) (B:Nat) (s:SV) (ns:List PN) (hN:NodesAt w B s ns):Calls Tryz.prog 7 #[s.val] w (GivesInstrs w ns):=by
 obtain ⟨A,n,c⟩:=s
 obtain rfl:n=ns.length:=hN.len
 have hfew:=hN.few
 simp only [SV.val]
 go_enter Tryz.func7,Tryz.ntmps7
 go_wp2
 go_loopg [3,8] ns.length (fun n c3 c8 wr=>∃ (k:Nat) (A2:Option Addr) (c2:Nat) (is:List PI),k≤ns.length∧Hid (is=insP (ns.take k))∧is.length≤k∧c8 = .int .i64 (k:Int)∧c3 = .slice A2 is.length c2∧wr.ownsRow w.heap.size 38 10 (.slice A2 is.length c2) is.length (is.flatMap PI.list)∧Fr nope w wr∧n=ns.length - k)
 case atStart=>exact ⟨0,none,0,[],Nat.zero_le _,Lib.hid rfl,Nat.le_refl _,rfl,rfl,own_nil _ _ _ _,Fr.refl _ _,rfl⟩
 case round=>
  obtain ⟨k,A2,c2,is,hk,his,hlk,rfl,rfl,hown,hf,rfl⟩:=hrel
  have hsz:=hf.size
  by_cases hlt:k < ns.length
  ·obtain ⟨b,off,hAe,hbB,hbl,hc⟩:=(hN.fr hf (fun _ _ x=>x)).row (by omega)
   simp only at hAe
   subst hAe
   obtain ⟨p,hpk⟩:∃ p,ns[k]? = some p:=⟨_,List.getElem?_eq_getElem hlt⟩
   have hc:=hc k p hpk
   have hT:=Lib.hid (insP_take hpk)
   clear hpk hN
   have hbo:=own_base hown
   obtain ⟨kind,label,⟨lA,ln,lc⟩,lines,ins⟩:=p
   by_cases k1:kind=1
   ·subst k1
    go_wp2_with (first
     | (refine wpList_load_mid rfl _ _ rfl b (off+k*13) rfl (PN.cells ⟨1,label,⟨lA,ln,lc⟩,lines,ins⟩).toList _ hc Tryz.underlying57 rfl (by kernel_rfl) ?_)
     | (refine wpList_storeRow (b:=wr.heap.size) (cells:=PN.cells ⟨1,label,⟨lA,ln,lc⟩,lines,ins⟩) rfl rfl rfl rfl (heap_alloc_new _ _) rfl (by kernel_rfl) (by kernel_rfl) ?_;intro w2 hb2 hf2;have hcb:=cell_of_row _ _ 0 _ _ (0,0) hb2;have hr2:=PN.range hb2;have hn2:Fr nope wr w2:=((Fr.refl nope wr).alloc _).then_new hf2 (fun x hx e=>by omega);simp only [PN.cells,List.getElem?_toArray,List.getElem?_cons_zero] at hcb)
     | (refine wpList_load_mid rfl _ _ rfl wr.heap.size 3 rfl ins.cells.toList _ hr2 Tryz.underlying38 rfl (by kernel_rfl) ?_)
     | (refine wpList_build1 (l:=ins.list) rfl rfl rfl Tryz.underlying33 infoPI rfl (by omega) (by decide) ?_)
     | refine wpList_app (v:=.slice A2 is.length c2) rfl rfl Tryz.underlying33 infoPI rfl (by omega) rfl (own_fr (own_fr hown hn2 (fun _ _ x=>x)) ((Fr.refl nope _).alloc _) (fun _ _ x=>x)) rfl (news:=ins.list) ?ha ?hb ?hc ?hd ?he ?hf ?hk)
    case ha=>rfl
    case hc=>simp [PI.list,PI.cells,Value.oneCell',SV.val]
    case hd=>simp only [maxLen];omega
    case he=>omega
    case hf=>have:=hn2.size;simp;omega
    case hk=>
     intro v4 w4 hown4 hf4 hb4
     obtain ⟨A4,c4,rfl,_,_⟩:=own_slice hown4
     clear hb4
     have hsz2:=hn2.size
     go_wp2
     go_roundg (ns.length - (k+1))
     case measure=>omega
     case rel=>exact ⟨k+1,A4,c4,is ++ [ins],by omega,Lib.hid (by rw [hT.out,← his.out];rfl),by simp;omega,by go_num,by simp,by rw [List.flatMap_append,List.length_append];simpa [List.flatMap_cons] using hown4,((hf.then hn2).alloc _).then_new hf4 (fun x hx e=>by have:=hbo x e;omega),rfl⟩
   ·go_wp2_with (first
     | (refine wpList_load_mid rfl _ _ rfl b (off+k*13) rfl (PN.cells ⟨kind,label,⟨lA,ln,lc⟩,lines,ins⟩).toList _ hc Tryz.underlying57 rfl (by kernel_rfl) ?_)
     | (refine wpList_storeRow (b:=wr.heap.size) (cells:=PN.cells ⟨kind,label,⟨lA,ln,lc⟩,lines,ins⟩) rfl rfl rfl rfl (heap_alloc_new _ _) rfl (by kernel_rfl) (by kernel_rfl) ?_;intro w2 hb2 hf2;have hcb:=cell_of_row _ _ 0 _ _ (0,0) hb2;simp only [PN.cells,List.getElem?_toArray,List.getElem?_cons_zero] at hcb))
    have hn2:Fr nope wr w2:=((Fr.refl nope wr).alloc _).then_new hf2 (fun x hx e=>by omega)
    go_roundg (ns.length - (k+1))
    case measure=>omega
    case rel=>exact ⟨k+1,A2,c2,is,by omega,Lib.hid (by rw [hT.out,← his.out];simp [k1]),by omega,by go_num,rfl,own_fr hown hn2 (fun _ _ x=>x),hf.then hn2,rfl⟩
  ·rw [take_all hlt] at his
   obtain rfl:=his.out
   go_wp2
   go_ret
   exact ⟨hf,A2,c2,rfl,Rw.of_own hown⟩
end
section
open Go Go.RowKit Bth
set_option maxRecDepth 100000
theorem RegID_calls (w:World) (g:G) (ok:g.Ok):Calls Tryz.prog 24 #[g.agg] w fun e w'=>e = .returned (.int .u32 (g.id:Int))∧Fr nope w w':=by
 have hk:=ok.kind
 have hi:=ok.idx
 unfold G.id
 obtain ⟨virt,kind,idx,spec⟩:=g
 simp only [G.agg] at hk hi ⊢
 obtain ⟨n,hn⟩:∃ n,n=(if virt then 1 else 0)+kind*256+idx*65536:=⟨_,rfl⟩
 rw [← hn]
 have e1:=u32_or (kind*256) (idx*65536) (by omega) (by omega)
 have h1:kind*256 ||| idx*65536 < 2 ^ 32:=Nat.or_lt_two_pow (by omega) (by omega)
 have e2:=u32_or (kind*256 ||| idx*65536) 1 (by omega) (by omega)
 have e0:=or_parts 0 kind idx (by omega) hk
 have e3:=or_parts 1 kind idx (by omega) hk
 rw [Nat.zero_or,Nat.zero_add] at e0
 have e4:kind*256 ||| idx*65536 ||| 1=1+kind*256+idx*65536:=by rw [← e3,Nat.or_assoc 1,Nat.or_comm]
 have E0:bits .or .u32 ((kind:Int)*256) ((idx:Int)*65536)=((0+kind*256+idx*65536:Nat):Int):=by
  rw [Nat.zero_add,← e0,← e1];simp
 have E1:bits .or .u32 (bits .or .u32 ((kind:Int)*256) ((idx:Int)*65536)) 1=((1+kind*256+idx*65536:Nat):Int):=by
  rw [← e4,← e2,← e1];simp
 replace E0:=Lib.hid E0
 replace E1:=Lib.hid E1
 clear e1 e2 e0 e3 e4 h1
 cases virt with
 | false=>
  have E0:=Lib.hid (E0.out.trans (congrArg Nat.cast hn.symm))
  clear hn
  go_enter Tryz.func24,Tryz.ntmps24
  go_wp2
  go_ret
  exact ⟨congrArg (fun x=>Ending.returned (.int .u32 x)) E0.out,(Fr.refl _ _).alloc _⟩
 | true=>
  have E1:=Lib.hid (E1.out.trans (congrArg Nat.cast hn.symm))
  clear hn
  go_enter Tryz.func24,Tryz.ntmps24
  go_wp2
  go_ret
  exact ⟨congrArg (fun x=>Ending.returned (.int .u32 x)) E1.out,(Fr.refl _ _).alloc _⟩
theorem whole_calls (w:World) (g:G):Calls Tryz.prog 37 #[g.agg] w (GivesB w (wholeG g)):=by
 have eB:∀ a b:Nat,((a:Int) == (b:Int))=decide (a=b):=fun a b=>by
  by_cases h:a=b
  ·subst h;simp
  ·have:(a:Int)≠(b:Int):=by omega
   simp [h,this]
 obtain ⟨virt,kind,idx,spec⟩:=g
 simp only [G.agg]
 by_cases k1:kind=1
 ·subst k1
  by_cases q1:spec=1
  ·subst q1
   go_enter Tryz.func37,Tryz.ntmps37
   go_wp2
   go_ret
   show Ending.returned (Value.bool _)=_∧_
   refine ⟨congrArg (fun b=>Ending.returned (Value.bool b)) ?_,(Fr.refl _ _).alloc _⟩
   first | rfl | simp [wholeG]
  have q1':(spec:Int)≠1:=by omega
  by_cases q3:spec=3
  ·subst q3
   go_enter Tryz.func37,Tryz.ntmps37
   go_wp2
   go_ret
   show Ending.returned (Value.bool _)=_∧_
   refine ⟨congrArg (fun b=>Ending.returned (Value.bool b)) ?_,(Fr.refl _ _).alloc _⟩
   first | rfl | simp [wholeG]
  have q3':(spec:Int)≠3:=by omega
  by_cases q7:spec=7
  ·subst q7
   go_enter Tryz.func37,Tryz.ntmps37
   go_wp2
   go_ret
   show Ending.returned (Value.bool _)=_∧_
   refine ⟨congrArg (fun b=>Ending.returned (Value.bool b)) ?_,(Fr.refl _ _).alloc _⟩
   first | rfl | simp [wholeG]
  have q7':(spec:Int)≠7:=by omega
  have e1:((spec:Int) == 1)=decide (spec=1):=eB spec 1
  have e3:((spec:Int) == 3)=decide (spec=3):=eB spec 3
  have e7:((spec:Int) == 7)=decide (spec=7):=eB spec 7
  have e15:((spec:Int) == 15)=decide (spec=15):=eB spec 15
  go_enter Tryz.func37,Tryz.ntmps37
  go_wp2
  go_ret
  show Ending.returned (Value.bool _)=_∧_
  refine ⟨congrArg (fun b=>Ending.returned (Value.bool b)) ?_,(Fr.refl _ _).alloc _⟩
  simp [wholeG,q1,q3,q7]
 have k1':(kind:Int)≠1:=by omega
 by_cases k2:kind=2
 ·subst k2
  by_cases q31:spec=31
  ·subst q31
   go_enter Tryz.func37,Tryz.ntmps37
   go_wp2
   go_ret
   show Ending.returned (Value.bool _)=_∧_
   refine ⟨congrArg (fun b=>Ending.returned (Value.bool b)) ?_,(Fr.refl _ _).alloc _⟩
   first | rfl | simp [wholeG]
  have q31':(spec:Int)≠31:=by omega
  by_cases q63:spec=63
  ·subst q63
   go_enter Tryz.func37,Tryz.ntmps37
   go_wp2
   go_ret
   show Ending.returned (Value.bool _)=_∧_
   refine ⟨congrArg (fun b=>Ending.returned (Value.bool b)) ?_,(Fr.refl _ _).alloc _⟩
   first | rfl | simp [wholeG]
  have q63':(spec:Int)≠63:=by omega
  have e31:((spec:Int) == 31)=decide (spec=31):=eB spec 31
  have e63:((spec:Int) == 63)=decide (spec=63):=eB spec 63
  have e127:((spec:Int) == 127)=decide (spec=127):=eB spec 127
  go_enter Tryz.func37,Tryz.ntmps37
  go_wp2
  go_ret
  show Ending.returned (Value.bool _)=_∧_
  refine ⟨congrArg (fun b=>Ending.returned (Value.bool b)) ?_,(Fr.refl _ _).alloc _⟩
  simp [wholeG,q31,q63]
 have k2':(kind:Int)≠2:=by omega
 by_cases k3:kind=3
 ·subst k3
  have e15:((spec:Int) == 15)=decide (spec=15):=eB spec 15
  go_enter Tryz.func37,Tryz.ntmps37
  go_wp2
  go_ret
  show Ending.returned (Value.bool _)=_∧_
  refine ⟨congrArg (fun b=>Ending.returned (Value.bool b)) ?_,(Fr.refl _ _).alloc _⟩
  simp [wholeG]
 have k3':(kind:Int)≠3:=by omega
 go_enter Tryz.func37,Tryz.ntmps37
 go_wp2
 go_ret
 show Ending.returned (Value.bool _)=_∧_
 refine ⟨congrArg (fun b=>Ending.returned (Value.bool b)) ?_,(Fr.refl _ _).alloc _⟩
 simp [wholeG,k1,k2,k3]
def GivesGs (w:World) (gs:List G) (e:Ending) (w':World):Prop:=Fr nope w w'∧∃ A c,e = .returned (.slice A gs.length c)∧w'.ownsRow w.heap.size 40 4 (.slice A gs.length c) gs.length (gsCells gs)
theorem infoRg:(Tryz.prog.info? 40).map (fun i=>(i.zero,i.size,i.bytes))=some (some (.agg #[.bool false,.int .u8 0,.int .u16 0,.int .u16 0]),4,6):=by kernel_rfl
end
section
open Go Go.RowKit Bth
set_option maxRecDepth 100000
set_option maxHeartbeats 2000000 in
theorem opRegisters_calls (w:World) (p:PO) (hok:okP p=true):Calls Tryz.prog 19 #[p.agg] w (GivesGs w p.gs):=by
 have hOK:=fun W=>OpOK_calls W p
 unfold GivesB at hOK
 rw [hok] at hOK
 clear hok
 unfold PO.gs
 obtain ⟨kind,rg,hasBase,hasIndex,base,index,scale,disp,sym,static,con,label,rel⟩:=p
 simp only [PO.agg] at hOK ⊢
 by_cases h1:kind=1
 ·subst h1
  rw [if_pos rfl]
  simp only [PO.cells] at hOK ⊢
  go_enter Tryz.func19,Tryz.ntmps19
  go_wp2_with (refine wpList_loadRow (b:=w.heap.size) rfl rfl rfl (heap_alloc_new w _) Tryz.underlying45 rfl (by kernel_rfl) ?_)
  refine (hOK _).mono ?_
  rintro e w1 ⟨rfl,hf1⟩
  have hb1:=hf1.heap (heap_alloc_new w _) (fun x=>x)
  have hc1:=fun j=>cell_of_row _ _ j _ _ (0,0) hb1
  have hn1:Fr nope w w1:=((Fr.refl nope w).alloc _).then hf1
  have hs1:=hn1.size
  go_wp2_with (first
   | (refine wpList_build1 (l:=G.cells rg) rfl rfl rfl Tryz.underlying46 infoRg rfl (by omega) (by decide) ?_)
   | refine wpList_app (v:=.slice none 0 0) rfl rfl Tryz.underlying46 infoRg rfl (by omega) rfl (own_fr (own_nil w1 w.heap.size _ _) ((Fr.refl nope _).alloc _) (fun _ _ x=>x)) rfl (news:=G.cells rg) ?ha ?hb ?hc ?hd ?he ?hf ?hk)
  case ha=>rfl
  case hb=>exact fun _=>cells_new _ _ _ _ (by simp)
  case hc=>simp [G.cells,Value.oneCell']
  case hd=>simp [maxLen]
  case he=>simp
  case hf=>simp;omega
  case hk=>
   intro v2 w2 hown2 hf2 hb2
   obtain ⟨A2,c2,rfl,_,_⟩:=own_slice hown2
   clear hb2
   go_wp2
   go_ret
   exact ⟨(hn1.alloc _).then (hf2.mono (fun x _ h=>by simp [Value.ownBlock] at h)),A2,c2,rfl,hown2⟩
 by_cases h2:kind=2
 ·subst h2
  rw [if_neg (by decide),if_pos rfl]
  cases hasBase with
  | false=>
   cases hasIndex with
   | false=>
    simp only [PO.cells] at hOK ⊢
    go_enter Tryz.func19,Tryz.ntmps19
    go_wp2_with (refine wpList_loadRow (b:=w.heap.size) rfl rfl rfl (heap_alloc_new w _) Tryz.underlying45 rfl (by kernel_rfl) ?_)
    refine (hOK _).mono ?_
    rintro e w1 ⟨rfl,hf1⟩
    have hb1:=hf1.heap (heap_alloc_new w _) (fun x=>x)
    have hc1:=fun j=>cell_of_row _ _ j _ _ (0,0) hb1
    have hn1:Fr nope w w1:=((Fr.refl nope w).alloc _).then hf1
    have hs1:=hn1.size
    go_wp2
    go_ret
    exact ⟨hn1,none,0,rfl,own_nil _ _ _ _⟩
   | true=>
    simp only [PO.cells] at hOK ⊢
    go_enter Tryz.func19,Tryz.ntmps19
    go_wp2_with (refine wpList_loadRow (b:=w.heap.size) rfl rfl rfl (heap_alloc_new w _) Tryz.underlying45 rfl (by kernel_rfl) ?_)
    refine (hOK _).mono ?_
    rintro e w1 ⟨rfl,hf1⟩
    have hb1:=hf1.heap (heap_alloc_new w _) (fun x=>x)
    have hc1:=fun j=>cell_of_row _ _ j _ _ (0,0) hb1
    have hn1:Fr nope w w1:=((Fr.refl nope w).alloc _).then hf1
    have hs1:=hn1.size
    go_wp2_with (first
     | (refine wpList_build1 (l:=G.cells index) rfl rfl rfl Tryz.underlying46 infoRg rfl (by omega) (by decide) ?_)
     | refine wpList_app (v:=.slice none 0 0) rfl rfl Tryz.underlying46 infoRg rfl (by omega) rfl (own_fr (own_nil w1 w.heap.size _ _) ((Fr.refl nope _).alloc _) (fun _ _ x=>x)) rfl (news:=G.cells index) ?ha ?hb ?hc ?hd ?he ?hf ?hk)
    case ha=>rfl
    case hb=>exact fun _=>cells_new _ _ _ _ (by simp)
    case hc=>simp [G.cells,Value.oneCell']
    case hd=>simp [maxLen]
    case he=>simp
    case hf=>simp;omega
    case hk=>
     intro v2 w2 hown2 hf2 hb2
     obtain ⟨A2,c2,rfl,_,_⟩:=own_slice hown2
     clear hb2
     go_wp2
     go_ret
     exact ⟨(hn1.alloc _).then (hf2.mono (fun x _ h=>by simp [Value.ownBlock] at h)),A2,c2,rfl,hown2⟩
  | true=>
   cases hasIndex with
   | false=>
    simp only [PO.cells] at hOK ⊢
    go_enter Tryz.func19,Tryz.ntmps19
    go_wp2_with (refine wpList_loadRow (b:=w.heap.size) rfl rfl rfl (heap_alloc_new w _) Tryz.underlying45 rfl (by kernel_rfl) ?_)
    refine (hOK _).mono ?_
    rintro e w1 ⟨rfl,hf1⟩
    have hb1:=hf1.heap (heap_alloc_new w _) (fun x=>x)
    have hc1:=fun j=>cell_of_row _ _ j _ _ (0,0) hb1
    have hn1:Fr nope w w1:=((Fr.refl nope w).alloc _).then hf1
    have hs1:=hn1.size
    go_wp2_with (first
     | (refine wpList_build1 (l:=G.cells base) rfl rfl rfl Tryz.underlying46 infoRg rfl (by omega) (by decide) ?_)
     | refine wpList_app (v:=.slice none 0 0) rfl rfl Tryz.underlying46 infoRg rfl (by omega) rfl (own_fr (own_nil w1 w.heap.size _ _) ((Fr.refl nope _).alloc _) (fun _ _ x=>x)) rfl (news:=G.cells base) ?ha ?hb ?hc ?hd ?he ?hf ?hk)
    case ha=>rfl
    case hb=>exact fun _=>cells_new _ _ _ _ (by simp)
    case hc=>simp [G.cells,Value.oneCell']
    case hd=>simp [maxLen]
    case he=>simp
    case hf=>simp;omega
    case hk=>
     intro v2 w2 hown2 hf2 hb2
     obtain ⟨A2,c2,rfl,_,_⟩:=own_slice hown2
     clear hb2
     have hb3:=((Fr.refl nope w1).alloc _ |>.then (hf2.mono (fun x _ h=>by simp [Value.ownBlock] at h):Fr nope _ _)).heap hb1 (fun x=>x)
     have hc3:=fun j=>cell_of_row _ _ j _ _ (0,0) hb3
     clear hc1
     go_wp2
     go_ret
     exact ⟨(hn1.alloc _).then (hf2.mono (fun x _ h=>by simp [Value.ownBlock] at h)),A2,c2,rfl,hown2⟩
   | true=>
    simp only [PO.cells] at hOK ⊢
    go_enter Tryz.func19,Tryz.ntmps19
    go_wp2_with (refine wpList_loadRow (b:=w.heap.size) rfl rfl rfl (heap_alloc_new w _) Tryz.underlying45 rfl (by kernel_rfl) ?_)
    refine (hOK _).mono ?_
    rintro e w1 ⟨rfl,hf1⟩
    have hb1:=hf1.heap (heap_alloc_new w _) (fun x=>x)
    have hc1:=fun j=>cell_of_row _ _ j _ _ (0,0) hb1
    have hn1:Fr nope w w1:=((Fr.refl nope w).alloc _).then hf1
    have hs1:=hn1.size
    go_wp2_with (first
     | (refine wpList_build1 (l:=G.cells base) rfl rfl rfl Tryz.underlying46 infoRg rfl (by omega) (by decide) ?_)
     | refine wpList_app (v:=.slice none 0 0) rfl rfl Tryz.underlying46 infoRg rfl (by omega) rfl (own_fr (own_nil w1 w.heap.size _ _) ((Fr.refl nope _).alloc _) (fun _ _ x=>x)) rfl (news:=G.cells base) ?ha ?hb ?hc ?hd ?he ?hf ?hk)
    case ha=>rfl
    case hb=>exact fun _=>cells_new _ _ _ _ (by simp)
    case hc=>simp [G.cells,Value.oneCell']
    case hd=>simp [maxLen]
    case he=>simp
    case hf=>simp;omega
    case hk=>
     intro v2 w2 hown2 hf2 hb2
     obtain ⟨A2,c2,rfl,_,_⟩:=own_slice hown2
     clear hb2
     have hn2:=(hn1.alloc _).then (hf2.mono (fun x _ h=>by simp [Value.ownBlock] at h):Fr nope _ _)
     have hb3:=((Fr.refl nope w1).alloc _ |>.then (hf2.mono (fun x _ h=>by simp [Value.ownBlock] at h):Fr nope _ _)).heap hb1 (fun x=>x)
     have hc3:=fun j=>cell_of_row _ _ j _ _ (0,0) hb3
     have hs2:=hn2.size
     clear hc1
     go_wp2_with (first
      | (refine wpList_build1 (l:=G.cells index) rfl rfl rfl Tryz.underlying46 infoRg rfl (by omega) (by decide) ?_)
      | refine wpList_app (v:=.slice A2 1 c2) rfl rfl Tryz.underlying46 infoRg rfl (by omega) rfl (own_fr hown2 ((Fr.refl nope _).alloc _) (fun _ _ x=>x)) rfl (news:=G.cells index) ?ha ?hb ?hc ?hd ?he ?hf ?hm)
     case ha=>rfl
     case hb=>exact fun _=>cells_new _ _ _ _ (by simp)
     case hc=>simp [G.cells,Value.oneCell']
     case hd=>simp [maxLen]
     case he=>simp
     case hf=>simp;omega
     case hm=>
      intro v4 w4 hown4 hf4 hb4
      obtain ⟨A4,c4,rfl,_,_⟩:=own_slice hown4
      clear hb4
      have hbo:=own_base hown2
      go_wp2
      go_ret
      exact ⟨(hn2.alloc _).then_new hf4 (fun x hx e=>by have:=hbo x e;omega),A4,c4,rfl,hown4⟩
 rw [if_neg h1,if_neg h2]
 simp only [PO.cells] at hOK ⊢
 go_enter Tryz.func19,Tryz.ntmps19
 go_wp2_with (refine wpList_loadRow (b:=w.heap.size) rfl rfl rfl (heap_alloc_new w _) Tryz.underlying45 rfl (by kernel_rfl) ?_)
 refine (hOK _).mono ?_
 rintro e w1 ⟨rfl,hf1⟩
 have hb1:=hf1.heap (heap_alloc_new w _) (fun x=>x)
 have hc1:=fun j=>cell_of_row _ _ j _ _ (0,0) hb1
 have hn1:Fr nope w w1:=((Fr.refl nope w).alloc _).then hf1
 have hs1:=hn1.size
 go_wp2
 go_ret
 exact ⟨hn1,none,0,rfl,own_nil _ _ _ _⟩
end
section
open Go Go.RowKit Bth
set_option maxRecDepth 100000
def u0:Oper:={ dst:=some 4,op:=Op.load 45 (Operand.tmp 1),type:=45,pos := "operand.go:173",after:=#[],guard:=none }
def u1:Oper:={ dst:=some 5,op:=Op.call { callee:=Callee.value (Operand.func 19),args:=#[Operand.tmp 4],argTypes:=#[45] },type:=46,pos := "operand.go:173",after:=#[{ on:=0,ground:=Ground.data }],guard:=none }
def u2:Oper:={ dst:=some 6,op:=Op.load 45 (Operand.tmp 1),type:=45,pos := "operand.go:173",after:=#[],guard:=none }
def u3:Oper:={ dst:=some 7,op:=Op.call { callee:=Callee.value (Operand.func 20),args:=#[Operand.tmp 6],argTypes:=#[45] },type:=4,pos := "operand.go:173",after:=#[{ on:=2,ground:=Ground.data },{ on:=1,ground:=Ground.chain }],guard:=none }
def u4:Oper:={ dst:=some 2,op:=Op.assign (Operand.tmp 5),type:=46,pos := "operand.go:173",after:=#[{ on:=1,ground:=Ground.data },{ on:=3,ground:=Ground.chain },{ on:=0,ground:=Ground.phase },{ on:=1,ground:=Ground.phase },{ on:=2,ground:=Ground.textOnly Departure.lateStores },{ on:=3,ground:=Ground.textOnly Departure.lateStoresUnsure }],guard:=none }
def u5:Oper:={ dst:=some 3,op:=Op.assign (Operand.tmp 7),type:=4,pos := "operand.go:173",after:=#[{ on:=3,ground:=Ground.data },{ on:=4,ground:=Ground.chain },{ on:=0,ground:=Ground.phase },{ on:=1,ground:=Ground.phase },{ on:=2,ground:=Ground.phase },{ on:=3,ground:=Ground.phase },{ on:=4,ground:=Ground.phase }],guard:=none }
theorem PO.cells_len (p:PO):p.cells.size=24:=rfl
def regU:Array Oper:=#[u0,u1,u2,u3,u4,u5]
theorem regionU {a0:Act} {w:World} {Q:Exit→Act→World→Prop} {S:World→Prop} {b:Nat} {cs:List Value} {R1:Value→World→Prop} {R2:Value→Value→World→Prop}
  (z0:a0.tmps.size=8) (q0:a0.defers=[]) (f1:a0.eval (.tmp 1) = .pointer (some ⟨b,0,none⟩)) (hQ:∀ d v c a w,Q (.panic c) (a.put d v) w→Q (.panic c) a w)
  (hS0:S w.drew) (hr:∀ w,S w→w.rangeAt b 0 cs) (hl:(Tryz.prog.info? 45).map (·.size)=some cs.length)
  (h1:Calls Tryz.prog 19 #[.agg cs.toArray] w.drew fun e w'=>∃ x,e = .returned x∧R1 x w'∧S w')
  (h2:∀ x w1,R1 x w1→Calls Tryz.prog 20 #[.agg cs.toArray] w1 fun e w'=>∃ y,e = .returned y∧R2 x y w'∧S w')
  (h:∀ x y w2 a,R2 x y w2→a.eval (.tmp 2)=x→a.eval (.tmp 3)=y→a.defers=[]→Q .normal a w2):(Code.region 1 regU true).wp Tryz.prog Q a0 w:=by
 refine wp_region_held_drew (S:=S) (by kernel_rfl) hS0 (fun hS0=>?_)
 refine wpAnyH_take (i:=0) (oi:=u0) (v:=.agg cs.toArray) rfl (by kernel_rfl) (by kernel_rfl) (by kernel_rfl) (hQ _ _) (yieldsIf_load_mid (by rfl) _ _ rfl b 0 f1 cs _ hr Tryz.underlying45 rfl hl) hS0 ?_
 generalize e0:a0.put (u0).dst (.agg cs.toArray)=a1
 have z1:=put_sz e0 z0
 have q1:=put_df e0 q0
 have f1:=put_keep e0 (d:=4) rfl (by decide) f1
 have f4:=put_new e0 (d:=4) rfl (by rw [z0];decide)
 clear e0 z0 q0
 refine wpAnyH_take (i:=2) (oi:=u2) (v:=.agg cs.toArray) rfl (by kernel_rfl) (by kernel_rfl) (by kernel_rfl) (hQ _ _) (yieldsIf_load_mid (by rfl) _ _ rfl b 0 f1 cs _ hr Tryz.underlying45 rfl hl) hS0 ?_
 generalize e1:a1.put (u2).dst (.agg cs.toArray)=a2
 have z2:=put_sz e1 z1
 have q2:=put_df e1 q1
 have f4:=put_keep e1 (d:=6) rfl (by decide) f4
 have f6:=put_new e1 (d:=6) rfl (by rw [z1];decide)
 clear e1 z1 q1 f1
 refine wpAnyH_ready (rs:=[1]) (by kernel_rfl) (by simp) (AllReadyH.cons (o:=u1) rfl (fun K hK=>?_) AllReadyH.nil)
 rw [if_pos (show Region.wanted u1 _=true from rfl)]
 refine wp_callU rfl Tryz.func19 (by kernel_rfl) (by kernel_rfl) ?_
 simp only [List.map_toArray,List.map_cons,List.map_nil,f4]
 refine h1.mono ?_
 rintro e w1 ⟨x,rfl,r1,s1⟩
 refine hK.out _ _ s1 (fun hS1=>?_)
 generalize e2:a2.put (u1).dst x=a3
 have z3:=put_sz e2 z2
 have q3:=put_df e2 q2
 have f6:=put_keep e2 (d:=5) rfl (by decide) f6
 have f5:=put_new e2 (d:=5) rfl (by rw [z2];decide)
 clear e2 z2 q2 f4
 refine wpAnyH_ready (rs:=[3]) (by kernel_rfl) (by simp) (AllReadyH.cons (o:=u3) rfl (fun K hK=>?_) AllReadyH.nil)
 rw [if_pos (show Region.wanted u3 _=true from rfl)]
 refine wp_callU rfl Tryz.func20 (by kernel_rfl) (by kernel_rfl) ?_
 simp only [List.map_toArray,List.map_cons,List.map_nil,f6]
 refine (h2 x w1 r1).mono ?_
 rintro e w2 ⟨y,rfl,r2,s2⟩
 refine hK.out _ _ s2 (fun hS2=>?_)
 generalize e3:a3.put (u3).dst y=a4
 have z4:=put_sz e3 z3
 have q4:=put_df e3 q3
 have f5:=put_keep e3 (d:=7) rfl (by decide) f5
 have f7:=put_new e3 (d:=7) rfl (by rw [z3];decide)
 clear e3 z3 q3 f6
 refine wpAnyH_take (i:=4) (oi:=u4) (v:=x) rfl (by kernel_rfl) (by kernel_rfl) (by kernel_rfl) (hQ _ _) (Or.inl ⟨rfl,fun w hw=>by simp [execOp,u4,f5]⟩) hS2 ?_
 generalize e4:a4.put (u4).dst x=a5
 have z5:=put_sz e4 z4
 have q5:=put_df e4 q4
 have f7:=put_keep e4 (d:=2) rfl (by decide) f7
 have f2:=put_new e4 (d:=2) rfl (by rw [z4];decide)
 clear e4 z4 q4 f5
 refine wpAnyH_take (i:=5) (oi:=u5) (v:=y) rfl (by kernel_rfl) (by kernel_rfl) (by kernel_rfl) (hQ _ _) (Or.inl ⟨rfl,fun w hw=>by simp [execOp,u5,f7]⟩) hS2 ?_
 generalize e5:a5.put (u5).dst y=a6
 have q6:=put_df e5 q5
 have f2:=put_keep e5 (d:=3) rfl (by decide) f2
 have f3:=put_new e5 (d:=3) rfl (by rw [z5];decide)
 exact wpAnyH_done (by kernel_rfl) (h _ _ _ _ r2 f2 f3 q6) _
set_option maxHeartbeats 1000000 in
theorem OpRegisters_calls (w:World) (p:PO) (hok:okP p=true):Calls Tryz.prog 8 #[p.agg] w fun e w'=>Fr nope w w'∧∃ A c,e = .returned (.tuple #[.slice A p.gs.length c,.bool true])∧w'.ownsRow w.heap.size 40 4 (.slice A p.gs.length c) p.gs.length (gsCells p.gs):=by
 have hG:=fun W=>opRegisters_calls W p hok
 have hO:=fun W=>OpOK_calls W p
 unfold GivesB at hO
 rw [hok] at hO
 have hlen:=p.cells_len
 unfold PO.agg at hG hO ⊢
 generalize p.cells=cs at hG hO hlen ⊢
 go_enter Tryz.func8,Tryz.ntmps8
 go_wp2_with fail
 rename_i Q' K hK
 obtain ⟨w0,hw0⟩:∃ w0,w0=w.alloc (.cells cs 45):=⟨_,rfl⟩
 have hn0:Fr nope w w0:=by rw [hw0];exact (Fr.refl _ _).alloc _
 have hb0:w0.heap[w.heap.size]? = some (.cells cs 45 (0,0)):=by rw [hw0];exact heap_alloc_new w _
 have hl0:w.heap.size≤w0.heap.size:=hn0.size
 rw [← hw0]
 clear hw0
 have hd:Fr nope w0 w0.drew:=(Fr.refl nope w0).drew
 refine regionU (S:=fun w'=>Fr nope w0 w') (b:=w.heap.size) (cs:=cs.toList) (R1:=fun x w'=>Fr nope w0 w'∧∃ A c,x = .slice A p.gs.length c∧w'.ownsRow w.heap.size 40 4 (.slice A p.gs.length c) p.gs.length (gsCells p.gs))
  (R2:=fun x y w'=>y = .bool true∧Fr nope w0 w'∧∃ A c,x = .slice A p.gs.length c∧w'.ownsRow w.heap.size 40 4 (.slice A p.gs.length c) p.gs.length (gsCells p.gs))
  rfl rfl rfl (fun d _ _ _ _ h=>by cases d<;>simp [Q',Exit.then,bodyPost] at h) hd (fun w' hf j v hv=>?_) (by rw [Array.length_toList,hlen];kernel_rfl) ?_ ?_ ?_
 ·rw [Nat.zero_add,cell_of_row w' _ j _ _ (0,0) (hf.heap hb0 (fun x=>x))]
  simpa using hv
 ·refine (hG w0.drew).mono ?_
  rintro e w1 ⟨hf1,A1,c1,rfl,hown1⟩
  have h1:=hd.then hf1
  exact ⟨_,rfl,⟨h1,A1,c1,rfl,own_le hown1 (Nat.le_trans hl0 hd.size)⟩,h1⟩
 ·rintro x w1 ⟨hf1,A1,c1,rfl,hown1⟩
  refine (hO w1).mono ?_
  rintro e w2 ⟨rfl,hf2⟩
  exact ⟨_,rfl,⟨rfl,hf1.then hf2,A1,c1,rfl,own_fr hown1 hf2 (fun _ _ x=>x)⟩,hf1.then hf2⟩
 ·rintro x y w2 a ⟨rfl,hf2,A1,c1,rfl,hown2⟩ f2 f3 q
  refine hK _ _ (wp_ret ?_)
  have hr:=results_tmp2 (fn:=Tryz.f8) (t:=2) (u:=3) rfl a.tmps Tryz.prog w2
  rw [show a.tmps.getD 2 undef=_ from f2,show a.tmps.getD 3 undef=_ from f3] at hr
  exact bodyPost_ret hr q ⟨hn0.then hf2,A1,c1,rfl,hown2⟩
end
end Go.Proofs.YtpbeedabmjmdmaaGreatDoor
