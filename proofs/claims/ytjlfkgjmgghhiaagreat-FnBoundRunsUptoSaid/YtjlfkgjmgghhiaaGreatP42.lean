/- Part of the proof of a statement about pub-berthage: what its texts have in common. -/
import Derived.BigQuiet
import Derived.Deep.RegionHeld3
import Derived.Test.YtjlfkgjmgghhiaaGreatP30
import Derived.Test.YtjlfkgjmgghhiaaGreatP41
namespace Go.Proofs.YtjlfkgjmgghhiaaGreat
section
open Go Go.RowKit Bth
set_option maxRecDepth 100000
theorem mDis_take {s:TL} {k:Nat} {x:Nat × Nat} (id m:Nat) (h:s[k]? = some x):mDis (s.take (k+1)) id m=mDis (s.take k) id m ++ (if (mDis1 id m x).2=0 then [] else [mDis1 id m x]):=by
 unfold mDis
 rw [take_snoc h,List.map_append,List.filter_append]
 by_cases e:(mDis1 id m x).2=0<;>simp [e]
set_option maxHeartbeats 1000000 in
theorem maskDiscard_calls (w:World) (A:Option Addr) (c:Nat) (s:TL) (id m:Nat) (h:TlAt w A s) (hs:Tidy s) (hm:m < 65536):Calls Tryz.prog 160 #[.slice A s.length c,.int .u32 (id:Int),.int .u16 (m:Int)] w (GivesTL w (mDis s id m)):=by
 have hsl:=hs.len
 go_enter Tryz.func160,Tryz.ntmps160
 go_wp2
 go_loopg [7,8] s.length (fun n c7 c8 wr=>∃ (k:Nat) (out:TL) (A2:Option Addr) (c2:Nat),k≤s.length∧out.length≤k∧Hid (out=mDis (s.take k) id m)∧c8 = .int .i64 (k:Int)∧c7 = .slice A2 out.length c2∧wr.ownsRow w.heap.size 77 2 (.slice A2 out.length c2) out.length (tlCells out)∧Fr nope w wr∧n=s.length - k)
 case atStart=>exact ⟨0,[],none,0,Nat.zero_le _,by simp,Lib.hid (by simp [mDis]),rfl,rfl,own_nil _ _ _ _,Fr.refl _ _,rfl⟩
 case round=>
  obtain ⟨k,out,A2,c2,hk,hol,hit,rfl,rfl,hown,hf,rfl⟩:=hrel
  have hsz:=hf.size
  have hbo:=own_base hown
  by_cases hlt:k < s.length
  ·obtain ⟨⟨x1,x2⟩,hx⟩:∃ x,s[k]? = some x:=⟨_,List.getElem?_eq_getElem hlt⟩
   obtain ⟨b,off,hAe,hbl,hr⟩:=h.at_ tlV_len hx
   subst hAe
   have hc0:wr.cell? ⟨b,off+k*2,none⟩=some (.int .u32 (x1:Int)):=hf.cell (hr 0 _ rfl) (fun x=>x)
   have hc1:wr.cell? ⟨b,off+k*2+1,none⟩=some (.int .u16 (x2:Int)):=hf.cell (hr 1 _ rfl) (fun x=>x)
   have hx2:=(hs.bound _ (List.mem_of_getElem? hx)).2
   have hand:=Lib.hid (u16_andNot x2 m hx2.1 hm)
   have hD:=mDis_take id m hx
   have hblw:b < wr.heap.size:=by omega
   clear hr hx
   by_cases heq:x1=id
   ·subst heq
    have e1:mDis1 x1 m (x1,x2)=(x1,andn x2 m):=by simp [mDis1]
    rw [e1] at hD
    by_cases h0:andn x2 m=0
    ·rw [if_pos h0,List.append_nil] at hD
     replace hD:=Lib.hid hD
     have h00:bits .andNot .u16 (x2:Int) (m:Int)=0:=by rw [hand.out,h0];rfl
     clear h0
     go_wp2
     go_roundg (s.length - (k+1))
     case measure=>omega
     case rel=>exact ⟨k+1,out,A2,c2,by omega,by omega,Lib.hid (by rw [hD.out,← hit.out]),by go_num,rfl,own_fr hown ((Fr.refl nope _).alloc _) (fun _ _ x=>x),hf.alloc _,rfl⟩
    ·rw [if_neg h0] at hD
     replace hD:=Lib.hid hD
     obtain ⟨y,hy⟩:∃ y,y=andn x2 m:=⟨_,rfl⟩
     rw [← hy] at hD h0 hand
     have h00:bits .andNot .u16 (x2:Int) (m:Int)=(y:Int):=hand.out
     have hy0:(y:Int)≠0:=by omega
     have hy1:((y:Int) == 0)=false:=by simp;omega
     clear h0 hy e1 hand
     go_wp2_with (first
      | (refine wpList_build1 (l:=tlV (x1,y)) rfl rfl rfl Tryz.underlying49 infoLv rfl (by omega) (by decide) ?_)
      | refine wpList_app (v:=.slice A2 out.length c2) rfl rfl Tryz.underlying49 infoLv rfl (by omega) rfl (own_fr (own_fr hown ((Fr.refl nope _).alloc _) (fun _ _ x=>x)) ((Fr.refl nope _).alloc _) (fun _ _ x=>x)) rfl (news:=tlV (x1,y)) rfl (fun _=>cells_new _ _ _ _ (by simp)) (by simp [tlV,Value.oneCell']) (by simp only [maxLen];omega) (by omega) (by simp;omega) ?hk)
     case hk=>
      intro v4 w4 hown4 hf4 hb4
      obtain ⟨A4,c4,rfl,_,_⟩:=own_slice hown4
      clear hb4
      go_wp2
      go_roundg (s.length - (k+1))
      case measure=>omega
      case rel=>exact ⟨k+1,out ++ [(x1,y)],A4,c4,by omega,by simp;omega,Lib.hid (by rw [hD.out,← hit.out]),by go_num,by simp,by rw [tlCells_app,List.length_append];simpa [tlCells] using hown4,((hf.alloc _).alloc _).then_new hf4 (fun x hx e=>by have:=hbo x e;omega),rfl⟩
   ·have e1:mDis1 id m (x1,x2)=(x1,x2):=by simp [mDis1,heq]
    rw [e1,if_neg hx2.2] at hD
    replace hD:=Lib.hid hD
    have heq':(x1:Int)≠(id:Int):=by omega
    have heq2:((x1:Int) == (id:Int))=false:=by simp;omega
    have hy0:(x2:Int)≠0:=by have:=hx2.2;omega
    have hy1:((x2:Int) == 0)=false:=by simp;have:=hx2.2;omega
    clear hx2 e1 heq hand
    go_wp2_with (first
     | (refine wpList_build1 (l:=tlV (x1,x2)) rfl rfl rfl Tryz.underlying49 infoLv rfl (by omega) (by decide) ?_)
     | refine wpList_app (v:=.slice A2 out.length c2) rfl rfl Tryz.underlying49 infoLv rfl (by omega) rfl (own_fr (own_fr hown ((Fr.refl nope _).alloc _) (fun _ _ x=>x)) ((Fr.refl nope _).alloc _) (fun _ _ x=>x)) rfl (news:=tlV (x1,x2)) rfl (fun _=>cells_new _ _ _ _ (by simp)) (by simp [tlV,Value.oneCell']) (by simp only [maxLen];omega) (by omega) (by simp;omega) ?hk)
    case hk=>
     intro v4 w4 hown4 hf4 hb4
     obtain ⟨A4,c4,rfl,_,_⟩:=own_slice hown4
     clear hb4
     go_wp2
     go_roundg (s.length - (k+1))
     case measure=>omega
     case rel=>exact ⟨k+1,out ++ [(x1,x2)],A4,c4,by omega,by simp;omega,Lib.hid (by rw [hD.out,← hit.out]),by go_num,by simp,by rw [tlCells_app,List.length_append];simpa [tlCells] using hown4,((hf.alloc _).alloc _).then_new hf4 (fun x hx e=>by have:=hbo x e;omega),rfl⟩
  ·rw [take_all hlt] at hit
   obtain rfl:=hit.out
   go_wp2
   go_ret
   exact ⟨hf,A2,c2,rfl,Rw.of_own hown⟩
theorem SameLive_calls (w:World) (A B:Option Addr) (c d:Nat) (s t:TL) (h:TlAt w A s) (k:TlAt w B t) (hs:s.length≤4294967296):Calls Tryz.prog 119 #[.slice A s.length c,.slice B t.length d] w fun e w'=>e = .returned (.bool (decide (s=t)))∧Fr nope w w':=by
 by_cases hl:s.length=t.length
 ·rw [← hl]
  go_enter Tryz.func119,Tryz.ntmps119
  go_wp2
  go_loopg [5] s.length (fun n c5 wr=>∃ k:Nat,k≤s.length∧Hid (s.take k=t.take k)∧c5 = .int .i64 (k:Int)∧Fr nope w wr∧n=s.length - k)
  case atStart=>exact ⟨0,Nat.zero_le _,Lib.hid (by simp),rfl,Fr.refl _ _,rfl⟩
  case round=>
   obtain ⟨k0,hk,heq,rfl,hf,rfl⟩:=hrel
   by_cases hlt:k0 < s.length
   ·obtain ⟨⟨x1,x2⟩,hx⟩:∃ x,s[k0]? = some x:=⟨_,List.getElem?_eq_getElem hlt⟩
    obtain ⟨⟨y1,y2⟩,hy⟩:∃ x,t[k0]? = some x:=⟨_,List.getElem?_eq_getElem (show k0 < t.length by omega)⟩
    obtain ⟨b,off,hAe,hbl,hr⟩:=h.at_ tlV_len hx
    obtain ⟨b',off',hBe,hbl',hr'⟩:=k.at_ tlV_len hy
    subst hAe hBe
    have hc0:wr.cell? ⟨b,off+k0*2,none⟩=some (.int .u32 (x1:Int)):=hf.cell (hr 0 _ rfl) (fun x=>x)
    have hc1:wr.cell? ⟨b,off+k0*2+1,none⟩=some (.int .u16 (x2:Int)):=hf.cell (hr 1 _ rfl) (fun x=>x)
    have hd0:wr.cell? ⟨b',off'+k0*2,none⟩=some (.int .u32 (y1:Int)):=hf.cell (hr' 0 _ rfl) (fun x=>x)
    have hd1:wr.cell? ⟨b',off'+k0*2+1,none⟩=some (.int .u16 (y2:Int)):=hf.cell (hr' 1 _ rfl) (fun x=>x)
    have hTs:=Lib.hid (take_snoc hx)
    have hTt:=Lib.hid (take_snoc hy)
    have hne:(x1,x2)≠(y1,y2)→s≠t:=fun hn e=>hn (by rw [e,hy] at hx;injection hx with hx;exact hx.symm)
    replace hne:=Lib.hid hne
    clear hr hr' hx hy
    by_cases e1:x1=y1
    ·by_cases e2:x2=y2
     ·subst e1 e2
      have hn:=Lib.hid (show s.take (k0+1)=t.take (k0+1) by rw [hTs.out,hTt.out,heq.out])
      go_wp2
      go_quiet (fail)
      go_wp2
      go_roundg (s.length - (k0+1))
      case measure=>omega
      case rel=>exact ⟨k0+1,by omega,hn,by go_num,hf.drewN _,rfl⟩
     ·have hno:=hne.out (fun e=>e2 (by injection e))
      replace hno:=Lib.hid hno
      subst e1
      have e2':(x2:Int)≠(y2:Int):=by omega
      clear e2
      go_wp2
      go_quiet (fail)
      go_wp2
      go_ret
      exact ⟨by rw [decide_eq_false hno.out];rfl,hf.drewN _⟩
    ·have hno:=hne.out (fun e=>e1 (by injection e))
     replace hno:=Lib.hid hno
     have e1':(x1:Int)≠(y1:Int):=by omega
     clear e1
     go_wp2
     go_quiet (fail)
     go_wp2
     go_ret
     exact ⟨by rw [decide_eq_false hno.out];rfl,hf.drewN _⟩
   ·have e:s=t:=by
     have h1:=heq.out
     rw [take_all hlt,take_all (l:=t) (by omega)] at h1
     exact h1
    replace e:=Lib.hid e
    go_wp2
    go_ret
    exact ⟨by rw [decide_eq_true e.out];rfl,hf⟩
 ·rw [decide_eq_false (fun e=>hl (by rw [e]))]
  have hl':(s.length:Int)≠(t.length:Int):=by omega
  go_enter Tryz.func119,Tryz.ntmps119
  go_wp2
  go_ret
  exact ⟨rfl,Fr.refl _ _⟩
end
section
open Go Go.RowKit Bth
set_option maxRecDepth 100000
theorem mUnion_take {s t:TL} {k:Nat} {x:Nat × Nat} (h:t[k]? = some x):mUnion s (t.take (k+1))=mAdd (mUnion s (t.take k)) x.1 x.2:=by
 unfold mUnion
 rw [take_snoc h,List.foldl_append]
 rfl
set_option maxHeartbeats 1000000 in
theorem maskUnion_calls (w:World) (A B:Option Addr) (c d:Nat) (s t:TL) (h:TlAt w A s) (k:TlAt w B t) (hs:Tidy s) (ht:Tidy t):Calls Tryz.prog 117 #[.slice A s.length c,.slice B t.length d] w (GivesTL w (mUnion s t)):=by
 have htl:=ht.len
 go_enter Tryz.func117,Tryz.ntmps117
 go_wp2
 go_loopg [0,5] t.length (fun n c0 c5 wr=>∃ (k:Nat) (acc:TL) (A2:Option Addr) (c2:Nat),k≤t.length∧Hid (acc=mUnion s (t.take k))∧Tidy acc∧TlAt wr A2 acc∧c5 = .int .i64 (k:Int)∧c0 = .slice A2 acc.length c2∧Fr nope w wr∧n=t.length - k)
 case atStart=>exact ⟨0,s,A,c,Nat.zero_le _,Lib.hid (by simp [mUnion]),hs,h,rfl,rfl,Fr.refl _ _,rfl⟩
 case round=>
  obtain ⟨j,acc,A2,c2,hj,hacc,hta,hat,rfl,rfl,hf,rfl⟩:=hrel
  by_cases hlt:j < t.length
  ·obtain ⟨⟨x1,x2⟩,hx⟩:∃ x,t[j]? = some x:=⟨_,List.getElem?_eq_getElem hlt⟩
   obtain ⟨b,off,hBe,hbl,hr⟩:=k.at_ tlV_len hx
   subst hBe
   have hd:Fr nope w wr.drew:=hf.drew
   have hcs:∀ W,Fr nope w W→W.cell? ⟨b,off+j*2,none⟩=some (.int .u32 (x1:Int))∧W.cell? ⟨b,off+j*2+1,none⟩=some (.int .u16 (x2:Int)):=fun W hW=>⟨hW.cell (hr 0 _ rfl) (fun x=>x),hW.cell (hr 1 _ rfl) (fun x=>x)⟩
   have hS0:=hcs _ hd
   replace hcs:=Lib.hid hcs
   have hxb:=ht.bound _ (List.mem_of_getElem? hx)
   have hT:=Lib.hid (mUnion_take (s:=s) hx)
   have hcall:=maskAdd_calls wr.drew A2 c2 acc x1 x2 (hat.nope ((Fr.refl nope wr).drew)) hta hxb.2.1
   have hty:Tidy (mAdd acc x1 x2):=mAdd_tidy hta hxb.2.1 hxb.1
   replace hty:=Lib.hid hty
   replace hta:=Lib.hid hta
   clear hr hx hat hxb
   go_wp2
   go_region_held3 (fun W=>W.cell? ⟨b,off+j*2,none⟩=some (.int .u32 (x1:Int))∧W.cell? ⟨b,off+j*2+1,none⟩=some (.int .u16 (x2:Int))) (assumption)
    ((go_at_call 121;refine hcall.mono ?_;rintro e w1 ⟨hf1,A3,c3,rfl,hT3⟩;have hn1:=hd.then hf1;have hS1:=hcs.out _ hn1))
   all_goals
    go_wp2
    go_roundg (t.length - (j+1))
    case measure=>omega
    case rel=>exact ⟨j+1,mAdd acc x1 x2,A3,c3,by omega,Lib.hid (by rw [hT.out,← hacc.out]),hty.out,hT3,by go_num,rfl,hn1,rfl⟩
  ·rw [take_all hlt] at hacc
   obtain rfl:=hacc.out
   go_wp2
   go_ret
   exact ⟨hf,A2,c2,rfl,hat⟩
theorem mMinus_take {s t:TL} {k:Nat} {x:Nat × Nat} (h:t[k]? = some x):mMinus s (t.take (k+1))=mDis (mMinus s (t.take k)) x.1 x.2:=by
 unfold mMinus
 rw [take_snoc h,List.foldl_append]
 rfl
set_option maxHeartbeats 1000000 in
theorem maskMinus_calls (w:World) (A B:Option Addr) (c d:Nat) (s t:TL) (h:TlAt w A s) (k:TlAt w B t) (hs:Tidy s) (ht:Tidy t):Calls Tryz.prog 118 #[.slice A s.length c,.slice B t.length d] w (GivesTL w (mMinus s t)):=by
 have htl:=ht.len
 go_enter Tryz.func118,Tryz.ntmps118
 go_wp2
 go_loopg [0,5] t.length (fun n c0 c5 wr=>∃ (k:Nat) (acc:TL) (A2:Option Addr) (c2:Nat),k≤t.length∧Hid (acc=mMinus s (t.take k))∧Tidy acc∧TlAt wr A2 acc∧c5 = .int .i64 (k:Int)∧c0 = .slice A2 acc.length c2∧Fr nope w wr∧n=t.length - k)
 case atStart=>exact ⟨0,s,A,c,Nat.zero_le _,Lib.hid (by simp [mMinus]),hs,h,rfl,rfl,Fr.refl _ _,rfl⟩
 case round=>
  obtain ⟨j,acc,A2,c2,hj,hacc,hta,hat,rfl,rfl,hf,rfl⟩:=hrel
  by_cases hlt:j < t.length
  ·obtain ⟨⟨x1,x2⟩,hx⟩:∃ x,t[j]? = some x:=⟨_,List.getElem?_eq_getElem hlt⟩
   obtain ⟨b,off,hBe,hbl,hr⟩:=k.at_ tlV_len hx
   subst hBe
   have hd:Fr nope w wr.drew:=hf.drew
   have hcs:∀ W,Fr nope w W→W.cell? ⟨b,off+j*2,none⟩=some (.int .u32 (x1:Int))∧W.cell? ⟨b,off+j*2+1,none⟩=some (.int .u16 (x2:Int)):=fun W hW=>⟨hW.cell (hr 0 _ rfl) (fun x=>x),hW.cell (hr 1 _ rfl) (fun x=>x)⟩
   have hS0:=hcs _ hd
   replace hcs:=Lib.hid hcs
   have hxb:=ht.bound _ (List.mem_of_getElem? hx)
   have hT:=Lib.hid (mMinus_take (s:=s) hx)
   have hcall:=maskDiscard_calls wr.drew A2 c2 acc x1 x2 (hat.nope ((Fr.refl nope wr).drew)) hta hxb.2.1
   have hty:Tidy (mDis acc x1 x2):=mDis_tidy hta
   replace hty:=Lib.hid hty
   replace hta:=Lib.hid hta
   clear hr hx hat hxb
   go_wp2
   go_region_held3 (fun W=>W.cell? ⟨b,off+j*2,none⟩=some (.int .u32 (x1:Int))∧W.cell? ⟨b,off+j*2+1,none⟩=some (.int .u16 (x2:Int))) (assumption)
    ((go_at_call 160;refine hcall.mono ?_;rintro e w1 ⟨hf1,A3,c3,rfl,hT3⟩;have hn1:=hd.then hf1;have hS1:=hcs.out _ hn1))
   all_goals
    go_wp2
    go_roundg (t.length - (j+1))
    case measure=>omega
    case rel=>exact ⟨j+1,mDis acc x1 x2,A3,c3,by omega,Lib.hid (by rw [hT.out,← hacc.out]),hty.out,hT3,by go_num,rfl,hn1,rfl⟩
  ·rw [take_all hlt] at hacc
   obtain rfl:=hacc.out
   go_wp2
   go_ret
   exact ⟨hf,A2,c2,rfl,hat⟩
end
section
open Go Go.RowKit Bth
set_option maxRecDepth 100000
theorem tlOf_take {gs:List G} {k:Nat} {g:G} (h:gs[k]? = some g):tlOf (gs.take (k+1))=mAdd (tlOf (gs.take k)) g.id g.spec:=by
 unfold tlOf
 rw [take_snoc h,List.foldl_append]
 rfl
def GivesTL2 (w:World) (s:TL) (e:Ending) (w':World):Prop:=Fr nope w w'∧∃ A c,e = .returned (.tuple #[.slice A s.length c,.bool true])∧TlAt w' A s
set_option maxHeartbeats 2000000 in
theorem MasksOf_calls (w:World) (A:Option Addr) (c:Nat) (gs:List G) (h:GsAt w A gs) (hok:∀ g∈gs,okG g=true∧g.Ok) (hl:gs.length≤1073741824):Calls Tryz.prog 78 #[.slice A gs.length c] w (GivesTL2 w (tlOf gs)):=by
 go_enter Tryz.func78,Tryz.ntmps78
 go_wp2
 go_loopg [2,4] gs.length (fun n c0 c5 wr=>∃ (k:Nat) (acc:TL) (A2:Option Addr) (c2:Nat),k≤gs.length∧Hid (acc=tlOf (gs.take k))∧Tidy acc∧TlAt wr A2 acc∧c5 = .int .i64 (k:Int)∧c0 = .slice A2 acc.length c2∧Fr nope w wr∧n=gs.length - k)
 case atStart=>exact ⟨0,[],none,0,Nat.zero_le _,Lib.hid (by simp [tlOf]),.nil,Rw.nil _ _ _,rfl,rfl,Fr.refl _ _,rfl⟩
 case round=>
  obtain ⟨j,acc,A2,c2,hj,hacc,hta,hat,rfl,rfl,hf,rfl⟩:=hrel
  by_cases hlt:j < gs.length
  ·obtain ⟨g,hx⟩:∃ x,gs[j]? = some x:=⟨_,List.getElem?_eq_getElem hlt⟩
   obtain ⟨b,off,hBe,hbl,hr⟩:=h.at_ G.cells_len hx
   subst hBe
   obtain ⟨hgo,hgk⟩:=hok g (List.mem_of_getElem? hx)
   have hcs:∀ W,Fr nope w W→W.cell? ⟨b,off+j*4,none⟩=some (.bool g.virt)∧W.cell? ⟨b,off+j*4+1,none⟩=some (.int .u8 (g.kind:Int))∧W.cell? ⟨b,off+j*4+2,none⟩=some (.int .u16 (g.idx:Int))∧W.cell? ⟨b,off+j*4+3,none⟩=some (.int .u16 (g.spec:Int)):=fun W hW=>⟨hW.cell (hr 0 _ rfl) (fun x=>x),hW.cell (hr 1 _ rfl) (fun x=>x),hW.cell (hr 2 _ rfl) (fun x=>x),hW.cell (hr 3 _ rfl) (fun x=>x)⟩
   have hT:=Lib.hid (tlOf_take hx)
   have hid:=g.id_lt hgk
   have hsp:=hgk.spec
   have hcA:=fun W (hW:Fr nope wr W)=>maskAdd_calls W A2 c2 acc g.id g.spec (hat.nope hW) hta hsp
   have hI:=fun W=>IsRegister_calls W g
   have hR:=fun W=>RegID_calls W g hgk
   have hM:=fun W=>spMask_calls W g.spec
   rw [hgo] at hI
   unfold G.agg at hI hR
   have hty:Tidy (mAdd acc g.id g.spec):=mAdd_tidy hta hsp hid
   replace hty:=Lib.hid hty
   replace hta:=Lib.hid hta
   replace hcA:=Lib.hid hcA
   replace hI:=Lib.hid hI
   replace hR:=Lib.hid hR
   replace hM:=Lib.hid hM
   obtain ⟨hc0,hc1,hc2,hc3⟩:=hcs wr hf
   clear hr hx hat hgo hgk hid hsp
   generalize g.id=gid at hR hcA hT hty
   obtain ⟨gv,gk,gi,gsp⟩:=g
   simp only at hc0 hc1 hc2 hc3 hcs hR hI hM hcA hT hty
   go_wp2_with fail
   refine (hI.out _).mono ?_
   rintro e w1 ⟨rfl,hf1⟩
   have hn1:=hf.then hf1
   have hd1:=hf1.then ((Fr.refl nope w1).drew)
   have hS0:=hcs _ (hf.then hd1)
   replace hcs:=Lib.hid hcs
   clear hc0 hc1 hc2 hc3
   go_wp2
   go_region_held3 (fun W=>W.cell? ⟨b,off+j*4,none⟩=some (.bool gv)∧W.cell? ⟨b,off+j*4+1,none⟩=some (.int .u8 (gk:Int))∧W.cell? ⟨b,off+j*4+2,none⟩=some (.int .u16 (gi:Int))∧W.cell? ⟨b,off+j*4+3,none⟩=some (.int .u16 (gsp:Int))) (assumption)
    ((first
     | (go_at_call 67;refine (hR.out _).mono ?_;rintro e w2 ⟨rfl,hf2⟩;have hn2:=hd1.then hf2;have hS2:=hcs.out _ (hf.then hn2))
     | (go_at_call 76;refine (hM.out _).mono ?_;rintro e w3 ⟨rfl,rfl⟩)
     | (go_at_call 121;refine (hcA.out _ hn2).mono ?_;rintro e w4 ⟨hf4,A3,c3,rfl,hT3⟩;have hn4:=hn2.then hf4;have hS4:=hcs.out _ (hf.then hn4))))
   all_goals
    go_wp2
    go_roundg (gs.length - (j+1))
    case measure=>omega
    case rel=>exact ⟨j+1,mAdd acc gid gsp,A3,c3,by omega,Lib.hid (by rw [hT.out,← hacc.out]),hty.out,hT3,by go_num,rfl,hf.then hn4,rfl⟩
  ·rw [take_all hlt] at hacc
   obtain rfl:=hacc.out
   go_wp2
   go_ret2
   exact ⟨hf,A2,c2,rfl,hat⟩
theorem liveOf_calls (w:World) (A:Option Addr) (c:Nat) (gs:List G) (h:GsAt w A gs) (hok:∀ g∈gs,okG g=true∧g.Ok) (hl:gs.length≤1073741824):Calls Tryz.prog 40 #[.slice A gs.length c] w (GivesTL w (tlOf gs)):=by
 have hM:=MasksOf_calls w A c gs h hok hl
 go_enter Tryz.func40,Tryz.ntmps40
 go_wp2_with fail
 refine hM.mono ?_
 rintro e w1 ⟨hf,A1,c1,rfl,hT⟩
 go_wp2
 go_ret
 exact ⟨hf,A1,c1,rfl,hT⟩
end
section
open Go Go.RowKit Bth
set_option maxRecDepth 100000
def TlsV (w:World) (vs:List Value) (ls:List TL):Prop:=vs.length=ls.length∧∀ (k:Nat) (v:Value) (s:TL),vs[k]? = some v→ls[k]? = some s→∃ A c,v = .slice A s.length c∧TlAt w A s
theorem TlsV.frT {S:Nat→Prop} {w w':World} {vs:List Value} {ls:List TL} (h:TlsV w vs ls) (hf:Fr S w w') (hs:NoT [77] w S):TlsV w' vs ls:=⟨h.1,fun k v s h1 h2=>by
 obtain ⟨A,c,e,hT⟩:=h.2 k v s h1 h2
 exact ⟨A,c,e,Rw.frT hT hf hs (by decide)⟩⟩
theorem TlsV.snoc {w:World} {vs:List Value} {ls:List TL} {A:Option Addr} {c:Nat} {s:TL} (h:TlsV w vs ls) (hs:TlAt w A s):TlsV w (vs ++ [.slice A s.length c]) (ls ++ [s]):=by
 refine ⟨by simp [h.1],fun k v t h1 h2=>?_⟩
 by_cases hlt:k < vs.length
 ·rw [List.getElem?_append_left hlt] at h1
  rw [List.getElem?_append_left (by rw [← h.1];exact hlt)] at h2
  exact h.2 k v t h1 h2
 ·rw [List.getElem?_append_right (by omega)] at h1
  rw [List.getElem?_append_right (by rw [← h.1];omega),← h.1] at h2
  have hk:k - vs.length=0:=by
   have:=(List.getElem?_eq_some_iff.1 h1).1
   simp at this;omega
  rw [hk] at h1 h2
  simp only [List.getElem?_cons_zero,Option.some.injEq] at h1 h2
  subst h1 h2
  exact ⟨A,c,rfl,hs⟩
def TlsAt (w:World) (A:Option Addr) (ls:List TL):Prop:=∃ vs,Rw w 49 1 A ls.length vs∧TlsV w vs ls
theorem TlsAt.nope {w w':World} {A:Option Addr} {ls:List TL} (h:TlsAt w A ls) (hf:Fr nope w w'):TlsAt w' A ls:=by
 obtain ⟨vs,h1,h2⟩:=h
 exact ⟨vs,h1.nope hf,h2.frT hf (NoT.nope _ _)⟩
theorem infoLs:(Tryz.prog.info? 49).map (fun i=>(i.zero,i.size,i.bytes))=some (some (.slice none 0 0),1,24):=by kernel_rfl
def rdT (p:PI):TL:=tlOf (inGs p.canc p.inp p.out)
def wrT (p:PI):TL:=tlOf (outGs p.out)
theorem okP_gs {p:PO} (h:okP p=true):∀ g∈p.gs,okG g=true:=by
 intro g hg
 unfold PO.gs at hg
 unfold okP at h
 split at hg
 ·rename_i h1
  rw [if_pos h1] at h
  obtain rfl:g=p.reg:=by simpa using hg
  exact h
 ·rename_i h1
  rw [if_neg h1] at h
  split at hg
  ·rename_i h2
   rw [if_pos h2] at h
   unfold okM at h
   simp only [Bool.and_eq_true,Bool.or_eq_true,Bool.not_eq_true'] at h
   rcases List.mem_append.1 hg with hg | hg
   ·split at hg
    ·rename_i hb
     obtain rfl:g=p.base:=by simpa using hg
     rcases h.1 with h | h
     ·rw [hb] at h;cases h
     ·exact h
    ·cases hg
   ·split at hg
    ·rename_i hb
     obtain rfl:g=p.index:=by simpa using hg
     rcases h.2 with h | h
     ·rw [hb] at h;cases h
     ·exact h
    ·cases hg
  ·cases hg
theorem gsOf_okG {ps:List PO} (h:ps.all okP=true):∀ g∈gsOf ps,okG g=true:=by
 intro g hg
 obtain ⟨p,hp,hg⟩:=List.mem_flatMap.1 hg
 exact okP_gs (List.all_eq_true.1 h p hp) g hg
theorem outGs_sub {ps:List PO} : ∀ g∈outGs ps,g∈gsOf ps:=by
 intro g hg
 obtain ⟨p,hp,e⟩:=List.mem_filterMap.1 hg
 refine List.mem_flatMap.2 ⟨p,hp,?_⟩
 unfold PO.asG at e
 unfold PO.gs
 split at e
 ·rename_i h1
  rw [if_pos h1]
  injection e with e
  rw [← e];simp
 ·cases e
theorem inGs_sub {c:Bool} {is os:List PO} : ∀ g∈inGs c is os,g∈gsOf is∨g∈gsOf os:=by
 intro g hg
 have hmem:∀ g∈memGs os,g∈gsOf os:=fun g hg=>by
  obtain ⟨p,hp,hg⟩:=List.mem_flatMap.1 hg
  exact List.mem_flatMap.2 ⟨p,(List.mem_filter.1 hp).1,hg⟩
 cases c with
 | false=>
  rw [inGs_f] at hg
  rcases List.mem_append.1 hg with h | h
  ·exact .inl h
  ·exact .inr (hmem g h)
 | true=>
  rw [inGs_t _ _ _ rfl] at hg
  rcases List.mem_append.1 hg with h | h
  ·left
   generalize gsOf is=l at h ⊢
   rcases l with _ | ⟨a,_ | ⟨b,l⟩⟩
   ·exact h
   ·exact h
   ·simp only [canc2] at h
    split at h
    ·cases h
    ·exact h
  ·exact .inr (hmem g h)
theorem gsOf_le (l:List PO):(gsOf l).length≤2*l.length:=by
 induction l with
 | nil=>simp [gsOf]
 | cons q l ih=>
  have e:gsOf (q :: l)=q.gs ++ gsOf l:=rfl
  have:=q.gs_len
  rw [e,List.length_append,List.length_cons];omega
theorem outGs_le (l:List PO):(outGs l).length≤l.length:=List.length_filterMap_le _ _
theorem inGs_le (c:Bool) (is os:List PO):(inGs c is os).length≤2*is.length+2*os.length:=by
 have hm:(memGs os).length≤2*os.length:=by
  have h1:=gsOf_le (os.filter fun p=>p.kind == 2)
  have h2:(os.filter fun p=>p.kind == 2).length≤os.length:=List.length_filter_le _ _
  unfold memGs
  omega
 have hi:=gsOf_le is
 cases c with
 | false=>rw [inGs_f,List.length_append];omega
 | true=>
  rw [inGs_t _ _ _ rfl,List.length_append]
  have:(canc2 (gsOf is)).length≤(gsOf is).length:=by
   generalize gsOf is=l
   rcases l with _ | ⟨a,_ | ⟨b,l⟩⟩
   ·simp [canc2]
   ·simp [canc2]
   ·simp only [canc2];split<;>simp
  omega
theorem PI.At.okGs {w:World} {B:Nat} {p:PI} (h:p.At w B) (hok:okI p=true):(∀ g∈inGs p.canc p.inp p.out,okG g=true∧g.Ok)∧(∀ g∈outGs p.out,okG g=true∧g.Ok):=by
 unfold okI at hok
 simp only [Bool.and_eq_true] at hok
 have ki:∀ g∈gsOf p.inp,okG g=true∧g.Ok:=fun g hg=>⟨gsOf_okG hok.1.2 g hg,gsOf_ok h.ok.2.1 g hg⟩
 have ko:∀ g∈gsOf p.out,okG g=true∧g.Ok:=fun g hg=>⟨gsOf_okG hok.2 g hg,gsOf_ok h.ok.2.2 g hg⟩
 exact ⟨fun g hg=>(inGs_sub g hg).elim (ki g) (ko g),fun g hg=>ko g (outGs_sub g hg)⟩
def GivesAcc (w:World) (is:List PI) (e:Ending) (w':World):Prop:=Fr nope w w'∧∃ A1 c1 A2 c2,e = .returned (.tuple #[.slice A1 is.length c1,.slice A2 is.length c2,.bool true])∧TlsAt w' A1 (is.map rdT)∧TlsAt w' A2 (is.map wrT)
set_option maxHeartbeats 2000000 in
theorem Accesses_calls (w:World) (A:Option Addr) (c B:Nat) (is:List PI) (h:InstrsAt w A is) (hp:∀ p∈is,p.At w B∧okI p=true) (hl:is.length≤1048576):Calls Tryz.prog 16 #[.slice A is.length c] w (GivesAcc w is):=by
 go_enter Tryz.func16,Tryz.ntmps16
 go_wp2
 go_loopg [2,3,5] is.length (fun n c2 c3 c5 wr=>∃ (k:Nat) (A1:Option Addr) (d1:Nat) (A2:Option Addr) (d2:Nat) (v1 v2:List Value),k≤is.length∧c5 = .int .i64 (k:Int)∧c2 = .slice A1 k d1∧c3 = .slice A2 k d2∧wr.ownsRow w.heap.size 49 1 (.slice A1 k d1) k v1∧wr.ownsRow w.heap.size 49 1 (.slice A2 k d2) k v2∧Hid (TlsV wr v1 ((is.take k).map rdT))∧Hid (TlsV wr v2 ((is.take k).map wrT)) ∧
  Hid (∀ b,(Value.slice A1 k d1).ownBlock=some b→(Value.slice A2 k d2).ownBlock≠some b)∧Fr nope w wr∧n=is.length - k)
 case atStart=>exact ⟨0,none,0,none,0,[],[],Nat.zero_le _,rfl,rfl,rfl,own_nil _ _ _ _,own_nil _ _ _ _,Lib.hid ⟨rfl,by simp⟩,Lib.hid ⟨rfl,by simp⟩,Lib.hid (by simp [Value.ownBlock]),Fr.refl _ _,rfl⟩
 case round=>
  obtain ⟨k,A1,d1,A2,d2,v1,v2,hk,rfl,rfl,rfl,ho1,ho2,ht1,ht2,hdj,hf,rfl⟩:=hrel
  by_cases hlt:k < is.length
  ·obtain ⟨p,hx⟩:∃ x,is[k]? = some x:=⟨_,List.getElem?_eq_getElem hlt⟩
   obtain ⟨b,off,hBe,hbl,hr⟩:=h.at_ PI.list_len hx
   subst hBe
   obtain ⟨hpa,hpo⟩:=hp p (List.mem_of_getElem? hx)
   have hrg:∀ W,Fr nope w W→W.rangeAt b (off+k*10) p.cells.toList:=fun W hW j v hv=>hW.cell (hr j v hv) (fun x=>x)
   have hT:=Lib.hid (take_snoc hx)
   obtain ⟨hgi,hgo⟩:=hpa.okGs hpo
   have hfew:=hpa.few
   have hli:=inGs_le p.canc p.inp p.out
   have hlo:=outGs_le p.out
   clear hr hx
   have hsz:=hf.size
   go_wp2_with (refine wpList_load_mid rfl _ _ rfl b (off+k*10) rfl p.cells.toList _ (hrg _ hf) Tryz.underlying55 rfl (by kernel_rfl) ?_)
   refine (spInputRegisters_calls _ B p (hpa.fr hf (fun _ _ x=>x)) hpo).mono ?_
   rintro e w1 ⟨hf1,Ag,cg,rfl,hog⟩
   have hn1:=hf.then hf1
   go_wp2_with (refine wpList_load_mid rfl _ _ rfl b (off+k*10) rfl p.cells.toList _ (hrg _ hn1) Tryz.underlying55 rfl (by kernel_rfl) ?_)
   refine (spOutputRegisters_calls _ B p (hpa.fr hn1 (fun _ _ x=>x)) hpo).mono ?_
   rintro e w2 ⟨hf2,Ah,ch,rfl,hoh⟩
   have hgi2:=(Rw.of_own hog).nope hf2
   have hn2:=hn1.then hf2
   go_wp2_with fail
   refine (liveOf_calls w2 Ag cg _ hgi2 hgi (by omega)).mono ?_
   rintro e w3 ⟨hf3,Ai,ci,rfl,hti⟩
   have hn3:=hn2.then hf3
   have hfr3:Fr nope wr w3:=(hf1.then hf2).then hf3
   have hsz3:=hfr3.size
   have ho13:=own_fr ho1 hfr3 (fun _ _ x=>x)
   have ho13a:=own_fr ho13 ((Fr.refl nope w3).alloc (.cells #[.slice Ai (tlOf (inGs p.canc p.inp p.out)).length ci] 49)) (fun _ _ x=>x)
   go_wp2_with (refine wpList_app (v:=.slice A1 k d1) rfl rfl Tryz.underlying31 infoLs rfl (by omega) rfl ho13a rfl (news:=[.slice Ai (tlOf (inGs p.canc p.inp p.out)).length ci]) rfl (one_new _ _ _ _ rfl) (by simp [Value.oneCell']) (by simp only [maxLen];omega) (by omega) (by simp;omega) ?hk)
   case hk=>
    intro v4 w4 hown4 hf4 hb4
    obtain ⟨A3,d3,rfl,_,_⟩:=own_slice hown4
    have hS4:NoT [77,117] _ (fun b=>(Value.slice A1 k d1).ownBlock=some b):=NoT.own ho13a (by decide)
    have hal:Fr nope w3 (w3.alloc (.cells #[.slice Ai (tlOf (inGs p.canc p.inp p.out)).length ci] 49)):=(Fr.refl nope w3).alloc _
    have hbo1:=own_base ho1
    have hn4:Fr nope w w4:=(hn3.then hal).then_new hf4 (fun x hx e=>by have:=hbo1 x e;omega)
    have hg4:GsAt w4 Ah (outGs p.out):=(((Rw.of_own hoh).nope hf3).nope hal).frT hf4 hS4 (by decide)
    have ht14:TlsV w4 (v1 ++ [.slice Ai (tlOf (inGs p.canc p.inp p.out)).length ci]) ((is.take (k+1)).map rdT):=by
     rw [hT.out,List.map_append]
     exact (TlsV.snoc ((ht1.out.frT hfr3 (NoT.nope _ _))) hti).frT hal (NoT.nope _ _) |>.frT hf4 (hS4.sub (by decide))
    have hd4:∀ b,(Value.slice A3 (k+1) d3).ownBlock=some b→(Value.slice A2 k d2).ownBlock≠some b:=fun b hb hb2=>by
     rcases hb4 with e | e
     ·rw [hb] at e;exact hdj.out b e.symm hb2
     ·rw [hb] at e
      injection e with e
      have:=own_lt ho2 b hb2
      omega
    have ho24:=own_fr (own_fr (own_fr ho2 hfr3 (fun _ _ x=>x)) hal (fun _ _ x=>x)) hf4 (fun b hb e=>hdj.out b e hb)
    have ht24:=((ht2.out.frT hfr3 (NoT.nope _ _)).frT hal (NoT.nope _ _)).frT hf4 (hS4.sub (by decide))
    have hsz4:=hn4.size
    replace ht14:=Lib.hid ht14
    replace ht24:=Lib.hid ht24
    replace hd4:=Lib.hid hd4
    clear hb4
    go_wp2_with fail
    refine (liveOf_calls w4 Ah ch _ hg4 hgo (by omega)).mono ?_
    rintro e w5 ⟨hf5,Aj,cj,rfl,htj⟩
    have hn5:=hn4.then hf5
    have hsz5:=hn5.size
    have hown5:=own_fr hown4 hf5 (fun _ _ x=>x)
    have ho25:=own_fr ho24 hf5 (fun _ _ x=>x)
    have ho25a:=own_fr ho25 ((Fr.refl nope w5).alloc (.cells #[.slice Aj (tlOf (outGs p.out)).length cj] 49)) (fun _ _ x=>x)
    go_wp2_with (refine wpList_app (v:=.slice A2 k d2) rfl rfl Tryz.underlying31 infoLs rfl (by omega) rfl ho25a rfl (news:=[.slice Aj (tlOf (outGs p.out)).length cj]) rfl (one_new _ _ _ _ rfl) (by simp [Value.oneCell']) (by simp only [maxLen];omega) (by omega) (by simp;omega) ?hm)
    case hm=>
     intro v6 w6 hown6 hf6 hb6
     obtain ⟨A5,d5,rfl,_,_⟩:=own_slice hown6
     have hS6:NoT [77,117] _ (fun b=>(Value.slice A2 k d2).ownBlock=some b):=NoT.own ho25a (by decide)
     have hal6:Fr nope w5 (w5.alloc (.cells #[.slice Aj (tlOf (outGs p.out)).length cj] 49)):=(Fr.refl nope w5).alloc _
     have hbo2:=own_base ho2
     have hn6:Fr nope w w6:=(hn5.then hal6).then_new hf6 (fun x hx e=>by have:=hbo2 x e;omega)
     have ht16:=Lib.hid (((ht14.out.frT hf5 (NoT.nope _ _)).frT hal6 (NoT.nope _ _)).frT hf6 (hS6.sub (by decide)))
     have ht26:TlsV w6 (v2 ++ [.slice Aj (tlOf (outGs p.out)).length cj]) ((is.take (k+1)).map wrT):=by
      rw [hT.out,List.map_append]
      exact (TlsV.snoc (ht24.out.frT hf5 (NoT.nope _ _)) htj).frT hal6 (NoT.nope _ _) |>.frT hf6 (hS6.sub (by decide))
     have hown16:=own_fr (own_fr hown5 hal6 (fun _ _ x=>x)) hf6 (fun b hb e=>hd4.out b hb e)
     have hd6:∀ b,(Value.slice A3 (k+1) d3).ownBlock=some b→(Value.slice A5 (k+1) d5).ownBlock≠some b:=fun b hb hb2=>by
      rcases hb6 with e | e
      ·rw [hb2] at e;exact hd4.out b hb e.symm
      ·rw [hb2] at e
       injection e with e
       have:=own_lt hown5 b hb
       omega
     replace ht26:=Lib.hid ht26
     replace hd6:=Lib.hid hd6
     clear hb6
     go_wp2
     go_roundg (is.length - (k+1))
     case measure=>omega
     case rel=>exact ⟨k+1,A3,d3,A5,d5,_,_,by omega,by go_num,rfl,rfl,hown16,hown6,ht16,ht26,hd6,hn6,rfl⟩
  ·have hke:k=is.length:=by omega
   subst hke
   rw [List.take_length] at ht1 ht2
   have e1:(is.map rdT).length=is.length:=by simp
   have e2:(is.map wrT).length=is.length:=by simp
   go_wp2
   go_ret3
   exact ⟨hf,A1,d1,A2,d2,rfl,⟨v1,by rw [e1];exact Rw.of_own ho1,ht1.out⟩,⟨v2,by rw [e2];exact Rw.of_own ho2,ht2.out⟩⟩
end
end Go.Proofs.YtjlfkgjmgghhiaaGreat
