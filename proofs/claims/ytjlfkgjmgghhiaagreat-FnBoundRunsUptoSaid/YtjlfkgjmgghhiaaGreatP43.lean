/- Part of the proof of a statement about pub-berthage: what its texts have in common. -/
import Derived.RegionTactic
import Derived.Test.YtjlfkgjmgghhiaaGreatP25
import Derived.Test.YtjlfkgjmgghhiaaGreatP42
namespace Go.Proofs.YtjlfkgjmgghhiaaGreat
section
open Go Go.RowKit Bth
set_option maxRecDepth 100000
def RowT (w:World) (b n:Nat) (I:Nat→TL):Prop:=∃ cs:Array Value,w.heap[b]? = some (.cells cs 49 (0,0))∧cs.size=n∧∀ k,k < n→∃ A c,cs[k]? = some (.slice A (I k).length c)∧TlAt w A (I k)
theorem RowT.nope {w w':World} {b n:Nat} {I:Nat→TL} (h:RowT w b n I) (hf:Fr nope w w'):RowT w' b n I:=by
 obtain ⟨cs,h1,h2,h3⟩:=h
 refine ⟨cs,hf.heap h1 (fun x=>x),h2,fun k hk=>?_⟩
 obtain ⟨A,c,h4,h5⟩:=h3 k hk
 exact ⟨A,c,h4,h5.nope hf⟩
theorem RowT.lt {w:World} {b n:Nat} {I:Nat→TL} (h:RowT w b n I):b < w.heap.size:=by
 obtain ⟨cs,h1,_⟩:=h
 exact lt_of_heap h1
theorem RowT.at_ {w:World} {b n:Nat} {I:Nat→TL} (h:RowT w b n I) {k:Nat} (hk:k < n):∃ A c,w.cell? ⟨b,k,none⟩=some (.slice A (I k).length c)∧TlAt w A (I k):=by
 obtain ⟨cs,h1,h2,h3⟩:=h
 obtain ⟨A,c,h4,h5⟩:=h3 k hk
 exact ⟨A,c,by rw [cell_of_row w b k _ _ (0,0) h1];exact h4,h5⟩
theorem RowT.noT {w:World} {b n:Nat} {I:Nat→TL} (h:RowT w b n I):NoT [77] w (fun x=>x=b):=by
 obtain ⟨cs,h1,_⟩:=h
 exact NoT.one h1 (by decide)
theorem RowT.frozen {w:World} {b n:Nat} {I:Nat→TL} (h:RowT w b n I):∀ j,w.frozen? ⟨b,j,none⟩=false:=by
 obtain ⟨cs,h1,_⟩:=h
 exact frozen_row h1
theorem RowT.set {w:World} {b n:Nat} {I:Nat→TL} (h:RowT w b n I) {k:Nat} {A:Option Addr} {c:Nat} {t:TL} (ht:TlAt w A t):RowT (w.setCell ⟨b,k,none⟩ (.slice A t.length c)) b n (updT I k t):=by
 have hn:=h.noT
 obtain ⟨cs,h1,h2,h3⟩:=h
 have hf:Fr (fun x=>x=b) w (w.setCell ⟨b,k,none⟩ (.slice A t.length c)):=(Fr.refl (fun x=>x=b) w).setCell (.inl rfl) _
 refine ⟨_,setCell_heap h1 _,by simp [h2],fun j hj=>?_⟩
 by_cases e:j=k
 ·subst e
  refine ⟨A,c,?_,?_⟩
  ·rw [Array.getElem?_setIfInBounds];simp [h2,hj,updT]
  ·rw [updT,if_pos rfl];exact ht.frT hf hn (by decide)
 ·obtain ⟨A',c',h4,h5⟩:=h3 j hj
  refine ⟨A',c',?_,?_⟩
  ·rw [Array.getElem?_setIfInBounds,if_neg (fun h=>e h.symm),updT,if_neg e];exact h4
  ·rw [updT,if_neg e];exact h5.frT hf hn (by decide)
theorem RowT.other {w:World} {b b' n k:Nat} {I O:Nat→TL} {v:Value} (h:RowT w b n I) (ho:RowT w b' n O) (hne:b≠b'):RowT (w.setCell ⟨b',k,none⟩ v) b n I:=by
 have hn:=ho.noT
 have hf:Fr (fun x=>x=b') w (w.setCell ⟨b',k,none⟩ v):=(Fr.refl (fun x=>x=b') w).setCell (.inl rfl) _
 obtain ⟨cs,h1,h2,h3⟩:=h
 refine ⟨cs,hf.heap h1 hne,h2,fun j hj=>?_⟩
 obtain ⟨A,c,h4,h5⟩:=h3 j hj
 exact ⟨A,c,h4,h5.frT hf hn (by decide)⟩
theorem TlsAt.at_ {w:World} {A:Option Addr} {ls:List TL} (h:TlsAt w A ls) {k:Nat} {s:TL} (hk:ls[k]? = some s):∃ b off A' c,A=some ⟨b,off,none⟩∧b < w.heap.size∧w.cell? ⟨b,off+k,none⟩=some (.slice A' s.length c)∧TlAt w A' s:=by
 obtain ⟨vs,h1,h2,h3⟩:=h
 have hlt:=(List.getElem?_eq_some_iff.1 hk).1
 obtain ⟨b,off,cs,fr,e,hb,hc⟩:=h1.row (by omega)
 have hv:=List.getElem?_eq_getElem (show k < vs.length by omega)
 obtain ⟨A',c,e2,hT⟩:=h3 k _ s hv hk
 exact ⟨b,off,A',c,e,lt_of_heap hb,by rw [hc k _ hv,e2],hT⟩
theorem lv_set {w:World} {bi bo n i:Nat} {I O:Nat→TL} {A1 A2:Option Addr} {c1 c2:Nat} {a b:TL} (hne:bi≠bo) (hI:RowT w bi n I) (hO:RowT w bo n O) (ha:TlAt w A1 a) (hb:TlAt w A2 b):
  RowT ((w.setCell ⟨bi,i,none⟩ (.slice A1 a.length c1)).setCell ⟨bo,i,none⟩ (.slice A2 b.length c2)) bi n (updT I i a)∧RowT ((w.setCell ⟨bi,i,none⟩ (.slice A1 a.length c1)).setCell ⟨bo,i,none⟩ (.slice A2 b.length c2)) bo n (updT O i b):=by
 have h1:=hI.set (k:=i) (c:=c1) ha
 have h2:=hO.other (k:=i) (v:=.slice A1 a.length c1) hI hne.symm
 have hb':TlAt (w.setCell ⟨bi,i,none⟩ (.slice A1 a.length c1)) A2 b:=Rw.frT hb ((Fr.refl (fun x=>x=bi) w).setCell (.inl rfl) _) hI.noT (by decide)
 exact ⟨h1.other h2 hne,h2.set hb'⟩
def oV:Option Nat→Value
 | none=>.int .i64 (-1)
 | some s=>.int .i64 (s:Int)
def SuccAt (w:World) (A:Option Addr) (n:Nat) (sc:Nat→List (Option Nat)):Prop:=∃ vs,Rw w 23 1 A n vs∧∀ k,k < n→∃ A' c,vs[k]? = some (.slice A' (sc k).length c)∧Rw w 3 1 A' (sc k).length ((sc k).map oV)
theorem SuccAt.nope {w w':World} {A:Option Addr} {n:Nat} {sc:Nat→List (Option Nat)} (h:SuccAt w A n sc) (hf:Fr nope w w'):SuccAt w' A n sc:=by
 obtain ⟨vs,h1,h2⟩:=h
 refine ⟨vs,h1.nope hf,fun k hk=>?_⟩
 obtain ⟨A',c,h3,h4⟩:=h2 k hk
 exact ⟨A',c,h3,h4.nope hf⟩
theorem SuccAt.at_ {w:World} {A:Option Addr} {n:Nat} {sc:Nat→List (Option Nat)} (h:SuccAt w A n sc) {k:Nat} (hk:k < n):∃ b off A' c,A=some ⟨b,off,none⟩∧b < w.heap.size∧w.cell? ⟨b,off+k,none⟩=some (.slice A' (sc k).length c)∧Rw w 3 1 A' (sc k).length ((sc k).map oV):=by
 obtain ⟨vs,h1,h2⟩:=h
 obtain ⟨b,off,cs,fr,e,hb,hc⟩:=h1.row (by omega)
 obtain ⟨A',c,h3,h4⟩:=h2 k hk
 exact ⟨b,off,A',c,e,lt_of_heap hb,hc k _ h3,h4⟩
theorem Rw.one {w:World} {e:TypeId} {A:Option Addr} {n:Nat} {xs:List Value} (h:Rw w e 1 A n xs) {k:Nat} {v:Value} (hv:xs[k]? = some v):∃ b off,A=some ⟨b,off,none⟩∧b < w.heap.size∧w.cell? ⟨b,off+k,none⟩=some v:=by
 have hl:=(List.getElem?_eq_some_iff.1 hv).1
 have:=h.len
 obtain ⟨b,off,cs,fr,e,hb,hc⟩:=h.row (by omega)
 exact ⟨b,off,e,lt_of_heap hb,hc k v hv⟩
def lvO (I:Nat→TL) (b:TL):Option Nat→TL
 | some s=>mUnion b (I s)
 | none=>b
theorem lvB_take {sc:List (Option Nat)} {I:Nat→TL} {k:Nat} {o:Option Nat} (h:sc[k]? = some o):lvB (sc.take (k+1)) I []=lvO I (lvB (sc.take k) I []) o:=by
 unfold lvB
 rw [take_snoc h,List.foldl_append]
 cases o<;>rfl
theorem range_at {α : Type} {g:Nat → α} {n k:Nat} (h:k < n):((List.range n).map g)[k]? = some (g k):=by simp [h]
noncomputable def lvTail (n:Nat):Code:=seqTail n (Tryz.f73.body.getD .skip)
def Closed (f:LF) (I O:Nat→TL):Prop:=∀ k,k < f.n→f.B I k=O k∧f.A I k=I k
def GivesLive (w0:World) (f:LF) (e:Ending) (w':World):Prop:=Fr nope w0 w'∧∃ bi bo I O,e = .returned (.tuple #[.slice (some ⟨bi,0,none⟩) f.n f.n,.slice (some ⟨bo,0,none⟩) f.n f.n])∧RowT w' bi f.n I∧RowT w' bo f.n O∧SInv f I O∧Closed f I O
def Sb (V V':Sets):Prop:=∀ p j,Sub (V p j) (V' p j)
theorem Sb.refl (V:Sets):Sb V V:=fun _ _=>Sub.refl _
theorem Sb.trans {a b c:Sets} (h:Sb a b) (k:Sb b c):Sb a c:=fun p j x i hx=>k p j x i (h p j x i hx)
set_option maxHeartbeats 4000000 in
theorem lv_tail (w0 w:World) (f:LF) (hf:f.Ok) (n:Nat) (hn:f.n=n) (AR AW AS:Option Addr) (cR cW cS bi bo:Nat) {u3 u4 u5 u9 u10 u11 u12 u13 u14 u15 u16 u17 u18 u19 u20 u21 u22 u23 u24 u25 u26 u27 u28 u29 u30 u31 u32 u33 u34 u35 u36 u37 u38 u39 u40 u41 u42 u43 u44 u45 u46 u47 u48 u49 u50 u51 u52 u53 u54 u55 u56 u57 u58 u59 u60 u61 u62 u63 u64 u65 u66 u67 u68 u69 u70 u71 u72 u73 u74 u75 u76 u77 u78 u79 u80 u81 u82 u83 u84 u85 u86 u87 u88 u89 u90 u91 u92 u93 u94 u95 u96 u97 u98 u99 u100 u101 u102 u103 u104 u105 u106 u107 u108 u109 u110 u111 u112 u113:Value} (hl:n≤1048576)
  (hR:TlsAt w0 AR ((List.range n).map f.R)) (hW:TlsAt w0 AW ((List.range n).map f.W)) (hS:SuccAt w0 AS n f.sc) (hsl:∀ k,k < n→(f.sc k).length≤1048576) (hne:bi≠bo) (hbi:w0.heap.size≤bi) (hbo:w0.heap.size≤bo) (hfr:Fr nope w0 w) (hI:RowT w bi n fun _=>[]) (hO:RowT w bo n fun _=>[]):
  Code.wp Tryz.prog (lvTail 4) (bodyPost Tryz.prog Tryz.f73 (GivesLive w0 f)) ⟨#[.slice AR n cR,.slice AW n cW,.slice AS n cS,u3,u4,u5,.slice (some ⟨bi,0,none⟩) n n,.slice (some ⟨bo,0,none⟩) n n,.int .i64 (n:Int),u9,u10,u11,u12,u13,u14,u15,u16,u17,u18,u19,u20,u21,u22,u23,u24,u25,u26,u27,u28,u29,u30,u31,u32,u33,u34,u35,u36,u37,u38,u39,u40,u41,u42,u43,u44,u45,u46,u47,u48,u49,u50,u51,u52,u53,u54,u55,u56,u57,u58,u59,u60,u61,u62,u63,u64,u65,u66,u67,u68,u69,u70,u71,u72,u73,u74,u75,u76,u77,u78,u79,u80,u81,u82,u83,u84,u85,u86,u87,u88,u89,u90,u91,u92,u93,u94,u95,u96,u97,u98,u99,u100,u101,u102,u103,u104,u105,u106,u107,u108,u109,u110,u111,u112,u113],[]⟩ w:=by
 subst hn
 conv=>arg 2;whnf
 go_wp2
 go_loopg [9] (1+missing f.n f.U (setsOf (fun _=>[]) (fun _=>[]))) (fun m c9 wr=>∃ (ch:Bool) (I O:Nat→TL),c9 = .bool ch∧Hid (SInv f I O)∧Hid (ch=false→Closed f I O)∧RowT wr bi f.n I∧RowT wr bo f.n O∧Fr nope w0 wr∧m=if ch then 1+missing f.n f.U (setsOf I O) else 0)
 case atStart=>exact ⟨true,fun _=>[],fun _=>[],rfl,Lib.hid (SInv.start f),Lib.hid (fun h=>by cases h),hI,hO,hfr,rfl⟩
 case round=>
  obtain ⟨ch,I,O,rfl,hinv,hcl,hI1,hO1,hf1,rfl⟩:=hrel
  clear hI hO hfr
  cases ch with
  | false=>
   go_wp2
   go_ret2
   exact ⟨hf1,bi,bo,I,O,rfl,hI1,hO1,hinv.out,hcl.out (by first | rfl | trivial)⟩
  | true=>
   clear hcl
   go_wp2
   go_loopg [9,10] f.n (fun m c9 c10 wq=>∃ (j:Nat) (z:Int) (ch:Bool) (I' O':Nat→TL),j≤f.n∧z=(j:Int) - 1∧c10 = .int .i64 z∧c9 = .bool ch∧Hid (SInv f I' O')∧Hid (Sb (setsOf I O) (setsOf I' O'))∧Hid (ch=true→missing f.n f.U (setsOf I' O') < missing f.n f.U (setsOf I O))∧Hid (ch=false→∀ k,j≤k→k < f.n→f.B I' k=O' k∧f.A I' k=I' k)∧RowT wq bi f.n I'∧RowT wq bo f.n O'∧Fr nope w0 wq∧m=0+j)
   case atStart=>exact ⟨f.n,(f.n:Int) - 1,false,I,O,Nat.le_refl _,rfl,rfl,rfl,hinv,Lib.hid (Sb.refl _),Lib.hid (fun h=>by cases h),Lib.hid (fun _ k h1 h2=>by omega),hI1,hO1,hf1,by omega⟩
   case round=>
    obtain ⟨j,z,ch,I',O',hj,hz,rfl,rfl,hinv',hsb,hch,hcl,hI2,hO2,hf2,rfl⟩:=hrel
    clear hI1 hO1 hf1
    rcases j with _ | i
    ·have hz0:¬(0:Int)≤z:=by omega
     clear hz
     go_wp2
     go_roundg (if ch then 1+missing f.n f.U (setsOf I' O') else 0)
     case measure=>
      have h1:=hch.out
      cases ch
      ·simp;omega
      ·have:=h1 rfl;simp;omega
     case rel=>exact ⟨ch,I',O',rfl,hinv',Lib.hid (fun h k hk=>hcl.out h k (Nat.zero_le _) hk),hI2,hO2,hf2,rfl⟩
    ·obtain rfl:z=(i:Int):=by omega
     clear hz
     have hi:i < f.n:=by omega
     have hi0:(0:Int)≤(i:Int):=by omega
     obtain ⟨bs,offs,As,cs,hAS,hbs,hcS,hrow⟩:=hS.at_ hi
     subst hAS
     have hscl:=hsl i hi
     have hti:=hinv'.out.ti
     have hcS2:=hf2.cell hcS (fun x=>x)
     replace hti:=Lib.hid hti
     go_wp2
     go_loopg [11,12] (f.sc i).length (fun m c11 c12 wp=>∃ (k:Nat) (A2:Option Addr) (c2:Nat) (b:TL),k≤(f.sc i).length∧Hid (b=lvB ((f.sc i).take k) I' [])∧Tidy b∧c12 = .int .i64 (k:Int)∧c11 = .slice A2 b.length c2∧TlAt wp A2 b∧Fr nope wr wp∧m=(f.sc i).length - k)
     case atStart=>exact ⟨0,none,0,[],Nat.zero_le _,Lib.hid rfl,.nil,rfl,rfl,Rw.nil _ _ _,Fr.refl _ _,rfl⟩
     case round=>
      obtain ⟨k,A2,c2,b,hk,hb,htb,rfl,rfl,hat,hf3,rfl⟩:=hrel
      have hf23:=hf2.then hf3
      have hcS3:=hf23.cell hcS (fun x=>x)
      by_cases hlt:k < (f.sc i).length
      ·obtain ⟨o,ho⟩:∃ o,(f.sc i)[k]? = some o:=⟨_,List.getElem?_eq_getElem hlt⟩
       obtain ⟨bt,offt,hAs,hbt,hct⟩:=hrow.one (k:=k) (v:=oV o) (by rw [List.getElem?_map,ho];rfl)
       subst hAs
       have hct3:=hf23.cell hct (fun x=>x)
       have hT:=Lib.hid (lvB_take (I:=I') ho)
       have hos:∀ s,o=some s→s < f.n:=fun s e=>hf.s i s hi (by rw [← e];exact List.mem_of_getElem? ho)
       clear ho hcS2
       cases o with
       | none=>
        simp only [oV] at hct3
        go_wp2
        go_roundg ((f.sc i).length - (k+1))
        case measure=>omega
        case rel=>exact ⟨k+1,A2,c2,b,by omega,Lib.hid (hb.out.trans hT.out.symm),htb,by go_num,rfl,hat,hf3,rfl⟩
       | some s=>
        have hs:=hos s rfl
        simp only [oV] at hct3
        obtain ⟨Ai,ci,hci,hai⟩:=(hI2.nope hf3).at_ hs
        have hs0:(0:Int)≤(s:Int):=by omega
        have hs1:(s:Int) < (f.n:Int):=by omega
        have hu:=fun W (hW:Fr nope wr W)=>maskUnion_calls W A2 Ai c2 ci b (I' s) (hat.nope hW) (hai.nope hW) htb (hti.out s)
        replace hu:=Lib.hid hu
        clear hos
        go_wp2_with fail
        refine (hu.out _ (Fr.refl _ _)).mono ?_
        rintro e w4 ⟨hf4,A4,c4,rfl,ht4⟩
        go_wp2
        go_roundg ((f.sc i).length - (k+1))
        case measure=>omega
        case rel=>exact ⟨k+1,A4,c4,mUnion b (I' s),by omega,Lib.hid (by rw [hT.out,← hb.out];rfl),mUnion_tidy (hti.out s) htb,by go_num,rfl,ht4,hf3.then hf4,rfl⟩
      ·rw [take_all hlt] at hb
       have hB:b=f.B I' i:=hb.out
       clear hb hcS2 hrow
       obtain ⟨bw,offw,Aw,cw,hAW,hbw,hcW,htW⟩:=hW.at_ (range_at (g:=f.W) hi)
       obtain ⟨br,offr,Ar,cr,hAR,hbr,hcR,htR⟩:=hR.at_ (range_at (g:=f.R) hi)
       subst hAW hAR
       have htb':=htb.len
       have htw:=hf.w i
       have htr:=hf.r i
       have hcs:∀ W,Fr nope w0 W→W.cell? ⟨bw,offw+i,none⟩=some (.slice Aw (f.W i).length cw)∧W.cell? ⟨br,offr+i,none⟩=some (.slice Ar (f.R i).length cr):=fun W hW'=>⟨hW'.cell hcW (fun x=>x),hW'.cell hcR (fun x=>x)⟩
       have hd:=hf23.drew
       have hdr:Fr nope wr wr.drew:=(Fr.refl nope wr).drew
       have hS0:=hcs _ hd
       have hM:=maskMinus_calls wr.drew A2 Aw c2 cw b (f.W i) (hat.nope hdr) (htW.nope hd) htb htw
       have hmt:Tidy (mMinus b (f.W i)):=mMinus_tidy htb
       have hU:=fun W A c (hW':Fr nope w0 W) (h:TlAt W A (mMinus b (f.W i)))=>maskUnion_calls W A Ar c cr (mMinus b (f.W i)) (f.R i) h (htR.nope hW') hmt htr
       have hA:lvA b (f.W i) (f.R i)=f.A I' i:=by rw [hB];rfl
       have hat':Tidy (lvA b (f.W i) (f.R i)):=lvA_tidy htb htr
       have hatl:=hat'.len
       replace hcs:=Lib.hid hcs
       replace hU:=Lib.hid hU
       replace hmt:=Lib.hid hmt
       replace hA:=Lib.hid hA
       replace hat':=Lib.hid hat'
       replace hB:=Lib.hid hB
       clear hcW hcR htW htR htw htr
       go_wp2
       go_region_held3 (fun W=>W.cell? ⟨bw,offw+i,none⟩=some (.slice Aw (f.W i).length cw)∧W.cell? ⟨br,offr+i,none⟩=some (.slice Ar (f.R i).length cr)) (assumption)
        ((first
         | (go_at_call 118;refine hM.mono ?_;rintro e w5 ⟨hf5,A5,c5,rfl,ht5⟩;have hn5:=hd.then hf5;have hS5:=hcs.out _ hn5)
         | (go_at_call 117;refine (hU.out _ _ _ hn5 ht5).mono ?_;rintro e w6 ⟨hf6,A6,c6,rfl,ht6⟩;have hn6:=hn5.then hf6;have hS6:=hcs.out _ hn6)))
       all_goals
        have hf6':Fr nope wr w6:=(hdr.then hf5).then hf6
        have hI6:=hI2.nope (hf3.then hf6')
        have hO6:=hO2.nope (hf3.then hf6')
        have hb6:TlAt w6 A2 b:=Rw.nope hat hf6'
        have ha6:TlAt w6 A6 (lvA b (f.W i) (f.R i)):=ht6
        have he:mUnion (mMinus b (f.W i)) (f.R i)=lvA b (f.W i) (f.R i):=rfl
        rw [he]
        obtain ⟨a,haa⟩:∃ a,a=lvA b (f.W i) (f.R i):=⟨_,rfl⟩
        rw [← haa] at ha6 hatl ⊢
        have hstep:(f.B I' i≠O' i∨f.A I' i≠I' i)→SInv f (updT I' i a) (updT O' i b)∧Sb (setsOf I O) (setsOf (updT I' i a) (updT O' i b))∧missing f.n f.U (setsOf (updT I' i a) (updT O' i b)) < missing f.n f.U (setsOf I O):=fun hx=>by
         obtain ⟨s1,s2,s3⟩:=hinv'.out.step hf hi
         rw [haa,hA.out,show b=f.B I' i from hB.out]
         exact ⟨s1,hsb.out.trans s2,Nat.lt_of_lt_of_le (s3 hx) (missing_le hsb.out)⟩
        have hab:a=f.A I' i:=by rw [haa,hA.out]
        have hbb:b=f.B I' i:=hB.out
        replace hstep:=Lib.hid hstep
        replace hab:=Lib.hid hab
        replace hbb:=Lib.hid hbb
        clear haa he hA hB ht6 hat' hmt hU hM hS0 hS5 hS6 hcs ht5
        obtain ⟨Ab,cb,hcI,htI⟩:=hI6.at_ hi
        obtain ⟨Ao,co,hcO,htO⟩:=hO6.at_ hi
        have hSL1:=SameLive_calls w6 A2 Ao c2 co b (O' i) hb6 htO htb'
        go_wp2_with fail
        refine hSL1.mono ?_
        rintro e w7 ⟨rfl,hf7⟩
        by_cases e1:b=O' i
        ·rw [decide_eq_true e1]
         have hcI7:=hf7.cell hcI (fun x=>x)
         have hSL2:=SameLive_calls w7 A6 Ab c6 cb a (I' i) (Rw.nope ha6 hf7) (Rw.nope htI hf7) hatl
         replace e1:=Lib.hid e1
         go_wp2_with fail
         refine hSL2.mono ?_
         rintro e w8 ⟨rfl,hf8⟩
         have hf78:=hf7.then hf8
         by_cases e2:a=I' i
         ·rw [decide_eq_true e2]
          have hcl':Hid (ch=false→∀ k,i≤k→k < f.n→f.B I' k=O' k∧f.A I' k=I' k):=Lib.hid fun h k h1 h2=>by
           by_cases hk:k=i
           ·subst hk;exact ⟨by rw [← hbb.out];exact e1.out,by rw [← hab.out];exact e2⟩
           ·exact hcl.out h k (by omega) h2
          clear e2
          go_wp2
          go_roundg (0+i)
          case measure=>omega
          case rel=>exact ⟨i,(i:Int) - 1,ch,I',O',by omega,rfl,by go_num,rfl,hinv',hsb,hch,hcl',hI6.nope hf78,hO6.nope hf78,hn6.then hf78,rfl⟩
         ·rw [decide_eq_false e2]
          replace e2:=Lib.hid e2
          have hIX:=hI6.nope hf78
          have hOX:=hO6.nope hf78
          have haX:TlAt w8 A6 a:=Rw.nope ha6 hf78
          have hbX:TlAt w8 A2 b:=Rw.nope hb6 hf78
          have hfX:Fr nope w0 w8:=hn6.then hf78
          obtain ⟨_,_,hcIX,_⟩:=hIX.at_ hi
          obtain ⟨_,_,hcOX,_⟩:=hOX.at_ hi
          have hzI:=hIX.frozen
          have hO2X:=hOX.other (k:=i) (v:=.slice A6 a.length c6) hIX hne.symm
          obtain ⟨_,_,hcO2,_⟩:=hO2X.at_ hi
          have hzO:=hO2X.frozen
          have hset:=lv_set (i:=i) (c1:=c6) (c2:=c2) hne hIX hOX haX hbX
          have hst:=hstep.out (.inr (by rw [← hab.out];exact e2.out))
          replace hset:=Lib.hid hset
          replace hst:=Lib.hid hst
          clear hO2X hbX haX
          go_wp2
          go_roundg (0+i)
          case measure=>omega
          case rel=>
           have hg1:Fr nope w0 (w8.setCell ⟨bi,i,none⟩ (.slice A6 a.length c6)):=hfX.then_new ((Fr.refl (fun x=>x=bi) w8).setCell (.inl rfl) _) (fun x hx e=>by omega)
           exact ⟨i,(i:Int) - 1,true,_,_,by omega,rfl,by go_num,rfl,Lib.hid hst.out.1,Lib.hid hst.out.2.1,Lib.hid (fun _=>hst.out.2.2),Lib.hid (fun h=>by cases h),hset.out.1,hset.out.2,hg1.then_new ((Fr.refl (fun x=>x=bo) _).setCell (.inl rfl) _) (fun x hx e=>by omega),rfl⟩
        ·rw [decide_eq_false e1]
         replace e1:=Lib.hid e1
         have hIX:=hI6.nope hf7
         have hOX:=hO6.nope hf7
         have haX:TlAt w7 A6 a:=Rw.nope ha6 hf7
         have hbX:TlAt w7 A2 b:=Rw.nope hb6 hf7
         have hfX:Fr nope w0 w7:=hn6.then hf7
         obtain ⟨_,_,hcIX,_⟩:=hIX.at_ hi
         obtain ⟨_,_,hcOX,_⟩:=hOX.at_ hi
         have hzI:=hIX.frozen
         have hO2X:=hOX.other (k:=i) (v:=.slice A6 a.length c6) hIX hne.symm
         obtain ⟨_,_,hcO2,_⟩:=hO2X.at_ hi
         have hzO:=hO2X.frozen
         have hset:=lv_set (i:=i) (c1:=c6) (c2:=c2) hne hIX hOX haX hbX
         have hst:=hstep.out (.inl (by rw [← hbb.out];exact e1.out))
         replace hset:=Lib.hid hset
         replace hst:=Lib.hid hst
         clear hO2X hbX haX
         go_wp2
         go_roundg (0+i)
         case measure=>omega
         case rel=>
          have hg1:Fr nope w0 (w7.setCell ⟨bi,i,none⟩ (.slice A6 a.length c6)):=hfX.then_new ((Fr.refl (fun x=>x=bi) w7).setCell (.inl rfl) _) (fun x hx e=>by omega)
          exact ⟨i,(i:Int) - 1,true,_,_,by omega,rfl,by go_num,rfl,Lib.hid hst.out.1,Lib.hid hst.out.2.1,Lib.hid (fun _=>hst.out.2.2),Lib.hid (fun h=>by cases h),hset.out.1,hset.out.2,hg1.then_new ((Fr.refl (fun x=>x=bo) _).setCell (.inl rfl) _) (fun x hx e=>by omega),rfl⟩
end
section
open Go Go.RowKit Bth
set_option maxRecDepth 100000
theorem row_new {w:World} {n:Nat} (hcs:(madeCells #[.slice none 0 0] n).size=n):RowT (w.alloc (.cells (madeCells #[.slice none 0 0] n) 49)) w.heap.size n fun _=>[]:=by
 refine ⟨_,heap_alloc_new w _,hcs,fun k hk=>⟨none,0,?_,Rw.nil _ _ _⟩⟩
 unfold madeCells
 simp [hk,Nat.mod_one]
set_option maxHeartbeats 4000000 in
theorem Live_calls (w:World) (f:LF) (hf:f.Ok) (AR AW AS:Option Addr) (cR cW cS:Nat) (hl:f.n≤1048576)
  (hR:TlsAt w AR ((List.range f.n).map f.R)) (hW:TlsAt w AW ((List.range f.n).map f.W)) (hS:SuccAt w AS f.n f.sc) (hsl:∀ k,k < f.n→(f.sc k).length≤1048576):
  Calls Tryz.prog 73 #[.slice AR f.n cR,.slice AW f.n cW,.slice AS f.n cS] w (GivesLive w f):=by
 obtain ⟨i,hi,hzz⟩:=Option.map_eq_some_iff.1 infoLs
 simp only [Prod.mk.injEq] at hzz
 obtain ⟨hz,hz1,hz2⟩:=hzz
 obtain ⟨n,hn⟩:∃ n,n=f.n:=⟨_,rfl⟩
 have hmk:∀ W,(Instr.makeSlice 31 (.int .i64 (n:Int)) (.int .i64 (n:Int))).run Tryz.prog W = .ok (.slice (some ⟨W.heap.size,0,none⟩) n n) (W.alloc (.cells (madeCells #[.slice none 0 0] n) 49)):=fun W=>by
  have:=run_make W 31 49 i _ Tryz.underlying31 hi hz .i64 .i64 (n:Int) (n:Int) (by omega) (Int.le_refl _) (by rw [hz2];omega) (by omega)
  rw [hz1] at this
  simp only [Int.toNat_natCast,Nat.mul_one] at this
  exact this
 clear hi hz hz1 hz2
 have hcs:(madeCells #[Value.slice none 0 0] n).size=n:=size_madeCells _ _
 rw [← hn] at hl hR hW hS hsl ⊢
 replace hn:=Lib.hid hn
 replace hcs:=Lib.hid hcs
 have hal:∀ (W:World) o,Fr nope W (W.alloc o):=fun W o=>(Fr.refl _ _).alloc o
 have hdr:∀ W:World,Fr nope W W.drew:=fun W=>(Fr.refl _ _).drew
 have e1:(w.alloc (.cells (madeCells #[.slice none 0 0] n) 49)).heap.size=w.heap.size+1:=by simp
 have hr1:RowT ((w.alloc (.cells (madeCells #[.slice none 0 0] n) 49)).alloc (.cells (madeCells #[.slice none 0 0] n) 49)).drew w.heap.size n fun _=>[]:=((row_new hcs.out).nope (hal _ _)).nope (hdr _)
 have hr2:RowT ((w.alloc (.cells (madeCells #[.slice none 0 0] n) 49)).alloc (.cells (madeCells #[.slice none 0 0] n) 49)).drew (w.heap.size+1) n fun _=>[]:=by
  rw [← e1];exact (row_new hcs.out).nope (hdr _)
 have hfr:Fr nope w ((w.alloc (.cells (madeCells #[.slice none 0 0] n) 49)).alloc (.cells (madeCells #[.slice none 0 0] n) 49)).drew:=((hal _ _).then (hal _ _)).then (hdr _)
 replace hr1:=Lib.hid hr1
 replace hr2:=Lib.hid hr2
 replace hfr:=Lib.hid hfr
 clear e1 hal hdr
 go_enter Tryz.func73,Tryz.ntmps73
 go_wp2
 go_region
 all_goals
  repeat (first
   | exact lv_tail w _ f hf n hn.out.symm AR AW AS cR cW cS w.heap.size (w.heap.size+1) hl hR hW hS hsl (by omega) (by omega) (by omega) hfr.out hr1.out hr2.out
   | exact lv_tail w _ f hf n hn.out.symm AR AW AS cR cW cS (w.heap.size+1) w.heap.size hl hR hW hS hsl (by omega) (by omega) (by omega) hfr.out hr2.out hr1.out
   | go_step | go_back)
end
end Go.Proofs.YtjlfkgjmgghhiaaGreat
