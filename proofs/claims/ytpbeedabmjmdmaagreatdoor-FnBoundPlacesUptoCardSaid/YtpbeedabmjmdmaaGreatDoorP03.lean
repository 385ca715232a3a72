/- Part of the proof of a statement about pub-berthage: what its texts have in common. -/
import Derived.Deep.LoopGhost
import Derived.OwnWalk
import Derived.Maps.RangeWalk
import Derived.Test.YtpbeedabmjmdmaaGreatDoorP01
import Derived.Test.YtpbeedabmjmdmaaGreatDoorP02
namespace Go.Proofs.YtpbeedabmjmdmaaGreatDoor
section
open Go Go.RowKit Go.MapKept Bth
open Go.ChangeMaps (setBlock)
set_option maxRecDepth 100000
def MaskO (w:World) (bo:Option Nat) (F:Nat→Nat):Prop:=(∃ ks,MapO w bo idV ks fun k=>maskV (F k))∧∀ k,F k < 65536
theorem idInj:∀ a b:Nat,idV a=idV b→a=b:=fun a b h=>by simp [idV] at h;omega
theorem MaskAt.o {w:World} {b:Nat} {F:Nat→Nat} (h:MaskAt w b F):MaskO w (some b) F:=h
theorem MaskAt.fr {S:Nat→Prop} {w w':World} {b:Nat} {F:Nat→Nat} (h:MaskAt w b F) (hf:Fr S w w') (hs:¬S b):MaskAt w' b F:=by
 obtain ⟨⟨ks,hm⟩,hF⟩:=h
 exact ⟨⟨ks,hm.fr hf hs⟩,hF⟩
theorem MaskAt.lt {w:World} {b:Nat} {F:Nat→Nat} (h:MaskAt w b F):b < w.heap.size:=by
 obtain ⟨⟨ks,hm⟩,hF⟩:=h
 exact hm.lt
theorem maskV_ne {m:Nat} : maskV m≠none↔m≠0:=by unfold maskV;split<;>simp_all
theorem maskV_some {m:Nat} {v:Value} (h:maskV m=some v):v = .int .u16 (m:Int)∧m≠0:=by
 unfold maskV at h
 split at h
 ·cases h
 ·rename_i hm
  simp only [Option.some.injEq] at h
  exact ⟨h.symm,hm⟩
theorem or_of_and {a b:Nat} (h:a &&& b=b):a ||| b=a:=by
 apply Nat.eq_of_testBit_eq
 intro i
 have:=congrArg (fun x=>x.testBit i) h
 simp only [Nat.testBit_and] at this
 rw [Nat.testBit_or]
 cases h1:a.testBit i<;>cases h2:b.testBit i<;>simp_all
def UpdInv (F G F1:Nat→Nat) (todo:List Nat) (ch:Bool):Prop:=
 todo.Nodup∧(∀ k,F1 k=if k∈todo then F k else F k ||| G k)∧(ch=true↔∃ k,k∉todo∧F k &&& G k≠G k)
theorem UpdInv.start {F G:Nat→Nat} {ks:List Nat} (hn:ks.Nodup) (hks:∀ k,k∈ks↔G k≠0):UpdInv F G F ks false:=by
 have h0:∀ k,k∉ks→G k=0:=fun k hk=>Classical.byContradiction fun h=>hk ((hks k).2 h)
 refine ⟨hn,fun k=>?_,⟨fun h=>by simp at h,fun ⟨k,h1,h2⟩=>?_⟩⟩
 ·by_cases h:k∈ks
  ·rw [if_pos h]
  ·rw [if_neg h,h0 k h];simp
 ·rw [h0 k h1] at h2;simp at h2
theorem UpdInv.at_ {F G F1:Nat→Nat} {todo:List Nat} {ch:Bool} (h:UpdInv F G F1 todo ch) {k:Nat} (hk:k∈todo):F1 k=F k:=by rw [h.2.1,if_pos hk]
theorem UpdInv.stay {F G F1:Nat→Nat} {todo:List Nat} {ch:Bool} (h:UpdInv F G F1 todo ch) {k:Nat} (hk:k∈todo) (he:F1 k &&& G k=G k):UpdInv F G F1 (todo.erase k) ch:=by
 have hF:=h.at_ hk
 rw [hF] at he
 obtain ⟨hn,h1,h2⟩:=h
 refine ⟨hn.erase k,fun x=>?_,h2.trans ⟨fun ⟨x,hx,hh⟩=>⟨x,fun hm=>hx (List.mem_of_mem_erase hm),hh⟩,fun ⟨x,hx,hh⟩=>⟨x,fun hm=>?_,hh⟩⟩⟩
 ·by_cases e:x=k
  ·subst e
   rw [hF,if_neg (fun hm=>((List.Nodup.mem_erase_iff hn).1 hm).1 rfl),or_of_and he]
  ·rw [h1]
   have:x∈todo.erase k↔x∈todo:=by rw [List.Nodup.mem_erase_iff hn];exact ⟨fun h=>h.2,fun h=>⟨e,h⟩⟩
   simp only [this]
 ·by_cases e:x=k
  ·subst e;exact hh he
  ·exact hx ((List.Nodup.mem_erase_iff hn).2 ⟨e,hm⟩)
theorem UpdInv.turn {F G F1:Nat→Nat} {todo:List Nat} {ch:Bool} (h:UpdInv F G F1 todo ch) {k:Nat} (hk:k∈todo) (he:F1 k &&& G k≠G k):UpdInv F G (orM F1 k (G k)) (todo.erase k) true:=by
 have hF:=h.at_ hk
 rw [hF] at he
 obtain ⟨hn,h1,h2⟩:=h
 refine ⟨hn.erase k,fun x=>?_,⟨fun _=>⟨k,fun hm=>((List.Nodup.mem_erase_iff hn).1 hm).1 rfl,he⟩,fun _=>rfl⟩⟩
 unfold orM
 by_cases e:x=k
 ·subst e
  rw [if_pos rfl,hF,if_neg (fun hm=>((List.Nodup.mem_erase_iff hn).1 hm).1 rfl)]
 ·rw [if_neg e,h1]
  have:x∈todo.erase k↔x∈todo:=by rw [List.Nodup.mem_erase_iff hn];exact ⟨fun h=>h.2,fun h=>⟨e,h⟩⟩
  simp only [this]
theorem UpdInv.done {F G F1:Nat→Nat} {ch:Bool} (h:UpdInv F G F1 [] ch):F1=(fun k=>F k ||| G k)∧(ch=true↔∃ k,F k &&& G k≠G k):=by
 obtain ⟨_,h1,h2⟩:=h
 exact ⟨by funext k;rw [h1];simp,h2.trans ⟨fun ⟨k,_,h⟩=>⟨k,h⟩,fun ⟨k,h⟩=>⟨k,by simp,h⟩⟩⟩
def UpdPost (b:Nat) (F G:Nat→Nat) (w:World) (e:Ending) (w':World):Prop:=
 ∃ ch:Bool,e = .returned (.bool ch)∧(ch=true↔∃ k,F k &&& G k≠G k)∧MaskAt w' b (fun k=>F k ||| G k)∧Fr (fun x=>x=b) w w'
set_option maxHeartbeats 1000000 in
theorem Update_calls (w:World) (b:Nat) (F:Nat→Nat) (bo:Option Nat) (G:Nat→Nat) (hb:MaskAt w b F) (ho:MaskO w bo G) (hne:bo≠some b):
  Calls Tryz.prog 77 #[.map (some b),.map bo] w (UpdPost b F G w):=by
 obtain ⟨⟨ks,hO⟩,hG⟩:=ho
 have hks:∀ k,k∈ks↔G k≠0:=fun k=>hO.mem_iff.trans maskV_ne
 have hI0:=UpdInv.start (F:=F) hO.nodup hks
 have hbl:=hb.lt
 clear hks
 go_enter Tryz.func77,Tryz.ntmps77
 go_wp2_with (refine wpList_rangeO rfl rfl rfl hO idInj maskSetT ?_;intro w0 hrg0 hf0 hs0)
 go_frame
 go_loopg [5] ks.length (fun n c5 wr=>∃ (todo:List Nat) (F1:Nat→Nat) (ch:Bool),RangeO wr w.heap.size bo idV ks (fun k=>maskV (G k)) todo∧MaskAt wr b F1∧UpdInv F G F1 todo ch∧c5 = .bool ch∧Fr (fun x=>x=b) w wr∧todo.length=n)
 case atStart=>exact ⟨ks,F,false,hrg0,hb.fr hf0 (fun x=>x),hI0,rfl,hf0.of_nope,rfl⟩
 case round=>
  obtain ⟨todo,F1,ch,hrg,hM,hI,rfl,hfr,rfl⟩:=hrel
  go_wp2_with (refine wpList_nextO rfl rfl rfl hrg idInj ?_ ?_)
  ·intro h0
   subst h0
   obtain ⟨rfl,hch⟩:=hI.done
   have H:=Lib.hid hch
   clear hch
   go_wp2
   go_ret
   exact ⟨ch,rfl,H.out,hM,hfr⟩
  ·intro k v w1 hk hkk hv hrg1 hf1 hs1 hen
   obtain ⟨rfl,hGk⟩:=maskV_some hv
   have hM1:=hM.fr hf1 (by omega)
   have hlen:(todo.erase k).length < todo.length:=by rw [List.length_erase_of_mem hk];have:=List.length_pos_of_mem hk;omega
   have hfr1:Fr (fun x=>x=b) w w1:=hfr.then_new hf1 (fun x hx=>by omega)
   have hb':∀ c,bo=some c→c≠b:=fun c hc e=>hne (by rw [hc,e])
   clear hs1
   unfold idV at hen
   by_cases he:F1 k &&& G k=G k
   ·have hI1:=hI.stay hk he
    have he':=Lib.hid he
    clear he hI hv
    go_wp2_with (go_at_call 104;refine (Add_no _ b F1 k (G k) hM1 (hG k) he'.out).mono ?_;rintro e w2 ⟨rfl,rfl⟩)
    go_roundg (todo.erase k).length
    case measure=>exact hlen
    case rel=>exact ⟨_,_,_,hrg1,hM1,hI1,rfl,hfr1,rfl⟩
   ·have hI1:=hI.turn hk he
    have he':=Lib.hid he
    clear he hI hv
    go_wp2_with (go_at_call 104;refine (Add_yes _ b F1 k (G k) hM1 (hG k) he'.out).mono ?_;rintro e w2 ⟨rfl,hM2,hf2,hs2⟩)
    go_roundg (todo.erase k).length
    case measure=>exact hlen
    case rel=>exact ⟨_,_,_,hrg1.fr hf2 (by omega) hb',hM2,hI1,rfl,hfr1.then hf2,rfl⟩
theorem NewEmpty_calls (w:World):Calls Tryz.prog 76 #[] w fun e w'=>e = .returned (.map (some w.heap.size))∧MaskAt w' w.heap.size (fun _=>0)∧Fr nope w w'∧w'.heap.size=w.heap.size+1:=by
 have hmm:=@run_makeMap Tryz.prog
 go_enter Tryz.func76,Tryz.ntmps76
 go_wp2
 go_ret
 exact ⟨rfl,⟨⟨[],MapAt.made w idV⟩,fun _=>by simp⟩,(Fr.refl _ _).alloc _,by simp⟩
theorem or_ne {a b:Nat} (h:a &&& b≠b):b≠0:=by rintro rfl;simp at h
theorem Add_calls (w:World) (b:Nat) (F:Nat→Nat) (id mask:Nat) (hb:MaskAt w b F) (hm:mask < 65536):
  Calls Tryz.prog 104 #[.map (some b),.int .u32 (id:Int),.int .u16 (mask:Int)] w fun e w'=>e = .returned (.bool (decide (F id &&& mask≠mask)))∧MaskAt w' b (orM F id mask)∧Fr (fun x=>x=b) w w':=by
 by_cases h:F id &&& mask=mask
 ·refine (Add_no w b F id mask hb hm h).mono ?_
  rintro e w' ⟨rfl,rfl⟩
  have e1:orM F id mask=F:=by
   funext x;unfold orM;split
   ·rename_i hx;subst hx;exact or_of_and h
   ·rfl
  exact ⟨by simp [h],by rw [e1];exact hb,Fr.refl _ _⟩
 ·refine (Add_yes w b F id mask hb hm h).mono ?_
  rintro e w' ⟨rfl,h1,h2,h3⟩
  exact ⟨by simp [h],h1,h2⟩
end
section
open Go Go.RowKit Go.MapKept Bth
open Go.ChangeMaps (setBlock)
set_option maxRecDepth 100000
theorem AddRegister_calls (w:World) (b:Nat) (F:Nat→Nat) (r:R) (hb:MaskAt w b F) (ok:r.Ok) (hat:r.At w):
  Calls Tryz.prog 102 #[.map (some b),r.val] w fun e w'=>(∃ ch:Bool,e = .returned (.bool ch))∧MaskAt w' b (orM F r.id r.spec)∧Fr (fun x=>x=b) w w':=by
 have hbl:=hb.lt
 go_enter Tryz.func102,Tryz.ntmps102
 go_wp2_with (first
  | (refine wpList_ID rfl rfl rfl ok hat ?_;intro w1 hf1)
  | (refine wpList_Mask rfl rfl rfl ?_;intro w2 hf2)
  | (go_at_call 104;refine (Add_calls _ b F r.id r.spec ?_ ok.spec).mono ?_;exact (hb.fr hf1 (fun x=>x)).fr hf2 (fun x=>x);rintro e w3 ⟨rfl,hM,hf3⟩))
 go_ret
 exact ⟨⟨_,rfl⟩,hM,(hf1.then hf2).of_nope.then hf3⟩
def ofRegs (rs:List R):Nat→Nat:=rs.foldl (fun F r=>orM F r.id r.spec) (fun _=>0)
theorem ofRegs_take {rs:List R} {k:Nat} {r:R} (h:rs[k]? = some r):ofRegs (rs.take (k+1))=orM (ofRegs (rs.take k)) r.id r.spec:=by
 unfold ofRegs
 rw [List.take_add_one,h]
 simp
def RegsAt (w:World) (A:Option Addr) (rs:List R):Prop:=Sl w A rs.length (rs.map R.val)∧∀ r∈rs,r.Ok∧r.At w
theorem RegsAt.nope {w w':World} {A:Option Addr} {rs:List R} (h:RegsAt w A rs) (hf:Fr nope w w'):RegsAt w' A rs:=⟨h.1.nope hf,fun r hr=>⟨(h.2 r hr).1,(h.2 r hr).2.nope hf⟩⟩
theorem RegsAt.at_ {w:World} {A:Option Addr} {rs:List R} (h:RegsAt w A rs) {k:Nat} (hk:k < rs.length):∃ b off r,A=some ⟨b,off,none⟩∧b < w.heap.size∧rs[k]? = some r∧w.cell? ⟨b,off+k,none⟩=some r.val∧r.Ok∧r.At w:=by
 obtain ⟨b,off,u,e,hb,hu,hc⟩:=h.1.at_ hk
 have hr:=List.getElem?_eq_getElem hk
 rw [List.getElem?_map,hr] at hu
 simp only [Option.map_some,Option.some.injEq] at hu
 subst hu
 have:=h.2 rs[k] (List.getElem_mem hk)
 exact ⟨b,off,rs[k],e,hb,hr,hc,this.1,this.2⟩
set_option maxHeartbeats 1000000 in
theorem FromRegs_calls (w:World) (A:Option Addr) (cap:Nat) (rs:List R) (hr:RegsAt w A rs) (hl:rs.length < 9223372036854775807):
  Calls Tryz.prog 74 #[.slice A rs.length cap] w fun e w'=>e = .returned (.map (some w.heap.size))∧MaskAt w' w.heap.size (ofRegs rs)∧Fr nope w w':=by
 go_enter Tryz.func74,Tryz.ntmps74
 go_wp2_with (go_at_call 76;refine (NewEmpty_calls _).mono ?_;rintro e w0 ⟨rfl,hM0,hf0,hs0⟩)
 clear hs0
 go_loopg [9] rs.length (fun n c9 wr=>∃ k:Nat,k≤rs.length∧c9 = .int .i64 (k:Int)∧MaskAt wr w.heap.size (ofRegs (rs.take k))∧Fr nope w wr∧n=rs.length - k)
 case atStart=>exact ⟨0,Nat.zero_le _,rfl,hM0,hf0,rfl⟩
 case round=>
  obtain ⟨k,hk,rfl,hM,hf,rfl⟩:=hrel
  by_cases hlt:k < rs.length
  ·obtain ⟨b,off,r,rfl,hbl,hrk,hc,ok,hat⟩:=(hr.nope hf).at_ hlt
   have hT:=Lib.hid (ofRegs_take hrk)
   clear hrk hr
   go_wp2_with (go_at_call 102;refine (AddRegister_calls _ _ _ r hM ok hat).mono ?_;rintro e w2 ⟨⟨ch,rfl⟩,hM2,hf2⟩)
   go_roundg (rs.length - (k+1))
   case measure=>omega
   case rel=>exact ⟨k+1,by omega,by go_num,hT.out ▸ hM2,hf.then_new hf2 (fun x hx=>by omega),rfl⟩
  ·go_wp2
   go_ret
   have e:rs.take k=rs:=List.take_of_length_le (by omega)
   rw [e] at hM
   exact ⟨rfl,hM,hf⟩
end
section
open Go Go.RowKit Go.MapKept Bth
open Go.ChangeMaps (setBlock)
set_option maxRecDepth 100000
def andn (a b:Nat):Nat:=a ^^^ (a &&& b)
theorem andn_testBit (a b i:Nat):(andn a b).testBit i=(a.testBit i && !b.testBit i):=by
 unfold andn
 rw [Nat.testBit_xor,Nat.testBit_and]
 cases a.testBit i<;>cases b.testBit i<;>rfl
theorem andn_lt {a b:Nat} (ha:a < 65536):andn a b < 65536:=by
 have:andn a b < 2 ^ 16:=Nat.xor_lt_two_pow ha (Nat.lt_of_le_of_lt Nat.and_le_left ha)
 exact this
theorem andn_of_zero {a b:Nat} (h:a &&& b=0):andn a b=a:=by unfold andn;rw [h];simp
theorem u16_andNot (a b:Nat) (ha:a < 65536) (hb:b < 65536):bits .andNot .u16 (a:Int) (b:Int)=((andn a b:Nat):Int):=by
 have hx:andn a b < 65536:=andn_lt ha
 have h:(BitVec.ofInt 16 (a:Int) &&& ~~~ BitVec.ofInt 16 (b:Int))=BitVec.ofInt 16 (a:Int) ^^^ (BitVec.ofInt 16 (a:Int) &&& BitVec.ofInt 16 (b:Int)):=by
  apply BitVec.eq_of_getLsbD_eq
  intro i hi
  simp only [BitVec.getLsbD_and,BitVec.getLsbD_not,BitVec.getLsbD_xor]
  cases (BitVec.ofInt 16 (a:Int)).getLsbD i<;>cases (BitVec.ofInt 16 (b:Int)).getLsbD i<;>simp [hi]
 show IntKind.u16.wrap ((BitVec.ofInt 16 (a:Int) &&& ~~~ BitVec.ofInt 16 (b:Int)).toNat:Int)=_
 rw [h,BitVec.toNat_xor,BitVec.toNat_and,ofInt_u16 a ha,ofInt_u16 b hb]
 exact wrap_u16 _ hx
def dropM (F:Nat→Nat) (id mask:Nat):Nat→Nat:=fun x=>if x=id then andn (F x) mask else F x
theorem MaskAt.look2 {w:World} {b:Nat} {F:Nat→Nat} (h:MaskAt w b F) (k:Nat):
  (Instr.lookup 128 (.map (some b)) (.int .u32 (k:Int)) true).run Tryz.prog w = .ok (.tuple #[.int .u16 (F k:Int),.bool (decide (F k≠0))]) w:=by
 obtain ⟨⟨ks,hm⟩,_⟩:=h
 have:=hm.lookup idKey maskSetT (zero39 w) k true
 rw [show (Value.int .u32 (k:Int))=idV k from rfl,this]
 unfold maskV
 by_cases h0:F k=0<;>simp [h0]
theorem Discard_no (w:World) (b:Nat) (F:Nat→Nat) (id mask:Nat) (hb:MaskAt w b F) (hm:mask < 65536) (h:F id &&& mask=0):
  Calls Tryz.prog 118 #[.map (some b),.int .u32 (id:Int),.int .u16 (mask:Int)] w fun e w'=>e = .returned (.bool false)∧w=w':=by
 have hl:=hb.look2 id
 have ha:=u16_and (F id) mask (hb.2 id) hm
 rw [h] at ha
 clear h
 by_cases h0:F id=0
 ·rw [show decide (F id≠0)=false by simp [h0]] at hl
  clear h0
  go_enter Tryz.func118,Tryz.ntmps118
  go_wp2
  go_ret
  exact ⟨rfl,rfl⟩
 ·rw [show decide (F id≠0)=true by simp [h0]] at hl
  clear h0
  go_enter Tryz.func118,Tryz.ntmps118
  go_wp2
  go_ret
  exact ⟨rfl,rfl⟩
theorem Discard_yes (w:World) (b:Nat) (F:Nat→Nat) (id mask:Nat) (hb:MaskAt w b F) (hm:mask < 65536) (h:F id &&& mask≠0):
  Calls Tryz.prog 118 #[.map (some b),.int .u32 (id:Int),.int .u16 (mask:Int)] w fun e w'=>e = .returned (.bool true)∧MaskAt w' b (dropM F id mask)∧Fr (fun x=>x=b) w w':=by
 have hl:=hb.look2 id
 have hl0:=hb.look id
 have ha:=u16_and (F id) mask (hb.2 id) hm
 have hn:=u16_andNot (F id) mask (hb.2 id) hm
 have ht:(((F id &&& mask:Nat):Int) == 0)=false:=by rw [beq_eq_false_iff_ne];omega
 have h0:F id≠0:=by rintro e;rw [e] at h;simp at h
 rw [show decide (F id≠0)=true by simp [h0]] at hl
 clear h h0
 by_cases hz:andn (F id) mask=0
 ·obtain ⟨⟨ks,hM⟩,hF⟩:=hb
  obtain ⟨es,clock,hu,hM1⟩:=hM.update idKey maskSetT id (.int .u16 0)
  have hl1:=hM1.lookup idKey maskSetT (zero39 _) id false
  obtain ⟨es2,clock2,hd,hM2⟩:=hM1.delete idKey maskSetT id 0
  simp only [updM,if_true,Option.getD_some,Bool.false_eq_true,if_false] at hl1
  have hf:Fr (fun x=>x=b) w (setBlock (setBlock w b (.map es clock)) b (.map es2 clock2)):=((Fr.refl (fun x=>x=b) w).setBlock (.inl rfl) _).setBlock (.inl rfl) _
  have hfin:MaskAt (setBlock (setBlock w b (.map es clock)) b (.map es2 clock2)) b (dropM F id mask):=by
   refine ⟨⟨(if id∈ks then ks else ks ++ [id]).erase id,?_⟩,fun k=>?_⟩
   ·have e:(fun k=>maskV (dropM F id mask k))=updM (updM (fun k=>maskV (F k)) id (some (.int .u16 0))) id none:=by
     funext x
     unfold updM dropM
     by_cases hx:x=id
     ·subst hx;simp [hz,maskV]
     ·simp [hx]
    rw [e];exact hM2
   ·unfold dropM
    split
    ·exact andn_lt (hF k)
    ·exact hF k
  rw [hz] at hn
  unfold idV at hu hd hl1
  clear hz hM hM1 hM2 hF
  go_enter Tryz.func118,Tryz.ntmps118
  go_wp2
  go_ret
  exact ⟨rfl,hfin,hf⟩
 ·obtain ⟨w1,hu,hM,hf,hs⟩:=hb.put id (andn (F id) mask) (andn_lt (hb.2 id)) hz
  have hl1:=hM.look id
  simp only [if_true] at hl1
  have hM':=Lib.hid hM
  have hz':(((andn (F id) mask:Nat):Int) == 0)=false:=by rw [beq_eq_false_iff_ne];omega
  clear hM hs hz
  go_enter Tryz.func118,Tryz.ntmps118
  go_wp2
  go_ret
  refine ⟨rfl,?_,hf⟩
  have e:dropM F id mask=fun x=>if x=id then andn (F id) mask else F x:=by funext x;unfold dropM;split<;>simp_all
  rw [e];exact hM'.out
theorem Discard_calls (w:World) (b:Nat) (F:Nat→Nat) (id mask:Nat) (hb:MaskAt w b F) (hm:mask < 65536):
  Calls Tryz.prog 118 #[.map (some b),.int .u32 (id:Int),.int .u16 (mask:Int)] w fun e w'=>e = .returned (.bool (decide (F id &&& mask≠0)))∧MaskAt w' b (dropM F id mask)∧Fr (fun x=>x=b) w w':=by
 by_cases h:F id &&& mask=0
 ·refine (Discard_no w b F id mask hb hm h).mono ?_
  rintro e w' ⟨rfl,rfl⟩
  have e1:dropM F id mask=F:=by
   funext x
   unfold dropM
   split
   ·rename_i hx;subst hx;exact andn_of_zero h
   ·rfl
  exact ⟨by simp [h],by rw [e1];exact hb,Fr.refl _ _⟩
 ·refine (Discard_yes w b F id mask hb hm h).mono ?_
  rintro e w' ⟨rfl,h1,h2⟩
  exact ⟨by simp [h],h1,h2⟩
theorem DiscardRegister_calls (w:World) (b:Nat) (F:Nat→Nat) (r:R) (hb:MaskAt w b F) (ok:r.Ok) (hat:r.At w):
  Calls Tryz.prog 86 #[.map (some b),r.val] w fun e w'=>(∃ ch:Bool,e = .returned (.bool ch))∧MaskAt w' b (dropM F r.id r.spec)∧Fr (fun x=>x=b) w w':=by
 have hbl:=hb.lt
 go_enter Tryz.func86,Tryz.ntmps86
 go_wp2_with (first
  | (refine wpList_ID rfl rfl rfl ok hat ?_;intro w1 hf1)
  | (refine wpList_Mask rfl rfl rfl ?_;intro w2 hf2)
  | (go_at_call 118;refine (Discard_calls _ b F r.id r.spec ?_ ok.spec).mono ?_;exact (hb.fr hf1 (fun x=>x)).fr hf2 (fun x=>x);rintro e w3 ⟨rfl,hM,hf3⟩))
 go_ret
 exact ⟨⟨_,rfl⟩,hM,(hf1.then hf2).of_nope.then hf3⟩
def StepInv (F:Nat→Nat) (g:Nat→Nat→Nat) (F1:Nat→Nat) (todo:List Nat):Prop:=todo.Nodup∧∀ k,F1 k=if k∈todo then F k else g k (F k)
theorem StepInv.start {F:Nat→Nat} {g:Nat→Nat→Nat} {ks:List Nat} (hn:ks.Nodup) (h:∀ k,k∉ks→g k (F k)=F k):StepInv F g F ks:=by
 refine ⟨hn,fun k=>?_⟩
 by_cases hk:k∈ks
 ·rw [if_pos hk]
 ·rw [if_neg hk,h k hk]
theorem StepInv.turn {F:Nat→Nat} {g:Nat→Nat→Nat} {F1 F2:Nat→Nat} {todo:List Nat} (h:StepInv F g F1 todo) {k:Nat} (hk:k∈todo) (h2:∀ x,F2 x=if x=k then g k (F1 k) else F1 x):StepInv F g F2 (todo.erase k):=by
 obtain ⟨hn,h1⟩:=h
 refine ⟨hn.erase k,fun x=>?_⟩
 rw [h2]
 by_cases e:x=k
 ·subst e
  rw [if_pos rfl,h1,if_pos hk,if_neg (fun hm=>((List.Nodup.mem_erase_iff hn).1 hm).1 rfl)]
 ·rw [if_neg e,h1]
  have:x∈todo.erase k↔x∈todo:=by rw [List.Nodup.mem_erase_iff hn];exact ⟨fun h=>h.2,fun h=>⟨e,h⟩⟩
  simp only [this]
theorem StepInv.done {F:Nat→Nat} {g:Nat→Nat→Nat} {F1:Nat→Nat} (h:StepInv F g F1 []):F1=fun k=>g k (F k):=by funext k;rw [h.2];simp
set_option maxHeartbeats 1000000 in
theorem DifferenceUpdate_calls (w:World) (b:Nat) (F:Nat→Nat) (bo:Option Nat) (G:Nat→Nat) (hb:MaskAt w b F) (ho:MaskO w bo G) (hne:bo≠some b):
  Calls Tryz.prog 106 #[.map (some b),.map bo] w fun e w'=>(∃ ch:Bool,e = .returned (.bool ch))∧MaskAt w' b (fun k=>andn (F k) (G k))∧Fr (fun x=>x=b) w w':=by
 obtain ⟨⟨ks,hO⟩,hG⟩:=ho
 have hks:∀ k,k∉ks→andn (F k) (G k)=F k:=fun k hk=>by
  have:G k=0:=Classical.byContradiction fun h=>hk ((hO.mem_iff.trans maskV_ne).2 h)
  rw [this];exact andn_of_zero (by simp)
 have hI0:=StepInv.start (F:=F) (g:=fun k x=>andn x (G k)) hO.nodup hks
 have hbl:=hb.lt
 clear hks
 go_enter Tryz.func106,Tryz.ntmps106
 go_wp2_with (refine wpList_rangeO rfl rfl rfl hO idInj maskSetT ?_;intro w0 hrg0 hf0 hs0)
 go_frame
 go_loopg [5] ks.length (fun n c5 wr=>∃ (todo:List Nat) (F1:Nat→Nat) (ch:Bool),RangeO wr w.heap.size bo idV ks (fun k=>maskV (G k)) todo∧MaskAt wr b F1∧StepInv F (fun k x=>andn x (G k)) F1 todo∧c5 = .bool ch∧Fr (fun x=>x=b) w wr∧todo.length=n)
 case atStart=>exact ⟨ks,F,false,hrg0,hb.fr hf0 (fun x=>x),hI0,rfl,hf0.of_nope,rfl⟩
 case round=>
  obtain ⟨todo,F1,ch,hrg,hM,hI,rfl,hfr,rfl⟩:=hrel
  go_wp2_with (refine wpList_nextO rfl rfl rfl hrg idInj ?_ ?_)
  ·intro h0
   subst h0
   obtain rfl:=hI.done
   go_wp2
   go_ret
   exact ⟨⟨ch,rfl⟩,hM,hfr⟩
  ·intro k v w1 hk hkk hv hrg1 hf1 hs1 hen
   obtain ⟨rfl,hGk⟩:=maskV_some hv
   have hM1:=hM.fr hf1 (by omega)
   have hlen:(todo.erase k).length < todo.length:=by rw [List.length_erase_of_mem hk];have:=List.length_pos_of_mem hk;omega
   have hfr1:Fr (fun x=>x=b) w w1:=hfr.then_new hf1 (fun x hx=>by omega)
   have hb':∀ c,bo=some c→c≠b:=fun c hc e=>hne (by rw [hc,e])
   have hI1:=hI.turn (F2:=dropM F1 k (G k)) hk (fun x=>by unfold dropM;split<;>simp_all)
   clear hs1 hv hI
   unfold idV at hen
   by_cases hd:F1 k &&& G k=0
   ·have hdd:decide (F1 k &&& G k≠0)=false:=by simp [hd]
    clear hd
    go_wp2_with (go_at_call 118;refine (Discard_calls _ b F1 k (G k) hM1 (hG k)).mono ?_;rintro e w2 ⟨rfl,hM2,hf2⟩;rw [hdd])
    go_roundg (todo.erase k).length
    case measure=>exact hlen
    case rel=>exact ⟨_,_,_,hrg1.fr hf2 (by omega) hb',hM2,hI1,rfl,hfr1.then hf2,rfl⟩
   ·have hdd:decide (F1 k &&& G k≠0)=true:=by simp [hd]
    clear hd
    go_wp2_with (go_at_call 118;refine (Discard_calls _ b F1 k (G k) hM1 (hG k)).mono ?_;rintro e w2 ⟨rfl,hM2,hf2⟩;rw [hdd])
    go_roundg (todo.erase k).length
    case measure=>exact hlen
    case rel=>exact ⟨_,_,_,hrg1.fr hf2 (by omega) hb',hM2,hI1,rfl,hfr1.then hf2,rfl⟩
set_option maxHeartbeats 1000000 in
theorem Clone_calls (w:World) (bo:Option Nat) (G:Nat→Nat) (ho:MaskO w bo G):
  Calls Tryz.prog 105 #[.map bo] w fun e w'=>e = .returned (.map (some w.heap.size))∧MaskAt w' w.heap.size G∧Fr nope w w':=by
 obtain ⟨⟨ks,hO⟩,hG⟩:=ho
 have hks:∀ k,k∉ks→0 ||| G k=0:=fun k hk=>by
  have:G k=0:=Classical.byContradiction fun h=>hk ((hO.mem_iff.trans maskV_ne).2 h)
  rw [this];simp
 have hI0:=StepInv.start (F:=fun _=>0) (g:=fun k x=>x ||| G k) hO.nodup hks
 have hob:∀ c,bo=some c→c < w.heap.size:=fun c hc=>by subst hc;exact MapAt.lt hO
 clear hks
 go_enter Tryz.func105,Tryz.ntmps105
 go_wp2_with (first
  | (go_at_call 76;refine (NewEmpty_calls _).mono ?_;rintro e wm ⟨rfl,hM0,hfm,hsm⟩)
  | (refine wpList_rangeO rfl rfl rfl (hO.fr hfm (fun _ _ x=>x)) idInj maskSetT ?_;intro w0 hrg0 hf0 hs0))
 go_frame
 have hr0:wm.heap.size=w.heap.size+1:=hsm
 rw [hr0] at hrg0 ⊢
 clear hsm hs0
 go_loopg [] ks.length (fun n wr=>∃ (todo:List Nat) (F1:Nat→Nat),RangeO wr (w.heap.size+1) bo idV ks (fun k=>maskV (G k)) todo∧MaskAt wr w.heap.size F1∧StepInv (fun _=>0) (fun k x=>x ||| G k) F1 todo∧Fr nope w wr∧todo.length=n)
 case atStart=>exact ⟨ks,_,hrg0,hM0.fr hf0 (fun x=>x),hI0,hfm.then hf0,rfl⟩
 case round=>
  obtain ⟨todo,F1,hrg,hM,hI,hfr,rfl⟩:=hrel
  go_wp2_with (refine wpList_nextO rfl rfl rfl hrg idInj ?_ ?_)
  ·intro h0
   subst h0
   have e:F1=G:=by rw [hI.done];funext k;simp
   subst e
   go_wp2
   go_ret
   exact ⟨rfl,hM,hfr⟩
  ·intro k v w1 hk hkk hv hrg1 hf1 hs1 hen
   obtain ⟨rfl,hGk⟩:=maskV_some hv
   have hM1:=hM.fr hf1 (by omega)
   have hlen:(todo.erase k).length < todo.length:=by rw [List.length_erase_of_mem hk];have:=List.length_pos_of_mem hk;omega
   have hfr1:Fr nope w w1:=hfr.then_new hf1 (fun x hx=>by omega)
   have hI1:=hI.turn (F2:=orM F1 k (G k)) hk (fun x=>by unfold orM;split<;>simp_all)
   clear hs1 hv hI
   unfold idV at hen
   go_wp2_with (go_at_call 104;refine (Add_calls _ _ F1 k (G k) hM1 (hG k)).mono ?_;rintro e w2 ⟨rfl,hM2,hf2⟩)
   go_roundg (todo.erase k).length
   case measure=>exact hlen
   case rel=>exact ⟨_,_,hrg1.fr hf2 (by omega) (fun c hc=>by have:=hob c hc;omega),hM2,hI1,hfr1.then_new hf2 (fun x hx=>by omega),rfl⟩
theorem Difference_calls (w:World) (bs:Option Nat) (F:Nat→Nat) (bo:Option Nat) (G:Nat→Nat) (hs:MaskO w bs F) (ho:MaskO w bo G):
  Calls Tryz.prog 79 #[.map bs,.map bo] w fun e w'=>e = .returned (.map (some w.heap.size))∧MaskAt w' w.heap.size (fun k=>andn (F k) (G k))∧Fr nope w w':=by
 have hlt:bo≠some w.heap.size:=by
  rintro rfl
  obtain ⟨⟨ks,hO⟩,_⟩:=ho
  have:=MapAt.lt hO
  omega
 go_enter Tryz.func79,Tryz.ntmps79
 go_wp2_with (first
  | (go_at_call 105;refine (Clone_calls _ bs F hs).mono ?_;rintro e w1 ⟨rfl,hM1,hf1⟩)
  | (go_at_call 106;refine (DifferenceUpdate_calls _ _ F bo G hM1 ?_ hlt).mono ?_;obtain ⟨⟨ks,hO⟩,hG⟩:=ho;exact ⟨⟨ks,hO.fr hf1 (fun _ _ x=>x)⟩,hG⟩;rintro e w2 ⟨⟨ch,rfl⟩,hM2,hf2⟩))
 go_ret
 exact ⟨rfl,hM2,hf1.then_new hf2 (fun x hx=>by omega)⟩
def kindOf (id:Nat):Nat:=id / 256 % 256
theorem IDKind_calls (w:World) (id:Nat):Calls Tryz.prog 117 #[.int .u32 (id:Int)] w fun e w'=>e = .returned (.int .u8 (kindOf id:Int))∧w=w':=by
 have e1:(kindOf id:Int)=(id:Int) / 256 % 256:=by unfold kindOf;omega
 rw [e1]
 clear e1
 go_enter Tryz.func117,Tryz.ntmps117
 go_wp2
 go_ret
 exact ⟨rfl,rfl⟩
theorem ite_zero_lt {c:Prop} [Decidable c] {a:Nat} (h:a < 65536):(if c then a else 0) < 65536:=by split<;>omega
set_option maxHeartbeats 1000000 in
theorem OfKind_calls (w:World) (bo:Option Nat) (G:Nat→Nat) (kd:Nat) (ho:MaskO w bo G):
  Calls Tryz.prog 85 #[.map bo,.int .u8 (kd:Int)] w fun e w'=>e = .returned (.map (some w.heap.size))∧MaskAt w' w.heap.size (fun k=>if kindOf k=kd then G k else 0)∧Fr nope w w':=by
 obtain ⟨⟨ks,hO⟩,hG⟩:=ho
 have hks:∀ k,k∉ks→(if kindOf k=kd then G k else 0)=0:=fun k hk=>by
  have:G k=0:=Classical.byContradiction fun h=>hk ((hO.mem_iff.trans maskV_ne).2 h)
  rw [this];simp
 have hI0:=StepInv.start (F:=fun _=>0) (g:=fun k _=>if kindOf k=kd then G k else 0) hO.nodup hks
 have hob:∀ c,bo=some c→c < w.heap.size:=fun c hc=>by subst hc;exact MapAt.lt hO
 clear hks
 go_enter Tryz.func85,Tryz.ntmps85
 go_wp2_with (first
  | (go_at_call 76;refine (NewEmpty_calls _).mono ?_;rintro e wm ⟨rfl,hM0,hfm,hsm⟩)
  | (refine wpList_rangeO rfl rfl rfl (hO.fr hfm (fun _ _ x=>x)) idInj maskSetT ?_;intro w0 hrg0 hf0 hs0))
 go_frame
 have hr0:wm.heap.size=w.heap.size+1:=hsm
 rw [hr0] at hrg0 ⊢
 clear hsm hs0
 go_loopg [] ks.length (fun n wr=>∃ (todo:List Nat) (F1:Nat→Nat),RangeO wr (w.heap.size+1) bo idV ks (fun k=>maskV (G k)) todo∧MaskAt wr w.heap.size F1∧StepInv (fun _=>0) (fun k _=>if kindOf k=kd then G k else 0) F1 todo∧Fr nope w wr∧todo.length=n)
 case atStart=>exact ⟨ks,_,hrg0,hM0.fr hf0 (fun x=>x),hI0,hfm.then hf0,rfl⟩
 case round=>
  obtain ⟨todo,F1,hrg,hM,hI,hfr,rfl⟩:=hrel
  go_wp2_with (refine wpList_nextO rfl rfl rfl hrg idInj ?_ ?_)
  ·intro h0
   subst h0
   obtain rfl:=hI.done
   go_wp2
   go_ret
   exact ⟨rfl,hM,hfr⟩
  ·intro k v w1 hk hkk hv hrg1 hf1 hs1 hen
   obtain ⟨rfl,hGk⟩:=maskV_some hv
   have hM1:=hM.fr hf1 (by omega)
   have hlen:(todo.erase k).length < todo.length:=by rw [List.length_erase_of_mem hk];have:=List.length_pos_of_mem hk;omega
   have hfr1:Fr nope w w1:=hfr.then_new hf1 (fun x hx=>by omega)
   have hF0:F1 k=0:=by rw [hI.2,if_pos hk]
   clear hs1 hv
   unfold idV at hen
   by_cases hkd:kindOf k=kd
   ·have hI1:=hI.turn (F2:=orM F1 k (G k)) hk (fun x=>by unfold orM;split<;>simp_all)
    have hb:((kindOf k:Int) == (kd:Int))=true:=by rw [beq_iff_eq];omega
    clear hkd hI hF0
    go_wp2_with (first
     | (go_at_call 117;refine (IDKind_calls _ k).mono ?_;rintro e w2 ⟨rfl,rfl⟩)
     | (go_at_call 104;refine (Add_calls _ _ F1 k (G k) hM1 (hG k)).mono ?_;rintro e w2 ⟨rfl,hM2,hf2⟩))
    go_roundg (todo.erase k).length
    case measure=>exact hlen
    case rel=>exact ⟨_,_,hrg1.fr hf2 (by omega) (fun c hc=>by have:=hob c hc;omega),hM2,hI1,hfr1.then_new hf2 (fun x hx=>by omega),rfl⟩
   ·have hI1:=hI.turn (F2:=F1) hk (fun x=>by split<;>simp_all)
    have hb:((kindOf k:Int) == (kd:Int))=false:=by rw [beq_eq_false_iff_ne];omega
    clear hkd hI hF0
    go_wp2_with (go_at_call 117;refine (IDKind_calls _ k).mono ?_;rintro e w2 ⟨rfl,rfl⟩)
    go_roundg (todo.erase k).length
    case measure=>exact hlen
    case rel=>exact ⟨_,_,hrg1,hM1,hI1,hfr1,rfl⟩
theorem u32_and (a b:Nat) (ha:a < 4294967296) (hb:b < 4294967296):bits .and .u32 (a:Int) (b:Int)=((a &&& b:Nat):Int):=by
 have hx:a &&& b < 2 ^ 32:=Nat.and_lt_two_pow _ (by omega)
 show IntKind.u32.wrap ((BitVec.ofInt 32 (a:Int) &&& BitVec.ofInt 32 (b:Int)).toNat:Int)=_
 rw [BitVec.toNat_and,ofInt_u32 a ha,ofInt_u32 b hb,wrap_u32 _ (by omega)]
theorem IsVirtual_calls (w:World) (id:Nat) (hid:id < 4294967296):Calls Tryz.prog 115 #[.int .u32 (id:Int)] w fun e w'=>e = .returned (.bool (isV id))∧w=w':=by
 have ha:bits .and .u32 (id:Int) 1=((id % 2:Nat):Int):=by
  have:=u32_and id 1 hid (by omega)
  rw [Nat.and_one_is_mod] at this
  exact this
 have hb:isV id=(((id % 2:Nat):Int) == 1):=by
  unfold isV
  rw [Bool.eq_iff_iff];simp;omega
 rw [hb]
 clear hb
 go_enter Tryz.func115,Tryz.ntmps115
 go_wp2
 go_ret
 exact ⟨by simp,rfl⟩
theorem IsPhysical_calls (w:World) (id:Nat) (hid:id < 4294967296):Calls Tryz.prog 138 #[.int .u32 (id:Int)] w fun e w'=>e = .returned (.bool (!isV id))∧w=w':=by
 go_enter Tryz.func138,Tryz.ntmps138
 go_wp2_with (go_at_call 115;refine (IsVirtual_calls _ id hid).mono ?_;rintro e w2 ⟨rfl,rfl⟩)
 go_ret
 exact ⟨rfl,rfl⟩
def indexOf (id:Nat):Nat:=id / 65536 % 65536
theorem IDIndex_calls (w:World) (id:Nat):Calls Tryz.prog 178 #[.int .u32 (id:Int)] w fun e w'=>e = .returned (.int .u16 (indexOf id:Int))∧w=w':=by
 have e1:(indexOf id:Int)=(id:Int) / 65536 % 65536:=by unfold indexOf;omega
 rw [e1]
 clear e1
 go_enter Tryz.func178,Tryz.ntmps178
 go_wp2
 go_ret
 exact ⟨rfl,rfl⟩
end
end Go.Proofs.YtpbeedabmjmdmaaGreatDoor
