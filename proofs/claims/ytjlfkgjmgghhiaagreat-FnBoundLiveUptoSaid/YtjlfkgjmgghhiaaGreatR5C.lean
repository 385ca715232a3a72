/- Row 5: what is live of the bound nodes is what is live of the nodes: the walk. -/
import Derived.BigQuiet
import Derived.OwnWalk
import Derived.Deep.RegionHeld3
import Derived.Test.YtjlfkgjmgghhiaaGreatP17
import Derived.Test.YtjlfkgjmgghhiaaGreatP41
import Derived.Test.YtjlfkgjmgghhiaaGreatP42
import Derived.Test.YtjlfkgjmgghhiaaGreatP47
import Derived.Test.YtjlfkgjmgghhiaaGreatP49
import Derived.Test.YtjlfkgjmgghhiaaGreatP50
import Derived.Test.YtjlfkgjmgghhiaaGreatR5A
import Derived.Test.YtjlfkgjmgghhiaaGreatR5B
namespace Go.Proofs.YtjlfkgjmgghhiaaGreat
section
open Go Go.RowKit Go.MapKept Bth
open Go.ChangeMaps (setBlock)
set_option maxRecDepth 100000
def NdT (l:TL):Prop:=(l.map (·.1)).Nodup
theorem Tidy.nd {l:TL} (h:Tidy l):NdT l:=by
 unfold NdT
 induction h with
 | nil=>exact List.nodup_nil
 | @cons x t ht h1 _ _ _ ih=>
  rw [List.map_cons,List.nodup_cons]
  refine ⟨fun hm=>?_,ih⟩
  obtain ⟨y,hy,e⟩:=List.mem_map.1 hm
  have:=h1 y hy
  omega
theorem tv_none {l:TL} {c:Nat} (h:c∉l.map (·.1)):tv l c=0:=by
 induction l with
 | nil=>rfl
 | cons x t ih=>
  rw [List.map_cons,List.mem_cons,not_or] at h
  unfold tv
  rw [if_neg (fun e=>h.1 e.symm),ih h.2]
theorem tv_app {l:TL} {id m c:Nat} (h:id∉l.map (·.1)):tv (l ++ [(id,m)]) c=if c=id then m else tv l c:=by
 induction l with
 | nil=>
  simp only [List.nil_append,tv]
  by_cases e:c=id
  ·rw [if_pos e.symm,if_pos e]
  ·rw [if_neg (fun h=>e h.symm),if_neg e]
 | cons x t ih=>
  rw [List.map_cons,List.mem_cons,not_or] at h
  simp only [List.cons_append,tv]
  rw [ih h.2]
  by_cases e:x.1=c
  ·rw [if_pos e,if_pos e,if_neg (fun h2=>h.1 (h2.symm.trans e.symm))]
  ·rw [if_neg e,if_neg e]
theorem tv_get {l:TL} (h:NdT l) {k:Nat} {x:Nat × Nat} (hk:l[k]? = some x):tv l x.1=x.2:=by
 unfold NdT at h
 induction l generalizing k with
 | nil=>cases hk
 | cons y t ih=>
  rw [List.map_cons,List.nodup_cons] at h
  unfold tv
  cases k with
  | zero=>injection hk with hk;subst hk;rw [if_pos rfl]
  | succ k=>
   have hm:=List.mem_of_getElem? (show t[k]? = some x from hk)
   rw [if_neg (fun e=>h.1 (by rw [e];exact List.mem_map_of_mem hm)),ih h.2 hk]
def mvPut (out:TL) (id m:Nat):TL:=if id∈out.map (·.1) then out.map (fun y=>if y.1=id then (y.1,y.2 ||| m) else y) else out ++ [(id,m)]
theorem map_ids (out:TL) (id m:Nat):(out.map (fun y=>if y.1=id then (y.1,y.2 ||| m) else y)).map (·.1)=out.map (·.1):=by
 rw [List.map_map]
 refine List.map_congr_left fun y _=>?_
 show (if y.1=id then (y.1,y.2 ||| m) else y).1=y.1
 split<;>rfl
theorem mvPut_nd {out:TL} {id m:Nat} (h:NdT out):NdT (mvPut out id m):=by
 unfold NdT at h ⊢
 unfold mvPut
 split
 ·rw [map_ids];exact h
 ·rename_i hn
  rw [List.map_append,List.map_cons,List.map_nil,List.nodup_append]
  refine ⟨h,by simp,?_⟩
  intro a ha b hb
  obtain rfl:b=id:=by simpa using hb
  exact fun e=>hn (e ▸ ha)
theorem tv_put {out:TL} {id m p:Nat} : tv (mvPut out id m) p=if p=id then tv out p ||| m else tv out p:=by
 unfold mvPut
 by_cases h:id∈out.map (·.1)
 ·rw [if_pos h]
  induction out with
  | nil=>simp at h
  | cons y t ih=>
   simp only [List.map_cons,tv]
   by_cases ey:y.1=id
   ·rw [if_pos ey]
    by_cases e:p=id
    ·simp only [if_pos e]
     rw [if_pos (ey.trans e.symm),if_pos (ey.trans e.symm)]
    ·simp only [if_neg e]
     rw [if_neg (fun h=>e (h.symm.trans ey)),if_neg (fun h=>e (h.symm.trans ey))]
     by_cases ht:id∈t.map (·.1)
     ·rw [ih ht,if_neg e]
     ·have:(t.map fun y=>if y.1=id then (y.1,y.2 ||| m) else y)=t:=by
       conv=>rhs;rw [← List.map_id t]
       refine List.map_congr_left fun z hz=>?_
       rw [if_neg (fun e=>ht (by rw [← e];exact List.mem_map_of_mem hz))]
       rfl
      rw [this]
   ·rw [if_neg ey]
    have ht:id∈t.map (·.1):=by
     rcases List.mem_cons.1 h with h | h
     ·exact absurd h.symm ey
     ·exact h
    by_cases e:y.1=p
    ·rw [if_pos e,if_neg (fun h=>ey (e.trans h)),if_pos e]
    ·rw [if_neg e,ih ht,if_neg e]
 ·rw [if_neg h,tv_app h]
  by_cases e:p=id
  ·rw [if_pos e,if_pos e,e,tv_none h,Nat.zero_or]
  ·rw [if_neg e,if_neg e]
def mvL (a:Nat→Nat) (s:TL):TL:=s.foldl (fun out x=>mvPut out (a x.1) x.2) []
theorem mvL_take {a:Nat→Nat} {s:TL} {k:Nat} {x:Nat × Nat} (h:s[k]? = some x):mvL a (s.take (k+1))=mvPut (mvL a (s.take k)) (a x.1) x.2:=by
 unfold mvL
 rw [take_snoc h,List.foldl_append];rfl
theorem mvL_spec (a:Nat→Nat) (s:TL):NdT (mvL a s)∧∀ p b,(tv (mvL a s) p).testBit b=true↔∃ x∈s,a x.1=p∧x.2.testBit b=true:=by
 have key:∀ (s:TL) (out:TL),NdT out→NdT (s.foldl (fun out x=>mvPut out (a x.1) x.2) out)∧∀ p b,(tv (s.foldl (fun out x=>mvPut out (a x.1) x.2) out) p).testBit b=true↔(tv out p).testBit b=true∨∃ x∈s,a x.1=p∧x.2.testBit b=true:=by
  intro s
  induction s with
  | nil=>intro out h;exact ⟨h,fun p b=>by simp⟩
  | cons x s ih=>
   intro out h
   obtain ⟨h1,h2⟩:=ih (mvPut out (a x.1) x.2) (mvPut_nd h)
   refine ⟨h1,fun p b=>?_⟩
   rw [List.foldl_cons,h2,tv_put]
   by_cases e:p=a x.1
   ·rw [if_pos e,Nat.testBit_or,Bool.or_eq_true]
    constructor
    ·rintro ((h | h) | ⟨y,hy,e1,e2⟩)
     ·exact .inl h
     ·exact .inr ⟨x,by simp,e.symm,h⟩
     ·exact .inr ⟨y,by simp [hy],e1,e2⟩
    ·rintro (h | ⟨y,hy,e1,e2⟩)
     ·exact .inl (.inl h)
     ·rcases List.mem_cons.1 hy with rfl | hy
      ·exact .inl (.inr e2)
      ·exact .inr ⟨y,hy,e1,e2⟩
   ·rw [if_neg e]
    constructor
    ·rintro (h | ⟨y,hy,e1,e2⟩)
     ·exact .inl h
     ·exact .inr ⟨y,by simp [hy],e1,e2⟩
    ·rintro (h | ⟨y,hy,e1,e2⟩)
     ·exact .inl h
     ·rcases List.mem_cons.1 hy with rfl | hy
      ·exact absurd e1.symm e
      ·exact .inr ⟨y,hy,e1,e2⟩
 obtain ⟨h1,h2⟩:=key s [] List.nodup_nil
 refine ⟨h1,fun p b=>?_⟩
 show (tv (s.foldl _ []) p).testBit b=true↔_
 rw [h2]
 simp [tv]
end
section
open Go Go.RowKit Go.MapKept Bth
open Go.ChangeMaps (setBlock)
set_option maxRecDepth 100000
def BM (w:World) (b:Nat) (F:Nat→Nat):Prop:=∃ ks,MapAt w b idV ks fun k=>maskV (F k)
theorem u32mT:Tryz.prog.underlying 108=some (.map 74 75):=Tryz.underlying108
theorem BM.lt {w:World} {b:Nat} {F:Nat→Nat} (h:BM w b F):b < w.heap.size:=by obtain ⟨ks,hm⟩:=h;exact hm.lt
theorem BM.fr {T:Nat→Prop} {w w':World} {b:Nat} {F:Nat→Nat} (h:BM w b F) (hf:Fr T w w') (hs:¬T b):BM w' b F:=by obtain ⟨ks,hm⟩:=h;exact ⟨ks,hm.fr hf hs⟩
theorem BM.made (w:World):BM (w.alloc (.map #[] 0)) w.heap.size fun _=>0:=⟨[],by simpa [maskV] using MapAt.made w idV⟩
theorem BM.look {w:World} {b:Nat} {F:Nat→Nat} (h:BM w b F) (k:Nat):(Instr.lookup 108 (.map (some b)) (.int .u32 (k:Int)) false).run Tryz.prog w = .ok (.int .u16 (F k:Int)) w:=by
 obtain ⟨ks,hm⟩:=h
 have:=hm.lookup u32Key u32mT (zero39 w) k false
 rw [show (Value.int .u32 (k:Int))=idV k from rfl,this]
 simp only [Bool.false_eq_true,if_false]
 unfold maskV
 split
 ·rename_i h0;rw [h0];rfl
 ·rfl
theorem BM.put {w:World} {b:Nat} {F:Nat→Nat} (h:BM w b F) (k m:Nat) (hm0:m≠0):
  ∃ w',(Instr.mapUpdate 108 (.map (some b)) (.int .u32 (k:Int)) (.int .u16 (m:Int))).run Tryz.prog w = .ok () w'∧BM w' b (fun x=>if x=k then m else F x)∧Fr (fun x=>x=b) w w'∧w'.heap.size=w.heap.size:=by
 obtain ⟨ks,hM⟩:=h
 obtain ⟨es,clock,h1,h2⟩:=hM.update u32Key u32mT k (.int .u16 (m:Int))
 have e:(fun x=>maskV (if x=k then m else F x))=updM (fun k=>maskV (F k)) k (some (.int .u16 (m:Int))):=by
  funext x
  unfold updM
  by_cases hx:x=k
  ·rw [if_pos hx,if_pos hx];unfold maskV;rw [if_neg hm0]
  ·rw [if_neg hx,if_neg hx]
 exact ⟨setBlock w b (.map es clock),h1,⟨_,by rw [e];exact h2⟩,(Fr.refl (fun x=>x=b) w).setBlock (.inl rfl) _,by simp [setBlock]⟩
theorem BM.del {w:World} {b:Nat} {F:Nat→Nat} (h:BM w b F) (k:Nat) (h0:F k=0) (ty:TypeId):
  ∃ w',(Builtin.delete_ #[108,74] ty #[.map (some b),.int .u32 (k:Int)]).run Tryz.prog w = .ok (.tuple #[]) w'∧BM w' b F∧Fr (fun x=>x=b) w w'∧w'.heap.size=w.heap.size:=by
 obtain ⟨ks,hM⟩:=h
 obtain ⟨es,clock,h1,h2⟩:=hM.delete u32Key u32mT k ty
 have e:(fun x=>maskV (F x))=updM (fun k=>maskV (F k)) k none:=by
  funext x
  unfold updM
  by_cases hx:x=k
  ·rw [if_pos hx,hx,h0];rfl
  ·rw [if_neg hx]
 exact ⟨setBlock w b (.map es clock),h1,⟨_,by rw [e];exact h2⟩,(Fr.refl (fun x=>x=b) w).setBlock (.inl rfl) _,by simp [setBlock]⟩
theorem IDParts_calls (w:World) (id:Nat):Calls Tryz.prog 35 #[.int .u32 (id:Int)] w fun e w'=>(∃ v x y,e = .returned (.tuple #[.bool v,.int .u8 x,.int .u16 y]))∧w'=w:=by
 go_enter Tryz.func35,Tryz.ntmps35
 go_wp2
 go_ret3
 exact ⟨⟨_,_,_,rfl⟩,rfl⟩
theorem tv_take {s:TL} (hn:NdT s) {k:Nat} {x:Nat × Nat} (hk:s[k]? = some x):tv (s.take k) x.1=0∧tv (s.take (k+1))=fun c=>if c=x.1 then x.2 else tv (s.take k) c:=by
 have hm:x.1∉(s.take k).map (·.1):=by
  intro h
  have h1:(s.take (k+1)).map (·.1)=(s.take k).map (·.1) ++ [x.1]:=by rw [take_snoc hk,List.map_append];rfl
  have h2:((s.take (k+1)).map (·.1)).Nodup:=by rw [List.map_take];exact hn.sublist (List.take_sublist _ _)
  rw [h1,List.nodup_append] at h2
  exact h2.2.2 _ h _ (by simp) rfl
 exact ⟨tv_none hm,by funext c;rw [take_snoc hk,show x=(x.1,x.2) from rfl,tv_app hm]⟩
def GivesBM (w:World) (s:TL) (e:Ending) (w':World):Prop:=Fr nope w w'∧∃ b,e = .returned (.map (some b))∧w.heap.size≤b∧BM w' b (tv s)
set_option maxHeartbeats 2000000 in
theorem bits_calls (w:World) (A:Option Addr) (c:Nat) (s:TL) (hs:TlAt w A s) (hn:NdT s) (hl:s.length≤10000000000000):Calls Tryz.prog 53 #[.slice A s.length c] w (GivesBM w s):=by
 have hmm:=@run_makeMap Tryz.prog
 go_enter Tryz.func53,Tryz.ntmps53
 go_wp2
 clear hmm
 have hB0:=BM.made w
 have hf0:Fr nope w (w.alloc (.map #[] 0)):=(Fr.refl nope w).alloc _
 have hsz0:(w.alloc (.map #[] 0)).heap.size=w.heap.size+1:=by simp
 generalize w.alloc (.map #[] 0)=w0 at hB0 hf0 hsz0 ⊢
 go_loopg [9] s.length (fun n c9 wr=>∃ k:Nat,k≤s.length∧c9 = .int .i64 (k:Int)∧Hid (BM wr w.heap.size (tv (s.take k)))∧Fr nope w wr∧w.heap.size < wr.heap.size∧n=s.length - k)
 case atStart=>exact ⟨0,Nat.zero_le _,rfl,Lib.hid hB0,hf0,by omega,rfl⟩
 case round=>
  obtain ⟨k,hk,rfl,hB,hf,hsz,rfl⟩:=hrel
  by_cases hlt:k < s.length
  ·obtain ⟨⟨x1,x2⟩,hx⟩:∃ x,s[k]? = some x:=⟨_,List.getElem?_eq_getElem hlt⟩
   obtain ⟨bt,ot,hAe,hbt,hrt⟩:=(Rw.nope hs hf).at_ tlV_len hx
   subst hAe
   obtain ⟨ht0,ht1⟩:=tv_take hn hx
   simp only at ht0 ht1
   replace hrt:wr.rangeAt bt (ot+k*2) [.int .u32 (x1:Int),.int .u16 (x2:Int)]:=hrt
   replace ht0:=Lib.hid ht0
   replace ht1:=Lib.hid ht1
   clear hx hB0 hf0 hsz0
   go_wp2_with (first
    | (refine wpList_load_mid rfl _ _ rfl bt (ot+k*2) rfl [.int .u32 (x1:Int),.int .u16 (x2:Int)] _ hrt Tryz.underlying77 rfl (by kernel_rfl) ?_)
    | (refine wpList_storeRow (b:=wr.heap.size) (cells:=#[.int .u32 (x1:Int),.int .u16 (x2:Int)]) rfl rfl rfl rfl (heap_alloc_new _ _) rfl (by kernel_rfl) (by kernel_rfl) ?_;intro w11 hb11 hf11;have hn11:Fr nope wr w11:=((Fr.refl nope wr).alloc _).then_new hf11 (fun x hx e=>by omega);have hB11:=hB.out.fr hn11 (fun x=>x);obtain ⟨w12,hdel,hB12,hf12,hs12⟩:=hB11.del x1 ht0.out 0;have hb12:=hf12.heap hb11 (fun e=>by omega);have hd0:w11.cell? ⟨wr.heap.size,0,none⟩=some (.int .u32 (x1:Int)):=cell_of_row _ _ 0 _ _ (0,0) hb11;have hd1:w12.cell? ⟨wr.heap.size,1,none⟩=some (.int .u16 (x2:Int)):=cell_of_row _ _ 1 _ _ (0,0) hb12;have hd2:w12.cell? ⟨wr.heap.size,0,none⟩=some (.int .u32 (x1:Int)):=cell_of_row _ _ 0 _ _ (0,0) hb12;have hn12:Fr nope w w12:=(hf.then hn11).then_new hf12 (fun x hx e=>by omega);have hs11:=hn11.size;replace hB12:=Lib.hid hB12;clear hb11 hb12 hB11;by_cases h2:x2=0;rotate_left;obtain ⟨w13,hput,hB13,hf13,hs13⟩:=hB12.out.put x1 x2 h2;have h2':¬((x2:Int)=0):=by omega))
   ·have hB':Hid (BM w13 w.heap.size (tv (s.take (k+1)))):=Lib.hid (by rw [ht1.out];exact hB13)
    have hn13:Fr nope w w13:=hn12.then_new hf13 (fun x hx e=>by omega)
    clear hB13 hB12 h2
    go_wp2
    go_roundg (s.length - (k+1))
    case measure=>omega
    case rel=>exact ⟨k+1,by omega,by go_num,hB',hn13,by omega,rfl⟩
   ·subst h2
    have e:tv (s.take (k+1))=tv (s.take k):=by
     rw [ht1.out];funext c;by_cases h:c=x1
     ·rw [if_pos h,h,ht0.out]
     ·rw [if_neg h]
    have hB':Hid (BM w12 w.heap.size (tv (s.take (k+1)))):=Lib.hid (by rw [e];exact hB12.out)
    clear hB12 hdel hd0 hd2 e
    go_wp2
    go_roundg (s.length - (k+1))
    case measure=>omega
    case rel=>exact ⟨k+1,by omega,by go_num,hB',hn12,by omega,rfl⟩
  ·rw [take_all hlt] at hB
   go_wp2
   go_ret
   exact ⟨hf,_,rfl,Nat.le_refl _,hB.out⟩
end
section
open Go Go.RowKit Go.MapKept Bth
open Go.ChangeMaps (setBlock)
set_option maxRecDepth 100000
theorem maskV_mem {F:Nat→Nat} {k:Nat} : maskV (F k)≠none↔F k≠0:=by unfold maskV;by_cases h:F k=0<;>simp [h]
set_option maxHeartbeats 1000000 in
theorem equal_calls (w:World) (a b:Nat) (F:Nat→Nat) (ha:BM w a F) (hb:BM w b F):Calls Tryz.prog 52 #[.map (some a),.map (some b)] w (GivesB w true):=by
 obtain ⟨ks,hM⟩:=ha
 obtain ⟨ks',hM'⟩:=hb
 have hlen:ks'.length=ks.length:=by
  have h1:∀ k,k∈ks↔k∈ks':=fun k=>by rw [hM.mem_iff,hM'.mem_iff]
  exact Nat.le_antisymm (nodup_le hM'.nodup fun k hk=>(h1 k).2 hk) (nodup_le hM.nodup fun k hk=>(h1 k).1 hk)
 have hl1:=fun ty=>hM.len u32mT ty
 have hl2:=fun ty=>hM'.len u32mT ty
 rw [hlen] at hl2
 have hO:MapO w (some a) idV ks (fun k=>maskV (F k)):=hM
 have hb:BM w b F:=⟨ks',hM'⟩
 clear hM hM' hlen
 go_enter Tryz.func52,Tryz.ntmps52
 go_wp2_with (refine wpList_rangeO rfl rfl rfl hO idInj u32mT ?_;intro w0 hrg0 hf0 hs0)
 go_frame
 clear hl1 hl2 hO
 go_loopg [] ks.length (fun n wr=>∃ todo:List Nat,RangeO wr w.heap.size (some a) idV ks (fun k=>maskV (F k)) todo∧Fr nope w wr∧w.heap.size < wr.heap.size∧n=todo.length)
 case atStart=>exact ⟨ks,hrg0,hf0,by omega,rfl⟩
 case round=>
  obtain ⟨todo,hrg,hf,hsz,rfl⟩:=hrel
  go_wp2_with (refine wpList_nextO rfl rfl rfl hrg idInj ?_ ?_)
  ·intro h0
   go_wp2
   go_ret
   exact ⟨rfl,hf⟩
  ·intro k v w1 hkt hkk hv hrg1 hf1 hs1 hen
   have hn1:Fr nope w w1:=hf.then_new hf1 (fun x hx e=>by omega)
   have hlk:=(hb.fr hn1 (fun x=>x)).look k
   have hlen:(todo.erase k).length < todo.length:=by rw [List.length_erase_of_mem hkt];have:=List.length_pos_of_mem hkt;omega
   obtain ⟨p,hp,rfl⟩:∃ p,F k=p∧v = .int .u16 (p:Int):=by
    unfold maskV at hv
    split at hv
    ·cases hv
    ·injection hv with hv;exact ⟨_,rfl,hv.symm⟩
   rw [hp] at hlk
   replace hp:=Lib.hid hp
   unfold idV at hen
   clear hv hrg
   go_wp2
   go_roundg (todo.erase k).length
   case measure=>exact hlen
   case rel=>exact ⟨_,hrg1,hn1,by omega,rfl⟩
theorem masks_calls (w:World) (A1 A2:Option Addr) (c1 c2:Nat) (s1 s2:TL) (h1:TlAt w A1 s1) (h2:TlAt w A2 s2) (n1:NdT s1) (n2:NdT s2) (l1:s1.length≤10000000000000) (l2:s2.length≤10000000000000) (he:tv s1=tv s2):
  Calls Tryz.prog 20 #[.slice A1 s1.length c1,.slice A2 s2.length c2] w (GivesB w true):=by
 replace he:=Lib.hid he
 go_enter Tryz.func20,Tryz.ntmps20
 go_wp2_with fail
 refine (bits_calls w A1 c1 s1 h1 n1 l1).mono ?_
 rintro e w1 ⟨hf1,b1,rfl,_,hB1⟩
 go_wp2_with fail
 refine (bits_calls w1 A2 c2 s2 (Rw.nope h2 hf1) n2 l2).mono ?_
 rintro e w2 ⟨hf2,b2,rfl,_,hB2⟩
 have hB1':=hB1.fr hf2 (fun x=>x)
 rw [← he.out] at hB2
 go_wp2_with fail
 refine (equal_calls w2 b1 b2 _ hB1' hB2).mono ?_
 rintro e w3 ⟨rfl,hf3⟩
 go_wp2
 go_ret
 exact ⟨rfl,(hf1.then hf2).then hf3⟩
set_option maxHeartbeats 1000000 in
theorem early_calls (w:World) (A:Option Addr) (c:Nat) (ls:List TL) (h:TlsAt w A ls) (hl:∀ s∈ls,s.length≤10000000000000):Calls Tryz.prog 11 #[.slice A ls.length c] w (GivesAny w):=by
 go_enter Tryz.func11,Tryz.ntmps11
 by_cases h0:ls.length=0
 ·have h0':(ls.length:Int)=0:=by omega
  clear hl h
  go_wp2
  go_ret
  exact ⟨Fr.refl _ _,_,rfl⟩
 have h0':¬(ls.length:Int)=0:=by omega
 have h0'':(0:Int) < (ls.length:Int):=by omega
 have hq0:((ls.length:Int) == 0)=false:=beq_eq_false_iff_ne.2 h0'
 obtain ⟨s,hs⟩:∃ s,ls[0]? = some s:=⟨_,List.getElem?_eq_getElem (by omega)⟩
 obtain ⟨b,off,A1,c1,hAe,hbl,hc,hT⟩:=h.at_ hs
 rw [Nat.add_zero] at hc
 subst hAe
 have hsl:=hl s (List.mem_of_getElem? hs)
 clear h hl hs
 go_wp2
 go_loopg [15] s.length (fun m c15 wr=>∃ k:Nat,k≤s.length∧c15 = .int .i64 (k:Int)∧Fr nope w wr∧m=s.length - k)
 case atStart=>exact ⟨0,Nat.zero_le _,rfl,Fr.refl _ _,rfl⟩
 case round=>
  obtain ⟨k,hk,rfl,hf,rfl⟩:=hrel
  by_cases hlt:k < s.length
  ·obtain ⟨⟨x1,x2⟩,hx⟩:∃ x,s[k]? = some x:=⟨_,List.getElem?_eq_getElem hlt⟩
   obtain ⟨bt,ot,hAe,hbt,hrt⟩:=(Rw.nope hT hf).at_ tlV_len hx
   subst hAe
   replace hrt:wr.rangeAt bt (ot+k*2) [.int .u32 (x1:Int),.int .u16 (x2:Int)]:=hrt
   clear hx
   go_wp2_with (first
    | (refine wpList_load_mid rfl _ _ rfl bt (ot+k*2) rfl [.int .u32 (x1:Int),.int .u16 (x2:Int)] _ hrt Tryz.underlying77 rfl (by kernel_rfl) ?_)
    | (refine wpList_storeRow (b:=wr.heap.size) (cells:=#[.int .u32 (x1:Int),.int .u16 (x2:Int)]) rfl rfl rfl rfl (heap_alloc_new _ _) rfl (by kernel_rfl) (by kernel_rfl) ?_;intro w11 hb11 hf11;have hn11:Fr nope wr w11:=((Fr.refl nope wr).alloc _).then_new hf11 (fun x hx e=>by omega);have hd0:w11.cell? ⟨wr.heap.size,0,none⟩=some (.int .u32 (x1:Int)):=cell_of_row _ _ 0 _ _ (0,0) hb11;clear hb11))
   refine (IDParts_calls w11 x1).mono ?_
   rintro e w12 ⟨⟨v,x,y,rfl⟩,rfl⟩
   cases v with
   | true=>
    go_wp2
    go_ret
    exact ⟨hf.then hn11,_,rfl⟩
   | false=>
    go_wp2
    go_roundg (s.length - (k+1))
    case measure=>omega
    case rel=>exact ⟨k+1,by omega,by go_num,hf.then hn11,rfl⟩
  ·go_wp2
   go_ret
   exact ⟨hf,_,rfl⟩
end
section
open Go Go.RowKit Go.MapKept Bth
set_option maxRecDepth 100000
theorem own_setK {w:World} {base n size:Nat} {e:TypeId} {g c:Nat} {xs:List Value} (h:w.ownsRow base e size (.slice (some ⟨g,0,none⟩) n c) n xs) (j:Nat) (v:Value):(w.setCell ⟨g,j,none⟩ v).ownsRow base e size (.slice (some ⟨g,0,none⟩) n c) n (xs.set j v):=by
 refine ⟨by rw [List.length_set];exact h.1,.inr ?_⟩
 rcases h.2 with ⟨h1,_⟩ | ⟨g',cap,cur,h1,h2,h3,h4,h5,h6,h7⟩
 ·cases h1
 ·injection h1 with e1 _ e2
  injection e1 with e1
  injection e1 with e1
  subst e1 e2
  refine ⟨g,c,cur.setIfInBounds j v,rfl,h2,setCell_heap h3 v,h4,h5,by simpa using h6,?_⟩
  rw [Array.toList_setIfInBounds,List.take_set,h7]
theorem flat_set2:∀ {l:TL} {k:Nat} {x:Nat × Nat} (m:Nat),l[k]? = some x→(l.flatMap tlV).set (k*2+1) (.int .u16 (m:Int))=(l.set k (x.1,m)).flatMap tlV
 | [],_,_,_,h=>by cases h
 | y :: l,0,x,m,h=>by
  injection h with h
  subst h
  rfl
 | y :: l,k+1,x,m,h=>by
  rw [List.set_cons_succ,List.flatMap_cons,List.flatMap_cons,← flat_set2 m (show l[k]? = some x from h)]
  have e:(k+1)*2+1=2+(k*2+1):=by omega
  rw [e,List.set_append_right _ _ (by simp [tlV])]
  simp [tlV]
def updT1 (id m:Nat) (y:Nat × Nat):Nat × Nat:=if y.1=id then (y.1,y.2 ||| m) else y
def mvJ (out:TL) (id m j:Nat):TL:=(out.take j).map (updT1 id m) ++ out.drop j
theorem mvJ_len (out:TL) (id m j:Nat):(mvJ out id m j).length=out.length:=by
 unfold mvJ
 rw [List.length_append,List.length_map,List.length_take,List.length_drop]
 omega
theorem mvJ_get {out:TL} {id m j:Nat} {y:Nat × Nat} (h:out[j]? = some y):(mvJ out id m j)[j]? = some y:=by
 have hj:=(List.getElem?_eq_some_iff.1 h).1
 unfold mvJ
 have hl:((out.take j).map (updT1 id m)).length=j:=by rw [List.length_map,List.length_take];omega
 rw [List.getElem?_append_right (by omega),hl,Nat.sub_self,List.getElem?_drop]
 exact h
theorem mvJ_step {out:TL} {id m j:Nat} {y:Nat × Nat} (h:out[j]? = some y):(mvJ out id m j).set j (updT1 id m y)=mvJ out id m (j+1):=by
 have hj:=(List.getElem?_eq_some_iff.1 h).1
 unfold mvJ
 have hl:((out.take j).map (updT1 id m)).length=j:=by rw [List.length_map,List.length_take];omega
 have hd:out.drop j=y :: out.drop (j+1):=by
  rw [List.drop_eq_getElem_cons hj]
  congr 1
  exact Option.some.inj ((List.getElem?_eq_getElem hj).symm.trans h)
 rw [List.set_append_right _ _ (by omega),hl,Nat.sub_self,hd,List.set_cons_zero,take_snoc h,List.map_append,List.append_assoc]
 rfl
theorem mvJ_same {out:TL} {id m j:Nat} {y:Nat × Nat} (h:out[j]? = some y) (hne:y.1≠id):mvJ out id m (j+1)=mvJ out id m j:=by
 rw [← mvJ_step h]
 have e:updT1 id m y=y:=by unfold updT1;rw [if_neg hne]
 rw [e]
 have hg:=mvJ_get (id:=id) (m:=m) h
 refine List.ext_getElem? fun i=>?_
 rw [List.getElem?_set]
 split
 ·rename_i hi
  subst hi
  rw [if_pos (List.getElem?_eq_some_iff.1 hg).1,hg]
 ·rfl
theorem mvJ_zero (out:TL) (id m:Nat):mvJ out id m 0=out:=by unfold mvJ;simp
theorem mvJ_done (out:TL) (id m:Nat):mvJ out id m out.length=out.map (updT1 id m):=by unfold mvJ;simp
theorem mvPut_found {out:TL} {id m:Nat} (h:id∈out.map (·.1)):mvPut out id m=out.map (updT1 id m):=by unfold mvPut;rw [if_pos h];rfl
theorem mvPut_new {out:TL} {id m:Nat} (h:id∉out.map (·.1)):mvPut out id m=out ++ [(id,m)]:=by unfold mvPut;rw [if_neg h]
theorem mvJ_new {out:TL} {id m:Nat} (h:id∉out.map (·.1)):out.map (updT1 id m)=out:=by
 conv=>rhs;rw [← List.map_id out]
 refine List.map_congr_left fun z hz=>?_
 unfold updT1
 rw [if_neg (fun e=>h (by rw [← e];exact List.mem_map_of_mem hz))]
 rfl
def B16 (l:TL):Prop:=∀ y∈l,y.2 < 65536
theorem B16.put {out:TL} (h:B16 out) {id m:Nat} (hm:m < 65536):B16 (mvPut out id m):=by
 intro y hy
 unfold mvPut at hy
 split at hy
 ·obtain ⟨z,hz,rfl⟩:=List.mem_map.1 hy
  split
  ·exact Nat.or_lt_two_pow (n:=16) (h z hz) hm
  ·exact h z hz
 ·rcases List.mem_append.1 hy with hy | hy
  ·exact h y hy
  ·obtain rfl:y=(id,m):=by simpa using hy
   exact hm
theorem noneT_no {T:List Nat} {listed:Array Bool} (h:(T.all fun t=>!(listed.getD t true))=false):¬noneT T listed:=fun hn=>by
 have:(T.all fun t=>!(listed.getD t true))=true:=List.all_eq_true.2 fun t ht=>by simpa using hn t ht
 rw [h] at this;cases this
noncomputable def mvReg:Array Oper:=findReg 11 (Tryz.f21.body.getD .skip)
theorem idxLv (g n c p:Nat) (hp:p < n) (w:World):(Instr.indexAt 49 (.slice (some ⟨g,0,none⟩) n c) (.int .i64 (p:Int))).run Tryz.prog w = .ok (.pointer (some ⟨g,p*2,none⟩)) w:=by
 have h0:(0:Int)≤(p:Int):=by omega
 have h1:(p:Int) < (n:Int):=by omega
 go_simp
theorem fldLv (g off:Nat) (w:World):(Instr.fieldAt 77 (.pointer (some ⟨g,off,none⟩)) 1).run Tryz.prog w = .ok (.pointer (some ⟨g,off+1,none⟩)) w:=by go_simp
set_option maxHeartbeats 2000000 in
theorem rgMv {a0:Act} {w:World} {Q:Exit→Act→World→Prop} {S:World→Prop} {g n c xb j m1 m2:Nat}
  (h0:Bun a0 53 [(5,.slice (some ⟨g,0,none⟩) n c),(9,.int .i64 (j:Int)),(7,.pointer (some ⟨xb,0,none⟩))]) (hQ:∀ d v c a w,Q (.panic c) (a.put d v) w→Q (.panic c) a w)
  (hj:j < n) (hS0:S w.drew) (hS:∀ w,S w→w.cell? ⟨g,j*2+1,none⟩=some (.int .u16 (m1:Int))∧w.cell? ⟨xb,1,none⟩=some (.int .u16 (m2:Int)))
  (hor:bits .or .u16 (m1:Int) (m2:Int)=((m1 ||| m2:Nat):Int)) (hz:w.drew.frozen? ⟨g,j*2+1,none⟩=false)
  (h:∀ x34 x35 x36 x37 x38 x39 x40 x41 x42 x43,Q .normal (putL a0 [(34,x34),(35,x35),(36,x36),(37,x37),(38,x38),(39,x39),(40,x40),(41,x41),(42,x42),(43,x43)]) (w.drew.setCell ⟨g,j*2+1,none⟩ (.int .u16 ((m1 ||| m2:Nat):Int)))):(Code.region 11 mvReg true).wp Tryz.prog Q a0 w:=by
 refine wp_region_T (S:=S) (T:=[10]) (by kernel_rfl) ?_
 rw [show mvReg.size=11 from by kernel_rfl]
 have hT:∀ {l:Array Bool},noneT [10] l→S w.drew:=fun _=>hS0
 refine takeM h0 hT hQ 0 34 5 _ (by unfold isB;kernel_rfl) (by kernel_rfl) rfl fun a0 e0 h0=>?_
 refine takeM h0 hT hQ 1 35 9 _ (by unfold isB;kernel_rfl) (by kernel_rfl) rfl fun a1 e1 h0=>?_
 refine takeI h0 hT hQ 2 36 34 35 49 _ _ ⟨g,j*2,none⟩ (by unfold isB;kernel_rfl) (by kernel_rfl) rfl rfl (idxLv g n c j hj) fun a2 e2 h0=>?_
 refine takeF h0 hT hQ 3 37 36 1 77 _ ⟨g,j*2+1,none⟩ (by unfold isB;kernel_rfl) (by kernel_rfl) rfl (fldLv g (j*2)) fun a3 e3 h0=>?_
 refine takeC h0 hS0 hQ 4 38 37 75 _ (.int .u16 (m1:Int)) (by unfold isB;kernel_rfl) (by kernel_rfl) rfl (fun w hw=>by have hc:=(hS w hw).1;go_simp) fun a4 e4 h0=>?_
 refine takeF h0 hT hQ 5 39 7 1 77 _ ⟨xb,1,none⟩ (by unfold isB;kernel_rfl) (by kernel_rfl) rfl (fldLv xb 0) fun a5 e5 h0=>?_
 refine takeC h0 hS0 hQ 6 40 39 75 _ (.int .u16 (m2:Int)) (by unfold isB;kernel_rfl) (by kernel_rfl) rfl (fun w hw=>by have hc:=(hS w hw).2;go_simp) fun a6 e6 h0=>?_
 refine takeU h0 hT hQ 7 41 _ (.int .u16 ((m1 ||| m2:Nat):Int)) (show isB mvReg 7 41 (.binOp .or 75 (.tmp 38) (.tmp 40) 75) from by unfold isB;kernel_rfl) (by kernel_rfl) (fun o e w=>by have h1:=h0.at_ 38 _ rfl;have h2:=h0.at_ 40 _ rfl;simp only [execOp,e,h1,h2];go_simp) fun a7 e7 h0=>?_
 refine takeI h0 hT hQ 8 42 34 35 49 _ _ ⟨g,j*2,none⟩ (by unfold isB;kernel_rfl) (by kernel_rfl) rfl rfl (idxLv g n c j hj) fun a8 e8 h0=>?_
 refine takeF h0 hT hQ 9 43 42 1 77 _ ⟨g,j*2+1,none⟩ (by unfold isB;kernel_rfl) (by kernel_rfl) rfl (fldLv g (j*2)) fun a9 e9 h0=>?_
 have hc:=(hS _ hS0).1
 refine wpAnyT_next (i:=10) (by kernel_rfl) (opAt_get (n:=11) (by kernel_rfl) rfl) (by kernel_rfl) fun K hK=>?_
 have hrun:(execOp a9.eval (opAt mvReg 10)).run Tryz.prog w.drew = .ok .skip (w.drew.setCell ⟨g,j*2+1,none⟩ (.int .u16 ((m1 ||| m2:Nat):Int))):=by
  have h1:=h0.at_ 43 _ rfl
  have h2:=h0.at_ 41 _ rfl
  simp only [execOp,show (opAt mvReg 10).op = .store 75 (.tmp 43) (.tmp 41) from by kernel_rfl,h1,h2]
  go_simp
 show (opAt mvReg 10).upon Tryz.prog a9 K Q ((execOp a9.eval (opAt mvReg 10)).run Tryz.prog w.drew)
 rw [hrun]
 show K (a9.put (opAt mvReg 10).dst undef) _
 rw [show (opAt mvReg 10).dst=none from by kernel_rfl]
 refine hK.out _ _ (fun hn=>absurd hn (noneT_no (by kernel_rfl))) (wpAnyT_done (by kernel_rfl) ?_ _)
 subst e9 e8 e7 e6 e5 e4 e3 e2 e1 e0
 exact h _ _ _ _ _ _ _ _ _ _
end
section
open Go Go.RowKit Go.MapKept Bth
set_option maxRecDepth 100000
def GivesMv (w:World) (t:TL) (e:Ending) (w':World):Prop:=Fr nope w w'∧∃ A c,e = .returned (.slice A t.length c)∧TlAt w' A t
theorem mvL_len (a:Nat→Nat) (s:TL):(mvL a s).length≤s.length:=by
 have key:∀ (s:TL) (out:TL),(s.foldl (fun out x=>mvPut out (a x.1) x.2) out).length≤out.length+s.length:=by
  intro s
  induction s with
  | nil=>intro out;exact Nat.le_refl _
  | cons x s ih=>
   intro out
   have h1:=ih (mvPut out (a x.1) x.2)
   have h2:(mvPut out (a x.1) x.2).length≤out.length+1:=by
    unfold mvPut
    split
    ·rw [List.length_map];omega
    ·rw [List.length_append];exact Nat.le_refl _
   rw [List.foldl_cons,List.length_cons]
   omega
 have:=key s []
 simpa [mvL] using this
set_option maxHeartbeats 8000000 in
theorem moved_calls (w:World) (A AA:Option Addr) (c cA:Nat) (s:TL) (l:List (Nat × Nat)) (hs:TlAt w A s) (ht:Tidy s) (hA:PairsAt w AA l) (hll:l.length≤1000000000):
  Calls Tryz.prog 21 #[.slice A s.length c,.slice AA l.length cA] w (GivesMv w (mvL (aid l) s)):=by
 have hsl:=ht.len
 go_enter Tryz.func21,Tryz.ntmps21
 go_wp2
 go_loopg [5,12] s.length (fun m c5 c12 wr=>∃ (k:Nat) (A1:Option Addr) (d1:Nat) (out:TL),k≤s.length∧c12 = .int .i64 (k:Int)∧c5 = .slice A1 out.length d1∧Hid (out=mvL (aid l) (s.take k))∧Hid (B16 out)∧out.length≤k∧wr.ownsRow w.heap.size 77 2 (.slice A1 out.length d1) out.length (out.flatMap tlV)∧Fr nope w wr∧m=s.length - k)
 case atStart=>exact ⟨0,none,0,[],Nat.zero_le _,rfl,rfl,Lib.hid rfl,Lib.hid (fun y hy=>by cases hy),Nat.le_refl _,own_nil _ _ _ _,Fr.refl _ _,rfl⟩
 case round=>
  obtain ⟨k,A1,d1,out,hk,rfl,rfl,hout,hB,hol,hown,hf,rfl⟩:=hrel
  by_cases hlt:k < s.length
  ·obtain ⟨⟨x1,x2⟩,hx⟩:∃ x,s[k]? = some x:=⟨_,List.getElem?_eq_getElem hlt⟩
   obtain ⟨bt,ot,hAe,hbt,hrt⟩:=(Rw.nope hs hf).at_ tlV_len hx
   subst hAe
   have hx16:=(ht.bound _ (List.mem_of_getElem? hx)).2.1
   simp only at hx16
   have hT:=Lib.hid (mvL_take (a:=aid l) hx)
   replace hrt:wr.rangeAt bt (ot+k*2) [.int .u32 (x1:Int),.int .u16 (x2:Int)]:=hrt
   have hsz:=hf.size
   clear hx
   go_wp2_with (first
    | (refine wpList_load_mid rfl _ _ rfl bt (ot+k*2) rfl [.int .u32 (x1:Int),.int .u16 (x2:Int)] _ hrt Tryz.underlying77 rfl (by kernel_rfl) ?_)
    | (refine wpList_storeRow (b:=wr.heap.size) (cells:=#[.int .u32 (x1:Int),.int .u16 (x2:Int)]) rfl rfl rfl rfl (heap_alloc_new _ _) rfl (by kernel_rfl) (by kernel_rfl) ?_;intro w11 hb11 hf11;have hn11:Fr nope wr w11:=((Fr.refl nope wr).alloc _).then_new hf11 (fun x hx e=>by omega);have hd0:w11.cell? ⟨wr.heap.size,0,none⟩=some (.int .u32 (x1:Int)):=cell_of_row _ _ 0 _ _ (0,0) hb11;have hs11:=lt_of_heap hb11))
   refine (AllocatedID_calls w11 AA cA l x1 (hA.fr (hf.then hn11)) hll).mono ?_
   rintro e w12 ⟨rfl,hf12⟩
   obtain ⟨id,hid⟩:∃ id,id=aid l x1:=⟨_,rfl⟩
   have hT':Hid (mvL (aid l) (s.take (k+1))=mvPut out id x2):=Lib.hid (by rw [hT.out,hout.out,hid])
   rw [← hid]
   have hb12:=hf12.heap hb11 (fun x=>x)
   have hz12:=frozen_row hb12
   have hc12:=fun j=>cell_of_row _ _ j _ _ (0,0) hb12
   have hn12:Fr nope w w12:=(hf.then hn11).then hf12
   have hown12:=own_fr hown (hn11.then hf12) (fun _ _ x=>x)
   have hsz12:=hf12.size
   obtain ⟨bx,hbx⟩:∃ bx,bx=wr.heap.size:=⟨_,rfl⟩
   rw [← hbx] at hb12 hz12 hc12 hs11 ⊢
   have hbw:w.heap.size≤bx:=by omega
   have hbo:=own_base hown12
   have hol12:∀ x,Value.ownBlock (.slice A1 out.length d1)=some x→x≠bx:=fun x hx e=>by have:=own_lt hown x hx;omega
   replace hid:=Lib.hid hid
   replace hbx:=Lib.hid hbx
   clear hb11 hd0 hrt hout hT hown
   go_wp2
   have hb13:(w12.setCell ⟨bx,0,none⟩ (.int .u32 (id:Int))).heap[bx]? = some (.cells #[.int .u32 (id:Int),.int .u16 (x2:Int)] 77 (0,0)):=by
    have:=setCell_heap (k:=0) hb12 (.int .u32 (id:Int))
    simpa using this
   have hf13:Fr (fun x=>x=bx) w12 (w12.setCell ⟨bx,0,none⟩ (.int .u32 (id:Int))):=(Fr.refl (fun x=>x=bx) w12).setCell (.inl rfl) _
   generalize w12.setCell ⟨bx,0,none⟩ (.int .u32 (id:Int))=w13 at hb13 hf13 ⊢
   have hn13:Fr nope w w13:=hn12.then_new hf13 (fun x hx e=>by omega)
   have hown13:=own_fr hown12 hf13 (fun x hx e=>hol12 x hx e)
   clear hown12 hb12 hz12 hc12
   go_loopg [8,23] out.length (fun m c8 c23 wx=>∃ j:Nat,j≤out.length∧c23 = .int .i64 (j:Int)∧c8 = .bool (decide (id∈(out.take j).map (·.1)))∧Hid (wx.ownsRow w.heap.size 77 2 (.slice A1 out.length d1) out.length ((mvJ out id x2 j).flatMap tlV))∧Hid (wx.heap[bx]? = some (.cells #[.int .u32 (id:Int),.int .u16 (x2:Int)] 77 (0,0)))∧Fr nope w wx∧m=out.length - j)
   case atStart=>exact ⟨0,Nat.zero_le _,rfl,by simp,Lib.hid (by rw [mvJ_zero];exact hown13),Lib.hid hb13,hn13,rfl⟩
   case round=>
    clear hown13 hb13 hn13 hn12 hf13
    obtain ⟨j,hj,rfl,rfl,hown,hbx,hfx,rfl⟩:=hrel
    have hbxl:=lt_of_heap hbx.out
    by_cases hjl:j < out.length
    ·obtain ⟨⟨y1,y2⟩,hy⟩:∃ y,out[j]? = some y:=⟨_,List.getElem?_eq_getElem hjl⟩
     obtain ⟨g,hAe,hgl,hgc⟩:=own_cells hown.out (by omega)
     subst hAe
     have hgb:g≠bx:=hol12 g rfl
     have hgw:w.heap.size≤g:=hbo g rfl
     have hyj:=mvJ_get (id:=id) (m:=x2) hy
     have hy16:=hB.out _ (List.mem_of_getElem? hy)
     simp only at hy16
     have q0:wr.cell? ⟨g,j*2,none⟩=some (.int .u32 (y1:Int)):=hgc _ _ (by have:=flat_get tlV_len hyj 0 _ rfl;simpa using this)
     have q1:wr.cell? ⟨g,j*2+1,none⟩=some (.int .u16 (y2:Int)):=hgc _ _ (flat_get tlV_len hyj 1 _ rfl)
     have q2:wr.cell? ⟨bx,0,none⟩=some (.int .u32 (id:Int)):=cell_of_row _ _ 0 _ _ (0,0) hbx.out
     have q3:wr.cell? ⟨bx,1,none⟩=some (.int .u16 (x2:Int)):=cell_of_row _ _ 1 _ _ (0,0) hbx.out
     have hzg:∀ m,(wr.drewN m).drew.frozen? ⟨g,j*2+1,none⟩=false:=fun m=>by
      obtain ⟨cur,hcur⟩:=own_heap hown.out (b:=g) rfl
      simp [World.frozen?,hcur]
     have d0:∀ m,(wr.drewN m).cell? ⟨g,j*2,none⟩=some (.int .u32 (y1:Int)):=fun m=>((Fr.refl nope wr).drewN m).cell q0 (fun x=>x)
     have d2:∀ m,(wr.drewN m).cell? ⟨bx,0,none⟩=some (.int .u32 (id:Int)):=fun m=>((Fr.refl nope wr).drewN m).cell q2 (fun x=>x)
     have hj0:(0:Int)≤(j:Int):=by omega
     have hj1:(j:Int) < (out.length:Int):=by omega
     have hset:=mvJ_step (id:=id) (m:=x2) hy
     have hsame:=fun (e:y1≠id)=>mvJ_same (id:=id) (m:=x2) hy e
     have htk:(out.take (j+1)).map (·.1)=(out.take j).map (·.1) ++ [y1]:=by rw [take_snoc hy,List.map_append];rfl
     have hsz:=hfx.size
     replace htk:=Lib.hid htk
     by_cases hy1:y1=id
     ·subst hy1
      have he:((y1:Int) == (y1:Int))=true:=by simp
      have hor:=u16_or y2 x2 hy16 hx16
      have hs2:=flat_set2 (y2 ||| x2) hyj
      have hs3:=hset
      have e2:updT1 y1 x2 (y1,y2)=(y1,y2 ||| x2):=by unfold updT1;rw [if_pos rfl]
      rw [e2] at hs3
      simp only at hs2
      rw [hs3] at hs2
      clear hset hsame hy hyj hgc hs3 e2
      replace hs2:=Lib.hid hs2
      replace hor:=Lib.hid hor
      go_wp2
      go_quiet (fail)
      go_wp2
      refine rgMv (S:=fun W=>W.cell? ⟨g,j*2+1,none⟩=some (.int .u16 (y2:Int))∧W.cell? ⟨bx,1,none⟩=some (.int .u16 (x2:Int))) (g:=g) (n:=out.length) (c:=d1) (xb:=bx) (j:=j) (m1:=y2) (m2:=x2)
       (((Bun.nil rfl rfl).cons 7 rfl).cons 9 rfl |>.cons 5 rfl) (fun d _ _ _ _ h=>by cases d<;>simpa [Exit.inBlock,Exit.then,bodyPost,Act.put] using h) hjl ⟨q1,q3⟩ (fun w h=>h) hor.out (hzg _) ?_
      intro x34 x35 x36 x37 x38 x39 x40 x41 x42 x43
      have hdn:=fun q=>((Fr.refl nope wr).drewN q).drew
      generalize hW:World.drew _=W
      have hd:Fr nope wr W:=by rw [← hW];exact hdn _
      clear hW hdn
      have ho2:=own_setK (own_fr hown.out hd (fun _ _ x=>x)) (j*2+1) (.int .u16 ((y2 ||| x2:Nat):Int))
      rw [hs2.out] at ho2
      have hfs:Fr (fun x=>x=g) W (W.setCell ⟨g,j*2+1,none⟩ (.int .u16 ((y2 ||| x2:Nat):Int))):=(Fr.refl (fun x=>x=g) W).setCell (.inl rfl) _
      have hb2:=hfs.heap (hd.heap hbx.out (fun x=>x)) (fun e=>hgb e.symm)
      have hn2:Fr nope w (W.setCell ⟨g,j*2+1,none⟩ (.int .u16 ((y2 ||| x2:Nat):Int))):=(hfx.then hd).then_new hfs (fun x hx e=>by omega)
      replace ho2:=Lib.hid ho2
      replace hb2:=Lib.hid hb2
      generalize W.setCell ⟨g,j*2+1,none⟩ (.int .u16 ((y2 ||| x2:Nat):Int))=W2 at ho2 hb2 hn2 ⊢
      simp only [putL,List.foldl_cons,List.foldl_nil,Act.put,List.setIfInBounds_toArray,List.set_cons_zero,List.set_cons_succ]
      clear hs2 d0 d2 q0 q1 q2 q3 hfs hd hown hbx hzg hor
      go_wp2
      go_roundg (out.length - (j+1))
      case measure=>omega
      case rel=>exact ⟨j+1,by omega,by go_num,by rw [htk.out];simp,ho2,hb2,hn2,rfl⟩
     ·have he:((y1:Int) == (id:Int))=false:=beq_eq_false_iff_ne.2 (by omega)
      have he':¬(y1:Int)=(id:Int):=by omega
      have hs3:=Lib.hid (hsame hy1)
      clear hset hsame hy hyj hgc
      replace hy1:=Lib.hid hy1
      go_wp2
      go_quiet (fail)
      go_wp2
      go_roundg (out.length - (j+1))
      case measure=>omega
      case rel=>
       refine ⟨j+1,by omega,by go_num,?_,Lib.hid (by rw [hs3.out];exact own_fr hown.out ((Fr.refl nope wr).drewN _) (fun _ _ x=>x)),Lib.hid (((Fr.refl nope wr).drewN _).heap hbx.out (fun x=>x)),hfx.drewN _,rfl⟩
       rw [htk.out]
       have:¬id=y1:=fun e=>hy1.out e.symm
       simp [this]
    ·have hjn:j=out.length:=by omega
     subst hjn
     rw [List.take_length,mvJ_done] at *
     by_cases hin:id∈out.map (·.1)
     ·have hdec:decide (id∈out.map (·.1))=true:=decide_eq_true hin
      have hpu:=mvPut_found (m:=x2) hin
      rw [hdec]
      have hou:out.map (updT1 id x2)=mvL (aid l) (s.take (k+1)):=by rw [hT'.out,hpu]
      have hB2:B16 (out.map (updT1 id x2)):=by rw [← hpu];exact hB.out.put hx16
      replace hou:=Lib.hid hou
      replace hB2:=Lib.hid hB2
      clear hpu hin hdec
      go_wp2
      go_roundg (s.length - (k+1))
      case measure=>omega
      case rel=>exact ⟨k+1,A1,d1,out.map (updT1 id x2),by omega,by go_num,by rw [List.length_map],hou,hB2,by rw [List.length_map];omega,by rw [List.length_map];exact hown.out,hfx,rfl⟩
     ·have hdec:decide (id∈out.map (·.1))=false:=decide_eq_false hin
      have hpu:=mvPut_new (m:=x2) hin
      have hnw:=mvJ_new (m:=x2) hin
      rw [hdec]
      rw [hnw] at hown
      have hou:out ++ [(id,x2)]=mvL (aid l) (s.take (k+1)):=by rw [hT'.out,hpu]
      have hB2:B16 (out ++ [(id,x2)]):=by rw [← hpu];exact hB.out.put hx16
      replace hou:=Lib.hid hou
      replace hB2:=Lib.hid hB2
      have hown:=hown.out
      have hbx:=hbx.out
      have hszx:=hfx.size
      clear hpu hin hdec hnw
      go_wp2_with (first
       | (refine wpList_loadRow (b:=bx) (cells:=#[.int .u32 (id:Int),.int .u16 (x2:Int)]) rfl rfl rfl hbx Tryz.underlying77 rfl (by kernel_rfl) ?_)
       | (refine wpList_app (v:=.slice A1 out.length d1) rfl rfl Tryz.underlying49 infoLive rfl (by omega) rfl (own_fr hown ((Fr.refl nope _).alloc _) (fun _ _ x=>x)) rfl (news:=tlV (id,x2)) rfl (fun _=>cells_new _ _ _ _ (by simp)) (by simp [Value.oneCell',tlV]) (by simp only [maxLen];omega) (by omega) (by simp;omega) ?hk))
      case hk=>
       intro v4 w4 hown4 hf4 hb4
       obtain ⟨A3,d3,rfl,_,_⟩:=own_slice hown4
       have hn4:Fr nope w w4:=(hfx.alloc _).then_new hf4 (fun x hx e=>by have:=hbo x e;omega)
       go_wp2
       go_roundg (s.length - (k+1))
       case measure=>omega
       case rel=>exact ⟨k+1,A3,d3,out ++ [(id,x2)],by omega,by go_num,by rw [List.length_append];rfl,hou,hB2,by rw [List.length_append];simp;omega,by rw [List.length_append,List.flatMap_append];simpa using hown4,hn4,rfl⟩
  ·have hkn:k=s.length:=by omega
   subst hkn
   rw [List.take_length] at hout
   have ho:=hout.out
   subst ho
   go_wp2
   go_ret
   exact ⟨hf,_,_,rfl,Rw.of_own hown⟩
end
section
open Go Go.RowKit Bth
set_option maxRecDepth 100000
noncomputable def blReg:Array Oper:=findReg 21 (Tryz.f5.body.getD .skip)
noncomputable def oBL (i:Nat):Oper:=opAt blReg i
theorem blReg_get {i:Nat} (h:Nat.blt i 26=true):blReg[i]? = some (oBL i):=opAt_get (by kernel_rfl) h
theorem idxLL (b off n c p:Nat) (hp:p < n) (w:World):(Instr.indexAt 31 (.slice (some ⟨b,off,none⟩) n c) (.int .i64 (p:Int))).run Tryz.prog w = .ok (.pointer (some ⟨b,off+p,none⟩)) w:=by
 have h0:(0:Int)≤(p:Int):=by omega
 have h1:(p:Int) < (n:Int):=by omega
 go_simp
theorem takeGO {P:Program} {ops:Array Oper} {Q:Exit→Act→World→Prop} {S:World→Prop} {fuel n:Nat} {listed:Array Bool} {a:Act} {w:World} {l:List (Nat × Value)} (h:Bun a n l) (hS:S w) (hQ:∀ d v c a w,Q (.panic c) (a.put d v) w→Q (.panic c) a w) (i d j e:Nat) (b0:Bool) (op:Op) (v:Value)
  (ho:(ops[i]?).map (fun o=>(o.op,o.dst,o.guard))=some (op,some d,some (j,b0))∧(ops[j]?).bind (·.dst)=some e) (hm:mayB ops listed i d n=true) (he:Nat.blt e n=true) (hb:lkB l e=some (.bool b0))
  (hx:∀ o:Oper,o.op=op→∀ w,S w→(execOp a.eval o).run P w = .ok (.value v) w)
  (next:∀ a',a'=a.put (some d) v→Bun a' n ((d,v) :: l)→wpAnyH P .any ops Q S fuel (listed.setIfInBounds i true) a' w):wpAnyH P .any ops Q S (fuel+1) listed a w:=by
 obtain ⟨ho,hj⟩:=ho
 obtain ⟨o,hi,ho⟩:=Option.map_eq_some_iff.1 ho
 simp only [Prod.mk.injEq] at ho
 obtain ⟨h1,h2,h3⟩:=ho
 unfold mayB at hm
 simp only [Bool.and_eq_true] at hm
 obtain ⟨⟨⟨m1,m2⟩,m3⟩,m4⟩:=hm
 have hy:=yielded_of (ops:=ops) (a:=a) hj (by rw [h.sz];simpa [Nat.blt_eq] using he) (h.at_ e _ hb)
 refine wpAnyH_take (v:=v) hi m1 m2 m3 (fun c a w=>hQ _ _ c a w) (Or.inl ⟨by unfold Region.wanted;rw [h3];simp [hy],hx o h1⟩) hS (next _ (by rw [h2]) (h.put h2 (by simpa [Nat.blt_eq] using m4) v))
theorem wanted_go {ops:Array Oper} {a:Act} {n:Nat} {l:List (Nat × Value)} (h:Bun a n l) {o:Oper} {j e:Nat} {b0:Bool} (hg:o.guard=some (j,b0)) (hj:(ops[j]?).bind (·.dst)=some e) (he:Nat.blt e n=true) (hb:lkB l e=some (.bool b0)):Region.wanted o (yielded ops a.tmps)=true:=by
 have hy:=yielded_of (ops:=ops) (a:=a) hj (by rw [h.sz];simpa [Nat.blt_eq] using he) (h.at_ e _ hb)
 unfold Region.wanted
 rw [hg]
 simp [hy]
set_option maxHeartbeats 4000000 in
theorem rgBL {a0:Act} {w:World} {Q:Exit→Act→World→Prop} {S:World→Prop} {b1 o1 c1 b2 o2 c2 b3 o3 c3 b4 o4 c4 n k n1 d1 n2 d2 n3 d3 n4 d4:Nat} {A1 A2 A3 A4:Option Addr} {va:Value} {R1 R3:Value→World→Prop} {R2 R4:World→Prop}
  (h0:Bun a0 104 [(7,.slice (some ⟨b1,o1,none⟩) n c1),(10,.slice (some ⟨b2,o2,none⟩) n c2),(8,.slice (some ⟨b3,o3,none⟩) n c3),(11,.slice (some ⟨b4,o4,none⟩) n c4),(13,.int .i64 (k:Int)),(3,va)]) (hQ:∀ d v c a w,Q (.panic c) (a.put d v) w→Q (.panic c) a w)
  (hk:k < n) (hS0:S w.drew) (l1:∀ w',S w'→w'.cell? ⟨b1,o1+k,none⟩=some (.slice A1 n1 d1)) (l2:∀ w',S w'→w'.cell? ⟨b2,o2+k,none⟩=some (.slice A2 n2 d2)) (l3:∀ w',S w'→w'.cell? ⟨b3,o3+k,none⟩=some (.slice A3 n3 d3)) (l4:∀ w',S w'→w'.cell? ⟨b4,o4+k,none⟩=some (.slice A4 n4 d4))
  (h1:Calls Tryz.prog 21 #[.slice A1 n1 d1,va] w.drew fun e w'=>∃ y,e = .returned y∧R1 y w'∧S w')
  (h2:∀ y w1,R1 y w1→Calls Tryz.prog 20 #[y,.slice A2 n2 d2] w1 fun e w'=>e = .returned (.bool true)∧R2 w'∧S w')
  (h3:∀ w2,R2 w2→Calls Tryz.prog 21 #[.slice A3 n3 d3,va] w2 fun e w'=>∃ y,e = .returned y∧R3 y w'∧S w')
  (h4:∀ y w3,R3 y w3→Calls Tryz.prog 20 #[y,.slice A4 n4 d4] w3 fun e w'=>e = .returned (.bool true)∧R4 w'∧S w')
  (h:∀ w' a,R4 w'→(∃ x77 x78 x79 x80 x81 x82 x83 x84 x85 x86 x87 x88 x89 x90 x91 x92 x93 x94 x95 x96 x97 x98 x99 x100 x101,a=putL a0 [(77,x77),(78,x78),(79,x79),(80,x80),(81,x81),(83,x83),(84,x84),(85,x85),(86,x86),(82,x82),(87,x87),(88,x88),(89,x89),(90,x90),(91,x91),(92,x92),(93,x93),(94,x94),(96,x96),(97,x97),(98,x98),(99,x99),(95,x95),(100,x100),(101,x101),(102,.bool false)])→Q .normal a w'):(Code.region 21 blReg true).wp Tryz.prog Q a0 w:=by
 refine wp_region_held_drew (S:=S) (by kernel_rfl) hS0 (fun hS0=>?_)
 rw [show blReg.size=26 from by kernel_rfl]
 refine takeB h0 hS0 hQ 0 77 _ (.slice (some ⟨b1,o1,none⟩) n c1) (show isB blReg 0 77 (.move (.tmp 7)) from by unfold isB;kernel_rfl) (by kernel_rfl) (fun o e w hw=>by simp [execOp,e,h0.at_ 7 _ rfl]) fun a0 e0 h0=>?_
 refine takeB h0 hS0 hQ 1 78 _ (.int .i64 (k:Int)) (show isB blReg 1 78 (.move (.tmp 13)) from by unfold isB;kernel_rfl) (by kernel_rfl) (fun o e w hw=>by simp [execOp,e,h0.at_ 13 _ rfl]) fun a1 e1 h0=>?_
 refine takeB h0 hS0 hQ 2 79 _ (.pointer (some ⟨b1,o1+k,none⟩)) (show isB blReg 2 79 (.indexAddr 31 (.tmp 77) (.tmp 78)) from by unfold isB;kernel_rfl) (by kernel_rfl) (fun o e w hw=>by have h1:=h0.at_ 77 _ rfl;have h2:=h0.at_ 78 _ rfl;have h3:=idxLL b1 o1 n c1 k hk w;simp only [execOp,e,h1,h2,h3,Sem.run_bind,Result.andThen_ok,Sem.run_pure]) fun a2 e2 h0=>?_
 refine takeB h0 hS0 hQ 3 80 _ (.slice A1 n1 d1) (show isB blReg 3 80 (.load 49 (.tmp 79)) from by unfold isB;kernel_rfl) (by kernel_rfl) (fun o e w hw=>by have h1:=h0.at_ 79 _ rfl;have hc:=l1 w hw;simp only [execOp,e,h1];go_simp) fun a3 e3 h0=>?_
 refine takeB h0 hS0 hQ 4 81 _ (va) (show isB blReg 4 81 (.move (.tmp 3)) from by unfold isB;kernel_rfl) (by kernel_rfl) (fun o e w hw=>by simp [execOp,e,h0.at_ 3 _ rfl]) fun a4 e4 h0=>?_
 refine takeB h0 hS0 hQ 6 83 _ (.slice (some ⟨b2,o2,none⟩) n c2) (show isB blReg 6 83 (.move (.tmp 10)) from by unfold isB;kernel_rfl) (by kernel_rfl) (fun o e w hw=>by simp [execOp,e,h0.at_ 10 _ rfl]) fun a6 e6 h0=>?_
 refine takeB h0 hS0 hQ 7 84 _ (.int .i64 (k:Int)) (show isB blReg 7 84 (.move (.tmp 13)) from by unfold isB;kernel_rfl) (by kernel_rfl) (fun o e w hw=>by simp [execOp,e,h0.at_ 13 _ rfl]) fun a7 e7 h0=>?_
 refine takeB h0 hS0 hQ 8 85 _ (.pointer (some ⟨b2,o2+k,none⟩)) (show isB blReg 8 85 (.indexAddr 31 (.tmp 83) (.tmp 84)) from by unfold isB;kernel_rfl) (by kernel_rfl) (fun o e w hw=>by have h1:=h0.at_ 83 _ rfl;have h2:=h0.at_ 84 _ rfl;have h3:=idxLL b2 o2 n c2 k hk w;simp only [execOp,e,h1,h2,h3,Sem.run_bind,Result.andThen_ok,Sem.run_pure]) fun a8 e8 h0=>?_
 refine takeB h0 hS0 hQ 9 86 _ (.slice A2 n2 d2) (show isB blReg 9 86 (.load 49 (.tmp 85)) from by unfold isB;kernel_rfl) (by kernel_rfl) (fun o e w hw=>by have h1:=h0.at_ 85 _ rfl;have hc:=l2 w hw;simp only [execOp,e,h1];go_simp) fun a9 e9 h0=>?_
 refine wpAnyH_ready (rs:=[5]) (by kernel_rfl) (by simp) (AllReadyH.cons (o:=oBL 5) (blReg_get rfl) (fun K hK=>?_) AllReadyH.nil)
 rw [if_pos (show Region.wanted (oBL 5) _=true from rfl)]
 refine wp_callU (show (oBL 5).op = .call { callee:=.value (.func 21),args:=#[.tmp 80,.tmp 81],argTypes:=#[49,25] } from by kernel_rfl) Tryz.func21 (by kernel_rfl) (by kernel_rfl) ?_
 simp only [List.map_toArray,List.map_cons,List.map_nil,h0.at_ 80 _ rfl,h0.at_ 81 _ rfl]
 refine (h1).mono ?_
 rintro e w1 ⟨y1,rfl,r1,s1⟩
 refine hK.out _ _ s1 (fun hS0=>?_)
 rw [show (oBL 5).dst=some 82 from by kernel_rfl]
 replace h0:=h0.put (x:=some 82) rfl (d:=82) (by decide) (y1)
 refine wpAnyH_ready (rs:=[10]) (by kernel_rfl) (by simp) (AllReadyH.cons (o:=oBL 10) (blReg_get rfl) (fun K hK=>?_) AllReadyH.nil)
 rw [if_pos (show Region.wanted (oBL 10) _=true from rfl)]
 refine wp_callU (show (oBL 10).op = .call { callee:=.value (.func 20),args:=#[.tmp 82,.tmp 86],argTypes:=#[49,49] } from by kernel_rfl) Tryz.func20 (by kernel_rfl) (by kernel_rfl) ?_
 simp only [List.map_toArray,List.map_cons,List.map_nil,h0.at_ 82 _ rfl,h0.at_ 86 _ rfl]
 refine (h2 _ _ r1).mono ?_
 rintro e w2 ⟨rfl,r2,s2⟩
 refine hK.out _ _ s2 (fun hS0=>?_)
 rw [show (oBL 10).dst=some 87 from by kernel_rfl]
 replace h0:=h0.put (x:=some 87) rfl (d:=87) (by decide) (.bool true)
 refine takeB h0 hS0 hQ 11 88 _ (.bool false) (show isB blReg 11 88 (.unOp .not 4 (.tmp 87)) from by unfold isB;kernel_rfl) (by kernel_rfl) (fun o e w hw=>by have h1:=h0.at_ 87 _ rfl;simp only [execOp,e,h1];go_simp) fun a11 e11 h0=>?_
 refine takeB h0 hS0 hQ 12 89 _ (.bool false) (show isB blReg 12 89 (.move (.tmp 88)) from by unfold isB;kernel_rfl) (by kernel_rfl) (fun o e w hw=>by simp [execOp,e,h0.at_ 88 _ rfl]) fun a12 e12 h0=>?_
 refine takeGO h0 hS0 hQ 13 90 12 89 false (.move (.tmp 8)) (.slice (some ⟨b3,o3,none⟩) n c3) ⟨by kernel_rfl,by kernel_rfl⟩ (by kernel_rfl) (by kernel_rfl) rfl (fun o e w hw=>by simp [execOp,e,h0.at_ 8 _ rfl]) fun a13 e13 h0=>?_
 refine takeGO h0 hS0 hQ 14 91 12 89 false (.move (.tmp 13)) (.int .i64 (k:Int)) ⟨by kernel_rfl,by kernel_rfl⟩ (by kernel_rfl) (by kernel_rfl) rfl (fun o e w hw=>by simp [execOp,e,h0.at_ 13 _ rfl]) fun a14 e14 h0=>?_
 refine takeGO h0 hS0 hQ 15 92 12 89 false (.indexAddr 31 (.tmp 90) (.tmp 91)) (.pointer (some ⟨b3,o3+k,none⟩)) ⟨by kernel_rfl,by kernel_rfl⟩ (by kernel_rfl) (by kernel_rfl) rfl (fun o e w hw=>by have h1:=h0.at_ 90 _ rfl;have h2:=h0.at_ 91 _ rfl;have h3:=idxLL b3 o3 n c3 k hk w;simp only [execOp,e,h1,h2,h3,Sem.run_bind,Result.andThen_ok,Sem.run_pure]) fun a15 e15 h0=>?_
 refine takeGO h0 hS0 hQ 16 93 12 89 false (.load 49 (.tmp 92)) (.slice A3 n3 d3) ⟨by kernel_rfl,by kernel_rfl⟩ (by kernel_rfl) (by kernel_rfl) rfl (fun o e w hw=>by have h1:=h0.at_ 92 _ rfl;have hc:=l3 w hw;simp only [execOp,e,h1];go_simp) fun a16 e16 h0=>?_
 refine takeGO h0 hS0 hQ 17 94 12 89 false (.move (.tmp 3)) (va) ⟨by kernel_rfl,by kernel_rfl⟩ (by kernel_rfl) (by kernel_rfl) rfl (fun o e w hw=>by simp [execOp,e,h0.at_ 3 _ rfl]) fun a17 e17 h0=>?_
 refine takeGO h0 hS0 hQ 19 96 12 89 false (.move (.tmp 11)) (.slice (some ⟨b4,o4,none⟩) n c4) ⟨by kernel_rfl,by kernel_rfl⟩ (by kernel_rfl) (by kernel_rfl) rfl (fun o e w hw=>by simp [execOp,e,h0.at_ 11 _ rfl]) fun a19 e19 h0=>?_
 refine takeGO h0 hS0 hQ 20 97 12 89 false (.move (.tmp 13)) (.int .i64 (k:Int)) ⟨by kernel_rfl,by kernel_rfl⟩ (by kernel_rfl) (by kernel_rfl) rfl (fun o e w hw=>by simp [execOp,e,h0.at_ 13 _ rfl]) fun a20 e20 h0=>?_
 refine takeGO h0 hS0 hQ 21 98 12 89 false (.indexAddr 31 (.tmp 96) (.tmp 97)) (.pointer (some ⟨b4,o4+k,none⟩)) ⟨by kernel_rfl,by kernel_rfl⟩ (by kernel_rfl) (by kernel_rfl) rfl (fun o e w hw=>by have h1:=h0.at_ 96 _ rfl;have h2:=h0.at_ 97 _ rfl;have h3:=idxLL b4 o4 n c4 k hk w;simp only [execOp,e,h1,h2,h3,Sem.run_bind,Result.andThen_ok,Sem.run_pure]) fun a21 e21 h0=>?_
 refine takeGO h0 hS0 hQ 22 99 12 89 false (.load 49 (.tmp 98)) (.slice A4 n4 d4) ⟨by kernel_rfl,by kernel_rfl⟩ (by kernel_rfl) (by kernel_rfl) rfl (fun o e w hw=>by have h1:=h0.at_ 98 _ rfl;have hc:=l4 w hw;simp only [execOp,e,h1];go_simp) fun a22 e22 h0=>?_
 refine wpAnyH_ready (rs:=[18]) (by kernel_rfl) (by simp) (AllReadyH.cons (o:=oBL 18) (blReg_get rfl) (fun K hK=>?_) AllReadyH.nil)
 rw [if_pos (wanted_go h0 (j:=12) (e:=89) (b0:=false) (by kernel_rfl) (by kernel_rfl) (by kernel_rfl) rfl)]
 refine wp_callU (show (oBL 18).op = .call { callee:=.value (.func 21),args:=#[.tmp 93,.tmp 94],argTypes:=#[49,25] } from by kernel_rfl) Tryz.func21 (by kernel_rfl) (by kernel_rfl) ?_
 simp only [List.map_toArray,List.map_cons,List.map_nil,h0.at_ 93 _ rfl,h0.at_ 94 _ rfl]
 refine (h3 _ r2).mono ?_
 rintro e w3 ⟨y3,rfl,r3,s3⟩
 refine hK.out _ _ s3 (fun hS0=>?_)
 rw [show (oBL 18).dst=some 95 from by kernel_rfl]
 replace h0:=h0.put (x:=some 95) rfl (d:=95) (by decide) (y3)
 refine wpAnyH_ready (rs:=[23]) (by kernel_rfl) (by simp) (AllReadyH.cons (o:=oBL 23) (blReg_get rfl) (fun K hK=>?_) AllReadyH.nil)
 rw [if_pos (wanted_go h0 (j:=12) (e:=89) (b0:=false) (by kernel_rfl) (by kernel_rfl) (by kernel_rfl) rfl)]
 refine wp_callU (show (oBL 23).op = .call { callee:=.value (.func 20),args:=#[.tmp 95,.tmp 99],argTypes:=#[49,49] } from by kernel_rfl) Tryz.func20 (by kernel_rfl) (by kernel_rfl) ?_
 simp only [List.map_toArray,List.map_cons,List.map_nil,h0.at_ 95 _ rfl,h0.at_ 99 _ rfl]
 refine (h4 _ _ r3).mono ?_
 rintro e w4 ⟨rfl,r4,s4⟩
 refine hK.out _ _ s4 (fun hS0=>?_)
 rw [show (oBL 23).dst=some 100 from by kernel_rfl]
 replace h0:=h0.put (x:=some 100) rfl (d:=100) (by decide) (.bool true)
 refine takeGO h0 hS0 hQ 24 101 12 89 false (.unOp .not 4 (.tmp 100)) (.bool false) ⟨by kernel_rfl,by kernel_rfl⟩ (by kernel_rfl) (by kernel_rfl) rfl (fun o e w hw=>by have h1:=h0.at_ 100 _ rfl;simp only [execOp,e,h1];go_simp) fun a24 e24 h0=>?_
 refine takeB h0 hS0 hQ 25 102 _ (.bool false) (show isB blReg 25 102 (.pick (.tmp 89) (.const (.bool true)) (.tmp 101)) from by unfold isB;kernel_rfl) (by kernel_rfl) (fun o e w hw=>by have h1:=h0.at_ 89 _ rfl;have h2:=h0.at_ 101 _ rfl;simp only [execOp,e,h1,h2];go_simp) fun a25 e25 h0=>?_
 refine wpAnyH_done (by kernel_rfl) (h w4 _ r4 ?_) _
 subst e25 e24 e22 e21 e20 e19 e17 e16 e15 e14 e13 e12 e11 e9 e8 e7 e6 e4 e3 e2 e1 e0
 exact ⟨_,_,_,_,_,_,_,_,_,_,_,_,_,_,_,_,_,_,_,_,_,_,_,_,_,rfl⟩
end
section
open Go Go.RowKit Bth
set_option maxRecDepth 100000
theorem LiveInP.congr {is:List PI} {sc sc':Nat→List (Option Nat)} (h:∀ k,k < is.length→sc k=sc' k):LiveInP is sc=LiveInP is sc':=by
 have e:(flowP is sc).succ=(flowP is sc').succ:=by
  funext i s
  apply propext
  constructor
  ·rintro ⟨h1,h2,h3⟩
   exact ⟨h1,h2,by show some s∈sc' i;rw [← h i h1];exact h3⟩
  ·rintro ⟨h1,h2,h3⟩
   exact ⟨h1,h2,by show some s∈sc i;rw [h i h1];exact h3⟩
 unfold LiveInP
 rw [e]
 rfl
theorem lv_bound {ns ns':List PN} {f:Nat→Option Nat} {w:World} {B:Nat} {s:SV} (hok:AFOk ns) (hB:BoundN f ns ns') (hN:NodesAt w B s ns'):LvOk ns':=by
 obtain ⟨b1,b2⟩:=bound_ins hB hok.ops
 refine ⟨bound_ok hB hok.ops hok.ok,fun p hp=>?_,fun p' hp' hc=>?_⟩
 ·obtain ⟨n,hn,rfl⟩:=insP_mem hp
  exact PI.ok_of (hN.each n hn).ins
 ·obtain ⟨k,hk⟩:=List.mem_iff_getElem?.1 hp'
  have hlt:k < (insP ns).length:=by rw [← b1];exact (List.getElem?_eq_some_iff.1 hk).1
  have hpk:=List.getElem?_eq_getElem hlt
  have hI:=b2 k _ p' hpk hk
  have:=hok.canc _ (List.getElem_mem hlt) (by rw [← hI.canc];exact hc)
  rw [hI.inp.gs,List.length_map]
  exact this
def GivesRd (w:World) (is is':List PI) (e:Ending) (w':World):Prop:=Fr nope w w'∧∃ b,e = .returned (.bool b)∧(b=true→∀ (k:Nat) (p p':PI),is[k]? = some p→is'[k]? = some p'→(inGs p'.canc p'.inp p'.out).length=(inGs p.canc p.inp p.out).length)
set_option maxHeartbeats 4000000 in
theorem reads_calls (w:World) (A1 A2:Option Addr) (c1 c2 B1 B2:Nat) (is is':List PI) (h1:InstrsAt w A1 is) (h2:InstrsAt w A2 is') (hp1:∀ p∈is,p.At w B1∧okI p=true) (hp2:∀ p∈is',p.At w B2∧okI p=true) (hl:is.length≤1048576) (he:is'.length=is.length):
  Calls Tryz.prog 19 #[.slice A1 is.length c1,.slice A2 is'.length c2] w (GivesRd w is is'):=by
 rw [he]
 go_enter Tryz.func19,Tryz.ntmps19
 go_wp2
 go_loopg [17] is.length (fun n c17 wr=>∃ k:Nat,k≤is.length∧c17 = .int .i64 (k:Int)∧Hid (∀ (j:Nat) (p p':PI),j < k→is[j]? = some p→is'[j]? = some p'→(inGs p'.canc p'.inp p'.out).length=(inGs p.canc p.inp p.out).length)∧Fr nope w wr∧n=is.length - k)
 case atStart=>exact ⟨0,Nat.zero_le _,rfl,Lib.hid (fun j _ _ h=>absurd h (Nat.not_lt_zero j)),Fr.refl _ _,rfl⟩
 case round=>
  obtain ⟨k,hk,rfl,hall,hf,rfl⟩:=hrel
  by_cases hlt:k < is.length
  ·obtain ⟨p,hx⟩:∃ x,is[k]? = some x:=⟨_,List.getElem?_eq_getElem hlt⟩
   obtain ⟨p',hx'⟩:∃ x,is'[k]? = some x:=⟨_,List.getElem?_eq_getElem (by omega)⟩
   obtain ⟨b,off,hBe,hbl,hr⟩:=h1.at_ PI.list_len hx
   rw [InstrsAt,he] at h2
   obtain ⟨b',off',hBe',hbl',hr'⟩:=(show Rw w 55 10 A2 is'.length _ from by rw [he];exact h2).at_ PI.list_len hx'
   subst hBe hBe'
   obtain ⟨hpa,hpo⟩:=hp1 p (List.mem_of_getElem? hx)
   obtain ⟨hpa',hpo'⟩:=hp2 p' (List.mem_of_getElem? hx')
   have hrg:∀ W,Fr nope w W→W.rangeAt b (off+k*10) p.cells.toList:=fun W hW j v hv=>hW.cell (hr j v hv) (fun x=>x)
   have hrg':∀ W,Fr nope w W→W.rangeAt b' (off'+k*10) p'.cells.toList:=fun W hW j v hv=>hW.cell (hr' j v hv) (fun x=>x)
   have hli:=inGs_le p.canc p.inp p.out
   have hli':=inGs_le p'.canc p'.inp p'.out
   have hfew:=hpa.few
   have hfew':=hpa'.few
   have hstep:∀ (j:Nat) (q q':PI),j < k+1→is[j]? = some q→is'[j]? = some q'→(inGs p'.canc p'.inp p'.out).length=(inGs p.canc p.inp p.out).length→(inGs q'.canc q'.inp q'.out).length=(inGs q.canc q.inp q.out).length:=fun j q q' hj e1 e2 he=>by
    by_cases hjk:j=k
    ·subst hjk
     rw [hx] at e1
     rw [hx'] at e2
     injection e1 with e1
     injection e2 with e2
     subst e1 e2
     exact he
    ·exact hall.out j q q' (by omega) e1 e2
   replace hstep:=Lib.hid hstep
   have hk0:(0:Int)≤(k:Int):=by omega
   have hk1:(k:Int) < (is.length:Int):=by omega
   clear hr hr' hx hx' hall
   go_wp2_with (refine wpList_load_mid rfl _ _ rfl b (off+k*10) rfl p.cells.toList _ (hrg _ hf) Tryz.underlying55 rfl (by kernel_rfl) ?_)
   refine (spInputRegisters_calls _ B1 p (hpa.fr hf (fun _ _ x=>x)) hpo).mono ?_
   rintro e w1 ⟨hf1,Ag,cg,rfl,hog⟩
   have hn1:=hf.then hf1
   go_wp2_with (refine wpList_load_mid rfl _ _ rfl b' (off'+k*10) rfl p'.cells.toList _ (hrg' _ hn1) Tryz.underlying55 rfl (by kernel_rfl) ?_)
   refine (spInputRegisters_calls _ B2 p' (hpa'.fr hn1 (fun _ _ x=>x)) hpo').mono ?_
   rintro e w2 ⟨hf2,Ah,ch,rfl,hoh⟩
   have hn2:=hn1.then hf2
   clear hog hoh
   obtain ⟨m,hm⟩:∃ m,m=(inGs p.canc p.inp p.out).length:=⟨_,rfl⟩
   obtain ⟨m',hm'⟩:∃ m,m=(inGs p'.canc p'.inp p'.out).length:=⟨_,rfl⟩
   have heq0:m'=m→(inGs p'.canc p'.inp p'.out).length=(inGs p.canc p.inp p.out).length:=fun e=>hm'.symm.trans (e.trans hm)
   replace heq0:=Lib.hid heq0
   rw [← hm,← hm']
   rw [← hm] at hli
   rw [← hm'] at hli'
   by_cases hmm:m'=m
   ·have heq:=heq0.out hmm
    have hall':=Lib.hid (fun (j:Nat) (q q':PI) (hj:j < k+1) e1 e2=>hstep.out j q q' hj e1 e2 heq)
    clear heq hm hm' heq0
    subst hmm
    go_wp2
    go_roundg (is.length - (k+1))
    case measure=>omega
    case rel=>exact ⟨k+1,by omega,by go_num,hall',hn2,rfl⟩
   ·have hne:¬(m:Int)=(m':Int):=by omega
    have hne':((m:Int) != (m':Int))=true:=by simp [hne]
    go_wp2
    go_ret
    exact ⟨hn2,false,rfl,fun h=>by cases h⟩
  ·have hkn:k=is.length:=by omega
   subst hkn
   go_wp2
   go_ret
   exact ⟨hf,true,rfl,fun _ j p p' h1 h2=>hall.out j p p' (List.getElem?_eq_some_iff.1 h1).1 h1 h2⟩
end
end Go.Proofs.YtjlfkgjmgghhiaaGreat
