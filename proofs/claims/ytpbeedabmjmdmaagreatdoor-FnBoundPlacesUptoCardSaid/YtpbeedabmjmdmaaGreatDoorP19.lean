/- Part of the proof of a statement about pub-berthage: what its texts have in common. -/
import Derived.Test.YtpbeedabmjmdmaaGreatDoorProg
import Derived.Shelf.GgSortFunc.Lays
import Derived.Shelf.GgSortFunc.Tiny
import Derived.Shelf.GgSortFunc.Whole
import Derived.Shelf.SlSortFuncK.WholeK
import Derived.Test.YtpbeedabmjmdmaaGreatDoorP01
import Derived.Test.YtpbeedabmjmdmaaGreatDoorP05
import Derived.Test.YtpbeedabmjmdmaaGreatDoorP18
namespace Go.Proofs.YtpbeedabmjmdmaaGreatDoor
section
open Go Go.RowKit Go.MapKept Bth
set_option maxRecDepth 100000
def GivesAll (w:World) (P:Nat→Prop) (r:Option (Nat→Option Nat)) (e:Ending) (w':World):Prop:=
 Fr P w w'∧((r=none∧∃ T v,e = .returned (.tuple #[.map none,.iface T v]))∨∃ f ba,r=some f∧e = .returned (.tuple #[.map (some ba),.nilIface])∧IdMap w' ba f∧wider P w w' ba)
theorem color_none {regs:List Nat} {edges:List (Nat × Nat)} {n:Nat} {rem:List Nat} {al:Nat→Option Nat} (h:clash edges al=true):color regs edges (n+1) rem al=none:=by
 unfold color;rw [if_pos h]
theorem color_done {regs:List Nat} {edges:List (Nat × Nat)} {n:Nat} {al:Nat→Option Nat} (h:clash edges al=false):color regs edges (n+1) [] al=some al:=by
 unfold color;rw [if_neg (by simp [h])];simp
theorem color_step {regs:List Nat} {edges:List (Nat × Nat)} {n v:Nat} {rem:List Nat} {al:Nat→Option Nat} (h:clash edges al=false) (hne:rem≠[]) (hv:Least (fun w=>(strike al edges w regs).length) rem v):
  color regs edges (n+1) rem al=match strike al edges v regs with
   | []=>none
   | p :: _=>color regs edges n (rem.erase v) (setA al v p):=by
 conv=>lhs;unfold color
 rw [if_neg (by simp [h]),if_neg (by simpa using hne)]
 simp only [hv.pick]
 cases strike al edges v regs<;>rfl
theorem AlFits.upd {x:Al} (h:AlFits x):AlFits { x with edges:=x.edges.filter (open2 x.al),poss:=strikeL x.al x.edges x.poss }:=
 ⟨fun e he=>h.ids e (List.mem_filter.1 he).1,h.al,fun _ _ hl=>strikeL_len h.poss hl,Nat.le_trans (List.length_filter_le _ _) h.edges⟩
theorem AlFits.alloc {x:Al} (h:AlFits x) {v p:Nat} (hp:p < 4294967296):AlFits { x with al:=setA x.al v p,poss:=delL x.poss v }:=
 ⟨h.ids,fun u q hu=>by
  simp only [setA] at hu
  split at hu
  ·injection hu with hu;omega
  ·exact h.al u q hu,fun u l hu=>by
  simp only [delL] at hu
  split at hu
  ·cases hu
  ·exact h.poss u l hu,h.edges⟩
theorem RemOf.strike {L:Poss} {rem:List Nat} {al:Nat→Option Nat} {E:List (Nat × Nat)} (h:RemOf L rem):RemOf (strikeL al E L) rem:=⟨h.nd,fun v=>by rw [h.mem];unfold strikeL;cases L v<;>simp⟩
theorem RemOf.erase {L:Poss} {rem:List Nat} (h:RemOf L rem) (v:Nat):RemOf (delL L v) (rem.erase v):=⟨h.nd.erase v,fun u=>by
 rw [List.Nodup.mem_erase_iff h.nd,h.mem]
 unfold delL
 split
 ·rename_i e;simp [e]
 ·rename_i e;simp [e]⟩
set_option maxHeartbeats 2000000 in
theorem Allocate_calls (w:World) (P:Nat→Prop) (x:Al) (g:AlG) (rem:List Nat) (h:AlAt w P x g) (hr:RemOf x.poss rem) (hH:Bth.Head x.regs x.edges x.al x.edges x.poss) (hz:AlFits x) (hreg:∀ r∈x.regs,isV r=false∧r < 4294967296):
  Calls Tryz.prog 88 #[ptr g.a] w (GivesAll w P (color x.regs x.edges (rem.length+1) rem x.al)):=by
 have halt:=h.lt _ h.pa
 have hgoal:∃ r,r=color x.regs x.edges (rem.length+1) rem x.al:=⟨_,rfl⟩
 obtain ⟨res,hres⟩:=hgoal
 rw [← hres]
 unfold ptr
 go_enter Tryz.func88,Tryz.ntmps88
 go_wp2_with fail
 replace hres:=Lib.hid hres
 go_loopg [] rem.length (fun n wr=>∃ (x1:Al) (g1:AlG) (rem1:List Nat),Hid (x1.regs=x.regs)∧Hid (g1.a=g.a)∧AlAt wr (wider P w wr) x1 g1∧RemOf x1.poss rem1∧Bth.Head x.regs x.edges x1.al x1.edges x1.poss∧AlFits x1∧Hid (res=color x.regs x.edges (rem1.length+1) rem1 x1.al)∧Fr P w wr∧n=rem1.length)
 case atStart=>exact ⟨x,g,rem,Lib.hid rfl,Lib.hid rfl,h.more (fun _ hc=>.inl hc) (wider_lt h.lt (Nat.le_refl _)),hr,hH,hz,hres,Fr.refl _ _,rfl⟩
 case round=>
  obtain ⟨x1,g1,rem1,hxr,hg1,h1,hr1,hH1,hz1,hres1,hf,rfl⟩:=hrel
  have hu:=update_calls wr _ x1 g1 h1 hH1.fit hz1
  rw [hg1.out] at hu
  unfold ptr at hu
  go_wp2_with fail
  refine hu.mono ?_
  rintro e w2 ⟨hf2,⟨hc,T,v,rfl⟩ | ⟨hc,rfl,g2,hg2,h2⟩⟩
  ·have hnone:res=none:=by rw [hres1.out];exact color_none (by rw [← hH1.cl];exact hc)
   replace hnone:=Lib.hid hnone
   replace hc:=Lib.hid hc
   go_wp2
   go_ret2
   exact ⟨Fr_wide hf hf2,.inl ⟨hnone.out,_,_,rfl⟩⟩
  ·have hf3:=Fr_wide hf hf2
   have h3:=h2.more (P':=wider P w w2) (fun c hc=>wider.trans hf2.size c hc hf.size) (wider_lt h.lt hf3.size)
   have hr2:RemOf (strikeL x1.al x1.edges x1.poss) rem1:=hr1.strike
   have hrc:=remaining_calls w2 _ _ g2 rem1 h3 hr2
   rw [hg2] at hrc
   unfold ptr at hrc
   have hcA:clash x.edges x1.al=false:=by rw [← hH1.cl];exact hc
   by_cases h0:rem1=[]
   ·subst h0
    have hsome:res=some x1.al:=by rw [hres1.out];exact color_done hcA
    have hc2:=h3.c2
    have ha2:=h3.lt _ h3.pa
    have hal:=h3.al
    have hpl:=h3.pl
    rw [hg2] at hc2 ha2
    replace hsome:=Lib.hid hsome
    replace hc:=Lib.hid hc
    replace hcA:=Lib.hid hcA
    replace hg2:=Lib.hid hg2
    go_wp2_with (go_at_call 121;refine hrc.mono ?_;rintro e w3 ⟨rfl,rfl⟩)
    go_ret2
    exact ⟨hf3,.inr ⟨x1.al,g2.ba,hsome.out,rfl,hal,hpl⟩⟩
   ·have hlen0:((rem1.length:Int) == 0)=false:=by
     rw [beq_eq_false_iff_ne]
     have:=List.length_pos_iff.2 h0
     omega
    have hmc:=most_calls w2 _ _ g2 rem1 h3 hr2 h0 (fun v l hl=>strikeL_len hz1.poss hl)
    rw [hg2] at hmc
    unfold ptr at hmc
    go_wp2_with (first
     | (go_at_call 121;refine hrc.mono ?_;rintro e w3 ⟨rfl,rfl⟩)
     | (go_at_call 122;refine hmc.mono ?_;rintro e w4 ⟨⟨v,rfl,hv⟩,hf4⟩))
    obtain ⟨l0,hl0⟩:∃ l0,x1.poss v=some l0:=by
     cases hp:x1.poss v with
     | none=>exact absurd hp ((hr1.mem v).1 hv.1)
     | some l0=>exact ⟨l0,rfl⟩
    have hL2:strikeL x1.al x1.edges x1.poss v=some (strike x1.al x.edges v x.regs):=by unfold strikeL;rw [hl0,Option.map_some,hH1.st v l0 hl0]
    have hv2:Least (fun w=>(strike x1.al x.edges w x.regs).length) rem1 v:=hv.congr (fun u hu=>by
     unfold score strikeL
     cases hp:x1.poss u with
     | none=>exact absurd hp ((hr1.mem u).1 hu)
     | some lu=>simp [hH1.st u lu hp]) (fun _=>Iff.rfl)
    have hstep:=color_step (n:=rem1.length) (regs:=x.regs) hcA h0 hv2
    have hac:=alloc_calls w4 _ _ g2 v _ (h3.still hf4) hL2
    rw [hg2] at hac
    unfold ptr at hac
    replace hstep:=Lib.hid hstep
    replace hL2:=Lib.hid hL2
    replace hl0:=Lib.hid hl0
    replace hc:=Lib.hid hc
    replace hcA:=Lib.hid hcA
    replace hg2:=Lib.hid hg2
    refine hac.mono ?_
    rintro e w5 (⟨hnil,⟨T,y,rfl⟩,hf5⟩ | ⟨p,q,hpq,rfl,h5,hf5⟩)
    ·have hnone:res=none:=by rw [hres1.out,hstep.out,hnil]
     replace hnone:=Lib.hid hnone
     replace hnil:=Lib.hid hnil
     go_wp2
     go_ret2
     exact ⟨(hf3.then hf4.of_nope).then hf5.of_nope,.inl ⟨hnone.out,_,_,rfl⟩⟩
    ·have hpm:p∈x.regs:=(mem_strike.1 (by rw [hpq];simp:p∈strike x1.al x.edges v x.regs)).1
     have hres5:res=color x.regs x.edges rem1.length (rem1.erase v) (setA x1.al v p):=by rw [hres1.out,hstep.out,hpq]
     have hlt:(rem1.erase v).length+1=rem1.length:=by rw [List.length_erase_of_mem hv.1];have:=List.length_pos_of_mem hv.1;omega
     have hN:=hH1.next (fun r hr=>(hreg r hr).1) hcA.out hl0.out hpq
     rw [← hlt] at hres5
     replace hres5:=Lib.hid hres5
     replace hpq:=Lib.hid hpq
     replace hlt:=Lib.hid hlt
     have hf45:Fr P w w5:=(hf3.then hf4.of_nope).trans hf5 (fun _ _ x=>x) (fun c hc hh=>by
      rcases hh with hh | hh
      ·exact hh
      ·omega)
     go_wp2
     go_roundg (rem1.erase v).length
     case measure=>have:=hlt.out;omega
     case rel=>
      refine ⟨⟨x1.regs,x1.prio,setA x1.al v p,x1.edges.filter (open2 x1.al),delL (strikeL x1.al x1.edges x1.poss) v⟩,g2,rem1.erase v,hxr,hg2,h5.more (fun c hc=>?_) (wider_lt h.lt hf45.size),hr2.erase v,hN,hz1.upd.alloc (hreg p hpm).2,hres5,hf45,rfl⟩
      rcases hc with hc | hc
      ·exact .inl hc
      ·exact .inr ⟨hc.1,by have:=hf4.size;have:=hf5.size;omega⟩
end
section
open Go Go.Shelf
def sl6_ren:Ren:=⟨fun | 6=>90 | 10=>124 | 11=>125 | 12=>126 | 13=>127 | 14=>128 | 24=>149 | 25=>150 | 26=>151 | 27=>152 | 28=>153 | 29=>154 | 30=>155 | 31=>156 | 32=>157 | 33=>158 | 34=>168 | 35=>169 | 36=>170 | 37=>171 | 38=>172 | 39=>183 | n=>n,fun | 20=>20 | 26=>185 | 35=>245 | 0=>0 | 37=>247 | 3=>3 | 41=>64 | 44=>252 | 49=>27 | 51=>41 | 4=>4 | 54=>285 | 53=>284 | 58=>289 | 5=>5 | 9=>9 | 60=>301 | 64=>305 | 66=>334 | 67=>335 | 17=>17 | 32=>242 | 33=>243 | 82=>370 | 12=>12 | 75=>363 | 76=>364 | 77=>365 | 78=>366 | 79=>367 | 80=>368 | n=>n,fun n=>n⟩
theorem sl6:LaysGg.n6 Tryz.prog sl6_ren:={
 mixed:=by kernel_rfl,
 f6:=Tryz.func90.trans (congrArg some (by kernel_rfl)),
 f10:=Tryz.func124.trans (congrArg some (by kernel_rfl)),
 f11:=Tryz.func125.trans (congrArg some (by kernel_rfl)),
 f12:=Tryz.func126.trans (congrArg some (by kernel_rfl)),
 f13:=Tryz.func127.trans (congrArg some (by kernel_rfl)),
 f14:=Tryz.func128.trans (congrArg some (by kernel_rfl)),
 f24:=Tryz.func149.trans (congrArg some (by kernel_rfl)),
 f25:=Tryz.func150.trans (congrArg some (by kernel_rfl)),
 f26:=Tryz.func151.trans (congrArg some (by kernel_rfl)),
 f27:=Tryz.func152.trans (congrArg some (by kernel_rfl)),
 f28:=Tryz.func153.trans (congrArg some (by kernel_rfl)),
 f29:=Tryz.func154.trans (congrArg some (by kernel_rfl)),
 f30:=Tryz.func155.trans (congrArg some (by kernel_rfl)),
 f31:=Tryz.func156.trans (congrArg some (by kernel_rfl)),
 f32:=Tryz.func157.trans (congrArg some (by kernel_rfl)),
 f33:=Tryz.func158.trans (congrArg some (by kernel_rfl)),
 f34:=Tryz.func168.trans (congrArg some (by kernel_rfl)),
 f35:=Tryz.func169.trans (congrArg some (by kernel_rfl)),
 f36:=Tryz.func170.trans (congrArg some (by kernel_rfl)),
 f37:=Tryz.func171.trans (congrArg some (by kernel_rfl)),
 f38:=Tryz.func172.trans (congrArg some (by kernel_rfl)),
 f39:=Tryz.func183.trans (congrArg some (by kernel_rfl)),
 t0:=Tryz.underlying0,
 a0:=Tryz.isAgg0,
 z0:=Tryz.sizeOf0,
 v0:=Tryz.zeroValue0,
 i0:=by kernel_rfl,
 t3:=Tryz.underlying3,
 a3:=Tryz.isAgg3,
 z3:=Tryz.sizeOf3,
 v3:=Tryz.zeroValue3,
 i3:=by kernel_rfl,
 t4:=Tryz.underlying4,
 a4:=Tryz.isAgg4,
 z4:=Tryz.sizeOf4,
 v4:=Tryz.zeroValue4,
 i4:=by kernel_rfl,
 t5:=Tryz.underlying5,
 a5:=Tryz.isAgg5,
 z5:=Tryz.sizeOf5,
 v5:=Tryz.zeroValue5,
 i5:=by kernel_rfl,
 t9:=Tryz.underlying9,
 a9:=Tryz.isAgg9,
 z9:=Tryz.sizeOf9,
 v9:=Tryz.zeroValue9,
 i9:=by kernel_rfl,
 t12:=Tryz.underlying12,
 a12:=Tryz.isAgg12,
 z12:=Tryz.sizeOf12,
 v12:=Tryz.zeroValue12,
 i12:=by kernel_rfl,
 t17:=Tryz.underlying17,
 a17:=Tryz.isAgg17,
 z17:=Tryz.sizeOf17,
 v17:=Tryz.zeroValue17,
 i17:=by kernel_rfl,
 t20:=Tryz.underlying20,
 a20:=Tryz.isAgg20,
 z20:=Tryz.sizeOf20,
 v20:=Tryz.zeroValue20,
 i20:=by kernel_rfl,
 t26:=Tryz.underlying185,
 a26:=Tryz.isAgg185,
 z26:=Tryz.sizeOf185,
 v26:=Tryz.zeroValue185,
 i26:=by kernel_rfl,
 t32:=Tryz.underlying242,
 a32:=Tryz.isAgg242,
 z32:=Tryz.sizeOf242,
 v32:=Tryz.zeroValue242,
 i32:=by kernel_rfl,
 t33:=Tryz.underlying243,
 a33:=Tryz.isAgg243,
 z33:=Tryz.sizeOf243,
 v33:=Tryz.zeroValue243,
 i33:=by kernel_rfl,
 t35:=Tryz.underlying245,
 a35:=Tryz.isAgg245,
 z35:=Tryz.sizeOf245,
 v35:=Tryz.zeroValue245,
 i35:=by kernel_rfl,
 t37:=Tryz.underlying247,
 a37:=Tryz.isAgg247,
 z37:=Tryz.sizeOf247,
 v37:=Tryz.zeroValue247,
 i37:=by kernel_rfl,
 t41:=Tryz.underlying64,
 a41:=Tryz.isAgg64,
 z41:=Tryz.sizeOf64,
 v41:=Tryz.zeroValue64,
 i41:=by kernel_rfl,
 t44:=Tryz.underlying252,
 a44:=Tryz.isAgg252,
 z44:=Tryz.sizeOf252,
 v44:=Tryz.zeroValue252,
 i44:=by kernel_rfl,
 t49:=Tryz.underlying27,
 a49:=Tryz.isAgg27,
 z49:=Tryz.sizeOf27,
 v49:=Tryz.zeroValue27,
 i49:=by kernel_rfl,
 t51:=Tryz.underlying41,
 a51:=Tryz.isAgg41,
 z51:=Tryz.sizeOf41,
 v51:=Tryz.zeroValue41,
 i51:=by kernel_rfl,
 t53:=Tryz.underlying284,
 a53:=Tryz.isAgg284,
 z53:=Tryz.sizeOf284,
 v53:=Tryz.zeroValue284,
 i53:=by kernel_rfl,
 t54:=Tryz.underlying285,
 a54:=Tryz.isAgg285,
 z54:=Tryz.sizeOf285,
 v54:=Tryz.zeroValue285,
 i54:=by kernel_rfl,
 t58:=Tryz.underlying289,
 a58:=Tryz.isAgg289,
 z58:=Tryz.sizeOf289,
 v58:=Tryz.zeroValue289,
 i58:=by kernel_rfl,
 t60:=Tryz.underlying301,
 a60:=Tryz.isAgg301,
 z60:=Tryz.sizeOf301,
 v60:=Tryz.zeroValue301,
 i60:=by kernel_rfl,
 t64:=Tryz.underlying305,
 a64:=Tryz.isAgg305,
 z64:=Tryz.sizeOf305,
 v64:=Tryz.zeroValue305,
 i64:=by kernel_rfl,
 t66:=Tryz.underlying334,
 a66:=Tryz.isAgg334,
 z66:=Tryz.sizeOf334,
 v66:=Tryz.zeroValue334,
 i66:=by kernel_rfl,
 t67:=Tryz.underlying335,
 a67:=Tryz.isAgg335,
 z67:=Tryz.sizeOf335,
 v67:=Tryz.zeroValue335,
 i67:=by kernel_rfl,
 t75:=Tryz.underlying363,
 a75:=Tryz.isAgg363,
 z75:=Tryz.sizeOf363,
 v75:=Tryz.zeroValue363,
 i75:=by kernel_rfl,
 t76:=Tryz.underlying364,
 a76:=Tryz.isAgg364,
 z76:=Tryz.sizeOf364,
 v76:=Tryz.zeroValue364,
 i76:=by kernel_rfl,
 t77:=Tryz.underlying365,
 a77:=Tryz.isAgg365,
 z77:=Tryz.sizeOf365,
 v77:=Tryz.zeroValue365,
 i77:=by kernel_rfl,
 t78:=Tryz.underlying366,
 a78:=Tryz.isAgg366,
 z78:=Tryz.sizeOf366,
 v78:=Tryz.zeroValue366,
 i78:=by kernel_rfl,
 t79:=Tryz.underlying367,
 a79:=Tryz.isAgg367,
 z79:=Tryz.sizeOf367,
 v79:=Tryz.zeroValue367,
 i79:=by kernel_rfl,
 t80:=Tryz.underlying368,
 a80:=Tryz.isAgg368,
 z80:=Tryz.sizeOf368,
 v80:=Tryz.zeroValue368,
 i80:=by kernel_rfl,
 t82:=Tryz.underlying370,
 a82:=Tryz.isAgg370,
 z82:=Tryz.sizeOf370,
 v82:=Tryz.zeroValue370,
 i82:=by kernel_rfl }
end
end Go.Proofs.YtpbeedabmjmdmaaGreatDoor
namespace Bth
section
open Go Go.RowKit Go.Lib Go.Sort
theorem putRow_id {α : Type} [Inhabited α] (enc:α → Value) (w:World) (blk off:Nat) (d:Array α):putRow enc w blk off d=putRow id w blk off (d.map enc):=by
 unfold putRow
 refine mapBlock_congr w blk _ _ fun c _ _ _=>?_
 apply Array.ext_getElem?
 intro k
 simp only [putCells,Array.getElem?_mapIdx,Array.size_map]
 cases c[k]? with
 | none=>rfl
 | some x=>
  simp only [Option.map_some,id]
  split
  ·rename_i h
   congr 1
   rw [getElem!_pos d (k - off) (by omega),getElem!_pos (d.map enc) (k - off) (by simp;omega),Array.getElem_map]
  ·rfl
def sorted (w:World) (g m:Nat) (F:Array Value) (os:Array Obj):World:=grow (putRow id (Sort.ahead w m) g 0 F) os
theorem sorted_heap {w:World} {g m:Nat} {F:Array Value} {os:Array Obj} {cur:Array Value} {e:TypeId} (h:w.heap[g]? = some (.cells cur e (0,0))):(sorted w g m F os).heap[g]? = some (.cells (putCells id 0 F cur) e (0,0)):=by
 have hl:g < w.heap.size:=(Array.getElem?_eq_some_iff.1 h).1
 unfold sorted
 rw [heap_grow_old _ _ (by simp [Sort.ahead];exact hl)]
 unfold putRow mapBlock Sort.ahead
 simp only [Array.getElem?_modify,if_true,h,Option.map_some]
 rfl
theorem sorted_fr (w:World) (g m:Nat) (F:Array Value) (os:Array Obj):Fr (fun b=>b=g) w (sorted w g m F os):=by
 have hs:(putRow id (Sort.ahead w m) g 0 F).heap.size=w.heap.size:=by simp [Sort.ahead]
 refine ⟨rfl,rfl,rfl,?_,fun k hk hne=>?_⟩
 ·unfold sorted;rw [size_grow,hs];omega
 ·unfold sorted
  rw [heap_grow_old _ _ (by rw [hs];exact hk)]
  unfold putRow mapBlock Sort.ahead
  have hne':¬g=k:=fun e=>hne e.symm
  simp [Array.getElem?_modify,hne']
theorem putCells_take {F cur:Array Value} (h:F.size≤cur.size):(putCells id 0 F cur).toList.take F.size=F.toList:=by
 apply List.ext_getElem?
 intro k
 rw [List.getElem?_take]
 split
 ·rename_i hk
  simp only [putCells,Array.toList_mapIdx,List.getElem?_mapIdx,Array.getElem?_toList]
  rw [Array.getElem?_eq_getElem (by omega:k < cur.size),Array.getElem?_eq_getElem hk]
  simp only [Option.map_some,id]
  rw [if_pos ⟨Nat.zero_le _,by omega⟩]
  congr 1
  rw [Nat.sub_zero,getElem!_pos F k hk]
 ·rename_i hk
  rw [Array.getElem?_toList,Array.getElem?_eq_none (by omega)]
theorem sorted_own {w:World} {base n k:Nat} {e:TypeId} {g c m:Nat} {xs:List Value} {F:Array Value} {os:Array Obj} (h:w.ownsRow base e k (.slice (some ⟨g,0,none⟩) n c) n xs) (hF:F.size=n*k):
  (sorted w g m F os).ownsRow base e k (.slice (some ⟨g,0,none⟩) n c) n F.toList:=by
 refine ⟨by simpa using hF,?_⟩
 rcases h.2 with ⟨h1,_⟩ | ⟨g',cap,cur,h1,hb,hh,h3,h4,h5,h6⟩
 ·injection h1 with h1 _ _;cases h1
 ·injection h1 with hg _ hc
  injection hg with hg
  injection hg with hg _ _
  subst hg hc
  have hle:F.size≤cur.size:=by rw [hF,h5];exact Nat.mul_le_mul_right k h3
  exact .inr ⟨g,c,_,rfl,hb,sorted_heap hh,h3,h4,by simp [putCells,h5],by rw [← hF];exact putCells_take hle⟩
theorem own_cur {w:World} {base n k:Nat} {e:TypeId} {g c:Nat} {xs:List Value} (h:w.ownsRow base e k (.slice (some ⟨g,0,none⟩) n c) n xs):∀ j u,xs[j]? = some u→w.cell? ⟨g,j,none⟩=some u∧w.frozen? ⟨g,j,none⟩=false:=by
 intro j u hu
 have hj:j < n*k:=by rw [← h.1];exact (List.getElem?_eq_some_iff.1 hu).1
 rcases h.2 with ⟨h1,_⟩ | ⟨g',cap,cur,h1,hb,hh,h3,h4,h5,h6⟩
 ·injection h1 with h1 _ _;cases h1
 ·injection h1 with hg _ hc
  injection hg with hg
  injection hg with hg _ _
  subst hg hc
  refine ⟨?_,by simp [World.frozen?,hh]⟩
  rw [cell_of_row w g j cur e (0,0) hh]
  rw [← h6,List.getElem?_take_of_lt hj] at hu
  simpa using hu
theorem own_holds {α : Type} [Inhabited α] {w:World} {base n:Nat} {e:TypeId} {g c:Nat} {enc:α → Value} {xs:List α} (h:w.ownsRow base e 1 (.slice (some ⟨g,0,none⟩) n c) n (xs.map enc)):Holds enc w g 0 xs.toArray:=by
 intro j hj
 have hj':j < xs.length:=by simpa using hj
 have:=own_cur h j (enc xs[j]) (by rw [List.getElem?_map,List.getElem?_eq_getElem hj'];rfl)
 rw [Nat.zero_add,getElem!_pos xs.toArray j hj]
 simpa using this
theorem flatK_list {α : Type} [Inhabited α] (enc:α → List Value) (k:Nat) (hk:∀ x,(enc x).length=k) (h0:0 < k):∀ (xs:List α),(flatK enc k xs.toArray).toList=xs.flatMap enc:=by
 intro xs
 apply List.ext_getElem?
 intro t
 have key:∀ (l:List α) (t:Nat),(l.flatMap enc)[t]? = if t < l.length*k then (enc (l[t / k]?.getD default))[t % k]? else none:=by
  intro l
  induction l with
  | nil=>intro t;simp
  | cons a l ih=>
   intro t
   rw [List.flatMap_cons]
   by_cases ht:t < k
   ·rw [List.getElem?_append_left (by rw [hk];exact ht),if_pos (by simp only [List.length_cons,Nat.succ_mul];omega),Nat.div_eq_of_lt ht,Nat.mod_eq_of_lt ht]
    rfl
   ·rw [List.getElem?_append_right (by rw [hk];omega),hk,ih]
    have e1:t / k=(t - k) / k+1:=by rw [← Nat.sub_add_cancel (Nat.le_of_not_lt ht),Nat.add_div_right _ h0];simp
    have e2:t % k=(t - k) % k:=by
     conv=>lhs;rw [← Nat.sub_add_cancel (Nat.le_of_not_lt ht)]
     rw [Nat.add_mod_right]
    rw [e1,e2]
    simp only [List.length_cons,Nat.succ_mul,List.getElem?_cons_succ]
    by_cases h2:t - k < l.length*k
    ·rw [if_pos h2,if_pos (by omega)]
    ·rw [if_neg h2,if_neg (by omega)]
 rw [key]
 simp only [flatK,Array.getElem?_toList,Array.getElem?_map,List.size_toArray]
 split
 ·rename_i ht
  have hd:t / k < xs.length:=by rw [Nat.div_lt_iff_lt_mul h0];exact ht
  have hm:t % k < k:=Nat.mod_lt _ h0
  rw [Array.getElem?_eq_getElem (by simpa using ht)]
  simp only [Option.map_some,Array.getElem_range]
  rw [List.getElem?_eq_getElem hd,Option.getD_some,List.getElem?_eq_getElem (by rw [hk];exact hm)]
  congr 1
  rw [getElem!_pos xs.toArray _ (by simpa using hd),getElem!_pos _ _ (by rw [hk];exact hm)]
  simp
 ·rename_i ht
  rw [Array.getElem?_eq_none (by simpa using ht)];rfl
theorem own_holdsK {α : Type} [Inhabited α] {w:World} {base n k:Nat} {e:TypeId} {g c:Nat} {enc:α → List Value} {xs:List α} (hk:∀ x,(enc x).length=k) (h0:0 < k) (h:w.ownsRow base e k (.slice (some ⟨g,0,none⟩) n c) n (xs.flatMap enc)):HoldsK enc k w g 0 xs.toArray:=by
 unfold HoldsK
 rw [← flatK_list enc k hk h0 xs] at h
 intro j hj
 have:=own_cur h j ((flatK enc k xs.toArray)[j]) (by rw [Array.getElem?_toList,Array.getElem?_eq_getElem hj])
 rw [Nat.zero_add,getElem!_pos _ j hj]
 exact this
def SortedOf {α : Type} (lt:α → α → Bool) (xs ys:List α):Prop:=ys.Perm xs∧ys.Pairwise fun a b=>lt b a=false
theorem sortedOf_of {α : Type} [Inhabited α] {lt:α → α → Bool} {xs:List α} {d':Array α} (hp:PermIn 0 xs.toArray.size xs.toArray d') (hs:SortedIn lt 0 xs.toArray.size d'):SortedOf lt xs d'.toList∧d'.size=xs.length:=by
 obtain ⟨h1,_,h3⟩:=hp
 have h1':d'.size=xs.length:=by simpa using h1
 refine ⟨⟨?_,?_⟩,h1'⟩
 ·have e1:d'.extract 0 xs.toArray.size=d':=by rw [← h1];exact Array.extract_size
  have e2:xs.toArray.extract 0 xs.toArray.size=xs.toArray:=Array.extract_size
  rw [e1,e2] at h3
  exact h3
 ·rw [List.pairwise_iff_getElem]
  intro i j hi hj hij
  have hj':j < d'.size:=by simpa using hj
  have hi':i < d'.size:=by simpa using hi
  have:=hs i j (Nat.zero_le _) hij (by simpa using (by omega:j < xs.length))
  rw [getElem!_pos d' j hj',getElem!_pos d' i hi'] at this
  simpa using this
theorem SortedOf.tiny {α : Type} {lt:α → α → Bool} {xs:List α} (h:xs.length≤1):SortedOf lt xs xs:=by
 refine ⟨.refl _,?_⟩
 rcases xs with _ | ⟨a,_ | ⟨b,l⟩⟩
 ·exact .nil
 ·exact List.pairwise_singleton _ _
 ·simp at h
theorem fr_grow (w:World) (os:Array Obj):Fr nope w (grow w os):=⟨rfl,rfl,rfl,by rw [size_grow];omega,fun k hk _=>heap_grow_old w os hk⟩
end
end Bth
namespace Go.Proofs.YtpbeedabmjmdmaaGreatDoor
section
open Go Go.RowKit Go.Lib Go.Sort Bth
set_option maxRecDepth 100000
noncomputable def idsT:TypeInfo:=(Tryz.prog.info? 228).get (by kernel_rfl)
noncomputable def idT:TypeInfo:=(Tryz.prog.info? 123).get (by kernel_rfl)
theorem idK (n:Nat) (h2:2≤n):Lib.swapperK n idT 10=6:=by
 have a:idT.hasPointers=false:=by kernel_rfl
 have b:idT.bytes=4:=by kernel_rfl
 have c:(n == 0)=false:=by simp;omega
 have d:(n == 1)=false:=by simp;omega
 simp [Lib.swapperK,a,b,c,d]
def LessOwn (g:FuncId) (lb:Array Value) (lt:Nat→Nat→Bool) (w:World) (b c:Nat) (n:Nat):Prop:=
 ∀ (W:World) (ys:List Nat),Fr (fun x=>x=b) w W→ys.length=n→W.ownsRow 0 123 1 (.slice (some ⟨b,0,none⟩) n c) n (ys.map idV)→∀ i j:Nat,i < n→j < n →
  Calls Tryz.prog g (#[.int .i64 i,.int .i64 j] ++ lb) W fun e w'=>e = .returned (.bool (lt (ys.getD i 0) (ys.getD j 0)))∧∃ q,w'=W.drewN q
def GivesSorted (w:World) (v:Value) (lt:Nat→Nat→Bool) (xs:List Nat) (e:Ending) (w':World):Prop:=
 e = .returned (.tuple #[])∧∃ ys,SortedOf lt xs ys∧w'.ownsRow 0 123 1 v xs.length (ys.map idV)∧Fr (fun b=>v.ownBlock=some b) w w'
theorem sortIDs_calls (w:World) (A:Option Addr) (c:Nat) (xs:List Nat) (hown:w.ownsRow 0 123 1 (.slice A xs.length c) xs.length (xs.map idV)) (g:FuncId) (lb:Array Value) (eg:∀ args w,(callFunc g args).run Tryz.prog w = .ok (.enter g args) w)
  (lt:Nat→Nat→Bool) (hO:SWO lt) (hless:∀ b,A=some ⟨b,0,none⟩→LessOwn g lb lt w b c xs.length) (hsz:xs.length < 4611686018427387904):
  Calls Tryz.prog 90 #[.iface 228 (.slice A xs.length c),.func (.func g) #[] lb] w (GivesSorted w (.slice A xs.length c) lt xs):=by
 by_cases h2:2≤xs.length
 ·obtain ⟨b,rfl,hb,_⟩:=own_cells hown (by omega)
  have hS:=Any.sort_Slice_sorted sl6 228 123 idsT idT (by kernel_rfl) (by kernel_rfl) (by kernel_rfl) (by kernel_rfl) 10 (fun _=>by kernel_rfl) (by kernel_rfl) (fun _=>by kernel_rfl) idV (fun _=>rfl) lt hO g lb eg b 0 c xs.toArray (by simpa using h2) (by simpa using hsz)
   145 (by rw [idK _ (by simpa using h2)];kernel_rfl) true
   (fun args W=>run_callFunc_extern Tryz.func145 (by kernel_rfl) (by kernel_rfl) (by kernel_rfl) (e:=Extern.ReflectliteSwapper.swap true) (by kernel_rfl) args W) w
   (fun m os dk hs i j hi hj=>by
    have hs':dk.size=xs.length:=by simpa using hs
    have e:Go.Proofs.sortWorld idV w b 0 m dk os=sorted w b m (dk.map idV) os:=by unfold Go.Proofs.sortWorld sorted;rw [putRow_id]
    rw [e]
    have hw:=hless b rfl (sorted w b m (dk.map idV) os) dk.toList (sorted_fr _ _ _ _ _) (by simpa using hs') (by
     have:=sorted_own (m:=m) (os:=os) (F:=dk.map idV) hown (by simp [hs'])
     simpa using this) i j (by simpa using hi) (by simpa using hj)
    have e1:∀ t,t < xs.length→dk.toList.getD t 0=dk[t]!:=fun t ht=>by
     rw [getElem!_pos dk t (by omega),List.getD_eq_getElem?_getD,Array.getElem?_toList,Array.getElem?_eq_getElem (by omega)];rfl
    rw [e1 i (by simpa using hi),e1 j (by simpa using hj)] at hw
    exact hw)
   (own_holds hown) hb
  have hsz2:xs.toArray.size=xs.length:=by simp
  rw [hsz2] at hS
  refine Calls.mono hS ?_
  rintro e w' ⟨rfl,d',m,os,hp,hso,rfl⟩
  obtain ⟨h3,h4⟩:=sortedOf_of (by simpa using hp) (by simpa using hso)
  refine ⟨rfl,d'.toList,h3,?_,?_⟩
  ·rw [putRow_id]
   have:=sorted_own (m:=m) (os:=os) (F:=d'.map idV) hown (by simp [h4])
   rw [Array.toList_map] at this
   exact this
  ·rw [putRow_id]
   exact (sorted_fr w b m _ os).mono fun x _ e=>by rw [e];rfl
 ·have h1:xs.length=0∨xs.length=1:=by omega
  rcases h1 with h1 | h1
  ·have hS:=Any.sort_Slice_tiny sl6 228 123 idsT idT (by kernel_rfl) (by kernel_rfl) (by kernel_rfl) (by kernel_rfl) 10 (fun _=>by kernel_rfl) A xs.length c (by omega) 140 (by rw [h1];kernel_rfl) (.func g) #[] lb w
   refine Calls.mono hS ?_
   rintro e w' ⟨rfl,os,rfl⟩
   exact ⟨rfl,xs,.tiny (by omega),own_fr hown (fr_grow w os) (fun _ _ x=>x),(fr_grow w os).of_nope⟩
  ·have hS:=Any.sort_Slice_tiny sl6 228 123 idsT idT (by kernel_rfl) (by kernel_rfl) (by kernel_rfl) (by kernel_rfl) 10 (fun _=>by kernel_rfl) A xs.length c (by omega) 141 (by rw [h1];kernel_rfl) (.func g) #[] lb w
   refine Calls.mono hS ?_
   rintro e w' ⟨rfl,os,rfl⟩
   exact ⟨rfl,xs,.tiny (by omega),own_fr hown (fr_grow w os) (fun _ _ x=>x),(fr_grow w os).of_nope⟩
end
section
open Go Go.RowKit Go.MapKept Bth
open Go.ChangeMaps (setBlock)
set_option maxRecDepth 100000
def pr (f:Nat→Option Int) (k:Nat):Int:=(f k).getD 0
def ltP (f:Nat→Option Int) (a b:Nat):Bool:=decide (pr f b < pr f a) || (decide (pr f a=pr f b) && decide (a < b))
theorem swo_ltP (f:Nat→Option Int):Go.Sort.SWO (ltP f) where
 irrefl x:=by simp [ltP]
 trans x y z h1 h2:=by simp [ltP] at *;omega
 ntrans x y z h1 h2:=by simp [ltP] at *;omega
theorem prioT:Tryz.prog.underlying 229=some (.map 123 3):=Tryz.underlying229
theorem zeroInt (w:World):(zeroValue 3).run Tryz.prog w = .ok (.int .i64 0) w:=by kernel_rfl
theorem PrioAt.look {w:World} {b:Nat} {f:Nat→Option Int} (h:PrioAt w b f) (k:Nat):
  (Instr.lookup 229 (.map (some b)) (.int .u32 (k:Int)) false).run Tryz.prog w = .ok (.int .i64 (pr f k)) w:=by
 obtain ⟨ks,hm⟩:=h
 have:=hm.lookup idKey prioT (zeroInt w) k false
 rw [show (Value.int .u32 (k:Int))=idV k from rfl,this]
 unfold pr
 cases f k<;>simp
theorem PrioAt.put {w:World} {b:Nat} {f:Nat→Option Int} (h:PrioAt w b f) (k:Nat) (v:Int):
  ∃ w',(Instr.mapUpdate 229 (.map (some b)) (.int .u32 (k:Int)) (.int .i64 v)).run Tryz.prog w = .ok () w'∧PrioAt w' b (fun x=>if x=k then some v else f x)∧Fr (fun x=>x=b) w w'∧w'.heap.size=w.heap.size:=by
 obtain ⟨ks,hM⟩:=h
 obtain ⟨es,clock,h1,h2⟩:=hM.update idKey prioT k (.int .i64 v)
 have e:(fun x=>(if x=k then some v else f x).map fun p=>Value.int .i64 p)=updM (fun s=>(f s).map fun p=>Value.int .i64 p) k (some (.int .i64 v)):=by
  funext x
  unfold updM
  by_cases hx:x=k<;>simp [hx]
 rw [← e] at h2
 exact ⟨setBlock w b (.map es clock),h1,⟨_,h2⟩,(Fr.refl (fun x=>x=b) w).setBlock (.inl rfl) _,by simp [setBlock]⟩
theorem PrioAt.eqHeap {w W:World} {b:Nat} {f:Nat→Option Int} (h:PrioAt w b f) (he:W.heap=w.heap):PrioAt W b f:=by obtain ⟨ks,hm⟩:=h;exact ⟨ks,hm.keep (by rw [he])⟩
set_option maxHeartbeats 1000000 in
theorem less_calls (W:World) (a Bs bp b n c:Nat) (f:Nat→Option Int) (ys:List Nat) (hB:W.cell? ⟨Bs,0,none⟩=some (ptr a)) (h0:W.cell? ⟨a,0,none⟩=some (.slice (some ⟨b,0,none⟩) n c)) (h1:W.cell? ⟨a,1,none⟩=some (.map (some bp)))
  (hP:PrioAt W bp f) (hl:ys.length=n) (hown:W.ownsRow 0 123 1 (.slice (some ⟨b,0,none⟩) n c) n (ys.map idV)) (i j:Nat) (hi:i < n) (hj:j < n):
  Calls Tryz.prog 134 #[.int .i64 i,.int .i64 j,ptr Bs] W fun e w'=>e = .returned (.bool (ltP f (ys.getD i 0) (ys.getD j 0)))∧∃ q,w'=W.drewN q:=by
 obtain ⟨x,hx⟩:∃ x,ys[i]? = some x:=⟨_,List.getElem?_eq_getElem (by omega)⟩
 obtain ⟨y,hy⟩:∃ y,ys[j]? = some y:=⟨_,List.getElem?_eq_getElem (by omega)⟩
 have hci:=(own_cur hown i (idV x) (by rw [List.getElem?_map,hx];rfl)).1
 have hcj:=(own_cur hown j (idV y) (by rw [List.getElem?_map,hy];rfl)).1
 have hxd:ys.getD i 0=x:=by rw [List.getD_eq_getElem?_getD,hx];rfl
 have hyd:ys.getD j 0=y:=by rw [List.getD_eq_getElem?_getD,hy];rfl
 rw [hxd,hyd]
 have hlx:=fun m=>(PrioAt.eqHeap (W:=W.drewN m) hP rfl).look x
 have hly:=fun m=>(PrioAt.eqHeap (W:=W.drewN m) hP rfl).look y
 obtain ⟨p,hp⟩:∃ p,pr f x=p:=⟨_,rfl⟩
 obtain ⟨q,hq⟩:∃ q,pr f y=q:=⟨_,rfl⟩
 unfold ltP
 rw [hp] at hlx ⊢
 rw [hq] at hly ⊢
 unfold idV at hci hcj
 unfold ptr at hB ⊢
 have hi':(0:Int)≤(i:Int):=by omega
 have hj':(0:Int)≤(j:Int):=by omega
 have hii:(i:Int) < (n:Int):=by omega
 have hjj:(j:Int) < (n:Int):=by omega
 clear hP hown hx hy hxd hyd hp hq hl
 go_enter Tryz.func134,Tryz.ntmps134
 go_wp2
 go_quiet (fail)
 go_wp2
 go_quiet (fail)
 by_cases c1:q < p
 ·go_wp2
  go_ret
  exact ⟨by simp [c1],_,rfl⟩
 ·by_cases c2:p=q
  ·subst c2
   go_wp2
   go_ret
   exact ⟨by simp,_,rfl⟩
  ·have c3:(p == q)=false:=by simpa using c2
   go_wp2
   go_ret
   exact ⟨by simp [c1],_,rfl⟩
theorem AlAt.setRegs {w w':World} {P:Nat→Prop} {x:Al} {g:AlG} (h:AlAt w P x g) (hf:Fr (fun b=>g.sr.val.ownBlock=some b) w w') {ys:List Nat} (hl:ys.length=x.regs.length) (hown:w'.ownsRow 0 123 1 g.sr.val x.regs.length (ys.map idV)) (hp:∀ v,x.poss v=none):
  AlAt w' P { x with regs:=ys } g:=by
 have hT:NoT [274,276,233] w (fun b=>g.sr.val.ownBlock=some b):=NoT.own h.regs (by decide)
 have hm:∀ {c:Nat} {es:Array MapEntry} {cl:Nat},w.heap[c]? = some (.map es cl)→¬(g.sr.val.ownBlock=some c):=fun hm=>own_nomap h.regs hm
 obtain ⟨k1,m1⟩:=h.prio
 obtain ⟨k2,m2⟩:=h.al
 obtain ⟨k3,sv3,m3,_⟩:=h.poss
 exact
  { h with
    ha:=heap_frT h.ha hf hT (by decide)
    regs:=by show w'.ownsRow _ _ _ _ ys.length _;rw [hl];exact hown
    prio:=⟨k1,m1.fr hf (by obtain ⟨_,_,o⟩:=MapAt.obj m1;exact hm o)⟩
    al:=⟨k2,m2.fr hf (by obtain ⟨_,_,o⟩:=MapAt.obj m2;exact hm o)⟩
    edges:=own_frT h.edges hf hT (by decide)
    eat:=fun k b e h1 h2=>heap_frT (h.eat k b e h1 h2) hf hT (by decide)
    poss:=⟨k3,sv3,m3.fr hf (by obtain ⟨_,_,o⟩:=MapAt.obj m3;exact hm o),fun k l e=>by have:=hp k;rw [this] at e;cases e⟩
    lt:=fun c hc=>Nat.lt_of_lt_of_le (h.lt c hc) hf.size }
theorem sortregs_calls (w:World) (P:Nat→Prop) (x:Al) (g:AlG) (h:AlAt w P x g) (hp:∀ v,x.poss v=none) (hsz:x.regs.length < 4611686018427387904):
  Calls Tryz.prog 114 #[ptr g.a] w fun e w'=>e = .returned (.tuple #[])∧∃ ys,SortedOf (ltP x.prio) x.regs ys∧AlAt w' P { x with regs:=ys } g∧Fr P w w':=by
 obtain ⟨wb,hwb⟩:∃ wb,wb=w.alloc (.cells #[ptr g.a] 166):=⟨_,rfl⟩
 have hfb:Fr nope w wb:=by rw [hwb];exact (Fr.refl nope w).alloc _
 have hbb:wb.heap[w.heap.size]? = some (.cells #[ptr g.a] 166 (0,0)):=by rw [hwb];exact heap_alloc_new w _
 have hb:=h.still hfb
 obtain ⟨a,bp,ba,bq,⟨sA,sn,sc⟩,se,eb⟩:=g
 obtain rfl:sn=x.regs.length:=h.rn
 have hc0:=hb.c0
 have halt:=hb.lt _ hb.pa
 have hcb:wb.cell? ⟨w.heap.size,0,none⟩=some (ptr a):=by rw [cell_of_row wb _ 0 _ _ (0,0) hbb];rfl
 have hlb:=lt_of_heap hbb
 have hc0w:=h.c0
 have haltw:=h.lt _ h.pa
 simp only at hc0 halt hc0w haltw
 have hless:∀ b,sA=some ⟨b,0,none⟩→LessOwn 134 #[ptr w.heap.size] (ltP x.prio) wb b sc x.regs.length:=by
  rintro b rfl W ys hf hlen hown i j hi hj
  have h1:¬a=b:=fun e=>own_ne hb.regs hb.ha (by decide) (by rw [e];rfl)
  have h2:¬bp=b:=fun e=>by
   obtain ⟨k1,m1⟩:=hb.prio
   obtain ⟨_,_,o⟩:=MapAt.obj m1
   exact own_nomap hb.regs o (by show some b=some bp;rw [e])
  have h3:¬w.heap.size=b:=fun e=>by
   have:=own_lt h.regs b rfl
   omega
  exact less_calls W a w.heap.size bp b x.regs.length sc x.prio ys (hf.cell hcb h3) (hf.cell hb.c0 h1) (hf.cell hb.c1 h1) (PrioAt.fr hb.prio hf h2) hlen hown i j hi hj
 have hS:=sortIDs_calls wb sA sc x.regs hb.regs _ _ (fun args w=>enters_of Tryz.func134 (by kernel_rfl) rfl args w) (ltP x.prio) (swo_ltP _) hless hsz
 clear hless
 unfold ptr at hS ⊢
 unfold ptr at hcb hwb
 go_enter Tryz.func114,Tryz.ntmps114
 go_wp2_with fail
 rw [← hwb]
 refine hS.mono ?_
 rintro e w2 ⟨rfl,ys,hys,hown,hf2⟩
 replace hwb:=Lib.hid hwb
 go_wp2
 go_end0
 refine ⟨rfl,ys,hys,hb.setRegs hf2 hys.1.length_eq hown hp,hfb.of_nope.then (hf2.mono fun c _ hc=>h.pr c hc)⟩
def setPr (f:Nat→Option Int) (id:Nat) (p:Int):Nat→Option Int:=fun x=>if x=id then some p else f x
theorem AlAt.setPrio {w w':World} {P:Nat→Prop} {x:Al} {g:AlG} (h:AlAt w P x g) (hf:Fr (fun b=>b=g.bp) w w') {f:Nat→Option Int} (hp:PrioAt w' g.bp f):AlAt w' P { x with prio:=f } g:=by
 obtain ⟨k1,m1⟩:=h.prio
 obtain ⟨_,_,o⟩:=MapAt.obj m1
 have hkind:∀ {cs:Array Value} {t:TypeId} {fr:Nat × Nat} {b:Nat},w.heap[b]? = some (.cells cs t fr)→b≠g.bp:=by
  rintro cs t fr b hb rfl
  rw [hb] at o;cases o
 have hown:∀ {n size:Nat} {e:TypeId} {v:Value} {xs:List Value},w.ownsRow 0 e size v n xs→w'.ownsRow 0 e size v n xs:=fun ho=>own_fr ho hf fun c hc he=>by
  obtain ⟨cur,h2⟩:=own_heap ho hc
  exact hkind h2 he
 have hposs:=h.poss
 obtain ⟨k3,sv3,m3,hl3⟩:=hposs
 exact
  { h with
    ha:=hf.heap h.ha (hkind h.ha)
    regs:=hown h.regs
    prio:=hp
    al:=h.al.fr hf (fun e=>h.ne1 e.symm)
    edges:=hown h.edges
    eat:=fun k b e h1 h2=>hf.heap (h.eat k b e h1 h2) (hkind (h.eat k b e h1 h2))
    poss:=⟨k3,sv3,m3.fr hf (fun e=>h.ne2 e.symm),fun k l e=>⟨hown (hl3 k l e).1,(hl3 k l e).2⟩⟩
    lt:=fun c hc=>Nat.lt_of_lt_of_le (h.lt c hc) hf.size }
theorem SetPrio_calls (w:World) (P:Nat→Prop) (x:Al) (g:AlG) (id:Nat) (p:Int) (h:AlAt w P x g) (hp:∀ v,x.poss v=none) (hsz:x.regs.length < 4611686018427387904):
  Calls Tryz.prog 83 #[ptr g.a,.int .u32 (id:Int),.int .i64 p] w fun e w'=>e = .returned (.tuple #[])∧∃ ys,SortedOf (ltP (setPr x.prio id p)) x.regs ys∧AlAt w' P { x with regs:=ys,prio:=setPr x.prio id p } g∧Fr P w w':=by
 have hc1:=h.c1
 have halt:=h.lt _ h.pa
 obtain ⟨w1,hu,hp1,hf1,hs1⟩:=h.prio.put id p
 have h1:=h.setPrio hf1 hp1
 have hS:=sortregs_calls w1 P _ g h1 hp hsz
 replace hs1:=Lib.hid hs1
 unfold ptr at hS ⊢
 go_enter Tryz.func83,Tryz.ntmps83
 go_wp2_with (go_at_call 114;refine hS.mono ?_;rintro e w2 ⟨rfl,ys,hys,h2,hf2⟩)
 go_end0
 exact ⟨rfl,ys,hys,h2,(hf1.mono fun c _ e=>by rw [e];exact h.pp).then hf2⟩
end
end Go.Proofs.YtpbeedabmjmdmaaGreatDoor
