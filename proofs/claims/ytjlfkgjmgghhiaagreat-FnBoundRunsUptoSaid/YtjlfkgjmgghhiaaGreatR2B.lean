/- path and numbers: walks. -/
import Derived.DeepKeys3
import Derived.Deep.RegionHeld3
import Derived.BigQuiet
import Derived.Test.YtjlfkgjmgghhiaaGreatP43
import Derived.Test.YtjlfkgjmgghhiaaGreatP45
import Derived.Test.YtjlfkgjmgghhiaaGreatP47
import Derived.Test.YtjlfkgjmgghhiaaGreatR2A
namespace Go.Proofs.YtjlfkgjmgghhiaaGreat
section
open Go Go.RowKit Go.MapKept Bth
open Go.ChangeMaps (setBlock heap_setBlock_same)
set_option maxRecDepth 100000
def mkC (x:Nat × Nat):Value:=.agg #[.int .u32 (x.1:Int),.int .i64 (x.2:Int)]
theorem mkC_inj {a b:Nat × Nat} (h:mkC a=mkC b):a=b:=by
 obtain ⟨a1,a2⟩:=a
 obtain ⟨b1,b2⟩:=b
 simp [mkC] at h
 rw [Prod.mk.injEq]
 omega
theorem machT:Tryz.prog.underlying 40=some (.map 147 83):=Tryz.underlying40
theorem run_eqC (w:World) (a b:Nat × Nat):(Op.equal 147 (mkC a) (mkC b)).run Tryz.prog w = .ok (decide (a=b)) w:=by
 obtain ⟨a1,a2⟩:=a
 obtain ⟨b1,b2⟩:=b
 have h:(Op.equalIn 10000 147 (mkC (a1,a2)) (mkC (b1,b2))).run Tryz.prog w = .ok ((a1:Int) == b1 && (a2:Int) == b2) w:=by
  unfold mkC
  go_simp
  by_cases h1:(a1:Int)=b1<;>by_cases h2:(a2:Int)=b2<;>simp [h1,h2]
 have e:((a1:Int) == b1 && (a2:Int) == b2)=decide ((a1,a2)=(b1,b2)):=by
  rw [Bool.eq_iff_iff]
  simp
  omega
 rw [e] at h
 simp [Op.equal,Op.maxDepth,h]
theorem run_checkC {w:World} {k:Nat × Nat} {e:Bool} : (Instr.checkKey e 10000 147 (mkC k)).run Tryz.prog w = .ok () w:=by
 obtain ⟨a,b⟩:=k
 have c1:∀ n x,(Instr.checkKey e (n+1) 74 (.int .u32 x)).run Tryz.prog w = .ok () w:=fun n x=>run_checkKey (d:=.int .u32) Tryz.underlying74 (by simp [IsKey]) e n
 have c2:∀ n x,(Instr.checkKey e (n+1) 3 (.int .i64 x)).run Tryz.prog w = .ok () w:=fun n x=>run_checkKey (d:=.int .i64) Tryz.underlying3 (by simp [IsKey]) e n
 show (Instr.checkKey e (9999+1) _ _).run _ _=_
 unfold mkC Instr.checkKey
 have c1':=c1 9998 (a:Int)
 have c2':=c2 9998 (b:Int)
 go_simp
theorem run_askC (w:World) (k:Nat × Nat):∀ (es:List MapEntry) (i:Nat),(∀ e∈es,∃ k',e.key=mkC k') →
  ((Instr.findAsking 147 (mkC k) es i).run Tryz.prog w = .ok none w∧∀ e∈es,e.key≠mkC k) ∨
   ∃ j e,(Instr.findAsking 147 (mkC k) es i).run Tryz.prog w = .ok (some (i+j,e.val)) w∧es[j]? = some e∧e.key=mkC k
 | [],i,_=>.inl ⟨by simp [Instr.findAsking],by simp⟩
 | e :: es,i,hall=>by
  obtain ⟨k',hl⟩:=hall e (by simp)
  have hr:=run_eqC w k k'
  rw [← hl] at hr
  by_cases hkk:k=k'
  ·rw [decide_eq_true hkk] at hr
   exact .inr ⟨0,e,by simp [Instr.findAsking,hr],rfl,by rw [hl,hkk]⟩
  ·rw [decide_eq_false hkk] at hr
   rcases run_askC w k es (i+1) (fun y hy=>hall y (by simp [hy])) with ⟨h1,h2⟩ | ⟨j,e',h1,h2,h3⟩
   ·refine .inl ⟨by simp [Instr.findAsking,hr,h1],fun y hy=>?_⟩
    rcases List.mem_cons.1 hy with rfl | hy
    ·rw [hl];exact fun h=>hkk (mkC_inj h).symm
    ·exact h2 y hy
   ·exact .inr ⟨j+1,e',by simp [Instr.findAsking,hr,h1,Nat.add_assoc,Nat.add_comm 1 j],by simpa using h2,h3⟩
theorem run_findC (w:World) (k:Nat × Nat) (es:List MapEntry) (hall:∀ e∈es,∃ k',e.key=mkC k'):
  ((Instr.findKey 147 (mkC k) es).run Tryz.prog w = .ok none w∧∀ e∈es,e.key≠mkC k) ∨
   ∃ j e,(Instr.findKey 147 (mkC k) es).run Tryz.prog w = .ok (some (j,e.val)) w∧es[j]? = some e∧e.key=mkC k:=by
 cases es with
 | nil=>exact .inl ⟨by simp [Instr.findKey,run_underlying Tryz.underlying147,Instr.findNow],by simp⟩
 | cons e es=>
  obtain ⟨k',hl⟩:=hall e (by simp)
  have hn:∀ d,Instr.findNow d (mkC k) (e :: es) 0=none:=fun d=>by
   unfold Instr.findNow
   rw [hl]
   cases d<;>rfl
  have he:(Instr.findKey 147 (mkC k) (e :: es)).run Tryz.prog w=(Instr.findAsking 147 (mkC k) (e :: es) 0).run Tryz.prog w:=by
   simp [Instr.findKey,run_underlying Tryz.underlying147,hn]
  rw [he]
  rcases run_askC w k (e :: es) 0 hall with h | ⟨j,e',h1,h2,h3⟩
  ·exact .inl h
  ·exact .inr ⟨j,e',by simpa using h1,h2,h3⟩
theorem run_staysC (w:World) (k:Nat × Nat):(Instr.keyThatStays (mkC k) (mkC k)).run Tryz.prog w = .ok (mkC k) w:=by
 have:Instr.sameBits 10000 (mkC k) (mkC k)=true:=by simp [mkC,Instr.sameBits]
 simp [Instr.keyThatStays,this]
theorem cell_find {w:World} {b:Nat} {ks:List (Nat × Nat)} {f:Nat × Nat→Option Value} (h:MapAt w b mkC ks f) (k:Nat × Nat):
  ∃ es clock,w.heap[b]? = some (.map es clock) ∧
   ((f k=none∧(Instr.findKey 147 (mkC k) es.toList).run Tryz.prog w = .ok none w∧∀ x∈es.toList,x.key≠mkC k) ∨
    ∃ (j:Nat) (e:MapEntry),f k=some e.val∧(Instr.findKey 147 (mkC k) es.toList).run Tryz.prog w = .ok (some (j,e.val)) w∧es.toList[j]? = some e∧e.key=mkC k∧ks[j]? = some k):=by
 obtain ⟨es,clock,hb,hn,hm,hf,_⟩:=h
 have hkeys:∀ x∈es.toList,∃ k',x.key=mkC k'∧f k'=some x.val∧k'∈ks:=by
  intro x hx
  have:(x.key,some x.val)∈es.toList.map (fun e=>(e.key,some e.val)):=List.mem_map.2 ⟨x,hx,rfl⟩
  rw [hm] at this
  obtain ⟨k',hk',he⟩:=List.mem_map.1 this
  simp only [Prod.mk.injEq] at he
  exact ⟨k',he.1.symm,he.2,hk'⟩
 refine ⟨es,clock,hb,?_⟩
 rcases run_findC w k es.toList (fun x hx=>by obtain ⟨k',e,_⟩:=hkeys x hx;exact ⟨k',e⟩) with ⟨h1,h2⟩ | ⟨j,e,h1,h2,h3⟩
 ·refine .inl ⟨?_,h1,h2⟩
  refine hf k fun hmem=>?_
  have:(mkC k,f k)∈ks.map (fun k=>(mkC k,f k)):=List.mem_map.2 ⟨k,hmem,rfl⟩
  rw [← hm] at this
  obtain ⟨x,hx,he⟩:=List.mem_map.1 this
  simp only [Prod.mk.injEq] at he
  exact h2 x hx he.1
 ·refine .inr ⟨j,e,?_,h1,h2,h3,?_⟩
  ·obtain ⟨k',e1,e2,_⟩:=hkeys e (List.mem_of_getElem? h2)
   have:k'=k:=mkC_inj (e1.symm.trans h3)
   rw [← this];exact e2
  ·have hj:=congrArg (fun l=>l[j]?) hm
   simp only [List.getElem?_map,h2,Option.map_some] at hj
   cases hq:ks[j]? with
   | none=>rw [hq] at hj;simp at hj
   | some k'=>
    rw [hq] at hj
    simp only [Option.map_some,Option.some.injEq,Prod.mk.injEq] at hj
    have:k'=k:=mkC_inj (hj.1.symm.trans h3)
    rw [this]
theorem cell_lookup {w:World} {b:Nat} {ks:List (Nat × Nat)} {f:Nat × Nat→Option Value} (h:MapAt w b mkC ks f) (k:Nat × Nat) (ok:Bool):
  (Instr.lookup 40 (.map (some b)) (mkC k) ok).run Tryz.prog w = .ok (if ok then .tuple #[(f k).getD (.int .u64 0),.bool (f k).isSome] else (f k).getD (.int .u64 0)) w:=by
 obtain ⟨es,clock,hb,hc⟩:=cell_find h k
 rcases hc with ⟨h1,h2,_⟩ | ⟨j,e,h1,h2,_⟩
 ·cases ok<;>simp [Instr.lookup,run_underlying machT,MapKept.run_getObj_map hb,run_checkC,h2,h1,Result.andThen]
 ·cases ok<;>simp [Instr.lookup,run_underlying machT,MapKept.run_getObj_map hb,run_checkC,h2,h1,Result.andThen]
theorem cell_update {w:World} {b:Nat} {ks:List (Nat × Nat)} {f:Nat × Nat→Option Value} (h:MapAt w b mkC ks f) (k:Nat × Nat) (v:Value):
  ∃ es clock,(Instr.mapUpdate 40 (.map (some b)) (mkC k) v).run Tryz.prog w = .ok () (setBlock w b (.map es clock))∧MapAt (setBlock w b (.map es clock)) b mkC (if k∈ks then ks else ks ++ [k]) (updM f k (some v)):=by
 have hfull:=h
 obtain ⟨es,clock,hb,hc⟩:=cell_find h k
 obtain ⟨es',clock',hb',hn,hm,hf,hborn,hlt⟩:=hfull
 rw [hb] at hb'
 simp only [Option.some.injEq,Obj.map.injEq] at hb'
 obtain ⟨rfl,rfl⟩:=hb'
 rcases hc with ⟨h1,h2,h3⟩ | ⟨j,e,h1,h2,h3,h4,h5⟩
 ·have hnot:k∉ks:=fun hmem=>by
   have hmem':(mkC k,f k)∈ks.map (fun k=>(mkC k,f k)):=List.mem_map.2 ⟨k,hmem,rfl⟩
   rw [← hm] at hmem'
   obtain ⟨x,hx,he⟩:=List.mem_map.1 hmem'
   simp only [Prod.mk.injEq] at he
   exact h3 x hx he.1
  refine ⟨es.push { key:=mkC k,val:=v,born:=clock },clock+1,?_,?_⟩
  ·simp [Instr.mapUpdate,run_underlying machT,MapKept.run_getObj_map hb,run_checkC,h2,run_setObj_map _ hb,Result.andThen]
   rfl
  ·rw [if_neg hnot]
   refine ⟨_,_,heap_setBlock_same hb,?_,?_,?_,?_,?_⟩
   ·rw [List.nodup_append];exact ⟨hn,by simp,fun a ha x hx=>by simp at hx;subst hx;rintro rfl;exact hnot ha⟩
   ·simp only [Array.toList_push,List.map_append,hm,List.map_cons,List.map_nil]
    congr 1
    ·refine List.map_congr_left fun y hy=>?_
     have:y≠k:=fun e=>hnot (e ▸ hy)
     simp [updM,this]
    ·simp [updM]
   ·intro x hx
    simp only [List.mem_append,List.mem_singleton,not_or] at hx
    simp only [updM,hx.2,if_false];exact hf x hx.1
   ·simp only [Array.toList_push,List.map_append,List.map_cons,List.map_nil]
    rw [List.nodup_append]
    exact ⟨hborn,by simp,fun a ha x hx=>by
     simp at hx;subst hx
     obtain ⟨e,he,rfl⟩:=List.mem_map.1 ha
     have:=hlt e he;omega⟩
   ·intro e he
    simp only [Array.toList_push,List.mem_append,List.mem_singleton] at he
    rcases he with he | rfl
    ·have:=hlt e he;omega
    ·simp
 ·have hmem:k∈ks:=List.mem_of_getElem? h5
  have hj:es[j]? = some e:=by simpa using h3
  refine ⟨es.modify j fun e=>{ e with key:=mkC k,val:=v },clock,?_,?_⟩
  ·have hst:(Instr.keyThatStays e.key (mkC k)).run Tryz.prog w = .ok (mkC k) w:=by rw [h4];exact run_staysC w k
   simp [Instr.mapUpdate,run_underlying machT,MapKept.run_getObj_map hb,run_checkC,h2,run_setObj_map _ hb,Result.andThen,hj,hst]
   rfl
  ·rw [if_pos hmem]
   have hl:(es.modify j fun e=>{ e with key:=mkC k,val:=v }).toList=es.toList.modify j fun e=>{ e with key:=mkC k,val:=v }:=by simp
   have hbs:(es.toList.modify j fun e=>{ e with key:=mkC k,val:=v }).map (·.born)=es.toList.map (·.born):=nodup_map_set_born _ _ (fun e=>{ e with key:=mkC k,val:=v }) (fun _=>rfl)
   refine ⟨_,_,heap_setBlock_same hb,hn,?_,?_,?_,?_⟩
   ·rw [hl];exact map_modify_entry _ _ _ hn hm h5
   ·intro x hx
    have:x≠k:=fun e=>hx (e ▸ hmem)
    simp [updM,this,hf x hx]
   ·rw [hl,hbs];exact hborn
   ·rw [hl]
    intro x hx
    have:x.born∈(es.toList.modify j fun e=>{ e with key:=mkC k,val:=v }).map (·.born):=List.mem_map.2 ⟨x,hx,rfl⟩
    rw [hbs] at this
    obtain ⟨y,hy,hye⟩:=List.mem_map.1 this
    rw [← hye];exact hlt y hy
end
section
open Go Go.RowKit Bth
set_option maxRecDepth 100000
def mxX (a b:Int):Int:=bits .xor .u64 (IntKind.u64.wrap (a*6364136223846793005)) (IntKind.u64.wrap (IntKind.u64.wrap (b+11400714819323198485)*18397679294719823053))
def mxZ (a b:Int):Int:=bits .xor .u64 (mxX a b) (mxX a b / 536870912)
def mxN (a b:Nat):Nat:=(mxZ (a:Int) (b:Int)).toNat
theorem wrap64_nat (z:Int):0≤IntKind.u64.wrap z∧IntKind.u64.wrap z < 18446744073709551616:=by
 simp [IntKind.wrap,IntKind.bits,IntKind.signed]
 omega
theorem mxN_cast (a b:Nat):(mxN a b:Int)=mxZ (a:Int) (b:Int):=by
 have h:0≤mxZ (a:Int) (b:Int):=(wrap64_nat _).1
 unfold mxN
 omega
theorem mxN_lt (a b:Nat):mxN a b < 18446744073709551616:=by
 have h:mxZ (a:Int) (b:Int) < 18446744073709551616:=(wrap64_nat _).2
 have:=mxN_cast a b
 omega
theorem mixed_calls (w:World) (a b:Int):Calls Tryz.prog 77 #[.int .u64 a,.int .u64 b] w fun e w'=>e = .returned (.int .u64 (mxZ a b))∧w'=w:=by
 go_enter Tryz.func77,Tryz.ntmps77
 go_wp2
 go_ret
 exact ⟨rfl,rfl⟩
def MixC (mx:Nat→Nat→Nat):Prop:=∀ (w:World) (a b:Nat),Calls Tryz.prog 77 #[.int .u64 (a:Int),.int .u64 (b:Int)] w fun e w'=>e = .returned (.int .u64 (mx a b:Int))∧w'=w
theorem mixC:MixC mxN:=fun w a b=>(mixed_calls w a b).mono fun e w' h=>⟨by rw [h.1,mxN_cast],h.2⟩
theorem wrapU_small {n:Nat} (h:n < 18446744073709551616):IntKind.u64.wrap (n:Int)=(n:Int):=by
 simp [IntKind.wrap,IntKind.bits,IntKind.signed]
 omega
def mcF (M:Nat→Nat→Option Nat) (k:Nat × Nat):Option Value:=(M k.1 k.2).map fun n=>.int .u64 (n:Int)
def MAt (w:World) (b:Nat) (M:Nat→Nat→Option Nat):Prop:=∃ ks,MapAt w b mkC ks (mcF M)
theorem MAt.lt {w:World} {b:Nat} {M:Nat→Nat→Option Nat} (h:MAt w b M):b < w.heap.size:=by obtain ⟨ks,hm⟩:=h;exact hm.lt
theorem MAt.fr {T:Nat→Prop} {w w':World} {b:Nat} {M:Nat→Nat→Option Nat} (h:MAt w b M) (hf:Fr T w w') (hs:¬T b):MAt w' b M:=by obtain ⟨ks,hm⟩:=h;exact ⟨ks,hm.fr hf hs⟩
theorem MAt.made (w:World):MAt (w.alloc (.map #[] 0)) w.heap.size fun _ _=>none:=⟨[],MapAt.made w mkC⟩
theorem MAt.look {w:World} {b:Nat} {M:Nat→Nat→Option Nat} (h:MAt w b M) (c x:Nat):(Instr.lookup 40 (.map (some b)) (.agg #[.int .u32 (c:Int),.int .i64 (x:Int)]) true).run Tryz.prog w = .ok (.tuple #[.int .u64 (((M c x).getD 0:Nat):Int),.bool (M c x).isSome]) w:=by
 obtain ⟨ks,hm⟩:=h
 have:=cell_lookup hm (c,x) true
 rw [show (Value.agg #[.int .u32 (c:Int),.int .i64 (x:Int)])=mkC (c,x) from rfl,this]
 unfold mcF
 cases M c x<;>rfl
theorem MAt.put {w:World} {b:Nat} {M:Nat→Nat→Option Nat} (h:MAt w b M) (c x n:Nat):
  ∃ w',(Instr.mapUpdate 40 (.map (some b)) (.agg #[.int .u32 (c:Int),.int .i64 (x:Int)]) (.int .u64 (n:Int))).run Tryz.prog w = .ok () w'∧MAt w' b (fun i j=>if i=c∧j=x then some n else M i j)∧Fr (fun y=>y=b) w w'∧w'.heap.size=w.heap.size:=by
 obtain ⟨ks,hM⟩:=h
 obtain ⟨es,clock,h1,h2⟩:=cell_update hM (c,x) (.int .u64 (n:Int))
 have e:mcF (fun i j=>if i=c∧j=x then some n else M i j)=updM (mcF M) (c,x) (some (.int .u64 (n:Int))):=by
  funext y
  obtain ⟨y1,y2⟩:=y
  unfold updM mcF
  simp only [Prod.mk.injEq]
  by_cases hy:y1=c∧y2=x
  ·rw [if_pos hy,if_pos hy];rfl
  ·rw [if_neg hy,if_neg hy]
 exact ⟨Go.ChangeMaps.setBlock w b (.map es clock),h1,⟨_,by rw [e];exact h2⟩,(Fr.refl (fun x=>x=b) w).setBlock (.inl rfl) _,by simp [Go.ChangeMaps.setBlock]⟩
end
section
open Go Go.RowKit Bth
set_option maxRecDepth 100000
theorem u16_bitQ (m b:Nat) (hm:m < 65536):bits .and .u16 ((m:Int) / 2 ^ b) 1=if m.testBit b then 1 else 0:=by
 have e:((m:Int) / 2 ^ b)=((m >>> b:Nat):Int):=by simp [Nat.shiftRight_eq_div_pow]
 have hl:m >>> b < 65536:=by rw [Nat.shiftRight_eq_div_pow];exact Nat.lt_of_le_of_lt (Nat.div_le_self _ _) hm
 have:=u16_and (m >>> b) 1 hl (by omega)
 rw [e]
 refine this.trans ?_
 have h2:(m >>> b) &&& 1=if m.testBit b then 1 else 0:=by
  rw [Nat.and_one_is_mod,Nat.testBit]
  have h3:(m >>> b) % 2=0∨(m >>> b) % 2=1:=by omega
  rcases h3 with h | h<;>simp [h,Nat.and_comm,Nat.and_one_is_mod]
 rw [h2]
 split<;>rfl
def gP (g:G):Nat × Nat:=(g.id,g.spec)
def GivesU64 (w:World) (n:Nat) (e:Ending) (w':World):Prop:=e = .returned (.int .u64 (n:Int))∧Fr nope w w'
theorem rdM_take {mx:Nat→Nat→Nat} {M:MC} {l:List (Nat × Nat)} {k s:Nat} {x:Nat × Nat} (h:l[k]? = some x):rdM mx M (l.take (k+1)) s=rdG mx M (rdM mx M (l.take k) s) x:=by
 unfold rdM
 rw [take_snoc h,List.foldl_append];rfl
def rdJ (mx:Nat→Nat→Nat) (M:MC) (s:Nat) (x:Nat × Nat) (j:Nat):Nat:=(List.range j).foldl (rdB mx M x.1 x.2) s
theorem rdJ_step (mx:Nat→Nat→Nat) (M:MC) (s:Nat) (x:Nat × Nat) (j:Nat):rdJ mx M s x (j+1)=if x.2.testBit j then mx (rdJ mx M s x j) (valC mx M x.1 j) else rdJ mx M s x j:=by
 unfold rdJ
 rw [List.range_succ,List.foldl_append];rfl
theorem rdJ_done (mx:Nat→Nat→Nat) (M:MC) (s:Nat) (x:Nat × Nat):rdJ mx M s x 16=rdG mx M s x:=rfl
set_option maxHeartbeats 8000000 in
theorem read_calls (mx:Nat→Nat→Nat) (hmx:MixC mx) (w:World) (b:Nat) (M:MC) (A:Option Addr) (c:Nat) (gs:List G) (s:Nat) (hM:MAt w b M) (hg:GsAt w A gs) (ho:∀ g∈gs,g.Ok) (hl:gs.length≤1000000000):
  Calls Tryz.prog 38 #[.map (some b),.slice A gs.length c,.int .u64 (s:Int)] w (GivesU64 w (rdM mx M (gs.map gP) s)):=by
 have hbl:=hM.lt
 replace ho:=Lib.hid ho
 go_enter Tryz.func38,Tryz.ntmps38
 go_wp2
 go_loopg [2,16] gs.length (fun n c2 c16 wr=>∃ (k z:Nat),k≤gs.length∧c16 = .int .i64 (k:Int)∧c2 = .int .u64 (z:Int)∧Hid (z=rdM mx M ((gs.map gP).take k) s)∧Fr nope w wr∧n=gs.length - k)
 case atStart=>exact ⟨0,s,Nat.zero_le _,rfl,rfl,Lib.hid rfl,Fr.refl _ _,rfl⟩
 case round=>
  obtain ⟨k,z,hk,rfl,rfl,hz,hf,rfl⟩:=hrel
  by_cases hlt:k < gs.length
  ·obtain ⟨g,hx⟩:∃ g,gs[k]? = some g:=⟨_,List.getElem?_eq_getElem hlt⟩
   obtain ⟨br,ro,hRe,hrb,hrr⟩:=(Rw.nope hg hf).at_ G.cells_len hx
   subst hRe
   have hgo:=ho.out g (List.mem_of_getElem? hx)
   have hT:=Lib.hid (rdM_take (mx:=mx) (M:=M) (s:=s) (k:=k) (x:=gP g) (l:=gs.map gP) (by rw [List.getElem?_map,hx];rfl))
   have hR:=fun W=>RegID_calls W g hgo
   have hMk:=fun W=>spMask_calls W g.spec
   have hg16:=hgo.spec
   have hid32:=G.id_lt hgo
   obtain ⟨gid,hgid⟩:∃ gid,gid=g.id:=⟨_,rfl⟩
   have hgp:gP g=(gid,g.spec):=by unfold gP;rw [hgid]
   rw [hgp] at hT
   rw [← hgid] at hid32
   simp only [← hgid] at hR
   unfold G.agg at hR
   clear hx hgo hgid
   replace hR:=Lib.hid hR
   replace hMk:=Lib.hid hMk
   go_upto_region 4 with (first
    | (refine wpList_load_mid rfl _ _ rfl br (ro+k*4) rfl g.cells _ hrr Tryz.underlying117 rfl (by kernel_rfl) ?_)
    | (refine wpList_storeRow (b:=wr.heap.size) (cells:=#[.bool g.virt,.int .u8 (g.kind:Int),.int .u16 (g.idx:Int),.int .u16 (g.spec:Int)]) rfl rfl rfl rfl (heap_alloc_new _ _) rfl (by kernel_rfl) (by kernel_rfl) ?_;intro w8 hb8 hf8))
   have hn8:Fr nope wr w8:=((Fr.refl nope wr).alloc _).then_new hf8 (fun x hx e=>by omega)
   obtain ⟨bg,hbg⟩:∃ x,x=wr.heap.size:=⟨_,rfl⟩
   rw [← hbg] at hb8 ⊢
   have hcs:∀ W,Fr nope w8 W→W.cell? ⟨bg,0,none⟩=some (.bool g.virt)∧W.cell? ⟨bg,1,none⟩=some (.int .u8 (g.kind:Int))∧W.cell? ⟨bg,2,none⟩=some (.int .u16 (g.idx:Int))∧W.cell? ⟨bg,3,none⟩=some (.int .u16 (g.spec:Int)):=fun W hW=>by
    have hbW:=hW.heap hb8 (fun x=>x)
    exact ⟨cell_of_row _ _ 0 _ _ (0,0) hbW,cell_of_row _ _ 1 _ _ (0,0) hbW,cell_of_row _ _ 2 _ _ (0,0) hbW,cell_of_row _ _ 3 _ _ (0,0) hbW⟩
   have hd8:=(Fr.refl nope w8).drew
   have hS8:=hcs _ hd8
   replace hcs:=Lib.hid hcs
   replace hbg:=Lib.hid hbg
   clear hb8 hf8 hrr
   obtain ⟨gv,gk,gi,gsp⟩:=g
   simp only at hT hR hMk hcs hS8 hg16 ⊢
   go_region_held3 (fun W=>W.cell? ⟨bg,0,none⟩=some (.bool gv)∧W.cell? ⟨bg,1,none⟩=some (.int .u8 (gk:Int))∧W.cell? ⟨bg,2,none⟩=some (.int .u16 (gi:Int))∧W.cell? ⟨bg,3,none⟩=some (.int .u16 (gsp:Int))) (assumption)
    ((first
     | (go_at_call 67;refine (hR.out _).mono ?_;rintro e w9 ⟨rfl,hf9⟩;have hn9:=hd8.then hf9;have hS9:=hcs.out _ hn9)
     | (go_at_call 76;refine (hMk.out _).mono ?_;rintro e w10 ⟨rfl,rfl⟩)))
   all_goals
    have hg9:=hf.then (hn8.then hn9)
    clear hS8 hS9
    go_wp2
    go_loopg [2,25] 16 (fun n c2 c25 wx=>∃ (j y:Nat),j≤16∧c25 = .int .i64 (j:Int)∧c2 = .int .u64 (y:Int)∧Hid (y=rdJ mx M z (gid,gsp) j)∧Fr nope w wx∧n=16 - j)
    case atStart=>exact ⟨0,z,Nat.zero_le _,rfl,rfl,Lib.hid rfl,hg9,rfl⟩
    case round=>
     obtain ⟨j,y,hj,rfl,rfl,hy,hg6,rfl⟩:=hrel
     by_cases hjl:j < 16
     ·have hj0:(0:Int)≤(j:Int):=by omega
      have hbit:=u16_bitQ gsp j hg16
      have hstep:=rdJ_step mx M z (gid,gsp) j
      simp only at hstep
      have hlk:=(hM.fr hg6 (fun x=>x)).look gid j
      cases hb:gsp.testBit j with
      | false=>
       simp only [hb,Bool.false_eq_true,if_false] at hbit hstep
       have hy':=Lib.hid (hy.out.trans hstep.symm)
       replace hb:=Lib.hid hb
       clear hstep hlk
       go_wp2
       go_roundg (16 - (j+1))
       case measure=>omega
       case rel=>exact ⟨j+1,y,by omega,by go_num,rfl,hy',hg6,rfl⟩
      | true=>
       simp only [hb,if_true] at hbit hstep
       replace hb:=Lib.hid hb
       cases hm:M gid j with
       | none=>
        have hv:valC mx M gid j=mx gid j:=by unfold valC;rw [hm];rfl
        rw [hm] at hlk
        simp only [Option.isSome_none] at hlk
        have hy':=Lib.hid (show mx y (mx gid j)=rdJ mx M z (gid,gsp) (j+1) by rw [hstep,hv,hy.out])
        replace hm:=Lib.hid hm
        clear hstep hv
        go_wp2_with fail
        refine (hmx _ gid j).mono ?_
        rintro e w12 ⟨rfl,rfl⟩
        obtain ⟨q0,hq0⟩:∃ q,q=mx gid j:=⟨_,rfl⟩
        rw [← hq0] at hy' ⊢
        clear hq0
        go_wp2_with fail
        refine (hmx _ y q0).mono ?_
        rintro e w12 ⟨rfl,rfl⟩
        generalize mx y q0=q at hy' ⊢
        go_wp2
        go_roundg (16 - (j+1))
        case measure=>omega
        case rel=>exact ⟨j+1,q,by omega,by go_num,rfl,hy',hg6,rfl⟩
       | some v=>
        have hv:valC mx M gid j=v:=by unfold valC;rw [hm];rfl
        rw [hm] at hlk
        simp only [Option.isSome_some,Option.getD_some] at hlk
        have hy':=Lib.hid (show mx y v=rdJ mx M z (gid,gsp) (j+1) by rw [hstep,hv,hy.out])
        replace hm:=Lib.hid hm
        clear hstep hv
        go_wp2_with fail
        refine (hmx _ y v).mono ?_
        rintro e w12 ⟨rfl,rfl⟩
        generalize mx y v=q at hy' ⊢
        go_wp2
        go_roundg (16 - (j+1))
        case measure=>omega
        case rel=>exact ⟨j+1,q,by omega,by go_num,rfl,hy',hg6,rfl⟩
     ·have hj16:j=16:=by omega
      subst hj16
      have hz':Hid (y=rdM mx M ((gs.map gP).take (k+1)) s):=Lib.hid (by rw [hT.out,← hz.out,hy.out,rdJ_done])
      go_wp2
      go_roundg (gs.length - (k+1))
      case measure=>omega
      case rel=>exact ⟨k+1,y,by omega,by go_num,rfl,hz',hg6,rfl⟩
  ·rw [List.take_of_length_le (by rw [List.length_map];omega)] at hz
   go_wp2
   go_ret
   exact ⟨by rw [← hz.out];rfl,hf⟩
end
section
open Go Go.RowKit Bth
set_option maxRecDepth 100000
theorem MAt.noT {w:World} {b:Nat} {M:Nat→Nat→Option Nat} {T:List TypeId} (h:MAt w b M):NoT T w (fun x=>x=b):=by obtain ⟨ks,hm⟩:=h;exact map_noT hm
theorem wrM_snoc (mx:Nat→Nat→Nat) (n:Nat) (x:Nat × Nat):∀ (l:List (Nat × Nat)) (i:Nat),wrM mx n i (l ++ [x])=wrM mx n i l ++ wrG mx n (i+l.length) x
 | [],i=>by simp [wrM]
 | y :: l,i=>by
  rw [List.cons_append,wrM,wrM,wrM_snoc mx n x l (i+1),List.append_assoc,List.length_cons,show i+1+l.length=i+(l.length+1) by omega]
theorem wrM_take {mx:Nat→Nat→Nat} {n:Nat} {l:List (Nat × Nat)} {k:Nat} {x:Nat × Nat} (h:l[k]? = some x):wrM mx n 0 (l.take (k+1))=wrM mx n 0 (l.take k) ++ wrG mx n k x:=by
 have hk:=(List.getElem?_eq_some_iff.1 h).1
 rw [take_snoc h,wrM_snoc,List.length_take,Nat.min_eq_left (by omega),Nat.zero_add]
def wrJ (mx:Nat→Nat→Nat) (n k:Nat) (x:Nat × Nat) (j:Nat):List (Nat × Nat × Nat):=((List.range j).filter fun b=>x.2.testBit b).map fun b=>(x.1,b,mx n (16*k+b))
theorem wrJ_step (mx:Nat→Nat→Nat) (n k:Nat) (x:Nat × Nat) (j:Nat):wrJ mx n k x (j+1)=wrJ mx n k x j ++ if x.2.testBit j then [(x.1,j,mx n (16*k+j))] else []:=by
 unfold wrJ
 rw [List.range_succ,List.filter_append,List.map_append]
 cases hb:x.2.testBit j<;>simp [hb]
theorem wrJ_done (mx:Nat→Nat→Nat) (n k:Nat) (x:Nat × Nat):wrJ mx n k x 16=wrG mx n k x:=rfl
def GivesW (w:World) (b:Nat) (M:MC) (e:Ending) (w':World):Prop:=e = .returned (.tuple #[])∧MAt w' b M∧Fr (fun x=>x=b) w w'
set_option maxHeartbeats 8000000 in
theorem write_calls (mx:Nat→Nat→Nat) (hmx:MixC mx) (w:World) (b:Nat) (M:MC) (A:Option Addr) (c:Nat) (gs:List G) (n:Nat) (hM:MAt w b M) (hg:GsAt w A gs) (ho:∀ g∈gs,g.Ok) (hl:gs.length≤1000000000):
  Calls Tryz.prog 39 #[.map (some b),.slice A gs.length c,.int .u64 (n:Int)] w (GivesW w b ((wrM mx n 0 (gs.map gP)).foldl setC M)):=by
 have hbl:=hM.lt
 replace ho:=Lib.hid ho
 go_enter Tryz.func39,Tryz.ntmps39
 go_wp2
 go_loopg [13] gs.length (fun q c13 wr=>∃ k:Nat,k≤gs.length∧c13 = .int .i64 (k:Int)∧Hid (MAt wr b ((wrM mx n 0 ((gs.map gP).take k)).foldl setC M))∧Fr (fun x=>x=b) w wr∧q=gs.length - k)
 case atStart=>exact ⟨0,Nat.zero_le _,rfl,Lib.hid hM,Fr.refl _ _,rfl⟩
 case round=>
  obtain ⟨k,hk,rfl,hMk',hf,rfl⟩:=hrel
  by_cases hlt:k < gs.length
  ·obtain ⟨g,hx⟩:∃ g,gs[k]? = some g:=⟨_,List.getElem?_eq_getElem hlt⟩
   obtain ⟨br,ro,hRe,hrb,hrr⟩:=(show GsAt wr A gs from Rw.frT hg hf (hM.noT (T:=[117])) (by decide)).at_ G.cells_len hx
   subst hRe
   have hgo:=ho.out g (List.mem_of_getElem? hx)
   have hT:=Lib.hid (wrM_take (mx:=mx) (n:=n) (k:=k) (x:=gP g) (l:=gs.map gP) (by rw [List.getElem?_map,hx];rfl))
   have hR:=fun W=>RegID_calls W g hgo
   have hMk:=fun W=>spMask_calls W g.spec
   have hg16:=hgo.spec
   have hid32:=G.id_lt hgo
   obtain ⟨gid,hgid⟩:∃ gid,gid=g.id:=⟨_,rfl⟩
   have hgp:gP g=(gid,g.spec):=by unfold gP;rw [hgid]
   rw [hgp] at hT
   rw [← hgid] at hid32
   simp only [← hgid] at hR
   unfold G.agg at hR
   obtain ⟨M1,hM1⟩:∃ M1,M1=(wrM mx n 0 ((gs.map gP).take k)).foldl setC M:=⟨_,rfl⟩
   rw [← hM1] at hMk'
   replace hM1:=Lib.hid hM1
   have hszf:=hf.size
   clear hx hgo hgid
   replace hR:=Lib.hid hR
   replace hMk:=Lib.hid hMk
   go_upto_region 3 with (first
    | (refine wpList_load_mid rfl _ _ rfl br (ro+k*4) rfl g.cells _ hrr Tryz.underlying117 rfl (by kernel_rfl) ?_)
    | (refine wpList_storeRow (b:=wr.heap.size) (cells:=#[.bool g.virt,.int .u8 (g.kind:Int),.int .u16 (g.idx:Int),.int .u16 (g.spec:Int)]) rfl rfl rfl rfl (heap_alloc_new _ _) rfl (by kernel_rfl) (by kernel_rfl) ?_;intro w8 hb8 hf8))
   have hn8:Fr nope wr w8:=((Fr.refl nope wr).alloc _).then_new hf8 (fun x hx e=>by omega)
   obtain ⟨bg,hbg⟩:∃ x,x=wr.heap.size:=⟨_,rfl⟩
   rw [← hbg] at hb8 ⊢
   have hcs:∀ W,Fr nope w8 W→W.cell? ⟨bg,0,none⟩=some (.bool g.virt)∧W.cell? ⟨bg,1,none⟩=some (.int .u8 (g.kind:Int))∧W.cell? ⟨bg,2,none⟩=some (.int .u16 (g.idx:Int))∧W.cell? ⟨bg,3,none⟩=some (.int .u16 (g.spec:Int)):=fun W hW=>by
    have hbW:=hW.heap hb8 (fun x=>x)
    exact ⟨cell_of_row _ _ 0 _ _ (0,0) hbW,cell_of_row _ _ 1 _ _ (0,0) hbW,cell_of_row _ _ 2 _ _ (0,0) hbW,cell_of_row _ _ 3 _ _ (0,0) hbW⟩
   have hd8:=(Fr.refl nope w8).drew
   have hS8:=hcs _ hd8
   replace hcs:=Lib.hid hcs
   replace hbg:=Lib.hid hbg
   clear hb8 hf8 hrr
   obtain ⟨gv,gk,gi,gsp⟩:=g
   simp only at hT hR hMk hcs hS8 hg16 ⊢
   go_region_held3 (fun W=>W.cell? ⟨bg,0,none⟩=some (.bool gv)∧W.cell? ⟨bg,1,none⟩=some (.int .u8 (gk:Int))∧W.cell? ⟨bg,2,none⟩=some (.int .u16 (gi:Int))∧W.cell? ⟨bg,3,none⟩=some (.int .u16 (gsp:Int))) (assumption)
    ((first
     | (go_at_call 67;refine (hR.out _).mono ?_;rintro e w9 ⟨rfl,hf9⟩;have hn9:=hd8.then hf9;have hS9:=hcs.out _ hn9)
     | (go_at_call 76;refine (hMk.out _).mono ?_;rintro e w10 ⟨rfl,rfl⟩)))
   all_goals
    have hg9:=(hn8.then hn9)
    have hM9:=hMk'.out.fr hg9 (fun x=>x)
    have hf9':Fr (fun x=>x=b) w w9:=hf.then_new hg9 (fun x hx e=>e)
    clear hS8 hS9 hMk'
    go_wp2
    go_loopg [23] 16 (fun q c23 wx=>∃ j:Nat,j≤16∧c23 = .int .i64 (j:Int)∧Hid (MAt wx b ((wrJ mx n k (gid,gsp) j).foldl setC M1))∧Fr (fun x=>x=b) w wx∧q=16 - j)
    case atStart=>exact ⟨0,Nat.zero_le _,rfl,Lib.hid hM9,hf9',rfl⟩
    case round=>
     clear hM9 hf9'
     obtain ⟨j,hj,rfl,hMj,hg6,rfl⟩:=hrel
     by_cases hjl:j < 16
     ·have hj0:(0:Int)≤(j:Int):=by omega
      have hbit:=u16_bitQ gsp j hg16
      have hstep:=wrJ_step mx n k (gid,gsp) j
      simp only at hstep
      cases hb:gsp.testBit j with
      | false=>
       simp only [hb,Bool.false_eq_true,if_false,List.append_nil] at hbit hstep
       rw [← hstep] at hMj
       replace hb:=Lib.hid hb
       clear hstep
       go_wp2
       go_roundg (16 - (j+1))
       case measure=>omega
       case rel=>exact ⟨j+1,by omega,by go_num,hMj,hg6,rfl⟩
      | true=>
       simp only [hb,if_true] at hbit hstep
       replace hb:=Lib.hid hb
       obtain ⟨w13,hput,hM13,hf13,hs13⟩:=hMj.out.put gid j (mx n (16*k+j))
       have hM13':Hid (MAt w13 b ((wrJ mx n k (gid,gsp) (j+1)).foldl setC M1)):=Lib.hid (by rw [hstep,List.foldl_append];exact hM13)
       have hC:=hmx wr n (16*k+j)
       have hf6:=hg6.then hf13
       clear hM13 hstep hMj
       have e2:((16*k+j:Nat):Int)=16*(k:Int)+(j:Int):=by omega
       rw [e2] at hC
       generalize mx n (16*k+j)=q at hput hC
       clear e2
       have e1:wrap64 (16*(k:Int))=16*(k:Int):=by unfold wrap64;omega
       go_wp2_with fail
       refine hC.mono ?_
       rintro e w12 ⟨rfl,rfl⟩
       clear e1
       go_wp2
       go_roundg (16 - (j+1))
       case measure=>omega
       case rel=>exact ⟨j+1,by omega,by go_num,hM13',hf6,rfl⟩
     ·have hj16:j=16:=by omega
      subst hj16
      have hz':Hid (MAt wr b ((wrM mx n 0 ((gs.map gP).take (k+1))).foldl setC M)):=Lib.hid (by rw [hT.out,List.foldl_append,← hM1.out,← wrJ_done];exact hMj.out)
      go_wp2
      go_roundg (gs.length - (k+1))
      case measure=>omega
      case rel=>exact ⟨k+1,by omega,by go_num,hz',hg6,rfl⟩
  ·rw [List.take_of_length_le (by rw [List.length_map];omega)] at hMk'
   go_wp2
   go_end0
   exact ⟨rfl,hMk'.out,hf⟩
end
section
open Go Go.RowKit Bth
set_option maxRecDepth 100000
theorem tmod_bdQ (x:Int) (n:Nat) (h:0 < n):-(n:Int) < Int.tmod x n∧Int.tmod x n < n:=by
 have h:(0:Int) < (n:Int):=by omega
 have h1:=Int.tmod_lt_of_pos x h
 have h2:=Int.tmod_lt_of_pos (-x) h
 rw [Int.neg_tmod] at h2
 omega
theorem oV_intQ (o:Option Nat):∃ z:Int,oV o = .int .i64 z∧(z < 0∨∃ s:Nat,z=(s:Int)∧o=some s):=by
 cases o with
 | none=>exact ⟨-1,rfl,.inl (by omega)⟩
 | some s=>exact ⟨s,rfl,.inr ⟨s,rfl,rfl⟩⟩
def u64V (n:Nat):Value:=.int .u64 (n:Int)
def i64V (n:Nat):Value:=.int .i64 (n:Int)
theorem numbers_calls (w:World) (A1 A2:Option Addr) (c1 c2:Nat) (l:List Nat) (h1:Rw w 83 1 A1 l.length (l.map u64V)) (h2:Rw w 83 1 A2 l.length (l.map u64V)) (hl:l.length≤1048576):
  Calls Tryz.prog 15 #[.slice A1 l.length c1,.slice A2 l.length c2] w (GivesB w true):=by
 go_enter Tryz.func15,Tryz.ntmps15
 go_wp2
 go_loopg [13] l.length (fun n c13 wr=>∃ k:Nat,k≤l.length∧c13 = .int .i64 (k:Int)∧Fr nope w wr∧n=l.length - k)
 case atStart=>exact ⟨0,Nat.zero_le _,rfl,Fr.refl _ _,rfl⟩
 case round=>
  obtain ⟨k,hk,rfl,hf,rfl⟩:=hrel
  by_cases hlt:k < l.length
  ·obtain ⟨y,hy⟩:∃ y,l[k]? = some y:=⟨_,List.getElem?_eq_getElem hlt⟩
   have hu:(l.map u64V)[k]? = some (u64V y):=by rw [List.getElem?_map,hy];rfl
   obtain ⟨b1,o1,hA1,hb1,hc1⟩:=(h1.nope hf).one hu
   obtain ⟨b2,o2,hA2,hb2,hc2⟩:=(h2.nope hf).one hu
   subst hA1 hA2
   unfold u64V at hc1 hc2
   have hk0:(0:Int)≤(k:Int):=by omega
   have hk1:(k:Int) < (l.length:Int):=by omega
   have d1:∀ m,(wr.drewN m).cell? ⟨b1,o1+k,none⟩=some (.int .u64 (y:Int)):=fun m=>((Fr.refl nope wr).drewN m).cell hc1 (fun x=>x)
   have d2:∀ m,(wr.drewN m).cell? ⟨b2,o2+k,none⟩=some (.int .u64 (y:Int)):=fun m=>((Fr.refl nope wr).drewN m).cell hc2 (fun x=>x)
   clear hu hy h1 h2
   go_wp2
   go_quiet (fail)
   go_wp2
   go_roundg (l.length - (k+1))
   case measure=>omega
   case rel=>exact ⟨k+1,by omega,by go_num,by first | exact hf | exact hf.drewN _,rfl⟩
  ·go_wp2
   go_ret
   exact ⟨rfl,hf⟩
structure Way (n:Nat) (sc:Nat→List (Option Nat)) (ps:List Nat) (z:Int):Prop where
 done:WayP n sc 0 ps
 next:z < 0∨∃ a:Nat,z=(a:Int)∧∀ rest,WayP n sc a rest→WayP n sc 0 (ps ++ rest)
theorem Way.start (n:Nat) (sc:Nat→List (Option Nat)):Way n sc [] 0:=⟨trivial,.inr ⟨0,rfl,fun _ h=>h⟩⟩
theorem Way.at_ {n:Nat} {sc:Nat→List (Option Nat)} {ps:List Nat} {a:Nat} (h:Way n sc ps (a:Int)) (ha:a < n):WayP n sc 0 (ps ++ [a]):=by
 rcases h.next with h | ⟨b,e,h⟩
 ·omega
 ·obtain rfl:a=b:=by omega
  exact h [a] ⟨rfl,ha,.inl rfl⟩
theorem Way.step {n:Nat} {sc:Nat→List (Option Nat)} {ps:List Nat} {a:Nat} (h:Way n sc ps (a:Int)) (ha:a < n) {z:Int} (hz:z < 0∨∃ s:Nat,z=(s:Int)∧some s∈sc a):Way n sc (ps ++ [a]) z:=by
 refine ⟨h.at_ ha,?_⟩
 rcases hz with hz | ⟨s,rfl,hs⟩
 ·exact .inl hz
 ·refine .inr ⟨s,rfl,fun rest hr=>?_⟩
  rcases h.next with h | ⟨b,e,h⟩
  ·omega
  ·obtain rfl:a=b:=by omega
   rw [List.append_assoc]
   exact h (a :: rest) ⟨rfl,ha,.inr ⟨s,hs,hr⟩⟩
def GivesWay (w:World) (n:Nat) (sc:Nat→List (Option Nat)) (m:Nat) (e:Ending) (w':World):Prop:=Fr nope w w'∧∃ A c ps,e = .returned (.slice A ps.length c)∧Rw w' 3 1 A ps.length (ps.map i64V)∧ps.length≤m+1∧WayP n sc 0 ps
set_option maxHeartbeats 4000000 in
theorem path_calls (w:World) (A A2:Option Addr) (c c2 n:Nat) (sc:Nat→List (Option Nat)) (zs:List Int) (hS:SuccAt w A n sc) (hl:∀ k,k < n→(sc k).length≤1048576) (hz:Sl w A2 zs.length (zs.map fun z=>Value.int .i64 z)) (hzl:zs.length≤1048576):
  Calls Tryz.prog 12 #[.slice A n c,.int .i64 0,.slice A2 zs.length c2] w (GivesWay w n sc zs.length):=by
 replace hl:=Lib.hid hl
 go_enter Tryz.func12,Tryz.ntmps12
 go_wp2
 go_loopg [1,7,8] (zs.length+1) (fun m c1 c7 c8 wr=>∃ (z:Int) (A':Option Addr) (c':Nat) (ps:List Nat),ps.length≤zs.length∧c8 = .int .i64 (ps.length:Int)∧c1 = .int .i64 z∧c7 = .slice A' ps.length c'∧wr.ownsRow w.heap.size 3 1 (.slice A' ps.length c') ps.length (ps.map i64V)∧Hid (Way n sc ps z)∧Fr nope w wr∧m=zs.length+1 - ps.length)
 case atStart=>exact ⟨0,none,0,[],Nat.zero_le _,rfl,rfl,rfl,own_nil _ _ _ _,Lib.hid (Way.start n sc),Fr.refl _ _,rfl⟩
 case round=>
  obtain ⟨z,A',c',ps,hk,rfl,rfl,rfl,hown,hW,hf,rfl⟩:=hrel
  by_cases hz0:z < 0
  ·have hz1:¬ 0≤z:=by omega
   go_wp2
   go_ret
   exact ⟨hf,A',c',ps,rfl,Rw.of_own hown,by omega,hW.out.done⟩
  obtain ⟨a,rfl⟩:∃ a:Nat,z=(a:Int):=⟨z.toNat,by omega⟩
  have ha0:(0:Int)≤(a:Int):=by omega
  by_cases han:a < n
  rotate_left
  ·have han':¬(a:Int) < (n:Int):=by omega
   go_wp2
   go_ret
   exact ⟨hf,A',c',ps,rfl,Rw.of_own hown,by omega,hW.out.done⟩
  have han':(a:Int) < (n:Int):=by omega
  have hWa:=Lib.hid (hW.out.at_ han)
  have hWs:=Lib.hid (fun z hz=>hW.out.step han (z:=z) hz)
  have hsz:=hf.size
  have hbo:=own_base hown
  have hlk:=hl.out a han
  obtain ⟨b1,o1,B1,d1,hA1,hb1,hc1,hr1⟩:=hS.at_ han
  obtain ⟨l,hle⟩:∃ l,l=sc a:=⟨_,rfl⟩
  rw [← hle] at hc1 hr1 hlk hWs
  replace hle:=Lib.hid hle
  subst hA1
  clear hW
  go_wp2_with (refine wpList_app (v:=.slice A' ps.length c') rfl rfl Tryz.underlying23 infoInt rfl (by omega) rfl (own_fr hown ((Fr.refl nope _).alloc _) (fun _ _ x=>x)) rfl (news:=[.int .i64 (a:Int)]) rfl (one_new _ _ _ _ rfl) (by simp [Value.oneCell']) (by simp only [maxLen];omega) (by omega) (by simp;omega) ?hk)
  case hk=>
   intro v4 w4 hown4 hf4 hb4
   obtain ⟨A3,d3,rfl,_,_⟩:=own_slice hown4
   have hn4:Fr nope w w4:=(hf.alloc _).then_new hf4 (fun x hx e=>by have:=hbo x e;omega)
   have hown5:w4.ownsRow w.heap.size 3 1 (.slice A3 (ps ++ [a]).length d3) (ps ++ [a]).length ((ps ++ [a]).map i64V):=by
    rw [List.length_append,List.map_append]
    exact hown4
   have hc4:=hn4.cell hc1 (fun x=>x)
   have hlen5:(ps ++ [a]).length=ps.length+1:=by rw [List.length_append];rfl
   replace hlen5:=Lib.hid hlen5
   clear hown hown4 hb4 hf4 hc1
   by_cases h0:l.length=0
   ·have h0':((l.length:Int) == 0)=true:=by simp [h0]
    have h0z:(l.length:Int)=0:=by omega
    go_wp2
    go_ret
    exact ⟨hn4,A3,d3,ps ++ [a],by rw [List.length_append];rfl,Rw.of_own hown5,by have:=hlen5.out;omega,hWa.out⟩
   have h0':((l.length:Int) == 0)=false:=by rw [beq_eq_false_iff_ne];omega
   have h0z:¬(l.length:Int)=0:=by omega
   by_cases hkz:ps.length < zs.length
   rotate_left
   ·have hkz':(zs.length:Int)≤(ps.length:Int):=by omega
    go_wp2
    go_ret
    exact ⟨hn4,A3,d3,ps ++ [a],by rw [List.length_append];rfl,Rw.of_own hown5,by have:=hlen5.out;omega,hWa.out⟩
   have hkz':¬(zs.length:Int)≤(ps.length:Int):=by omega
   have hkz2:(ps.length:Int) < (zs.length:Int):=by omega
   have hk0:(0:Int)≤(ps.length:Int):=by omega
   obtain ⟨b2,o2,u,hA2,hb2,hu,hc2⟩:=(hz.nope hn4).at_ hkz
   rw [List.getElem?_map] at hu
   obtain ⟨x,_,rfl⟩:=Option.map_eq_some_iff.1 hu
   subst hA2
   obtain ⟨hr3,hr4⟩:=tmod_bdQ x l.length (by omega)
   obtain ⟨r,hr⟩:∃ r,r=Int.tmod x l.length:=⟨_,rfl⟩
   obtain ⟨b3,o3,fr3,hB1,hcs3⟩:∃ b o,(∀ j:Nat,j < l.length→∃ (y:Int),w4.cell? ⟨b,o+j,none⟩=some (.int .i64 y)∧(y < 0∨∃ s:Nat,y=(s:Int)∧some s∈l))∧B1=some ⟨b,o,none⟩∧b < w4.heap.size:=by
    obtain ⟨b,o,cs,fr,e1,e2,e3⟩:=(hr1.nope hn4).row (by omega)
    refine ⟨b,o,fun j hj=>?_,e1,lt_of_heap e2⟩
    have hlj:l[j]? = some l[j]:=List.getElem?_eq_getElem hj
    obtain ⟨y,hy,hy2⟩:=oV_intQ l[j]
    refine ⟨y,by rw [← hy];exact e3 j _ (by rw [List.getElem?_map,hlj];rfl),?_⟩
    rcases hy2 with h | ⟨s,e,es⟩
    ·exact .inl h
    ·exact .inr ⟨s,e,by rw [← es];exact List.getElem_mem hj⟩
   subst hB1
   replace fr3:=Lib.hid fr3
   clear hu hr1 hz hS
   by_cases hneg:r < 0
   ·obtain ⟨j,hj⟩:∃ j:Nat,r+l.length=(j:Int):=⟨(r+l.length).toNat,by omega⟩
    have hjl:j < l.length:=by omega
    obtain ⟨y,hcj,hy⟩:=fr3.out j hjl
    have hj0:(0:Int)≤(j:Int):=by omega
    have hj1:(j:Int) < (l.length:Int):=by omega
    have hneg':Int.tmod x l.length < 0:=by omega
    rw [hr] at hj
    have hW':=Lib.hid (hWs.out y hy)
    clear fr3 hr hneg hy hWs hWa
    go_wp2
    go_roundg (zs.length+1 - (ps.length+1))
    case measure=>omega
    case rel=>exact ⟨y,A3,d3,ps ++ [a],by rw [hlen5.out];omega,by rw [hlen5.out];go_num,rfl,by rw [List.length_append];rfl,hown5,hW',hn4,by rw [hlen5.out]⟩
   ·obtain ⟨j,hj⟩:∃ j:Nat,r=(j:Int):=⟨r.toNat,by omega⟩
    have hjl:j < l.length:=by omega
    obtain ⟨y,hcj,hy⟩:=fr3.out j hjl
    have hj0:(0:Int)≤(j:Int):=by omega
    have hj1:(j:Int) < (l.length:Int):=by omega
    rw [hr] at hj
    have hW':=Lib.hid (hWs.out y hy)
    clear fr3 hr hneg hy hWs hWa
    go_wp2
    go_roundg (zs.length+1 - (ps.length+1))
    case measure=>omega
    case rel=>exact ⟨y,A3,d3,ps ++ [a],by rw [hlen5.out];omega,by rw [hlen5.out];go_num,rfl,by rw [List.length_append];rfl,hown5,hW',hn4,by rw [hlen5.out]⟩
end
end Go.Proofs.YtjlfkgjmgghhiaaGreat
