/- What the flow, the liveness and the allocation give, in one form, whether there is a graph or not. -/
import Derived.Test.YtbgblfiapecioaaGreatProg
import Derived.Shelf.Lays
import Derived.KernelRfl
import Derived.Sort.KeysCollected
import Derived.Shelf.Sort.Plain
import Derived.BigQuiet
import Derived.Deep.RegionHeld3
import Derived.Test.YtbgblfiapecioaaGreatP06
import Derived.Test.YtbgblfiapecioaaGreatP10
import Derived.Test.YtbgblfiapecioaaGreatP11
import Derived.Test.YtbgblfiapecioaaGreatP19
import Derived.Test.YtbgblfiapecioaaGreatP20
import Derived.Test.YtbgblfiapecioaaGreatP25
import Derived.Test.YtbgblfiapecioaaGreatP29
import Derived.Test.YtbgblfiapecioaaGreatP30
import Derived.Test.YtbgblfiapecioaaGreatP31
import Derived.Test.YtbgblfiapecioaaGreatP35
import Derived.Test.YtbgblfiapecioaaGreatP38
import Derived.Test.YtbgblfiapecioaaGreatP39
import Derived.Test.YtbgblfiapecioaaGreatP40
import Derived.Test.YtbgblfiapecioaaGreatP41
import Derived.Test.YtbgblfiapecioaaGreatP42
namespace Go.Proofs.YtbgblfiapecioaaGreat
section
open Go Go.Shelf
def ss_ren:Ren:=⟨fun | 125=>132 | 128=>156 | 129=>157 | 190=>135 | 192=>95 | 258=>166 | 302=>181 | 303=>182 | 304=>183 | 305=>184 | 306=>185 | 307=>186 | 308=>187 | 309=>188 | 310=>189 | 329=>201 | 330=>202 | 333=>200 | 334=>203 | 335=>204 | 336=>205 | 344=>212 | n=>n,fun | 0=>0 | 3=>3 | 4=>4 | 5=>5 | 9=>9 | 31=>40 | 46=>248 | 51=>98 | 53=>79 | 131=>292 | 182=>310 | 183=>311 | 218=>347 | 222=>307 | 228=>364 | 229=>345 | n=>n,fun n=>n⟩
theorem ssL:Lays.n192 Tryz.prog ss_ren:={
 mixed:=by kernel_rfl,
 f125:=Tryz.func132.trans (congrArg some (by kernel_rfl)),
 f128:=Tryz.func156.trans (congrArg some (by kernel_rfl)),
 f129:=Tryz.func157.trans (congrArg some (by kernel_rfl)),
 f190:=Tryz.func135.trans (congrArg some (by kernel_rfl)),
 f192:=Tryz.func95.trans (congrArg some (by kernel_rfl)),
 f258:=Tryz.func166.trans (congrArg some (by kernel_rfl)),
 f302:=Tryz.func181.trans (congrArg some (by kernel_rfl)),
 f303:=Tryz.func182.trans (congrArg some (by kernel_rfl)),
 f304:=Tryz.func183.trans (congrArg some (by kernel_rfl)),
 f305:=Tryz.func184.trans (congrArg some (by kernel_rfl)),
 f306:=Tryz.func185.trans (congrArg some (by kernel_rfl)),
 f307:=Tryz.func186.trans (congrArg some (by kernel_rfl)),
 f308:=Tryz.func187.trans (congrArg some (by kernel_rfl)),
 f309:=Tryz.func188.trans (congrArg some (by kernel_rfl)),
 f310:=Tryz.func189.trans (congrArg some (by kernel_rfl)),
 f329:=Tryz.func201.trans (congrArg some (by kernel_rfl)),
 f330:=Tryz.func202.trans (congrArg some (by kernel_rfl)),
 f333:=Tryz.func200.trans (congrArg some (by kernel_rfl)),
 f334:=Tryz.func203.trans (congrArg some (by kernel_rfl)),
 f335:=Tryz.func204.trans (congrArg some (by kernel_rfl)),
 f336:=Tryz.func205.trans (congrArg some (by kernel_rfl)),
 f344:=Tryz.func212.trans (congrArg some (by kernel_rfl)),
 t0:=Tryz.underlying0,
 a0:=Tryz.isAgg0,
 z0:=Tryz.sizeOf0,
 v0:=Tryz.zeroValue0,
 t3:=Tryz.underlying3,
 a3:=Tryz.isAgg3,
 z3:=Tryz.sizeOf3,
 v3:=Tryz.zeroValue3,
 t4:=Tryz.underlying4,
 a4:=Tryz.isAgg4,
 z4:=Tryz.sizeOf4,
 v4:=Tryz.zeroValue4,
 t5:=Tryz.underlying5,
 a5:=Tryz.isAgg5,
 z5:=Tryz.sizeOf5,
 v5:=Tryz.zeroValue5,
 t9:=Tryz.underlying9,
 a9:=Tryz.isAgg9,
 z9:=Tryz.sizeOf9,
 v9:=Tryz.zeroValue9,
 t31:=Tryz.underlying40,
 a31:=Tryz.isAgg40,
 z31:=Tryz.sizeOf40,
 v31:=Tryz.zeroValue40,
 t46:=Tryz.underlying248,
 a46:=Tryz.isAgg248,
 z46:=Tryz.sizeOf248,
 v46:=Tryz.zeroValue248,
 t51:=Tryz.underlying98,
 a51:=Tryz.isAgg98,
 z51:=Tryz.sizeOf98,
 v51:=Tryz.zeroValue98,
 t53:=Tryz.underlying79,
 a53:=Tryz.isAgg79,
 z53:=Tryz.sizeOf79,
 v53:=Tryz.zeroValue79,
 t131:=Tryz.underlying292,
 a131:=Tryz.isAgg292,
 z131:=Tryz.sizeOf292,
 v131:=Tryz.zeroValue292,
 t182:=Tryz.underlying310,
 a182:=Tryz.isAgg310,
 z182:=Tryz.sizeOf310,
 v182:=Tryz.zeroValue310,
 t183:=Tryz.underlying311,
 a183:=Tryz.isAgg311,
 z183:=Tryz.sizeOf311,
 v183:=Tryz.zeroValue311,
 t218:=Tryz.underlying347,
 a218:=Tryz.isAgg347,
 z218:=Tryz.sizeOf347,
 v218:=Tryz.zeroValue347,
 t222:=Tryz.underlying307,
 a222:=Tryz.isAgg307,
 z222:=Tryz.sizeOf307,
 v222:=Tryz.zeroValue307,
 t228:=Tryz.underlying364,
 a228:=Tryz.isAgg364,
 z228:=Tryz.sizeOf364,
 v228:=Tryz.zeroValue364,
 t229:=Tryz.underlying345,
 a229:=Tryz.isAgg345,
 z229:=Tryz.sizeOf345,
 v229:=Tryz.zeroValue345 }
end
section
open Go Go.RowKit Go.MapKept Bth
open Go.ChangeMaps (setBlock)
set_option maxRecDepth 100000
theorem strKey:KeyOk Tryz.prog 9 .string Value.string:=⟨Tryz.underlying9,fun _=>trivial,fun a b h=>by injection h⟩
theorem sbT:Tryz.prog.underlying 186=some (.map 9 4):=Tryz.underlying186
section
variable {K:Type} [DecidableEq K]
def memF (D:List K) (s:K):Option Value:=if s∈D then some (.bool true) else none
def insD (D:List K) (s:K):List K:=if s∈D then D else D ++ [s]
abbrev ersK (l:List K) (k:K):List K:=l.erase k
theorem insD_mem (D:List K) (s x:K):x∈insD D s↔x∈D∨x=s:=by
 unfold insD
 split
 ·rename_i h
  constructor
  ·exact .inl
  ·rintro (h1 | rfl)
   ·exact h1
   ·exact h
 ·rw [List.mem_append,List.mem_singleton]
theorem memF_ins (D:List K) (s:K):memF (insD D s)=updM (memF D) s (some (.bool true)):=by
 funext x
 unfold updM
 by_cases e:x=s
 ·rw [if_pos e];exact if_pos ((insD_mem _ _ _).2 (.inr e))
 ·rw [if_neg e]
  unfold memF
  by_cases h:x∈D
  ·rw [if_pos h,if_pos ((insD_mem _ _ _).2 (.inl h))]
  ·rw [if_neg h,if_neg fun h2=>((insD_mem _ _ _).1 h2).elim h e]
theorem memF_nil:memF ([]:List K)=fun _=>none:=by funext x;simp [memF]
theorem nodup_leK {l m:List K} (h:l.Nodup) (hs:∀ x∈l,x∈m):l.length≤m.length:=by
 induction l generalizing m with
 | nil=>simp
 | cons a l ih=>
  have ha:=hs a (by simp)
  obtain ⟨h1,h2⟩:=List.nodup_cons.1 h
  have:=ih (m:=m.erase a) h2 (fun x hx=>(List.mem_erase_of_ne (by rintro rfl;exact h1 hx)).2 (hs x (List.mem_cons_of_mem _ hx)))
  rw [List.length_erase_of_mem ha] at this
  have:=List.length_pos_of_mem ha
  simp only [List.length_cons]
  omega
structure SInvB (ks todo D:List K):Prop where
 nd:todo.Nodup
 dn:D.Nodup
 mem:∀ k,k∈ks↔k∈D∨k∈todo
 ap:∀ k,k∈D→k∉todo
omit [DecidableEq K] in
theorem SInvB.start {ks:List K} (h:ks.Nodup):SInvB ks ks []:=⟨h,List.nodup_nil,by simp,by simp⟩
theorem SInvB.step {ks todo D:List K} (h:SInvB ks todo D) {k:K} (hk:k∈todo):SInvB ks (ersK todo k) (D ++ [k]):=by
 refine ⟨h.nd.erase k,List.nodup_append.2 ⟨h.dn,by simp,fun a ha b hb e=>?_⟩,fun x=>?_,fun x hx=>?_⟩
 ·obtain rfl:b=k:=by simpa using hb
  subst e
  exact h.ap a ha hk
 ·rw [h.mem,List.Nodup.mem_erase_iff h.nd,List.mem_append,List.mem_singleton]
  by_cases e:x=k
  ·subst e;simp [hk]
  ·simp [e]
 ·rw [List.Nodup.mem_erase_iff h.nd]
  rw [List.mem_append,List.mem_singleton] at hx
  rcases hx with hx | rfl
  ·exact fun h2=>h.ap x hx h2.2
  ·exact fun h2=>h2.1 rfl
omit [DecidableEq K] in
theorem SInvB.done {ks D:List K} (h:SInvB ks [] D):∀ k,k∈D↔k∈ks:=fun k=>by rw [h.mem];simp
theorem ersK_len {todo:List K} {k:K} (h:k∈todo):(ersK todo k).length < todo.length:=by
 have:=List.length_pos_of_mem h
 rw [List.length_erase_of_mem h]
 omega
end
def SS (w:World) (b:Nat) (D:List ByteArray):Prop:=MapAt w b Value.string D (memF D)
theorem SS.made (w:World):SS (w.alloc (.map #[] 0)) w.heap.size []:=by
 unfold SS
 rw [memF_nil]
 exact MapAt.made w Value.string
theorem SS.fr {S:Nat→Prop} {w w':World} {b:Nat} {D:List ByteArray} (h:SS w b D) (hf:Fr S w w') (hs:¬S b):SS w' b D:=MapAt.fr h hf hs
theorem SS.put {w:World} {b:Nat} {D:List ByteArray} (h:SS w b D) (s:ByteArray):
  ∃ w',(Instr.mapUpdate 186 (.map (some b)) (.string s) (.bool true)).run Tryz.prog w = .ok () w'∧SS w' b (insD D s)∧Fr (fun x=>x=b) w w'∧w'.heap.size=w.heap.size:=by
 obtain ⟨es,clock,h1,h2⟩:=MapAt.update h strKey sbT s (.bool true)
 rw [← memF_ins] at h2
 exact ⟨setBlock w b (.map es clock),h1,h2,(Fr.refl (fun x=>x=b) w).setBlock (.inl rfl) _,by simp [setBlock]⟩
def bytesOf (s:ByteArray):List UInt8:=s.data.toList
def ofBytes (l:List UInt8):ByteArray:=⟨l.toArray⟩
theorem ofBytes_of (s:ByteArray):ofBytes (bytesOf s)=s:=by unfold ofBytes bytesOf;rw [Array.toArray_toList]
theorem bytesOf_of (l:List UInt8):bytesOf (ofBytes l)=l:=rfl
theorem encStr_bytes (s:ByteArray):Go.Proofs.encStr (bytesOf s) = .string s:=by unfold Go.Proofs.encStr;exact congrArg Value.string (ofBytes_of s)
theorem encStr_of (l:List UInt8):Go.Proofs.encStr l = .string (ofBytes l):=rfl
theorem map_enc (l:List ByteArray):(l.map bytesOf).map Go.Proofs.encStr=l.map Value.string:=by
 rw [List.map_map]
 exact List.map_congr_left fun s _=>encStr_bytes s
theorem map_enc2 (l:List (List UInt8)):l.map Go.Proofs.encStr=(l.map ofBytes).map Value.string:=by
 rw [List.map_map]
 rfl
def sortB (l:List ByteArray):List ByteArray:=((l.map bytesOf).mergeSort leB).map ofBytes
theorem sortB_len (l:List ByteArray):(sortB l).length=l.length:=by unfold sortB;rw [List.length_map,List.length_mergeSort,List.length_map]
theorem sortB_bytes (l:List ByteArray):(sortB l).map bytesOf=(l.map bytesOf).mergeSort leB:=by
 unfold sortB
 rw [List.map_map]
 conv=>rhs;rw [← List.map_id ((l.map bytesOf).mergeSort leB)]
 exact List.map_congr_left fun s _=>bytesOf_of s
def extL (rs:List Rec):List ByteArray:=rs.flatMap (·.isa)
def ExtR (rs:List Rec) (old le:List ByteArray):Prop:=∃ D:List ByteArray,D.Nodup∧(∀ x,x∈D↔x∈extL rs)∧le=if D=[] then old else sortB (old ++ D)
theorem bytesOf_inj {a b:ByteArray} (h:bytesOf a=bytesOf b):a=b:=by rw [← ofBytes_of a,h,ofBytes_of]
theorem ExtR.len {rs:List Rec} {old le:List ByteArray} (h:ExtR rs old le):le.length≤old.length+(extL rs).length:=by
 obtain ⟨D,h1,h2,rfl⟩:=h
 have:=nodup_leK h1 fun x hx=>(h2 x).1 hx
 split
 ·omega
 ·rw [sortB_len,List.length_append];omega
theorem extL_le {rs:List Rec} (h:∀ r∈rs,r.isa.length≤1048576):(extL rs).length≤rs.length*1048576:=by
 unfold extL
 induction rs with
 | nil=>simp
 | cons r rs ih=>
  have h1:=h r (by simp)
  have h2:=ih fun x hx=>h x (by simp [hx])
  rw [List.flatMap_cons,List.length_append,List.length_cons]
  omega
theorem takeSn {α : Type} {l:List α} {k:Nat} {x:α} (h:l[k]? = some x):l.take (k+1)=l.take k ++ [x]:=by rw [List.take_add_one,h];rfl
theorem takeAl {α : Type} {l:List α} {k:Nat} (h:¬k < l.length):l.take k=l:=List.take_of_length_le (by omega)
end
section
open Go Go.RowKit Go.Lib Go.Sort Bth
set_option maxRecDepth 100000
theorem sortStrings_calls (w:World) (base g c:Nat) (l:List ByteArray) (hown:w.ownsRow base 9 1 (.slice (some ⟨g,0,none⟩) l.length c) l.length (l.map Value.string)) (hn:0 < l.length) (hsz:l.length < 4611686018427387904):
  Calls Tryz.prog 95 #[.slice (some ⟨g,0,none⟩) l.length c] w fun e w'=>e = .returned (.tuple #[])∧w'.ownsRow base 9 1 (.slice (some ⟨g,0,none⟩) l.length c) l.length ((sortB l).map Value.string)∧Fr (fun b=>b=g) w w':=by
 obtain ⟨g',e,hb,_⟩:=own_cells hown hn
 injection e with e
 injection e with e _ _
 subst e
 have hH:Holds Go.Proofs.encStr w g 0 (l.map bytesOf).toArray:=own_holds (base:=base) (n:=l.length) (e:=9) (c:=c) (by rw [map_enc];exact hown)
 have hS:Calls Tryz.prog 95 #[.slice (some ⟨g,0,none⟩) (l.map bytesOf).length c] w _:=Any.sort_Strings ssL g 0 c (l.map bytesOf) w hH hb (by rw [List.length_map];exact hsz)
 rw [List.length_map] at hS
 refine hS.mono ?_
 rintro e w' ⟨rfl,m,os,rfl⟩
 have hF:(((l.map bytesOf).mergeSort fun x y=>decide (x≤y)).toArray.map Go.Proofs.encStr).toList=(sortB l).map Value.string:=by
  rw [Array.toList_map]
  exact map_enc2 _
 have hL:(((l.map bytesOf).mergeSort fun x y=>decide (x≤y)).toArray.map Go.Proofs.encStr).size=l.length*1:=by simp
 refine ⟨rfl,?_,?_⟩
 ·rw [putRow_id]
  have:=sorted_own (m:=m) (os:=os) hown hL
  rw [hF] at this
  exact this
 ·rw [putRow_id]
  exact sorted_fr w g m _ os
end
section
open Go Go.RowKit Go.MapKept Bth
set_option maxRecDepth 100000
def GivesISA (w:World) (fb:Nat) (f:Fn) (rs:List Rec) (old:List ByteArray) (e:Ending) (w':World):Prop:=
 e = .returned .nilIface∧Fr (fun b=>b=fb∨f.isa.ownBlock=some b) w w'∧∃ A c le,ExtR rs old le∧FnAt w' fb { f with isa:=.slice A le.length c } ∧ w'.ownsRow (fb+1) 9 1 (.slice A le.length c) le.length (le.map Value.string) ∧
  ∀ b,(Value.slice A le.length c).ownBlock=some b→f.isa.ownBlock=some b∨w.heap.size≤b
theorem strInj:∀ a b:ByteArray,Value.string a=Value.string b→a=b:=fun a b h=>by injection h
theorem extL_take {rs:List Rec} {k:Nat} {r:Rec} (h:rs[k]? = some r):extL (rs.take (k+1))=extL (rs.take k) ++ r.isa:=by
 unfold extL
 rw [takeSn h,List.flatMap_append]
 simp
set_option maxHeartbeats 4000000 in
theorem RequiredISA_calls (w:World) (fb:Nat) (f:Fn) (nds:List Nd) (rs:List Rec) (old:List ByteArray) (A0:Option Addr) (c0:Nat) (hfn:FnAt w fb f) (hnd:f.nodes = .slice A0 nds.length c0) (hS:Sl w A0 nds.length (nds.map Nd.val)) (hio:insOf nds=rs.map (·.b))
  (hrs:∀ r∈rs,r.At w) (hisa:w.ownsRow (fb+1) 9 1 f.isa old.length (old.map Value.string)) (hl:nds.length≤1048576) (hfew:∀ r∈rs,r.isa.length≤1048576) (hold:old.length≤1099511627776):
  Calls Tryz.prog 52 #[ptr fb] w (GivesISA w fb f rs old):=by
 have hrl:rs.length≤1048576:=by
  have h2:=insOf_le nds
  rw [hio,List.length_map] at h2
  omega
 have hel:=extL_le hfew
 have hel2:(extL rs).length≤1099511627776:=by omega
 have hfl:=lt_of_heap hfn
 have hI:∀ W,Fr nope w W→Calls Tryz.prog 62 #[.pointer (some ⟨fb,0,none⟩)] W (GivesOwn W 113 ((rs.map (·.b)).map ptr)):=fun W hW=>by
  have hc5:=hfn.c5
  rw [hnd] at hc5
  have:=Instructions_calls W fb A0 c0 nds (hW.cell hc5 (fun x=>x)) (hS.nope hW) (by omega)
  rw [hio] at this
  exact this
 obtain ⟨Ai,ci,hie,_,_⟩:=own_slice hisa
 have hil:=own_lt hisa
 have hib:=own_base hisa
 have hfnW:∀ W,Fr nope w W→FnAt W fb f:=fun W hW=>hfn.fr hW (fun x=>x)
 have hisW:∀ W,Fr nope w W→W.ownsRow (fb+1) 9 1 f.isa old.length (old.map Value.string):=fun W hW=>own_fr hisa hW (fun _ _ x=>x)
 clear hfn hnd hS hio hisa hl hel
 replace hfew:=Lib.hid hfew
 replace hI:=Lib.hid hI
 replace hrs:=Lib.hid hrs
 replace hel2:=Lib.hid hel2
 replace hfnW:=Lib.hid hfnW
 replace hisW:=Lib.hid hisW
 replace hie:=Lib.hid hie
 replace hil:=Lib.hid hil
 replace hib:=Lib.hid hib
 unfold ptr
 go_enter Tryz.func52,Tryz.ntmps52
 have hmm:=@run_makeMap Tryz.prog
 have hfm:Fr nope w (w.alloc (.map #[] 0)):=(Fr.refl nope w).alloc _
 have hsm:=SS.made w
 go_wp2_with fail
 refine (hI.out _ hfm).mono ?_
 rintro e w1 ⟨v,rfl,hown,hf1⟩
 simp only [List.length_map] at hown
 obtain ⟨A1,c1,rfl,_,_⟩:=own_slice hown
 have hSl:=own_Sl hown
 rw [List.map_map] at hSl
 have hbase:∀ b off,A1=some ⟨b,off,none⟩→w.heap.size < b:=fun b off he=>by
  have h1:=own_base hown b (by rw [he];rfl)
  simp at h1
  omega
 have hn1:=hfm.then hf1
 have hs1:=hsm.fr hf1 (fun x=>x)
 clear hsm hfm hown
 replace hbase:=Lib.hid hbase
 go_wp2
 go_loopg [13] rs.length (fun n c13 wr=>∃ (k:Nat) (D:List ByteArray),k≤rs.length∧c13 = .int .i64 (k:Int)∧SS wr w.heap.size D∧Hid (∀ x,x∈D↔x∈extL (rs.take k))∧Sl wr A1 rs.length (List.map (ptr ∘ fun x=>x.b) rs)∧Fr nope w wr∧n=rs.length - k)
 case atStart=>exact ⟨0,[],Nat.zero_le _,rfl,hs1,Lib.hid (by simp [extL]),hSl,hn1,rfl⟩
 case round=>
  obtain ⟨k,D,hk,rfl,hss,hD,hSr,hf,rfl⟩:=hrel
  by_cases hlt:k < rs.length
  ·obtain ⟨b0,off,u,hA1e,hbl,hu,hc⟩:=hSr.at_ hlt
   rw [List.getElem?_map] at hu
   obtain ⟨r,hr,rfl⟩:=Option.map_eq_some_iff.1 hu
   have hrA:=(hrs.out r (List.mem_of_getElem? hr)).nope hf
   have hT:=Lib.hid (extL_take hr)
   have hrf:=hfew.out r (List.mem_of_getElem? hr)
   have hbi:=own_lt (hrs.out r (List.mem_of_getElem? hr)).isa.2
   simp only [Function.comp,ptr] at hc
   have hat:=hrA.own.at_
   have hci:=fun j=>cell_of_row _ _ j _ _ (0,0) hat
   have hsn:=hrA.isa.1
   have hsi0:=hrA.isa.2
   have hibl:=lt_of_heap hat
   have hbs0:=hbase.out _ _ hA1e
   subst hA1e
   simp only [Ins.cells] at hci
   obtain ⟨rb,rlo,rhi,⟨opc,suf,ops,inp,out,term,br,cond,canc,⟨iA,iN,iC⟩,pred,succ,lin,lout⟩,rops,rinp,rout,rsuf,risa⟩:=r
   simp only [SV.val] at hsn hsi0 hci hc hT hibl hbi hrf
   subst hsn
   have hsi:=own_Sl (A:=iA) (c:=iC) hsi0
   clear hu hr hrA hat hsi0
   go_wp2
   go_loopg [22] risa.length (fun n c22 wx=>∃ (j:Nat) (E:List ByteArray),j≤risa.length∧c22 = .int .i64 (j:Int)∧SS wx w.heap.size E∧Hid (∀ x,x∈E↔x∈extL (rs.take k) ++ risa.take j)∧Fr (fun b=>b=w.heap.size) wr wx∧n=risa.length - j)
   case atStart=>exact ⟨0,D,Nat.zero_le _,rfl,hss,Lib.hid (by intro x;rw [List.take_zero,List.append_nil];exact hD.out x),Fr.refl _ _,rfl⟩
   case round=>
    obtain ⟨j,E,hj,rfl,hE,hEm,hg,rfl⟩:=hrel
    by_cases hjl:j < risa.length
    ·obtain ⟨b2,off2,u2,hA2,hb2,hu2,hc2⟩:=hsi.at_ hjl
     rw [List.getElem?_map] at hu2
     obtain ⟨y,hy,rfl⟩:=Option.map_eq_some_iff.1 hu2
     have hc2':=hg.cell hc2 (fun e=>by
      have e':b2=w.heap.size:=e
      have:=hbi b2 (by rw [hA2];rfl)
      omega)
     have hTj:=Lib.hid (takeSn hy)
     obtain ⟨w5,hup,hM5,hf5,_⟩:=hE.put y
     replace hM5:=Lib.hid hM5
     subst hA2
     clear hu2 hy hE hc2
     go_wp2
     go_roundg (risa.length - (j+1))
     case measure=>omega
     case rel=>exact ⟨j+1,insD E y,by omega,by go_num,hM5.out,Lib.hid (by intro x;rw [insD_mem,hEm.out,hTj.out,← List.append_assoc,List.mem_append (t:=[y]),List.mem_singleton]),hg.then hf5,rfl⟩
    ·rw [takeAl hjl] at hEm
     go_wp2
     go_roundg (rs.length - (k+1))
     case measure=>omega
     case rel=>exact ⟨k+1,E,by omega,by go_num,hE,Lib.hid (by intro x;rw [hT.out];exact hEm.out x),hSr.fr hg (fun _ b off e he=>by have:=hbase.out b off e;omega),hf.then_new hg (fun x hx e=>by omega),rfl⟩
  ·rw [takeAl hlt] at hD
   clear hSr
   obtain ⟨es,clock,hes,hesn⟩:=MapAt.size hss
   have hlen0:=run_len_map (P:=Tryz.prog) (w:=wr) 186 3 w.heap.size es clock (by kernel_rfl) hes
   have hfr:=hfnW.out _ hf
   have hir:=hisW.out _ hf
   have hDn:=hss.nodup
   have hDl:D.length≤1099511627776:=Nat.le_trans (nodup_leK hDn fun x hx=>(hD.out x).1 hx) hel2.out
   by_cases hD0:D=[]
   ·have hes0:es.size=0:=by rw [hesn,hD0];rfl
    clear hesn
    go_wp2
    go_ret
    refine ⟨rfl,hf.of_nope,Ai,ci,old,⟨D,hDn,hD.out,(if_pos hD0).symm⟩,?_,?_,fun b hb=>.inl (by rw [hie.out];exact hb)⟩
    ·rw [← hie.out];exact hfr
    ·rw [← hie.out];exact hir
   ·have hpos:0 < D.length:=List.length_pos_iff.2 hD0
    have hes1:¬((es.size:Int)=0):=by rw [hesn];omega
    have hes2:((es.size:Int) == 0)=false:=beq_eq_false_iff_ne.2 hes1
    have hO:MapO wr (some w.heap.size) Value.string D (memF D):=hss
    replace hesn:=Lib.hid hesn
    replace hD:=Lib.hid (show ∀ x,x∈D↔x∈extL rs from hD.out)
    have hszr:=hf.size
    have hmbl:=hss.lt
    clear hss hD0
    replace hDn:=Lib.hid hDn
    go_wp2_with (refine wpList_rangeO rfl rfl rfl hO strInj sbT ?_;intro w0 hrg0 hf0 hs0)
    have hf00:=hf.then hf0
    have hfr0:=hfnW.out _ hf00
    have hir0:=hisW.out _ hf00
    rw [hie.out] at hir0
    clear hO hfr hir
    obtain ⟨r0,hr0⟩:∃ r0,r0=wr.heap.size:=⟨_,rfl⟩
    rw [← hr0] at hrg0 ⊢
    replace hr0:r0+1=w0.heap.size∧w.heap.size < r0:=by omega
    clear hs0
    go_frame
    clear hes1 hes2
    go_loopg [] D.length (fun n wq=>∃ (todo E:List ByteArray) (A:Option Addr) (c:Nat),RangeO wq r0 (some w.heap.size) Value.string D (memF D) todo∧FnAt wq fb { f with isa:=.slice A (old.length+E.length) c } ∧ wq.ownsRow (fb+1) 9 1 (.slice A (old.length+E.length) c) (old.length+E.length) ((old ++ E).map Value.string) ∧
     SInvB D todo E∧Fr (fun b=>b=fb∨f.isa.ownBlock=some b) w wq∧Hid (∀ b,(Value.slice A (old.length+E.length) c).ownBlock=some b→f.isa.ownBlock=some b∨r0 < b)∧r0 < wq.heap.size∧todo.length=n)
    case atStart=>
     refine ⟨D,[],Ai,ci,hrg0,?_,?_,SInvB.start hDn.out,hf00.of_nope,Lib.hid (fun b hb=>.inl ?_),by omega,rfl⟩
     ·have e:Value.slice Ai (old.length+([]:List ByteArray).length) ci=f.isa:=hie.out.symm
      rw [e]
      exact hfr0
     ·simpa using hir0
     ·rw [hie.out];exact hb
    case round=>
     obtain ⟨todo,E,A,c,hrg,hfq,hown,hI,hfw,hob,hszq,rfl⟩:=hrel
     have hfbl:=lt_of_heap hfq
     have hEl:E.length≤1099511627776:=by
      have:=nodup_leK hI.dn fun x hx=>(hI.mem x).2 (.inl hx)
      omega
     have hcq:=fun j=>cell_of_row _ _ j _ _ (0,0) hfq
     have hzq:=frozen_row hfq
     simp only [Fn.cells] at hcq
     go_wp2_with (refine wpList_nextO rfl rfl rfl hrg strInj ?_ ?_)
     ·intro h0
      subst h0
      have hEd:=hI.done
      have hEn:=hI.dn
      have hEl0:0 < E.length:=by
       have:=nodup_leK hDn.out fun x hx=>(hEd x).2 hx
       omega
      obtain ⟨g,rfl,hgl,_⟩:=own_cells hown (by omega)
      have hgb:=own_base hown g rfl
      have hgo:=hob.out g rfl
      have hll:(old ++ E).length=old.length+E.length:=List.length_append ..
      have hSS:=sortStrings_calls wr (fb+1) g c (old ++ E) (by rw [hll];exact hown) (by omega) (by omega)
      rw [hll] at hSS
      have hEx:ExtR rs old (sortB (old ++ E)):=⟨E,hEn,fun x=>(hEd x).trans (hD.out x),(if_neg (List.length_pos_iff.1 hEl0)).symm⟩
      clear hrg hown hI hD hob
      replace hEd:=Lib.hid hEd
      replace hEx:=Lib.hid hEx
      go_wp2_with fail
      refine hSS.mono ?_
      rintro e w5 ⟨rfl,ho5,hf5⟩
      have hB5:=hf5.heap hfq (fun e=>by have e':fb=g:=e;omega)
      go_wp2
      go_ret
      have hl2:(sortB (old ++ E)).length=old.length+E.length:=by rw [sortB_len,hll]
      have hgS:∀ x,x < w.heap.size→x=g→x=fb∨f.isa.ownBlock=some x:=fun x hx e=>by
       rcases hgo with h | h
       ·exact .inr (by rw [e];exact h)
       ·omega
      refine ⟨rfl,hfw.trans hf5 (fun _ _ h=>h) hgS,some ⟨g,0,none⟩,c,sortB (old ++ E),hEx.out,by rw [hl2];exact hB5,by rw [hl2];exact ho5,fun b hb=>?_⟩
      have hgb2:g=b:=by injection hb
      subst hgb2
      rcases hgo with h | h
      ·exact .inl h
      ·exact .inr (by omega)
     ·intro k v w1 hkt hkk hv hrg1 hf1 hs1 hen
      have hv1:v = .bool true:=by
       unfold memF at hv
       rw [if_pos hkk] at hv
       injection hv with hv
       exact hv.symm
      subst hv1
      have hI1:=hI.step hkt
      have hlen:=ersK_len hkt
      have hne1:fb≠r0:=by omega
      have hB1:=hf1.heap hfq hne1
      have hobx:=hob.out
      have hown1:=own_fr hown hf1 (fun b hb e=>by
       have e':b=r0:=e
       rcases hobx b hb with h | h
       ·have:=hil.out b h;omega
       ·omega)
      have hc1:=fun j=>cell_of_row _ _ j _ _ (0,0) hB1
      simp only [Fn.cells] at hc1
      have hB1l:=lt_of_heap hB1
      have hs1':r0 < w1.heap.size:=by omega
      replace hs1:=Lib.hid hs1
      clear hv hrg hcq hzq hown
      replace hI:=Lib.hid hI
      go_wp2_with (refine wpList_app (v:=.slice A (old.length+E.length) c) rfl rfl Tryz.underlying40 infoStr rfl (by omega) rfl (own_fr hown1 ((Fr.refl nope _).alloc _) (fun _ _ x=>x)) rfl (news:=[.string k]) rfl (one_new _ _ _ _ rfl) (by simp [Value.oneCell']) (by simp only [maxLen];omega) (by omega) (by simp;omega) ?hk)
      case hk=>
       intro v3 w3 hown3 hf3 hb3
       obtain ⟨A3,c3,rfl,_,_⟩:=own_slice hown3
       have hnb:¬Value.ownBlock (.slice A (old.length+E.length) c)=some fb:=fun e=>by have:=own_base hown1 _ e;omega
       have hB3:=hf3.heap (((Fr.refl nope w1).alloc _).heap hB1 (fun x=>x)) hnb
       have hc3:=fun j=>cell_of_row _ _ j _ _ (0,0) hB3
       have hz3:=frozen_row hB3
       have hB3l:=lt_of_heap hB3
       simp only [Fn.cells] at hc3
       replace hb3:=Lib.hid hb3
       go_wp2
       have hst:Fr (fun x=>x=fb) w3 (w3.setCell ⟨fb,8,none⟩ (.slice A3 (old.length+E.length+1) c3)):=(Fr.refl (fun x=>x=fb) w3).setCell (.inl rfl) _
       go_roundg (ersK todo k).length
       case measure=>exact hlen
       case rel=>
        have hsz3:=hf3.size
        simp at hsz3
        have hs4:(w3.setCell ⟨fb,8,none⟩ (.slice A3 (old.length+E.length+1) c3)).heap.size=w3.heap.size:=by simp [World.setCell]
        have hl3:∀ x,Value.ownBlock (.slice A3 (old.length+E.length+1) c3)=some x→fb+1≤x:=own_base hown3
        have hoA:∀ x,Value.ownBlock (.slice A (old.length+E.length) c)=some x→x≠r0∧x≠w.heap.size:=fun x hx=>by
         rcases hobx x hx with h | h
         ·have:=hil.out x h;omega
         ·omega
        have hel:(E ++ [k]).length=E.length+1:=by simp
        have hell:old.length+(E ++ [k]).length=old.length+E.length+1:=by omega
        refine ⟨_,E ++ [k],A3,c3,((hrg1.fr ((Fr.refl nope w1).alloc _) (fun x=>x) (fun _ _ x=>x)).fr hf3 (fun e=>(hoA _ e).1 rfl) (fun b2 hb2 e=>by injection hb2 with hb2;exact (hoA _ e).2 hb2.symm)).fr hst (by omega) (fun b2 hb2 e=>by injection hb2 with hb2;omega),?_,?_,hI1,?_,?_,by omega,rfl⟩
        ·rw [hell];exact setCell_heap hB3 _
        ·rw [hell]
         refine own_fr ?_ hst (fun x hx e=>by have:=hl3 x hx;omega)
         simp only [List.map_append,List.map_cons,List.map_nil] at hown3 ⊢
         simpa only [List.append_assoc] using hown3
        ·exact (((hfw.then_new hf1 (fun x hx e=>by have e':x=r0:=e;omega)).alloc _).trans hf3 (fun _ _ h=>h) (fun x hx h=>by
          rcases hobx x h with h | h
          ·exact .inr h
          ·omega)).then (hst.mono fun x _ e=>.inl e)
        ·rw [hell]
         refine Lib.hid fun b hb=>?_
         rcases hb3.out with h | h
         ·exact hobx b (by rw [← h];exact hb)
         ·rw [h] at hb
          injection hb with hb
          right
          omega
end
section
open Go Go.RowKit Go.MapKept Bth
set_option maxRecDepth 100000
def ExtB (is:List PI) (le:List ByteArray):Prop:=ExtP is (le.map bytesOf)
theorem ExtB.uniq {is:List PI} {l l':List ByteArray} (h:ExtB is l) (h':ExtB is l'):l'=l:=by
 have e:=ExtP.uniq h h'
 have key:∀ l:List ByteArray,(l.map bytesOf).map ofBytes=l:=fun l=>by
  rw [List.map_map]
  conv=>rhs;rw [← List.map_id l]
  exact List.map_congr_left fun s _=>ofBytes_of s
 rw [← key l',e,key]
theorem ExtR.plain {fs:Nat→Option Nat} {ns:List PN} {nds:List Nd} {rs:List Rec} {cms:List (Nat × List ByteArray)} (hM:Mt fs ns nds rs cms) {le:List ByteArray} (h:ExtR rs [] le):ExtB (insP ns) le:=by
 obtain ⟨D,h1,h2,h3⟩:=h
 have hle:le=sortB D:=by
  rw [h3]
  split
  ·rename_i e;rw [e];simp [sortB]
  ·rfl
 refine ⟨D.map bytesOf,?_,fun x=>?_,by rw [hle,sortB_bytes]⟩
 ·exact List.pairwise_map.2 (h1.imp fun {a b} hab e=>hab (bytesOf_inj e))
 ·rw [List.mem_map]
  obtain ⟨hl,hm⟩:=hM.match_
  constructor
  ·rintro ⟨s,hs,rfl⟩
   obtain ⟨r,hr,hsr⟩:=List.mem_flatMap.1 ((h2 s).1 hs)
   obtain ⟨p,hp,hpr⟩:=hM.each hr
   exact ⟨p,hp,s,by rw [← hpr.isa];exact hsr,rfl⟩
  ·rintro ⟨p,hp,s,hs,rfl⟩
   obtain ⟨k,hk⟩:=List.mem_iff_getElem?.1 hp
   have hlt:k < rs.length:=by rw [← hl];exact (List.getElem?_eq_some_iff.1 hk).1
   refine ⟨s,(h2 s).2 (List.mem_flatMap.2 ⟨rs[k],List.getElem_mem hlt,?_⟩),rfl⟩
   show s∈rs[k].isa
   rw [(hm k p _ hk (List.getElem?_eq_getElem hlt)).isa]
   exact hs
end
section
open Go Go.RowKit Go.MapKept Bth
set_option maxRecDepth 100000
def GivesEx (w:World) (ns:List PN) (e:Ending) (w':World):Prop:=Fr nope w w'∧∃ A c le,e = .returned (.tuple #[.slice A le.length c,.bool true])∧ExtB (insP ns) le∧le.length≤1099511627776∧Sl w' A le.length (le.map Value.string)
set_option maxHeartbeats 4000000 in
theorem ImExt_calls (w:World) (s:SV) (ns:List PN) (hN:NodesAt w w.heap.size s ns) (hok0:ns.all okN=true):Calls Tryz.prog 22 #[.slice s.A s.n s.c] w (GivesEx w ns):=by
 have hfew:=hN.few
 go_enter Tryz.func22,Tryz.ntmps22
 go_wp2_with fail
 refine (newWorld_calls w).mono ?_
 rintro e w1 ⟨rfl,hW,hf1⟩
 have hN1:=hN.fr hf1 (fun _ _ x=>x)
 have hF:=function_calls w1 w.heap.size (fun _=>none) s ns hN1 hW
 have hl1:=hf1.size
 go_wp2_with fail
 refine hF.mono ?_
 rintro e w2 ⟨fs,hg,hW2,hf2,⟨fb,f,nds,rs,cms,hok,st,hfb,hbare,hfresh,rfl⟩ | ⟨hok,_⟩⟩
 rotate_left
 ·rw [hok0] at hok;cases hok
 obtain ⟨A,c,hnn,_,_⟩:=own_slice st.nodes
 have hSn:Sl w2 A nds.length (nds.map Nd.val):=by have h:=st.nodes;rw [hnn] at h;exact own_Sl h
 have hnl:nds.length≤1048576:=by rw [st.mt.len];exact hfew
 have hwl:=lt_of_heap hW.1
 have hf02:Fr nope w w2:=hf1.then_new hf2 (fun x hx e=>by omega)
 have hfl:∀ r∈rs,r.isa.length≤1048576:=fun r hr=>by
  obtain ⟨p,hp,hm⟩:=st.mt.each hr
  rw [hm.isa]
  obtain ⟨n,hn,rfl⟩:=insP_mem hp
  have:=(hN.each n hn).ins.few
  omega
 have hrl:rs.length≤1048576:=by
  have h2:=insOf_le nds
  rw [st.mt.insOf,List.length_map] at h2
  omega
 have hel:=extL_le hfl
 have hR:=RequiredISA_calls w2 fb f nds rs [] A c st.fn hnn hSn st.mt.insOf (fun r hr=>(st.recs r hr).1) (by rw [hbare.2.2];exact own_nil _ _ _ _) hnl hfl (Nat.zero_le _)
 have hmt:=st.mt
 have hisn:f.isa.ownBlock=none:=by rw [hbare.2.2];rfl
 clear hN1 hF hN st hfl hok hfresh hbare
 replace hmt:=Lib.hid hmt
 replace hnn:=Lib.hid hnn
 unfold ptr at hR ⊢
 go_wp2_with fail
 refine hR.mono ?_
 rintro e w3 ⟨rfl,hf3,A3,c3,le,hE,hfn3,hown3,_⟩
 have hf03:Fr nope w w3:=hf02.then_new hf3 (fun x hx h=>by
  rcases h with h | h
  ·omega
  ·rw [hisn] at h;cases h)
 have hll:=hE.len
 have hll2:le.length≤1099511627776:=by
  simp only [List.length_nil] at hll
  omega
 have hEB:=hE.plain hmt.out
 have hc8:=hfn3.c8
 simp only at hc8
 have hfl3:=lt_of_heap hfn3
 have hcl:=own_cells hown3
 have hsrc:0 < le.length→∃ ad,A3=some ad∧∀ j u,(le.map Value.string)[j]? = some u→w3.cell? (ad.add j)=some u:=fun h=>by
  obtain ⟨g,hA,_,hc⟩:=hcl h
  exact ⟨_,hA,fun j u hu=>by
   have e:(⟨g,0,none⟩:Addr).add j=⟨g,j,none⟩:=by unfold Addr.add;split<;>simp_all
   rw [e];exact hc j u hu⟩
 replace hE:=Lib.hid hE
 replace hEB:=Lib.hid hEB
 clear hll hcl hel
 go_wp2_with (refine wpList_app (v:=.slice none 0 0) rfl rfl Tryz.underlying40 infoStr rfl (by omega) rfl (own_nil w3 0 _ _) rfl (news:=le.map Value.string) (by simp) hsrc (by simp [Value.oneCell']) (by simp only [maxLen];omega) (by omega) (Nat.zero_le _) ?hk)
 case hk=>
  intro v4 w4 hown4 hf4 _
  try simp only [Nat.zero_add,List.nil_append] at hown4
  obtain ⟨A4,c4,rfl,_,_⟩:=own_slice hown4
  go_wp2
  go_ret2
  exact ⟨hf03.then_new hf4 (fun x hx e=>by cases e),A4,c4,le,rfl,hEB.out,hll2,own_Sl hown4⟩
end
section
open Go Go.RowKit Bth
set_option maxRecDepth 100000
theorem texts_calls (w:World) (A1 A2:Option Addr) (c1 c2:Nat) (l:List ByteArray) (h1:Sl w A1 l.length (l.map Value.string)) (h2:Sl w A2 l.length (l.map Value.string)) (hl:l.length≤1099511627776):
  Calls Tryz.prog 23 #[.slice A1 l.length c1,.slice A2 l.length c2] w (GivesB w true):=by
 go_enter Tryz.func23,Tryz.ntmps23
 go_wp2
 go_loopg [13] l.length (fun n c13 wr=>∃ k:Nat,k≤l.length∧c13 = .int .i64 (k:Int)∧Fr nope w wr∧n=l.length - k)
 case atStart=>exact ⟨0,Nat.zero_le _,rfl,Fr.refl _ _,rfl⟩
 case round=>
  obtain ⟨k,hk,rfl,hf,rfl⟩:=hrel
  by_cases hlt:k < l.length
  ·obtain ⟨b1,o1,u1,hA1,hb1,hu1,hc1⟩:=(h1.nope hf).at_ hlt
   obtain ⟨b2,o2,u2,hA2,hb2,hu2,hc2⟩:=(h2.nope hf).at_ hlt
   rw [hu1] at hu2
   injection hu2 with hu2
   rw [List.getElem?_map] at hu1
   obtain ⟨y,_,rfl⟩:=Option.map_eq_some_iff.1 hu1
   subst hA1 hA2 hu2
   have hk0:(0:Int)≤(k:Int):=by omega
   have hk1:(k:Int) < (l.length:Int):=by omega
   have d1:∀ m,(wr.drewN m).cell? ⟨b1,o1+k,none⟩=some (.string y):=fun m=>((Fr.refl nope wr).drewN m).cell hc1 (fun x=>x)
   have d2:∀ m,(wr.drewN m).cell? ⟨b2,o2+k,none⟩=some (.string y):=fun m=>((Fr.refl nope wr).drewN m).cell hc2 (fun x=>x)
   clear hu1 h1 h2
   go_wp2
   go_quiet (fail)
   go_wp2
   go_roundg (l.length - (k+1))
   case measure=>omega
   case rel=>exact ⟨k+1,by omega,by go_num,by first | exact hf | exact hf.drewN _,rfl⟩
  ·go_wp2
   go_ret
   exact ⟨rfl,hf⟩
end
section
open Go Go.RowKit Bth
set_option maxRecDepth 100000
set_option maxHeartbeats 1000000 in
theorem same_calls (w:World) (A B:Option Addr) (c d:Nat) (l:List (Nat × Nat)) (h:PairsAt w A l) (h':PairsAt w B l) (hl:l.length≤1000000000):Calls Tryz.prog 17 #[.slice A l.length c,.slice B l.length d] w (GivesB w true):=by
 go_enter Tryz.func17,Tryz.ntmps17
 go_wp2
 go_loopg [13] l.length (fun n c13 wr=>∃ k:Nat,k≤l.length∧c13 = .int .i64 (k:Int)∧Fr nope w wr∧n=l.length - k)
 case atStart=>exact ⟨0,Nat.zero_le _,rfl,Fr.refl _ _,rfl⟩
 case round=>
  obtain ⟨k,hk,rfl,hf,rfl⟩:=hrel
  by_cases hlt:k < l.length
  ·obtain ⟨⟨x1,x2⟩,hx⟩:∃ x,l[k]? = some x:=⟨_,List.getElem?_eq_getElem hlt⟩
   obtain ⟨b,e1,hb,hr⟩:=(h.fr hf) (by omega)
   obtain ⟨b',e2,hb',hr'⟩:=(h'.fr hf) (by omega)
   have hr:=hr k _ hx
   have hr':=hr' k _ hx
   subst e1 e2
   have hc0:wr.cell? ⟨b,k*2,none⟩=some (.int .u32 (x1:Int)):=hr 0 _ rfl
   have hc1:wr.cell? ⟨b,k*2+1,none⟩=some (.int .u32 (x2:Int)):=hr 1 _ rfl
   have hd0:wr.cell? ⟨b',k*2,none⟩=some (.int .u32 (x1:Int)):=hr' 0 _ rfl
   have hd1:wr.cell? ⟨b',k*2+1,none⟩=some (.int .u32 (x2:Int)):=hr' 1 _ rfl
   clear hr hr' hx h h'
   go_wp2
   go_quiet (fail)
   go_wp2
   go_roundg (l.length - (k+1))
   case measure=>omega
   case rel=>exact ⟨k+1,by omega,by go_num,by first | exact hf | exact hf.drewN _,rfl⟩
  ·go_wp2
   go_ret
   exact ⟨rfl,hf⟩
end
section
open Go Go.RowKit Bth
set_option maxRecDepth 100000
set_option maxHeartbeats 2000000 in
theorem Tidy_calls (w:World) (A:Option Addr) (c:Nat) (s:TL) (h:TlAt w A s) (hs:Tidy s) (hl:s.length≤4294967296):Calls Tryz.prog 51 #[.slice A s.length c] w (GivesTL w s):=by
 go_enter Tryz.func51,Tryz.ntmps51
 go_wp2
 go_loopg [3,4] s.length (fun n c3 c4 wr=>∃ (i:Nat) (acc:TL) (A2:Option Addr) (c2:Nat),i≤s.length∧Hid (acc=s.take i)∧c4 = .int .i64 (i:Int)∧c3 = .slice A2 acc.length c2∧TlAt wr A2 acc∧Fr nope w wr∧n=s.length - i)
 case atStart=>exact ⟨0,[],none,0,Nat.zero_le _,Lib.hid rfl,rfl,rfl,Rw.nil _ _ _,Fr.refl _ _,rfl⟩
 case round=>
  obtain ⟨i,acc,A2,c2,hi,hacc,rfl,rfl,hat,hf,rfl⟩:=hrel
  by_cases hlt:i < s.length
  ·obtain ⟨⟨x1,x2⟩,hx⟩:∃ x,s[i]? = some x:=⟨_,List.getElem?_eq_getElem hlt⟩
   obtain ⟨b,off,hBe,hbl,hr⟩:=(Rw.nope h hf).at_ tlV_len hx
   have hrow:=Lib.hid (fun (k:Nat) (y:Nat × Nat) (hy:s[k]? = some y)=>(Rw.nope h hf).at_ tlV_len hy)
   subst hBe
   have hcs:∀ W,Fr nope wr W→W.cell? ⟨b,off+i*2,none⟩=some (.int .u32 (x1:Int))∧W.cell? ⟨b,off+i*2+1,none⟩=some (.int .u16 (x2:Int)):=fun W hW=>⟨hW.cell (hr 0 _ rfl) (fun x=>x),hW.cell (hr 1 _ rfl) (fun x=>x)⟩
   have hxb:=hs.bound _ (List.mem_of_getElem? hx)
   have hT:=Lib.hid (hs.snoc hx)
   have hap:=Lib.hid (fun (k:Nat) (y:Nat × Nat) (hy:s[k]? = some y) (hne:i≠k)=>hs.apart hx hy hne)
   have hta:Tidy acc:=by rw [hacc.out];exact hs.take i
   have hcall:=fun W (hW:Fr nope wr W)=>maskAdd_calls W A2 c2 acc x1 x2 (hat.nope hW) hta hxb.2.1
   replace hcall:=Lib.hid hcall
   replace hcs:=Lib.hid hcs
   replace hta:=Lib.hid hta
   clear hr hx hxb
   replace hat:=Lib.hid hat
   go_wp2
   go_loopg [5,6] (s.length - (i+1)) (fun n c5 c6 wx=>∃ k:Nat,i+1≤k∧k≤s.length∧c5 = .bool true∧c6 = .int .i64 (k:Int)∧Fr nope wr wx∧n=s.length - k)
   case atStart=>exact ⟨i+1,Nat.le_refl _,hlt,rfl,by go_num,Fr.refl _ _,rfl⟩
   case round=>
    obtain ⟨k,hk1,hk2,rfl,rfl,hg,rfl⟩:=hrel
    by_cases hkl:k < s.length
    ·obtain ⟨⟨y1,y2⟩,hy⟩:∃ y,s[k]? = some y:=⟨_,List.getElem?_eq_getElem hkl⟩
     obtain ⟨b',off',hBe',_,hr'⟩:=hrow.out k _ hy
     injection hBe' with hBe'
     injection hBe' with e1 e2
     subst e1 e2
     have hne:¬(y1:Int)=(x1:Int):=by
      have:=hap.out k _ hy (by omega)
      simp only at this
      omega
     have d1:∀ m,(wr.drewN m).cell? ⟨b,off+k*2,none⟩=some (.int .u32 (y1:Int)):=fun m=>(hg.then ((Fr.refl nope wr).drewN m)).cell (hr' 0 _ rfl) (fun x=>x)
     have d2:∀ m,(wr.drewN m).cell? ⟨b,off+i*2,none⟩=some (.int .u32 (x1:Int)):=fun m=>(hcs.out _ (hg.then ((Fr.refl nope wr).drewN m))).1
     clear hy hr'
     go_wp2
     go_quiet (fail)
     go_wp2
     go_roundg (s.length - (k+1))
     case measure=>omega
     case rel=>exact ⟨k+1,by omega,by omega,by simp [hne],by go_num,by first | exact hg | exact hg.drewN _,rfl⟩
    ·have hd:=hg.drew
     have hS0:=hcs.out _ hd
     have hat1:=hat.out
     go_wp2
     go_region_held3 (fun W=>W.cell? ⟨b,off+i*2,none⟩=some (.int .u32 (x1:Int))∧W.cell? ⟨b,off+i*2+1,none⟩=some (.int .u16 (x2:Int))) (assumption)
      ((go_at_call 94;refine (hcall.out _ hd).mono ?_;rintro e w1 ⟨hf1,A3,c3,rfl,hT3⟩;have hn1:=hd.then hf1;have hS1:=hcs.out _ hn1))
     all_goals
      go_wp2
      go_roundg (s.length - (i+1))
      case measure=>omega
      case rel=>exact ⟨i+1,mAdd acc x1 x2,A3,c3,by omega,Lib.hid (by rw [← hT.out,hacc.out]),by go_num,rfl,hT3,hf.then hn1,rfl⟩
  ·rw [take_all hlt] at hacc
   obtain rfl:=hacc.out
   go_wp2
   go_ret
   exact ⟨hf,A2,c2,rfl,hat⟩
end
section
open Go Go.RowKit Bth
set_option maxRecDepth 100000
set_option maxHeartbeats 2000000 in
theorem sets_calls (w:World) (A B:Option Addr) (c d:Nat) (ls:List TL) (h:TlsAt w A ls) (h':TlsAt w B ls) (ht:∀ s∈ls,Tidy s) (hl:ls.length≤1048576):Calls Tryz.prog 21 #[.slice A ls.length c,.slice B ls.length d] w (GivesB w true):=by
 go_enter Tryz.func21,Tryz.ntmps21
 go_wp2
 go_loopg [13] ls.length (fun n c13 wr=>∃ i:Nat,i≤ls.length∧c13 = .int .i64 (i:Int)∧Fr nope w wr∧n=ls.length - i)
 case atStart=>exact ⟨0,Nat.zero_le _,rfl,Fr.refl _ _,rfl⟩
 case round=>
  obtain ⟨i,hi,rfl,hf,rfl⟩:=hrel
  by_cases hlt:i < ls.length
  ·obtain ⟨s,hs⟩:∃ s,ls[i]? = some s:=⟨_,List.getElem?_eq_getElem hlt⟩
   obtain ⟨b1,o1,A1,c1,e1,hb1,hc1,hT1⟩:=(h.nope hf).at_ hs
   obtain ⟨b2,o2,A2,c2,e2,hb2,hc2,hT2⟩:=(h'.nope hf).at_ hs
   subst e1 e2
   have hts:=ht s (List.mem_of_getElem? hs)
   have hsl:=hts.len
   have hcs:∀ W,Fr nope wr W→W.cell? ⟨b1,o1+i,none⟩=some (.slice A1 s.length c1)∧W.cell? ⟨b2,o2+i,none⟩=some (.slice A2 s.length c2):=fun W hW=>⟨hW.cell hc1 (fun x=>x),hW.cell hc2 (fun x=>x)⟩
   have hd:Fr nope wr wr.drew:=(Fr.refl nope wr).drew
   have hS0:=hcs _ hd
   have hC1:=fun W (hW:Fr nope wr W)=>Tidy_calls W A1 c1 s (hT1.nope hW) hts hsl
   have hC2:=fun W (hW:Fr nope wr W)=>Tidy_calls W A2 c2 s (hT2.nope hW) hts hsl
   have hSL:=fun W A3 c3 A4 c4 (h3:TlAt W A3 s) (h4:TlAt W A4 s)=>SameLive_calls W A3 A4 c3 c4 s s h3 h4 hsl
   simp only [decide_true] at hSL
   replace hcs:=Lib.hid hcs
   replace hC1:=Lib.hid hC1
   replace hC2:=Lib.hid hC2
   replace hSL:=Lib.hid hSL
   clear hc1 hc2 hT1 hT2 hs hts h h'
   go_wp2
   go_region_held3 (fun W=>W.cell? ⟨b1,o1+i,none⟩=some (.slice A1 s.length c1)∧W.cell? ⟨b2,o2+i,none⟩=some (.slice A2 s.length c2)) (assumption)
    ((first
     | (go_at_call 50;refine (hSL.out _ _ _ _ _ (Rw.nope hT3 hf4) hT4).mono ?_;rintro e w5 ⟨rfl,hf5⟩;have hn5:=hn4.then hf5;have hS5:=hcs.out _ hn5)
     | (go_at_call 51;refine (hC2.out _ hn3).mono ?_;rintro e w4 ⟨hf4,A4,c4,rfl,hT4⟩;have hn4:=hn3.then hf4;have hS4:=hcs.out _ hn4)
     | (go_at_call 51;refine (hC1.out _ hd).mono ?_;rintro e w3 ⟨hf3,A3,c3,rfl,hT3⟩;have hn3:=hd.then hf3;have hS3:=hcs.out _ hn3)))
   all_goals
    go_wp2
    go_roundg (ls.length - (i+1))
    case measure=>omega
    case rel=>exact ⟨i+1,by omega,by go_num,hf.then hn5,rfl⟩
  ·go_wp2
   go_ret
   exact ⟨rfl,hf⟩
end
section
open Go Go.RowKit Bth
set_option maxRecDepth 100000
theorem nodes_own {w:World} {base B c:Nat} {A:Option Addr} {ns:List PN} (h:w.ownsRow base 48 13 (.slice A ns.length c) ns.length (ns.flatMap PN.list)) (hr:∀ p∈ns,p.At w B) (hB:B≤w.heap.size) (hf:ns.length≤1048576):NodesAt w w.heap.size ⟨A,ns.length,c⟩ ns:=
 ⟨rfl,fun hn=>by
  obtain ⟨g,e1,hg,hc⟩:=own_cells h hn
  refine ⟨g,0,e1,hg,hg,fun k p hk j v hv=>?_⟩
  have:=hc _ v (flat_get (f:=PN.list) PN.list_len hk j v hv)
  rw [Nat.zero_add]
  exact this,fun p hp=>(hr p hp).up hB,hf⟩
theorem quiet_take {ns:List PN} {k:Nat} {p:PN} (h:ns[k]? = some p):quietL (ns.take (k+1))=quietL (ns.take k) ++ (if p.kind=3 then [] else [p]):=by
 unfold quietL
 rw [take_snoc h,List.filter_append]
 by_cases e:p.kind=3<;>simp [e]
def GivesQu (w:World) (ns:List PN) (e:Ending) (w':World):Prop:=Fr nope w w'∧∃ A c,e = .returned (.slice A (quietL ns).length c)∧NodesAt w' w'.heap.size ⟨A,(quietL ns).length,c⟩ (quietL ns)
set_option maxHeartbeats 1000000 in
theorem quiet_calls (w:World) (s:SV) (ns:List PN) (hN:NodesAt w w.heap.size s ns):Calls Tryz.prog 18 #[s.val] w (GivesQu w ns):=by
 obtain ⟨A,n,c⟩:=s
 obtain rfl:n=ns.length:=hN.len
 have hfew:=hN.few
 have heach:=Lib.hid hN.each
 simp only [SV.val]
 go_enter Tryz.func18,Tryz.ntmps18
 go_wp2
 go_loopg [3,8] ns.length (fun n c3 c8 wr=>∃ (k:Nat) (A2:Option Addr) (c2:Nat) (is:List PN),k≤ns.length∧Hid (is=quietL (ns.take k))∧is.length≤k∧c8 = .int .i64 (k:Int)∧c3 = .slice A2 is.length c2∧wr.ownsRow w.heap.size 48 13 (.slice A2 is.length c2) is.length (is.flatMap PN.list)∧Fr nope w wr∧n=ns.length - k)
 case atStart=>exact ⟨0,none,0,[],Nat.zero_le _,Lib.hid rfl,Nat.le_refl _,rfl,rfl,own_nil _ _ _ _,Fr.refl _ _,rfl⟩
 case round=>
  obtain ⟨k,A2,c2,is,hk,his,hlk,rfl,rfl,hown,hf,rfl⟩:=hrel
  have hsz:=hf.size
  by_cases hlt:k < ns.length
  ·obtain ⟨b,off,hAe,hbB,hbl,hc⟩:=(hN.fr hf (fun _ _ x=>x)).row (by omega)
   simp only at hAe
   subst hAe
   obtain ⟨p,hpk⟩:∃ p,ns[k]? = some p:=⟨_,List.getElem?_eq_getElem hlt⟩
   have hc:=hc k p hpk
   have hT:=Lib.hid (quiet_take hpk)
   clear hpk hN
   have hbo:=own_base hown
   obtain ⟨kind,label,⟨lA,ln,lc⟩,lines,ins⟩:=p
   by_cases k1:kind=3
   ·subst k1
    go_wp2_with (first
     | (refine wpList_load_mid rfl _ _ rfl b (off+k*13) rfl (PN.cells ⟨3,label,⟨lA,ln,lc⟩,lines,ins⟩).toList _ hc Tryz.underlying48 rfl (by kernel_rfl) ?_)
     | (refine wpList_storeRow (b:=wr.heap.size) (cells:=PN.cells ⟨3,label,⟨lA,ln,lc⟩,lines,ins⟩) rfl rfl rfl rfl (heap_alloc_new _ _) rfl (by kernel_rfl) (by kernel_rfl) ?_;intro w2 hb2 hf2;have hcb:=cell_of_row _ _ 0 _ _ (0,0) hb2;simp only [PN.cells,List.getElem?_toArray,List.getElem?_cons_zero] at hcb))
    have hn2:Fr nope wr w2:=((Fr.refl nope wr).alloc _).then_new hf2 (fun x hx e=>by omega)
    go_roundg (ns.length - (k+1))
    case measure=>omega
    case rel=>exact ⟨k+1,A2,c2,is,by omega,Lib.hid (by rw [hT.out,← his.out];exact (List.append_nil _).symm),by omega,by go_num,rfl,own_fr hown hn2 (fun _ _ x=>x),hf.then hn2,rfl⟩
   ·obtain ⟨p,hp⟩:∃ p:PN,p=⟨kind,label,⟨lA,ln,lc⟩,lines,ins⟩:=⟨_,rfl⟩
    go_wp2_with (first
     | (refine wpList_load_mid rfl _ _ rfl b (off+k*13) rfl (PN.cells ⟨kind,label,⟨lA,ln,lc⟩,lines,ins⟩).toList _ hc Tryz.underlying48 rfl (by kernel_rfl) ?_)
     | (refine wpList_storeRow (b:=wr.heap.size) (cells:=PN.cells ⟨kind,label,⟨lA,ln,lc⟩,lines,ins⟩) rfl rfl rfl rfl (heap_alloc_new _ _) rfl (by kernel_rfl) (by kernel_rfl) ?_;intro w2 hb2 hf2;have hcb:=cell_of_row _ _ 0 _ _ (0,0) hb2;have hr2:=PN.range hb2;have hn2:Fr nope wr w2:=((Fr.refl nope wr).alloc _).then_new hf2 (fun x hx e=>by omega);simp only [PN.cells,List.getElem?_toArray,List.getElem?_cons_zero] at hcb)
     | (refine wpList_loadRow (b:=wr.heap.size) (cells:=PN.cells ⟨kind,label,⟨lA,ln,lc⟩,lines,ins⟩) rfl rfl rfl hb2 Tryz.underlying48 rfl (by kernel_rfl) ?_)
     | (refine wpList_build1 (l:=PN.list ⟨kind,label,⟨lA,ln,lc⟩,lines,ins⟩) rfl rfl rfl Tryz.underlying22 infoPN rfl (by omega) (by decide) ?_)
     | refine wpList_app (v:=.slice A2 is.length c2) rfl rfl Tryz.underlying22 infoPN rfl (by omega) rfl (own_fr (own_fr hown hn2 (fun _ _ x=>x)) ((Fr.refl nope _).alloc _) (fun _ _ x=>x)) rfl (news:=PN.list ⟨kind,label,⟨lA,ln,lc⟩,lines,ins⟩) ?ha ?hb ?hc ?hd ?he ?hf ?hk)
    case ha=>rfl
    case hc=>simp [PN.list,PN.cells,Value.oneCell',SV.val]
    case hd=>simp only [maxLen];omega
    case he=>omega
    case hf=>have:=hn2.size;simp;omega
    case hk=>
     intro v4 w4 hown4 hf4 hb4
     obtain ⟨A4,c4,rfl,_,_⟩:=own_slice hown4
     clear hb4
     have hsz2:=hn2.size
     go_wp2
     go_roundg (ns.length - (k+1))
     case measure=>omega
     case rel=>exact ⟨k+1,A4,c4,is ++ [⟨kind,label,⟨lA,ln,lc⟩,lines,ins⟩],by omega,Lib.hid (by rw [hT.out,← his.out,if_neg k1]),by simp;omega,by go_num,by simp,by rw [List.flatMap_append,List.length_append];simpa [List.flatMap_cons] using hown4,((hf.then hn2).alloc _).then_new hf4 (fun x hx e=>by have:=hbo x e;omega),rfl⟩
  ·rw [take_all hlt] at his
   obtain rfl:=his.out
   go_wp2
   go_ret
   exact ⟨hf,A2,c2,rfl,nodes_own hown (fun p hp=>(heach.out p (List.mem_filter.1 hp).1).fr hf (fun _ _ x=>x)) hf.size (by omega)⟩
def GivesKn (w:World) (ns:List PN) (e:Ending) (w':World):Prop:=Fr nope w w'∧∃ b,e = .returned (.bool b)∧(b=true→ns.length≤2000∧∀ p∈insP ns,knI p=true)
theorem insP_each {w:World} {B:Nat} {s:SV} {ns:List PN} (hN:NodesAt w B s ns):∀ p∈insP ns,p.At w B:=by
 intro p hp
 unfold insP at hp
 obtain ⟨n,hn,rfl⟩:=List.mem_map.1 hp
 exact (hN.each n (List.mem_filter.1 hn).1).ins
set_option maxHeartbeats 1000000 in
theorem known_calls (w:World) (B:Nat) (s:SV) (ns:List PN) (hN:NodesAt w B s ns):Calls Tryz.prog 6 #[s.val] w (GivesKn w ns):=by
 have hLK:=LabelsKnown_calls w B s ns hN
 have hI:=fun W (hW:Fr nope w W)=>Instrs_calls W B s ns (hN.fr hW (fun _ _ x=>x))
 have hat:=insP_each hN
 have hlen:(insP ns).length≤ns.length:=by unfold insP;rw [List.length_map];exact List.length_filter_le _ _
 obtain ⟨A,n,c⟩:=s
 obtain rfl:n=ns.length:=hN.len
 simp only [SV.val] at hLK hI ⊢
 clear hN
 replace hI:=Lib.hid hI
 go_enter Tryz.func6,Tryz.ntmps6
 by_cases h2000:(2000:Int) < (ns.length:Int)
 ·clear hlen
  go_wp2_with fail
  go_ret
  exact ⟨Fr.refl _ _,false,rfl,fun h=>by cases h⟩
 go_wp2_with fail
 refine hLK.mono ?_
 rintro e w2 ⟨b,rfl,hn2⟩
 clear hLK
 cases b with
 | false=>
  clear hlen
  go_wp2
  go_ret
  exact ⟨hn2,false,rfl,fun h=>by cases h⟩
 | true=>
 have hns:ns.length≤2000:=by omega
 go_wp2_with fail
 refine (hI.out _ hn2).mono ?_
 rintro e w4 ⟨hf4,Aa,ca,rfl,hins⟩
 have hn4:=hn2.then hf4
 have hsz2:=hn2.size
 obtain ⟨is,his⟩:∃ is,is=insP ns:=⟨_,rfl⟩
 rw [← his] at hins hlen hat ⊢
 replace his:=Lib.hid his
 replace hat:=Lib.hid hat
 replace hns:=Lib.hid (⟨hns,hlen⟩:ns.length≤2000∧is.length≤ns.length)
 replace hlen:is.length≤2000:=by have:=hns.out;omega
 have hsz4:=hf4.size
 go_wp2
 go_loopg [16] is.length (fun m c16 wx=>∃ k:Nat,k≤is.length∧c16 = .int .i64 (k:Int)∧Hid (∀ p∈is.take k,knI p=true)∧Fr nope w4 wx∧m=is.length - k)
 case atStart=>exact ⟨0,Nat.zero_le _,rfl,Lib.hid (by simp),Fr.refl _ _,rfl⟩
 case round=>
  obtain ⟨k,hk,rfl,hK,hf,rfl⟩:=hrel
  by_cases hlt:k < is.length
  ·obtain ⟨p,hx⟩:∃ x,is[k]? = some x:=⟨_,List.getElem?_eq_getElem hlt⟩
   obtain ⟨b,off,hBe,hbl,hr⟩:=(Rw.nope hins hf).at_ PI.list_len hx
   subst hBe
   have hpa:=fun W (hW:Fr nope w W)=>(hat.out p (List.mem_of_getElem? hx)).fr hW (fun _ _ x=>x)
   have hT:=Lib.hid (take_snoc hx)
   replace hpa:=Lib.hid hpa
   clear hx
   have hszr:=hf.size
   go_wp2_with (first
    | (refine wpList_load_mid rfl _ _ rfl b (off+k*10) rfl p.cells.toList _ hr Tryz.underlying46 rfl (by kernel_rfl) ?_)
    | (refine wpList_storeRow (b:=wr.heap.size) (cells:=p.cells) rfl rfl rfl rfl (heap_alloc_new _ _) rfl (by kernel_rfl) (by kernel_rfl) ?_;intro w5 hb5 hf5)
    | (refine wpList_loadRow (b:=wr.heap.size) (cells:=p.cells) rfl rfl rfl hb5 Tryz.underlying46 rfl (by kernel_rfl) ?_))
   have hn5:Fr nope wr w5:=((Fr.refl nope wr).alloc _).then_new hf5 (fun x hx e=>by omega)
   have hIK:=InputsKnownK_calls w5 B p (hpa.out _ ((hn4.then hf).then hn5))
   unfold GivesB PI.agg at hIK
   refine hIK.mono ?_
   rintro e w6 ⟨rfl,hf6⟩
   clear hIK
   cases hkn:knI p with
   | false=>
    clear hkn
    go_wp2
    go_ret
    exact ⟨((hn4.then hf).then hn5).then hf6,false,rfl,fun h=>by cases h⟩
   | true=>
    have hK':=Lib.hid (show ∀ q∈is.take (k+1),knI q=true from fun q hq=>by
     rw [hT.out,List.mem_append] at hq
     rcases hq with hq | hq
     ·exact hK.out q hq
     ·rw [List.mem_singleton.1 hq];exact hkn)
    clear hkn
    go_wp2
    go_roundg (is.length - (k+1))
    case measure=>omega
    case rel=>exact ⟨k+1,by omega,by go_num,hK',(hf.then hn5).then hf6,rfl⟩
  ·have hKK:=hK.out
   rw [take_all hlt] at hKK
   replace hKK:=Lib.hid hKK
   go_wp2
   go_ret
   exact ⟨hn4.then hf,true,rfl,fun _=>⟨hns.out.1,by rw [← his.out];exact hKK.out⟩⟩
end
section
open Go Go.RowKit Bth
set_option maxRecDepth 100000
def GrU (ns:List PN) (sc:Nat→List (Option Nat)) (ok:Bool) (n:Nat):Prop:=(ok=true∧GraphP ns sc∧n=(insP ns).length)∨(ok=false∧(∀ sc,¬GraphP ns sc)∧n=0)
theorem grU_ex (ns:List PN):∃ sc ok n,GrU ns sc ok n:=by
 by_cases h:∃ sc,GraphP ns sc
 ·obtain ⟨sc,h⟩:=h
  exact ⟨sc,true,_,.inl ⟨rfl,h,rfl⟩⟩
 ·exact ⟨fun _=>[],false,0,.inr ⟨rfl,fun sc hs=>h ⟨sc,hs⟩,rfl⟩⟩
theorem GrU.congr {ns ns':List PN} {sc:Nat→List (Option Nat)} {ok:Bool} {n:Nat} (h:GrU ns sc ok n) (hG:∀ sc,GraphP ns' sc↔GraphP ns sc) (hl:(insP ns').length=(insP ns).length):GrU ns' sc ok n:=by
 rcases h with ⟨h1,h2,h3⟩ | ⟨h1,h2,h3⟩
 ·exact .inl ⟨h1,(hG sc).2 h2,by rw [h3,hl]⟩
 ·exact .inr ⟨h1,fun sc hs=>h2 sc ((hG sc).1 hs),h3⟩
theorem GrU.small {ns:List PN} {sc:Nat→List (Option Nat)} {ok:Bool} {n:Nat} (h:GrU ns sc ok n) (hn:ns.length≤1048576):n≤1048576:=by
 rcases h with ⟨_,_,h3⟩ | ⟨_,_,h3⟩
 ·have:(insP ns).length≤ns.length:=by unfold insP;rw [List.length_map];exact List.length_filter_le _ _
  omega
 ·omega
theorem SuccAt.none (w:World) (sc:Nat→List (Option Nat)):SuccAt w none 0 sc:=⟨[],Rw.nil _ _ _,fun k hk=>absurd hk (by omega)⟩
theorem SuccAt.congr0 {w:World} {A:Option Addr} {n:Nat} {sc sc':Nat→List (Option Nat)} (h:SuccAt w A n sc') (e:∀ k,k < n→sc k=sc' k):SuccAt w A n sc:=by
 obtain ⟨vs,h1,h2⟩:=h
 exact ⟨vs,h1,fun k hk=>by rw [e k hk];exact h2 k hk⟩
def pdM (sc:Nat→List (Option Nat)) (n k:Nat):List (Option Nat):=(pdI sc n k).map some
theorem pdM_congr {sc sc':Nat→List (Option Nat)} {n:Nat} (e:∀ k,k < n→sc k=sc' k) (k:Nat):pdM sc n k=pdM sc' n k:=by
 unfold pdM
 congr 1
 unfold pdI
 refine map_flat rfl fun j x y h1 h2=>?_
 rw [h1] at h2
 injection h2 with h2
 subst h2
 rw [e x (List.mem_range.1 (List.mem_of_getElem? h1))]
theorem GrU.short {ns:List PN} {sc:Nat→List (Option Nat)} {ok:Bool} {n:Nat} (h:GrU ns sc ok n) (hn:ns.length≤1048576):(∀ k,k < n→(sc k).length≤1073741824)∧∀ k,k < n→(pdM sc n k).length≤1073741824:=by
 have hs:=h.small hn
 rcases h with ⟨_,h2,rfl⟩ | ⟨_,_,h3⟩
 ·obtain ⟨_,hL2⟩:=h2.lt
  refine ⟨fun k hk=>Nat.le_trans (hL2 k hk) (by decide),fun k hk=>?_⟩
  unfold pdM
  rw [List.length_map]
  have:=pdI_len (n:=(insP ns).length) (k:=k) hL2
  omega
 ·subst h3
  exact ⟨fun k hk=>absurd hk (by omega),fun k hk=>absurd hk (by omega)⟩
def GivesFlU (w:World) (sc:Nat→List (Option Nat)) (ok:Bool) (n:Nat) (e:Ending) (w':World):Prop:=Fr nope w w'∧∃ A c D d,e = .returned (.tuple #[.slice A n c,.slice D n d,.bool ok])∧SuccAt w' A n sc∧SuccAt w' D n (pdM sc n)
theorem ImFlowU_calls (w:World) (s:SV) (ns:List PN) (hN:NodesAt w w.heap.size s ns) (hok0:ns.all okN=true) {sc:Nat→List (Option Nat)} {ok:Bool} {n:Nat} (h:GrU ns sc ok n):Calls Tryz.prog 9 #[.slice s.A s.n s.c] w (GivesFlU w sc ok n):=by
 refine (ImFlow_calls w s ns hN hok0).mono ?_
 rintro e w' ⟨hf,⟨A,c,D,d,sc',rfl,hG,h1,h2⟩ | ⟨rfl,hno⟩⟩
 ·rcases h with ⟨rfl,hg,rfl⟩ | ⟨_,hno,_⟩
  ·have e:=hg.uniq hG
   refine ⟨hf,A,c,D,d,rfl,h1.congr0 e,h2.congr0 fun k _=>?_⟩
   exact pdM_congr e k
  ·exact absurd hG (hno sc')
 ·rcases h with ⟨_,hg,_⟩ | ⟨rfl,_,rfl⟩
  ·exact absurd hg (hno sc)
  ·exact ⟨hf,none,0,none,0,rfl,SuccAt.none _ _,SuccAt.none _ _⟩
def GivesFGU (w:World) (ok:Bool) (e:Ending) (w':World):Prop:=Fr nope w w'∧∃ x y,e = .returned (.tuple #[x,y,.bool ok])
theorem FlowGraphU_calls (w:World) (B:Nat) (s:SV) (ns:List PN) (hN:NodesAt w B s ns) (hok:ns.all okN=true) {sc:Nat→List (Option Nat)} {ok:Bool} {n:Nat} (h:GrU ns sc ok n):Calls Tryz.prog 10 #[s.val] w (GivesFGU w ok):=by
 refine (FlowGraph_calls w B s ns hN hok).mono ?_
 rintro e w' ⟨hf,⟨A,c,D,d,sc',rfl,hG,h1⟩ | ⟨rfl,hno⟩⟩
 ·rcases h with ⟨rfl,hg,rfl⟩ | ⟨_,hno,_⟩
  ·exact ⟨hf,_,_,rfl⟩
  ·exact absurd hG (hno sc')
 ·rcases h with ⟨_,hg,_⟩ | ⟨rfl,_,rfl⟩
  ·exact absurd hg (hno sc)
  ·exact ⟨hf,_,_,rfl⟩
def LvU (ns:List PN) (sc:Nat→List (Option Nat)) (ok:Bool) (l1 l2:List TL):Prop:=(ok=true∧LvT (LiveInP (insP ns) sc) (insP ns).length l1∧LvT (LiveOutP (insP ns) sc) (insP ns).length l2)∨(ok=false∧l1=[]∧l2=[])
theorem LvU.tidy {ns:List PN} {sc:Nat→List (Option Nat)} {ok:Bool} {l1 l2:List TL} (h:LvU ns sc ok l1 l2):(∀ s∈l1,Tidy s)∧∀ s∈l2,Tidy s:=by
 rcases h with ⟨_,h1,h2⟩ | ⟨_,rfl,rfl⟩
 ·exact ⟨fun s hs=>by obtain ⟨k,hk⟩:=List.mem_iff_getElem?.1 hs;exact (h1.2 k s hk).1,fun s hs=>by obtain ⟨k,hk⟩:=List.mem_iff_getElem?.1 hs;exact (h2.2 k s hk).1⟩
 ·exact ⟨fun s hs=>(List.not_mem_nil hs).elim,fun s hs=>(List.not_mem_nil hs).elim⟩
theorem LvU.len {ns:List PN} {sc:Nat→List (Option Nat)} {ok:Bool} {l1 l2:List TL} (h:LvU ns sc ok l1 l2) (hn:ns.length≤1048576):l1.length≤1048576∧l2.length≤1048576:=by
 have:(insP ns).length≤ns.length:=by unfold insP;rw [List.length_map];exact List.length_filter_le _ _
 rcases h with ⟨_,h1,h2⟩ | ⟨_,rfl,rfl⟩
 ·exact ⟨by rw [h1.1];omega,by rw [h2.1];omega⟩
 ·exact ⟨Nat.zero_le _,Nat.zero_le _⟩
theorem LvU.uniq {ns ns':List PN} (hr:RegL (insP ns) (insP ns')) {sc:Nat→List (Option Nat)} {ok:Bool} {l1 l2 l1' l2':List TL} (h:LvU ns sc ok l1 l2) (h':LvU ns' sc ok l1' l2'):l1'=l1∧l2'=l2:=by
 rcases h with ⟨rfl,h1,h2⟩ | ⟨rfl,rfl,rfl⟩
 ·rcases h' with ⟨_,h1',h2'⟩ | ⟨h0,_,_⟩
  ·rw [hr.in_,hr.1] at h1'
   rw [hr.out,hr.1] at h2'
   exact ⟨h1'.uniq h1 fun _ _ _=>Iff.rfl,h2'.uniq h2 fun _ _ _=>Iff.rfl⟩
  ·cases h0
 ·rcases h' with ⟨h0,_,_⟩ | ⟨_,rfl,rfl⟩
  ·cases h0
  ·exact ⟨rfl,rfl⟩
theorem LvT.congr {L L':Nat→Nat→Nat→Prop} {n:Nat} {l:List TL} (h:LvT L n l) (e:L'=L):LvT L' n l:=by rw [e];exact h
theorem TlsAt.none (w:World):TlsAt w none []:=⟨[],Rw.nil _ _ _,rfl,fun k s l h=>by simp at h⟩
def GivesILU (w:World) (ns:List PN) (sc:Nat→List (Option Nat)) (ok:Bool) (e:Ending) (w':World):Prop:=Fr nope w w'∧∃ A c D d l1 l2,e = .returned (.tuple #[.slice A l1.length c,.slice D l2.length d,.bool ok])∧TlsAt w' A l1∧TlsAt w' D l2∧LvU ns sc ok l1 l2
theorem ImLiveU_calls (w:World) (s:SV) (ns:List PN) (hN:NodesAt w w.heap.size s ns) (hl:LvOk ns) {sc:Nat→List (Option Nat)} {ok:Bool} {n:Nat} (h:GrU ns sc ok n):Calls Tryz.prog 20 #[.slice s.A s.n s.c] w (GivesILU w ns sc ok):=by
 refine (ImLive_calls w s ns hN hl).mono ?_
 rintro e w' ⟨hf,⟨A,c,D,d,l1,l2,sc',rfl,hG,h1,h2,h3,h4⟩ | ⟨rfl,hno⟩⟩
 ·rcases h with ⟨rfl,hg,rfl⟩ | ⟨_,hno,_⟩
  ·have e:=hg.uniq hG
   refine ⟨hf,A,c,D,d,l1,l2,by rw [h3.1,h4.1],h1,h2,.inl ⟨rfl,h3.congr (LiveInP.congr e),h4.congr (LiveOutP.congr e)⟩⟩
  ·exact absurd hG (hno sc')
 ·rcases h with ⟨_,hg,_⟩ | ⟨rfl,_,rfl⟩
  ·exact absurd hg (hno sc)
  ·exact ⟨hf,none,0,none,0,[],[],rfl,TlsAt.none _,TlsAt.none _,.inr ⟨rfl,rfl,rfl⟩⟩
def AlU (ns:List PN) (ok:Bool) (l:List (Nat × Nat)):Prop:=(ok=true∧∃ f,AFRes ns (some f)∧PairsOf f l)∨(ok=false∧AFRes ns none∧l=[])
theorem AlU.uniq {ns:List PN} {ok ok':Bool} {l l':List (Nat × Nat)} (h:AlU ns ok l) (h':AlU ns ok' l'):ok'=ok∧l'=l:=by
 rcases h with ⟨rfl,f,h1,h2⟩ | ⟨rfl,h1,rfl⟩
 ·rcases h' with ⟨rfl,f',h1',h2'⟩ | ⟨rfl,h1',rfl⟩
  ·have:=h1.uniq h1'
   injection this with this
   subst this
   exact ⟨rfl,h2'.uniq h2⟩
  ·cases h1.uniq h1'
 ·rcases h' with ⟨rfl,f',h1',h2'⟩ | ⟨rfl,h1',rfl⟩
  ·cases h1.uniq h1'
  ·exact ⟨rfl,rfl⟩
theorem AlU.regs {ns ns':List PN} (h:RegL (insP ns) (insP ns')) (hG:∀ sc,GraphP ns' sc↔GraphP ns sc) {ok:Bool} {l:List (Nat × Nat)} (ha:AlU ns' ok l):AlU ns ok l:=by
 have hG':=fun sc=>(hG sc).symm
 rcases ha with ⟨rfl,f,h1,h2⟩ | ⟨rfl,h1,rfl⟩
 ·exact .inl ⟨rfl,f,h1.regs h.symm hG',h2⟩
 ·exact .inr ⟨rfl,h1.regs h.symm hG',rfl⟩
def GivesAFU (w:World) (ns:List PN) (e:Ending) (w':World):Prop:=Fr nope w w'∧∃ A c l ok,e = .returned (.tuple #[.slice A l.length c,.bool ok])∧AlU ns ok l∧l.length≤1000000000∧PairsAt w' A l
theorem AllocFnU_calls (w:World) (s:SV) (ns:List PN) (hN:NodesAt w w.heap.size s ns) (h:AFOk ns):Calls Tryz.prog 16 #[.slice s.A s.n s.c] w (GivesAFU w ns):=by
 refine (AllocFn_calls w s ns hN h).mono ?_
 rintro e w' ⟨hf,⟨h1,rfl⟩ | ⟨f,A,c,l,h1,h2,h3,rfl,h4⟩⟩
 ·exact ⟨hf,none,0,[],false,rfl,.inr ⟨rfl,h1,rfl⟩,Nat.zero_le _,fun h=>by simp at h⟩
 ·exact ⟨hf,A,c,l,true,rfl,.inl ⟨rfl,f,h1,h2⟩,h3,PairsAt.of h4⟩
end
end Go.Proofs.YtbgblfiapecioaaGreat
