/- Part of the proof of a statement about pub-berthage: what its texts have in common. -/
import Derived.BigQuiet
import Derived.Deep.RegionHeld3
import Derived.RegionTactic
import Derived.Test.YtpbeedabmjmdmaaGreatDoorP21
import Derived.Test.YtpbeedabmjmdmaaGreatDoorP23
import Derived.Test.YtpbeedabmjmdmaaGreatDoorP24
import Derived.Test.YtpbeedabmjmdmaaGreatDoorP28
import Derived.Test.YtpbeedabmjmdmaaGreatDoorP29
import Derived.Test.YtpbeedabmjmdmaaGreatDoorP31
namespace Go.Proofs.YtpbeedabmjmdmaaGreatDoor
section
open Go Go.RowKit Bth
set_option maxRecDepth 100000
theorem PO.gs_len (p:PO):p.gs.length≤2:=by
 unfold PO.gs
 split
 ·simp
 ·split
  ·cases p.hasBase<;>cases p.hasIndex<;>simp
  ·simp
theorem gsOf_take {ps:List PO} {k:Nat} {p:PO} (h:ps[k]? = some p):gsOf (ps.take (k+1))=gsOf (ps.take k) ++ p.gs:=by
 unfold gsOf
 rw [take_snoc h,List.flatMap_append]
 simp
theorem gsCells_app (a b:List G):gsCells (a ++ b)=gsCells a ++ gsCells b:=List.flatMap_append
theorem gsCells_len (a:List G):(gsCells a).length=a.length*4:=flat_len G.cells_len a
theorem gsCells_one (a:List G):∀ u∈gsCells a,u.oneCell'=true:=by
 intro u hu
 obtain ⟨g,_,hg⟩:=List.mem_flatMap.1 hu
 simp only [G.cells,List.mem_cons,List.not_mem_nil,or_false] at hg
 rcases hg with rfl | rfl | rfl | rfl<;>rfl
theorem irRegisters_calls (w:World) (s:SV) (ps:List PO) (h:POsAt w s ps) (hok:ps.all okP=true) (hl:ps.length≤1048576):Calls Tryz.prog 69 #[s.val] w (GivesGs w (gsOf ps)):=by
 obtain ⟨A,n,c⟩:=s
 have hps:=h
 obtain ⟨rfl,_⟩:n=ps.length∧_:=h
 simp only [SV.val]
 go_enter Tryz.func69,Tryz.ntmps69
 go_wp2
 go_loopg [3,8] ps.length (fun n c3 c8 wr=>∃ (k:Nat) (A2:Option Addr) (c2:Nat) (gs:List G),k≤ps.length∧Hid (gs=gsOf (ps.take k))∧gs.length≤2*k∧c8 = .int .i64 (k:Int)∧c3 = .slice A2 gs.length c2∧wr.ownsRow w.heap.size 40 4 (.slice A2 gs.length c2) gs.length (gsCells gs)∧Fr nope w wr∧n=ps.length - k)
 case atStart=>exact ⟨0,none,0,[],Nat.zero_le _,Lib.hid rfl,Nat.le_refl _,rfl,rfl,own_nil _ _ _ _,Fr.refl _ _,rfl⟩
 case round=>
  obtain ⟨k,A2,c2,gs,hk,hgs,hgl,rfl,rfl,hown,hf,rfl⟩:=hrel
  have hsz:=hf.size
  by_cases hlt:k < ps.length
  ·obtain ⟨b,off,hAe,hbl,hc⟩:=(hps.nope hf).2 (by omega)
   simp only at hAe
   subst hAe
   obtain ⟨p,hpk⟩:∃ p,ps[k]? = some p:=⟨_,List.getElem?_eq_getElem hlt⟩
   have hc:=hc k p hpk
   have hT:=Lib.hid (gsOf_take hpk)
   have hokp:okP p=true:=List.all_eq_true.1 hok p (List.mem_of_getElem? hpk)
   have hpl:=p.gs_len
   have hbo:=own_base hown
   clear hpk hps
   go_wp2_with (first
    | (refine wpList_load_mid rfl _ _ rfl b (off+k*24) rfl p.cells.toList _ hc Tryz.underlying45 rfl (by kernel_rfl) ?_)
    | (refine wpList_storeRow (b:=wr.heap.size) (cells:=p.cells) rfl rfl rfl rfl (heap_alloc_new _ _) rfl (by kernel_rfl) (by kernel_rfl) ?_;intro w2 hb2 hf2)
    | (refine wpList_loadRow (b:=wr.heap.size) (cells:=p.cells) rfl rfl rfl hb2 Tryz.underlying45 rfl (by kernel_rfl) ?_))
   have hn2:Fr nope wr w2:=((Fr.refl nope wr).alloc _).then_new hf2 (fun x hx e=>by omega)
   refine (opRegisters_calls w2 p hokp).mono ?_
   rintro e w3 ⟨hf3,A3,c3,rfl,hown3⟩
   have hn3:=hn2.then hf3
   have hsz3:=hn3.size
   have hsrc:=(Rw.of_own hown3).src
   go_wp2_with (refine wpList_app (v:=.slice A2 gs.length c2) rfl rfl Tryz.underlying46 infoRg rfl (by omega) rfl (own_fr hown hn3 (fun _ _ x=>x)) rfl (news:=gsCells p.gs) ?ha hsrc (gsCells_one _) ?hd ?he ?hf ?hk)
   case ha=>exact gsCells_len _
   case hd=>simp only [maxLen];omega
   case he=>omega
   case hf=>omega
   case hk=>
    intro v4 w4 hown4 hf4 hb4
    obtain ⟨A4,c4,rfl,_,_⟩:=own_slice hown4
    clear hb4
    go_wp2
    go_roundg (ps.length - (k+1))
    case measure=>omega
    case rel=>exact ⟨k+1,A4,c4,gs ++ p.gs,by omega,Lib.hid (by rw [hT.out,← hgs.out]),by rw [List.length_append];omega,by go_num,by rw [List.length_append],by rw [List.length_append,gsCells_app];exact hown4,(hf.then hn3).then_new hf4 (fun x hx e=>by have:=hbo x e;omega),rfl⟩
  ·rw [take_all hlt] at hgs
   obtain rfl:=hgs.out
   go_wp2
   go_ret
   exact ⟨hf,A2,c2,rfl,hown⟩
theorem outGs_take {ps:List PO} {k:Nat} {p:PO} (h:ps[k]? = some p):outGs (ps.take (k+1))=outGs (ps.take k) ++ (if p.kind=1 then [p.reg] else []):=by
 unfold outGs
 rw [take_snoc h,List.filterMap_append]
 by_cases e:p.kind=1<;>simp [PO.asG,e]
def GivesGs2 (w:World) (gs:List G) (e:Ending) (w':World):Prop:=Fr nope w w'∧∃ A c,e = .returned (.tuple #[.slice A gs.length c,.bool true])∧w'.ownsRow w.heap.size 40 4 (.slice A gs.length c) gs.length (gsCells gs)
end
section
open Go Go.RowKit Bth
set_option maxRecDepth 100000
def memGs (ps:List PO):List G:=gsOf (ps.filter fun p=>p.kind == 2)
theorem memGs_take {ps:List PO} {k:Nat} {p:PO} (h:ps[k]? = some p):memGs (ps.take (k+1))=memGs (ps.take k) ++ (if p.kind=2 then p.gs else []):=by
 unfold memGs gsOf
 rw [take_snoc h,List.filter_append,List.flatMap_append]
 by_cases e:p.kind=2<;>simp [e]
theorem eqlG (w:World) (g g':G):(binOp .eql 40 (.agg #[.bool g.virt,.int .u8 (g.kind:Int),.int .u16 (g.idx:Int),.int .u16 (g.spec:Int)]) (.agg #[.bool g'.virt,.int .u8 (g'.kind:Int),.int .u16 (g'.idx:Int),.int .u16 (g'.spec:Int)])).run Tryz.prog w = .ok (.bool (decide (g=g'))) w:=by
 obtain ⟨v,k,i,s⟩:=g
 obtain ⟨v',k',i',s'⟩:=g'
 simp only
 have h:(Op.equalIn 10000 40 (.agg #[.bool v,.int .u8 (k:Int),.int .u16 (i:Int),.int .u16 (s:Int)]) (.agg #[.bool v',.int .u8 (k':Int),.int .u16 (i':Int),.int .u16 (s':Int)])).run Tryz.prog w = .ok (v == v' && ((k:Int) == k' && ((i:Int) == i' && (s:Int) == s'))) w:=by
  go_simp
  by_cases h1:v=v'<;>by_cases h2:(k:Int)=k'<;>by_cases h3:(i:Int)=i'<;>by_cases h4:(s:Int)=s'<;>simp [h1,h2,h3,h4]
 have e:(v == v' && ((k:Int) == k' && ((i:Int) == i' && (s:Int) == s')))=decide ((⟨v,k,i,s⟩:G)=⟨v',k',i',s'⟩):=by
  rw [Bool.eq_iff_iff]
  simp
  omega
 rw [e] at h
 simp only [binOp]
 simp [Op.equal,Op.maxDepth,h]
theorem inGs_f (i o:List PO):inGs false i o=gsOf i ++ memGs o:=by
 unfold inGs memGs
 generalize gsOf i=l
 rcases l with _ | ⟨a,_ | ⟨b,l⟩⟩<;>rfl
def canc2:List G→List G
 | g :: g' :: l=>if g=g' then [] else g :: g' :: l
 | l=>l
theorem inGs_t (i o:List PO) (l:List G) (h:gsOf i=l):inGs true i o=canc2 l ++ memGs o:=by
 subst h
 unfold inGs memGs
 generalize gsOf i=l
 rcases l with _ | ⟨a,_ | ⟨b,l⟩⟩<;>rfl
end
section
open Go Go.RowKit Bth
set_option maxRecDepth 100000
def tlV (x:Nat × Nat):List Value:=[.int .u32 (x.1:Int),.int .u16 (x.2:Int)]
def tlCells (s:TL):List Value:=s.flatMap tlV
theorem tlV_len (x:Nat × Nat):(tlV x).length=2:=rfl
theorem tlCells_app (a b:TL):tlCells (a ++ b)=tlCells a ++ tlCells b:=List.flatMap_append
theorem Tidy.len {s:TL} (h:Tidy s):s.length≤4294967296:=by
 have key:∀ {s:TL},Tidy s→∀ lo,(∀ x∈s,lo≤x.1)→s.length≤4294967296 - lo:=by
  intro s h
  induction h with
  | nil=>intro lo _;simp
  | @cons x t _ h1 _ _ h4 ih=>
   intro lo hlo
   have:=hlo x (by simp)
   have:=ih (x.1+1) (fun y hy=>h1 y hy)
   rw [List.length_cons]
   omega
 have:=key h 0 (fun _ _=>Nat.zero_le _)
 omega
theorem mIns_skip {id m:Nat} : ∀ {a b:TL},(∀ x∈a,x.1 < id)→mIns id m (a ++ b)=a ++ mIns id m b:=by
 intro a
 induction a with
 | nil=>intro b _;rfl
 | cons x a ih=>
  intro b h
  rw [List.cons_append,mIns,if_pos (h x (by simp)),ih fun y hy=>h y (by simp [hy])]
  rfl
theorem drop_cons {α : Type} {l:List α} {k:Nat} {x:α} (h:l[k]? = some x):l.drop k=x :: l.drop (k+1):=by
 obtain ⟨hl,e⟩:=List.getElem?_eq_some_iff.1 h
 rw [← e]
 exact List.drop_eq_getElem_cons hl
def AddIt (s:TL) (id m k:Nat) (done:Bool) (out:TL):Prop:=if done then out ++ s.drop k=mIns id m s else out=s.take k∧∀ x∈s.take k,x.1 < id
end
section
open Go Go.RowKit Bth
set_option maxRecDepth 100000
theorem mDis_take {s:TL} {k:Nat} {x:Nat × Nat} (id m:Nat) (h:s[k]? = some x):mDis (s.take (k+1)) id m=mDis (s.take k) id m ++ (if (mDis1 id m x).2=0 then [] else [mDis1 id m x]):=by
 unfold mDis
 rw [take_snoc h,List.map_append,List.filter_append]
 by_cases e:(mDis1 id m x).2=0<;>simp [e]
end
section
open Go Go.RowKit Bth
set_option maxRecDepth 100000
theorem mUnion_take {s t:TL} {k:Nat} {x:Nat × Nat} (h:t[k]? = some x):mUnion s (t.take (k+1))=mAdd (mUnion s (t.take k)) x.1 x.2:=by
 unfold mUnion
 rw [take_snoc h,List.foldl_append]
 rfl
theorem mMinus_take {s t:TL} {k:Nat} {x:Nat × Nat} (h:t[k]? = some x):mMinus s (t.take (k+1))=mDis (mMinus s (t.take k)) x.1 x.2:=by
 unfold mMinus
 rw [take_snoc h,List.foldl_append]
 rfl
end
section
open Go Go.RowKit Bth
set_option maxRecDepth 100000
theorem tlOf_take {gs:List G} {k:Nat} {g:G} (h:gs[k]? = some g):tlOf (gs.take (k+1))=mAdd (tlOf (gs.take k)) g.id g.spec:=by
 unfold tlOf
 rw [take_snoc h,List.foldl_append]
 rfl
end
section
open Go Go.RowKit Bth
set_option maxRecDepth 100000
def rdT (p:PI):TL:=tlOf (inGs p.canc p.inp p.out)
def wrT (p:PI):TL:=tlOf (outGs p.out)
theorem okP_gs {p:PO} (h:okP p=true):∀ g∈p.gs,okG g=true:=by
 intro g hg
 unfold PO.gs at hg
 unfold okP at h
 split at hg
 ·rename_i h1
  rw [if_pos h1] at h
  obtain rfl:g=p.reg:=by simpa using hg
  exact h
 ·rename_i h1
  rw [if_neg h1] at h
  split at hg
  ·rename_i h2
   rw [if_pos h2] at h
   unfold okM at h
   simp only [Bool.and_eq_true,Bool.or_eq_true,Bool.not_eq_true'] at h
   rcases List.mem_append.1 hg with hg | hg
   ·split at hg
    ·rename_i hb
     obtain rfl:g=p.base:=by simpa using hg
     rcases h.1 with h | h
     ·rw [hb] at h;cases h
     ·exact h
    ·cases hg
   ·split at hg
    ·rename_i hb
     obtain rfl:g=p.index:=by simpa using hg
     rcases h.2 with h | h
     ·rw [hb] at h;cases h
     ·exact h
    ·cases hg
  ·cases hg
theorem gsOf_okG {ps:List PO} (h:ps.all okP=true):∀ g∈gsOf ps,okG g=true:=by
 intro g hg
 obtain ⟨p,hp,hg⟩:=List.mem_flatMap.1 hg
 exact okP_gs (List.all_eq_true.1 h p hp) g hg
theorem outGs_sub {ps:List PO} : ∀ g∈outGs ps,g∈gsOf ps:=by
 intro g hg
 obtain ⟨p,hp,e⟩:=List.mem_filterMap.1 hg
 refine List.mem_flatMap.2 ⟨p,hp,?_⟩
 unfold PO.asG at e
 unfold PO.gs
 split at e
 ·rename_i h1
  rw [if_pos h1]
  injection e with e
  rw [← e];simp
 ·cases e
theorem inGs_sub {c:Bool} {is os:List PO} : ∀ g∈inGs c is os,g∈gsOf is∨g∈gsOf os:=by
 intro g hg
 have hmem:∀ g∈memGs os,g∈gsOf os:=fun g hg=>by
  obtain ⟨p,hp,hg⟩:=List.mem_flatMap.1 hg
  exact List.mem_flatMap.2 ⟨p,(List.mem_filter.1 hp).1,hg⟩
 cases c with
 | false=>
  rw [inGs_f] at hg
  rcases List.mem_append.1 hg with h | h
  ·exact .inl h
  ·exact .inr (hmem g h)
 | true=>
  rw [inGs_t _ _ _ rfl] at hg
  rcases List.mem_append.1 hg with h | h
  ·left
   generalize gsOf is=l at h ⊢
   rcases l with _ | ⟨a,_ | ⟨b,l⟩⟩
   ·exact h
   ·exact h
   ·simp only [canc2] at h
    split at h
    ·cases h
    ·exact h
  ·exact .inr (hmem g h)
theorem gsOf_le (l:List PO):(gsOf l).length≤2*l.length:=by
 induction l with
 | nil=>simp [gsOf]
 | cons q l ih=>
  have e:gsOf (q :: l)=q.gs ++ gsOf l:=rfl
  have:=q.gs_len
  rw [e,List.length_append,List.length_cons];omega
theorem outGs_le (l:List PO):(outGs l).length≤l.length:=List.length_filterMap_le _ _
theorem inGs_le (c:Bool) (is os:List PO):(inGs c is os).length≤2*is.length+2*os.length:=by
 have hm:(memGs os).length≤2*os.length:=by
  have h1:=gsOf_le (os.filter fun p=>p.kind == 2)
  have h2:(os.filter fun p=>p.kind == 2).length≤os.length:=List.length_filter_le _ _
  unfold memGs
  omega
 have hi:=gsOf_le is
 cases c with
 | false=>rw [inGs_f,List.length_append];omega
 | true=>
  rw [inGs_t _ _ _ rfl,List.length_append]
  have:(canc2 (gsOf is)).length≤(gsOf is).length:=by
   generalize gsOf is=l
   rcases l with _ | ⟨a,_ | ⟨b,l⟩⟩
   ·simp [canc2]
   ·simp [canc2]
   ·simp only [canc2];split<;>simp
  omega
theorem PI.At.okGs {w:World} {B:Nat} {p:PI} (h:p.At w B) (hok:okI p=true):(∀ g∈inGs p.canc p.inp p.out,okG g=true∧g.Ok)∧(∀ g∈outGs p.out,okG g=true∧g.Ok):=by
 unfold okI at hok
 simp only [Bool.and_eq_true] at hok
 have ki:∀ g∈gsOf p.inp,okG g=true∧g.Ok:=fun g hg=>⟨gsOf_okG hok.1.2 g hg,gsOf_ok h.ok.2.1 g hg⟩
 have ko:∀ g∈gsOf p.out,okG g=true∧g.Ok:=fun g hg=>⟨gsOf_okG hok.2 g hg,gsOf_ok h.ok.2.2 g hg⟩
 exact ⟨fun g hg=>(inGs_sub g hg).elim (ki g) (ko g),fun g hg=>ko g (outGs_sub g hg)⟩
end
section
open Go Go.RowKit Bth
set_option maxRecDepth 100000
def oV:Option Nat→Value
 | none=>.int .i64 (-1)
 | some s=>.int .i64 (s:Int)
def SuccAt (w:World) (A:Option Addr) (n:Nat) (sc:Nat→List (Option Nat)):Prop:=∃ vs,Rw w 98 1 A n vs∧∀ k,k < n→∃ A' c,vs[k]? = some (.slice A' (sc k).length c)∧Rw w 3 1 A' (sc k).length ((sc k).map oV)
theorem SuccAt.nope {w w':World} {A:Option Addr} {n:Nat} {sc:Nat→List (Option Nat)} (h:SuccAt w A n sc) (hf:Fr nope w w'):SuccAt w' A n sc:=by
 obtain ⟨vs,h1,h2⟩:=h
 refine ⟨vs,h1.nope hf,fun k hk=>?_⟩
 obtain ⟨A',c,h3,h4⟩:=h2 k hk
 exact ⟨A',c,h3,h4.nope hf⟩
theorem SuccAt.at_ {w:World} {A:Option Addr} {n:Nat} {sc:Nat→List (Option Nat)} (h:SuccAt w A n sc) {k:Nat} (hk:k < n):∃ b off A' c,A=some ⟨b,off,none⟩∧b < w.heap.size∧w.cell? ⟨b,off+k,none⟩=some (.slice A' (sc k).length c)∧Rw w 3 1 A' (sc k).length ((sc k).map oV):=by
 obtain ⟨vs,h1,h2⟩:=h
 obtain ⟨b,off,cs,fr,e,hb,hc⟩:=h1.row (by omega)
 obtain ⟨A',c,h3,h4⟩:=h2 k hk
 exact ⟨b,off,A',c,e,lt_of_heap hb,hc k _ h3,h4⟩
theorem Rw.one {w:World} {e:TypeId} {A:Option Addr} {n:Nat} {xs:List Value} (h:Rw w e 1 A n xs) {k:Nat} {v:Value} (hv:xs[k]? = some v):∃ b off,A=some ⟨b,off,none⟩∧b < w.heap.size∧w.cell? ⟨b,off+k,none⟩=some v:=by
 have hl:=(List.getElem?_eq_some_iff.1 hv).1
 have:=h.len
 obtain ⟨b,off,cs,fr,e,hb,hc⟩:=h.row (by omega)
 exact ⟨b,off,e,lt_of_heap hb,hc k v hv⟩
def lvO (I:Nat→TL) (b:TL):Option Nat→TL
 | some s=>mUnion b (I s)
 | none=>b
theorem lvB_take {sc:List (Option Nat)} {I:Nat→TL} {k:Nat} {o:Option Nat} (h:sc[k]? = some o):lvB (sc.take (k+1)) I []=lvO I (lvB (sc.take k) I []) o:=by
 unfold lvB
 rw [take_snoc h,List.foldl_append]
 cases o<;>rfl
theorem range_at {α : Type} {g:Nat → α} {n k:Nat} (h:k < n):((List.range n).map g)[k]? = some (g k):=by simp [h]
def Closed (f:LF) (I O:Nat→TL):Prop:=∀ k,k < f.n→f.B I k=O k∧f.A I k=I k
def Sb (V V':Sets):Prop:=∀ p j,Sub (V p j) (V' p j)
theorem Sb.refl (V:Sets):Sb V V:=fun _ _=>Sub.refl _
theorem Sb.trans {a b c:Sets} (h:Sb a b) (k:Sb b c):Sb a c:=fun p j x i hx=>k p j x i (h p j x i hx)
end
section
open Go Go.RowKit Bth
set_option maxRecDepth 100000
theorem txt_inj {x y:ByteArray} (h:x.toList=y.toList):x=y:=by
 have h1:=beq_toListBytes x y
 rw [h] at h1
 simp at h1
 obtain ⟨a⟩:=x
 obtain ⟨b⟩:=y
 have h2:(a == b)=true:=h1
 rw [eq_of_beq h2]
abbrev TG:=List (ByteArray × Nat)
def tgV (x:ByteArray × Nat):List Value:=[.string x.1,.int .i64 (x.2:Int)]
theorem tgV_len (x:ByteArray × Nat):(tgV x).length=2:=rfl
def tgCells (t:TG):List Value:=t.flatMap tgV
theorem tgCells_app (a b:TG):tgCells (a ++ b)=tgCells a ++ tgCells b:=List.flatMap_append
def TgAt (w:World) (A:Option Addr) (t:TG):Prop:=Rw w 103 2 A t.length (tgCells t)
theorem infoTg:(Tryz.prog.info? 103).map (fun i=>(i.zero,i.size,i.bytes))=some (some (.agg #[.string ⟨#[]⟩,.int .i64 0]),2,24):=by kernel_rfl
theorem drop_cons' {α : Type} {l:List α} {k:Nat} {x:α} (h:l[k]? = some x):l.drop k=x :: l.drop (k+1):=by
 obtain ⟨hl,e⟩:=List.getElem?_eq_some_iff.1 h
 rw [← e]
 exact List.drop_eq_getElem_cons hl
open Classical in
noncomputable def lkT:TG→ByteArray→Option Nat
 | [],_=>none
 | x :: t,s=>if x.1=s then some x.2 else lkT t s
theorem lkT_skip {a b:TG} {s:ByteArray} (h:∀ x∈a,x.1≠s):lkT (a ++ b) s=lkT b s:=by
 induction a with
 | nil=>rfl
 | cons x a ih=>
  rw [List.cons_append,lkT,if_neg (h x (by simp)),ih fun y hy=>h y (by simp [hy])]
def FoundT (t:TG) (s:ByteArray) (z:Int):Prop:=(z = -1∧lkT t s=none)∨∃ (k b:Nat),z=(k:Int)∧t[k]? = some (s,b)∧lkT t s=some b
set_option maxHeartbeats 1000000 in
theorem flowAt_calls (w:World) (A:Option Addr) (c:Nat) (t:TG) (s:ByteArray) (h:TgAt w A t) (hl:t.length≤1073741824):Calls Tryz.prog 41 #[.slice A t.length c,.string s] w fun e w'=>∃ z,e = .returned (.int .i64 z)∧FoundT t s z∧Fr nope w w':=by
 go_enter Tryz.func41,Tryz.ntmps41
 go_wp2
 go_loopg [9] t.length (fun n c9 wr=>∃ k:Nat,k≤t.length∧Hid (∀ x∈t.take k,x.1≠s)∧c9 = .int .i64 (k:Int)∧Fr nope w wr∧n=t.length - k)
 case atStart=>exact ⟨0,Nat.zero_le _,Lib.hid (by simp),rfl,Fr.refl _ _,rfl⟩
 case round=>
  obtain ⟨k,hk,hno,rfl,hf,rfl⟩:=hrel
  by_cases hlt:k < t.length
  ·obtain ⟨⟨x1,x2⟩,hx⟩:∃ x,t[k]? = some x:=⟨_,List.getElem?_eq_getElem hlt⟩
   obtain ⟨b,off,hBe,hbl,hr⟩:=h.at_ tgV_len hx
   subst hBe
   have hc0:wr.cell? ⟨b,off+k*2,none⟩=some (.string x1):=hf.cell (hr 0 _ rfl) (fun x=>x)
   have hc1:wr.cell? ⟨b,off+k*2+1,none⟩=some (.int .i64 (x2:Int)):=hf.cell (hr 1 _ rfl) (fun x=>x)
   have hbl2:b < wr.heap.size:=Nat.lt_of_lt_of_le hbl hf.size
   have hT:=Lib.hid (take_snoc hx)
   have hD:=Lib.hid (drop_cons' hx)
   replace hx:=Lib.hid hx
   clear hr
   cases he:(x1.toList == s.toList) with
   | true=>
    have e:=txt_inj (eq_of_beq he)
    have hfd:FoundT t s (k:Int):=by
     refine .inr ⟨k,x2,rfl,by rw [hx.out,e],?_⟩
     conv=>lhs;rw [← List.take_append_drop k t]
     rw [lkT_skip hno.out,hD.out,lkT,if_pos e]
    replace hfd:=Lib.hid hfd
    clear e
    go_wp2
    go_ret
    exact ⟨_,rfl,hfd.out,hf.alloc _⟩
   | false=>
    have e:x1≠s:=fun e=>by rw [e] at he;simp at he
    have hn:Hid (∀ x∈t.take (k+1),x.1≠s):=Lib.hid (fun x hx'=>by
     rw [hT.out] at hx'
     rcases List.mem_append.1 hx' with h1 | h1
     ·exact hno.out x h1
     ·obtain rfl:x=(x1,x2):=by simpa using h1
      exact e)
    clear e
    go_wp2
    go_roundg (t.length - (k+1))
    case measure=>omega
    case rel=>exact ⟨k+1,by omega,hn,by go_num,hf.alloc _,rfl⟩
  ·rw [take_all hlt] at hno
   have hfd:FoundT t s (-1):=.inl ⟨rfl,by have:=lkT_skip (b:=[]) hno.out;rw [List.append_nil] at this;exact this⟩
   replace hfd:=Lib.hid hfd
   go_wp2
   go_ret
   exact ⟨_,rfl,hfd.out,hf⟩
def GivesTL1 (w:World) (ops:List PO) (e:Ending) (w':World):Prop:=∃ s b,e = .returned (.tuple #[.string s,.bool b])∧(b=true→targetP ops=some s)∧(b=false→targetP ops=none)∧Fr nope w w'
set_option maxHeartbeats 1000000 in
theorem spTargetLabel_calls (w:World) (B:Nat) (p:PI) (h:p.At w B) (hok:okI p=true) (hbr:p.br=true):Calls Tryz.prog 40 #[p.agg] w (GivesTL1 w p.ops):=by
 have hO:=fun W (hW:Fr nope w W)=>InstrOK_calls W B p (h.fr hW (fun _ _ x=>x))
 unfold GivesB at hO
 rw [hok] at hO
 have hps:=h.ops
 have hn:p.opsV.n=p.ops.length:=h.ops.1
 clear h hok
 obtain ⟨opc,⟨A1,n1,c1⟩,suf,⟨A2,n2,c2⟩,ops,⟨A3,n3,c3⟩,inp,⟨A4,n4,c4⟩,ps,term,br,cond,canc,⟨A5,n5,c5⟩,isa⟩:=p
 simp only at hbr hps hn
 subst hbr hn
 simp only [PI.agg,PI.cells,SV.val] at hO ⊢
 replace hO:=Lib.hid hO
 cases ops with
 | nil=>
  simp only [List.length_nil] at hO ⊢
  go_enter Tryz.func40,Tryz.ntmps40
  go_wp2_with (refine wpList_loadRow (b:=w.heap.size) rfl rfl rfl (heap_alloc_new w _) Tryz.underlying38 rfl (by kernel_rfl) ?_)
  refine (hO.out _ ((Fr.refl _ _).alloc _)).mono ?_
  rintro e w1 ⟨rfl,hf1⟩
  have hb1:=hf1.heap (heap_alloc_new w _) (fun x=>x)
  have hc2:=cell_of_row _ _ 2 _ _ (0,0) hb1
  have hc6:=cell_of_row _ _ 6 _ _ (0,0) hb1
  simp only [List.getElem?_toArray,List.getElem?_cons_succ,List.getElem?_cons_zero] at hc2 hc6
  have hn1:Fr nope w w1:=((Fr.refl _ _).alloc _).then hf1
  clear hb1 hO
  go_wp2
  go_ret2
  exact ⟨_,false,rfl,(fun e=>by cases e),fun _=>rfl,hn1⟩
 | cons q ops=>
  obtain ⟨b,off,hA,hbl,hq⟩:=hps.2 (by simp)
  have hq:=hq 0 q rfl
  simp only at hA
  subst hA
  rw [Nat.zero_mul,Nat.add_zero] at hq
  have q0:w.cell? ⟨b,off,none⟩=some (.int .i64 q.kind):=hq 0 _ rfl
  have q22:w.cell? ⟨b,off+22,none⟩=some (.string q.label):=hq 22 _ rfl
  clear hq hps
  obtain ⟨m,hm⟩:∃ m,m=(q :: ops).length:=⟨_,rfl⟩
  have hm0:(0:Int) < (m:Int):=by rw [hm];simp
  have hm1:((m:Int) == 0)=false:=by simp;omega
  have hm2:(0:Nat) < m:=by omega
  rw [← hm] at hO ⊢
  clear hm
  by_cases k4:q.kind=4
  ·have ht:targetP (q :: ops)=some q.label:=by simp [targetP,k4]
   rw [k4] at q0
   replace ht:=Lib.hid ht
   clear k4
   go_enter Tryz.func40,Tryz.ntmps40
   go_wp2_with (refine wpList_loadRow (b:=w.heap.size) rfl rfl rfl (heap_alloc_new w _) Tryz.underlying38 rfl (by kernel_rfl) ?_)
   refine (hO.out _ ((Fr.refl _ _).alloc _)).mono ?_
   rintro e w1 ⟨rfl,hf1⟩
   have hb1:=hf1.heap (heap_alloc_new w _) (fun x=>x)
   have hc2:=cell_of_row _ _ 2 _ _ (0,0) hb1
   have hc6:=cell_of_row _ _ 6 _ _ (0,0) hb1
   simp only [List.getElem?_toArray,List.getElem?_cons_succ,List.getElem?_cons_zero] at hc2 hc6
   have hn1:Fr nope w w1:=((Fr.refl _ _).alloc _).then hf1
   clear hb1 hO
   have q0:=hn1.cell q0 (fun x=>x)
   have q22:=hn1.cell q22 (fun x=>x)
   go_wp2
   go_ret2
   exact ⟨_,true,rfl,fun _=>ht.out,(fun e=>by cases e),hn1⟩
  ·have ht:targetP (q :: ops)=none:=by simp [targetP,k4]
   replace ht:=Lib.hid ht
   have k4':(q.kind == 4)=false:=by simp [k4]
   go_enter Tryz.func40,Tryz.ntmps40
   go_wp2_with (refine wpList_loadRow (b:=w.heap.size) rfl rfl rfl (heap_alloc_new w _) Tryz.underlying38 rfl (by kernel_rfl) ?_)
   refine (hO.out _ ((Fr.refl _ _).alloc _)).mono ?_
   rintro e w1 ⟨rfl,hf1⟩
   have hb1:=hf1.heap (heap_alloc_new w _) (fun x=>x)
   have hc2:=cell_of_row _ _ 2 _ _ (0,0) hb1
   have hc6:=cell_of_row _ _ 6 _ _ (0,0) hb1
   simp only [List.getElem?_toArray,List.getElem?_cons_succ,List.getElem?_cons_zero] at hc2 hc6
   have hn1:Fr nope w w1:=((Fr.refl _ _).alloc _).then hf1
   clear hb1 hO
   have q0:=hn1.cell q0 (fun x=>x)
   go_wp2
   go_ret2
   exact ⟨_,false,rfl,(fun e=>by cases e),fun _=>ht.out,hn1⟩
theorem spUncond_calls (w:World) (B:Nat) (p:PI) (h:p.At w B) (hok:okI p=true):Calls Tryz.prog 42 #[p.agg] w (GivesB w (p.br && !p.cond)):=by
 have hO:=fun W (hW:Fr nope w W)=>InstrOK_calls W B p (h.fr hW (fun _ _ x=>x))
 unfold GivesB at hO
 rw [hok] at hO
 clear h hok
 obtain ⟨opc,⟨A1,n1,c1⟩,suf,⟨A2,n2,c2⟩,ops,⟨A3,n3,c3⟩,inp,⟨A4,n4,c4⟩,ps,term,br,cond,canc,⟨A5,n5,c5⟩,isa⟩:=p
 simp only [PI.agg,PI.cells,SV.val] at hO ⊢
 replace hO:=Lib.hid hO
 cases br with
 | false=>
  go_enter Tryz.func42,Tryz.ntmps42
  go_wp2_with (refine wpList_loadRow (b:=w.heap.size) rfl rfl rfl (heap_alloc_new w _) Tryz.underlying38 rfl (by kernel_rfl) ?_)
  refine (hO.out _ ((Fr.refl _ _).alloc _)).mono ?_
  rintro e w1 ⟨rfl,hf1⟩
  have hb1:=hf1.heap (heap_alloc_new w _) (fun x=>x)
  have hc6:=cell_of_row _ _ 6 _ _ (0,0) hb1
  simp only [List.getElem?_toArray,List.getElem?_cons_succ,List.getElem?_cons_zero] at hc6
  have hn1:Fr nope w w1:=((Fr.refl _ _).alloc _).then hf1
  clear hb1 hO
  go_wp2
  go_ret
  exact ⟨rfl,hn1⟩
 | true=>
  go_enter Tryz.func42,Tryz.ntmps42
  go_wp2_with (refine wpList_loadRow (b:=w.heap.size) rfl rfl rfl (heap_alloc_new w _) Tryz.underlying38 rfl (by kernel_rfl) ?_)
  refine (hO.out _ ((Fr.refl _ _).alloc _)).mono ?_
  rintro e w1 ⟨rfl,hf1⟩
  have hb1:=hf1.heap (heap_alloc_new w _) (fun x=>x)
  have hc6:=cell_of_row _ _ 6 _ _ (0,0) hb1
  have hc7:=cell_of_row _ _ 7 _ _ (0,0) hb1
  simp only [List.getElem?_toArray,List.getElem?_cons_succ,List.getElem?_cons_zero] at hc6 hc7
  have hn1:Fr nope w w1:=((Fr.refl _ _).alloc _).then hf1
  clear hb1 hO
  go_wp2
  go_ret
  exact ⟨by cases cond<;>rfl,hn1⟩
end
section
open Go Go.RowKit Bth
set_option maxRecDepth 100000
def GivesPut (w:World) (t:TG) (x:ByteArray × Nat) (e:Ending) (w':World):Prop:=Fr nope w w'∧∃ k A c,k≤t.length∧t.length+1≤c∧e = .returned (.slice A (t.length+1) c)∧TgAt w' A (t.take k ++ x :: t.drop k)
theorem tg_one (a:TG):∀ u∈tgCells a,u.oneCell'=true:=by
 intro u hu
 obtain ⟨g,_,hg⟩:=List.mem_flatMap.1 hu
 simp only [tgV,List.mem_cons,List.not_mem_nil,or_false] at hg
 rcases hg with rfl | rfl<;>rfl
theorem Rw.take {w:World} {e:TypeId} {A:Option Addr} {n size k:Nat} {xs:List Value} (h:Rw w e size A n xs) (hk:k≤n):Rw w e size A k (xs.take (k*size)):=by
 refine ⟨by rw [List.length_take,h.len,Nat.min_eq_left (Nat.mul_le_mul_right _ hk)],fun hp=>?_⟩
 obtain ⟨b,off,cs,fr,h1,h2,h3⟩:=h.row (by omega)
 refine ⟨b,off,cs,fr,h1,h2,fun j u hu=>h3 j u ?_⟩
 have hj:=(List.getElem?_eq_some_iff.1 hu).1
 rw [List.length_take] at hj
 rw [List.getElem?_take_of_lt (by omega)] at hu
 exact hu
theorem flat_take {α : Type} {f:α → List Value} {size:Nat} (hs:∀ x,(f x).length=size) (l:List α) (k:Nat):(l.take k).flatMap f=(l.flatMap f).take (k*size):=by
 induction l generalizing k with
 | nil=>simp
 | cons x l ih=>
  cases k with
  | zero=>simp
  | succ k=>
   have e:(k+1)*size=(f x).length+k*size:=by rw [hs,Nat.succ_mul];omega
   rw [List.take_succ_cons,List.flatMap_cons,List.flatMap_cons,ih,e,List.take_length_add_append]
theorem flat_drop {α : Type} {f:α → List Value} {size:Nat} (hs:∀ x,(f x).length=size) (l:List α) (k:Nat):(l.drop k).flatMap f=(l.flatMap f).drop (k*size):=by
 induction l generalizing k with
 | nil=>simp
 | cons x l ih=>
  cases k with
  | zero=>simp
  | succ k=>
   have e:(k+1)*size=(f x).length+k*size:=by rw [hs,Nat.succ_mul];omega
   rw [List.drop_succ_cons,List.flatMap_cons,ih,e,List.drop_length_add_append]
noncomputable def fpTail (n:Nat):Code:=seqTail n (Tryz.f70.body.getD .skip)
set_option maxHeartbeats 2000000 in
theorem fp_tail (w0 w:World) (A:Option Addr) (c bb k:Nat) (t:TG) (x1:ByteArray) (x2:Nat) {u1 u2 u4 u6 u7 u8 u9 u10 u11 u12 u13 u14 u15 u16 u17 u18 u19 u20 u21 u22 u23 u24 u25 u26 u27 u28 u29 u30 u31 u32 u33 u34 u35:Value} (hk:k≤t.length) (h:TgAt w A t) (hc:t.length≤c) (hl:t.length≤1073741824) (hf:Fr nope w0 w)
  (hb:w.heap[bb]? = some (.cells #[.string x1,.int .i64 (x2:Int)] 103 (0,0))):
  Code.wp Tryz.prog (fpTail 3) (bodyPost Tryz.prog Tryz.f70 (GivesPut w0 t (x1,x2))) ⟨#[.slice A t.length c,u1,u2,.pointer (some ⟨bb,0,none⟩),u4,.int .i64 (k:Int),u6,u7,u8,u9,u10,u11,u12,u13,u14,u15,u16,u17,u18,u19,u20,u21,u22,u23,u24,u25,u26,u27,u28,u29,u30,u31,u32,u33,u34,u35],[]⟩ w:=by
 have hk0:¬(k:Int) < 0:=by omega
 have hk1:(k:Int)≤(t.length:Int):=by omega
 have hk2:(k:Int)≤(c:Int):=by omega
 have hk3:(t.length:Int)≤(c:Int):=by omega
 have hsz:=hf.size
 have ha:(tgCells (t.take k)).length=k*2:=by
  have:=flat_len tgV_len (t.take k)
  rw [List.length_take,Nat.min_eq_left hk] at this
  exact this
 have hd:(tgCells (t.drop k)).length=(t.length - k)*2:=by
  have:=flat_len tgV_len (t.drop k)
  rw [List.length_drop] at this
  exact this
 have h1:Rw w 103 2 A k (tgCells (t.take k)):=by
  rw [tgCells,flat_take tgV_len]
  exact Rw.take h hk
 have hs1:=h1.src
 replace ha:=Lib.hid ha
 replace hd:=Lib.hid hd
 have hx0:=cell_of_row _ _ 0 _ _ (0,0) hb
 have hx1:=cell_of_row _ _ 1 _ _ (0,0) hb
 simp only [List.getElem?_toArray,List.getElem?_cons_zero,List.getElem?_cons_succ] at hx0 hx1
 conv=>arg 2;whnf
 rcases A with _ | ad
 ·obtain rfl:t=[]:=by
   cases t with
   | nil=>rfl
   | cons y t=>
    obtain ⟨b,off,cs,fr,e,_⟩:=Rw.row h (by simp)
    cases e
  obtain rfl:k=0:=by simpa using hk
  simp only [List.length_nil]
  clear h1 hs1 ha hd h hk
  rcases c with _ | c
  all_goals
   go_wp2_with (first
    | (refine wpList_build1 (l:=tgV (x1,x2)) rfl rfl rfl Tryz.underlying95 infoTg rfl (by omega) (by decide) ?_)
    | refine wpList_app (v:=.slice none 0 0) rfl rfl Tryz.underlying95 infoTg rfl (by omega) rfl (own_nil _ w.heap.size _ _) rfl (news:=tgV (x1,x2)) rfl (fun _=>cells_new _ _ _ _ (by simp)) (by simp [tgV,Value.oneCell']) (by simp [maxLen]) (by simp) (by simp) ?hm)
   case hm=>
    intro v5 w5 hown5 hf5 hb5
    obtain ⟨A5,c5,rfl,hle5,_⟩:=own_slice hown5
    clear hb5
    have hf5w:Fr nope w0 w5:=(hf.alloc _).then (hf5.mono (fun x _ h=>by simp [Value.ownBlock] at h))
    have hsz5:w.heap.size≤w5.heap.size:=by have:=hf5.size;simp at this;omega
    have hbo5:=own_base hown5
    go_wp2_with (refine wpList_app (v:=.slice A5 1 c5) rfl rfl Tryz.underlying95 infoTg rfl (by omega) rfl hown5 (A:=none) (m:=0) rfl (news:=[]) rfl (fun h=>absurd h (by omega)) (by simp) (by simp [maxLen]) (by simp) hsz5 ?hz)
    case hz=>
     intro v6 w6 hown6 hf6 hb6
     obtain ⟨A6,c6,rfl,hle6,_⟩:=own_slice hown6
     clear hb6
     go_wp2
     go_ret
     exact ⟨hf5w.then_new hf6 (fun x hx e=>by have:=hbo5 x e;omega),0,A6,c6,Nat.zero_le _,by simpa using hle6,rfl,Rw.of_own hown6⟩
 ·go_wp2_with (refine wpList_app (v:=.slice none 0 0) rfl rfl Tryz.underlying95 infoTg rfl (by omega) rfl (own_nil _ w.heap.size _ _) rfl (news:=tgCells (t.take k)) ha.out hs1 (tg_one _) ?hd ?he (Nat.le_refl _) ?hk)
  case hd=>simp only [maxLen];omega
  case he=>omega
  case hk=>
   intro v4 w4 hown4 hf4 hb4
   obtain ⟨A4,c4,rfl,_,_⟩:=own_slice hown4
   clear hb4
   try rw [Nat.zero_add] at hown4
   try simp only [Nat.zero_add]
   have hf4:Fr nope w w4:=hf4.mono (fun x _ h=>by simp [Value.ownBlock] at h)
   have hx0:=hf4.cell hx0 (fun x=>x)
   have hx1:=hf4.cell hx1 (fun x=>x)
   have hsz4:=hf4.size
   have hal:=own_fr hown4 ((Fr.refl nope w4).alloc (.cells (tgV (x1,x2)).toArray 103)) (fun _ _ x=>x)
   go_wp2_with (first
    | (refine wpList_build1 (l:=tgV (x1,x2)) rfl rfl rfl Tryz.underlying95 infoTg rfl (by omega) (by decide) ?_)
    | refine wpList_app (v:=.slice A4 k c4) rfl rfl Tryz.underlying95 infoTg rfl (by omega) rfl hal rfl (news:=tgV (x1,x2)) rfl (fun _=>cells_new _ _ _ _ (by simp)) (by simp [tgV,Value.oneCell']) (by simp only [maxLen];omega) (by omega) (by simp;omega) ?hm)
   case hm=>
    intro v5 w5 hown5 hf5 hb5
    obtain ⟨A5,c5,rfl,_,_⟩:=own_slice hown5
    clear hb5
    have hbo:=own_base hown4
    have hf5w:Fr nope w0 w5:=((hf.then hf4).alloc _).then_new hf5 (fun x hx e=>by have:=hbo x e;omega)
    have hsz5:w.heap.size≤w5.heap.size:=by have:=hf5.size;simp at this;omega
    by_cases hkc:k=c
    ·have hlk:t.length - k=0:=by omega
     have hdr:tgCells (t.drop k)=[]:=List.eq_nil_of_length_eq_zero (by rw [hd.out,hlk])
     subst hkc
     replace hdr:=Lib.hid hdr
     clear hs1 h1
     go_wp2_with (refine wpList_app (v:=.slice A5 (k+1) c5) rfl rfl Tryz.underlying95 infoTg rfl (by omega) rfl hown5 (A:=some ad) (m:=0) (c:=0) rfl (news:=[]) rfl (fun h=>absurd h (by omega)) (by simp) (by simp only [maxLen];omega) (by omega) hsz5 ?hz)
     case hz=>
      intro v6 w6 hown6 hf6 hb6
      have hown6:w6.ownsRow w.heap.size 103 2 v6 (k+1) (tgCells (t.take k) ++ tgV (x1,x2)):=hown6
      obtain ⟨A6,c6,rfl,hle6,_⟩:=own_slice hown6
      clear hb6
      have hbo5:=own_base hown5
      have hf6w:Fr nope w0 w6:=hf5w.then_new hf6 (fun x hx e=>by have:=hbo5 x e;omega)
      have hres:TgAt w6 A6 (t.take k ++ (x1,x2) :: t.drop k)∧t.length+1≤c6:=by
       have e1:k+1=t.length+1:=by omega
       have e2:(t.take k ++ (x1,x2) :: t.drop k).length=t.length+1:=by rw [List.length_append,List.length_take,List.length_cons,List.length_drop];omega
       rw [e1] at hown6 hle6
       refine ⟨?_,hle6⟩
       have h6:=Rw.of_own hown6
       rw [TgAt,e2,show tgCells (t.take k ++ (x1,x2) :: t.drop k)=tgCells (t.take k) ++ tgV (x1,x2) ++ tgCells (t.drop k) by rw [tgCells_app,List.append_assoc];rfl]
       rw [hdr.out,List.append_nil]
       first | exact h6 | (rw [List.append_assoc];exact h6)
      have e1:k+1=t.length+1:=by omega
      replace hres:=Lib.hid hres
      replace e1:=Lib.hid e1
      go_wp2
      go_ret
      exact ⟨hf6w,k,A6,c6,hk,hres.out.2,by show Ending.returned (Value.slice A6 _ c6)=_;rw [← e1.out],hres.out.1⟩
    ·have hkc':(k:Int)≠(c:Int):=by omega
     have hkc2:(k:Int) < (c:Int):=by omega
     have hs3:0 < t.length - k→∃ ad',some (ad.add (k*2))=some ad'∧∀ j u,(tgCells (t.drop k))[j]? = some u→w5.cell? (ad'.add j)=some u:=fun hp=>by
      obtain ⟨b,off,cs,fr,e,hb',hcell⟩:=Rw.row h (by omega)
      injection e with e
      subst e
      refine ⟨_,rfl,fun j u hu=>?_⟩
      have e1:(⟨b,off,none⟩:Addr).add (k*2)=⟨b,off+k*2,none⟩:=by unfold Addr.add;split<;>simp_all
      have e2:(⟨b,off+k*2,none⟩:Addr).add j=⟨b,off+k*2+j,none⟩:=by unfold Addr.add;split<;>simp_all
      rw [e1,e2]
      rw [show tgCells (t.drop k)=_ from flat_drop tgV_len t k,List.getElem?_drop] at hu
      have:=hcell _ u hu
      rw [← Nat.add_assoc] at this
      have hwb:b < w.heap.size:=lt_of_heap hb'
      exact ((hf4.then ((Fr.refl nope w4).alloc _)).then_new hf5 (fun x hx e=>by
       have:=hbo x e;omega)).cell this (fun x=>x)
     clear hs1 h1
     go_wp2_with (refine wpList_app (v:=.slice A5 (k+1) c5) rfl rfl Tryz.underlying95 infoTg rfl (by omega) rfl hown5 rfl (news:=tgCells (t.drop k)) hd.out hs3 (tg_one _) (by simp only [maxLen];omega) (by omega) hsz5 ?hz)
     case hz=>
      intro v6 w6 hown6 hf6 hb6
      obtain ⟨A6,c6,rfl,hle6,_⟩:=own_slice hown6
      clear hb6
      have hbo5:=own_base hown5
      have hf6w:Fr nope w0 w6:=hf5w.then_new hf6 (fun x hx e=>by have:=hbo5 x e;omega)
      have hres:TgAt w6 A6 (t.take k ++ (x1,x2) :: t.drop k)∧t.length+1≤c6:=by
       have e1:k+1+(t.length - k)=t.length+1:=by omega
       have e2:(t.take k ++ (x1,x2) :: t.drop k).length=t.length+1:=by rw [List.length_append,List.length_take,List.length_cons,List.length_drop];omega
       rw [e1] at hown6 hle6
       refine ⟨?_,hle6⟩
       have h6:=Rw.of_own hown6
       rw [TgAt,e2,show tgCells (t.take k ++ (x1,x2) :: t.drop k)=tgCells (t.take k) ++ tgV (x1,x2) ++ tgCells (t.drop k) by rw [tgCells_app,List.append_assoc];rfl]
       first | exact h6 | (rw [List.append_assoc];exact h6)
      have e1:k+1+(t.length - k)=t.length+1:=by omega
      replace hres:=Lib.hid hres
      replace e1:=Lib.hid e1
      go_wp2
      go_ret
      exact ⟨hf6w,k,A6,c6,hk,hres.out.2,by show Ending.returned (Value.slice A6 _ c6)=_;rw [← e1.out],hres.out.1⟩
set_option maxHeartbeats 2000000 in
theorem flowPut_calls (w:World) (A:Option Addr) (c:Nat) (t:TG) (x1:ByteArray) (x2:Nat) (h:TgAt w A t) (hc:t.length≤c) (hl:t.length≤1073741824):Calls Tryz.prog 70 #[.slice A t.length c,.agg #[.string x1,.int .i64 (x2:Int)]] w (GivesPut w t (x1,x2)):=by
 go_enter Tryz.func70,Tryz.ntmps70
 go_wp2
 have hn0:Fr nope w (w.alloc (.cells #[.string x1,.int .i64 (x2:Int)] 103)):=(Fr.refl _ _).alloc _
 have hb0:=heap_alloc_new w (.cells #[.string x1,.int .i64 (x2:Int)] 103)
 obtain ⟨w0,hw0⟩:∃ w0,w0=w.alloc (.cells #[.string x1,.int .i64 (x2:Int)] 103):=⟨_,rfl⟩
 rw [← hw0] at hn0 hb0 ⊢
 clear hw0
 go_loopg [5] t.length (fun n c5 wr=>∃ k:Nat,k≤t.length∧c5 = .int .i64 (k:Int)∧Fr nope w0 wr∧n=t.length - k)
 case atStart=>exact ⟨0,Nat.zero_le _,rfl,Fr.refl _ _,rfl⟩
 case round=>
  obtain ⟨k,hk,rfl,hf,rfl⟩:=hrel
  have hnr:=hn0.then hf
  have hbr:=hf.heap hb0 (fun x=>x)
  have hx0:=cell_of_row _ _ 0 _ _ (0,0) hbr
  simp only [List.getElem?_toArray,List.getElem?_cons_zero] at hx0
  by_cases hlt:k < t.length
  ·obtain ⟨⟨y1,y2⟩,hy⟩:∃ x,t[k]? = some x:=⟨_,List.getElem?_eq_getElem hlt⟩
   obtain ⟨b,off,hBe,hbl,hr⟩:=h.at_ tgV_len hy
   subst hBe
   have hc0:wr.cell? ⟨b,off+k*2,none⟩=some (.string y1):=hnr.cell (hr 0 _ rfl) (fun x=>x)
   clear hy hr
   cases hb:Op.bytesLess y1.toList x1.toList with
   | true=>
    go_wp2
    go_quiet (fail)
    go_wp2
    go_roundg (t.length - (k+1))
    case measure=>omega
    case rel=>exact ⟨k+1,by omega,by go_num,hf.drewN _,rfl⟩
   | false=>
    go_wp2
    go_quiet (fail)
    repeat (first | exact fp_tail w (wr.drewN _) _ c w.heap.size k t x1 x2 hk (Rw.nope h (hnr.drewN _)) hc hl (hnr.drewN _) hbr | go_step | go_back)
  ·go_wp2
   go_quiet (fail)
   repeat (first | exact fp_tail w (wr.drewN _) _ c w.heap.size k t x1 x2 hk (Rw.nope h (hnr.drewN _)) hc hl (hnr.drewN _) hbr | go_step | go_back)
end
end Go.Proofs.YtpbeedabmjmdmaaGreatDoor
