/- Part of the proof of a statement about pub-berthage: what its texts have in common. -/
import Derived.BigQuiet
import Derived.Deep.RegionHeld3
import Derived.RegionTactic
import Derived.Test.YtbgblfiapecioaaGreatP20
import Derived.Test.YtbgblfiapecioaaGreatP23
import Derived.Test.YtbgblfiapecioaaGreatP24
import Derived.Test.YtbgblfiapecioaaGreatP26
import Derived.Test.YtbgblfiapecioaaGreatP27
import Derived.Test.YtbgblfiapecioaaGreatP30
namespace Go.Proofs.YtbgblfiapecioaaGreat
section
open Go Go.RowKit Bth
set_option maxRecDepth 100000
def memGs (ps:List PO):List G:=gsOf (ps.filter fun p=>p.kind == 2)
theorem memGs_take {ps:List PO} {k:Nat} {p:PO} (h:ps[k]? = some p):memGs (ps.take (k+1))=memGs (ps.take k) ++ (if p.kind=2 then p.gs else []):=by
 unfold memGs gsOf
 rw [take_snoc h,List.filter_append,List.flatMap_append]
 by_cases e:p.kind=2<;>simp [e]
theorem eqlG (w:World) (g g':G):(binOp .eql 78 (.agg #[.bool g.virt,.int .u8 (g.kind:Int),.int .u16 (g.idx:Int),.int .u16 (g.spec:Int)]) (.agg #[.bool g'.virt,.int .u8 (g'.kind:Int),.int .u16 (g'.idx:Int),.int .u16 (g'.spec:Int)])).run Tryz.prog w = .ok (.bool (decide (g=g'))) w:=by
 obtain ⟨v,k,i,s⟩:=g
 obtain ⟨v',k',i',s'⟩:=g'
 simp only
 have h:(Op.equalIn 10000 78 (.agg #[.bool v,.int .u8 (k:Int),.int .u16 (i:Int),.int .u16 (s:Int)]) (.agg #[.bool v',.int .u8 (k':Int),.int .u16 (i':Int),.int .u16 (s':Int)])).run Tryz.prog w = .ok (v == v' && ((k:Int) == k' && ((i:Int) == i' && (s:Int) == s'))) w:=by
  go_simp
  by_cases h1:v=v'<;>by_cases h2:(k:Int)=k'<;>by_cases h3:(i:Int)=i'<;>by_cases h4:(s:Int)=s'<;>simp [h1,h2,h3,h4]
 have e:(v == v' && ((k:Int) == k' && ((i:Int) == i' && (s:Int) == s')))=decide ((⟨v,k,i,s⟩:G)=⟨v',k',i',s'⟩):=by
  rw [Bool.eq_iff_iff]
  simp
  omega
 rw [e] at h
 simp only [binOp]
 simp [Op.equal,Op.maxDepth,h]
theorem inGs_f (i o:List PO):inGs false i o=gsOf i ++ memGs o:=by
 unfold inGs memGs
 generalize gsOf i=l
 rcases l with _ | ⟨a,_ | ⟨b,l⟩⟩<;>rfl
def canc2:List G→List G
 | g :: g' :: l=>if g=g' then [] else g :: g' :: l
 | l=>l
theorem inGs_t (i o:List PO) (l:List G) (h:gsOf i=l):inGs true i o=canc2 l ++ memGs o:=by
 subst h
 unfold inGs memGs
 generalize gsOf i=l
 rcases l with _ | ⟨a,_ | ⟨b,l⟩⟩<;>rfl
end
section
open Go Go.RowKit Bth
set_option maxRecDepth 100000
def tlV (x:Nat × Nat):List Value:=[.int .u32 (x.1:Int),.int .u16 (x.2:Int)]
def tlCells (s:TL):List Value:=s.flatMap tlV
theorem tlV_len (x:Nat × Nat):(tlV x).length=2:=rfl
theorem tlCells_app (a b:TL):tlCells (a ++ b)=tlCells a ++ tlCells b:=List.flatMap_append
def TlAt (w:World) (A:Option Addr) (s:TL):Prop:=Rw w 184 2 A s.length (tlCells s)
theorem infoLv:(Tryz.prog.info? 184).map (fun i=>(i.zero,i.size,i.bytes))=some (some (.agg #[.int .u32 0,.int .u16 0]),2,8):=by kernel_rfl
theorem Tidy.len {s:TL} (h:Tidy s):s.length≤4294967296:=by
 have key:∀ {s:TL},Tidy s→∀ lo,(∀ x∈s,lo≤x.1)→s.length≤4294967296 - lo:=by
  intro s h
  induction h with
  | nil=>intro lo _;simp
  | @cons x t _ h1 _ _ h4 ih=>
   intro lo hlo
   have:=hlo x (by simp)
   have:=ih (x.1+1) (fun y hy=>h1 y hy)
   rw [List.length_cons]
   omega
 have:=key h 0 (fun _ _=>Nat.zero_le _)
 omega
theorem mIns_skip {id m:Nat} : ∀ {a b:TL},(∀ x∈a,x.1 < id)→mIns id m (a ++ b)=a ++ mIns id m b:=by
 intro a
 induction a with
 | nil=>intro b _;rfl
 | cons x a ih=>
  intro b h
  rw [List.cons_append,mIns,if_pos (h x (by simp)),ih fun y hy=>h y (by simp [hy])]
  rfl
theorem drop_cons {α : Type} {l:List α} {k:Nat} {x:α} (h:l[k]? = some x):l.drop k=x :: l.drop (k+1):=by
 obtain ⟨hl,e⟩:=List.getElem?_eq_some_iff.1 h
 rw [← e]
 exact List.drop_eq_getElem_cons hl
def AddIt (s:TL) (id m k:Nat) (done:Bool) (out:TL):Prop:=if done then out ++ s.drop k=mIns id m s else out=s.take k∧∀ x∈s.take k,x.1 < id
def GivesTL (w:World) (s:TL) (e:Ending) (w':World):Prop:=Fr nope w w'∧∃ A c,e = .returned (.slice A s.length c)∧TlAt w' A s
set_option maxHeartbeats 2000000 in
theorem maskAdd_calls (w:World) (A:Option Addr) (c:Nat) (s:TL) (id m:Nat) (h:TlAt w A s) (hs:Tidy s) (hm:m < 65536):Calls Tryz.prog 94 #[.slice A s.length c,.int .u32 (id:Int),.int .u16 (m:Int)] w (GivesTL w (mAdd s id m)):=by
 have hsl:=hs.len
 by_cases h0:m=0
 ·subst h0
  have e:mAdd s id 0=s:=by simp [mAdd]
  rw [e]
  go_enter Tryz.func94,Tryz.ntmps94
  go_wp2
  go_ret
  exact ⟨Fr.refl _ _,A,c,rfl,h⟩
 have h0':((m:Int) == 0)=false:=by simp;omega
 have e:mAdd s id m=mIns id m s:=by simp [mAdd,h0]
 rw [e]
 clear e
 obtain ⟨R,hR⟩:∃ R,R=mIns id m s:=⟨_,rfl⟩
 rw [← hR]
 replace hR:=Lib.hid hR
 go_enter Tryz.func94,Tryz.ntmps94
 go_wp2
 clear h0 h0'
 go_loopg [7,8,9] s.length (fun n c7 c8 c9 wr=>∃ (k:Nat) (done:Bool) (out:TL) (A2:Option Addr) (c2:Nat),k≤s.length∧out.length≤k+1∧Hid (AddIt s id m k done out)∧c9 = .int .i64 (k:Int)∧c8 = .bool done∧c7 = .slice A2 out.length c2∧wr.ownsRow w.heap.size 184 2 (.slice A2 out.length c2) out.length (tlCells out)∧Fr nope w wr∧n=s.length - k)
 case atStart=>exact ⟨0,false,[],none,0,Nat.zero_le _,by simp,Lib.hid (by simp [AddIt]),rfl,rfl,rfl,own_nil _ _ _ _,Fr.refl _ _,rfl⟩
 case round=>
  obtain ⟨k,done,out,A2,c2,hk,hol,hit,rfl,rfl,rfl,hown,hf,rfl⟩:=hrel
  have hsz:=hf.size
  have hbo:=own_base hown
  by_cases hlt:k < s.length
  ·obtain ⟨⟨x1,x2⟩,hx⟩:∃ x,s[k]? = some x:=⟨_,List.getElem?_eq_getElem hlt⟩
   obtain ⟨b,off,hAe,hbl,hr⟩:=h.at_ tlV_len hx
   subst hAe
   have hw0:∀ W,Fr nope w W→W.cell? ⟨b,off+k*2,none⟩=some (.int .u32 (x1:Int)):=fun W hW=>hW.cell (hr 0 _ rfl) (fun x=>x)
   have hw1:∀ W,Fr nope w W→W.cell? ⟨b,off+k*2+1,none⟩=some (.int .u16 (x2:Int)):=fun W hW=>hW.cell (hr 1 _ rfl) (fun x=>x)
   have hc0:=hw0 wr hf
   have hc1:=hw1 wr hf
   replace hw0:=Lib.hid hw0
   replace hw1:=Lib.hid hw1
   have hx2:x2 < 65536:=(hs.bound _ (List.mem_of_getElem? hx)).2.1
   have hor:=u16_or x2 m hx2 hm
   have hD:=Lib.hid (drop_cons hx)
   have hT:=Lib.hid (take_snoc hx)
   clear hr hx
   have hstep:∀ (done':Bool) (out':TL) {W:World} {A3:Option Addr} {c3 n3:Nat},n3=out'.length→out'.length≤k+2→AddIt s id m (k+1) done' out'→W.ownsRow w.heap.size 184 2 (.slice A3 n3 c3) n3 (tlCells out')→Fr nope w W →
     ∃ (k':Nat) (done:Bool) (o:TL) (A2:Option Addr) (c2:Nat),k'≤s.length∧o.length≤k'+1∧Hid (AddIt s id m k' done o)∧Value.int .i64 ((k:Int)+1) = .int .i64 (k':Int)∧Value.bool done' = .bool done∧Value.slice A3 n3 c3 = .slice A2 o.length c2∧W.ownsRow w.heap.size 184 2 (.slice A2 o.length c2) o.length (tlCells o)∧Fr nope w W∧s.length - (k+1)=s.length - k':=
    fun done' out' W A3 c3 n3 h1 h1' h2 h3 h4=>by
     subst h1
     exact ⟨k+1,done',out',A3,c3,by omega,by omega,Lib.hid h2,by simp,rfl,rfl,h3,h4,rfl⟩
   replace hstep:=Lib.hid hstep
   cases done with
   | true=>
    have ha:AddIt s id m (k+1) true (out ++ [(x1,x2)]):=by
     have h1:=hit.out
     simp only [AddIt,if_true] at h1 ⊢
     rw [hD.out] at h1
     rw [← h1];simp
    replace ha:=Lib.hid ha
    go_wp2_with (first
     | (refine wpList_build1 (l:=tlV (x1,x2)) rfl rfl rfl Tryz.underlying105 infoLv rfl (by omega) (by decide) ?_)
     | refine wpList_app (v:=.slice A2 out.length c2) rfl rfl Tryz.underlying105 infoLv rfl (by omega) rfl (own_fr hown ((Fr.refl nope _).alloc _) (fun _ _ x=>x)) rfl (news:=tlV (x1,x2)) rfl (fun _=>cells_new _ _ _ _ (by simp)) (by simp [tlV,Value.oneCell']) (by simp only [maxLen];omega) (by omega) (by simp;omega) ?hk)
    case hk=>
     intro v4 w4 hown4 hf4 hb4
     obtain ⟨A4,c4,rfl,_,_⟩:=own_slice hown4
     clear hb4
     go_wp2
     go_roundg (s.length - (k+1))
     case measure=>omega
     case rel=>exact hstep.out true (out ++ [(x1,x2)]) (by simp) (by simp;omega) ha.out (by rw [tlCells_app];simpa [tlCells] using hown4) ((hf.alloc _).then_new hf4 (fun x hx e=>by have:=hbo x e;omega))
   | false=>
    obtain ⟨he,hlow⟩:out=s.take k∧∀ x∈s.take k,x.1 < id:=hit.out
    have hsk:mIns id m s=out ++ mIns id m ((x1,x2) :: s.drop (k+1)):=by
     conv=>lhs;rw [← List.take_append_drop k s,hD.out]
     rw [mIns_skip hlow,he]
    have hol2:out.length≤k:=by rw [he,List.length_take];omega
    clear he
    replace hlow:=Lib.hid hlow
    by_cases hge:id≤x1
    ·have hge':(id:Int)≤(x1:Int):=by omega
     by_cases heq:x1=id
     ·have ha:AddIt s id m (k+1) true (out ++ [(id,x2 ||| m)]):=by
       simp only [AddIt,if_true]
       rw [hsk,mIns,if_neg (by simp only;omega),if_pos heq];simp
      replace ha:=Lib.hid ha
      replace hsk:=Lib.hid hsk
      subst heq
      replace hor:=Lib.hid hor
      go_wp2_with (first
       | (refine wpList_build1 (l:=tlV (x1,x2 ||| m)) rfl rfl (by rw [tlV,← hor.out];rfl) Tryz.underlying105 infoLv rfl (by omega) (by decide) ?_)
       | refine wpList_app (v:=.slice A2 out.length c2) rfl rfl Tryz.underlying105 infoLv rfl (by omega) rfl (own_fr hown ((Fr.refl nope _).alloc _) (fun _ _ x=>x)) rfl (news:=tlV (x1,x2 ||| m)) rfl (fun _=>cells_new _ _ _ _ (by simp)) (by simp [tlV,Value.oneCell']) (by simp only [maxLen];omega) (by omega) (by simp;omega) ?hk)
      case hk=>
       intro v4 w4 hown4 hf4 hb4
       obtain ⟨A4,c4,rfl,_,_⟩:=own_slice hown4
       clear hb4
       go_wp2
       go_roundg (s.length - (k+1))
       case measure=>omega
       case rel=>exact hstep.out true (out ++ [(x1,x2 ||| m)]) (by simp) (by simp;omega) ha.out (by rw [tlCells_app];simpa [tlCells] using hown4) ((hf.alloc _).then_new hf4 (fun x hx e=>by have:=hbo x e;omega))
     ·have heq':(x1:Int)≠(id:Int):=by omega
      have ha:AddIt s id m (k+1) true (out ++ [(id,m)] ++ [(x1,x2)]):=by
       simp only [AddIt,if_true]
       rw [hsk,mIns,if_neg (by simp only;omega),if_neg heq];simp
      replace ha:=Lib.hid ha
      replace hsk:=Lib.hid hsk
      clear hor
      go_wp2_with (first
       | (refine wpList_build1 (l:=tlV (id,m)) rfl rfl rfl Tryz.underlying105 infoLv rfl (by omega) (by decide) ?_)
       | refine wpList_app (v:=.slice A2 out.length c2) rfl rfl Tryz.underlying105 infoLv rfl (by omega) rfl (own_fr hown ((Fr.refl nope _).alloc _) (fun _ _ x=>x)) rfl (news:=tlV (id,m)) rfl (fun _=>cells_new _ _ _ _ (by simp)) (by simp [tlV,Value.oneCell']) (by simp only [maxLen];omega) (by omega) (by simp;omega) ?hk)
      case hk=>
       intro v3 w3 hown3 hf3 hb3
       obtain ⟨A3,c3,rfl,_,_⟩:=own_slice hown3
       clear hb3
       have hn3:Fr nope w w3:=(hf.alloc _).then_new hf3 (fun x hx e=>by have:=hbo x e;omega)
       have hc0:=hw0.out w3 hn3
       have hc1:=hw1.out w3 hn3
       have hbo3:=own_base hown3
       have hsz3:=hn3.size
       go_wp2_with (first
        | (refine wpList_build1 (l:=tlV (x1,x2)) rfl rfl rfl Tryz.underlying105 infoLv rfl (by omega) (by decide) ?_)
        | refine wpList_app (v:=.slice A3 (out.length+1) c3) rfl rfl Tryz.underlying105 infoLv rfl (by omega) rfl (own_fr hown3 ((Fr.refl nope _).alloc _) (fun _ _ x=>x)) rfl (news:=tlV (x1,x2)) rfl (fun _=>cells_new _ _ _ _ (by simp)) (by simp [tlV,Value.oneCell']) (by simp only [maxLen];omega) (by omega) (by simp;omega) ?hm)
       case hm=>
        intro v4 w4 hown4 hf4 hb4
        obtain ⟨A4,c4,rfl,_,_⟩:=own_slice hown4
        clear hb4
        go_wp2
        go_roundg (s.length - (k+1))
        case measure=>omega
        case rel=>exact hstep.out true (out ++ [(id,m)] ++ [(x1,x2)]) (by simp) (by simp;omega) ha.out (by rw [tlCells_app];simpa [tlCells] using hown4) ((hn3.alloc _).then_new hf4 (fun x hx e=>by have:=hbo3 x e;omega))
    ·have hge':¬(id:Int)≤(x1:Int):=by omega
     have ha:AddIt s id m (k+1) false (out ++ [(x1,x2)]):=by
      obtain ⟨he,hl⟩:out=s.take k∧∀ x∈s.take k,x.1 < id:=hit.out
      show out ++ [(x1,x2)]=s.take (k+1)∧∀ x∈s.take (k+1),x.1 < id
      rw [hT.out,← he]
      refine ⟨rfl,fun x hx=>?_⟩
      rcases List.mem_append.1 hx with hx | hx
      ·exact hl x (by rw [← he];exact hx)
      ·obtain rfl:x=(x1,x2):=by simpa using hx
       show x1 < id
       omega
     replace ha:=Lib.hid ha
     replace hsk:=Lib.hid hsk
     clear hor
     go_wp2_with (first
      | (refine wpList_build1 (l:=tlV (x1,x2)) rfl rfl rfl Tryz.underlying105 infoLv rfl (by omega) (by decide) ?_)
      | refine wpList_app (v:=.slice A2 out.length c2) rfl rfl Tryz.underlying105 infoLv rfl (by omega) rfl (own_fr hown ((Fr.refl nope _).alloc _) (fun _ _ x=>x)) rfl (news:=tlV (x1,x2)) rfl (fun _=>cells_new _ _ _ _ (by simp)) (by simp [tlV,Value.oneCell']) (by simp only [maxLen];omega) (by omega) (by simp;omega) ?hk)
     case hk=>
      intro v4 w4 hown4 hf4 hb4
      obtain ⟨A4,c4,rfl,_,_⟩:=own_slice hown4
      clear hb4
      go_wp2
      go_roundg (s.length - (k+1))
      case measure=>omega
      case rel=>exact hstep.out false (out ++ [(x1,x2)]) (by simp) (by simp;omega) ha.out (by rw [tlCells_app];simpa [tlCells] using hown4) ((hf.alloc _).then_new hf4 (fun x hx e=>by have:=hbo x e;omega))
  ·have hdr:s.drop k=[]:=List.drop_eq_nil_of_le (by omega)
   cases done with
   | true=>
    obtain rfl:R=out:=by
     have h1:=hit.out
     simp only [AddIt,if_true,hdr,List.append_nil] at h1
     rw [hR.out,h1]
    go_wp2
    go_ret
    exact ⟨hf,A2,c2,rfl,Rw.of_own hown⟩
   | false=>
    have hres:R=out ++ [(id,m)]:=by
     rw [hR.out]
     obtain ⟨he,hl⟩:out=s.take k∧∀ x∈s.take k,x.1 < id:=hit.out
     have e:s=s.take k ++ []:=by rw [List.append_nil,take_all hlt]
     conv=>lhs;rw [e]
     rw [mIns_skip hl,he];rfl
    subst hres
    clear hdr
    go_wp2_with (first
     | (refine wpList_build1 (l:=tlV (id,m)) rfl rfl rfl Tryz.underlying105 infoLv rfl (by omega) (by decide) ?_)
     | refine wpList_app (v:=.slice A2 out.length c2) rfl rfl Tryz.underlying105 infoLv rfl (by omega) rfl (own_fr hown ((Fr.refl nope _).alloc _) (fun _ _ x=>x)) rfl (news:=tlV (id,m)) rfl (fun _=>cells_new _ _ _ _ (by simp)) (by simp [tlV,Value.oneCell']) (by simp only [maxLen];omega) (by omega) (by simp;omega) ?hk)
    case hk=>
     intro v4 w4 hown4 hf4 hb4
     obtain ⟨A4,c4,rfl,_,_⟩:=own_slice hown4
     clear hb4
     go_wp2
     go_ret
     have hl:(out ++ [(id,m)]).length=out.length+1:=by simp
     refine ⟨(hf.alloc _).then_new hf4 (fun x hx e=>by have:=hbo x e;omega),A4,c4,by rw [hl];rfl,?_⟩
     rw [TlAt,hl,tlCells_app]
     exact Rw.of_own hown4
end
section
open Go Go.RowKit Bth
set_option maxRecDepth 100000
theorem mDis_take {s:TL} {k:Nat} {x:Nat × Nat} (id m:Nat) (h:s[k]? = some x):mDis (s.take (k+1)) id m=mDis (s.take k) id m ++ (if (mDis1 id m x).2=0 then [] else [mDis1 id m x]):=by
 unfold mDis
 rw [take_snoc h,List.map_append,List.filter_append]
 by_cases e:(mDis1 id m x).2=0<;>simp [e]
theorem SameLive_calls (w:World) (A B:Option Addr) (c d:Nat) (s t:TL) (h:TlAt w A s) (k:TlAt w B t) (hs:s.length≤4294967296):Calls Tryz.prog 50 #[.slice A s.length c,.slice B t.length d] w fun e w'=>e = .returned (.bool (decide (s=t)))∧Fr nope w w':=by
 by_cases hl:s.length=t.length
 ·rw [← hl]
  go_enter Tryz.func50,Tryz.ntmps50
  go_wp2
  go_loopg [5] s.length (fun n c5 wr=>∃ k:Nat,k≤s.length∧Hid (s.take k=t.take k)∧c5 = .int .i64 (k:Int)∧Fr nope w wr∧n=s.length - k)
  case atStart=>exact ⟨0,Nat.zero_le _,Lib.hid (by simp),rfl,Fr.refl _ _,rfl⟩
  case round=>
   obtain ⟨k0,hk,heq,rfl,hf,rfl⟩:=hrel
   by_cases hlt:k0 < s.length
   ·obtain ⟨⟨x1,x2⟩,hx⟩:∃ x,s[k0]? = some x:=⟨_,List.getElem?_eq_getElem hlt⟩
    obtain ⟨⟨y1,y2⟩,hy⟩:∃ x,t[k0]? = some x:=⟨_,List.getElem?_eq_getElem (show k0 < t.length by omega)⟩
    obtain ⟨b,off,hAe,hbl,hr⟩:=h.at_ tlV_len hx
    obtain ⟨b',off',hBe,hbl',hr'⟩:=k.at_ tlV_len hy
    subst hAe hBe
    have hc0:wr.cell? ⟨b,off+k0*2,none⟩=some (.int .u32 (x1:Int)):=hf.cell (hr 0 _ rfl) (fun x=>x)
    have hc1:wr.cell? ⟨b,off+k0*2+1,none⟩=some (.int .u16 (x2:Int)):=hf.cell (hr 1 _ rfl) (fun x=>x)
    have hd0:wr.cell? ⟨b',off'+k0*2,none⟩=some (.int .u32 (y1:Int)):=hf.cell (hr' 0 _ rfl) (fun x=>x)
    have hd1:wr.cell? ⟨b',off'+k0*2+1,none⟩=some (.int .u16 (y2:Int)):=hf.cell (hr' 1 _ rfl) (fun x=>x)
    have hTs:=Lib.hid (take_snoc hx)
    have hTt:=Lib.hid (take_snoc hy)
    have hne:(x1,x2)≠(y1,y2)→s≠t:=fun hn e=>hn (by rw [e,hy] at hx;injection hx with hx;exact hx.symm)
    replace hne:=Lib.hid hne
    clear hr hr' hx hy
    by_cases e1:x1=y1
    ·by_cases e2:x2=y2
     ·subst e1 e2
      have hn:=Lib.hid (show s.take (k0+1)=t.take (k0+1) by rw [hTs.out,hTt.out,heq.out])
      go_wp2
      go_quiet (fail)
      go_wp2
      go_roundg (s.length - (k0+1))
      case measure=>omega
      case rel=>exact ⟨k0+1,by omega,hn,by go_num,hf.drewN _,rfl⟩
     ·have hno:=hne.out (fun e=>e2 (by injection e))
      replace hno:=Lib.hid hno
      subst e1
      have e2':(x2:Int)≠(y2:Int):=by omega
      clear e2
      go_wp2
      go_quiet (fail)
      go_wp2
      go_ret
      exact ⟨by rw [decide_eq_false hno.out];rfl,hf.drewN _⟩
    ·have hno:=hne.out (fun e=>e1 (by injection e))
     replace hno:=Lib.hid hno
     have e1':(x1:Int)≠(y1:Int):=by omega
     clear e1
     go_wp2
     go_quiet (fail)
     go_wp2
     go_ret
     exact ⟨by rw [decide_eq_false hno.out];rfl,hf.drewN _⟩
   ·have e:s=t:=by
     have h1:=heq.out
     rw [take_all hlt,take_all (l:=t) (by omega)] at h1
     exact h1
    replace e:=Lib.hid e
    go_wp2
    go_ret
    exact ⟨by rw [decide_eq_true e.out];rfl,hf⟩
 ·rw [decide_eq_false (fun e=>hl (by rw [e]))]
  have hl':(s.length:Int)≠(t.length:Int):=by omega
  go_enter Tryz.func50,Tryz.ntmps50
  go_wp2
  go_ret
  exact ⟨rfl,Fr.refl _ _⟩
end
section
open Go Go.RowKit Bth
set_option maxRecDepth 100000
theorem mUnion_take {s t:TL} {k:Nat} {x:Nat × Nat} (h:t[k]? = some x):mUnion s (t.take (k+1))=mAdd (mUnion s (t.take k)) x.1 x.2:=by
 unfold mUnion
 rw [take_snoc h,List.foldl_append]
 rfl
theorem mMinus_take {s t:TL} {k:Nat} {x:Nat × Nat} (h:t[k]? = some x):mMinus s (t.take (k+1))=mDis (mMinus s (t.take k)) x.1 x.2:=by
 unfold mMinus
 rw [take_snoc h,List.foldl_append]
 rfl
end
section
open Go Go.RowKit Bth
set_option maxRecDepth 100000
theorem tlOf_take {gs:List G} {k:Nat} {g:G} (h:gs[k]? = some g):tlOf (gs.take (k+1))=mAdd (tlOf (gs.take k)) g.id g.spec:=by
 unfold tlOf
 rw [take_snoc h,List.foldl_append]
 rfl
def GivesTL2 (w:World) (s:TL) (e:Ending) (w':World):Prop:=Fr nope w w'∧∃ A c,e = .returned (.tuple #[.slice A s.length c,.bool true])∧TlAt w' A s
end
section
open Go Go.RowKit Bth
set_option maxRecDepth 100000
def TlsV (w:World) (vs:List Value) (ls:List TL):Prop:=vs.length=ls.length∧∀ (k:Nat) (v:Value) (s:TL),vs[k]? = some v→ls[k]? = some s→∃ A c,v = .slice A s.length c∧TlAt w A s
theorem TlsV.frT {S:Nat→Prop} {w w':World} {vs:List Value} {ls:List TL} (h:TlsV w vs ls) (hf:Fr S w w') (hs:NoT [184] w S):TlsV w' vs ls:=⟨h.1,fun k v s h1 h2=>by
 obtain ⟨A,c,e,hT⟩:=h.2 k v s h1 h2
 exact ⟨A,c,e,Rw.frT hT hf hs (by decide)⟩⟩
theorem TlsV.snoc {w:World} {vs:List Value} {ls:List TL} {A:Option Addr} {c:Nat} {s:TL} (h:TlsV w vs ls) (hs:TlAt w A s):TlsV w (vs ++ [.slice A s.length c]) (ls ++ [s]):=by
 refine ⟨by simp [h.1],fun k v t h1 h2=>?_⟩
 by_cases hlt:k < vs.length
 ·rw [List.getElem?_append_left hlt] at h1
  rw [List.getElem?_append_left (by rw [← h.1];exact hlt)] at h2
  exact h.2 k v t h1 h2
 ·rw [List.getElem?_append_right (by omega)] at h1
  rw [List.getElem?_append_right (by rw [← h.1];omega),← h.1] at h2
  have hk:k - vs.length=0:=by
   have:=(List.getElem?_eq_some_iff.1 h1).1
   simp at this;omega
  rw [hk] at h1 h2
  simp only [List.getElem?_cons_zero,Option.some.injEq] at h1 h2
  subst h1 h2
  exact ⟨A,c,rfl,hs⟩
def TlsAt (w:World) (A:Option Addr) (ls:List TL):Prop:=∃ vs,Rw w 105 1 A ls.length vs∧TlsV w vs ls
theorem TlsAt.nope {w w':World} {A:Option Addr} {ls:List TL} (h:TlsAt w A ls) (hf:Fr nope w w'):TlsAt w' A ls:=by
 obtain ⟨vs,h1,h2⟩:=h
 exact ⟨vs,h1.nope hf,h2.frT hf (NoT.nope _ _)⟩
theorem infoLs:(Tryz.prog.info? 105).map (fun i=>(i.zero,i.size,i.bytes))=some (some (.slice none 0 0),1,24):=by kernel_rfl
def rdT (p:PI):TL:=tlOf (inGs p.canc p.inp p.out)
def wrT (p:PI):TL:=tlOf (outGs p.out)
theorem okP_gs {p:PO} (h:okP p=true):∀ g∈p.gs,okG g=true:=by
 intro g hg
 unfold PO.gs at hg
 unfold okP at h
 split at hg
 ·rename_i h1
  rw [if_pos h1] at h
  obtain rfl:g=p.reg:=by simpa using hg
  exact h
 ·rename_i h1
  rw [if_neg h1] at h
  split at hg
  ·rename_i h2
   rw [if_pos h2] at h
   unfold okM at h
   simp only [Bool.and_eq_true,Bool.or_eq_true,Bool.not_eq_true'] at h
   rcases List.mem_append.1 hg with hg | hg
   ·split at hg
    ·rename_i hb
     obtain rfl:g=p.base:=by simpa using hg
     rcases h.1 with h | h
     ·rw [hb] at h;cases h
     ·exact h
    ·cases hg
   ·split at hg
    ·rename_i hb
     obtain rfl:g=p.index:=by simpa using hg
     rcases h.2 with h | h
     ·rw [hb] at h;cases h
     ·exact h
    ·cases hg
  ·cases hg
theorem gsOf_okG {ps:List PO} (h:ps.all okP=true):∀ g∈gsOf ps,okG g=true:=by
 intro g hg
 obtain ⟨p,hp,hg⟩:=List.mem_flatMap.1 hg
 exact okP_gs (List.all_eq_true.1 h p hp) g hg
theorem outGs_sub {ps:List PO} : ∀ g∈outGs ps,g∈gsOf ps:=by
 intro g hg
 obtain ⟨p,hp,e⟩:=List.mem_filterMap.1 hg
 refine List.mem_flatMap.2 ⟨p,hp,?_⟩
 unfold PO.asG at e
 unfold PO.gs
 split at e
 ·rename_i h1
  rw [if_pos h1]
  injection e with e
  rw [← e];simp
 ·cases e
theorem inGs_sub {c:Bool} {is os:List PO} : ∀ g∈inGs c is os,g∈gsOf is∨g∈gsOf os:=by
 intro g hg
 have hmem:∀ g∈memGs os,g∈gsOf os:=fun g hg=>by
  obtain ⟨p,hp,hg⟩:=List.mem_flatMap.1 hg
  exact List.mem_flatMap.2 ⟨p,(List.mem_filter.1 hp).1,hg⟩
 cases c with
 | false=>
  rw [inGs_f] at hg
  rcases List.mem_append.1 hg with h | h
  ·exact .inl h
  ·exact .inr (hmem g h)
 | true=>
  rw [inGs_t _ _ _ rfl] at hg
  rcases List.mem_append.1 hg with h | h
  ·left
   generalize gsOf is=l at h ⊢
   rcases l with _ | ⟨a,_ | ⟨b,l⟩⟩
   ·exact h
   ·exact h
   ·simp only [canc2] at h
    split at h
    ·cases h
    ·exact h
  ·exact .inr (hmem g h)
theorem gsOf_le (l:List PO):(gsOf l).length≤2*l.length:=by
 induction l with
 | nil=>simp [gsOf]
 | cons q l ih=>
  have e:gsOf (q :: l)=q.gs ++ gsOf l:=rfl
  have:=q.gs_len
  rw [e,List.length_append,List.length_cons];omega
theorem outGs_le (l:List PO):(outGs l).length≤l.length:=List.length_filterMap_le _ _
theorem inGs_le (c:Bool) (is os:List PO):(inGs c is os).length≤2*is.length+2*os.length:=by
 have hm:(memGs os).length≤2*os.length:=by
  have h1:=gsOf_le (os.filter fun p=>p.kind == 2)
  have h2:(os.filter fun p=>p.kind == 2).length≤os.length:=List.length_filter_le _ _
  unfold memGs
  omega
 have hi:=gsOf_le is
 cases c with
 | false=>rw [inGs_f,List.length_append];omega
 | true=>
  rw [inGs_t _ _ _ rfl,List.length_append]
  have:(canc2 (gsOf is)).length≤(gsOf is).length:=by
   generalize gsOf is=l
   rcases l with _ | ⟨a,_ | ⟨b,l⟩⟩
   ·simp [canc2]
   ·simp [canc2]
   ·simp only [canc2];split<;>simp
  omega
theorem PI.At.okGs {w:World} {B:Nat} {p:PI} (h:p.At w B) (hok:okI p=true):(∀ g∈inGs p.canc p.inp p.out,okG g=true∧g.Ok)∧(∀ g∈outGs p.out,okG g=true∧g.Ok):=by
 unfold okI at hok
 simp only [Bool.and_eq_true] at hok
 have ki:∀ g∈gsOf p.inp,okG g=true∧g.Ok:=fun g hg=>⟨gsOf_okG hok.1.2 g hg,gsOf_ok h.ok.2.1 g hg⟩
 have ko:∀ g∈gsOf p.out,okG g=true∧g.Ok:=fun g hg=>⟨gsOf_okG hok.2 g hg,gsOf_ok h.ok.2.2 g hg⟩
 exact ⟨fun g hg=>(inGs_sub g hg).elim (ki g) (ko g),fun g hg=>ko g (outGs_sub g hg)⟩
def GivesAcc (w:World) (is:List PI) (e:Ending) (w':World):Prop:=Fr nope w w'∧∃ A1 c1 A2 c2,e = .returned (.tuple #[.slice A1 is.length c1,.slice A2 is.length c2,.bool true])∧TlsAt w' A1 (is.map rdT)∧TlsAt w' A2 (is.map wrT)
end
section
open Go Go.RowKit Bth
set_option maxRecDepth 100000
def RowT (w:World) (b n:Nat) (I:Nat→TL):Prop:=∃ cs:Array Value,w.heap[b]? = some (.cells cs 105 (0,0))∧cs.size=n∧∀ k,k < n→∃ A c,cs[k]? = some (.slice A (I k).length c)∧TlAt w A (I k)
theorem RowT.nope {w w':World} {b n:Nat} {I:Nat→TL} (h:RowT w b n I) (hf:Fr nope w w'):RowT w' b n I:=by
 obtain ⟨cs,h1,h2,h3⟩:=h
 refine ⟨cs,hf.heap h1 (fun x=>x),h2,fun k hk=>?_⟩
 obtain ⟨A,c,h4,h5⟩:=h3 k hk
 exact ⟨A,c,h4,h5.nope hf⟩
theorem RowT.lt {w:World} {b n:Nat} {I:Nat→TL} (h:RowT w b n I):b < w.heap.size:=by
 obtain ⟨cs,h1,_⟩:=h
 exact lt_of_heap h1
theorem RowT.at_ {w:World} {b n:Nat} {I:Nat→TL} (h:RowT w b n I) {k:Nat} (hk:k < n):∃ A c,w.cell? ⟨b,k,none⟩=some (.slice A (I k).length c)∧TlAt w A (I k):=by
 obtain ⟨cs,h1,h2,h3⟩:=h
 obtain ⟨A,c,h4,h5⟩:=h3 k hk
 exact ⟨A,c,by rw [cell_of_row w b k _ _ (0,0) h1];exact h4,h5⟩
theorem RowT.noT {w:World} {b n:Nat} {I:Nat→TL} (h:RowT w b n I):NoT [184] w (fun x=>x=b):=by
 obtain ⟨cs,h1,_⟩:=h
 exact NoT.one h1 (by decide)
theorem RowT.frozen {w:World} {b n:Nat} {I:Nat→TL} (h:RowT w b n I):∀ j,w.frozen? ⟨b,j,none⟩=false:=by
 obtain ⟨cs,h1,_⟩:=h
 exact frozen_row h1
theorem RowT.set {w:World} {b n:Nat} {I:Nat→TL} (h:RowT w b n I) {k:Nat} {A:Option Addr} {c:Nat} {t:TL} (ht:TlAt w A t):RowT (w.setCell ⟨b,k,none⟩ (.slice A t.length c)) b n (updT I k t):=by
 have hn:=h.noT
 obtain ⟨cs,h1,h2,h3⟩:=h
 have hf:Fr (fun x=>x=b) w (w.setCell ⟨b,k,none⟩ (.slice A t.length c)):=(Fr.refl (fun x=>x=b) w).setCell (.inl rfl) _
 refine ⟨_,setCell_heap h1 _,by simp [h2],fun j hj=>?_⟩
 by_cases e:j=k
 ·subst e
  refine ⟨A,c,?_,?_⟩
  ·rw [Array.getElem?_setIfInBounds];simp [h2,hj,updT]
  ·rw [updT,if_pos rfl];exact ht.frT hf hn (by decide)
 ·obtain ⟨A',c',h4,h5⟩:=h3 j hj
  refine ⟨A',c',?_,?_⟩
  ·rw [Array.getElem?_setIfInBounds,if_neg (fun h=>e h.symm),updT,if_neg e];exact h4
  ·rw [updT,if_neg e];exact h5.frT hf hn (by decide)
theorem RowT.other {w:World} {b b' n k:Nat} {I O:Nat→TL} {v:Value} (h:RowT w b n I) (ho:RowT w b' n O) (hne:b≠b'):RowT (w.setCell ⟨b',k,none⟩ v) b n I:=by
 have hn:=ho.noT
 have hf:Fr (fun x=>x=b') w (w.setCell ⟨b',k,none⟩ v):=(Fr.refl (fun x=>x=b') w).setCell (.inl rfl) _
 obtain ⟨cs,h1,h2,h3⟩:=h
 refine ⟨cs,hf.heap h1 hne,h2,fun j hj=>?_⟩
 obtain ⟨A,c,h4,h5⟩:=h3 j hj
 exact ⟨A,c,h4,h5.frT hf hn (by decide)⟩
theorem TlsAt.at_ {w:World} {A:Option Addr} {ls:List TL} (h:TlsAt w A ls) {k:Nat} {s:TL} (hk:ls[k]? = some s):∃ b off A' c,A=some ⟨b,off,none⟩∧b < w.heap.size∧w.cell? ⟨b,off+k,none⟩=some (.slice A' s.length c)∧TlAt w A' s:=by
 obtain ⟨vs,h1,h2,h3⟩:=h
 have hlt:=(List.getElem?_eq_some_iff.1 hk).1
 obtain ⟨b,off,cs,fr,e,hb,hc⟩:=h1.row (by omega)
 have hv:=List.getElem?_eq_getElem (show k < vs.length by omega)
 obtain ⟨A',c,e2,hT⟩:=h3 k _ s hv hk
 exact ⟨b,off,A',c,e,lt_of_heap hb,by rw [hc k _ hv,e2],hT⟩
theorem lv_set {w:World} {bi bo n i:Nat} {I O:Nat→TL} {A1 A2:Option Addr} {c1 c2:Nat} {a b:TL} (hne:bi≠bo) (hI:RowT w bi n I) (hO:RowT w bo n O) (ha:TlAt w A1 a) (hb:TlAt w A2 b):
  RowT ((w.setCell ⟨bi,i,none⟩ (.slice A1 a.length c1)).setCell ⟨bo,i,none⟩ (.slice A2 b.length c2)) bi n (updT I i a)∧RowT ((w.setCell ⟨bi,i,none⟩ (.slice A1 a.length c1)).setCell ⟨bo,i,none⟩ (.slice A2 b.length c2)) bo n (updT O i b):=by
 have h1:=hI.set (k:=i) (c:=c1) ha
 have h2:=hO.other (k:=i) (v:=.slice A1 a.length c1) hI hne.symm
 have hb':TlAt (w.setCell ⟨bi,i,none⟩ (.slice A1 a.length c1)) A2 b:=Rw.frT hb ((Fr.refl (fun x=>x=bi) w).setCell (.inl rfl) _) hI.noT (by decide)
 exact ⟨h1.other h2 hne,h2.set hb'⟩
def oV:Option Nat→Value
 | none=>.int .i64 (-1)
 | some s=>.int .i64 (s:Int)
def SuccAt (w:World) (A:Option Addr) (n:Nat) (sc:Nat→List (Option Nat)):Prop:=∃ vs,Rw w 67 1 A n vs∧∀ k,k < n→∃ A' c,vs[k]? = some (.slice A' (sc k).length c)∧Rw w 3 1 A' (sc k).length ((sc k).map oV)
theorem SuccAt.nope {w w':World} {A:Option Addr} {n:Nat} {sc:Nat→List (Option Nat)} (h:SuccAt w A n sc) (hf:Fr nope w w'):SuccAt w' A n sc:=by
 obtain ⟨vs,h1,h2⟩:=h
 refine ⟨vs,h1.nope hf,fun k hk=>?_⟩
 obtain ⟨A',c,h3,h4⟩:=h2 k hk
 exact ⟨A',c,h3,h4.nope hf⟩
theorem SuccAt.at_ {w:World} {A:Option Addr} {n:Nat} {sc:Nat→List (Option Nat)} (h:SuccAt w A n sc) {k:Nat} (hk:k < n):∃ b off A' c,A=some ⟨b,off,none⟩∧b < w.heap.size∧w.cell? ⟨b,off+k,none⟩=some (.slice A' (sc k).length c)∧Rw w 3 1 A' (sc k).length ((sc k).map oV):=by
 obtain ⟨vs,h1,h2⟩:=h
 obtain ⟨b,off,cs,fr,e,hb,hc⟩:=h1.row (by omega)
 obtain ⟨A',c,h3,h4⟩:=h2 k hk
 exact ⟨b,off,A',c,e,lt_of_heap hb,hc k _ h3,h4⟩
theorem Rw.one {w:World} {e:TypeId} {A:Option Addr} {n:Nat} {xs:List Value} (h:Rw w e 1 A n xs) {k:Nat} {v:Value} (hv:xs[k]? = some v):∃ b off,A=some ⟨b,off,none⟩∧b < w.heap.size∧w.cell? ⟨b,off+k,none⟩=some v:=by
 have hl:=(List.getElem?_eq_some_iff.1 hv).1
 have:=h.len
 obtain ⟨b,off,cs,fr,e,hb,hc⟩:=h.row (by omega)
 exact ⟨b,off,e,lt_of_heap hb,hc k v hv⟩
def lvO (I:Nat→TL) (b:TL):Option Nat→TL
 | some s=>mUnion b (I s)
 | none=>b
theorem lvB_take {sc:List (Option Nat)} {I:Nat→TL} {k:Nat} {o:Option Nat} (h:sc[k]? = some o):lvB (sc.take (k+1)) I []=lvO I (lvB (sc.take k) I []) o:=by
 unfold lvB
 rw [take_snoc h,List.foldl_append]
 cases o<;>rfl
theorem range_at {α : Type} {g:Nat → α} {n k:Nat} (h:k < n):((List.range n).map g)[k]? = some (g k):=by simp [h]
def Closed (f:LF) (I O:Nat→TL):Prop:=∀ k,k < f.n→f.B I k=O k∧f.A I k=I k
def GivesLive (w0:World) (f:LF) (e:Ending) (w':World):Prop:=Fr nope w0 w'∧∃ bi bo I O,e = .returned (.tuple #[.slice (some ⟨bi,0,none⟩) f.n f.n,.slice (some ⟨bo,0,none⟩) f.n f.n])∧RowT w' bi f.n I∧RowT w' bo f.n O∧SInv f I O∧Closed f I O
def Sb (V V':Sets):Prop:=∀ p j,Sub (V p j) (V' p j)
theorem Sb.refl (V:Sets):Sb V V:=fun _ _=>Sub.refl _
theorem Sb.trans {a b c:Sets} (h:Sb a b) (k:Sb b c):Sb a c:=fun p j x i hx=>k p j x i (h p j x i hx)
end
section
open Go Go.RowKit Bth
set_option maxRecDepth 100000
theorem row_new {w:World} {n:Nat} (hcs:(madeCells #[.slice none 0 0] n).size=n):RowT (w.alloc (.cells (madeCells #[.slice none 0 0] n) 105)) w.heap.size n fun _=>[]:=by
 refine ⟨_,heap_alloc_new w _,hcs,fun k hk=>⟨none,0,?_,Rw.nil _ _ _⟩⟩
 unfold madeCells
 simp [hk,Nat.mod_one]
end
end Go.Proofs.YtbgblfiapecioaaGreat
