/- Part of the proof of a statement about pub-berthage: what its texts have in common. -/
import Derived.Test.YtjlfkgjmgghhiaaGreatP25
import Derived.Test.YtjlfkgjmgghhiaaGreatP29
import Derived.Test.YtjlfkgjmgghhiaaGreatP34
import Derived.Test.YtjlfkgjmgghhiaaGreatP35
import Derived.Test.YtjlfkgjmgghhiaaGreatP36
import Derived.Test.YtjlfkgjmgghhiaaGreatP40
namespace Go.Proofs.YtjlfkgjmgghhiaaGreat
section
open Go Go.RowKit Bth
set_option maxRecDepth 100000
noncomputable def irTail (n:Nat):Code:=seqTail n (Tryz.f36.body.getD .skip)
def memGs (ps:List PO):List G:=gsOf (ps.filter fun p=>p.kind == 2)
theorem memGs_take {ps:List PO} {k:Nat} {p:PO} (h:ps[k]? = some p):memGs (ps.take (k+1))=memGs (ps.take k) ++ (if p.kind=2 then p.gs else []):=by
 unfold memGs gsOf
 rw [take_snoc h,List.filter_append,List.flatMap_append]
 by_cases e:p.kind=2<;>simp [e]
theorem eqlG (w:World) (g g':G):(binOp .eql 117 (.agg #[.bool g.virt,.int .u8 (g.kind:Int),.int .u16 (g.idx:Int),.int .u16 (g.spec:Int)]) (.agg #[.bool g'.virt,.int .u8 (g'.kind:Int),.int .u16 (g'.idx:Int),.int .u16 (g'.spec:Int)])).run Tryz.prog w = .ok (.bool (decide (g=g'))) w:=by
 obtain ⟨v,k,i,s⟩:=g
 obtain ⟨v',k',i',s'⟩:=g'
 simp only
 have h:(Op.equalIn 10000 117 (.agg #[.bool v,.int .u8 (k:Int),.int .u16 (i:Int),.int .u16 (s:Int)]) (.agg #[.bool v',.int .u8 (k':Int),.int .u16 (i':Int),.int .u16 (s':Int)])).run Tryz.prog w = .ok (v == v' && ((k:Int) == k' && ((i:Int) == i' && (s:Int) == s'))) w:=by
  go_simp
  by_cases h1:v=v'<;>by_cases h2:(k:Int)=k'<;>by_cases h3:(i:Int)=i'<;>by_cases h4:(s:Int)=s'<;>simp [h1,h2,h3,h4]
 have e:(v == v' && ((k:Int) == k' && ((i:Int) == i' && (s:Int) == s')))=decide ((⟨v,k,i,s⟩:G)=⟨v',k',i',s'⟩):=by
  rw [Bool.eq_iff_iff]
  simp
  omega
 rw [e] at h
 simp only [binOp]
 simp [Op.equal,Op.maxDepth,h]
theorem inGs_f (i o:List PO):inGs false i o=gsOf i ++ memGs o:=by
 unfold inGs memGs
 generalize gsOf i=l
 rcases l with _ | ⟨a,_ | ⟨b,l⟩⟩<;>rfl
def canc2:List G→List G
 | g :: g' :: l=>if g=g' then [] else g :: g' :: l
 | l=>l
theorem inGs_t (i o:List PO) (l:List G) (h:gsOf i=l):inGs true i o=canc2 l ++ memGs o:=by
 subst h
 unfold inGs memGs
 generalize gsOf i=l
 rcases l with _ | ⟨a,_ | ⟨b,l⟩⟩<;>rfl
set_option maxHeartbeats 1000000 in
theorem ir_tail (w0 w:World) (ps:List PO) (gs0:List G) (A0 A:Option Addr) (c0 c:Nat) {u0 u3 u4 u5 u6 u7 u8 u9 u10 u11 u12 u13 u14 u15 u16 u17 u18 u19 u20 u21 u22 u23 u24 u25 u26 u27 u28 u29 u30 u31 u32 u33 u34 u35 u36 u37 u38 u39 u40 u41 u42 u43:Value}
  (hcell:w.cell? ⟨w0.heap.size,4,none⟩=some (.slice A ps.length c)) (hps:POsAt w0 ⟨A,ps.length,c⟩ ps) (hok:ps.all okP=true) (hl:ps.length≤1048576) (hg0:gs0.length≤2097152)
  (hown0:w.ownsRow w0.heap.size 117 4 (.slice A0 gs0.length c0) gs0.length (gsCells gs0)) (hf0:Fr nope w0 w) {G:List G} (hG:G=gs0 ++ memGs ps):
  Code.wp Tryz.prog (irTail 4) (bodyPost Tryz.prog Tryz.f36 (GivesGs2 w0 G)) ⟨#[u0,.pointer (some ⟨w0.heap.size,0,none⟩),.slice A0 gs0.length c0,u3,u4,u5,u6,u7,u8,u9,u10,u11,u12,u13,u14,u15,u16,u17,u18,u19,u20,u21,u22,u23,u24,u25,u26,u27,u28,u29,u30,u31,u32,u33,u34,u35,u36,u37,u38,u39,u40,u41,u42,u43],[]⟩ w:=by
 subst hG
 have hs0:=hf0.size
 conv=>arg 2;whnf
 go_wp2
 go_loopg [2,31] ps.length (fun n c3 c8 wr=>∃ (k:Nat) (A2:Option Addr) (c2:Nat) (gs:List G),k≤ps.length∧Hid (gs=gs0 ++ memGs (ps.take k))∧gs.length≤2097152+2*k∧c8 = .int .i64 (k:Int)∧c3 = .slice A2 gs.length c2∧wr.ownsRow w0.heap.size 117 4 (.slice A2 gs.length c2) gs.length (gsCells gs)∧Fr nope w0 wr∧n=ps.length - k)
 case atStart=>exact ⟨0,A0,c0,gs0,Nat.zero_le _,Lib.hid (by simp [memGs,gsOf]),by omega,rfl,rfl,hown0,hf0,rfl⟩
 case round=>
  obtain ⟨k,A2,c2,gs,hk,hgs,hgl,rfl,rfl,hown,hf,rfl⟩:=hrel
  have hsz:=hf.size
  by_cases hlt:k < ps.length
  ·obtain ⟨b,off,hAe,hbl,hc⟩:=(hps.nope hf).2 (by omega)
   simp only at hAe
   subst hAe
   obtain ⟨p,hpk⟩:∃ p,ps[k]? = some p:=⟨_,List.getElem?_eq_getElem hlt⟩
   have hc:=hc k p hpk
   have hT:=Lib.hid (memGs_take hpk)
   have hokp:okP p=true:=List.all_eq_true.1 hok p (List.mem_of_getElem? hpk)
   have hpl:=p.gs_len
   have hbo:=own_base hown
   have hcall:=fun W=>opRegisters_calls W p hokp
   have hgl2:∀ gp:List G,gp=p.gs→gp.length≤2:=fun gp e=>by rw [e];exact hpl
   obtain ⟨gp,hgp⟩:∃ gp,gp=p.gs:=⟨_,rfl⟩
   have hgl3:=hgl2 gp hgp
   rw [← hgp] at hcall hT
   clear hpk hps hgl2 hpl hgp hokp hcell
   obtain ⟨kind,rg,hasBase,hasIndex,base,index,scale,disp,sym,static,con,label,rel⟩:=p
   by_cases k1:kind=2
   ·subst k1
    go_wp2_with (first
     | (refine wpList_load_mid rfl _ _ rfl b (off+k*24) rfl (PO.cells ⟨2,rg,hasBase,hasIndex,base,index,scale,disp,sym,static,con,label,rel⟩).toList _ hc Tryz.underlying121 rfl (by kernel_rfl) ?_)
     | (refine wpList_storeRow (b:=wr.heap.size) (cells:=(PO.cells ⟨2,rg,hasBase,hasIndex,base,index,scale,disp,sym,static,con,label,rel⟩)) rfl rfl rfl rfl (heap_alloc_new _ _) rfl (by kernel_rfl) (by kernel_rfl) ?_;intro w2 hb2 hf2;have k0:=cell_of_row _ _ 0 _ _ (0,0) hb2;simp only [PO.cells,List.getElem?_toArray,List.getElem?_cons_zero] at k0)
     | (refine wpList_loadRow (b:=wr.heap.size) (cells:=(PO.cells ⟨2,rg,hasBase,hasIndex,base,index,scale,disp,sym,static,con,label,rel⟩)) rfl rfl rfl hb2 Tryz.underlying121 rfl (by kernel_rfl) ?_)
     | (go_at_call 75;fail))
    have hn2:Fr nope wr w2:=((Fr.refl nope wr).alloc _).then_new hf2 (fun x hx e=>by omega)
    refine (hcall w2).mono ?_
    rintro e w3 ⟨hf3,A3,c3,rfl,hown3⟩
    have hn3:=hn2.then hf3
    have hsz3:=hn3.size
    have hsrc:=(Rw.of_own hown3).src
    have hown3:=own_fr hown hn3 (fun _ _ x=>x)
    clear k0
    go_wp2_with (refine wpList_app (v:=.slice A2 gs.length c2) rfl rfl Tryz.underlying80 infoRg rfl (by omega) rfl hown3 rfl (news:=gsCells gp) (gsCells_len _) hsrc (gsCells_one _) ?hd ?he ?hf ?hk)
    case hd=>simp only [maxLen];omega
    case he=>omega
    case hf=>omega
    case hk=>
     intro v4 w4 hown4 hf4 hb4
     obtain ⟨A4,c4,rfl,_,_⟩:=own_slice hown4
     clear hb4
     go_wp2
     go_roundg (ps.length - (k+1))
     case measure=>omega
     case rel=>exact ⟨k+1,A4,c4,gs ++ gp,by omega,Lib.hid (by rw [hT.out,← List.append_assoc,← hgs.out];rfl),by rw [List.length_append];omega,by go_num,by rw [List.length_append],by rw [List.length_append,gsCells_app];exact hown4,(hf.then hn3).then_new hf4 (fun x hx e=>by have:=hbo x e;omega),rfl⟩
   ·go_wp2_with (first
     | (refine wpList_load_mid rfl _ _ rfl b (off+k*24) rfl (PO.cells ⟨kind,rg,hasBase,hasIndex,base,index,scale,disp,sym,static,con,label,rel⟩).toList _ hc Tryz.underlying121 rfl (by kernel_rfl) ?_)
     | (refine wpList_storeRow (b:=wr.heap.size) (cells:=(PO.cells ⟨kind,rg,hasBase,hasIndex,base,index,scale,disp,sym,static,con,label,rel⟩)) rfl rfl rfl rfl (heap_alloc_new _ _) rfl (by kernel_rfl) (by kernel_rfl) ?_;intro w2 hb2 hf2;have k0:=cell_of_row _ _ 0 _ _ (0,0) hb2;simp only [PO.cells,List.getElem?_toArray,List.getElem?_cons_zero] at k0))
    have hn2:Fr nope wr w2:=((Fr.refl nope wr).alloc _).then_new hf2 (fun x hx e=>by omega)
    go_roundg (ps.length - (k+1))
    case measure=>omega
    case rel=>exact ⟨k+1,A2,c2,gs,by omega,Lib.hid (by rw [hT.out,← List.append_assoc,← hgs.out];simp [k1]),by omega,by go_num,rfl,own_fr hown hn2 (fun _ _ x=>x),hf.then hn2,rfl⟩
  ·rw [take_all hlt] at hgs
   obtain rfl:=hgs.out
   go_wp2
   go_ret2
   exact ⟨hf,A2,c2,by rw [List.length_append];rfl,hown⟩
set_option maxHeartbeats 2000000 in
theorem spInputRegisters_calls (w:World) (B:Nat) (p:PI) (h:p.At w B) (hok:okI p=true):Calls Tryz.prog 36 #[p.agg] w (GivesGs2 w (inGs p.canc p.inp p.out)):=by
 have hO:=fun W (hW:Fr nope w W)=>InstrOK_calls W B p (h.fr hW (fun _ _ x=>x))
 have hoks:=hok
 unfold okI at hoks
 simp only [Bool.and_eq_true] at hoks
 unfold GivesB at hO
 rw [hok] at hO
 have hps:=h.out
 have hl:=h.few.2.2.2.1
 have hl1:=h.few.2.2.1
 have hn:p.outV.n=p.out.length:=h.out.1
 have hir:=fun W (hW:Fr nope w W)=>irRegisters_calls W p.inpV p.inp (h.inp.nope hW) hoks.1.2 hl1
 clear h
 obtain ⟨opc,⟨A1,n1,c1⟩,suf,⟨A2,n2,c2⟩,ops,⟨A3,n3,c3⟩,inp,⟨A4,n4,c4⟩,ps,term,br,cond,canc,⟨A5,n5,c5⟩,isa⟩:=p
 simp only at hl hps hn hl1
 subst hn
 have hgl:(gsOf inp).length≤2097152:=by
  have:∀ l:List PO,(gsOf l).length≤2*l.length:=fun l=>by
   induction l with
   | nil=>simp [gsOf]
   | cons q l ih=>
    have e:gsOf (q :: l)=q.gs ++ gsOf l:=rfl
    have:=q.gs_len
    rw [e,List.length_append,List.length_cons];omega
  have:=this inp
  omega
 obtain ⟨G,hG⟩:∃ G,G=inGs canc inp ps:=⟨_,rfl⟩
 obtain ⟨gi,hgi⟩:∃ gi,gi=gsOf inp:=⟨_,rfl⟩
 simp only [PI.agg,PI.cells,SV.val] at hO hir ⊢
 rw [← hgi] at hir hgl
 rw [← hG]
 replace hG:=Lib.hid hG
 replace hgi:=Lib.hid hgi
 replace hO:=Lib.hid hO
 replace hir:=Lib.hid hir
 go_enter Tryz.func36,Tryz.ntmps36
 go_wp2_with (refine wpList_loadRow (b:=w.heap.size) rfl rfl rfl (heap_alloc_new w _) Tryz.underlying55 rfl (by kernel_rfl) ?_)
 refine (hO.out _ ((Fr.refl _ _).alloc _)).mono ?_
 rintro e w1 ⟨rfl,hf1⟩
 have hb1:=hf1.heap (heap_alloc_new w _) (fun x=>x)
 have hc1:=cell_of_row _ _ 3 _ _ (0,0) hb1
 simp only [List.getElem?_toArray,List.getElem?_cons_succ,List.getElem?_cons_zero] at hc1
 have hn1:Fr nope w w1:=((Fr.refl _ _).alloc _).then hf1
 clear hO
 go_wp2_with fail
 refine (hir.out _ hn1).mono ?_
 rintro e w2 ⟨hf2,Ag,cg,rfl,hown2⟩
 have hb2:=hf2.heap hb1 (fun x=>x)
 have hn2:=hn1.then hf2
 have hc4:=cell_of_row _ _ 4 _ _ (0,0) hb2
 have hc8:=cell_of_row _ _ 8 _ _ (0,0) hb2
 simp only [List.getElem?_toArray,List.getElem?_cons_succ,List.getElem?_cons_zero] at hc4 hc8
 have hown2:=own_le hown2 hn1.size
 clear hb1 hb2 hc1 hir hf1
 cases canc with
 | false=>
  have hG':G=gi ++ memGs ps:=by rw [hG.out,inGs_f,← hgi.out]
  clear hG
  go_wp2
  go_quiet (fail)
  repeat (first | exact ir_tail w (w2.drewN _) ps gi Ag A4 cg c4 hc4 hps hoks.2 hl hgl hown2 (hn2.drewN _) hG' | go_step | go_back)
 | true=>
  rcases gi with _ | ⟨g,_ | ⟨g',l⟩⟩
  ·have hG':G=[] ++ memGs ps:=by rw [hG.out,inGs_t _ _ _ hgi.out.symm];rfl
   clear hG
   go_wp2
   go_quiet (fail)
   repeat (first | exact ir_tail w (w2.drewN _) ps [] Ag A4 cg c4 hc4 hps hoks.2 hl hgl hown2 (hn2.drewN _) hG' | go_step | go_back)
  ·have hG':G=[g] ++ memGs ps:=by rw [hG.out,inGs_t _ _ _ hgi.out.symm];rfl
   clear hG
   go_wp2
   go_quiet (fail)
   repeat (first | exact ir_tail w (w2.drewN _) ps [g] Ag A4 cg c4 hc4 hps hoks.2 hl hgl hown2 (hn2.drewN _) hG' | go_step | go_back)
  ·obtain ⟨gb,hA,hgb,hcs⟩:=own_cells hown2 (by simp)
   subst hA
   obtain ⟨n,hlen⟩:∃ n,n=(g :: g' :: l).length:=⟨_,rfl⟩
   have hge:2≤n:=by rw [hlen];simp
   rw [← hlen]
   have hgt:(1:Int) < (n:Int):=by omega
   have hgt0:(0:Int) < (n:Int):=by omega
   have hg0:(0:Nat) < n:=by omega
   have hg1:(1:Nat) < n:=by omega
   replace hlen:=Lib.hid hlen
   have d0:=hcs 0 _ rfl
   have d1:=hcs 1 _ rfl
   have d2:=hcs 2 _ rfl
   have d3:=hcs 3 _ rfl
   have d4:=hcs 4 _ rfl
   have d5:=hcs 5 _ rfl
   have d6:=hcs 6 _ rfl
   have d7:=hcs 7 _ rfl
   clear hcs
   have hG1:g=g'→G=[] ++ memGs ps:=fun e=>by rw [hG.out,inGs_t _ _ _ hgi.out.symm];simp [canc2,e]
   have hG2:g≠g'→G=(g :: g' :: l) ++ memGs ps:=fun e=>by rw [hG.out,inGs_t _ _ _ hgi.out.symm];simp [canc2,e]
   replace hG1:=Lib.hid hG1
   replace hG2:=Lib.hid hG2
   clear hG hgi
   have heql:=fun m=>eqlG (w2.drewN m) g g'
   by_cases e:g=g'
   ·subst e
    have hG':=hG1.out rfl
    rw [decide_eq_true rfl] at heql
    clear hG1 hG2
    go_wp2
    go_quiet (fail)
    repeat (first | exact ir_tail w (w2.drewN _) ps [] none A4 0 c4 hc4 hps hoks.2 hl (by simp) (own_nil _ _ _ _) (hn2.drewN _) hG' | go_step | go_back)
   ·have hG':=Lib.hid (hG2.out e)
    clear hG1 hG2
    by_cases e1:g.virt=g'.virt
    ·by_cases e2:(g.kind:Int)=g'.kind
     ·by_cases e3:(g.idx:Int)=g'.idx
      ·by_cases e4:(g.spec:Int)=g'.spec
       ·exfalso
        obtain ⟨v,k,i,s⟩:=g
        obtain ⟨v',k',i',s'⟩:=g'
        simp only at e1 e2 e3 e4
        exact e (by rw [e1,Int.ofNat_inj.1 e2,Int.ofNat_inj.1 e3,Int.ofNat_inj.1 e4])
       ·clear e heql
        go_wp2
        go_quiet (fail)
        rw [hlen.out]
        repeat (first | exact ir_tail w (w2.drewN _) ps (g :: g' :: l) (some ⟨gb,0,none⟩) A4 cg c4 hc4 hps hoks.2 hl hgl hown2 (hn2.drewN _) hG'.out | go_step | go_back)
      ·clear e heql
       go_wp2
       go_quiet (fail)
       rw [hlen.out]
       repeat (first | exact ir_tail w (w2.drewN _) ps (g :: g' :: l) (some ⟨gb,0,none⟩) A4 cg c4 hc4 hps hoks.2 hl hgl hown2 (hn2.drewN _) hG'.out | go_step | go_back)
     ·clear e heql
      go_wp2
      go_quiet (fail)
      rw [hlen.out]
      repeat (first | exact ir_tail w (w2.drewN _) ps (g :: g' :: l) (some ⟨gb,0,none⟩) A4 cg c4 hc4 hps hoks.2 hl hgl hown2 (hn2.drewN _) hG'.out | go_step | go_back)
    ·clear e heql
     go_wp2
     go_quiet (fail)
     rw [hlen.out]
     repeat (first | exact ir_tail w (w2.drewN _) ps (g :: g' :: l) (some ⟨gb,0,none⟩) A4 cg c4 hc4 hps hoks.2 hl hgl hown2 (hn2.drewN _) hG'.out | go_step | go_back)
end
section
open Go Go.RowKit Bth
set_option maxRecDepth 100000
def tlV (x:Nat × Nat):List Value:=[.int .u32 (x.1:Int),.int .u16 (x.2:Int)]
def tlCells (s:TL):List Value:=s.flatMap tlV
theorem tlV_len (x:Nat × Nat):(tlV x).length=2:=rfl
theorem tlCells_app (a b:TL):tlCells (a ++ b)=tlCells a ++ tlCells b:=List.flatMap_append
def TlAt (w:World) (A:Option Addr) (s:TL):Prop:=Rw w 77 2 A s.length (tlCells s)
theorem infoLv:(Tryz.prog.info? 77).map (fun i=>(i.zero,i.size,i.bytes))=some (some (.agg #[.int .u32 0,.int .u16 0]),2,8):=by kernel_rfl
theorem Tidy.len {s:TL} (h:Tidy s):s.length≤4294967296:=by
 have key:∀ {s:TL},Tidy s→∀ lo,(∀ x∈s,lo≤x.1)→s.length≤4294967296 - lo:=by
  intro s h
  induction h with
  | nil=>intro lo _;simp
  | @cons x t _ h1 _ _ h4 ih=>
   intro lo hlo
   have:=hlo x (by simp)
   have:=ih (x.1+1) (fun y hy=>h1 y hy)
   rw [List.length_cons]
   omega
 have:=key h 0 (fun _ _=>Nat.zero_le _)
 omega
theorem mIns_skip {id m:Nat} : ∀ {a b:TL},(∀ x∈a,x.1 < id)→mIns id m (a ++ b)=a ++ mIns id m b:=by
 intro a
 induction a with
 | nil=>intro b _;rfl
 | cons x a ih=>
  intro b h
  rw [List.cons_append,mIns,if_pos (h x (by simp)),ih fun y hy=>h y (by simp [hy])]
  rfl
theorem drop_cons {α : Type} {l:List α} {k:Nat} {x:α} (h:l[k]? = some x):l.drop k=x :: l.drop (k+1):=by
 obtain ⟨hl,e⟩:=List.getElem?_eq_some_iff.1 h
 rw [← e]
 exact List.drop_eq_getElem_cons hl
def AddIt (s:TL) (id m k:Nat) (done:Bool) (out:TL):Prop:=if done then out ++ s.drop k=mIns id m s else out=s.take k∧∀ x∈s.take k,x.1 < id
def GivesTL (w:World) (s:TL) (e:Ending) (w':World):Prop:=Fr nope w w'∧∃ A c,e = .returned (.slice A s.length c)∧TlAt w' A s
set_option maxHeartbeats 2000000 in
theorem maskAdd_calls (w:World) (A:Option Addr) (c:Nat) (s:TL) (id m:Nat) (h:TlAt w A s) (hs:Tidy s) (hm:m < 65536):Calls Tryz.prog 121 #[.slice A s.length c,.int .u32 (id:Int),.int .u16 (m:Int)] w (GivesTL w (mAdd s id m)):=by
 have hsl:=hs.len
 by_cases h0:m=0
 ·subst h0
  have e:mAdd s id 0=s:=by simp [mAdd]
  rw [e]
  go_enter Tryz.func121,Tryz.ntmps121
  go_wp2
  go_ret
  exact ⟨Fr.refl _ _,A,c,rfl,h⟩
 have h0':((m:Int) == 0)=false:=by simp;omega
 have e:mAdd s id m=mIns id m s:=by simp [mAdd,h0]
 rw [e]
 clear e
 obtain ⟨R,hR⟩:∃ R,R=mIns id m s:=⟨_,rfl⟩
 rw [← hR]
 replace hR:=Lib.hid hR
 go_enter Tryz.func121,Tryz.ntmps121
 go_wp2
 clear h0 h0'
 go_loopg [7,8,9] s.length (fun n c7 c8 c9 wr=>∃ (k:Nat) (done:Bool) (out:TL) (A2:Option Addr) (c2:Nat),k≤s.length∧out.length≤k+1∧Hid (AddIt s id m k done out)∧c9 = .int .i64 (k:Int)∧c8 = .bool done∧c7 = .slice A2 out.length c2∧wr.ownsRow w.heap.size 77 2 (.slice A2 out.length c2) out.length (tlCells out)∧Fr nope w wr∧n=s.length - k)
 case atStart=>exact ⟨0,false,[],none,0,Nat.zero_le _,by simp,Lib.hid (by simp [AddIt]),rfl,rfl,rfl,own_nil _ _ _ _,Fr.refl _ _,rfl⟩
 case round=>
  obtain ⟨k,done,out,A2,c2,hk,hol,hit,rfl,rfl,rfl,hown,hf,rfl⟩:=hrel
  have hsz:=hf.size
  have hbo:=own_base hown
  by_cases hlt:k < s.length
  ·obtain ⟨⟨x1,x2⟩,hx⟩:∃ x,s[k]? = some x:=⟨_,List.getElem?_eq_getElem hlt⟩
   obtain ⟨b,off,hAe,hbl,hr⟩:=h.at_ tlV_len hx
   subst hAe
   have hw0:∀ W,Fr nope w W→W.cell? ⟨b,off+k*2,none⟩=some (.int .u32 (x1:Int)):=fun W hW=>hW.cell (hr 0 _ rfl) (fun x=>x)
   have hw1:∀ W,Fr nope w W→W.cell? ⟨b,off+k*2+1,none⟩=some (.int .u16 (x2:Int)):=fun W hW=>hW.cell (hr 1 _ rfl) (fun x=>x)
   have hc0:=hw0 wr hf
   have hc1:=hw1 wr hf
   replace hw0:=Lib.hid hw0
   replace hw1:=Lib.hid hw1
   have hx2:x2 < 65536:=(hs.bound _ (List.mem_of_getElem? hx)).2.1
   have hor:=u16_or x2 m hx2 hm
   have hD:=Lib.hid (drop_cons hx)
   have hT:=Lib.hid (take_snoc hx)
   clear hr hx
   have hstep:∀ (done':Bool) (out':TL) {W:World} {A3:Option Addr} {c3 n3:Nat},n3=out'.length→out'.length≤k+2→AddIt s id m (k+1) done' out'→W.ownsRow w.heap.size 77 2 (.slice A3 n3 c3) n3 (tlCells out')→Fr nope w W →
     ∃ (k':Nat) (done:Bool) (o:TL) (A2:Option Addr) (c2:Nat),k'≤s.length∧o.length≤k'+1∧Hid (AddIt s id m k' done o)∧Value.int .i64 ((k:Int)+1) = .int .i64 (k':Int)∧Value.bool done' = .bool done∧Value.slice A3 n3 c3 = .slice A2 o.length c2∧W.ownsRow w.heap.size 77 2 (.slice A2 o.length c2) o.length (tlCells o)∧Fr nope w W∧s.length - (k+1)=s.length - k':=
    fun done' out' W A3 c3 n3 h1 h1' h2 h3 h4=>by
     subst h1
     exact ⟨k+1,done',out',A3,c3,by omega,by omega,Lib.hid h2,by simp,rfl,rfl,h3,h4,rfl⟩
   replace hstep:=Lib.hid hstep
   cases done with
   | true=>
    have ha:AddIt s id m (k+1) true (out ++ [(x1,x2)]):=by
     have h1:=hit.out
     simp only [AddIt,if_true] at h1 ⊢
     rw [hD.out] at h1
     rw [← h1];simp
    replace ha:=Lib.hid ha
    go_wp2_with (first
     | (refine wpList_build1 (l:=tlV (x1,x2)) rfl rfl rfl Tryz.underlying49 infoLv rfl (by omega) (by decide) ?_)
     | refine wpList_app (v:=.slice A2 out.length c2) rfl rfl Tryz.underlying49 infoLv rfl (by omega) rfl (own_fr hown ((Fr.refl nope _).alloc _) (fun _ _ x=>x)) rfl (news:=tlV (x1,x2)) rfl (fun _=>cells_new _ _ _ _ (by simp)) (by simp [tlV,Value.oneCell']) (by simp only [maxLen];omega) (by omega) (by simp;omega) ?hk)
    case hk=>
     intro v4 w4 hown4 hf4 hb4
     obtain ⟨A4,c4,rfl,_,_⟩:=own_slice hown4
     clear hb4
     go_wp2
     go_roundg (s.length - (k+1))
     case measure=>omega
     case rel=>exact hstep.out true (out ++ [(x1,x2)]) (by simp) (by simp;omega) ha.out (by rw [tlCells_app];simpa [tlCells] using hown4) ((hf.alloc _).then_new hf4 (fun x hx e=>by have:=hbo x e;omega))
   | false=>
    obtain ⟨he,hlow⟩:out=s.take k∧∀ x∈s.take k,x.1 < id:=hit.out
    have hsk:mIns id m s=out ++ mIns id m ((x1,x2) :: s.drop (k+1)):=by
     conv=>lhs;rw [← List.take_append_drop k s,hD.out]
     rw [mIns_skip hlow,he]
    have hol2:out.length≤k:=by rw [he,List.length_take];omega
    clear he
    replace hlow:=Lib.hid hlow
    by_cases hge:id≤x1
    ·have hge':(id:Int)≤(x1:Int):=by omega
     by_cases heq:x1=id
     ·have ha:AddIt s id m (k+1) true (out ++ [(id,x2 ||| m)]):=by
       simp only [AddIt,if_true]
       rw [hsk,mIns,if_neg (by simp only;omega),if_pos heq];simp
      replace ha:=Lib.hid ha
      replace hsk:=Lib.hid hsk
      subst heq
      replace hor:=Lib.hid hor
      go_wp2_with (first
       | (refine wpList_build1 (l:=tlV (x1,x2 ||| m)) rfl rfl (by rw [tlV,← hor.out];rfl) Tryz.underlying49 infoLv rfl (by omega) (by decide) ?_)
       | refine wpList_app (v:=.slice A2 out.length c2) rfl rfl Tryz.underlying49 infoLv rfl (by omega) rfl (own_fr hown ((Fr.refl nope _).alloc _) (fun _ _ x=>x)) rfl (news:=tlV (x1,x2 ||| m)) rfl (fun _=>cells_new _ _ _ _ (by simp)) (by simp [tlV,Value.oneCell']) (by simp only [maxLen];omega) (by omega) (by simp;omega) ?hk)
      case hk=>
       intro v4 w4 hown4 hf4 hb4
       obtain ⟨A4,c4,rfl,_,_⟩:=own_slice hown4
       clear hb4
       go_wp2
       go_roundg (s.length - (k+1))
       case measure=>omega
       case rel=>exact hstep.out true (out ++ [(x1,x2 ||| m)]) (by simp) (by simp;omega) ha.out (by rw [tlCells_app];simpa [tlCells] using hown4) ((hf.alloc _).then_new hf4 (fun x hx e=>by have:=hbo x e;omega))
     ·have heq':(x1:Int)≠(id:Int):=by omega
      have ha:AddIt s id m (k+1) true (out ++ [(id,m)] ++ [(x1,x2)]):=by
       simp only [AddIt,if_true]
       rw [hsk,mIns,if_neg (by simp only;omega),if_neg heq];simp
      replace ha:=Lib.hid ha
      replace hsk:=Lib.hid hsk
      clear hor
      go_wp2_with (first
       | (refine wpList_build1 (l:=tlV (id,m)) rfl rfl rfl Tryz.underlying49 infoLv rfl (by omega) (by decide) ?_)
       | refine wpList_app (v:=.slice A2 out.length c2) rfl rfl Tryz.underlying49 infoLv rfl (by omega) rfl (own_fr hown ((Fr.refl nope _).alloc _) (fun _ _ x=>x)) rfl (news:=tlV (id,m)) rfl (fun _=>cells_new _ _ _ _ (by simp)) (by simp [tlV,Value.oneCell']) (by simp only [maxLen];omega) (by omega) (by simp;omega) ?hk)
      case hk=>
       intro v3 w3 hown3 hf3 hb3
       obtain ⟨A3,c3,rfl,_,_⟩:=own_slice hown3
       clear hb3
       have hn3:Fr nope w w3:=(hf.alloc _).then_new hf3 (fun x hx e=>by have:=hbo x e;omega)
       have hc0:=hw0.out w3 hn3
       have hc1:=hw1.out w3 hn3
       have hbo3:=own_base hown3
       have hsz3:=hn3.size
       go_wp2_with (first
        | (refine wpList_build1 (l:=tlV (x1,x2)) rfl rfl rfl Tryz.underlying49 infoLv rfl (by omega) (by decide) ?_)
        | refine wpList_app (v:=.slice A3 (out.length+1) c3) rfl rfl Tryz.underlying49 infoLv rfl (by omega) rfl (own_fr hown3 ((Fr.refl nope _).alloc _) (fun _ _ x=>x)) rfl (news:=tlV (x1,x2)) rfl (fun _=>cells_new _ _ _ _ (by simp)) (by simp [tlV,Value.oneCell']) (by simp only [maxLen];omega) (by omega) (by simp;omega) ?hm)
       case hm=>
        intro v4 w4 hown4 hf4 hb4
        obtain ⟨A4,c4,rfl,_,_⟩:=own_slice hown4
        clear hb4
        go_wp2
        go_roundg (s.length - (k+1))
        case measure=>omega
        case rel=>exact hstep.out true (out ++ [(id,m)] ++ [(x1,x2)]) (by simp) (by simp;omega) ha.out (by rw [tlCells_app];simpa [tlCells] using hown4) ((hn3.alloc _).then_new hf4 (fun x hx e=>by have:=hbo3 x e;omega))
    ·have hge':¬(id:Int)≤(x1:Int):=by omega
     have ha:AddIt s id m (k+1) false (out ++ [(x1,x2)]):=by
      obtain ⟨he,hl⟩:out=s.take k∧∀ x∈s.take k,x.1 < id:=hit.out
      show out ++ [(x1,x2)]=s.take (k+1)∧∀ x∈s.take (k+1),x.1 < id
      rw [hT.out,← he]
      refine ⟨rfl,fun x hx=>?_⟩
      rcases List.mem_append.1 hx with hx | hx
      ·exact hl x (by rw [← he];exact hx)
      ·obtain rfl:x=(x1,x2):=by simpa using hx
       show x1 < id
       omega
     replace ha:=Lib.hid ha
     replace hsk:=Lib.hid hsk
     clear hor
     go_wp2_with (first
      | (refine wpList_build1 (l:=tlV (x1,x2)) rfl rfl rfl Tryz.underlying49 infoLv rfl (by omega) (by decide) ?_)
      | refine wpList_app (v:=.slice A2 out.length c2) rfl rfl Tryz.underlying49 infoLv rfl (by omega) rfl (own_fr hown ((Fr.refl nope _).alloc _) (fun _ _ x=>x)) rfl (news:=tlV (x1,x2)) rfl (fun _=>cells_new _ _ _ _ (by simp)) (by simp [tlV,Value.oneCell']) (by simp only [maxLen];omega) (by omega) (by simp;omega) ?hk)
     case hk=>
      intro v4 w4 hown4 hf4 hb4
      obtain ⟨A4,c4,rfl,_,_⟩:=own_slice hown4
      clear hb4
      go_wp2
      go_roundg (s.length - (k+1))
      case measure=>omega
      case rel=>exact hstep.out false (out ++ [(x1,x2)]) (by simp) (by simp;omega) ha.out (by rw [tlCells_app];simpa [tlCells] using hown4) ((hf.alloc _).then_new hf4 (fun x hx e=>by have:=hbo x e;omega))
  ·have hdr:s.drop k=[]:=List.drop_eq_nil_of_le (by omega)
   cases done with
   | true=>
    obtain rfl:R=out:=by
     have h1:=hit.out
     simp only [AddIt,if_true,hdr,List.append_nil] at h1
     rw [hR.out,h1]
    go_wp2
    go_ret
    exact ⟨hf,A2,c2,rfl,Rw.of_own hown⟩
   | false=>
    have hres:R=out ++ [(id,m)]:=by
     rw [hR.out]
     obtain ⟨he,hl⟩:out=s.take k∧∀ x∈s.take k,x.1 < id:=hit.out
     have e:s=s.take k ++ []:=by rw [List.append_nil,take_all hlt]
     conv=>lhs;rw [e]
     rw [mIns_skip hl,he];rfl
    subst hres
    clear hdr
    go_wp2_with (first
     | (refine wpList_build1 (l:=tlV (id,m)) rfl rfl rfl Tryz.underlying49 infoLv rfl (by omega) (by decide) ?_)
     | refine wpList_app (v:=.slice A2 out.length c2) rfl rfl Tryz.underlying49 infoLv rfl (by omega) rfl (own_fr hown ((Fr.refl nope _).alloc _) (fun _ _ x=>x)) rfl (news:=tlV (id,m)) rfl (fun _=>cells_new _ _ _ _ (by simp)) (by simp [tlV,Value.oneCell']) (by simp only [maxLen];omega) (by omega) (by simp;omega) ?hk)
    case hk=>
     intro v4 w4 hown4 hf4 hb4
     obtain ⟨A4,c4,rfl,_,_⟩:=own_slice hown4
     clear hb4
     go_wp2
     go_ret
     have hl:(out ++ [(id,m)]).length=out.length+1:=by simp
     refine ⟨(hf.alloc _).then_new hf4 (fun x hx e=>by have:=hbo x e;omega),A4,c4,by rw [hl];rfl,?_⟩
     rw [TlAt,hl,tlCells_app]
     exact Rw.of_own hown4
end
end Go.Proofs.YtjlfkgjmgghhiaaGreat
