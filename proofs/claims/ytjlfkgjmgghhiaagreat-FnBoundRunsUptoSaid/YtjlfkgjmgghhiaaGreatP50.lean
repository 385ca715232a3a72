/- Part of the proof of a statement about pub-berthage: what its texts have in common. -/
import Derived.Test.YtjlfkgjmgghhiaaGreatP30
import Derived.Test.YtjlfkgjmgghhiaaGreatP38
import Derived.Test.YtjlfkgjmgghhiaaGreatP46
import Derived.Test.YtjlfkgjmgghhiaaGreatP49
namespace Go.Proofs.YtjlfkgjmgghhiaaGreat
section
open Go Go.RowKit Bth
set_option maxRecDepth 100000
theorem PI.At.up {w:World} {B B':Nat} {p:PI} (h:p.At w B) (hB:B≤B'):p.At w B':={ h with below:=fun s hs hn b off e=>Nat.lt_of_lt_of_le (h.below s hs hn b off e) hB }
theorem PN.At.up {w:World} {B B':Nat} {p:PN} (h:p.At w B) (hB:B≤B'):p.At w B':={ h with ins:=h.ins.up hB,below:=fun hn b off e=>Nat.lt_of_lt_of_le (h.below hn b off e) hB }
theorem NodesAt.up {w:World} {B B':Nat} {s:SV} {ns:List PN} (h:NodesAt w B s ns) (hB:B≤B'):NodesAt w B' s ns:={ h with
 row:=fun hl=>by obtain ⟨b,off,h1,h2,h3,h4⟩:=h.row hl;exact ⟨b,off,h1,Nat.lt_of_lt_of_le h2 hB,h3,h4⟩
 each:=fun p hp=>(h.each p hp).up hB }
theorem ofPairs_fold (l:List (Nat × Nat)):∀ (F:Nat→Option Nat) (x:Nat),(∀ y,l.foldl (fun f p x=>if x=p.1 then some p.2 else f x) F x=some y→(x,y)∈l∨F x=some y)∧((F x≠none∨∃ y,(x,y)∈l)→l.foldl (fun f p x=>if x=p.1 then some p.2 else f x) F x≠none):=by
 induction l with
 | nil=>exact fun F x=>⟨fun y h=>.inr h,fun h=>h.elim id fun ⟨y,hy⟩=>by cases hy⟩
 | cons p l ih=>
  intro F x
  rw [List.foldl_cons]
  obtain ⟨i1,i2⟩:=ih (fun x=>if x=p.1 then some p.2 else F x) x
  refine ⟨fun y h=>?_,fun h=>i2 ?_⟩
  ·rcases i1 y h with h | h
   ·exact .inl (List.mem_cons_of_mem _ h)
   ·by_cases e:x=p.1
    ·rw [if_pos e] at h
     injection h with h
     exact .inl (by rw [e,← h];exact List.mem_cons_self)
    ·rw [if_neg e] at h;exact .inr h
  ·by_cases e:x=p.1
   ·exact .inl (by simp [e])
   ·rw [if_neg e]
    rcases h with h | ⟨y,hy⟩
    ·exact .inl h
    ·rcases List.mem_cons.1 hy with hy | hy
     ·exact absurd (congrArg Prod.fst hy) e
     ·exact .inr ⟨y,hy⟩
theorem PairsOf.eq {f:Nat→Option Nat} {l:List (Nat × Nat)} (h:PairsOf f l):ofPairs l=f:=by
 funext x
 obtain ⟨i1,i2⟩:=ofPairs_fold l (fun _=>none) x
 cases hf:f x with
 | none=>
  cases ho:ofPairs l x with
  | none=>rfl
  | some y=>
   rcases i1 y ho with hm | hm
   ·have:=(h.1 _).1 hm;rw [hf] at this;cases this
   ·cases hm
 | some y=>
  have hm:(x,y)∈l:=(h.1 (x,y)).2 hf
  cases ho:ofPairs l x with
  | none=>exact absurd ho (i2 (.inr ⟨y,hm⟩))
  | some z=>
   rcases i1 z ho with hz | hz
   ·have:=(h.1 _).1 hz;rw [hf] at this;exact this.symm
   ·cases hz
def BulkP (ns:List PN):Prop:=sumL (fun p:PI=>p.ops.length+p.inp.length+p.out.length) (insP ns)≤1048576
theorem sumL_le {α : Type} {f g:α → Nat} {l:List α} (h:∀ x∈l,f x≤g x):sumL f l≤sumL g l:=by
 unfold sumL
 induction l with
 | nil=>exact Nat.le_refl _
 | cons x l ih=>
  have h1:=h x (by simp)
  have h2:=ih fun y hy=>h y (by simp [hy])
  simp only [List.map_cons,List.sum_cons]
  omega
theorem sumL_two {α : Type} {f:α → Nat} {l:List α} : sumL (fun x=>2*f x) l=2*sumL f l:=by
 unfold sumL
 induction l with
 | nil=>rfl
 | cons x l ih=>simp only [List.map_cons,List.sum_cons,ih];omega
theorem whole_kind {g:G} (h:wholeG g=true):1≤g.kind∧g.kind≤3:=by
 unfold wholeG at h
 split at h
 ·omega
 ·split at h
  ·omega
  ·split at h
   ·omega
   ·cases h
theorem okG_kind {g:G} (h:okG g=true) (hw:g.virt=true→wholeG g=true):g.kind≤3:=by
 cases hv:g.virt with
 | true=>exact (whole_kind (hw hv)).2
 | false=>
  unfold okG at h
  rw [hv] at h
  simp only [Bool.false_or,Bool.and_eq_true,decide_eq_true_eq] at h
  exact h.1
theorem insP_ok {ns:List PN} (hok:ns.all okN=true):∀ p∈insP ns,okI p=true:=fun p hp=>by
 obtain ⟨n',hn',e⟩:=List.mem_map.1 hp
 obtain ⟨h1,h2⟩:=List.mem_filter.1 hn'
 have h3:=List.all_eq_true.1 hok n' h1
 unfold okN at h3
 rw [if_pos (by simpa using h2),e] at h3
 exact h3
theorem gs_okI {p:PI} (h:okI p=true):∀ g∈p.gs,okG g=true:=fun g hg=>by
 unfold okI at h
 simp only [Bool.and_eq_true] at h
 unfold PI.gs at hg
 rcases List.mem_append.1 hg with hg | hg
 ·rcases List.mem_append.1 hg with hg | hg
  ·exact gsOf_okG h.1.1 g hg
  ·exact gsOf_okG h.1.2 g hg
 ·exact gsOf_okG h.2 g hg
theorem UsualP.kind {ns:List PN} (h:UsualP ns):∀ p∈insP ns,∀ g∈p.gs,g.kind≤3:=fun p hp g hg=>okG_kind (gs_okI (insP_ok h.2.1 p hp) g hg) ((h.2.2 p hp).1 g hg)
theorem UsualP.af {ns:List PN} (h:UsualP ns) (hops:∀ p∈insP ns,p.Ok) (hb:BulkP ns):AFOk ns:=by
 have h1:sumL (fun p:PI=>(outGs p.out).length) (insP ns)≤1048576:=Nat.le_trans (sumL_le fun p _=>by have:=outGs_le p.out;omega) hb
 have h2:sumL (fun p:PI=>(inGs p.canc p.inp p.out).length) (insP ns)≤2097152:=by
  refine Nat.le_trans (sumL_le (g:=fun p:PI=>2*(p.ops.length+p.inp.length+p.out.length)) fun p _=>by have:=inGs_le p.canc p.inp p.out;omega) ?_
  rw [sumL_two]
  unfold BulkP at hb
  omega
 have h3:sumL (fun p:PI=>(gsOf p.ops).length) (insP ns)≤2097152:=by
  refine Nat.le_trans (sumL_le (g:=fun p:PI=>2*(p.ops.length+p.inp.length+p.out.length)) fun p _=>by have:=gsOf_le p.ops;omega) ?_
  rw [sumL_two]
  unfold BulkP at hb
  omega
 refine ⟨h.2.1,hops,fun p hp hc=>(h.2.2 p hp).2.2 hc,fun p hp g hg=>h.kind p hp g (by unfold PI.gs;simp [hg]),fun p hp g hg=>(h.2.2 p hp).2.1 g (outGs_mem hg),?_,by omega⟩
 exact Nat.le_trans (Nat.mul_le_mul (Nat.add_le_add_right h1 1) h2) (by decide)
theorem FewI.few {ns:List PN} (h:FewI (insP ns)) (hu:UsualP ns):FewP (insP ns):=by
 obtain ⟨L,h1,h2,h3⟩:=h
 refine ⟨fun k=>if k≤3 then L k else [],fun k=>?_,by simp [h2],fun p hp g hg=>?_⟩
 ·show (if k≤3 then L k else []).length≤4
  split
  ·rename_i e;exact h1 k e
  ·simp
 ·show g.id∈if g.kind≤3 then L g.kind else []
  rw [if_pos (hu.kind p hp g hg)]
  exact h3 p hp g hg
theorem few_fit {ns:List PN} (hu:UsualP ns) (hok:AFOk ns) (hg:∃ sc,GraphP ns sc) (hn:AFRes ns none):¬FewI (insP ns):=fun h=>af_few hok hg (h.few hu) hn
end
section
open Go Go.RowKit Bth
set_option maxRecDepth 100000
theorem results_tmp4 {fn:Func} {t u v x:Tmp} (h:fn.results = #[.tmp t,.tmp u,.tmp v,.tmp x]) (tmps:Array Value) (P:Program) (w:World):
  (results fn tmps).run P w = .ok (.tuple #[tmps.getD t undef,tmps.getD u undef,tmps.getD v undef,tmps.getD x undef]) w:=by
 simp [results,h]
def GivesAl (w:World) (ns:List PN) (e:Ending) (w':World):Prop:=Fr nope w w'∧((∃ x y,e = .returned (.tuple #[x,y,.bool false,.bool false])) ∨
 ∃ (A:Option Addr) (c:Nat) (l:List (Nat × Nat)) (A':Option Addr) (c':Nat) (ns':List PN) (f:Nat→Option Nat),e = .returned (.tuple #[.slice A l.length c,.slice A' ns'.length c',.bool true,.bool false])∧PairsAt w' A l∧l.length≤1000000000∧ofPairs l=f∧AFRes ns (some f)∧AFOk ns∧UsualP ns∧NodesAt w' w'.heap.size ⟨A',ns'.length,c'⟩ ns'∧BoundN f ns ns')
set_option maxHeartbeats 4000000 in
theorem allocated_calls (w:World) (B:Nat) (s:SV) (ns:List PN) (hN:NodesAt w B s ns) (hB:B≤w.heap.size) (hb:BulkP ns):Calls Tryz.prog 8 #[s.val] w (GivesAl w ns):=by
 have hU:=usual_calls w B s ns hN hB
 have hFG:=fun W (hW:Fr nope w W) (hok:ns.all okN=true)=>FlowGraph_calls W B s ns (hN.fr hW (fun _ _ x=>x)) hok
 have hAF:=fun W (hW:Fr nope w W) (h:AFOk ns)=>AllocFn_calls W s ns ((hN.fr hW (fun _ _ x=>x)).up (Nat.le_trans hB hW.size)) h
 have hFw:=fun W (hW:Fr nope w W) (hok:ns.all okN=true)=>few_calls W B s ns (hN.fr hW (fun _ _ x=>x)) hok (Nat.le_trans hB hW.size)
 have hBd:=fun W (hW:Fr nope w W) (hok:ns.all okN=true)=>Bind_calls W s ns ((hN.fr hW (fun _ _ x=>x)).up (Nat.le_trans hB hW.size)) hok
 have hops:∀ p∈insP ns,p.Ok:=fun p hp=>by
  obtain ⟨n,hn,rfl⟩:=insP_mem hp
  exact PI.ok_of (hN.each n hn).ins
 obtain ⟨A,n,c⟩:=s
 simp only [SV.val] at hU hFG hAF hFw hBd ⊢
 clear hN
 replace hFG:=Lib.hid hFG
 replace hAF:=Lib.hid hAF
 replace hFw:=Lib.hid hFw
 replace hBd:=Lib.hid hBd
 replace hops:=Lib.hid hops
 replace hb:=Lib.hid hb
 go_enter Tryz.func8,Tryz.ntmps8
 go_wp2_with fail
 refine hU.mono ?_
 rintro e w1 ⟨hf1,b,rfl,hus⟩
 clear hU
 cases b with
 | false=>
  clear hus
  go_wp2
  try simp only [Exit.inBlock,Exit.then]
  refine bodyPost_ret (results_tmp4 rfl _ _ _) rfl ?_
  exact ⟨hf1,.inl ⟨_,_,rfl⟩⟩
 | true=>
 have hu:=hus rfl
 have hao:=hu.af hops.out hb.out
 have hok:=hu.2.1
 clear hus
 replace hu:=Lib.hid hu
 replace hao:=Lib.hid hao
 replace hok:=Lib.hid hok
 go_wp2_with fail
 refine (hFG.out _ hf1 hok.out).mono ?_
 rintro e w2 ⟨hf2,⟨A1,c1,D,d,sc,rfl,hG,hS⟩ | ⟨rfl,hbad⟩⟩
 rotate_left
 ·clear hbad
  go_wp2
  try simp only [Exit.inBlock,Exit.then]
  refine bodyPost_ret (results_tmp4 rfl _ _ _) rfl ?_
  exact ⟨hf1.then hf2,.inl ⟨_,_,rfl⟩⟩
 have hn2:=hf1.then hf2
 have hG:Hid (∃ sc,GraphP ns sc):=Lib.hid ⟨sc,hG⟩
 clear hS
 go_wp2_with fail
 refine (hAF.out _ hn2 hao.out).mono ?_
 rintro e w3 ⟨hf3,⟨hnone,rfl⟩ | ⟨f,A2,c2,l,haf,hpo,hl,rfl,hown⟩⟩
 ·have hno:=Lib.hid (few_fit hu.out hao.out hG.out hnone)
  have hn3:=hn2.then hf3
  clear hnone
  go_wp2_with fail
  refine (hFw.out _ hn3 hok.out).mono ?_
  rintro e w4 ⟨hf4,b,rfl,hfew⟩
  obtain rfl:b=false:=by
   cases b with
   | false=>rfl
   | true=>exact absurd (hfew rfl) hno.out
  clear hfew
  go_wp2
  try simp only [Exit.inBlock,Exit.then]
  refine bodyPost_ret (results_tmp4 rfl _ _ _) rfl ?_
  exact ⟨hn3.then hf4,.inl ⟨_,_,rfl⟩⟩
 ·have hn3:=hn2.then hf3
  have heq:=hpo.eq
  have hpa:=PairsAt.of hown
  have hsm:small (ofPairs l):=by
   rw [heq]
   intro v p hv
   exact (af_given haf (fun k ⟨p,hp,g,hg,e⟩=>by rw [← e];exact hu.out.kind p hp g (by unfold PI.gs;simp [hg])) v p hv).2.2.1
  replace heq:=Lib.hid heq
  replace haf:=Lib.hid haf
  replace hsm:=Lib.hid hsm
  clear hpo hown
  go_wp2_with fail
  refine (hBd.out _ hn3 hok.out A2 c2 l hpa hl hsm.out).mono ?_
  rintro e w4 ⟨hf4,A3,c3,ns',rfl,hN',hB'⟩
  rw [heq.out] at hB'
  replace hN':=Lib.hid hN'
  replace hB':=Lib.hid hB'
  go_wp2
  try simp only [Exit.inBlock,Exit.then]
  refine bodyPost_ret (results_tmp4 rfl _ _ _) rfl ?_
  exact ⟨hn3.then hf4,.inr ⟨A2,c2,l,A3,c3,ns',f,rfl,hpa.fr hf4,hl,heq.out,haf.out,hao.out,hu.out,hN'.out,hB'.out⟩⟩
end
end Go.Proofs.YtjlfkgjmgghhiaaGreat
