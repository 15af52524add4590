import PyProof.Rows.All
import Wide.All
import OpenK.AllK
import Wide.FinOn
import PyProof.TupleOfGen
import KE.KStar
import KE.KOpsOwn
import PyProof.NeKinds
import Lean
import PySem.Challenge.RW_ln0005_03
set_option Elab.async false
set_option linter.all false
set_option tactic.hygienic false
set_option maxRecDepth 100000
set_option maxHeartbeats 4000000
namespace Mine
def autR : Lean.Syntax := .node .none `Lean.Parser.Tactic.tacticSeq #[.node .none `Lean.Parser.Tactic.tacticSeq1Indented #[.node .none `null #[.node .none `Lean.Parser.Tactic.tacticRfl #[.atom .none "rfl"]]]]
def autD : Lean.Syntax := .node .none `Lean.Parser.Tactic.tacticSeq #[.node .none `Lean.Parser.Tactic.tacticSeq1Indented #[.node .none `null #[.node .none `Lean.Parser.Tactic.decide #[.atom .none "decide", .node .none `Lean.Parser.Tactic.optConfig #[.node .none `null #[]]]]]]
section
open PySem PySem.W PyProof.Rows
noncomputable def mkT:List Obj → BT → Nat → Option BT
 | [],t,_ => some t
 | o :: l, t, n => match ((t.ins n o).get n).isSome with
   | true => mkT l (t.ins n o) (n + 1)
   | false => none
theorem mkT_of {life:Life}:∀ {l:List Obj} {t t':BT} {n:Nat},mkT l t n = some t' → absHeap t' (n + l.length) life = ⟨(absHeap t n life).objs ++ l.toArray,life⟩
 | [], t, t', n, h => by
   cases h
   show absHeap t n life = ⟨(absHeap t n life).objs ++ #[],life⟩
   rw [Array.append_empty]
   rfl
 | o :: l, t, t', n, h => by
   unfold mkT at h
   cases g:((t.ins n o).get n).isSome with
   | false => rw [g] at h;cases h
   | true =>
     rw [g] at h
     have:=mkT_of (life:=life) h
     rw [List.length_cons,show n + (l.length + 1) = n + 1 + l.length by omega,this,absHeap_ins g]
     show Heap.mk (((absHeap t n life).objs.push o) ++ l.toArray) life = _
     congr 1
     apply Array.toList_inj.mp
     simp
noncomputable def SharedT.of (s:Shared):Option SharedT:=(mkT s.heap.objs.toList .nil 0).map fun t => ⟨t,s.heap.objs.toList.length,s.heap.life,s.gens,s.drawn,s.toks,s.os⟩
theorem SharedT.of_abs {s:Shared} {x:SharedT} (h:SharedT.of s = some x):x.abs = s:=by
 obtain ⟨t,ht,rfl⟩:=Option.map_eq_some_iff.mp h
 have:=mkT_of (life:=s.heap.life) ht
 rw [Nat.zero_add] at this
 obtain ⟨⟨⟨objs⟩,life⟩,gens,drawn,toks,os⟩:=s
 show Shared.mk (absHeap t objs.length life) gens drawn toks os = _
 rw [this]
 congr 1
 show Heap.mk ((absHeap BT.nil 0 life).objs ++ objs.toArray) life = _
 congr 1
 apply Array.toList_inj.mp
 rw [Array.toList_append]
 rfl
noncomputable def topF (f:SharedT → Thread → Option (SharedT × Thread)) (ok:Thread → Bool):Nat → SharedT → Thread → Option SharedT
 | 0,_,_ => none
 | n + 1, s, t => match through t with
   | true => some s
   | false => match ok t with
     | false => none
     | true => match f s t with
       | some (s',t') => topF f ok n s' t'
       | none => none
noncomputable def impF (f:SharedT → Thread → Option (SharedT × Thread)):Nat → SharedT → Thread → Option SharedT
 | 0,_,_ => none
 | n + 1, s, t => match t.atExitBegin with
   | some [] => some s
   | some (_ :: _) => none
   | none => match f s t with
     | some (s',t') => impF f n s' t'
     | none => none
theorem topF_of {tb:String → Option Builtin} {p:Program} {w:World} {n₀:Nat} {ann:Option Value}:∀ {n:Nat} {s s':SharedT} {t:Thread},topF (stepT (denote tb) p w) (stepOk n₀ ann) n s t = some s' → topRun tb p w n₀ ann n s.abs t = some s'.abs
 | 0,_,_,_,h => by cases h
 | n + 1, s, s', t, h => by
   unfold topF at h
   unfold topRun
   cases ht:through t with
   | true => rw [ht] at h;cases h;rfl
   | false =>
     rw [ht] at h
     cases hk:stepOk n₀ ann t with
     | false => rw [hk] at h;cases h
     | true =>
       rw [hk] at h
       cases hs:stepT (denote tb) p w s t with
       | none => rw [hs] at h;cases h
       | some r => obtain ⟨s₂,t₂⟩:=r;rw [hs] at h;dsimp only;rw [stepT_spec hs];exact topF_of h
theorem impF_of {tb:String → Option Builtin} {p:Program} {w:World}:∀ {n:Nat} {s s':SharedT} {t:Thread},impF (stepT (denote tb) p w) n s t = some s' → importEnds tb p w n s.abs t = some s'.abs
 | 0,_,_,_,h => by cases h
 | n + 1, s, s', t, h => by
   unfold impF at h
   unfold importEnds
   cases he:t.atExitBegin with
   | some x =>
     rw [he] at h
     cases x with
     | nil => cases h;rfl
     | cons _ _ => cases h
   | none =>
     rw [he] at h
     cases hs:stepT (denote tb) p w s t with
     | none => rw [hs] at h;cases h
     | some r => obtain ⟨s₂,t₂⟩:=r;rw [hs] at h;dsimp only;rw [stepT_spec hs];exact impF_of h
noncomputable def evalTop (f:Program → World → SharedT → Thread → Option (SharedT × Thread)) (ok:Nat → Option Value → Thread → Bool) (p:Program) (w:World) (N:Nat):Option SharedT :=
 (SharedT.of (start (opening p)).1).bind fun a => (impF (f (opening p) w) N a (start (opening p)).2).bind fun b => (fenceModules? p b.abs).bind fun s₀ => match s₀.heap.isNs mainGlobals && s₀.gens.size == 0 with
   | true => (SharedT.of s₀).bind fun c => (topF (f p w) (ok s₀.heap.objs.size (s₀.heap.nsMap mainGlobals "__annotations__")) N c (topStub p)).bind fun d =>
     match staticsOk (importedModules p.main.body) s₀.heap d.abs.heap && namesBound p d.abs.heap && gensDone d.abs && laidKept s₀.heap d.abs.heap with
     | true => some d
     | false => none
   | false => none
theorem evalTop_of {p:Program} {w:World} {N:Nat} {d:SharedT} (h:evalTop (fun p w => stepT (denote treeTable) p w) stepOk p w N = some d):openEnds treeTable p w N = some d.abs:=by
 unfold evalTop at h
 obtain ⟨a,ha,h⟩:=Option.bind_eq_some_iff.mp h
 obtain ⟨b,hb,h⟩:=Option.bind_eq_some_iff.mp h
 obtain ⟨s₀,hs,h⟩:=Option.bind_eq_some_iff.mp h
 have hb':=impF_of hb
 rw [SharedT.of_abs ha] at hb'
 unfold openEnds fencedOpening
 rw [hb',Option.bind_some,hs,Option.bind_some]
 unfold topFrom
 cases hg:(s₀.heap.isNs mainGlobals && s₀.gens.size == 0) with
 | false => rw [hg] at h;cases h
 | true =>
   rw [hg] at h
   obtain ⟨c,hc,h⟩:=Option.bind_eq_some_iff.mp h
   obtain ⟨e,hd,h⟩:=Option.bind_eq_some_iff.mp h
   have hd':=topF_of hd
   rw [SharedT.of_abs hc] at hd'
   dsimp only
   rw [hd',Option.bind_some]
   cases hq:(staticsOk (importedModules p.main.body) s₀.heap e.abs.heap && namesBound p e.abs.heap && gensDone e.abs && laidKept s₀.heap e.abs.heap) with
   | false => rw [hq] at h;cases h
   | true => rw [hq] at h;cases h;rfl
noncomputable def atT (d:SharedT) (a:Addr):Option Obj:=match Nat.blt a d.n with
 | true => alive ((d.tree.get a).getD default)
 | false => none
theorem atT_abs (d:SharedT) (a:Addr):d.abs.heap.get? a = atT d a:=by
 obtain ⟨t,n,life,gens,drawn,toks,os⟩:=d
 show (absHeap t n life).get? a = _
 unfold Heap.get? atT
 rw [absHeap_at]
 cases hb:Nat.blt a n with
 | true =>
   have h:a < n:=Nat.le_of_ble_eq_true (show Nat.ble (a + 1) n = true from hb)
   rw [if_pos h]
   dsimp only
   generalize (t.get a).getD default = o
   obtain ⟨c,d,dt,sl⟩:=o
   cases dt <;> rfl
 | false =>
   have h:¬ a < n:=fun h => by
     have:Nat.blt a n = true:=Nat.ble_eq_true_of_le h
     rw [hb] at this;cases this
   rw [if_neg h]
theorem left_of {p q:Program} {loose:List Str} {Xt:Shared → Bool} {K:Params → Frag} {as ts:List Addr} {e:∀ P,as = (K P).map (·.1)} {N:Nat} {f:Program → World → SharedT → Thread → Option (SharedT × Thread)} {ok:Nat → Option Value → Thread → Bool} {o:Program → List Str → List Str → (Shared → Bool) → Bool → Shared → _}
   (hf:(fun p w => stepT (denote treeTable) p w) = f) (hk:stepOk = ok) (ho:openSeen = o)
   (h:∀ w,(evalTop f ok p w N).map (fun d => o q loose (importedModules p.main.body) Xt true d.abs) = some (openGood q loose))
   (h2:∀ w,(evalTop f ok p w N).map (fun d => (as.map (atT d),ts.map (atT d))) = some (((K w.params).map fun p => some p.2),ts.map fun zz => some (tabObj #[]))) :
   LeftO p q loose Xt (Hook.obs (kmHook K as e ts)) (Hook.val (kmHook K as e ts)) N:=fun w => by
 subst hf hk ho
 obtain ⟨s,hs,e1⟩:=Option.map_eq_some_iff.mp (h w)
 have e2:=h2 w
 rw [hs] at e2
 rw [evalTop_of hs]
 have e3:(as.map s.abs.heap.get?,ts.map s.abs.heap.get?) = (as.map (atT s),ts.map (atT s)):=by
   rw [show s.abs.heap.get? = atT s from funext fun a => atT_abs s a]
 show some (_,(as.map s.abs.heap.get?,ts.map s.abs.heap.get?)) = _
 rw [e1,e3]
 exact congrArg some (Prod.ext rfl (Option.some.inj e2))
end
section
open PySem PySem.W PyProof.Rows
section
local macro_rules | `(tactic| o_head $_) => `(tactic| contradiction)
theorem mk (_hF:False):PySem.Challenge.rw_ln0005_03.row.Holds:=by k_head
end
end
section
open PySem PySem.W PyProof.Rows
theorem step_tw:(fun p w => stepT (denote treeTable) p w) = fun p w => PySem.W.Fast.tw10156331382660048174 (PySem.W.Fast.tw11892475500146522536 PySem.W.Fast.tw14364793385576792824) p w:=by
 rw [PySem.W.Fast.te10156331382660048174,PySem.W.Fast.te11892475500146522536,PySem.W.Fast.te14364793385576792824]
noncomputable def qv:Program:=view PySem.Challenge.pw_ln0005_03 [0,1,3,4,5,6,7,8,9,10,12,14,15,16,17,18,19,20,21,23,24,25,26,27,28,29,30,31,32]
noncomputable def looseL:List Str:=[Str.ofString "_twin_re_1", Str.ofString "_twin_re_2", Str.ofString "_twin_re_3", Str.ofString "_twin_re_4", Str.ofString "Version", Str.ofString "Clause", Str.ofString "Range"]
noncomputable def tabsL:List Addr:=[383,537,556,608,627]
noncomputable def asL:List Addr:=[2,3,32,34,35,37,38,42,43,47,48,52,53,57,58,59,61,62,64,65,66,73,75,76,78,79,80,82,83,85,86,87,89,90,92,93,94,96,97,99,100,101,103,104,106,107,108,110,111,113,114,115,116,117,118,119,122,129,131,132,134,135,136,138,139,141,142,143,145,146,148,149,150,152,153,155,156,157,159,160,162,163,164,166,167,169,170,171,173,174,176,177,178,179,180,181,182,185,192,194,195,197,198,199,201,202,204,205,206,208,209,211,212,213,215,216,218,219,220,222,223,225,226,227,229,230,232,233,234,236,237,239,240,241,242,243,244,245,248,250,251,253,254,255,262,263,265,266,268,269,270,271,273,274,276,277,278,279,280,281,283,284,286,287,288,290,291,293,294,295,297,298,300,301,302,303,305,306,308,309,310,311,313,314,316,317,318,319,320,321,322,324,325,327,328,329,330,331,332,333,335,336,338,339,340,341,342,343,345,346,348,349,350,351,352,353,355,356,358,359,360,362,363,365,366,367,369,370,372,373,374,376,377,379,380,381,382,384,385,387,388,389,391,392,394,395,396,397,399,400,402,403,404,406,407,409,410,411,413,414,416,417,418,420,421,423,424,425,427,428,430,431,432,434,435,437,438,439,441,442,444,445,446,447,448,449,450,453,460,462,463,465,466,467,469,470,472,473,474,476,477,479,480,481,483,484,486,487,488,489,491,492,494,495,496,498,499,501,502,503,505,506,508,509,510,512,513,515,516,517,518,519,520,521,524,531,534,535,536,538,539,541,542,543,546,547,548,550,551,553,554,555,557,558,560,561,562,564,565,567,568,569,571,572,574,575,576,578,579,581,582,583,585,586,588,589,590,591,592,595,602,605,606,607,609,610,612,613,614,617,618,619,621,622,624,625,626,628,629,631,632,633,635,636,638,639,640,642,643,645,646,647,649,650,652,653,654,656,657,659,660,661,662,663,666,673,675,676,678,679,680,682,683,685,686,687,688,689,692,699,701,702,704,705,706,708,709,711,712,713,715,716,718,719,720,722,723,725,726,727,729,730,732,733,734,736,737,739,740,741,742,743,746,753,755,756,758,759,760,762,763,765,766,767,769,770,772,773,774,776,777,779,780,781,783,784,786,787,788,790,791,793,794,795,796,797,800,807,808,810,811,813,814,815,817,818,820,821,822,824,825,827,828,829,831,832,834,835,836,838,839,841,842,843,845,846,848,849,850,851,852,855,857,858,860,861,862,864,865,867,868,869,871,872,874,875,876,878,879,881,882,883,885,886,888,889,890,892,893,895,896,897,899,900,902,903,904,906,907,909,910,911,913,914,916,917,918,921,922]
theorem asL_eq:∀ P,asL = (mk.heap_1 P).map (·.1):=fun P => by kernel_rfl
noncomputable def XtL:Shared → Bool:=fun s => xlAt qv [] s && recOk (RowW.records PySem.Challenge.rw_ln0005_03.row.toRowW) s
theorem both_of {α β γ:Type} {o:Option α} {f:α → β} {g:α → γ} {x:β} {y:γ} (h:o.map (fun d => (f d,g d)) = some (x,y)):o.map f = some x ∧ o.map g = some y:=by
 cases o with
 | none => cases h
 | some d => injection h with h;injection h with h1 h2;exact ⟨congrArg some h1,congrArg some h2⟩
theorem leftB:∀ w:World,(evalTop (fun p w => PySem.W.Fast.tw10156331382660048174 (PySem.W.Fast.tw11892475500146522536 PySem.W.Fast.tw14364793385576792824) p w) PySem.W.Fast.tw6613529449190102663 PySem.Challenge.pw_ln0005_03 w 14100).map (fun d => ((asL.map (atT d),tabsL.map (atT d)),(fun d => PySem.W.Fast.tw4187177175401517315 qv looseL (importedModules PySem.Challenge.pw_ln0005_03.main.body) XtL true d.abs) d)) = some ((((mk.heap_1 w.params).map fun p => some p.2),tabsL.map fun zz => some (tabObj #[])),openGood qv looseL):=by intro w;kernel_rfl
theorem leftL:LeftO PySem.Challenge.pw_ln0005_03 qv looseL XtL (Hook.obs (kmHook mk.heap_1 asL asL_eq tabsL)) (Hook.val (kmHook mk.heap_1 asL asL_eq tabsL)) 14100 :=
 left_of step_tw PySem.W.Fast.te6613529449190102663 PySem.W.Fast.te4187177175401517315 (fun w => (both_of (leftB w)).2) fun w => (both_of (leftB w)).1
theorem wellL:PySem.Challenge.rw_ln0005_03.wellSaid = true:=by kernel_rfl
end
section
open PySem PySem.W PySem.Calls PyProof.Rows PySem.Spec
set_option genInjectivity false in
set_option genSizeOf false in
structure G where
 prog:Program
 w:World
 K:Frag
 p:Program
 loose:List Str
 mg:Str → Option Value
 mb:Str → Option Value
 tabs:List Addr
noncomputable def Sub (h h':Heap):Prop:=∀ b o,h.get? b = some o → h'.get? b = some o
noncomputable def Grows (tabs:List Addr) (h h':Heap):Prop:=∀ b o,h.get? b = some o → (b ∈ tabs → o.cls ≠ .none) → h'.get? b = some o
theorem Sub.refl (h:Heap):Sub h h:=fun zz zz e => e
theorem Sub.trans {h h' h'':Heap} (x:Sub h h') (y:Sub h' h''):Sub h h'':=fun b o e => y b o (x b o e)
theorem Sub.push (h:Heap) (o:Obj):Sub h (h.push o):=fun zz zz e => Heap.get?_push_of_some o e
theorem Grows.refl (t:List Addr) (h:Heap):Grows t h h:=fun zz zz e zz => e
theorem Grows.trans {t:List Addr} {h h' h'':Heap} (x:Grows t h h') (y:Grows t h' h''):Grows t h h'':=fun b o e n => y b o (x b o e n) n
theorem Sub.grows {h h':Heap} (x:Sub h h') (t:List Addr):Grows t h h':=fun b o e zz => x b o e
noncomputable def BAt (mg:Str → Option Value) (h:Heap):Prop:=∃ bm ob,mg "__builtins__" = some (.ref bm) ∧ bm ≠ builtinsNs ∧ h.get? bm = some ob ∧ ob.cls = .type "module" ∧ ob.dict = some builtinsNs ∧ ob.data = .plain
theorem BAt.grows {t:List Addr} {mg:Str → Option Value} {h h':Heap} (x:BAt mg h) (k:Grows t h h'):BAt mg h' :=
 by obtain ⟨bm,ob,a,b,c,d,e⟩:=x;exact ⟨bm,ob,a,b,k _ _ c (fun zz q => by rw [d] at q;cases q),d,e⟩
noncomputable def TabsOk (tabs:List Addr) (h:Heap):Prop:=∀ P ∈ tabs,∃ ps,h.get? P = some (tabObj ps) ∧ TriplesOk ps.toList
theorem TabsOk.sub {t:List Addr} {h h':Heap} (x:TabsOk t h) (k:Sub h h'):TabsOk t h':=fun P hP => by obtain ⟨ps,e,r⟩:=x P hP;exact ⟨ps,k _ _ e,r⟩
theorem TabsOk.not_mem {t:List Addr} {h:Heap} (x:TabsOk t h) {b:Addr} (e:h.get? b = none):b ∉ t:=fun hb => by
 obtain ⟨ps,e',_⟩:=x b hb
 rw [e] at e';cases e'
noncomputable def G.Fine (g:G):Prop:=(∀ a ∈ g.tabs,g.K.lookup a = none) ∧ mainGlobals ∉ g.tabs ∧ builtinsNs ∉ g.tabs ∧ cStatics ∉ g.tabs
structure Inv (g:G) (h:Heap):Prop where
 fine:g.Fine
 kin:g.K.In h
 top:TopRead g.p g.loose g.mg g.mb h
 tab:TabsOk g.tabs h
 bat:BAt g.mg h
theorem ns_grows {t:List Addr} {h h':Heap} {a:Addr} {m:Str → Option Value} (x:h.Ns a m) (k:Grows t h h') (n:a ∉ t):h'.Ns a m :=
 by obtain ⟨o,es,ep,e,r⟩:=x;exact ⟨o,es,ep,k _ _ e (fun q => absurd q n),r⟩
theorem Inv.grows {g:G} {h h':Heap} (I:Inv g h) (k:Grows g.tabs h h') (t:TabsOk g.tabs h'):Inv g h' where
 fine:=I.fine
 kin:=fun a o e => k a o (I.kin a o e) fun hm => by rw [I.fine.1 a hm] at e;cases e
 top:=⟨ns_grows I.top.g k I.fine.2.1,ns_grows I.top.b k I.fine.2.2.1,(by obtain ⟨mc,a,b⟩:=I.top.nolimit;exact ⟨mc,ns_grows a k I.fine.2.2.2,b⟩),I.top.builtins,I.top.free⟩
 tab:=t
 bat:=I.bat.grows k
theorem Inv.sub {g:G} {h h':Heap} (I:Inv g h) (k:Sub h h'):Inv g h':=I.grows (k.grows _) (I.tab.sub k)
structure Aft (g:G) (s:Shared) (fz:Heap) (s':Shared) (fz':Heap):Prop where
 keep:Grows g.tabs s.heap s'.heap
 gr:Grows g.tabs fz fz'
 le:Sub fz' s'.heap
 hid:∀ b o,s.heap.get? b = some o → fz.get? b = none → fz'.get? b = none
 inv:Inv g fz'
 bare:AllBare s'.gens
 os_:s'.os = s.os
 gsz:s.gens.size ≤ s'.gens.size
noncomputable def Runs {α:Type} (g:G) (t:Sem α) (nd nu:Nat) (Pre:Heap → Prop) (Post:Heap → α → Prop):Prop :=
 ∀ (A:Around) (s:Shared) (fz:Heap) (Q:α → Shared → Prop) (E:Value → Shared → Prop),A.handled = none → A.depth + nd < recursionLimit → A.units + nu < cLine →
   Sub fz s.heap → Inv g fz → AllBare s.gens → Pre fz → (∀ r s' fz',Aft g s fz s' fz' → Post fz' r → Q r s') → wpAny (model g.prog g.w) A t Q E s
structure St (g:G) (s₀:Shared) (fz₀:Heap) (h:Heap) (gn:Array GenState) (os:OsState) (fz:Heap) (L:Addr) (l:List (Str × Value)) (mu:List (Addr × Obj)):Prop where
 ns:h.Ns L (fun x => l.lookup x)
 keep:Grows g.tabs s₀.heap h
 le:Sub fz h
 gr:Grows g.tabs fz₀ fz
 hid:∀ b o,s₀.heap.get? b = some o → fz₀.get? b = none → fz.get? b = none
 bL:s₀.heap.get? L = none
 fL:fz.get? L = none
 own:∀ p ∈ mu,h.get? p.1 = some p.2 ∧ p.1 ≠ L ∧ s₀.heap.get? p.1 = none ∧ fz.get? p.1 = none
 nd:(mu.map (·.1)).Nodup
 inv:Inv g fz
 bare:AllBare gn
 os_:os = s₀.os
 gsz:s₀.gens.size ≤ gn.size
theorem none_of_size {h:Heap} {a:Addr} (ha:h.objs.size ≤ a):h.get? a = none:=by
 cases e:h.get? a with
 | none => rfl
 | some o => exact absurd (Heap.lt_size e) (Nat.not_lt.mpr ha)
inductive Frz (g:G) (s₀:Shared) (fz₀ h:Heap) (gn:Array GenState) (os:OsState) (fz:Heap) (L:Addr) (l:List (Str × Value)) (mu:List (Addr × Obj)) (a:Addr) (o:Obj):Prop
 | mk (fz':Heap):Grows g.tabs fz fz' → Sub fz fz' → fz'.get? a = some o → St g s₀ fz₀ h gn os fz' L l mu → Frz g s₀ fz₀ h gn os fz L l mu a o
section
variable {g:G} {s₀:Shared} {fz₀ h fz:Heap} {gn:Array GenState} {os:OsState} {L:Addr} {l:List (Str × Value)} {mu:List (Addr × Obj)}
theorem St.aft {s':Shared} (S:St g s₀ fz₀ s'.heap s'.gens s'.os fz L l mu):Aft g s₀ fz₀ s' fz:=⟨S.keep,S.gr,S.le,S.hid,S.inv,S.bare,S.os_,S.gsz⟩
theorem St.fresh (S:St g s₀ fz₀ h gn os fz L l mu):s₀.heap.get? h.objs.size = none ∧ fz.get? h.objs.size = none:=by
 have f:fz.get? h.objs.size = none:=by
   cases e:fz.get? h.objs.size with
   | none => rfl
   | some o => exact absurd (Heap.lt_size (S.le _ _ e)) (Nat.lt_irrefl _)
 refine ⟨?_,f⟩
 cases e:s₀.heap.get? h.objs.size with
 | none => rfl
 | some o => exact absurd (Heap.lt_size (S.keep _ _ e fun q => absurd q (S.inv.tab.not_mem f))) (Nat.lt_irrefl _)
theorem St.push (S:St g s₀ fz₀ h gn os fz L l mu) (o:Obj) (hf:autoParam (o.isFreed = false) autR):St g s₀ fz₀ (h.push o) gn os fz L l ((h.objs.size,o) :: mu):=by
 refine ⟨S.ns.push o,S.keep.trans ((Sub.push h o).grows _),S.le.trans (Sub.push h o),S.gr,S.hid,S.bL,S.fL,fun p hp => ?_,?_,S.inv,S.bare,S.os_,S.gsz⟩
 · rcases List.mem_cons.mp hp with rfl | hp
   · exact ⟨Heap.get?_push_size _ hf,Nat.ne_of_gt S.ns.lt,S.fresh⟩
   · have z:=S.own p hp;exact ⟨Heap.get?_push_of_some _ z.1,z.2⟩
 · rw [List.map_cons,List.nodup_cons]
   refine ⟨fun hm => ?_,S.nd⟩
   obtain ⟨p,hp,e⟩:=List.mem_map.mp hm
   have:=Heap.lt_size (S.own p hp).1
   rw [e] at this;exact Nat.lt_irrefl _ this
theorem St.same {h':Heap} {l':List (Str × Value)} (S:St g s₀ fz₀ h gn os fz L l mu) (hn:h'.Ns L (fun x => l'.lookup x)) (hs:Heap.SameBut L h h'):St g s₀ fz₀ h' gn os fz L l' mu:=by
 refine ⟨hn,fun b o e n => (hs.2 b fun q => ?_).trans (S.keep b o e n),fun b o e => (hs.2 b fun q => ?_).trans (S.le b o e),S.gr,S.hid,S.bL,S.fL,fun p hp => ?_,S.nd,S.inv,S.bare,S.os_,S.gsz⟩
 · rw [q,S.bL] at e;cases e
 · rw [q,S.fL] at e;cases e
 · have z:=S.own p hp;exact ⟨(hs.2 _ z.2.1).trans z.1,z.2⟩
noncomputable def put (fz:Heap) (n a:Nat) (o:Obj):Heap:=⟨((List.range n).map fun b => if b = a then o else (fz.get? b).getD { cls:=.none,data:=.freed }).toArray,fz.life⟩
theorem put_get {fz:Heap} {n a:Nat} {o:Obj} (ha:a < n) (hn:∀ b o,fz.get? b = some o → b < n) (hf:o.isFreed = false) (b:Addr):(put fz n a o).get? b = if b = a then some o else fz.get? b:=by
 have gi:(put fz n a o).objs[b]? = if b < n then some (if b = a then o else (fz.get? b).getD { cls:=.none,data:=.freed }) else none:=by
   show (((List.range n).map fun b => if b = a then o else (fz.get? b).getD { cls:=.none,data:=.freed }).toArray)[b]? = _
   rw [List.getElem?_toArray,List.getElem?_map]
   by_cases hb:b < n
   · rw [List.getElem?_range hb,if_pos hb];rfl
   · rw [if_neg hb,List.getElem?_eq_none (by rw [List.length_range];exact Nat.le_of_not_lt hb)];rfl
 by_cases e:b = a
 · subst e
   rw [if_pos rfl,Heap.get?_some_iff,gi,if_pos ha,if_pos rfl]
   exact ⟨rfl,hf⟩
 · rw [if_neg e]
   cases q:fz.get? b with
   | some o' =>
     rw [Heap.get?_some_iff,gi,if_pos (hn _ _ q),if_neg e,q]
     exact ⟨rfl,(Heap.get?_some_iff.mp q).2⟩
   | none =>
     cases z:(put fz n a o).get? b with
     | none => rfl
     | some o' =>
       have z':=Heap.get?_some_iff.mp z
       rw [gi] at z'
       by_cases hb:b < n
       · rw [if_pos hb,if_neg e,q] at z'
         have:=Option.some.inj z'.1
         subst this
         cases z'.2
       · rw [if_neg hb] at z';cases z'.1
theorem mem_at {l:List (Addr × Obj)} {i:Nat} {p:Addr × Obj} (hi:l[i]? = some p):p ∈ l:=List.mem_of_getElem? hi
theorem split_at {l:List (Addr × Obj)} {i:Nat} {p:Addr × Obj} (hi:l[i]? = some p):l = l.take i ++ p :: l.drop (i + 1):=by
 obtain ⟨hl,he⟩:=List.getElem?_eq_some_iff.mp hi
 rw [← he,← List.drop_eq_getElem_cons hl,List.take_append_drop]
theorem nodup_ne {l:List (Addr × Obj)} {i:Nat} {p:Addr × Obj} (hn:(l.map (·.1)).Nodup) (hi:l[i]? = some p):∀ q ∈ l.take i ++ l.drop (i + 1),q.1 ≠ p.1:=by
 have sp:=split_at hi
 rw [sp,List.map_append,List.map_cons] at hn
 have a:=List.nodup_append.mp hn
 intro q hq
 rcases List.mem_append.mp hq with hq | hq
 · exact a.2.2 _ (List.mem_map_of_mem hq) _ (.head _)
 · have b:=(List.nodup_cons.mp a.2.1).1
   exact fun e => b (e ▸ List.mem_map_of_mem hq)
theorem St.freeze (i:Nat) {a:Addr} {o:Obj} (S:St g s₀ fz₀ h gn os fz L l mu) (hi:mu[i]? = some (a,o)):Frz g s₀ fz₀ h gn os fz L l (mu.eraseIdx i) a o:=by
 have z:=S.own _ (mem_at hi)
 have hf:o.isFreed = false:=(Heap.get?_some_iff.mp z.1).2
 have gt:=put_get (fz:=fz) (Heap.lt_size z.1) (fun b o e => Heap.lt_size (S.le b o e)) hf
 have sub:Sub fz (put fz h.objs.size a o):=fun b o' e => by
   rw [gt b,if_neg (fun q => ?_)];exact e
   rw [q,z.2.2.2] at e;cases e
 refine ⟨put fz h.objs.size a o,sub.grows _,sub,by rw [gt a,if_pos rfl],S.ns,S.keep,fun b o' e => ?_,S.gr.trans (sub.grows _),fun b o' e n => ?_,S.bL,?_,fun p hp => ?_,?_,S.inv.sub sub,S.bare,S.os_,S.gsz⟩
 · rw [gt b] at e
   by_cases q:b = a
   · rw [if_pos q] at e;rw [q];cases e;exact z.1
   · rw [if_neg q] at e;exact S.le _ _ e
 · rw [gt b,if_neg (fun q => ?_)];exact S.hid b o' e n
   rw [q,z.2.2.1] at e;cases e
 · rw [gt L,if_neg (Ne.symm z.2.1)];exact S.fL
 · rw [List.eraseIdx_eq_take_drop_succ] at hp
   have hp':p ∈ mu:=by
     rcases List.mem_append.mp hp with q | q
     · exact List.mem_of_mem_take q
     · exact List.mem_of_mem_drop q
   have y:=S.own p hp'
   refine ⟨y.1,y.2.1,y.2.2.1,?_⟩
   rw [gt p.1,if_neg (nodup_ne S.nd hi p hp)];exact y.2.2.2
 · exact (List.Sublist.map _ (List.eraseIdx_sublist mu i)).nodup S.nd
theorem St.set (i:Nat) {a:Addr} {o:Obj} (f:Obj → Obj) (S:St g s₀ fz₀ h gn os fz L l mu) (hi:mu[i]? = some (a,o)) (hf:(f o).isFreed = false):St g s₀ fz₀ (h.update a f) gn os fz L l (mu.set i (a,f o)):=by
 have z:=S.own _ (mem_at hi)
 have hs:Heap.SameBut a h (h.update a f):=Heap.SameBut.update ..
 obtain ⟨hl,he'⟩:=List.getElem?_eq_some_iff.mp hi
 have e:mu.set i (a,f o) = mu.take i ++ (a,f o) :: mu.drop (i + 1):=List.set_eq_take_append_cons_drop.trans (if_pos hl)
 have ne:=nodup_ne S.nd hi
 refine ⟨S.ns.sameBut hs (Ne.symm z.2.1),fun b o' e' n => (hs.2 b fun q => ?_).trans (S.keep b o' e' n),fun b o' e' => (hs.2 b fun q => ?_).trans (S.le b o' e'),S.gr,S.hid,S.bL,S.fL,fun p hp => ?_,?_,S.inv,S.bare,S.os_,S.gsz⟩
 · rw [q,z.2.2.1] at e';cases e'
 · rw [q,z.2.2.2] at e';cases e'
 · rw [e] at hp
   rcases List.mem_append.mp hp with hp | hp
   · have y:=S.own p (List.mem_of_mem_take hp)
     exact ⟨(hs.2 _ (ne p (List.mem_append.mpr (.inl hp)))).trans y.1,y.2⟩
   · rcases List.mem_cons.mp hp with rfl | hp
     · exact ⟨Heap.get?_update_self f z.1 hf,z.2⟩
     · have y:=S.own p (List.mem_of_mem_drop hp)
       exact ⟨(hs.2 _ (ne p (List.mem_append.mpr (.inr hp)))).trans y.1,y.2⟩
 · have:(mu.set i (a,f o)).map (·.1) = mu.map (·.1):=by
     rw [List.map_set]
     apply List.ext_getElem?
     intro j
     rw [List.getElem?_set]
     by_cases hj:i = j
     · subst hj;simp [hl,he']
     · simp [hj]
   rw [this];exact S.nd
end
section
variable {g:G} {s₀ s:Shared} {fz₀ fz:Heap} {L:Addr} {l:List (Str × Value)} {mu:List (Addr × Obj)} {A:Around} {E:Value → Shared → Prop}
theorem St.run {M:Model} {α:Type} {t:Sem α} {nd nu:Nat} {Pre:Heap → Prop} {Post:Heap → α → Prop} {Q:α → Shared → Prop} (S:St g s₀ fz₀ s.heap s.gens s.os fz L l mu) (hM:M = model g.prog g.w) (R:Runs g t nd nu Pre Post)
   (hh:A.handled = none) (hd:A.depth + nd < recursionLimit) (hu:A.units + nu < cLine) (pre:Pre fz)
   (k:∀ r s' fz',Grows g.tabs fz fz' → St g s₀ fz₀ s'.heap s'.gens s'.os fz' L l mu → Post fz' r → Q r s'):wpAny M A t Q E s:=by
 subst hM
 refine R A s fz Q E hh hd hu S.le S.inv S.bare pre fun r s' fz' a post => k r s' fz' a.gr ?_ post
 have nL:L ∉ g.tabs:=S.inv.tab.not_mem S.fL
 obtain ⟨oL,es,ep,hL,hr⟩:=S.ns
 refine ⟨⟨oL,es,ep,a.keep _ _ hL (fun q => absurd q nL),hr⟩,S.keep.trans a.keep,a.le,S.gr.trans a.gr,fun b o e n => ?_,S.bL,a.hid _ _ hL S.fL,fun p hp => ?_,S.nd,a.inv,a.bare,a.os_.trans S.os_,Nat.le_trans S.gsz a.gsz⟩
 · have q:=S.hid b o e n
   exact a.hid b o (S.keep b o e fun z => absurd z (S.inv.tab.not_mem q)) q
 · have z:=S.own p hp
   exact ⟨a.keep _ _ z.1 (fun q => absurd q (S.inv.tab.not_mem z.2.2.2)),z.2.1,z.2.2.1,a.hid _ _ z.1 z.2.2.2⟩
end
theorem enter {g:G} {A:Around} {s:Shared} {fz:Heap} {R:Result → Shared → Prop} {name qual:Str} {params:Arguments} {body:List Stmt} {scope:Scope} {dV kV doc pm cdv ct oc:Value} {an od:Option Addr} {osl:Array (Option Value)} {f:Addr} {args:Args} (l:List (Str × Value))
   (hroom:A.depth < recursionLimit) (sub:Sub fz s.heap) (inv:Inv g fz) (bare:AllBare s.gens)
   (ho:g.K.lookup f = some ⟨oc,od,.func (fnOf name qual params body scope dV kV doc pm an cdv ct),osl⟩) (hcd:codeIn g.K cdv qual = true)
   (hbind:BindsTo s (fnOf name qual params body scope dV kV doc pm an cdv ct) args l.reverse) (hcell:∀ x ∈ scope.names,x.2 ≠ .cell) (hloc:∀ x ∈ l.reverse,scope.names.lookup x.1 = some .local)
   (hco:scope.isCoroutine = false) (hgen:scope.isGenerator = false) (hk:scope.kind = .function)
   (h:∀ (s₁:Shared) (L:Addr),St g s fz s₁.heap s₁.gens s₁.os fz L l [] →
     wpAny (model g.prog g.w) (A.deeper (envX qual scope L f cdv [])) (execs body (envX qual scope L f cdv [])) (fun fl s' => R (.ok (.ret (match fl with | .ret v => v | _ => .none))) s') (fun zz zz => False) s₁) :
   codeAny (model g.prog g.w) A (.call (.ref f) args) R s:=by
 refine codeAny_call_def (fd:=fnOf name qual params body scope dV kV doc pm an cdv ct) (body:=body) (binds:=l.reverse) hroom (sub _ _ (inv.kin _ _ ho)) rfl (inv.top.nolimit.keeps sub) (codeRec_of (inv.kin.keeps sub) hcd) rfl hbind hcell hloc (fun h₁ hns hk₁ => ?_) hco hgen hk
 have fL:fz.get? s.heap.objs.size = none:=by
   cases e:fz.get? s.heap.objs.size with
   | none => rfl
   | some o => exact absurd (Heap.lt_size (sub _ _ e)) (Nat.lt_irrefl _)
 refine wpAny_mono (h _ s.heap.objs.size ?_) (fun zz zz x => x) fun zz zz x => x.elim
 rw [List.reverse_reverse] at hns
 exact ⟨hns,fun b o e zz => hk₁ b o e,fun b o e => hk₁ b o (sub b o e),Grows.refl _ _,fun zz zz zz n => n,none_of_size (Nat.le_refl _),fL,(fun zz hp => nomatch hp),List.nodup_nil,inv,bare,rfl,Nat.le_refl _⟩
theorem binds_peek {K:Frag} {s:Shared} {fd:FuncData} {args:Args} {binds:List (Str × Value)} (X:K.In s.heap) (e:∀ S,peek K S (bindArgs fd args) = some binds):BindsTo s fd args binds:=fun M zz zz zz q => (Looks.of_peek (M:=M) X (e _)).here q
theorem lk_then {α β:Type} {M:Model} {A:Around} {E:Value → Shared → Prop} {s:Shared} {t:Sem α} {k:α → Sem β} {r:α} {Q:β → Shared → Prop} (L:Looks M s.heap t r) (h:wpAny M A (k r) Q E s):wpAny M A (t >>= k) Q E s:=wpAny_bind (L.here h)
theorem pu_then {α β:Type} {M:Model} {A:Around} {E:Value → Shared → Prop} {s:Shared} {k:α → Sem β} {r:α} {Q:β → Shared → Prop} (h:wpAny M A (k r) Q E s):wpAny M A (pure r >>= k) Q E s:=wpAny_bind (wpAny_pure h)
theorem it_t {α:Type} {M:Model} {A:Around} {E:Value → Shared → Prop} {s:Shared} {c:Prop} [Decidable c] {a b:Sem α} {Q:α → Shared → Prop} (hc:c) (h:wpAny M A a Q E s):wpAny M A (if c then a else b) Q E s:=by rw [if_pos hc];exact h
theorem it_f {α:Type} {M:Model} {A:Around} {E:Value → Shared → Prop} {s:Shared} {c:Prop} [Decidable c] {a b:Sem α} {Q:α → Shared → Prop} (hc:¬ c) (h:wpAny M A b Q E s):wpAny M A (if c then a else b) Q E s:=by rw [if_neg hc];exact h
section
variable {g:G} {s₀ s:Shared} {fz₀ fz:Heap} {L:Addr} {l:List (Str × Value)} {mu:List (Addr × Obj)} {A:Around} {E:Value → Shared → Prop}
 {cn:Str} {cs:Scope} {a:Addr} {ccd:Value} {cl:List (Str × Addr)} {x:Str} {pos:Pos} {v:Value}
theorem n_loc {M:Model} {Q:Value → Shared → Prop} (S:St g s₀ fz₀ s.heap s.gens s.os fz L l mu) (hv:l.lookup x = some v) (h:Q v s)
   (hk:autoParam (cs.kind = .function) autR) (hx:autoParam ((envX cn cs L a ccd cl).kindOf x = some .local) autR) (hd:autoParam ((x == ("__debug__" : Str)) = false) autD) :
   wpAny M A (eval (.Name x pos) (envX cn cs L a ccd cl)) Q E s:=wpAny_Name (wpAny_loadName_local hk hx S.ns hv h) hd
theorem n_glob {M:Model} {Q:Value → Shared → Prop} (S:St g s₀ fz₀ s.heap s.gens s.os fz L l mu) (e:nsIn g.K mainGlobals x = some (some v)) (h:Q v s)
   (hk:autoParam (cs.kind = .function) autR) (hx:autoParam ((envX cn cs L a ccd cl).kindOf x = some .globalImplicit) autR) (hd:autoParam ((x == ("__debug__" : Str)) = false) autD) :
   wpAny M A (eval (.Name x pos) (envX cn cs L a ccd cl)) Q E s :=
 Name_function_global hk hx (loadGlobal_global (env:=envX cn cs L a ccd cl) (S.inv.top.g.keeps S.le) (mg_of S.inv.kin S.inv.top.g e) h) hd
theorem n_bi {M:Model} {Q:Value → Shared → Prop} (S:St g s₀ fz₀ s.heap s.gens s.os fz L l mu) (e:nsIn g.K mainGlobals x = some none) (hv:bootBuiltins x = some v) (hn:x ≠ "__name__") (h:Q v s)
   (hk:autoParam (cs.kind = .function) autR) (hx:autoParam ((envX cn cs L a ccd cl).kindOf x = some .globalImplicit) autR) (hd:autoParam ((x == ("__debug__" : Str)) = false) autD) :
   wpAny M A (eval (.Name x pos) (envX cn cs L a ccd cl)) Q E s :=
 Name_function_global hk hx (loadGlobal_builtin (env:=envX cn cs L a ccd cl) (S.inv.top.g.keeps S.le) (mg_none_of S.inv.kin S.inv.top.g e) (S.inv.top.b.keeps S.le) ((S.inv.top.builtins x hn).trans hv) h) hd
theorem n_cellF {M:Model} {c:Addr} {Q:Value → Shared → Prop} (S:St g s₀ fz₀ s.heap s.gens s.os fz L l mu) (hc:cl.lookup x = some c) (hv:fz.IsCell c (some v)) (h:Q v s)
   (hk:autoParam (cs.kind = .function) autR) (hx:autoParam ((envX cn cs L a ccd cl).kindOf x = some .cell) autR) (hb:autoParam ((x == ("__debug__" : Str)) = false) autD) :
   wpAny M A (eval (.Name x pos) (envX cn cs L a ccd cl)) Q E s:=wpAny_Name (wpAny_loadName_cell hk hx hc (by obtain ⟨o,e,r⟩:=hv;exact ⟨o,S.le _ _ e,r⟩) h) hb
theorem st_loc {M:Model} {Q:Unit → Shared → Prop} (S:St g s₀ fz₀ s.heap s.gens s.os fz L l mu)
   (k:∀ s',St g s₀ fz₀ s'.heap s'.gens s'.os fz L ((x,v) :: l) mu → Q () s')
   (hk:autoParam (cs.kind = .function) autR) (hx:autoParam ((envX cn cs L a ccd cl).kindOf x = some .local) autR):wpAny M A (storeName (envX cn cs L a ccd cl) x v) Q E s :=
 wpAny_storeName_local hx S.ns (fun zz hn hs => k _ (S.same (by
   have e:(fun y => if y = x then some v else List.lookup y l) = fun y => List.lookup y ((x,v) :: l):=funext fun y => by
     rw [List.lookup_cons]
     by_cases h:y = x
     · subst h;simp
     · rw [if_neg h,beq_false_of_ne h]
   rw [← e];exact hn) hs)) (by show (cs.kind == .class || (cs.kind == .module && L != mainGlobals)) = false;rw [hk];rfl)
end
theorem Inv.kinS {g:G} {h h':Heap} (I:Inv g h) (k:Sub h h'):g.K.In h':=I.kin.keeps k
theorem boot_NI:bootBuiltins (Str.ofString "NotImplemented") = some .notImplemented:=by decide +kernel
theorem boot_m_isinstance:bootBuiltins (Str.ofString "isinstance") = some (.builtin "isinstance"):=by decide +kernel
theorem boot_m_len:bootBuiltins (Str.ofString "len") = some (.builtin "len"):=by decide +kernel
theorem boot_m_any:bootBuiltins (Str.ofString "any") = some (.builtin "any"):=by decide +kernel
theorem boot_m_all:bootBuiltins (Str.ofString "all") = some (.builtin "all"):=by decide +kernel
theorem boot_m_enumerate:bootBuiltins (Str.ofString "enumerate") = some (.type "enumerate"):=by decide +kernel
theorem boot_m_int:bootBuiltins (Str.ofString "int") = some (.type "int"):=by decide +kernel
theorem boot_m_tuple:bootBuiltins (Str.ofString "tuple") = some (.type "tuple"):=by decide +kernel
theorem boot_m_iter:bootBuiltins (Str.ofString "iter") = some (.builtin "iter"):=by decide +kernel
theorem boot_m_str:bootBuiltins (Str.ofString "str") = some (.type "str"):=by decide +kernel
theorem boot_m_range:bootBuiltins (Str.ofString "range") = some (.type "range"):=by decide +kernel
theorem boot_m_zip:bootBuiltins (Str.ofString "zip") = some (.type "zip"):=by decide +kernel
theorem boot_m_abs:bootBuiltins (Str.ofString "abs") = some (.builtin "abs"):=by decide +kernel
theorem boot_m_ord:bootBuiltins (Str.ofString "ord") = some (.builtin "ord"):=by decide +kernel
theorem boot_m_list:bootBuiltins (Str.ofString "list") = some (.type "list"):=by decide +kernel
noncomputable def KVs:List DictEntry → List (Str × Value) → Prop
 | [],[] => True
 | e :: es,q :: kv => (∃ t,e.key = .str q.1 t) ∧ e.val = q.2 ∧ KVs es kv
 | _,_ => False
theorem KVs.get {name:Str}:∀ {es:List DictEntry} {kv:List (Str × Value)},KVs es kv → getL name es = some (kv.lookup name)
 | [],[],_ => rfl
 | e :: es, q :: kv, ⟨⟨t, hk⟩, hv, r⟩ => by
   have ih:=KVs.get (name:=name) r
   obtain ⟨k,v⟩:=q
   obtain ⟨hh,ek,ev⟩:=e
   dsimp only at hk hv
   subst hk hv
   unfold getL at ih ⊢
   rw [List.find?_cons]
   by_cases h:name = k
   · subst h;simp [Value.isStr]
   · have h1:(DictEntry.mk hh (.str k t) ev).key.isStr name = false:=beq_false_of_ne (Ne.symm h)
     have h2:(name == k) = false:=beq_false_of_ne h
     have h3:(DictEntry.mk hh (.str k t) ev).refKey = false:=rfl
     simp only [h1,List.lookup_cons,h2,List.any_cons,h3,Bool.false_or]
     exact ih
 | [],_ :: _,h => h.elim
 | _ :: _,[],h => h.elim
inductive Inst (h:Heap) (x C:Addr) (kv:List (Str × Value)):Prop
 | mk (dx:_) (es:_) (n:_):(h.get? x = some (instObj C dx)) → (h.get? dx = some (dictOf es n)) → KVs es kv → Inst h x C kv
theorem Inst.grows {t:List Addr} {h h':Heap} {x C:Addr} {kv:List (Str × Value)} (I:Inst h x C kv) (k:Grows t h h'):Inst h' x C kv :=
 by obtain ⟨dx,es,n,a,b,r⟩:=I;exact ⟨dx,es,n,k _ _ a (fun zz e => nomatch e),k _ _ b (fun zz e => nomatch e),r⟩
theorem Inst.sub {h h':Heap} {x C:Addr} {kv:List (Str × Value)} (I:Inst h x C kv) (k:Sub h h'):Inst h' x C kv:=I.grows (k.grows [])
inductive InstE (h:Heap) (x C:Addr) (kv:List (Str × Value)):Prop
 | mk (dx:Addr) (es:List DictEntry) (n:Nat):InstAt h x (instObj C dx) C (some (dictOf es n)) → KVs es kv → InstE h x C kv
theorem Inst.at {h:Heap} {x C:Addr} {kv:List (Str × Value)} (I:Inst h x C kv):InstE h x C kv :=
 by obtain ⟨dx,es,n,a,b,r⟩:=I;exact ⟨dx,es,n,⟨a,rfl,rfl,b⟩,r⟩
section
variable {g:G} {s₀ s:Shared} {fz₀ fz:Heap} {L:Addr} {l:List (Str × Value)} {mu:List (Addr × Obj)} {A:Around} {E:Value → Shared → Prop}
 {x C D:Addr} {kv:List (Str × Value)} {name:Str} {v:Value}
theorem g_own {M:Model} {expr:Bool} {attr:Option Value} {Q:Value → Shared → Prop} (hM:M = model g.prog g.w) (S:St g s₀ fz₀ s.heap s.gens s.os fz L l mu) (I:Inst fz x C kv) (hg:plainGet g.K C name = true) (hh:hasDictIn g.K C = true)
   (ha:findIn g.K (.ref C) name = some attr) (hn:noGet g.K attr = true) (hv:kv.lookup name = some v) (hi:handedIn v = true) (h:Q v { s with toks:=s.toks + 1 }) :
   wpAny M A (getAttr (.ref x) name expr) Q E s:=by
 subst hM
 obtain ⟨_,_,_,J,r⟩:=(I.sub S.le).at
 exact get_value (S.inv.kin.keeps S.le) J (plainGet_of hg).1 (findObj_own hh ha hn (r.get.trans (by rw [hv]))) hi h
theorem g_cls {M:Model} {expr:Bool} {Q:Value → Shared → Prop} (hM:M = model g.prog g.w) (S:St g s₀ fz₀ s.heap s.gens s.os fz L l mu) (I:Inst fz x C kv) (hg:plainGet g.K C name = true) (hh:hasDictIn g.K C = true)
   (ha:findIn g.K (.ref C) name = some (some v)) (hn:specialIn g.K v "__get__" = some none) (hv:handedIn v = true) (hc:copiedNames.contains name = false) (hl:kv.lookup name = none) (h:Q v { s with toks:=s.toks + 1 }) :
   wpAny M A (getAttr (.ref x) name expr) Q E s:=by
 subst hM
 obtain ⟨_,_,_,J,r⟩:=(I.sub S.le).at
 exact get_value (S.inv.kin.keeps S.le) J (plainGet_of hg).1 (findObj_cls hh ha hn hv hc (r.get.trans (by rw [hl]))) hv h
theorem g_meth {M:Model} {pl:Sem Bool} {f:Addr} {Q:Value × List Value → Shared → Prop} (hM:M = model g.prog g.w) (S:St g s₀ fz₀ s.heap s.gens s.os fz L l mu) (I:Inst fz x C kv) (hg:plainGet g.K C name = true)
   (hf:findIn g.K (.ref C) name = some (some (.ref f))) (ht:isFn g.K (.ref f) = true) (hl:kv.lookup name = none) (h:Q (.ref f,[.ref x]) s):wpAny M A (getMethod (.ref x) name pl) Q E s:=by
 subst hM
 obtain ⟨_,_,_,J,r⟩:=(I.sub S.le).at
 exact method_fn (S.inv.kin.keeps S.le) J (plainGet_of hg).1 (plainGet_of hg).2 hf (beq_iff_eq.mp ht) (by show (lookIn name (dictOf _ _)).map _ = _;rw [lookIn_dict,r.get,hl];rfl) h
theorem i_yes {M:Model} {Q:Value → Shared → Prop} (hM:M = model g.prog g.w) (S:St g s₀ fz₀ s.heap s.gens s.os fz L l mu) (I:Inst fz x D kv) (e:isIn g.K (.ref D) C = true) (h:Q (.bool true) s) :
   wpAny M A (call (.builtin "isinstance") [.ref x,.ref C]) Q E s:=by
 subst hM
 obtain ⟨_,_,_,J,_⟩:=(I.sub S.le).at
 exact isi_call (S.inv.kin.keeps S.le) (fun zz => J.type) e (fun e => nomatch e) h
theorem i_no {M:Model} {Q:Value → Shared → Prop} (hM:M = model g.prog g.w) (S:St g s₀ fz₀ s.heap s.gens s.os fz L l mu) (I:Inst fz x D kv) (e:kin_not g.K D C = true) (hg:plainGet g.K D "__class__" = true) (hdct:hasDictIn g.K D = true) (ha:findIn g.K (.ref D) "__class__" = some (some (.builtin "object.__class__")))
   (hn:specialIn g.K (.builtin "object.__class__") "__get__" = some (some (.builtin "getset_descriptor.__get__"))) (htk:takesIn g.K (.builtin "object.__class__") = some true) (hm:mroIn g.K D (.type "object") = some true)
   (h:Q (.bool false) { s with toks:=s.toks + 1 }):wpAny M A (call (.builtin "isinstance") [.ref x,.ref C]) Q E s:=by
 subst hM
 obtain ⟨_,_,_,J,_⟩:=(I.sub S.le).at
 exact kin_callC (S.inv.kin.keeps S.le) J e hg hdct ha hn htk hm h
end
end
section
open PySem PySem.W PySem.Calls PyProof.Rows PySem.Spec PySem.Builtin
noncomputable def niNone:Value → Option Value
 | .notImplemented => none
 | v => some v
section
variable {g:G} {s₀ s:Shared} {fz₀ fz:Heap} {L:Addr} {l:List (Str × Value)} {mu:List (Addr × Obj)} {A:Around} {E:Value → Shared → Prop} {M:Model}
 {x y C D f:Addr} {kv kv':List (Str × Value)} {nm:Str} {b:Value}
theorem try_own {T:Option Value → Shared → Prop} (hM:M = model g.prog g.w) (hk:g.K.In s.heap) (I:Inst s.heap x C kv) (hs:findIn g.K (.ref C) nm = some (some (.ref f))) (hf:isFn g.K (.ref f) = true)
   (h:wpAny M A (call (.ref f) [.ref x,b]) (fun v s' => T (niNone v) s') E s):wpAny M A (tryCompare (.ref x) nm b) T E s:=by
 subst hM
 obtain ⟨_,_,_,J,_⟩:=I.at
 unfold tryCompare
 refine wpAny_bind (ifBound_K hk J hs hf (wpAny_mono h (fun v s' hv => ?_) fun zz zz e => e))
 cases v <;> exact wpAny_pure hv
theorem ne_kind:builtinKind "object.__ne__" = some .slot:=by decide +kernel
theorem ne_split:splitId "object.__ne__" = some ("object", "__ne__"):=by decide +kernel
theorem ne_plain:plainId "object.__ne__" = true:=by decide +kernel
theorem ne_entry:entryFor table "object.__ne__" = some Builtin.«object.__ne__» := entryFor_of_tree (by kernel_rfl)
theorem ne_args (a b:Value):argsOk "object.__ne__" ⟨[a,b],[]⟩:=by unfold argsOk;kernel_rfl
theorem ne_bind (self:Value):bindSpecial (.builtin "object.__ne__") self = pure (.builtin "object.__ne__", [self]) :=
 (Slot.of (T := "object") (name := "__ne__") (owner := "object") (n := "__ne__") (by rw [typeLookup_type,builtinLookup_eq_fast];kernel_rfl) (by decide +kernel) (by decide +kernel) (by decide +kernel)
   (.inl (by decide +kernel)) (by rw [isSubtype_type];kernel_rfl)).bind self
theorem try_objNe {T:Option Value → Shared → Prop} (hM:M = model g.prog g.w) (hk:g.K.In s.heap) (hu:A.units + 1 < cLine) (I:Inst s.heap x C kv) (hn:findIn g.K (.ref C) "__ne__" = some (some (.builtin "object.__ne__")))
   (ho:subIn g.K (.ref C) (.type "object") = some true) (hs:findIn g.K (.ref C) "__eq__" = some (some (.ref f))) (hf:isFn g.K (.ref f) = true)
   (h:wpAny M A.in1 (call (.ref f) [.ref x,b]) (fun v s' => match v with | .notImplemented => T none s' | v => wpAny M A.in1 (truthy v) (fun t s'' => T (some (.bool (!t))) s'') E s') E s) :
   wpAny M A (tryCompare (.ref x) "__ne__" b) T E s:=by
 subst hM
 obtain ⟨_,_,_,J,_⟩:=I.at
 unfold tryCompare callSpecialIfBound? bindSpecialIfBound?
 refine wpAny_bind ?_
 refine wpAny_holding (wpAny_bind (wpAny_bind (wpAny_bind (J.type.here ((looks_findIn hk hn).here ?_)))))
 have inst:Looks (model g.prog g.w) s.heap (isInstance (.ref x) (.type "object")) true:=J.type.andThen (looks_subIn hk ho)
 have fin:wpAny (model g.prog g.w) A (call (.builtin "object.__ne__") ([.ref x] ++ [b]) >>= fun v => pure (some v)) (fun r s' => wpAny (model g.prog g.w) A (match r with | some .notImplemented | none => pure none | some v => pure (some v)) T E s') E s:=by
   refine wpAny_bind (wpAny_call ?_)
   obtain ⟨hh,gn,d,t,os⟩:=s
   refine codeAny_call_builtin ne_plain ne_entry (@check_slot (model g.prog g.w) _ _ _ "object.__ne__" "object" "__ne__" (.ref x) [b] [] _ ne_kind ne_split inst (ne_args _ _) ?_)
   unfold Builtin.«object.__ne__» slotArgs
   refine wpAny_bind (wpAny_pure ?_)
   dsimp only
   refine wpAny_bind (wpAny_cRoomFor (by rw [Around.in1_units];exact hu) (wpAny_bind (ifBound_K hk J hs hf (wpAny_mono h (fun v s' hv => ?_) fun zz zz e => e))))
   cases v <;> first
     | exact wpAny_pure (wpAny_pure (wpAny_pure hv))
     | exact wpAny_bind (wpAny_mono hv (fun t s'' ht => wpAny_pure (wpAny_pure (wpAny_pure ht))) fun zz zz e => e)
 refine wpAny_bind (wpAny_askSetting (wpAny_ite ?_))
 split
 · refine wpAny_bind ?_
   rw [ne_bind]
   exact wpAny_pure (wpAny_pure (by exact fin))
 · refine wpAny_tryCatch (wpAny_bind ?_)
   rw [ne_bind]
   exact wpAny_pure (wpAny_pure (by exact fin))
theorem rc_two {op:CmpOp} {Q:Value → Shared → Prop} (hM:M = model g.prog g.w) (hk:g.K.In s.heap) (hu:A.units < cLine) (Ix:Inst s.heap x C kv) (Iy:Inst s.heap y D kv') (hn:notFirst g.K C (.ref D) = true)
   (h:wpAny M A (tryCompare (.ref x) (cmpInfo op).2.1 (.ref y)) (fun r s' => match r with
     | some v => Q v s'
     | none => wpAny M A (tryCompare (.ref y) (cmpInfo op).2.2 (.ref x)) (fun r s'' => match r with
       | some v => Q v s''
       | none => (op = .Eq ∧ x ≠ y ∧ Inst s''.heap x C kv ∧ Inst s''.heap y D kv' ∧ Q (.bool false) s'') ∨ (op = .NotEq ∧ x ≠ y ∧ Inst s''.heap x C kv ∧ Inst s''.heap y D kv' ∧ Q (.bool true) s'')) E s') E s) :
   wpAny M A (richCompare op (.ref x) (.ref y)) Q E s:=by
 subst hM
 obtain ⟨_,_,_,J,_⟩:=Ix.at
 obtain ⟨_,_,_,J',_⟩:=Iy.at
 have rest:∀ s',wpAny (model g.prog g.w) A (tryCompare (.ref y) (cmpInfo op).2.2 (.ref x)) (fun r s'' => match r with
       | some v => Q v s''
       | none => (op = .Eq ∧ x ≠ y ∧ Inst s''.heap x C kv ∧ Inst s''.heap y D kv' ∧ Q (.bool false) s'') ∨ (op = .NotEq ∧ x ≠ y ∧ Inst s''.heap x C kv ∧ Inst s''.heap y D kv' ∧ Q (.bool true) s'')) E s' →
     wpAny (model g.prog g.w) A (do
       if let some v ← tryCompare (.ref y) (cmpInfo op).2.2 (.ref x) then return v
       match op with
       | .Eq => rule "compare.eq-identity"; return .bool (← isSame (.ref x) (.ref y))
       | .NotEq => rule "compare.ne-identity"; return .bool (!(← isSame (.ref x) (.ref y)))
       | _ =>
         rule "compare.unsupported"
         raiseError "TypeError" s!"'{(cmpInfo op).1}' not supported between instances of '{← typeNameOf (.ref x)}' and '{← typeNameOf (.ref y)}'") Q E s':=by
   intro s' h'
   refine wpAny_bind (wpAny_mono h' (fun r s'' z => ?_) fun zz zz e => e)
   cases r with
   | some v => exact wpAny_pure z
   | none =>
     have same:∀ (hne:x ≠ y) (Jx:Inst s''.heap x C kv) (Jy:Inst s''.heap y D kv') {T:Bool → Shared → Prop},T false s'' → wpAny (model g.prog g.w) A (isSame (.ref x) (.ref y)) T E s'':=by
       intro hne Jx Jy T hT
       obtain ⟨dx,es,n,a,_⟩:=Jx
       obtain ⟨dy,es',n',a',_⟩:=Jy
       unfold isSame
       dsimp only
       rw [if_neg (by simpa using hne)]
       refine wpAny_bind (wpAny_load a (wpAny_bind (wpAny_load a' ?_)))
       exact wpAny_pure hT
     rcases z with ⟨rfl,hne,Jx,Jy,q⟩ | ⟨rfl,hne,Jx,Jy,q⟩
     · exact wpAny_bind (wpAny_rule (wpAny_bind (same hne Jx Jy (wpAny_pure q))))
     · exact wpAny_bind (wpAny_rule (wpAny_bind (same hne Jx Jy (wpAny_pure q))))
 refine wpAny_holding (wpAny_bind (wpAny_cRoomFor hu ?_))
 rw [oneThing_ref]
 refine lk_then J.type (lk_then J'.type ?_)
 have main:wpAny (model g.prog g.w) A (tryCompare (.ref x) (cmpInfo op).2.1 (.ref y)) (fun r s' => match r with
     | some v => Q v s'
     | none => wpAny (model g.prog g.w) A (do
       if let some v ← tryCompare (.ref y) (cmpInfo op).2.2 (.ref x) then return v
       match op with
       | .Eq => rule "compare.eq-identity"; return .bool (← isSame (.ref x) (.ref y))
       | .NotEq => rule "compare.ne-identity"; return .bool (!(← isSame (.ref x) (.ref y)))
       | _ =>
         rule "compare.unsupported"
         raiseError "TypeError" s!"'{(cmpInfo op).1}' not supported between instances of '{← typeNameOf (.ref x)}' and '{← typeNameOf (.ref y)}'") Q E s') E s :=
   wpAny_mono h (fun r s' z => by cases r with | some v => exact z | none => exact rest s' z) fun zz zz e => e
 by_cases q:(Value.ref C != Value.ref D) = true
 · have e':subIn g.K (.ref D) (.ref C) = some false:=by
     rcases Bool.or_eq_true_iff.mp hn with e | e
     · rw [beq_iff_eq.mp e] at q;simp at q
     · exact beq_iff_eq.mp e
   refine it_t q (lk_then (looks_subIn hk e') (it_f Bool.false_ne_true (wpAny_bind (wpAny_mono main (fun r s' z => ?_) fun zz zz e => e))))
   cases r with
   | some v => exact wpAny_pure z
   | none => exact it_t rfl z
 · refine it_f q (pu_then (it_f Bool.false_ne_true (wpAny_bind (wpAny_mono main (fun r s' z => ?_) fun zz zz e => e))))
   cases r with
   | some v => exact wpAny_pure z
   | none => exact it_t rfl z
end
theorem slot_bytes_lt:Slot "bytes" (cmpInfo .Lt).2.1 "bytes.__lt__" :=
 .of (owner := "bytes") (n := "__lt__") (by rw [typeLookup_type,builtinLookup_eq_fast];kernel_rfl) (by decide +kernel) (by decide +kernel) (by decide +kernel)
   (by first | exact .inl (by decide +kernel) | exact .inr (by decide +kernel)) (by rw [isSubtype_type];kernel_rfl)
theorem entry_bytes_lt:entryFor table "bytes.__lt__" = some Builtin.«bytes.__lt__» := entryFor_of_tree (by kernel_rfl)
theorem args_bytes_lt (a b:Value):argsOk "bytes.__lt__" ⟨[a,b],[]⟩:=by
 unfold argsOk;rw [signature?_of (id := "bytes.__lt__") (n:=['_','_','t','l','_','_']) (o:=['s','e','t','y','b']) (by kernel_rfl) FB.owner_bytes];kernel_rfl
theorem gives_bytes_lt (b c:Array UInt8) (t u:Tok):Gives («bytes.__lt__» ⟨[.bytes b t,.bytes c u],[]⟩) (.val (.bool (Bytes.order b.toList c.toList == .lt))):=by
 refine .of_wp fun M A E s Q hq => ?_
 show wpAny M A (isInstance (.bytes c u) (.type "bytes") >>= fun r => _) _ E s
 refine wpAny_bind (wpAny_isInstance (typeIs_bytes s c u) F.sub_bytes_bytes ?_)
 exact wpAny_pure ⟨_,rfl,hq⟩
theorem lt_bytes {prog:Program} {w:World} {A:Around} {E:Value → Shared → Prop} {s:Shared} {b c:Array UInt8} {t u:Tok} {Q:Value → Shared → Prop} (h:Q (.bool (Bytes.order b.toList c.toList == .lt)) s) :
   wpAny (model prog w) A (compareOp .Lt (.bytes b t) (.bytes c u)) Q E s :=
 compareOp_gives (op:=.Lt) (typeIs_bytes s b t) (typeIs_bytes s c u) slot_bytes_lt entry_bytes_lt (args_bytes_lt _ _) (gives_bytes_lt b c t u) (fun e => nomatch e) h
inductive Idn
 | max
 | num (n:Int)
 | alpha (b:Array UInt8)
 deriving DecidableEq
inductive IsI (h:Heap):Value → Idn → Prop
 | max {x:Addr}:Inst h x 117 [] → IsI h (.ref x) .max
 | num {x:Addr} {n:Int} {t:Tok}:Inst h x 180 [("value", .int n t)] → IsI h (.ref x) (.num n)
 | alpha {x:Addr} {b:Array UInt8} {t:Tok}:Inst h x 243 [("value", .bytes b t)] → IsI h (.ref x) (.alpha b)
theorem IsI.grows {t:List Addr} {h h':Heap} {v:Value} {i:Idn} (x:IsI h v i) (k:Grows t h h'):IsI h' v i:=by
 cases x with
 | max I => exact .max (I.grows k)
 | num I => exact .num (I.grows k)
 | alpha I => exact .alpha (I.grows k)
noncomputable def Idn.eqb:Idn → Idn → Bool
 | .max,.max => true
 | .num n,.num k => n == k
 | .alpha a,.alpha b => a.toList == b.toList
 | _,_ => false
noncomputable def Idn.ltb:Idn → Idn → Bool
 | .max,_ => false
 | _,.max => true
 | .num n,.num k => decide (n < k)
 | .num _,.alpha _ => true
 | .alpha _,.num _ => false
 | .alpha a,.alpha b => Bytes.order a.toList b.toList == .lt
theorem Aft.refl {g:G} {s:Shared} {fz:Heap} (sub:Sub fz s.heap) (inv:Inv g fz) (bare:AllBare s.gens):Aft g s fz s fz:=⟨Grows.refl _ _,Grows.refl _ _,sub,fun zz zz zz n => n,inv,bare,rfl,Nat.le_refl _⟩
theorem Aft.trans {g:G} {s s' s'':Shared} {fz fz' fz'':Heap} (iv:Inv g fz) (a:Aft g s fz s' fz') (b:Aft g s' fz' s'' fz''):Aft g s fz s'' fz'' :=
 ⟨a.keep.trans b.keep,a.gr.trans b.gr,b.le,fun c o e n => b.hid c o (a.keep c o e fun q => absurd q (iv.tab.not_mem n)) (a.hid c o e n),b.inv,b.bare,b.os_.trans a.os_,Nat.le_trans a.gsz b.gsz⟩
theorem Inst.cls {h:Heap} {x C D:Addr} {kv kv':List (Str × Value)} (a:Inst h x C kv) (b:Inst h x D kv'):C = D:=by
 obtain ⟨_,_,_,e,_⟩:=a
 obtain ⟨_,_,_,e',_⟩:=b
 have:=Option.some.inj (e.symm.trans e')
 exact Value.ref.inj (congrArg Obj.cls this)
theorem Runs.mono {α:Type} {g:G} {t:Sem α} {nd nu nd' nu':Nat} {P P':Heap → Prop} {R R':Heap → α → Prop} (x:Runs g t nd nu P R) (hd:nd ≤ nd') (hu:nu ≤ nu') (hP:∀ h,P' h → P h) (hR:∀ h r,R h r → R' h r):Runs g t nd' nu' P' R' :=
 fun A s fz Q E hh h1 h2 sub inv bare pre k => x A s fz Q E hh (by omega) (by omega) sub inv bare (hP _ pre) fun r s' fz' a p => k r s' fz' a (hR _ _ p)
theorem rc_runs {g:G} {op:CmpOp} {x y C D f f':Addr} {kv kv':List (Str × Value)} {nd nu:Nat} {P:Heap → Prop} {v1 v2 r0:Value} (hn:notFirst g.K C (.ref D) = true)
   (hs1:findIn g.K (.ref C) (cmpInfo op).2.1 = some (some (.ref f))) (hf1:isFn g.K (.ref f) = true) (hs2:findIn g.K (.ref D) (cmpInfo op).2.2 = some (some (.ref f'))) (hf2:isFn g.K (.ref f') = true)
   (R1:Runs g (call (.ref f) [.ref x,.ref y]) nd nu P (fun zz r => r = v1)) (R2:niNone v1 = none → Runs g (call (.ref f') [.ref y,.ref x]) nd nu P (fun zz r => r = v2))
   (hP:∀ h h',Grows g.tabs h h' → P h → P h') (hI:∀ h,P h → Inst h x C kv ∧ Inst h y D kv')
   (hv:(niNone v1 = some r0) ∨ (niNone v1 = none ∧ niNone v2 = some r0) ∨ (niNone v1 = none ∧ niNone v2 = none ∧ op = .Eq ∧ C ≠ D ∧ r0 = .bool false)) :
   Runs g (richCompare op (.ref x) (.ref y)) nd (nu + 1) P (fun zz r => r = r0):=by
 intro A s fz Q E hh hd hu sub inv bare pre k
 obtain ⟨Ix,Iy⟩:=hI _ pre
 refine rc_two rfl (inv.kin.keeps sub) (by omega) (Ix.sub sub) (Iy.sub sub) hn ?_
 refine try_own rfl (inv.kin.keeps sub) (Ix.sub sub) hs1 hf1 ?_
 refine R1 A s fz _ E hh hd (by omega) sub inv bare pre fun r s' fz' a post => ?_
 subst post
 rcases hv with e | ⟨e,e2⟩ | ⟨e,e2,rfl,hne,rfl⟩
 · rw [e];exact k _ _ _ a rfl
 · rw [e]
   have pre':=hP _ _ a.gr pre
   obtain ⟨Ix',Iy'⟩:=hI _ pre'
   refine try_own rfl (a.inv.kin.keeps a.le) (Iy'.sub a.le) hs2 hf2 ?_
   refine R2 e A s' fz' _ E hh hd (by omega) a.le a.inv a.bare pre' fun r s'' fz'' b post => ?_
   subst post
   rw [e2]
   exact k _ _ _ (a.trans inv b) rfl
 · rw [e]
   have pre':=hP _ _ a.gr pre
   obtain ⟨Ix',Iy'⟩:=hI _ pre'
   refine try_own rfl (a.inv.kin.keeps a.le) (Iy'.sub a.le) hs2 hf2 ?_
   refine R2 e A s' fz' _ E hh hd (by omega) a.le a.inv a.bare pre' fun r s'' fz'' b post => ?_
   subst post
   rw [e2]
   obtain ⟨Ix'',Iy''⟩:=hI _ (hP _ _ b.gr pre')
   exact .inl ⟨rfl,fun q => hne (by subst q;exact Ix.cls Iy),Ix''.sub b.le,Iy''.sub b.le,k _ _ _ (a.trans inv b) rfl⟩
theorem ne_runs {g:G} {x y C D f f':Addr} {kv kv':List (Str × Value)} {nd nu:Nat} {P:Heap → Prop} {v1 v2 r0:Value} (hn:notFirst g.K C (.ref D) = true)
   (hn1:findIn g.K (.ref C) "__ne__" = some (some (.builtin "object.__ne__"))) (ho1:subIn g.K (.ref C) (.type "object") = some true) (hs1:findIn g.K (.ref C) "__eq__" = some (some (.ref f))) (hf1:isFn g.K (.ref f) = true)
   (hn2:findIn g.K (.ref D) "__ne__" = some (some (.builtin "object.__ne__"))) (ho2:subIn g.K (.ref D) (.type "object") = some true) (hs2:findIn g.K (.ref D) "__eq__" = some (some (.ref f'))) (hf2:isFn g.K (.ref f') = true)
   (R1:Runs g (call (.ref f) [.ref x,.ref y]) nd nu P (fun zz r => r = v1)) (R2:niNone v1 = none → Runs g (call (.ref f') [.ref y,.ref x]) nd nu P (fun zz r => r = v2))
   (hP:∀ h h',Grows g.tabs h h' → P h → P h') (hI:∀ h,P h → Inst h x C kv ∧ Inst h y D kv')
   (hv:(∃ b,v1 = .bool b ∧ r0 = .bool (!b)) ∨ (v1 = .notImplemented ∧ ∃ b,v2 = .bool b ∧ r0 = .bool (!b)) ∨ (v1 = .notImplemented ∧ v2 = .notImplemented ∧ C ≠ D ∧ r0 = .bool true)) :
   Runs g (richCompare .NotEq (.ref x) (.ref y)) nd (nu + 2) P (fun zz r => r = r0):=by
 intro A s fz Q E hh hd hu sub inv bare pre k
 obtain ⟨Ix,Iy⟩:=hI _ pre
 refine rc_two rfl (inv.kin.keeps sub) (by omega) (Ix.sub sub) (Iy.sub sub) hn ?_
 refine try_objNe rfl (inv.kin.keeps sub) (by omega) (Ix.sub sub) hn1 ho1 hs1 hf1 ?_
 refine R1 A.in1 s fz _ E hh (by rw [Around.in1_depth];exact hd) (by rw [Around.in1_units];omega) sub inv bare pre fun r s' fz' a post => ?_
 have q0:v1 = r:=post.symm
 subst q0
 have second:v1 = .notImplemented → ∀ (T:Option Value → Shared → Prop),(∀ s'' fz'',Aft g s fz s'' fz'' → match (generalizing:=false) v2 with | .notImplemented => T none s'' | v => wpAny (model g.prog g.w) A.in1 (truthy v) (fun t s3 => T (some (.bool (!t))) s3) E s'') →
     wpAny (model g.prog g.w) A (tryCompare (.ref y) "__ne__" (.ref x)) T E s':=by
   intro e T hT
   have pre':=hP _ _ a.gr pre
   obtain ⟨Ix',Iy'⟩:=hI _ pre'
   refine try_objNe rfl (a.inv.kin.keeps a.le) (by omega) (Iy'.sub a.le) hn2 ho2 hs2 hf2 ?_
   refine R2 (by rw [e];rfl) A.in1 s' fz' _ E hh (by rw [Around.in1_depth];exact hd) (by rw [Around.in1_units];omega) a.le a.inv a.bare pre' fun r s'' fz'' b post => ?_
   subst post
   exact hT _ _ (a.trans inv b)
 rcases hv with ⟨b,rfl,rfl⟩ | ⟨rfl,b,rfl,rfl⟩ | ⟨rfl,rfl,hne,rfl⟩
 · exact wpAny_truthy_bool (k _ _ _ a rfl)
 · exact second rfl _ fun s'' fz'' a' => wpAny_truthy_bool (k _ _ _ a' rfl)
 · refine second rfl _ fun s'' fz'' a' => ?_
   obtain ⟨Ix'',Iy''⟩:=hI _ (hP _ _ a'.gr pre)
   exact .inr ⟨rfl,fun q => hne (by subst q;exact Ix.cls Iy),Ix''.sub a'.le,Iy''.sub a'.le,k _ _ _ a' rfl⟩
theorem isTup_grows {t:List Addr} {h h':Heap} {a:Addr} {vs:Array Value} (x:IsTup h a vs) (k:Grows t h h'):IsTup h' a vs :=
 by obtain ⟨o,e,c,r⟩:=x;exact ⟨o,k _ _ e (fun zz q => by rw [c] at q;cases q),c,r⟩
theorem isList_grows {t:List Addr} {h h':Heap} {a:Addr} {vs:Array Value} (x:h.IsList a vs) (k:Grows t h h'):h'.IsList a vs :=
 by obtain ⟨o,e,c,r⟩:=x;exact ⟨o,k _ _ e (fun zz q => by rw [c] at q;cases q),c,r⟩
theorem isTup_sub {h h':Heap} {a:Addr} {vs:Array Value} (x:IsTup h a vs) (k:Sub h h'):IsTup h' a vs:=isTup_grows x (k.grows [])
theorem isList_sub {h h':Heap} {a:Addr} {vs:Array Value} (x:h.IsList a vs) (k:Sub h h'):h'.IsList a vs:=isList_grows x (k.grows [])
noncomputable def Lex (g:G) (op:CmpOp) (nd nu:Nat) (P:Heap → Prop) (m n:Nat):List Value → List Value → Value → Prop
 | x :: xs,y :: ys,r => (Runs g (eqBool x y) nd nu P (fun zz b => b = true) ∧ Lex g op nd nu P m n xs ys r) ∨ (Runs g (eqBool x y) nd nu P (fun zz b => b = false) ∧ ((op = .Eq ∧ r = .bool false) ∨ (op = .NotEq ∧ r = .bool true) ∨ (op ≠ .Eq ∧ op ≠ .NotEq ∧ Runs g (richCompare op x y) nd nu P (fun zz v => v = r))))
 | _,_,r => r = Tuple.tupleCompareSizes op m n
section
variable {g:G} {op:CmpOp} {nd nu:Nat} {P:Heap → Prop} {m n:Nat} {x y r:Value} {xs ys:List Value}
theorem Lex.nilL:Lex g op nd nu P m n [] ys (Tuple.tupleCompareSizes op m n):=rfl
theorem Lex.nilR:Lex g op nd nu P m n xs [] (Tuple.tupleCompareSizes op m n):=by cases xs <;> rfl
theorem Lex.same (h:Runs g (eqBool x y) nd nu P (fun zz b => b = true)) (h2:Lex g op nd nu P m n xs ys r):Lex g op nd nu P m n (x :: xs) (y :: ys) r:=.inl ⟨h,h2⟩
theorem Lex.eqF (e:op = .Eq) (h:Runs g (eqBool x y) nd nu P (fun zz b => b = false)):Lex g op nd nu P m n (x :: xs) (y :: ys) (.bool false):=.inr ⟨h,.inl ⟨e,rfl⟩⟩
theorem Lex.neF (e:op = .NotEq) (h:Runs g (eqBool x y) nd nu P (fun zz b => b = false)):Lex g op nd nu P m n (x :: xs) (y :: ys) (.bool true):=.inr ⟨h,.inr (.inl ⟨e,rfl⟩)⟩
theorem Lex.ord (e1:op ≠ .Eq) (e2:op ≠ .NotEq) (h:Runs g (eqBool x y) nd nu P (fun zz b => b = false)) (h2:Runs g (richCompare op x y) nd nu P (fun zz v => v = r)):Lex g op nd nu P m n (x :: xs) (y :: ys) r:=.inr ⟨h,.inr (.inr ⟨e1,e2,h2⟩)⟩
end
noncomputable def LexZ (g:G) (op:CmpOp) (nd nu:Nat) (P:Heap → Prop) (m n:Nat) (r:Value) (ps:List (Value × Value)):Prop:=∃ xs ys,ps = List.zip xs ys ∧ Lex g op nd nu P m n xs ys r
theorem LexZ.step {g:G} {op:CmpOp} {nd nu:Nat} {P:Heap → Prop} {m n:Nat} {r:Value} {x y:Value} {ps:List (Value × Value)} (h:LexZ g op nd nu P m n r ((x,y) :: ps)) :
   (Runs g (eqBool x y) nd nu P (fun zz b => b = true) ∧ LexZ g op nd nu P m n r ps) ∨ (Runs g (eqBool x y) nd nu P (fun zz b => b = false) ∧ ((op = .Eq ∧ r = .bool false) ∨ (op = .NotEq ∧ r = .bool true) ∨ (op ≠ .Eq ∧ op ≠ .NotEq ∧ Runs g (richCompare op x y) nd nu P (fun zz v => v = r)))):=by
 obtain ⟨xs,ys,hz,hL⟩:=h
 rcases xs with _ | ⟨u,xs⟩
 · cases hz
 rcases ys with _ | ⟨v,ys⟩
 · cases hz
 cases hz
 exact hL.imp (fun h => ⟨h.1,_,_,rfl,h.2⟩) fun h => h
theorem LexZ.done {g:G} {op:CmpOp} {nd nu:Nat} {P:Heap → Prop} {m n:Nat} {r:Value} (h:LexZ g op nd nu P m n r []):r = Tuple.tupleCompareSizes op m n:=by
 obtain ⟨xs,ys,hz,hL⟩:=h
 rcases xs with _ | ⟨u,xs⟩
 · exact hL
 rcases ys with _ | ⟨v,ys⟩
 · exact hL
 cases hz
section
variable {g:G} {P:Heap → Prop} {nd nu:Nat}
theorem wp_op {α:Type} {M:Model} {op:CmpOp} {a b c:Sem α} {A:Around} {Q:α → Shared → Prop} {E:Value → Shared → Prop} {s:Shared} (h1:op ≠ .Eq) (h2:op ≠ .NotEq) (h:wpAny M A c Q E s):wpAny M A (match op with | .Eq => a | .NotEq => b | _ => c) Q E s:=by
 cases op <;> first | exact absurd rfl h1 | exact absurd rfl h2 | exact h
theorem tup_tree {op:CmpOp} {a b:Addr} {xs ys:List Value} {r0:Value} {A:Around} {s:Shared} {fz:Heap} {Q:Fin → Shared → Prop} {E:Value → Shared → Prop} (hh:A.handled = none) (hd:A.depth + nd < recursionLimit) (hu:A.units + nu < cLine)
   (sub:Sub fz s.heap) (inv:Inv g fz) (bare:AllBare s.gens) (pre:P fz) (hP:∀ h h',Grows g.tabs h h' → P h → P h') (ha:IsTup s.heap a xs.toArray) (hb:IsTup s.heap b ys.toArray) (hL:Lex g op nd nu P xs.length ys.length xs ys r0)
   (k:∀ s' fz',Aft g s fz s' fz' → Q (.done (.ret r0)) s') :
   wpAny (model g.prog g.w) A (do
     if !(← isInstance (.ref b) (.type "tuple")) then return ← ret .notImplemented
     let xs ← Tuple.tupleItemsOf (.ref a)
     let ys ← Tuple.tupleItemsOf (.ref b)
     for (x,y) in xs.toList.zip ys.toList do
       if !(← eqBool x y) then
         match op with
         | .Eq => return ← ret (.bool false)
         | .NotEq => return ← ret (.bool true)
         | _ => rule "tuple.compare.by-the-first-pair-that-differs"; return ← ret (← richCompare op x y)
     ret (Tuple.tupleCompareSizes op xs.size ys.size)) Q E s:=by
 obtain ⟨oa,hoa,hca,na,hda⟩:=ha
 obtain ⟨ob,hob,hcb,nb,hdb⟩:=hb
 refine wpAny_bind (wpAny_isInstance ⟨ob,hob,hcb⟩ isSubtype_tuple_tuple ?_)
 refine it_f Bool.false_ne_true ?_
 refine wpAny_bind (wpAny_tupleItemsOf hoa hda ?_)
 refine wpAny_bind (wpAny_tupleItemsOf hob hdb ?_)
 refine wpAny_bind ?_
 refine wpAny_forIn_list _
   (fun rest r s' => r.1 = none ∧ ∃ fz',Aft g s fz s' fz' ∧ LexZ g op nd nu P xs.length ys.length r0 rest)
   _ ?_ ?_ _ _ ⟨rfl,fz,Aft.refl sub inv bare,xs,ys,rfl,hL⟩
 · rintro ⟨u,v⟩ rest ⟨r1,r2⟩ s' ⟨hr,fz',a',hL'⟩
   dsimp only at hr
   have pre':=hP _ _ a'.gr pre
   rcases hL'.step with ⟨R,hL''⟩ | ⟨R,h4⟩
   · refine wpAny_bind (R A s' fz' _ E hh hd hu a'.le a'.inv a'.bare pre' fun r s'' fz'' b' post => ?_)
     rw [show r = true from post]
     exact wpAny_pure ⟨rfl,fz'',a'.trans inv b',hL''⟩
   · refine wpAny_bind (R A s' fz' _ E hh hd hu a'.le a'.inv a'.bare pre' fun r s'' fz'' b' post => ?_)
     rw [show r = false from post]
     have fin:∀ {s3 fz3},Aft g s'' fz'' s3 fz3 → Q (.done (.ret r0)) s3:=fun c' => k _ _ ((a'.trans inv b').trans inv c')
     have here:Q (.done (.ret r0)) s'':=k _ _ (a'.trans inv b')
     rcases h4 with ⟨rfl,rfl⟩ | ⟨rfl,rfl⟩ | ⟨e1,e2,R2⟩
     · exact wpAny_bind (wpAny_pure (wpAny_pure (wpAny_pure here)))
     · exact wpAny_bind (wpAny_pure (wpAny_pure (wpAny_pure here)))
     · have pre'':=hP _ _ b'.gr pre'
       have road:wpAny (model g.prog g.w) A (richCompare op u v) (fun v s3 => v = r0 ∧ Q (.done (.ret r0)) s3) E s'':=R2 A s'' fz'' _ E hh hd hu b'.le b'.inv b'.bare pre'' fun r s3 fz3 c' post => ⟨post,fin c'⟩
       refine it_t rfl (wp_op e1 e2 ?_)
       exact wpAny_bind (wpAny_rule (wpAny_bind (wpAny_mono road (fun v s3 hv => by rw [hv.1];exact wpAny_bind (wpAny_pure (wpAny_pure (wpAny_pure hv.2)))) fun zz zz z => z)))
 · rintro ⟨r1,r2⟩ s' ⟨hr,fz',a',hL'⟩
   dsimp only at hr
   subst hr
   refine wpAny_pure ?_
   show Q (.done (.ret (Tuple.tupleCompareSizes op xs.toArray.size ys.toArray.size))) s'
   rw [List.size_toArray,List.size_toArray,← hL'.done]
   exact k _ _ a'
theorem tup_runs {op:CmpOp} {a b:Addr} {xs ys:List Value} {r0:Value} (hop:op = .Eq ∨ op = .NotEq ∨ op = .Lt ∨ op = .LtE ∨ op = .Gt ∨ op = .GtE) (hP:∀ h h',Grows g.tabs h h' → P h → P h') (hT:∀ h,P h → IsTup h a xs.toArray ∧ IsTup h b ys.toArray)
   (hL:Lex g op nd nu P xs.length ys.length xs ys r0) (hr:r0 ≠ .notImplemented):Runs g (richCompare op (.ref a) (.ref b)) nd (nu + 1) P (fun zz r => r = r0):=by
 intro A s fz Q E hh hd hu sub inv bare pre k
 obtain ⟨ha,hb⟩:=hT _ pre
 have ha:=isTup_sub ha sub
 have hb:=isTup_sub hb sub
 have ta:s.TypeIs (.ref a) "tuple" := by obtain ⟨o,e,c,_⟩:=ha;exact ⟨o,e,c⟩
 have tb:s.TypeIs (.ref b) "tuple" := by obtain ⟨o,e,c,_⟩:=hb;exact ⟨o,e,c⟩
 have fin:=tup_tree (g:=g) (A:=A.in1) (Q:=fun fin s' => ∃ v,fin = .done (.ret v) ∧ v ≠ .notImplemented ∧ Q v s') (E:=E) hh (by rw [Around.in1_depth];exact hd) (by rw [Around.in1_units];lia) sub inv bare pre hP ha hb hL
   (fun s' fz' a' => ⟨r0,rfl,hr,k _ _ _ a' rfl⟩)
 rcases hop with rfl | rfl | rfl | rfl | rfl | rfl
 · exact wpAny_richCompare_same_or ta tb F.slot_tuple_eq (wpAny_call_entry F.slot_tuple_eq ta F.entry_tuple_eq fin (F.args_tuple_eq_2 _ _)) (.inr (by lia))
 · exact wpAny_richCompare_same_or ta tb F.slot_tuple_ne (wpAny_call_entry F.slot_tuple_ne ta F.entry_tuple_ne fin (F.args_tuple_ne_2 _ _)) (.inr (by lia))
 · exact wpAny_richCompare_same_or ta tb F.slot_tuple_lt (wpAny_call_entry F.slot_tuple_lt ta F.entry_tuple_lt fin (F.args_tuple_lt_2 _ _)) (.inr (by lia))
 · exact wpAny_richCompare_same_or ta tb F.slot_tuple_le (wpAny_call_entry F.slot_tuple_le ta F.entry_tuple_le fin (F.args_tuple_le_2 _ _)) (.inr (by lia))
 · exact wpAny_richCompare_same_or ta tb F.slot_tuple_gt (wpAny_call_entry F.slot_tuple_gt ta F.entry_tuple_gt fin (F.args_tuple_gt_2 _ _)) (.inr (by lia))
 · exact wpAny_richCompare_same_or ta tb F.slot_tuple_ge (wpAny_call_entry F.slot_tuple_ge ta F.entry_tuple_ge fin (F.args_tuple_ge_2 _ _)) (.inr (by lia))
theorem eqBool_ref {x y:Addr} {b:Bool} (h:Runs g (richCompare .Eq (.ref x) (.ref y)) nd nu P (fun zz r => r = .bool b)) (hs:∀ h,P h → x = y → b = true):Runs g (eqBool (.ref x) (.ref y)) nd nu P (fun zz r => r = b):=by
 intro A s fz Q E hh hd hu sub inv bare pre k
 unfold eqBool
 refine wpAny_holding ?_
 show wpAny _ _ (if (Value.ref x == Value.ref y) = true then _ else _) Q E s
 by_cases hab:(Value.ref x == Value.ref y) = true
 · rw [if_pos hab]
   have e:x = y:=by have:=eq_of_beq hab;injection this
   exact wpAny_bind (wpAny_rule (wpAny_pure (k _ _ _ (Aft.refl sub inv bare) (hs _ pre e).symm)))
 · rw [if_neg hab]
   refine wpAny_bind (h A s fz _ E hh hd hu sub inv bare pre fun r s' fz' a post => ?_)
   have post:r = .bool b:=post
   subst post
   exact wpAny_truthy_bool (k _ _ _ a rfl)
theorem eqBool_int {i j:Int} {t u:Tok}:Runs g (eqBool (.int i t) (.int j u)) nd nu P (fun zz r => r = (i == j)):=by
 intro A s fz Q E hh hd hu sub inv bare pre k
 exact wpAny_eqBool_int (k _ _ _ (Aft.refl sub inv bare) rfl)
theorem eqBool_strs {x y:Str} {t u:Tok}:Runs g (eqBool (.str x t) (.str y u)) nd nu P (fun zz r => r = (x == y)):=by
 intro A s fz Q E hh hd hu sub inv bare pre k
 exact eqBool_str (k _ _ _ (Aft.refl sub inv bare) rfl)
end
theorem order_refl:∀ a:List UInt8,Bytes.order a a = .eq
 | [] => rfl
 | x :: a => by
   rw [Bytes.order,if_neg (UInt8.lt_irrefl x),if_neg (UInt8.lt_irrefl x)]
   exact order_refl a
noncomputable def Idn.ord (i j:Idn):Ordering:=if i.ltb j then .lt else if i.eqb j then .eq else .gt
theorem Idn.eqb_refl (i:Idn):i.eqb i = true:=by
 cases i
 · rfl
 · exact beq_self_eq_true (α:=Int) _
 · exact beq_self_eq_true (α:=List UInt8) _
theorem Idn.lt_ne {i j:Idn} (h:i.ltb j = true):i.eqb j = false:=by
 cases i <;> cases j <;> first | rfl | exact absurd (show false = true from h) Bool.false_ne_true | skip
 · exact beq_false_of_ne (Int.ne_of_lt (of_decide_eq_true h))
 · refine beq_false_of_ne fun e => ?_
   have h:(Bytes.order _ _ == .lt) = true:=h
   rw [e,order_refl] at h;cases h
theorem Idn.eqb_ord (i j:Idn):i.eqb j = (i.ord j == .eq):=by
 unfold Idn.ord
 cases h:i.ltb j with
 | true => rw [Idn.lt_ne h];rfl
 | false => cases h':i.eqb j <;> rfl
noncomputable def opOrd:CmpOp → Ordering → Bool
 | .Eq,o => o == .eq
 | .NotEq,o => o != .eq
 | .Lt,o => o == .lt
 | .LtE,o => o != .gt
 | .Gt,o => o == .gt
 | _,o => o != .lt
noncomputable def ordKeys:List Idn → List Idn → Ordering
 | [],[] => .eq
 | [],_ :: _ => .lt
 | _ :: _,[] => .gt
 | i :: a, j :: b => match i.ord j with
   | .eq => ordKeys a b
   | o => o
noncomputable def ordInt (i j:Int):Ordering:=if i < j then .lt else if i = j then .eq else .gt
theorem ordInt_eq (i j:Int):(i == j) = (ordInt i j == .eq):=by
 unfold ordInt
 by_cases h:i < j
 · rw [if_pos h];have:i ≠ j:=by lia
   simp [this]
 · rw [if_neg h]
   by_cases h':i = j
   · simp [h']
   · simp [h']
noncomputable def AllI (h:Heap):List Value → List Idn → Prop
 | [],[] => True
 | v :: vs,i :: is => IsI h v i ∧ AllI h vs is
 | _,_ => False
theorem AllI.grows {t:List Addr} {h h':Heap} (k:Grows t h h') {vs:List Value}:∀ {is:List Idn},AllI h vs is → AllI h' vs is:=by
 induction vs with
 | nil => intro is a;cases is with | nil => trivial | cons => exact a
 | cons v vs ih => intro is a;cases is with | nil => exact a | cons => exact ⟨a.1.grows k,ih a.2⟩
theorem AllI.length {h:Heap} {vs:List Value}:∀ {is:List Idn},AllI h vs is → vs.length = is.length:=by
 induction vs with
 | nil => intro is a;cases is with | nil => rfl | cons => exact a.elim
 | cons v vs ih => intro is a;cases is with | nil => exact a.elim | cons => exact congrArg (· + 1) (ih a.2)
theorem kvs_vals {es:List DictEntry}:∀ {kv kv':List (Str × Value)},KVs es kv → KVs es kv' → kv.map (·.2) = kv'.map (·.2):=by
 induction es with
 | nil => intro kv kv' x y;cases kv <;> cases kv' <;> first | rfl | exact x.elim | exact y.elim
 | cons e es ih =>
   intro kv kv' x y
   cases kv with
   | nil => exact x.elim
   | cons q kv => cases kv' with
     | nil => exact y.elim
     | cons q' kv' => rw [List.map_cons,List.map_cons,← x.2.1,← y.2.1,ih x.2.2 y.2.2]
theorem Inst.vals {h:Heap} {x C D:Addr} {kv kv':List (Str × Value)} (p:Inst h x C kv) (q:Inst h x D kv'):kv.map (·.2) = kv'.map (·.2):=by
 obtain ⟨dx,es,n,e1,e2,r⟩:=p
 obtain ⟨dy,es',n',e1',e2',r'⟩:=q
 have z:=Option.some.inj (e1.symm.trans e1')
 have hd:dx = dy:=Option.some.inj (congrArg Obj.dict z)
 subst hd
 have z':=Option.some.inj (e2.symm.trans e2')
 have hes:es = es':=by
   have:=congrArg Obj.data z'
   injection this with this
   simpa using congrArg Array.toList this
 subst hes
 exact kvs_vals r r'
theorem IsI.inj {h:Heap} {v:Value} {i j:Idn} (a:IsI h v i) (b:IsI h v j):i = j:=by
 cases a with
 | max I => cases b with
   | max J => rfl
   | num J => exact nomatch I.vals J
   | alpha J => exact nomatch I.vals J
 | num I => cases b with
   | max J => exact nomatch I.vals J
   | num J => have z:=I.vals J;injection z with z;injection z with z;rw [z]
   | alpha J => have z:=I.vals J;injection z with z;exact nomatch z
 | alpha I => cases b with
   | max J => exact nomatch I.vals J
   | num J => have z:=I.vals J;injection z with z;exact nomatch z
   | alpha J => have z:=I.vals J;injection z with z;injection z with z;rw [z]
theorem cmp3 {i j:Int} {o:Ordering → Bool} {b:Bool} (h1:i < j → b = o .lt) (h2:i = j → b = o .eq) (h3:j < i → b = o .gt):b = o (ordInt i j):=by
 unfold ordInt
 by_cases h:i < j
 · rw [if_pos h];exact h1 h
 · rw [if_neg h]
   by_cases e:i = j
   · rw [if_pos e];exact h2 e
   · rw [if_neg e];exact h3 (by lia)
theorem cmp3n {m n:Nat} {o:Ordering → Bool} {b:Bool} (h1:m < n → b = o .lt) (h2:m = n → b = o .eq) (h3:n < m → b = o .gt):b = o (ordInt m n):=cmp3 (fun h => h1 (Int.ofNat_lt.mp h)) (fun h => h2 (Int.ofNat_inj.mp h)) fun h => h3 (Int.ofNat_lt.mp h)
theorem sizes_ord {op:CmpOp} (hop:op = .Eq ∨ op = .NotEq ∨ op = .Lt ∨ op = .LtE ∨ op = .Gt ∨ op = .GtE) (m n:Nat):Tuple.tupleCompareSizes op m n = .bool (opOrd op (ordInt m n)):=by
 refine congrArg Value.bool ?_
 have e:(m == n) = opOrd .Eq (ordInt m n):=cmp3n (o:=opOrd .Eq) (fun h => beq_false_of_ne (Nat.ne_of_lt h)) (fun h => by rw [h];exact beq_self_eq_true n) fun h => beq_false_of_ne (Nat.ne_of_gt h)
 rcases hop with rfl | rfl | rfl | rfl | rfl | rfl
 · exact e
 · exact congrArg not e
 · exact cmp3n (o:=opOrd .Lt) (fun h => decide_eq_true h) (fun h => decide_eq_false (by rw [h];exact Nat.lt_irrefl n)) fun h => decide_eq_false (Nat.lt_asymm h)
 · exact cmp3n (o:=opOrd .LtE) (fun h => decide_eq_true (Nat.le_of_lt h)) (fun h => decide_eq_true (Nat.le_of_eq h)) fun h => decide_eq_false (Nat.not_le_of_gt h)
 · exact cmp3n (o:=opOrd .Gt) (fun h => decide_eq_false (Nat.lt_asymm h)) (fun h => decide_eq_false (by rw [h];exact Nat.lt_irrefl n)) fun h => decide_eq_true h
 · exact cmp3n (o:=opOrd .GtE) (fun h => decide_eq_false (Nat.not_le_of_gt h)) (fun h => decide_eq_true (Nat.le_of_eq h.symm)) fun h => decide_eq_true (Nat.le_of_lt h)
noncomputable def oThen (o o':Ordering):Ordering:=match o with
 | .eq => o'
 | o => o
noncomputable abbrev Six (op:CmpOp):Prop:=op = .Eq ∨ op = .NotEq ∨ op = .Lt ∨ op = .LtE ∨ op = .Gt ∨ op = .GtE
theorem lex_step {g:G} {op:CmpOp} (hop:Six op) {nd nu:Nat} {P:Heap → Prop} {m n:Nat} {x y:Value} {xs ys:List Value} {o o':Ordering} (h1:Runs g (eqBool x y) nd nu P (fun zz b => b = (o == .eq))) (h2:Runs g (richCompare op x y) nd nu P (fun zz r => r = .bool (opOrd op o)))
   (h3:Lex g op nd nu P m n xs ys (.bool (opOrd op o'))):Lex g op nd nu P m n (x :: xs) (y :: ys) (.bool (opOrd op (oThen o o'))):=by
 cases o with
 | eq => exact .same h1 h3
 | lt =>
   rcases hop with rfl | rfl | hop
   · exact .eqF rfl h1
   · exact .neF rfl h1
   · exact .ord (by rcases hop with rfl | rfl | rfl | rfl <;> decide) (by rcases hop with rfl | rfl | rfl | rfl <;> decide) h1 h2
 | gt =>
   rcases hop with rfl | rfl | hop
   · exact .eqF rfl h1
   · exact .neF rfl h1
   · exact .ord (by rcases hop with rfl | rfl | rfl | rfl <;> decide) (by rcases hop with rfl | rfl | rfl | rfl <;> decide) h1 h2
theorem ordN_lt {m n:Nat} (h:m < n):ordInt m n = .lt:=if_pos (Int.ofNat_lt.mpr h)
theorem ordN_eq (n:Nat):ordInt n n = .eq:=(if_neg (Int.lt_irrefl _)).trans (if_pos rfl)
theorem ordN_gt {m n:Nat} (h:n < m):ordInt m n = .gt:=(if_neg (Int.not_lt.mpr (Int.le_of_lt (Int.ofNat_lt.mpr h)))).trans (if_neg (Int.ne_of_gt (Int.ofNat_lt.mpr h)))
theorem lexN0 {g:G} {op:CmpOp} (hop:Six op) {nd nu:Nat} {P:Heap → Prop} {m n:Nat} {ys:List Value} {o:Ordering} (e:ordInt m n = o):Lex g op nd nu P m n [] ys (.bool (opOrd op o)):=by
 subst e;rw [← sizes_ord hop];exact Lex.nilL
theorem lexNR {g:G} {op:CmpOp} (hop:Six op) {nd nu:Nat} {P:Heap → Prop} {m n:Nat} {xs:List Value} {o:Ordering} (e:ordInt m n = o):Lex g op nd nu P m n xs [] (.bool (opOrd op o)):=by
 subst e;rw [← sizes_ord hop];exact Lex.nilR
theorem lex_end {g:G} {op:CmpOp} (hop:Six op) {nd nu:Nat} {P:Heap → Prop} {n:Nat}:Lex g op nd nu P n n [] [] (.bool (opOrd op .eq)):=lexN0 hop (ordN_eq n)
theorem ordKeys_cons (k j:Idn) (ks js:List Idn):ordKeys (k :: ks) (j :: js) = oThen (k.ord j) (ordKeys ks js):=by
 show (match k.ord j with | .eq => ordKeys ks js | o => o) = _
 cases k.ord j <;> rfl
theorem int_op {g:G} {op:CmpOp} (hop:Six op) {nd nu:Nat} {P:Heap → Prop} (i j:Int) (t u:Tok):Runs g (richCompare op (.int i t) (.int j u)) nd nu P (fun zz r => r = .bool (opOrd op (ordInt i j))):=by
 intro A s fz Q E hh hd hu sub inv bare pre k
 have k:=fun b e => k (.bool b) _ _ (Aft.refl sub inv bare) (congrArg Value.bool e)
 have e:(i == j) = opOrd .Eq (ordInt i j):=ordInt_eq i j
 rcases hop with rfl | rfl | rfl | rfl | rfl | rfl
 · exact PySem.P.eq_int (k _ e)
 · exact PySem.P.ne_int (k _ (congrArg not e))
 · exact PySem.P.lt_int (k _ (cmp3 (o:=opOrd .Lt) (fun h => decide_eq_true h) (fun h => decide_eq_false (by rw [h];exact Int.lt_irrefl j)) fun h => decide_eq_false (Int.lt_asymm h)))
 · exact PySem.P.le_int (k _ (cmp3 (o:=opOrd .LtE) (fun h => decide_eq_true (Int.le_of_lt h)) (fun h => decide_eq_true (Int.le_of_eq h)) fun h => decide_eq_false (Int.not_le_of_gt h)))
 · exact PySem.P.gt_int (k _ (cmp3 (o:=opOrd .Gt) (fun h => decide_eq_false (Int.lt_asymm h)) (fun h => decide_eq_false (by rw [h];exact Int.lt_irrefl j)) fun h => decide_eq_true h))
 · exact PySem.P.ge_int (k _ (cmp3 (o:=opOrd .GtE) (fun h => decide_eq_false (Int.not_le_of_gt h)) (fun h => decide_eq_true (Int.le_of_eq h.symm)) fun h => decide_eq_true (Int.le_of_lt h)))
theorem int_eqBool {g:G} {nd nu:Nat} {P:Heap → Prop} (i j:Int) (t u:Tok):Runs g (eqBool (.int i t) (.int j u)) nd nu P (fun zz r => r = (ordInt i j == .eq)) :=
 eqBool_int.mono (Nat.le_refl _) (Nat.le_refl _) (fun zz h => h) fun zz zz h => h.trans (ordInt_eq i j)
theorem AllI.inj {h:Heap} {vs:List Value}:∀ {is js:List Idn},AllI h vs is → AllI h vs js → is = js:=by
 induction vs with
 | nil => intro is js a b;cases is <;> cases js <;> first | rfl | exact a.elim | exact b.elim
 | cons v vs ih =>
   intro is js a b
   cases is with
   | nil => exact a.elim
   | cons => cases js with
     | nil => exact b.elim
     | cons => rw [a.1.inj b.1,ih a.2 b.2]
theorem ordKeys_refl (ks:List Idn):ordKeys ks ks = .eq:=by
 induction ks with
 | nil => rfl
 | cons k ks ih =>
   have e:=Idn.eqb_refl k
   rw [Idn.eqb_ord,beq_iff_eq] at e
   rw [ordKeys_cons,e,ih];rfl
theorem IsTup.inj {h:Heap} {a:Addr} {xs ys:List Value} (p:IsTup h a xs.toArray) (q:IsTup h a ys.toArray):xs = ys:=by
 obtain ⟨o,e,_,n,d⟩:=p
 obtain ⟨o',e',_,n',d'⟩:=q
 have:=Option.some.inj (e.symm.trans e')
 subst this
 rw [d] at d'
 injection d' with z
 simpa using congrArg Array.toList z
structure Ver where
 ma:Int
 mi:Int
 pa:Int
 pre:List Str
 key:List Idn
noncomputable def Ver.ord (V U:Ver):Ordering:=oThen (ordInt V.ma U.ma) (oThen (ordInt V.mi U.mi) (oThen (ordInt V.pa U.pa) (oThen (ordKeys V.key U.key) .eq)))
noncomputable def AllS:List Value → List Str → Prop
 | [],[] => True
 | v :: vs,x :: xs => (∃ t,v = .str x t) ∧ AllS vs xs
 | _,_ => False
inductive IsVer (h:Heap) (v:Value) (V:Ver):Prop
 | mk (x tp tb k1 k2 kk : Addr) (t1 t2 t3 t4 t5 t6 : Tok) (ps ks : List Value) : v = .ref x →
   Inst h x 448 [("major", .int V.ma t1),("minor", .int V.mi t2),("patch", .int V.pa t3),("prerelease", .ref tp),("build", .ref tb),("partial", .bool false),("_cmp_precedence_key", .ref k1),("_sort_precedence_key", .ref k2)] →
   IsTup h tp ps.toArray → AllS ps V.pre → IsTup h tb #[] → IsTup h k1 #[.int V.ma t4,.int V.mi t5,.int V.pa t6,.ref kk] → IsTup h kk ks.toArray → AllI h ks V.key → ps.length ≤ 100 → IsVer h v V
theorem IsVer.is {h:Heap} {v:Value} {V:Ver} (x:IsVer h v V):IsVer h v V:=x
theorem IsVer.grows {t:List Addr} {h h':Heap} {v:Value} {V:Ver} (x:IsVer h v V) (k:Grows t h h'):IsVer h' v V:=by
 cases x with
 | mk x tp tb k1 k2 kk t1 t2 t3 t4 t5 t6 ps ks e I a b c d f i j => exact .mk x tp tb k1 k2 kk t1 t2 t3 t4 t5 t6 ps ks e (I.grows k) (isTup_grows a k) b (isTup_grows c k) (isTup_grows d k) (isTup_grows f k) (i.grows k) j
section
variable {g:G} {s₀ s:Shared} {fz₀ fz:Heap} {L:Addr} {l:List (Str × Value)} {mu:List (Addr × Obj)} {A:Around} {E:Value → Shared → Prop} {M:Model}
theorem St.allocF {h:Heap} {gn:Array GenState} {os:OsState} (S:St g s₀ fz₀ h gn os fz L l mu) (o:Obj) (hf:o.isFreed = false):Frz g s₀ fz₀ (h.push o) gn os fz L l mu h.objs.size o:=by
 obtain ⟨fz',a,b,c,d⟩:=(S.push o hf).freeze 0 rfl
 exact ⟨fz',a,b,c,by simpa using d⟩
theorem t_new {vs:List Value} {Q:Value → Shared → Prop} (S:St g s₀ fz₀ s.heap s.gens s.os fz L l mu) (hsz:vs.length ≤ sizeLine)
   (k:∀ s' fz' a,Grows g.tabs fz fz' → St g s₀ fz₀ s'.heap s'.gens s'.os fz' L l mu → IsTup fz' a vs.toArray → Q (.ref a) s'):wpAny M A (newTuple vs) Q E s:=by
 obtain ⟨fz',a,b,c,d⟩:=S.allocF { cls:=.type "tuple", data:=.seq vs.toArray } rfl
 exact wpAny_newObj_type (k _ fz' _ a d ⟨_,c,rfl,_,rfl⟩) (by show vs.toArray.size ≤ sizeLine;rw [List.size_toArray];exact hsz)
inductive OrP (g:G) (s₀:Shared) (fz₀:Heap) (L:Addr) (Q:Value → Shared → Prop):Value → Shared → Prop
 | tup {s : Shared} {fz : Heap} {l : List (Str × Value)} {mu : List (Addr × Obj)} {t : Addr} {vs : Array Value} : St g s₀ fz₀ s.heap s.gens s.os fz L l mu → IsTup fz t vs → (vs.size : Int) < 2 ^ 63 →
   (∀ t' s' fz',Grows g.tabs fz fz' → St g s₀ fz₀ s'.heap s'.gens s'.os fz' L l mu → IsTup fz' t' vs → Q (.ref t') s') → OrP g s₀ fz₀ L Q (.ref t) s
 | unit {s:Shared} {fz:Heap} {l:List (Str × Value)} {mu:List (Addr × Obj)}:St g s₀ fz₀ s.heap s.gens s.os fz L l mu → (∀ t' s' fz',Grows g.tabs fz fz' → St g s₀ fz₀ s'.heap s'.gens s'.os fz' L l mu → IsTup fz' t' #[] → Q (.ref t') s') → OrP g s₀ fz₀ L Q .none s
theorem or_unit {env:Env} {e:Expr} {k:Nat} {pos tpos:Pos} {Q:Value → Shared → Prop} (hM:M = model g.prog g.w) (S:St g s₀ fz₀ s.heap s.gens s.os fz L l mu)
   (h:wpAny M A (eval e env) (OrP g s₀ fz₀ L Q) E s):wpAny M A (eval (.BoolOp .Or [e,.Tuple [] k tpos] pos) env) Q E s:=by
 subst hM
 refine BoolOp_or (wpAny_mono h (fun v s₁ x => ?_) fun zz zz z => z)
 rcases x with @⟨_,fz,l,mu,t,vs,S,hT,hs,kk⟩ | @⟨_,fz,l,mu,S,kk⟩
 rotate_left
 · refine truthy_none ?_
   simp only [Bool.false_eq_true,if_false]
   refine Tuple_ (k:=k) ?_
   exact wpAny_pure (t_new (vs:=[]) S (by decide) fun s' fz' a G S' T => kk _ _ _ G S' T)
 refine truthy_tuple (isTup_sub hT S.le) hs ?_
 by_cases e:vs = #[]
 · subst e
   rw [show (!(#[]:Array Value).isEmpty) = false from rfl]
   simp only [Bool.false_eq_true,if_false]
   refine Tuple_ (k:=k) ?_
   refine wpAny_pure (t_new (vs:=[]) S (by decide) fun s' fz' a G S' T => ?_)
   exact kk _ _ _ G S' T
 · have:(!vs.isEmpty) = true:=by simpa using e
   rw [this]
   simp only [if_true]
   exact kk t _ fz (Grows.refl _ _) S hT
theorem allS_un {vs:List Value} {x:Str} {xs:List Str} (h:AllS vs (x :: xs)):∃ t ws,vs = .str x t :: ws ∧ AllS ws xs:=by
 cases vs with
 | nil => exact h.elim
 | cons v ws => obtain ⟨⟨t,e⟩,h⟩:=h;exact ⟨t,ws,by rw [e],h⟩
theorem allS_nl {vs:List Value} (h:AllS vs []):vs = []:=by
 cases vs with
 | nil => rfl
 | cons v ws => exact h.elim
theorem AllS.at {vs:List Value} {xs:List Str} (a:AllS vs xs) {i:Nat} {x:Str} (e:xs[i]? = some x):∃ t,vs[i]? = some (.str x t):=by
 induction xs generalizing vs i with
 | nil => exact nomatch e
 | cons y xs ih =>
   obtain ⟨t,ws,rfl,b⟩:=allS_un a
   cases i with
   | zero => cases e;exact ⟨t,rfl⟩
   | succ i => exact ih b e
theorem AllS.length {vs:List Value} {xs:List Str} (a:AllS vs xs):vs.length = xs.length:=by
 induction xs generalizing vs with
 | nil => rw [allS_nl a];rfl
 | cons x xs ih => obtain ⟨t,ws,rfl,b⟩:=allS_un a;exact congrArg (· + 1) (ih b)
theorem lex0 {P:Heap → Prop} {m n:Nat} {qs:List Value} {b:Bool} (e:(m == n) = b):Lex g .Eq 0 0 P m n [] qs (.bool b):=by subst e;exact Lex.nilL
theorem lexR0 {P:Heap → Prop} {m n:Nat} {ps:List Value} {b:Bool} (e:(m == n) = b):Lex g .Eq 0 0 P m n ps [] (.bool b):=by subst e;exact Lex.nilR
theorem lexStrs {P:Heap → Prop} (m n:Nat) (ps:List Value):∀ (qs:List Value) (xs ys:List Str),AllS ps xs → AllS qs ys → (∃ d,m = d + xs.length ∧ n = d + ys.length) → Lex g .Eq 0 0 P m n ps qs (.bool (decide (xs = ys))):=by
 induction ps with
 | nil =>
   intro qs xs ys a b ⟨d,h1,h2⟩
   cases xs with
   | cons => exact a.elim
   | nil =>
     refine lex0 ?_
     cases ys with
     | nil => rw [h1,h2];exact beq_self_eq_true d
     | cons => exact beq_false_of_ne (by rw [h1,h2,List.length_cons,List.length_nil];lia)
 | cons p ps ih =>
   intro qs xs ys a b ⟨d,h1,h2⟩
   cases xs with
   | nil => exact a.elim
   | cons x xs => cases qs with
     | nil => cases ys with
       | nil => exact lexR0 (beq_false_of_ne (by rw [h1,h2,List.length_cons,List.length_nil];lia))
       | cons => exact b.elim
     | cons q qs => cases ys with
       | nil => exact b.elim
       | cons y ys =>
         obtain ⟨⟨t,e⟩,a⟩:=a
         obtain ⟨⟨u,e'⟩,b⟩:=b
         subst e e'
         have E1:Runs g (eqBool (.str x t) (.str y u)) 0 0 P (fun zz r => r = (x == y)):=eqBool_strs
         by_cases h:x = y
         · subst h
           rw [beq_self_eq_true] at E1
           have t:=Lex.same (op:=.Eq) E1 (ih qs xs ys a b ⟨d + 1,by rw [h1,List.length_cons];lia,by rw [h2,List.length_cons];lia⟩)
           rwa [show decide (xs = ys) = decide (x :: xs = x :: ys) from decide_eq_decide.mpr ⟨fun e => by rw [e],fun e => List.tail_eq_of_cons_eq e⟩] at t
         · rw [beq_false_of_ne h] at E1
           have t:=Lex.eqF (op:=.Eq) (m:=m) (n:=n) (xs:=ps) (ys:=qs) rfl E1
           rwa [show decide (x :: xs = y :: ys) = false from decide_eq_false fun e => h (List.head_eq_of_cons_eq e)]
theorem strs_eq (a b:Addr) (ps qs:List Value) (xs ys:List Str):Runs g (richCompare .Eq (.ref a) (.ref b)) 0 1 (fun h => (IsTup h a ps.toArray ∧ AllS ps xs) ∧ IsTup h b qs.toArray ∧ AllS qs ys) (fun zz r => r = .bool (decide (xs = ys))):=by
 intro A s fz Q E hh hd hu sub inv bare pre k
 exact tup_runs (r0:=.bool (decide (xs = ys))) (P:=fun h => (IsTup h a ps.toArray ∧ AllS ps xs) ∧ IsTup h b qs.toArray ∧ AllS qs ys) (.inl rfl) (fun h h' q z => ⟨⟨isTup_grows z.1.1 q,z.1.2⟩,isTup_grows z.2.1 q,z.2.2⟩) (fun h z => ⟨z.1.1,z.2.1⟩)
   (lexStrs _ _ ps qs xs ys pre.1.2 pre.2.2 ⟨0,by rw [pre.1.2.length];lia,by rw [pre.2.2.length];lia⟩) (fun e => nomatch e) A s fz Q E hh hd hu sub inv bare pre k
end
noncomputable def SegC (M:Model) (A:Around) (c:Code) (t:Sem Fin) (s:Shared) (Φ:End → Shared → Prop):Prop :=
 ∀ Γ p,Γ.code = c → Γ.Woken A → ∃ e s',_root_.PySem.Runs M Γ p t [] s e s' ∧ Φ e s'
section
variable {M:Model} {A:Around} {c:Code} {s:Shared} {Φ:End → Shared → Prop}
theorem segC_wrap {α:Type} {m:Sem α} {K:α → Sem Fin} {H:Value → Sem Fin} {gd lv}
   (h:wpAny M (A.over c []) m (fun a s' => SegC M A c (K a) s' Φ) (fun x s' => SegC M A c (H x) s' Φ) s):SegC M A c (m.wrap K H gd lv) s Φ:=by
 rintro Γ p rfl hΓ
 exact runs_wrap_of_wp K H gd lv m (h (Γ.over []) p (hΓ.over [])) (fun a p' s' h' => h' Γ p' rfl hΓ) (fun x p' s' h' => h' Γ p' rfl hΓ)
theorem segC_bind {α β:Type} {m:Sem α} {K:α → Sem β} {K':β → Sem Fin} {H':Value → Sem Fin} {gd lv}
   (h:wpAny M (A.over c []) m (fun a s' => SegC M A c ((K a).wrap K' H' gd lv) s' Φ) (fun x s' => SegC M A c (H' x) s' Φ) s):SegC M A c ((m >>= K).wrap K' H' gd lv) s Φ:=by
 rw [Sem.bind_eq_wrap',Sem.wrap_wrap];exact segC_wrap h
theorem segC_at {p':Pos} {k:Unit → Sem Fin} (h:SegC M A c (k ()) s Φ):SegC M A c (.at p' k) s Φ :=
 segC_wrap (m:=standAt p') (K:=k) (H:=.raise) (gd:=id) (lv:=id) (wpAny_standAt h)
theorem segC_again {c':Code} (hq:c'.quiet = true) (hc:SegC M A c' (M.den c') s Φ):SegC M A c (.pure (.again c')) s Φ:=by
 rintro Γ p rfl hΓ
 obtain ⟨e,s',hr,he⟩:=hc (Γ.goto c') p rfl (hΓ.goto c')
 exact ⟨e,s',PySem.Runs.head (c₁:=c') (fun zz zz x => .again hq x) hr,he⟩
theorem segC_end (r:Result) (h:Φ (.ret r) s):SegC M A c (leafOf r) s Φ:=by
 rintro Γ p rfl _
 exact ⟨.ret r,s,PySem.Runs.leaf r,h⟩
theorem segC_yield {v g l} {k:Resume → Sem Fin} (h:∀ p,Φ (.susp v g l k c p []) s):SegC M A c (.yield v g l k) s Φ:=by
 rintro Γ p rfl _
 exact ⟨_,s,PySem.Runs.yield' [] rfl,h p⟩
noncomputable def Wake (M:Model) (gs:GenState) (c:Code) (t:Sem Fin):Prop:=(gs = .fresh c ∧ t = M.den c) ∨ ∃ k l p cl,gs = .suspended k l c p [] cl ∧ t = k (.send .none)
theorem resumeC {g:Nat} {gs:GenState} {t:Sem Fin} {l:List Value} {α:Type} {k:GenResult → Sem α} {Q:α → Shared → Prop} {E:Value → Shared → Prop} (hg:s.gens[g]? = some gs) (hw:Wake M gs c t)
   (h:SegC M A c t (s.setGen g .running) (fun e s₁ => e.quiet = true ∧ wpAny M A (k e.result) Q E (s₁.setGen g e.genState))):wpAny M A (.resume g (.send .none) l k) Q E s:=by
 intro Γ p hΓ
 rw [Sem.wp_resume]
 have hB:∀ c,(Γ.wake c p).Woken A:=fun c => hΓ.wake c p
 rcases hw with ⟨rfl,rfl⟩ | ⟨k₀,l₀,p₀,cl,rfl,rfl⟩
 · obtain ⟨e₁,s₁,hr,hq,he⟩:=h (Γ.wake c p) p rfl (hB c)
   exact ⟨_,_,by unfold Wakes;rw [hg];exact ⟨e₁,s₁,hr,hq,rfl,rfl⟩,he Γ p hΓ⟩
 · obtain ⟨e₁,s₁,hr,hq,he⟩:=h (Γ.wake c p) p₀ rfl (hB c)
   exact ⟨_,_,by unfold Wakes;rw [hg];exact ⟨e₁,s₁,hr,hq,rfl,rfl⟩,he Γ p hΓ⟩
end
section
variable {prog:Program} {w:World} {A:Around} {E:Value → Shared → Prop} {s:Shared}
inductive TurnEnd (g:Nat) (Q:Option Value → Shared → Prop):End → Shared → Prop
 | out (s₁:Shared):(∀ h',Sub s₁.heap h' → Q none { s₁.setGen g .finished with heap:=h' }) → TurnEnd g Q (.ret (.ok .next)) s₁
 | val (v:Value) (l:List Value) (k:Resume → Sem Fin) (c:Code) (p:Pos) (s₁:Shared):Q (some v) (s₁.setGen g (.suspended k l c p [] false)) → TurnEnd g Q (.susp v false l k c p []) s₁
theorem wp_eq {α:Type} {M:Model} {A:Around} {E:Value → Shared → Prop} {s:Shared} {t t':Sem α} {Q:α → Shared → Prop} (e:t = t') (h:wpAny M A t' Q E s):wpAny M A t Q E s:=by subst e;exact h
theorem pyNextC {a:Addr} {g:Nat} {gs:GenState} {c:Code} {t:Sem Fin} {Q:Option Value → Shared → Prop} (hh:A.handled = none) (hl:s.heap.NoLimit) (hroom:A.depth < recursionLimit)
   (hg:s.heap.IsGen a g) (hgs:s.gens[g]? = some gs) (hw:Wake (model prog w) gs c t) (h:SegC (model prog w) A.in1 c t (s.setGen g .running) (TurnEnd g Q)) :
   wpAny (model prog w) A (pyNext (.ref a)) Q E s:=by
 unfold pyNext
 refine wpAny_bind (wpAny_attempt (wpAny_callSpecial?_slot (name:=Str.ofString "__next__") hg.typeIs slot_gen_next
   (wpAny_call_entry slot_gen_next hg.typeIs entry_gen_next ?_ (args_gen_next _))))
 show wpAny _ A.in1 (Builtin.Generator.genWake (.ref a) (.send .none)) _ _ s
 unfold Builtin.Generator.genWake
 refine wpAny_bind (wpAny_holding (wpAny_genNumber hg (wpAny_bind (wpAny_genState hgs ?_))))
 refine wp_eq (by rcases id hw with ⟨rfl,_⟩ | ⟨_,_,_,_,rfl,_⟩ <;> exact rfl) ?_
 refine wpAny_bind (wpAny_roomToWake hl hroom ?_)
 show wpAny _ A.in1 (.resume g (.send .none) [] _) _ _ s
 refine resumeC hgs hw ?_
 intro Γ p hc hΓ
 obtain ⟨e,s₁,hr,he⟩:=h Γ p hc hΓ
 refine ⟨e,s₁,hr,?_⟩
 rcases he with ⟨_,hq⟩ | ⟨v,l,k,c,p,_,hq⟩
 · refine ⟨rfl,?_⟩
   show wpAny _ A.in1 (newExc (.type "StopIteration") [] >>= _) _ _ _
   refine wpAny_bind ?_
   simp only [newExc,newTuple]
   refine wpAny_bind (wpAny_newObj_type ?_ (by size_fits))
   refine wpAny_bind (m:=firstArgMember _ _) (wpAny_of_eq (a:=Value.none) (by first | rfl | (simp only [firstArgMember];rfl)) ?_)
   refine wpAny_newObj_type ?_ (by size_fits)
   refine wpAny_bind (wpAny_bind (wpAny_handled ?_))
   first | rw [show A.in1.handled = none from hh] | rw [hh]
   refine wpAny_throw ?_
   refine wpAny_bind (wpAny_isInstance (T := "StopIteration") (b:=true) ⟨_,Heap.get?_push_size _ rfl,rfl⟩ isSubtype_stop ?_)
   exact wpAny_pure (hq _ fun b o hb => Heap.get?_push_of_some _ (Heap.get?_push_of_some _ hb))
 · refine ⟨rfl,?_⟩
   exact wpAny_pure ⟨v,rfl,wpAny_pure hq⟩
end
section
variable {g:G} {s₀:Shared} {fz₀ h h' fz:Heap} {gn:Array GenState} {os:OsState} {L:Addr} {l:List (Str × Value)} {mu:List (Addr × Obj)}
theorem St.ext (S:St g s₀ fz₀ h gn os fz L l mu) (k:Sub h h'):St g s₀ fz₀ h' gn os fz L l mu :=
 ⟨S.ns.keeps k,S.keep.trans (k.grows _),S.le.trans k,S.gr,S.hid,S.bL,S.fL,fun p hp => let z:=S.own p hp;⟨k _ _ z.1,z.2⟩,S.nd,S.inv,S.bare,S.os_,S.gsz⟩
theorem St.withGens {gn':Array GenState} (S:St g s₀ fz₀ h gn os fz L l mu) (b:AllBare gn') (z:gn.size ≤ gn'.size):St g s₀ fz₀ h gn' os fz L l mu :=
 ⟨S.ns,S.keep,S.le,S.gr,S.hid,S.bL,S.fL,S.own,S.nd,S.inv,b,S.os_,Nat.le_trans S.gsz z⟩
theorem St.names {l':List (Str × Value)} (S:St g s₀ fz₀ h gn os fz L l mu) (e:∀ y,l.lookup y = l'.lookup y):St g s₀ fz₀ h gn os fz L l' mu :=
 ⟨by rw [← funext e];exact S.ns,S.keep,S.le,S.gr,S.hid,S.bL,S.fL,S.own,S.nd,S.inv,S.bare,S.os_,S.gsz⟩
theorem St.drop1 {p:Addr × Obj} (S:St g s₀ fz₀ h gn os fz L l (p :: mu)):St g s₀ fz₀ h gn os fz L l mu :=
 ⟨S.ns,S.keep,S.le,S.gr,S.hid,S.bL,S.fL,fun q hq => S.own q (.tail _ hq),(List.nodup_cons.mp S.nd).2,S.inv,S.bare,S.os_,S.gsz⟩
theorem St.turn1 {I:Addr} {oI oI':Obj} (S:St g s₀ fz₀ h gn os fz L l ((I,oI) :: mu)) (k:∀ b o,b ≠ I → h.get? b = some o → h'.get? b = some o) (e:h'.get? I = some oI') :
   St g s₀ fz₀ h' gn os fz L l ((I,oI') :: mu):=by
 have z:=S.own _ (.head _)
 have n:=List.nodup_cons.mp S.nd
 have k':∀ b o,(b = I → False) → h.get? b = some o → h'.get? b = some o:=k
 refine ⟨?_,fun b o q r => k b o (fun x => ?_) (S.keep b o q r),fun b o q => k b o (fun x => ?_) (S.le b o q),S.gr,S.hid,S.bL,S.fL,fun p hp => ?_,n.2 |> fun y => List.nodup_cons.mpr ⟨n.1,y⟩,S.inv,S.bare,S.os_,S.gsz⟩
 · exact S.ns.at' fun o q => k _ o (Ne.symm z.2.1) q
 · rw [x,z.2.2.1] at q;cases q
 · rw [x,z.2.2.2] at q;cases q
 · rcases List.mem_cons.mp hp with rfl | hp
   · exact ⟨e,z.2⟩
   · have y:=S.own p (.tail _ hp)
     exact ⟨k _ _ (fun x => n.1 (List.mem_map.mpr ⟨p,hp,x⟩)) y.1,y.2⟩
theorem St.swap {C:Addr} {oC:Obj} {l':List (Str × Value)} (S:St g s₀ fz₀ h gn os fz L l ((C,oC) :: mu)) (hC:h.Ns C (fun y => l'.lookup y)) :
   ∃ oL,h.get? L = some oL ∧ St g s₀ fz₀ h gn os fz C l' ((L,oL) :: mu):=by
 obtain ⟨oL,es,ep,hL,r⟩:=id S.ns
 have z:=S.own _ (.head _)
 have n:=List.nodup_cons.mp S.nd
 refine ⟨oL,hL,hC,S.keep,S.le,S.gr,S.hid,z.2.2.1,z.2.2.2,fun p hp => ?_,List.nodup_cons.mpr ⟨fun hm => ?_,n.2⟩,S.inv,S.bare,S.os_,S.gsz⟩
 · rcases List.mem_cons.mp hp with rfl | hp
   · exact ⟨hL,Ne.symm z.2.1,S.bL,S.fL⟩
   · have y:=S.own p (.tail _ hp)
     exact ⟨y.1,fun x => n.1 (List.mem_map.mpr ⟨p,hp,x⟩),y.2.2⟩
 · obtain ⟨p,hp,e⟩:=List.mem_map.mp hm
   exact (S.own p (.tail _ hp)).2.1 e
theorem St.tabUp {P:Addr} {ps:Array Value} (S:St g s₀ fz₀ h gn os fz L l mu) (hP:P ∈ g.tabs) (k:Heap.ExtBut P h h') (e:h'.get? P = some (tabObj ps)) (ht:TriplesOk ps.toList) :
   ∃ fz',Grows g.tabs fz fz' ∧ St g s₀ fz₀ h' gn os fz' L l mu:=by
 obtain ⟨ps₀,e₀,_⟩:=S.inv.tab P hP
 have lt:=Heap.lt_size e
 have hn:∀ b o,fz.get? b = some o → b < h'.objs.size:=fun b o q => by
   by_cases hb:b = P
   · rw [hb];exact lt
   · exact Heap.lt_size (k b o hb (S.le b o q))
 have gt:=put_get (fz:=fz) lt hn (rfl:(tabObj ps).isFreed = false)
 have gr:Grows g.tabs fz (put fz h'.objs.size P (tabObj ps)):=fun b o q r => by
   rw [gt b]
   by_cases hb:b = P
   · subst hb;rw [e₀] at q;cases q;exact absurd rfl (r hP)
   · rw [if_neg hb];exact q
 have ne:∀ b,h.get? b = none → b ≠ P:=fun b q x => by rw [x,S.le _ _ e₀] at q;cases q
 have nf:∀ b,fz.get? b = none → b ≠ P:=fun b q x => by rw [x,e₀] at q;cases q
 have tab:TabsOk g.tabs (put fz h'.objs.size P (tabObj ps)):=fun P' hP' => by
   by_cases hb:P' = P
   · subst hb;exact ⟨ps,by rw [gt,if_pos rfl],ht⟩
   · obtain ⟨q,a,b⟩:=S.inv.tab P' hP'
     exact ⟨q,by rw [gt,if_neg hb];exact a,b⟩
 refine ⟨_,gr,S.ns.extBut k (nf _ S.fL),S.keep.trans fun b o q r => ?_,fun b o q => ?_,S.gr.trans gr,fun b o q r => ?_,S.bL,?_,fun p hp => ?_,S.nd,S.inv.grows gr tab,S.bare,S.os_,S.gsz⟩
 · by_cases hb:b = P
   · subst hb;rw [S.le _ _ e₀] at q;cases q;exact absurd rfl (r hP)
   · exact k b o hb q
 · rw [gt b] at q
   by_cases hb:b = P
   · rw [if_pos hb] at q;cases q;rw [hb];exact e
   · rw [if_neg hb] at q;exact k b o hb (S.le b o q)
 · have y:=S.hid b o q r
   rw [gt b,if_neg (nf _ y)];exact y
 · rw [gt L,if_neg (nf _ S.fL)];exact S.fL
 · have z:=S.own p hp
   refine ⟨k _ _ (nf _ z.2.2.2) z.1,z.2.1,z.2.2.1,?_⟩
   rw [gt,if_neg (nf _ z.2.2.2)];exact z.2.2.2
end
noncomputable def Col (h:Heap) (k:Bool) (a:Addr) (items:Array Value):Prop:=if k then h.IsList a items else h.IsTuple a items
noncomputable def ItAt (h:Heap) (k:Bool) (I a:Addr) (i:Nat):Prop:=if k then h.IsListIter I a i else h.IsTupleIter I a i
noncomputable def itName (k:Bool):String:=if k then "list_iterator" else "tuple_iterator"
theorem Col.grows {t:List Addr} {h h':Heap} {k:Bool} {a:Addr} {items:Array Value} (x:Col h k a items) (q:Grows t h h'):Col h' k a items:=by
 cases k
 · obtain ⟨o,e,c,r⟩:=(x:h.IsTuple a items);exact ⟨o,q _ _ e (fun zz z => by rw [c] at z;cases z),c,r⟩
 · obtain ⟨o,e,c,r⟩:=(x:h.IsList a items);exact ⟨o,q _ _ e (fun zz z => by rw [c] at z;cases z),c,r⟩
theorem Col.sub {h h':Heap} {k:Bool} {a:Addr} {items:Array Value} (x:Col h k a items) (q:Sub h h'):Col h' k a items:=x.grows (q.grows [])
theorem ItAt.get {h:Heap} {k:Bool} {I a:Addr} {i:Nat} (x:ItAt h k I a i):∃ o,h.get? I = some o:=by
 cases k
 · obtain ⟨o,e,_⟩:=(x:h.IsTupleIter I a i);exact ⟨o,e⟩
 · obtain ⟨o,e,_⟩:=(x:h.IsListIter I a i);exact ⟨o,e⟩
theorem ItAt.at {h h':Heap} {k:Bool} {I a:Addr} {i:Nat} (x:ItAt h k I a i) (q:∀ o,h.get? I = some o → h'.get? I = some o):ItAt h' k I a i:=by
 cases k
 · exact Heap.IsTupleIter.at x q
 · exact Heap.IsListIter.at x q
section
variable {g:G} {s₀ s:Shared} {fz₀ fz:Heap} {L:Addr} {l:List (Str × Value)} {mu:List (Addr × Obj)} {A:Around} {E:Value → Shared → Prop} {M:Model} {k:Bool} {a I:Addr} {items:Array Value}
theorem it_make {Q:Value → Shared → Prop} (hM:M = model g.prog g.w) (S:St g s₀ fz₀ s.heap s.gens s.os fz L l mu) (hc:Col fz k a items)
   (h:∀ s' I oI,St g s₀ fz₀ s'.heap s'.gens s'.os fz L l ((I,oI) :: mu) → ItAt s'.heap k I a 0 → Q (.ref I) s'):wpAny M A (pyIter (.ref a)) Q E s:=by
 subst hM
 have c:=hc.sub S.le
 cases k
 · exact wpAny_pyIter_tuple (items:=items) c (h _ _ _ (S.push _ rfl) ⟨_,Heap.get?_push_size _ rfl,rfl,rfl⟩)
 · exact wpAny_pyIter_list (items:=items) c (h _ _ _ (S.push _ rfl) ⟨_,Heap.get?_push_size _ rfl,rfl,rfl⟩)
theorem it_item {Q:Option Value → Shared → Prop} {i:Nat} {v:Value} {oI:Obj} (hM:M = model g.prog g.w) (S:St g s₀ fz₀ s.heap s.gens s.os fz L l ((I,oI) :: mu)) (hc:Col fz k a items) (hi:ItAt s.heap k I a i)
   (hv:items[i]? = some v) (h:∀ h' oI',St g s₀ fz₀ h' s.gens s.os fz L l ((I,oI') :: mu) → ItAt h' k I a (i + 1) → Q (some v) { s with heap:=h' }):wpAny M A (pyNext (.ref I)) Q E s:=by
 subst hM
 have c:=hc.sub S.le
 cases k
 · refine wpAny_pyNext_tuple_item hi c hv fun h' hi' hs => ?_
   obtain ⟨o',e⟩:=ItAt.get (k:=false) hi'
   exact h h' o' (S.turn1 (fun b o n q => hs.extBut b o n q) e) hi'
 · refine wpAny_pyNext_list_item hi c hv fun h' hi' hs => ?_
   obtain ⟨o',e⟩:=ItAt.get (k:=true) hi'
   exact h h' o' (S.turn1 (fun b o n q => hs.extBut b o n q) e) hi'
theorem it_done {Q:Option Value → Shared → Prop} {oI:Obj} (hM:M = model g.prog g.w) (hh:A.handled = none) (S:St g s₀ fz₀ s.heap s.gens s.os fz L l ((I,oI) :: mu)) (hc:Col fz k a items) (hi:ItAt s.heap k I a items.size)
   (h:∀ h',St g s₀ fz₀ h' s.gens s.os fz L l mu → Q none { s with heap:=h' }):wpAny M A (pyNext (.ref I)) Q E s:=by
 subst hM
 have c:=hc.sub S.le
 have key:∀ h',Heap.ExtBut I s.heap h' → St g s₀ fz₀ h' s.gens s.os fz L l mu:=fun h' x => by
   have z:=S.own _ (.head _)
   have n:=List.nodup_cons.mp S.nd
   refine ⟨S.ns.at' fun o q => x _ o (Ne.symm z.2.1) q,fun b o q r => x b o (fun y => ?_) (S.keep b o q r),fun b o q => x b o (fun y => ?_) (S.le b o q),S.gr,S.hid,S.bL,S.fL,fun p hp => ?_,n.2,S.inv,S.bare,S.os_,S.gsz⟩
   · rw [y,z.2.2.1] at q;cases q
   · rw [y,z.2.2.2] at q;cases q
   · have y:=S.own p (.tail _ hp)
     exact ⟨x _ _ (fun w => n.1 (List.mem_map.mpr ⟨p,hp,w⟩)) y.1,y.2⟩
 cases k
 · exact wpAny_pyNext_tuple_end hh hi c (by simp) fun h' he => h h' (key h' he)
 · exact wpAny_pyNext_list_end hh hi c (by simp) fun h' he => h h' (key h' he)
end
noncomputable abbrev envG (cs:Scope) (cl:List (Str × Addr)) (C:Addr) (code:Value) (q:Str):Env :=
 { scope:=cs,locals:=C,globals:=mainGlobals,cells:=cl,qual:=q ++ "<genexpr>.", func:=none,code:=code,frame:=some C,builtins:=builtinsNs }
section
variable {g:G} {s₀ s:Shared} {fz₀ fz:Heap} {L:Addr} {l:List (Str × Value)} {mu:List (Addr × Obj)} {A:Around} {E:Value → Shared → Prop}
 {cs:Scope} {code:Value} {q:Str} {cl:List (Str × Addr)} {x:Str} {pos:Pos} {v:Value}
theorem nG_loc {M:Model} {Q:Value → Shared → Prop} (S:St g s₀ fz₀ s.heap s.gens s.os fz L l mu) (hv:l.lookup x = some v) (h:Q v s)
   (hk:autoParam (cs.kind = .function) autR) (hx:autoParam ((envG cs cl L code q).kindOf x = some .local) autR) (hd:autoParam ((x == ("__debug__" : Str)) = false) autD) :
   wpAny M A (eval (.Name x pos) (envG cs cl L code q)) Q E s:=wpAny_Name (wpAny_loadName_local hk hx S.ns hv h) hd
theorem nG_glob {M:Model} {Q:Value → Shared → Prop} (S:St g s₀ fz₀ s.heap s.gens s.os fz L l mu) (e:nsIn g.K mainGlobals x = some (some v)) (h:Q v s)
   (hk:autoParam (cs.kind = .function) autR) (hx:autoParam ((envG cs cl L code q).kindOf x = some .globalImplicit) autR) (hd:autoParam ((x == ("__debug__" : Str)) = false) autD) :
   wpAny M A (eval (.Name x pos) (envG cs cl L code q)) Q E s :=
 Name_function_global hk hx (loadGlobal_global (env:=envG cs cl L code q) (S.inv.top.g.keeps S.le) (mg_of S.inv.kin S.inv.top.g e) h) hd
theorem nG_free {M:Model} {c:Addr} {Q:Value → Shared → Prop} (S:St g s₀ fz₀ s.heap s.gens s.os fz L l mu) (hc:cl.lookup x = some c) (hv:fz.IsCell c (some v)) (h:Q v s)
   (hk:autoParam (cs.kind = .function) autR) (hx:autoParam ((envG cs cl L code q).kindOf x = some .free) autR) (hb:autoParam ((x == ("__debug__" : Str)) = false) autD) (hn:autoParam ((x == ("__classdict__" : Str)) = false) autD) :
   wpAny M A (eval (.Name x pos) (envG cs cl L code q)) Q E s:=wpAny_Name (wpAny_loadName_free hk hx hc (by obtain ⟨o,e,r⟩:=hv;exact ⟨o,S.le _ _ e,r⟩) h hn) hb
end
section
variable {g:G} {s₀:Shared} {fz₀ h fz:Heap} {gn:Array GenState} {os:OsState} {L:Addr} {l:List (Str × Value)} {mu:List (Addr × Obj)}
theorem St.based (S:St g s₀ fz₀ h gn os fz L l mu):St g { s₀ with gens:=gn } fz₀ h gn os fz L l mu :=
 ⟨S.ns,S.keep,S.le,S.gr,S.hid,S.bL,S.fL,S.own,S.nd,S.inv,S.bare,S.os_,Nat.le_refl _⟩
theorem St.unbased {G':Array GenState} (S:St g { s₀ with gens:=G' } fz₀ h gn os fz L l mu) (z:s₀.gens.size ≤ G'.size):St g s₀ fz₀ h gn os fz L l mu :=
 ⟨S.ns,S.keep,S.le,S.gr,S.hid,S.bL,S.fL,S.own,S.nd,S.inv,S.bare,S.os_,Nat.le_trans z S.gsz⟩
end
structure GenBody (g:G) (elt:Expr) (scope:Scope) (cl:List (Str × Addr)) (q:Str) (x:Str) (nd nu:Nat) (items:Array Value) (F:Nat → Value → Heap → Prop) (fz:Heap):Prop where
 run:∀ (A:Around) (s s₀:Shared) (fz' fz₀:Heap) (C:Addr) (code it:Value) (mu:List (Addr × Obj)) (i:Nat) (v:Value) (Q:Value → Shared → Prop) (E:Value → Shared → Prop),
   A.handled = none → A.depth + nd < recursionLimit → A.units + nu < cLine → items[i]? = some v → Grows g.tabs fz fz' → St g s₀ fz₀ s.heap s.gens s.os fz' C [(x,v),(".0", it)] mu →
   (∀ r s' fz'',Grows g.tabs fz' fz'' → St g s₀ fz₀ s'.heap s'.gens s'.os fz'' C [(x,v),(".0", it)] mu → F i r fz'' → Q r s') → wpAny (model g.prog g.w) A (eval elt (envG scope cl C code q)) Q E s
theorem GenBody.grows {g:G} {elt:Expr} {scope:Scope} {cl:List (Str × Addr)} {q x:Str} {nd nu:Nat} {items:Array Value} {F:Nat → Value → Heap → Prop} {fz fz':Heap}
   (b:GenBody g elt scope cl q x nd nu items F fz) (k:Grows g.tabs fz fz'):GenBody g elt scope cl q x nd nu items F fz' :=
 ⟨fun A s s₀ f f₀ C code it mu i v Q E h1 h2 h3 h4 h5 => b.run A s s₀ f f₀ C code it mu i v Q E h1 h2 h3 h4 (k.trans h5)⟩
theorem GenBody.nil {g:G} {elt:Expr} {scope:Scope} {cl:List (Str × Addr)} {q x:Str} {nd nu:Nat} {F:Nat → Value → Heap → Prop} {fz:Heap}:GenBody g elt scope cl q x nd nu ([]:List Value).toArray F fz :=
 ⟨fun A s s₀ f f₀ C code it mu i v Q E h1 h2 h3 h4 => by simp at h4⟩
noncomputable abbrev gLoop (elt iter:Expr) (x:Str) (px:Pos) (scope:Scope) (pos:Pos) (I:Addr) (cenv:Env):Code:=.compLoop (.GeneratorExp elt [⟨.Name x px,iter,[],0⟩] scope pos) 0 (.ref I) .none cenv
noncomputable abbrev gStart (elt iter:Expr) (x:Str) (px:Pos) (scope:Scope) (pos:Pos) (I:Addr) (cenv:Env):Code:=.compStart (.GeneratorExp elt [⟨.Name x px,iter,[],0⟩] scope pos) 0 (.ref I) .none cenv
inductive Susp (M:Model):GenState → Code → Prop
 | mk (k:Resume → Sem Fin) (l:List Value) (c:Code) (p:Pos) (loop:Code):(∀ A s Φ,SegC M A loop (M.den loop) s Φ → SegC M A c (k (.send .none)) s Φ) → Susp M (.suspended k l c p [] false) loop
section
variable {g:G} {s₀ s:Shared} {fz₀ fz:Heap} {L:Addr} {l:List (Str × Value)} {mu:List (Addr × Obj)} {A:Around} {E:Value → Shared → Prop} {k:Bool} {a I:Addr} {items:Array Value}
 {elt iter:Expr} {x:Str} {px:Pos} {scope:Scope} {pos:Pos} {cl:List (Str × Addr)} {C:Addr} {code:Value} {q:Str} {oC oI:Obj} {Φ:End → Shared → Prop}
theorem segC_start (hh:A.handled = none) (hi:ItAt s.heap k I a 0) (h:SegC (model g.prog g.w) A (gLoop elt iter x px scope pos I (envG scope cl C code q)) ((model g.prog g.w).den (gLoop elt iter x px scope pos I (envG scope cl C code q))) s Φ) :
   SegC (model g.prog g.w) A (gStart elt iter x px scope pos I (envG scope cl C code q)) ((model g.prog g.w).den (gStart elt iter x px scope pos I (envG scope cl C code q))) s Φ:=by
 have self:∀ {B:Around} {Q:Value → Shared → Prop} {E':Value → Shared → Prop},Q (.ref I) s → wpAny (model g.prog g.w) B (pyIter (.ref I)) Q E' s:=fun hQ => by
   cases k
   · exact wpAny_pyIter_tupleiter hi hQ
   · exact wpAny_pyIter_listiter hi hQ
 show SegC _ A _ ((compStart (.GeneratorExp elt [⟨.Name x px,iter,[],0⟩] scope pos) 0 (.ref I) .none (envG scope cl C code q)).onRaise (leaving (envG scope cl C code q))) s Φ
 unfold compStart
 rw [Sem.onRaise_eq_wrap]
 show SegC _ A _ ((ask >>= _).wrap _ _ _ _) s Φ
 refine segC_bind (wpAny_askSetting ?_)
 split
 · exact segC_again rfl h
 · first
     | exact segC_bind (wpAny_rule (segC_bind (wpAny_standAt (segC_bind (self (segC_again rfl h))))))
     | (refine segC_bind (wpAny_rule ?_);show SegC _ A _ ((standAt iter.pos >>= _).wrap _ _ _ _) s Φ;exact segC_bind (wpAny_standAt (segC_bind (self (segC_again rfl h)))))
theorem St.flip {g:G} {s₀:Shared} {fz₀ h fz:Heap} {gn:Array GenState} {os:OsState} {L:Addr} {l:List (Str × Value)} {p q:Addr × Obj} {mu:List (Addr × Obj)} (S:St g s₀ fz₀ h gn os fz L l (p :: q :: mu)):St g s₀ fz₀ h gn os fz L l (q :: p :: mu) :=
 ⟨S.ns,S.keep,S.le,S.gr,S.hid,S.bL,S.fL,fun r hr => S.own r ((List.Perm.swap ..).mem_iff.mp hr),(List.Perm.swap ..).nodup_iff.mp S.nd,S.inv,S.bare,S.os_,S.gsz⟩
theorem look2 {x:Str} {w:Value} {l':List (Str × Value)} (h:∃ it,l' = [((".0" : Str),it)] ∨ ∃ v,l' = [(x,v),((".0" : Str),it)]):∃ it,(fun y => if y = x then some w else List.lookup y l') = fun y => List.lookup y [(x,w),((".0" : Str),it)]:=by
 obtain ⟨it,rfl | ⟨v,rfl⟩⟩:=h
 all_goals
   refine ⟨it,funext fun y => ?_⟩
   by_cases h:y = x
   · subst h;simp
   · simp only [List.lookup_cons,beq_false_of_ne h,if_neg h]
theorem yieldOut_plain {scope:Scope} {cl:List (Str × Addr)} {C:Addr} {code:Value} {q:Str} (hco:scope.isCoroutine = false):yieldOut (envG scope cl C code q) = yieldValue:=by
 funext v
 show (if scope.isCoroutine = true then _ else _) = _
 rw [hco];rfl
theorem segC_loop {gi i nd nu:Nat} {F:Nat → Value → Heap → Prop} {l':List (Str × Value)} {Q:Option Value → Shared → Prop} (hh:A.handled = none) (hd:A.depth + 1 + nd < recursionLimit) (hu:A.units + 3 + nu < cLine)
   (hx:scope.names.lookup x = some .local) (hkind:scope.kind = .function) (hco:scope.isCoroutine = false) (hb:GenBody g elt scope cl q x nd nu items F fz)
   (S:St g s₀ fz₀ s.heap s.gens s.os fz L l ((I,oI) :: (C,oC) :: mu)) (hc:Col fz k a items) (hi:ItAt s.heap k I a i) (hle:i ≤ items.size) (hC:s.heap.Ns C (fun y => l'.lookup y)) (hl':∃ it,l' = [((".0" : Str),it)] ∨ ∃ v,l' = [(x,v),((".0" : Str),it)])
   (hN:i = items.size → ∀ s':Shared,St g s₀ fz₀ s'.heap s'.gens s'.os fz L l mu → s.gens.size ≤ s'.gens.size → Q none (s'.setGen gi .finished))
   (hV:∀ v r (s':Shared) fz' oI' oC' gs,items[i]? = some v → Grows g.tabs fz fz' → St g s₀ fz₀ s'.heap s'.gens s'.os fz' L l ((I,oI') :: (C,oC') :: mu) → s.gens.size ≤ s'.gens.size → F i r fz' → ItAt s'.heap k I a (i + 1) →
     (∃ it v,s'.heap.Ns C (fun y => List.lookup y [(x,v),((".0" : Str),it)])) → Susp (model g.prog g.w) gs (gLoop elt iter x px scope pos I (envG scope cl C code q)) → gs.bare = true →
     Q (some r) (s'.setGen gi gs)) :
   SegC (model g.prog g.w) A (gLoop elt iter x px scope pos I (envG scope cl C code q)) ((model g.prog g.w).den (gLoop elt iter x px scope pos I (envG scope cl C code q))) s (TurnEnd gi Q):=by
 have hh':(A.over (gLoop elt iter x px scope pos I (envG scope cl C code q)) []).handled = none:=hh
 show SegC _ A _ ((compTurn (.GeneratorExp elt [⟨.Name x px,iter,[],0⟩] scope pos) 0 (.ref I) .none (envG scope cl C code q)).onRaise (leaving (envG scope cl C code q))) s _
 rw [compTurn_gen,Sem.onRaise_eq_wrap]
 refine segC_bind (wpAny_standAt ?_)
 rcases Nat.lt_or_eq_of_le hle with hlt | heq
 · have hv:items[i]? = some items[i]:=Array.getElem?_eq_getElem hlt
   refine segC_bind (it_item rfl S hc hi hv fun h₁ oI' S₁ hi₁ => ?_)
   refine segC_bind (wpAny_of_eq (rfl:letOwnedTupleGo (.Name x px) (.ref I) items[i] = pure ()) ?_)
   have S₁':=S₁.flip
   have e₁:s.heap.get? C = some oC:=(S.own _ (.tail _ (.head _))).1
   have hC₁:h₁.Ns C (fun y => l'.lookup y):=hC.at' fun o z => by rw [e₁] at z;cases z;exact (S₁.own _ (.tail _ (.head _))).1
   obtain ⟨oL,hL,S₂⟩:=S₁'.swap hC₁
   refine segC_bind (wpAny_assign_Name (wpAny_storeName_local (env:=envG scope cl C code q) hx S₂.ns (fun h₂ hn₂ hs₂ => ?_) (by show (scope.kind == .class || (scope.kind == .module && C != mainGlobals)) = false;rw [hkind];rfl)))
   obtain ⟨it,hit⟩:=look2 (x:=x) (w:=items[i]) hl'
   have hn₃:h₂.Ns C (fun y => List.lookup y [(x,items[i]),((".0" : Str),it)]):=hit ▸ hn₂
   have S₃:=S₂.same (l':=[(x,items[i]),((".0" : Str),it)]) hn₃ hs₂
   have hi₂:ItAt h₂ k I a (i + 1):=hi₁.at fun o z => (hs₂.2 I (fun w => by
     have:=(S₂.own _ (.tail _ (.head _))).2.1;exact this w)).trans z
   refine segC_bind (wpAny_of_eq (rfl:(forIn ([]:List Expr) true fun c r => if r = true then do let ok ← isTrue c (envG scope cl C code q) (eval c (envG scope cl C code q));pure (ForInStep.yield ok) else pure (ForInStep.yield r)) = pure true) ?_)
   rw [if_pos rfl,show yieldOut (envG scope cl C code q) = yieldValue from yieldOut_plain hco]
   rw [Sem.bind_eq_wrap',Sem.bind_eq_wrap',Sem.wrap_wrap,Sem.wrap_wrap]
   refine segC_wrap (hb.run _ { s with heap:=h₂,toks:=_ } { s₀ with gens:=s.gens } fz fz₀ C code it _ i items[i] _ _ hh' hd hu hv (Grows.refl _ _) S₃.based fun r s' fz' gr S₄' hF => ?_)
   have hgs:s.gens.size ≤ s'.gens.size:=S₄'.gsz
   have S₄:=S₄'.unbased S.gsz
   have hi₃:ItAt s'.heap k I a (i + 1):=hi₂.at fun o z => by
     rw [(S₃.own _ (.tail _ (.head _))).1] at z;cases z
     exact (S₄.own _ (.tail _ (.head _))).1
   have hL₄:s'.heap.get? L = some oL:=(S₄.own _ (.head _)).1
   have nsL:s'.heap.Ns L (fun y => l.lookup y):=S₁.ns.at' fun o z => by rw [hL] at z;cases z;exact hL₄
   obtain ⟨oC',hC',S₅⟩:=S₄.swap nsL
   have S₅':=S₅.flip
   refine segC_at (segC_yield fun p => .val _ _ _ _ p _ ?_)
   refine hV items[i] r s' fz' oI' oC' _ hv gr S₅' hgs hF hi₃ ⟨it,_,S₄.ns⟩ (.mk _ _ _ _ _ fun B s₂ Φ hΦ => segC_again rfl hΦ) rfl
 · subst heq
   refine segC_bind (it_done rfl hh' S hc hi fun h₁ S₁ => ?_)
   refine segC_end (.ok .next) (.out _ fun h' sub => ?_)
   exact hN rfl { s with heap:=h' } (S₁.drop1.ext sub) (Nat.le_refl _)
end
inductive GenOn (g:G) (s₀:Shared) (fz₀:Heap) (L:Addr) (l:List (Str × Value)) (mu:List (Addr × Obj)) (n nd nu:Nat) (F:Nat → Value → Heap → Prop) (a:Addr) (i:Nat) (s:Shared) (fz:Heap):Prop
 | mk (elt:_) (iter:_) (x:_) (px:_) (scope:_) (pos:_) (cl:_) (q:_) (C:_) (code:_) (k:_) (la:_) (items:_) (I:_) (oI:_) (oC:_) (gi:_) (gs:_) (l':_):(scope.names.lookup x = some NameKind.local) → (scope.kind = .function) → (scope.isCoroutine = false) → (Array.size items = n) → GenBody g elt scope cl q x nd nu items F fz → St g s₀ fz₀ s.heap s.gens s.os fz L l ((I,oI) :: (C,oC) :: mu) → Col fz k la items → ItAt s.heap k I la i → (i ≤ n) → (s.heap.Ns C (fun y => List.lookup y l')) → ((∃ it,l' = [((".0" : Str),it)] ∨ ∃ v,l' = [(x,v),((".0" : Str),it)])) → fz.IsGen a gi → (s.gens[gi]? = some gs) → (((gs = .fresh (gStart elt iter x px scope pos I (envG scope cl C code q)) ∧ i = 0) ∨ Susp (model g.prog g.w) gs (gLoop elt iter x px scope pos I (envG scope cl C code q)))) → GenOn g s₀ fz₀ L l mu n nd nu F a i s fz
section
variable {g:G} {s₀ s:Shared} {fz₀ fz:Heap} {L:Addr} {l:List (Str × Value)} {mu:List (Addr × Obj)} {A:Around} {E:Value → Shared → Prop} {n nd nu:Nat} {F:Nat → Value → Heap → Prop} {a:Addr} {i:Nat}
theorem bare_set {G':Array GenState} {x:GenState} {gi:Nat} (b:AllBare G') (hx:x.bare = true):AllBare (G'.setIfInBounds gi x):=fun y hy => by
 obtain ⟨j,e⟩:=Array.mem_iff_getElem?.mp hy
 rw [Array.getElem?_setIfInBounds] at e
 split at e
 · split at e
   · cases e;exact hx
   · cases e
 · exact b _ (Array.mem_iff_getElem?.mpr ⟨j,e⟩)
theorem get_lt {α:Type} {xs:Array α} {i:Nat} {x:α} (h:xs[i]? = some x):i < xs.size:=(Array.getElem?_eq_some_iff.mp h).1
theorem setGen_ge {s:Shared} {gi:Nat} {x:GenState}:s.gens.size ≤ (s.setGen gi x).gens.size:=by simp [Shared.setGen]
theorem isGen_grows {h h':Heap} {t:List Addr} {a:Addr} {gi:Nat} (x:h.IsGen a gi) (k:Grows t h h'):h'.IsGen a gi :=
 by obtain ⟨o,nm,qn,ho,hc,r⟩:=x;exact ⟨o,nm,qn,k _ _ ho (fun zz q => by rw [hc] at q;cases q),hc,r⟩
theorem isGen_sub {h h':Heap} {a:Addr} {gi:Nat} (x:h.IsGen a gi) (k:Sub h h'):h'.IsGen a gi:=isGen_grows x (k.grows [])
theorem GenOn.st (x:GenOn g s₀ fz₀ L l mu n nd nu F a i s fz):St g s₀ fz₀ s.heap s.gens s.os fz L l mu:=by
 obtain ⟨_,_,_,_,_,_,_,_,_,_,_,_,_,_,_,_,_,_,_,_,_,_,_,_,S,_⟩:=x
 exact S.drop1.drop1
theorem GenOn.isGen (x:GenOn g s₀ fz₀ L l mu n nd nu F a i s fz):∃ gi,s.heap.IsGen a gi:=by
 obtain ⟨_,_,_,_,_,_,_,_,_,_,_,_,_,_,_,_,gi,_,_,_,_,_,_,_,S,_,_,_,_,_,hg,_⟩:=x
 exact ⟨gi,isGen_sub hg S.le⟩
theorem GenOn.turns (x:GenOn g s₀ fz₀ L l mu n nd nu F a i s fz) {Q:Option Value → Shared → Prop} (hh:A.handled = none) (hd:A.depth + 1 + nd < recursionLimit) (hu:A.units + 4 + nu < cLine)
   (hN:i = n → ∀ s',St g s₀ fz₀ s'.heap s'.gens s'.os fz L l mu → Q none s')
   (hV:i < n → ∀ r s' fz',Grows g.tabs fz fz' → GenOn g s₀ fz₀ L l mu n nd nu F a (i + 1) s' fz' → F i r fz' → Q (some r) s'):wpAny (model g.prog g.w) A (pyNext (.ref a)) Q E s:=by
 obtain ⟨elt,iter,x,px,scope,pos,cl,q,C,code,k,la,items,I,oI,oC,gi,gs,l',h1,h2,h3,h4,hb,S,hc,hi,hle,hC,hl',hg,hgs,hw⟩:=x
 subst h4
 have lt:gi < s.gens.size:=get_lt hgs
 have S':St g s₀ fz₀ s.heap (s.setGen gi .running).gens s.os fz L l ((I,oI) :: (C,oC) :: mu):=S.withGens (bare_set S.bare rfl) setGen_ge
 have loop:=segC_loop (A:=A.in1) (s:=s.setGen gi .running) (iter:=iter) (px:=px) (pos:=pos) (code:=code) (gi:=gi) (Q:=Q) (by exact hh) (by show A.depth + 1 + nd < _;exact hd) (by show A.units + 1 + 3 + nu < _;lia) h1 h2 h3 hb S' hc hi hle hC hl'
   (fun e s' S₁ z => hN e _ (S₁.withGens (bare_set S₁.bare rfl) setGen_ge))
   (fun v r s' fz' oI' oC' gs' hv gr S₁ z hF hi' hC' hw' hbare => hV (get_lt hv) r _ fz' gr
     ⟨elt,iter,x,px,scope,pos,cl,q,C,code,k,la,items,I,oI',oC',gi,gs',_,h1,h2,h3,rfl,hb.grows gr,S₁.withGens (bare_set S₁.bare hbare) setGen_ge,hc.grows gr,hi',get_lt hv,hC'.choose_spec.choose_spec,⟨_,.inr ⟨_,rfl⟩⟩,isGen_grows hg gr,setGen_self (gs:=s'.gens[gi]'(Nat.lt_of_lt_of_le lt (Nat.le_trans setGen_ge z))) (Array.getElem?_eq_getElem _),.inr hw'⟩ hF)
 rcases id hw with ⟨hfr,i0⟩ | ⟨k₀,l₀,c₀,p₀,_,hrun⟩
 · subst i0
   exact pyNextC hh (S.inv.top.nolimit.keeps S.le) (by lia) (isGen_sub hg S.le) hgs (.inl ⟨hfr,rfl⟩) (segC_start hh hi loop)
 · exact pyNextC hh (S.inv.top.nolimit.keeps S.le) (by lia) (isGen_sub hg S.le) hgs (.inr ⟨k₀,l₀,p₀,false,rfl,rfl⟩) (hrun _ _ _ loop)
end
inductive GenP (g:G) (s₀:Shared) (fz₀:Heap) (L:Addr) (elt:Expr) (scope:Scope) (cl:List (Str × Addr)) (q x:Str) (Q:Value → Shared → Prop) (xv:Value) (s:Shared):Prop
 | mk (k:_) (la:_) (items:_) (fz:_) (l:_) (mu:_) (nd:_) (nu:_) (F:_):(xv = .ref la) → St g s₀ fz₀ s.heap s.gens s.os fz L l mu → Col fz k la items → GenBody g elt scope cl q x nd nu items F fz → (∀ s' fz' a,Grows g.tabs fz fz' → GenOn g s₀ fz₀ L l mu items.size nd nu F a 0 s' fz' → Q (.ref a) s') → GenP g s₀ fz₀ L elt scope cl q x Q xv s
section
variable {g:G} {s₀ s:Shared} {fz₀ fz:Heap} {L:Addr} {l:List (Str × Value)} {mu:List (Addr × Obj)} {A:Around} {E:Value → Shared → Prop} {M:Model}
theorem isCode_tr {h:Heap} {c P:Addr} {ps:Array Value} (x:h.IsCode c P ps):TriplesOk ps.toList:=by
 obtain ⟨_,_,_,_,_,_,_,_,_,_,_,_,_,_,_,_,_,_,_,r,_⟩:=x;exact r
theorem codeHd_at {h:Heap} {c P:Addr} (x:CodeHd h c P):∃ o vs,h.get? c = some o ∧ o.data = .fields vs ∧ vs.getD 11 .none = .ref P:=by
 obtain ⟨o,vs,_,_,_,_,_,_,_,ho,_,hd,_,h11,_⟩:=x;exact ⟨o,vs,ho,hd,h11⟩
theorem St.bi {r:Addr} {Q:Addr → Shared → Prop} (S:St g s₀ fz₀ s.heap s.gens s.os fz L l mu) (h:Q builtinsNs s):wpAny M A (builtinsFor mainGlobals r) Q E s:=by
 obtain ⟨bm,ob,b1,b2,b3,b4,b5,b6⟩:=S.inv.bat
 exact wpAny_builtinsFor (S.inv.top.g.keeps S.le) b1 b2 (S.le _ _ b3) b4 b5 b6 h
theorem look1 {v:Value}:(fun y:Str => if y = ".0" then some v else none) = fun y => List.lookup y [((".0" : Str),v)]:=funext fun y => by
 rw [List.lookup_cons]
 by_cases h:y = ".0"
 · subst h;simp
 · rw [if_neg h,beq_false_of_ne h];rfl
theorem gen_code {env:Env} {pos:Pos} {qn:Str} {sc:Scope} {c P:Addr} {Q:Value → Shared → Prop} (S:St g s₀ fz₀ s.heap s.gens s.os fz L l mu) (hc:env.code = .ref c) (hK:codeHdIn g.K c P = true) (hP:P ∈ g.tabs)
   (h:∀ v s' fz',Grows g.tabs fz fz' → St g s₀ fz₀ s'.heap s'.gens s'.os fz' L l mu → Q v s'):wpAny M A (genexprCode env pos qn sc) Q E s:=by
 have C:CodeHd s.heap c P:=(codeHd_of_K S.inv.kin hK).keeps S.le
 obtain ⟨ps,e,t⟩:=S.inv.tab P hP
 have e':=S.le _ _ e
 have T:s.heap.IsCode c P ps:=C.code e' t
 cases hnf:codeAmong pos ps.toList with
 | none =>
   refine wpAny_genexprCodeX hc T (C.tab e') hnf fun c' h' tk hx zz zz hic zz htab zz => ?_
   obtain ⟨fz',gr,S'⟩:=S.tabUp hP hx htab.2 (isCode_tr hic)
   exact h _ { s with heap:=h',toks:=tk } fz' gr S'
 | some cv =>
   obtain ⟨o,vs,ho,hd,h11⟩:=codeHd_at C
   unfold genexprCode codeAt
   rw [hc,if_neg (show ¬ ((Value.ref c == Value.none) = true) from Bool.false_ne_true)]
   refine wpAny_bind (wpAny_fieldsOf ho hd ?_)
   rw [h11]
   refine wpAny_bind (wpAny_fieldsOf e' rfl ?_)
   rw [hnf]
   exact wpAny_pure (h _ _ _ (Grows.refl _ _) S)
theorem gen_make {cn:Str} {cs:Scope} {f:Addr} {ccd:Value} {clE cl:List (Str × Addr)} {elt iter:Expr} {x:Str} {px pos:Pos} {scope:Scope} {c P:Addr} {Q:Value → Shared → Prop} (hM:M = model g.prog g.w) (_S:St g s₀ fz₀ s.heap s.gens s.os fz L l mu)
   (hd:A.depth < recursionLimit) (hc:ccd = .ref c) (hK:codeHdIn g.K c P = true) (hP:P ∈ g.tabs) (hclos:closureFor scope (envX cn cs L f ccd clE) = pure cl) (hx:scope.names.lookup x = some .local) (h0:scope.names.lookup (".0" : Str) = some NameKind.local)
   (hcell:∀ y ∈ scope.names,y.2 ≠ .cell) (hkind:scope.kind = .function) (hco:scope.isCoroutine = false) (hs:∀ x,genFold iter (envX cn cs L f ccd clE) x = pure x)
   (h:wpAny M A (eval iter (envX cn cs L f ccd clE)) (GenP g s₀ fz₀ L elt scope cl (cn ++ ".<locals>.") x Q) E s) :
   wpAny M A (eval (.GeneratorExp elt [⟨.Name x px,iter,[],0⟩] scope pos) (envX cn cs L f ccd clE)) Q E s:=by
 refine wpAny_GeneratorExp_make hco hclos hcell h0 hkind hd (wpAny_mono h (fun xv s₁ h₁ => ?_) fun zz zz e => e) hs
 obtain ⟨k,la,items,fz,l,mu,nd,nu,F,rfl,S,hcol,hb,hQ⟩:=h₁
 refine it_make hM S hcol fun s₂ I oI S₂ hi => ⟨S₂.inv.top.nolimit.keeps S₂.le,?_⟩
 refine gen_code S₂ hc hK hP fun code s₃ fz₃ gr S₃ => ?_
 refine S₃.bi ?_
 intro h' hn hs'
 have hi₃:ItAt s₃.heap k I la 0:=hi.at fun o z => by rw [(S₂.own _ (.head _)).1] at z;cases z;exact (S₃.own _ (.head _)).1
 have S₄:=S₃.push { cls:=.type "frame", data:=.dict #[] } rfl
 obtain ⟨oC,es,ep,hoC,r⟩:=id hn
 have S₅:=S₄.turn1 (h':=h') (fun b o n z => hs'.extBut b o n z) hoC
 have hi₅:ItAt h' k I la 0:=hi₃.at fun o z => by rw [(S₃.own _ (.head _)).1] at z;cases z;exact (S₅.own _ (.tail _ (.head _))).1
 obtain ⟨fz₆,gr₆,_,hg₆,S₆⟩:=S₅.allocF { cls:=.type "generator", data:=.fields #[.int s₃.gens.size 0,.str "<genexpr>" (s₃.toks + 1),.str ((cn ++ ".<locals>.") ++ "<genexpr>") (s₃.toks + 1 + 1)] } rfl
 rw [look1] at hn
 refine hQ _ fz₆ _ (gr.trans gr₆) ?_
 refine ⟨elt,iter,x,px,scope,pos,cl,_,s₃.heap.objs.size,code,k,la,items,I,oI,oC,s₃.gens.size,_,[((".0" : Str),.ref I)],hx,hkind,hco,rfl,hb.grows (gr.trans gr₆),?_,hcol.grows (gr.trans gr₆),?_,Nat.zero_le _,?_,⟨_,.inl rfl⟩,⟨_,_,_,hg₆,rfl,rfl,rfl⟩,?_,.inl ⟨rfl,rfl⟩⟩
 · exact S₆.flip.withGens (S₃.bare.push rfl) (by simp)
 · exact hi₅.at fun o z => Heap.get?_push_of_some _ z
 · exact hn.push _
 · exact Array.getElem?_push_size ..
end
section
variable {g:G} {s₀ s:Shared} {fz₀ fz:Heap} {L:Addr} {l:List (Str × Value)} {mu:List (Addr × Obj)} {A:Around} {E:Value → Shared → Prop} {n nd nu:Nat} {F:Nat → Value → Heap → Prop} {a:Addr} {i:Nat} {M:Model}
theorem St.perm {h:Heap} {gn:Array GenState} {os:OsState} {mu':List (Addr × Obj)} (S:St g s₀ fz₀ h gn os fz L l mu) (p:mu.Perm mu'):St g s₀ fz₀ h gn os fz L l mu' :=
 ⟨S.ns,S.keep,S.le,S.gr,S.hid,S.bL,S.fL,fun r hr => S.own r (p.mem_iff.mpr hr),(p.map (·.1)).nodup_iff.mp S.nd,S.inv,S.bare,S.os_,S.gsz⟩
theorem GenOn.push (x:GenOn g s₀ fz₀ L l mu n nd nu F a i s fz) (o:Obj) (hf:o.isFreed = false):GenOn g s₀ fz₀ L l ((s.heap.objs.size,o) :: mu) n nd nu F a i { s with heap:=s.heap.push o } fz:=by
 obtain ⟨elt,iter,y,px,scope,pos,cl,q,C,code,k,la,items,I,oI,oC,gi,gs,l',h1,h2,h3,h4,hb,S,hc,hi,hle,hC,hl',hg,hgs,hw⟩:=x
 exact ⟨elt,iter,y,px,scope,pos,cl,q,C,code,k,la,items,I,oI,oC,gi,gs,l',h1,h2,h3,h4,hb,
   (S.push o hf).perm ((List.Perm.swap ..).trans ((List.Perm.swap ..).cons _)),hc,hi.at fun o z => Heap.get?_push_of_some _ z,hle,hC.push _,hl',hg,hgs,hw⟩
theorem GenOn.set {b:Addr} {o:Obj} (x:GenOn g s₀ fz₀ L l ((b,o) :: mu) n nd nu F a i s fz) (f:Obj → Obj) (hf:(f o).isFreed = false):GenOn g s₀ fz₀ L l ((b,f o) :: mu) n nd nu F a i { s with heap:=s.heap.update b f } fz:=by
 obtain ⟨elt,iter,y,px,scope,pos,cl,q,C,code,k,la,items,I,oI,oC,gi,gs,l',h1,h2,h3,h4,hb,S,hc,hi,hle,hC,hl',hg,hgs,hw⟩:=x
 have S':=S.set 2 f (a:=b) (o:=o) rfl hf
 have nd:=S.nd
 have e1:s.heap.get? I = some oI:=(S.own _ (.head _)).1
 have e2:s.heap.get? C = some oC:=(S.own _ (.tail _ (.head _))).1
 refine ⟨elt,iter,y,px,scope,pos,cl,q,C,code,k,la,items,I,oI,oC,gi,gs,l',h1,h2,h3,h4,hb,S',hc,hi.at fun o z => ?_,hle,hC.at' fun o z => ?_,hl',hg,hgs,hw⟩
 · rw [e1] at z;cases z;exact (S'.own _ (.head _)).1
 · rw [e2] at z;cases z;exact (S'.own _ (.tail _ (.head _))).1
theorem GenOn.get {b:Addr} {o:Obj} (x:GenOn g s₀ fz₀ L l ((b,o) :: mu) n nd nu F a i s fz):s.heap.get? b = some o:=(x.st.own _ (.head _)).1
theorem GenOn.type (x:GenOn g s₀ fz₀ L l mu n nd nu F a i s fz):s.TypeIs (.ref a) "generator" := by obtain ⟨_,h⟩:=x.isGen;exact h.typeIs
theorem GenOn.self (x:GenOn g s₀ fz₀ L l mu n nd nu F a i s fz) {Q:Value → Shared → Prop} (h:Q (.ref a) s):wpAny (model g.prog g.w) A (pyIter (.ref a)) Q E s:=by obtain ⟨_,y⟩:=x.isGen;exact wpAny_pyIter_gen y h
theorem any_loopG {b:Nat → Bool} {R:Result → Shared → Prop} (hh:A.handled = none) (hd:A.depth + 1 + nd < recursionLimit) (hu:A.units + 5 + nu < cLine):∀ (k i:Nat) (s:Shared) (fz:Heap),n - i = k → i ≤ n →
   GenOn g s₀ fz₀ L l mu n nd nu (fun j v zz => v = .bool (b j)) a i s fz →
   (∀ s' fz',Grows g.tabs fz fz' → St g s₀ fz₀ s'.heap s'.gens s'.os fz' L l mu → R (.ok (.ret (.bool (((List.range n).drop i).any b)))) s') → codeAny (model g.prog g.w) A (.builtin "any.loop" ⟨[.ref a],[]⟩) R s:=by
 intro k
 induction k with
 | zero =>
   intro i s fz hk hi x hR
   have hin:i = n:=by lia
   refine codeAny_builtin F.entry_any_loop ?_
   rw [Around.under_plainId F.plain_any_loop _]
   show wpAny _ A.in1 (pyNext (.ref a) >>= _) _ _ s
   refine wpAny_bind (x.turns hh hd (by show A.units + 1 + 4 + nu < _;lia) (fun zz s' S => ?_) fun h => absurd h (by lia))
   refine wpAny_bind (wpAny_rule (wpAny_pure ?_))
   have:=hR s' fz (Grows.refl _ _) S
   rw [hin,List.drop_of_length_le (by simp)] at this
   exact this
 | succ k ih =>
   intro i s fz hk hi x hR
   have hlt:i < n:=by lia
   have hdr:(List.range n).drop i = i :: (List.range n).drop (i + 1):=by
     rw [List.drop_eq_getElem_cons (by simpa using hlt)];simp
   refine codeAny_builtin F.entry_any_loop ?_
   rw [Around.under_plainId F.plain_any_loop _]
   show wpAny _ A.in1 (pyNext (.ref a) >>= _) _ _ s
   refine wpAny_bind (x.turns hh hd (by show A.units + 1 + 4 + nu < _;lia) (fun h => absurd h (by lia)) fun zz r s' fz' gr x' hr => ?_)
   subst hr
   refine wpAny_bind (wpAny_holding (wpAny_truthy_bool ?_))
   refine wpAny_bind (wpAny_letGo ?_)
   cases hb:b i with
   | false =>
     refine it_f Bool.false_ne_true ?_
     refine wpAny_pure ⟨plainId_quiet F.plain_any_loop _,ih (i + 1) _ fz' (by lia) hlt x' fun s'' fz'' gr' S => ?_⟩
     have:=hR s'' fz'' (gr.trans gr') S
     rw [hdr,List.any_cons,hb,Bool.false_or] at this
     exact this
   | true =>
     refine it_t rfl ?_
     refine wpAny_bind (wpAny_rule (wpAny_pure ?_))
     have:=hR s' fz' gr x'.st
     rw [hdr,List.any_cons,hb,Bool.true_or] at this
     exact this
theorem all_loopG {b:Nat → Bool} {R:Result → Shared → Prop} (hh:A.handled = none) (hd:A.depth + 1 + nd < recursionLimit) (hu:A.units + 5 + nu < cLine):∀ (k i:Nat) (s:Shared) (fz:Heap),n - i = k → i ≤ n →
   GenOn g s₀ fz₀ L l mu n nd nu (fun j v zz => v = .bool (b j)) a i s fz →
   (∀ s' fz',Grows g.tabs fz fz' → St g s₀ fz₀ s'.heap s'.gens s'.os fz' L l mu → R (.ok (.ret (.bool (((List.range n).drop i).all b)))) s') → codeAny (model g.prog g.w) A (.builtin "all.loop" ⟨[.ref a],[]⟩) R s:=by
 intro k
 induction k with
 | zero =>
   intro i s fz hk hi x hR
   have hin:i = n:=by lia
   refine codeAny_builtin F.entry_all_loop ?_
   rw [Around.under_plainId F.plain_all_loop _]
   show wpAny _ A.in1 (pyNext (.ref a) >>= _) _ _ s
   refine wpAny_bind (x.turns hh hd (by show A.units + 1 + 4 + nu < _;lia) (fun zz s' S => ?_) fun h => absurd h (by lia))
   refine wpAny_bind (wpAny_rule (wpAny_pure ?_))
   have:=hR s' fz (Grows.refl _ _) S
   rw [hin,List.drop_of_length_le (by simp)] at this
   exact this
 | succ k ih =>
   intro i s fz hk hi x hR
   have hlt:i < n:=by lia
   have hdr:(List.range n).drop i = i :: (List.range n).drop (i + 1):=by
     rw [List.drop_eq_getElem_cons (by simpa using hlt)];simp
   refine codeAny_builtin F.entry_all_loop ?_
   rw [Around.under_plainId F.plain_all_loop _]
   show wpAny _ A.in1 (pyNext (.ref a) >>= _) _ _ s
   refine wpAny_bind (x.turns hh hd (by show A.units + 1 + 4 + nu < _;lia) (fun h => absurd h (by lia)) fun zz r s' fz' gr x' hr => ?_)
   subst hr
   refine wpAny_bind (wpAny_holding (wpAny_truthy_bool ?_))
   refine wpAny_bind (wpAny_letGo ?_)
   cases hb:b i with
   | true =>
     refine it_t rfl ?_
     refine wpAny_pure ⟨plainId_quiet F.plain_all_loop _,ih (i + 1) _ fz' (by lia) hlt x' fun s'' fz'' gr' S => ?_⟩
     have:=hR s'' fz'' (gr.trans gr') S
     rw [hdr,List.all_cons,hb,Bool.true_and] at this
     exact this
   | false =>
     refine it_f Bool.false_ne_true ?_
     refine wpAny_bind (wpAny_rule (wpAny_pure ?_))
     have:=hR s' fz' gr x'.st
     rw [hdr,List.all_cons,hb,Bool.false_and] at this
     exact this
theorem any_gen {b:Nat → Bool} {Q:Value → Shared → Prop} (hM:M = model g.prog g.w) (x:GenOn g s₀ fz₀ L l mu n nd nu (fun j v zz => v = .bool (b j)) a 0 s fz) (hh:A.handled = none) (hd:A.depth + 1 + nd < recursionLimit) (hu:A.units + 6 + nu < cLine)
   (h:∀ s' fz',Grows g.tabs fz fz' → St g s₀ fz₀ s'.heap s'.gens s'.os fz' L l mu → Q (.bool ((List.range n).any b)) s'):wpAny M A (call (.builtin "any") [.ref a]) Q E s:=by
 subst hM
 refine call_function_tree F.kind_any F.plain_any F.entry_any (F.args_any1 _) ?_
 unfold Builtin.«any»
 refine wpAny_bind (m:=oneArg "any" _) (wpAny_pure ?_)
 refine wpAny_bind (x.self ?_)
 exact wpAny_pure ⟨plainId_quiet F.plain_any_loop _,any_loopG (by exact hh) (by exact hd) (by first | (show A.units + 1 + 5 + nu < _;lia) | (show A.units + 5 + nu < _;lia)) n 0 s fz rfl (Nat.zero_le _) x fun s' fz' gr S => by simpa using h s' fz' gr S⟩
theorem all_gen {b:Nat → Bool} {Q:Value → Shared → Prop} (hM:M = model g.prog g.w) (x:GenOn g s₀ fz₀ L l mu n nd nu (fun j v zz => v = .bool (b j)) a 0 s fz) (hh:A.handled = none) (hd:A.depth + 1 + nd < recursionLimit) (hu:A.units + 6 + nu < cLine)
   (h:∀ s' fz',Grows g.tabs fz fz' → St g s₀ fz₀ s'.heap s'.gens s'.os fz' L l mu → Q (.bool ((List.range n).all b)) s'):wpAny M A (call (.builtin "all") [.ref a]) Q E s:=by
 subst hM
 refine call_function_tree F.kind_all F.plain_all F.entry_all (F.args_all1 _) ?_
 unfold Builtin.«all»
 refine wpAny_bind (m:=oneArg "all" _) (wpAny_pure ?_)
 refine wpAny_bind (x.self ?_)
 exact wpAny_pure ⟨plainId_quiet F.plain_all_loop _,all_loopG (by exact hh) (by exact hd) (by first | (show A.units + 1 + 5 + nu < _;lia) | (show A.units + 5 + nu < _;lia)) n 0 s fz rfl (Nat.zero_le _) x fun s' fz' gr S => by simpa using h s' fz' gr S⟩
noncomputable abbrev accObj (acc:Array Value) (c:Nat):Obj:={ cls:=.type "list", dict:=none,data:=.seq acc c,slots:=#[] }
noncomputable def ItemsF (F:Nat → Value → Heap → Prop) (acc:Array Value) (i:Nat) (fz:Heap):Prop:=acc.size = i ∧ ∀ j v,acc[j]? = some v → F j v fz
theorem ItemsF.push {acc:Array Value} {v:Value} (x:ItemsF F acc i fz) (hv:F i v fz):ItemsF F (acc.push v) (i + 1) fz:=by
 refine ⟨by rw [Array.size_push,x.1],fun j u hj => ?_⟩
 rw [Array.getElem?_push] at hj
 split at hj
 · rename_i e;rw [x.1] at e;cases hj;rw [e];exact hv
 · exact x.2 j u hj
noncomputable def MonoF (g:G) (F:Nat → Value → Heap → Prop):Prop:=∀ i v h h',Grows g.tabs h h' → F i v h → F i v h'
theorem ItemsF.grows {acc:Array Value} {fz':Heap} (m:MonoF g F) (x:ItemsF F acc i fz) (k:Grows g.tabs fz fz'):ItemsF F acc i fz':=⟨x.1,fun j v hj => m _ _ _ _ k (x.2 j v hj)⟩
theorem extend_loopG {R:Result → Shared → Prop} (hm:MonoF g F) (hh:A.handled = none) (hd:A.depth + 1 + nd < recursionLimit) (hu:A.units + 5 + nu < cLine) (hn:n ≤ sizeLine) (B:Addr) (res:Value):∀ (k i:Nat) (s:Shared) (fz:Heap) (acc:Array Value) (c:Nat),n - i = k → i ≤ n →
   GenOn g s₀ fz₀ L l ((B,accObj acc c) :: mu) n nd nu F a i s fz → ItemsF F acc i fz →
   (∀ s' fz' acc' c',Grows g.tabs fz fz' → St g s₀ fz₀ s'.heap s'.gens s'.os fz' L l ((B,accObj acc' c') :: mu) → ItemsF F acc' n fz' → R (.ok (.ret res)) s') → codeAny (model g.prog g.w) A (.builtin "list.extend.loop" ⟨[.ref B,.ref a,res],[]⟩) R s:=by
 intro k
 induction k with
 | zero =>
   intro i s fz acc c hk hi x hacc hR
   have hin:i = n:=by lia
   subst hin
   refine codeAny_builtin PySem.F.entry_extend_loop ?_
   rw [Around.under_plainId PySem.F.plain_extend_loop _]
   show wpAny _ A.in1 (pyNext (.ref a) >>= _) _ _ s
   refine wpAny_bind (x.turns hh hd (by show A.units + 1 + 4 + nu < _;lia) (fun zz s' S => ?_) fun h => absurd h (by lia))
   exact wpAny_pure (hR s' fz acc c (Grows.refl _ _) S hacc)
 | succ k ih =>
   intro i s fz acc c hk hi x hacc hR
   have hlt:i < n:=by lia
   refine codeAny_builtin PySem.F.entry_extend_loop ?_
   rw [Around.under_plainId PySem.F.plain_extend_loop _]
   show wpAny _ A.in1 (pyNext (.ref a) >>= _) _ _ s
   refine wpAny_bind (x.turns hh hd (by show A.units + 1 + 4 + nu < _;lia) (fun h => absurd h (by lia)) fun zz r s' fz' gr x' hr => ?_)
   have hz:acc.size = i:=hacc.1
   show wpAny _ A.in1 (updateSeq B (·.push r) >>= _) _ _ _
   refine wpAny_bind ?_
   refine wpAny_updateSeq x'.get rfl (wpAny_pure ⟨plainId_quiet PySem.F.plain_extend_loop _,ih (i + 1) _ fz' (acc.push r) _ (by lia) hlt (x'.set (Obj.mapSeq (·.push r)) rfl) ((hacc.grows hm gr).push hr) fun s'' fz'' acc'' c'' gr' S hacc' => hR s'' fz'' acc'' c'' (gr.trans gr') S hacc'⟩) (by lia) (by show (acc.push r).size ≤ sizeLine + 1;rw [Array.size_push];lia)
end
section
variable {g:G} {s₀ s:Shared} {fz₀ fz:Heap} {L:Addr} {l:List (Str × Value)} {mu:List (Addr × Obj)} {A:Around} {E:Value → Shared → Prop} {n nd nu:Nat} {FF:Nat → Value → Heap → Prop} {a:Addr} {M:Model}
theorem collect_genG {Q:List Value → Shared → Prop} (hm:MonoF g FF) (x:GenOn g s₀ fz₀ L l mu n nd nu FF a 0 s fz) (hh:A.handled = none) (hd:A.depth + 1 + nd < recursionLimit) (hu:A.units + 7 + nu < cLine) (hn:n ≤ sizeLine)
   (h:∀ s' fz' acc,Grows g.tabs fz fz' → St g s₀ fz₀ s'.heap s'.gens s'.os fz' L l mu → ItemsF FF acc n fz' → Q acc.toList s'):wpAny (model g.prog g.w) A (collect (.ref a)) Q E s:=by
 unfold collect
 refine wpAny_bind (wpAny_runValue (codeAny_builtin F.entry_proto_collect ?_))
 rw [Around.under_plainId F.plain_proto_collect _]
 show wpAny _ A.in1 (newList [] >>= fun l => again (.builtin "list.__iadd__" ⟨[l,.ref a],[]⟩)) _ _ s
 refine wpAny_bind (wpAny_newObj_type ?_)
 refine wpAny_pure ⟨plainId_quiet F.plain_list_iadd _,codeAny_builtin F.entry_list_iadd ?_⟩
 rw [Around.under_plainId F.plain_list_iadd _]
 have hSI:s.heap.objs.size ≠ a:=by
   obtain ⟨gi,o,nm,qn,ho,_⟩:=x.isGen
   exact fun e => Nat.lt_irrefl _ (e ▸ Heap.lt_size ho)
 have x₁:=x.push (accObj #[] 0) rfl
 show wpAny _ A.in1 (Builtin.List.listExtendWith (.ref s.heap.objs.size) (.ref a) (.ref s.heap.objs.size)) _ _ _
 unfold Builtin.List.listExtendWith
 refine wpAny_bind (wpAny_typeOf x₁.type ?_)
 have h1:Builtin.List.listSameRef (.ref s.heap.objs.size) (.ref a) = false:=by simp [Builtin.List.listSameRef,hSI]
 have h2:(Value.type "generator" == Value.type "list") = false:=by decide
 have h3:(Value.type "generator" == Value.type "tuple") = false:=by decide
 refine it_f (by rw [h1,h2,h3];exact Bool.false_ne_true) ?_
 refine wpAny_bind (x₁.self ?_)
 refine wpAny_bind (wpAny_holding ?_)
 unfold Builtin.List.listLengthHint
 refine wpAny_bind (wpAny_specialOf x₁.type F.gen_no_len ?_)
 show wpAny _ A.in1 (specialOf (Value.ref a) (Str.ofString "__length_hint__") >>= _) _ _ _
 refine wpAny_bind (wpAny_specialOf x₁.type F.gen_no_hint ?_)
 refine wpAny_pure ?_
 show wpAny _ A.in1 (rule "list.extend.makes-room" >>= fun zz => Builtin.List.listTouch (.ref s.heap.objs.size) >>= fun zz =>
   again (.builtin "list.extend.loop" ⟨[.ref s.heap.objs.size,.ref a,.ref s.heap.objs.size],[]⟩)) _ _ _
 refine wpAny_bind (wpAny_rule ?_)
 refine wpAny_bind ?_
 show wpAny _ A.in1 (updateSeq s.heap.objs.size (·.push .none) >>= fun zz => updateSeq s.heap.objs.size (·.pop)) _ _ _
 have x₂:=x₁.set (Obj.mapSeq (·.push Value.none)) rfl
 have x₃:=x₂.set (Obj.mapSeq (·.pop)) rfl
 refine wpAny_bind (wpAny_updateSeq x₁.get rfl ?_)
 refine wpAny_updateSeq x₂.get rfl ?_
 refine wpAny_pure ⟨plainId_quiet F.plain_extend_loop _,extend_loopG (by exact hm) (by exact hh) (by exact hd) (by first | (show A.units + 1 + 5 + nu < _;lia) | (show A.units + 5 + nu < _;lia)) hn _ _ n 0 _ fz _ _ rfl (Nat.zero_le _) x₃ ⟨rfl,fun j v hj => by simp [Obj.mapSeq] at hj⟩ fun s' fz' acc' c' gr S hacc => ?_⟩
 show wpAny _ A (load s.heap.objs.size >>= _) _ _ s'
 refine wpAny_bind (wpAny_load (S.own _ (.head _)).1 ?_)
 exact wpAny_pure (h s' fz' acc' gr S.drop1 hacc)
theorem tuple_gen {Q:Value → Shared → Prop} (hM:M = model g.prog g.w) (hm:MonoF g FF) (x:GenOn g s₀ fz₀ L l mu n nd nu FF a 0 s fz) (hh:A.handled = none) (hd:A.depth + 1 + nd < recursionLimit) (hu:A.units + 12 + nu < cLine) (hn:n ≤ sizeLine)
   (h:∀ s' fz' t acc,Grows g.tabs fz fz' → St g s₀ fz₀ s'.heap s'.gens s'.os fz' L l mu → ItemsF FF acc n fz' → IsTup fz' t acc → Q (.ref t) s'):wpAny M A (call (.type "tuple") [.ref a]) Q E s:=by
 subst hM
 refine callType_codes (Q₁:=fun obj s₁ => s₁.TypeIs obj "tuple" ∧ Q obj s₁) F.called_tuple (F.typeCall_tuple_1 _) F.entry_object_init ?_ fun obj s₁ h₁ => ?_
 · refine codeAny_of_tree ?_
   show wpAny _ _ (do checkBuiltinCall "tuple.__new__" ⟨[.type "tuple", .ref a],[]⟩;again (.builtin "tuple.__new__" ⟨[.type "tuple", .ref a],[]⟩)) _ _ s
   refine wpAny_bind (wpAny_of_eq (F.newCall_tuple_1 _) (wpAny_pure ⟨plainId_quiet F.plain_tuple_new _,codeAny_builtin F.entry_tuple_new ?_⟩))
   rw [Around.under_plainId F.plain_tuple_new _]
   have hsub:=sub_tuple_self
   have hinit:=init_tuple_lookup
   have hmh:=madeHere_tuple
   have hTI:=x.type
   wp_walk using wpAny_typeOf hTI,collect_genG hm x
   all_goals first | exact hh | exact hn | (show A.depth + 1 + nd < _;exact hd) | (simp only [units_in1];lia) | skip
   intro s' fz' acc gr S hacc
   show wpAny _ _ (Builtin.Tuple.tupleExact acc.toList.toArray >>= fun v => ret v) _ _ _
   unfold Builtin.Tuple.tupleExact
   obtain ⟨fz'',gr',_,ht,S'⟩:=S.allocF { cls:=.type "tuple", data:=.seq acc } rfl
   have e:acc.toList.toArray = acc:=by simp
   rw [e]
   refine wpAny_bind (wpAny_newObj_type ?_ (by show acc.size ≤ sizeLine;rw [hacc.1];exact hn))
   refine wpAny_pure ⟨⟨_,Heap.get?_push_size _ rfl,rfl⟩,?_⟩
   exact h _ fz'' _ acc (gr.trans gr') S' (hacc.grows hm gr') ⟨_,ht,rfl,_,rfl⟩
 · exact ⟨h₁.1,F.args_object_init_2 obj _,object_init_meets F.called_tuple.init.lookup F.called_tuple.made (by decide) _ _ _ _ s₁ ⟨h₁.1,rfl,h₁.2⟩⟩
end
section
variable {g:G} {s₀ s:Shared} {fz₀ fz:Heap} {L:Addr} {l:List (Str × Value)} {mu:List (Addr × Obj)} {A:Around} {E:Value → Shared → Prop}
structure Pre (g:G) (s:Shared) (fz:Heap) (s':Shared) (mu:List (Addr × Obj)):Prop where
 keep:Sub s.heap s'.heap
 sub:Sub fz s.heap
 own:∀ p ∈ mu,s'.heap.get? p.1 = some p.2 ∧ s.heap.get? p.1 = none
 nd:(mu.map (·.1)).Nodup
 inv:Inv g fz
 bare:AllBare s'.gens
 os_:s'.os = s.os
 gsz:s.gens.size ≤ s'.gens.size
theorem none_sub {h h':Heap} (k:Sub h h') {a:Addr} (e:h'.get? a = none):h.get? a = none:=by
 cases q:h.get? a with
 | none => rfl
 | some o => rw [k _ _ q] at e;cases e
theorem enterI {s':Shared} {R:Result → Shared → Prop} {name qual:Str} {params:Arguments} {body:List Stmt} {scope:Scope} {dV kV doc pm cdv ct oc:Value} {an od:Option Addr} {osl:Array (Option Value)} {f:Addr} {args:Args} (l:List (Str × Value))
   (hroom:A.depth < recursionLimit) (P:Pre g s fz s' mu)
   (ho:g.K.lookup f = some ⟨oc,od,.func (fnOf name qual params body scope dV kV doc pm an cdv ct),osl⟩) (hcd:codeIn g.K cdv qual = true)
   (hbind:BindsTo s' (fnOf name qual params body scope dV kV doc pm an cdv ct) args l.reverse) (hcell:∀ x ∈ scope.names,x.2 ≠ .cell) (hloc:∀ x ∈ l.reverse,scope.names.lookup x.1 = some .local)
   (hco:scope.isCoroutine = false) (hgen:scope.isGenerator = false) (hk:scope.kind = .function)
   (h:∀ (s₁:Shared) (L:Addr),St g s fz s₁.heap s₁.gens s₁.os fz L l mu →
     wpAny (model g.prog g.w) (A.deeper (envX qual scope L f cdv [])) (execs body (envX qual scope L f cdv [])) (fun fl s' => R (.ok (.ret (match fl with | .ret v => v | _ => .none))) s') (fun zz zz => False) s₁) :
   codeAny (model g.prog g.w) A (.call (.ref f) args) R s':=by
 have sub:Sub fz s'.heap:=P.sub.trans P.keep
 refine codeAny_call_def (fd:=fnOf name qual params body scope dV kV doc pm an cdv ct) (body:=body) (binds:=l.reverse) hroom (sub _ _ (P.inv.kin _ _ ho)) rfl (P.inv.top.nolimit.keeps sub) (codeRec_of (P.inv.kin.keeps sub) hcd) rfl hbind hcell hloc (fun h₁ hns hk₁ => ?_) hco hgen hk
 have fL:s'.heap.get? s'.heap.objs.size = none:=none_of_size (Nat.le_refl _)
 refine wpAny_mono (h _ s'.heap.objs.size ?_) (fun zz zz x => x) fun zz zz x => x.elim
 rw [List.reverse_reverse] at hns
 refine ⟨hns,fun b o e zz => hk₁ b o (P.keep b o e),fun b o e => hk₁ b o (sub b o e),Grows.refl _ _,fun zz zz zz n => n,none_sub P.keep fL,none_sub sub fL,fun p hp => ?_,P.nd,P.inv,P.bare,P.os_,P.gsz⟩
 have z:=P.own p hp
 exact ⟨hk₁ _ _ z.1,Nat.ne_of_lt (Heap.lt_size z.1),z.2,none_sub P.sub z.2⟩
theorem enterC {R:Result → Shared → Prop} {name qual x:Str} {v:Value} {params:Arguments} {body:List Stmt} {scope:Scope} {dV kV doc pm cdv ct oc:Value} {an od:Option Addr} {osl:Array (Option Value)} {f:Addr} {vals:List Value} (l binds:List (Str × Value))
   (hroom:A.depth < recursionLimit) (sub:Sub fz s.heap) (inv:Inv g fz) (bare:AllBare s.gens)
   (ho:g.K.lookup f = some ⟨oc,od,.func (fnOf name qual params body scope dV kV doc pm an cdv ct),osl⟩) (hcd:codeIn g.K cdv qual = true)
   (hbind:bindArgs (fnOf name qual params body scope dV kV doc pm an cdv ct) ⟨vals,[]⟩ = pure binds)
   (hkind:(binds.all fun y => scope.names.lookup y.1 == some .local || scope.names.lookup y.1 == some .cell) = true)
   (hcells:∀ n,cellsFrom n scope.names [] = [(x,n)])
   (hl:∀ L:Addr,bindL (envOfC qual scope L f cdv).kindOf binds (fun zz => none) = fun y => List.lookup y l) (hc:∀ L:Addr,bindC (envOfC qual scope L f cdv).kindOf binds (fun zz => none) x = some v)
   (hco:scope.isCoroutine = false) (hgen:scope.isGenerator = false) (hk:scope.kind = .function)
   (h:∀ (s₁:Shared) (fz':Heap) (L c:Addr),Grows g.tabs fz fz' → fz'.IsCell c (some v) → St g s fz s₁.heap s₁.gens s₁.os fz' L l [] →
     wpAny (model g.prog g.w) (A.deeper (envX qual scope L f cdv [(x,c)])) (execs body (envX qual scope L f cdv [(x,c)])) (fun fl s' => R (.ok (.ret (match fl with | .ret v => v | _ => .none))) s') (fun zz zz => False) s₁) :
   codeAny (model g.prog g.w) A (.call (.ref f) ⟨vals,[]⟩) R s:=by
 refine codeAny_call_cells (fd:=fnOf name qual params body scope dV kV doc pm an cdv ct) (body:=body) hroom (sub _ _ (inv.kin _ _ ho)) rfl (inv.top.nolimit.keeps sub) (codeRec_of (inv.kin.keeps sub) hcd) rfl hbind rfl (kindsX hkind _) (fun s₁ I => ?_) hco hgen hk
 have hce:=hcells (s.heap.objs.size + 1)
 have e:callEnvC (fnOf name qual params body scope dV kV doc pm an cdv ct) s.heap.objs.size f = envX qual scope s.heap.objs.size f cdv [(x,s.heap.objs.size + 1)]:=by
   show envOfC qual scope s.heap.objs.size f cdv = _
   show envX qual scope s.heap.objs.size f cdv (cellsFrom (s.heap.objs.size + 1) scope.names []) = _
   rw [hce]
 rw [e]
 obtain ⟨oc',hoc,hdc⟩ : s₁.heap.IsCell (s.heap.objs.size + 1) (some v):=by
   have:=I.cell x (s.heap.objs.size + 1) (by show (cellsFrom (s.heap.objs.size + 1) scope.names []).lookup x = _;rw [hce];simp)
   rw [show bindC (callEnvC (fnOf name qual params body scope dV kV doc pm an cdv ct) s.heap.objs.size f).kindOf binds (fun zz => none) x = some v from hc _] at this
   exact this
 have ns:s₁.heap.Ns s.heap.objs.size (fun y => List.lookup y l):=by
   rw [← hl s.heap.objs.size];exact I.toInCall.ns
 obtain ⟨h',tk,es⟩:=I.toInCall.same
 subst es
 have n0:s.heap.get? s.heap.objs.size = none:=none_of_size (Nat.le_refl _)
 have n1:s.heap.get? (s.heap.objs.size + 1) = none:=none_of_size (Nat.le_succ _)
 have S:St g s fz h' s.gens s.os fz s.heap.objs.size l [(s.heap.objs.size + 1,oc')] :=
   ⟨ns,fun b o e zz => I.toInCall.keep b o e,fun b o e => I.toInCall.keep b o (sub b o e),Grows.refl _ _,fun zz zz zz n => n,n0,none_sub sub n0,fun p hp => by
     obtain rfl:=List.mem_singleton.mp hp
     exact ⟨hoc,Nat.succ_ne_self _,n1,none_sub sub n1⟩,by simp,inv,bare,rfl,Nat.le_refl _⟩
 obtain ⟨fz',gr,_,hcf,S'⟩:=S.freeze 0 rfl
 exact wpAny_mono (h _ fz' _ _ gr ⟨_,hcf,hdc⟩ (by simpa using S')) (fun zz zz x => x) fun zz zz x => x.elim
noncomputable def kvPut (name:Str) (v:Value):List (Str × Value) → List (Str × Value)
 | [] => [(name,v)]
 | q :: r => if q.1 == name then (q.1,v) :: r else q :: kvPut name v r
theorem KVs.put {name:Str} {v:Value} {hsh:Int} {t:Tok}:∀ {es:List DictEntry} {kv:List (Str × Value)},KVs es kv → KVs (putL name hsh (.str name t) v es) (kvPut name v kv)
 | [],[],_ => ⟨⟨t,rfl⟩,rfl,trivial⟩
 | e :: es, q :: kv, ⟨⟨t', hk⟩, hv, r⟩ => by
   obtain ⟨k,u⟩:=q
   obtain ⟨hh,ek,ev⟩:=e
   dsimp only at hk hv
   subst hk hv
   unfold putL kvPut
   have hb:(DictEntry.mk hh (.str k t') ev).key.isStr name = (k == name):=rfl
   rw [hb]
   split
   · exact ⟨⟨t',rfl⟩,rfl,r⟩
   · exact ⟨⟨t',rfl⟩,rfl,KVs.put r⟩
 | [],_ :: _,h => h.elim
 | _ :: _,[],h => h.elim
theorem KVs.length:∀ {es:List DictEntry} {kv:List (Str × Value)},KVs es kv → es.length = kv.length
 | [],[],_ => rfl
 | _ :: _,_ :: _,⟨_,_,r⟩ => congrArg (· + 1) (KVs.length r)
 | [],_ :: _,h => h.elim
 | _ :: _,[],h => h.elim
noncomputable def othersOf (h:Heap) (L d:Addr):List (Addr × Obj):=(List.range h.objs.size).filterMap fun b => if b = L ∨ b = d then none else (h.get? b).map fun o => (b,o)
theorem othersOf_mem {h:Heap} {L d:Addr} {p:Addr × Obj}:p ∈ othersOf h L d ↔ p.1 ≠ L ∧ p.1 ≠ d ∧ h.get? p.1 = some p.2:=by
 unfold othersOf
 rw [List.mem_filterMap]
 constructor
 · rintro ⟨b,_,e⟩
   split at e
   · cases e
   · rename_i n
     obtain ⟨o,ho,rfl⟩:=Option.map_eq_some_iff.mp e
     exact ⟨fun q => n (.inl q),fun q => n (.inr q),ho⟩
 · rintro ⟨n1,n2,e⟩
   refine ⟨p.1,List.mem_range.mpr (Heap.lt_size e),?_⟩
   rw [if_neg (fun q => q.elim n1 n2),e];rfl
structure OwnI (mu:List (Addr × Obj)) (x C dx:Addr) (es:List DictEntry) (n i j:Nat) (kv:List (Str × Value)):Prop where
 inst:mu[i]? = some (x,instObj C dx)
 dict:mu[j]? = some (dx,dictOf es n)
 kvs:KVs es kv
theorem St.turnL {h h':Heap} {gn:Array GenState} {os:OsState} {j:Nat} {d:Addr} {od od':Obj} (S:St g s₀ fz₀ h gn os fz L l mu) (hj:mu[j]? = some (d,od)) (hn:h'.Ns L (fun y => List.lookup y l)) (k:∀ b o,b ≠ L → b ≠ d → h.get? b = some o → h'.get? b = some o) (e:h'.get? d = some od') :
   St g s₀ fz₀ h' gn os fz L l (mu.set j (d,od')):=by
 have z:=S.own _ (mem_at hj)
 have ne:=nodup_ne S.nd hj
 obtain ⟨hl,he'⟩:=List.getElem?_eq_some_iff.mp hj
 have eq:mu.set j (d,od') = mu.take j ++ (d,od') :: mu.drop (j + 1):=List.set_eq_take_append_cons_drop.trans (if_pos hl)
 refine ⟨hn,fun b o q r => k b o (fun x => ?_) (fun x => ?_) (S.keep b o q r),fun b o q => k b o (fun x => ?_) (fun x => ?_) (S.le b o q),S.gr,S.hid,S.bL,S.fL,fun p hp => ?_,?_,S.inv,S.bare,S.os_,S.gsz⟩
 · rw [x,S.bL] at q;cases q
 · rw [x,z.2.2.1] at q;cases q
 · rw [x,S.fL] at q;cases q
 · rw [x,z.2.2.2] at q;cases q
 · rw [eq] at hp
   rcases List.mem_append.mp hp with hp | hp
   · have y:=S.own p (List.mem_of_mem_take hp)
     exact ⟨k _ _ y.2.1 (ne p (List.mem_append.mpr (.inl hp))) y.1,y.2⟩
   · rcases List.mem_cons.mp hp with rfl | hp
     · exact ⟨e,z.2⟩
     · have y:=S.own p (List.mem_of_mem_drop hp)
       exact ⟨k _ _ y.2.1 (ne p (List.mem_append.mpr (.inr hp))) y.1,y.2⟩
 · have:(mu.set j (d,od')).map (·.1) = mu.map (·.1):=by
     rw [List.map_set]
     apply List.ext_getElem?
     intro q
     rw [List.getElem?_set]
     by_cases hq:j = q
     · subst hq;simp [hl,he']
     · simp [hq]
   rw [this];exact S.nd
theorem sa_own {M:Model} {x C dx:Addr} {es:List DictEntry} {n i j:Nat} {kv:List (Str × Value)} {name:Str} {v:Value} {Q:Unit → Shared → Prop} (hM:M = model g.prog g.w) (S:St g s₀ fz₀ s.heap s.gens s.os fz L l mu) (O:OwnI mu x C dx es n i j kv)
   (hij:i ≠ j) (hs:findIn g.K (.ref C) "__setattr__" = some (some (.builtin "object.__setattr__"))) (hp:plainOver g.K C = true) (ht:takerIn g.K C name = some none) (hh:hasDictIn g.K C = true) (hz:kv.length < 1000)
   (k:∀ s' es' n' mu',St g s₀ fz₀ s'.heap s'.gens s'.os fz L l mu' → mu' = mu.set j (dx,dictOf es' n') → OwnI mu' x C dx es' n' i j (kvPut name v kv) → Q () s'):wpAny M A (setAttr (.ref x) name v) Q E s:=by
 subst hM
 have X:g.K.In s.heap:=S.inv.kin.keeps S.le
 have a:=S.own _ (mem_at O.inst)
 have b:=S.own _ (mem_at O.dict)
 have I:InstAt s.heap x (instObj C dx) C (some (dictOf es n)):=⟨a.1,rfl,rfl,b.1⟩
 have F:Fr (⟨#[],{}⟩ : Heap) L s.heap (fun y => List.lookup y l):=⟨S.ns,fun b o e => absurd (Heap.lt_size e) (Nat.not_lt_zero _),Nat.zero_le _⟩
 have N:News (⟨#[],{}⟩ : Heap) L s.heap ([] ++ (dx,dictOf es n) :: othersOf s.heap L dx):=by
   intro p hp
   have n0:∀ q:Addr,(⟨#[],{}⟩ : Heap).get? q = none:=fun q => none_of_size (Nat.zero_le _)
   rcases List.mem_cons.mp hp with rfl | hp
   · exact ⟨b.1,b.2.1,n0 _⟩
   · have z:=othersOf_mem.mp hp
     exact ⟨z.2.2,z.1,n0 _⟩
 have hl:es.length = kv.length:=O.kvs.length
 refine set_plain X I hs (osa_dict (s:={ s with toks:=s.toks + 1 }) F N X I rfl hp ht hh (by rw [lookIn_dict,O.kvs.get];rfl) (fun zz h => nomatch h) (fun p hp => (othersOf_mem.mp hp).2.1) (putName_dict ..) rfl ?_ fun h' F' N' => ?_)
 · have:=(O.kvs.put (name:=name) (v:=v) (hsh:=PyData.keyHash g.w.params name) (t:=s.toks + 1)).length
   rw [this]
   have:∀ kv:List (Str × Value),(kvPut name v kv).length ≤ kv.length + 1:=fun kv => by
     induction kv with
     | nil => exact Nat.le_refl _
     | cons q r ih => unfold kvPut;split <;> simp only [List.length_cons] <;> lia
   have:=this kv;lia
 · have S':=S.turnL O.dict (od':=dictOf _ _) F'.ns (fun b o n1 n2 e => (N' (b,o) (.tail _ (othersOf_mem.mpr ⟨n1,n2,e⟩))).1) (N' (dx,dictOf _ _) (.head _)).1
   refine k _ _ _ _ S' rfl ⟨?_,?_,O.kvs.put⟩
   · rw [List.getElem?_set_ne (Ne.symm hij)];exact O.inst
   · rw [List.getElem?_set_self (List.getElem?_eq_some_iff.mp O.dict).choose]
end
section
variable {g:G} {s₀ s:Shared} {fz₀ fz:Heap} {L:Addr} {l:List (Str × Value)} {mu:List (Addr × Obj)} {A:Around} {E:Value → Shared → Prop} {x C D:Addr} {kv:List (Str × Value)} {name:Str} {v:Value}
theorem OwnI.here {h:Heap} {gn:Array GenState} {os:OsState} {dx:Addr} {es:List DictEntry} {n i j:Nat} (O:OwnI mu x C dx es n i j kv) (S:St g s₀ fz₀ h gn os fz L l mu):Inst h x C kv :=
 ⟨dx,es,n,(S.own _ (mem_at O.inst)).1,(S.own _ (mem_at O.dict)).1,O.kvs⟩
theorem St.at0 {h:Heap} {gn:Array GenState} {os:OsState} (S:St g s₀ fz₀ h gn os fz L l mu) (I:Inst s₀.heap x C kv):Inst h x C kv:=I.grows S.keep
theorem gH_own {M:Model} {expr:Bool} {attr:Option Value} {Q:Value → Shared → Prop} (hM:M = model g.prog g.w) (S:St g s₀ fz₀ s.heap s.gens s.os fz L l mu) (I:Inst s.heap x C kv) (hg:plainGet g.K C name = true) (hh:hasDictIn g.K C = true)
   (ha:findIn g.K (.ref C) name = some attr) (hn:noGet g.K attr = true) (hv:kv.lookup name = some v) (hi:handedIn v = true) (h:Q v { s with toks:=s.toks + 1 }) :
   wpAny M A (getAttr (.ref x) name expr) Q E s:=by
 subst hM
 obtain ⟨_,_,_,J,r⟩:=I.at
 exact get_value (S.inv.kin.keeps S.le) J (plainGet_of hg).1 (findObj_own hh ha hn (r.get.trans (by rw [hv]))) hi h
theorem gH_meth {M:Model} {pl:Sem Bool} {f:Addr} {Q:Value × List Value → Shared → Prop} (hM:M = model g.prog g.w) (S:St g s₀ fz₀ s.heap s.gens s.os fz L l mu) (I:Inst s.heap x C kv) (hg:plainGet g.K C name = true)
   (hf:findIn g.K (.ref C) name = some (some (.ref f))) (ht:isFn g.K (.ref f) = true) (hl:kv.lookup name = none) (h:Q (.ref f,[.ref x]) s):wpAny M A (getMethod (.ref x) name pl) Q E s:=by
 subst hM
 obtain ⟨_,_,_,J,r⟩:=I.at
 exact method_fn (S.inv.kin.keeps S.le) J (plainGet_of hg).1 (plainGet_of hg).2 hf (beq_iff_eq.mp ht) (by show (lookIn name (dictOf _ _)).map _ = _;rw [lookIn_dict,r.get,hl];rfl) h
noncomputable def Bound (h:Heap) (q:Addr) (f self:Value):Prop:=h.get? q = some (methodObj f self)
theorem Bound.grows {t:List Addr} {h h':Heap} {q:Addr} {f self:Value} (x:Bound h q f self) (k:Grows t h h'):Bound h' q f self:=k _ _ x (fun zz e => nomatch e)
theorem findObj_cm {K:Frag} {od:Obj} {a gg:Value} (hh:hasDictIn K C = true) (ha:findIn K (.ref C) name = some (some a)) (hg:specialIn K a "__get__" = some (some gg)) (ht:takesIn K a = some false) (hl:lookIn name od = some none) (hc:copiedNames.contains name = false) :
   findObj K C (some od) name = some (.bind gg a):=by
 obtain ⟨cd,hc',hd⟩:=any_some hh
 have ho:W.ownOf cd (some od) name = some none:=by unfold W.ownOf;rw [if_pos hd];exact hl
 delta findObj
 rw [hc',Option.bind_some,ha]
 show (specialIn K a "__get__").bind _ = _
 rw [hg]
 show (takesIn K a).bind _ = _
 rw [ht]
 show (W.ownOf cd (some od) name).bind _ = _
 rw [ho]
 exact if_neg (by rw [hc];exact Bool.false_ne_true)
theorem g_cm {M:Model} {pl:Sem Bool} {p f:Addr} {rest:List Value} {Q:Value × List Value → Shared → Prop} (hM:M = model g.prog g.w) (S:St g s₀ fz₀ s.heap s.gens s.os fz L l mu) (I:Inst s.heap x C kv) (hg:plainGet g.K C name = true) (hh:hasDictIn g.K C = true)
   (ha:findIn g.K (.ref C) name = some (some (.ref p))) (hu:(some (Value.ref p)).all (fun a => (typeIn g.K a).any fun t => t != .type "function" && t != .type "method_descriptor" && t != .type "wrapper_descriptor") = true) (hn:specialIn g.K (.ref p) "__get__" = some (some (.builtin "classmethod.__get__")))
   (ht:takesIn g.K (.ref p) = some false) (hp:recIn g.K p "classmethod" = some (.ref f :: rest)) (hl:kv.lookup name = none) (hc:copiedNames.contains name = false)
   (k:∀ s' fz' q,Grows g.tabs fz fz' → St g s₀ fz₀ s'.heap s'.gens s'.os fz' L l mu → Bound fz' q (.ref f) (.ref C) → Q (.ref q,[]) s'):wpAny M A (getMethod (.ref x) name pl) Q E s:=by
 subst hM
 obtain ⟨_,_,_,J,r⟩:=I.at
 have X:=S.inv.kin.keeps S.le
 refine method_usual X J (plainGet_of hg).1 (plainGet_of hg).2 ha hu ?_
 refine get_bind X J (plainGet_of hg).1 (findObj_cm hh ha hn ht (by rw [lookIn_dict,r.get,hl]) hc) (plainGet_of hg).2 (wpAny_call (cm_get (s:={ s with toks:=s.toks + 1 }) X hp ?_))
 obtain ⟨fz',gr,_,hq,S'⟩:=S.allocF (methodObj (.ref f) (.ref C)) rfl
 exact handed_on rfl (k _ fz' _ gr S' hq)
theorem c_cm {M:Model} {pl:Sem Bool} {p f:Addr} {rest:List Value} {mc:Value} {Q:Value × List Value → Shared → Prop} (hM:M = model g.prog g.w) (S:St g s₀ fz₀ s.heap s.gens s.os fz L l mu)
   (hg:specialIn g.K (.ref C) "__getattribute__" = some (some (.builtin "type.__getattribute__"))) (hm:typeIn g.K (.ref C) = some mc) (hr:readsIn g.K C mc = true) (e:findCls g.K (.ref C) mc name = some (.get (.builtin "classmethod.__get__") (.ref p) .none (.ref C)))
   (hp:recIn g.K p "classmethod" = some (.ref f :: rest))
   (k:∀ s' fz' q,Grows g.tabs fz fz' → St g s₀ fz₀ s'.heap s'.gens s'.os fz' L l mu → Bound fz' q (.ref f) (.ref C) → Q (.ref q,[]) s'):wpAny M A (getMethod (.ref C) name pl) Q E s:=by
 subst hM
 have X:=S.inv.kin.keeps S.le
 refine method_cls X hg (cls_bind X hr e (wpAny_call (cm_get (s:={ s with toks:=s.toks + 1 }) X hp ?_)))
 obtain ⟨fz',gr,_,hq,S'⟩:=S.allocF (methodObj (.ref f) (.ref C)) rfl
 exact handed_on rfl (k _ fz' _ gr S' hq)
noncomputable def RunsK (g:G) (f:Value) (pos:List Value) (kw:List (Str × Value)) (nd nu:Nat) (Pre:Heap → Prop) (Post:Heap → Value → Prop):Prop :=
 ∀ (A:Around) (s:Shared) (fz:Heap) (R:Result → Shared → Prop),A.handled = none → A.depth + nd < recursionLimit → A.units + nu < cLine →
   Sub fz s.heap → Inv g fz → AllBare s.gens → Pre fz → (∀ r s' fz',Aft g s fz s' fz' → Post fz' r → R (.ok (.ret r)) s') → codeAny (model g.prog g.w) A (.call f ⟨pos,kw⟩) R s
theorem RunsK.runs {f:Value} {pos:List Value} {kw:List (Str × Value)} {nd nu:Nat} {P:Heap → Prop} {R:Heap → Value → Prop} (x:RunsK g f pos kw nd nu P R):Runs g (call f pos kw) nd nu P R :=
 fun A s fz Q E hh hd hu sub inv bare pre k => wpAny_call (x A s fz _ hh hd hu sub inv bare pre k)
theorem RunsK.bound {q:Addr} {f self:Value} {pos:List Value} {kw:List (Str × Value)} {nd nu:Nat} {P:Heap → Prop} {R:Heap → Value → Prop} (x:RunsK g f (self :: pos) kw nd nu P R) :
   Runs g (call (.ref q) pos kw) nd nu (fun h => Bound h q f self ∧ P h) R :=
 fun A s fz Q E hh hd hu sub inv bare pre k => wpAny_call (method_call (sub _ _ pre.1) (x A s fz _ hh hd hu sub inv bare pre.2 k))
theorem RunsK.mono {f:Value} {pos:List Value} {kw:List (Str × Value)} {nd nu nd' nu':Nat} {P P':Heap → Prop} {R R':Heap → Value → Prop} (x:RunsK g f pos kw nd nu P R) (hd:nd ≤ nd') (hu:nu ≤ nu') (hP:∀ h,P' h → P h) (hR:∀ h r,R h r → R' h r):RunsK g f pos kw nd' nu' P' R' :=
 fun A s fz Q hh h1 h2 sub inv bare pre k => x A s fz Q hh (by lia) (by lia) sub inv bare (hP _ pre) fun r s' fz' a p => k r s' fz' a (hR _ _ p)
theorem mk_inst {R:Result → Shared → Prop} {fI:Addr} {pos:List Value} {kw:List (Str × Value)} (sub:Sub fz s.heap) (inv:Inv g fz) (bare:AllBare s.gens) (hm:makesIn g.K C = true)
   (hi:findIn g.K (.ref C) "__init__" = some (some (.ref fI))) (hf:isFn g.K (.ref fI) = true)
   (h:∀ x dx s',Pre g s fz s' [(x,instObj C dx),(dx,dictOf [] 0)] → codeAny (model g.prog g.w) (A.under (.builtin "type.__call__" ⟨.ref C :: pos,kw⟩)) (.call (.ref fI) ⟨.ref x :: pos,kw⟩) (InitBack x R) s') :
   codeAny (model g.prog g.w) A (.call (.ref C) ⟨pos,kw⟩) R s:=by
 obtain ⟨hh,gg,d,t,os⟩:=s
 have X:=inv.kin.keeps sub
 refine make_core (makes_of X hm) (looks_findIn X hi) (fun self => bind_fn X self (beq_iff_eq.mp hf)) (.inl rfl) (h _ hh.objs.size _ ?_)
 have n0:hh.get? hh.objs.size = none:=none_of_size (Nat.le_refl _)
 have n1:hh.get? (hh.objs.size + 1) = none:=none_of_size (Nat.le_succ _)
 have e1:((hh.push emptyDict).push (instObj C hh.objs.size)).get? (hh.objs.size + 1) = some (instObj C hh.objs.size):=by
   have:=(Heap.get?_push_size (hh.push emptyDict) (o:=instObj C hh.objs.size) rfl:((hh.push emptyDict).push (instObj C hh.objs.size)).get? (hh.push emptyDict).objs.size = _)
   rwa [Heap.size_push] at this
 have e0:((hh.push emptyDict).push (instObj C hh.objs.size)).get? hh.objs.size = some emptyDict:=Heap.get?_push_of_some _ (Heap.get?_push_size _ rfl)
 exact ⟨fun b o e => Heap.get?_push_of_some _ (Heap.get?_push_of_some _ e),sub,fun p hp => by
   rcases List.mem_cons.mp hp with rfl | hp
   · exact ⟨e1,n1⟩
   · obtain rfl:=List.mem_singleton.mp hp
     exact ⟨e0,n0⟩,by simp,inv,bare,rfl,Nat.le_refl _⟩
inductive InstS (g:G) (s₀:Shared) (fz₀ h:Heap) (gn:Array GenState) (os:OsState) (fz:Heap) (L:Addr) (l:List (Str × Value)) (x C:Addr) (kv:List (Str × Value)):Prop
 | mk (fz':Heap):Grows g.tabs fz fz' → Inst fz' x C kv → St g s₀ fz₀ h gn os fz' L l [] → InstS g s₀ fz₀ h gn os fz L l x C kv
theorem St.inst {h:Heap} {gn:Array GenState} {os:OsState} {dx:Addr} {es:List DictEntry} {n:Nat} (S:St g s₀ fz₀ h gn os fz L l [(x,instObj C dx),(dx,dictOf es n)]) (k:KVs es kv):InstS g s₀ fz₀ h gn os fz L l x C kv:=by
 obtain ⟨f1,a1,b1,c1,S1⟩:=S.freeze 0 rfl
 obtain ⟨f2,a2,b2,c2,S2⟩:=(show St g s₀ fz₀ h gn os f1 L l [(dx,dictOf es n)] from S1).freeze 0 rfl
 exact ⟨f2,a1.trans a2,⟨dx,es,n,b2 _ _ c1,c2,k⟩,by simpa using S2⟩
theorem mk_plain (hm:makesIn g.K C = true) (hi:findIn g.K (.ref C) "__init__" = some (some (.builtin "object.__init__"))):RunsK g (.ref C) [] [] 0 0 (fun zz => True) (fun fz r => ∃ x,r = .ref x ∧ Inst fz x C []):=by
 intro A s fz R hh hd hu sub inv bare _ k
 obtain ⟨hh',gg,d,t,os⟩:=s
 have X:=inv.kin.keeps sub
 have Y:=makes_of (M:=model g.prog g.w) X hm
 have n0:hh'.get? hh'.objs.size = none:=none_of_size (Nat.le_refl _)
 have n1:hh'.get? (hh'.objs.size + 1) = none:=none_of_size (Nat.le_succ _)
 have e1:((hh'.push emptyDict).push (instObj C hh'.objs.size)).get? (hh'.objs.size + 1) = some (instObj C hh'.objs.size):=by
   have:=(Heap.get?_push_size (hh'.push emptyDict) (o:=instObj C hh'.objs.size) rfl:((hh'.push emptyDict).push (instObj C hh'.objs.size)).get? (hh'.push emptyDict).objs.size = _)
   rwa [Heap.size_push] at this
 have e0:((hh'.push emptyDict).push (instObj C hh'.objs.size)).get? hh'.objs.size = some emptyDict:=Heap.get?_push_of_some _ (Heap.get?_push_size _ rfl)
 have kk:Sub hh' ((hh'.push emptyDict).push (instObj C hh'.objs.size)):=fun b o e => Heap.get?_push_of_some _ (Heap.get?_push_of_some _ e)
 refine make_core Y (looks_findIn X hi) (fun self => Looks.of_pure (oi_bind self)) (.inr ⟨rfl,rfl⟩) ?_
 have t1:Looks (model g.prog g.w) ((hh'.push emptyDict).push (instObj C hh'.objs.size)) (typeOf (.ref (hh'.objs.size + 1))) (.ref C):=(Looks.ld e1).andThen .now
 have t2:Looks (model g.prog g.w) ((hh'.push emptyDict).push (instObj C hh'.objs.size)) (isInstance (.ref (hh'.objs.size + 1)) (.type "object")) true:=t1.andThen (Y.top.keeps kk)
 refine codeAny_call_builtin oi_plain entry_oi (@check_slot (model g.prog g.w) _ _ _ "object.__init__" "object" "__init__" (.ref (hh'.objs.size + 1)) [] [] _ oi_kind oi_split t2 (oi_args (.ref (hh'.objs.size + 1))) ?_)
 rw [oi_run]
 refine wpAny_pure (And.intro rfl ?_)
 have g1:=put_get (fz:=fz) (n:=hh'.objs.size + 2) (a:=hh'.objs.size) (o:=emptyDict) (by lia) (fun b o e => Nat.lt_of_lt_of_le (Heap.lt_size (sub _ _ e)) (by show hh'.objs.size ≤ _;lia)) rfl
 have s1:Sub fz (put fz (hh'.objs.size + 2) hh'.objs.size emptyDict):=fun b o e => by
   rw [g1 b,if_neg (fun q => ?_)];exact e
   have:=sub _ _ e;rw [q] at this;rw [show (⟨hh',gg,d,t,os⟩ : Shared).heap.get? hh'.objs.size = none from n0] at this;cases this
 have g2:=put_get (fz:=put fz (hh'.objs.size + 2) hh'.objs.size emptyDict) (n:=hh'.objs.size + 2) (a:=hh'.objs.size + 1) (o:=instObj C hh'.objs.size) (by lia) (fun b o e => by
   rw [g1 b] at e
   by_cases q:b = hh'.objs.size
   · rw [q];exact Nat.lt_succ_of_lt (Nat.lt_succ_self _)
   · rw [if_neg q] at e
     exact Nat.lt_of_lt_of_le (Heap.lt_size (sub _ _ e)) (by show hh'.objs.size ≤ _;lia)) rfl
 have s2:Sub (put fz (hh'.objs.size + 2) hh'.objs.size emptyDict) (put (put fz (hh'.objs.size + 2) hh'.objs.size emptyDict) (hh'.objs.size + 2) (hh'.objs.size + 1) (instObj C hh'.objs.size)):=fun b o e => by
   rw [g2 b,if_neg (fun q => ?_)];exact e
   rw [g1 b,if_neg (fun z => Nat.succ_ne_self _ (q.symm.trans z))] at e
   have:=sub _ _ e;rw [q] at this;rw [show (⟨hh',gg,d,t,os⟩ : Shared).heap.get? (hh'.objs.size + 1) = none from n1] at this;cases this
 refine k _ _ _ (⟨kk.grows _,(s1.trans s2).grows _,fun b o e => ?_,fun b o e n => ?_,inv.sub (s1.trans s2),bare,rfl,Nat.le_refl _⟩ : Aft g ⟨hh',gg,d,t,os⟩ fz ⟨(hh'.push emptyDict).push (instObj C hh'.objs.size),gg,d,t,os⟩ _) ⟨_,rfl,⟨hh'.objs.size,[],0,?_,?_,trivial⟩⟩
 · rw [g2 b] at e
   by_cases q:b = hh'.objs.size + 1
   · rw [if_pos q] at e;cases e;rw [q];exact e1
   · rw [if_neg q,g1 b] at e
     by_cases q':b = hh'.objs.size
     · rw [if_pos q'] at e;cases e;rw [q'];exact e0
     · rw [if_neg q'] at e;exact kk _ _ (sub _ _ e)
 · have lt:b < hh'.objs.size:=Heap.lt_size e
   rw [g2 b,if_neg (Nat.ne_of_lt (Nat.lt_succ_of_lt lt)),g1 b,if_neg (Nat.ne_of_lt lt)];exact n
 · rw [g2,if_pos rfl]
 · rw [g2,if_neg (Nat.succ_ne_self _).symm,g1,if_pos rfl]
end
noncomputable def byteOf (x:Str):Array UInt8:=x.cps.map (·.toUInt8)
theorem loop2 {β:Type} {n:Nat} {f:Nat → β → Sem (ForInStep β)} {a b:β} (h0:n = 0 → a = b) (h1:0 < n → ∀ j,f j a = pure (.yield b)) (h2:∀ j,f j b = pure (.done b)):forIn [0:n] a f = pure b:=by
 rw [Std.Legacy.Range.forIn_eq_forIn_range']
 have e0:Std.Legacy.Range.size [0:n] = n:=by simp [Std.Legacy.Range.size]
 rw [e0]
 cases n with
 | zero => rw [h0 rfl];rfl
 | succ n =>
   rw [List.range'_succ,List.forIn_cons,h1 (Nat.succ_pos _)]
   cases n with
   | zero => rfl
   | succ m =>
     rw [List.range'_succ]
     show (forIn (_ :: _) _ f) = _
     rw [List.forIn_cons,h2]
     rfl
theorem fold_bytes (xs:List Nat):∀ acc:Array UInt8,xs.foldl (fun acc y => acc ++ (_codecs.asciiCodec.bytesOf y).toArray) acc = acc ++ (xs.map (·.toUInt8)).toArray:=by
 induction xs with
 | nil => intro acc;simp
 | cons y ys ih =>
   intro acc
   rw [List.foldl_cons,ih]
   show (acc ++ [y.toUInt8].toArray) ++ _ = _
   rw [Array.append_assoc]
   simp
theorem enc_ok {x:Str} (h:∀ c ∈ x.cps.toList,c < 128):∀ c ∈ x.cps.toList,(!_codecs.asciiCodec.bad c) = true:=fun c hc => by
 have:_codecs.asciiCodec.bad c = false:=decide_eq_false (by have:=h c hc;lia)
 rw [this];rfl
theorem enc_i {x:Str} (h:∀ c ∈ x.cps.toList,(!_codecs.asciiCodec.bad c) = true):(Array.findIdx? _codecs.asciiCodec.bad (x.cps.extract 0)).getD (x.cps.extract 0).size = x.length:=by
 have e:x.cps.extract 0 = x.cps:=by simp
 have n:Array.findIdx? _codecs.asciiCodec.bad x.cps = none:=by
   rw [Array.findIdx?_eq_none_iff]
   intro c hc
   have:=h c (Array.mem_toList_iff.mpr hc)
   revert this;cases _codecs.asciiCodec.bad c <;> decide
 rw [e,n];rfl
theorem enc_out {x:Str} (n:Nat) (hn:n = x.length):Array.foldl (fun acc y => acc ++ (_codecs.asciiCodec.bytesOf y).toArray) #[] ((x.cps.extract 0).extract 0 n) = byteOf x:=by
 have e:(x.cps.extract 0).extract 0 n = x.cps:=by subst hn;simp [Str.length]
 rw [e,← Array.foldl_toList,fold_bytes]
 unfold byteOf
 rw [← Array.toList_map,Array.empty_append]
theorem yield_eq {i j:Nat} {a b:Array UInt8} {f:_codecs.Faults} (h:i = j) (k:a = b):(pure (ForInStep.yield (i,a,f)):Sem _) = pure (ForInStep.yield (j,b,f)):=by rw [h,k]
theorem encode_ascii_eq (x:Str) (self:Value) (h:∀ c ∈ x.cps.toList,c < 128) (hz:x.length ≤ sizeLine):_codecs.encodeNarrow "str.encode" _codecs.asciiCodec none self x = pure (byteOf x):=by
 refine (congrArg (fun t => Bind.bind t _) (loop2 (b:=(x.length,byteOf x,{})) ?_ ?_ ?_)).trans rfl
 · intro e
   have:byteOf x = #[]:=by unfold byteOf;have:x.cps = #[]:=Array.eq_empty_of_size_eq_zero e;rw [this];simp
   rw [this,e]
 · intro hlt j
   have hq:x.cps[0]? = some (x.cps[0]'hlt):=Array.getElem?_eq_getElem hlt
   refine (if_neg (Nat.not_lt_zero _)).trans ?_
   dsimp only
   rw [hq]
   have o:=enc_ok h
   have i:=(Nat.zero_add _).trans (enc_i o)
   exact (if_pos (o _ (Array.mem_toList_iff.mpr (Array.getElem_mem hlt)))).trans (yield_eq i (enc_out _ (enc_i o)))
 · intro j
   have hq:x.cps[x.length]? = none:=Array.getElem?_eq_none (Nat.le_refl _)
   refine (if_neg (by unfold byteOf;simp only [Array.size_map];exact Nat.not_lt.mpr hz)).trans ?_
   dsimp only
   rw [hq]
open Builtin._codecs in
theorem encodeRoad_ascii (id:String) (self:Value) (x:Str) (errors:Option Str):encodeRoad id self x (Str.ofString "ascii") errors = (do mkBytes (← encodeNarrow id asciiCodec errors self x)):=by
 first | rfl | (unfold encodeRoad;rfl)
theorem encode_ascii_tree (x:Str) (t u:Tok):«str.encode» ⟨[.str x t,.str (Str.ofString "ascii") u],[]⟩ = (do ret (← _codecs.encodeRoad "str.encode" (.str x t) x (Str.ofString "ascii") none)):=by kernel_rfl
theorem args_encode (a b:Value):argsOk "str.encode" ⟨[a,b],[]⟩:=by
 unfold argsOk;kernel_rfl
theorem call_encode {prog:Program} {w:World} {A:Around} {E:Value → Shared → Prop} {s:Shared} {x:Str} {t u:Tok} {Q:Value → Shared → Prop} (h:∀ c ∈ x.cps.toList,c < 128) (hz:x.length ≤ sizeLine)
   (k:Q (.bytes (byteOf x) s.toks) { s with toks:=s.toks + 1 }):wpAny (model prog w) A (call (.builtin "str.encode") [.str x t,.str (Str.ofString "ascii") u]) Q E s:=by
 refine wpAny_call (codeAny_call_builtin F.slot_str_encode.plain F.entry_str_encode (F.slot_str_encode.check _ _ _ _ _ _ _ _ (typeIs_str s x t) (args_encode _ _) ?_))
 rw [encode_ascii_tree,encodeRoad_ascii,encode_ascii_eq x _ h hz]
 refine wpAny_bind (wpAny_bind (wpAny_pure ?_))
 unfold mkBytes
 rw [if_neg (by unfold byteOf;simp only [Array.size_map];exact Nat.not_lt.mpr hz)]
 exact wpAny_bind (wpAny_fresh (wpAny_pure (wpAny_pure k)))
theorem meth_encode {M:Model} {A:Around} {E:Value → Shared → Prop} {s:Shared} {x:Str} {t:Tok} {pl:Sem Bool} {Q:Value × List Value → Shared → Prop} (h:Q (.builtin "str.encode", [.str x t]) s):wpAny M A (getMethod (.str x t) "encode" pl) Q E s:=by
 with_reducible exact GM.of (.str x t) (typeIs_str _ _ _) F.slot_str_encode F.type_str_encode GM.noRef h
noncomputable def idOf (x:Str):Idn:=if PySem.Txt.isdigit x then .num ((PySem.intText? x).getD 0) else .alpha (byteOf x)
structure WordOk (x:Str):Prop where
 ascii:∀ c ∈ x.cps.toList,c < 128
 short:x.length ≤ 640
 num:PySem.Txt.isdigit x = true → PySem.intText? x = some ((PySem.intText? x).getD 0)
 pos:0 < x.length
 lead:(PySem.Txt.item x 0 == Str.ofString "0") = true → PySem.Txt.isdigit x = true → (x != Str.ofString "0") = false
noncomputable def WordsOk (xs:List Str):Prop:=∀ x ∈ xs,WordOk x
noncomputable def keyF (pre:List Str) (i:Nat) (v:Value) (h:Heap):Prop:=∀ x,pre[i]? = some x → IsI h v (idOf x)
theorem keyF.mono {g:G} {pre:List Str}:MonoF g (keyF pre):=fun zz zz zz zz k f x hx => (f x hx).grows k
theorem AllS.get {vs:List Value} {xs:List Str} (a:AllS vs xs) {i:Nat} {v:Value} (h:vs[i]? = some v):∃ x t,v = .str x t ∧ xs[i]? = some x:=by
 induction xs generalizing vs i with
 | nil => rw [allS_nl a] at h;exact nomatch h
 | cons x xs ih =>
   obtain ⟨t,ws,rfl,b⟩:=allS_un a
   cases i with
   | zero => cases h;exact ⟨x,t,rfl,rfl⟩
   | succ i => exact ih b h
theorem keyF.all {h:Heap}:∀ {pre:List Str} {vs:List Value},vs.length = pre.length → (∀ j v,vs[j]? = some v → keyF pre j v h) → AllI h vs (pre.map idOf)
 | [],[],_,_ => trivial
 | x :: pre,v :: vs,hl,hk => ⟨hk 0 v rfl x rfl,keyF.all (by simpa using hl) fun j u hj y hy => hk (j + 1) u (by simpa using hj) y (by simpa using hy)⟩
 | [],_ :: _,hl,_ => by cases hl
 | _ :: _,[],hl,_ => by cases hl
section
variable {g:G} {s₀ s:Shared} {fz₀ fz:Heap} {L:Addr} {l:List (Str × Value)} {mu:List (Addr × Obj)} {A:Around} {E:Value → Shared → Prop} {M:Model}
theorem IsTup.col {h:Heap} {a:Addr} {vs:Array Value} (t:IsTup h a vs):Col h false a vs:=t
theorem genP_key {elt:Expr} {scope:Scope} {cl:List (Str × Addr)} {q x:Str} {tp:Addr} {ps:List Value} {pre:List Str} {Q:Value → Shared → Prop} (S:St g s₀ fz₀ s.heap s.gens s.os fz L l mu) (hT:IsTup fz tp ps.toArray) (hA:AllS ps pre)
   (hb:GenBody g elt scope cl q x 8 60 ps.toArray (keyF pre) fz) (k:∀ s' fz' a,Grows g.tabs fz fz' → GenOn g s₀ fz₀ L l mu pre.length 8 60 (keyF pre) a 0 s' fz' → Q (.ref a) s') :
   GenP g s₀ fz₀ L elt scope cl q x Q (.ref tp) s :=
 ⟨false,tp,_,fz,l,mu,8,60,_,rfl,S,IsTup.col hT,hb,fun s' fz' a G X => k s' fz' a G (by rw [← hA.length,show ps.length = ps.toArray.size by simp];exact X)⟩
theorem tuple_key {pre:List Str} {a:Addr} {Q:Value → Shared → Prop} (hM:M = model g.prog g.w) (x:GenOn g s₀ fz₀ L l mu pre.length 8 60 (keyF pre) a 0 s fz) (hh:A.handled = none) (hd:A.depth + 9 < recursionLimit) (hu:A.units + 72 < cLine) (hn:pre.length ≤ sizeLine)
   (h:∀ s' fz' t ks,Grows g.tabs fz fz' → St g s₀ fz₀ s'.heap s'.gens s'.os fz' L l mu → IsTup fz' t ks.toArray → AllI fz' ks (pre.map idOf) → Q (.ref t) s'):wpAny M A (call (.type "tuple") [.ref a]) Q E s :=
 tuple_gen hM keyF.mono x hh (by omega) (by omega) hn fun s' fz' t acc gr S hI hT => h s' fz' t acc.toList gr S (by simpa using hT) (keyF.all (by simpa using hI.1) fun j v hj => hI.2 j v (by simpa using hj))
theorem truthy_tup {a:Addr} {vs:Array Value} {Q:Bool → Shared → Prop} (hM:M = model g.prog g.w) (S:St g s₀ fz₀ s.heap s.gens s.os fz L l mu) (T:IsTup fz a vs) (hs:(vs.size:Int) < 2 ^ 63) (h:Q (!vs.isEmpty) { s with toks:=s.toks + 1 + 1 }):wpAny M A (truthy (.ref a)) Q E s:=by
 subst hM;exact truthy_tuple (isTup_sub T S.le) hs h
end
section
variable {M:Model} {A:Around} {E:Value → Shared → Prop} {s:Shared} {K:Frag} {env:Env} {pos:Pos} {first:List Value} {Q:Value → Shared → Prop} {q f:Addr} {self:Value}
theorem cw_M {e:Expr} {rest:List Expr} (hf:fnIn K f = true) (h:wpAny M A (spliced (backTo pos (starEach (e :: rest) env))) (fun vs s₁ => MethP K q f self s₁.heap ∧ wpAny M A (call (.ref q) (first ++ vs)) Q E s₁) E s)
   (he:autoParam (starEach (e :: rest) env = (false,eval e env) :: starEach rest env) autR) (hplain:autoParam ((backTo pos (starEach rest env)).any (·.1) = false) autR) :
   wpAny M A (callWith pos (.ref q) first (backTo pos (starEach (e :: rest) env)) []) Q E s:=by
 rw [he] at h ⊢
 exact callWith_of (by show ((false || (backTo pos (starEach rest env)).any (·.1)) || false) = false;rw [hplain];rfl) (keeps_M hf) (evalArgs_plain h)
theorem cw_MKW {e:Expr} {rest:List Expr} {kws:List Keyword} (hf:fnIn K f = true) (hall:(backToKw pos (keywordEach kws env)).all (·.1.isSome) = true)
   (h:wpAny M A (spliced (backTo pos (starEach (e :: rest) env))) (fun vs s₁ => wpAny M A (evalAll ((backToKw pos (keywordEach kws env)).map (·.2)))
     (fun ks s₂ => MethP K q f self s₂.heap ∧ wpAny M A (call (.ref q) (first ++ vs) (((backToKw pos (keywordEach kws env)).filterMap (·.1)).zip ks)) Q E s₂) E s₁) E s)
   (hplain:autoParam (((backTo pos (starEach (e :: rest) env)).any (·.1) || (backToKw pos (keywordEach kws env)).any (·.1.isNone)) = false) autR) (he:autoParam (starEach (e :: rest) env = (false,eval e env) :: starEach rest env) autR) :
   wpAny M A (callWith pos (.ref q) first (backTo pos (starEach (e :: rest) env)) (backToKw pos (keywordEach kws env))) Q E s :=
 callWith_of hplain (keeps_M hf) (evalArgs_kw2 hall h he)
theorem cw_MKW0 {kws:List Keyword} (hf:fnIn K f = true) (hall:(backToKw pos (keywordEach kws env)).all (·.1.isSome) = true)
   (h:wpAny M A (evalAll ((backToKw pos (keywordEach kws env)).map (·.2))) (fun ks s₂ => MethP K q f self s₂.heap ∧ wpAny M A (call (.ref q) (first ++ []) (((backToKw pos (keywordEach kws env)).filterMap (·.1)).zip ks)) Q E s₂) E s)
   (hplain:autoParam (((backTo pos (starEach [] env)).any (·.1) || (backToKw pos (keywordEach kws env)).any (·.1.isNone)) = false) autR) :
   wpAny M A (callWith pos (.ref q) first (backTo pos (starEach [] env)) (backToKw pos (keywordEach kws env))) Q E s :=
 callWith_of hplain (keeps_M hf) (evalArgs_kw2_nil hall h)
end
section
variable {g:G} {s₀ s:Shared} {fz₀ fz:Heap} {L:Addr} {l:List (Str × Value)} {mu:List (Addr × Obj)} {A:Around} {E:Value → Shared → Prop} {M:Model}
theorem truthy_tupC {a:Addr} {v:Value} {vs:List Value} {Q:Bool → Shared → Prop} (hM:M = model g.prog g.w) (S:St g s₀ fz₀ s.heap s.gens s.os fz L l mu) (T:IsTup fz a (v :: vs).toArray) (hs:vs.length < 1000) (h:Q true { s with toks:=s.toks + 1 + 1 }):wpAny M A (truthy (.ref a)) Q E s :=
 truthy_tup hM S T (by simp only [List.size_toArray,List.length_cons];omega) (by simpa using h)
theorem truthy_tup0 {a:Addr} {Q:Bool → Shared → Prop} (hM:M = model g.prog g.w) (S:St g s₀ fz₀ s.heap s.gens s.os fz L l mu) (T:IsTup fz a (([]:List Value).toArray)) (h:Q false { s with toks:=s.toks + 1 + 1 }):wpAny M A (truthy (.ref a)) Q E s :=
 truthy_tup hM S T (by decide) h
end
inductive KeyP (h:Heap) (r:Value) (ma mi pa:Int) (t1 t2 t3:Tok) (ids:List Idn):Prop
 | mk (kp:_) (km:_) (ks:_):(r = .ref kp) → IsTup h kp #[.int ma t1,.int mi t2,.int pa t3,.ref km] → IsTup h km (ks:List Value).toArray → AllI h ks ids → KeyP h r ma mi pa t1 t2 t3 ids
theorem KeyP.grows {t:List Addr} {h h':Heap} {r:Value} {ma mi pa:Int} {t1 t2 t3:Tok} {ids:List Idn} (x:KeyP h r ma mi pa t1 t2 t3 ids) (k:Grows t h h'):KeyP h' r ma mi pa t1 t2 t3 ids :=
 by obtain ⟨kp,km,ks,e,a,b,c⟩:=x;exact ⟨kp,km,ks,e,isTup_grows a k,isTup_grows b k,c.grows k⟩
theorem slot_rx_match:Slot "re.Pattern" "match" "re.Pattern.match" :=
 .of (owner := "re.Pattern") (n := "match") (by rw [typeLookup_type,builtinLookup_eq_fast];kernel_rfl) (by decide +kernel) (by decide +kernel) (by decide +kernel)
   (by first | exact .inl (by decide +kernel) | exact .inr (by decide +kernel)) (by rw [isSubtype_type];kernel_rfl)
theorem slot_rx_groups:Slot "re.Match" "groups" "re.Match.groups" :=
 .of (owner := "re.Match") (n := "groups") (by rw [typeLookup_type,builtinLookup_eq_fast];kernel_rfl) (by decide +kernel) (by decide +kernel) (by decide +kernel)
   (by first | exact .inl (by decide +kernel) | exact .inr (by decide +kernel)) (by rw [isSubtype_type];kernel_rfl)
theorem type_rx_match:typeOf (.builtin "re.Pattern.match") = pure (.type "method_descriptor"):=by show builtinType _ = _;rw [builtinType_eq_fast];kernel_rfl
theorem type_rx_groups:typeOf (.builtin "re.Match.groups") = pure (.type "method_descriptor"):=by show builtinType _ = _;rw [builtinType_eq_fast];kernel_rfl
theorem entry_rx_match:entryFor table "re.Pattern.match" = some Builtin.«re.Pattern.match» := entryFor_of_tree (by kernel_rfl)
theorem entry_rx_groups:entryFor table "re.Match.groups" = some Builtin.«re.Match.groups» := entryFor_of_tree (by kernel_rfl)
theorem args_rx_match (a b:Value):argsOk "re.Pattern.match" ⟨[a,b],[]⟩:=by unfold argsOk;kernel_rfl
theorem args_rx_groups (a:Value):argsOk "re.Match.groups" ⟨[a],[]⟩:=by unfold argsOk;kernel_rfl
theorem pa_pattern:PlainAttrs "re.Pattern" :=
 ⟨⟨"object.__getattribute__", by rw [typeLookup_type,builtinLookup_eq_fast];kernel_rfl,by decide +kernel⟩,by rw [typeLookup_type,builtinLookup_eq_fast];kernel_rfl⟩
theorem pa_match:PlainAttrs "re.Match" :=
 ⟨⟨"object.__getattribute__", by rw [typeLookup_type,builtinLookup_eq_fast];kernel_rfl,by decide +kernel⟩,by rw [typeLookup_type,builtinLookup_eq_fast];kernel_rfl⟩
open PySem.Builtin.Re
noncomputable def rxEnds:Nat → Sre.M → Option Sre.M
 | 0,_ => none
 | n + 1,m => let m:=m.runFor 4;if m.outcome.isSome then some m else rxEnds n m
noncomputable def rxSpans (m:Sre.M) (groups:Nat):List Value:=(List.range groups).flatMap fun g =>
   match if ((2 * g + 1:Nat):Int) ≤ m.lastmark then (m.marks.getD (2 * g) none,m.marks.getD (2 * g + 1) none) else (none,none) with
   | (some b,some e) => [rawInt b,rawInt e]
   | _ => [rawInt (-1),rawInt (-1)]
noncomputable def rxBad (m:Sre.M) (groups:Nat):Bool:=(List.range groups).any (fun g => match m.marks.getD (2 * g) none,m.marks.getD (2 * g + 1) none with | some b,some e => ((2 * g + 1:Nat):Int) ≤ m.lastmark && e < b | _,_ => false)
section
variable {g:G} {s₀ s:Shared} {fz₀ fz:Heap} {L:Addr} {l:List (Str × Value)} {mu:List (Addr × Obj)} {A:Around} {E:Value → Shared → Prop} {M:Model}
theorem rx_drive {Q:Sre.M → Shared → Prop} {e:Sre.M}:∀ (n k:Nat) (m:Sre.M),rxEnds n m = some e → n ≤ k → Q e s → wpAny M A (reDrive k m) Q E s
 | 0,_,_,h,_,_ => by cases h
 | n + 1,0,_,_,h,_ => absurd h (Nat.not_succ_le_zero _)
 | n + 1, k + 1, m, h, hk, q => by
   unfold rxEnds at h
   show wpAny M A (if (m.runFor reTurnSteps).outcome.isSome = true then pure (m.runFor reTurnSteps) else (rule "sre.turn" >>= fun zz => reDrive k (m.runFor reTurnSteps))) Q E s
   have e4:reTurnSteps = 4:=rfl
   rw [e4]
   dsimp only at h
   split
   · rename_i ho
     rw [if_pos ho] at h;cases h
     exact wpAny_pure q
   · rename_i ho
     rw [if_neg ho] at h
     exact wpAny_bind (wpAny_rule (rx_drive n k _ h (by omega) q))
theorem rx_rules {Q:PUnit → Shared → Prop} (c:Nat → Bool) (f:Nat → String) (q:Q ⟨⟩ s):∀ l:List Nat,wpAny M A (forIn l PUnit.unit fun i zz => if c i = true then (do rule (f i);pure (ForInStep.yield PUnit.unit)) else pure (ForInStep.yield PUnit.unit)) Q E s
 | [] => wpAny_pure q
 | i :: l => by
   rw [List.forIn_cons]
   refine wpAny_bind ?_
   split
   · exact wpAny_bind (wpAny_rule (wpAny_pure (rx_rules c f q l)))
   · exact wpAny_pure (rx_rules c f q l)
theorem rx_run {Q:Option Sre.M → Shared → Prop} {e m:Sre.M} {n:Nat} (h:rxEnds n m = some e) (hn:n ≤ 2 ^ 64) (ho:e.outcome = some .matched) (q:Q (some e) s):wpAny M A (reRunToEnd m) Q E s:=by
 unfold reRunToEnd
 refine wpAny_bind (rx_drive n _ m h hn ?_)
 refine wpAny_bind (rx_rules (fun i => e.seen.has i) (fun i => Sre.names.getD i "") ?_ _)
 rw [ho]
 exact wpAny_pure q
end
structure PatAt (h:Heap) (a c:Addr) (code:Array Int):Prop where
 pat:∃ o t f,h.get? a = some o ∧ o.cls = .type "re.Pattern" ∧ o.dict = none ∧ o.data = .fields #[t,f,.int 5 0,.none,.none,.ref c,.int 0 0]
 code:∃ o n items,h.get? c = some o ∧ o.data = .seq items n ∧ items.map reRawOf = code
theorem PatAt.sub {h h':Heap} {a c:Addr} {code:Array Int} (x:PatAt h a c code) (k:Sub h h'):PatAt h' a c code :=
 ⟨(by obtain ⟨o,t,f,e,r⟩:=x.pat;exact ⟨o,t,f,k _ _ e,r⟩),(by obtain ⟨o,n,i,e,r⟩:=x.code;exact ⟨o,n,i,k _ _ e,r⟩)⟩
inductive IsMatch (h:Heap) (q:Addr) (x:Str) (t:Tok) (spans:List Value):Prop
 | mk (a:_) (li:_) (tp:_):(h.get? q = some { cls:=.type "re.Match", data:=.fields #[.str x t,.ref a,rawInt 0,rawInt x.length,li,.ref tp] }) → IsTup h tp spans.toArray → IsMatch h q x t spans
theorem IsMatch.grows {t':List Addr} {h h':Heap} {q:Addr} {x:Str} {t:Tok} {sp:List Value} (m:IsMatch h q x t sp) (k:Grows t' h h'):IsMatch h' q x t sp :=
 by obtain ⟨a,li,tp,e,r⟩:=m;exact ⟨a,li,tp,k _ _ e (fun zz z => nomatch z),isTup_grows r k⟩
section
variable {g:G} {s₀ s:Shared} {fz₀ fz:Heap} {L:Addr} {l:List (Str × Value)} {mu:List (Addr × Obj)} {A:Around} {E:Value → Shared → Prop} {M:Model}
theorem rx_named (x:Str) (t:Tok):reNamed "re.Pattern.match" "match" ["string", "pos", "endpos"] 1 [.str x t] [] = pure [some (.str x t),none,none]:=by kernel_rfl
theorem rx_match {a c q0:Addr} {code:Array Int} {x:Str} {t:Tok} {n:Nat} {e:Sre.M} {Q:Value → Shared → Prop} (hM:M = model g.prog g.w) (S:St g s₀ fz₀ s.heap s.gens s.os fz L l mu) (P:PatAt fz a c code)
   (hr:rxEnds n (Sre.forMatch (code.map (·.toNat)) x.cps 5 0 x.length false false) = some e) (hn:n ≤ 2 ^ 64) (ho:e.outcome = some .matched) (hb:rxBad e 5 = false) (hz:x.length ≤ 1000)
   (k:∀ s' fz' q,Grows g.tabs fz fz' → St g s₀ fz₀ s'.heap s'.gens s'.os fz' L l mu → IsMatch fz' q x t (rawInt e.start :: rawInt e.handed :: rxSpans e 5) → Q (.ref q) s'):wpAny M A (call (.builtin "re.Pattern.match") [.ref a,.str x t]) Q E s:=by
 subst hM
 have P':=P.sub S.le
 obtain ⟨o,t0,f0,e1,e2,e3,e4⟩:=P'.pat
 obtain ⟨oc,nc,items,c1,c2,c3⟩:=P'.code
 have hT:s.TypeIs (.ref a) "re.Pattern" := ⟨o,e1,e2⟩
 refine wpAny_call (codeAny_call_builtin slot_rx_match.plain entry_rx_match (slot_rx_match.check _ _ _ _ _ _ _ _ hT (args_rx_match _ _) ?_))
 unfold Builtin.«re.Pattern.match» reTarget
 dsimp only
 rw [rx_named]
 refine wpAny_bind ?_
 refine wpAny_bind (wpAny_pure ?_)
 dsimp only
 refine wpAny_bind (wpAny_pure ?_)
 refine wpAny_bind (wpAny_pure ?_)
 refine wpAny_bind (wpAny_fieldsOf e1 e4 ?_)
 refine wpAny_bind (m:=reTextOf (.str x t)) (wpAny_of_eq (a:=(x.cps,0)) rfl ?_)
 have z6:reRawNat (#[t0,f0,Value.int 5 0,Value.none,Value.none,Value.ref c,Value.int 0 0].getD 6 Value.none) = 0:=rfl
 have z2:reRawNat (#[t0,f0,Value.int 5 0,Value.none,Value.none,Value.ref c,Value.int 0 0].getD 2 Value.none) = 5:=rfl
 dsimp only
 rw [z6,z2,if_neg (by decide),if_neg (by decide)]
 have hc0:reNoCollectionInside (.str x t) 0 = pure ():=rfl
 rw [hc0]
 refine wpAny_bind (wpAny_pure ?_)
 refine wpAny_bind ?_
 unfold reRawItems
 refine wpAny_bind (wpAny_seqItems (a:=c) c1 c2 ?_)
 refine wpAny_pure (wpAny_pure ?_)
 have h63:((2:Int) ^ 63 - 1).toNat = 9223372036854775807:=by decide
 have hlim:Min.min ((2:Int) ^ 63 - 1).toNat x.cps.size = x.length:=by rw [h63];exact Nat.min_eq_right (by show x.length ≤ _;omega)
 have hpos:Min.min (Int.toNat 0) x.cps.size = 0:=Nat.zero_min _
 unfold reAnswer
 dsimp only [Option.getD_some]
 rw [c3,hlim,hpos]
 refine wpAny_bind (rx_run (n:=n) hr hn ho ?_)
 unfold reNewMatch
 refine wpAny_bind ?_
 dsimp only
 split
 · rename_i h
   exact absurd h (by show ¬ (rxBad e 5 = true);rw [hb];decide)
 · refine wpAny_bind (t_new (vs:=rawInt e.start :: rawInt e.handed :: rxSpans e 5) S ?_ fun s' fz' a' gr S' T' => ?_)
   · have:(rxSpans e 5).length = 10:=by
       unfold rxSpans
       show (List.flatMap _ [0,1,2,3,4]).length = 10
       have h2:∀ g:Nat,(match if ((2 * g + 1:Nat):Int) ≤ e.lastmark then (e.marks.getD (2 * g) none,e.marks.getD (2 * g + 1) none) else (none,none) with
           | (some b,some e) => [rawInt b,rawInt e]
           | _ => [rawInt (-1),rawInt (-1)]).length = 2:=fun g => by split <;> rfl
       simp only [List.flatMap_cons,List.flatMap_nil,List.length_append,h2,List.length_nil]
     have hs:=sizeLine_eq
     simp only [List.length_cons,this];omega
   obtain ⟨fz'',gr',_,hq,S''⟩:=S'.allocF { cls:=.type "re.Match", data:=.fields #[.str x t,.ref a,rawInt 0,rawInt x.length,rawInt e.lastindex,.ref a'] } rfl
   refine wpAny_newObj_type ?_ (by size_fits)
   refine wpAny_pure ?_
   exact k _ fz'' _ (gr.trans gr') S'' ⟨a,rawInt e.lastindex,a',hq,isTup_grows T' gr'⟩
end
end
section
open PySem PySem.W PySem.Calls PyProof.Rows PySem.Spec PySem.Builtin PySem.Builtin.Re
noncomputable def grpOf (x:Str) (sp:Array Int) (i:Nat):Option Str :=
 if (sp.getD (2 * i) (-1) < 0 || sp.getD (2 * i + 1) (-1) < 0) = true then none else some ⟨x.cps.extract (sp.getD (2 * i) (-1)).toNat (sp.getD (2 * i + 1) (-1)).toNat⟩
noncomputable def IsO (v:Value) (o:Option Str):Prop:=match o with | none => v = .none | some w => ∃ t,v = .str w t
noncomputable def AllO:List Value → List (Option Str) → Prop
 | [],[] => True
 | v :: vs,o :: os => IsO v o ∧ AllO vs os
 | _,_ => False
theorem AllO.length:∀ {vs:List Value} {os:List (Option Str)},AllO vs os → vs.length = os.length
 | [],[],_ => rfl
 | _ :: _,_ :: _,⟨_,r⟩ => congrArg (· + 1) r.length
 | [],_ :: _,h => h.elim
 | _ :: _,[],h => h.elim
section
variable {g:G} {s₀ s:Shared} {fz₀ fz:Heap} {L:Addr} {l:List (Str × Value)} {mu:List (Addr × Obj)} {A:Around} {E:Value → Shared → Prop} {M:Model}
theorem rx_group {X:ReFound} {x:Str} {t:Tok} {i:Nat} {Q:Value → Shared → Prop} (hx:X.fields.getD 0 .none = .str x t) (hz:x.length ≤ 1000) (h:∀ v tk,IsO v (grpOf x X.spans i) → Q v { s with toks:=tk }):wpAny M A (reGroupText X i .none) Q E s:=by
 unfold reGroupText
 dsimp only
 unfold grpOf at h
 split
 · rename_i hc
   rw [if_pos hc] at h
   exact wpAny_pure (h _ _ rfl)
 · rename_i hc
   rw [if_neg hc] at h
   rw [hx]
   refine wpAny_bind (m:=reTextOf (.str x t)) (wpAny_of_eq (a:=(x.cps,0)) rfl ?_)
   show wpAny M A (mkStr ⟨x.cps.extract _ _⟩) Q E s
   refine wpAny_mkStr (h _ _ ⟨_,rfl⟩) ?_
   show (x.cps.extract _ _).size ≤ sizeLine
   have hs:=sizeLine_eq
   have:x.cps.size ≤ 1000:=hz
   rw [Array.size_extract];omega
theorem rx_groupAll {X:ReFound} {x:Str} {t:Tok} (hx:X.fields.getD 0 .none = .str x t) (hz:x.length ≤ 1000):∀ (l:List Nat) {s:Shared} {Q:List Value → Shared → Prop},(∀ vs tk,AllO vs (l.map fun i => grpOf x X.spans (i + 1)) → Q vs { s with toks:=tk }) →
   wpAny M A (l.mapM fun g => reGroupText X (g + 1) .none) Q E s
 | [],s,Q,h => by rw [List.mapM_nil];exact wpAny_pure (h [] s.toks trivial)
 | i :: l, s, Q, h => by
   rw [List.mapM_cons]
   refine wpAny_bind (rx_group hx hz fun v tk hv => wpAny_bind (rx_groupAll hx hz l fun vs tk' hvs => wpAny_pure ?_))
   exact h (v :: vs) tk' ⟨hv,hvs⟩
theorem rx_groups {q:Addr} {x:Str} {t:Tok} {sp:List Value} {nums:Array Int} {Q:Value → Shared → Prop} (hM:M = model g.prog g.w) (S:St g s₀ fz₀ s.heap s.gens s.os fz L l mu) (m:IsMatch fz q x t sp) (hsp:sp.toArray.map reRawOf = nums) (h12:nums.size = 12) (hz:x.length ≤ 1000)
   (k:∀ s' fz' t' vs,Grows g.tabs fz fz' → St g s₀ fz₀ s'.heap s'.gens s'.os fz' L l mu → IsTup fz' t' vs.toArray → AllO vs [grpOf x nums 1,grpOf x nums 2,grpOf x nums 3,grpOf x nums 4,grpOf x nums 5] → Q (.ref t') s'):wpAny M A (call (.builtin "re.Match.groups") [.ref q]) Q E s:=by
 subst hM
 obtain ⟨a,li,tp,e1,e2⟩:=m
 have e1':=S.le _ _ e1
 obtain ⟨ot,f1,f2,n,f3⟩:=isTup_sub e2 S.le
 have hT:s.TypeIs (.ref q) "re.Match" := ⟨_,e1',rfl⟩
 refine wpAny_call (codeAny_call_builtin slot_rx_groups.plain entry_rx_groups (slot_rx_groups.check _ _ _ _ _ _ _ _ hT (args_rx_groups _) ?_))
 unfold Builtin.«re.Match.groups» reWithDefault
 dsimp only
 rw [show reNamed "re.Match.groups" "groups" ["default"] 0 [] [] = pure [none] by kernel_rfl]
 refine wpAny_bind ?_
 refine wpAny_bind (wpAny_pure ?_)
 dsimp only
 unfold reFound
 refine wpAny_bind (wpAny_bind (wpAny_fieldsOf e1' rfl ?_))
 unfold reRawItems
 refine wpAny_bind (wpAny_bind (wpAny_seqItems (a:=tp) f1 f3 (wpAny_pure ?_)))
 refine wpAny_pure (wpAny_pure ?_)
 dsimp only [Option.getD_some,Option.getD_none]
 rw [hsp,h12]
 refine wpAny_bind (rx_groupAll (x:=x) (t:=t) rfl hz _ fun vs tk hv => wpAny_bind ?_)
 have S':St g s₀ fz₀ ({ s with toks:=tk }:Shared).heap s.gens s.os fz L l mu:=S
 refine t_new (s:={ s with toks:=tk }) S' ?_ fun s' fz' t' gr S'' T' => wpAny_pure (k s' fz' t' vs gr S'' T' hv)
 have:=hv.length
 rw [this,List.length_map,List.length_range];decide
end
end
section
open PySem PySem.W PySem.Calls PyProof.Rows PySem.Spec PySem.Builtin
theorem truthy_strP {prog:Program} {w:World} {A:Around} {E:Value → Shared → Prop} {s:Shared} {x:Str} {t:Tok} {Q:Bool → Shared → Prop} (hp:0 < x.length) (hz:x.length ≤ 1000) (h:Q true { s with toks:=s.toks + 1 + 1 }):wpAny (model prog w) A (truthy (.str x t)) Q E s :=
 P.truthy_str (by lia) (by
   have:((x.length:Int) != 0) = true:=by simp only [bne_iff_ne];lia
   rw [this];exact h)
section
variable {g:G} {s₀ s:Shared} {fz₀ fz:Heap} {L:Addr} {l:List (Str × Value)} {mu:List (Addr × Obj)} {A:Around} {E:Value → Shared → Prop} {M:Model}
inductive ForAt (g:G) (s₀:Shared) (fz₀:Heap) (L:Addr) (k:Bool) (la:Addr) (items:Array Value) (I:Addr) (J:Nat → Heap → List (Str × Value) → List (Addr × Obj) → Prop) (i:Nat) (s:Shared):Prop
 | mk (fz:_) (l:_) (mu:_) (oI:_):St g s₀ fz₀ s.heap s.gens s.os fz L l ((I,oI) :: mu) → Col fz k la items → ItAt s.heap k I la i → (i ≤ items.size) → J i fz l mu → ForAt g s₀ fz₀ L k la items I J i s
theorem for_loop {x:Str} {px:Pos} {body:List Stmt} {cn:Str} {cs:Scope} {a:Addr} {ccd:Value} {cl:List (Str × Addr)} {k:Bool} {la I:Addr} {items:Array Value} {J:Nat → Heap → List (Str × Value) → List (Addr × Obj) → Prop} {R:Result → Shared → Prop}
   (hh:A.handled = none) (hk:cs.kind = .function) (hx:(envX cn cs L a ccd cl).kindOf x = some .local)
   (step:∀ i v (s:Shared) fz l mu oI E',items[i]? = some v → J i fz l mu → Col fz k la items → St g s₀ fz₀ s.heap s.gens s.os fz L ((x,v) :: l) ((I,oI) :: mu) → ItAt s.heap k I la (i + 1) →
     wpAny (model g.prog g.w) A (execs body (envX cn cs L a ccd cl)) (fun f s₃ => match f with
       | .next | .cont => ForAt g s₀ fz₀ L k la items I J (i + 1) s₃
       | .brk => R (.ok .next) s₃
       | .ret v => R (.ok (.ret v)) s₃) E' s)
   (fin:∀ (s:Shared) fz l mu,J items.size fz l mu → St g s₀ fz₀ s.heap s.gens s.os fz L l mu → R (.ok .next) s) (i:Nat) (h:ForAt g s₀ fz₀ L k la items I J i s) :
   codeAny (model g.prog g.w) A (.forLoop (.Name x px) (.ref I) body [] (envX cn cs L a ccd cl)) R s:=by
 refine codeAny_forLoop_any (fun n s => ∃ i,n = items.size - i ∧ ForAt g s₀ fz₀ L k la items I J i s) (fun n s hI => ?_) (items.size - i) ⟨i,rfl,h⟩
 obtain ⟨i,rfl,fz,l,mu,oI,S,hc,hi,hle,hJ⟩:=hI
 rcases Nat.lt_or_eq_of_le hle with hlt | heq
 · have hv:items[i]? = some items[i]:=Array.getElem?_eq_getElem hlt
   refine it_item rfl S hc hi hv fun h₁ oI' S₁ hi₁ => ?_
   refine wpAny_of_eq (rfl:letOwnedTupleGo (.Name x px) (.ref I) items[i] = pure ()) ?_
   refine wpAny_assign_Name (wpAny_storeName_local (env:=envX cn cs L a ccd cl) hx S₁.ns (fun h₂ hn₂ hs₂ => ?_) (by show (cs.kind == .class || (cs.kind == .module && L != mainGlobals)) = false;rw [hk];rfl))
   have e:(fun y => if y = x then some items[i] else List.lookup y l) = fun y => List.lookup y ((x,items[i]) :: l):=funext fun y => by
     rw [List.lookup_cons]
     by_cases h:y = x
     · subst h;simp
     · rw [if_neg h,beq_false_of_ne h]
   rw [e] at hn₂
   have S₂:=S₁.same hn₂ hs₂
   have hi₂:ItAt h₂ k I la (i + 1):=hi₁.at fun o z => (hs₂.2 I (S₁.own _ (.head _)).2.1).trans z
   refine wpAny_mono (step i items[i] { s with heap:=h₂,toks:=_ } fz l mu oI' _ hv hJ hc S₂ hi₂) (fun f s₃ h₃ => ?_) fun zz zz z => z
   cases f with
   | next => exact ⟨items.size - (i + 1),by omega,i + 1,rfl,h₃⟩
   | cont => exact ⟨items.size - (i + 1),by omega,i + 1,rfl,h₃⟩
   | brk => exact h₃
   | ret v => exact h₃
 · subst heq
   refine it_done rfl hh S hc hi fun h₁ S₁ => ?_
   exact wpAny_execs_nil (fin { s with heap:=h₁ } fz l mu hJ S₁)
end
structure ForBody (g:G) (s₀:Shared) (fz₀:Heap) (A:Around) (L:Addr) (x:Str) (body:List Stmt) (env:Env) (k:Bool) (la:Addr) (items:Array Value) (J:Nat → Heap → List (Str × Value) → List (Addr × Obj) → Prop) (Q:Flow → Shared → Prop):Prop where
 step:∀ i v (s:Shared) fz l I mu oI E',items[i]? = some v → J i fz l mu → Col fz k la items → St g s₀ fz₀ s.heap s.gens s.os fz L ((x,v) :: l) ((I,oI) :: mu) → ItAt s.heap k I la (i + 1) →
     wpAny (model g.prog g.w) A (execs body env) (fun f s₃ => match f with
       | .next | .cont => ForAt g s₀ fz₀ L k la items I J (i + 1) s₃
       | .brk => Q .next s₃
       | .ret v => Q (.ret v) s₃) E' s
inductive ForP (g:G) (s₀:Shared) (fz₀:Heap) (A:Around) (L:Addr) (x:Str) (body:List Stmt) (env:Env) (Q:Flow → Shared → Prop) (xv:Value) (s:Shared):Prop
 | mk (k:_) (la:_) (items:_) (fz:_) (l:_) (mu:_) (J:_):(xv = .ref la) → St g s₀ fz₀ s.heap s.gens s.os fz L l mu → Col fz k la items → J 0 fz l mu → ForBody g s₀ fz₀ A L x body env k la items J Q → (∀ (s:Shared) fz l mu,J items.size fz l mu → St g s₀ fz₀ s.heap s.gens s.os fz L l mu → Q .next s) → ForP g s₀ fz₀ A L x body env Q xv s
section
variable {g:G} {s₀ s:Shared} {fz₀ fz:Heap} {L:Addr} {l:List (Str × Value)} {mu:List (Addr × Obj)} {A:Around} {E:Value → Shared → Prop} {M:Model}
theorem for_rule {x:Str} {px pos:Pos} {iter:Expr} {body:List Stmt} {cn:Str} {cs:Scope} {a:Addr} {ccd:Value} {cl:List (Str × Addr)} {Q:Flow → Shared → Prop} (hM:M = model g.prog g.w) (_S:St g s₀ fz₀ s.heap s.gens s.os fz L l mu)
   (hh:A.handled = none) (hk:cs.kind = .function) (hx:(envX cn cs L a ccd cl).kindOf x = some .local) (hs:∀ x,foldedSetIterable iter (envX cn cs L a ccd cl) x = pure x)
   (h:wpAny M A (eval iter (envX cn cs L a ccd cl)) (ForP g s₀ fz₀ A L x body (envX cn cs L a ccd cl) Q) E s):wpAny M A (exec (.For (.Name x px) iter body [] pos) (envX cn cs L a ccd cl)) Q E s:=by
 subst hM
 refine wpAny_For (wpAny_mono h (fun xv s₁ h₁ => ?_) fun zz zz z => z) hs
 obtain ⟨k,la,items,fz,l,mu,J,rfl,S,hc,h0,hb,hf⟩:=h₁
 refine it_make rfl S hc fun s' I oI S' hi => ?_
 exact for_loop hh hk hx (fun i v s fz l mu oI E' hv hJ hc S hi => hb.step i v s fz l I mu oI E' hv hJ hc S hi) (fun s fz l mu hJ S => hf s fz l mu hJ S) 0 ⟨fz,l,mu,oI,S',hc,hi,Nat.zero_le _,h0⟩
end
theorem depth_kw (A:Around) (C:Addr) (vals:List Value) (kw:List (Str × Value)):(A.under (.builtin "type.__call__" ⟨.ref C :: vals,kw⟩)).depth = A.depth + 1:=rfl
theorem units_kw (A:Around) (C:Addr) (vals:List Value) (kw:List (Str × Value)):(A.under (.builtin "type.__call__" ⟨.ref C :: vals,kw⟩)).units = A.units + 1:=rfl
theorem St.after {g:G} {s₀ s s':Shared} {fz₀ fz fz':Heap} {L:Addr} {l:List (Str × Value)} {mu:List (Addr × Obj)} (S:St g s₀ fz₀ s.heap s.gens s.os fz L l mu) (a:Aft g s fz s' fz'):St g s₀ fz₀ s'.heap s'.gens s'.os fz' L l mu:=by
 have nL:L ∉ g.tabs:=S.inv.tab.not_mem S.fL
 obtain ⟨oL,es,ep,hL,hr⟩:=S.ns
 refine ⟨⟨oL,es,ep,a.keep _ _ hL (fun q => absurd q nL),hr⟩,S.keep.trans a.keep,a.le,S.gr.trans a.gr,fun b o e n => ?_,S.bL,a.hid _ _ hL S.fL,fun p hp => ?_,S.nd,a.inv,a.bare,a.os_.trans S.os_,Nat.le_trans S.gsz a.gsz⟩
 · have q:=S.hid b o e n
   exact a.hid b o (S.keep b o e fun z => absurd z (S.inv.tab.not_mem q)) q
 · have z:=S.own p hp
   exact ⟨a.keep _ _ z.1 (fun q => absurd q (S.inv.tab.not_mem z.2.2.2)),z.2.1,z.2.2.1,a.hid _ _ z.1 z.2.2.2⟩
theorem kvPut_new {name:Str} {v:Value}:∀ {kv:List (Str × Value)},kv.lookup name = none → kvPut name v kv = kv ++ [(name,v)]
 | [],_ => rfl
 | (k, u) :: r, h => by
   rw [List.lookup_cons] at h
   unfold kvPut
   by_cases e:k = name
   · subst e;simp at h
   · have e2:(name == k) = false:=beq_false_of_ne (Ne.symm e)
     rw [e2] at h
     have e3:(k == name) = false:=beq_false_of_ne e
     rw [if_neg (by simp [e3]),kvPut_new h];rfl
theorem sa_new {g:G} {s₀ s:Shared} {fz₀ fz:Heap} {L:Addr} {l:List (Str × Value)} {mu:List (Addr × Obj)} {A:Around} {E:Value → Shared → Prop} {M:Model} {x C dx:Addr} {es:List DictEntry} {n i j:Nat} {kv:List (Str × Value)} {name:Str} {v:Value} {Q:Unit → Shared → Prop} (hM:M = model g.prog g.w) (S:St g s₀ fz₀ s.heap s.gens s.os fz L l mu) (O:OwnI mu x C dx es n i j kv)
   (hij:i ≠ j) (hs:findIn g.K (.ref C) "__setattr__" = some (some (.builtin "object.__setattr__"))) (hp:plainOver g.K C = true) (ht:takerIn g.K C name = some none) (hh:hasDictIn g.K C = true) (hz:kv.length < 1000) (hn:kv.lookup name = none)
   (k:∀ s' es' n' mu',St g s₀ fz₀ s'.heap s'.gens s'.os fz L l mu' → mu' = mu.set j (dx,dictOf es' n') → OwnI mu' x C dx es' n' i j (kv ++ [(name,v)]) → Q () s'):wpAny M A (setAttr (.ref x) name v) Q E s :=
 sa_own hM S O hij hs hp ht hh hz fun s' es' n' mu' S' e O' => k s' es' n' mu' S' e (kvPut_new hn ▸ O')
section
variable {g:G} {s₀ s:Shared} {fz₀ fz:Heap} {L:Addr} {l:List (Str × Value)} {mu:List (Addr × Obj)} {A:Around} {E:Value → Shared → Prop} {M:Model}
theorem meth_rx {a c:Addr} {code:Array Int} {pl:Sem Bool} {Q:Value × List Value → Shared → Prop} (S:St g s₀ fz₀ s.heap s.gens s.os fz L l mu) (P:PatAt fz a c code) (h:Q (.builtin "re.Pattern.match", [.ref a]) s):wpAny M A (getMethod (.ref a) "match" pl) Q E s:=by
 obtain ⟨o,t,f,e1,e2,e3,_⟩:=(P.sub S.le).pat
 exact getMethod_builtin ⟨o,e1,e2⟩ pa_pattern slot_rx_match type_rx_match (fun b hb => by cases hb;exact ⟨o,e1,e3⟩) h
theorem meth_groups {q:Addr} {x:Str} {t:Tok} {sp:List Value} {pl:Sem Bool} {Q:Value × List Value → Shared → Prop} (S:St g s₀ fz₀ s.heap s.gens s.os fz L l mu) (m:IsMatch fz q x t sp) (h:Q (.builtin "re.Match.groups", [.ref q]) s):wpAny M A (getMethod (.ref q) "groups" pl) Q E s:=by
 obtain ⟨a,li,tp,e1,_⟩:=m
 exact getMethod_builtin ⟨_,S.le _ _ e1,rfl⟩ pa_match slot_rx_groups type_rx_groups (fun b hb => by cases hb;exact ⟨_,S.le _ _ e1,rfl⟩) h
end
theorem match_no_bool:typeLookup (.type "re.Match") "__bool__" = pure none:=by rw [typeLookup_type,builtinLookup_eq_fast];kernel_rfl
theorem match_no_len:typeLookup (.type "re.Match") "__len__" = pure none:=by rw [typeLookup_type,builtinLookup_eq_fast];kernel_rfl
theorem truthy_match {g:G} {s₀ s:Shared} {fz₀ fz:Heap} {L:Addr} {l:List (Str × Value)} {mu:List (Addr × Obj)} {A:Around} {E:Value → Shared → Prop} {M:Model} {q:Addr} {x:Str} {t:Tok} {sp:List Value} {Q:Bool → Shared → Prop}
   (S:St g s₀ fz₀ s.heap s.gens s.os fz L l mu) (m:IsMatch fz q x t sp) (h:Q true s):wpAny M A (truthy (.ref q)) Q E s:=by
 obtain ⟨a,li,tp,e1,_⟩:=m
 have hT:s.TypeIs (.ref q) "re.Match" := ⟨_,S.le _ _ e1,rfl⟩
 unfold truthy
 refine wpAny_bind (wpAny_callSpecial?_none (name:=Str.ofString "__bool__") hT match_no_bool ?_)
 refine wpAny_bind (wpAny_specialOf hT match_no_len ?_)
 exact wpAny_pure h
end
section
open PySem PySem.W PySem.Calls PyProof.Rows PySem.Spec PySem.Builtin PySem.Builtin.Re
noncomputable def codeI:Array Int:=#[14,4,0,5,4294967295,6,0,17,0,24,9,1,4294967295,13,4,8,10,0,1,17,1,16,46,17,2,24,9,1,4294967295,13,4,8,10,0,1,17,3,16,46,17,4,24,9,1,4294967295,13,4,8,10,0,1,17,5,23,26,0,1,16,45,17,6,24,16,1,4294967295,13,11,9,0,67067904,134217726,134217726,0,0,0,0,0,1,17,7,18,23,26,0,1,16,43,17,8,24,16,1,4294967295,13,11,9,0,67067904,134217726,134217726,0,0,0,0,0,1,17,9,18,6,5,1]
noncomputable def NumOk (s:Str) (n:Int):Prop:=WordOk s ∧ PySem.intText? s = some n
noncomputable def Parted (x:Str) (sa sb sc:Str) (jo:Option Str):Prop :=
 ∃ n e nums,n ≤ 2 ^ 64 ∧ rxEnds n (Sre.forMatch (codeI.map (·.toNat)) x.cps 5 0 x.length false false) = some e ∧ e.outcome = some .matched ∧ rxBad e 5 = false ∧
   (rawInt e.start :: rawInt e.handed :: rxSpans e 5).toArray.map reRawOf = nums ∧ nums.size = 12 ∧ grpOf x nums 1 = some sa ∧ grpOf x nums 2 = some sb ∧ grpOf x nums 3 = some sc ∧ grpOf x nums 4 = jo ∧ grpOf x nums 5 = none
structure TextOk (x:Str) (V:Ver):Prop where
 len:0 < x.length
 short:x.length ≤ 1000
 rx:∃ sa sb sc jo,Parted x sa sb sc jo ∧ NumOk sa V.ma ∧ NumOk sb V.mi ∧ NumOk sc V.pa ∧
   ((jo = none ∧ V.pre = []) ∨ ∃ J,jo = some J ∧ 0 < J.length ∧ J.length ≤ 1000 ∧ Txt.split J (Str.ofString ".") = V.pre ∧ V.pre ≠ [])
 words:WordsOk V.pre
 few:V.pre.length < 100
 key:V.key = if V.pre = [] then [.max] else V.pre.map idOf
noncomputable def allBut (h:Heap) (L:Addr):List (Addr × Obj):=othersOf h L L
inductive FiveV (V:Ver) (h:Heap) (r:Value):Prop
 | mk (a tp tb:Addr) (t1 t2 t3:Tok) (ps:List Value):r = .ref a → IsTup h a #[.int V.ma t1,.int V.mi t2,.int V.pa t3,.ref tp,.ref tb] → IsTup h tp ps.toArray → IsTup h tb ([]:List Value).toArray → AllS ps V.pre → FiveV V h r
theorem allO5 {vs:List Value} {a b c:Str} {o:Option Str} (O:AllO vs [some a,some b,some c,o,none]):∃ t1 t2 t3 v4,vs = [.str a t1,.str b t2,.str c t3,v4,.none] ∧ AllO [v4] [o]:=by
 rcases vs with _ | ⟨v1,_ | ⟨v2,_ | ⟨v3,_ | ⟨v4,_ | ⟨v5,_ | ⟨v6,vs⟩⟩⟩⟩⟩⟩ <;> first | exact O.elim | exact O.2.elim | exact O.2.2.elim | exact O.2.2.2.elim | exact O.2.2.2.2.elim | exact O.2.2.2.2.2.elim | skip
 obtain ⟨⟨t1,e1⟩,⟨t2,e2⟩,⟨t3,e3⟩,e4,e5,_⟩:=O
 have e5:v5 = .none:=e5
 exact ⟨t1,t2,t3,v4,by rw [e1,e2,e3,e5],e4,trivial⟩
section
variable {g:G} {s₀ s:Shared} {fz₀ fz:Heap} {L:Addr} {l:List (Str × Value)} {mu:List (Addr × Obj)} {A:Around} {E:Value → Shared → Prop} {M:Model}
theorem St.fr {h:Heap} {gn:Array GenState} {os:OsState} (S:St g s₀ fz₀ h gn os fz L l mu):Fr (⟨#[],{}⟩ : Heap) L h (fun y => List.lookup y l):=⟨S.ns,fun b o e => absurd (Heap.lt_size e) (Nat.not_lt_zero _),Nat.zero_le _⟩
theorem news_all (h:Heap) (L:Addr):News (⟨#[],{}⟩ : Heap) L h (allBut h L):=fun p hp =>
 have z:=othersOf_mem.mp hp
 ⟨z.2.2,z.1,none_of_size (Nat.zero_le _)⟩
theorem St.fromNews {h h':Heap} {gn:Array GenState} {os:OsState} {ex:List (Addr × Obj)} (S:St g s₀ fz₀ h gn os fz L l mu) (F:Fr (⟨#[],{}⟩ : Heap) L h' (fun y => List.lookup y l)) (N:News (⟨#[],{}⟩ : Heap) L h' (ex ++ allBut h L))
   (hx:∀ p ∈ ex,h.objs.size ≤ p.1) (nd:(ex.map (·.1)).Nodup):St g s₀ fz₀ h' gn os fz L l (ex ++ mu):=by
 have kk:∀ b o,b ≠ L → h.get? b = some o → h'.get? b = some o:=fun b o n e => (N (b,o) (List.mem_append.mpr (.inr (othersOf_mem.mpr ⟨n,n,e⟩)))).1
 have nn:∀ {b:Addr} {o:Obj},h.get? b = some o → ∀ p ∈ ex,p.1 ≠ b:=fun {b o} e p hp q => by
   exact absurd (Heap.lt_size e) (Nat.not_lt.mpr (q ▸ hx p hp))
 refine ⟨F.ns,fun b o e n => kk b o (fun q => ?_) (S.keep b o e n),fun b o e => kk b o (fun q => ?_) (S.le b o e),S.gr,S.hid,S.bL,S.fL,fun p hp => ?_,?_,S.inv,S.bare,S.os_,S.gsz⟩
 · rw [q,S.bL] at e;cases e
 · rw [q,S.fL] at e;cases e
 · rcases List.mem_append.mp hp with hp | hp
   · have z:=N p (List.mem_append.mpr (.inl hp))
     have hz:=hx p hp
     refine ⟨z.1,z.2.1,?_,?_⟩
     · cases e:s₀.heap.get? p.1 with
       | none => rfl
       | some o =>
         have:fz.get? p.1 = none:=by
           cases e':fz.get? p.1 with
           | none => rfl
           | some o' => exact absurd (Heap.lt_size (S.le _ _ e')) (Nat.not_lt.mpr hz)
         exact absurd (Heap.lt_size (S.keep _ _ e fun q => absurd q (S.inv.tab.not_mem this))) (Nat.not_lt.mpr hz)
     · cases e':fz.get? p.1 with
       | none => rfl
       | some o' => exact absurd (Heap.lt_size (S.le _ _ e')) (Nat.not_lt.mpr hz)
   · have z:=S.own p hp
     exact ⟨kk _ _ z.2.1 z.1,z.2⟩
 · rw [List.map_append,List.nodup_append]
   refine ⟨nd,S.nd,fun a ha b hb e => ?_⟩
   obtain ⟨p,hp,rfl⟩:=List.mem_map.mp ha
   obtain ⟨q,hq,rfl⟩:=List.mem_map.mp hb
   exact nn (S.own q hq).1 p hp e
theorem St.fromNew1 {h h':Heap} {gn:Array GenState} {os:OsState} {o:Obj} (S:St g s₀ fz₀ h gn os fz L l mu) (F:Fr (⟨#[],{}⟩ : Heap) L h' (fun y => List.lookup y l)) (N:News (⟨#[],{}⟩ : Heap) L h' ((h.objs.size,o) :: allBut h L)) :
   ∃ fz',Grows g.tabs fz fz' ∧ fz'.get? h.objs.size = some o ∧ St g s₀ fz₀ h' gn os fz' L l mu:=by
 have S':=S.fromNews (ex:=[(h.objs.size,o)]) F N (fun p hp => by obtain rfl:=List.mem_singleton.mp hp;exact Nat.le_refl _) (by simp)
 obtain ⟨fz',a,_,b,c⟩:=S'.freeze 0 rfl
 exact ⟨fz',a,b,by simpa using c⟩
theorem allS_strs:∀ (l:List (Str × Tok)),AllS (strValues l) (l.map (·.1))
 | [] => trivial
 | p :: r => ⟨⟨p.2,rfl⟩,allS_strs r⟩
theorem m_split {x y:Str} {t u:Tok} {Q:Value → Shared → Prop} (hM:M = model g.prog g.w) (S:St g s₀ fz₀ s.heap s.gens s.os fz L l mu) (hy:(y.length == 0) = false) (hz:x.length ≤ 1000)
   (k:∀ s' fz' a vs,Grows g.tabs fz fz' → St g s₀ fz₀ s'.heap s'.gens s'.os fz' L l mu → fz'.IsList a (vs:List Value).toArray → AllS vs (Txt.split x y) → Q (.ref a) s'):wpAny M A (call (.builtin "str.split") [.str x t,.str y u]) Q E s:=by
 subst hM
 refine splitN1 S.fr (news_all s.heap L) hy (fun lv h' tk e F N => ?_) (by have:=sizeLine_eq;lia)
 obtain ⟨fz',gr,hf,S'⟩:=S.fromNew1 F N
 exact k { s with heap:=h',toks:=tk } fz' _ _ gr S' ⟨_,hf,rfl,_,rfl⟩ (e ▸ allS_strs lv)
theorem m_tupleOfList {la:Addr} {vs:List Value} {Q:Value → Shared → Prop} (hM:M = model g.prog g.w) (S:St g s₀ fz₀ s.heap s.gens s.os fz L l mu) (hl:fz.IsList la vs.toArray) (hz:vs.length ≤ 2000)
   (k:∀ s' fz' a,Grows g.tabs fz fz' → St g s₀ fz₀ s'.heap s'.gens s'.os fz' L l mu → IsTup fz' a vs.toArray → Q (.ref a) s'):wpAny M A (call (.type "tuple") [.ref la]) Q E s:=by
 subst hM
 refine call_tuple_list (isList_sub hl S.le) (fun h' hk => ?_) (by have:=sizeLine_eq;simp only [List.size_toArray];lia)
 obtain ⟨fz',gr,_,hf,S'⟩:=(S.ext hk).allocF { cls:=.type "tuple", data:=.seq vs.toArray } rfl
 exact k { s with heap:=h'.push _ } fz' _ gr S' ⟨_,hf,rfl,_,rfl⟩
theorem rx_groupsN {q:Addr} {x sa sb sc:Str} {t:Tok} {sp:List Value} {nums:Array Int} {Q:Value → Shared → Prop} (hM:M = model g.prog g.w) (S:St g s₀ fz₀ s.heap s.gens s.os fz L l mu) (m:IsMatch fz q x t sp) (hsp:sp.toArray.map reRawOf = nums) (h12:nums.size = 12) (hz:x.length ≤ 1000)
   (g1:grpOf x nums 1 = some sa) (g2:grpOf x nums 2 = some sb) (g3:grpOf x nums 3 = some sc) (g4:grpOf x nums 4 = none) (g5:grpOf x nums 5 = none)
   (k:∀ s' fz' t' t1 t2 t3,Grows g.tabs fz fz' → St g s₀ fz₀ s'.heap s'.gens s'.os fz' L l mu → IsTup fz' t' [.str sa t1,.str sb t2,.str sc t3,.none,.none].toArray → Q (.ref t') s'):wpAny M A (call (.builtin "re.Match.groups") [.ref q]) Q E s:=by
 refine rx_groups hM S m hsp h12 hz fun s' fz' t' vs gr S' T O => ?_
 rw [g1,g2,g3,g4,g5] at O
 obtain ⟨t1,t2,t3,v4,e,e4⟩:=allO5 O
 have e4:v4 = .none:=e4.1
 rw [e,e4] at T
 exact k s' fz' t' t1 t2 t3 gr S' T
theorem rx_groupsS {q:Addr} {x sa sb sc J:Str} {t:Tok} {sp:List Value} {nums:Array Int} {Q:Value → Shared → Prop} (hM:M = model g.prog g.w) (S:St g s₀ fz₀ s.heap s.gens s.os fz L l mu) (m:IsMatch fz q x t sp) (hsp:sp.toArray.map reRawOf = nums) (h12:nums.size = 12) (hz:x.length ≤ 1000)
   (g1:grpOf x nums 1 = some sa) (g2:grpOf x nums 2 = some sb) (g3:grpOf x nums 3 = some sc) (g4:grpOf x nums 4 = some J) (g5:grpOf x nums 5 = none)
   (k:∀ s' fz' t' t1 t2 t3 t4,Grows g.tabs fz fz' → St g s₀ fz₀ s'.heap s'.gens s'.os fz' L l mu → IsTup fz' t' [.str sa t1,.str sb t2,.str sc t3,.str J t4,.none].toArray → Q (.ref t') s'):wpAny M A (call (.builtin "re.Match.groups") [.ref q]) Q E s:=by
 refine rx_groups hM S m hsp h12 hz fun s' fz' t' vs gr S' T O => ?_
 rw [g1,g2,g3,g4,g5] at O
 obtain ⟨t1,t2,t3,v4,e,⟨t4,e4⟩,_⟩:=allO5 O
 rw [e,e4] at T
 exact k s' fz' t' t1 t2 t3 t4 gr S' T
theorem m_unpack {env:Env} {elts:List PySem.Expr} {x1} {pos:Pos} {t:Addr} {vs:List Value} {Q:Unit → Shared → Prop} (hM:M = model g.prog g.w) (hh:A.handled = none) (S:St g s₀ fz₀ s.heap s.gens s.os fz L l mu) (ht:IsTup fz t vs.toArray)
   (hn:(assignEach elts env).length = vs.length) (hstar:(assignEach elts env).findIdx? (·.1) = none)
   (k:∀ s',St g s₀ fz₀ s'.heap s'.gens s'.os fz L l mu → wpAny M A (assignInOrder ((assignEach elts env).map (·.2)) vs) Q E s'):wpAny M A (assign (.Tuple elts x1 pos) env (.ref t)) Q E s:=by
 subst hM
 exact unpackN_ S.fr (news_all s.heap L) (isTup_sub ht S.le) hh (by rw [hn,List.size_toArray]) hstar fun h' F N => k { s with heap:=h' } (S.fromNews (ex:=[]) F N (fun zz h => nomatch h) List.nodup_nil)
theorem m_unpackItems {t:Addr} {vs:List Value} {n:Nat} {Q:List Value → Shared → Prop} (hM:M = model g.prog g.w) (hh:A.handled = none) (S:St g s₀ fz₀ s.heap s.gens s.os fz L l mu) (ht:IsTup fz t vs.toArray) (hn:n = vs.length)
   (k:∀ s',St g s₀ fz₀ s'.heap s'.gens s'.os fz L l mu → Q vs s'):wpAny M A (unpackItems (.ref t) n none) Q E s:=by
 subst hM
 exact unpackItemsN_ S.fr (news_all s.heap L) (isTup_sub ht S.le) hh (by rw [hn,List.size_toArray]) fun h' F N => k { s with heap:=h' } (S.fromNews (ex:=[]) F N (fun zz h => nomatch h) List.nodup_nil)
end
end
section
open PySem PySem.W PySem.Calls PyProof.Rows PySem.Spec PySem.Builtin
noncomputable def RunsIt (g:G) (t:Sem Value) (nd nu:Nat) (Pre:Heap → Prop) (Ok:Heap → Bool → Addr → Array Value → Prop):Prop :=
 ∀ (A:Around) (s:Shared) (fz:Heap) (Q:Value → Shared → Prop) (E:Value → Shared → Prop),A.handled = none → A.depth + nd < recursionLimit → A.units + nu < cLine →
   Sub fz s.heap → Inv g fz → AllBare s.gens → Pre fz → (∀ kk la items I oI s' fz',Aft g s fz s' fz' → s'.heap.get? I = some oI → s.heap.get? I = none → fz'.get? I = none → Col fz' kk la items → ItAt s'.heap kk I la 0 → Ok fz' kk la items → Q (.ref I) s') → wpAny (model g.prog g.w) A t Q E s
section
variable {g:G} {s₀ s:Shared} {fz₀ fz:Heap} {L:Addr} {l:List (Str × Value)} {mu:List (Addr × Obj)} {A:Around} {E:Value → Shared → Prop} {M:Model}
theorem St.runIt {t:Sem Value} {nd nu:Nat} {Pre:Heap → Prop} {Ok:Heap → Bool → Addr → Array Value → Prop} {Q:Value → Shared → Prop} (hM:M = model g.prog g.w) (S:St g s₀ fz₀ s.heap s.gens s.os fz L l mu) (R:RunsIt g t nd nu Pre Ok)
   (hh:A.handled = none) (hd:A.depth + nd < recursionLimit) (hu:A.units + nu < cLine) (pre:Pre fz)
   (k:∀ kk la items I oI s' fz',Grows g.tabs fz fz' → St g s₀ fz₀ s'.heap s'.gens s'.os fz' L l ((I,oI) :: mu) → Col fz' kk la items → ItAt s'.heap kk I la 0 → Ok fz' kk la items → Q (.ref I) s'):wpAny M A t Q E s:=by
 subst hM
 refine R A s fz Q E hh hd hu S.le S.inv S.bare pre fun kk la items I oI s' fz' a e1 e2 e3 c it ok => k kk la items I oI s' fz' a.gr ?_ c it ok
 have S':=S.after a
 obtain ⟨oL,_,_,hL,_⟩:=S.ns
 refine ⟨S'.ns,S'.keep,S'.le,S'.gr,S'.hid,S'.bL,S'.fL,fun p hp => ?_,?_,S'.inv,S'.bare,S'.os_,S'.gsz⟩
 · rcases List.mem_cons.mp hp with rfl | hp
   · refine ⟨e1,fun q => ?_,?_,e3⟩
     · dsimp only at q;rw [q,hL] at e2;cases e2
     · cases z:s₀.heap.get? I with
       | none => rfl
       | some o =>
         have f0:fz.get? I = none:=none_sub S.le e2
         have:=S.keep _ _ z fun q => absurd q (S.inv.tab.not_mem f0)
         rw [e2] at this;cases this
   · exact S'.own p hp
 · rw [List.map_cons,List.nodup_cons]
   refine ⟨fun hm => ?_,S'.nd⟩
   obtain ⟨p,hp,e⟩:=List.mem_map.mp hm
   have:=(S.own p hp).1
   rw [e,e2] at this;cases this
theorem RunsIt.mono {t:Sem Value} {nd nu nd' nu':Nat} {P P':Heap → Prop} {Ok:Heap → Bool → Addr → Array Value → Prop} (x:RunsIt g t nd nu P Ok) (h1:nd ≤ nd') (h2:nu ≤ nu') (hP:∀ h,P' h → P h):RunsIt g t nd' nu' P' Ok :=
 fun A s fz Q E hh hd hu sub inv bare pre k => x A s fz Q E hh (by lia) (by lia) sub inv bare (hP _ pre) k
theorem m_iter {kk:Bool} {la:Addr} {items:Array Value} {Q:Value → Shared → Prop} (hM:M = model g.prog g.w) (S:St g s₀ fz₀ s.heap s.gens s.os fz L l mu) (hc:Col fz kk la items)
   (k:∀ s' I oI,St g s₀ fz₀ s'.heap s'.gens s'.os fz L l ((I,oI) :: mu) → ItAt s'.heap kk I la 0 → Q (.ref I) s'):wpAny M A (call (.builtin "iter") [.ref la]) Q E s:=by
 subst hM
 refine call_function_entry (by decide +kernel) (by decide +kernel) kdk_entry_iter (kdk_args_iter _) ?_
 unfold Builtin.«iter»
 refine wpAny_bind (m:=someArgs "iter" 1 2 _) (wpAny_of_eq (a:=[Value.ref la]) (by first | rfl | kernel_rfl!) ?_)
 show wpAny _ _ (pyIter (.ref la) >>= _) _ _ _
 exact wpAny_bind (it_make rfl S hc fun s' I oI S' hi => wpAny_pure ⟨_,rfl,k s' I oI S' hi⟩)
theorem it_next_of {kk:Bool} {I la:Addr} {h:Heap} {i:Nat} (x:ItAt h kk I la i) {s:Shared} (e:s.heap = h):s.TypeIs (.ref I) (itName kk):=by
 subst e
 cases kk
 · exact Heap.IsTupleIter.typeIs (x:s.heap.IsTupleIter I la i)
 · exact Heap.IsListIter.typeIs (x:s.heap.IsListIter I la i)
theorem iter_own {x C f:Addr} {kv:List (Str × Value)} {nd nu:Nat} {P:Heap → Prop} {Ok:Heap → Bool → Addr → Array Value → Prop} (hs:findIn g.K (.ref C) "__iter__" = some (some (.ref f))) (hf:isFn g.K (.ref f) = true) (hI:∀ h,P h → Inst h x C kv)
   (R:RunsIt g (call (.ref f) [.ref x]) nd nu P Ok):RunsIt g (pyIter (.ref x)) nd nu P Ok:=by
 intro A s fz Q E hh hd hu sub inv bare pre k
 obtain ⟨_,_,_,J,_⟩:=((hI _ pre).sub sub).at
 have F:Fr s.heap 0 s.heap (fun zz => none) ∨ True:=.inr trivial
 have X:g.K.In s.heap:=inv.kin.keeps sub
 have fin:wpAny (model g.prog g.w) A (call (.ref f) [.ref x] >>= fun v => pure (some v)) (fun r s' => ∃ v,r = some v ∧ OwitIt (model g.prog g.w) A Q E v s') E s:=by
   refine wpAny_bind (R A s fz _ E hh hd hu sub inv bare pre fun kk la items I oI s' fz' a e1 e2 e3 c it ok => wpAny_pure ⟨_,rfl,?_⟩)
   have q:=k kk la items I oI s' fz' a e1 e2 e3 c it ok
   have ht:=it_next_of it rfl
   unfold OwitIt
   cases kk
   · exact wpAny_specialOf (T := "tuple_iterator") ht PySem.F.slot_tuple_iterator_next.lookup q
   · exact wpAny_specialOf (T := "list_iterator") ht slot_listiter_next.lookup q
 have one:∀ refuse:Sem Value,wpAny (model g.prog g.w) A (callSpecialIfBoundUnlessNone? (.ref x) "__iter__" refuse) (fun r s' => ∃ v,r = some v ∧ OwitIt (model g.prog g.w) A Q E v s') E s:=by
   intro refuse
   simp only [callSpecialIfBoundUnlessNone?,bindSpecialIfBound?]
   refine wpAny_holding (wpAny_bind (wpAny_bind (wpAny_bind (J.type.here ((looks_findIn X hs).here ?_)))))
   refine wpAny_bind (wpAny_askSetting (wpAny_ite ?_))
   have fin2:wpAny (model g.prog g.w) A (if (Value.ref f == Value.none) = true then (refuse >>= fun v => pure (some v)) else (call (.ref f) [.ref x] >>= fun v => pure (some v))) (fun r s' => ∃ v,r = some v ∧ OwitIt (model g.prog g.w) A Q E v s') E s:=by
     rw [if_neg (show ¬ ((Value.ref f == Value.none) = true) from Bool.false_ne_true)]
     exact fin
   split
   · exact wpAny_bind ((bind_fn X _ (beq_iff_eq.mp hf)).here (wpAny_pure (by exact fin2)))
   · exact wpAny_tryCatch (wpAny_bind ((bind_fn X _ (beq_iff_eq.mp hf)).here (wpAny_pure (by exact fin2))))
 unfold pyIter
 refine wpAny_bind (wpAny_bind (J.type.here ((looks_findIn X hs).here ?_)))
 show wpAny (model g.prog g.w) A (callSpecialIfBoundUnlessNone? (.ref x) "__iter__" _ >>= _) Q E s
 refine wpAny_bind (wpAny_mono (one _) (fun r s' hr => ?_) fun zz zz z => z)
 obtain ⟨v,rfl,hv⟩:=hr
 refine wpAny_bind (wpAny_mono hv (fun r s₂ hr => ?_) fun zz zz z => z)
 cases r with
 | none => exact hr.elim
 | some g => exact wpAny_pure hr
theorem extend_loopI {R:Result → Shared → Prop} {kk:Bool} {la I:Addr} {items:Array Value} (hh:A.handled = none) (hn:items.size ≤ sizeLine) (B:Addr) (res:Value):∀ (k i:Nat) (s:Shared) (oI:Obj) (acc:Array Value) (c:Nat),items.size - i = k → i ≤ items.size →
   St g s₀ fz₀ s.heap s.gens s.os fz L l ((I,oI) :: (B,accObj acc c) :: mu) → Col fz kk la items → ItAt s.heap kk I la i → acc = items.extract 0 i →
   (∀ s' c',St g s₀ fz₀ s'.heap s'.gens s'.os fz L l ((B,accObj items c') :: mu) → R (.ok (.ret res)) s') → codeAny (model g.prog g.w) A (.builtin "list.extend.loop" ⟨[.ref B,.ref I,res],[]⟩) R s:=by
 intro k
 induction k with
 | zero =>
   intro i s oI acc c hk hi S hc it hacc hR
   have hin:i = items.size:=by lia
   subst hin
   refine codeAny_builtin PySem.F.entry_extend_loop ?_
   rw [Around.under_plainId PySem.F.plain_extend_loop _]
   show wpAny _ A.in1 (pyNext (.ref I) >>= _) _ _ s
   refine wpAny_bind (it_done rfl (by exact hh) S hc it fun h' S' => ?_)
   rw [Array.extract_size] at hacc
   subst hacc
   exact wpAny_pure (hR { s with heap:=h' } c S')
 | succ k ih =>
   intro i s oI acc c hk hi S hc it hacc hR
   have hlt:i < items.size:=by lia
   have hv:items[i]? = some items[i]:=Array.getElem?_eq_getElem hlt
   refine codeAny_builtin PySem.F.entry_extend_loop ?_
   rw [Around.under_plainId PySem.F.plain_extend_loop _]
   show wpAny _ A.in1 (pyNext (.ref I) >>= _) _ _ s
   refine wpAny_bind (it_item rfl S hc it hv fun h' oI' S' it' => ?_)
   have hz:acc.size = i:=by rw [hacc,Array.size_extract];lia
   show wpAny _ A.in1 (updateSeq B (·.push items[i]) >>= _) _ _ _
   refine wpAny_bind ?_
   have hB:h'.get? B = some (accObj acc c):=(S'.own _ (.tail _ (.head _))).1
   have S2:=S'.set 1 (a:=B) (o:=accObj acc c) (Obj.mapSeq (·.push items[i])) rfl rfl
   have hI:B ≠ I:=by
     have:=(List.nodup_cons.mp S'.nd).1
     exact fun e => this (by rw [List.map_cons,← e];exact .head _)
   refine wpAny_updateSeq hB rfl (wpAny_pure ⟨plainId_quiet PySem.F.plain_extend_loop _,ih (i + 1) _ oI' (acc.push items[i]) _ (by lia) (by lia) S2 hc (it'.at fun o e => (Heap.get?_update_other _ _ hI).trans e) (by rw [hacc];simp [hlt]) hR⟩) (by lia) (by show (acc.push items[i]).size ≤ sizeLine + 1;rw [Array.size_push];lia)
theorem collect_own {x C:Addr} {kv:List (Str × Value)} {nd nu:Nat} {P:Heap → Prop} {Ok:Heap → Bool → Addr → Array Value → Prop} {Q:List Value → Shared → Prop} (hI:∀ h,P h → Inst h x C kv) (R:RunsIt g (pyIter (.ref x)) nd nu P Ok)
   (hl:findIn g.K (.ref C) "__len__" = some none) (hlh:findIn g.K (.ref C) "__length_hint__" = some none) (S:St g s₀ fz₀ s.heap s.gens s.os fz L l mu) (pre:P fz) (hP:∀ h h',Grows g.tabs h h' → P h → P h') (hOk:∀ h kk la items,Ok h kk la items → items.size ≤ sizeLine)
   (hh:A.handled = none) (hd:A.depth + nd < recursionLimit) (hu:A.units + 6 + nu < cLine)
   (h:∀ s' fz' kk la items,Grows g.tabs fz fz' → St g s₀ fz₀ s'.heap s'.gens s'.os fz' L l mu → Ok fz' kk la items → Q items.toList s'):wpAny (model g.prog g.w) A (collect (.ref x)) Q E s:=by
 unfold collect
 refine wpAny_bind (wpAny_runValue (codeAny_builtin F.entry_proto_collect ?_))
 rw [Around.under_plainId F.plain_proto_collect _]
 show wpAny _ A.in1 (newList [] >>= fun l => again (.builtin "list.__iadd__" ⟨[l,.ref x],[]⟩)) _ _ s
 refine wpAny_bind (wpAny_newObj_type ?_)
 refine wpAny_pure ⟨plainId_quiet F.plain_list_iadd _,codeAny_builtin F.entry_list_iadd ?_⟩
 rw [Around.under_plainId F.plain_list_iadd _]
 obtain ⟨_,_,_,J0,_⟩:=((hI _ pre).sub S.le).at
 have hSI:s.heap.objs.size ≠ x:=fun e => Nat.lt_irrefl _ (e ▸ Heap.lt_size J0.at_)
 have S₁:=S.push (accObj #[] 0) rfl
 have J:∀ {h':Heap} {gn os fz' l mu'},St g s₀ fz₀ h' gn os fz' L l mu' → Grows g.tabs fz fz' → ∃ ox od,InstAt h' x ox C od ∧ ox.cls = .ref C:=fun S' gr => by
   obtain ⟨_,_,_,J,_⟩:=((hI _ (hP _ _ gr pre)).sub S'.le).at
   exact ⟨_,_,J,rfl⟩
 show wpAny _ A.in1 (Builtin.List.listExtendWith (.ref s.heap.objs.size) (.ref x) (.ref s.heap.objs.size)) _ _ _
 unfold Builtin.List.listExtendWith
 obtain ⟨_,_,J1,_⟩:=J S₁ (Grows.refl _ _)
 refine wpAny_bind (J1.type.here ?_)
 have h1:Builtin.List.listSameRef (.ref s.heap.objs.size) (.ref x) = false:=by simp [Builtin.List.listSameRef,hSI]
 have h2:(Value.ref C == Value.type "list") = false:=by rfl
 have h3:(Value.ref C == Value.type "tuple") = false:=by rfl
 refine it_f (by rw [h1,h2,h3];exact Bool.false_ne_true) ?_
 refine wpAny_bind (S₁.runIt rfl R (by exact hh) (by exact hd) (by rw [Around.in1_units];show A.units + 1 + nu < _;lia) pre fun kk la items I oI s' fz' gr S₂ c it ok => ?_)
 refine wpAny_bind (wpAny_holding ?_)
 obtain ⟨_,_,J2,_⟩:=J S₂ gr
 unfold Builtin.List.listLengthHint
 have X:g.K.In s'.heap:=S₂.inv.kin.keeps S₂.le
 show wpAny _ A.in1 (specialOf (Value.ref x) (Str.ofString "__len__") >>= _) _ _ _
 refine wpAny_bind ?_
 refine wpAny_bind (J2.type.here ((looks_findIn X hl).here ?_))
 show wpAny _ A.in1 (specialOf (Value.ref x) (Str.ofString "__length_hint__") >>= _) _ _ _
 refine wpAny_bind ?_
 refine wpAny_bind (J2.type.here ((looks_findIn X hlh).here ?_))
 refine wpAny_pure ?_
 show wpAny _ A.in1 (rule "list.extend.makes-room" >>= fun zz => Builtin.List.listTouch (.ref s.heap.objs.size) >>= fun zz =>
   again (.builtin "list.extend.loop" ⟨[.ref s.heap.objs.size,.ref I,.ref s.heap.objs.size],[]⟩)) _ _ _
 refine wpAny_bind (wpAny_rule ?_)
 refine wpAny_bind ?_
 show wpAny _ A.in1 (updateSeq s.heap.objs.size (·.push .none) >>= fun zz => updateSeq s.heap.objs.size (·.pop)) _ _ _
 have hI':s.heap.objs.size ≠ I:=by
   have:=(List.nodup_cons.mp S₂.nd).1
   exact fun e => this (by rw [List.map_cons,← e];exact .head _)
 have e2:=(S₂.own _ (.tail _ (.head _))).1
 have S₃:=S₂.set 1 (a:=s.heap.objs.size) (Obj.mapSeq (·.push Value.none)) rfl rfl
 have e3:=(S₃.own _ (.tail _ (.head _))).1
 have S₄:=S₃.set 1 (a:=s.heap.objs.size) (Obj.mapSeq (·.pop)) rfl rfl
 have hn:=hOk _ _ _ _ ok
 refine wpAny_bind (wpAny_updateSeq e2 rfl ?_)
 refine wpAny_updateSeq e3 rfl ?_
 refine wpAny_pure ⟨plainId_quiet F.plain_extend_loop _,extend_loopI (kk:=kk) (items:=items) (by exact hh) hn _ _ items.size 0 _ oI _ _ rfl (Nat.zero_le _) S₄ c (it.at fun o e => (Heap.get?_update_other _ _ hI').trans ((Heap.get?_update_other _ _ hI').trans e)) (by simp [Obj.mapSeq]) fun s'' c' S₅ => ?_⟩
 show wpAny _ A (load s.heap.objs.size >>= _) _ _ s''
 refine wpAny_bind (wpAny_load (S₅.own _ (.head _)).1 ?_)
 exact wpAny_pure (h s'' fz' kk la items gr S₅.drop1 ok)
theorem tuple_own {x C:Addr} {kv:List (Str × Value)} {nd nu:Nat} {P:Heap → Prop} {Ok:Heap → Bool → Addr → Array Value → Prop} {Q:Value → Shared → Prop} (hM:M = model g.prog g.w) (hI:∀ h,P h → Inst h x C kv) (R:RunsIt g (pyIter (.ref x)) nd nu P Ok)
   (hl:findIn g.K (.ref C) "__len__" = some none) (hlh:findIn g.K (.ref C) "__length_hint__" = some none) (S:St g s₀ fz₀ s.heap s.gens s.os fz L l mu) (pre:P fz) (hP:∀ h h',Grows g.tabs h h' → P h → P h') (hOk:∀ h kk la items,Ok h kk la items → items.size ≤ sizeLine)
   (hOm:∀ h h' kk la items,Grows g.tabs h h' → Ok h kk la items → Ok h' kk la items)
   (hh:A.handled = none) (hd:A.depth + nd < recursionLimit) (hu:A.units + 12 + nu < cLine)
   (h:∀ s' fz' t kk la items,Grows g.tabs fz fz' → St g s₀ fz₀ s'.heap s'.gens s'.os fz' L l mu → IsTup fz' t items → Ok fz' kk la items → Q (.ref t) s'):wpAny M A (call (.type "tuple") [.ref x]) Q E s:=by
 subst hM
 refine callType_codes (Q₁:=fun obj s₁ => s₁.TypeIs obj "tuple" ∧ Q obj s₁) F.called_tuple (F.typeCall_tuple_1 _) F.entry_object_init ?_ fun obj s₁ h₁ => ?_
 · refine codeAny_of_tree ?_
   show wpAny _ _ (do checkBuiltinCall "tuple.__new__" ⟨[.type "tuple", .ref x],[]⟩;again (.builtin "tuple.__new__" ⟨[.type "tuple", .ref x],[]⟩)) _ _ s
   refine wpAny_bind (wpAny_of_eq (F.newCall_tuple_1 _) (wpAny_pure ⟨plainId_quiet F.plain_tuple_new _,codeAny_builtin F.entry_tuple_new ?_⟩))
   rw [Around.under_plainId F.plain_tuple_new _]
   have hsub:=sub_tuple_self
   have hinit:=init_tuple_lookup
   have hmh:=madeHere_tuple
   obtain ⟨_,_,_,J,_⟩:=((hI _ pre).sub S.le).at
   have hT:∀ {B:Around} {Q':Value → Shared → Prop} {E':Value → Shared → Prop},Q' (.ref C) s → wpAny (model g.prog g.w) B (typeOf (.ref x)) Q' E' s:=fun h => J.type.here h
   have hC:∀ {Q':List Value → Shared → Prop} {E':Value → Shared → Prop},(∀ s' fz' kk la items,Grows g.tabs fz fz' → St g s₀ fz₀ s'.heap s'.gens s'.os fz' L l mu → Ok fz' kk la items → Q' items.toList s') → wpAny (model g.prog g.w) A.in1.in1 (collect (.ref x)) Q' E' s:=fun h =>
     collect_own hI R hl hlh S pre hP hOk (by exact hh) (by show A.depth + nd < _;exact hd) (by simp only [units_in1];lia) h
   wp_walk using hT,hC
   intro s' fz' kk la items gr S' ok
   show wpAny _ _ (Builtin.Tuple.tupleExact items.toList.toArray >>= fun v => ret v) _ _ _
   unfold Builtin.Tuple.tupleExact
   obtain ⟨fz'',gr',_,ht,S''⟩:=S'.allocF { cls:=.type "tuple", data:=.seq items } rfl
   have e:items.toList.toArray = items:=by simp
   rw [e]
   refine wpAny_bind (wpAny_newObj_type ?_ (by show items.size ≤ sizeLine;exact hOk _ _ _ _ ok))
   refine wpAny_pure ⟨⟨_,Heap.get?_push_size _ rfl,rfl⟩,?_⟩
   exact h _ fz'' _ kk la items (gr.trans gr') S'' ⟨_,ht,rfl,_,rfl⟩ (hOm _ _ _ _ _ gr' ok)
 · exact ⟨h₁.1,F.args_object_init_2 obj _,object_init_meets F.called_tuple.init.lookup F.called_tuple.made (by decide) _ _ _ _ s₁ ⟨h₁.1,rfl,h₁.2⟩⟩
end
noncomputable def IterR (g:G) (tg:PySem.Expr) (I:Addr) (P:Nat → Value → Heap → Prop):Nat → Nat → List (Addr × Obj) → Heap → Prop
 | 0, _, own, fz0 => ∀ (A : Around) (s s₀ : Shared) (fz₀ fz : Heap) (L : Addr) (l : List (Str × Value)) (mu : List (Addr × Obj)) (R : Option Value → Shared → Prop) (E : Value → Shared → Prop), A.handled = none → Grows g.tabs fz0 fz →
     St g s₀ fz₀ s.heap s.gens s.os fz L l (own ++ mu) → (∀ s',St g s₀ fz₀ s'.heap s'.gens s'.os fz L l mu → R none s') → wpAny (model g.prog g.w) A (pyNext (.ref I)) R E s
 | k + 1,i,own,fz0 => ∀ (A:Around) (s s₀:Shared) (fz₀ fz:Heap) (L:Addr) (l:List (Str × Value)) (mu:List (Addr × Obj)) (T:Value → Shared → Prop) (E:Value → Shared → Prop),A.handled = none → Grows g.tabs fz0 fz →
     St g s₀ fz₀ s.heap s.gens s.os fz L l (own ++ mu) →
     (∀ v s' fz' own',Grows g.tabs fz fz' → St g s₀ fz₀ s'.heap s'.gens s'.os fz' L l (own' ++ mu) → P i v fz' → IterR g tg I P k (i + 1) own' fz' → T v s') →
     wpAny (model g.prog g.w) A (pyNext (.ref I)) (fun r s' => ∃ v,r = some v ∧ wpAny (model g.prog g.w) A (letOwnedTupleGo tg (.ref I) v) (fun zz s'' => T v s'') E s') E s
theorem IterR.grows {g:G} {tg:PySem.Expr} {I:Addr} {P:Nat → Value → Heap → Prop} {k i:Nat} {own:List (Addr × Obj)} {fz fz':Heap} (x:IterR g tg I P k i own fz) (gr:Grows g.tabs fz fz'):IterR g tg I P k i own fz':=by
 cases k with
 | zero => exact fun A s s₀ fz₀ f L l mu R E hh g' S k => x A s s₀ fz₀ f L l mu R E hh (gr.trans g') S k
 | succ k => exact fun A s s₀ fz₀ f L l mu R E hh g' S k => x A s s₀ fz₀ f L l mu R E hh (gr.trans g') S k
section
variable {g:G} {s₀:Shared} {fz₀ h h' fz:Heap} {gn:Array GenState} {os:OsState} {L:Addr} {l:List (Str × Value)} {mu own own':List (Addr × Obj)}
theorem St.turnOwn (S:St g s₀ fz₀ h gn os fz L l (own ++ mu)) (hm:own'.map (·.1) = own.map (·.1)) (k:∀ b o,b ∉ own.map (·.1) → h.get? b = some o → h'.get? b = some o) (e:∀ p ∈ own',h'.get? p.1 = some p.2) :
   St g s₀ fz₀ h' gn os fz L l (own' ++ mu):=by
 have nd:=S.nd
 rw [List.map_append,List.nodup_append] at nd
 have inOwn:∀ b ∈ own.map (·.1),b ≠ L ∧ s₀.heap.get? b = none ∧ fz.get? b = none:=fun b hb => by
   obtain ⟨p,hp,rfl⟩:=List.mem_map.mp hb
   exact (S.own p (List.mem_append.mpr (.inl hp))).2
 refine ⟨S.ns.at' fun o q => k _ o (fun hL => (inOwn _ hL).1 rfl) q,fun b o q r => k b o (fun hb => ?_) (S.keep b o q r),fun b o q => k b o (fun hb => ?_) (S.le b o q),S.gr,S.hid,S.bL,S.fL,fun p hp => ?_,?_,S.inv,S.bare,S.os_,S.gsz⟩
 · rw [(inOwn _ hb).2.1] at q;cases q
 · rw [(inOwn _ hb).2.2] at q;cases q
 · rcases List.mem_append.mp hp with hp | hp
   · exact ⟨e p hp,inOwn _ (hm ▸ List.mem_map_of_mem hp)⟩
   · have z:=S.own p (List.mem_append.mpr (.inr hp))
     exact ⟨k _ _ (fun hb => nd.2.2 _ hb _ (List.mem_map_of_mem hp) rfl) z.1,z.2⟩
 · rw [List.map_append,hm,← List.map_append];exact S.nd
theorem St.addNew {a:Addr} {o:Obj} {h0:Heap} {mu0:List (Addr × Obj)} (S:St g s₀ fz₀ h gn os fz L l mu) (S0:St g s₀ fz₀ h0 gn os fz L l mu0) (hm:mu.map (·.1) = mu0.map (·.1)) (hs:h0.objs.size ≤ a) (e:h.get? a = some o) :
   St g s₀ fz₀ h gn os fz L l ((a,o) :: mu):=by
 have no:∀ {b o'},h0.get? b = some o' → b ≠ a:=fun {b o'} e' q => absurd (Heap.lt_size e') (Nat.not_lt.mpr (q ▸ hs))
 have f0:fz.get? a = none:=by
   cases q:fz.get? a with
   | none => rfl
   | some o' => exact absurd rfl (no (S0.le _ _ q))
 refine ⟨S.ns,S.keep,S.le,S.gr,S.hid,S.bL,S.fL,fun p hp => ?_,?_,S.inv,S.bare,S.os_,S.gsz⟩
 · rcases List.mem_cons.mp hp with rfl | hp
   · refine ⟨e,fun q => ?_,?_,f0⟩
     · obtain ⟨oL,_,_,hL,_⟩:=S0.ns
       exact no hL q.symm
     · cases q:s₀.heap.get? a with
       | none => rfl
       | some o' => exact absurd rfl (no (S0.keep _ _ q fun z => absurd z (S0.inv.tab.not_mem f0)))
   · exact S.own p hp
 · rw [List.map_cons,List.nodup_cons]
   refine ⟨fun z => ?_,S.nd⟩
   dsimp only at z
   rw [hm] at z
   obtain ⟨p,hp,q⟩:=List.mem_map.mp z
   exact no (S0.own p hp).1 q
end
section
variable {g:G} {tg:PySem.Expr} {I:Addr}
theorem iter_col {kk:Bool} {la:Addr} {items:Array Value} {fz:Heap} (hgo:∀ (A:Around) (v:Value) (s:Shared) (oI:Obj) (i:Nat) (T:Unit → Shared → Prop) (E:Value → Shared → Prop),s.heap.get? I = some oI → ItAt s.heap kk I la i → T () s → wpAny (model g.prog g.w) A (letOwnedTupleGo tg (.ref I) v) T E s) (hc:Col fz kk la items) :
   ∀ (k i:Nat) (oI:Obj),i + k = items.size → (∀ h,h.get? I = some oI → ItAt h kk I la i) → IterR g tg I (fun i v zz => items[i]? = some v) k i [(I,oI)] fz
 | 0, i, oI, hk, ho => fun A s s₀ fz₀ f L l mu R E hh gr S k => by
   have hi:=ho s.heap (S.own _ (.head _)).1
   rw [show i = items.size by lia] at hi
   exact it_done rfl hh S (hc.grows gr) hi fun h' S' => k { s with heap:=h' } S'
 | k + 1, i, oI, hk, ho => fun A s s₀ fz₀ f L l mu T E hh gr S kt => by
   have hi:=ho s.heap (S.own _ (.head _)).1
   have hlt:i < items.size:=by lia
   have hv:items[i]? = some items[i]:=Array.getElem?_eq_getElem hlt
   refine it_item rfl S (hc.grows gr) hi hv fun h' oI' S' hi' => ⟨_,rfl,?_⟩
   have e':=(S'.own _ (.head _)).1
   refine hgo A _ { s with heap:=h' } oI' (i + 1) _ _ e' hi' ?_
   exact kt _ { s with heap:=h' } f [(I,oI')] (Grows.refl _ _) S' hv ((iter_col hgo hc k (i + 1) oI' (by lia) fun h e => hi'.at fun o q => by rw [e'] at q;cases q;exact e).grows gr)
noncomputable def FpIn (fp:List Addr) (h0:Heap) (own:List (Addr × Obj)) (fz:Heap):Prop:=∀ b ∈ fp,∀ o,h0.get? b = some o → (b,o) ∈ own ∨ (fz.get? b = some o ∧ o.cls ≠ .none)
theorem FpIn.here {fp:List Addr} {h0 fz f h:Heap} {own mu:List (Addr × Obj)} {s₀:Shared} {fz₀:Heap} {gn os L l} (x:FpIn fp h0 own fz) (gr:Grows g.tabs fz f) (S:St g s₀ fz₀ h gn os f L l (own ++ mu)):∀ b ∈ fp,∀ o,h0.get? b = some o → h.get? b = some o:=fun b hb o e => by
 rcases x b hb o e with q | ⟨q,n⟩
 · exact (S.own _ (List.mem_append.mpr (.inl q))).1
 · exact S.le _ _ (gr _ _ q fun zz => n)
theorem own_of {h:Heap}:∀ (wr:List Addr),(∀ b ∈ wr,∃ o,h.get? b = some o) → ∃ own:List (Addr × Obj),own.map (·.1) = wr ∧ ∀ p ∈ own,h.get? p.1 = some p.2
 | [],_ => ⟨[],rfl,fun zz hp => nomatch hp⟩
 | b :: wr, hx => by
   obtain ⟨o,e⟩:=hx b (.head _)
   obtain ⟨own,h1,h2⟩:=own_of wr fun c hc => hx c (.tail _ hc)
   refine ⟨(b,o) :: own,by rw [List.map_cons,h1],fun p hp => ?_⟩
   rcases List.mem_cons.mp hp with rfl | hp
   · exact e
   · exact h2 p hp
theorem own_mem {h:Heap} {own:List (Addr × Obj)} (h2:∀ p ∈ own,h.get? p.1 = some p.2) {b:Addr} {o:Obj} (hb:b ∈ own.map (·.1)) (e:h.get? b = some o):(b,o) ∈ own:=by
 obtain ⟨p,hp,rfl⟩:=List.mem_map.mp hb
 have:=h2 p hp
 rw [e] at this
 have q:p = (p.1,o):=by cases p;dsimp only at this ⊢;rw [Option.some.inj this]
 rw [← q];exact hp
theorem iter_walks {fp wr:List Addr} {n:Nat} {P:Nat → Value → Prop} {St':Nat → Heap → Prop} (W:∀ A:Around,A.handled = none → Walks g.prog g.w A I fp wr n P St') (hgo:∀ v,letOwnedTupleGo tg (.ref I) v = pure ())
   (hex:∀ i h,St' i h → ∀ b ∈ fp,∃ o,h.get? b = some o):∀ (k i:Nat) (own:List (Addr × Obj)) (h0 fz:Heap),i + k = n → own.map (·.1) = wr → St' i h0 → FpIn fp h0 own fz → IterR g tg I (fun i v zz => P i v) k i own fz
 | 0, i, own, h0, fz, hk, hm, st, hf => fun A s s₀ fz₀ f L l mu R E hh gr S kt => by
   have WA:=W A hh
   have st':=WA.frame i h0 s.heap st (hf.here gr S)
   rw [show i = n by lia] at st'
   refine WA.done s _ E st' fun h' tk kp => kt { s with heap:=h',toks:=tk } ?_
   have nd:=S.nd
   rw [List.map_append,List.nodup_append,hm] at nd
   have inOwn:∀ b ∈ wr,b ≠ L ∧ s₀.heap.get? b = none ∧ f.get? b = none:=fun b hb => by
     rw [← hm] at hb
     obtain ⟨p,hp,rfl⟩:=List.mem_map.mp hb
     exact (S.own p (List.mem_append.mpr (.inl hp))).2
   refine ⟨S.ns.at' fun o q => kp _ o (fun hL => (inOwn _ hL).1 rfl) q,fun b o q r => kp b o (fun hb => ?_) (S.keep b o q r),fun b o q => kp b o (fun hb => ?_) (S.le b o q),S.gr,S.hid,S.bL,S.fL,fun p hp => ?_,nd.2.1,S.inv,S.bare,S.os_,S.gsz⟩
   · rw [(inOwn _ hb).2.1] at q;cases q
   · rw [(inOwn _ hb).2.2] at q;cases q
   · have z:=S.own p (List.mem_append.mpr (.inr hp))
     exact ⟨kp _ _ (fun hb => nd.2.2 _ hb _ (List.mem_map_of_mem hp) rfl) z.1,z.2⟩
 | k + 1, i, own, h0, fz, hk, hm, st, hf => fun A s s₀ fz₀ f L l mu T E hh gr S kt => by
   have WA:=W A hh
   have hr:=hf.here gr S
   have st':=WA.frame i h0 s.heap st hr
   refine WA.item i s _ E (by lia) st' fun v h' tk hP st2 kp => ⟨v,rfl,?_⟩
   rw [hgo]
   refine wpAny_pure ?_
   obtain ⟨own',o1,o2⟩:=own_of wr fun b hb => hex _ _ st2 b (WA.sub b hb)
   have S':St g s₀ fz₀ h' s.gens s.os f L l (own' ++ mu):=S.turnOwn (by rw [o1,hm]) (fun b o hb e => kp b o (by rw [← hm];exact hb) e) o2
   refine kt v { s with heap:=h',toks:=tk } f own' (Grows.refl _ _) S' hP (iter_walks W hgo hex k (i + 1) own' h' f (by lia) o1 st2 fun b hb o e => ?_)
   by_cases hw:b ∈ wr
   · exact .inl (own_mem o2 (by rw [o1];exact hw) e)
   · obtain ⟨o0,e0⟩:=hex _ _ st b hb
     have e1:=kp b o0 hw (hr b hb o0 e0)
     rw [e] at e1
     cases e1
     rcases hf b hb o e0 with q | ⟨q,c⟩
     · exact absurd (hm ▸ List.mem_map_of_mem q:b ∈ wr) hw
     · exact .inr ⟨gr _ _ q fun zz => c,c⟩
theorem iter_walksT {elts:List PySem.Expr} {x1:Nat} {ps:Pos} {fp wr:List Addr} {n:Nat} {Pt:Nat → Array Value → Prop} {St':Nat → Heap → Prop} {Mid:Nat → Addr → Heap → Prop} (W:∀ A:Around,A.handled = none → WalksT g.prog g.w A I fp wr n Pt St' Mid)
   (hex:∀ i h,St' i h → ∀ b ∈ fp,∃ o,h.get? b = some o):∀ (k i:Nat) (own:List (Addr × Obj)) (h0 fz:Heap),i + k = n → own.map (·.1) = wr → St' i h0 → FpIn fp h0 own fz →
     IterR g (.Tuple elts x1 ps) I (fun i v h => ∃ T vals,v = .ref T ∧ IsTup h T vals ∧ Pt i vals) k i own fz:=by
 intro k
 induction k with
 | zero =>
   intro i own h0 fz hk hm st hf A s s₀ fz₀ f L l mu R E hh gr S kt
   have WA:=W A hh
   have st':=WA.frame i h0 s.heap st (hf.here gr S)
   rw [show i = n by lia] at st'
   refine WA.done s _ E st' fun h' tk kp => kt { s with heap:=h',toks:=tk } ?_
   have nd:=S.nd
   rw [List.map_append,List.nodup_append,hm] at nd
   have inOwn:∀ b ∈ wr,b ≠ L ∧ s₀.heap.get? b = none ∧ f.get? b = none:=fun b hb => by
     rw [← hm] at hb
     obtain ⟨p,hp,rfl⟩:=List.mem_map.mp hb
     exact (S.own p (List.mem_append.mpr (.inl hp))).2
   refine ⟨S.ns.at' fun o q => kp _ o (fun hL => (inOwn _ hL).1 rfl) q,fun b o q r => kp b o (fun hb => ?_) (S.keep b o q r),fun b o q => kp b o (fun hb => ?_) (S.le b o q),S.gr,S.hid,S.bL,S.fL,fun p hp => ?_,nd.2.1,S.inv,S.bare,S.os_,S.gsz⟩
   · rw [(inOwn _ hb).2.1] at q;cases q
   · rw [(inOwn _ hb).2.2] at q;cases q
   · have z:=S.own p (List.mem_append.mpr (.inr hp))
     exact ⟨kp _ _ (fun hb => nd.2.2 _ hb _ (List.mem_map_of_mem hp) rfl) z.1,z.2⟩
 | succ k ih =>
   intro i own h0 fz hk hm st hf A s s₀ fz₀ f L l mu T E hh gr S kt
   have WA:=W A hh
   have hr:=hf.here gr S
   have st':=WA.frame i h0 s.heap st hr
   refine WA.item i s _ E (by lia) st' fun Ta vals h1 tk hP hz hT mid kp1 => ⟨.ref Ta,rfl,?_⟩
   refine WA.go elts x1 ps i Ta { s with heap:=h1,toks:=tk } _ E mid fun h' st2 kp2 => ?_
   have kp:∀ b o,b ∉ wr → s.heap.get? b = some o → h'.get? b = some o:=fun b o hb e => kp2 b o hb (kp1 b o hb e)
   obtain ⟨own',o1,o2⟩:=own_of wr fun b hb => hex _ _ st2 b (WA.sub b hb)
   have S':St g s₀ fz₀ h' s.gens s.os f L l (own' ++ mu):=S.turnOwn (by rw [o1,hm]) (fun b o hb e => kp b o (by rw [← hm];exact hb) e) o2
   obtain ⟨oT,eT,cT,nT,dT⟩:=hT
   have eT':=kp2 Ta oT (WA.apart _ _ _ mid) eT
   have S2:=S'.addNew S (by rw [List.map_append,List.map_append,o1,hm]) hz eT'
   obtain ⟨f',gr',_,fT,S3⟩:=S2.freeze 0 rfl
   have S3:St g s₀ fz₀ h' s.gens s.os f' L l (own' ++ mu):=by simpa using S3
   refine kt (.ref Ta) { s with heap:=h',toks:=tk } f' own' gr' S3 ⟨Ta,vals,rfl,⟨_,fT,cT,nT,dT⟩,hP⟩ ((ih (i + 1) own' h' f (by lia) o1 st2 fun b hb o e => ?_).grows gr')
   by_cases hw:b ∈ wr
   · exact .inl (own_mem o2 (by rw [o1];exact hw) e)
   · obtain ⟨o0,e0⟩:=hex _ _ st b hb
     have e1:=kp b o0 hw (hr b hb o0 e0)
     rw [e] at e1
     cases e1
     rcases hf b hb o e0 with q | ⟨q,c⟩
     · exact absurd (hm ▸ List.mem_map_of_mem q:b ∈ wr) hw
     · exact .inr ⟨gr _ _ q fun zz => c,c⟩
end
section
variable {g:G} {s₀ s:Shared} {fz₀ fz:Heap} {L:Addr} {l:List (Str × Value)} {mu:List (Addr × Obj)} {A:Around} {E:Value → Shared → Prop} {env:Env} {x:Str} {pos:Pos} {v:Value}
theorem nE_loc {M:Model} {Q:Value → Shared → Prop} (S:St g s₀ fz₀ s.heap s.gens s.os fz L l mu) (hL:env.locals = L) (hv:l.lookup x = some v) (h:Q v s)
   (hk:autoParam (env.scope.kind = .function) autR) (hx:autoParam (env.kindOf x = some .local) autR) (hd:autoParam ((x == ("__debug__" : Str)) = false) autD) :
   wpAny M A (eval (.Name x pos) env) Q E s:=by subst hL;exact wpAny_Name (wpAny_loadName_local hk hx S.ns hv h) hd
theorem nE_glob {M:Model} {Q:Value → Shared → Prop} (S:St g s₀ fz₀ s.heap s.gens s.os fz L l mu) (hg:env.globals = mainGlobals) (e:nsIn g.K mainGlobals x = some (some v)) (h:Q v s)
   (hk:autoParam (env.scope.kind = .function) autR) (hx:autoParam (env.kindOf x = some .globalImplicit) autR) (hd:autoParam ((x == ("__debug__" : Str)) = false) autD) :
   wpAny M A (eval (.Name x pos) env) Q E s :=
 Name_function_global hk hx (loadGlobal_global (env:=env) (by rw [hg];exact S.inv.top.g.keeps S.le) (mg_of S.inv.kin S.inv.top.g e) h) hd
theorem nE_bi {M:Model} {Q:Value → Shared → Prop} (S:St g s₀ fz₀ s.heap s.gens s.os fz L l mu) (hg:env.globals = mainGlobals) (hb:env.builtins = builtinsNs) (e:nsIn g.K mainGlobals x = some none) (hv:bootBuiltins x = some v) (hn:x ≠ "__name__") (h:Q v s)
   (hk:autoParam (env.scope.kind = .function) autR) (hx:autoParam (env.kindOf x = some .globalImplicit) autR) (hd:autoParam ((x == ("__debug__" : Str)) = false) autD) :
   wpAny M A (eval (.Name x pos) env) Q E s :=
 Name_function_global hk hx (loadGlobal_builtin (env:=env) (by rw [hg];exact S.inv.top.g.keeps S.le) (mg_none_of S.inv.kin S.inv.top.g e) (by rw [hb];exact S.inv.top.b.keeps S.le) ((S.inv.top.builtins x hn).trans hv) h) hd
theorem nE_cell {M:Model} {c:Addr} {Q:Value → Shared → Prop} (S:St g s₀ fz₀ s.heap s.gens s.os fz L l mu) (hc:env.cells.lookup x = some c) (hv:fz.IsCell c (some v)) (h:Q v s)
   (hk:autoParam (env.scope.kind = .function) autR) (hx:autoParam (env.kindOf x = some .cell) autR) (hb:autoParam ((x == ("__debug__" : Str)) = false) autD) :
   wpAny M A (eval (.Name x pos) env) Q E s:=wpAny_Name (wpAny_loadName_cell hk hx hc (by obtain ⟨o,e,r⟩:=hv;exact ⟨o,S.le _ _ e,r⟩) h) hb
theorem nE_free {M:Model} {c:Addr} {Q:Value → Shared → Prop} (S:St g s₀ fz₀ s.heap s.gens s.os fz L l mu) (hc:env.cells.lookup x = some c) (hv:fz.IsCell c (some v)) (h:Q v s)
   (hk:autoParam (env.scope.kind = .function) autR) (hx:autoParam (env.kindOf x = some .free) autR) (hb:autoParam ((x == ("__debug__" : Str)) = false) autD) (hn:autoParam ((x == ("__classdict__" : Str)) = false) autD) :
   wpAny M A (eval (.Name x pos) env) Q E s:=wpAny_Name (wpAny_loadName_free hk hx hc (by obtain ⟨o,e,r⟩:=hv;exact ⟨o,S.le _ _ e,r⟩) h hn) hb
theorem lookup_put {y:Str}:(fun z => if z = y then some v else List.lookup z l) = fun z => List.lookup z ((y,v) :: l):=funext fun z => by
 rw [List.lookup_cons]
 by_cases h:z = y
 · subst h;simp
 · rw [if_neg h,beq_false_of_ne h]
theorem stE_loc {M:Model} {Q:Unit → Shared → Prop} (S:St g s₀ fz₀ s.heap s.gens s.os fz L l mu) (hL:env.locals = L)
   (k:∀ s',St g s₀ fz₀ s'.heap s'.gens s'.os fz L ((x,v) :: l) mu → Q () s')
   (hk:autoParam (env.scope.kind = .function) autR) (hx:autoParam (env.kindOf x = some .local) autR):wpAny M A (storeName env x v) Q E s:=by
 subst hL
 exact wpAny_storeName_local hx S.ns (fun zz hn hs => k _ (S.same (lookup_put ▸ hn) hs)) (by rw [hk];rfl)
end
structure ForStep (g:G) (s₀:Shared) (fz₀:Heap) (A:Around) (L:Addr) (tg:PySem.Expr) (body:List Stmt) (env:Env) (k:Nat) (P:Nat → Value → Heap → Prop) (J:Nat → Heap → List (Str × Value) → List (Addr × Obj) → Prop) (Q:Flow → Shared → Prop):Prop where
 step:∀ i v (s:Shared) fz0 fz l own mu E',i < k → J i fz0 l mu → Grows g.tabs fz0 fz → P i v fz → St g s₀ fz₀ s.heap s.gens s.os fz L l (mu ++ own) →
   wpAny (model g.prog g.w) A (assign tg env v) (fun zz s₂ => wpAny (model g.prog g.w) A (execs body env) (fun f s₃ => match f with
     | .next | .cont => ∃ fz' l' mu',Grows g.tabs fz fz' ∧ St g s₀ fz₀ s₃.heap s₃.gens s₃.os fz' L l' (mu' ++ own) ∧ J (i + 1) fz' l' mu'
     | .brk => Q .next s₃
     | .ret v => Q (.ret v) s₃) E' s₂) E' s
inductive LoopP (g:G) (s₀:Shared) (fz₀:Heap) (A:Around) (L:Addr) (tg:PySem.Expr) (body:List Stmt) (env:Env) (Q:Flow → Shared → Prop) (it:Value) (s:Shared):Prop
 | mk (I:_) (k:_) (fz:_) (l:_) (own:_) (mu:_) (P:_) (J:_):(it = .ref I) → St g s₀ fz₀ s.heap s.gens s.os fz L l (own ++ mu) → IterR g tg I P k 0 own fz → J 0 fz l mu → ForStep g s₀ fz₀ A L tg body env k P J Q → (∀ (s:Shared) fz l mu,J k fz l mu → St g s₀ fz₀ s.heap s.gens s.os fz L l mu → Q .next s) → LoopP g s₀ fz₀ A L tg body env Q it s
section
variable {g:G} {s₀ s:Shared} {fz₀ fz:Heap} {L:Addr} {l:List (Str × Value)} {mu:List (Addr × Obj)} {A:Around} {E:Value → Shared → Prop} {M:Model} {env:Env}
inductive FInv (g:G) (s₀:Shared) (fz₀:Heap) (L:Addr) (tg:PySem.Expr) (I:Addr) (P:Nat → Value → Heap → Prop) (J:Nat → Heap → List (Str × Value) → List (Addr × Obj) → Prop) (k n:Nat) (s:Shared):Prop
 | mk (i:Nat) (fz:Heap) (l:List (Str × Value)) (own mu:List (Addr × Obj)):n = k - i → i ≤ k → St g s₀ fz₀ s.heap s.gens s.os fz L l (own ++ mu) → IterR g tg I P (k - i) i own fz → J i fz l mu → FInv g s₀ fz₀ L tg I P J k n s
theorem forE_loop {tg:PySem.Expr} {body:List Stmt} {I:Addr} {k:Nat} {P:Nat → Value → Heap → Prop} {J:Nat → Heap → List (Str × Value) → List (Addr × Obj) → Prop} {R:Result → Shared → Prop} (hh:A.handled = none)
   (step:∀ i v (s:Shared) fz0 fz l own mu E',i < k → J i fz0 l mu → Grows g.tabs fz0 fz → P i v fz → St g s₀ fz₀ s.heap s.gens s.os fz L l (mu ++ own) →
     wpAny (model g.prog g.w) A (assign tg env v) (fun zz s₂ => wpAny (model g.prog g.w) A (execs body env) (fun f s₃ => match f with
       | .next | .cont => ∃ fz' l' mu',Grows g.tabs fz fz' ∧ St g s₀ fz₀ s₃.heap s₃.gens s₃.os fz' L l' (mu' ++ own) ∧ J (i + 1) fz' l' mu'
       | .brk => R (.ok .next) s₃
       | .ret v => R (.ok (.ret v)) s₃) E' s₂) E' s)
   (fin:∀ (s:Shared) fz l mu,J k fz l mu → St g s₀ fz₀ s.heap s.gens s.os fz L l mu → R (.ok .next) s) {own:List (Addr × Obj)} (S:St g s₀ fz₀ s.heap s.gens s.os fz L l (own ++ mu)) (it0:IterR g tg I P k 0 own fz) (j0:J 0 fz l mu) :
   codeAny (model g.prog g.w) A (.forLoop tg (.ref I) body [] env) R s:=by
 refine codeAny_forLoop_any (fun n s => FInv g s₀ fz₀ L tg I P J k n s) (fun n s hI => ?_) k ⟨0,fz,l,own,mu,rfl,Nat.zero_le _,S,it0,j0⟩
 obtain ⟨i,fz,l,own,mu,rfl,hle,S,itr,hJ⟩:=hI
 rcases Nat.lt_or_eq_of_le hle with hlt | heq
 · obtain ⟨m,hm⟩ : ∃ m,k - i = m + 1:=⟨k - i - 1,by omega⟩
   rw [hm] at itr ⊢
   refine wpAny_mono (itr A s s₀ fz₀ fz L l mu (fun v s'' => wpAny (model g.prog g.w) A (assign tg env v) (fun zz s₂ => wpAny (model g.prog g.w) A (execs body env) (fun f s₃ => match f with
           | .next | .cont => ∃ m',m' < m + 1 ∧ FInv g s₀ fz₀ L tg I P J k m' s₃
           | .brk => R (.ok .next) s₃
           | .ret v => R (.ok (.ret v)) s₃) (notedBy (model g.prog g.w) A env fun e s' => R (.error e) s') s₂) (notedBy (model g.prog g.w) A env fun e s' => R (.error e) s') s'') _ hh (Grows.refl _ _) S fun v s' fz' own' gr S' hP itr' => ?_) (fun r s' hr => ?_) fun zz zz z => z
   · refine wpAny_mono (step i v s' fz fz' l own' mu _ hlt hJ gr hP (S'.perm (List.perm_append_comm ..))) (fun zz s₂ h₂ => wpAny_mono h₂ (fun f s₃ h₃ => ?_) fun zz zz z => z) fun zz zz z => z
     have hk:k - (i + 1) = m:=by omega
     have nx:(∃ fz'_1 l' mu',Grows g.tabs fz' fz'_1 ∧ St g s₀ fz₀ s₃.heap s₃.gens s₃.os fz'_1 L l' (mu' ++ own') ∧ J (i + 1) fz'_1 l' mu') →
         ∃ m',m' < m + 1 ∧ FInv g s₀ fz₀ L tg I P J k m' s₃:=fun q => by
       obtain ⟨f3,l',mu',gr3,S3,j3⟩:=q
       exact ⟨m,Nat.lt_succ_self _,i + 1,f3,l',own',mu',hk.symm,hlt,S3.perm (List.perm_append_comm ..),by rw [hk];exact itr'.grows gr3,j3⟩
     cases f with
     | next => exact nx h₃
     | cont => exact nx h₃
     | brk => exact h₃
     | ret v => exact h₃
   · obtain ⟨v,rfl,h⟩:=hr
     exact h
 · subst heq
   rw [Nat.sub_self] at itr
   refine itr A s s₀ fz₀ fz L l mu _ _ hh (Grows.refl _ _) S fun s' S' => ?_
   exact wpAny_execs_nil (fin s' fz l mu hJ S')
theorem forE_rule {tg iter:PySem.Expr} {body:List Stmt} {pos:Pos} {Q:Flow → Shared → Prop} (hM:M = model g.prog g.w) (_S:St g s₀ fz₀ s.heap s.gens s.os fz L l mu)
   (hh:A.handled = none) (hs:∀ x,foldedSetIterable iter env x = pure x)
   (h:wpAny M A (eval iter env) (fun xv s₁ => wpAny M A (pyIter xv) (fun it s₂ => LoopP g s₀ fz₀ A L tg body env Q it s₂) E s₁) E s):wpAny M A (exec (.For tg iter body [] pos) env) Q E s:=by
 subst hM
 refine wpAny_For (wpAny_mono h (fun xv s₁ h₁ => wpAny_mono h₁ (fun it s₂ h₂ => ?_) fun zz zz z => z) fun zz zz z => z) hs
 obtain ⟨I,k,fz,l,own,mu,P,J,rfl,S,it0,j0,hb,hf⟩:=h₂
 exact forE_loop hh (fun i v s fz0 fz l own mu E' h1 h2 h3 h4 h5 => hb.step i v s fz0 fz l own mu E' h1 h2 h3 h4 h5) (fun s fz l mu hJ S => hf s fz l mu hJ S) S it0 j0
end
theorem codeAny_compLoop_go {prog:Program} {w:World} {A:Around} {s:Shared} {R:Result → Shared → Prop} {elt target iter:PySem.Expr} {ifs:List PySem.Expr} {scope:Scope} {pos:Pos} {it acc:Value} {env:Env} (I:Nat → Shared → Prop)
   (turn:∀ n s,I n s → wpAny (model prog w) A (pyNext it) (fun r s₁ => match r with
     | none => R (.ok .next) s₁
     | some v => wpAny (model prog w) A (letOwnedTupleGo target it v) (fun zz s₁' => wpAny (model prog w) A (assign target env v) (fun zz s₂ =>
         wpAny (model prog w) A (forIn ifs true fun c r => if r = true then do let ok ← isTrue c env (eval c env);pure (ForInStep.yield ok) else pure (ForInStep.yield r)) (fun ok s₃ =>
           if ok = true then wpAny (model prog w) A (eval elt env) (fun x s₄ =>
             wpAny (model prog w) A (call (.builtin "list.append") [acc,x]) (fun zz s₅ => ∃ m,m < n ∧ I m s₅) (notedBy (model prog w) A env fun e s' => R (.error e) s') s₄) (notedBy (model prog w) A env fun e s' => R (.error e) s') s₃
           else ∃ m,m < n ∧ I m s₃) (notedBy (model prog w) A env fun e s' => R (.error e) s') s₂) (notedBy (model prog w) A env fun e s' => R (.error e) s') s₁') (notedBy (model prog w) A env fun e s' => R (.error e) s') s₁) (notedBy (model prog w) A env fun e s' => R (.error e) s') s)
   (n:Nat) (h:I n s) :
   codeAny (model prog w) A (.compLoop (.ListComp elt [⟨target,iter,ifs,0⟩] scope pos) 0 it acc env) R s:=by
 refine codeAny_loop rfl I (fun n s hI => ?_) n h
 show wpAny _ A ((compTurn (.ListComp elt [⟨target,iter,ifs,0⟩] scope pos) 0 it acc env).onRaise (fun x => do noteFrame x env;theTreesLotGoes x)) _ _ s
 refine wpAny_noted ?_
 rw [compTurn_list]
 refine wpAny_bind (wpAny_standAt (wpAny_bind (wpAny_mono (turn n s hI) (fun r s₁ h₁ => ?_) fun zz zz h' => h')))
 cases r with
 | none => exact wpAny_pure h₁
 | some v =>
   refine wpAny_bind (wpAny_mono h₁ (fun zz s₁' h₁' => ?_) fun zz zz h' => h')
   refine wpAny_bind (wpAny_mono h₁' (fun zz s₂ h₂ => wpAny_bind (wpAny_mono h₂ (fun ok s₃ h₃ => ?_) fun zz zz h' => h')) fun zz zz h' => h')
   cases ok with
   | false => exact wpAny_pure ⟨rfl,h₃⟩
   | true =>
     exact wpAny_bind (wpAny_bind (wpAny_mono h₃ (fun x s₄ h₄ => wpAny_bind (wpAny_mono h₄ (fun zz s₅ h₅ => wpAny_pure (wpAny_pure ⟨rfl,h₅⟩)) fun zz zz h' => h')) fun zz zz h' => h'))
inductive CNext (g:G) (s₀:Shared) (fz₀:Heap) (C:Addr) (mu:List (Addr × Obj)) (J:List Value → Heap → Prop) (fz:Heap) (acc:List Value) (s:Shared):Prop
 | mk (fz':_) (l':_):Grows g.tabs fz fz' → St g s₀ fz₀ s.heap s.gens s.os fz' C l' mu → J acc fz' → CNext g s₀ fz₀ C mu J fz acc s
structure CompStep (g:G) (s₀:Shared) (fz₀:Heap) (A:Around) (tg elt:PySem.Expr) (ifs:List PySem.Expr) (env:Env) (scope:Scope) (cl:List (Str × Addr)) (k:Nat) (P:Nat → Value → Heap → Prop) (J:Nat → List Value → Heap → Prop) (F:List (Addr × Obj)):Prop where
 step:∀ i v (s:Shared) fz0 fz C lC mu acc E',i < k → J i acc fz0 → Grows g.tabs fz0 fz → P i v fz → (∀ p ∈ F,p ∈ mu) → St g s₀ fz₀ s.heap s.gens s.os fz C lC mu →
   wpAny (model g.prog g.w) A (assign tg (compEnvC scope cl C env) v) (fun zz s₂ =>
     wpAny (model g.prog g.w) A (forIn ifs true fun c r => if r = true then do let ok ← isTrue c (compEnvC scope cl C env) (eval c (compEnvC scope cl C env));pure (ForInStep.yield ok) else pure (ForInStep.yield r)) (fun ok s₃ =>
       if ok = true then wpAny (model g.prog g.w) A (eval elt (compEnvC scope cl C env)) (fun y s₄ => CNext g s₀ fz₀ C mu (J (i + 1)) fz (acc ++ [y]) s₄) E' s₃ else CNext g s₀ fz₀ C mu (J (i + 1)) fz acc s₃) E' s₂) E' s
section
variable {g:G} {s₀:Shared} {fz₀:Heap} {A:Around} {tg elt c:PySem.Expr} {env:Env} {scope:Scope} {cl:List (Str × Addr)} {k:Nat} {P:Nat → Value → Heap → Prop} {J:Nat → List Value → Heap → Prop} {F:List (Addr × Obj)}
theorem CompStep.mk0 (h:∀ i v (s:Shared) fz0 fz C lC mu acc E',i < k → J i acc fz0 → Grows g.tabs fz0 fz → P i v fz → St g s₀ fz₀ s.heap s.gens s.os fz C lC mu →
   wpAny (model g.prog g.w) A (assign tg (compEnvC scope cl C env) v) (fun zz s₂ => wpAny (model g.prog g.w) A (eval elt (compEnvC scope cl C env)) (fun y s₄ => CNext g s₀ fz₀ C mu (J (i + 1)) fz (acc ++ [y]) s₄) E' s₂) E' s) :
   CompStep g s₀ fz₀ A tg elt [] env scope cl k P J F :=
 ⟨fun i v s fz0 fz C lC mu acc E' h1 h2 h3 h4 zz h5 => wpAny_mono (h i v s fz0 fz C lC mu acc E' h1 h2 h3 h4 h5) (fun zz s₂ h₂ => wpAny_of_eq (a:=true) rfl (by simpa using h₂)) fun zz zz z => z⟩
theorem CompStep.mk1 (h:∀ i v (s:Shared) fz0 fz C lC mu acc E',i < k → J i acc fz0 → Grows g.tabs fz0 fz → P i v fz → St g s₀ fz₀ s.heap s.gens s.os fz C lC mu →
   wpAny (model g.prog g.w) A (assign tg (compEnvC scope cl C env) v) (fun zz s₂ => wpAny (model g.prog g.w) A (isTrue c (compEnvC scope cl C env) (eval c (compEnvC scope cl C env))) (fun ok s₃ =>
     if ok = true then wpAny (model g.prog g.w) A (eval elt (compEnvC scope cl C env)) (fun y s₄ => CNext g s₀ fz₀ C mu (J (i + 1)) fz (acc ++ [y]) s₄) E' s₃ else CNext g s₀ fz₀ C mu (J (i + 1)) fz acc s₃) E' s₂) E' s) :
   CompStep g s₀ fz₀ A tg elt [c] env scope cl k P J F :=
 ⟨fun i v s fz0 fz C lC mu acc E' h1 h2 h3 h4 zz h5 => wpAny_mono (h i v s fz0 fz C lC mu acc E' h1 h2 h3 h4 h5) (fun zz s₂ h₂ => by
   rw [List.forIn_cons]
   simp only [if_true]
   exact wpAny_bind (wpAny_bind (wpAny_mono h₂ (fun ok s₃ h₃ => wpAny_pure (wpAny_pure h₃)) fun zz zz z => z))) fun zz zz z => z⟩
theorem CompStep.mk1F (h:∀ i v (s:Shared) fz0 fz C lC mu acc E',i < k → J i acc fz0 → Grows g.tabs fz0 fz → P i v fz → (∀ p ∈ F,p ∈ mu) → St g s₀ fz₀ s.heap s.gens s.os fz C lC mu →
   wpAny (model g.prog g.w) A (assign tg (compEnvC scope cl C env) v) (fun zz s₂ => wpAny (model g.prog g.w) A (isTrue c (compEnvC scope cl C env) (eval c (compEnvC scope cl C env))) (fun ok s₃ =>
     if ok = true then wpAny (model g.prog g.w) A (eval elt (compEnvC scope cl C env)) (fun y s₄ => CNext g s₀ fz₀ C mu (J (i + 1)) fz (acc ++ [y]) s₄) E' s₃ else CNext g s₀ fz₀ C mu (J (i + 1)) fz acc s₃) E' s₂) E' s) :
   CompStep g s₀ fz₀ A tg elt [c] env scope cl k P J F :=
 ⟨fun i v s fz0 fz C lC mu acc E' h1 h2 h3 h4 hF h5 => wpAny_mono (h i v s fz0 fz C lC mu acc E' h1 h2 h3 h4 hF h5) (fun zz s₂ h₂ => by
   rw [List.forIn_cons]
   simp only [if_true]
   exact wpAny_bind (wpAny_bind (wpAny_mono h₂ (fun ok s₃ h₃ => wpAny_pure (wpAny_pure h₃)) fun zz zz z => z))) fun zz zz z => z⟩
end
inductive CNextM (g:G) (s₀:Shared) (fz₀:Heap) (C:Addr) (MU:List (Addr × Obj) → Prop) (rest:List (Addr × Obj)) (J:List Value → Heap → Prop) (fz:Heap) (acc:List Value) (s:Shared):Prop
 | mk (fz':_) (l':_) (mus:_):Grows g.tabs fz fz' → MU mus → St g s₀ fz₀ s.heap s.gens s.os fz' C l' (mus ++ rest) → J acc fz' → CNextM g s₀ fz₀ C MU rest J fz acc s
structure CompStepM (g:G) (s₀:Shared) (fz₀:Heap) (A:Around) (tg elt:PySem.Expr) (ifs:List PySem.Expr) (cenv:Addr → Env) (k:Nat) (P:Nat → Value → Heap → Prop) (J:Nat → List Value → Heap → Prop) (MU:List (Addr × Obj) → Prop) (F:List (Addr × Obj)):Prop where
 step:∀ i v (s:Shared) fz0 fz C lC mus rest acc E',i < k → J i acc fz0 → Grows g.tabs fz0 fz → P i v fz → MU mus → (∀ p ∈ F,p ∈ rest) → St g s₀ fz₀ s.heap s.gens s.os fz C lC (mus ++ rest) →
   wpAny (model g.prog g.w) A (assign tg (cenv C) v) (fun zz s₂ => wpAny (model g.prog g.w) A (forIn ifs true fun c r => if r = true then do let ok ← isTrue c (cenv C) (eval c (cenv C));pure (ForInStep.yield ok) else pure (ForInStep.yield r)) (fun ok s₃ =>
     if ok = true then wpAny (model g.prog g.w) A (eval elt (cenv C)) (fun y s₄ => CNextM g s₀ fz₀ C MU rest (J (i + 1)) fz (acc ++ [y]) s₄) E' s₃ else CNextM g s₀ fz₀ C MU rest (J (i + 1)) fz acc s₃) E' s₂) E' s
theorem CompStepM.mk0 {g:G} {s₀:Shared} {fz₀:Heap} {A:Around} {tg elt:PySem.Expr} {cenv:Addr → Env} {k:Nat} {P:Nat → Value → Heap → Prop} {J:Nat → List Value → Heap → Prop} {MU:List (Addr × Obj) → Prop} {F:List (Addr × Obj)}
   (h:∀ i v (s:Shared) fz0 fz C lC mus rest acc E',i < k → J i acc fz0 → Grows g.tabs fz0 fz → P i v fz → MU mus → (∀ p ∈ F,p ∈ rest) → St g s₀ fz₀ s.heap s.gens s.os fz C lC (mus ++ rest) →
     wpAny (model g.prog g.w) A (assign tg (cenv C) v) (fun zz s₂ => wpAny (model g.prog g.w) A (eval elt (cenv C)) (fun y s₄ => CNextM g s₀ fz₀ C MU rest (J (i + 1)) fz (acc ++ [y]) s₄) E' s₂) E' s):CompStepM g s₀ fz₀ A tg elt [] cenv k P J MU F :=
 ⟨fun i v s fz0 fz C lC mus rest acc E' h1 h2 h3 h4 h5 h6 h7 => wpAny_mono (h i v s fz0 fz C lC mus rest acc E' h1 h2 h3 h4 h5 h6 h7) (fun zz s₂ h₂ => wpAny_of_eq (a:=true) rfl (by simpa using h₂)) fun zz zz z => z⟩
section
variable {g:G} {s₀ s:Shared} {fz₀ fz:Heap} {L:Addr} {l:List (Str × Value)} {mu own:List (Addr × Obj)} {A:Around} {E:Value → Shared → Prop} {M:Model} {env:Env} {tg elt iter:PySem.Expr} {ifs:List PySem.Expr} {scope:Scope} {cl:List (Str × Addr)} {I:Addr} {k:Nat} {P:Nat → Value → Heap → Prop} {J:Nat → List Value → Heap → Prop} {MU:List (Addr × Obj) → Prop}
inductive CAt (g:G) (s₀:Shared) (fz₀:Heap) (L C D:Addr) (l:List (Str × Value)) (mu:List (Addr × Obj)) (tg:PySem.Expr) (I:Addr) (P:Nat → Value → Heap → Prop) (k:Nat) (J:Nat → List Value → Heap → Prop) (MU:List (Addr × Obj) → Prop) (fz:Heap) (n:Nat) (s:Shared):Prop
 | mk (i:_) (f:_) (lC:_) (own:_) (oL:_) (acc:_) (c:_) (mus:_):(n = k - i) → (i ≤ k) → (acc.size ≤ i) → Grows g.tabs fz f → (s.heap.Ns L (fun y => List.lookup y l)) → MU mus → St g s₀ fz₀ s.heap s.gens s.os f C lC (mus ++ (own ++ ((L,oL) :: (D,accObj acc c) :: mu))) → IterR g tg I P (k - i) i own f → J i acc.toList f → CAt g s₀ fz₀ L C D l mu tg I P k J MU fz n s
theorem ns_to {s₁ s₂:Shared} {f1 f2:Heap} {C1 C2:Addr} {l1 l2:List (Str × Value)} {m1 m2:List (Addr × Obj)} {o:Obj} (n:s₁.heap.Ns L (fun y => List.lookup y l)) (S1:St g s₀ fz₀ s₁.heap s₁.gens s₁.os f1 C1 l1 m1) (S2:St g s₀ fz₀ s₂.heap s₂.gens s₂.os f2 C2 l2 m2) (h1:(L,o) ∈ m1) (h2:(L,o) ∈ m2):s₂.heap.Ns L (fun y => List.lookup y l) :=
 n.at' fun o' e => by
   have q:=(S1.own _ h1).1
   dsimp only at q
   rw [q] at e;cases e
   exact (S2.own _ h2).1
theorem mem3 {α:Type} {a b c:List α} {x:α}:x ∈ a ++ (b ++ (x :: c)):=List.mem_append.mpr (.inr (List.mem_append.mpr (.inr (.head _))))
theorem CAt.more {D C:Addr} {n m:Nat} {s:Shared} {i:Nat} {f:Heap} {lC:List (Str × Value)} {own:List (Addr × Obj)} {oL:Obj} {acc:Array Value} {c:Nat} {mus:List (Addr × Obj)} {f':Heap} (hm:k - i = m + 1) (hlt:i < k) (hsz:acc.size ≤ i) (gr0:Grows g.tabs fz f) (nsL:s.heap.Ns L (fun y => List.lookup y l)) (gr:Grows g.tabs f f') (S1:St g s₀ fz₀ s.heap s.gens s.os f' C lC (mus ++ (own ++ ((L,oL) :: (D,accObj acc c) :: mu)))) (itr:IterR g tg I P m (i + 1) own f')
   {acc':List Value} {s₄:Shared} (h:CNextM g s₀ fz₀ C MU (own ++ ((L,oL) :: (D,accObj acc c) :: mu)) (J (i + 1)) f' acc' s₄) (ea:acc' = acc.toList):∃ m',m' < m + 1 ∧ CAt g s₀ fz₀ L C D l mu tg I P k J MU fz m' s₄:=by
 subst ea
 obtain ⟨f3,l3,mus3,gr3,hmu3,S3,j3⟩:=h
 exact ⟨m,Nat.lt_succ_self _,i + 1,f3,l3,own,oL,acc,c,mus3,by lia,hlt,by lia,(gr0.trans gr).trans gr3,ns_to nsL S1 S3 mem3 mem3,hmu3,S3,by rw [show k - (i + 1) = m by lia];exact itr.grows gr3,j3⟩
theorem CAt.push {D C:Addr} {m:Nat} {s:Shared} {i:Nat} {f:Heap} {lC:List (Str × Value)} {own:List (Addr × Obj)} {oL:Obj} {acc:Array Value} {c:Nat} {mus:List (Addr × Obj)} {f':Heap} {y:Value} {E':Value → Shared → Prop} (hk:k ≤ sizeLine) (hm:k - i = m + 1) (hlt:i < k) (hsz:acc.size ≤ i) (gr0:Grows g.tabs fz f) (nsL:s.heap.Ns L (fun y => List.lookup y l)) (gr:Grows g.tabs f f') (S1:St g s₀ fz₀ s.heap s.gens s.os f' C lC (mus ++ (own ++ ((L,oL) :: (D,accObj acc c) :: mu)))) (itr:IterR g tg I P m (i + 1) own f')
   {s₄:Shared} (h:CNextM g s₀ fz₀ C MU (own ++ ((L,oL) :: (D,accObj acc c) :: mu)) (J (i + 1)) f' (acc.toList ++ [y]) s₄):wpAny (model g.prog g.w) A (call (.builtin "list.append") [.ref D,y]) (fun zz s₅ => ∃ m',m' < m + 1 ∧ CAt g s₀ fz₀ L C D l mu tg I P k J MU fz m' s₅) E' s₄:=by
 obtain ⟨f3,l3,mus3,gr3,hmu3,S3,j3⟩:=h
 have eD:s₄.heap.get? D = some (accObj acc c):=(S3.own (D,accObj acc c) (List.mem_append.mpr (.inr (List.mem_append.mpr (.inr (.tail _ (.head _))))))).1
 refine wpAny_list_append_plain (l:=D) (items:=acc) ⟨c,eD⟩ (fun h' hpl hsb => ?_) (by lia)
 obtain ⟨c',eD'⟩:=hpl
 have pm:∀ o,(mus3 ++ (own ++ ((L,oL) :: (D,o) :: mu))).Perm ((D,o) :: (mus3 ++ (own ++ ((L,oL) :: mu)))):=fun o => by
   refine (List.Perm.append_left _ (List.Perm.append_left _ (List.Perm.swap ..))).trans ?_
   exact (List.Perm.append_left _ List.perm_middle).trans List.perm_middle
 have S4:=(S3.perm (pm _)).turn1 (h':=h') (oI':=accObj (acc.push y) c') (fun b o n e => hsb.extBut b o n e) eD'
 have S5:=S4.perm (pm _).symm
 have n3:=ns_to nsL S1 S3 mem3 mem3
 exact ⟨m,Nat.lt_succ_self _,i + 1,f3,l3,own,oL,acc.push y,c',mus3,by lia,hlt,by rw [Array.size_push];lia,(gr0.trans gr).trans gr3,ns_to (s₂:={ s₄ with heap:=h' }) n3 S3 S5 mem3 mem3,hmu3,S5,by rw [show k - (i + 1) = m by lia];exact itr.grows gr3,by rw [Array.toList_push];exact j3⟩
theorem comp_loopM {pos:Pos} {D C:Addr} {oL:Obj} {mus:List (Addr × Obj)} {cenv:Addr → Env} {lC:List (Str × Value)} {R:Result → Shared → Prop} (hh:A.handled = none)
   (S:St g s₀ fz₀ s.heap s.gens s.os fz C lC (mus ++ (own ++ ((L,oL) :: (D,accObj #[] 0) :: mu)))) (nsL:s.heap.Ns L (fun y => List.lookup y l)) (hmu:MU mus) (it0:IterR g tg I P k 0 own fz) (j0:J 0 [] fz) (hk:k ≤ sizeLine)
   (step:CompStepM g s₀ fz₀ A tg elt ifs cenv k P J MU mu)
   (fin:∀ (s':Shared) fz' oC lC c acc mus,Grows g.tabs fz fz' → MU mus → St g s₀ fz₀ s'.heap s'.gens s'.os fz' L l ((C,oC) :: (D,accObj acc c) :: (mus ++ mu)) → s'.heap.Ns C (fun y => List.lookup y lC) → J k acc.toList fz' → acc.size ≤ k → R (.ok .next) s') :
   codeAny (model g.prog g.w) A (.compLoop (.ListComp elt [⟨tg,iter,ifs,0⟩] scope pos) 0 (.ref I) (.ref D) (cenv C)) R s:=by
 refine codeAny_compLoop_go (CAt g s₀ fz₀ L C D l mu tg I P k J MU fz) (fun n s hI => ?_) k ⟨0,fz,lC,own,oL,#[],0,mus,rfl,Nat.zero_le _,Nat.le_refl _,Grows.refl _ _,nsL,hmu,S,it0,j0⟩
 generalize hE:(notedBy (model g.prog g.w) A (cenv C) fun e s' => R (.error e) s') = E'
 obtain ⟨i,f,lC,own,oL,acc,c,mus,rfl,hle,hsz,gr0,nsL,hmu,S,itr,hJ⟩:=hI
 have Sp:=S.perm (List.perm_append_comm_assoc mus own _)
 rcases Nat.lt_or_eq_of_le hle with hlt | heq
 · obtain ⟨m,hm⟩ : ∃ m,k - i = m + 1:=⟨k - i - 1,by lia⟩
   rw [hm] at itr ⊢
   refine wpAny_mono (itr A s s₀ fz₀ f C lC _ (fun v s'' => wpAny (model g.prog g.w) A (assign tg (cenv C) v) (fun zz s₂ => wpAny (model g.prog g.w) A (forIn ifs true fun c r => if r = true then do let ok ← isTrue c (cenv C) (eval c (cenv C));pure (ForInStep.yield ok) else pure (ForInStep.yield r)) (fun ok s₃ =>
     if ok = true then wpAny (model g.prog g.w) A (eval elt (cenv C)) (fun x s₄ => wpAny (model g.prog g.w) A (call (.builtin "list.append") [.ref D,x]) (fun zz s₅ => ∃ m',m' < m + 1 ∧ CAt g s₀ fz₀ L C D l mu tg I P k J MU fz m' s₅) E' s₄) E' s₃ else ∃ m',m' < m + 1 ∧ CAt g s₀ fz₀ L C D l mu tg I P k J MU fz m' s₃) E' s₂) E' s'') E' hh (Grows.refl _ _) Sp fun v s' f' own' gr S' hP itr' => ?_) (fun r s' hr => ?_) fun zz zz z => z
   · have S1:=S'.perm (List.perm_append_comm_assoc own' mus _)
     have nsL':=ns_to nsL S S1 mem3 mem3
     refine wpAny_mono (step.step i v s' f f' C lC mus _ acc.toList E' hlt hJ gr hP hmu (fun p hp => List.mem_append.mpr (.inr (.tail _ (.tail _ hp)))) S1) (fun zz s₂ h₂ => wpAny_mono h₂ (fun ok s₃ h₃ => ?_) fun zz zz z => z) fun zz zz z => z
     cases ok with
     | false => exact CAt.more (n:=0) hm hlt hsz gr0 nsL' gr S1 itr' h₃ rfl
     | true => exact wpAny_mono (h₃:wpAny _ _ _ _ _ _) (fun y s₄ h₄ => CAt.push hk hm hlt hsz gr0 nsL' gr S1 itr' h₄) fun zz zz z => z
   · obtain ⟨v,rfl,h⟩:=hr
     exact h
 · subst heq
   rw [Nat.sub_self] at itr
   refine itr A s s₀ fz₀ f C lC _ _ _ hh (Grows.refl _ _) Sp fun s' S' => ?_
   have nsL':=ns_to nsL S S' mem3 (List.mem_append.mpr (.inr (.head _)))
   have S2:=S'.perm (List.perm_middle (l₁:=mus))
   obtain ⟨oC',eC',S''⟩:=S2.swap nsL'
   have S3:=S''.perm (List.Perm.cons _ (List.perm_middle (l₁:=mus)))
   exact fin s' f oC' lC c acc mus gr0 hmu S3 S'.ns hJ hsz
end
noncomputable def SelfR (g:G) (I:Addr) (own:List (Addr × Obj)) (fz0:Heap):Prop :=
 ∀ (A:Around) (s s₀:Shared) (fz₀ fz:Heap) (L:Addr) (l:List (Str × Value)) (mu:List (Addr × Obj)) (Q:Value → Shared → Prop) (E:Value → Shared → Prop),A.handled = none → Grows g.tabs fz0 fz → St g s₀ fz₀ s.heap s.gens s.os fz L l (own ++ mu) → Q (.ref I) s → wpAny (model g.prog g.w) A (pyIter (.ref I)) Q E s
section
variable {g:G} {s₀ s:Shared} {fz₀ fz:Heap} {L:Addr} {l:List (Str × Value)} {mu own:List (Addr × Obj)} {A:Around} {E:Value → Shared → Prop} {M:Model} {env:Env} {tg elt iter:PySem.Expr} {ifs:List PySem.Expr} {scope:Scope} {cl:List (Str × Addr)} {I:Addr} {k:Nat} {P:Nat → Value → Heap → Prop} {J:Nat → List Value → Heap → Prop}
theorem comp_run {pos:Pos} {RR:Value → Addr → Result → Shared → Prop} (hh:A.handled = none) (S:St g s₀ fz₀ s.heap s.gens s.os fz L l (own ++ mu)) (it0:IterR g tg I P k 0 own fz) (hself:SelfR g I own fz) (j0:J 0 [] fz) (hk:k ≤ sizeLine)
   (hcell:∀ y ∈ scope.names,y.2 ≠ .cell) (hkind:scope.kind = .function) (step:CompStep g s₀ fz₀ A tg elt ifs env scope cl k P J mu)
   (fin:∀ (s':Shared) fz' D C oC lC c acc,Grows g.tabs fz fz' → St g s₀ fz₀ s'.heap s'.gens s'.os fz' L l ((C,oC) :: (D,accObj acc c) :: mu) → s'.heap.Ns C (fun y => List.lookup y lC) → J k acc.toList fz' → acc.size ≤ k → RR (.ref D) C (.ok .next) s') :
   wpAny (model g.prog g.w) A (newList []) (fun acc s₃ => wpAny (model g.prog g.w) A (newFunctionEnv scope env.globals cl [] env.qual none .none (some env)) (fun cenv s₄ =>
     codeAny (model g.prog g.w) A (.compStart (.ListComp elt [⟨tg,iter,ifs,0⟩] scope pos) 0 (.ref I) acc { cenv with scope:=relabel scope env }) (RR acc cenv.locals) s₄) E s₃) E s:=by
 refine wpAny_newObj_type (wpAny_newFunctionEnv hcell (by intro y hy;simp at hy) (fun h₁ hns₁ hsb₁ => ?_) hkind)
 have S1:=S.push (accObj #[] 0) rfl
 have S2:=S1.push { cls:=.type "dict", data:=.dict #[] } rfl
 generalize hD:s.heap.objs.size = D at S1 S2 hns₁ hsb₁ ⊢
 have hC0:(s.heap.push (accObj #[] 0)).objs.size = D + 1:=by rw [Heap.size_push,hD]
 generalize hC:(s.heap.push (accObj #[] 0)).objs.size = C at S2 hC0
 have hC':({ s with heap:=s.heap.push { cls:=.type "list", data:=.seq ([]:List Value).toArray } }:Shared).heap.objs.size = C:=hC
 rw [hC'] at hns₁ hsb₁
 obtain ⟨oC,_,_,eC,_⟩:=id hns₁
 have S3:St g s₀ fz₀ h₁ s.gens s.os fz L l ((C,oC) :: (D,accObj #[] 0) :: (own ++ mu)):=S2.turn1 (fun b o n e => hsb₁.extBut b o n e) eC
 obtain ⟨oL,eL,S4⟩:=S3.swap (l':=[]) (by
   have e:(fun y:Str => List.lookup y ([]:List (Str × Value))) = fun y => List.lookup y ([]:List (Str × Value)).reverse:=rfl
   rw [e];exact hns₁)
 have pm:((L,oL) :: (D,accObj #[] 0) :: (own ++ mu)).Perm (own ++ ((L,oL) :: (D,accObj #[] 0) :: mu)):=by
   refine List.Perm.symm ?_
   exact (List.perm_middle).trans (List.Perm.cons _ List.perm_middle)
 have S5:=S4.perm pm
 have loop:∀ s₃:Shared,s₃ = { s with heap:=h₁,toks:=s.toks + ([]:List (Str × Value)).length } → codeAny (model g.prog g.w) A (.compLoop (.ListComp elt [⟨tg,iter,ifs,0⟩] scope pos) 0 (.ref I) (.ref D) (compEnvC scope cl C env)) (RR (.ref D) C) s₃:=by
   rintro s₃ rfl
   refine comp_loopM (s:={ s with heap:=h₁,toks:=s.toks + ([]:List (Str × Value)).length }) (MU:=fun m => m = []) (mus:=[]) (cenv:=fun C => compEnvC scope cl C env) hh S5 S3.ns rfl it0 j0 hk ⟨fun i v s fz0 fz C lC mus rest acc E' h1 h2 h3 h4 h5 h6 h7 => ?_⟩ fun s' fz' oC lC c acc mus gr hmu S' ns hJ hz => by
     subst hmu
     exact fin s' fz' D C oC lC c acc gr S' ns hJ hz
   subst h5
   have to:∀ {J f acc s},CNext g s₀ fz₀ C rest J f acc s → CNextM g s₀ fz₀ C (fun m => m = []) rest J f acc s:=fun ⟨f',l',g',S',j'⟩ => ⟨f',l',[],g',rfl,S',j'⟩
   refine wpAny_mono (step.step i v s fz0 fz C lC rest acc E' h1 h2 h3 h4 h6 h7) (fun zz s₂ h₂ => wpAny_mono h₂ (fun ok s₃ h₃ => ?_) fun zz zz z => z) fun zz zz z => z
   cases ok with
   | false => exact to h₃
   | true => exact wpAny_mono (h₃:wpAny _ _ _ _ _ _) (fun y s₄ h₄ => to h₄) fun zz zz z => z
 exact codeAny_compStart_list (loop _ rfl) (hself A _ s₀ fz₀ fz C [] _ _ _ hh (Grows.refl _ _) S5 (loop _ rfl))
theorem St.dropBut {C:Addr} {oC:Obj} {h h':Heap} {gn:Array GenState} {os:OsState} (S:St g s₀ fz₀ h gn os fz L l ((C,oC) :: mu)) (x:Heap.ExtBut C h h'):St g s₀ fz₀ h' gn os fz L l mu:=by
 have z:=S.own _ (.head _)
 have n:=List.nodup_cons.mp S.nd
 refine ⟨S.ns.at' fun o q => x _ o (Ne.symm z.2.1) q,fun b o q r => x b o (fun y => ?_) (S.keep b o q r),fun b o q => x b o (fun y => ?_) (S.le b o q),S.gr,S.hid,S.bL,S.fL,fun p hp => ?_,n.2,S.inv,S.bare,S.os_,S.gsz⟩
 · rw [y,z.2.2.1] at q;cases q
 · rw [y,z.2.2.2] at q;cases q
 · have y:=S.own p (.tail _ hp)
   exact ⟨x _ _ (fun w => n.1 (List.mem_map.mpr ⟨p,hp,w⟩)) y.1,y.2⟩
end
inductive CompP (g:G) (s₀:Shared) (fz₀:Heap) (A:Around) (L:Addr) (tg elt:PySem.Expr) (ifs:List PySem.Expr) (env:Env) (scope:Scope) (cl:List (Str × Addr)) (K:Heap → List (Str × Value) → List (Addr × Obj) → Addr → Shared → Prop) (it:Value) (s:Shared):Prop
 | mk (I:_) (k:_) (fz:_) (l:_) (own:_) (mu:_) (P:_) (J:_):(it = .ref I) → St g s₀ fz₀ s.heap s.gens s.os fz L l (own ++ mu) → IterR g tg I P k 0 own fz → SelfR g I own fz → J 0 [] fz → (k ≤ sizeLine) → CompStep g s₀ fz₀ A tg elt ifs env scope cl k P J mu → (∀ (s':Shared) fz' D c acc,Grows g.tabs fz fz' → St g s₀ fz₀ s'.heap s'.gens s'.os fz' L l ((D,accObj acc c) :: mu) → J k acc.toList fz' → acc.size ≤ k → K fz' l ((D,accObj acc c) :: mu) D s') → CompP g s₀ fz₀ A L tg elt ifs env scope cl K it s
section
variable {g:G} {s₀ s:Shared} {fz₀ fz:Heap} {L:Addr} {l:List (Str × Value)} {mu own:List (Addr × Obj)} {A:Around} {E:Value → Shared → Prop} {M:Model} {env:Env} {tg elt iter:PySem.Expr} {ifs:List PySem.Expr} {scope:Scope} {cl:List (Str × Addr)}
theorem compE_rule {pos:Pos} {Q:Value → Shared → Prop} (hM:M = model g.prog g.w) (_S:St g s₀ fz₀ s.heap s.gens s.os fz L l mu) (hh:A.handled = none) (hclos:closureFor scope env = pure cl) (hcell:∀ y ∈ scope.names,y.2 ≠ .cell) (hkind:scope.kind = .function)
   (hnames:∀ y ∈ scope.names,y.2 = .local → scope.names.lookup y.1 = some .local) (hs:∀ x,foldedSetIterable iter env x = pure x)
   (h:wpAny M A (eval iter env) (fun xv s₁ => wpAny M A (pyIter xv) (fun it s₂ => CompP g s₀ fz₀ A L tg elt ifs env scope cl (fun fz' l mu D s' => St g s₀ fz₀ s'.heap s'.gens s'.os fz' L l mu → Q (.ref D) s') it s₂) E s₁) E s) :
   wpAny M A (eval (.ListComp elt [⟨tg,iter,ifs,0⟩] scope pos) env) Q E s:=by
 subst hM
 rw [eval_ListComp]
 refine wpAny_comprehension_free (use:=none) rfl hs hclos hkind hnames (wpAny_mono h (fun xv s₁ h₁ => wpAny_mono h₁ (fun it s₂ h₂ => ?_) fun zz zz e => e) fun zz zz e => e)
 obtain ⟨I,k,fz,l,own,mu,P,J,rfl,S,it0,hself,j0,hk,step,fin⟩:=h₂
 refine comp_run (RR:=fun acc C => compPost (model g.prog g.w) A E none Q acc C) hh S it0 hself j0 hk hcell hkind step fun s' fz' D C oC lC c acc gr S' ns hJ hz => ?_
 refine ⟨_,ns,fun h' hsb => ?_⟩
 have S2:=S'.dropBut (h':=h') hsb.extBut
 exact fin { s' with heap:=h' } fz' D c acc gr S2 hJ hz S2
theorem compA_rule {y:Str} {py pos spos:Pos} {Q:Flow → Shared → Prop} (hM:M = model g.prog g.w) (_S:St g s₀ fz₀ s.heap s.gens s.os fz L l mu) (hh:A.handled = none) (hsw:swapsWith (.ListComp elt [⟨tg,iter,ifs,0⟩] scope pos) (some (.Name y py)) spos.line env = pure true)
   (hclos:closureFor scope env = pure cl) (hcell:∀ y ∈ scope.names,y.2 ≠ .cell) (hkind:scope.kind = .function)
   (hnames:∀ y ∈ scope.names,y.2 = .local → scope.names.lookup y.1 = some .local) (hs:∀ x,foldedSetIterable iter env x = pure x) (hL:env.locals = L) (hke:env.scope.kind = .function) (hy:env.kindOf y = some .local)
   (h:wpAny M A (eval iter env) (fun xv s₁ => wpAny M A (pyIter xv) (fun it s₂ => CompP g s₀ fz₀ A L tg elt ifs env scope cl (fun fz' l mu D s' => ∀ s'',St g s₀ fz₀ s''.heap s''.gens s''.os fz' L ((y,.ref D) :: l) mu → Q .next s'') it s₂) E s₁) E s) :
   wpAny M A (exec (.Assign [.Name y py] (.ListComp elt [⟨tg,iter,ifs,0⟩] scope pos) spos) env) Q E s:=by
 subst hM
 rw [exec_Assign_Name_used _ _ _ _ hsw]
 refine wpAny_bind (wpAny_standAt (wpAny_bind ?_))
 show wpAny _ A (do let _ ← comprehension (.ListComp elt [⟨tg,iter,ifs,0⟩] scope pos) scope env _ (newList []) false (eval iter env) (some (assign (.Name y py) env))) _ _ s
 refine wpAny_bind (wpAny_mono (wpAny_comprehension_free (use:=some (assign (.Name y py) env)) (Q:=fun zz s' => Q .next s') rfl hs hclos hkind hnames
   (wpAny_mono h (fun xv s₁ h₁ => wpAny_mono h₁ (fun it s₂ h₂ => ?_) fun zz zz e => e) fun zz zz e => e)) (fun zz s' hq => wpAny_pure (wpAny_pure hq)) fun zz zz e => e)
 obtain ⟨I,k,fz,l,own,mu,P,J,rfl,S,it0,hself,j0,hk,step,fin⟩:=h₂
 refine comp_run (RR:=fun acc C => compPost (model g.prog g.w) A E (some (assign (.Name y py) env)) (fun zz s' => Q .next s') acc C) hh S it0 hself j0 hk hcell hkind step fun s' fz' D C oC lC c acc gr S' ns hJ hz => ?_
 show wpAny _ A (assign (.Name y py) env (.ref D)) _ _ _
 refine wpAny_assign_Name (stE_loc S' hL (fun s₂ S2 => ?_) hke hy)
 have e1:=(S'.own _ (.head _)).1
 have e2:=(S2.own _ (.head _)).1
 dsimp only at e1 e2
 refine ⟨_,ns.at' fun o e => ?_,fun h' hsb => ?_⟩
 · rw [e1] at e;cases e;exact e2
 · have S3:=S2.dropBut (h':=h') hsb.extBut
   exact fin s' fz' D c acc gr S'.drop1 hJ hz { s₂ with heap:=h' } S3
end
section
variable {prog:Program} {w:World} {A:Around} {E:Value → Shared → Prop} {s:Shared}
theorem nextOf_tuple_item {it t:Addr} {i:Nat} {items:Array Value} {x:Value} {Q:Value → Shared → Prop} (hit:s.heap.IsTupleIter it t i)
   (ht:s.heap.IsTuple t items) (hx:items[i]? = some x) (hQ:∀ h',h'.IsTupleIter it t (i + 1) → Heap.SameBut it s.heap h' → Q x { s with heap:=h' }) :
   wpAny (model prog w) A (Builtin.SmallTypes.nextOf (.ref it)) Q E s:=by
 obtain ⟨o,ho,hc,hd⟩:=id hit
 obtain ⟨ol,hol,_,nl,hdl⟩:=ht
 unfold Builtin.SmallTypes.nextOf
 refine wpAny_bind (wpAny_callSpecial?_slot (name:=Str.ofString "__next__") hit.typeIs PySem.F.slot_tuple_iterator_next
   (wpAny_call_entry PySem.F.slot_tuple_iterator_next hit.typeIs PySem.F.entry_tuple_iterator_next ?_ (PySem.F.args_tuple_iterator_next_1 _)))
 show wpAny _ _ (field (.ref it) 0 >>= _) _ _ s
 refine wpAny_bind (wpAny_field ho hd (x:=.ref t) rfl ?_)
 show wpAny _ _ (if (Value.ref t == Value.none) = true then _ else _) _ _ s
 rw [if_neg (show ¬ ((Value.ref t == Value.none) = true) from Bool.false_ne_true)]
 show wpAny _ _ (field (.ref it) 1 >>= _) _ _ s
 refine wpAny_bind (wpAny_field ho hd (x:=.int i 0) rfl ?_)
 show wpAny _ _ (seqItems? (.ref t) >>= _) _ _ s
 refine wpAny_bind (wpAny_seqItems hol hdl ?_)
 simp only [Int.toNat_natCast,hx]
 refine wpAny_bind (wpAny_setField ho hd (by simp) (wpAny_pure ⟨x,rfl,wpAny_pure (hQ _ ?_ (Heap.SameBut.update ..))⟩))
 exact ⟨_,Heap.get?_update_self _ ho (Obj.isFreed_of_fields (Obj.data_mapFields hd _)),(Obj.cls_mapFields ..).trans hc,by
   rw [Obj.data_mapFields hd];simp [rawInt]⟩
theorem nextOf_tuple_end {it t:Addr} {i:Nat} {items:Array Value} {Q:Value → Shared → Prop} (hh:A.handled = none)
   (hit:s.heap.IsTupleIter it t i) (ht:s.heap.IsTuple t items) (hx:items[i]? = none)
   (hE:∀ h' e,Heap.ExtBut it s.heap h' → (∃ o,h'.get? e = some o ∧ o.cls = .type "StopIteration") → E (.ref e) { s with heap:=h' }) :
   wpAny (model prog w) A (Builtin.SmallTypes.nextOf (.ref it)) Q E s:=by
 obtain ⟨o,ho,hc,hd⟩:=id hit
 obtain ⟨ol,hol,_,nl,hdl⟩:=ht
 unfold Builtin.SmallTypes.nextOf
 refine wpAny_bind (wpAny_callSpecial?_slot (name:=Str.ofString "__next__") hit.typeIs PySem.F.slot_tuple_iterator_next
   (wpAny_call_entry PySem.F.slot_tuple_iterator_next hit.typeIs PySem.F.entry_tuple_iterator_next ?_ (PySem.F.args_tuple_iterator_next_1 _)))
 show wpAny _ _ (field (.ref it) 0 >>= _) _ _ s
 refine wpAny_bind (wpAny_field ho hd (x:=.ref t) rfl ?_)
 show wpAny _ _ (if (Value.ref t == Value.none) = true then _ else _) _ _ s
 rw [if_neg (show ¬ ((Value.ref t == Value.none) = true) from Bool.false_ne_true)]
 show wpAny _ _ (field (.ref it) 1 >>= _) _ _ s
 refine wpAny_bind (wpAny_field ho hd (x:=.int i 0) rfl ?_)
 show wpAny _ _ (seqItems? (.ref t) >>= _) _ _ s
 refine wpAny_bind (wpAny_seqItems hol hdl ?_)
 simp only [Int.toNat_natCast,hx]
 refine wpAny_bind (wpAny_rule (wpAny_bind (wpAny_setField ho hd (by simp) ?_)))
 show wpAny _ _ (newExc (.type "StopIteration") [] >>= _) _ _ _
 refine wpAny_bind ?_
 simp only [newExc,newTuple]
 refine wpAny_bind (wpAny_newObj_type ?_ (by size_fits))
 refine wpAny_bind (m:=firstArgMember _ _) (wpAny_of_eq (a:=Value.none) (by first | rfl | (simp only [firstArgMember];rfl)) ?_)
 refine wpAny_newObj_type ?_ (by size_fits)
 refine wpAny_bind (wpAny_handled ?_)
 first | rw [show A.in1.handled = none from hh] | rw [hh]
 refine wpAny_bind (wpAny_pure (wpAny_throw ?_))
 exact hE _ _ (((Heap.SameBut.update ..).extBut.push _).push _) ⟨_,Heap.get?_push_size _ rfl,rfl⟩
end
theorem drawsTuple {prog:Program} {w:World} {A:Around} (hh:A.handled = none) (it l:Addr) (hne:l ≠ it) (items:Array Value) :
   Draws prog w A it [it,l] items.size (fun i v => items[i]? = some v) (fun i h => h.IsTupleIter it l i ∧ h.IsTuple l items) where
 live:=fun zz zz st => by obtain ⟨o,ho,_⟩:=st.1;exact ⟨o,ho⟩
 frame:=fun zz zz zz st hk => ⟨st.1.at fun o e => hk it (by simp) o e,st.2.at fun o e => hk l (by simp) o e⟩
 item:=fun i s Q E hi st hQ => by
   refine nextOf_tuple_item st.1 st.2 (x:=items[i]) (by simp [hi]) fun h' hit' hs' => ?_
   exact hQ _ h' s.toks (by simp [hi]) ⟨hit',st.2.extBut hs'.extBut hne⟩ hs'
 done:=fun s Q E st hE => nextOf_tuple_end hh st.1 st.2 (by simp) hE
theorem stack_b {prog:Program} {w:World} {A:Around} {E:Value → Shared → Prop} {s:Shared} {α:Type} {g:α → Bool} {m:Sem α} {Q:Bool → Shared → Prop} (hm:∀ {P:α → Shared → Prop},(∀ a,P a s) → wpAny (model prog w) A m P E s) (h:∀ b,Q b s):wpAny (model prog w) A m (fun a s' => wpAny (model prog w) A (pure (g a)) Q E s') E s :=
 hm fun zz => wpAny_pure (h _)
theorem meets_enum_tuple (l:Addr) (items:Array Value) (n:Nat) (dct:Option Addr) (sl:Array (Option Value)) :
   Meets (Builtin.«enumerate.__new__» ⟨[.type "enumerate", .ref l],[]⟩) (fun zz R s => s.heap.get? l = some { cls:=.type "tuple", dict:=dct,data:=.seq items n,slots:=sl } ∧
     R (.ok (.ret (.ref (s.heap.push { cls:=.type "tuple_iterator", data:=.fields #[.ref l,.int 0 0] }).objs.size)))
       { s with heap:=(s.heap.push { cls:=.type "tuple_iterator", data:=.fields #[.ref l,.int 0 0] }).push { cls:=.type "enumerate", data:=.fields #[.none,.bool false,.ref s.heap.objs.size,rawInt 0,.none,.none] } }) :=
 .of_wp fun prog w A R s h => by
   obtain ⟨hp,g,d,tk,os⟩:=s;obtain ⟨hl,h⟩:=h
   have hsub:=sub_enumerate
   have hL:Heap.IsTuple (Shared.heap ⟨hp,g,d,tk,os⟩) l items:=⟨_,hl,rfl,n,rfl⟩
   wp_walk using AutoSeq1.wpAny_loadPart' hl
   refine stack_b wpAny_stack_any fun b => ?_
   cases b
   · wp_walk using AutoSeq1.wpAny_loadPart' hl,wpAny_pyIter_tuple hL
     exact ⟨_,rfl,h⟩
   · wp_walk using AutoSeq1.wpAny_loadPart' hl,wpAny_pyIter_tuple hL
     exact ⟨_,rfl,h⟩
theorem call_enum_tuple {prog:Program} {w:World} {A:Around} {E:Value → Shared → Prop} {s:Shared} {l:Addr} {items:Array Value} {Q:Value → Shared → Prop} (hL:s.heap.IsTuple l items)
   (h:∀ h',h' = (s.heap.push { cls:=.type "tuple_iterator", data:=.fields #[.ref l,.int 0 0] }).push { cls:=.type "enumerate", data:=.fields #[.none,.bool false,.ref s.heap.objs.size,rawInt 0,.none,.none] } → Q (.ref (s.heap.objs.size + 1)) { s with heap:=h' }) :
   wpAny (model prog w) A (call (.type "enumerate") [.ref l]) Q E s:=by
 obtain ⟨⟨c,dct,dt,sl⟩,hl,hc,n,hd⟩:=hL
 replace hc:c = .type "tuple" := hc
 replace hd:dt = .seq items n:=hd
 subst hc hd
 refine callType_new F.called_enumerate (by decide) (F.typeCall_enumerate_1 _) (F.newCall_enumerate_1 _) (fun obj => F.args_object_init_2 obj _) F.entry_enumerate_new
   (meets_enum_tuple l items n dct sl) ⟨hl,?_⟩
 have hz:(s.heap.push { cls:=.type "tuple_iterator", data:=.fields #[.ref l,.int 0 0] }).objs.size = s.heap.objs.size + 1:=Heap.size_push ..
 show _ ∧ _
 rw [hz]
 have he:IsEnum ((s.heap.push { cls:=.type "tuple_iterator", data:=.fields #[.ref l,.int 0 0] }).push
     { cls:=.type "enumerate", data:=.fields #[.none,.bool false,.ref s.heap.objs.size,rawInt 0,.none,.none] }) (s.heap.objs.size + 1) s.heap.objs.size 0 .none:=by
   have:=Heap.get?_push_size (s.heap.push { cls:=.type "tuple_iterator", data:=.fields #[.ref l,.int 0 0] })
     (o:={ cls:=.type "enumerate", data:=.fields #[.none,.bool false,.ref s.heap.objs.size,rawInt 0,.none,.none] }) rfl
   rw [hz] at this;exact this
 exact ⟨⟨_,he,rfl⟩,h _ rfl⟩
section
variable {g:G} {s₀ s:Shared} {fz₀ fz:Heap} {L:Addr} {l:List (Str × Value)} {mu own:List (Addr × Obj)} {A:Around} {E:Value → Shared → Prop} {M:Model}
theorem go_two (tg:PySem.Expr) (it v:Value):letOwnedTupleGo tg it v = letOwnedTupleGo (.Tuple [] 0 ⟨0,0,0,0⟩) it v ∨ letOwnedTupleGo tg it v = pure ():=by cases tg <;> first | exact .inr rfl | exact .inl rfl
theorem go_col {kk:Bool} {I la:Addr} (tg:PySem.Expr) (A:Around) (v:Value) (s:Shared) (oI:Obj) (i:Nat) (T:Unit → Shared → Prop) (E:Value → Shared → Prop) (e:s.heap.get? I = some oI) (it:ItAt s.heap kk I la i) (h:T () s):wpAny (model g.prog g.w) A (letOwnedTupleGo tg (.ref I) v) T E s:=by
 have key:∀ (n:String),n = "list_iterator" ∨ n = "tuple_iterator" → ∀ {fs},oI.cls = .type n → oI.data = .fields fs → wpAny (model g.prog g.w) A (letOwnedTupleGo tg (.ref I) v) T E s:=by
   intro n hn fs hc hd
   have hin:(["enumerate", "zip", "dict_itemiterator", "dict_reverseitemiterator", "odict_iterator", "itertools.zip_longest", "itertools.pairwise"].contains n) = false:=by rcases hn with rfl | rfl <;> decide
   rcases go_two tg (.ref I) v with z | z
   · rw [z]
     cases v with
     | ref a =>
       refine wpAny_bind (wpAny_load e ?_)
       rw [hc,hd]
       exact it_f (by rw [hin,Bool.false_and];exact Bool.false_ne_true) (wpAny_pure h)
     | _ => exact wpAny_pure h
   · rw [z];exact wpAny_pure h
 cases kk
 · obtain ⟨o,e',hc,hd⟩:=(it:s.heap.IsTupleIter I la i)
   rw [e] at e';cases e'
   exact key "tuple_iterator" (.inr rfl) hc hd
 · obtain ⟨o,e',hc,hd⟩:=(it:s.heap.IsListIter I la i)
   rw [e] at e';cases e'
   exact key "list_iterator" (.inl rfl) hc hd
theorem self_col {kk:Bool} {I la:Addr} {oI:Obj} {i:Nat} (h:∀ h,h.get? I = some oI → ItAt h kk I la i):SelfR g I [(I,oI)] fz:=fun A s s₀ fz₀ f L l mu Q E zz gr S q => by
 have it:=h s.heap (S.own _ (.head _)).1
 cases kk
 · exact wpAny_pyIter_tupleiter it q
 · exact wpAny_pyIter_listiter it q
theorem src_col {kk:Bool} {la:Addr} {items:Array Value} {Q:Value → Shared → Prop} (hM:M = model g.prog g.w) (S:St g s₀ fz₀ s.heap s.gens s.os fz L l mu) (hc:Col fz kk la items)
   (k:∀ s' I oI,St g s₀ fz₀ s'.heap s'.gens s'.os fz L l ([(I,oI)] ++ mu) → (∀ tg,IterR g tg I (fun i v zz => items[i]? = some v) items.size 0 [(I,oI)] fz) → SelfR g I [(I,oI)] fz → Q (.ref I) s'):wpAny M A (pyIter (.ref la)) Q E s:=by
 refine it_make hM S hc fun s' I oI S' hi => ?_
 have e:=(S'.own _ (.head _)).1
 have hI:∀ h:Heap,h.get? I = some oI → ItAt h kk I la 0:=fun h q => hi.at fun o z => by
   dsimp only at e;rw [e] at z;cases z;exact q
 exact k s' I oI S' (fun tg => iter_col (fun A v s oI i T E => go_col tg A v s oI i T E) hc items.size 0 oI (Nat.zero_add _) hI) (self_col hI)
theorem src_self {I:Addr} {Q:Value → Shared → Prop} {fz0:Heap} (hM:M = model g.prog g.w) (hh:A.handled = none) (sf:SelfR g I own fz0) (gr:Grows g.tabs fz0 fz) (S:St g s₀ fz₀ s.heap s.gens s.os fz L l (own ++ mu)) (h:Q (.ref I) s):wpAny M A (pyIter (.ref I)) Q E s:=by
 subst hM;exact sf A s s₀ fz₀ fz L l mu Q E hh gr S h
theorem src_enum {la:Addr} {items:Array Value} {Q:Value → Shared → Prop} (hM:M = model g.prog g.w) (S:St g s₀ fz₀ s.heap s.gens s.os fz L l mu) (hc:IsTup fz la items)
   (k:∀ s' I own,St g s₀ fz₀ s'.heap s'.gens s'.os fz L l (own ++ mu) → (∀ elts x1 ps,IterR g (.Tuple elts x1 ps) I (fun i v h => ∃ T vals,v = .ref T ∧ IsTup h T vals ∧ ∃ t x,items[i]? = some x ∧ vals = #[.int i t,x]) items.size 0 own fz) → SelfR g I own fz → Q (.ref I) s'):wpAny M A (call (.type "enumerate") [.ref la]) Q E s:=by
 subst hM
 refine call_enum_tuple (isTup_sub hc S.le) fun h' e => ?_
 subst e
 have S1:=S.push { cls:=.type "tuple_iterator", data:=.fields #[.ref la,.int 0 0] } rfl
 have S2:=S1.push { cls:=.type "enumerate", data:=.fields #[.none,.bool false,.ref s.heap.objs.size,rawInt 0,.none,.none] } rfl
 have hz:(s.heap.push { cls:=.type "tuple_iterator", data:=.fields #[.ref la,.int 0 0] }).objs.size = s.heap.objs.size + 1:=Heap.size_push ..
 rw [hz] at S2
 have e1:=(S2.own _ (.head _)).1
 have e2:=(S2.own _ (.tail _ (.head _))).1
 have ne:(s.heap.objs.size + 1:Addr) ≠ s.heap.objs.size:=Nat.succ_ne_self _
 have lne:la ≠ s.heap.objs.size:=fun q => by obtain ⟨o,z,_⟩:=isTup_sub hc S.le;exact Nat.lt_irrefl _ (q ▸ Heap.lt_size z)
 have lne2:la ≠ s.heap.objs.size + 1:=fun q => by obtain ⟨o,z,_⟩:=isTup_sub hc S.le;exact absurd (Heap.lt_size z) (by rw [q];exact Nat.not_lt.mpr (Nat.le_succ _))
 have W:∀ A:Around,A.handled = none → WalksT g.prog g.w A (s.heap.objs.size + 1) [s.heap.objs.size + 1,s.heap.objs.size,la] [s.heap.objs.size + 1,s.heap.objs.size] items.size _ _ _:=fun A hh =>
   WalksT.enumerateD (drawsTuple (A:=A.in1) (by exact hh) s.heap.objs.size la lne items) (s.heap.objs.size + 1) ne (fun hm => by
     rcases List.mem_cons.mp hm with q | hm
     · exact ne q
     · exact lne2 (List.mem_singleton.mp hm).symm) (.head _)
 have st0:(∃ old,IsEnum ((s.heap.push { cls:=.type "tuple_iterator", data:=.fields #[.ref la,.int 0 0] }).push { cls:=.type "enumerate", data:=.fields #[.none,.bool false,.ref s.heap.objs.size,rawInt 0,.none,.none] }) (s.heap.objs.size + 1) s.heap.objs.size ((0:Nat):Int) old) ∧
     Heap.IsTupleIter ((s.heap.push { cls:=.type "tuple_iterator", data:=.fields #[.ref la,.int 0 0] }).push { cls:=.type "enumerate", data:=.fields #[.none,.bool false,.ref s.heap.objs.size,rawInt 0,.none,.none] }) s.heap.objs.size la 0 ∧ Heap.IsTuple ((s.heap.push { cls:=.type "tuple_iterator", data:=.fields #[.ref la,.int 0 0] }).push { cls:=.type "enumerate", data:=.fields #[.none,.bool false,.ref s.heap.objs.size,rawInt 0,.none,.none] }) la items :=
   ⟨⟨.none,e1⟩,⟨_,e2,rfl,rfl⟩,isTup_sub hc S2.le⟩
 refine k _ (s.heap.objs.size + 1) [(s.heap.objs.size + 1,_),(s.heap.objs.size,_)] S2 (fun elts x1 ps => ?_) fun A s' s₀' f₀ f L' l' mu' Q' E' hA gr S' q => ?_
 · refine iter_walksT W (fun i h st b hb => ?_) items.size 0 _ _ fz (Nat.zero_add _) rfl st0 fun b hb o e => ?_
   · rcases List.mem_cons.mp hb with rfl | hb
     · obtain ⟨⟨old,z⟩,_⟩:=st;exact ⟨_,z⟩
     · rcases List.mem_cons.mp hb with rfl | hb
       · obtain ⟨_,⟨o,z,_⟩,_⟩:=st;exact ⟨o,z⟩
       · obtain rfl:=List.mem_singleton.mp hb
         obtain ⟨_,_,⟨o,z,_⟩⟩:=st;exact ⟨o,z⟩
   · rcases List.mem_cons.mp hb with rfl | hb
     · dsimp only at e1;rw [e1] at e;cases e;exact .inl (.head _)
     · rcases List.mem_cons.mp hb with rfl | hb
       · dsimp only at e2;rw [e2] at e;cases e;exact .inl (.tail _ (.head _))
       · obtain rfl:=List.mem_singleton.mp hb
         obtain ⟨o',z,c,_⟩:=hc
         have:=S2.le _ _ z
         rw [this] at e;cases e
         exact .inr ⟨z,by rw [c];exact fun q => nomatch q⟩
 · have f1:=(S'.own _ (.head _)).1
   have f2:=(S'.own _ (.tail _ (.head _))).1
   exact (W A hA).self 0 s' Q' E' ⟨⟨.none,f1⟩,⟨_,f2,rfl,rfl⟩,isTup_sub (isTup_grows hc gr) S'.le⟩ q
inductive IsRangeO (h:Heap) (r:Addr) (n:Nat):Prop
 | mk (t:_) (u:_) (v:_):IsRange h r 0 n 1 t u v → IsRangeO h r n
theorem IsRangeO.grows {t:List Addr} {h h':Heap} {r:Addr} {n:Nat} (x:IsRangeO h r n) (k:Grows t h h'):IsRangeO h' r n:=by obtain ⟨a,b,c,e⟩:=x;exact ⟨a,b,c,k _ _ e fun zz q => nomatch q⟩
theorem m_range {n:Nat} {t:Tok} {Q:Value → Shared → Prop} (hM:M = model g.prog g.w) (S:St g s₀ fz₀ s.heap s.gens s.os fz L l mu)
   (k:∀ s' fz' r,Grows g.tabs fz fz' → St g s₀ fz₀ s'.heap s'.gens s'.os fz' L l mu → IsRangeO fz' r n → Q (.ref r) s'):wpAny M A (call (.type "range") [.int n t]) Q E s:=by
 subst hM
 refine call_range_1 ?_
 obtain ⟨fz',gr,_,hf,S'⟩:=S.allocF { cls:=.type "range", data:=.fields #[.int 0 s.toks,.int n t,.int 1 (s.toks + 1)] } rfl
 exact k { s with heap:=s.heap.push _,toks:=s.toks + 1 + 1 } fz' _ gr S' ⟨_,_,_,hf⟩
theorem src_range {r:Addr} {n:Nat} {Q:Value → Shared → Prop} (hM:M = model g.prog g.w) (S:St g s₀ fz₀ s.heap s.gens s.os fz L l mu) (hc:IsRangeO fz r n) (hn:n ≤ 100000)
   (k:∀ s' I own,St g s₀ fz₀ s'.heap s'.gens s'.os fz L l (own ++ mu) → (∀ x px,IterR g (.Name x px) I (fun i v zz => ∃ t,v = .int i t) n 0 own fz) → SelfR g I own fz → Q (.ref I) s'):wpAny M A (pyIter (.ref r)) Q E s:=by
 subst hM
 obtain ⟨t,u,v,e⟩:=hc
 have hz:Builtin.Range.rangeSize 0 n 1 = n:=by unfold Builtin.Range.rangeSize;simp;lia
 have fit:∀ z:Int,-200000 ≤ z → z ≤ 200000 → Builtin.Range.rangeFitsLong z = true:=fun z h1 h2 => by unfold Builtin.Range.rangeFitsLong;simp;lia
 refine wpAny_pyIter_range (S.le _ _ e) ?_ ?_
 · unfold Builtin.Range.small
   rw [hz,fit 0 (by lia) (by lia),fit n (by lia) (by lia),fit 1 (by lia) (by lia)]
   have h2:Builtin.Range.rangeFitsLong ((n:Int) + (1 - 1)) = true:=fit _ (by lia) (by lia)
   have h3:Builtin.Range.rangeFitsLong (n:Int) = true:=fit _ (by lia) (by lia)
   simp [h3]
 · rw [hz]
   have S1:=S.push { cls:=.type "range_iterator", data:=.fields #[rawInt 0,rawInt n,rawInt 1] } rfl
   have e1:=(S1.own _ (.head _)).1
   have W:∀ A:Around,A.handled = none → Walks g.prog g.w A s.heap.objs.size [s.heap.objs.size] [s.heap.objs.size] n (fun i v => ∃ t,v = .int (0 + i * 1) t) (fun i h => IsRangeIter h s.heap.objs.size (0 + (i:Nat) * 1) ((n:Int) - (i:Nat)) 1):=fun A hh => Walks.range hh _ 0 1 n
   have st0:∀ {h:Heap},h.get? s.heap.objs.size = some { cls:=.type "range_iterator", data:=.fields #[rawInt 0,rawInt n,rawInt 1] } → IsRangeIter h s.heap.objs.size (0 + ((0:Nat):Int) * 1) ((n:Int) - ((0:Nat):Int)) 1:=fun z => by
     show _ = some _
     rw [z];simp
   refine k { s with heap:=s.heap.push _ } s.heap.objs.size [(s.heap.objs.size,_)] S1 (fun x px => ?_) fun A s' s₀' f₀ f L' l' mu' Q' E' hA gr S' q => ?_
   · have it:=iter_walks (tg:=.Name x px) W (fun zz => rfl) (fun i h st b hb => by obtain rfl:=List.mem_singleton.mp hb;exact ⟨_,st⟩) n 0 [(s.heap.objs.size,{ cls:=.type "range_iterator", data:=.fields #[rawInt 0,rawInt n,rawInt 1] })] _ fz (Nat.zero_add _) rfl (st0 e1) fun b hb o e' => by
       obtain rfl:=List.mem_singleton.mp hb
       dsimp only at e1;rw [e1] at e';cases e';exact .inl (.head _)
     have ee:(fun (i:Nat) (v:Value) (_:Heap) => ∃ t,v = .int (0 + (i:Int) * 1) t) = (fun (i:Nat) (v:Value) (_:Heap) => ∃ t,v = .int i t):=by
       funext i v _;rw [Int.mul_one,Int.zero_add]
     rw [← ee];exact it
   · exact (W A hA).self 0 s' Q' E' (st0 (S'.own _ (.head _)).1) q
end
theorem bind_star {name qual:Str} {params:Arguments} {body:List Stmt} {scope:Scope} {doc pm cdv ct self:Value} {an:Option Addr} {vs:List Value} {p1 p2:Pos} (hp:params = { posonlyargs:=[],args:=[{ arg:=Str.ofString "self", annotation:=none,pos:=p1 }],vararg:=some { arg:=Str.ofString "clauses", annotation:=none,pos:=p2 },kwonlyargs:=[],kw_defaults:=[],kwarg:=none,defaults:=[] }) :
   bindArgs (fnOf name qual params body scope .none .none doc pm an cdv ct) ⟨self :: vs,[]⟩ = (newTuple vs >>= fun t => pure [(Str.ofString "self", self),(Str.ofString "clauses", t)]):=by
 subst hp
 cases vs <;> kernel_rfl
section
variable {g:G} {s₀ s:Shared} {fz₀ fz:Heap} {L:Addr} {l:List (Str × Value)} {mu:List (Addr × Obj)} {A:Around} {E:Value → Shared → Prop}
theorem Pre.push {s':Shared} (P:Pre g s fz s' mu) (o:Obj) (hf:o.isFreed = false):Pre g s fz { s' with heap:=s'.heap.push o } ((s'.heap.objs.size,o) :: mu):=by
 have n0:s.heap.get? s'.heap.objs.size = none:=none_sub P.keep (none_of_size (Nat.le_refl _))
 refine ⟨fun b o' e => Heap.get?_push_of_some _ (P.keep b o' e),P.sub,fun p hp => ?_,?_,P.inv,P.bare,P.os_,P.gsz⟩
 · rcases List.mem_cons.mp hp with rfl | hp
   · exact ⟨Heap.get?_push_size _ hf,n0⟩
   · exact ⟨Heap.get?_push_of_some _ (P.own p hp).1,(P.own p hp).2⟩
 · rw [List.map_cons,List.nodup_cons]
   refine ⟨fun hm => ?_,P.nd⟩
   obtain ⟨p,hp,e⟩:=List.mem_map.mp hm
   have:=Heap.lt_size (P.own p hp).1
   rw [e] at this;exact Nat.lt_irrefl _ this
theorem enterV {s':Shared} {R:Result → Shared → Prop} {name qual:Str} {params:Arguments} {body:List Stmt} {scope:Scope} {doc pm cdv ct oc self:Value} {an od:Option Addr} {osl:Array (Option Value)} {f:Addr} {vs:List Value} {p1 p2:Pos}
   (hp:params = { posonlyargs:=[],args:=[{ arg:=Str.ofString "self", annotation:=none,pos:=p1 }],vararg:=some { arg:=Str.ofString "clauses", annotation:=none,pos:=p2 },kwonlyargs:=[],kw_defaults:=[],kwarg:=none,defaults:=[] })
   (hroom:A.depth < recursionLimit) (P:Pre g s fz s' mu) (hz:vs.length ≤ sizeLine)
   (ho:g.K.lookup f = some ⟨oc,od,.func (fnOf name qual params body scope .none .none doc pm an cdv ct),osl⟩) (hcd:codeIn g.K cdv qual = true)
   (hself:scope.names.lookup (Str.ofString "self") = some .local) (hcl:scope.names.lookup (Str.ofString "clauses") = some .cell)
   (hcells:∀ n,cellsFrom n scope.names [] = [(Str.ofString "clauses", n)])
   (hco:scope.isCoroutine = false) (hgen:scope.isGenerator = false) (hk:scope.kind = .function)
   (h:∀ (s₁:Shared) (fz':Heap) (L c T:Addr),Grows g.tabs fz fz' → fz'.IsCell c (some (.ref T)) → IsTup fz' T vs.toArray → St g s fz s₁.heap s₁.gens s₁.os fz' L [(Str.ofString "self", self)] mu →
     wpAny (model g.prog g.w) (A.deeper (envX qual scope L f cdv [(Str.ofString "clauses", c)])) (execs body (envX qual scope L f cdv [(Str.ofString "clauses", c)])) (fun fl s' => R (.ok (.ret (match fl with | .ret v => v | _ => .none))) s') (fun zz zz => False) s₁) :
   codeAny (model g.prog g.w) A (.call (.ref f) ⟨self :: vs,[]⟩) R s':=by
 have sub:Sub fz s'.heap:=P.sub.trans P.keep
 refine codeAny_call_function (fd:=fnOf name qual params body scope .none .none doc pm an cdv ct) (body:=body) hroom (sub _ _ (P.inv.kin _ _ ho)) rfl hco hgen rfl (codeRec_of (P.inv.kin.keeps sub) hcd) ?_
 rw [bind_star hp]
 have P1:=P.push { cls:=.type "tuple", data:=.seq vs.toArray } rfl
 refine wpAny_bind (wpAny_newTuple (wpAny_pure ?_) hz)
 generalize hT:s'.heap.objs.size = T at P1 ⊢
 generalize hs1:({ s' with heap:=s'.heap.push { cls:=.type "tuple", data:=.seq vs.toArray } }:Shared) = s1 at P1 ⊢
 have sub1:Sub fz s1.heap:=P1.sub.trans P1.keep
 have hce:=hcells (s1.heap.objs.size + 1)
 refine wpAny_newFunctionEnv_cells hk (fun x hx => ?_) fun env he s2 I => ?_
 · rcases List.mem_cons.mp hx with rfl | hx
   · exact .inl hself
   · obtain rfl:=List.mem_singleton.mp hx
     refine .inr ⟨hcl,?_⟩
     show ((cellsFrom (s1.heap.objs.size + 1) scope.names []).lookup (Str.ofString "clauses")).isSome = true
     rw [hce];simp
 · subst he
   have e:newEnv scope s1.heap.objs.size mainGlobals (cellsFrom (s1.heap.objs.size + 1) scope.names []) (qual ++ ".<locals>.") (some f) cdv none builtinsNs = envX qual scope s1.heap.objs.size f cdv [(Str.ofString "clauses", s1.heap.objs.size + 1)]:=by
     rw [hce];rfl
   have I':=I
   have e':newEnv (fnOf name qual params body scope .none .none doc pm an cdv ct).scope s1.heap.objs.size (fnOf name qual params body scope .none .none doc pm an cdv ct).globals (cellsFrom (s1.heap.objs.size + 1) (fnOf name qual params body scope .none .none doc pm an cdv ct).scope.names []) ((fnOf name qual params body scope .none .none doc pm an cdv ct).qualname ++ ".<locals>.") (some f) (fnOf name qual params body scope .none .none doc pm an cdv ct).code none (fnOf name qual params body scope .none .none doc pm an cdv ct).builtins = envX qual scope s1.heap.objs.size f cdv [(Str.ofString "clauses", s1.heap.objs.size + 1)]:=e
   rw [e'] at I ⊢
   refine ⟨(P1.inv.top.nolimit.keeps sub1).keeps I.toInCall.keep,codeAny_func ?_⟩
   have kL:∀ q:Str,(envX qual scope s1.heap.objs.size f cdv [(Str.ofString "clauses", s1.heap.objs.size + 1)]).kindOf q = scope.names.lookup q:=fun q => rfl
   obtain ⟨oc',hoc,hdc⟩ : s2.heap.IsCell (s1.heap.objs.size + 1) (some (.ref T)):=by
     have:=I.cell (Str.ofString "clauses") (s1.heap.objs.size + 1) (by show List.lookup _ [(Str.ofString "clauses", s1.heap.objs.size + 1)] = _;simp)
     have q:bindC (envX qual scope s1.heap.objs.size f cdv [(Str.ofString "clauses", s1.heap.objs.size + 1)]).kindOf [(Str.ofString "self", self),(Str.ofString "clauses", .ref T)] (fun zz => none) (Str.ofString "clauses") = some (.ref T):=by
       simp [bindC,kL,hself,hcl]
     rw [q] at this;exact this
   have ns:s2.heap.Ns s1.heap.objs.size (fun y => List.lookup y [(Str.ofString "self", self)]):=by
     have q:bindL (envX qual scope s1.heap.objs.size f cdv [(Str.ofString "clauses", s1.heap.objs.size + 1)]).kindOf [(Str.ofString "self", self),(Str.ofString "clauses", .ref T)] (fun zz => none) = fun y => List.lookup y [(Str.ofString "self", self)]:=by
       funext y
       simp only [bindL,kL,hself,hcl]
       rw [List.lookup_cons]
       by_cases h:y = Str.ofString "self"
       · subst h;simp
       · simp [h,beq_false_of_ne h]
     rw [← q];exact I.toInCall.ns
   obtain ⟨h',tk,es⟩:=I.toInCall.same
   subst es
   have n0:s1.heap.get? s1.heap.objs.size = none:=none_of_size (Nat.le_refl _)
   have n1:s1.heap.get? (s1.heap.objs.size + 1) = none:=none_of_size (Nat.le_succ _)
   have S:St g s fz h' s1.gens s1.os fz s1.heap.objs.size [(Str.ofString "self", self)] ((s1.heap.objs.size + 1,oc') :: (T,{ cls:=.type "tuple", data:=.seq vs.toArray }) :: mu):=by
     refine ⟨ns,fun b o e zz => I.toInCall.keep b o (P1.keep b o e),fun b o e => I.toInCall.keep b o (sub1 b o e),Grows.refl _ _,fun zz zz zz n => n,none_sub P1.keep n0,none_sub sub1 n0,fun p hp => ?_,?_,P1.inv,P1.bare,P1.os_,P1.gsz⟩
     · rcases List.mem_cons.mp hp with rfl | hp
       · exact ⟨hoc,Nat.succ_ne_self _,none_sub P1.keep n1,none_sub sub1 n1⟩
       · have z:=P1.own p hp
         exact ⟨I.toInCall.keep _ _ z.1,Nat.ne_of_lt (Heap.lt_size z.1),z.2,none_sub P1.sub z.2⟩
     · rw [List.map_cons,List.nodup_cons]
       refine ⟨fun hm => ?_,P1.nd⟩
       obtain ⟨p,hp,e⟩:=List.mem_map.mp hm
       have:=Heap.lt_size (P1.own p hp).1
       rw [e] at this;exact absurd this (Nat.not_lt.mpr (Nat.le_succ _))
   obtain ⟨f1,gr1,su1,hcf,S1⟩:=S.freeze 0 rfl
   obtain ⟨f2,gr2,su2,htf,S2⟩:=(show St g s fz h' s1.gens s1.os f1 s1.heap.objs.size [(Str.ofString "self", self)] ((T,{ cls:=.type "tuple", data:=.seq vs.toArray }) :: mu) from S1).freeze 0 rfl
   exact wpAny_mono (h _ f2 _ _ T (gr1.trans gr2) ⟨_,su2 _ _ hcf,hdc⟩ ⟨_,htf,rfl,_,rfl⟩ (by simpa using S2)) (fun zz zz x => x) fun zz zz x => x.elim
end
noncomputable def HasEq (g:G) (nd nu:Nat) (P:Heap → Prop) (x:Value):List Value → List Bool → Prop
 | [],[] => True
 | y :: ys,b :: bs => Runs g (eqBool y x) nd nu P (fun zz r => r = b) ∧ HasEq g nd nu P x ys bs
 | _,_ => False
theorem HasEq.length {g:G} {nd nu:Nat} {P:Heap → Prop} {x:Value}:∀ {ys:List Value} {bs:List Bool},HasEq g nd nu P x ys bs → ys.length = bs.length
 | [],[],_ => rfl
 | _ :: _,_ :: _,⟨_,r⟩ => congrArg (· + 1) r.length
 | [],_ :: _,h => h.elim
 | _ :: _,[],h => h.elim
theorem HasEq.drop {g:G} {nd nu:Nat} {P:Heap → Prop} {x:Value}:∀ {ys:List Value} {bs:List Bool} (i:Nat),HasEq g nd nu P x ys bs → HasEq g nd nu P x (ys.drop i) (bs.drop i)
 | _,_,0,h => h
 | [],[],i + 1,_ => trivial
 | _ :: _,_ :: _,i + 1,h => HasEq.drop (ys:=_) i h.2
 | [],_ :: _,_,h => h.elim
 | _ :: _,[],_,h => h.elim
section
variable {g:G} {P:Heap → Prop} {nd nu:Nat} {x:Value} {la:Addr} {ys:List Value} {bs:List Bool}
theorem in_list_loop (hP:∀ h h',Grows g.tabs h h' → P h → P h') (hE:HasEq g nd nu P x ys bs):∀ (k i:Nat) (A:Around) (s:Shared) (fz:Heap) (R:Result → Shared → Prop),ys.length - i = k → A.handled = none → A.depth + nd < recursionLimit → A.units + nu + 1 < cLine →
   Sub fz s.heap → Inv g fz → AllBare s.gens → P fz → s.heap.IsList la ys.toArray → (∀ s' fz',Aft g s fz s' fz' → R (.ok (.ret (.bool ((bs.drop i).any id)))) s') → codeAny (model g.prog g.w) A (.builtin "list.__contains__.loop" ⟨[.ref la,x,rawInt i],[]⟩) R s:=by
 intro k
 induction k with
 | zero =>
   intro i A s fz R hk hh hd hu sub inv bare pre hl hR
   obtain ⟨o,e,c,n,d⟩:=hl
   refine codeAny_builtin MeetsSeq.entry_contains_loop ?_
   rw [Around.under_plainId MeetsSeq.plain_contains_loop _]
   show wpAny _ A.in1 (Builtin.List.listItems (.ref la) >>= _) _ _ s
   unfold Builtin.List.listItems
   refine wpAny_bind (wpAny_bind (wpAny_seqItems e d (wpAny_pure ?_)))
   have hi:ys.toArray[((i:Nat):Int).toNat]? = none:=by simp;lia
   rw [hi]
   have hb:bs.drop i = []:=by rw [List.drop_eq_nil_iff,← hE.length];lia
   rw [hb] at hR
   exact wpAny_pure (hR s fz (Aft.refl sub inv bare))
 | succ k ih =>
   intro i A s fz R hk hh hd hu sub inv bare pre hl hR
   have hl0:=hl
   obtain ⟨o,e,c,n,d⟩:=hl
   refine codeAny_builtin MeetsSeq.entry_contains_loop ?_
   rw [Around.under_plainId MeetsSeq.plain_contains_loop _]
   show wpAny _ A.in1 (Builtin.List.listItems (.ref la) >>= _) _ _ s
   unfold Builtin.List.listItems
   refine wpAny_bind (wpAny_bind (wpAny_seqItems e d (wpAny_pure ?_)))
   have hlt:i < ys.length:=by lia
   have hlb:i < bs.length:=by rw [← hE.length];exact hlt
   have hi:ys.toArray[((i:Nat):Int).toNat]? = some ys[i]:=by simp [hlt]
   rw [hi]
   have hD:=hE.drop i
   rw [List.drop_eq_getElem_cons hlt,List.drop_eq_getElem_cons hlb] at hD
   rw [List.drop_eq_getElem_cons hlb,List.any_cons] at hR
   refine wpAny_bind (hD.1 A.in1 s fz _ _ (by exact hh) (by rw [Around.in1_depth];exact hd) (by rw [Around.in1_units];lia) sub inv bare pre fun r s' fz' a post => ?_)
   have post:r = bs[i]:=post
   subst post
   cases hb:bs[i] with
   | true =>
     rw [hb] at hR
     refine it_t rfl ?_
     exact wpAny_pure (by simpa using hR s' fz' a)
   | false =>
     rw [hb] at hR
     refine it_f Bool.false_ne_true ?_
     have hc:((i:Int) + 1) = ((i + 1:Nat):Int):=by push_cast;rfl
     refine wpAny_pure ⟨plainId_quiet MeetsSeq.plain_contains_loop _,?_⟩
     rw [hc]
     exact ih (i + 1) A s' fz' R (by lia) hh hd hu a.le a.inv a.bare (hP _ _ a.gr pre) (isList_grows hl0 a.keep) fun s'' fz'' b => by simpa using hR s'' fz'' (a.trans inv b)
theorem contains_list (hP:∀ h h',Grows g.tabs h h' → P h → P h') (hE:HasEq g nd nu P x ys bs) {A:Around} {s:Shared} {fz:Heap} {Q:Bool → Shared → Prop} {E:Value → Shared → Prop} (hh:A.handled = none) (hd:A.depth + nd < recursionLimit) (hu:A.units + nu + 3 < cLine)
   (sub:Sub fz s.heap) (inv:Inv g fz) (bare:AllBare s.gens) (pre:P fz) (hl:s.heap.IsList la ys.toArray) (k:∀ s' fz',Aft g s fz s' fz' → Q (bs.any id) s'):wpAny (model g.prog g.w) A (contains (.ref la) x) Q E s:=by
 have hT:s.TypeIs (.ref la) "list" := by obtain ⟨o,e,c,_⟩:=hl;exact ⟨o,e,c⟩
 refine wpAny_contains_slot hT PySem.F.slot_list_contains (wpAny_call (codeAny_call_builtin PySem.F.slot_list_contains.plain PySem.F.entry_list_contains (PySem.F.slot_list_contains.check _ _ _ _ _ _ _ _ hT (PySem.F.args_list_contains_2 _ _) ?_)))
 show wpAny _ _ (slotArgs "__contains__" 1 _ >>= _) _ _ s
 refine wpAny_bind (wpAny_pure ?_)
 refine wpAny_pure ⟨plainId_quiet MeetsSeq.plain_contains_loop _,?_⟩
 refine in_list_loop hP hE ys.length 0 _ s fz _ rfl (by exact hh) (by exact hd) (by first | (show A.units + 1 + nu + 1 < _;lia) | (show A.units + nu + 1 < _;lia)) sub inv bare pre hl fun s' fz' a => ?_
 exact wpAny_truthy_bool (by simpa using k s' fz' a)
theorem contains_tuple (hP:∀ h h',Grows g.tabs h h' → P h → P h') (hE:HasEq g nd nu P x ys bs) {A:Around} {s:Shared} {fz:Heap} {Q:Bool → Shared → Prop} {E:Value → Shared → Prop} (hh:A.handled = none) (hd:A.depth + nd < recursionLimit) (hu:A.units + nu + 3 < cLine)
   (sub:Sub fz s.heap) (inv:Inv g fz) (bare:AllBare s.gens) (pre:P fz) (hl:IsTup s.heap la ys.toArray) (k:∀ s' fz',Aft g s fz s' fz' → Q (bs.any id) s'):wpAny (model g.prog g.w) A (contains (.ref la) x) Q E s:=by
 have hT:s.TypeIs (.ref la) "tuple" := by obtain ⟨o,e,c,_⟩:=hl;exact ⟨o,e,c⟩
 obtain ⟨o,e,c,n,d⟩:=hl
 refine wpAny_contains_slot hT PySem.F.slot_tuple_contains (wpAny_call (codeAny_call_builtin PySem.F.slot_tuple_contains.plain PySem.F.entry_tuple_contains (PySem.F.slot_tuple_contains.check _ _ _ _ _ _ _ _ hT (PySem.F.args_tuple_contains_2 _ _) ?_)))
 show wpAny _ _ (slotArgs "__contains__" 1 _ >>= _) _ _ s
 refine wpAny_bind (wpAny_pure ?_)
 refine wpAny_bind (wpAny_tupleItemsOf e d ?_)
 refine wpAny_bind ?_
 refine MeetsSeq2.wpAny_forIn_array _ (fun (rest:List Value) (b:Option Fin × PUnit) s' => b.1 = none ∧ ∃ fz',Aft g s fz s' fz' ∧ ∃ bs',HasEq g nd nu P x rest bs' ∧ (bs'.any id = bs.any id)) _ ?_ ?_ _ _ ⟨rfl,fz,Aft.refl sub inv bare,bs,by simpa using hE,rfl⟩
 · rintro y rest ⟨b1,b2⟩ s' ⟨hb,fz',a,bs',hE',hq⟩
   dsimp only at hb
   subst hb
   cases bs' with
   | nil => exact hE'.elim
   | cons b bs' =>
     refine wpAny_bind (hE'.1 _ s' fz' _ _ (by exact hh) (by exact hd) (by first | (show A.units + 1 + nu < _;lia) | (show A.units + nu < _;lia)) a.le a.inv a.bare (hP _ _ a.gr pre) fun r s'' fz'' a' post => ?_)
     have post:r = b:=post
     subst post
     cases r with
     | true =>
       refine it_t rfl ?_
       refine wpAny_bind (wpAny_pure (wpAny_pure ?_))
       refine wpAny_pure (wpAny_truthy_bool ?_)
       have:bs.any id = true:=by rw [← hq];simp
       rw [← this];exact k s'' fz'' (a.trans inv a')
     | false =>
       refine it_f Bool.false_ne_true ?_
       exact wpAny_pure ⟨rfl,fz'',a.trans inv a',bs',hE'.2,by rw [← hq];simp⟩
 · rintro ⟨b1,b2⟩ s' ⟨hb,fz',a,bs',hE',hq⟩
   dsimp only at hb
   subst hb
   cases bs' with
   | cons => exact hE'.elim
   | nil =>
     refine wpAny_pure (wpAny_truthy_bool ?_)
     have:bs.any id = false:=by rw [← hq];rfl
     rw [← this];exact k s' fz' a
end
noncomputable def verEq (V U:Ver):Bool:=V.ma == U.ma && (V.mi == U.mi && (V.pa == U.pa && decide (V.pre = U.pre)))
structure VOk (V:Ver):Prop where
 words:WordsOk V.pre
 few:V.pre.length < 100
 key:V.key = if V.pre = [] then [.max] else V.pre.map idOf
inductive IsRng (h:Heap) (v:Value) (op way:Str) (U:Ver):Prop
 | mk (x:_) (t1:_) (t2:_) (t3:_) (tv:_):(v = .ref x) → Inst h x 852 [("operator", .str op t1),("target", tv),("prerelease_policy", .str way t2),("build_policy", .str (Str.ofString "implicit") t3)] → IsVer h tv U → VOk U → IsRng h v op way U
theorem IsRng.grows {t:List Addr} {h h':Heap} {v:Value} {op way:Str} {U:Ver} (x:IsRng h v op way U) (k:Grows t h h'):IsRng h' v op way U :=
 by obtain ⟨x,t1,t2,t3,tv,e,I,iv,ok⟩:=x;exact ⟨x,t1,t2,t3,tv,e,I.grows k,iv.grows k,ok⟩
noncomputable def samePatch (U V:Ver):Bool:=U.ma == V.ma && (U.mi == V.mi && U.pa == V.pa)
noncomputable def natOut (way:Str) (U V:Ver):Bool:=!decide (V.pre = []) && ((way == Str.ofString "natural") && (samePatch V U && decide (U.pre = [])))
noncomputable def rngHolds (op way:Str) (U V:Ver):Bool :=
 if (!decide (V.pre = []) && ((way == Str.ofString "same-patch") && !samePatch U V)) = true then false
 else if (op == Str.ofString "==") = true then verEq V U
 else if (op == Str.ofString ">") = true then opOrd .Gt (V.ord U)
 else if (op == Str.ofString ">=") = true then opOrd .GtE (V.ord U)
 else if (op == Str.ofString "<") = true then (if natOut way U V = true then false else opOrd .Lt (V.ord U))
 else if (op == Str.ofString "<=") = true then opOrd .LtE (V.ord U)
 else (if natOut way U V = true then false else !verEq V U)
noncomputable def OpOk (op:Str):Prop:=op = Str.ofString "==" ∨ op = Str.ofString "!=" ∨ op = Str.ofString "<" ∨ op = Str.ofString "<=" ∨ op = Str.ofString ">" ∨ op = Str.ofString ">="
inductive Cl
 | never
 | always
 | rng (op way:Str) (U:Ver)
 | any (cs:List Cl)
 | all (cs:List Cl)
mutual
noncomputable def Cl.dep:Cl → Nat
 | .any cs => depL cs + 1
 | .all cs => depL cs + 1
 | _ => 0
noncomputable def depL:List Cl → Nat
 | [] => 0
 | c :: cs => max c.dep (depL cs)
end
theorem dep_le:∀ {cs:List Cl} {c:Cl},c ∈ cs → c.dep ≤ depL cs
 | [],_,h => nomatch h
 | d :: cs, c, h => by
   unfold depL
   rcases List.mem_cons.mp h with rfl | h
   · exact Nat.le_max_left ..
   · exact Nat.le_trans (dep_le h) (Nat.le_max_right ..)
mutual
noncomputable def Cl.holds (V:Ver):Cl → Bool
 | .never => false
 | .always => true
 | .rng op way U => rngHolds op way U V
 | .any cs => anyH V cs
 | .all cs => allH V cs
noncomputable def anyH (V:Ver):List Cl → Bool
 | [] => false
 | c :: cs => c.holds V || anyH V cs
noncomputable def allH (V:Ver):List Cl → Bool
 | [] => true
 | c :: cs => c.holds V && allH V cs
end
theorem anyH_any {V:Ver}:∀ cs:List Cl,anyH V cs = cs.any fun c => c.holds V
 | [] => rfl
 | c :: cs => by unfold anyH;rw [anyH_any cs];rfl
theorem allH_all {V:Ver}:∀ cs:List Cl,allH V cs = cs.all fun c => c.holds V
 | [] => rfl
 | c :: cs => by unfold allH;rw [allH_all cs];rfl
mutual
inductive IsC (h:Heap):Value → Cl → Prop
 | never {x:Addr}:Inst h x 743 [] → IsC h (.ref x) .never
 | always {x:Addr}:Inst h x 797 [] → IsC h (.ref x) .always
 | rng {v:Value} {op way:Str} {U:Ver}:IsRng h v op way U → OpOk op → IsC h v (.rng op way U)
 | any {x l:Addr} {vs:List Value} {cs:List Cl}:Inst h x 592 [("clauses", .ref l)] → h.IsList l vs.toArray → AllC h vs cs → vs.length ≤ 1000 → IsC h (.ref x) (.any cs)
 | all {x l:Addr} {vs:List Value} {cs:List Cl}:Inst h x 663 [("clauses", .ref l)] → h.IsList l vs.toArray → AllC h vs cs → vs.length ≤ 1000 → IsC h (.ref x) (.all cs)
inductive AllC (h:Heap):List Value → List Cl → Prop
 | nil:AllC h [] []
 | cons {v:Value} {c:Cl} {vs:List Value} {cs:List Cl}:IsC h v c → AllC h vs cs → AllC h (v :: vs) (c :: cs)
end
theorem IsC.grows {t:List Addr} {h h':Heap} (k:Grows t h h') {v:Value} {c:Cl} (x:IsC h v c):IsC h' v c :=
 IsC.rec (motive_1:=fun v c zz => IsC h' v c) (motive_2:=fun vs cs zz => AllC h' vs cs) (fun I => .never (I.grows k)) (fun I => .always (I.grows k)) (fun r o => .rng (r.grows k) o)
   (fun I l zz z ih => .any (I.grows k) (isList_grows l k) ih z) (fun I l zz z ih => .all (I.grows k) (isList_grows l k) ih z) .nil (fun zz zz a b => .cons a b) x
theorem AllC.grows {t:List Addr} {h h':Heap} (k:Grows t h h') {vs:List Value}:∀ {cs:List Cl},AllC h vs cs → AllC h' vs cs:=by
 induction vs with
 | nil => intro cs a;cases a;exact .nil
 | cons v vs ih => intro cs a;cases a with | cons a b => exact .cons (a.grows k) (ih b)
theorem AllC.length {h:Heap} {vs:List Value}:∀ {cs:List Cl},AllC h vs cs → vs.length = cs.length:=by
 induction vs with
 | nil => intro cs a;cases a;rfl
 | cons v vs ih => intro cs a;cases a with | cons _ b => exact congrArg (· + 1) (ih b)
theorem AllC.get {h:Heap} {v:Value} {vs:List Value}:∀ {cs:List Cl} {i:Nat},AllC h vs cs → vs[i]? = some v → ∃ c,cs[i]? = some c ∧ IsC h v c:=by
 induction vs with
 | nil => intro cs i _ e;cases e
 | cons u vs ih =>
   intro cs i a e
   cases a with
   | cons a b =>
     cases i with
     | zero => cases e;exact ⟨_,rfl,a⟩
     | succ i => exact ih (i:=i) b e
theorem AllC.append {h:Heap} {us:List Value} {ds:List Cl} {vs:List Value}:∀ {cs:List Cl},AllC h vs cs → AllC h us ds → AllC h (vs ++ us) (cs ++ ds):=by
 induction vs with
 | nil => intro cs a b;cases a;exact b
 | cons v vs ih => intro cs a b;cases a with | cons a r => exact .cons a (ih r b)
noncomputable def Cl.eqn:Nat → Cl → Cl → Bool
 | 0,_,_ => false
 | _ + 1,.never,.never => true
 | _ + 1,.always,.always => true
 | _ + 1,.rng o w U,.rng o' w' U' => (o == o') && (verEq U U' && (w == w'))
 | n + 1,.any cs,.any ds => (cs.length == ds.length) && cs.all fun c => ds.any fun d => eqn n d c
 | n + 1,.all cs,.all ds => (cs.length == ds.length) && cs.all fun c => ds.any fun d => eqn n d c
 | _ + 1,_,_ => false
theorem bindL_two {kind:Str → Option NameKind} {x y:Str} {a b:Value} (h1:kind x = some .local) (h2:kind y = some .cell):bindL kind [(x,a),(y,b)] (fun zz => none) = fun z => List.lookup z [(x,a)]:=by
 funext z
 simp only [bindL,h1,h2]
 rw [List.lookup_cons]
 by_cases h:z = x
 · subst h;simp
 · simp [h,beq_false_of_ne h]
theorem range_any {α:Type} (f:α → Bool):∀ cs:List α,((List.range cs.length).any fun j => (cs[j]?.map f).getD false) = cs.any f
 | [] => rfl
 | c :: cs => by
   rw [List.length_cons,List.range_succ_eq_map,List.any_cons,List.any_map,List.any_cons,← range_any f cs]
   rfl
theorem range_all {α:Type} (f:α → Bool):∀ cs:List α,((List.range cs.length).all fun j => (cs[j]?.map f).getD false) = cs.all f
 | [] => rfl
 | c :: cs => by
   rw [List.length_cons,List.range_succ_eq_map,List.all_cons,List.all_map,List.all_cons,← range_all f cs]
   rfl
theorem cell_grows {g:G} {h h':Heap} {c:Addr} {v:Option Value} (inv:Inv g h) (x:h.IsCell c v) (k:Grows g.tabs h h'):h'.IsCell c v:=by
 obtain ⟨o,e,d⟩:=x
 refine ⟨o,k _ _ e fun hm => ?_,d⟩
 obtain ⟨ps,e',_⟩:=inv.tab c hm
 rw [e'] at e;cases e;cases d
section
variable {g:G} {s₀ s:Shared} {fz₀ fz:Heap} {L:Addr} {l:List (Str × Value)} {mu:List (Addr × Obj)} {A:Around} {E:Value → Shared → Prop} {M:Model} {P:Heap → Prop} {nd nu:Nat} {x:Value} {la:Addr} {ys:List Value} {bs:List Bool} {Q:Value → Shared → Prop}
theorem m_in (hM:M = model g.prog g.w) (S:St g s₀ fz₀ s.heap s.gens s.os fz L l mu) (hl:s.heap.IsList la ys.toArray) (hE:HasEq g nd nu P x ys bs) (hP:∀ h h',Grows g.tabs h h' → P h → P h') (pre:P fz) (hh:A.handled = none) (hd:A.depth + nd < recursionLimit) (hu:A.units + nu + 3 < cLine)
   (k:∀ s' fz',Grows g.tabs fz fz' → St g s₀ fz₀ s'.heap s'.gens s'.os fz' L l mu → Q (.bool (bs.any id)) s'):wpAny M A (compareOp .In x (.ref la)) Q E s:=by
 subst hM
 show wpAny _ _ (do return .bool (← contains (.ref la) x)) Q E s
 exact wpAny_bind (contains_list hP hE hh hd hu S.le S.inv S.bare pre hl fun s' fz' a => wpAny_pure (k s' fz' a.gr (S.after a)))
theorem m_notIn (hM:M = model g.prog g.w) (S:St g s₀ fz₀ s.heap s.gens s.os fz L l mu) (hl:s.heap.IsList la ys.toArray) (hE:HasEq g nd nu P x ys bs) (hP:∀ h h',Grows g.tabs h h' → P h → P h') (pre:P fz) (hh:A.handled = none) (hd:A.depth + nd < recursionLimit) (hu:A.units + nu + 3 < cLine)
   (k:∀ s' fz',Grows g.tabs fz fz' → St g s₀ fz₀ s'.heap s'.gens s'.os fz' L l mu → Q (.bool (!bs.any id)) s'):wpAny M A (compareOp .NotIn x (.ref la)) Q E s:=by
 subst hM
 show wpAny _ _ (do return .bool (!(← contains (.ref la) x))) Q E s
 exact wpAny_bind (contains_list hP hE hh hd hu S.le S.inv S.bare pre hl fun s' fz' a => wpAny_pure (k s' fz' a.gr (S.after a)))
theorem m_notInT (hM:M = model g.prog g.w) (S:St g s₀ fz₀ s.heap s.gens s.os fz L l mu) (hl:IsTup s.heap la ys.toArray) (hE:HasEq g nd nu P x ys bs) (hP:∀ h h',Grows g.tabs h h' → P h → P h') (pre:P fz) (hh:A.handled = none) (hd:A.depth + nd < recursionLimit) (hu:A.units + nu + 3 < cLine)
   (k:∀ s' fz',Grows g.tabs fz fz' → St g s₀ fz₀ s'.heap s'.gens s'.os fz' L l mu → Q (.bool (!bs.any id)) s'):wpAny M A (compareOp .NotIn x (.ref la)) Q E s:=by
 subst hM
 show wpAny _ _ (do return .bool (!(← contains (.ref la) x))) Q E s
 exact wpAny_bind (contains_tuple hP hE hh hd hu S.le S.inv S.bare pre hl fun s' fz' a => wpAny_pure (k s' fz' a.gr (S.after a)))
theorem m_len {items:Array Value} (hM:M = model g.prog g.w) (_S:St g s₀ fz₀ s.heap s.gens s.os fz L l mu) (hl:s.heap.IsList la items) (hz:items.size ≤ 100000) (k:∀ tk,Q (.int items.size tk) { s with toks:=tk + 1 }):wpAny M A (call (.builtin "len") [.ref la]) Q E s:=by
 subst hM
 exact call_len_list hl (by lia) (k _)
end
theorem HasEq.of {g:G} {nd nu:Nat} {P:Heap → Prop} {x:Value}:∀ {ys:List Value} {cs:List Cl} {f:Cl → Bool},ys.length = cs.length → (∀ (i:Nat) y c,ys[i]? = some y → cs[i]? = some c → Runs g (eqBool y x) nd nu P (fun zz r => r = f c)) → HasEq g nd nu P x ys (cs.map f)
 | [],[],_,_,_ => trivial
 | y :: ys,c :: cs,f,hl,h => ⟨h 0 y c rfl rfl,HasEq.of (by simpa using hl) fun i y' c' h1 h2 => h (i + 1) y' c' (by simpa using h1) (by simpa using h2)⟩
 | [],_ :: _,_,h,_ => nomatch h
 | _ :: _,[],_,h,_ => nomatch h
theorem verEq_refl (V:Ver):verEq V V = true:=by simp [verEq]
theorem eqnRng {n:Nat} {o w o' w':Str} {U U':Ver}:Cl.eqn (n + 1) (.rng o w U) (.rng o' w' U') = ((o == o') && (verEq U U' && (w == w'))):=rfl
theorem eqnAny {n:Nat} {cs ds:List Cl}:Cl.eqn (n + 1) (.any cs) (.any ds) = ((cs.length == ds.length) && cs.all fun c => ds.any fun d => Cl.eqn n d c):=rfl
theorem eqnAll {n:Nat} {cs ds:List Cl}:Cl.eqn (n + 1) (.all cs) (.all ds) = ((cs.length == ds.length) && cs.all fun c => ds.any fun d => Cl.eqn n d c):=rfl
theorem eqn_list {n:Nat} {cs:List Cl} (h:∀ c ∈ cs,Cl.eqn n c c = true):((cs.length == cs.length) && cs.all fun c => cs.any fun d => Cl.eqn n d c) = true:=by
 rw [beq_self_eq_true,Bool.true_and]
 exact List.all_eq_true.mpr fun c hc => List.any_eq_true.mpr ⟨c,hc,h c hc⟩
theorem eqn_refl (n:Nat):∀ c:Cl,c.dep < n → Cl.eqn n c c = true:=by
 induction n with
 | zero => exact fun c h => absurd h (Nat.not_lt_zero _)
 | succ n ih =>
   intro c h
   cases c with
   | never => rfl
   | always => rfl
   | rng o w U => rw [eqnRng,verEq_refl,beq_self_eq_true,beq_self_eq_true];rfl
   | any cs => exact eqnAny.trans (eqn_list fun c hc => ih c (Nat.lt_of_le_of_lt (dep_le hc) (Nat.lt_of_succ_lt_succ h)))
   | all cs => exact eqnAll.trans (eqn_list fun c hc => ih c (Nat.lt_of_le_of_lt (dep_le hc) (Nat.lt_of_succ_lt_succ h)))
theorem isList_inj {h:Heap} {a:Addr} {xs ys:List Value} (p:h.IsList a xs.toArray) (q:h.IsList a ys.toArray):xs = ys:=by
 obtain ⟨o,e,_,n,d⟩:=p
 obtain ⟨o',e',_,n',d'⟩:=q
 have:=Option.some.inj (e.symm.trans e')
 subst this
 rw [d] at d'
 injection d' with z
 simpa using congrArg Array.toList z
theorem allS_inj {vs:List Value}:∀ {xs ys:List Str},AllS vs xs → AllS vs ys → xs = ys:=by
 induction vs with
 | nil => intro xs ys a b;cases xs <;> cases ys <;> first | rfl | exact a.elim | exact b.elim
 | cons v vs ih =>
   intro xs ys a b
   cases xs with
   | nil => exact a.elim
   | cons => cases ys with
     | nil => exact b.elim
     | cons =>
       obtain ⟨⟨t,e⟩,a⟩:=a
       obtain ⟨⟨u,e'⟩,b⟩:=b
       have z:=e.symm.trans e'
       injection z with z
       rw [z,ih a b]
theorem eight {a b c d e f g i a' b' c' d' e' f' g' i':Value} (h:[a,b,c,d,e,f,g,i] = [a',b',c',d',e',f',g',i']):a = a' ∧ b = b' ∧ c = c' ∧ d = d' ∧ g = g':=by
 injection h with h1 h;injection h with h2 h;injection h with h3 h;injection h with h4 h;injection h with _ h;injection h with _ h;injection h with h7 h
 exact ⟨h1,h2,h3,h4,h7⟩
theorem fourth {a b c d a' b' c' d':Value} (h:[a,b,c,d] = [a',b',c',d']):d = d':=by
 injection h with _ h;injection h with _ h;injection h with _ h;injection h
theorem ver_ext {V U:Ver} (a:V.ma = U.ma) (b:V.mi = U.mi) (c:V.pa = U.pa) (d:V.pre = U.pre) (e:V.key = U.key):V = U:=by
 cases V;cases U;cases a;cases b;cases c;cases d;cases e;rfl
theorem IsTup.eqv {h:Heap} {a b:Addr} {xs ys:List Value} (p:IsTup h a xs.toArray) (q:IsTup h b ys.toArray) (e:Value.ref a = Value.ref b):xs = ys:=by
 cases e;exact IsTup.inj p q
theorem allS_of {vs us:List Value} {xs ys:List Str} (a:AllS vs xs) (b:AllS us ys) (e:vs = us):xs = ys:=by cases e;exact allS_inj a b
theorem allI_of {h:Heap} {vs us:List Value} {xs ys:List Idn} (a:AllI h vs xs) (b:AllI h us ys) (e:vs = us):xs = ys:=by cases e;exact a.inj b
theorem IsVer.inj {h:Heap} {v:Value} {V U:Ver} (p:IsVer h v V) (q:IsVer h v U):V = U:=by
 cases p with
 | mk x tp tb k1 k2 kk t1 t2 t3 t4 t5 t6 ps ks e I I2 I3 I4 I5 I6 I7 I8 => cases q with
   | mk y up ub j1 j2 jj u1 u2 u3 u4 u5 u6 qs js e' J J2 J3 J4 J5 J6 J7 J8 =>
     have z:x = y:=by injection e.symm.trans e'
     have z:=eight ((z ▸ I).vals J)
     exact ver_ext (by injection z.1) (by injection z.2.1) (by injection z.2.2.1) (allS_of I3 J3 (IsTup.eqv I2 J2 z.2.2.2.1)) (allI_of I7 J7 (IsTup.eqv I6 J6 (fourth (IsTup.eqv (xs:=[_,_,_,_]) (ys:=[_,_,_,_]) I5 J5 z.2.2.2.2))))
theorem IsRng.inj {h:Heap} {v:Value} {o o' w w':Str} {U U':Ver} (p:IsRng h v o w U) (q:IsRng h v o' w' U'):o = o' ∧ w = w' ∧ U = U':=by
 obtain ⟨x,t1,t2,t3,tv,e,I,iv,_⟩:=p
 obtain ⟨y,u1,u2,u3,uv,e',J,jv,_⟩:=q
 have z:x = y:=by injection e.symm.trans e'
 have z:=(z ▸ I).vals J
 injection z with z1 z;injection z with z2 z;injection z with z3 z
 injection z1 with z1;injection z3 with z3
 cases z2
 exact ⟨z1,z3,iv.inj jv⟩
theorem IsRng.inst {h:Heap} {v:Value} {o w:Str} {U:Ver} (p:IsRng h v o w U):∃ x kv,v = .ref x ∧ Inst h x 852 kv:=by obtain ⟨x,_,_,_,_,e,I,_,_⟩:=p;exact ⟨x,_,e,I⟩
noncomputable def Cl.cls:Cl → Addr
 | .never => 743
 | .always => 797
 | .rng .. => 852
 | .any _ => 592
 | .all _ => 663
theorem IsC.inst {h:Heap} {v:Value} {c:Cl} (p:IsC h v c):∃ x kv,v = .ref x ∧ Inst h x c.cls kv:=by
 cases p with
 | never I => exact ⟨_,_,rfl,I⟩
 | always I => exact ⟨_,_,rfl,I⟩
 | rng r _ => exact r.inst
 | any I => exact ⟨_,_,rfl,I⟩
 | all I => exact ⟨_,_,rfl,I⟩
theorem IsC.isRef {h:Heap} {v:Value} {c:Cl} (p:IsC h v c):∃ x,v = .ref x:=by
 obtain ⟨x,_,e,_⟩:=p.inst
 exact ⟨x,e⟩
theorem clash {a b:Nat} (e:a = b) (h:Nat.beq a b = false) {P:Prop}:P:=by subst e;exact absurd ((Nat.beq_refl a).symm.trans h) (by decide)
theorem IsC.at {h:Heap} {x C:Addr} {kv:List (Str × Value)} {d:Cl} (q:IsC h (.ref x) d) (I:Inst h x C kv):C = d.cls:=by
 obtain ⟨y,kv,e,J⟩:=q.inst
 cases e
 exact I.cls J
theorem Inst.one {h:Heap} {x C D a b:Addr} {n n':Str} (I:Inst h x C [(n,.ref a)]) (J:Inst h x D [(n',.ref b)]):a = b:=by
 have z:=I.vals J
 injection z with z _
 injection z
theorem IsC.any_inj {h:Heap} {x l C:Addr} {vs:List Value} {cs:List Cl} {d:Cl} (I:Inst h x C [("clauses", .ref l)]) (e:C = 592) (L:h.IsList l vs.toArray) (ih:∀ ds,AllC h vs ds → cs = ds) (q:IsC h (.ref x) d):Cl.any cs = d:=by
 have e:=e.symm.trans (q.at I)
 cases q with
 | any I' l' a' _ =>
   have z:=I.one I';subst z
   have z:=isList_inj L l';subst z
   exact congrArg Cl.any (ih _ a')
 | _ => exact clash e rfl
theorem IsC.all_inj {h:Heap} {x l C:Addr} {vs:List Value} {cs:List Cl} {d:Cl} (I:Inst h x C [("clauses", .ref l)]) (e:C = 663) (L:h.IsList l vs.toArray) (ih:∀ ds,AllC h vs ds → cs = ds) (q:IsC h (.ref x) d):Cl.all cs = d:=by
 have e:=e.symm.trans (q.at I)
 cases q with
 | all I' l' a' _ =>
   have z:=I.one I';subst z
   have z:=isList_inj L l';subst z
   exact congrArg Cl.all (ih _ a')
 | _ => exact clash e rfl
theorem IsC.rng_inj {h:Heap} {v:Value} {o w:Str} {U:Ver} {d:Cl} (r:IsRng h v o w U) (q:IsC h v d):Cl.rng o w U = d:=by
 obtain ⟨x,kv',e',I⟩:=r.inst
 cases e'
 have e:=q.at I
 cases q with
 | rng r' _ => obtain ⟨a,b,c⟩:=r.inj r';rw [a,b,c]
 | _ => exact clash e rfl
theorem IsC.leaf_inj {h:Heap} {x C:Addr} {c d:Cl} (I:Inst h x C []) (q:IsC h (.ref x) d) (hc:C = c.cls) (k:c = .never ∨ c = .always):c = d:=by
 have e:=hc.symm.trans (q.at I)
 rcases k with rfl | rfl <;> cases d <;> first | rfl | exact clash e rfl
theorem IsC.inj {h:Heap} {v:Value} {c d:Cl} (p:IsC h v c) (q:IsC h v d):c = d :=
 IsC.rec (motive_1:=fun v c zz => ∀ d,IsC h v d → c = d) (motive_2:=fun vs cs zz => ∀ ds,AllC h vs ds → cs = ds) (fun I zz q => IsC.leaf_inj I q rfl (.inl rfl)) (fun I zz q => IsC.leaf_inj I q rfl (.inr rfl)) (fun r zz zz q => IsC.rng_inj r q)
   (fun I l zz zz ih zz q => IsC.any_inj I rfl l ih q) (fun I l zz zz ih zz q => IsC.all_inj I rfl l ih q) (fun zz q => by cases q;rfl) (fun zz zz a b zz q => by cases q with | cons c d => rw [a _ c,b _ d]) p d q
theorem AllC.inj {h:Heap} {vs:List Value}:∀ {cs ds:List Cl},AllC h vs cs → AllC h vs ds → cs = ds:=by
 induction vs with
 | nil => intro cs ds a b;cases a;cases b;rfl
 | cons v vs ih => intro cs ds a b;cases a with | cons a r => cases b with | cons b t => rw [a.inj b,ih r t]
theorem isSlice_grows {t:List Addr} {h h':Heap} {a:Addr} {x y z:Value} (s:h.IsSliceOf a x y z) (k:Grows t h h'):h'.IsSliceOf a x y z :=
 by obtain ⟨o,e,c,d⟩:=s;exact ⟨o,k _ _ e (fun zz q => by rw [c] at q;cases q),c,d⟩
theorem isSlice_sub {h h':Heap} {a:Addr} {x y z:Value} (s:h.IsSliceOf a x y z) (k:Sub h h'):h'.IsSliceOf a x y z:=isSlice_grows s (k.grows [])
section
variable {prog:Program} {w:World} {A:Around} {E:Value → Shared → Prop} {s:Shared}
theorem adjust_to (a n:Nat) (ha:a ≤ n):Builtin.Slice.sliceAdjust none (some (a:Int)) 1 (n:Int) = (0,(a:Int)):=by
 unfold Builtin.Slice.sliceAdjust
 have h1:¬ ((1:Int) < 0):=by lia
 have h2:¬ ((a:Int) < 0):=by lia
 simp only [h1,h2,if_false]
 congr 1
 lia
theorem places_to (a:Nat):Builtin.Slice.slicePlaces 0 (a:Int) 1 = a:=by
 unfold Builtin.Slice.slicePlaces
 have h1:(1:Int) > 0:=by lia
 simp only [h1,if_true,Int.ediv_one]
 split <;> lia
theorem sliceApplied_to {sl:Addr} {a n:Nat} {u:Tok} {Q:Int × Int × Nat → Shared → Prop} (hs:s.heap.IsSliceOf sl .none (.int a u) .none) (ha:a ≤ n) (h:Q (0,1,a) s) :
   wpAny (model prog w) A (Builtin.Slice.sliceApplied (.ref sl) (pure (n:Int))) Q E s:=by
 obtain ⟨os,hos,hcs,hds⟩:=id hs
 unfold Builtin.Slice.sliceApplied Builtin.Slice.sliceFields
 refine wpAny_bind (wpAny_bind (wpAny_field hos hds (x:=.none) rfl (wpAny_bind (wpAny_field hos hds (x:=.int a u) rfl (wpAny_bind (wpAny_field hos hds (x:=.none) rfl (wpAny_pure ?_)))))))
 refine wpAny_bind (slicePart_none ?_)
 show wpAny _ _ (if ((1:Int) == 0) = true then _ else _) _ _ s
 rw [if_neg (by decide)]
 refine wpAny_bind (slicePart_none (wpAny_bind (slicePart_int (wpAny_bind (wpAny_pure ?_)))))
 show wpAny _ _ (match Builtin.Slice.sliceAdjust none (some (a:Int)) 1 (n:Int) with | (lo,hi) => pure (lo,(1:Int),Builtin.Slice.slicePlaces lo hi 1)) _ _ s
 rw [adjust_to a n ha]
 show wpAny _ _ (pure ((0:Int),(1:Int),Builtin.Slice.slicePlaces 0 (a:Int) 1)) _ _ s
 rw [places_to a]
 exact wpAny_pure h
theorem pick_to (xs:Array Value) (a:Nat) (ha:a ≤ xs.size):((List.range a).filterMap fun (k:Nat) => xs[((0:Int) + (k:Int) * 1).toNat]?).toArray = (xs.toList.take a).toArray:=by
 congr 1
 have e:(fun (k:Nat) => xs[((0:Int) + (k:Int) * 1).toNat]?) = fun k => xs[k]? := by
   funext k
   have:((0:Int) + (k:Int) * 1).toNat = k:=by lia
   rw [this]
 rw [e]
 induction a with
 | zero => simp
 | succ a ih =>
   have hlt:a < xs.size:=by lia
   rw [List.range_succ,List.filterMap_append,ih (by lia),List.take_succ]
   simp [hlt]
theorem getItem_tuple_to {t sl:Addr} {items:Array Value} {a:Nat} {u:Tok} {Q:Value → Shared → Prop} (ht:IsTup s.heap t items) (hs:s.heap.IsSliceOf sl .none (.int a u) .none) (ha:a < items.size)
   (h:Q (.ref s.heap.objs.size) { s with heap:=s.heap.push { cls:=.type "tuple", data:=.seq (items.toList.take a).toArray } })
   (hsz:items.size ≤ sizeLine:=by size_fits):wpAny (model prog w) A (getItem (.ref t) (.ref sl)) Q E s:=by
 have hdrop:sizeOk (.seq (items.toList.take a).toArray):=by
   show (items.toList.take a).toArray.size ≤ sizeLine
   rw [List.size_toArray,List.length_take,Array.length_toList]
   lia
 obtain ⟨os,hos,hcs,hds⟩:=id hs
 have hTs:s.TypeIs (.ref sl) "slice" := ⟨os,hos,hcs⟩
 unfold getItem
 try with_reducible refine wpAny_holding ?_
 first | refine wpAny_bind (wpAny_pure ?_) | skip
 refine wpAny_bind (wpAny_sequenceKey ht.typeIs (by decide) ?_)
 refine wpAny_bind (wpAny_callSpecial?_slot (name:=Str.ofString "__getitem__") ht.typeIs slot_tuple_getitem
   (wpAny_call_entry slot_tuple_getitem ht.typeIs entry_tuple_getitem ?_ (args_tuple_getitem _ _)))
 show wpAny _ _ (Builtin.Tuple.tupleItemsOf (.ref t) >>= _) _ _ s
 refine wpAny_bind (tupleItemsOf_ ht ?_)
 refine wpAny_bind (wpAny_typeOf hTs ?_)
 rw [if_pos (by decide)]
 refine wpAny_bind (sliceApplied_to hs (Nat.le_of_lt ha) ?_)
 have hno:¬ (((0:Int) == 0 && (1:Int) == 1 && a == items.size) = true):=by
   have:(a == items.size) = false:=by rw [beq_eq_false_iff_ne];lia
   rw [this];simp
 show wpAny _ _ (if ((0:Int) == 0 && (1:Int) == 1 && a == items.size) = true then _ else _) _ _ s
 rw [if_neg hno,pick_to items a (Nat.le_of_lt ha)]
 first
   | exact wpAny_bind (m:=Builtin.Tuple.tupleExact _) (wpAny_newObj_type (wpAny_pure ⟨_,rfl,wpAny_pure h⟩) hdrop)
   | exact wpAny_bind (m:=Builtin.Tuple.tupleExact _) (wpAny_newObj_type (wpAny_bind (wpAny_pure (wpAny_pure ⟨_,rfl,wpAny_pure h⟩))) hdrop)
   | exact wpAny_bind (wpAny_bind (m:=Builtin.Tuple.tupleExact _) (wpAny_newObj_type (wpAny_pure (wpAny_pure ⟨_,rfl,wpAny_pure h⟩)) hdrop))
   | exact wpAny_bind (wpAny_bind (m:=Builtin.Tuple.tupleExact _) (wpAny_newObj_type (wpAny_pure ⟨_,rfl,wpAny_pure h⟩) hdrop))
end
section
variable {g:G} {s₀ s:Shared} {fz₀ fz:Heap} {L:Addr} {l:List (Str × Value)} {mu:List (Addr × Obj)} {A:Around} {E:Value → Shared → Prop} {M:Model} {env:Env}
inductive SliceP (g:G) (s₀:Shared) (fz₀:Heap) (L:Addr) (Q:Value → Shared → Prop) (x y z:Value) (s:Shared):Prop
 | mk (fz:_) (l:_) (mu:_):St g s₀ fz₀ s.heap s.gens s.os fz L l mu → (∀ s' fz' sl,Grows g.tabs fz fz' → St g s₀ fz₀ s'.heap s'.gens s'.os fz' L l mu → fz'.IsSliceOf sl x y z → Q (.ref sl) s') → SliceP g s₀ fz₀ L Q x y z s
theorem m_Slice {lower upper step:Option PySem.Expr} {p:Pos} {Q:Value → Shared → Prop} (_S:St g s₀ fz₀ s.heap s.gens s.os fz L l mu)
   (h:wpAny M A (evalPart lower env) (fun x s₁ => wpAny M A (evalPart upper env) (fun y s₂ => wpAny M A (evalPart step env) (fun z s₃ => SliceP g s₀ fz₀ L Q x y z s₃) E s₂) E s₁) E s) :
   wpAny M A (eval (.Slice lower upper step p) env) Q E s:=by
 refine wpAny_Slice (wpAny_mono h (fun x s₁ h₁ => wpAny_mono h₁ (fun y s₂ h₂ => wpAny_mono h₂ (fun z s₃ h₃ => ?_) fun zz zz e => e) fun zz zz e => e) fun zz zz e => e)
 obtain ⟨fz,l,mu,S,k⟩:=h₃
 obtain ⟨fz',gr,_,hf,S'⟩:=S.allocF { cls:=.type "slice", data:=.fields #[x,y,z] } rfl
 exact k { s₃ with heap:=s₃.heap.push _ } fz' _ gr S' ⟨_,hf,rfl,rfl⟩
theorem m_subT {value slice:PySem.Expr} {t sl:Addr} {vs:List Value} {a:Nat} {u:Tok} {Q:Value → Shared → Prop} (hM:M = model g.prog g.w) (S:St g s₀ fz₀ s.heap s.gens s.os fz L l mu) (ht:IsTup fz t vs.toArray) (hs:fz.IsSliceOf sl .none (.int a u) .none) (ha:a < vs.length) (hz:vs.length ≤ 100000)
   (hsub:subscripted slice false (.ref t) (.ref sl) = operate [.ref sl,.ref t] (getItem (.ref t) (.ref sl))) (hg:∀ r,letTemporaryGo value (.ref t) r = pure ())
   (k:∀ s' fz' t',Grows g.tabs fz fz' → St g s₀ fz₀ s'.heap s'.gens s'.os fz' L l mu → IsTup fz' t' (vs.take a).toArray → Q (.ref t') s'):wpAny M A (subscriptTail value slice (.ref t) (.ref sl)) Q E s:=by
 subst hM
 have ht':=isTup_sub ht S.le
 refine subscriptTail_ops ht'.typeIs slot_tuple_getitem.lookup (getItem_tuple_to ht' (isSlice_sub hs S.le) (by simpa using ha) ?_ (by have:=sizeLine_eq;simp only [List.size_toArray];lia)) hsub hg
 obtain ⟨fz',gr,_,hf,S'⟩:=S.allocF { cls:=.type "tuple", data:=.seq (vs.toArray.toList.take a).toArray } rfl
 exact k { s with heap:=s.heap.push _ } fz' _ gr S' ⟨_,hf,rfl,_,rfl⟩
end
theorem AllC.take {h:Heap}:∀ {vs:List Value} {cs:List Cl} (i:Nat),AllC h vs cs → AllC h (vs.take i) (cs.take i)
 | _,_,0,_ => .nil
 | _,_,_ + 1,.nil => .nil
 | _,_,i + 1,.cons a b => .cons a (b.take i)
theorem AllC.snoc {h:Heap} {vs:List Value} {cs:List Cl} {v:Value} {c:Cl} (a:AllC h vs cs) (b:IsC h v c):AllC h (vs ++ [v]) (cs ++ [c]):=a.append (.cons b .nil)
noncomputable def dedK (N:Nat) (cs:List Cl):Nat → List Cl
 | 0 => []
 | i + 1 => dedK N cs i ++ (match cs[i]? with | some c => if (cs.take i).any (fun d => Cl.eqn N d c) = true then [] else [c] | none => [])
noncomputable def ded (N:Nat) (cs:List Cl):List Cl:=dedK N cs cs.length
theorem dedK_no {N:Nat} {cs:List Cl} {i:Nat} {c:Cl} (h:cs[i]? = some c) (q:(cs.take i).any (fun d => Cl.eqn N d c) = true):dedK N cs (i + 1) = dedK N cs i:=by
 show dedK N cs i ++ (match cs[i]? with | some c => if (cs.take i).any (fun d => Cl.eqn N d c) = true then [] else [c] | none => []) = _
 rw [h];dsimp only;rw [if_pos q,List.append_nil]
theorem dedK_yes {N:Nat} {cs:List Cl} {i:Nat} {c:Cl} (h:cs[i]? = some c) (q:(cs.take i).any (fun d => Cl.eqn N d c) = false):dedK N cs (i + 1) = dedK N cs i ++ [c]:=by
 show dedK N cs i ++ (match cs[i]? with | some c => if (cs.take i).any (fun d => Cl.eqn N d c) = true then [] else [c] | none => []) = _
 rw [h];dsimp only;rw [if_neg (by rw [q];exact Bool.false_ne_true)]
theorem at0 {α:Type} {p:α} {r:List α}:(p :: r)[0]? = some p:=rfl
theorem at1 {α:Type} {p a:α} {r:List α}:(a :: p :: r)[1]? = some p:=rfl
theorem at2 {α:Type} {p a b:α} {r:List α}:(a :: b :: p :: r)[2]? = some p:=rfl
theorem at3 {α:Type} {p a b c:α} {r:List α}:(a :: b :: c :: p :: r)[3]? = some p:=rfl
section
variable {M:Model} {A:Around} {E:Value → Shared → Prop} {s:Shared}
theorem wpAny_inplaceOp_lists {a b:Addr} {xs ys:Array Value} {c d:Nat} {prog:Program} {w:World} {Q:Value → Shared → Prop} (ha:s.heap.get? a = some (accObj xs c)) (hb:s.heap.get? b = some (accObj ys d)) (hz:xs.size + ys.size ≤ 100000)
   (h:Q (.ref a) { s with heap:=s.heap.update a (Obj.mapSeq fun x => x ++ ys) }):wpAny (model prog w) A (inplaceOp .Add (.ref a) (.ref b)) Q E s:=by
 have hTa:s.TypeIs (.ref a) "list" := ⟨_,ha,rfl⟩
 have hTb:s.TypeIs (.ref b) "list" := ⟨_,hb,rfl⟩
 have hsl:=sizeLine_eq
 unfold inplaceOp
 refine wpAny_holding ?_
 have hfi:fillsInplaceSlot (.type "list") "add" (Operator.Add == .Add) = pure false:=by
   unfold fillsInplaceSlot
   show (typeLookup (.type "list") (dunderI "add") >>= fun fi => pure (fi.isSome && !isSeqSlot fi)) = pure false
   rw [PySem.F.slot_list_iadd.lookup]
   rw [pure_bind]
   rw [show isSeqSlot (some (.builtin "list.__iadd__")) = true by decide +kernel];rfl
 have hsi:seqSlot? (.type "list") (dunderI "add") = pure (some (.builtin "list.__iadd__")):=PySem.seqSlot_of PySem.F.slot_list_iadd.lookup (by decide +kernel)
 refine wpAny_bind (wpAny_typeOf hTa (wpAny_bind (wpAny_of_eq hfi ?_)))
 show wpAny _ A (if false = true then _ else _) Q E s
 rw [if_neg Bool.false_ne_true]
 refine wpAny_bind (wpAny_binaryOp1_none (nm := "add") hTa hTb noFill_list_add ?_)
 refine wpAny_bind (wpAny_of_eq hsi ?_)
 refine wpAny_bind (wpAny_rule ?_)
 refine call_meets PySem.F.slot_list_iadd hTa PySem.F.entry_list_iadd (PySem.F.args_list_iadd_2 _ _) (AutoSeq1.list___iadd___list_list_0 a xs c b ys d ?_ (by lia) (by lia)) ⟨ha,hb,h⟩
 have:Builtin.List.listTooLong (xs.size + ys.size) = false:=by unfold Builtin.List.listTooLong;simp;lia
 rw [this];simp
end
section
variable {g:G} {s₀ s:Shared} {fz₀ fz:Heap} {L:Addr} {l:List (Str × Value)} {mu:List (Addr × Obj)} {A:Around} {E:Value → Shared → Prop} {M:Model} {env:Env} {a b:Addr} {xs ys:Array Value} {c d i j:Nat}
theorem St.listAt {h:Heap} {gn:Array GenState} {os:OsState} (S:St g s₀ fz₀ h gn os fz L l mu) (hi:mu[i]? = some (a,accObj xs c)):h.IsList a xs:=⟨_,(S.own _ (mem_at hi)).1,rfl,_,rfl⟩
theorem m_iadd {Q:Value → Shared → Prop} (hM:M = model g.prog g.w) (S:St g s₀ fz₀ s.heap s.gens s.os fz L l mu) (hi:mu[i]? = some (a,accObj xs c)) (hj:mu[j]? = some (b,accObj ys d)) (hz:xs.size + ys.size ≤ 100000)
   (k:∀ s' c',St g s₀ fz₀ s'.heap s'.gens s'.os fz L l (mu.set i (a,accObj (xs ++ ys) c')) → Q (.ref a) s'):wpAny M A (inplaceOp .Add (.ref a) (.ref b)) Q E s:=by
 subst hM
 refine wpAny_inplaceOp_lists (S.own _ (mem_at hi)).1 (S.own _ (mem_at hj)).1 hz ?_
 exact k { s with heap:=_ } _ (S.set i (Obj.mapSeq fun x => x ++ ys) hi rfl)
theorem m_addL {Q:Value → Shared → Prop} (hM:M = model g.prog g.w) (S:St g s₀ fz₀ s.heap s.gens s.os fz L l mu) (hl:s.heap.IsList a xs) (hb:s.heap.IsList b ys) (hz:xs.size + ys.size ≤ 100000)
   (k:∀ s' D,St g s₀ fz₀ s'.heap s'.gens s'.os fz L l ((D,accObj (xs ++ ys) 0) :: mu) → Q (.ref D) s'):wpAny M A (binaryOp .Add (.ref a) (.ref b)) Q E s:=by
 subst hM
 have hsl:=sizeLine_eq
 obtain ⟨⟨cls,dd,data,sl⟩,ho,hc,n,hd⟩:=id hl
 obtain ⟨⟨cls2,dd2,data2,sl2⟩,ho2,hc2,n2,hd2⟩:=id hb
 simp only at hc hd hc2 hd2
 subst hc hd hc2 hd2
 refine concat_meets ⟨_,ho,rfl⟩ ⟨_,ho2,rfl⟩ noFill_list_add seq_list_add PySem.F.slot_list_add PySem.F.entry_list_add (PySem.F.args_list_add_2 _ _) (list_addW a b xs ys n n2 dd dd2 sl sl2 (by lia)) ⟨ho,ho2,?_⟩
 exact k { s with heap:=_ } _ (S.push (accObj (xs ++ ys) 0) rfl)
theorem m_pop {y:Value} {Q:Value → Shared → Prop} (hM:M = model g.prog g.w) (S:St g s₀ fz₀ s.heap s.gens s.os fz L l mu) (hi:mu[i]? = some (a,accObj xs c)) (hy:xs[xs.size - 1]? = some y) (hz:xs.size ≤ 100000)
   (k:∀ s' c' xs',St g s₀ fz₀ s'.heap s'.gens s'.os fz L l (mu.set i (a,accObj xs' c')) → Q y s'):wpAny M A (call (.builtin "list.pop") [.ref a]) Q E s:=by
 subst hM
 have hsl:=sizeLine_eq
 have ho:s.heap.get? a = some (accObj xs c):=(S.own _ (mem_at hi)).1
 refine call_meets PySem.F.slot_list_pop ⟨_,ho,rfl⟩ PySem.F.entry_list_pop (PySem.F.args_list_pop_1 _) (PySem.MeetsSeq.list_pop_last a xs c y hy (by lia)) ⟨ho,?_⟩
 exact k { s with heap:=_ } _ _ (S.set i (Obj.mapSeq fun xs' => xs'.eraseIdxIfInBounds (xs.size - 1)) hi rfl)
theorem getMethod_pop {pl:Sem Bool} {Q:Value × List Value → Shared → Prop} (_hM:M = model g.prog g.w) (S:St g s₀ fz₀ s.heap s.gens s.os fz L l mu) (hi:mu[i]? = some (a,accObj xs c)) (h:Q (.builtin "list.pop", [.ref a]) s):wpAny M A (getMethod (.ref a) (Str.ofString "pop") pl) Q E s:=by
 have ho:=(S.own _ (mem_at hi)).1
 exact getMethod_builtin ⟨_,ho,rfl⟩ PySem.F.plainAttrs_list PySem.F.slot_list_pop PySem.F.type_list_pop (fun a' e => by cases e;exact ⟨_,ho,rfl⟩) h
theorem m_star {Q:List Value → Shared → Prop} (hM:M = model g.prog g.w) (S:St g s₀ fz₀ s.heap s.gens s.os fz L l mu) (hl:s.heap.IsList a xs) (hz:xs.size ≤ 100000)
   (k:∀ s',St g s₀ fz₀ s'.heap s'.gens s'.os fz L l mu → Q xs.toList s'):StarOf M A E (.ref a) Q s:=by
 subst hM
 have hsl:=sizeLine_eq
 obtain ⟨o,ho,hc,n,hd⟩:=id hl
 have z:wpAny (model g.prog g.w) A (collect (.ref a)) Q E s :=
   wpAny_collect_seq a (.inl rfl) ho hc hd (fun h' hk => k { s with heap:=h' } (S.ext hk)) (by lia)
 unfold StarOf notIterableAtAll
 exact wpAny_bind (wpAny_specialOf (⟨o,ho,hc⟩ : s.TypeIs (.ref a) "list") PySem.F.slot_list_iter.lookup (wpAny_pure ⟨rfl,z⟩))
theorem St.kIn {h:Heap} {gn:Array GenState} {os:OsState} (S:St g s₀ fz₀ h gn os fz L l mu):g.K.In h:=S.inv.kin.keeps S.le
theorem St.front {h:Heap} {gn:Array GenState} {os:OsState} {x:Str} {v:Value} (S:St g s₀ fz₀ h gn os fz L l mu) (e:l.lookup x = some v):St g s₀ fz₀ h gn os fz L ((x,v) :: l) mu:=by
 refine S.names fun y => ?_
 rw [List.lookup_cons]
 by_cases q:y = x
 · subst q;simp [e]
 · rw [beq_false_of_ne q]
end
noncomputable def Cl.parts:Bool → Cl → Option (List Cl)
 | true,.any ds => some ds
 | false,.all ds => some ds
 | _,_ => none
noncomputable def unitC:Bool → Cl
 | true => .never
 | false => .always
noncomputable def mkC:Bool → List Cl → Cl
 | true,cs => .any cs
 | false,cs => .all cs
noncomputable def stepS (N:Nat) (b:Bool) (acc:List Cl) (s:Cl):List Cl :=
 match s.parts b with
 | some ds => acc ++ ds.filter fun d => !acc.any fun a => Cl.eqn N a d
 | none => if Cl.eqn N s (unitC b) = true then acc else if acc.any (fun a => Cl.eqn N a s) = true then acc else acc ++ [s]
noncomputable def finS (N:Nat) (b:Bool) (acc:List Cl):Cl :=
 match acc with
 | [c] => c
 | acc => mkC b (ded N acc)
mutual
noncomputable def Cl.simp (N:Nat):Cl → Cl
 | .any cs => finS N true (simpL N true cs [])
 | .all cs => finS N false (simpL N false cs [])
 | c => c
noncomputable def simpL (N:Nat) (b:Bool):List Cl → List Cl → List Cl
 | [],acc => acc
 | c :: cs,acc => simpL N b cs (stepS N b acc (c.simp N))
end
theorem simpL_snoc (N:Nat) (b:Bool):∀ (cs:List Cl) (c:Cl) (acc:List Cl),simpL N b (cs ++ [c]) acc = stepS N b (simpL N b cs acc) (c.simp N)
 | [],c,acc => by simp only [List.nil_append,simpL]
 | d :: cs,c,acc => by simp only [List.cons_append,simpL];exact simpL_snoc N b cs c _
theorem simpL_take {N:Nat} {b:Bool} {cs:List Cl} {i:Nat} {c:Cl} (h:cs[i]? = some c):simpL N b (cs.take (i + 1)) [] = stepS N b (simpL N b (cs.take i) []) (c.simp N):=by
 rw [List.take_add_one,h];exact simpL_snoc N b _ _ _
mutual
noncomputable def Cl.wt:Cl → Nat
 | .any cs => wtL cs + 1
 | .all cs => wtL cs + 1
 | _ => 1
noncomputable def wtL:List Cl → Nat
 | [] => 0
 | c :: cs => c.wt + wtL cs
end
theorem Cl.wt_pos (c:Cl):1 ≤ c.wt:=by cases c <;> first | exact Nat.le_refl 1 | exact Nat.le_add_left 1 _
theorem wtL_append:∀ cs ds:List Cl,wtL (cs ++ ds) = wtL cs + wtL ds
 | [],ds => by simp [wtL]
 | c :: cs,ds => by simp only [List.cons_append,wtL,wtL_append cs ds];lia
theorem len_wtL:∀ cs:List Cl,cs.length ≤ wtL cs
 | [] => Nat.le_refl _
 | c :: cs => by have:=len_wtL cs;have:=c.wt_pos;simp only [List.length_cons,wtL];lia
theorem depL_append:∀ cs ds:List Cl,depL (cs ++ ds) = max (depL cs) (depL ds)
 | [],ds => by simp [depL]
 | c :: cs, ds => by
   show max c.dep (depL (cs ++ ds)) = max (max c.dep (depL cs)) (depL ds)
   rw [depL_append cs ds,Nat.max_assoc]
theorem depL_le {cs:List Cl} {n:Nat} (h:∀ c ∈ cs,c.dep ≤ n):depL cs ≤ n:=by
 induction cs with
 | nil => exact Nat.zero_le _
 | cons c cs ih => exact Nat.max_le.mpr ⟨h c (.head _),ih fun d hd => h d (.tail _ hd)⟩
theorem wtL_sub {cs ds:List Cl} (h:cs.Sublist ds):wtL cs ≤ wtL ds:=by
 induction h with
 | slnil => exact Nat.le_refl _
 | cons a s ih => exact Nat.le_trans ih (Nat.le_add_left _ _)
 | cons_cons a s ih => exact Nat.add_le_add_left ih _
theorem depL_sub {cs ds:List Cl} (h:cs.Sublist ds):depL cs ≤ depL ds:=depL_le fun c hc => dep_le (h.subset hc)
theorem dedK_sub (N:Nat) (cs:List Cl):∀ i,(dedK N cs i).Sublist (cs.take i)
 | 0 => by simp [dedK]
 | i + 1 => by
   have ih:=dedK_sub N cs i
   rw [List.take_add_one]
   show List.Sublist (dedK N cs i ++ (match cs[i]? with | some c => if (cs.take i).any (fun d => Cl.eqn N d c) = true then [] else [c] | none => [])) _
   refine ih.append ?_
   cases cs[i]? with
   | none => exact List.Sublist.refl _
   | some c =>
     dsimp only
     split
     · exact List.nil_sublist _
     · exact List.Sublist.refl _
theorem ded_sub (N:Nat) (cs:List Cl):(ded N cs).Sublist cs:=by have:=dedK_sub N cs cs.length;rwa [List.take_length] at this
theorem wt_mkC (b:Bool) (cs:List Cl):(mkC b cs).wt = wtL cs + 1:=by cases b <;> rfl
theorem dep_mkC (b:Bool) (cs:List Cl):(mkC b cs).dep = depL cs + 1:=by cases b <;> rfl
theorem parts_wt {b:Bool} {c:Cl} {ds:List Cl} (h:c.parts b = some ds):c = mkC b ds:=by
 cases b <;> cases c <;> first | exact congrArg Cl.any (Option.some.inj h) | exact congrArg Cl.all (Option.some.inj h) | exact nomatch h
set_option tactic.hygienic true in
theorem stepS_le (N:Nat) (b:Bool) (acc:List Cl) (s:Cl):wtL (stepS N b acc s) ≤ wtL acc + s.wt ∧ depL (stepS N b acc s) ≤ max (depL acc) s.dep:=by
 unfold stepS
 split
 · rename_i ds hds
   have e:=parts_wt hds
   have h1:wtL (ds.filter fun d => !acc.any fun a => Cl.eqn N a d) ≤ wtL ds:=wtL_sub List.filter_sublist
   have h2:depL (ds.filter fun d => !acc.any fun a => Cl.eqn N a d) ≤ depL ds:=depL_sub List.filter_sublist
   rw [wtL_append,depL_append,e,wt_mkC,dep_mkC]
   exact ⟨Nat.add_le_add_left (Nat.le_succ_of_le h1) _,Nat.max_le.mpr ⟨Nat.le_max_left _ _,Nat.le_trans (Nat.le_succ_of_le h2) (Nat.le_max_right _ _)⟩⟩
 · split
   · exact ⟨Nat.le_add_right _ _,Nat.le_max_left _ _⟩
   · split
     · exact ⟨Nat.le_add_right _ _,Nat.le_max_left _ _⟩
     · rw [wtL_append,depL_append];exact ⟨Nat.le_refl _,Nat.max_le.mpr ⟨Nat.le_max_left _ _,Nat.max_le.mpr ⟨Nat.le_max_right _ _,Nat.zero_le _⟩⟩⟩
theorem finS_le (N:Nat) (b:Bool) (acc:List Cl):(finS N b acc).wt ≤ wtL acc + 1 ∧ (finS N b acc).dep ≤ depL acc + 1:=by
 unfold finS
 split
 · simp only [wtL,depL];lia
 · rw [wt_mkC,dep_mkC]
   have:=wtL_sub (ded_sub N acc);have:=depL_sub (ded_sub N acc);lia
mutual
theorem simp_le (N:Nat):∀ c:Cl,(c.simp N).wt ≤ c.wt ∧ (c.simp N).dep ≤ c.dep
 | .any cs => by
   have:=simpL_le N true cs []
   have:=finS_le N true (simpL N true cs [])
   simp only [Cl.simp,Cl.wt,Cl.dep,wtL,depL] at *
   lia
 | .all cs => by
   have:=simpL_le N false cs []
   have:=finS_le N false (simpL N false cs [])
   simp only [Cl.simp,Cl.wt,Cl.dep,wtL,depL] at *
   lia
 | .never => ⟨Nat.le_refl _,Nat.le_refl _⟩
 | .always => ⟨Nat.le_refl _,Nat.le_refl _⟩
 | .rng _ _ _ => ⟨Nat.le_refl _,Nat.le_refl _⟩
theorem simpL_le (N:Nat) (b:Bool):∀ (cs acc:List Cl),wtL (simpL N b cs acc) ≤ wtL acc + wtL cs ∧ depL (simpL N b cs acc) ≤ max (depL acc) (depL cs)
 | [],acc => by simp only [simpL,wtL,depL];lia
 | c :: cs, acc => by
   have h1:=simp_le N c
   have h2:=stepS_le N b acc (c.simp N)
   have h3:=simpL_le N b cs (stepS N b acc (c.simp N))
   exact ⟨by have a:=h1.1;have e:=h2.1;have f:=h3.1;simp only [simpL,wtL];clear h1 h2 h3;lia,Nat.le_trans h3.2 (Nat.max_le.mpr ⟨Nat.le_trans h2.2 (Nat.max_le.mpr ⟨Nat.le_max_left _ _,Nat.le_trans h1.2 (Nat.le_trans (Nat.le_max_left _ _) (Nat.le_max_right _ _))⟩),Nat.le_trans (Nat.le_max_right _ _) (Nat.le_max_right _ _)⟩)⟩
end
theorem wtL_take (cs:List Cl) (i:Nat):wtL (cs.take i) ≤ wtL cs:=wtL_sub (List.take_sublist i cs)
theorem depL_take (cs:List Cl) (i:Nat):depL (cs.take i) ≤ depL cs:=depL_sub (List.take_sublist i cs)
theorem filter_take {α:Type} (f:α → Bool) {cs:List α} {i:Nat} {c:α} (h:cs[i]? = some c):(cs.take (i + 1)).filter f = (cs.take i).filter f ++ (if f c = true then [c] else []):=by
 rw [List.take_add_one,h,List.filter_append]
 congr 1
 simp only [Option.toList_some,List.filter_cons,List.filter_nil]
theorem filter_no {α:Type} {f:α → Bool} {cs:List α} {i:Nat} {c:α} (h:cs[i]? = some c) (b:f c = false):(cs.take (i + 1)).filter f = (cs.take i).filter f:=by
 rw [filter_take f h,b];simp
theorem filter_yes {α:Type} {f:α → Bool} {cs:List α} {i:Nat} {c:α} (h:cs[i]? = some c) (b:f c = true):(cs.take (i + 1)).filter f = (cs.take i).filter f ++ [c]:=by
 rw [filter_take f h,b];simp
noncomputable def Cl.sfn:Cl → Addr
 | .any _ => 547
 | .all _ => 618
 | _ => 516
theorem finS_one (N:Nat) (b:Bool) {acc:List Cl} (h:acc.length = 1):∃ c,acc = [c] ∧ finS N b acc = c:=by
 match acc,h with
 | [c],_ => exact ⟨c,rfl,rfl⟩
theorem finS_more (N:Nat) (b:Bool) {acc:List Cl} (h:acc.length ≠ 1):finS N b acc = mkC b (ded N acc):=by
 match acc,h with
 | [],_ => rfl
 | [_],h => exact absurd rfl h
 | _ :: _ :: _,_ => rfl
section
variable {g:G} {s₀ s:Shared} {fz₀ fz:Heap} {L:Addr} {l:List (Str × Value)} {mu:List (Addr × Obj)} {A:Around} {E:Value → Shared → Prop} {M:Model} {env:Env} {c:Addr} {oc:Obj} {v:Value} {x:Str} {i:Nat}
theorem enterO {R:Result → Shared → Prop} {name qual x:Str} {params:Arguments} {body:List Stmt} {scope:Scope} {dV kV doc pm cdv ct oc:Value} {an od:Option Addr} {osl:Array (Option Value)} {f:Addr} {vals:List Value} (l binds:List (Str × Value))
   (hroom:A.depth < recursionLimit) (sub:Sub fz s.heap) (inv:Inv g fz) (bare:AllBare s.gens)
   (ho:g.K.lookup f = some ⟨oc,od,.func (fnOf name qual params body scope dV kV doc pm an cdv ct),osl⟩) (hcd:codeIn g.K cdv qual = true)
   (hbind:bindArgs (fnOf name qual params body scope dV kV doc pm an cdv ct) ⟨vals,[]⟩ = pure binds)
   (hkind:(binds.all fun y => scope.names.lookup y.1 == some .local || scope.names.lookup y.1 == some .cell) = true)
   (hcells:∀ n,cellsFrom n scope.names [] = [(x,n)])
   (hl:∀ L:Addr,bindL (envOfC qual scope L f cdv).kindOf binds (fun zz => none) = fun y => List.lookup y l) (hc:∀ L:Addr,bindC (envOfC qual scope L f cdv).kindOf binds (fun zz => none) x = none)
   (hco:scope.isCoroutine = false) (hgen:scope.isGenerator = false) (hk:scope.kind = .function)
   (h:∀ (s₁:Shared) (L c:Addr) (oc:Obj),oc.data = .cell none → St g s fz s₁.heap s₁.gens s₁.os fz L l [(c,oc)] →
     wpAny (model g.prog g.w) (A.deeper (envX qual scope L f cdv [(x,c)])) (execs body (envX qual scope L f cdv [(x,c)])) (fun fl s' => R (.ok (.ret (match fl with | .ret v => v | _ => .none))) s') (fun zz zz => False) s₁) :
   codeAny (model g.prog g.w) A (.call (.ref f) ⟨vals,[]⟩) R s:=by
 refine codeAny_call_cells (fd:=fnOf name qual params body scope dV kV doc pm an cdv ct) (body:=body) hroom (sub _ _ (inv.kin _ _ ho)) rfl (inv.top.nolimit.keeps sub) (codeRec_of (inv.kin.keeps sub) hcd) rfl hbind rfl (kindsX hkind _) (fun s₁ I => ?_) hco hgen hk
 have hce:=hcells (s.heap.objs.size + 1)
 have e:callEnvC (fnOf name qual params body scope dV kV doc pm an cdv ct) s.heap.objs.size f = envX qual scope s.heap.objs.size f cdv [(x,s.heap.objs.size + 1)]:=by
   show envOfC qual scope s.heap.objs.size f cdv = _
   show envX qual scope s.heap.objs.size f cdv (cellsFrom (s.heap.objs.size + 1) scope.names []) = _
   rw [hce]
 rw [e]
 obtain ⟨oc',hoc,hdc⟩ : s₁.heap.IsCell (s.heap.objs.size + 1) none:=by
   have:=I.cell x (s.heap.objs.size + 1) (by show (cellsFrom (s.heap.objs.size + 1) scope.names []).lookup x = _;rw [hce];simp)
   rw [show bindC (callEnvC (fnOf name qual params body scope dV kV doc pm an cdv ct) s.heap.objs.size f).kindOf binds (fun zz => none) x = none from hc _] at this
   exact this
 have ns:s₁.heap.Ns s.heap.objs.size (fun y => List.lookup y l):=by
   rw [← hl s.heap.objs.size];exact I.toInCall.ns
 obtain ⟨h',tk,es⟩:=I.toInCall.same
 subst es
 have n0:s.heap.get? s.heap.objs.size = none:=none_of_size (Nat.le_refl _)
 have n1:s.heap.get? (s.heap.objs.size + 1) = none:=none_of_size (Nat.le_succ _)
 have S:St g s fz h' s.gens s.os fz s.heap.objs.size l [(s.heap.objs.size + 1,oc')] :=
   ⟨ns,fun b o e zz => I.toInCall.keep b o e,fun b o e => I.toInCall.keep b o (sub b o e),Grows.refl _ _,fun zz zz zz n => n,n0,none_sub sub n0,fun p hp => by
     obtain rfl:=List.mem_singleton.mp hp
     exact ⟨hoc,Nat.succ_ne_self _,n1,none_sub sub n1⟩,by simp,inv,bare,rfl,Nat.le_refl _⟩
 exact wpAny_mono (h _ _ _ oc' hdc S) (fun zz zz x => x) fun zz zz x => x.elim
theorem storeName_c {M:Model} {Q:Unit → Shared → Prop} {v₀:Option Value} {o:Obj} (hk:env.scope.kind = .function) (hl:env.kindOf x = some .cell) (hc:env.cells.lookup x = some c) (ho:s.heap.get? c = some o) (hd:o.data = .cell v₀)
   (h:Q () { s with heap:=s.heap.update c fun o => { o with data:=.cell (some v) } }):wpAny M A (storeName env x v) Q E s:=by
 delta storeName
 rw [hl,hk]
 refine wpAny_bind (wpAny_cellOf hc ?_)
 refine wpAny_bind (wpAny_load ho ?_)
 rw [hd]
 exact wpAny_update ho h
theorem stC_0 {M:Model} {Q:Unit → Shared → Prop} {v₀:Option Value} (S:St g s₀ fz₀ s.heap s.gens s.os fz L l mu) (hc:env.cells.lookup x = some c) (hi:mu[i]? = some (c,oc)) (hd:oc.data = .cell v₀)
   (k:∀ s' fz',Grows g.tabs fz fz' → fz'.IsCell c (some v) → St g s₀ fz₀ s'.heap s'.gens s'.os fz' L l (mu.eraseIdx i) → Q () s')
   (hk:autoParam (env.scope.kind = .function) autR) (hx:autoParam (env.kindOf x = some .cell) autR):wpAny M A (storeName env x v) Q E s:=by
 refine storeName_c hk hx hc (S.own _ (mem_at hi)).1 hd ?_
 have S1:=S.set i (fun o => { o with data:=.cell (some v) }) hi rfl
 obtain ⟨hlt,_⟩:=List.getElem?_eq_some_iff.mp hi
 obtain ⟨fz',gr,_,hf,S2⟩:=S1.freeze i (List.getElem?_set_self hlt)
 exact k { s with heap:=_ } fz' gr ⟨_,hf,rfl⟩ (by rwa [List.eraseIdx_set_eq] at S2)
theorem stC_s {M:Model} {Q:Unit → Shared → Prop} (S:St g s₀ fz₀ s.heap s.gens s.os fz L l mu) (hc:env.cells.lookup x = some c) (hv:fz.IsCell c (some v))
   (k:∀ s',St g s₀ fz₀ s'.heap s'.gens s'.os fz L l mu → Q () s')
   (hk:autoParam (env.scope.kind = .function) autR) (hx:autoParam (env.kindOf x = some .cell) autR):wpAny M A (storeName env x v) Q E s:=by
 obtain ⟨o,ho,hd⟩:=hv
 have ho':=S.le _ _ ho
 refine storeName_c hk hx hc ho' hd ?_
 refine k { s with heap:=_ } (S.ext fun b o' e => ?_)
 by_cases q:b = c
 · subst q
   rw [ho'] at e;cases e
   have:=Heap.get?_update_self (fun o => { o with data:=.cell (some v) }) ho' rfl
   rw [this]
   obtain ⟨a1,a2,a3,a4⟩:=o
   simp only at hd
   subst hd
   rfl
 · exact ((Heap.SameBut.update ..).2 b q).trans e
theorem m_newList {vs:List Value} {Q:Value → Shared → Prop} (hM:M = model g.prog g.w) (S:St g s₀ fz₀ s.heap s.gens s.os fz L l mu) (hz:vs.length ≤ 100000)
   (k:∀ s' D,St g s₀ fz₀ s'.heap s'.gens s'.os fz L l ((D,accObj vs.toArray 0) :: mu) → Q (.ref D) s'):wpAny M A (newList vs) Q E s:=by
 subst hM
 have:=sizeLine_eq
 exact wpAny_newList (hsz:=by lia) (k { s with heap:=_ } _ (S.push (accObj vs.toArray 0) rfl))
theorem ld_cell {Q:Value → Shared → Prop} (S:St g s₀ fz₀ s.heap s.gens s.os fz L l mu) (hc:env.cells.lookup x = some c) (hv:fz.IsCell c (some v)) (h:Q v s)
   (hk:autoParam (env.scope.kind = .function) autR) (hx:autoParam (env.kindOf x = some .cell) autR):wpAny M A (loadName env x) Q E s:=wpAny_loadName_cell hk hx hc (by obtain ⟨o,e,r⟩:=hv;exact ⟨o,S.le _ _ e,r⟩) h
theorem ld_loc {Q:Value → Shared → Prop} (S:St g s₀ fz₀ s.heap s.gens s.os fz L l mu) (hL:env.locals = L) (hv:l.lookup x = some v) (h:Q v s)
   (hk:autoParam (env.scope.kind = .function) autR) (hx:autoParam (env.kindOf x = some .local) autR):wpAny M A (loadName env x) Q E s:=by subst hL;exact wpAny_loadName_local hk hx S.ns hv h
end
theorem bindL_one {kind:Str → Option NameKind} {x:Str} {a:Value} (h1:kind x = some .local):bindL kind [(x,a)] (fun zz => none) = fun z => List.lookup z [(x,a)]:=by
 funext z
 simp only [bindL,h1]
 rw [List.lookup_cons]
 by_cases h:z = x
 · subst h;simp
 · simp [h,beq_false_of_ne h]
theorem stepS_unit {N:Nat} {b:Bool} {acc:List Cl} {s:Cl} (h:s.parts b = none) (h1:Cl.eqn N s (unitC b) = true):stepS N b acc s = acc:=by unfold stepS;rw [h];dsimp only;rw [if_pos h1]
theorem stepS_in {N:Nat} {b:Bool} {acc:List Cl} {s:Cl} (h:s.parts b = none) (h1:Cl.eqn N s (unitC b) = false) (h2:(acc.any fun a => Cl.eqn N a s) = true):stepS N b acc s = acc:=by
 unfold stepS;rw [h];dsimp only;rw [if_neg (by rw [h1];decide),if_pos h2]
theorem stepS_new {N:Nat} {b:Bool} {acc:List Cl} {s:Cl} (h:s.parts b = none) (h1:Cl.eqn N s (unitC b) = false) (h2:(acc.any fun a => Cl.eqn N a s) = false):stepS N b acc s = acc ++ [s]:=by
 unfold stepS;rw [h];dsimp only;rw [if_neg (by rw [h1];decide),if_neg (by rw [h2];decide)]
theorem stepS_parts {N:Nat} {b:Bool} {acc ds:List Cl} {s:Cl} (h:s.parts b = some ds):stepS N b acc s = acc ++ ds.filter fun d => !acc.any fun a => Cl.eqn N a d:=by
 unfold stepS;rw [h]
theorem simpL_len {N:Nat} {b:Bool} {cs:List Cl} {i:Nat} (hw:wtL cs ≤ 900):(simpL N b (cs.take i) []).length ≤ 900:=by
 have h1:=(simpL_le N b (cs.take i) []).1
 have h2:=wtL_take cs i
 have h3:=len_wtL (simpL N b (cs.take i) [])
 have h4:wtL [] = 0:=rfl
 lia
theorem simpL_dep {N:Nat} {b:Bool} {cs:List Cl} (i:Nat):depL (simpL N b (cs.take i) []) ≤ depL cs:=by
 have h1:=(simpL_le N b (cs.take i) []).2
 have h2:=depL_take cs i
 have h4:depL [] = 0:=rfl
 lia
theorem AllC.one {h:Heap} {vs:List Value} {c:Cl} (a:AllC h vs [c]):∃ v,vs = [v] ∧ IsC h v c:=by
 cases a with
 | cons p r => cases r;exact ⟨_,rfl,p⟩
section
variable {g:G} {s₀ s:Shared} {fz₀ fz:Heap} {L:Addr} {l:List (Str × Value)} {mu:List (Addr × Obj)} {A:Around} {E:Value → Shared → Prop} {M:Model} {env:Env} {a b:Addr} {xs ys:Array Value} {c d i j:Nat}
theorem St.listMem {h:Heap} {gn:Array GenState} {os:OsState} (S:St g s₀ fz₀ h gn os fz L l mu) (hi:(a,accObj xs c) ∈ mu):h.IsList a xs:=⟨_,(S.own _ hi).1,rfl,_,rfl⟩
theorem m_callT {pos p:Pos} {f:Value} {first:List Value} {e:PySem.Expr} {Q:Value → Shared → Prop} (_S:St g s₀ fz₀ s.heap s.gens s.os fz L l mu) (hk:keepIn g.K f = true)
   (h:wpAny M A (eval e env) (fun v s₁ => StarOf M A E v (fun vs s₂ => (∃ fz l mu,St g s₀ fz₀ s₂.heap s₂.gens s₂.os fz L l mu) ∧ wpAny M A (call f (first ++ vs)) Q E s₂) s₁) E s)
   (he:autoParam (starEach [.Starred e p] env = [(true,eval e env)]) autR):wpAny M A (callWith pos f first (backTo pos (starEach [.Starred e p] env)) []) Q E s:=by
 refine callWith_S (_S.inv.kin.keeps _S.le) hk (wpAny_mono h (fun v s₁ h₁ => ?_) fun zz zz z => z) he
 exact wpAny_mono h₁ (fun bb s₂ h₂ => ⟨h₂.1,wpAny_mono h₂.2 (fun vs s₃ h₃ => ⟨(by obtain ⟨_,_,_,S⟩:=h₃.1;exact S.kIn),h₃.2⟩) fun zz zz z => z⟩) fun zz zz z => z
end
theorem wt_le:∀ {cs:List Cl} {c:Cl},c ∈ cs → c.wt ≤ wtL cs
 | [],_,h => nomatch h
 | d :: cs, c, h => by
   unfold wtL
   rcases List.mem_cons.mp h with rfl | h
   · lia
   · have:=wt_le h;lia
section
variable {prog:Program} {w:World} {M:Model} {A:Around} {E:Value → Shared → Prop} {s:Shared} {K:Frag} {x y C D f f':Addr} {kv kv':List (Str × Value)}
theorem b1_one {nm:String} {P:Option Value → Shared → Prop} (I':Looks M s.heap (typeOf (.ref x)) (.ref C)) (J':Looks M s.heap (typeOf (.ref y)) (.ref C)) (F:Looks M s.heap (fillsNumberSlot (.ref C) nm) true)
   (h:wpAny M A (tryMethod (.ref x) (PySem.dunder nm) (.ref y)) (fun r s' => ∃ v,r = some v ∧ P (some v) s') E s):wpAny M A (binaryOp1 nm (.ref x) (.ref y)) P E s:=by
 unfold binaryOp1
 refine lk_then I' (lk_then J' (lk_then F (it_t (beq_self_eq_true _) (pu_then (it_f (by decide) (it_f (by decide) (it_f (by decide) (pu_then (it_f (by decide) (it_t rfl (wpAny_bind (wpAny_mono h (fun r s' q => ?_) fun zz zz e => e))))))))))))
 obtain ⟨v,rfl,q⟩:=q
 exact wpAny_pure q
theorem b1_two {nm:String} {P:Option Value → Shared → Prop} (I':Looks M s.heap (typeOf (.ref x)) (.ref C)) (J':Looks M s.heap (typeOf (.ref y)) (.ref D)) (hne:C ≠ D) (F:Looks M s.heap (fillsNumberSlot (.ref C) nm) true) (F':Looks M s.heap (fillsNumberSlot (.ref D) nm) true)
   (L5:Looks M s.heap (isSubtype (.ref D) (.ref C)) false) (L6:Looks M s.heap (numberSlotInPython (.ref C) nm) true) (L7:Looks M s.heap (numberSlotInPython (.ref D) nm) true)
   (h:wpAny M A (tryMethod (.ref x) (PySem.dunder nm) (.ref y)) (fun r s' => ∃ v,r = some v ∧ P (some v) s') E s):wpAny M A (binaryOp1 nm (.ref x) (.ref y)) P E s:=by
 have hb:¬ (Value.ref C == Value.ref D) = true:=fun q => hne (by cases beq_iff_eq.mp q;rfl)
 unfold binaryOp1
 refine lk_then I' (lk_then J' (lk_then F (it_f hb (lk_then F' (it_t (by decide) (lk_then L5 (it_f (by decide) (it_f (by decide) (it_t (by decide) (lk_then L6 (it_t rfl (lk_then L7 (it_f (by decide) (it_t rfl (wpAny_bind (wpAny_mono h (fun r s' q => ?_) fun zz zz e => e))))))))))))))))
 obtain ⟨v,rfl,q⟩:=q
 exact wpAny_pure q
theorem binop_one {op:Operator} {Q:Value → Shared → Prop} (X:K.In s.heap) (I:Inst s.heap x C kv) (J:Inst s.heap y C kv') (hc:selfFirst K C = true)
   (hs:findIn K (.ref C) (PySem.dunder op.info.2) = some (some (.ref f))) (hf:isFn K (.ref f) = true)
   (h:wpAny (model prog w) A (call (.ref f) [.ref x,.ref y]) (PySem.W.CmpBack Q) E s):wpAny (model prog w) A (binaryOp op (.ref x) (.ref y)) Q E s:=by
 obtain ⟨_,_,_,I',_⟩:=I.at
 obtain ⟨_,_,_,J',_⟩:=J.at
 obtain ⟨cd,rest,hcd,hm⟩:=ksp_first hc
 refine wpAny_holding (wpAny_bind (b1_one I'.type J'.type (fills_K X hcd hm hs) (wpAny_mono (ksp_try X I' hs hf h) (fun r s' q => ?_) fun zz zz e => e)))
 obtain ⟨v,rfl,q⟩:=q
 exact ⟨v,rfl,wpAny_pure q⟩
theorem binop_two {op:Operator} {rc rd:Option Value} {Q:Value → Shared → Prop} (X:K.In s.heap) (I:Inst s.heap x C kv) (J:Inst s.heap y D kv') (hne:C ≠ D) (hc:selfFirst K C = true) (hd:selfFirst K D = true)
   (hs:findIn K (.ref C) (PySem.dunder op.info.2) = some (some (.ref f))) (hf:isFn K (.ref f) = true) (hr:findIn K (.ref C) (dunderR op.info.2) = some rc) (hp:rc = none ∨ ∃ g:Addr,rc = some (.ref g))
   (hs':findIn K (.ref D) (PySem.dunder op.info.2) = some (some (.ref f'))) (hr':findIn K (.ref D) (dunderR op.info.2) = some rd) (hp':rd = none ∨ ∃ g:Addr,rd = some (.ref g)) (hsub:subIn K (.ref D) (.ref C) = some false)
   (h:wpAny (model prog w) A (call (.ref f) [.ref x,.ref y]) (PySem.W.CmpBack Q) E s):wpAny (model prog w) A (binaryOp op (.ref x) (.ref y)) Q E s:=by
 obtain ⟨_,_,_,I',_⟩:=I.at
 obtain ⟨_,_,_,J',_⟩:=J.at
 obtain ⟨cd,rest,hcd,hm⟩:=ksp_first hc
 obtain ⟨cd',rest',hcd',hm'⟩:=ksp_first hd
 refine wpAny_holding (wpAny_bind (b1_two I'.type J'.type hne (fills_K X hcd hm hs) (fills_K X hcd' hm' hs') (looks_subIn X hsub) (ksp_inPy X hs hr hp) (ksp_inPy X hs' hr' hp') (wpAny_mono (ksp_try X I' hs hf h) (fun r s' q => ?_) fun zz zz e => e)))
 obtain ⟨v,rfl,q⟩:=q
 exact ⟨v,rfl,wpAny_pure q⟩
theorem cmpBack_ref {Q:Value → Shared → Prop} {v:Value} {s:Shared} (hv:v ≠ .notImplemented) (h:Q v s):PySem.W.CmpBack Q v s:=by
 cases v <;> first | exact absurd rfl hv | exact h
end
noncomputable def andC (N:Nat):Cl → Cl → Cl
 | .never,_ => .never
 | .always,d => d
 | .rng o v U,.all ds => .all (ded N (ds ++ [.rng o v U]))
 | .rng o v U,d => .all (ded N [.rng o v U,d])
 | .any cs,.all ds => .all (ded N (ds ++ [.any cs]))
 | .any cs,d => .all (ded N [.any cs,d])
 | .all cs,.all ds => .all (ded N (cs ++ ds))
 | .all cs,d => .all (ded N (cs ++ [d]))
noncomputable def orC (N:Nat):Cl → Cl → Cl
 | .never,d => d
 | .always,_ => .always
 | .rng o v U,.any ds => .any (ded N (ds ++ [.rng o v U]))
 | .rng o v U,d => .any (ded N [.rng o v U,d])
 | .any cs,.any ds => .any (ded N (cs ++ ds))
 | .any cs,d => .any (ded N (cs ++ [d]))
 | .all cs,.any ds => .any (ded N (ds ++ [.all cs]))
 | .all cs,.all ds => .any (ded N [.all cs,.all ds])
 | .all cs,d => .any (ded N [.all cs,.all (ded N [d])])
inductive AndS (N:Nat):Cl → Cl → Cl → Prop
 | never (d:Cl):AndS N .never d .never
 | always (d:Cl):AndS N .always d d
 | app (cs ds:List Cl):AndS N (.all cs) (.all ds) (.all (ded N (cs ++ ds)))
 | snoc (cs:List Cl) (d:Cl):AndS N (.all cs) d (.all (ded N (cs ++ [d])))
 | rsnoc (c:Cl) (ds:List Cl):AndS N c (.all ds) (.all (ded N (ds ++ [c])))
 | two (c d:Cl):AndS N c d (.all (ded N [c,d]))
theorem andS {N:Nat} {c d:Cl}:AndS N c d (andC N c d):=by
 cases c with
 | never => exact .never d
 | always => exact .always d
 | rng => cases d <;> first | exact .rsnoc _ _ | exact .two _ _
 | any => cases d <;> first | exact .rsnoc _ _ | exact .two _ _
 | all => cases d <;> first | exact .app _ _ | exact .snoc _ _
inductive OrS (N:Nat):Cl → Cl → Cl → Prop
 | never (d:Cl):OrS N .never d d
 | always (d:Cl):OrS N .always d .always
 | app (cs ds:List Cl):OrS N (.any cs) (.any ds) (.any (ded N (cs ++ ds)))
 | snoc (cs:List Cl) (d:Cl):OrS N (.any cs) d (.any (ded N (cs ++ [d])))
 | rsnoc (c:Cl) (ds:List Cl):OrS N c (.any ds) (.any (ded N (ds ++ [c])))
 | two (c d:Cl):OrS N c d (.any (ded N [c,d]))
 | leaf (c d:Cl):d.dep = 0 → OrS N c d (.any (ded N [c,.all (ded N [d])]))
theorem orS {N:Nat} {c d:Cl}:OrS N c d (orC N c d):=by
 cases c with
 | never => exact .never d
 | always => exact .always d
 | rng => cases d <;> first | exact .rsnoc _ _ | exact .two _ _
 | any => cases d <;> first | exact .app _ _ | exact .snoc _ _
 | all => cases d <;> first | exact .rsnoc _ _ | exact .two _ _ | exact .leaf _ _ rfl
noncomputable def Cl.afn:Cl → Addr
 | .never => 726
 | .always => 780
 | .rng .. => 679
 | .any _ => 568
 | .all _ => 639
noncomputable def Cl.ofn:Cl → Addr
 | .never => 733
 | .always => 787
 | .rng .. => 686
 | .any _ => 575
 | .all _ => 646
noncomputable def FNext (g:G) (s₀:Shared) (fz₀:Heap) (L:Addr) (own:List (Addr × Obj)) (J:Heap → List (Str × Value) → List (Addr × Obj) → Prop) (Q:Flow → Shared → Prop) (fz:Heap) (f:Flow) (s₃:Shared):Prop :=
 match f with
 | .next | .cont => ∃ fz' l' mu',Grows g.tabs fz fz' ∧ St g s₀ fz₀ s₃.heap s₃.gens s₃.os fz' L l' (mu' ++ own) ∧ J fz' l' mu'
 | .brk => Q .next s₃
 | .ret v => Q (.ret v) s₃
section
variable {g:G} {s₀:Shared} {fz₀:Heap} {A:Around} {L:Addr} {tg:PySem.Expr} {body:List Stmt} {env:Env} {k:Nat} {P:Nat → Value → Heap → Prop} {J:Nat → Heap → List (Str × Value) → List (Addr × Obj) → Prop} {Q:Flow → Shared → Prop}
theorem ForStep.of (h:∀ i v (s:Shared) fz0 fz l own mu E',i < k → J i fz0 l mu → Grows g.tabs fz0 fz → P i v fz → St g s₀ fz₀ s.heap s.gens s.os fz L l (mu ++ own) →
   wpAny (model g.prog g.w) A (assign tg env v) (fun zz s₂ => wpAny (model g.prog g.w) A (execs body env) (fun f s₃ => FNext g s₀ fz₀ L own (J (i + 1)) Q fz f s₃) E' s₂) E' s):ForStep g s₀ fz₀ A L tg body env k P J Q :=
 ⟨fun i v s fz0 fz l own mu E' h1 h2 h3 h4 h5 => wpAny_mono (h i v s fz0 fz l own mu E' h1 h2 h3 h4 h5) (fun zz s₂ h₂ => wpAny_mono h₂ (fun f s₃ h₃ => by
   cases f <;> exact h₃) fun zz zz z => z) fun zz zz z => z⟩
theorem FNext.next {own:List (Addr × Obj)} {J:Heap → List (Str × Value) → List (Addr × Obj) → Prop} {fz fz':Heap} {l':List (Str × Value)} {mu':List (Addr × Obj)} {s₃:Shared} (h1:Grows g.tabs fz fz') (h2:St g s₀ fz₀ s₃.heap s₃.gens s₃.os fz' L l' (mu' ++ own)) (h3:J fz' l' mu'):FNext g s₀ fz₀ L own J Q fz .next s₃:=⟨fz',l',mu',h1,h2,h3⟩
theorem FNext.cont {own:List (Addr × Obj)} {J:Heap → List (Str × Value) → List (Addr × Obj) → Prop} {fz fz':Heap} {l':List (Str × Value)} {mu':List (Addr × Obj)} {s₃:Shared} (h1:Grows g.tabs fz fz') (h2:St g s₀ fz₀ s₃.heap s₃.gens s₃.os fz' L l' (mu' ++ own)) (h3:J fz' l' mu'):FNext g s₀ fz₀ L own J Q fz .cont s₃:=⟨fz',l',mu',h1,h2,h3⟩
end
theorem verEq_eq {V U:Ver} (a:VOk V) (b:VOk U) (h:verEq V U = true):V = U:=by
 obtain ⟨v1,v2,v3,v4,v5⟩:=V
 obtain ⟨u1,u2,u3,u4,u5⟩:=U
 simp only [verEq,Bool.and_eq_true,beq_iff_eq,decide_eq_true_eq] at h
 obtain ⟨rfl,rfl,rfl,rfl⟩:=h
 have e1:=a.key
 have e2:=b.key
 simp only at e1 e2
 rw [e1,e2]
inductive Eqv:Cl → Cl → Prop
 | never:Eqv .never .never
 | always:Eqv .always .always
 | rng (o w:Str) (U:Ver):Eqv (.rng o w U) (.rng o w U)
 | any {cs ds:List Cl} (f g:Cl → Cl):(∀ c ∈ cs,f c ∈ ds) → (∀ c ∈ cs,Eqv c (f c)) → (∀ d ∈ ds,g d ∈ cs) → (∀ d ∈ ds,Eqv (g d) d) → Eqv (.any cs) (.any ds)
 | all {cs ds:List Cl} (f g:Cl → Cl):(∀ c ∈ cs,f c ∈ ds) → (∀ c ∈ cs,Eqv c (f c)) → (∀ d ∈ ds,g d ∈ cs) → (∀ d ∈ ds,Eqv (g d) d) → Eqv (.all cs) (.all ds)
noncomputable def Cov (R:Cl → Cl → Prop) (cs ds:List Cl):Prop:=∀ c ∈ cs,∃ d ∈ ds,R c d
theorem cov_fun {R:Cl → Cl → Prop} {cs ds:List Cl} (h:Cov R cs ds):∃ f:Cl → Cl,(∀ c ∈ cs,f c ∈ ds) ∧ ∀ c ∈ cs,R c (f c):=by
 classical
 refine ⟨fun c => if h':c ∈ cs then (h c h').choose else c,fun c hc => ?_,fun c hc => ?_⟩
 · simp only [hc,dif_pos];exact (h c hc).choose_spec.1
 · simp only [hc,dif_pos];exact (h c hc).choose_spec.2
theorem eqv_any {cs ds:List Cl}:Eqv (.any cs) (.any ds) ↔ Cov Eqv cs ds ∧ Cov (fun d c => Eqv c d) ds cs:=by
 constructor
 · intro h
   cases h with
   | any f g h1 h2 h3 h4 => exact ⟨fun c hc => ⟨f c,h1 c hc,h2 c hc⟩,fun d hd => ⟨g d,h3 d hd,h4 d hd⟩⟩
 · rintro ⟨a,b⟩
   obtain ⟨f,h1,h2⟩:=cov_fun a
   obtain ⟨g,h3,h4⟩:=cov_fun b
   exact .any f g h1 h2 h3 h4
theorem eqv_all {cs ds:List Cl}:Eqv (.all cs) (.all ds) ↔ Cov Eqv cs ds ∧ Cov (fun d c => Eqv c d) ds cs:=by
 constructor
 · intro h
   cases h with
   | all f g h1 h2 h3 h4 => exact ⟨fun c hc => ⟨f c,h1 c hc,h2 c hc⟩,fun d hd => ⟨g d,h3 d hd,h4 d hd⟩⟩
 · rintro ⟨a,b⟩
   obtain ⟨f,h1,h2⟩:=cov_fun a
   obtain ⟨g,h3,h4⟩:=cov_fun b
   exact .all f g h1 h2 h3 h4
theorem Eqv.symm {c d:Cl} (h:Eqv c d):Eqv d c:=by
 induction h with
 | never => exact .never
 | always => exact .always
 | rng o w U => exact .rng o w U
 | any f g h1 _ h3 _ ih1 ih2 => exact .any g f h3 ih2 h1 ih1
 | all f g h1 _ h3 _ ih1 ih2 => exact .all g f h3 ih2 h1 ih1
theorem Eqv.trans {c d:Cl} (h:Eqv c d):∀ {e:Cl},Eqv d e → Eqv c e:=by
 induction h with
 | never => exact fun h => h
 | always => exact fun h => h
 | rng o w U => exact fun h => h
 | any f g h1 _ h3 _ ih1 ih2 =>
   intro e h
   cases h with
   | any f' g' k1 k2 k3 k4 => exact .any (fun c => f' (f c)) (fun e => g (g' e)) (fun c hc => k1 _ (h1 c hc)) (fun c hc => ih1 c hc (k2 _ (h1 c hc))) (fun e he => h3 _ (k3 e he)) (fun e he => ih2 _ (k3 e he) (k4 e he))
 | all f g h1 _ h3 _ ih1 ih2 =>
   intro e h
   cases h with
   | all f' g' k1 k2 k3 k4 => exact .all (fun c => f' (f c)) (fun e => g (g' e)) (fun c hc => k1 _ (h1 c hc)) (fun c hc => ih1 c hc (k2 _ (h1 c hc))) (fun e he => h3 _ (k3 e he)) (fun e he => ih2 _ (k3 e he) (k4 e he))
theorem Eqv.refl_of:∀ (n:Nat) (c:Cl),c.dep < n → Eqv c c
 | 0,_,h => absurd h (Nat.not_lt_zero _)
 | _ + 1,.never,_ => .never
 | _ + 1,.always,_ => .always
 | _ + 1,.rng o w U,_ => .rng o w U
 | n + 1,.any cs,h => .any id id (fun zz h => h) (fun c hc => Eqv.refl_of n c (Nat.lt_of_le_of_lt (dep_le hc) (Nat.lt_of_succ_lt_succ h))) (fun zz h => h) fun c hc => Eqv.refl_of n c (Nat.lt_of_le_of_lt (dep_le hc) (Nat.lt_of_succ_lt_succ h))
 | n + 1,.all cs,h => .all id id (fun zz h => h) (fun c hc => Eqv.refl_of n c (Nat.lt_of_le_of_lt (dep_le hc) (Nat.lt_of_succ_lt_succ h))) (fun zz h => h) fun c hc => Eqv.refl_of n c (Nat.lt_of_le_of_lt (dep_le hc) (Nat.lt_of_succ_lt_succ h))
theorem Eqv.refl (c:Cl):Eqv c c:=Eqv.refl_of (c.dep + 1) c (Nat.lt_succ_self _)
theorem Eqv.holds {V:Ver} {c d:Cl} (h:Eqv c d):c.holds V = d.holds V:=by
 induction h with
 | never => rfl
 | always => rfl
 | rng o w U => rfl
 | any f g h1 _ h3 _ ih1 ih2 =>
   show anyH V _ = anyH V _
   rw [anyH_any,anyH_any,Bool.eq_iff_iff,List.any_eq_true,List.any_eq_true]
   exact ⟨fun ⟨c,hc,e⟩ => ⟨f c,h1 c hc,by rw [← ih1 c hc];exact e⟩,fun ⟨d,hd,e⟩ => ⟨g d,h3 d hd,by rw [ih2 d hd];exact e⟩⟩
 | all f g h1 _ h3 _ ih1 ih2 =>
   show allH V _ = allH V _
   rw [allH_all,allH_all,Bool.eq_iff_iff,List.all_eq_true,List.all_eq_true]
   exact ⟨fun h d hd => by rw [← ih2 d hd];exact h _ (h3 d hd),fun h c hc => by rw [ih1 c hc];exact h _ (h1 c hc)⟩
noncomputable def Apart (cs:List Cl):Prop:=cs.Pairwise fun a b => ¬ Eqv a b
mutual
noncomputable def Cl.wf:Cl → Prop
 | .any cs => wfL cs ∧ Apart cs
 | .all cs => wfL cs ∧ Apart cs
 | .rng _ _ U => VOk U
 | _ => True
noncomputable def wfL:List Cl → Prop
 | [] => True
 | c :: cs => c.wf ∧ wfL cs
end
theorem wfL_iff {cs:List Cl}:wfL cs ↔ ∀ c ∈ cs,c.wf:=by
 induction cs with
 | nil => exact ⟨fun zz c h => (nomatch h),fun zz => trivial⟩
 | cons c cs ih => exact ⟨fun h => List.forall_mem_cons.mpr ⟨h.1,ih.mp h.2⟩,fun h => ⟨(List.forall_mem_cons.mp h).1,ih.mpr (List.forall_mem_cons.mp h).2⟩⟩
theorem pigeon:∀ {cs ds:List Cl},Apart cs → Cov Eqv cs ds → cs.length ≤ ds.length ∧ (ds.length = cs.length → ∀ d ∈ ds,∃ c ∈ cs,Eqv c d)
 | [],ds,_,_ => ⟨Nat.zero_le _,fun h d hd => by rw [List.length_eq_zero_iff.mp h] at hd;exact nomatch hd⟩
 | c :: cs, ds, hp, hc => by
   obtain ⟨h1,h2⟩:=List.pairwise_cons.mp hp
   obtain ⟨d,hd,e⟩:=hc c (.head _)
   obtain ⟨as,bs,rfl⟩:=List.append_of_mem hd
   have hc':Cov Eqv cs (as ++ bs):=fun c' hc' => by
     obtain ⟨d',hd',e'⟩:=hc c' (.tail _ hc')
     rcases List.mem_append.mp hd' with q | q
     · exact ⟨d',List.mem_append.mpr (.inl q),e'⟩
     · rcases List.mem_cons.mp q with rfl | q
       · exact absurd (e.trans e'.symm) (h1 c' hc')
       · exact ⟨d',List.mem_append.mpr (.inr q),e'⟩
   obtain ⟨l,m⟩:=pigeon h2 hc'
   have hl:(as ++ d :: bs).length = (as ++ bs).length + 1:=by simp only [List.length_append,List.length_cons];lia
   refine ⟨by rw [hl,List.length_cons];lia,fun q d' hd' => ?_⟩
   rw [hl,List.length_cons] at q
   have hx:d' = d ∨ d' ∈ as ++ bs:=by
     rcases List.mem_append.mp hd' with q | q
     · exact .inr (List.mem_append.mpr (.inl q))
     · rcases List.mem_cons.mp q with rfl | q
       · exact .inl rfl
       · exact .inr (List.mem_append.mpr (.inr q))
   rcases hx with rfl | hx
   · exact ⟨c,.head _,e⟩
   · obtain ⟨c',hc',e'⟩:=m (by lia) d' hx
     exact ⟨c',.tail _ hc',e'⟩
theorem eqn_iff (n:Nat):∀ (c d:Cl),c.dep < n → d.dep < n → c.wf → d.wf → (Cl.eqn n c d = true ↔ Eqv c d):=by
 induction n with
 | zero => exact fun zz zz h => absurd h (Nat.not_lt_zero _)
 | succ n ih =>
   intro c d h1 h2 w1 w2
   have lists:∀ cs ds:List Cl,depL cs < n → depL ds < n → wfL cs → Apart cs → wfL ds → Apart ds →
       (((cs.length == ds.length) && cs.all fun c => ds.any fun d => Cl.eqn n d c) = true ↔ (Cov Eqv cs ds ∧ Cov (fun d c => Eqv c d) ds cs)):=by
     intro cs ds k1 k2 v1 p1 v2 p2
     have one:∀ c ∈ cs,∀ d ∈ ds,(Cl.eqn n d c = true ↔ Eqv c d):=fun c hc d hd =>
       (ih d c (Nat.lt_of_le_of_lt (dep_le hd) k2) (Nat.lt_of_le_of_lt (dep_le hc) k1) (wfL_iff.mp v2 d hd) (wfL_iff.mp v1 c hc)).trans ⟨Eqv.symm,Eqv.symm⟩
     rw [Bool.and_eq_true,beq_iff_eq,List.all_eq_true]
     constructor
     · rintro ⟨q,h⟩
       have cov:Cov Eqv cs ds:=fun c hc => by
         obtain ⟨d,hd,e⟩:=List.any_eq_true.mp (h c hc)
         exact ⟨d,hd,(one c hc d hd).mp e⟩
       exact ⟨cov,fun d hd => (pigeon p1 cov).2 q.symm d hd⟩
     · rintro ⟨a,b⟩
       refine ⟨Nat.le_antisymm (pigeon p1 a).1 (pigeon p2 (fun d hd => by obtain ⟨c,hc,e⟩:=b d hd;exact ⟨c,hc,e.symm⟩)).1,fun c hc => ?_⟩
       obtain ⟨d,hd,e⟩:=a c hc
       exact List.any_eq_true.mpr ⟨d,hd,(one c hc d hd).mpr e⟩
   cases c with
   | never => cases d <;> first | exact ⟨fun zz => .never,fun zz => rfl⟩ | exact ⟨fun h => (nomatch h),fun h => (nomatch h)⟩
   | always => cases d <;> first | exact ⟨fun zz => .always,fun zz => rfl⟩ | exact ⟨fun h => (nomatch h),fun h => (nomatch h)⟩
   | rng o w U =>
     cases d with
     | rng o' w' U' =>
       constructor
       · intro h
         rw [eqnRng,Bool.and_eq_true,Bool.and_eq_true,beq_iff_eq,beq_iff_eq] at h
         obtain ⟨rfl,e,rfl⟩:=h
         rw [verEq_eq w1 w2 e]
         exact .rng _ _ _
       · intro h
         cases h
         rw [eqnRng,verEq_refl,beq_self_eq_true,beq_self_eq_true];rfl
     | _ => exact ⟨fun h => (nomatch h),fun h => (nomatch h)⟩
   | any cs =>
     cases d with
     | any ds =>
       exact (lists cs ds (Nat.lt_of_succ_lt_succ h1) (Nat.lt_of_succ_lt_succ h2) w1.1 w1.2 w2.1 w2.2).trans eqv_any.symm
     | _ => exact ⟨fun h => (nomatch h),fun h => (nomatch h)⟩
   | all cs =>
     cases d with
     | all ds =>
       exact (lists cs ds (Nat.lt_of_succ_lt_succ h1) (Nat.lt_of_succ_lt_succ h2) w1.1 w1.2 w2.1 w2.2).trans eqv_all.symm
     | _ => exact ⟨fun h => (nomatch h),fun h => (nomatch h)⟩
noncomputable def OkL (N:Nat) (cs:List Cl):Prop:=∀ c ∈ cs,c.wf ∧ c.dep < N
theorem OkL.cons {N:Nat} {c:Cl} {cs:List Cl} (a:c.wf) (b:c.dep < N) (h:OkL N cs):OkL N (c :: cs):=fun d hd => by
 rcases List.mem_cons.mp hd with rfl | hd
 · exact ⟨a,b⟩
 · exact h d hd
theorem OkL.nil {N:Nat}:OkL N []:=fun zz h => nomatch h
theorem OkL.append {N:Nat} {cs ds:List Cl} (a:OkL N cs) (b:OkL N ds):OkL N (cs ++ ds):=fun d hd => by
 rcases List.mem_append.mp hd with hd | hd
 · exact a d hd
 · exact b d hd
theorem OkL.sub {N:Nat} {cs ds:List Cl} (h:cs.Sublist ds) (a:OkL N ds):OkL N cs:=fun c hc => a c (h.subset hc)
theorem OkL.of {N:Nat} {cs:List Cl} (w:wfL cs) (h:depL cs < N):OkL N cs:=fun c hc => ⟨wfL_iff.mp w c hc,Nat.lt_of_le_of_lt (dep_le hc) h⟩
theorem OkL.wfL {N:Nat} {cs:List Cl} (h:OkL N cs):wfL cs:=wfL_iff.mpr fun c hc => (h c hc).1
theorem dedK_spec {N:Nat} {cs:List Cl} (ok:OkL N cs):∀ i,Apart (dedK N cs i) ∧ Cov Eqv (cs.take i) (dedK N cs i)
 | 0 => ⟨.nil,fun c hc => by simp at hc⟩
 | i + 1 => by
   obtain ⟨a,b⟩:=dedK_spec ok i
   have sub:=dedK_sub N cs i
   cases h:cs[i]? with
   | none =>
     have e1:dedK N cs (i + 1) = dedK N cs i:=by
       show dedK N cs i ++ (match cs[i]? with | some c => if (cs.take i).any (fun d => Cl.eqn N d c) = true then [] else [c] | none => []) = _
       rw [h];simp
     have e2:cs.take (i + 1) = cs.take i:=by rw [List.take_add_one,h];simp
     rw [e1,e2];exact ⟨a,b⟩
   | some c =>
     have hc:=ok c (List.mem_of_getElem? h)
     have iff:∀ d ∈ cs.take i,(Cl.eqn N d c = true ↔ Eqv d c):=fun d hd => have hd':=ok d (List.mem_of_mem_take hd);eqn_iff N d c hd'.2 hc.2 hd'.1 hc.1
     have e2:cs.take (i + 1) = cs.take i ++ [c]:=by rw [List.take_add_one,h];rfl
     cases q:(cs.take i).any fun d => Cl.eqn N d c with
     | true =>
       rw [dedK_no h q,e2]
       refine ⟨a,fun x hx => ?_⟩
       rcases List.mem_append.mp hx with hx | hx
       · exact b x hx
       · obtain rfl:=List.mem_singleton.mp hx
         obtain ⟨d,hd,e⟩:=List.any_eq_true.mp q
         obtain ⟨d',hd',e'⟩:=b d hd
         exact ⟨d',hd',((iff d hd).mp e).symm.trans e'⟩
     | false =>
       rw [dedK_yes h q,e2]
       refine ⟨List.pairwise_append.mpr ⟨a,List.pairwise_singleton ..,fun x hx y hy e => ?_⟩,fun x hx => ?_⟩
       · obtain rfl:=List.mem_singleton.mp hy
         have hx':=sub.subset hx
         have:=(iff x hx').mpr e
         rw [List.any_eq_false] at q
         exact q x hx' this
       · rcases List.mem_append.mp hx with hx | hx
         · obtain ⟨d',hd',e'⟩:=b x hx
           exact ⟨d',List.mem_append.mpr (.inl hd'),e'⟩
         · obtain rfl:=List.mem_singleton.mp hx
           exact ⟨x,List.mem_append.mpr (.inr (.head _)),Eqv.refl x⟩
theorem ded_apart {N:Nat} {cs:List Cl} (ok:OkL N cs):Apart (ded N cs):=(dedK_spec ok cs.length).1
theorem ded_cov {N:Nat} {cs:List Cl} (ok:OkL N cs):Cov Eqv cs (ded N cs):=by have:=(dedK_spec ok cs.length).2;rwa [List.take_length] at this
theorem ded_cov2 {N:Nat} {cs:List Cl}:Cov (fun d c => Eqv c d) (ded N cs) cs:=fun d hd => ⟨d,(ded_sub N cs).subset hd,Eqv.refl d⟩
theorem ded_any {N:Nat} {cs:List Cl} (ok:OkL N cs):Eqv (.any cs) (.any (ded N cs)):=eqv_any.mpr ⟨ded_cov ok,ded_cov2⟩
theorem ded_all {N:Nat} {cs:List Cl} (ok:OkL N cs):Eqv (.all cs) (.all (ded N cs)):=eqv_all.mpr ⟨ded_cov ok,ded_cov2⟩
theorem ded_ok {N:Nat} {cs:List Cl} (ok:OkL N cs):OkL N (ded N cs):=ok.sub (ded_sub N cs)
theorem wf_any {N:Nat} {cs:List Cl} (ok:OkL N cs):(Cl.any (ded N cs)).wf:=And.intro (ded_ok ok).wfL (ded_apart ok)
theorem wf_all {N:Nat} {cs:List Cl} (ok:OkL N cs):(Cl.all (ded N cs)).wf:=And.intro (ded_ok ok).wfL (ded_apart ok)
theorem holds_any {N:Nat} {cs:List Cl} {V:Ver} (ok:OkL N cs):(Cl.any (ded N cs)).holds V = anyH V cs:=(ded_any ok).holds.symm
theorem holds_all {N:Nat} {cs:List Cl} {V:Ver} (ok:OkL N cs):(Cl.all (ded N cs)).holds V = allH V cs:=(ded_all ok).holds.symm
theorem anyH_append {V:Ver} (cs ds:List Cl):anyH V (cs ++ ds) = (anyH V cs || anyH V ds):=by rw [anyH_any,anyH_any,anyH_any,List.any_append]
theorem allH_append {V:Ver} (cs ds:List Cl):allH V (cs ++ ds) = (allH V cs && allH V ds):=by rw [allH_all,allH_all,allH_all,List.all_append]
noncomputable def Ok (N:Nat) (c:Cl):Prop:=c.wf ∧ c.dep < N
theorem Ok.one {N:Nat} {c:Cl} (a:Ok N c):OkL N [c]:=OkL.cons a.1 a.2 .nil
theorem Ok.two {N:Nat} {c d:Cl} (a:Ok N c) (b:Ok N d):OkL N [c,d]:=OkL.cons a.1 a.2 b.one
theorem Ok.anyL {N:Nat} {cs:List Cl} (a:Ok N (.any cs)):OkL N cs:=OkL.of a.1.1 (Nat.lt_of_le_of_lt (Nat.le_add_right _ 1) a.2)
theorem Ok.allL {N:Nat} {cs:List Cl} (a:Ok N (.all cs)):OkL N cs:=OkL.of a.1.1 (Nat.lt_of_le_of_lt (Nat.le_add_right _ 1) a.2)
theorem anyH_two {V:Ver} (c d:Cl):anyH V [c,d] = (c.holds V || d.holds V):=by simp [anyH]
theorem allH_two {V:Ver} (c d:Cl):allH V [c,d] = (c.holds V && d.holds V):=by simp [allH]
theorem anyH_one {V:Ver} (c:Cl):anyH V [c] = c.holds V:=by simp [anyH]
theorem allH_one {V:Ver} (c:Cl):allH V [c] = c.holds V:=by simp [allH]
theorem holdsA {V:Ver} (cs:List Cl):(Cl.any cs).holds V = anyH V cs:=rfl
theorem holdsB {V:Ver} (cs:List Cl):(Cl.all cs).holds V = allH V cs:=rfl
theorem holdsN {V:Ver}:Cl.never.holds V = false:=rfl
theorem holdsY {V:Ver}:Cl.always.holds V = true:=rfl
theorem andC_holds {N:Nat} {c d:Cl} (a:Ok N c) (b:Ok N d) (V:Ver):(andC N c d).holds V = (c.holds V && d.holds V):=by
 have h:=andS (N:=N) (c:=c) (d:=d)
 generalize andC N c d = r at h
 cases h with
 | never => rw [holdsN,Bool.false_and]
 | always => rw [holdsY,Bool.true_and]
 | app cs ds => rw [holds_all (a.allL.append b.allL),allH_append,holdsB,holdsB]
 | snoc cs => rw [holds_all (a.allL.append b.one),allH_append,allH_one,holdsB]
 | rsnoc c ds => rw [holds_all (b.allL.append a.one),allH_append,allH_one,holdsB,Bool.and_comm]
 | two => rw [holds_all (a.two b),allH_two]
theorem andC_wf {N:Nat} {c d:Cl} (a:Ok N c) (b:Ok N d):(andC N c d).wf:=by
 have h:=andS (N:=N) (c:=c) (d:=d)
 generalize andC N c d = r at h
 cases h with
 | never => exact trivial
 | always => exact b.1
 | app cs ds => exact wf_all (a.allL.append b.allL)
 | snoc cs => exact wf_all (a.allL.append b.one)
 | rsnoc c ds => exact wf_all (b.allL.append a.one)
 | two => exact wf_all (a.two b)
theorem allLeaf {N:Nat} {e:Cl} (hN:1 < N) (h:Ok N e) (z:e.dep = 0):Ok N (.all (ded N [e])):=⟨wf_all h.one,by
 have:=depL_sub (ded_sub N [e])
 have e1:depL [e] = max e.dep 0:=rfl
 show depL (ded N [e]) + 1 < N
 lia⟩
theorem orC_holds {N:Nat} {c d:Cl} (a:Ok N c) (b:Ok N d) (hN:1 < N) (V:Ver):(orC N c d).holds V = (c.holds V || d.holds V):=by
 have h:=orS (N:=N) (c:=c) (d:=d)
 generalize orC N c d = r at h
 cases h with
 | never => rw [holdsN,Bool.false_or]
 | always => rw [holdsY,Bool.true_or]
 | app cs ds => rw [holds_any (a.anyL.append b.anyL),anyH_append,holdsA,holdsA]
 | snoc cs => rw [holds_any (a.anyL.append b.one),anyH_append,anyH_one,holdsA]
 | rsnoc c ds => rw [holds_any (b.anyL.append a.one),anyH_append,anyH_one,holdsA,Bool.or_comm]
 | two => rw [holds_any (a.two b),anyH_two]
 | leaf z => rw [holds_any (a.two (allLeaf hN b (by assumption))),anyH_two,holds_all b.one,allH_one]
theorem orC_wf {N:Nat} {c d:Cl} (a:Ok N c) (b:Ok N d) (hN:1 < N):(orC N c d).wf:=by
 have h:=orS (N:=N) (c:=c) (d:=d)
 generalize orC N c d = r at h
 cases h with
 | never => exact b.1
 | always => exact trivial
 | app cs ds => exact wf_any (a.anyL.append b.anyL)
 | snoc cs => exact wf_any (a.anyL.append b.one)
 | rsnoc c ds => exact wf_any (b.anyL.append a.one)
 | two => exact wf_any (a.two b)
 | leaf z => exact wf_any (a.two (allLeaf hN b (by assumption)))
noncomputable def bothH (b:Bool) (V:Ver) (cs:List Cl):Bool:=if b = true then anyH V cs else allH V cs
noncomputable def opH (b x y:Bool):Bool:=if b = true then x || y else x && y
theorem mkC_holds (b:Bool) (V:Ver) (cs:List Cl):(mkC b cs).holds V = bothH b V cs:=by cases b <;> rfl
theorem bothH_append (b:Bool) (V:Ver) (cs ds:List Cl):bothH b V (cs ++ ds) = opH b (bothH b V cs) (bothH b V ds):=by
 cases b
 · exact allH_append cs ds
 · exact anyH_append cs ds
theorem bothH_one (b:Bool) (V:Ver) (c:Cl):bothH b V [c] = c.holds V:=by
 cases b
 · exact allH_one c
 · exact anyH_one c
theorem unit_holds (b:Bool) (V:Ver) (x:Bool):opH b x ((unitC b).holds V) = x:=by cases b <;> cases x <;> rfl
theorem bothH_sub {b:Bool} {V:Ver} {cs ds:List Cl} (h:Cov Eqv ds cs):opH b (bothH b V cs) (bothH b V ds) = bothH b V cs:=by
 cases b
 · show (allH V cs && allH V ds) = allH V cs
   rw [Bool.eq_iff_iff,Bool.and_eq_true,allH_all,allH_all,List.all_eq_true,List.all_eq_true]
   exact ⟨fun z => z.1,fun z => ⟨z,fun d hd => by obtain ⟨c,hc,e⟩:=h d hd;exact by rw [e.holds];exact z c hc⟩⟩
 · show (anyH V cs || anyH V ds) = anyH V cs
   rw [Bool.eq_iff_iff,Bool.or_eq_true,anyH_any,anyH_any,List.any_eq_true,List.any_eq_true]
   exact ⟨fun z => z.elim id fun ⟨d,hd,e⟩ => (by obtain ⟨c,hc,e'⟩:=h d hd;exact ⟨c,hc,by rw [← e'.holds];exact e⟩),.inl⟩
theorem wf_mkC {N:Nat} {b:Bool} {cs:List Cl} (ok:OkL N cs):(mkC b (ded N cs)).wf:=by
 cases b
 · exact wf_all ok
 · exact wf_any ok
theorem mkC_ded_holds {N:Nat} {b:Bool} {V:Ver} {cs:List Cl} (ok:OkL N cs):(mkC b (ded N cs)).holds V = bothH b V cs:=by
 cases b
 · exact holds_all ok
 · exact holds_any ok
theorem parts_ok {N:Nat} {b:Bool} {s:Cl} {ds:List Cl} (h:s.parts b = some ds) (ok:Ok N s):OkL N ds ∧ Apart ds:=by
 have e:=parts_wt h
 subst e
 cases b
 · exact ⟨ok.allL,ok.1.2⟩
 · exact ⟨ok.anyL,ok.1.2⟩
theorem opH_dec:∀ b x y z:Bool,opH b (opH b x z) y = opH b x z → opH b y z = y → opH b x z = opH b x y:=by decide
theorem stepS_spec {N:Nat} {b:Bool} {acc:List Cl} {s:Cl} (ok:OkL N acc) (ap:Apart acc) (os:Ok N s) (hN:0 < N) (V:Ver) :
   OkL N (stepS N b acc s) ∧ Apart (stepS N b acc s) ∧ bothH b V (stepS N b acc s) = opH b (bothH b V acc) (s.holds V):=by
 have iff:∀ {a d:Cl},a ∈ acc → Ok N d → (Cl.eqn N a d = true ↔ Eqv a d):=fun {a d} ha hd => eqn_iff N a d (ok a ha).2 hd.2 (ok a ha).1 hd.1
 have un:Ok N (unitC b):=⟨by cases b <;> exact trivial,by cases b <;> exact hN⟩
 cases hp:s.parts b with
 | some ds =>
   obtain ⟨od,ad⟩:=parts_ok hp os
   rw [stepS_parts hp]
   have es:=parts_wt hp
   have sub:(ds.filter fun d => !acc.any fun a => Cl.eqn N a d).Sublist ds:=List.filter_sublist
   refine ⟨ok.append (od.sub sub),List.pairwise_append.mpr ⟨ap,ad.sublist sub,fun a ha d hd e => ?_⟩,?_⟩
   · obtain ⟨hd',q⟩:=List.mem_filter.mp hd
     rw [Bool.not_eq_true',List.any_eq_false] at q
     exact q a ha ((iff ha (od d hd')).mpr e)
   · rw [es,mkC_holds,bothH_append]
     have cov:Cov Eqv ds (acc ++ ds.filter fun d => !acc.any fun a => Cl.eqn N a d):=fun d hd => by
       cases q:acc.any fun a => Cl.eqn N a d with
       | true =>
         obtain ⟨a,ha,e⟩:=List.any_eq_true.mp q
         exact ⟨a,List.mem_append.mpr (.inl ha),((iff ha (od d hd)).mp e).symm⟩
       | false => exact ⟨d,List.mem_append.mpr (.inr (List.mem_filter.mpr ⟨hd,by rw [q];rfl⟩)),Eqv.refl d⟩
     have c2:Cov Eqv (ds.filter fun d => !acc.any fun a => Cl.eqn N a d) ds:=fun d hd => ⟨d,sub.subset hd,Eqv.refl d⟩
     have h1:=bothH_sub (b:=b) (V:=V) cov
     have h2:=bothH_sub (b:=b) (V:=V) c2
     rw [bothH_append] at h1
     exact opH_dec _ _ _ _ h1 h2
 | none =>
   cases q:Cl.eqn N s (unitC b) with
   | true =>
     rw [stepS_unit hp q]
     refine ⟨ok,ap,?_⟩
     rw [((eqn_iff N s (unitC b) os.2 un.2 os.1 un.1).mp q).holds,unit_holds]
   | false =>
     cases q2:acc.any fun a => Cl.eqn N a s with
     | true =>
       rw [stepS_in hp q q2]
       obtain ⟨a,ha,e⟩:=List.any_eq_true.mp q2
       have:=bothH_sub (b:=b) (V:=V) (cs:=acc) (ds:=[s]) fun d hd => ⟨a,ha,by obtain rfl:=List.mem_singleton.mp hd;exact ((iff ha os).mp e).symm⟩
       rw [bothH_one] at this
       exact ⟨ok,ap,this.symm⟩
     | false =>
       rw [stepS_new hp q q2]
       refine ⟨ok.append (Ok.one os),List.pairwise_append.mpr ⟨ap,List.pairwise_singleton ..,fun a ha d hd e => ?_⟩,by rw [bothH_append,bothH_one]⟩
       obtain rfl:=List.mem_singleton.mp hd
       rw [List.any_eq_false] at q2
       exact q2 a ha ((iff ha os).mpr e)
set_option tactic.hygienic true in
theorem finS_spec {N:Nat} {b:Bool} {acc:List Cl} (ok:OkL N acc) (V:Ver):(finS N b acc).wf ∧ (finS N b acc).holds V = bothH b V acc:=by
 unfold finS
 split
 · rename_i c
   exact ⟨(ok c (.head _)).1,(bothH_one b V c).symm⟩
 · exact ⟨wf_mkC ok,mkC_ded_holds ok⟩
mutual
theorem simp_spec (N:Nat) (V:Ver):∀ c:Cl,Ok N c → (c.simp N).wf ∧ (c.simp N).holds V = c.holds V
 | .any cs, h => by
   have:=simpL_spec N V true cs [] h.anyL .nil .nil (by have:=h.2;lia)
   have f:=finS_spec (b:=true) this.1 V
   refine ⟨f.1,f.2.trans ?_⟩
   rw [this.2.2]
   show (false || anyH V cs) = anyH V cs
   rw [Bool.false_or]
 | .all cs, h => by
   have:=simpL_spec N V false cs [] h.allL .nil .nil (by have:=h.2;lia)
   have f:=finS_spec (b:=false) this.1 V
   refine ⟨f.1,f.2.trans ?_⟩
   rw [this.2.2]
   show (true && allH V cs) = allH V cs
   rw [Bool.true_and]
 | .never,h => ⟨h.1,rfl⟩
 | .always,h => ⟨h.1,rfl⟩
 | .rng _ _ _,h => ⟨h.1,rfl⟩
theorem simpL_spec (N:Nat) (V:Ver) (b:Bool):∀ (cs acc:List Cl),OkL N cs → OkL N acc → Apart acc → 0 < N → OkL N (simpL N b cs acc) ∧ Apart (simpL N b cs acc) ∧ bothH b V (simpL N b cs acc) = opH b (bothH b V acc) (bothH b V cs)
 | [], acc, _, h2, h3, _ => ⟨by simpa only [simpL] using h2, by simpa only [simpL] using h3, by
   simp only [simpL]
   cases b
   · show allH V acc = (allH V acc && true);rw [Bool.and_true]
   · show anyH V acc = (anyH V acc || false);rw [Bool.or_false]⟩
 | c :: cs, acc, h1, h2, h3, h4 => by
   have hc:=h1 c (.head _)
   have s1:=simp_spec N V c hc
   have os:Ok N (c.simp N):=⟨s1.1,Nat.lt_of_le_of_lt (simp_le N c).2 hc.2⟩
   have st:=stepS_spec (b:=b) h2 h3 os h4 V
   have r:=simpL_spec N V b cs (stepS N b acc (c.simp N)) (fun d hd => h1 d (.tail _ hd)) st.1 st.2.1 h4
   simp only [simpL]
   refine ⟨r.1,r.2.1,r.2.2.trans ?_⟩
   rw [st.2.2,s1.2]
   have:bothH b V (c :: cs) = opH b (c.holds V) (bothH b V cs):=by cases b <;> rfl
   rw [this]
   cases b <;> simp [opH,Bool.and_assoc,Bool.or_assoc]
end
noncomputable def partedB (x sa sb sc:Str) (jo:Option Str):Bool :=
 match rxEnds 100 (Sre.forMatch (codeI.map (·.toNat)) x.cps 5 0 x.length false false) with
 | none => false
 | some e => (match e.outcome with | some .matched => true | _ => false) && ((rxBad e 5 == false) && (
   let nums:=(rawInt e.start :: rawInt e.handed :: rxSpans e 5).toArray.map Builtin.Re.reRawOf
   (nums.size == 12) && ((grpOf x nums 1 == some sa) && ((grpOf x nums 2 == some sb) && ((grpOf x nums 3 == some sc) && ((grpOf x nums 4 == jo) && (grpOf x nums 5 == none)))))))
set_option tactic.hygienic true in
theorem parted_of {x sa sb sc:Str} {jo:Option Str} (h:partedB x sa sb sc jo = true):Parted x sa sb sc jo:=by
 unfold partedB at h
 split at h
 · cases h
 · rename_i e he
   simp only [Bool.and_eq_true,beq_iff_eq] at h
   obtain ⟨h1,h2,h3,h4,h5,h6,h7,h8⟩:=h
   refine ⟨100,e,_,by decide,he,?_,h2,rfl,h3,h4,h5,h6,h7,h8⟩
   split at h1
   · assumption
   · cases h1
noncomputable def wordB (x:Str):Bool:=x.cps.toList.all (fun c => decide (c < 128)) && (decide (x.length ≤ 640) && ((!PySem.Txt.isdigit x || (PySem.intText? x).isSome) && (decide (0 < x.length) && !((PySem.Txt.item x 0 == Str.ofString "0") && (PySem.Txt.isdigit x && (x != Str.ofString "0"))))))
theorem word_of {x:Str} (h:wordB x = true):WordOk x:=by
 unfold wordB at h
 simp only [Bool.and_eq_true,decide_eq_true_eq,List.all_eq_true,Bool.or_eq_true,Bool.not_eq_true',Bool.and_eq_false_iff] at h
 obtain ⟨h1,h2,h3,h4,h5⟩:=h
 refine ⟨h1,h2,fun d => ?_,h4,fun a b => ?_⟩
 · rcases h3 with h3 | h3
   · rw [h3] at d;cases d
   · obtain ⟨n,hn⟩:=Option.isSome_iff_exists.mp h3
     rw [hn];rfl
 · rcases h5 with h5 | h5 | h5
   · rw [h5] at a;cases a
   · rw [h5] at b;cases b
   · exact h5
noncomputable def mkVer (ma mi pa:Int) (pre:List Str):Ver:=⟨ma,mi,pa,pre,if pre = [] then [.max] else pre.map idOf⟩
noncomputable def textB (x sa sb sc:Str) (jo:Option Str) (ma mi pa:Int) (pre:List Str):Bool :=
 decide (0 < x.length) && (decide (x.length ≤ 1000) && (partedB x sa sb sc jo && (wordB sa && (wordB sb && (wordB sc && ((PySem.intText? sa == some ma) && ((PySem.intText? sb == some mi) && ((PySem.intText? sc == some pa) && ((pre.all wordB) && (decide (pre.length < 100) &&
 (match jo with | none => pre == [] | some J => decide (0 < J.length) && (decide (J.length ≤ 1000) && ((Txt.split J (Str.ofString ".") == pre) && (pre != []))))))))))))))
theorem text_of {x sa sb sc:Str} {jo:Option Str} {ma mi pa:Int} {pre:List Str} (h:textB x sa sb sc jo ma mi pa pre = true):TextOk x (mkVer ma mi pa pre):=by
 unfold textB at h
 simp only [Bool.and_eq_true,decide_eq_true_eq,beq_iff_eq,List.all_eq_true] at h
 obtain ⟨h1,h2,h3,h4,h5,h6,h7,h8,h9,h10,h11,h12⟩:=h
 refine ⟨h1,h2,⟨sa,sb,sc,jo,parted_of h3,⟨word_of h4,h7⟩,⟨word_of h5,h8⟩,⟨word_of h6,h9⟩,?_⟩,fun w hw => word_of (h10 w hw),h11,rfl⟩
 cases jo with
 | none => exact .inl ⟨rfl,by show pre = [];exact beq_iff_eq.mp h12⟩
 | some J =>
   simp only [Bool.and_eq_true,decide_eq_true_eq,beq_iff_eq,bne_iff_ne] at h12
   exact .inr ⟨J,rfl,h12.1,h12.2.1,h12.2.2.1,h12.2.2.2⟩
theorem t1:textB (Str.ofString "1.0.1-a.1") (Str.ofString "1") (Str.ofString "0") (Str.ofString "1") (some (Str.ofString "a.1")) 1 0 1 [Str.ofString "a", Str.ofString "1"] = true:=by kernel_rfl
inductive IsTri (h:Heap) (v:Value) (n:Int × Int × Int):Prop
 | mk (t:_) (t1:_) (t2:_) (t3:_):(v = .ref t) → IsTup h t #[.int n.1 t1,.int n.2.1 t2,.int n.2.2 t3] → IsTri h v n
theorem IsTri.grows {t:List Addr} {h h':Heap} {v:Value} {n:Int × Int × Int} (x:IsTri h v n) (k:Grows t h h'):IsTri h' v n:=by obtain ⟨a,b,c,d,e,f⟩:=x;exact ⟨a,b,c,d,e,isTup_grows f k⟩
noncomputable def AllT (h:Heap):List Value → List (Int × Int × Int) → Prop
 | [],[] => True
 | v :: vs,x :: xs => IsTri h v x ∧ AllT h vs xs
 | _,_ => False
theorem AllT.get {h:Heap} {vs:List Value} {xs:List (Int × Int × Int)} {i:Nat} {v:Value} (a:AllT h vs xs) (e:vs[i]? = some v):∃ x,xs[i]? = some x ∧ IsTri h v x:=by
 induction vs generalizing xs i with
 | nil => exact nomatch e
 | cons w vs ih => cases xs with
   | nil => exact a.elim
   | cons x ys => cases i with
     | zero => cases e;exact ⟨x,rfl,a.1⟩
     | succ i => exact ih (xs:=ys) a.2 e
theorem AllT.length {h:Heap} {vs:List Value} {xs:List (Int × Int × Int)} (a:AllT h vs xs):vs.length = xs.length:=by
 induction vs generalizing xs with
 | nil => cases xs with
   | nil => rfl
   | cons x xs => exact a.elim
 | cons w vs ih => cases xs with
   | nil => exact a.elim
   | cons x ys => exact congrArg (· + 1) (ih (xs:=ys) a.2)
inductive Leaf
 | one (j:Int)
 | rng (o w:Int) (n:Int × Int × Int) (wd:Int)
inductive LeafOne (h:Heap) (v:Value) (j:Int):Prop
 | mk (t:Addr) (t1:Tok):v = .ref t → IsTup h t #[.int j t1] → LeafOne h v j
inductive LeafRng (h:Heap) (v:Value) (o w:Int) (n:Int × Int × Int) (wd:Int):Prop
 | mk (t:Addr) (t1 t2 t3:Tok) (nv:Value):v = .ref t → IsTup h t #[.int o t1,.int w t2,nv,.int wd t3] → IsTri h nv n → LeafRng h v o w n wd
noncomputable def IsLeaf (h:Heap) (v:Value):Leaf → Prop
 | .one j => LeafOne h v j
 | .rng o w n wd => LeafRng h v o w n wd
theorem IsLeaf.grows {t:List Addr} {h h':Heap} {v:Value} {l:Leaf} (x:IsLeaf h v l) (k:Grows t h h'):IsLeaf h' v l:=by
 cases l with
 | one j => obtain ⟨a,b,e,f⟩:=x;exact ⟨a,b,e,isTup_grows f k⟩
 | rng o w n wd => obtain ⟨a,b,c,d,nv,e,f,g⟩:=x;exact ⟨a,b,c,d,nv,e,isTup_grows f k,g.grows k⟩
noncomputable def rangeOf (n:Int):Leaf:=.rng (n.fmod 6) ((n.fdiv 6).fmod 3) ((n.fdiv 18).fmod 2,(n.fdiv 36).fmod 2,(n.fdiv 72).fmod 2) ((n.fdiv 144).fmod 6)
noncomputable abbrev Tri:=Int × Int × Int
noncomputable def ordTri (n m:Tri):Ordering:=oThen (ordInt n.1 m.1) (oThen (ordInt n.2.1 m.2.1) (oThen (ordInt n.2.2 m.2.2) .eq))
theorem ordInt_refl (i:Int):ordInt i i = .eq:=by unfold ordInt;rw [if_neg (by lia),if_pos rfl]
theorem ordTri_refl (n:Tri):ordTri n n = .eq:=by simp [ordTri,ordInt_refl,oThen]
theorem IsTri.inj {h:Heap} {v:Value} {n m:Tri} (a:IsTri h v n) (b:IsTri h v m):n = m:=by
 obtain ⟨x,t1,t2,t3,rfl,I⟩:=a
 obtain ⟨y,u1,u2,u3,e,J⟩:=b
 cases e
 have q:=IsTup.inj (xs:=[_,_,_]) (ys:=[_,_,_]) I J
 simp only [List.cons.injEq,Value.int.injEq] at q
 obtain ⟨n1,n2,n3⟩:=n
 obtain ⟨m1,m2,m3⟩:=m
 simp only at q
 rw [q.1.1,q.2.1.1,q.2.2.1.1]
theorem tri_op {g:G} {op:CmpOp} (hop:Six op) {nd nu:Nat} (v u:Value) (n m:Tri):Runs g (richCompare op v u) nd (nu + 1) (fun h => IsTri h v n ∧ IsTri h u m) (fun zz r => r = .bool (opOrd op (ordTri n m))):=by
 intro A s fz Q E hh hd hu sub inv bare pre k
 obtain ⟨⟨x,t1,t2,t3,rfl,I⟩,⟨y,u1,u2,u3,rfl,J⟩⟩:=pre
 exact tup_runs (g:=g) (nd:=nd) (nu:=nu) (P:=fun h => IsTup h x #[.int n.1 t1,.int n.2.1 t2,.int n.2.2 t3] ∧ IsTup h y #[.int m.1 u1,.int m.2.1 u2,.int m.2.2 u3]) (xs:=[_,_,_]) (ys:=[_,_,_]) hop (fun h h' q z => ⟨isTup_grows z.1 q,isTup_grows z.2 q⟩) (fun zz z => z)
   (lex_step hop (int_eqBool _ _ _ _) (int_op hop _ _ _ _) (lex_step hop (int_eqBool _ _ _ _) (int_op hop _ _ _ _) (lex_step hop (int_eqBool _ _ _ _) (int_op hop _ _ _ _) (lex_end hop)))) (fun q => nomatch q) A s fz Q E hh hd hu sub inv bare ⟨I,J⟩ k
theorem eqBool_of {g:G} {nd nu:Nat} {P:Heap → Prop} {v u:Value} {o:Ordering} (hr:∀ h,P h → ∃ x y,v = .ref x ∧ u = .ref y) (h:Runs g (richCompare .Eq v u) nd nu P (fun zz r => r = .bool (opOrd .Eq o))) (hs:∀ h,P h → v = u → o = .eq):Runs g (eqBool v u) nd nu P (fun zz r => r = (o == .eq)):=by
 intro A s fz Q E hh hd hu sub inv bare pre k
 obtain ⟨x,y,rfl,rfl⟩:=hr _ pre
 exact eqBool_ref (b:=o == .eq) h (fun h z e => by rw [hs h z (by rw [e])];rfl) A s fz Q E hh hd hu sub inv bare pre k
theorem tri_eqB {g:G} {nd nu:Nat} (v u:Value) (n m:Tri):Runs g (eqBool v u) nd (nu + 1) (fun h => IsTri h v n ∧ IsTri h u m) (fun zz r => r = (ordTri n m == .eq)) :=
 eqBool_of (fun h z => by obtain ⟨⟨x,_,_,_,rfl,_⟩,⟨y,_,_,_,rfl,_⟩⟩:=z;exact ⟨_,_,rfl,rfl⟩) (tri_op (.inl rfl) v u n m) (fun h z e => by
   subst e
   rw [z.1.inj z.2];exact ordTri_refl _)
inductive IsDuo (h:Heap) (v:Value) (n m:Tri):Prop
 | mk0 (t:_) (x:_) (y:_):(v = .ref t) → IsTup h t #[x,y] → IsTri h x n → IsTri h y m → IsDuo h v n m
theorem IsDuo.grows {t:List Addr} {h h':Heap} {v:Value} {n m:Tri} (x:IsDuo h v n m) (k:Grows t h h'):IsDuo h' v n m:=by obtain ⟨a,b,c,d,e,f,i⟩:=x;exact ⟨a,b,c,d,isTup_grows e k,f.grows k,i.grows k⟩
theorem duo_op {g:G} {op:CmpOp} (hop:Six op) {nd nu:Nat} (v u:Value) (a b c d:Tri):Runs g (richCompare op v u) nd (nu + 2) (fun h => IsDuo h v a b ∧ IsDuo h u c d) (fun zz r => r = .bool (opOrd op (oThen (ordTri a c) (oThen (ordTri b d) .eq)))):=by
 intro A s fz Q E hh hd hu sub inv bare pre k
 obtain ⟨⟨x,x1,x2,rfl,I,I1,I2⟩,⟨y,y1,y2,rfl,J,J1,J2⟩⟩:=pre
 exact tup_runs (g:=g) (nd:=nd) (nu:=nu + 1) (P:=fun h => (IsTup h x #[x1,x2] ∧ IsTup h y #[y1,y2]) ∧ (IsTri h x1 a ∧ IsTri h y1 c) ∧ IsTri h x2 b ∧ IsTri h y2 d) (xs:=[_,_]) (ys:=[_,_]) hop (fun h h' q z => ⟨⟨isTup_grows z.1.1 q,isTup_grows z.1.2 q⟩,⟨z.2.1.1.grows q,z.2.1.2.grows q⟩,z.2.2.1.grows q,z.2.2.2.grows q⟩) (fun zz z => z.1)
   (lex_step hop ((tri_eqB (g:=g) (nd:=nd) x1 y1 a c).mono (Nat.le_refl _) (Nat.le_refl _) (fun zz z => z.2.1) fun zz zz z => z) ((tri_op (g:=g) (nd:=nd) hop x1 y1 a c).mono (Nat.le_refl _) (Nat.le_refl _) (fun zz z => z.2.1) fun zz zz z => z)
     (lex_step hop ((tri_eqB (g:=g) (nd:=nd) x2 y2 b d).mono (Nat.le_refl _) (Nat.le_refl _) (fun zz z => z.2.2) fun zz zz z => z) ((tri_op (g:=g) (nd:=nd) hop x2 y2 b d).mono (Nat.le_refl _) (Nat.le_refl _) (fun zz z => z.2.2) fun zz zz z => z) (lex_end hop)))
   (fun q => nomatch q) A s fz Q E hh hd (by lia) sub inv bare ⟨⟨I,J⟩,⟨I1,J1⟩,I2,J2⟩ k
inductive IsVn (h:Heap) (v:Value) (n:Tri) (wd:Int):Prop
 | mk (t:_) (nv:_) (t1:_):(v = .ref t) → IsTup h t #[nv,.int wd t1] → IsTri h nv n → IsVn h v n wd
theorem IsVn.grows {t:List Addr} {h h':Heap} {v:Value} {n:Tri} {wd:Int} (x:IsVn h v n wd) (k:Grows t h h'):IsVn h' v n wd:=by obtain ⟨a,b,c,d,e,f⟩:=x;exact ⟨a,b,c,d,isTup_grows e k,f.grows k⟩
noncomputable def keyL (wd:Int):Tri:=(([(2,0,0),(1,0,0),(1,1,0),(1,0,1),(0,9,0),(0,10,0)]:List Tri)[wd.toNat]?).getD (0,0,0)
noncomputable def opL (o:Int):CmpOp:=(([.Eq,.NotEq,.Lt,.LtE,.Gt,.GtE]:List CmpOp)[o.toNat]?).getD .Eq
noncomputable def holdsL (o way:Int) (n:Tri) (wd:Int) (vn:Tri) (vw:Int):Bool :=
 if 0 < vw ∧ way = 2 ∧ vn ≠ n then false
 else if 0 < vw ∧ way = 0 ∧ vn = n ∧ wd = 0 ∧ (o = 1 ∨ o = 2) then false
 else opOrd (opL o) (oThen (ordTri vn n) (oThen (ordTri (keyL vw) (keyL wd)) .eq))
theorem ordInt_iff {i j:Int}:ordInt i j = .eq ↔ i = j:=by
 unfold ordInt
 by_cases h:i < j
 · rw [if_pos h];constructor
   · intro e;cases e
   · intro e;lia
 · rw [if_neg h]
   by_cases h':i = j <;> simp [h']
theorem oThen_iff {o o':Ordering}:oThen o o' = .eq ↔ o = .eq ∧ o' = .eq:=by cases o <;> cases o' <;> decide
theorem ordTri_iff {n m:Tri}:ordTri n m = .eq ↔ n = m:=by
 obtain ⟨a,b,c⟩:=n
 obtain ⟨d,e,f⟩:=m
 unfold ordTri
 rw [oThen_iff,oThen_iff,oThen_iff,ordInt_iff,ordInt_iff,ordInt_iff,Prod.mk.injEq,Prod.mk.injEq]
 exact ⟨fun h => ⟨h.1,h.2.1,h.2.2.1⟩,fun h => ⟨h.1,h.2.1,h.2.2,rfl⟩⟩
theorem sj0 {n:Nat}:seqIndex? 0 (n + 1) = some 0:=by unfold seqIndex?;simp
theorem sj1 {n:Nat}:seqIndex? 1 (n + 2) = some 1:=by unfold seqIndex?;simp;lia
theorem sj2 {n:Nat}:seqIndex? 2 (n + 3) = some 2:=by unfold seqIndex?;simp;lia
theorem sj3 {n:Nat}:seqIndex? 3 (n + 4) = some 3:=by unfold seqIndex?;simp;lia
theorem tu0 {a:Value} {l:List Value}:(a :: l).toArray[0]? = some a:=by simp
theorem tu1 {a b:Value} {l:List Value}:(a :: b :: l).toArray[1]? = some b:=by simp
theorem tu2 {a b c:Value} {l:List Value}:(a :: b :: c :: l).toArray[2]? = some c:=by simp
theorem tu3 {a b c d:Value} {l:List Value}:(a :: b :: c :: d :: l).toArray[3]? = some d:=by simp
theorem IsDuo.mk {h:Heap} {t:Addr} {x y:Value} {n m:Tri} (a:IsTup h t #[x,y]) (b:IsTri h x n) (c:IsTri h y m):IsDuo h (.ref t) n m:=⟨_,_,_,rfl,a,b,c⟩
section
variable {g:G} {s₀ s:Shared} {fz₀ fz:Heap} {L:Addr} {l:List (Str × Value)} {mu:List (Addr × Obj)} {A:Around} {E:Value → Shared → Prop} {M:Model} {la:Addr} {Q:Value → Shared → Prop}
theorem m_in2 {i a b:Int} {t ta tb:Tok} (hM:M = model g.prog g.w) (S:St g s₀ fz₀ s.heap s.gens s.os fz L l mu) (hl:IsTup fz la #[.int a ta,.int b tb]) (hh:A.handled = none) (hd:A.depth < recursionLimit) (hu:A.units + 3 < cLine)
   (k:∀ s' fz',Grows g.tabs fz fz' → St g s₀ fz₀ s'.heap s'.gens s'.os fz' L l mu → Q (.bool (decide (i = a ∨ i = b))) s'):wpAny M A (compareOp .In (.int i t) (.ref la)) Q E s:=by
 subst hM
 show wpAny _ _ (do return .bool (← contains (.ref la) (.int i t))) Q E s
 refine wpAny_bind (contains_tuple (g:=g) (nd:=0) (nu:=0) (P:=fun zz => True) (ys:=[.int a ta,.int b tb]) (bs:=[a == i,b == i]) (fun zz zz zz z => z) ⟨eqBool_int,eqBool_int,trivial⟩ hh hd (by lia) S.le S.inv S.bare trivial (isTup_sub hl S.le) fun s' fz' z => wpAny_pure ?_)
 have e:([a == i,b == i].any id) = decide (i = a ∨ i = b):=by
   rw [Bool.eq_iff_iff];simp only [List.any_cons,List.any_nil,_root_.id,Bool.or_false,Bool.or_eq_true,beq_iff_eq,decide_eq_true_eq];constructor <;> intro q <;> lia
 rw [e]
 exact k s' fz' z.gr (S.after z)
end
theorem opEq_t {n m:Tri} (h:opOrd .Eq (ordTri n m) = true):n = m:=ordTri_iff.mp (by simpa [opOrd] using h)
theorem opEq_f {n m:Tri} (h:opOrd .Eq (ordTri n m) = false):n ≠ m:=fun e => by rw [e,ordTri_refl] at h;cases h
theorem opNe_f {n m:Tri} (h:opOrd .NotEq (ordTri n m) = false):n = m:=ordTri_iff.mp (by simpa [opOrd] using h)
theorem opNe_t {n m:Tri} (h:opOrd .NotEq (ordTri n m) = true):n ≠ m:=fun e => by rw [e,ordTri_refl] at h;cases h
section
variable {o way wd vw:Int} {n vn:Tri} {b:Bool} (hb:b = opOrd (opL o) (oThen (ordTri vn n) (oThen (ordTri (keyL vw) (keyL wd)) .eq)))
theorem holds_b (h0:0 < vw) (h:opOrd .NotEq (ordTri vn n) = true):Value.bool false = .bool (holdsL o 2 n wd vn vw):=by unfold holdsL;rw [if_pos ⟨h0,rfl,opNe_t h⟩]
include hb
omit hb
theorem holds_g (h0:0 < vw) (h1:opOrd .Eq (ordTri vn n) = true) (h2:wd = 0) (h3:o = 1 ∨ o = 2):Value.bool false = .bool (holdsL o 0 n wd vn vw):=by unfold holdsL;rw [if_neg (fun q => absurd q.2.1 (by lia)),if_pos ⟨h0,rfl,opEq_t h1,h2,h3⟩]
end
noncomputable def wordL (wd:Int):Str:=([Str.ofString "", Str.ofString "-a", Str.ofString "-b", Str.ofString "-a.1", Str.ofString "-9", Str.ofString "-10"][wd.toNat]?).getD (Str.ofString "")
noncomputable def textL (n:Tri) (wd:Int):Str:=Str.ofString (toString n.1) ++ Str.ofString "." ++ Str.ofString (toString n.2.1) ++ Str.ofString "." ++ Str.ofString (toString n.2.2) ++ wordL wd
noncomputable def joL (wd:Int):Option Str:=([none,some (Str.ofString "a"),some (Str.ofString "b"),some (Str.ofString "a.1"),some (Str.ofString "9"),some (Str.ofString "10")][wd.toNat]?).getD none
noncomputable def preL (wd:Int):List Str:=([[],[Str.ofString "a"],[Str.ofString "b"],[Str.ofString "a", Str.ofString "1"],[Str.ofString "9"],[Str.ofString "10"]][wd.toNat]?).getD []
noncomputable def verL (n:Tri) (wd:Int):Ver:=mkVer n.1 n.2.1 n.2.2 (preL wd)
noncomputable def tl (a b c wd:Int):Bool:=textB (textL (a,b,c) wd) (Str.ofString (toString a)) (Str.ofString (toString b)) (Str.ofString (toString c)) (joL wd) a b c (preL wd)
noncomputable def tlw (wd:Int):Bool:=tl 0 0 0 wd && (tl 0 0 1 wd && (tl 0 1 0 wd && (tl 0 1 1 wd && (tl 1 0 0 wd && (tl 1 0 1 wd && (tl 1 1 0 wd && tl 1 1 1 wd))))))
theorem tlw0:tlw 0 = true:=by kernel_rfl
theorem tlw1:tlw 1 = true:=by kernel_rfl
theorem tlw2:tlw 2 = true:=by kernel_rfl
theorem tlw3:tlw 3 = true:=by kernel_rfl
theorem tlw4:tlw 4 = true:=by kernel_rfl
theorem tlw5:tlw 5 = true:=by kernel_rfl
theorem text_ok {n:Tri} {wd:Int} (b1:0 ≤ n.1 ∧ n.1 < 2) (b2:0 ≤ n.2.1 ∧ n.2.1 < 2) (b3:0 ≤ n.2.2 ∧ n.2.2 < 2) (h0:0 ≤ wd) (h6:wd < 6):TextOk (textL n wd) (verL n wd):=by
 have h:tlw wd = true:=by
   have hw:wd = 0 ∨ wd = 1 ∨ wd = 2 ∨ wd = 3 ∨ wd = 4 ∨ wd = 5:=by lia
   rcases hw with rfl | rfl | rfl | rfl | rfl | rfl
   · exact tlw0
   · exact tlw1
   · exact tlw2
   · exact tlw3
   · exact tlw4
   · exact tlw5
 unfold tlw at h
 simp only [Bool.and_eq_true] at h
 obtain ⟨q1,q2,q3,q4,q5,q6,q7,q8⟩:=h
 obtain ⟨a,b,c⟩:=n
 simp only at b1 b2 b3
 have ha:a = 0 ∨ a = 1:=by lia
 have hb:b = 0 ∨ b = 1:=by lia
 have hc:c = 0 ∨ c = 1:=by lia
 rcases ha with rfl | rfl <;> rcases hb with rfl | rfl <;> rcases hc with rfl | rfl <;> exact text_of (by assumption)
noncomputable def opS (o:Int):Str:=([Str.ofString "==", Str.ofString "!=", Str.ofString "<", Str.ofString "<=", Str.ofString ">", Str.ofString ">="][o.toNat]?).getD (Str.ofString "")
noncomputable def wayS (o:Int):Str:=([Str.ofString "natural", Str.ofString "always", Str.ofString "same-patch"][o.toNat]?).getD (Str.ofString "")
noncomputable def clL:Leaf → Cl
 | .one j => ([.always,.never,.any [],.all []][j.toNat]?).getD .always
 | .rng o w n wd => .rng (opS o) (wayS w) (verL n wd)
noncomputable def Leaf.ok:Leaf → Prop
 | .one j => 0 ≤ j ∧ j < 4
 | .rng o w n wd => (0 ≤ o ∧ o < 6) ∧ (0 ≤ w ∧ w < 3) ∧ ((0 ≤ n.1 ∧ n.1 < 2) ∧ (0 ≤ n.2.1 ∧ n.2.1 < 2) ∧ (0 ≤ n.2.2 ∧ n.2.2 < 2)) ∧ 0 ≤ wd ∧ wd < 6
theorem rangeOf_ok (n:Int):(rangeOf n).ok:=by
 have m:∀ a b:Int,0 < b → 0 ≤ a.fmod b ∧ a.fmod b < b:=fun a b h => ⟨Int.fmod_nonneg_of_pos a h,Int.fmod_lt_of_pos a h⟩
 exact ⟨m _ 6 (by lia),m _ 3 (by lia),⟨m _ 2 (by lia),m _ 2 (by lia),m _ 2 (by lia)⟩,m _ 6 (by lia)⟩
theorem opS_ok {o:Int} (h0:0 ≤ o) (h6:o < 6):OpOk (opS o):=by
 have hw:o = 0 ∨ o = 1 ∨ o = 2 ∨ o = 3 ∨ o = 4 ∨ o = 5:=by lia
 unfold OpOk
 rcases hw with rfl | rfl | rfl | rfl | rfl | rfl
 · exact .inl rfl
 · exact .inr (.inl rfl)
 · exact .inr (.inr (.inl rfl))
 · exact .inr (.inr (.inr (.inl rfl)))
 · exact .inr (.inr (.inr (.inr (.inl rfl))))
 · exact .inr (.inr (.inr (.inr (.inr rfl))))
end
section
open PySem PySem.W PySem.Calls PyProof.Rows PySem.Spec
noncomputable def NextP (M:Model) (A:Around) (rest:List Stmt) (env:Env) (Q:Flow → Shared → Prop) (E:Value → Shared → Prop) (f:Flow) (s:Shared):Prop:=match f with
 | .next => wpAny M A (execs rest env) Q E s
 | f => Q f s
noncomputable def IfP (M:Model) (A:Around) (body orelse:List Stmt) (env:Env) (Q:Flow → Shared → Prop) (E:Value → Shared → Prop) (b:Bool) (s:Shared):Prop:=if b then wpAny M A (execs body env) Q E s else wpAny M A (execs orelse env) Q E s
section
variable {M:Model} {A:Around} {rest body orelse:List Stmt} {st:Stmt} {env:Env} {Q:Flow → Shared → Prop} {E:Value → Shared → Prop} {s:Shared} {v:Value} {test:PySem.Expr} {pos:Pos}
theorem x_cons (h:wpAny M A (exec st env) (NextP M A rest env Q E) E s):wpAny M A (execs (st :: rest) env) Q E s :=
 wpAny_execs_cons (wpAny_mono h (fun f zz z => by cases f <;> exact z) fun zz zz z => z)
theorem NextP.next (h:wpAny M A (execs rest env) Q E s):NextP M A rest env Q E .next s:=h
theorem NextP.ret (h:Q (.ret v) s):NextP M A rest env Q E (.ret v) s:=h
theorem NextP.brk (h:Q .brk s):NextP M A rest env Q E .brk s:=h
theorem NextP.cont (h:Q .cont s):NextP M A rest env Q E .cont s:=h
theorem x_if (h:wpAny M A (isTrue test env (eval test env)) (IfP M A body orelse env Q E) E s):wpAny M A (exec (.If test body orelse pos) env) Q E s:=wpAny_If h
theorem IfP.yes {b:Bool} (e:b = true) (h:wpAny M A (execs body env) Q E s):IfP M A body orelse env Q E b s:=by subst e;exact h
theorem IfP.no {b:Bool} (e:b = false) (h:wpAny M A (execs orelse env) Q E s):IfP M A body orelse env Q E b s:=by subst e;exact h
theorem IfP.yesD {c:Prop} [Decidable c] (e:c) (h:wpAny M A (execs body env) Q E s):IfP M A body orelse env Q E (decide c) s:=IfP.yes (decide_eq_true e) h
theorem IfP.noD {c:Prop} [Decidable c] (e:¬ c) (h:wpAny M A (execs orelse env) Q E s):IfP M A body orelse env Q E (decide c) s:=IfP.no (decide_eq_false e) h
theorem IfP.dec {c:Prop} [Decidable c] (h1:c → wpAny M A (execs body env) Q E s) (h2:¬ c → wpAny M A (execs orelse env) Q E s):IfP M A body orelse env Q E (decide c) s:=by
 by_cases hc:c
 · exact IfP.yesD hc (h1 hc)
 · exact IfP.noD hc (h2 hc)
theorem IfP.any {b:Bool} (h1:b = true → wpAny M A (execs body env) Q E s) (h2:b = false → wpAny M A (execs orelse env) Q E s):IfP M A body orelse env Q E b s:=by
 cases b
 · exact h2 rfl
 · exact h1 rfl
end
section
variable {M:Model} {A:Around} {body orelse:List Stmt} {env:Env} {Q:Flow → Shared → Prop} {E:Value → Shared → Prop} {s:Shared}
theorem IfP.ieq {i j:Int} (h1:i = j → wpAny M A (execs body env) Q E s) (h2:¬ i = j → wpAny M A (execs orelse env) Q E s):IfP M A body orelse env Q E (i == j) s:=IfP.any (fun h => h1 (by simpa using h)) fun h => h2 (by simpa using h)
theorem IfP.ine {i j:Int} (h1:¬ i = j → wpAny M A (execs body env) Q E s) (h2:i = j → wpAny M A (execs orelse env) Q E s):IfP M A body orelse env Q E (i != j) s:=IfP.any (fun h => h1 (by simpa using h)) fun h => h2 (by simpa using h)
theorem IfP.not {b:Bool} (h:IfP M A orelse body env Q E b s):IfP M A body orelse env Q E (!b) s:=by cases b <;> exact h
end
section
variable {t:List Addr} {h h' h'':Heap}
theorem IsC.up {v:Value} {c:Cl} (x:IsC h v c) (k:Grows t h h'):IsC h' v c:=x.grows k
theorem cell_up {g:G} {c:Addr} {v:Option Value} (x:h.IsCell c v) (inv:Inv g h) (k:Grows g.tabs h h'):h'.IsCell c v:=cell_grows inv x k
end
set_option genInjectivity false in
set_option genSizeOf false in
structure Cfg where
 w:World
 p:Program
 loose:List Str
 mg:Str → Option Value
 mb:Str → Option Value
theorem ltn {a b c k:Nat} (h:a + b < k) (e:Nat.ble c b = true):a + c < k:=by have:=Nat.le_of_ble_eq_true e;lia
theorem ltn1 {a b c k:Nat} (h:a + b < k) (e:Nat.ble (c + 1) b = true):a + 1 + c < k:=by have:=Nat.le_of_ble_eq_true e;lia
theorem ltn2 {a b c k:Nat} (h:a + b < k) (e:Nat.ble (c + 2) b = true):a + 1 + 1 + c < k:=by have:=Nat.le_of_ble_eq_true e;lia
theorem lts {a b c k:Nat} (h:a + b < k) (e:c ≤ b):a + c < k:=by lia
theorem lts1 {a b c k:Nat} (h:a + b < k) (e:c + 1 ≤ b):a + 1 + c < k:=by lia
theorem lts2 {a b c k:Nat} (h:a + b < k) (e:c + 2 ≤ b):a + 1 + 1 + c < k:=by lia
theorem lt0 {a b k:Nat} (h:a + b < k):a < k:=by lia
section
variable {g:G} {s₀:Shared} {fz₀ fz:Heap} {L:Addr} {l:List (Str × Value)} {mu:List (Addr × Obj)} {Q:Value → Shared → Prop}
theorem post_eq {v:Value} (k:∀ s' fz',Grows g.tabs fz fz' → St g s₀ fz₀ s'.heap s'.gens s'.os fz' L l mu → Q v s'):∀ r s' fz',Grows g.tabs fz fz' → St g s₀ fz₀ s'.heap s'.gens s'.os fz' L l mu → (fun zz r => r = v) fz' r → Q r s':=fun r s' fz' G S p => by
 have p:r = v:=p
 rw [p];exact k s' fz' G S
theorem post_ex {α:Type} {f:α → Value} (k:∀ s' fz',Grows g.tabs fz fz' → St g s₀ fz₀ s'.heap s'.gens s'.os fz' L l mu → ∀ t,Q (f t) s'):∀ r s' fz',Grows g.tabs fz fz' → St g s₀ fz₀ s'.heap s'.gens s'.os fz' L l mu → (fun zz r => ∃ t,r = f t) fz' r → Q r s':=fun r s' fz' G S p => by
 obtain ⟨t,p⟩:=p
 rw [p];exact k s' fz' G S t
end
end
section
open PySem PySem.W PySem.Calls PyProof.Rows PySem.Spec PySem.Builtin
noncomputable def setC (o:Obj) (v:Value):Obj:={ o with data:=.cell (some v) }
noncomputable def CellLike (o:Obj):Prop:=∃ v,o.data = .cell v
theorem CellLike.set (o:Obj) (v:Value):CellLike (setC o v):=⟨_,rfl⟩
section
variable {g:G} {s₀ s:Shared} {fz₀ fz:Heap} {L:Addr} {l:List (Str × Value)} {mu:List (Addr × Obj)} {A:Around} {E:Value → Shared → Prop} {M:Model} {env:Env} {c:Addr} {oc:Obj} {v:Value} {x:Str} {i:Nat}
theorem enterN {R:Result → Shared → Prop} {name qual:Str} {params:Arguments} {body:List Stmt} {scope:Scope} {dV kV doc pm cdv ct oc:Value} {an od:Option Addr} {osl:Array (Option Value)} {f:Addr} {vals:List Value} (l binds:List (Str × Value)) (cs:Addr → List (Str × Addr))
   (hroom:A.depth < recursionLimit) (sub:Sub fz s.heap) (inv:Inv g fz) (bare:AllBare s.gens)
   (ho:g.K.lookup f = some ⟨oc,od,.func (fnOf name qual params body scope dV kV doc pm an cdv ct),osl⟩) (hcd:codeIn g.K cdv qual = true)
   (hbind:bindArgs (fnOf name qual params body scope dV kV doc pm an cdv ct) ⟨vals,[]⟩ = pure binds)
   (hkind:(binds.all fun y => scope.names.lookup y.1 == some .local || scope.names.lookup y.1 == some .cell) = true)
   (hcells:∀ n,cellsFrom n scope.names [] = cs n) (hlk:∀ n,∀ q ∈ cs n,(cs n).lookup q.1 = some q.2)
   (hl:∀ L:Addr,bindL (envOfC qual scope L f cdv).kindOf binds (fun zz => none) = fun y => List.lookup y l) (hc:∀ (L n:Addr),∀ q ∈ cs n,bindC (envOfC qual scope L f cdv).kindOf binds (fun zz => none) q.1 = none)
   (hco:scope.isCoroutine = false) (hgen:scope.isGenerator = false) (hk:scope.kind = .function)
   (h:∀ (s₁:Shared) (L n:Addr) (fo:Addr → Obj),(∀ q ∈ cs n,CellLike (fo q.2)) → St g s fz s₁.heap s₁.gens s₁.os fz L l ((cs n).map fun q => (q.2,fo q.2)) →
     wpAny (model g.prog g.w) (A.deeper (envX qual scope L f cdv (cs n))) (execs body (envX qual scope L f cdv (cs n))) (fun fl s' => R (.ok (.ret (match fl with | .ret v => v | _ => .none))) s') (fun zz zz => False) s₁) :
   codeAny (model g.prog g.w) A (.call (.ref f) ⟨vals,[]⟩) R s:=by
 refine codeAny_call_cells (fd:=fnOf name qual params body scope dV kV doc pm an cdv ct) (body:=body) hroom (sub _ _ (inv.kin _ _ ho)) rfl (inv.top.nolimit.keeps sub) (codeRec_of (inv.kin.keeps sub) hcd) rfl hbind rfl (kindsX hkind _) (fun s₁ I => ?_) hco hgen hk
 have hce:=hcells (s.heap.objs.size + 1)
 have e:callEnvC (fnOf name qual params body scope dV kV doc pm an cdv ct) s.heap.objs.size f = envX qual scope s.heap.objs.size f cdv (cs (s.heap.objs.size + 1)):=by
   show envOfC qual scope s.heap.objs.size f cdv = _
   show envX qual scope s.heap.objs.size f cdv (cellsFrom (s.heap.objs.size + 1) scope.names []) = _
   rw [hce]
 have ecs:(callEnvC (fnOf name qual params body scope dV kV doc pm an cdv ct) s.heap.objs.size f).cells = cs (s.heap.objs.size + 1):=by rw [e]
 have apart:=I.apart
 have above:=I.above
 rw [ecs] at apart above
 have cell:∀ q ∈ cs (s.heap.objs.size + 1),s₁.heap.IsCell q.2 none:=fun q hq => by
   have:=I.cell q.1 q.2 (by rw [ecs];exact hlk _ q hq)
   rwa [show bindC (callEnvC (fnOf name qual params body scope dV kV doc pm an cdv ct) s.heap.objs.size f).kindOf binds (fun zz => none) q.1 = none from hc _ _ q hq] at this
 rw [e]
 have ns:s₁.heap.Ns s.heap.objs.size (fun y => List.lookup y l):=by
   rw [← hl s.heap.objs.size];exact I.toInCall.ns
 obtain ⟨h',tk,es⟩:=I.toInCall.same
 subst es
 have n0:s.heap.get? s.heap.objs.size = none:=none_of_size (Nat.le_refl _)
 generalize hcn:cs (s.heap.objs.size + 1) = cn at *
 let fo:Addr → Obj:=fun a => (h'.get? a).getD { cls:=.none,data:=.freed }
 have fo_of:∀ q ∈ cn,h'.get? q.2 = some (fo q.2) ∧ CellLike (fo q.2):=fun q hq => by
   obtain ⟨o,ho',hd⟩:=cell q hq
   have ef:fo q.2 = o:=by show (h'.get? q.2).getD _ = o;rw [ho'];rfl
   rw [ef];exact ⟨ho',_,hd⟩
 have S:St g s fz h' s.gens s.os fz s.heap.objs.size l (cn.map fun q => (q.2,fo q.2)) :=
   ⟨ns,fun b o e zz => I.toInCall.keep b o e,fun b o e => I.toInCall.keep b o (sub b o e),Grows.refl _ _,fun zz zz zz n => n,n0,none_sub sub n0,fun p hp => by
     obtain ⟨q,hq,rfl⟩:=List.mem_map.mp hp
     have ab:=above q.1 q.2 hq
     have ab':s.heap.objs.size < q.2:=ab
     have nn:s.heap.get? q.2 = none:=none_of_size (Nat.le_of_lt ab')
     exact ⟨(fo_of q hq).1,Nat.ne_of_gt ab',nn,none_sub sub nn⟩,by
     rw [List.map_map]
     show (cn.map fun q => q.2).Nodup
     exact (List.pairwise_map.mpr (apart.imp fun z => z)),inv,bare,rfl,Nat.le_refl _⟩
 have hh:=h { s with heap:=h',toks:=tk } s.heap.objs.size (s.heap.objs.size + 1) fo
 rw [hcn] at hh
 exact wpAny_mono (hh (fun q hq => (fo_of q hq).2) S) (fun zz zz x => x) fun zz zz x => x.elim
theorem stC_m {Q:Unit → Shared → Prop} (S:St g s₀ fz₀ s.heap s.gens s.os fz L l mu) (hc:env.cells.lookup x = some c) (hi:mu[i]? = some (c,oc)) (hd:CellLike oc)
   (k:∀ s',St g s₀ fz₀ s'.heap s'.gens s'.os fz L l (mu.set i (c,setC oc v)) → Q () s')
   (hk:autoParam (env.scope.kind = .function) autR) (hx:autoParam (env.kindOf x = some .cell) autR):wpAny M A (storeName env x v) Q E s:=by
 obtain ⟨v₀,hd⟩:=hd
 refine storeName_c hk hx hc (S.own _ (mem_at hi)).1 hd ?_
 exact k { s with heap:=_ } (S.set i (fun o => { o with data:=.cell (some v) }) hi rfl)
theorem nO_cell {pos:Pos} {Q:Value → Shared → Prop} (S:St g s₀ fz₀ s.heap s.gens s.os fz L l mu) (hc:env.cells.lookup x = some c) (hi:(c,setC oc v) ∈ mu) (h:Q v s)
   (hk:autoParam (env.scope.kind = .function) autR) (hx:autoParam (env.kindOf x = some .cell) autR) (hb:autoParam ((x == ("__debug__" : Str)) = false) autD) :
   wpAny M A (eval (.Name x pos) env) Q E s:=wpAny_Name (wpAny_loadName_cell hk hx hc ⟨_,(S.own _ hi).1,rfl⟩ h) hb
end
noncomputable def fdOf:Option Obj → Option FuncData
 | some ⟨_,_,.func d,_⟩ => some d
 | _ => none
theorem fn_use {K:Frag} {f:Addr} {P:Prop} {name qual:Str} {params:Arguments} {body:List Stmt} {scope:Scope} {dV kV doc pm cdv ct oc:Value} {an od:Option Addr} {osl:Array (Option Value)} {name' qual':Str} {params':Arguments} {body':List Stmt} {scope':Scope} {dV' kV' doc' pm' cdv' ct' oc':Value} {an' od':Option Addr} {osl':Array (Option Value)}
   (h1:K.lookup f = some ⟨oc,od,.func (fnOf name qual params body scope dV kV doc pm an cdv ct),osl⟩) (h2:K.lookup f = some ⟨oc',od',.func (fnOf name' qual' params' body' scope' dV' kV' doc' pm' an' cdv' ct'),osl'⟩)
   (k:body = body' → scope = scope' → qual = qual' → cdv = cdv' → P):P:=by
 have e2:some (fnOf name qual params body scope dV kV doc pm an cdv ct) = some (fnOf name' qual' params' body' scope' dV' kV' doc' pm' an' cdv' ct'):=congrArg fdOf (h1.symm.trans h2)
 have e3:=Option.some.inj e2
 exact k (FuncBody.stmts.inj (congrArg FuncData.body e3)) (congrArg FuncData.scope e3) (congrArg FuncData.qualname e3) (congrArg FuncData.code e3)
end
section
open PySem PySem.W PySem.Calls PyProof.Rows PySem.Spec
theorem TextOk.vok' {x:Str} {V:Ver} (h:TextOk x V):VOk V:=⟨h.words,h.few,h.key⟩
theorem clL_ok {l:Leaf} (h:l.ok) {N:Nat} (hN:1 < N):Ok N (clL l):=by
 cases l with
 | one j =>
   have hj:j = 0 ∨ j = 1 ∨ j = 2 ∨ j = 3:=by obtain ⟨a,b⟩:=h;lia
   rcases hj with rfl | rfl | rfl | rfl
   · exact ⟨trivial,by show 0 < N;lia⟩
   · exact ⟨trivial,by show 0 < N;lia⟩
   · exact ⟨And.intro (wfL_iff.mpr (fun zz h => nomatch h)) List.Pairwise.nil,by show Cl.dep (.any []) < N;simp [Cl.dep,depL];lia⟩
   · exact ⟨And.intro (wfL_iff.mpr (fun zz h => nomatch h)) List.Pairwise.nil,by show Cl.dep (.all []) < N;simp [Cl.dep,depL];lia⟩
 | rng o w n wd =>
   obtain ⟨_,_,⟨b1,b2,b3⟩,h0,h6⟩:=h
   exact ⟨(text_ok b1 b2 b3 h0 h6).vok',by show 0 < N;lia⟩
theorem eqn_all {N:Nat} {cs ds:List Cl} (oc:OkL N cs) (od:OkL N ds) (h1:∀ c ∈ cs,c ∈ ds) (h2:∀ d ∈ ds,d ∈ cs) (hc:depL cs + 1 < N) (hd:depL ds + 1 < N):Cl.eqn N (.all (ded N cs)) (.all (ded N ds)) = true:=by
 refine (eqn_iff N _ _ ?_ ?_ (wf_all oc) (wf_all od)).mpr ?_
 · show depL (ded N cs) + 1 < N;have:=depL_sub (ded_sub N cs);lia
 · show depL (ded N ds) + 1 < N;have:=depL_sub (ded_sub N ds);lia
 · exact ((ded_all oc).symm.trans (eqv_all.mpr ⟨fun c h => ⟨c,h1 c h,Eqv.refl c⟩,fun d h => ⟨d,h2 d h,Eqv.refl d⟩⟩)).trans (ded_all od)
theorem eqn_any {N:Nat} {cs ds:List Cl} (oc:OkL N cs) (od:OkL N ds) (h1:∀ c ∈ cs,c ∈ ds) (h2:∀ d ∈ ds,d ∈ cs) (hc:depL cs + 1 < N) (hd:depL ds + 1 < N):Cl.eqn N (.any (ded N cs)) (.any (ded N ds)) = true:=by
 refine (eqn_iff N _ _ ?_ ?_ (wf_any oc) (wf_any od)).mpr ?_
 · show depL (ded N cs) + 1 < N;have:=depL_sub (ded_sub N cs);lia
 · show depL (ded N ds) + 1 < N;have:=depL_sub (ded_sub N ds);lia
 · exact ((ded_any oc).symm.trans (eqv_any.mpr ⟨fun c h => ⟨c,h1 c h,Eqv.refl c⟩,fun d h => ⟨d,h2 d h,Eqv.refl d⟩⟩)).trans (ded_any od)
theorem eqn_self {N:Nat} {c:Cl} (h:Ok N c):Cl.eqn N c c = true:=(eqn_iff N c c h.2 h.2 h.1 h.1).mpr (Eqv.refl c)
noncomputable def keyV (wd:Int):List Idn:=(mkVer 0 0 0 (preL wd)).key
noncomputable def keysOk:Bool:=([0,1,2,3,4,5]:List Int).all fun a => ([0,1,2,3,4,5]:List Int).all fun b => ordKeys (keyV a) (keyV b) == ordTri (keyL a) (keyL b)
theorem keys_ok:keysOk = true:=by kernel_rfl
theorem six {a:Int} (h0:0 ≤ a) (h6:a < 6):a ∈ ([0,1,2,3,4,5]:List Int):=by
 have:a = 0 ∨ a = 1 ∨ a = 2 ∨ a = 3 ∨ a = 4 ∨ a = 5:=by lia
 simpa using this
theorem key_ord {a b:Int} (a0:0 ≤ a) (a6:a < 6) (b0:0 ≤ b) (b6:b < 6):ordKeys (keyV a) (keyV b) = ordTri (keyL a) (keyL b) :=
 beq_iff_eq.mp (List.all_eq_true.mp (List.all_eq_true.mp keys_ok a (six a0 a6)) b (six b0 b6))
theorem verL_ord (n m:Tri) {a b:Int} (a0:0 ≤ a) (a6:a < 6) (b0:0 ≤ b) (b6:b < 6):(verL n a).ord (verL m b) = oThen (ordTri n m) (oThen (ordTri (keyL a) (keyL b)) .eq):=by
 have e:=key_ord a0 a6 b0 b6
 show oThen (ordInt n.1 m.1) (oThen (ordInt n.2.1 m.2.1) (oThen (ordInt n.2.2 m.2.2) (oThen (ordKeys (keyV a) (keyV b)) .eq))) = _
 rw [e]
 show _ = oThen (oThen (ordInt n.1 m.1) (oThen (ordInt n.2.1 m.2.1) (oThen (ordInt n.2.2 m.2.2) .eq))) _
 cases ordInt n.1 m.1 <;> cases ordInt n.2.1 m.2.1 <;> cases ordInt n.2.2 m.2.2 <;> rfl
theorem preL_inj {a b:Int} (a0:0 ≤ a) (a6:a < 6) (b0:0 ≤ b) (b6:b < 6) (h:preL a = preL b):a = b:=by
 have ha:a = 0 ∨ a = 1 ∨ a = 2 ∨ a = 3 ∨ a = 4 ∨ a = 5:=by lia
 have hb:b = 0 ∨ b = 1 ∨ b = 2 ∨ b = 3 ∨ b = 4 ∨ b = 5:=by lia
 have key:(([0,1,2,3,4,5]:List Int).all fun a => ([0,1,2,3,4,5]:List Int).all fun b => !decide (preL a = preL b) || decide (a = b)) = true:=by kernel_rfl
 have:=List.all_eq_true.mp (List.all_eq_true.mp key a (six a0 a6)) b (six b0 b6)
 simp only [Bool.or_eq_true,Bool.not_eq_true',decide_eq_false_iff_not,decide_eq_true_eq] at this
 rcases this with q | q
 · exact absurd h q
 · exact q
theorem keyL_inj {a b:Int} (a0:0 ≤ a) (a6:a < 6) (b0:0 ≤ b) (b6:b < 6) (h:keyL a = keyL b):a = b:=by
 have key:(([0,1,2,3,4,5]:List Int).all fun a => ([0,1,2,3,4,5]:List Int).all fun b => !decide (keyL a = keyL b) || decide (a = b)) = true:=by kernel_rfl
 have:=List.all_eq_true.mp (List.all_eq_true.mp key a (six a0 a6)) b (six b0 b6)
 simp only [Bool.or_eq_true,Bool.not_eq_true',decide_eq_false_iff_not,decide_eq_true_eq] at this
 rcases this with q | q
 · exact absurd h q
 · exact q
theorem verL_eq (n m:Tri) {a b:Int} (a0:0 ≤ a) (a6:a < 6) (b0:0 ≤ b) (b6:b < 6):verEq (verL n a) (verL m b) = (oThen (ordTri n m) (oThen (ordTri (keyL a) (keyL b)) .eq) == .eq):=by
 rw [Bool.eq_iff_iff,beq_iff_eq,oThen_iff,oThen_iff,ordTri_iff,ordTri_iff]
 unfold verEq
 simp only [Bool.and_eq_true,beq_iff_eq,decide_eq_true_eq]
 obtain ⟨n1,n2,n3⟩:=n
 obtain ⟨m1,m2,m3⟩:=m
 show (n1 = m1 ∧ n2 = m2 ∧ n3 = m3 ∧ preL a = preL b) ↔ ((n1,n2,n3) = (m1,m2,m3) ∧ keyL a = keyL b ∧ True)
 constructor
 · rintro ⟨rfl,rfl,rfl,h⟩
   exact ⟨rfl,by rw [preL_inj a0 a6 b0 b6 h],trivial⟩
 · rintro ⟨h,h2,_⟩
   simp only [Prod.mk.injEq] at h
   exact ⟨h.1,h.2.1,h.2.2,by rw [keyL_inj a0 a6 b0 b6 h2]⟩
theorem pre0 {a:Int} (a0:0 ≤ a) (a6:a < 6):decide (preL a = []) = decide (a = 0):=by
 have ha:a = 0 ∨ a = 1 ∨ a = 2 ∨ a = 3 ∨ a = 4 ∨ a = 5:=by lia
 rcases ha with rfl | rfl | rfl | rfl | rfl | rfl <;> decide +kernel
theorem same_iff (n m:Tri) (a b:Int):samePatch (verL n a) (verL m b) = decide (n = m):=by
 obtain ⟨n1,n2,n3⟩:=n
 obtain ⟨m1,m2,m3⟩:=m
 rw [Bool.eq_iff_iff]
 unfold samePatch
 simp only [Bool.and_eq_true,beq_iff_eq,decide_eq_true_eq,Prod.mk.injEq]
 rfl
theorem op_sel (a b c d e f:Bool) {o:Int} (h0:0 ≤ o) (h6:o < 6):(if (opS o == Str.ofString "==") = true then a else if (opS o == Str.ofString ">") = true then b else if (opS o == Str.ofString ">=") = true then c else if (opS o == Str.ofString "<") = true then d else if (opS o == Str.ofString "<=") = true then e else f) =
   if o = 0 then a else if o = 4 then b else if o = 5 then c else if o = 2 then d else if o = 3 then e else f:=by
 have hw:o = 0 ∨ o = 1 ∨ o = 2 ∨ o = 3 ∨ o = 4 ∨ o = 5:=by lia
 rcases hw with rfl | rfl | rfl | rfl | rfl | rfl
 · rw [if_pos (by decide +kernel)];rfl
 · rw [if_neg (by decide +kernel),if_neg (by decide +kernel),if_neg (by decide +kernel),if_neg (by decide +kernel),if_neg (by decide +kernel)];rfl
 · rw [if_neg (by decide +kernel),if_neg (by decide +kernel),if_neg (by decide +kernel),if_pos (by decide +kernel)];rfl
 · rw [if_neg (by decide +kernel),if_neg (by decide +kernel),if_neg (by decide +kernel),if_neg (by decide +kernel),if_pos (by decide +kernel)];rfl
 · rw [if_neg (by decide +kernel),if_pos (by decide +kernel)];rfl
 · rw [if_neg (by decide +kernel),if_neg (by decide +kernel),if_pos (by decide +kernel)];rfl
theorem way_sel {w:Int} (h0:0 ≤ w) (h3:w < 3):(wayS w == Str.ofString "natural") = decide (w = 0) ∧ (wayS w == Str.ofString "same-patch") = decide (w = 2):=by
 have hw:w = 0 ∨ w = 1 ∨ w = 2:=by lia
 rcases hw with rfl | rfl | rfl <;> exact ⟨by decide +kernel,by decide +kernel⟩
theorem rng_holds (o w:Int) (n vn:Tri) (wd vw:Int) (ho:0 ≤ o) (ho6:o < 6) (hw:0 ≤ w) (hw3:w < 3) (hwd:0 ≤ wd) (hwd6:wd < 6) (hv:0 ≤ vw) (hv6:vw < 6) :
   rngHolds (opS o) (wayS w) (verL n wd) (verL vn vw) = holdsL o w n wd vn vw:=by
 have e1:decide ((verL vn vw).pre = []) = decide (vw = 0):=pre0 hv hv6
 have e2:decide ((verL n wd).pre = []) = decide (wd = 0):=pre0 hwd hwd6
 unfold rngHolds natOut holdsL
 rw [e1,e2,same_iff n vn wd vw,same_iff vn n vw wd,verL_eq vn n hv hv6 hwd hwd6,verL_ord vn n hv hv6 hwd hwd6,op_sel _ _ _ _ _ _ ho ho6,(way_sel hw hw3).1,(way_sel hw hw3).2]
 generalize oThen (ordTri vn n) (oThen (ordTri (keyL vw) (keyL wd)) .eq) = X
 have hvw:decide (vw = 0) = !decide (0 < vw):=by
   rw [Bool.eq_iff_iff];simp only [decide_eq_true_eq,Bool.not_eq_true',decide_eq_false_iff_not];lia
 rw [hvw,Bool.not_not]
 have b1:((decide (0 < vw) && (decide (w = 2) && !decide (n = vn))) = true) ↔ (0 < vw ∧ w = 2 ∧ vn ≠ n):=by
   simp only [Bool.and_eq_true,decide_eq_true_eq,Bool.not_eq_true',decide_eq_false_iff_not,ne_eq,eq_comm (a:=n) (b:=vn)]
 have b2:((decide (0 < vw) && (decide (w = 0) && (decide (vn = n) && decide (wd = 0)))) = true) ↔ (0 < vw ∧ w = 0 ∧ vn = n ∧ wd = 0):=by
   simp only [Bool.and_eq_true,decide_eq_true_eq]
 generalize (decide (0 < vw) && (decide (w = 2) && !decide (n = vn))) = B1 at b1 ⊢
 generalize (decide (0 < vw) && (decide (w = 0) && (decide (vn = n) && decide (wd = 0)))) = B2 at b2 ⊢
 have c2:(0 < vw ∧ w = 0 ∧ vn = n ∧ wd = 0 ∧ (o = 1 ∨ o = 2)) ↔ (B2 = true ∧ (o = 1 ∨ o = 2)):=by
   rw [b2];constructor
   · rintro ⟨a,b,c,d,e⟩;exact ⟨⟨a,b,c,d⟩,e⟩
   · rintro ⟨⟨a,b,c,d⟩,e⟩;exact ⟨a,b,c,d,e⟩
 simp only [← b1,c2]
 have h6:o = 0 ∨ o = 1 ∨ o = 2 ∨ o = 3 ∨ o = 4 ∨ o = 5:=by lia
 cases B1 with
 | true => rfl
 | false =>
   cases B2 <;> rcases h6 with rfl | rfl | rfl | rfl | rfl | rfl <;> rfl
section
variable {o w o' w':Str} {U U':Ver} {m:Nat}
theorem rq_refl:Cl.eqn (m + 1) (.rng o w U) (.rng o w U) = true:=by
 show ((o == o) && (verEq U U && (w == w))) = true
 simp [verEq_refl]
noncomputable def Unlike (c u:Cl):Prop:=(∃ o w U o' w' U',c = .rng o w U ∧ u = .rng o' w' U' ∧ ((o == o') && (verEq U U' && (w == w'))) = false ∧ ((o' == o) && (verEq U' U && (w' == w))) = false)
end
section
variable {c u:Cl} {N:Nat}
theorem ded_dup {c d:Cl} (h:Cl.eqn N c d = true):ded N [c,d] = [c]:=by
 show dedK N [c,d] 2 = _
 simp [dedK,h]
theorem ded_two {c d:Cl} (h:Cl.eqn N c d = false):ded N [c,d] = [c,d]:=by
 show dedK N [c,d] 2 = _
 simp [dedK,h]
theorem ded_three {a b d:Cl} (h1:Cl.eqn N a b = false) (h2:Cl.eqn N a d = false) (h3:Cl.eqn N b d = false):ded N [a,b,d] = [a,b,d]:=by
 show dedK N [a,b,d] 3 = _
 simp [dedK,h1,h2,h3]
theorem Unlike.is (h:Unlike c u) {m:Nat}:(∃ o w U,c = .rng o w U) ∧ (∃ o w U,u = .rng o w U) ∧ Cl.eqn (m + 1) c u = false ∧ Cl.eqn (m + 1) u c = false ∧ Cl.eqn (m + 1) c c = true ∧ Cl.eqn (m + 1) u u = true:=by
 obtain ⟨o,w,U,o',w',U',rfl,rfl,h1,h2⟩:=h
 exact ⟨⟨_,_,_,rfl⟩,⟨_,_,_,rfl⟩,h1,h2,rq_refl,rq_refl⟩
theorem simp_dup (b:Bool) {o w:Str} {U:Ver} {m:Nat}:Cl.simp (m + 1) (mkC b (ded (m + 1) [.rng o w U,.rng o w U])) = .rng o w U:=by
 rw [ded_dup rq_refl]
 cases b <;> rfl
theorem simp_mk (b:Bool) (N:Nat) (cs:List Cl):Cl.simp N (mkC b cs) = finS N b (simpL N b cs []):=by cases b <;> simp [mkC,Cl.simp]
theorem simp_nest (b:Bool) (h:Unlike c u) {d:Cl} (hd:d = c ∨ d = u) {m:Nat}:Cl.eqn (m + 2) (Cl.simp (m + 2) (mkC b (ded (m + 2) [mkC b (ded (m + 2) [c,unitC b,u]),d]))) (mkC b (ded (m + 2) [u,c])) = true:=by
 obtain ⟨⟨o,w,U,rfl⟩,⟨o',w',U',rfl⟩,h1,h2,h3,h4⟩:=h.is (m:=m + 1)
 obtain ⟨_,_,k1,k2,k3,k4⟩:=h.is (m:=m)
 have e1:ded (m + 2) [Cl.rng o w U,unitC b,Cl.rng o' w' U'] = [Cl.rng o w U,unitC b,Cl.rng o' w' U']:=ded_three (by cases b <;> rfl) h1 (by cases b <;> rfl)
 have e2:ded (m + 2) [mkC b [Cl.rng o w U,unitC b,Cl.rng o' w' U'],d] = [mkC b [Cl.rng o w U,unitC b,Cl.rng o' w' U'],d]:=ded_two (by rcases hd with rfl | rfl <;> cases b <;> rfl)
 have e3:ded (m + 2) [Cl.rng o' w' U',Cl.rng o w U] = [Cl.rng o' w' U',Cl.rng o w U]:=ded_two h2
 have e4:ded (m + 2) [Cl.rng o w U,Cl.rng o' w' U'] = [Cl.rng o w U,Cl.rng o' w' U']:=ded_two h1
 have s1:simpL (m + 2) b [Cl.rng o w U,unitC b,Cl.rng o' w' U'] [] = [Cl.rng o w U,Cl.rng o' w' U']:=by
   show stepS _ b (stepS _ b (stepS _ b [] (Cl.rng o w U)) (Cl.simp _ (unitC b))) (Cl.rng o' w' U') = _
   have a1:stepS (m + 2) b [] (Cl.rng o w U) = [Cl.rng o w U]:=stepS_new (by cases b <;> rfl) (by cases b <;> rfl) rfl
   have a2:stepS (m + 2) b [Cl.rng o w U] (Cl.simp (m + 2) (unitC b)) = [Cl.rng o w U]:=stepS_unit (by cases b <;> rfl) (by cases b <;> rfl)
   rw [a1,a2]
   exact stepS_new (by cases b <;> rfl) (by cases b <;> rfl) (by simp only [List.any_cons,List.any_nil,h1,Bool.or_false])
 have s2:Cl.simp (m + 2) (mkC b [Cl.rng o w U,unitC b,Cl.rng o' w' U']) = mkC b [Cl.rng o w U,Cl.rng o' w' U']:=by
   rw [simp_mk,s1,finS_more _ _ (by simp),e4]
 have s3:simpL (m + 2) b [mkC b [Cl.rng o w U,unitC b,Cl.rng o' w' U'],d] [] = [Cl.rng o w U,Cl.rng o' w' U']:=by
   have p:(mkC b [Cl.rng o w U,Cl.rng o' w' U']).parts b = some [Cl.rng o w U,Cl.rng o' w' U']:=by cases b <;> rfl
   have t1:stepS (m + 2) b [] (mkC b [Cl.rng o w U,Cl.rng o' w' U']) = [Cl.rng o w U,Cl.rng o' w' U']:=by rw [stepS_parts p];rfl
   show stepS (m + 2) b (stepS (m + 2) b [] (Cl.simp (m + 2) (mkC b [Cl.rng o w U,unitC b,Cl.rng o' w' U']))) (d.simp (m + 2)) = _
   rw [s2,t1]
   rcases hd with rfl | rfl
   · exact stepS_in (by cases b <;> rfl) (by cases b <;> rfl) (Bool.or_eq_true_iff.mpr (.inl h3))
   · exact stepS_in (by cases b <;> rfl) (by cases b <;> rfl) (Bool.or_eq_true_iff.mpr (.inr (Bool.or_eq_true_iff.mpr (.inl h4))))
 rw [e1,e2,simp_mk,s3,finS_more _ _ (by simp),e4,e3]
 have two:([Cl.rng o w U,Cl.rng o' w' U'].all fun c => [Cl.rng o' w' U',Cl.rng o w U].any fun d => Cl.eqn (m + 1) d c) = true:=by
   simp only [List.all_cons,List.all_nil,List.any_cons,List.any_nil,k3,k4,Bool.or_true,Bool.true_or,Bool.and_self]
 cases b
 · exact Bool.and_eq_true_iff.mpr ⟨rfl,two⟩
 · exact Bool.and_eq_true_iff.mpr ⟨rfl,two⟩
end
noncomputable def joinL (N:Nat) (d:Int) (c e:Cl):Cl:=if d = 0 then andC N c e else if d = 1 then orC N c e else if d = 2 then .all (ded N [c,e]) else .any (ded N [c,e])
theorem mk_le (b:Bool) (N:Nat) (cs:List Cl):(mkC b (ded N cs)).dep ≤ depL cs + 1 ∧ (mkC b (ded N cs)).wt ≤ wtL cs + 1:=by
 rw [dep_mkC,wt_mkC]
 have:=depL_sub (ded_sub N cs)
 have:=wtL_sub (ded_sub N cs)
 lia
theorem all_le {N:Nat} {cs:List Cl} {D X:Nat} (h1:depL cs + 1 ≤ D) (h2:wtL cs + 1 ≤ X):(Cl.all (ded N cs)).dep ≤ D ∧ (Cl.all (ded N cs)).wt ≤ X:=by
 have:=mk_le false N cs
 exact ⟨Nat.le_trans this.1 h1,Nat.le_trans this.2 h2⟩
theorem any_le {N:Nat} {cs:List Cl} {D X:Nat} (h1:depL cs + 1 ≤ D) (h2:wtL cs + 1 ≤ X):(Cl.any (ded N cs)).dep ≤ D ∧ (Cl.any (ded N cs)).wt ≤ X:=by
 have:=mk_le true N cs
 exact ⟨Nat.le_trans this.1 h1,Nat.le_trans this.2 h2⟩
theorem wtA (cs:List Cl):(Cl.all cs).wt = wtL cs + 1:=rfl
theorem wtO (cs:List Cl):(Cl.any cs).wt = wtL cs + 1:=rfl
theorem depL_1 (c:Cl):depL [c] = c.dep:=Nat.max_eq_left (Nat.zero_le _)
theorem wtL_1 (c:Cl):wtL [c] = c.wt:=rfl
theorem depL_2 (c d:Cl):depL [c,d] = max c.dep d.dep:=congrArg (max c.dep) (depL_1 d)
theorem wtL_2 (c d:Cl):wtL [c,d] = c.wt + d.wt:=rfl
theorem mxa {a b k:Nat} (h:1 ≤ k):max a b + 1 ≤ max (a + 1) (b + 1) + k:=Nat.add_le_add (Nat.max_le.mpr ⟨Nat.le_trans (Nat.le_succ a) (Nat.le_max_left _ _),Nat.le_trans (Nat.le_succ b) (Nat.le_max_right _ _)⟩) h
theorem mxs {a b k:Nat} (h:1 ≤ k):max a b + 1 ≤ max (a + 1) b + k:=Nat.add_le_add (Nat.max_le.mpr ⟨Nat.le_trans (Nat.le_succ a) (Nat.le_max_left _ _),Nat.le_max_right _ _⟩) h
theorem mxr {a b k:Nat} (h:1 ≤ k):max a b + 1 ≤ max b (a + 1) + k:=Nat.add_le_add (Nat.max_le.mpr ⟨Nat.le_trans (Nat.le_succ a) (Nat.le_max_right _ _),Nat.le_max_left _ _⟩) h
theorem mxl {a b d:Nat} (h:d ≤ b + 1):max a d + 1 ≤ max a b + 2:=Nat.succ_le_succ (Nat.max_le.mpr ⟨Nat.le_trans (Nat.le_max_left _ _) (Nat.le_succ _),Nat.le_trans h (Nat.succ_le_succ (Nat.le_max_right _ _))⟩)
theorem and_le (N:Nat) (c e:Cl):(andC N c e).dep ≤ max c.dep e.dep + 1 ∧ (andC N c e).wt ≤ c.wt + e.wt + 2:=by
 have h:=andS (N:=N) (c:=c) (d:=e)
 generalize andC N c e = r at h
 cases h with
 | never => exact ⟨Nat.zero_le _,by show 1 ≤ 1 + e.wt + 2;lia⟩
 | always => exact ⟨Nat.le_trans (Nat.le_max_right _ _) (Nat.le_succ _),by lia⟩
 | app cs ds => exact all_le (by rw [depL_append];exact mxa (Nat.le_refl 1)) (by rw [wtL_append,wtA,wtA];lia)
 | snoc cs => exact all_le (by rw [depL_append,depL_1];exact mxs (Nat.le_refl 1)) (by rw [wtL_append,wtA,wtL_1];lia)
 | rsnoc c ds => exact all_le (by rw [depL_append,depL_1];exact mxr (Nat.le_refl 1)) (by rw [wtL_append,wtA,wtL_1];lia)
 | two => exact all_le (by rw [depL_2];exact Nat.le_refl _) (by rw [wtL_2];lia)
theorem or_le (N:Nat) (c e:Cl):(orC N c e).dep ≤ max c.dep e.dep + 2 ∧ (orC N c e).wt ≤ c.wt + e.wt + 3:=by
 have h:=orS (N:=N) (c:=c) (d:=e)
 generalize orC N c e = r at h
 have h2:1 ≤ 2:=Nat.le_succ 1
 cases h with
 | never => exact ⟨Nat.le_trans (Nat.le_max_right _ _) (Nat.le_add_right _ 2),by lia⟩
 | always => exact ⟨Nat.zero_le _,by show 1 ≤ 1 + e.wt + 3;lia⟩
 | app cs ds => exact any_le (by rw [depL_append];exact mxa h2) (by rw [wtL_append,wtO,wtO];lia)
 | snoc cs => exact any_le (by rw [depL_append,depL_1];exact mxs h2) (by rw [wtL_append,wtO,wtL_1];lia)
 | rsnoc c ds => exact any_le (by rw [depL_append,depL_1];exact mxr h2) (by rw [wtL_append,wtO,wtL_1];lia)
 | two => exact any_le (by rw [depL_2];exact Nat.le_succ _) (by rw [wtL_2];lia)
 | leaf =>
   have a:=mk_le false N [e]
   have a1:depL (ded N [e]) + 1 ≤ e.dep + 1:=by rw [← depL_1 e];exact a.1
   have a2:wtL (ded N [e]) + 1 ≤ e.wt + 1:=by rw [← wtL_1 e];exact a.2
   exact any_le (by rw [depL_2];exact mxl a1) (by rw [wtL_2,wtA];lia)
theorem join_le (N:Nat) (d:Int) (c e:Cl):(joinL N d c e).dep ≤ max c.dep e.dep + 2 ∧ (joinL N d c e).wt ≤ c.wt + e.wt + 3:=by
 unfold joinL
 by_cases h0:d = 0
 · rw [if_pos h0];exact ⟨Nat.le_succ_of_le (and_le N c e).1,Nat.le_succ_of_le (and_le N c e).2⟩
 · rw [if_neg h0]
   by_cases h1:d = 1
   · rw [if_pos h1];exact or_le N c e
   · rw [if_neg h1]
     by_cases h2:d = 2
     · rw [if_pos h2];exact all_le (by rw [depL_2];exact Nat.le_succ _) (by rw [wtL_2];exact Nat.add_le_add_left (by decide) _)
     · rw [if_neg h2];exact any_le (by rw [depL_2];exact Nat.le_succ _) (by rw [wtL_2];exact Nat.add_le_add_left (by decide) _)
theorem join_ok {N:Nat} {d:Int} {c e:Cl} (a:Ok N c) (b:Ok N e) (hN:1 < N):(joinL N d c e).wf:=by
 unfold joinL
 split
 · exact andC_wf a b
 · split
   · exact orC_wf a b hN
   · split
     · exact wf_all (Ok.two a b)
     · exact wf_any (Ok.two a b)
noncomputable def dueB (d:Int) (x y:Bool):Bool:=if d.fmod 2 = 0 then x && y else x || y
theorem join_holds {N:Nat} {d:Int} {c e:Cl} (a:Ok N c) (b:Ok N e) (hN:1 < N) (h0:0 ≤ d) (h4:d < 4) (V:Ver):(joinL N d c e).holds V = dueB d (c.holds V) (e.holds V):=by
 have hd:d = 0 ∨ d = 1 ∨ d = 2 ∨ d = 3:=by lia
 unfold joinL dueB
 rcases hd with rfl | rfl | rfl | rfl
 · rw [if_pos rfl,if_pos (by decide)];exact andC_holds a b V
 · rw [if_neg (by decide),if_pos rfl,if_neg (by decide)];exact orC_holds a b hN V
 · rw [if_neg (by decide),if_neg (by decide),if_pos rfl,if_pos (by decide),holds_all (Ok.two a b),allH_two]
 · rw [if_neg (by decide),if_neg (by decide),if_neg (by decide),if_neg (by decide),holds_any (Ok.two a b),anyH_two]
end
section
open PySem PySem.W PySem.Calls PyProof.Rows PySem.Spec PySem.Builtin
section
variable {g:G} {s₀ s:Shared} {fz₀ fz:Heap} {A:Around} {E:Value → Shared → Prop} {M:Model} {L:Addr} {l:List (Str × Value)} {mu:List (Addr × Obj)}
theorem m_subLR {value slice:PySem.Expr} {la sl:Addr} {items:Array Value} {vl vu vk:Value} {lo hi st:Option Int} {Q:Value → Shared → Prop} (hM:M = model g.prog g.w) (S:St g s₀ fz₀ s.heap s.gens s.os fz L l mu) (hl:s.heap.IsList la items) (hs:fz.IsSliceOf sl vl vu vk)
   (pl:IsPart vl lo) (pu:IsPart vu hi) (pk:IsPart vk st) (h0:st ≠ some 0) (hz:items.size ≤ 100000)
   (hsub:subscripted slice false (.ref la) (.ref sl) = operate [.ref sl,.ref la] (getItem (.ref la) (.ref sl)))
   (k:∀ s' D,St g s₀ fz₀ s'.heap s'.gens s'.os fz L l ((D,accObj (slicePick items lo hi st) 0) :: mu) → Q (.ref D) s'):wpAny M A (subscriptTail value slice (.ref la) (.ref sl)) Q E s:=by
 subst hM
 have G:wpAny (model g.prog g.w) A (getItem (.ref la) (.ref sl)) Q E s:=by
   refine wpAny_getItem_list_slice hl (isSlice_sub hs S.le) pl pu pk h0 ?_ (by have:=sizeLine_eq;lia)
   exact k { s with heap:=s.heap.push _ } _ (S.push (accObj (slicePick items lo hi st) 0) rfl)
 unfold subscriptTail
 refine wpAny_bind ?_
 rw [getitemInPython_of_ne hl.typeIs.not_modules]
 refine wpAny_bind (wpAny_specialOf hl.typeIs list_getitem_lookup ?_)
 have fin:wpAny (model g.prog g.w) A (subscripted slice false (.ref la) (.ref sl)) (fun r s₃ => wpAny (model g.prog g.w) A (letTemporaryGo value (.ref la) r >>= fun zz => pure r) Q E s₃) E s:=by
   rw [hsub]
   exact wpAny_operating (wpAny_mono G (fun r s₃ h₃ => wpAny_bind (wpAny_letTemporaryGo (wpAny_pure h₃))) fun zz zz x => x)
 first
   | exact wpAny_pure (wpAny_bind fin)
   | exact wpAny_bind (wpAny_pure (wpAny_bind fin))
   | exact wpAny_bind fin
inductive FixL (g:G) (s₀:Shared) (fz₀ h:Heap) (gn:Array GenState) (os:OsState) (fz:Heap) (L:Addr) (l:List (Str × Value)) (mu:List (Addr × Obj)) (D:Addr) (xs:Array Value):Prop
 | mk (fz':Heap):Grows g.tabs fz fz' → St g s₀ fz₀ h gn os fz' L l mu → fz'.IsList D xs → FixL g s₀ fz₀ h gn os fz L l mu D xs
theorem St.fixL {h:Heap} {gn:Array GenState} {os:OsState} {D:Addr} {xs:Array Value} {c:Nat} (S:St g s₀ fz₀ h gn os fz L l ((D,accObj xs c) :: mu)):FixL g s₀ fz₀ h gn os fz L l mu D xs:=by
 obtain ⟨fz',gr,_,hf,S'⟩:=S.freeze 0 rfl
 exact ⟨fz',gr,S',_,hf,rfl,c,rfl⟩
theorem m_subLF {value slice:PySem.Expr} {la sl:Addr} {items:Array Value} {vl vu vk:Value} {lo hi st:Option Int} {Q:Value → Shared → Prop} (hM:M = model g.prog g.w) (S:St g s₀ fz₀ s.heap s.gens s.os fz L l mu) (hl:s.heap.IsList la items) (hs:fz.IsSliceOf sl vl vu vk)
   (pl:IsPart vl lo) (pu:IsPart vu hi) (pk:IsPart vk st) (h0:st ≠ some 0) (hz:items.size ≤ 100000)
   (hsub:subscripted slice false (.ref la) (.ref sl) = operate [.ref sl,.ref la] (getItem (.ref la) (.ref sl)))
   (k:∀ s' fz' D,Grows g.tabs fz fz' → St g s₀ fz₀ s'.heap s'.gens s'.os fz' L l mu → fz'.IsList D (slicePick items lo hi st) → Q (.ref D) s'):wpAny M A (subscriptTail value slice (.ref la) (.ref sl)) Q E s :=
 m_subLR hM S hl hs pl pu pk h0 hz hsub fun s' D S' => by
   obtain ⟨fz',gr,S2,hf⟩:=S'.fixL
   exact k s' fz' D gr S2 hf
end
theorem IntsAre.len {vs:List Value} {ns:List Int} (h:IntsAre vs ns):vs.length = ns.length:=by
 induction h with
 | nil => rfl
 | cons n t h ih => simp only [List.length_cons,ih]
noncomputable def leafOf (n:Int):Leaf:=if n.fmod 13 = 12 then .one ((n.fdiv 13).fmod 4) else rangeOf n
theorem leafOf_ok (n:Int):(leafOf n).ok:=by
 unfold leafOf
 split
 · exact ⟨Int.fmod_nonneg_of_pos _ (by lia),Int.fmod_lt_of_pos _ (by lia)⟩
 · exact rangeOf_ok n
inductive Five (xs:Array Value):Prop
 | mk (n0 n1 n2 n3 n4:Int) (u0 u1 u2 u3 u4:Tok):xs = #[.int n0 u0,.int n1 u1,.int n2 u2,.int n3 u3,.int n4 u4] → Five xs
theorem told5 {vs:List Value} {ns:List Int} (hI:IntsAre vs ns) (t1 t2 t3 t4 t5:Tok):Five (slicePick (vs.toArray ++ #[.int 0 t1,.int 6 t2,.int 12 t3,.int 18 t4,.int 0 t5]) none (some 5) none):=by
 rw [show (some (5:Int)) = some ((5:Nat):Int) from rfl,slicePick_upto']
 have e:(vs.toArray ++ #[Value.int 0 t1,.int 6 t2,.int 12 t3,.int 18 t4,.int 0 t5]).toList = vs ++ [Value.int 0 t1,.int 6 t2,.int 12 t3,.int 18 t4,.int 0 t5]:=by simp
 rw [e]
 cases hI with
 | nil => exact ⟨_,_,_,_,_,_,_,_,_,_,rfl⟩
 | cons a _ hI => cases hI with
   | nil => exact ⟨_,_,_,_,_,_,_,_,_,_,rfl⟩
   | cons b _ hI => cases hI with
     | nil => exact ⟨_,_,_,_,_,_,_,_,_,_,rfl⟩
     | cons c _ hI => cases hI with
       | nil => exact ⟨_,_,_,_,_,_,_,_,_,_,rfl⟩
       | cons d _ hI => cases hI with
         | nil => exact ⟨_,_,_,_,_,_,_,_,_,_,rfl⟩
         | cons f _ hI => exact ⟨_,_,_,_,_,_,_,_,_,_,rfl⟩
theorem told4 (a b c d e:Value):slicePick #[a,b,c,d,e] none (some 4) none = #[a,b,c,d]:=by
 rw [show (some (4:Int)) = some ((4:Nat):Int) from rfl,slicePick_upto'];rfl
noncomputable def LeavesAre (h:Heap):List Value → List Leaf → Prop
 | [],[] => True
 | v :: vs,l :: ls => IsLeaf h v l ∧ LeavesAre h vs ls
 | _,_ => False
theorem LeavesAre.grows {t:List Addr} {h h':Heap} (k:Grows t h h'):∀ {vs:List Value} {ls:List Leaf},LeavesAre h vs ls → LeavesAre h' vs ls
 | [],[],_ => trivial
 | _ :: _,_ :: _,⟨a,b⟩ => ⟨IsLeaf.grows a k,LeavesAre.grows k b⟩
 | [],_ :: _,x => x.elim
 | _ :: _,[],x => x.elim
section
variable {g:G} {s₀ s:Shared} {fz₀ fz:Heap} {L:Addr} {l:List (Str × Value)} {mu own:List (Addr × Obj)} {A:Around} {E:Value → Shared → Prop} {M:Model} {env:Env} {tg elt iter:PySem.Expr} {scope:Scope} {cl:List (Str × Addr)} {I:Addr} {k:Nat} {P:Nat → Value → Heap → Prop} {J:Nat → List Value → Heap → Prop} {MU:List (Addr × Obj) → Prop}
theorem nfe_cells {scope:Scope} {globals:Addr} {qual:Str} {outer:Env} {Q:Env → Shared → Prop}
   (h:Q { scope:=scope,locals:=s.heap.objs.size,globals:=globals,cells:=cellsFrom (s.heap.objs.size + 1) scope.names cl,qual:=qual,func:=none,code:=outer.code,frame:=outer.frame,builtins:=outer.builtins } { s with heap:=pushCells (s.heap.push { cls:=.type "dict", data:=.dict #[] }) scope.names }) :
   wpAny M A (newFunctionEnv scope globals cl [] qual none .none (some outer)) Q E s:=by
 unfold newFunctionEnv
 simp only [Option.isSome_some,if_true]
 refine wpAny_bind (wpAny_alloc ?_)
 refine wpAny_bind (wpAny_layCells _ (fun name kind cells => by rfl) scope.names cl _ _ ?_)
 simp only [List.forIn_nil]
 refine wpAny_bind (wpAny_pure (wpAny_pure ?_))
 rw [show ({ s with heap:=s.heap.push { cls:=.type "dict", data:=.dict #[] } }:Shared).heap.objs.size = s.heap.objs.size + 1 from Heap.size_push ..]
 exact h
noncomputable def cellObj:Obj:={ cls:=.type "cell", data:=.cell none }
theorem comp_runC {pos:Pos} {x:Str} {RR:Value → Addr → Result → Shared → Prop} (hh:A.handled = none) (S:St g s₀ fz₀ s.heap s.gens s.os fz L l (own ++ mu)) (it0:IterR g tg I P k 0 own fz) (hself:SelfR g I own fz) (j0:J 0 [] fz) (hk:k ≤ sizeLine)
   (hcs:∀ n,cellsFrom n scope.names cl = (x,n) :: cl) (hpc:∀ h,pushCells h scope.names = h.push cellObj)
   (step:∀ c,CompStepM g s₀ fz₀ A tg elt [] (fun C => compEnvC scope ((x,c) :: cl) C env) k P J (fun mus => ∃ oc,CellLike oc ∧ mus = [(c,oc)]) mu)
   (fin:∀ (s':Shared) fz' D C oC lC c acc,Grows g.tabs fz fz' → St g s₀ fz₀ s'.heap s'.gens s'.os fz' L l ((C,oC) :: (D,accObj acc c) :: mu) → s'.heap.Ns C (fun y => List.lookup y lC) → J k acc.toList fz' → acc.size ≤ k → RR (.ref D) C (.ok .next) s') :
   wpAny (model g.prog g.w) A (newList []) (fun acc s₃ => wpAny (model g.prog g.w) A (newFunctionEnv scope env.globals cl [] env.qual none .none (some env)) (fun cenv s₄ =>
     codeAny (model g.prog g.w) A (.compStart (.ListComp elt [⟨tg,iter,[],0⟩] scope pos) 0 (.ref I) acc { cenv with scope:=relabel scope env }) (RR acc cenv.locals) s₄) E s₃) E s:=by
 refine wpAny_newObj_type (nfe_cells ?_)
 have S1:=S.push (accObj #[] 0) rfl
 have S2:=S1.push { cls:=.type "dict", data:=.dict #[] } rfl
 have S3:=S2.push cellObj rfl
 have nsC:((s.heap.push (accObj #[] 0)).push { cls:=.type "dict", data:=.dict #[] }).Ns (s.heap.push (accObj #[] 0)).objs.size (fun y => List.lookup y ([]:List (Str × Value))):=Heap.Ns.new ..
 have nsC:=nsC.push cellObj
 rw [hpc,hcs]
 show codeAny _ _ (.compStart _ 0 (.ref I) (.ref s.heap.objs.size) (compEnvC scope ((x,(s.heap.push (accObj #[] 0)).objs.size + 1) :: cl) (s.heap.push (accObj #[] 0)).objs.size env)) (RR (.ref s.heap.objs.size) (s.heap.push (accObj #[] 0)).objs.size) { s with heap:=((s.heap.push (accObj #[] 0)).push { cls:=.type "dict", data:=.dict #[] }).push cellObj }
 have hz:((s.heap.push (accObj #[] 0)).push { cls:=.type "dict", data:=.dict #[] }).objs.size = (s.heap.push (accObj #[] 0)).objs.size + 1:=Heap.size_push ..
 rw [hz] at S3
 generalize (s.heap.push (accObj #[] 0)).objs.size = C at *
 generalize s.heap.objs.size = D at *
 generalize ((s.heap.push (accObj #[] 0)).push { cls:=.type "dict", data:=.dict #[] }).push cellObj = h₁ at *
 obtain ⟨oC,_,_,eC,_⟩:=id nsC
 have pm1:((C + 1,cellObj) :: (C,({ cls:=.type "dict", data:=.dict #[] }:Obj)) :: (D,accObj #[] 0) :: (own ++ mu)).Perm ((C,({ cls:=.type "dict", data:=.dict #[] }:Obj)) :: (C + 1,cellObj) :: (D,accObj #[] 0) :: (own ++ mu)):=List.Perm.swap ..
 obtain ⟨oL,eL,S4⟩:=(S3.perm pm1).swap (l':=[]) nsC
 have pm:((L,oL) :: (C + 1,cellObj) :: (D,accObj #[] 0) :: (own ++ mu)).Perm ([(C + 1,cellObj)] ++ (own ++ ((L,oL) :: (D,accObj #[] 0) :: mu))):=by
   refine (List.Perm.swap ..).trans (List.Perm.cons _ ?_)
   refine List.Perm.symm ?_
   exact (List.perm_middle).trans (List.Perm.cons _ List.perm_middle)
 have S5:=S4.perm pm
 have loop:codeAny (model g.prog g.w) A (.compLoop (.ListComp elt [⟨tg,iter,[],0⟩] scope pos) 0 (.ref I) (.ref D) (compEnvC scope ((x,C + 1) :: cl) C env)) (RR (.ref D) C) { s with heap:=h₁ } :=
   comp_loopM (s:={ s with heap:=h₁ }) (cenv:=fun C' => compEnvC scope ((x,C + 1) :: cl) C' env) hh S5 S3.ns ⟨cellObj,⟨_,rfl⟩,rfl⟩ it0 j0 hk (step (C + 1)) fun s' fz' oC lC c acc mus gr hmu S' ns hJ hz => by
     obtain ⟨oc,_,rfl⟩:=hmu
     refine fin s' fz' D C oC lC c acc gr ?_ ns hJ hz
     have pm3:((C,oC) :: (D,accObj acc c) :: ([(C + 1,oc)] ++ mu)).Perm ((C + 1,oc) :: (C,oC) :: (D,accObj acc c) :: mu):=by
       exact ((List.Perm.swap ..).cons _).trans (List.Perm.swap ..)
     exact (S'.perm pm3).drop1
 have Sx:=S5.perm (List.perm_append_comm_assoc [(C + 1,cellObj)] own _)
 exact codeAny_compStart_list loop (hself A _ s₀ fz₀ fz C [] _ _ _ hh (Grows.refl _ _) Sx loop)
inductive CompPC (g:G) (s₀:Shared) (fz₀:Heap) (A:Around) (L:Addr) (tg elt:PySem.Expr) (env:Env) (scope:Scope) (cl:List (Str × Addr)) (x:Str) (K:Heap → List (Str × Value) → List (Addr × Obj) → Addr → Shared → Prop) (it:Value) (s:Shared):Prop
 | mk (I:_) (k:_) (fz:_) (l:_) (own:_) (mu:_) (P:_) (J:_):(it = .ref I) → St g s₀ fz₀ s.heap s.gens s.os fz L l (own ++ mu) → IterR g tg I P k 0 own fz → SelfR g I own fz → J 0 [] fz → (k ≤ sizeLine) → ((∀ c,CompStepM g s₀ fz₀ A tg elt [] (fun C => compEnvC scope ((x,c) :: cl) C env) k P J (fun mus => ∃ oc,CellLike oc ∧ mus = [(c,oc)]) mu)) → (∀ (s':Shared) fz' D c acc,Grows g.tabs fz fz' → St g s₀ fz₀ s'.heap s'.gens s'.os fz' L l ((D,accObj acc c) :: mu) → J k acc.toList fz' → acc.size ≤ k → K fz' l ((D,accObj acc c) :: mu) D s') → CompPC g s₀ fz₀ A L tg elt env scope cl x K it s
theorem compA_ruleC {x y:Str} {py pos spos:Pos} {Q:Flow → Shared → Prop} (hM:M = model g.prog g.w) (_S:St g s₀ fz₀ s.heap s.gens s.os fz L l mu) (hh:A.handled = none) (hsw:swapsWith (.ListComp elt [⟨tg,iter,[],0⟩] scope pos) (some (.Name y py)) spos.line env = pure true)
   (hclos:closureFor scope env = pure cl) (hcs:∀ n,cellsFrom n scope.names cl = (x,n) :: cl) (hpc:∀ h,pushCells h scope.names = h.push cellObj) (hkind:scope.kind = .function)
   (hnames:∀ y ∈ scope.names,y.2 = .local → scope.names.lookup y.1 = some .local) (hs:∀ x,foldedSetIterable iter env x = pure x) (hL:env.locals = L) (hke:env.scope.kind = .function) (hy:env.kindOf y = some .local)
   (h:wpAny M A (eval iter env) (fun xv s₁ => wpAny M A (pyIter xv) (fun it s₂ => CompPC g s₀ fz₀ A L tg elt env scope cl x (fun fz' l mu D s' => ∀ s'',St g s₀ fz₀ s''.heap s''.gens s''.os fz' L ((y,.ref D) :: l) mu → Q .next s'') it s₂) E s₁) E s) :
   wpAny M A (exec (.Assign [.Name y py] (.ListComp elt [⟨tg,iter,[],0⟩] scope pos) spos) env) Q E s:=by
 subst hM
 rw [exec_Assign_Name_used _ _ _ _ hsw]
 refine wpAny_bind (wpAny_standAt (wpAny_bind ?_))
 show wpAny _ A (do let _ ← comprehension (.ListComp elt [⟨tg,iter,[],0⟩] scope pos) scope env _ (newList []) false (eval iter env) (some (assign (.Name y py) env))) _ _ s
 refine wpAny_bind (wpAny_mono (wpAny_comprehension_free (use:=some (assign (.Name y py) env)) (Q:=fun zz s' => Q .next s') rfl hs hclos hkind hnames
   (wpAny_mono h (fun xv s₁ h₁ => wpAny_mono h₁ (fun it s₂ h₂ => ?_) fun zz zz e => e) fun zz zz e => e)) (fun zz s' hq => wpAny_pure (wpAny_pure hq)) fun zz zz e => e)
 obtain ⟨I,k,fz,l,own,mu,P,J,rfl,S,it0,hself,j0,hk,step,fin⟩:=h₂
 refine comp_runC (RR:=fun acc C => compPost (model g.prog g.w) A E (some (assign (.Name y py) env)) (fun zz s' => Q .next s') acc C) hh S it0 hself j0 hk hcs hpc step fun s' fz' D C oC lC c acc gr S' ns hJ hz => ?_
 show wpAny _ A (assign (.Name y py) env (.ref D)) _ _ _
 refine wpAny_assign_Name (stE_loc S' hL (fun s₂ S2 => ?_) hke hy)
 have e1:=(S'.own _ (.head _)).1
 have e2:=(S2.own _ (.head _)).1
 dsimp only at e1 e2
 refine ⟨_,ns.at' fun o e => ?_,fun h' hsb => ?_⟩
 · rw [e1] at e;cases e;exact e2
 · have S3:=S2.dropBut (h':=h') hsb.extBut
   exact fin s' fz' D c acc gr S'.drop1 hJ hz { s₂ with heap:=h' } S3
end
section
variable {g:G} {s₀:Shared} {fz₀:Heap} {A:Around} {tg elt c:PySem.Expr} {env:Env} {scope:Scope} {cl:List (Str × Addr)} {k:Nat} {P:Nat → Value → Heap → Prop} {J:Nat → List Value → Heap → Prop} {F:List (Addr × Obj)}
theorem CompStep.mk0F (h:∀ i v (s:Shared) fz0 fz C lC mu acc E',i < k → J i acc fz0 → Grows g.tabs fz0 fz → P i v fz → (∀ p ∈ F,p ∈ mu) → St g s₀ fz₀ s.heap s.gens s.os fz C lC mu →
   wpAny (model g.prog g.w) A (assign tg (compEnvC scope cl C env) v) (fun zz s₂ => wpAny (model g.prog g.w) A (eval elt (compEnvC scope cl C env)) (fun y s₄ => CNext g s₀ fz₀ C mu (J (i + 1)) fz (acc ++ [y]) s₄) E' s₂) E' s) :
   CompStep g s₀ fz₀ A tg elt [] env scope cl k P J F :=
 ⟨fun i v s fz0 fz C lC mu acc E' h1 h2 h3 h4 hF h5 => wpAny_mono (h i v s fz0 fz C lC mu acc E' h1 h2 h3 h4 hF h5) (fun zz s₂ h₂ => wpAny_of_eq (a:=true) rfl (by simpa using h₂)) fun zz zz z => z⟩
end
theorem at4 {α:Type} {p a b c d:α} {r:List α}:(a :: b :: c :: d :: p :: r)[4]? = some p:=rfl
theorem at5 {α:Type} {p a b c d e:α} {r:List α}:(a :: b :: c :: d :: e :: p :: r)[5]? = some p:=rfl
theorem at6 {α:Type} {p a b c d e f:α} {r:List α}:(a :: b :: c :: d :: e :: f :: p :: r)[6]? = some p:=rfl
section
variable {α:Type} {R:Heap → Value → α → Prop} {h h':Heap}
noncomputable def Each (R:Heap → Value → α → Prop) (h:Heap):List Value → List α → Prop
 | [],[] => True
 | v :: vs,x :: xs => R h v x ∧ Each R h vs xs
 | _,_ => False
theorem Each.imp {R':Heap → Value → α → Prop} (k:∀ v x,R h v x → R' h' v x):∀ {vs:List Value} {xs:List α},Each R h vs xs → Each R' h' vs xs
 | [],[],_ => trivial
 | _ :: _,_ :: _,a => ⟨k _ _ a.1,Each.imp k a.2⟩
 | [],_ :: _,a => a.elim
 | _ :: _,[],a => a.elim
theorem Each.snoc {v:Value} {x:α} (p:R h v x):∀ {vs:List Value} {xs:List α},Each R h vs xs → Each R h (vs ++ [v]) (xs ++ [x])
 | [],[],_ => ⟨p,trivial⟩
 | _ :: _,_ :: _,a => ⟨a.1,Each.snoc p a.2⟩
 | [],_ :: _,a => a.elim
 | _ :: _,[],a => a.elim
theorem Each.get:∀ {vs:List Value} {xs:List α} {i:Nat} {v:Value},Each R h vs xs → vs[i]? = some v → ∃ x,xs[i]? = some x ∧ R h v x
 | _ :: _,x :: _,0,_,a,e => by cases e;exact ⟨x,rfl,a.1⟩
 | _ :: vs,_ :: xs,i + 1,_,a,e => Each.get (i:=i) a.2 (by simpa using e)
 | [],_,_,_,_,e => by simp at e
 | _ :: _,[],_,_,a,_ => a.elim
theorem Each.length:∀ {vs:List Value} {xs:List α},Each R h vs xs → vs.length = xs.length
 | [],[],_ => rfl
 | _ :: _,_ :: _,a => congrArg (· + 1) a.2.length
 | [],_ :: _,a => a.elim
 | _ :: _,[],a => a.elim
theorem Each.next {vs:List Value} {xs:List α} {i:Nat} {v:Value} {x:α} (k:∀ v x,R h v x → R h' v x) (a:Each R h vs (xs.take i)) (e:xs[i]? = some x) (p:R h' v x):Each R h' (vs ++ [v]) (xs.take (i + 1)):=by
 rw [List.take_add_one,e]
 exact (a.imp k).snoc p
end
section
variable {g:G} {s₀ s:Shared} {fz₀ fz:Heap} {A:Around} {E:Value → Shared → Prop} {M:Model} {L:Addr} {l:List (Str × Value)} {mu:List (Addr × Obj)}
theorem m_neSame {la lb:Addr} {xs:Array Value} {Q:Value → Shared → Prop} (hM:M = model g.prog g.w) (hl:s.heap.IsList la xs) (hb:s.heap.IsList lb xs) (hu:A.units < cLine) (h:Q (.bool false) s):wpAny M A (richCompare .NotEq (.ref la) (.ref lb)) Q E s:=by
 subst hM
 have R:=PySem.SeqAt.RcNeAt.lists (e:=fun zz => true) hl hb rfl hu fun j h1 h2 => PySem.SeqAt.EqAt.same _
 have e:(!(List.range xs.size).all fun zz => true) = false:=by simp
 rw [e] at R
 exact R g.prog g.w E Q h
theorem St.base {h:Heap} {gn:Array GenState} {os:OsState} (b:List (Str × Value)) (S:St g s₀ fz₀ h gn os fz L l mu) (e:∀ p ∈ b,l.lookup p.1 = some p.2):St g s₀ fz₀ h gn os fz L (b ++ l) mu:=by
 induction b with
 | nil => exact S
 | cons p b ih =>
   refine (ih fun q hq => e q (.tail _ hq)).names fun y => ?_
   rw [List.cons_append,List.lookup_cons]
   cases hy:y == p.1 with
   | false => rfl
   | true =>
     rw [beq_iff_eq.mp hy,← e p (.head _)]
     have:∀ c:List (Str × Value),(∀ q ∈ c,l.lookup q.1 = some q.2) → ∀ x v,l.lookup x = some v → (c ++ l).lookup x = some v:=by
       intro c hc x v hx
       induction c with
       | nil => exact hx
       | cons q c ih2 =>
         rw [List.cons_append,List.lookup_cons]
         cases hq:x == q.1 with
         | false => exact ih2 fun q hq => hc q (.tail _ hq)
         | true => rw [← hx,beq_iff_eq.mp hq];exact (hc q (.head _)).symm
     rw [this b (fun q hq => e q (.tail _ hq)) _ _ (e p (.head _))];exact (e p (.head _)).symm
end
noncomputable abbrev Vn:=Tri × Int
noncomputable def vnOf (z:Int):Leaf → Option Vn
 | .one _ => none
 | .rng _ _ n wd => some (n,if wd = 0 then 1 + (z.fdiv 384).fmod 5 else 0)
noncomputable def versL (z:Int) (ls:List Leaf):List Vn:=((0,0,0),(z.fdiv 64).fmod 6) :: ls.filterMap (vnOf z)
noncomputable def VnOk (x:Vn):Prop:=((0 ≤ x.1.1 ∧ x.1.1 < 2) ∧ (0 ≤ x.1.2.1 ∧ x.1.2.1 < 2) ∧ (0 ≤ x.1.2.2 ∧ x.1.2.2 < 2)) ∧ 0 ≤ x.2 ∧ x.2 < 6
theorem versL_ok {z:Int} {ls:List Leaf} (h:∀ l ∈ ls,l.ok):∀ x ∈ versL z ls,VnOk x:=by
 intro x hx
 have m:∀ a b:Int,0 < b → 0 ≤ a.fmod b ∧ a.fmod b < b:=fun a b h => ⟨Int.fmod_nonneg_of_pos a h,Int.fmod_lt_of_pos a h⟩
 rcases List.mem_cons.mp hx with rfl | hx
 · refine ⟨⟨?_,?_,?_⟩,m _ 6 (by lia)⟩ <;> exact ⟨Int.le_refl _,by show (0:Int) < 2;lia⟩
 · obtain ⟨l,hl,e⟩:=List.mem_filterMap.mp hx
   cases l with
   | one j => cases e
   | rng o w n wd =>
     have ok:=h _ hl
     cases e
     refine ⟨ok.2.2.1,?_⟩
     have:=m (z.fdiv 384) 5 (by lia)
     show 0 ≤ (if wd = 0 then _ else _) ∧ (if wd = 0 then _ else _) < 6
     split <;> lia
theorem versL_len {z:Int} {ls:List Leaf}:(versL z ls).length ≤ ls.length + 1:=by
 have:=List.length_filterMap_le (vnOf z) ls
 simp only [versL,List.length_cons];lia
noncomputable def heldL (l:Leaf) (x:Vn):Bool:=match l with
 | .one j => (([true,false,false,true]:List Bool)[j.toNat]?).getD true
 | .rng o w n wd => holdsL o w n wd x.1 x.2
theorem held_spec {l:Leaf} {x:Vn} (ok:l.ok) (hx:VnOk x):heldL l x = (clL l).holds (verL x.1 x.2):=by
 cases l with
 | one j =>
   obtain ⟨h0,h4⟩:=ok
   have hj:j = 0 ∨ j = 1 ∨ j = 2 ∨ j = 3:=by lia
   rcases hj with rfl | rfl | rfl | rfl <;> rfl
 | rng o w n wd =>
   obtain ⟨⟨ho,ho6⟩,⟨hw,hw3⟩,_,h0,h6⟩:=ok
   exact (rng_holds o w n x.1 wd x.2 ho ho6 hw hw3 h0 h6 hx.2.1 hx.2.2).symm
noncomputable def VnR (h:Heap) (v:Value) (x:Vn):Prop:=IsVn h v x.1 x.2
noncomputable def RowR (h:Heap) (v:Value) (x:Vn):Prop:=IsVer h v (verL x.1 x.2)
noncomputable def BoolsR (h:Heap) (v:Value) (bs:List Bool):Prop:=∃ D,v = .ref D ∧ h.IsList D (bs.map Value.bool).toArray
theorem VnR.up {t:List Addr} {h h':Heap} (k:Grows t h h') (v:Value) (x:Vn) (p:VnR h v x):VnR h' v x:=IsVn.grows p k
theorem RowR.up {t:List Addr} {h h':Heap} (k:Grows t h h') (v:Value) (x:Vn) (p:RowR h v x):RowR h' v x:=IsVer.grows p k
theorem BoolsR.up {t:List Addr} {h h':Heap} (k:Grows t h h') (v:Value) (x:List Bool) (p:BoolsR h v x):BoolsR h' v x:=by obtain ⟨D,a,b⟩:=p;exact ⟨D,a,isList_grows b k⟩
noncomputable def shapeL (N:Nat) (z:Int) (c0 c1 c2 c3:Cl):Cl:=joinL N ((z.fdiv 16).fmod 4) (joinL N (z.fmod 4) c0 c1) (joinL N ((z.fdiv 4).fmod 4) c2 c3)
noncomputable def dueL (z:Int) (a b c d:Bool):Bool:=dueB ((z.fdiv 16).fmod 4) (dueB (z.fmod 4) a b) (dueB ((z.fdiv 4).fmod 4) c d)
end
section
open PySem PySem.W PySem.Calls PyProof.Rows PySem.Spec
theorem dep_leaf (l:Leaf):(clL l).dep ≤ 1:=by
 cases l with
 | rng => exact Nat.zero_le _
 | one j =>
   show ((([.always,.never,.any [],.all []]:List Cl)[j.toNat]?).getD .always).dep ≤ 1
   rcases j.toNat with _ | _ | _ | _ | n <;> first | decide | exact Nat.zero_le _
theorem wt_leaf (l:Leaf):(clL l).wt ≤ 1:=by
 cases l with
 | rng => exact Nat.le_refl _
 | one j =>
   show ((([.always,.never,.any [],.all []]:List Cl)[j.toNat]?).getD .always).wt ≤ 1
   rcases j.toNat with _ | _ | _ | _ | n <;> first | decide | exact Nat.le_refl _
theorem dep7_1 {c:Cl} (a:c.dep ≤ 1):depL [c] + 1 < 7:=Nat.lt_of_le_of_lt (Nat.add_le_add_right (Nat.max_le.mpr ⟨a,Nat.zero_le _⟩) 1) (by decide)
theorem dep7_2 {c d:Cl} (a:c.dep ≤ 1) (b:d.dep ≤ 1):depL [c,d] + 1 < 7:=Nat.lt_of_le_of_lt (Nat.add_le_add_right (Nat.max_le.mpr ⟨a,Nat.max_le.mpr ⟨b,Nat.zero_le _⟩⟩) 1) (by decide)
theorem mem_dup {c d:Cl} (h:d ∈ [c,c]):d ∈ [c]:=by
 cases h with
 | head => exact .head _
 | tail _ h => exact h
theorem mem_swap {a b d:Cl} (h:d ∈ [a,b]):d ∈ [b,a]:=by
 cases h with
 | head => exact .tail _ (.head _)
 | tail _ h => cases h with
   | head => exact .head _
   | tail _ h => exact nomatch h
theorem same_facts {l:Leaf} (h:l.ok):Cl.eqn 7 (clL l) (clL l) = true ∧ Cl.eqn 7 (.all (ded 7 [clL l,clL l])) (.all (ded 7 [clL l])) = true ∧ Cl.eqn 7 (.any (ded 7 [clL l,clL l])) (.any (ded 7 [clL l])) = true:=by
 have o:Ok 7 (clL l):=clL_ok h (by decide)
 have d:=dep_leaf l
 exact ⟨eqn_self o,eqn_all (o.two o) o.one (fun c h => mem_dup h) (fun c h => .tail _ h) (dep7_2 d d) (dep7_1 d),eqn_any (o.two o) o.one (fun c h => mem_dup h) (fun c h => .tail _ h) (dep7_2 d d) (dep7_1 d)⟩
noncomputable def unlikeL (z:Int):Leaf → Leaf
 | .one j => .one j
 | .rng o w n wd => .rng (if z.fmod 3 = 0 then (o + 1).fmod 6 else o) (if z.fmod 3 = 1 then (w + 1).fmod 3 else w) n (if z.fmod 3 < 2 then wd else (wd + 1).fmod 6)
theorem unlike_ok {z:Int} {l:Leaf} (h:l.ok):(unlikeL z l).ok:=by
 have m:∀ a b:Int,0 < b → 0 ≤ a.fmod b ∧ a.fmod b < b:=fun a b h => ⟨Int.fmod_nonneg_of_pos a h,Int.fmod_lt_of_pos a h⟩
 cases l with
 | one j => exact h
 | rng o w n wd =>
   obtain ⟨a,b,c,d⟩:=h
   refine ⟨?_,?_,c,?_⟩ <;> split <;> first | assumption | exact m _ _ (by lia)
theorem opS_inj {a b:Int} (a0:0 ≤ a) (a6:a < 6) (b0:0 ≤ b) (b6:b < 6) (h:opS a = opS b):a = b:=by
 have key:(([0,1,2,3,4,5]:List Int).all fun a => ([0,1,2,3,4,5]:List Int).all fun b => !decide (opS a = opS b) || decide (a = b)) = true:=by kernel_rfl
 have:=List.all_eq_true.mp (List.all_eq_true.mp key a (six a0 a6)) b (six b0 b6)
 simp only [Bool.or_eq_true,Bool.not_eq_true',decide_eq_false_iff_not,decide_eq_true_eq] at this
 exact this.resolve_left fun q => q h
theorem wayS_inj {a b:Int} (a0:0 ≤ a) (a3:a < 3) (b0:0 ≤ b) (b3:b < 3) (h:wayS a = wayS b):a = b:=by
 have key:(([0,1,2]:List Int).all fun a => ([0,1,2]:List Int).all fun b => !decide (wayS a = wayS b) || decide (a = b)) = true:=by kernel_rfl
 have t:∀ a:Int,0 ≤ a → a < 3 → a ∈ ([0,1,2]:List Int):=fun a h1 h2 => by
   have:a = 0 ∨ a = 1 ∨ a = 2:=by lia
   simpa using this
 have:=List.all_eq_true.mp (List.all_eq_true.mp key a (t a a0 a3)) b (t b b0 b3)
 simp only [Bool.or_eq_true,Bool.not_eq_true',decide_eq_false_iff_not,decide_eq_true_eq] at this
 exact this.resolve_left fun q => q h
theorem apart {o w wd o' w' wd':Int} {n:Tri} (h:(Leaf.rng o w n wd).ok) (h':(Leaf.rng o' w' n wd').ok) (ne:o ≠ o' ∨ w ≠ w' ∨ wd ≠ wd'):((opS o == opS o') && (verEq (verL n wd) (verL n wd') && (wayS w == wayS w'))) = false:=by
 obtain ⟨⟨a0,a6⟩,⟨b0,b3⟩,_,d0,d6⟩:=h
 obtain ⟨⟨a0',a6'⟩,⟨b0',b3'⟩,_,d0',d6'⟩:=h'
 have key:∀ p q x:Bool,(p = false ∨ q = false ∨ x = false) → (p && (x && q)) = false:=by decide
 refine key _ _ _ ?_
 rcases ne with ne | ne | ne
 · exact .inl (beq_eq_false_iff_ne.mpr fun e => ne (opS_inj a0 a6 a0' a6' e))
 · exact .inr (.inl (beq_eq_false_iff_ne.mpr fun e => ne (wayS_inj b0 b3 b0' b3' e)))
 · refine .inr (.inr ?_)
   rw [verL_eq n n d0 d6 d0' d6',Bool.eq_false_iff]
   intro e
   rw [beq_iff_eq,oThen_iff,oThen_iff,ordTri_iff,ordTri_iff] at e
   exact ne (keyL_inj d0 d6 d0' d6' e.2.1)
theorem fmod_ne {a b:Int} (h1:1 < b) (h2:0 ≤ a) (h3:a < b):a ≠ (a + 1).fmod b:=by
 rcases (by lia:a + 1 < b ∨ b ≤ a + 1) with q | q
 · rw [Int.fmod_eq_of_lt (by lia) q];lia
 · have:a + 1 = b:=by lia
   rw [this,Int.fmod_self];lia
theorem unlike_of {z:Int} {o w:Int} {n:Tri} {wd:Int} (h:(Leaf.rng o w n wd).ok):Unlike (clL (.rng o w n wd)) (clL (unlikeL z (.rng o w n wd))):=by
 have h':(unlikeL z (.rng o w n wd)).ok:=unlike_ok h
 have ne:o ≠ (if z.fmod 3 = 0 then (o + 1).fmod 6 else o) ∨ w ≠ (if z.fmod 3 = 1 then (w + 1).fmod 3 else w) ∨ wd ≠ (if z.fmod 3 < 2 then wd else (wd + 1).fmod 6):=by
   by_cases q0:z.fmod 3 = 0
   · rw [if_pos q0];exact .inl (fmod_ne (by decide) h.1.1 h.1.2)
   · by_cases q1:z.fmod 3 = 1
     · rw [if_pos q1];exact .inr (.inl (fmod_ne (by decide) h.2.1.1 h.2.1.2))
     · have:=Int.fmod_nonneg_of_pos z (b:=3) (by decide)
       rw [if_neg (by lia:¬ z.fmod 3 < 2)];exact .inr (.inr (fmod_ne (by decide) h.2.2.2.1 h.2.2.2.2))
 exact ⟨_,_,_,_,_,_,rfl,rfl,apart h h' ne,apart h' h (ne.imp Ne.symm (Or.imp Ne.symm Ne.symm))⟩
structure UnlikeF (c u:Cl):Prop where
 ne:Cl.eqn 7 c u = false
 ne2:Cl.eqn 7 u c = false
 all:Cl.eqn 7 (Cl.simp 7 (.all (ded 7 [c,c]))) c = true
 any:Cl.eqn 7 (Cl.simp 7 (.any (ded 7 [c,c]))) c = true
 nall:Cl.eqn 7 (Cl.simp 7 (.all (ded 7 [.all (ded 7 [c,.always,u]),c]))) (.all (ded 7 [u,c])) = true
 nany:Cl.eqn 7 (Cl.simp 7 (.any (ded 7 [.any (ded 7 [u,.never,c]),c]))) (.any (ded 7 [c,u])) = true
theorem Unlike.flip {c u:Cl} (h:Unlike c u):Unlike u c:=by obtain ⟨o,w,U,o',w',U',e1,e2,h1,h2⟩:=h;exact ⟨o',w',U',o,w,U,e2,e1,h2,h1⟩
theorem unlike_facts {c u:Cl} (h:Unlike c u):UnlikeF c u:=by
 obtain ⟨⟨o,w,U,rfl⟩,⟨o',w',U',rfl⟩,h1,h2,h3,h4⟩:=h.is (m:=6)
 refine ⟨h1,h2,?_,?_,?_,?_⟩
 · have:=simp_dup (m:=6) false (o:=o) (w:=w) (U:=U)
   simp only [mkC] at this
   rw [this];exact h3
 · have:=simp_dup (m:=6) true (o:=o) (w:=w) (U:=U)
   simp only [mkC] at this
   rw [this];exact h3
 · exact simp_nest (m:=5) false h (.inl rfl)
 · exact simp_nest (m:=5) true h.flip (.inr rfl)
theorem join_dep {N k:Nat} {d:Int} {c e:Cl} (a:c.dep ≤ k) (b:e.dep ≤ k):(joinL N d c e).dep ≤ k + 2:=Nat.le_trans (join_le N d c e).1 (Nat.add_le_add_right (Nat.max_le.mpr ⟨a,b⟩) 2)
theorem shape_facts {z:Int} {c0 c1 c2 c3:Cl} (o0:Ok 7 c0) (o1:Ok 7 c1) (o2:Ok 7 c2) (o3:Ok 7 c3) (d0:c0.dep ≤ 1) (d1:c1.dep ≤ 1) (d2:c2.dep ≤ 1) (d3:c3.dep ≤ 1) :
   Ok 7 (joinL 7 (z.fmod 4) c0 c1) ∧ Ok 7 (joinL 7 ((z.fdiv 4).fmod 4) c2 c3) ∧ Ok 7 (shapeL 7 z c0 c1 c2 c3) ∧ (joinL 7 (z.fmod 4) c0 c1).dep ≤ 3 ∧ (joinL 7 ((z.fdiv 4).fmod 4) c2 c3).dep ≤ 3 ∧ (shapeL 7 z c0 c1 c2 c3).dep ≤ 5:=by
 have a:(joinL 7 (z.fmod 4) c0 c1).dep ≤ 3:=join_dep d0 d1
 have b:(joinL 7 ((z.fdiv 4).fmod 4) c2 c3).dep ≤ 3:=join_dep d2 d3
 have oa:Ok 7 (joinL 7 (z.fmod 4) c0 c1):=⟨join_ok o0 o1 (by decide),Nat.lt_of_le_of_lt a (by decide)⟩
 have ob:Ok 7 (joinL 7 ((z.fdiv 4).fmod 4) c2 c3):=⟨join_ok o2 o3 (by decide),Nat.lt_of_le_of_lt b (by decide)⟩
 have c:(shapeL 7 z c0 c1 c2 c3).dep ≤ 5:=join_dep a b
 exact ⟨oa,ob,⟨join_ok oa ob (by decide),Nat.lt_of_le_of_lt c (by decide)⟩,a,b,c⟩
theorem shape_holds {z:Int} {c0 c1 c2 c3:Cl} (o0:Ok 7 c0) (o1:Ok 7 c1) (o2:Ok 7 c2) (o3:Ok 7 c3) (d0:c0.dep ≤ 1) (d1:c1.dep ≤ 1) (d2:c2.dep ≤ 1) (d3:c3.dep ≤ 1) (V:Ver) :
   (shapeL 7 z c0 c1 c2 c3).holds V = dueL z (c0.holds V) (c1.holds V) (c2.holds V) (c3.holds V):=by
 have m:∀ a:Int,0 ≤ a.fmod 4 ∧ a.fmod 4 < 4:=fun a => ⟨Int.fmod_nonneg_of_pos a (by lia),Int.fmod_lt_of_pos a (by lia)⟩
 obtain ⟨oa,ob,_⟩:=shape_facts (z:=z) o0 o1 o2 o3 d0 d1 d2 d3
 unfold shapeL dueL
 rw [join_holds oa ob (by decide) (m _).1 (m _).2,join_holds o0 o1 (by decide) (m _).1 (m _).2,join_holds o2 o3 (by decide) (m _).1 (m _).2]
theorem simp_facts {c:Cl} (o:Ok 7 c):Ok 7 (c.simp 7) ∧ Cl.eqn 7 (c.simp 7) (c.simp 7) = true ∧ ∀ V,(c.simp 7).holds V = c.holds V:=by
 have a:=fun V => simp_spec 7 V c o
 have b:Ok 7 (c.simp 7):=⟨(a ⟨0,0,0,[],[]⟩).1,Nat.lt_of_le_of_lt (simp_le 7 c).2 o.2⟩
 exact ⟨b,eqn_self b,fun V => (a V).2⟩
theorem both_facts {c d:Cl} (o:Ok 7 c) (o':Ok 7 d) (d0:c.dep ≤ 1) (d1:d.dep ≤ 1):Cl.eqn 7 (.all (ded 7 [c,d])) (.any (ded 7 [c,d])) = false ∧ Cl.eqn 7 (.any (ded 7 [c,d])) (.all (ded 7 [c,d])) = false ∧
   Cl.eqn 7 (.all (ded 7 [c,d])) (.all (ded 7 [d,c])) = true ∧ Cl.eqn 7 (.any (ded 7 [c,d])) (.any (ded 7 [c,d])) = true:=by
 exact ⟨rfl,rfl,eqn_all (o.two o') (o'.two o) (fun c h => mem_swap h) (fun c h => mem_swap h) (dep7_2 d0 d1) (dep7_2 d1 d0),eqn_any (o.two o') (o.two o') (fun c h => h) (fun c h => h) (dep7_2 d0 d1) (dep7_2 d0 d1)⟩
end
section
open PySem PySem.W PySem.Calls PyProof.Rows PySem.Spec PySem.Builtin
section
variable {M:Model} {A:Around} {rest:List Stmt} {st:Stmt} {env:Env} {Q:Flow → Shared → Prop} {E:Value → Shared → Prop} {s:Shared}
theorem x_cut (h:∀ N:Flow → Shared → Prop,(∀ s,wpAny M A (execs rest env) Q E s → N .next s) → (∀ v s,Q (.ret v) s → N (.ret v) s) → wpAny M A (exec st env) N E s):wpAny M A (execs (st :: rest) env) Q E s :=
 x_cons (h (NextP M A rest env Q E) (fun zz z => z) fun zz zz z => z)
end
theorem tu4 {a b c d e:Value} {l:List Value}:(a :: b :: c :: d :: e :: l).toArray[4]? = some e:=by simp
theorem x_ifcut {M:Model} {A:Around} {body orelse:List Stmt} {env:Env} {Q:Flow → Shared → Prop} {E:Value → Shared → Prop} {s:Shared} {test:PySem.Expr} {pos:Pos}
   (h:∀ B:Bool → Shared → Prop,(∀ s,wpAny M A (execs body env) Q E s → B true s) → (∀ s,wpAny M A (execs orelse env) Q E s → B false s) → wpAny M A (isTrue test env (eval test env)) B E s):wpAny M A (exec (.If test body orelse pos) env) Q E s :=
 x_if (h (IfP M A body orelse env Q E) (fun zz z => IfP.yes rfl z) fun zz z => IfP.no rfl z)
theorem dpL0 {k:Nat}:depL [] ≤ k:=Nat.zero_le _
theorem dpL1 {c:Cl} {cs:List Cl} {k:Nat} (a:c.dep ≤ k) (b:depL cs ≤ k):depL (c :: cs) ≤ k:=by simp only [depL];lia
theorem dpA {cs:List Cl} {k:Nat} (a:depL cs ≤ k):(Cl.all (ded 7 cs)).dep ≤ k + 1:=by
 show depL (ded 7 cs) + 1 ≤ k + 1
 have:=depL_sub (ded_sub 7 cs);lia
theorem dpY {cs:List Cl} {k:Nat} (a:depL cs ≤ k):(Cl.any (ded 7 cs)).dep ≤ k + 1:=by
 show depL (ded 7 cs) + 1 ≤ k + 1
 have:=depL_sub (ded_sub 7 cs);lia
theorem dpS {c:Cl} {k:Nat} (a:c.dep ≤ k):(c.simp 7).dep ≤ k:=Nat.le_trans (simp_le 7 c).2 a
theorem dpW {c:Cl} {k m:Nat} (a:c.dep ≤ k) (e:Nat.ble k m = true):c.dep ≤ m:=Nat.le_trans a (Nat.le_of_ble_eq_true e)
theorem wA {cs:List Cl} {k:Nat} (a:wtL cs ≤ k):(Cl.all (ded 7 cs)).wt ≤ k + 1:=by
 show wtL (ded 7 cs) + 1 ≤ k + 1
 have:=wtL_sub (ded_sub 7 cs);lia
theorem wY {cs:List Cl} {k:Nat} (a:wtL cs ≤ k):(Cl.any (ded 7 cs)).wt ≤ k + 1:=by
 show wtL (ded 7 cs) + 1 ≤ k + 1
 have:=wtL_sub (ded_sub 7 cs);lia
theorem IsLeaf.up {t:List Addr} {h h':Heap} {v:Value} {l:Leaf} (x:IsLeaf h v l) (k:Grows t h h'):IsLeaf h' v l:=x.grows k
section
variable {g:G} {t:Sem Value} {nd nu:Nat} {Pre:Heap → Prop} {c:Cl}
theorem refC (R:Runs g t nd nu Pre (fun h r => IsC h r c)):Runs g t nd nu Pre (fun h r => ∃ x,r = .ref x ∧ IsC h (.ref x) c) :=
 R.mono (Nat.le_refl _) (Nat.le_refl _) (fun zz z => z) fun zz zz z => by
   obtain ⟨x,_,rfl,_⟩:=z.inst
   exact ⟨x,rfl,z⟩
end
theorem rowUp {t:List Addr} {h h':Heap} {v:Value} {x:Vn} (p:RowR h v x) (k:Grows t h h'):RowR h' v x:=IsVer.grows p k
theorem vnUp {t:List Addr} {h h':Heap} {v:Value} {x:Vn} (p:VnR h v x) (k:Grows t h h'):VnR h' v x:=IsVn.grows p k
theorem triUp {t:List Addr} {h h':Heap} {v:Value} {x:Tri} (p:IsTri h v x) (k:Grows t h h'):IsTri h' v x:=IsTri.grows p k
theorem takeN {α:Type} {xs:List α} {f:α → Value} {i:Nat} {x:α} {acc:List Value} (e:xs[i]? = some x) (h:acc = (xs.map f).take i):acc ++ [f x] = (xs.map f).take (i + 1):=by
 rw [List.take_add_one,List.getElem?_map,e,h];rfl
theorem takeA {α:Type} {xs:List α} {f:α → Value} {acc:Array Value} {k:Nat} (h:acc.toList = (xs.map f).take k) (e:k = xs.length):acc = (xs.map f).toArray:=by
 rw [e,List.take_of_length_le (by rw [List.length_map];exact Nat.le_refl _)] at h
 rw [← h]
section
variable {g:G} {s₀ s:Shared} {fz₀ fz:Heap} {L:Addr} {l:List (Str × Value)} {mu:List (Addr × Obj)} {A:Around} {E:Value → Shared → Prop} {M:Model} {a:Addr} {xs:Array Value} {c:Nat}
theorem m_append {x:Value} {Q:Value → Shared → Prop} (hM:M = model g.prog g.w) (S:St g s₀ fz₀ s.heap s.gens s.os fz L l ((a,accObj xs c) :: mu)) (hz:xs.size ≤ 1000)
   (k:∀ s' c',St g s₀ fz₀ s'.heap s'.gens s'.os fz L l ((a,accObj (xs.push x) c') :: mu) → Q .none s'):wpAny M A (call (.builtin "list.append") [.ref a,x]) Q E s:=by
 subst hM
 have hsl:=sizeLine_eq
 have ho:s.heap.get? a = some (accObj xs c):=(S.own _ (.head _)).1
 refine wpAny_list_append_plain (l:=a) (items:=xs) ⟨c,ho⟩ (fun h' hpl hsb => ?_) (by lia)
 obtain ⟨c',e'⟩:=hpl
 exact k { s with heap:=h' } c' (S.turn1 (h':=h') (oI':=accObj (xs.push x) c') (fun b o n e => hsb.extBut b o n e) e')
theorem getMethod_append {pl:Sem Bool} {Q:Value × List Value → Shared → Prop} (_hM:M = model g.prog g.w) (S:St g s₀ fz₀ s.heap s.gens s.os fz L l ((a,accObj xs c) :: mu)) (h:Q (.builtin "list.append", [.ref a]) s):wpAny M A (getMethod (.ref a) (Str.ofString "append") pl) Q E s:=by
 have ho:=(S.own _ (.head _)).1
 exact getMethod_builtin ⟨_,ho,rfl⟩ PySem.F.plainAttrs_list PySem.F.slot_list_append PySem.F.type_list_append (fun a' e => by cases e;exact ⟨_,ho,rfl⟩) h
end
section
variable {A:Around} {s:Shared} {E:Value → Shared → Prop} {prog:Program} {w:World}
theorem item_tupleR {value slice:PySem.Expr} {t:Addr} {items:Array Value} {k:Int} {u:Tok} {j:Nat} {x:Value} {Q:Value → Shared → Prop} (ht:IsTup s.heap t items)
   (hlo:-(2 ^ 63) ≤ k) (hhi:k < 2 ^ 63) (hj:seqIndex? k items.size = some j) (hx:items[j]? = some x) (h:Q x s)
   (hs:subscripted slice false (.ref t) (.int k u) = operate [.ref t,.int k u] (getItem (.ref t) (.int k u)):=by with_unfolding_all rfl) :
   wpAny (model prog w) A (subscriptTail value slice (.ref t) (.int k u)) Q E s:=by
 have G:wpAny (model prog w) A (getItem (.ref t) (.int k u)) Q E s:=getItem_tuple ht hlo hhi hj hx h
 unfold subscriptTail
 refine wpAny_bind ?_
 rw [getitemInPython_of_ne ht.typeIs.not_modules]
 refine wpAny_bind (wpAny_specialOf ht.typeIs slot_tuple_getitem.lookup ?_)
 have fin:wpAny (model prog w) A (subscripted slice false (.ref t) (.int k u)) (fun r s₃ => wpAny (model prog w) A (letTemporaryGo value (.ref t) r >>= fun zz => pure r) Q E s₃) E s:=by
   rw [hs]
   exact wpAny_operating (wpAny_mono G (fun r s₃ h₃ => wpAny_bind (wpAny_letTemporaryGo (wpAny_pure h₃))) fun zz zz x => x)
 first
   | exact wpAny_pure (wpAny_bind fin)
   | exact wpAny_bind (wpAny_pure (wpAny_bind fin))
   | exact wpAny_bind fin
end
theorem LeavesAre.each {h:Heap}:∀ {vs:List Value} {ls:List Leaf},LeavesAre h vs ls → Each IsLeaf h vs ls
 | [],[],_ => trivial
 | _ :: _,_ :: _,a => ⟨a.1,a.2.each⟩
 | [],_ :: _,a => a.elim
 | _ :: _,[],a => a.elim
inductive ClsR (h:Heap) (v:Value) (l:Leaf):Prop
 | mk (w:_):(v = .ref w) → IsC h (.ref w) (clL l) → ClsR h v l
theorem ClsR.up {t:List Addr} {h h':Heap} (k:Grows t h h') (v:Value) (l:Leaf) (p:ClsR h v l):ClsR h' v l:=by obtain ⟨w,e,p⟩:=p;exact ⟨w,e,p.up k⟩
theorem len4 {α:Type} {l:List α} (h:l.length = 4):∃ a b c d,l = [a,b,c,d]:=by
 match l,h with
 | [a,b,c,d],_ => exact ⟨a,b,c,d,rfl⟩
theorem len2 {α:Type} {l:List α} (h:l.length = 2):∃ a b,l = [a,b]:=by
 match l,h with
 | [a,b],_ => exact ⟨a,b,rfl⟩
theorem arr4 {α:Type} {l:Array α} (h:l.toList.length = 4):∃ a b c d,l = #[a,b,c,d]:=by
 obtain ⟨a,b,c,d,e⟩:=len4 h
 exact ⟨a,b,c,d,by rw [← e]⟩
theorem arr2 {α:Type} {l:Array α} (h:l.toList.length = 2):∃ a b,l = #[a,b]:=by
 obtain ⟨a,b,e⟩:=len2 h
 exact ⟨a,b,by rw [← e]⟩
theorem each4 {h:Heap} {acc:Array Value} {l0 l1 l2 l3:Leaf} (a:Each ClsR h acc.toList [l0,l1,l2,l3]):∃ x0 x1 x2 x3:Addr,acc = #[.ref x0,.ref x1,.ref x2,.ref x3] ∧ IsC h (.ref x0) (clL l0) ∧ IsC h (.ref x1) (clL l1) ∧ IsC h (.ref x2) (clL l2) ∧ IsC h (.ref x3) (clL l3):=by
 obtain ⟨_,_,_,_,rfl⟩:=arr4 a.length
 obtain ⟨⟨a,rfl,p⟩,⟨b,rfl,q⟩,⟨c,rfl,r⟩,⟨d,rfl,s⟩,_⟩:=a
 exact ⟨a,b,c,d,rfl,p,q,r,s⟩
theorem leaves4 {h:Heap} {lv:List Value} {l0 l1 l2 l3:Leaf} (a:LeavesAre h lv [l0,l1,l2,l3]):∃ v0 v1 v2 v3,lv = [v0,v1,v2,v3] ∧ IsLeaf h v0 l0 ∧ IsLeaf h v1 l1 ∧ IsLeaf h v2 l2 ∧ IsLeaf h v3 l3:=by
 obtain ⟨_,_,_,_,rfl⟩:=len4 a.each.length
 exact ⟨_,_,_,_,rfl,a.1,a.2.1,a.2.2.1,a.2.2.2.1⟩
theorem leavesOf {h:Heap} {acc:Array Value} {l0 l1 l2 l3:Leaf} (a:Each IsLeaf h acc.toList [l0,l1,l2,l3]):LeavesAre h acc.toList [l0,l1,l2,l3]:=by
 obtain ⟨_,_,_,_,rfl⟩:=arr4 a.length
 exact a
theorem four {P:Nat → Prop} (h0:P 0) (h1:P 1) (h2:P 2) (h3:P 3) {i:Nat} (h:i < 4):P i:=by
 have:i = 0 ∨ i = 1 ∨ i = 2 ∨ i = 3:=by lia
 rcases this with rfl | rfl | rfl | rfl <;> assumption
theorem turn4 {fz:Heap} {lv:List Value} {l0 l1 l2 l3:Leaf} {x0 x1 x2 x3 y0 y1 y2 y3:Addr} (hLe:LeavesAre fz lv [l0,l1,l2,l3]) (px0:IsC fz (.ref x0) (clL l0)) (px1:IsC fz (.ref x1) (clL l1)) (px2:IsC fz (.ref x2) (clL l2)) (px3:IsC fz (.ref x3) (clL l3)) (py0:IsC fz (.ref y0) (clL l0)) (py1:IsC fz (.ref y1) (clL l1)) (py2:IsC fz (.ref y2) (clL l2)) (py3:IsC fz (.ref y3) (clL l3)) (ok0:l0.ok) (ok1:l1.ok) (ok2:l2.ok) (ok3:l3.ok) {i:Nat} (hi:i < 4) :
   ∃ (lk:Leaf) (xk yk:Addr) (vk:Value),lk.ok ∧ (#[.ref x0,.ref x1,.ref x2,.ref x3]:Array Value)[(i:Int).toNat]? = some (.ref xk) ∧ (#[.ref y0,.ref y1,.ref y2,.ref y3]:Array Value)[(i:Int).toNat]? = some (.ref yk) ∧ lv.toArray[(i:Int).toNat]? = some vk ∧ IsC fz (.ref xk) (clL lk) ∧ IsC fz (.ref yk) (clL lk) ∧ IsLeaf fz vk lk:=by
 obtain ⟨v0,v1,v2,v3,rfl,p0,p1,p2,p3⟩:=leaves4 hLe
 refine four (P:=fun i => ∃ (lk:Leaf) (xk yk:Addr) (vk:Value),lk.ok ∧ (#[.ref x0,.ref x1,.ref x2,.ref x3]:Array Value)[(i:Int).toNat]? = some (.ref xk) ∧ (#[.ref y0,.ref y1,.ref y2,.ref y3]:Array Value)[(i:Int).toNat]? = some (.ref yk) ∧ [v0,v1,v2,v3].toArray[(i:Int).toNat]? = some vk ∧ IsC fz (.ref xk) (clL lk) ∧ IsC fz (.ref yk) (clL lk) ∧ IsLeaf fz vk lk) ?_ ?_ ?_ ?_ hi
 · exact ⟨l0,_,_,_,ok0,rfl,rfl,rfl,px0,py0,p0⟩
 · exact ⟨l1,_,_,_,ok1,rfl,rfl,rfl,px1,py1,p1⟩
 · exact ⟨l2,_,_,_,ok2,rfl,rfl,rfl,px2,py2,p2⟩
 · exact ⟨l3,_,_,_,ok3,rfl,rfl,rfl,px3,py3,p3⟩
theorem turn2 {fz:Heap} {v0 v1:Value} {l0 l1:Leaf} (p0:IsLeaf fz v0 l0) (p1:IsLeaf fz v1 l1) (ok0:l0.ok) (ok1:l1.ok) {i:Nat} {v:Value} (h:(#[v0,v1]:Array Value)[i]? = some v):∃ lf,[l0,l1][i]? = some lf ∧ IsLeaf fz v lf ∧ lf.ok:=by
 rcases i with _ | _ | i
 · cases h;exact ⟨l0,rfl,p0,ok0⟩
 · cases h;exact ⟨l1,rfl,p1,ok1⟩
 · simp at h
theorem rowF {fz:Heap} {X Y x0 x1 x2 x3 y0 y1 y2 y3:Addr} {c0 c1 c2 c3:Cl} (hX:fz.IsList X #[.ref x0,.ref x1,.ref x2,.ref x3]) (hY:fz.IsList Y #[.ref y0,.ref y1,.ref y2,.ref y3]) (px0:IsC fz (.ref x0) c0) (px1:IsC fz (.ref x1) c1) (px2:IsC fz (.ref x2) c2) (px3:IsC fz (.ref x3) c3) (py0:IsC fz (.ref y0) c0) (py1:IsC fz (.ref y1) c1) (py2:IsC fz (.ref y2) c2) (py3:IsC fz (.ref y3) c3) {i:Nat} {v:Value} (h:(#[.ref X,.ref Y]:Array Value)[i]? = some v) :
   ∃ V a b c d,v = .ref V ∧ fz.IsList V #[.ref a,.ref b,.ref c,.ref d] ∧ IsC fz (.ref a) c0 ∧ IsC fz (.ref b) c1 ∧ IsC fz (.ref c) c2 ∧ IsC fz (.ref d) c3:=by
 rcases i with _ | _ | i
 · cases h;exact ⟨_,_,_,_,_,rfl,hX,px0,px1,px2,px3⟩
 · cases h;exact ⟨_,_,_,_,_,rfl,hY,py0,py1,py2,py3⟩
 · simp at h
theorem two_refs {h:Heap} {acc:Array Value} {c:Cl} (a:Each (fun h v (_:Nat) => ∃ w,v = .ref w ∧ IsC h (.ref w) c) h acc.toList (List.range 2)):∃ w0 w1:Addr,acc = #[.ref w0,.ref w1] ∧ IsC h (.ref w0) c ∧ IsC h (.ref w1) c:=by
 obtain ⟨_,_,rfl⟩:=arr2 a.length
 obtain ⟨⟨w0,rfl,p0⟩,⟨w1,rfl,p1⟩,_⟩:=a
 exact ⟨w0,w1,rfl,p0,p1⟩
theorem int4 {n0 n1 n2 n3:Int} {u0 u1 u2 u3:Tok} {i:Nat} {v:Value} (h:i < 4) (hv:(#[.int n0 u0,.int n1 u1,.int n2 u2,.int n3 u3]:Array Value)[i]? = some v):∃ nn uu,v = .int nn uu ∧ [n0,n1,n2,n3][i]? = some nn :=
 four (P:=fun i => (#[.int n0 u0,.int n1 u1,.int n2 u2,.int n3 u3]:Array Value)[i]? = some v → ∃ nn uu,v = .int nn uu ∧ [n0,n1,n2,n3][i]? = some nn) (fun h => by cases h;exact ⟨_,_,rfl,rfl⟩) (fun h => by cases h;exact ⟨_,_,rfl,rfl⟩) (fun h => by cases h;exact ⟨_,_,rfl,rfl⟩) (fun h => by cases h;exact ⟨_,_,rfl,rfl⟩) h hv
theorem one_item {j:Int} (h0:0 ≤ j) (h4:j < 4) (x:Vn):(#[.bool true,.bool false,.bool false,.bool true]:Array Value)[j.toNat]? = some (.bool (heldL (.one j) x)):=by
 have hj:j = 0 ∨ j = 1 ∨ j = 2 ∨ j = 3:=by lia
 rcases hj with rfl | rfl | rfl | rfl <;> rfl
theorem told2 (a b c d:Value):slicePick #[a,b,c,d] none (some 2) none = #[a,b]:=by
 rw [show (some (2:Int)) = some ((2:Nat):Int) from rfl,slicePick_upto'];rfl
theorem versL_one {z:Int} {ls:List Leaf} {lf:Leaf}:versL z (ls ++ [lf]) = match vnOf z lf with | none => versL z ls | some x => versL z ls ++ [x]:=by
 unfold versL
 rw [List.filterMap_append]
 cases h:vnOf z lf <;> simp [List.filterMap_cons,h]
end
section
open PySem PySem.W
noncomputable def rngB (a b c d e1 e2 e3 e4 e5 f1 f2 q:Bool) (o:Ordering):Bool :=
 if (!a && (f1 && !c)) = true then false
 else if e1 = true then q
 else if e2 = true then opOrd .Gt o
 else if e3 = true then opOrd .GtE o
 else if e4 = true then (if (!a && (f2 && (d && b))) = true then false else opOrd .Lt o)
 else if e5 = true then opOrd .LtE o
 else (if (!a && (f2 && (d && b))) = true then false else !q)
theorem rng_of {op way:Str} {U V:Ver} {a b c d e1 e2 e3 e4 e5 f1 f2:Bool} (ha:decide (V.pre = []) = a) (hb:decide (U.pre = []) = b) (hc:samePatch U V = c) (hd:samePatch V U = d) (h1:(op == Str.ofString "==") = e1) (h2:(op == Str.ofString ">") = e2) (h3:(op == Str.ofString ">=") = e3) (h4:(op == Str.ofString "<") = e4) (h5:(op == Str.ofString "<=") = e5) (g1:(way == Str.ofString "same-patch") = f1) (g2:(way == Str.ofString "natural") = f2) {r:Bool} (e:r = rngB a b c d e1 e2 e3 e4 e5 f1 f2 (verEq V U) (V.ord U)):Value.bool r = Value.bool (rngHolds op way U V):=by
 subst ha hb hc hd h1 h2 h3 h4 h5 g1 g2
 exact congrArg Value.bool e
noncomputable def rngC (b d e1 e2 e3 e4 e5 f2 q:Bool) (o:Ordering):Bool :=
 if e1 = true then q
 else if e2 = true then opOrd .Gt o
 else if e3 = true then opOrd .GtE o
 else if e4 = true then (if (f2 && (d && b)) = true then false else opOrd .Lt o)
 else if e5 = true then opOrd .LtE o
 else (if (f2 && (d && b)) = true then false else !q)
theorem rngC_eq {b c d e1 e2 e3 e4 e5 f1 f2 q:Bool} {o:Ordering} (h:(f1 && !c) = false):rngC b d e1 e2 e3 e4 e5 f2 q o = rngB false b c d e1 e2 e3 e4 e5 f1 f2 q o :=
 (if_neg (by rw [h];exact Bool.false_ne_true)).symm
theorem rng_of2 {op way:Str} {U V:Ver} {b d e1 e2 e3 e4 e5 f2:Bool} (ha:decide (V.pre = []) = false) (h:((way == Str.ofString "same-patch") && !samePatch U V) = false) (hb:decide (U.pre = []) = b) (hd:samePatch V U = d) (h1:(op == Str.ofString "==") = e1) (h2:(op == Str.ofString ">") = e2) (h3:(op == Str.ofString ">=") = e3) (h4:(op == Str.ofString "<") = e4) (h5:(op == Str.ofString "<=") = e5) (g2:(way == Str.ofString "natural") = f2) {r:Bool} (e:r = rngC b d e1 e2 e3 e4 e5 f2 (verEq V U) (V.ord U)):Value.bool r = Value.bool (rngHolds op way U V) :=
 rng_of ha hb rfl hd h1 h2 h3 h4 h5 rfl g2 (e.trans (rngC_eq h))
theorem rng_out {op way:Str} {U V:Ver} (ha:decide (V.pre = []) = false) (h1:(way == Str.ofString "same-patch") = true) (h2:samePatch U V = false):Value.bool false = Value.bool (rngHolds op way U V):=by
 refine congrArg Value.bool ?_
 unfold rngHolds
 rw [if_pos (by rw [ha,h1,h2];rfl)]
theorem bnt {b:Bool} (h:(!b) = true):b = false:=by cases b;rfl;exact nomatch h
theorem bnf {b:Bool} (h:(!b) = false):b = true:=by cases b;exact nomatch h;rfl
noncomputable abbrev gg (γ:Cfg):G:=⟨PySem.Challenge.pw_ln0005_03,γ.w,mk.heap_1 γ.w.params,γ.p,γ.loose,γ.mg,γ.mb,[383,537,556,608,627]⟩
end
section
open PySem PySem.W PySem.Calls PyProof.Rows PySem.Spec
set_option genInjectivity false in
set_option genSizeOf false in
structure Cx where
 M:Model
 A:Around
 env:Env
 E:Value → Shared → Prop
noncomputable abbrev bump (s:Shared) (n:Nat):Shared:={ s with toks:=s.toks + n }
theorem bump0 (s:Shared):s = bump s 0:=rfl
inductive Cxt (γ:Cfg) (cs:Scope) (cl:List (Str × Addr)) (L:Addr) (c:Cx):Prop
 | mk:c.env.locals = L → c.env.globals = mainGlobals → c.env.builtins = builtinsNs → c.env.cells = cl → c.env.scope = cs → cs.kind = .function → c.M = model (gg γ).prog (gg γ).w → Cxt γ cs cl L c
inductive Here (γ:Cfg) (cs:Scope) (cl:List (Str × Addr)) (c:Cx) (s:Shared) (fz:Heap) (l:List (Str × Value)):Prop
 | mk (s₀:Shared) (fz₀:Heap) (L:Addr) (mu:List (Addr × Obj)):Cxt γ cs cl L c → St (gg γ) s₀ fz₀ s.heap s.gens s.os fz L l mu → Here γ cs cl c s fz l
theorem here {γ:Cfg} {cs:Scope} {cl:List (Str × Addr)} {L:Addr} {c:Cx} {s₀ s:Shared} {fz₀ fz:Heap} {l:List (Str × Value)} {mu:List (Addr × Obj)} (F:Cxt γ cs cl L c) (S:St (gg γ) s₀ fz₀ s.heap s.gens s.os fz L l mu):Here γ cs cl c s fz l:=⟨_,_,_,_,F,S⟩
noncomputable def Pv (c:Cx) (s:Shared) (n:Nat) (e:PySem.Expr) (v:Value) (m:Nat):Prop:=∀ Q:Value → Shared → Prop,Q v (bump s m) → wpAny c.M c.A (eval e c.env) Q c.E (bump s n)
noncomputable def PvB (c:Cx) (s:Shared) (n:Nat) (e:PySem.Expr) (b:Bool) (m:Nat):Prop:=∀ Q:Bool → Shared → Prop,Q b (bump s m) → wpAny c.M c.A (isTrue e c.env (eval e c.env)) Q c.E (bump s n)
noncomputable def PvL (c:Cx) (s:Shared) (n:Nat) (es:List PySem.Expr) (vs:List Value) (m:Nat):Prop:=∀ (pos:Pos) (Q:List Value → Shared → Prop),Q vs (bump s m) → wpAny c.M c.A (spliced (backTo pos (starEach es c.env))) Q c.E (bump s n)
noncomputable def locOk (cs:Scope) (x:Str):Bool:=cs.names.lookup x == some .local && !(x == ("__debug__" : Str))
noncomputable def cellOk (cs:Scope) (x:Str):Bool:=cs.names.lookup x == some .cell && !(x == ("__debug__" : Str))
noncomputable def gloOk (cs:Scope) (x:Str):Bool:=cs.names.lookup x == some .globalImplicit && !(x == ("__debug__" : Str))
noncomputable def ownOk (K:Frag) (C:Addr) (name:Str):Bool:=plainGet K C name && hasDictIn K C && (match findIn K (.ref C) name with | some a => noGet K a | none => false)
noncomputable abbrev EachAt (e:PySem.Expr) (es:List PySem.Expr):Prop:=∀ env,starEach (e :: es) env = (false,eval e env) :: starEach es env
noncomputable abbrev AnyAt (pos:Pos) (es:List PySem.Expr):Prop:=∀ env,(backTo pos (starEach es env)).any (·.1) = false
noncomputable abbrev SwapAt (e:PySem.Expr) (x:Str) (pos' pos:Pos):Prop:=∀ env,swapsWith e (some (.Name x pos')) pos.line env = pure false
noncomputable abbrev TrueAt (e:PySem.Expr):Prop:=∀ env whole,isTrue e env whole = (do let v ← whole;standAt e.pos;holding [v] (truthy v))
section
variable {γ:Cfg} {cs:Scope} {cl:List (Str × Addr)} {c:Cx} {s t:Shared} {fz:Heap} {l:List (Str × Value)}
theorem Cxt.kd {L:Addr} (F:Cxt γ cs cl L c):c.env.scope.kind = .function:=by obtain ⟨_,_,_,_,e,hk,_⟩:=F;rw [e];exact hk
theorem Cxt.kn {L:Addr} {x:Str} {k:NameKind} (F:Cxt γ cs cl L c) (ok:(cs.names.lookup x == some k && !(x == ("__debug__" : Str))) = true):c.env.kindOf x = some k:=by
 obtain ⟨_,_,_,_,e,hk,_⟩:=F
 unfold Env.kindOf;rw [e];exact eq_of_beq ((Bool.and_eq_true _ _).mp ok).1
theorem nodb {x:Str} {b:Bool} (ok:(b && !(x == ("__debug__" : Str))) = true):(x == ("__debug__" : Str)) = false:=by
 have o:=((Bool.and_eq_true _ _).mp ok).2
 simpa using o
theorem pv_loc {x:Str} {v:Value} {pos:Pos} {n:Nat} (H:Here γ cs cl c s fz l) (ok:locOk cs x = true) (hv:l.lookup x = some v):Pv c s n (.Name x pos) v n:=fun Q h => by
 obtain ⟨_,_,_,_,F,S⟩:=H
 have kd:=F.kd
 have kn:=F.kn ok
 obtain ⟨eL,_⟩:=F
 exact nE_loc (s:=bump s n) S eL hv h kd kn (nodb ok)
theorem pv_glob {x:Str} {v:Value} {pos:Pos} {n:Nat} (H:Here γ cs cl c s fz l) (ok:gloOk cs x = true) (hv:∀ w,nsIn (mk.heap_1 w) mainGlobals x = some (some v)):Pv c s n (.Name x pos) v n:=fun Q h => by
 obtain ⟨_,_,_,_,F,S⟩:=H
 have kd:=F.kd
 have kn:=F.kn ok
 obtain ⟨_,eG,_⟩:=F
 exact nE_glob (s:=bump s n) S eG (hv _) h kd kn (nodb ok)
theorem pv_bi {x:Str} {v:Value} {pos:Pos} {n:Nat} (H:Here γ cs cl c s fz l) (ok:gloOk cs x = true) (hv:∀ w,nsIn (mk.heap_1 w) mainGlobals x = some none) (hb:bootBuiltins x = some v) (hn:x ≠ "__name__"):Pv c s n (.Name x pos) v n:=fun Q h => by
 obtain ⟨_,_,_,_,F,S⟩:=H
 have kd:=F.kd
 have kn:=F.kn ok
 obtain ⟨_,eG,eB,_⟩:=F
 exact nE_bi (s:=bump s n) S eG eB (hv _) hb hn h kd kn (nodb ok)
theorem pv_cell {x:Str} {v:Value} {pos:Pos} {n:Nat} {a:Addr} (H:Here γ cs cl c s fz l) (ok:cellOk cs x = true) (hc:cl.lookup x = some a) (hv:fz.IsCell a (some v)):Pv c s n (.Name x pos) v n:=fun Q h => by
 obtain ⟨_,_,_,_,F,S⟩:=H
 have kd:=F.kd
 have kn:=F.kn ok
 obtain ⟨_,_,_,eC,_⟩:=F
 exact nE_cell (s:=bump s n) S (by rw [eC];exact hc) hv h kd kn (nodb ok)
theorem pv_cellO {x:Str} {v:Value} {pos:Pos} {n:Nat} {a L:Addr} {oc:Obj} {s₀:Shared} {fz₀:Heap} {mu:List (Addr × Obj)} (F:Cxt γ cs cl L c) (S:St (gg γ) s₀ fz₀ s.heap s.gens s.os fz L l mu) (ok:cellOk cs x = true) (hc:cl.lookup x = some a) (hi:(a,setC oc v) ∈ mu):Pv c s n (.Name x pos) v n:=fun Q h => by
 have kd:=F.kd
 have kn:=F.kn ok
 obtain ⟨_,_,_,eC,_⟩:=F
 exact nO_cell (s:=bump s n) S (by rw [eC];exact hc) hi h kd kn (nodb ok)
theorem pv_int {i:Int} {k pos n}:Pv c s n (.Constant (.int i) k pos) (.int i (s.toks + n)) (n + 1):=fun zz h => wpAny_Constant_int h
theorem pv_str {i:Str} {k pos n}:Pv c s n (.Constant (.str i) k pos) (.str i (s.toks + n)) (n + 1):=fun zz h => wpAny_Constant_str h
theorem pv_bool {b:Bool} {k pos n}:Pv c s n (.Constant (.bool b) k pos) (.bool b) n:=fun zz h => wpAny_Constant_bool h
theorem pv_none {k pos n}:Pv c s n (.Constant .none k pos) .none n:=fun zz h => wpAny_Constant_none h
theorem ownOk_of {K:Frag} {C:Addr} {name:Str} {attr:Option Value} (h1:plainGet K C name = true) (h2:hasDictIn K C = true) (h3:findIn K (.ref C) name = some attr) (h4:noGet K attr = true):ownOk K C name = true:=by
 unfold ownOk;rw [h1,h2,h3];exact h4
theorem pv_own {x name:Str} {xp pos:Pos} {n k:Nat} {C a:Addr} {kv:List (Str × Value)} {v:Value} (H:Here γ cs cl c s fz l) (p:Pv c s n (.Name x xp) (.ref a) k) (I:Inst fz a C kv) (hv:kv.lookup name = some v) (hi:handedIn v = true) (ok:∀ w,ownOk (mk.heap_1 w) C name = true):Pv c s n (.Attribute (.Name x xp) name pos) v (k + 1):=fun Q h => by
 obtain ⟨_,_,_,_,⟨_,_,_,_,_,_,eM⟩,S⟩:=H
 refine Attribute_Name_ (p _ ?_)
 have o:=ok γ.w.params
 unfold ownOk at o
 have o:=(Bool.and_eq_true _ _).mp o
 have o1:=(Bool.and_eq_true _ _).mp o.1
 split at o
 · rename_i a e;exact g_own (s:=bump s k) eM S I o1.1 o1.2 e o.2 hv hi h
 · cases o.2
theorem pvb_bool {e:PySem.Expr} {b:Bool} {n m:Nat} (ok:TrueAt e) (p:Pv c s n e (.bool b) m):PvB c s n e b m:=fun Q h => by
 exact isTrue_plain (p _ (wpAny_truthy_bool h)) (ok _ _)
theorem pvb_none {e:PySem.Expr} {n m:Nat} (ok:TrueAt e) (p:Pv c s n e .none m):PvB c s n e false m:=fun Q h => by
 exact isTrue_plain (p _ (truthy_none h)) (ok _ _)
theorem pvb_not {e:PySem.Expr} {b:Bool} {pos:Pos} {n m:Nat} (p:PvB c s n e b m):PvB c s n (.UnaryOp .Not e pos) (!b) m:=fun Q h => isTrue_not (p _ h)
theorem pvl_nil {n:Nat}:PvL c s n [] [] n:=fun zz zz h => args_nil h
theorem pvl_cons {e:PySem.Expr} {es:List PySem.Expr} {v:Value} {vs:List Value} {n k m:Nat} (ok:EachAt e es) (p:Pv c s n e v k) (q:PvL c s k es vs m):PvL c s n (e :: es) (v :: vs) m:=fun pos Q h =>
 args_cons (p _ (q pos _ h)) (ok _)
noncomputable def NextC (c:Cx) (rest:List Stmt) (Q:Flow → Shared → Prop) (f:Flow) (s:Shared):Prop:=match f with
 | .next => wpAny c.M c.A (execs rest c.env) Q c.E s
 | f => Q f s
noncomputable def IfC (c:Cx) (body orelse:List Stmt) (Q:Flow → Shared → Prop) (b:Bool) (s:Shared):Prop:=if b then wpAny c.M c.A (execs body c.env) Q c.E s else wpAny c.M c.A (execs orelse c.env) Q c.E s
variable {rest body orelse:List Stmt} {st:Stmt} {Q:Flow → Shared → Prop} {pos:Pos} {e:PySem.Expr} {v:Value} {b:Bool} {m:Nat}
theorem y_cons (h:wpAny c.M c.A (exec st c.env) (NextC c rest Q) c.E s):wpAny c.M c.A (execs (st :: rest) c.env) Q c.E s :=
 wpAny_execs_cons (wpAny_mono h (fun f zz z => by cases f <;> exact z) fun zz zz z => z)
theorem y_next (h:wpAny c.M c.A (execs rest c.env) Q c.E s):NextC c rest Q .next s:=h
theorem y_ret (h:Q (.ret v) s):NextC c rest Q (.ret v) s:=h
theorem y_brk (h:Q .brk s):NextC c rest Q .brk s:=h
theorem y_cont (h:Q .cont s):NextC c rest Q .cont s:=h
theorem y_if (h:wpAny c.M c.A (isTrue e c.env (eval e c.env)) (IfC c body orelse Q) c.E s):wpAny c.M c.A (exec (.If e body orelse pos) c.env) Q c.E s:=wpAny_If h
theorem y_yes (hb:b = true) (h:wpAny c.M c.A (execs body c.env) Q c.E s):IfC c body orelse Q b s:=by subst hb;exact h
theorem y_no (hb:b = false) (h:wpAny c.M c.A (execs orelse c.env) Q c.E s):IfC c body orelse Q b s:=by subst hb;exact h
theorem y_yesD {z:Prop} [Decidable z] (hz:z) (h:wpAny c.M c.A (execs body c.env) Q c.E s):IfC c body orelse Q (decide z) s:=y_yes (decide_eq_true hz) h
theorem y_noD {z:Prop} [Decidable z] (hz:¬ z) (h:wpAny c.M c.A (execs orelse c.env) Q c.E s):IfC c body orelse Q (decide z) s:=y_no (decide_eq_false hz) h
theorem y_dec {z:Prop} [Decidable z] (h1:z → wpAny c.M c.A (execs body c.env) Q c.E s) (h2:¬ z → wpAny c.M c.A (execs orelse c.env) Q c.E s):IfC c body orelse Q (decide z) s:=IfP.dec h1 h2
theorem y_any (h1:b = true → wpAny c.M c.A (execs body c.env) Q c.E s) (h2:b = false → wpAny c.M c.A (execs orelse c.env) Q c.E s):IfC c body orelse Q b s:=IfP.any h1 h2
theorem y_ieq {i j:Int} (h1:i = j → wpAny c.M c.A (execs body c.env) Q c.E s) (h2:¬ i = j → wpAny c.M c.A (execs orelse c.env) Q c.E s):IfC c body orelse Q (i == j) s:=IfP.ieq h1 h2
theorem y_ine {i j:Int} (h1:¬ i = j → wpAny c.M c.A (execs body c.env) Q c.E s) (h2:i = j → wpAny c.M c.A (execs orelse c.env) Q c.E s):IfC c body orelse Q (i != j) s:=IfP.ine h1 h2
theorem y_not (h:IfC c orelse body Q b s):IfC c body orelse Q (!b) s:=IfP.not h
theorem y_pv {Q:Value → Shared → Prop} (p:Pv c s 0 e v m) (ht:t = bump s m) (h:Q v t):wpAny c.M c.A (eval e c.env) Q c.E s:=by subst ht;exact p _ h
theorem y_pvb {Q:Bool → Shared → Prop} (p:PvB c s 0 e b m) (ht:t = bump s m) (h:Q b t):wpAny c.M c.A (isTrue e c.env (eval e c.env)) Q c.E s:=by subst ht;exact p _ h
theorem y_pvl {es:List PySem.Expr} {vs:List Value} {Q:List Value → Shared → Prop} (p:PvL c s 0 es vs m) (ht:t = bump s m) (h:Q vs t):wpAny c.M c.A (spliced (backTo pos (starEach es c.env))) Q c.E s:=by subst ht;exact p _ _ h
theorem y_retP (p:Pv c s 0 e v m) (ht:t = bump s m) (h:Q (.ret v) t):wpAny c.M c.A (exec (.Return (some e) pos) c.env) Q c.E s:=by subst ht;exact wpAny_Return_some (p _ h)
theorem y_asgP {s₀:Shared} {fz₀:Heap} {L:Addr} {mu:List (Addr × Obj)} {x:Str} {pos':Pos} (F:Cxt γ cs cl L c) (S:St (gg γ) s₀ fz₀ s.heap s.gens s.os fz L l mu) (ok:locOk cs x = true) (oc:SwapAt e x pos' pos) (p:Pv c s 0 e v m)
   (h:∀ s',St (gg γ) s₀ fz₀ s'.heap s'.gens s'.os fz L ((x,v) :: l) mu → Q .next s'):wpAny c.M c.A (exec (.Assign [.Name x pos'] e pos) c.env) Q c.E s:=by
 refine wpAny_Assign_Name (p _ ?_) (oc _)
 have kd:=F.kd
 have kn:=F.kn ok
 obtain ⟨eL,_⟩:=F
 exact stE_loc (s:=bump s m) S eL h kd kn
theorem ld1 {a n k:Nat} (h:a + (n + 2) < k):a + 1 + (n + 1) < k:=by lia
theorem ldS {a n k:Nat} (h:a + n < k) (e:1 ≤ n):a + ((n - 1) + 1) < k:=by lia
theorem luS {a n k:Nat} (h:a + n < k) (e:3 ≤ n):a + ((n - 3) + 3) < k:=by lia
theorem lu1 {a n k:Nat} (h:a + (n + 4) < k):a + 1 + (n + 3) < k:=by lia
theorem y_in {cn:Str} {a L:Addr} {ccd:Value} {A:Around} {E:Value → Shared → Prop} {nd nu:Nat} (hk:cs.kind = .function) (hh:A.handled = none) (hd:A.depth + (nd + 1) < recursionLimit) (hu:A.units + (nu + 3) < cLine)
   (h:let c:Cx:=⟨model (gg γ).prog (gg γ).w,A.deeper (envX cn cs L a ccd cl),envX cn cs L a ccd cl,E⟩;Cxt γ cs cl L c → c.A.handled = none → c.A.depth + nd < recursionLimit → c.A.units + nu < cLine → wpAny c.M c.A (execs body c.env) Q c.E s) :
   wpAny (model (gg γ).prog (gg γ).w) (A.deeper (envX cn cs L a ccd cl)) (execs body (envX cn cs L a ccd cl)) Q E s:=h ⟨rfl,rfl,rfl,rfl,rfl,hk,rfl⟩ hh (by show A.depth + 1 + nd < _;lia) (by show A.units + 3 + nu < _;lia)
end
set_option genInjectivity false in
set_option genSizeOf false in
structure IsNot (K:Frag) (D C:Addr):Prop where
 a:kin_not K D C = true
 b:plainGet K D "__class__" = true
 c:hasDictIn K D = true
 d:findIn K (.ref D) "__class__" = some (some (.builtin "object.__class__"))
 e:specialIn K (.builtin "object.__class__") "__get__" = some (some (.builtin "getset_descriptor.__get__"))
 f:takesIn K (.builtin "object.__class__") = some true
 g:mroIn K D (.type "object") = some true
noncomputable def nthV:List Value → Nat → Option Value
 | [],_ => none
 | a :: _,0 => some a
 | _ :: l,n + 1 => nthV l n
theorem nthV_eq:∀ (l:List Value) (n:Nat),nthV l n = l[n]?
 | [],_ => rfl
 | _ :: _,0 => rfl
 | _ :: l,n + 1 => by rw [nthV,nthV_eq l n];rfl
noncomputable def tupAt (vs:Array Value) (i:Int):Option Value:=match decide (0 ≤ i ∧ i < 2 ^ 63) with | true => nthV vs.toList i.toNat | false => none
noncomputable def Bnd {α β:Type} (c:Cx) (k:α → Sem β) (Q:β → Shared → Prop) (v:α) (s:Shared):Prop:=wpAny c.M c.A (k v) Q c.E s
noncomputable def ConsC (Q:List Value → Shared → Prop) (v:Value) (vs:List Value) (s:Shared):Prop:=Q (v :: vs) s
noncomputable def ArgC (c:Cx) (pos:Pos) (es:List PySem.Expr) (Q:List Value → Shared → Prop) (v:Value) (s:Shared):Prop:=wpAny c.M c.A (spliced (backTo pos (starEach es c.env))) (ConsC Q v) c.E s
noncomputable def RetC (Q:Flow → Shared → Prop) (v:Value) (s:Shared):Prop:=Q (.ret v) s
noncomputable def AsgC (c:Cx) (x:Str) (Q:Flow → Shared → Prop) (v:Value) (s:Shared):Prop:=wpAny c.M c.A (storeName c.env x v) (fun zz => Q .next) c.E s
noncomputable def AndC (c:Cx) (rest:List PySem.Expr) (pos:Pos) (whole:Sem Value) (Q:Bool → Shared → Prop) (b:Bool) (s:Shared):Prop:=if b then wpAny c.M c.A (isTrue (.BoolOp .And rest pos) c.env whole) Q c.E s else Q false s
noncomputable def OrC (c:Cx) (rest:List PySem.Expr) (pos:Pos) (whole:Sem Value) (Q:Bool → Shared → Prop) (b:Bool) (s:Shared):Prop:=if b then Q true s else wpAny c.M c.A (isTrue (.BoolOp .Or rest pos) c.env whole) Q c.E s
noncomputable def IfeC (c:Cx) (body orelse:PySem.Expr) (Q:Value → Shared → Prop) (b:Bool) (s:Shared):Prop:=if b then wpAny c.M c.A (eval body c.env) Q c.E s else wpAny c.M c.A (eval orelse c.env) Q c.E s
structure ClsOk (K:Frag) (C:Addr) (name:Str) (v:Value):Prop where
 a:plainGet K C name = true
 b:hasDictIn K C = true
 c:findIn K (.ref C) name = some (some v)
 d:specialIn K v "__get__" = some none
 e:handedIn v = true
 f:copiedNames.contains name = false
section
variable {γ:Cfg} {cs:Scope} {cl:List (Str × Addr)} {c:Cx} {s t:Shared} {fz:Heap} {l:List (Str × Value)}
theorem pv_cls {x name:Str} {xp pos:Pos} {n k:Nat} {C a:Addr} {kv:List (Str × Value)} {v:Value} (H:Here γ cs cl c s fz l) (p:Pv c s n (.Name x xp) (.ref a) k) (I:Inst fz a C kv) (hl:kv.lookup name = none) (ok:∀ w,ClsOk (mk.heap_1 w) C name v):Pv c s n (.Attribute (.Name x xp) name pos) v (k + 1):=fun Q h => by
 obtain ⟨_,_,_,_,⟨_,_,_,_,_,_,eM⟩,S⟩:=H
 have o:=ok γ.w.params
 exact Attribute_Name_ (p _ (g_cls (s:=bump s k) eM S I o.a o.b o.c o.d o.e o.f hl h))
theorem pv_isY {x y:PySem.Expr} {np pos:Pos} {n k m:Nat} {C D a:Addr} {kv:List (Str × Value)} (H:Here γ cs cl c s fz l) (h1:EachAt x [y]) (h2:EachAt y []) (h3:AnyAt pos [y]) (pf:Pv c s n (.Name (Str.ofString "isinstance") np) (.builtin "isinstance") n) (p:Pv c s n x (.ref a) k) (q:Pv c s k y (.ref C) m) (I:Inst fz a D kv) (ok:∀ w,isIn (mk.heap_1 w) (.ref D) C = true) :
   Pv c s n (.Call (.Name (Str.ofString "isinstance") np) [x,y] [] pos) (.bool true) m:=fun Q h => by
 obtain ⟨_,_,_,_,⟨_,_,_,_,_,_,eM⟩,S⟩:=H
 refine Call_ (pf _ (callWith_builtin1 (args_cons (p _ (args_cons (q _ (args_nil ?_)) (h2 _))) (h1 _)) (h1 _) (h3 _)))
 exact i_yes (s:=bump s m) eM S I (ok _) h
theorem pv_isN {x y:PySem.Expr} {np pos:Pos} {n k m:Nat} {C D a:Addr} {kv:List (Str × Value)} (H:Here γ cs cl c s fz l) (h1:EachAt x [y]) (h2:EachAt y []) (h3:AnyAt pos [y]) (pf:Pv c s n (.Name (Str.ofString "isinstance") np) (.builtin "isinstance") n) (p:Pv c s n x (.ref a) k) (q:Pv c s k y (.ref C) m) (I:Inst fz a D kv) (ok:∀ w,IsNot (mk.heap_1 w) D C) :
   Pv c s n (.Call (.Name (Str.ofString "isinstance") np) [x,y] [] pos) (.bool false) (m + 1):=fun Q h => by
 obtain ⟨_,_,_,_,⟨_,_,_,_,_,_,eM⟩,S⟩:=H
 refine Call_ (pf _ (callWith_builtin1 (args_cons (p _ (args_cons (q _ (args_nil ?_)) (h2 _))) (h1 _)) (h1 _) (h3 _)))
 have o:=ok γ.w.params
 exact i_no (s:=bump s m) eM S I o.a o.b o.c o.d o.e o.f o.g h
theorem tupAt_of {vs:Array Value} {i:Int} {v:Value} (hv:tupAt vs i = some v):0 ≤ i ∧ i < 2 ^ 63 ∧ i.toNat < vs.size ∧ vs[i.toNat]? = some v:=by
 unfold tupAt at hv
 cases hb:decide (0 ≤ i ∧ i < 2 ^ 63) with
 | false => rw [hb] at hv;cases hv
 | true =>
   rw [hb] at hv
   have hv:nthV vs.toList i.toNat = some v:=hv
   have hb:=of_decide_eq_true hb
   rw [nthV_eq,Array.getElem?_toList] at hv
   rcases Nat.lt_or_ge i.toNat vs.size with h | h
   · exact ⟨hb.1,hb.2,h,hv⟩
   · rw [Array.getElem?_eq_none h] at hv;cases hv
theorem seqAt_of {i:Int} {n:Nat} (h0:0 ≤ i) (h:i.toNat < n):seqIndex? i n = some i.toNat:=by
 have e:(if i < 0 then i + (n:Int) else i) = i:=if_neg (by lia)
 have b:(decide (0 ≤ i) && decide (i < (n:Int))) = true:=by rw [decide_eq_true h0,decide_eq_true (show i < (n:Int) by lia)];rfl
 unfold seqIndex?
 rw [e]
 exact if_pos b
theorem pv_sub {x:Str} {xp pos:Pos} {e:PySem.Expr} {n k m:Nat} {a:Addr} {vs:Array Value} {i:Int} {u:Tok} {v:Value} (H:Here γ cs cl c s fz l) (oe:∀ a b,subscripted e false a b = operate [a,b] (getItem a b)) (p:Pv c s n (.Name x xp) (.ref a) k) (q:Pv c s k e (.int i u) m) (T:IsTup fz a vs) (hv:tupAt vs i = some v):Pv c s n (.Subscript (.Name x xp) e pos) v m:=fun Q h => by
 obtain ⟨_,_,_,_,⟨_,_,_,_,_,_,eM⟩,S⟩:=H
 refine Subscript_ (p _ (q _ ?_))
 obtain ⟨h0,h1,h2,h3⟩:=tupAt_of hv
 rw [eM]
 exact item_tuple (s:=bump s m) (isTup_sub T S.le) (by lia) h1 (seqAt_of h0 h2) h3 h (oe _ _) (fun zz => by with_unfolding_all rfl)
inductive ItemAt (vs:Array Value) (i:Int) (v:Value):Prop
 | v:vs[i.toNat]? = some v → 0 ≤ i → i < 2 ^ 63 → ItemAt vs i v
theorem ItemAt.k {vs:Array Value} {i:Int} {v:Value} (h:tupAt vs i = some v):ItemAt vs i v:=.v (tupAt_of h).2.2.2 (tupAt_of h).1 (tupAt_of h).2.1
theorem pv_subL {x:Str} {xp pos:Pos} {e:PySem.Expr} {n k m:Nat} {a:Addr} {vs:Array Value} {i:Int} {u:Tok} {v:Value} (H:Here γ cs cl c s fz l) (oe:∀ a b,subscripted e false a b = operate [a,b] (getItem a b)) (p:Pv c s n (.Name x xp) (.ref a) k) (q:Pv c s k e (.int i u) m) (T:fz.IsList a vs) (hv:ItemAt vs i v):Pv c s n (.Subscript (.Name x xp) e pos) v m:=fun Q h => by
 obtain ⟨_,_,_,_,⟨_,_,_,_,_,_,eM⟩,S⟩:=H
 refine Subscript_ (p _ (q _ ?_))
 obtain ⟨hx,h0,h1⟩:=hv
 rw [eM]
 exact item_listR (s:=bump s m) (isList_sub T S.le) h0 h1 hx h (oe _ _)
theorem lt63 {i:Int} {k:Nat} (h:i < k) (e:Nat.ble k 1000 = true):i < 2 ^ 63:=by
 have:=Nat.le_of_ble_eq_true e
 omega
variable {rest body orelse:List Stmt} {Q:Flow → Shared → Prop} {pos:Pos} {e r:PySem.Expr} {es:List PySem.Expr} {v a b:Value} {vs:List Value} {k m:Nat} {P:Value → Shared → Prop}
theorem y_bnd {α β:Type} {k:α → Sem β} {Q:β → Shared → Prop} {v:α} (h:wpAny c.M c.A (k v) Q c.E s):Bnd c k Q v s:=h
theorem y_tup {n:Nat} (p:PvL c s 0 es vs m) (ht:t = bump s m) (h:wpAny c.M c.A (newTuple vs) P c.E t):wpAny c.M c.A (eval (.Tuple es n pos) c.env) P c.E s:=by subst ht;exact Tuple_ (p _ _ h)
theorem y_tup1 {n:Nat} (h:wpAny c.M c.A (spliced (backTo pos (starEach es c.env))) (Bnd c newTuple P) c.E s):wpAny c.M c.A (eval (.Tuple es n pos) c.env) P c.E s:=Tuple_ h
theorem y_list (p:PvL c s 0 es vs m) (ht:t = bump s m) (h:wpAny c.M c.A (newList vs) P c.E t):wpAny c.M c.A (eval (.List es pos) c.env) P c.E s:=by subst ht;exact List_ (p _ _ h)
theorem y_list1 (h:wpAny c.M c.A (spliced (backTo pos (starEach es c.env))) (Bnd c newList P) c.E s):wpAny c.M c.A (eval (.List es pos) c.env) P c.E s:=List_ h
theorem y_call {x:Str} {xp:Pos} (p:Pv c s 0 (.Name x xp) v m) (ht:t = bump s m) (h:wpAny c.M c.A (callWith pos v [] (backTo pos (starEach es c.env)) []) P c.E t):wpAny c.M c.A (eval (.Call (.Name x xp) es [] pos) c.env) P c.E s:=by subst ht;exact Call_ (p _ h)
theorem y_blt {id:String} (ok:EachAt e es) (o2:AnyAt pos es) (p:PvL c s 0 (e :: es) vs m) (ht:t = bump s m) (h:wpAny c.M c.A (call (.builtin id) vs) P c.E t):wpAny c.M c.A (callWith pos (.builtin id) [] (backTo pos (starEach (e :: es) c.env)) []) P c.E s:=by
 subst ht;exact callWith_builtin1 (p _ _ h) (ok _) (o2 _)
theorem y_blt1 {id:String} (ok:EachAt e es) (o2:AnyAt pos es) (h:wpAny c.M c.A (spliced (backTo pos (starEach (e :: es) c.env))) (Bnd c (fun vs => call (.builtin id) vs) P) c.E s):wpAny c.M c.A (callWith pos (.builtin id) [] (backTo pos (starEach (e :: es) c.env)) []) P c.E s:=by
 exact callWith_builtin1 h (ok _) (o2 _)
theorem y_typ {id:String} (ok:EachAt e es) (o2:AnyAt pos es) (p:PvL c s 0 (e :: es) vs m) (ht:t = bump s m) (h:wpAny c.M c.A (call (.type id) vs) P c.E t):wpAny c.M c.A (callWith pos (.type id) [] (backTo pos (starEach (e :: es) c.env)) []) P c.E s:=by
 subst ht;exact PyProof.Rows.callWith_type1 (p _ _ h) (ok _) (o2 _)
theorem y_typ1 {id:String} (ok:EachAt e es) (o2:AnyAt pos es) (h:wpAny c.M c.A (spliced (backTo pos (starEach (e :: es) c.env))) (Bnd c (fun vs => call (.type id) vs) P) c.E s):wpAny c.M c.A (callWith pos (.type id) [] (backTo pos (starEach (e :: es) c.env)) []) P c.E s:=by
 exact PyProof.Rows.callWith_type1 h (ok _) (o2 _)
theorem keepHere (H:Here γ cs cl c s fz l) (n:Nat):(mk.heap_1 γ.w.params).In (bump s n).heap:=by
 obtain ⟨_,_,_,_,_,S⟩:=H;exact S.inv.kin.keeps S.le
theorem y_callK {f:Addr} (H:Here γ cs cl c s fz l) (hk:∀ w,keepIn (mk.heap_1 w) (.ref f) = true) (ok:EachAt e es) (o2:AnyAt pos es) (p:PvL c s 0 (e :: es) vs m) (ht:t = bump s m) (h:wpAny c.M c.A (call (.ref f) vs) P c.E t):wpAny c.M c.A (callWith pos (.ref f) [] (backTo pos (starEach (e :: es) c.env)) []) P c.E s:=by
 subst ht;exact callWith_K (keepHere H 0) (hk _) (p _ _ ⟨keepHere H m,h⟩) (ok _) (o2 _)
theorem y_callS {f:Addr} {o:Value} (H:Here γ cs cl c s fz l) (hk:∀ w,keepIn (mk.heap_1 w) (.ref f) = true) (ok:EachAt e es) (o2:AnyAt pos es) (p:PvL c s 0 (e :: es) vs m) (ht:t = bump s m) (h:wpAny c.M c.A (call (.ref f) (o :: vs)) P c.E t):wpAny c.M c.A (callWith pos (.ref f) [o] (backTo pos (starEach (e :: es) c.env)) []) P c.E s:=by
 subst ht;exact callWith_K (keepHere H 0) (hk _) (p _ _ ⟨keepHere H m,h⟩) (ok _) (o2 _)
theorem y_callK0 {f:Addr} (H:Here γ cs cl c s fz l) (hk:∀ w,keepIn (mk.heap_1 w) (.ref f) = true) (h:wpAny c.M c.A (call (.ref f) []) P c.E s):wpAny c.M c.A (callWith pos (.ref f) [] (backTo pos (starEach [] c.env)) []) P c.E s:=callWith_K0 (keepHere H 0) (hk _) h
theorem y_callS0 {f:Addr} {o:Value} (H:Here γ cs cl c s fz l) (hk:∀ w,keepIn (mk.heap_1 w) (.ref f) = true) (h:wpAny c.M c.A (call (.ref f) [o]) P c.E s):wpAny c.M c.A (callWith pos (.ref f) [o] (backTo pos (starEach [] c.env)) []) P c.E s:=callWith_K0 (keepHere H 0) (hk _) h
theorem y_cmp {op:CmpOp} (hm:behindInMarks op r = false) (p:Pv c s 0 e a k) (q:Pv c s k r b m) (ht:t = bump s m) (h:wpAny c.M c.A (compareOp op a b) P c.E t):wpAny c.M c.A (eval (.Compare e [op] [r] pos) c.env) P c.E s:=by subst ht;exact wpAny_Compare1 (p _ (q _ h)) hm
theorem y_cmpB {op:CmpOp} {whole:Sem Value} {Q:Bool → Shared → Prop} (hm:behindInMarks op r = false) (p:Pv c s 0 e a k) (q:Pv c s k r b m) (ht:t = bump s m) (h:wpAny c.M c.A (compareOp op a b) (Bnd c truthy Q) c.E t):wpAny c.M c.A (isTrue (.Compare e [op] [r] pos) c.env whole) Q c.E s:=by subst ht;exact wpAny_isTrue_Compare1 (p _ (q _ h)) hm
theorem y_args {Q:List Value → Shared → Prop} (ok:EachAt e es) (h:wpAny c.M c.A (eval e c.env) (ArgC c pos es Q) c.E s):wpAny c.M c.A (spliced (backTo pos (starEach (e :: es) c.env))) Q c.E s:=args_cons h (ok _)
theorem y_argC {Q:List Value → Shared → Prop} (h:wpAny c.M c.A (spliced (backTo pos (starEach es c.env))) (ConsC Q v) c.E s):ArgC c pos es Q v s:=h
theorem y_cons1 {Q:List Value → Shared → Prop} (h:Q (v :: vs) s):ConsC Q v vs s:=h
theorem y_sub (p:Pv c s 0 e a k) (q:Pv c s k r b m) (ht:t = bump s m) (h:wpAny c.M c.A (subscriptTail e r a b) P c.E t):wpAny c.M c.A (eval (.Subscript e r pos) c.env) P c.E s:=by subst ht;exact Subscript_ (p _ (q _ h))
theorem y_bin {op:Operator} (p:Pv c s 0 e a k) (q:Pv c s k r b m) (ht:t = bump s m) (h:wpAny c.M c.A (binaryOp op a b) P c.E t):wpAny c.M c.A (eval (.BinOp e op r pos) c.env) P c.E s:=by subst ht;exact wpAny_BinOp (p _ (q _ h))
theorem y_att {x name:Str} {xp:Pos} (p:Pv c s 0 (.Name x xp) v m) (ht:t = bump s m) (h:wpAny c.M c.A (getAttr v name true) P c.E t):wpAny c.M c.A (eval (.Attribute (.Name x xp) name pos) c.env) P c.E s:=by subst ht;exact Attribute_Name_ (p _ h)
theorem y_tru {Q:Bool → Shared → Prop} (ok:TrueAt e) (p:Pv c s 0 e v m) (ht:t = bump s m) (h:wpAny c.M c.A (truthy v) Q c.E t):wpAny c.M c.A (isTrue e c.env (eval e c.env)) Q c.E s:=by
 subst ht;exact isTrue_plain (p _ h) (ok _ _)
theorem y_retC (h:wpAny c.M c.A (eval e c.env) (RetC Q) c.E s):wpAny c.M c.A (exec (.Return (some e) pos) c.env) Q c.E s:=wpAny_Return_some h
theorem y_ret2 (h:Q (.ret v) s):RetC Q v s:=h
theorem y_asg {x:Str} {pos':Pos} (oc:SwapAt e x pos' pos) (h:wpAny c.M c.A (eval e c.env) (AsgC c x Q) c.E s):wpAny c.M c.A (exec (.Assign [.Name x pos'] e pos) c.env) Q c.E s:=wpAny_Assign_Name h (oc _)
theorem y_isY {x C D:Addr} {kv:List (Str × Value)} (H:Here γ cs cl c s fz l) (I:Inst fz x D kv) (ok:∀ w,isIn (mk.heap_1 w) (.ref D) C = true) (h:P (.bool true) s):wpAny c.M c.A (call (.builtin "isinstance") [.ref x,.ref C]) P c.E s:=by
 obtain ⟨_,_,_,_,⟨_,_,_,_,_,_,eM⟩,S⟩:=H
 exact i_yes eM S I (ok _) h
theorem y_isN {x C D:Addr} {kv:List (Str × Value)} (H:Here γ cs cl c s fz l) (I:Inst fz x D kv) (ok:∀ w,IsNot (mk.heap_1 w) D C) (h:P (.bool false) (bump s 1)):wpAny c.M c.A (call (.builtin "isinstance") [.ref x,.ref C]) P c.E s:=by
 obtain ⟨_,_,_,_,⟨_,_,_,_,_,_,eM⟩,S⟩:=H
 have o:=ok γ.w.params
 exact i_no eM S I o.a o.b o.c o.d o.e o.f o.g h
theorem y_asgN {x:Str} (h:wpAny c.M c.A (storeName c.env x v) (fun zz => Q .next) c.E s):AsgC c x Q v s:=h
theorem y_asg2 {s₀:Shared} {fz₀:Heap} {L:Addr} {mu:List (Addr × Obj)} {x:Str} (F:Cxt γ cs cl L c) (S:St (gg γ) s₀ fz₀ s.heap s.gens s.os fz L l mu) (ok:locOk cs x = true)
   (h:∀ s',St (gg γ) s₀ fz₀ s'.heap s'.gens s'.os fz L ((x,v) :: l) mu → Q .next s'):AsgC c x Q v s:=by
 have kd:=F.kd
 have kn:=F.kn ok
 obtain ⟨eL,_⟩:=F
 exact stE_loc S eL h kd kn
variable {whole:Sem Value} {B:Bool → Shared → Prop} {x:PySem.Expr} {xs:List PySem.Expr} {d b':Bool}
theorem y_and (h:wpAny c.M c.A (isTrue x c.env (eval x c.env)) (AndC c xs pos whole B) c.E s):wpAny c.M c.A (isTrue (.BoolOp .And (x :: xs) pos) c.env whole) B c.E s:=isTrue_and h
theorem y_and2 (h1:d = true → wpAny c.M c.A (isTrue (.BoolOp .And xs pos) c.env whole) B c.E s) (h2:d = false → B false s):AndC c xs pos whole B d s:=by cases d;exact h2 rfl;exact h1 rfl
theorem y_or (h:wpAny c.M c.A (isTrue x c.env (eval x c.env)) (OrC c xs pos whole B) c.E s):wpAny c.M c.A (isTrue (.BoolOp .Or (x :: xs) pos) c.env whole) B c.E s:=isTrue_or h
theorem y_or2 (h1:d = true → B true s) (h2:d = false → wpAny c.M c.A (isTrue (.BoolOp .Or xs pos) c.env whole) B c.E s):OrC c xs pos whole B d s:=by cases d;exact h2 rfl;exact h1 rfl
theorem y_and1 (hb:d = true) (h:wpAny c.M c.A (isTrue (.BoolOp .And xs pos) c.env whole) B c.E s):AndC c xs pos whole B d s:=by subst hb;exact h
theorem y_and0 (hb:d = false) (h:B false s):AndC c xs pos whole B d s:=by subst hb;exact h
theorem y_andD1 {z:Prop} [Decidable z] (hz:z) (h:wpAny c.M c.A (isTrue (.BoolOp .And xs pos) c.env whole) B c.E s):AndC c xs pos whole B (decide z) s:=y_and1 (decide_eq_true hz) h
theorem y_andD0 {z:Prop} [Decidable z] (hz:¬ z) (h:B false s):AndC c xs pos whole B (decide z) s:=y_and0 (decide_eq_false hz) h
theorem y_or1 (hb:d = true) (h:B true s):OrC c xs pos whole B d s:=by subst hb;exact h
theorem y_or0 (hb:d = false) (h:wpAny c.M c.A (isTrue (.BoolOp .Or xs pos) c.env whole) B c.E s):OrC c xs pos whole B d s:=by subst hb;exact h
theorem y_orD1 {z:Prop} [Decidable z] (hz:z) (h:B true s):OrC c xs pos whole B (decide z) s:=y_or1 (decide_eq_true hz) h
theorem y_orD0 {z:Prop} [Decidable z] (hz:¬ z) (h:wpAny c.M c.A (isTrue (.BoolOp .Or xs pos) c.env whole) B c.E s):OrC c xs pos whole B (decide z) s:=y_or0 (decide_eq_false hz) h
theorem y_andS {i j:Str} (h1:(i == j) = true → wpAny c.M c.A (isTrue (.BoolOp .And xs pos) c.env whole) B c.E s) (h2:(i == j) = false → B false s):AndC c xs pos whole B (i == j) s:=y_and2 h1 h2
theorem y_andB (h1:d = false → wpAny c.M c.A (isTrue (.BoolOp .And xs pos) c.env whole) B c.E s) (h2:d = true → B false s):AndC c xs pos whole B (!d) s:=by cases d;exact h1 rfl;exact h2 rfl
theorem y_orS {i j:Str} (h1:(i == j) = true → B true s) (h2:(i == j) = false → wpAny c.M c.A (isTrue (.BoolOp .Or xs pos) c.env whole) B c.E s):OrC c xs pos whole B (i == j) s:=y_or2 h1 h2
theorem y_orB (h1:d = false → B true s) (h2:d = true → wpAny c.M c.A (isTrue (.BoolOp .Or xs pos) c.env whole) B c.E s):OrC c xs pos whole B (!d) s:=by cases d;exact h1 rfl;exact h2 rfl
theorem rf_d {z:Prop} [Decidable z]:decide z = true ↔ z:=decide_eq_true_iff
theorem rf_i {i j:Int}:(i == j) = true ↔ i = j:=beq_iff_eq
theorem rf_n {i j:Int}:(i != j) = false ↔ i = j:=by simp
theorem rf_ni {i j:Int}:(!(i == j)) = false ↔ i = j:=by simp
theorem rf_nd {z:Prop} [Decidable z]:(!(decide z)) = false ↔ z:=by simp
theorem y_andP {z:Prop} (hz:d = true ↔ z) (h1:z → wpAny c.M c.A (isTrue (.BoolOp .And xs pos) c.env whole) B c.E s) (h2:¬ z → B false s):AndC c xs pos whole B d s:=y_and2 (fun e => h1 (hz.mp e)) fun e => h2 fun q => by rw [hz.mpr q] at e;cases e
theorem y_andM {z:Prop} (hz:d = false ↔ z) (h1:¬ z → wpAny c.M c.A (isTrue (.BoolOp .And xs pos) c.env whole) B c.E s) (h2:z → B false s):AndC c xs pos whole B d s:=y_and2 (fun e => h1 fun q => by rw [hz.mpr q] at e;cases e) fun e => h2 (hz.mp e)
theorem y_orP {z:Prop} (hz:d = true ↔ z) (h1:z → B true s) (h2:¬ z → wpAny c.M c.A (isTrue (.BoolOp .Or xs pos) c.env whole) B c.E s):OrC c xs pos whole B d s:=y_or2 (fun e => h1 (hz.mp e)) fun e => h2 fun q => by rw [hz.mpr q] at e;cases e
theorem y_orM {z:Prop} (hz:d = false ↔ z) (h1:¬ z → B true s) (h2:z → wpAny c.M c.A (isTrue (.BoolOp .Or xs pos) c.env whole) B c.E s):OrC c xs pos whole B d s:=y_or2 (fun e => h1 fun q => by rw [hz.mpr q] at e;cases e) fun e => h2 (hz.mp e)
variable {p1 p2:PySem.Expr}
theorem y_ife1 (hb:d = true) (h:wpAny c.M c.A (eval p1 c.env) P c.E s):IfeC c p1 p2 P d s:=by subst hb;exact h
theorem y_ife0 (hb:d = false) (h:wpAny c.M c.A (eval p2 c.env) P c.E s):IfeC c p1 p2 P d s:=by subst hb;exact h
theorem y_ifeD1 {z:Prop} [Decidable z] (hz:z) (h:wpAny c.M c.A (eval p1 c.env) P c.E s):IfeC c p1 p2 P (decide z) s:=y_ife1 (decide_eq_true hz) h
theorem y_ifeD0 {z:Prop} [Decidable z] (hz:¬ z) (h:wpAny c.M c.A (eval p2 c.env) P c.E s):IfeC c p1 p2 P (decide z) s:=y_ife0 (decide_eq_false hz) h
theorem y_ife (h:wpAny c.M c.A (isTrue e c.env (eval e c.env)) (IfeC c p1 p2 P) c.E s):wpAny c.M c.A (eval (.IfExp e p1 p2 pos) c.env) P c.E s:=IfExp_ h
theorem y_ife2 (h1:d = true → wpAny c.M c.A (eval p1 c.env) P c.E s) (h2:d = false → wpAny c.M c.A (eval p2 c.env) P c.E s):IfeC c p1 p2 P d s:=by cases d;exact h2 rfl;exact h1 rfl
theorem y_ifeS {i j:Str} (h1:(i == j) = true → wpAny c.M c.A (eval p1 c.env) P c.E s) (h2:(i == j) = false → wpAny c.M c.A (eval p2 c.env) P c.E s):IfeC c p1 p2 P (i == j) s:=y_ife2 h1 h2
theorem y_ifeB (h1:d = false → wpAny c.M c.A (eval p1 c.env) P c.E s) (h2:d = true → wpAny c.M c.A (eval p2 c.env) P c.E s):IfeC c p1 p2 P (!d) s:=by cases d;exact h1 rfl;exact h2 rfl
theorem y_ifeP {z:Prop} (hz:d = true ↔ z) (h1:z → wpAny c.M c.A (eval p1 c.env) P c.E s) (h2:¬ z → wpAny c.M c.A (eval p2 c.env) P c.E s):IfeC c p1 p2 P d s:=y_ife2 (fun e => h1 (hz.mp e)) fun e => h2 fun q => by rw [hz.mpr q] at e;cases e
theorem y_ifeM {z:Prop} (hz:d = false ↔ z) (h1:¬ z → wpAny c.M c.A (eval p1 c.env) P c.E s) (h2:z → wpAny c.M c.A (eval p2 c.env) P c.E s):IfeC c p1 p2 P d s:=y_ife2 (fun e => h1 fun q => by rw [hz.mpr q] at e;cases e) fun e => h2 (hz.mp e)
end
theorem y_cutS {γ:Cfg} {c:Cx} {s₀ s:Shared} {fz₀ fz:Heap} {L:Addr} {l:List (Str × Value)} {mu:List (Addr × Obj)} {st:Stmt} {rest:List Stmt} {Q:Flow → Shared → Prop} (φ:Prop) (l':List (Str × Value)) (_S:St (gg γ) s₀ fz₀ s.heap s.gens s.os fz L l mu)
   (h:∀ N:Flow → Shared → Prop,(∀ s' fz',φ → St (gg γ) s₀ fz₀ s'.heap s'.gens s'.os fz' L l' mu → Grows (gg γ).tabs fz fz' → N .next s') → (∀ v s',Q (.ret v) s' → N (.ret v) s') → wpAny c.M c.A (exec st c.env) N c.E s)
   (h0:φ → ∀ s' fz',Grows (gg γ).tabs fz fz' → St (gg γ) s₀ fz₀ s'.heap s'.gens s'.os fz' L l' mu → wpAny c.M c.A (execs rest c.env) Q c.E s'):wpAny c.M c.A (execs (st :: rest) c.env) Q c.E s :=
 y_cons (h _ (fun s' fz' f S g => h0 f s' fz' g S) fun zz zz q => q)
theorem y_cut0 {γ:Cfg} {c:Cx} {s₀ s:Shared} {fz₀ fz:Heap} {L:Addr} {l:List (Str × Value)} {mu:List (Addr × Obj)} {st:Stmt} {rest:List Stmt} {Q:Flow → Shared → Prop} (φ:Prop) (S:St (gg γ) s₀ fz₀ s.heap s.gens s.os fz L l mu)
   (h:∀ N:Flow → Shared → Prop,(∀ s' fz',φ → St (gg γ) s₀ fz₀ s'.heap s'.gens s'.os fz' L l mu → Grows (gg γ).tabs fz fz' → N .next s') → (∀ v s',Q (.ret v) s' → N (.ret v) s') → wpAny c.M c.A (exec st c.env) N c.E s)
   (h0:φ → ∀ s' fz',Grows (gg γ).tabs fz fz' → St (gg γ) s₀ fz₀ s'.heap s'.gens s'.os fz' L l mu → wpAny c.M c.A (execs rest c.env) Q c.E s'):wpAny c.M c.A (execs (st :: rest) c.env) Q c.E s:=y_cutS φ l S h h0
theorem y_inA {γ:Cfg} {cs:Scope} {cl:List (Str × Addr)} {s:Shared} {body:List Stmt} {Q:Flow → Shared → Prop} {cn:Str} {a L:Addr} {ccd:Value} {A:Around} {E:Value → Shared → Prop} {nd nu:Nat} (hk:cs.kind = .function) (hh:A.handled = none) (hd:A.depth + nd < recursionLimit) (hu:A.units + nu < cLine)
   (h:let c:Cx:=⟨model (gg γ).prog (gg γ).w,A,envX cn cs L a ccd cl,E⟩;Cxt γ cs cl L c → c.A.handled = none → c.A.depth + nd < recursionLimit → c.A.units + nu < cLine → wpAny c.M c.A (execs body c.env) Q c.E s) :
   wpAny (model (gg γ).prog (gg γ).w) A (execs body (envX cn cs L a ccd cl)) Q E s:=h ⟨rfl,rfl,rfl,rfl,rfl,hk,rfl⟩ hh hd hu
theorem y_inE {γ:Cfg} {s:Shared} {e:PySem.Expr} {env:Env} {L:Addr} {Q:Value → Shared → Prop} {A:Around} {E:Value → Shared → Prop} {nd nu:Nat} (eL:env.locals = L) (eG:env.globals = mainGlobals) (eB:env.builtins = builtinsNs) (hk:env.scope.kind = .function) (hh:A.handled = none) (hd:A.depth + nd < recursionLimit) (hu:A.units + nu < cLine)
   (h:let c:Cx:=⟨model (gg γ).prog (gg γ).w,A,env,E⟩;Cxt γ c.env.scope c.env.cells L c → c.A.handled = none → c.A.depth + nd < recursionLimit → c.A.units + nu < cLine → wpAny c.M c.A (eval e c.env) Q c.E s) :
   wpAny (model (gg γ).prog (gg γ).w) A (eval e env) Q E s:=h ⟨eL,eG,eB,rfl,rfl,hk,rfl⟩ hh hd hu
end
set_option tactic.hygienic true
open PySem PySem.W PySem.Calls PyProof.Rows PySem.Spec
set_option maxRecDepth 100000
set_option maxHeartbeats 4000000
theorem regAll:(PySem.Challenge.rw_ln0005_03,mk.heap_1).1 = PySem.Challenge.rw_ln0005_03:=by
 k_fill;rfl
theorem words0:True:=by
 k_with_none
 k_with "Zn M post" => first | ((with_reducible refine post_eq (g:=gg _) ?_);walk_at "I4") | ((with_reducible refine post_ex (g:=gg _) ?_);walk_at "I5")
 k_with "Zn M depth" => first | with_reducible exact ltn (by with_reducible assumption) rfl | with_reducible exact lt0 (by with_reducible assumption) | ((try dsimp only [depth_deeper,depth_in1,depth_under_make,depth_kw]);first | with_reducible exact ltn (by with_reducible assumption) rfl | with_reducible exact ltn1 (by with_reducible assumption) rfl | with_reducible exact ltn2 (by with_reducible assumption) rfl | ((with_reducible refine lts (by with_reducible assumption) ?_);lia) | ((with_reducible refine lts1 (by with_reducible assumption) ?_);lia) | ((with_reducible refine lts2 (by with_reducible assumption) ?_);lia))
 k_with "Zn M units" => first | with_reducible exact ltn (by with_reducible assumption) rfl | with_reducible exact lt0 (by with_reducible assumption) | ((try dsimp only [units_in1,units_deeper,units_kw]);first | with_reducible exact ltn (by with_reducible assumption) rfl | with_reducible exact ltn1 (by with_reducible assumption) rfl | with_reducible exact ltn2 (by with_reducible assumption) rfl | ((with_reducible refine lts (by with_reducible assumption) ?_);lia) | ((with_reducible refine lts1 (by with_reducible assumption) ?_);lia) | ((with_reducible refine lts2 (by with_reducible assumption) ?_);lia))
 k_with "Zn M pre2" => ((with_reducible refine And.intro ?_ ?_);(·walk_at "M ver1");(·walk_at "M ver1"))
 k_with "Zn M preT" => first | ((with_reducible refine And.intro ?_ ?_);(·walk_at "M tri");(·walk_at "M tri")) | ((with_reducible refine And.intro ?_ ?_);(·walk_at "M duo");(·walk_at "M duo"))
 k_with "Zn execs cons" => (with_reducible refine x_cons ?_)
 k_with "Zn NextP" => first | with_reducible refine NextP.next ?_ | with_reducible refine NextP.ret ?_ | with_reducible refine NextP.cont ?_ | with_reducible refine NextP.brk ?_
 k_with "Zn exec If" => (with_reducible refine x_if ?_)
 k_with "Zn iteC" => first | lia | (simp only [List.size_toArray,List.length_cons,List.length_nil] <;> first | rfl | lia)
 k_with "Zn iteB" => first | with_reducible rfl | decide | (simp only [decide_eq_true_eq,decide_eq_false_iff_not,beq_iff_eq,beq_eq_false_iff_ne,ne_eq,List.size_toArray,List.length_cons,List.length_nil] <;> first | rfl | lia)
 k_with "Zn IfP" => first | (with_reducible refine IfP.yesD (by walk_at "iteC") ?_) | (with_reducible refine IfP.noD (by walk_at "iteC") ?_) | (with_reducible refine IfP.yes (by walk_at "iteB") ?_) | (with_reducible refine IfP.no (by walk_at "iteB") ?_) | ((with_reducible refine IfP.dec ?_ ?_) <;> walk_at "I1") | (with_reducible refine IfP.not ?_) | ((with_reducible refine IfP.ieq ?_ ?_) <;> walk_at "I1") | ((with_reducible refine IfP.ine ?_ ?_) <;> walk_at "I1") | ((with_reducible refine IfP.any ?_ ?_) <;> walk_at "I1")
 k_with "Zn M here" => ((with_reducible refine' here ?_ ?_);rotate_right 2;(·with_reducible assumption);(·with_reducible assumption))
 k_with "Zn M st" => first | with_reducible exact bump0 _ | exact rfl
 k_with "Zn M inA" => ((with_reducible refine' y_inA ?_ ?_ ?_ ?_ ?_);rotate_right 5;(·rfl);(·with_reducible assumption);(·with_reducible assumption);(·with_reducible assumption);k_whole;walk_at "I5")
 k_with "Zn M inE" => ((with_reducible refine' y_inE ?_ ?_ ?_ ?_ ?_ ?_ ?_ ?_);rotate_right 8;(·rfl);(·rfl);(·rfl);(·rfl);(·with_reducible assumption);(·with_reducible assumption);(·with_reducible assumption);k_whole;walk_at "I5")
 k_with "Zn M item" => first | ((with_reducible refine' ItemAt.v ?_ ?_ ?_);rotate_right 3;(·with_reducible assumption);(·first | exact Int.natCast_nonneg _ | with_reducible assumption | lia);(·first | with_reducible exact lt63 (by with_reducible assumption) rfl | lia)) | k_dflt (exact ItemAt.k rfl)
 k_with "Zn M din" => first | with_reducible assumption | ((try dsimp only [depth_in1,depth_under_make,depth_kw]);first | with_reducible assumption | with_reducible exact ld1 (by with_reducible assumption) | with_reducible exact ldS (by with_reducible assumption) (by lia))
 k_with "Zn M uin" => first | with_reducible assumption | ((try dsimp only [units_in1,units_under_make,units_kw]);first | with_reducible assumption | with_reducible exact lu1 (by with_reducible assumption) | with_reducible exact luS (by with_reducible assumption) (by lia))
 k_with "Zn M rfl" => k_dflt (exact rfl)
 k_with "Zn M pv" => first | with_reducible exact pv_int | with_reducible exact pv_str | with_reducible exact pv_none | with_reducible exact pv_bool | ((with_reducible refine' pv_loc ?_ ?_ ?_);rotate_right 3;(·walk_at "M here");(·walk_at "M rfl");(·walk_at "M rfl")) | ((with_reducible refine' pv_own ?_ ?_ ?_ ?_ ?_ ?_);rotate_right 6;(·walk_at "M here");(·walk_at "M pv");(·walk_at "M I");(·first | with_reducible assumption | walk_at "M rfl");(·walk_at "M rfl");(·walk_at "M own")) | ((with_reducible refine' pv_cls ?_ ?_ ?_ ?_ ?_);rotate_right 5;(·walk_at "M here");(·walk_at "M pv");(·walk_at "M I");(·walk_at "M rfl");(·(walk_at "I1"; exact ClsOk.mk (by k_is) (by k_is) (by k_is) (by k_is) (by k_dflt (exact rfl)) (by decide +kernel)))) | ((with_reducible refine' pv_glob ?_ ?_ ?_);rotate_right 3;(·walk_at "M here");(·walk_at "M rfl");(·(walk_at "I1"; k_is))) | ((with_reducible refine' pv_bi ?_ ?_ ?_ ?_ ?_);rotate_right 5;(·walk_at "M here");(·walk_at "M rfl");(·(walk_at "I1"; k_is));(·walk_at "M boot");(·decide)) | ((with_reducible refine' pv_cell ?_ ?_ ?_ ?_);rotate_right 4;(·walk_at "M here");(·walk_at "M rfl");(·walk_at "M rfl");(·walk_at "M cell")) | ((with_reducible refine' pv_cellO ?_ ?_ ?_ ?_ ?_);rotate_right 5;(·with_reducible assumption);(·with_reducible assumption);(·walk_at "M rfl");(·walk_at "M rfl");(·walk_at "M mem")) | ((with_reducible refine' pv_sub ?_ ?_ ?_ ?_ ?_ ?_);rotate_right 6;(·walk_at "M here");(·(walk_at "I2"; with_unfolding_all rfl));(·walk_at "M pv");(·walk_at "M pv");(·walk_at "M tup");(·walk_at "M rfl")) | ((with_reducible refine' pv_subL ?_ ?_ ?_ ?_ ?_ ?_);rotate_right 6;(·walk_at "M here");(·(walk_at "I2"; with_unfolding_all rfl));(·walk_at "M pv");(·walk_at "M pv");(·walk_at "M lst");(·walk_at "M item")) | ((with_reducible refine' pv_isY ?_ ?_ ?_ ?_ ?_ ?_ ?_ ?_ ?_);rotate_right 9;(·walk_at "M here");(·(walk_at "I1"; rfl));(·(walk_at "I1"; rfl));(·(walk_at "I1"; rfl));(·walk_at "M pv");(·walk_at "M pv");(·walk_at "M pv");(·walk_at "M I");(·first | with_reducible assumption | (walk_at "I1"; fail_if_success (with_reducible show isIn _ (Value.ref (Cl.cls _)) _ = _);k_is))) | ((with_reducible refine' pv_isN ?_ ?_ ?_ ?_ ?_ ?_ ?_ ?_ ?_);rotate_right 9;(·walk_at "M here");(·(walk_at "I1"; rfl));(·(walk_at "I1"; rfl));(·(walk_at "I1"; rfl));(·walk_at "M pv");(·walk_at "M pv");(·walk_at "M pv");(·walk_at "M I");(·first | with_reducible assumption | (walk_at "I1"; fail_if_success (with_reducible show IsNot _ (Cl.cls _) _);exact IsNot.mk (by kin_no) (by k_is) (by k_is) (by k_is) (by k_is) (by k_is) (by k_is))))
 k_with "Zn M cell" => first | with_reducible assumption | ((with_reducible refine' cell_up ?_ ?_ ?_);rotate_right 3;(·with_reducible assumption);(·exact St.inv (by with_reducible assumption));(·walk_at "M chain"))
 k_with "Zn M own" => (walk_at "I1"; exact ownOk_of (by k_is) (by k_is) (by k_is) (by k_is))
 k_with "Zn M boot" => first | with_reducible exact boot_m_isinstance | with_reducible exact boot_NI | with_reducible exact boot_m_len | with_reducible exact boot_m_any | with_reducible exact boot_m_all | with_reducible exact boot_m_enumerate | with_reducible exact boot_m_int | with_reducible exact boot_m_tuple | with_reducible exact boot_m_iter | with_reducible exact boot_m_str | with_reducible exact boot_m_range | with_reducible exact boot_m_zip | with_reducible exact boot_m_abs | with_reducible exact boot_m_ord | with_reducible exact boot_m_list | boot_fast
 k_with "Zn M pvb" => first | ((with_reducible refine' pvb_not ?_);walk_at "M pvb") | ((with_reducible refine' pvb_bool ?_ ?_);rotate_right 2;(·(walk_at "I2"; rfl));(·walk_at "M pv")) | ((with_reducible refine' pvb_none ?_ ?_);rotate_right 2;(·(walk_at "I2"; rfl));(·walk_at "M pv"))
 k_with "Zn M pvl" => first | with_reducible exact pvl_nil | ((with_reducible refine' pvl_cons ?_ ?_ ?_);rotate_right 3;(·(walk_at "I1"; rfl));(·walk_at "M pv");(·walk_at "M pvl"))
 k_with "Zn M yv" => ((with_reducible refine' y_pv ?_ ?_ ?_);rotate_right 3;(·walk_at "M pv");(·walk_at "M st");k_whole)
 k_with "Zn M yb" => ((with_reducible refine' y_pvb ?_ ?_ ?_);rotate_right 3;(·walk_at "M pvb");(·walk_at "M st");k_whole)
 k_with "Zn eval Name" => walk_at "M yv"
 k_with "Zn eval Constant" => walk_at "M yv"
 k_with "Zn eval Constant int" => walk_at "M yv"
 k_with "Zn eval Constant str" => walk_at "M yv"
 k_with "Zn eval Constant none" => walk_at "M yv"
 k_with "Zn eval Attribute Name" => first | walk_at "M yv" | ((with_reducible refine' y_att ?_ ?_ ?_);rotate_right 3;(·walk_at "M pv");(·walk_at "M st");k_whole)
 k_with "Zn eval Compare" => ((with_reducible refine' y_cmp ?_ ?_ ?_ ?_ ?_);rotate_right 5;(·with_unfolding_all rfl);(·walk_at "M pv");(·walk_at "M pv");(·walk_at "M st");k_whole)
 k_with "Zn eval Subscript" => first | walk_at "M yv" | ((with_reducible refine' y_sub ?_ ?_ ?_ ?_);rotate_right 4;(·walk_at "M pv");(·walk_at "M pv");(·walk_at "M st");k_whole)
 k_with "Zn eval BinOp" => ((with_reducible refine' y_bin ?_ ?_ ?_ ?_);rotate_right 4;(·walk_at "M pv");(·walk_at "M pv");(·walk_at "M st");k_whole)
 k_with "Zn eval Tuple" => first | ((with_reducible refine' y_tup ?_ ?_ ?_);rotate_right 3;(·walk_at "M pvl");(·walk_at "M st");k_whole) | with_reducible refine y_tup1 ?_
 k_with "Zn eval List" => first | ((with_reducible refine' y_list ?_ ?_ ?_);rotate_right 3;(·walk_at "M pvl");(·walk_at "M st");k_whole) | with_reducible refine y_list1 ?_
 k_with "Zn eval Call" => first | walk_at "M yv" | ((with_reducible refine' y_call ?_ ?_ ?_);rotate_right 3;(·walk_at "M pv");(·walk_at "M st");k_whole)
 k_with "Zn eval IfExp" => with_reducible refine y_ife ?_
 k_with "Zn call builtin:isinstance" => first | ((with_reducible refine' y_isY ?_ ?_ ?_ ?_);rotate_right 4;(·walk_at "M here");(·walk_at "M I");(·first | with_reducible assumption | (walk_at "I1"; fail_if_success (with_reducible show isIn _ (Value.ref (Cl.cls _)) _ = _);k_is));k_whole) | ((with_reducible refine' y_isN ?_ ?_ ?_ ?_);rotate_right 4;(·walk_at "M here");(·walk_at "M I");(·first | with_reducible assumption | (walk_at "I1"; fail_if_success (with_reducible show IsNot _ (Cl.cls _) _);exact IsNot.mk (by kin_no) (by k_is) (by k_is) (by k_is) (by k_is) (by k_is) (by k_is)));k_whole)
 k_with "Zn callWith" => first | ((with_reducible refine' y_blt ?_ ?_ ?_ ?_ ?_);rotate_right 5;(·(walk_at "I1"; rfl));(·(walk_at "I1"; rfl));(·walk_at "M pvl");(·walk_at "M st");k_whole) | ((with_reducible refine' y_typ ?_ ?_ ?_ ?_ ?_);rotate_right 5;(·(walk_at "I1"; rfl));(·(walk_at "I1"; rfl));(·walk_at "M pvl");(·walk_at "M st");k_whole) | ((with_reducible refine' y_blt1 ?_ ?_ ?_);rotate_right 3;(·(walk_at "I1"; rfl));(·(walk_at "I1"; rfl));k_whole) | ((with_reducible refine' y_typ1 ?_ ?_ ?_);rotate_right 3;(·(walk_at "I1"; rfl));(·(walk_at "I1"; rfl));k_whole)
 k_with "Zn callWith ref" => first | ((with_reducible refine' y_callK ?_ ?_ ?_ ?_ ?_ ?_ ?_);rotate_right 7;(·walk_at "M here");(·(walk_at "I1"; k_is));(·(walk_at "I1"; rfl));(·(walk_at "I1"; rfl));(·walk_at "M pvl");(·walk_at "M st");k_whole) | ((with_reducible refine' y_callS ?_ ?_ ?_ ?_ ?_ ?_ ?_);rotate_right 7;(·walk_at "M here");(·(walk_at "I1"; k_is));(·(walk_at "I1"; rfl));(·(walk_at "I1"; rfl));(·walk_at "M pvl");(·walk_at "M st");k_whole) | ((with_reducible refine' y_callK0 ?_ ?_ ?_);rotate_right 3;(·walk_at "M here");(·(walk_at "I1"; k_is));k_whole) | ((with_reducible refine' y_callS0 ?_ ?_ ?_);rotate_right 3;(·walk_at "M here");(·(walk_at "I1"; k_is));k_whole)
 k_with "Zn isTrue Compare" => ((with_reducible refine' y_cmpB ?_ ?_ ?_ ?_ ?_);rotate_right 5;(·with_unfolding_all rfl);(·walk_at "M pv");(·walk_at "M pv");(·walk_at "M st");k_whole)
 k_with "Zn isTrue UnaryOp" => walk_at "M yb"
 k_with "Zn isTrue" => first | walk_at "M yb" | ((with_reducible refine' y_tru ?_ ?_ ?_ ?_);rotate_right 4;(·(walk_at "I2"; rfl));(·walk_at "M pv");(·walk_at "M st");k_whole)
 k_with "Zn isTrue BoolOp" => first | with_reducible refine y_and ?_ | with_reducible refine y_or ?_
 k_with "Zn spliced" => first | ((with_reducible refine' y_pvl ?_ ?_ ?_);rotate_right 3;(·walk_at "M pvl");(·walk_at "M st");k_whole) | ((with_reducible refine' y_args ?_ ?_);rotate_right 2;(·(walk_at "I1"; rfl));k_whole)
 k_with "Zn exec Return some" => first | ((with_reducible refine' y_retP ?_ ?_ ?_);rotate_right 3;(·walk_at "M pv");(·walk_at "M st");k_whole) | with_reducible refine y_retC ?_
 k_with "Zn exec Assign" => first | ((with_reducible refine' y_asgP ?_ ?_ ?_ ?_ ?_ ?_);rotate_right 6;(·with_reducible assumption);(·with_reducible assumption);(·walk_at "M rfl");(·(walk_at "I1"; rfl));(·walk_at "M pv");k_whole;walk_at "I2") | ((with_reducible refine' y_asg ?_ ?_);rotate_right 2;(·(walk_at "I1"; rfl));k_whole)
 k_with "Zn exec If" => (with_reducible refine y_if ?_)
 k_with "Zn execs cons" => first | with_reducible refine y_cons ?_ | ((with_reducible refine' y_in ?_ ?_ ?_ ?_ ?_);rotate_right 5;(·rfl);(·first | with_reducible assumption | k_dflt assumption);(·walk_at "M din");(·walk_at "M uin");k_whole;walk_at "I5"; with_reducible refine y_cons ?_)
 k_with "Zn NextC" => first | with_reducible refine y_next ?_ | with_reducible refine y_ret ?_ | with_reducible refine y_cont ?_ | with_reducible refine y_brk ?_
 k_with "Zn Bnd" => (with_reducible refine y_bnd ?_)
 k_with "Zn ArgC" => (with_reducible refine y_argC ?_)
 k_with "Zn ConsC" => (with_reducible refine y_cons1 ?_)
 k_with "Zn RetC" => (with_reducible refine y_ret2 ?_)
 k_with "Zn AsgC" => first | ((with_reducible refine' y_asg2 ?_ ?_ ?_ ?_);rotate_right 4;(·with_reducible assumption);(·with_reducible assumption);(·walk_at "M rfl");k_whole;walk_at "I2") | with_reducible refine y_asgN ?_
 k_with "Zn AndC" => first | (with_reducible refine y_andD1 (by walk_at "iteC") ?_) | (with_reducible refine y_andD0 (by walk_at "iteC") ?_) | (with_reducible refine y_and1 (by walk_at "iteB") ?_) | (with_reducible refine y_and0 (by walk_at "iteB") ?_) | ((with_reducible refine y_andS ?_ ?_) <;> walk_at "I1") | ((with_reducible refine y_andP rf_d ?_ ?_) <;> walk_at "I1") | ((with_reducible refine y_andP rf_i ?_ ?_) <;> walk_at "I1") | ((with_reducible refine y_andM rf_n ?_ ?_) <;> walk_at "I1") | ((with_reducible refine y_andM rf_ni ?_ ?_) <;> walk_at "I1") | ((with_reducible refine y_andM rf_nd ?_ ?_) <;> walk_at "I1") | ((with_reducible refine y_andB ?_ ?_) <;> walk_at "I1") | ((with_reducible refine y_and2 ?_ ?_) <;> walk_at "I1")
 k_with "Zn OrC" => first | (with_reducible refine y_orD1 (by walk_at "iteC") ?_) | (with_reducible refine y_orD0 (by walk_at "iteC") ?_) | (with_reducible refine y_or1 (by walk_at "iteB") ?_) | (with_reducible refine y_or0 (by walk_at "iteB") ?_) | ((with_reducible refine y_orS ?_ ?_) <;> walk_at "I1") | ((with_reducible refine y_orP rf_d ?_ ?_) <;> walk_at "I1") | ((with_reducible refine y_orP rf_i ?_ ?_) <;> walk_at "I1") | ((with_reducible refine y_orM rf_n ?_ ?_) <;> walk_at "I1") | ((with_reducible refine y_orM rf_ni ?_ ?_) <;> walk_at "I1") | ((with_reducible refine y_orM rf_nd ?_ ?_) <;> walk_at "I1") | ((with_reducible refine y_orB ?_ ?_) <;> walk_at "I1") | ((with_reducible refine y_or2 ?_ ?_) <;> walk_at "I1")
 k_with "Zn IfeC" => first | (with_reducible refine y_ifeD1 (by walk_at "iteC") ?_) | (with_reducible refine y_ifeD0 (by walk_at "iteC") ?_) | (with_reducible refine y_ife1 (by walk_at "iteB") ?_) | (with_reducible refine y_ife0 (by walk_at "iteB") ?_) | ((with_reducible refine y_ifeS ?_ ?_) <;> walk_at "I1") | ((with_reducible refine y_ifeP rf_d ?_ ?_) <;> walk_at "I1") | ((with_reducible refine y_ifeP rf_i ?_ ?_) <;> walk_at "I1") | ((with_reducible refine y_ifeM rf_n ?_ ?_) <;> walk_at "I1") | ((with_reducible refine y_ifeM rf_ni ?_ ?_) <;> walk_at "I1") | ((with_reducible refine y_ifeM rf_nd ?_ ?_) <;> walk_at "I1") | ((with_reducible refine y_ifeB ?_ ?_) <;> walk_at "I1") | ((with_reducible refine y_ife2 ?_ ?_) <;> walk_at "I1")
 k_with "Zn IfC" => first | (with_reducible refine y_yesD (by walk_at "iteC") ?_) | (with_reducible refine y_noD (by walk_at "iteC") ?_) | (with_reducible refine y_yes (by walk_at "iteB") ?_) | (with_reducible refine y_no (by walk_at "iteB") ?_) | ((with_reducible refine y_dec ?_ ?_) <;> walk_at "I1") | (with_reducible refine y_not ?_) | ((with_reducible refine y_ieq ?_ ?_) <;> walk_at "I1") | ((with_reducible refine y_ine ?_ ?_) <;> walk_at "I1") | ((with_reducible refine y_any ?_ ?_) <;> walk_at "I1")
 trivial
local macro_rules | `(tactic| walk_at $s:str) => do let t:=s.getString;if t.startsWith "I" && t.length == 2 then let n:Lean.TSyntax `term:=Lean.mkIdent (.num (.str (.str (.str (.str .anonymous "x") "_@") "Mine") "_hyg") 1);let as:=Array.replicate (t.toList.getLast!.toNat - 48) n;`(tactic| intro $as*) else let k:=Lean.Syntax.mkStrLit ("Zn " ++ t);let z:=Lean.Syntax.mkStrLit ("Z " ++ t);`(tactic| first | k_extra $k | k_extra $z)
theorem words_W2:True:=by
 k_with "Z M enter" => ((case h2 => (with_reducible show (mk.heap_1 _).lookup _ = _);k_is);(case h1 => first | lia | (simp only [depth_under_make,depth_in1];lia));(case h3 => (with_reducible show codeIn (mk.heap_1 _) _ _ = _);k_is);(case h4 => first | exact binds_peek (K:=mk.heap_1 _) (Inv.kinS (by assumption) (by assumption)) (fun zz => by kernel_rfl) | exact binds_peek (K:=mk.heap_1 _) (Inv.kinS (Pre.inv (by assumption)) (Sub.trans (Pre.sub (by assumption)) (Pre.keep (by assumption)))) (fun zz => by kernel_rfl));(case h5 => decide);(case h6 => exact locs rfl);(case h7 => rfl);(case h8 => rfl);(case h9 => rfl))
 k_with "Z M S" => assumption
 k_with "Z M chain" => first | with_reducible exact Grows.refl _ _ | with_reducible assumption | with_reducible exact St.gr (by with_reducible assumption) | ((with_reducible refine' Grows.trans ?_ ?_);rotate_right 2;rotate_left;(·with_reducible assumption);rotate_right;(·walk_at "M chain"))
 k_with "Z M I" => first | with_reducible assumption | ((with_reducible refine' Inst.grows ?_ ?_);rotate_right 2;(·with_reducible assumption);(·walk_at "M chain"))
 k_with "Z M units" => (have hcL9:=cLine_is;(simp only [units_in1,units_deeper] at *);lia)
 k_with "Z M depth" => ((simp only [depth_deeper,depth_in1,depth_under_make] at *);lia)
 k_with "Z eval Name" => k_dflt (first | (refine' n_loc ?_ ?_ ?_ ?_ ?_;rotate_right 5;(·assumption);(·rfl);rotate_left;(·rfl);(·rfl);rotate_right;k_whole) | (refine' n_glob ?_ ?_ ?_ ?_ ?_;rotate_right 5;(·assumption);(·(with_reducible show nsIn (mk.heap_1 _) _ _ = _);k_is);rotate_left;(·rfl);(·rfl);rotate_right;k_whole) | (refine' n_bi ?_ ?_ ?_ ?_ ?_ ?_ ?_;rotate_right 7;(·assumption);(·(with_reducible show nsIn (mk.heap_1 _) _ _ = _);k_is);(·first | with_reducible exact boot_m_isinstance | with_reducible exact boot_NI | with_reducible exact boot_m_len | with_reducible exact boot_m_any | with_reducible exact boot_m_all | with_reducible exact boot_m_enumerate | with_reducible exact boot_m_int | with_reducible exact boot_m_tuple | with_reducible exact boot_m_iter | with_reducible exact boot_m_str | with_reducible exact boot_m_range | with_reducible exact boot_m_zip | with_reducible exact boot_m_abs | with_reducible exact boot_m_ord | with_reducible exact boot_m_list | boot_fast);(·decide);rotate_left;(·rfl);(·rfl);rotate_right;k_whole))
 k_with "Z storeName" => k_dflt (refine' st_loc ?_ ?_ ?_ ?_;rotate_right 4;(·assumption);rotate_left;(·rfl);(·rfl);rotate_right;k_whole;walk_at "I2")
 k_with "Z getAttr ref" => k_dflt (first | (refine' g_own ?_ ?_ ?_ ?_ ?_ ?_ ?_ ?_ ?_ ?_;rotate_right 10;rotate_left;(·assumption);(·walk_at "M I");(·(with_reducible show plainGet (mk.heap_1 _) _ _ = _);k_is);(·(with_reducible show hasDictIn (mk.heap_1 _) _ = _);k_is);(·(with_reducible show findIn (mk.heap_1 _) _ _ = _);k_is);(·(with_reducible show noGet (mk.heap_1 _) _ = _);k_is);(·first | with_reducible assumption | rfl);(·rfl);rotate_right;(·rfl);k_whole) | (refine' g_cls ?_ ?_ ?_ ?_ ?_ ?_ ?_ ?_ ?_ ?_ ?_;rotate_right 11;rotate_left;(·assumption);(·walk_at "M I");(·(with_reducible show plainGet (mk.heap_1 _) _ _ = _);k_is);(·(with_reducible show hasDictIn (mk.heap_1 _) _ = _);k_is);(·(with_reducible show findIn (mk.heap_1 _) _ _ = _);k_is);(·(with_reducible show specialIn (mk.heap_1 _) _ _ = _);k_is);(·rfl);(·decide +kernel);(·rfl);rotate_right;(·rfl);k_whole))
 k_with "Z getMethod ref" => k_dflt ((refine' g_meth ?_ ?_ ?_ ?_ ?_ ?_ ?_ ?_;rotate_right 8;rotate_left;(·assumption);(·walk_at "M I");(·(with_reducible show plainGet (mk.heap_1 _) _ _ = _);k_is);(·(with_reducible show findIn (mk.heap_1 _) _ _ = _);k_is);(·(with_reducible show isFn (mk.heap_1 _) _ = _);k_is);(·rfl);rotate_right;(·rfl);k_whole))
 k_with "Z call builtin:isinstance" => k_dflt (first | (refine' i_yes ?_ ?_ ?_ ?_ ?_;rotate_right 5;rotate_left;(·assumption);(·walk_at "M I");(·(with_reducible show isIn (mk.heap_1 _) _ _ = _);k_is);rotate_right;(·rfl);k_whole) | (refine' i_no ?_ ?_ ?_ ?_ ?_ ?_ ?_ ?_ ?_ ?_ ?_;rotate_right 11;rotate_left;(·assumption);(·walk_at "M I");(·(with_reducible show kin_not (mk.heap_1 _) _ _ = _);kin_no);(·(with_reducible show plainGet (mk.heap_1 _) _ _ = _);k_is);(·(with_reducible show hasDictIn (mk.heap_1 _) _ = _);k_is);(·(with_reducible show findIn (mk.heap_1 _) _ _ = _);k_is);(·(with_reducible show specialIn (mk.heap_1 _) _ _ = _);k_is);(·(with_reducible show takesIn (mk.heap_1 _) _ = _);k_is);(·(with_reducible show mroIn (mk.heap_1 _) _ _ = _);k_is);rotate_right;(·rfl);k_whole))
 k_with "Z M nf" => ((with_reducible show notFirst (mk.heap_1 _) _ _ = _);k_is)
 k_with "Z M fi" => ((with_reducible show findIn (mk.heap_1 _) _ _ = _);k_is)
 k_with "Z M fn" => ((with_reducible show isFn (mk.heap_1 _) _ = _);k_is)
 k_with "Z M sub" => ((with_reducible show subIn (mk.heap_1 _) _ _ = _);k_is)
 k_with "Z M hh" => assumption
 k_with "Z M fact" => first | with_reducible assumption | ((with_reducible refine' IsI.grows ?_ ?_);rotate_right 2;(·with_reducible assumption);(·walk_at "M chain")) | ((with_reducible refine' isTup_grows ?_ ?_);rotate_right 2;(·with_reducible assumption);(·walk_at "M chain")) | ((with_reducible refine' AllI.grows ?_ ?_);rotate_right 2;rotate_left;(·with_reducible assumption);rotate_right;(·walk_at "M chain")) | ((with_reducible refine' IsVer.grows ?_ ?_);rotate_right 2;(·with_reducible assumption);(·walk_at "M chain")) | exact trivial | assumption
 k_with "Z M pre" => first | exact trivial | (refine ⟨?_,?_⟩ <;> walk_at "M pre") | walk_at "M fact"
 k_with "Z M post" => (intro _ _ _ _ _ p';(try dsimp only at p');first | subst p' | (revert p';walk_at "I1"))
 k_with "Z M run" => (k_whole;walk_at "M post")
 k_with "Z compareOp Lt bytes bytes" => refine lt_bytes ?_
 k_with "Z M tup" => first | with_reducible assumption | ((with_reducible refine' isTup_grows ?_ ?_);rotate_right 2;(·with_reducible assumption);(·walk_at "M chain")) | assumption | (refine' isTup_grows ?_ ?_;rotate_right 2;(·assumption);(·walk_at "M chain"))
 k_with "Z M small" => first | decide | (simp only [List.size_toArray];lia) | lia
 k_with "Z eval BoolOp Or" => k_dflt (refine' or_unit ?_ ?_ ?_;rotate_right 3;rotate_left;(·assumption);rotate_right;(·rfl);k_whole)
 k_with "Z OrP" => k_dflt (first | (refine' OrP.tup ?_ ?_ ?_ ?_;rotate_right 4;(·assumption);(·walk_at "M tup");(·walk_at "M small");k_whole;walk_at "I6") | (refine' OrP.unit ?_ ?_;rotate_right 2;(·assumption);k_whole;walk_at "I6"))
 k_with "q0" => first | exact trivial | ((with_reducible show _ ∧ _);refine And.intro ?_ ?_ <;> walk_at "M pre") | walk_at "M fact"
 k_with "Z M pre" => k_extra "q0"
 trivial
section
set_option tactic.hygienic false
variable {γ:Cfg}
local macro_rules | `(tactic| walk_at $s:str) => do let k:=Lean.Syntax.mkStrLit ("Z2 " ++ s.getString);`(tactic| k_extra $k)
noncomputable def i3 (a b c:Addr):Idn → Addr
 | .max => a
 | .num _ => b
 | .alpha _ => c
noncomputable def mEq:Idn → Idn → Value
 | .max,j => .bool (Idn.eqb .max j)
 | .num n, j => match (generalizing := false) j with
   | .num k => .bool (n == k)
   | _ => .notImplemented
 | .alpha n, j => match (generalizing := false) j with
   | .alpha k => .bool (n.toList == k.toList)
   | _ => .notImplemented
theorem IsI.inst {h:Heap} {v:Value} {i:Idn} (z:IsI h v i):∃ x kv,v = .ref x ∧ Inst h x (i3 117 180 243 i) kv:=by
 w_top off
 cases z with
 | max I => exact ⟨_,_,rfl,I⟩
 | num I => exact ⟨_,_,rfl,I⟩
 | alpha I => exact ⟨_,_,rfl,I⟩
theorem i3_nf (w:Params) (i j:Idn):notFirst (mk.heap_1 w) (i3 117 180 243 i) (.ref (i3 117 180 243 j)) = true:=by
 cases i <;> cases j <;> (dsimp only [i3];k_is)
theorem i3_ne (w:Params) (i:Idn):findIn (mk.heap_1 w) (.ref (i3 117 180 243 i)) "__ne__" = some (some (.builtin "object.__ne__")):=by
 cases i <;> (dsimp only [i3];k_is)
theorem i3_ob (w:Params) (i:Idn):subIn (mk.heap_1 w) (.ref (i3 117 180 243 i)) (.type "object") = some true:=by
 cases i <;> (dsimp only [i3];k_is)
theorem i3_P {h h':Heap} {t:List Addr} {x y C D:Addr} {kv kv':List (Str × Value)} {i j:Idn} (g:Grows t h h') (z:(IsI h (.ref x) i ∧ IsI h (.ref y) j) ∧ Inst h x C kv ∧ Inst h y D kv'):(IsI h' (.ref x) i ∧ IsI h' (.ref y) j) ∧ Inst h' x C kv ∧ Inst h' y D kv' :=
 ⟨⟨z.1.1.grows g,z.1.2.grows g⟩,z.2.1.grows g,z.2.2.grows g⟩
theorem mEq_eq (i j:Idn):(niNone (mEq i j) = some (.bool (i.eqb j))) ∨ (niNone (mEq i j) = none ∧ niNone (mEq j i) = some (.bool (i.eqb j))) ∨ (niNone (mEq i j) = none ∧ niNone (mEq j i) = none ∧ CmpOp.Eq = .Eq ∧ i3 117 180 243 i ≠ i3 117 180 243 j ∧ Value.bool (i.eqb j) = .bool false):=by
 cases i <;> cases j <;> first | exact .inl rfl | exact .inr (.inl ⟨rfl,rfl⟩) | exact .inr (.inr ⟨rfl,rfl,rfl,Nat.ne_of_beq_eq_false rfl,rfl⟩)
theorem mEq_ne (i j:Idn):(∃ b,mEq i j = .bool b ∧ Value.bool (!i.eqb j) = .bool (!b)) ∨ (mEq i j = .notImplemented ∧ ∃ b,mEq j i = .bool b ∧ Value.bool (!i.eqb j) = .bool (!b)) ∨ (mEq i j = .notImplemented ∧ mEq j i = .notImplemented ∧ i3 117 180 243 i ≠ i3 117 180 243 j ∧ Value.bool (!i.eqb j) = .bool true):=by
 cases i <;> cases j <;> first | exact .inl ⟨_,rfl,rfl⟩ | exact .inr (.inl ⟨rfl,_,rfl,rfl⟩) | exact .inr (.inr ⟨rfl,rfl,Nat.ne_of_beq_eq_false rfl,rfl⟩)
theorem id_two {op:CmpOp} {f f':Idn → Addr} {v1:Idn → Idn → Value} {b:Idn → Idn → Bool} {nd nu:Nat} (h1:∀ w i,findIn (mk.heap_1 w) (.ref (i3 117 180 243 i)) (cmpInfo op).2.1 = some (some (.ref (f i))) ∧ isFn (mk.heap_1 w) (.ref (f i)) = true)
   (h2:∀ w i,findIn (mk.heap_1 w) (.ref (i3 117 180 243 i)) (cmpInfo op).2.2 = some (some (.ref (f' i))) ∧ isFn (mk.heap_1 w) (.ref (f' i)) = true)
   (R1:∀ v u i j,Runs (gg γ) (call (.ref (f i)) [v,u]) nd nu (fun fz => IsI fz v i ∧ IsI fz u j) (fun zz r => r = v1 i j))
   (R2:∀ v u i j,niNone (v1 j i) = none → Runs (gg γ) (call (.ref (f' i)) [v,u]) nd nu (fun fz => IsI fz v i ∧ IsI fz u j) (fun zz r => r = v1 i j))
   (hv:∀ i j,(niNone (v1 i j) = some (.bool (b i j))) ∨ (niNone (v1 i j) = none ∧ niNone (v1 j i) = some (.bool (b i j))) ∨ (niNone (v1 i j) = none ∧ niNone (v1 j i) = none ∧ op = .Eq ∧ i3 117 180 243 i ≠ i3 117 180 243 j ∧ Value.bool (b i j) = .bool false))
   (v u:Value) (i j:Idn):Runs (gg γ) (richCompare op v u) nd (nu + 1) (fun fz => IsI fz v i ∧ IsI fz u j) (fun zz r => r = .bool (b i j)):=by
 intro A s fz Q E hh hd hu sub inv bare pre k
 obtain ⟨x,kv,rfl,I⟩:=pre.1.inst
 obtain ⟨y,kv',rfl,J⟩:=pre.2.inst
 exact rc_runs (g:=gg γ) (i3_nf _ i j) (h1 _ i).1 (h1 _ i).2 (h2 _ j).1 (h2 _ j).2
   ((R1 _ _ i j).mono (Nat.le_refl _) (Nat.le_refl _) (fun zz z => z.1) fun zz zz z => z) (fun e => (R2 _ _ j i e).mono (Nat.le_refl _) (Nat.le_refl _) (fun zz z => ⟨z.1.2,z.1.1⟩) fun zz zz z => z)
   (fun zz zz => i3_P) (fun zz z => z.2) (hv i j) A s fz Q E hh hd hu sub inv bare ⟨pre,I,J⟩ k
theorem i3_eq (w:Params) (i:Idn):findIn (mk.heap_1 w) (.ref (i3 117 180 243 i)) "__eq__" = some (some (.ref (i3 86 149 212 i))) ∧ isFn (mk.heap_1 w) (.ref (i3 86 149 212 i)) = true:=by
 cases i <;> (dsimp only [i3];exact ⟨by k_is,by k_is⟩)
theorem i3_lt (w:Params) (i:Idn):findIn (mk.heap_1 w) (.ref (i3 117 180 243 i)) "__lt__" = some (some (.ref (i3 93 156 219 i))) ∧ isFn (mk.heap_1 w) (.ref (i3 93 156 219 i)) = true:=by
 cases i <;> (dsimp only [i3];exact ⟨by k_is,by k_is⟩)
theorem i3_gt (w:Params) (i:Idn):findIn (mk.heap_1 w) (.ref (i3 117 180 243 i)) "__gt__" = some (some (.ref (i3 107 163 226 i))) ∧ isFn (mk.heap_1 w) (.ref (i3 107 163 226 i)) = true:=by
 cases i <;> (dsimp only [i3];exact ⟨by k_is,by k_is⟩)
theorem i3_le (w:Params) (i:Idn):findIn (mk.heap_1 w) (.ref (i3 117 180 243 i)) "__le__" = some (some (.ref (i3 100 170 233 i))) ∧ isFn (mk.heap_1 w) (.ref (i3 100 170 233 i)) = true:=by
 cases i <;> (dsimp only [i3];exact ⟨by k_is,by k_is⟩)
theorem i3_ge (w:Params) (i:Idn):findIn (mk.heap_1 w) (.ref (i3 117 180 243 i)) "__ge__" = some (some (.ref (i3 114 177 240 i))) ∧ isFn (mk.heap_1 w) (.ref (i3 114 177 240 i)) = true:=by
 cases i <;> (dsimp only [i3];exact ⟨by k_is,by k_is⟩)
theorem max_eq (v u:Value) (j:Idn):Runs (gg γ) (call (.ref 86) [v,u]) 1 10 (fun fz => IsI fz v .max ∧ IsI fz u j) (fun zz r => r = mEq .max j):=by
 intro A s fz Q E hh hd hu sub inv bare pre k
 obtain ⟨hv,hj⟩:=pre
 refine' wpAny_call (enter [("other", u),("self", v)] ?h1 sub inv bare ?h2 ?h3 ?h4 ?h5 ?h6 ?h7 ?h8 ?h9 ?h10)
 walk_at "M enter"
 case h10 =>
   intro s₁ L S
   cases hv
   cases hj <;> repeat' walk1
   all_goals ((try dsimp only);exact k _ _ _ (St.aft (by assumption)) rfl)
theorem num_eq (v u:Value) (n:Int) (j:Idn):Runs (gg γ) (call (.ref 149) [v,u]) 1 10 (fun fz => IsI fz v (.num n) ∧ IsI fz u j) (fun zz r => r = mEq (.num n) j):=by
 intro A s fz Q E hh hd hu sub inv bare pre k
 obtain ⟨hv,hj⟩:=pre
 refine' wpAny_call (enter [("other", u),("self", v)] ?h1 sub inv bare ?h2 ?h3 ?h4 ?h5 ?h6 ?h7 ?h8 ?h9 ?h10)
 walk_at "M enter"
 case h10 =>
   intro s₁ L S
   cases hv
   cases hj <;> repeat' walk1
   all_goals ((try dsimp only);exact k _ _ _ (St.aft (by assumption)) rfl)
theorem alpha_eq (v u:Value) (n:Array UInt8) (j:Idn):Runs (gg γ) (call (.ref 212) [v,u]) 1 10 (fun fz => IsI fz v (.alpha n) ∧ IsI fz u j) (fun zz r => r = mEq (.alpha n) j):=by
 intro A s fz Q E hh hd hu sub inv bare pre k
 obtain ⟨hv,hj⟩:=pre
 refine' wpAny_call (enter [("other", u),("self", v)] ?h1 sub inv bare ?h2 ?h3 ?h4 ?h5 ?h6 ?h7 ?h8 ?h9 ?h10)
 walk_at "M enter"
 case h10 =>
   intro s₁ L S
   cases hv
   cases hj <;> repeat' walk1
   all_goals ((try dsimp only);exact k _ _ _ (St.aft (by assumption)) rfl)
theorem eq_fn (v u:Value) (i j:Idn):Runs (gg γ) (call (.ref (i3 86 149 212 i)) [v,u]) 1 10 (fun fz => IsI fz v i ∧ IsI fz u j) (fun zz r => r = mEq i j):=by
 cases i with
 | max => exact max_eq _ _ _
 | num => exact num_eq _ _ _ _
 | alpha => exact alpha_eq _ _ _ _
theorem id_eq (v u:Value) (i j:Idn):Runs (gg γ) (richCompare .Eq v u) 1 11 (fun fz => IsI fz v i ∧ IsI fz u j) (fun zz r => r = .bool (i.eqb j)) :=
 id_two (op:=.Eq) i3_eq i3_eq eq_fn (fun v u i j zz => eq_fn v u i j) mEq_eq v u i j
theorem id_ne (v u:Value) (i j:Idn):Runs (gg γ) (richCompare .NotEq v u) 1 12 (fun fz => IsI fz v i ∧ IsI fz u j) (fun zz r => r = .bool (!i.eqb j)):=by
 intro A s fz Q E hh hd hu sub inv bare pre k
 obtain ⟨x,kv,rfl,I⟩:=pre.1.inst
 obtain ⟨y,kv',rfl,J⟩:=pre.2.inst
 exact ne_runs (g:=gg γ) (i3_nf _ i j) (i3_ne _ i) (i3_ob _ i) (i3_eq _ i).1 (i3_eq _ i).2 (i3_ne _ j) (i3_ob _ j) (i3_eq _ j).1 (i3_eq _ j).2
   ((eq_fn _ _ i j).mono (Nat.le_refl _) (Nat.le_refl _) (fun zz z => z.1) fun zz zz z => z) (fun zz => (eq_fn _ _ j i).mono (Nat.le_refl _) (Nat.le_refl _) (fun zz z => ⟨z.1.2,z.1.1⟩) fun zz zz z => z)
   (fun zz zz => i3_P) (fun zz z => z.2) (mEq_ne i j) A s fz Q E hh hd hu sub inv bare ⟨pre,I,J⟩ k
theorem max_lt (v u:Value) (j:Idn):Runs (gg γ) (call (.ref 93) [v,u]) 1 10 (fun fz => IsI fz v .max ∧ IsI fz u j) (fun zz r => r = .bool (Idn.ltb .max j)):=by
 intro A s fz Q E hh hd hu sub inv bare pre k
 obtain ⟨hv,hj⟩:=pre
 refine' wpAny_call (enter [("other", u),("self", v)] ?h1 sub inv bare ?h2 ?h3 ?h4 ?h5 ?h6 ?h7 ?h8 ?h9 ?h10)
 walk_at "M enter"
 case h10 =>
   intro s₁ L S
   cases hv
   cases hj <;> repeat' walk1
   all_goals ((try dsimp only);exact k _ _ _ (St.aft (by assumption)) rfl)
theorem num_lt (v u:Value) (n:Int) (j:Idn):Runs (gg γ) (call (.ref 156) [v,u]) 1 10 (fun fz => IsI fz v (.num n) ∧ IsI fz u j) (fun zz r => r = .bool (Idn.ltb (.num n) j)):=by
 intro A s fz Q E hh hd hu sub inv bare pre k
 obtain ⟨hv,hj⟩:=pre
 refine' wpAny_call (enter [("other", u),("self", v)] ?h1 sub inv bare ?h2 ?h3 ?h4 ?h5 ?h6 ?h7 ?h8 ?h9 ?h10)
 walk_at "M enter"
 case h10 =>
   intro s₁ L S
   cases hv
   cases hj <;> repeat' walk1
   all_goals ((try dsimp only);exact k _ _ _ (St.aft (by assumption)) rfl)
theorem alpha_lt (v u:Value) (n:Array UInt8) (j:Idn):Runs (gg γ) (call (.ref 219) [v,u]) 1 10 (fun fz => IsI fz v (.alpha n) ∧ IsI fz u j) (fun zz r => r = .bool (Idn.ltb (.alpha n) j)):=by
 intro A s fz Q E hh hd hu sub inv bare pre k
 obtain ⟨hv,hj⟩:=pre
 refine' wpAny_call (enter [("other", u),("self", v)] ?h1 sub inv bare ?h2 ?h3 ?h4 ?h5 ?h6 ?h7 ?h8 ?h9 ?h10)
 walk_at "M enter"
 case h10 =>
   intro s₁ L S
   cases hv
   cases hj <;> repeat' walk1
   all_goals ((try dsimp only);exact k _ _ _ (St.aft (by assumption)) rfl)
theorem lt_fn (v u:Value) (i j:Idn):Runs (gg γ) (call (.ref (i3 93 156 219 i)) [v,u]) 1 10 (fun fz => IsI fz v i ∧ IsI fz u j) (fun zz r => r = .bool (Idn.ltb i j)):=by
 cases i with
 | max => exact max_lt _ _ _
 | num => exact num_lt _ _ _ _
 | alpha => exact alpha_lt _ _ _ _
theorem id_lt (v u:Value) (i j:Idn):Runs (gg γ) (richCompare .Lt v u) 1 11 (fun fz => IsI fz v i ∧ IsI fz u j) (fun zz r => r = .bool (i.ltb j)) :=
 id_two (op:=.Lt) (v1:=fun i j => .bool (i.ltb j)) i3_lt i3_gt lt_fn (fun zz zz zz zz q => nomatch q) (fun zz zz => .inl rfl) v u i j
theorem words_W2_1:True:=by
 k_with "Z2 compareOp Eq" => k_dflt (refine' cmp_ofEq ?_;with_reducible refine' St.run (g:=gg _) (by k_dflt (assumption)) (by k_dflt (rfl)) (id_eq _ _ _ _) (by k_dflt (walk_at "M hh")) (by k_dflt (walk_at "M depth")) (by k_dflt (walk_at "M units")) (by k_dflt (walk_at "M pre")) ?_;walk_at "M run")
 k_with "Z2 compareOp NotEq" => k_dflt (refine' cmp_ofNotEq ?_;with_reducible refine' St.run (g:=gg _) (by k_dflt (assumption)) (by k_dflt (rfl)) (id_ne _ _ _ _) (by k_dflt (walk_at "M hh")) (by k_dflt (walk_at "M depth")) (by k_dflt (walk_at "M units")) (by k_dflt (walk_at "M pre")) ?_;walk_at "M run")
 k_with "Z2 compareOp Lt" => k_dflt (refine' cmp_ofLt ?_;with_reducible refine' St.run (g:=gg _) (by k_dflt (assumption)) (by k_dflt (rfl)) (id_lt _ _ _ _) (by k_dflt (walk_at "M hh")) (by k_dflt (walk_at "M depth")) (by k_dflt (walk_at "M units")) (by k_dflt (walk_at "M pre")) ?_;walk_at "M run")
 trivial
theorem max_gt (v u:Value) (j:Idn):Runs (gg γ) (call (.ref 107) [v,u]) 2 20 (fun fz => IsI fz v .max ∧ IsI fz u j) (fun zz r => r = .bool (!Idn.ltb .max j && !Idn.eqb .max j)):=by
 intro A s fz Q E hh hd hu sub inv bare pre k
 obtain ⟨hv,hj⟩:=pre
 refine' wpAny_call (enter [("other", u),("self", v)] ?h1 sub inv bare ?h2 ?h3 ?h4 ?h5 ?h6 ?h7 ?h8 ?h9 ?h10)
 walk_at "M enter"
 case h10 =>
   intro s₁ L S
   cases hv
   cases hj <;> repeat' walk1
   all_goals ((try dsimp only);exact k _ _ _ (St.aft (by assumption)) rfl)
theorem num_gt (v u:Value) (n:Int) (j:Idn):Runs (gg γ) (call (.ref 163) [v,u]) 2 20 (fun fz => IsI fz v (.num n) ∧ IsI fz u j) (fun zz r => r = .bool (!Idn.ltb (.num n) j && !Idn.eqb (.num n) j)):=by
 intro A s fz Q E hh hd hu sub inv bare pre k
 obtain ⟨hv,hj⟩:=pre
 refine' wpAny_call (enter [("other", u),("self", v)] ?h1 sub inv bare ?h2 ?h3 ?h4 ?h5 ?h6 ?h7 ?h8 ?h9 ?h10)
 walk_at "M enter"
 case h10 =>
   intro s₁ L S
   repeat' walk1
   all_goals ((try dsimp only);refine k _ _ _ (St.aft (by assumption)) ?_;simp_all)
theorem alpha_gt (v u:Value) (n:Array UInt8) (j:Idn):Runs (gg γ) (call (.ref 226) [v,u]) 2 20 (fun fz => IsI fz v (.alpha n) ∧ IsI fz u j) (fun zz r => r = .bool (!Idn.ltb (.alpha n) j && !Idn.eqb (.alpha n) j)):=by
 intro A s fz Q E hh hd hu sub inv bare pre k
 obtain ⟨hv,hj⟩:=pre
 refine' wpAny_call (enter [("other", u),("self", v)] ?h1 sub inv bare ?h2 ?h3 ?h4 ?h5 ?h6 ?h7 ?h8 ?h9 ?h10)
 walk_at "M enter"
 case h10 =>
   intro s₁ L S
   repeat' walk1
   all_goals ((try dsimp only);refine k _ _ _ (St.aft (by assumption)) ?_;simp_all)
theorem gt_fn (v u:Value) (i j:Idn):Runs (gg γ) (call (.ref (i3 107 163 226 i)) [v,u]) 2 20 (fun fz => IsI fz v i ∧ IsI fz u j) (fun zz r => r = .bool (!Idn.ltb i j && !Idn.eqb i j)):=by
 cases i with
 | max => exact max_gt _ _ _
 | num => exact num_gt _ _ _ _
 | alpha => exact alpha_gt _ _ _ _
theorem id_gt (v u:Value) (i j:Idn):Runs (gg γ) (richCompare .Gt v u) 2 21 (fun fz => IsI fz v i ∧ IsI fz u j) (fun zz r => r = .bool (!Idn.ltb i j && !Idn.eqb i j)) :=
 id_two (op:=.Gt) (v1:=fun i j => .bool (!Idn.ltb i j && !Idn.eqb i j)) i3_gt i3_lt gt_fn (fun zz zz zz zz q => nomatch q) (fun zz zz => .inl rfl) v u i j
theorem max_le (v u:Value) (j:Idn):Runs (gg γ) (call (.ref 100) [v,u]) 2 20 (fun fz => IsI fz v .max ∧ IsI fz u j) (fun zz r => r = .bool (Idn.ltb .max j || Idn.eqb .max j)):=by
 intro A s fz Q E hh hd hu sub inv bare pre k
 obtain ⟨hv,hj⟩:=pre
 refine' wpAny_call (enter [("other", u),("self", v)] ?h1 sub inv bare ?h2 ?h3 ?h4 ?h5 ?h6 ?h7 ?h8 ?h9 ?h10)
 walk_at "M enter"
 case h10 =>
   intro s₁ L S
   cases hv
   cases hj <;> repeat' walk1
   all_goals ((try dsimp only);exact k _ _ _ (St.aft (by assumption)) rfl)
theorem num_le (v u:Value) (n:Int) (j:Idn):Runs (gg γ) (call (.ref 170) [v,u]) 2 20 (fun fz => IsI fz v (.num n) ∧ IsI fz u j) (fun zz r => r = .bool (Idn.ltb (.num n) j || Idn.eqb (.num n) j)):=by
 intro A s fz Q E hh hd hu sub inv bare pre k
 obtain ⟨hv,hj⟩:=pre
 refine' wpAny_call (enter [("other", u),("self", v)] ?h1 sub inv bare ?h2 ?h3 ?h4 ?h5 ?h6 ?h7 ?h8 ?h9 ?h10)
 walk_at "M enter"
 case h10 =>
   intro s₁ L S
   repeat' walk1
   all_goals ((try dsimp only);refine k _ _ _ (St.aft (by assumption)) ?_;simp_all)
theorem alpha_le (v u:Value) (n:Array UInt8) (j:Idn):Runs (gg γ) (call (.ref 233) [v,u]) 2 20 (fun fz => IsI fz v (.alpha n) ∧ IsI fz u j) (fun zz r => r = .bool (Idn.ltb (.alpha n) j || Idn.eqb (.alpha n) j)):=by
 intro A s fz Q E hh hd hu sub inv bare pre k
 obtain ⟨hv,hj⟩:=pre
 refine' wpAny_call (enter [("other", u),("self", v)] ?h1 sub inv bare ?h2 ?h3 ?h4 ?h5 ?h6 ?h7 ?h8 ?h9 ?h10)
 walk_at "M enter"
 case h10 =>
   intro s₁ L S
   repeat' walk1
   all_goals ((try dsimp only);refine k _ _ _ (St.aft (by assumption)) ?_;simp_all)
theorem le_fn (v u:Value) (i j:Idn):Runs (gg γ) (call (.ref (i3 100 170 233 i)) [v,u]) 2 20 (fun fz => IsI fz v i ∧ IsI fz u j) (fun zz r => r = .bool (Idn.ltb i j || Idn.eqb i j)):=by
 cases i with
 | max => exact max_le _ _ _
 | num => exact num_le _ _ _ _
 | alpha => exact alpha_le _ _ _ _
theorem id_le (v u:Value) (i j:Idn):Runs (gg γ) (richCompare .LtE v u) 2 21 (fun fz => IsI fz v i ∧ IsI fz u j) (fun zz r => r = .bool (Idn.ltb i j || Idn.eqb i j)) :=
 id_two (op:=.LtE) (v1:=fun i j => .bool (Idn.ltb i j || Idn.eqb i j)) i3_le i3_ge le_fn (fun zz zz zz zz q => nomatch q) (fun zz zz => .inl rfl) v u i j
theorem max_ge (v u:Value) (j:Idn):Runs (gg γ) (call (.ref 114) [v,u]) 2 20 (fun fz => IsI fz v .max ∧ IsI fz u j) (fun zz r => r = .bool (!Idn.ltb .max j)):=by
 intro A s fz Q E hh hd hu sub inv bare pre k
 obtain ⟨hv,hj⟩:=pre
 refine' wpAny_call (enter [("other", u),("self", v)] ?h1 sub inv bare ?h2 ?h3 ?h4 ?h5 ?h6 ?h7 ?h8 ?h9 ?h10)
 walk_at "M enter"
 case h10 =>
   intro s₁ L S
   cases hv
   cases hj <;> repeat' walk1
   all_goals ((try dsimp only);exact k _ _ _ (St.aft (by assumption)) rfl)
theorem num_ge (v u:Value) (n:Int) (j:Idn):Runs (gg γ) (call (.ref 177) [v,u]) 2 20 (fun fz => IsI fz v (.num n) ∧ IsI fz u j) (fun zz r => r = .bool (!Idn.ltb (.num n) j)):=by
 intro A s fz Q E hh hd hu sub inv bare pre k
 obtain ⟨hv,hj⟩:=pre
 refine' wpAny_call (enter [("other", u),("self", v)] ?h1 sub inv bare ?h2 ?h3 ?h4 ?h5 ?h6 ?h7 ?h8 ?h9 ?h10)
 walk_at "M enter"
 case h10 =>
   intro s₁ L S
   repeat' walk1
   all_goals ((try dsimp only);refine k _ _ _ (St.aft (by assumption)) ?_;simp_all)
theorem alpha_ge (v u:Value) (n:Array UInt8) (j:Idn):Runs (gg γ) (call (.ref 240) [v,u]) 2 20 (fun fz => IsI fz v (.alpha n) ∧ IsI fz u j) (fun zz r => r = .bool (!Idn.ltb (.alpha n) j)):=by
 intro A s fz Q E hh hd hu sub inv bare pre k
 obtain ⟨hv,hj⟩:=pre
 refine' wpAny_call (enter [("other", u),("self", v)] ?h1 sub inv bare ?h2 ?h3 ?h4 ?h5 ?h6 ?h7 ?h8 ?h9 ?h10)
 walk_at "M enter"
 case h10 =>
   intro s₁ L S
   repeat' walk1
   all_goals ((try dsimp only);refine k _ _ _ (St.aft (by assumption)) ?_;simp_all)
theorem ge_fn (v u:Value) (i j:Idn):Runs (gg γ) (call (.ref (i3 114 177 240 i)) [v,u]) 2 20 (fun fz => IsI fz v i ∧ IsI fz u j) (fun zz r => r = .bool (!Idn.ltb i j)):=by
 cases i with
 | max => exact max_ge _ _ _
 | num => exact num_ge _ _ _ _
 | alpha => exact alpha_ge _ _ _ _
theorem id_ge (v u:Value) (i j:Idn):Runs (gg γ) (richCompare .GtE v u) 2 21 (fun fz => IsI fz v i ∧ IsI fz u j) (fun zz r => r = .bool (!Idn.ltb i j)) :=
 id_two (op:=.GtE) (v1:=fun i j => .bool (!Idn.ltb i j)) i3_ge i3_le ge_fn (fun zz zz zz zz q => nomatch q) (fun zz zz => .inl rfl) v u i j
end
section
set_option tactic.hygienic false
variable {γ:Cfg}
theorem ord_lt (i j:Idn):i.ltb j = true → i.eqb j = false:=Idn.lt_ne
theorem id_op {op:CmpOp} (hop:Six op) (v u:Value) (i j:Idn):Runs (gg γ) (richCompare op v u) 2 21 (fun fz => IsI fz v i ∧ IsI fz u j) (fun zz r => r = .bool (opOrd op (i.ord j))):=by
 w_top off
 have e:∀ b c:Bool,(b = true → c = false) → (b,c) = (true,false) ∨ (b,c) = (false,true) ∨ (b,c) = (false,false):=by decide
 have z:=e _ _ (ord_lt i j)
 have o:i.ord j = if i.ltb j then .lt else if i.eqb j then .eq else .gt:=rfl
 rcases hop with rfl | rfl | rfl | rfl | rfl | rfl
 · refine (id_eq v u i j).mono (by lia) (by lia) (fun zz h => h) fun zz r h => h.trans ?_
   rw [o];rcases z with z | z | z <;> (injection z with a b;rw [a,b];rfl)
 · refine (id_ne v u i j).mono (by lia) (by lia) (fun zz h => h) fun zz r h => h.trans ?_
   rw [o];rcases z with z | z | z <;> (injection z with a b;rw [a,b];rfl)
 · refine (id_lt v u i j).mono (by lia) (by lia) (fun zz h => h) fun zz r h => h.trans ?_
   rw [o];rcases z with z | z | z <;> (injection z with a b;rw [a];(try rw [b]);rfl)
 · refine (id_le v u i j).mono (by lia) (by lia) (fun zz h => h) fun zz r h => h.trans ?_
   rw [o];rcases z with z | z | z <;> (injection z with a b;rw [a,b];rfl)
 · refine (id_gt v u i j).mono (by lia) (by lia) (fun zz h => h) fun zz r h => h.trans ?_
   rw [o];rcases z with z | z | z <;> (injection z with a b;rw [a,b];rfl)
 · refine (id_ge v u i j).mono (by lia) (by lia) (fun zz h => h) fun zz r h => h.trans ?_
   rw [o];rcases z with z | z | z <;> (injection z with a b;rw [a];(try rw [b]);rfl)
theorem id_eqBool (v u:Value) (i j:Idn):Runs (gg γ) (eqBool v u) 2 21 (fun fz => IsI fz v i ∧ IsI fz u j) (fun zz r => r = (i.ord j == .eq)):=by
 intro A s fz Q E hh hd hu sub inv bare pre k
 have hx:∃ x,v = .ref x:=by cases pre.1 <;> exact ⟨_,rfl⟩
 have hy:∃ y,u = .ref y:=by cases pre.2 <;> exact ⟨_,rfl⟩
 obtain ⟨x,rfl⟩:=hx
 obtain ⟨y,rfl⟩:=hy
 refine eqBool_ref (b:=i.ord j == .eq) ((id_op (.inl rfl) (.ref x) (.ref y) i j).mono (Nat.le_refl _) (Nat.le_refl _) (fun zz h => h) fun zz zz h => h) (fun h p e => ?_) A s fz Q E hh hd hu sub inv bare pre k
 subst e
 rw [← Idn.eqb_ord,p.1.inj p.2,Idn.eqb_refl]
theorem lexKeys {op:CmpOp} (hop:Six op) {P:Heap → Prop} (m n:Nat) (xs:List Value):∀ (ys:List Value) (ks js:List Idn),(∀ h,P h → AllI h xs ks ∧ AllI h ys js) → xs.length = ks.length → ys.length = js.length → (∃ d,m = d + ks.length ∧ n = d + js.length) →
   Lex (gg γ) op 2 21 P m n xs ys (.bool (opOrd op (ordKeys ks js))):=by
 induction xs with
 | nil =>
   intro ys ks js _ h1 h2 ⟨d,e1,e2⟩
   cases ks with
   | cons => cases h1
   | nil => cases js with
     | nil => subst e1 e2;exact lexN0 hop (ordN_eq _)
     | cons j js => exact lexN0 hop (ordN_lt (by rw [e1,e2];exact Nat.lt_add_of_pos_right (Nat.succ_pos _)))
 | cons x xs ih =>
   intro ys ks js hall h1 h2 ⟨d,e1,e2⟩
   cases ks with
   | nil => cases h1
   | cons k ks => cases ys with
     | nil => cases js with
       | cons => cases h2
       | nil => exact lexNR hop (ordN_gt (by rw [e1,e2];exact Nat.lt_add_of_pos_right (Nat.succ_pos _)))
     | cons y ys => cases js with
       | nil => cases h2
       | cons j js =>
         rw [ordKeys_cons]
         exact lex_step hop ((id_eqBool (γ:=γ) x y k j).mono (Nat.le_refl _) (Nat.le_refl _) (fun h q => ⟨(hall h q).1.1,(hall h q).2.1⟩) fun zz zz h => h)
           ((id_op (γ:=γ) hop x y k j).mono (Nat.le_refl _) (Nat.le_refl _) (fun h q => ⟨(hall h q).1.1,(hall h q).2.1⟩) fun zz zz h => h)
           (ih ys ks js (fun h q => ⟨(hall h q).1.2,(hall h q).2.2⟩) (Nat.succ.inj h1) (Nat.succ.inj h2) ⟨d + 1,by rw [e1,List.length_cons];lia,by rw [e2,List.length_cons];lia⟩)
theorem keys_op {op:CmpOp} (hop:Six op) (k k':Addr) (xs ys:List Value) (ks js:List Idn):Runs (gg γ) (richCompare op (.ref k) (.ref k')) 2 22 (fun h => (IsTup h k xs.toArray ∧ AllI h xs ks) ∧ (IsTup h k' ys.toArray ∧ AllI h ys js)) (fun zz r => r = .bool (opOrd op (ordKeys ks js))):=by
 intro A s fz Q E hh hd hu sub inv bare pre kt
 exact tup_runs (r0:=.bool (opOrd op (ordKeys ks js))) (P:=fun h => (IsTup h k xs.toArray ∧ AllI h xs ks) ∧ (IsTup h k' ys.toArray ∧ AllI h ys js)) hop (fun h h' q z => ⟨⟨isTup_grows z.1.1 q,z.1.2.grows q⟩,isTup_grows z.2.1 q,z.2.2.grows q⟩) (fun h z => ⟨z.1.1,z.2.1⟩)
   (lexKeys hop _ _ xs ys ks js (fun h z => ⟨z.1.2,z.2.2⟩) pre.1.2.length pre.2.2.length ⟨0,by rw [pre.1.2.length];lia,by rw [pre.2.2.length];lia⟩) (fun e => nomatch e) A s fz Q E hh hd hu sub inv bare pre kt
theorem keys_eqBool (k k':Addr) (xs ys:List Value) (ks js:List Idn):Runs (gg γ) (eqBool (.ref k) (.ref k')) 2 22 (fun h => (IsTup h k xs.toArray ∧ AllI h xs ks) ∧ (IsTup h k' ys.toArray ∧ AllI h ys js)) (fun zz r => r = (ordKeys ks js == .eq)):=by
 refine eqBool_ref (keys_op (op:=.Eq) (.inl rfl) k k' xs ys ks js) fun h q e => ?_
 subst e
 have e1:=IsTup.inj q.1.1 q.2.1
 subst e1
 rw [q.1.2.inj q.2.2,ordKeys_refl];rfl
theorem prec_op {op:CmpOp} (hop:Six op) (k k' kk kk':Addr) (xs ys:List Value) (V U:Ver) (t1 t2 t3 u1 u2 u3:Tok):Runs (gg γ) (richCompare op (.ref k) (.ref k')) 2 23
   (fun h => (IsTup h k #[.int V.ma t1,.int V.mi t2,.int V.pa t3,.ref kk] ∧ IsTup h k' #[.int U.ma u1,.int U.mi u2,.int U.pa u3,.ref kk']) ∧ (IsTup h kk xs.toArray ∧ AllI h xs V.key) ∧ (IsTup h kk' ys.toArray ∧ AllI h ys U.key)) (fun zz r => r = .bool (opOrd op (V.ord U))):=by
 refine tup_runs (r0:=.bool (opOrd op (V.ord U))) (xs:=[.int V.ma t1,.int V.mi t2,.int V.pa t3,.ref kk]) (ys:=[.int U.ma u1,.int U.mi u2,.int U.pa u3,.ref kk']) hop
   (fun h h' q z => ⟨⟨isTup_grows z.1.1 q,isTup_grows z.1.2 q⟩,⟨isTup_grows z.2.1.1 q,z.2.1.2.grows q⟩,isTup_grows z.2.2.1 q,z.2.2.2.grows q⟩) (fun h z => z.1) ?_ (fun e => nomatch e)
 unfold Ver.ord
 refine lex_step hop (int_eqBool _ _ _ _) (int_op hop _ _ _ _) ?_
 refine lex_step hop (int_eqBool _ _ _ _) (int_op hop _ _ _ _) ?_
 refine lex_step hop (int_eqBool _ _ _ _) (int_op hop _ _ _ _) ?_
 refine lex_step hop ?_ ?_ (lex_end hop)
 · exact (keys_eqBool kk kk' xs ys V.key U.key).mono (Nat.le_refl _) (Nat.le_refl _) (fun h z => z.2) fun zz zz h => h
 · exact (keys_op hop kk kk' xs ys V.key U.key).mono (Nat.le_refl _) (Nat.le_refl _) (fun h z => z.2) fun zz zz h => h
end
section
set_option tactic.hygienic false
variable {γ:Cfg}
local macro_rules | `(tactic| walk_at $s:str) => do let k:=Lean.Syntax.mkStrLit ("Z4 " ++ s.getString);`(tactic| k_extra $k)
local macro_rules | `(tactic| walk_at "0") => `(tactic| skip)
theorem words_W4_2:True:=by
 w_top off
 k_with "Z4 compareOp Lt ref ref" => k_dflt (refine' cmp_ofLt ?_;with_reducible refine' St.run (g:=gg _) (by k_dflt (assumption)) (by k_dflt (rfl)) (prec_op (.inr (.inr (.inl rfl))) _ _ _ _ _ _ _ _ _ _ _ _ _ _) (by k_dflt (walk_at "M hh")) (by k_dflt (walk_at "M depth")) (by k_dflt (walk_at "M units")) (by k_dflt (walk_at "M pre")) ?_;walk_at "M run")
 trivial
theorem v_lt (v u:Value) (V U:Ver):Runs (gg γ) (call (.ref 424) [v,u]) 3 30 (fun fz => IsVer fz v V ∧ IsVer fz u U) (fun zz r => r = .bool (opOrd .Lt (V.ord U))):=by
 intro A s fz Q E hh hd hu sub inv bare pre k
 obtain ⟨⟨x,tp,tb,k1,k2,kk,t1,t2,t3,t4,t5,t6,ps,ks,rfl,I,I2,I3,I4,I5,I6,I7,I8⟩,⟨y,up,ub,j1,j2,jj,u1,u2,u3,u4,u5,u6,qs,js,rfl,J,J2,J3,J4,J5,J6,J7,J8⟩⟩:=And.intro pre.1.is pre.2.is
 refine' wpAny_call (enter [("other", .ref y),("self", .ref x)] ?h1 sub inv bare ?h2 ?h3 ?h4 ?h5 ?h6 ?h7 ?h8 ?h9 ?h10)
 walk_at "M enter"
 case h10 =>
   intro s₁ L S
   repeat' walk1
   all_goals ((try dsimp only);exact k _ _ _ (St.aft (by assumption)) rfl)
theorem words_W4_3:True:=by
 k_with "Z4 compareOp LtE ref ref" => k_dflt (refine' cmp_ofLtE ?_;with_reducible refine' St.run (g:=gg _) (by k_dflt (assumption)) (by k_dflt (rfl)) (prec_op (.inr (.inr (.inr (.inl rfl)))) _ _ _ _ _ _ _ _ _ _ _ _ _ _) (by k_dflt (walk_at "M hh")) (by k_dflt (walk_at "M depth")) (by k_dflt (walk_at "M units")) (by k_dflt (walk_at "M pre")) ?_;walk_at "M run")
 trivial
theorem v_le (v u:Value) (V U:Ver):Runs (gg γ) (call (.ref 431) [v,u]) 3 30 (fun fz => IsVer fz v V ∧ IsVer fz u U) (fun zz r => r = .bool (opOrd .LtE (V.ord U))):=by
 intro A s fz Q E hh hd hu sub inv bare pre k
 obtain ⟨⟨x,tp,tb,k1,k2,kk,t1,t2,t3,t4,t5,t6,ps,ks,rfl,I,I2,I3,I4,I5,I6,I7,I8⟩,⟨y,up,ub,j1,j2,jj,u1,u2,u3,u4,u5,u6,qs,js,rfl,J,J2,J3,J4,J5,J6,J7,J8⟩⟩:=And.intro pre.1.is pre.2.is
 refine' wpAny_call (enter [("other", .ref y),("self", .ref x)] ?h1 sub inv bare ?h2 ?h3 ?h4 ?h5 ?h6 ?h7 ?h8 ?h9 ?h10)
 walk_at "M enter"
 case h10 =>
   intro s₁ L S
   repeat' walk1
   all_goals ((try dsimp only);exact k _ _ _ (St.aft (by assumption)) rfl)
theorem words_W4_4:True:=by
 k_with "Z4 compareOp Gt ref ref" => k_dflt (refine' cmp_ofGt ?_;with_reducible refine' St.run (g:=gg _) (by k_dflt (assumption)) (by k_dflt (rfl)) (prec_op (.inr (.inr (.inr (.inr (.inl rfl))))) _ _ _ _ _ _ _ _ _ _ _ _ _ _) (by k_dflt (walk_at "M hh")) (by k_dflt (walk_at "M depth")) (by k_dflt (walk_at "M units")) (by k_dflt (walk_at "M pre")) ?_;walk_at "M run")
 trivial
theorem v_gt (v u:Value) (V U:Ver):Runs (gg γ) (call (.ref 438) [v,u]) 3 30 (fun fz => IsVer fz v V ∧ IsVer fz u U) (fun zz r => r = .bool (opOrd .Gt (V.ord U))):=by
 intro A s fz Q E hh hd hu sub inv bare pre k
 obtain ⟨⟨x,tp,tb,k1,k2,kk,t1,t2,t3,t4,t5,t6,ps,ks,rfl,I,I2,I3,I4,I5,I6,I7,I8⟩,⟨y,up,ub,j1,j2,jj,u1,u2,u3,u4,u5,u6,qs,js,rfl,J,J2,J3,J4,J5,J6,J7,J8⟩⟩:=And.intro pre.1.is pre.2.is
 refine' wpAny_call (enter [("other", .ref y),("self", .ref x)] ?h1 sub inv bare ?h2 ?h3 ?h4 ?h5 ?h6 ?h7 ?h8 ?h9 ?h10)
 walk_at "M enter"
 case h10 =>
   intro s₁ L S
   repeat' walk1
   all_goals ((try dsimp only);exact k _ _ _ (St.aft (by assumption)) rfl)
theorem words_W4_5:True:=by
 k_with "Z4 compareOp GtE ref ref" => k_dflt (refine' cmp_ofGtE ?_;with_reducible refine' St.run (g:=gg _) (by k_dflt (assumption)) (by k_dflt (rfl)) (prec_op (.inr (.inr (.inr (.inr (.inr rfl))))) _ _ _ _ _ _ _ _ _ _ _ _ _ _) (by k_dflt (walk_at "M hh")) (by k_dflt (walk_at "M depth")) (by k_dflt (walk_at "M units")) (by k_dflt (walk_at "M pre")) ?_;walk_at "M run")
 trivial
theorem v_ge (v u:Value) (V U:Ver):Runs (gg γ) (call (.ref 445) [v,u]) 3 30 (fun fz => IsVer fz v V ∧ IsVer fz u U) (fun zz r => r = .bool (opOrd .GtE (V.ord U))):=by
 intro A s fz Q E hh hd hu sub inv bare pre k
 obtain ⟨⟨x,tp,tb,k1,k2,kk,t1,t2,t3,t4,t5,t6,ps,ks,rfl,I,I2,I3,I4,I5,I6,I7,I8⟩,⟨y,up,ub,j1,j2,jj,u1,u2,u3,u4,u5,u6,qs,js,rfl,J,J2,J3,J4,J5,J6,J7,J8⟩⟩:=And.intro pre.1.is pre.2.is
 refine' wpAny_call (enter [("other", .ref y),("self", .ref x)] ?h1 sub inv bare ?h2 ?h3 ?h4 ?h5 ?h6 ?h7 ?h8 ?h9 ?h10)
 walk_at "M enter"
 case h10 =>
   intro s₁ L S
   repeat' walk1
   all_goals ((try dsimp only);exact k _ _ _ (St.aft (by assumption)) rfl)
end
section
set_option tactic.hygienic false
variable {γ:Cfg}
local macro_rules | `(tactic| walk_at $s:str) => do let k:=Lean.Syntax.mkStrLit ("Z5 " ++ s.getString);`(tactic| k_extra $k)
local macro_rules | `(tactic| walk_at "0") => `(tactic| skip)
local macro_rules | `(tactic| walk_at "0") => `(tactic| skip)
theorem words_W5_6:True:=by
 w_top off
 k_with "Z5 compareOp Eq ref ref" => k_dflt (refine' cmp_ofEq ?_;first | (with_reducible refine' St.run (g:=gg _) (by k_dflt (assumption)) (by k_dflt (rfl)) (strs_eq _ _ _ _ _ _) (by k_dflt (walk_at "M hh")) (by k_dflt (walk_at "M depth")) (by k_dflt (walk_at "M units")) (by k_dflt (walk_at "M pre")) ?_;walk_at "M run") | (with_reducible refine' St.run (g:=gg _) (by k_dflt (assumption)) (by k_dflt (rfl)) (strs_eq _ _ [] [] [] []) (by k_dflt (walk_at "M hh")) (by k_dflt (walk_at "M depth")) (by k_dflt (walk_at "M units")) (by k_dflt (walk_at "M pre")) ?_;walk_at "M run"))
 trivial
theorem v_eq (v u:Value) (V U:Ver):Runs (gg γ) (call (.ref 410) [v,u]) 3 30 (fun fz => IsVer fz v V ∧ IsVer fz u U) (fun zz r => r = .bool (V.ma == U.ma && (V.mi == U.mi && (V.pa == U.pa && decide (V.pre = U.pre))))):=by
 intro A s fz Q E hh hd hu sub inv bare pre k
 obtain ⟨⟨x,tp,tb,k1,k2,kk,t1,t2,t3,t4,t5,t6,ps,ks,rfl,I,I2,I3,I4,I5,I6,I7,I8⟩,⟨y,up,ub,j1,j2,jj,u1,u2,u3,u4,u5,u6,qs,js,rfl,J,J2,J3,J4,J5,J6,J7,J8⟩⟩:=And.intro pre.1.is pre.2.is
 refine' wpAny_call (enter [("other", .ref y),("self", .ref x)] ?h1 sub inv bare ?h2 ?h3 ?h4 ?h5 ?h6 ?h7 ?h8 ?h9 ?h10)
 walk_at "M enter"
 case h10 =>
   intro s₁ L S
   repeat' walk1
   all_goals ((try dsimp only);refine k _ _ _ (St.aft (by assumption)) ?_;simp_all)
end
theorem words_W6:True:=by
 k_with "Z exec Assign" => (with_reducible refine plainObj_wpAny_Assign_Attribute ?_ ?_;rotate_left;with_unfolding_all rfl)
 k_with "Z setAttr ref" => k_dflt (refine' sa_own ?_ ?_ ?_ ?_ ?_ ?_ ?_ ?_ ?_ ?_;rotate_right 10;rotate_left;(·assumption);(·assumption);(·decide);(·walk_at "M fi");(·(with_reducible show plainOver (mk.heap_1 _) _ = _);k_is);(·(with_reducible show takerIn (mk.heap_1 _) _ _ = _);k_is);(·(with_reducible show hasDictIn (mk.heap_1 _) _ = _);k_is);(·(simp only [List.length_cons,List.length_nil];decide));rotate_right;(·rfl);k_whole;intro _ _ _ _ _ e' _;subst e')
 k_with "Z M made" => (refine ⟨rfl,?_⟩;(obtain ⟨_,_,Im,Sm⟩:=St.inst (by assumption) (OwnI.kvs (by assumption))))
 k_with "Z call type:int" => k_dflt (refine' KIN.call_text ?_ ?_ ?_;rotate_right 3;(·assumption);(·assumption);k_whole)
 k_with "Z call builtin:str.encode" => k_dflt (refine' call_encode ?_ ?_ ?_;rotate_right 3;(·assumption);(·assumption);k_whole)
 k_with "Z M mk" => ((with_reducible show makesIn (mk.heap_1 _) _ = _);k_is)
 k_with "Z getMethod str" => with_reducible refine meth_encode ?_
 trivial
section
set_option tactic.hygienic false
variable {γ:Cfg}
theorem kinG {s₀:Shared} {fz₀ h fz:Heap} {gn:Array GenState} {os:OsState} {L:Addr} {l:List (Str × Value)} {mu:List (Addr × Obj)} (S:St (gg γ) s₀ fz₀ h gn os fz L l mu):(mk.heap_1 γ.w.params).In h:=S.inv.kin.keeps S.le
theorem methG {s₀:Shared} {fz₀ h fz:Heap} {gn:Array GenState} {os:OsState} {L q f:Addr} {self:Value} {l:List (Str × Value)} {mu:List (Addr × Obj)} (S:St (gg γ) s₀ fz₀ h gn os fz L l mu) (b:Bound fz q (.ref f) self):MethP (mk.heap_1 γ.w.params) q f self h:=⟨S.le _ _ b,kinG S⟩
theorem mk_maxi:Runs (gg γ) (call (.ref 117) []) 0 0 (fun zz => True) (fun fz r => IsI fz r .max) :=
 (mk_plain (by walk_at "M mk") (by walk_at "M fi")).runs.mono (Nat.le_refl _) (Nat.le_refl _) (fun zz zz => trivial) fun _ _ ⟨_,e,I⟩ => e ▸ .max I
theorem mk_num (x:Str) (t:Tok) (n:Int):RunsK (gg γ) (.ref 180) [.str x t] [] 3 20 (fun zz => PySem.intText? x = some n ∧ x.length ≤ 640) (fun fz r => IsI fz r (.num n)):=by
 w_top off
 intro A s fz R hh hd hu sub inv bare ⟨p1,p2⟩ k
 refine mk_inst sub inv bare (by walk_at "M mk") (by walk_at "M fi") (by walk_at "M fn") fun y dx s' P => ?_
 refine' enterI [("value", .str x t),("self", .ref y)] ?h1 P ?h2 ?h3 ?h4 ?h5 ?h6 ?h7 ?h8 ?h9 ?h10
 walk_at "M enter"
 case h10 =>
   intro s₁ L S
   have O:OwnI [(y,instObj 180 dx),(dx,dictOf [] 0)] y 180 dx [] 0 0 1 []:=⟨rfl,rfl,trivial⟩
   repeat' walk1
   refine ⟨rfl,?_⟩
   obtain ⟨_,_,Im,Sm⟩:=St.inst (by assumption) (OwnI.kvs (by assumption))
   exact k _ _ _ Sm.aft (.num Im)
theorem mk_alpha (x:Str) (t:Tok):RunsK (gg γ) (.ref 243) [.str x t] [] 3 20 (fun zz => (∀ c ∈ x.cps.toList,c < 128) ∧ x.length ≤ sizeLine) (fun fz r => IsI fz r (.alpha (byteOf x))):=by
 intro A s fz R hh hd hu sub inv bare ⟨p1,p2⟩ k
 refine mk_inst sub inv bare (by walk_at "M mk") (by walk_at "M fi") (by walk_at "M fn") fun y dx s' P => ?_
 refine' enterI [("value", .str x t),("self", .ref y)] ?h1 P ?h2 ?h3 ?h4 ?h5 ?h6 ?h7 ?h8 ?h9 ?h10
 walk_at "M enter"
 case h10 =>
   intro s₁ L S
   have O:OwnI [(y,instObj 243 dx),(dx,dictOf [] 0)] y 243 dx [] 0 0 1 []:=⟨rfl,rfl,trivial⟩
   repeat' walk1
   refine ⟨rfl,?_⟩
   obtain ⟨_,_,Im,Sm⟩:=St.inst (by assumption) (OwnI.kvs (by assumption))
   exact k _ _ _ Sm.aft (.alpha Im)
end
theorem words_W7:True:=by
 k_with "Z callWith ref" => k_dflt (first | (refine' callWith_K (K:=mk.heap_1 _) ?_ ?_ ?_;rotate_right 3;(·exact kinG (by assumption));(·(with_reducible show keepIn (mk.heap_1 _) _ = _);k_is);k_whole) | (refine' callWith_K0 (K:=mk.heap_1 _) ?_ ?_ ?_;rotate_right 3;(·exact kinG (by assumption));(·(with_reducible show keepIn (mk.heap_1 _) _ = _);k_is);k_whole;(try dsimp only [List.nil_append,List.cons_append])) | (refine' callWith_KW (K:=mk.heap_1 _) ?_ ?_ ?_ ?_;rotate_right 4;(·exact kinG (by assumption));(·(with_reducible show keepIn (mk.heap_1 _) _ = _);k_is);(·exact rfl);k_whole) | (refine' callWith_KW0 (K:=mk.heap_1 _) ?_ ?_ ?_ ?_;rotate_right 4;(·exact kinG (by assumption));(·(with_reducible show keepIn (mk.heap_1 _) _ = _);k_is);(·exact rfl);k_whole))
 k_with "Z And" => ((with_reducible show Frag.In _ _ ∧ _);refine ⟨kinG (by assumption),?_⟩;try dsimp only [List.nil_append,List.cons_append])
 k_with "Z evalAll" => (first | refine kwAll_cons ?_ | refine kwAll_nil ?_)
 k_with "Z eval Call Attribute" => ((with_reducible show wpAny _ _ (eval (Expr.Call (Expr.Attribute _ _ _) _ (_ :: _) _) _) _ _ _);refine methodCall_KW ?_)
 k_with "Z truthy ref" => k_dflt (first | (refine' truthy_tupC ?_ ?_ ?_ ?_ ?_;rotate_right 5;rotate_left;(·assumption);(·walk_at "M tup");(·lia);rotate_right;(·rfl);k_whole) | (refine' truthy_tup0 ?_ ?_ ?_ ?_;rotate_right 4;rotate_left;(·assumption);(·walk_at "M tup");rotate_right;(·rfl);k_whole))
 k_with "Z eval Name" => ((with_reducible show wpAny _ _ (eval _ (envX _ _ _ _ _ _)) _ _ _);k_dflt (first | (refine' n_loc ?_ ?_ ?_ ?_ ?_;rotate_right 5;(·assumption);(·rfl);rotate_left;(·rfl);(·rfl);rotate_right;k_whole) | (refine' n_glob ?_ ?_ ?_ ?_ ?_;rotate_right 5;(·assumption);(·(with_reducible show nsIn (mk.heap_1 _) _ _ = _);k_is);rotate_left;(·rfl);(·rfl);rotate_right;k_whole) | (refine' n_cellF ?_ ?_ ?_ ?_ ?_ ?_;rotate_right 6;(·assumption);(·rfl);(·walk_at "M cell");rotate_left;(·rfl);(·rfl);rotate_right;k_whole) | (refine' n_bi ?_ ?_ ?_ ?_ ?_ ?_ ?_;rotate_right 7;(·assumption);(·(with_reducible show nsIn (mk.heap_1 _) _ _ = _);k_is);(·first | with_reducible exact boot_m_isinstance | with_reducible exact boot_NI | with_reducible exact boot_m_len | with_reducible exact boot_m_any | with_reducible exact boot_m_all | with_reducible exact boot_m_enumerate | with_reducible exact boot_m_int | with_reducible exact boot_m_tuple | with_reducible exact boot_m_iter | with_reducible exact boot_m_str | with_reducible exact boot_m_range | with_reducible exact boot_m_zip | with_reducible exact boot_m_abs | with_reducible exact boot_m_ord | with_reducible exact boot_m_list | boot_fast);(·decide);rotate_left;(·rfl);(·rfl);rotate_right;k_whole)))
 k_with "Z eval Name" => ((with_reducible show wpAny _ _ (eval _ (envG _ _ _ _ _)) _ _ _);k_dflt (first | (refine' nG_loc ?_ ?_ ?_ ?_ ?_;rotate_right 5;(·assumption);(·rfl);rotate_left;(·rfl);(·rfl);rotate_right;k_whole) | (refine' nG_glob ?_ ?_ ?_ ?_ ?_;rotate_right 5;(·assumption);(·(with_reducible show nsIn (mk.heap_1 _) _ _ = _);k_is);rotate_left;(·rfl);(·rfl);rotate_right;k_whole) | (refine' nG_free ?_ ?_ ?_ ?_ ?_ ?_;rotate_right 6;(·assumption);(·rfl);(·walk_at "M cell");rotate_left;(·rfl);(·rfl);rotate_right;k_whole)))
 trivial
section
set_option tactic.hygienic false
variable {γ:Cfg}
local macro_rules | `(tactic| walk_at $s:str) => do let k:=Lean.Syntax.mkStrLit ("Z7 " ++ s.getString);`(tactic| k_extra $k)
theorem words_W7_7:True:=by
 w_top off
 k_with "q1" => k_dflt (refine' t_new ?_ ?_ ?_;rotate_right 3;(·assumption);(·(have hsl:=sizeLine_eq;simp only [List.length_cons,List.length_nil];lia));k_whole;walk_at "I6")
 k_with "Z7 newTuple" => k_extra "q1"
 k_with "Z7 call ref" => k_dflt (first | (with_reducible refine' St.run (g:=gg _) (by k_dflt (assumption)) (by k_dflt (rfl)) mk_maxi (by k_dflt (walk_at "M hh")) (by k_dflt (walk_at "M depth")) (by k_dflt (walk_at "M units")) (by k_dflt (walk_at "M pre")) ?_;walk_at "M run") | (with_reducible refine' St.run (g:=gg _) (by k_dflt (assumption)) (by k_dflt (rfl)) (RunsK.runs (mk_num _ _ _)) (by k_dflt (walk_at "M hh")) (by k_dflt (walk_at "M depth")) (by k_dflt (walk_at "M units")) (by k_dflt (walk_at "M pre")) ?_;walk_at "M run") | (with_reducible refine' St.run (g:=gg _) (by k_dflt (assumption)) (by k_dflt (rfl)) (RunsK.runs (mk_alpha _ _)) (by k_dflt (walk_at "M hh")) (by k_dflt (walk_at "M depth")) (by k_dflt (walk_at "M units")) (by k_dflt (walk_at "M pre")) ?_;walk_at "M run"))
 k_with "Z7 GenP" => k_dflt (refine' genP_key ?_ ?_ ?_ ?_ ?_;rotate_right 5;(·assumption);(·walk_at "M tup");(·assumption);rotate_left;k_whole;walk_at "I5")
 k_with "Z7 call type:tuple" => k_dflt (refine' tuple_key ?_ ?_ ?_ ?_ ?_ ?_ ?_;rotate_right 7;rotate_left;(·assumption);(·walk_at "M hh");(·walk_at "M depth");(·walk_at "M units");(·(have hsl:=sizeLine_eq;(try simp only [List.length_nil]);lia));rotate_right;(·rfl);k_whole;walk_at "I8")
 k_with "Z7 M J" => first | (refine' St.at0 ?_ ?_;rotate_right 2;rotate_left;(·assumption);rotate_right;(·assumption))
 k_with "Z7 getAttr ref" => k_dflt ((refine' gH_own ?_ ?_ ?_ ?_ ?_ ?_ ?_ ?_ ?_ ?_;rotate_right 10;rotate_left;(·assumption);(·walk_at "M J");(·(with_reducible show plainGet (mk.heap_1 _) _ _ = _);k_is);(·(with_reducible show hasDictIn (mk.heap_1 _) _ = _);k_is);(·(with_reducible show findIn (mk.heap_1 _) _ _ = _);k_is);(·(with_reducible show noGet (mk.heap_1 _) _ = _);k_is);(·assumption);(·rfl);rotate_right;(·rfl);k_whole))
 k_with "Z7 eval GeneratorExp" => k_dflt (refine' gen_make (P:=383) ?_ ?_ ?_ ?_ ?_ ?_ ?_ ?_ ?_ ?_ ?_ ?_ ?_ ?_;rotate_right 14;rotate_left;(·assumption);(·walk_at "M depth");(·rfl);(·(with_reducible show codeHdIn (mk.heap_1 _) _ _ = _);kernel_rfl);(·(show _ ∈ [383,537,556,608,627];decide));(·rfl);(·rfl);(·rfl);(·decide);(·rfl);(·rfl);(·(walk_at "I1"; rfl));rotate_right;(·rfl);k_whole)
 trivial
theorem key_body (q:Str) (ps:List Value) (pre:List Str) (fz:Heap) (hA:AllS ps pre) (hw:WordsOk pre) :
   GenBody (gg γ) (.IfExp (.Call (.Attribute (.Name "part" { line:=272,col:=63,endLine:=272,endCol:=67 }) "isdigit" { line:=272,col:=63,endLine:=272,endCol:=75 }) [] [] { line:=272,col:=63,endLine:=272,endCol:=77 }) (.Call (.Name "NumericIdentifier" { line:=272,col:=36,endLine:=272,endCol:=53 }) [.Name "part" { line:=272,col:=54,endLine:=272,endCol:=58 }] [] { line:=272,col:=36,endLine:=272,endCol:=59 }) (.Call (.Name "AlphaIdentifier" { line:=272,col:=83,endLine:=272,endCol:=98 }) [.Name "part" { line:=272,col:=99,endLine:=272,endCol:=103 }] [] { line:=272,col:=83,endLine:=272,endCol:=104 }) { line:=272,col:=36,endLine:=272,endCol:=104 })
     { kind:=.function,names:=[(".0", .local),("part", .local),("NumericIdentifier", .globalImplicit),("AlphaIdentifier", .globalImplicit)],isGenerator:=true,isCoroutine:=false } [] q "part" 8 60 ps.toArray (keyF pre) fz:=by
 constructor
 intro A s s₀ f f₀ C code it mu i v Q E hh hd hu hv gr S k
 obtain ⟨w',t',rfl,hx⟩:=hA.get (by simpa using hv)
 obtain ⟨o1,o2,o3⟩:=hw w' (List.mem_of_getElem? hx)
 have o4:w'.length ≤ sizeLine:=by have hsl:=sizeLine_eq;lia
 cases hdig:PySem.Txt.isdigit w' with
 | true =>
   have o5:=o3 hdig
   iterate 7 walk1
   rw [hdig]
   repeat' walk1
   refine' k _ _ _ ?gr ?st ?kf
   (case st => assumption)
   (case gr => walk_at "M chain")
   intro y hy
   obtain rfl:=Option.some.inj (hx.symm.trans hy)
   have e:idOf w' = .num ((PySem.intText? w').getD 0):=by unfold idOf;rw [if_pos hdig]
   rw [e]
   assumption
 | false =>
   iterate 7 walk1
   rw [hdig]
   repeat' walk1
   refine' k _ _ _ ?gr2 ?st2 ?kf2
   (case st2 => assumption)
   (case gr2 => walk_at "M chain")
   intro y hy
   obtain rfl:=Option.some.inj (hx.symm.trans hy)
   have e:idOf w' = .alpha (byteOf w'):=by unfold idOf;rw [if_neg (by rw [hdig];decide)]
   rw [e]
   assumption
theorem bk0 (x tp tb:Addr) (kv:List (Str × Value)) (ma mi pa:Int) (t1 t2 t3:Tok) (b:Bool) (A:Around) (s:Shared) (fz:Heap) (R:Result → Shared → Prop)
   (hh:A.handled = none) (hd:A.depth + 20 < recursionLimit) (hu:A.units + 200 < cLine) (sub:Sub fz s.heap) (inv:Inv (gg γ) fz) (bare:AllBare s.gens) (I:Inst s.heap x 448 kv)
   (k1:kv.lookup ("major" : Str) = some (.int ma t1)) (k2:kv.lookup ("minor" : Str) = some (.int mi t2)) (k3:kv.lookup ("patch" : Str) = some (.int pa t3)) (k4:kv.lookup ("prerelease" : Str) = some (.ref tp)) (k5:kv.lookup ("build" : Str) = some (.ref tb))
   (T:IsTup fz tp (([]:List Value).toArray)) (TB:IsTup fz tb #[])
   (k:∀ s' fz' r,Aft (gg γ) s fz s' fz' → (∃ a,r = .ref a) → (b = false → KeyP fz' r ma mi pa t1 t2 t3 [.max]) → R (.ok (.ret r)) s'):codeAny (model (gg γ).prog γ.w) A (.call (.ref 388) ⟨[.ref x],[("with_build", .bool b)]⟩) R s:=by
 refine' enter [("with_build", .bool b),("self", .ref x)] ?h1 sub inv bare ?h2 ?h3 ?h4 ?h5 ?h6 ?h7 ?h8 ?h9 ?h10
 walk_at "M enter"
 case h10 =>
   intro s₁ L S
   have hB:AllS ([]:List Value) ([]:List Str):=trivial
   repeat' walk1
   all_goals first | exact GenBody.nil | skip
   · exact k _ _ _ (St.aft (by assumption)) ⟨_,rfl⟩ fun e => by simp_all
   · refine k _ _ _ (St.aft (by assumption)) ⟨_,rfl⟩ fun zz => ?_
     refine' ⟨_,_,[_],rfl,?x1,?x2,?x3,trivial⟩
     (case x1 => assumption)
     (case x2 => walk_at "M tup")
     (case x3 => walk_at "M fact")
set_option maxHeartbeats 2000000 in
theorem bk1 (x tp tb:Addr) (kv:List (Str × Value)) (ma mi pa:Int) (t1 t2 t3:Tok) (p0:Value) (ps:List Value) (pre:List Str) (b:Bool) (A:Around) (s:Shared) (fz:Heap) (R:Result → Shared → Prop)
   (hh:A.handled = none) (hd:A.depth + 20 < recursionLimit) (hu:A.units + 200 < cLine) (sub:Sub fz s.heap) (inv:Inv (gg γ) fz) (bare:AllBare s.gens) (I:Inst s.heap x 448 kv)
   (k1:kv.lookup ("major" : Str) = some (.int ma t1)) (k2:kv.lookup ("minor" : Str) = some (.int mi t2)) (k3:kv.lookup ("patch" : Str) = some (.int pa t3)) (k4:kv.lookup ("prerelease" : Str) = some (.ref tp)) (k5:kv.lookup ("build" : Str) = some (.ref tb))
   (T:IsTup fz tp ((p0 :: ps).toArray)) (TB:IsTup fz tb #[]) (hA:AllS (p0 :: ps) pre) (hw:WordsOk pre) (hz:pre.length < 1000)
   (k:∀ s' fz' r,Aft (gg γ) s fz s' fz' → (∃ a,r = .ref a) → (b = false → KeyP fz' r ma mi pa t1 t2 t3 (pre.map idOf)) → R (.ok (.ret r)) s'):codeAny (model (gg γ).prog γ.w) A (.call (.ref 388) ⟨[.ref x],[("with_build", .bool b)]⟩) R s:=by
 refine' enter [("with_build", .bool b),("self", .ref x)] ?h1 sub inv bare ?h2 ?h3 ?h4 ?h5 ?h6 ?h7 ?h8 ?h9 ?h10
 walk_at "M enter"
 case h10 =>
   intro s₁ L S
   have hB:AllS ([]:List Value) ([]:List Str):=trivial
   have hl2:ps.length < 1000:=by have:=hA.length;simp only [List.length_cons] at this;lia
   repeat' walk1
   all_goals first | exact GenBody.nil | skip
   · exact k _ _ _ (St.aft (by assumption)) ⟨_,rfl⟩ fun e => by simp_all
   · refine k _ _ _ (St.aft (by assumption)) ⟨_,rfl⟩ fun zz => ?_
     refine' ⟨_,_,_,rfl,?x1,?x2,?x3⟩
     (case x1 => assumption)
     (case x2 => walk_at "M tup")
     (case x3 => walk_at "M fact")
   · exact key_body _ _ _ _ hA hw
end
section
set_option tactic.hygienic false
variable {γ:Cfg}
local macro_rules | `(tactic| walk_at $s:str) => do let k:=Lean.Syntax.mkStrLit ("Z8 " ++ s.getString);`(tactic| k_extra $k)
local macro_rules | `(tactic| walk_at "0") => `(tactic| skip)
theorem words_W8_8:True:=by
 w_top off
 k_with "q2" => k_dflt (refine' truthy_strP ?_ ?_ ?_;rotate_right 3;(·first | assumption | decide);(·first | assumption | decide | lia);k_whole)
 k_with "Z8 truthy str" => k_extra "q2"
 trivial
theorem coerce_str (x:Str) (t:Tok) (n:Int):RunsK (gg γ) (.ref 277) [.ref 448,.str x t,.bool false] [] 2 20 (fun zz => PySem.intText? x = some n ∧ x.length ≤ 640) (fun zz r => ∃ t',r = .int n t'):=by
 intro A s fz R hh hd hu sub inv bare ⟨p1,p2⟩ k
 refine' enter [("allow_none", .bool false),("value", .str x t),("cls", .ref 448)] ?h1 sub inv bare ?h2 ?h3 ?h4 ?h5 ?h6 ?h7 ?h8 ?h9 ?h10
 walk_at "M enter"
 case h10 =>
   intro s₁ L S
   repeat' walk1
   all_goals exact k _ _ _ (St.aft (by assumption)) ⟨_,rfl⟩
theorem coerce_int (n:Int) (t:Tok):RunsK (gg γ) (.ref 277) [.ref 448,.int n t,.bool false] [] 2 20 (fun zz => True) (fun zz r => ∃ t',r = .int n t'):=by
 intro A s fz R hh hd hu sub inv bare _ k
 refine' enter [("allow_none", .bool false),("value", .int n t),("cls", .ref 448)] ?h1 sub inv bare ?h2 ?h3 ?h4 ?h5 ?h6 ?h7 ?h8 ?h9 ?h10
 walk_at "M enter"
 case h10 =>
   intro s₁ L S
   repeat' walk1
   all_goals exact k _ _ _ (St.aft (by assumption)) ⟨_,rfl⟩
end
section
set_option tactic.hygienic false
variable {γ:Cfg}
local macro_rules | `(tactic| walk_at $s:str) => do let k:=Lean.Syntax.mkStrLit ("Z9 " ++ s.getString);`(tactic| k_extra $k)
local macro_rules | `(tactic| walk_at "0") => `(tactic| skip)
local macro_rules | `(tactic| walk_at "0") => `(tactic| skip)
theorem words_W9_9:True:=by
 w_top off
 k_with "Z9 truthy str" => k_extra "q2"
 k_with "q3" => k_dflt (refine' for_rule ?_ ?_ ?_ ?_ ?_ ?_ ?_;rotate_right 7;rotate_left;(·assumption);(·walk_at "M hh");(·rfl);(·rfl);(·(walk_at "I1"; rfl));rotate_right;(·rfl);k_whole)
 k_with "Z9 exec For" => k_extra "q3"
 trivial
theorem vi (tp:Addr) (ps:List Value) (pre:List Str) (b:Bool):RunsK (gg γ) (.ref 339) [.ref 448,.ref tp] [("allow_leading_zeroes", .bool b)] 2 40 (fun fz => IsTup fz tp ps.toArray ∧ AllS ps pre ∧ WordsOk pre) (fun zz r => r = .none):=by
 intro A s fz R hh hd hu sub inv bare ⟨T,hA,hw⟩ k
 refine' enter [("allow_leading_zeroes", .bool b),("identifiers", .ref tp),("cls", .ref 448)] ?h1 sub inv bare ?h2 ?h3 ?h4 ?h5 ?h6 ?h7 ?h8 ?h9 ?h10
 walk_at "M enter"
 case h10 =>
   intro s₁ L S
   iterate 3 walk1
   refine' ⟨false,tp,ps.toArray,_,_,_,fun i f l m => m = [] ∧ Grows (gg γ).tabs fz f ∧ ∀ y,y ≠ (Str.ofString "item") → l.lookup y = List.lookup y [(Str.ofString "allow_leading_zeroes", Value.bool b),(Str.ofString "identifiers", Value.ref tp),(Str.ofString "cls", Value.ref 448)],rfl,S,IsTup.col T,⟨rfl,Grows.refl _ _,fun zz zz => rfl⟩,⟨fun i v s f l I m oI E' hv hJ hc S hi => ?_⟩,fun s f l m hJ S => ?_⟩
   · obtain ⟨rfl,gr,hl⟩:=hJ
     obtain ⟨w',t',rfl,hx⟩:=hA.get (by simpa using hv)
     obtain ⟨o1,o2,o3,o4,o5⟩:=hw w' (List.mem_of_getElem? hx)
     have S':=S.names (l':=[(Str.ofString "item", Value.str w' t'),(Str.ofString "allow_leading_zeroes", Value.bool b),(Str.ofString "identifiers", Value.ref tp),(Str.ofString "cls", Value.ref 448)]) (fun y => by
       rw [List.lookup_cons,List.lookup_cons]
       split
       · rfl
       · rename_i hn
         exact hl y (fun q => by rw [q] at hn;simp at hn))
     have hi4:i + 1 ≤ ps.toArray.size:=by
       rcases Nat.lt_or_ge i ps.toArray.size with h | h
       · exact h
       · rw [Array.getElem?_eq_none h] at hv;cases hv
     clear S
     repeat' walk1
     all_goals first
       | exact (show ForAt _ _ _ _ _ _ _ _ _ _ _ from ⟨f,_,_,oI,S',hc,hi,hi4,rfl,gr,fun y hy => by rw [List.lookup_cons,beq_false_of_ne hy]⟩)
       | (exfalso;simp_all)
   · obtain ⟨rfl,gr,hl⟩:=hJ
     repeat' walk1
     all_goals exact k _ _ _ (St.aft (by assumption)) rfl
section
variable {M:Model} {A:Around} {E:Value → Shared → Prop} {s:Shared} {env:Env} {pos:Pos} {first:List Value} {Q:Value → Shared → Prop} {q f:Addr} {self:Value} {fz fz₀:Heap} {s₀:Shared} {L:Addr} {l:List (Str × Value)} {mu:List (Addr × Obj)}
theorem cwB_M {e:PySem.Expr} {rest:List PySem.Expr} (_S:St (gg γ) s₀ fz₀ s.heap s.gens s.os fz L l mu) (_B:Bound fz q (.ref f) self) (hf:fnIn (mk.heap_1 γ.w.params) f = true) (h:wpAny M A (spliced (backTo pos (starEach (e :: rest) env))) (fun vs s₁ => MethP (mk.heap_1 γ.w.params) q f self s₁.heap ∧ wpAny M A (call (.ref q) (first ++ vs)) Q E s₁) E s)
   (he:autoParam (starEach (e :: rest) env = (false,eval e env) :: starEach rest env) autR) (hplain:autoParam ((backTo pos (starEach rest env)).any (·.1) = false) autR) :
   wpAny M A (callWith pos (.ref q) first (backTo pos (starEach (e :: rest) env)) []) Q E s:=cw_M hf h he hplain
theorem cwB_MKW {e:PySem.Expr} {rest:List PySem.Expr} {kws:List Keyword} (_S:St (gg γ) s₀ fz₀ s.heap s.gens s.os fz L l mu) (_B:Bound fz q (.ref f) self) (hf:fnIn (mk.heap_1 γ.w.params) f = true) (hall:(backToKw pos (keywordEach kws env)).all (·.1.isSome) = true)
   (h:wpAny M A (spliced (backTo pos (starEach (e :: rest) env))) (fun vs s₁ => wpAny M A (evalAll ((backToKw pos (keywordEach kws env)).map (·.2)))
     (fun ks s₂ => MethP (mk.heap_1 γ.w.params) q f self s₂.heap ∧ wpAny M A (call (.ref q) (first ++ vs) (((backToKw pos (keywordEach kws env)).filterMap (·.1)).zip ks)) Q E s₂) E s₁) E s)
   (hplain:autoParam (((backTo pos (starEach (e :: rest) env)).any (·.1) || (backToKw pos (keywordEach kws env)).any (·.1.isNone)) = false) autR) (he:autoParam (starEach (e :: rest) env = (false,eval e env) :: starEach rest env) autR) :
   wpAny M A (callWith pos (.ref q) first (backTo pos (starEach (e :: rest) env)) (backToKw pos (keywordEach kws env))) Q E s:=cw_MKW hf hall h hplain he
theorem cwB_MKW0 {kws:List Keyword} (_S:St (gg γ) s₀ fz₀ s.heap s.gens s.os fz L l mu) (_B:Bound fz q (.ref f) self) (hf:fnIn (mk.heap_1 γ.w.params) f = true) (hall:(backToKw pos (keywordEach kws env)).all (·.1.isSome) = true)
   (h:wpAny M A (evalAll ((backToKw pos (keywordEach kws env)).map (·.2))) (fun ks s₂ => MethP (mk.heap_1 γ.w.params) q f self s₂.heap ∧ wpAny M A (call (.ref q) (first ++ []) (((backToKw pos (keywordEach kws env)).filterMap (·.1)).zip ks)) Q E s₂) E s)
   (hplain:autoParam (((backTo pos (starEach [] env)).any (·.1) || (backToKw pos (keywordEach kws env)).any (·.1.isNone)) = false) autR) :
   wpAny M A (callWith pos (.ref q) first (backTo pos (starEach [] env)) (backToKw pos (keywordEach kws env))) Q E s:=cw_MKW0 hf hall h hplain
end
end
theorem words_W10:True:=by
 k_with "Z truthy str" => k_extra "q2"
 k_with "Z exec For" => k_extra "q3"
 k_with "Z M bound" => first | with_reducible assumption | ((with_reducible refine' Bound.grows ?_ ?_);rotate_right 2;(·with_reducible assumption);(·walk_at "M chain"))
 k_with "Z M fact" => walk_at "M bound"
 k_with "Z getMethod ref" => k_dflt (refine' c_cm ?_ ?_ ?_ ?_ ?_ ?_ ?_ ?_;rotate_right 8;rotate_left;(·assumption);(·(with_reducible show specialIn (mk.heap_1 _) _ _ = _);k_is);(·(with_reducible show typeIn (mk.heap_1 _) _ = _);k_is);(·(with_reducible show readsIn (mk.heap_1 _) _ _ = _);k_is);(·(with_reducible show findCls (mk.heap_1 _) _ _ _ = _);k_is);(·(with_reducible show recIn (mk.heap_1 _) _ _ = _);k_is);rotate_right;(·rfl);k_whole;walk_at "I6")
 k_with "Z callWith ref" => k_dflt (first | (refine' cwB_M ?_ ?_ ?_ ?_;rotate_right 4;(·assumption);(·walk_at "M bound");(·(with_reducible show fnIn (mk.heap_1 _) _ = _);k_is);k_whole) | (refine' cwB_MKW ?_ ?_ ?_ ?_ ?_;rotate_right 5;(·assumption);(·walk_at "M bound");(·(with_reducible show fnIn (mk.heap_1 _) _ = _);k_is);(·exact rfl);k_whole) | (refine' cwB_MKW0 ?_ ?_ ?_ ?_ ?_;rotate_right 5;(·assumption);(·walk_at "M bound");(·(with_reducible show fnIn (mk.heap_1 _) _ = _);k_is);(·exact rfl);k_whole))
 k_with "Z And" => ((with_reducible show MethP _ _ _ _ _ ∧ _);refine ⟨methG (by assumption) (by walk_at "M bound"),?_⟩;try dsimp only [List.nil_append,List.cons_append])
 k_with "Z M runE" => (k_whole;walk_at "M post")
 k_with "Z M units" => (have hcL9:=cLine_is;(simp only [units_in1,units_deeper,units_kw] at *);lia)
 k_with "Z M depth" => ((simp only [depth_deeper,depth_in1,depth_under_make,depth_kw] at *);lia)
 k_with "Z call type:tuple" => k_dflt (refine' call_tuple_tup ?_ ?_;rotate_right 2;(·refine' isTup_sub ?_ ?_;rotate_right 2;(·walk_at "M tup");(·exact St.le (by assumption)));k_whole)
 trivial
section
set_option tactic.hygienic false
variable {γ:Cfg}
local macro_rules | `(tactic| walk_at $s:str) => do let k:=Lean.Syntax.mkStrLit ("Z10 " ++ s.getString);`(tactic| k_extra $k)
theorem words_W10_10:True:=by
 w_top off
 k_with "Z10 call ref" => k_dflt (first | (with_reducible refine' St.run (g:=gg _) (by k_dflt (assumption)) (by k_dflt (rfl)) (RunsK.bound (coerce_int _ _)) (by k_dflt (walk_at "M hh")) (by k_dflt (walk_at "M depth")) (by k_dflt (walk_at "M units")) (by k_dflt (walk_at "M pre")) ?_;walk_at "M runE") | (with_reducible refine' St.run (g:=gg _) (by k_dflt (assumption)) (by k_dflt (rfl)) (RunsK.bound (vi _ _ _ _)) (by k_dflt (walk_at "M hh")) (by k_dflt (walk_at "M depth")) (by k_dflt (walk_at "M units")) (by k_dflt (walk_at "M pre")) ?_;walk_at "M run"))
 trivial
theorem vk (ma mi pa:Int) (t1 t2 t3:Tok) (tp tb:Addr) (ps:List Value) (pre:List Str):RunsK (gg γ) (.ref 349) [.ref 448,.int ma t1,.int mi t2,.int pa t3,.ref tp,.ref tb,.bool false] [] 5 60
   (fun fz => IsTup fz tp ps.toArray ∧ AllS ps pre ∧ WordsOk pre ∧ IsTup fz tb ([]:List Value).toArray) (fun zz r => r = .none):=by
 intro A s fz R hh hd hu sub inv bare ⟨T,hA,hw,TB⟩ k
 have hB:AllS ([]:List Value) ([]:List Str):=trivial
 have hW:WordsOk []:=fun zz h => nomatch h
 refine' enter [("partial", .bool false),("build", .ref tb),("prerelease", .ref tp),("patch", .int pa t3),("minor", .int mi t2),("major", .int ma t1),("cls", .ref 448)] ?h1 sub inv bare ?h2 ?h3 ?h4 ?h5 ?h6 ?h7 ?h8 ?h9 ?h10
 walk_at "M enter"
 case h10 =>
   intro s₁ L S
   repeat' walk1
   all_goals first | exact k _ _ _ (St.aft (by assumption)) rfl | (exfalso;simp_all;done)
end
section
set_option tactic.hygienic false
variable {γ:Cfg}
local macro_rules | `(tactic| walk_at $s:str) => do let k:=Lean.Syntax.mkStrLit ("Z11 " ++ s.getString);`(tactic| k_extra $k)
local macro_rules | `(tactic| walk_at "0") => `(tactic| skip)
theorem words_W11_11:True:=by
 w_top off
 k_with "q4" => k_dflt (refine' sa_new ?_ ?_ ?_ ?_ ?_ ?_ ?_ ?_ ?_ ?_ ?_;rotate_right 11;rotate_left;(·assumption);(·assumption);(·decide);(·walk_at "M fi");(·(with_reducible show plainOver (mk.heap_1 _) _ = _);k_is);(·(with_reducible show takerIn (mk.heap_1 _) _ _ = _);k_is);(·(with_reducible show hasDictIn (mk.heap_1 _) _ = _);k_is);(·(simp only [List.length_cons,List.length_nil];decide));(·rfl);rotate_right;(·rfl);k_whole;intro _ _ _ _ _ e' O';(simp only [List.set_cons_succ,List.set_cons_zero] at e');subst e';(simp only [List.cons_append,List.nil_append] at O'))
 k_with "Z11 setAttr ref" => k_extra "q4"
 k_with "q5" => k_dflt (refine' g_cm ?_ ?_ ?_ ?_ ?_ ?_ ?_ ?_ ?_ ?_ ?_ ?_ ?_;rotate_right 13;rotate_left;(·assumption);(·refine' OwnI.here ?_ ?_;rotate_right 2;(·assumption);(·assumption));(·(with_reducible show plainGet (mk.heap_1 _) _ _ = _);k_is);(·(with_reducible show hasDictIn (mk.heap_1 _) _ = _);k_is);(·walk_at "M fi");(·kernel_rfl);(·(with_reducible show specialIn (mk.heap_1 _) _ _ = _);k_is);(·(with_reducible show takesIn (mk.heap_1 _) _ = _);k_is);(·(with_reducible show recIn (mk.heap_1 _) _ _ = _);k_is);(·rfl);(·decide +kernel);rotate_right;(·rfl);k_whole;walk_at "I6")
 k_with "Z11 getMethod ref" => k_extra "q5"
 k_with "q6" => k_dflt (with_reducible refine' St.run (g:=gg _) (by k_dflt (assumption)) (by k_dflt (rfl)) (RunsK.bound (vk _ _ _ _ _ _ _ _ _ _)) (by k_dflt (walk_at "M hh")) (by k_dflt (walk_at "M depth")) (by k_dflt (walk_at "M units")) (by k_dflt (walk_at "M pre")) ?_;walk_at "M run")
 k_with "Z11 call ref" => k_extra "q6"
 k_with "q7" => ((case h2 => (with_reducible show (mk.heap_1 _).lookup _ = _);k_is);(case h1 => first | lia | (simp only [depth_under_make,depth_in1,depth_kw];lia));(case h3 => (with_reducible show codeIn (mk.heap_1 _) _ _ = _);k_is);(case h4 => exact binds_peek (K:=mk.heap_1 _) (Inv.kinS (Pre.inv (by assumption)) (Sub.trans (Pre.sub (by assumption)) (Pre.keep (by assumption)))) (fun zz => by kernel_rfl));(case h5 => decide);(case h6 => exact locs rfl);(case h7 => rfl);(case h8 => rfl);(case h9 => rfl))
 k_with "Z11 M enterI" => k_extra "q7"
 trivial
theorem bk_call {s₀ s:Shared} {fz₀ fz:Heap} {L x dx tp tb:Addr} {l:List (Str × Value)} {mu:List (Addr × Obj)} {A:Around} {E:Value → Shared → Prop} {es:List DictEntry} {n i j:Nat} {kv:List (Str × Value)} {ma mi pa:Int} {t1 t2 t3:Tok} {ps:List Value} {pre:List Str} {b:Bool} {Q:Value → Shared → Prop}
   (S:St (gg γ) s₀ fz₀ s.heap s.gens s.os fz L l mu) (O:OwnI mu x 448 dx es n i j kv) (hh:A.handled = none) (hd:A.depth + 20 < recursionLimit) (hu:A.units + 200 < cLine)
   (k1:kv.lookup ("major" : Str) = some (.int ma t1)) (k2:kv.lookup ("minor" : Str) = some (.int mi t2)) (k3:kv.lookup ("patch" : Str) = some (.int pa t3)) (k4:kv.lookup ("prerelease" : Str) = some (.ref tp)) (k5:kv.lookup ("build" : Str) = some (.ref tb))
   (T:IsTup fz tp ps.toArray) (TB:IsTup fz tb #[]) (hA:AllS ps pre) (hw:WordsOk pre) (hz:pre.length < 1000)
   (k:∀ a s' fz',Grows [383,537,556,608,627] fz fz' → St (gg γ) s₀ fz₀ s'.heap s'.gens s'.os fz' L l mu → (b = false → KeyP fz' (.ref a) ma mi pa t1 t2 t3 (if pre = [] then [.max] else pre.map idOf)) → Q (.ref a) s') :
   wpAny (model PySem.Challenge.pw_ln0005_03 γ.w) A (call (.ref 388) [.ref x] [("with_build", .bool b)]) Q E s:=by
 cases ps with
 | nil =>
   have e:pre = []:=by cases pre with | nil => rfl | cons _ _ => exact hA.elim
   subst e
   exact wpAny_call (bk0 x tp tb kv ma mi pa t1 t2 t3 b A s fz _ hh hd hu S.le S.inv S.bare (O.here S) k1 k2 k3 k4 k5 T TB fun s' fz' r a ⟨q,e⟩ hk => by subst e;exact k q s' fz' a.gr (S.after a) hk)
 | cons p0 ps =>
   have e:pre ≠ []:=by cases pre with | nil => exact hA.elim | cons _ _ => exact fun h => nomatch h
   rw [if_neg e] at k
   exact wpAny_call (bk1 x tp tb kv ma mi pa t1 t2 t3 p0 ps pre b A s fz _ hh hd hu S.le S.inv S.bare (O.here S) k1 k2 k3 k4 k5 T TB hA hw hz fun s' fz' r a ⟨q,e⟩ hk => by subst e;exact k q s' fz' a.gr (S.after a) hk)
theorem words_W11_12:True:=by
 k_with "q8" => k_dflt (refine' gH_meth ?_ ?_ ?_ ?_ ?_ ?_ ?_ ?_;rotate_right 8;rotate_left;(·assumption);(·refine' OwnI.here ?_ ?_;rotate_right 2;(·assumption);(·assumption));(·(with_reducible show plainGet (mk.heap_1 _) _ _ = _);k_is);(·walk_at "M fi");(·walk_at "M fn");(·rfl);rotate_right;(·rfl);k_whole)
 k_with "Z11 getMethod ref" => k_extra "q8"
 k_with "q9" => k_dflt (refine' bk_call ?_ ?_ ?_ ?_ ?_ ?_ ?_ ?_ ?_ ?_ ?_ ?_ ?_ ?_ ?_ ?_;rotate_right 16;(·assumption);(·assumption);(·walk_at "M hh");(·walk_at "M depth");(·walk_at "M units");(·rfl);(·rfl);(·rfl);(·rfl);(·rfl);(·walk_at "M tup");(·walk_at "M tup");(·assumption);(·assumption);(·lia);k_whole;walk_at "I6")
 k_with "Z11 call ref" => k_extra "q9"
 trivial
theorem mk_parts (ma mi pa:Int) (t1 t2 t3:Tok) (tp:Addr) (ps:List Value) (pre:List Str):RunsK (gg γ) (.ref 448) [] [("major", .int ma t1),("minor", .int mi t2),("patch", .int pa t3),("prerelease", .ref tp),("partial", .bool false)] 40 400
   (fun fz => IsTup fz tp ps.toArray ∧ AllS ps pre ∧ WordsOk pre ∧ pre.length < 100) (fun fz r => IsVer fz r ⟨ma,mi,pa,pre,if pre = [] then [.max] else pre.map idOf⟩):=by
 intro A s fz R hh hd hu sub inv bare ⟨T,hA,hw,hz⟩ k
 refine mk_inst sub inv bare (by walk_at "M mk") (by walk_at "M fi") (by walk_at "M fn") fun y dx s' P => ?_
 refine' enterI [("partial", .bool false),("build", .none),("prerelease", .ref tp),("patch", .int pa t3),("minor", .int mi t2),("major", .int ma t1),("version_string", .none),("self", .ref y)] ?h1 P ?h2 ?h3 ?h4 ?h5 ?h6 ?h7 ?h8 ?h9 ?h10
 walk_at "M enterI"
 case h10 =>
   intro s₁ L S
   have hlen:ps.length < 1000:=by rw [hA.length];lia
   have O:OwnI [(y,instObj 448 dx),(dx,dictOf [] 0)] y 448 dx [] 0 0 1 []:=⟨rfl,rfl,trivial⟩
   repeat' walk1
   refine ⟨rfl,?_⟩
   have K0:=(by assumption:false = false → KeyP _ _ ma mi pa t1 t2 t3 (if pre = [] then [.max] else pre.map idOf)) rfl
   obtain ⟨kp,km,ks,e,a1,a2,a3⟩:=K0
   cases e
   obtain ⟨_,gri,Im,Sm⟩:=St.inst (by assumption) (OwnI.kvs (by assumption))
   refine k _ _ _ Sm.aft ?_
   refine' ⟨_,_,_,_,_,_,_,_,_,_,_,_,ps,ks,rfl,Im,?c1,hA,?c2,?c3,?c4,?c5,?c6⟩
   (case c6 => have hl3:=hA.length;lia)
   (case c1 => walk_at "M tup")
   (case c2 => walk_at "M tup")
   (case c3 => (refine' isTup_grows a1 ?g1;(case g1 => walk_at "M chain")))
   (case c4 => (refine' isTup_grows a2 ?g2;(case g2 => walk_at "M chain")))
   (case c5 => (refine' AllI.grows ?g3 a3;(case g3 => walk_at "M chain")))
end
section
set_option tactic.hygienic false
variable {γ:Cfg}
local macro_rules | `(tactic| walk_at $s:str) => do let k:=Lean.Syntax.mkStrLit ("Z12 " ++ s.getString);`(tactic| k_extra $k)
local macro_rules | `(tactic| walk_at "0") => `(tactic| skip)
local macro_rules | `(tactic| walk_at "0") => `(tactic| skip)
theorem words_W12_13:True:=by
 w_top off
 k_with "Z12 setAttr ref" => k_extra "q4"
 k_with "Z12 getMethod ref" => k_extra "q5"
 k_with "Z12 call ref" => k_extra "q6"
 k_with "Z12 M enterI" => k_extra "q7"
 k_with "Z12 getMethod ref" => k_extra "q8"
 k_with "Z12 call ref" => k_extra "q9"
 trivial
theorem mk_parts0 (ma mi pa:Int) (t1 t2 t3:Tok):RunsK (gg γ) (.ref 448) [] [("major", .int ma t1),("minor", .int mi t2),("patch", .int pa t3),("partial", .bool false)] 40 400
   (fun zz => True) (fun fz r => IsVer fz r ⟨ma,mi,pa,[],[.max]⟩):=by
 intro A s fz R hh hd hu sub inv bare _ k
 have hA:AllS ([]:List Value) ([]:List Str):=trivial
 have hw:WordsOk []:=fun zz h => nomatch h
 have hz:([]:List Str).length < 1000:=by decide
 refine mk_inst sub inv bare (by walk_at "M mk") (by walk_at "M fi") (by walk_at "M fn") fun y dx s' P => ?_
 refine' enterI [("partial", .bool false),("build", .none),("prerelease", .none),("patch", .int pa t3),("minor", .int mi t2),("major", .int ma t1),("version_string", .none),("self", .ref y)] ?h1 P ?h2 ?h3 ?h4 ?h5 ?h6 ?h7 ?h8 ?h9 ?h10
 walk_at "M enterI"
 case h10 =>
   intro s₁ L S
   have hlen:([]:List Value).length < 1000:=by decide
   have O:OwnI [(y,instObj 448 dx),(dx,dictOf [] 0)] y 448 dx [] 0 0 1 []:=⟨rfl,rfl,trivial⟩
   repeat' walk1
   refine ⟨rfl,?_⟩
   have K0:=(by assumption:false = false → KeyP _ _ ma mi pa t1 t2 t3 (if ([]:List Str) = [] then [.max] else List.map idOf [])) rfl
   obtain ⟨kp,km,ks,e,a1,a2,a3⟩:=K0
   cases e
   obtain ⟨_,gri,Im,Sm⟩:=St.inst (by assumption) (OwnI.kvs (by assumption))
   refine k _ _ _ Sm.aft ?_
   refine' ⟨_,_,_,_,_,_,_,_,_,_,_,_,[],ks,rfl,Im,?c1,hA,?c2,?c3,?c4,?c5,?c6⟩
   (case c6 => decide)
   (case c1 => walk_at "M tup")
   (case c2 => walk_at "M tup")
   (case c3 => (refine' isTup_grows a1 ?g1;(case g1 => walk_at "M chain")))
   (case c4 => (refine' isTup_grows a2 ?g2;(case g2 => walk_at "M chain")))
   (case c5 => (refine' AllI.grows ?g3 a3;(case g3 => walk_at "M chain")))
end
section
set_option tactic.hygienic false
variable {γ:Cfg}
local macro_rules | `(tactic| walk_at $s:str) => do let k:=Lean.Syntax.mkStrLit ("Z13 " ++ s.getString);`(tactic| k_extra $k)
theorem words_W13_14:True:=by
 w_top off
 k_with "Z13 call ref" => k_dflt (first | (with_reducible refine' St.run (g:=gg _) (by k_dflt (assumption)) (by k_dflt (rfl)) (RunsK.runs (mk_parts _ _ _ _ _ _ _ _ _)) (by k_dflt (walk_at "M hh")) (by k_dflt (walk_at "M depth")) (by k_dflt (walk_at "M units")) (by k_dflt (walk_at "M pre")) ?_;walk_at "M run") | (with_reducible refine' St.run (g:=gg _) (by k_dflt (assumption)) (by k_dflt (rfl)) (RunsK.runs (mk_parts0 _ _ _ _ _ _)) (by k_dflt (walk_at "M hh")) (by k_dflt (walk_at "M depth")) (by k_dflt (walk_at "M units")) (by k_dflt (walk_at "M pre")) ?_;walk_at "M run"))
 trivial
theorem tr_pre (v:Value) (t:Tok) (V:Ver) (hw:WordsOk V.pre) (hz:V.pre.length < 100):Runs (gg γ) (call (.ref 309) [v,.str (Str.ofString "prerelease") t]) 50 450 (fun fz => IsVer fz v V) (fun fz r => IsVer fz r ⟨V.ma,V.mi,V.pa,V.pre,if V.pre = [] then [.max] else V.pre.map idOf⟩):=by
 intro A s fz Q E hh hd hu sub inv bare pre k
 obtain ⟨x,tp,tb,k1,k2,kk,t1,t2,t3,t4,t5,t6,ps,ks,rfl,I,I2,I3,I4,I5,I6,I7,I8⟩:=pre.is
 refine' wpAny_call (enter [("level", .str (Str.ofString "prerelease") t),("self", .ref x)] ?h1 sub inv bare ?h2 ?h3 ?h4 ?h5 ?h6 ?h7 ?h8 ?h9 ?h10)
 walk_at "M enter"
 case h10 =>
   intro s₁ L S
   repeat' walk1
   all_goals first | exact k _ _ _ (St.aft (by assumption)) (by assumption) | (exfalso;simp_all;done)
theorem tr_patch (v:Value) (V:Ver):Runs (gg γ) (call (.ref 309) [v]) 50 450 (fun fz => IsVer fz v V) (fun fz r => IsVer fz r ⟨V.ma,V.mi,V.pa,[],[.max]⟩):=by
 intro A s fz Q E hh hd hu sub inv bare pre k
 obtain ⟨x,tp,tb,k1,k2,kk,t1,t2,t3,t4,t5,t6,ps,ks,rfl,I,I2,I3,I4,I5,I6,I7,I8⟩:=pre.is
 refine' wpAny_call (enter [("level", .str (Str.ofString "patch") 942),("self", .ref x)] ?h1 sub inv bare ?h2 ?h3 ?h4 ?h5 ?h6 ?h7 ?h8 ?h9 ?h10)
 walk_at "M enter"
 case h10 =>
   intro s₁ L S
   repeat' walk1
   all_goals first | exact k _ _ _ (St.aft (by assumption)) (by assumption) | (exfalso;simp_all;done)
end
section
set_option tactic.hygienic false
variable {γ:Cfg}
theorem pat53 {fz:Heap} (inv:Inv (gg γ) fz):PatAt fz 53 52 codeI :=
 ⟨⟨_,_,_,inv.kin 53 _ (by (with_reducible show (mk.heap_1 _).lookup _ = _);k_is),rfl,rfl,rfl⟩,⟨_,_,_,inv.kin 52 _ (by (with_reducible show (mk.heap_1 _).lookup _ = _);k_is),rfl,by unfold codeI;with_unfolding_all rfl⟩⟩
end
section
set_option tactic.hygienic false
variable {γ:Cfg}
theorem lzW (x:Str) (t:Tok) (ok:WordOk x):Runs (gg γ) (call (.ref 65) [.str x t]) 2 20 (fun zz => True) (fun zz r => r = .bool false):=by
 w_top off
 intro A s fz Q E hh hd hu sub inv bare _ k
 obtain ⟨o1,o2,o3,o4,o5⟩:=ok
 refine' wpAny_call (enter [("value", .str x t)] ?h1 sub inv bare ?h2 ?h3 ?h4 ?h5 ?h6 ?h7 ?h8 ?h9 ?h10)
 walk_at "M enter"
 case h10 =>
   intro s₁ L S
   repeat' walk1
   all_goals (refine k _ _ _ (St.aft (by assumption)) (congrArg Value.bool ?_))
   all_goals (first | assumption | exact o5 (by assumption) (by assumption) | simp_all)
end
theorem words_W16:True:=by
 k_with "Z newTuple" => k_extra "q1"
 k_with "Z getMethod ref" => k_dflt (first | ((with_reducible show wpAny _ _ (getMethod (Value.ref 53) _ _) _ _ _);refine' meth_rx ?_ ?_ ?_;rotate_right 3;(·assumption);(·exact pat53 (St.inv (by assumption)));k_whole) | ((with_reducible show wpAny _ _ (getMethod _ (Str.ofString "groups") _) _ _ _);refine' meth_groups ?_ ?_ ?_;rotate_right 3;(·assumption);(·walk_at "M fact");k_whole))
 k_with "Z M fact" => first | ((with_reducible refine' IsMatch.grows ?_ ?_);rotate_right 2;(·with_reducible assumption);(·walk_at "M chain")) | ((with_reducible refine' isList_grows ?_ ?_);rotate_right 2;(·with_reducible assumption);(·walk_at "M chain"))
 k_with "Z call builtin:re.Pattern.match" => k_dflt (refine' rx_match (q0:=0) (c:=52) (code:=codeI) ?_ ?_ ?_ ?_ ?_ ?_ ?_ ?_ ?_;rotate_right 9;rotate_left;(·assumption);(·exact pat53 (St.inv (by assumption)));(·assumption);(·assumption);(·assumption);(·assumption);(·assumption);rotate_right;(·rfl);k_whole;walk_at "I6")
 k_with "Z call builtin:re.Match.groups" => k_dflt (first | (refine' rx_groupsN ?_ ?_ ?_ ?_ ?_ ?_ ?_ ?_ ?_ ?_ ?_ ?_;rotate_right 12;rotate_left;(·assumption);(·walk_at "M fact");(·assumption);(·assumption);(·assumption);(·assumption);(·assumption);(·assumption);(·assumption);(·assumption);rotate_right;(·rfl);k_whole;walk_at "I9") | (refine' rx_groupsS ?_ ?_ ?_ ?_ ?_ ?_ ?_ ?_ ?_ ?_ ?_ ?_;rotate_right 12;rotate_left;(·assumption);(·walk_at "M fact");(·assumption);(·assumption);(·assumption);(·assumption);(·assumption);(·assumption);(·assumption);(·assumption);rotate_right;(·rfl);k_whole;intro _ _ _ _ _ _ _ _ _ _))
 k_with "Z truthy ref" => k_dflt (refine' truthy_match ?_ ?_ ?_;rotate_right 3;(·assumption);(·walk_at "M fact");k_whole)
 k_with "Z assign Tuple" => k_dflt (refine' m_unpack ?_ ?_ ?_ ?_ ?_ ?_ ?_;rotate_right 7;rotate_left 2;(·assumption);(·walk_at "M tup");(·rfl);(·rfl);rotate_right 2;(·rfl);(·walk_at "M hh");k_whole;walk_at "I2")
 k_with "Z call builtin:str.split" => k_dflt (refine' m_split ?_ ?_ ?_ ?_ ?_;rotate_right 5;rotate_left;(·assumption);(·decide);(·assumption);rotate_right;(·rfl);k_whole;walk_at "I8")
 k_with "Z M units" => first | (have hcL9:=cLine_is;(simp only [units_in1,units_deeper,units_kw]);lia) | (have hcL9:=cLine_is;(simp only [units_in1,units_deeper,units_kw] at *);lia)
 k_with "Z M depth" => first | ((simp only [depth_deeper,depth_in1,depth_under_make,depth_kw]);lia) | ((simp only [depth_deeper,depth_in1,depth_under_make,depth_kw] at *);lia)
 k_with "Z M pre" => k_extra "q0"
 k_with "Z callWith ref" => ((with_reducible show wpAny _ _ (callWith _ (Value.ref 309) _ _ _) _ _ _);k_dflt (first | (refine' callWith_K (K:=mk.heap_1 _) ?_ ?_ ?_;rotate_right 3;(·exact kinG (by assumption));(·(with_reducible show keepIn (mk.heap_1 _) _ = _);k_is);k_whole) | (refine' callWith_K0 (K:=mk.heap_1 _) ?_ ?_ ?_;rotate_right 3;(·exact kinG (by assumption));(·(with_reducible show keepIn (mk.heap_1 _) _ = _);k_is);k_whole;(try dsimp only [List.nil_append,List.cons_append]))))
 trivial
section
set_option tactic.hygienic false
variable {γ:Cfg}
local macro_rules | `(tactic| walk_at $s:str) => do let k:=Lean.Syntax.mkStrLit ("Z16 " ++ s.getString);`(tactic| k_extra $k)
local macro_rules | `(tactic| walk_at "0") => `(tactic| skip)
theorem words_W16_15:True:=by
 w_top off
 k_with "Z16 call ref" => k_dflt (first | (with_reducible refine' St.run (g:=gg _) (by k_dflt (assumption)) (by k_dflt (rfl)) (lzW _ _ ?_) (by k_dflt (walk_at "M hh")) (by k_dflt (walk_at "M depth")) (by k_dflt (walk_at "M units")) (by k_dflt (walk_at "M pre")) ?_;rotate_right 2;(·assumption);walk_at "M run") | (with_reducible refine' St.run (g:=gg _) (by k_dflt (assumption)) (by k_dflt (rfl)) (RunsK.bound (coerce_str _ _ _)) (by k_dflt (walk_at "M hh")) (by k_dflt (walk_at "M depth")) (by k_dflt (walk_at "M units")) (by k_dflt (walk_at "M pre")) ?_;walk_at "M runE") | (with_reducible refine' St.run (g:=gg _) (by k_dflt (assumption)) (by k_dflt (rfl)) (RunsK.bound (vi _ _ _ _)) (by k_dflt (walk_at "M hh")) (by k_dflt (walk_at "M depth")) (by k_dflt (walk_at "M units")) (by k_dflt (walk_at "M pre")) ?_;walk_at "M run"))
 trivial
theorem parse0 (x:Str) (t:Tok) (V:Ver) (ok:TextOk x V) (e0:V.pre = []):RunsK (gg γ) (.ref 328) [.ref 448,.str x t,.bool false] [] 20 200 (fun zz => True)
   (FiveV V):=by
 intro A s fz R hh hd hu sub inv bare _ k
 obtain ⟨o1,o2,⟨sa,sb,sc,jo,⟨n,e,nums,r1,r2,r3,r4,r5,r6,r7,r8,r9,r10,r11⟩,⟨na1,na2⟩,⟨nb1,nb2⟩,⟨nc1,nc2⟩,hj⟩,o4,o5,o6⟩:=ok
 have hj:none = jo:=by symm;rcases hj with h | ⟨_,_,_,_,_,h⟩;exact h.1;exact absurd e0 h
 subst hj
 have la:=na1.short
 have lb:=nb1.short
 have lc:=nc1.short
 refine' enter [("coerce", .bool false),("partial", .bool false),("version_string", .str x t),("cls", .ref 448)] ?h1 sub inv bare ?h2 ?h3 ?h4 ?h5 ?h6 ?h7 ?h8 ?h9 ?h10
 walk_at "M enter"
 case h10 =>
   intro s₁ L S
   have P:=pat53 inv
   repeat' walk1
   all_goals first
     | (refine' k _ _ _ (St.aft (by assumption)) ⟨_,_,_,_,_,_,[],rfl,?a1,?a2,?a3,by rw [e0];trivial⟩;(case a1 => assumption);(case a2 => walk_at "M tup");(case a3 => walk_at "M tup"))
     | (exfalso;simp_all;done)
     | skip
end
section
set_option tactic.hygienic false
variable {γ:Cfg}
local macro_rules | `(tactic| walk_at $s:str) => do let k:=Lean.Syntax.mkStrLit ("Z17 " ++ s.getString);`(tactic| k_extra $k)
local macro_rules | `(tactic| walk_at "0") => `(tactic| skip)
local macro_rules | `(tactic| walk_at "0") => `(tactic| skip)
theorem words_W17_16:True:=by
 w_top off
 k_with "Z17 call ref" => k_dflt (first | ((with_reducible show wpAny _ _ (call (Value.ref 65) _ _) _ _ _);with_reducible refine' St.run (g:=gg _) (by k_dflt (assumption)) (by k_dflt (rfl)) (lzW _ _ ?_) (by k_dflt (walk_at "M hh")) (by k_dflt (walk_at "M depth")) (by k_dflt (walk_at "M units")) (by k_dflt (walk_at "M pre")) ?_;rotate_right 2;(·assumption);walk_at "M run") | ((with_reducible show wpAny _ _ (call (Value.ref _) [Value.str _ _,Value.bool _] _) _ _ _);with_reducible refine' St.run (g:=gg _) (by k_dflt (assumption)) (by k_dflt (rfl)) (RunsK.bound (coerce_str _ _ _)) (by k_dflt (walk_at "M hh")) (by k_dflt (walk_at "M depth")) (by k_dflt (walk_at "M units")) (by k_dflt (walk_at "M pre")) ?_;walk_at "M runE") | ((with_reducible show wpAny _ _ (call (Value.ref _) [Value.ref _] _) _ _ _);with_reducible refine' St.run (g:=gg _) (by k_dflt (assumption)) (by k_dflt (rfl)) (RunsK.bound (vi _ _ _ _)) (by k_dflt (walk_at "M hh")) (by k_dflt (walk_at "M depth")) (by k_dflt (walk_at "M units")) (by k_dflt (walk_at "M pre")) ?_;walk_at "M run"))
 k_with "Z17 call type:tuple" => k_dflt (refine' m_tupleOfList ?_ ?_ ?_ ?_ ?_;rotate_right 5;rotate_left;(·assumption);(·walk_at "M fact");(·(have hAl:=AllS.length (by assumption);lia));rotate_right;(·rfl);k_whole;walk_at "I6")
 trivial
theorem parse1 (x:Str) (t:Tok) (V:Ver) (ok:TextOk x V) (e0:V.pre ≠ []):RunsK (gg γ) (.ref 328) [.ref 448,.str x t,.bool false] [] 20 200 (fun zz => True)
   (FiveV V):=by
 intro A s fz R hh hd hu sub inv bare _ k
 obtain ⟨o1,o2,⟨sa,sb,sc,jo,⟨n,e,nums,r1,r2,r3,r4,r5,r6,r7,r8,r9,r10,r11⟩,⟨na1,na2⟩,⟨nb1,nb2⟩,⟨nc1,nc2⟩,hj⟩,o4,o5,o6⟩:=ok
 obtain ⟨J,hj,j1,j2,j3,_⟩ : ∃ J,jo = some J ∧ 0 < J.length ∧ J.length ≤ 1000 ∧ Txt.split J (Str.ofString ".") = V.pre ∧ V.pre ≠ []:=by rcases hj with ⟨_,h⟩ | h;exact absurd h e0;exact h
 subst hj
 have hJ:J ≠ Str.ofString "" := fun q => by rw [q] at j1;exact absurd j1 (by decide)
 have la:=na1.short
 have lb:=nb1.short
 have lc:=nc1.short
 rw [← j3] at o4 o5
 refine' enter [("coerce", .bool false),("partial", .bool false),("version_string", .str x t),("cls", .ref 448)] ?h1 sub inv bare ?h2 ?h3 ?h4 ?h5 ?h6 ?h7 ?h8 ?h9 ?h10
 walk_at "M enter"
 case h10 =>
   intro s₁ L S
   have P:=pat53 inv
   repeat' walk1
   all_goals first
     | (refine' k _ _ _ (St.aft (by assumption)) ⟨_,_,_,_,_,_,_,rfl,?a1,?a2,?a3,?a4⟩;(case a1 => assumption);(case a4 => rw [← j3];assumption);(case a2 => walk_at "M tup");(case a3 => walk_at "M tup"))
     | (exfalso;simp_all;done)
     | skip
end
section
set_option tactic.hygienic false
variable {γ:Cfg}
local macro_rules | `(tactic| walk_at $s:str) => do let k:=Lean.Syntax.mkStrLit ("Z18 " ++ s.getString);`(tactic| k_extra $k)
theorem parse (x:Str) (t:Tok) (V:Ver) (ok:TextOk x V):RunsK (gg γ) (.ref 328) [.ref 448,.str x t,.bool false] [] 20 200 (fun zz => True)
   (FiveV V):=by
 w_top off
 by_cases e:V.pre = []
 · exact parse0 x t V ok e
 · exact parse1 x t V ok e
theorem words_W18_17:True:=by
 k_with "Z18 setAttr ref" => k_extra "q4"
 k_with "Z18 getMethod ref" => k_extra "q5"
 k_with "Z18 call ref" => k_extra "q6"
 k_with "Z18 M enterI" => k_extra "q7"
 k_with "Z18 getMethod ref" => k_extra "q8"
 k_with "Z18 call ref" => k_extra "q9"
 k_with "Z18 call ref" => k_dflt ((with_reducible show wpAny _ _ (call (Value.ref _) [Value.str _ _,Value.bool _] _) _ _ _);with_reducible refine' St.run (g:=gg _) (by k_dflt (assumption)) (by k_dflt (rfl)) (RunsK.bound (parse _ _ _ ?_)) (by k_dflt (walk_at "M hh")) (by k_dflt (walk_at "M depth")) (by k_dflt (walk_at "M units")) (by k_dflt (walk_at "M pre")) ?_;rotate_right 2;(·assumption);k_whole;intro _ _ _ _ _ p';(obtain ⟨a',tp',tb',t1',t2',t3',ps',e',T1',T2',T3',AS'⟩:=p');subst e')
 trivial
theorem mk_text (x:Str) (t:Tok) (V:Ver) (ok:TextOk x V):RunsK (gg γ) (.ref 448) [.str x t] [] 60 500 (fun zz => True) (fun fz r => IsVer fz r V):=by
 intro A s fz R hh hd hu sub inv bare _ k
 have o4:=ok.words
 have o5:=ok.few
 have hz:V.pre.length < 1000:=by lia
 refine mk_inst sub inv bare (by walk_at "M mk") (by walk_at "M fi") (by walk_at "M fn") fun y dx s' P => ?_
 refine' enterI [("partial", .bool false),("build", .none),("prerelease", .none),("patch", .none),("minor", .none),("major", .none),("version_string", .str x t),("self", .ref y)] ?h1 P ?h2 ?h3 ?h4 ?h5 ?h6 ?h7 ?h8 ?h9 ?h10
 walk_at "M enterI"
 case h10 =>
   intro s₁ L S
   have O:OwnI [(y,instObj 448 dx),(dx,dictOf [] 0)] y 448 dx [] 0 0 1 []:=⟨rfl,rfl,trivial⟩
   repeat' walk1
   refine ⟨rfl,?_⟩
   have K0:=(by assumption:false = false → KeyP _ _ V.ma V.mi V.pa _ _ _ (if V.pre = [] then [.max] else V.pre.map idOf)) rfl
   obtain ⟨kp,km,ks,e,a1,a2,a3⟩:=K0
   cases e
   obtain ⟨_,gri,Im,Sm⟩:=St.inst (by assumption) (OwnI.kvs (by assumption))
   refine k _ _ _ Sm.aft ?_
   refine' ⟨_,_,_,_,_,_,_,_,_,_,_,_,_,ks,rfl,Im,?c1,?c0,?c2,?c3,?c4,?c5,?c6⟩
   (case c0 => assumption)
   (case c6 => have hl3:=AllS.length (by assumption:AllS _ V.pre);lia)
   (case c1 => walk_at "M tup")
   (case c2 => walk_at "M tup")
   (case c3 => (refine' isTup_grows a1 ?g1;(case g1 => walk_at "M chain")))
   (case c4 => (refine' isTup_grows a2 ?g2;(case g2 => walk_at "M chain")))
   (case c5 => (rw [ok.key];refine' AllI.grows ?g3 a3;(case g3 => walk_at "M chain")))
end
section
set_option tactic.hygienic false
variable {γ:Cfg}
local macro_rules | `(tactic| walk_at $s:str) => do let k:=Lean.Syntax.mkStrLit ("Z19 " ++ s.getString);`(tactic| k_extra $k)
local macro_rules | `(tactic| walk_at "0") => `(tactic| skip)
theorem words_W19_18:True:=by
 w_top off
 k_with "Z19 call builtin:iter" => k_dflt (refine' m_iter ?_ ?_ ?_ ?_;rotate_right 4;rotate_left;(·assumption);(·exact IsTup.col (by assumption));rotate_right;(·rfl);k_whole;walk_at "I5")
 trivial
inductive VerIt (V:Ver) (h:Heap) (kk:Bool) (la:Addr) (items:Array Value):Prop
 | mk (t1 t2 t3:Tok) (tp tb:Addr) (ps:List Value):items = #[.int V.ma t1,.int V.mi t2,.int V.pa t3,.ref tp,.ref tb] → IsTup h tp ps.toArray → AllS ps V.pre → IsTup h tb ([]:List Value).toArray → VerIt V h kk la items
theorem VerIt.sz {V:Ver} {h:Heap} {kk:Bool} {la:Addr} {items:Array Value} (z:VerIt V h kk la items):items.size ≤ sizeLine:=by
 obtain ⟨_,_,_,_,_,_,rfl,_⟩:=z
 have:=sizeLine_eq;show 5 ≤ sizeLine;lia
theorem VerIt.up {V:Ver} {t:List Addr} {h h':Heap} {kk:Bool} {la:Addr} {items:Array Value} (g:Grows t h h') (z:VerIt V h kk la items):VerIt V h' kk la items:=by
 obtain ⟨t1,t2,t3,tp,tb,ps,e,a,b,c⟩:=z
 exact ⟨t1,t2,t3,tp,tb,ps,e,isTup_grows a g,b,isTup_grows c g⟩
theorem v_iter (v:Value) (V:Ver):RunsIt (gg γ) (call (.ref 359) [v]) 3 30 (fun fz => IsVer fz v V) (VerIt V):=by
 intro A s fz Q E hh hd hu sub inv bare pre k
 obtain ⟨x,tp,tb,k1,k2,kk,t1,t2,t3,t4,t5,t6,ps,ks,rfl,I,I2,I3,I4,I5,I6,I7,I8⟩:=pre.is
 refine' wpAny_call (enter [("self", .ref x)] ?h1 sub inv bare ?h2 ?h3 ?h4 ?h5 ?h6 ?h7 ?h8 ?h9 ?h10)
 walk_at "M enter"
 case h10 =>
   intro s₁ L S
   repeat' walk1
   rename_i T' _ I' oI' S' it'
   have z:=S'.own _ (.head _)
   refine k _ _ _ I' oI' _ _ S'.aft z.1 z.2.2.1 z.2.2.2 (IsTup.col T') it' ⟨_,_,_,_,_,_,rfl,?_,I3,?_⟩
   · walk_at "M tup"
   · walk_at "M tup"
theorem AllS.inj {vs:List Value} {xs ys:List Str} (a:AllS vs xs) (b:AllS vs ys):xs = ys:=by
 induction xs generalizing vs ys with
 | nil => rw [allS_nl a] at b; cases ys with
   | nil => rfl
   | cons => exact b.elim
 | cons x xs ih =>
   obtain ⟨t,ws,rfl,a⟩:=allS_un a
   cases ys with
   | nil => exact b.elim
   | cons y ys =>
     obtain ⟨u,ws',e,b⟩:=allS_un b
     cases e
     rw [ih (by assumption) b]
theorem lexne {op:CmpOp} (ho:op = .NotEq) {nd nu:Nat} {P:Heap → Prop} {m n:Nat} {x y:Value} {xs ys:List Value} {b c:Bool} (h1:Runs (gg γ) (eqBool x y) nd nu P (fun zz r => r = b)) (h3:Lex (gg γ) op nd nu P m n xs ys (.bool (!c))):Lex (gg γ) op nd nu P m n (x :: xs) (y :: ys) (.bool (!(b && c))):=by
 cases b with
 | true => exact .same h1 h3
 | false => exact .neF ho h1
theorem strs_eqBool (a b:Addr) (ps qs:List Value) (xs ys:List Str):Runs (gg γ) (eqBool (.ref a) (.ref b)) 0 1 (fun h => (IsTup h a ps.toArray ∧ AllS ps xs) ∧ IsTup h b qs.toArray ∧ AllS qs ys) (fun zz r => r = decide (xs = ys)):=by
 refine eqBool_ref (strs_eq a b ps qs xs ys) fun h q e => ?_
 subst e
 have e1:=IsTup.inj q.1.1 q.2.1
 subst e1
 exact decide_eq_true (q.1.2.inj q.2.2)
theorem tups_ne (a b tp up tb ub:Addr) (ps qs:List Value) (V U:Ver) (t1 t2 t3 u1 u2 u3:Tok):Runs (gg γ) (richCompare .NotEq (.ref a) (.ref b)) 0 2
   (fun h => (IsTup h a #[.int V.ma t1,.int V.mi t2,.int V.pa t3,.ref tp,.ref tb] ∧ IsTup h b #[.int U.ma u1,.int U.mi u2,.int U.pa u3,.ref up,.ref ub]) ∧ ((IsTup h tp ps.toArray ∧ AllS ps V.pre) ∧ IsTup h up qs.toArray ∧ AllS qs U.pre) ∧ (IsTup h tb ([]:List Value).toArray ∧ IsTup h ub ([]:List Value).toArray)) (fun zz r => r = .bool (!verEq V U)):=by
 have e0:verEq V U = (V.ma == U.ma && (V.mi == U.mi && (V.pa == U.pa && (decide (V.pre = U.pre) && (decide (([]:List Str) = []) && true))))):=by unfold verEq;simp
 rw [e0]
 refine tup_runs (r0:=.bool _) (xs:=[.int V.ma t1,.int V.mi t2,.int V.pa t3,.ref tp,.ref tb]) (ys:=[.int U.ma u1,.int U.mi u2,.int U.pa u3,.ref up,.ref ub]) (.inr (.inl rfl))
   (fun h h' q z => ⟨⟨isTup_grows z.1.1 q,isTup_grows z.1.2 q⟩,⟨⟨isTup_grows z.2.1.1.1 q,z.2.1.1.2⟩,isTup_grows z.2.1.2.1 q,z.2.1.2.2⟩,isTup_grows z.2.2.1 q,isTup_grows z.2.2.2 q⟩) (fun h z => z.1) ?_ (fun e => nomatch e)
 refine lexne rfl (eqBool_int.mono (Nat.le_refl _) (Nat.zero_le _) (fun zz h => h) fun zz zz h => h) ?_
 refine lexne rfl (eqBool_int.mono (Nat.le_refl _) (Nat.zero_le _) (fun zz h => h) fun zz zz h => h) ?_
 refine lexne rfl (eqBool_int.mono (Nat.le_refl _) (Nat.zero_le _) (fun zz h => h) fun zz zz h => h) ?_
 refine lexne rfl ((strs_eqBool tp up ps qs V.pre U.pre).mono (Nat.le_refl _) (Nat.le_refl _) (fun zz z => z.2.1) fun zz zz h => h) ?_
 refine lexne rfl ((strs_eqBool tb ub [] [] [] []).mono (Nat.le_refl _) (Nat.le_refl _) (fun zz z => ⟨⟨z.2.2.1,trivial⟩,z.2.2.2,trivial⟩) fun zz zz h => h) ?_
 exact Lex.nilL
theorem m_vtuple {s₀ s:Shared} {fz₀ fz:Heap} {L x:Addr} {l:List (Str × Value)} {mu:List (Addr × Obj)} {A:Around} {E:Value → Shared → Prop} {M:Model} {kv:List (Str × Value)} {V:Ver} {Q:Value → Shared → Prop} (hM:M = model (gg γ).prog (gg γ).w)
   (S:St (gg γ) s₀ fz₀ s.heap s.gens s.os fz L l mu) (I:Inst fz x 448 kv) (iv:IsVer fz (.ref x) V) (hh:A.handled = none) (hd:A.depth + 3 < recursionLimit) (hu:A.units + 42 < cLine)
   (k:∀ s' fz' t t1 t2 t3 tp tb ps,Grows (gg γ).tabs fz fz' → St (gg γ) s₀ fz₀ s'.heap s'.gens s'.os fz' L l mu → IsTup fz' t #[.int V.ma t1,.int V.mi t2,.int V.pa t3,.ref tp,.ref tb] → IsTup fz' tp (ps:List Value).toArray → AllS ps V.pre → IsTup fz' tb ([]:List Value).toArray → Q (.ref t) s') :
   wpAny M A (call (.type "tuple") [.ref x]) Q E s:=by
 refine tuple_own (g:=gg γ) (nd:=3) (nu:=30) (P:=fun h => Inst h x 448 kv ∧ IsVer h (.ref x) V) (Ok:=VerIt V) hM (fun h z => z.1) (iter_own (C:=448) (kv:=kv) (f:=359) (by walk_at "M fi") (by walk_at "M fn") (fun h z => z.1) ((v_iter (.ref x) V).mono (Nat.le_refl _) (Nat.le_refl _) fun h z => z.2)) (by walk_at "M fi") (by walk_at "M fi") S ⟨I,iv⟩ (fun h h' g z => ⟨z.1.grows g,z.2.grows g⟩)
   (fun h kk la items z => z.sz) (fun h h' kk la items g z => z.up g) hh hd (by lia) fun s' fz' t kk la items gr S' T ok => ?_
 obtain ⟨t1,t2,t3,tp,tb,ps,e,a,b,c⟩:=ok
 subst e
 exact k s' fz' t t1 t2 t3 tp tb ps gr S' T a b c
theorem words_W19_19:True:=by
 k_with "Z19 call type:tuple" => k_dflt (refine' m_vtuple ?_ ?_ ?_ ?_ ?_ ?_ ?_ ?_;rotate_right 8;rotate_left;(·assumption);(·walk_at "M I");(·walk_at "M fact");(·walk_at "M hh");(·walk_at "M depth");(·walk_at "M units");rotate_right;(·rfl);k_whole;intro _ _ _ _ _ _ _ _ _ _ _ _ _ _ _)
 k_with "Z19 compareOp NotEq ref ref" => k_dflt (refine' cmp_ofNotEq ?_;with_reducible refine' St.run (g:=gg _) (by k_dflt (assumption)) (by k_dflt (rfl)) (tups_ne _ _ _ _ _ _ _ _ _ _ _ _ _ _ _ _) (by k_dflt (walk_at "M hh")) (by k_dflt (walk_at "M depth")) (by k_dflt (walk_at "M units")) (by k_dflt (walk_at "M pre")) ?_;walk_at "M run")
 trivial
theorem v_ne (v u:Value) (V U:Ver):Runs (gg γ) (call (.ref 417) [v,u]) 6 60 (fun fz => IsVer fz v V ∧ IsVer fz u U) (fun zz r => r = .bool (!verEq V U)):=by
 intro A s fz Q E hh hd hu sub inv bare pre k
 have p1:=pre.1
 have p2:=pre.2
 obtain ⟨⟨x,tp,tb,k1,k2,kk,t1,t2,t3,t4,t5,t6,ps,ks,rfl,I,I2,I3,I4,I5,I6,I7,I8⟩,⟨y,up,ub,j1,j2,jj,u1,u2,u3,u4,u5,u6,qs,js,rfl,J,J2,J3,J4,J5,J6,J7,J8⟩⟩:=And.intro pre.1.is pre.2.is
 refine' wpAny_call (enter [("other", .ref y),("self", .ref x)] ?h1 sub inv bare ?h2 ?h3 ?h4 ?h5 ?h6 ?h7 ?h8 ?h9 ?h10)
 walk_at "M enter"
 case h10 =>
   intro s₁ L S
   repeat' walk1
   all_goals ((try dsimp only);exact k _ _ _ (St.aft (by assumption)) rfl)
end
theorem words_W20:True:=by
 k_with "Z setAttr ref" => k_extra "q4"
 k_with "Z getMethod ref" => k_extra "q5"
 k_with "Z M enterI" => k_extra "q7"
 k_with "Z getMethod ref" => k_extra "q8"
 trivial
section
set_option tactic.hygienic false
variable {γ:Cfg}
theorem mk_range (op way:Str) (t t':Tok) (tv:Value) (U:Ver) (ok:VOk U):RunsK (gg γ) (.ref 852) [.str op t,tv,.str way t'] [] 10 60 (fun fz => IsVer fz tv U) (fun fz r => IsRng fz r op way U):=by
 w_top off
 intro A s fz R hh hd hu sub inv bare pre k
 have pre0:=pre
 obtain ⟨x,tp,tb,k1,k2,kk,t1,t2,t3,t4,t5,t6,ps,ks,rfl,I,I2,I3,I4,I5,I6,I7,I8⟩:=pre.is
 refine mk_inst sub inv bare (by walk_at "M mk") (by walk_at "M fi") (by walk_at "M fn") fun y dx s' P => ?_
 refine' enterI [("build_policy", .str (Str.ofString "implicit") 1616),("prerelease_policy", .str way t'),("target", .ref x),("operator", .str op t),("self", .ref y)] ?h1 P ?h2 ?h3 ?h4 ?h5 ?h6 ?h7 ?h8 ?h9 ?h10
 walk_at "M enterI"
 case h10 =>
   intro s₁ L S
   have O:OwnI [(y,instObj 852 dx),(dx,dictOf [] 0)] y 852 dx [] 0 0 1 []:=⟨rfl,rfl,trivial⟩
   repeat' walk1
   refine ⟨rfl,?_⟩
   obtain ⟨_,gri,Im,Sm⟩:=St.inst (by assumption) (OwnI.kvs (by assumption))
   refine k _ _ _ Sm.aft ⟨_,_,_,_,_,rfl,Im,?_,ok⟩
   walk_at "M fact"
end
section
set_option tactic.hygienic false
variable {γ:Cfg}
theorem ver_op {op:CmpOp} {f f':Addr} {nd nu:Nat} {V U:Ver} {r0:Value} (v u:Value) (hs1:findIn (mk.heap_1 γ.w.params) (.ref 448) (cmpInfo op).2.1 = some (some (.ref f))) (hf1:isFn (mk.heap_1 γ.w.params) (.ref f) = true) (hs2:findIn (mk.heap_1 γ.w.params) (.ref 448) (cmpInfo op).2.2 = some (some (.ref f'))) (hf2:isFn (mk.heap_1 γ.w.params) (.ref f') = true)
   (R1:∀ v u,Runs (gg γ) (call (.ref f) [v,u]) nd nu (fun fz => IsVer fz v V ∧ IsVer fz u U) (fun zz r => r = r0)) (h0:niNone r0 = some r0):Runs (gg γ) (richCompare op v u) nd (nu + 1) (fun fz => IsVer fz v V ∧ IsVer fz u U) (fun zz r => r = r0):=by
 w_top off
 intro A s fz Q E hh hd hu sub inv bare pre k
 obtain ⟨⟨x,tp,tb,k1,k2,kk,t1,t2,t3,t4,t5,t6,ps,ks,rfl,I,_⟩,⟨y,up,ub,j1,j2,jj,u1,u2,u3,u4,u5,u6,qs,js,rfl,J,_⟩⟩:=And.intro pre.1.is pre.2.is
 exact rc_runs (g:=gg γ) (C:=448) (D:=448) (v2:=.none) (P:=fun h => (Inst h x 448 _ ∧ Inst h y 448 _) ∧ IsVer h (.ref x) V ∧ IsVer h (.ref y) U) (by walk_at "M nf") hs1 hf1 hs2 hf2
   ((R1 (.ref x) (.ref y)).mono (Nat.le_refl _) (Nat.le_refl _) (fun h z => z.2) fun zz zz z => z) (fun q => by rw [h0] at q;cases q) (fun h h' q z => ⟨⟨z.1.1.grows q,z.1.2.grows q⟩,z.2.1.grows q,z.2.2.grows q⟩) (fun h z => z.1) (.inl h0) A s fz Q E hh hd hu sub inv bare ⟨⟨I,J⟩,pre⟩ k
theorem ver_eq (v u:Value) (V U:Ver):Runs (gg γ) (richCompare .Eq v u) 3 31 (fun fz => IsVer fz v V ∧ IsVer fz u U) (fun zz r => r = .bool (verEq V U)) :=
 ver_op (f:=410) (f':=410) v u (by walk_at "M fi") (by walk_at "M fn") (by walk_at "M fi") (by walk_at "M fn") (fun v u => v_eq v u V U) rfl
theorem ver_ne (v u:Value) (V U:Ver):Runs (gg γ) (richCompare .NotEq v u) 6 61 (fun fz => IsVer fz v V ∧ IsVer fz u U) (fun zz r => r = .bool (!verEq V U)) :=
 ver_op (f:=417) (f':=417) v u (by walk_at "M fi") (by walk_at "M fn") (by walk_at "M fi") (by walk_at "M fn") (fun v u => v_ne v u V U) rfl
theorem ver_lt (v u:Value) (V U:Ver):Runs (gg γ) (richCompare .Lt v u) 3 31 (fun fz => IsVer fz v V ∧ IsVer fz u U) (fun zz r => r = .bool (opOrd .Lt (V.ord U))) :=
 ver_op (f:=424) (f':=438) v u (by walk_at "M fi") (by walk_at "M fn") (by walk_at "M fi") (by walk_at "M fn") (fun v u => v_lt v u V U) rfl
theorem ver_le (v u:Value) (V U:Ver):Runs (gg γ) (richCompare .LtE v u) 3 31 (fun fz => IsVer fz v V ∧ IsVer fz u U) (fun zz r => r = .bool (opOrd .LtE (V.ord U))) :=
 ver_op (f:=431) (f':=445) v u (by walk_at "M fi") (by walk_at "M fn") (by walk_at "M fi") (by walk_at "M fn") (fun v u => v_le v u V U) rfl
theorem ver_gt (v u:Value) (V U:Ver):Runs (gg γ) (richCompare .Gt v u) 3 31 (fun fz => IsVer fz v V ∧ IsVer fz u U) (fun zz r => r = .bool (opOrd .Gt (V.ord U))) :=
 ver_op (f:=438) (f':=424) v u (by walk_at "M fi") (by walk_at "M fn") (by walk_at "M fi") (by walk_at "M fn") (fun v u => v_gt v u V U) rfl
theorem ver_ge (v u:Value) (V U:Ver):Runs (gg γ) (richCompare .GtE v u) 3 31 (fun fz => IsVer fz v V ∧ IsVer fz u U) (fun zz r => r = .bool (opOrd .GtE (V.ord U))) :=
 ver_op (f:=445) (f':=431) v u (by walk_at "M fi") (by walk_at "M fn") (by walk_at "M fi") (by walk_at "M fn") (fun v u => v_ge v u V U) rfl
theorem trp (v:Value) (t:Tok) (V:Ver) (ok:VOk V):Runs (gg γ) (call (.ref 309) [v,.str (Str.ofString "prerelease") t]) 50 450 (fun fz => IsVer fz v V) (fun fz r => IsVer fz r V) :=
 (tr_pre v t V ok.words ok.few).mono (Nat.le_refl _) (Nat.le_refl _) (fun zz h => h) fun fz r h => by
   have:(⟨V.ma,V.mi,V.pa,V.pre,if V.pre = [] then [.max] else V.pre.map idOf⟩ : Ver) = V:=by rw [← ok.key]
   rwa [this] at h
noncomputable def Ver.rel (V:Ver):Ver:=⟨V.ma,V.mi,V.pa,[],[.max]⟩
theorem same_rel (U V:Ver):verEq U.rel V.rel = samePatch U V:=by unfold verEq samePatch Ver.rel;simp
theorem ver_eqR (v u:Value) (V U:Ver):Runs (gg γ) (richCompare .Eq v u) 3 31 (fun fz => IsVer fz v V.rel ∧ IsVer fz u U.rel) (fun zz r => r = .bool (samePatch V U)):=by
 rw [← same_rel];exact ver_eq v u V.rel U.rel
structure TupB (h:Heap) (a:Addr) (b:Bool):Prop where
 is:∃ vs,IsTup h a vs ∧ vs.isEmpty = b ∧ (vs.size:Int) < 2 ^ 63
theorem TupB.grows {t:List Addr} {h h':Heap} {a:Addr} {b:Bool} (x:TupB h a b) (k:Grows t h h'):TupB h' a b:=⟨(by obtain ⟨vs,e,r⟩:=x.is;exact ⟨vs,isTup_grows e k,r⟩)⟩
inductive VerA (h:Heap) (v:Value) (b:Bool):Prop
 | mk (x:Addr) (kv:List (Str × Value)) (tp:Addr):v = .ref x → Inst h x 448 kv → kv.lookup (Str.ofString "prerelease") = some (.ref tp) → kv.lookup (Str.ofString "truncate") = none → TupB h tp b → VerA h v b
theorem ver_attr {h:Heap} {v:Value} {V:Ver} {b:Bool} (p:IsVer h v V) (hb:decide (V.pre = []) = b):VerA h v b:=by
 obtain ⟨x,tp,tb,k1,k2,kk,t1,t2,t3,t4,t5,t6,ps,ks,rfl,I,I2,I3,I4,I5,I6,I7,I8⟩:=p.is
 refine ⟨x,_,tp,rfl,I,rfl,rfl,⟨_,I2,?_,by simp only [List.size_toArray];lia⟩⟩
 rw [← hb]
 cases ps with
 | nil => cases hv : V.pre with
   | nil => rfl
   | cons => rw [hv] at I3;exact I3.elim
 | cons => cases hv : V.pre with
   | nil => rw [hv] at I3;exact I3.elim
   | cons => rfl
end
section
set_option tactic.hygienic false
variable {γ:Cfg}
local macro_rules | `(tactic| walk_at $s:str) => do let k:=Lean.Syntax.mkStrLit ("Z22 " ++ s.getString);`(tactic| k_extra $k)
local macro_rules | `(tactic| walk_at "0") => `(tactic| skip)
local macro_rules | `(tactic| walk_at "0") => `(tactic| skip)
theorem truthy_tupB {s₀ s:Shared} {fz₀ fz:Heap} {L a:Addr} {l:List (Str × Value)} {mu:List (Addr × Obj)} {A:Around} {E:Value → Shared → Prop} {M:Model} {b:Bool} {Q:Bool → Shared → Prop} (hM:M = model (gg γ).prog (gg γ).w) (S:St (gg γ) s₀ fz₀ s.heap s.gens s.os fz L l mu) (T:TupB fz a b) (h:Q (!b) { s with toks:=s.toks + 1 + 1 }):wpAny M A (truthy (.ref a)) Q E s:=by
 w_top off
 obtain ⟨vs,T2,rfl,hs⟩:=T.is;exact truthy_tup hM S T2 hs h
theorem words_W22_20:True:=by
 k_with "q10" => k_dflt (refine' truthy_tupB ?_ ?_ ?_ ?_;rotate_right 4;rotate_left;(·assumption);(·first | assumption | (refine' TupB.grows ?_ ?_;rotate_right 2;(·assumption);(·walk_at "M chain")));rotate_right;(·rfl);k_whole)
 k_with "Z22 truthy ref" => k_extra "q10"
 k_with "q11" => k_dflt (refine' g_meth ?_ ?_ ?_ ?_ ?_ ?_ ?_ ?_;rotate_right 8;rotate_left;(·assumption);(·walk_at "M I");(·(with_reducible show plainGet (mk.heap_1 _) _ _ = _);k_is);(·(with_reducible show findIn (mk.heap_1 _) _ _ = _);k_is);(·(with_reducible show isFn (mk.heap_1 _) _ = _);k_is);(·assumption);rotate_right;(·rfl);k_whole)
 k_with "Z22 getMethod ref" => k_extra "q11"
 k_with "q12" => (k_whole;intro _ _ _ _ _ p';(obtain ⟨_,_,_,e',_,_,_,_⟩:=ver_attr p' (by assumption));subst e';revert p';walk_at "I1")
 k_with "Z22 M ver" => k_extra "q12"
 k_with "q13" => (k_whole;intro _ _ _ _ _ p';(obtain ⟨_,_,_,e',_,_,_,_⟩:=ver_attr (b:=true) p' rfl);subst e';revert p';walk_at "I1")
 k_with "Z22 M verR" => k_extra "q13"
 k_with "q14" => k_dflt (first | ((with_reducible show wpAny _ _ (call (Value.ref 309) [_,Value.str _ _] _) _ _ _);with_reducible refine' St.run (g:=gg _) (by k_dflt (assumption)) (by k_dflt (rfl)) (trp _ _ _ ?_) (by k_dflt (walk_at "M hh")) (by k_dflt (walk_at "M depth")) (by k_dflt (walk_at "M units")) (by k_dflt (walk_at "M fact")) ?_;rotate_right 2;(·assumption);walk_at "M ver") | ((with_reducible show wpAny _ _ (call (Value.ref 309) [_] _) _ _ _);with_reducible refine' St.run (g:=gg _) (by k_dflt (assumption)) (by k_dflt (rfl)) (tr_patch _ _) (by k_dflt (walk_at "M hh")) (by k_dflt (walk_at "M depth")) (by k_dflt (walk_at "M units")) (by k_dflt (walk_at "M fact")) ?_;walk_at "M verR"))
 k_with "Z22 call ref" => k_extra "q14"
 k_with "q15" => first | assumption | (refine' IsVer.grows ?_ ?_;rotate_right 2;(·assumption);(·walk_at "M chain"))
 k_with "Z22 M ver1" => k_extra "q15"
 k_with "Z22 M run2" => (k_whole;walk_at "M post")
 k_with "q16" => k_dflt (refine' cmp_ofEq ?_;first | (with_reducible refine' St.run (g:=gg _) (by k_dflt (assumption)) (by k_dflt (rfl)) (ver_eqR _ _ _ _) (by k_dflt (walk_at "M hh")) (by k_dflt (walk_at "M depth")) (by k_dflt (walk_at "M units")) (by k_dflt (walk_at "M pre2")) ?_;walk_at "M run2") | (with_reducible refine' St.run (g:=gg _) (by k_dflt (assumption)) (by k_dflt (rfl)) (ver_eq _ _ _ _) (by k_dflt (walk_at "M hh")) (by k_dflt (walk_at "M depth")) (by k_dflt (walk_at "M units")) (by k_dflt (walk_at "M pre")) ?_;walk_at "M run"))
 k_with "Z22 compareOp Eq ref ref" => k_extra "q16"
 k_with "q17" => k_dflt (refine' cmp_ofNotEq ?_;with_reducible refine' St.run (g:=gg _) (by k_dflt (assumption)) (by k_dflt (rfl)) (ver_ne _ _ _ _) (by k_dflt (walk_at "M hh")) (by k_dflt (walk_at "M depth")) (by k_dflt (walk_at "M units")) (by k_dflt (walk_at "M pre")) ?_;walk_at "M run")
 k_with "Z22 compareOp NotEq ref ref" => k_extra "q17"
 k_with "q18" => k_dflt (refine' cmp_ofLt ?_;with_reducible refine' St.run (g:=gg _) (by k_dflt (assumption)) (by k_dflt (rfl)) (ver_lt _ _ _ _) (by k_dflt (walk_at "M hh")) (by k_dflt (walk_at "M depth")) (by k_dflt (walk_at "M units")) (by k_dflt (walk_at "M pre")) ?_;walk_at "M run")
 k_with "Z22 compareOp Lt ref ref" => k_extra "q18"
 k_with "q19" => k_dflt (refine' cmp_ofLtE ?_;with_reducible refine' St.run (g:=gg _) (by k_dflt (assumption)) (by k_dflt (rfl)) (ver_le _ _ _ _) (by k_dflt (walk_at "M hh")) (by k_dflt (walk_at "M depth")) (by k_dflt (walk_at "M units")) (by k_dflt (walk_at "M pre")) ?_;walk_at "M run")
 k_with "Z22 compareOp LtE ref ref" => k_extra "q19"
 k_with "q20" => k_dflt (refine' cmp_ofGt ?_;with_reducible refine' St.run (g:=gg _) (by k_dflt (assumption)) (by k_dflt (rfl)) (ver_gt _ _ _ _) (by k_dflt (walk_at "M hh")) (by k_dflt (walk_at "M depth")) (by k_dflt (walk_at "M units")) (by k_dflt (walk_at "M pre")) ?_;walk_at "M run")
 k_with "Z22 compareOp Gt ref ref" => k_extra "q20"
 k_with "q21" => k_dflt (refine' cmp_ofGtE ?_;with_reducible refine' St.run (g:=gg _) (by k_dflt (assumption)) (by k_dflt (rfl)) (ver_ge _ _ _ _) (by k_dflt (walk_at "M hh")) (by k_dflt (walk_at "M depth")) (by k_dflt (walk_at "M units")) (by k_dflt (walk_at "M pre")) ?_;walk_at "M run")
 k_with "Z22 compareOp GtE ref ref" => k_extra "q21"
 trivial
theorem rmatch0 (v u:Value) (op way:Str) (U V:Ver) (hop:OpOk op) (okV:VOk V) (hVb:decide (V.pre = []) = true):Runs (gg γ) (call (.ref 821) [v,u]) 60 600 (fun fz => IsRng fz v op way U ∧ IsVer fz u V) (fun zz r => r = .bool (rngHolds op way U V)):=by
 intro A s fz Q E hh hd hu sub inv bare pre k
 obtain ⟨⟨x,t1,t2,t3,tv,rfl,I,iv,okU⟩,pv⟩:=pre
 obtain ⟨x',kv',tp',e',I',kp',kt',T'⟩:=ver_attr pv hVb
 subst e'
 obtain ⟨ux,ukv,utp,ue,uI,ukp,ukt,uT⟩:=ver_attr iv rfl
 subst ue
 refine' wpAny_call (enter [("version", .ref x'),("self", .ref x)] ?h1 sub inv bare ?h2 ?h3 ?h4 ?h5 ?h6 ?h7 ?h8 ?h9 ?h10)
 walk_at "M enter"
 case h10 =>
   intro s₁ L S
   repeat' walk1
   all_goals try dsimp only
   all_goals first
     | (refine' k _ _ _ (St.aft (by assumption)) (rng_of ?ha ?hb ?hc ?hd ?h1 ?h2 ?h3 ?h4 ?h5 ?g1 ?g2 ?he)
        (case ha => with_reducible assumption)
        (case hb => first | (show decide (U.pre = []) = true;with_reducible assumption) | (show decide (U.pre = []) = false;with_reducible assumption) | exact decide_eq_true (by with_reducible assumption) | exact decide_eq_false (by with_reducible assumption) | exact (Bool.not_eq_false' _).mp (by with_reducible assumption) | rfl)
        (case hc => first | (show samePatch U V = true;with_reducible assumption) | (show samePatch U V = false;with_reducible assumption) | rfl)
        (case hd => first | (show samePatch V U = true;with_reducible assumption) | (show samePatch V U = false;with_reducible assumption) | rfl)
        (case h1 => first | (show _ = true;with_reducible assumption) | (show _ = false;with_reducible assumption) | rfl)
        (case h2 => first | (show _ = true;with_reducible assumption) | (show _ = false;with_reducible assumption) | rfl)
        (case h3 => first | (show _ = true;with_reducible assumption) | (show _ = false;with_reducible assumption) | rfl)
        (case h4 => first | (show _ = true;with_reducible assumption) | (show _ = false;with_reducible assumption) | rfl)
        (case h5 => first | (show _ = true;with_reducible assumption) | (show _ = false;with_reducible assumption) | rfl)
        (case g1 => first | (show _ = true;with_reducible assumption) | (show _ = false;with_reducible assumption) | rfl)
        (case g2 => first | (show _ = true;with_reducible assumption) | (show _ = false;with_reducible assumption) | rfl)
        (case he => first | rfl | (simp only [rngB,Bool.not_true,Bool.not_false,Bool.true_and,Bool.false_and,Bool.and_true,Bool.and_false,Bool.false_eq_true,if_true,if_false,ite_self];done) | (simp [rngB];done)))
     | (rcases hop with rfl | rfl | rfl | rfl | rfl | rfl
        · exact absurd (show (Str.ofString "==" == Str.ofString "==") = false by with_reducible assumption) (by decide)
        · rfl
        · exact absurd (show (Str.ofString "<" == Str.ofString "<") = false by with_reducible assumption) (by decide)
        · exact absurd (show (Str.ofString "<=" == Str.ofString "<=") = false by with_reducible assumption) (by decide)
        · exact absurd (show (Str.ofString ">" == Str.ofString ">") = false by with_reducible assumption) (by decide)
        · exact absurd (show (Str.ofString ">=" == Str.ofString ">=") = false by with_reducible assumption) (by decide))
     | skip
end
section
set_option tactic.hygienic false
variable {γ:Cfg}
local macro_rules | `(tactic| walk_at $s:str) => do let k:=Lean.Syntax.mkStrLit ("Z23 " ++ s.getString);`(tactic| k_extra $k)
theorem words_W23_21:True:=by
 w_top off
 k_with "Z23 truthy ref" => k_extra "q10"
 k_with "Z23 getMethod ref" => k_extra "q11"
 k_with "Z23 M ver" => k_extra "q12"
 k_with "Z23 M verR" => k_extra "q13"
 k_with "Z23 call ref" => k_extra "q14"
 k_with "Z23 M ver1" => k_extra "q15"
 k_with "Z23 M run2" => (k_whole;walk_at "M post")
 k_with "Z23 compareOp Eq ref ref" => k_extra "q16"
 k_with "Z23 compareOp NotEq ref ref" => k_extra "q17"
 k_with "Z23 compareOp Lt ref ref" => k_extra "q18"
 k_with "Z23 compareOp LtE ref ref" => k_extra "q19"
 k_with "Z23 compareOp Gt ref ref" => k_extra "q20"
 k_with "Z23 compareOp GtE ref ref" => k_extra "q21"
 trivial
theorem rmatch1 (v u:Value) (op way:Str) (U V:Ver) (hop:OpOk op) (okV:VOk V) (hVb:decide (V.pre = []) = false):Runs (gg γ) (call (.ref 821) [v,u]) 60 600 (fun fz => IsRng fz v op way U ∧ IsVer fz u V) (fun zz r => r = .bool (rngHolds op way U V)):=by
 intro A s fz Q E hh hd hu sub inv bare pre k
 obtain ⟨⟨x,t1,t2,t3,tv,rfl,I,iv,okU⟩,pv⟩:=pre
 obtain ⟨x',kv',tp',e',I',kp',kt',T'⟩:=ver_attr pv hVb
 subst e'
 obtain ⟨ux,ukv,utp,ue,uI,ukp,ukt,uT⟩:=ver_attr iv rfl
 subst ue
 refine' wpAny_call (enter [("version", .ref x'),("self", .ref x)] ?h1 sub inv bare ?h2 ?h3 ?h4 ?h5 ?h6 ?h7 ?h8 ?h9 ?h10)
 walk_at "M enter"
 case h10 =>
   intro s₁ L S
   iterate 20 walk1
   refine' y_cutS (((way == Str.ofString "same-patch") && !samePatch U V) = false) _ (by with_reducible assumption) (fun N hN hR => ?cutA) (fun ph s5 f5 G5 S5 => ?cutB)
   case cutA =>
     repeat' walk1
     all_goals first
       | exact hR _ _ (k _ _ _ (St.aft (by with_reducible assumption)) (rng_out hVb (by with_reducible assumption) (by first | with_reducible assumption | exact bnt (by with_reducible assumption))))
       | exact hN _ _ (by first | (rw [show samePatch U V = true by first | with_reducible assumption | exact bnf (by with_reducible assumption)];exact Bool.and_false _) | (rw [show (way == Str.ofString "same-patch") = false by with_reducible assumption];rfl)) (by with_reducible assumption) (by walk_at "M chain")
   case cutB =>
     repeat' walk1
     all_goals try dsimp only
     all_goals first
       | (refine' k _ _ _ (St.aft (by assumption)) (rng_of2 hVb ph ?hb ?hd ?h1 ?h2 ?h3 ?h4 ?h5 ?g2 ?he)
          (case hb => first | (show decide (U.pre = []) = true;first | with_reducible assumption | exact bnf (by with_reducible assumption)) | (show decide (U.pre = []) = false;first | with_reducible assumption | exact bnt (by with_reducible assumption)) | exact decide_eq_true (by with_reducible assumption) | exact decide_eq_false (by with_reducible assumption) | rfl)
          (case hd => first | (show samePatch V U = true;with_reducible assumption) | (show samePatch V U = false;with_reducible assumption) | rfl)
          (case h1 => first | (show _ = true;with_reducible assumption) | (show _ = false;with_reducible assumption) | rfl)
          (case h2 => first | (show _ = true;with_reducible assumption) | (show _ = false;with_reducible assumption) | rfl)
          (case h3 => first | (show _ = true;with_reducible assumption) | (show _ = false;with_reducible assumption) | rfl)
          (case h4 => first | (show _ = true;with_reducible assumption) | (show _ = false;with_reducible assumption) | rfl)
          (case h5 => first | (show _ = true;with_reducible assumption) | (show _ = false;with_reducible assumption) | rfl)
          (case g2 => first | (show _ = true;with_reducible assumption) | (show _ = false;with_reducible assumption) | rfl)
          (case he => first | rfl | (simp only [rngC,Bool.not_true,Bool.not_false,Bool.true_and,Bool.false_and,Bool.and_true,Bool.and_false,Bool.false_eq_true,if_true,if_false,ite_self];done) | (simp [rngC];done)))
       | (rcases hop with rfl | rfl | rfl | rfl | rfl | rfl
          · exact absurd (show (Str.ofString "==" == Str.ofString "==") = false by with_reducible assumption) (by decide)
          · rfl
          · exact absurd (show (Str.ofString "<" == Str.ofString "<") = false by with_reducible assumption) (by decide)
          · exact absurd (show (Str.ofString "<=" == Str.ofString "<=") = false by with_reducible assumption) (by decide)
          · exact absurd (show (Str.ofString ">" == Str.ofString ">") = false by with_reducible assumption) (by decide)
          · exact absurd (show (Str.ofString ">=" == Str.ofString ">=") = false by with_reducible assumption) (by decide))
       | skip
end
theorem words_W24:True:=by
 k_with "Z M cell" => first | with_reducible assumption | ((with_reducible refine' cell_grows ?_ ?_ ?_);rotate_right 3;rotate_left;(·with_reducible assumption);(·walk_at "M chain");rotate_right;(·exact St.inv (by with_reducible assumption)))
 k_with "Z M fact" => first | with_reducible assumption | ((with_reducible refine' IsC.grows ?_ ?_);rotate_right 2;rotate_left;(·with_reducible assumption);rotate_right;(·walk_at "M chain")) | ((with_reducible refine' AllC.grows ?_ ?_);rotate_right 2;rotate_left;(·with_reducible assumption);rotate_right;(·walk_at "M chain"))
 k_with "Z M enterC" => ((case h2 => (with_reducible show (mk.heap_1 _).lookup _ = _);k_is);(case h1 => lia);(case h3 => (with_reducible show codeIn (mk.heap_1 _) _ _ = _);k_is);(case h4 => rfl);(case h5 => rfl);(case h6 => (walk_at "I1"; rfl));(case h7 => (walk_at "I1"; exact bindL_two rfl rfl));(case h8 => (walk_at "I1"; rfl));(case h9 => rfl);(case h11 => rfl);(case h12 => rfl))
 k_with "Z eval GeneratorExp" => k_dflt (first | ((with_reducible show wpAny _ _ (eval _ (envX (Str.ofString "AnyOf.match") _ _ _ _ _)) _ _ _);refine' gen_make (P:=537) ?_ ?_ ?_ ?_ ?_ ?_ ?_ ?_ ?_ ?_ ?_ ?_ ?_ ?_;rotate_right 14;rotate_left;(·assumption);(·walk_at "M depth");(·rfl);(·(with_reducible show codeHdIn (mk.heap_1 _) _ _ = _);kernel_rfl);(·(show _ ∈ [383,537,556,608,627];decide));(·rfl);(·rfl);(·rfl);(·decide);(·rfl);(·rfl);(·(walk_at "I1"; rfl));rotate_right;(·rfl);k_whole) | ((with_reducible show wpAny _ _ (eval _ (envX (Str.ofString "AnyOf.__eq__") _ _ _ _ _)) _ _ _);refine' gen_make (P:=556) ?_ ?_ ?_ ?_ ?_ ?_ ?_ ?_ ?_ ?_ ?_ ?_ ?_ ?_;rotate_right 14;rotate_left;(·assumption);(·walk_at "M depth");(·rfl);(·(with_reducible show codeHdIn (mk.heap_1 _) _ _ = _);kernel_rfl);(·(show _ ∈ [383,537,556,608,627];decide));(·rfl);(·rfl);(·rfl);(·decide);(·rfl);(·rfl);(·(walk_at "I1"; rfl));rotate_right;(·rfl);k_whole) | ((with_reducible show wpAny _ _ (eval _ (envX (Str.ofString "AllOf.match") _ _ _ _ _)) _ _ _);refine' gen_make (P:=608) ?_ ?_ ?_ ?_ ?_ ?_ ?_ ?_ ?_ ?_ ?_ ?_ ?_ ?_;rotate_right 14;rotate_left;(·assumption);(·walk_at "M depth");(·rfl);(·(with_reducible show codeHdIn (mk.heap_1 _) _ _ = _);kernel_rfl);(·(show _ ∈ [383,537,556,608,627];decide));(·rfl);(·rfl);(·rfl);(·decide);(·rfl);(·rfl);(·(walk_at "I1"; rfl));rotate_right;(·rfl);k_whole) | ((with_reducible show wpAny _ _ (eval _ (envX (Str.ofString "AllOf.__eq__") _ _ _ _ _)) _ _ _);refine' gen_make (P:=627) ?_ ?_ ?_ ?_ ?_ ?_ ?_ ?_ ?_ ?_ ?_ ?_ ?_ ?_;rotate_right 14;rotate_left;(·assumption);(·walk_at "M depth");(·rfl);(·(with_reducible show codeHdIn (mk.heap_1 _) _ _ = _);kernel_rfl);(·(show _ ∈ [383,537,556,608,627];decide));(·rfl);(·rfl);(·rfl);(·decide);(·rfl);(·rfl);(·(walk_at "I1"; rfl));rotate_right;(·rfl);k_whole))
 k_with "q22" => ((with_reducible refine' St.run ?_ ?_ ?_ ?_ ?_ ?_ ?_ ?_);rotate_right 8;rotate_left 2;(·with_reducible assumption);rotate_right 2;(·assumption);(·rfl);(·walk_at "M hh");(·walk_at "M depth");(·walk_at "M units");(·walk_at "M pre");walk_at "M run")
 k_with "Z call ref" => k_extra "q22"
 k_with "Z call builtin:any" => k_dflt (refine' any_gen ?_ ?_ ?_ ?_ ?_ ?_;rotate_right 6;rotate_left;(·assumption);(·walk_at "M hh");(·walk_at "M depth");(·walk_at "M units");rotate_right;(·rfl);k_whole;walk_at "I4")
 k_with "Z call builtin:all" => k_dflt (refine' all_gen ?_ ?_ ?_ ?_ ?_ ?_;rotate_right 6;rotate_left;(·assumption);(·walk_at "M hh");(·walk_at "M depth");(·walk_at "M units");rotate_right;(·rfl);k_whole;walk_at "I4")
 trivial
section
set_option tactic.hygienic true
variable {γ:Cfg}
noncomputable def Cl.mfn:Cl → Addr
 | .never => 705
 | .always => 759
 | .rng .. => 821
 | .any _ => 542
 | .all _ => 613
theorem match_any (n:Nat) (cs:List Cl) (V:Ver) (ih:∀ c ∈ cs,∀ v u,Runs (gg γ) (call (.ref c.mfn) [v,u]) (60 + 5 * n) (600 + 50 * n) (fun h => IsC h v c ∧ IsVer h u V) (fun zz r => r = .bool (c.holds V))) (v u:Value) :
   Runs (gg γ) (call (.ref 542) [v,u]) (60 + 5 * (n + 1)) (600 + 50 * (n + 1)) (fun h => IsC h v (.any cs) ∧ IsVer h u V) (fun zz r => r = .bool (Cl.holds V (.any cs))):=by
 w_top off
 intro A s fz Q E hh hd hu sub inv bare pre k
 obtain ⟨pc,pv⟩:=pre
 cases pc with
 | any I hl ha hz =>
   rename_i x la vs
   refine' wpAny_call (enterC (x:=Str.ofString "version") (v:=u) [(Str.ofString "self", .ref x)] [(Str.ofString "self", .ref x),(Str.ofString "version", u)] ?h1 sub inv bare ?h2 ?h3 ?h4 ?h5 ?h6 ?h7 ?h8 ?h9 ?h11 ?h12 ?h10)
   walk_at "M enterC"
   case h10 =>
     intro s₁ fz' L c gr hc S
     repeat' walk1
     refine' ⟨true,la,vs.toArray,fz',_,_,60 + 5 * n,600 + 50 * n,fun j v zz => v = .bool ((cs[j]?.map (Cl.holds V)).getD false),rfl,?Sg,?Cg,⟨?Bg⟩,?Kg⟩
     (case Sg => assumption)
     (case Cg => exact isList_grows hl gr)
     (case Bg =>
       intro A' s' s0 f f0 C code it mu i v Q' E' hh' hd' hu' hv gr' S' k'
       obtain ⟨d,hd0,pd⟩:=ha.get (by simpa using hv)
       have R:=ih d (List.mem_of_getElem? hd0) v u
       have pd0:IsC f v d:=IsC.grows (gr.trans gr') pd
       have pu:IsVer f u V:=pv.grows (gr.trans gr')
       have hc':f.IsCell c (some u):=cell_grows S.inv hc gr'
       have hr:Value.bool (d.holds V) = .bool ((cs[i]?.map (Cl.holds V)).getD false):=by rw [hd0];rfl
       cases pd with
       | never J => simp only [Cl.mfn] at R
                    repeat' walk1
                    all_goals (refine k' _ _ _ ?_ (by assumption) hr;walk_at "M chain")
       | always J => simp only [Cl.mfn] at R
                     repeat' walk1
                     all_goals (refine k' _ _ _ ?_ (by assumption) hr;walk_at "M chain")
       | rng J _ => obtain ⟨_, _, _, _, _, rfl, J, _⟩ := J
                    simp only [Cl.mfn] at R
                    repeat' walk1
                    all_goals (refine k' _ _ _ ?_ (by assumption) hr;walk_at "M chain")
       | any J => simp only [Cl.mfn] at R
                  repeat' walk1
                  all_goals (refine k' _ _ _ ?_ (by assumption) hr;walk_at "M chain")
       | all J => simp only [Cl.mfn] at R
                  repeat' walk1
                  all_goals (refine k' _ _ _ ?_ (by assumption) hr;walk_at "M chain"))
     (case Kg =>
       intro s' fz2 a G X
       repeat' walk1
       all_goals (
         have e:Cl.holds V (.any cs) = ((List.range vs.toArray.size).any fun j => (Option.map (Cl.holds V) cs[j]?).getD false):=by
           rw [List.size_toArray,ha.length,range_any];exact anyH_any cs
         rw [← e];exact k _ _ _ (St.aft (by assumption)) rfl))
end
section
set_option tactic.hygienic true
variable {γ:Cfg}
theorem match_all (n:Nat) (cs:List Cl) (V:Ver) (ih:∀ c ∈ cs,∀ v u,Runs (gg γ) (call (.ref c.mfn) [v,u]) (60 + 5 * n) (600 + 50 * n) (fun h => IsC h v c ∧ IsVer h u V) (fun zz r => r = .bool (c.holds V))) (v u:Value) :
   Runs (gg γ) (call (.ref 613) [v,u]) (60 + 5 * (n + 1)) (600 + 50 * (n + 1)) (fun h => IsC h v (.all cs) ∧ IsVer h u V) (fun zz r => r = .bool (Cl.holds V (.all cs))):=by
 w_top off
 intro A s fz Q E hh hd hu sub inv bare pre k
 obtain ⟨pc,pv⟩:=pre
 cases pc with
 | all I hl ha hz =>
   rename_i x la vs
   refine' wpAny_call (enterC (x:=Str.ofString "version") (v:=u) [(Str.ofString "self", .ref x)] [(Str.ofString "self", .ref x),(Str.ofString "version", u)] ?h1 sub inv bare ?h2 ?h3 ?h4 ?h5 ?h6 ?h7 ?h8 ?h9 ?h11 ?h12 ?h10)
   walk_at "M enterC"
   case h10 =>
     intro s₁ fz' L c gr hc S
     repeat' walk1
     refine' ⟨true,la,vs.toArray,fz',_,_,60 + 5 * n,600 + 50 * n,fun j v zz => v = .bool ((cs[j]?.map (Cl.holds V)).getD false),rfl,?Sg,?Cg,⟨?Bg⟩,?Kg⟩
     (case Sg => assumption)
     (case Cg => exact isList_grows hl gr)
     (case Bg =>
       intro A' s' s0 f f0 C code it mu i v Q' E' hh' hd' hu' hv gr' S' k'
       obtain ⟨d,hd0,pd⟩:=ha.get (by simpa using hv)
       have R:=ih d (List.mem_of_getElem? hd0) v u
       have pd0:IsC f v d:=IsC.grows (gr.trans gr') pd
       have pu:IsVer f u V:=pv.grows (gr.trans gr')
       have hc':f.IsCell c (some u):=cell_grows S.inv hc gr'
       have hr:Value.bool (d.holds V) = .bool ((cs[i]?.map (Cl.holds V)).getD false):=by rw [hd0];rfl
       cases pd with
       | never J => simp only [Cl.mfn] at R
                    repeat' walk1
                    all_goals (refine k' _ _ _ ?_ (by assumption) hr;walk_at "M chain")
       | always J => simp only [Cl.mfn] at R
                     repeat' walk1
                     all_goals (refine k' _ _ _ ?_ (by assumption) hr;walk_at "M chain")
       | rng J _ => obtain ⟨_, _, _, _, _, rfl, J, _⟩ := J
                    simp only [Cl.mfn] at R
                    repeat' walk1
                    all_goals (refine k' _ _ _ ?_ (by assumption) hr;walk_at "M chain")
       | any J => simp only [Cl.mfn] at R
                  repeat' walk1
                  all_goals (refine k' _ _ _ ?_ (by assumption) hr;walk_at "M chain")
       | all J => simp only [Cl.mfn] at R
                  repeat' walk1
                  all_goals (refine k' _ _ _ ?_ (by assumption) hr;walk_at "M chain"))
     (case Kg =>
       intro s' fz2 a G X
       repeat' walk1
       all_goals (
         have e:Cl.holds V (.all cs) = ((List.range vs.toArray.size).all fun j => (Option.map (Cl.holds V) cs[j]?).getD false):=by
           rw [List.size_toArray,ha.length,range_all];exact allH_all cs
         rw [← e];exact k _ _ _ (St.aft (by assumption)) rfl))
theorem match_never (v u:Value) (V:Ver):Runs (gg γ) (call (.ref 705) [v,u]) 2 20 (fun h => IsC h v .never ∧ IsVer h u V) (fun zz r => r = .bool false):=by
 intro A s fz Q E hh hd hu sub inv bare pre k
 obtain ⟨pc,pv⟩:=pre
 cases pc with
 | never I =>
   rename_i x
   refine' wpAny_call (enter [(Str.ofString "version", u),(Str.ofString "self", .ref x)] ?h1 sub inv bare ?h2 ?h3 ?h4 ?h5 ?h6 ?h7 ?h8 ?h9 ?h10)
   walk_at "M enter"
   case h10 =>
     intro s₁ L S
     repeat' walk1
     all_goals exact k _ _ _ (St.aft (by assumption)) rfl
theorem match_always (v u:Value) (V:Ver):Runs (gg γ) (call (.ref 759) [v,u]) 2 20 (fun h => IsC h v .always ∧ IsVer h u V) (fun zz r => r = .bool true):=by
 intro A s fz Q E hh hd hu sub inv bare pre k
 obtain ⟨pc,pv⟩:=pre
 cases pc with
 | always I =>
   rename_i x
   refine' wpAny_call (enter [(Str.ofString "version", u),(Str.ofString "self", .ref x)] ?h1 sub inv bare ?h2 ?h3 ?h4 ?h5 ?h6 ?h7 ?h8 ?h9 ?h10)
   walk_at "M enter"
   case h10 =>
     intro s₁ L S
     repeat' walk1
     all_goals exact k _ _ _ (St.aft (by assumption)) rfl
theorem rmatch (v u:Value) (op way:Str) (U V:Ver) (okV:VOk V):Runs (gg γ) (call (.ref 821) [v,u]) 60 600 (fun fz => IsC fz v (.rng op way U) ∧ IsVer fz u V) (fun zz r => r = .bool (rngHolds op way U V)):=by
 intro A s fz Q E hh hd hu sub inv bare pre k
 obtain ⟨pc,pv⟩:=pre
 cases pc with
 | rng r o =>
   cases hb:decide (V.pre = []) with
   | true => exact rmatch0 v u op way U V o okV hb A s fz Q E hh hd hu sub inv bare ⟨r,pv⟩ k
   | false => exact rmatch1 v u op way U V o okV hb A s fz Q E hh hd hu sub inv bare ⟨r,pv⟩ k
theorem c_match (V:Ver) (ok:VOk V):∀ (n:Nat) (c:Cl),c.dep ≤ n → ∀ v u,Runs (gg γ) (call (.ref c.mfn) [v,u]) (60 + 5 * n) (600 + 50 * n) (fun h => IsC h v c ∧ IsVer h u V) (fun zz r => r = .bool (c.holds V))
 | n,.never,_,v,u => (match_never v u V).mono (by lia) (by lia) (fun zz h => h) fun zz zz h => h
 | n,.always,_,v,u => (match_always v u V).mono (by lia) (by lia) (fun zz h => h) fun zz zz h => h
 | n,.rng op way U,_,v,u => (rmatch v u op way U V ok).mono (by lia) (by lia) (fun zz h => h) fun zz zz h => h
 | 0,.any cs,h,_,_ => absurd h (Nat.not_succ_le_zero _)
 | 0,.all cs,h,_,_ => absurd h (Nat.not_succ_le_zero _)
 | n + 1,.any cs,h,v,u => match_any n cs V (fun c hc v u => c_match V ok n c (Nat.le_trans (dep_le hc) (Nat.le_of_succ_le_succ h)) v u) v u
 | n + 1,.all cs,h,v,u => match_all n cs V (fun c hc v u => c_match V ok n c (Nat.le_trans (dep_le hc) (Nat.le_of_succ_le_succ h)) v u) v u
end
section
set_option tactic.hygienic true
variable {γ:Cfg}
local macro_rules | `(tactic| walk_at $s:str) => do let k:=Lean.Syntax.mkStrLit ("Z26 " ++ s.getString);`(tactic| k_extra $k)
local macro_rules | `(tactic| walk_at "0") => `(tactic| skip)
noncomputable def Cl.efn:Cl → Addr
 | .never => 719
 | .always => 773
 | .rng .. => 835
 | .any _ => 561
 | .all _ => 632
theorem words_W26_22:True:=by
 w_top off
 k_with "Z26 compareOp Eq ref ref" => k_dflt (refine' cmp_ofEq ?_;with_reducible refine' St.run (g:=gg _) (by k_dflt (assumption)) (by k_dflt (rfl)) (ver_eq _ _ _ _) (by k_dflt (walk_at "M hh")) (by k_dflt (walk_at "M depth")) (by k_dflt (walk_at "M units")) (by k_dflt (walk_at "M pre")) ?_;walk_at "M run")
 trivial
theorem eq_never (n:Nat) (d:Cl) (v u:Value):Runs (gg γ) (call (.ref 719) [v,u]) 3 30 (fun h => IsC h v .never ∧ IsC h u d) (fun zz r => r = .bool (Cl.eqn (n + 1) .never d)):=by
 intro A s fz Q E hh hd hu sub inv bare pre k
 obtain ⟨pc,pd⟩:=pre
 obtain ⟨y,kv,rfl,J⟩:=pd.inst
 cases pc with
 | never I =>
   rename_i x
   refine' wpAny_call (enter [(Str.ofString "other", .ref y),(Str.ofString "self", .ref x)] ?h1 sub inv bare ?h2 ?h3 ?h4 ?h5 ?h6 ?h7 ?h8 ?h9 ?h10)
   walk_at "M enter"
   case h10 =>
     intro s₁ L S
     cases d <;> (simp only [Cl.cls] at J) <;> repeat' walk1
     all_goals ((try dsimp only);exact k _ _ _ (St.aft (by assumption)) rfl)
theorem eq_always (n:Nat) (d:Cl) (v u:Value):Runs (gg γ) (call (.ref 773) [v,u]) 3 30 (fun h => IsC h v .always ∧ IsC h u d) (fun zz r => r = .bool (Cl.eqn (n + 1) .always d)):=by
 intro A s fz Q E hh hd hu sub inv bare pre k
 obtain ⟨pc,pd⟩:=pre
 obtain ⟨y,kv,rfl,J⟩:=pd.inst
 cases pc with
 | always I =>
   rename_i x
   refine' wpAny_call (enter [(Str.ofString "other", .ref y),(Str.ofString "self", .ref x)] ?h1 sub inv bare ?h2 ?h3 ?h4 ?h5 ?h6 ?h7 ?h8 ?h9 ?h10)
   walk_at "M enter"
   case h10 =>
     intro s₁ L S
     cases d <;> (simp only [Cl.cls] at J) <;> repeat' walk1
     all_goals ((try dsimp only);exact k _ _ _ (St.aft (by assumption)) rfl)
theorem eq_rng (n:Nat) (op way:Str) (U:Ver) (d:Cl) (v u:Value):Runs (gg γ) (call (.ref 835) [v,u]) 8 60 (fun h => IsC h v (.rng op way U) ∧ IsC h u d) (fun zz r => r = .bool (Cl.eqn (n + 1) (.rng op way U) d)):=by
 intro A s fz Q E hh hd hu sub inv bare pre k
 obtain ⟨pc,pd⟩:=pre
 obtain ⟨y,kv,rfl,J⟩:=pd.inst
 cases pc with
 | rng r _ =>
   obtain ⟨x,t1,t2,t3,tv,rfl,I,iv,_⟩:=r
   obtain ⟨tx,tkv,ttp,te,tI,tkp,tkt,tT⟩:=ver_attr iv rfl
   subst te
   refine' wpAny_call (enter [(Str.ofString "other", .ref y),(Str.ofString "self", .ref x)] ?h1 sub inv bare ?h2 ?h3 ?h4 ?h5 ?h6 ?h7 ?h8 ?h9 ?h10)
   walk_at "M enter"
   case h10 =>
     intro s₁ L S
     cases pd with
     | rng r' _ =>
       obtain ⟨y',u1,u2,u3,uv,eq',J',jv,_⟩:=r'
       cases eq'
       obtain ⟨ux,ukv,utp,ue,uI,ukp,ukt,uT⟩:=ver_attr jv rfl
       subst ue
       clear J
       repeat' walk1
       all_goals ((try dsimp only);refine k _ _ _ (St.aft (by assumption)) (congrArg Value.bool ?_);rw [eqnRng])
       all_goals first
         | (rw [show (op == _) = true by with_reducible assumption,show verEq _ _ = true by with_reducible assumption];rfl)
         | (rw [show (op == _) = true by with_reducible assumption,show verEq _ _ = false by with_reducible assumption];rfl)
         | (rw [show (op == _) = false by with_reducible assumption];rfl)
         | skip
     | never => (simp only [Cl.cls] at J); repeat' walk1
                all_goals ((try dsimp only);exact k _ _ _ (St.aft (by assumption)) rfl)
     | always => (simp only [Cl.cls] at J); repeat' walk1
                 all_goals ((try dsimp only);exact k _ _ _ (St.aft (by assumption)) rfl)
     | any => (simp only [Cl.cls] at J); repeat' walk1
              all_goals ((try dsimp only);exact k _ _ _ (St.aft (by assumption)) rfl)
     | all => (simp only [Cl.cls] at J); repeat' walk1
              all_goals ((try dsimp only);exact k _ _ _ (St.aft (by assumption)) rfl)
end
section
set_option tactic.hygienic true
variable {γ:Cfg}
local macro_rules | `(tactic| walk_at $s:str) => do let k:=Lean.Syntax.mkStrLit ("Z27 " ++ s.getString);`(tactic| k_extra $k)
local macro_rules | `(tactic| walk_at "0") => `(tactic| skip)
local macro_rules | `(tactic| walk_at "0") => `(tactic| skip)
theorem words_W27_23:True:=by
 w_top off
 k_with "q23" => k_dflt (refine' m_in ?_ ?_ ?_ ?_ ?_ ?_ ?_ ?_ ?_ ?_;rotate_right 10;rotate_left 3;(·with_reducible assumption);(·with_reducible assumption);(·walk_at "M pre");(·walk_at "M hh");(·walk_at "M depth");(·walk_at "M units");rotate_right 3;(·rfl);(·assumption);(·refine' isList_sub ?_ ?_;rotate_right 2;(·walk_at "M fact");(·exact St.le (by assumption)));k_whole;walk_at "I4")
 k_with "Z27 compareOp In ref ref" => k_extra "q23"
 k_with "q24" => k_dflt (refine' m_len ?_ ?_ ?_ ?_ ?_;rotate_right 5;rotate_left;(·assumption);(·refine' isList_sub ?_ ?_;rotate_right 2;(·walk_at "M fact");(·exact St.le (by assumption)));(·(simp only [List.size_toArray];lia));rotate_right;(·rfl);k_whole;walk_at "I1")
 k_with "Z27 call builtin:len" => k_extra "q24"
 trivial
theorem eq_any (n:Nat) (cs:List Cl) (d:Cl) (ih:∀ ds,d = .any ds → ∀ c ∈ cs,∀ e ∈ ds,∀ v u,Runs (gg γ) (eqBool v u) (10 + 6 * n) (100 + 60 * n) (fun h => IsC h v e ∧ IsC h u c) (fun zz r => r = Cl.eqn (n + 1) e c)) (v u:Value) :
   Runs (gg γ) (call (.ref 561) [v,u]) (10 + 6 * (n + 1)) (80 + 60 * (n + 1)) (fun h => IsC h v (.any cs) ∧ IsC h u d) (fun zz r => r = .bool (Cl.eqn (n + 2) (.any cs) d)):=by
 intro A s fz Q E hh hd hu sub inv bare pre k
 obtain ⟨pc,pd⟩:=pre
 obtain ⟨y,kv,rfl,J⟩:=pd.inst
 cases pc with
 | any I hl ha hz =>
   rename_i x la vs
   refine' wpAny_call (enterC (x:=Str.ofString "other") (v:=.ref y) [(Str.ofString "self", .ref x)] [(Str.ofString "self", .ref x),(Str.ofString "other", .ref y)] ?h1 sub inv bare ?h2 ?h3 ?h4 ?h5 ?h6 ?h7 ?h8 ?h9 ?h11 ?h12 ?h10)
   walk_at "M enterC"
   case h10 =>
     intro s₁ fz' L c gr hc S
     cases pd with
     | any J' ml mb' mz =>
       rename_i lb us ds
       clear J
       have ih:=ih ds rfl
       have hlv:=ha.length
       have hlu:=mb'.length
       have I':=I.grows gr
       have J'':=J'.grows gr
       have hl':=isList_grows hl gr
       have ml':=isList_grows ml gr
       repeat' walk1
       · refine' ⟨true,la,vs.toArray,fz',_,_,10 + 6 * n,103 + 60 * n,fun j v zz => v = .bool ((cs[j]?.map fun c => ds.any fun e => Cl.eqn (n + 1) e c).getD false),rfl,?Sg,?Cg,⟨?Bg⟩,?Kg⟩
         (case Sg => assumption)
         (case Cg => exact hl')
         (case Bg =>
           intro A' s' s0 f f0 C code it mu i v Q' E' hh' hd' hu' hv gr' S' k'
           obtain ⟨cc,hd0,pd⟩:=ha.get (by simpa using hv)
           have pd0:IsC f v cc:=IsC.grows (gr.trans gr') pd
           have pu0:AllC f us ds:=AllC.grows (gr.trans gr') mb'
           have ml2:=isList_grows ml' gr'
           have J3:=J''.grows gr'
           have hc':f.IsCell c (some (Value.ref y)):=cell_grows S.inv hc gr'
           have HE:HasEq (gg γ) (10 + 6 * n) (100 + 60 * n) (fun h => AllC h us ds ∧ IsC h v cc) v us (ds.map fun e => Cl.eqn (n + 1) e cc) :=
             HasEq.of hlu fun i y e h1 h2 => (ih cc (List.mem_of_getElem? hd0) e (List.mem_of_getElem? h2) y v).mono (Nat.le_refl _) (Nat.le_refl _) (fun h z => by
               obtain ⟨e',h3,h4⟩:=z.1.get h1
               rw [h2] at h3;cases h3
               exact ⟨h4,z.2⟩) fun zz zz z => z
           have HP:∀ h h',Grows (gg γ).tabs h h' → (fun h => AllC h us ds ∧ IsC h v cc) h → (fun h => AllC h us ds ∧ IsC h v cc) h':=fun h h' g z => ⟨AllC.grows g z.1,IsC.grows g z.2⟩
           obtain ⟨vx,vkv,rfl,_⟩:=pd.inst
           repeat' walk1
           all_goals (refine k' _ _ _ ?_ (by assumption) ?_)
           all_goals first | walk_at "M chain" | (rw [hd0,List.any_map];rfl))
         (case Kg =>
           intro s' fz2 a G X
           repeat' walk1
           all_goals (
             refine k _ _ _ (St.aft (by assumption)) (congrArg Value.bool ?_)
             rw [List.size_toArray,hlv,range_all]
             have q0:(vs.toArray.size:Int) = us.toArray.size:=by first | with_reducible assumption | exact beq_iff_eq.mp (by with_reducible assumption)
             have q:(cs.length == ds.length) = true:=by
               simp only [List.size_toArray] at q0
               rw [beq_iff_eq];lia
             rw [eqnAny,q,Bool.true_and]))
       · refine k _ _ _ (St.aft (by assumption)) (congrArg Value.bool ?_)
         have q0:¬ (vs.toArray.size:Int) = us.toArray.size:=by first | with_reducible assumption | exact beq_eq_false_iff_ne.mp (by with_reducible assumption)
         rw [beq_eq_false_iff_ne.mpr q0]
         have q:(cs.length == ds.length) = false:=by
           simp only [List.size_toArray] at q0
           rw [beq_eq_false_iff_ne];lia
         rw [eqnAny,q,Bool.false_and]
     | rng r' =>
       obtain ⟨y',u1,u2,u3,uv,eq',J',jv,_⟩:=r'
       cases eq'
       repeat' walk1
       all_goals ((try dsimp only);exact k _ _ _ (St.aft (by assumption)) rfl)
     | never =>
       simp only [Cl.cls] at J
       repeat' walk1
       all_goals ((try dsimp only);exact k _ _ _ (St.aft (by assumption)) rfl)
     | always =>
       simp only [Cl.cls] at J
       repeat' walk1
       all_goals ((try dsimp only);exact k _ _ _ (St.aft (by assumption)) rfl)
     | all =>
       simp only [Cl.cls] at J
       repeat' walk1
       all_goals ((try dsimp only);exact k _ _ _ (St.aft (by assumption)) rfl)
end
section
set_option tactic.hygienic true
variable {γ:Cfg}
local macro_rules | `(tactic| walk_at $s:str) => do let k:=Lean.Syntax.mkStrLit ("Z28 " ++ s.getString);`(tactic| k_extra $k)
theorem words_W28_24:True:=by
 w_top off
 k_with "Z28 compareOp In ref ref" => k_extra "q23"
 k_with "Z28 call builtin:len" => k_extra "q24"
 trivial
theorem eq_all (n:Nat) (cs:List Cl) (d:Cl) (ih:∀ ds,d = .all ds → ∀ c ∈ cs,∀ e ∈ ds,∀ v u,Runs (gg γ) (eqBool v u) (10 + 6 * n) (100 + 60 * n) (fun h => IsC h v e ∧ IsC h u c) (fun zz r => r = Cl.eqn (n + 1) e c)) (v u:Value) :
   Runs (gg γ) (call (.ref 632) [v,u]) (10 + 6 * (n + 1)) (80 + 60 * (n + 1)) (fun h => IsC h v (.all cs) ∧ IsC h u d) (fun zz r => r = .bool (Cl.eqn (n + 2) (.all cs) d)):=by
 intro A s fz Q E hh hd hu sub inv bare pre k
 obtain ⟨pc,pd⟩:=pre
 obtain ⟨y,kv,rfl,J⟩:=pd.inst
 cases pc with
 | all I hl ha hz =>
   rename_i x la vs
   refine' wpAny_call (enterC (x:=Str.ofString "other") (v:=.ref y) [(Str.ofString "self", .ref x)] [(Str.ofString "self", .ref x),(Str.ofString "other", .ref y)] ?h1 sub inv bare ?h2 ?h3 ?h4 ?h5 ?h6 ?h7 ?h8 ?h9 ?h11 ?h12 ?h10)
   walk_at "M enterC"
   case h10 =>
     intro s₁ fz' L c gr hc S
     cases pd with
     | all J' ml mb' mz =>
       rename_i lb us ds
       clear J
       have ih:=ih ds rfl
       have hlv:=ha.length
       have hlu:=mb'.length
       have I':=I.grows gr
       have J'':=J'.grows gr
       have hl':=isList_grows hl gr
       have ml':=isList_grows ml gr
       repeat' walk1
       · refine' ⟨true,la,vs.toArray,fz',_,_,10 + 6 * n,103 + 60 * n,fun j v zz => v = .bool ((cs[j]?.map fun c => ds.any fun e => Cl.eqn (n + 1) e c).getD false),rfl,?Sg,?Cg,⟨?Bg⟩,?Kg⟩
         (case Sg => assumption)
         (case Cg => exact hl')
         (case Bg =>
           intro A' s' s0 f f0 C code it mu i v Q' E' hh' hd' hu' hv gr' S' k'
           obtain ⟨cc,hd0,pd⟩:=ha.get (by simpa using hv)
           have pd0:IsC f v cc:=IsC.grows (gr.trans gr') pd
           have pu0:AllC f us ds:=AllC.grows (gr.trans gr') mb'
           have ml2:=isList_grows ml' gr'
           have J3:=J''.grows gr'
           have hc':f.IsCell c (some (Value.ref y)):=cell_grows S.inv hc gr'
           have HE:HasEq (gg γ) (10 + 6 * n) (100 + 60 * n) (fun h => AllC h us ds ∧ IsC h v cc) v us (ds.map fun e => Cl.eqn (n + 1) e cc) :=
             HasEq.of hlu fun i y e h1 h2 => (ih cc (List.mem_of_getElem? hd0) e (List.mem_of_getElem? h2) y v).mono (Nat.le_refl _) (Nat.le_refl _) (fun h z => by
               obtain ⟨e',h3,h4⟩:=z.1.get h1
               rw [h2] at h3;cases h3
               exact ⟨h4,z.2⟩) fun zz zz z => z
           have HP:∀ h h',Grows (gg γ).tabs h h' → (fun h => AllC h us ds ∧ IsC h v cc) h → (fun h => AllC h us ds ∧ IsC h v cc) h':=fun h h' g z => ⟨AllC.grows g z.1,IsC.grows g z.2⟩
           obtain ⟨vx,vkv,rfl,_⟩:=pd.inst
           repeat' walk1
           all_goals (refine k' _ _ _ ?_ (by assumption) ?_)
           all_goals first | walk_at "M chain" | (rw [hd0,List.any_map];rfl))
         (case Kg =>
           intro s' fz2 a G X
           repeat' walk1
           all_goals (
             refine k _ _ _ (St.aft (by assumption)) (congrArg Value.bool ?_)
             rw [List.size_toArray,hlv,range_all]
             have q0:(vs.toArray.size:Int) = us.toArray.size:=by first | with_reducible assumption | exact beq_iff_eq.mp (by with_reducible assumption)
             have q:(cs.length == ds.length) = true:=by
               simp only [List.size_toArray] at q0
               rw [beq_iff_eq];lia
             rw [eqnAll,q,Bool.true_and]))
       · refine k _ _ _ (St.aft (by assumption)) (congrArg Value.bool ?_)
         have q0:¬ (vs.toArray.size:Int) = us.toArray.size:=by first | with_reducible assumption | exact beq_eq_false_iff_ne.mp (by with_reducible assumption)
         rw [beq_eq_false_iff_ne.mpr q0]
         have q:(cs.length == ds.length) = false:=by
           simp only [List.size_toArray] at q0
           rw [beq_eq_false_iff_ne];lia
         rw [eqnAll,q,Bool.false_and]
     | rng r' =>
       obtain ⟨y',u1,u2,u3,uv,eq',J',jv,_⟩:=r'
       cases eq'
       repeat' walk1
       all_goals ((try dsimp only);exact k _ _ _ (St.aft (by assumption)) rfl)
     | never =>
       simp only [Cl.cls] at J
       repeat' walk1
       all_goals ((try dsimp only);exact k _ _ _ (St.aft (by assumption)) rfl)
     | always =>
       simp only [Cl.cls] at J
       repeat' walk1
       all_goals ((try dsimp only);exact k _ _ _ (St.aft (by assumption)) rfl)
     | any =>
       simp only [Cl.cls] at J
       repeat' walk1
       all_goals ((try dsimp only);exact k _ _ _ (St.aft (by assumption)) rfl)
theorem fi_eq (c:Cl):findIn (mk.heap_1 γ.w.params) (.ref c.cls) (cmpInfo .Eq).2.1 = some (some (.ref c.efn)):=by
 cases c <;> (simp only [Cl.cls,Cl.efn];walk_at "M fi")
theorem fi_eq2 (c:Cl):findIn (mk.heap_1 γ.w.params) (.ref c.cls) (cmpInfo .Eq).2.2 = some (some (.ref c.efn)):=by
 cases c <;> (simp only [Cl.cls,Cl.efn];walk_at "M fi")
theorem fn_eq (c:Cl):isFn (mk.heap_1 γ.w.params) (.ref c.efn) = true:=by
 cases c <;> (simp only [Cl.efn];walk_at "M fn")
theorem nf_eq (c d:Cl):notFirst (mk.heap_1 γ.w.params) c.cls (.ref d.cls) = true:=by
 cases c <;> cases d <;> (simp only [Cl.cls];walk_at "M nf")
noncomputable def EqCall (γ:Cfg) (n:Nat):Prop:=∀ c d:Cl,c.dep ≤ n → d.dep ≤ n → ∀ v u,Runs (gg γ) (call (.ref c.efn) [v,u]) (10 + 6 * n) (80 + 60 * n) (fun h => IsC h v c ∧ IsC h u d) (fun zz r => r = .bool (Cl.eqn (n + 1) c d))
theorem c_rc_of {n:Nat} (H:EqCall γ n) (c d:Cl) (hc:c.dep ≤ n) (hd:d.dep ≤ n) (v u:Value):Runs (gg γ) (richCompare .Eq v u) (10 + 6 * n) (81 + 60 * n) (fun h => IsC h v c ∧ IsC h u d) (fun zz r => r = .bool (Cl.eqn (n + 1) c d)):=by
 intro A s fz Q E hh hd' hu sub inv bare pre k
 obtain ⟨x,kv,rfl,I⟩:=pre.1.inst
 obtain ⟨y,kv',rfl,J⟩:=pre.2.inst
 exact rc_runs (g:=gg γ) (C:=c.cls) (D:=d.cls) (f:=c.efn) (f':=d.efn) (nu:=80 + 60 * n) (v2:=.none) (P:=fun h => (Inst h x c.cls kv ∧ Inst h y d.cls kv') ∧ IsC h (.ref x) c ∧ IsC h (.ref y) d) (nf_eq c d) (fi_eq c) (fn_eq c) (fi_eq2 d) (fn_eq d)
   ((H c d hc hd (.ref x) (.ref y)).mono (Nat.le_refl _) (Nat.le_refl _) (fun h z => z.2) fun zz zz z => z) (fun q => nomatch q) (fun h h' q z => ⟨⟨z.1.1.grows q,z.1.2.grows q⟩,IsC.grows q z.2.1,IsC.grows q z.2.2⟩) (fun h z => z.1) (.inl rfl) A s fz Q E hh hd' (by lia) sub inv bare ⟨⟨I,J⟩,pre⟩ k
theorem c_eqB_of {n:Nat} (H:EqCall γ n) (c d:Cl) (hc:c.dep ≤ n) (hd:d.dep ≤ n) (v u:Value):Runs (gg γ) (eqBool v u) (10 + 6 * n) (100 + 60 * n) (fun h => IsC h v c ∧ IsC h u d) (fun zz r => r = Cl.eqn (n + 1) c d):=by
 intro A s fz Q E hh hd' hu sub inv bare pre k
 obtain ⟨x,kv,rfl,I⟩:=pre.1.inst
 obtain ⟨y,kv',rfl,J⟩:=pre.2.inst
 exact eqBool_ref ((c_rc_of H c d hc hd (.ref x) (.ref y)).mono (Nat.le_refl _) (by lia) (fun zz h => h) fun zz zz h => h) (fun h z e => by
   subst e
   rw [IsC.inj z.1 z.2]
   exact eqn_refl (n + 1) d (by lia)) A s fz Q E hh hd' hu sub inv bare pre k
theorem c_eqcall:∀ n:Nat,EqCall γ n
 | n,.never,d,_,_,v,u => (eq_never n d v u).mono (by lia) (by lia) (fun zz h => h) fun zz zz h => h
 | n,.always,d,_,_,v,u => (eq_always n d v u).mono (by lia) (by lia) (fun zz h => h) fun zz zz h => h
 | n,.rng op way U,d,_,_,v,u => (eq_rng n op way U d v u).mono (by lia) (by lia) (fun zz h => h) fun zz zz h => h
 | 0,.any cs,_,h,_,_,_ => absurd h (Nat.not_succ_le_zero _)
 | 0,.all cs,_,h,_,_,_ => absurd h (Nat.not_succ_le_zero _)
 | n + 1,.any cs,d,h,h2,v,u => eq_any n cs d (fun ds e c hc e' he v u => c_eqB_of (c_eqcall n) e' c (by have:=dep_le he;subst e;change depL _ + 1 ≤ _ at h2;lia) (Nat.le_trans (dep_le hc) (Nat.le_of_succ_le_succ h)) v u) v u
 | n + 1,.all cs,d,h,h2,v,u => eq_all n cs d (fun ds e c hc e' he v u => c_eqB_of (c_eqcall n) e' c (by have:=dep_le he;subst e;change depL _ + 1 ≤ _ at h2;lia) (Nat.le_trans (dep_le hc) (Nat.le_of_succ_le_succ h)) v u) v u
theorem c_rc (n:Nat) (c d:Cl) (hc:c.dep ≤ n) (hd:d.dep ≤ n) (v u:Value):Runs (gg γ) (richCompare .Eq v u) (10 + 6 * n) (81 + 60 * n) (fun h => IsC h v c ∧ IsC h u d) (fun zz r => r = .bool (Cl.eqn (n + 1) c d)):=c_rc_of (c_eqcall n) c d hc hd v u
theorem c_eqB (n:Nat) (c d:Cl) (hc:c.dep ≤ n) (hd:d.dep ≤ n) (v u:Value):Runs (gg γ) (eqBool v u) (10 + 6 * n) (100 + 60 * n) (fun h => IsC h v c ∧ IsC h u d) (fun zz r => r = Cl.eqn (n + 1) c d):=c_eqB_of (c_eqcall n) c d hc hd v u
end
theorem words_W29:True:=by
 k_with "Z eval Name" => ((with_reducible show wpAny _ _ (eval _ (compEnvC _ _ _ _)) _ _ _);k_dflt (first | (refine' nE_loc ?_ ?_ ?_ ?_ ?_ ?_;rotate_right 6;(·assumption);(·rfl);(·rfl);rotate_left;(·rfl);(·rfl);rotate_right;k_whole) | (refine' nE_glob ?_ ?_ ?_ ?_ ?_ ?_;rotate_right 6;(·assumption);(·rfl);(·(with_reducible show nsIn (mk.heap_1 _) _ _ = _);k_is);rotate_left;(·rfl);(·rfl);rotate_right;k_whole) | (refine' nE_cell ?_ ?_ ?_ ?_ ?_ ?_;rotate_right 6;(·assumption);(·rfl);(·walk_at "M cell");rotate_left;(·rfl);(·rfl);rotate_right;k_whole) | (refine' nE_free ?_ ?_ ?_ ?_ ?_ ?_;rotate_right 6;(·assumption);(·rfl);(·walk_at "M cell");rotate_left;(·rfl);(·rfl);rotate_right;k_whole) | (refine' nE_bi ?_ ?_ ?_ ?_ ?_ ?_ ?_ ?_ ?_;rotate_right 9;(·assumption);(·rfl);(·rfl);(·(with_reducible show nsIn (mk.heap_1 _) _ _ = _);k_is);(·first | with_reducible exact boot_m_isinstance | with_reducible exact boot_m_len | with_reducible exact boot_m_any | with_reducible exact boot_m_all | with_reducible exact boot_m_int | with_reducible exact boot_m_tuple | with_reducible exact boot_m_str | with_reducible exact boot_m_range | with_reducible exact boot_m_zip | with_reducible exact boot_m_ord | with_reducible exact boot_m_list | boot_fast);(·decide);rotate_left;(·rfl);(·rfl);rotate_right;k_whole)))
 k_with "Z storeName" => ((with_reducible show wpAny _ _ (storeName (compEnvC _ _ _ _) _ _) _ _ _);k_dflt (refine' stE_loc ?_ ?_ ?_ ?_ ?_;rotate_right 5;(·assumption);(·rfl);rotate_left;(·rfl);(·rfl);rotate_right;k_whole;walk_at "I2"))
 k_with "Z eval ListComp" => k_dflt (refine' compE_rule ?_ ?_ ?_ ?_ ?_ ?_ ?_ ?_ ?_;rotate_right 9;rotate_left;(·assumption);(·walk_at "M hh");(·rfl);(·decide);(·rfl);(·decide);(·(walk_at "I1"; rfl));rotate_right;(·rfl);k_whole)
 k_with "Z exec Assign" => ((with_reducible show wpAny _ _ (exec (Stmt.Assign [Expr.Name _ _] (Expr.ListComp _ _ _ _) _) _) _ _ _);k_dflt (refine' compA_rule ?_ ?_ ?_ ?_ ?_ ?_ ?_ ?_ ?_ ?_ ?_ ?_ ?_;rotate_right 13;rotate_left;(·assumption);(·walk_at "M hh");(·rfl);(·rfl);(·decide);(·rfl);(·decide);(·(walk_at "I1"; rfl));(·rfl);(·rfl);(·rfl);rotate_right;(·rfl);k_whole))
 k_with "Z exec For" => k_dflt (refine' forE_rule ?_ ?_ ?_ ?_ ?_;rotate_right 5;rotate_left;(·assumption);(·walk_at "M hh");(·(walk_at "I1"; rfl));rotate_right;(·rfl);k_whole)
 k_with "Z call type:enumerate" => k_dflt (refine' src_enum ?_ ?_ ?_ ?_;rotate_right 4;rotate_left;(·assumption);(·walk_at "M tup");rotate_right;(·rfl);k_whole;walk_at "I6")
 k_with "Z call type:range" => k_dflt (refine' m_range ?_ ?_ ?_;rotate_right 3;rotate_left;(·assumption);rotate_right;(·rfl);k_whole;walk_at "I6")
 k_with "Z pyIter ref" => k_dflt (first | (refine' src_self ?_ ?_ ?_ ?_ ?_ ?_;rotate_right 6;rotate_left 2;(·with_reducible assumption);(·walk_at "M chain");(·assumption);rotate_right 2;(·rfl);(·walk_at "M hh");k_whole) | (refine' src_range ?_ ?_ ?_ ?_ ?_;rotate_right 5;rotate_left;(·assumption);(·first | with_reducible assumption | (refine' IsRangeO.grows ?_ ?_;rotate_right 2;(·with_reducible assumption);(·walk_at "M chain")));(·lia);rotate_right;(·rfl);k_whole;walk_at "I6") | (refine' src_col (kk:=true) ?_ ?_ ?_ ?_;rotate_right 4;rotate_left;(·assumption);(·(show Heap.IsList _ _ _);walk_at "M fact");rotate_right;(·rfl);k_whole;walk_at "I6") | (refine' src_col (kk:=false) ?_ ?_ ?_ ?_;rotate_right 4;rotate_left;(·assumption);(·(refine' IsTup.col ?_;rotate_right;(·walk_at "M tup")));rotate_right;(·rfl);k_whole;walk_at "I6"))
 k_with "Z eval Slice" => k_dflt (refine' m_Slice ?_ ?_;rotate_right 2;(·assumption);k_whole)
 k_with "Z SliceP" => k_dflt (refine' ⟨_,_,_,?_,?_⟩;rotate_right 2;(·assumption);k_whole;walk_at "I6")
 k_with "Z M slice" => first | with_reducible assumption | ((with_reducible refine' isSlice_grows ?_ ?_);rotate_right 2;(·with_reducible assumption);(·walk_at "M chain"))
 k_with "Z subscriptTail" => ((with_reducible show wpAny _ _ (subscriptTail _ (Expr.Slice _ _ _ _) (Value.ref _) (Value.ref _)) _ _ _);k_dflt (first | (refine' m_subT ?_ ?_ ?_ ?_ ?_ ?_ ?_ ?_ ?_;rotate_right 9;rotate_left;(·assumption);(·walk_at "M tup");(·walk_at "M slice");(·first | assumption | decide | (simp only [List.length_cons,List.length_nil];lia));(·first | lia | (simp only [List.length_cons,List.length_nil];lia));(·with_unfolding_all rfl);(·(walk_at "I1"; with_unfolding_all rfl));rotate_right;(·rfl);k_whole;walk_at "I6")))
 k_with "Z compareOp NotIn ref ref" => k_dflt (first | (refine' m_notInT ?_ ?_ ?_ ?_ ?_ ?_ ?_ ?_ ?_ ?_;rotate_right 10;rotate_left;(·assumption);(·refine' isTup_sub ?_ ?_;rotate_right 2;(·walk_at "M tup");(·exact St.le (by assumption)));(·with_reducible assumption);(·with_reducible assumption);(·walk_at "M pre");(·walk_at "M hh");(·walk_at "M depth");(·walk_at "M units");rotate_right;(·rfl);k_whole;walk_at "I4") | (refine' m_notIn ?_ ?_ ?_ ?_ ?_ ?_ ?_ ?_ ?_ ?_;rotate_right 10;rotate_left;(·assumption);(·refine' isList_sub ?_ ?_;rotate_right 2;(·walk_at "M fact");(·exact St.le (by assumption)));(·with_reducible assumption);(·with_reducible assumption);(·walk_at "M pre");(·walk_at "M hh");(·walk_at "M depth");(·walk_at "M units");rotate_right;(·rfl);k_whole;walk_at "I4"))
 k_with "Z call builtin:len" => k_extra "q24"
 trivial
section
set_option tactic.hygienic true
variable {γ:Cfg}
theorem mk_any (n:Nat) (vs:List Value) (cs:List Cl) (hdep:depL cs ≤ n) (hz:vs.length ≤ 1000):RunsK (gg γ) (.ref 592) vs [] (20 + 6 * n) (200 + 60 * n) (fun h => AllC h vs cs) (fun h r => IsC h r (.any (ded (n + 1) cs))):=by
 w_top off
 intro A s fz R hh hd hu sub inv bare pre k
 refine mk_inst sub inv bare (by walk_at "M mk") (by walk_at "M fi") (by walk_at "M fn") fun y dx s' P => ?_
 refine' enterV rfl ?h1 P ?hz ?h2 ?h3 ?h4 ?h5 ?h6 ?h7 ?h8 ?h9 ?h10
 (case h2 => (with_reducible show (mk.heap_1 _).lookup _ = _);k_is)
 (case h1 => first | lia | (simp only [depth_under_make,depth_in1,depth_kw];lia))
 (case h3 => (with_reducible show codeIn (mk.heap_1 _) _ _ = _);k_is)
 (case hz => have:=sizeLine_eq;lia)
 (case h4 => rfl)
 (case h5 => rfl)
 (case h6 => intro _;rfl)
 (case h7 => rfl)
 (case h8 => rfl)
 (case h9 => rfl)
 case h10 =>
   intro s₁ fz' L c T gr hc hT S
   have O:OwnI [(y,instObj 592 dx),(dx,dictOf [] 0)] y 592 dx [] 0 0 1 []:=⟨rfl,rfl,trivial⟩
   have hlen:=pre.length
   have HP:∀ h h',Grows (gg γ).tabs h h' → (fun h => AllC h vs cs) h → (fun h => AllC h vs cs) h':=fun h h' g z => AllC.grows g z
   repeat' walk1
   refine' ⟨_,_,fz',_,_,_,_,fun i acc h => AllC h acc (dedK (n + 1) cs i) ∧ Grows (gg γ).tabs fz' h,rfl,?Sg,?itg,?sfg,⟨AllC.nil,Grows.refl _ _⟩,?szg,CompStep.mk1 ?stg,?fing⟩
   (case Sg => assumption)
   (case itg => exact (by with_reducible assumption:∀ elts x1 ps,IterR _ (.Tuple elts x1 ps) _ _ _ _ _ _) _ _ _)
   (case sfg => assumption)
   (case szg => have:=sizeLine_eq;simp only [List.size_toArray];lia)
   (case stg =>
     intro i v s2 fz0 fz2 C lC mu acc E' hi hJ gr2 hP S2
     obtain ⟨T2,vals,rfl,hT2,t,x,hx,rfl⟩:=hP
     have hi':i < vs.length:=by simpa using hi
     have hx':vs[i]? = some x:=by simpa using hx
     obtain ⟨cc,hcc,pcc⟩:=pre.get hx'
     have hJ2:=AllC.grows gr2 hJ.1
     have grJ:=hJ.2.trans gr2
     have hlt:i < vs.length:=List.getElem?_eq_some_iff.mp hx' |>.1
     have hdc:cc.dep ≤ n:=Nat.le_trans (dep_le (List.mem_of_getElem? hcc)) hdep
     have HE:HasEq (gg γ) (10 + 6 * n) (100 + 60 * n) (fun h => AllC h vs cs) x (vs.take i) ((cs.take i).map fun d => Cl.eqn (n + 1) d cc):=by
       refine HasEq.of (by simp only [List.length_take,hlen]) fun j y d h1 h2 => ?_
       have hdd:d.dep ≤ n:=Nat.le_trans (dep_le (List.mem_of_mem_take (List.mem_of_getElem? h2))) hdep
       refine (c_eqB n d cc hdd hdc y x).mono (Nat.le_refl _) (Nat.le_refl _) (fun h z => ?_) fun zz zz z => z
       obtain ⟨e',h3,h4⟩:=(z.take i).get h1
       rw [h2] at h3;cases h3
       obtain ⟨e',h3,h5⟩:=z.get hx'
       rw [hcc] at h3;cases h3
       exact ⟨h4,h5⟩
     obtain ⟨vx,vkv,rfl,_⟩:=pcc.inst
     repeat' walk1
     all_goals (
       refine' ⟨_,_,?g1,?g2,?g3,?g4⟩
       (case g2 => assumption)
       (case g1 => walk_at "M chain")
       (case g4 => exact Grows.trans grJ (by walk_at "M chain"))
       (case g3 =>
         rename_i bb
         first
         | (have bb2 : (List.map (fun d => Cl.eqn (n + 1) d cc) (List.take i cs)).any id = true := bb
            rw [List.any_map] at bb2
            rw [dedK_no hcc bb2];exact AllC.grows (by walk_at "M chain") hJ2)
         | (have bb2 : (List.map (fun d => Cl.eqn (n + 1) d cc) (List.take i cs)).any id = false := bb
            rw [List.any_map] at bb2
            rw [dedK_yes hcc bb2];exact AllC.snoc (AllC.grows (by walk_at "M chain") hJ2) (IsC.grows (Grows.trans grJ (by walk_at "M chain")) (IsC.grows gr pcc))))))
   (case fing =>
     intro s2 fz2 D c2 acc gr2 S2 hJ hsz S3
     obtain ⟨fz3,gr3,_,hD,S4⟩:=(show St (gg γ) s fz s2.heap s2.gens s2.os fz2 L _ ((D,accObj acc c2) :: [(y,instObj 592 dx),(dx,dictOf [] 0)]) from S3).freeze 0 rfl
     have S5:=(show St (gg γ) s fz s2.heap s2.gens s2.os fz3 L _ [(y,instObj 592 dx),(dx,dictOf [] 0)] from S4)
     have hDl:fz3.IsList D acc:=⟨_,hD,rfl,_,rfl⟩
     clear S3 S4
     repeat' walk1
     refine ⟨rfl,?_⟩
     obtain ⟨fz4,gri,Im,Sm⟩:=St.inst (by assumption) (OwnI.kvs (by assumption))
     have hs2:vs.toArray.size = cs.length:=by simp only [List.size_toArray,hlen]
     rw [hs2] at hJ
     refine' k _ _ _ Sm.aft (.any Im (isList_grows hDl (Grows.trans (by walk_at "M chain") gri)) (AllC.grows (Grows.trans gr3 gri) hJ.1) ?zz)
     (case zz => (have:=hsz;simp only [List.size_toArray,Array.length_toList] at this ⊢;lia)))
theorem mk_all (n:Nat) (vs:List Value) (cs:List Cl) (hdep:depL cs ≤ n) (hz:vs.length ≤ 1000):RunsK (gg γ) (.ref 663) vs [] (20 + 6 * n) (200 + 60 * n) (fun h => AllC h vs cs) (fun h r => IsC h r (.all (ded (n + 1) cs))):=by
 intro A s fz R hh hd hu sub inv bare pre k
 refine mk_inst sub inv bare (by walk_at "M mk") (by walk_at "M fi") (by walk_at "M fn") fun y dx s' P => ?_
 refine' enterV rfl ?h1 P ?hz ?h2 ?h3 ?h4 ?h5 ?h6 ?h7 ?h8 ?h9 ?h10
 (case h2 => (with_reducible show (mk.heap_1 _).lookup _ = _);k_is)
 (case h1 => first | lia | (simp only [depth_under_make,depth_in1,depth_kw];lia))
 (case h3 => (with_reducible show codeIn (mk.heap_1 _) _ _ = _);k_is)
 (case hz => have:=sizeLine_eq;lia)
 (case h4 => rfl)
 (case h5 => rfl)
 (case h6 => intro _;rfl)
 (case h7 => rfl)
 (case h8 => rfl)
 (case h9 => rfl)
 case h10 =>
   intro s₁ fz' L c T gr hc hT S
   have O:OwnI [(y,instObj 663 dx),(dx,dictOf [] 0)] y 663 dx [] 0 0 1 []:=⟨rfl,rfl,trivial⟩
   have hlen:=pre.length
   have HP:∀ h h',Grows (gg γ).tabs h h' → (fun h => AllC h vs cs) h → (fun h => AllC h vs cs) h':=fun h h' g z => AllC.grows g z
   repeat' walk1
   refine' ⟨_,_,fz',_,_,_,_,fun i acc h => AllC h acc (dedK (n + 1) cs i) ∧ Grows (gg γ).tabs fz' h,rfl,?Sg,?itg,?sfg,⟨AllC.nil,Grows.refl _ _⟩,?szg,CompStep.mk1 ?stg,?fing⟩
   (case Sg => assumption)
   (case itg => exact (by with_reducible assumption:∀ elts x1 ps,IterR _ (.Tuple elts x1 ps) _ _ _ _ _ _) _ _ _)
   (case sfg => assumption)
   (case szg => have:=sizeLine_eq;simp only [List.size_toArray];lia)
   (case stg =>
     intro i v s2 fz0 fz2 C lC mu acc E' hi hJ gr2 hP S2
     obtain ⟨T2,vals,rfl,hT2,t,x,hx,rfl⟩:=hP
     have hi':i < vs.length:=by simpa using hi
     have hx':vs[i]? = some x:=by simpa using hx
     obtain ⟨cc,hcc,pcc⟩:=pre.get hx'
     have hJ2:=AllC.grows gr2 hJ.1
     have grJ:=hJ.2.trans gr2
     have hlt:i < vs.length:=List.getElem?_eq_some_iff.mp hx' |>.1
     have hdc:cc.dep ≤ n:=Nat.le_trans (dep_le (List.mem_of_getElem? hcc)) hdep
     have HE:HasEq (gg γ) (10 + 6 * n) (100 + 60 * n) (fun h => AllC h vs cs) x (vs.take i) ((cs.take i).map fun d => Cl.eqn (n + 1) d cc):=by
       refine HasEq.of (by simp only [List.length_take,hlen]) fun j y d h1 h2 => ?_
       have hdd:d.dep ≤ n:=Nat.le_trans (dep_le (List.mem_of_mem_take (List.mem_of_getElem? h2))) hdep
       refine (c_eqB n d cc hdd hdc y x).mono (Nat.le_refl _) (Nat.le_refl _) (fun h z => ?_) fun zz zz z => z
       obtain ⟨e',h3,h4⟩:=(z.take i).get h1
       rw [h2] at h3;cases h3
       obtain ⟨e',h3,h5⟩:=z.get hx'
       rw [hcc] at h3;cases h3
       exact ⟨h4,h5⟩
     obtain ⟨vx,vkv,rfl,_⟩:=pcc.inst
     repeat' walk1
     all_goals (
       refine' ⟨_,_,?g1,?g2,?g3,?g4⟩
       (case g2 => assumption)
       (case g1 => walk_at "M chain")
       (case g4 => exact Grows.trans grJ (by walk_at "M chain"))
       (case g3 =>
         rename_i bb
         first
         | (have bb2 : (List.map (fun d => Cl.eqn (n + 1) d cc) (List.take i cs)).any id = true := bb
            rw [List.any_map] at bb2
            rw [dedK_no hcc bb2];exact AllC.grows (by walk_at "M chain") hJ2)
         | (have bb2 : (List.map (fun d => Cl.eqn (n + 1) d cc) (List.take i cs)).any id = false := bb
            rw [List.any_map] at bb2
            rw [dedK_yes hcc bb2];exact AllC.snoc (AllC.grows (by walk_at "M chain") hJ2) (IsC.grows (Grows.trans grJ (by walk_at "M chain")) (IsC.grows gr pcc))))))
   (case fing =>
     intro s2 fz2 D c2 acc gr2 S2 hJ hsz S3
     obtain ⟨fz3,gr3,_,hD,S4⟩:=(show St (gg γ) s fz s2.heap s2.gens s2.os fz2 L _ ((D,accObj acc c2) :: [(y,instObj 663 dx),(dx,dictOf [] 0)]) from S3).freeze 0 rfl
     have S5:=(show St (gg γ) s fz s2.heap s2.gens s2.os fz3 L _ [(y,instObj 663 dx),(dx,dictOf [] 0)] from S4)
     have hDl:fz3.IsList D acc:=⟨_,hD,rfl,_,rfl⟩
     clear S3 S4
     repeat' walk1
     refine ⟨rfl,?_⟩
     obtain ⟨fz4,gri,Im,Sm⟩:=St.inst (by assumption) (OwnI.kvs (by assumption))
     have hs2:vs.toArray.size = cs.length:=by simp only [List.size_toArray,hlen]
     rw [hs2] at hJ
     refine' k _ _ _ Sm.aft (.all Im (isList_grows hDl (Grows.trans (by walk_at "M chain") gri)) (AllC.grows (Grows.trans gr3 gri) hJ.1) ?zz)
     (case zz => (have:=hsz;simp only [List.size_toArray,Array.length_toList] at this ⊢;lia)))
end
section
set_option tactic.hygienic false
variable {γ:Cfg}
theorem mk_never:RunsK (gg γ) (.ref 743) [] [] 0 0 (fun zz => True) (fun h r => IsC h r .never) :=
 (mk_plain (by walk_at "M mk") (by walk_at "M fi")).mono (Nat.le_refl _) (Nat.le_refl _) (fun zz h => h) fun h r ⟨x,e,I⟩ => e ▸ .never I
theorem mk_always:RunsK (gg γ) (.ref 797) [] [] 0 0 (fun zz => True) (fun h r => IsC h r .always) :=
 (mk_plain (by walk_at "M mk") (by walk_at "M fi")).mono (Nat.le_refl _) (Nat.le_refl _) (fun zz h => h) fun h r ⟨x,e,I⟩ => e ▸ .always I
theorem simp_leaf (c:Cl) (v:Value):Runs (gg γ) (call (.ref 516) [v]) 2 20 (fun h => IsC h v c) (fun h r => IsC h r c):=by
 w_top off
 intro A s fz Q E hh hd hu sub inv bare pre k
 refine' wpAny_call (enter [(Str.ofString "self", v)] ?h1 sub inv bare ?h2 ?h3 ?h4 ?h5 ?h6 ?h7 ?h8 ?h9 ?h10)
 walk_at "M enter"
 case h10 =>
   intro s₁ L S
   repeat' walk1
   exact k _ _ _ (St.aft (by assumption)) pre
theorem notAny {c:Cl} (h:¬ c.cls = 592):∀ w,IsNot (mk.heap_1 w) c.cls 592:=by
 intro w
 cases c with
 | never => exact (show IsNot (mk.heap_1 w) 743 592 from ⟨by kin_no,by k_is,by k_is,by k_is,by k_is,by k_is,by k_is⟩)
 | always => exact (show IsNot (mk.heap_1 w) 797 592 from ⟨by kin_no,by k_is,by k_is,by k_is,by k_is,by k_is,by k_is⟩)
 | rng => exact (show IsNot (mk.heap_1 w) 852 592 from ⟨by kin_no,by k_is,by k_is,by k_is,by k_is,by k_is,by k_is⟩)
 | any => exact absurd rfl h
 | all => exact (show IsNot (mk.heap_1 w) 663 592 from ⟨by kin_no,by k_is,by k_is,by k_is,by k_is,by k_is,by k_is⟩)
theorem notAll {c:Cl} (h:¬ c.cls = 663):∀ w,IsNot (mk.heap_1 w) c.cls 663:=by
 intro w
 cases c with
 | never => exact (show IsNot (mk.heap_1 w) 743 663 from ⟨by kin_no,by k_is,by k_is,by k_is,by k_is,by k_is,by k_is⟩)
 | always => exact (show IsNot (mk.heap_1 w) 797 663 from ⟨by kin_no,by k_is,by k_is,by k_is,by k_is,by k_is,by k_is⟩)
 | rng => exact (show IsNot (mk.heap_1 w) 852 663 from ⟨by kin_no,by k_is,by k_is,by k_is,by k_is,by k_is,by k_is⟩)
 | any => exact (show IsNot (mk.heap_1 w) 592 663 from ⟨by kin_no,by k_is,by k_is,by k_is,by k_is,by k_is,by k_is⟩)
 | all => exact absurd rfl h
theorem partsAny {c:Cl} (h:¬ c.cls = 592):c.parts true = none:=by cases c <;> first | rfl | exact absurd rfl h
theorem partsAll {c:Cl} (h:¬ c.cls = 663):c.parts false = none:=by cases c <;> first | rfl | exact absurd rfl h
noncomputable def Cl.leaf:Cl → Bool
 | .any _ => false
 | .all _ => false
 | _ => true
theorem leafAny {c:Cl} (h:c.leaf = true):¬ c.cls = 592:=by intro e;cases c <;> first | exact absurd h Bool.false_ne_true | exact clash e rfl
theorem leafAll {c:Cl} (h:c.leaf = true):¬ c.cls = 663:=by intro e;cases c <;> first | exact absurd h Bool.false_ne_true | exact clash e rfl
theorem isMat {c:Cl} (h:c.leaf = true):∀ w,isIn (mk.heap_1 w) (.ref c.cls) 689 = true:=by
 intro w
 cases c with
 | never => exact (show isIn (mk.heap_1 w) (.ref 743) 689 = true by k_is)
 | always => exact (show isIn (mk.heap_1 w) (.ref 797) 689 = true by k_is)
 | rng => exact (show isIn (mk.heap_1 w) (.ref 852) 689 = true by k_is)
 | any => exact absurd h Bool.false_ne_true
 | all => exact absurd h Bool.false_ne_true
end
theorem words_W31:True:=by
 k_with "Z M at" => first | with_reducible exact at0 | with_reducible exact at1 | with_reducible exact at2 | with_reducible exact at3 | exact at0 | exact at1 | exact at2 | exact at3
 k_with "Z inplaceOp Add ref ref" => k_dflt (refine' m_iadd ?_ ?_ ?_ ?_ ?_ ?_;rotate_right 6;rotate_left;(·assumption);(·walk_at "M at");(·walk_at "M at");(·(try simp only [List.size_toArray,List.length_cons,List.length_nil]);lia);rotate_right;(·rfl);k_whole;walk_at "I3")
 k_with "Z call builtin:list.pop" => k_dflt (refine' m_pop ?_ ?_ ?_ ?_ ?_ ?_;rotate_right 6;rotate_left;(·assumption);(·walk_at "M at");(·with_reducible assumption);(·lia);rotate_right;(·rfl);k_whole;walk_at "I4")
 k_with "Z getMethod ref" => ((with_reducible show wpAny _ _ (getMethod _ (Str.ofString "pop") _) _ _ _);k_dflt (refine' getMethod_pop ?_ ?_ ?_ ?_;rotate_right 4;rotate_left;(·assumption);(·walk_at "M at");rotate_right;(·rfl);k_whole))
 k_with "Z StarOf ref" => k_dflt (refine' m_star ?_ ?_ ?_ ?_ ?_;rotate_right 5;rotate_left;(·assumption);(·first | (refine' St.listAt ?_ ?_;rotate_right 2;(·assumption);(·walk_at "M at")) | (refine' isList_sub ?_ ?_;rotate_right 2;(·walk_at "M fact");(·exact St.le (by assumption))));(·first | lia | (simp only [Array.size_append,List.size_toArray,List.length_cons,List.length_nil];lia));rotate_right;(·rfl);k_whole;intro _ S';(refine' And.intro ?_ ?_);exact ⟨_,_,_,S'⟩;(try dsimp only [List.nil_append]))
 k_with "Z callWith ref" => ((with_reducible show wpAny _ _ (callWith _ (Value.ref _) _ (backTo _ (starEach [Expr.Starred _ _] _)) []) _ _ _);k_dflt (refine' m_callT ?_ ?_ ?_;rotate_right 3;(·assumption);(·(with_reducible show keepIn (mk.heap_1 _) _ = _);k_is);k_whole))
 k_with "Z call builtin:len" => k_dflt (refine' m_len ?_ ?_ ?_ ?_ ?_;rotate_right 5;rotate_left;(·assumption);(·(refine' St.listAt ?_ ?_;rotate_right 2;(·assumption);(·walk_at "M at")));(·lia);rotate_right;(·rfl);k_whole;walk_at "I1")
 k_with "Z compareOp NotIn ref ref" => k_dflt (refine' m_notIn ?_ ?_ ?_ ?_ ?_ ?_ ?_ ?_ ?_ ?_;rotate_right 10;rotate_left;(·assumption);(·first | (refine' St.listMem ?_ ?_;rotate_right 2;(·assumption);(·with_reducible assumption)) | (refine' St.listAt ?_ ?_;rotate_right 2;(·assumption);(·walk_at "M at")));(·with_reducible assumption);(·with_reducible assumption);(·walk_at "M pre");(·walk_at "M hh");(·walk_at "M depth");(·walk_at "M units");rotate_right;(·rfl);k_whole;walk_at "I4")
 k_with "Z M enterO" => ((case h2 => (with_reducible show (mk.heap_1 _).lookup _ = _);k_is);(case h1 => lia);(case h3 => (with_reducible show codeIn (mk.heap_1 _) _ _ = _);k_is);(case h4 => rfl);(case h5 => rfl);(case h6 => (walk_at "I1"; rfl));(case h7 => (walk_at "I1"; exact bindL_one rfl));(case h8 => (walk_at "I1"; rfl));(case h9 => rfl);(case h11 => rfl);(case h12 => rfl))
 k_with "q25" => k_dflt (refine' m_newList ?_ ?_ ?_ ?_;rotate_right 4;rotate_left;(·assumption);(·(simp only [List.length_cons,List.length_nil];lia));rotate_right;(·rfl);k_whole;walk_at "I3")
 k_with "Z newList" => k_extra "q25"
 k_with "Z newList nil" => k_extra "q25"
 k_with "Z newList cons" => k_extra "q25"
 k_with "Z storeName" => ((with_reducible show wpAny _ _ (storeName (envX _ _ _ _ _ _) _ _) _ _ _);k_dflt (first | (refine' stC_s ?_ ?_ ?_ ?_ ?_ ?_;rotate_right 6;(·assumption);(·rfl);(·walk_at "M cell");rotate_left;(·rfl);(·rfl);rotate_right;k_whole;walk_at "I2") | (refine' stC_0 ?_ ?_ ?_ ?_ ?_ ?_ ?_;rotate_right 7;(·assumption);(·rfl);(·walk_at "M at");(·assumption);rotate_left;(·rfl);(·rfl);rotate_right;k_whole;walk_at "I5")))
 k_with "Z loadName" => ((with_reducible show wpAny _ _ (loadName (envX _ _ _ _ _ _) _) _ _ _);k_dflt (first | (refine' ld_cell ?_ ?_ ?_ ?_ ?_ ?_;rotate_right 6;(·assumption);(·rfl);(·walk_at "M cell");rotate_left;(·rfl);(·rfl);rotate_right;k_whole) | (refine' ld_loc ?_ ?_ ?_ ?_ ?_ ?_;rotate_right 6;(·assumption);(·rfl);(·rfl);rotate_left;(·rfl);(·rfl);rotate_right;k_whole)))
 k_with "Z call ref" => ((with_reducible show wpAny _ _ (call (Value.ref 743) [] _) _ _ _);k_dflt (with_reducible refine' St.run (g:=gg _) (by k_dflt (assumption)) (by k_dflt (rfl)) (RunsK.runs mk_never) (by k_dflt (walk_at "M hh")) (by k_dflt (walk_at "M depth")) (by k_dflt (walk_at "M units")) (by k_dflt (walk_at "M pre")) ?_;walk_at "M run"))
 k_with "Z call ref" => ((with_reducible show wpAny _ _ (call (Value.ref 797) [] _) _ _ _);k_dflt (with_reducible refine' St.run (g:=gg _) (by k_dflt (assumption)) (by k_dflt (rfl)) (RunsK.runs mk_always) (by k_dflt (walk_at "M hh")) (by k_dflt (walk_at "M depth")) (by k_dflt (walk_at "M units")) (by k_dflt (walk_at "M pre")) ?_;walk_at "M run"))
 k_with "Z compareOp Eq ref" => k_dflt (refine' cmp_ofEq ?_;with_reducible refine' St.run (g:=gg _) (by k_dflt (assumption)) (by k_dflt (rfl)) (RN _) (by k_dflt (walk_at "M hh")) (by k_dflt (walk_at "M depth")) (by k_dflt (walk_at "M units")) (by k_dflt (walk_at "M pre")) ?_;walk_at "M run")
 trivial
section
set_option tactic.hygienic true
variable {γ:Cfg}
local macro_rules | `(tactic| walk_at $s:str) => do let k:=Lean.Syntax.mkStrLit ("Z31 " ++ s.getString);`(tactic| k_extra $k)
local macro_rules | `(tactic| walk_at "0") => `(tactic| skip)
inductive JSimp (γ:Cfg) (D x:Addr) (f1:Heap) (ss:List Cl) (h:Heap) (l:List (Str × Value)) (mu:List (Addr × Obj)):Prop
 | mk (xs:Array Value) (c0:Nat) (r:List (Str × Value)):mu = [(D,accObj xs c0)] → l = (Str.ofString "self", .ref x) :: r → AllC h xs.toList ss → Grows (gg γ).tabs f1 h → JSimp γ D x f1 ss h l mu
theorem IsC.simpI {h:Heap} {x:Addr} {c:Cl} (p:IsC h (.ref x) c):∃ kv,Inst h x c.cls kv ∧ kv.lookup (Str.ofString "simplify") = none:=by
 w_top off
 cases p with
 | never I => exact ⟨_,I,rfl⟩
 | always I => exact ⟨_,I,rfl⟩
 | rng r _ => obtain ⟨_,_,_,_,_,e,I,_⟩:=r;cases e;exact ⟨_,I,rfl⟩
 | any I => exact ⟨_,I,rfl⟩
 | all I => exact ⟨_,I,rfl⟩
theorem gm_simplify {s₀ s:Shared} {fz₀ fz:Heap} {L:Addr} {l:List (Str × Value)} {mu:List (Addr × Obj)} {A:Around} {E:Value → Shared → Prop} {M:Model} {x:Addr} {c:Cl} {pl:Sem Bool} {Q:Value × List Value → Shared → Prop}
   (hM:M = model (gg γ).prog (gg γ).w) (S:St (gg γ) s₀ fz₀ s.heap s.gens s.os fz L l mu) (pc:IsC fz (.ref x) c) (h:Q (.ref c.sfn,[.ref x]) s):wpAny M A (getMethod (.ref x) (Str.ofString "simplify") pl) Q E s:=by
 obtain ⟨kv,I,hl⟩:=pc.simpI
 cases c <;> exact gH_meth hM S (I.sub S.le) (by (show plainGet (mk.heap_1 _) _ _ = _);simp only [Cl.cls];first | k_is | kernel_rfl) (by (show findIn (mk.heap_1 _) _ _ = _);simp only [Cl.cls,Cl.sfn];first | k_is | kernel_rfl) (by (show isFn (mk.heap_1 _) _ = _);simp only [Cl.sfn];first | k_is | kernel_rfl) hl h
theorem keepS (q:PySem.Params) (c:Cl):keepIn (mk.heap_1 q) (.ref c.sfn) = true:=by
 cases c <;> ((show keepIn (mk.heap_1 _) _ = _);simp only [Cl.sfn];k_is)
theorem words_W31_25:True:=by
 k_with "q26" => ((with_reducible show wpAny _ _ (getMethod _ (Str.ofString "simplify") _) _ _ _);k_dflt (refine' gm_simplify ?_ ?_ ?_ ?_;rotate_right 4;rotate_left;(·assumption);(·first | with_reducible assumption | (refine' IsC.grows ?_ ?_;rotate_right 2;rotate_left;(·with_reducible assumption);rotate_right;(·walk_at "M chain")));rotate_right;(·rfl);k_whole))
 k_with "Z31 getMethod ref" => k_extra "q26"
 k_with "q27" => ((with_reducible show wpAny _ _ (callWith _ (Value.ref (Cl.sfn _)) _ _ _) _ _ _);k_dflt (refine' callWith_K0 (K:=mk.heap_1 _) ?_ ?_ ?_;rotate_right 3;(·exact kinG (by assumption));(·exact keepS _ _);k_whole;(try dsimp only [List.nil_append,List.cons_append])))
 k_with "Z31 callWith ref" => k_extra "q27"
 trivial
theorem FNext.nextF {g:G} {s₀:Shared} {fz₀:Heap} {L:Addr} {Q:Flow → Shared → Prop} {own:List (Addr × Obj)} {J:Heap → List (Str × Value) → List (Addr × Obj) → Prop} {fz fz':Heap} {l':List (Str × Value)} {mu':List (Addr × Obj)} {s₃:Shared} (h2:St g s₀ fz₀ s₃.heap s₃.gens s₃.os fz' L l' (mu' ++ own)) (h1:Grows g.tabs fz fz') (h3:J fz' l' mu'):FNext g s₀ fz₀ L own J Q fz .next s₃:=FNext.next h1 h2 h3
theorem FNext.contF {g:G} {s₀:Shared} {fz₀:Heap} {L:Addr} {Q:Flow → Shared → Prop} {own:List (Addr × Obj)} {J:Heap → List (Str × Value) → List (Addr × Obj) → Prop} {fz fz':Heap} {l':List (Str × Value)} {mu':List (Addr × Obj)} {s₃:Shared} (h2:St g s₀ fz₀ s₃.heap s₃.gens s₃.os fz' L l' (mu' ++ own)) (h1:Grows g.tabs fz fz') (h3:J fz' l' mu'):FNext g s₀ fz₀ L own J Q fz .cont s₃:=FNext.cont h1 h2 h3
theorem words_W31_26:True:=by
 k_with "q28" => first | (with_reducible refine' FNext.contF (mu':=[(D,accObj xs c0)]) (by k_dflt (exact St.front (by assumption) rfl)) (by k_dflt (walk_at "M chain")) ⟨xs,c0,_,rfl,rfl,(by k_dflt (rename_i q1;rw [hsn,stepS_unit hp q1];exact AllC.grows (by walk_at "M chain") hA3)),(by k_dflt (exact Grows.trans G3 (by walk_at "M chain")))⟩) | (with_reducible refine' FNext.nextF (mu':=[(D,accObj (xs ++ #[]) _)]) (by k_dflt (exact St.front (St.drop1 (by assumption)) rfl)) (by k_dflt (walk_at "M chain")) ⟨(xs ++ #[]),_,_,rfl,rfl,(by k_dflt (rename_i q1 t1 t2 t3 t4 q2 u1 u2 u3 u4 u5 u6 u7 u8;rw [hsn,stepS_in hp q1 (by rw [List.any_map] at q2;exact q2),Array.toList_append,List.append_nil];exact AllC.grows (by walk_at "M chain") hA3)),(by k_dflt (exact Grows.trans G3 (by walk_at "M chain")))⟩) | (with_reducible refine' FNext.nextF (mu':=[(D,accObj (xs ++ #[Value.ref rx]) _)]) (by k_dflt (exact St.front (St.drop1 (by assumption)) rfl)) (by k_dflt (walk_at "M chain")) ⟨(xs ++ #[Value.ref rx]),_,_,rfl,rfl,(by k_dflt (rename_i q1 t1 t2 t3 t4 q2 u1 u2 u3 u4 u5 u6 u7 u8;rw [hsn,stepS_new hp q1 (by rw [List.any_map] at q2;exact q2),Array.toList_append];exact AllC.snoc (AllC.grows (by walk_at "M chain") hA3) (IsC.grows (by walk_at "M chain") pR0))),(by k_dflt (exact Grows.trans G3 (by walk_at "M chain")))⟩)
 k_with "Z31 M leafS" => k_extra "q28"
 trivial
theorem simp_any (n m:Nat) (cs:List Cl) (hn:depL cs + 1 ≤ n) (hw:wtL cs ≤ 900) (ih:∀ c ∈ cs,∀ v,Runs (gg γ) (call (.ref c.sfn) [v]) (40 + 6 * n + 5 * m) (400 + 60 * n + 50 * m) (fun h => IsC h v c) (fun h r => IsC h r (c.simp (n + 1)))) (v:Value) :
   Runs (gg γ) (call (.ref 547) [v]) (40 + 6 * n + 5 * (m + 1)) (400 + 60 * n + 50 * (m + 1)) (fun h => IsC h v (.any cs)) (fun h r => IsC h r (Cl.simp (n + 1) (.any cs))):=by
 intro A s fz Q E hh hd hu sub inv bare pre k
 cases pre with
 | any I hl ha hz =>
   rename_i x la vs
   refine' wpAny_call (enterO (x:=Str.ofString "subclauses") [(Str.ofString "self", .ref x)] [(Str.ofString "self", .ref x)] ?h1 sub inv bare ?h2 ?h3 ?h4 ?h5 ?h6 ?h7 ?h8 ?h9 ?h11 ?h12 ?h10)
   walk_at "M enterO"
   case h10 =>
     intro s₁ L c oc hoc S
     have hlen:=ha.length
     repeat' walk1
     rename_i sA D SA sB f1 G1 C1 SB sC I1 oI1 SC it1 sf1
     refine' ⟨_,_,_,_,_,[(D,accObj #[] 0)],_,fun i h l mu => JSimp γ D x f1 (simpL (n + 1) true (cs.take i) []) h l mu,rfl,SC,it1 _,⟨#[],0,[],rfl,rfl,.nil,Grows.refl _ _⟩,ForStep.of ?stg,?fing⟩
     (case stg =>
       intro i v s2 fz0 fz2 l2 own mu2 E' hi hJ gr2 hP S2
       obtain ⟨xs,c0,r,rfl,rfl,hA,hG⟩:=hJ
       have hx':vs[i]? = some v:=by simpa using hP
       obtain ⟨cc,hcc,pcc⟩:=ha.get hx'
       have G2:=hG.trans gr2
       have hA2:=AllC.grows gr2 hA
       have pc2:IsC fz2 v cc:=IsC.grows (G1.trans G2) pcc
       have R:=ih cc (List.mem_of_getElem? hcc) v
       obtain ⟨vx,rfl⟩:=pc2.isRef
       have hxs:xs.size ≤ 900:=by
         have e1:=hA.length
         rw [Array.length_toList] at e1
         exact e1 ▸ simpL_len hw
       clear pcc
       repeat' walk1
       rename_i r2 sR fR gR SR pR sT ST
       have hsn:=simpL_take (N:=n + 1) (b:=true) hcc
       have hle:=(simp_le (n + 1) cc).2
       have hd0:=dep_le (List.mem_of_getElem? hcc)
       have hA3:=AllC.grows gR hA2
       have G3:=G2.trans gR
       have hxl:=hA3.length
       have hdA:depL (simpL (n + 1) true (cs.take i) []) ≤ n:=by have:=simpL_dep (N:=n + 1) (b:=true) (cs:=cs) i;lia
       clear R pc2 hA hA2
       generalize simpL (n + 1) true (cs.take i) [] = acc at hA3 hsn hxl hdA
       generalize cc.simp (n + 1) = sc at pR hsn hle
       have hscd:sc.dep ≤ n:=by lia
       obtain ⟨rx,rfl⟩:=pR.isRef
       have pR0:=pR
       have HE:HasEq (gg γ) (10 + 6 * n) (100 + 60 * n) (fun h => AllC h xs.toList acc ∧ IsC h (.ref rx) sc) (.ref rx) xs.toList (acc.map fun d => Cl.eqn (n + 1) d sc) :=
         HasEq.of hxl fun j y d h1 h2 => (c_eqB n d sc (Nat.le_trans (dep_le (List.mem_of_getElem? h2)) hdA) hscd y (.ref rx)).mono (Nat.le_refl _) (Nat.le_refl _) (fun h z => by
           obtain ⟨e',h3,h4⟩:=z.1.get h1
           rw [h2] at h3;cases h3
           exact ⟨h4,z.2⟩) fun zz zz z => z
       have HP:∀ h h',Grows (gg γ).tabs h h' → (fun h => AllC h xs.toList acc ∧ IsC h (.ref rx) sc) h → (fun h => AllC h xs.toList acc ∧ IsC h (.ref rx) sc) h':=fun h h' g z => ⟨AllC.grows g z.1,IsC.grows g z.2⟩
       have RN:∀ u,Runs (gg γ) (richCompare .Eq (.ref rx) u) (10 + 6 * n) (81 + 60 * n) (fun h => IsC h (.ref rx) sc ∧ IsC h u .never) (fun zz r => r = .bool (Cl.eqn (n + 1) sc .never)):=fun u => c_rc n sc .never hscd (Nat.zero_le _) (.ref rx) u
       by_cases hs:sc.cls = 592
       rotate_left
       · have hp:=partsAny hs
         have NI:=notAny hs
         obtain ⟨rx',rkv',e,Jn⟩:=pR0.inst
         cases e
         repeat' walk1
         all_goals walk_at "M leafS"
       cases pR with
       | never => exact clash hs rfl
       | always => exact clash hs rfl
       | rng => exact clash hs rfl
       | all => exact clash hs rfl
       | any J' lb mb' mz =>
         rename_i lbA us ds
         clear HE HP RN
         have hdd:depL ds + 1 ≤ n:=hscd
         repeat' walk1
         refine' ⟨_,_,fR,_,_,_,_,fun j acc' h => AllC h acc' ((ds.take j).filter fun d => !acc.any fun a => Cl.eqn (n + 1) a d) ∧ Grows (gg γ).tabs fR h,rfl,?Sg,?itg,?sfg,⟨.nil,Grows.refl _ _⟩,?szg,CompStep.mk1F ?stg2,?fing2⟩
         (case Sg => assumption)
         (case itg => exact (by with_reducible assumption:∀ tg,IterR _ tg _ _ _ _ _ _) _)
         (case sfg => assumption)
         (case szg => have:=sizeLine_eq;simp only [List.size_toArray];lia)
         (case stg2 =>
           intro j v s3 fz3 fz4 C lC mu4 acc' E2 hj hJ3 gr3 hP3 hF S4
           have hy:us[j]? = some v:=by simpa using hP3
           obtain ⟨dd,hdd',pdd⟩:=mb'.get hy
           have G5:Grows (gg γ).tabs f1 fz4:=G3.trans (hJ3.2.trans gr3)
           have pd4:IsC fz4 v dd:=IsC.grows (hJ3.2.trans gr3) pdd
           have hA4:AllC fz4 xs.toList acc:=AllC.grows (hJ3.2.trans gr3) hA3
           have hA5:=AllC.grows gr3 hJ3.1
           have hmem:(D,accObj xs c0) ∈ mu4:=hF _ (.head _)
           have hddd:dd.dep ≤ n:=by have:=dep_le (List.mem_of_getElem? hdd');lia
           have HE:HasEq (gg γ) (10 + 6 * n) (100 + 60 * n) (fun h => AllC h xs.toList acc ∧ IsC h v dd) v xs.toList (acc.map fun d => Cl.eqn (n + 1) d dd) :=
             HasEq.of hxl fun j y d h1 h2 => (c_eqB n d dd (Nat.le_trans (dep_le (List.mem_of_getElem? h2)) hdA) hddd y v).mono (Nat.le_refl _) (Nat.le_refl _) (fun h z => by
               obtain ⟨e',h3,h4⟩:=z.1.get h1
               rw [h2] at h3;cases h3
               exact ⟨h4,z.2⟩) fun zz zz z => z
           have HP:∀ h h',Grows (gg γ).tabs h h' → (fun h => AllC h xs.toList acc ∧ IsC h v dd) h → (fun h => AllC h xs.toList acc ∧ IsC h v dd) h':=fun h h' g z => ⟨AllC.grows g z.1,IsC.grows g z.2⟩
           obtain ⟨vd,rfl⟩:=pd4.isRef
           clear pdd
           repeat' walk1
           all_goals (
             refine' ⟨_,_,?g1,?g2,?g3,?g4⟩
             (case g2 => assumption)
             (case g1 => walk_at "M chain")
             (case g4 => exact Grows.trans (hJ3.2.trans gr3) (by walk_at "M chain"))
             (case g3 =>
               rename_i q2
               have q3:=q2
               rw [List.any_map] at q3
               first
               | (rw [filter_no hdd' (by show (!_) = false;rw [Bool.not_eq_false'];exact q3)];exact AllC.grows (by walk_at "M chain") hA5)
               | (rw [filter_yes hdd' (by show (!_) = true;rw [Bool.not_eq_true'];exact q3)];exact AllC.snoc (AllC.grows (by walk_at "M chain") hA5) (IsC.grows (by walk_at "M chain") pd4)))))
         (case fing2 =>
           intro s5 fz5 D5 c5 acc5 gr5 S5 hJ5 hsz5 S6
           have hlu:=mb'.length
           have h5:acc5.size ≤ 1000:=by simp only [List.size_toArray] at hsz5;lia
           have hJ6:=hJ5.1
           rw [List.size_toArray,hlu,List.take_length] at hJ6
           have hx6:=AllC.grows gr5 hA3
           repeat' walk1
           all_goals (
             refine' FNext.nextF (mu':=[(D,accObj (xs ++ acc5) _)]) ?g2 ?g1 ⟨(xs ++ acc5),_,_,rfl,rfl,?g3,?g4⟩
             (case g2 => exact St.front (St.drop1 (by assumption)) rfl)
             (case g1 => walk_at "M chain")
             (case g4 => exact Grows.trans G3 (by walk_at "M chain"))
             (case g3 => rw [hsn,stepS_parts rfl,Array.toList_append];exact AllC.append hx6 hJ6))))
     (case fing =>
       intro s2 fz2 l2 mu2 hJ S2
       obtain ⟨xs,c0,r,rfl,rfl,hA,hG⟩:=hJ
       have hxs:xs.size ≤ 900:=by
         have e1:=hA.length
         rw [Array.length_toList] at e1
         exact e1 ▸ simpL_len hw
       have hk1:Cl.simp (n + 1) (.any cs) = finS (n + 1) true (simpL (n + 1) true cs []):=rfl
       have hdA:depL (simpL (n + 1) true cs []) ≤ n:=by have:=(simpL_le (n + 1) true cs []).2;have h4:depL [] = 0:=rfl;lia
       rw [List.size_toArray,hlen,List.take_length] at hA
       generalize simpL (n + 1) true cs [] = acc at hA hk1 hdA
       have hxl:=hA.length
       rw [Array.length_toList] at hxl
       by_cases h1:xs.size = 1
       · obtain ⟨cq,rfl,e1⟩:=finS_one (n + 1) true (show acc.length = 1 by lia)
         obtain ⟨y,hy,py⟩:=AllC.one hA
         obtain ⟨xs⟩:=xs
         simp only at hy
         subst hy
         have hlast:([y].toArray)[[y].toArray.size - 1]? = some y:=rfl
         repeat' walk1
         all_goals first
           | exact k _ _ _ (St.aft (by assumption)) (by show IsC _ _ (Cl.simp (n + 1) (.any cs));rw [hk1,e1];exact py)
           | (exfalso
              have q:¬ (([y].toArray.size:Nat):Int) = 1:=(by first | with_reducible assumption | exact beq_eq_false_iff_ne.mp (by with_reducible assumption))
              exact q rfl)
       · have e1:finS (n + 1) true acc = .any (ded (n + 1) acc):=finS_more (n + 1) true (acc:=acc) (by lia)
         have RM:Runs (gg γ) (call (.ref 592) xs.toList) (20 + 6 * n) (200 + 60 * n) (fun h => AllC h xs.toList acc) (fun h r => IsC h r (.any (ded (n + 1) acc))):=(mk_any n xs.toList acc hdA (by rw [Array.length_toList];lia)).runs
         repeat' walk1
         all_goals first
           | (exfalso;have:(xs.size:Int) = 1:=(by first | with_reducible assumption | exact beq_iff_eq.mp (by with_reducible assumption));lia)
           | exact k _ _ _ (St.aft (by assumption)) (by show IsC _ _ (Cl.simp (n + 1) (.any cs));rw [hk1,e1];with_reducible assumption))
end
section
set_option tactic.hygienic true
variable {γ:Cfg}
local macro_rules | `(tactic| walk_at $s:str) => do let k:=Lean.Syntax.mkStrLit ("Z32 " ++ s.getString);`(tactic| k_extra $k)
local macro_rules | `(tactic| walk_at "0") => `(tactic| skip)
local macro_rules | `(tactic| walk_at "0") => `(tactic| skip)
theorem words_W32_27:True:=by
 w_top off
 k_with "Z32 getMethod ref" => k_extra "q26"
 k_with "Z32 callWith ref" => k_extra "q27"
 k_with "Z32 M leafS" => k_extra "q28"
 trivial
theorem simp_all (n m:Nat) (cs:List Cl) (hn:depL cs + 1 ≤ n) (hw:wtL cs ≤ 900) (ih:∀ c ∈ cs,∀ v,Runs (gg γ) (call (.ref c.sfn) [v]) (40 + 6 * n + 5 * m) (400 + 60 * n + 50 * m) (fun h => IsC h v c) (fun h r => IsC h r (c.simp (n + 1)))) (v:Value) :
   Runs (gg γ) (call (.ref 618) [v]) (40 + 6 * n + 5 * (m + 1)) (400 + 60 * n + 50 * (m + 1)) (fun h => IsC h v (.all cs)) (fun h r => IsC h r (Cl.simp (n + 1) (.all cs))):=by
 intro A s fz Q E hh hd hu sub inv bare pre k
 cases pre with
 | all I hl ha hz =>
   rename_i x la vs
   refine' wpAny_call (enterO (x:=Str.ofString "subclauses") [(Str.ofString "self", .ref x)] [(Str.ofString "self", .ref x)] ?h1 sub inv bare ?h2 ?h3 ?h4 ?h5 ?h6 ?h7 ?h8 ?h9 ?h11 ?h12 ?h10)
   walk_at "M enterO"
   case h10 =>
     intro s₁ L c oc hoc S
     have hlen:=ha.length
     repeat' walk1
     rename_i sA D SA sB f1 G1 C1 SB sC I1 oI1 SC it1 sf1
     refine' ⟨_,_,_,_,_,[(D,accObj #[] 0)],_,fun i h l mu => JSimp γ D x f1 (simpL (n + 1) false (cs.take i) []) h l mu,rfl,SC,it1 _,⟨#[],0,[],rfl,rfl,.nil,Grows.refl _ _⟩,ForStep.of ?stg,?fing⟩
     (case stg =>
       intro i v s2 fz0 fz2 l2 own mu2 E' hi hJ gr2 hP S2
       obtain ⟨xs,c0,r,rfl,rfl,hA,hG⟩:=hJ
       have hx':vs[i]? = some v:=by simpa using hP
       obtain ⟨cc,hcc,pcc⟩:=ha.get hx'
       have G2:=hG.trans gr2
       have hA2:=AllC.grows gr2 hA
       have pc2:IsC fz2 v cc:=IsC.grows (G1.trans G2) pcc
       have R:=ih cc (List.mem_of_getElem? hcc) v
       obtain ⟨vx,rfl⟩:=pc2.isRef
       have hxs:xs.size ≤ 900:=by
         have e1:=hA.length
         rw [Array.length_toList] at e1
         exact e1 ▸ simpL_len hw
       clear pcc
       repeat' walk1
       rename_i r2 sR fR gR SR pR sT ST
       have hsn:=simpL_take (N:=n + 1) (b:=false) hcc
       have hle:=(simp_le (n + 1) cc).2
       have hd0:=dep_le (List.mem_of_getElem? hcc)
       have hA3:=AllC.grows gR hA2
       have G3:=G2.trans gR
       have hxl:=hA3.length
       have hdA:depL (simpL (n + 1) false (cs.take i) []) ≤ n:=by have:=simpL_dep (N:=n + 1) (b:=false) (cs:=cs) i;lia
       clear R pc2 hA hA2
       generalize simpL (n + 1) false (cs.take i) [] = acc at hA3 hsn hxl hdA
       generalize cc.simp (n + 1) = sc at pR hsn hle
       have hscd:sc.dep ≤ n:=by lia
       obtain ⟨rx,rfl⟩:=pR.isRef
       have pR0:=pR
       have HE:HasEq (gg γ) (10 + 6 * n) (100 + 60 * n) (fun h => AllC h xs.toList acc ∧ IsC h (.ref rx) sc) (.ref rx) xs.toList (acc.map fun d => Cl.eqn (n + 1) d sc) :=
         HasEq.of hxl fun j y d h1 h2 => (c_eqB n d sc (Nat.le_trans (dep_le (List.mem_of_getElem? h2)) hdA) hscd y (.ref rx)).mono (Nat.le_refl _) (Nat.le_refl _) (fun h z => by
           obtain ⟨e',h3,h4⟩:=z.1.get h1
           rw [h2] at h3;cases h3
           exact ⟨h4,z.2⟩) fun zz zz z => z
       have HP:∀ h h',Grows (gg γ).tabs h h' → (fun h => AllC h xs.toList acc ∧ IsC h (.ref rx) sc) h → (fun h => AllC h xs.toList acc ∧ IsC h (.ref rx) sc) h':=fun h h' g z => ⟨AllC.grows g z.1,IsC.grows g z.2⟩
       have RN:∀ u,Runs (gg γ) (richCompare .Eq (.ref rx) u) (10 + 6 * n) (81 + 60 * n) (fun h => IsC h (.ref rx) sc ∧ IsC h u .always) (fun zz r => r = .bool (Cl.eqn (n + 1) sc .always)):=fun u => c_rc n sc .always hscd (Nat.zero_le _) (.ref rx) u
       by_cases hs:sc.cls = 663
       rotate_left
       · have hp:=partsAll hs
         have NI:=notAll hs
         obtain ⟨rx',rkv',e,Jn⟩:=pR0.inst
         cases e
         repeat' walk1
         all_goals walk_at "M leafS"
       cases pR with
       | never => exact clash hs rfl
       | always => exact clash hs rfl
       | rng => exact clash hs rfl
       | any => exact clash hs rfl
       | all J' lb mb' mz =>
         rename_i lbA us ds
         clear HE HP RN
         have hdd:depL ds + 1 ≤ n:=hscd
         repeat' walk1
         refine' ⟨_,_,fR,_,_,_,_,fun j acc' h => AllC h acc' ((ds.take j).filter fun d => !acc.any fun a => Cl.eqn (n + 1) a d) ∧ Grows (gg γ).tabs fR h,rfl,?Sg,?itg,?sfg,⟨.nil,Grows.refl _ _⟩,?szg,CompStep.mk1F ?stg2,?fing2⟩
         (case Sg => assumption)
         (case itg => exact (by with_reducible assumption:∀ tg,IterR _ tg _ _ _ _ _ _) _)
         (case sfg => assumption)
         (case szg => have:=sizeLine_eq;simp only [List.size_toArray];lia)
         (case stg2 =>
           intro j v s3 fz3 fz4 C lC mu4 acc' E2 hj hJ3 gr3 hP3 hF S4
           have hy:us[j]? = some v:=by simpa using hP3
           obtain ⟨dd,hdd',pdd⟩:=mb'.get hy
           have G5:Grows (gg γ).tabs f1 fz4:=G3.trans (hJ3.2.trans gr3)
           have pd4:IsC fz4 v dd:=IsC.grows (hJ3.2.trans gr3) pdd
           have hA4:AllC fz4 xs.toList acc:=AllC.grows (hJ3.2.trans gr3) hA3
           have hA5:=AllC.grows gr3 hJ3.1
           have hmem:(D,accObj xs c0) ∈ mu4:=hF _ (.head _)
           have hddd:dd.dep ≤ n:=by have:=dep_le (List.mem_of_getElem? hdd');lia
           have HE:HasEq (gg γ) (10 + 6 * n) (100 + 60 * n) (fun h => AllC h xs.toList acc ∧ IsC h v dd) v xs.toList (acc.map fun d => Cl.eqn (n + 1) d dd) :=
             HasEq.of hxl fun j y d h1 h2 => (c_eqB n d dd (Nat.le_trans (dep_le (List.mem_of_getElem? h2)) hdA) hddd y v).mono (Nat.le_refl _) (Nat.le_refl _) (fun h z => by
               obtain ⟨e',h3,h4⟩:=z.1.get h1
               rw [h2] at h3;cases h3
               exact ⟨h4,z.2⟩) fun zz zz z => z
           have HP:∀ h h',Grows (gg γ).tabs h h' → (fun h => AllC h xs.toList acc ∧ IsC h v dd) h → (fun h => AllC h xs.toList acc ∧ IsC h v dd) h':=fun h h' g z => ⟨AllC.grows g z.1,IsC.grows g z.2⟩
           obtain ⟨vd,rfl⟩:=pd4.isRef
           clear pdd
           repeat' walk1
           all_goals (
             refine' ⟨_,_,?g1,?g2,?g3,?g4⟩
             (case g2 => assumption)
             (case g1 => walk_at "M chain")
             (case g4 => exact Grows.trans (hJ3.2.trans gr3) (by walk_at "M chain"))
             (case g3 =>
               rename_i q2
               have q3:=q2
               rw [List.any_map] at q3
               first
               | (rw [filter_no hdd' (by show (!_) = false;rw [Bool.not_eq_false'];exact q3)];exact AllC.grows (by walk_at "M chain") hA5)
               | (rw [filter_yes hdd' (by show (!_) = true;rw [Bool.not_eq_true'];exact q3)];exact AllC.snoc (AllC.grows (by walk_at "M chain") hA5) (IsC.grows (by walk_at "M chain") pd4)))))
         (case fing2 =>
           intro s5 fz5 D5 c5 acc5 gr5 S5 hJ5 hsz5 S6
           have hlu:=mb'.length
           have h5:acc5.size ≤ 1000:=by simp only [List.size_toArray] at hsz5;lia
           have hJ6:=hJ5.1
           rw [List.size_toArray,hlu,List.take_length] at hJ6
           have hx6:=AllC.grows gr5 hA3
           repeat' walk1
           all_goals (
             refine' FNext.nextF (mu':=[(D,accObj (xs ++ acc5) _)]) ?g2 ?g1 ⟨(xs ++ acc5),_,_,rfl,rfl,?g3,?g4⟩
             (case g2 => exact St.front (St.drop1 (by assumption)) rfl)
             (case g1 => walk_at "M chain")
             (case g4 => exact Grows.trans G3 (by walk_at "M chain"))
             (case g3 => rw [hsn,stepS_parts rfl,Array.toList_append];exact AllC.append hx6 hJ6))))
     (case fing =>
       intro s2 fz2 l2 mu2 hJ S2
       obtain ⟨xs,c0,r,rfl,rfl,hA,hG⟩:=hJ
       have hxs:xs.size ≤ 900:=by
         have e1:=hA.length
         rw [Array.length_toList] at e1
         exact e1 ▸ simpL_len hw
       have hk1:Cl.simp (n + 1) (.all cs) = finS (n + 1) false (simpL (n + 1) false cs []):=rfl
       have hdA:depL (simpL (n + 1) false cs []) ≤ n:=by have:=(simpL_le (n + 1) false cs []).2;have h4:depL [] = 0:=rfl;lia
       rw [List.size_toArray,hlen,List.take_length] at hA
       generalize simpL (n + 1) false cs [] = acc at hA hk1 hdA
       have hxl:=hA.length
       rw [Array.length_toList] at hxl
       by_cases h1:xs.size = 1
       · obtain ⟨cq,rfl,e1⟩:=finS_one (n + 1) false (show acc.length = 1 by lia)
         obtain ⟨y,hy,py⟩:=AllC.one hA
         obtain ⟨xs⟩:=xs
         simp only at hy
         subst hy
         have hlast:([y].toArray)[[y].toArray.size - 1]? = some y:=rfl
         repeat' walk1
         all_goals first
           | exact k _ _ _ (St.aft (by assumption)) (by show IsC _ _ (Cl.simp (n + 1) (.all cs));rw [hk1,e1];exact py)
           | (exfalso
              have q:¬ (([y].toArray.size:Nat):Int) = 1:=(by first | with_reducible assumption | exact beq_eq_false_iff_ne.mp (by with_reducible assumption))
              exact q rfl)
       · have e1:finS (n + 1) false acc = .all (ded (n + 1) acc):=finS_more (n + 1) false (acc:=acc) (by lia)
         have RM:Runs (gg γ) (call (.ref 663) xs.toList) (20 + 6 * n) (200 + 60 * n) (fun h => AllC h xs.toList acc) (fun h r => IsC h r (.all (ded (n + 1) acc))):=(mk_all n xs.toList acc hdA (by rw [Array.length_toList];lia)).runs
         repeat' walk1
         all_goals first
           | (exfalso;have:(xs.size:Int) = 1:=(by first | with_reducible assumption | exact beq_iff_eq.mp (by with_reducible assumption));lia)
           | exact k _ _ _ (St.aft (by assumption)) (by show IsC _ _ (Cl.simp (n + 1) (.all cs));rw [hk1,e1];with_reducible assumption))
end
section
set_option tactic.hygienic false
variable {γ:Cfg}
theorem c_simp (n:Nat):∀ (m:Nat) (c:Cl),c.dep ≤ m → c.dep ≤ n → c.wt ≤ 900 → ∀ v,Runs (gg γ) (call (.ref c.sfn) [v]) (40 + 6 * n + 5 * m) (400 + 60 * n + 50 * m) (fun h => IsC h v c) (fun h r => IsC h r (c.simp (n + 1)))
 | m,.never,_,_,_,v => (simp_leaf .never v).mono (by lia) (by lia) (fun zz h => h) fun zz zz h => h
 | m,.always,_,_,_,v => (simp_leaf .always v).mono (by lia) (by lia) (fun zz h => h) fun zz zz h => h
 | m,.rng o wy U,_,_,_,v => (simp_leaf (.rng o wy U) v).mono (by lia) (by lia) (fun zz h => h) fun zz zz h => h
 | 0,.any cs,h,_,_,_ => absurd h (Nat.not_succ_le_zero _)
 | 0,.all cs,h,_,_,_ => absurd h (Nat.not_succ_le_zero _)
 | m + 1,.any cs,h,h2,h3,v => simp_any n m cs h2 (by change wtL _ + 1 ≤ _ at h3;lia) (fun c hc v => c_simp n m c (Nat.le_trans (dep_le hc) (Nat.le_of_succ_le_succ h)) (by have:=dep_le hc;change depL _ + 1 ≤ _ at h2;lia) (by have:=wt_le hc;change wtL _ + 1 ≤ _ at h3;lia) v) v
 | m + 1,.all cs,h,h2,h3,v => simp_all n m cs h2 (by change wtL _ + 1 ≤ _ at h3;lia) (fun c hc v => c_simp n m c (Nat.le_trans (dep_le hc) (Nat.le_of_succ_le_succ h)) (by have:=dep_le hc;change depL _ + 1 ≤ _ at h2;lia) (by have:=wt_le hc;change wtL _ + 1 ≤ _ at h3;lia) v) v
end
section
set_option tactic.hygienic false
variable {γ:Cfg}
theorem ao_first (q:PySem.Params) (c:Cl):selfFirst (mk.heap_1 q) c.cls = true:=by cases c <;> (simp only [Cl.cls];kernel_rfl)
theorem ao_and (q:PySem.Params) (c:Cl):findIn (mk.heap_1 q) (.ref c.cls) (PySem.dunder Operator.BitAnd.info.2) = some (some (.ref c.afn)):=by cases c <;> (simp only [Cl.cls,Cl.afn];kernel_rfl)
theorem ao_or (q:PySem.Params) (c:Cl):findIn (mk.heap_1 q) (.ref c.cls) (PySem.dunder Operator.BitOr.info.2) = some (some (.ref c.ofn)):=by cases c <;> (simp only [Cl.cls,Cl.ofn];kernel_rfl)
theorem ao_rand (q:PySem.Params) (c:Cl):findIn (mk.heap_1 q) (.ref c.cls) (dunderR Operator.BitAnd.info.2) = some none:=by cases c <;> (simp only [Cl.cls];kernel_rfl)
theorem ao_ror (q:PySem.Params) (c:Cl):findIn (mk.heap_1 q) (.ref c.cls) (dunderR Operator.BitOr.info.2) = some none:=by cases c <;> (simp only [Cl.cls];kernel_rfl)
theorem ao_fnA (q:PySem.Params) (c:Cl):isFn (mk.heap_1 q) (.ref c.afn) = true:=by cases c <;> (simp only [Cl.afn];kernel_rfl)
theorem ao_fnO (q:PySem.Params) (c:Cl):isFn (mk.heap_1 q) (.ref c.ofn) = true:=by cases c <;> (simp only [Cl.ofn];kernel_rfl)
theorem ao_sub (q:PySem.Params) (c d:Cl) (h:c.cls ≠ d.cls):subIn (mk.heap_1 q) (.ref d.cls) (.ref c.cls) = some false:=by
 w_top off
 cases c <;> cases d <;> first | exact absurd rfl h | (simp only [Cl.cls];kernel_rfl)
theorem bin_and {x y:Addr} {c d:Cl} {nd nu:Nat} {P:Heap → Prop} {Post:Heap → Value → Prop} (R:Runs (gg γ) (call (.ref c.afn) [.ref x,.ref y]) nd nu P Post)
   (hP:∀ h,P h → IsC h (.ref x) c ∧ IsC h (.ref y) d) (hr:∀ h r,Post h r → r ≠ .notImplemented):Runs (gg γ) (binaryOp .BitAnd (.ref x) (.ref y)) nd nu P Post:=by
 intro A s fz Q E hh hd hu sub inv bare pre k
 obtain ⟨pc,pd⟩:=hP _ pre
 obtain ⟨_,kv,e1,I⟩:=pc.inst
 cases e1
 obtain ⟨_,kv',e2,J⟩:=pd.inst
 cases e2
 have fin:wpAny (model (gg γ).prog (gg γ).w) A (call (.ref c.afn) [.ref x,.ref y]) (PySem.W.CmpBack Q) E s :=
   R A s fz _ E hh hd hu sub inv bare pre fun r s' fz' a post => cmpBack_ref (hr _ _ post) (k r s' fz' a post)
 by_cases q:c.cls = d.cls
 · rw [← q] at J
   exact binop_one (inv.kin.keeps sub) (I.sub sub) (J.sub sub) (ao_first _ c) (ao_and _ c) (ao_fnA _ c) fin
 · exact binop_two (inv.kin.keeps sub) (I.sub sub) (J.sub sub) q (ao_first _ c) (ao_first _ d) (ao_and _ c) (ao_fnA _ c) (ao_rand _ c) (.inl rfl) (ao_and _ d) (ao_rand _ d) (.inl rfl) (ao_sub _ c d q) fin
theorem bin_or {x y:Addr} {c d:Cl} {nd nu:Nat} {P:Heap → Prop} {Post:Heap → Value → Prop} (R:Runs (gg γ) (call (.ref c.ofn) [.ref x,.ref y]) nd nu P Post)
   (hP:∀ h,P h → IsC h (.ref x) c ∧ IsC h (.ref y) d) (hr:∀ h r,Post h r → r ≠ .notImplemented):Runs (gg γ) (binaryOp .BitOr (.ref x) (.ref y)) nd nu P Post:=by
 intro A s fz Q E hh hd hu sub inv bare pre k
 obtain ⟨pc,pd⟩:=hP _ pre
 obtain ⟨_,kv,e1,I⟩:=pc.inst
 cases e1
 obtain ⟨_,kv',e2,J⟩:=pd.inst
 cases e2
 have fin:wpAny (model (gg γ).prog (gg γ).w) A (call (.ref c.ofn) [.ref x,.ref y]) (PySem.W.CmpBack Q) E s :=
   R A s fz _ E hh hd hu sub inv bare pre fun r s' fz' a post => cmpBack_ref (hr _ _ post) (k r s' fz' a post)
 by_cases q:c.cls = d.cls
 · rw [← q] at J
   exact binop_one (inv.kin.keeps sub) (I.sub sub) (J.sub sub) (ao_first _ c) (ao_or _ c) (ao_fnO _ c) fin
 · exact binop_two (inv.kin.keeps sub) (I.sub sub) (J.sub sub) q (ao_first _ c) (ao_first _ d) (ao_or _ c) (ao_fnO _ c) (ao_ror _ c) (.inl rfl) (ao_or _ d) (ao_ror _ d) (.inl rfl) (ao_sub _ c d q) fin
theorem IsC.ne {h:Heap} {r:Value} {c:Cl} (p:IsC h r c):r ≠ .notImplemented:=by
 obtain ⟨_,_,rfl,_⟩:=p.inst
 exact fun q => nomatch q
end
section
set_option tactic.hygienic true
variable {γ:Cfg}
local macro_rules | `(tactic| walk_at $s:str) => do let k:=Lean.Syntax.mkStrLit ("Z35 " ++ s.getString);`(tactic| k_extra $k)
theorem words_W35_28:True:=by
 w_top off
 k_with "q29" => k_dflt (refine' m_addL ?_ ?_ ?_ ?_ ?_ ?_;rotate_right 6;rotate_left;(·assumption);(·refine' isList_sub ?_ ?_;rotate_right 2;(·walk_at "M fact");(·exact St.le (by assumption)));(·first | (refine' St.listAt ?_ ?_;rotate_right 2;(·assumption);(·walk_at "M at")) | (refine' isList_sub ?_ ?_;rotate_right 2;(·walk_at "M fact");(·exact St.le (by assumption))));(·(simp only [List.size_toArray,List.length_cons,List.length_nil];lia));rotate_right;(·rfl);k_whole;walk_at "I3")
 k_with "Z35 binaryOp Add ref ref" => k_extra "q29"
 k_with "Z35 binaryOp BitAnd ref ref" => k_extra "q22"
 k_with "Z35 binaryOp BitOr ref ref" => k_extra "q22"
 k_with "q30" => ((with_reducible show wpAny _ _ (call (Value.ref 592) [_,_] _) _ _ _);(with_reducible refine' St.run (g:=gg _) (by k_dflt (assumption)) (by k_dflt (rfl)) (RM2 _) (by k_dflt (walk_at "M hh")) (by k_dflt (walk_at "M depth")) (by k_dflt (walk_at "M units")) (by k_dflt (walk_at "M pre")) ?_);walk_at "M run")
 k_with "Z35 call ref" => k_extra "q30"
 trivial
theorem leaf_and_all {N:Nat} {d:Cl} {cs:List Cl} (h:d.leaf = true):andC N (.all cs) d = .all (ded N (cs ++ [d])):=by cases d <;> first | rfl | exact absurd h Bool.false_ne_true
theorem and_all (n:Nat) (cs:List Cl) (d:Cl) (h1:depL cs ≤ n) (h2:d.dep ≤ n) (hw:wtL cs + d.wt ≤ 900) (v u:Value):Runs (gg γ) (call (.ref 639) [v,u]) (30 + 6 * n) (300 + 60 * n) (fun h => IsC h v (.all cs) ∧ IsC h u d) (fun h r => IsC h r (andC (n + 1) (.all cs) d)):=by
 intro A s fz Q E hh hd hu sub inv bare pre k
 obtain ⟨pc,pd⟩:=pre
 cases pc with
 | all I hl ha hz =>
   rename_i x la vs
   have hlen:=ha.length
   have hln:=len_wtL cs
   have pd0:=pd
   obtain ⟨y,ykv,rfl,J⟩:=pd.inst
   refine' wpAny_call (enter [(Str.ofString "other", .ref y),(Str.ofString "self", .ref x)] ?h1 sub inv bare ?h2 ?h3 ?h4 ?h5 ?h6 ?h7 ?h8 ?h9 ?h10)
   walk_at "M enter"
   case h10 =>
     intro s₁ L S
     have hwp:=d.wt_pos
     by_cases hlf:d.leaf = true
     · skip
       have YM:=isMat hlf
       have NA:=notAny (leafAny hlf)
       have NL:=notAll (leafAll hlf)
       have RM:Runs (gg γ) (call (.ref 663) ((vs.toArray ++ [Value.ref y].toArray).toList)) (20 + 6 * n) (200 + 60 * n) (fun h => AllC h vs cs ∧ IsC h (.ref y) d) (fun h r => IsC h r (.all (ded (n + 1) (cs ++ [d])))):=by
         have e:(vs.toArray ++ [Value.ref y].toArray).toList = vs ++ [Value.ref y]:=by simp
         rw [e]
         exact ((mk_all n (vs ++ [Value.ref y]) (cs ++ [d]) (by rw [depL_append];simp only [depL,Cl.dep] at *;lia) (by simp only [List.length_append,List.length_cons,List.length_nil];lia)).runs).mono (Nat.le_refl _) (Nat.le_refl _) (fun h z => AllC.snoc z.1 z.2) fun zz zz z => z
       repeat' walk1
       all_goals exact k _ _ _ (St.aft (by assumption)) (by rw [leaf_and_all hlf];assumption)
     clear J
     cases pd with
     | never => exact absurd rfl hlf
     | always => exact absurd rfl hlf
     | rng => exact absurd rfl hlf
     | any J' lb mb' mz =>
       rename_i lbA us ds
       have RM:Runs (gg γ) (call (.ref 663) ((vs.toArray ++ [Value.ref y].toArray).toList)) (20 + 6 * n) (200 + 60 * n) (fun h => AllC h vs cs ∧ IsC h (.ref y) (.any ds)) (fun h r => IsC h r (.all (ded (n + 1) (cs ++ [.any ds])))):=by
         have e:(vs.toArray ++ [Value.ref y].toArray).toList = vs ++ [Value.ref y]:=by simp
         rw [e]
         exact ((mk_all n (vs ++ [Value.ref y]) (cs ++ [.any ds]) (by rw [depL_append];simp only [depL,Cl.dep] at *;lia) (by simp only [List.length_append,List.length_cons,List.length_nil];lia)).runs).mono (Nat.le_refl _) (Nat.le_refl _) (fun h z => AllC.snoc z.1 z.2) fun zz zz z => z
       repeat' walk1
       all_goals exact k _ _ _ (St.aft (by assumption)) (by assumption)
     | all J' lb mb' mz =>
       rename_i lbA us ds
       have hlu:=mb'.length
       have hld:=len_wtL ds
       have hwd:(Cl.all ds).wt = wtL ds + 1:=rfl
       have hdd:(Cl.all ds).dep = depL ds + 1:=rfl
       have RM:Runs (gg γ) (call (.ref 663) ((vs.toArray ++ us.toArray).toList)) (20 + 6 * n) (200 + 60 * n) (fun h => AllC h vs cs ∧ AllC h us ds) (fun h r => IsC h r (.all (ded (n + 1) (cs ++ ds)))):=by
         have e:(vs.toArray ++ us.toArray).toList = vs ++ us:=by simp
         rw [e]
         exact ((mk_all n (vs ++ us) (cs ++ ds) (by rw [depL_append];skip;lia) (by rw [List.length_append];lia)).runs).mono (Nat.le_refl _) (Nat.le_refl _) (fun h z => AllC.append z.1 z.2) fun zz zz z => z
       repeat' walk1
       all_goals exact k _ _ _ (St.aft (by assumption)) (by assumption)
theorem leaf_or_any {N:Nat} {d:Cl} {cs:List Cl} (h:d.leaf = true):orC N (.any cs) d = .any (ded N (cs ++ [d])):=by cases d <;> first | rfl | exact absurd h Bool.false_ne_true
theorem or_any (n:Nat) (cs:List Cl) (d:Cl) (h1:depL cs ≤ n) (h2:d.dep ≤ n) (hw:wtL cs + d.wt ≤ 900) (v u:Value):Runs (gg γ) (call (.ref 575) [v,u]) (30 + 6 * n) (300 + 60 * n) (fun h => IsC h v (.any cs) ∧ IsC h u d) (fun h r => IsC h r (orC (n + 1) (.any cs) d)):=by
 intro A s fz Q E hh hd hu sub inv bare pre k
 obtain ⟨pc,pd⟩:=pre
 cases pc with
 | any I hl ha hz =>
   rename_i x la vs
   have hlen:=ha.length
   have hln:=len_wtL cs
   have pd0:=pd
   obtain ⟨y,ykv,rfl,J⟩:=pd.inst
   refine' wpAny_call (enter [(Str.ofString "other", .ref y),(Str.ofString "self", .ref x)] ?h1 sub inv bare ?h2 ?h3 ?h4 ?h5 ?h6 ?h7 ?h8 ?h9 ?h10)
   walk_at "M enter"
   case h10 =>
     intro s₁ L S
     have hwp:=d.wt_pos
     by_cases hlf:d.leaf = true
     · skip
       have YM:=isMat hlf
       have NA:=notAny (leafAny hlf)
       have NL:=notAll (leafAll hlf)
       have RM:Runs (gg γ) (call (.ref 592) ((vs.toArray ++ [Value.ref y].toArray).toList)) (20 + 6 * n) (200 + 60 * n) (fun h => AllC h vs cs ∧ IsC h (.ref y) d) (fun h r => IsC h r (.any (ded (n + 1) (cs ++ [d])))):=by
         have e:(vs.toArray ++ [Value.ref y].toArray).toList = vs ++ [Value.ref y]:=by simp
         rw [e]
         exact ((mk_any n (vs ++ [Value.ref y]) (cs ++ [d]) (by rw [depL_append];simp only [depL,Cl.dep] at *;lia) (by simp only [List.length_append,List.length_cons,List.length_nil];lia)).runs).mono (Nat.le_refl _) (Nat.le_refl _) (fun h z => AllC.snoc z.1 z.2) fun zz zz z => z
       repeat' walk1
       all_goals exact k _ _ _ (St.aft (by assumption)) (by rw [leaf_or_any hlf];assumption)
     clear J
     cases pd with
     | never => exact absurd rfl hlf
     | always => exact absurd rfl hlf
     | rng => exact absurd rfl hlf
     | all J' lb mb' mz =>
       rename_i lbA us ds
       have RM:Runs (gg γ) (call (.ref 592) ((vs.toArray ++ [Value.ref y].toArray).toList)) (20 + 6 * n) (200 + 60 * n) (fun h => AllC h vs cs ∧ IsC h (.ref y) (.all ds)) (fun h r => IsC h r (.any (ded (n + 1) (cs ++ [.all ds])))):=by
         have e:(vs.toArray ++ [Value.ref y].toArray).toList = vs ++ [Value.ref y]:=by simp
         rw [e]
         exact ((mk_any n (vs ++ [Value.ref y]) (cs ++ [.all ds]) (by rw [depL_append];simp only [depL,Cl.dep] at *;lia) (by simp only [List.length_append,List.length_cons,List.length_nil];lia)).runs).mono (Nat.le_refl _) (Nat.le_refl _) (fun h z => AllC.snoc z.1 z.2) fun zz zz z => z
       repeat' walk1
       all_goals exact k _ _ _ (St.aft (by assumption)) (by assumption)
     | any J' lb mb' mz =>
       rename_i lbA us ds
       have hlu:=mb'.length
       have hld:=len_wtL ds
       have hwd:(Cl.any ds).wt = wtL ds + 1:=rfl
       have hdd:(Cl.any ds).dep = depL ds + 1:=rfl
       have RM:Runs (gg γ) (call (.ref 592) ((vs.toArray ++ us.toArray).toList)) (20 + 6 * n) (200 + 60 * n) (fun h => AllC h vs cs ∧ AllC h us ds) (fun h r => IsC h r (.any (ded (n + 1) (cs ++ ds)))):=by
         have e:(vs.toArray ++ us.toArray).toList = vs ++ us:=by simp
         rw [e]
         exact ((mk_any n (vs ++ us) (cs ++ ds) (by rw [depL_append];skip;lia) (by rw [List.length_append];lia)).runs).mono (Nat.le_refl _) (Nat.le_refl _) (fun h z => AllC.append z.1 z.2) fun zz zz z => z
       repeat' walk1
       all_goals exact k _ _ _ (St.aft (by assumption)) (by assumption)
end
section
set_option tactic.hygienic true
variable {γ:Cfg}
local macro_rules | `(tactic| walk_at $s:str) => do let k:=Lean.Syntax.mkStrLit ("Z36 " ++ s.getString);`(tactic| k_extra $k)
local macro_rules | `(tactic| walk_at "0") => `(tactic| skip)
theorem words_W36_29:True:=by
 w_top off
 k_with "Z36 binaryOp Add ref ref" => k_extra "q29"
 k_with "Z36 binaryOp BitAnd ref ref" => k_extra "q22"
 k_with "Z36 binaryOp BitOr ref ref" => k_extra "q22"
 k_with "Z36 call ref" => k_extra "q30"
 trivial
theorem leafDep {c:Cl} (h:c.leaf = true):c.dep = 0:=by cases c <;> first | rfl | exact absurd h Bool.false_ne_true
theorem leaf_and_m {N:Nat} {d:Cl} {o0 wy0:Str} {U0:Ver} (h:d.leaf = true):andC N (.rng o0 wy0 U0) d = .all (ded N [.rng o0 wy0 U0,d]):=by cases d <;> first | rfl | exact absurd h Bool.false_ne_true
theorem and_m (n:Nat) (o0 wy0:Str) (U0:Ver) (d:Cl) (hn:1 ≤ n) (h1:(Cl.rng o0 wy0 U0).dep ≤ n) (h2:d.dep ≤ n) (hw:(Cl.rng o0 wy0 U0).wt + d.wt ≤ 900) (v u:Value):Runs (gg γ) (call (.ref 679) [v,u]) (40 + 6 * n) (400 + 60 * n) (fun h => IsC h v (.rng o0 wy0 U0) ∧ IsC h u d) (fun h r => IsC h r (andC (n + 1) (.rng o0 wy0 U0) d)):=by
 intro A s fz Q E hh hd hu sub inv bare pre k
 obtain ⟨pc,pd⟩:=pre
 have pc0:=pc
 cases pc with
 | rng rs hop0 =>
   obtain ⟨x,t1,t2,t3,tv,eqv,I,jv0,okv0⟩:=rs
   cases eqv
   have pd0:=pd
   obtain ⟨y,ykv,rfl,J⟩:=pd.inst
   refine' wpAny_call (enter [(Str.ofString "other", .ref y),(Str.ofString "self", .ref x)] ?h1 sub inv bare ?h2 ?h3 ?h4 ?h5 ?h6 ?h7 ?h8 ?h9 ?h10)
   walk_at "M enter"
   case h10 =>
     intro s₁ L S
     by_cases hlf:d.leaf = true
     · skip
       have hd0:=leafDep hlf
       have YM:=isMat hlf
       have NA:=notAny (leafAny hlf)
       have NL:=notAll (leafAll hlf)
       have RM:Runs (gg γ) (call (.ref 663) [.ref x,.ref y]) (20 + 6 * n) (200 + 60 * n) (fun h => IsC h (.ref x) (.rng o0 wy0 U0) ∧ IsC h (.ref y) d) (fun h r => IsC h r (.all (ded (n + 1) [.rng o0 wy0 U0,d]))) :=
         ((mk_all n [.ref x,.ref y] [.rng o0 wy0 U0,d] (by simp only [depL] at *;lia) (by simp only [List.length_cons,List.length_nil];lia)).runs).mono (Nat.le_refl _) (Nat.le_refl _) (fun h z => .cons z.1 (.cons z.2 .nil)) fun zz zz z => z
       repeat' walk1
       all_goals exact k _ _ _ (St.aft (by assumption)) (by rw [leaf_and_m hlf];assumption)
     clear J
     cases pd with
     | never => exact absurd rfl hlf
     | always => exact absurd rfl hlf
     | rng => exact absurd rfl hlf
     | any J' lb mb' mz =>
       rename_i lbA us ds
       have RM:Runs (gg γ) (call (.ref 663) [.ref x,.ref y]) (20 + 6 * n) (200 + 60 * n) (fun h => IsC h (.ref x) (.rng o0 wy0 U0) ∧ IsC h (.ref y) (.any ds)) (fun h r => IsC h r (.all (ded (n + 1) [.rng o0 wy0 U0,.any ds]))) :=
         ((mk_all n [.ref x,.ref y] [.rng o0 wy0 U0,.any ds] (by simp only [depL] at *;lia) (by simp only [List.length_cons,List.length_nil];lia)).runs).mono (Nat.le_refl _) (Nat.le_refl _) (fun h z => .cons z.1 (.cons z.2 .nil)) fun zz zz z => z
       repeat' walk1
       all_goals exact k _ _ _ (St.aft (by assumption)) (by assumption)
     | all J' lb mb' mz =>
       rename_i lbA us ds
       have RB:Runs (gg γ) (binaryOp .BitAnd (.ref y) (.ref x)) (30 + 6 * n) (300 + 60 * n) (fun h => IsC h (.ref y) (.all ds) ∧ IsC h (.ref x) (.rng o0 wy0 U0)) (fun h r => IsC h r (andC (n + 1) (.all ds) (.rng o0 wy0 U0))) :=
         bin_and (c:=.all ds) (d:=.rng o0 wy0 U0) (and_all n ds (.rng o0 wy0 U0) (by change depL _ + 1 ≤ _ at h2;lia) h1 (by have hq:(Cl.all ds).wt = wtL ds + 1:=rfl;lia) (.ref y) (.ref x)) (fun h z => z) (fun h r z => IsC.ne z)
       repeat' walk1
       all_goals exact k _ _ _ (St.aft (by assumption)) (by assumption)
theorem leaf_and_any {N:Nat} {d:Cl} {cs:List Cl} (h:d.leaf = true):andC N (.any cs) d = .all (ded N [.any cs,d]):=by cases d <;> first | rfl | exact absurd h Bool.false_ne_true
theorem and_any (n:Nat) (cs:List Cl) (d:Cl) (hn:1 ≤ n) (h1:(Cl.any cs).dep ≤ n) (h2:d.dep ≤ n) (hw:(Cl.any cs).wt + d.wt ≤ 900) (v u:Value):Runs (gg γ) (call (.ref 568) [v,u]) (40 + 6 * n) (400 + 60 * n) (fun h => IsC h v (.any cs) ∧ IsC h u d) (fun h r => IsC h r (andC (n + 1) (.any cs) d)):=by
 intro A s fz Q E hh hd hu sub inv bare pre k
 obtain ⟨pc,pd⟩:=pre
 have pc0:=pc
 cases pc with
 | any I hl ha hz =>
   rename_i x la vs
   have pd0:=pd
   obtain ⟨y,ykv,rfl,J⟩:=pd.inst
   refine' wpAny_call (enter [(Str.ofString "other", .ref y),(Str.ofString "self", .ref x)] ?h1 sub inv bare ?h2 ?h3 ?h4 ?h5 ?h6 ?h7 ?h8 ?h9 ?h10)
   walk_at "M enter"
   case h10 =>
     intro s₁ L S
     by_cases hlf:d.leaf = true
     · skip
       have hd0:=leafDep hlf
       have YM:=isMat hlf
       have NA:=notAny (leafAny hlf)
       have NL:=notAll (leafAll hlf)
       have RM:Runs (gg γ) (call (.ref 663) [.ref x,.ref y]) (20 + 6 * n) (200 + 60 * n) (fun h => IsC h (.ref x) (.any cs) ∧ IsC h (.ref y) d) (fun h r => IsC h r (.all (ded (n + 1) [.any cs,d]))) :=
         ((mk_all n [.ref x,.ref y] [.any cs,d] (by simp only [depL] at *;lia) (by simp only [List.length_cons,List.length_nil];lia)).runs).mono (Nat.le_refl _) (Nat.le_refl _) (fun h z => .cons z.1 (.cons z.2 .nil)) fun zz zz z => z
       repeat' walk1
       all_goals exact k _ _ _ (St.aft (by assumption)) (by rw [leaf_and_any hlf];assumption)
     clear J
     cases pd with
     | never => exact absurd rfl hlf
     | always => exact absurd rfl hlf
     | rng => exact absurd rfl hlf
     | any J' lb mb' mz =>
       rename_i lbA us ds
       have RM:Runs (gg γ) (call (.ref 663) [.ref x,.ref y]) (20 + 6 * n) (200 + 60 * n) (fun h => IsC h (.ref x) (.any cs) ∧ IsC h (.ref y) (.any ds)) (fun h r => IsC h r (.all (ded (n + 1) [.any cs,.any ds]))) :=
         ((mk_all n [.ref x,.ref y] [.any cs,.any ds] (by simp only [depL] at *;lia) (by simp only [List.length_cons,List.length_nil];lia)).runs).mono (Nat.le_refl _) (Nat.le_refl _) (fun h z => .cons z.1 (.cons z.2 .nil)) fun zz zz z => z
       repeat' walk1
       all_goals exact k _ _ _ (St.aft (by assumption)) (by assumption)
     | all J' lb mb' mz =>
       rename_i lbA us ds
       have RB:Runs (gg γ) (binaryOp .BitAnd (.ref y) (.ref x)) (30 + 6 * n) (300 + 60 * n) (fun h => IsC h (.ref y) (.all ds) ∧ IsC h (.ref x) (.any cs)) (fun h r => IsC h r (andC (n + 1) (.all ds) (.any cs))) :=
         bin_and (c:=.all ds) (d:=.any cs) (and_all n ds (.any cs) (by change depL _ + 1 ≤ _ at h2;lia) h1 (by have hq:(Cl.all ds).wt = wtL ds + 1:=rfl;lia) (.ref y) (.ref x)) (fun h z => z) (fun h r z => IsC.ne z)
       repeat' walk1
       all_goals exact k _ _ _ (St.aft (by assumption)) (by assumption)
theorem leaf_or_m {N:Nat} {d:Cl} {o0 wy0:Str} {U0:Ver} (h:d.leaf = true):orC N (.rng o0 wy0 U0) d = .any (ded N [.rng o0 wy0 U0,d]):=by cases d <;> first | rfl | exact absurd h Bool.false_ne_true
theorem or_m (n:Nat) (o0 wy0:Str) (U0:Ver) (d:Cl) (hn:1 ≤ n) (h1:(Cl.rng o0 wy0 U0).dep ≤ n) (h2:d.dep ≤ n) (hw:(Cl.rng o0 wy0 U0).wt + d.wt ≤ 900) (v u:Value):Runs (gg γ) (call (.ref 686) [v,u]) (40 + 6 * n) (400 + 60 * n) (fun h => IsC h v (.rng o0 wy0 U0) ∧ IsC h u d) (fun h r => IsC h r (orC (n + 1) (.rng o0 wy0 U0) d)):=by
 intro A s fz Q E hh hd hu sub inv bare pre k
 obtain ⟨pc,pd⟩:=pre
 have pc0:=pc
 cases pc with
 | rng rs hop0 =>
   obtain ⟨x,t1,t2,t3,tv,eqv,I,jv0,okv0⟩:=rs
   cases eqv
   have pd0:=pd
   obtain ⟨y,ykv,rfl,J⟩:=pd.inst
   refine' wpAny_call (enter [(Str.ofString "other", .ref y),(Str.ofString "self", .ref x)] ?h1 sub inv bare ?h2 ?h3 ?h4 ?h5 ?h6 ?h7 ?h8 ?h9 ?h10)
   walk_at "M enter"
   case h10 =>
     intro s₁ L S
     by_cases hlf:d.leaf = true
     · skip
       have hd0:=leafDep hlf
       have YM:=isMat hlf
       have NA:=notAny (leafAny hlf)
       have NL:=notAll (leafAll hlf)
       have RM:Runs (gg γ) (call (.ref 592) [.ref x,.ref y]) (20 + 6 * n) (200 + 60 * n) (fun h => IsC h (.ref x) (.rng o0 wy0 U0) ∧ IsC h (.ref y) d) (fun h r => IsC h r (.any (ded (n + 1) [.rng o0 wy0 U0,d]))) :=
         ((mk_any n [.ref x,.ref y] [.rng o0 wy0 U0,d] (by simp only [depL] at *;lia) (by simp only [List.length_cons,List.length_nil];lia)).runs).mono (Nat.le_refl _) (Nat.le_refl _) (fun h z => .cons z.1 (.cons z.2 .nil)) fun zz zz z => z
       repeat' walk1
       all_goals exact k _ _ _ (St.aft (by assumption)) (by rw [leaf_or_m hlf];assumption)
     clear J
     cases pd with
     | never => exact absurd rfl hlf
     | always => exact absurd rfl hlf
     | rng => exact absurd rfl hlf
     | any J' lb mb' mz =>
       rename_i lbA us ds
       have RB:Runs (gg γ) (binaryOp .BitOr (.ref y) (.ref x)) (30 + 6 * n) (300 + 60 * n) (fun h => IsC h (.ref y) (.any ds) ∧ IsC h (.ref x) (.rng o0 wy0 U0)) (fun h r => IsC h r (orC (n + 1) (.any ds) (.rng o0 wy0 U0))) :=
         bin_or (c:=.any ds) (d:=.rng o0 wy0 U0) (or_any n ds (.rng o0 wy0 U0) (by change depL _ + 1 ≤ _ at h2;lia) h1 (by have hq:(Cl.any ds).wt = wtL ds + 1:=rfl;lia) (.ref y) (.ref x)) (fun h z => z) (fun h r z => IsC.ne z)
       repeat' walk1
       all_goals exact k _ _ _ (St.aft (by assumption)) (by assumption)
     | all J' lb mb' mz =>
       rename_i lbA us ds
       have RM:Runs (gg γ) (call (.ref 592) [.ref x,.ref y]) (20 + 6 * n) (200 + 60 * n) (fun h => IsC h (.ref x) (.rng o0 wy0 U0) ∧ IsC h (.ref y) (.all ds)) (fun h r => IsC h r (.any (ded (n + 1) [.rng o0 wy0 U0,.all ds]))) :=
         ((mk_any n [.ref x,.ref y] [.rng o0 wy0 U0,.all ds] (by simp only [depL] at *;lia) (by simp only [List.length_cons,List.length_nil];lia)).runs).mono (Nat.le_refl _) (Nat.le_refl _) (fun h z => .cons z.1 (.cons z.2 .nil)) fun zz zz z => z
       repeat' walk1
       all_goals exact k _ _ _ (St.aft (by assumption)) (by assumption)
theorem leaf_or_all {N:Nat} {d:Cl} {cs:List Cl} (h:d.leaf = true):orC N (.all cs) d = .any (ded N [.all cs,.all (ded N [d])]):=by cases d <;> first | rfl | exact absurd h Bool.false_ne_true
theorem or_all (n:Nat) (cs:List Cl) (d:Cl) (hn:1 ≤ n) (h1:(Cl.all cs).dep ≤ n) (h2:d.dep ≤ n) (hw:(Cl.all cs).wt + d.wt ≤ 900) (v u:Value):Runs (gg γ) (call (.ref 646) [v,u]) (40 + 6 * n) (400 + 60 * n) (fun h => IsC h v (.all cs) ∧ IsC h u d) (fun h r => IsC h r (orC (n + 1) (.all cs) d)):=by
 intro A s fz Q E hh hd hu sub inv bare pre k
 obtain ⟨pc,pd⟩:=pre
 have pc0:=pc
 cases pc with
 | all I hl ha hz =>
   rename_i x la vs
   have pd0:=pd
   obtain ⟨y,ykv,rfl,J⟩:=pd.inst
   refine' wpAny_call (enter [(Str.ofString "other", .ref y),(Str.ofString "self", .ref x)] ?h1 sub inv bare ?h2 ?h3 ?h4 ?h5 ?h6 ?h7 ?h8 ?h9 ?h10)
   walk_at "M enter"
   case h10 =>
     intro s₁ L S
     by_cases hlf:d.leaf = true
     · skip
       have hd0:=leafDep hlf
       have YM:=isMat hlf
       have NA:=notAny (leafAny hlf)
       have NL:=notAll (leafAll hlf)
       have RM:Runs (gg γ) (call (.ref 663) [.ref y]) (20 + 6 * n) (200 + 60 * n) (fun h => IsC h (.ref y) d) (fun h r => IsC h r (.all (ded (n + 1) [d]))) :=
         ((mk_all n [.ref y] [d] (by simp only [depL] at *;lia) (by simp only [List.length_cons,List.length_nil];lia)).runs).mono (Nat.le_refl _) (Nat.le_refl _) (fun h z => .cons z .nil) fun zz zz z => z
       have RM2:∀ r1,Runs (gg γ) (call (.ref 592) [.ref x,r1]) (20 + 6 * n) (200 + 60 * n) (fun h => IsC h (.ref x) (.all cs) ∧ IsC h r1 (.all (ded (n + 1) [d]))) (fun h r => IsC h r (.any (ded (n + 1) [.all cs,.all (ded (n + 1) [d])]))):=fun r1 =>
         ((mk_any n [.ref x,r1] [.all cs,.all (ded (n + 1) [d])] (by have hq:=depL_sub (ded_sub (n + 1) [d]);simp only [depL,Cl.dep] at *;lia) (by simp only [List.length_cons,List.length_nil];lia)).runs).mono (Nat.le_refl _) (Nat.le_refl _) (fun h z => .cons z.1 (.cons z.2 .nil)) fun zz zz z => z
       repeat' walk1
       all_goals exact k _ _ _ (St.aft (by assumption)) (by rw [leaf_or_all hlf];assumption)
     clear J
     cases pd with
     | never => exact absurd rfl hlf
     | always => exact absurd rfl hlf
     | rng => exact absurd rfl hlf
     | any J' lb mb' mz =>
       rename_i lbA us ds
       have RB:Runs (gg γ) (binaryOp .BitOr (.ref y) (.ref x)) (30 + 6 * n) (300 + 60 * n) (fun h => IsC h (.ref y) (.any ds) ∧ IsC h (.ref x) (.all cs)) (fun h r => IsC h r (orC (n + 1) (.any ds) (.all cs))) :=
         bin_or (c:=.any ds) (d:=.all cs) (or_any n ds (.all cs) (by change depL _ + 1 ≤ _ at h2;lia) h1 (by have hq:(Cl.any ds).wt = wtL ds + 1:=rfl;lia) (.ref y) (.ref x)) (fun h z => z) (fun h r z => IsC.ne z)
       repeat' walk1
       all_goals exact k _ _ _ (St.aft (by assumption)) (by assumption)
     | all J' lb mb' mz =>
       rename_i lbA us ds
       have RM:Runs (gg γ) (call (.ref 592) [.ref x,.ref y]) (20 + 6 * n) (200 + 60 * n) (fun h => IsC h (.ref x) (.all cs) ∧ IsC h (.ref y) (.all ds)) (fun h r => IsC h r (.any (ded (n + 1) [.all cs,.all ds]))) :=
         ((mk_any n [.ref x,.ref y] [.all cs,.all ds] (by simp only [depL] at *;lia) (by simp only [List.length_cons,List.length_nil];lia)).runs).mono (Nat.le_refl _) (Nat.le_refl _) (fun h z => .cons z.1 (.cons z.2 .nil)) fun zz zz z => z
       repeat' walk1
       all_goals exact k _ _ _ (St.aft (by assumption)) (by assumption)
theorem and_never (n:Nat) (d:Cl) (v u:Value):Runs (gg γ) (call (.ref 726) [v,u]) (40 + 6 * n) (400 + 60 * n) (fun h => IsC h v .never ∧ IsC h u d) (fun h r => IsC h r (andC (n + 1) .never d)):=by
 intro A s fz Q E hh hd hu sub inv bare pre k
 obtain ⟨pc,pd⟩:=pre
 refine' wpAny_call (enter [(Str.ofString "other", u),(Str.ofString "self", v)] ?h1 sub inv bare ?h2 ?h3 ?h4 ?h5 ?h6 ?h7 ?h8 ?h9 ?h10)
 walk_at "M enter"
 case h10 =>
   intro s₁ L S
   repeat' walk1
   exact k _ _ _ (St.aft (by assumption)) pc
theorem and_always (n:Nat) (d:Cl) (v u:Value):Runs (gg γ) (call (.ref 780) [v,u]) (40 + 6 * n) (400 + 60 * n) (fun h => IsC h v .always ∧ IsC h u d) (fun h r => IsC h r (andC (n + 1) .always d)):=by
 intro A s fz Q E hh hd hu sub inv bare pre k
 obtain ⟨pc,pd⟩:=pre
 refine' wpAny_call (enter [(Str.ofString "other", u),(Str.ofString "self", v)] ?h1 sub inv bare ?h2 ?h3 ?h4 ?h5 ?h6 ?h7 ?h8 ?h9 ?h10)
 walk_at "M enter"
 case h10 =>
   intro s₁ L S
   repeat' walk1
   exact k _ _ _ (St.aft (by assumption)) pd
theorem or_never (n:Nat) (d:Cl) (v u:Value):Runs (gg γ) (call (.ref 733) [v,u]) (40 + 6 * n) (400 + 60 * n) (fun h => IsC h v .never ∧ IsC h u d) (fun h r => IsC h r (orC (n + 1) .never d)):=by
 intro A s fz Q E hh hd hu sub inv bare pre k
 obtain ⟨pc,pd⟩:=pre
 refine' wpAny_call (enter [(Str.ofString "other", u),(Str.ofString "self", v)] ?h1 sub inv bare ?h2 ?h3 ?h4 ?h5 ?h6 ?h7 ?h8 ?h9 ?h10)
 walk_at "M enter"
 case h10 =>
   intro s₁ L S
   repeat' walk1
   exact k _ _ _ (St.aft (by assumption)) pd
theorem or_always (n:Nat) (d:Cl) (v u:Value):Runs (gg γ) (call (.ref 787) [v,u]) (40 + 6 * n) (400 + 60 * n) (fun h => IsC h v .always ∧ IsC h u d) (fun h r => IsC h r (orC (n + 1) .always d)):=by
 intro A s fz Q E hh hd hu sub inv bare pre k
 obtain ⟨pc,pd⟩:=pre
 refine' wpAny_call (enter [(Str.ofString "other", u),(Str.ofString "self", v)] ?h1 sub inv bare ?h2 ?h3 ?h4 ?h5 ?h6 ?h7 ?h8 ?h9 ?h10)
 walk_at "M enter"
 case h10 =>
   intro s₁ L S
   repeat' walk1
   exact k _ _ _ (St.aft (by assumption)) pc
end
section
set_option tactic.hygienic false
variable {γ:Cfg}
theorem c_and (n:Nat) (hn:1 ≤ n) (c d:Cl) (h1:c.dep ≤ n) (h2:d.dep ≤ n) (hw:c.wt + d.wt ≤ 900) (x y:Addr):Runs (gg γ) (binaryOp .BitAnd (.ref x) (.ref y)) (40 + 6 * n) (400 + 60 * n) (fun h => IsC h (.ref x) c ∧ IsC h (.ref y) d) (fun h r => IsC h r (andC (n + 1) c d)):=by
 w_top off
 refine bin_and (c:=c) (d:=d) ?_ (fun h z => z) (fun h r z => IsC.ne z)
 cases c with
 | never => exact and_never n d _ _
 | always => exact and_always n d _ _
 | rng o wy U => exact and_m n o wy U d hn h1 h2 hw _ _
 | any cs => exact and_any n cs d hn h1 h2 hw _ _
 | all cs => exact (and_all n cs d (by have hq:(Cl.all cs).dep = depL cs + 1:=rfl;lia) h2 (by have hq:(Cl.all cs).wt = wtL cs + 1:=rfl;lia) _ _).mono (by lia) (by lia) (fun zz h => h) fun zz zz h => h
theorem c_or (n:Nat) (hn:1 ≤ n) (c d:Cl) (h1:c.dep ≤ n) (h2:d.dep ≤ n) (hw:c.wt + d.wt ≤ 900) (x y:Addr):Runs (gg γ) (binaryOp .BitOr (.ref x) (.ref y)) (40 + 6 * n) (400 + 60 * n) (fun h => IsC h (.ref x) c ∧ IsC h (.ref y) d) (fun h r => IsC h r (orC (n + 1) c d)):=by
 refine bin_or (c:=c) (d:=d) ?_ (fun h z => z) (fun h r z => IsC.ne z)
 cases c with
 | never => exact or_never n d _ _
 | always => exact or_always n d _ _
 | rng o wy U => exact or_m n o wy U d hn h1 h2 hw _ _
 | any cs => exact (or_any n cs d (by have hq:(Cl.any cs).dep = depL cs + 1:=rfl;lia) h2 (by have hq:(Cl.any cs).wt = wtL cs + 1:=rfl;lia) _ _).mono (by lia) (by lia) (fun zz h => h) fun zz zz h => h
 | all cs => exact or_all n cs d hn h1 h2 hw _ _
end
section
set_option tactic.hygienic false
variable {γ:Cfg}
local macro_rules | `(tactic| walk_at $s:str) => do let k:=Lean.Syntax.mkStrLit ("Z38 " ++ s.getString);`(tactic| k_extra $k)
local macro_rules | `(tactic| walk_at "0") => `(tactic| skip)
local macro_rules | `(tactic| walk_at "0") => `(tactic| skip)
theorem words_W38_30:True:=by
 w_top off
 k_with "Z38 compareOp Eq ref ref" => k_dflt (refine' cmp_ofEq ?_;with_reducible refine' St.run (g:=gg _) (by k_dflt (assumption)) (by k_dflt (rfl)) RQ (by k_dflt (walk_at "M hh")) (by k_dflt (walk_at "M depth")) (by k_dflt (walk_at "M units")) (by k_dflt (walk_at "M pre")) ?_;walk_at "M run")
 trivial
theorem ne_call (n:Nat) (c d:Cl) (hc:c.dep ≤ n) (hd:d.dep ≤ n) (x y:Addr):Runs (gg γ) (call (.ref 509) [.ref x,.ref y]) (12 + 6 * n) (90 + 60 * n) (fun h => IsC h (.ref x) c ∧ IsC h (.ref y) d) (fun zz r => r = .bool (!Cl.eqn (n + 1) c d)):=by
 intro A s fz Q E hh hd' hu sub inv bare pre k
 have pc:=pre.1
 have pd:=pre.2
 have RQ:=c_rc (γ:=γ) n c d hc hd (.ref x) (.ref y)
 refine' wpAny_call (enter [(Str.ofString "other", .ref y),(Str.ofString "self", .ref x)] ?h1 sub inv bare ?h2 ?h3 ?h4 ?h5 ?h6 ?h7 ?h8 ?h9 ?h10)
 walk_at "M enter"
 case h10 =>
   intro s₁ L S
   repeat' walk1
   exact k _ _ _ (St.aft (by assumption)) rfl
theorem fi_ne (c:Cl):findIn (mk.heap_1 γ.w.params) (.ref c.cls) (cmpInfo .NotEq).2.1 = some (some (.ref 509)):=by
 cases c <;> (simp only [Cl.cls];first | walk_at "M fi" | kernel_rfl)
theorem fi_ne2 (c:Cl):findIn (mk.heap_1 γ.w.params) (.ref c.cls) (cmpInfo .NotEq).2.2 = some (some (.ref 509)):=by
 cases c <;> (simp only [Cl.cls];first | walk_at "M fi" | kernel_rfl)
theorem c_ne (n:Nat) (c d:Cl) (hc:c.dep ≤ n) (hd:d.dep ≤ n) (x y:Addr):Runs (gg γ) (richCompare .NotEq (.ref x) (.ref y)) (12 + 6 * n) (91 + 60 * n) (fun h => IsC h (.ref x) c ∧ IsC h (.ref y) d) (fun zz r => r = .bool (!Cl.eqn (n + 1) c d)):=by
 intro A s fz Q E hh hd' hu sub inv bare pre k
 obtain ⟨_,kv,e1,I⟩:=pre.1.inst
 cases e1
 obtain ⟨_,kv',e2,J⟩:=pre.2.inst
 cases e2
 exact rc_runs (g:=gg γ) (op:=.NotEq) (C:=c.cls) (D:=d.cls) (f:=509) (f':=509) (nu:=90 + 60 * n) (v2:=.none) (P:=fun h => (Inst h x c.cls kv ∧ Inst h y d.cls kv') ∧ IsC h (.ref x) c ∧ IsC h (.ref y) d) (nf_eq c d) (fi_ne c) (by walk_at "M fn") (fi_ne2 d) (by walk_at "M fn")
   ((ne_call n c d hc hd x y).mono (Nat.le_refl _) (Nat.le_refl _) (fun h z => z.2) fun zz zz z => z) (fun q => nomatch q) (fun h h' q z => ⟨⟨z.1.1.grows q,z.1.2.grows q⟩,IsC.grows q z.2.1,IsC.grows q z.2.2⟩) (fun h z => z.1) (.inl rfl) A s fz Q E hh hd' (by lia) sub inv bare ⟨⟨I,J⟩,pre⟩ k
end
section
set_option tactic.hygienic true
variable {γ:Cfg}
theorem law_words:Runs (gg γ) (call (.ref 861) []) 2 20 (fun zz => True) (fun h r => ∃ a vs,r = .ref a ∧ h.IsList a vs.toArray ∧ AllS vs [Str.ofString "", Str.ofString "-a", Str.ofString "-b", Str.ofString "-a.1", Str.ofString "-9", Str.ofString "-10"]):=by
 w_top off
 intro A s fz Q E hh hd' hu sub inv bare pre k
 refine' wpAny_call (enter [] ?h1 sub inv bare ?h2 ?h3 ?h4 ?h5 ?h6 ?h7 ?h8 ?h9 ?h10)
 walk_at "M enter"
 case h10 =>
   intro s₁ L S
   repeat' walk1
   rename_i s' D S'
   obtain ⟨fz3,gr3,_,hD,S4⟩:=S'.freeze 0 rfl
   exact k _ _ _ (St.aft S4) ⟨D,_,rfl,⟨_,hD,rfl,_,rfl⟩,⟨_,rfl⟩,⟨_,rfl⟩,⟨_,rfl⟩,⟨_,rfl⟩,⟨_,rfl⟩,⟨_,rfl⟩,trivial⟩
theorem law_operators:Runs (gg γ) (call (.ref 868) []) 2 20 (fun zz => True) (fun h r => ∃ a vs,r = .ref a ∧ h.IsList a vs.toArray ∧ AllS vs [Str.ofString "==", Str.ofString "!=", Str.ofString "<", Str.ofString "<=", Str.ofString ">", Str.ofString ">="]):=by
 intro A s fz Q E hh hd' hu sub inv bare pre k
 refine' wpAny_call (enter [] ?h1 sub inv bare ?h2 ?h3 ?h4 ?h5 ?h6 ?h7 ?h8 ?h9 ?h10)
 walk_at "M enter"
 case h10 =>
   intro s₁ L S
   repeat' walk1
   rename_i s' D S'
   obtain ⟨fz3,gr3,_,hD,S4⟩:=S'.freeze 0 rfl
   exact k _ _ _ (St.aft S4) ⟨D,_,rfl,⟨_,hD,rfl,_,rfl⟩,⟨_,rfl⟩,⟨_,rfl⟩,⟨_,rfl⟩,⟨_,rfl⟩,⟨_,rfl⟩,⟨_,rfl⟩,trivial⟩
theorem law_ways:Runs (gg γ) (call (.ref 875) []) 2 20 (fun zz => True) (fun h r => ∃ a vs,r = .ref a ∧ h.IsList a vs.toArray ∧ AllS vs [Str.ofString "natural", Str.ofString "always", Str.ofString "same-patch"]):=by
 intro A s fz Q E hh hd' hu sub inv bare pre k
 refine' wpAny_call (enter [] ?h1 sub inv bare ?h2 ?h3 ?h4 ?h5 ?h6 ?h7 ?h8 ?h9 ?h10)
 walk_at "M enter"
 case h10 =>
   intro s₁ L S
   repeat' walk1
   rename_i s' D S'
   obtain ⟨fz3,gr3,_,hD,S4⟩:=S'.freeze 0 rfl
   exact k _ _ _ (St.aft S4) ⟨D,_,rfl,⟨_,hD,rfl,_,rfl⟩,⟨_,rfl⟩,⟨_,rfl⟩,⟨_,rfl⟩,trivial⟩
theorem law_keys:Runs (gg γ) (call (.ref 882) []) 2 20 (fun zz => True) (fun h r => ∃ a vs,r = .ref a ∧ h.IsList a vs.toArray ∧ AllT h vs [(2,0,0),(1,0,0),(1,1,0),(1,0,1),(0,9,0),(0,10,0)]):=by
 intro A s fz Q E hh hd' hu sub inv bare pre k
 refine' wpAny_call (enter [] ?h1 sub inv bare ?h2 ?h3 ?h4 ?h5 ?h6 ?h7 ?h8 ?h9 ?h10)
 walk_at "M enter"
 case h10 =>
   intro s₁ L S
   repeat' walk1
   rename_i s' D S'
   obtain ⟨fz3,gr3,_,hD,S4⟩:=S'.freeze 0 rfl
   exact k _ _ _ (St.aft S4) ⟨D,_,rfl,⟨_,hD,rfl,_,rfl⟩,⟨_,_,_,_,rfl,by walk_at "M tup"⟩,⟨_,_,_,_,rfl,by walk_at "M tup"⟩,⟨_,_,_,_,rfl,by walk_at "M tup"⟩,⟨_,_,_,_,rfl,by walk_at "M tup"⟩,⟨_,_,_,_,rfl,by walk_at "M tup"⟩,⟨_,_,_,_,rfl,by walk_at "M tup"⟩,trivial⟩
end
section
set_option tactic.hygienic false
variable {γ:Cfg}
theorem law_range (n:Int) (t:Tok):Runs (gg γ) (call (.ref 889) [.int n t]) 2 20 (fun zz => True) (fun h r => IsLeaf h r (rangeOf n)):=by
 w_top off
 intro A s fz Q E hh hd' hu sub inv bare pre k
 refine' wpAny_call (enter [(Str.ofString "number", .int n t)] ?h1 sub inv bare ?h2 ?h3 ?h4 ?h5 ?h6 ?h7 ?h8 ?h9 ?h10)
 walk_at "M enter"
 case h10 =>
   intro s₁ L S
   repeat' walk1
   exact k _ _ _ (St.aft (by assumption)) ⟨_,_,_,_,_,rfl,by with_reducible assumption,⟨_,_,_,_,rfl,by walk_at "M tup"⟩⟩
end
theorem words_W41:True:=by
 k_with "Z subscriptTail" => ((with_reducible show wpAny _ _ (subscriptTail _ _ (Value.ref _) (Value.int _ _)) _ _ _);k_dflt (first | (refine' item_tuple ?_ ?_ ?_ ?_ ?_ ?_;rotate_right 6;(·refine' isTup_sub ?_ ?_;rotate_right 2;rotate_left;(·exact St.le (by assumption));rotate_right;(·walk_at "M tup"));(·first | decide | lia);(·first | decide | lia);(·first | with_reducible assumption | exact sj0 | exact sj1 | exact sj2 | exact sj3 | rfl);(·first | with_reducible assumption | with_reducible exact tu0 | with_reducible exact tu1 | with_reducible exact tu2 | with_reducible exact tu3 | rfl);k_whole) | (refine' item_listR ?_ ?_ ?_ ?_ ?_;rotate_right 5;(·first | (refine' St.listAt ?_ ?_;rotate_right 2;(·assumption);(·walk_at "M at")) | (refine' isList_sub ?_ ?_;rotate_right 2;rotate_left;(·exact St.le (by assumption));rotate_right;(·walk_at "M fact")));(·first | decide | lia);(·first | decide | lia);(·first | with_reducible assumption | rfl);k_whole)))
 trivial
section
set_option tactic.hygienic true
variable {γ:Cfg}
local macro_rules | `(tactic| walk_at $s:str) => do let k:=Lean.Syntax.mkStrLit ("Z41 " ++ s.getString);`(tactic| k_extra $k)
theorem allS_get {vs:List Value} {wd:Int} (h:AllS vs [Str.ofString "", Str.ofString "-a", Str.ofString "-b", Str.ofString "-a.1", Str.ofString "-9", Str.ofString "-10"]) (h0:0 ≤ wd) (h6:wd < 6):∃ u,vs[wd.toNat]? = some (.str (wordL wd) u):=by
 w_top off
 have hw:wd = 0 ∨ wd = 1 ∨ wd = 2 ∨ wd = 3 ∨ wd = 4 ∨ wd = 5:=by lia
 have key:∀ (i:Nat) (x:Str),([Str.ofString "", Str.ofString "-a", Str.ofString "-b", Str.ofString "-a.1", Str.ofString "-9", Str.ofString "-10"]:List Str)[i]? = some x → ∃ u,vs[i]? = some (.str x u):=fun i x e => h.at e
 rcases hw with rfl | rfl | rfl | rfl | rfl | rfl <;> exact key _ _ rfl
theorem wordL_len (wd:Int) (h0:0 ≤ wd) (h6:wd < 6):(wordL wd).length ≤ 4:=by
 have hw:wd = 0 ∨ wd = 1 ∨ wd = 2 ∨ wd = 3 ∨ wd = 4 ∨ wd = 5:=by lia
 rcases hw with rfl | rfl | rfl | rfl | rfl | rfl <;> decide +kernel
theorem len_two {i:Int} (h:0 ≤ i ∧ i < 2):(Str.ofString (toString i)).length ≤ 1:=by
 have:i = 0 ∨ i = 1:=by lia
 rcases this with rfl | rfl <;> decide +kernel
theorem len_dot:(Str.ofString ".").length ≤ 1:=by decide +kernel
theorem len_app {x y:Str} {m n:Nat} (a:x.length ≤ m) (b:y.length ≤ n):(x ++ y).length ≤ m + n:=by rw [Str.length_append];exact Nat.add_le_add a b
theorem txt_add {prog:Program} {w:World} {A:Around} {E:Value → Shared → Prop} {s:Shared} {x y:Str} {t u:Tok} {Q:Value → Shared → Prop} {m n:Nat} (a:x.length ≤ m) (b:y.length ≤ n) (e:Nat.ble (m + n) 1000 = true) (h:∀ t' k,Q (.str (x ++ y) t') { s with toks:=k }):wpAny (model prog w) A (binaryOp .Add (.str x t) (.str y u)) Q E s :=
 SB.add h (by have:=Nat.le_of_ble_eq_true e;have:=sizeLine_eq;lia)
theorem words_W41_31:True:=by
 k_with "Z41 M len" => first | with_reducible assumption | exact len_dot | (refine' len_app ?_ ?_;rotate_right 2;(·walk_at "M len");(·walk_at "M len"))
 k_with "Z41 binaryOp Add str str" => (refine' txt_add ?_ ?_ ?_ ?_;rotate_right 4;(·walk_at "M len");(·walk_at "M len");(·walk_at "M rfl");walk_at "I2")
 trivial
theorem law_text (n:Int × Int × Int) (wd:Int) (nv:Value) (t:Tok) (b1:0 ≤ n.1 ∧ n.1 < 2) (b2:0 ≤ n.2.1 ∧ n.2.1 < 2) (b3:0 ≤ n.2.2 ∧ n.2.2 < 2) (h0:0 ≤ wd) (h6:wd < 6):Runs (gg γ) (call (.ref 903) [nv,.int wd t]) 5 50 (fun h => IsTri h nv n) (fun h r => ∃ t,r = .str (textL n wd) t):=by
 intro A s fz Q E hh hd' hu sub inv bare pre k
 have pre0:=pre
 obtain ⟨ta,t1,t2,t3,rfl,hT⟩:=pre
 refine' wpAny_call (enter [(Str.ofString "word", .int wd t),(Str.ofString "numbers", .ref ta)] ?h1 sub inv bare ?h2 ?h3 ?h4 ?h5 ?h6 ?h7 ?h8 ?h9 ?h10)
 walk_at "M enter"
 case h10 =>
   intro s₁ L S
   have R:=law_words (γ:=γ)
   have hwl:=wordL_len wd h0 h6
   have hl1:=len_two b1
   have hl2:=len_two b2
   have hl3:=len_two b3
   repeat' walk1
   rename_i r2 s2 f2 G2 S2 P2
   obtain ⟨a,vs,rfl,hl,hA⟩:=P2
   obtain ⟨u,hx⟩:=allS_get hA h0 h6
   have hx':vs.toArray[wd.toNat]? = some (.str (wordL wd) u):=by simpa using hx
   repeat' walk1
   exact k _ _ _ (St.aft (by assumption)) ⟨_,rfl⟩
end
section
set_option tactic.hygienic true
variable {γ:Cfg}
local macro_rules | `(tactic| walk_at $s:str) => do let k:=Lean.Syntax.mkStrLit ("Z42 " ++ s.getString);`(tactic| k_extra $k)
local macro_rules | `(tactic| walk_at "0") => `(tactic| skip)
theorem words_W42_32:True:=by
 w_top off
 k_with "Z42 ite" => k_dflt (first | (refine ite_pos (by lia) ?_) | (refine ite_neg (by lia) ?_) | (refine ite_pos (by rw [decide_eq_true_eq];lia) ?_) | (refine ite_neg (by rw [decide_eq_true_eq];lia) ?_))
 k_with "Z42 compareOp In" => k_dflt (refine' m_in2 ?_ ?_ ?_ ?_ ?_ ?_ ?_;rotate_right 7;rotate_left;(·assumption);(·walk_at "M tup");(·walk_at "M hh");(·walk_at "M depth");(·walk_at "M units");rotate_right;(·rfl);k_whole;walk_at "I4")
 k_with "q31" => first | with_reducible assumption | ((with_reducible refine' IsTri.grows ?_ ?_);rotate_right 2;(·with_reducible assumption);(·walk_at "M chain"))
 k_with "Z42 M tri" => k_extra "q31"
 k_with "Z42 M duo" => ((with_reducible refine' IsDuo.mk ?_ ?_ ?_);rotate_right 3;(·first | with_reducible assumption | ((with_reducible refine' isTup_grows ?_ ?_);rotate_right 2;(·with_reducible assumption);(·walk_at "M chain")));(·walk_at "M tri");(·walk_at "M tri"))
 k_with "Z42 M fact" => walk_at "M tri"
 k_with "Z42 M runT" => (k_whole;walk_at "M post")
 k_with "Z42 compareOp Eq ref ref" => k_dflt (refine' cmp_ofEq ?_;first | (with_reducible refine' St.run (g:=gg _) (by k_dflt (assumption)) (by k_dflt (rfl)) (tri_op (nd:=0) (nu:=0) (.inl rfl) _ _ _ _) (by k_dflt (walk_at "M hh")) (by k_dflt (walk_at "M depth")) (by k_dflt (walk_at "M units")) (by k_dflt (walk_at "M preT")) ?_;walk_at "M runT") | (with_reducible refine' St.run (g:=gg _) (by k_dflt (assumption)) (by k_dflt (rfl)) (duo_op (nd:=0) (nu:=0) (.inl rfl) _ _ _ _ _ _) (by k_dflt (walk_at "M hh")) (by k_dflt (walk_at "M depth")) (by k_dflt (walk_at "M units")) (by k_dflt (walk_at "M preT")) ?_;walk_at "M runT"))
 k_with "Z42 compareOp NotEq ref ref" => k_dflt (refine' cmp_ofNotEq ?_;first | (with_reducible refine' St.run (g:=gg _) (by k_dflt (assumption)) (by k_dflt (rfl)) (tri_op (nd:=0) (nu:=0) (.inr (.inl rfl)) _ _ _ _) (by k_dflt (walk_at "M hh")) (by k_dflt (walk_at "M depth")) (by k_dflt (walk_at "M units")) (by k_dflt (walk_at "M preT")) ?_;walk_at "M runT") | (with_reducible refine' St.run (g:=gg _) (by k_dflt (assumption)) (by k_dflt (rfl)) (duo_op (nd:=0) (nu:=0) (.inr (.inl rfl)) _ _ _ _ _ _) (by k_dflt (walk_at "M hh")) (by k_dflt (walk_at "M depth")) (by k_dflt (walk_at "M units")) (by k_dflt (walk_at "M preT")) ?_;walk_at "M runT"))
 k_with "Z42 compareOp Lt ref ref" => k_dflt (refine' cmp_ofLt ?_;with_reducible refine' St.run (g:=gg _) (by k_dflt (assumption)) (by k_dflt (rfl)) (duo_op (nd:=0) (nu:=0) (.inr (.inr (.inl rfl))) _ _ _ _ _ _) (by k_dflt (walk_at "M hh")) (by k_dflt (walk_at "M depth")) (by k_dflt (walk_at "M units")) (by k_dflt (walk_at "M preT")) ?_;walk_at "M runT")
 k_with "Z42 compareOp LtE ref ref" => k_dflt (refine' cmp_ofLtE ?_;with_reducible refine' St.run (g:=gg _) (by k_dflt (assumption)) (by k_dflt (rfl)) (duo_op (nd:=0) (nu:=0) (.inr (.inr (.inr (.inl rfl)))) _ _ _ _ _ _) (by k_dflt (walk_at "M hh")) (by k_dflt (walk_at "M depth")) (by k_dflt (walk_at "M units")) (by k_dflt (walk_at "M preT")) ?_;walk_at "M runT")
 k_with "Z42 compareOp Gt ref ref" => k_dflt (refine' cmp_ofGt ?_;with_reducible refine' St.run (g:=gg _) (by k_dflt (assumption)) (by k_dflt (rfl)) (duo_op (nd:=0) (nu:=0) (.inr (.inr (.inr (.inr (.inl rfl))))) _ _ _ _ _ _) (by k_dflt (walk_at "M hh")) (by k_dflt (walk_at "M depth")) (by k_dflt (walk_at "M units")) (by k_dflt (walk_at "M preT")) ?_;walk_at "M runT")
 k_with "Z42 compareOp GtE ref ref" => k_dflt (refine' cmp_ofGtE ?_;with_reducible refine' St.run (g:=gg _) (by k_dflt (assumption)) (by k_dflt (rfl)) (duo_op (nd:=0) (nu:=0) (.inr (.inr (.inr (.inr (.inr rfl))))) _ _ _ _ _ _) (by k_dflt (walk_at "M hh")) (by k_dflt (walk_at "M depth")) (by k_dflt (walk_at "M units")) (by k_dflt (walk_at "M preT")) ?_;walk_at "M runT")
 trivial
theorem allT_get {h:Heap} {vs:List Value} {wd:Int} (a:AllT h vs [(2,0,0),(1,0,0),(1,1,0),(1,0,1),(0,9,0),(0,10,0)]) (h0:0 ≤ wd) (h6:wd < 6):∃ v,vs.toArray[wd.toNat]? = some v ∧ IsTri h v (keyL wd):=by
 have hl:=a.length
 have hlt:wd.toNat < vs.length:=by rw [hl];simp;lia
 refine ⟨vs[wd.toNat],by simp [hlt],?_⟩
 obtain ⟨x,hx,ht⟩:=a.get (List.getElem?_eq_getElem hlt)
 have:keyL wd = x:=by unfold keyL;rw [hx];rfl
 rwa [this]
theorem six_get (q:Ordering) {o:Int} (h0:0 ≤ o) (h6:o < 6):(#[.bool (opOrd .Eq q),.bool (opOrd .NotEq q),.bool (opOrd .Lt q),.bool (opOrd .LtE q),.bool (opOrd .Gt q),.bool (opOrd .GtE q)]:Array Value)[o.toNat]? = some (.bool (opOrd (opL o) q)):=by
 have hw:o = 0 ∨ o = 1 ∨ o = 2 ∨ o = 3 ∨ o = 4 ∨ o = 5:=by lia
 rcases hw with rfl | rfl | rfl | rfl | rfl | rfl <;> rfl
theorem holds_b2 {o way:Int} {n vn:Tri} {wd vw:Int} (h0:0 < vw) (hw:way = 2) (h:opOrd .NotEq (ordTri vn n) = true):Value.bool false = .bool (holdsL o way n wd vn vw):=by subst hw;exact holds_b h0 h
theorem holds_g2 {o way:Int} {n vn:Tri} {wd vw:Int} (h0:0 < vw) (hw:way = 0) (h1:opOrd .Eq (ordTri vn n) = true) (h2:wd = 0) (h3:o = 1 ∨ o = 2):Value.bool false = .bool (holdsL o way n wd vn vw):=by subst hw;exact holds_g h0 h1 h2 h3
theorem holds_z {o way:Int} {n vn:Tri} {wd vw:Int} (p1:¬ (0 < vw ∧ way = 2 ∧ vn ≠ n)) (p2:¬ (0 < vw ∧ way = 0 ∧ vn = n ∧ wd = 0 ∧ (o = 1 ∨ o = 2))):Value.bool (opOrd (opL o) (oThen (ordTri vn n) (oThen (ordTri (keyL vw) (keyL wd)) .eq))) = .bool (holdsL o way n wd vn vw):=by unfold holdsL;rw [if_neg p1,if_neg p2]
theorem law_holds (o way:Int) (n:Tri) (wd:Int) (vn:Tri) (vw:Int) (lv vv:Value) (ho:0 ≤ o) (ho6:o < 6) (hw:0 ≤ way) (hw3:way < 3) (hwd:0 ≤ wd) (hwd6:wd < 6) (hvw:0 ≤ vw) (hvw6:vw < 6):Runs (gg γ) (call (.ref 896) [lv,vv]) 6 60 (fun h => IsLeaf h lv (.rng o way n wd) ∧ IsVn h vv vn vw) (fun zz r => r = .bool (holdsL o way n wd vn vw)):=by
 intro A s fz Q E hh hd' hu sub inv bare pre k
 obtain ⟨⟨lt,t1,t2,t3,nv,rfl,hL,hN⟩,⟨vt,xv,t4,rfl,hV,hX⟩⟩:=pre
 refine' wpAny_call (enter [(Str.ofString "version", .ref vt),(Str.ofString "told", .ref lt)] ?h1 sub inv bare ?h2 ?h3 ?h4 ?h5 ?h6 ?h7 ?h8 ?h9 ?h10)
 walk_at "M enter"
 case h10 =>
   intro s₁ L S
   have R:=law_keys (γ:=γ)
   have hN0:=hN
   have hX0:=hX
   obtain ⟨ta,a1,a2,a3,rfl,_⟩:=hN0
   obtain ⟨tb,b1,b2,b3,rfl,_⟩:=hX0
   repeat' walk1
   rename_i r2 s2 f2 G2 S2 P2
   obtain ⟨a,vs,rfl,hl,hA⟩:=P2
   obtain ⟨kv,hkv,hkt⟩:=allT_get hA hvw hvw6
   repeat' walk1
   rename_i r3 s3 f3 G3 S3 P3
   obtain ⟨a',vs',rfl,hl',hA'⟩:=P3
   obtain ⟨kv',hkv',hkt'⟩:=allT_get hA' hwd hwd6
   have hx:=six_get (oThen (ordTri vn n) (oThen (ordTri (keyL vw) (keyL wd)) .eq)) ho ho6
   obtain ⟨c1,c2,c3,c4,rfl,_⟩:=id hkt
   obtain ⟨d1,d2,d3,d4,rfl,_⟩:=id hkt'
   iterate 9 walk1
   refine y_cut0 (¬ (0 < vw ∧ way = 2 ∧ vn ≠ n)) (by with_reducible assumption) (fun N hN hR => ?_) fun p1 s5 f5 G5 S5 => ?_
   · repeat' walk1
     all_goals first
       | exact hR _ _ (k _ _ _ (St.aft (by with_reducible assumption)) (holds_b2 (by with_reducible assumption) (by with_reducible assumption) (by with_reducible assumption)))
       | exact hN _ _ (fun q => by first | exact absurd q.1 (by with_reducible assumption) | exact absurd q.2.1 (by with_reducible assumption) | exact q.2.2 (opNe_f (by with_reducible assumption))) (by with_reducible assumption) (by walk_at "M chain")
   refine y_cut0 (¬ (0 < vw ∧ way = 0 ∧ vn = n ∧ wd = 0 ∧ (o = 1 ∨ o = 2))) (by with_reducible assumption) (fun N hN hR => ?_) fun p2 s6 f6 G6 S6 => ?_
   · repeat' walk1
     all_goals first
       | exact hR _ _ (k _ _ _ (St.aft (by with_reducible assumption)) (holds_g2 (by with_reducible assumption) (by with_reducible assumption) (by with_reducible assumption) (by with_reducible assumption) (by with_reducible assumption)))
       | exact hN _ _ (fun q => by first | exact absurd q.1 (by with_reducible assumption) | exact absurd q.2.1 (by with_reducible assumption) | exact opEq_f (by with_reducible assumption) q.2.2.1 | exact absurd q.2.2.2.1 (by with_reducible assumption) | exact absurd q.2.2.2.2 (by with_reducible assumption)) (by with_reducible assumption) (by walk_at "M chain")
   repeat' walk1
   exact k _ _ _ (St.aft (by with_reducible assumption)) (holds_z p1 p2)
end
theorem words_W43:True:=by
 k_with "Z callWith ref" => k_dflt (first | (refine' callWith_K (K:=mk.heap_1 _) ?_ ?_ ?_;rotate_right 3;rotate_left;(·(with_reducible show keepIn (mk.heap_1 _) _ = _);k_is);rotate_right;(·exact kinG (by assumption));k_whole) | (refine' callWith_K0 (K:=mk.heap_1 _) ?_ ?_ ?_;rotate_right 3;rotate_left;(·(with_reducible show keepIn (mk.heap_1 _) _ = _);k_is);rotate_right;(·exact kinG (by assumption));k_whole;(try dsimp only [List.nil_append,List.cons_append])))
 k_with "Z iteC" => first | lia | (simp only [decide_eq_true_eq,beq_iff_eq,List.size_toArray,List.length_cons,List.length_nil] <;> first | rfl | lia)
 k_with "Z ite" => k_dflt (first | (refine ite_pos (by walk_at "iteC") ?_) | (refine ite_neg (by walk_at "iteC") ?_))
 trivial
section
set_option tactic.hygienic true
variable {γ:Cfg}
local macro_rules | `(tactic| walk_at $s:str) => do let k:=Lean.Syntax.mkStrLit ("Z43 " ++ s.getString);`(tactic| k_extra $k)
local macro_rules | `(tactic| walk_at "0") => `(tactic| skip)
local macro_rules | `(tactic| walk_at "0") => `(tactic| skip)
theorem words_W43_33:True:=by
 w_top off
 k_with "Z43 M fact" => k_extra "q31"
 k_with "q32" => k_dflt (refine' len_tuple ?_ ?_ ?_;rotate_right 3;(·refine' isTup_sub ?_ ?_;rotate_right 2;rotate_left;(·exact St.le (by assumption));rotate_right;(·walk_at "M tup"));(·(simp only [List.size_toArray,List.length_cons,List.length_nil];lia));k_whole)
 k_with "Z43 call builtin:len" => k_extra "q32"
 trivial
theorem mk_any0:Runs (gg γ) (call (.ref 592) []) 20 200 (fun zz => True) (fun h r => IsC h r (.any [])) :=
 (RunsK.runs (mk_any 0 [] [] (by simp [depL]) (Nat.zero_le _))).mono (by lia) (by lia) (fun zz zz => .nil) fun zz zz z => z
theorem mk_all0:Runs (gg γ) (call (.ref 663) []) 20 200 (fun zz => True) (fun h r => IsC h r (.all [])) :=
 (RunsK.runs (mk_all 0 [] [] (by simp [depL]) (Nat.zero_le _))).mono (by lia) (by lia) (fun zz zz => .nil) fun zz zz z => z
theorem words_W43_34:True:=by
 k_with "Z43 call ref" => ((with_reducible show wpAny _ _ (call (Value.ref 592) [] _) _ _ _);k_dflt (with_reducible refine' St.run (g:=gg _) (by k_dflt (assumption)) (by k_dflt (rfl)) mk_any0 (by k_dflt (walk_at "M hh")) (by k_dflt (walk_at "M depth")) (by k_dflt (walk_at "M units")) (by k_dflt (walk_at "M pre")) ?_;walk_at "M run"))
 k_with "Z43 call ref" => ((with_reducible show wpAny _ _ (call (Value.ref 663) [] _) _ _ _);k_dflt (with_reducible refine' St.run (g:=gg _) (by k_dflt (assumption)) (by k_dflt (rfl)) mk_all0 (by k_dflt (walk_at "M hh")) (by k_dflt (walk_at "M depth")) (by k_dflt (walk_at "M units")) (by k_dflt (walk_at "M pre")) ?_;walk_at "M run"))
 trivial
theorem law_clause_one (j:Int) (lv:Value) (h0:0 ≤ j) (h4:j < 4):Runs (gg γ) (call (.ref 910) [lv]) 30 300 (fun h => IsLeaf h lv (.one j)) (fun h r => IsC h r (clL (.one j))):=by
 intro A s fz Q E hh hd' hu sub inv bare pre k
 obtain ⟨lt,t1,rfl,hL⟩:=pre
 refine' wpAny_call (enter [(Str.ofString "told", .ref lt)] ?h1 sub inv bare ?h2 ?h3 ?h4 ?h5 ?h6 ?h7 ?h8 ?h9 ?h10)
 walk_at "M enter"
 case h10 =>
   intro s₁ L S
   repeat' walk1
   rename_i ra sa fa Ga Sa pa rb sb fb Gb Sb pb rc sc fc Gc Sc pc rd sd fd Gd Sd pd se D Se
   have hj:j = 0 ∨ j = 1 ∨ j = 2 ∨ j = 3:=by lia
   rcases hj with rfl | rfl | rfl | rfl
   all_goals (
     repeat' walk1
     refine' k _ _ _ (St.aft Se) ?_
     first
     | exact (show IsC _ ra .always from IsC.grows (by walk_at "M chain") pa)
     | exact (show IsC _ rb .never from IsC.grows (by walk_at "M chain") pb)
     | exact (show IsC _ rc (.any []) from IsC.grows (by walk_at "M chain") pc)
     | exact (show IsC _ rd (.all []) from pd))
theorem allS_op {vs:List Value} {o:Int} (h:AllS vs [Str.ofString "==", Str.ofString "!=", Str.ofString "<", Str.ofString "<=", Str.ofString ">", Str.ofString ">="]) (h0:0 ≤ o) (h6:o < 6):∃ u,vs.toArray[o.toNat]? = some (.str (opS o) u):=by
 have hw:o = 0 ∨ o = 1 ∨ o = 2 ∨ o = 3 ∨ o = 4 ∨ o = 5:=by lia
 have key:∀ (i:Nat) (x:Str),([Str.ofString "==", Str.ofString "!=", Str.ofString "<", Str.ofString "<=", Str.ofString ">", Str.ofString ">="]:List Str)[i]? = some x → ∃ u,vs.toArray[i]? = some (.str x u):=fun i x e => by rw [List.getElem?_toArray];exact h.at e
 rcases hw with rfl | rfl | rfl | rfl | rfl | rfl <;> exact key _ _ rfl
theorem allS_way {vs:List Value} {o:Int} (h:AllS vs [Str.ofString "natural", Str.ofString "always", Str.ofString "same-patch"]) (h0:0 ≤ o) (hh3:o < 3):∃ u,vs.toArray[o.toNat]? = some (.str (wayS o) u):=by
 have hw:o = 0 ∨ o = 1 ∨ o = 2:=by lia
 have key:∀ (i:Nat) (x:Str),([Str.ofString "natural", Str.ofString "always", Str.ofString "same-patch"]:List Str)[i]? = some x → ∃ u,vs.toArray[i]? = some (.str x u):=fun i x e => by rw [List.getElem?_toArray];exact h.at e
 rcases hw with rfl | rfl | rfl <;> exact key _ _ rfl
theorem TextOk.vok {x:Str} {V:Ver} (h:TextOk x V):VOk V:=⟨h.words,h.few,h.key⟩
theorem law_clause_rng (o way:Int) (n:Tri) (wd:Int) (lv:Value) (ok:(Leaf.rng o way n wd).ok):Runs (gg γ) (call (.ref 910) [lv]) 70 600 (fun h => IsLeaf h lv (.rng o way n wd)) (fun h r => IsC h r (clL (.rng o way n wd))):=by
 intro A s fz Q E hh hd' hu sub inv bare pre k
 obtain ⟨lt,t1,t2,t3,nv,rfl,hL,hN⟩:=pre
 obtain ⟨⟨ho,ho6⟩,⟨hw,hw3⟩,⟨b1,b2,b3⟩,h0,h6⟩:=ok
 have hT:=text_ok b1 b2 b3 h0 h6
 refine' wpAny_call (enter [(Str.ofString "told", .ref lt)] ?h1 sub inv bare ?h2 ?h3 ?h4 ?h5 ?h6 ?h7 ?h8 ?h9 ?h10)
 walk_at "M enter"
 case h10 =>
   intro s₁ L S
   have R1:=law_operators (γ:=γ)
   have R2:=law_ways (γ:=γ)
   have R3:=law_text (γ:=γ) n wd nv t3 b1 b2 b3 h0 h6
   have R4:=fun t => (RunsK.runs (mk_text (γ:=γ) (textL n wd) t (verL n wd) hT))
   repeat' walk1
   rename_i r2 s2 f2 G2 S2 P2
   obtain ⟨a,vs,rfl,hl,hA⟩:=P2
   obtain ⟨u,hx⟩:=allS_op hA ho ho6
   repeat' walk1
   rename_i s3 f3 G3 S3 t4
   have R5:=R4 t4
   repeat' walk1
   rename_i r4 s4 f4 G4 S4 P4 r5 s5 f5 G5 S5 P5
   obtain ⟨a5,vs5,rfl,hl5,hA5⟩:=P5
   obtain ⟨u5,hx5⟩:=allS_way hA5 hw hw3
   have R6:=RunsK.runs (mk_range (γ:=γ) (opS o) (wayS way) u u5 r4 (verL n wd) hT.vok)
   repeat' walk1
   rename_i P6
   exact k _ _ _ (St.aft (by assumption)) (.rng P6 (opS_ok ho ho6))
end
section
set_option tactic.hygienic false
variable {γ:Cfg}
local macro_rules | `(tactic| walk_at $s:str) => do let k:=Lean.Syntax.mkStrLit ("Z44 " ++ s.getString);`(tactic| k_extra $k)
theorem mk_all2 (n:Nat) (c e:Cl) (h1:c.dep ≤ n) (h2:e.dep ≤ n) (x y:Value):Runs (gg γ) (call (.ref 663) [x,y]) (20 + 6 * n) (200 + 60 * n) (fun h => IsC h x c ∧ IsC h y e) (fun h r => IsC h r (.all (ded (n + 1) [c,e]))) :=
 (RunsK.runs (mk_all n [x,y] [c,e] (by simp [depL];lia) (by simp))).mono (by lia) (by lia) (fun zz z => .cons z.1 (.cons z.2 .nil)) fun zz zz z => z
theorem mk_any2 (n:Nat) (c e:Cl) (h1:c.dep ≤ n) (h2:e.dep ≤ n) (x y:Value):Runs (gg γ) (call (.ref 592) [x,y]) (20 + 6 * n) (200 + 60 * n) (fun h => IsC h x c ∧ IsC h y e) (fun h r => IsC h r (.any (ded (n + 1) [c,e]))) :=
 (RunsK.runs (mk_any n [x,y] [c,e] (by simp [depL];lia) (by simp))).mono (by lia) (by lia) (fun zz z => .cons z.1 (.cons z.2 .nil)) fun zz zz z => z
theorem words_W44_35:True:=by
 w_top off
 k_with "Z44 binaryOp" => k_extra "q22"
 trivial
theorem law_joined (n:Nat) (hn:1 ≤ n) (c e:Cl) (h1:c.dep ≤ n) (h2:e.dep ≤ n) (hw:c.wt + e.wt ≤ 900) (d:Int) (td:Tok) (h0:0 ≤ d) (h4:d < 4) (x y:Addr):Runs (gg γ) (call (.ref 917) [.ref x,.ref y,.int d td]) (42 + 6 * n) (420 + 60 * n) (fun h => IsC h (.ref x) c ∧ IsC h (.ref y) e) (fun h r => IsC h r (joinL (n + 1) d c e)):=by
 intro A s fz Q E hh hd' hu sub inv bare pre k
 have pc:=pre.1
 have pd:=pre.2
 refine' wpAny_call (enter [(Str.ofString "deed", .int d td),(Str.ofString "two", .ref y),(Str.ofString "one", .ref x)] ?h1 sub inv bare ?h2 ?h3 ?h4 ?h5 ?h6 ?h7 ?h8 ?h9 ?h10)
 walk_at "M enter"
 case h10 =>
   intro s₁ L S
   have RA:=c_and (γ:=γ) n hn c e h1 h2 hw x y
   have RO:=c_or (γ:=γ) n hn c e h1 h2 hw x y
   have RL:=mk_all2 (γ:=γ) n c e h1 h2 (.ref x) (.ref y)
   have RY:=mk_any2 (γ:=γ) n c e h1 h2 (.ref x) (.ref y)
   have hj:d = 0 ∨ d = 1 ∨ d = 2 ∨ d = 3:=by lia
   rcases hj with rfl | rfl | rfl | rfl
   all_goals (
     repeat' walk1
     exact k _ _ _ (St.aft (by assumption)) (by assumption))
end
section
set_option tactic.hygienic false
variable {γ:Cfg}
theorem IsC.matchI {h:Heap} {x:Addr} {c:Cl} (p:IsC h (.ref x) c):∃ kv,Inst h x c.cls kv ∧ kv.lookup (Str.ofString "match") = none:=by
 w_top off
 cases p with
 | never I => exact ⟨_,I,rfl⟩
 | always I => exact ⟨_,I,rfl⟩
 | rng r _ => obtain ⟨_,_,_,_,_,e,I,_⟩:=r;cases e;exact ⟨_,I,rfl⟩
 | any I => exact ⟨_,I,rfl⟩
 | all I => exact ⟨_,I,rfl⟩
theorem gm_match {s₀ s:Shared} {fz₀ fz:Heap} {L:Addr} {l:List (Str × Value)} {mu:List (Addr × Obj)} {A:Around} {E:Value → Shared → Prop} {M:Model} {x:Addr} {c:Cl} {pl:Sem Bool} {Q:Value × List Value → Shared → Prop}
   (hM:M = model (gg γ).prog (gg γ).w) (S:St (gg γ) s₀ fz₀ s.heap s.gens s.os fz L l mu) (pc:IsC fz (.ref x) c) (h:Q (.ref c.mfn,[.ref x]) s):wpAny M A (getMethod (.ref x) (Str.ofString "match") pl) Q E s:=by
 obtain ⟨kv,I,hl⟩:=pc.matchI
 cases c <;> exact gH_meth hM S (I.sub S.le) (by (show plainGet (mk.heap_1 _) _ _ = _);simp only [Cl.cls];first | k_is | kernel_rfl) (by (show findIn (mk.heap_1 _) _ _ = _);simp only [Cl.cls,Cl.mfn];first | k_is | kernel_rfl) (by (show isFn (mk.heap_1 _) _ = _);simp only [Cl.mfn];first | k_is | kernel_rfl) hl h
theorem keepM (q:PySem.Params) (c:Cl):keepIn (mk.heap_1 q) (.ref c.mfn) = true:=by
 cases c <;> ((show keepIn (mk.heap_1 _) _ = _);simp only [Cl.mfn];first | k_is | kernel_rfl)
theorem uEq {c d:Cl} {b:Bool} {v u:Value}:Runs (gg γ) (richCompare .Eq v u) 46 441 (fun h => ((IsC h v c ∧ c.dep ≤ 6) ∧ (IsC h u d ∧ d.dep ≤ 6)) ∧ Cl.eqn 7 c d = b) (fun zz r => r = .bool b):=by
 intro A s fz Q E hh hd hu sub inv bare pre k
 obtain ⟨⟨⟨p1,q1⟩,p2,q2⟩,rfl⟩:=pre
 exact c_rc 6 c d q1 q2 v u A s fz Q E hh hd hu sub inv bare ⟨p1,p2⟩ k
theorem uNe {c d:Cl} {b:Bool} {x y:Addr}:Runs (gg γ) (richCompare .NotEq (.ref x) (.ref y)) 48 451 (fun h => ((IsC h (.ref x) c ∧ c.dep ≤ 6) ∧ (IsC h (.ref y) d ∧ d.dep ≤ 6)) ∧ Cl.eqn 7 c d = !b) (fun zz r => r = .bool b):=by
 intro A s fz Q E hh hd hu sub inv bare pre k
 obtain ⟨⟨⟨p1,q1⟩,p2,q2⟩,e⟩:=pre
 refine c_ne 6 c d q1 q2 x y A s fz Q E hh hd hu sub inv bare ⟨p1,p2⟩ fun r s' fz' a p => k r s' fz' a ?_
 rw [e,Bool.not_not] at p;exact p
theorem uAll1 {c:Cl} {x:Value}:Runs (gg γ) (call (.ref 663) [x]) 56 560 (fun h => IsC h x c ∧ c.dep ≤ 6) (fun h r => ∃ z,r = .ref z ∧ IsC h (.ref z) (.all (ded 7 [c]))):=by
 intro A s fz Q E hh hd hu sub inv bare pre k
 exact refC (RunsK.runs (mk_all 6 [x] [c] (dpL1 pre.2 dpL0) (by simp))) A s fz Q E hh hd hu sub inv bare (.cons pre.1 .nil) k
theorem uAny1 {c:Cl} {x:Value}:Runs (gg γ) (call (.ref 592) [x]) 56 560 (fun h => IsC h x c ∧ c.dep ≤ 6) (fun h r => ∃ z,r = .ref z ∧ IsC h (.ref z) (.any (ded 7 [c]))):=by
 intro A s fz Q E hh hd hu sub inv bare pre k
 exact refC (RunsK.runs (mk_any 6 [x] [c] (dpL1 pre.2 dpL0) (by simp))) A s fz Q E hh hd hu sub inv bare (.cons pre.1 .nil) k
theorem uAll2 {c d:Cl} {x y:Value}:Runs (gg γ) (call (.ref 663) [x,y]) 56 560 (fun h => (IsC h x c ∧ c.dep ≤ 6) ∧ (IsC h y d ∧ d.dep ≤ 6)) (fun h r => ∃ z,r = .ref z ∧ IsC h (.ref z) (.all (ded 7 [c,d]))):=by
 intro A s fz Q E hh hd hu sub inv bare pre k
 exact refC (RunsK.runs (mk_all 6 [x,y] [c,d] (dpL1 pre.1.2 (dpL1 pre.2.2 dpL0)) (by simp))) A s fz Q E hh hd hu sub inv bare (.cons pre.1.1 (.cons pre.2.1 .nil)) k
theorem uAny2 {c d:Cl} {x y:Value}:Runs (gg γ) (call (.ref 592) [x,y]) 56 560 (fun h => (IsC h x c ∧ c.dep ≤ 6) ∧ (IsC h y d ∧ d.dep ≤ 6)) (fun h r => ∃ z,r = .ref z ∧ IsC h (.ref z) (.any (ded 7 [c,d]))):=by
 intro A s fz Q E hh hd hu sub inv bare pre k
 exact refC (RunsK.runs (mk_any 6 [x,y] [c,d] (dpL1 pre.1.2 (dpL1 pre.2.2 dpL0)) (by simp))) A s fz Q E hh hd hu sub inv bare (.cons pre.1.1 (.cons pre.2.1 .nil)) k
theorem uAll3 {c d e:Cl} {x y z:Value}:Runs (gg γ) (call (.ref 663) [x,y,z]) 56 560 (fun h => (IsC h x c ∧ c.dep ≤ 6) ∧ (IsC h y d ∧ d.dep ≤ 6) ∧ (IsC h z e ∧ e.dep ≤ 6)) (fun h r => ∃ z,r = .ref z ∧ IsC h (.ref z) (.all (ded 7 [c,d,e]))):=by
 intro A s fz Q E hh hd hu sub inv bare pre k
 exact refC (RunsK.runs (mk_all 6 [x,y,z] [c,d,e] (dpL1 pre.1.2 (dpL1 pre.2.1.2 (dpL1 pre.2.2.2 dpL0))) (by simp))) A s fz Q E hh hd hu sub inv bare (.cons pre.1.1 (.cons pre.2.1.1 (.cons pre.2.2.1 .nil))) k
theorem uAny3 {c d e:Cl} {x y z:Value}:Runs (gg γ) (call (.ref 592) [x,y,z]) 56 560 (fun h => (IsC h x c ∧ c.dep ≤ 6) ∧ (IsC h y d ∧ d.dep ≤ 6) ∧ (IsC h z e ∧ e.dep ≤ 6)) (fun h r => ∃ z,r = .ref z ∧ IsC h (.ref z) (.any (ded 7 [c,d,e]))):=by
 intro A s fz Q E hh hd hu sub inv bare pre k
 exact refC (RunsK.runs (mk_any 6 [x,y,z] [c,d,e] (dpL1 pre.1.2 (dpL1 pre.2.1.2 (dpL1 pre.2.2.2 dpL0))) (by simp))) A s fz Q E hh hd hu sub inv bare (.cons pre.1.1 (.cons pre.2.1.1 (.cons pre.2.2.1 .nil))) k
theorem uSimp {c:Cl} {v:Value}:Runs (gg γ) (call (.ref c.sfn) [v]) 106 1060 (fun h => (IsC h v c ∧ c.dep ≤ 6) ∧ c.wt ≤ 900) (fun h r => ∃ z,r = .ref z ∧ IsC h (.ref z) (c.simp 7)):=by
 intro A s fz Q E hh hd hu sub inv bare pre k
 exact refC (c_simp 6 6 c pre.1.2 pre.1.2 pre.2 v) A s fz Q E hh hd hu sub inv bare pre.1.1 k
theorem uNever:Runs (gg γ) (call (.ref 743) []) 106 1060 (fun zz => True) (fun h r => ∃ z,r = .ref z ∧ IsC h (.ref z) .never):=refC ((RunsK.runs mk_never).mono (by decide) (by decide) (fun zz z => z) fun zz zz z => z)
theorem uAlways:Runs (gg γ) (call (.ref 797) []) 106 1060 (fun zz => True) (fun h r => ∃ z,r = .ref z ∧ IsC h (.ref z) .always):=refC ((RunsK.runs mk_always).mono (by decide) (by decide) (fun zz z => z) fun zz zz z => z)
theorem uClause {lf:Leaf} {v:Value}:Runs (gg γ) (call (.ref 910) [v]) 70 600 (fun h => IsLeaf h v lf ∧ lf.ok) (fun h r => ∃ z,r = .ref z ∧ IsC h (.ref z) (clL lf)):=by
 intro A s fz Q E hh hd hu sub inv bare pre k
 cases lf with
 | one j => exact refC ((law_clause_one j v pre.2.1 pre.2.2).mono (by decide) (by decide) (fun zz z => z) fun zz zz z => z) A s fz Q E hh hd hu sub inv bare pre.1 k
 | rng o w n wd => exact refC (law_clause_rng o w n wd v pre.2) A s fz Q E hh hd hu sub inv bare pre.1 k
theorem uMatch {c:Cl} {x:Vn} {v u:Value}:Runs (gg γ) (call (.ref c.mfn) [v,u]) 90 900 (fun h => (IsC h v c ∧ c.dep ≤ 6) ∧ RowR h u x ∧ VnOk x) (fun zz r => r = .bool (c.holds (verL x.1 x.2))):=by
 intro A s fz Q E hh hd hu sub inv bare pre k
 obtain ⟨⟨p1,p2⟩,p3,⟨b1,b2,b3⟩,b4,b5⟩:=pre
 exact c_match (verL x.1 x.2) (text_ok b1 b2 b3 b4 b5).vok' 6 c p2 v u A s fz Q E hh hd hu sub inv bare ⟨p1,p3⟩ k
theorem uJoin {c e:Cl} {d:Int} {td:Tok} {x y:Addr}:Runs (gg γ) (call (.ref 917) [.ref x,.ref y,.int d td]) 78 780 (fun h => ((IsC h (.ref x) c ∧ c.dep ≤ 6) ∧ (IsC h (.ref y) e ∧ e.dep ≤ 6)) ∧ c.wt + e.wt ≤ 900 ∧ 0 ≤ d ∧ d < 4) (fun h r => ∃ z,r = .ref z ∧ IsC h (.ref z) (joinL 7 d c e)):=by
 intro A s fz Q E hh hd hu sub inv bare pre k
 obtain ⟨⟨⟨p1,p2⟩,p3,p4⟩,p5,p6,p7⟩:=pre
 exact refC (law_joined 6 (by decide) c e p2 p4 p5 d td p6 p7 x y) A s fz Q E hh hd hu sub inv bare ⟨p1,p3⟩ k
theorem uText {x:Vn} {nv:Value} {t:Tok}:Runs (gg γ) (call (.ref 903) [nv,.int x.2 t]) 5 50 (fun h => IsTri h nv x.1 ∧ VnOk x) (fun zz r => ∃ t,r = .str (textL x.1 x.2) t):=by
 intro A s fz Q E hh hd hu sub inv bare pre k
 obtain ⟨p3,⟨b1,b2,b3⟩,b4,b5⟩:=pre
 exact law_text x.1 x.2 nv t b1 b2 b3 b4 b5 A s fz Q E hh hd hu sub inv bare p3 k
theorem uVersion {x:Vn} {t:Tok}:Runs (gg γ) (call (.ref 448) [.str (textL x.1 x.2) t]) 60 500 (fun zz => VnOk x) (fun h r => RowR h r x):=by
 intro A s fz Q E hh hd hu sub inv bare pre k
 obtain ⟨⟨b1,b2,b3⟩,b4,b5⟩:=pre
 exact RunsK.runs (mk_text (textL x.1 x.2) t (verL x.1 x.2) (text_ok b1 b2 b3 b4 b5)) A s fz Q E hh hd hu sub inv bare trivial k
theorem uHolds {o w:Int} {n:Tri} {wd:Int} {x:Vn} {lv vv:Value}:Runs (gg γ) (call (.ref 896) [lv,vv]) 6 60 (fun h => (IsLeaf h lv (.rng o w n wd) ∧ (Leaf.rng o w n wd).ok) ∧ VnR h vv x ∧ VnOk x) (fun zz r => r = .bool (heldL (.rng o w n wd) x)):=by
 intro A s fz Q E hh hd hu sub inv bare pre k
 obtain ⟨⟨p1,⟨a1,a2⟩,⟨a3,a4⟩,_,a5,a6⟩,p3,_,b4,b5⟩:=pre
 exact law_holds o w n wd x.1 x.2 lv vv a1 a2 a3 a4 a5 a6 b4 b5 A s fz Q E hh hd hu sub inv bare ⟨p1,p3⟩ k
theorem uRange {n:Int} {t:Tok}:Runs (gg γ) (call (.ref 889) [.int n t]) 20 200 (fun zz => True) (fun h r => IsLeaf h r (rangeOf n)) :=
 (law_range n t).mono (by decide) (by decide) (fun zz z => z) fun zz zz z => z
section
variable {s₀ s:Shared} {fz₀ fz:Heap} {L:Addr} {l:List (Str × Value)} {mu:List (Addr × Obj)} {A:Around} {E:Value → Shared → Prop} {M:Model} {Q:Value → Shared → Prop}
theorem rAll1 {c:Cl} {x:Value} (S:St (gg γ) s₀ fz₀ s.heap s.gens s.os fz L l mu) (hM:M = model (gg γ).prog (gg γ).w) (hh:A.handled = none) (hd:A.depth + 56 < recursionLimit) (hu:A.units + 560 < cLine) (pre:(IsC fz x c ∧ c.dep ≤ 6)) (k:∀ r s' fz',Grows (gg γ).tabs fz fz' → St (gg γ) s₀ fz₀ s'.heap s'.gens s'.os fz' L l mu → IsC fz' (.ref r) (.all (ded 7 [c])) → Q (.ref r) s'):wpAny M A (call (.ref 663) [x]) Q E s :=
 St.run S hM (uAll1) hh hd hu pre fun r s' fz' G S' p => by obtain ⟨z,rfl,p⟩:=p;exact k z s' fz' G S' p
theorem rAll2 {c d:Cl} {x y:Value} (S:St (gg γ) s₀ fz₀ s.heap s.gens s.os fz L l mu) (hM:M = model (gg γ).prog (gg γ).w) (hh:A.handled = none) (hd:A.depth + 56 < recursionLimit) (hu:A.units + 560 < cLine) (pre:(IsC fz x c ∧ c.dep ≤ 6) ∧ (IsC fz y d ∧ d.dep ≤ 6)) (k:∀ r s' fz',Grows (gg γ).tabs fz fz' → St (gg γ) s₀ fz₀ s'.heap s'.gens s'.os fz' L l mu → IsC fz' (.ref r) (.all (ded 7 [c,d])) → Q (.ref r) s'):wpAny M A (call (.ref 663) [x,y]) Q E s :=
 St.run S hM (uAll2) hh hd hu pre fun r s' fz' G S' p => by obtain ⟨z,rfl,p⟩:=p;exact k z s' fz' G S' p
theorem rAll3 {c d e:Cl} {x y z:Value} (S:St (gg γ) s₀ fz₀ s.heap s.gens s.os fz L l mu) (hM:M = model (gg γ).prog (gg γ).w) (hh:A.handled = none) (hd:A.depth + 56 < recursionLimit) (hu:A.units + 560 < cLine) (pre:(IsC fz x c ∧ c.dep ≤ 6) ∧ (IsC fz y d ∧ d.dep ≤ 6) ∧ (IsC fz z e ∧ e.dep ≤ 6)) (k:∀ r s' fz',Grows (gg γ).tabs fz fz' → St (gg γ) s₀ fz₀ s'.heap s'.gens s'.os fz' L l mu → IsC fz' (.ref r) (.all (ded 7 [c,d,e])) → Q (.ref r) s'):wpAny M A (call (.ref 663) [x,y,z]) Q E s :=
 St.run S hM (uAll3) hh hd hu pre fun r s' fz' G S' p => by obtain ⟨z,rfl,p⟩:=p;exact k z s' fz' G S' p
theorem rAny1 {c:Cl} {x:Value} (S:St (gg γ) s₀ fz₀ s.heap s.gens s.os fz L l mu) (hM:M = model (gg γ).prog (gg γ).w) (hh:A.handled = none) (hd:A.depth + 56 < recursionLimit) (hu:A.units + 560 < cLine) (pre:(IsC fz x c ∧ c.dep ≤ 6)) (k:∀ r s' fz',Grows (gg γ).tabs fz fz' → St (gg γ) s₀ fz₀ s'.heap s'.gens s'.os fz' L l mu → IsC fz' (.ref r) (.any (ded 7 [c])) → Q (.ref r) s'):wpAny M A (call (.ref 592) [x]) Q E s :=
 St.run S hM (uAny1) hh hd hu pre fun r s' fz' G S' p => by obtain ⟨z,rfl,p⟩:=p;exact k z s' fz' G S' p
theorem rAny2 {c d:Cl} {x y:Value} (S:St (gg γ) s₀ fz₀ s.heap s.gens s.os fz L l mu) (hM:M = model (gg γ).prog (gg γ).w) (hh:A.handled = none) (hd:A.depth + 56 < recursionLimit) (hu:A.units + 560 < cLine) (pre:(IsC fz x c ∧ c.dep ≤ 6) ∧ (IsC fz y d ∧ d.dep ≤ 6)) (k:∀ r s' fz',Grows (gg γ).tabs fz fz' → St (gg γ) s₀ fz₀ s'.heap s'.gens s'.os fz' L l mu → IsC fz' (.ref r) (.any (ded 7 [c,d])) → Q (.ref r) s'):wpAny M A (call (.ref 592) [x,y]) Q E s :=
 St.run S hM (uAny2) hh hd hu pre fun r s' fz' G S' p => by obtain ⟨z,rfl,p⟩:=p;exact k z s' fz' G S' p
theorem rAny3 {c d e:Cl} {x y z:Value} (S:St (gg γ) s₀ fz₀ s.heap s.gens s.os fz L l mu) (hM:M = model (gg γ).prog (gg γ).w) (hh:A.handled = none) (hd:A.depth + 56 < recursionLimit) (hu:A.units + 560 < cLine) (pre:(IsC fz x c ∧ c.dep ≤ 6) ∧ (IsC fz y d ∧ d.dep ≤ 6) ∧ (IsC fz z e ∧ e.dep ≤ 6)) (k:∀ r s' fz',Grows (gg γ).tabs fz fz' → St (gg γ) s₀ fz₀ s'.heap s'.gens s'.os fz' L l mu → IsC fz' (.ref r) (.any (ded 7 [c,d,e])) → Q (.ref r) s'):wpAny M A (call (.ref 592) [x,y,z]) Q E s :=
 St.run S hM (uAny3) hh hd hu pre fun r s' fz' G S' p => by obtain ⟨z,rfl,p⟩:=p;exact k z s' fz' G S' p
theorem rNever (S:St (gg γ) s₀ fz₀ s.heap s.gens s.os fz L l mu) (hM:M = model (gg γ).prog (gg γ).w) (hh:A.handled = none) (hd:A.depth + 106 < recursionLimit) (hu:A.units + 1060 < cLine) (pre:True) (k:∀ r s' fz',Grows (gg γ).tabs fz fz' → St (gg γ) s₀ fz₀ s'.heap s'.gens s'.os fz' L l mu → IsC fz' (.ref r) (.never) → Q (.ref r) s'):wpAny M A (call (.ref 743) []) Q E s :=
 St.run S hM (uNever) hh hd hu pre fun r s' fz' G S' p => by obtain ⟨z,rfl,p⟩:=p;exact k z s' fz' G S' p
theorem rAlways (S:St (gg γ) s₀ fz₀ s.heap s.gens s.os fz L l mu) (hM:M = model (gg γ).prog (gg γ).w) (hh:A.handled = none) (hd:A.depth + 106 < recursionLimit) (hu:A.units + 1060 < cLine) (pre:True) (k:∀ r s' fz',Grows (gg γ).tabs fz fz' → St (gg γ) s₀ fz₀ s'.heap s'.gens s'.os fz' L l mu → IsC fz' (.ref r) (.always) → Q (.ref r) s'):wpAny M A (call (.ref 797) []) Q E s :=
 St.run S hM (uAlways) hh hd hu pre fun r s' fz' G S' p => by obtain ⟨z,rfl,p⟩:=p;exact k z s' fz' G S' p
theorem rSimp {c:Cl} {v:Value} (S:St (gg γ) s₀ fz₀ s.heap s.gens s.os fz L l mu) (hM:M = model (gg γ).prog (gg γ).w) (hh:A.handled = none) (hd:A.depth + 106 < recursionLimit) (hu:A.units + 1060 < cLine) (pre:(IsC fz v c ∧ c.dep ≤ 6) ∧ c.wt ≤ 900) (k:∀ r s' fz',Grows (gg γ).tabs fz fz' → St (gg γ) s₀ fz₀ s'.heap s'.gens s'.os fz' L l mu → IsC fz' (.ref r) (c.simp 7) → Q (.ref r) s'):wpAny M A (call (.ref c.sfn) [v]) Q E s :=
 St.run S hM (uSimp) hh hd hu pre fun r s' fz' G S' p => by obtain ⟨z,rfl,p⟩:=p;exact k z s' fz' G S' p
theorem rMatch {c:Cl} {x:Vn} {v u:Value} (S:St (gg γ) s₀ fz₀ s.heap s.gens s.os fz L l mu) (hM:M = model (gg γ).prog (gg γ).w) (hh:A.handled = none) (hd:A.depth + 90 < recursionLimit) (hu:A.units + 900 < cLine) (pre:(IsC fz v c ∧ c.dep ≤ 6) ∧ RowR fz u x ∧ VnOk x) (k:∀ s' fz',Grows (gg γ).tabs fz fz' → St (gg γ) s₀ fz₀ s'.heap s'.gens s'.os fz' L l mu → Q (.bool (c.holds (verL x.1 x.2))) s'):wpAny M A (call (.ref c.mfn) [v,u]) Q E s :=
 St.run S hM (uMatch) hh hd hu pre fun r s' fz' G S' p => by subst p;exact k s' fz' G S'
theorem rJoin {c e:Cl} {d:Int} {td:Tok} {x y:Addr} (S:St (gg γ) s₀ fz₀ s.heap s.gens s.os fz L l mu) (hM:M = model (gg γ).prog (gg γ).w) (hh:A.handled = none) (hd:A.depth + 78 < recursionLimit) (hu:A.units + 780 < cLine) (pre:((IsC fz (.ref x) c ∧ c.dep ≤ 6) ∧ (IsC fz (.ref y) e ∧ e.dep ≤ 6)) ∧ c.wt + e.wt ≤ 900 ∧ 0 ≤ d ∧ d < 4) (k:∀ r s' fz',Grows (gg γ).tabs fz fz' → St (gg γ) s₀ fz₀ s'.heap s'.gens s'.os fz' L l mu → IsC fz' (.ref r) (joinL 7 d c e) → Q (.ref r) s'):wpAny M A (call (.ref 917) [.ref x,.ref y,.int d td]) Q E s :=
 St.run S hM (uJoin) hh hd hu pre fun r s' fz' G S' p => by obtain ⟨z,rfl,p⟩:=p;exact k z s' fz' G S' p
theorem rClause {lf:Leaf} {v:Value} (S:St (gg γ) s₀ fz₀ s.heap s.gens s.os fz L l mu) (hM:M = model (gg γ).prog (gg γ).w) (hh:A.handled = none) (hd:A.depth + 70 < recursionLimit) (hu:A.units + 600 < cLine) (pre:IsLeaf fz v lf ∧ lf.ok) (k:∀ r s' fz',Grows (gg γ).tabs fz fz' → St (gg γ) s₀ fz₀ s'.heap s'.gens s'.os fz' L l mu → IsC fz' (.ref r) (clL lf) → Q (.ref r) s'):wpAny M A (call (.ref 910) [v]) Q E s :=
 St.run S hM (uClause) hh hd hu pre fun r s' fz' G S' p => by obtain ⟨z,rfl,p⟩:=p;exact k z s' fz' G S' p
theorem rText {n:Tri} {wd:Int} {nv:Value} {t:Tok} (S:St (gg γ) s₀ fz₀ s.heap s.gens s.os fz L l mu) (hM:M = model (gg γ).prog (gg γ).w) (hh:A.handled = none) (hd:A.depth + 5 < recursionLimit) (hu:A.units + 50 < cLine) (pre:IsTri fz nv n ∧ VnOk (n,wd)) (k:∀ t s' fz',Grows (gg γ).tabs fz fz' → St (gg γ) s₀ fz₀ s'.heap s'.gens s'.os fz' L l mu → Q (.str (textL n wd) t) s'):wpAny M A (call (.ref 903) [nv,.int wd t]) Q E s :=
 St.run S hM (uText (x:=(n,wd))) hh hd hu pre fun r s' fz' G S' p => by obtain ⟨t,rfl⟩:=p;exact k t s' fz' G S'
theorem rVersion {n:Tri} {wd:Int} {t:Tok} (S:St (gg γ) s₀ fz₀ s.heap s.gens s.os fz L l mu) (hM:M = model (gg γ).prog (gg γ).w) (hh:A.handled = none) (hd:A.depth + 60 < recursionLimit) (hu:A.units + 500 < cLine) (pre:VnOk (n,wd)) (k:∀ r s' fz',Grows (gg γ).tabs fz fz' → St (gg γ) s₀ fz₀ s'.heap s'.gens s'.os fz' L l mu → RowR fz' r (n,wd) → Q r s'):wpAny M A (call (.ref 448) [.str (textL n wd) t]) Q E s :=
 St.run S hM (uVersion (x:=(n,wd))) hh hd hu pre fun r s' fz' G S' p => k r s' fz' G S' p
theorem rHolds {o w:Int} {n:Tri} {wd:Int} {x:Vn} {lv vv:Value} (S:St (gg γ) s₀ fz₀ s.heap s.gens s.os fz L l mu) (hM:M = model (gg γ).prog (gg γ).w) (hh:A.handled = none) (hd:A.depth + 6 < recursionLimit) (hu:A.units + 60 < cLine) (pre:(IsLeaf fz lv (.rng o w n wd) ∧ (Leaf.rng o w n wd).ok) ∧ VnR fz vv x ∧ VnOk x) (k:∀ s' fz',Grows (gg γ).tabs fz fz' → St (gg γ) s₀ fz₀ s'.heap s'.gens s'.os fz' L l mu → Q (.bool (heldL (.rng o w n wd) x)) s'):wpAny M A (call (.ref 896) [lv,vv]) Q E s :=
 St.run S hM (uHolds) hh hd hu pre fun r s' fz' G S' p => by subst p;exact k s' fz' G S'
theorem rRange {n:Int} {t:Tok} (S:St (gg γ) s₀ fz₀ s.heap s.gens s.os fz L l mu) (hM:M = model (gg γ).prog (gg γ).w) (hh:A.handled = none) (hd:A.depth + 20 < recursionLimit) (hu:A.units + 200 < cLine) (pre:True) (k:∀ r s' fz',Grows (gg γ).tabs fz fz' → St (gg γ) s₀ fz₀ s'.heap s'.gens s'.os fz' L l mu → IsLeaf fz' r (rangeOf n) → Q r s'):wpAny M A (call (.ref 889) [.int n t]) Q E s :=
 St.run S hM (uRange) hh hd hu pre fun r s' fz' G S' p => k r s' fz' G S' p
theorem rEq {c d:Cl} {b:Bool} {v u:Value} (S:St (gg γ) s₀ fz₀ s.heap s.gens s.os fz L l mu) (hM:M = model (gg γ).prog (gg γ).w) (hh:A.handled = none) (hd:A.depth + 46 < recursionLimit) (hu:A.units + 441 < cLine) (pre:((IsC fz v c ∧ c.dep ≤ 6) ∧ (IsC fz u d ∧ d.dep ≤ 6)) ∧ Cl.eqn 7 c d = b) (k:∀ s' fz',Grows (gg γ).tabs fz fz' → St (gg γ) s₀ fz₀ s'.heap s'.gens s'.os fz' L l mu → Q (.bool (b)) s'):wpAny M A (compareOp .Eq v u) Q E s :=
 cmp_ofEq (St.run S hM (uEq) hh hd hu pre fun r s' fz' G S' p => by subst p;exact k s' fz' G S')
theorem rNe {c d:Cl} {b:Bool} {x y:Addr} (S:St (gg γ) s₀ fz₀ s.heap s.gens s.os fz L l mu) (hM:M = model (gg γ).prog (gg γ).w) (hh:A.handled = none) (hd:A.depth + 48 < recursionLimit) (hu:A.units + 451 < cLine) (pre:((IsC fz (.ref x) c ∧ c.dep ≤ 6) ∧ (IsC fz (.ref y) d ∧ d.dep ≤ 6)) ∧ Cl.eqn 7 c d = b) (k:∀ s' fz',Grows (gg γ).tabs fz fz' → St (gg γ) s₀ fz₀ s'.heap s'.gens s'.os fz' L l mu → Q (.bool ((!b))) s'):wpAny M A (compareOp .NotEq (.ref x) (.ref y)) Q E s :=
 cmp_ofNotEq (St.run S hM (uNe (b:=!b)) hh hd hu ⟨pre.1,by rw [pre.2,Bool.not_not]⟩ fun r s' fz' G S' p => by subst p;exact k s' fz' G S')
end
noncomputable def LawAt (γ:Cfg) (body:List Stmt) (scope:Scope) (qual:Str) (cdv:Value):Prop:=∃ name params dV kV doc pm ct oc an od osl,(mk.heap_1 γ.w.params).lookup 922 = some ⟨oc,od,.func (fnOf name qual params body scope dV kV doc pm an cdv ct),osl⟩
theorem LawAt.use {body:List Stmt} {scope:Scope} {qual:Str} {cdv:Value} {P:Prop} {name' qual':Str} {params':Arguments} {body':List Stmt} {scope':Scope} {dV' kV' doc' pm' cdv' ct' oc':Value} {an' od':Option Addr} {osl':Array (Option Value)}
   (h:LawAt γ body scope qual cdv) (h2:(mk.heap_1 γ.w.params).lookup 922 = some ⟨oc',od',.func (fnOf name' qual' params' body' scope' dV' kV' doc' pm' an' cdv' ct'),osl'⟩)
   (k:body = body' → scope = scope' → qual = qual' → cdv = cdv' → P):P:=by
 obtain ⟨_,_,_,_,_,_,_,_,_,_,_,h1⟩:=h
 exact fn_use h1 h2 k
noncomputable def csL (n:Nat):List (Str × Addr):=[(Str.ofString "whole", n + 6),(Str.ofString "place", n + 5),(Str.ofString "third", n + 4),(Str.ofString "other", n + 3),(Str.ofString "k", n + 2),(Str.ofString "versions", n + 1),(Str.ofString "leaves", n)]
noncomputable def LDone (γ:Cfg) (s₀:Shared) (fz₀:Heap) (L:Addr) (Q:Flow → Shared → Prop):Prop:=∀ (s':Shared) fz' l' mu',St (gg γ) s₀ fz₀ s'.heap s'.gens s'.os fz' L l' mu' → Q (.ret (.bool true)) s'
structure LGo (γ:Cfg) (i:Nat) (A:Around) (body rest:List Stmt) (scope:Scope) (qual:Str) (cdv:Value) (s₀:Shared) (fz₀:Heap) (L:Addr) (Q:Flow → Shared → Prop):Prop where
 at_:LawAt γ body scope qual cdv
 rest:body.drop i = rest
 hh:A.handled = none
 hd:A.depth + 390 < recursionLimit
 hu:A.units + 4900 < cLine
 done:LDone γ s₀ fz₀ L Q
theorem LGo.to {i j:Nat} {A:Around} {body rest rest':List Stmt} {scope:Scope} {qual:Str} {cdv:Value} {s₀:Shared} {fz₀:Heap} {L:Addr} {Q:Flow → Shared → Prop} (h:LGo γ i A body rest scope qual cdv s₀ fz₀ L Q) (e:body.drop j = rest'):LGo γ j A body rest' scope qual cdv s₀ fz₀ L Q :=
 ⟨h.at_,e,h.hh,h.hd,h.hu,h.done⟩
end
theorem words_W46:True:=by
 k_with "Zn M at" => first | with_reducible exact at0 | with_reducible exact at1 | with_reducible exact at2 | with_reducible exact at3 | with_reducible exact at4 | with_reducible exact at5 | with_reducible exact at6 | exact at0 | exact at1 | exact at2 | exact at3 | exact at4 | exact at5 | exact at6
 k_with "Zn M isC" => first | with_reducible assumption | ((with_reducible refine' IsC.up ?_ ?_);rotate_right 2;(·with_reducible assumption);(·walk_at "M chain"))
 k_with "Zn M dep" => first | with_reducible assumption | ((with_reducible refine' dpA ?_);rotate_right 1;(·walk_at "M dep")) | ((with_reducible refine' dpY ?_);rotate_right 1;(·walk_at "M dep")) | ((with_reducible refine dpS ?_);(·walk_at "M dep")) | ((with_reducible refine dpL1 ?_ ?_);(·walk_at "M dep");(·walk_at "M dep")) | with_reducible exact dpL0 | ((with_reducible refine' dpW ?_ ?_);rotate_right 2;(·with_reducible assumption);(·rfl)) | exact Nat.zero_le _
 k_with "Zn M c" => ((with_reducible refine And.intro ?_ ?_);(·walk_at "M isC");(·walk_at "M dep"))
 k_with "Zn M c2" => ((with_reducible refine And.intro ?_ ?_);(·walk_at "M c");(·walk_at "M c"))
 k_with "Zn M c3" => ((with_reducible refine And.intro ?_ ?_);(·walk_at "M c");(·walk_at "M c2"))
 k_with "q33" => ((with_reducible refine And.intro ?_ ?_);(·walk_at "M c2");(·with_reducible assumption))
 k_with "Zn M ce" => k_extra "q33"
 k_with "Zn M cw" => ((with_reducible refine And.intro ?_ ?_);(·walk_at "M c");(·with_reducible assumption))
 k_with "Zn M rowR" => first | with_reducible assumption | ((with_reducible refine' rowUp ?_ ?_);rotate_right 2;(·with_reducible assumption);(·walk_at "M chain"))
 k_with "Zn M vn" => first | with_reducible assumption | ((with_reducible refine' vnUp ?_ ?_);rotate_right 2;(·with_reducible assumption);(·walk_at "M chain"))
 k_with "Zn M lf" => first | with_reducible assumption | ((with_reducible refine' IsLeaf.up ?_ ?_);rotate_right 2;(·with_reducible assumption);(·walk_at "M chain"))
 k_with "Zn M cm" => ((with_reducible refine And.intro ?_ ?_);(·walk_at "M c");(·((with_reducible refine And.intro ?_ ?_);(·walk_at "M rowR");(·with_reducible assumption))))
 k_with "Zn M cj" => k_extra "q33"
 k_with "Zn M cl" => ((with_reducible refine And.intro ?_ ?_);(·walk_at "M lf");(·with_reducible assumption))
 k_with "Zn M ch" => ((with_reducible refine And.intro ?_ ?_);(·walk_at "M cl");(·((with_reducible refine And.intro ?_ ?_);(·walk_at "M vn");(·with_reducible assumption))))
 k_with "Zn M ct" => ((with_reducible refine And.intro ?_ ?_);(·walk_at "M tri");(·with_reducible assumption))
 k_with "Zn M postZ" => (intro _ _ _ _ _ p';(obtain ⟨_,e',p'⟩:=p';subst e');revert p';walk_at "I1")
 k_with "Zn M postT" => (intro _ _ _ _ _ p';(obtain ⟨_,p'⟩:=p';subst p'))
 k_with "Zn M depth" => first | with_reducible exact ltn (by with_reducible assumption) rfl | (dsimp only [depth_deeper,depth_in1,depth_under_make,depth_kw];with_reducible exact ltn (by with_reducible assumption) rfl) | ((simp only [depth_deeper,depth_in1,depth_under_make,depth_kw]);lia)
 k_with "Zn M units" => first | with_reducible exact ltn (by with_reducible assumption) rfl | (dsimp only [units_in1,units_deeper,units_kw];first | with_reducible exact ltn (by with_reducible assumption) rfl | with_reducible exact ltn1 (by with_reducible assumption) rfl | with_reducible exact ltn2 (by with_reducible assumption) rfl) | (have hcL9:=cLine_is;(simp only [units_in1,units_deeper,units_kw]);lia)
 k_with "Zn call ref" => ((with_reducible show wpAny _ _ (call (Value.ref 663) [_] _) _ _ _);k_dflt (refine' rAll1 ?_ ?_ ?_ ?_ ?_ ?_ ?_;rotate_right 7;(·assumption);(·rfl);(·walk_at "M hh");(·walk_at "M depth");(·walk_at "M units");(·walk_at "M c");k_whole;walk_at "I6"))
 k_with "Zn call ref" => ((with_reducible show wpAny _ _ (call (Value.ref 663) [_,_] _) _ _ _);k_dflt (refine' rAll2 ?_ ?_ ?_ ?_ ?_ ?_ ?_;rotate_right 7;(·assumption);(·rfl);(·walk_at "M hh");(·walk_at "M depth");(·walk_at "M units");(·walk_at "M c2");k_whole;walk_at "I6"))
 k_with "Zn call ref" => ((with_reducible show wpAny _ _ (call (Value.ref 663) [_,_,_] _) _ _ _);k_dflt (refine' rAll3 ?_ ?_ ?_ ?_ ?_ ?_ ?_;rotate_right 7;(·assumption);(·rfl);(·walk_at "M hh");(·walk_at "M depth");(·walk_at "M units");(·walk_at "M c3");k_whole;walk_at "I6"))
 k_with "Zn call ref" => ((with_reducible show wpAny _ _ (call (Value.ref 592) [_] _) _ _ _);k_dflt (refine' rAny1 ?_ ?_ ?_ ?_ ?_ ?_ ?_;rotate_right 7;(·assumption);(·rfl);(·walk_at "M hh");(·walk_at "M depth");(·walk_at "M units");(·walk_at "M c");k_whole;walk_at "I6"))
 k_with "Zn call ref" => ((with_reducible show wpAny _ _ (call (Value.ref 592) [_,_] _) _ _ _);k_dflt (refine' rAny2 ?_ ?_ ?_ ?_ ?_ ?_ ?_;rotate_right 7;(·assumption);(·rfl);(·walk_at "M hh");(·walk_at "M depth");(·walk_at "M units");(·walk_at "M c2");k_whole;walk_at "I6"))
 k_with "Zn call ref" => ((with_reducible show wpAny _ _ (call (Value.ref 592) [_,_,_] _) _ _ _);k_dflt (refine' rAny3 ?_ ?_ ?_ ?_ ?_ ?_ ?_;rotate_right 7;(·assumption);(·rfl);(·walk_at "M hh");(·walk_at "M depth");(·walk_at "M units");(·walk_at "M c3");k_whole;walk_at "I6"))
 k_with "Zn call ref" => ((with_reducible show wpAny _ _ (call (Value.ref 743) [] _) _ _ _);k_dflt (refine' rNever ?_ ?_ ?_ ?_ ?_ ?_ ?_;rotate_right 7;(·assumption);(·rfl);(·walk_at "M hh");(·walk_at "M depth");(·walk_at "M units");(·exact trivial);k_whole;walk_at "I6"))
 k_with "Zn call ref" => ((with_reducible show wpAny _ _ (call (Value.ref 797) [] _) _ _ _);k_dflt (refine' rAlways ?_ ?_ ?_ ?_ ?_ ?_ ?_;rotate_right 7;(·assumption);(·rfl);(·walk_at "M hh");(·walk_at "M depth");(·walk_at "M units");(·exact trivial);k_whole;walk_at "I6"))
 k_with "Zn call ref" => ((with_reducible show wpAny _ _ (call (Value.ref (Cl.sfn _)) [_] _) _ _ _);k_dflt (refine' rSimp ?_ ?_ ?_ ?_ ?_ ?_ ?_;rotate_right 7;(·assumption);(·rfl);(·walk_at "M hh");(·walk_at "M depth");(·walk_at "M units");(·walk_at "M cw");k_whole;walk_at "I6"))
 k_with "Zn call ref" => ((with_reducible show wpAny _ _ (call (Value.ref (Cl.mfn _)) [_,_] _) _ _ _);k_dflt (refine' rMatch ?_ ?_ ?_ ?_ ?_ ?_ ?_;rotate_right 7;(·assumption);(·rfl);(·walk_at "M hh");(·walk_at "M depth");(·walk_at "M units");(·walk_at "M cm");k_whole;walk_at "I4"))
 k_with "Zn call ref" => ((with_reducible show wpAny _ _ (call (Value.ref 917) [_,_,_] _) _ _ _);k_dflt (refine' rJoin ?_ ?_ ?_ ?_ ?_ ?_ ?_;rotate_right 7;(·assumption);(·rfl);(·walk_at "M hh");(·walk_at "M depth");(·walk_at "M units");(·walk_at "M cj");k_whole;walk_at "I6"))
 k_with "Zn call ref" => ((with_reducible show wpAny _ _ (call (Value.ref 910) [_] _) _ _ _);k_dflt (refine' rClause ?_ ?_ ?_ ?_ ?_ ?_ ?_;rotate_right 7;(·assumption);(·rfl);(·walk_at "M hh");(·walk_at "M depth");(·walk_at "M units");(·walk_at "M cl");k_whole;walk_at "I6"))
 k_with "Zn call ref" => ((with_reducible show wpAny _ _ (call (Value.ref 903) [_,_] _) _ _ _);k_dflt (refine' rText ?_ ?_ ?_ ?_ ?_ ?_ ?_;rotate_right 7;(·assumption);(·rfl);(·walk_at "M hh");(·walk_at "M depth");(·walk_at "M units");(·walk_at "M ct");k_whole;walk_at "I5"))
 k_with "Zn call ref" => ((with_reducible show wpAny _ _ (call (Value.ref 448) [_] _) _ _ _);k_dflt (refine' rVersion ?_ ?_ ?_ ?_ ?_ ?_ ?_;rotate_right 7;(·assumption);(·rfl);(·walk_at "M hh");(·walk_at "M depth");(·walk_at "M units");(·with_reducible assumption);k_whole;walk_at "I6"))
 k_with "Zn call ref" => ((with_reducible show wpAny _ _ (call (Value.ref 896) [_,_] _) _ _ _);k_dflt (refine' rHolds ?_ ?_ ?_ ?_ ?_ ?_ ?_;rotate_right 7;(·assumption);(·rfl);(·walk_at "M hh");(·walk_at "M depth");(·walk_at "M units");(·walk_at "M ch");k_whole;walk_at "I4"))
 k_with "Zn call ref" => ((with_reducible show wpAny _ _ (call (Value.ref 889) [_] _) _ _ _);k_dflt (refine' rRange ?_ ?_ ?_ ?_ ?_ ?_ ?_;rotate_right 7;(·assumption);(·rfl);(·walk_at "M hh");(·walk_at "M depth");(·walk_at "M units");(·exact trivial);k_whole;walk_at "I6"))
 k_with "Zn compareOp Eq ref ref" => (k_dflt (refine' rEq ?_ ?_ ?_ ?_ ?_ ?_ ?_;rotate_right 7;(·assumption);(·rfl);(·walk_at "M hh");(·walk_at "M depth");(·walk_at "M units");(·walk_at "M ce");k_whole;walk_at "I4"))
 k_with "Zn compareOp NotEq ref ref" => (k_dflt (refine' rNe ?_ ?_ ?_ ?_ ?_ ?_ ?_;rotate_right 7;(·assumption);(·rfl);(·walk_at "M hh");(·walk_at "M depth");(·walk_at "M units");(·walk_at "M ce");k_whole;walk_at "I4"))
 k_with "Zn getMethod ref" => ((with_reducible show wpAny _ _ (getMethod _ (Str.ofString "simplify") _) _ _ _);k_dflt (refine' gm_simplify ?_ ?_ ?_ ?_;rotate_right 4;rotate_left;(·assumption);rotate_right;(·rfl);(·walk_at "M isC");k_whole))
 k_with "Zn getMethod ref" => ((with_reducible show wpAny _ _ (getMethod _ (Str.ofString "match") _) _ _ _);k_dflt (refine' gm_match ?_ ?_ ?_ ?_;rotate_right 4;rotate_left;(·assumption);rotate_right;(·rfl);(·walk_at "M isC");k_whole))
 k_with "Zn callWith ref" => ((with_reducible show wpAny _ _ (callWith _ (Value.ref (Cl.sfn _)) _ _ _) _ _ _);k_dflt (first | (refine' callWith_K (K:=mk.heap_1 _) ?_ ?_ ?_;rotate_right 3;(·exact kinG (by assumption));(·exact keepS _ _);k_whole) | (refine' callWith_K0 (K:=mk.heap_1 _) ?_ ?_ ?_;rotate_right 3;(·exact kinG (by assumption));(·exact keepS _ _);k_whole;(try dsimp only [List.nil_append,List.cons_append]))))
 k_with "Zn callWith ref" => ((with_reducible show wpAny _ _ (callWith _ (Value.ref (Cl.mfn _)) _ _ _) _ _ _);k_dflt (first | (refine' callWith_K (K:=mk.heap_1 _) ?_ ?_ ?_;rotate_right 3;(·exact kinG (by assumption));(·exact keepM _ _);k_whole) | (refine' callWith_K0 (K:=mk.heap_1 _) ?_ ?_ ?_;rotate_right 3;(·exact kinG (by assumption));(·exact keepM _ _);k_whole;(try dsimp only [List.nil_append,List.cons_append]))))
 k_with "Zn subscriptTail" => ((with_reducible show wpAny _ _ (subscriptTail _ _ (Value.ref _) (Value.int _ _)) _ _ _);k_dflt (refine' item_listR ?_ ?_ ?_ ?_ ?_;rotate_right 5;(·first | (refine' isList_sub ?_ ?_;rotate_right 2;rotate_left;(·exact St.le (by assumption));rotate_right;(·walk_at "M lst")) | (refine' St.listAt ?_ ?_;rotate_right 2;(·assumption);(·walk_at "M at")));(·first | decide | lia);(·first | decide | lia);(·first | with_reducible assumption | exact tu0 | exact tu1 | exact tu2 | exact tu3 | exact tu4 | rfl);k_whole))
 k_with "Zn subscriptTail" => ((with_reducible show wpAny _ _ (subscriptTail _ _ (Value.ref _) (Value.int _ _)) _ _ _);k_dflt (refine' item_tupleR ?_ ?_ ?_ ?_ ?_ ?_;rotate_right 6;(·refine' isTup_sub ?_ ?_;rotate_right 2;rotate_left;(·exact St.le (by assumption));rotate_right;(·walk_at "M tup2"));(·first | decide | lia);(·first | decide | lia);(·first | with_reducible assumption | exact sj0 | exact sj1 | exact sj2 | exact sj3 | rfl);(·first | with_reducible assumption | with_reducible exact tu0 | with_reducible exact tu1 | with_reducible exact tu2 | with_reducible exact tu3 | rfl);k_whole))
 k_with "Zn M tup2" => first | with_reducible assumption | ((with_reducible refine' isTup_grows ?_ ?_);rotate_right 2;(·with_reducible assumption);(·walk_at "M chain"))
 k_with "Zn M lst" => first | with_reducible assumption | ((with_reducible refine' isList_grows ?_ ?_);rotate_right 2;(·with_reducible assumption);(·walk_at "M chain"))
 k_with "Zn M hl" => first | (refine' isList_sub ?_ ?_;rotate_right 2;rotate_left;(·exact St.le (by assumption));rotate_right;(·walk_at "M lst")) | (refine' St.listAt ?_ ?_;rotate_right 2;(·assumption);(·walk_at "M at"))
 k_with "Zn unpackItems" => (k_dflt (refine' m_unpackItems ?_ ?_ ?_ ?_ ?_ ?_;rotate_right 6;rotate_left 2;(·assumption);rotate_right 2;(·rfl);(·walk_at "M hh");(·walk_at "M tup");(·rfl);k_whole;walk_at "I2"))
 k_with "Zn getMethod ref" => ((with_reducible show wpAny _ _ (getMethod _ (Str.ofString "append") _) _ _ _);k_dflt (refine' getMethod_append ?_ ?_ ?_;rotate_right 3;rotate_left;(·assumption);rotate_right;(·rfl);k_whole))
 k_with "Zn call builtin:list.append" => k_dflt (refine' m_append ?_ ?_ ?_ ?_;rotate_right 4;rotate_left;(·assumption);rotate_right;(·rfl);(·lia);k_whole;walk_at "I3")
 k_with "Zn storeName" => ((with_reducible show wpAny _ _ (storeName (envX _ _ _ _ _ _) _ _) _ _ _);k_dflt (first | (refine' stC_s ?_ ?_ ?_ ?_ ?_ ?_;rotate_right 6;rotate_left 5;(·rfl);rotate_right 5;(·assumption);(·rfl);(·walk_at "M cell");rotate_left;(·rfl);k_whole;walk_at "I2") | (refine' stC_0 ?_ ?_ ?_ ?_ ?_ ?_ ?_;rotate_right 7;rotate_left 6;(·rfl);rotate_right 6;(·assumption);(·rfl);(·walk_at "M at");(·with_reducible assumption);rotate_left;(·rfl);k_whole;walk_at "I5") | (refine' stC_m ?_ ?_ ?_ ?_ ?_ ?_ ?_;rotate_right 7;rotate_left 6;(·rfl);rotate_right 6;(·assumption);(·rfl);(·walk_at "M at");(·first | with_reducible assumption | exact CellLike.set _ _);rotate_left;(·rfl);k_whole;intro _ st9;(try dsimp only [List.set_cons_zero,List.set_cons_succ] at st9);revert st9;walk_at "I1")))
 k_with "Zn eval Name" => ((with_reducible show wpAny _ _ (eval _ (envX _ _ _ _ _ _)) _ _ _);k_dflt (first | (refine' n_cellF ?_ ?_ ?_ ?_ ?_ ?_;rotate_right 6;rotate_left 5;(·rfl);rotate_right 5;(·assumption);(·rfl);(·walk_at "M cell");rotate_left;(·rfl);k_whole) | (refine' nO_cell ?_ ?_ ?_ ?_ ?_ ?_;rotate_right 6;rotate_left 5;(·rfl);rotate_right 5;(·assumption);(·rfl);(·walk_at "M mem");rotate_left;(·rfl);k_whole)))
 k_with "Zn eval Name" => ((with_reducible show wpAny _ _ (eval _ (compEnvC _ _ _ _)) _ _ _);k_dflt (first | (refine' nE_cell ?_ ?_ ?_ ?_ ?_ ?_;rotate_right 6;rotate_left 5;(·rfl);rotate_right 5;(·assumption);(·rfl);(·walk_at "M cell");rotate_left;(·rfl);k_whole) | (refine' nO_cell ?_ ?_ ?_ ?_ ?_ ?_;rotate_right 6;rotate_left 5;(·rfl);rotate_right 5;(·assumption);(·rfl);(·walk_at "M mem");rotate_left;(·rfl);k_whole)))
 k_with "Zn call type:tuple" => k_dflt (refine' m_tupleOfList ?_ ?_ ?_ ?_ ?_;rotate_right 5;rotate_left;(·assumption);rotate_right;(·rfl);(·walk_at "M lst");(·first | decide | with_reducible assumption | (simp only [List.length_cons,List.length_nil];lia));k_whole;walk_at "I6")
 k_with "Zn call builtin:len" => k_extra "q32"
 k_with "Zn pyIter ref" => k_dflt (refine' src_range ?_ ?_ ?_ ?_ ?_;rotate_right 5;rotate_left;(·assumption);rotate_right;(·rfl);(·with_reducible assumption);(·first | lia | exact Nat.le_of_ble_eq_true rfl);k_whole;walk_at "I6")
 k_with "Zn M tri" => first | with_reducible assumption | ((with_reducible refine' triUp ?_ ?_);rotate_right 2;(·with_reducible assumption);(·walk_at "M chain"))
 k_with "Zn exec Assign" => ((with_reducible show wpAny _ _ (exec (Stmt.Assign [Expr.Name _ _] (Expr.ListComp (Expr.ListComp _ _ _ _) _ _ _) _) _) _ _ _);k_dflt (refine' compA_ruleC ?_ ?_ ?_ ?_ ?_ ?_ ?_ ?_ ?_ ?_ ?_ ?_ ?_ ?_;rotate_right 14;rotate_left;(·assumption);rotate_right;(·rfl);(·walk_at "M hh");(·rfl);(·rfl);(·(walk_at "I1"; rfl));(·(walk_at "I1"; rfl));(·rfl);(·decide);(·(walk_at "I1"; rfl));(·rfl);(·rfl);(·rfl);k_whole))
 k_with "Zn storeName" => ((with_reducible show wpAny _ _ (storeName (compEnvC _ _ _ _) _ _) _ _ _);k_dflt (refine' stC_m ?_ ?_ ?_ ?_ ?_ ?_ ?_;rotate_right 7;rotate_left 6;(·rfl);rotate_right 6;(·assumption);(·rfl);(·walk_at "M at");(·first | with_reducible assumption | exact CellLike.set _ _);rotate_left;(·rfl);k_whole;intro _ st9;(try dsimp only [List.set_cons_zero,List.set_cons_succ] at st9);revert st9;walk_at "I1"))
 k_with "Zn M cell" => first | with_reducible assumption | ((with_reducible refine' cell_up ?_ ?_ ?_);rotate_right 3;(·with_reducible assumption);(·first | with_reducible assumption | exact St.inv (by with_reducible assumption));(·walk_at "M chain"))
 k_with "Zn subscriptTail" => ((with_reducible show wpAny _ _ (subscriptTail _ (Expr.Slice _ _ _ _) (Value.ref _) (Value.ref _)) _ _ _);k_dflt (refine' m_subLF ?_ ?_ ?_ ?_ ?_ ?_ ?_ ?_ ?_ ?_ ?_;rotate_right 11;rotate_left;(·assumption);rotate_right;(·rfl);(·walk_at "M hl");(·walk_at "M slice");(·first | exact IsPart.none | exact IsPart.int _ _);(·first | exact IsPart.none | exact IsPart.int _ _);(·first | exact IsPart.none | exact IsPart.int _ _);(·decide);(·walk_at "M size");(·rfl);k_whole;walk_at "I6"))
 k_with "Zn M size" => first | with_reducible assumption | (simp only [Array.size_append,List.size_toArray,List.length_cons,List.length_nil];lia) | (refine Nat.le_trans (slicePick_size_le _ _ _ _) ?_;simp only [Array.size_append,List.size_toArray,List.length_cons,List.length_nil];lia)
 k_with "Zn M mem" => first | with_reducible assumption | with_reducible exact List.mem_cons_self | ((with_reducible refine List.mem_cons_of_mem _ ?_);walk_at "M mem")
 trivial
section
set_option tactic.hygienic true
variable {γ:Cfg}
local macro_rules | `(tactic| walk_at $s:str) => do let k:=Lean.Syntax.mkStrLit ("Z46 " ++ s.getString);`(tactic| k_extra $k)
local macro_rules | `(tactic| walk_at "0") => `(tactic| skip)
noncomputable def StG (γ:Cfg):Prop:=∀ (A:Around) (body rest:List Stmt) (scope:Scope) (qual:Str) (cdv:Value) (s₀ s:Shared) (fz₀ fz:Heap) (L n:Addr) (Q:Flow → Shared → Prop) (E:Value → Shared → Prop) (l:List (Str × Value)) (mu:List (Addr × Obj)) (o6:Obj) (v6:Option Value) (R H U X Y:Addr) (rv:List Value) (xs:List Vn) (w0 w1 x0 x1 x2 x3 y0 y1 y2 y3:Addr) (W c0 c1:Cl),
 LGo γ 13 A body rest scope qual cdv s₀ fz₀ L Q → St (gg γ) s₀ fz₀ s.heap s.gens s.os fz L ((Str.ofString "rows", .ref R) :: (Str.ofString "shapes", .ref H) :: (Str.ofString "due", .ref U) :: (Str.ofString "clauses", .ref X) :: (Str.ofString "again", .ref Y) :: l) ((n + 6,o6) :: mu) → o6.data = .cell v6 →
 fz.IsList R rv.toArray → Each RowR fz rv xs → (∀ x ∈ xs,VnOk x) → xs.length ≤ 5 → fz.IsList H #[.ref w0,.ref w1] → IsC fz (.ref w0) W → IsC fz (.ref w1) W → fz.IsList U (xs.map fun x => Value.bool (W.holds (verL x.1 x.2))).toArray →
 fz.IsList X #[.ref x0,.ref x1,.ref x2,.ref x3] → fz.IsList Y #[.ref y0,.ref y1,.ref y2,.ref y3] → IsC fz (.ref x0) c0 → IsC fz (.ref x1) c1 → IsC fz (.ref y0) c0 → IsC fz (.ref y1) c1 →
 Ok 7 W → W.dep ≤ 5 → W.wt ≤ 900 → Ok 7 c0 → Ok 7 c1 → c0.dep ≤ 1 → c1.dep ≤ 1 →
 wpAny (model (gg γ).prog (gg γ).w) A (execs rest (envX qual scope L 922 cdv (csL n))) Q E s
theorem words_g:True:=by
 w_top off
 k_with "Z46 compareOp NotEq ref ref" => (k_dflt (refine' cmp_ofNotEq ?_;refine' m_neSame (g:=gg _) rfl ?_ ?_ ?_ ?_;rotate_right 4;(·walk_at "M hl");(·walk_at "M hl");(·exact Nat.lt_of_le_of_lt (Nat.le_add_right _ _) (by assumption));k_whole))
 trivial
theorem law_G:StG γ:=by
 intro A body rest scope qual cdv s₀ s fz₀ fz L n Q E l mu o6 v6 R H U X Y rv xs w0 w1 x0 x1 x2 x3 y0 y1 y2 y3 W c0 c1 go S d6 hR hE hxs hlen hH pw0 pw1 hU hX hY px0 px1 py0 py1 oW dW wW oc0 oc1 dc0 dc1
 obtain ⟨hat,hr,hh,hd,hu,done⟩:=go
 refine' hat.use ?hk ?go
 (case hk => (with_reducible show (mk.heap_1 _).lookup _ = _);k_is)
 rintro rfl rfl rfl rfl
 clear hat
 subst hr
 show wpAny _ _ (execs [_,_,_,_,_] _) _ _ _
 obtain ⟨eT,eN⟩ : Cl.eqn 7 W W = true ∧ True:=⟨eqn_self oW,trivial⟩
 obtain ⟨oS,eS,hS⟩:=simp_facts oW
 obtain ⟨f1,f2,f3,f4⟩:=both_facts oc0 oc1 dc0 dc1
 walk_at "M inA"
 refine x_cut fun N hN hR' => ?_
 repeat' walk1
 rename_i s1 f1 G1 C1 S1
 refine hN _ ?_
 clear hN hR' N S
 refine x_cut fun N hN hR' => ?_
 repeat' walk1
 rename_i I1 oI1 SC it1 sf1
 have hlr:=hE.length
 refine' ⟨_,_,_,_,_,_,_,fun i acc h => acc = (xs.map fun x => Value.bool (W.holds (verL x.1 x.2))).take i ∧ Grows (gg γ).tabs f1 h,rfl,SC,it1 _,sf1,⟨rfl,by walk_at "M chain"⟩,?sz1,CompStep.mk0 ?st1,?fi1⟩
 (case sz1 => have:=sizeLine_eq;simp only [List.size_toArray];lia)
 (case st1 =>
   intro i v s2 fz0 fz2 C lC mu2 acc E' hi hJ gr2 hP S2
   obtain ⟨x,hx,px⟩:=hE.get (by simpa using hP)
   have ox:=hxs x (List.mem_of_getElem? hx)
   have px:=RowR.up (Grows.trans G1 (Grows.trans hJ.2 gr2)) _ _ px
   have G2:=Grows.trans hJ.2 gr2
   walk1
   walk1
   walk_at "M inE"
   repeat' walk1
   refine' ⟨_,_,?ga1,?gb1,takeN hx hJ.1,Grows.trans G2 ?gc1⟩
   (case gb1 => assumption)
   (case ga1 => walk_at "M chain")
   (case gc1 => walk_at "M chain"))
 intro s2 fz2 D2 c2 acc2 gr2 S2 hJ2 hz2 S3
 obtain ⟨fz3,gr3,S4,hl3⟩:=S3.fixL
 obtain rfl:=takeA hJ2.1 (by simpa using hlr)
 clear S2 S3 hJ2
 repeat' walk1
 rename_i I3 oI3 SC3 it3 sf3
 refine' ⟨_,_,_,_,_,_,_,fun i acc h => acc = (xs.map fun x => Value.bool ((W.simp 7).holds (verL x.1 x.2))).take i ∧ Grows (gg γ).tabs fz3 h,rfl,SC3,it3 _,sf3,⟨rfl,by walk_at "M chain"⟩,?sz3,CompStep.mk0 ?st3,?fi3⟩
 (case sz3 => have:=sizeLine_eq;simp only [List.size_toArray];lia)
 (case st3 =>
   intro i v s2 fz0 fz4 C lC mu2 acc E' hi hJ gr4 hP S2
   obtain ⟨x,hx,px⟩:=hE.get (by simpa using hP)
   have ox:=hxs x (List.mem_of_getElem? hx)
   have px:=RowR.up (Grows.trans G1 (Grows.trans (Grows.trans gr2 gr3) (Grows.trans hJ.2 gr4))) _ _ px
   have G4:=Grows.trans hJ.2 gr4
   walk1
   walk1
   walk_at "M inE"
   repeat' walk1
   refine' ⟨_,_,?ga2,?gb2,takeN (f:=fun x:Vn => Value.bool ((W.simp 7).holds (verL x.1 x.2))) hx hJ.1,Grows.trans G4 ?gc2⟩
   (case gb2 => assumption)
   (case ga2 => walk_at "M chain")
   (case gc2 => walk_at "M chain"))
 intro s5 fz5 D5 c5 acc5 gr5 S5 hJ5 hz5 S6
 obtain ⟨fz6,gr6,S7,hl6⟩:=S6.fixL
 obtain rfl:=takeA hJ5.1 (by simpa using hlr)
 clear S5 S6 hJ5
 simp only [hS] at hl6
 repeat' walk1
 refine hN _ ?_
 clear hN hR' N
 have GG:Grows (gg γ).tabs f1 fz6:=Grows.trans (Grows.trans gr2 gr3) (Grows.trans gr5 gr6)
 refine x_cut fun N hN hR' => ?_
 repeat' walk1
 refine hN _ ?_
 clear hN hR' N
 refine x_cut fun N hN hR' => ?_
 repeat' walk1
 refine hN _ ?_
 clear hN hR' N
 refine x_cut fun N hN hR' => ?_
 repeat' walk1
 exact hR' _ _ (done _ _ _ _ (by assumption))
end
section
set_option tactic.hygienic true
variable {γ:Cfg}
noncomputable def StF (γ:Cfg):Prop:=∀ (A:Around) (body rest:List Stmt) (scope:Scope) (qual:Str) (cdv:Value) (s₀ s:Shared) (fz₀ fz:Heap) (L n:Addr) (Q:Flow → Shared → Prop) (E:Value → Shared → Prop) (l:List (Str × Value)) (mu:List (Addr × Obj)) (o5 o6:Obj) (v6:Option Value) (R H X Y HD DD VD:Addr) (rv hv vv:List Value) (xs:List Vn) (w0 w1 x0 x1 x2 x3 y0 y1 y2 y3:Addr) (W c0 c1:Cl) (l0 l1 l2 l3:Leaf) (d0 d1 d2:Int) (t0 t1 t2:Tok),
 LGo γ 11 A body rest scope qual cdv s₀ fz₀ L Q → St (gg γ) s₀ fz₀ s.heap s.gens s.os fz L ((Str.ofString "rows", .ref R) :: (Str.ofString "shapes", .ref H) :: (Str.ofString "clauses", .ref X) :: (Str.ofString "again", .ref Y) :: (Str.ofString "held", .ref HD) :: (Str.ofString "deeds", .ref DD) :: l) ((n + 5,o5) :: (n + 6,o6) :: mu) → CellLike o5 → o6.data = .cell v6 →
 fz.IsCell (n + 1) (some (.ref VD)) → fz.IsList VD vv.toArray → vv.length = xs.length → fz.IsList HD hv.toArray → Each BoolsR fz hv ([l0,l1,l2,l3].map fun lf => xs.map (heldL lf)) → fz.IsList DD #[.int d0 t0,.int d1 t1,.int d2 t2] →
 (∀ x ∈ xs,dueB d2 (dueB d0 (heldL l0 x) (heldL l1 x)) (dueB d1 (heldL l2 x) (heldL l3 x)) = W.holds (verL x.1 x.2)) →
 fz.IsList R rv.toArray → Each RowR fz rv xs → (∀ x ∈ xs,VnOk x) → xs.length ≤ 5 → fz.IsList H #[.ref w0,.ref w1] → IsC fz (.ref w0) W → IsC fz (.ref w1) W →
 fz.IsList X #[.ref x0,.ref x1,.ref x2,.ref x3] → fz.IsList Y #[.ref y0,.ref y1,.ref y2,.ref y3] → IsC fz (.ref x0) c0 → IsC fz (.ref x1) c1 → IsC fz (.ref y0) c0 → IsC fz (.ref y1) c1 →
 Ok 7 W → W.dep ≤ 5 → W.wt ≤ 900 → Ok 7 c0 → Ok 7 c1 → c0.dep ≤ 1 → c1.dep ≤ 1 →
 wpAny (model (gg γ).prog (gg γ).w) A (execs rest (envX qual scope L 922 cdv (csL n))) Q E s
inductive JF (γ:Cfg) (n:Addr) (fr:Heap) (Da R H X Y HD DD:Addr) (o6:Obj) (mu:List (Addr × Obj)) (bs:List Value) (i:Nat) (h:Heap) (l':List (Str × Value)) (mu':List (Addr × Obj)):Prop
 | mk (acc:Array Value) (c:Nat) (o:Obj) (r:List (Str × Value)):mu' = (Da,accObj acc c) :: (n + 5,o) :: (n + 6,o6) :: mu → CellLike o → l' = (Str.ofString "due", .ref Da) :: (Str.ofString "rows", .ref R) :: (Str.ofString "shapes", .ref H) :: (Str.ofString "clauses", .ref X) :: (Str.ofString "again", .ref Y) :: (Str.ofString "held", .ref HD) :: (Str.ofString "deeds", .ref DD) :: r → acc.toList = bs.take i → Grows (gg γ).tabs fr h → JF γ n fr Da R H X Y HD DD o6 mu bs i h l' mu'
theorem law_F (hG:StG γ):StF γ:=by
 w_top off
 intro A body rest scope qual cdv s₀ s fz₀ fz L n Q E l mu o5 o6 v6 R H X Y HD DD VD rv hv vv xs w0 w1 x0 x1 x2 x3 y0 y1 y2 y3 W c0 c1 l0 l1 l2 l3 d0 d1 d2 t0 t1 t2 go S hc5 d6 hcV hVD hVl hHD hHE hDD hdue hR hE hxs hlen hH pw0 pw1 hX hY px0 px1 py0 py1 oW hdW hwW oc0 oc1 dc0 dc1
 have go2:=go
 obtain ⟨hat,hr,hh,hd,hu,done⟩:=go
 refine' hat.use ?hk ?go
 (case hk => (with_reducible show (mk.heap_1 _).lookup _ = _);k_is)
 rintro rfl rfl rfl rfl
 subst hr
 clear hat
 show wpAny _ _ (execs (_ :: _ :: _) _) _ _ _
 walk_at "M inA"
 refine x_cut fun N hN hR' => ?_
 repeat' walk1
 refine hN _ ?_
 clear hN hR' N
 rename_i sa Da Sa0 sb Sa
 have hvs:vv.toArray.size ≤ 5:=by rw [List.size_toArray,hVl];exact hlen
 clear S Sa0
 refine x_cut fun N hN hR' => ?_
 repeat' walk1
 rename_i sr fr r1 Gr Sr hRr sc I1 own1 SC it1 sf1
 refine' ⟨_,_,_,_,_,(Da,accObj #[] 0) :: (n + 5,o5) :: (n + 6,o6) :: mu,_,fun i h l' mu' => JF γ n fr Da R H X Y HD DD o6 mu (xs.map fun x => Value.bool (dueB d2 (dueB d0 (heldL l0 x) (heldL l1 x)) (dueB d1 (heldL l2 x) (heldL l3 x)))) i h l' mu',rfl,SC,it1 _ _,⟨#[],0,o5,l,rfl,hc5,rfl,rfl,Grows.refl _ _⟩,ForStep.of ?stg,?fing⟩
 (case stg =>
   intro i v s2 fz0 fz2 l2 own2 mu2 E' hi hJ gr2 hP S2
   obtain ⟨acc,c,o,r,rfl,ho,rfl,hacc,hG⟩:=hJ
   obtain ⟨ti,rfl⟩:=hP
   have G2:Grows (gg γ).tabs fz fz2:=Gr.trans (hG.trans gr2)
   have hG2:=hG.trans gr2
   obtain ⟨x,hx⟩ : ∃ x,xs[i]? = some x:=⟨_,List.getElem?_eq_getElem (by rw [← hVl];simpa using hi)⟩
   dsimp only [List.cons_append] at S2
   walk1
   walk1
   rename_i s3 S3
   walk_at "M inA"
   refine x_cut fun N hN hR' => ?_
   repeat' walk1
   rename_i I4 oI4 SC4 it4 sf4
   refine' ⟨_,_,_,_,_,_,_,fun j acc h => acc = (([l0,l1,l2,l3].map fun lf => heldL lf x).map Value.bool).take j ∧ Grows (gg γ).tabs fz2 h,rfl,SC4,it4 _,sf4,⟨rfl,Grows.refl _ _⟩,?sz4,CompStep.mk0F ?st4,?fi4⟩
   (case sz4 => have:=sizeLine_eq;have:=hHE.length;simp only [List.size_toArray] at *;simp only [List.length_map,List.length_cons,List.length_nil] at this;lia)
   (case st4 =>
     intro j v s5 fz5 fz6 C lC mu5 acc5 E5 hj hJ5 gr6 hP5 hF S6
     obtain ⟨bsj,hbs,hD5,rfl,hl5⟩:=hHE.get (by simpa using hP5)
     obtain ⟨lj,hlj,rfl⟩ : ∃ lj,[l0,l1,l2,l3][j]? = some lj ∧ xs.map (heldL lj) = bsj:=by
       rw [List.getElem?_map] at hbs
       cases hq:[l0,l1,l2,l3][j]? with
       | none => rw [hq] at hbs;cases hbs
       | some lj => rw [hq] at hbs;exact ⟨lj,rfl,Option.some.inj hbs⟩
     have hm5:(n + 5,setC o (.int i ti)) ∈ mu5:=hF _ (.tail _ (.head _))
     have G6:=Grows.trans G2 (Grows.trans hJ5.2 gr6)
     have hx5:((xs.map (heldL lj)).map Value.bool).toArray[(i:Int).toNat]? = some (.bool (heldL lj x)):=by simp [hx]
     have hi5:(i:Int).toNat < ((xs.map (heldL lj)).map Value.bool).toArray.size:=(Array.getElem?_eq_some_iff.mp hx5).1
     have hi6:(i:Int) < ((xs.map (heldL lj)).map Value.bool).toArray.size:=by lia
     walk1
     walk1
     walk_at "M inE"
     repeat' walk1
     refine' ⟨_,_,?ga5,?gb5,takeN (xs:=[l0,l1,l2,l3].map fun lf => heldL lf x) (f:=Value.bool) (x:=heldL lj x) (by rw [List.getElem?_map,hlj];rfl) hJ5.1,Grows.trans hJ5.2 (Grows.trans gr6 ?gc5)⟩
     (case gb5 => assumption)
     (case ga5 => walk_at "M chain")
     (case gc5 => walk_at "M chain"))
   intro s7 fz7 P7 c7 acc7 gr7 S7 hJ7 hz7 s8 S8
   obtain ⟨fz8,gr8,S9,hP8⟩:=S8.fixL
   obtain rfl:=takeA hJ7.1 (by have:=hHE.length;simpa using this)
   replace hP8:fz8.IsList P7 #[.bool (heldL l0 x),.bool (heldL l1 x),.bool (heldL l2 x),.bool (heldL l3 x)]:=hP8
   clear S7 S8 hJ7 hz7
   have G8:=Grows.trans gr7 gr8
   generalize hb0:heldL l0 x = b0 at hP8
   generalize hb1:heldL l1 x = b1 at hP8
   generalize hb2:heldL l2 x = b2 at hP8
   generalize hb3:heldL l3 x = b3 at hP8
   refine hN _ ?_
   clear hN hR' N
   refine x_cut fun N hN hR' => ?_
   have hacc5:acc.size ≤ 5:=by
     have:=congrArg List.length hacc
     rw [Array.length_toList,List.length_take,List.length_map] at this
     lia
   have JL:∀ s',St (gg γ) s₀ fz₀ s'.heap s'.gens s'.os fz8 L ((Str.ofString "left", .bool (dueB d0 b0 b1)) :: (Str.ofString "parts", .ref P7) :: (Str.ofString "due", .ref Da) :: (Str.ofString "rows", .ref R) :: (Str.ofString "shapes", .ref H) :: (Str.ofString "clauses", .ref X) :: (Str.ofString "again", .ref Y) :: (Str.ofString "held", .ref HD) :: (Str.ofString "deeds", .ref DD) :: r) ((Da,accObj acc c) :: (n + 5,setC o (.int i ti)) :: (n + 6,o6) :: (mu ++ own2)) → N .next s':=fun s9 S9 => by
     refine hN _ ?_
     clear hN hR' N
     generalize he1:dueB d0 b0 b1 = e1 at S9
     refine x_cut fun N hN hR' => ?_
     have JR:∀ s',St (gg γ) s₀ fz₀ s'.heap s'.gens s'.os fz8 L ((Str.ofString "right", .bool (dueB d1 b2 b3)) :: (Str.ofString "left", .bool e1) :: (Str.ofString "parts", .ref P7) :: (Str.ofString "due", .ref Da) :: (Str.ofString "rows", .ref R) :: (Str.ofString "shapes", .ref H) :: (Str.ofString "clauses", .ref X) :: (Str.ofString "again", .ref Y) :: (Str.ofString "held", .ref HD) :: (Str.ofString "deeds", .ref DD) :: r) ((Da,accObj acc c) :: (n + 5,setC o (.int i ti)) :: (n + 6,o6) :: (mu ++ own2)) → N .next s':=fun s10 S10 => by
       refine hN _ ?_
       clear hN hR' N S9
       generalize he2:dueB d1 b2 b3 = e2 at S10
       refine x_cut fun N hN hR' => ?_
       have JE:∀ s' c',St (gg γ) s₀ fz₀ s'.heap s'.gens s'.os fz8 L ((Str.ofString "right", .bool e2) :: (Str.ofString "left", .bool e1) :: (Str.ofString "parts", .ref P7) :: (Str.ofString "due", .ref Da) :: (Str.ofString "rows", .ref R) :: (Str.ofString "shapes", .ref H) :: (Str.ofString "clauses", .ref X) :: (Str.ofString "again", .ref Y) :: (Str.ofString "held", .ref HD) :: (Str.ofString "deeds", .ref DD) :: r) ((Da,accObj (acc.push (.bool (dueB d2 e1 e2))) c') :: (n + 5,setC o (.int i ti)) :: (n + 6,o6) :: (mu ++ own2)) → N .next s':=fun s11 c' S11 => by
         refine hN _ ?_
         clear hN hR' N S10
         refine wpAny_execs_nil ?_
         have S12:=S11.base [(Str.ofString "due", .ref Da),(Str.ofString "rows", .ref R),(Str.ofString "shapes", .ref H),(Str.ofString "clauses", .ref X),(Str.ofString "again", .ref Y),(Str.ofString "held", .ref HD),(Str.ofString "deeds", .ref DD)] (by
           simp only [List.forall_mem_cons]
           exact ⟨rfl,rfl,rfl,rfl,rfl,rfl,rfl,fun zz h => nomatch h⟩)
         refine FNext.next (mu':=(Da,accObj (acc.push (.bool (dueB d2 e1 e2))) c') :: (n + 5,setC o (.int i ti)) :: (n + 6,o6) :: mu) G8 S12 ⟨_,c',_,_,rfl,CellLike.set _ _,rfl,?_,Grows.trans hG2 G8⟩
         rw [Array.toList_push]
         have:=takeN (f:=fun x => Value.bool (dueB d2 (dueB d0 (heldL l0 x) (heldL l1 x)) (dueB d1 (heldL l2 x) (heldL l3 x)))) hx hacc
         rw [hb0,hb1,hb2,hb3,he1,he2] at this
         exact this
       clear hN
       by_cases hq0:d2.fmod 2 = 0
       · rw [show dueB d2 e1 e2 = (e1 && e2) from if_pos hq0] at JE
         cases e1 <;> ((repeat' walk1);exact JE _ _ (by assumption))
       · rw [show dueB d2 e1 e2 = (e1 || e2) from if_neg hq0] at JE
         cases e1 <;> ((repeat' walk1);exact JE _ _ (by assumption))
     clear hN
     by_cases hq0:d1.fmod 2 = 0
     · rw [show dueB d1 b2 b3 = (b2 && b3) from if_pos hq0] at JR
       cases b2 <;> ((repeat' walk1);exact JR _ (by assumption))
     · rw [show dueB d1 b2 b3 = (b2 || b3) from if_neg hq0] at JR
       cases b2 <;> ((repeat' walk1);exact JR _ (by assumption))
   clear hN
   by_cases hq0:d0.fmod 2 = 0
   · rw [show dueB d0 b0 b1 = (b0 && b1) from if_pos hq0] at JL
     cases b0 <;> ((repeat' walk1);exact JL _ (by assumption))
   · rw [show dueB d0 b0 b1 = (b0 || b1) from if_neg hq0] at JL
     cases b0 <;> ((repeat' walk1);exact JL _ (by assumption))
)
 intro s5 fz5 l5 mu5 hJ5 S5
 obtain ⟨acc,c,o,r,rfl,ho,rfl,hacc,hGr⟩:=hJ5
 have S6:=S5.perm (List.Perm.cons _ (List.Perm.swap ..))
 obtain ⟨fz7,gr7,S7,hU⟩:=S6.fixL
 obtain rfl:=takeA hacc (by rw [List.size_toArray,hVl])
 have G7:Grows (gg γ).tabs fz fz7:=Grows.trans Gr (Grows.trans hGr gr7)
 refine hN _ ?_
 have S8:=S7.base [(Str.ofString "rows", .ref R),(Str.ofString "shapes", .ref H),(Str.ofString "due", .ref Da),(Str.ofString "clauses", .ref X),(Str.ofString "again", .ref Y)] (by
   simp only [List.forall_mem_cons]
   exact ⟨rfl,rfl,rfl,rfl,rfl,fun zz h => nomatch h⟩)
 rw [show (xs.map fun x => Value.bool (dueB d2 (dueB d0 (heldL l0 x) (heldL l1 x)) (dueB d1 (heldL l2 x) (heldL l3 x)))) = xs.map fun x => Value.bool (W.holds (verL x.1 x.2)) from List.map_congr_left fun x hx => congrArg Value.bool (hdue x hx)] at hU
 exact hG A _ _ _ _ _ s₀ _ fz₀ fz7 L n Q E _ _ o6 v6 R H Da X Y rv xs w0 w1 x0 x1 x2 x3 y0 y1 y2 y3 W c0 c1 (go2.to rfl) S8 d6 (isList_grows hR G7) (hE.imp (RowR.up G7)) hxs hlen (isList_grows hH G7) (pw0.up G7) (pw1.up G7) hU (isList_grows hX G7) (isList_grows hY G7) (px0.up G7) (px1.up G7) (py0.up G7) (py1.up G7) oW hdW hwW oc0 oc1 dc0 dc1
end
section
set_option tactic.hygienic true
variable {γ:Cfg}
noncomputable def StE (γ:Cfg):Prop:=∀ (A:Around) (body rest:List Stmt) (scope:Scope) (qual:Str) (cdv:Value) (s₀ s:Shared) (fz₀ fz:Heap) (L n:Addr) (Q:Flow → Shared → Prop) (E:Value → Shared → Prop) (l:List (Str × Value)) (mu:List (Addr × Obj)) (o5 o6:Obj) (v6:Option Value) (T R X Y HD VD:Addr) (rv hv vv:List Value) (xs:List Vn) (x0 x1 x2 x3 y0 y1 y2 y3:Addr) (l0 l1 l2 l3:Leaf) (n0 n1 n2 n3 z:Int) (u0 u1 u2 u3 u4:Tok),
 LGo γ 8 A body rest scope qual cdv s₀ fz₀ L Q → St (gg γ) s₀ fz₀ s.heap s.gens s.os fz L ((Str.ofString "told", .ref T) :: (Str.ofString "rows", .ref R) :: (Str.ofString "clauses", .ref X) :: (Str.ofString "again", .ref Y) :: (Str.ofString "held", .ref HD) :: l) ((n + 5,o5) :: (n + 6,o6) :: mu) → CellLike o5 → o6.data = .cell v6 →
 fz.IsList T #[.int n0 u0,.int n1 u1,.int n2 u2,.int n3 u3,.int z u4] →
 fz.IsCell (n + 1) (some (.ref VD)) → fz.IsList VD vv.toArray → vv.length = xs.length → fz.IsList HD hv.toArray → Each BoolsR fz hv ([l0,l1,l2,l3].map fun lf => xs.map (heldL lf)) →
 fz.IsList R rv.toArray → Each RowR fz rv xs → (∀ x ∈ xs,VnOk x) → xs.length ≤ 5 →
 fz.IsList X #[.ref x0,.ref x1,.ref x2,.ref x3] → fz.IsList Y #[.ref y0,.ref y1,.ref y2,.ref y3] → IsC fz (.ref x0) (clL l0) → IsC fz (.ref x1) (clL l1) → IsC fz (.ref x2) (clL l2) → IsC fz (.ref x3) (clL l3) → IsC fz (.ref y0) (clL l0) → IsC fz (.ref y1) (clL l1) → IsC fz (.ref y2) (clL l2) → IsC fz (.ref y3) (clL l3) →
 l0.ok → l1.ok → l2.ok → l3.ok →
 wpAny (model (gg γ).prog (gg γ).w) A (execs rest (envX qual scope L 922 cdv (csL n))) Q E s
inductive JE (γ:Cfg) (n:Addr) (fr:Heap) (Da R X Y HD DD:Addr) (o5 o6:Obj) (mu:List (Addr × Obj)) (cc:Cl) (i:Nat) (h:Heap) (l':List (Str × Value)) (mu':List (Addr × Obj)):Prop
 | mk (acc:Array Value) (c:Nat) (r:List (Str × Value)):mu' = (Da,accObj acc c) :: (n + 5,o5) :: (n + 6,o6) :: mu → l' = (Str.ofString "shapes", .ref Da) :: (Str.ofString "rows", .ref R) :: (Str.ofString "clauses", .ref X) :: (Str.ofString "again", .ref Y) :: (Str.ofString "held", .ref HD) :: (Str.ofString "deeds", .ref DD) :: r → Each (fun h v (_:Nat) => ∃ w,v = .ref w ∧ IsC h (.ref w) cc) h acc.toList (List.range i) → Grows (gg γ).tabs fr h → JE γ n fr Da R X Y HD DD o5 o6 mu cc i h l' mu'
theorem law_E (hF:StF γ):StE γ:=by
 w_top off
 intro A body rest scope qual cdv s₀ s fz₀ fz L n Q E l mu o5 o6 v6 T R X Y HD VD rv hv vv xs x0 x1 x2 x3 y0 y1 y2 y3 l0 l1 l2 l3 n0 n1 n2 n3 z u0 u1 u2 u3 u4 go S hc5 d6 hT hcV hVD hVl hHD hHE hR hE hxs hlen hX hY px0 px1 px2 px3 py0 py1 py2 py3 ok0 ok1 ok2 ok3
 have go2:=go
 obtain ⟨hat,hr,hh,hd,hu,done⟩:=go
 refine' hat.use ?hk ?go
 (case hk => (with_reducible show (mk.heap_1 _).lookup _ = _);k_is)
 rintro rfl rfl rfl rfl
 subst hr
 clear hat
 show wpAny _ _ (execs (_ :: _ :: _ :: _) _) _ _ _
 have fx:∀ {lf:Leaf},lf.ok → Ok 7 (clL lf) ∧ (clL lf).dep ≤ 1 ∧ (clL lf).wt ≤ 1:=fun h => ⟨clL_ok h (by decide),dep_leaf _,wt_leaf _⟩
 obtain ⟨oc0,dc0,wc0⟩:=fx ok0
 obtain ⟨oc1,dc1,wc1⟩:=fx ok1
 obtain ⟨oc2,dc2,wc2⟩:=fx ok2
 obtain ⟨oc3,dc3,wc3⟩:=fx ok3
 obtain ⟨oa,ob,oW,da,db,hdW⟩:=shape_facts (z:=z) oc0 oc1 oc2 oc3 dc0 dc1 dc2 dc3
 have hdue:∀ x ∈ xs,dueB ((z.fdiv 16).fmod 4) (dueB (z.fmod 4) (heldL l0 x) (heldL l1 x)) (dueB ((z.fdiv 4).fmod 4) (heldL l2 x) (heldL l3 x)) = (shapeL 7 z (clL l0) (clL l1) (clL l2) (clL l3)).holds (verL x.1 x.2):=fun x hx => by
   rw [shape_holds oc0 oc1 oc2 oc3 dc0 dc1 dc2 dc3,held_spec ok0 (hxs x hx),held_spec ok1 (hxs x hx),held_spec ok2 (hxs x hx),held_spec ok3 (hxs x hx)];rfl
 have m4:∀ a:Int,0 ≤ a.fmod 4 ∧ a.fmod 4 < 4:=fun a => ⟨Int.fmod_nonneg_of_pos a (by lia),Int.fmod_lt_of_pos a (by lia)⟩
 have hwa:=(join_le 7 (z.fmod 4) (clL l0) (clL l1)).2
 have hwb:=(join_le 7 ((z.fdiv 4).fmod 4) (clL l2) (clL l3)).2
 have j1:(clL l0).wt + (clL l1).wt ≤ 900 ∧ 0 ≤ z.fmod 4 ∧ z.fmod 4 < 4:=⟨by lia,m4 _⟩
 have j2:(clL l2).wt + (clL l3).wt ≤ 900 ∧ 0 ≤ (z.fdiv 4).fmod 4 ∧ (z.fdiv 4).fmod 4 < 4:=⟨by lia,m4 _⟩
 have j3:(joinL 7 (z.fmod 4) (clL l0) (clL l1)).wt + (joinL 7 ((z.fdiv 4).fmod 4) (clL l2) (clL l3)).wt ≤ 900 ∧ 0 ≤ (z.fdiv 16).fmod 4 ∧ (z.fdiv 16).fmod 4 < 4:=⟨by lia,m4 _⟩
 have hwW:(shapeL 7 z (clL l0) (clL l1) (clL l2) (clL l3)).wt ≤ 900:=by
   have:=(join_le 7 ((z.fdiv 16).fmod 4) (joinL 7 (z.fmod 4) (clL l0) (clL l1)) (joinL 7 ((z.fdiv 4).fmod 4) (clL l2) (clL l3))).2
   show (joinL 7 _ _ _).wt ≤ 900
   lia
 generalize hc0:clL l0 = c0 at *
 generalize hc1:clL l1 = c1 at *
 generalize hc2:clL l2 = c2 at *
 generalize hc3:clL l3 = c3 at *
 clear hwa hwb wc0 wc1 wc2 wc3 m4 fx
 walk_at "M inA"
 refine x_cut fun N hN hR' => ?_
 repeat' walk1
 rename_i sa DD Sa sb Sb
 obtain ⟨fz1,gr1,S1,hDD⟩:=Sb.fixL
 have inv0:=S.inv
 clear S Sa Sb
 refine hN _ ?_
 clear hN hR' N
 refine x_cut fun N hN hR' => ?_
 repeat' walk1
 rename_i sc Da Sc sd Sd
 clear S1 Sc
 refine hN _ ?_
 clear hN hR' N
 refine x_cut fun N hN hR' => ?_
 repeat' walk1
 rename_i se fr Tt Ge Se hTt sf I1 oI1 SC it1 sf1
 have G1:=Grows.trans gr1 Ge
 have SC2:=SC.base [(Str.ofString "shapes", .ref Da),(Str.ofString "rows", .ref R),(Str.ofString "clauses", .ref X),(Str.ofString "again", .ref Y),(Str.ofString "held", .ref HD),(Str.ofString "deeds", .ref DD)] (by
   simp only [List.forall_mem_cons]
   exact ⟨rfl,rfl,rfl,rfl,rfl,rfl,fun zz h => nomatch h⟩)
 refine' ⟨_,_,_,_,_,_,_,fun i h l' mu' => JE γ n fr Da R X Y HD DD o5 o6 mu (shapeL 7 z c0 c1 c2 c3) i h l' mu',rfl,SC2,it1 _,⟨#[],0,_,rfl,rfl,trivial,Grows.refl _ _⟩,ForStep.of ?stg,?fing⟩
 (case stg =>
   intro i v s2 fz0 fz2 l2 own2 mu2 E' hi hJ gr2 hP S2
   obtain ⟨acc,c,r,rfl,rfl,hacc,hG⟩:=hJ
   have hi2:i < 2:=hi
   have hlen2:=hacc.length
   rw [Array.length_toList,List.length_range] at hlen2
   obtain ⟨V,a,b,c',d,rfl,hV,qa,qb,qc,qd⟩:=rowF hX hY px0 px1 px2 px3 py0 py1 py2 py3 hP
   have G2:Grows (gg γ).tabs fz fz2:=G1.trans (hG.trans gr2)
   have G3:Grows (gg γ).tabs fz1 fz2:=Ge.trans (hG.trans gr2)
   have hG2:=hG.trans gr2
   dsimp only [List.cons_append] at S2
   walk1
   walk1
   rename_i s3 S3
   walk_at "M inA"
   refine x_cut fun N hN hR' => ?_
   repeat' walk1
   rename_i r4 s4 f4 G4 S4 p4 r5 s5 f5 G5 S5 p5 t6 s6 f6 G6 S6 T6 s7 S7 s8 S8 s9 S9
   clear S2 S3 S4 S5 S6 S7 S8
   refine hN _ ?_
   clear hN hR' N
   refine x_cut fun N hN hR' => ?_
   repeat' walk1
   rename_i r10 s10 f10 G10 S10 p10 s11 c11 S11
   show N .next _
   refine hN _ (wpAny_execs_nil ?_)
   clear hN hR' N S9 S10
   have S12:=S11.base [(Str.ofString "shapes", .ref Da),(Str.ofString "rows", .ref R),(Str.ofString "clauses", .ref X),(Str.ofString "again", .ref Y),(Str.ofString "held", .ref HD),(Str.ofString "deeds", .ref DD)] (by
     simp only [List.forall_mem_cons]
     exact ⟨rfl,rfl,rfl,rfl,rfl,rfl,fun zz h => nomatch h⟩)
   have G9:=Grows.trans (Grows.trans (Grows.trans G4 G5) G6) G10
   refine FNext.next (mu':=(Da,accObj (acc.push (.ref r10)) c11) :: (n + 5,o5) :: (n + 6,o6) :: mu) G9 S12 ⟨_,c11,_,rfl,rfl,?_,Grows.trans hG2 G9⟩
   rw [Array.toList_push,List.range_succ]
   exact (hacc.imp fun v x ⟨w,e,p⟩ => ⟨w,e,p.up (Grows.trans gr2 G9)⟩).snoc ⟨_,rfl,p10⟩)
 intro s5 fz5 l5 mu5 hJ5 S5
 obtain ⟨acc,c,r,rfl,rfl,hacc,hGr⟩:=hJ5
 obtain ⟨fz7,gr7,S7,hU⟩:=S5.fixL
 obtain ⟨w0,w1,rfl,pw0,pw1⟩:=two_refs hacc
 have G7:Grows (gg γ).tabs fz fz7:=Grows.trans G1 (Grows.trans hGr gr7)
 have G8:Grows (gg γ).tabs fz1 fz7:=Grows.trans Ge (Grows.trans hGr gr7)
 refine hN _ ?_
 have S8:=S7.base [(Str.ofString "rows", .ref R),(Str.ofString "shapes", .ref Da),(Str.ofString "clauses", .ref X),(Str.ofString "again", .ref Y),(Str.ofString "held", .ref HD),(Str.ofString "deeds", .ref DD)] (by
   simp only [List.forall_mem_cons]
   exact ⟨rfl,rfl,rfl,rfl,rfl,rfl,fun zz h => nomatch h⟩)
 exact hF A _ _ _ _ _ s₀ _ fz₀ fz7 L n Q E _ _ o5 o6 v6 R Da X Y HD DD VD rv hv vv xs w0 w1 x0 x1 x2 x3 y0 y1 y2 y3 (shapeL 7 z c0 c1 c2 c3) c0 c1 l0 l1 l2 l3 _ _ _ _ _ _ (go2.to rfl) S8 hc5 d6 (cell_up hcV inv0 G7) (isList_grows hVD G7) hVl (isList_grows hHD G7) (hHE.imp (BoolsR.up G7)) (isList_grows hDD G8) hdue (isList_grows hR G7) (hE.imp (RowR.up G7)) hxs hlen hU (pw0.up gr7) (pw1.up gr7) (isList_grows hX G7) (isList_grows hY G7) (px0.up G7) (px1.up G7) (py0.up G7) (py1.up G7) oW hdW hwW oc0 oc1 dc0 dc1
end
section
set_option tactic.hygienic true
variable {γ:Cfg}
noncomputable def StD (γ:Cfg):Prop:=∀ (A:Around) (body rest:List Stmt) (scope:Scope) (qual:Str) (cdv:Value) (s₀ s:Shared) (fz₀ fz:Heap) (L n:Addr) (Q:Flow → Shared → Prop) (E:Value → Shared → Prop) (l:List (Str × Value)) (mu:List (Addr × Obj)) (o2 o3 o4 o5 o6:Obj) (v6:Option Value) (T R X Y HD VD LD:Addr) (rv hv vv lv:List Value) (xs:List Vn) (x0 x1 x2 x3 y0 y1 y2 y3:Addr) (l0 l1 l2 l3:Leaf) (n0 n1 n2 n3 z:Int) (u0 u1 u2 u3 u4:Tok),
 LGo γ 7 A body rest scope qual cdv s₀ fz₀ L Q → St (gg γ) s₀ fz₀ s.heap s.gens s.os fz L ((Str.ofString "told", .ref T) :: (Str.ofString "rows", .ref R) :: (Str.ofString "clauses", .ref X) :: (Str.ofString "again", .ref Y) :: (Str.ofString "held", .ref HD) :: l) ((n + 2,o2) :: (n + 3,o3) :: (n + 4,o4) :: (n + 5,o5) :: (n + 6,o6) :: mu) → CellLike o2 → CellLike o3 → CellLike o4 → CellLike o5 → o6.data = .cell v6 →
 fz.IsList T #[.int n0 u0,.int n1 u1,.int n2 u2,.int n3 u3,.int z u4] → fz.IsCell n (some (.ref LD)) → fz.IsList LD lv.toArray → LeavesAre fz lv [l0,l1,l2,l3] →
 fz.IsCell (n + 1) (some (.ref VD)) → fz.IsList VD vv.toArray → vv.length = xs.length → fz.IsList HD hv.toArray → Each BoolsR fz hv ([l0,l1,l2,l3].map fun lf => xs.map (heldL lf)) →
 fz.IsList R rv.toArray → Each RowR fz rv xs → (∀ x ∈ xs,VnOk x) → xs.length ≤ 5 →
 fz.IsList X #[.ref x0,.ref x1,.ref x2,.ref x3] → fz.IsList Y #[.ref y0,.ref y1,.ref y2,.ref y3] → IsC fz (.ref x0) (clL l0) → IsC fz (.ref x1) (clL l1) → IsC fz (.ref x2) (clL l2) → IsC fz (.ref x3) (clL l3) → IsC fz (.ref y0) (clL l0) → IsC fz (.ref y1) (clL l1) → IsC fz (.ref y2) (clL l2) → IsC fz (.ref y3) (clL l3) →
 l0.ok → l1.ok → l2.ok → l3.ok →
 wpAny (model (gg γ).prog (gg γ).w) A (execs rest (envX qual scope L 922 cdv (csL n))) Q E s
noncomputable def UItem (m o w wd:Int) (nv:Value):Nat → Value → Prop
 | 0,v => ∃ t,v = .int (if m = 0 then (o + 1).fmod 6 else o) t
 | 1,v => ∃ t,v = .int (if m = 1 then (w + 1).fmod 3 else w) t
 | 2,v => v = nv
 | 3,v => ∃ t,v = .int (if m < 2 then wd else (wd + 1).fmod 6) t
 | _,_ => False
theorem uitem {m:Int} (o w wd:Int) (nv:Value) (a0 a1 a3 b0 b1 b3:Tok) (hm:m = 0 ∨ m = 1 ∨ m = 2) {j:Nat} (hj:j < 4):∃ a b,(#[.int ((o + 1).fmod 6) a0,.int ((w + 1).fmod 3) a1,nv,.int ((wd + 1).fmod 6) a3]:Array Value)[(j:Int).toNat]? = some a ∧ (#[.int o b0,.int w b1,nv,.int wd b3]:Array Value)[j]? = some b ∧
   ((j:Int) = (if m < 2 then m else 3) → UItem m o w wd nv j a) ∧ (¬ (j:Int) = (if m < 2 then m else 3) → UItem m o w wd nv j b):=by
 w_top off
 have:j = 0 ∨ j = 1 ∨ j = 2 ∨ j = 3:=by lia
 rcases this with rfl | rfl | rfl | rfl
 · refine ⟨_,_,rfl,rfl,fun h => ?_,fun h => ?_⟩ <;> rcases hm with rfl | rfl | rfl <;> first | exact ⟨_,rfl⟩ | exact absurd h (by decide)
 · refine ⟨_,_,rfl,rfl,fun h => ?_,fun h => ?_⟩ <;> rcases hm with rfl | rfl | rfl <;> first | exact ⟨_,rfl⟩ | exact absurd h (by decide)
 · exact ⟨_,_,rfl,rfl,fun zz => rfl,fun zz => rfl⟩
 · refine ⟨_,_,rfl,rfl,fun h => ?_,fun h => ?_⟩ <;> rcases hm with rfl | rfl | rfl <;> first | exact ⟨_,rfl⟩ | exact absurd h (by decide)
theorem uitem_snoc {m o w wd:Int} {nv v:Value} {h h':Heap} {vs:List Value} {j:Nat} (a:Each (fun zz v q => UItem m o w wd nv q v) h vs (List.range j)) (b:UItem m o w wd nv j v):Each (fun zz v q => UItem m o w wd nv q v) h' (vs ++ [v]) (List.range (j + 1)):=by
 rw [List.range_succ]
 exact Each.snoc (R:=fun zz v q => UItem m o w wd nv q v) b (Each.imp (R:=fun zz v q => UItem m o w wd nv q v) (fun zz zz z => z) a)
theorem uitem4 {m o w wd:Int} {nv:Value} {h:Heap} {acc:Array Value} (a:Each (fun zz v q => UItem m o w wd nv q v) h acc.toList (List.range 4)):∃ t0 t1 t3,acc = #[.int (if m = 0 then (o + 1).fmod 6 else o) t0,.int (if m = 1 then (w + 1).fmod 3 else w) t1,nv,.int (if m < 2 then wd else (wd + 1).fmod 6) t3]:=by
 obtain ⟨_,_,_,_,rfl⟩:=arr4 a.length
 obtain ⟨⟨t0,rfl⟩,⟨t1,rfl⟩,e2,⟨t3,rfl⟩,_⟩:=a
 cases e2
 exact ⟨t0,t1,t3,rfl⟩
inductive JD (γ:Cfg) (n:Addr) (fr:Heap) (T R X Y HD:Addr) (o5 o6:Obj) (mu:List (Addr × Obj)) (h:Heap) (l':List (Str × Value)) (mu':List (Addr × Obj)):Prop
 | mk (o2 o3 o4:Obj) (r:List (Str × Value)):mu' = (n + 2,o2) :: (n + 3,o3) :: (n + 4,o4) :: (n + 5,o5) :: (n + 6,o6) :: mu → CellLike o2 → CellLike o3 → CellLike o4 → l' = (Str.ofString "told", .ref T) :: (Str.ofString "rows", .ref R) :: (Str.ofString "clauses", .ref X) :: (Str.ofString "again", .ref Y) :: (Str.ofString "held", .ref HD) :: r → Grows (gg γ).tabs fr h → JD γ n fr T R X Y HD o5 o6 mu h l' mu'
theorem law_D (hE':StE γ):StD γ:=by
 intro A body rest scope qual cdv s₀ s fz₀ fz L n Q E l mu o2 o3 o4 o5 o6 v6 T R X Y HD VD LD rv hv vv lv xs x0 x1 x2 x3 y0 y1 y2 y3 l0 l1 l2 l3 n0 n1 n2 n3 z u0 u1 u2 u3 u4 go S hc2 hc3 hc4 hc5 d6 hT hcL hLD hLe hcV hVD hVl hHD hHE hR hE hxs hlen hX hY px0 px1 px2 px3 py0 py1 py2 py3 ok0 ok1 ok2 ok3
 have go2:=go
 have inv0:=S.inv
 obtain ⟨hat,hr,hh,hd,hu,done⟩:=go
 refine' hat.use ?hk ?go
 (case hk => (with_reducible show (mk.heap_1 _).lookup _ = _);k_is)
 rintro rfl rfl rfl rfl
 subst hr
 clear hat
 show wpAny _ _ (execs (_ :: _) _) _ _ _
 walk_at "M inA"
 refine x_cut fun N hN hR' => ?_
 repeat' walk1
 rename_i sr fr r1 Gr Sr hRr sc I1 own1 SC it1 sf1
 have hlv:lv.length = 4:=hLe.each.length
 refine' ⟨_,_,_,_,_,(n + 2,o2) :: (n + 3,o3) :: (n + 4,o4) :: (n + 5,o5) :: (n + 6,o6) :: mu,_,fun i h l' mu' => JD γ n fr T R X Y HD o5 o6 mu h l' mu',rfl,SC,it1 _ _,⟨o2,o3,o4,_,rfl,hc2,hc3,hc4,rfl,Grows.refl _ _⟩,ForStep.of ?stg,?fing⟩
 (case stg =>
   intro i v s2 fz0 fz2 l2' own2 mu2 E' hi hJ gr2 hP S2
   obtain ⟨o2,o3,o4,r,rfl,hc2,hc3,hc4,rfl,hG⟩:=hJ
   obtain ⟨ti,rfl⟩:=hP
   obtain ⟨lk,xk,yk,vk,okk,hXk,hYk,hLk,pxk,pyk,pvk⟩:=turn4 hLe px0 px1 px2 px3 py0 py1 py2 py3 ok0 ok1 ok2 ok3 (i:=i) hi
   have G2:Grows (gg γ).tabs fz fz2:=Gr.trans (hG.trans gr2)
   have hG2:=hG.trans gr2
   have hi4:(i:Int) < 4:=by have:i < 4:=hi;lia
   obtain ⟨e1,e2,e3⟩:=same_facts okk
   have oc:=clL_ok (N:=7) okk (by decide)
   have dc:=dep_leaf lk
   have wc:=wt_leaf lk
   dsimp only [List.cons_append] at S2
   walk1
   walk1
   rename_i s3 S3
   walk_at "M inA"
   refine x_cut fun N hN hR' => ?_
   have oc7:=oc
   generalize hck:clL lk = ck at *
   repeat' walk1
   rename_i a1 b1 ga Sa a2 b2 gb Sb r4 s4 f4 G4 S4 p4 r5 s5 f5 G5 S5 p5 s6 f6 G6 S6 r7 s7 f7 G7 S7 p7 r8 s8 f8 G8 S8 p8 s9 f9 G9 S9
   have GA:Grows (gg γ).tabs fz2 f9:=by walk_at "M chain"
   have GB:Grows (gg γ).tabs fz f9:=Grows.trans G2 GA
   refine hN _ ?_
   clear hN hR' N S2 S3 Sa Sb S4 S5 S6 S7 S8 ga gb G4 G5 G6 G7 G8 G9 p4 p5 p7 p8
   have fin:∀ (s':Shared) fz' pre o3' o4',Grows (gg γ).tabs f9 fz' → CellLike o3' → CellLike o4' → (∀ p ∈ [(Str.ofString "told", Value.ref T),(Str.ofString "rows", .ref R),(Str.ofString "clauses", .ref X),(Str.ofString "again", .ref Y),(Str.ofString "held", .ref HD)],List.lookup p.1 pre = some p.2) →
       St (gg γ) s₀ fz₀ s'.heap s'.gens s'.os fz' L pre ((n + 2,setC o2 (.int i ti)) :: (n + 3,o3') :: (n + 4,o4') :: (n + 5,o5) :: (n + 6,o6) :: (mu ++ own2)) → FNext (gg γ) s₀ fz₀ L own2 (fun h l' mu' => JD γ n fr T R X Y HD o5 o6 mu h l' mu') Q fz2 .next s':=fun s' fz' pre o3' o4' g h3 h4 hp S' => by
     have S1:=S'.base _ hp
     exact FNext.next (mu':=(n + 2,setC o2 (.int i ti)) :: (n + 3,o3') :: (n + 4,o4') :: (n + 5,o5) :: (n + 6,o6) :: mu) (GA.trans g) S1 ⟨_,_,_,_,rfl,CellLike.set _ _,h3,h4,rfl,(hG2.trans GA).trans g⟩
   cases lk with
   | one j =>
     obtain ⟨t1,u1,rfl,q1⟩:=pvk
     repeat' walk1
     refine' fin _ _ _ _ _ (Grows.refl _ _) hc3 hc4 ?hpp ?hss
     (case hss => exact S9)
     (case hpp =>
       simp only [List.forall_mem_cons]
       exact ⟨rfl,rfl,rfl,rfl,rfl,fun zz h => nomatch h⟩)
   | rng o w nn wd =>
     obtain ⟨t1,q1,q2,q3,nv,rfl,qt,qn⟩:=pvk
     refine x_cut fun N hN hR' => ?_
     refine x_ifcut fun B hBt hBf => ?_
     repeat' walk1
     show B true _
     refine hBt _ ?_
     clear hBt hBf B
     refine x_cut fun N2 hN2 hR2 => ?_
     repeat' walk1
     rename_i sa Da Sa sb Sb
     obtain ⟨fz1,gr1,S1,hO⟩:=Sb.fixL
     clear Sa Sb S9
     refine hN2 _ ?_
     clear hN2 hR2 N2
     refine x_cut fun N2 hN2 hR2 => ?_
     have JT:∀ s' tt,St (gg γ) s₀ fz₀ s'.heap s'.gens s'.os fz1 L ((Str.ofString "told", .ref T) :: (Str.ofString "rows", .ref R) :: (Str.ofString "clauses", .ref X) :: (Str.ofString "again", .ref Y) :: (Str.ofString "held", .ref HD) :: r) ((n + 2,setC o2 (.int i ti)) :: (n + 3,setC o3 (.ref Da)) :: (n + 4,setC o4 (.int (if z.fmod 3 < 2 then z.fmod 3 else 3) tt)) :: (n + 5,o5) :: (n + 6,o6) :: (mu ++ own2)) → N2 .next s':=fun s10 tt S10 => by
       refine hN2 _ ?_
       clear hN2 hR2 N2 S1
       have hm:z.fmod 3 = 0 ∨ z.fmod 3 = 1 ∨ z.fmod 3 = 2:=by
         have h0:=Int.fmod_nonneg_of_pos z (b:=3) (by lia)
         have h3:=Int.fmod_lt_of_pos z (b:=3) (by lia)
         lia
       have hth:∀ (a0 a1 a3:Tok) {j:Nat},j < 4 → _:=fun a0 a1 a3 {j} hj => uitem o w wd nv a0 a1 a3 q1 q2 q3 hm (j:=j) hj
       generalize (if z.fmod 3 < 2 then z.fmod 3 else 3) = th at S10 hth
       have GD:=Grows.trans GB gr1
       refine x_cut fun N2 hN2 hR2 => ?_
       repeat' walk1
       rename_i sr2 fr2 r2 Gr2 Sr2 hRr2 sc2 I2 own3 SC2 it2 sf2
       clear Sr2
       refine' ⟨_,_,_,_,_,_,_,fun j acc h => Each (fun zz v q => UItem (z.fmod 3) o w wd nv q v) h acc (List.range j) ∧ Grows (gg γ).tabs fr2 h,rfl,SC2,it2 _ _,sf2,⟨trivial,Grows.refl _ _⟩,?sz4,CompStep.mk0F ?st4,?fi4⟩
       (case sz4 => have:=sizeLine_eq;show 4 ≤ sizeLine;lia)
       (case st4 =>
         intro j v s5 fz5 fz6 C lC mu5 acc5 E5 hj hJ5 gr6 hP5 hF S6
         obtain ⟨tj,rfl⟩:=hP5
         have hj4:j < 4:=hj
         obtain ⟨va,vb,hxa,hxb,hya,hyb⟩:=hth _ _ _ hj4
         have hm2:(n + 2,setC o2 (.int i ti)) ∈ mu5:=hF _ (.head _)
         have hm3:(n + 3,setC o3 (.ref Da)) ∈ mu5:=hF _ (.tail _ (.head _))
         have hm4:(n + 4,setC o4 (.int th tt)) ∈ mu5:=hF _ (.tail _ (.tail _ (.head _)))
         have G6:=Grows.trans Gr2 (Grows.trans hJ5.2 gr6)
         have G7:=Grows.trans GD G6
         have hsq:seqIndex? (j:Int) (#[.int o q1,.int w q2,nv,.int wd q3]:Array Value).size = some j:=by
           show seqIndex? (j:Int) 4 = some j
           unfold seqIndex?;simp;lia
         have hsz:(j:Int) < 4:=by lia
         walk1
         walk1
         walk_at "M inE"
         repeat' walk1
         · refine' ⟨_,_,?ga4,?gb4,?gc4,Grows.trans hJ5.2 (Grows.trans gr6 ?gd4)⟩
           (case gb4 => assumption)
           (case ga4 => walk_at "M chain")
           (case gd4 => walk_at "M chain")
           (case gc4 => exact uitem_snoc hJ5.1 (hya (by assumption)))
         · refine' ⟨_,_,?ga5,?gb5,?gc5,Grows.trans hJ5.2 (Grows.trans gr6 ?gd5)⟩
           (case gb5 => assumption)
           (case ga5 => walk_at "M chain")
           (case gd5 => walk_at "M chain")
           (case gc5 => exact uitem_snoc hJ5.1 (hyb (by assumption))))
       intro s7 fz7 P7 c7 acc7 gr7 S7 hJ7 hz7 S8
       obtain ⟨fz8,gr8,S9,hP8⟩:=S8.fixL
       obtain ⟨t0,t1',t3,rfl⟩:=uitem4 hJ7.1
       clear S7 S8 hJ7 hz7
       have G9:=Grows.trans Gr2 (Grows.trans gr7 gr8)
       repeat' walk1
       rename_i s11 f11 t11 G11 S11 T11
       have GE:Grows (gg γ).tabs fz f11:=Grows.trans GD (Grows.trans G9 G11)
       have pU:IsLeaf f11 (.ref t11) (unlikeL z (.rng o w nn wd)):=⟨_,_,_,_,_,rfl,T11,qn.grows GE⟩
       have okU:=unlike_ok (z:=z) okk
       have hU:=unlike_facts (unlike_of (z:=z) okk)
       have dU:=dep_leaf (unlikeL z (.rng o w nn wd))
       have wU:=wt_leaf (unlikeL z (.rng o w nn wd))
       repeat' walk1
       rename_i r12 s12 f12 G12 S12 p12 s13 S13
       clear S9 S11 S12 T11
       have GF:Grows (gg γ).tabs f9 f12:=Grows.trans gr1 (Grows.trans G9 (Grows.trans G11 G12))
       have GG:Grows (gg γ).tabs fz f12:=Grows.trans GE G12
       refine hN2 _ ?_
       clear hN2 hR2 N2 pU GE GD G9 G11 G12
       rw [hck] at hU
       generalize clL (unlikeL z (.rng o w nn wd)) = cu at hU dU wU p12
       obtain ⟨h1,h2,h3,h4,h5,h6⟩:=hU
       have w1:(Cl.all (ded 7 [ck,ck])).wt ≤ 900:=Nat.le_trans (wA (k:=2) (by simp only [wtL];lia)) (by decide)
       have w2:(Cl.any (ded 7 [ck,ck])).wt ≤ 900:=Nat.le_trans (wY (k:=2) (by simp only [wtL];lia)) (by decide)
       have w3:(Cl.all (ded 7 [.all (ded 7 [ck,.always,cu]),ck])).wt ≤ 900:=by
         have a:=wA (cs:=[ck,.always,cu]) (k:=3) (by simp only [wtL,Cl.wt];lia)
         exact Nat.le_trans (wA (k:=5) (by simp only [wtL];lia)) (by decide)
       have w4:(Cl.any (ded 7 [.any (ded 7 [cu,.never,ck]),ck])).wt ≤ 900:=by
         have a:=wY (cs:=[cu,.never,ck]) (k:=3) (by simp only [wtL,Cl.wt];lia)
         exact Nat.le_trans (wY (k:=5) (by simp only [wtL];lia)) (by decide)
       refine x_cut fun N2 hN2 hR2 => ?_
       repeat' walk1
       rename_i a1 b1 ga Sa a2 b2 gb Sb r4 s4 f4 G4 S4 p4 r5 s5 f5 G5 S5 p5 s6 f6 G6 S6 r7 s7 f7 G7 S7 p7 r8 s8 f8 G8 S8 p8 s9 f9' G9 S9
       have GH:Grows (gg γ).tabs f12 f9':=by walk_at "M chain"
       refine hN2 _ ?_
       clear hN2 hR2 N2 S13 Sa Sb S4 S5 S6 S7 S8 ga gb G4 G5 G6 G7 G8 G9 p4 p5 p7 p8
       have GI:=Grows.trans GG GH
       refine x_cut fun N2 hN2 hR2 => ?_
       repeat' walk1
       refine hN2 _ (wpAny_execs_nil (hN _ (wpAny_execs_nil ?_)))
       refine' fin _ _ _ _ _ ?hgg (CellLike.set _ _) (CellLike.set _ _) ?hpp2 ?hss2
       (case hss2 => assumption)
       (case hgg => exact Grows.trans (Grows.trans GF GH) (by walk_at "M chain"))
       (case hpp2 =>
         simp only [List.forall_mem_cons]
         exact ⟨rfl,rfl,rfl,rfl,rfl,fun zz h => nomatch h⟩)
     clear hN2
     by_cases hz:z.fmod 3 < 2
     · rw [if_pos hz] at JT
       repeat' walk1
       exact JT _ _ (by assumption)
     · rw [if_neg hz] at JT
       repeat' walk1
       exact JT _ _ (by assumption))
 intro s5 fz5 l5 mu5 hJ5 S5
 obtain ⟨o2,o3,o4,r,rfl,_,_,_,rfl,hGr⟩:=hJ5
 have G7:Grows (gg γ).tabs fz fz5:=Grows.trans Gr hGr
 refine hN _ ?_
 exact hE' A _ _ _ _ _ s₀ _ fz₀ fz5 L n Q E _ _ o5 o6 v6 T R X Y HD VD rv hv vv xs x0 x1 x2 x3 y0 y1 y2 y3 l0 l1 l2 l3 n0 n1 n2 n3 z u0 u1 u2 u3 u4 (go2.to rfl) S5.drop1.drop1.drop1 hc5 d6 (isList_grows hT G7) (cell_up hcV inv0 G7) (isList_grows hVD G7) hVl (isList_grows hHD G7) (hHE.imp (BoolsR.up G7)) (isList_grows hR G7) (hE.imp (RowR.up G7)) hxs hlen (isList_grows hX G7) (isList_grows hY G7) (px0.up G7) (px1.up G7) (px2.up G7) (px3.up G7) (py0.up G7) (py1.up G7) (py2.up G7) (py3.up G7) ok0 ok1 ok2 ok3
end
section
set_option tactic.hygienic true
variable {γ:Cfg}
noncomputable def StC (γ:Cfg):Prop:=∀ (A:Around) (body rest:List Stmt) (scope:Scope) (qual:Str) (cdv:Value) (s₀ s:Shared) (fz₀ fz:Heap) (L n:Addr) (Q:Flow → Shared → Prop) (E:Value → Shared → Prop) (l:List (Str × Value)) (mu:List (Addr × Obj)) (o2 o3 o4 o5 o6:Obj) (v6:Option Value) (T VD LD:Addr) (vv lv:List Value) (xs:List Vn) (l0 l1 l2 l3:Leaf) (n0 n1 n2 n3 z:Int) (u0 u1 u2 u3 u4:Tok),
 LGo γ 4 A body rest scope qual cdv s₀ fz₀ L Q → St (gg γ) s₀ fz₀ s.heap s.gens s.os fz L ((Str.ofString "told", .ref T) :: l) ((n + 2,o2) :: (n + 3,o3) :: (n + 4,o4) :: (n + 5,o5) :: (n + 6,o6) :: mu) → CellLike o2 → CellLike o3 → CellLike o4 → CellLike o5 → o6.data = .cell v6 →
 fz.IsList T #[.int n0 u0,.int n1 u1,.int n2 u2,.int n3 u3,.int z u4] → fz.IsCell n (some (.ref LD)) → fz.IsList LD lv.toArray → LeavesAre fz lv [l0,l1,l2,l3] →
 fz.IsCell (n + 1) (some (.ref VD)) → fz.IsList VD vv.toArray → Each VnR fz vv xs → (∀ x ∈ xs,VnOk x) → xs.length ≤ 5 →
 l0.ok → l1.ok → l2.ok → l3.ok →
 wpAny (model (gg γ).prog (gg γ).w) A (execs rest (envX qual scope L 922 cdv (csL n))) Q E s
theorem law_C (hD':StD γ):StC γ:=by
 w_top off
 intro A body rest scope qual cdv s₀ s fz₀ fz L n Q E l mu o2 o3 o4 o5 o6 v6 T VD LD vv lv xs l0 l1 l2 l3 n0 n1 n2 n3 z u0 u1 u2 u3 u4 go S hc2 hc3 hc4 hc5 d6 hT hcL hLD hLe hcV hVD hVs hxs hlen ok0 ok1 ok2 ok3
 have go2:=go
 have inv0:=S.inv
 obtain ⟨hat,hr,hh,hd,hu,done⟩:=go
 refine' hat.use ?hk ?go
 (case hk => (with_reducible show (mk.heap_1 _).lookup _ = _);k_is)
 rintro rfl rfl rfl rfl
 subst hr
 clear hat
 have hVl:=hVs.length
 have hLs:=hLe.each
 have hok:∀ lf ∈ [l0,l1,l2,l3],lf.ok:=by
   simp only [List.forall_mem_cons]
   exact ⟨ok0,ok1,ok2,ok3,fun zz h => nomatch h⟩
 show wpAny _ _ (execs (_ :: _ :: _ :: _) _) _ _ _
 walk_at "M inA"
 refine x_cut fun N hN hR' => ?_
 repeat' walk1
 rename_i sc I1 oI1 SC it1 sf1
 refine' ⟨_,_,_,_,_,_,_,fun i acc h => Each RowR h acc (xs.take i) ∧ Grows (gg γ).tabs fz h,rfl,SC,it1 _,sf1,⟨trivial,Grows.refl _ _⟩,?sz1,CompStep.mk0 ?st1,?fi1⟩
 (case sz1 => have:=sizeLine_eq;simp only [List.size_toArray];lia)
 (case st1 =>
   intro i v s2 fz0 fz2 C lC mu2 acc E' hi hJ gr2 hP S2
   obtain ⟨x,hx,px⟩:=hVs.get (by simpa using hP)
   have ox:=hxs x (List.mem_of_getElem? hx)
   obtain ⟨nn,wd⟩:=x
   obtain ⟨t,nv,t1,rfl,ht,hn⟩:=px
   have G2:=Grows.trans hJ.2 gr2
   walk1
   walk1
   repeat' walk1
   refine' ⟨_,_,?ga1,?gb1,?gc1,Grows.trans hJ.2 (Grows.trans gr2 ?gd1)⟩
   (case gb1 => assumption)
   (case ga1 => walk_at "M chain")
   (case gd1 => walk_at "M chain")
   (case gc1 => exact Each.next (RowR.up (Grows.trans gr2 (by walk_at "M chain"))) hJ.1 hx (by with_reducible assumption)))
 intro s5 fz5 D5 c5 acc5 gr5 S5 hJ5 hz5 s6 S6
 obtain ⟨fz6,gr6,S7,hR⟩:=S6.fixL
 have hE:Each RowR fz6 acc5.toList xs:=by
   have:=hJ5.1
   rw [List.size_toArray,hVl,List.take_length] at this
   exact this.imp (RowR.up gr6)
 have GX2:=Grows.trans gr5 gr6
 clear S S5 S6 hJ5 SC it1 sf1
 refine hN _ ?_
 clear hN hR' N
 refine x_cut fun N hN hR' => ?_
 repeat' walk1
 rename_i sc2 I2 oI2 SC2 it2 sf2
 refine' ⟨_,_,_,_,_,_,_,fun i acc h => Each ClsR h acc ([l0,l1,l2,l3].take i) ∧ Grows (gg γ).tabs fz6 h,rfl,SC2,it2 _,sf2,⟨trivial,Grows.refl _ _⟩,?sz2,CompStep.mk0 ?st2,?fi2⟩
 (case sz2 => have:=sizeLine_eq;have:=hLs.length;simp only [List.size_toArray,List.length_cons,List.length_nil] at *;lia)
 (case st2 =>
   intro i v s2 fz0 fz2 C lC mu2 acc E' hi hJ gr2 hP S2
   obtain ⟨lf,hx,pl⟩:=hLs.get (by simpa using hP)
   have okl:=hok lf (List.mem_of_getElem? hx)
   have G2:=Grows.trans GX2 (Grows.trans hJ.2 gr2)
   walk1
   walk1
   walk_at "M inE"
   repeat' walk1
   rename_i r3 s3 f3 G3 S3 p3
   have p4:ClsR f3 (.ref r3) lf:=⟨_,rfl,p3⟩
   refine' ⟨_,_,?ga2,?gb2,?gc2,Grows.trans hJ.2 (Grows.trans gr2 ?gd2)⟩
   (case gb2 => assumption)
   (case ga2 => walk_at "M chain")
   (case gd2 => walk_at "M chain")
   (case gc2 => exact Each.next (ClsR.up (Grows.trans gr2 (by walk_at "M chain"))) hJ.1 hx (by with_reducible assumption)))
 intro s8 fz8 D8 c8 acc8 gr8 S8 hJ8 hz8 S9
 obtain ⟨fz9,gr9,S10,hX⟩:=S9.fixL
 obtain ⟨x0,x1,x2,x3,rfl,px0,px1,px2,px3⟩:=each4 (by
   have:=hJ8.1
   rw [List.size_toArray,hLs.length] at this
   exact this)
 have GX3:=Grows.trans GX2 (Grows.trans gr8 gr9)
 clear S7 S8 S9 hJ8 SC2 it2 sf2
 repeat' walk1
 rename_i sc3 I3 oI3 SC3 it3 sf3
 refine' ⟨_,_,_,_,_,_,_,fun i acc h => Each ClsR h acc ([l0,l1,l2,l3].take i) ∧ Grows (gg γ).tabs fz9 h,rfl,SC3,it3 _,sf3,⟨trivial,Grows.refl _ _⟩,?sz3,CompStep.mk0 ?st3,?fi3⟩
 (case sz3 => have:=sizeLine_eq;have:=hLs.length;simp only [List.size_toArray,List.length_cons,List.length_nil] at *;lia)
 (case st3 =>
   intro i v s2 fz0 fz2 C lC mu2 acc E' hi hJ gr2 hP S2
   obtain ⟨lf,hx,pl⟩:=hLs.get (by simpa using hP)
   have okl:=hok lf (List.mem_of_getElem? hx)
   have G2:=Grows.trans GX3 (Grows.trans hJ.2 gr2)
   walk1
   walk1
   walk_at "M inE"
   repeat' walk1
   rename_i r3 s3 f3 G3 S3 p3
   have p4:ClsR f3 (.ref r3) lf:=⟨_,rfl,p3⟩
   refine' ⟨_,_,?ga3,?gb3,?gc3,Grows.trans hJ.2 (Grows.trans gr2 ?gd3)⟩
   (case gb3 => assumption)
   (case ga3 => walk_at "M chain")
   (case gd3 => walk_at "M chain")
   (case gc3 => exact Each.next (ClsR.up (Grows.trans gr2 (by walk_at "M chain"))) hJ.1 hx (by with_reducible assumption)))
 intro s10 fz10 D10 c10 acc10 gr10 S11 hJ10 hz10 S12
 obtain ⟨fz12,gr12,S13,hY⟩:=S12.fixL
 obtain ⟨y0,y1,y2,y3,rfl,py0,py1,py2,py3⟩:=each4 (by
   have:=hJ10.1
   rw [List.size_toArray,hLs.length] at this
   exact this)
 have GX4:=Grows.trans GX3 (Grows.trans gr10 gr12)
 clear S10 S11 S12 hJ10 SC3 it3 sf3
 repeat' walk1
 rename_i s14 f14 t14 G14 S14 T14 s15 S15 s16 S16 s17 S17
 have GX5:=Grows.trans GX4 G14
 clear S13 S14 S15 S16
 refine hN _ ?_
 clear hN hR' N
 refine x_cut fun N hN hR' => ?_
 repeat' walk1
 rename_i sc5 I5 oI5 SC5 it5 sf5
 refine' ⟨_,_,_,_,_,_,_,fun i acc h => Each BoolsR h acc (([l0,l1,l2,l3].map fun lf => xs.map (heldL lf)).take i) ∧ Grows (gg γ).tabs f14 h,rfl,SC5,it5 _,sf5,⟨trivial,Grows.refl _ _⟩,?sz5,fun cc => CompStepM.mk0 ?st5,?fi5⟩
 (case sz5 => have:=sizeLine_eq;have:=hLs.length;simp only [List.size_toArray,List.length_cons,List.length_nil] at *;lia)
 (case st5 =>
   intro i v s2 fz0 fz2 C lC mus rest acc E' hi hJ gr2 hP hMU hF S2
   obtain ⟨oc,hoc,rfl⟩:=hMU
   obtain ⟨lf,hx,pl⟩:=hLs.get (by simpa using hP)
   have okl:=hok lf (List.mem_of_getElem? hx)
   have G2:=Grows.trans GX5 (Grows.trans hJ.2 gr2)
   replace pl:=pl.up G2
   dsimp only [List.cons_append,List.nil_append] at S2
   walk1
   walk1
   repeat' walk1
   rename_i s3 S3 sc6 I6 oI6 SC6 it6 sf6
   refine' ⟨_,_,_,_,_,_,_,fun i acc h => acc = (xs.map fun x => Value.bool (heldL lf x)).take i ∧ Grows (gg γ).tabs fz2 h,rfl,SC6,it6 _,sf6,⟨rfl,Grows.refl _ _⟩,?sz6,CompStep.mk0F ?st6,?fi6⟩
   (case sz6 => have:=sizeLine_eq;simp only [List.size_toArray];lia)
   (case st6 =>
     intro j u s4 fz3 fz4 C2 lC2 mu2 acc2 E2 hj hJ2 gr4 hP2 hF2 S4
     obtain ⟨x,hx2,px⟩:=hVs.get (by simpa using hP2)
     have ox:=hxs x (List.mem_of_getElem? hx2)
     have G4:=Grows.trans hJ2.2 gr4
     replace px:=vnUp px (Grows.trans G2 G4)
     have pl4:IsLeaf fz4 v lf:=pl.up G4
     have hm:(cc,setC oc v) ∈ mu2:=hF2 _ (.head _)
     cases lf with
     | one j' =>
       obtain ⟨t,t1,rfl,q⟩:=pl4
       have hone:=one_item okl.1 okl.2 x
       have h0:=okl.1
       have h4:=okl.2
       walk1
       walk1
       walk_at "M inE"
       repeat' walk1
       refine' ⟨_,_,?ga7,St.drop1 ?gb7,takeN (f:=fun x => Value.bool (heldL _ x)) hx2 hJ2.1,Grows.trans G4 ?gd7⟩
       (case gb7 => assumption)
       (case ga7 => walk_at "M chain")
       (case gd7 => walk_at "M chain")
     | rng o w nn wd =>
       have pl5:=pl4
       obtain ⟨t,q1,q2,q3,nv,rfl,qt,qn⟩:=pl4
       walk1
       walk1
       walk_at "M inE"
       repeat' walk1
       refine' ⟨_,_,?ga8,?gb8,takeN (f:=fun x => Value.bool (heldL _ x)) hx2 hJ2.1,Grows.trans G4 ?gd8⟩
       (case gb8 => assumption)
       (case ga8 => walk_at "M chain")
       (case gd8 => walk_at "M chain"))
   intro s7 fz7 D7 c7 acc7 gr7 S7 hJ7 hz7 S8
   obtain ⟨fz8,gr8,S9,hB⟩:=S8.fixL
   obtain rfl:=takeA hJ7.1 (by simpa using hVl)
   replace hB:fz8.IsList D7 ((xs.map (heldL lf)).map Value.bool).toArray:=by rw [List.map_map];exact hB
   have G8:=Grows.trans gr7 gr8
   exact ⟨_,_,[(cc,setC oc v)],G8,⟨_,CellLike.set _ _,rfl⟩,S9,Each.next (BoolsR.up (Grows.trans gr2 G8)) hJ.1 (by rw [List.getElem?_map,hx];rfl) ⟨D7,rfl,hB⟩,Grows.trans hJ.2 (Grows.trans gr2 G8)⟩)
 intro s18 fz18 D18 c18 acc18 gr18 S18 hJ18 hz18 s19 S19
 obtain ⟨fz20,gr20,S20,hHD⟩:=S19.fixL
 have hHE:Each BoolsR fz20 acc18.toList ([l0,l1,l2,l3].map fun lf => xs.map (heldL lf)):=by
   have:=hJ18.1
   rw [List.size_toArray,hLs.length] at this
   exact this.imp (BoolsR.up gr20)
 have G20:=Grows.trans gr18 gr20
 have g14:=Grows.trans G14 G20
 have g12:=Grows.trans (Grows.trans gr10 gr12) g14
 have g9:=Grows.trans (Grows.trans gr8 gr9) g12
 have g0:=Grows.trans (Grows.trans gr5 gr6) g9
 clear S18 S19 hJ18
 refine hN _ ?_
 have S21:=S20.base [(Str.ofString "told", .ref T),(Str.ofString "rows", .ref D5),(Str.ofString "clauses", .ref D8),(Str.ofString "again", .ref D10),(Str.ofString "held", .ref D18)] (by
   simp only [List.forall_mem_cons]
   exact ⟨rfl,rfl,rfl,rfl,rfl,fun zz h => nomatch h⟩)
 exact hD' A _ _ _ _ _ s₀ _ fz₀ fz20 L n Q E _ _ o2 o3 o4 o5 o6 v6 T D5 D8 D10 D18 VD LD acc5.toList acc18.toList vv lv xs x0 x1 x2 x3 y0 y1 y2 y3 l0 l1 l2 l3 n0 n1 n2 n3 z u0 u1 u2 u3 u4 (go2.to rfl) S21 hc2 hc3 hc4 hc5 d6 (isList_grows hT g0) (cell_up hcL inv0 g0) (isList_grows hLD g0) (LeavesAre.grows g0 hLe) (cell_up hcV inv0 g0) (isList_grows hVD g0) hVl hHD hHE (isList_grows hR g9) (hE.imp (RowR.up g9)) hxs hlen (isList_grows hX g12) (isList_grows hY g14) (px0.up (gr9.trans g12)) (px1.up (gr9.trans g12)) (px2.up (gr9.trans g12)) (px3.up (gr9.trans g12)) (py0.up (gr12.trans g14)) (py1.up (gr12.trans g14)) (py2.up (gr12.trans g14)) (py3.up (gr12.trans g14)) ok0 ok1 ok2 ok3
end
section
set_option tactic.hygienic true
variable {γ:Cfg}
noncomputable def StB (γ:Cfg):Prop:=∀ (A:Around) (body rest:List Stmt) (scope:Scope) (qual:Str) (cdv:Value) (s₀ s:Shared) (fz₀ fz:Heap) (L n:Addr) (Q:Flow → Shared → Prop) (E:Value → Shared → Prop) (l:List (Str × Value)) (mu:List (Addr × Obj)) (o1 o2 o3 o4 o5 o6:Obj) (v1 v6:Option Value) (T LD:Addr) (lv:List Value) (l0 l1 l2 l3:Leaf) (n0 n1 n2 n3 z:Int) (u0 u1 u2 u3 u4:Tok),
 LGo γ 2 A body rest scope qual cdv s₀ fz₀ L Q → St (gg γ) s₀ fz₀ s.heap s.gens s.os fz L ((Str.ofString "told", .ref T) :: l) ((n + 1,o1) :: (n + 2,o2) :: (n + 3,o3) :: (n + 4,o4) :: (n + 5,o5) :: (n + 6,o6) :: mu) → o1.data = .cell v1 → CellLike o2 → CellLike o3 → CellLike o4 → CellLike o5 → o6.data = .cell v6 →
 fz.IsList T #[.int n0 u0,.int n1 u1,.int n2 u2,.int n3 u3,.int z u4] → fz.IsCell n (some (.ref LD)) → fz.IsList LD lv.toArray → LeavesAre fz lv [l0,l1,l2,l3] →
 l0.ok → l1.ok → l2.ok → l3.ok →
 wpAny (model (gg γ).prog (gg γ).w) A (execs rest (envX qual scope L 922 cdv (csL n))) Q E s
inductive JB (γ:Cfg) (n:Addr) (fr:Heap) (Da T:Addr) (o2 o3 o4 o5 o6:Obj) (mu:List (Addr × Obj)) (vs:List Vn) (h:Heap) (l':List (Str × Value)) (mu':List (Addr × Obj)):Prop
 | mk (acc:Array Value) (c:Nat) (r:List (Str × Value)):mu' = (Da,accObj acc c) :: (n + 2,o2) :: (n + 3,o3) :: (n + 4,o4) :: (n + 5,o5) :: (n + 6,o6) :: mu → l' = (Str.ofString "told", .ref T) :: r → Each VnR h acc.toList vs → Grows (gg γ).tabs fr h → JB γ n fr Da T o2 o3 o4 o5 o6 mu vs h l' mu'
theorem law_B (hC':StC γ):StB γ:=by
 w_top off
 intro A body rest scope qual cdv s₀ s fz₀ fz L n Q E l mu o1 o2 o3 o4 o5 o6 v1 v6 T LD lv l0 l1 l2 l3 n0 n1 n2 n3 z u0 u1 u2 u3 u4 go S d1 hc2 hc3 hc4 hc5 d6 hT hcL hLD hLe ok0 ok1 ok2 ok3
 have go2:=go
 have inv0:=S.inv
 obtain ⟨hat,hr,hh,hd,hu,done⟩:=go
 refine' hat.use ?hk ?go
 (case hk => (with_reducible show (mk.heap_1 _).lookup _ = _);k_is)
 rintro rfl rfl rfl rfl
 subst hr
 clear hat
 have hLs:=hLe.each
 have hlv:lv.toArray.size ≤ 100000:=by rw [List.size_toArray,hLs.length];show 4 ≤ 100000;decide
 show wpAny _ _ (execs (_ :: _ :: _) _) _ _ _
 walk_at "M inA"
 refine x_cut fun N hN hR' => ?_
 repeat' walk1
 rename_i a1 b1 t1 g1 S1 T1 a2 b2 t2 g2 S2 T2 a3 Da S3 a4 f4 g4 C4 S4
 have pv0:VnR f4 (.ref t2) ((0,0,0),(z.fdiv 64).fmod 6):=⟨t2,.ref t1,_,rfl,isTup_grows T2 g4,⟨t1,_,_,_,rfl,isTup_grows T1 (g2.trans g4)⟩⟩
 have G4:=g1.trans (g2.trans g4)
 clear S1 S2 S3 T1 T2
 dsimp only [List.eraseIdx_cons_zero,List.eraseIdx_cons_succ] at S4
 refine hN _ ?_
 clear hN hR' N
 refine x_cut fun N hN hR' => ?_
 repeat' walk1
 rename_i a5 b5 sl5 g5 S5 sp5 a6 f6 D6 g6 S6 F6 a7 I7 oI7 SC7 it7 sf7
 obtain ⟨v0,v1',v2,v3,rfl,pl0,pl1,_⟩:=leaves4 hLe
 rw [told2] at F6 it7
 have g7:=g5.trans g6
 have G7:=G4.trans g7
 refine' ⟨_,_,_,_,_,_,_,fun i h l' mu' => JB γ n f6 Da T o2 o3 o4 o5 o6 mu (versL z ([l0,l1].take i)) h l' mu',rfl,SC7,it7 _,⟨_,0,_,rfl,rfl,⟨VnR.up g7 _ _ pv0,trivial⟩,Grows.refl _ _⟩,ForStep.of ?stg,?fing⟩
 (case stg =>
   intro i v s2 fz0 fz2 l2' own2 mu2 E' hi hJ gr2 hP S2
   obtain ⟨acc,c,r,rfl,rfl,hacc,hG⟩:=hJ
   obtain ⟨lf,hlf,pl,okl⟩:=turn2 pl0 pl1 ok0 ok1 hP
   have G2:Grows (gg γ).tabs fz fz2:=G7.trans (hG.trans gr2)
   have hG2:=hG.trans gr2
   have hT2:=isList_grows hT G2
   have hC2:=cell_up C4 S4.inv (g7.trans hG2)
   have pl2:IsLeaf fz2 v lf:=pl.up G2
   have hsz:acc.size ≤ 5:=by
     have:=hacc.length
     rw [Array.length_toList] at this
     have h2:=versL_len (z:=z) (ls:=[l0,l1].take i)
     rw [List.length_take] at h2
     simp only [List.length_cons,List.length_nil] at h2
     lia
   have htk:[l0,l1].take (i + 1) = [l0,l1].take i ++ [lf]:=by rw [List.take_add_one,hlf];rfl
   have hacc2:=hacc.imp (VnR.up gr2)
   dsimp only [List.cons_append] at S2
   cases lf with
   | one j =>
     obtain ⟨t,t1,rfl,q⟩:=pl2
     walk1
     walk1
     walk_at "M inA"
     repeat' walk1
     rename_i S9 _ _ _ _ _
     refine FNext.next (mu':=(Da,accObj acc c) :: (n + 2,o2) :: (n + 3,o3) :: (n + 4,o4) :: (n + 5,o5) :: (n + 6,o6) :: mu) (Grows.refl _ _) (S9.front (x:=Str.ofString "told") rfl) ⟨acc,c,_,rfl,rfl,?_,hG2⟩
     rw [htk,versL_one]
     exact hacc2
   | rng o w nn wd =>
     obtain ⟨t,q1,q2,q3,nv,rfl,qt,qn⟩:=pl2
     have pst:∀ {f9 t9 X u9 c9} {s9:Shared},Grows (gg γ).tabs fz2 f9 → IsTup f9 t9 #[nv,.int X u9] → (if wd = 0 then 1 + (z.fdiv 384).fmod 5 else 0) = X → St (gg γ) s₀ fz₀ s9.heap s9.gens s9.os f9 L ((Str.ofString "leaf", .ref t) :: (Str.ofString "told", .ref T) :: r) ((Da,accObj (acc.push (.ref t9)) c9) :: (n + 2,o2) :: (n + 3,o3) :: (n + 4,o4) :: (n + 5,o5) :: (n + 6,o6) :: (mu ++ own2)) →
         FNext (gg γ) s₀ fz₀ L own2 (fun h l' mu' => JB γ n f6 Da T o2 o3 o4 o5 o6 mu (versL z ([l0,l1].take (i + 1))) h l' mu') N fz2 .next s9:=fun {f9 t9 X u9 c9 s9} g9 T9 hX S9 => by
       refine FNext.next (mu':=(Da,accObj (acc.push (.ref t9)) c9) :: (n + 2,o2) :: (n + 3,o3) :: (n + 4,o4) :: (n + 5,o5) :: (n + 6,o6) :: mu) g9 (S9.front (x:=Str.ofString "told") rfl) ⟨_,c9,_,rfl,rfl,?_,hG2.trans g9⟩
       rw [htk,versL_one,Array.toList_push]
       show Each VnR f9 (acc.toList ++ [.ref t9]) (versL z ([l0,l1].take i) ++ [(nn,if wd = 0 then 1 + (z.fdiv 384).fmod 5 else 0)])
       rw [hX]
       exact (hacc2.imp (VnR.up g9)).snoc ⟨t9,nv,u9,rfl,T9,qn.grows g9⟩
     by_cases hwd:wd = 0
     · rw [if_pos hwd] at pst
       walk1
       walk1
       walk_at "M inA"
       repeat' walk1
       rename_i s9 f9 t9 g9 S9 T9 s10 c10 S10
       exact pst g9 T9 rfl S10
     · rw [if_neg hwd] at pst
       walk1
       walk1
       walk_at "M inA"
       repeat' walk1
       rename_i s9 f9 t9 g9 S9 T9 s10 c10 S10
       exact pst g9 T9 rfl S10)
 intro s11 fz11 l11 mu11 hJ11 S11
 obtain ⟨acc,c,r,rfl,rfl,hacc,hGr⟩:=hJ11
 obtain ⟨fz12,g12,S12,hV⟩:=S11.fixL
 have h12:=hGr.trans g12
 have G12:=G7.trans h12
 have hok:∀ lf ∈ [l0,l1],lf.ok:=by
   simp only [List.forall_mem_cons]
   exact ⟨ok0,ok1,fun zz h => nomatch h⟩
 refine hN _ ?_
 exact hC' A _ _ _ _ _ s₀ _ fz₀ fz12 L n Q E _ _ o2 o3 o4 o5 o6 v6 T Da LD acc.toList [v0,v1',v2,v3] (versL z [l0,l1]) l0 l1 l2 l3 n0 n1 n2 n3 z u0 u1 u2 u3 u4 (go2.to rfl) S12 hc2 hc3 hc4 hc5 d6 (isList_grows hT G12) (cell_up hcL inv0 G12) (isList_grows hLD G12) (LeavesAre.grows G12 hLe) (cell_up C4 S4.inv (g7.trans h12)) hV (hacc.imp (VnR.up g12)) (versL_ok hok) (Nat.le_trans versL_len (by show 3 ≤ 5;decide)) ok0 ok1 ok2 ok3
end
section
set_option tactic.hygienic true
variable {γ:Cfg}
local macro_rules | `(tactic| walk_at $s:str) => do let k:=Lean.Syntax.mkStrLit ("Z52 " ++ s.getString);`(tactic| k_extra $k)
local macro_rules | `(tactic| walk_at "0") => `(tactic| skip)
local macro_rules | `(tactic| walk_at "0") => `(tactic| skip)
theorem words_W52_36:True:=by
 w_top off
 k_with "Z52 M enterN" => ((case h2 => (with_reducible show (mk.heap_1 _).lookup _ = _);k_is);(case h1 => lia);(case h3 => (with_reducible show codeIn (mk.heap_1 _) _ _ = _);k_is);(case h4 => rfl);(case h5 => rfl);(case h6 => (walk_at "I1"; rfl));(case h7 => (intro _ _ hq;simp only [csL,List.mem_cons,List.not_mem_nil,or_false] at hq;rcases hq with rfl | rfl | rfl | rfl | rfl | rfl | rfl <;> rfl));(case h8 => (walk_at "I1"; exact bindL_one rfl));(case h9 => (intro _ _ _ hq;simp only [csL,List.mem_cons,List.not_mem_nil,or_false] at hq;rcases hq with rfl | rfl | rfl | rfl | rfl | rfl | rfl <;> rfl));(case h11 => rfl);(case h12 => rfl);(case h13 => rfl))
 k_with "Z52 binaryOp Add ref ref" => k_dflt (refine' m_addL ?_ ?_ ?_ ?_ ?_ ?_;rotate_right 6;rotate_left;(·assumption);(·refine' isList_sub ?_ ?_;rotate_right 2;rotate_left;(·exact St.le (by assumption));rotate_right;(·walk_at "M lst"));(·(refine' St.listAt ?_ ?_;rotate_right 2;(·assumption);(·walk_at "M at")));(·(simp only [List.size_toArray,List.length_cons,List.length_nil];lia));rotate_right;(·rfl);k_whole;walk_at "I3")
 trivial
noncomputable def StA (γ:Cfg):Prop:=∀ (A:Around) (body rest:List Stmt) (scope:Scope) (qual:Str) (cdv:Value) (s₀ s:Shared) (fz₀ fz:Heap) (L n:Addr) (Q:Flow → Shared → Prop) (E:Value → Shared → Prop) (o0 o1 o2 o3 o4 o5 o6:Obj) (v0 v1 v6:Option Value) (a:Addr) (vs:List Value) (ns:List Int),
 LGo γ 0 A body rest scope qual cdv s₀ fz₀ L Q → St (gg γ) s₀ fz₀ s.heap s.gens s.os fz L [(Str.ofString "script", .ref a)] [(n + 6,o6),(n + 5,o5),(n + 4,o4),(n + 3,o3),(n + 2,o2),(n + 1,o1),(n,o0)] → o0.data = .cell v0 → o1.data = .cell v1 → CellLike o2 → CellLike o3 → CellLike o4 → CellLike o5 → o6.data = .cell v6 →
 fz.IsList a vs.toArray → IntsAre vs ns → ns.length ≤ 63 →
 wpAny (model (gg γ).prog (gg γ).w) A (execs rest (envX qual scope L 922 cdv (csL n))) Q E s
theorem law_A (hB':StB γ):StA γ:=by
 intro A body rest scope qual cdv s₀ s fz₀ fz L n Q E o0 o1 o2 o3 o4 o5 o6 v0 v1 v6 a vs ns go S d0 d1 hc2 hc3 hc4 hc5 d6 hl hI hn
 have go2:=go
 have inv0:=S.inv
 obtain ⟨hat,hr,hh,hd,hu,done⟩:=go
 refine' hat.use ?hk ?go
 (case hk => (with_reducible show (mk.heap_1 _).lookup _ = _);k_is)
 rintro rfl rfl rfl rfl
 subst hr
 clear hat
 have hv:vs.length ≤ 63:=by rw [IntsAre.len hI];exact hn
 replace S:St (gg γ) s₀ fz₀ s.heap s.gens s.os fz L [(Str.ofString "script", .ref a)] [(n,o0),(n + 1,o1),(n + 2,o2),(n + 3,o3),(n + 4,o4),(n + 5,o5),(n + 6,o6)]:=S.perm (List.reverse_perm _).symm
 obtain ⟨n0,n1,n2,n3,z,u0,u1,u2,u3,u4,e5⟩:=told5 hI (s.toks + 0) (s.toks + (0 + 1)) (s.toks + (0 + 1 + 1)) (s.toks + (0 + 1 + 1 + 1)) (s.toks + (0 + 1 + 1 + 1 + 1))
 show wpAny _ _ (execs (_ :: _ :: _) _) _ _ _
 walk_at "M inA"
 refine x_cut fun N hN hR' => ?_
 repeat' walk1
 rename_i aL DL SL aA DA SA a5 b5 sl5 g5 S5 sp5 a6 f6 D6 g6 S6 F6 a7 S7
 rw [e5] at F6
 have S8:=S7.drop1.drop1
 have g7:=g5.trans g6
 have hz5:(#[.int n0 u0,.int n1 u1,.int n2 u2,.int n3 u3,.int z u4]:Array Value).size ≤ 100000:=by show 5 ≤ 100000;decide
 clear S SL SA S5 S6 S7 sp5 e5
 refine hN _ ?_
 clear hN hR' N
 refine x_cut fun N hN hR' => ?_
 repeat' walk1
 rename_i a9 b9 sl9 g9 S9 sp9 a10 f10 D10 g10 S10 F10 sc I1 oI1 SC it1 sf1
 rw [told4] at it1
 have g11:=g9.trans g10
 refine' ⟨_,_,f10,_,_,_,_,fun i acc h => Each IsLeaf h acc (([n0,n1,n2,n3].map leafOf).take i) ∧ Grows (gg γ).tabs f10 h,rfl,SC,it1 _,sf1,⟨trivial,Grows.refl _ _⟩,?szg,CompStep.mk0 ?stg,?fing⟩
 (case szg => show 4 ≤ sizeLine;have:=sizeLine_eq;lia)
 (case stg =>
   intro i v s2 fz0 fz2 C lC mu acc E' hi hJ gr2 hP S2
   have hi':i < 4:=hi
   obtain ⟨nn,uu,rfl,hx⟩:=int4 hi' hP
   have hx2:([n0,n1,n2,n3].map leafOf)[i]? = some (leafOf nn):=by rw [List.getElem?_map,hx];rfl
   have pst:∀ {f9 v9} {s9:Shared} {lC},Grows (gg γ).tabs fz2 f9 → IsLeaf f9 v9 (leafOf nn) → St (gg γ) s₀ fz₀ s9.heap s9.gens s9.os f9 C lC mu → CNext (gg γ) s₀ fz₀ C mu (fun acc h => Each IsLeaf h acc (([n0,n1,n2,n3].map leafOf).take (i + 1)) ∧ Grows (gg γ).tabs f10 h) fz2 (acc ++ [v9]) s9:=fun {f9 v9 s9 lC} g p S9 =>
     ⟨_,_,g,S9,Each.next (fun zz zz p => IsLeaf.up p (Grows.trans gr2 g)) hJ.1 hx2 p,Grows.trans hJ.2 (Grows.trans gr2 g)⟩
   by_cases hq:nn.fmod 13 = 12
   · rw [show leafOf nn = .one ((nn.fdiv 13).fmod 4) from if_pos hq] at pst
     walk1
     walk1
     walk_at "M inE"
     repeat' walk1
     rename_i s9 f9 t9 g9 S9 T9
     exact pst g9 ⟨_,_,rfl,T9⟩ S9
   · rw [show leafOf nn = rangeOf nn from if_neg hq] at pst
     walk1
     walk1
     walk_at "M inE"
     repeat' walk1
     rename_i r9 s9 f9 g9 S9 p9
     exact pst g9 p9 S9)
 intro s12 f12 D12 c12 acc12 gr12 S12 hJ12 hz12 S13
 obtain ⟨f14,gr14,S14,hLD⟩:=S13.fixL
 have hLe:LeavesAre f14 acc12.toList [leafOf n0,leafOf n1,leafOf n2,leafOf n3]:=by
   exact leavesOf (hJ12.1.imp fun zz zz p => p.up gr14)
 have g15:=g11.trans (gr12.trans gr14)
 clear S8 S9 S10 S12 S13 SC hJ12
 repeat' walk1
 rename_i s16 f16 g16 C16 S16
 have g17:=g15.trans g16
 refine hN _ ?_
 dsimp only [List.eraseIdx_cons_zero,List.eraseIdx_cons_succ] at S16
 exact hB' A _ _ _ _ _ s₀ _ fz₀ f16 L n Q E _ _ o1 o2 o3 o4 o5 o6 v1 v6 D6 D12 acc12.toList _ _ _ _ n0 n1 n2 n3 z u0 u1 u2 u3 u4 (go2.to rfl) S16 d1 hc2 hc3 hc4 hc5 d6 (isList_grows F6 g17) C16 (isList_grows hLD g16) (LeavesAre.grows g16 hLe) (leafOf_ok _) (leafOf_ok _) (leafOf_ok _) (leafOf_ok _)
theorem lawAt_of {name qual:Str} {params:Arguments} {body:List Stmt} {scope:Scope} {dV kV doc pm cdv ct oc:Value} {an od:Option Addr} {osl:Array (Option Value)}
   (h:(mk.heap_1 γ.w.params).lookup 922 = some ⟨oc,od,.func (fnOf name qual params body scope dV kV doc pm an cdv ct),osl⟩):∃ body scope qual cdv,LawAt γ body scope qual cdv:=⟨body,scope,qual,cdv,name,params,dV,kV,doc,pm,ct,oc,an,od,osl,h⟩
theorem lawAt:∃ body scope qual cdv,LawAt γ body scope qual cdv:=by
 refine' lawAt_of ?hk
 (case hk => (with_reducible show (mk.heap_1 _).lookup _ = _);k_is)
theorem law_run (a:Addr) (vs:List Value) (ns:List Int) (hn:ns.length ≤ 63):Runs (gg γ) (call (.ref 922) [.ref a]) 400 5000 (fun h => h.IsList a vs.toArray ∧ IntsAre vs ns) (fun zz r => r = .bool true):=by
 intro A s fz Q E hh hd hu sub inv bare pre k
 obtain ⟨hl,hI⟩:=pre
 refine' wpAny_call (enterN [(Str.ofString "script", .ref a)] [(Str.ofString "script", .ref a)] csL ?h1 sub inv bare ?h2 ?h3 ?h4 ?h5 ?h6 ?h7 ?h8 ?h9 ?h11 ?h12 ?h13 ?h10)
 walk_at "M enterN"
 case h10 =>
   intro s₁ L n fo hfo S
   have ce:=fun q hq => hfo q hq
   obtain ⟨v0,d0⟩:=hfo (Str.ofString "leaves", n) (.tail _ (.tail _ (.tail _ (.tail _ (.tail _ (.tail _ (.head _)))))))
   obtain ⟨v1,d1⟩:=hfo (Str.ofString "versions", n + 1) (.tail _ (.tail _ (.tail _ (.tail _ (.tail _ (.head _))))))
   obtain ⟨v6,d6⟩:=hfo (Str.ofString "whole", n + 6) (.head _)
   obtain ⟨body,scope,qual,cdv,hat⟩:=lawAt (γ:=γ)
   have hat2:=hat
   refine' hat.use ?hk2 ?go2
   (case hk2 => (with_reducible show (mk.heap_1 _).lookup _ = _);k_is)
   rintro rfl rfl rfl rfl
   exact law_A (law_B (law_C (law_D (law_E (law_F law_G))))) _ _ _ _ _ _ s _ fz _ L n _ _ _ _ _ _ _ _ _ v0 v1 v6 a vs ns ⟨hat2,rfl,hh,by show A.depth + 1 + 390 < recursionLimit;lia,by have:=cLine_is;simp only [units_deeper];lia,fun s' fz' l' mu' S' => k _ _ _ S'.aft rfl⟩ S d0 d1 (hfo (Str.ofString "k", n + 2) (.tail _ (.tail _ (.tail _ (.tail _ (.head _)))))) (hfo (Str.ofString "other", n + 3) (.tail _ (.tail _ (.tail _ (.head _))))) (hfo (Str.ofString "third", n + 4) (.tail _ (.tail _ (.head _)))) (hfo (Str.ofString "place", n + 5) (.tail _ (.head _))) d6 hl hI hn
end
section
open PySem PySem.W PyProof.Rows
theorem codeAt {w:World} {h:Heap} (X:(mk.heap_1 w.params).In h) {b:Addr} (hb:b ∈ ([383,537,556,608,627]:List Addr)):isCodeTable h b:=by
 have go:∀ c P,codeHdIn (mk.heap_1 w.params) c P = true → isCodeTable h P:=fun c P e => by
   obtain ⟨o,vs,f,tf,fl,tg,b,n,tt,h1,h2,h3,h4,_⟩:=codeHd_of_K X e
   exact ⟨c,o,vs,h1,h2,h3,h4⟩
 simp only [List.mem_cons,List.not_mem_nil,or_false] at hb
 rcases hb with rfl | rfl | rfl | rfl | rfl
 · exact go 387 _ (by kernel_rfl)
 · exact go 541 _ (by kernel_rfl)
 · exact go 560 _ (by kernel_rfl)
 · exact go 612 _ (by kernel_rfl)
 · exact go 631 _ (by kernel_rfl)
theorem fineG {γ:Cfg}:(gg γ).Fine:=by
 refine ⟨fun a ha => ?_,(by decide:mainGlobals ∉ ([383,537,556,608,627]:List Addr)),(by decide:builtinsNs ∉ ([383,537,556,608,627]:List Addr)),(by decide:cStatics ∉ ([383,537,556,608,627]:List Addr))⟩
 replace ha:a ∈ ([383,537,556,608,627]:List Addr):=ha
 simp only [List.mem_cons,List.not_mem_nil,or_false] at ha
 rcases ha with rfl | rfl | rfl | rfl | rfl <;> kernel_rfl
theorem oldK_of {γ:Cfg} {s s':Shared} {fz':Heap} (X:(mk.heap_1 γ.w.params).In s.heap) (T:∀ P ∈ ([383,537,556,608,627]:List Addr),s.heap.get? P = some (tabObj #[])) (A:Aft (gg γ) s s.heap s' fz'):OldK s.heap s'.heap:=by
 have one:∀ b o,s.heap.get? b = some o → b ∈ ([383,537,556,608,627]:List Addr) → ∃ ps,s'.heap.get? b = some (tabObj ps) ∧ o = tabObj #[]:=fun b o e hb => by
   obtain ⟨ps,h1,_⟩:=A.inv.tab b hb
   exact ⟨ps,A.le _ _ h1,Option.some.inj (e.symm.trans (T b hb))⟩
 have two:∀ b o,s.heap.get? b = some o → b ∉ ([383,537,556,608,627]:List Addr) → s'.heap.get? b = some o:=fun b o e hb => A.keep b o e fun q => absurd q hb
 refine ⟨fun b o e => ?_,fun b o e => ?_⟩
 · by_cases hb:b ∈ ([383,537,556,608,627]:List Addr)
   · obtain ⟨ps,h1,rfl⟩:=one b o e hb
     exact .inr (.inl ⟨codeAt X hb,rfl,#[],ps,rfl,by rw [h1,Array.empty_append]⟩)
   · exact .inl (two b o e hb)
 · by_cases hb:b ∈ ([383,537,556,608,627]:List Addr)
   · obtain ⟨ps,h1,_⟩:=one b o e hb
     exact ⟨_,h1⟩
   · exact ⟨_,two b o e hb⟩
theorem head (H:∀ (γ:Cfg) (a:Addr) (vs:List Value) (ns:List Int),ns.length ≤ 63 → Runs (gg γ) (call (.ref 922) [.ref a]) 400 5000 (fun h => h.IsList a vs.toArray ∧ IntsAre vs ns) (fun zz r => r = .bool true)):PySem.Challenge.rw_ln0005_03.Holds:=by
 refine holds_law wellL fun said => ?_
 refine holds_open (q:=qv) (loose:=looseL) (Xt:=XtL) (XP:=XL qv []) (YP:=Hook.says (kmHook mk.heap_1 asL asL_eq tabsL)) (N:=14100) leftL (Hook.of _) (Hook.keeps _) (fun s e => xl_of s (Bool.and_eq_true_iff.mp e).1) XL.keeps (by rfl) (by rfl) (by rfl) (fun s e => recFacts_of (Bool.and_eq_true_iff.mp e).2) (by rfl) said (by decide +kernel) ⟨rfl,rfl,rfl,rfl,rfl,by decide +kernel⟩ ?hw ?hc
 case hw => exact ⟨[.list []],by decide +kernel,by decide +kernel⟩
 case hc =>
   intro w s₀ s₁ mg mb G Y fa o pm cd doc dV kV ho hd hcd hD hmg hg args vals as hpre hlay hrd hwl hlo
   refine Ground.open G ?_
   intro T B D TE TW
   clear ho hd hcd hD B D TE TW
   have X:(mk.heap_1 w.params).In s₁.heap:=km_in_of Y
   have TT:=km_tabs_of Y
   have hm2:mg (Str.ofString "law") = some (.ref 922):=mg_of X T.g (by kernel_rfl)
   have hm3:mg (Str.ofString "law") = some (.ref fa):=hmg
   clear hmg
   have hfa:fa = 922:=Value.ref.inj (Option.some.inj (hm3.symm.trans hm2))
   subst hfa
   wrow_args hpre hlay hrd hwl hlo
   rename_i ns _ _ _ _ _ _ _ a vs _ hL _ _ _ hI _ hlen _
   have inv:Inv (gg ⟨w,qv,looseW qv looseL,mg,mb⟩) s₁.heap:=⟨fineG,X,topRead_of T,fun P hP => ⟨#[],TT P hP,trivial⟩,by
     obtain ⟨bm,ob,b1,b2,b3,b4,b5,b6⟩:=T.bmain
     exact ⟨bm,ob,b1,b2,b3,b4,b5,by assumption⟩⟩
   refine H ⟨w,qv,looseW qv looseL,mg,mb⟩ a vs ns (by omega) callerA s₁ s₁.heap _ _ rfl (by decide) (by decide) (Sub.refl _) inv (AllBare.of_eq hg) ⟨hL,hI⟩ fun r s' fz' A e => ?_
   have e:r = .bool true:=e
   subst e
   refine ⟨.inl ⟨_,.bool true,[],rfl,fun zz => rfl,.bool true,?_,fun zz => ⟨List.nodup_nil,nofun⟩⟩,oldK_of X TT A,A.os_,A.bare⟩
   first
   | rfl
   | wrow_post
end

end Mine
theorem PySem.Challenge.cw_ln0005_03_holds : PySem.Challenge.rw_ln0005_03.Holds :=
  Mine.head fun γ a vs ns hn => Mine.law_run (γ := γ) a vs ns hn
