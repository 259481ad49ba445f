import PyProof.Rows.All
import Wide.All
import OpenK.AllK
import Wide.FinOn
import KE.KSortTup
import KE.KLam
import Lean
import PySem.Challenge.RW_jh0025_02
open PySem PySem.W PyProof.Rows PySem.Calls
set_option Elab.async false
set_option maxRecDepth 100000
set_option maxHeartbeats 0
set_option synthInstance.maxSize 100000
set_option synthInstance.maxHeartbeats 0
set_option linter.all false
set_option compiler.extract_closed false
noncomputable section
namespace Mine
abbrev Sm:=Str→Option Value
abbrev Vp:=Value→Shared→Prop
abbrev Rp:=Result→Shared→Prop
abbrev Fp:=Flow→Shared→Prop
noncomputable def runTop (tb:String→Option Builtin) (p:Program) (w:World) (n₀:Nat) (ann:Option Value):Nat→SharedT→Thread→Option SharedT
 | 0,_,_=>none
 | n+1,s,t=>match through t with
  | true=>some s
  | false=>match stepOk n₀ ann t with
   | false=>none
   | true=>match stepT (denote tb) p w s t with
    | some (s',t')=>runTop tb p w n₀ ann n s' t'
    | none=>none
theorem runTop_top {tb:String→Option Builtin} {p:Program} {w:World} {n₀:Nat} {ann:Option Value}:∀ {n:Nat} {s s':SharedT} {t:Thread},
  runTop tb p w n₀ ann n s t=some s'→topRun tb p w n₀ ann n s.abs t=some s'.abs
 | 0,_,_,_,h=>by cases h
 | n+1,s,s',t,h=>by
  unfold runTop at h
  unfold topRun
  cases ht:through t with
  | true=>rw [ht] at h; cases h; rfl
  | false=>
   rw [ht] at h
   cases hk:stepOk n₀ ann t with
   | false=>rw [hk] at h; cases h
   | true=>
    rw [hk] at h
    cases hs:stepT (denote tb) p w s t with
    | none=>rw [hs] at h; cases h
    | some r=>obtain ⟨s₂,t₂⟩:=r; rw [hs] at h; rw [stepT_spec hs]; exact runTop_top h
theorem left_of_run {p q:Program} {loose:List Str} {Xt:Shared→Bool} {α:Type} {Yf:Shared→α} {Ya:World→α} {N:Nat} {g0:Bool} {T₀:Params→BT} {n₀:Nat} {life:Life} {gs₀:Array GenState} {d₀:Drawn} {k₀:Nat} {ann:Option Value} {M:Nat}
  (open_:∀ w:World,(fencedOpening treeTable p w N).map (fun s=>(s.heap,s.gens,s.drawn,s.toks))=some (absHeap (T₀ w.params) n₀ life,gs₀,d₀,k₀))
  (size:∀ w:World,((absHeap (T₀ w.params) n₀ life).isNs mainGlobals && gs₀.size == 0,(absHeap (T₀ w.params) n₀ life).nsMap mainGlobals "__annotations__")=(true,ann))
  (le:Nat.ble M N=true)
  (run:∀ w:World,(fun os=>(runTop treeTable p w n₀ ann M ⟨T₀ w.params,n₀,life,gs₀,d₀,k₀,os⟩ (topStub p)).map fun s=>
    ((staticsOk (importedModules p.main.body) (absHeap (T₀ w.params) n₀ life) s.abs.heap && namesBound p s.abs.heap && gensDone s.abs && laidKept (absHeap (T₀ w.params) n₀ life) s.abs.heap),
     openSeen q loose (importedModules p.main.body) Xt g0 s.abs,Yf s.abs))=fun _=>some (true,openGood q loose,Ya w)):LeftO p q loose Xt Yf Ya N g0:=fun w=>by
 obtain ⟨⟨h,gs,d,k,os⟩,e,e'⟩:=Option.map_eq_some_iff.mp (open_ w)
 obtain ⟨rfl,rfl,rfl,rfl⟩:h=absHeap (T₀ w.params) n₀ life∧gs=gs₀∧d=d₀∧k=k₀:=by simpa using e'
 obtain ⟨z1,z3⟩:_∧_:=by simpa only [Prod.mk.injEq] using size w
 obtain ⟨sT,r₀,l⟩:=Option.map_eq_some_iff.mp (congrFun (run w) os)
 obtain ⟨l1,l2,l3⟩:_∧_∧_:=by simpa only [Prod.mk.injEq] using l
 have r:=topRun_mono (N - M) _ _ _ _ (runTop_top r₀)
 rw [Nat.add_sub_of_le (Nat.le_of_ble_eq_true le)] at r
 have t:topFrom treeTable p w N ⟨absHeap (T₀ w.params) n₀ life,gs,d,k,os⟩=some sT.abs:=by
  unfold topFrom
  dsimp only
  rw [z1,absHeap_size,z3]
  show (match true with|true=>(topRun treeTable p w n₀ ann N (SharedT.abs ⟨T₀ w.params,n₀,life,gs,d,k,os⟩) (topStub p)).bind _|false=>none)=_
  rw [r]
  show (match staticsOk (importedModules p.main.body) (absHeap (T₀ w.params) n₀ life) sT.abs.heap && namesBound p sT.abs.heap && gensDone sT.abs && laidKept (absHeap (T₀ w.params) n₀ life) sT.abs.heap with|true=>_|false=>_)=_
  rw [l1]
 unfold openEnds
 rw [e]
 show (topFrom treeTable p w N _).map _=_
 rw [t]
 exact congrArg some (Prod.ext l2 l3)
noncomputable def T0 (P:Params):BT:=((((((((((BT.nil.ins 0 (boot_o_0 P)).ins 1 (boot_o_1 P)).ins 2 (boot_o_2 P)).ins 3 (boot_o_3 P)).ins 4 (boot_o_4 P)).ins 5 (boot_o_5 P)).ins 6 (boot_o_6 P)).ins 7 (boot_o_7 P)).ins 8 (boot_o_8 P)).ins 9 (boot_o_9 P)).ins 10 (boot_o_10 P)
theorem T0_abs (P:Params):absHeap (T0 P) 11 {}=boot_heap P:=by rfl
noncomputable def q02:Program:=view PySem.Challenge.pw_jh0025_02 [33]
noncomputable def loose02:List Str:=["_wall", "__name__", "TransactionError", "TransactionFailedError", "DoomedTransaction", "TransientError", "NoTransaction", "AlreadyInTransaction", "WeakSet", "Status", "_NoSynchronizers", "Transaction", "rm_key", "_holds", "Savepoint", "AbortSavepoint", "NoRollbackSavepoint", "_new_transaction", "TransactionManager", "Refusal", "Passing", "Party", "PlainManager", "Manager", "ManagerSavepoint", "_law_order", "_law_with", "_law_run"]
theorem open02 (w:World):(fencedOpening treeTable PySem.Challenge.pw_jh0025_02 w 15500).map (fun s=>(s.heap,s.gens,s.drawn,s.toks))=some (absHeap (T0 w.params) 11 {},Array.mk [],boot_drawn,boot_toks):=by
 rw [T0_abs]
 exact boot_open (by rfl) (by decide +kernel) (fun s=>by rfl) w
theorem size02 (w:World):((absHeap (T0 w.params) 11 {}).isNs mainGlobals && (#[]:Array GenState).size == 0,(absHeap (T0 w.params) 11 {}).nsMap mainGlobals "__annotations__")=(true,some (.ref 6)):=by
 kernel_rfl
noncomputable def runF (p:Program) (w:World) (n₀:Nat) (ann:Option Value):Nat→SharedT→Thread→Option SharedT
 | 0,_,_=>none
 | n+1,s,t=>match through t with
  | true=>some s
  | false=>match PySem.W.Fast.tw6613529449190102663 n₀ ann t with
   | false=>none
   | true=>match PySem.W.Fast.tw10156331382660048174 (PySem.W.Fast.tw11892475500146522536 PySem.W.Fast.tw14364793385576792824) p w s t with
    | some (s',t')=>runF p w n₀ ann n s' t'
    | none=>none
theorem runF_eq (p:Program) (w:World) (n₀:Nat) (ann:Option Value):∀ n s t,runF p w n₀ ann n s t=runTop treeTable p w n₀ ann n s t
 | 0,_,_=>rfl
 | n+1,s,t=>by
  unfold runF runTop
  rw [←PySem.W.Fast.te6613529449190102663,←PySem.W.Fast.te10156331382660048174,←PySem.W.Fast.te11892475500146522536,←PySem.W.Fast.te14364793385576792824]
  have ih:=runF_eq p w n₀ ann n
  first|(simp only [ih]; done)|(simp only [ih]; rfl)
noncomputable def lookT (s:SharedT) (a:Addr):Option Obj:=match Nat.blt a s.n with
 | true=>(match s.tree.get a with|some o=>alive o|none=>none)
 | false=>none
theorem lookT_abs {s:SharedT} {a:Addr} {o:Obj} (h:lookT s a=some o):s.abs.heap.get? a=some o:=by
 unfold lookT at h
 cases e:Nat.blt a s.n with
 | false=>rw [e] at h; cases h
 | true=>
  rw [e] at h
  cases g:s.tree.get a with
  | none=>rw [g] at h; cases h
  | some x=>
   rw [g] at h
   exact (abs_get (Nat.le_of_ble_eq_true e) g).trans h
theorem map_lookT {s:SharedT}:∀ {as:List Addr} {os:List (Option Obj)},as.map (lookT s)=os→(os.all Option.isSome)=true→as.map s.abs.heap.get?=os
 | [],[],_,_=>rfl
 | [],_::_,h,_=>by cases h
 | _::_,[],h,_=>by cases h
 | a::as,o::os,h,k=>by
  simp only [List.map_cons,List.cons.injEq] at h
  simp only [List.all_cons,Bool.and_eq_true] at k
  obtain ⟨x,hx⟩:=Option.isSome_iff_exists.mp k.1
  rw [List.map_cons,map_lookT h.2 k.2,hx,lookT_abs (h.1.trans hx)]
theorem left_of_runF {p q:Program} {loose:List Str} {Xt:Shared→Bool} {N:Nat} {g0:Bool} {T₀:Params→BT} {n₀:Nat} {life:Life} {gs₀:Array GenState} {d₀:Drawn} {k₀:Nat} {ann:Option Value} {M:Nat}
  {K:Params→Frag} {as ts:List Addr} {e:∀ P,as=(K P).map (·.1)}
  (open_:∀ w:World,(fencedOpening treeTable p w N).map (fun s=>(s.heap,s.gens,s.drawn,s.toks))=some (absHeap (T₀ w.params) n₀ life,gs₀,d₀,k₀))
  (size:∀ w:World,((absHeap (T₀ w.params) n₀ life).isNs mainGlobals && gs₀.size == 0,(absHeap (T₀ w.params) n₀ life).nsMap mainGlobals "__annotations__")=(true,ann))
  (le:Nat.ble M N=true)
  (run:∀ w:World,(fun os=>(runF p w n₀ ann M ⟨T₀ w.params,n₀,life,gs₀,d₀,k₀,os⟩ (topStub p)).map fun s=>
    ((staticsOk (importedModules p.main.body) (absHeap (T₀ w.params) n₀ life) s.abs.heap && namesBound p s.abs.heap && gensDone s.abs && laidKept (absHeap (T₀ w.params) n₀ life) s.abs.heap),
     openSeen q loose (importedModules p.main.body) Xt g0 s.abs,as.map (lookT s),ts.map (lookT s)))=fun _=>some (true,openGood q loose,(K w.params).map fun p=>some p.2,ts.map fun _=>some (tabObj #[]))) :
  LeftO p q loose Xt (kmHook K as e ts).obs (kmHook K as e ts).val N g0:=by
 refine left_of_run (M:=M) open_ size le fun w=>funext fun os=>?_
 have r:=congrFun (run w) os
 simp only [runF_eq] at r
 obtain ⟨s,hs,l⟩:=Option.map_eq_some_iff.mp r
 simp only [Prod.mk.injEq] at l
 obtain ⟨l1,l2,l3,l4⟩:=l
 rw [hs,Option.map_some,l1,l2]
 have e1:as.map s.abs.heap.get?=(K w.params).map fun p=>some p.2:=map_lookT l3 (by simp)
 have e2:ts.map s.abs.heap.get?=ts.map fun _=>some (tabObj #[]):=map_lookT l4 (by simp)
 show some (true,openGood q loose,(as.map s.abs.heap.get?,ts.map s.abs.heap.get?))=_
 rw [e1,e2]
 rfl
theorem ws:OpenLaw.wellSaid PySem.Challenge.rw_jh0025_02=true:=by kernel_rfl
local macro_rules | `(tactic| o_law) => `(tactic| refine holds_law Mine.ws fun said => ?_)
noncomputable abbrev xt02 (s:Shared):Bool:=xlAt Mine.q02 [] s && recOk (RowW.records (OpenRow.toRowW (OpenLaw.row PySem.Challenge.rw_jh0025_02))) s
noncomputable def head02 (H:Hook) (said:(OpenLaw.row PySem.Challenge.rw_jh0025_02).wellSaid=true) (hl:LeftO (OpenLaw.row PySem.Challenge.rw_jh0025_02).prog Mine.q02 Mine.loose02 xt02 H.obs H.val 15500):=
 holds_open (r:=OpenLaw.row PySem.Challenge.rw_jh0025_02) (q:=Mine.q02) (loose:=Mine.loose02) (Xt:=xt02) (XP:=XL Mine.q02 []) (Yf:=H.obs) (Ya:=H.val) (YP:=H.says) (N:=15500) hl H.of H.keeps (fun s e=>xl_of s (Bool.and_eq_true_iff.mp e).1) XL.keeps (by rfl) (by rfl) (by rfl) (fun s e=>recFacts_of (Bool.and_eq_true_iff.mp e).2) (by rfl) said (by decide +kernel) ⟨rfl,rfl,rfl,rfl,rfl,by decide +kernel⟩
local macro_rules | `(tactic| o_head $H:term) => `(tactic| refine head02 $H ‹_› (left_of_runF (M := 8000) open02 size02 (by decide +kernel) (fun w => by kernel_rfl)) ?hw ?hc)
open_top hd for PySem.Challenge.rw_jh0025_02
theorem top_off:True:=by
 w_top off
 trivial
set_option genSizeOf false in
set_option genInjectivity false in
structure Tk where
 n:Nat
deriving Nonempty
theorem tok_any {α:Type} {M:Model} {A:Around} {x:Sem α} {Q:α→Shared→Prop} {E:Vp} {h:Heap} {g:Array GenState} {d:Drawn} {t k:Nat} {o:OsState} (H:∀ tk:Tk,wpAny M A x Q E ⟨h,g,d,tk.n,o⟩):wpAny M A x Q E ⟨h,g,d,t+k,o⟩:=H ⟨_⟩
theorem ne_up {l:List (Addr×Obj)} {a d:Addr} {o:Obj} (h:∀ p∈l,p.1<d) (m:(a,o)∈l):@Ne Nat a d:=Nat.ne_of_lt (h _ m)
theorem ne_dn {l:List (Addr×Obj)} {a d:Addr} {o:Obj} (h:∀ p∈l,p.1<d) (m:(a,o)∈l):@Ne Nat d a:=Nat.ne_of_gt (h _ m)
theorem lt_in {l:List (Addr×Obj)} {a d:Addr} {o:Obj} (h:∀ p∈l,p.1<d) (m:(a,o)∈l):@LT.lt Nat _ a d:=h _ m
theorem nin_l {l:List (Addr×Obj)} {d:Addr} (h:∀ p∈l,p.1<d) {as:List Addr} (s:∀ a∈as,∃ p∈l,p.1=a):d∉as:=fun m=>by
 obtain ⟨p,hp,e⟩:=s d m
 exact Nat.ne_of_lt (h p hp) e
theorem nr4 {r:List (Addr×Obj)} {a x y z u:Addr} {o1 o2 o3 o4:Obj} (h:∀ p∈(x,o1)::(y,o2)::(z,o3)::(u,o4)::r,p.1<a):a∉[x,y,z,u]:=nin_l h fun b hb=>by
 rcases List.mem_cons.mp hb with rfl|hb
 ·exact ⟨_,.head _,rfl⟩
 rcases List.mem_cons.mp hb with rfl|hb
 ·exact ⟨_,.tail _ (.head _),rfl⟩
 rcases List.mem_cons.mp hb with rfl|hb
 ·exact ⟨_,.tail _ (.tail _ (.head _)),rfl⟩
 obtain rfl:=List.mem_singleton.mp hb
 exact ⟨_,.tail _ (.tail _ (.tail _ (.head _))),rfl⟩
theorem nr5 {r:List (Addr×Obj)} {a t x y z u:Addr} {o0 o1 o2 o3 o4:Obj} (h:∀ p∈(t,o0)::(x,o1)::(y,o2)::(z,o3)::(u,o4)::r,p.1<a):a∉[x,y,z,u]:=nr4 fun p hp=>h p (.tail _ hp)
theorem lt_up {l:List (Addr×Obj)} {d x:Addr} (h:∀ p∈l,p.1<d) (k:d<x):∀ p∈(d,listOf #[] 0)::l,p.1<x:=fun p hp=>by
 rcases List.mem_cons.mp hp with rfl|hp
 ·exact k
 ·exact Nat.lt_trans (h p hp) k
theorem set_any {prog:Program} {w:World} {A:Around} {E:Vp} {hp:Heap} {g:Array GenState} {d:Drawn} {tk:Nat} {o:OsState} {K:Frag} {C L x dx:Addr} {h₀:Heap} {m:Sm} {news news':List (Addr×Obj)} {ox:Obj} {es es':List DictEntry} {n n':Nat} {name:Str} {v:Value}
  {Q:Unit→Shared→Prop} (F:Fr h₀ L hp m) (X₀:K.In h₀) (N:News h₀ L hp news) (I:InstAt hp x ox C (some (dictOf es n))) (hd:ox.dict=some dx)
  (hs:findIn K (.ref C) "__setattr__" = some (some (.builtin "object.__setattr__"))) (hpo:plainOver K C=true) (ht:takerIn K C name=some none) (hh:hasDictIn K C=true) (hl:(getL name es).isSome=true)
  (e:(putL name (PyData.keyHash w.params name) (.str name (tk+1)) v es,putN name es n)=(es',n')) (U:Upd dx (dictOf es n) (dictOf es' n') news news') (hz:es'.length ≤ 1000)
  (h:∀ h' (tk':Tk),Fr h₀ L h' m→News h₀ L h' news'→Q () ⟨h',g,d,tk'.n,o⟩) :
  wpAny (model prog w) A (setAttr (.ref x) name v) Q E ⟨hp,g,d,tk,o⟩:=
 set_dict (s:=⟨hp,g,d,tk,o⟩) F X₀ N I hd hs hpo ht hh hl e U hz fun h' F' N'=>h h' ⟨_⟩ F' N'
theorem room0 {a k r:Nat} (h:a+k<r):a<r:=Nat.lt_of_le_of_lt (Nat.le_add_right _ _) h
theorem room1 {a j k r:Nat} (h:a+k<r) (e:Nat.ble j k=true):a+j<r:=Nat.lt_of_le_of_lt (Nat.add_le_add_left (Nat.le_of_ble_eq_true e) _) h
theorem room2 {a i j k r:Nat} (h:a+k<r) (e:Nat.ble (i+j) k=true):a+i+j<r:=by rw [Nat.add_assoc]; exact room1 h e
theorem room3 {a i j l k r:Nat} (h:a+k<r) (e:Nat.ble (i+j+l) k=true):a+i+j+l<r:=by rw [Nat.add_assoc,Nat.add_assoc,←Nat.add_assoc i]; exact room1 h e
theorem room_d {A:Around} {en:Env} {j k r:Nat} (h:A.depth+k<r) (e:Nat.ble (1+j) k=true):(A.deeper en).depth+j<r:=by rw [depth_deeper]; exact room2 h e
theorem lt_big {a k j:Nat} (h:a<k) (e:Nat.ble k j=true):a ≤ j:=Nat.le_trans (Nat.le_of_lt h) (Nat.le_of_ble_eq_true e)
theorem le_big {a k j:Nat} (h:a ≤ k) (e:Nat.ble k j=true):a ≤ j:=Nat.le_trans h (Nat.le_of_ble_eq_true e)
theorem lt_lt {a k j:Nat} (h:a<k) (e:Nat.ble k j=true):a<j:=Nat.lt_of_lt_of_le h (Nat.le_of_ble_eq_true e)
inductive Bef (a b:Nat):List Nat→Prop where
 | here {l:List Nat} (h:b∈l):Bef a b (a::l)
 | there {c:Nat} {l:List Nat} (h:Bef a b l):Bef a b (c::l)
theorem Bef.lt {a b:Nat} {l:List Nat} (h:Bef a b l):l.Pairwise (·<·)→a<b:=by
 induction h with
 | here m=>exact fun p=>(List.pairwise_cons.mp p).1 _ m
 | there _ ih=>exact fun p=>ih (List.pairwise_cons.mp p).2
theorem in25 {n:Nat} (h:n∈[2,3,4,5]):2 ≤ n∧n ≤ 5:=(show ∀ m∈[2,3,4,5],2 ≤ m∧m ≤ 5 by decide) n h
theorem of25 {n:Nat} (h:2 ≤ n) (k:n ≤ 5):n∈[2,3,4,5]:=(show ∀ m:Fin 6,2 ≤ m.val→m.val∈[2,3,4,5] by decide) ⟨n,Nat.lt_succ_of_le k⟩ h
theorem le25 {n:Nat} (h:n∈[2,3,4,5]):n ≤ 5:=(in25 h).2
theorem big25 {n:Nat} (h:n∈[2,3,4,5]):n ≤ 16777216:=Nat.le_trans (in25 h).2 (by decide)
theorem small25 {n:Nat} (h:n∈[2,3,4,5]):2 ≤ n∧n<64:=⟨(in25 h).1,Nat.lt_of_le_of_lt (in25 h).2 (by decide)⟩
theorem lt5 {j:Nat} (h:j<5):j=0 ∨ j=1 ∨ j=2 ∨ j=3 ∨ j=4:=(show ∀ m:Fin 5,m.val=0 ∨ m.val=1 ∨ m.val=2 ∨ m.val=3 ∨ m.val=4 by decide) ⟨j,h⟩
theorem pw_cons {a b:Nat} {l:List Nat} (h:a<b) (p:(b::l).Pairwise (·<·)):(a::b::l).Pairwise (·<·):=List.pairwise_cons.mpr ⟨fun c hc=>by
 rcases List.mem_cons.mp hc with rfl|hc
 ·exact h
 ·exact Nat.lt_trans h ((List.pairwise_cons.mp p).1 c hc),p⟩
theorem pw_one {a:Nat}:[a].Pairwise (·<·):=List.pairwise_singleton _ _
theorem fmod_ix (x:Int) {n:Nat} (h:0<n):∃ j:Nat,x.fmod (n:Int)=(j:Int)∧j<n:=by
 have a:=Int.fmod_nonneg_of_pos x (b:=(n:Int)) (Int.natCast_pos.mpr h)
 have b:=Int.fmod_lt_of_pos x (b:=(n:Int)) (Int.natCast_pos.mpr h)
 rw [←Int.toNat_of_nonneg a] at b
 exact ⟨_,(Int.toNat_of_nonneg a).symm,Int.ofNat_lt.mp b⟩
theorem i63 {j n:Nat} (h:j<n) (k:n ≤ 1000):(j:Int)<2 ^ 63:=Int.lt_of_lt_of_le (Int.ofNat_lt.mpr h) (Int.le_trans (Int.ofNat_le.mpr k) (by decide))
theorem fmod_nn (x:Int) {n:Nat} (h:0<n):0 ≤ x.fmod (n:Int):=Int.fmod_nonneg_of_pos x (Int.natCast_pos.mpr h)
theorem fmod_63 (x:Int) {n:Nat} (h:0<n) (k:n ≤ 1000):x.fmod (n:Int)<2 ^ 63:=by
 obtain ⟨j,e,l⟩:=fmod_ix x h
 rw [e]; exact i63 l k
theorem fmod_lt (x:Int) {n:Nat} (h:0<n):(x.fmod (n:Int)).toNat<n:=by
 obtain ⟨j,e,l⟩:=fmod_ix x h
 rw [e]; exact l
theorem sh12 {a:Int} (h:a=1 ∨ a=2):1 ≤ a∧a ≤ 2:=by rcases h with rfl|rfl<;>decide
theorem len_rest {a b i n:Nat} (h:a+b=n) (e:a=i):b=n - i:=by rw [←h,e,Nat.add_sub_cancel_left]
theorem len_rest0 {a b n:Nat} (h:a+b=n) (e:a=n):b=0:=by rw [e] at h; exact Nat.add_left_cancel (h.trans (Nat.add_zero n).symm)
theorem lin1 {a b:Nat} (h:a ≤ 0+4 * b) (k:b ≤ 5):a ≤ 30:=by rw [Nat.zero_add] at h; exact Nat.le_trans h (Nat.le_trans (Nat.mul_le_mul_left 4 k) (by decide))
theorem lin2 {a b c:Nat} (h:a ≤ 0+4 * b) (h':c ≤ a+2 * b) (k:b ≤ 5):c ≤ 30:=by rw [Nat.zero_add] at h; exact Nat.le_trans h' (Nat.add_le_add (Nat.le_trans h (Nat.mul_le_mul_left 4 k)) (Nat.mul_le_mul_left 2 k))
theorem cnt_end {n i z:Nat} (h:n+i=z) (k:z ≤ i):i=z:=Nat.le_antisymm (h ▸ Nat.le_add_left i n) k
theorem cnt_next {n i z:Nat} (h:n+i=z) (k:i<z):n - 1+(i+1)=z:=by
 cases n with
 | zero=>rw [Nat.zero_add] at h; exact absurd k (h ▸ Nat.lt_irrefl _)
 | succ m=>rw [←h,Nat.add_comm i 1,←Nat.add_assoc]; rfl
theorem cnt_less {n i z:Nat} (h:n+i=z) (k:i<z):n - 1<n:=by
 cases n with
 | zero=>rw [Nat.zero_add] at h; exact absurd k (h ▸ Nat.lt_irrefl _)
 | succ m=>exact Nat.lt_succ_self m
theorem cnt_shift {i k z:Nat} (h:i+(k+1)=z):i+1+k=z:=by rw [←h,Nat.add_assoc,Nat.add_comm 1 k]
theorem eM1 {α:Type} {a0 x:α} {l:List α}:x∈a0::x::l:=.tail _ (.head _)
theorem eM2 {α:Type} {a0 a1 x:α} {l:List α}:x∈a0::a1::x::l:=.tail _ (.tail _ (.head _))
theorem eM3 {α:Type} {a0 a1 a2 x:α} {l:List α}:x∈a0::a1::a2::x::l:=.tail _ (.tail _ (.tail _ (.head _)))
theorem eM4 {α:Type} {a0 a1 a2 a3 x:α} {l:List α}:x∈a0::a1::a2::a3::x::l:=.tail _ (.tail _ (.tail _ (.tail _ (.head _))))
theorem eM5 {α:Type} {a0 a1 a2 a3 a4 x:α} {l:List α}:x∈a0::a1::a2::a3::a4::x::l:=.tail _ (.tail _ (.tail _ (.tail _ (.tail _ (.head _)))))
theorem eM6 {α:Type} {a0 a1 a2 a3 a4 a5 x:α} {l:List α}:x∈a0::a1::a2::a3::a4::a5::x::l:=.tail _ (.tail _ (.tail _ (.tail _ (.tail _ (.tail _ (.head _))))))
theorem eM7 {α:Type} {a0 a1 a2 a3 a4 a5 a6 x:α} {l:List α}:x∈a0::a1::a2::a3::a4::a5::a6::x::l:=.tail _ (.tail _ (.tail _ (.tail _ (.tail _ (.tail _ (.tail _ (.head _)))))))
theorem eM8 {α:Type} {a0 a1 a2 a3 a4 a5 a6 a7 x:α} {l:List α}:x∈a0::a1::a2::a3::a4::a5::a6::a7::x::l:=.tail _ (.tail _ (.tail _ (.tail _ (.tail _ (.tail _ (.tail _ (.tail _ (.head _))))))))
theorem eT2 {α:Type} {a0 a1 x:α} {l:List α} (h:x∈l):x∈a0::a1::l:=.tail _ (.tail _ h)
theorem eT3 {α:Type} {a0 a1 a2 x:α} {l:List α} (h:x∈l):x∈a0::a1::a2::l:=.tail _ (.tail _ (.tail _ h))
theorem eT4 {α:Type} {a0 a1 a2 a3 x:α} {l:List α} (h:x∈l):x∈a0::a1::a2::a3::l:=.tail _ (.tail _ (.tail _ (.tail _ h)))
theorem eT5 {α:Type} {a0 a1 a2 a3 a4 x:α} {l:List α} (h:x∈l):x∈a0::a1::a2::a3::a4::l:=.tail _ (.tail _ (.tail _ (.tail _ (.tail _ h))))
theorem eT6 {α:Type} {a0 a1 a2 a3 a4 a5 x:α} {l:List α} (h:x∈l):x∈a0::a1::a2::a3::a4::a5::l:=.tail _ (.tail _ (.tail _ (.tail _ (.tail _ (.tail _ h)))))
theorem eT7 {α:Type} {a0 a1 a2 a3 a4 a5 a6 x:α} {l:List α} (h:x∈l):x∈a0::a1::a2::a3::a4::a5::a6::l:=.tail _ (.tail _ (.tail _ (.tail _ (.tail _ (.tail _ (.tail _ h))))))
theorem eT8 {α:Type} {a0 a1 a2 a3 a4 a5 a6 a7 x:α} {l:List α} (h:x∈l):x∈a0::a1::a2::a3::a4::a5::a6::a7::l:=.tail _ (.tail _ (.tail _ (.tail _ (.tail _ (.tail _ (.tail _ (.tail _ h)))))))
inductive InL (a:Nat):List Nat→Prop where
 | hd {l:List Nat}:InL a (a::l)
 | tl {c:Nat} {l:List Nat} (h:InL a l):InL a (c::l)
inductive Bes (a b:Nat):List Nat→Prop where
 | ab {l:List Nat} (h:InL b l):Bes a b (a::l)
 | ba {l:List Nat} (h:InL a l):Bes a b (b::l)
 | tl {c:Nat} {l:List Nat} (h:Bes a b l):Bes a b (c::l)
theorem InL.mem {a:Nat} {l:List Nat} (h:InL a l):a∈l:=by
 induction h with
 | hd=>exact .head _
 | tl _ ih=>exact .tail _ ih
theorem bes {a b:Nat} {l:List Nat} (p:l.Pairwise (·<·)) (h:Bes a b l):@Ne Nat a b:=by
 induction h with
 | ab m=>exact Nat.ne_of_lt ((List.pairwise_cons.mp p).1 _ m.mem)
 | ba m=>exact Nat.ne_of_gt ((List.pairwise_cons.mp p).1 _ m.mem)
 | tl _ ih=>exact ih (List.pairwise_cons.mp p).2
theorem of_i5 {a i n m:Nat} (h:a ≤ i) (h1:i<n) (h2:n=m) (h3:m ≤ 5):a<100:=Nat.lt_of_le_of_lt h (Nat.lt_of_lt_of_le h1 (Nat.le_trans (h2 ▸ h3) (by decide)))
theorem room_step {a b n i z:Nat} (h:b+(n - i)<z) (hi:i<n) (e:a ≤ b+1):a+(n - (i+1))<z:=by
 have e1:b+1+(n - (i+1))=b+(n - i):=by
  rw [Nat.add_assoc,Nat.add_comm 1,Nat.sub_add_eq]
  exact congrArg (b+·) (Nat.sub_add_cancel (Nat.sub_pos_of_lt hi))
 exact Nat.lt_of_le_of_lt (Nat.add_le_add_right e _) (e1 ▸ h)
theorem pw974 {L:Nat} (h:974<L):[299,422,464,613,974,L,L+1,L+1+1,L+1+1+1,L+1+1+1+1,L+1+1+1+1+1].Pairwise (fun a b:Nat=>a<b):=by
 have s:∀ n:Nat,n<n+1:=Nat.lt_succ_self
 exact pw_cons (by decide) (pw_cons (by decide) (pw_cons (by decide) (pw_cons (by decide) (pw_cons h (pw_cons (s _) (pw_cons (s _) (pw_cons (s _) (pw_cons (s _) (pw_cons (s _) pw_one)))))))))
theorem fin900 {a m z:Nat} (h:a<z) (k:m ≤ 5) (d:Nat.ble (z+5) 900=true):a+m<900:=Nat.lt_of_lt_of_le (Nat.add_lt_add_of_lt_of_le h k) (Nat.le_of_ble_eq_true d)
theorem up5 {a b m z:Nat} (h:b<z) (e:a ≤ b+m) (k:m ≤ 5):a<z+5:=Nat.lt_of_le_of_lt e (Nat.add_lt_add_of_lt_of_le h k)
theorem le_line {a n:Nat} (h:a ≤ n) (k:n ≤ 1000):a ≤ 16777216:=Nat.le_trans h (Nat.le_trans k (by decide))
theorem k63 {k n:Nat} (h:k<n) (h5:n ≤ 5):(k:Int)<2 ^ 63:=i63 h (Nat.le_trans h5 (by decide))
theorem p_inv {α β:Type} {R:α→β→Prop} {a:α} {as:List α} {l:List β} (h:Paired R (a::as) l):∃ b bs,l=b::bs∧R a b∧Paired R as bs:=by
 cases h with
 | cons x r=>exact ⟨_,_,rfl,x,r⟩
theorem p_inv' {α β:Type} {R:α→β→Prop} {b:β} {bs:List β} {l:List α} (h:Paired R l (b::bs)):∃ a as,l=a::as∧R a b∧Paired R as bs:=by
 cases h with
 | cons x r=>exact ⟨_,_,rfl,x,r⟩
theorem p_nil {α β:Type} {R:α→β→Prop} {l:List β} (h:Paired R [] l):l=[]:=by
 cases h; rfl
theorem p_nil' {α β:Type} {R:α→β→Prop} {l:List α} (h:Paired R l []):l=[]:=by
 cases h; rfl
theorem da_inv {nw:List (Addr×Obj)} {d:Dat} {ds:List Dat} {l:List Value} (h:DatAll nw l (d::ds)):∃ v vs,l=v::vs∧DatIn nw v d∧DatAll nw vs ds:=by
 cases h with
 | cons x r=>exact ⟨_,_,rfl,x,r⟩
theorem da_nil {nw:List (Addr×Obj)} {l:List Value} (h:DatAll nw l []):l=[]:=by
 cases h; rfl
theorem at8 {P:Nat→Option Value→Prop} {a0 a1 a2 a3 a4 a5 a6 a7:Value} (h0:P 0 (some a0)) (h1:P 1 (some a1)) (h2:P 2 (some a2)) (h3:P 3 (some a3)) (h4:P 4 (some a4)) (h5:P 5 (some a5)) (h6:P 6 (some a6)) (h7:P 7 (some a7)) {n:Nat} (h:n<8):P n (#[a0,a1,a2,a3,a4,a5,a6,a7]:Array Value)[n]?:=by
 rcases n with _|_|_|_|_|_|_|_|n
 ·exact h0
 ·exact h1
 ·exact h2
 ·exact h3
 ·exact h4
 ·exact h5
 ·exact h6
 ·exact h7
 ·exact absurd (Nat.le_add_left 8 n) (Nat.not_le_of_gt h)
local macro_rules | `(tactic| k_ne) => `(tactic| (refine neN ?_; (try dsimp only); first | with_reducible assumption | exact Ne.symm (by with_reducible assumption) | exact ne_up (by with_reducible assumption) (by k_mem) | exact ne_dn (by with_reducible assumption) (by k_mem) | exact Nat.ne_of_lt (by with_reducible assumption) | exact Nat.ne_of_gt (by with_reducible assumption) | (refine bes ‹_› ?_; (with_reducible repeat' constructor); done) | omega))
local macro_rules | `(tactic| k_room) => `(tactic| first | (refine room_d ‹_› ?_; rfl) | (refine room1 ‹_› ?_; rfl) | (refine room2 ‹_› ?_; rfl) | exact room0 ‹_› | (refine lt_big ‹_› ?_; rfl) | (refine le_big ‹_› ?_; rfl) | (refine lt_lt ‹_› ?_; rfl) | omega | (simp only [depth_under_make, depth_under_kw, depth_in1, depth_deeper]; first | (refine room1 ‹_› ?_; rfl) | (refine room2 ‹_› ?_; rfl) | (refine room3 ‹_› ?_; rfl) | exact room0 ‹_› | omega))
local macro_rules | `(tactic| k_all) => `(tactic| with_reducible assumption)
noncomputable def runT {α:Type} (lt:Nat→Nat→Bool):KasT α→α
 | .ret a=>a
 | .ask i j k=>runT lt (k (lt i j))
noncomputable def okT {α:Type} (n:Nat):KasT α→Bool
 | .ret _=>true
 | .ask i j k=>decide (i<n) && decide (j<n) && okT n (k true) && okT n (k false)
theorem okT_k {α:Type} {n i j:Nat} {k:Bool→KasT α} (h:okT n (.ask i j k)=true):i<n∧j<n∧∀ b,okT n (k b)=true:=by
 unfold okT at h
 simp only [Bool.and_eq_true,decide_eq_true_eq] at h
 exact ⟨h.1.1.1,h.1.1.2,fun b=>by cases b; exact h.2; exact h.1.2⟩
theorem runT_congr {α:Type} {n:Nat} {lt lt':Nat→Nat→Bool} (e:∀ i j,i<n→j<n→lt i j=lt' i j):∀ t:KasT α,okT n t=true→runT lt t=runT lt' t
 | .ret _,_=>rfl
 | .ask i j k,h=>by
  obtain ⟨hi,hj,hk⟩:=okT_k h
  unfold runT
  rw [e i j hi hj]
  exact runT_congr e (k (lt' i j)) (hk _)
theorem ok5:∀ n∈[2,3,4,5],okT n (kas_sort n)=true:=by decide +kernel
noncomputable def vecs:Nat→Nat→List (List Nat)
 | _,0=>[[]]
 | b,n+1=>(vecs b n).flatMap fun v=>(List.range b).map fun x=>x::v
theorem mem_vecs {b:Nat} {n:Nat} {v:List Nat} (hl:v.length=n) (hb:∀ x∈v,x<b):v∈vecs b n:=by
 induction n generalizing v with
 | zero=>rw [List.length_eq_zero_iff.mp hl]; exact .head _
 | succ n ih=>
  cases v with
  | nil=>cases hl
  | cons x v=>exact List.mem_flatMap.mpr ⟨v,ih (Nat.succ.inj hl) fun y hy=>hb y (.tail _ hy),List.mem_map.mpr ⟨x,List.mem_range.mpr (hb x (.head _)),rfl⟩⟩
noncomputable def ascB (r:Nat→Nat):List Nat→Bool
 | []=>true
 | a::l=>l.all (fun b=>decide (r a<r b ∨ (r a=r b∧a<b))) && ascB r l
noncomputable def sortedB (n:Nat) (v:List Nat):Bool:=
 let p:=(runT (fun i j=>decide (v.getD i 0<v.getD j 0)) (kas_sort n)).toList
 (p.length == n) && p.all (·<n) && ascB (fun i=>v.getD i 0) p
theorem sorted5:∀ n∈[2,3,4,5],(vecs n n).all (sortedB n)=true:=by decide +kernel
theorem countP_lt {α:Type} {p q:α→Bool} {l:List α} (h:∀ x∈l,p x=true→q x=true) (e:∃ x∈l,q x=true∧p x=false):l.countP p<l.countP q:=by
 induction l with
 | nil=>exact e.elim fun _ e=>absurd e.1 List.not_mem_nil
 | cons y l ih=>
  have hle:l.countP p ≤ l.countP q:=List.countP_mono_left fun z hz=>h z (.tail _ hz)
  rw [List.countP_cons,List.countP_cons]
  obtain ⟨x,hx,hq,hp⟩:=e
  by_cases c:q y=true∧p y=false
  ·rw [c.1,c.2]; exact Nat.lt_succ_of_le hle
  ·have ih:=ih (fun z hz=>h z (.tail _ hz)) ⟨x,(List.mem_cons.mp hx).resolve_left (fun e=>c (e ▸ ⟨hq,hp⟩)),hq,hp⟩
   refine Nat.add_lt_add_of_lt_of_le ih ?_
   by_cases d:p y=true
   ·rw [d,h y (.head _) d]; exact Nat.le_refl _
   ·rw [Bool.eq_false_iff.mpr d]; exact Nat.zero_le _
noncomputable def rk (kz:List Int) (i:Nat):Nat:=kz.countP fun x=>decide (x<kz.getD i 0)
theorem getD_mem {kz:List Int} {i:Nat} (h:i<kz.length):kz.getD i 0∈kz:=by
 rw [List.getD_eq_getElem?_getD,List.getElem?_eq_getElem h]; exact List.getElem_mem h
theorem rk_lt {kz:List Int} {i j:Nat} (hi:i<kz.length):kz.getD i 0<kz.getD j 0→rk kz i<rk kz j:=fun h=>
 countP_lt (fun x _ hx=>by simp only [decide_eq_true_eq] at *; omega) ⟨_,getD_mem hi,by simpa using h,by simp⟩
theorem rk_le {kz:List Int} {i j:Nat} (h:kz.getD j 0 ≤ kz.getD i 0):rk kz j ≤ rk kz i:=List.countP_mono_left fun x _ hx=>by simp only [decide_eq_true_eq] at *; omega
theorem rk_iff {kz:List Int} {i j:Nat} (hi:i<kz.length):(rk kz i<rk kz j) ↔ kz.getD i 0<kz.getD j 0:=by
 refine ⟨fun h=>?_,rk_lt hi⟩
 rcases Int.lt_or_le (kz.getD i 0) (kz.getD j 0) with c|c
 ·exact c
 ·exact absurd h (Nat.not_lt.mpr (rk_le c))
theorem rk_eq {kz:List Int} {i j:Nat} (hi:i<kz.length) (hj:j<kz.length) (h:rk kz i=rk kz j):kz.getD i 0=kz.getD j 0:=by
 have h1:¬ kz.getD i 0<kz.getD j 0:=fun q=>by have:=(rk_iff hi).mpr q; omega
 have h2:¬ kz.getD j 0<kz.getD i 0:=fun q=>by have:=(rk_iff hj).mpr q; omega
 omega
theorem rk_bound {kz:List Int} {i:Nat} (hi:i<kz.length):rk kz i<kz.length:=by
 have:rk kz i<kz.countP (fun _=>true):=countP_lt (fun _ _ _=>rfl) ⟨_,getD_mem hi,rfl,by simp⟩
 simpa using this
theorem asc_of {r:Nat→Nat} {T:Nat→Nat→Prop} {l:List Nat} (k:∀ a∈l,∀ b∈l,(r a<r b ∨ (r a=r b∧a<b))→T a b) (h:ascB r l=true):l.Pairwise T:=by
 induction l with
 | nil=>exact .nil
 | cons a l ih=>
  unfold ascB at h
  rw [Bool.and_eq_true,List.all_eq_true] at h
  exact .cons (fun b hb=>k a (.head _) b (.tail _ hb) (by simpa using h.1 b hb)) (ih (fun x hx y hy=>k x (.tail _ hx) y (.tail _ hy)) h.2)
noncomputable def sortPl (n:Nat) (kz:List Int):List Nat:=(runT (fun i j=>decide (kz.getD i 0<kz.getD j 0)) (kas_sort n)).toList
theorem sortPl_spec {n:Nat} (hn:n∈[2,3,4,5]) {kz:List Int} (hl:kz.length=n) :
  (sortPl n kz).length=n∧(∀ a∈sortPl n kz,a<n)∧(sortPl n kz).Pairwise fun a b=>kz.getD a 0<kz.getD b 0 ∨ (kz.getD a 0=kz.getD b 0∧a<b):=by
 have hv:((List.range n).map (rk kz))∈vecs n n:=mem_vecs (by simp) fun x hx=>by
  obtain ⟨i,hi,rfl⟩:=List.mem_map.mp hx
  rw [←hl]; exact rk_bound (by rw [hl]; exact List.mem_range.mp hi)
 have gd:∀ i,i<n→((List.range n).map (rk kz)).getD i 0=rk kz i:=fun i hi=>by simp [hi]
 have e:sortPl n kz=(runT (fun i j=>decide (((List.range n).map (rk kz)).getD i 0<((List.range n).map (rk kz)).getD j 0)) (kas_sort n)).toList:=by
  unfold sortPl
  rw [runT_congr (n:=n) (fun i j hi hj=>?_) _ (ok5 n hn)]
  rw [gd i hi,gd j hj]
  exact decide_eq_decide.mpr (rk_iff (by rw [hl]; exact hi)).symm
 have h:=List.all_eq_true.mp (sorted5 n hn) _ hv
 unfold sortedB at h
 dsimp only at h
 rw [←e] at h
 simp only [Bool.and_eq_true,beq_iff_eq,List.all_eq_true,decide_eq_true_eq] at h
 obtain ⟨⟨h1,h2⟩,h3⟩:=h
 refine ⟨h1,h2,asc_of (fun a ha b hb=>?_) h3⟩
 have ha:=h2 a ha
 have hb:=h2 b hb
 rw [gd a ha,gd b hb]
 rintro (q|⟨q,q'⟩)
 ·exact .inl ((rk_iff (by rw [hl]; exact ha)).mp q)
 ·exact .inr ⟨rk_eq (by rw [hl]; exact ha) (by rw [hl]; exact hb) q,q'⟩
theorem neWorld:Nonempty World:=⟨aWorld 0⟩
theorem neModel:Nonempty Model:=⟨model PySem.Challenge.pw_jh0025_02 (aWorld 0)⟩
set_option genSizeOf false in
set_option genInjectivity false in
structure Wit {α:Type} (P:α→Prop) where
 x:α
 h:P x→∀ y,P y
theorem wit {α:Type} (ne:Nonempty α) (P:α→Prop):Nonempty (Wit P):=ne.elim fun a=>Classical.byCases (p:=∃ p,¬ P p) (fun ⟨p,hp⟩=>⟨⟨p,fun h=>absurd h hp⟩⟩) fun no=>⟨⟨a,fun _ y=>Classical.byContradiction fun q=>no ⟨y,q⟩⟩⟩
structure Ne₀ (α:Type):Prop where
 h:[Nonempty World]→[Nonempty Around]→[Nonempty Shared]→[Nonempty Model]→[Nonempty PyData]→Nonempty α
theorem Ne₀.out {α:Type} (ne:Ne₀ α):Nonempty α:=@ne.h neWorld ⟨{}⟩ ⟨{}⟩ neModel ⟨.none⟩
noncomputable def eps {α:Type} (P:α→Prop) (ne:Ne₀ α):α:=(Classical.choice (wit ne.out P)).x
noncomputable abbrev U {α β γ:Type} (f:α→β→γ) (v:α×β):γ:=f v.1 v.2
noncomputable abbrev T2 {α β ρ:Type} (f:α→β→ρ) (v:α×β):ρ:=f v.1 v.2
noncomputable abbrev T3 {α β γ ρ:Type} (f:α→β→γ→ρ) (v:α×β×γ):ρ:=f v.1 v.2.1 v.2.2
noncomputable abbrev T4 {α β γ δ ρ:Type} (f:α→β→γ→δ→ρ) (v:α×β×γ×δ):ρ:=f v.1 v.2.1 v.2.2.1 v.2.2.2
noncomputable abbrev T5 {α β γ δ ε ρ:Type} (f:α→β→γ→δ→ε→ρ) (v:α×β×γ×δ×ε):ρ:=f v.1 v.2.1 v.2.2.1 v.2.2.2.1 v.2.2.2.2
noncomputable abbrev T6 {α β γ δ ε ζ ρ:Type} (f:α→β→γ→δ→ε→ζ→ρ) (v:α×β×γ×δ×ε×ζ):ρ:=f v.1 v.2.1 v.2.2.1 v.2.2.2.1 v.2.2.2.2.1 v.2.2.2.2.2
theorem eps0 {α:Type} {ne:Ne₀ α} (P:α→Prop) (c:α) (e:c=eps P ne) (h:P c) (x:α):P x:=(Classical.choice (wit ne.out P)).h (show P (eps P ne) from e ▸ h) x
open PySem.Builtin PySem.Builtin.ObjectAttr
noncomputable def dropRefs:List Value→List Value
 | .ref _::r=>dropRefs r
 | l=>l
theorem refuse_drop (self:Value) (l:List Value):refuseLoop self "__setattr__" l=refuseLoop self "__setattr__" (dropRefs l):=by
 induction l with
 | nil=>rfl
 | cons v r ih=>cases v<;>first|(rw [refuseLoop_ref]; exact ih)|rfl
theorem drop_has {x:Value}:∀ {l:List Value},(dropRefs l).contains x=true→l.contains x=true
 | [],h=>h
 | .ref c::r,h=>by rw [List.contains_cons,drop_has (l:=r) h,Bool.or_true]
 | v::r,h=>by
  cases v<;>first|exact h|(rw [List.contains_cons,drop_has (l:=r) h,Bool.or_true])
noncomputable abbrev excTail:List Value:=[.type "Exception",.type "BaseException",.type "object"]
noncomputable def excOver (K:Frag) (C:Addr):Bool:=(clsIn K C).any fun cd=>cd.hasDict && dropRefs cd.mro == excTail
noncomputable abbrev excObj (C:Addr) (od:Option Addr) (t:Addr):Obj:={ cls:=.ref C,dict:=od,data:=.fields #[.ref t,.none,.none,.none,.bool false,.none] }
section
variable {prog:Program} {w:World} {A:Around} {E:Vp} {s:Shared} {K:Frag} {C L x t:Addr} {h₀:Heap} {m:Sm} {news:List (Addr×Obj)} {R:Rp}
abbrev Z09P (prog:Program) (w:World) (A:Around) (s:Shared) (K:Frag) (C x:Addr) (R:Rp) (ox:Obj) (od:Option Obj) (name:Str) (tk:Tok) (v:Value) (r:Option Value):Prop:=∀ (X:K.In s.heap) (I:InstAt s.heap x ox C od) (hp:excOver K C=true) (ht:takerIn K C name=some r) (h:∀ b,wpAny (model prog w) A.in1 (match r with|some a=>setByDescriptor a (.ref x) v|none=>storeInOwnDict (.ref x) (.ref C) (.str name tk) name v b)
   (fun fin s'=>match fin with|.done f=>R (.ok f) s'|.again c'=>c'.quiet=true∧codeAny (model prog w) A c' R s') (fun e s'=>R (.error e) s') s),codeAny (model prog w) A (.call (.builtin "object.__setattr__") ⟨[.ref x,.str name tk,v],[]⟩) R s
abbrev Z09cq:=U fun a=>U fun b c=>T2 (T6 (T6 Z09P a) b) c
def Z09c:=eps Z09cq ⟨inferInstance⟩
theorem osa_openE {prog:Program} {w:World} {A:Around} {s:Shared} {K:Frag} {C x:Addr} {R:Rp} {ox:Obj} {od:Option Obj} {name:Str} {tk:Tok} {v:Value} {r:Option Value}:Z09P prog w A s K C x R ox od name tk v r:=eps0 Z09cq Z09c rfl (by
 show Z09P Z09c.1.1 Z09c.1.2.1 Z09c.1.2.2.1 Z09c.1.2.2.2.1 Z09c.1.2.2.2.2.1 Z09c.1.2.2.2.2.2 Z09c.2.1.1 Z09c.2.1.2.1 Z09c.2.1.2.2.1 Z09c.2.1.2.2.2.1 Z09c.2.1.2.2.2.2.1 Z09c.2.1.2.2.2.2.2 Z09c.2.2.1 Z09c.2.2.2
 generalize Z09c.1.1=prog,Z09c.1.2.1=w,Z09c.1.2.2.1=A,Z09c.1.2.2.2.1=s,Z09c.1.2.2.2.2.1=K,Z09c.1.2.2.2.2.2=C,Z09c.2.1.1=x,Z09c.2.1.2.1=R,Z09c.2.1.2.2.1=ox,Z09c.2.1.2.2.2.1=od,Z09c.2.1.2.2.2.2.1=name,Z09c.2.1.2.2.2.2.2=tk,Z09c.2.2.1=v,Z09c.2.2.2=r
 intro X I hp ht h
 have SF:=PySem.F.store_object
 have SX:=PySem.F.store_Exception
 obtain ⟨cd,hc,ho'⟩:=any_some hp
 obtain ⟨-,ho⟩:=Bool.and_eq_true_iff.mp ho'
 have ho:=beq_iff_eq.mp ho
 have ne:cd.mro.isEmpty=false:=by cases q:cd.mro with|nil=>rw [q] at ho; cases ho|cons _ _=>rfl
 have has:cd.mro.contains (.type "object")=true:=drop_has (by rw [ho]; simp)
 have sub:Looks (model prog w) s.heap (isInstance (.ref x) (.type "object")) true:=I.type.andThen (looks_mroIn X (by unfold mroIn; rw [hc,Option.bind_some,if_neg (by rw [ne]; decide),has]))
 refine codeAny_call_builtin SF.slot.plain SF.entry (@check_slot (model prog w) _ _ s "object.__setattr__" "object" "__setattr__" (.ref x) [.str name tk,v] [] _ SF.kind SF.split sub (SF.args (.ref x) (.str name tk) v) ?_)
 obtain ⟨attr,ha,hr⟩:=Option.bind_eq_some_iff.mp ht
 have hm:Looks (model prog w) s.heap (mroOf (.ref C)) cd.mro:=(looks_clsIn X hc).andThen .now
 have L3:Looks (model prog w) s.heap (storeTaker? attr) r:=by
  cases attr with
  | none=>cases hr; exact .now
  | some a=>
   obtain ⟨b,hb,rfl⟩:=Option.map_eq_some_iff.mp hr
   refine (looks_takesIn X hb).andThen ?_
   cases b<;>exact .now
 rw [osa_eq,refuse_eq]
 refine wpAny_bind (wpAny_bind (I.type.here (wpAny_bind (hm.here ?_))))
 rw [refuse_drop,ho,SX.passes]
 exact wpAny_pure (wpAny_bind (I.type.here (wpAny_bind ((looks_findIn X ha).here (wpAny_bind (L3.here (h _)))))))) ((prog,w,A,s,K,C),(x,R,ox,od,name,tk),(v,r))
abbrev Z0gP (prog:Program) (w:World) (A:Around) (E:Vp) (s:Shared) (K:Frag) (C L x t:Addr) (h₀:Heap) (m:Sm) (news:List (Addr×Obj)) (Q:Unit→Shared→Prop) (name:Str) (v:Value):Prop:=∀ (F:Fr h₀ L s.heap m) (X₀:K.In h₀) (N:News h₀ L s.heap ((x,excObj C none t)::news)) (hx:∀ p∈news,p.1≠x) (hs:findIn K (.ref C) "__setattr__" = some (some (.builtin "object.__setattr__"))) (hp:excOver K C=true) (ht:takerIn K C name=some none) (h:∀ h' dx k,Fr h₀ L h' m→News h₀ L h' ((x,excObj C (some dx) t)::(dx,dictOf [⟨PyData.keyHash w.params name,.str name k,v⟩] 1)::news)→(∀ p∈news,p.1<dx)→x<dx→Q () { s with heap:=h',toks:=s.toks+2 }),wpAny (model prog w) A (setAttr (.ref x) name v) Q E s
abbrev Z0gcq:=U fun a=>U fun b c=>T4 (T6 (T6 Z0gP a) b) c
def Z0gc:=eps Z0gcq ⟨inferInstance⟩
theorem set_exc1 {prog:Program} {w:World} {A:Around} {E:Vp} {s:Shared} {K:Frag} {C L x t:Addr} {h₀:Heap} {m:Sm} {news:List (Addr×Obj)} {Q:Unit→Shared→Prop} {name:Str} {v:Value}:Z0gP prog w A E s K C L x t h₀ m news Q name v:=eps0 Z0gcq Z0gc rfl (by
 show Z0gP Z0gc.1.1 Z0gc.1.2.1 Z0gc.1.2.2.1 Z0gc.1.2.2.2.1 Z0gc.1.2.2.2.2.1 Z0gc.1.2.2.2.2.2 Z0gc.2.1.1 Z0gc.2.1.2.1 Z0gc.2.1.2.2.1 Z0gc.2.1.2.2.2.1 Z0gc.2.1.2.2.2.2.1 Z0gc.2.1.2.2.2.2.2 Z0gc.2.2.1 Z0gc.2.2.2.1 Z0gc.2.2.2.2.1 Z0gc.2.2.2.2.2
 generalize Z0gc.1.1=prog,Z0gc.1.2.1=w,Z0gc.1.2.2.1=A,Z0gc.1.2.2.2.1=E,Z0gc.1.2.2.2.2.1=s,Z0gc.1.2.2.2.2.2=K,Z0gc.2.1.1=C,Z0gc.2.1.2.1=L,Z0gc.2.1.2.2.1=x,Z0gc.2.1.2.2.2.1=t,Z0gc.2.1.2.2.2.2.1=h₀,Z0gc.2.1.2.2.2.2.2=m,Z0gc.2.2.1=news,Z0gc.2.2.2.1=Q,Z0gc.2.2.2.2.1=name,Z0gc.2.2.2.2.2=v
 intro F X₀ N hx hs hp ht h
 have X:=X₀.keeps F.keep
 have hgx:=(N _ (.head _)).1
 have I:InstAt s.heap x (excObj C none t) C none:=⟨hgx,rfl,rfl,trivial⟩
 refine set_plain X I hs (osa_openE (s:={ s with toks:=s.toks+1 }) X I hp ht fun b=>?_)
 obtain ⟨cd,hc,hd'⟩:=any_some hp
 have hd':=(Bool.and_eq_true_iff.mp hd').1
 have N1:=N.push F (emptyDict)
 have F1:=F.push emptyDict
 have hlt:x<s.heap.objs.size:=Heap.lt_size hgx
 have N1':News h₀ L (s.heap.push emptyDict) ([(s.heap.objs.size,emptyDict)]++(x,excObj C none t)::news):=N1
 obtain ⟨F2,N2⟩:=news_upd (f:=fun o=>{ o with dict:=some s.heap.objs.size }) (o':=excObj C (some s.heap.objs.size) t) F1 N1'
  (fun p hp=>by obtain rfl:=List.mem_singleton.mp hp; exact Nat.ne_of_gt hlt) hx rfl rfl
 have N2':News h₀ L _ ([]++(s.heap.objs.size,dictOf [] 0)::(x,excObj C (some s.heap.objs.size) t)::news):=N2
 have lo:∀ p∈(x,excObj C (some s.heap.objs.size) t)::news,p.1≠s.heap.objs.size:=fun p hp=>by
  rcases List.mem_cons.mp hp with rfl|hp
  ·exact Nat.ne_of_lt hlt
  ·exact Nat.ne_of_lt (Heap.lt_size (N _ (.tail _ hp)).1)
 obtain ⟨F3,N3⟩:=news_upd (f:=Obj.putName name (PyData.keyHash w.params name) (.str name (s.toks+1)) v) (o':=dictOf [⟨PyData.keyHash w.params name,.str name (s.toks+1),v⟩] 1) F2 N2' (fun p hp=>nomatch hp) lo
  (by rw [putName_dict]; rfl) rfl
 refine wpAny_bind (wpAny_pure (wpAny_bind (wpAny_bind (wpAny_loadPart hgx (wpAny_bind (looks_clsIn X hc _ _ _ _ (fun _ _ e=>e) ?_))))))
 rw [hd']
 refine wpAny_bind (wpAny_alloc ?_)
 have hx₁:(s.heap.push emptyDict).get? x=some (excObj C none t):=Heap.get?_push_of_some _ hgx
 refine wpAny_bind (wpAny_update' hx₁ (wpAny_bind (wpAny_pure ?_)))
 have D:((s.heap.push emptyDict).update x fun o=>{ o with dict:=some s.heap.objs.size }).get? s.heap.objs.size=some (dictOf [] 0):=(N2' _ (.head _)).1
 have D':=(N3 _ (.head _)).1
 refine wpAny_pure (a:=some s.heap.objs.size) (wpAny_bind (wpAny_pure (wpAny_bind ?_)))
 unfold nsSet
 refine wpAny_bind (wpAny_bind (wpAny_askSetting (wpAny_pure (wpAny_bind (wpAny_mkText (wpAny_bind (wpAny_loadPart D ?_)))))))
 dsimp only
 refine wpAny_updatePart D ?_
 refine wpAny_bind (wpAny_lookBehind D' rfl ?_)
 refine wpAny_pure (h _ s.heap.objs.size (s.toks+1) F3 ?_ (fun p hp=>Heap.lt_size (N _ (.tail _ hp)).1) hlt)
 intro p hp
 refine N3 p ?_
 rcases List.mem_cons.mp hp with rfl|hp
 ·exact eM1
 ·rcases List.mem_cons.mp hp with rfl|hp
  ·exact .head _
  ·exact eT2 hp) ((prog,w,A,E,s,K),(C,L,x,t,h₀,m),(news,Q,name,v))
abbrev Z0fP (prog:Program) (w:World) (A:Around) (E:Vp) (s:Shared) (K:Frag) (C L x t:Addr) (h₀:Heap) (m:Sm) (news:List (Addr×Obj)) (Q:Unit→Shared→Prop) (name:Str) (v:Value) (dx:Addr) (es es':List DictEntry) (n n':Nat):Prop:=∀ (F:Fr h₀ L s.heap m) (X₀:K.In h₀) (N:News h₀ L s.heap ((x,excObj C (some dx) t)::(dx,dictOf es n)::news)) (hx:∀ p∈news,p.1≠dx) (hxd:x≠dx) (hs:findIn K (.ref C) "__setattr__" = some (some (.builtin "object.__setattr__"))) (hp:excOver K C=true) (ht:takerIn K C name=some none) (hl:(getL name es).isSome=true) (e:(putL name (PyData.keyHash w.params name) (.str name (s.toks+1)) v es,putN name es n)=(es',n')) (hz:es'.length ≤ 1000) (h:∀ h',Fr h₀ L h' m→News h₀ L h' ((x,excObj C (some dx) t)::(dx,dictOf es' n')::news)→Q () { s with heap:=h',toks:=s.toks+2 }),wpAny (model prog w) A (setAttr (.ref x) name v) Q E s
abbrev Z0fcq:=U fun a=>U fun b=>U fun c d=>T3 (T6 (T6 (T6 Z0fP a) b) c) d
def Z0fc:=eps Z0fcq ⟨inferInstance⟩
theorem set_exc2 {prog:Program} {w:World} {A:Around} {E:Vp} {s:Shared} {K:Frag} {C L x t:Addr} {h₀:Heap} {m:Sm} {news:List (Addr×Obj)} {Q:Unit→Shared→Prop} {name:Str} {v:Value} {dx:Addr} {es es':List DictEntry} {n n':Nat}:Z0fP prog w A E s K C L x t h₀ m news Q name v dx es es' n n':=eps0 Z0fcq Z0fc rfl (by
 show Z0fP Z0fc.1.1 Z0fc.1.2.1 Z0fc.1.2.2.1 Z0fc.1.2.2.2.1 Z0fc.1.2.2.2.2.1 Z0fc.1.2.2.2.2.2 Z0fc.2.1.1 Z0fc.2.1.2.1 Z0fc.2.1.2.2.1 Z0fc.2.1.2.2.2.1 Z0fc.2.1.2.2.2.2.1 Z0fc.2.1.2.2.2.2.2 Z0fc.2.2.1.1 Z0fc.2.2.1.2.1 Z0fc.2.2.1.2.2.1 Z0fc.2.2.1.2.2.2.1 Z0fc.2.2.1.2.2.2.2.1 Z0fc.2.2.1.2.2.2.2.2 Z0fc.2.2.2.1 Z0fc.2.2.2.2.1 Z0fc.2.2.2.2.2
 generalize Z0fc.1.1=prog,Z0fc.1.2.1=w,Z0fc.1.2.2.1=A,Z0fc.1.2.2.2.1=E,Z0fc.1.2.2.2.2.1=s,Z0fc.1.2.2.2.2.2=K,Z0fc.2.1.1=C,Z0fc.2.1.2.1=L,Z0fc.2.1.2.2.1=x,Z0fc.2.1.2.2.2.1=t,Z0fc.2.1.2.2.2.2.1=h₀,Z0fc.2.1.2.2.2.2.2=m,Z0fc.2.2.1.1=news,Z0fc.2.2.1.2.1=Q,Z0fc.2.2.1.2.2.1=name,Z0fc.2.2.1.2.2.2.1=v,Z0fc.2.2.1.2.2.2.2.1=dx,Z0fc.2.2.1.2.2.2.2.2=es,Z0fc.2.2.2.1=es',Z0fc.2.2.2.2.1=n,Z0fc.2.2.2.2.2=n'
 intro F X₀ N hx hxd hs hp ht hl e hz h
 have X:=X₀.keeps F.keep
 have hgx:=(N _ (.head _)).1
 have D:=(N _ eM1).1
 obtain ⟨e1,e2⟩:=Prod.mk.inj e
 have I:InstAt s.heap x (excObj C (some dx) t) C (some (dictOf es n)):=⟨hgx,rfl,rfl,D⟩
 refine set_plain X I hs (osa_openE (s:={ s with toks:=s.toks+1 }) X I hp ht fun b=>?_)
 obtain ⟨cd,hc,hd'⟩:=any_some hp
 have hd':=(Bool.and_eq_true_iff.mp hd').1
 have N':News h₀ L s.heap ([(x,excObj C (some dx) t)]++(dx,dictOf es n)::news):=N
 obtain ⟨F3,N3⟩:=news_upd (f:=Obj.putName name (PyData.keyHash w.params name) (.str name (s.toks+1)) v) (o':=dictOf es' n') F N' (fun p hp=>by obtain rfl:=List.mem_singleton.mp hp; exact hxd) hx
  (by rw [putName_dict,e1,e2]) rfl
 refine wpAny_bind (wpAny_pure (wpAny_bind (wpAny_bind (wpAny_loadPart hgx (wpAny_bind (looks_clsIn X hc _ _ _ _ (fun _ _ e=>e) ?_))))))
 rw [hd']
 refine wpAny_pure (a:=some dx) (wpAny_bind (wpAny_pure (wpAny_bind ?_)))
 have D':=(N3 _ eM1).1
 unfold nsSet
 refine wpAny_bind (wpAny_bind (wpAny_askSetting (wpAny_pure (wpAny_bind (wpAny_mkText (wpAny_bind (wpAny_loadPart D ?_)))))))
 dsimp only
 have c:(!es.toArray.any (·.key.isStr name) && es.toArray.any (·.refKey))=false:=by
  rw [←Array.any_toList,←Array.any_toList]
  unfold getL at hl
  split at hl
  ·rename_i en he
   rw [List.any_eq_true.mpr ⟨en,List.mem_of_find?_eq_some he,List.find?_some he⟩]; rfl
  ·split at hl
   ·cases hl
   ·rename_i z; rw [Bool.not_eq_true] at z; rw [z,Bool.and_false]
 rw [aRefKeyMayBeTheName_at,c]
 refine wpAny_updatePart D ?_
 refine wpAny_bind (wpAny_lookBehind D' (pastItsLine_dict (by rw [List.size_toArray,sizeLine_eq]; omega)) ?_)
 exact wpAny_pure (h _ F3 N3)) ((prog,w,A,E,s,K),(C,L,x,t,h₀,m),(news,Q,name,v,dx,es),(es',n,n'))
end
noncomputable def clsD (d:Data):Option ClassData:=match d with
 | .cls cd=>some cd
 | _=>none
theorem clsD_of {d:Data} {cd:ClassData} (h:clsD d=some cd):d=.cls cd:=by
 cases d<;>first|exact congrArg Data.cls (Option.some.inj h)|cases h
noncomputable def excInitIn (K:Frag) (C fI:Addr):Bool:=((K.lookup C).bind fun o=>(clsD o.data).map fun cd=>
 (o.cls == .type "type" && cd.mro.head? == some (.ref C)) && (o.slots.toList.length == 6 && o.slots.toList[4]? == some (some (.builtin "Exception.__new__"))) && (!cd.hasDel && tailIn K excTail cd.mro.tail) && (nsOkIn K cd.ns && nsIn K cd.ns "__init__" == some (some (.ref fI)))).getD false
theorem ns_some_of {K:Frag} {h:Heap} {N:Addr} {mg:Sm} {n:Str} {v:Value} (X:K.In h) (G:h.Ns N mg) (e:nsIn K N n=some (some v)):mg n=some v:=by
 obtain ⟨⟨c,d,da,sl⟩,es,ep,ho,hd,_,hf⟩:=G
 obtain rfl:da=.dict es ep:=hd
 unfold nsIn at e
 generalize hq:K.lookup N=r at e
 cases r with
 | none=>cases e
 | some o'=>
  obtain rfl:=Option.some.inj ((X _ _ hq).symm.trans ho)
  rw [←hf]
  unfold nsFind findBy
  rw [←Array.find?_toList]
  dsimp only at e
  generalize es.toList.find? (fun x=>x.key.isStr n)=r at e ⊢
  cases r with
  | none=>exact absurd e (by dsimp only; by_cases q:es.toList.any (·.refKey)=true<;>simp [q])
  | some en=>exact Option.some.inj e
theorem six_of {x:Option Value} {l:List (Option Value)} (h:l.length=6) (e:l[4]?=some x):l=[l.getD 0 none,l.getD 1 none,l.getD 2 none,l.getD 3 none,x,l.getD 5 none]:=by
 obtain ⟨a0,l,rfl⟩:=List.exists_cons_of_length_eq_add_one h
 obtain ⟨a1,l,rfl⟩:=List.exists_cons_of_length_eq_add_one (Nat.succ.inj h)
 obtain ⟨a2,l,rfl⟩:=List.exists_cons_of_length_eq_add_one (Nat.succ.inj (Nat.succ.inj h))
 obtain ⟨a3,l,rfl⟩:=List.exists_cons_of_length_eq_add_one (Nat.succ.inj (Nat.succ.inj (Nat.succ.inj h)))
 obtain ⟨a4,l,rfl⟩:=List.exists_cons_of_length_eq_add_one (Nat.succ.inj (Nat.succ.inj (Nat.succ.inj (Nat.succ.inj h))))
 obtain ⟨a5,l,rfl⟩:=List.exists_cons_of_length_eq_add_one (Nat.succ.inj (Nat.succ.inj (Nat.succ.inj (Nat.succ.inj (Nat.succ.inj h)))))
 obtain rfl:=List.length_eq_zero_iff.mp (Nat.succ.inj (Nat.succ.inj (Nat.succ.inj (Nat.succ.inj (Nat.succ.inj (Nat.succ.inj h))))))
 obtain rfl:=Option.some.inj e
 rfl
theorem getD_true {r:Option Bool} (h:r.getD false=true):r=some true:=by
 cases r with
 | none=>cases h
 | some b=>exact congrArg some h
theorem clsObj_of {o:Obj} {cd:ClassData} {C:Addr} (hd:o.data=.cls cd) (hc:o.cls=.type "type") (hm:cd.mro.head?=some (.ref C)) (hdel:cd.hasDel=false) {k0 k1 k2 k3 k5:Option Value} (hs:o.slots.toList=[k0,k1,k2,k3,some (.builtin "Exception.__new__"),k5]) :
  o=excClassObj cd.name cd.qualname C cd.ns cd.bases cd.mro.tail cd.hasDict cd.slotNames cd.subclasses cd.abstract cd.collection o.dict k0 k1 k2 k3 k5 "Exception.__new__" := by
 have e1:cd.mro=.ref C::cd.mro.tail:=by
  cases h:cd.mro with
  | nil=>rw [h] at hm; cases hm
  | cons a l=>rw [h] at hm; rw [Option.some.inj hm]; rfl
 have e2:cd=⟨cd.name,cd.bases,.ref C::cd.mro.tail,cd.ns,cd.qualname,cd.hasDict,cd.slotNames,cd.subclasses,cd.abstract,cd.collection,false⟩:=by rw [←e1,←hdel]
 have e3:o.slots=#[k0,k1,k2,k3,some (.builtin "Exception.__new__"),k5]:=Array.toList_inj.mp hs
 show (⟨o.cls,o.dict,o.data,o.slots⟩:Obj)=⟨.type "type",o.dict,.cls _,#[k0,k1,k2,k3,some (.builtin "Exception.__new__"),k5]⟩
 rw [←e2,←hd,←hc,←e3]
theorem exc_init_of {K:Frag} {h:Heap} {C fI:Addr} (X:K.In h) (q:excInitIn K C fI=true):∃ (cd:ClassData) (dd:Option Addr) (k:List (Option Value)) (mN:Sm),
  h.get? C=some (excClassObj cd.name cd.qualname C cd.ns cd.bases cd.mro.tail cd.hasDict cd.slotNames cd.subclasses cd.abstract cd.collection dd (k.getD 0 none) (k.getD 1 none) (k.getD 2 none) (k.getD 3 none) (k.getD 5 none) "Exception.__new__")∧OwnTail h excTail cd.mro.tail∧h.Ns cd.ns mN∧mN "__init__" = some (.ref fI):=by
 obtain ⟨o,ho,q⟩:=Option.bind_eq_some_iff.mp (getD_true q)
 obtain ⟨cd,hd,q⟩:=Option.map_eq_some_iff.mp q
 have q:=Bool.and_eq_true_iff.mp q
 have h4:=Bool.and_eq_true_iff.mp q.2
 have q:=Bool.and_eq_true_iff.mp q.1
 have h3:=Bool.and_eq_true_iff.mp q.2
 have q:=Bool.and_eq_true_iff.mp q.1
 have h1:=Bool.and_eq_true_iff.mp q.1
 have h2:=Bool.and_eq_true_iff.mp q.2
 exact ⟨cd,o.dict,o.slots.toList,_,(X _ _ ho).trans (congrArg some (clsObj_of (clsD_of hd) (eq_of_beq h1.1) (eq_of_beq h1.2) ((Bool.not_eq_true' _).mp h3.1) (six_of (eq_of_beq h2.1) (eq_of_beq h2.2)))),tail_of_in X h3.2,.of_isNs (isNs_of_in X h4.1),ns_some_of X (.of_isNs (isNs_of_in X h4.1)) (eq_of_beq h4.2)⟩
section
variable {prog:Program} {w:World} {A:Around} {E:Vp} {h:Heap} {g:Array GenState} {d:Drawn} {t:Nat} {os:OsState}
variable {nm q:Str} {C N:Addr} {bs bm:List Value} {hdct:Bool} {sn:List Str} {sub:List Value} {ab:Bool} {col:Option Bool} {dd:Option Addr} {k0 k1 k2 k3 k5:Option Value}
theorem type_call_own (T:OwnTail h excTail bm) {mN:Sm} {rest:List Value} {fI:Addr} {oI:Obj} {Q:Fin→Shared→Prop}
  (hC:h.get? C=some (excClassObj nm q C N bs bm hdct sn sub ab col dd k0 k1 k2 k3 k5 "Exception.__new__")) (hn:h.Ns N mN) (hi:mN "__init__" = some (.ref fI))
  (hfI:h.get? fI=some oI) (hfc:oI.cls=.type "function")
  (hq:wpAny (model prog w) A (call (.ref fI) (.ref (h.objs.size+1)::rest)) (fun r s'=>r=.none∧Q (.done (.ret (.ref (h.objs.size+1)))) s') E
   ⟨(h.push { cls:=.type "tuple",data:=.seq rest.toArray }).push (excObj C none h.objs.size),g,d,t,os⟩) (hrest:rest.length ≤ sizeLine) :
  wpAny (model prog w) A (Builtin.«type.__call__» ⟨.ref C::rest,[]⟩) Q E ⟨h,g,d,t,os⟩:=by
 have F:=PySem.F.excBase_Exception
 have hBn:excTail.contains (.type "Exception")=true:=by decide
 repeat (first|with_reducible refine wpAny_loadPart_at hC ?_|with_reducible refine wpAny_madeBy_exc hC ?_|wp_step)
 refine codeAny_call_builtin_code (Code.quiet_builtin _ F.quiet) (wpAny_check_new_subU F hBn T hC ?_)
 refine codeAny_exc_new_subU F hBn F T hC ?_ hrest
 show wpAny _ _ _ _ _ _
 have hC₁:=Heap.get?_push_of_some (excObj C none h.objs.size) (Heap.get?_push_of_some { cls:=.type "tuple",data:=.seq rest.toArray } hC)
 have hfI₁:=Heap.get?_push_of_some (excObj C none h.objs.size) (Heap.get?_push_of_some { cls:=.type "tuple",data:=.seq rest.toArray } hfI)
 have hn₁:((h.push { cls:=.type "tuple",data:=.seq rest.toArray }).push (excObj C none h.objs.size)).Ns N mN:=
  let ⟨o,es,ep,e,r⟩:=hn; ⟨o,es,ep,Heap.get?_push_of_some _ (Heap.get?_push_of_some _ e),r⟩
 have hget:((h.push { cls:=.type "tuple",data:=.seq rest.toArray }).push (excObj C none h.objs.size)).get? (h.objs.size+1)=some (excObj C none h.objs.size):=by heap_get
 have hcC:(Value.ref C::bm).contains (.ref C)=true:=by simp
 have T₁:=T.keeps (h':=(h.push { cls:=.type "tuple",data:=.seq rest.toArray }).push (excObj C none h.objs.size)) fun b o e=>Heap.get?_push_of_some _ (Heap.get?_push_of_some _ e)
 unfold isInstance
 repeat (first|with_reducible refine wpAny_loadPart_at hget ?_|(with_reducible refine wpAny_isSubtype_exc hC₁ ?_; rw [hcC])|wp_step)
 show wpAny _ _ (typeLookup (.ref C) _) _ _ _
 refine wpAny_typeLookup_tail hC₁ hn₁ T₁ F.mroIs F.init.lookup ?_
 rw [hi]
 refine wpAny_holding (wpAny_bind ?_)
 unfold bindSpecial
 refine wpAny_bind (wpAny_typeOf (T := "function") ⟨_,hfI₁,hfc⟩ ?_)
 rw [if_pos (by decide)]
 refine wpAny_pure (wpAny_bind (wpAny_mono hq (fun r s' hr=>?_) fun _ _ x=>x))
 obtain ⟨rfl,hQ⟩:=hr
 wp_walk
 exact hQ
theorem call_own {K:Frag} {fI:Addr} {rest:List Value} {Q:Vp} (X:K.In h) (hx:excInitIn K C fI=true) (hf:typeIn K (.ref fI)=some (.type "function"))
  (hq:wpAny (model prog w) (A.under (.builtin "type.__call__" ⟨.ref C::rest,[]⟩)) (call (.ref fI) (.ref (h.objs.size+1)::rest)) (fun r s'=>r=.none∧Q (.ref (h.objs.size+1)) s') E
   ⟨(h.push { cls:=.type "tuple",data:=.seq rest.toArray }).push (excObj C none h.objs.size),g,d,t,os⟩) (hrest:rest.length ≤ sizeLine) :
  wpAny (model prog w) A (call (.ref C) rest) Q E ⟨h,g,d,t,os⟩:=by
 obtain ⟨cd,dd,k,mN,hC,T,hn,hi⟩:=exc_init_of X hx
 have f1:=tc_lookup
 have f2:=tc_bind (.ref C)
 have hT:(⟨h,g,d,t,os⟩:Shared).TypeIs (.ref C) "type" := ⟨_,hC,rfl⟩
 obtain ⟨oI,hfI,hfc⟩:∃ oI,h.get? fI=some oI∧oI.cls=.type "function" := by
  obtain ⟨o,ho,hc⟩:=Option.map_eq_some_iff.mp (show (K.lookup fI).map (·.cls)=some (.type "function") from hf)
  exact ⟨o,X _ _ ho,hc⟩
 refine wpAny_call (codeAny_of_tree ?_)
 show wpAny _ _ (callAny (.ref C) _) _ _ _
 repeat (any_goals (first|assumption|with_reducible refine wpAny_loadPart_at hC ?_|wp_step))
 refine ⟨rfl,?_⟩
 exact codeAny_call_builtin_at (Code.quiet_builtin _ (by decide +kernel)) entry_typeCall (wpAny_check_type_call_sub hC (type_call_own T hC hn hi hfI hfc hq hrest))
end
noncomputable abbrev P2:Program:=PySem.Challenge.pw_jh0025_02
noncomputable def Mod (as:List Addr) (h h':Heap):Prop:=∀ b o,h.get? b=some o→b∉as→h'.get? b=some o
theorem Mod.of {as:List Addr} {h h':Heap} {L:Addr} {m:Sm} (F:Fr (hideAll h as) L h' m):Mod as h h':=
 fun b o e n=>F.keep b o (hideAll_get _ e n)
theorem enter {prog:Program} {w:World} {A:Around} {s:Shared} {B:Heap} {Λ:List (Addr×Obj)} {K:Frag} {p:Program} {loose:List Str} {mg mb:Sm}
  {R:Rp} {name qual:Str} {params:Arguments} {body:List Stmt} {scope:Scope} {dV kV doc pm cdv ct oc:Value} {an od:Option Addr} {osl:Array (Option Value)} {f:Addr} {args:Args} {binds:List (Str×Value)}
  (X:K.In B) (T:TopRead p loose mg mb B) (hB:B.StaysIn s.heap) (hΛ:∀ p∈Λ,s.heap.get? p.1=some p.2) (hΛB:∀ p∈Λ,B.get? p.1=none)
  (ho:K.lookup f=some ⟨oc,od,.func (fnOf name qual params body scope dV kV doc pm an cdv ct),osl⟩) (hcd:codeIn K cdv qual=true) (hroom:A.depth<recursionLimit)
  (hbind:BindsTo s (fnOf name qual params body scope dV kV doc pm an cdv ct) args binds) (hloc:∀ y∈binds,scope.names.lookup y.1=some .local)
  (h:∀ g L' h₁,g=hideAll s.heap (Λ.map (·.1))→(∀ p∈Λ,p.1<L')→K.In g→TopRead p loose mg mb g→Fr g L' h₁ (fun y=>binds.reverse.lookup y)→News g L' h₁ Λ →
   wpAny (model prog w) (A.deeper (envOf qual scope L' f cdv)) (execs body (envOf qual scope L' f cdv))
    (fun fl s'=>R (.ok (.ret (match fl with|.ret v=>v|_=>.none))) s')
    (fun e s'=>wpAny (model prog w) (A.deeper (envOf qual scope L' f cdv)) (leaving (envOf qual scope L' f cdv) e) (fun _ s''=>R (.error e) s'') (fun e' s''=>R (.error e') s'') s')
    { s with heap:=h₁,toks:=s.toks+binds.length })
  (hco:scope.isCoroutine=false) (hgen:scope.isGenerator=false) (hk:scope.kind=.function)
  (hcell:∀ x∈scope.names,x.2≠.cell):codeAny (model prog w) A (.call (.ref f) args) R s:=by
 have st:B.StaysIn (hideAll s.heap (Λ.map (·.1))):=fun b o e=>hideAll_get _ (hB b o e) fun hm=>by
  obtain ⟨q,hq,rfl⟩:=List.mem_map.mp hm
  rw [hΛB q hq] at e; cases e
 refine codeAny_call_def (fd:=fnOf name qual params body scope dV kV doc pm an cdv ct) (body:=body) (binds:=binds) hroom (hB _ _ (X _ _ ho)) rfl (T.nolimit.keeps hB) (codeRec_of (X.keeps hB) hcd) rfl hbind hcell hloc (fun h₁ hns hk₁=>?_) hco hgen hk
 exact h _ s.heap.objs.size h₁ rfl (fun p hp=>Heap.lt_size (hΛ p hp)) (X.keeps st) (T.keeps st) ⟨hns,fun b o e=>hk₁ b o (of_hideAll _ e),Nat.le_of_eq (hideAll_size _ _)⟩ fun p hp=>⟨hk₁ _ _ (hΛ p hp),Nat.ne_of_lt (Heap.lt_size (hΛ p hp)),hideAll_none _ (List.mem_map_of_mem hp)⟩
structure Mk where
 h:Nat→Int
 t:Nat→Tok
deriving Nonempty
noncomputable abbrev mgrEs (x:Mk) (who:Str) (tw:Tok) (key:Int) (tk:Tok) (plan log:Addr) (kept:Int) (t5:Tok) (value:Int) (t6:Tok) (ready:Value):List DictEntry:=
 [⟨x.h 0,.str "who" (x.t 0),.str who tw⟩,⟨x.h 1,.str "key" (x.t 1),.int key tk⟩,⟨x.h 2,.str "plan" (x.t 2),.ref plan⟩,⟨x.h 3,.str "log" (x.t 3),.ref log⟩,
  ⟨x.h 4,.str "deed" (x.t 4),.none⟩,⟨x.h 5,.str "kept" (x.t 5),.int kept t5⟩,⟨x.h 6,.str "value" (x.t 6),.int value t6⟩,⟨x.h 7,.str "ready" (x.t 7),ready⟩]
noncomputable def Tr2 (h base:Heap) (e:Addr) (cls a0:Value) (fl:Option Value):Prop:=
 ∃ oe vs,h.get? e=some oe∧oe.cls=cls∧oe.data=.fields vs∧vs[0]?=some a0∧vs[2]?=some .none ∧
  match fl with
  | none=>vs[1]?=some .none
  | some v=>∃ T oT ts,vs[1]?=some (.ref T)∧base.get? T=none∧T≠e∧h.get? T=some oT∧oT.data=.fields ts∧ts[3]?=some v
structure Up2 (base:Heap) (l:List Env) (e:Addr) (cls a0:Value) (fl:Option Value) (h:Heap):Prop where
 stays:base.StaysIn h
 new:base.get? e=none
 frames:h.FunFrames base l
 rcd:Tr2 h base e cls a0 fl
section
variable {M:Model} {A:Around} {E:Vp} {s:Shared} {base:Heap} {env:Env} {outer l:List Env} {L e:Addr} {cls a0:Value}
theorem not_rec {h:Heap} {a:Addr} {oa:Obj} {vs:Array Value} (ha:h.get? a=some oa) (hd:oa.data=.fields vs) {b:Addr} {o:Obj} (hb:h.get? b=some o) (hn:∀ vs,o.data≠.fields vs):b≠a:=fun q=>by
 rw [q,ha] at hb
 obtain rfl:=Option.some.inj hb
 exact hn vs hd
theorem set_keeps {h:Heap} {a:Addr} {oa:Obj} {vs:Array Value} {i:Nat} {x:Value} {Λ:List Env} (ha:h.get? a=some oa) (hd:oa.data=.fields vs) (hna:base.get? a=none) (hs:base.StaysIn h) (hf:h.FunFrames base Λ) :
  base.StaysIn (h.update a (Obj.mapFields (·.setIfInBounds i x)))∧(h.update a (Obj.mapFields (·.setIfInBounds i x))).FunFrames base Λ∧h.UpToSlots (h.update a (Obj.mapFields (·.setIfInBounds i x))) ∧
   (∀ b,b≠a→(h.update a (Obj.mapFields (·.setIfInBounds i x))).get? b=h.get? b) ∧
   ∃ o',(h.update a (Obj.mapFields (·.setIfInBounds i x))).get? a=some o'∧o'.cls=oa.cls∧o'.data=.fields (vs.setIfInBounds i x):=by
 have ne:∀ b,b≠a→(h.update a (Obj.mapFields (·.setIfInBounds i x))).get? b=h.get? b:=fun b hb=>Heap.get?_update_other _ _ (Ne.symm hb)
 have nr:∀ b o,h.get? b=some o→(∀ vs,o.data≠.fields vs)→(h.update a (Obj.mapFields (·.setIfInBounds i x))).get? b=some o:=fun b o hb hn=>(ne b (not_rec ha hd hb hn)).trans hb
 have hd':=Obj.data_mapFields hd (·.setIfInBounds i x)
 refine ⟨fun b o hb=>(ne b fun q=>?_).trans (hs b o hb),hf.of_keeps fun b o hb hn=>⟨o,nr b o hb hn,rfl⟩,fun b o hb hn=>⟨o.slots,nr b o hb hn⟩,ne,_,Heap.get?_update_self _ ha (Obj.isFreed_of_fields hd'),Obj.cls_mapFields _ _,hd'⟩
 rw [q,hna] at hb; cases hb
theorem flight2 {v:Value} {fr:Option Addr} {Q:Unit→Shared→Prop} (U:Up2 base l e cls a0 (some v) s.heap)
  (h:∀ h',Up2 base l e cls a0 (some (fr.elim .none fun f=>rawInt f)) h'→s.heap.UpToSlots h'→Q () { s with heap:=h' }):wpAny M A (setFlight (.ref e) fr) Q E s:=by
 obtain ⟨u1,u2,u3,oe,vs,he,hc,hd,h0,h2,T,oT,ts,h1,hbT,hTe,hT,hdT,h3⟩:=U
 have hsz:3<ts.size:=(Array.getElem?_eq_some_iff.mp h3).1
 unfold setFlight
 refine wpAny_bind (wpAny_field he hd h1 ?_)
 rw [if_pos (show (Value.ref T != Value.none)=true from by simp)]
 obtain ⟨k1,k2,k3,k4,o',k5,k6,k7⟩:=set_keeps (i:=3) (x:=fr.elim .none fun f=>rawInt f) hT hdT hbT u1 u3
 exact wpAny_setField hT hdT hsz (h _ ⟨k1,u2,k2,oe,vs,(k4 e (Ne.symm hTe)).trans he,hc,hd,h0,h2,T,o',_,h1,hbT,hTe,k5,k7,by simp [hsz]⟩ k3)
theorem entry2 {head:Value} {hadNext:Bool} {oe:Obj} {vs:Array Value} {Q:Unit→Shared→Prop} (hfr:A.frames=some (env::outer)) (hf:env.frame=some L) (u1:base.StaysIn s.heap) (u2:base.get? e=none) (u3:s.heap.FunFrames base (env::outer))
  (he:s.heap.get? e=some oe) (hc:oe.cls=cls) (hd:oe.data=.fields vs) (h0:vs[0]?=some a0) (h2:vs[2]?=some .none)
  (h:∀ h',Up2 base (env::outer) e cls a0 (some (rawInt L)) h'→s.heap.UpToSlots h'→Q () { s with heap:=h' }) :
  wpAny M A (do let a ←frameOf env; let pl ←entryPlaceOf L hadNext; let b ←EntryCells.newEntry head a .none (rawInt L) .none pl; setField (.ref e) 1 b) Q E s:=by
 have sz:2<vs.size:=(Array.getElem?_eq_some_iff.mp h2).1
 have hnf:∀ b∈(env::outer).filterMap (·.frame),b≠e:=fun b hb q=>by
  obtain ⟨_,o,ho,hn⟩:=u3.mem hb
  rw [q,he] at ho
  obtain rfl:=Option.some.inj ho
  exact hn vs hd
 refine wpAny_bind (wpAny_frameOf_fun hfr u3 hf fun h₁ hs₁=>wpAny_bind (wpAny_entryPlaceOf fun pl hpl=>?_))
 have f1:h₁.FunFrames base (env::outer):=u3.of_slotsOnly hs₁
 have b1:base.StaysIn h₁:=fun b o hb=>(hs₁.2.1 b fun hm=>by rw [(u3.mem hm).1] at hb; cases hb).trans (u1 b o hb)
 have e1:h₁.get? e=some oe:=(hs₁.2.1 e fun hm=>hnf e hm rfl).trans he
 unfold EntryCells.newEntry newFields
 refine wpAny_bind (wpAny_newObj_type ?_ (hpl.sizeOk5 _ _ _ _ _))
 have hbT:base.get? h₁.objs.size=none:=b1.fresh
 have hTe:h₁.objs.size≠e:=Nat.ne_of_gt (Heap.lt_size e1)
 have e2:=Heap.get?_push_of_some { cls:=.type "traceback",dict:=none,data:=.fields ([head,.ref L,.none,rawInt L,.none]++(if pl.isEmpty then List.replicate 6 Value.none else pl)).toArray } e1
 have t2:(h₁.push { cls:=.type "traceback",dict:=none,data:=.fields ([head,.ref L,.none,rawInt L,.none]++(if pl.isEmpty then List.replicate 6 Value.none else pl)).toArray }).get? h₁.objs.size=some _:=Heap.get?_push_size h₁ rfl
 obtain ⟨k1,k2,k3,k4,o',k5,k6,k7⟩:=set_keeps (i:=1) (x:=.ref h₁.objs.size) (Λ:=env::outer) e2 hd u2 (fun b o hb=>Heap.get?_push_of_some _ (b1 b o hb)) (f1.of_keeps fun b o hb _=>⟨o,Heap.get?_push_of_some _ hb,rfl⟩)
 refine wpAny_setField e2 hd (Nat.lt_of_succ_lt sz) (h _ ⟨k1,u2,k2,o',_,k5,k6.trans hc,k7,by rw [Array.getElem?_setIfInBounds_ne (by decide)]; exact h0,by rw [Array.getElem?_setIfInBounds_ne (by decide)]; exact h2,
  h₁.objs.size,_,_,by simp [Nat.lt_of_succ_lt sz],hbT,hTe,(k4 _ hTe).trans t2,rfl,by simp⟩ ?_)
 intro b o hb hn
 obtain ⟨sl,hs⟩:=hs₁.2.2 b o hb
 obtain ⟨sl',hs'⟩:=k3 b _ (Heap.get?_push_of_some _ hs) hn
 exact ⟨sl',hs'⟩
theorem note2 {fl:Option Value} {Q:Unit→Shared→Prop} (hfr:A.frames=some (env::outer)) (hf:env.frame=some L) (U:Up2 base (env::outer) e cls a0 fl s.heap) (hfl:fl=none ∨ fl=some .none)
  (h:∀ h',Up2 base (env::outer) e cls a0 (some (rawInt L)) h'→s.heap.UpToSlots h'→Q () { s with heap:=h' }):wpAny M A (noteFrame (.ref e) env) Q E s:=by
 obtain ⟨u1,u2,u3,oe,vs,he,hc,hd,h0,h2,r⟩:=U
 unfold noteFrame
 simp only [hf]
 rcases hfl with rfl|rfl
 ·refine wpAny_bind (wpAny_field he hd r ?_)
  rw [if_neg (by decide)]
  exact entry2 hfr hf u1 u2 u3 he hc hd h0 h2 h
 ·obtain ⟨T,oT,ts,h1,hbT,hTe,hT,hdT,h3⟩:=r
  have hsz:3<ts.size:=(Array.getElem?_eq_some_iff.mp h3).1
  refine wpAny_bind (wpAny_field he hd h1 ?_)
  rw [if_pos (show (Value.ref T != Value.none)=true from by simp)]
  refine wpAny_bind (wpAny_field hT hdT h3 ?_)
  rw [if_neg (show ¬ ((Value.none == rawInt L)=true) from by simp [rawInt])]
  obtain ⟨k1,k2,k3,k4,o',k5,k6,k7⟩:=set_keeps (i:=3) (x:=.none) hT hdT hbT u1 u3
  exact wpAny_bind (wpAny_setField hT hdT hsz (entry2 hfr hf k1 u2 k2 ((k4 e (Ne.symm hTe)).trans he) hc hd h0 h2 fun h' x y=>h h' x (k3.trans y)))
theorem again2 {Q:Unit→Shared→Prop} (hf:env.frame=some L) (U:Up2 base l e cls a0 (some (rawInt L)) s.heap) (h:Q () s):wpAny M A (noteFrame (.ref e) env) Q E s:=by
 obtain ⟨u1,u2,u3,oe,vs,he,hc,hd,h0,h2,T,oT,ts,h1,hbT,hTe,hT,hdT,h3⟩:=U
 unfold noteFrame
 simp only [hf]
 refine wpAny_bind (wpAny_field he hd h1 ?_)
 rw [if_pos (show (Value.ref T != Value.none)=true from by simp)]
 refine wpAny_bind (wpAny_field hT hdT h3 ?_)
 rw [if_pos (show (rawInt L == rawInt L)=true from by simp)]
 exact wpAny_pure h
theorem Up2.pop {fl:Option Value} {h:Heap} (U:Up2 base (env::outer) e cls a0 fl h):Up2 base outer e cls a0 fl h:=⟨U.stays,U.new,U.frames.2.2,U.rcd⟩
theorem leave2 {fl:Option Value} {Q:Unit→Shared→Prop} (hfr:A.frames=some (env::outer)) (hf:env.frame=some L) (U:Up2 base (env::outer) e cls a0 fl s.heap) (hfl:fl=none ∨ fl=some .none)
  (h:∀ h',Up2 base outer e cls a0 (some .none) h'→s.heap.UpToSlots h'→Q () { s with heap:=h' }):wpAny M A (leaving env (.ref e)) Q E s:=by
 unfold leaving
 exact wpAny_bind (note2 hfr hf U hfl fun h₁ U₁ x₁=>flight2 (fr:=none) U₁ fun h₂ U₂ x₂=>h h₂ U₂.pop (x₁.trans x₂))
theorem leave2_held {Q:Unit→Shared→Prop} (hf:env.frame=some L) (U:Up2 base (env::outer) e cls a0 (some (rawInt L)) s.heap)
  (h:∀ h',Up2 base outer e cls a0 (some .none) h'→s.heap.UpToSlots h'→Q () { s with heap:=h' }):wpAny M A (leaving env (.ref e)) Q E s:=by
 unfold leaving
 exact wpAny_bind (again2 hf U (flight2 (fr:=none) U fun h₂ U₂ x₂=>h h₂ U₂.pop x₂))
theorem cameBack2 {v:Value} {E':Vp} (hf:env.frame=some L) (U:Up2 base l e cls a0 (some v) s.heap)
  (h:∀ h',Up2 base l e cls a0 (some (rawInt L)) h'→s.heap.UpToSlots h'→E' (.ref e) { s with heap:=h' }):cameBackBy M A env E' (.ref e) s:=by
 have U':=U
 obtain ⟨u1,u2,u3,oe,vs,he,hc,hd,h0,h2,T,oT,ts,h1,hbT,hTe,hT,hdT,h3⟩:=U
 unfold cameBackBy
 refine wpAny_bind (wpAny_field he hd h1 ?_)
 rw [if_neg (show ¬ ((Value.ref T == Value.none)=true) from by simp)]
 rw [hf]
 exact flight2 (fr:=some L) U' h
end
theorem entry_unchain:entryFor table "proto.unchain" = some Builtin.«proto.unchain»:=entryFor_of_tree (by kernel_rfl)
noncomputable def HandOk (A:Around) (h:Heap):Prop:=A.handled=none ∨ ∃ e oe vs,A.handled=some (.ref e)∧h.get? e=some oe∧oe.data=.fields vs∧vs[2]?=some .none
section
variable {prog:Program} {w:World} {A:Around} {E:Vp} {s:Shared}
theorem raise_in {α:Type} {a:Addr} {oa:Obj} {vs:Array Value} {Q:α→Shared→Prop} {E':Vp} (H:HandOk A s.heap) (ha:s.heap.get? a=some oa) (hd:oa.data=.fields vs) (hz:2<vs.size) (hne:∀ e,A.handled=some (.ref e)→e≠a)
  (h:∀ h',(∀ b,b≠a→h'.get? b=s.heap.get? b)→(∃ o',h'.get? a=some o'∧o'.cls=oa.cls)→E' (.ref a) { s with heap:=h' }):wpAny (model prog w) A (raiseNew (.ref a):Sem α) Q E' s:=by
 unfold raiseNew
 refine wpAny_bind (wpAny_handled ?_)
 rcases H with H|⟨e,oe,vs',H,he,hde,h2⟩
 ·rw [H]
  exact wpAny_bind (wpAny_pure (wpAny_throw (h _ (fun _ _=>rfl) ⟨oa,ha,rfl⟩)))
 ·rw [H]
  have ne:=hne e H
  dsimp only
  rw [if_pos (show (Value.ref e != Value.ref a)=true from bne_iff_ne.mpr fun q=>ne (Value.ref.inj q))]
  refine wpAny_bind (wpAny_holding (wpAny_runValue (codeAny_builtin entry_unchain ?_)))
  unfold Builtin.«proto.unchain»
  refine wpAny_bind (wpAny_field he hde h2 ?_)
  rw [if_pos (by decide)]
  refine wpAny_pure ?_
  have hd':=Obj.data_mapFields hd (·.setIfInBounds 2 (.ref e))
  refine wpAny_bind ?_
  show wpAny _ _ (setField (.ref a) 2 (.ref e)) _ _ _
  exact wpAny_setField ha hd hz (wpAny_throw (h _ (fun b hb=>Heap.get?_update_other _ _ (Ne.symm hb)) ⟨_,Heap.get?_update_self _ ha (Obj.isFreed_of_fields hd'),Obj.cls_mapFields _ _⟩))
abbrev Z0aP (prog:Program) (w:World) (A:Around) (E:Vp) (s:Shared) (it l:Addr) (i:Nat) (items:Array Value) (Q:Option Value→Shared→Prop):Prop:=∀ (H:HandOk A s.heap) (hnh:∀ e,A.handled=some (.ref e)→e≠it∧e<s.heap.objs.size) (hit:s.heap.IsListIter it l i) (hl:s.heap.IsList l items) (hx:items[i]?=none) (hQ:∀ h',Heap.ExtBut it s.heap h'→Q none { s with heap:=h' }),wpAny (model prog w) A (pyNext (.ref it)) Q E s
abbrev Z0acq:=U fun a b=>T4 (T6 Z0aP a) b
def Z0ac:=eps Z0acq ⟨inferInstance⟩
theorem next_end2 {prog:Program} {w:World} {A:Around} {E:Vp} {s:Shared} {it l:Addr} {i:Nat} {items:Array Value} {Q:Option Value→Shared→Prop}:Z0aP prog w A E s it l i items Q:=eps0 Z0acq Z0ac rfl (by
 show Z0aP Z0ac.1.1 Z0ac.1.2.1 Z0ac.1.2.2.1 Z0ac.1.2.2.2.1 Z0ac.1.2.2.2.2.1 Z0ac.1.2.2.2.2.2 Z0ac.2.1 Z0ac.2.2.1 Z0ac.2.2.2.1 Z0ac.2.2.2.2
 generalize Z0ac.1.1=prog,Z0ac.1.2.1=w,Z0ac.1.2.2.1=A,Z0ac.1.2.2.2.1=E,Z0ac.1.2.2.2.2.1=s,Z0ac.1.2.2.2.2.2=it,Z0ac.2.1=l,Z0ac.2.2.1=i,Z0ac.2.2.2.1=items,Z0ac.2.2.2.2=Q
 intro H hnh hit hl hx hQ
 obtain ⟨o,ho,hc,hd⟩:=id hit
 obtain ⟨ol,hol,_,nl,hdl⟩:=hl
 unfold pyNext
 refine wpAny_bind (wpAny_attempt (wpAny_callSpecial?_slot (name:=Str.ofString "__next__") hit.typeIs slot_listiter_next
  (wpAny_call_entry slot_listiter_next hit.typeIs entry_listiter_next ?_ (args_listiter_next _))))
 show wpAny _ _ (field (.ref it) 0 >>= _) _ _ s
 refine wpAny_bind (wpAny_field ho hd (x:=.ref l) rfl ?_)
 show wpAny _ _ (if (Value.ref l == Value.none)=true then _ else _) _ _ s
 rw [if_neg (show ¬ ((Value.ref l == Value.none)=true) from Bool.false_ne_true)]
 show wpAny _ _ (field (.ref it) 1 >>= _) _ _ s
 refine wpAny_bind (wpAny_field ho hd (x:=.int i 0) rfl ?_)
 show wpAny _ _ (seqItems? (.ref l) >>= _) _ _ s
 refine wpAny_bind (wpAny_seqItems hol hdl ?_)
 simp only [Int.toNat_natCast,hx]
 refine wpAny_bind (wpAny_rule (wpAny_bind (wpAny_setField ho hd (by simp) ?_)))
 show wpAny _ _ (newExc (.type "StopIteration") [] >>= _) _ _ _
 refine wpAny_bind ?_
 simp only [newExc,newTuple]
 refine wpAny_bind (wpAny_newObj_type ?_ (by size_fits))
 refine wpAny_bind (m:=firstArgMember _ _) (wpAny_of_eq (a:=Value.none) (by first|rfl|(simp only [firstArgMember]; rfl)) ?_)
 refine wpAny_newObj_type ?_ (by size_fits)
 refine raise_in (oa:=_) ?_ (Heap.get?_push_size _ rfl) rfl (by simp; omega) (fun e he=>?_) fun h' k ⟨o',ko,kc⟩=>?_
 ·rcases H with H|⟨e,oe,vs',H,he,hde,h2⟩
  ·exact .inl H
  ·exact .inr ⟨e,oe,vs',H,Heap.get?_push_of_some _ (Heap.get?_push_of_some _ ((Heap.get?_update_other _ _ (Ne.symm (hnh e H).1)).trans he)),hde,h2⟩
 ·have:=(hnh e he).2
  simp only [Heap.size_push,Heap.size_update]
  exact Nat.ne_of_lt (Nat.lt_succ_of_lt this)
 ·refine wpAny_bind (wpAny_isInstance (T := "StopIteration") (b:=true) ⟨o',ko,kc⟩ isSubtype_stop ?_)
  refine wpAny_pure (hQ _ fun b ob hb e=>?_)
  refine (k b fun q=>?_).trans (Heap.get?_push_of_some _ (Heap.get?_push_of_some _ ((Heap.get?_update_other _ _ (Ne.symm hb)).trans e)))
  have:=Heap.lt_size e
  rw [q] at this
  simp only [Heap.size_push,Heap.size_update] at this
  exact Nat.lt_irrefl _ (Nat.lt_of_succ_lt this)) ((prog,w,A,E,s,it),(l,i,items,Q))
end
section
local macro_rules | `(tactic| k_unfold) => `(tactic| ((with_reducible refine tok_any fun tk => ?_); (try dsimp only)))
local macro_rules | `(tactic| k_unfold) => `(tactic| ((with_reducible show wpAny _ _ _ _ _ (Shared.mk _ _ _ (Shared.toks _) _)); dsimp only))
local macro_rules | `(tactic| k_unfold) => `(tactic| ((with_reducible show wpAny _ _ (PySem.exec _ _) _ _ _); k_fold))
local macro_rules | `(tactic| k_lt $h:ident) => `(tactic| skip)
local macro_rules | `(tactic| k_lt2 $h:ident) => `(tactic| (replace $h := lt_up (by with_reducible assumption) $h))
local macro_rules | `(tactic| walk_at "setAttr ref") => `(tactic| (k_here; k_dflt (refine' set_any (by k_asm) (by k_asm) (by k_asm) (by k_inst) rfl (by k_is) (by k_is) (by k_is) (by k_is) (by k_get) (by k_put) (by k_upd) (Nat.le_of_ble_eq_true rfl) ?_; k_whole; intro h' tk' F' N'; (try k_sweep))))
theorem fill02:PySem.Challenge.rw_jh0025_02=PySem.Challenge.rw_jh0025_02∧Mine.hd.heap_1=Mine.hd.heap_1:=by
 k_fill
 exact ⟨rfl,rfl⟩
theorem over779 (q:Params):excOver (hd.heap_1 q) 779=true:=by kernel_rfl
theorem over799 (q:Params):excOver (hd.heap_1 q) 799=true:=by kernel_rfl
theorem init779 (q:Params):excInitIn (hd.heap_1 q) 779 776=true:=by kernel_rfl
theorem init799 (q:Params):excInitIn (hd.heap_1 q) 799 796=true:=by kernel_rfl
theorem init_refusal {w:World} {A:Around} {s:Shared} {B:Heap} {e t:Addr} {who what:Str} {ta tb:Tok} {R:Rp} {loose:List Str} {mg mb:Sm}
  (X:(hd.heap_1 w.params).In B) (T:TopRead pq loose mg mb B) (hB:B.StaysIn s.heap) (hroom:A.depth<recursionLimit)
  (he:s.heap.get? e=some (excObj 779 none t)) (fe:B.get? e=none)
  (h:∀ h' tk dx,s.heap.get? e=some (excObj 779 none t)→h'.get? e=some (excObj 779 (some dx) t)→Mod [e] s.heap h'→R (.ok (.ret .none)) { s with heap:=h',toks:=tk }) :
  codeAny (model P2 w) A (.call (.ref 776) ⟨[.ref e,.str who ta,.str what tb],[]⟩) R s:=by
 k_dflt (refine' enter (Λ:=[(e,excObj 779 none t)]) X T hB ?k1 ?k2 ?k6 ?k7 hroom ?k9 ?kL ?_ ?c2 ?c3 ?c4 ?c5)
 (case k6=>k_is)
 (case k7=>k_is)
 (case k9=>exact BindsTo.of_eq rfl)
 (case kL=>exact locs rfl)
 (case c2=>exact rfl)
 (case c3=>exact rfl)
 (case c4=>exact rfl)
 (case c5=>decide)
 (case k1=>simp only [List.forall_mem_cons]; exact ⟨he,fun p hp=>nomatch hp⟩)
 (case k2=>simp only [List.forall_mem_cons]; exact ⟨fe,fun p hp=>nomatch hp⟩)
 intro g L' h₁ hg l1 KX TX F N
 k_lt l1
 dsimp only
 k_steps
 refine set_exc1 F KX N (fun p hp=>nomatch hp) (by k_is) (over779 _) (by k_is) ?_
 intro h₂ dx k F₂ N₂ l2 l3
 have q:@Ne Nat e dx:=Nat.ne_of_lt l3
 k_steps
 refine set_exc2 F₂ KX N₂ (fun p hp=>nomatch hp) q (by k_is) (over779 _) (by k_is) rfl rfl (Nat.le_of_ble_eq_true rfl) ?_
 intro h₃ F₃ N₃
 k_steps
 exact h h₃ _ dx he (N₃ _ (.head _)).1 (by rw [hg] at F₃; exact Mod.of F₃)
theorem init_passing {w:World} {A:Around} {s:Shared} {B:Heap} {e t:Addr} {who what:Str} {ta tb:Tok} {R:Rp} {loose:List Str} {mg mb:Sm}
  (X:(hd.heap_1 w.params).In B) (T:TopRead pq loose mg mb B) (hB:B.StaysIn s.heap) (hroom:A.depth<recursionLimit)
  (he:s.heap.get? e=some (excObj 799 none t)) (fe:B.get? e=none)
  (h:∀ h' tk dx,s.heap.get? e=some (excObj 799 none t)→h'.get? e=some (excObj 799 (some dx) t)→Mod [e] s.heap h'→R (.ok (.ret .none)) { s with heap:=h',toks:=tk }) :
  codeAny (model P2 w) A (.call (.ref 796) ⟨[.ref e,.str who ta,.str what tb],[]⟩) R s:=by
 k_dflt (refine' enter (Λ:=[(e,excObj 799 none t)]) X T hB ?k1 ?k2 ?k6 ?k7 hroom ?k9 ?kL ?_ ?c2 ?c3 ?c4 ?c5)
 (case k6=>k_is)
 (case k7=>k_is)
 (case k9=>exact BindsTo.of_eq rfl)
 (case kL=>exact locs rfl)
 (case c2=>exact rfl)
 (case c3=>exact rfl)
 (case c4=>exact rfl)
 (case c5=>decide)
 (case k1=>simp only [List.forall_mem_cons]; exact ⟨he,fun p hp=>nomatch hp⟩)
 (case k2=>simp only [List.forall_mem_cons]; exact ⟨fe,fun p hp=>nomatch hp⟩)
 intro g L' h₁ hg l1 KX TX F N
 k_lt l1
 dsimp only
 k_steps
 refine set_exc1 F KX N (fun p hp=>nomatch hp) (by k_is) (over799 _) (by k_is) ?_
 intro h₂ dx k F₂ N₂ l2 l3
 have q:@Ne Nat e dx:=Nat.ne_of_lt l3
 k_steps
 refine set_exc2 F₂ KX N₂ (fun p hp=>nomatch hp) q (by k_is) (over799 _) (by k_is) rfl rfl (Nat.le_of_ble_eq_true rfl) ?_
 intro h₃ F₃ N₃
 k_steps
 exact h h₃ _ dx he (N₃ _ (.head _)).1 (by rw [hg] at F₃; exact Mod.of F₃)
noncomputable abbrev frs (l:List Env):List Addr:=l.filterMap (·.frame)
theorem raise_own {M:Model} {A:Around} {E:Vp} {s:Shared} {env:Env} {K:Frag} {C fI:Addr} {x:Sem Value} {Q:Fp} (hx:excInitIn K C fI=true) (hh:A.handled=none)
  (h:wpAny M A x (fun v s₁=>∃ e t od,v=.ref e∧K.In s₁.heap∧s₁.heap.get? e=some (excObj C od t)∧E (.ref e) s₁) E s) :
  wpAny M A (raiseStmt env (some x) none) Q E s:=by
 unfold raiseStmt
 refine wpAny_bind (wpAny_mono h (fun v s₁ h₁=>?_) fun _ _ x=>x)
 obtain ⟨e,t,od,rfl,X,he,hE⟩:=h₁
 obtain ⟨cd,dd,k,mN,hC,T,hn,hi⟩:=exc_init_of X hx
 have hcB:(Value.ref C::cd.mro.tail).contains (.type "BaseException")=true:=by rw [List.contains_cons,T.hasType (b:=true) (by decide),Bool.or_true]
 obtain ⟨hp,g,d,tk,os⟩:=s₁
 repeat (first|with_reducible refine wpAny_loadPart_at he ?_|with_reducible refine wpAny_loadPart_at hC ?_|(with_reducible refine wpAny_isSubtype_exc hC ?_; rw [hcB])|wp_step)
 exact wpAny_raiseNew_none hh hE
theorem Raise_own {M:Model} {A:Around} {E:Vp} {s:Shared} {env:Env} {K:Frag} {C fI:Addr} {x:Expr} {pos:Pos} {Q:Fp} (hx:excInitIn K C fI=true) (hh:A.handled=none)
  (h:wpAny M A (eval x env) (fun v s₁=>∃ e t od,v=.ref e∧K.In s₁.heap∧s₁.heap.get? e=some (excObj C od t)∧E (.ref e) s₁) E s) :
  wpAny M A (exec (.Raise (some x) none pos) env) Q E s:=by
 rw [arm_exec_Raise]
 exact wpAny_bind (wpAny_standAt (raise_own hx hh (wpAny_bind (wpAny_mono h (fun v s₁ h₁=>wpAny_bind (wpAny_standAt (wpAny_pure h₁))) fun _ _ x=>x))))
theorem fresh_of {h g:Heap} {Λ:List Addr} {b:Addr} (hg:g=hideAll h Λ) (hn:g.get? b=none) (nb:b∉Λ):h.get? b=none:=by
 cases q:h.get? b with
 | none=>rfl
 | some o=>rw [hg,hideAll_get _ q nb] at hn; cases hn
theorem mod_of {h g h':Heap} {Λ as:List Addr} {L:Addr} {m:Sm} {news:List (Addr×Obj)} (hg:g=hideAll h Λ) (F:Fr g L h' m) (N:News g L h' news)
  (k:∀ b∈Λ,b∉as→∀ o,h.get? b=some o→(b,o)∈news):Mod as h h':=fun b o e nb=>by
 by_cases hb:b∈Λ
 ·exact (N _ (k b hb nb o e)).1
 ·exact F.keep b o (by rw [hg]; exact hideAll_get _ e hb)
theorem fresh_up {h h' g:Heap} {Λ:List Addr} {L b:Addr} {m:Sm} {news:List (Addr×Obj)} (hg:g=hideAll h Λ) (F:Fr g L h' m) (N:News g L h' news)
  (k:∀ a∈Λ,∃ o,(a,o)∈news) (hT:h'.get? b=none):h.get? b=none:=by
 cases q:h.get? b with
 | none=>rfl
 | some o=>
  by_cases hb:b∈Λ
  ·obtain ⟨o',ho⟩:=k b hb
   rw [(N _ ho).1] at hT; cases hT
  ·rw [F.keep b o (by rw [hg]; exact hideAll_get _ q hb)] at hT; cases hT
theorem nin4 {a x y z u:Addr} (h:x<a∧y<a∧z<a∧u<a):a∉[x,y,z,u]:=fun hm=>by
 simp only [List.mem_cons,List.not_mem_nil,or_false] at hm
 rcases hm with rfl|rfl|rfl|rfl
 ·exact Nat.lt_irrefl _ h.1
 ·exact Nat.lt_irrefl _ h.2.1
 ·exact Nat.lt_irrefl _ h.2.2.1
 ·exact Nat.lt_irrefl _ h.2.2.2
theorem nin4' {a x y z u:Addr} (h:@Ne Nat x a∧@Ne Nat y a∧@Ne Nat a z∧@Ne Nat a u):a∉[x,y,z,u]:=fun hm=>by
 simp only [List.mem_cons,List.not_mem_nil,or_false] at hm
 rcases hm with e|e|e|e
 ·exact h.1 e.symm
 ·exact h.2.1 e.symm
 ·exact h.2.2.1 e
 ·exact h.2.2.2 e
theorem nin5 {t a x y z u:Addr} (h:t<a∧x<a∧y<a∧z<a∧u<a):a∉[x,y,z,u]:=nin4 h.2
theorem ns_nil {P:Addr→Prop}:∀ a∈([]:List Addr),P a:=fun _ h=>nomatch h
theorem ns_cons {P:Addr→Prop} {a:Addr} {l:List Addr} (h:P a) (r:∀ b∈l,P b):∀ b∈a::l,P b:=fun b hb=>by
 rcases List.mem_cons.mp hb with rfl|hb
 ·exact h
 ·exact r b hb
noncomputable def Stk (outer:List Env) (h:Heap) (Λ:List Addr):Prop:=h.FunFrames {} outer∧∀ b∈frs outer,b∉Λ
theorem funFrames_nf {h h' b₀ base:Heap}:∀ {l:List Env},h.FunFrames b₀ l →
  (∀ b∈frs l,∀ o,h.get? b=some o→(∀ vs,o.data≠.fields vs)→∃ o',h'.get? b=some o'∧∀ vs,o'.data≠.fields vs)→(∀ b∈frs l,base.get? b=none)→h'.FunFrames base l
 | [],_,_,_=>trivial
 | env::rest,⟨hk,⟨L,o,hf,_,ho,hd⟩,hr⟩,k,n=>by
  have hL:L∈frs (env::rest):=List.mem_filterMap.mpr ⟨env,.head _,hf⟩
  have hsub:∀ b∈frs rest,b∈frs (env::rest):=fun b hb=>by
   obtain ⟨e,he,hf⟩:=List.mem_filterMap.mp hb
   exact List.mem_filterMap.mpr ⟨e,.tail _ he,hf⟩
  obtain ⟨o',ho',hd'⟩:=k L hL o ho hd
  exact ⟨hk,⟨L,o',hf,n L hL,ho',hd'⟩,funFrames_nf hr (fun b hb=>k b (hsub b hb)) fun b hb=>n b (hsub b hb)⟩
theorem funFrames_to {h h' b₀ base:Heap} {l:List Env} (F:h.FunFrames b₀ l)
  (k:∀ b∈frs l,∀ o,h.get? b=some o→(∀ vs,o.data≠.fields vs)→∃ o',h'.get? b=some o'∧o'.data=o.data) (n:∀ b∈frs l,base.get? b=none):h'.FunFrames base l:=by
 induction l with
 | nil=>trivial
 | cons env rest ih=>
  obtain ⟨hk,f,hr⟩:=F
  obtain ⟨L,o,hf,_,ho,hd⟩:=f
  have hL:L∈frs (env::rest):=List.mem_filterMap.mpr ⟨env,.head _,hf⟩
  have hsub:∀ b∈frs rest,b∈frs (env::rest):=fun b hb=>List.mem_filterMap.mpr ((List.mem_filterMap.mp hb).imp fun e q=>⟨.tail _ q.1,q.2⟩)
  obtain ⟨o',ho',hd'⟩:=k L hL o ho hd
  exact ⟨hk,⟨L,o',hf,n L hL,ho',fun vs=>hd' ▸ hd vs⟩,ih hr (fun b hb=>k b (hsub b hb)) fun b hb=>n b (hsub b hb)⟩
section
variable {M:Model} {A:Around} {E:Vp} {s:Shared} {h₀ g h:Heap} {Λ:List Addr} {outer:List Env} {L:Addr} {m:Sm} {env:Env} {news:List (Addr×Obj)}
theorem Stk.ground (S:Stk outer h₀ Λ) (hg:g=hideAll h₀ Λ) {b:Addr} (hb:b∈frs outer):∃ o,h₀.get? b=some o∧g.get? b=some o∧∀ vs,o.data≠.fields vs:=by
 obtain ⟨_,o,ho,hd⟩:=S.1.mem hb
 exact ⟨o,ho,by rw [hg]; exact hideAll_get _ ho (S.2 b hb),hd⟩
theorem frs_mem {b:Addr} (hfL:env.frame=some L) (hb:b∈frs (env::outer)):b=L ∨ b∈frs outer:=by
 obtain ⟨e',he,hf⟩:=List.mem_filterMap.mp hb
 rcases List.mem_cons.mp he with rfl|he
 ·rw [hfL] at hf; exact .inl (Option.some.inj hf).symm
 ·exact .inr (List.mem_filterMap.mpr ⟨e',he,hf⟩)
theorem Stk.push (S:Stk outer h₀ Λ) (hg:g=hideAll h₀ Λ) (F:Fr g L h m) (N:News g L h news) (hfL:env.frame=some L) (hk:env.scope.kind=.function) {Λ':List Addr} (hΛ:∀ a∈Λ',∃ p∈news,p.1=a) :
  Stk (env::outer) h Λ':=by
 obtain ⟨oL,es,ep,hL,hLd,_⟩:=F.ns
 refine ⟨⟨by rw [hk]; decide,⟨L,oL,hfL,rfl,hL,fun vs q=>by rw [hLd] at q; cases q⟩,funFrames_to S.1 (fun b hb o ho hd=>?_) fun _ _=>rfl⟩,fun b hb hm=>?_⟩
 ·obtain ⟨o',ho',hg',_⟩:=S.ground hg hb
  rw [ho] at ho'; cases ho'
  exact ⟨o,F.keep _ _ hg',rfl⟩
 ·obtain ⟨p,hp,rfl⟩:=hΛ b hm
  rcases frs_mem hfL hb with q|q
  ·exact (N p hp).2.1 q
  ·obtain ⟨o',_,hg',_⟩:=S.ground hg q
   rw [(N p hp).2.2] at hg'; cases hg'
noncomputable def Thrown (outer:List Env) (g:Heap) (news:List (Addr×Obj)) (C e:Addr) (h₀ h':Heap):Prop:=
 ∃ B t,(∀ b o,g.get? b=some o→b∉frs outer→B.get? b=some o)∧(∀ p∈news,B.get? p.1=some p.2)∧Up2 B outer e (.ref C) (.ref t) (some .none) h' ∧
  (∀ b∈frs outer,∀ o,h₀.get? b=some o→∃ sl,h'.get? b=some { o with slots:=sl })∧∀ p∈news,g.get? p.1=none
theorem throw_first {C e t:Addr} {od:Option Addr} {Q:Unit→Shared→Prop} (hA:A.frames=some outer) (S:Stk outer h₀ Λ) (hg:g=hideAll h₀ Λ) (F:Fr g L s.heap m)
  (N:News g L s.heap ((e,excObj C od t)::news)) (hne:∀ p∈news,p.1≠e) (hfL:env.frame=some L) (hk:env.scope.kind=.function)
  (h:∀ h',Thrown outer g news C e h₀ h'→Q () { s with heap:=h' }) :
  wpAny M (A.deeper (env)) (leaving (env) (.ref e)) Q E s:=by
 have S':Stk (env::outer) s.heap (((e,excObj C od t)::news).map (·.1)):=S.push hg F N hfL hk fun a ha=>by
  obtain ⟨p,hp,rfl⟩:=List.mem_map.mp ha
  exact ⟨p,hp,rfl⟩
 have he:=(N _ (.head _)).1
 have hnf:∀ b∈frs (env::outer),(hideAll s.heap (e::frs (env::outer))).get? b=none:=fun b hb=>hideAll_none _ (.tail _ hb)
 refine leave2 (a0:=.ref t) (cls:=.ref C) (base:=hideAll s.heap (e::frs (env::outer))) (Around.frames_deeper hA) hfL ⟨fun b o q=>of_hideAll _ q,hideAll_none _ (.head _),funFrames_to S'.1 (fun b hb o ho hd=>⟨o,ho,rfl⟩) hnf,_,_,he,rfl,rfl,rfl,rfl,rfl⟩ (.inl rfl) fun h' k1 k4=>?_
 have nfr:∀ p∈(e,excObj C od t)::news,p.1∉frs (env::outer):=fun p hp hm=>S'.2 _ hm (List.mem_map_of_mem hp)
 refine h h' ⟨_,t,fun b o q nm=>hideAll_get _ (F.keep b o q) fun hm=>?_,fun p hp=>hideAll_get _ (N p (.tail _ hp)).1 fun hm=>?_,k1,fun b hb o ho=>?_,fun p hp=>(N p (.tail _ hp)).2.2⟩
 ·rcases List.mem_cons.mp hm with z|z
  ·rw [z,(N _ (.head _)).2.2] at q; cases q
  ·rcases frs_mem hfL z with z|z
   ·rw [z,kts_self F] at q; cases q
   ·exact nm z
 ·rcases List.mem_cons.mp hm with z|z
  ·exact hne p hp z
  ·exact nfr p (.tail _ hp) z
 ·obtain ⟨o',ho',hg',hd⟩:=S.ground hg hb
  rw [ho] at ho'; cases ho'
  exact k4 b o (F.keep _ _ hg') hd
theorem throw_next2 {C e:Addr} {Λ':List Addr} {news' ext:List (Addr×Obj)} {h₂:Heap} {Q:Unit→Shared→Prop} (hA:A.frames=some outer) (S:Stk outer h₀ Λ) (hg:g=hideAll h₀ Λ) (hfL:env.frame=some L) (F:Fr g L h₂ m)
  (T:Thrown (env::outer) (hideAll h₂ Λ') news' C e h₂ s.heap) (hΛ:∀ a∈Λ',g.get? a=none) (N:News g L h₂ ext) (hx:∀ p∈ext,p.1∉Λ')
  (h:∀ h',Thrown outer g (news'++ext) C e h₀ h'→Q () { s with heap:=h' }) :
  wpAny M (A.deeper env) (leaving env (.ref e)) Q E s:=by
 obtain ⟨B,t,b1,b2,b3,b4,b5⟩:=T
 refine leave2 (Around.frames_deeper hA) hfL b3 (.inr rfl) fun h' x1 x2=>h h' ⟨B,t,fun b o q nm=>b1 b o (hideAll_get _ (F.keep b o q) fun hm=>?_) fun hm=>?_,fun p hp=>?_,x1,fun b hb o ho=>?_,fun p hp=>?_⟩
 ·rw [hΛ b hm] at q; cases q
 ·rcases frs_mem hfL hm with z|z
  ·rw [z,kts_self F] at q; cases q
  ·exact nm z
 ·rcases List.mem_append.mp hp with hp|hp
  ·exact b2 p hp
  ·refine b1 _ _ (hideAll_get _ (N p hp).1 (hx p hp)) fun hm=>?_
   rcases frs_mem hfL hm with q|q
   ·exact (N p hp).2.1 q
   ·obtain ⟨o',_,hg',_⟩:=S.ground hg q
    rw [(N p hp).2.2] at hg'; cases hg'
 ·obtain ⟨o',ho',hg',hd⟩:=S.ground hg hb
  rw [ho] at ho'; cases ho'
  obtain ⟨sl,hs⟩:=b4 b (by obtain ⟨e',he',hf'⟩:=List.mem_filterMap.mp hb; exact List.mem_filterMap.mpr ⟨e',.tail _ he',hf'⟩) o (F.keep _ _ hg')
  obtain ⟨sl',hs'⟩:=x2 b _ hs hd
  exact ⟨sl',hs'⟩
 ·rcases List.mem_append.mp hp with hp|hp
  ·cases q:g.get? p.1 with
   | none=>rfl
   | some o=>
    by_cases hm:p.1∈Λ'
    ·rw [hΛ _ hm] at q; cases q
    ·have:=b5 p hp
     rw [hideAll_get _ (F.keep _ _ q) hm] at this; cases this
  ·exact (N p hp).2.2
theorem throw_next {C e:Addr} {Λ':List Addr} {news':List (Addr×Obj)} {h₂:Heap} {Q:Unit→Shared→Prop} (hA:A.frames=some outer) (S:Stk outer h₀ Λ) (hg:g=hideAll h₀ Λ) (hfL:env.frame=some L) (F:Fr g L h₂ m)
  (T:Thrown (env::outer) (hideAll h₂ Λ') news' C e h₂ s.heap) (hΛ:∀ a∈Λ',g.get? a=none)
  (h:∀ h',Thrown outer g news' C e h₀ h'→Q () { s with heap:=h' }) :
  wpAny M (A.deeper env) (leaving env (.ref e)) Q E s:=
 throw_next2 hA S hg hfL F T hΛ (ext:=[]) News.nil (fun p hp=>nomatch hp) fun h' T'=>h h' (by rw [List.append_nil] at T'; exact T')
end
section
variable {w:World} {A:Around} {E:Vp} {s:Shared} {g:Heap} {L:Addr} {m:Sm} {news:List (Addr×Obj)} {loose:List Str} {mg mb:Sm}
theorem make_refusal {who what:Str} {ta tb:Tok} {Q:Vp} (F:Fr g L s.heap m) (N:News g L s.heap news) (X:(hd.heap_1 w.params).In g) (T:TopRead pq loose mg mb g)
  (hroom:A.depth+2<recursionLimit) (h:∀ h' tk e t dx,Fr g L h' m→News g L h' ((e,excObj 779 (some dx) t)::news)→(∀ p∈news,p.1≠e)→Q (.ref e) { s with heap:=h',toks:=tk }) :
  wpAny (model P2 w) A (call (.ref 779) [.str who ta,.str what tb]) Q E s:=by
 obtain ⟨hp,gn,d,tk,os⟩:=s
 refine call_own (K:=Mine.hd.heap_1 w.params) (X.keeps F.keep) (init779 _) (by kernel_rfl) ?_ (by show 2 ≤ sizeLine; rw [sizeLine_eq]; omega)
 have F1:=F.push { cls:=.type "tuple",data:=.seq [.str who ta,.str what tb].toArray }
 have N1:=N.push F { cls:=.type "tuple",data:=.seq [.str who ta,.str what tb].toArray }
 have F2:=F1.push (excObj 779 none hp.objs.size)
 have N2:=N1.push F1 (excObj 779 none hp.objs.size)
 rw [Heap.size_push] at N2
 refine wpAny_call (init_refusal (B:=g) (t:=hp.objs.size) X T F2.keep (by rw [depth_under_make]; omega) (N2 _ (.head _)).1 (N2 _ (.head _)).2.2 fun h' tk dx _ he hm=>⟨rfl,?_⟩)
 have ne:∀ p∈news,p.1≠hp.objs.size+1:=fun p hp'=>by
  have:=Heap.lt_size (N p hp').1
  exact Nat.ne_of_lt (Nat.lt_succ_of_lt this)
 obtain ⟨oL,es,ep,hL,r⟩:=F2.ns
 refine h h' tk _ hp.objs.size dx ⟨⟨oL,es,ep,hm _ _ hL fun q=>(N2 _ (.head _)).2.1 (List.mem_singleton.mp q).symm,r⟩,fun b o q=>hm _ _ (F2.keep b o q) fun q'=>?_,F2.above⟩ (fun p hp'=>?_) ne
 ·rw [List.mem_singleton.mp q',(N2 _ (.head _)).2.2] at q; cases q
 ·rcases List.mem_cons.mp hp' with rfl|hp'
  ·exact ⟨he,(N2 _ (.head _)).2⟩
  ·exact ⟨hm _ _ (N2 _ (eT2 hp')).1 fun q=>ne p hp' (List.mem_singleton.mp q),(N p hp').2⟩
theorem make_passing {who what:Str} {ta tb:Tok} {Q:Vp} (F:Fr g L s.heap m) (N:News g L s.heap news) (X:(hd.heap_1 w.params).In g) (T:TopRead pq loose mg mb g)
  (hroom:A.depth+2<recursionLimit) (h:∀ h' tk e t dx,Fr g L h' m→News g L h' ((e,excObj 799 (some dx) t)::news)→(∀ p∈news,p.1≠e)→Q (.ref e) { s with heap:=h',toks:=tk }) :
  wpAny (model P2 w) A (call (.ref 799) [.str who ta,.str what tb]) Q E s:=by
 obtain ⟨hp,gn,d,tk,os⟩:=s
 refine call_own (K:=Mine.hd.heap_1 w.params) (X.keeps F.keep) (init799 _) (by kernel_rfl) ?_ (by show 2 ≤ sizeLine; rw [sizeLine_eq]; omega)
 have F1:=F.push { cls:=.type "tuple",data:=.seq [.str who ta,.str what tb].toArray }
 have N1:=N.push F { cls:=.type "tuple",data:=.seq [.str who ta,.str what tb].toArray }
 have F2:=F1.push (excObj 799 none hp.objs.size)
 have N2:=N1.push F1 (excObj 799 none hp.objs.size)
 rw [Heap.size_push] at N2
 refine wpAny_call (init_passing (B:=g) (t:=hp.objs.size) X T F2.keep (by rw [depth_under_make]; omega) (N2 _ (.head _)).1 (N2 _ (.head _)).2.2 fun h' tk dx _ he hm=>⟨rfl,?_⟩)
 have ne:∀ p∈news,p.1≠hp.objs.size+1:=fun p hp'=>by
  have:=Heap.lt_size (N p hp').1
  exact Nat.ne_of_lt (Nat.lt_succ_of_lt this)
 obtain ⟨oL,es,ep,hL,r⟩:=F2.ns
 refine h h' tk _ hp.objs.size dx ⟨⟨oL,es,ep,hm _ _ hL fun q=>(N2 _ (.head _)).2.1 (List.mem_singleton.mp q).symm,r⟩,fun b o q=>hm _ _ (F2.keep b o q) fun q'=>?_,F2.above⟩ (fun p hp'=>?_) ne
 ·rw [List.mem_singleton.mp q',(N2 _ (.head _)).2.2] at q; cases q
 ·rcases List.mem_cons.mp hp' with rfl|hp'
  ·exact ⟨he,(N2 _ (.head _)).2⟩
  ·exact ⟨hm _ _ (N2 _ (eT2 hp')).1 fun q=>ne p hp' (List.mem_singleton.mp q),(N p hp').2⟩
end
theorem enterC {prog:Program} {w:World} {A:Around} {s:Shared} {B:Heap} {Λ:List (Addr×Obj)} {K:Frag} {p:Program} {loose:List Str} {mg mb:Sm}
  {R:Rp} {name qual:Str} {params:Arguments} {body:List Stmt} {scope:Scope} {dV kV doc pm cdv ct oc:Value} {an od:Option Addr} {osl:Array (Option Value)} {f:Addr} {args:Args} {binds:List (Str×Value)}
  (X:K.In B) (T:TopRead p loose mg mb B) (hB:B.StaysIn s.heap) (hΛ:∀ p∈Λ,s.heap.get? p.1=some p.2) (hΛB:∀ p∈Λ,B.get? p.1=none)
  (ho:K.lookup f=some ⟨oc,od,.func (fnX name qual params body scope [] dV kV doc pm an cdv ct),osl⟩) (hcd:codeIn K cdv qual=true) (hroom:A.depth<recursionLimit)
  (hbind:BindsTo s (fnX name qual params body scope [] dV kV doc pm an cdv ct) args binds) (hkind:(binds.all fun y=>scope.names.lookup y.1 == some .local || scope.names.lookup y.1 == some .cell)=true)
  (hnd:((cellsFrom 0 scope.names []).map (·.1)).Nodup)
  (h:∀ g L' h₁ tk cells,g=hideAll s.heap (Λ.map (·.1))→(∀ p∈Λ,p.1<L')→K.In g→TopRead p loose mg mb g→Fr g L' h₁ (bindL (envOfC qual scope L' f cdv).kindOf binds fun _=>none)→News g L' h₁ (cells++Λ) →
   CellsAre (bindC (envOfC qual scope L' f cdv).kindOf binds fun _=>none) (cellsFrom (L'+1) scope.names []) cells →
   wpAny (model prog w) (A.deeper (envOfC qual scope L' f cdv)) (execs body (envOfC qual scope L' f cdv))
    (fun fl s'=>R (.ok (.ret (match fl with|.ret v=>v|_=>.none))) s')
    (fun e s'=>wpAny (model prog w) (A.deeper (envOfC qual scope L' f cdv)) (leaving (envOfC qual scope L' f cdv) e) (fun _ s''=>R (.error e) s'') (fun e' s''=>R (.error e') s'') s')
    { s with heap:=h₁,toks:=tk })
  (hco:scope.isCoroutine=false) (hgen:scope.isGenerator=false) (hk:scope.kind=.function):codeAny (model prog w) A (.call (.ref f) args) R s:=by
 have st:B.StaysIn (hideAll s.heap (Λ.map (·.1))):=fun b o e=>hideAll_get _ (hB b o e) fun hm=>by
  obtain ⟨q,hq,rfl⟩:=List.mem_map.mp hm
  rw [hΛB q hq] at e; cases e
 refine codeAny_call_function hroom (hB _ _ (X _ _ ho)) rfl hco hgen rfl (codeRec_of (X.keeps hB) hcd) (hbind _ _ _ _ ?_)
 refine wpAny_newFunctionEnv_cells hk (kindsX hkind _) fun env' he s' x=>?_
 subst he
 refine ⟨(T.nolimit.keeps hB).keeps x.toInCall.keep,codeAny_func ?_⟩
 obtain ⟨h₁,tk,rfl,_⟩:=x.done
 have hk₁:=x.toInCall.keep
 obtain ⟨cells,NC,Y⟩:=Cl.news (h₀:=s.heap) (Nat.le_refl _) fun n c hm=>⟨x.cell n c (lookup_of_mem_nodup (cellsFrom_names scope.names 0 (s.heap.objs.size+1) [] [] rfl ▸ hnd) hm),x.above n c hm⟩
 refine h _ s.heap.objs.size h₁ tk cells rfl (fun p hp=>Heap.lt_size (hΛ p hp)) (X.keeps st) (T.keeps st) ⟨x.toInCall.ns,fun b o e=>hk₁ b o (of_hideAll _ e),Nat.le_of_eq (hideAll_size _ _)⟩ (fun p hp=>?_) Y
 rcases List.mem_append.mp hp with hp|hp
 ·refine ⟨(NC p hp).1,(NC p hp).2.1,?_⟩
  cases q:(hideAll s.heap (Λ.map (·.1))).get? p.1 with
  | none=>rfl
  | some o=>have:=of_hideAll _ q; rw [(NC p hp).2.2] at this; cases this
 ·exact ⟨hk₁ _ _ (hΛ p hp),Nat.ne_of_lt (Heap.lt_size (hΛ p hp)),hideAll_none _ (List.mem_map_of_mem hp)⟩
open PySem.Builtin PySem.Builtin.ObjectAttr
theorem entry_hasattr:entryFor table "hasattr" = some Builtin.«hasattr»:=entryFor_of_tree (by kernel_rfl)
section
variable {prog:Program} {w:World} {A:Around} {E:Vp} {s:Shared} {K:Frag} {x C p L:Addr} {h₀:Heap} {m:Sm} {news:List (Addr×Obj)} {od:Option Obj} {ox:Obj} {n:Str} {t:Tok}
theorem getAttrBy_meth {Q:Vp} (X:K.In s.heap) (I:InstAt s.heap x ox C od) (hga:findIn K (.ref C) "__getattribute__" = some (some (.builtin "object.__getattribute__")))
  (hf:findObj K C od n=some (.bind (.builtin "function.__get__") (.ref p))) (hk:findIn K (.ref C) "__getattr__" = some none) (hp:typeIn K (.ref p)=some (.type "function"))
  (h:Q (.ref s.heap.objs.size) { s with heap:=s.heap.push (methodObj (.ref p) (.ref x)) }) :
  wpAny (model prog w) A (getAttrBy (.ref x) (.str n t) false false) Q E s:=by
 obtain ⟨hh,g,d,tk,os⟩:=s
 have L0:=I.type (M:=model prog w)
 have L1:=looks_findIn (M:=model prog w) X hga
 unfold getAttrBy
 refine wpAny_holding (wpAny_bind (L0.at (wpAny_bind (L1.at ?_))))
 show wpAny _ _ (getAttrEveryday _ _ _) _ _ _
 refine wpAny_bind (wpAny_onRaise (wpAny_runValue (codeAny_builtin F.plainObj_entry_getattr_hooked ?_)))
 have L2:=looks_find (M:=model prog w) X I hf
 have L3:=looks_findIn (M:=model prog w) X hk
 refine wpAny_bind (wpAny_pure (wpAny_bind (L0.at (wpAny_bind (L2.at (wpAny_bind (L3.at ?_)))))))
 show wpAny _ _ (holding [.ref p] (call (.builtin "function.__get__") [.ref p,.ref x,.ref C]) >>= ret) _ _ _
 refine wpAny_bind (wpAny_holding (wpAny_call (fn_get X hp (wpAny_pure ?_))))
 exact wpAny_pure h
theorem findObj_meth {a g:Value} {od:Obj} (hh:hasDictIn K C=true) (ha:findIn K (.ref C) n=some (some a)) (hg:specialIn K a "__get__" = some (some g)) (ht:takesIn K a=some false) (hl:lookIn n od=some none) (hc:copiedNames.contains n=false) :
  findObj K C (some od) n=some (.bind g a):=by
 obtain ⟨cd,hc',hd⟩:=any_some hh
 unfold findObj
 have ho:PySem.W.ownOf cd (some od) n=some none:=by unfold PySem.W.ownOf; rw [if_pos hd]; exact hl
 rw [hc',Option.bind_some,ha,Option.bind_some]
 simp only [hg,ht,Option.bind_some,ho,hc,Bool.false_and,Bool.false_eq_true,if_false]
theorem hasattr_meth {Q:Vp} (F:Fr h₀ L s.heap m) (N:News h₀ L s.heap news) (X₀:K.In h₀) (I:InstAt s.heap x ox C od) (hga:findIn K (.ref C) "__getattribute__" = some (some (.builtin "object.__getattribute__")))
  (hf:findObj K C od n=some (.bind (.builtin "function.__get__") (.ref p))) (hk:findIn K (.ref C) "__getattr__" = some none) (hp:typeIn K (.ref p)=some (.type "function"))
  (hm:mroIn K C (.type "module")=some false) (h:∀ h',Fr h₀ L h' m→News h₀ L h' news→Q (.bool true) { s with heap:=h' }) :
  wpAny (model prog w) A (call (.builtin "hasattr") [.ref x,.str n t]) Q E s:=by
 have X:=X₀.keeps F.keep
 have F':=F.push (methodObj (.ref p) (.ref x))
 have N':=N.push F (methodObj (.ref p) (.ref x))
 have L0:=I.type (M:=model prog w)
 have L1:Looks (model prog w) s.heap (isInstance (.ref x) (.type "module")) false:=L0.andThen (looks_mroIn X hm)
 refine call_function_any (by decide +kernel) (by decide +kernel) entry_hasattr (by unfold argsOk; kernel_rfl) ?_
 unfold Builtin.«hasattr»
 refine wpAny_bind (wpAny_of_eq (a:=[.ref x,.str n t]) rfl ?_)
 refine wpAny_bind (wpAny_of_eq (a:=()) rfl ?_)
 dsimp only
 rw [if_neg (by simp)]
 refine wpAny_bind (L0.here ?_)
 dsimp only
 refine wpAny_bind (m:=_) (wpAny_mono (Q:=fun v s'=>v=0∧s'=s) (E:=fun _ _=>False) ?_ ?_ fun _ _ x=>x.elim)
 ·show wpAny _ _ (isInstance (.ref x) (.type "module") >>= _) _ _ _
  refine wpAny_bind (L1.here ?_)
  exact wpAny_pure ⟨rfl,rfl⟩
 ·rintro _ _ ⟨rfl,rfl⟩
  refine wpAny_bind ?_
  unfold getAttrBy?
  refine wpAny_bind (wpAny_attempt (getAttrBy_meth X I hga hf hk hp (wpAny_pure ?_)))
  exact wpAny_pure (h _ F' fun q hq=>N' q (.tail _ hq))
end
noncomputable abbrev tup2 (a b:Value):Obj:={ cls:=.type "tuple",data:=.seq #[a,b] }
abbrev Z12P (pq:Program) (C:Addr) (w:World) (A:Around) (s:Shared) (B:Heap) (M d pl lg:Addr) (x:Mk) (who:Str) (tw tk t5 t6:Tok) (key kept value:Int) (ready:Value) (n k:Nat) (items:Array Value) (what:Str) (ta:Tok) (v3:Value) (R:Rp) (loose:List Str) (mg mb:Sm) (op:Obj) (kvs:List (Str×Value)) (D:List (PyData×PyData)) (outer:List Env):Prop:=∀ (hC:C=897 ∨ C=923) (X:(hd.heap_1 w.params).In B) (T:TopRead pq loose mg mb B) (hB:B.StaysIn s.heap) (hroom:A.depth+8<recursionLimit) (hA:A.frames=some outer) (S:Stk outer s.heap [M,d,lg,pl]) (hM:s.heap.get? M=some (instObj C d)) (hd:s.heap.get? d=some (dictOf (mgrEs x who tw key tk pl lg kept t5 value t6 ready) n)) (hl:s.heap.get? lg=some (listOf items k)) (hp:s.heap.get? pl=some op) (ho:op.IsDictOf (strKind P2 w) kvs) (hf:PyProof.V.FlatPairs PyData.str kvs D) (hlo:(pl == sysModules)=false) (fM:B.get? M=none) (fd:B.get? d=none) (fl:B.get? lg=none) (fp:B.get? pl=none) (hz:items.size<900) (q5:@Ne Nat d pl) (q6:@Ne Nat lg pl) (q3:@Ne Nat M pl) (hD:PySem.Spec.lookup (.str what) D=none ∨ (A.handled=none∧(PySem.Spec.lookup (.str what) D=some (.int 1) ∨ PySem.Spec.lookup (.str what) D=some (.int 2)))) (hok:PySem.Spec.lookup (.str what) D=none→∀ h' tk' T,Mod [lg] s.heap h'→s.heap.get? T=none→h'.get? T=some (tup2 (.str what ta) (.str who tw))→h'.get? lg=some (listOf (items.push (.ref T)) (k+1))→R (.ok (.ret .none)) { s with heap:=h',toks:=tk' }) (hno:∀ kd Cx,PySem.Spec.lookup (.str what) D=some (.int kd)→(kd=1∧Cx=779 ∨ kd=2∧Cx=799)→∀ h' tk' e T,s.heap.get? T=none →
   Thrown outer (hideAll s.heap [M,d,lg,pl]) [(T,tup2 (.str what ta) (.str who tw)),(M,instObj C d),(d,dictOf (mgrEs x who tw key tk pl lg kept t5 value t6 ready) n),(lg,listOf (items.push (.ref T)) (k+1)),(pl,op)] Cx e s.heap h'→R (.error (.ref e)) { s with heap:=h',toks:=tk' }),codeAny (model P2 w) A (.call (.ref 823) ⟨[.ref M,.str what ta,v3],[]⟩) R s
abbrev Z12cq:=U fun a=>U fun b=>U fun c=>U fun d=>U fun e f=>T4 (T6 (T6 (T6 (T6 (T6 Z12P a) b) c) d) e) f
def Z12c:=eps Z12cq ⟨inferInstance⟩
theorem stepC {pq:Program} {C:Addr} {w:World} {A:Around} {s:Shared} {B:Heap} {M d pl lg:Addr} {x:Mk} {who:Str} {tw tk t5 t6:Tok} {key kept value:Int} {ready:Value} {n k:Nat} {items:Array Value} {what:Str} {ta:Tok} {v3:Value} {R:Rp} {loose:List Str} {mg mb:Sm} {op:Obj} {kvs:List (Str×Value)} {D:List (PyData×PyData)} {outer:List Env}:Z12P pq C w A s B M d pl lg x who tw tk t5 t6 key kept value ready n k items what ta v3 R loose mg mb op kvs D outer:=eps0 Z12cq Z12c rfl (by
 show Z12P Z12c.1.1 Z12c.1.2.1 Z12c.1.2.2.1 Z12c.1.2.2.2.1 Z12c.1.2.2.2.2.1 Z12c.1.2.2.2.2.2 Z12c.2.1.1 Z12c.2.1.2.1 Z12c.2.1.2.2.1 Z12c.2.1.2.2.2.1 Z12c.2.1.2.2.2.2.1 Z12c.2.1.2.2.2.2.2 Z12c.2.2.1.1 Z12c.2.2.1.2.1 Z12c.2.2.1.2.2.1 Z12c.2.2.1.2.2.2.1 Z12c.2.2.1.2.2.2.2.1 Z12c.2.2.1.2.2.2.2.2 Z12c.2.2.2.1.1 Z12c.2.2.2.1.2.1 Z12c.2.2.2.1.2.2.1 Z12c.2.2.2.1.2.2.2.1 Z12c.2.2.2.1.2.2.2.2.1 Z12c.2.2.2.1.2.2.2.2.2 Z12c.2.2.2.2.1.1 Z12c.2.2.2.2.1.2.1 Z12c.2.2.2.2.1.2.2.1 Z12c.2.2.2.2.1.2.2.2.1 Z12c.2.2.2.2.1.2.2.2.2.1 Z12c.2.2.2.2.1.2.2.2.2.2 Z12c.2.2.2.2.2.1 Z12c.2.2.2.2.2.2.1 Z12c.2.2.2.2.2.2.2.1 Z12c.2.2.2.2.2.2.2.2
 generalize Z12c.1.1=pq,Z12c.1.2.1=C,Z12c.1.2.2.1=w,Z12c.1.2.2.2.1=A,Z12c.1.2.2.2.2.1=s,Z12c.1.2.2.2.2.2=B,Z12c.2.1.1=M,Z12c.2.1.2.1=d,Z12c.2.1.2.2.1=pl,Z12c.2.1.2.2.2.1=lg,Z12c.2.1.2.2.2.2.1=x,Z12c.2.1.2.2.2.2.2=who,Z12c.2.2.1.1=tw,Z12c.2.2.1.2.1=tk,Z12c.2.2.1.2.2.1=t5,Z12c.2.2.1.2.2.2.1=t6,Z12c.2.2.1.2.2.2.2.1=key,Z12c.2.2.1.2.2.2.2.2=kept,Z12c.2.2.2.1.1=value,Z12c.2.2.2.1.2.1=ready,Z12c.2.2.2.1.2.2.1=n,Z12c.2.2.2.1.2.2.2.1=k,Z12c.2.2.2.1.2.2.2.2.1=items,Z12c.2.2.2.1.2.2.2.2.2=what,Z12c.2.2.2.2.1.1=ta,Z12c.2.2.2.2.1.2.1=v3,Z12c.2.2.2.2.1.2.2.1=R,Z12c.2.2.2.2.1.2.2.2.1=loose,Z12c.2.2.2.2.1.2.2.2.2.1=mg,Z12c.2.2.2.2.1.2.2.2.2.2=mb,Z12c.2.2.2.2.2.1=op,Z12c.2.2.2.2.2.2.1=kvs,Z12c.2.2.2.2.2.2.2.1=D,Z12c.2.2.2.2.2.2.2.2=outer
 intro hC X T hB hroom hA S hM hd hl hp ho hf hlo fM fd fl fp hz q5 q6 q3 hD hok hno
 k_dflt (refine' enter (Λ:=[(M,instObj C d),(d,dictOf (mgrEs x who tw key tk pl lg kept t5 value t6 ready) n),(lg,listOf items k),(pl,op)]) X T hB ?k1 ?k2 (by k_is) (by k_is) (by k_room) (BindsTo.of_eq rfl) (locs rfl) ?_ rfl rfl rfl (by decide))
 (case k1=>simp only [List.forall_mem_cons]; exact ⟨hM,hd,hl,hp,fun p hp=>nomatch hp⟩)
 (case k2=>simp only [List.forall_mem_cons]; exact ⟨fM,fd,fl,fp,fun p hp=>nomatch hp⟩)
 have q1:@Ne Nat M d:=fun e=>by rw [e,hd] at hM; cases hM
 have q2:@Ne Nat M lg:=fun e=>by rw [e,hl] at hM; cases hM
 have q4:@Ne Nat d lg:=fun e=>by rw [e,hl] at hd; simp [dictOf,PySem.W.listOf] at hd
 intro g L' h₁ hg l1 KX TX F N
 clear fM fd fl fp hB X T
 k_lt l1
 dsimp only
 rcases hC with rfl|rfl
 all_goals
  rcases hD with hD|⟨hh,hD|hD⟩
  ·k_steps
   rename Fr _ _ _ _=>F₄
   rename News _ _ _ _=>N₄
   have nT:=N₄ _ (.head _)
   dsimp only at nT
   refine hok hD _ _ _ (mod_of hg F₄ N₄ (ns_cons ?_ (ns_cons ?_ (ns_cons ?_ (ns_cons ?_ ns_nil))))) (fresh_of hg nT.2.2 ?_) nT.1 (N₄ _ eM3).1
   ·intro _ o q; rw [hM] at q; cases q; exact eM1
   ·intro _ o q; rw [hd] at q; cases q; exact eM2
   ·intro q; exact (q (.head _)).elim
   ·intro _ o q; rw [hp] at q; cases q; exact eM4
   ·show _∉[M,d,lg,pl]; exact nr4 (by with_reducible assumption)
  ·k_steps
   refine Raise_own (init779 w.params) hh ?_
   k_steps
   rename Fr _ _ _ _=>F₄
   rename News _ _ _ _=>N₄
   have nT:=N₄ _ (.head _)
   dsimp only at nT
   refine make_refusal F₄ N₄ KX TX ?_ fun h₅ tk₅ e t dx F₅ N₅ ne=>⟨e,t,some dx,rfl,KX.keeps F₅.keep,(N₅ _ (.head _)).1,?_⟩
   ·k_room
   refine throw_first hA S hg F₅ N₅ ne rfl rfl fun h' TH=>hno 1 779 hD (.inl ⟨rfl,rfl⟩) h' _ e _ (fresh_of hg nT.2.2 ?_) ?_
   ·show _∉[M,d,lg,pl]; exact nr4 (by with_reducible assumption)
   ·rw [hg] at TH; exact TH
  ·k_steps
   refine Raise_own (init799 w.params) hh ?_
   k_steps
   rename Fr _ _ _ _=>F₄
   rename News _ _ _ _=>N₄
   have nT:=N₄ _ (.head _)
   dsimp only at nT
   refine make_passing F₄ N₄ KX TX ?_ fun h₅ tk₅ e t dx F₅ N₅ ne=>⟨e,t,some dx,rfl,KX.keeps F₅.keep,(N₅ _ (.head _)).1,?_⟩
   ·k_room
   refine throw_first hA S hg F₅ N₅ ne rfl rfl fun h' TH=>hno 2 799 hD (.inr ⟨rfl,rfl⟩) h' _ e _ (fresh_of hg nT.2.2 ?_) ?_
   ·show _∉[M,d,lg,pl]; exact nr4 (by with_reducible assumption)
   ·rw [hg] at TH; exact TH) ((pq,C,w,A,s,B),(M,d,pl,lg,x,who),(tw,tk,t5,t6,key,kept),(value,ready,n,k,items,what),(ta,v3,R,loose,mg,mb),(op,kvs,D,outer))
theorem stepNC {C:Addr} {w:World} {A:Around} {s:Shared} {h₀ g:Heap} {Λ:List Addr} {L f M d pl lg:Addr} {m:Sm} {qual:Str} {scope:Scope} {cdv:Value} {x:Mk} {who:Str} {tw tk t5 t6:Tok} {key kept value:Int} {ready:Value} {n k:Nat} {items:Array Value} {what:Str} {ta:Tok} {v3:Value}
  {R:Rp} {Q:Vp} {loose:List Str} {mg mb:Sm} {op:Obj} {kvs:List (Str×Value)} {D:List (PyData×PyData)} {outer:List Env} {ext:List (Addr×Obj)}
  (hC:C=897 ∨ C=923) (hA:A.frames=some outer) (S:Stk outer h₀ Λ) (hg:g=hideAll h₀ Λ) (hk:scope.kind=.function) (X:(hd.heap_1 w.params).In g) (T:TopRead pq loose mg mb g) (F:Fr g L s.heap m)
  (N:News g L s.heap ([(M,instObj C d),(d,(dictOf (mgrEs x who tw key tk pl lg kept t5 value t6 ready) n)),(lg,listOf items k),(pl,op)]++ext)) (hx:∀ p∈ext,p.1∉[M,d,lg,pl])
  (ho:op.IsDictOf (strKind P2 w) kvs) (hf:PyProof.V.FlatPairs PyData.str kvs D) (hlo:(pl == sysModules)=false) (hroom:A.depth+10<recursionLimit) (hz:items.size<900)
  (q5:@Ne Nat d pl) (q6:@Ne Nat lg pl) (q3:@Ne Nat M pl)
  (hD:PySem.Spec.lookup (.str what) D=none ∨ (A.handled=none∧(PySem.Spec.lookup (.str what) D=some (.int 1) ∨ PySem.Spec.lookup (.str what) D=some (.int 2))))
  (hok:PySem.Spec.lookup (.str what) D=none→∀ h' tk' T,s.heap.get? T=none→Fr g L h' m→News g L h' ([(T,tup2 (.str what ta) (.str who tw)),(M,instObj C d),(d,(dictOf (mgrEs x who tw key tk pl lg kept t5 value t6 ready) n)),(lg,listOf (items.push (.ref T)) (k+1)),(pl,op)]++ext)→Q .none { s with heap:=h',toks:=tk' })
  (hno:∀ kd Cx,PySem.Spec.lookup (.str what) D=some (.int kd)→(kd=1∧Cx=779 ∨ kd=2∧Cx=799)→∀ h' tk' e T,s.heap.get? T=none →
   Thrown outer g ([(T,tup2 (.str what ta) (.str who tw)),(M,instObj C d),(d,(dictOf (mgrEs x who tw key tk pl lg kept t5 value t6 ready) n)),(lg,listOf (items.push (.ref T)) (k+1)),(pl,op)]++ext) Cx e h₀ h'→R (.error (.ref e)) { s with heap:=h',toks:=tk' }) :
  wpAny (model P2 w) (A.deeper (envOf qual scope L f cdv)) (call (.ref 823) [.ref M,.str what ta,v3]) Q
   (fun e s'=>wpAny (model P2 w) (A.deeper (envOf qual scope L f cdv)) (leaving (envOf qual scope L f cdv) e) (fun _ s''=>R (.error e) s'') (fun e' s''=>R (.error e') s'') s') s:=by
 have cM:=N _ (.head _)
 have cd:=N _ eM1
 have cl:=N _ eM2
 have cp:=N _ eM3
 have hM:=cM.1
 have hd:=cd.1
 have hl:=cl.1
 have hp:=cp.1
 dsimp only at hM hd hl hp
 have q1:@Ne Nat M d:=fun e=>by rw [e,hd] at hM; cases hM
 have q2:@Ne Nat M lg:=fun e=>by rw [e,hl] at hM; cases hM
 have q4:@Ne Nat d lg:=fun e=>by rw [e,hl] at hd; simp [dictOf,PySem.W.listOf] at hd
 refine wpAny_call (stepC hC X T F.keep (by k_room) (Around.frames_deeper hA)
  (S.push hg F N rfl hk (ns_cons ⟨_,.head _,rfl⟩ (ns_cons ⟨_,eM1,rfl⟩ (ns_cons ⟨_,eM2,rfl⟩ (ns_cons ⟨_,eM3,rfl⟩ ns_nil)))))
  hM hd hl hp ho hf hlo cM.2.2 cd.2.2 cl.2.2 cp.2.2 hz q5 q6 q3 hD ?_ ?_)
 ·intro e h' tk' T hm hT gT gl
  obtain ⟨oL,es,ep,hL,r⟩:=F.ns
  refine hok e h' tk' T hT ⟨⟨oL,es,ep,hm _ _ hL fun q=>cl.2.1 (List.mem_singleton.mp q).symm,r⟩,fun b o q=>hm _ _ (F.keep b o q) fun z=>?_,F.above⟩ ?_
  ·rw [List.mem_singleton.mp z,cl.2.2] at q; cases q
  ·intro p hp'
   simp only [List.cons_append,List.nil_append,List.mem_cons] at hp'
   rcases hp' with rfl|rfl|rfl|rfl|rfl|hp'
   ·refine ⟨gT,fun z=>?_,?_⟩
    ·have z:T=L:=z
     rw [z,hL] at hT; cases hT
    ·cases q:g.get? T with
     | none=>rfl
     | some o=>rw [F.keep _ _ q] at hT; cases hT
   ·exact ⟨hm _ _ hM fun z=>q2 (List.mem_singleton.mp z),cM.2⟩
   ·exact ⟨hm _ _ hd fun z=>q4 (List.mem_singleton.mp z),cd.2⟩
   ·exact ⟨gl,cl.2⟩
   ·exact ⟨hm _ _ hp fun z=>q6 (List.mem_singleton.mp z).symm,cp.2⟩
   ·have:=N p (List.mem_append_right _ hp'); exact ⟨hm _ _ this.1 fun z=>hx p hp' (by rw [List.mem_singleton.mp z]; exact eM2),this.2⟩
 ·intro kd Cx e hkd h' tk' e' T hT TH
  exact throw_next2 hA S hg rfl F TH (ns_cons cM.2.2 (ns_cons cd.2.2 (ns_cons cl.2.2 (ns_cons cp.2.2 ns_nil)))) (fun p hp'=>N p (List.mem_append_right _ hp')) hx fun h'' TH'=>hno kd Cx e hkd h'' tk' e' T hT TH'
theorem tpc_beginC {C:Addr} {w:World} {A:Around} {s:Shared} {B:Heap} {M d pl lg:Addr} {x:Mk} {who:Str} {tw tk t5 t6:Tok} {key kept value:Int} {ready:Value} {k:Nat} {items:Array Value} {v3:Value} {R:Rp} {loose:List Str} {mg mb:Sm}
  {op:Obj} {kvs:List (Str×Value)} {D:List (PyData×PyData)} {outer:List Env}
  (hC:C=897 ∨ C=923) (X:(hd.heap_1 w.params).In B) (T:TopRead pq loose mg mb B) (hB:B.StaysIn s.heap) (hroom:A.depth+12<recursionLimit)
  (hA:A.frames=some outer) (S:Stk outer s.heap [M,d,lg,pl])
  (hM:s.heap.get? M=some (instObj C d)) (hd:s.heap.get? d=some (dictOf (mgrEs x who tw key tk pl lg kept t5 value t6 ready) 8)) (hl:s.heap.get? lg=some (listOf items k)) (hp:s.heap.get? pl=some op)
  (ho:op.IsDictOf (strKind P2 w) kvs) (hf:PyProof.V.FlatPairs PyData.str kvs D) (hlo:(pl == sysModules)=false)
  (fM:B.get? M=none) (fd:B.get? d=none) (fl:B.get? lg=none) (fp:B.get? pl=none) (hz:items.size<900)
  (q5:@Ne Nat d pl) (q6:@Ne Nat lg pl) (q3:@Ne Nat M pl)
  (hD:PySem.Spec.lookup (.str "tpc_begin") D=none ∨ (A.handled=none∧(PySem.Spec.lookup (.str "tpc_begin") D=some (.int 1) ∨ PySem.Spec.lookup (.str "tpc_begin") D=some (.int 2))))
  (hok:PySem.Spec.lookup (.str "tpc_begin") D=none→∀ h' tk' T ta ,Mod [lg,d] s.heap h'→s.heap.get? T=none→h'.get? T=some (tup2 (.str "tpc_begin" ta) (.str who tw))→h'.get? lg=some (listOf (items.push (.ref T)) (k+1))→h'.get? d=some (dictOf (mgrEs x who tw key tk pl lg kept t5 value t6 ready) 8)→R (.ok (.ret .none)) { s with heap:=h',toks:=tk' })
  (hno:∀ kd Cx,PySem.Spec.lookup (.str "tpc_begin") D=some (.int kd)→(kd=1∧Cx=779 ∨ kd=2∧Cx=799)→∀ h' tk' e T ta,s.heap.get? T=none →
   Thrown outer (hideAll s.heap [M,d,lg,pl]) [(T,tup2 (.str "tpc_begin" ta) (.str who tw)),(M,instObj C d),(d,(dictOf (mgrEs x who tw key tk pl lg kept t5 value t6 ready) 8)),(lg,listOf (items.push (.ref T)) (k+1)),(pl,op)] Cx e s.heap h'→R (.error (.ref e)) { s with heap:=h',toks:=tk' }) :
  codeAny (model P2 w) A (.call (.ref 866) ⟨[.ref M,v3],[]⟩) R s:=by
 k_dflt (refine' enter (Λ:=[(M,instObj C d),(d,(dictOf (mgrEs x who tw key tk pl lg kept t5 value t6 ready) 8)),(lg,listOf items k),(pl,op)]) X T hB ?k1 ?k2 (by k_is) (by k_is) (by k_room) (BindsTo.of_eq rfl) (locs rfl) ?_ rfl rfl rfl (by decide))
 (case k1=>simp only [List.forall_mem_cons]; exact ⟨hM,hd,hl,hp,fun p hp=>nomatch hp⟩)
 (case k2=>simp only [List.forall_mem_cons]; exact ⟨fM,fd,fl,fp,fun p hp=>nomatch hp⟩)
 have q1:@Ne Nat M d:=fun e=>by rw [e,hd] at hM; cases hM
 have q2:@Ne Nat M lg:=fun e=>by rw [e,hl] at hM; cases hM
 have q4:@Ne Nat d lg:=fun e=>by rw [e,hl] at hd; simp [dictOf,PySem.W.listOf] at hd
 intro g L' h₁ hg l1 KX TX F N
 clear fM fd fl fp hB X T
 k_lt l1
 dsimp only
 have hC':=hC
 rcases hC with rfl|rfl
 all_goals
  k_steps
  rename Fr _ _ _ _=>F₂
  rename News _ _ _ _=>N₂
  refine stepNC hC' (ext:=[]) hA S hg rfl KX TX F₂ N₂ (fun p hp=>nomatch hp) ho hf hlo (by k_room) hz q5 q6 q3 hD ?_ ?_
  ·intro e h₃ tk₃ T hT F₃ N₃
   try simp only [List.cons_append,List.nil_append] at N₃
   have fT:=fresh_up hg F₂ N₂ (ns_cons (⟨_,(.head _)⟩) (ns_cons (⟨_,eM1⟩) (ns_cons (⟨_,eM2⟩) (ns_cons (⟨_,eM3⟩) (ns_nil))))) hT
   have n0:@Ne Nat T M:=fun e=>by have h1:=(N₂ _ (.head _)).1; dsimp only at h1 hT; rw [e,h1] at hT; cases hT
   have n1:@Ne Nat T d:=fun e=>by have h1:=(N₂ _ eM1).1; dsimp only at h1 hT; rw [e,h1] at hT; cases hT
   have n2:@Ne Nat T lg:=fun e=>by have h1:=(N₂ _ eM2).1; dsimp only at h1 hT; rw [e,h1] at hT; cases hT
   have n3:@Ne Nat T pl:=fun e=>by have h1:=(N₂ _ eM3).1; dsimp only at h1 hT; rw [e,h1] at hT; cases hT
   k_steps
   rename Fr _ _ _ _=>F₄
   rename News _ _ _ _=>N₄
   refine hok e _ _ T _ (mod_of hg F₄ N₄ (ns_cons (fun _ o q=>?_) (ns_cons (fun q=>(q eM1).elim) (ns_cons (fun q=>(q (.head _)).elim) (ns_cons (fun _ o q=>?_) (ns_nil)))))) fT (N₄ _ (.head _)).1 (N₄ _ eM3).1 (N₄ _ eM2).1
   ·rw [hM] at q; cases q; exact eM1
   ·rw [hp] at q; cases q; exact eM4
  ·intro kd Cx hkd hc h' tk' e T hT TH
   rw [hg] at TH
   exact hno kd Cx hkd hc h' tk' e T _ (fresh_up hg F₂ N₂ (ns_cons (⟨_,(.head _)⟩) (ns_cons (⟨_,eM1⟩) (ns_cons (⟨_,eM2⟩) (ns_cons (⟨_,eM3⟩) (ns_nil))))) hT) TH
theorem commitC {C:Addr} {w:World} {A:Around} {s:Shared} {B:Heap} {M d pl lg:Addr} {x:Mk} {who:Str} {tw tk t5 t6:Tok} {key kept value:Int} {ready:Value} {k:Nat} {items:Array Value} {v3:Value} {R:Rp} {loose:List Str} {mg mb:Sm}
  {op:Obj} {kvs:List (Str×Value)} {D:List (PyData×PyData)} {outer:List Env}
  (hC:C=897 ∨ C=923) (X:(hd.heap_1 w.params).In B) (T:TopRead pq loose mg mb B) (hB:B.StaysIn s.heap) (hroom:A.depth+12<recursionLimit)
  (hA:A.frames=some outer) (S:Stk outer s.heap [M,d,lg,pl])
  (hM:s.heap.get? M=some (instObj C d)) (hd:s.heap.get? d=some (dictOf (mgrEs x who tw key tk pl lg kept t5 value t6 ready) 8)) (hl:s.heap.get? lg=some (listOf items k)) (hp:s.heap.get? pl=some op)
  (ho:op.IsDictOf (strKind P2 w) kvs) (hf:PyProof.V.FlatPairs PyData.str kvs D) (hlo:(pl == sysModules)=false)
  (fM:B.get? M=none) (fd:B.get? d=none) (fl:B.get? lg=none) (fp:B.get? pl=none) (hz:items.size<900)
  (q5:@Ne Nat d pl) (q6:@Ne Nat lg pl) (q3:@Ne Nat M pl)
  (hD:PySem.Spec.lookup (.str "commit") D=none ∨ (A.handled=none∧(PySem.Spec.lookup (.str "commit") D=some (.int 1) ∨ PySem.Spec.lookup (.str "commit") D=some (.int 2))))
  (hok:PySem.Spec.lookup (.str "commit") D=none→∀ h' tk' T ta ,Mod [lg,d] s.heap h'→s.heap.get? T=none→h'.get? T=some (tup2 (.str "commit" ta) (.str who tw))→h'.get? lg=some (listOf (items.push (.ref T)) (k+1))→∀ r t₁ k₁,s.heap.get? r=none→h'.get? r=some (listOf #[.int value t₁] k₁)→h'.get? d=some (dictOf (mgrEs x who tw key tk pl lg kept t5 value t6 (.ref r)) 8)→R (.ok (.ret .none)) { s with heap:=h',toks:=tk' })
  (hno:∀ kd Cx,PySem.Spec.lookup (.str "commit") D=some (.int kd)→(kd=1∧Cx=779 ∨ kd=2∧Cx=799)→∀ h' tk' e T ta,s.heap.get? T=none →
   Thrown outer (hideAll s.heap [M,d,lg,pl]) [(T,tup2 (.str "commit" ta) (.str who tw)),(M,instObj C d),(d,(dictOf (mgrEs x who tw key tk pl lg kept t5 value t6 ready) 8)),(lg,listOf (items.push (.ref T)) (k+1)),(pl,op)] Cx e s.heap h'→R (.error (.ref e)) { s with heap:=h',toks:=tk' }) :
  codeAny (model P2 w) A (.call (.ref 873) ⟨[.ref M,v3],[]⟩) R s:=by
 k_dflt (refine' enter (Λ:=[(M,instObj C d),(d,(dictOf (mgrEs x who tw key tk pl lg kept t5 value t6 ready) 8)),(lg,listOf items k),(pl,op)]) X T hB ?k1 ?k2 (by k_is) (by k_is) (by k_room) (BindsTo.of_eq rfl) (locs rfl) ?_ rfl rfl rfl (by decide))
 (case k1=>simp only [List.forall_mem_cons]; exact ⟨hM,hd,hl,hp,fun p hp=>nomatch hp⟩)
 (case k2=>simp only [List.forall_mem_cons]; exact ⟨fM,fd,fl,fp,fun p hp=>nomatch hp⟩)
 have q1:@Ne Nat M d:=fun e=>by rw [e,hd] at hM; cases hM
 have q2:@Ne Nat M lg:=fun e=>by rw [e,hl] at hM; cases hM
 have q4:@Ne Nat d lg:=fun e=>by rw [e,hl] at hd; simp [dictOf,PySem.W.listOf] at hd
 intro g L' h₁ hg l1 KX TX F N
 clear fM fd fl fp hB X T
 k_lt l1
 dsimp only
 have hC':=hC
 rcases hC with rfl|rfl
 all_goals
  k_steps
  rename Fr _ _ _ _=>F₂
  rename News _ _ _ _=>N₂
  refine stepNC hC' (ext:=[]) hA S hg rfl KX TX F₂ N₂ (fun p hp=>nomatch hp) ho hf hlo (by k_room) hz q5 q6 q3 hD ?_ ?_
  ·intro e h₃ tk₃ T hT F₃ N₃
   try simp only [List.cons_append,List.nil_append] at N₃
   have fT:=fresh_up hg F₂ N₂ (ns_cons (⟨_,(.head _)⟩) (ns_cons (⟨_,eM1⟩) (ns_cons (⟨_,eM2⟩) (ns_cons (⟨_,eM3⟩) (ns_nil))))) hT
   have n0:@Ne Nat T M:=fun e=>by have h1:=(N₂ _ (.head _)).1; dsimp only at h1 hT; rw [e,h1] at hT; cases hT
   have n1:@Ne Nat T d:=fun e=>by have h1:=(N₂ _ eM1).1; dsimp only at h1 hT; rw [e,h1] at hT; cases hT
   have n2:@Ne Nat T lg:=fun e=>by have h1:=(N₂ _ eM2).1; dsimp only at h1 hT; rw [e,h1] at hT; cases hT
   have n3:@Ne Nat T pl:=fun e=>by have h1:=(N₂ _ eM3).1; dsimp only at h1 hT; rw [e,h1] at hT; cases hT
   k_steps
   rename Fr _ _ _ _=>F₄
   rename News _ _ _ _=>N₄
   refine hok e _ _ T _ (mod_of hg F₄ N₄ (ns_cons (fun _ o q=>?_) (ns_cons (fun q=>(q eM1).elim) (ns_cons (fun q=>(q (.head _)).elim) (ns_cons (fun _ o q=>?_) (ns_nil)))))) fT (N₄ _ eM1).1 (N₄ _ eM4).1 _ _ _ ?_ (N₄ _ (.head _)).1 (N₄ _ eM3).1
   ·rw [hM] at q; cases q; exact eM2
   ·rw [hp] at q; cases q; exact eM5
   ·exact fresh_of hg (N₄ _ (.head _)).2.2 (nr5 (by with_reducible assumption))
  ·intro kd Cx hkd hc h' tk' e T hT TH
   rw [hg] at TH
   exact hno kd Cx hkd hc h' tk' e T _ (fresh_up hg F₂ N₂ (ns_cons (⟨_,(.head _)⟩) (ns_cons (⟨_,eM1⟩) (ns_cons (⟨_,eM2⟩) (ns_cons (⟨_,eM3⟩) (ns_nil))))) hT) TH
theorem tpc_voteC {C:Addr} {w:World} {A:Around} {s:Shared} {B:Heap} {M d pl lg:Addr} {x:Mk} {who:Str} {tw tk t5 t6:Tok} {key kept value:Int} {ready:Value} {k:Nat} {items:Array Value} {v3:Value} {R:Rp} {loose:List Str} {mg mb:Sm}
  {op:Obj} {kvs:List (Str×Value)} {D:List (PyData×PyData)} {outer:List Env}
  (hC:C=897 ∨ C=923) (X:(hd.heap_1 w.params).In B) (T:TopRead pq loose mg mb B) (hB:B.StaysIn s.heap) (hroom:A.depth+12<recursionLimit)
  (hA:A.frames=some outer) (S:Stk outer s.heap [M,d,lg,pl])
  (hM:s.heap.get? M=some (instObj C d)) (hd:s.heap.get? d=some (dictOf (mgrEs x who tw key tk pl lg kept t5 value t6 ready) 8)) (hl:s.heap.get? lg=some (listOf items k)) (hp:s.heap.get? pl=some op)
  (ho:op.IsDictOf (strKind P2 w) kvs) (hf:PyProof.V.FlatPairs PyData.str kvs D) (hlo:(pl == sysModules)=false)
  (fM:B.get? M=none) (fd:B.get? d=none) (fl:B.get? lg=none) (fp:B.get? pl=none) (hz:items.size<900)
  (q5:@Ne Nat d pl) (q6:@Ne Nat lg pl) (q3:@Ne Nat M pl)
  (hD:PySem.Spec.lookup (.str "tpc_vote") D=none ∨ (A.handled=none∧(PySem.Spec.lookup (.str "tpc_vote") D=some (.int 1) ∨ PySem.Spec.lookup (.str "tpc_vote") D=some (.int 2))))
  (hok:PySem.Spec.lookup (.str "tpc_vote") D=none→∀ h' tk' T ta ,Mod [lg,d] s.heap h'→s.heap.get? T=none→h'.get? T=some (tup2 (.str "tpc_vote" ta) (.str who tw))→h'.get? lg=some (listOf (items.push (.ref T)) (k+1))→h'.get? d=some (dictOf (mgrEs x who tw key tk pl lg kept t5 value t6 ready) 8)→R (.ok (.ret .none)) { s with heap:=h',toks:=tk' })
  (hno:∀ kd Cx,PySem.Spec.lookup (.str "tpc_vote") D=some (.int kd)→(kd=1∧Cx=779 ∨ kd=2∧Cx=799)→∀ h' tk' e T ta,s.heap.get? T=none →
   Thrown outer (hideAll s.heap [M,d,lg,pl]) [(T,tup2 (.str "tpc_vote" ta) (.str who tw)),(M,instObj C d),(d,(dictOf (mgrEs x who tw key tk pl lg kept t5 value t6 ready) 8)),(lg,listOf (items.push (.ref T)) (k+1)),(pl,op)] Cx e s.heap h'→R (.error (.ref e)) { s with heap:=h',toks:=tk' }) :
  codeAny (model P2 w) A (.call (.ref 880) ⟨[.ref M,v3],[]⟩) R s:=by
 k_dflt (refine' enter (Λ:=[(M,instObj C d),(d,(dictOf (mgrEs x who tw key tk pl lg kept t5 value t6 ready) 8)),(lg,listOf items k),(pl,op)]) X T hB ?k1 ?k2 (by k_is) (by k_is) (by k_room) (BindsTo.of_eq rfl) (locs rfl) ?_ rfl rfl rfl (by decide))
 (case k1=>simp only [List.forall_mem_cons]; exact ⟨hM,hd,hl,hp,fun p hp=>nomatch hp⟩)
 (case k2=>simp only [List.forall_mem_cons]; exact ⟨fM,fd,fl,fp,fun p hp=>nomatch hp⟩)
 have q1:@Ne Nat M d:=fun e=>by rw [e,hd] at hM; cases hM
 have q2:@Ne Nat M lg:=fun e=>by rw [e,hl] at hM; cases hM
 have q4:@Ne Nat d lg:=fun e=>by rw [e,hl] at hd; simp [dictOf,PySem.W.listOf] at hd
 intro g L' h₁ hg l1 KX TX F N
 clear fM fd fl fp hB X T
 k_lt l1
 dsimp only
 have hC':=hC
 rcases hC with rfl|rfl
 all_goals
  k_steps
  rename Fr _ _ _ _=>F₂
  rename News _ _ _ _=>N₂
  refine stepNC hC' (ext:=[]) hA S hg rfl KX TX F₂ N₂ (fun p hp=>nomatch hp) ho hf hlo (by k_room) hz q5 q6 q3 hD ?_ ?_
  ·intro e h₃ tk₃ T hT F₃ N₃
   try simp only [List.cons_append,List.nil_append] at N₃
   have fT:=fresh_up hg F₂ N₂ (ns_cons (⟨_,(.head _)⟩) (ns_cons (⟨_,eM1⟩) (ns_cons (⟨_,eM2⟩) (ns_cons (⟨_,eM3⟩) (ns_nil))))) hT
   have n0:@Ne Nat T M:=fun e=>by have h1:=(N₂ _ (.head _)).1; dsimp only at h1 hT; rw [e,h1] at hT; cases hT
   have n1:@Ne Nat T d:=fun e=>by have h1:=(N₂ _ eM1).1; dsimp only at h1 hT; rw [e,h1] at hT; cases hT
   have n2:@Ne Nat T lg:=fun e=>by have h1:=(N₂ _ eM2).1; dsimp only at h1 hT; rw [e,h1] at hT; cases hT
   have n3:@Ne Nat T pl:=fun e=>by have h1:=(N₂ _ eM3).1; dsimp only at h1 hT; rw [e,h1] at hT; cases hT
   k_steps
   rename Fr _ _ _ _=>F₄
   rename News _ _ _ _=>N₄
   refine hok e _ _ T _ (mod_of hg F₄ N₄ (ns_cons (fun _ o q=>?_) (ns_cons (fun q=>(q eM1).elim) (ns_cons (fun q=>(q (.head _)).elim) (ns_cons (fun _ o q=>?_) (ns_nil)))))) fT (N₄ _ (.head _)).1 (N₄ _ eM3).1 (N₄ _ eM2).1
   ·rw [hM] at q; cases q; exact eM1
   ·rw [hp] at q; cases q; exact eM4
  ·intro kd Cx hkd hc h' tk' e T hT TH
   rw [hg] at TH
   exact hno kd Cx hkd hc h' tk' e T _ (fresh_up hg F₂ N₂ (ns_cons (⟨_,(.head _)⟩) (ns_cons (⟨_,eM1⟩) (ns_cons (⟨_,eM2⟩) (ns_cons (⟨_,eM3⟩) (ns_nil))))) hT) TH
theorem tpc_finishC {C:Addr} {w:World} {A:Around} {s:Shared} {B:Heap} {M d pl lg:Addr} {x:Mk} {who:Str} {tw tk t5 t6:Tok} {key kept value:Int} {ready:Value} {k:Nat} {items:Array Value} {v3:Value} {R:Rp} {loose:List Str} {mg mb:Sm}
  {op:Obj} {kvs:List (Str×Value)} {D:List (PyData×PyData)} {outer:List Env} {r kr:Nat} {rv:Int} {tr:Tok}
  (hC:C=897 ∨ C=923) (X:(hd.heap_1 w.params).In B) (T:TopRead pq loose mg mb B) (hB:B.StaysIn s.heap) (hroom:A.depth+12<recursionLimit)
  (hA:A.frames=some outer) (S:Stk outer s.heap [M,d,lg,pl,r])
  (hM:s.heap.get? M=some (instObj C d)) (hd:s.heap.get? d=some (dictOf (mgrEs x who tw key tk pl lg kept t5 value t6 (.ref r)) 8)) (hl:s.heap.get? lg=some (listOf items k)) (hp:s.heap.get? pl=some op)
  (ho:op.IsDictOf (strKind P2 w) kvs) (hf:PyProof.V.FlatPairs PyData.str kvs D) (hlo:(pl == sysModules)=false)
  (fM:B.get? M=none) (fd:B.get? d=none) (fl:B.get? lg=none) (fp:B.get? pl=none) (hz:items.size<900)
  (q5:@Ne Nat d pl) (q6:@Ne Nat lg pl) (q3:@Ne Nat M pl) (hr:s.heap.get? r=some (listOf #[.int rv tr] kr)) (fr:B.get? r=none) (q7:@Ne Nat r lg)
  (hD:PySem.Spec.lookup (.str "tpc_finish") D=none ∨ (A.handled=none∧(PySem.Spec.lookup (.str "tpc_finish") D=some (.int 1) ∨ PySem.Spec.lookup (.str "tpc_finish") D=some (.int 2))))
  (hok:PySem.Spec.lookup (.str "tpc_finish") D=none→∀ h' tk' T ta t₂,Mod [lg,d] s.heap h'→s.heap.get? T=none→h'.get? T=some (tup2 (.str "tpc_finish" ta) (.str who tw))→h'.get? lg=some (listOf (items.push (.ref T)) (k+1))→h'.get? d=some (dictOf (mgrEs x who tw key tk pl lg rv t₂ value t6 .none) 8)→R (.ok (.ret .none)) { s with heap:=h',toks:=tk' })
  (hno:∀ kd Cx,PySem.Spec.lookup (.str "tpc_finish") D=some (.int kd)→(kd=1∧Cx=779 ∨ kd=2∧Cx=799)→∀ h' tk' e T ta,s.heap.get? T=none →
   Thrown outer (hideAll s.heap [M,d,lg,pl,r]) [(T,tup2 (.str "tpc_finish" ta) (.str who tw)),(M,instObj C d),(d,(dictOf (mgrEs x who tw key tk pl lg kept t5 value t6 (.ref r)) 8)),(lg,listOf (items.push (.ref T)) (k+1)),(pl,op),(r,listOf #[.int rv tr] kr)] Cx e s.heap h'→R (.error (.ref e)) { s with heap:=h',toks:=tk' }) :
  codeAny (model P2 w) A (.call (.ref 887) ⟨[.ref M,v3],[]⟩) R s:=by
 k_dflt (refine' enter (Λ:=[(M,instObj C d),(d,(dictOf (mgrEs x who tw key tk pl lg kept t5 value t6 (.ref r)) 8)),(lg,listOf items k),(pl,op),(r,listOf #[.int rv tr] kr)]) X T hB ?k1 ?k2 (by k_is) (by k_is) (by k_room) (BindsTo.of_eq rfl) (locs rfl) ?_ rfl rfl rfl (by decide))
 (case k1=>simp only [List.forall_mem_cons]; exact ⟨hM,hd,hl,hp,hr,fun p hp=>nomatch hp⟩)
 (case k2=>simp only [List.forall_mem_cons]; exact ⟨fM,fd,fl,fp,fr,fun p hp=>nomatch hp⟩)
 have q1:@Ne Nat M d:=fun e=>by rw [e,hd] at hM; cases hM
 have q2:@Ne Nat M lg:=fun e=>by rw [e,hl] at hM; cases hM
 have q4:@Ne Nat d lg:=fun e=>by rw [e,hl] at hd; simp [dictOf,PySem.W.listOf] at hd
 have q8:@Ne Nat M r:=fun e=>by rw [e,hr] at hM; cases hM
 have q9:@Ne Nat d r:=fun e=>by rw [e,hr] at hd; simp [dictOf,PySem.W.listOf] at hd
 have q10:@Ne Nat r pl:=fun e=>by
  obtain ⟨es,ep,_,hdt,_⟩:=ho
  rw [←e,hr] at hp
  obtain rfl:=Option.some.inj hp
  cases hdt
 intro g L' h₁ hg l1 KX TX F N
 clear fM fd fl fp hB X T
 k_lt l1
 dsimp only
 have hC':=hC
 rcases hC with rfl|rfl
 all_goals
  k_steps
  rename Fr _ _ _ _=>F₂
  rename News _ _ _ _=>N₂
  refine stepNC hC' (ext:=[(r,listOf #[.int rv tr] kr)]) hA S hg rfl KX TX F₂ N₂ (fun p hp=>by rw [List.mem_singleton.mp hp]; show r∉[M,d,lg,pl]; exact nin4' ⟨q8,q9,q7,q10⟩) ho hf hlo (by k_room) hz q5 q6 q3 hD ?_ ?_
  ·intro e h₃ tk₃ T hT F₃ N₃
   try simp only [List.cons_append,List.nil_append] at N₃
   have fT:=fresh_up hg F₂ N₂ (ns_cons (⟨_,(.head _)⟩) (ns_cons (⟨_,eM1⟩) (ns_cons (⟨_,eM2⟩) (ns_cons (⟨_,eM3⟩) (ns_cons (⟨_,eM4⟩) (ns_nil)))))) hT
   have n0:@Ne Nat T M:=fun e=>by have h1:=(N₂ _ (.head _)).1; dsimp only at h1 hT; rw [e,h1] at hT; cases hT
   have n1:@Ne Nat T d:=fun e=>by have h1:=(N₂ _ eM1).1; dsimp only at h1 hT; rw [e,h1] at hT; cases hT
   have n2:@Ne Nat T lg:=fun e=>by have h1:=(N₂ _ eM2).1; dsimp only at h1 hT; rw [e,h1] at hT; cases hT
   have n3:@Ne Nat T pl:=fun e=>by have h1:=(N₂ _ eM3).1; dsimp only at h1 hT; rw [e,h1] at hT; cases hT
   have n4:@Ne Nat T r:=fun e=>by have h1:=(N₂ _ eM4).1; dsimp only at h1 hT; rw [e,h1] at hT; cases hT
   k_steps
   rename Fr _ _ _ _=>F₄
   rename News _ _ _ _=>N₄
   refine hok e _ _ T _ _ (mod_of hg F₄ N₄ (ns_cons (fun _ o q=>?_) (ns_cons (fun q=>(q eM1).elim) (ns_cons (fun q=>(q (.head _)).elim) (ns_cons (fun _ o q=>?_) (ns_cons (fun _ o q=>?_) (ns_nil))))))) fT (N₄ _ (.head _)).1 (N₄ _ eM3).1 (N₄ _ eM2).1
   ·rw [hM] at q; cases q; exact eM1
   ·rw [hp] at q; cases q; exact eM4
   ·rw [hr] at q; cases q; exact eM5
  ·intro kd Cx hkd hc h' tk' e T hT TH
   rw [hg] at TH
   exact hno kd Cx hkd hc h' tk' e T _ (fresh_up hg F₂ N₂ (ns_cons (⟨_,(.head _)⟩) (ns_cons (⟨_,eM1⟩) (ns_cons (⟨_,eM2⟩) (ns_cons (⟨_,eM3⟩) (ns_cons (⟨_,eM4⟩) (ns_nil)))))) hT) TH
theorem tpc_abortC {C:Addr} {w:World} {A:Around} {s:Shared} {B:Heap} {M d pl lg:Addr} {x:Mk} {who:Str} {tw tk t5 t6:Tok} {key kept value:Int} {ready:Value} {k:Nat} {items:Array Value} {v3:Value} {R:Rp} {loose:List Str} {mg mb:Sm}
  {op:Obj} {kvs:List (Str×Value)} {D:List (PyData×PyData)} {outer:List Env}
  (hC:C=897 ∨ C=923) (X:(hd.heap_1 w.params).In B) (T:TopRead pq loose mg mb B) (hB:B.StaysIn s.heap) (hroom:A.depth+12<recursionLimit)
  (hA:A.frames=some outer) (S:Stk outer s.heap [M,d,lg,pl])
  (hM:s.heap.get? M=some (instObj C d)) (hd:s.heap.get? d=some (dictOf (mgrEs x who tw key tk pl lg kept t5 value t6 ready) 8)) (hl:s.heap.get? lg=some (listOf items k)) (hp:s.heap.get? pl=some op)
  (ho:op.IsDictOf (strKind P2 w) kvs) (hf:PyProof.V.FlatPairs PyData.str kvs D) (hlo:(pl == sysModules)=false)
  (fM:B.get? M=none) (fd:B.get? d=none) (fl:B.get? lg=none) (fp:B.get? pl=none) (hz:items.size<900)
  (q5:@Ne Nat d pl) (q6:@Ne Nat lg pl) (q3:@Ne Nat M pl)
  (hD:PySem.Spec.lookup (.str "tpc_abort") D=none)
  (hok:PySem.Spec.lookup (.str "tpc_abort") D=none→∀ h' tk' T ta t₂,Mod [lg,d] s.heap h'→s.heap.get? T=none→h'.get? T=some (tup2 (.str "tpc_abort" ta) (.str who tw))→h'.get? lg=some (listOf (items.push (.ref T)) (k+1))→h'.get? d=some (dictOf (mgrEs x who tw key tk pl lg kept t5 kept t₂ .none) 8)→R (.ok (.ret .none)) { s with heap:=h',toks:=tk' })
   :
  codeAny (model P2 w) A (.call (.ref 894) ⟨[.ref M,v3],[]⟩) R s:=by
 k_dflt (refine' enter (Λ:=[(M,instObj C d),(d,(dictOf (mgrEs x who tw key tk pl lg kept t5 value t6 ready) 8)),(lg,listOf items k),(pl,op)]) X T hB ?k1 ?k2 (by k_is) (by k_is) (by k_room) (BindsTo.of_eq rfl) (locs rfl) ?_ rfl rfl rfl (by decide))
 (case k1=>simp only [List.forall_mem_cons]; exact ⟨hM,hd,hl,hp,fun p hp=>nomatch hp⟩)
 (case k2=>simp only [List.forall_mem_cons]; exact ⟨fM,fd,fl,fp,fun p hp=>nomatch hp⟩)
 have q1:@Ne Nat M d:=fun e=>by rw [e,hd] at hM; cases hM
 have q2:@Ne Nat M lg:=fun e=>by rw [e,hl] at hM; cases hM
 have q4:@Ne Nat d lg:=fun e=>by rw [e,hl] at hd; simp [dictOf,PySem.W.listOf] at hd
 intro g L' h₁ hg l1 KX TX F N
 clear fM fd fl fp hB X T
 k_lt l1
 dsimp only
 have hC':=hC
 rcases hC with rfl|rfl
 all_goals
  k_steps
  rename Fr _ _ _ _=>F₂
  rename News _ _ _ _=>N₂
  refine stepNC hC' (ext:=[]) hA S hg rfl KX TX F₂ N₂ (fun p hp=>nomatch hp) ho hf hlo (by k_room) hz q5 q6 q3 (.inl hD) ?_ ?_
  ·intro e h₃ tk₃ T hT F₃ N₃
   try simp only [List.cons_append,List.nil_append] at N₃
   have fT:=fresh_up hg F₂ N₂ (ns_cons (⟨_,(.head _)⟩) (ns_cons (⟨_,eM1⟩) (ns_cons (⟨_,eM2⟩) (ns_cons (⟨_,eM3⟩) (ns_nil))))) hT
   have n0:@Ne Nat T M:=fun e=>by have h1:=(N₂ _ (.head _)).1; dsimp only at h1 hT; rw [e,h1] at hT; cases hT
   have n1:@Ne Nat T d:=fun e=>by have h1:=(N₂ _ eM1).1; dsimp only at h1 hT; rw [e,h1] at hT; cases hT
   have n2:@Ne Nat T lg:=fun e=>by have h1:=(N₂ _ eM2).1; dsimp only at h1 hT; rw [e,h1] at hT; cases hT
   have n3:@Ne Nat T pl:=fun e=>by have h1:=(N₂ _ eM3).1; dsimp only at h1 hT; rw [e,h1] at hT; cases hT
   k_steps
   rename Fr _ _ _ _=>F₄
   rename News _ _ _ _=>N₄
   refine hok e _ _ T _ _ (mod_of hg F₄ N₄ (ns_cons (fun _ o q=>?_) (ns_cons (fun q=>(q eM1).elim) (ns_cons (fun q=>(q (.head _)).elim) (ns_cons (fun _ o q=>?_) (ns_nil)))))) fT (N₄ _ (.head _)).1 (N₄ _ eM3).1 (N₄ _ eM2).1
   ·rw [hM] at q; cases q; exact eM1
   ·rw [hp] at q; cases q; exact eM4
  ·intro kd Cx hkd hc h' tk' e T hT TH
   rw [hD] at hkd; cases hkd
theorem abortC {C:Addr} {w:World} {A:Around} {s:Shared} {B:Heap} {M d pl lg:Addr} {x:Mk} {who:Str} {tw tk t5 t6:Tok} {key kept value:Int} {ready:Value} {k:Nat} {items:Array Value} {v3:Value} {R:Rp} {loose:List Str} {mg mb:Sm}
  {op:Obj} {kvs:List (Str×Value)} {D:List (PyData×PyData)} {outer:List Env}
  (hC:C=897 ∨ C=923) (X:(hd.heap_1 w.params).In B) (T:TopRead pq loose mg mb B) (hB:B.StaysIn s.heap) (hroom:A.depth+12<recursionLimit)
  (hA:A.frames=some outer) (S:Stk outer s.heap [M,d,lg,pl])
  (hM:s.heap.get? M=some (instObj C d)) (hd:s.heap.get? d=some (dictOf (mgrEs x who tw key tk pl lg kept t5 value t6 ready) 8)) (hl:s.heap.get? lg=some (listOf items k)) (hp:s.heap.get? pl=some op)
  (ho:op.IsDictOf (strKind P2 w) kvs) (hf:PyProof.V.FlatPairs PyData.str kvs D) (hlo:(pl == sysModules)=false)
  (fM:B.get? M=none) (fd:B.get? d=none) (fl:B.get? lg=none) (fp:B.get? pl=none) (hz:items.size<900)
  (q5:@Ne Nat d pl) (q6:@Ne Nat lg pl) (q3:@Ne Nat M pl)
  (hD:PySem.Spec.lookup (.str "abort") D=none)
  (hok:PySem.Spec.lookup (.str "abort") D=none→∀ h' tk' T ta t₂,Mod [lg,d] s.heap h'→s.heap.get? T=none→h'.get? T=some (tup2 (.str "abort" ta) (.str who tw))→h'.get? lg=some (listOf (items.push (.ref T)) (k+1))→h'.get? d=some (dictOf (mgrEs x who tw key tk pl lg kept t5 kept t₂ .none) 8)→R (.ok (.ret .none)) { s with heap:=h',toks:=tk' })
   :
  codeAny (model P2 w) A (.call (.ref 859) ⟨[.ref M,v3],[]⟩) R s:=by
 k_dflt (refine' enter (Λ:=[(M,instObj C d),(d,(dictOf (mgrEs x who tw key tk pl lg kept t5 value t6 ready) 8)),(lg,listOf items k),(pl,op)]) X T hB ?k1 ?k2 (by k_is) (by k_is) (by k_room) (BindsTo.of_eq rfl) (locs rfl) ?_ rfl rfl rfl (by decide))
 (case k1=>simp only [List.forall_mem_cons]; exact ⟨hM,hd,hl,hp,fun p hp=>nomatch hp⟩)
 (case k2=>simp only [List.forall_mem_cons]; exact ⟨fM,fd,fl,fp,fun p hp=>nomatch hp⟩)
 have q1:@Ne Nat M d:=fun e=>by rw [e,hd] at hM; cases hM
 have q2:@Ne Nat M lg:=fun e=>by rw [e,hl] at hM; cases hM
 have q4:@Ne Nat d lg:=fun e=>by rw [e,hl] at hd; simp [dictOf,PySem.W.listOf] at hd
 intro g L' h₁ hg l1 KX TX F N
 clear fM fd fl fp hB X T
 k_lt l1
 dsimp only
 have hC':=hC
 rcases hC with rfl|rfl
 all_goals
  k_steps
  rename Fr _ _ _ _=>F₂
  rename News _ _ _ _=>N₂
  refine stepNC hC' (ext:=[]) hA S hg rfl KX TX F₂ N₂ (fun p hp=>nomatch hp) ho hf hlo (by k_room) hz q5 q6 q3 (.inl hD) ?_ ?_
  ·intro e h₃ tk₃ T hT F₃ N₃
   try simp only [List.cons_append,List.nil_append] at N₃
   have fT:=fresh_up hg F₂ N₂ (ns_cons (⟨_,(.head _)⟩) (ns_cons (⟨_,eM1⟩) (ns_cons (⟨_,eM2⟩) (ns_cons (⟨_,eM3⟩) (ns_nil))))) hT
   have n0:@Ne Nat T M:=fun e=>by have h1:=(N₂ _ (.head _)).1; dsimp only at h1 hT; rw [e,h1] at hT; cases hT
   have n1:@Ne Nat T d:=fun e=>by have h1:=(N₂ _ eM1).1; dsimp only at h1 hT; rw [e,h1] at hT; cases hT
   have n2:@Ne Nat T lg:=fun e=>by have h1:=(N₂ _ eM2).1; dsimp only at h1 hT; rw [e,h1] at hT; cases hT
   have n3:@Ne Nat T pl:=fun e=>by have h1:=(N₂ _ eM3).1; dsimp only at h1 hT; rw [e,h1] at hT; cases hT
   k_steps
   rename Fr _ _ _ _=>F₄
   rename News _ _ _ _=>N₄
   refine hok e _ _ T _ _ (mod_of hg F₄ N₄ (ns_cons (fun _ o q=>?_) (ns_cons (fun q=>(q eM1).elim) (ns_cons (fun q=>(q (.head _)).elim) (ns_cons (fun _ o q=>?_) (ns_nil)))))) fT (N₄ _ (.head _)).1 (N₄ _ eM3).1 (N₄ _ eM2).1
   ·rw [hM] at q; cases q; exact eM1
   ·rw [hp] at q; cases q; exact eM4
  ·intro kd Cx hkd hc h' tk' e T hT TH
   rw [hD] at hkd; cases hkd
structure Mg where
 C:Addr
 M:Addr
 d:Addr
 pl:Addr
 x:Mk
 who:Str
 tw:Tok
 key:Int
 tk:Tok
 D:List (PyData×PyData)
deriving Nonempty
structure Ms where
 kept:Int
 value:Int
 ready:Option Int
deriving Nonempty
noncomputable abbrev Rest:=List (Addr×Obj)
noncomputable def put (a:Addr) (o:Obj) (r:Rest):Rest:=r.map fun p=>if p.1=a then (a,o) else p
theorem put_fst (a:Addr) (o:Obj) (r:Rest):(put a o r).map (·.1)=r.map (·.1):=by
 unfold put
 rw [List.map_map]
 refine List.map_congr_left fun p _=>?_
 by_cases h:p.1=a
 ·simp [h]
 ·simp [h]
theorem put_ne {a:Addr} {o:Obj} {r:Rest} {p:Addr×Obj} (h:p∈r) (n:p.1≠a):p∈put a o r:=List.mem_map.mpr ⟨p,h,if_neg n⟩
theorem put_self {a:Addr} {o o₀:Obj} {r:Rest} (h:(a,o₀)∈r):(a,o)∈put a o r:=List.mem_map.mpr ⟨(a,o₀),h,if_pos rfl⟩
theorem put_mem {a:Addr} {o:Obj} {r:Rest} {p:Addr×Obj} (h:p∈put a o r):(p=(a,o)∧a∈r.map (·.1)) ∨ (p∈r∧p.1≠a):=by
 obtain ⟨q,hq,e⟩:=List.mem_map.mp h
 by_cases c:q.1=a
 ·rw [if_pos c] at e
  exact .inl ⟨e.symm,c ▸ List.mem_map_of_mem hq⟩
 ·rw [if_neg c] at e
  exact .inr ⟨e ▸ hq,e ▸ c⟩
theorem nd_eq {r:Rest} (n:(r.map (·.1)).Nodup) {a:Addr} {o o':Obj} (h:(a,o)∈r) (h':(a,o')∈r):o=o':=by
 induction r with
 | nil=>cases h
 | cons q r ih=>
  rw [List.map_cons,List.nodup_cons] at n
  rcases List.mem_cons.mp h with e|h
  ·rcases List.mem_cons.mp h' with e'|h'
   ·exact (Prod.mk.inj (e.trans e'.symm)).2
   ·exact (n.1 (by rw [←e]; exact List.mem_map_of_mem (f:=(·.1)) h')).elim
  ·rcases List.mem_cons.mp h' with e'|h'
   ·exact (n.1 (by rw [←e']; exact List.mem_map_of_mem (f:=(·.1)) h)).elim
   ·exact ih n.2 h h'
noncomputable abbrev mgDict (lg:Addr) (μ:Mg) (s:Ms) (t5 t6:Tok) (rv:Value):Obj:=dictOf (mgrEs μ.x μ.who μ.tw μ.key μ.tk μ.pl lg s.kept t5 s.value t6 rv) 8
structure MgOk (w:World) (lg:Addr) (rest:Rest) (μ:Mg) (s:Ms):Prop where
 cls:μ.C=897 ∨ μ.C=923
 inst:(μ.M,instObj μ.C μ.d)∈rest
 plan:∃ op kvs,(μ.pl,op)∈rest∧op.IsDictOf (strKind P2 w) kvs∧PyProof.V.FlatPairs PyData.str kvs μ.D
 low:(μ.pl == sysModules)=false
 dict:∃ t5 t6 rv,(μ.d,mgDict lg μ s t5 t6 rv)∈rest∧∀ v,s.ready=some v→∃ r tr kr,rv=.ref r∧r≠lg∧(r,listOf #[.int v tr] kr)∈rest
noncomputable def RowAt (rest:Rest) (v:Value) (r:Str×Str):Prop:=∃ T ta tb,v=.ref T∧(T,tup2 (.str r.1 ta) (.str r.2 tb))∈rest
noncomputable def RowsAt (rest:Rest):List Value→List (Str×Str)→Prop
 | [],[]=>True
 | v::vs,r::rs=>RowAt rest v r∧RowsAt rest vs rs
 | _,_=>False
theorem RowsAt.imp {rest rest':Rest} (k:∀ v r,RowAt rest v r→RowAt rest' v r):∀ {vs:List Value} {rs:List (Str×Str)},RowsAt rest vs rs→RowsAt rest' vs rs
 | [],[],_=>trivial
 | _::_,_::_,⟨a,b⟩=>⟨k _ _ a,RowsAt.imp k b⟩
theorem RowsAt.snoc {rest:Rest} {v:Value} {r:Str×Str} (h:RowAt rest v r):∀ {vs:List Value} {rs:List (Str×Str)},RowsAt rest vs rs→RowsAt rest (vs++[v]) (rs++[r])
 | [],[],_=>⟨h,trivial⟩
 | _::_,_::_,⟨a,b⟩=>⟨a,RowsAt.snoc h b⟩
theorem RowsAt.len {rest:Rest}:∀ {vs:List Value} {rs:List (Str×Str)},RowsAt rest vs rs→vs.length=rs.length
 | [],[],_=>rfl
 | _::_,_::_,⟨_,b⟩=>congrArg (·+1) (RowsAt.len b)
theorem inst_list {C d:Addr} {items:Array Value} {k:Nat} (h:instObj C d=listOf items k):False:=by simp [PySem.W.listOf] at h
theorem inst_dict {C d:Addr} {es:List DictEntry} {n:Nat} (h:instObj C d=dictOf es n):False:=by simp [dictOf] at h
theorem dict_list {es:List DictEntry} {n:Nat} {items:Array Value} {k:Nat} (h:dictOf es n=listOf items k):False:=by simp [PySem.W.listOf,dictOf] at h
theorem tup_list {o:Obj} (hc:o.cls=.type "tuple") {items:Array Value} {k:Nat} (h:o=listOf items k):False:=by subst h; simp [PySem.W.listOf] at hc
theorem tup_dict {o:Obj} (hc:o.cls=.type "tuple") {es:List DictEntry} {n:Nat} (h:o=dictOf es n):False:=by subst h; simp [dictOf] at hc
structure Wd (kept:Rest) (w:World) (lg:Addr) (μs:List Mg) (σ:Addr→Ms) (rows:List (Str×Str)) (rest:Rest):Prop where
 nd:(rest.map (·.1)).Nodup
 log:∃ items k,(lg,listOf items k)∈rest∧RowsAt rest items.toList rows
 mg:∀ μ∈μs,MgOk w lg rest μ (σ μ.M)
 ndM:∀ μ∈μs,∀ ν∈μs,μ.M=ν.M→μ=ν
 ndd:∀ μ∈μs,∀ ν∈μs,μ.d=ν.d→μ=ν
 ndp:∀ μ∈μs,∀ ν∈μs,μ.d≠ν.pl
 stay:∀ p∈kept,p∈rest∧p.2.cls=.type "tuple"
noncomputable def upd (σ:Addr→Ms) (M:Addr) (s:Ms):Addr→Ms:=fun a=>if a=M then s else σ a
theorem upd_in {σ:Addr→Ms} {M:Addr} {f:Ms→Ms} {l:List Addr} (h:M∉l):(fun a=>if a∈l then f (upd σ M (f (σ M)) a) else upd σ M (f (σ M)) a)=fun a=>if a∈M::l then f (σ a) else σ a:=funext fun a=>by
 unfold upd
 by_cases c:a=M
 ·rw [c,if_neg h,if_pos rfl,if_pos (.head _)]
 ·rw [if_neg c]
  by_cases d:a∈l
  ·rw [if_pos d,if_pos (.tail _ d)]
  ·rw [if_neg d,if_neg fun q=>(List.mem_cons.mp q).elim c d]
theorem Wd.lg_ne_inst {w:World} {lg:Addr} {μs:List Mg} {σ:Addr→Ms} {rows:List (Str×Str)} {rest:Rest} (W:Wd kept w lg μs σ rows rest) {μ:Mg} (hμ:μ∈μs):μ.M≠lg∧μ.d≠lg∧μ.pl≠lg∧μ.M≠μ.d∧μ.M≠μ.pl:=by
 obtain ⟨items,k,hl,_⟩:=W.log
 have O:=W.mg μ hμ
 obtain ⟨op,kvs,hp,ho,_⟩:=O.plan
 obtain ⟨t5,t6,rv,hd,_⟩:=O.dict
 obtain ⟨es,ep,hx,hdt,_⟩:=ho
 refine ⟨fun e=>inst_list (nd_eq W.nd (e ▸ O.inst) hl),fun e=>dict_list (nd_eq W.nd (e ▸ hd) hl),fun e=>?_,fun e=>?_,fun e=>?_⟩
 ·have:=nd_eq W.nd (e ▸ hp) hl; rw [this] at hdt; cases hdt
 ·have h1:=O.inst
  rw [e] at h1
  exact inst_dict (nd_eq W.nd h1 hd)
 ·have h1:=O.inst
  rw [e] at h1
  have:=nd_eq W.nd h1 hp; rw [←this] at hdt; cases hdt
theorem Wd.step {w:World} {lg:Addr} {μs:List Mg} {σ:Addr→Ms} {rows:List (Str×Str)} {rest:Rest} (W:Wd kept w lg μs σ rows rest) {μ:Mg} (hμ:μ∈μs) {items:Array Value} {k:Nat} (hl:(lg,listOf items k)∈rest)
  {T:Addr} {what:Str} {ta:Tok} {s':Ms} {t5 t6:Tok} {rv:Value} {new:Rest} (hT:((T,tup2 (.str what ta) (.str μ.who μ.tw))::new).map (·.1) |>.Nodup)
  (hf:∀ p∈(T,tup2 (.str what ta) (.str μ.who μ.tw))::new,p.1∉rest.map (·.1))
  (hr:∀ v,s'.ready=some v→∃ r tr kr,rv=.ref r∧r≠lg∧(r,listOf #[.int v tr] kr)∈((T,tup2 (.str what ta) (.str μ.who μ.tw))::new)++rest) :
  Wd kept w lg μs (upd σ μ.M s') (rows++[(what,μ.who)]) (((T,tup2 (.str what ta) (.str μ.who μ.tw))::new)++put μ.d (mgDict lg μ s' t5 t6 rv) (put lg (listOf (items.push (.ref T)) (k+1)) rest)):=by
 obtain ⟨nM,nd',npl,nMd,nMp⟩:=W.lg_ne_inst hμ
 have O:=W.mg μ hμ
 obtain ⟨t5₀,t6₀,rv₀,hd,_⟩:=O.dict
 have keep:∀ p∈rest,p.1≠lg→p.1≠μ.d→p∈((T,tup2 (.str what ta) (.str μ.who μ.tw))::new)++put μ.d (mgDict lg μ s' t5 t6 rv) (put lg (listOf (items.push (.ref T)) (k+1)) rest):=
  fun p hp n1 n2=>List.mem_append_right _ (put_ne (put_ne hp n1) n2)
 have keepT:∀ r o,(r,o)∈rest→o.cls=.type "tuple" → (r,o)∈((T,tup2 (.str what ta) (.str μ.who μ.tw))::new)++put μ.d (mgDict lg μ s' t5 t6 rv) (put lg (listOf (items.push (.ref T)) (k+1)) rest):=fun r o hro hc=>by
  refine keep _ hro (fun e=>?_) fun e=>?_
  ·have e:r=lg:=e
   subst e
   exact tup_list hc (nd_eq W.nd hro hl)
  ·have e:r=μ.d:=e
   subst e
   exact tup_dict hc (nd_eq W.nd hro hd)
 refine ⟨?_,⟨items.push (.ref T),k+1,?_,?_⟩,fun ν hν=>?_,W.ndM,W.ndd,W.ndp,fun p hp=>⟨keepT _ _ (W.stay p hp).1 (W.stay p hp).2,(W.stay p hp).2⟩⟩
 ·rw [List.map_append,put_fst,put_fst,List.nodup_append]
  refine ⟨hT,W.nd,fun a ha b hb e=>?_⟩
  obtain ⟨p,hp,rfl⟩:=List.mem_map.mp ha
  exact hf p hp (e ▸ hb)
 ·refine List.mem_append_right _ (put_ne (put_self hl) fun e=>nd' e.symm)
 ·obtain ⟨items',k',hl',hrows⟩:=W.log
  have e:=nd_eq W.nd hl hl'
  simp only [PySem.W.listOf,Obj.mk.injEq,Data.seq.injEq] at e
  obtain ⟨-,-,⟨rfl,-⟩,-⟩:=e
  rw [Array.toList_push]
  refine RowsAt.snoc (r:=(what,μ.who)) ⟨T,ta,μ.tw,rfl,List.mem_append_left _ (.head _)⟩ (hrows.imp fun v r hvr=>?_)
  obtain ⟨T',ta',tb',rfl,hm⟩:=hvr
  exact ⟨T',ta',tb',rfl,keepT _ _ hm rfl⟩
 ·have P:=W.mg ν hν
  obtain ⟨mM,md,mpl,mMd,mMp⟩:=W.lg_ne_inst hν
  obtain ⟨op,kvs,hp,ho,hfp⟩:=P.plan
  have pl':=keep _ hp mpl (fun e=>W.ndp μ hμ ν hν e.symm)
  have in':=keep _ P.inst mM (fun e=>by
   have e:ν.M=μ.d:=e
   have h1:=P.inst
   rw [e] at h1
   exact inst_dict (nd_eq W.nd h1 hd))
  by_cases hν':ν=μ
  ·subst hν'
   refine ⟨P.cls,in',⟨op,kvs,pl',ho,hfp⟩,P.low,t5,t6,rv,?_,fun v hv=>?_⟩
   ·simp only [upd,if_pos]
    exact List.mem_append_right _ (put_self (put_ne hd md))
   ·simp only [upd,if_pos] at hv
    obtain ⟨r,tr,kr,e,nr,hm⟩:=hr v hv
    refine ⟨r,tr,kr,e,nr,?_⟩
    rcases List.mem_append.mp hm with hm|hm
    ·exact List.mem_append_left _ hm
    ·refine keep _ hm nr fun e=>?_
     have e:r=ν.d:=e
     subst e
     exact dict_list (nd_eq W.nd hd hm)
  ·have nM':ν.M≠μ.M:=fun e=>hν' (W.ndM ν hν μ hμ e)
   have nd'':ν.d≠μ.d:=fun e=>hν' (W.ndd ν hν μ hμ e)
   have us:upd σ μ.M s' ν.M=σ ν.M:=if_neg nM'
   rw [us]
   obtain ⟨t5',t6',rv',hd',hr'⟩:=P.dict
   refine ⟨P.cls,in',⟨op,kvs,pl',ho,hfp⟩,P.low,t5',t6',rv',keep _ hd' md nd'',fun v hv=>?_⟩
   obtain ⟨r,tr,kr,e,nr,hm⟩:=hr' v hv
   refine ⟨r,tr,kr,e,nr,keep _ hm nr fun e=>?_⟩
   have e:r=μ.d:=e
   subst e
   exact dict_list (nd_eq W.nd hd hm)
theorem upd_self (σ:Addr→Ms) (M:Addr):upd σ M (σ M)=σ:=by
 funext a
 unfold upd
 split
 ·subst a; rfl
 ·rfl
section
variable {w:World} {lg:Addr} {μs:List Mg} {σ:Addr→Ms} {rows:List (Str×Str)} {rest named new:Rest} {μ:Mg} {g h h':Heap} {L T:Addr} {m:Sm} {items:Array Value} {k:Nat} {tup:Obj} {t5 t6:Tok} {rv:Value} {s':Ms}
theorem after_ok (F:Fr g L h m) (N:News g L h (named++rest)) (hdis:∀ p∈named,p.1∉rest.map (·.1)) {d:Addr} {od ol:Obj} (hd:d∈rest.map (·.1)) (hl:lg∈rest.map (·.1)) (hm:Mod [lg,d] h h')
  (hn:∀ p∈new,h.get? p.1=none∧h'.get? p.1=some p.2) (gl:h'.get? lg=some ol) (gd:h'.get? d=some od) :
  Fr g L h' m∧News g L h' (named++(new++put d od (put lg ol rest)))∧(∀ p∈named,p.1∉(new++put d od (put lg ol rest)).map (·.1))∧(∀ p∈new,p.1∉rest.map (·.1)):=by
 obtain ⟨oL,es,ep,hL,r⟩:=F.ns
 have cf:∀ a∈rest.map (·.1),a≠L∧g.get? a=none:=fun a ha=>by
  obtain ⟨p,hp,rfl⟩:=List.mem_map.mp ha
  exact (N p (List.mem_append_right _ hp)).2
 have fresh:∀ p∈new,p.1≠L∧g.get? p.1=none:=fun p hp=>by
  have h1:=(hn p hp).1
  refine ⟨fun z=>(by rw [z,hL] at h1; cases h1),?_⟩
  cases q:g.get? p.1 with
  | none=>rfl
  | some o=>rw [F.keep _ _ q] at h1; cases h1
 refine ⟨⟨⟨oL,es,ep,hm _ _ hL fun q=>?_,r⟩,fun b o q=>hm _ _ (F.keep b o q) fun z=>?_,F.above⟩,fun p hp=>?_,fun p hp hm'=>?_,fun p hp hm'=>?_⟩
 ·simp only [List.mem_cons,List.not_mem_nil,or_false] at q
  rcases q with q|q
  ·exact (cf lg hl).1 q.symm
  ·exact (cf d hd).1 q.symm
 ·simp only [List.mem_cons,List.not_mem_nil,or_false] at z
  rcases z with z|z
  ·rw [z,(cf lg hl).2] at q; cases q
  ·rw [z,(cf d hd).2] at q; cases q
 ·rcases List.mem_append.mp hp with hp|hp
  ·have c:=N p (List.mem_append_left _ hp)
   refine ⟨hm _ _ c.1 fun z=>?_,c.2⟩
   simp only [List.mem_cons,List.not_mem_nil,or_false] at z
   rcases z with z|z
   ·exact hdis p hp (z ▸ hl)
   ·exact hdis p hp (z ▸ hd)
  ·rcases List.mem_append.mp hp with hp|hp
   ·exact ⟨(hn p hp).2,fresh p hp⟩
   ·rcases put_mem hp with ⟨rfl,_⟩|⟨hp,n1⟩
    ·exact ⟨gd,cf d hd⟩
    ·rcases put_mem hp with ⟨rfl,_⟩|⟨hp,n2⟩
     ·exact ⟨gl,cf lg hl⟩
     ·have c:=N p (List.mem_append_right _ hp)
      refine ⟨hm _ _ c.1 fun z=>?_,c.2⟩
      simp only [List.mem_cons,List.not_mem_nil,or_false] at z
      exact z.elim n2 n1
 ·rw [List.map_append,put_fst,put_fst] at hm'
  rcases List.mem_append.mp hm' with hm'|hm'
  ·obtain ⟨q,hq,e⟩:=List.mem_map.mp hm'
   have h1:=(hn q hq).1
   have h2:=(N p (List.mem_append_left _ hp)).1
   rw [e,h2] at h1; cases h1
  ·exact hdis p hp hm'
 ·obtain ⟨q,hq,e⟩:=List.mem_map.mp hm'
  have h1:=(hn p hp).1
  have h2:=(N q (List.mem_append_right _ hq)).1
  rw [←e,h2] at h1; cases h1
end
section
variable {outer:List Env} {Cx e:Addr} {named rest:Rest} {g h h':Heap} {L lg:Addr} {m:Sm} {env:Env} {Λ Λ₀:List Addr} {h₀:Heap}
theorem after_no (hfL:env.frame=some L) (S:Stk outer h₀ Λ₀) (hg:g=hideAll h₀ Λ₀) (F:Fr g L h m) (N:News g L h (named++rest)) (nd:(rest.map (·.1)).Nodup) (hdis:∀ p∈named,p.1∉rest.map (·.1)) {d T:Addr} {od od₀ ol ol' tup:Obj} {newsT:Rest}
  (hd:(d,od₀)∈rest) (hl:(lg,ol)∈rest) (hT:h.get? T=none) (cT:(T,tup)∈newsT) (cd:(d,od)∈newsT) (cl:(lg,ol')∈newsT) (cΛ:∀ a∈Λ,a=d ∨ a=lg ∨ ∃ o,(a,o)∈rest∧(a,o)∈newsT)
  (TH:Thrown (env::outer) (hideAll h Λ) newsT Cx e h h') :
  Thrown (env::outer) g (named++([(T,tup)]++put d od (put lg ol' rest))) Cx e h h'∧(∀ p∈named,p.1∉([(T,tup)]++put d od (put lg ol' rest)).map (·.1))∧T∉rest.map (·.1):=by
 obtain ⟨B,t,b1,b2,b3,b4,b5⟩:=TH
 have nfr:∀ p∈named++rest,p.1∉frs (env::outer):=fun p hp hm=>by
  rcases frs_mem hfL hm with q|q
  ·exact (N p hp).2.1 q
  ·obtain ⟨o',_,hg',_⟩:=S.ground hg q
   rw [(N p hp).2.2] at hg'; cases hg'
 have in4:∀ a∈Λ,∃ o,(a,o)∈rest:=fun a ha=>by
  rcases cΛ a ha with rfl|rfl|⟨o,ho,_⟩
  ·exact ⟨_,hd⟩
  ·exact ⟨_,hl⟩
  ·exact ⟨o,ho⟩
 have old:∀ p∈named++rest,p.1∉Λ→B.get? p.1=some p.2:=fun p hp' n=>b1 _ _ (hideAll_get _ (N p hp').1 n) (nfr p hp')
 refine ⟨⟨B,t,fun b o q nm=>b1 b o (hideAll_get _ (F.keep b o q) fun hm=>?_) nm,fun p hp'=>?_,b3,b4,fun p hp'=>?_⟩,fun p hp' hm'=>?_,fun hm'=>?_⟩
 ·obtain ⟨o',ho'⟩:=in4 b hm
  rw [(N _ (List.mem_append_right _ ho')).2.2] at q; cases q
 ·rcases List.mem_append.mp hp' with hp'|hp'
  ·exact old p (List.mem_append_left _ hp') fun hm=>by
    obtain ⟨o',ho'⟩:=in4 _ hm
    exact hdis p hp' (List.mem_map_of_mem (f:=(·.1)) ho')
  ·rcases List.mem_append.mp hp' with hp'|hp'
   ·rw [List.mem_singleton.mp hp']; exact b2 _ cT
   ·rcases put_mem hp' with ⟨rfl,_⟩|⟨hp',n1⟩
    ·exact b2 _ cd
    ·rcases put_mem hp' with ⟨rfl,_⟩|⟨hp',n2⟩
     ·exact b2 _ cl
     ·by_cases hm:p.1∈Λ
      ·rcases cΛ _ hm with e|e|⟨o,ho,hn⟩
       ·exact (n1 e).elim
       ·exact (n2 e).elim
       ·obtain ⟨a,o'⟩:=p
        rw [nd_eq nd hp' ho]; exact b2 _ hn
      ·exact old p (List.mem_append_right _ hp') hm
 ·rcases List.mem_append.mp hp' with hp'|hp'
  ·exact (N p (List.mem_append_left _ hp')).2.2
  ·rcases List.mem_append.mp hp' with hp'|hp'
   ·rw [List.mem_singleton.mp hp']
    cases q:g.get? T with
    | none=>rfl
    | some o=>rw [F.keep _ _ q] at hT; cases hT
   ·rcases put_mem hp' with ⟨rfl,hm⟩|⟨hp',_⟩
    ·exact (N _ (List.mem_append_right _ hd)).2.2
    ·rcases put_mem hp' with ⟨rfl,hm⟩|⟨hp',_⟩
     ·exact (N _ (List.mem_append_right _ hl)).2.2
     ·exact (N p (List.mem_append_right _ hp')).2.2
 ·rw [List.map_append,put_fst,put_fst] at hm'
  rcases List.mem_append.mp hm' with hm'|hm'
  ·have e:p.1=T:=List.mem_singleton.mp hm'
   have h2:=(N p (List.mem_append_left _ hp')).1
   rw [e,hT] at h2; cases h2
  ·exact hdis p hp' hm'
 ·obtain ⟨q,hq,e⟩:=List.mem_map.mp hm'
  have h2:=(N q (List.mem_append_right _ hq)).1
  rw [e,hT] at h2; cases h2
end
theorem w_tpc_begin {w:World} {A:Around} {s:Shared} {h₀ g:Heap} {Λ₀:List Addr} {L lg:Addr} {m:Sm} {env:Env} {v3:Value} {Q:Vp} {E:Vp} {loose:List Str} {mg mb:Sm} {outer:List Env}
  {μs:List Mg} {σ:Addr→Ms} {rows:List (Str×Str)} {rest named:Rest} {μ:Mg}
  (hA:A.frames=some (env::outer)) (S:Stk outer h₀ Λ₀) (hg:g=hideAll h₀ Λ₀) (hfL:env.frame=some L) (hk:env.scope.kind=.function) (X:(hd.heap_1 w.params).In g) (T:TopRead pq loose mg mb g) (F:Fr g L s.heap m)
  (N:News g L s.heap (named++rest)) (W:Wd kept w lg μs σ rows rest) (hμ:μ∈μs) (hdis:∀ p∈named,p.1∉rest.map (·.1)) (hroom:A.depth+20<recursionLimit) (hz:rows.length<900)
  (hD:PySem.Spec.lookup (.str "tpc_begin") μ.D=none ∨ (A.handled=none∧(PySem.Spec.lookup (.str "tpc_begin") μ.D=some (.int 1) ∨ PySem.Spec.lookup (.str "tpc_begin") μ.D=some (.int 2))))
  (hok:PySem.Spec.lookup (.str "tpc_begin") μ.D=none→∀ h' tk' rest',Fr g L h' m→News g L h' (named++rest')→Wd kept w lg μs (upd σ μ.M (σ μ.M)) (rows++[(Str.ofString "tpc_begin",μ.who)]) rest'→(∀ p∈named,p.1∉rest'.map (·.1))→Q .none { s with heap:=h',toks:=tk' })
  (hno:∀ kd Cx,PySem.Spec.lookup (.str "tpc_begin") μ.D=some (.int kd)→(kd=1∧Cx=779 ∨ kd=2∧Cx=799)→∀ h' tk' e rest',
   Thrown (env::outer) g (named++rest') Cx e s.heap h'→Wd kept w lg μs σ (rows++[(Str.ofString "tpc_begin",μ.who)]) rest'→(∀ p∈named,p.1∉rest'.map (·.1))→E (.ref e) { s with heap:=h',toks:=tk' }) :
  wpAny (model P2 w) A (call (.ref 866) [.ref μ.M,v3]) Q E s:=by
 obtain ⟨nM,nd',npl,nMd,nMp⟩:=W.lg_ne_inst hμ
 have ndp:=W.ndp μ hμ μ hμ
 have O:=W.mg μ hμ
 obtain ⟨op,kvs,hp,ho,hf⟩:=O.plan
 obtain ⟨t5,t6,rv,hd,hr⟩:=O.dict
 obtain ⟨items,k,hl,hrows⟩:=W.log
 have hsz:items.size<900:=by rw [←Array.length_toList,hrows.len]; exact hz
 have mem:∀ p∈rest,p∈named++rest:=fun p hp=>List.mem_append_right _ hp
 have fM:=N _ (mem _ O.inst)
 have fd:=N _ (mem _ hd)
 have fl:=N _ (mem _ hl)
 have fp:=N _ (mem _ hp)
 have S':Stk (env::outer) s.heap [μ.M,μ.d,lg,μ.pl]:=S.push hg F N hfL hk (ns_cons ⟨_,mem _ O.inst,rfl⟩ (ns_cons ⟨_,mem _ hd,rfl⟩ (ns_cons ⟨_,mem _ hl,rfl⟩ (ns_cons ⟨_,mem _ hp,rfl⟩ ns_nil))))
 have ml:lg∈rest.map (·.1):=List.mem_map_of_mem (f:=(·.1)) hl
 have md:μ.d∈rest.map (·.1):=List.mem_map_of_mem (f:=(·.1)) hd
 have no:∀ kd Cx,PySem.Spec.lookup (.str "tpc_begin") μ.D=some (.int kd)→(kd=1∧Cx=779 ∨ kd=2∧Cx=799)→∀ h' tk' e T ta,s.heap.get? T=none →
   Thrown (env::outer) (hideAll s.heap [μ.M,μ.d,lg,μ.pl]) [(T,tup2 (.str "tpc_begin" ta) (.str μ.who μ.tw)),(μ.M,instObj μ.C μ.d),(μ.d,mgDict lg μ (σ μ.M) t5 t6 rv),(lg,listOf (items.push (.ref T)) (k+1)),(μ.pl,op)] Cx e s.heap h'→E (.ref e) { s with heap:=h',toks:=tk' }:=by
  intro kd Cx hkd hc h' tk' e T ta hT TH
  obtain ⟨TH',dis',nT⟩:=after_no hfL S hg F N W.nd hdis hd hl hT (.head _) eM2 eM3 (ns_cons (.inr (.inr ⟨_,O.inst,eM1⟩)) (ns_cons (.inl rfl) (ns_cons (.inr (.inl rfl)) (ns_cons (.inr (.inr ⟨_,hp,eM4⟩)) ns_nil)))) TH
  have W':=W.step (new:=[]) (s':=σ μ.M) (t5:=t5) (t6:=t6) (rv:=rv) (ta:=ta) (what := "tpc_begin") hμ hl (T:=T) (List.nodup_cons.mpr ⟨by simp,by simp⟩) (fun p hp'=>by rw [List.mem_singleton.mp hp']; exact nT) (fun v hv=>by
   obtain ⟨r1,tr1,kr1,e1,nr1,hm⟩:=hr v hv
   exact ⟨r1,tr1,kr1,e1,nr1,List.mem_append_right _ hm⟩)
  rw [upd_self] at W'
  exact hno kd Cx hkd hc h' tk' e _ TH' W' dis'
 have ok:PySem.Spec.lookup (.str "tpc_begin") μ.D=none→∀ h' tk' T ta,Mod [lg,μ.d] s.heap h'→s.heap.get? T=none→h'.get? T=some (tup2 (.str "tpc_begin" ta) (.str μ.who μ.tw))→h'.get? lg=some (listOf (items.push (.ref T)) (k+1))→h'.get? μ.d=some (mgDict lg μ (σ μ.M) t5 t6 rv)→Q .none { s with heap:=h',toks:=tk' }:=by
  intro e h' tk' T ta hm hT gT gl gd
  obtain ⟨F',N',dis',nT⟩:=after_ok (new:=(T,tup2 (.str "tpc_begin" ta) (.str μ.who μ.tw))::[]) F N hdis md ml hm (fun p hp'=>by rw [List.mem_singleton.mp hp']; exact ⟨hT,gT⟩) gl gd
  exact hok e h' tk' _ F' N' (W.step (new:=[]) (s':=(σ μ.M)) hμ hl (List.nodup_cons.mpr ⟨by simp,by simp⟩) nT (fun v hv=>by
   obtain ⟨r',tr',kr',e',nr',hm⟩:=hr v hv
   exact ⟨r',tr',kr',e',nr',List.mem_append_right _ hm⟩)) dis'
 exact wpAny_call (tpc_beginC O.cls (B:=g) X T F.keep (room1 hroom rfl) hA S' fM.1 fd.1 fl.1 fp.1 ho hf O.low fM.2.2 fd.2.2 fl.2.2 fp.2.2 hsz ndp npl.symm nMp hD ok no)
theorem w_commit {w:World} {A:Around} {s:Shared} {h₀ g:Heap} {Λ₀:List Addr} {L lg:Addr} {m:Sm} {env:Env} {v3:Value} {Q:Vp} {E:Vp} {loose:List Str} {mg mb:Sm} {outer:List Env}
  {μs:List Mg} {σ:Addr→Ms} {rows:List (Str×Str)} {rest named:Rest} {μ:Mg}
  (hA:A.frames=some (env::outer)) (S:Stk outer h₀ Λ₀) (hg:g=hideAll h₀ Λ₀) (hfL:env.frame=some L) (hk:env.scope.kind=.function) (X:(hd.heap_1 w.params).In g) (T:TopRead pq loose mg mb g) (F:Fr g L s.heap m)
  (N:News g L s.heap (named++rest)) (W:Wd kept w lg μs σ rows rest) (hμ:μ∈μs) (hdis:∀ p∈named,p.1∉rest.map (·.1)) (hroom:A.depth+20<recursionLimit) (hz:rows.length<900)
  (hD:PySem.Spec.lookup (.str "commit") μ.D=none ∨ (A.handled=none∧(PySem.Spec.lookup (.str "commit") μ.D=some (.int 1) ∨ PySem.Spec.lookup (.str "commit") μ.D=some (.int 2))))
  (hok:PySem.Spec.lookup (.str "commit") μ.D=none→∀ h' tk' rest',Fr g L h' m→News g L h' (named++rest')→Wd kept w lg μs (upd σ μ.M ⟨(σ μ.M).kept,(σ μ.M).value,some (σ μ.M).value⟩) (rows++[(Str.ofString "commit",μ.who)]) rest'→(∀ p∈named,p.1∉rest'.map (·.1))→Q .none { s with heap:=h',toks:=tk' })
  (hno:∀ kd Cx,PySem.Spec.lookup (.str "commit") μ.D=some (.int kd)→(kd=1∧Cx=779 ∨ kd=2∧Cx=799)→∀ h' tk' e rest',
   Thrown (env::outer) g (named++rest') Cx e s.heap h'→Wd kept w lg μs σ (rows++[(Str.ofString "commit",μ.who)]) rest'→(∀ p∈named,p.1∉rest'.map (·.1))→E (.ref e) { s with heap:=h',toks:=tk' }) :
  wpAny (model P2 w) A (call (.ref 873) [.ref μ.M,v3]) Q E s:=by
 obtain ⟨nM,nd',npl,nMd,nMp⟩:=W.lg_ne_inst hμ
 have ndp:=W.ndp μ hμ μ hμ
 have O:=W.mg μ hμ
 obtain ⟨op,kvs,hp,ho,hf⟩:=O.plan
 obtain ⟨t5,t6,rv,hd,hr⟩:=O.dict
 obtain ⟨items,k,hl,hrows⟩:=W.log
 have hsz:items.size<900:=by rw [←Array.length_toList,hrows.len]; exact hz
 have mem:∀ p∈rest,p∈named++rest:=fun p hp=>List.mem_append_right _ hp
 have fM:=N _ (mem _ O.inst)
 have fd:=N _ (mem _ hd)
 have fl:=N _ (mem _ hl)
 have fp:=N _ (mem _ hp)
 have S':Stk (env::outer) s.heap [μ.M,μ.d,lg,μ.pl]:=S.push hg F N hfL hk (ns_cons ⟨_,mem _ O.inst,rfl⟩ (ns_cons ⟨_,mem _ hd,rfl⟩ (ns_cons ⟨_,mem _ hl,rfl⟩ (ns_cons ⟨_,mem _ hp,rfl⟩ ns_nil))))
 have ml:lg∈rest.map (·.1):=List.mem_map_of_mem (f:=(·.1)) hl
 have md:μ.d∈rest.map (·.1):=List.mem_map_of_mem (f:=(·.1)) hd
 have no:∀ kd Cx,PySem.Spec.lookup (.str "commit") μ.D=some (.int kd)→(kd=1∧Cx=779 ∨ kd=2∧Cx=799)→∀ h' tk' e T ta,s.heap.get? T=none →
   Thrown (env::outer) (hideAll s.heap [μ.M,μ.d,lg,μ.pl]) [(T,tup2 (.str "commit" ta) (.str μ.who μ.tw)),(μ.M,instObj μ.C μ.d),(μ.d,mgDict lg μ (σ μ.M) t5 t6 rv),(lg,listOf (items.push (.ref T)) (k+1)),(μ.pl,op)] Cx e s.heap h'→E (.ref e) { s with heap:=h',toks:=tk' }:=by
  intro kd Cx hkd hc h' tk' e T ta hT TH
  obtain ⟨TH',dis',nT⟩:=after_no hfL S hg F N W.nd hdis hd hl hT (.head _) eM2 eM3 (ns_cons (.inr (.inr ⟨_,O.inst,eM1⟩)) (ns_cons (.inl rfl) (ns_cons (.inr (.inl rfl)) (ns_cons (.inr (.inr ⟨_,hp,eM4⟩)) ns_nil)))) TH
  have W':=W.step (new:=[]) (s':=σ μ.M) (t5:=t5) (t6:=t6) (rv:=rv) (ta:=ta) (what := "commit") hμ hl (T:=T) (List.nodup_cons.mpr ⟨by simp,by simp⟩) (fun p hp'=>by rw [List.mem_singleton.mp hp']; exact nT) (fun v hv=>by
   obtain ⟨r1,tr1,kr1,e1,nr1,hm⟩:=hr v hv
   exact ⟨r1,tr1,kr1,e1,nr1,List.mem_append_right _ hm⟩)
  rw [upd_self] at W'
  exact hno kd Cx hkd hc h' tk' e _ TH' W' dis'
 have ok:PySem.Spec.lookup (.str "commit") μ.D=none→∀ h' tk' T ta,Mod [lg,μ.d] s.heap h'→s.heap.get? T=none→h'.get? T=some (tup2 (.str "commit" ta) (.str μ.who μ.tw))→h'.get? lg=some (listOf (items.push (.ref T)) (k+1))→∀ r t₁ k₁,s.heap.get? r=none→h'.get? r=some (listOf #[.int (σ μ.M).value t₁] k₁)→h'.get? μ.d=some (mgDict lg μ ⟨(σ μ.M).kept,(σ μ.M).value,some (σ μ.M).value⟩ t5 t6 (.ref r))→Q .none { s with heap:=h',toks:=tk' }:=by
  intro e h' tk' T ta hm hT gT gl r t₁ k₁ hr0 gr gd
  obtain ⟨F',N',dis',nT⟩:=after_ok (new:=(T,tup2 (.str "commit" ta) (.str μ.who μ.tw))::[(r,listOf #[.int (σ μ.M).value t₁] k₁)]) F N hdis md ml hm (fun p hp'=>by
   rcases List.mem_cons.mp hp' with rfl|hp'
   ·exact ⟨hT,gT⟩
   ·rw [List.mem_singleton.mp hp']; exact ⟨hr0,gr⟩) gl gd
  exact hok e h' tk' _ F' N' (W.step (new:=[(r,listOf #[.int (σ μ.M).value t₁] k₁)]) (s':=⟨(σ μ.M).kept,(σ μ.M).value,some (σ μ.M).value⟩) hμ hl (List.nodup_cons.mpr ⟨fun hm'=>(by have e:T=r:=List.mem_singleton.mp hm'; rw [e] at gT; rw [gT] at gr; simp [tup2] at gr),by simp⟩) nT (fun v hv=>⟨r,t₁,k₁,rfl,fun e=>(by rw [e,fl.1] at hr0; cases hr0),List.mem_append_left _ (.tail _ (by cases hv; exact .head _))⟩)) dis'
 exact wpAny_call (commitC O.cls (B:=g) X T F.keep (room1 hroom rfl) hA S' fM.1 fd.1 fl.1 fp.1 ho hf O.low fM.2.2 fd.2.2 fl.2.2 fp.2.2 hsz ndp npl.symm nMp hD ok no)
theorem w_tpc_vote {w:World} {A:Around} {s:Shared} {h₀ g:Heap} {Λ₀:List Addr} {L lg:Addr} {m:Sm} {env:Env} {v3:Value} {Q:Vp} {E:Vp} {loose:List Str} {mg mb:Sm} {outer:List Env}
  {μs:List Mg} {σ:Addr→Ms} {rows:List (Str×Str)} {rest named:Rest} {μ:Mg}
  (hA:A.frames=some (env::outer)) (S:Stk outer h₀ Λ₀) (hg:g=hideAll h₀ Λ₀) (hfL:env.frame=some L) (hk:env.scope.kind=.function) (X:(hd.heap_1 w.params).In g) (T:TopRead pq loose mg mb g) (F:Fr g L s.heap m)
  (N:News g L s.heap (named++rest)) (W:Wd kept w lg μs σ rows rest) (hμ:μ∈μs) (hdis:∀ p∈named,p.1∉rest.map (·.1)) (hroom:A.depth+20<recursionLimit) (hz:rows.length<900)
  (hD:PySem.Spec.lookup (.str "tpc_vote") μ.D=none ∨ (A.handled=none∧(PySem.Spec.lookup (.str "tpc_vote") μ.D=some (.int 1) ∨ PySem.Spec.lookup (.str "tpc_vote") μ.D=some (.int 2))))
  (hok:PySem.Spec.lookup (.str "tpc_vote") μ.D=none→∀ h' tk' rest',Fr g L h' m→News g L h' (named++rest')→Wd kept w lg μs (upd σ μ.M (σ μ.M)) (rows++[(Str.ofString "tpc_vote",μ.who)]) rest'→(∀ p∈named,p.1∉rest'.map (·.1))→Q .none { s with heap:=h',toks:=tk' })
  (hno:∀ kd Cx,PySem.Spec.lookup (.str "tpc_vote") μ.D=some (.int kd)→(kd=1∧Cx=779 ∨ kd=2∧Cx=799)→∀ h' tk' e rest',
   Thrown (env::outer) g (named++rest') Cx e s.heap h'→Wd kept w lg μs σ (rows++[(Str.ofString "tpc_vote",μ.who)]) rest'→(∀ p∈named,p.1∉rest'.map (·.1))→E (.ref e) { s with heap:=h',toks:=tk' }) :
  wpAny (model P2 w) A (call (.ref 880) [.ref μ.M,v3]) Q E s:=by
 obtain ⟨nM,nd',npl,nMd,nMp⟩:=W.lg_ne_inst hμ
 have ndp:=W.ndp μ hμ μ hμ
 have O:=W.mg μ hμ
 obtain ⟨op,kvs,hp,ho,hf⟩:=O.plan
 obtain ⟨t5,t6,rv,hd,hr⟩:=O.dict
 obtain ⟨items,k,hl,hrows⟩:=W.log
 have hsz:items.size<900:=by rw [←Array.length_toList,hrows.len]; exact hz
 have mem:∀ p∈rest,p∈named++rest:=fun p hp=>List.mem_append_right _ hp
 have fM:=N _ (mem _ O.inst)
 have fd:=N _ (mem _ hd)
 have fl:=N _ (mem _ hl)
 have fp:=N _ (mem _ hp)
 have S':Stk (env::outer) s.heap [μ.M,μ.d,lg,μ.pl]:=S.push hg F N hfL hk (ns_cons ⟨_,mem _ O.inst,rfl⟩ (ns_cons ⟨_,mem _ hd,rfl⟩ (ns_cons ⟨_,mem _ hl,rfl⟩ (ns_cons ⟨_,mem _ hp,rfl⟩ ns_nil))))
 have ml:lg∈rest.map (·.1):=List.mem_map_of_mem (f:=(·.1)) hl
 have md:μ.d∈rest.map (·.1):=List.mem_map_of_mem (f:=(·.1)) hd
 have no:∀ kd Cx,PySem.Spec.lookup (.str "tpc_vote") μ.D=some (.int kd)→(kd=1∧Cx=779 ∨ kd=2∧Cx=799)→∀ h' tk' e T ta,s.heap.get? T=none →
   Thrown (env::outer) (hideAll s.heap [μ.M,μ.d,lg,μ.pl]) [(T,tup2 (.str "tpc_vote" ta) (.str μ.who μ.tw)),(μ.M,instObj μ.C μ.d),(μ.d,mgDict lg μ (σ μ.M) t5 t6 rv),(lg,listOf (items.push (.ref T)) (k+1)),(μ.pl,op)] Cx e s.heap h'→E (.ref e) { s with heap:=h',toks:=tk' }:=by
  intro kd Cx hkd hc h' tk' e T ta hT TH
  obtain ⟨TH',dis',nT⟩:=after_no hfL S hg F N W.nd hdis hd hl hT (.head _) eM2 eM3 (ns_cons (.inr (.inr ⟨_,O.inst,eM1⟩)) (ns_cons (.inl rfl) (ns_cons (.inr (.inl rfl)) (ns_cons (.inr (.inr ⟨_,hp,eM4⟩)) ns_nil)))) TH
  have W':=W.step (new:=[]) (s':=σ μ.M) (t5:=t5) (t6:=t6) (rv:=rv) (ta:=ta) (what := "tpc_vote") hμ hl (T:=T) (List.nodup_cons.mpr ⟨by simp,by simp⟩) (fun p hp'=>by rw [List.mem_singleton.mp hp']; exact nT) (fun v hv=>by
   obtain ⟨r1,tr1,kr1,e1,nr1,hm⟩:=hr v hv
   exact ⟨r1,tr1,kr1,e1,nr1,List.mem_append_right _ hm⟩)
  rw [upd_self] at W'
  exact hno kd Cx hkd hc h' tk' e _ TH' W' dis'
 have ok:PySem.Spec.lookup (.str "tpc_vote") μ.D=none→∀ h' tk' T ta,Mod [lg,μ.d] s.heap h'→s.heap.get? T=none→h'.get? T=some (tup2 (.str "tpc_vote" ta) (.str μ.who μ.tw))→h'.get? lg=some (listOf (items.push (.ref T)) (k+1))→h'.get? μ.d=some (mgDict lg μ (σ μ.M) t5 t6 rv)→Q .none { s with heap:=h',toks:=tk' }:=by
  intro e h' tk' T ta hm hT gT gl gd
  obtain ⟨F',N',dis',nT⟩:=after_ok (new:=(T,tup2 (.str "tpc_vote" ta) (.str μ.who μ.tw))::[]) F N hdis md ml hm (fun p hp'=>by rw [List.mem_singleton.mp hp']; exact ⟨hT,gT⟩) gl gd
  exact hok e h' tk' _ F' N' (W.step (new:=[]) (s':=(σ μ.M)) hμ hl (List.nodup_cons.mpr ⟨by simp,by simp⟩) nT (fun v hv=>by
   obtain ⟨r',tr',kr',e',nr',hm⟩:=hr v hv
   exact ⟨r',tr',kr',e',nr',List.mem_append_right _ hm⟩)) dis'
 exact wpAny_call (tpc_voteC O.cls (B:=g) X T F.keep (room1 hroom rfl) hA S' fM.1 fd.1 fl.1 fp.1 ho hf O.low fM.2.2 fd.2.2 fl.2.2 fp.2.2 hsz ndp npl.symm nMp hD ok no)
theorem w_tpc_finish {w:World} {A:Around} {s:Shared} {h₀ g:Heap} {Λ₀:List Addr} {L lg:Addr} {m:Sm} {env:Env} {v3:Value} {Q:Vp} {E:Vp} {loose:List Str} {mg mb:Sm} {outer:List Env}
  {μs:List Mg} {σ:Addr→Ms} {rows:List (Str×Str)} {rest named:Rest} {μ:Mg}
  (hA:A.frames=some (env::outer)) (S:Stk outer h₀ Λ₀) (hg:g=hideAll h₀ Λ₀) (hfL:env.frame=some L) (hk:env.scope.kind=.function) (X:(hd.heap_1 w.params).In g) (T:TopRead pq loose mg mb g) (F:Fr g L s.heap m)
  (N:News g L s.heap (named++rest)) (W:Wd kept w lg μs σ rows rest) (hμ:μ∈μs) (hdis:∀ p∈named,p.1∉rest.map (·.1)) (hroom:A.depth+20<recursionLimit) (hz:rows.length<900) {v₀:Int} (hrdy:(σ μ.M).ready=some v₀)
  (hD:PySem.Spec.lookup (.str "tpc_finish") μ.D=none ∨ (A.handled=none∧(PySem.Spec.lookup (.str "tpc_finish") μ.D=some (.int 1) ∨ PySem.Spec.lookup (.str "tpc_finish") μ.D=some (.int 2))))
  (hok:PySem.Spec.lookup (.str "tpc_finish") μ.D=none→∀ h' tk' rest',Fr g L h' m→News g L h' (named++rest')→Wd kept w lg μs (upd σ μ.M ⟨v₀,(σ μ.M).value,none⟩) (rows++[(Str.ofString "tpc_finish",μ.who)]) rest'→(∀ p∈named,p.1∉rest'.map (·.1))→Q .none { s with heap:=h',toks:=tk' })
  (hno:∀ kd Cx,PySem.Spec.lookup (.str "tpc_finish") μ.D=some (.int kd)→(kd=1∧Cx=779 ∨ kd=2∧Cx=799)→∀ h' tk' e rest',
   Thrown (env::outer) g (named++rest') Cx e s.heap h'→Wd kept w lg μs σ (rows++[(Str.ofString "tpc_finish",μ.who)]) rest'→(∀ p∈named,p.1∉rest'.map (·.1))→E (.ref e) { s with heap:=h',toks:=tk' }) :
  wpAny (model P2 w) A (call (.ref 887) [.ref μ.M,v3]) Q E s:=by
 obtain ⟨nM,nd',npl,nMd,nMp⟩:=W.lg_ne_inst hμ
 have ndp:=W.ndp μ hμ μ hμ
 have O:=W.mg μ hμ
 obtain ⟨op,kvs,hp,ho,hf⟩:=O.plan
 obtain ⟨t5,t6,rv,hd,hr⟩:=O.dict
 obtain ⟨items,k,hl,hrows⟩:=W.log
 have hsz:items.size<900:=by rw [←Array.length_toList,hrows.len]; exact hz
 have mem:∀ p∈rest,p∈named++rest:=fun p hp=>List.mem_append_right _ hp
 have fM:=N _ (mem _ O.inst)
 have fd:=N _ (mem _ hd)
 have fl:=N _ (mem _ hl)
 have fp:=N _ (mem _ hp)
 obtain ⟨r,tr,kr,rfl,nr,hrr⟩:=hr v₀ hrdy
 have fr:=N _ (mem _ hrr)
 have S':Stk (env::outer) s.heap [μ.M,μ.d,lg,μ.pl,r]:=S.push hg F N hfL hk (ns_cons ⟨_,mem _ O.inst,rfl⟩ (ns_cons ⟨_,mem _ hd,rfl⟩ (ns_cons ⟨_,mem _ hl,rfl⟩ (ns_cons ⟨_,mem _ hp,rfl⟩ (ns_cons ⟨_,mem _ hrr,rfl⟩ ns_nil)))))
 have ml:lg∈rest.map (·.1):=List.mem_map_of_mem (f:=(·.1)) hl
 have md:μ.d∈rest.map (·.1):=List.mem_map_of_mem (f:=(·.1)) hd
 have no:∀ kd Cx,PySem.Spec.lookup (.str "tpc_finish") μ.D=some (.int kd)→(kd=1∧Cx=779 ∨ kd=2∧Cx=799)→∀ h' tk' e T ta,s.heap.get? T=none →
   Thrown (env::outer) (hideAll s.heap [μ.M,μ.d,lg,μ.pl,r]) [(T,tup2 (.str "tpc_finish" ta) (.str μ.who μ.tw)),(μ.M,instObj μ.C μ.d),(μ.d,mgDict lg μ (σ μ.M) t5 t6 (.ref r)),(lg,listOf (items.push (.ref T)) (k+1)),(μ.pl,op),(r,listOf #[.int v₀ tr] kr)] Cx e s.heap h'→E (.ref e) { s with heap:=h',toks:=tk' }:=by
  intro kd Cx hkd hc h' tk' e T ta hT TH
  obtain ⟨TH',dis',nT⟩:=after_no hfL S hg F N W.nd hdis hd hl hT (.head _) eM2 eM3 (ns_cons (.inr (.inr ⟨_,O.inst,eM1⟩)) (ns_cons (.inl rfl) (ns_cons (.inr (.inl rfl)) (ns_cons (.inr (.inr ⟨_,hp,eM4⟩)) (ns_cons (.inr (.inr ⟨_,hrr,eM5⟩)) ns_nil))))) TH
  have W':=W.step (new:=[]) (s':=σ μ.M) (t5:=t5) (t6:=t6) (rv:=(.ref r)) (ta:=ta) (what := "tpc_finish") hμ hl (T:=T) (List.nodup_cons.mpr ⟨by simp,by simp⟩) (fun p hp'=>by rw [List.mem_singleton.mp hp']; exact nT) (fun v hv=>by
   cases (hrdy.symm.trans hv); exact ⟨r,tr,kr,rfl,nr,List.mem_append_right _ hrr⟩)
  rw [upd_self] at W'
  exact hno kd Cx hkd hc h' tk' e _ TH' W' dis'
 have ok:PySem.Spec.lookup (.str "tpc_finish") μ.D=none→∀ h' tk' T ta t₂,Mod [lg,μ.d] s.heap h'→s.heap.get? T=none→h'.get? T=some (tup2 (.str "tpc_finish" ta) (.str μ.who μ.tw))→h'.get? lg=some (listOf (items.push (.ref T)) (k+1))→h'.get? μ.d=some (mgDict lg μ ⟨v₀,(σ μ.M).value,none⟩ t₂ t6 .none)→Q .none { s with heap:=h',toks:=tk' }:=by
  intro e h' tk' T ta t₂ hm hT gT gl gd
  obtain ⟨F',N',dis',nT⟩:=after_ok (new:=(T,tup2 (.str "tpc_finish" ta) (.str μ.who μ.tw))::[]) F N hdis md ml hm (fun p hp'=>by rw [List.mem_singleton.mp hp']; exact ⟨hT,gT⟩) gl gd
  exact hok e h' tk' _ F' N' (W.step (new:=[]) (s':=⟨v₀,(σ μ.M).value,none⟩) hμ hl (List.nodup_cons.mpr ⟨by simp,by simp⟩) nT (fun v hv=>by cases hv)) dis'
 exact wpAny_call (tpc_finishC O.cls (B:=g) (ready:=.none) X T F.keep (room1 hroom rfl) hA S' fM.1 fd.1 fl.1 fp.1 ho hf O.low fM.2.2 fd.2.2 fl.2.2 fp.2.2 hsz ndp npl.symm nMp fr.1 fr.2.2 nr hD ok no)
theorem w_tpc_abort {w:World} {A:Around} {s:Shared} {h₀ g:Heap} {Λ₀:List Addr} {L lg:Addr} {m:Sm} {env:Env} {v3:Value} {Q:Vp} {E:Vp} {loose:List Str} {mg mb:Sm} {outer:List Env}
  {μs:List Mg} {σ:Addr→Ms} {rows:List (Str×Str)} {rest named:Rest} {μ:Mg}
  (hA:A.frames=some (env::outer)) (S:Stk outer h₀ Λ₀) (hg:g=hideAll h₀ Λ₀) (hfL:env.frame=some L) (hk:env.scope.kind=.function) (X:(hd.heap_1 w.params).In g) (T:TopRead pq loose mg mb g) (F:Fr g L s.heap m)
  (N:News g L s.heap (named++rest)) (W:Wd kept w lg μs σ rows rest) (hμ:μ∈μs) (hdis:∀ p∈named,p.1∉rest.map (·.1)) (hroom:A.depth+20<recursionLimit) (hz:rows.length<900)
  (hD:PySem.Spec.lookup (.str "tpc_abort") μ.D=none)
  (hok:PySem.Spec.lookup (.str "tpc_abort") μ.D=none→∀ h' tk' rest',Fr g L h' m→News g L h' (named++rest')→Wd kept w lg μs (upd σ μ.M ⟨(σ μ.M).kept,(σ μ.M).kept,none⟩) (rows++[(Str.ofString "tpc_abort",μ.who)]) rest'→(∀ p∈named,p.1∉rest'.map (·.1))→Q .none { s with heap:=h',toks:=tk' })
   :
  wpAny (model P2 w) A (call (.ref 894) [.ref μ.M,v3]) Q E s:=by
 obtain ⟨nM,nd',npl,nMd,nMp⟩:=W.lg_ne_inst hμ
 have ndp:=W.ndp μ hμ μ hμ
 have O:=W.mg μ hμ
 obtain ⟨op,kvs,hp,ho,hf⟩:=O.plan
 obtain ⟨t5,t6,rv,hd,hr⟩:=O.dict
 obtain ⟨items,k,hl,hrows⟩:=W.log
 have hsz:items.size<900:=by rw [←Array.length_toList,hrows.len]; exact hz
 have mem:∀ p∈rest,p∈named++rest:=fun p hp=>List.mem_append_right _ hp
 have fM:=N _ (mem _ O.inst)
 have fd:=N _ (mem _ hd)
 have fl:=N _ (mem _ hl)
 have fp:=N _ (mem _ hp)
 have S':Stk (env::outer) s.heap [μ.M,μ.d,lg,μ.pl]:=S.push hg F N hfL hk (ns_cons ⟨_,mem _ O.inst,rfl⟩ (ns_cons ⟨_,mem _ hd,rfl⟩ (ns_cons ⟨_,mem _ hl,rfl⟩ (ns_cons ⟨_,mem _ hp,rfl⟩ ns_nil))))
 have ml:lg∈rest.map (·.1):=List.mem_map_of_mem (f:=(·.1)) hl
 have md:μ.d∈rest.map (·.1):=List.mem_map_of_mem (f:=(·.1)) hd
 have ok:PySem.Spec.lookup (.str "tpc_abort") μ.D=none→∀ h' tk' T ta t₂,Mod [lg,μ.d] s.heap h'→s.heap.get? T=none→h'.get? T=some (tup2 (.str "tpc_abort" ta) (.str μ.who μ.tw))→h'.get? lg=some (listOf (items.push (.ref T)) (k+1))→h'.get? μ.d=some (mgDict lg μ ⟨(σ μ.M).kept,(σ μ.M).kept,none⟩ t5 t₂ .none)→Q .none { s with heap:=h',toks:=tk' }:=by
  intro e h' tk' T ta t₂ hm hT gT gl gd
  obtain ⟨F',N',dis',nT⟩:=after_ok (new:=(T,tup2 (.str "tpc_abort" ta) (.str μ.who μ.tw))::[]) F N hdis md ml hm (fun p hp'=>by rw [List.mem_singleton.mp hp']; exact ⟨hT,gT⟩) gl gd
  exact hok e h' tk' _ F' N' (W.step (new:=[]) (s':=⟨(σ μ.M).kept,(σ μ.M).kept,none⟩) hμ hl (List.nodup_cons.mpr ⟨by simp,by simp⟩) nT (fun v hv=>by cases hv)) dis'
 exact wpAny_call (tpc_abortC O.cls (B:=g) X T F.keep (room1 hroom rfl) hA S' fM.1 fd.1 fl.1 fp.1 ho hf O.low fM.2.2 fd.2.2 fl.2.2 fp.2.2 hsz ndp npl.symm nMp hD ok)
theorem w_abort {w:World} {A:Around} {s:Shared} {h₀ g:Heap} {Λ₀:List Addr} {L lg:Addr} {m:Sm} {env:Env} {v3:Value} {Q:Vp} {E:Vp} {loose:List Str} {mg mb:Sm} {outer:List Env}
  {μs:List Mg} {σ:Addr→Ms} {rows:List (Str×Str)} {rest named:Rest} {μ:Mg}
  (hA:A.frames=some (env::outer)) (S:Stk outer h₀ Λ₀) (hg:g=hideAll h₀ Λ₀) (hfL:env.frame=some L) (hk:env.scope.kind=.function) (X:(hd.heap_1 w.params).In g) (T:TopRead pq loose mg mb g) (F:Fr g L s.heap m)
  (N:News g L s.heap (named++rest)) (W:Wd kept w lg μs σ rows rest) (hμ:μ∈μs) (hdis:∀ p∈named,p.1∉rest.map (·.1)) (hroom:A.depth+20<recursionLimit) (hz:rows.length<900)
  (hD:PySem.Spec.lookup (.str "abort") μ.D=none)
  (hok:PySem.Spec.lookup (.str "abort") μ.D=none→∀ h' tk' rest',Fr g L h' m→News g L h' (named++rest')→Wd kept w lg μs (upd σ μ.M ⟨(σ μ.M).kept,(σ μ.M).kept,none⟩) (rows++[(Str.ofString "abort",μ.who)]) rest'→(∀ p∈named,p.1∉rest'.map (·.1))→Q .none { s with heap:=h',toks:=tk' })
   :
  wpAny (model P2 w) A (call (.ref 859) [.ref μ.M,v3]) Q E s:=by
 obtain ⟨nM,nd',npl,nMd,nMp⟩:=W.lg_ne_inst hμ
 have ndp:=W.ndp μ hμ μ hμ
 have O:=W.mg μ hμ
 obtain ⟨op,kvs,hp,ho,hf⟩:=O.plan
 obtain ⟨t5,t6,rv,hd,hr⟩:=O.dict
 obtain ⟨items,k,hl,hrows⟩:=W.log
 have hsz:items.size<900:=by rw [←Array.length_toList,hrows.len]; exact hz
 have mem:∀ p∈rest,p∈named++rest:=fun p hp=>List.mem_append_right _ hp
 have fM:=N _ (mem _ O.inst)
 have fd:=N _ (mem _ hd)
 have fl:=N _ (mem _ hl)
 have fp:=N _ (mem _ hp)
 have S':Stk (env::outer) s.heap [μ.M,μ.d,lg,μ.pl]:=S.push hg F N hfL hk (ns_cons ⟨_,mem _ O.inst,rfl⟩ (ns_cons ⟨_,mem _ hd,rfl⟩ (ns_cons ⟨_,mem _ hl,rfl⟩ (ns_cons ⟨_,mem _ hp,rfl⟩ ns_nil))))
 have ml:lg∈rest.map (·.1):=List.mem_map_of_mem (f:=(·.1)) hl
 have md:μ.d∈rest.map (·.1):=List.mem_map_of_mem (f:=(·.1)) hd
 have ok:PySem.Spec.lookup (.str "abort") μ.D=none→∀ h' tk' T ta t₂,Mod [lg,μ.d] s.heap h'→s.heap.get? T=none→h'.get? T=some (tup2 (.str "abort" ta) (.str μ.who μ.tw))→h'.get? lg=some (listOf (items.push (.ref T)) (k+1))→h'.get? μ.d=some (mgDict lg μ ⟨(σ μ.M).kept,(σ μ.M).kept,none⟩ t5 t₂ .none)→Q .none { s with heap:=h',toks:=tk' }:=by
  intro e h' tk' T ta t₂ hm hT gT gl gd
  obtain ⟨F',N',dis',nT⟩:=after_ok (new:=(T,tup2 (.str "abort" ta) (.str μ.who μ.tw))::[]) F N hdis md ml hm (fun p hp'=>by rw [List.mem_singleton.mp hp']; exact ⟨hT,gT⟩) gl gd
  exact hok e h' tk' _ F' N' (W.step (new:=[]) (s':=⟨(σ μ.M).kept,(σ μ.M).kept,none⟩) hμ hl (List.nodup_cons.mpr ⟨by simp,by simp⟩) nT (fun v hv=>by cases hv)) dis'
 exact wpAny_call (abortC O.cls (B:=g) X T F.keep (room1 hroom rfl) hA S' fM.1 fd.1 fl.1 fp.1 ho hf O.low fM.2.2 fd.2.2 fl.2.2 fp.2.2 hsz ndp npl.symm nMp hD ok)
noncomputable def IterOf (o:Obj) (l:Addr) (i:Nat):Prop:=o.cls=.type "list_iterator" ∧ o.data=.fields #[.ref l,.int i 0]
noncomputable def HandIn (A:Around) (nw:Rest):Prop:=A.handled=none ∨ ∃ e oe vs,A.handled=some (.ref e)∧(e,oe)∈nw∧oe.data=.fields vs∧vs[2]?=some .none
theorem fr_same {g h:Heap} {L:Addr} {m m':Sm} (F:Fr g L h m) (e:∀ y,m y=m' y):Fr g L h m':=by
 have:m=m':=funext e
 exact this ▸ F
theorem fr_but {g h h':Heap} {L a:Addr} {m:Sm} (F:Fr g L h m) (ha:a≠L) (ga:g.get? a=none) (k:∀ b o,b≠a→h.get? b=some o→h'.get? b=some o):Fr g L h' m:=by
 obtain ⟨oL,es,ep,hL,r⟩:=F.ns
 refine ⟨⟨oL,es,ep,k L oL (Ne.symm ha) hL,r⟩,fun b o e=>k b o (fun q=>?_) (F.keep b o e),F.above⟩
 rw [q,ga] at e; cases e
theorem news_but {g h h':Heap} {L a:Addr} {nw:Rest} (N:News g L h nw) (hn:∀ p∈nw,p.1≠a) (k:∀ b o,b≠a→h.get? b=some o→h'.get? b=some o):News g L h' nw:=
 fun p hp=>⟨k _ _ (hn p hp) (N p hp).1,(N p hp).2⟩
theorem news_cons {g h:Heap} {L:Addr} {p:Addr×Obj} {nw:Rest} (hp:h.get? p.1=some p.2∧p.1≠L∧g.get? p.1=none) (N:News g L h nw):News g L h (p::nw):=fun q hq=>by
 rcases List.mem_cons.mp hq with rfl|hq
 ·exact hp
 ·exact N q hq
theorem news_tl {g h:Heap} {L:Addr} {p:Addr×Obj} {nw:Rest} (N:News g L h (p::nw)):News g L h nw:=fun q hq=>N q (.tail _ hq)
section
variable {prog:Program} {w:World} {A:Around} {R:Rp} {s:Shared} {g:Heap} {L it l:Addr} {x:Str} {env:Env} {m₀:Sm} {items:Array Value} {kl:Nat} {body:List Stmt} {pos:Pos}
set_option genSizeOf false in
set_option genInjectivity false in
inductive ListJ (s:Shared) (g:Heap) (L it l:Addr) (x:Str) (m₀:Sm) (items:Array Value) (kl:Nat) (J:Nat→Rest→Prop) (n:Nat) (s₁:Shared):Prop where
 | mk (i:Nat) (h:Heap) (tk:Nat) (nw:Rest) (rv:Option Value) (oi:Obj) (f1:IterOf oi l i) (f2:n+i=items.size) (f3:s₁={ s with heap:=h,toks:=tk }) (f4:J i nw) (f5:(∀ p∈nw,p.1≠it)) (f6:Fr g L h (fun y=>if y=x then rv else m₀ y)) (f7:News g L h ((it,oi)::(l,listOf items kl)::nw)):ListJ s g L it l x m₀ items kl J n s₁
abbrev Z0eP (prog:Program) (w:World) (A:Around) (R:Rp) (s:Shared) (g:Heap) (L it l:Addr) (x:Str) (env:Env) (m₀:Sm) (items:Array Value) (kl:Nat) (body:List Stmt) (pos:Pos) (J:Nat→Rest→Prop):Prop:=∀ (hk:env.scope.kind=.function) (hfl:env.locals=L) (hx:env.kindOf x=some .local) (hH:∀ i nw,J i nw→HandIn A nw) (turn:∀ i v nw h tk oi,IterOf oi l (i+1)→items[i]?=some v→J i nw→(∀ p∈nw,p.1≠it)→Fr g L h (fun y=>if y=x then some v else m₀ y)→News g L h ((it,oi)::(l,listOf items kl)::nw) →
   wpAny (model prog w) A (execs body env)
    (fun fl s₃=>(fl=.next∧∃ h' tk' nw' rv,s₃={ s with heap:=h',toks:=tk' }∧J (i+1) nw'∧(∀ p∈nw',p.1≠it)∧Fr g L h' (fun y=>if y=x then rv else m₀ y)∧News g L h' ((it,oi)::(l,listOf items kl)::nw')) ∨ ∃ v,fl=.ret v∧R (.ok (.ret v)) s₃)
    (notedBy (model prog w) A env fun e s'=>R (.error e) s') { s with heap:=h,toks:=tk }) (done:∀ nw h tk rv,J items.size nw→Fr g L h (fun y=>if y=x then rv else m₀ y)→News g L h ((l,listOf items kl)::nw)→R (.ok .next) { s with heap:=h,toks:=tk }) {nw₀:Rest} {rv₀:Option Value} {oi₀:Obj} (ho₀:IterOf oi₀ l 0) (h0:J 0 nw₀) (n0:∀ p∈nw₀,p.1≠it) (F:Fr g L s.heap (fun y=>if y=x then rv₀ else m₀ y)) (N:News g L s.heap ((it,oi₀)::(l,listOf items kl)::nw₀)),codeAny (model prog w) A (.forLoop (.Name x pos) (.ref it) body [] env) R s
abbrev Z0ecq:=U fun a=>U fun b c=>T5 (T6 (T6 Z0eP a) b) c
def Z0ec:=eps Z0ecq ⟨inferInstance⟩
theorem for_list {prog:Program} {w:World} {A:Around} {R:Rp} {s:Shared} {g:Heap} {L it l:Addr} {x:Str} {env:Env} {m₀:Sm} {items:Array Value} {kl:Nat} {body:List Stmt} {pos:Pos} (J:Nat→Rest→Prop):Z0eP prog w A R s g L it l x env m₀ items kl body pos J:=eps0 Z0ecq Z0ec rfl (by
 show Z0eP Z0ec.1.1 Z0ec.1.2.1 Z0ec.1.2.2.1 Z0ec.1.2.2.2.1 Z0ec.1.2.2.2.2.1 Z0ec.1.2.2.2.2.2 Z0ec.2.1.1 Z0ec.2.1.2.1 Z0ec.2.1.2.2.1 Z0ec.2.1.2.2.2.1 Z0ec.2.1.2.2.2.2.1 Z0ec.2.1.2.2.2.2.2 Z0ec.2.2.1 Z0ec.2.2.2.1 Z0ec.2.2.2.2.1 Z0ec.2.2.2.2.2.1 Z0ec.2.2.2.2.2.2
 generalize Z0ec.1.1=prog,Z0ec.1.2.1=w,Z0ec.1.2.2.1=A,Z0ec.1.2.2.2.1=R,Z0ec.1.2.2.2.2.1=s,Z0ec.1.2.2.2.2.2=g,Z0ec.2.1.1=L,Z0ec.2.1.2.1=it,Z0ec.2.1.2.2.1=l,Z0ec.2.1.2.2.2.1=x,Z0ec.2.1.2.2.2.2.1=env,Z0ec.2.1.2.2.2.2.2=m₀,Z0ec.2.2.1=items,Z0ec.2.2.2.1=kl,Z0ec.2.2.2.2.1=body,Z0ec.2.2.2.2.2.1=pos,Z0ec.2.2.2.2.2.2=J
 intro hk hfl hx hH turn done nw₀ rv₀ oi₀ ho₀ h0 n0 F N
 refine codeAny_forLoop (fun n s₁=>ListJ s g L it l x m₀ items kl J n s₁) ?_ items.size
  ⟨0,s.heap,s.toks,nw₀,rv₀,oi₀,ho₀,rfl,rfl,h0,n0,F,N⟩
 rintro n _ ⟨i,h,tk,nw,rv,oi,hio,hn,rfl,hJ,nit,F,N⟩
 have cit:=N _ (.head _)
 have cl:=N _ eM1
 have nl:l≠it:=fun e=>by
  have h1:=cit.1
  have h2:=cl.1
  dsimp only at h1 h2
  rw [e,h1] at h2
  obtain rfl:=Option.some.inj h2
  have h3:=hio.1
  simp [PySem.W.listOf] at h3
 have il:h.IsList l items:=⟨_,cl.1,rfl,_,rfl⟩
 have ii:h.IsListIter it l i:=⟨_,cit.1,hio.1,hio.2⟩
 cases hv:items[i]? with
 | none=>
  have hi:items.size ≤ i:=Array.getElem?_eq_none_iff.mp hv
  obtain rfl:i=items.size:=cnt_end ‹_› ‹_›
  refine next_end2 ?_ (fun e he=>?_) ii il hv fun h' k=>?_
  ·rcases hH _ _ hJ with H|⟨e,oe,vs,H,hm,hd,h2⟩
   ·exact .inl H
   ·exact .inr ⟨e,oe,vs,H,(N _ (eT2 hm)).1,hd,h2⟩
  ·rcases hH _ _ hJ with H|⟨e',oe,vs,H,hm,hd,h2⟩
   ·rw [H] at he; cases he
   ·rw [H] at he
    obtain rfl:e'=e:=by injection he with he; injection he
    exact ⟨nit _ hm,Heap.lt_size (N _ (eT2 hm)).1⟩
  ·have k':∀ b o,b≠it→h.get? b=some o→h'.get? b=some o:=k
   refine wpAny_pure ?_
   refine done nw h' tk rv hJ (fr_but F cit.2.1 cit.2.2 k') (news_but (news_tl N) (fun p hp=>?_) k')
   rcases List.mem_cons.mp hp with rfl|hp
   ·exact nl
   ·exact nit p hp
 | some v=>
  refine wpAny_pyNext_list_item ii il hv fun h' hi' hs=>?_
  have k':∀ b o,b≠it→h.get? b=some o→h'.get? b=some o:=fun b o hb e=>(hs.2 b hb).trans e
  obtain ⟨oi',ho,hoc,hod⟩:=hi'
  have F1:=fr_but F cit.2.1 cit.2.2 k'
  have Nt:News g L h' ((l,listOf items kl)::nw):=news_but (news_tl N) (fun p hp=>by
   rcases List.mem_cons.mp hp with rfl|hp
   ·exact nl
   ·exact nit p hp) k'
  have N1:News g L h' ((it,oi')::(l,listOf items kl)::nw):=news_cons ⟨ho,cit.2⟩ Nt
  refine wpAny_assign_Name (wpAny_storeName_local hx (hfl ▸ F1.ns) (fun h₂ hn hs=>?_) (by rw [hk]; rfl))
  have hs':Heap.SameBut L h' h₂:=hfl ▸ hs
  have F2:=F1.set (hfl ▸ hn) hs'
  have N2:=N1.set hs'
  refine wpAny_mono (turn i v nw h₂ _ oi' ⟨hoc,hod⟩ hv hJ nit (fr_same F2 fun y=>by split<;>simp_all) N2) (fun fl s₃ q=>?_) fun _ _ q=>q
  rcases q with ⟨rfl,h₃,tk₃,nw₃,rv₃,rfl,hJ₃,nit₃,F₃,N₃⟩|⟨v',rfl,hr⟩
  rotate_left
  ·exact hr
  have:i<items.size:=(Array.getElem?_eq_some_iff.mp hv).1
  exact ⟨n - 1,cnt_less ‹_› ‹_›,i+1,h₃,tk₃,nw₃,rv₃,oi',⟨hoc,hod⟩,cnt_next ‹_› ‹_›,rfl,hJ₃,nit₃,F₃,N₃⟩) ((prog,w,A,R,s,g),(L,it,l,x,env,m₀),(items,kl,body,pos,J))
end
noncomputable def fails (name:Str) (μ:Mg):Option Int:=match PySem.Spec.lookup (.str name) μ.D with
 | some (.int k)=>some k
 | _=>none
noncomputable abbrev St:=(Addr→Ms)×List (Str×Str)×Option Int
noncomputable def phase (name:Str) (f:Ms→Ms):List Mg→(Addr→Ms)→List (Str×Str)→St
 | [],σ,rows=>(σ,rows,none)
 | μ::r,σ,rows=>match fails name μ with
  | some k=>(σ,rows++[(name,μ.who)],some k)
  | none=>phase name f r (upd σ μ.M (f (σ μ.M))) (rows++[(name,μ.who)])
theorem phase_ok {name:Str} {f:Ms→Ms} {μ:Mg} {r:List Mg} {σ:Addr→Ms} {rows:List (Str×Str)} (h:fails name μ=none):phase name f (μ::r) σ rows=phase name f r (upd σ μ.M (f (σ μ.M))) (rows++[(name,μ.who)]):=by
 rw [phase,h]
theorem phase_no {name:Str} {f:Ms→Ms} {μ:Mg} {r:List Mg} {σ:Addr→Ms} {rows:List (Str×Str)} {k:Int} (h:fails name μ=some k):phase name f (μ::r) σ rows=(σ,rows++[(name,μ.who)],some k):=by
 rw [phase,h]
noncomputable def ClsOf (kd:Int) (Cx:Addr):Prop:=kd=1∧Cx=779 ∨ kd=2∧Cx=799
noncomputable def Held (env:Env) (outer:List Env) (g:Heap) (L:Addr) (m:Sm) (news:Rest) (C e:Addr) (h':Heap):Prop:=
 ∃ B t,(∀ b o,g.get? b=some o→b∉frs outer→B.get? b=some o)∧(∀ p∈news,B.get? p.1=some p.2)∧Up2 B (env::outer) e (.ref C) (.ref t) (some (rawInt L)) h' ∧
  (∀ b∈frs outer,∀ o,g.get? b=some o→∃ sl,h'.get? b=some { o with slots:=sl })∧h'.Ns L m∧∀ p∈news,g.get? p.1=none
theorem Held.mono {env:Env} {outer:List Env} {g:Heap} {L:Addr} {m:Sm} {news news':Rest} {C e:Addr} {h':Heap} (H:Held env outer g L m news C e h') (k:∀ p∈news',p∈news):Held env outer g L m news' C e h':=
 Exists.imp (fun _=>Exists.imp fun _ b=>⟨b.1,fun p hp=>b.2.1 p (k p hp),b.2.2.1,b.2.2.2.1,b.2.2.2.2.1,fun p hp=>b.2.2.2.2.2 p (k p hp)⟩) H
section
variable {w:World} {A:Around} {E:Vp} {s:Shared} {g:Heap} {L D:Addr} {x:Str} {env:Env} {outer:List Env} {m₀:Sm} {items:Array Value} {c:Nat} {body:List Stmt} {pos:Pos}
 {lg:Addr} {μs ml:List Mg} {σ:Addr→Ms} {rows:List (Str×Str)} {rest named:Rest} {name:Str} {f:Ms→Ms} {Q:Fp}
noncomputable def Opq (p:Prop):Prop:=p
theorem Opq.mk {p:Prop} (h:p):Opq p:=h
theorem Opq.out {p:Prop} (h:Opq p):p:=h
set_option genSizeOf false in
set_option genInjectivity false in
inductive MOk (kept:List (Addr×Obj)) (w:World) (s:Shared) (g:Heap) (L D:Addr) (x:Str) (m₀:Sm) (items:Array Value) (c:Nat) (lg:Addr) (μs:List Mg) (name:Str) (f:Ms→Ms) (Nm:Nat→Rest→Prop) (i:Nat) (it:Addr) (oi:Obj) (σi:Addr→Ms) (rowsi:List (Str×Str)) (μ:Mg) (fl:Flow) (s₃:Shared):Prop where
 | mk (f1:fl=.next) (f2:fails name μ=none) (h':Heap) (tk':Nat) (named':Rest) (rest':Rest) (f3:s₃={ s with heap:=h',toks:=tk' }) (f4:Nm (i+1) named') (f5:Wd kept w lg μs (upd σi μ.M (f (σi μ.M))) (rowsi++[(name,μ.who)]) rest') (f6:(∀ p∈(it,oi)::(D,listOf items c)::named',p.1∉rest'.map (·.1))) (f7:(∀ p∈(D,listOf items c)::named',p.1≠it)) (f8:(∀ p∈named',p.1≠D)) (f9:Fr g L h' (fun y=>if y=x then some (.ref μ.M) else m₀ y)) (f10:News g L h' (((it,oi)::(D,listOf items c)::named')++rest')):MOk kept w s g L D x m₀ items c lg μs name f Nm i it oi σi rowsi μ fl s₃
set_option genSizeOf false in
set_option genInjectivity false in
inductive MNo (kept:List (Addr×Obj)) (w:World) (s:Shared) (g:Heap) (D:Addr) (items:Array Value) (c:Nat) (lg:Addr) (μs:List Mg) (env:Env) (outer:List Env) (name:Str) (named:Rest) (it:Addr) (oi:Obj) (h:Heap) (σi:Addr→Ms) (rowsi:List (Str×Str)) (μ:Mg) (e:Value) (s₃:Shared):Prop where
 | mk (ea:Addr) (kd:Int) (Cx:Addr) (h':Heap) (tk':Nat) (rest':Rest) (f1:e=.ref ea) (f2:s₃={ s with heap:=h',toks:=tk' }) (f3:fails name μ=some kd) (f4:ClsOf kd Cx) (f5:Thrown (env::outer) g (((it,oi)::(D,listOf items c)::named)++rest') Cx ea h h') (f6:Wd kept w lg μs σi (rowsi++[(name,μ.who)]) rest') (f7:(∀ p∈(it,oi)::(D,listOf items c)::named,p.1∉rest'.map (·.1))):MNo kept w s g D items c lg μs env outer name named it oi h σi rowsi μ e s₃
set_option genSizeOf false in
set_option genInjectivity false in
inductive MJ (kept:List (Addr×Obj)) (w:World) (D:Addr) (items:Array Value) (c:Nat) (lg:Addr) (μs ml:List Mg) (σ:Addr→Ms) (rows:List (Str×Str)) (name:Str) (f:Ms→Ms) (P:Nat→(Addr→Ms)→Prop) (Nm:Nat→Rest→Prop) (i:Nat) (nw:Rest):Prop where
 | mk (named:Rest) (rest:Rest) (σi:Addr→Ms) (rowsi:List (Str×Str)) (f1:nw=named++rest) (f2:Nm i named) (f3:Wd kept w lg μs σi rowsi rest) (f4:(∀ p∈(D,listOf items c)::named,p.1∉rest.map (·.1))) (f5:(∀ p∈named,p.1≠D)) (f6:phase name f (ml.drop i) σi rowsi=phase name f ml σ rows) (f7:P i σi) (f8:rowsi.length+(ml.length - i)<900) (f9:∀ j ν,j<i→ml[j]?=some ν→fails name ν=none):MJ kept w D items c lg μs ml σ rows name f P Nm i nw
abbrev Z0vP (kept:List (Addr×Obj)) (w:World) (A:Around) (E:Vp) (s:Shared) (g:Heap) (L D:Addr) (x:Str) (env:Env) (outer:List Env) (m₀:Sm) (items:Array Value) (c:Nat) (body:List Stmt) (pos:Pos) (lg:Addr) (μs ml:List Mg) (σ:Addr→Ms) (rows:List (Str×Str)) (rest named:Rest) (name:Str) (f:Ms→Ms) (Q:Fp) (P:Nat→(Addr→Ms)→Prop) (Nm:Nat→Rest→Prop):Prop:=∀ (hA:A.frames=some (env::outer)) (hfL:env.frame=some L) (hk:env.scope.kind=.function) (hlo:env.locals=L) (hx:env.kindOf x=some .local) (hH:∀ i nm,Nm i nm→HandIn A nm) (hN0:Nm 0 named) (F:Fr g L s.heap m₀) (N:News g L s.heap (((D,listOf items c)::named)++rest)) (hnD:∀ p∈named++rest,p.1≠D) (W:Wd kept w lg μs σ rows rest) (hdis:∀ p∈(D,listOf items c)::named,p.1∉rest.map (·.1)) (hi:items.toList=ml.map fun μ=>.ref μ.M) (hml:∀ μ∈ml,μ∈μs) (hz:rows.length+ml.length<900) (hP0:P 0 σ) (hP:∀ i μ σi,ml[i]?=some μ→P i σi→P (i+1) (upd σi μ.M (f (σi μ.M)))) (turn:∀ i μ it oi named rest σi rowsi h tk,ml[i]?=some μ→μ∈μs→Nm i named→Wd kept w lg μs σi rowsi rest→(∀ p∈(it,oi)::(D,listOf items c)::named,p.1∉rest.map (·.1))→P i σi→rowsi.length<900 →
   (∀ p∈(D,listOf items c)::named,p.1≠it)→(∀ p∈named,p.1≠D) →
   Fr g L h (fun y=>if y=x then some (.ref μ.M) else m₀ y)→News g L h (((it,oi)::(D,listOf items c)::named)++rest) →
   wpAny (model P2 w) A (execs body env)
    (fun fl s₃=>Opq (MOk kept w s g L D x m₀ items c lg μs name f Nm i it oi σi rowsi μ fl s₃))
    (fun e s₃=>Opq (MNo kept w s g D items c lg μs env outer name named it oi h σi rowsi μ e s₃)) { s with heap:=h,toks:=tk }) (ok:∀ h' tk' named rest' σ' rows' rv,phase name f ml σ rows=(σ',rows',none)→(∀ μ∈ml,fails name μ=none)→Nm ml.length named→Wd kept w lg μs σ' rows' rest'→(∀ p∈(D,listOf items c)::named,p.1∉rest'.map (·.1))→(∀ p∈named,p.1≠D)→P ml.length σ' →
   Fr g L h' (fun y=>if y=x then rv else m₀ y)→News g L h' (((D,listOf items c)::named)++rest')→Q .next { s with heap:=h',toks:=tk' }) (no:∀ h' tk' named rest' σ' rows' ea kd Cx rv i μ,phase name f ml σ rows=(σ',rows',some kd)→ml[i]?=some μ→fails name μ=some kd→(∀ j ν,j<i→ml[j]?=some ν→fails name ν=none)→ClsOf kd Cx→Nm i named →
   Held env outer g L (fun y=>if y=x then rv else m₀ y) (((D,listOf items c)::named)++rest') Cx ea h'→Wd kept w lg μs σ' rows' rest' →
   (∀ p∈(D,listOf items c)::named,p.1∉rest'.map (·.1))→(∀ p∈named,p.1≠D)→P i σ'→E (.ref ea) { s with heap:=h',toks:=tk' }),wpAny (model P2 w) A (pyIter (.ref D)) (fun it s₂=>codeAny (model P2 w) A (.forLoop (.Name x pos) it body [] env) (fun r s'=>match r with|.ok f=>Q f s'|.error e=>cameBackBy (model P2 w) A env E e s') s₂) E s
abbrev Z0vcq:=U fun a=>U fun b=>U fun c=>U fun d e=>T4 (T6 (T6 (T6 (T6 Z0vP a) b) c) d) e
def Z0vc:=eps Z0vcq ⟨inferInstance⟩
theorem loop_m {kept:List (Addr×Obj)} {w:World} {A:Around} {E:Vp} {s:Shared} {g:Heap} {L D:Addr} {x:Str} {env:Env} {outer:List Env} {m₀:Sm} {items:Array Value} {c:Nat} {body:List Stmt} {pos:Pos} {lg:Addr} {μs ml:List Mg} {σ:Addr→Ms} {rows:List (Str×Str)} {rest named:Rest} {name:Str} {f:Ms→Ms} {Q:Fp} (P:Nat→(Addr→Ms)→Prop) (Nm:Nat→Rest→Prop):Z0vP kept w A E s g L D x env outer m₀ items c body pos lg μs ml σ rows rest named name f Q P Nm:=eps0 Z0vcq Z0vc rfl (by
 show Z0vP Z0vc.1.1 Z0vc.1.2.1 Z0vc.1.2.2.1 Z0vc.1.2.2.2.1 Z0vc.1.2.2.2.2.1 Z0vc.1.2.2.2.2.2 Z0vc.2.1.1 Z0vc.2.1.2.1 Z0vc.2.1.2.2.1 Z0vc.2.1.2.2.2.1 Z0vc.2.1.2.2.2.2.1 Z0vc.2.1.2.2.2.2.2 Z0vc.2.2.1.1 Z0vc.2.2.1.2.1 Z0vc.2.2.1.2.2.1 Z0vc.2.2.1.2.2.2.1 Z0vc.2.2.1.2.2.2.2.1 Z0vc.2.2.1.2.2.2.2.2 Z0vc.2.2.2.1.1 Z0vc.2.2.2.1.2.1 Z0vc.2.2.2.1.2.2.1 Z0vc.2.2.2.1.2.2.2.1 Z0vc.2.2.2.1.2.2.2.2.1 Z0vc.2.2.2.1.2.2.2.2.2 Z0vc.2.2.2.2.1 Z0vc.2.2.2.2.2.1 Z0vc.2.2.2.2.2.2.1 Z0vc.2.2.2.2.2.2.2
 generalize Z0vc.1.1=kept,Z0vc.1.2.1=w,Z0vc.1.2.2.1=A,Z0vc.1.2.2.2.1=E,Z0vc.1.2.2.2.2.1=s,Z0vc.1.2.2.2.2.2=g,Z0vc.2.1.1=L,Z0vc.2.1.2.1=D,Z0vc.2.1.2.2.1=x,Z0vc.2.1.2.2.2.1=env,Z0vc.2.1.2.2.2.2.1=outer,Z0vc.2.1.2.2.2.2.2=m₀,Z0vc.2.2.1.1=items,Z0vc.2.2.1.2.1=c,Z0vc.2.2.1.2.2.1=body,Z0vc.2.2.1.2.2.2.1=pos,Z0vc.2.2.1.2.2.2.2.1=lg,Z0vc.2.2.1.2.2.2.2.2=μs,Z0vc.2.2.2.1.1=ml,Z0vc.2.2.2.1.2.1=σ,Z0vc.2.2.2.1.2.2.1=rows,Z0vc.2.2.2.1.2.2.2.1=rest,Z0vc.2.2.2.1.2.2.2.2.1=named,Z0vc.2.2.2.1.2.2.2.2.2=name,Z0vc.2.2.2.2.1=f,Z0vc.2.2.2.2.2.1=Q,Z0vc.2.2.2.2.2.2.1=P,Z0vc.2.2.2.2.2.2.2=Nm
 intro hA hfL hk hlo hx hH hN0 F N hnD W hdis hi hml hz hP0 hP turn ok no
 have cD:=N _ (.head _)
 refine wpAny_pyIter_list (items:=items) ⟨_,cD.1,rfl,_,rfl⟩ ?_
 have F1:=F.push { cls:=.type "list_iterator",data:=.fields #[.ref D,.int 0 0] }
 have N1:=N.push F { cls:=.type "list_iterator",data:=.fields #[.ref D,.int 0 0] }
 have hit:∀ p∈((D,listOf items c)::named)++rest,p.1≠s.heap.objs.size:=fun p hp=>Nat.ne_of_lt (Heap.lt_size (N p hp).1)
 have nDit:D≠s.heap.objs.size:=hit _ (.head _)
 refine for_list (J:=fun i nw=>MJ kept w D items c lg μs ml σ rows name f P Nm i nw)
  (rv₀:=m₀ x) (nw₀:=named++rest) hk hlo hx ?hand ?turn ?done ⟨rfl,rfl⟩ ⟨named,rest,σ,rows,rfl,hN0,W,hdis,fun p hp=>hnD p (List.mem_append_left _ hp),rfl,hP0,by omega,fun j _ hj=>absurd hj (Nat.not_lt_zero j)⟩ (fun p hp=>hit p (.tail _ hp)) (fr_same F1 fun y=>by
   by_cases h:y=x
   ·rw [if_pos h,h]
   ·rw [if_neg h]) N1
 case hand=>
  rintro i _ ⟨named,rest,σi,rowsi,rfl,hN,_⟩
  rcases hH i named hN with H|⟨e,oe,vs,H,hm,r⟩
  ·exact .inl H
  ·exact .inr ⟨e,oe,vs,H,List.mem_append_left _ hm,r⟩
 case done=>
  rintro _ h tk rv ⟨named,rest,σi,rowsi,rfl,hN,W,hdis,nD,hph,hPi,_,hok⟩ F N
  have hsz:items.size=ml.length:=by rw [←Array.length_toList,hi,List.length_map]
  rw [hsz,List.drop_length] at hph
  rw [hsz] at hPi hN hok
  exact ok h tk named rest σi rowsi rv hph.symm (fun μ hμ=>by
   obtain ⟨j,hj,e⟩:=List.getElem_of_mem hμ
   exact hok j μ hj (by rw [List.getElem?_eq_getElem hj,e])) hN W hdis nD hPi F N
 case turn=>
  rintro i v _ h tk oi hoi hv ⟨named,rest,σi,rowsi,rfl,hN,W,hdis,nD,hph,hPi,hzi,hok⟩ nit F N
  have hv':(ml.map fun μ=>Value.ref μ.M)[i]?=some v:=by rw [←hi,Array.getElem?_toList]; exact hv
  rw [List.getElem?_map] at hv'
  obtain ⟨μ,hμ,rfl⟩:=Option.map_eq_some_iff.mp hv'
  have hμs:=hml μ (List.mem_of_getElem? hμ)
  have hlt:i<ml.length:=(List.getElem?_eq_some_iff.mp hμ).1
  have hd:ml.drop i=μ::ml.drop (i+1):=by
   rw [List.drop_eq_getElem_cons hlt]
   congr 1
   exact (List.getElem?_eq_some_iff.mp hμ).2
  have ndis:∀ p∈(s.heap.objs.size,oi)::(D,listOf items c)::named,p.1∉rest.map (·.1):=fun p hp=>by
   rcases List.mem_cons.mp hp with rfl|hp
   ·intro hm
    obtain ⟨q,hq,e⟩:=List.mem_map.mp hm
    exact nit q (List.mem_append_right _ hq) e
   ·exact hdis p hp
  have nit':∀ p∈(D,listOf items c)::named,p.1≠s.heap.objs.size:=fun p hp=>by
   rcases List.mem_cons.mp hp with rfl|hp
   ·exact nDit
   ·exact nit p (List.mem_append_left _ hp)
  refine wpAny_mono (turn i μ s.heap.objs.size oi named rest σi rowsi h tk hμ hμs hN W ndis hPi (by omega) nit' nD F N) (fun fl s₃ q=>?_) fun e s₃ q=>?_
  ·obtain ⟨rfl,hf,h',tk',named',rest',rfl,hN',W',dis',nit₂,nD',F',N'⟩:=q.out
   refine .inl ⟨rfl,h',tk',named'++rest',some (.ref μ.M),rfl,⟨named',rest',_,_,rfl,hN',W',fun p hp=>dis' p (.tail _ hp),nD',?_,hP i μ σi hμ hPi,?_,fun j ν hj hν=>?_⟩,fun p hp=>?_,F',N'⟩
   ·rw [←hph,hd,phase_ok hf]
   ·rw [List.length_append,List.length_singleton]; exact room_step ‹rowsi.length+(ml.length - i)<900› ‹i<ml.length› (Nat.le_refl _)
   ·rcases Nat.lt_or_eq_of_le (Nat.le_of_lt_succ hj) with hj|rfl
    ·exact hok j ν hj hν
    ·rw [hμ] at hν; cases hν; exact hf
   ·rcases List.mem_append.mp hp with hp|hp
    ·exact nit₂ p (.tail _ hp)
    ·intro e
     exact dis' _ (.head _) (e ▸ List.mem_map_of_mem (f:=(·.1)) hp)
  ·obtain ⟨ea,kd,Cx,h',tk',rest',rfl,rfl,hf,hc,⟨B,t,b1,b2,b3,b4,b6⟩,W',dis'⟩:=q.out
   refine note2 hA hfL b3 (.inr rfl) fun h₂ U₂ x₂=>cameBack2 hfL U₂ fun h₃ U₃ x₃=>?_
   refine no h₃ tk' named rest' σi (rowsi++[(name,μ.who)]) ea kd Cx (some (.ref μ.M)) i μ ?_ hμ hf hok hc hN ⟨B,t,fun b o q nm=>b1 b o q fun hm=>?_,fun p hp=>b2 p ?_,U₃,fun b hb o q=>?_,?_,fun p hp=>b6 p (.tail _ hp)⟩ W' (fun p hp=>dis' p (.tail _ hp)) nD hPi
   ·rw [←hph,hd,phase_no hf]
   ·rcases frs_mem hfL hm with z|z
    ·rw [z,kts_self F] at q; cases q
    ·exact nm z
   ·exact .tail _ hp
   ·have hb':b∈frs (env::outer):=by
     obtain ⟨e',he',hf'⟩:=List.mem_filterMap.mp hb
     exact List.mem_filterMap.mpr ⟨e',.tail _ he',hf'⟩
    obtain ⟨_,o₂,ho₂,hn₂⟩:=b3.frames.mem hb'
    obtain ⟨sl,hs⟩:=b4 b hb' o (F.keep _ _ q)
    rw [hs] at ho₂
    obtain rfl:=Option.some.inj ho₂
    obtain ⟨sl₂,hs₂⟩:=(x₂.trans x₃) b _ hs hn₂
    exact ⟨sl₂,hs₂⟩
   ·have hL':L∈frs (env::outer):=List.mem_filterMap.mpr ⟨env,.head _,hfL⟩
    obtain ⟨oL,es,ep,hL,hLd,r⟩:=F.ns
    obtain ⟨sl,hs⟩:=b4 L hL' oL hL
    have:h'.Ns L _:=⟨_,es,ep,hs,hLd,r⟩
    exact (x₂.trans x₃).ns this) ((kept,w,A,E,s,g),(L,D,x,env,outer,m₀),(items,c,body,pos,lg,μs),(ml,σ,rows,rest,named,name),(f,Q,P,Nm))
end
inductive CellLoop (g:Heap) (L it l c:Addr) (items:Array Value) (kl:Nat) (ov:Option Value) (J:(Sm)→Rest→Prop) (i:Nat) (s s₁:Shared):Prop
 | mk (h:Heap) (tk:Nat) (m:Sm) (nw:Rest) (oi oc:Obj) (e:s₁={ s with heap:=h,toks:=tk }) (io:IterOf oi l i) (hc:∃ v₀,oc.data=.cell v₀∧(ov=none ∨ ov=v₀)) (hJ:J m nw)
  (off:∀ p∈(l,listOf items kl)::nw,p.1≠it∧p.1≠c) (F:Fr g L h m) (N:News g L h ((it,oi)::(c,oc)::(l,listOf items kl)::nw)):CellLoop g L it l c items kl ov J i s s₁
section
variable {prog:Program} {w:World} {A:Around} {R:Rp} {s:Shared} {g:Heap} {L it l c:Addr} {x:Str} {env:Env} {items:Array Value} {kl:Nat} {body:List Stmt} {pos:Pos}
theorem for_cell (J:Nat→(Sm)→Rest→Prop) (hk:env.scope.kind=.function) (hx:env.kindOf x=some .cell) (hcl:env.cells.lookup x=some c) (hh:A.handled=none) (hic:it≠c)
  (turn:∀ i v s₁,items[i]?=some v→CellLoop g L it l c items kl (some v) (J i) (i+1) s s₁→wpAny (model prog w) A (execs body env) (fun fl s₃=>Opq (fl=.next∧CellLoop g L it l c items kl none (J (i+1)) (i+1) s s₃)) (notedBy (model prog w) A env fun e s'=>R (.error e) s') s₁)
  (done:∀ h tk m nw oc,(∃ v₀,oc.data=.cell v₀)→J items.size m nw→Fr g L h m→News g L h ((c,oc)::(l,listOf items kl)::nw)→R (.ok .next) { s with heap:=h,toks:=tk })
  (h0:CellLoop g L it l c items kl none (J 0) 0 s s) :
  codeAny (model prog w) A (.forLoop (.Name x pos) (.ref it) body [] env) R s:=by
 refine codeAny_forLoop (fun n s₁=>∃ i,n+i=items.size∧CellLoop g L it l c items kl none (J i) i s s₁) ?_ items.size ⟨0,rfl,h0⟩
 rintro n s₁ ⟨i,hn,C⟩
 obtain ⟨h,tk,m,nw,oi,oc,rfl,hio,⟨v₀,hv₀,-⟩,hJ,off,F,N⟩:=C
 have cit:=N _ (.head _)
 have cc:=N _ eM1
 have cl:=N _ eM2
 have il:h.IsList l items:=⟨_,cl.1,rfl,_,rfl⟩
 have ii:h.IsListIter it l i:=⟨_,cit.1,hio.1,hio.2⟩
 cases hv:items[i]? with
 | none=>
  have hi:items.size ≤ i:=Array.getElem?_eq_none_iff.mp hv
  obtain rfl:i=items.size:=cnt_end ‹n+i=items.size› hi
  refine wpAny_pyNext_list_end hh ii il hv fun h' k=>?_
  have k':∀ b o,b≠it→h.get? b=some o→h'.get? b=some o:=k
  refine wpAny_pure ?_
  exact done h' tk m nw oc ⟨v₀,hv₀⟩ hJ (fr_but F cit.2.1 cit.2.2 k') (news_but (news_tl N) (fun p hp=>by
   rcases List.mem_cons.mp hp with rfl|hp
   ·exact Ne.symm hic
   ·exact (off p hp).1) k')
 | some v=>
  refine wpAny_pyNext_list_item ii il hv fun h' hi' hs=>?_
  have k':∀ b o,b≠it→h.get? b=some o→h'.get? b=some o:=fun b o hb e=>(hs.2 b hb).trans e
  obtain ⟨oi',ho,hoc,hod⟩:=hi'
  have F1:=fr_but F cit.2.1 cit.2.2 k'
  have Nt:News g L h' ((c,oc)::(l,listOf items kl)::nw):=news_but (news_tl N) (fun p hp=>by
   rcases List.mem_cons.mp hp with rfl|hp
   ·exact Ne.symm hic
   ·exact (off p hp).1) k'
  refine wpAny_assign_Name (wpAny_storeName_cell hk hx hcl ⟨oc,(Nt _ (.head _)).1,hv₀⟩ fun h₂ hv₂ hs₂=>?_)
  obtain ⟨oc',ho',hd'⟩:=hv₂
  have k₂:∀ b o,b≠c→h'.get? b=some o→h₂.get? b=some o:=fun b o hb e=>(hs₂.2 b hb).trans e
  have F2:=fr_but F1 cc.2.1 cc.2.2 k₂
  have N2:News g L h₂ ((it,oi')::(c,oc')::(l,listOf items kl)::nw):=news_cons ⟨k₂ _ _ hic ho,cit.2⟩ (news_cons ⟨ho',cc.2⟩ (news_but (news_tl Nt) (fun p hp=>(off p hp).2) k₂))
  refine wpAny_mono (turn i v _ hv ⟨h₂,_,m,nw,oi',oc',rfl,⟨hoc,hod⟩,⟨_,hd',.inr rfl⟩,hJ,off,F2,N2⟩) (fun fl s₃ q=>?_) fun _ _ q=>q
  obtain ⟨e1,q'⟩:=q.out
  subst e1
  have:i<items.size:=(Array.getElem?_eq_some_iff.mp hv).1
  exact ⟨n - 1,cnt_less ‹n+i=items.size› this,i+1,cnt_next ‹n+i=items.size› this,q'⟩
end
theorem fr_mod0 {g h h':Heap} {L:Addr} {m:Sm} (F:Fr g L h m) (k:Mod [] h h'):Fr g L h' m:=by
 obtain ⟨oL,es,ep,hL,r⟩:=F.ns
 exact ⟨⟨oL,es,ep,k _ _ hL List.not_mem_nil,r⟩,fun b o e=>k _ _ (F.keep b o e) List.not_mem_nil,F.above⟩
theorem news_mod0 {g h h':Heap} {L:Addr} {nw:Rest} (N:News g L h nw) (k:Mod [] h h'):News g L h' nw:=fun p hp=>⟨k _ _ (N p hp).1 List.not_mem_nil,(N p hp).2⟩
theorem sortKey897 {w:World} {A:Around} {s:Shared} {B:Heap} {M d pl lg:Addr} {x:Mk} {who:Str} {tw tk t5 t6:Tok} {key kept value:Int} {ready:Value} {R:Rp} {loose:List Str} {mg mb:Sm}
  (X:(hd.heap_1 w.params).In B) (T:TopRead pq loose mg mb B) (hB:B.StaysIn s.heap) (hroom:A.depth+8<recursionLimit)
  (hM:s.heap.get? M=some (instObj 897 d)) (hd:s.heap.get? d=some (dictOf (mgrEs x who tw key tk pl lg kept t5 value t6 ready) 8))
  (fM:B.get? M=none) (fd:B.get? d=none)
  (h:∀ h' tk',Mod [] s.heap h'→R (.ok (.ret (.int key tk))) { s with heap:=h',toks:=tk' }) :
  codeAny (model P2 w) A (.call (.ref 852) ⟨[.ref M],[]⟩) R s:=by
 k_dflt (refine' enter (Λ:=[(M,instObj 897 d),(d,dictOf (mgrEs x who tw key tk pl lg kept t5 value t6 ready) 8)]) X T hB ?k1 ?k2 (by k_is) (by k_is) (by k_room) (BindsTo.of_eq rfl) (locs rfl) ?_ rfl rfl rfl (by decide))
 (case k1=>simp only [List.forall_mem_cons]; exact ⟨hM,hd,fun p hp=>nomatch hp⟩)
 (case k2=>simp only [List.forall_mem_cons]; exact ⟨fM,fd,fun p hp=>nomatch hp⟩)
 have q1:@Ne Nat M d:=fun e=>by rw [e,hd] at hM; cases hM
 intro g L' h₁ hg l1 KX TX F N
 k_lt l1
 dsimp only
 k_steps
 rename Fr _ _ _ _=>F₄
 rename News _ _ _ _=>N₄
 refine h _ _ (mod_of hg F₄ N₄ (ns_cons ?_ (ns_cons ?_ ns_nil)))
 ·intro _ o q; rw [hM] at q; cases q; exact .head _
 ·intro _ o q; rw [hd] at q; cases q; exact eM1
theorem rm_key897 {w:World} {A:Around} {s:Shared} {B:Heap} {M d pl lg:Addr} {x:Mk} {who:Str} {tw tk t5 t6:Tok} {key kept value:Int} {ready:Value} {R:Rp} {loose:List Str} {mg mb:Sm}
  (X:(hd.heap_1 w.params).In B) (T:TopRead pq loose mg mb B) (hB:B.StaysIn s.heap) (hroom:A.depth+12<recursionLimit)
  (hM:s.heap.get? M=some (instObj 897 d)) (hd:s.heap.get? d=some (dictOf (mgrEs x who tw key tk pl lg kept t5 value t6 ready) 8))
  (fM:B.get? M=none) (fd:B.get? d=none)
  (h:∀ h' tk',Mod [] s.heap h'→R (.ok (.ret (.int key tk))) { s with heap:=h',toks:=tk' }) :
  codeAny (model P2 w) A (.call (.ref 512) ⟨[.ref M],[]⟩) R s:=by
 k_dflt (refine' enter (Λ:=[(M,instObj 897 d),(d,dictOf (mgrEs x who tw key tk pl lg kept t5 value t6 ready) 8)]) X T hB ?k1 ?k2 (by k_is) (by k_is) (by k_room) (BindsTo.of_eq rfl) (locs rfl) ?_ rfl rfl rfl (by decide))
 (case k1=>simp only [List.forall_mem_cons]; exact ⟨hM,hd,fun p hp=>nomatch hp⟩)
 (case k2=>simp only [List.forall_mem_cons]; exact ⟨fM,fd,fun p hp=>nomatch hp⟩)
 have q1:@Ne Nat M d:=fun e=>by rw [e,hd] at hM; cases hM
 intro g L' h₁ hg l1 KX TX F N
 k_lt l1
 dsimp only
 k_steps
 refine hasattr_meth (p:=852) F N KX (InstAt.of_news N (.head _) eM1) (by k_is) (findObj_meth (g:=.builtin "function.__get__") (a:=.ref 852) (by k_is) (by k_is) (by k_is) (by k_is) rfl (by decide +kernel)) (by k_is) (by k_is) (by k_is) fun h₂ F₂ N₂=>?_
 k_steps
 refine wpAny_call (sortKey897 (B:=g) KX TX F₂.keep (by k_room) (N₂ _ (.head _)).1 (N₂ _ eM1).1 (N₂ _ (.head _)).2.2 (N₂ _ eM1).2.2 fun h₃ tk₃ hm=>?_)
 refine h _ _ (mod_of hg (fr_mod0 F₂ hm) (news_mod0 N₂ hm) (ns_cons ?_ (ns_cons ?_ ns_nil)))
 ·intro _ o q; rw [hM] at q; cases q; exact .head _
 ·intro _ o q; rw [hd] at q; cases q; exact eM1
theorem sortKey923 {w:World} {A:Around} {s:Shared} {B:Heap} {M d pl lg:Addr} {x:Mk} {who:Str} {tw tk t5 t6:Tok} {key kept value:Int} {ready:Value} {R:Rp} {loose:List Str} {mg mb:Sm}
  (X:(hd.heap_1 w.params).In B) (T:TopRead pq loose mg mb B) (hB:B.StaysIn s.heap) (hroom:A.depth+8<recursionLimit)
  (hM:s.heap.get? M=some (instObj 923 d)) (hd:s.heap.get? d=some (dictOf (mgrEs x who tw key tk pl lg kept t5 value t6 ready) 8))
  (fM:B.get? M=none) (fd:B.get? d=none)
  (h:∀ h' tk',Mod [] s.heap h'→R (.ok (.ret (.int key tk))) { s with heap:=h',toks:=tk' }) :
  codeAny (model P2 w) A (.call (.ref 852) ⟨[.ref M],[]⟩) R s:=by
 k_dflt (refine' enter (Λ:=[(M,instObj 923 d),(d,dictOf (mgrEs x who tw key tk pl lg kept t5 value t6 ready) 8)]) X T hB ?k1 ?k2 (by k_is) (by k_is) (by k_room) (BindsTo.of_eq rfl) (locs rfl) ?_ rfl rfl rfl (by decide))
 (case k1=>simp only [List.forall_mem_cons]; exact ⟨hM,hd,fun p hp=>nomatch hp⟩)
 (case k2=>simp only [List.forall_mem_cons]; exact ⟨fM,fd,fun p hp=>nomatch hp⟩)
 have q1:@Ne Nat M d:=fun e=>by rw [e,hd] at hM; cases hM
 intro g L' h₁ hg l1 KX TX F N
 k_lt l1
 dsimp only
 k_steps
 rename Fr _ _ _ _=>F₄
 rename News _ _ _ _=>N₄
 refine h _ _ (mod_of hg F₄ N₄ (ns_cons ?_ (ns_cons ?_ ns_nil)))
 ·intro _ o q; rw [hM] at q; cases q; exact .head _
 ·intro _ o q; rw [hd] at q; cases q; exact eM1
theorem rm_key923 {w:World} {A:Around} {s:Shared} {B:Heap} {M d pl lg:Addr} {x:Mk} {who:Str} {tw tk t5 t6:Tok} {key kept value:Int} {ready:Value} {R:Rp} {loose:List Str} {mg mb:Sm}
  (X:(hd.heap_1 w.params).In B) (T:TopRead pq loose mg mb B) (hB:B.StaysIn s.heap) (hroom:A.depth+12<recursionLimit)
  (hM:s.heap.get? M=some (instObj 923 d)) (hd:s.heap.get? d=some (dictOf (mgrEs x who tw key tk pl lg kept t5 value t6 ready) 8))
  (fM:B.get? M=none) (fd:B.get? d=none)
  (h:∀ h' tk',Mod [] s.heap h'→R (.ok (.ret (.int key tk))) { s with heap:=h',toks:=tk' }) :
  codeAny (model P2 w) A (.call (.ref 512) ⟨[.ref M],[]⟩) R s:=by
 k_dflt (refine' enter (Λ:=[(M,instObj 923 d),(d,dictOf (mgrEs x who tw key tk pl lg kept t5 value t6 ready) 8)]) X T hB ?k1 ?k2 (by k_is) (by k_is) (by k_room) (BindsTo.of_eq rfl) (locs rfl) ?_ rfl rfl rfl (by decide))
 (case k1=>simp only [List.forall_mem_cons]; exact ⟨hM,hd,fun p hp=>nomatch hp⟩)
 (case k2=>simp only [List.forall_mem_cons]; exact ⟨fM,fd,fun p hp=>nomatch hp⟩)
 have q1:@Ne Nat M d:=fun e=>by rw [e,hd] at hM; cases hM
 intro g L' h₁ hg l1 KX TX F N
 k_lt l1
 dsimp only
 k_steps
 refine hasattr_meth (p:=852) F N KX (InstAt.of_news N (.head _) eM1) (by k_is) (findObj_meth (g:=.builtin "function.__get__") (a:=.ref 852) (by k_is) (by k_is) (by k_is) (by k_is) rfl (by decide +kernel)) (by k_is) (by k_is) (by k_is) fun h₂ F₂ N₂=>?_
 k_steps
 refine wpAny_call (sortKey923 (B:=g) KX TX F₂.keep (by k_room) (N₂ _ (.head _)).1 (N₂ _ eM1).1 (N₂ _ (.head _)).2.2 (N₂ _ eM1).2.2 fun h₃ tk₃ hm=>?_)
 refine h _ _ (mod_of hg (fr_mod0 F₂ hm) (news_mod0 N₂ hm) (ns_cons ?_ (ns_cons ?_ ns_nil)))
 ·intro _ o q; rw [hM] at q; cases q; exact .head _
 ·intro _ o q; rw [hd] at q; cases q; exact eM1
theorem ints_getD {ks:List Value} {kz:List Int} (h:IntsAre ks kz):∀ i,i<ks.length→∃ t,ks.getD i Value.none=.int (kz.getD i 0) t:=by
 induction h with
 | nil=>exact fun i h=>(Nat.not_lt_zero i h).elim
 | cons n t _ ih=>exact fun i=>Nat.casesOn i (fun _=>⟨t,rfl⟩) fun i hi=>ih i (Nat.lt_of_succ_lt_succ hi)
section
variable {prog:Program} {w:World} {A:Around} {E:Vp} {s:Shared}
theorem kas_run {α:Type} {ks:List Value} {kz:List Int} {Q:α→Shared→Prop} (h:IntsAre ks kz) (t:KasT α) (ok:okT ks.length t=true) (q:Q (runT (fun i j=>decide (kz.getD i 0<kz.getD j 0)) t) s):t.kasWp (kas_ask prog w A oneType' ks) Q s:=by
 induction t with
 | ret a=>exact q
 | ask i j k ih=>
  obtain ⟨hi,hj,hk⟩:=okT_k ok
  obtain ⟨ti,ei⟩:=ints_getD h i hi
  obtain ⟨tj,ej⟩:=ints_getD h j hj
  show kas_ask prog w A oneType' ks i j _ s
  unfold kas_ask
  rw [ei,ej]
  exact kat_lt_int (ih _ (hk _) q)
end
section
variable {w:World} {A:Around} {E:Vp} {s:Shared} {g:Heap} {L kS D:Addr} {m:Sm} {loose:List Str} {mg mb:Sm}
  {lg:Addr} {μs:List Mg} {σ:Addr→Ms} {rows:List (Str×Str)} {rest named:Rest} {e1:Nat}
theorem keys_go (X:(hd.heap_1 w.params).In g) (T:TopRead pq loose mg mb g) (W:Wd kept w lg μs σ rows rest) (hroom:A.depth+16<recursionLimit) {Fin:List Value→Nat→Shared→Prop} (hkD:kS≠D) (hn:∀ p∈named++rest,p.1≠kS) (ml:List Mg) :
  ∀ (ks:List Value) (kz:List Int) (e:Nat) (s:Shared),(∀ μ∈ml,μ∈μs)→IntsAre ks kz→Fr g L s.heap m→News g L s.heap ((kS,seqObj "list" (List.toArray ks) e)::(D,seqObj "list" #[] e1)::(named++rest)) →
   (∀ ks' e' h' tk,IntsAre ks' (kz++ml.map (·.key))→Fr g L h' m→News g L h' ((kS,seqObj "list" (List.toArray ks') e')::(D,seqObj "list" #[] e1)::(named++rest))→Fin ks' e' { s with heap:=h',toks:=tk }) →
   KatKeys (P2) w A g L m kS (.ref 512) Fin (ml.map fun μ=>.ref μ.M) ks e s:=by
 induction ml with
 | nil=>exact fun ks kz e s _ hk F N h=>KatKeys.nil (h ks e s.heap s.toks ((List.append_nil kz).symm ▸ hk) F N)
 | cons μ ml ih=>
  intro ks kz e s hm hk F N h
  have hμ:=hm μ (.head _)
  have O:=W.mg μ hμ
  obtain ⟨t5,t6,rv,hd,_⟩:=O.dict
  have mem:∀ p∈rest,p∈(kS,seqObj "list" (List.toArray ks) e)::(D,seqObj "list" #[] e1)::(named++rest):=fun p hp=>eT2 (List.mem_append_right _ hp)
  have cM:=N _ (mem _ O.inst)
  have cd:=N _ (mem _ hd)
  have fin:∀ h' tk',Mod [] s.heap h'→KatBack g L m kS ks e (fun k c s'=>KatKeys P2 w A g L m kS (.ref 512) Fin (ml.map fun μ=>.ref μ.M) (ks++[k]) c s') (.int μ.key μ.tk) { s with heap:=h',toks:=tk' }:=fun h' tk' hm'=>
   KatBack.intro (fr_mod0 F hm') (news_mod0 N hm') (UpdF.head fun p hp=>(List.mem_cons.mp hp).elim (fun e=>e ▸ Ne.symm hkD) (hn p)) fun h2 c F2 N2=>
    ih (ks++[.int μ.key μ.tk]) (kz++[μ.key]) c { s with heap:=h2,toks:=tk' } (fun ν hν=>hm ν (.tail _ hν)) (ksk_snoc hk) F2 N2 fun ks' e' h3 tk3 hk3 F3 N3=>h ks' e' h3 tk3 (by rw [List.append_assoc] at hk3; exact hk3) F3 N3
  refine KatKeys.cons ?_
  rcases O.cls with hC|hC
  ·have hin:s.heap.get? μ.M=some (instObj 897 μ.d):=hC ▸ cM.1
   exact wpAny_call (rm_key897 (B:=g) X T F.keep (Nat.lt_of_le_of_lt (Nat.le_add_right _ 4) hroom) hin cd.1 cM.2.2 cd.2.2 fin)
  ·have hin:s.heap.get? μ.M=some (instObj 923 μ.d):=hC ▸ cM.1
   exact wpAny_call (rm_key923 (B:=g) X T F.keep (Nat.lt_of_le_of_lt (Nat.le_add_right _ 4) hroom) hin cd.1 cM.2.2 cd.2.2 fin)
noncomputable def sortMg (ml:List Mg):List Mg:=(sortPl ml.length (ml.map (·.key))).filterMap fun i=>ml[i]?
theorem refs_getD (ml:List Mg):∀ (pl:List Nat),(∀ a∈pl,a<ml.length)→pl.map (fun i=>(ml.map fun μ=>Value.ref μ.M).getD i Value.none)=(pl.filterMap fun i=>ml[i]?).map fun μ=>.ref μ.M
 | [],_=>rfl
 | a::pl,h=>by
  have ha:=h a (.head _)
  rw [List.map_cons,List.filterMap_cons,List.getElem?_eq_getElem ha,refs_getD ml pl fun b hb=>h b (.tail _ hb)]
  simp [ha]
theorem sort_call {items:Array Value} {c:Nat} {ml:List Mg} {Q:Vp} (X:(hd.heap_1 w.params).In g) (T:TopRead pq loose mg mb g) (W:Wd kept w lg μs σ rows rest) (hroom:A.depth+20<recursionLimit)
  (F:Fr g L s.heap m) (N:News g L s.heap ((D,listOf items c)::(named++rest))) (hD:∀ p∈named++rest,p.1≠D) (hi:items.toList=ml.map fun μ=>.ref μ.M) (hm:∀ μ∈ml,μ∈μs) (hl:ml.length∈[2,3,4,5])
  (h:∀ h' tk c',Fr g L h' m→News g L h' ((D,listOf (List.toArray ((sortMg ml).map fun μ=>.ref μ.M)) c')::(named++rest))→Q .none { s with heap:=h',toks:=tk }) :
  wpAny (model P2 w) A (call (.builtin "list.sort") [.ref D] [(Str.ofString "key",.ref 512)]) Q E s:=by
 have z:=N _ (.head _)
 have hlen:(ml.map fun μ=>Value.ref μ.M).length=ml.length:=List.length_map _
 have h2:2 ≤ ml.length∧ml.length<64:=by
  exact small25 hl
 have ho:s.heap.get? D=some (seqObj "list" (ml.map fun μ=>Value.ref μ.M).toArray c):=by rw [←hi,Array.toArray_toList]; exact z.1
 refine wpAny_call_entry_kw PyProof.Rows.slot_list_sort ⟨_,z.1,rfl⟩ PyProof.Rows.entry_list_sort ?_ (ksk_l1 _ _)
 rw [ksk_t1]
 refine kat_keyed F (news_tl N) ho z.2.1 z.2.2 hD (by rw [hlen]; exact h2.1) (by rw [hlen]; exact h2.2) fun kS e1 h' F' N' l0 l1=>?_
 have hkS:∀ p∈named++rest,p.1≠kS:=fun p hp=>Nat.ne_of_lt (l1 p hp)
 refine keys_go X T W (by show A.depth+16<_; omega) (Nat.ne_of_gt l0) hkS ml [] [] 0 _ hm .nil F' N' fun ks e h3 tk3 hk F3 N3=>?_
 have hkl:ks.length=ml.length:=by have:=hk.length; simpa using this
 have hk':IntsAre (List.toArray ks).toList (ml.map (·.key)):=by simpa using hk
 rw [ksk_kind hk' (by rw [List.size_toArray,hkl]; exact h2.1)]
 refine wpAny_pure ?_
 rw [hlen]
 refine kas_run (ks:=katRev false ks) (kz:=ml.map (·.key)) (by simpa [katRev] using hk) _ (by have:=ok5 _ hl; simpa [katRev,hkl] using this) ?_
 have hspec:=sortPl_spec hl (kz:=ml.map (·.key)) (by simp)
 refine KatFin.intro F3 N3 (UpdF.head fun p hp=>?_) fun h4 c4 F4 N4=>KasFin.intro F4 N4 (UpdF.tail (Nat.ne_of_gt l0) (UpdF.head hD)) fun h5 c5 F5 N5=>?_
 ·rcases List.mem_cons.mp hp with rfl|hp
  ·exact Nat.ne_of_lt l0
  ·exact hkS p hp
 ·refine ⟨_,rfl,h h5 tk3 c5 F5 fun p hp=>?_⟩
  have e:katRev false ((runT (fun i j=>decide ((ml.map (·.key)).getD i 0<(ml.map (·.key)).getD j 0)) (kas_sort ml.length)).toList.map fun i=>(katRev false (ml.map fun μ=>Value.ref μ.M)).getD i Value.none)=(sortMg ml).map fun μ=>.ref μ.M:=
   refs_getD ml (sortPl ml.length (ml.map fun μ:Mg=>μ.key)) hspec.2.1
  rw [e] at N5
  rcases List.mem_cons.mp hp with rfl|hp
  ·exact N5 _ eM1
  ·exact N5 _ (eT2 hp)
end
noncomputable def fC (s:Ms):Ms:=⟨s.kept,s.value,some s.value⟩
noncomputable def fF (s:Ms):Ms:=⟨s.ready.getD 0,s.value,none⟩
noncomputable def fA (s:Ms):Ms:=⟨s.kept,s.kept,none⟩
noncomputable def tryPart (ml:List Mg) (σ:Addr→Ms) (rows:List (Str×Str)):St×List Mg:=
 match phase (Str.ofString "tpc_begin") (fun s=>s) ml σ rows with
 | (σ1,r1,some k)=>((σ1,r1,some k),[])
 | (σ1,r1,none)=>match phase (Str.ofString "commit") fC ml σ1 r1 with
  | (σ2,r2,some k)=>((σ2,r2,some k),[])
  | (σ2,r2,none)=>match phase (Str.ofString "tpc_vote") (fun s=>s) ml σ2 r2 with
   | (σ3,r3,some k)=>((σ3,r3,some k),ml.takeWhile fun μ=>(fails (Str.ofString "tpc_vote") μ).isNone)
   | (σ3,r3,none)=>(phase (Str.ofString "tpc_finish") fF ml σ3 r3,ml)
section
variable {ml:List Mg} {σ s1 s2 s3:Addr→Ms} {rows r1 r2 r3:List (Str×Str)} {k:Int}
theorem tp1 (e:phase (Str.ofString "tpc_begin") (fun s=>s) ml σ rows=(s1,r1,some k)):tryPart ml σ rows=((s1,r1,some k),[]):=by
 unfold tryPart
 rw [e]
theorem tp2 (e:phase (Str.ofString "tpc_begin") (fun s=>s) ml σ rows=(s1,r1,none)) (e2:phase (Str.ofString "commit") fC ml s1 r1=(s2,r2,some k)):tryPart ml σ rows=((s2,r2,some k),[]):=by
 unfold tryPart
 rw [e]
 dsimp only
 rw [e2]
theorem tp3 (e:phase (Str.ofString "tpc_begin") (fun s=>s) ml σ rows=(s1,r1,none)) (e2:phase (Str.ofString "commit") fC ml s1 r1=(s2,r2,none)) (e3:phase (Str.ofString "tpc_vote") (fun s=>s) ml s2 r2=(s3,r3,some k)) :
  tryPart ml σ rows=((s3,r3,some k),ml.takeWhile fun μ=>(fails (Str.ofString "tpc_vote") μ).isNone):=by
 unfold tryPart
 rw [e]
 dsimp only
 rw [e2]
 dsimp only
 rw [e3]
theorem tp4 (e:phase (Str.ofString "tpc_begin") (fun s=>s) ml σ rows=(s1,r1,none)) (e2:phase (Str.ofString "commit") fC ml s1 r1=(s2,r2,none)) (e3:phase (Str.ofString "tpc_vote") (fun s=>s) ml s2 r2=(s3,r3,none)) :
  tryPart ml σ rows=(phase (Str.ofString "tpc_finish") fF ml s3 r3,ml):=by
 unfold tryPart
 rw [e]
 dsimp only
 rw [e2]
 dsimp only
 rw [e3]
theorem tryPart_ind {Q:St×List Mg→Prop}
  (h1:∀ (a:(Addr→Ms)×List (Str×Str)) k,phase (Str.ofString "tpc_begin") (fun s=>s) ml σ rows=(a.1,a.2,some k)→Q ((a.1,a.2,some k),[]))
  (h2:∀ (a b:(Addr→Ms)×List (Str×Str)) k,phase (Str.ofString "tpc_begin") (fun s=>s) ml σ rows=(a.1,a.2,none)→phase (Str.ofString "commit") fC ml a.1 a.2=(b.1,b.2,some k)→Q ((b.1,b.2,some k),[]))
  (h3:∀ (a b c:(Addr→Ms)×List (Str×Str)) k,phase (Str.ofString "tpc_begin") (fun s=>s) ml σ rows=(a.1,a.2,none)→phase (Str.ofString "commit") fC ml a.1 a.2=(b.1,b.2,none)→phase (Str.ofString "tpc_vote") (fun s=>s) ml b.1 b.2=(c.1,c.2,some k)→Q ((c.1,c.2,some k),ml.takeWhile fun μ=>(fails (Str.ofString "tpc_vote") μ).isNone))
  (h4:∀ (a b c:(Addr→Ms)×List (Str×Str)),phase (Str.ofString "tpc_begin") (fun s=>s) ml σ rows=(a.1,a.2,none)→phase (Str.ofString "commit") fC ml a.1 a.2=(b.1,b.2,none)→phase (Str.ofString "tpc_vote") (fun s=>s) ml b.1 b.2=(c.1,c.2,none)→Q (phase (Str.ofString "tpc_finish") fF ml c.1 c.2,ml)):Q (tryPart ml σ rows):=by
 rcases e:phase (Str.ofString "tpc_begin") (fun s=>s) ml σ rows with ⟨s1,r1,_|k⟩
 ·rcases e2:phase (Str.ofString "commit") fC ml s1 r1 with ⟨s2,r2,_|k⟩
  ·rcases e3:phase (Str.ofString "tpc_vote") (fun s=>s) ml s2 r2 with ⟨s3,r3,_|k⟩
   ·exact tp4 e e2 e3 ▸ h4 (s1,r1) (s2,r2) (s3,r3) e e2 e3
   ·exact tp3 e e2 e3 ▸ h3 (s1,r1) (s2,r2) (s3,r3) k e e2 e3
  ·exact tp2 e e2 ▸ h2 (s1,r1) (s2,r2) k e e2
 ·exact tp1 e ▸ h1 (s1,r1) k e
end
theorem try_with {prog:Program} {w:World} {A:Around} {E:Vp} {s:Shared} {env:Env} {body orelse:List Stmt} {h₀:ExceptHandler} {hs:List ExceptHandler} {pos:Pos} {Q:Fp} (Et:Vp)
  (hand:∀ e s₁,Et e s₁→wpAny (model prog w) A (noteFrame e env) (fun _ s₂=>wpAny (model prog w) A (setFlight e none) (fun _ s₃=>wpAny (model prog w) A (handleBy e env (h₀::hs)) Q E s₃) E s₂) E s₁)
  (h:wpAny (model prog w) A (execs body env) (fun f s₁=>match f with|.next=>wpAny (model prog w) A (execs orelse env) Q E s₁|f=>Q f s₁) Et s) :
  wpAny (model prog w) A (exec (.Try body (h₀::hs) orelse [] pos) env) Q E s:=wpAny_Try_except (wpAny_mono h (fun _ _ x=>x) hand)
theorem fails_none {n:Str} {μ:Mg} (h:PySem.Spec.lookup (.str n) μ.D=none):fails n μ=none:=by unfold fails; rw [h]
theorem fails_some {n:Str} {μ:Mg} {k:Int} (h:PySem.Spec.lookup (.str n) μ.D=some (.int k)):fails n μ=some k:=by unfold fails; rw [h]
theorem mem_sortMg {ml:List Mg} {μ:Mg} (h:μ∈sortMg ml):μ∈ml:=by
 obtain ⟨i,_,hi⟩:=List.mem_filterMap.mp h
 exact List.mem_of_getElem? hi
theorem filterMap_len (ml:List Mg):∀ (pl:List Nat),(∀ a∈pl,a<ml.length)→(pl.filterMap fun i=>ml[i]?).length=pl.length
 | [],_=>rfl
 | a::pl,h=>by
  rw [List.filterMap_cons,List.getElem?_eq_getElem (h a (.head _))]
  simp only [List.length_cons]
  rw [filterMap_len ml pl fun b hb=>h b (.tail _ hb)]
theorem sortMg_len {ml:List Mg} (hl:ml.length∈[2,3,4,5]):(sortMg ml).length=ml.length:=by
 have hs:=sortPl_spec hl (kz:=ml.map (·.key)) (by simp)
 unfold sortMg
 rw [filterMap_len ml _ hs.2.1,hs.1]
theorem phase_len {n:Str} {f:Ms→Ms} {ml:List Mg} {σ σ':Addr→Ms} {rows rows':List (Str×Str)} {o:Option Int} (h:phase n f ml σ rows=(σ',rows',o)):rows'.length ≤ rows.length+ml.length:=by
 induction ml generalizing σ rows with
 | nil=>cases h; exact Nat.le_refl _
 | cons μ r ih=>
  cases hf:fails n μ with
  | none=>
   rw [phase_ok hf] at h
   have:=ih h
   rw [List.length_append,Nat.add_assoc,Nat.add_comm _ r.length] at this
   exact this
  | some k=>
   rw [phase_no hf] at h
   have e:rows++[(n,μ.who)]=rows':=congrArg (fun p=>p.2.1) h
   rw [←e,List.length_append]
   exact Nat.add_le_add_left (Nat.succ_le_succ (Nat.zero_le _)) _
theorem phase_all {n:Str} {f:Ms→Ms} {ml:List Mg} {σ:Addr→Ms} {rows:List (Str×Str)} (h:∀ μ∈ml,fails n μ=none) (nd:(ml.map (·.M)).Nodup) :
  phase n f ml σ rows=(fun a=>if a∈ml.map (·.M) then f (σ a) else σ a,rows++ml.map fun μ=>(n,μ.who),none):=by
 induction ml generalizing σ rows with
 | nil=>exact Prod.ext rfl (Prod.ext (List.append_nil _).symm rfl)
 | cons μ r ih=>
  rw [List.map_cons,List.nodup_cons] at nd
  rw [phase_ok (h μ (.head _)),ih (fun ν hν=>h ν (.tail _ hν)) nd.2,List.append_assoc]
  exact Prod.ext (upd_in nd.1) rfl
theorem phase_pre {n:Str} {f:Ms→Ms} {pre post:List Mg} {μ:Mg} {k:Int} {σ:Addr→Ms} {rows:List (Str×Str)} (hp:∀ ν∈pre,fails n ν=none) (hμ:fails n μ=some k) (nd:(pre.map (·.M)).Nodup) :
  phase n f (pre++μ::post) σ rows=(fun a=>if a∈pre.map (·.M) then f (σ a) else σ a,rows++(pre++[μ]).map fun μ=>(n,μ.who),some k):=by
 induction pre generalizing σ rows with
 | nil=>rw [List.nil_append,phase_no hμ]; simp
 | cons ν r ih=>
  rw [List.map_cons,List.nodup_cons] at nd
  rw [List.cons_append,phase_ok (hp ν (.head _)),ih (fun x hx=>hp x (.tail _ hx)) nd.2]
  refine Prod.ext (funext fun a=>?_) (Prod.ext (by simp) rfl)
  dsimp only
  unfold upd
  by_cases c:a=ν.M
  ·subst c
   rw [if_neg nd.1,if_pos rfl,if_pos (by simp)]
  ·rw [if_neg c]
   by_cases d:a∈r.map (·.M)
   ·rw [if_pos d,if_pos (by rw [List.map_cons]; exact .tail _ d)]
   ·rw [if_neg d,if_neg (by rw [List.map_cons,List.mem_cons]; exact fun q=>q.elim c d)]
theorem held_same {env:Env} {outer:List Env} {g:Heap} {L:Addr} {m m':Sm} {news:Rest} {C e:Addr} {h':Heap} (H:Held env outer g L m news C e h') (k:∀ y,m y=m' y):Held env outer g L m' news C e h':=by
 have:m=m':=funext k
 exact this ▸ H
theorem takeWhile_at {p:Mg→Bool} {ml:List Mg} {i:Nat} {μ:Mg} (h:ml[i]?=some μ) (hp:p μ=false) (hb:∀ j ν,j<i→ml[j]?=some ν→p ν=true):ml.takeWhile p=ml.take i:=by
 induction ml generalizing i with
 | nil=>exact (nomatch (List.getElem?_nil.symm.trans h:none=some μ))
 | cons μ' r ih=>
  cases i with
  | zero=>rw [List.takeWhile_cons,Option.some.inj h,hp]; rfl
  | succ i=>rw [List.takeWhile_cons,hb 0 μ' (Nat.zero_lt_succ i) rfl,List.take_succ_cons,←ih h fun j ν hj=>hb (j+1) ν (Nat.succ_lt_succ hj)]; rfl
theorem nodup_of_asc {kz:List Int}:∀ {pl:List Nat},pl.Pairwise (fun a b=>kz.getD a 0<kz.getD b 0 ∨ (kz.getD a 0=kz.getD b 0∧a<b))→pl.Nodup:=fun h=>h.imp fun h e=>by
 subst e
 rcases h with h|h
 ·exact absurd h (Int.lt_irrefl _)
 ·exact absurd h.2 (Nat.lt_irrefl _)
theorem sortMg_nodup {ml:List Mg} (hl:ml.length∈[2,3,4,5]) (nd:(ml.map (·.M)).Nodup):((sortMg ml).map (·.M)).Nodup:=by
 have hs:=sortPl_spec hl (kz:=ml.map (·.key)) (by simp)
 have hn:(sortPl ml.length (ml.map (·.key))).Pairwise (·≠·):=nodup_of_asc hs.2.2
 show List.Pairwise (·≠·) _
 rw [List.pairwise_map]
 unfold sortMg
 rw [List.pairwise_filterMap]
 refine hn.imp fun {a a'} hne b hb b' hb' e=>hne ?_
 have h1:(ml.map (·.M))[a]?=some b.M:=by rw [List.getElem?_map,hb]; rfl
 have h2:(ml.map (·.M))[a']?=some b'.M:=by rw [List.getElem?_map,hb']; rfl
 exact (List.getElem?_inj (List.getElem?_eq_some_iff.mp h1).1 nd).mp (by rw [h1,h2,e])
section
variable {w:World} {A:Around} {E:Vp} {s:Shared} {g B₀:Heap} {L C e fI:Addr} {env:Env} {outer:List Env} {m:Sm} {news:Rest} {K:Frag} {x n:Str} {np pos:Pos} {b₀:Stmt} {suite:List Stmt} {rest:List ExceptHandler} {Q:Fp}
theorem turn_ground {B:Heap} {h':Heap} (hfr:∀ b∈frs outer,∃ o,g.get? b=some o) (b1:∀ b o,g.get? b=some o→b∉frs outer→B.get? b=some o) (hB:B.StaysIn h')
  (b4:∀ b∈frs outer,∀ o,g.get? b=some o→∃ sl,h'.get? b=some { o with slots:=sl }) :
  ∃ g',KtsTurn (frs outer) g g'∧∀ b o,g'.get? b=some o→h'.get? b=some o:=
 ⟨_,kts_turn_at hfr (fun b o q nm=>hB b o (b1 b o q nm)) fun b o q hb=>b4 b hb o q⟩
abbrev Z0oP (L e:Addr) (B:Heap) (l:List Env) (cls a0:Value) (fl:Option Value) (h h':Heap):Prop:=∀ (U:Up2 B l e cls a0 fl h) (hL:B.get? L=none) (k:Heap.SameBut L h h') {oL oL':Obj} (h1:h.get? L=some oL) (n1:∀ vs,oL.data≠.fields vs) (h2:h'.get? L=some oL') (n2:∀ vs,oL'.data≠.fields vs),Up2 B l e cls a0 fl h'
abbrev Z0ocq:=U fun a b=>T3 (T6 Z0oP a) b
def Z0oc:=eps Z0ocq ⟨inferInstance⟩
theorem up2_but {L e:Addr} {B:Heap} {l:List Env} {cls a0:Value} {fl:Option Value} {h h':Heap}:Z0oP L e B l cls a0 fl h h':=eps0 Z0ocq Z0oc rfl (by
 show Z0oP Z0oc.1.1 Z0oc.1.2.1 Z0oc.1.2.2.1 Z0oc.1.2.2.2.1 Z0oc.1.2.2.2.2.1 Z0oc.1.2.2.2.2.2 Z0oc.2.1 Z0oc.2.2.1 Z0oc.2.2.2
 generalize Z0oc.1.1=L,Z0oc.1.2.1=e,Z0oc.1.2.2.1=B,Z0oc.1.2.2.2.1=l,Z0oc.1.2.2.2.2.1=cls,Z0oc.1.2.2.2.2.2=a0,Z0oc.2.1=fl,Z0oc.2.2.1=h,Z0oc.2.2.2=h'
 intro U hL k oL oL' h1 n1 h2 n2
 obtain ⟨u1,u2,u3,oe,vs,he,hc,hd,h0,hcx,r⟩:=U
 have ne:∀ {b:Addr} {o:Obj} {vs:Array Value},h.get? b=some o→o.data=.fields vs→h'.get? b=some o:=fun {b o vs} hb hd=>(k.2 b fun q=>by
  rw [q,h1] at hb
  obtain rfl:=Option.some.inj hb
  exact n1 vs hd).trans hb
 refine ⟨fun b o hb=>(k.2 b fun q=>by rw [q,hL] at hb; cases hb).trans (u1 b o hb),u2,funFrames_nf u3 (fun b hb o ho hn=>?_) fun b hb=>(u3.mem hb).1,oe,vs,ne he hd,hc,hd,h0,hcx,?_⟩
 ·by_cases q:b=L
  ·subst q
   exact ⟨oL',h2,n2⟩
  ·exact ⟨o,(k.2 b q).trans ho,hn⟩
 ·cases fl with
  | none=>exact r
  | some v=>
   obtain ⟨T,oT,ts,r1,r2,r3,r4,r5,r6⟩:=r
   exact ⟨T,oT,ts,r1,r2,r3,ne r4 r5,r5,r6⟩) ((L,e,B,l,cls,a0),(fl,h,h'))
abbrev Z05P (w:World) (A:Around) (E:Vp) (s:Shared) (g:Heap) (L C e fI:Addr) (env:Env) (outer:List Env) (m:Sm) (news:Rest) (K:Frag) (x n:Str) (np pos:Pos) (b₀:Stmt) (suite:List Stmt) (rest:List ExceptHandler) (Q:Fp):Prop:=∀ (hA:A.frames=some (env::outer)) (hfL:env.frame=some L) (hk:env.scope.kind=.function) (hlo:env.locals=L) (hn:env.kindOf n=some .local) (hX:∀ {g'},KtsTurn (frs outer) g g'→K.In g') (hx:excInitIn K C fI=true) (hfr:∀ b∈frs outer,∃ o,g.get? b=some o∧∀ vs,o.data≠.fields vs) (hab:g.objs.size ≤ L) (hname:∀ {g':Heap} {A':Around} {E':Vp} {Q':Vp} {s':Shared},KtsTurn (frs outer) g g'→Fr g' L s'.heap m→Q' (.type "Exception") s'→wpAny (model P2 w) A' (eval (.Name x np) env) Q' E' s') (H:Held env outer g L m news C e s.heap) (k:∀ h' g' tk oe vs,KtsTurn (frs outer) g g'→Fr g' L h' (fun y=>if y=n then some (.ref e) else m y)→News g' L h' ((e,oe)::news)→oe.cls=.ref C→oe.data=.fields vs→vs[2]?=some .none→(∀ p∈news,p.1≠e) →
   (∃ B t,(∀ b o,g.get? b=some o→b∉frs outer→B.get? b=some o)∧(∀ p∈news,B.get? p.1=some p.2)∧Up2 B (env::outer) e (.ref C) (.ref t) (some .none) h') →
   wpAny (model P2 w) (A.mark (some (.ref e))) (execs (b₀::suite) env)
    (fun f s₃=>wpAny (model P2 w) A (do bindName env n .none; unbindBehindTheSuite env n pos) (fun _ s₄=>Q f s₄) E s₃)
    (fun x s₃=>wpAny (model P2 w) (A.mark (some (.ref e))) (noteFrame x env) (fun _ s₃'=>
      wpAny (model P2 w) (A.mark (some (.ref e))) (do bindName env n .none; unbindBehindTheSuite env n pos)
       (fun _ s₄=>wpAny (model P2 w) (A.mark (some (.ref e))) (passOn "try.except-as" x env:Sem Flow) (fun _ _=>False) (notedBy (model P2 w) (A.mark (some (.ref e))) env (cameBackBy (model P2 w) A env E)) s₄)
       (fun y s₄=>wpAny (model P2 w) (A.mark (some (.ref e))) (setFlight x none) (fun _ s₅=>(notedBy (model P2 w) (A.mark (some (.ref e))) env (cameBackBy (model P2 w) A env E)) y s₅) (notedBy (model P2 w) (A.mark (some (.ref e))) env (cameBackBy (model P2 w) A env E)) s₄) s₃')
      (notedBy (model P2 w) (A.mark (some (.ref e))) env (cameBackBy (model P2 w) A env E)) s₃) { s with heap:=h',toks:=tk }),wpAny (model P2 w) A (setFlight (.ref e) none) (fun _ s₃=>wpAny (model P2 w) A (handleBy (.ref e) env (.ExceptHandler (some (.Name x np)) (some n) (b₀::suite) pos::rest)) Q E s₃) E s
abbrev Z05cq:=U fun a=>U fun b=>U fun c d=>T4 (T6 (T6 (T6 Z05P a) b) c) d
def Z05c:=eps Z05cq ⟨inferInstance⟩
theorem catch_core {w:World} {A:Around} {E:Vp} {s:Shared} {g:Heap} {L C e fI:Addr} {env:Env} {outer:List Env} {m:Sm} {news:Rest} {K:Frag} {x n:Str} {np pos:Pos} {b₀:Stmt} {suite:List Stmt} {rest:List ExceptHandler} {Q:Fp}:Z05P w A E s g L C e fI env outer m news K x n np pos b₀ suite rest Q:=eps0 Z05cq Z05c rfl (by
 show Z05P Z05c.1.1 Z05c.1.2.1 Z05c.1.2.2.1 Z05c.1.2.2.2.1 Z05c.1.2.2.2.2.1 Z05c.1.2.2.2.2.2 Z05c.2.1.1 Z05c.2.1.2.1 Z05c.2.1.2.2.1 Z05c.2.1.2.2.2.1 Z05c.2.1.2.2.2.2.1 Z05c.2.1.2.2.2.2.2 Z05c.2.2.1.1 Z05c.2.2.1.2.1 Z05c.2.2.1.2.2.1 Z05c.2.2.1.2.2.2.1 Z05c.2.2.1.2.2.2.2.1 Z05c.2.2.1.2.2.2.2.2 Z05c.2.2.2.1 Z05c.2.2.2.2.1 Z05c.2.2.2.2.2.1 Z05c.2.2.2.2.2.2
 generalize Z05c.1.1=w,Z05c.1.2.1=A,Z05c.1.2.2.1=E,Z05c.1.2.2.2.1=s,Z05c.1.2.2.2.2.1=g,Z05c.1.2.2.2.2.2=L,Z05c.2.1.1=C,Z05c.2.1.2.1=e,Z05c.2.1.2.2.1=fI,Z05c.2.1.2.2.2.1=env,Z05c.2.1.2.2.2.2.1=outer,Z05c.2.1.2.2.2.2.2=m,Z05c.2.2.1.1=news,Z05c.2.2.1.2.1=K,Z05c.2.2.1.2.2.1=x,Z05c.2.2.1.2.2.2.1=n,Z05c.2.2.1.2.2.2.2.1=np,Z05c.2.2.1.2.2.2.2.2=pos,Z05c.2.2.2.1=b₀,Z05c.2.2.2.2.1=suite,Z05c.2.2.2.2.2.1=rest,Z05c.2.2.2.2.2.2=Q
 intro hA hfL hk hlo hn hX hx hfr hab hname H k
 obtain ⟨B,t,b1,b2,b3,b4,b5,b6⟩:=H
 refine flight2 (fr:=none) b3 fun h₁ U₁ x₁=>?_
 have ns₁:=x₁.ns b5
 have b4₁:∀ b∈frs outer,∀ o,g.get? b=some o→∃ sl,h₁.get? b=some { o with slots:=sl }:=fun b hb o q=>by
  obtain ⟨sl,hs⟩:=b4 b hb o q
  obtain ⟨o',ho',hn'⟩:=hfr b hb
  rw [q] at ho'
  obtain rfl:=Option.some.inj ho'
  obtain ⟨sl',hs'⟩:=x₁ b _ hs hn'
  exact ⟨sl',hs'⟩
 obtain ⟨g₁,T₁,S₁⟩:=turn_ground (fun b hb=>let ⟨o,h,_⟩:=hfr b hb; ⟨o,h⟩) b1 U₁.stays b4₁
 have F₁:Fr g₁ L h₁ m:=⟨ns₁,S₁,by rw [T₁.size]; exact hab⟩
 obtain ⟨oe,vs,he,hc,hd,h0,h2,r1⟩:=U₁.rcd
 obtain ⟨cd,dd,kz,mN,hC,T,hN,hi⟩:=exc_init_of (hX T₁) hx
 have hC₁:=S₁ _ _ hC
 refine wpAny_handleBy_cons (codeAny_handlers_test (hname T₁ F₁ ?_)) (by intro q; cases q)
 refine wpAny_excMatches_sub_type (T := "Exception") hC₁ he hc (by rw [isSubtype_type]; kernel_rfl) (by rw [isSubtype_type]; kernel_rfl) ?_
 rw [T.hasType (X := "Exception") (b:=true) (by decide)]
 refine codeAny_handlers_suite_as ?_
 refine flight2 (fr:=none) U₁ fun h₂ U₂ x₂=>?_
 have ns₂:=x₂.ns ns₁
 have b4₂:∀ b∈frs outer,∀ o,g.get? b=some o→∃ sl,h₂.get? b=some { o with slots:=sl }:=fun b hb o q=>by
  obtain ⟨sl,hs⟩:=b4₁ b hb o q
  obtain ⟨o',ho',hn'⟩:=hfr b hb
  rw [q] at ho'
  obtain rfl:=Option.some.inj ho'
  obtain ⟨sl',hs'⟩:=x₂ b _ hs hn'
  exact ⟨sl',hs'⟩
 obtain ⟨g₂,T₂,S₂⟩:=turn_ground (fun b hb=>let ⟨o,h,_⟩:=hfr b hb; ⟨o,h⟩) b1 U₂.stays b4₂
 have F₂:Fr g₂ L h₂ m:=⟨ns₂,S₂,by rw [T₂.size]; exact hab⟩
 obtain ⟨oe,vs,he,hc,hd,h0,h2',r2⟩:=U₂.rcd
 have hLf:L∈frs (env::outer):=List.mem_filterMap.mpr ⟨env,.head _,hfL⟩
 obtain ⟨hBL,oL,hoL,hnL⟩:=U₂.frames.mem hLf
 have eL:e≠L:=fun q=>by
  rw [q,hoL] at he
  obtain rfl:=Option.some.inj he
  exact hnL vs hd
 have ge:g.get? e=none:=by
  cases q:g.get? e with
  | none=>rfl
  | some o=>
   by_cases hm:e∈frs outer
   ·obtain ⟨o',ho',hn'⟩:=hfr e hm
    obtain ⟨sl,hs⟩:=b4₂ e hm o' ho'
    rw [he] at hs
    obtain rfl:=Option.some.inj hs
    exact (hn' vs hd).elim
   ·have:=b1 e o q hm
    rw [U₂.new] at this; cases this
 have ne:∀ p∈news,p.1≠e:=fun p hp q=>by
  have:=b2 p hp
  rw [q,U₂.new] at this; cases this
 have gn:∀ p∈news,p.1≠L∧g.get? p.1=none:=fun p hp=>by
  refine ⟨fun q=>?_,b6 p hp⟩
  have:=b2 p hp
  rw [q,hBL] at this
  cases this
 have N₂:News g₂ L h₂ ((e,oe)::news):=fun p hp=>by
  rcases List.mem_cons.mp hp with rfl|hp
  ·exact ⟨he,eL,T₂.none_ _ ge⟩
  ·exact ⟨U₂.stays _ _ (b2 p hp),(gn p hp).1,T₂.none_ _ (gn p hp).2⟩
 refine wpAny_storeName_local hn (hlo ▸ F₂.ns) (fun h₃ hn₃ hs₃=>?_) (by rw [hk]; rfl)
 have hs₃:Heap.SameBut L h₂ h₃:=hlo ▸ hs₃
 have F₃:=F₂.set (hlo ▸ hn₃) hs₃
 have N₃:=N₂.set hs₃
 obtain ⟨oL',es,ep,hoL',hdL',_⟩:=F₃.ns
 exact k h₃ g₂ _ oe vs T₂ F₃ N₃ hc hd h2' ne ⟨B,t,b1,b2,up2_but U₂ hBL hs₃ hoL hnL hoL' fun vs q=>by rw [hdL'] at q; cases q⟩) ((w,A,E,s,g,L),(C,e,fI,env,outer,m),(news,K,x,n,np,pos),(b₀,suite,rest,Q))
end
noncomputable abbrev Sr:=(Addr→Ms)×List (Str×Str)
section
variable {w:World} {A:Around} {E:Vp} {s:Shared} {g:Heap} {L D:Addr} {x:Str} {env:Env} {m₀:Sm} {items:Array Value} {c:Nat} {body:List Stmt} {pos:Pos}
 {lg:Addr} {μs ml:List Mg} {σr:Sr} {rest named:Rest} {eff:Mg→Sr→Sr} {Q:Fp}
set_option genSizeOf false in
set_option genInjectivity false in
inductive KOk (kept:List (Addr×Obj)) (w:World) (s:Shared) (g:Heap) (L D:Addr) (x:Str) (m₀:Sm) (items:Array Value) (c:Nat) (lg:Addr) (μs:List Mg) (named:Rest) (eff:Mg→(Addr→Ms)×List (Str×Str)→(Addr→Ms)×List (Str×Str)) (it:Addr) (oi:Obj) (st:(Addr→Ms)×List (Str×Str)) (μ:Mg) (fl:Flow) (s₃:Shared):Prop where
 | mk (f1:fl=.next) (h':Heap) (tk':Nat) (rest':Rest) (f2:s₃={ s with heap:=h',toks:=tk' }) (f3:Wd kept w lg μs (eff μ st).1 (eff μ st).2 rest') (f4:(∀ p∈(it,oi)::(D,listOf items c)::named,p.1∉rest'.map (·.1))) (f5:Fr g L h' (fun y=>if y=x then some (.ref μ.M) else m₀ y)) (f6:News g L h' (((it,oi)::(D,listOf items c)::named)++rest')):KOk kept w s g L D x m₀ items c lg μs named eff it oi st μ fl s₃
set_option genSizeOf false in
set_option genInjectivity false in
inductive KJ (kept:List (Addr×Obj)) (w:World) (D:Addr) (items:Array Value) (c:Nat) (lg:Addr) (μs ml:List Mg) (named:Rest) (eff:Mg→(Addr→Ms)×List (Str×Str)→(Addr→Ms)×List (Str×Str)) (σr:(Addr→Ms)×List (Str×Str)) (i:Nat) (nw:Rest):Prop where
 | mk (rest:Rest) (st:(Addr→Ms)×List (Str×Str)) (f1:nw=named++rest) (f2:Wd kept w lg μs st.1 st.2 rest) (f3:(∀ p∈(D,listOf items c)::named,p.1∉rest.map (·.1))) (f4:(ml.drop i).foldl (fun st μ=>eff μ st) st=ml.foldl (fun st μ=>eff μ st) σr) (f5:st.2.length+(ml.length - i)<900):KJ kept w D items c lg μs ml named eff σr i nw
abbrev Z0wP (kept:List (Addr×Obj)) (w:World) (A:Around) (E:Vp) (s:Shared) (g:Heap) (L D:Addr) (x:Str) (env:Env) (m₀:Sm) (items:Array Value) (c:Nat) (body:List Stmt) (pos:Pos) (lg:Addr) (μs ml:List Mg) (σr:Sr) (rest named:Rest) (eff:Mg→Sr→Sr) (Q:Fp):Prop:=∀ (hk:env.scope.kind=.function) (hlo:env.locals=L) (hx:env.kindOf x=some .local) (hH:HandIn A named) (F:Fr g L s.heap m₀) (N:News g L s.heap (((D,listOf items c)::named)++rest)) (hnD:∀ p∈named++rest,p.1≠D) (W:Wd kept w lg μs σr.1 σr.2 rest) (hdis:∀ p∈(D,listOf items c)::named,p.1∉rest.map (·.1)) (hi:items.toList=ml.map fun μ=>.ref μ.M) (hml:∀ μ∈ml,μ∈μs) (hz:σr.2.length+ml.length<900) (hlen:∀ μ st,(eff μ st).2.length ≤ st.2.length+1) (turn:∀ (i:Nat) (μ:Mg) (it:Addr) (oi:Obj) (rest:Rest) (st:Sr) (h:Heap) (tk:Nat),ml[i]?=some μ→μ∈μs→Wd kept w lg μs st.1 st.2 rest→(∀ p∈(it,oi)::(D,listOf items c)::named,p.1∉rest.map (·.1))→st.2.length<900 →
   (∀ p∈(D,listOf items c)::named,p.1≠it)→(∀ p∈named,p.1≠D) →
   Fr g L h (fun y=>if y=x then some (.ref μ.M) else m₀ y)→News g L h (((it,oi)::(D,listOf items c)::named)++rest) →
   wpAny (model P2 w) A (execs body env)
    (fun fl s₃=>Opq (KOk kept w s g L D x m₀ items c lg μs named eff it oi st μ fl s₃))
    (fun _ _=>False) { s with heap:=h,toks:=tk }) (ok:∀ h' tk' rest' rv,Wd kept w lg μs (ml.foldl (fun st μ=>eff μ st) σr).1 (ml.foldl (fun st μ=>eff μ st) σr).2 rest'→(∀ p∈(D,listOf items c)::named,p.1∉rest'.map (·.1)) →
   Fr g L h' (fun y=>if y=x then rv else m₀ y)→News g L h' (((D,listOf items c)::named)++rest')→Q .next { s with heap:=h',toks:=tk' }),wpAny (model P2 w) A (pyIter (.ref D)) (fun it s₂=>codeAny (model P2 w) A (.forLoop (.Name x pos) it body [] env) (fun r s'=>match r with|.ok f=>Q f s'|.error e=>cameBackBy (model P2 w) A env E e s') s₂) E s
abbrev Z0wcq:=U fun a=>U fun b=>U fun c d=>T5 (T6 (T6 (T6 Z0wP a) b) c) d
def Z0wc:=eps Z0wcq ⟨inferInstance⟩
theorem loop_k {kept:List (Addr×Obj)} {w:World} {A:Around} {E:Vp} {s:Shared} {g:Heap} {L D:Addr} {x:Str} {env:Env} {m₀:Sm} {items:Array Value} {c:Nat} {body:List Stmt} {pos:Pos} {lg:Addr} {μs ml:List Mg} {σr:Sr} {rest named:Rest} {eff:Mg→Sr→Sr} {Q:Fp}:Z0wP kept w A E s g L D x env m₀ items c body pos lg μs ml σr rest named eff Q:=eps0 Z0wcq Z0wc rfl (by
 show Z0wP Z0wc.1.1 Z0wc.1.2.1 Z0wc.1.2.2.1 Z0wc.1.2.2.2.1 Z0wc.1.2.2.2.2.1 Z0wc.1.2.2.2.2.2 Z0wc.2.1.1 Z0wc.2.1.2.1 Z0wc.2.1.2.2.1 Z0wc.2.1.2.2.2.1 Z0wc.2.1.2.2.2.2.1 Z0wc.2.1.2.2.2.2.2 Z0wc.2.2.1.1 Z0wc.2.2.1.2.1 Z0wc.2.2.1.2.2.1 Z0wc.2.2.1.2.2.2.1 Z0wc.2.2.1.2.2.2.2.1 Z0wc.2.2.1.2.2.2.2.2 Z0wc.2.2.2.1 Z0wc.2.2.2.2.1 Z0wc.2.2.2.2.2.1 Z0wc.2.2.2.2.2.2.1 Z0wc.2.2.2.2.2.2.2
 generalize Z0wc.1.1=kept,Z0wc.1.2.1=w,Z0wc.1.2.2.1=A,Z0wc.1.2.2.2.1=E,Z0wc.1.2.2.2.2.1=s,Z0wc.1.2.2.2.2.2=g,Z0wc.2.1.1=L,Z0wc.2.1.2.1=D,Z0wc.2.1.2.2.1=x,Z0wc.2.1.2.2.2.1=env,Z0wc.2.1.2.2.2.2.1=m₀,Z0wc.2.1.2.2.2.2.2=items,Z0wc.2.2.1.1=c,Z0wc.2.2.1.2.1=body,Z0wc.2.2.1.2.2.1=pos,Z0wc.2.2.1.2.2.2.1=lg,Z0wc.2.2.1.2.2.2.2.1=μs,Z0wc.2.2.1.2.2.2.2.2=ml,Z0wc.2.2.2.1=σr,Z0wc.2.2.2.2.1=rest,Z0wc.2.2.2.2.2.1=named,Z0wc.2.2.2.2.2.2.1=eff,Z0wc.2.2.2.2.2.2.2=Q
 intro hk hlo hx hH F N hnD W hdis hi hml hz hlen turn ok
 have cD:=N _ (.head _)
 refine wpAny_pyIter_list (items:=items) ⟨_,cD.1,rfl,_,rfl⟩ ?_
 have F1:=F.push { cls:=.type "list_iterator",data:=.fields #[.ref D,.int 0 0] }
 have N1:=N.push F { cls:=.type "list_iterator",data:=.fields #[.ref D,.int 0 0] }
 have hit:∀ p∈((D,listOf items c)::named)++rest,p.1≠s.heap.objs.size:=fun p hp=>Nat.ne_of_lt (Heap.lt_size (N p hp).1)
 have nit':∀ p∈(D,listOf items c)::named,p.1≠s.heap.objs.size:=fun p hp=>hit p (by
  rcases List.mem_cons.mp hp with rfl|hp
  ·exact .head _
  ·exact .tail _ (List.mem_append_left _ hp))
 refine for_list (J:=fun i nw=>KJ kept w D items c lg μs ml named eff σr i nw)
  (rv₀:=m₀ x) (nw₀:=named++rest) hk hlo hx ?hand ?turn ?done ⟨rfl,rfl⟩ ⟨rest,σr,rfl,W,hdis,rfl,by omega⟩ (fun p hp=>hit p (.tail _ hp)) (fr_same F1 fun y=>by
   by_cases h:y=x
   ·rw [if_pos h,h]
   ·rw [if_neg h]) N1
 case hand=>
  rintro i _ ⟨rest,st,rfl,_⟩
  rcases hH with H|⟨e,oe,vs,H,hm,r⟩
  ·exact .inl H
  ·exact .inr ⟨e,oe,vs,H,List.mem_append_left _ hm,r⟩
 case done=>
  rintro _ h tk rv ⟨rest,st,rfl,W,hdis,hph,_⟩ F N
  have hsz:items.size=ml.length:=by rw [←Array.length_toList,hi,List.length_map]
  rw [hsz,List.drop_length] at hph
  have hph:st=ml.foldl (fun st μ=>eff μ st) σr:=hph
  exact ok h tk rest rv (hph ▸ W) hdis F N
 case turn=>
  rintro i v _ h tk oi hoi hv ⟨rest,st,rfl,W,hdis,hph,hzi⟩ nit F N
  have hv':(ml.map fun μ=>Value.ref μ.M)[i]?=some v:=by rw [←hi,Array.getElem?_toList]; exact hv
  rw [List.getElem?_map] at hv'
  obtain ⟨μ,hμ,rfl⟩:=Option.map_eq_some_iff.mp hv'
  have hμs:=hml μ (List.mem_of_getElem? hμ)
  have hlt:i<ml.length:=(List.getElem?_eq_some_iff.mp hμ).1
  have hd:ml.drop i=μ::ml.drop (i+1):=by
   rw [List.drop_eq_getElem_cons hlt]
   congr 1
   exact (List.getElem?_eq_some_iff.mp hμ).2
  have ndis:∀ p∈(s.heap.objs.size,oi)::(D,listOf items c)::named,p.1∉rest.map (·.1):=fun p hp=>by
   rcases List.mem_cons.mp hp with rfl|hp
   ·intro hm
    obtain ⟨q,hq,e⟩:=List.mem_map.mp hm
    exact nit q (List.mem_append_right _ hq) e
   ·exact hdis p hp
  refine wpAny_mono (turn i μ s.heap.objs.size oi rest st h tk hμ hμs W ndis (by omega) nit' (fun p hp=>hnD p (List.mem_append_left _ hp)) F N) (fun fl s₃ q=>?_) fun _ _ q=>q.elim
  obtain ⟨rfl,h',tk',rest',rfl,W',dis',F',N'⟩:=q.out
  refine .inl ⟨rfl,h',tk',named++rest',some (.ref μ.M),rfl,⟨rest',eff μ st,rfl,W',fun p hp=>dis' p (.tail _ hp),?_,?_⟩,fun p hp=>?_,F',N'⟩
  ·rw [←hph,hd]; rfl
  ·exact room_step ‹st.2.length+(ml.length - i)<900› ‹i<ml.length› (hlen μ st)
  ·rcases List.mem_append.mp hp with hp|hp
   ·exact nit' p (.tail _ hp)
   ·intro e
    exact dis' _ (.head _) (e ▸ List.mem_map_of_mem (f:=(·.1)) hp)) ((kept,w,A,E,s,g),(L,D,x,env,m₀,items),(c,body,pos,lg,μs,ml),(σr,rest,named,eff,Q))
end
abbrev Z10P (pq:Program) (w:World) (A:Around) (s:Shared) (B:Heap) (M vt:Addr) (vits:Array Value) (kv:Nat) (R:Rp) (loose:List Str) (mg mb:Sm) (voted:List Mg) (e:Addr) (oe:Obj) (vs:Array Value):Prop:=∀ (XB:(hd.heap_1 w.params).In B) (TB:TopRead pq loose mg mb B) (hB:B.StaysIn s.heap) (hroom:A.depth+12<recursionLimit) (hvt:s.heap.get? vt=some (listOf vits kv)) (fvt:B.get? vt=none) (he:s.heap.get? e=some oe) (fe:B.get? e=none) (hd:oe.data=.fields vs) (h2:vs[2]?=some .none) (hA:A.handled=some (.ref e)) (hv:vits.toList=voted.map fun μ=>.ref μ.M) (hMo:M≠e∧M≠vt∧∃ C d,s.heap.get? M=some (instObj C d)) (hvo:∀ ν∈voted,ν.M≠e∧ν.M≠vt∧∃ C d,s.heap.get? ν.M=some (instObj C d)) (h:∀ h' tk',Mod [] s.heap h'→R (.ok (.ret (.bool (decide (M∈voted.map (·.M)))))) { s with heap:=h',toks:=tk' }),codeAny (model P2 w) A (.call (.ref 519) ⟨[.ref vt,.ref M],[]⟩) R s
abbrev Z10cq:=U fun a=>U fun b c=>T5 (T6 (T6 Z10P a) b) c
def Z10c:=eps Z10cq ⟨inferInstance⟩
def Z10.pq:=Z10c.1.1
def Z10.w:=Z10c.1.2.1
def Z10.A:=Z10c.1.2.2.1
def Z10.s:=Z10c.1.2.2.2.1
def Z10.B:=Z10c.1.2.2.2.2.1
def Z10.M:=Z10c.1.2.2.2.2.2
def Z10.vt:=Z10c.2.1.1
def Z10.vits:=Z10c.2.1.2.1
def Z10.kv:=Z10c.2.1.2.2.1
def Z10.R:=Z10c.2.1.2.2.2.1
def Z10.loose:=Z10c.2.1.2.2.2.2.1
def Z10.mg:=Z10c.2.1.2.2.2.2.2
def Z10.mb:=Z10c.2.2.1
def Z10.voted:=Z10c.2.2.2.1
def Z10.e:=Z10c.2.2.2.2.1
def Z10.oe:=Z10c.2.2.2.2.2.1
def Z10.vs:=Z10c.2.2.2.2.2.2
open Z10 in
noncomputable def Z10b:PSigma fun P:(Heap)→(Addr)→(Heap)→Prop=>(∀ g L' h₁,P g L' h₁)→Z10P Z10.pq Z10.w Z10.A Z10.s Z10.B Z10.M Z10.vt Z10.vits Z10.kv Z10.R Z10.loose Z10.mg Z10.mb Z10.voted Z10.e Z10.oe Z10.vs:=by
 apply PSigma.mk
 case snd=>
 intro hP
 intro XB TB hB hroom hvt fvt he fe hd h2 hA hv hMo hvo h
 k_dflt (refine' enter (Λ:=[(e,oe),(vt,listOf vits kv)]) XB TB hB ?k1 ?k2 (by k_is) (by k_is) (by k_room) (BindsTo.of_eq rfl) (locs rfl) ?_ rfl rfl rfl (by decide))
 (case k1=>simp only [List.forall_mem_cons]; exact ⟨he,hvt,fun p hp=>nomatch hp⟩)
 (case k2=>simp only [List.forall_mem_cons]; exact ⟨fe,fvt,fun p hp=>nomatch hp⟩)
 intro g L' h₁
 revert XB TB hB hroom hvt fvt he fe hd h2 hA hv hMo hvo h
 exact hP g L' h₁
abbrev Z10dq:=T3 Z10b.1
def Z10d:=eps Z10dq ⟨inferInstance⟩
def Z10.g:=Z10d.1
def Z10.L':=Z10d.2.1
def Z10.h₁:=Z10d.2.2
open Z10 in
theorem Z10m:Z10b.1 Z10.g Z10.L' Z10.h₁:=by
 intro XB TB hB hroom hvt fvt he fe hd h2 hA hv hMo hvo h
 intro hg l1 KX TX F N
 k_lt l1
 dsimp only
 refine wpAny_execs_cons ?_
 refine wpAny_For ?_
 k_steps
 refine wpAny_pyIter_list (items:=vits) ⟨_,(N _ eM1).1,rfl,_,rfl⟩ ?_
 have F1:=F.push { cls:=.type "list_iterator",data:=.fields #[.ref vt,.int 0 0] }
 have N1:=N.push F { cls:=.type "list_iterator",data:=.fields #[.ref vt,.int 0 0] }
 have hit:∀ p∈[(e,oe),(vt,listOf vits kv)],p.1≠h₁.objs.size:=fun p hp=>Nat.ne_of_lt (Heap.lt_size (N p hp).1)
 obtain ⟨m₀,F2⟩:∃ m₀:Sm,Fr g L' _ (fun y=>if y=Str.ofString "one" then none else if y=Str.ofString "rm" then some (.ref M) else m₀ y):=⟨_,fr_same F1 fun y=>(by
  by_cases c:y=Str.ofString "one"
  ·subst c; rfl
  ·rw [if_neg c]
   by_cases c2:y=Str.ofString "rm"
   ·subst c2; rfl
   ·rw [if_neg c2])⟩
 have hvs:∀ {i:Nat} {v:Value},vits[i]?=some v→∃ ν,voted[i]?=some ν∧v=.ref ν.M:=fun {i v} hvi=>by
  have hv':(voted.map fun μ=>Value.ref μ.M)[i]?=some v:=by rw [←hv,Array.getElem?_toList]; exact hvi
  rw [List.getElem?_map] at hv'
  obtain ⟨μ,hμ,rfl⟩:=Option.map_eq_some_iff.mp hv'
  exact ⟨μ,hμ,rfl⟩
 have hsz:vits.size=voted.length:=by rw [←Array.length_toList,hv,List.length_map]
 refine for_list (x:=Str.ofString "one") (m₀:=fun y=>if y=Str.ofString "rm" then some (.ref M) else m₀ y) (J:=fun i nw=>nw=[(e,oe)]∧∀ j ν,j<i→voted[j]?=some ν→ν.M≠M) (rv₀:=none) (nw₀:=[(e,oe)]) (items:=vits) (kl:=kv) (l:=vt) (oi₀:={ cls:=.type "list_iterator",data:=.fields #[.ref vt,.int 0 0] }) rfl rfl rfl ?hand ?turn ?done ⟨rfl,rfl⟩
  ⟨rfl,fun j _ hj=>absurd hj (Nat.not_lt_zero j)⟩ (fun p hp=>hit p (by rw [List.mem_singleton.mp hp]; exact .head _)) F2 (fun p hp=>?_)
 case hand=>
  rintro i _ ⟨rfl,_⟩
  exact .inr ⟨e,oe,vs,hA,.head _,hd,h2⟩
 case done=>
  rintro _ h₂ tk₂ rv ⟨rfl,hno⟩ F₃ N₃
  k_steps
  have hno':decide (M∈voted.map (·.M))=false:=decide_eq_false fun hm=>by
   obtain ⟨ν,hν,q⟩:=List.mem_map.mp hm
   obtain ⟨j,hj,q'⟩:=List.getElem_of_mem hν
   exact hno j ν (hsz ▸ hj) (by rw [List.getElem?_eq_getElem hj,q']) q
  rw [hno'] at h
  exact h h₂ _ (mod_of hg F₃ N₃ (ns_cons (fun _ o q=>by rw [he] at q; cases q; exact eM1) (ns_cons (fun _ o q=>by rw [hvt] at q; cases q; exact .head _) ns_nil)))
 case turn=>
  rintro i v _ h₂ tk₂ oi hoi hvi ⟨rfl,hno⟩ nit F₃ N₃
  obtain ⟨ν,hν,rfl⟩:=hvs hvi
  have hνm:=List.mem_of_getElem? hν
  have kept:∀ {a:Addr} {C d:Addr},a≠e→a≠vt→s.heap.get? a=some (instObj C d)→h₂.get? a=some (instObj C d):=fun {a C d} n1 n2 q=>F₃.keep _ _ (by
   rw [hg]
   refine hideAll_get _ q fun hm=>?_
   simp only [List.map_cons,List.map_nil,List.mem_cons,List.not_mem_nil,or_false] at hm
   exact hm.elim n1 n2)
  have modT:=mod_of (as:=[]) hg F₃ N₃ (ns_cons (fun _ o q=>by rw [he] at q; cases q; exact eM2) (ns_cons (fun _ o q=>by rw [hvt] at q; cases q; exact eM1) ns_nil))
  k_steps
  obtain ⟨m1,m2,Cm,dm,hm⟩:=hMo
  obtain ⟨v1,v2,Cv,dv,hv'⟩:=hvo ν hνm
  by_cases heq:ν.M=M
  ·have hyes:decide (M∈voted.map (·.M))=true:=decide_eq_true (heq ▸ List.mem_map_of_mem (f:=(·.M)) hνm)
   rw [hyes] at h
   rw [heq]
   refine wpAny_is_ref_self ?_
   k_steps
   exact .inr ⟨_,rfl,h h₂ _ modT⟩
  ·refine wpAny_is_ref_other heq (kept v1 v2 hv') (kept m1 m2 hm) (fun q=>nomatch q) ?_
   k_steps
   exact .inl ⟨rfl,h₂,_,_,some (.ref ν.M),rfl,⟨rfl,fun j ν' hj hν'=>(Nat.lt_or_eq_of_le (Nat.le_of_lt_succ hj)).elim (fun hj=>hno j ν' hj hν') fun q=>by
    subst q
    rw [hν] at hν'
    cases hν'
    exact heq⟩,nit,F₃,N₃⟩
 ·rcases List.mem_cons.mp hp with rfl|hp
  ·exact N1 _ (.head _)
  ·rcases List.mem_cons.mp hp with rfl|hp
   ·exact N1 _ eM2
   ·rw [List.mem_singleton.mp hp]; exact N1 _ eM1
theorem holds_ {w:World} {A:Around} {s:Shared} {B:Heap} {M vt:Addr} {vits:Array Value} {kv:Nat} {R:Rp} {loose:List Str} {mg mb:Sm} {voted:List Mg} {e:Addr} {oe:Obj} {vs:Array Value}:Z10P pq w A s B M vt vits kv R loose mg mb voted e oe vs:=eps0 Z10cq Z10c rfl (by with_unfolding_all exact Z10b.2 (fun g L' h₁=>eps0 Z10dq Z10d rfl (by with_unfolding_all exact Z10m) (g,L',h₁))) ((pq,w,A,s,B,M),(vt,vits,kv,R,loose,mg),(mb,voted,e,oe,vs))
theorem callWith_BK0 {M:Model} {A:Around} {E:Vp} {s:Shared} {env:Env} {pos:Pos} {id:String} {first:List Value} {Q:Vp} {kws:List Keyword} (hall:(backToKw pos (keywordEach kws env)).all (·.1.isSome)=true) (hn:(backToKw pos (keywordEach kws env)).any (·.1.isNone)=false)
  (h:wpAny M A (evalAll ((backToKw pos (keywordEach kws env)).map (·.2))) (fun ks s₂=>wpAny M A (call (.builtin id) (first++[]) (((backToKw pos (keywordEach kws env)).filterMap (·.1)).zip ks)) Q E s₂) E s) :
  wpAny M A (callWith pos (.builtin id) first (backTo pos (starEach [] env)) (backToKw pos (keywordEach kws env))) Q E s:=
 callWith_builtin_kwB rfl hn (evalArgs_kw2_nil hall h)
noncomputable abbrev scCR:Scope:={ kind:=.function,names:=[(Str.ofString "self",.cell),(Str.ofString "L",.local),(Str.ofString "rm",.local),(Str.ofString "v",.local),(Str.ofString "list",.globalImplicit),(Str.ofString "rm_key",.globalImplicit),(Str.ofString "Exception",.globalImplicit)],isGenerator:=false,isCoroutine:=false }
theorem nmem {rest:Rest} {a:Addr} (h:∀ q∈rest,q.1≠a):a∉rest.map (·.1):=fun hm=>by
 obtain ⟨q,hq,e⟩:=List.mem_map.mp hm
 exact h q hq e
theorem nms_nil {P:Addr×Obj→Prop}:∀ p∈([]:Rest),P p:=fun _ h=>nomatch h
theorem nms_cons {P:Addr×Obj→Prop} {a:Addr×Obj} {l:Rest} (h:P a) (r:∀ p∈l,P p):∀ p∈a::l,P p:=fun p hp=>by
 rcases List.mem_cons.mp hp with rfl|hp
 ·exact h
 ·exact r p hp
theorem add_mine {prog:Program} {w:World} {A:Around} {E:Vp} {s:Shared} {h₀:Heap} {L l b:Addr} {m:Sm} {news:Rest} {xs ys:Array Value} {n k:Nat} {Q:Vp} (F:Fr h₀ L s.heap m) (N:News h₀ L s.heap news) (hl:(l,listOf xs n)∈news) (hb:(b,listOf ys k)∈news)
  (hz:xs.size+ys.size ≤ sizeLine) (h:∀ l' h',Fr h₀ L h' m→News h₀ L h' ((l',listOf (xs++ys) 0)::news)→(∀ q∈news,q.1<l')→Q (.ref l') { s with heap:=h' }):wpAny (model prog w) A (binaryOp .Add (.ref l) (.ref b)) Q E s:=by
 refine add_lists (vs:=xs.toList) (ws:=ys.toList) F N ⟨_,(N _ hl).1,rfl,n,by simp⟩ ⟨_,(N _ hb).1,rfl,k,by simp⟩ (fun h' F' N'=>h _ h' F' (fun p hp=>?_) fun q hq=>Heap.lt_size (N q hq).1) (by simpa using hz)
 rcases List.mem_cons.mp hp with rfl|hp
 ·have:=N' _ (.head _)
  rw [show (xs.toList++ys.toList).toArray=xs++ys from by simp] at this
  exact this
 ·exact N' p (.tail _ hp)
structure Tx where
 X:Addr
 dx:Addr
 x:Mk
 rs:Addr
 W:Addr
 O:Addr
 ad:Addr
 vt:Addr
 ex:Addr
 b1:Addr
 b2:Addr
 b3:Addr
 b4:Addr
deriving Nonempty
noncomputable abbrev txEs (x:Mk) (st:Str) (ts:Tok) (rs W O ad vt ex:Addr) (ftb:Value) (b1 b2 b3 b4:Addr):List DictEntry:=
 [⟨x.h 0,.str "status" (x.t 0),.str st ts⟩,⟨x.h 1,.str "_resources" (x.t 1),.ref rs⟩,⟨x.h 2,.str "_synchronizers" (x.t 2),.ref W⟩,⟨x.h 3,.str "_manager" (x.t 3),.ref O⟩,
  ⟨x.h 4,.str "_adapters" (x.t 4),.ref ad⟩,⟨x.h 5,.str "_voted" (x.t 5),.ref vt⟩,⟨x.h 6,.str "extension" (x.t 6),.ref ex⟩,⟨x.h 7,.str "_failure_traceback" (x.t 7),ftb⟩,
  ⟨x.h 8,.str "_before_commit" (x.t 8),.ref b1⟩,⟨x.h 9,.str "_after_commit" (x.t 9),.ref b2⟩,⟨x.h 10,.str "_before_abort" (x.t 10),.ref b3⟩,⟨x.h 11,.str "_after_abort" (x.t 11),.ref b4⟩]
noncomputable def effA (voted:List Mg) (μ:Mg) (st:Sr):Sr:=if μ.M∈voted.map (·.M) then st else (upd st.1 μ.M (fA (st.1 μ.M)),st.2++[(Str.ofString "abort",μ.who)])
noncomputable def effT (μ:Mg) (st:Sr):Sr:=(upd st.1 μ.M (fA (st.1 μ.M)),st.2++[(Str.ofString "tpc_abort",μ.who)])
abbrev Z0jP (pq:Program) (kept:List (Addr×Obj)) (w:World) (A:Around) (s:Shared) (B:Heap) (X dx rs W O ad vt ex b1 b2 b3 b4 D:Addr) (x:Mk) (st:Str) (ts:Tok) (items vits:Array Value) (c kv:Nat) (ftb:Value) (R:Rp) (loose:List Str) (mg mb:Sm) (rest:Rest) (outer:List Env) (lg:Addr) (μs ml voted:List Mg) (σ:Addr→Ms) (rows:List (Str×Str)) (e:Addr) (oe:Obj) (vs:Array Value):Prop:=∀ (XB:(hd.heap_1 w.params).In B) (TB:TopRead pq loose mg mb B) (hB:B.StaysIn s.heap) (hroom:A.depth+40<recursionLimit) (hX:s.heap.get? X=some (instObj 501 dx)) (hdx:s.heap.get? dx=some (dictOf (txEs x st ts rs W O ad vt ex ftb b1 b2 b3 b4) 12)) (hvt:s.heap.get? vt=some (listOf vits kv)) (hD:s.heap.get? D=some (listOf items c)) (he:s.heap.get? e=some oe) (hde:oe.data=.fields vs) (h2e:vs[2]?=some .none) (hh:A.handled=some (.ref e)) (hrest:∀ p∈rest,s.heap.get? p.1=some p.2) (fX:B.get? X=none) (fdx:B.get? dx=none) (fvt:B.get? vt=none) (fD:B.get? D=none) (fe:B.get? e=none) (frest:∀ p∈rest,B.get? p.1=none) (WD:Wd kept w lg μs σ rows rest) (hi:items.toList=ml.map fun μ=>.ref μ.M) (hv:vits.toList=voted.map fun μ=>.ref μ.M) (hm:∀ μ∈ml,μ∈μs) (hvm:∀ μ∈voted,μ∈μs) (hz:rows.length<100) (hl:ml.length ≤ 5) (hA:A.frames=some outer) (S:Stk outer s.heap (D::X::dx::vt::e::rest.map (·.1))) (hDs:∀ μ∈μs,fails (Str.ofString "abort") μ=none∧PySem.Spec.lookup (.str (Str.ofString "abort")) μ.D=none∧PySem.Spec.lookup (.str (Str.ofString "tpc_abort")) μ.D=none) (hdis:∀ p∈(D,listOf items c)::(X,instObj 501 dx)::(dx,dictOf (txEs x st ts rs W O ad vt ex ftb b1 b2 b3 b4) 12)::(vt,listOf vits kv)::(e,oe)::[],p.1∉rest.map (·.1)) (hnD:D≠X∧D≠dx∧D≠vt∧D≠e) (h:∀ h' tk' rest',Wd kept w lg μs (ml.foldl (fun st μ=>effT μ st) (ml.foldl (fun st μ=>effA voted μ st) (σ,rows))).1 (ml.foldl (fun st μ=>effT μ st) (ml.foldl (fun st μ=>effA voted μ st) (σ,rows))).2 rest'→(∀ p∈rest',h'.get? p.1=some p.2)→Mod (rest.map (·.1)) s.heap h' →
   (∀ p∈rest',p.1∈rest.map (·.1) ∨ s.heap.get? p.1=none)→(∀ p∈(D,listOf items c)::(X,instObj 501 dx)::(dx,dictOf (txEs x st ts rs W O ad vt ex ftb b1 b2 b3 b4) 12)::(vt,listOf vits kv)::(e,oe)::[],p.1∉rest'.map (·.1))→R (.ok (.ret .none)) { s with heap:=h',toks:=tk' }),codeAny (model P2 w) A (.call (.ref 434) ⟨[.ref X,.ref D],[]⟩) R s
abbrev Z0jcq:=U fun a=>U fun b=>U fun c=>U fun d=>U fun e=>U fun f g=>T6 (T6 (T6 (T6 (T6 (T6 (T6 Z0jP a) b) c) d) e) f) g
def Z0jc:=eps Z0jcq ⟨inferInstance⟩
def Z0j.pq:=Z0jc.1.1
def Z0j.kept:=Z0jc.1.2.1
def Z0j.w:=Z0jc.1.2.2.1
def Z0j.A:=Z0jc.1.2.2.2.1
def Z0j.s:=Z0jc.1.2.2.2.2.1
def Z0j.B:=Z0jc.1.2.2.2.2.2
def Z0j.X:=Z0jc.2.1.1
def Z0j.dx:=Z0jc.2.1.2.1
def Z0j.rs:=Z0jc.2.1.2.2.1
def Z0j.W:=Z0jc.2.1.2.2.2.1
def Z0j.O:=Z0jc.2.1.2.2.2.2.1
def Z0j.ad:=Z0jc.2.1.2.2.2.2.2
def Z0j.vt:=Z0jc.2.2.1.1
def Z0j.ex:=Z0jc.2.2.1.2.1
def Z0j.b1:=Z0jc.2.2.1.2.2.1
def Z0j.b2:=Z0jc.2.2.1.2.2.2.1
def Z0j.b3:=Z0jc.2.2.1.2.2.2.2.1
def Z0j.b4:=Z0jc.2.2.1.2.2.2.2.2
def Z0j.D:=Z0jc.2.2.2.1.1
def Z0j.x:=Z0jc.2.2.2.1.2.1
def Z0j.st:=Z0jc.2.2.2.1.2.2.1
def Z0j.ts:=Z0jc.2.2.2.1.2.2.2.1
def Z0j.items:=Z0jc.2.2.2.1.2.2.2.2.1
def Z0j.vits:=Z0jc.2.2.2.1.2.2.2.2.2
def Z0j.c:=Z0jc.2.2.2.2.1.1
def Z0j.kv:=Z0jc.2.2.2.2.1.2.1
def Z0j.ftb:=Z0jc.2.2.2.2.1.2.2.1
def Z0j.R:=Z0jc.2.2.2.2.1.2.2.2.1
def Z0j.loose:=Z0jc.2.2.2.2.1.2.2.2.2.1
def Z0j.mg:=Z0jc.2.2.2.2.1.2.2.2.2.2
def Z0j.mb:=Z0jc.2.2.2.2.2.1.1
def Z0j.rest:=Z0jc.2.2.2.2.2.1.2.1
def Z0j.outer:=Z0jc.2.2.2.2.2.1.2.2.1
def Z0j.lg:=Z0jc.2.2.2.2.2.1.2.2.2.1
def Z0j.μs:=Z0jc.2.2.2.2.2.1.2.2.2.2.1
def Z0j.ml:=Z0jc.2.2.2.2.2.1.2.2.2.2.2
def Z0j.voted:=Z0jc.2.2.2.2.2.2.1
def Z0j.σ:=Z0jc.2.2.2.2.2.2.2.1
def Z0j.rows:=Z0jc.2.2.2.2.2.2.2.2.1
def Z0j.e:=Z0jc.2.2.2.2.2.2.2.2.2.1
def Z0j.oe:=Z0jc.2.2.2.2.2.2.2.2.2.2.1
def Z0j.vs:=Z0jc.2.2.2.2.2.2.2.2.2.2.2
open Z0j in
noncomputable def Z0jb:PSigma fun P:(Heap)→(Addr)→(Heap)→Prop=>(∀ g L' h₁,P g L' h₁)→Z0jP Z0j.pq Z0j.kept Z0j.w Z0j.A Z0j.s Z0j.B Z0j.X Z0j.dx Z0j.rs Z0j.W Z0j.O Z0j.ad Z0j.vt Z0j.ex Z0j.b1 Z0j.b2 Z0j.b3 Z0j.b4 Z0j.D Z0j.x Z0j.st Z0j.ts Z0j.items Z0j.vits Z0j.c Z0j.kv Z0j.ftb Z0j.R Z0j.loose Z0j.mg Z0j.mb Z0j.rest Z0j.outer Z0j.lg Z0j.μs Z0j.ml Z0j.voted Z0j.σ Z0j.rows Z0j.e Z0j.oe Z0j.vs:=by
 apply PSigma.mk
 case snd=>
 intro hP
 intro XB TB hB hroom hX hdx hvt hD he hde h2e hh hrest fX fdx fvt fD fe frest WD hi hv hm hvm hz hl hA S hDs hdis hnD h
 k_dflt (refine' enter (Λ:=(D,listOf items c)::(X,instObj 501 dx)::(dx,dictOf (txEs x st ts rs W O ad vt ex ftb b1 b2 b3 b4) 12)::(vt,listOf vits kv)::(e,oe)::rest) XB TB hB ?k1 ?k2 (by k_is) (by k_is) (by k_room) (BindsTo.of_eq rfl) (locs rfl) ?_ rfl rfl rfl (by decide))
 (case k1=>simp only [List.forall_mem_cons]; exact ⟨hD,hX,hdx,hvt,he,hrest⟩)
 (case k2=>simp only [List.forall_mem_cons]; exact ⟨fD,fX,fdx,fvt,fe,frest⟩)
 intro g L' h₁
 revert XB TB hB hroom hX hdx hvt hD he hde h2e hh hrest fX fdx fvt fD fe frest WD hi hv hm hvm hz hl hA S hDs hdis hnD h
 exact hP g L' h₁
abbrev Z0jdq:=T3 Z0jb.1
def Z0jd:=eps Z0jdq ⟨inferInstance⟩
def Z0j.g:=Z0jd.1
def Z0j.L':=Z0jd.2.1
def Z0j.h₁:=Z0jd.2.2
open Z0j in
theorem Z0jm:Z0jb.1 Z0j.g Z0j.L' Z0j.h₁:=by
 intro XB TB hB hroom hX hdx hvt hD he hde h2e hh hrest fX fdx fvt fD fe frest WD hi hv hm hvm hz hl hA S hDs hdis hnD h
 intro hg l1 KX TX F N
 clear fX fdx fvt fD fe frest hB XB TB
 try k_lt l1
 try dsimp only
 refine wpAny_execs_cons ?_
 refine wpAny_For ?_
 k_steps
 obtain ⟨m₀,F₂⟩:∃ m₀:Sm,Fr g L' h₁ (fun y=>if y=Str.ofString "self" then some (.ref X) else if y=Str.ofString "L" then some (.ref D) else m₀ y):=⟨_,fr_same F fun y=>(by
  by_cases c:y=Str.ofString "self"
  ·subst c; rfl
  ·rw [if_neg c]
   by_cases c2:y=Str.ofString "L"
   ·subst c2; rfl
   ·rw [if_neg c2])⟩
 refine loop_k (eff:=effA voted) (σr:=(σ,rows)) (ml:=ml) (rest:=rest) (lg:=lg) (μs:=μs) (named:=(X,instObj 501 dx)::(dx,dictOf (txEs x st ts rs W O ad vt ex ftb b1 b2 b3 b4) 12)::(vt,listOf vits kv)::(e,oe)::[]) rfl rfl rfl
  (.inr ⟨e,oe,vs,hh,eM3,hde,h2e⟩) F₂ N ?hnD WD hdis hi hm (by show rows.length+_<900; omega) ?hlen ?turn ?ok
 case hnD=>
  intro p hp
  rcases List.mem_append.mp hp with hp|hp
  ·exact nms_cons (P:=fun p=>p.1≠D) hnD.1.symm (nms_cons hnD.2.1.symm (nms_cons hnD.2.2.1.symm (nms_cons hnD.2.2.2.symm nms_nil))) p hp
  ·exact fun q=>hdis _ (.head _) (q ▸ List.mem_map_of_mem (f:=(·.1)) hp)
 case hlen=>
  intro μ st
  unfold effA
  split
  ·omega
  ·simp
 case ok=>
  intro h₂ tk₂ rest₂ rv₂ W₂ dis₂ F₃ N₃
  simp only [List.cons_append,List.nil_append] at N₃
  clear F F₂ N
  refine wpAny_execs_cons ?_
  refine wpAny_For ?_
  k_steps
  have hlenA:∀ (l:List Mg) (st:Sr),(l.foldl (fun st μ=>effA voted μ st) st).2.length ≤ st.2.length+l.length:=fun l=>by
   induction l with
   | nil=>intro st; simp
   | cons μ l ih=>
    intro st
    have h1:=ih (effA voted μ st)
    have h2:(effA voted μ st).2.length ≤ st.2.length+1:=by
     unfold effA
     split
     ·omega
     ·simp
    simp only [List.foldl_cons,List.length_cons]
    omega
  refine loop_k (eff:=effT) (σr:=ml.foldl (fun st μ=>effA voted μ st) (σ,rows)) (ml:=ml) (rest:=rest₂) (lg:=lg) (μs:=μs) (named:=(X,instObj 501 dx)::(dx,dictOf (txEs x st ts rs W O ad vt ex ftb b1 b2 b3 b4) 12)::(vt,listOf vits kv)::(e,oe)::[]) rfl rfl rfl
   (.inr ⟨e,oe,vs,hh,eM3,hde,h2e⟩) F₃ N₃ ?hnD2 W₂ dis₂ hi hm ?hz2 ?hlen2 ?turn2 ?ok2
  case hnD2=>
   intro p hp
   rcases List.mem_append.mp hp with hp|hp
   ·exact nms_cons (P:=fun p=>p.1≠D) hnD.1.symm (nms_cons hnD.2.1.symm (nms_cons hnD.2.2.1.symm (nms_cons hnD.2.2.2.symm nms_nil))) p hp
   ·exact fun q=>dis₂ _ (.head _) (q ▸ List.mem_map_of_mem (f:=(·.1)) hp)
  case hz2=>
   have h1:=hlenA ml (σ,rows)
   have h2:((σ,rows):Sr).2.length=rows.length:=rfl
   omega
  case hlen2=>
   intro μ st
   unfold effT
   simp
  case ok2=>
   intro h₄ tk₄ rest₄ rv₄ W₄ dis₄ F₅ N₅
   clear F₃ N₃
   k_steps
   refine h h₄ _ rest₄ W₄ (fun p hp=>(N₅ p (List.mem_append_right _ hp)).1) (mod_of hg F₅ N₅ fun b hb nb o ho=>?_) (fun p hp=>?_) dis₄
   ·simp only [List.map_cons,List.mem_cons] at hb
    rcases hb with rfl|rfl|rfl|rfl|rfl|hb
    ·rw [hD] at ho; cases ho; exact .head _
    ·rw [hX] at ho; cases ho; exact eM1
    ·rw [hdx] at ho; cases ho; exact eM2
    ·rw [hvt] at ho; cases ho; exact eM3
    ·rw [he] at ho; cases ho; exact eM4
    ·exact (nb hb).elim
   ·have gf:=(N₅ p (List.mem_append_right _ hp)).2.2
    have hin:p.1∈rest₄.map (·.1):=List.mem_map_of_mem (f:=(·.1)) hp
    by_cases hb:p.1∈((D,listOf items c)::(X,instObj 501 dx)::(dx,dictOf (txEs x st ts rs W O ad vt ex ftb b1 b2 b3 b4) 12)::(vt,listOf vits kv)::(e,oe)::rest).map (·.1)
    ·simp only [List.map_cons,List.mem_cons] at hb
     rcases hb with q|q|q|q|q|hb
     ·exact (dis₄ _ (.head _) (q ▸ hin)).elim
     ·exact (dis₄ _ eM1 (q ▸ hin)).elim
     ·exact (dis₄ _ eM2 (q ▸ hin)).elim
     ·exact (dis₄ _ eM3 (q ▸ hin)).elim
     ·exact (dis₄ _ eM4 (q ▸ hin)).elim
     ·exact .inl hb
    ·exact .inr (fresh_of hg gf hb)
  case turn2=>
   intro i μ it oi rest₃ st₃ h₃ tk₃ hμ hμs W₃ dis₃ hz₃ nit nD₃ F₄ N₄
   have O₁:=W₃.mg μ hμs
   obtain ⟨t5,t6,rv,hd,_⟩:=O₁.dict
   have N₅:=news_cons (N₄ _ (List.mem_append_right _ O₁.inst)) (news_cons (N₄ _ (List.mem_append_right _ hd)) N₄)
   rcases O₁.cls with hC|hC
   all_goals
    rw [hC] at N₅
    simp only [List.cons_append,List.nil_append] at N₅
    clear F₃ N₃
    k_steps
    refine w_tpc_abort (named:=(it,oi)::(D,listOf items c)::(X,instObj 501 dx)::(dx,dictOf (txEs x st ts rs W O ad vt ex ftb b1 b2 b3 b4) 12)::(vt,listOf vits kv)::(e,oe)::[]) (Around.frames_deeper hA) S hg rfl rfl KX TX F₄ N₄ W₃ hμs dis₃ (by k_room) hz₃ (hDs μ hμs).2.2 ?_
    intro hn hb tkb restb Fb Nb Wb disb
    k_steps
    exact Opq.mk ⟨rfl,hb,_,restb,rfl,Wb,disb,Fb,Nb⟩
 case turn=>
  intro i μ it oi rest₃ st₃ h₃ tk₃ hμ hμs W₃ dis₃ hz₃ nit nD₃ F₄ N₄
  have O₁:=W₃.mg μ hμs
  obtain ⟨t5,t6,rv,hd,_⟩:=O₁.dict
  have N₅:=news_cons (N₄ _ (List.mem_append_right _ O₁.inst)) (news_cons (N₄ _ (List.mem_append_right _ hd)) N₄)
  have neOf:∀ ν∈μs,ν.M≠e∧ν.M≠vt∧∃ C d,h₃.get? ν.M=some (instObj C d):=fun ν hν=>by
   have O:=W₃.mg ν hν
   have hin:ν.M∈rest₃.map (·.1):=List.mem_map_of_mem (f:=(·.1)) O.inst
   exact ⟨fun q=>dis₃ (e,oe) eM5 (q ▸ hin),fun q=>dis₃ (vt,listOf vits kv) eM4 (q ▸ hin),_,_,(N₄ _ (List.mem_append_right _ O.inst)).1⟩
  have cvt:=N₄ (vt,listOf vits kv) eM4
  have ce:=N₄ (e,oe) eM5
  rcases O₁.cls with hC|hC
  all_goals
   rw [hC] at N₅
   simp only [List.cons_append,List.nil_append] at N₅
   clear F F₂ N
   k_steps
   refine wpAny_call (holds_ (B:=g) (voted:=voted) KX TX F₄.keep (by k_room) cvt.1 cvt.2.2 ce.1 ce.2.2 hde h2e hh hv (neOf μ hμs) (fun ν hν=>neOf ν (hvm ν hν)) fun h₅ tk₅ hm₅=>?_)
   have F₆:=fr_mod0 F₄ hm₅
   have N₆:=news_mod0 N₄ hm₅
   have N₇:=news_mod0 N₅ hm₅
   by_cases hin:μ.M∈voted.map (·.M)
   ·rw [decide_eq_true hin]
    clear F₄ N₄ N₅
    k_steps
    refine Opq.mk ⟨rfl,h₅,_,rest₃,rfl,?_,dis₃,F₆,N₆⟩
    unfold effA
    rw [if_pos hin]
    exact W₃
   ·rw [decide_eq_false hin]
    clear F₄ N₄ N₅
    k_steps
    refine w_abort (named:=(it,oi)::(D,listOf items c)::(X,instObj 501 dx)::(dx,dictOf (txEs x st ts rs W O ad vt ex ftb b1 b2 b3 b4) 12)::(vt,listOf vits kv)::(e,oe)::[]) (Around.frames_deeper hA) S hg rfl rfl KX TX F₆ N₆ W₃ hμs dis₃ (by k_room) hz₃ (hDs μ hμs).2.1 ?_
    intro hn hb tkb restb Fb Nb Wb disb
    k_steps
    refine Opq.mk ⟨rfl,hb,_,restb,rfl,?_,disb,Fb,Nb⟩
    unfold effA
    rw [if_neg hin]
    exact Wb
theorem cleanup_ {w:World} {A:Around} {s:Shared} {B:Heap} {X dx rs W O ad vt ex b1 b2 b3 b4 D:Addr} {x:Mk} {st:Str} {ts:Tok} {items vits:Array Value} {c kv:Nat} {ftb:Value} {R:Rp} {loose:List Str} {mg mb:Sm} {rest:Rest} {outer:List Env} {lg:Addr} {μs ml voted:List Mg} {σ:Addr→Ms} {rows:List (Str×Str)} {e:Addr} {oe:Obj} {vs:Array Value}:Z0jP pq kept w A s B X dx rs W O ad vt ex b1 b2 b3 b4 D x st ts items vits c kv ftb R loose mg mb rest outer lg μs ml voted σ rows e oe vs:=eps0 Z0jcq Z0jc rfl (by with_unfolding_all exact Z0jb.2 (fun g L' h₁=>eps0 Z0jdq Z0jd rfl (by with_unfolding_all exact Z0jm) (g,L',h₁))) ((pq,kept,w,A,s,B),(X,dx,rs,W,O,ad),(vt,ex,b1,b2,b3,b4),(D,x,st,ts,items,vits),(c,kv,ftb,R,loose,mg),(mb,rest,outer,lg,μs,ml),(voted,σ,rows,e,oe,vs))
set_option genSizeOf false in
set_option genInjectivity false in
inductive TabL:List Value→Prop
 | nil:TabL []
 | cons (a:Int) (t:Tok) (b:Int) (u:Tok) (c:Addr) (r:List Value):TabL r→TabL (.int a t::.int b u::.ref c::r)
theorem TabL.triples {l:List Value} (h:TabL l):TriplesOk l:=by
 induction h with
 | nil=>trivial
 | cons a t b u c r _ ih=>exact ih
theorem TabL.hit {pos:Pos} {l:List Value} {v:Value} (h:TabL l) (e:codeAmong pos l=some v):∃ c,v=.ref c:=by
 induction h with
 | nil=>cases e
 | cons a t b u c r _ ih=>
  unfold codeAmong at e
  split at e
  ·cases e; exact ⟨c,rfl⟩
  ·exact ih e
theorem TabL.snoc {a b:Int} {t u:Tok} {c:Addr} {l:List Value} (h:TabL l):TabL (l++[.int a t,.int b u,.ref c]):=by
 induction h with
 | nil=>exact .cons _ _ _ _ _ _ .nil
 | cons _ _ _ _ _ _ _ ih=>exact .cons _ _ _ _ _ _ ih
section
variable {M:Model} {A:Around} {E:Vp} {s:Shared} {h₀:Heap} {L a c P:Addr} {m mg mb:Sm} {cn:Str} {cs:Scope} {ccd:Value} {cl:List (Str×Addr)} {news:List (Addr×Obj)} {g:Obj→List (Addr×Obj)}
 {p:Program} {loose:List Str} {mean:ExcName→Option Value} {name qual:Str} {params:Arguments} {body:Expr} {scope:Scope} {ps:Array Value} {pos:Pos} {firstLine:Nat} {clos:List (Str×Addr)}
theorem lam_any {Q:Vp} (F:Fr h₀ L s.heap m) (N:News h₀ L s.heap news) (T:Top p loose mean mg mb h₀) (C:CodeHd h₀ c P) (hcd:ccd=.ref c) (U:UpdF P (tabObj ps) news g) (ht:TabL ps.toList)
  (hcl:closureFor scope (envX cn cs L a ccd cl)=pure clos)
  (h:∀ f h' tk ps',TabL ps'.toList→Fr h₀ L h' m→News h₀ L h' (g (tabObj ps'))→Q (.ref f) { s with heap:=h',toks:=tk }) :
  wpAny M A (makeFunction name qual params (.expr body) scope (envX cn cs L a ccd cl) [] [] [] pos firstLine) Q E s:=by
 cases hc:codeAmong pos ps.toList with
 | none=>
  refine kla_nest F N T C hcd U ht.triples hc hcl fun f c' oc vs t ctv h' tk F' N' _ _ _ _=>h f h' tk _ ?_ F' fun q hq=>N' q (eT2 hq)
  rw [Array.toList_append]
  exact TabL.snoc ht
 | some v=>
  obtain ⟨c',rfl⟩:=ht.hit hc
  obtain ⟨pre,post,e0,hg,x1,x2⟩:=U.split
  refine kla_hit F N T C hcd (by rw [e0]; exact List.mem_append_right _ (.head _)) ht.triples hc hcl fun f ctv h' tk F' N' _=>h f h' tk ps ht F' fun q hq=>N' q (.tail _ ?_)
  rw [hg] at hq
  rw [e0]; exact hq
end
theorem raiseNew_same {M:Model} {A:Around} {α:Type} {e:Addr} {s:Shared} {Q:α→Shared→Prop} {E:Vp} (hh:A.handled=some (.ref e)) (h:E (.ref e) s):wpAny M A (raiseNew (.ref e):Sem α) Q E s:=by
 unfold raiseNew
 refine wpAny_bind (wpAny_handled ?_)
 rw [hh]
 dsimp only
 rw [if_neg (by simp)]
 exact wpAny_bind (wpAny_pure (wpAny_throw h))
theorem raise_again {M:Model} {A:Around} {E:Vp} {s:Shared} {env:Env} {K:Frag} {C fI e:Addr} {x:Sem Value} {Q:Fp} {B:Heap} {l:List Env} {a0 v₀:Value} (hx:excInitIn K C fI=true) (hh:A.handled=some (.ref e))
  (h:wpAny M A x (fun v s₁=>v=.ref e∧K.In s₁.heap∧Up2 B l e (.ref C) a0 (some v₀) s₁.heap∧∀ h',Up2 B l e (.ref C) a0 (some .none) h'→s₁.heap.UpToSlots h'→E (.ref e) { s₁ with heap:=h' }) E s) :
  wpAny M A (raiseStmt env (some x) none) Q E s:=by
 unfold raiseStmt
 refine wpAny_bind (wpAny_mono h (fun v s₁ h₁=>?_) fun _ _ x=>x)
 obtain ⟨rfl,X,U,hE⟩:=h₁
 obtain ⟨cd,dd,kz,mN,hC,T,hn,hi⟩:=exc_init_of X hx
 have hcB:(Value.ref C::cd.mro.tail).contains (.type "BaseException")=true:=by rw [List.contains_cons,T.hasType (b:=true) (by decide),Bool.or_true]
 have U':=U
 obtain ⟨u1,u2,u3,oe,vs,he,hc,hd,h0,h2,T',oT,ts,h1,hbT,hTe,hT,hdT,h3⟩:=U'
 obtain ⟨oc,od,odt,osl⟩:=oe
 dsimp only at hc hd
 subst hc hd
 obtain ⟨hp,g,d,tk,os⟩:=s₁
 repeat (first|with_reducible refine wpAny_loadPart_at he ?_|with_reducible refine wpAny_loadPart_at hC ?_|(with_reducible refine wpAny_isSubtype_exc hC ?_; rw [hcB])|(with_reducible refine wpAny_bind (flight2 (fr:=none) U fun h' U₂ x₂=>?_))|wp_step)
 exact raiseNew_same hh (hE h' U₂ x₂)
theorem unbind_as {M:Model} {A:Around} {E:Vp} {s:Shared} {env:Env} {n:Str} {pos:Pos} {L:Addr} {m:Sm} {Q:Unit→Shared→Prop} (hk:env.scope.kind=.function) (hlo:env.locals=L) (hn:env.kindOf n=some .local) (hm:s.heap.Ns L m)
  (h:∀ h' tk u,h'.Ns L (fun y=>if y=n then u else m y)→Heap.SameBut L s.heap h'→Q () { s with heap:=h',toks:=tk }) :
  wpAny M A (do bindName env n .none; unbindBehindTheSuite env n pos) Q E s:=by
 have hp:(env.scope.kind == .class || (env.scope.kind == .module && env.locals != env.globals))=false:=by rw [hk]; rfl
 subst hlo
 refine wpAny_bind (wpAny_bindName (wpAny_storeName_local hn hm (fun h₁ n₁ s₁=>?_) hp))
 unfold unbindBehindTheSuite
 refine wpAny_onRaise (wpAny_mono (wpAny_unbindName_local (v:=.none) hn n₁ (if_pos rfl) hp fun h₂ u n₂ s₂=>?_) (fun _ _ q=>q) fun _ _ q=>wpAny_standAt q)
 refine h h₂ _ u ?_ (s₁.trans s₂)
 have e:(fun y=>if y=n then u else (if y=n then some Value.none else m y))=fun y=>if y=n then u else m y:=funext fun y=>by
  by_cases c:y=n
  ·rw [if_pos c,if_pos c]
  ·rw [if_neg c,if_neg c,if_neg c]
 rw [←e]; exact n₂
theorem as_tail {w:World} {A A':Around} {E:Vp} {E1 E2:Vp} {s:Shared} {env:Env} {outer:List Env} {n:Str} {pos:Pos} {L e:Addr} {m:Sm} {B:Heap} {cls a0:Value} (hA:A'.frames=some (env::outer)) (hfL:env.frame=some L) (hk:env.scope.kind=.function) (hlo:env.locals=L) (hn:env.kindOf n=some .local)
  (U:Up2 B (env::outer) e cls a0 (some .none) s.heap) (hm:s.heap.Ns L m)
  (h:∀ h' tk u,Up2 B (env::outer) e cls a0 (some (rawInt L)) h'→h'.Ns L (fun y=>if y=n then u else m y)→(∀ b o,b≠L→s.heap.get? b=some o→(∀ vs,o.data≠.fields vs)→∃ sl,h'.get? b=some { o with slots:=sl })→E (.ref e) { s with heap:=h',toks:=tk }) :
  wpAny (model P2 w) A' (noteFrame (.ref e) env) (fun _ s₃=>wpAny (model P2 w) A' (do bindName env n .none; unbindBehindTheSuite env n pos)
   (fun _ s₄=>wpAny (model P2 w) A' (PySem.passOn "try.except-as" (.ref e) env:Sem Flow) (fun _ _=>False) (notedBy (model P2 w) A' env (cameBackBy (model P2 w) A env E)) s₄) E1 s₃) E2 s:=by
 have hLf:L∈frs (env::outer):=List.mem_filterMap.mpr ⟨env,.head _,hfL⟩
 refine note2 hA hfL U (.inr rfl) fun h₁ U₁ x₁=>?_
 refine unbind_as hk hlo hn (x₁.ns hm) fun h₂ tk₂ u n₂ s₂=>?_
 obtain ⟨hBL,oL,hoL,hnL⟩:=U₁.frames.mem hLf
 obtain ⟨oL',es,ep,hoL',hdL',_⟩:=id n₂
 have U₂:=up2_but U₁ hBL s₂ hoL hnL hoL' fun vs q=>by rw [hdL'] at q; cases q
 have U₂':=U₂
 obtain ⟨u1,u2,u3,oe,vs,he,hc,hd,h0,h2,T,oT,ts,h1,hbT,hTe,hT,hdT,h3⟩:=U₂'
 unfold PySem.passOn
 refine wpAny_bind (wpAny_field he hd h1 ?_)
 rw [if_neg (show ¬ ((Value.ref T == Value.none)=true) from by simp)]
 refine wpAny_bind ?_
 rw [hfL]
 refine flight2 (fr:=some L) U₂ fun h₃ U₃ x₃=>wpAny_throw ?_
 refine again2 hfL U₃ (cameBack2 hfL U₃ fun h₄ U₄ x₄=>h h₄ _ u U₄ ((x₃.trans x₄).ns n₂) fun b o hb ho hno=>?_)
 obtain ⟨sl,hs⟩:=x₁ b o ho hno
 obtain ⟨sl',hs'⟩:=(x₃.trans x₄) b _ ((s₂.2 b hb).trans hs) hno
 exact ⟨sl',hs'⟩
theorem stk_of {A:Around} {B g:Heap} {outer:List Env} (K:Below A B outer g):Stk outer g []:=
 ⟨funFrames_to K.frames (fun _ _ o ho _=>⟨o,ho,rfl⟩) (fun _ _=>rfl),fun _ _ h=>nomatch h⟩
theorem below_of {A:Around} {B h g:Heap} {outer:List Env} {Λ:List Addr} (hA:A.frames=some outer) (S:Stk outer h Λ) (hg:g=hideAll h Λ) (hB:B.StaysIn g) (hBf:∀ b∈frs outer,B.get? b=none):Below A B outer g:=
 ⟨hA,hB,by
  rw [hg]
  exact funFrames_to S.1 (fun b hb o ho _=>⟨o,hideAll_get _ ho (S.2 b hb),rfl⟩) hBf⟩
theorem ite_self_of {m:Sm} (y:Str) {x:Str} {v:Option Value} (h:m x=v):m y=if y=x then v else m y:=by
 split
 ·subst y; exact h
 ·rfl
theorem for_empty {w:World} {A:Around} {E:Vp} {s:Shared} {g:Heap} {L D:Addr} {x:Str} {env:Env} {m:Sm} {c:Nat} {body:List Stmt} {pos:Pos} {nw:Rest} {Q:Fp}
  (hk:env.scope.kind=.function) (hlo:env.locals=L) (hx:env.kindOf x=some .local) (F:Fr g L s.heap m) (N:News g L s.heap ((D,listOf #[] c)::nw)) (hH:HandIn A nw)
  (done:∀ h' tk' rv,Fr g L h' (fun y=>if y=x then rv else m y)→News g L h' ((D,listOf #[] c)::nw)→Q .next { s with heap:=h',toks:=tk' }) :
  wpAny (model P2 w) A (pyIter (.ref D)) (fun it s₂=>codeAny (model P2 w) A (.forLoop (.Name x pos) it body [] env) (fun r s'=>match r with|.ok f=>Q f s'|.error e=>cameBackBy (model P2 w) A env E e s') s₂) E s:=by
 have cD:=N _ (.head _)
 refine wpAny_pyIter_list (items:=#[]) ⟨_,cD.1,rfl,_,rfl⟩ ?_
 have F2:=F.push { cls:=.type "list_iterator",data:=.fields #[.ref D,.int 0 0] }
 have N2:=N.push F { cls:=.type "list_iterator",data:=.fields #[.ref D,.int 0 0] }
 have hit:∀ p∈(D,listOf #[] c)::nw,p.1≠s.heap.objs.size:=fun p hp=>Nat.ne_of_lt (Heap.lt_size (N p hp).1)
 refine for_list (items:=#[]) (J:=fun i nw'=>nw'=nw) (rv₀:=m x) (m₀:=m) hk hlo hx (fun _ _ e=>e ▸ hH) (fun i v nw h tk oi _ hv=>by simp at hv) (fun nw' h tk rv e F₃ N₃=>?_) ⟨rfl,rfl⟩ rfl (fun p hp=>hit p (.tail _ hp)) (fr_same F2 fun y=>ite_self_of y rfl) N2
 subst e
 exact done h tk rv F₃ N₃
noncomputable abbrev wsDict (wh:Int) (wt:Tok) (dl:Addr):Obj:=dictOf [⟨wh,.str "data" wt,.ref dl⟩] 1
abbrev Z16P (pq:Program) (w:World) (A:Around) (s:Shared) (B:Heap) (W dW dl:Addr) (wh:Int) (wt:Tok) (kd:Nat) (f:Value) (ex:Rest) (R:Rp) (loose:List Str) (mg mb:Sm):Prop:=∀ (XB:(hd.heap_1 w.params).In B) (TB:TopRead pq loose mg mb B) (hB:B.StaysIn s.heap) (hroom:A.depth+8<recursionLimit) (hW:s.heap.get? W=some (instObj 153 dW)) (hdW:s.heap.get? dW=some (wsDict wh wt dl)) (hdl:s.heap.get? dl=some (listOf #[] kd)) (hex:∀ p∈ex,s.heap.get? p.1=some p.2) (fW:B.get? W=none) (fdW:B.get? dW=none) (fdl:B.get? dl=none) (fex:∀ p∈ex,B.get? p.1=none) (hH:HandIn A ex) (h:∀ h' tk',Mod [] s.heap h'→R (.ok (.ret .none)) { s with heap:=h',toks:=tk' }),codeAny (model P2 w) A (.call (.ref 150) ⟨[.ref W,f],[]⟩) R s
abbrev Z16cq:=U fun a=>U fun b c=>T5 (T6 (T6 Z16P a) b) c
def Z16c:=eps Z16cq ⟨inferInstance⟩
def Z16.pq:=Z16c.1.1
def Z16.w:=Z16c.1.2.1
def Z16.A:=Z16c.1.2.2.1
def Z16.s:=Z16c.1.2.2.2.1
def Z16.B:=Z16c.1.2.2.2.2.1
def Z16.W:=Z16c.1.2.2.2.2.2
def Z16.dW:=Z16c.2.1.1
def Z16.dl:=Z16c.2.1.2.1
def Z16.wh:=Z16c.2.1.2.2.1
def Z16.wt:=Z16c.2.1.2.2.2.1
def Z16.kd:=Z16c.2.1.2.2.2.2.1
def Z16.f:=Z16c.2.1.2.2.2.2.2
def Z16.ex:=Z16c.2.2.1
def Z16.R:=Z16c.2.2.2.1
def Z16.loose:=Z16c.2.2.2.2.1
def Z16.mg:=Z16c.2.2.2.2.2.1
def Z16.mb:=Z16c.2.2.2.2.2.2
open Z16 in
noncomputable def Z16b:PSigma fun P:(Heap)→(Addr)→(Heap)→Prop=>(∀ g L' h₁,P g L' h₁)→Z16P Z16.pq Z16.w Z16.A Z16.s Z16.B Z16.W Z16.dW Z16.dl Z16.wh Z16.wt Z16.kd Z16.f Z16.ex Z16.R Z16.loose Z16.mg Z16.mb:=by
 apply PSigma.mk
 case snd=>
 intro hP
 intro XB TB hB hroom hW hdW hdl hex fW fdW fdl fex hH h
 k_dflt (refine' enter (Λ:=(W,instObj 153 dW)::(dW,wsDict wh wt dl)::(dl,listOf #[] kd)::ex) XB TB hB ?k1 ?k2 (by k_is) (by k_is) (by k_room) (BindsTo.of_eq rfl) (locs rfl) ?_ rfl rfl rfl (by decide))
 (case k1=>simp only [List.forall_mem_cons]; exact ⟨hW,hdW,hdl,hex⟩)
 (case k2=>simp only [List.forall_mem_cons]; exact ⟨fW,fdW,fdl,fex⟩)
 intro g L' h₁
 revert XB TB hB hroom hW hdW hdl hex fW fdW fdl fex hH h
 exact hP g L' h₁
abbrev Z16dq:=T3 Z16b.1
def Z16d:=eps Z16dq ⟨inferInstance⟩
def Z16.g:=Z16d.1
def Z16.L':=Z16d.2.1
def Z16.h₁:=Z16d.2.2
open Z16 in
theorem Z16m:Z16b.1 Z16.g Z16.L' Z16.h₁:=by
 intro XB TB hB hroom hW hdW hdl hex fW fdW fdl fex hH h
 intro hg l1 KX TX F N
 have l1':=l1
 try k_lt l1
 dsimp only
 refine wpAny_execs_cons ?_
 refine wpAny_For ?_
 k_steps
 rename Fr _ _ _ _=>F₁
 rename News _ _ _ _=>N₁
 refine for_empty rfl rfl rfl F₁ N₁ ?hand fun h₂ tk₂ rv₂ F₃ N₃=>?done
 case hand=>
  rcases hH with H|⟨e,oe,vs,H,hm,hd⟩
  ·exact .inl H
  ·exact .inr ⟨e,oe,vs,H,eT3 hm,hd⟩
 case done=>
  k_steps
  refine h h₂ _ (mod_of hg F₃ N₃ fun b hb _ o ho=>?_)
  simp only [List.map_cons,List.mem_cons] at hb
  rcases hb with rfl|rfl|rfl|hb
  ·rw [hW] at ho; cases ho; exact eM1
  ·rw [hdW] at ho; cases ho; exact eM2
  ·rw [hdl] at ho; cases ho; exact eM3
  ·obtain ⟨p,hp,rfl⟩:=List.mem_map.mp hb
   rw [hex p hp] at ho; cases ho; exact eT4 hp
theorem wmap {w:World} {A:Around} {s:Shared} {B:Heap} {W dW dl:Addr} {wh:Int} {wt:Tok} {kd:Nat} {f:Value} {ex:Rest} {R:Rp} {loose:List Str} {mg mb:Sm}:Z16P pq w A s B W dW dl wh wt kd f ex R loose mg mb:=eps0 Z16cq Z16c rfl (by with_unfolding_all exact Z16b.2 (fun g L' h₁=>eps0 Z16dq Z16d rfl (by with_unfolding_all exact Z16m) (g,L',h₁))) ((pq,w,A,s,B,W),(dW,dl,wh,wt,kd,f),(ex,R,loose,mg,mb))
structure Box (p:Prop):Prop where
 out:p
noncomputable def PlanIs (μs:List Mg) (stp:Str) (kd:Int) (at_:Addr):Prop:=(kd=1 ∨ kd=2)∧∀ μ∈μs,∀ n:Str,PySem.Spec.lookup (.str n) μ.D=if n=stp∧μ.M=at_ then some (.int kd) else none
noncomputable def cleanSt (ml voted:List Mg) (st:Sr):Sr:=ml.foldl (fun st μ=>effT μ st) (ml.foldl (fun st μ=>effA voted μ st) st)
structure DoneH (Λ:List Addr) (named rest:Rest) (h h':Heap):Prop where
 mod:Mod Λ h h'
 get:∀ p∈named++rest,h'.get? p.1=some p.2
 from_:∀ p∈named++rest,p.1∈Λ ∨ h.get? p.1=none
 dis:∀ p∈named,p.1∉rest.map (·.1)
theorem phase_some {n:Str} {f:Ms→Ms} {k:Int} {ml:List Mg} {σ σ':Addr→Ms} {rows rows':List (Str×Str)} (h:phase n f ml σ rows=(σ',rows',some k)):∃ μ∈ml,fails n μ=some k:=by
 induction ml generalizing σ rows with
 | nil=>cases h
 | cons μ r ih=>
  cases hf:fails n μ with
  | some k'=>
   rw [phase_no hf] at h
   exact ⟨μ,.head _,hf.trans (congrArg (·.2.2) h)⟩
  | none=>
   rw [phase_ok hf] at h
   exact (ih h).imp fun _ q=>⟨.tail _ q.1,q.2⟩
noncomputable def four:List Str:=[Str.ofString "tpc_begin",Str.ofString "commit",Str.ofString "tpc_vote",Str.ofString "tpc_finish"]
theorem tryPart_some {ml:List Mg} {σ σ':Addr→Ms} {rows rows':List (Str×Str)} {k:Int} {voted:List Mg} (h:tryPart ml σ rows=((σ',rows',some k),voted)):∃ n∈four,∃ μ∈ml,fails n μ=some k:=
 tryPart_ind (Q:=fun x=>x=((σ',rows',some k),voted)→∃ n∈four,∃ μ∈ml,fails n μ=some k) (fun _ _ e h=>⟨_,.head _,phase_some (e.trans (congrArg Prod.fst h))⟩) (fun _ _ _ _ e h=>⟨_,eM1,phase_some (e.trans (congrArg Prod.fst h))⟩)
  (fun _ _ _ _ _ _ e h=>⟨_,eM2,phase_some (e.trans (congrArg Prod.fst h))⟩) (fun _ _ _ _ _ _ h=>⟨_,eM3,phase_some (congrArg Prod.fst h)⟩) h
theorem tryPart_voted {ml:List Mg} {σ:Addr→Ms} {rows:List (Str×Str)} {x:St} {voted:List Mg} (h:tryPart ml σ rows=(x,voted)):∀ μ∈voted,μ∈ml:=by
 have q:∀ μ∈(tryPart ml σ rows).2,μ∈ml:=tryPart_ind (Q:=fun x=>∀ μ∈x.2,μ∈ml) (fun _ _ _ _ h=>absurd h List.not_mem_nil) (fun _ _ _ _ _ _ h=>absurd h List.not_mem_nil) (fun _ _ _ _ _ _ _ _ hμ=>(List.takeWhile_sublist _).subset hμ) fun _ _ _ _ _ _ _ hμ=>hμ
 rw [h] at q
 exact q
theorem four_4 {a b c d e m:Nat} (h1:b ≤ a+m) (h2:c ≤ b+m) (h3:d ≤ c+m) (h4:e ≤ d+m):e ≤ a+4 * m:=by
 have e4:a+4 * m=a+m+m+m+m:=by
  rw [Nat.mul_comm]
  show a+(0+m+m+m+m)=_
  rw [Nat.zero_add,←Nat.add_assoc,←Nat.add_assoc,←Nat.add_assoc]
 exact e4 ▸ Nat.le_trans h4 (Nat.add_le_add_right (Nat.le_trans h3 (Nat.add_le_add_right (Nat.le_trans h2 (Nat.add_le_add_right h1 m)) m)) m)
theorem four_3 {a b c d m:Nat} (h1:b ≤ a+m) (h2:c ≤ b+m) (h3:d ≤ c+m):d ≤ a+4 * m:=four_4 h1 h2 h3 (Nat.le_add_right _ _)
theorem four_2 {a b c m:Nat} (h1:b ≤ a+m) (h2:c ≤ b+m):c ≤ a+4 * m:=four_3 h1 h2 (Nat.le_add_right _ _)
theorem four_1 {a b m:Nat} (h1:b ≤ a+m):b ≤ a+4 * m:=four_2 h1 (Nat.le_add_right _ _)
theorem tryPart_len {ml:List Mg} {σ σ':Addr→Ms} {rows rows':List (Str×Str)} {o:Option Int} {voted:List Mg} (h:tryPart ml σ rows=((σ',rows',o),voted)):rows'.length ≤ rows.length+4 * ml.length:=by
 have q:(tryPart ml σ rows).1.2.1.length ≤ rows.length+4 * ml.length:=tryPart_ind (Q:=fun x=>x.1.2.1.length ≤ rows.length+4 * ml.length) (fun _ _ e=>four_1 (phase_len e)) (fun _ _ _ e1 e2=>four_2 (phase_len e1) (phase_len e2)) (fun _ _ _ _ e1 e2 e3=>four_3 (phase_len e1) (phase_len e2) (phase_len e3))
  fun _ _ _ e1 e2 e3=>four_4 (phase_len e1) (phase_len e2) (phase_len e3) (phase_len rfl)
 rw [h] at q
 exact q
theorem PlanIs.fails {μs:List Mg} {stp:Str} {kd:Int} {at_:Addr} (h:PlanIs μs stp kd at_) {μ:Mg} (hμ:μ∈μs) (n:Str):Mine.fails n μ=if n=stp∧μ.M=at_ then some kd else none:=by
 unfold Mine.fails
 rw [h.2 μ hμ n]
 split<;>rename_i e<;>split at e<;>simp_all
theorem PlanIs.clean {μs ml:List Mg} {stp:Str} {kd k:Int} {at_:Addr} (h:PlanIs μs stp kd at_) {n:Str} (hn:n∈four) {μ:Mg} (hμ:μ∈μs) (hf:Mine.fails n μ=some k) :
  ∀ μ∈μs,Mine.fails (Str.ofString "abort") μ=none∧PySem.Spec.lookup (.str (Str.ofString "abort")) μ.D=none∧PySem.Spec.lookup (.str (Str.ofString "tpc_abort")) μ.D=none:=by
 rw [h.fails hμ] at hf
 have e:n=stp:=by
  by_cases q:n=stp∧μ.M=at_
  ·exact q.1
  ·rw [if_neg q] at hf; cases hf
 subst e
 have ne:∀ x:Str,x∉four→∀ ν∈μs,PySem.Spec.lookup (.str x) ν.D=none:=fun x hx ν hν=>by
  rw [h.2 ν hν x,if_neg]
  exact fun q=>hx (q.1 ▸ hn)
 intro ν hν
 have n1:=ne (Str.ofString "abort") (by decide) ν hν
 exact ⟨fails_none n1,n1,ne (Str.ofString "tpc_abort") (by decide) ν hν⟩
theorem exc_of {w:World} {kd:Int} {Cx:Addr} (h:ClsOf kd Cx):∃ fI,excInitIn (hd.heap_1 w.params) Cx fI=true:=by
 rcases h with ⟨_,rfl⟩|⟨_,rfl⟩
 ·exact ⟨776,init779 _⟩
 ·exact ⟨796,init799 _⟩
theorem turn_stays {B g g':Heap} {fs:List Addr} (hB:B.StaysIn g) (hf:∀ b∈fs,B.get? b=none) (T:KtsTurn fs g g'):B.StaysIn g':=fun b o e=>T.other b o (hB b o e) fun hm=>by
 rw [hf b hm] at e; cases e
theorem below_turn {A:Around} {B g g':Heap} {outer:List Env} (K:Below A B outer g) (hBf:∀ b∈frs outer,B.get? b=none) (T:KtsTurn (frs outer) g g'):Below A B outer g':=
 ⟨K.stack,turn_stays K.stays hBf T,K.frames.of_keeps fun b o e _=>by
  obtain ⟨sl,hs⟩:=T.up e
  exact ⟨_,hs,rfl⟩⟩
theorem below_nf {A:Around} {B g:Heap} {outer:List Env} (K:Below A B outer g) {b:Addr} (hb:b∈frs outer):∃ o,g.get? b=some o∧∀ vs,o.data≠.fields vs:=(K.frames.mem hb).2
section
variable {w:World} {A A₀:Around} {E:Vp} {s:Shared} {g B:Heap} {L C e fI:Addr} {env:Env} {outer:List Env} {m:Sm} {news:Rest} {K:Frag} {x n:Str} {np pos:Pos} {b₀:Stmt} {suite:List Stmt} {rest:List ExceptHandler} {Q:Fp}
 {p:Program} {loose:List Str} {mean:ExcName→Option Value} {mg mb:Sm}
structure ExcR (nw:Rest) (C e t T:Addr):Prop where
 h:∃ oe vs oT ts,(e,oe)∈nw∧(T,oT)∈nw∧oe.cls=.ref C∧oe.data=.fields vs∧vs[0]?=some (.ref t)∧vs[1]?=some (.ref T)∧vs[2]?=some .none∧oT.data=.fields ts∧ts[3]?=some .none
 ne:T≠e
theorem bf_push {h:Heap} (hBg:B.StaysIn g) (hfL:env.frame=some L) (F:Fr g L h m) (hBf:∀ b∈frs outer,B.get? b=none):∀ b∈frs (env::outer),B.get? b=none:=fun b hb=>by
 rcases frs_mem hfL hb with rfl|hb
 ·exact fresh_of_stays hBg (kts_self F)
 ·exact hBf b hb
theorem ExcR.mono {nw nw':Rest} {t T:Addr} (X:ExcR nw C e t T) (k:∀ p∈nw,p∈nw'):ExcR nw' C e t T:=by
 obtain ⟨⟨oe,vs,oT,ts,he,hT,r⟩,hTe⟩:=X
 exact ⟨⟨oe,vs,oT,ts,k _ he,k _ hT,r⟩,hTe⟩
abbrev Z00P (w:World) (A A₀:Around) (E:Vp) (s:Shared) (g B:Heap) (L C e fI:Addr) (env:Env) (outer:List Env) (m:Sm) (news:Rest) (K:Frag) (x n:Str) (np pos:Pos) (b₀:Stmt) (suite:List Stmt) (rest:List ExceptHandler) (Q:Fp) (p:Program) (loose:List Str) (mean:ExcName→Option Value) (mg mb:Sm):Prop:=∀ (hA:A.frames=some (env::outer)) (hfL:env.frame=some L) (hk:env.scope.kind=.function) (hlo:env.locals=L) (hn:env.kindOf n=some .local) (KB:Below A₀ B outer g) (hBf:∀ b∈frs outer,B.get? b=none) (XB:K.In B) (TB:Top p loose mean mg mb B) (hx:excInitIn K C fI=true) (hab:g.objs.size ≤ L) (hname:∀ {g':Heap} {A':Around} {E':Vp} {Q':Vp} {s':Shared},K.In g'→Top p loose mean mg mb g'→Fr g' L s'.heap m→Q' (.type "Exception") s'→wpAny (model P2 w) A' (eval (.Name x np) env) Q' E' s') (H:Held env outer g L m news C e s.heap) (k:∀ h' g' tk oe T oT t,KtsTurn (frs outer) g g'→Below A₀ B outer g'→K.In g'→Top p loose mean mg mb g'→Fr g' L h' (fun y=>if y=n then some (.ref e) else m y)→News g' L h' ((e,oe)::(T,oT)::news)→ExcR ((e,oe)::(T,oT)::[]) C e t T →
   (∀ p∈news,p.1≠e)→(∀ p∈news,p.1≠T) →
   wpAny (model P2 w) (A.mark (some (.ref e))) (execs (b₀::suite) env)
    (fun f s₃=>wpAny (model P2 w) A (do bindName env n .none; unbindBehindTheSuite env n pos) (fun _ s₄=>Q f s₄) E s₃)
    (fun x s₃=>wpAny (model P2 w) (A.mark (some (.ref e))) (noteFrame x env) (fun _ s₃'=>
      wpAny (model P2 w) (A.mark (some (.ref e))) (do bindName env n .none; unbindBehindTheSuite env n pos)
       (fun _ s₄=>wpAny (model P2 w) (A.mark (some (.ref e))) (passOn "try.except-as" x env:Sem Flow) (fun _ _=>False) (notedBy (model P2 w) (A.mark (some (.ref e))) env (cameBackBy (model P2 w) A env E)) s₄)
       (fun y s₄=>wpAny (model P2 w) (A.mark (some (.ref e))) (setFlight x none) (fun _ s₅=>(notedBy (model P2 w) (A.mark (some (.ref e))) env (cameBackBy (model P2 w) A env E)) y s₅) (notedBy (model P2 w) (A.mark (some (.ref e))) env (cameBackBy (model P2 w) A env E)) s₄) s₃')
      (notedBy (model P2 w) (A.mark (some (.ref e))) env (cameBackBy (model P2 w) A env E)) s₃) { s with heap:=h',toks:=tk }),wpAny (model P2 w) A (setFlight (.ref e) none) (fun _ s₃=>wpAny (model P2 w) A (handleBy (.ref e) env (.ExceptHandler (some (.Name x np)) (some n) (b₀::suite) pos::rest)) Q E s₃) E s
abbrev Z00cq:=U fun a=>U fun b=>U fun c=>U fun d e=>T5 (T6 (T6 (T6 (T6 Z00P a) b) c) d) e
def Z00c:=eps Z00cq ⟨inferInstance⟩
theorem catch_all_core {w:World} {A A₀:Around} {E:Vp} {s:Shared} {g B:Heap} {L C e fI:Addr} {env:Env} {outer:List Env} {m:Sm} {news:Rest} {K:Frag} {x n:Str} {np pos:Pos} {b₀:Stmt} {suite:List Stmt} {rest:List ExceptHandler} {Q:Fp} {p:Program} {loose:List Str} {mean:ExcName→Option Value} {mg mb:Sm}:Z00P w A A₀ E s g B L C e fI env outer m news K x n np pos b₀ suite rest Q p loose mean mg mb:=eps0 Z00cq Z00c rfl (by
 show Z00P Z00c.1.1 Z00c.1.2.1 Z00c.1.2.2.1 Z00c.1.2.2.2.1 Z00c.1.2.2.2.2.1 Z00c.1.2.2.2.2.2 Z00c.2.1.1 Z00c.2.1.2.1 Z00c.2.1.2.2.1 Z00c.2.1.2.2.2.1 Z00c.2.1.2.2.2.2.1 Z00c.2.1.2.2.2.2.2 Z00c.2.2.1.1 Z00c.2.2.1.2.1 Z00c.2.2.1.2.2.1 Z00c.2.2.1.2.2.2.1 Z00c.2.2.1.2.2.2.2.1 Z00c.2.2.1.2.2.2.2.2 Z00c.2.2.2.1.1 Z00c.2.2.2.1.2.1 Z00c.2.2.2.1.2.2.1 Z00c.2.2.2.1.2.2.2.1 Z00c.2.2.2.1.2.2.2.2.1 Z00c.2.2.2.1.2.2.2.2.2 Z00c.2.2.2.2.1 Z00c.2.2.2.2.2.1 Z00c.2.2.2.2.2.2.1 Z00c.2.2.2.2.2.2.2.1 Z00c.2.2.2.2.2.2.2.2
 generalize Z00c.1.1=w,Z00c.1.2.1=A,Z00c.1.2.2.1=A₀,Z00c.1.2.2.2.1=E,Z00c.1.2.2.2.2.1=s,Z00c.1.2.2.2.2.2=g,Z00c.2.1.1=B,Z00c.2.1.2.1=L,Z00c.2.1.2.2.1=C,Z00c.2.1.2.2.2.1=e,Z00c.2.1.2.2.2.2.1=fI,Z00c.2.1.2.2.2.2.2=env,Z00c.2.2.1.1=outer,Z00c.2.2.1.2.1=m,Z00c.2.2.1.2.2.1=news,Z00c.2.2.1.2.2.2.1=K,Z00c.2.2.1.2.2.2.2.1=x,Z00c.2.2.1.2.2.2.2.2=n,Z00c.2.2.2.1.1=np,Z00c.2.2.2.1.2.1=pos,Z00c.2.2.2.1.2.2.1=b₀,Z00c.2.2.2.1.2.2.2.1=suite,Z00c.2.2.2.1.2.2.2.2.1=rest,Z00c.2.2.2.1.2.2.2.2.2=Q,Z00c.2.2.2.2.1=p,Z00c.2.2.2.2.2.1=loose,Z00c.2.2.2.2.2.2.1=mean,Z00c.2.2.2.2.2.2.2.1=mg,Z00c.2.2.2.2.2.2.2.2=mb
 intro hA hfL hk hlo hn KB hBf XB TB hx hab hname H k
 refine catch_core hA hfL hk hlo hn (fun T=>XB.keeps (turn_stays KB.stays hBf T)) hx (fun b hb=>below_nf KB hb) hab (fun T F q=>hname (XB.keeps (turn_stays KB.stays hBf T)) (TB.keeps (turn_stays KB.stays hBf T)) F q) H ?_
 intro h' g' tk oe vs T F N hc hd h2 ne ⟨B',t,c1,c2,U⟩
 have KB':=below_turn KB hBf T
 obtain ⟨u1,u2,u3,oe',vs',he,hc',hd',h0,h2',T',oT,ts,h1,hbT,hTe,hT,hdT,h3⟩:=U
 have ce:=N _ (.head _)
 have he':oe'=oe:=by have:=ce.1; dsimp only at this; rw [he] at this; exact Option.some.inj this
 subst he'
 rw [hd] at hd'
 obtain rfl:vs=vs':=by injection hd'
 have hLf:L∈frs (env::outer):=List.mem_filterMap.mpr ⟨env,.head _,hfL⟩
 obtain ⟨hBL,oL,hoL,hnL⟩:=u3.mem hLf
 have nTL:T'≠L:=fun q=>by
  rw [q,hoL] at hT
  obtain rfl:=Option.some.inj hT
  exact hnL _ hdT
 have gT:g'.get? T'=none:=by
  cases q:g'.get? T' with
  | none=>rfl
  | some o=>
   by_cases hm:T'∈frs outer
   ·obtain ⟨o',ho',hn'⟩:=below_nf KB' hm
    have:=F.keep _ _ ho'
    rw [hT] at this
    obtain rfl:=Option.some.inj this
    exact (hn' _ hdT).elim
   ·cases q':g.get? T' with
    | none=>have:=T.none_ _ q'; rw [q] at this; cases this
    | some o'=>have:=c1 _ _ q' hm; rw [hbT] at this; cases this
 refine k h' g' tk oe' T' oT t T KB' (XB.keeps KB'.stays) (TB.keeps KB'.stays) F (news_cons ce (news_cons ⟨hT,nTL,gT⟩ (news_tl N))) ⟨⟨oe',vs,oT,ts,.head _,eM1,hc,hd,h0,h1,h2,hdT,h3⟩,hTe⟩ ne fun p hp q=>?_
 have:=c2 p hp
 rw [q,hbT] at this; cases this) ((w,A,A₀,E,s,g),(B,L,C,e,fI,env),(outer,m,news,K,x,n),(np,pos,b₀,suite,rest,Q),(p,loose,mean,mg,mb))
theorem held_again {Q:Unit→Shared→Prop} (hfL:env.frame=some L) (H:Held env outer g L m news C e s.heap) (h:Q () s):wpAny (model P2 w) A (noteFrame (.ref e) env) Q E s:=by
 obtain ⟨B,t,b1,b2,b3,b4,b5,b6⟩:=H
 exact again2 hfL b3 h
theorem note_held {h₀:Heap} {Λ:List Addr} {news' nw l:Rest} {Q:Unit→Shared→Prop} (hA:A.frames=some (env::outer)) (hfL:env.frame=some L) (KB:Below A₀ B outer g) (T:Thrown (env::outer) (hideAll h₀ Λ) news' C e h₀ s.heap) (F:Fr g L h₀ m) (N:News g L h₀ nw)
  (hΛ:∀ a∈Λ,g.get? a=none) (hl:∀ p∈l,p∈news' ∨ (p∈nw∧p.1∉Λ))
  (h:∀ h',Held env outer g L m l C e h'→Q () { s with heap:=h' }):wpAny (model P2 w) A (noteFrame (.ref e) env) Q E s:=by
 obtain ⟨B',t,b1,b2,b3,b4,b6⟩:=T
 have nfr:∀ p∈nw,p.1∉frs (env::outer):=fun p hp hm=>by
  rcases frs_mem hfL hm with q|q
  ·exact (N p hp).2.1 q
  ·obtain ⟨o',ho',_⟩:=below_nf KB q
   rw [(N p hp).2.2] at ho'; cases ho'
 have hgn:∀ b o,g.get? b=some o→b∉Λ:=fun b o q hm=>by rw [hΛ b hm] at q; cases q
 refine note2 hA hfL b3 (.inr rfl) fun h₂ U₂ x₂=>h h₂ ⟨B',t,fun b o q nm=>b1 b o (hideAll_get _ (F.keep b o q) (hgn b o q)) fun hm=>?_,fun p hp=>?_,U₂,fun b hb o q=>?_,?_,fun p hp=>?_⟩
 ·rcases frs_mem hfL hm with z|z
  ·rw [z,kts_self F] at q; cases q
  ·exact nm z
 ·rcases hl p hp with q|⟨q,nq⟩
  ·exact b2 p q
  ·exact b1 _ _ (hideAll_get _ (N p q).1 nq) (nfr p q)
 ·have hb':b∈frs (env::outer):=by
   obtain ⟨e',he',hf'⟩:=List.mem_filterMap.mp hb
   exact List.mem_filterMap.mpr ⟨e',.tail _ he',hf'⟩
  obtain ⟨_,o₂,ho₂,hn₂⟩:=b3.frames.mem hb'
  obtain ⟨sl,hs⟩:=b4 b hb' o (F.keep _ _ q)
  rw [hs] at ho₂
  obtain rfl:=Option.some.inj ho₂
  obtain ⟨sl₂,hs₂⟩:=x₂ b _ hs hn₂
  exact ⟨sl₂,hs₂⟩
 ·have hL':L∈frs (env::outer):=List.mem_filterMap.mpr ⟨env,.head _,hfL⟩
  obtain ⟨oL,es,ep,hL,hLd,r⟩:=F.ns
  obtain ⟨sl,hs⟩:=b4 L hL' oL hL
  have:s.heap.Ns L m:=⟨_,es,ep,hs,hLd,r⟩
  exact x₂.ns this
 ·rcases hl p hp with q|⟨q,nq⟩
  ·cases z:g.get? p.1 with
   | none=>rfl
   | some o=>
    have:=b6 p q
    rw [hideAll_get _ (F.keep _ _ z) (hgn _ _ z)] at this; cases this
  ·exact (N p q).2.2
theorem after_done {h h':Heap} {nw named rest':Rest} {Λ:List Addr} (F:Fr g L h m) (N:News g L h nw) (D:DoneH Λ named rest' h h') (hΛ:∀ a∈Λ,∃ p∈nw,p.1=a) :
  Fr g L h' m∧∀ l:Rest,(∀ p∈l,p∈named++rest' ∨ (p∈nw∧p.1∉Λ))→News g L h' l:=by
 obtain ⟨oL,es,ep,hL,r⟩:=F.ns
 have cf:∀ a∈Λ,a≠L∧g.get? a=none:=fun a ha=>by
  obtain ⟨p,hp,rfl⟩:=hΛ a ha
  exact (N p hp).2
 refine ⟨⟨⟨oL,es,ep,D.mod _ _ hL fun q=>(cf L q).1 rfl,r⟩,fun b o q=>D.mod _ _ (F.keep b o q) fun z=>?_,F.above⟩,fun l hl p hp=>?_⟩
 ·have:=(cf b z).2; rw [q] at this; cases this
 ·rcases hl p hp with q|⟨q,nq⟩
  ·refine ⟨D.get p q,?_⟩
   rcases D.from_ p q with z|z
   ·exact cf _ z
   ·refine ⟨fun u=>?_,?_⟩
    ·have u:p.1=L:=u
     rw [u,hL] at z; cases z
    ·cases q':g.get? p.1 with
     | none=>rfl
     | some o=>have:=F.keep _ _ q'; rw [z] at this; cases this
  ·exact ⟨D.mod _ _ (N p q).1 nq,(N p q).2⟩
theorem fr_mod {h h':Heap} {Λ:List Addr} (F:Fr g L h m) (hm:Mod Λ h h') (cf:∀ a∈Λ,a≠L∧g.get? a=none):Fr g L h' m:=by
 obtain ⟨oL,es,ep,hL,r⟩:=F.ns
 refine ⟨⟨oL,es,ep,hm _ _ hL fun q=>(cf L q).1 rfl,r⟩,fun b o q=>hm _ _ (F.keep b o q) fun z=>?_,F.above⟩
 have:=(cf b z).2; rw [q] at this; cases this
theorem dis_all {h h':Heap} {nw named rest':Rest} {Λ:List Addr} (N:News g L h nw) (D:DoneH Λ named rest' h h') {a:Addr} {o:Obj} (ha:(a,o)∈nw) (hn:a∉Λ):a∉rest'.map (·.1):=fun hm=>by
 obtain ⟨p,hp,e⟩:=List.mem_map.mp hm
 rcases D.from_ p (List.mem_append_right _ hp) with q|q
 ·exact hn (e ▸ q)
 ·have:=(N _ ha).1
  dsimp only at this
  rw [←e,q] at this; cases this
theorem nin_ne {rest:Rest} {a:Addr} (h:a∉rest.map (·.1)):∀ p∈rest,p.1≠a:=fun p hp e=>h (e ▸ List.mem_map_of_mem (f:=(·.1)) hp)
theorem after_mod {h h':Heap} {nw rest rest':Rest} (F:Fr g L h m) (N:News g L h (nw++rest)) (hm:Mod (rest.map (·.1)) h h') (hdis:∀ p∈nw,p.1∉rest.map (·.1)) (hget:∀ p∈rest',h'.get? p.1=some p.2) (hfrom:∀ p∈rest',p.1∈rest.map (·.1) ∨ h.get? p.1=none) :
  Fr g L h' m∧News g L h' (nw++rest')∧∀ p∈nw,p.1∉rest'.map (·.1):=by
 obtain ⟨oL,es,ep,hL,r⟩:=F.ns
 have cf:∀ a∈rest.map (·.1),a≠L∧g.get? a=none:=fun a ha=>by
  obtain ⟨p,hp,rfl⟩:=List.mem_map.mp ha
  exact (N p (List.mem_append_right _ hp)).2
 refine ⟨⟨⟨oL,es,ep,hm _ _ hL fun q=>(cf L q).1 rfl,r⟩,fun b o q=>hm _ _ (F.keep b o q) fun z=>?_,F.above⟩,fun p hp=>?_,fun p hp hm'=>?_⟩
 ·have:=(cf b z).2; rw [q] at this; cases this
 rotate_left
 ·obtain ⟨q,hq,e⟩:=List.mem_map.mp hm'
  rcases hfrom q hq with z|z
  ·exact hdis p hp (e ▸ z)
  ·have:=(N p (List.mem_append_left _ hp)).1
   rw [←e,z] at this; cases this
 ·rcases List.mem_append.mp hp with hp|hp
  ·have c:=N p (List.mem_append_left _ hp)
   exact ⟨hm _ _ c.1 (hdis p hp),c.2⟩
  ·refine ⟨hget p hp,?_⟩
   rcases hfrom p hp with q|q
   ·exact cf _ q
   ·refine ⟨fun z=>?_,?_⟩
    ·have z:p.1=L:=z
     rw [z,hL] at q; cases q
    ·cases q':g.get? p.1 with
     | none=>rfl
     | some o=>have:=F.keep _ _ q'; rw [q] at this; cases this
theorem news_ne {h:Heap} {nw:Rest} (N:News g L h nw) {a b:Addr} {o o':Obj} (ha:(a,o)∈nw) (hb:(b,o')∈nw) (ne:o≠o'):@Ne Nat a b:=fun q=>ne (by
 have h1:=(N _ ha).1
 have h2:=(N _ hb).1
 dsimp only at h1 h2
 rw [show a=b from q,h2] at h1
 exact (Option.some.inj h1).symm)
theorem ne_tab_list {items:Array Value} {k:Nat} {ps:Array Value}:listOf items k≠tabObj ps:=fun q=>by
 have:=congrArg Obj.data q
 simp [PySem.W.listOf,tabObj] at this
theorem up2_of {h:Heap} {nw:Rest} {t T:Addr} (hfL:env.frame=some L) (hk:env.scope.kind=.function) (KB:Below A₀ B outer g) (F:Fr g L h m) (N:News g L h nw) (X:ExcR nw C e t T) :
  Up2 (hideAll h (e::T::frs (env::outer))) (env::outer) e (.ref C) (.ref t) (some .none) h:=by
 obtain ⟨⟨oe,vs,oT,ts,he,hT,hc,hd,h0,h1,h2,hdT,h3⟩,hTe⟩:=X
 have K':=pushX KB F hfL hk
 exact ⟨fun b o q=>of_hideAll _ q,hideAll_none _ (.head _),funFrames_to K'.frames (fun b hb o ho _=>⟨o,ho,rfl⟩) (fun b hb=>hideAll_none _ (eT2 hb)),oe,vs,(N _ he).1,hc,hd,h0,h2,T,oT,ts,h1,hideAll_none _ eM1,hTe,(N _ hT).1,hdT,h3⟩
abbrev Z0lP (w:World) (A A₀:Around) (E:Vp) (s:Shared) (g B:Heap) (L C e fI:Addr) (env:Env) (outer:List Env) (m:Sm) (K:Frag) (n:Str) (pos:Pos) (nw:Rest) (t T:Addr) (x:Expr) (vp:Pos) (Q₁:Fp) (E1:Value→Vp) (E2:Vp):Prop:=∀ (hA:A.frames=some (env::outer)) (hfL:env.frame=some L) (hk:env.scope.kind=.function) (hlo:env.locals=L) (hn:env.kindOf n=some .local) (KB:Below A₀ B outer g) (KX:K.In g) (hx:excInitIn K C fI=true) (F:Fr g L s.heap m) (N:News g L s.heap nw) (ER:ExcR nw C e t T) (hname:∀ {Q':Vp} {E':Vp},Q' (.ref e) s→wpAny (model P2 w) (A.mark (some (.ref e))) (eval x env) Q' E' s) (h:∀ h' tk,Up2 (hideAll s.heap (e::T::frs (env::outer))) (env::outer) e (.ref C) (.ref t) (some (rawInt L)) h'→(∀ b o,b≠L→s.heap.get? b=some o→(∀ vs,o.data≠.fields vs)→∃ sl,h'.get? b=some { o with slots:=sl })→E (.ref e) { s with heap:=h',toks:=tk }),wpAny (model P2 w) (A.mark (some (.ref e))) (exec (.Raise (some x) none vp) env) Q₁
   (fun x s₃=>wpAny (model P2 w) (A.mark (some (.ref e))) (noteFrame x env) (fun _ s₃'=>wpAny (model P2 w) (A.mark (some (.ref e))) (do bindName env n .none; unbindBehindTheSuite env n pos)
    (fun _ s₄=>wpAny (model P2 w) (A.mark (some (.ref e))) (PySem.passOn "try.except-as" x env:Sem Flow) (fun _ _=>False) (notedBy (model P2 w) (A.mark (some (.ref e))) env (cameBackBy (model P2 w) A env E)) s₄)
    (fun y s₄=>E1 x y s₄) s₃') E2 s₃) s
abbrev Z0lcq:=U fun a=>U fun b=>U fun c=>U fun d e=>(T6 (T6 (T6 (T6 Z0lP a) b) c) d) e
def Z0lc:=eps Z0lcq ⟨inferInstance⟩
theorem rethrow {w:World} {A A₀:Around} {E:Vp} {s:Shared} {g B:Heap} {L C e fI:Addr} {env:Env} {outer:List Env} {m:Sm} {K:Frag} {n:Str} {pos:Pos} {nw:Rest} {t T:Addr} {x:Expr} {vp:Pos} {Q₁:Fp} {E1:Value→Vp} {E2:Vp}:Z0lP w A A₀ E s g B L C e fI env outer m K n pos nw t T x vp Q₁ E1 E2:=eps0 Z0lcq Z0lc rfl (by
 show Z0lP Z0lc.1.1 Z0lc.1.2.1 Z0lc.1.2.2.1 Z0lc.1.2.2.2.1 Z0lc.1.2.2.2.2.1 Z0lc.1.2.2.2.2.2 Z0lc.2.1.1 Z0lc.2.1.2.1 Z0lc.2.1.2.2.1 Z0lc.2.1.2.2.2.1 Z0lc.2.1.2.2.2.2.1 Z0lc.2.1.2.2.2.2.2 Z0lc.2.2.1.1 Z0lc.2.2.1.2.1 Z0lc.2.2.1.2.2.1 Z0lc.2.2.1.2.2.2.1 Z0lc.2.2.1.2.2.2.2.1 Z0lc.2.2.1.2.2.2.2.2 Z0lc.2.2.2.1.1 Z0lc.2.2.2.1.2.1 Z0lc.2.2.2.1.2.2.1 Z0lc.2.2.2.1.2.2.2.1 Z0lc.2.2.2.1.2.2.2.2.1 Z0lc.2.2.2.1.2.2.2.2.2 Z0lc.2.2.2.2
 generalize Z0lc.1.1=w,Z0lc.1.2.1=A,Z0lc.1.2.2.1=A₀,Z0lc.1.2.2.2.1=E,Z0lc.1.2.2.2.2.1=s,Z0lc.1.2.2.2.2.2=g,Z0lc.2.1.1=B,Z0lc.2.1.2.1=L,Z0lc.2.1.2.2.1=C,Z0lc.2.1.2.2.2.1=e,Z0lc.2.1.2.2.2.2.1=fI,Z0lc.2.1.2.2.2.2.2=env,Z0lc.2.2.1.1=outer,Z0lc.2.2.1.2.1=m,Z0lc.2.2.1.2.2.1=K,Z0lc.2.2.1.2.2.2.1=n,Z0lc.2.2.1.2.2.2.2.1=pos,Z0lc.2.2.1.2.2.2.2.2=nw,Z0lc.2.2.2.1.1=t,Z0lc.2.2.2.1.2.1=T,Z0lc.2.2.2.1.2.2.1=x,Z0lc.2.2.2.1.2.2.2.1=vp,Z0lc.2.2.2.1.2.2.2.2.1=Q₁,Z0lc.2.2.2.1.2.2.2.2.2=E1,Z0lc.2.2.2.2=E2
 intro hA hfL hk hlo hn KB KX hx F N ER hname h
 have U:=up2_of hfL hk KB F N ER
 rw [arm_exec_Raise]
 refine wpAny_bind (wpAny_standAt (raise_again (B:=hideAll s.heap (e::T::frs (env::outer))) (l:=env::outer) (a0:=.ref t) (v₀:=.none) (K:=K) hx rfl (wpAny_bind (hname (wpAny_bind (wpAny_standAt (wpAny_pure ⟨rfl,KX.keeps F.keep,U,fun h₁ U₁ x₁=>?_⟩)))))))
 have hA':(A.mark (some (.ref e))).frames=some (env::outer):=hA
 refine note2 hA' hfL U₁ (.inr rfl) fun h₂ U₂ x₂=>?_
 have n₂:=(x₁.trans x₂).ns F.ns
 have hLf:L∈frs (env::outer):=List.mem_filterMap.mpr ⟨env,.head _,hfL⟩
 refine unbind_as hk hlo hn n₂ fun h₃ tk₃ u n₃ s₃=>?_
 obtain ⟨hBL,oL,hoL,hnL⟩:=U₂.frames.mem hLf
 obtain ⟨oL',es,ep,hoL',hdL',_⟩:=id n₃
 have U₃:=up2_but U₂ hBL s₃ hoL hnL hoL' fun vs q=>by rw [hdL'] at q; cases q
 have U₃':=U₃
 obtain ⟨u1,u2,u3,oe,vs,he,hc,hd,h0,h2,T',oT,ts,h1,hbT,hTe,hT,hdT,h3⟩:=U₃'
 unfold PySem.passOn
 refine wpAny_bind (wpAny_field he hd h1 ?_)
 rw [if_neg (show ¬ ((Value.ref T' == Value.none)=true) from by simp)]
 refine wpAny_bind ?_
 rw [hfL]
 refine flight2 (fr:=some L) U₃ fun h₄ U₄ x₄=>wpAny_throw ?_
 refine again2 hfL U₄ (cameBack2 hfL U₄ fun h₅ U₅ x₅=>h h₅ _ U₅ fun b o hb ho hno=>?_)
 obtain ⟨sl,hs⟩:=(x₁.trans x₂) b o ho hno
 obtain ⟨sl',hs'⟩:=(x₄.trans x₅) b _ ((s₃.2 b hb).trans hs) hno
 exact ⟨sl',hs'⟩) ((w,A,A₀,E,s,g),(B,L,C,e,fI,env),(outer,m,K,n,pos,nw),(t,T,x,vp,Q₁,E1),E2)
theorem thrown_of {h₀ hn h' gg:Heap} {Λ:List Addr} {nw news':Rest} {t T:Addr} (S:Stk outer h₀ Λ) (hg:gg=hideAll h₀ Λ) (TT:KtsTurn (frs outer) gg g) (KB:Below A₀ B outer g) (hfL:env.frame=some L) (F:Fr g L hn m) (N:News g L hn nw)
  (he:∃ oe,(e,oe)∈nw) (hT:∃ oT,(T,oT)∈nw) (U:Up2 (hideAll hn (e::T::frs (env::outer))) outer e (.ref C) (.ref t) (some .none) h') (keep:∀ b o,b≠L→hn.get? b=some o→(∀ vs,o.data≠.fields vs)→∃ sl,h'.get? b=some { o with slots:=sl })
  (sub:∀ p∈news',p∈nw∧p.1≠e∧p.1≠T):Thrown outer gg news' C e h₀ h':=by
 obtain ⟨oe,he⟩:=he
 obtain ⟨oT,hT⟩:=hT
 have nL:∀ {b:Addr},b∈frs (env::outer)→b=L ∨ b∈frs outer:=fun hb=>frs_mem hfL hb
 refine ⟨_,t,fun b o q nm=>hideAll_get _ (F.keep b o (TT.other b o q nm)) fun hm=>?_,fun p hp=>hideAll_get _ (N p (sub p hp).1).1 fun hm=>?_,U,fun b hb o ho=>?_,fun p hp=>?_⟩
 ·have q':=TT.other b o q nm
  rcases List.mem_cons.mp hm with z|hm
  ·rw [z,(N _ he).2.2] at q'; cases q'
  ·rcases List.mem_cons.mp hm with z|hm
   ·rw [z,(N _ hT).2.2] at q'; cases q'
   ·rcases nL hm with z|z
    ·rw [z,kts_self F] at q'; cases q'
    ·exact nm z
 ·rcases List.mem_cons.mp hm with z|hm
  ·exact (sub p hp).2.1 z
  ·rcases List.mem_cons.mp hm with z|hm
   ·exact (sub p hp).2.2 z
   ·rcases nL hm with z|z
    ·exact (N p (sub p hp).1).2.1 z
    ·obtain ⟨o,ho,_⟩:=below_nf KB z
     rw [(N p (sub p hp).1).2.2] at ho; cases ho
 ·obtain ⟨o',ho',hg',hd⟩:=S.ground hg hb
  rw [ho] at ho'; cases ho'
  obtain ⟨sl,hs⟩:=TT.frame b o hg' hb
  obtain ⟨sl',hs'⟩:=keep b _ (fun z=>by rw [z,kts_self F] at hs; cases hs) (F.keep _ _ hs) hd
  exact ⟨sl',hs'⟩
 ·cases q:gg.get? p.1 with
  | none=>rfl
  | some o=>
   obtain ⟨sl,hs⟩:=TT.up q
   rw [(N p (sub p hp).1).2.2] at hs; cases hs
end
theorem PlanIs.ds {μs:List Mg} {stp:Str} {kd:Int} {at_:Addr} (h:PlanIs μs stp kd at_):∀ μ∈μs,∀ n,PySem.Spec.lookup (.str n) μ.D=none ∨ PySem.Spec.lookup (.str n) μ.D=some (.int 1) ∨ PySem.Spec.lookup (.str n) μ.D=some (.int 2):=fun μ hμ n=>by
 rw [h.2 μ hμ n]
 split
 ·rcases h.1 with rfl|rfl
  ·exact .inr (.inl rfl)
  ·exact .inr (.inr rfl)
 ·exact .inl rfl
theorem done_of {g h h':Heap} {Λ:List Addr} {L:Addr} {m:Sm} {nws named rest:Rest} (hg:g=hideAll h Λ) (F:Fr g L h' m) (N:News g L h' nws) (sub:∀ p∈named++rest,p∈nws) (dis:∀ p∈named,p.1∉rest.map (·.1)):DoneH Λ named rest h h':=
 ⟨mod_of hg F N fun b hb nb=>(nb hb).elim,fun p hp=>(N p (sub p hp)).1,fun p hp=>by
  by_cases q:p.1∈Λ
  ·exact .inl q
  ·exact .inr (fresh_of hg (N p (sub p hp)).2.2 q),dis⟩
theorem stays_hide {B h:Heap} {Λ:Rest} (hB:B.StaysIn h) (hΛ:∀ p∈Λ,B.get? p.1=none):B.StaysIn (hideAll h (Λ.map (·.1))):=fun b o e=>hideAll_get _ (hB b o e) fun hm=>by
 obtain ⟨q,hq,rfl⟩:=List.mem_map.mp hm
 rw [hΛ q hq] at e; cases e
abbrev Z0cP (pq:Program) (kept:List (Addr×Obj)) (w:World) (A:Around) (s:Shared) (B:Heap) (X dx rs W O ad vt ex b1 b2 b3 b4:Addr) (x:Mk) (st:Str) (ts:Tok) (items vits:Array Value) (kr kv:Nat) (ftb:Value) (R:Rp) (loose:List Str) (mean:ExcName→Option Value) (mg mb:Sm) (rest:Rest) (outer:List Env) (lg:Addr) (μs ml:List Mg) (σ:Addr→Ms) (rows:List (Str×Str)) (dW dl:Addr) (wh:Int) (wt:Tok) (kl:Nat) (ps:Array Value) (stp:Str) (kdp:Int) (at_:Addr):Prop:=∀ (wr:Rest) (XB:(hd.heap_1 w.params).In B) (TB:Top pq loose mean mg mb B) (hB:B.StaysIn s.heap) (hroom:A.depth+60<recursionLimit) (hwr:wr=[(W,instObj 153 dW),(dW,wsDict wh wt dl),(dl,listOf #[] kl),(422,tabObj ps)]) (hps:TabL ps.toList) (hN:∀ p∈(X,instObj 501 dx)::(dx,dictOf (txEs x st ts rs W O ad vt ex ftb b1 b2 b3 b4) 12)::(rs,listOf items kr)::(vt,listOf vits kv)::(wr++rest),s.heap.get? p.1=some p.2) (fN:∀ p∈(X,instObj 501 dx)::(dx,dictOf (txEs x st ts rs W O ad vt ex ftb b1 b2 b3 b4) 12)::(rs,listOf items kr)::(vt,listOf vits kv)::(wr++rest),B.get? p.1=none) (hdis:∀ p∈(X,instObj 501 dx)::(dx,dictOf (txEs x st ts rs W O ad vt ex ftb b1 b2 b3 b4) 12)::(rs,listOf items kr)::(vt,listOf vits kv)::wr,p.1∉rest.map (·.1)) (ndx:∀ p∈(rs,listOf items kr)::(vt,listOf vits kv)::wr,p.1≠dx) (n422:∀ p∈(X,instObj 501 dx)::(dx,dictOf (txEs x st ts rs W O ad vt ex ftb b1 b2 b3 b4) 12)::(rs,listOf items kr)::(vt,listOf vits kv)::(W,instObj 153 dW)::(dW,wsDict wh wt dl)::(dl,listOf #[] kl)::[],p.1≠422) (WD:Wd kept w lg μs σ rows rest) (hi:items.toList=ml.map fun μ=>.ref μ.M) (hm:∀ μ∈ml,μ∈μs) (hh:A.handled=none) (hA:A.frames=some outer) (S:Stk outer s.heap (X::dx::rs::vt::(wr++rest).map (·.1))) (hBf:∀ b∈frs outer,B.get? b=none) (hPl:PlanIs μs stp kdp at_) (hz:rows.length<60) (hvz:vits=#[]) (hnd:(ml.map (·.M)).Nodup) (hl:ml.length∈[2,3,4,5]) (hok:∀ h' tk' rest' σ' rows' voted vt' vits' kv',tryPart (sortMg ml) σ rows=((σ',rows',none),voted)→Wd kept w lg μs σ' rows' rest'→vits'.toList=voted.map (fun μ=>.ref μ.M) →
   DoneH (X::dx::rs::vt::(wr++rest).map (·.1)) ((X,instObj 501 dx)::(dx,dictOf (txEs x st ts rs W O ad vt' ex ftb b1 b2 b3 b4) 12)::(rs,listOf items kr)::(vt',listOf vits' kv')::wr) rest' s.heap h'→R (.ok (.ret .none)) { s with heap:=h',toks:=tk' }) (hno:∀ h' tk' rest' σ' rows' kd Cx ea voted vt' vits' kv' ps',tryPart (sortMg ml) σ rows=((σ',rows',some kd),voted)→ClsOf kd Cx→TabL ps'.toList→vits'.toList=voted.map (fun μ=>.ref μ.M) →
   Wd kept w lg μs (cleanSt (sortMg ml) voted (σ',rows')).1 (cleanSt (sortMg ml) voted (σ',rows')).2 rest' →
   Thrown outer (hideAll s.heap (X::dx::rs::vt::(wr++rest).map (·.1))) (((X,instObj 501 dx)::(dx,dictOf (txEs x st ts rs W O ad vt' ex ftb b1 b2 b3 b4) 12)::(rs,listOf items kr)::(vt',listOf vits' kv')::(W,instObj 153 dW)::(dW,wsDict wh wt dl)::(dl,listOf #[] kl)::(422,tabObj ps')::[])++rest') Cx ea s.heap h' →
   (∀ p∈(X,instObj 501 dx)::(dx,dictOf (txEs x st ts rs W O ad vt' ex ftb b1 b2 b3 b4) 12)::(rs,listOf items kr)::(vt',listOf vits' kv')::(W,instObj 153 dW)::(dW,wsDict wh wt dl)::(dl,listOf #[] kl)::(422,tabObj ps')::[],p.1∉rest'.map (·.1))→R (.error (.ref ea)) { s with heap:=h',toks:=tk' }),codeAny (model P2 w) A (.call (.ref 427) ⟨[.ref X],[]⟩) R s
abbrev Z0ccq:=U fun a=>U fun b=>U fun c=>U fun d=>U fun e=>U fun f=>U fun g h=>T5 (T6 (T6 (T6 (T6 (T6 (T6 (T6 Z0cP a) b) c) d) e) f) g) h
def Z0cc:=eps Z0ccq ⟨inferInstance⟩
def Z0c.pq:=Z0cc.1.1
def Z0c.kept:=Z0cc.1.2.1
def Z0c.w:=Z0cc.1.2.2.1
def Z0c.A:=Z0cc.1.2.2.2.1
def Z0c.s:=Z0cc.1.2.2.2.2.1
def Z0c.B:=Z0cc.1.2.2.2.2.2
def Z0c.X:=Z0cc.2.1.1
def Z0c.dx:=Z0cc.2.1.2.1
def Z0c.rs:=Z0cc.2.1.2.2.1
def Z0c.W:=Z0cc.2.1.2.2.2.1
def Z0c.O:=Z0cc.2.1.2.2.2.2.1
def Z0c.ad:=Z0cc.2.1.2.2.2.2.2
def Z0c.vt:=Z0cc.2.2.1.1
def Z0c.ex:=Z0cc.2.2.1.2.1
def Z0c.b1:=Z0cc.2.2.1.2.2.1
def Z0c.b2:=Z0cc.2.2.1.2.2.2.1
def Z0c.b3:=Z0cc.2.2.1.2.2.2.2.1
def Z0c.b4:=Z0cc.2.2.1.2.2.2.2.2
def Z0c.x:=Z0cc.2.2.2.1.1
def Z0c.st:=Z0cc.2.2.2.1.2.1
def Z0c.ts:=Z0cc.2.2.2.1.2.2.1
def Z0c.items:=Z0cc.2.2.2.1.2.2.2.1
def Z0c.vits:=Z0cc.2.2.2.1.2.2.2.2.1
def Z0c.kr:=Z0cc.2.2.2.1.2.2.2.2.2
def Z0c.kv:=Z0cc.2.2.2.2.1.1
def Z0c.ftb:=Z0cc.2.2.2.2.1.2.1
def Z0c.R:=Z0cc.2.2.2.2.1.2.2.1
def Z0c.loose:=Z0cc.2.2.2.2.1.2.2.2.1
def Z0c.mean:=Z0cc.2.2.2.2.1.2.2.2.2.1
def Z0c.mg:=Z0cc.2.2.2.2.1.2.2.2.2.2
def Z0c.mb:=Z0cc.2.2.2.2.2.1.1
def Z0c.rest:=Z0cc.2.2.2.2.2.1.2.1
def Z0c.outer:=Z0cc.2.2.2.2.2.1.2.2.1
def Z0c.lg:=Z0cc.2.2.2.2.2.1.2.2.2.1
def Z0c.μs:=Z0cc.2.2.2.2.2.1.2.2.2.2.1
def Z0c.ml:=Z0cc.2.2.2.2.2.1.2.2.2.2.2
def Z0c.σ:=Z0cc.2.2.2.2.2.2.1.1
def Z0c.rows:=Z0cc.2.2.2.2.2.2.1.2.1
def Z0c.dW:=Z0cc.2.2.2.2.2.2.1.2.2.1
def Z0c.dl:=Z0cc.2.2.2.2.2.2.1.2.2.2.1
def Z0c.wh:=Z0cc.2.2.2.2.2.2.1.2.2.2.2.1
def Z0c.wt:=Z0cc.2.2.2.2.2.2.1.2.2.2.2.2
def Z0c.kl:=Z0cc.2.2.2.2.2.2.2.1
def Z0c.ps:=Z0cc.2.2.2.2.2.2.2.2.1
def Z0c.stp:=Z0cc.2.2.2.2.2.2.2.2.2.1
def Z0c.kdp:=Z0cc.2.2.2.2.2.2.2.2.2.2.1
def Z0c.at_:=Z0cc.2.2.2.2.2.2.2.2.2.2.2
open Z0c in
noncomputable def Z0cb:PSigma fun P:(Heap)→(Addr)→(Heap)→Prop=>(∀ g L' h₁,P g L' h₁)→Z0cP Z0c.pq Z0c.kept Z0c.w Z0c.A Z0c.s Z0c.B Z0c.X Z0c.dx Z0c.rs Z0c.W Z0c.O Z0c.ad Z0c.vt Z0c.ex Z0c.b1 Z0c.b2 Z0c.b3 Z0c.b4 Z0c.x Z0c.st Z0c.ts Z0c.items Z0c.vits Z0c.kr Z0c.kv Z0c.ftb Z0c.R Z0c.loose Z0c.mean Z0c.mg Z0c.mb Z0c.rest Z0c.outer Z0c.lg Z0c.μs Z0c.ml Z0c.σ Z0c.rows Z0c.dW Z0c.dl Z0c.wh Z0c.wt Z0c.kl Z0c.ps Z0c.stp Z0c.kdp Z0c.at_:=by
 apply PSigma.mk
 case snd=>
 intro hP
 intro wr XB TB hB hroom hwr hps hN fN hdis ndx n422 WD hi hm hh hA S hBf hPl hz hvz hnd hl hok hno
 k_dflt (refine' enterC (Λ:=(X,instObj 501 dx)::(dx,dictOf (txEs x st ts rs W O ad vt ex ftb b1 b2 b3 b4) 12)::(rs,listOf items kr)::(vt,listOf vits kv)::(wr++rest)) XB (topRead_of TB) hB ?k1 ?k2 ?k6 ?k7 ?k8 ?k9 ?kL ?kD ?_ ?c2 ?c3 ?c4)
 (case k6=>k_is)
 (case k7=>k_is)
 (case k8=>k_room)
 (case k9=>exact BindsTo.of_eq rfl)
 (case kL=>exact rfl)
 (case kD=>decide +kernel)
 (case c2=>exact rfl)
 (case c3=>exact rfl)
 (case c4=>exact rfl)
 (case k1=>exact hN)
 (case k2=>exact fN)
 intro g L' h₁
 revert wr XB TB hB hroom hwr hps hN fN hdis ndx n422 WD hi hm hh hA S hBf hPl hz hvz hnd hl hok hno
 exact hP g L' h₁
abbrev Z0cdq:=T3 Z0cb.1
def Z0cd:=eps Z0cdq ⟨inferInstance⟩
def Z0c.g:=Z0cd.1
def Z0c.L':=Z0cd.2.1
def Z0c.h₁:=Z0cd.2.2
set_option genSizeOf false in
set_option genInjectivity false in
open Z0c in
inductive CrNo (oc:Obj) (D:Addr) (c₅:Nat) (m₀:Sm) (wr:Rest) (e:Value) (s₁:Shared):Prop where
 | mk (h':Heap) (tk':Nat) (rest':Rest) (σ':Addr→Ms) (rows':List (Str×Str)) (ea:Addr) (kd:Int) (Cx:Addr) (rv:Option Value) (vt':Addr) (vits':Array Value) (kv':Nat) (voted:List Mg) (f1:e=.ref ea) (f2:s₁={ s with heap:=h',toks:=tk' }) (f3:tryPart (sortMg ml) σ rows=((σ',rows',some kd),voted)) (f4:ClsOf kd Cx) (f5:Held (envOfC (Str.ofString "Transaction._commitResources") scCR L' 427 (.ref 426)) outer g L' (fun y=>if y=Str.ofString "rm" then rv else if y=Str.ofString "L" then some (.ref D) else m₀ y) (((D,listOf (List.toArray ((sortMg ml).map fun μ=>.ref μ.M)) c₅)::(L'+1,oc)::(X,instObj 501 dx)::(dx,dictOf (txEs x st ts rs W O ad vt' ex ftb b1 b2 b3 b4) 12)::(rs,listOf items kr)::(vt',listOf vits' kv')::wr)++rest') Cx ea h') (f6:Wd kept w lg μs σ' rows' rest') (f7:(∀ p∈(D,listOf (List.toArray ((sortMg ml).map fun μ=>.ref μ.M)) c₅)::(L'+1,oc)::(X,instObj 501 dx)::(dx,dictOf (txEs x st ts rs W O ad vt' ex ftb b1 b2 b3 b4) 12)::(rs,listOf items kr)::(vt',listOf vits' kv')::wr,p.1∉rest'.map (·.1))) (f8:(vits'.toList=vits.toList++voted.map fun μ=>.ref μ.M)) (f9:∀ p∈(L'+1,oc)::(X,instObj 501 dx)::(dx,dictOf (txEs x st ts rs W O ad vt' ex ftb b1 b2 b3 b4) 12)::(rs,listOf items kr)::(vt',listOf vits' kv')::wr,p.1≠D):CrNo oc D c₅ m₀ wr e s₁
open Z0c in
noncomputable def R1tb:PSigma fun PR1t:(Nat)→(Obj)→(Obj)→(Tk)→(Addr)→(Nat)→(Heap)→(Heap)→(Tk)→(Heap)→(Nat)→(Nat)→(Sm)→Prop=>(∀ tk zR1t1 oc zR1t5 D c h₃ zR1t6 zR1t7 h₅ tk₅ c₅ m₀,PR1t tk zR1t1 oc zR1t5 D c h₃ zR1t6 zR1t7 h₅ tk₅ c₅ m₀)→Z0cb.1 Z0c.g Z0c.L' Z0c.h₁:=by
 apply PSigma.mk
 case snd=>
 intro hPR1t
 skip
 intro wr XB TB hB hroom hwr hps hN fN hdis ndx n422 WD hi hm hh hA S hBf hPl hz hvz hnd hl hok hno
 intro tk cells
 intro hg l1 KX TX F N Y
 have hBg:=stays_hide hB fN
 have KB:Opq (Below A B outer g):=below_of hA S (by rw [hg]; rfl) (hg ▸ hBg) hBf
 have hvz':vits.size<100:=by rw [hvz]; decide
 have hDs:=hPl.ds
 have nX:∀ p∈rest,p.1≠X:=fun p hp e=>hdis _ (.head _) (e ▸ List.mem_map_of_mem (f:=(·.1)) hp)
 have nrs:∀ p∈rest,p.1≠rs:=fun p hp e=>hdis _ eM2 (e ▸ List.mem_map_of_mem (f:=(·.1)) hp)
 have nvt:∀ p∈rest,p.1≠vt:=fun p hp e=>hdis _ eM3 (e ▸ List.mem_map_of_mem (f:=(·.1)) hp)
 have ndr:∀ p∈rest,p.1≠dx:=fun p hp e=>hdis (dx,_) eM1 (e ▸ List.mem_map_of_mem (f:=(·.1)) hp)
 have ndw:∀ p∈wr,p.1≠dx:=fun p hp=>ndx p (eT2 hp)
 have hdw:∀ p∈wr,p.1∉rest.map (·.1):=fun p hp=>hdis p (eT4 hp)
 have hX:=hN _ (.head _)
 have hdx:=hN _ eM1
 have hrs:=hN _ eM2
 have hvt:=hN _ eM3
 dsimp only at hX hdx hrs hvt
 have l1':=l1
 try k_lt l1
 k_cells Y
 try simp only [List.cons_append,List.nil_append] at N
 obtain ⟨oc,doc,N⟩:∃ oc:Obj,oc.data=.cell (some (.ref X))∧News g L' h₁ ((L'+1,oc)::(X,instObj 501 dx)::(dx,dictOf (txEs x st ts rs W O ad vt ex ftb b1 b2 b3 b4) 12)::(rs,listOf items kr)::(vt,listOf vits kv)::(wr++rest)):=⟨_,by assumption,N⟩
 try dsimp only
 k_steps
 have hsz:items.size ≤ 5:=by
  rw [←Array.length_toList,hi,List.length_map]
  exact le25 hl
 rename Fr _ _ _ _=>F₂
 rename News _ _ _ _=>N₂
 refine list_copyK F₂ N₂ ⟨_,(N₂ _ eM3).1,rfl,_,rfl⟩ (fun D c h₃ F₃ N₃ l3=>?_) (by rw [sizeLine_eq]; omega)
 k_steps
 refine callWith_BK0 rfl rfl ?_
 k_steps
 rename Fr _ _ _ _=>F₄
 rename News _ _ _ _=>N₄
 refine sort_call (named:=(L'+1,oc)::(X,instObj 501 dx)::(dx,dictOf (txEs x st ts rs W O ad vt ex ftb b1 b2 b3 b4) 12)::(rs,listOf items kr)::(vt,listOf vits kv)::wr) (ml:=ml) KX TX WD (by k_room) F₄ N₄ (fun p hp=>Nat.ne_of_lt (l3 p hp)) hi hm hl fun h₅ tk₅ c₅ F₅ N₅=>?_
 try simp only [List.cons_append,List.nil_append] at N₅
 k_steps
 obtain ⟨m₀,F₆⟩:∃ m₀:Sm,Fr g L' h₅ (fun y=>if y=Str.ofString "L" then some (.ref D) else m₀ y):=⟨_,F₅⟩
 have nnd:=WD.nd
 rename_i zR1t1 zR1t2 zR1t3 zR1t4 zR1t5 zR1t6 zR1t7 zR1t8 zR1t9
 revert wr XB TB hB hroom hwr hps hN fN hdis ndx n422 WD hi hm hh hA S hBf hPl hz hvz hnd hl hok hno hg l1 KX TX hBg KB hvz' hDs nX nrs nvt ndr ndw hdw hX hdx hrs hvt l1' zR1t2 doc hsz l3 F₄ N₄ F₅ N₅ F₆ nnd
 exact hPR1t tk zR1t1 oc zR1t5 D c h₃ zR1t6 zR1t7 h₅ tk₅ c₅ m₀
noncomputable abbrev R1t_dq:=U fun a=>U fun b c=>(T6 (T6 R1tb.1 a) b) c
noncomputable def R1t_d:=eps R1t_dq ⟨inferInstance⟩
noncomputable def R1t_.tk:=R1t_d.1.1
noncomputable def R1t_.zR1t1:=R1t_d.1.2.1
noncomputable def R1t_.oc:=R1t_d.1.2.2.1
noncomputable def R1t_.zR1t5:=R1t_d.1.2.2.2.1
noncomputable def R1t_.D:=R1t_d.1.2.2.2.2.1
noncomputable def R1t_.c:=R1t_d.1.2.2.2.2.2
noncomputable def R1t_.h₃:=R1t_d.2.1.1
noncomputable def R1t_.zR1t6:=R1t_d.2.1.2.1
noncomputable def R1t_.zR1t7:=R1t_d.2.1.2.2.1
noncomputable def R1t_.h₅:=R1t_d.2.1.2.2.2.1
noncomputable def R1t_.tk₅:=R1t_d.2.1.2.2.2.2.1
noncomputable def R1t_.c₅:=R1t_d.2.1.2.2.2.2.2
noncomputable def R1t_.m₀:=R1t_d.2.2
open Z0c in
open R1t_ in
theorem R1t_m:R1tb.1 R1t_.tk R1t_.zR1t1 R1t_.oc R1t_.zR1t5 R1t_.D R1t_.c R1t_.h₃ R1t_.zR1t6 R1t_.zR1t7 R1t_.h₅ R1t_.tk₅ R1t_.c₅ R1t_.m₀:=by
 intro wr XB TB hB hroom hwr hps hN fN hdis ndx n422 WD hi hm hh hA S hBf hPl hz hvz hnd hl hok hno hg l1 KX TX hBg KB hvz' hDs nX nrs nvt ndr ndw hdw hX hdx hrs hvt l1' zR1t2 doc hsz l3 F₄ N₄ F₅ N₅ F₆ nnd
 refine try_with (fun e s₁=>CrNo oc D c₅ m₀ wr e s₁) ?hand ?body
 case hand=>
  rintro e s₁ ⟨h₆,tk₆,rest₆,σ₆,rows₆,ea,kd,Cx,rv,vt₆,vits₆,kv₆,voted,rfl,rfl,htp,hC,H,W₆,dis₆,hv₆,nD₆⟩
  obtain ⟨fI,hx⟩:=exc_of (w:=w) hC
  refine held_again rfl H (catch_all_core (fI:=fI) (K:=Mine.hd.heap_1 w.params) (Around.frames_deeper hA) rfl rfl rfl rfl KB.out hBf XB TB hx F₆.above (fun KX' TX' F' q=>?hname) H ?_)
  case hname=>
   k_steps
   exact q
  intro h₇ g₇ tk₇ oe T oT t TT KB₇ KX₇ TX₇ F₇ N₇ ER ne₇ nT₇
  have KB₇:=Opq.mk KB₇
  subst hwr
  simp only [List.cons_append,List.nil_append] at N₇
  clear F₅ F₆ N₅
  k_steps
  have N₇':=N₇
  have disA:∀ p∈(ea,oe)::(T,oT)::(D,listOf (List.toArray ((sortMg ml).map fun μ=>.ref μ.M)) c₅)::(L'+1,oc)::(X,instObj 501 dx)::(dx,dictOf (txEs x st ts rs W O ad vt₆ ex ftb b1 b2 b3 b4) 12)::(rs,listOf items kr)::(vt₆,listOf vits₆ kv₆)::[(W,instObj 153 dW),(dW,wsDict wh wt dl),(dl,listOf #[] kl),(422,tabObj ps)],p.1∉rest₆.map (·.1):=
   nms_cons (nmem fun q hq=>ne₇ q (List.mem_append_right _ hq)) (nms_cons (nmem fun q hq=>nT₇ q (List.mem_append_right _ hq)) dis₆)
  obtain ⟨oe',vs,oT',ts',he1,hT1,hec,hed,he0,heT,he2,hTd,hT3⟩:=ER.h
  have eoe:oe'=oe:=by
   rcases List.mem_cons.mp he1 with q|q
   ·exact (Prod.mk.inj q).2
   ·exact absurd (Prod.mk.inj (List.mem_singleton.mp q)).1 (Ne.symm ER.ne)
  subst eoe
  have hi₆:(List.toArray ((sortMg ml).map fun μ:Mg=>Value.ref μ.M)).toList=(sortMg ml).map fun μ=>.ref μ.M:=rfl
  refine wpAny_call (cleanup_ (B:=g₇) (rest:=rest₆) (voted:=voted) (ml:=sortMg ml) (μs:=μs) (σ:=σ₆) (rows:=rows₆) (lg:=lg) (e:=ea) KX₇ (topRead_of TX₇) F₇.keep ?room (N₇ _ eM4).1 (N₇ _ eM5).1 (N₇ _ eM7).1 (N₇ _ eM2).1 (N₇ _ (.head _)).1 hed he2 rfl
   (fun p hp=>(N₇ p ?mem).1) (N₇ _ eM4).2.2 (N₇ _ eM5).2.2 (N₇ _ eM7).2.2 (N₇ _ eM2).2.2 (N₇ _ (.head _)).2.2 (fun p hp=>(N₇ p ?mem2).2.2)
   W₆ hi₆ ?hv (fun μ h=>hm μ (mem_sortMg h)) ?hvm ?hz ?hl (Around.frames_deeper hA) ?hS ?hDs ?hdis ?hnD ?post)
  case mem=>exact eT8 (eT4 hp)
  case mem2=>exact eT8 (eT4 hp)
  case room=>show A.depth+1+40<recursionLimit; omega
  case hv=>rw [hv₆,hvz]; rfl
  case hvm=>exact fun μ h=>hm μ (mem_sortMg (tryPart_voted htp μ h))
  case hz=>
   have:=tryPart_len htp
   rw [sortMg_len hl] at this
   replace hl:=le25 hl
   omega
  case hl=>
   rw [sortMg_len hl]
   exact le25 hl
  case hS=>
   refine (stk_of KB₇.out).push (Λ:=[]) rfl F₇ N₇ rfl rfl (ns_cons ⟨_,eM2,rfl⟩ (ns_cons ⟨_,eM4,rfl⟩ (ns_cons ⟨(dx,dictOf (txEs x st ts rs W O ad vt₆ ex ftb b1 b2 b3 b4) 12),eM5,rfl⟩ (ns_cons ⟨_,eM7,rfl⟩ (ns_cons ⟨_,.head _,rfl⟩ fun a ha=>?_)))))
   obtain ⟨p,hp,rfl⟩:=List.mem_map.mp ha
   exact ⟨p,eT8 (eT4 hp),rfl⟩
  case hDs=>
   obtain ⟨n,hn,μ,hμ,hf⟩:=tryPart_some htp
   exact hPl.clean (ml:=ml) hn (hm μ (mem_sortMg hμ)) hf
  case hdis=>
   exact nms_cons (disA _ eM2) (nms_cons (disA _ eM4) (nms_cons (disA (dx,dictOf (txEs x st ts rs W O ad vt₆ ex ftb b1 b2 b3 b4) 12) eM5) (nms_cons (disA _ eM7) (nms_cons (disA _ (.head _)) nms_nil))))
  case hnD=>
   exact ⟨(nD₆ _ eM1).symm,(nD₆ (dx,_) eM2).symm,(nD₆ _ eM4).symm,ne₇ _ (.head _)⟩
  case post=>
   intro h₈ tk₈ rest₈ W₈ hg₈ hm₈ hf₈ hd₈
   obtain ⟨F₈,N₈,dis₈⟩:=after_mod (rest':=rest₈) F₇ N₇ hm₈ disA hg₈ hf₈
   simp only [List.cons_append,List.nil_append] at N₈
   clear F₇ N₇ N₇'
   k_steps
   refine kla_eval rfl ?_
   have a1:@Ne Nat ea 422:=(ne₇ (422,_) (eT8 eM1)).symm
   have a2:@Ne Nat T 422:=(nT₇ (422,_) (eT8 eM1)).symm
   have a3:@Ne Nat D 422:=(nD₆ (422,_) eM8).symm
   have a4:@Ne Nat (L'+1) 422:=by have h1:@LT.lt Nat _ 422 L':=l1' (422,tabObj ps) eM7; omega
   have a5:@Ne Nat vt₆ 422:=news_ne N₈ eM7 (eT8 eM3) ne_tab_list
   have a6:∀ p∈rest₈,p.1≠422:=fun p hp e=>dis₈ (422,tabObj ps) (eT8 eM3) (e ▸ List.mem_map_of_mem (f:=(·.1)) hp)
   have a7:=n422
   simp only [List.forall_mem_cons] at a7
   obtain ⟨a7,a8,a9,-,b7,b8,b9,-⟩:=a7
   replace a7:=neN a7
   replace a8:=neN a8
   replace a9:=neN a9
   replace b7:=neN b7
   replace b8:=neN b8
   replace b9:=neN b9
   have CH:CodeHd g₇ 426 422:=codeHd_of_K KX₇ (by kernel_rfl)
   refine lam_any F₈ N₈ TX₇ CH rfl (by k_updF) hps rfl fun fl h₉ tk₉ ps₉ hps₉ F₉ N₉=>?_
   clear F₈ N₈
   k_steps
   have i9:∀ {q:Addr×Obj},q∈[(W,instObj 153 dW),(dW,wsDict wh wt dl),(dl,listOf #[] kl),(422,tabObj ps₉)]→q∈(ea,oe')::(T,oT)::(D,listOf (List.toArray ((sortMg ml).map fun μ=>.ref μ.M)) c₅)::(L'+1,oc)::(X,instObj 501 dx)::(dx,dictOf (txEs x st ts rs W O ad vt₆ ex ftb b1 b2 b3 b4) 12)::(rs,listOf items kr)::(vt₆,listOf vits₆ kv₆)::([(W,instObj 153 dW),(dW,wsDict wh wt dl),(dl,listOf #[] kl),(422,tabObj ps₉)]++rest₈):=
    fun h=>eT8 (List.mem_append_left _ h)
   have c1:=N₉ _ (i9 (.head _))
   have c2:=N₉ _ (i9 eM1)
   have c3:=N₉ _ (i9 eM2)
   have c4:=N₉ _ (.head _)
   refine wpAny_call (wmap (B:=g₇) (ex:=[(ea,oe')]) KX₇ (topRead_of TX₇) F₉.keep (by show A.depth+1+8<recursionLimit; omega) c1.1 c2.1 c3.1 (nms_cons c4.1 nms_nil) c1.2.2 c2.2.2 c3.2.2 (nms_cons c4.2.2 nms_nil) (.inr ⟨ea,oe',vs,rfl,.head _,hed,he2⟩) fun h₁₀ tk₁₀ hm₁₀=>?_)
   have F₁₀:=fr_mod0 F₉ hm₁₀
   have N₁₀:=news_mod0 N₉ hm₁₀
   clear F₉ N₉
   k_steps
   have ER':ExcR ((ea,oe')::(T,oT)::(D,listOf (List.toArray ((sortMg ml).map fun μ=>.ref μ.M)) c₅)::(L'+1,oc)::(X,instObj 501 dx)::(dx,dictOf (txEs x st ts rs W O ad vt₆ ex ftb b1 b2 b3 b4) 12)::(rs,listOf items kr)::(vt₆,listOf vits₆ kv₆)::(W,instObj 153 dW)::(dW,wsDict wh wt dl)::(dl,listOf #[] kl)::(422,tabObj ps₉)::rest₈) Cx ea t T:=ER.mono fun p hp=>(List.mem_cons.mp hp).elim (fun e=>e ▸ .head _) fun hp=>List.mem_singleton.mp hp ▸ eM1
   refine' rethrow (L:=L') (g:=g₇) (outer:=outer) (A₀:=A) (B:=B) ?p1 ?p2 ?p3 ?p4 ?p5 ?p6 ?p7 ?p8 ?p9 ?p10 ?p11 ?p12 ?p13
   case p1=>exact Around.frames_deeper hA
   case p2=>rfl
   case p3=>rfl
   case p4=>rfl
   case p5=>rfl
   case p6=>exact KB₇.out
   case p7=>exact KX₇
   case p8=>exact hx
   case p9=>exact F₁₀
   case p10=>exact N₁₀
   case p11=>exact ER'
   case p12=>
    intro Q' E' q
    k_steps
    exact q
   intro h₁₁ tk₁₁ U₁₁ keep₁₁
   refine leave2_held rfl U₁₁ fun h₁₂ U₁₂ x₁₂=>?_
   refine hno h₁₂ _ rest₈ σ₆ rows₆ kd Cx ea voted vt₆ vits₆ kv₆ ps₉ htp hC hps₉ (by rw [hv₆,hvz]; rfl) W₈ (thrown_of S rfl (hg ▸ TT) KB₇.out rfl F₁₀ N₁₀ ⟨_,.head _⟩ ⟨_,eM1⟩ U₁₂ (fun b o hb ho hno=>?keep) fun p hp=>⟨?s1,?s2,?s3⟩) ?dis
   case keep=>
    obtain ⟨sl,hs⟩:=keep₁₁ b o hb ho hno
    obtain ⟨sl',hs'⟩:=x₁₂ b _ hs hno
    exact ⟨sl',hs'⟩
   case s1=>exact eT4 hp
   case s2=>
    rcases List.mem_append.mp hp with hp|hp
    ·exact nms_cons (P:=fun p=>p.1≠ea) (ne₇ _ eM2) (nms_cons (ne₇ (dx,dictOf (txEs x st ts rs W O ad vt₆ ex ftb b1 b2 b3 b4) 12) eM3) (nms_cons (ne₇ _ eM4) (nms_cons (ne₇ _ eM5) (nms_cons (ne₇ _ eM6) (nms_cons (ne₇ _ eM7) (nms_cons (ne₇ _ eM8) (nms_cons (a:=(422,tabObj ps₉)) (ne₇ (422,tabObj ps) (eT8 eM1)) nms_nil))))))) p hp
    ·exact fun q=>dis₈ _ (.head _) (q ▸ List.mem_map_of_mem (f:=(·.1)) hp)
   case s3=>
    rcases List.mem_append.mp hp with hp|hp
    ·exact nms_cons (P:=fun p=>p.1≠T) (nT₇ _ eM2) (nms_cons (nT₇ (dx,dictOf (txEs x st ts rs W O ad vt₆ ex ftb b1 b2 b3 b4) 12) eM3) (nms_cons (nT₇ _ eM4) (nms_cons (nT₇ _ eM5) (nms_cons (nT₇ _ eM6) (nms_cons (nT₇ _ eM7) (nms_cons (nT₇ _ eM8) (nms_cons (a:=(422,tabObj ps₉)) (nT₇ (422,tabObj ps) (eT8 eM1)) nms_nil))))))) p hp
    ·exact fun q=>dis₈ _ eM1 (q ▸ List.mem_map_of_mem (f:=(·.1)) hp)
   case dis=>exact nms_cons (dis₈ _ eM4) (nms_cons (dis₈ (dx,dictOf (txEs x st ts rs W O ad vt₆ ex ftb b1 b2 b3 b4) 12) eM5) (nms_cons (dis₈ _ eM6) (nms_cons (dis₈ _ eM7) (nms_cons (dis₈ _ eM8) (nms_cons (dis₈ _ (eT8 eM1)) (nms_cons (dis₈ _ (eT8 eM2)) (nms_cons (dis₈ (422,tabObj ps) (eT8 eM3)) nms_nil)))))))
 case body=>
 k_steps
 refine wpAny_For ?_
 k_steps
 refine loop_m (name:=Str.ofString "tpc_begin") (f:=fun s=>s) (P:=fun _ _=>True) (Nm:=fun _ nm=>nm=(L'+1,oc)::(X,instObj 501 dx)::(dx,dictOf (txEs x st ts rs W O ad vt ex ftb b1 b2 b3 b4) 12)::(rs,listOf items kr)::(vt,listOf vits kv)::wr) (ml:=sortMg ml) (rows:=rows) (σ:=σ) (rest:=rest) (outer:=outer) (lg:=lg) (μs:=μs)
  (named:=(L'+1,oc)::(X,instObj 501 dx)::(dx,dictOf (txEs x st ts rs W O ad vt ex ftb b1 b2 b3 b4) 12)::(rs,listOf items kr)::(vt,listOf vits kv)::wr) (Around.frames_deeper hA) rfl rfl rfl rfl (fun _ _ _=>.inl hh) rfl F₆ N₅ (fun p hp=>Nat.ne_of_lt (l3 p hp)) WD ?dis rfl (fun μ h=>hm μ (mem_sortMg h)) ?hz trivial (fun _ _ _ _ _=>trivial) ?turn ?ok ?no
 case hz=>rw [sortMg_len hl]; exact fin900 hz (le25 hl) rfl
 case dis=>
  refine nms_cons (nmem fun q hq=>Nat.ne_of_lt (l3 q (List.mem_append_right ((L'+1,oc)::(X,instObj 501 dx)::(dx,dictOf (txEs x st ts rs W O ad vt ex ftb b1 b2 b3 b4) 12)::(rs,listOf items kr)::(vt,listOf vits kv)::wr) hq))) (nms_cons (nmem fun q hq=>Nat.ne_of_lt (Nat.lt_succ_of_lt (l1' q (eT4 (List.mem_append_right _ hq))))) (nms_cons (nmem nX) (nms_cons (nmem ndr) (nms_cons (nmem nrs) (nms_cons (nmem nvt) hdw)))))
 case no=>
  rintro h' tk' named rest' σ' rows' ea kd Cx rv i μ hph hμ hf hb hc rfl H W' dis' nD' _
  refine ⟨h',tk',rest',σ',rows',ea,kd,Cx,rv,vt,vits,kv,[],rfl,rfl,?_,hc,H,W',dis',by simp,nD'⟩
  exact tp1 hph
 case ok=>
  rintro h₆ tk₆ _ rest₁ σ₁ rows₁ rv₁ hph₁ hok₁ rfl W₁ dis₁ nD₁ _ F₇ N₇
  simp only [List.cons_append,List.nil_append] at N₇
  clear F₅ F₆ N₅
  have hz₁:=phase_len hph₁
  k_steps
  refine wpAny_For ?_
  k_steps
  refine loop_m (name:=Str.ofString "commit") (f:=fC) (P:=fun _ _=>True) (Nm:=fun _ nm=>nm=(L'+1,oc)::(X,instObj 501 dx)::(dx,dictOf (txEs x st ts rs W O ad vt ex ftb b1 b2 b3 b4) 12)::(rs,listOf items kr)::(vt,listOf vits kv)::wr) (ml:=sortMg ml) (rows:=rows₁) (σ:=σ₁) (rest:=rest₁) (outer:=outer) (lg:=lg) (μs:=μs)
   (named:=(L'+1,oc)::(X,instObj 501 dx)::(dx,dictOf (txEs x st ts rs W O ad vt ex ftb b1 b2 b3 b4) 12)::(rs,listOf items kr)::(vt,listOf vits kv)::wr) (Around.frames_deeper hA) rfl rfl rfl rfl (fun _ _ _=>.inl hh) rfl F₇ N₇ ?nD2 W₁ dis₁ rfl (fun μ h=>hm μ (mem_sortMg h)) ?hz2 trivial (fun _ _ _ _ _=>trivial) ?turn2 ?ok2 ?no2
  case hz2=>rw [sortMg_len hl] at hz₁ ⊢; exact fin900 (up5 hz hz₁ (le25 hl)) (le25 hl) rfl
  case nD2=>
   intro p hp
   rcases List.mem_append.mp hp with hp|hp
   ·exact nD₁ p hp
   ·exact fun e=>dis₁ _ (.head _) (e ▸ List.mem_map_of_mem (f:=(·.1)) hp)
  case no2=>
   rintro h' tk' named rest' σ' rows' ea kd Cx rv i μ hph hμ hf hb hc rfl H W' dis' nD' _
   refine ⟨h',tk',rest',σ',rows',ea,kd,Cx,rv,vt,vits,kv,[],rfl,rfl,?_,hc,held_same H (fun y=>by split<;>rfl),W',dis',by simp,nD'⟩
   exact tp2 hph₁ hph
  case ok2=>
   rintro h₈ tk₈ _ rest₂ σ₂ rows₂ rv₂ hph₂ hok₂ rfl W₂ dis₂ nD₂ _ F₈ N₈
   simp only [List.cons_append,List.nil_append] at N₈
   clear F₇ N₇
   have hz₂:=phase_len hph₂
   k_steps
   refine wpAny_For ?_
   k_steps
   have kq1:@Ne Nat X dx:=fun e=>by rw [e,hdx] at hX; cases hX
   have kq2:@Ne Nat (L'+1) dx:=by have h1:@LT.lt Nat _ dx L':=l1' _ eM1; omega
   have kq3:@Ne Nat rs dx:=fun e=>by rw [e,hdx] at hrs; simp [dictOf,PySem.W.listOf] at hrs
   have kq4:@Ne Nat vt dx:=fun e=>by rw [e,hdx] at hvt; simp [dictOf,PySem.W.listOf] at hvt
   refine loop_m (name:=Str.ofString "tpc_vote") (f:=fun s=>s) (P:=fun _ _=>True) (Nm:=fun i nm=>∃ vt' vits' kv',nm=(L'+1,oc)::(X,instObj 501 dx)::(dx,dictOf (txEs x st ts rs W O ad vt' ex ftb b1 b2 b3 b4) 12)::(rs,listOf items kr)::(vt',listOf vits' kv')::wr∧vits'.toList=vits.toList++((sortMg ml).take i).map (fun μ=>.ref μ.M)∧@Ne Nat vt' dx) (ml:=sortMg ml) (rows:=rows₂) (σ:=σ₂) (rest:=rest₂) (outer:=outer) (lg:=lg) (μs:=μs)
    (named:=(L'+1,oc)::(X,instObj 501 dx)::(dx,dictOf (txEs x st ts rs W O ad vt ex ftb b1 b2 b3 b4) 12)::(rs,listOf items kr)::(vt,listOf vits kv)::wr) (Around.frames_deeper hA) rfl rfl rfl rfl (fun _ _ _=>.inl hh) ⟨vt,vits,kv,rfl,by simp,kq4⟩ F₈ N₈ ?nD3 W₂ dis₂ rfl (fun μ h=>hm μ (mem_sortMg h)) ?hz3 trivial (fun _ _ _ _ _=>trivial) ?turn3 ?ok3 ?no3
   case hz3=>rw [sortMg_len hl] at hz₁ hz₂ ⊢; exact fin900 (up5 (up5 hz hz₁ (le25 hl)) hz₂ (le25 hl)) (le25 hl) rfl
   case nD3=>
    intro p hp
    rcases List.mem_append.mp hp with hp|hp
    ·exact nD₂ p hp
    ·exact fun e=>dis₂ _ (.head _) (e ▸ List.mem_map_of_mem (f:=(·.1)) hp)
   case no3=>
    rintro h' tk' named rest' σ' rows' ea kd Cx rv i μ hph hμ hf hb hc ⟨vt',vits',kv',rfl,hv',_⟩ H W' dis' nD' _
    refine ⟨h',tk',rest',σ',rows',ea,kd,Cx,rv,vt',vits',kv',(sortMg ml).take i,rfl,rfl,?_,hc,held_same H (fun y=>by split<;>first|rfl|(split<;>rfl)),W',dis',hv',nD'⟩
    exact (tp3 hph₁ hph₂ hph).trans (by rw [takeWhile_at hμ (by rw [hf]; rfl) (fun j ν hj hν=>by rw [hb j ν hj hν]; rfl)])
   case ok3=>
    rintro hx tkx _ restx σx rowsx rvx hphx hokx ⟨vt',vits',kv',rfl,hv',kq5⟩ Wx disx nDx _ Fx Nx
    simp only [List.cons_append,List.nil_append] at Nx
    clear F₈ N₈
    have hz₃:=phase_len hphx
    have hndS:=sortMg_nodup hl hnd
    have hready:∀ μ∈sortMg ml,((σx μ.M).ready).isSome=true:=fun μ hμ=>by
     have e2:=(phase_all (f:=fC) (σ:=σ₁) (rows:=rows₁) hok₂ hndS).symm.trans hph₂
     have e3:=(phase_all (f:=fun s=>s) (σ:=σ₂) (rows:=rows₂) hokx hndS).symm.trans hphx
     injection e2 with e2 _
     injection e3 with e3 _
     have hM:μ.M∈(sortMg ml).map (·.M):=List.mem_map_of_mem (f:=(·.M)) hμ
     rw [←e3,←e2]
     dsimp only
     rw [if_pos hM,if_pos hM]
     rfl
    k_steps
    refine wpAny_For ?_
    k_steps
    refine loop_m (name:=Str.ofString "tpc_finish") (f:=fF) (P:=fun i σ=>∀ μ∈(sortMg ml).drop i,((σ μ.M).ready).isSome=true) (Nm:=fun _ nm=>nm=(L'+1,oc)::(X,instObj 501 dx)::(dx,dictOf (txEs x st ts rs W O ad vt' ex ftb b1 b2 b3 b4) 12)::(rs,listOf items kr)::(vt',listOf vits' kv')::wr) (ml:=sortMg ml) (rows:=rowsx) (σ:=σx) (rest:=restx) (outer:=outer) (lg:=lg) (μs:=μs)
     (named:=(L'+1,oc)::(X,instObj 501 dx)::(dx,dictOf (txEs x st ts rs W O ad vt' ex ftb b1 b2 b3 b4) 12)::(rs,listOf items kr)::(vt',listOf vits' kv')::wr) (Around.frames_deeper hA) rfl rfl rfl rfl (fun _ _ _=>.inl hh) rfl Fx Nx ?nD4 Wx disx rfl (fun μ h=>hm μ (mem_sortMg h)) ?hz4 hready ?hP4 ?turn4 ?ok4 ?no4
    case hz4=>rw [sortMg_len hl] at hz₁ hz₂ hz₃ ⊢; exact fin900 (up5 (up5 (up5 hz hz₁ (le25 hl)) hz₂ (le25 hl)) hz₃ (le25 hl)) (le25 hl) rfl
    case hP4=>
     intro i μ σi hμ hP ν hν
     have hlt:i<(sortMg ml).length:=(List.getElem?_eq_some_iff.mp hμ).1
     have hd:(sortMg ml).drop i=μ::(sortMg ml).drop (i+1):=by
      rw [List.drop_eq_getElem_cons hlt]
      congr 1
      exact (List.getElem?_eq_some_iff.mp hμ).2
     have hn:(((sortMg ml).drop i).map (·.M)).Nodup:=by
      rw [List.map_drop]
      exact hndS.sublist (List.drop_sublist _ _)
     rw [hd,List.map_cons,List.nodup_cons] at hn
     have hne:ν.M≠μ.M:=fun e=>hn.1 (e ▸ List.mem_map_of_mem (f:=(·.M)) hν)
     unfold upd
     rw [if_neg hne]
     exact hP ν (by rw [hd]; exact .tail _ hν)
    case nD4=>
     intro p hp
     rcases List.mem_append.mp hp with hp|hp
     ·exact nDx p hp
     ·exact fun e=>disx _ (.head _) (e ▸ List.mem_map_of_mem (f:=(·.1)) hp)
    case no4=>
     rintro h' tk' named rest' σ' rows' ea kd Cx rv i μ hph hμ hf hb hc rfl H W' dis' nD' _
     refine ⟨h',tk',rest',σ',rows',ea,kd,Cx,rv,vt',vits',kv',sortMg ml,rfl,rfl,?_,hc,held_same H (fun y=>by split<;>first|rfl|(split<;>first|rfl|(split<;>rfl))),W',dis',by rw [hv',List.take_length],nD'⟩
     exact (tp4 hph₁ hph₂ hphx).trans (by rw [hph])
    case ok4=>
     rintro hy tky _ resty σy rowsy rvy hphy hoky rfl Wy disy nDy _ Fy Ny
     simp only [List.cons_append,List.nil_append] at Ny
     clear Fx Nx
     k_steps
     refine hok hy _ resty σy rowsy (sortMg ml) vt' vits' kv' ?_ Wy (by rw [hv',hvz,List.take_length]; rfl) (done_of (by rw [hg]; rfl) Fy Ny (fun p hp=>eT2 hp) fun p hp=>disy p (eT2 hp))
     exact (tp4 hph₁ hph₂ hphx).trans (by rw [hphy])
    case turn4=>
     rintro i μ it oi _ restq σi rowsi h₉ tk₉ hμ hμs rfl Wq disq hPi hzq nit nDq Fq Nq
     have O₁:=Wq.mg μ hμs
     obtain ⟨t5,t6,rv,hd,_⟩:=O₁.dict
     have hlt:i<(sortMg ml).length:=(List.getElem?_eq_some_iff.mp hμ).1
     obtain ⟨v₀,hv₀⟩:=Option.isSome_iff_exists.mp (hPi μ (by
      rw [List.drop_eq_getElem_cons hlt]
      have:=(List.getElem?_eq_some_iff.mp hμ).2
      rw [this]; exact .head _))
     have hfF:fF (σi μ.M)=⟨v₀,(σi μ.M).value,none⟩:=by unfold fF; rw [hv₀]; rfl
     have Na:=news_cons (Nq _ (List.mem_append_right _ O₁.inst)) (news_cons (Nq _ (List.mem_append_right _ hd)) Nq)
     have hlk:=hDs μ hμs (Str.ofString "tpc_finish")
     have hlk':PySem.Spec.lookup (.str (Str.ofString "tpc_finish")) μ.D=none ∨ ((A.deeper (envOfC (Str.ofString "Transaction._commitResources") scCR L' 427 (.ref 426))).handled=none∧(PySem.Spec.lookup (.str (Str.ofString "tpc_finish")) μ.D=some (.int 1) ∨ PySem.Spec.lookup (.str (Str.ofString "tpc_finish")) μ.D=some (.int 2))):=hlk.imp id fun q=>⟨hh,q⟩
     rcases O₁.cls with hC|hC
     all_goals
      rw [hC] at Na
      simp only [List.cons_append,List.nil_append] at Na
      clear Fx Nx
      k_steps
      refine w_tpc_finish (v₀:=v₀) (Around.frames_deeper hA) S hg rfl rfl KX TX Fq Nq Wq hμs disq (by k_room) hzq hv₀ hlk' ?_ ?_
      ·intro hn hb tkb restb Fb Nb Wb disb
       k_steps
       exact Opq.mk ⟨rfl,fails_none hn,hb,_,_,restb,rfl,rfl,hfF ▸ Wb,disb,nit,nDq,Fb,Nb⟩
      ·intro kd Cx hkd hc hb tkb e restb TH Wb disb
       exact Opq.mk ⟨e,kd,Cx,hb,_,restb,rfl,rfl,fails_some hkd,hc,TH,Wb,disb⟩
   case turn3=>
    rintro i μ it oi _ rest₃ σi rowsi h₉ tk₉ hμ hμs ⟨vt',vits',kv',rfl,hv',kq5⟩ W₃ dis₃ _ hz₃ nit nD₃ F₉ N₉
    have O₁:=W₃.mg μ hμs
    obtain ⟨t5,t6,rv,hd,_⟩:=O₁.dict
    have Na:=news_cons (N₉ _ (List.mem_append_right _ O₁.inst)) (news_cons (N₉ _ (List.mem_append_right _ hd)) N₉)
    have hlk:=hDs μ hμs (Str.ofString "tpc_vote")
    have hlk':PySem.Spec.lookup (.str (Str.ofString "tpc_vote")) μ.D=none ∨ ((A.deeper (envOfC (Str.ofString "Transaction._commitResources") scCR L' 427 (.ref 426))).handled=none∧(PySem.Spec.lookup (.str (Str.ofString "tpc_vote")) μ.D=some (.int 1) ∨ PySem.Spec.lookup (.str (Str.ofString "tpc_vote")) μ.D=some (.int 2))):=hlk.imp id fun q=>⟨hh,q⟩
    rcases O₁.cls with hC|hC
    all_goals
     rw [hC] at Na
     simp only [List.cons_append,List.nil_append] at Na
     clear F₈ N₈
     k_steps
     refine w_tpc_vote (Around.frames_deeper hA) S hg rfl rfl KX TX F₉ N₉ W₃ hμs dis₃ (by k_room) hz₃ hlk' ?_ ?_
     ·intro hn hb tkb restb Fb Nb Wb disb
      simp only [List.cons_append,List.nil_append] at Nb
      have kq6:∀ p∈wr++restb,p.1≠dx:=fun p hp e=>(List.mem_append.mp hp).elim (fun hp=>ndw p hp e) fun hp=>disb (dx,dictOf (txEs x st ts rs W O ad vt' ex ftb b1 b2 b3 b4) 12) eM4 (e ▸ List.mem_map_of_mem (f:=(·.1)) hp)
      have kq7:@Ne Nat it dx:=fun e=>nit (dx,dictOf (txEs x st ts rs W O ad vt' ex ftb b1 b2 b3 b4) 12) eM3 e.symm
      have kq8:@Ne Nat D dx:=fun e=>nD₃ (dx,dictOf (txEs x st ts rs W O ad vt' ex ftb b1 b2 b3 b4) 12) eM2 e.symm
      clear Na
      k_steps
      rename Fr _ _ _ _=>Fc
      rename News _ _ _ _=>Nc
      refine add_mine Fc Nc eM7 (.head _) ?_ fun nl hd Fd Nd ld=>?_
      ·have h1:vits'.toList.length ≤ vits.toList.length+5:=by
        rw [hv',List.length_append,List.length_map,List.length_take,sortMg_len hl]
        exact Nat.add_le_add_left (Nat.le_trans (Nat.min_le_right _ _) (le25 hl)) _
       rw [Array.length_toList,Array.length_toList] at h1
       rw [sizeLine_eq]
       simp only [List.size_toArray,List.length_cons,List.length_nil]
       omega
      have kq9:@LT.lt Nat _ dx nl:=ld (dx,dictOf (txEs x st ts rs W O ad vt' ex ftb b1 b2 b3 b4) 12) eM5
      k_steps
      rename Fr _ _ _ _=>Fe
      rename News _ _ _ _=>Ng
      refine Opq.mk ⟨rfl,fails_none hn,_,_,(L'+1,oc)::(X,instObj 501 dx)::(dx,dictOf (txEs x st ts rs W O ad nl ex ftb b1 b2 b3 b4) 12)::(rs,listOf items kr)::(nl,listOf (vits'++#[.ref μ.M]) 0)::wr,restb,rfl,⟨nl,vits'++#[.ref μ.M],0,rfl,?_,Nat.ne_of_gt kq9⟩,Wb,?_,?_,?_,Fe,?_⟩
      ·rw [Array.toList_append,hv',List.take_add_one,hμ,List.map_append,List.append_assoc]; rfl
      ·refine nms_cons (disb _ (.head _)) (nms_cons (disb _ eM1) (nms_cons (disb _ eM2) (nms_cons (disb _ eM3) (nms_cons (disb (dx,dictOf (txEs x st ts rs W O ad vt' ex ftb b1 b2 b3 b4) 12) eM4) (nms_cons (disb _ eM5) (nms_cons (nmem fun q hq=>Nat.ne_of_lt (ld q (eT8 (List.mem_append_right _ hq)))) fun p hp=>disb p (eT7 hp)))))))
      ·refine nms_cons (nit _ (.head _)) (nms_cons (nit _ eM1) (nms_cons (nit _ eM2) (nms_cons (nit (dx,dictOf (txEs x st ts rs W O ad vt' ex ftb b1 b2 b3 b4) 12) eM3) (nms_cons (nit _ eM4) (nms_cons (Nat.ne_of_gt (ld (it,oi) eM1)) fun p hp=>nit p (eT6 hp))))))
      ·refine nms_cons (nD₃ _ (.head _)) (nms_cons (nD₃ _ eM1) (nms_cons (nD₃ (dx,dictOf (txEs x st ts rs W O ad vt' ex ftb b1 b2 b3 b4) 12) eM2) (nms_cons (nD₃ _ eM3) (nms_cons (Nat.ne_of_gt (ld (D,_) eM2)) fun p hp=>nD₃ p (eT5 hp)))))
      ·intro p hp
       simp only [List.cons_append,List.nil_append,List.mem_cons] at hp
       rcases hp with rfl|rfl|rfl|rfl|rfl|rfl|rfl|hp
       ·exact Ng _ eM2
       ·exact Ng _ eM3
       ·exact Ng _ eM4
       ·exact Ng _ eM5
       ·exact Ng _ eM6
       ·exact Ng _ eM7
       ·exact Ng _ (.head _)
       ·exact Ng _ (eT8 (.tail _ hp))
     ·intro kd Cx hkd hc hb tkb e restb TH Wb disb
      exact Opq.mk ⟨e,kd,Cx,hb,_,restb,rfl,rfl,fails_some hkd,hc,TH,Wb,disb⟩
  case turn2=>
   rintro i μ it oi _ rest₃ σi rowsi h₉ tk₉ hμ hμs rfl W₃ dis₃ _ hz₃ nit nD₃ F₉ N₉
   have O₁:=W₃.mg μ hμs
   obtain ⟨t5,t6,rv,hd,_⟩:=O₁.dict
   have Na:=news_cons (N₉ _ (List.mem_append_right _ O₁.inst)) (news_cons (N₉ _ (List.mem_append_right _ hd)) N₉)
   have hlk:=hDs μ hμs (Str.ofString "commit")
   have hlk':PySem.Spec.lookup (.str (Str.ofString "commit")) μ.D=none ∨ ((A.deeper (envOfC (Str.ofString "Transaction._commitResources") scCR L' 427 (.ref 426))).handled=none∧(PySem.Spec.lookup (.str (Str.ofString "commit")) μ.D=some (.int 1) ∨ PySem.Spec.lookup (.str (Str.ofString "commit")) μ.D=some (.int 2))):=hlk.imp id fun q=>⟨hh,q⟩
   rcases O₁.cls with hC|hC
   all_goals
    rw [hC] at Na
    simp only [List.cons_append,List.nil_append] at Na
    clear F₇ N₇
    k_steps
    refine w_commit (Around.frames_deeper hA) S hg rfl rfl KX TX F₉ N₉ W₃ hμs dis₃ (by k_room) hz₃ hlk' ?_ ?_
    ·intro hn hb tkb restb Fb Nb Wb disb
     k_steps
     exact Opq.mk ⟨rfl,fails_none hn,hb,_,_,restb,rfl,rfl,Wb,disb,nit,nD₃,Fb,Nb⟩
    ·intro kd Cx hkd hc hb tkb e restb TH Wb disb
     exact Opq.mk ⟨e,kd,Cx,hb,_,restb,rfl,rfl,fails_some hkd,hc,TH,Wb,disb⟩
 case turn=>
  rintro i μ it oi _ rest₁ σi rowsi h₆ tk₆ hμ hμs rfl W₁ dis₁ _ hz₁ nit nD₁ F₇ N₇
  have O₁:=W₁.mg μ hμs
  obtain ⟨t5,t6,rv,hd,_⟩:=O₁.dict
  have N₈:=news_cons (N₇ _ (List.mem_append_right _ O₁.inst)) (news_cons (N₇ _ (List.mem_append_right _ hd)) N₇)
  have hlk:=hDs μ hμs (Str.ofString "tpc_begin")
  have hlk':PySem.Spec.lookup (.str (Str.ofString "tpc_begin")) μ.D=none ∨ ((A.deeper (envOfC (Str.ofString "Transaction._commitResources") scCR L' 427 (.ref 426))).handled=none∧(PySem.Spec.lookup (.str (Str.ofString "tpc_begin")) μ.D=some (.int 1) ∨ PySem.Spec.lookup (.str (Str.ofString "tpc_begin")) μ.D=some (.int 2))):=hlk.imp id fun q=>⟨hh,q⟩
  rcases O₁.cls with hC|hC
  all_goals
   rw [hC] at N₈
   simp only [List.cons_append,List.nil_append] at N₈
   clear F₅ F₆ N₅
   k_steps
   refine w_tpc_begin (Around.frames_deeper hA) S hg rfl rfl KX TX F₇ N₇ W₁ hμs dis₁ (by k_room) hz₁ hlk' ?_ ?_
   ·intro hn h₈ tk₈ rest₂ F₈ N₉ W₂ dis₂
    k_steps
    exact Opq.mk ⟨rfl,fails_none hn,h₈,_,_,rest₂,rfl,rfl,W₂,dis₂,nit,nD₁,F₈,N₉⟩
   ·intro kd Cx hkd hc h₈ tk₈ e rest₂ TH W₂ dis₂
    exact Opq.mk ⟨e,kd,Cx,h₈,_,rest₂,rfl,rfl,fails_some hkd,hc,TH,W₂,dis₂⟩
theorem Z0cm:Z0cb.1 Z0c.g Z0c.L' Z0c.h₁:=R1tb.2 (fun tk zR1t1 oc zR1t5 D c h₃ zR1t6 zR1t7 h₅ tk₅ c₅ m₀=>eps0 R1t_dq R1t_d rfl (by with_unfolding_all exact R1t_m) ((tk,zR1t1,oc,zR1t5,D,c),(h₃,zR1t6,zR1t7,h₅,tk₅,c₅),m₀))
theorem commitRes {w:World} {A:Around} {s:Shared} {B:Heap} {X dx rs W O ad vt ex b1 b2 b3 b4:Addr} {x:Mk} {st:Str} {ts:Tok} {items vits:Array Value} {kr kv:Nat} {ftb:Value} {R:Rp} {loose:List Str} {mean:ExcName→Option Value} {mg mb:Sm} {rest:Rest} {outer:List Env} {lg:Addr} {μs ml:List Mg} {σ:Addr→Ms} {rows:List (Str×Str)} {dW dl:Addr} {wh:Int} {wt:Tok} {kl:Nat} {ps:Array Value} {wr:Rest} {stp:Str} {kdp:Int} {at_:Addr} (XB:(hd.heap_1 w.params).In B) (TB:Top pq loose mean mg mb B) (hB:B.StaysIn s.heap) (hroom:A.depth+60<recursionLimit) (hwr:wr=[(W,instObj 153 dW),(dW,wsDict wh wt dl),(dl,listOf #[] kl),(422,tabObj ps)]) (hps:TabL ps.toList) (hN:∀ p∈(X,instObj 501 dx)::(dx,dictOf (txEs x st ts rs W O ad vt ex ftb b1 b2 b3 b4) 12)::(rs,listOf items kr)::(vt,listOf vits kv)::(wr++rest),s.heap.get? p.1=some p.2) (fN:∀ p∈(X,instObj 501 dx)::(dx,dictOf (txEs x st ts rs W O ad vt ex ftb b1 b2 b3 b4) 12)::(rs,listOf items kr)::(vt,listOf vits kv)::(wr++rest),B.get? p.1=none) (hdis:∀ p∈(X,instObj 501 dx)::(dx,dictOf (txEs x st ts rs W O ad vt ex ftb b1 b2 b3 b4) 12)::(rs,listOf items kr)::(vt,listOf vits kv)::wr,p.1∉rest.map (·.1)) (ndx:∀ p∈(rs,listOf items kr)::(vt,listOf vits kv)::wr,p.1≠dx) (n422:∀ p∈(X,instObj 501 dx)::(dx,dictOf (txEs x st ts rs W O ad vt ex ftb b1 b2 b3 b4) 12)::(rs,listOf items kr)::(vt,listOf vits kv)::(W,instObj 153 dW)::(dW,wsDict wh wt dl)::(dl,listOf #[] kl)::[],p.1≠422) (WD:Wd kept w lg μs σ rows rest) (hi:items.toList=ml.map fun μ=>.ref μ.M) (hm:∀ μ∈ml,μ∈μs) (hh:A.handled=none) (hA:A.frames=some outer) (S:Stk outer s.heap (X::dx::rs::vt::(wr++rest).map (·.1))) (hBf:∀ b∈frs outer,B.get? b=none) (hPl:PlanIs μs stp kdp at_) (hz:rows.length<60) (hvz:vits=#[]) (hnd:(ml.map (·.M)).Nodup) (hl:ml.length∈[2,3,4,5]) (hok:∀ h' tk' rest' σ' rows' voted vt' vits' kv',tryPart (sortMg ml) σ rows=((σ',rows',none),voted)→Wd kept w lg μs σ' rows' rest'→vits'.toList=voted.map (fun μ=>.ref μ.M) →
   DoneH (X::dx::rs::vt::(wr++rest).map (·.1)) ((X,instObj 501 dx)::(dx,dictOf (txEs x st ts rs W O ad vt' ex ftb b1 b2 b3 b4) 12)::(rs,listOf items kr)::(vt',listOf vits' kv')::wr) rest' s.heap h'→R (.ok (.ret .none)) { s with heap:=h',toks:=tk' }) (hno:∀ h' tk' rest' σ' rows' kd Cx ea voted vt' vits' kv' ps',tryPart (sortMg ml) σ rows=((σ',rows',some kd),voted)→ClsOf kd Cx→TabL ps'.toList→vits'.toList=voted.map (fun μ=>.ref μ.M) →
   Wd kept w lg μs (cleanSt (sortMg ml) voted (σ',rows')).1 (cleanSt (sortMg ml) voted (σ',rows')).2 rest' →
   Thrown outer (hideAll s.heap (X::dx::rs::vt::(wr++rest).map (·.1))) (((X,instObj 501 dx)::(dx,dictOf (txEs x st ts rs W O ad vt' ex ftb b1 b2 b3 b4) 12)::(rs,listOf items kr)::(vt',listOf vits' kv')::(W,instObj 153 dW)::(dW,wsDict wh wt dl)::(dl,listOf #[] kl)::(422,tabObj ps')::[])++rest') Cx ea s.heap h' →
   (∀ p∈(X,instObj 501 dx)::(dx,dictOf (txEs x st ts rs W O ad vt' ex ftb b1 b2 b3 b4) 12)::(rs,listOf items kr)::(vt',listOf vits' kv')::(W,instObj 153 dW)::(dW,wsDict wh wt dl)::(dl,listOf #[] kl)::(422,tabObj ps')::[],p.1∉rest'.map (·.1))→R (.error (.ref ea)) { s with heap:=h',toks:=tk' }):codeAny (model P2 w) A (.call (.ref 427) ⟨[.ref X],[]⟩) R s:=by
 exact eps0 Z0ccq Z0cc rfl (by with_unfolding_all exact Z0cb.2 (fun g L' h₁=>eps0 Z0cdq Z0cd rfl (by with_unfolding_all exact Z0cm) (g,L',h₁))) ((pq,kept,w,A,s,B),(X,dx,rs,W,O,ad),(vt,ex,b1,b2,b3,b4),(x,st,ts,items,vits,kr),(kv,ftb,R,loose,mean,mg),(mb,rest,outer,lg,μs,ml),(σ,rows,dW,dl,wh,wt),(kl,ps,stp,kdp,at_)) wr XB TB hB hroom hwr hps hN fN hdis ndx n422 WD hi hm hh hA S hBf hPl hz hvz hnd hl hok hno
theorem clear_any {prog:Program} {w:World} {A:Around} {E:Vp} {s:Shared} {h₀:Heap} {L D:Addr} {m:Sm} {news:Rest} {g:Obj→Rest} {its:Array Value} {n:Nat} {Q:Vp}
  (F:Fr h₀ L s.heap m) (N:News h₀ L s.heap news) (U:UpdF D (listOf its n) news g) (hz:its.size ≤ sizeLine)
  (h:∀ h' n',Fr h₀ L h' m→News h₀ L h' (g (listOf #[] n'))→Q .none { s with heap:=h' }):wpAny (model prog w) A (call (.builtin "list.clear") [.ref D]) Q E s:=by
 obtain ⟨pre,post,rfl,hg,a,c⟩:=U.split
 have z:=N (D,listOf its n) (List.mem_append.mpr (.inr (.head _)))
 by_cases e:its.size=0
 ·refine call_meets PySem.F.slot_list_clear ⟨_,z.1,rfl⟩ PySem.F.entry_list_clear (PySem.F.args_list_clear_1 _) (PySem.AutoSeq1.list_clear_list_0 D its n hz) ⟨z.1,h _ n (F.change (Heap.SameBut.update ..) z.2.1 z.2.2) ?_⟩
  rw [hg]
  exact kl_turn0 (fun _=>#[]) N a c rfl (by rw [e]; rfl)
 ·refine call_meets PySem.F.slot_list_clear ⟨_,z.1,rfl⟩ PySem.F.entry_list_clear (PySem.F.args_list_clear_1 _) (PySem.AutoSeq1.list_clear_list_0 D its n hz) ⟨z.1,h _ (n+1) (F.change (Heap.SameBut.update ..) z.2.1 z.2.2) ?_⟩
  rw [hg]
  exact kl_turn (fun _=>#[]) N a c rfl (fun q=>e q.symm)
theorem mk_in {h:Heap} {a:Addr} {o₀:Obj} {news:Rest} (g0:h.get? a=some o₀) (hm:(a,o₀)∈news):∀ o,h.get? a=some o→(a,o)∈news:=fun o e=>by
 rw [g0] at e; cases e; exact hm
theorem thrown_dis {outer:List Env} {h h':Heap} {Λ:List Addr} {n8 rest':Rest} {Cx e:Addr} (T:Thrown outer (hideAll h Λ) (n8++rest') Cx e h h') {a:Addr} {o:Obj} (ha:h.get? a=some o) (hn:a∉Λ):a∉rest'.map (·.1):=fun hm=>by
 obtain ⟨p,hp,rfl⟩:=List.mem_map.mp hm
 obtain ⟨B,t,b1,b2,b3,b4,b5⟩:=T
 have:=b5 p (List.mem_append_right _ hp)
 rw [hideAll_get _ ha hn] at this; cases this
theorem news_stay {g h h':Heap} {L d:Addr} {nw:Rest} {p:Addr×Obj} (N:News g L h nw) (hm:Mod [d] h h') (hp:p∈nw) (ne:p.1≠d):h'.get? p.1=some p.2∧p.1≠L∧g.get? p.1=none:=
 ⟨hm _ _ (N p hp).1 fun q=>ne (List.mem_singleton.mp q),(N p hp).2⟩
theorem truthy_nil {prog:Program} {w:World} {A:Around} {E:Vp} {s:Shared} {g:Heap} {L a:Addr} {nw:Rest} {n:Nat} {Q:Bool→Shared→Prop} (N:News g L s.heap nw) (hm:(a,listOf #[] n)∈nw) (h:∀ tk,Q false { s with toks:=tk }):wpAny (model prog w) A (truthy (.ref a)) Q E s:=by
 refine wpAny_truthy_list (items:=#[]) ⟨_,(N _ hm).1,rfl,n,rfl⟩ (by decide) ?_
 exact h _
section
local macro_rules | `(tactic| walk_at "truthy ref") => `(tactic| (k_here; k_dflt (refine' truthy_nil (by k_asm) (by k_mem) ?_; k_whole); intro tk'))
local macro_rules | `(tactic| walk_at "call builtin:list.clear") => `(tactic| (k_here; (with_reducible show wpAny _ _ (call (Value.builtin _) [Value.ref _]) _ _ _); k_dflt (refine' clear_any (by k_asm) (by k_asm) (by k_updF) (by first | assumption | exact Nat.zero_le _) ?_); intro h' n' F' N'; (try dsimp only at N'); (try k_sweep)))
set_option genSizeOf false in
set_option genInjectivity false in
structure Tq where
 X:Addr
 dx:Addr
 rs:Addr
 W:Addr
 dW:Addr
 dl:Addr
 O:Addr
 dO:Addr
 ad:Addr
 ex:Addr
 b1:Addr
 b2:Addr
 b3:Addr
 b4:Addr
 x:Mk
 y:Mk
 wh:Int
 wt:Tok
 kr:Nat
 kl:Nat
 k1:Nat
 k2:Nat
 k3:Nat
 k4:Nat
deriving Nonempty
noncomputable abbrev txD (q:Tq) (st:Str) (ts:Tok) (vt:Addr) (ftb:Value):Obj:=dictOf (txEs q.x st ts q.rs q.W q.O q.ad vt q.ex ftb q.b1 q.b2 q.b3 q.b4) 12
noncomputable abbrev owD (q:Tq) (txn:Value):Obj:=dictOf [⟨q.y.h 0,.str "explicit" (q.y.t 0),.bool false⟩,⟨q.y.h 1,.str "_txn" (q.y.t 1),txn⟩,⟨q.y.h 2,.str "_synchs" (q.y.t 2),.ref q.W⟩] 3
noncomputable abbrev tlN (q:Tq) (items:Array Value) (vt:Addr) (vits:Array Value) (kv:Nat) (ps2:Array Value) (rest:Rest):Rest:=
 (q.rs,listOf items q.kr)::(vt,listOf vits kv)::(q.dl,listOf #[] q.kl)::(422,tabObj ps2)::(q.O,instObj 758 q.dO)::(q.dO,owD q (.ref q.X))::(q.b1,listOf #[] q.k1)::(q.b2,listOf #[] q.k2)::(q.b3,listOf #[] q.k3)::(q.b4,listOf #[] q.k4)::rest
noncomputable abbrev cmN (q:Tq) (st:Str) (ts:Tok) (items:Array Value) (vt:Addr) (vits:Array Value) (kv:Nat) (ftb:Value) (ps1 ps2:Array Value) (rest:Rest):Rest:=
 (q.X,instObj 501 q.dx)::(q.dx,txD q st ts vt ftb)::(q.W,instObj 153 q.dW)::(q.dW,wsDict q.wh q.wt q.dl)::(299,tabObj ps1)::tlN q items vt vits kv ps2 rest
noncomputable abbrev cmA (q:Tq) (vt:Addr):List Addr:=[q.X,q.dx,q.W,q.dW,299,q.rs,vt,q.dl,422,q.O,q.dO,q.b1,q.b2,q.b3,q.b4]
noncomputable def Ord (q:Tq) (vt:Addr):Prop:=@LT.lt Nat _ 464 q.dO∧@LT.lt Nat _ q.dO q.O∧@LT.lt Nat _ q.O q.dW∧@LT.lt Nat _ q.dW q.W∧@LT.lt Nat _ q.W q.dl∧@LT.lt Nat _ q.dl q.dx∧@LT.lt Nat _ q.dx q.X∧@LT.lt Nat _ q.X q.rs∧@LT.lt Nat _ q.rs q.ad ∧
 @LT.lt Nat _ q.ad vt∧@LT.lt Nat _ vt q.ex∧@LT.lt Nat _ q.ex q.b1∧@LT.lt Nat _ q.b1 q.b2∧@LT.lt Nat _ q.b2 q.b3∧@LT.lt Nat _ q.b3 q.b4
theorem Ord.pw {q:Tq} {vt:Addr} (h:Ord q vt):[464,q.dO,q.O,q.dW,q.W,q.dl,q.dx,q.X,q.rs,q.ad,vt,q.ex,q.b1,q.b2,q.b3,q.b4].Pairwise (fun a b:Nat=>a<b):=by
 exact pw_cons h.1 (pw_cons h.2.1 (pw_cons h.2.2.1 (pw_cons h.2.2.2.1 (pw_cons h.2.2.2.2.1 (pw_cons h.2.2.2.2.2.1 (pw_cons h.2.2.2.2.2.2.1 (pw_cons h.2.2.2.2.2.2.2.1 (pw_cons h.2.2.2.2.2.2.2.2.1 (pw_cons h.2.2.2.2.2.2.2.2.2.1 (pw_cons h.2.2.2.2.2.2.2.2.2.2.1 (pw_cons h.2.2.2.2.2.2.2.2.2.2.2.1 (pw_cons h.2.2.2.2.2.2.2.2.2.2.2.2.1 (pw_cons h.2.2.2.2.2.2.2.2.2.2.2.2.2.1 (pw_cons h.2.2.2.2.2.2.2.2.2.2.2.2.2.2 (pw_one)))))))))))))))
theorem Ord.pwl {q:Tq} {vt:Addr} (h:Ord q vt):[299,422,464,q.dO,q.O,q.dW,q.W,q.dl,q.dx,q.X,q.rs,q.ad,vt,q.ex,q.b1,q.b2,q.b3,q.b4].Pairwise (fun a b:Nat=>a<b):=pw_cons (by decide) (pw_cons (by decide) h.pw)
theorem Ord.pwL {q:Tq} {vt L':Addr} (h:Ord q vt) (l:@LT.lt Nat _ q.b4 L'):[299,422,464,q.dO,q.O,q.dW,q.W,q.dl,q.dx,q.X,q.rs,q.ad,vt,q.ex,q.b1,q.b2,q.b3,q.b4,L',L'+1].Pairwise (fun a b:Nat=>a<b):=by
 exact pw_cons (by decide) (pw_cons (by decide) (pw_cons h.1 (pw_cons h.2.1 (pw_cons h.2.2.1 (pw_cons h.2.2.2.1 (pw_cons h.2.2.2.2.1 (pw_cons h.2.2.2.2.2.1 (pw_cons h.2.2.2.2.2.2.1 (pw_cons h.2.2.2.2.2.2.2.1 (pw_cons h.2.2.2.2.2.2.2.2.1 (pw_cons h.2.2.2.2.2.2.2.2.2.1 (pw_cons h.2.2.2.2.2.2.2.2.2.2.1 (pw_cons h.2.2.2.2.2.2.2.2.2.2.2.1 (pw_cons h.2.2.2.2.2.2.2.2.2.2.2.2.1 (pw_cons h.2.2.2.2.2.2.2.2.2.2.2.2.2.1 (pw_cons h.2.2.2.2.2.2.2.2.2.2.2.2.2.2 (pw_cons l (pw_cons (Nat.lt_succ_self _) pw_one))))))))))))))))))
theorem Ord.low {q:Tq} {vt:Addr} (h:Ord q vt):∀ a∈[q.dx,q.rs,q.b1,q.b2,q.b3,q.b4,q.O,q.dO],@LT.lt Nat _ 464 a:=by
 have l:=(List.pairwise_cons.mp h.pw).1
 exact ns_cons (l _ (by k_mem)) (ns_cons (l _ (by k_mem)) (ns_cons (l _ (by k_mem)) (ns_cons (l _ (by k_mem)) (ns_cons (l _ (by k_mem)) (ns_cons (l _ (by k_mem)) (ns_cons (l _ (by k_mem)) (ns_cons (l _ (by k_mem)) ns_nil)))))))
theorem Ord.ge {q:Tq} {vt:Addr} (h:Ord q vt):∀ a∈[q.dO,q.O,q.dW,q.W,q.dl,q.dx,q.X,q.rs,q.ad,vt,q.ex,q.b1,q.b2,q.b3,q.b4],@LE.le Nat _ q.dO a:=fun a ha=>by
 rcases List.mem_cons.mp ha with rfl|ha
 ·exact Nat.le_refl _
 ·exact Nat.le_of_lt ((List.pairwise_cons.mp (List.pairwise_cons.mp h.pw).2).1 a ha)
abbrev Z14P (pq:Program) (w:World) (s:Shared) (B:Heap) (q:Tq) (st:Str) (ts:Tok) (vt:Addr) (ftb:Value) (R:Rp) (loose:List Str) (mean:ExcName→Option Value) (mg mb:Sm) (outer:List Env) (hd_:Option Value) (dp:Nat) (gd:Option (List Code)) (un:Nat):Prop:=∀ (XB:(hd.heap_1 w.params).In B) (TB:Top pq loose mean mg mb B) (hB:B.StaysIn s.heap) (hroom:dp+12<recursionLimit) (hX:s.heap.get? q.X=some (instObj 501 q.dx)) (hdx:s.heap.get? q.dx=some (txD q st ts vt ftb)) (hb:s.heap.get? q.b1=some (listOf #[] q.k1)) (fX:B.get? q.X=none) (fdx:B.get? q.dx=none) (fb:B.get? q.b1=none) (S:Stk outer s.heap [q.X,q.dx,q.b1]) (hBf:∀ b∈frs outer,B.get? b=none) (h:∀ h' tk',Mod [] s.heap h'→R (.ok (.ret .none)) { s with heap:=h',toks:=tk' }),codeAny (model P2 w) (Around.mk hd_ dp (some outer) gd un) (.call (.ref 341) ⟨[.ref q.X],[]⟩) R s
abbrev Z14cq:=U fun a=>U fun b=>U fun c d=>(T6 (T6 (T6 Z14P a) b) c) d
def Z14c:=eps Z14cq ⟨inferInstance⟩
def Z14.pq:=Z14c.1.1
def Z14.w:=Z14c.1.2.1
def Z14.s:=Z14c.1.2.2.1
def Z14.B:=Z14c.1.2.2.2.1
def Z14.q:=Z14c.1.2.2.2.2.1
def Z14.st:=Z14c.1.2.2.2.2.2
def Z14.ts:=Z14c.2.1.1
def Z14.vt:=Z14c.2.1.2.1
def Z14.ftb:=Z14c.2.1.2.2.1
def Z14.R:=Z14c.2.1.2.2.2.1
def Z14.loose:=Z14c.2.1.2.2.2.2.1
def Z14.mean:=Z14c.2.1.2.2.2.2.2
def Z14.mg:=Z14c.2.2.1.1
def Z14.mb:=Z14c.2.2.1.2.1
def Z14.outer:=Z14c.2.2.1.2.2.1
def Z14.hd_:=Z14c.2.2.1.2.2.2.1
def Z14.dp:=Z14c.2.2.1.2.2.2.2.1
def Z14.gd:=Z14c.2.2.1.2.2.2.2.2
def Z14.un:=Z14c.2.2.2
open Z14 in
noncomputable def Z14b:PSigma fun P:(Heap)→(Addr)→(Heap)→Prop=>(∀ g L' h₁,P g L' h₁)→Z14P Z14.pq Z14.w Z14.s Z14.B Z14.q Z14.st Z14.ts Z14.vt Z14.ftb Z14.R Z14.loose Z14.mean Z14.mg Z14.mb Z14.outer Z14.hd_ Z14.dp Z14.gd Z14.un:=by
 apply PSigma.mk
 case snd=>
 intro hP
 intro XB TB hB hroom hX hdx hb fX fdx fb S hBf h
 k_dflt (refine' enter (Λ:=[(q.X,instObj 501 q.dx),(q.dx,txD q st ts vt ftb),(q.b1,listOf #[] q.k1)]) XB (topRead_of TB) hB ?k1 ?k2 (by k_is) (by k_is) (by show dp<recursionLimit; k_room) (BindsTo.of_eq rfl) (locs rfl) ?_ rfl rfl rfl (by decide))
 (case k1=>exact nms_cons hX (nms_cons hdx (nms_cons hb nms_nil)))
 (case k2=>exact nms_cons fX (nms_cons fdx (nms_cons fb nms_nil)))
 intro g L' h₁
 revert XB TB hB hroom hX hdx hb fX fdx fb S hBf h
 exact hP g L' h₁
abbrev Z14dq:=T3 Z14b.1
def Z14d:=eps Z14dq ⟨inferInstance⟩
def Z14.g:=Z14d.1
def Z14.L':=Z14d.2.1
def Z14.h₁:=Z14d.2.2
open Z14 in
theorem Z14m:Z14b.1 Z14.g Z14.L' Z14.h₁:=by
 intro XB TB hB hroom hX hdx hb fX fdx fb S hBf h
 intro hg l1 KX TXr F N
 have hBg:B.StaysIn g:=hg ▸ stays_hide hB (nms_cons (P:=fun p:Addr×Obj=>B.get? p.1=none) (a:=(q.X,instObj 501 q.dx)) fX (nms_cons (a:=(q.dx,txD q st ts vt ftb)) fdx (nms_cons (a:=(q.b1,listOf #[] q.k1)) fb nms_nil)))
 have KB:Below ⟨hd_,dp,some outer,gd,un⟩ B outer g:=below_of rfl S hg hBg hBf
 have TX:Top pq loose mean mg mb g:=TB.keeps hBg
 clear TXr TB XB
 k_steps
 rename Fr _ _ _ _=>F₁
 rename News _ _ _ _=>N₁
 exact h _ _ (mod_of hg F₁ N₁ (ns_cons (fun _=>mk_in hX (by k_mem)) (ns_cons (fun _=>mk_in hdx (by k_mem)) (ns_cons (fun _=>mk_in hb (by k_mem)) ns_nil))))
theorem hk341 {w:World} {A:Around} {s:Shared} {B:Heap} {q:Tq} {st:Str} {ts:Tok} {vt:Addr} {ftb:Value} {R:Rp} {loose:List Str} {mean:ExcName→Option Value} {mg mb:Sm} {outer:List Env} (XB:(hd.heap_1 w.params).In B) (TB:Top pq loose mean mg mb B) (hB:B.StaysIn s.heap) (hroom:A.depth+12<recursionLimit) (hX:s.heap.get? q.X=some (instObj 501 q.dx)) (hdx:s.heap.get? q.dx=some (txD q st ts vt ftb)) (hb:s.heap.get? q.b1=some (listOf #[] q.k1)) (fX:B.get? q.X=none) (fdx:B.get? q.dx=none) (fb:B.get? q.b1=none) (hA:A.frames=some outer) (S:Stk outer s.heap [q.X,q.dx,q.b1]) (hBf:∀ b∈frs outer,B.get? b=none) (h:∀ h' tk',Mod [] s.heap h'→R (.ok (.ret .none)) { s with heap:=h',toks:=tk' }):codeAny (model P2 w) A (.call (.ref 341) ⟨[.ref q.X],[]⟩) R s:=by
 obtain ⟨hd_,dp,_,gd,un⟩:=A
 dsimp only at hA hroom
 subst hA
 exact eps0 Z14cq Z14c rfl (by with_unfolding_all exact Z14b.2 (fun g L' h₁=>eps0 Z14dq Z14d rfl (by with_unfolding_all exact Z14m) (g,L',h₁))) ((pq,w,s,B,q,st),(ts,vt,ftb,R,loose,mean),(mg,mb,outer,hd_,dp,gd),un) XB TB hB hroom hX hdx hb fX fdx fb S hBf h
abbrev Z15P (pq:Program) (w:World) (s:Shared) (B:Heap) (q:Tq) (st:Str) (ts:Tok) (vt:Addr) (ftb:Value) (R:Rp) (loose:List Str) (mean:ExcName→Option Value) (mg mb:Sm) (outer:List Env) (hd_:Option Value) (dp:Nat) (gd:Option (List Code)) (un:Nat):Prop:=∀ (XB:(hd.heap_1 w.params).In B) (TB:Top pq loose mean mg mb B) (hB:B.StaysIn s.heap) (hroom:dp+12<recursionLimit) (hX:s.heap.get? q.X=some (instObj 501 q.dx)) (hdx:s.heap.get? q.dx=some (txD q st ts vt ftb)) (hb:s.heap.get? q.b3=some (listOf #[] q.k3)) (fX:B.get? q.X=none) (fdx:B.get? q.dx=none) (fb:B.get? q.b3=none) (S:Stk outer s.heap [q.X,q.dx,q.b3]) (hBf:∀ b∈frs outer,B.get? b=none) (h:∀ h' tk',Mod [] s.heap h'→R (.ok (.ret .none)) { s with heap:=h',toks:=tk' }),codeAny (model P2 w) (Around.mk hd_ dp (some outer) gd un) (.call (.ref 397) ⟨[.ref q.X],[]⟩) R s
abbrev Z15cq:=U fun a=>U fun b=>U fun c d=>(T6 (T6 (T6 Z15P a) b) c) d
def Z15c:=eps Z15cq ⟨inferInstance⟩
def Z15.pq:=Z15c.1.1
def Z15.w:=Z15c.1.2.1
def Z15.s:=Z15c.1.2.2.1
def Z15.B:=Z15c.1.2.2.2.1
def Z15.q:=Z15c.1.2.2.2.2.1
def Z15.st:=Z15c.1.2.2.2.2.2
def Z15.ts:=Z15c.2.1.1
def Z15.vt:=Z15c.2.1.2.1
def Z15.ftb:=Z15c.2.1.2.2.1
def Z15.R:=Z15c.2.1.2.2.2.1
def Z15.loose:=Z15c.2.1.2.2.2.2.1
def Z15.mean:=Z15c.2.1.2.2.2.2.2
def Z15.mg:=Z15c.2.2.1.1
def Z15.mb:=Z15c.2.2.1.2.1
def Z15.outer:=Z15c.2.2.1.2.2.1
def Z15.hd_:=Z15c.2.2.1.2.2.2.1
def Z15.dp:=Z15c.2.2.1.2.2.2.2.1
def Z15.gd:=Z15c.2.2.1.2.2.2.2.2
def Z15.un:=Z15c.2.2.2
open Z15 in
noncomputable def Z15b:PSigma fun P:(Heap)→(Addr)→(Heap)→Prop=>(∀ g L' h₁,P g L' h₁)→Z15P Z15.pq Z15.w Z15.s Z15.B Z15.q Z15.st Z15.ts Z15.vt Z15.ftb Z15.R Z15.loose Z15.mean Z15.mg Z15.mb Z15.outer Z15.hd_ Z15.dp Z15.gd Z15.un:=by
 apply PSigma.mk
 case snd=>
 intro hP
 intro XB TB hB hroom hX hdx hb fX fdx fb S hBf h
 k_dflt (refine' enter (Λ:=[(q.X,instObj 501 q.dx),(q.dx,txD q st ts vt ftb),(q.b3,listOf #[] q.k3)]) XB (topRead_of TB) hB ?k1 ?k2 (by k_is) (by k_is) (by show dp<recursionLimit; k_room) (BindsTo.of_eq rfl) (locs rfl) ?_ rfl rfl rfl (by decide))
 (case k1=>exact nms_cons hX (nms_cons hdx (nms_cons hb nms_nil)))
 (case k2=>exact nms_cons fX (nms_cons fdx (nms_cons fb nms_nil)))
 intro g L' h₁
 revert XB TB hB hroom hX hdx hb fX fdx fb S hBf h
 exact hP g L' h₁
abbrev Z15dq:=T3 Z15b.1
def Z15d:=eps Z15dq ⟨inferInstance⟩
def Z15.g:=Z15d.1
def Z15.L':=Z15d.2.1
def Z15.h₁:=Z15d.2.2
open Z15 in
theorem Z15m:Z15b.1 Z15.g Z15.L' Z15.h₁:=by
 intro XB TB hB hroom hX hdx hb fX fdx fb S hBf h
 intro hg l1 KX TXr F N
 have hBg:B.StaysIn g:=hg ▸ stays_hide hB (nms_cons (P:=fun p:Addr×Obj=>B.get? p.1=none) (a:=(q.X,instObj 501 q.dx)) fX (nms_cons (a:=(q.dx,txD q st ts vt ftb)) fdx (nms_cons (a:=(q.b3,listOf #[] q.k3)) fb nms_nil)))
 have KB:Below ⟨hd_,dp,some outer,gd,un⟩ B outer g:=below_of rfl S hg hBg hBf
 have TX:Top pq loose mean mg mb g:=TB.keeps hBg
 clear TXr TB XB
 k_steps
 rename Fr _ _ _ _=>F₁
 rename News _ _ _ _=>N₁
 exact h _ _ (mod_of hg F₁ N₁ (ns_cons (fun _=>mk_in hX (by k_mem)) (ns_cons (fun _=>mk_in hdx (by k_mem)) (ns_cons (fun _=>mk_in hb (by k_mem)) ns_nil))))
theorem hk397 {w:World} {A:Around} {s:Shared} {B:Heap} {q:Tq} {st:Str} {ts:Tok} {vt:Addr} {ftb:Value} {R:Rp} {loose:List Str} {mean:ExcName→Option Value} {mg mb:Sm} {outer:List Env} (XB:(hd.heap_1 w.params).In B) (TB:Top pq loose mean mg mb B) (hB:B.StaysIn s.heap) (hroom:A.depth+12<recursionLimit) (hX:s.heap.get? q.X=some (instObj 501 q.dx)) (hdx:s.heap.get? q.dx=some (txD q st ts vt ftb)) (hb:s.heap.get? q.b3=some (listOf #[] q.k3)) (fX:B.get? q.X=none) (fdx:B.get? q.dx=none) (fb:B.get? q.b3=none) (hA:A.frames=some outer) (S:Stk outer s.heap [q.X,q.dx,q.b3]) (hBf:∀ b∈frs outer,B.get? b=none) (h:∀ h' tk',Mod [] s.heap h'→R (.ok (.ret .none)) { s with heap:=h',toks:=tk' }):codeAny (model P2 w) A (.call (.ref 397) ⟨[.ref q.X],[]⟩) R s:=by
 obtain ⟨hd_,dp,_,gd,un⟩:=A
 dsimp only at hA hroom
 subst hA
 exact eps0 Z15cq Z15c rfl (by with_unfolding_all exact Z15b.2 (fun g L' h₁=>eps0 Z15dq Z15d rfl (by with_unfolding_all exact Z15m) (g,L',h₁))) ((pq,w,s,B,q,st),(ts,vt,ftb,R,loose,mean),(mg,mb,outer,hd_,dp,gd),un) XB TB hB hroom hX hdx hb fX fdx fb S hBf h
abbrev Z11P (pq:Program) (w:World) (s:Shared) (B:Heap) (q:Tq) (st:Str) (ts:Tok) (vt:Addr) (ftb:Value) (R:Rp) (loose:List Str) (mean:ExcName→Option Value) (mg mb:Sm) (outer:List Env) (hd_:Option Value) (dp:Nat) (gd:Option (List Code)) (un:Nat):Prop:=∀ (XB:(hd.heap_1 w.params).In B) (TB:Top pq loose mean mg mb B) (hB:B.StaysIn s.heap) (hroom:dp+12<recursionLimit) (hX:s.heap.get? q.X=some (instObj 501 q.dx)) (hdx:s.heap.get? q.dx=some (txD q st ts vt ftb)) (hb:s.heap.get? q.b4=some (listOf #[] q.k4)) (fX:B.get? q.X=none) (fdx:B.get? q.dx=none) (fb:B.get? q.b4=none) (S:Stk outer s.heap [q.X,q.dx,q.b4]) (hBf:∀ b∈frs outer,B.get? b=none) (h:∀ h' tk',Mod [] s.heap h'→R (.ok (.ret .none)) { s with heap:=h',toks:=tk' }),codeAny (model P2 w) (Around.mk hd_ dp (some outer) gd un) (.call (.ref 420) ⟨[.ref q.X],[]⟩) R s
abbrev Z11cq:=U fun a=>U fun b=>U fun c d=>(T6 (T6 (T6 Z11P a) b) c) d
def Z11c:=eps Z11cq ⟨inferInstance⟩
def Z11.pq:=Z11c.1.1
def Z11.w:=Z11c.1.2.1
def Z11.s:=Z11c.1.2.2.1
def Z11.B:=Z11c.1.2.2.2.1
def Z11.q:=Z11c.1.2.2.2.2.1
def Z11.st:=Z11c.1.2.2.2.2.2
def Z11.ts:=Z11c.2.1.1
def Z11.vt:=Z11c.2.1.2.1
def Z11.ftb:=Z11c.2.1.2.2.1
def Z11.R:=Z11c.2.1.2.2.2.1
def Z11.loose:=Z11c.2.1.2.2.2.2.1
def Z11.mean:=Z11c.2.1.2.2.2.2.2
def Z11.mg:=Z11c.2.2.1.1
def Z11.mb:=Z11c.2.2.1.2.1
def Z11.outer:=Z11c.2.2.1.2.2.1
def Z11.hd_:=Z11c.2.2.1.2.2.2.1
def Z11.dp:=Z11c.2.2.1.2.2.2.2.1
def Z11.gd:=Z11c.2.2.1.2.2.2.2.2
def Z11.un:=Z11c.2.2.2
open Z11 in
noncomputable def Z11b:PSigma fun P:(Heap)→(Addr)→(Heap)→Prop=>(∀ g L' h₁,P g L' h₁)→Z11P Z11.pq Z11.w Z11.s Z11.B Z11.q Z11.st Z11.ts Z11.vt Z11.ftb Z11.R Z11.loose Z11.mean Z11.mg Z11.mb Z11.outer Z11.hd_ Z11.dp Z11.gd Z11.un:=by
 apply PSigma.mk
 case snd=>
 intro hP
 intro XB TB hB hroom hX hdx hb fX fdx fb S hBf h
 k_dflt (refine' enter (Λ:=[(q.X,instObj 501 q.dx),(q.dx,txD q st ts vt ftb),(q.b4,listOf #[] q.k4)]) XB (topRead_of TB) hB ?k1 ?k2 (by k_is) (by k_is) (by show dp<recursionLimit; k_room) (BindsTo.of_eq rfl) (locs rfl) ?_ rfl rfl rfl (by decide))
 (case k1=>exact nms_cons hX (nms_cons hdx (nms_cons hb nms_nil)))
 (case k2=>exact nms_cons fX (nms_cons fdx (nms_cons fb nms_nil)))
 intro g L' h₁
 revert XB TB hB hroom hX hdx hb fX fdx fb S hBf h
 exact hP g L' h₁
abbrev Z11dq:=T3 Z11b.1
def Z11d:=eps Z11dq ⟨inferInstance⟩
def Z11.g:=Z11d.1
def Z11.L':=Z11d.2.1
def Z11.h₁:=Z11d.2.2
open Z11 in
theorem Z11m:Z11b.1 Z11.g Z11.L' Z11.h₁:=by
 intro XB TB hB hroom hX hdx hb fX fdx fb S hBf h
 intro hg l1 KX TXr F N
 have hBg:B.StaysIn g:=hg ▸ stays_hide hB (nms_cons (P:=fun p:Addr×Obj=>B.get? p.1=none) (a:=(q.X,instObj 501 q.dx)) fX (nms_cons (a:=(q.dx,txD q st ts vt ftb)) fdx (nms_cons (a:=(q.b4,listOf #[] q.k4)) fb nms_nil)))
 have KB:Below ⟨hd_,dp,some outer,gd,un⟩ B outer g:=below_of rfl S hg hBg hBf
 have TX:Top pq loose mean mg mb g:=TB.keeps hBg
 clear TXr TB XB
 k_steps
 rename Fr _ _ _ _=>F₁
 rename News _ _ _ _=>N₁
 exact h _ _ (mod_of hg F₁ N₁ (ns_cons (fun _=>mk_in hX (by k_mem)) (ns_cons (fun _=>mk_in hdx (by k_mem)) (ns_cons (fun _=>mk_in hb (by k_mem)) ns_nil))))
theorem hk420 {w:World} {A:Around} {s:Shared} {B:Heap} {q:Tq} {st:Str} {ts:Tok} {vt:Addr} {ftb:Value} {R:Rp} {loose:List Str} {mean:ExcName→Option Value} {mg mb:Sm} {outer:List Env} (XB:(hd.heap_1 w.params).In B) (TB:Top pq loose mean mg mb B) (hB:B.StaysIn s.heap) (hroom:A.depth+12<recursionLimit) (hX:s.heap.get? q.X=some (instObj 501 q.dx)) (hdx:s.heap.get? q.dx=some (txD q st ts vt ftb)) (hb:s.heap.get? q.b4=some (listOf #[] q.k4)) (fX:B.get? q.X=none) (fdx:B.get? q.dx=none) (fb:B.get? q.b4=none) (hA:A.frames=some outer) (S:Stk outer s.heap [q.X,q.dx,q.b4]) (hBf:∀ b∈frs outer,B.get? b=none) (h:∀ h' tk',Mod [] s.heap h'→R (.ok (.ret .none)) { s with heap:=h',toks:=tk' }):codeAny (model P2 w) A (.call (.ref 420) ⟨[.ref q.X],[]⟩) R s:=by
 obtain ⟨hd_,dp,_,gd,un⟩:=A
 dsimp only at hA hroom
 subst hA
 exact eps0 Z11cq Z11c rfl (by with_unfolding_all exact Z11b.2 (fun g L' h₁=>eps0 Z11dq Z11d rfl (by with_unfolding_all exact Z11m) (g,L',h₁))) ((pq,w,s,B,q,st),(ts,vt,ftb,R,loose,mean),(mg,mb,outer,hd_,dp,gd),un) XB TB hB hroom hX hdx hb fX fdx fb S hBf h
abbrev Z13P (pq:Program) (w:World) (s:Shared) (B:Heap) (q:Tq) (st:Str) (ts:Tok) (vt:Addr) (ftb:Value) (st_:Bool) (R:Rp) (loose:List Str) (mean:ExcName→Option Value) (mg mb:Sm) (outer:List Env) (hd_:Option Value) (dp:Nat) (gd:Option (List Code)) (un:Nat):Prop:=∀ (XB:(hd.heap_1 w.params).In B) (TB:Top pq loose mean mg mb B) (hB:B.StaysIn s.heap) (hroom:dp+12<recursionLimit) (hX:s.heap.get? q.X=some (instObj 501 q.dx)) (hdx:s.heap.get? q.dx=some (txD q st ts vt ftb)) (hb:s.heap.get? q.b2=some (listOf #[] q.k2)) (fX:B.get? q.X=none) (fdx:B.get? q.dx=none) (fb:B.get? q.b2=none) (S:Stk outer s.heap [q.X,q.dx,q.b2]) (hBf:∀ b∈frs outer,B.get? b=none) (h:∀ h' tk',Mod [] s.heap h'→R (.ok (.ret .none)) { s with heap:=h',toks:=tk' }),codeAny (model P2 w) (Around.mk hd_ dp (some outer) gd un) (.call (.ref 365) ⟨[.ref q.X],[(Str.ofString "status",.bool st_)]⟩) R s
abbrev Z13cq:=U fun a=>U fun b=>U fun c d=>T2 (T6 (T6 (T6 Z13P a) b) c) d
def Z13c:=eps Z13cq ⟨inferInstance⟩
def Z13.pq:=Z13c.1.1
def Z13.w:=Z13c.1.2.1
def Z13.s:=Z13c.1.2.2.1
def Z13.B:=Z13c.1.2.2.2.1
def Z13.q:=Z13c.1.2.2.2.2.1
def Z13.st:=Z13c.1.2.2.2.2.2
def Z13.ts:=Z13c.2.1.1
def Z13.vt:=Z13c.2.1.2.1
def Z13.ftb:=Z13c.2.1.2.2.1
def Z13.st_:=Z13c.2.1.2.2.2.1
def Z13.R:=Z13c.2.1.2.2.2.2.1
def Z13.loose:=Z13c.2.1.2.2.2.2.2
def Z13.mean:=Z13c.2.2.1.1
def Z13.mg:=Z13c.2.2.1.2.1
def Z13.mb:=Z13c.2.2.1.2.2.1
def Z13.outer:=Z13c.2.2.1.2.2.2.1
def Z13.hd_:=Z13c.2.2.1.2.2.2.2.1
def Z13.dp:=Z13c.2.2.1.2.2.2.2.2
def Z13.gd:=Z13c.2.2.2.1
def Z13.un:=Z13c.2.2.2.2
open Z13 in
noncomputable def Z13b:PSigma fun P:(Heap)→(Addr)→(Heap)→Prop=>(∀ g L' h₁,P g L' h₁)→Z13P Z13.pq Z13.w Z13.s Z13.B Z13.q Z13.st Z13.ts Z13.vt Z13.ftb Z13.st_ Z13.R Z13.loose Z13.mean Z13.mg Z13.mb Z13.outer Z13.hd_ Z13.dp Z13.gd Z13.un:=by
 apply PSigma.mk
 case snd=>
 intro hP
 intro XB TB hB hroom hX hdx hb fX fdx fb S hBf h
 k_dflt (refine' enter (Λ:=[(q.X,instObj 501 q.dx),(q.dx,txD q st ts vt ftb),(q.b2,listOf #[] q.k2)]) XB (topRead_of TB) hB ?k1 ?k2 ?k6 ?k7 ?k8 ?k9 ?kL ?_ ?c2 ?c3 ?c4 ?c5)
 (case k6=>k_is)
 (case k7=>k_is)
 (case k8=>show dp<recursionLimit; k_room)
 (case k9=>first|exact BindsTo.of_eq rfl|exact binds_K (XB.keeps hB) rfl (by k_is) rfl rfl rfl)
 (case kL=>exact locs rfl)
 (case c2=>exact rfl)
 (case c3=>exact rfl)
 (case c4=>exact rfl)
 (case c5=>decide)
 (case k1=>exact nms_cons hX (nms_cons hdx (nms_cons hb nms_nil)))
 (case k2=>exact nms_cons fX (nms_cons fdx (nms_cons fb nms_nil)))
 intro g L' h₁
 revert XB TB hB hroom hX hdx hb fX fdx fb S hBf h
 exact hP g L' h₁
abbrev Z13dq:=T3 Z13b.1
def Z13d:=eps Z13dq ⟨inferInstance⟩
def Z13.g:=Z13d.1
def Z13.L':=Z13d.2.1
def Z13.h₁:=Z13d.2.2
open Z13 in
theorem Z13m:Z13b.1 Z13.g Z13.L' Z13.h₁:=by
 intro XB TB hB hroom hX hdx hb fX fdx fb S hBf h
 intro hg l1 KX TXr F N
 have hBg:B.StaysIn g:=hg ▸ stays_hide hB (nms_cons (P:=fun p:Addr×Obj=>B.get? p.1=none) (a:=(q.X,instObj 501 q.dx)) fX (nms_cons (a:=(q.dx,txD q st ts vt ftb)) fdx (nms_cons (a:=(q.b2,listOf #[] q.k2)) fb nms_nil)))
 have KB:Below ⟨hd_,dp,some outer,gd,un⟩ B outer g:=below_of rfl S hg hBg hBf
 have TX:Top pq loose mean mg mb g:=TB.keeps hBg
 clear TXr TB XB
 k_steps
 rename Fr _ _ _ _=>F₁
 rename News _ _ _ _=>N₁
 exact h _ _ (mod_of hg F₁ N₁ (ns_cons (fun _=>mk_in hX (by k_mem)) (ns_cons (fun _=>mk_in hdx (by k_mem)) (ns_cons (fun _=>mk_in hb (by k_mem)) ns_nil))))
theorem hk365 {w:World} {A:Around} {s:Shared} {B:Heap} {q:Tq} {st:Str} {ts:Tok} {vt:Addr} {ftb:Value} {st_:Bool} {R:Rp} {loose:List Str} {mean:ExcName→Option Value} {mg mb:Sm} {outer:List Env} (XB:(hd.heap_1 w.params).In B) (TB:Top pq loose mean mg mb B) (hB:B.StaysIn s.heap) (hroom:A.depth+12<recursionLimit) (hX:s.heap.get? q.X=some (instObj 501 q.dx)) (hdx:s.heap.get? q.dx=some (txD q st ts vt ftb)) (hb:s.heap.get? q.b2=some (listOf #[] q.k2)) (fX:B.get? q.X=none) (fdx:B.get? q.dx=none) (fb:B.get? q.b2=none) (hA:A.frames=some outer) (S:Stk outer s.heap [q.X,q.dx,q.b2]) (hBf:∀ b∈frs outer,B.get? b=none) (h:∀ h' tk',Mod [] s.heap h'→R (.ok (.ret .none)) { s with heap:=h',toks:=tk' }):codeAny (model P2 w) A (.call (.ref 365) ⟨[.ref q.X],[(Str.ofString "status",.bool st_)]⟩) R s:=by
 obtain ⟨hd_,dp,_,gd,un⟩:=A
 dsimp only at hA hroom
 subst hA
 exact eps0 Z13cq Z13c rfl (by with_unfolding_all exact Z13b.2 (fun g L' h₁=>eps0 Z13dq Z13d rfl (by with_unfolding_all exact Z13m) (g,L',h₁))) ((pq,w,s,B,q,st),(ts,vt,ftb,st_,R,loose),(mean,mg,mb,outer,hd_,dp),(gd,un)) XB TB hB hroom hX hdx hb fX fdx fb S hBf h
noncomputable abbrev txM (q:Tq) (st:Str) (ts:Tok) (mv:Value) (vt:Addr) (ftb:Value):Obj:=dictOf
 [⟨q.x.h 0,.str "status" (q.x.t 0),.str st ts⟩,⟨q.x.h 1,.str "_resources" (q.x.t 1),.ref q.rs⟩,⟨q.x.h 2,.str "_synchronizers" (q.x.t 2),.ref q.W⟩,⟨q.x.h 3,.str "_manager" (q.x.t 3),mv⟩,
  ⟨q.x.h 4,.str "_adapters" (q.x.t 4),.ref q.ad⟩,⟨q.x.h 5,.str "_voted" (q.x.t 5),.ref vt⟩,⟨q.x.h 6,.str "extension" (q.x.t 6),.ref q.ex⟩,⟨q.x.h 7,.str "_failure_traceback" (q.x.t 7),ftb⟩,
  ⟨q.x.h 8,.str "_before_commit" (q.x.t 8),.ref q.b1⟩,⟨q.x.h 9,.str "_after_commit" (q.x.t 9),.ref q.b2⟩,⟨q.x.h 10,.str "_before_abort" (q.x.t 10),.ref q.b3⟩,⟨q.x.h 11,.str "_after_abort" (q.x.t 11),.ref q.b4⟩] 12
abbrev Z0rP (pq:Program) (w:World) (s:Shared) (B:Heap) (q:Tq) (st:Str) (ts:Tok) (vt:Addr) (ftb:Value) (R:Rp) (loose:List Str) (mean:ExcName→Option Value) (mg mb:Sm) (outer:List Env) (hd_:Option Value) (dp:Nat) (gd:Option (List Code)) (un:Nat):Prop:=∀ (XB:(hd.heap_1 w.params).In B) (TB:Top pq loose mean mg mb B) (hB:B.StaysIn s.heap) (hroom:dp+16<recursionLimit) (g0:s.heap.get? q.X=some (instObj 501 q.dx)) (g1:s.heap.get? q.dx=some (txM q st ts (.ref q.O) vt ftb)) (f0:B.get? q.X=none) (f1:B.get? q.dx=none) (S:Stk outer s.heap [q.X,q.dx]) (hBf:∀ b∈frs outer,B.get? b=none) (h:∀ h' tk' ts' tf,Mod [q.dx] s.heap h'→h'.get? q.dx=some (txM q (Str.ofString "Commit failed") ts' (.ref q.O) vt (.str "failed" tf))→R (.ok (.ret .none)) { s with heap:=h',toks:=tk' }),codeAny (model P2 w) (Around.mk hd_ dp (some outer) gd un) (.call (.ref 311) ⟨[.ref q.X],[]⟩) R s
abbrev Z0rcq:=U fun a=>U fun b=>U fun c d=>(T6 (T6 (T6 Z0rP a) b) c) d
def Z0rc:=eps Z0rcq ⟨inferInstance⟩
def Z0r.pq:=Z0rc.1.1
def Z0r.w:=Z0rc.1.2.1
def Z0r.s:=Z0rc.1.2.2.1
def Z0r.B:=Z0rc.1.2.2.2.1
def Z0r.q:=Z0rc.1.2.2.2.2.1
def Z0r.st:=Z0rc.1.2.2.2.2.2
def Z0r.ts:=Z0rc.2.1.1
def Z0r.vt:=Z0rc.2.1.2.1
def Z0r.ftb:=Z0rc.2.1.2.2.1
def Z0r.R:=Z0rc.2.1.2.2.2.1
def Z0r.loose:=Z0rc.2.1.2.2.2.2.1
def Z0r.mean:=Z0rc.2.1.2.2.2.2.2
def Z0r.mg:=Z0rc.2.2.1.1
def Z0r.mb:=Z0rc.2.2.1.2.1
def Z0r.outer:=Z0rc.2.2.1.2.2.1
def Z0r.hd_:=Z0rc.2.2.1.2.2.2.1
def Z0r.dp:=Z0rc.2.2.1.2.2.2.2.1
def Z0r.gd:=Z0rc.2.2.1.2.2.2.2.2
def Z0r.un:=Z0rc.2.2.2
open Z0r in
noncomputable def Z0rb:PSigma fun P:(Heap)→(Addr)→(Heap)→Prop=>(∀ g L' h₁,P g L' h₁)→Z0rP Z0r.pq Z0r.w Z0r.s Z0r.B Z0r.q Z0r.st Z0r.ts Z0r.vt Z0r.ftb Z0r.R Z0r.loose Z0r.mean Z0r.mg Z0r.mb Z0r.outer Z0r.hd_ Z0r.dp Z0r.gd Z0r.un:=by
 apply PSigma.mk
 case snd=>
 intro hP
 intro XB TB hB hroom g0 g1 f0 f1 S hBf h
 k_dflt (refine' enter (Λ:=[(q.X,instObj 501 q.dx),(q.dx,txM q st ts (.ref q.O) vt ftb)]) XB (topRead_of TB) hB ?k1 ?k2 (by k_is) (by k_is) (by show dp<recursionLimit; k_room) (BindsTo.of_eq rfl) (locs rfl) ?_ rfl rfl rfl (by decide))
 (case k1=>exact nms_cons (a:=(q.X,instObj 501 q.dx)) g0 (nms_cons (a:=(q.dx,txM q st ts (.ref q.O) vt ftb)) g1 nms_nil))
 (case k2=>exact nms_cons (a:=(q.X,instObj 501 q.dx)) f0 (nms_cons (a:=(q.dx,txM q st ts (.ref q.O) vt ftb)) f1 nms_nil))
 intro g L' h₁
 revert XB TB hB hroom g0 g1 f0 f1 S hBf h
 exact hP g L' h₁
abbrev Z0rdq:=T3 Z0rb.1
def Z0rd:=eps Z0rdq ⟨inferInstance⟩
def Z0r.g:=Z0rd.1
def Z0r.L':=Z0rd.2.1
def Z0r.h₁:=Z0rd.2.2
open Z0r in
theorem Z0rm:Z0rb.1 Z0r.g Z0r.L' Z0r.h₁:=by
 intro XB TB hB hroom g0 g1 f0 f1 S hBf h
 intro hg l1 KX TXr F N
 have hBg:B.StaysIn g:=hg ▸ stays_hide hB (nms_cons (P:=fun p:Addr×Obj=>B.get? p.1=none) (a:=(q.X,instObj 501 q.dx)) f0 (nms_cons (a:=(q.dx,txM q st ts (.ref q.O) vt ftb)) f1 nms_nil))
 have KB:Below ⟨hd_,dp,some outer,gd,un⟩ B outer g:=below_of rfl S hg hBg hBf
 have TX:Top pq loose mean mg mb g:=TB.keeps hBg
 clear TXr TB XB
 k_lt l1
 have n1:@Ne Nat q.X q.dx:=fun e=>by rw [e,g1] at g0; cases g0
 k_steps
 rename Fr _ _ _ _=>F₁
 rename News _ _ _ _=>N₁
 exact h _ _ _ _ (mod_of hg F₁ N₁ (ns_cons (fun _=>mk_in g0 (by k_mem)) (ns_cons (fun n=>(n (by k_mem)).elim) ns_nil))) (N₁ _ eM1).1
theorem save311 {w:World} {A:Around} {s:Shared} {B:Heap} {q:Tq} {st:Str} {ts:Tok} {vt:Addr} {ftb:Value} {R:Rp} {loose:List Str} {mean:ExcName→Option Value} {mg mb:Sm} {outer:List Env} (XB:(hd.heap_1 w.params).In B) (TB:Top pq loose mean mg mb B) (hB:B.StaysIn s.heap) (hroom:A.depth+16<recursionLimit) (g0:s.heap.get? q.X=some (instObj 501 q.dx)) (g1:s.heap.get? q.dx=some (txM q st ts (.ref q.O) vt ftb)) (f0:B.get? q.X=none) (f1:B.get? q.dx=none) (hA:A.frames=some outer) (S:Stk outer s.heap [q.X,q.dx]) (hBf:∀ b∈frs outer,B.get? b=none) (h:∀ h' tk' ts' tf,Mod [q.dx] s.heap h'→h'.get? q.dx=some (txM q (Str.ofString "Commit failed") ts' (.ref q.O) vt (.str "failed" tf))→R (.ok (.ret .none)) { s with heap:=h',toks:=tk' }):codeAny (model P2 w) A (.call (.ref 311) ⟨[.ref q.X],[]⟩) R s:=by
 obtain ⟨hd_,dp,_,gd,un⟩:=A
 dsimp only at hA hroom
 subst hA
 exact eps0 Z0rcq Z0rc rfl (by with_unfolding_all exact Z0rb.2 (fun g L' h₁=>eps0 Z0rdq Z0rd rfl (by with_unfolding_all exact Z0rm) (g,L',h₁))) ((pq,w,s,B,q,st),(ts,vt,ftb,R,loose,mean),(mg,mb,outer,hd_,dp,gd),un) XB TB hB hroom g0 g1 f0 f1 S hBf h
noncomputable def MgrIs (q:Tq) (mv:Value) (ex:Rest):Prop:=(mv=.none∧ex=[]) ∨ (mv=.ref q.O∧ex=[(q.O,instObj 758 q.dO),(q.dO,owD q (.ref q.X))]∧@Ne Nat q.X q.dO∧@Ne Nat q.dx q.dO∧@Ne Nat q.O q.dO∧@Ne Nat q.O q.dx)
abbrev Z0tP (pq:Program) (w:World) (s:Shared) (B:Heap) (q:Tq) (st:Str) (ts:Tok) (vt:Addr) (ftb:Value) (R:Rp) (loose:List Str) (mean:ExcName→Option Value) (mg mb:Sm) (outer:List Env) (hd_:Option Value) (dp:Nat) (gd:Option (List Code)) (un:Nat):Prop:=∀ (mv:Value) (ex:Rest) (XB:(hd.heap_1 w.params).In B) (TB:Top pq loose mean mg mb B) (hB:B.StaysIn s.heap) (hroom:dp+16<recursionLimit) (g0:s.heap.get? q.X=some (instObj 501 q.dx)) (g1:s.heap.get? q.dx=some (txM q st ts mv vt ftb)) (gx:∀ p∈ex,s.heap.get? p.1=some p.2) (f0:B.get? q.X=none) (f1:B.get? q.dx=none) (fx:∀ p∈ex,B.get? p.1=none) (S:Stk outer s.heap (q.X::q.dx::ex.map (·.1))) (hBf:∀ b∈frs outer,B.get? b=none) (hmv:MgrIs q mv ex) (h:∀ h' tk',Mod (q.dx::ex.map (·.1)) s.heap h'→h'.get? q.dx=some (txM q st ts .none vt ftb)→R (.ok (.ret .none)) { s with heap:=h',toks:=tk' }),codeAny (model P2 w) (Around.mk hd_ dp (some outer) gd un) (.call (.ref 441) ⟨[.ref q.X],[]⟩) R s
abbrev Z0tcq:=U fun a=>U fun b=>U fun c d=>(T6 (T6 (T6 Z0tP a) b) c) d
def Z0tc:=eps Z0tcq ⟨inferInstance⟩
def Z0t.pq:=Z0tc.1.1
def Z0t.w:=Z0tc.1.2.1
def Z0t.s:=Z0tc.1.2.2.1
def Z0t.B:=Z0tc.1.2.2.2.1
def Z0t.q:=Z0tc.1.2.2.2.2.1
def Z0t.st:=Z0tc.1.2.2.2.2.2
def Z0t.ts:=Z0tc.2.1.1
def Z0t.vt:=Z0tc.2.1.2.1
def Z0t.ftb:=Z0tc.2.1.2.2.1
def Z0t.R:=Z0tc.2.1.2.2.2.1
def Z0t.loose:=Z0tc.2.1.2.2.2.2.1
def Z0t.mean:=Z0tc.2.1.2.2.2.2.2
def Z0t.mg:=Z0tc.2.2.1.1
def Z0t.mb:=Z0tc.2.2.1.2.1
def Z0t.outer:=Z0tc.2.2.1.2.2.1
def Z0t.hd_:=Z0tc.2.2.1.2.2.2.1
def Z0t.dp:=Z0tc.2.2.1.2.2.2.2.1
def Z0t.gd:=Z0tc.2.2.1.2.2.2.2.2
def Z0t.un:=Z0tc.2.2.2
open Z0t in
noncomputable def Z0tb:PSigma fun P:(Heap)→(Addr)→(Heap)→Prop=>(∀ g L' h₁,P g L' h₁)→Z0tP Z0t.pq Z0t.w Z0t.s Z0t.B Z0t.q Z0t.st Z0t.ts Z0t.vt Z0t.ftb Z0t.R Z0t.loose Z0t.mean Z0t.mg Z0t.mb Z0t.outer Z0t.hd_ Z0t.dp Z0t.gd Z0t.un:=by
 apply PSigma.mk
 case snd=>
 intro hP
 intro mv ex XB TB hB hroom g0 g1 gx f0 f1 fx S hBf hmv h
 have n0:@Ne Nat q.X q.dx:=fun e=>by rw [e,g1] at g0; cases g0
 k_dflt (refine' enter (Λ:=(q.X,instObj 501 q.dx)::(q.dx,txM q st ts mv vt ftb)::ex) XB (topRead_of TB) hB ?k1 ?k2 (by k_is) (by k_is) (by show dp<recursionLimit; k_room) (BindsTo.of_eq rfl) (locs rfl) ?_ rfl rfl rfl (by decide))
 (case k1=>exact nms_cons g0 (nms_cons g1 gx))
 (case k2=>exact nms_cons f0 (nms_cons f1 fx))
 intro g L' h₁
 revert mv ex XB TB hB hroom g0 g1 gx f0 f1 fx S hBf hmv h n0
 exact hP g L' h₁
abbrev Z0tdq:=T3 Z0tb.1
def Z0td:=eps Z0tdq ⟨inferInstance⟩
def Z0t.g:=Z0td.1
def Z0t.L':=Z0td.2.1
def Z0t.h₁:=Z0td.2.2
open Z0t in
theorem Z0tm:Z0tb.1 Z0t.g Z0t.L' Z0t.h₁:=by
 skip
 intro mv ex XB TB hB hroom g0 g1 gx f0 f1 fx S hBf hmv h n0
 intro hg l1 KX TXr F N
 have hBg:B.StaysIn g:=hg ▸ stays_hide hB (nms_cons (P:=fun p:Addr×Obj=>B.get? p.1=none) (a:=(q.X,instObj 501 q.dx)) f0 (nms_cons (a:=(q.dx,txM q st ts mv vt ftb)) f1 fx))
 have KB:Below ⟨hd_,dp,some outer,gd,un⟩ B outer g:=below_of rfl S hg hBg hBf
 have TX:Top pq loose mean mg mb g:=TB.keeps hBg
 clear TXr TB XB l1
 rcases hmv with ⟨rfl,rfl⟩|⟨rfl,rfl,n1,n2,n3,n4⟩
 ·k_steps
  rename Fr _ _ _ _=>F₁
  rename News _ _ _ _=>N₁
  exact h _ _ (mod_of hg F₁ N₁ (ns_cons (fun _=>mk_in g0 (by k_mem)) (ns_cons (fun n=>(n (.head _)).elim) ns_nil))) (N₁ _ eM1).1
 ·k_steps
  rename Fr _ _ _ _=>F₁
  rename News _ _ _ _=>N₁
  exact h _ _ (mod_of hg F₁ N₁ (ns_cons (fun _=>mk_in g0 (by k_mem)) (ns_cons (fun n=>(n (.head _)).elim) (ns_cons (fun n=>(n eM1).elim) (ns_cons (fun n=>(n eM2).elim) ns_nil))))) (N₁ _ eM1).1
theorem free441 {w:World} {A:Around} {s:Shared} {B:Heap} {q:Tq} {st:Str} {ts:Tok} {vt:Addr} {ftb mv:Value} {ex:Rest} {R:Rp} {loose:List Str} {mean:ExcName→Option Value} {mg mb:Sm} {outer:List Env} (XB:(hd.heap_1 w.params).In B) (TB:Top pq loose mean mg mb B) (hB:B.StaysIn s.heap) (hroom:A.depth+16<recursionLimit) (g0:s.heap.get? q.X=some (instObj 501 q.dx)) (g1:s.heap.get? q.dx=some (txM q st ts mv vt ftb)) (gx:∀ p∈ex,s.heap.get? p.1=some p.2) (f0:B.get? q.X=none) (f1:B.get? q.dx=none) (fx:∀ p∈ex,B.get? p.1=none) (hA:A.frames=some outer) (S:Stk outer s.heap (q.X::q.dx::ex.map (·.1))) (hBf:∀ b∈frs outer,B.get? b=none) (hmv:MgrIs q mv ex) (h:∀ h' tk',Mod (q.dx::ex.map (·.1)) s.heap h'→h'.get? q.dx=some (txM q st ts .none vt ftb)→R (.ok (.ret .none)) { s with heap:=h',toks:=tk' }):codeAny (model P2 w) A (.call (.ref 441) ⟨[.ref q.X],[]⟩) R s:=by
 obtain ⟨hd_,dp,_,gd,un⟩:=A
 dsimp only at hA hroom
 subst hA
 exact eps0 Z0tcq Z0tc rfl (by with_unfolding_all exact Z0tb.2 (fun g L' h₁=>eps0 Z0tdq Z0td rfl (by with_unfolding_all exact Z0tm) (g,L',h₁))) ((pq,w,s,B,q,st),(ts,vt,ftb,R,loose,mean),(mg,mb,outer,hd_,dp,gd),un) mv ex XB TB hB hroom g0 g1 gx f0 f1 fx S hBf hmv h
theorem nd_at {l:List Nat} (h:l.Nodup) {i j a b:Nat} (hi:l[i]?=some a) (hj:l[j]?=some b) (hij:i≠j):@Ne Nat a b:=fun e=>by
 subst e
 exact hij ((List.getElem?_inj (List.getElem?_eq_some_iff.mp hi).1 h).mp (hi.trans hj.symm))
abbrev Z0sP (pq:Program) (w:World) (A:Around) (s:Shared) (B:Heap) (q:Tq) (st:Str) (ts:Tok) (vt:Addr) (ftb mv:Value) (ex:Rest) (items:Array Value) (R:Rp) (loose:List Str) (mean:ExcName→Option Value) (mg mb:Sm) (outer:List Env):Prop:=∀ (XB:(hd.heap_1 w.params).In B) (TB:Top pq loose mean mg mb B) (hB:B.StaysIn s.heap) (hroom:A.depth+20<recursionLimit) (gN:∀ p∈(q.X,instObj 501 q.dx)::(q.dx,txM q st ts mv vt ftb)::(q.rs,listOf items q.kr)::(q.b1,listOf #[] q.k1)::(q.b2,listOf #[] q.k2)::(q.b3,listOf #[] q.k3)::(q.b4,listOf #[] q.k4)::ex,s.heap.get? p.1=some p.2) (fN:∀ p∈(q.X,instObj 501 q.dx)::(q.dx,txM q st ts mv vt ftb)::(q.rs,listOf items q.kr)::(q.b1,listOf #[] q.k1)::(q.b2,listOf #[] q.k2)::(q.b3,listOf #[] q.k3)::(q.b4,listOf #[] q.k4)::ex,B.get? p.1=none) (hA:A.frames=some outer) (S:Stk outer s.heap (q.X::q.dx::q.rs::q.b1::q.b2::q.b3::q.b4::ex.map (·.1))) (hBf:∀ b∈frs outer,B.get? b=none) (hmv:MgrIs q mv ex) (hisz:items.size ≤ sizeLine) (nd:[q.X,q.dx,q.rs,q.b1,q.b2,q.b3,q.b4].Nodup) (nex:∀ p∈ex,p.1∉[q.X,q.rs,q.b1,q.b2,q.b3,q.b4]) (h:∀ h' tk',Mod (q.dx::q.rs::q.b1::q.b2::q.b3::q.b4::ex.map (·.1)) s.heap h'→R (.ok (.ret .none)) { s with heap:=h',toks:=tk' }),codeAny (model P2 w) A (.call (.ref 448) ⟨[.ref q.X],[]⟩) R s
abbrev Z0scq:=U fun a=>U fun b=>U fun c d=>(T6 (T6 (T6 Z0sP a) b) c) d
def Z0sc:=eps Z0scq ⟨inferInstance⟩
def Z0s.pq:=Z0sc.1.1
def Z0s.w:=Z0sc.1.2.1
def Z0s.A:=Z0sc.1.2.2.1
def Z0s.s:=Z0sc.1.2.2.2.1
def Z0s.B:=Z0sc.1.2.2.2.2.1
def Z0s.q:=Z0sc.1.2.2.2.2.2
def Z0s.st:=Z0sc.2.1.1
def Z0s.ts:=Z0sc.2.1.2.1
def Z0s.vt:=Z0sc.2.1.2.2.1
def Z0s.ftb:=Z0sc.2.1.2.2.2.1
def Z0s.mv:=Z0sc.2.1.2.2.2.2.1
def Z0s.ex:=Z0sc.2.1.2.2.2.2.2
def Z0s.items:=Z0sc.2.2.1.1
def Z0s.R:=Z0sc.2.2.1.2.1
def Z0s.loose:=Z0sc.2.2.1.2.2.1
def Z0s.mean:=Z0sc.2.2.1.2.2.2.1
def Z0s.mg:=Z0sc.2.2.1.2.2.2.2.1
def Z0s.mb:=Z0sc.2.2.1.2.2.2.2.2
def Z0s.outer:=Z0sc.2.2.2
open Z0s in
noncomputable def Z0sb:PSigma fun P:(Heap)→(Addr)→(Heap)→Prop=>(∀ g L' h₁,P g L' h₁)→Z0sP Z0s.pq Z0s.w Z0s.A Z0s.s Z0s.B Z0s.q Z0s.st Z0s.ts Z0s.vt Z0s.ftb Z0s.mv Z0s.ex Z0s.items Z0s.R Z0s.loose Z0s.mean Z0s.mg Z0s.mb Z0s.outer:=by
 apply PSigma.mk
 case snd=>
 intro hP
 intro XB TB hB hroom gN fN hA S hBf hmv hisz nd nex h
 k_dflt (refine' enter (Λ:=(q.X,instObj 501 q.dx)::(q.dx,txM q st ts mv vt ftb)::(q.rs,listOf items q.kr)::(q.b1,listOf #[] q.k1)::(q.b2,listOf #[] q.k2)::(q.b3,listOf #[] q.k3)::(q.b4,listOf #[] q.k4)::ex) XB (topRead_of TB) hB ?k1 ?k2 (by k_is) (by k_is) (by k_room) (BindsTo.of_eq rfl) (locs rfl) ?_ rfl rfl rfl (by decide))
 (case k1=>exact gN)
 (case k2=>exact fN)
 intro g L' h₁
 revert XB TB hB hroom gN fN hA S hBf hmv hisz nd nex h
 exact hP g L' h₁
abbrev Z0sdq:=T3 Z0sb.1
def Z0sd:=eps Z0sdq ⟨inferInstance⟩
def Z0s.g:=Z0sd.1
def Z0s.L':=Z0sd.2.1
def Z0s.h₁:=Z0sd.2.2
open Z0s in
theorem Z0sm:Z0sb.1 Z0s.g Z0s.L' Z0s.h₁:=by
 intro XB TB hB hroom gN fN hA S hBf hmv hisz nd nex h
 intro hg l1 KX TXr F N
 have hBg:B.StaysIn g:=hg ▸ stays_hide hB fN
 have KB:Box (Below A B outer g):=⟨below_of hA S hg hBg hBf⟩
 clear l1
 k_steps
 have mx:∀ {p:Addr×Obj},p∈ex→p∈(q.X,instObj 501 q.dx)::(q.dx,txM q st ts mv vt ftb)::(q.rs,listOf items q.kr)::(q.b1,listOf #[] q.k1)::(q.b2,listOf #[] q.k2)::(q.b3,listOf #[] q.k3)::(q.b4,listOf #[] q.k4)::ex:=fun h=>eT7 h
 refine wpAny_call (free441 (B:=B) (mv:=mv) (ex:=ex) XB TB (fun b o e=>F.keep b o (hBg b o e)) (by k_room) (N _ (.head _)).1 (N _ eM1).1 (fun p hp=>(N p (mx hp)).1) (fN _ (.head _)) (fN _ eM1) (fun p hp=>fN p (mx hp)) (Around.frames_deeper hA)
  ((stk_of KB.out).push (Λ:=[]) rfl F N rfl rfl (ns_cons ⟨_,.head _,rfl⟩ (ns_cons ⟨(q.dx,txM q st ts mv vt ftb),eM1,rfl⟩ fun a ha=>?_))) (bf_push hBg rfl F hBf) hmv fun h₂ tk₂ hm gd=>?_)
 ·obtain ⟨p,hp,rfl⟩:=List.mem_map.mp ha
  exact ⟨p,mx hp,rfl⟩
 have F₂:=fr_mod F hm fun a ha=>by
  rcases List.mem_cons.mp ha with rfl|ha
  ·exact (N _ eM1).2
  ·obtain ⟨p,hp,rfl⟩:=List.mem_map.mp ha
   exact (N p (mx hp)).2
 have n0:@Ne Nat q.X q.dx:=nd_at nd (i:=0) (j:=1) rfl rfl (by decide)
 have n1:@Ne Nat q.X q.rs:=nd_at nd (i:=0) (j:=2) rfl rfl (by decide)
 have n2:@Ne Nat q.X q.b1:=nd_at nd (i:=0) (j:=3) rfl rfl (by decide)
 have n3:@Ne Nat q.X q.b2:=nd_at nd (i:=0) (j:=4) rfl rfl (by decide)
 have n4:@Ne Nat q.X q.b3:=nd_at nd (i:=0) (j:=5) rfl rfl (by decide)
 have n5:@Ne Nat q.X q.b4:=nd_at nd (i:=0) (j:=6) rfl rfl (by decide)
 have n6:@Ne Nat q.dx q.X:=nd_at nd (i:=1) (j:=0) rfl rfl (by decide)
 have n7:@Ne Nat q.dx q.rs:=nd_at nd (i:=1) (j:=2) rfl rfl (by decide)
 have n8:@Ne Nat q.dx q.b1:=nd_at nd (i:=1) (j:=3) rfl rfl (by decide)
 have n9:@Ne Nat q.dx q.b2:=nd_at nd (i:=1) (j:=4) rfl rfl (by decide)
 have n10:@Ne Nat q.dx q.b3:=nd_at nd (i:=1) (j:=5) rfl rfl (by decide)
 have n11:@Ne Nat q.dx q.b4:=nd_at nd (i:=1) (j:=6) rfl rfl (by decide)
 have n12:@Ne Nat q.rs q.X:=nd_at nd (i:=2) (j:=0) rfl rfl (by decide)
 have n13:@Ne Nat q.rs q.dx:=nd_at nd (i:=2) (j:=1) rfl rfl (by decide)
 have n14:@Ne Nat q.rs q.b1:=nd_at nd (i:=2) (j:=3) rfl rfl (by decide)
 have n15:@Ne Nat q.rs q.b2:=nd_at nd (i:=2) (j:=4) rfl rfl (by decide)
 have n16:@Ne Nat q.rs q.b3:=nd_at nd (i:=2) (j:=5) rfl rfl (by decide)
 have n17:@Ne Nat q.rs q.b4:=nd_at nd (i:=2) (j:=6) rfl rfl (by decide)
 have n18:@Ne Nat q.b1 q.X:=nd_at nd (i:=3) (j:=0) rfl rfl (by decide)
 have n19:@Ne Nat q.b1 q.dx:=nd_at nd (i:=3) (j:=1) rfl rfl (by decide)
 have n20:@Ne Nat q.b1 q.rs:=nd_at nd (i:=3) (j:=2) rfl rfl (by decide)
 have n21:@Ne Nat q.b1 q.b2:=nd_at nd (i:=3) (j:=4) rfl rfl (by decide)
 have n22:@Ne Nat q.b1 q.b3:=nd_at nd (i:=3) (j:=5) rfl rfl (by decide)
 have n23:@Ne Nat q.b1 q.b4:=nd_at nd (i:=3) (j:=6) rfl rfl (by decide)
 have n24:@Ne Nat q.b2 q.X:=nd_at nd (i:=4) (j:=0) rfl rfl (by decide)
 have n25:@Ne Nat q.b2 q.dx:=nd_at nd (i:=4) (j:=1) rfl rfl (by decide)
 have n26:@Ne Nat q.b2 q.rs:=nd_at nd (i:=4) (j:=2) rfl rfl (by decide)
 have n27:@Ne Nat q.b2 q.b1:=nd_at nd (i:=4) (j:=3) rfl rfl (by decide)
 have n28:@Ne Nat q.b2 q.b3:=nd_at nd (i:=4) (j:=5) rfl rfl (by decide)
 have n29:@Ne Nat q.b2 q.b4:=nd_at nd (i:=4) (j:=6) rfl rfl (by decide)
 have n30:@Ne Nat q.b3 q.X:=nd_at nd (i:=5) (j:=0) rfl rfl (by decide)
 have n31:@Ne Nat q.b3 q.dx:=nd_at nd (i:=5) (j:=1) rfl rfl (by decide)
 have n32:@Ne Nat q.b3 q.rs:=nd_at nd (i:=5) (j:=2) rfl rfl (by decide)
 have n33:@Ne Nat q.b3 q.b1:=nd_at nd (i:=5) (j:=3) rfl rfl (by decide)
 have n34:@Ne Nat q.b3 q.b2:=nd_at nd (i:=5) (j:=4) rfl rfl (by decide)
 have n35:@Ne Nat q.b3 q.b4:=nd_at nd (i:=5) (j:=6) rfl rfl (by decide)
 have n36:@Ne Nat q.b4 q.X:=nd_at nd (i:=6) (j:=0) rfl rfl (by decide)
 have n37:@Ne Nat q.b4 q.dx:=nd_at nd (i:=6) (j:=1) rfl rfl (by decide)
 have n38:@Ne Nat q.b4 q.rs:=nd_at nd (i:=6) (j:=2) rfl rfl (by decide)
 have n39:@Ne Nat q.b4 q.b1:=nd_at nd (i:=6) (j:=3) rfl rfl (by decide)
 have n40:@Ne Nat q.b4 q.b2:=nd_at nd (i:=6) (j:=4) rfl rfl (by decide)
 have n41:@Ne Nat q.b4 q.b3:=nd_at nd (i:=6) (j:=5) rfl rfl (by decide)
 have kp:∀ p∈(q.X,instObj 501 q.dx)::(q.rs,listOf items q.kr)::(q.b1,listOf #[] q.k1)::(q.b2,listOf #[] q.k2)::(q.b3,listOf #[] q.k3)::(q.b4,listOf #[] q.k4)::[],p.1∈[q.X,q.rs,q.b1,q.b2,q.b3,q.b4]→p.1≠q.dx→h₁.get? p.1=some p.2→h₂.get? p.1=some p.2:=fun p _ hin nd hg'=>hm _ _ hg' fun hm'=>by
  rcases List.mem_cons.mp hm' with e|e
  ·exact nd e
  ·obtain ⟨p',hp',e⟩:=List.mem_map.mp e
   exact nex p' hp' (e ▸ hin)
 have N₂:News g L' h₂ ((q.X,instObj 501 q.dx)::(q.dx,txM q st ts .none vt ftb)::(q.rs,listOf items q.kr)::(q.b1,listOf #[] q.k1)::(q.b2,listOf #[] q.k2)::(q.b3,listOf #[] q.k3)::(q.b4,listOf #[] q.k4)::[]):=by
  refine nms_cons ⟨kp _ (by k_mem) (by k_mem) (by assumption) (N _ (by k_mem)).1,(N _ (.head _)).2⟩ (nms_cons ⟨gd,(N _ eM1).2⟩ (nms_cons ⟨kp _ (by k_mem) (by k_mem) (by assumption) (N _ (by k_mem)).1,(N _ (by k_mem)).2⟩ (nms_cons ⟨kp _ (by k_mem) (by k_mem) (by assumption) (N _ (by k_mem)).1,(N _ (by k_mem)).2⟩ (nms_cons ⟨kp _ (by k_mem) (by k_mem) (by assumption) (N _ (by k_mem)).1,(N _ (by k_mem)).2⟩ (nms_cons ⟨kp _ (by k_mem) (by k_mem) (by assumption) (N _ (by k_mem)).1,(N _ (by k_mem)).2⟩ (nms_cons ⟨kp _ (by k_mem) (by k_mem) (by assumption) (N _ (by k_mem)).1,(N _ (by k_mem)).2⟩ nms_nil))))))
 clear F kp
 k_steps
 rename Fr _ _ _ _=>F₃
 rename News _ _ _ _=>N₃
 refine h _ _ (mod_of hg F₃ N₃ (ns_cons (fun _=>mk_in (gN _ (.head _)) (by k_mem)) (ns_cons (fun n=>(n (by k_mem)).elim) (ns_cons (fun n=>(n (by k_mem)).elim) (ns_cons (fun n=>(n (by k_mem)).elim) (ns_cons (fun n=>(n (by k_mem)).elim) (ns_cons (fun n=>(n (by k_mem)).elim) (ns_cons (fun n=>(n (by k_mem)).elim) fun a ha n=>(n ?_).elim))))))))
 exact eT6 ha
theorem free448 {w:World} {A:Around} {s:Shared} {B:Heap} {q:Tq} {st:Str} {ts:Tok} {vt:Addr} {ftb mv:Value} {ex:Rest} {items:Array Value} {R:Rp} {loose:List Str} {mean:ExcName→Option Value} {mg mb:Sm} {outer:List Env}:Z0sP pq w A s B q st ts vt ftb mv ex items R loose mean mg mb outer:=eps0 Z0scq Z0sc rfl (by with_unfolding_all exact Z0sb.2 (fun g L' h₁=>eps0 Z0sdq Z0sd rfl (by with_unfolding_all exact Z0sm) (g,L',h₁))) ((pq,w,A,s,B,q),(st,ts,vt,ftb,mv,ex),(items,R,loose,mean,mg,mb),outer)
theorem nd7 {x d r b1 b2 b3 b4:Nat} (h1:d<x) (h2:x<r) (h3:r<b1) (h4:b1<b2) (h5:b2<b3) (h6:b3<b4):[x,d,r,b1,b2,b3,b4].Nodup:=
 (List.Perm.swap d x [r,b1,b2,b3,b4]).nodup_iff.mpr ((pw_cons h1 (pw_cons h2 (pw_cons h3 (pw_cons h4 (pw_cons h5 (pw_cons h6 pw_one)))))).imp fun h=>Nat.ne_of_lt h)
theorem nin6 {a x r b1 b2 b3 b4:Nat} (h1:a<x) (h2:x<r) (h3:r<b1) (h4:b1<b2) (h5:b2<b3) (h6:b3<b4):a∉[x,r,b1,b2,b3,b4]:=fun m=>
 Nat.lt_irrefl _ ((List.pairwise_cons.mp (pw_cons h1 (pw_cons h2 (pw_cons h3 (pw_cons h4 (pw_cons h5 (pw_cons h6 pw_one))))))).1 a m)
theorem Ord.rs_b1 {q:Tq} {vt:Addr} (h:Ord q vt):@LT.lt Nat _ q.rs q.b1:=Bef.lt (by repeat (first|exact .here (by k_mem)|refine .there ?_)) h.pw
theorem Ord.nd {q:Tq} {vt:Addr} (h:Ord q vt):[q.X,q.dx,q.rs,q.b1,q.b2,q.b3,q.b4].Nodup:=
 nd7 h.2.2.2.2.2.2.1 h.2.2.2.2.2.2.2.1 h.rs_b1 h.2.2.2.2.2.2.2.2.2.2.2.2.1 h.2.2.2.2.2.2.2.2.2.2.2.2.2.1 h.2.2.2.2.2.2.2.2.2.2.2.2.2.2
theorem Ord.nex {q:Tq} {vt:Addr} (h:Ord q vt):∀ p∈[(q.O,instObj 758 q.dO),(q.dO,owD q (.ref q.X))],p.1∉[q.X,q.rs,q.b1,q.b2,q.b3,q.b4]:=by
 have e1:@LT.lt Nat _ q.O q.X:=Bef.lt (by repeat (first|exact .here (by k_mem)|refine .there ?_)) h.pw
 have n:∀ {a:Nat},a<q.X→a∉[q.X,q.rs,q.b1,q.b2,q.b3,q.b4]:=fun e=>nin6 e h.2.2.2.2.2.2.2.1 h.rs_b1 h.2.2.2.2.2.2.2.2.2.2.2.2.1 h.2.2.2.2.2.2.2.2.2.2.2.2.2.1 h.2.2.2.2.2.2.2.2.2.2.2.2.2.2
 exact nms_cons (n e1) (nms_cons (n (Nat.lt_trans h.2.1 e1)) nms_nil)
theorem Ord.mgr {q:Tq} {vt:Addr} (h:Ord q vt):MgrIs q (.ref q.O) [(q.O,instObj 758 q.dO),(q.dO,owD q (.ref q.X))]:=by
 have e1:@LT.lt Nat _ q.O q.X:=Bef.lt (by repeat (first|exact .here (by k_mem)|refine .there ?_)) h.pw
 have e2:@LT.lt Nat _ q.O q.dx:=Bef.lt (by repeat (first|exact .here (by k_mem)|refine .there ?_)) h.pw
 exact .inr ⟨rfl,rfl,by first|k_ne|(have:=h.2.1; omega),by first|k_ne|(have:=h.2.1; omega),by first|k_ne|(have:=h.2.1; omega),by first|k_ne|(have:=h.2.1; omega)⟩
end
noncomputable abbrev scCm:Scope:={ kind:=.function,names:=[(Str.ofString "self",.cell),(Str.ofString "v",.local),(Str.ofString "Status",.globalImplicit),(Str.ofString "DoomedTransaction",.globalImplicit),(Str.ofString "Exception",.globalImplicit)],isGenerator:=false,isCoroutine:=false }
noncomputable abbrev enCm (L':Addr):Env:=envOfC (Str.ofString "Transaction.commit") scCm L' 304 (.ref 303)
theorem nin8 {a x1 x2 x3 x4 x5 x6 x7 x8:Nat} {l:List Nat} (n1:a≠x1) (n2:a≠x2) (n3:a≠x3) (n4:a≠x4) (n5:a≠x5) (n6:a≠x6) (n7:a≠x7) (n8:a≠x8) (h:a∉l):a∉x1::x2::x3::x4::x5::x6::x7::x8::l:=fun m=>(List.mem_cons.mp m).elim n1 fun m=>(List.mem_cons.mp m).elim n2 fun m=>(List.mem_cons.mp m).elim n3 fun m=>(List.mem_cons.mp m).elim n4 fun m=>(List.mem_cons.mp m).elim n5 fun m=>(List.mem_cons.mp m).elim n6 fun m=>(List.mem_cons.mp m).elim n7 fun m=>(List.mem_cons.mp m).elim n8 h
abbrev Z0nP (pq:Program) (kept:List (Addr×Obj)) (w:World) (A:Around) (s:Shared) (B:Heap) (q:Tq) (ts:Tok) (items:Array Value) (vt:Addr) (kv:Nat) (R:Rp) (loose:List Str) (mean:ExcName→Option Value) (mg mb:Sm) (rest:Rest) (outer:List Env) (lg:Addr) (μs ml:List Mg) (σ:Addr→Ms) (rows:List (Str×Str)) (ps1 ps2:Array Value) (stp:Str) (kdp:Int) (at_:Addr):Prop:=∀ (XB:(hd.heap_1 w.params).In B) (TB:Top pq loose mean mg mb B) (hB:B.StaysIn s.heap) (hroom:A.depth+80<recursionLimit) (hp1:TabL ps1.toList) (hp2:TabL ps2.toList) (hN:∀ p∈cmN q (Str.ofString "Active") ts items vt #[] kv .none ps1 ps2 rest,s.heap.get? p.1=some p.2) (fN:∀ p∈cmN q (Str.ofString "Active") ts items vt #[] kv .none ps1 ps2 rest,B.get? p.1=none) (hdis:∀ a∈cmA q vt,a∉rest.map (·.1)) (hord:Ord q vt) (WD:Wd kept w lg μs σ rows rest) (hi:items.toList=ml.map fun μ=>.ref μ.M) (hm:∀ μ∈ml,μ∈μs) (hh:A.handled=none) (hA:A.frames=some outer) (S:Stk outer s.heap ((cmN q (Str.ofString "Active") ts items vt #[] kv .none ps1 ps2 rest).map (·.1))) (hBf:∀ b∈frs outer,B.get? b=none) (hPl:PlanIs μs stp kdp at_) (hz:rows.length<60) (hnd:(ml.map (·.M)).Nodup) (hl:ml.length∈[2,3,4,5]) (hok:∀ h' tk' rest' σ' rows' voted ps1' ps2',tryPart (sortMg ml) σ rows=((σ',rows',none),voted)→Wd kept w lg μs σ' rows' rest'→TabL ps1'.toList→TabL ps2'.toList →
   DoneH ((cmN q (Str.ofString "Active") ts items vt #[] kv .none ps1 ps2 rest).map (·.1)) [(299,tabObj ps1'),(422,tabObj ps2')] rest' s.heap h'→R (.ok (.ret .none)) { s with heap:=h',toks:=tk' }) (hno:∀ h' tk' rest' σ' rows' kd Cx ea voted vt' vits' kv' ts' tf ps1' ps2',tryPart (sortMg ml) σ rows=((σ',rows',some kd),voted)→ClsOf kd Cx→TabL ps1'.toList→TabL ps2'.toList→vt'≠q.dx →
   Wd kept w lg μs (cleanSt (sortMg ml) voted (σ',rows')).1 (cleanSt (sortMg ml) voted (σ',rows')).2 rest' →
   Thrown outer (hideAll s.heap ((cmN q (Str.ofString "Active") ts items vt #[] kv .none ps1 ps2 rest).map (·.1))) (cmN q (Str.ofString "Commit failed") ts' items vt' vits' kv' (.str "failed" tf) ps1' ps2' rest') Cx ea s.heap h' →
   (∀ a∈cmA q vt',a∉rest'.map (·.1))→R (.error (.ref ea)) { s with heap:=h',toks:=tk' }),codeAny (model P2 w) A (.call (.ref 304) ⟨[.ref q.X],[]⟩) R s
abbrev Z0ncq:=U fun a=>U fun b=>U fun c=>U fun d e=>T4 (T6 (T6 (T6 (T6 Z0nP a) b) c) d) e
def Z0nc:=eps Z0ncq ⟨inferInstance⟩
def Z0n.pq:=Z0nc.1.1
def Z0n.kept:=Z0nc.1.2.1
def Z0n.w:=Z0nc.1.2.2.1
def Z0n.A:=Z0nc.1.2.2.2.1
def Z0n.s:=Z0nc.1.2.2.2.2.1
def Z0n.B:=Z0nc.1.2.2.2.2.2
def Z0n.q:=Z0nc.2.1.1
def Z0n.ts:=Z0nc.2.1.2.1
def Z0n.items:=Z0nc.2.1.2.2.1
def Z0n.vt:=Z0nc.2.1.2.2.2.1
def Z0n.kv:=Z0nc.2.1.2.2.2.2.1
def Z0n.R:=Z0nc.2.1.2.2.2.2.2
def Z0n.loose:=Z0nc.2.2.1.1
def Z0n.mean:=Z0nc.2.2.1.2.1
def Z0n.mg:=Z0nc.2.2.1.2.2.1
def Z0n.mb:=Z0nc.2.2.1.2.2.2.1
def Z0n.rest:=Z0nc.2.2.1.2.2.2.2.1
def Z0n.outer:=Z0nc.2.2.1.2.2.2.2.2
def Z0n.lg:=Z0nc.2.2.2.1.1
def Z0n.μs:=Z0nc.2.2.2.1.2.1
def Z0n.ml:=Z0nc.2.2.2.1.2.2.1
def Z0n.σ:=Z0nc.2.2.2.1.2.2.2.1
def Z0n.rows:=Z0nc.2.2.2.1.2.2.2.2.1
def Z0n.ps1:=Z0nc.2.2.2.1.2.2.2.2.2
def Z0n.ps2:=Z0nc.2.2.2.2.1
def Z0n.stp:=Z0nc.2.2.2.2.2.1
def Z0n.kdp:=Z0nc.2.2.2.2.2.2.1
def Z0n.at_:=Z0nc.2.2.2.2.2.2.2
open Z0n in
noncomputable def Z0nb:PSigma fun P:(Heap)→(Addr)→(Heap)→Prop=>(∀ g L' h₁,P g L' h₁)→Z0nP Z0n.pq Z0n.kept Z0n.w Z0n.A Z0n.s Z0n.B Z0n.q Z0n.ts Z0n.items Z0n.vt Z0n.kv Z0n.R Z0n.loose Z0n.mean Z0n.mg Z0n.mb Z0n.rest Z0n.outer Z0n.lg Z0n.μs Z0n.ml Z0n.σ Z0n.rows Z0n.ps1 Z0n.ps2 Z0n.stp Z0n.kdp Z0n.at_:=by
 apply PSigma.mk
 case snd=>
 intro hP
 intro XB TB hB hroom hp1 hp2 hN fN hdis hord WD hi hm hh hA S hBf hPl hz hnd hl hok hno
 k_dflt (refine' enterC (Λ:=cmN q (Str.ofString "Active") ts items vt #[] kv .none ps1 ps2 rest) XB (topRead_of TB) hB ?k1 ?k2 ?k6 ?k7 ?k8 ?k9 ?kL ?kD ?_ ?c2 ?c3 ?c4)
 (case k6=>k_is)
 (case k7=>k_is)
 (case k8=>k_room)
 (case k9=>exact BindsTo.of_eq rfl)
 (case kL=>exact rfl)
 (case kD=>decide +kernel)
 (case c2=>exact rfl)
 (case c3=>exact rfl)
 (case c4=>exact rfl)
 (case k1=>exact hN)
 (case k2=>exact fN)
 intro g L' h₁
 revert XB TB hB hroom hp1 hp2 hN fN hdis hord WD hi hm hh hA S hBf hPl hz hnd hl hok hno
 exact hP g L' h₁
abbrev Z0ndq:=T3 Z0nb.1
def Z0nd:=eps Z0ndq ⟨inferInstance⟩
def Z0n.g:=Z0nd.1
def Z0n.L':=Z0nd.2.1
def Z0n.h₁:=Z0nd.2.2
set_option genSizeOf false in
set_option genInjectivity false in
open Z0n in
inductive CkNo (h₅:Heap) (ts₅:Tok) (e:Value) (s₁:Shared):Prop where
 | mk (h':Heap) (tk':Nat) (rest':Rest) (σ':Addr→Ms) (rows':List (Str×Str)) (kd:Int) (Cx:Addr) (ea:Addr) (voted:List Mg) (vt':Addr) (vits':Array Value) (kv':Nat) (ps2':Array Value) (f1:e=.ref ea) (f2:s₁={ s with heap:=h',toks:=tk' }) (f3:tryPart (sortMg ml) σ rows=((σ',rows',some kd),voted)) (f4:ClsOf kd Cx) (f5:TabL ps2'.toList) (f6:Wd kept w lg μs (cleanSt (sortMg ml) voted (σ',rows')).1 (cleanSt (sortMg ml) voted (σ',rows')).2 rest') (f7:Thrown (enCm L'::outer) (hideAll h₅ (q.X::q.dx::q.rs::vt::([(q.W,instObj 153 q.dW),(q.dW,wsDict q.wh q.wt q.dl),(q.dl,listOf #[] q.kl),(422,tabObj ps2)]++rest).map (·.1))) (((q.X,instObj 501 q.dx)::(q.dx,txD q (Str.ofString "Committing") ts₅ vt' .none)::(q.rs,listOf items q.kr)::(vt',listOf vits' kv')::(q.W,instObj 153 q.dW)::(q.dW,wsDict q.wh q.wt q.dl)::(q.dl,listOf #[] q.kl)::(422,tabObj ps2')::[])++rest') Cx ea h₅ h') (f8:(∀ p∈(q.X,instObj 501 q.dx)::(q.dx,txD q (Str.ofString "Committing") ts₅ vt' .none)::(q.rs,listOf items q.kr)::(vt',listOf vits' kv')::(q.W,instObj 153 q.dW)::(q.dW,wsDict q.wh q.wt q.dl)::(q.dl,listOf #[] q.kl)::(422,tabObj ps2')::[],p.1∉rest'.map (·.1))):CkNo h₅ ts₅ e s₁
open Z0n in
theorem Z0nm:Z0nb.1 Z0n.g Z0n.L' Z0n.h₁:=by
 intro XB TB hB hroom hp1 hp2 hN fN hdis hord WD hi hm hh hA S hBf hPl hz hnd hl hok hno
 intro tk cells
 intro hg l1 KX TXr F N Y
 have hBG:B.StaysIn g:=hg ▸ stays_hide hB fN
 have KB:Box (Below A B outer g):=⟨below_of hA S hg hBG hBf⟩
 have TX:Top pq loose mean mg mb g:=TB.keeps hBG
 show wpAny _ _ _ _ _ _
 k_fold
 have hord₀:=hord
 unfold Ord at hord
 have lX:@LT.lt Nat _ q.b4 L':=l1 (q.b4,listOf #[] q.k4) (by k_mem)
 have pL:=Ord.pwL hord₀ lX
 k_cells Y
 rename Obj=>oc
 rename _=Data.cell _=>doc₀
 have doc:oc.data=.cell (some (.ref q.X)):=doc₀
 clear doc₀
 clear TXr
 try (show wpAny _ _ _ _ _ _; k_fold)
 obtain ⟨tl,htl⟩:∃ tl:Rest,tl=tlN q items vt #[] kv ps2 rest:=⟨_,rfl⟩
 have N₁:News g L' h₁ ((L'+1,oc)::(q.X,instObj 501 q.dx)::(q.dx,txD q (Str.ofString "Active") ts vt .none)::(q.W,instObj 153 q.dW)::(q.dW,wsDict q.wh q.wt q.dl)::(299,tabObj ps1)::tl):=by rw [htl]; exact N
 clear N
 have n1:@Ne Nat (L'+1) q.dx:=bes pL (by with_reducible repeat' constructor)
 have n2:@Ne Nat q.X q.dx:=bes pL (by with_reducible repeat' constructor)
 have n3:@Ne Nat q.W q.dx:=bes pL (by with_reducible repeat' constructor)
 have n4:@Ne Nat q.dW q.dx:=bes pL (by with_reducible repeat' constructor)
 have n5:@Ne Nat 299 q.dx:=bes pL (by with_reducible repeat' constructor)
 have n6:@Ne Nat (L'+1) 299:=bes pL (by with_reducible repeat' constructor)
 have n7:@Ne Nat q.X 299:=bes pL (by with_reducible repeat' constructor)
 have n8:@Ne Nat q.dx 299:=bes pL (by with_reducible repeat' constructor)
 have n9:@Ne Nat q.W 299:=bes pL (by with_reducible repeat' constructor)
 have n10:@Ne Nat q.dW 299:=bes pL (by with_reducible repeat' constructor)
 have t1:∀ p∈tl,p.1≠q.dx:=by
  rw [htl]
  repeat' (first|(refine nms_cons ?_ ?_)|(refine neN ?_; dsimp only; exact bes pL (by with_reducible repeat' constructor))|exact nin_ne (hdis _ (by k_mem)))
 have t2:∀ p∈tl,p.1≠299:=by
  rw [htl]
  repeat' (first|(refine nms_cons ?_ ?_)|(refine neN ?_; dsimp only; exact bes pL (by with_reducible repeat' constructor))|exact nin_ne (hdis _ (by k_mem)))
 have SS:∀ {h:Heap} {m:Sm} {nw:Rest} {Λ':List Addr},Fr g L' h m→News g L' h nw→(∀ a∈Λ',∃ p∈nw,p.1=a)→Stk (enCm L'::outer) h Λ':=fun F N hΛ=>(stk_of KB.out).push (Λ:=[]) rfl F N rfl rfl hΛ
 have FB:∀ {h:Heap} {nw:Rest} {p:Addr×Obj},News g L' h nw→p∈nw→B.get? p.1=none:=fun N hp=>fresh_of_stays hBG (N _ hp).2.2
 have HF:=bf_push (env:=enCm L') hBG rfl F hBf
 have mb1:(q.b1,listOf #[] q.k1)∈tl:=by rw [htl]; k_mem
 have mdl:(q.dl,listOf #[] q.kl)∈tl:=by rw [htl]; k_mem
 k_steps
 refine wpAny_call (hk341 (B:=B) (q:=q) XB TB (fun b o e=>F.keep b o (hBG b o e)) (by k_room) (N₁ _ eM1).1 (N₁ _ eM2).1 (N₁ _ (eT6 mb1)).1 (FB N₁ eM1) (FB N₁ eM2) (FB N₁ (eT6 mb1))
  (Around.frames_deeper hA) (SS F N₁ (ns_cons ⟨_,eM1,rfl⟩ (ns_cons ⟨(q.dx,txD q (Str.ofString "Active") ts vt .none),eM2,rfl⟩ (ns_cons ⟨_,eT6 mb1,rfl⟩ ns_nil)))) HF fun h₂ tk₂ hm₂=>?_)
 have F₂:=fr_mod0 F hm₂
 have N₂:=news_mod0 N₁ hm₂
 clear F N₁
 have CH:CodeHd g 303 299:=codeHd_of_K KX (by kernel_rfl)
 k_steps
 refine kla_eval rfl ?_
 refine lam_any F₂ N₂ TX CH rfl (by k_updF) hp1 rfl fun fl h₃ tk₃ ps₃ hp₃ F₃ N₃=>?_
 clear F₂ N₂
 k_steps
 refine wpAny_call (wmap (B:=g) (ex:=[]) KX (topRead_of TX) F₃.keep (by k_room) (N₃ _ eM3).1 (N₃ _ eM4).1 (N₃ _ (eT6 mdl)).1 nms_nil
  (N₃ _ eM3).2.2 (N₃ _ eM4).2.2 (N₃ _ (eT6 mdl)).2.2 nms_nil (.inl hh) fun h₄ tk₄ hm₄=>?_)
 have F₄:=fr_mod0 F₃ hm₄
 have N₄:=news_mod0 N₃ hm₄
 clear F₃ N₃
 k_steps
 rename Fr _ _ _ _=>F₅
 rename News _ _ _ _=>N₅
 try (show wpAny _ _ _ _ _ _; k_fold)
 obtain ⟨ts₅,N₅⟩:∃ ts₅,News g L' _ ((L'+1,oc)::(q.X,instObj 501 q.dx)::(q.dx,txD q (Str.ofString "Committing") ts₅ vt .none)::(q.W,instObj 153 q.dW)::(q.dW,wsDict q.wh q.wt q.dl)::(299,tabObj ps₃)::tl):=⟨_,N₅⟩
 rename Heap=>h₅
 have i₅:∀ p∈((q.X,instObj 501 q.dx)::(q.dx,txD q (Str.ofString "Committing") ts₅ vt .none)::(q.rs,listOf items q.kr)::(vt,listOf #[] kv)::(q.W,instObj 153 q.dW)::(q.dW,wsDict q.wh q.wt q.dl)::(q.dl,listOf #[] q.kl)::(422,tabObj ps2)::[])++rest,p∈(L'+1,oc)::(q.X,instObj 501 q.dx)::(q.dx,txD q (Str.ofString "Committing") ts₅ vt .none)::(q.W,instObj 153 q.dW)::(q.dW,wsDict q.wh q.wt q.dl)::(299,tabObj ps₃)::tl:=by
  rw [htl]
  repeat' (first|(refine nms_cons ?_ ?_)|k_mem|(intro p hp; repeat (first|exact hp|refine List.Mem.tail _ ?_)))
 have hΛ:∀ a∈(q.X::q.dx::q.rs::vt::([(q.W,instObj 153 q.dW),(q.dW,wsDict q.wh q.wt q.dl),(q.dl,listOf #[] q.kl),(422,tabObj ps2)]++rest).map (·.1)),∃ p∈(L'+1,oc)::(q.X,instObj 501 q.dx)::(q.dx,txD q (Str.ofString "Committing") ts₅ vt .none)::(q.W,instObj 153 q.dW)::(q.dW,wsDict q.wh q.wt q.dl)::(299,tabObj ps₃)::tl,p.1=a:=fun a ha=>by
  obtain ⟨p,hp,rfl⟩:=List.mem_map.mp (show a∈(((q.X,instObj 501 q.dx)::(q.dx,txD q (Str.ofString "Committing") ts₅ vt .none)::(q.rs,listOf items q.kr)::(vt,listOf #[] kv)::(q.W,instObj 153 q.dW)::(q.dW,wsDict q.wh q.wt q.dl)::(q.dl,listOf #[] q.kl)::(422,tabObj ps2)::[])++rest).map (·.1) from ha)
  exact ⟨p,i₅ p hp,rfl⟩
 have nΛ:∀ a∈[q.O,q.dO,q.b1,q.b2,q.b3,q.b4,299],a∉(q.X::q.dx::q.rs::vt::([(q.W,instObj 153 q.dW),(q.dW,wsDict q.wh q.wt q.dl),(q.dl,listOf #[] q.kl),(422,tabObj ps2)]++rest).map (·.1)):=by
  refine ns_cons ?_ (ns_cons ?_ (ns_cons ?_ (ns_cons ?_ (ns_cons ?_ (ns_cons ?_ (ns_cons ?_ ns_nil))))))
  all_goals show _∉q.X::q.dx::q.rs::vt::q.W::q.dW::q.dl::422::rest.map (·.1)
  all_goals exact nin8 (bes pL (by with_reducible repeat' constructor)) (bes pL (by with_reducible repeat' constructor)) (bes pL (by with_reducible repeat' constructor)) (bes pL (by with_reducible repeat' constructor)) (bes pL (by with_reducible repeat' constructor)) (bes pL (by with_reducible repeat' constructor)) (bes pL (by with_reducible repeat' constructor)) (bes pL (by with_reducible repeat' constructor)) (hdis _ (by k_mem))
 refine try_with (fun e s₁=>Opq (CkNo h₅ ts₅ e s₁)) ?hand ?body
 case hand=>
  rintro e s₁ hO
  (try (show wpAny _ _ _ _ _ _; k_fold))
  obtain ⟨h₆,tk₆,rest₆,σ₆,rows₆,kd,Cx,ea,voted,vt₆,vits₆,kv₆,ps₆,rfl,rfl,htp,hC,hp₆,W₆,TH,dis₆⟩:=hO.out
  obtain ⟨fI,hx⟩:=exc_of (w:=w) hC
  have hΛg:∀ a∈(q.X::q.dx::q.rs::vt::([(q.W,instObj 153 q.dW),(q.dW,wsDict q.wh q.wt q.dl),(q.dl,listOf #[] q.kl),(422,tabObj ps2)]++rest).map (·.1)),g.get? a=none:=fun a ha=>by
   obtain ⟨p,hp,rfl⟩:=hΛ a ha
   exact (N₅ p hp).2.2
  have disA:∀ a∈cmA q vt₆,a∉rest₆.map (·.1):=by
   have dT:∀ {a:Addr} {o:Obj},(a,o)∈(299,tabObj ps₃)::tl→a∈[q.O,q.dO,q.b1,q.b2,q.b3,q.b4,299]→a∉rest₆.map (·.1):=fun h1 h2=>thrown_dis TH (N₅ _ (eT5 h1)).1 (nΛ _ h2)
   rw [htl] at dT
   exact ns_cons (dis₆ (q.X,instObj 501 q.dx) (by k_mem)) (ns_cons (dis₆ (q.dx,txD q (Str.ofString "Committing") ts₅ vt₆ .none) (by k_mem)) (ns_cons (dis₆ (q.W,instObj 153 q.dW) (by k_mem)) (ns_cons (dis₆ (q.dW,wsDict q.wh q.wt q.dl) (by k_mem)) (ns_cons (dT (o:=tabObj ps₃) (by k_mem) (by k_mem)) (ns_cons (dis₆ (q.rs,listOf items q.kr) (by k_mem)) (ns_cons (dis₆ (vt₆,listOf vits₆ kv₆) (by k_mem)) (ns_cons (dis₆ (q.dl,listOf #[] q.kl) (by k_mem)) (ns_cons (dis₆ (422,tabObj ps₆) (by k_mem))
    (ns_cons (dT (o:=instObj 758 q.dO) (by k_mem) (by k_mem)) (ns_cons (dT (o:=owD q (.ref q.X)) (by k_mem) (by k_mem)) (ns_cons (dT (o:=listOf #[] q.k1) (by k_mem) (by k_mem)) (ns_cons (dT (o:=listOf #[] q.k2) (by k_mem) (by k_mem)) (ns_cons (dT (o:=listOf #[] q.k3) (by k_mem) (by k_mem)) (ns_cons (dT (o:=listOf #[] q.k4) (by k_mem) (by k_mem)) ns_nil))))))))))))))
  obtain ⟨t₇,ht₇⟩:∃ tl:Rest,tl=tlN q items vt₆ vits₆ kv₆ ps₆ rest₆:=⟨_,rfl⟩
  have hl₇:∀ p∈(L'+1,oc)::(q.X,instObj 501 q.dx)::(q.dx,txD q (Str.ofString "Committing") ts₅ vt₆ .none)::(q.W,instObj 153 q.dW)::(q.dW,wsDict q.wh q.wt q.dl)::(299,tabObj ps₃)::t₇,p∈((q.X,instObj 501 q.dx)::(q.dx,txD q (Str.ofString "Committing") ts₅ vt₆ .none)::(q.rs,listOf items q.kr)::(vt₆,listOf vits₆ kv₆)::(q.W,instObj 153 q.dW)::(q.dW,wsDict q.wh q.wt q.dl)::(q.dl,listOf #[] q.kl)::(422,tabObj ps₆)::[])++rest₆ ∨ (p∈(L'+1,oc)::(q.X,instObj 501 q.dx)::(q.dx,txD q (Str.ofString "Committing") ts₅ vt .none)::(q.W,instObj 153 q.dW)::(q.dW,wsDict q.wh q.wt q.dl)::(299,tabObj ps₃)::tl∧p.1∉(q.X::q.dx::q.rs::vt::([(q.W,instObj 153 q.dW),(q.dW,wsDict q.wh q.wt q.dl),(q.dl,listOf #[] q.kl),(422,tabObj ps2)]++rest).map (·.1))):=by
   have cc:L'+1∉(q.X::q.dx::q.rs::vt::([(q.W,instObj 153 q.dW),(q.dW,wsDict q.wh q.wt q.dl),(q.dl,listOf #[] q.kl),(422,tabObj ps2)]++rest).map (·.1)):=by
    intro hm
    have lC:∀ a∈(q.X::q.dx::q.rs::vt::([(q.W,instObj 153 q.dW),(q.dW,wsDict q.wh q.wt q.dl),(q.dl,listOf #[] q.kl),(422,tabObj ps2)]++rest).map (·.1)),@LT.lt Nat _ a L':=ns_cons (l1 (q.X,instObj 501 q.dx) (by k_mem)) (ns_cons (l1 (q.dx,txD q (Str.ofString "Active") ts vt .none) (by k_mem)) (ns_cons (l1 (q.rs,listOf items q.kr) (by k_mem)) (ns_cons (l1 (vt,listOf #[] kv) (by k_mem)) (ns_cons (l1 (q.W,instObj 153 q.dW) (by k_mem)) (ns_cons (l1 (q.dW,wsDict q.wh q.wt q.dl) (by k_mem)) (ns_cons (l1 (q.dl,listOf #[] q.kl) (by k_mem)) (ns_cons (l1 (422,tabObj ps2) (by k_mem)) fun a ha=>by
     obtain ⟨p,hp,rfl⟩:=List.mem_map.mp ha
     exact l1 p (eT8 (eT7 hp)))))))))
    exact Nat.lt_irrefl _ (Nat.lt_trans (lC _ hm) (Nat.lt_succ_self _))
   have in_:∀ {p:Addr×Obj},p.1∈[q.O,q.dO,q.b1,q.b2,q.b3,q.b4,299]→p∈(299,tabObj ps₃)::tl→p∈(((q.X,instObj 501 q.dx)::(q.dx,txD q (Str.ofString "Committing") ts₅ vt₆ .none)::(q.rs,listOf items q.kr)::(vt₆,listOf vits₆ kv₆)::(q.W,instObj 153 q.dW)::(q.dW,wsDict q.wh q.wt q.dl)::(q.dl,listOf #[] q.kl)::(422,tabObj ps₆)::[])++rest₆) ∨ (p∈(L'+1,oc)::(q.X,instObj 501 q.dx)::(q.dx,txD q (Str.ofString "Committing") ts₅ vt .none)::(q.W,instObj 153 q.dW)::(q.dW,wsDict q.wh q.wt q.dl)::(299,tabObj ps₃)::tl∧p.1∉(q.X::q.dx::q.rs::vt::([(q.W,instObj 153 q.dW),(q.dW,wsDict q.wh q.wt q.dl),(q.dl,listOf #[] q.kl),(422,tabObj ps2)]++rest).map (·.1))):=
    fun h1 h2=>.inr ⟨(eT5 h2),nΛ _ h1⟩
   rw [ht₇]
   rw [htl] at in_ ⊢
   exact nms_cons (.inr ⟨.head _,cc⟩) (nms_cons (.inl (by k_mem)) (nms_cons (.inl (by k_mem)) (nms_cons (.inl (by k_mem)) (nms_cons (.inl (by k_mem)) (nms_cons (in_ (by k_mem) (by k_mem)) (nms_cons (.inl (by k_mem)) (nms_cons (.inl (by k_mem)) (nms_cons (.inl (by k_mem)) (nms_cons (.inl (by k_mem)) (nms_cons (in_ (by k_mem) (by k_mem)) (nms_cons (in_ (by k_mem) (by k_mem)) (nms_cons (in_ (by k_mem) (by k_mem)) (nms_cons (in_ (by k_mem) (by k_mem)) (nms_cons (in_ (by k_mem) (by k_mem)) (nms_cons (in_ (by k_mem) (by k_mem)) fun p hp=>.inl (List.mem_append_right _ hp))))))))))))))))
  refine note_held (nw:=(L'+1,oc)::(q.X,instObj 501 q.dx)::(q.dx,txD q (Str.ofString "Committing") ts₅ vt .none)::(q.W,instObj 153 q.dW)::(q.dW,wsDict q.wh q.wt q.dl)::(299,tabObj ps₃)::tl) (l:=(L'+1,oc)::(q.X,instObj 501 q.dx)::(q.dx,txD q (Str.ofString "Committing") ts₅ vt₆ .none)::(q.W,instObj 153 q.dW)::(q.dW,wsDict q.wh q.wt q.dl)::(299,tabObj ps₃)::t₇) (Around.frames_deeper hA) rfl KB.out TH F₅ N₅ hΛg hl₇ fun h₇ H=>?_
  refine catch_all_core (fI:=fI) (K:=Mine.hd.heap_1 w.params) (Around.frames_deeper hA) rfl rfl rfl rfl KB.out hBf XB TB hx F₅.above (fun KX' TX' F' q=>?hname) H ?_
  case hname=>
   k_steps
   exact q
  clear F₅ N₅ H hl₇
  intro h₈ g₈ tk₈ oe T oT t TT KB₈ KX₈ TX₈ F₈ N₈ ER ne₈ nT₈
  have KB₈:=Box.mk KB₈
  have SS₈:∀ {h:Heap} {m:Sm} {nw:Rest} {Λ':List Addr},Fr g₈ L' h m→News g₈ L' h nw→(∀ a∈Λ',∃ p∈nw,p.1=a)→Stk (enCm L'::outer) h Λ':=fun F N hΛ=>(stk_of KB₈.out).push (Λ:=[]) rfl F N rfl rfl hΛ
  have FB₈:∀ {h:Heap} {nw:Rest} {p:Addr×Obj},News g₈ L' h nw→p∈nw→B.get? p.1=none:=fun N hp=>fresh_of_stays KB₈.out.stays (N _ hp).2.2
  have HF₈:=bf_push (env:=enCm L') KB₈.out.stays rfl F₈ hBf
  k_steps
  refine wpAny_call (save311 (B:=B) (q:=q) (st:=(Str.ofString "Committing")) (ts:=ts₅) (vt:=vt₆) (ftb:=.none) XB TB (fun b o e=>F₈.keep b o (KB₈.out.stays b o e)) (show A.depth+1+16<recursionLimit by omega) (N₈ _ eM3).1 (N₈ (q.dx,txD q (Str.ofString "Committing") ts₅ vt₆ .none) eM4).1 (FB₈ N₈ eM3) (FB₈ N₈ (p:=(q.dx,txD q (Str.ofString "Committing") ts₅ vt₆ .none)) eM4)
   (Around.frames_deeper hA) (SS₈ F₈ N₈ (ns_cons ⟨_,eM3,rfl⟩ (ns_cons ⟨(q.dx,txD q (Str.ofString "Committing") ts₅ vt₆ .none),eM4,rfl⟩ ns_nil))) HF₈ fun h₉ tk₉ tsf tf hm₉ gd₉=>?_)
  have nt₇:∀ p∈t₇,p.1≠q.dx:=fun p hp e=>by
   rw [ht₇] at hp
   revert p
   repeat' (first|(refine nms_cons ?_ ?_)|(intro e; exact absurd (show @Eq Nat _ _ from e) (by k_room))|exact nin_ne (disA q.dx (by k_mem)))
   intro e
   exact news_ne N₈ (a:=vt₆) (b:=q.dx) (o:=listOf vits₆ kv₆) (eT8 (by rw [ht₇]; k_mem)) eM4 (fun z=>by have:=congrArg Obj.data z; simp [PySem.W.listOf,dictOf] at this) e
  have F₉:=fr_mod F₈ hm₉ fun a ha=>(List.mem_singleton.mp ha) ▸ (N₈ (q.dx,txD q (Str.ofString "Committing") ts₅ vt₆ .none) eM4).2
  have N₉:News g₈ L' h₉ ((ea,oe)::(T,oT)::(L'+1,oc)::(q.X,instObj 501 q.dx)::(q.dx,txD q (Str.ofString "Commit failed") tsf vt₆ (.str "failed" tf))::(q.W,instObj 153 q.dW)::(q.dW,wsDict q.wh q.wt q.dl)::(299,tabObj ps₃)::t₇):=
   nms_cons (news_stay N₈ hm₉ (.head _) (ne₈ (q.dx,txD q (Str.ofString "Committing") ts₅ vt₆ .none) eM2).symm) (nms_cons (news_stay N₈ hm₉ eM1 (nT₈ (q.dx,txD q (Str.ofString "Committing") ts₅ vt₆ .none) eM2).symm) (nms_cons (news_stay N₈ hm₉ eM2 n1) (nms_cons (news_stay N₈ hm₉ eM3 n2) (nms_cons ⟨gd₉,(N₈ (q.dx,txD q (Str.ofString "Committing") ts₅ vt₆ .none) eM4).2⟩ (nms_cons (news_stay N₈ hm₉ eM5 n3) (nms_cons (news_stay N₈ hm₉ eM6 n4) (nms_cons (news_stay N₈ hm₉ eM7 n5) fun p hp=>news_stay N₈ hm₉ (eT8 hp) (nt₇ p hp))))))))
  have ne₉:∀ p∈(L'+1,oc)::(q.X,instObj 501 q.dx)::(q.dx,txD q (Str.ofString "Commit failed") tsf vt₆ (.str "failed" tf))::(q.W,instObj 153 q.dW)::(q.dW,wsDict q.wh q.wt q.dl)::(299,tabObj ps₃)::t₇,p.1≠ea:=
   nms_cons (ne₈ _ (.head _)) (nms_cons (ne₈ _ eM1) (nms_cons (a:=(q.dx,txD q (Str.ofString "Commit failed") tsf vt₆ (.str "failed" tf))) (ne₈ (q.dx,txD q (Str.ofString "Committing") ts₅ vt₆ .none) eM2) fun p hp=>ne₈ p (eT3 hp)))
  have nT₉:∀ p∈(L'+1,oc)::(q.X,instObj 501 q.dx)::(q.dx,txD q (Str.ofString "Commit failed") tsf vt₆ (.str "failed" tf))::(q.W,instObj 153 q.dW)::(q.dW,wsDict q.wh q.wt q.dl)::(299,tabObj ps₃)::t₇,p.1≠T:=
   nms_cons (nT₈ _ (.head _)) (nms_cons (nT₈ _ eM1) (nms_cons (a:=(q.dx,txD q (Str.ofString "Commit failed") tsf vt₆ (.str "failed" tf))) (nT₈ (q.dx,txD q (Str.ofString "Committing") ts₅ vt₆ .none) eM2) fun p hp=>nT₈ p (eT3 hp)))
  clear F₈ N₈ ne₈ nT₈
  have mb2:(q.b2,listOf #[] q.k2)∈t₇:=by rw [ht₇]; k_mem
  k_steps
  refine wpAny_call (hk365 (B:=B) (q:=q) (st_:=false) (st:=(Str.ofString "Commit failed")) (ts:=tsf) (vt:=vt₆) (ftb:=.str "failed" tf) XB TB (fun b o e=>F₉.keep b o (KB₈.out.stays b o e)) (show A.depth+1+12<recursionLimit by omega) (N₉ _ eM3).1 (N₉ (q.dx,txD q (Str.ofString "Commit failed") tsf vt₆ (.str "failed" tf)) eM4).1 (N₉ _ (eT8 mb2)).1 (FB₈ N₉ eM3) (FB₈ N₉ (p:=(q.dx,txD q (Str.ofString "Commit failed") tsf vt₆ (.str "failed" tf))) eM4) (FB₈ N₉ (eT8 mb2))
   (Around.frames_deeper hA) (SS₈ F₉ N₉ (ns_cons ⟨_,eM3,rfl⟩ (ns_cons ⟨(q.dx,txD q (Str.ofString "Commit failed") tsf vt₆ (.str "failed" tf)),eM4,rfl⟩ (ns_cons ⟨_,(eT8 mb2),rfl⟩ ns_nil)))) HF₈ fun h₁₀ tk₁₀ hm₁₀=>?_)
  have F₁₀:=fr_mod0 F₉ hm₁₀
  have N₁₀:=news_mod0 N₉ hm₁₀
  clear F₉ N₉
  k_steps
  have ER':ExcR ((ea,oe)::(T,oT)::(L'+1,oc)::(q.X,instObj 501 q.dx)::(q.dx,txD q (Str.ofString "Commit failed") tsf vt₆ (.str "failed" tf))::(q.W,instObj 153 q.dW)::(q.dW,wsDict q.wh q.wt q.dl)::(299,tabObj ps₃)::t₇) Cx ea t T:=ER.mono fun p hp=>(List.mem_cons.mp hp).elim (fun e=>e ▸ .head _) fun hp=>List.mem_singleton.mp hp ▸ eM1
  refine' rethrow (L:=L') (g:=g₈) (outer:=outer) (A₀:=A) (B:=B) ?p1 ?p2 ?p3 ?p4 ?p5 ?p6 ?p7 ?p8 ?p9 ?p10 ?p11 ?p12 ?p13
  case p1=>exact Around.frames_deeper hA
  case p2=>rfl
  case p3=>rfl
  case p4=>rfl
  case p5=>rfl
  case p6=>exact KB₈.out
  case p7=>exact KX₈
  case p8=>exact hx
  case p9=>exact F₁₀
  case p10=>exact N₁₀
  case p11=>exact ER'
  case p12=>
   intro Q' E' q
   k_steps
   exact q
  intro h₁₁ tk₁₁ U₁₁ keep₁₁
  refine leave2_held rfl U₁₁ fun h₁₂ U₁₂ x₁₂=>?_
  refine hno h₁₂ _ rest₆ σ₆ rows₆ kd Cx ea voted vt₆ vits₆ kv₆ tsf tf ps₃ ps₆ htp hC hp₃ hp₆ (nt₇ (vt₆,listOf vits₆ kv₆) (by rw [ht₇]; k_mem)) W₆ (thrown_of S rfl (hg ▸ TT) KB₈.out rfl F₁₀ N₁₀ ⟨_,.head _⟩ ⟨_,eM1⟩ U₁₂ (fun b o hb ho hno=>?keep) fun p hp=>?sub) disA
  case keep=>
   obtain ⟨sl,hs⟩:=keep₁₁ b o hb ho hno
   obtain ⟨sl',hs'⟩:=x₁₂ b _ hs hno
   exact ⟨sl',hs'⟩
  case sub=>
   have hp':p∈(q.X,instObj 501 q.dx)::(q.dx,txD q (Str.ofString "Commit failed") tsf vt₆ (.str "failed" tf))::(q.W,instObj 153 q.dW)::(q.dW,wsDict q.wh q.wt q.dl)::(299,tabObj ps₃)::t₇:=by rw [ht₇]; exact hp
   exact ⟨(eT3 hp'),ne₉ p (.tail _ (hp')),nT₉ p (.tail _ (hp'))⟩
 case body=>
  k_steps
  refine wpAny_call (commitRes (B:=B) (x:=q.x) (st:=(Str.ofString "Committing")) (ts:=ts₅) (items:=items) (vits:=#[]) (kr:=q.kr) (kv:=kv) (ftb:=.none) (wh:=q.wh) (wt:=q.wt) (kl:=q.kl) (ps:=ps2) (rest:=rest) (σ:=σ) (rows:=rows) (lg:=lg) (μs:=μs) (ml:=ml) (outer:=_::outer) XB TB (fun b o e=>F₅.keep b o (hBG b o e)) (by k_room) rfl hp2 (fun p hp=>(N₅ p (i₅ p hp)).1) (fun p hp=>FB N₅ (i₅ p hp)) ?hdis ?ndx ?n422 WD hi hm hh (Around.frames_deeper hA) (SS F₅ N₅ hΛ) HF hPl hz rfl hnd hl ?ok ?no)
  case hdis=>repeat' (first|(refine nms_cons ?_ ?_)|exact hdis _ (by k_mem)|exact nms_nil)
  case ndx=>repeat' (first|(refine nms_cons ?_ ?_)|(refine neN ?_; dsimp only; exact bes pL (by with_reducible repeat' constructor))|exact nms_nil)
  case n422=>repeat' (first|(refine nms_cons ?_ ?_)|(refine neN ?_; dsimp only; exact bes pL (by with_reducible repeat' constructor))|exact nms_nil)
  case no=>
   intro h₆ tk₆ rest₆ σ₆ rows₆ kd Cx ea voted vt₆ vits₆ kv₆ ps₆ htp hC hp₆ hv₆ W₆ TH dis₆
   exact Opq.mk ⟨h₆,tk₆,rest₆,σ₆,rows₆,kd,Cx,ea,voted,vt₆,vits₆,kv₆,ps₆,rfl,rfl,htp,hC,hp₆,W₆,TH,dis₆⟩
  case ok=>
   intro h₆ tk₆ rest₆ σ₆ rows₆ voted vt₆ vits₆ kv₆ htp W₆ hv₆ D₆
   try (show wpAny _ _ _ _ _ _; k_fold)
   obtain ⟨F₆,mk₆⟩:=after_done F₅ N₅ D₆ hΛ
   have dis₆:∀ a∈[q.X,q.dx,q.rs,q.W,q.dW,q.dl,422,q.O,q.dO,q.b1,q.b2,q.b3,q.b4,299],a∉rest₆.map (·.1):=by
    refine ns_cons (D₆.dis (q.X,instObj 501 q.dx) (by k_mem)) (ns_cons (D₆.dis (q.dx,txD q (Str.ofString "Committing") ts₅ vt₆ .none) (by k_mem)) (ns_cons (D₆.dis (q.rs,listOf items q.kr) (by k_mem)) (ns_cons (D₆.dis (q.W,instObj 153 q.dW) (by k_mem)) (ns_cons (D₆.dis (q.dW,wsDict q.wh q.wt q.dl) (by k_mem)) (ns_cons (D₆.dis (q.dl,listOf #[] q.kl) (by k_mem)) (ns_cons (D₆.dis (422,tabObj ps2) (by k_mem)) ?_))))))
    rw [htl] at N₅
    exact ns_cons (dis_all N₅ D₆ (a:=q.O) (by k_mem) (nΛ _ (by k_mem))) (ns_cons (dis_all N₅ D₆ (a:=q.dO) (by k_mem) (nΛ _ (by k_mem))) (ns_cons (dis_all N₅ D₆ (a:=q.b1) (by k_mem) (nΛ _ (by k_mem))) (ns_cons (dis_all N₅ D₆ (a:=q.b2) (by k_mem) (nΛ _ (by k_mem))) (ns_cons (dis_all N₅ D₆ (a:=q.b3) (by k_mem) (nΛ _ (by k_mem))) (ns_cons (dis_all N₅ D₆ (a:=q.b4) (by k_mem) (nΛ _ (by k_mem))) (ns_cons (dis_all N₅ D₆ (a:=299) (by k_mem) (nΛ _ (by k_mem))) ns_nil))))))
   try (show wpAny _ _ _ _ _ _; k_fold)
   obtain ⟨t₆,ht₆⟩:∃ tl:Rest,tl=(q.rs,listOf items q.kr)::(q.dl,listOf #[] q.kl)::(422,tabObj ps2)::(q.O,instObj 758 q.dO)::(q.dO,owD q (.ref q.X))::(q.b1,listOf #[] q.k1)::(q.b2,listOf #[] q.k2)::(q.b3,listOf #[] q.k3)::(q.b4,listOf #[] q.k4)::rest₆:=⟨_,rfl⟩
   have N₆:=mk₆ ((L'+1,oc)::(q.X,instObj 501 q.dx)::(q.dx,txD q (Str.ofString "Committing") ts₅ vt₆ .none)::(q.W,instObj 153 q.dW)::(q.dW,wsDict q.wh q.wt q.dl)::(299,tabObj ps₃)::t₆) ?sub
   case sub=>
    have cc:L'+1∉(q.X::q.dx::q.rs::vt::([(q.W,instObj 153 q.dW),(q.dW,wsDict q.wh q.wt q.dl),(q.dl,listOf #[] q.kl),(422,tabObj ps2)]++rest).map (·.1)):=by
     intro hm
     have lC:∀ a∈(q.X::q.dx::q.rs::vt::([(q.W,instObj 153 q.dW),(q.dW,wsDict q.wh q.wt q.dl),(q.dl,listOf #[] q.kl),(422,tabObj ps2)]++rest).map (·.1)),@LT.lt Nat _ a L':=ns_cons (l1 (q.X,instObj 501 q.dx) (by k_mem)) (ns_cons (l1 (q.dx,txD q (Str.ofString "Active") ts vt .none) (by k_mem)) (ns_cons (l1 (q.rs,listOf items q.kr) (by k_mem)) (ns_cons (l1 (vt,listOf #[] kv) (by k_mem)) (ns_cons (l1 (q.W,instObj 153 q.dW) (by k_mem)) (ns_cons (l1 (q.dW,wsDict q.wh q.wt q.dl) (by k_mem)) (ns_cons (l1 (q.dl,listOf #[] q.kl) (by k_mem)) (ns_cons (l1 (422,tabObj ps2) (by k_mem)) fun a ha=>by
      obtain ⟨p,hp,rfl⟩:=List.mem_map.mp ha
      exact l1 p (eT8 (eT7 hp)))))))))
     exact Nat.lt_irrefl _ (Nat.lt_trans (lC _ hm) (Nat.lt_succ_self _))
    have in_:∀ {p:Addr×Obj},p.1∈[q.O,q.dO,q.b1,q.b2,q.b3,q.b4,299]→p∈(299,tabObj ps₃)::tl→p∈(((q.X,instObj 501 q.dx)::(q.dx,txD q (Str.ofString "Committing") ts₅ vt₆ .none)::(q.rs,listOf items q.kr)::(vt₆,listOf vits₆ kv₆)::(q.W,instObj 153 q.dW)::(q.dW,wsDict q.wh q.wt q.dl)::(q.dl,listOf #[] q.kl)::(422,tabObj ps2)::[])++rest₆) ∨ (p∈(L'+1,oc)::(q.X,instObj 501 q.dx)::(q.dx,txD q (Str.ofString "Committing") ts₅ vt .none)::(q.W,instObj 153 q.dW)::(q.dW,wsDict q.wh q.wt q.dl)::(299,tabObj ps₃)::tl∧p.1∉(q.X::q.dx::q.rs::vt::([(q.W,instObj 153 q.dW),(q.dW,wsDict q.wh q.wt q.dl),(q.dl,listOf #[] q.kl),(422,tabObj ps2)]++rest).map (·.1))):=
     fun h1 h2=>.inr ⟨eT5 h2,nΛ _ h1⟩
    rw [ht₆]
    rw [htl] at in_ ⊢
    exact nms_cons (.inr ⟨.head _,cc⟩) (nms_cons (.inl (by k_mem)) (nms_cons (.inl (by k_mem)) (nms_cons (.inl (by k_mem)) (nms_cons (.inl (by k_mem)) (nms_cons (in_ (by k_mem) (by k_mem)) (nms_cons (.inl (by k_mem)) (nms_cons (.inl (by k_mem)) (nms_cons (.inl (by k_mem)) (nms_cons (in_ (by k_mem) (by k_mem)) (nms_cons (in_ (by k_mem) (by k_mem)) (nms_cons (in_ (by k_mem) (by k_mem)) (nms_cons (in_ (by k_mem) (by k_mem)) (nms_cons (in_ (by k_mem) (by k_mem)) (nms_cons (in_ (by k_mem) (by k_mem)) fun p hp=>.inl (List.mem_append_right _ hp)))))))))))))))
   clear F₅ N₅ mk₆
   have u1:∀ p∈t₆,p.1≠q.dx:=by
    rw [ht₆]
    repeat' (first|(refine nms_cons ?_ ?_)|(refine neN ?_; dsimp only; exact bes pL (by with_reducible repeat' constructor))|exact nin_ne (dis₆ _ (by k_mem)))
   have u2:∀ p∈t₆,p.1≠299:=by
    rw [ht₆]
    repeat' (first|(refine nms_cons ?_ ?_)|(refine neN ?_; dsimp only; exact bes pL (by with_reducible repeat' constructor))|exact nin_ne (dis₆ _ (by k_mem)))
   have mdl₆:(q.dl,listOf #[] q.kl)∈t₆:=by rw [ht₆]; k_mem
   have mb2:(q.b2,listOf #[] q.k2)∈t₆:=by rw [ht₆]; k_mem
   k_steps
   rename Fr _ _ _ _=>F₇
   rename News _ _ _ _=>N₇
   refine kla_eval rfl ?_
   refine lam_any F₇ N₇ TX CH rfl (by k_updF) hp₃ rfl fun fl₈ h₈ tk₈ ps₈ hp₈ F₈ N₈=>?_
   clear F₇ N₇
   k_steps
   refine wpAny_call (wmap (B:=g) (ex:=[]) KX (topRead_of TX) F₈.keep (by k_room) (N₈ _ eM3).1 (N₈ _ eM4).1 (N₈ _ (eT6 mdl₆)).1 nms_nil
    (N₈ _ eM3).2.2 (N₈ _ eM4).2.2 (N₈ _ (eT6 mdl₆)).2.2 nms_nil (.inl hh) fun h₉ tk₉ hm₉=>?_)
   have F₉:=fr_mod0 F₈ hm₉
   have N₉:=news_mod0 N₈ hm₉
   clear F₈ N₈
   k_steps
   refine wpAny_call (hk365 (B:=B) (q:=q) (st_:=true) (vt:=vt₆) XB TB (fun b o e=>F₉.keep b o (hBG b o e)) (by k_room) (N₉ _ eM1).1 (N₉ _ eM2).1 (N₉ _ (eT6 mb2)).1 (FB N₉ eM1) (FB N₉ eM2) (FB N₉ (eT6 mb2))
    (Around.frames_deeper hA) (SS F₉ N₉ (ns_cons ⟨_,eM1,rfl⟩ (ns_cons ⟨(q.dx,txD q _ _ vt₆ .none),eM2,rfl⟩ (ns_cons ⟨_,(eT6 mb2),rfl⟩ ns_nil)))) HF fun h₁₀ tk₁₀ hm₁₀=>?_)
   have F₁₀:=fr_mod0 F₉ hm₁₀
   have N₁₀:=news_mod0 N₉ hm₁₀
   clear F₉ N₉
   k_steps
   have j₆:∀ p∈(q.rs,listOf items q.kr)::(q.b1,listOf #[] q.k1)::(q.b2,listOf #[] q.k2)::(q.b3,listOf #[] q.k3)::(q.b4,listOf #[] q.k4)::[(q.O,instObj 758 q.dO),(q.dO,owD q (.ref q.X))],p∈t₆:=by
    rw [ht₆]
    repeat' (first|(refine nms_cons ?_ ?_)|k_mem|exact nms_nil)
   rename Fr _ _ _ _=>Fa
   rename News _ _ _ _=>Na
   obtain ⟨tsa,Na⟩:∃ ts,News g L' h₁₀ ((L'+1,oc)::(q.X,instObj 501 q.dx)::(q.dx,txD q (Str.ofString "Committed") ts vt₆ .none)::(q.W,instObj 153 q.dW)::(q.dW,wsDict q.wh q.wt q.dl)::(299,tabObj ps₈)::t₆):=⟨_,Na⟩
   refine wpAny_call (free448 (B:=B) (q:=q) (st:=Str.ofString "Committed") (ts:=tsa) (vt:=vt₆) (ftb:=.none) (items:=items) XB TB (fun b o e=>Fa.keep b o (hBG b o e)) (by k_room)
    (nms_cons (Na _ eM1).1 (nms_cons (Na _ eM2).1 fun p hp=>(Na p (eT6 (j₆ p hp))).1)) (nms_cons (FB Na eM1) (nms_cons (FB Na eM2) fun p hp=>FB Na (eT6 (j₆ p hp))))
    (Around.frames_deeper hA) (SS Fa Na (ns_cons ⟨_,eM1,rfl⟩ (ns_cons ⟨_,eM2,rfl⟩ fun a ha=>?_))) HF (Ord.mgr hord₀) ?isz (Ord.nd hord₀) (Ord.nex hord₀) fun h₁₁ tk₁₁ hm₁₁=>?_)
   case isz=>
    rw [←Array.length_toList,hi,List.length_map,sizeLine_eq]
    exact big25 hl
   ·obtain ⟨p,hp,rfl⟩:=List.mem_map.mp (show a∈((q.rs,listOf items q.kr)::(q.b1,listOf #[] q.k1)::(q.b2,listOf #[] q.k2)::(q.b3,listOf #[] q.k3)::(q.b4,listOf #[] q.k4)::[(q.O,instObj 758 q.dO),(q.dO,owD q (.ref q.X))]).map (·.1) from ha)
    exact ⟨p,(eT6 (j₆ p hp)),rfl⟩
   k_steps
   have F₁₁:=fr_mod Fa hm₁₁ fun a ha=>by
    rcases List.mem_cons.mp ha with rfl|ha
    ·exact (Na _ eM2).2
    ·obtain ⟨p,hp,rfl⟩:=List.mem_map.mp (show a∈((q.rs,listOf items q.kr)::(q.b1,listOf #[] q.k1)::(q.b2,listOf #[] q.k2)::(q.b3,listOf #[] q.k3)::(q.b4,listOf #[] q.k4)::[(q.O,instObj 758 q.dO),(q.dO,owD q (.ref q.X))]).map (·.1) from ha)
     exact (Na p (eT6 (j₆ p hp))).2
   have nf:∀ {a:Addr},a∈[299,422] ∨ a∈rest₆.map (·.1)→a∉q.dx::q.rs::q.b1::q.b2::q.b3::q.b4::[(q.O,instObj 758 q.dO),(q.dO,owD q (.ref q.X))].map (·.1):=fun {a} h1 h2=>by
    rcases h1 with h1|h1
    ·exact Nat.lt_irrefl a (Nat.lt_trans ((show ∀ b∈[299,422],b<464 by decide) a h1) (Ord.low hord₀ a h2))
    ·simp only [List.map_cons,List.map_nil,List.mem_cons,List.not_mem_nil,or_false] at h2
     rcases h2 with rfl|rfl|rfl|rfl|rfl|rfl|rfl|rfl
     all_goals exact dis₆ _ (by k_mem) h1
   have N₁₁:News g L' h₁₁ ([(299,tabObj ps₈),(422,tabObj ps2)]++rest₆):=by
    have m422:(422,tabObj ps2)∈t₆:=by rw [ht₆]; k_mem
    have mrest:∀ p∈rest₆,p∈t₆:=by rw [ht₆]; intro p hp; repeat (first|exact hp|refine List.Mem.tail _ ?_)
    refine nms_cons ⟨hm₁₁ _ _ (Na _ eM5).1 (nf (.inl (by k_mem))),(Na _ eM5).2⟩ (nms_cons ⟨hm₁₁ _ _ (Na _ (eT6 m422)).1 (nf (.inl (by k_mem))),(Na _ (eT6 m422)).2⟩ fun p hp=>⟨hm₁₁ _ _ (Na p (eT6 (mrest p hp))).1 (nf (.inr (List.mem_map_of_mem hp))),(Na p (eT6 (mrest p hp))).2⟩)
   exact hok _ _ rest₆ σ₆ rows₆ voted ps₈ ps2 htp W₆ hp₈ hp2 (done_of hg F₁₁ N₁₁ (fun p hp=>hp) (nms_cons (dis₆ 299 (by k_mem)) (nms_cons (dis₆ 422 (by k_mem)) nms_nil)))
theorem commit_ {w:World} {A:Around} {s:Shared} {B:Heap} {q:Tq} {ts:Tok} {items:Array Value} {vt:Addr} {kv:Nat} {R:Rp} {loose:List Str} {mean:ExcName→Option Value} {mg mb:Sm} {rest:Rest} {outer:List Env} {lg:Addr} {μs ml:List Mg} {σ:Addr→Ms} {rows:List (Str×Str)} {ps1 ps2:Array Value} {stp:Str} {kdp:Int} {at_:Addr}:Z0nP pq kept w A s B q ts items vt kv R loose mean mg mb rest outer lg μs ml σ rows ps1 ps2 stp kdp at_:=eps0 Z0ncq Z0nc rfl (by with_unfolding_all exact Z0nb.2 (fun g L' h₁=>eps0 Z0ndq Z0nd rfl (by with_unfolding_all exact Z0nm) (g,L',h₁))) ((pq,kept,w,A,s,B),(q,ts,items,vt,kv,R),(loose,mean,mg,mb,rest,outer),(lg,μs,ml,σ,rows,ps1),(ps2,stp,kdp,at_))
section
local macro_rules | `(tactic| walk_at "exec For Name Attribute cons nil") => `(tactic| k_dflt (refine wpAny_For ?_))
noncomputable abbrev scAb:Scope:={ kind:=.function,names:=[(Str.ofString "self",.cell),(Str.ofString "v",.local),(Str.ofString "exc",.local),(Str.ofString "rm",.local),(Str.ofString "Exception",.globalImplicit)],isGenerator:=false,isCoroutine:=false }
noncomputable abbrev enAb (L':Addr):Env:=envOfC (Str.ofString "Transaction.abort") scAb L' 469 (.ref 468)
noncomputable def effAb (μ:Mg) (st:Sr):Sr:=(upd st.1 μ.M (fA (st.1 μ.M)),st.2++[(Str.ofString "abort",μ.who)])
noncomputable abbrev t8N (q:Tq):Rest:=(q.dl,listOf #[] q.kl)::(q.O,instObj 758 q.dO)::(q.dO,owD q (.ref q.X))::(q.b1,listOf #[] q.k1)::(q.b2,listOf #[] q.k2)::(q.b3,listOf #[] q.k3)::(q.b4,listOf #[] q.k4)::[]
noncomputable abbrev abN (q:Tq) (st:Str) (ts:Tok) (items:Array Value) (vt:Addr) (ftb:Value) (ps:Array Value) (rest:Rest):Rest:=
 (q.X,instObj 501 q.dx)::(q.dx,txD q st ts vt ftb)::(q.W,instObj 153 q.dW)::(q.dW,wsDict q.wh q.wt q.dl)::(464,tabObj ps)::(q.rs,listOf items q.kr)::(t8N q++rest)
noncomputable abbrev abA (q:Tq):List Addr:=[q.X,q.dx,q.W,q.dW,464,q.rs,q.dl,q.O,q.dO,q.b1,q.b2,q.b3,q.b4]
abbrev Z0yP (pq:Program) (kept:List (Addr×Obj)) (w:World) (A:Around) (s:Shared) (B:Heap) (q:Tq) (st:Str) (ts:Tok) (items:Array Value) (vt vt₀:Addr) (ftb:Value) (R:Rp) (loose:List Str) (mean:ExcName→Option Value) (mg mb:Sm) (rest:Rest) (outer:List Env) (lg:Addr) (μs ml:List Mg) (σ:Addr→Ms) (rows:List (Str×Str)) (ps:Array Value):Prop:=∀ (XB:(hd.heap_1 w.params).In B) (TB:Top pq loose mean mg mb B) (hB:B.StaysIn s.heap) (hroom:A.depth+80<recursionLimit) (hps:TabL ps.toList) (hN:∀ p∈abN q st ts items vt ftb ps rest,s.heap.get? p.1=some p.2) (fN:∀ p∈abN q st ts items vt ftb ps rest,B.get? p.1=none) (hdis:∀ a∈abA q,a∉rest.map (·.1)) (hord:Ord q vt₀) (WD:Wd kept w lg μs σ rows rest) (hi:items.toList=ml.map fun μ=>.ref μ.M) (hm:∀ μ∈ml,μ∈μs) (hh:A.handled=none) (hA:A.frames=some outer) (S:Stk outer s.heap ((abN q st ts items vt ftb ps rest).map (·.1))) (hBf:∀ b∈frs outer,B.get? b=none) (hDs:∀ μ∈μs,PySem.Spec.lookup (.str (Str.ofString "abort")) μ.D=none) (hz:rows.length<200) (hl:ml.length ≤ 5) (hok:∀ h' tk' rest' ps',Wd kept w lg μs (ml.foldl (fun st μ=>effAb μ st) (σ,rows)).1 (ml.foldl (fun st μ=>effAb μ st) (σ,rows)).2 rest'→TabL ps'.toList →
   DoneH ((abN q st ts items vt ftb ps rest).map (·.1)) [(464,tabObj ps')] rest' s.heap h'→R (.ok (.ret .none)) { s with heap:=h',toks:=tk' }),codeAny (model P2 w) A (.call (.ref 469) ⟨[.ref q.X],[]⟩) R s
abbrev Z0ycq:=U fun a=>U fun b=>U fun c=>U fun d e=>T2 (T6 (T6 (T6 (T6 Z0yP a) b) c) d) e
def Z0yc:=eps Z0ycq ⟨inferInstance⟩
def Z0y.pq:=Z0yc.1.1
def Z0y.kept:=Z0yc.1.2.1
def Z0y.w:=Z0yc.1.2.2.1
def Z0y.A:=Z0yc.1.2.2.2.1
def Z0y.s:=Z0yc.1.2.2.2.2.1
def Z0y.B:=Z0yc.1.2.2.2.2.2
def Z0y.q:=Z0yc.2.1.1
def Z0y.st:=Z0yc.2.1.2.1
def Z0y.ts:=Z0yc.2.1.2.2.1
def Z0y.items:=Z0yc.2.1.2.2.2.1
def Z0y.vt:=Z0yc.2.1.2.2.2.2.1
def Z0y.vt₀:=Z0yc.2.1.2.2.2.2.2
def Z0y.ftb:=Z0yc.2.2.1.1
def Z0y.R:=Z0yc.2.2.1.2.1
def Z0y.loose:=Z0yc.2.2.1.2.2.1
def Z0y.mean:=Z0yc.2.2.1.2.2.2.1
def Z0y.mg:=Z0yc.2.2.1.2.2.2.2.1
def Z0y.mb:=Z0yc.2.2.1.2.2.2.2.2
def Z0y.rest:=Z0yc.2.2.2.1.1
def Z0y.outer:=Z0yc.2.2.2.1.2.1
def Z0y.lg:=Z0yc.2.2.2.1.2.2.1
def Z0y.μs:=Z0yc.2.2.2.1.2.2.2.1
def Z0y.ml:=Z0yc.2.2.2.1.2.2.2.2.1
def Z0y.σ:=Z0yc.2.2.2.1.2.2.2.2.2
def Z0y.rows:=Z0yc.2.2.2.2.1
def Z0y.ps:=Z0yc.2.2.2.2.2
open Z0y in
noncomputable def Z0yb:PSigma fun P:(Heap)→(Addr)→(Heap)→Prop=>(∀ g L' h₁,P g L' h₁)→Z0yP Z0y.pq Z0y.kept Z0y.w Z0y.A Z0y.s Z0y.B Z0y.q Z0y.st Z0y.ts Z0y.items Z0y.vt Z0y.vt₀ Z0y.ftb Z0y.R Z0y.loose Z0y.mean Z0y.mg Z0y.mb Z0y.rest Z0y.outer Z0y.lg Z0y.μs Z0y.ml Z0y.σ Z0y.rows Z0y.ps:=by
 apply PSigma.mk
 case snd=>
 intro hP
 intro XB TB hB hroom hps hN fN hdis hord WD hi hm hh hA S hBf hDs hz hl hok
 k_dflt (refine' enterC (Λ:=abN q st ts items vt ftb ps rest) XB (topRead_of TB) hB ?k1 ?k2 ?k6 ?k7 ?k8 ?k9 ?kL ?kD ?_ ?c2 ?c3 ?c4)
 (case k6=>k_is)
 (case k7=>k_is)
 (case k8=>k_room)
 (case k9=>exact BindsTo.of_eq rfl)
 (case kL=>exact rfl)
 (case kD=>decide +kernel)
 (case c2=>exact rfl)
 (case c3=>exact rfl)
 (case c4=>exact rfl)
 (case k1=>exact hN)
 (case k2=>exact fN)
 intro g L' h₁
 revert XB TB hB hroom hps hN fN hdis hord WD hi hm hh hA S hBf hDs hz hl hok
 exact hP g L' h₁
abbrev Z0ydq:=T3 Z0yb.1
def Z0yd:=eps Z0ydq ⟨inferInstance⟩
def Z0y.g:=Z0yd.1
def Z0y.L':=Z0yd.2.1
def Z0y.h₁:=Z0yd.2.2
open Z0y in
theorem Z0ym:Z0yb.1 Z0y.g Z0y.L' Z0y.h₁:=by
 intro XB TB hB hroom hps hN fN hdis hord WD hi hm hh hA S hBf hDs hz hl hok
 intro tk cells
 intro hg l1 KX TXr F N Y
 have hBG:B.StaysIn g:=hg ▸ stays_hide hB fN
 have KB:Box (Below A B outer g):=⟨below_of hA S hg hBG hBf⟩
 have TX:Top pq loose mean mg mb g:=TB.keeps hBG
 show wpAny _ _ _ _ _ _
 k_fold
 have hord₀:=hord
 unfold Ord at hord
 have lX:@LT.lt Nat _ q.b4 L':=l1 (q.b4,listOf #[] q.k4) (by k_mem)
 have pL:=Ord.pwL hord₀ lX
 k_cells Y
 rename Obj=>oc
 rename _=Data.cell _=>doc₀
 have doc:oc.data=.cell (some (.ref q.X)):=doc₀
 clear doc₀ TXr
 obtain ⟨t8,ht8⟩:∃ tl:Rest,tl=t8N q:=⟨_,rfl⟩
 have N₁:News g L' h₁ ((L'+1,oc)::(q.X,instObj 501 q.dx)::(q.dx,txD q st ts vt ftb)::(q.W,instObj 153 q.dW)::(q.dW,wsDict q.wh q.wt q.dl)::(464,tabObj ps)::(q.rs,listOf items q.kr)::(t8++rest)):=by rw [ht8]; exact N
 clear N
 have n1:@Ne Nat (L'+1) q.dx:=bes pL (by with_reducible repeat' constructor)
 have n2:@Ne Nat q.X q.dx:=bes pL (by with_reducible repeat' constructor)
 have n3:@Ne Nat q.W q.dx:=bes pL (by with_reducible repeat' constructor)
 have n4:@Ne Nat q.dW q.dx:=bes pL (by with_reducible repeat' constructor)
 have n5:@Ne Nat 464 q.dx:=bes pL (by with_reducible repeat' constructor)
 have n5':@Ne Nat q.rs q.dx:=bes pL (by with_reducible repeat' constructor)
 have n6:@Ne Nat (L'+1) 464:=bes pL (by with_reducible repeat' constructor)
 have n7:@Ne Nat q.X 464:=bes pL (by with_reducible repeat' constructor)
 have n8:@Ne Nat q.dx 464:=bes pL (by with_reducible repeat' constructor)
 have n9:@Ne Nat q.W 464:=bes pL (by with_reducible repeat' constructor)
 have n10:@Ne Nat q.dW 464:=bes pL (by with_reducible repeat' constructor)
 have n11:@Ne Nat q.rs 464:=bes pL (by with_reducible repeat' constructor)
 have t2:∀ p∈t8++rest,p.1≠464:=by
  rw [ht8]
  repeat' (first|(refine nms_cons ?_ ?_)|(refine neN ?_; dsimp only; exact bes pL (by with_reducible repeat' constructor))|exact nin_ne (hdis _ (by k_mem)))
 have SS:∀ {h:Heap} {m:Sm} {nw:Rest} {Λ':List Addr},Fr g L' h m→News g L' h nw→(∀ a∈Λ',∃ p∈nw,p.1=a)→Stk (enAb L'::outer) h Λ':=fun F N hΛ=>(stk_of KB.out).push (Λ:=[]) rfl F N rfl rfl hΛ
 have FB:∀ {h:Heap} {nw:Rest} {p:Addr×Obj},News g L' h nw→p∈nw→B.get? p.1=none:=fun N hp=>fresh_of_stays hBG (N _ hp).2.2
 have HF:=bf_push (env:=enAb L') hBG rfl F hBf
 have j8:∀ {p:Addr×Obj},p∈t8→p∈(L'+1,oc)::(q.X,instObj 501 q.dx)::(q.dx,txD q st ts vt ftb)::(q.W,instObj 153 q.dW)::(q.dW,wsDict q.wh q.wt q.dl)::(464,tabObj ps)::(q.rs,listOf items q.kr)::(t8++rest):=fun h=>(eT7 (List.mem_append_left _ h))
 have mb3:(q.b3,listOf #[] q.k3)∈t8:=by rw [ht8]; k_mem
 have mdl:(q.dl,listOf #[] q.kl)∈t8:=by rw [ht8]; k_mem
 k_steps
 rename Fr _ _ _ _=>F₁
 rename News _ _ _ _=>N₁
 refine wpAny_call (hk397 (B:=B) (q:=q) XB TB (fun b o e=>F₁.keep b o (hBG b o e)) (by k_room) (N₁ _ eM1).1 (N₁ (q.dx,txD q st ts vt ftb) eM2).1 (N₁ _ (j8 mb3)).1 (FB N₁ eM1) (FB N₁ (p:=(q.dx,txD q st ts vt ftb)) eM2) (FB N₁ (j8 mb3))
  (Around.frames_deeper hA) (SS F₁ N₁ (ns_cons ⟨_,eM1,rfl⟩ (ns_cons ⟨(q.dx,txD q st ts vt ftb),eM2,rfl⟩ (ns_cons ⟨_,j8 mb3,rfl⟩ ns_nil)))) HF fun h₂ tk₂ hm₂=>?_)
 have F₂:=fr_mod0 F₁ hm₂
 have N₂:=news_mod0 N₁ hm₂
 clear F₁ N₁
 have CH:CodeHd g 468 464:=codeHd_of_K KX (by kernel_rfl)
 k_steps
 refine try_with (fun e s₁=>False) (fun _ _ h=>h.elim) ?_
 k_steps
 refine kla_eval rfl ?_
 refine lam_any F₂ N₂ TX CH rfl (by k_updF) hps rfl fun fl h₃ tk₃ ps₃ hp₃ F₃ N₃=>?_
 clear F₂ N₂ j8
 k_steps
 have j8:∀ {p:Addr×Obj},p∈t8→p∈(L'+1,oc)::(q.X,instObj 501 q.dx)::(q.dx,txD q st ts vt ftb)::(q.W,instObj 153 q.dW)::(q.dW,wsDict q.wh q.wt q.dl)::(464,tabObj ps₃)::(q.rs,listOf items q.kr)::(t8++rest):=fun h=>(eT7 (List.mem_append_left _ h))
 refine wpAny_call (wmap (B:=g) (ex:=[]) KX (topRead_of TX) F₃.keep (by k_room) (N₃ _ eM3).1 (N₃ _ eM4).1 (N₃ _ (j8 mdl)).1 nms_nil
  (N₃ _ eM3).2.2 (N₃ _ eM4).2.2 (N₃ _ (j8 mdl)).2.2 nms_nil (.inl hh) fun h₄ tk₄ hm₄=>?_)
 have F₄:=fr_mod0 F₃ hm₄
 have N₄:=news_mod0 N₃ hm₄
 clear F₃ N₃
 k_steps
 rename Fr _ _ _ _=>F₅
 rename News _ _ _ _=>N₅
 have N₆:News g L' h₄ (((q.rs,listOf items q.kr)::((L'+1,oc)::(q.X,instObj 501 q.dx)::(q.dx,txD q st ts vt ftb)::(q.W,instObj 153 q.dW)::(q.dW,wsDict q.wh q.wt q.dl)::(464,tabObj ps₃)::t8))++rest):=by
  refine nms_cons (N₅ _ eM6) (nms_cons (N₅ _ (.head _)) (nms_cons (N₅ _ eM1) (nms_cons (N₅ (q.dx,txD q st ts vt ftb) eM2) (nms_cons (N₅ _ eM3) (nms_cons (N₅ _ eM4) (nms_cons (N₅ _ eM5) fun p hp=>N₅ p (eT7 hp)))))))
 clear N₅
 have dis₆:∀ p∈(q.rs,listOf items q.kr)::((L'+1,oc)::(q.X,instObj 501 q.dx)::(q.dx,txD q st ts vt ftb)::(q.W,instObj 153 q.dW)::(q.dW,wsDict q.wh q.wt q.dl)::(464,tabObj ps₃)::t8),p.1∉rest.map (·.1):=by
  rw [ht8]
  refine nms_cons (hdis q.rs (by k_mem)) (nms_cons (fun hm'=>?_) ?_)
  ·obtain ⟨p,hp,e⟩:=List.mem_map.mp hm'
   have:@LT.lt Nat _ p.1 L':=l1 p (eT8 (eT5 hp))
   have e':@Eq Nat p.1 (L'+1):=e
   exact Nat.lt_irrefl _ (Nat.lt_trans (Nat.lt_succ_self _) (e' ▸ this))
  ·repeat' (first|(refine nms_cons ?_ ?_)|exact hdis _ (by k_mem)|exact nms_nil)
 have nrs:∀ p∈((L'+1,oc)::(q.X,instObj 501 q.dx)::(q.dx,txD q st ts vt ftb)::(q.W,instObj 153 q.dW)::(q.dW,wsDict q.wh q.wt q.dl)::(464,tabObj ps₃)::t8)++rest,p.1≠q.rs:=by
  rw [ht8]
  repeat' (first|(refine nms_cons ?_ ?_)|(refine neN ?_; dsimp only; exact bes pL (by with_reducible repeat' constructor))|exact nin_ne (hdis _ (by k_mem)))
 obtain ⟨m₀,F₆⟩:∃ m₀:Sm,Fr g L' h₄ (fun y=>if y=Str.ofString "v" then some .none else m₀ y):=⟨_,F₅⟩
 clear F₅
 refine' loop_k (L:=L') (eff:=effAb) (σr:=(σ,rows)) (ml:=ml) (rest:=rest) (lg:=lg) (μs:=μs) (named:=(L'+1,oc)::(q.X,instObj 501 q.dx)::(q.dx,txD q st ts vt ftb)::(q.W,instObj 153 q.dW)::(q.dW,wsDict q.wh q.wt q.dl)::(464,tabObj ps₃)::t8) ?q1 ?q2 ?q3 ?q4 ?q5 ?q6 ?q7 ?q8 ?q9 ?q10 ?q11 ?q12 ?q13 ?turn ?ok
 case q1=>rfl
 case q2=>rfl
 case q3=>rfl
 case q4=>exact .inl hh
 case q5=>exact F₆
 case q6=>exact N₆
 case q7=>exact nrs
 case q8=>exact WD
 case q9=>exact dis₆
 case q10=>exact hi
 case q11=>exact hm
 case q12=>exact Nat.lt_of_lt_of_le (Nat.add_lt_add_of_lt_of_le ‹rows.length<200› ‹ml.length ≤ 5›) (by decide)
 case q13=>exact fun μ st=>by unfold effAb; simp
 case turn=>
  intro i μ it oi rest₃ st₃ h₃ tk₃ hμ hμs W₃ dis₃ hz₃ nit nD₃ F₄ N₄
  have O₁:=W₃.mg μ hμs
  have hd:=O₁.dict
  (try (show wpAny _ _ _ _ _ _; k_fold))
  obtain ⟨t5,t6,rv,hd,_⟩:=hd
  obtain ⟨tb,htb⟩:∃ tb:Rest,tb=(q.W,instObj 153 q.dW)::(q.dW,wsDict q.wh q.wt q.dl)::(464,tabObj ps₃)::t8:=⟨_,rfl⟩
  have N₅:News g L' h₃ ((μ.M,instObj μ.C μ.d)::(μ.d,mgDict lg μ (st₃.1 μ.M) t5 t6 rv)::(L'+1,oc)::[]):=nms_cons (N₄ _ (List.mem_append_right _ O₁.inst)) (nms_cons (N₄ _ (List.mem_append_right _ hd)) (nms_cons (N₄ _ eM2) nms_nil))
  have fin:∀ {Q:Vp} {E:Vp},(∀ h' tk' rest',Fr g L' h' (fun y=>if y=Str.ofString "rm" then some (.ref μ.M) else if y=Str.ofString "v" then some .none else m₀ y)→News g L' h' (((it,oi)::(q.rs,listOf items q.kr)::((L'+1,oc)::(q.X,instObj 501 q.dx)::(q.dx,txD q st ts vt ftb)::(q.W,instObj 153 q.dW)::(q.dW,wsDict q.wh q.wt q.dl)::(464,tabObj ps₃)::t8))++rest')→Wd kept w lg μs (effAb μ st₃).1 (effAb μ st₃).2 rest'→(∀ p∈(it,oi)::(q.rs,listOf items q.kr)::((L'+1,oc)::(q.X,instObj 501 q.dx)::(q.dx,txD q st ts vt ftb)::(q.W,instObj 153 q.dW)::(q.dW,wsDict q.wh q.wt q.dl)::(464,tabObj ps₃)::t8),p.1∉rest'.map (·.1))→Q .none { s with heap:=h',toks:=tk' }) →
    wpAny (model P2 w) (A.deeper (enAb L')) (call (.ref 859) [.ref μ.M,.ref q.X]) Q E { s with heap:=h₃,toks:=tk₃ }:=fun hq=>
   w_abort (named:=(it,oi)::(q.rs,listOf items q.kr)::((L'+1,oc)::(q.X,instObj 501 q.dx)::(q.dx,txD q st ts vt ftb)::(q.W,instObj 153 q.dW)::(q.dW,wsDict q.wh q.wt q.dl)::(464,tabObj ps₃)::t8)) (Around.frames_deeper hA) S hg rfl rfl KX (topRead_of TX) F₄ N₄ W₃ hμs dis₃ (by k_room) hz₃ (hDs μ hμs) fun hn hb tkb restb Fb Nb Wb disb=>hq hb tkb restb Fb Nb Wb disb
  rcases O₁.cls with hC|hC
  all_goals
   rw [hC] at N₅
   clear N₄
   k_steps
   refine try_with (fun _ _=>False) (fun _ _ h=>h.elim) ?_
   k_steps
   refine fin fun hb tkb restb Fb Nb Wb disb=>?_
   k_steps
   exact Opq.mk ⟨rfl,hb,_,restb,rfl,Wb,disb,Fb,Nb⟩
 case ok=>
  intro h₇ tk₇ rest₇ rv₇ W₇ dis₇ F₇ N₇
  simp only [List.cons_append,List.nil_append] at N₇
  k_steps
  have mb4:(q.b4,listOf #[] q.k4)∈t8:=by rw [ht8]; k_mem
  refine wpAny_call (hk420 (B:=B) (q:=q) XB TB (fun b o e=>F₇.keep b o (hBG b o e)) (by k_room) (N₇ _ eM2).1 (N₇ (q.dx,txD q st ts vt ftb) eM3).1 (N₇ _ (eT7 (List.mem_append_left _ mb4))).1 (FB N₇ eM2) (FB N₇ (p:=(q.dx,txD q st ts vt ftb)) eM3) (FB N₇ (eT7 (List.mem_append_left _ mb4)))
   (Around.frames_deeper hA) (SS F₇ N₇ (ns_cons ⟨_,eM2,rfl⟩ (ns_cons ⟨(q.dx,txD q st ts vt ftb),eM3,rfl⟩ (ns_cons ⟨_,(eT7 (List.mem_append_left _ mb4)),rfl⟩ ns_nil)))) HF fun h₈ tk₈ hm₈=>?_)
  have F₈:=fr_mod0 F₇ hm₈
  have N₈:=news_mod0 N₇ hm₈
  clear F₇ N₇
  k_steps
  have mO:(q.O,instObj 758 q.dO)∈t8:=by rw [ht8]; k_mem
  have mdO:(q.dO,owD q (.ref q.X))∈t8:=by rw [ht8]; k_mem
  have jO:(q.O,instObj 758 q.dO)∈(q.rs,listOf items q.kr)::(L'+1,oc)::(q.X,instObj 501 q.dx)::(q.dx,txD q st ts vt ftb)::(q.W,instObj 153 q.dW)::(q.dW,wsDict q.wh q.wt q.dl)::(464,tabObj ps₃)::(t8++rest₇):=(eT7 (List.mem_append_left _ mO))
  have jdO:(q.dO,owD q (.ref q.X))∈(q.rs,listOf items q.kr)::(L'+1,oc)::(q.X,instObj 501 q.dx)::(q.dx,txD q st ts vt ftb)::(q.W,instObj 153 q.dW)::(q.dW,wsDict q.wh q.wt q.dl)::(464,tabObj ps₃)::(t8++rest₇):=(eT7 (List.mem_append_left _ mdO))
  refine wpAny_call (free441 (B:=B) (q:=q) (st:=st) (ts:=ts) (vt:=vt) (ftb:=ftb) (mv:=.ref q.O) (ex:=[(q.O,instObj 758 q.dO),(q.dO,owD q (.ref q.X))]) XB TB (fun b o e=>F₈.keep b o (hBG b o e)) (by k_room) (N₈ _ eM2).1 (N₈ (q.dx,txD q st ts vt ftb) eM3).1 (nms_cons (N₈ _ jO).1 (nms_cons (N₈ _ jdO).1 nms_nil)) (FB N₈ eM2) (FB N₈ (p:=(q.dx,txD q st ts vt ftb)) eM3) (nms_cons (FB N₈ jO) (nms_cons (FB N₈ jdO) nms_nil))
   (Around.frames_deeper hA) (SS F₈ N₈ (ns_cons ⟨_,eM2,rfl⟩ (ns_cons ⟨(q.dx,txD q st ts vt ftb),eM3,rfl⟩ (ns_cons ⟨_,jO,rfl⟩ (ns_cons ⟨_,jdO,rfl⟩ ns_nil))))) HF (Ord.mgr hord₀) fun h₉ tk₉ hm₉ gd₉=>?_)
  have F₉:=fr_mod F₈ hm₉ (ns_cons (N₈ (q.dx,txD q st ts vt ftb) eM3).2 (ns_cons (N₈ _ jO).2 (ns_cons (N₈ _ jdO).2 ns_nil)))
  have stay:∀ {p:Addr×Obj},p∈(q.rs,listOf items q.kr)::(L'+1,oc)::(q.X,instObj 501 q.dx)::(q.dx,txD q st ts vt ftb)::(q.W,instObj 153 q.dW)::(q.dW,wsDict q.wh q.wt q.dl)::(464,tabObj ps₃)::(t8++rest₇)→p.1∉[q.dx,q.O,q.dO]→h₉.get? p.1=some p.2∧p.1≠L'∧g.get? p.1=none:=fun hp nn=>⟨hm₉ _ _ (N₈ _ hp).1 nn,(N₈ _ hp).2⟩
  have nin:∀ {a:Nat},a≠q.dx→a≠q.O→a≠q.dO→a∉[q.dx,q.O,q.dO]:=fun h1 h2 h3 hm=>by
   rcases List.mem_cons.mp hm with e|hm
   ·exact h1 e
   ·rcases List.mem_cons.mp hm with e|hm
    ·exact h2 e
    ·exact h3 (List.mem_singleton.mp hm)
  obtain ⟨t5,ht5⟩:∃ tl:Rest,tl=(q.dl,listOf #[] q.kl)::(q.b1,listOf #[] q.k1)::(q.b2,listOf #[] q.k2)::(q.b3,listOf #[] q.k3)::(q.b4,listOf #[] q.k4)::[]:=⟨_,rfl⟩
  have d7:∀ a∈abA q,a∉rest₇.map (·.1):=by
   rw [ht8] at dis₇
   exact ns_cons (dis₇ (q.X,instObj 501 q.dx) (by k_mem)) (ns_cons (dis₇ (q.dx,txD q st ts vt ftb) (by k_mem)) (ns_cons (dis₇ (q.W,instObj 153 q.dW) (by k_mem)) (ns_cons (dis₇ (q.dW,wsDict q.wh q.wt q.dl) (by k_mem)) (ns_cons (dis₇ (464,tabObj ps₃) (by k_mem)) (ns_cons (dis₇ (q.rs,listOf items q.kr) (by k_mem)) (ns_cons (dis₇ (q.dl,listOf #[] q.kl) (by k_mem)) (ns_cons (dis₇ (q.O,instObj 758 q.dO) (by k_mem)) (ns_cons (dis₇ (q.dO,owD q (.ref q.X)) (by k_mem)) (ns_cons (dis₇ (q.b1,listOf #[] q.k1) (by k_mem)) (ns_cons (dis₇ (q.b2,listOf #[] q.k2) (by k_mem)) (ns_cons (dis₇ (q.b3,listOf #[] q.k3) (by k_mem)) (ns_cons (dis₇ (q.b4,listOf #[] q.k4) (by k_mem)) ns_nil))))))))))))
  have i5:∀ p∈t5,p∈t8∧p.1∉[q.dx,q.O,q.dO]∧@Ne Nat p.1 464:=by
   rw [ht5,ht8]
   repeat' (first|(refine nms_cons ⟨by k_mem,nin (by dsimp only; exact bes pL (by with_reducible repeat' constructor)) (by dsimp only; exact bes pL (by with_reducible repeat' constructor)) (by dsimp only; exact bes pL (by with_reducible repeat' constructor)),by dsimp only; exact bes pL (by with_reducible repeat' constructor)⟩ ?_)|exact nms_nil)
  have N₉:News g L' h₉ ((q.rs,listOf items q.kr)::(L'+1,oc)::(q.X,instObj 501 q.dx)::(q.dx,txM q st ts .none vt ftb)::(q.W,instObj 153 q.dW)::(q.dW,wsDict q.wh q.wt q.dl)::(464,tabObj ps₃)::(t5++rest₇)):=
   nms_cons (stay (.head _) (nin (by (try dsimp only); exact bes pL (by with_reducible repeat' constructor)) (by (try dsimp only); exact bes pL (by with_reducible repeat' constructor)) (by (try dsimp only); exact bes pL (by with_reducible repeat' constructor)))) (nms_cons (stay eM1 (nin (by (try dsimp only); exact bes pL (by with_reducible repeat' constructor)) (by (try dsimp only); exact bes pL (by with_reducible repeat' constructor)) (by (try dsimp only); exact bes pL (by with_reducible repeat' constructor)))) (nms_cons (stay eM2 (nin (by (try dsimp only); exact bes pL (by with_reducible repeat' constructor)) (by (try dsimp only); exact bes pL (by with_reducible repeat' constructor)) (by (try dsimp only); exact bes pL (by with_reducible repeat' constructor)))) (nms_cons ⟨gd₉,(N₈ (q.dx,txD q st ts vt ftb) eM3).2⟩ (nms_cons (stay eM4 (nin (by (try dsimp only); exact bes pL (by with_reducible repeat' constructor)) (by (try dsimp only); exact bes pL (by with_reducible repeat' constructor)) (by (try dsimp only); exact bes pL (by with_reducible repeat' constructor)))) (nms_cons (stay eM5 (nin (by (try dsimp only); exact bes pL (by with_reducible repeat' constructor)) (by (try dsimp only); exact bes pL (by with_reducible repeat' constructor)) (by (try dsimp only); exact bes pL (by with_reducible repeat' constructor)))) (nms_cons (stay eM6 (nin (by (try dsimp only); exact bes pL (by with_reducible repeat' constructor)) (by (try dsimp only); exact bes pL (by with_reducible repeat' constructor)) (by (try dsimp only); exact bes pL (by with_reducible repeat' constructor)))) fun p hp=>(List.mem_append.mp hp).elim (fun hp=>stay (eT7 (List.mem_append_left _ (i5 p hp).1)) (i5 p hp).2.1) fun hp=>stay (eT7 (List.mem_append_right _ hp)) (nin (nin_ne (d7 q.dx (by k_mem)) p hp) (nin_ne (d7 q.O (by k_mem)) p hp) (nin_ne (d7 q.dO (by k_mem)) p hp))))))))
  have t9:∀ p∈t5++rest₇,p.1≠464:=fun p hp=>(List.mem_append.mp hp).elim (fun hp=>(i5 p hp).2.2) fun hp=>nin_ne (d7 464 (by k_mem)) p hp
  have mdl':(q.dl,listOf #[] q.kl)∈t5:=by rw [ht5]; k_mem
  clear F₈ N₈ stay
  k_steps
  refine kla_eval rfl ?_
  refine lam_any F₉ N₉ TX CH rfl (by k_updF) hp₃ rfl fun fl hA₁ tkA psA hpA FA NA=>?_
  clear F₉ N₉
  k_steps
  refine wpAny_call (wmap (B:=g) (ex:=[]) KX (topRead_of TX) FA.keep (by k_room) (NA _ eM4).1 (NA _ eM5).1 (NA _ (eT7 (List.mem_append_left _ mdl'))).1 nms_nil
   (NA _ eM4).2.2 (NA _ eM5).2.2 (NA _ (eT7 (List.mem_append_left _ mdl'))).2.2 nms_nil (.inl hh) fun hC tkC hmC=>?_)
  have FC:=fr_mod0 FA hmC
  have NC:=news_mod0 NA hmC
  clear FA NA
  k_steps
  have jf:∀ p∈(q.rs,listOf items q.kr)::(q.b1,listOf #[] q.k1)::(q.b2,listOf #[] q.k2)::(q.b3,listOf #[] q.k3)::(q.b4,listOf #[] q.k4)::[],p∈(q.rs,listOf items q.kr)::(L'+1,oc)::(q.X,instObj 501 q.dx)::(q.dx,txM q st ts .none vt ftb)::(q.W,instObj 153 q.dW)::(q.dW,wsDict q.wh q.wt q.dl)::(464,tabObj psA)::(t5++rest₇):=by
   rw [ht5]
   repeat' (first|(refine nms_cons ?_ ?_)|k_mem|exact nms_nil)
  refine wpAny_call (free448 (B:=B) (q:=q) (st:=st) (ts:=ts) (vt:=vt) (ftb:=ftb) (mv:=.none) (ex:=[]) (items:=items) XB TB (fun b o e=>FC.keep b o (hBG b o e)) (by k_room)
   (nms_cons (NC _ eM2).1 (nms_cons (NC (q.dx,txM q st ts .none vt ftb) eM3).1 fun p hp=>(NC p (jf p hp)).1)) (nms_cons (FB NC eM2) (nms_cons (FB NC (p:=(q.dx,txM q st ts .none vt ftb)) eM3) fun p hp=>FB NC (jf p hp)))
   (Around.frames_deeper hA) (SS FC NC (ns_cons ⟨_,eM2,rfl⟩ (ns_cons ⟨(q.dx,txM q st ts .none vt ftb),eM3,rfl⟩ fun a ha=>?_))) HF (.inl ⟨rfl,rfl⟩) ?isz (Ord.nd hord₀) nms_nil fun hD tkD hmD=>?_)
  case isz=>
   rw [←Array.length_toList,hi,List.length_map,sizeLine_eq]
   omega
  ·obtain ⟨p,hp,rfl⟩:=List.mem_map.mp (show a∈((q.rs,listOf items q.kr)::(q.b1,listOf #[] q.k1)::(q.b2,listOf #[] q.k2)::(q.b3,listOf #[] q.k3)::(q.b4,listOf #[] q.k4)::[]).map (·.1) from ha)
   exact ⟨p,jf p hp,rfl⟩
  k_steps
  have FD:=fr_mod FC hmD fun a ha=>by
   rcases List.mem_cons.mp ha with rfl|ha
   ·exact (NC (q.dx,txM q st ts .none vt ftb) eM3).2
   ·obtain ⟨p,hp,rfl⟩:=List.mem_map.mp (show a∈((q.rs,listOf items q.kr)::(q.b1,listOf #[] q.k1)::(q.b2,listOf #[] q.k2)::(q.b3,listOf #[] q.k3)::(q.b4,listOf #[] q.k4)::[]).map (·.1) from ha)
    exact (NC p (jf p hp)).2
  have nf:∀ {a:Addr},a=464 ∨ a∈rest₇.map (·.1)→a∉q.dx::q.rs::q.b1::q.b2::q.b3::q.b4::([]:Rest).map (·.1):=fun {a} h1 h2=>by
   rcases h1 with rfl|h1
   ·exact Nat.lt_irrefl _ (Ord.low hord₀ _ (List.mem_append_left [q.O,q.dO] h2))
   ·simp only [List.map_nil,List.mem_cons,List.not_mem_nil,or_false] at h2
    rcases h2 with rfl|rfl|rfl|rfl|rfl|rfl
    all_goals exact d7 _ (by k_mem) h1
  have ND:News g L' hD ([(464,tabObj psA)]++rest₇):=
   nms_cons ⟨hmD _ _ (NC _ eM6).1 (nf (.inl rfl)),(NC _ eM6).2⟩ fun p hp=>⟨hmD _ _ (NC p (eT7 (List.mem_append_right _ hp))).1 (nf (.inr (List.mem_map_of_mem hp))),(NC p (eT7 (List.mem_append_right _ hp))).2⟩
  exact hok _ _ rest₇ psA W₇ hpA (done_of hg FD ND (fun p hp=>hp) (nms_cons (d7 464 (by k_mem)) nms_nil))
theorem abort_ {w:World} {A:Around} {s:Shared} {B:Heap} {q:Tq} {st:Str} {ts:Tok} {items:Array Value} {vt vt₀:Addr} {ftb:Value} {R:Rp} {loose:List Str} {mean:ExcName→Option Value} {mg mb:Sm} {rest:Rest} {outer:List Env} {lg:Addr} {μs ml:List Mg} {σ:Addr→Ms} {rows:List (Str×Str)} {ps:Array Value}:Z0yP pq kept w A s B q st ts items vt vt₀ ftb R loose mean mg mb rest outer lg μs ml σ rows ps:=eps0 Z0ycq Z0yc rfl (by with_unfolding_all exact Z0yb.2 (fun g L' h₁=>eps0 Z0ydq Z0yd rfl (by with_unfolding_all exact Z0ym) (g,L',h₁))) ((pq,kept,w,A,s,B),(q,st,ts,items,vt,vt₀),(ftb,R,loose,mean,mg,mb),(rest,outer,lg,μs,ml,σ),(rows,ps))
end
theorem small_n {n:Nat} (h:n ≤ 1000):Builtin.Range.small 0 n 1=true:=by
 unfold Builtin.Range.small Builtin.Range.rangeFitsLong Builtin.Range.rangeSize
 simp
 split<;>omega
noncomputable abbrev rgIt (i n:Nat):Obj:={ cls:=.type "range_iterator",dict:=none,data:=.fields #[rawInt (i:Int),rawInt ((n:Int) - i),rawInt 1],slots:=#[] }
section
variable {prog:Program} {w:World} {A:Around} {E:Vp} {s:Shared} {g:Heap} {L r:Addr} {x:Str} {env:Env} {m₀:Sm} {n:Nat} {body:List Stmt} {pos:Pos} {Q:Fp} {t u v:Tok}
set_option genSizeOf false in
set_option genInjectivity false in
inductive RgOk (s:Shared) (g:Heap) (L it:Addr) (n:Nat) (J:Nat→(Sm)→Rest→Prop) (i:Nat) (fl:Flow) (s₃:Shared):Prop where
 | mk (f1:fl=.next) (h':Heap) (tk':Nat) (m':Sm) (nw':Rest) (f2:s₃={ s with heap:=h',toks:=tk' }) (f3:J (i+1) m' nw') (f4:(∀ p∈nw',p.1≠it)) (f5:Fr g L h' m') (f6:News g L h' ((it,rgIt (i+1) n)::nw')):RgOk s g L it n J i fl s₃
abbrev Z08P (prog:Program) (w:World) (A:Around) (E:Vp) (s:Shared) (g:Heap) (L r:Addr) (x:Str) (env:Env) (m₀:Sm) (n:Nat) (body:List Stmt) (pos:Pos) (Q:Fp) (t u v:Tok) (J:Nat→(Sm)→Rest→Prop):Prop:=∀ (hk:env.scope.kind=.function) (hfl:env.locals=L) (hx:env.kindOf x=some .local) (hh:A.handled=none) (hn:n ≤ 1000) (turn:∀ i m nw it h tk ti,i<n→J i m nw→(∀ p∈nw,p.1≠it)→Fr g L h (fun y=>if y=x then some (.int (i:Int) ti) else m y)→News g L h ((it,rgIt (i+1) n)::nw) →
   wpAny (model prog w) A (execs body env)
    (fun fl s₃=>Opq (RgOk s g L it n J i fl s₃))
    (fun _ _=>False) { s with heap:=h,toks:=tk }) (done:∀ m nw h tk,J n m nw→Fr g L h m→News g L h nw→Q .next { s with heap:=h,toks:=tk }) {nw₀:Rest} (h0:J 0 m₀ nw₀) (F:Fr g L s.heap m₀) (N:News g L s.heap nw₀) (hr:IsRange s.heap r 0 n 1 t u v),wpAny (model prog w) A (pyIter (.ref r)) (fun it s₂=>codeAny (model prog w) A (.forLoop (.Name x pos) it body [] env) (fun r s'=>match r with|.ok f=>Q f s'|.error e=>cameBackBy (model prog w) A env E e s') s₂) E s
abbrev Z08cq:=U fun a=>U fun b=>U fun c d=>(T6 (T6 (T6 Z08P a) b) c) d
def Z08c:=eps Z08cq ⟨inferInstance⟩
theorem for_range {prog:Program} {w:World} {A:Around} {E:Vp} {s:Shared} {g:Heap} {L r:Addr} {x:Str} {env:Env} {m₀:Sm} {n:Nat} {body:List Stmt} {pos:Pos} {Q:Fp} {t u v:Tok} (J:Nat→(Sm)→Rest→Prop):Z08P prog w A E s g L r x env m₀ n body pos Q t u v J:=eps0 Z08cq Z08c rfl (by
 show Z08P Z08c.1.1 Z08c.1.2.1 Z08c.1.2.2.1 Z08c.1.2.2.2.1 Z08c.1.2.2.2.2.1 Z08c.1.2.2.2.2.2 Z08c.2.1.1 Z08c.2.1.2.1 Z08c.2.1.2.2.1 Z08c.2.1.2.2.2.1 Z08c.2.1.2.2.2.2.1 Z08c.2.1.2.2.2.2.2 Z08c.2.2.1.1 Z08c.2.2.1.2.1 Z08c.2.2.1.2.2.1 Z08c.2.2.1.2.2.2.1 Z08c.2.2.1.2.2.2.2.1 Z08c.2.2.1.2.2.2.2.2 Z08c.2.2.2
 generalize Z08c.1.1=prog,Z08c.1.2.1=w,Z08c.1.2.2.1=A,Z08c.1.2.2.2.1=E,Z08c.1.2.2.2.2.1=s,Z08c.1.2.2.2.2.2=g,Z08c.2.1.1=L,Z08c.2.1.2.1=r,Z08c.2.1.2.2.1=x,Z08c.2.1.2.2.2.1=env,Z08c.2.1.2.2.2.2.1=m₀,Z08c.2.1.2.2.2.2.2=n,Z08c.2.2.1.1=body,Z08c.2.2.1.2.1=pos,Z08c.2.2.1.2.2.1=Q,Z08c.2.2.1.2.2.2.1=t,Z08c.2.2.1.2.2.2.2.1=u,Z08c.2.2.1.2.2.2.2.2=v,Z08c.2.2.2=J
 intro hk hfl hx hh hn turn done nw₀ h0 F N hr
 have hsz:Builtin.Range.rangeSize 0 n 1=n:=by
  unfold Builtin.Range.rangeSize
  simp
  try omega
 refine wpAny_pyIter_range hr (small_n hn) ?_
 rw [hsz]
 have F1:=F.push { cls:=.type "range_iterator",data:=.fields #[rawInt 0,rawInt (n:Int),rawInt 1] }
 have N1:=N.push F { cls:=.type "range_iterator",data:=.fields #[rawInt 0,rawInt (n:Int),rawInt 1] }
 have hit:∀ p∈nw₀,p.1≠s.heap.objs.size:=fun p hp=>Nat.ne_of_lt (Heap.lt_size (N p hp).1)
 have N1':News g L (s.heap.push { cls:=.type "range_iterator",data:=.fields #[rawInt 0,rawInt (n:Int),rawInt 1] }) ((s.heap.objs.size,rgIt 0 n)::nw₀):=by
  have:rgIt 0 n={ cls:=.type "range_iterator",data:=.fields #[rawInt 0,rawInt (n:Int),rawInt 1] }:=by simp [rgIt]
  rw [this]; exact N1
 refine codeAny_forLoop (fun k s₁=>∃ i h tk m nw,k+i=n∧s₁={ s with heap:=h,toks:=tk }∧J i m nw∧(∀ p∈nw,p.1≠s.heap.objs.size)∧Fr g L h m∧News g L h ((s.heap.objs.size,rgIt i n)::nw)) ?_ n
  ⟨0,_,s.toks,m₀,nw₀,rfl,rfl,h0,hit,F1,N1'⟩
 rintro k _ ⟨i,h,tk,m,nw,hk',rfl,hJ,nit,F,N⟩
 have cit:=N _ (.head _)
 have nb:∀ {h':Heap},(∀ b o,b≠s.heap.objs.size→h.get? b=some o→h'.get? b=some o)→Fr g L h' m∧News g L h' nw:=fun kk=>⟨fr_but F cit.2.1 cit.2.2 kk,news_but (news_tl N) nit kk⟩
 rcases Nat.lt_or_ge i n with hlt|hge
 ·refine wpAny_pyNext_range_item (x:=(i:Int)) (left:=(n:Int) - i) (step:=1) cit.1 (by omega) fun h' hi' hs=>?_
  obtain ⟨F',N'⟩:=nb (h':=h') fun b o hb e=>(hs.2 b hb).trans e
  have N2:News g L h' ((s.heap.objs.size,rgIt (i+1) n)::nw):=news_cons ⟨by
   have e:rgIt (i+1) n={ cls:=.type "range_iterator",dict:=none,data:=.fields #[rawInt ((i:Int)+1),rawInt ((n:Int) - i - 1),rawInt 1],slots:=#[] }:=by
    have e1:((i+1:Nat):Int)=(i:Int)+1:=by omega
    have e2:(n:Int) - ((i+1:Nat):Int)=(n:Int) - i - 1:=by omega
    unfold rgIt
    rw [e2,e1]
   rw [e]; exact hi',cit.2⟩ N'
  refine wpAny_assign_Name (wpAny_storeName_local hx (hfl ▸ F'.ns) (fun h₂ hn hs=>?_) (by rw [hk]; rfl))
  have hs':Heap.SameBut L h' h₂:=hfl ▸ hs
  have F2:=F'.set (hfl ▸ hn) hs'
  refine wpAny_mono (turn i m nw s.heap.objs.size h₂ _ _ hlt hJ nit F2 (N2.set hs')) (fun fl s₃ q=>?_) fun _ _ q=>q.elim
  obtain ⟨rfl,h₃,tk₃,m₃,nw₃,rfl,hJ₃,nit₃,F₃,N₃⟩:=q.out
  exact ⟨k - 1,cnt_less ‹k+i=n› hlt,i+1,h₃,tk₃,m₃,nw₃,cnt_next ‹k+i=n› hlt,rfl,hJ₃,nit₃,F₃,N₃⟩
 ·obtain rfl:i=n:=cnt_end ‹k+i=n› hge
  refine wpAny_pyNext_range_end (x:=(i:Int)) (left:=(i:Int) - i) (step:=1) hh cit.1 (by omega) fun h' kk=>?_
  obtain ⟨F',N'⟩:=nb (h':=h') kk
  exact wpAny_pure (done m nw h' tk hJ F' N')) ((prog,w,A,E,s,g),(L,r,x,env,m₀,n),(body,pos,Q,t,u,v),J)
end
theorem dict8 {h:Heap} {d pl lg:Addr} {who:Str} {tw tk t5 t6:Tok} {key kept value:Int} {ready:Value} {h0 h1 h2 h3 h4 h5 h6 h7:Int} {t0 t1 t2 t3 t4 s5 s6 t7:Tok}
  (e:h.get? d=some (dictOf [⟨h0,.str "who" t0,.str who tw⟩,⟨h1,.str "key" t1,.int key tk⟩,⟨h2,.str "plan" t2,.ref pl⟩,⟨h3,.str "log" t3,.ref lg⟩,⟨h4,.str "deed" t4,.none⟩,⟨h5,.str "kept" s5,.int kept t5⟩,⟨h6,.str "value" s6,.int value t6⟩,⟨h7,.str "ready" t7,ready⟩] 8)) :
  ∃ x:Mk,h.get? d=some (dictOf (mgrEs x who tw key tk pl lg kept t5 value t6 ready) 8):=
 ⟨⟨fun i=>match i with|0=>h0|1=>h1|2=>h2|3=>h3|4=>h4|5=>h5|6=>h6|_=>h7,fun i=>match i with|0=>t0|1=>t1|2=>t2|3=>t3|4=>t4|5=>s5|6=>s6|_=>t7⟩,e⟩
abbrev Z04P (pq:Program) (w:World) (A:Around) (s:Shared) (B:Heap) (M d pl lg:Addr) (who:Str) (tw tk:Tok) (key:Int) (R:Rp) (loose:List Str) (mg mb:Sm):Prop:=∀ (XB:(hd.heap_1 w.params).In B) (TB:TopRead pq loose mg mb B) (hB:B.StaysIn s.heap) (hroom:A.depth<recursionLimit) (g0:s.heap.get? M=some (instObj 897 d)) (g1:s.heap.get? d=some (dictOf [] 0)) (f0:B.get? M=none) (f1:B.get? d=none) (h:∀ h' tk' x t5 t6,Mod [d] s.heap h'→h'.get? d=some (dictOf (mgrEs x who tw key tk pl lg 0 t5 0 t6 .none) 8)→R (.ok (.ret .none)) { s with heap:=h',toks:=tk' }),codeAny (model P2 w) A (.call (.ref 845) ⟨[.ref M,.str who tw,.int key tk,.ref pl,.ref lg],[]⟩) R s
abbrev Z04cq:=U fun a=>U fun b c=>T5 (T6 (T6 Z04P a) b) c
def Z04c:=eps Z04cq ⟨inferInstance⟩
def Z04.pq:=Z04c.1.1
def Z04.w:=Z04c.1.2.1
def Z04.A:=Z04c.1.2.2.1
def Z04.s:=Z04c.1.2.2.2.1
def Z04.B:=Z04c.1.2.2.2.2.1
def Z04.M:=Z04c.1.2.2.2.2.2
def Z04.d:=Z04c.2.1.1
def Z04.pl:=Z04c.2.1.2.1
def Z04.lg:=Z04c.2.1.2.2.1
def Z04.who:=Z04c.2.1.2.2.2.1
def Z04.tw:=Z04c.2.1.2.2.2.2.1
def Z04.tk:=Z04c.2.1.2.2.2.2.2
def Z04.key:=Z04c.2.2.1
def Z04.R:=Z04c.2.2.2.1
def Z04.loose:=Z04c.2.2.2.2.1
def Z04.mg:=Z04c.2.2.2.2.2.1
def Z04.mb:=Z04c.2.2.2.2.2.2
open Z04 in
noncomputable def Z04b:PSigma fun P:(Heap)→(Addr)→(Heap)→Prop=>(∀ g L' h₁,P g L' h₁)→Z04P Z04.pq Z04.w Z04.A Z04.s Z04.B Z04.M Z04.d Z04.pl Z04.lg Z04.who Z04.tw Z04.tk Z04.key Z04.R Z04.loose Z04.mg Z04.mb:=by
 apply PSigma.mk
 case snd=>
 intro hP
 intro XB TB hB hroom g0 g1 f0 f1 h
 have n0:@Ne Nat M d:=fun e=>by rw [e,g1] at g0; cases g0
 k_dflt (refine' enter (Λ:=[(M,instObj 897 d),(d,dictOf [] 0)]) XB TB hB ?k1 ?k2 ?k6 ?k7 ?k8 ?k9 ?kL ?_ ?c2 ?c3 ?c4 ?c5)
 (case k6=>k_is)
 (case k7=>k_is)
 (case k8=>k_room)
 (case k9=>exact binds_K (XB.keeps hB) rfl (by k_is) rfl rfl rfl)
 (case kL=>exact locs rfl)
 (case c2=>exact rfl)
 (case c3=>exact rfl)
 (case c4=>exact rfl)
 (case c5=>decide)
 (case k1=>exact nms_cons g0 (nms_cons g1 nms_nil))
 (case k2=>exact nms_cons f0 (nms_cons f1 nms_nil))
 intro g L' h₁
 revert XB TB hB hroom g0 g1 f0 f1 h n0
 exact hP g L' h₁
abbrev Z04dq:=T3 Z04b.1
def Z04d:=eps Z04dq ⟨inferInstance⟩
def Z04.g:=Z04d.1
def Z04.L':=Z04d.2.1
def Z04.h₁:=Z04d.2.2
open Z04 in
theorem Z04m:Z04b.1 Z04.g Z04.L' Z04.h₁:=by
 intro XB TB hB hroom g0 g1 f0 f1 h n0
 intro hg l1 KX TX F N
 clear l1 hB XB TB
 k_steps
 rename Fr _ _ _ _=>F₁
 rename News _ _ _ _=>N₁
 have e:=dict8 (N₁ _ eM1).1
 exact e.elim fun x e=>h _ _ x _ _ (mod_of hg F₁ N₁ (ns_cons (fun _=>mk_in g0 (by k_mem)) (ns_cons (fun n=>(n (.head _)).elim) ns_nil))) e
theorem init845_897 {w:World} {A:Around} {s:Shared} {B:Heap} {M d pl lg:Addr} {who:Str} {tw tk:Tok} {key:Int} {R:Rp} {loose:List Str} {mg mb:Sm}:Z04P pq w A s B M d pl lg who tw tk key R loose mg mb:=eps0 Z04cq Z04c rfl (by with_unfolding_all exact Z04b.2 (fun g L' h₁=>eps0 Z04dq Z04d rfl (by with_unfolding_all exact Z04m) (g,L',h₁))) ((pq,w,A,s,B,M),(d,pl,lg,who,tw,tk),(key,R,loose,mg,mb))
abbrev Z03P (pq:Program) (w:World) (A:Around) (s:Shared) (B:Heap) (M d pl lg:Addr) (who:Str) (tw tk:Tok) (key:Int) (R:Rp) (loose:List Str) (mg mb:Sm):Prop:=∀ (XB:(hd.heap_1 w.params).In B) (TB:TopRead pq loose mg mb B) (hB:B.StaysIn s.heap) (hroom:A.depth<recursionLimit) (g0:s.heap.get? M=some (instObj 923 d)) (g1:s.heap.get? d=some (dictOf [] 0)) (f0:B.get? M=none) (f1:B.get? d=none) (h:∀ h' tk' x t5 t6,Mod [d] s.heap h'→h'.get? d=some (dictOf (mgrEs x who tw key tk pl lg 0 t5 0 t6 .none) 8)→R (.ok (.ret .none)) { s with heap:=h',toks:=tk' }),codeAny (model P2 w) A (.call (.ref 845) ⟨[.ref M,.str who tw,.int key tk,.ref pl,.ref lg],[]⟩) R s
abbrev Z03cq:=U fun a=>U fun b c=>T5 (T6 (T6 Z03P a) b) c
def Z03c:=eps Z03cq ⟨inferInstance⟩
def Z03.pq:=Z03c.1.1
def Z03.w:=Z03c.1.2.1
def Z03.A:=Z03c.1.2.2.1
def Z03.s:=Z03c.1.2.2.2.1
def Z03.B:=Z03c.1.2.2.2.2.1
def Z03.M:=Z03c.1.2.2.2.2.2
def Z03.d:=Z03c.2.1.1
def Z03.pl:=Z03c.2.1.2.1
def Z03.lg:=Z03c.2.1.2.2.1
def Z03.who:=Z03c.2.1.2.2.2.1
def Z03.tw:=Z03c.2.1.2.2.2.2.1
def Z03.tk:=Z03c.2.1.2.2.2.2.2
def Z03.key:=Z03c.2.2.1
def Z03.R:=Z03c.2.2.2.1
def Z03.loose:=Z03c.2.2.2.2.1
def Z03.mg:=Z03c.2.2.2.2.2.1
def Z03.mb:=Z03c.2.2.2.2.2.2
open Z03 in
noncomputable def Z03b:PSigma fun P:(Heap)→(Addr)→(Heap)→Prop=>(∀ g L' h₁,P g L' h₁)→Z03P Z03.pq Z03.w Z03.A Z03.s Z03.B Z03.M Z03.d Z03.pl Z03.lg Z03.who Z03.tw Z03.tk Z03.key Z03.R Z03.loose Z03.mg Z03.mb:=by
 apply PSigma.mk
 case snd=>
 intro hP
 intro XB TB hB hroom g0 g1 f0 f1 h
 have n0:@Ne Nat M d:=fun e=>by rw [e,g1] at g0; cases g0
 k_dflt (refine' enter (Λ:=[(M,instObj 923 d),(d,dictOf [] 0)]) XB TB hB ?k1 ?k2 ?k6 ?k7 ?k8 ?k9 ?kL ?_ ?c2 ?c3 ?c4 ?c5)
 (case k6=>k_is)
 (case k7=>k_is)
 (case k8=>k_room)
 (case k9=>exact binds_K (XB.keeps hB) rfl (by k_is) rfl rfl rfl)
 (case kL=>exact locs rfl)
 (case c2=>exact rfl)
 (case c3=>exact rfl)
 (case c4=>exact rfl)
 (case c5=>decide)
 (case k1=>exact nms_cons g0 (nms_cons g1 nms_nil))
 (case k2=>exact nms_cons f0 (nms_cons f1 nms_nil))
 intro g L' h₁
 revert XB TB hB hroom g0 g1 f0 f1 h n0
 exact hP g L' h₁
abbrev Z03dq:=T3 Z03b.1
def Z03d:=eps Z03dq ⟨inferInstance⟩
def Z03.g:=Z03d.1
def Z03.L':=Z03d.2.1
def Z03.h₁:=Z03d.2.2
open Z03 in
theorem Z03m:Z03b.1 Z03.g Z03.L' Z03.h₁:=by
 intro XB TB hB hroom g0 g1 f0 f1 h n0
 intro hg l1 KX TX F N
 clear l1 hB XB TB
 k_steps
 rename Fr _ _ _ _=>F₁
 rename News _ _ _ _=>N₁
 have e:=dict8 (N₁ _ eM1).1
 exact e.elim fun x e=>h _ _ x _ _ (mod_of hg F₁ N₁ (ns_cons (fun _=>mk_in g0 (by k_mem)) (ns_cons (fun n=>(n (.head _)).elim) ns_nil))) e
theorem init845_923 {w:World} {A:Around} {s:Shared} {B:Heap} {M d pl lg:Addr} {who:Str} {tw tk:Tok} {key:Int} {R:Rp} {loose:List Str} {mg mb:Sm}:Z03P pq w A s B M d pl lg who tw tk key R loose mg mb:=eps0 Z03cq Z03c rfl (by with_unfolding_all exact Z03b.2 (fun g L' h₁=>eps0 Z03dq Z03d rfl (by with_unfolding_all exact Z03m) (g,L',h₁))) ((pq,w,A,s,B,M),(d,pl,lg,who,tw,tk),(key,R,loose,mg,mb))
theorem mk_mgr897 {w:World} {A:Around} {E:Vp} {s:Shared} {g:Heap} {L:Addr} {m:Sm} {nw:Rest} {pl lg:Addr} {who:Str} {tw tk:Tok} {key:Int} {Q:Vp} {loose:List Str} {mg mb:Sm}
  (X:(hd.heap_1 w.params).In g) (T:TopRead pq loose mg mb g) (F:Fr g L s.heap m) (N:News g L s.heap nw) (hroom:A.depth+4<recursionLimit)
  (h:∀ h' tk' M d x t5 t6,Fr g L h' m→News g L h' ((M,instObj 897 d)::(d,dictOf (mgrEs x who tw key tk pl lg 0 t5 0 t6 .none) 8)::nw)→(∀ p∈nw,p.1<d)→d<M→Q (.ref M) { s with heap:=h',toks:=tk' }) :
  wpAny (model P2 w) A (call (.ref 897) [.str who tw,.int key tk,.ref pl,.ref lg]) Q E s:=by
 refine call_cls (fI:=845) F X N (by kernel_rfl) (by kernel_rfl) (by kernel_rfl) fun x dx h' F' N' l1 l2=>?_
 refine init845_897 (B:=g) X T F'.keep (by simp only [depth_under_make]; omega) (N' _ (.head _)).1 (N' _ eM1).1 (N' _ (.head _)).2.2 (N' _ eM1).2.2 fun h'' tk'' y t5 t6 hm gd=>⟨rfl,?_⟩
 refine h h'' tk'' x dx y t5 t6 (fr_mod F' hm fun a ha=>List.mem_singleton.mp ha ▸ (N' _ eM1).2) (nms_cons (news_stay N' hm (.head _) (Nat.ne_of_gt l2)) (nms_cons ⟨gd,(N' _ eM1).2⟩ fun p hp=>news_stay N' hm (eT2 hp) (Nat.ne_of_lt (l1 p hp)))) l1 l2
theorem mk_mgr923 {w:World} {A:Around} {E:Vp} {s:Shared} {g:Heap} {L:Addr} {m:Sm} {nw:Rest} {pl lg:Addr} {who:Str} {tw tk:Tok} {key:Int} {Q:Vp} {loose:List Str} {mg mb:Sm}
  (X:(hd.heap_1 w.params).In g) (T:TopRead pq loose mg mb g) (F:Fr g L s.heap m) (N:News g L s.heap nw) (hroom:A.depth+4<recursionLimit)
  (h:∀ h' tk' M d x t5 t6,Fr g L h' m→News g L h' ((M,instObj 923 d)::(d,dictOf (mgrEs x who tw key tk pl lg 0 t5 0 t6 .none) 8)::nw)→(∀ p∈nw,p.1<d)→d<M→Q (.ref M) { s with heap:=h',toks:=tk' }) :
  wpAny (model P2 w) A (call (.ref 923) [.str who tw,.int key tk,.ref pl,.ref lg]) Q E s:=by
 refine call_cls (fI:=845) F X N (by kernel_rfl) (by kernel_rfl) (by kernel_rfl) fun x dx h' F' N' l1 l2=>?_
 refine init845_923 (B:=g) X T F'.keep (by simp only [depth_under_make]; omega) (N' _ (.head _)).1 (N' _ eM1).1 (N' _ (.head _)).2.2 (N' _ eM1).2.2 fun h'' tk'' y t5 t6 hm gd=>⟨rfl,?_⟩
 refine h h'' tk'' x dx y t5 t6 (fr_mod F' hm fun a ha=>List.mem_singleton.mp ha ▸ (N' _ eM1).2) (nms_cons (news_stay N' hm (.head _) (Nat.ne_of_gt l2)) (nms_cons ⟨gd,(N' _ eM1).2⟩ fun p hp=>news_stay N' hm (eT2 hp) (Nat.ne_of_lt (l1 p hp)))) l1 l2
section
theorem dict3 {h:Heap} {d W:Addr} {v:Value} {h0 h1 h2:Int} {t0 t1 t2:Tok} (e:h.get? d=some (dictOf [⟨h0,.str "explicit" t0,.bool false⟩,⟨h1,.str "_txn" t1,v⟩,⟨h2,.str "_synchs" t2,.ref W⟩] 3)) :
  ∃ y:Mk,h.get? d=some (dictOf [⟨y.h 0,.str "explicit" (y.t 0),.bool false⟩,⟨y.h 1,.str "_txn" (y.t 1),v⟩,⟨y.h 2,.str "_synchs" (y.t 2),.ref W⟩] 3):=
 ⟨⟨fun i=>match i with|0=>h0|1=>h1|_=>h2,fun i=>match i with|0=>t0|1=>t1|_=>t2⟩,e⟩
abbrev Z0mP (pq:Program) (w:World) (s:Shared) (B:Heap) (O dO:Addr) (R:Rp) (loose:List Str) (mean:ExcName→Option Value) (mg mb:Sm) (outer:List Env) (hd_:Option Value) (dp:Nat) (gd:Option (List Code)) (un:Nat):Prop:=∀ (XB:(hd.heap_1 w.params).In B) (TB:Top pq loose mean mg mb B) (hB:B.StaysIn s.heap) (hroom:dp+12<recursionLimit) (g0:s.heap.get? O=some (instObj 758 dO)) (g1:s.heap.get? dO=some (dictOf [] 0)) (f0:B.get? O=none) (f1:B.get? dO=none) (S:Stk outer s.heap [O,dO]) (hBf:∀ b∈frs outer,B.get? b=none) (h:∀ h' tk' (W dW dl:Addr) (y:Mk) (wh:Int) (wt:Tok) (kl:Nat),Mod [dO] s.heap h'→h'.get? dO=some (dictOf [⟨y.h 0,.str "explicit" (y.t 0),.bool false⟩,⟨y.h 1,.str "_txn" (y.t 1),.none⟩,⟨y.h 2,.str "_synchs" (y.t 2),.ref W⟩] 3)→h'.get? W=some (instObj 153 dW)→h'.get? dW=some (wsDict wh wt dl)→h'.get? dl=some (listOf #[] kl) →
   s.heap.get? W=none→s.heap.get? dW=none→s.heap.get? dl=none→O<dW→dO<dW→dW<W→W<dl→R (.ok (.ret .none)) { s with heap:=h',toks:=tk' }),codeAny (model P2 w) (Around.mk hd_ dp (some outer) gd un) (.call (.ref 633) ⟨[.ref O],[]⟩) R s
abbrev Z0mcq:=U fun a=>U fun b c=>T4 (T6 (T6 Z0mP a) b) c
def Z0mc:=eps Z0mcq ⟨inferInstance⟩
def Z0m.pq:=Z0mc.1.1
def Z0m.w:=Z0mc.1.2.1
def Z0m.s:=Z0mc.1.2.2.1
def Z0m.B:=Z0mc.1.2.2.2.1
def Z0m.O:=Z0mc.1.2.2.2.2.1
def Z0m.dO:=Z0mc.1.2.2.2.2.2
def Z0m.R:=Z0mc.2.1.1
def Z0m.loose:=Z0mc.2.1.2.1
def Z0m.mean:=Z0mc.2.1.2.2.1
def Z0m.mg:=Z0mc.2.1.2.2.2.1
def Z0m.mb:=Z0mc.2.1.2.2.2.2.1
def Z0m.outer:=Z0mc.2.1.2.2.2.2.2
def Z0m.hd_:=Z0mc.2.2.1
def Z0m.dp:=Z0mc.2.2.2.1
def Z0m.gd:=Z0mc.2.2.2.2.1
def Z0m.un:=Z0mc.2.2.2.2.2
open Z0m in
noncomputable def Z0mb:PSigma fun P:(Heap)→(Addr)→(Heap)→Prop=>(∀ g L' h₁,P g L' h₁)→Z0mP Z0m.pq Z0m.w Z0m.s Z0m.B Z0m.O Z0m.dO Z0m.R Z0m.loose Z0m.mean Z0m.mg Z0m.mb Z0m.outer Z0m.hd_ Z0m.dp Z0m.gd Z0m.un:=by
 apply PSigma.mk
 case snd=>
 intro hP
 intro XB TB hB hroom g0 g1 f0 f1 S hBf h
 have n0:@Ne Nat O dO:=fun e=>by rw [e,g1] at g0; cases g0
 k_dflt (refine' enter (Λ:=[(O,instObj 758 dO),(dO,dictOf [] 0)]) XB (topRead_of TB) hB ?k1 ?k2 ?k6 ?k7 ?k8 ?k9 ?kL ?_ ?c2 ?c3 ?c4 ?c5)
 (case k6=>k_is)
 (case k7=>k_is)
 (case k8=>show dp<recursionLimit; k_room)
 (case k9=>exact binds_K (XB.keeps hB) rfl (by k_is) rfl rfl rfl)
 (case kL=>exact locs rfl)
 (case c2=>exact rfl)
 (case c3=>exact rfl)
 (case c4=>exact rfl)
 (case c5=>decide)
 (case k1=>exact nms_cons g0 (nms_cons g1 nms_nil))
 (case k2=>exact nms_cons f0 (nms_cons f1 nms_nil))
 intro g L' h₁
 revert XB TB hB hroom g0 g1 f0 f1 S hBf h n0
 exact hP g L' h₁
abbrev Z0mdq:=T3 Z0mb.1
def Z0md:=eps Z0mdq ⟨inferInstance⟩
def Z0m.g:=Z0md.1
def Z0m.L':=Z0md.2.1
def Z0m.h₁:=Z0md.2.2
open Z0m in
theorem Z0mm:Z0mb.1 Z0m.g Z0m.L' Z0m.h₁:=by
 intro XB TB hB hroom g0 g1 f0 f1 S hBf h n0
 intro hg l1 KX TXr F N
 have hBg:B.StaysIn g:=hg ▸ stays_hide hB (nms_cons (P:=fun p:Addr×Obj=>B.get? p.1=none) (a:=(O,instObj 758 dO)) f0 (nms_cons (a:=(dO,dictOf [] 0)) f1 nms_nil))
 have KB:Below ⟨hd_,dp,some outer,gd,un⟩ B outer g:=below_of rfl S hg hBg hBf
 have TX:Top pq loose mean mg mb g:=TB.keeps hBg
 clear TXr TB XB
 k_lt l1
 k_steps
 rename Fr _ _ _ _=>F₁
 rename News _ _ _ _=>N₁
 have e:=dict3 (N₁ _ eM4).1
 refine e.elim fun y e=>?_
 have fr:∀ {p:Addr×Obj} {hh:Heap},News g L' hh [p]→@LT.lt Nat _ O p.1→@LT.lt Nat _ dO p.1→s.heap.get? p.1=none:=fun {p hh} N l l'=>fresh_of hg (N _ (.head _)).2.2 fun hm=>by
  rcases List.mem_cons.mp hm with q|q
  ·exact Nat.ne_of_gt l q
  ·exact Nat.ne_of_gt l' (List.mem_singleton.mp q)
 refine h _ _ _ _ _ y _ _ _ (mod_of hg F₁ N₁ (ns_cons (fun _=>mk_in g0 (by k_mem)) (ns_cons (fun n=>(n (.head _)).elim) ns_nil))) e (N₁ _ eM1).1 (N₁ _ eM2).1 (N₁ _ (.head _)).1
  (fr (nms_cons (N₁ _ eM1) nms_nil) ?_ ?_) (fr (nms_cons (N₁ _ eM2) nms_nil) ?_ ?_) (fr (nms_cons (N₁ _ (.head _)) nms_nil) ?_ ?_) ?_ ?_ ?_ ?_
 all_goals (try dsimp only)
 all_goals exact lt_in (by with_reducible assumption) (by k_mem)
theorem init633 {w:World} {A:Around} {s:Shared} {B:Heap} {O dO:Addr} {R:Rp} {loose:List Str} {mean:ExcName→Option Value} {mg mb:Sm} {outer:List Env} (XB:(hd.heap_1 w.params).In B) (TB:Top pq loose mean mg mb B) (hB:B.StaysIn s.heap) (hroom:A.depth+12<recursionLimit) (g0:s.heap.get? O=some (instObj 758 dO)) (g1:s.heap.get? dO=some (dictOf [] 0)) (f0:B.get? O=none) (f1:B.get? dO=none) (hA:A.frames=some outer) (S:Stk outer s.heap [O,dO]) (hBf:∀ b∈frs outer,B.get? b=none) (h:∀ h' tk' (W dW dl:Addr) (y:Mk) (wh:Int) (wt:Tok) (kl:Nat),Mod [dO] s.heap h'→h'.get? dO=some (dictOf [⟨y.h 0,.str "explicit" (y.t 0),.bool false⟩,⟨y.h 1,.str "_txn" (y.t 1),.none⟩,⟨y.h 2,.str "_synchs" (y.t 2),.ref W⟩] 3)→h'.get? W=some (instObj 153 dW)→h'.get? dW=some (wsDict wh wt dl)→h'.get? dl=some (listOf #[] kl) →
   s.heap.get? W=none→s.heap.get? dW=none→s.heap.get? dl=none→O<dW→dO<dW→dW<W→W<dl→R (.ok (.ret .none)) { s with heap:=h',toks:=tk' }):codeAny (model P2 w) A (.call (.ref 633) ⟨[.ref O],[]⟩) R s:=by
 obtain ⟨hd_,dp,_,gd,un⟩:=A
 dsimp only at hA hroom
 subst hA
 exact eps0 Z0mcq Z0mc rfl (by with_unfolding_all exact Z0mb.2 (fun g L' h₁=>eps0 Z0mdq Z0md rfl (by with_unfolding_all exact Z0mm) (g,L',h₁))) ((pq,w,s,B,O,dO),(R,loose,mean,mg,mb,outer),(hd_,dp,gd,un)) XB TB hB hroom g0 g1 f0 f1 S hBf h
noncomputable abbrev owN (y:Mk) (W:Addr) (v:Value):Obj:=dictOf [⟨y.h 0,.str "explicit" (y.t 0),.bool false⟩,⟨y.h 1,.str "_txn" (y.t 1),v⟩,⟨y.h 2,.str "_synchs" (y.t 2),.ref W⟩] 3
theorem mk_owner {w:World} {A A₀:Around} {E:Vp} {s:Shared} {B g:Heap} {L:Addr} {m:Sm} {nw:Rest} {Q:Vp} {loose:List Str} {mean:ExcName→Option Value} {mg mb:Sm} {env:Env} {outer:List Env}
  (XB:(hd.heap_1 w.params).In B) (TB:Top pq loose mean mg mb B) (hBG:B.StaysIn g) (KB:Below A₀ B outer g) (hA:A.frames=some (env::outer)) (hfL:env.frame=some L) (hk:env.scope.kind=.function) (hBf:∀ b∈frs (env::outer),B.get? b=none)
  (F:Fr g L s.heap m) (N:News g L s.heap nw) (hroom:A.depth+20<recursionLimit)
  (h:∀ h' tk' (O dO W dW dl:Addr) (y:Mk) (wh:Int) (wt:Tok) (kl:Nat),Fr g L h' m→News g L h' ((O,instObj 758 dO)::(dO,owN y W .none)::(W,instObj 153 dW)::(dW,wsDict wh wt dl)::(dl,listOf #[] kl)::nw)→(∀ p∈nw,p.1<dO)→dO<O→O<dW→dW<W→W<dl→Q (.ref O) { s with heap:=h',toks:=tk' }) :
  wpAny (model P2 w) A (call (.ref 758) []) Q E s:=by
 refine call_cls (fI:=633) F (XB.keeps hBG) N (by kernel_rfl) (by kernel_rfl) (by kernel_rfl) fun x dx h' F' N' l1 l2=>?_
 refine init633 (B:=B) XB TB (fun b o e=>F'.keep b o (hBG b o e)) (by simp only [depth_under_make]; omega) (N' _ (.head _)).1 (N' _ eM1).1 (fresh_of_stays hBG (N' _ (.head _)).2.2) (fresh_of_stays hBG (N' _ eM1).2.2) hA ((stk_of KB).push (Λ:=[]) rfl F' N' hfL hk (ns_cons ⟨_,.head _,rfl⟩ (ns_cons ⟨_,eM1,rfl⟩ ns_nil))) hBf
  fun h'' tk'' W dW dl y wh wt kl hm gd gW gdW gdl fW fdW fdl o1 o2 o3 o4=>⟨rfl,?_⟩
 have F'':=fr_mod F' hm fun a ha=>List.mem_singleton.mp ha ▸ (N' _ eM1).2
 have nf:∀ {a:Addr} {o:Obj},h''.get? a=some o→h'.get? a=none→h''.get? a=some o∧a≠L∧g.get? a=none:=fun {a o} e1 e2=>by
  refine ⟨e1,fun q=>?_,?_⟩
  ·obtain ⟨oL,es,ep,hL,_⟩:=F'.ns
   rw [q,hL] at e2; cases e2
  ·cases q:g.get? a with
   | none=>rfl
   | some o'=>rw [F'.keep _ _ q] at e2; cases e2
 exact h h'' tk'' x dx W dW dl y wh wt kl F'' (nms_cons (news_stay N' hm (.head _) (Nat.ne_of_gt l2)) (nms_cons ⟨gd,(N' _ eM1).2⟩ (nms_cons (nf gW fW) (nms_cons (nf gdW fdW) (nms_cons (nf gdl fdl) fun p hp=>news_stay N' hm (eT2 hp) (Nat.ne_of_lt (l1 p hp))))))) l1 l2 o1 o3 o4
theorem dict12 {h:Heap} {d rs W O ad vt ex b1 b2 b3 b4:Addr} {st:Str} {ts:Tok} {ftb:Value} {h0 h1 h2 h3 h4 h5 h6 h7 h8 h9 h10 h11:Int} {t0 t1 t2 t3 t4 t5 t6 t7 t8 t9 t10 t11:Tok}
  (e:h.get? d=some (dictOf [⟨h0,.str "status" t0,.str st ts⟩,⟨h1,.str "_resources" t1,.ref rs⟩,⟨h2,.str "_synchronizers" t2,.ref W⟩,⟨h3,.str "_manager" t3,.ref O⟩,⟨h4,.str "_adapters" t4,.ref ad⟩,⟨h5,.str "_voted" t5,.ref vt⟩,⟨h6,.str "extension" t6,.ref ex⟩,⟨h7,.str "_failure_traceback" t7,ftb⟩,
   ⟨h8,.str "_before_commit" t8,.ref b1⟩,⟨h9,.str "_after_commit" t9,.ref b2⟩,⟨h10,.str "_before_abort" t10,.ref b3⟩,⟨h11,.str "_after_abort" t11,.ref b4⟩] 12)) :
  ∃ x:Mk,h.get? d=some (dictOf (txEs x st ts rs W O ad vt ex ftb b1 b2 b3 b4) 12):=
 ⟨⟨fun i=>match i with|0=>h0|1=>h1|2=>h2|3=>h3|4=>h4|5=>h5|6=>h6|7=>h7|8=>h8|9=>h9|10=>h10|_=>h11,fun i=>match i with|0=>t0|1=>t1|2=>t2|3=>t3|4=>t4|5=>t5|6=>t6|7=>t7|8=>t8|9=>t9|10=>t10|_=>t11⟩,e⟩
theorem truthy_len {prog:Program} {w:World} {A:Around} {E:Vp} {s:Shared} {K:Frag} {C L x f:Addr} {h₀:Heap} {m:Sm} {ox:Obj} {od:Option Obj} {Q:Bool→Shared→Prop} (F:Fr h₀ L s.heap m) (X₀:K.In h₀) (I:InstAt s.heap x ox C od)
  (hb:findIn K (.ref C) "__bool__" = some none) (hs:findIn K (.ref C) "__len__" = some (some (.ref f))) (hf:isFn K (.ref f)=true)
  (h:wpAny (model prog w) A.in1 (call (.ref f) [.ref x]) (PySem.W.LenBack fun v s'=>match v with|.int n _=>Q (n != 0) s'|_=>False) E s):wpAny (model prog w) A (truthy (.ref x)) Q E s:=by
 have X:=X₀.keeps F.keep
 unfold truthy
 refine wpAny_bind (m:=callSpecial? (.ref x) (Str.ofString "__bool__")) (wpAny_bind (wpAny_bind (I.type.here ((looks_findIn X hb).here (wpAny_pure ?_)))))
 refine wpAny_bind (wpAny_bind (I.type.here ((looks_findIn X hs).here ?_)))
 refine wpAny_bind (wpAny_mono (Q:=fun v s'=>match v with|.int n _=>Q (n != 0) s'|_=>False) (E:=E) ?_ (fun v s' hq=>?_) fun _ _ e=>e)
 ·refine wpAny_runValue (codeAny_builtin entry_len ?_)
  rw [Around.under_plainId plain_len _]
  unfold Builtin.«len»
  refine wpAny_bind (m:=oneArg "len" _) (wpAny_pure ?_)
  refine wpAny_bind (m:=callSpecial? (.ref x) (Str.ofString "__len__")) (special_fn X I hs (beq_iff_eq.mp hf) (wpAny_mono h (fun r s' hr=>?_) fun _ _ y=>y))
  cases r<;>first|exact hr.elim|skip
  rename_i n u
  obtain ⟨⟨h0,h1⟩,hq⟩:=hr
  refine wpAny_bind (wpAny_holding (wpAny_pure ?_))
  refine wpAny_bind (wpAny_letGo ?_)
  show wpAny _ _ (if n<0 then _ else _) _ _ _
  rw [if_neg (by k_room)]
  show wpAny _ _ (if n ≥ 2 ^ 63 then _ else _) _ _ _
  rw [if_neg (by k_room)]
  exact wpAny_bind (wpAny_mkInt (wpAny_pure hq))
 ·cases v<;>first|exact hq.elim|skip
  exact wpAny_pure hq
local macro_rules | `(tactic| walk_at "truthy ref") => `(tactic| (k_here; k_dflt (refine' truthy_len (by k_asm) (by k_asm) (by k_inst) (by k_is) (by k_is) (by k_is) ?_; k_whole)))
abbrev Z0hP (pq:Program) (w:World) (s:Shared) (B:Heap) (O dO W dW dl:Addr) (y:Mk) (wh:Int) (wt:Tok) (kl:Nat) (R:Rp) (loose:List Str) (mean:ExcName→Option Value) (mg mb:Sm) (outer:List Env) (hd_:Option Value) (dp:Nat) (gd:Option (List Code)) (un:Nat):Prop:=∀ (XB:(hd.heap_1 w.params).In B) (TB:Top pq loose mean mg mb B) (hB:B.StaysIn s.heap) (hroom:dp+20<recursionLimit) (gN:∀ p∈[(O,instObj 758 dO),(dO,owN y W .none),(W,instObj 153 dW),(dW,wsDict wh wt dl),(dl,listOf #[] kl)],s.heap.get? p.1=some p.2) (fN:∀ p∈[(O,instObj 758 dO),(dO,owN y W .none),(W,instObj 153 dW),(dW,wsDict wh wt dl),(dl,listOf #[] kl)],B.get? p.1=none) (S:Stk outer s.heap [O,dO,W,dW,dl]) (hBf:∀ b∈frs outer,B.get? b=none) (o1:@LT.lt Nat _ dO O) (o2:@LT.lt Nat _ O dW) (o3:@LT.lt Nat _ dW W) (o4:@LT.lt Nat _ W dl) (h:∀ h' tk' (X dx rs ad vt ex b1 b2 b3 b4:Addr) (x:Mk) (ts:Tok),Mod [dO] s.heap h'→h'.get? dO=some (owN y W (.ref X)) →
   (∀ p∈[(X,instObj 501 dx),(dx,dictOf (txEs x (Str.ofString "Active") ts rs W O ad vt ex .none b1 b2 b3 b4) 12),(rs,listOf #[] 0),(vt,listOf #[] 0),(b1,listOf #[] 0),(b2,listOf #[] 0),(b3,listOf #[] 0),(b4,listOf #[] 0)],h'.get? p.1=some p.2∧s.heap.get? p.1=none) →
   (@LT.lt Nat _ dl dx∧@LT.lt Nat _ dx X∧@LT.lt Nat _ X rs∧@LT.lt Nat _ rs ad∧@LT.lt Nat _ ad vt∧@LT.lt Nat _ vt ex∧@LT.lt Nat _ ex b1∧@LT.lt Nat _ b1 b2∧@LT.lt Nat _ b2 b3∧@LT.lt Nat _ b3 b4)→R (.ok (.ret (.ref X))) { s with heap:=h',toks:=tk' }),codeAny (model P2 w) (Around.mk hd_ dp (some outer) gd un) (.call (.ref 640) ⟨[.ref O],[]⟩) R s
abbrev Z0hcq:=U fun a=>U fun b=>U fun c d=>T5 (T6 (T6 (T6 Z0hP a) b) c) d
def Z0hc:=eps Z0hcq ⟨inferInstance⟩
def Z0h.pq:=Z0hc.1.1
def Z0h.w:=Z0hc.1.2.1
def Z0h.s:=Z0hc.1.2.2.1
def Z0h.B:=Z0hc.1.2.2.2.1
def Z0h.O:=Z0hc.1.2.2.2.2.1
def Z0h.dO:=Z0hc.1.2.2.2.2.2
def Z0h.W:=Z0hc.2.1.1
def Z0h.dW:=Z0hc.2.1.2.1
def Z0h.dl:=Z0hc.2.1.2.2.1
def Z0h.y:=Z0hc.2.1.2.2.2.1
def Z0h.wh:=Z0hc.2.1.2.2.2.2.1
def Z0h.wt:=Z0hc.2.1.2.2.2.2.2
def Z0h.kl:=Z0hc.2.2.1.1
def Z0h.R:=Z0hc.2.2.1.2.1
def Z0h.loose:=Z0hc.2.2.1.2.2.1
def Z0h.mean:=Z0hc.2.2.1.2.2.2.1
def Z0h.mg:=Z0hc.2.2.1.2.2.2.2.1
def Z0h.mb:=Z0hc.2.2.1.2.2.2.2.2
def Z0h.outer:=Z0hc.2.2.2.1
def Z0h.hd_:=Z0hc.2.2.2.2.1
def Z0h.dp:=Z0hc.2.2.2.2.2.1
def Z0h.gd:=Z0hc.2.2.2.2.2.2.1
def Z0h.un:=Z0hc.2.2.2.2.2.2.2
open Z0h in
noncomputable def Z0hb:PSigma fun P:(Heap)→(Addr)→(Heap)→Prop=>(∀ g L' h₁,P g L' h₁)→Z0hP Z0h.pq Z0h.w Z0h.s Z0h.B Z0h.O Z0h.dO Z0h.W Z0h.dW Z0h.dl Z0h.y Z0h.wh Z0h.wt Z0h.kl Z0h.R Z0h.loose Z0h.mean Z0h.mg Z0h.mb Z0h.outer Z0h.hd_ Z0h.dp Z0h.gd Z0h.un:=by
 apply PSigma.mk
 case snd=>
 intro hP
 intro XB TB hB hroom gN fN S hBf o1 o2 o3 o4 h
 k_dflt (refine' enter (Λ:=[(O,instObj 758 dO),(dO,owN y W .none),(W,instObj 153 dW),(dW,wsDict wh wt dl),(dl,listOf #[] kl)]) XB (topRead_of TB) hB ?k1 ?k2 (by k_is) (by k_is) (by show dp<recursionLimit; k_room) (BindsTo.of_eq rfl) (locs rfl) ?_ rfl rfl rfl (by decide))
 (case k1=>exact gN)
 (case k2=>exact fN)
 intro g L' h₁
 revert XB TB hB hroom gN fN S hBf o1 o2 o3 o4 h
 exact hP g L' h₁
abbrev Z0hdq:=T3 Z0hb.1
def Z0hd:=eps Z0hdq ⟨inferInstance⟩
def Z0h.g:=Z0hd.1
def Z0h.L':=Z0hd.2.1
def Z0h.h₁:=Z0hd.2.2
open Z0h in
noncomputable def Bab:PSigma fun PBa:(Tk)→(Tk)→(Tk)→(Addr)→(Addr)→(Heap)→(Heap)→(Addr)→(Heap)→(Tk)→(Tk)→(Heap)→(Tk)→(Addr)→(Heap)→(Heap)→(Tk)→(Heap)→(Tk)→Prop=>(∀ zBa1 zBa4 zBa7 zBa8 zBa9 zBa10 zBa15 zBa16 zBa17 zBa24 zBa27 zBa28 zBa29 zBa32 zBa33 zBa35 zBa36 zBa41 zBa42,PBa zBa1 zBa4 zBa7 zBa8 zBa9 zBa10 zBa15 zBa16 zBa17 zBa24 zBa27 zBa28 zBa29 zBa32 zBa33 zBa35 zBa36 zBa41 zBa42)→Z0hb.1 Z0h.g Z0h.L' Z0h.h₁:=by
 apply PSigma.mk
 case snd=>
 intro hPBa
 intro XB TB hB hroom gN fN S hBf o1 o2 o3 o4 h
 intro hg l1 KX TXr F N
 have hBg:B.StaysIn g:=hg ▸ stays_hide hB fN
 have KB:Below ⟨hd_,dp,some outer,gd,un⟩ B outer g:=below_of rfl S hg hBg hBf
 have TX:Top pq loose mean mg mb g:=TB.keeps hBg
 clear TXr TB XB
 k_lt l1
 iterate 75 (first|(k_unfold; (try dsimp only))|(k_end; wrow_close)|walk1|(dsimp only; walk1)|(leave1; try dsimp only))
 rename_i zBa1 zBa2 zBa3 zBa4 zBa5 zBa6 zBa7 zBa8 zBa9 zBa10 zBa11 zBa12 zBa13 zBa14 zBa15 zBa16 zBa17 zBa18 zBa19 zBa20 zBa21 zBa22 zBa23 zBa24 zBa25 zBa26 zBa27 zBa28 zBa29 zBa30 zBa31 zBa32 zBa33 zBa34 zBa35 zBa36 zBa37 zBa38 zBa39 zBa40 zBa41 zBa42 zBa43 zBa44
 revert hB hroom gN fN S hBf o1 o2 o3 o4 h hg l1 KX hBg KB TX zBa11 zBa12 zBa13 zBa14 zBa18 zBa19 zBa20 zBa21 zBa34 zBa43 zBa44
 exact hPBa zBa1 zBa4 zBa7 zBa8 zBa9 zBa10 zBa15 zBa16 zBa17 zBa24 zBa27 zBa28 zBa29 zBa32 zBa33 zBa35 zBa36 zBa41 zBa42
noncomputable abbrev Ba_dq:=U fun a=>U fun b=>U fun c d=>(T6 (T6 (T6 Bab.1 a) b) c) d
noncomputable def Ba_d:=eps Ba_dq ⟨inferInstance⟩
noncomputable def Ba_.zBa1:=Ba_d.1.1
noncomputable def Ba_.zBa4:=Ba_d.1.2.1
noncomputable def Ba_.zBa7:=Ba_d.1.2.2.1
noncomputable def Ba_.zBa8:=Ba_d.1.2.2.2.1
noncomputable def Ba_.zBa9:=Ba_d.1.2.2.2.2.1
noncomputable def Ba_.zBa10:=Ba_d.1.2.2.2.2.2
noncomputable def Ba_.zBa15:=Ba_d.2.1.1
noncomputable def Ba_.zBa16:=Ba_d.2.1.2.1
noncomputable def Ba_.zBa17:=Ba_d.2.1.2.2.1
noncomputable def Ba_.zBa24:=Ba_d.2.1.2.2.2.1
noncomputable def Ba_.zBa27:=Ba_d.2.1.2.2.2.2.1
noncomputable def Ba_.zBa28:=Ba_d.2.1.2.2.2.2.2
noncomputable def Ba_.zBa29:=Ba_d.2.2.1.1
noncomputable def Ba_.zBa32:=Ba_d.2.2.1.2.1
noncomputable def Ba_.zBa33:=Ba_d.2.2.1.2.2.1
noncomputable def Ba_.zBa35:=Ba_d.2.2.1.2.2.2.1
noncomputable def Ba_.zBa36:=Ba_d.2.2.1.2.2.2.2.1
noncomputable def Ba_.zBa41:=Ba_d.2.2.1.2.2.2.2.2
noncomputable def Ba_.zBa42:=Ba_d.2.2.2
open Z0h in
open Ba_ in
theorem Ba_m:Bab.1 Ba_.zBa1 Ba_.zBa4 Ba_.zBa7 Ba_.zBa8 Ba_.zBa9 Ba_.zBa10 Ba_.zBa15 Ba_.zBa16 Ba_.zBa17 Ba_.zBa24 Ba_.zBa27 Ba_.zBa28 Ba_.zBa29 Ba_.zBa32 Ba_.zBa33 Ba_.zBa35 Ba_.zBa36 Ba_.zBa41 Ba_.zBa42:=by
 intro hB hroom gN fN S hBf o1 o2 o3 o4 h hg l1 KX hBg KB TX zBa11 zBa12 zBa13 zBa14 zBa18 zBa19 zBa20 zBa21 zBa34 zBa43 zBa44
 k_steps
 rename Fr _ _ _ _=>F₁
 rename News _ _ _ _=>N₁
 try dsimp only
 have e:=dict12 (N₁ _ (eT8 eM2)).1
 refine e.elim fun x e=>?_
 have fr:∀ {p:Addr×Obj} {hh:Heap},News g L' hh [p]→@LT.lt Nat _ dl p.1→s.heap.get? p.1=none:=fun {p hh} N l=>fresh_of hg (N _ (.head _)).2.2 fun hm=>by
  have hm':@Eq Nat p.1 O ∨ @Eq Nat p.1 dO ∨ @Eq Nat p.1 W ∨ @Eq Nat p.1 dW ∨ @Eq Nat p.1 dl:=by simpa using hm
  omega
 refine h _ _ _ _ _ _ _ _ _ _ _ _ x _ (mod_of hg F₁ N₁ (ns_cons (fun _=>mk_in (gN _ (.head _)) (eT8 eM3)) (ns_cons (fun n=>(n (.head _)).elim) (ns_cons (fun _=>mk_in (gN _ eM2) (eT8 eM5)) (ns_cons (fun _=>mk_in (gN _ eM3) (eT8 eM6)) (ns_cons (fun _=>mk_in (gN _ eM4) (eT8 eM7)) ns_nil)))))) (N₁ _ (eT8 eM4)).1
  (nms_cons ⟨(N₁ _ (eT8 eM1)).1,fr (nms_cons (N₁ _ (eT8 eM1)) nms_nil) ?_⟩ (nms_cons ⟨e,fr (nms_cons ⟨e,(N₁ _ (eT8 eM2)).2⟩ nms_nil) ?_⟩ (nms_cons ⟨(N₁ _ eM8).1,fr (nms_cons (N₁ _ eM8) nms_nil) ?_⟩ (nms_cons ⟨(N₁ _ eM6).1,fr (nms_cons (N₁ _ eM6) nms_nil) ?_⟩ (nms_cons ⟨(N₁ _ eM4).1,fr (nms_cons (N₁ _ eM4) nms_nil) ?_⟩ (nms_cons ⟨(N₁ _ eM3).1,fr (nms_cons (N₁ _ eM3) nms_nil) ?_⟩ (nms_cons ⟨(N₁ _ eM2).1,fr (nms_cons (N₁ _ eM2) nms_nil) ?_⟩ (nms_cons ⟨(N₁ _ eM1).1,fr (nms_cons (N₁ _ eM1) nms_nil) ?_⟩ nms_nil)))))))) ?_
 all_goals (try dsimp only)
 all_goals (repeat' (with_reducible refine And.intro ?_ ?_))
 all_goals exact lt_in (by with_reducible assumption) (by k_mem)
theorem Z0hm:Z0hb.1 Z0h.g Z0h.L' Z0h.h₁:=Bab.2 (fun zBa1 zBa4 zBa7 zBa8 zBa9 zBa10 zBa15 zBa16 zBa17 zBa24 zBa27 zBa28 zBa29 zBa32 zBa33 zBa35 zBa36 zBa41 zBa42=>eps0 Ba_dq Ba_d rfl (by with_unfolding_all exact Ba_m) ((zBa1,zBa4,zBa7,zBa8,zBa9,zBa10),(zBa15,zBa16,zBa17,zBa24,zBa27,zBa28),(zBa29,zBa32,zBa33,zBa35,zBa36,zBa41),zBa42))
theorem begin640 {w:World} {A:Around} {s:Shared} {B:Heap} {O dO W dW dl:Addr} {y:Mk} {wh:Int} {wt:Tok} {kl:Nat} {R:Rp} {loose:List Str} {mean:ExcName→Option Value} {mg mb:Sm} {outer:List Env} (XB:(hd.heap_1 w.params).In B) (TB:Top pq loose mean mg mb B) (hB:B.StaysIn s.heap) (hroom:A.depth+20<recursionLimit) (gN:∀ p∈[(O,instObj 758 dO),(dO,owN y W .none),(W,instObj 153 dW),(dW,wsDict wh wt dl),(dl,listOf #[] kl)],s.heap.get? p.1=some p.2) (fN:∀ p∈[(O,instObj 758 dO),(dO,owN y W .none),(W,instObj 153 dW),(dW,wsDict wh wt dl),(dl,listOf #[] kl)],B.get? p.1=none) (hA:A.frames=some outer) (S:Stk outer s.heap [O,dO,W,dW,dl]) (hBf:∀ b∈frs outer,B.get? b=none) (o1:@LT.lt Nat _ dO O) (o2:@LT.lt Nat _ O dW) (o3:@LT.lt Nat _ dW W) (o4:@LT.lt Nat _ W dl) (h:∀ h' tk' (X dx rs ad vt ex b1 b2 b3 b4:Addr) (x:Mk) (ts:Tok),Mod [dO] s.heap h'→h'.get? dO=some (owN y W (.ref X)) →
   (∀ p∈[(X,instObj 501 dx),(dx,dictOf (txEs x (Str.ofString "Active") ts rs W O ad vt ex .none b1 b2 b3 b4) 12),(rs,listOf #[] 0),(vt,listOf #[] 0),(b1,listOf #[] 0),(b2,listOf #[] 0),(b3,listOf #[] 0),(b4,listOf #[] 0)],h'.get? p.1=some p.2∧s.heap.get? p.1=none) →
   (@LT.lt Nat _ dl dx∧@LT.lt Nat _ dx X∧@LT.lt Nat _ X rs∧@LT.lt Nat _ rs ad∧@LT.lt Nat _ ad vt∧@LT.lt Nat _ vt ex∧@LT.lt Nat _ ex b1∧@LT.lt Nat _ b1 b2∧@LT.lt Nat _ b2 b3∧@LT.lt Nat _ b3 b4)→R (.ok (.ret (.ref X))) { s with heap:=h',toks:=tk' }):codeAny (model P2 w) A (.call (.ref 640) ⟨[.ref O],[]⟩) R s:=by
 obtain ⟨hd_,dp,_,gd,un⟩:=A
 dsimp only at hA hroom
 subst hA
 exact eps0 Z0hcq Z0hc rfl (by with_unfolding_all exact Z0hb.2 (fun g L' h₁=>eps0 Z0hdq Z0hd rfl (by with_unfolding_all exact Z0hm) (g,L',h₁))) ((pq,w,s,B,O,dO),(W,dW,dl,y,wh,wt),(kl,R,loose,mean,mg,mb),(outer,hd_,dp,gd,un)) XB TB hB hroom gN fN S hBf o1 o2 o3 o4 h
end
abbrev Z0qP (pq:Program) (w:World) (A:Around) (s:Shared) (B:Heap) (q:Tq) (ts:Tok) (items:Array Value) (kr:Nat) (vt M:Addr) (R:Rp) (loose:List Str) (mg mb:Sm):Prop:=∀ (XB:(hd.heap_1 w.params).In B) (TB:TopRead pq loose mg mb B) (hB:B.StaysIn s.heap) (hroom:A.depth+4<recursionLimit) (g0:s.heap.get? q.X=some (instObj 501 q.dx)) (g1:s.heap.get? q.dx=some (txD q (Str.ofString "Active") ts vt .none)) (g2:s.heap.get? q.rs=some (listOf items kr)) (f0:B.get? q.X=none) (f1:B.get? q.dx=none) (f2:B.get? q.rs=none) (n1:@Ne Nat q.X q.rs) (n2:@Ne Nat q.dx q.rs) (hz:items.size<100) (h:∀ h' tk',Mod [q.rs] s.heap h'→h'.get? q.rs=some (listOf (items.push (.ref M)) (kr+1))→R (.ok (.ret .none)) { s with heap:=h',toks:=tk' }),codeAny (model P2 w) A (.call (.ref 268) ⟨[.ref q.X,.ref M],[]⟩) R s
abbrev Z0qcq:=U fun a=>U fun b c=>T3 (T6 (T6 Z0qP a) b) c
def Z0qc:=eps Z0qcq ⟨inferInstance⟩
def Z0q.pq:=Z0qc.1.1
def Z0q.w:=Z0qc.1.2.1
def Z0q.A:=Z0qc.1.2.2.1
def Z0q.s:=Z0qc.1.2.2.2.1
def Z0q.B:=Z0qc.1.2.2.2.2.1
def Z0q.q:=Z0qc.1.2.2.2.2.2
def Z0q.ts:=Z0qc.2.1.1
def Z0q.items:=Z0qc.2.1.2.1
def Z0q.kr:=Z0qc.2.1.2.2.1
def Z0q.vt:=Z0qc.2.1.2.2.2.1
def Z0q.M:=Z0qc.2.1.2.2.2.2.1
def Z0q.R:=Z0qc.2.1.2.2.2.2.2
def Z0q.loose:=Z0qc.2.2.1
def Z0q.mg:=Z0qc.2.2.2.1
def Z0q.mb:=Z0qc.2.2.2.2
open Z0q in
noncomputable def Z0qb:PSigma fun P:(Heap)→(Addr)→(Heap)→Prop=>(∀ g L' h₁,P g L' h₁)→Z0qP Z0q.pq Z0q.w Z0q.A Z0q.s Z0q.B Z0q.q Z0q.ts Z0q.items Z0q.kr Z0q.vt Z0q.M Z0q.R Z0q.loose Z0q.mg Z0q.mb:=by
 apply PSigma.mk
 case snd=>
 intro hP
 intro XB TB hB hroom g0 g1 g2 f0 f1 f2 n1 n2 hz h
 k_dflt (refine' enter (Λ:=[(q.X,instObj 501 q.dx),(q.dx,txD q (Str.ofString "Active") ts vt .none),(q.rs,listOf items kr)]) XB TB hB ?k1 ?k2 (by k_is) (by k_is) (by k_room) (BindsTo.of_eq rfl) (locs rfl) ?_ rfl rfl rfl (by decide))
 (case k1=>exact nms_cons g0 (nms_cons g1 (nms_cons g2 nms_nil)))
 (case k2=>exact nms_cons f0 (nms_cons f1 (nms_cons f2 nms_nil)))
 intro g L' h₁
 revert XB TB hB hroom g0 g1 g2 f0 f1 f2 n1 n2 hz h
 exact hP g L' h₁
abbrev Z0qdq:=T3 Z0qb.1
def Z0qd:=eps Z0qdq ⟨inferInstance⟩
def Z0q.g:=Z0qd.1
def Z0q.L':=Z0qd.2.1
def Z0q.h₁:=Z0qd.2.2
open Z0q in
theorem Z0qm:Z0qb.1 Z0q.g Z0q.L' Z0q.h₁:=by
 intro XB TB hB hroom g0 g1 g2 f0 f1 f2 n1 n2 hz h
 intro hg l1 KX TX F N
 clear l1 hB XB TB
 k_steps
 rename Fr _ _ _ _=>F₁
 rename News _ _ _ _=>N₁
 exact h _ _ (mod_of hg F₁ N₁ (ns_cons (fun _=>mk_in g0 (by k_mem)) (ns_cons (fun _=>mk_in g1 (by k_mem)) (ns_cons (fun n=>(n (.head _)).elim) ns_nil)))) (N₁ _ eM2).1
theorem join268 {w:World} {A:Around} {s:Shared} {B:Heap} {q:Tq} {ts:Tok} {items:Array Value} {kr:Nat} {vt M:Addr} {R:Rp} {loose:List Str} {mg mb:Sm}:Z0qP pq w A s B q ts items kr vt M R loose mg mb:=eps0 Z0qcq Z0qc rfl (by with_unfolding_all exact Z0qb.2 (fun g L' h₁=>eps0 Z0qdq Z0qd rfl (by with_unfolding_all exact Z0qm) (g,L',h₁))) ((pq,w,A,s,B,q),(ts,items,kr,vt,M,R),(loose,mg,mb))
abbrev Z0zP (pq:Program) (w:World) (A:Around) (s:Shared) (B:Heap) (q:Tq) (R:Rp) (loose:List Str) (mg mb:Sm):Prop:=∀ (XB:(hd.heap_1 w.params).In B) (TB:TopRead pq loose mg mb B) (hB:B.StaysIn s.heap) (hroom:A.depth+4<recursionLimit) (g0:s.heap.get? q.O=some (instObj 758 q.dO)) (g1:s.heap.get? q.dO=some (owD q (.ref q.X))) (f0:B.get? q.O=none) (f1:B.get? q.dO=none) (h:∀ h' tk',Mod [] s.heap h'→R (.ok (.ret (.ref q.X))) { s with heap:=h',toks:=tk' }),codeAny (model P2 w) A (.call (.ref 654) ⟨[.ref q.O],[]⟩) R s
abbrev Z0zcq:=U fun a b=>T4 (T6 Z0zP a) b
def Z0zc:=eps Z0zcq ⟨inferInstance⟩
def Z0z.pq:=Z0zc.1.1
def Z0z.w:=Z0zc.1.2.1
def Z0z.A:=Z0zc.1.2.2.1
def Z0z.s:=Z0zc.1.2.2.2.1
def Z0z.B:=Z0zc.1.2.2.2.2.1
def Z0z.q:=Z0zc.1.2.2.2.2.2
def Z0z.R:=Z0zc.2.1
def Z0z.loose:=Z0zc.2.2.1
def Z0z.mg:=Z0zc.2.2.2.1
def Z0z.mb:=Z0zc.2.2.2.2
open Z0z in
noncomputable def Z0zb:PSigma fun P:(Heap)→(Addr)→(Heap)→Prop=>(∀ g L' h₁,P g L' h₁)→Z0zP Z0z.pq Z0z.w Z0z.A Z0z.s Z0z.B Z0z.q Z0z.R Z0z.loose Z0z.mg Z0z.mb:=by
 apply PSigma.mk
 case snd=>
 intro hP
 intro XB TB hB hroom g0 g1 f0 f1 h
 k_dflt (refine' enter (Λ:=[(q.O,instObj 758 q.dO),(q.dO,owD q (.ref q.X))]) XB TB hB ?k1 ?k2 (by k_is) (by k_is) (by k_room) (BindsTo.of_eq rfl) (locs rfl) ?_ rfl rfl rfl (by decide))
 (case k1=>exact nms_cons g0 (nms_cons g1 nms_nil))
 (case k2=>exact nms_cons f0 (nms_cons f1 nms_nil))
 intro g L' h₁
 revert XB TB hB hroom g0 g1 f0 f1 h
 exact hP g L' h₁
abbrev Z0zdq:=T3 Z0zb.1
def Z0zd:=eps Z0zdq ⟨inferInstance⟩
def Z0z.g:=Z0zd.1
def Z0z.L':=Z0zd.2.1
def Z0z.h₁:=Z0zd.2.2
open Z0z in
theorem Z0zm:Z0zb.1 Z0z.g Z0z.L' Z0z.h₁:=by
 intro XB TB hB hroom g0 g1 f0 f1 h
 intro hg l1 KX TX F N
 clear l1 hB XB TB
 k_steps
 rename Fr _ _ _ _=>F₁
 rename News _ _ _ _=>N₁
 exact h _ _ (mod_of hg F₁ N₁ (ns_cons (fun _=>mk_in g0 (by k_mem)) (ns_cons (fun _=>mk_in g1 (by k_mem)) ns_nil)))
theorem get654 {w:World} {A:Around} {s:Shared} {B:Heap} {q:Tq} {R:Rp} {loose:List Str} {mg mb:Sm}:Z0zP pq w A s B q R loose mg mb:=eps0 Z0zcq Z0zc rfl (by with_unfolding_all exact Z0zb.2 (fun g L' h₁=>eps0 Z0zdq Z0zd rfl (by with_unfolding_all exact Z0zm) (g,L',h₁))) ((pq,w,A,s,B,q),(R,loose,mg,mb))
abbrev Z0dP (pq:Program) (kept:List (Addr×Obj)) (w:World) (A:Around) (s:Shared) (B:Heap) (q:Tq) (ts:Tok) (items:Array Value) (vt:Addr) (kv:Nat) (R:Rp) (loose:List Str) (mean:ExcName→Option Value) (mg mb:Sm) (rest:Rest) (outer:List Env) (lg:Addr) (μs ml:List Mg) (σ:Addr→Ms) (rows:List (Str×Str)) (ps1 ps2:Array Value) (stp:Str) (kdp:Int) (at_:Addr):Prop:=∀ (XB:(hd.heap_1 w.params).In B) (TB:Top pq loose mean mg mb B) (hB:B.StaysIn s.heap) (hroom:A.depth+90<recursionLimit) (hp1:TabL ps1.toList) (hp2:TabL ps2.toList) (hN:∀ p∈cmN q (Str.ofString "Active") ts items vt #[] kv .none ps1 ps2 rest,s.heap.get? p.1=some p.2) (fN:∀ p∈cmN q (Str.ofString "Active") ts items vt #[] kv .none ps1 ps2 rest,B.get? p.1=none) (hdis:∀ a∈cmA q vt,a∉rest.map (·.1)) (hord:Ord q vt) (WD:Wd kept w lg μs σ rows rest) (hi:items.toList=ml.map fun μ=>.ref μ.M) (hm:∀ μ∈ml,μ∈μs) (hh:A.handled=none) (hA:A.frames=some outer) (S:Stk outer s.heap ((cmN q (Str.ofString "Active") ts items vt #[] kv .none ps1 ps2 rest).map (·.1))) (hBf:∀ b∈frs outer,B.get? b=none) (hPl:PlanIs μs stp kdp at_) (hz:rows.length<60) (hnd:(ml.map (·.M)).Nodup) (hl:ml.length∈[2,3,4,5]) (hok:∀ h' tk' rest' σ' rows' voted ps1' ps2',tryPart (sortMg ml) σ rows=((σ',rows',none),voted)→Wd kept w lg μs σ' rows' rest'→TabL ps1'.toList→TabL ps2'.toList →
   DoneH ((cmN q (Str.ofString "Active") ts items vt #[] kv .none ps1 ps2 rest).map (·.1)) [(299,tabObj ps1'),(422,tabObj ps2')] rest' s.heap h'→R (.ok (.ret .none)) { s with heap:=h',toks:=tk' }) (hno:∀ h' tk' rest' σ' rows' kd Cx ea voted vt' vits' kv' ts' tf ps1' ps2',tryPart (sortMg ml) σ rows=((σ',rows',some kd),voted)→ClsOf kd Cx→TabL ps1'.toList→TabL ps2'.toList→vt'≠q.dx →
   Wd kept w lg μs (cleanSt (sortMg ml) voted (σ',rows')).1 (cleanSt (sortMg ml) voted (σ',rows')).2 rest' →
   Thrown outer (hideAll s.heap ((cmN q (Str.ofString "Active") ts items vt #[] kv .none ps1 ps2 rest).map (·.1))) (cmN q (Str.ofString "Commit failed") ts' items vt' vits' kv' (.str "failed" tf) ps1' ps2' rest') Cx ea s.heap h' →
   (∀ a∈cmA q vt',a∉rest'.map (·.1))→R (.error (.ref ea)) { s with heap:=h',toks:=tk' }),codeAny (model P2 w) A (.call (.ref 710) ⟨[.ref q.O],[]⟩) R s
abbrev Z0dcq:=U fun a=>U fun b=>U fun c=>U fun d e=>T4 (T6 (T6 (T6 (T6 Z0dP a) b) c) d) e
def Z0dc:=eps Z0dcq ⟨inferInstance⟩
def Z0d.pq:=Z0dc.1.1
def Z0d.kept:=Z0dc.1.2.1
def Z0d.w:=Z0dc.1.2.2.1
def Z0d.A:=Z0dc.1.2.2.2.1
def Z0d.s:=Z0dc.1.2.2.2.2.1
def Z0d.B:=Z0dc.1.2.2.2.2.2
def Z0d.q:=Z0dc.2.1.1
def Z0d.ts:=Z0dc.2.1.2.1
def Z0d.items:=Z0dc.2.1.2.2.1
def Z0d.vt:=Z0dc.2.1.2.2.2.1
def Z0d.kv:=Z0dc.2.1.2.2.2.2.1
def Z0d.R:=Z0dc.2.1.2.2.2.2.2
def Z0d.loose:=Z0dc.2.2.1.1
def Z0d.mean:=Z0dc.2.2.1.2.1
def Z0d.mg:=Z0dc.2.2.1.2.2.1
def Z0d.mb:=Z0dc.2.2.1.2.2.2.1
def Z0d.rest:=Z0dc.2.2.1.2.2.2.2.1
def Z0d.outer:=Z0dc.2.2.1.2.2.2.2.2
def Z0d.lg:=Z0dc.2.2.2.1.1
def Z0d.μs:=Z0dc.2.2.2.1.2.1
def Z0d.ml:=Z0dc.2.2.2.1.2.2.1
def Z0d.σ:=Z0dc.2.2.2.1.2.2.2.1
def Z0d.rows:=Z0dc.2.2.2.1.2.2.2.2.1
def Z0d.ps1:=Z0dc.2.2.2.1.2.2.2.2.2
def Z0d.ps2:=Z0dc.2.2.2.2.1
def Z0d.stp:=Z0dc.2.2.2.2.2.1
def Z0d.kdp:=Z0dc.2.2.2.2.2.2.1
def Z0d.at_:=Z0dc.2.2.2.2.2.2.2
open Z0d in
noncomputable def Z0db:PSigma fun P:(Heap)→(Addr)→(Heap)→Prop=>(∀ g L' h₁,P g L' h₁)→Z0dP Z0d.pq Z0d.kept Z0d.w Z0d.A Z0d.s Z0d.B Z0d.q Z0d.ts Z0d.items Z0d.vt Z0d.kv Z0d.R Z0d.loose Z0d.mean Z0d.mg Z0d.mb Z0d.rest Z0d.outer Z0d.lg Z0d.μs Z0d.ml Z0d.σ Z0d.rows Z0d.ps1 Z0d.ps2 Z0d.stp Z0d.kdp Z0d.at_:=by
 apply PSigma.mk
 case snd=>
 intro hP
 intro XB TB hB hroom hp1 hp2 hN fN hdis hord WD hi hm hh hA S hBf hPl hz hnd hl hok hno
 k_dflt (refine' enter (Λ:=cmN q (Str.ofString "Active") ts items vt #[] kv .none ps1 ps2 rest) XB (topRead_of TB) hB ?k1 ?k2 (by k_is) (by k_is) (by k_room) (BindsTo.of_eq rfl) (locs rfl) ?_ rfl rfl rfl (by decide))
 (case k1=>exact hN)
 (case k2=>exact fN)
 intro g L' h₁
 revert XB TB hB hroom hp1 hp2 hN fN hdis hord WD hi hm hh hA S hBf hPl hz hnd hl hok hno
 exact hP g L' h₁
abbrev Z0ddq:=T3 Z0db.1
def Z0dd:=eps Z0ddq ⟨inferInstance⟩
def Z0d.g:=Z0dd.1
def Z0d.L':=Z0dd.2.1
def Z0d.h₁:=Z0dd.2.2
open Z0d in
theorem Z0dm:Z0db.1 Z0d.g Z0d.L' Z0d.h₁:=by
 intro XB TB hB hroom hp1 hp2 hN fN hdis hord WD hi hm hh hA S hBf hPl hz hnd hl hok hno
 intro hg l1 KX TX F N
 have hBG:B.StaysIn g:=hg ▸ stays_hide hB fN
 have KB:Box (Below A B outer g):=⟨below_of hA S hg hBG hBf⟩
 have HF:=bf_push (env:=envOf (Str.ofString "TransactionManager.commit") { kind:=.function,names:=[(Str.ofString "self",.local)],isGenerator:=false,isCoroutine:=false } L' 710 (.ref 709)) hBG rfl F hBf
 have SS:∀ {h:Heap} {m:Sm} {nw:Rest} {Λ':List Addr},Fr g L' h m→News g L' h nw→(∀ a∈Λ',∃ p∈nw,p.1=a)→Stk (envOf (Str.ofString "TransactionManager.commit") { kind:=.function,names:=[(Str.ofString "self",.local)],isGenerator:=false,isCoroutine:=false } L' 710 (.ref 709)::outer) h Λ':=fun F N hΛ=>(stk_of KB.out).push (Λ:=[]) rfl F N rfl rfl hΛ
 have FB:∀ {h:Heap} {nw:Rest} {p:Addr×Obj},News g L' h nw→p∈nw→B.get? p.1=none:=fun N hp=>fresh_of_stays hBG (N _ hp).2.2
 clear l1
 have N':News g L' h₁ [(q.O,instObj 758 q.dO),(q.dO,owD q (.ref q.X)),(q.X,instObj 501 q.dx),(q.dx,txD q (Str.ofString "Active") ts vt .none)]:=nms_cons (N _ (by k_mem)) (nms_cons (N _ (by k_mem)) (nms_cons (N _ (by k_mem)) (nms_cons (N _ (by k_mem)) nms_nil)))
 obtain ⟨nw,hnw⟩:∃ nw:Rest,nw=cmN q (Str.ofString "Active") ts items vt #[] kv .none ps1 ps2 rest:=⟨_,rfl⟩
 have N₀:Box (News g L' h₁ nw):=⟨by rw [hnw]; exact N⟩
 clear N
 k_steps
 refine wpAny_call (get654 (B:=B) XB (topRead_of TB) (fun b o e=>F.keep b o (hBG b o e)) (by k_room) (N' _ (.head _)).1 (N' _ eM1).1 (FB N' (.head _)) (FB N' eM1) fun h₂ tk₂ hm₂=>?_)
 have F₂:=fr_mod0 F hm₂
 have N₂:=news_mod0 N' hm₂
 have N₀':=Box.mk (news_mod0 N₀.out hm₂)
 clear F N' N₀
 k_steps
 have N₃:=N₀'.out
 rw [hnw] at N₃
 refine wpAny_call (commit_ (B:=B) (q:=q) (ts:=ts) (items:=items) (vt:=vt) (kv:=kv) (ps1:=ps1) (ps2:=ps2) (rest:=rest) (σ:=σ) (rows:=rows) (lg:=lg) (μs:=μs) (ml:=ml) (stp:=stp) (kdp:=kdp) (at_:=at_) XB TB (fun b o e=>F₂.keep b o (hBG b o e)) (by k_room) hp1 hp2 (fun p hp=>(N₃ p hp).1) (fun p hp=>FB N₃ hp) hdis hord WD hi hm hh (Around.frames_deeper hA)
  (SS F₂ N₃ fun a ha=>?_) HF hPl hz hnd hl ?ok ?no)
 ·obtain ⟨p,hp,rfl⟩:=List.mem_map.mp ha
  exact ⟨p,hp,rfl⟩
 case ok=>
  intro h₃ tk₃ rest₃ σ₃ rows₃ voted ps₃ ps₄ htp W₃ hp₃ hp₄ D₃
  k_steps
  obtain ⟨F₃,mk₃⟩:=after_done F₂ N₃ D₃ fun a ha=>by
   obtain ⟨p,hp,rfl⟩:=List.mem_map.mp ha
   exact ⟨p,hp,rfl⟩
  exact hok _ _ rest₃ σ₃ rows₃ voted ps₃ ps₄ htp W₃ hp₃ hp₄ (done_of hg F₃ (mk₃ _ fun p hp=>.inl hp) (fun p hp=>hp) D₃.dis)
 case no=>
  intro h₃ tk₃ rest₃ σ₃ rows₃ kd Cx ea voted vt₃ vits₃ kv₃ ts₃ tf ps₃ ps₄ htp hC hp₃ hp₄ nv W₃ TH dis₃
  refine throw_next hA S hg rfl F₂ TH (fun a ha=>?_) fun h₄ TH₄=>?_
  ·obtain ⟨p,hp,rfl⟩:=List.mem_map.mp ha
   exact (N₃ p hp).2.2
  ·exact hno h₄ _ rest₃ σ₃ rows₃ kd Cx ea voted vt₃ vits₃ kv₃ ts₃ tf ps₃ ps₄ htp hC hp₃ hp₄ nv W₃ (hg ▸ TH₄) dis₃
theorem commit710 {w:World} {A:Around} {s:Shared} {B:Heap} {q:Tq} {ts:Tok} {items:Array Value} {vt:Addr} {kv:Nat} {R:Rp} {loose:List Str} {mean:ExcName→Option Value} {mg mb:Sm} {rest:Rest} {outer:List Env} {lg:Addr} {μs ml:List Mg} {σ:Addr→Ms} {rows:List (Str×Str)} {ps1 ps2:Array Value} {stp:Str} {kdp:Int} {at_:Addr}:Z0dP pq kept w A s B q ts items vt kv R loose mean mg mb rest outer lg μs ml σ rows ps1 ps2 stp kdp at_:=eps0 Z0dcq Z0dc rfl (by with_unfolding_all exact Z0db.2 (fun g L' h₁=>eps0 Z0ddq Z0dd rfl (by with_unfolding_all exact Z0dm) (g,L',h₁))) ((pq,kept,w,A,s,B),(q,ts,items,vt,kv,R),(loose,mean,mg,mb,rest,outer),(lg,μs,ml,σ,rows,ps1),(ps2,stp,kdp,at_))
abbrev Z0kP (pq:Program) (kept:List (Addr×Obj)) (w:World) (A:Around) (s:Shared) (B:Heap) (q:Tq) (st:Str) (ts:Tok) (items:Array Value) (vt vt₀:Addr) (ftb:Value) (R:Rp) (loose:List Str) (mean:ExcName→Option Value) (mg mb:Sm) (rest:Rest) (outer:List Env) (lg:Addr) (μs ml:List Mg) (σ:Addr→Ms) (rows:List (Str×Str)) (ps:Array Value):Prop:=∀ (XB:(hd.heap_1 w.params).In B) (TB:Top pq loose mean mg mb B) (hB:B.StaysIn s.heap) (hroom:A.depth+90<recursionLimit) (hps:TabL ps.toList) (hN:∀ p∈abN q st ts items vt ftb ps rest,s.heap.get? p.1=some p.2) (fN:∀ p∈abN q st ts items vt ftb ps rest,B.get? p.1=none) (hdis:∀ a∈abA q,a∉rest.map (·.1)) (hord:Ord q vt₀) (WD:Wd kept w lg μs σ rows rest) (hi:items.toList=ml.map fun μ=>.ref μ.M) (hm:∀ μ∈ml,μ∈μs) (hh:A.handled=none) (hA:A.frames=some outer) (S:Stk outer s.heap ((abN q st ts items vt ftb ps rest).map (·.1))) (hBf:∀ b∈frs outer,B.get? b=none) (hDs:∀ μ∈μs,PySem.Spec.lookup (.str (Str.ofString "abort")) μ.D=none) (hz:rows.length<200) (hl:ml.length ≤ 5) (hok:∀ h' tk' rest' ps',Wd kept w lg μs (ml.foldl (fun st μ=>effAb μ st) (σ,rows)).1 (ml.foldl (fun st μ=>effAb μ st) (σ,rows)).2 rest'→TabL ps'.toList →
   DoneH ((abN q st ts items vt ftb ps rest).map (·.1)) [(464,tabObj ps')] rest' s.heap h'→R (.ok (.ret .none)) { s with heap:=h',toks:=tk' }),codeAny (model P2 w) A (.call (.ref 717) ⟨[.ref q.O],[]⟩) R s
abbrev Z0kcq:=U fun a=>U fun b=>U fun c=>U fun d e=>T2 (T6 (T6 (T6 (T6 Z0kP a) b) c) d) e
def Z0kc:=eps Z0kcq ⟨inferInstance⟩
def Z0k.pq:=Z0kc.1.1
def Z0k.kept:=Z0kc.1.2.1
def Z0k.w:=Z0kc.1.2.2.1
def Z0k.A:=Z0kc.1.2.2.2.1
def Z0k.s:=Z0kc.1.2.2.2.2.1
def Z0k.B:=Z0kc.1.2.2.2.2.2
def Z0k.q:=Z0kc.2.1.1
def Z0k.st:=Z0kc.2.1.2.1
def Z0k.ts:=Z0kc.2.1.2.2.1
def Z0k.items:=Z0kc.2.1.2.2.2.1
def Z0k.vt:=Z0kc.2.1.2.2.2.2.1
def Z0k.vt₀:=Z0kc.2.1.2.2.2.2.2
def Z0k.ftb:=Z0kc.2.2.1.1
def Z0k.R:=Z0kc.2.2.1.2.1
def Z0k.loose:=Z0kc.2.2.1.2.2.1
def Z0k.mean:=Z0kc.2.2.1.2.2.2.1
def Z0k.mg:=Z0kc.2.2.1.2.2.2.2.1
def Z0k.mb:=Z0kc.2.2.1.2.2.2.2.2
def Z0k.rest:=Z0kc.2.2.2.1.1
def Z0k.outer:=Z0kc.2.2.2.1.2.1
def Z0k.lg:=Z0kc.2.2.2.1.2.2.1
def Z0k.μs:=Z0kc.2.2.2.1.2.2.2.1
def Z0k.ml:=Z0kc.2.2.2.1.2.2.2.2.1
def Z0k.σ:=Z0kc.2.2.2.1.2.2.2.2.2
def Z0k.rows:=Z0kc.2.2.2.2.1
def Z0k.ps:=Z0kc.2.2.2.2.2
open Z0k in
noncomputable def Z0kb:PSigma fun P:(Heap)→(Addr)→(Heap)→Prop=>(∀ g L' h₁,P g L' h₁)→Z0kP Z0k.pq Z0k.kept Z0k.w Z0k.A Z0k.s Z0k.B Z0k.q Z0k.st Z0k.ts Z0k.items Z0k.vt Z0k.vt₀ Z0k.ftb Z0k.R Z0k.loose Z0k.mean Z0k.mg Z0k.mb Z0k.rest Z0k.outer Z0k.lg Z0k.μs Z0k.ml Z0k.σ Z0k.rows Z0k.ps:=by
 apply PSigma.mk
 case snd=>
 intro hP
 intro XB TB hB hroom hps hN fN hdis hord WD hi hm hh hA S hBf hDs hz hl hok
 k_dflt (refine' enter (Λ:=abN q st ts items vt ftb ps rest) XB (topRead_of TB) hB ?k1 ?k2 (by k_is) (by k_is) (by k_room) (BindsTo.of_eq rfl) (locs rfl) ?_ rfl rfl rfl (by decide))
 (case k1=>exact hN)
 (case k2=>exact fN)
 intro g L' h₁
 revert XB TB hB hroom hps hN fN hdis hord WD hi hm hh hA S hBf hDs hz hl hok
 exact hP g L' h₁
abbrev Z0kdq:=T3 Z0kb.1
def Z0kd:=eps Z0kdq ⟨inferInstance⟩
def Z0k.g:=Z0kd.1
def Z0k.L':=Z0kd.2.1
def Z0k.h₁:=Z0kd.2.2
open Z0k in
theorem Z0km:Z0kb.1 Z0k.g Z0k.L' Z0k.h₁:=by
 intro XB TB hB hroom hps hN fN hdis hord WD hi hm hh hA S hBf hDs hz hl hok
 intro hg l1 KX TX F N
 have hBG:B.StaysIn g:=hg ▸ stays_hide hB fN
 have KB:Box (Below A B outer g):=⟨below_of hA S hg hBG hBf⟩
 have HF:=bf_push (env:=(envOf (Str.ofString "TransactionManager.abort") { kind:=.function,names:=[(Str.ofString "self",.local)],isGenerator:=false,isCoroutine:=false } L' 717 (.ref 716))) hBG rfl F hBf
 have SS:∀ {h:Heap} {m:Sm} {nw:Rest} {Λ':List Addr},Fr g L' h m→News g L' h nw→(∀ a∈Λ',∃ p∈nw,p.1=a)→Stk ((envOf (Str.ofString "TransactionManager.abort") { kind:=.function,names:=[(Str.ofString "self",.local)],isGenerator:=false,isCoroutine:=false } L' 717 (.ref 716))::outer) h Λ':=fun F N hΛ=>(stk_of KB.out).push (Λ:=[]) rfl F N rfl rfl hΛ
 have FB:∀ {h:Heap} {nw:Rest} {p:Addr×Obj},News g L' h nw→p∈nw→B.get? p.1=none:=fun N hp=>fresh_of_stays hBG (N _ hp).2.2
 clear l1
 have N':News g L' h₁ [(q.O,instObj 758 q.dO),(q.dO,owD q (.ref q.X)),(q.X,instObj 501 q.dx),(q.dx,txD q st ts vt ftb)]:=nms_cons (N _ (by k_mem)) (nms_cons (N _ (by k_mem)) (nms_cons (N _ (by k_mem)) (nms_cons (N _ (by k_mem)) nms_nil)))
 obtain ⟨nw,hnw⟩:∃ nw:Rest,nw=abN q st ts items vt ftb ps rest:=⟨_,rfl⟩
 have N₀:Box (News g L' h₁ nw):=⟨by rw [hnw]; exact N⟩
 clear N
 k_steps
 refine wpAny_call (get654 (B:=B) XB (topRead_of TB) (fun b o e=>F.keep b o (hBG b o e)) (by k_room) (N' _ (.head _)).1 (N' _ eM1).1 (FB N' (.head _)) (FB N' eM1) fun h₂ tk₂ hm₂=>?_)
 have F₂:=fr_mod0 F hm₂
 have N₂:=news_mod0 N' hm₂
 have N₀':=Box.mk (news_mod0 N₀.out hm₂)
 clear F N' N₀
 k_steps
 have N₃:=N₀'.out
 rw [hnw] at N₃
 refine wpAny_call (abort_ (B:=B) (q:=q) (st:=st) (ts:=ts) (items:=items) (vt:=vt) (vt₀:=vt₀) (ftb:=ftb) (ps:=ps) (rest:=rest) (σ:=σ) (rows:=rows) (lg:=lg) (μs:=μs) (ml:=ml) XB TB (fun b o e=>F₂.keep b o (hBG b o e)) (by k_room) hps (fun p hp=>(N₃ p hp).1) (fun p hp=>FB N₃ hp) hdis hord WD hi hm hh (Around.frames_deeper hA)
  (SS F₂ N₃ fun a ha=>?_) HF hDs hz hl ?ok)
 ·obtain ⟨p,hp,rfl⟩:=List.mem_map.mp ha
  exact ⟨p,hp,rfl⟩
 case ok=>
  intro h₃ tk₃ rest₃ ps₃ W₃ hp₃ D₃
  k_steps
  obtain ⟨F₃,mk₃⟩:=after_done F₂ N₃ D₃ fun a ha=>by
   obtain ⟨p,hp,rfl⟩:=List.mem_map.mp ha
   exact ⟨p,hp,rfl⟩
  exact hok _ _ rest₃ ps₃ W₃ hp₃ (done_of hg F₃ (mk₃ _ fun p hp=>.inl hp) (fun p hp=>hp) D₃.dis)
theorem abort717 {w:World} {A:Around} {s:Shared} {B:Heap} {q:Tq} {st:Str} {ts:Tok} {items:Array Value} {vt vt₀:Addr} {ftb:Value} {R:Rp} {loose:List Str} {mean:ExcName→Option Value} {mg mb:Sm} {rest:Rest} {outer:List Env} {lg:Addr} {μs ml:List Mg} {σ:Addr→Ms} {rows:List (Str×Str)} {ps:Array Value}:Z0kP pq kept w A s B q st ts items vt vt₀ ftb R loose mean mg mb rest outer lg μs ml σ rows ps:=eps0 Z0kcq Z0kc rfl (by with_unfolding_all exact Z0kb.2 (fun g L' h₁=>eps0 Z0kdq Z0kd rfl (by with_unfolding_all exact Z0km) (g,L',h₁))) ((pq,kept,w,A,s,B),(q,st,ts,items,vt,vt₀),(ftb,R,loose,mean,mg,mb),(rest,outer,lg,μs,ml,σ),(rows,ps))
noncomputable def OwnAt (h₁ h:Heap) (xs:List Addr) (own:Rest):Prop:=∀ q∈own,h.get? q.1=some q.2∧h₁.get? q.1=none∧q.1∉xs
set_option genSizeOf false in
set_option genInjectivity false in
inductive CompHas (prog:Program) (w:World) (A:Around) (env:Env) (elt target:Expr) (ifs:List Expr) (scope:Scope) (cl:List (Str×Addr)) (p:Value→Bool) (P:Rest→Value→Value→Prop) (Bnd:Value→(Sm)→Prop) (s₁:Shared) (pre:Prop) (fin:Array Value→Prop) (xv:Value):Prop where
 | mk (l:Addr) (items:Array Value) (e:xv=.ref l) (hl:s₁.heap.IsList l items) (hsz:items.size ≤ sizeLine) (F:pre)
   (hasg:∀ C v s₂ m₂ E',v∈items.toList→s₁.heap.StaysIn s₂.heap→s₁.heap.get? C=none→s₂.heap.Ns C m₂→wpAny (model prog w) A (assign target (compEnvC scope cl C env) v) (fun _ s₃=>∃ h' tk m₃,s₃={ s₂ with heap:=h',toks:=tk }∧h'.Ns C m₃∧Bnd v m₃∧Heap.ExtBut C s₂.heap h') E' s₂)
   (htst:∀ C v s₂ m₂ E',v∈items.toList→s₁.heap.StaysIn s₂.heap→s₁.heap.get? C=none→s₂.heap.Ns C m₂→Bnd v m₂ →
    wpAny (model prog w) A (forIn ifs true fun c r=>if r=true then do let ok ←isTrue c (compEnvC scope cl C env) (eval c (compEnvC scope cl C env)); pure (ForInStep.yield ok) else pure (ForInStep.yield r)) (fun ok s₃=>ok=p v∧Keeps s₂ s₃) E' s₂)
   (helt:∀ C v s₂ m₂ E',v∈items.toList→p v=true→s₁.heap.StaysIn s₂.heap→s₁.heap.get? C=none→s₂.heap.Ns C m₂→Bnd v m₂ →
    wpAny (model prog w) A (eval elt (compEnvC scope cl C env)) (fun y s₃=>(∃ own,(∀ q∈own,s₂.heap.get? q.1=none∧s₃.heap.get? q.1=some q.2)∧P own v y)∧Keeps s₂ s₃) E' s₂)
   (hfin:fin items):CompHas prog w A env elt target ifs scope cl p P Bnd s₁ pre fin xv
section
variable {prog:Program} {w:World} {A:Around} {E:Vp} {s:Shared} {env:Env}
noncomputable def Goes (prog:Program) (w:World) (A:Around) (target:Expr):Prop:=∀ (I l:Addr) (i:Nat) (v:Value) (s:Shared) (Q:Unit→Shared→Prop) (E:Vp),s.heap.IsListIter I l i→Q () s→wpAny (model prog w) A (letOwnedTupleGo target (.ref I) v) Q E s
theorem goes_name {x:Str} {pos:Pos}:Goes prog w A (.Name x pos):=fun _ _ _ _ _ _ _ _ q=>wpAny_pure q
theorem goes_tuple {elts:List Expr} {x1:Nat} {pos:Pos}:Goes prog w A (.Tuple elts x1 pos):=fun I l i v s Q E hit q=>by
 cases v with
 | ref T=>exact wpAny_letOwnedTupleGo_listiter hit q
 | _=>exact wpAny_pure q
abbrev Z06P (prog:Program) (w:World) (A:Around) (s:Shared) (env:Env) (R:Rp) (elt target iter:Expr) (ifs:List Expr) (scope:Scope) (pos:Pos) (it l:Addr) (acc:Value):Prop:=∀ (G:Goes prog w A target) (I:Nat→Shared→Prop) (turn:∀ n s,I n s→wpAny (model prog w) A (pyNext (.ref it)) (fun r s₁=>match r with
   | none=>R (.ok .next) s₁
   | some v=>(∃ i,s₁.heap.IsListIter it l i)∧wpAny (model prog w) A (assign target env v) (fun _ s₂=>
     wpAny (model prog w) A (forIn ifs true fun c r=>if r=true then do let ok ←isTrue c env (eval c env); pure (ForInStep.yield ok) else pure (ForInStep.yield r)) (fun ok s₃=>
      if ok=true then wpAny (model prog w) A (eval elt env) (fun x s₄=>
       wpAny (model prog w) A (call (.builtin "list.append") [acc,x]) (fun _ s₅=>∃ m,m<n∧I m s₅) (notedBy (model prog w) A env fun e s'=>R (.error e) s') s₄) (notedBy (model prog w) A env fun e s'=>R (.error e) s') s₃
      else ∃ m,m<n∧I m s₃) (notedBy (model prog w) A env fun e s'=>R (.error e) s') s₂) (notedBy (model prog w) A env fun e s'=>R (.error e) s') s₁) (notedBy (model prog w) A env fun e s'=>R (.error e) s') s) (n:Nat) (h:I n s),codeAny (model prog w) A (.compLoop (.ListComp elt [⟨target,iter,ifs,0⟩] scope pos) 0 (.ref it) acc env) R s
abbrev Z06cq:=U fun a=>U fun b c=>T3 (T6 (T6 Z06P a) b) c
def Z06c:=eps Z06cq ⟨inferInstance⟩
theorem loop_goes {prog:Program} {w:World} {A:Around} {s:Shared} {env:Env} {R:Rp} {elt target iter:Expr} {ifs:List Expr} {scope:Scope} {pos:Pos} {it l:Addr} {acc:Value}:Z06P prog w A s env R elt target iter ifs scope pos it l acc:=eps0 Z06cq Z06c rfl (by
 show Z06P Z06c.1.1 Z06c.1.2.1 Z06c.1.2.2.1 Z06c.1.2.2.2.1 Z06c.1.2.2.2.2.1 Z06c.1.2.2.2.2.2 Z06c.2.1.1 Z06c.2.1.2.1 Z06c.2.1.2.2.1 Z06c.2.1.2.2.2.1 Z06c.2.1.2.2.2.2.1 Z06c.2.1.2.2.2.2.2 Z06c.2.2.1 Z06c.2.2.2.1 Z06c.2.2.2.2
 generalize Z06c.1.1=prog,Z06c.1.2.1=w,Z06c.1.2.2.1=A,Z06c.1.2.2.2.1=s,Z06c.1.2.2.2.2.1=env,Z06c.1.2.2.2.2.2=R,Z06c.2.1.1=elt,Z06c.2.1.2.1=target,Z06c.2.1.2.2.1=iter,Z06c.2.1.2.2.2.1=ifs,Z06c.2.1.2.2.2.2.1=scope,Z06c.2.1.2.2.2.2.2=pos,Z06c.2.2.1=it,Z06c.2.2.2.1=l,Z06c.2.2.2.2=acc
 intro G I turn n h
 refine codeAny_loop rfl I (fun n s hI=>?_) n h
 show wpAny _ A ((compTurn (.ListComp elt [⟨target,iter,ifs,0⟩] scope pos) 0 (.ref it) acc env).onRaise (fun x=>do noteFrame x env; theTreesLotGoes x)) _ _ s
 refine wpAny_noted ?_
 rw [compTurn_list]
 refine wpAny_bind (wpAny_standAt (wpAny_bind (wpAny_mono (turn n s hI) (fun r s₁ k=>?_) fun _ _ k=>k)))
 cases r with
 | none=>exact wpAny_pure k
 | some v=>
  obtain ⟨⟨i,hi⟩,k⟩:=k
  refine wpAny_bind (G it l i v s₁ _ _ hi ?_)
  refine wpAny_bind (wpAny_mono k (fun _ s₂ k=>wpAny_bind (wpAny_mono k (fun ok s₃ k=>?_) fun _ _ k=>k)) fun _ _ k=>k)
  cases ok with
  | false=>exact wpAny_pure ⟨rfl,k⟩
  | true=>exact wpAny_bind (wpAny_bind (wpAny_mono k (fun x s₄ k=>wpAny_bind (wpAny_mono k (fun _ s₅ k=>wpAny_pure (wpAny_pure ⟨rfl,k⟩)) fun _ _ k=>k)) fun _ _ k=>k))) ((prog,w,A,s,env,R),(elt,target,iter,ifs,scope,pos),(it,l,acc))
set_option genSizeOf false in
set_option genInjectivity false in
inductive CompJ (p:Value→Bool) (P:Rest→Value→Value→Prop) (items:Array Value) (l I D C:Addr) (s₁:Shared) (k:Nat) (s':Shared):Prop where
 | mk (i:Nat) (h':Heap) (tk:Nat) (m:Sm) (ys:Array Value) (n:Nat) (own:Rest) (f1:k+i=items.size) (f2:s'={ s₁ with heap:=h',toks:=tk }) (f3:s₁.heap.StaysIn h') (f4:h'.IsListIter I l i) (f5:h'.get? D=some (listOf ys n)) (f6:h'.Ns C m) (f7:OwnAt s₁.heap h' [I,D,C] own) (f8:Paired (P own) ((items.toList.take i).filter p) ys.toList):CompJ p P items l I D C s₁ k s'
abbrev Z07P (prog:Program) (w:World) (A:Around) (E:Vp) (s:Shared) (env:Env) (elt target iter:Expr) (ifs:List Expr) (scope:Scope) (cl:List (Str×Addr)) (pos pos':Pos) (Q:Vp):Prop:=∀ (use:Option (Value→Sem Unit)) (p:Value→Bool) (P:Rest→Value→Value→Prop) (Bnd:Value→(Sm)→Prop) (hmono:∀ own own' v y,(∀ q∈own,q∈own')→P own v y→P own' v y) (hh:A.handled=none) (hclos:closureFor scope env=pure cl) (hcell:∀ y∈scope.names,y.2≠.cell) (hkind:scope.kind=.function) (hnames:∀ y∈scope.names,y.2=.local→scope.names.lookup y.1=some .local) (hown:Goes prog w A target) (h:wpAny (model prog w) A (eval iter env) (fun xv s₁=>CompHas prog w A env elt target ifs scope cl p P Bnd s₁ (True) (fun items=>∀ D C n ys own h' tk m',s₁.heap.get? D=none→s₁.heap.get? C=none→D≠C→h'.Ns C m'→h'.get? D=some (listOf ys n)→OwnAt s₁.heap h' [D,C] own→Paired (P own) (items.toList.filter p) ys.toList→s₁.heap.StaysIn h'→compPost (model prog w) A E use Q (.ref D) C (.ok .next) { s₁ with heap:=h',toks:=tk }) xv) E s) (hs:∀ x,foldedSetIterable iter env x=pure x),wpAny (model prog w) A (comprehension (.ListComp elt [⟨target,iter,ifs,0⟩] scope pos) scope env pos' (newList []) false (eval iter env) use) Q E s
abbrev Z07cq:=U fun a=>U fun b c=>T3 (T6 (T6 Z07P a) b) c
def Z07c:=eps Z07cq ⟨inferInstance⟩
theorem comp_core {prog:Program} {w:World} {A:Around} {E:Vp} {s:Shared} {env:Env} {elt target iter:Expr} {ifs:List Expr} {scope:Scope} {cl:List (Str×Addr)} {pos pos':Pos} {Q:Vp}:Z07P prog w A E s env elt target iter ifs scope cl pos pos' Q:=eps0 Z07cq Z07c rfl (by
 show Z07P Z07c.1.1 Z07c.1.2.1 Z07c.1.2.2.1 Z07c.1.2.2.2.1 Z07c.1.2.2.2.2.1 Z07c.1.2.2.2.2.2 Z07c.2.1.1 Z07c.2.1.2.1 Z07c.2.1.2.2.1 Z07c.2.1.2.2.2.1 Z07c.2.1.2.2.2.2.1 Z07c.2.1.2.2.2.2.2 Z07c.2.2.1 Z07c.2.2.2.1 Z07c.2.2.2.2
 generalize Z07c.1.1=prog,Z07c.1.2.1=w,Z07c.1.2.2.1=A,Z07c.1.2.2.2.1=E,Z07c.1.2.2.2.2.1=s,Z07c.1.2.2.2.2.2=env,Z07c.2.1.1=elt,Z07c.2.1.2.1=target,Z07c.2.1.2.2.1=iter,Z07c.2.1.2.2.2.1=ifs,Z07c.2.1.2.2.2.2.1=scope,Z07c.2.1.2.2.2.2.2=cl,Z07c.2.2.1=pos,Z07c.2.2.2.1=pos',Z07c.2.2.2.2=Q
 intro use p P Bnd hmono hh hclos hcell hkind hnames hown h hs
 refine wpAny_comprehension_free (use:=use) rfl hs hclos hkind hnames (wpAny_mono h (fun xv s₁ h₁=>?_) fun _ _ e=>e)
 obtain ⟨l,items,rfl,hl,hsz,-,hasg,htst,helt,hQ⟩:=h₁
 refine wpAny_pyIter_list hl ?_
 refine wpAny_newObj_type (wpAny_newFunctionEnv hcell (by intro y hy; simp at hy) (fun h₁ hns₁ hsb₁=>?_) hkind)
 dsimp only at hns₁ hsb₁ ⊢
 obtain ⟨ol,hol,hol'⟩:=id hl
 have hax:l<s₁.heap.objs.size:=Heap.lt_size hol
 obtain ⟨I,hI⟩:∃ I,I=s₁.heap.objs.size:=⟨_,rfl⟩
 generalize hH1:s₁.heap.push { cls:=.type "list_iterator",data:=.fields #[.ref l,.int 0 0] }=H1 at hns₁ hsb₁ ⊢
 obtain ⟨D,hD⟩:∃ D,D=H1.objs.size:=⟨_,rfl⟩
 generalize hH2:H1.push { cls:=.type "list",dict:=none,data:=.seq ([]:List Value).toArray }=H2 at hns₁ hsb₁ ⊢
 obtain ⟨C,hC⟩:∃ C,C=H2.objs.size:=⟨_,rfl⟩
 rw [←hC] at hns₁ hsb₁ ⊢
 rw [←hI,←hD]
 have eD:D=I+1:=by rw [hD,←hH1,Heap.size_push,hI]
 have eC:C=I+2:=by rw [hC,←hH2,Heap.size_push,←hD,eD]
 have nDI:D≠I:=by rw [eD]; exact Nat.succ_ne_self _
 have nDC:D≠C:=by rw [eD,eC]; exact Nat.ne_of_lt (Nat.lt_succ_self _)
 have nIC:I≠C:=by rw [eC]; exact Nat.ne_of_lt (Nat.lt_succ_of_lt (Nat.lt_succ_self _))
 have low:∀ {b o},s₁.heap.get? b=some o→b≠I∧b≠D∧b≠C:=fun {b o} e=>by
  have:=Heap.lt_size e
  rw [←hI] at this
  refine ⟨Nat.ne_of_lt this,?_,?_⟩
  ·rw [eD]; exact Nat.ne_of_lt (Nat.lt_succ_of_lt this)
  ·rw [eC]; exact Nat.ne_of_lt (Nat.lt_succ_of_lt (Nat.lt_succ_of_lt this))
 have old:s₁.heap.StaysIn h₁:=fun b o e=>hsb₁.extBut b o (low e).2.2 (Heap.get?_push_of_some _ (hH2 ▸ Heap.get?_push_of_some _ (hH1 ▸ Heap.get?_push_of_some _ e)))
 have fr:∀ a,I ≤ a→s₁.heap.get? a=none:=fun a ha=>by
  cases e:s₁.heap.get? a with
  | none=>rfl
  | some o=>exact absurd (Heap.lt_size e) (Nat.not_lt.mpr (hI ▸ ha))
 have fD:s₁.heap.get? D=none:=fr _ (by rw [eD]; exact Nat.le_succ _)
 have fC:s₁.heap.get? C=none:=fr _ (by rw [eC]; exact Nat.le_add_right _ _)
 have hit:h₁.IsListIter I l 0:=⟨_,hsb₁.extBut _ _ nIC (Heap.get?_push_of_some _ (hH2 ▸ Heap.get?_push_of_some _ (hH1 ▸ hI ▸ Heap.get?_push_size _ rfl))),rfl,rfl⟩
 have hacc:h₁.get? D=some (listOf #[] 0):=hsb₁.extBut _ _ nDC (Heap.get?_push_of_some _ (hH2 ▸ hD ▸ Heap.get?_push_size _ rfl))
 have fI:s₁.heap.get? I=none:=fr _ (Nat.le_refl _)
 have loop:∀ s₂:Shared,s₂={ s₁ with heap:=h₁,toks:=s₁.toks+([]:List (Str×Value)).length } →
   codeAny (model prog w) A (.compLoop (.ListComp elt [⟨target,iter,ifs,0⟩] scope pos) 0 (.ref I) (.ref D) (compEnvC scope cl C env)) (compPost (model prog w) A E use Q (.ref D) C) s₂:=by
  rintro s₂ rfl
  refine loop_goes (l:=l) hown (fun k s'=>CompJ p P items l I D C s₁ k s') ?_ items.size ⟨0,h₁,_,_,#[],0,[],rfl,rfl,old,hit,hacc,hns₁,(fun q hq=>nomatch hq),.nil⟩
  rintro k s' ⟨i,H,tk,m,ys,n,own,hk,rfl,st,hit',hacc',hn',ho,hP⟩
  have hl':H.IsList l items:=⟨ol,st _ _ hol,hol'⟩
  have lI:∀ {b},b∈[I,D,C]→s₁.heap.get? b=none:=fun {b} hb=>by
   simp only [List.mem_cons,List.not_mem_nil,or_false] at hb
   rcases hb with rfl|rfl|rfl
   ·exact fI
   ·exact fD
   ·exact fC
  have turn:∀ {X:Addr} {H H':Heap} {own:Rest},X∈[I,D,C]→Heap.ExtBut X H H'→s₁.heap.StaysIn H→OwnAt s₁.heap H [I,D,C] own→s₁.heap.StaysIn H'∧OwnAt s₁.heap H' [I,D,C] own:=fun {X H H' own} hX hs st ho=>
   ⟨fun b o e=>hs b o (fun q=>by rw [q,lI hX] at e; cases e) (st b o e),fun q hq=>⟨hs _ _ (fun e=>(ho q hq).2.2 (e ▸ hX)) (ho q hq).1,(ho q hq).2⟩⟩
  cases hv:items[i]? with
  | none=>
   have hi:items.size ≤ i:=Array.getElem?_eq_none_iff.mp hv
   obtain rfl:i=items.size:=cnt_end hk hi
   refine wpAny_pyNext_list_end hh hit' hl' hv fun h' he=>?_
   have hn2:h'.Ns C m:=hn'.extBut he (Ne.symm nIC)
   rw [List.take_of_length_le (by rw [Array.length_toList]; exact Nat.le_refl _)] at hP
   refine hQ D C n ys own h' tk m fD fC nDC hn2 (he _ _ nDI hacc') (fun q hq=>?_) hP fun b o e=>he b o (fun q=>by rw [q,fI] at e; cases e) (st b o e)
   have c:=ho q hq
   exact ⟨he _ _ (fun e=>c.2.2 (e ▸ .head _)) c.1,c.2.1,fun hm=>c.2.2 (.tail _ hm)⟩
  | some v=>
   have hi:i<items.size:=(Array.getElem?_eq_some_iff.mp hv).1
   have hvm:v∈items.toList:=Array.mem_toList_iff.mpr (Array.mem_of_getElem? hv)
   have hv':items.toList[i]?=some v:=by rw [Array.getElem?_toList]; exact hv
   refine wpAny_pyNext_list_item hit' hl' hv fun h₂ hi₂ hs₂=>?_
   obtain ⟨st₂,ho₂⟩:=turn (.head _) hs₂.extBut st ho
   have ha₂:h₂.get? D=some (listOf ys n):=hs₂.extBut _ _ nDI hacc'
   have hn₂:h₂.Ns C m:=hn'.sameBut hs₂ (Ne.symm nIC)
   refine ⟨⟨_,hi₂⟩,?_⟩
   refine wpAny_mono (hasg C v { s₁ with heap:=h₂,toks:=tk } m _ hvm st₂ fC hn₂) (fun _ s₃ q=>?_) fun _ _ x=>x
   obtain ⟨h₃,tk₃,m₃,rfl,hn₃,hb₃,hs₃⟩:=q
   obtain ⟨st₃,ho₃⟩:=turn eM2 hs₃ st₂ ho₂
   have ha₃:h₃.get? D=some (listOf ys n):=hs₃ _ _ nDC ha₂
   have hi₃:h₃.IsListIter I l (i+1):=hi₂.extBut hs₃ nIC
   refine wpAny_mono (htst C v { s₁ with heap:=h₃,toks:=tk₃ } m₃ _ hvm st₃ fC hn₃ hb₃) (fun ok s₄ q=>?_) fun _ _ x=>x
   obtain ⟨rfl,h₄,tk₄,rfl,kp₄⟩:=q
   have st₄:s₁.heap.StaysIn h₄:=fun b o e=>kp₄ b o (st₃ b o e)
   have ho₄:OwnAt s₁.heap h₄ [I,D,C] own:=fun q hq=>⟨kp₄ _ _ (ho₃ q hq).1,(ho₃ q hq).2⟩
   have tk1:=take_succ_filter p items.toList i v hv'
   cases hp:p v with
   | false=>
    rw [if_neg (by simp)]
    rw [hp,if_neg (by simp),List.append_nil] at tk1
    exact ⟨k - 1,cnt_less hk hi,i+1,h₄,tk₄,m₃,ys,n,own,cnt_next hk hi,rfl,st₄,hi₃.at (fun o e=>kp₄ _ o e),kp₄ _ _ ha₃,hn₃.keeps kp₄,ho₄,by rw [tk1]; exact hP⟩
   | true=>
    rw [if_pos rfl]
    rw [hp,if_pos rfl] at tk1
    refine wpAny_mono (helt C v { s₁ with heap:=h₄,toks:=tk₄ } m₃ _ hvm hp st₄ fC (hn₃.keeps kp₄) hb₃) (fun y s₅ q=>?_) fun _ _ x=>x
    obtain ⟨⟨ow,how,hPy⟩,h₅,tk₅,rfl,kp₅⟩:=q
    have ha₅:h₅.get? D=some (listOf ys n):=kp₅ _ _ (kp₄ _ _ ha₃)
    have hysz:ys.size ≤ sizeLine:=by
     have e1:=hP.length
     have e2:=List.length_filter_le p (items.toList.take i)
     rw [List.length_take] at e2
     have e3:ys.toList.length=ys.size:=by simp
     have e4:items.toList.length=items.size:=by simp
     omega
    refine append_at (hsz:=hysz) ha₅ fun h₆ hs₆ ha₆=>?_
    have st₅:s₁.heap.StaysIn h₅:=fun b o e=>kp₅ b o (st₄ b o e)
    have ho₅:OwnAt s₁.heap h₅ [I,D,C] (ow++own):=fun q hq=>by
     rcases List.mem_append.mp hq with hq|hq
     ·have c:=how q hq
      refine ⟨c.2,?_,fun hm=>?_⟩
      ·cases z:s₁.heap.get? q.1 with
       | none=>rfl
       | some o=>have:=st₄ _ _ z; rw [c.1] at this; cases this
      ·simp only [List.mem_cons,List.not_mem_nil,or_false] at hm
       rcases hm with e|e|e
       ·obtain ⟨oi,hoi,_⟩:=hi₃.at (fun o e=>kp₄ _ o e)
        have:=c.1; dsimp only at this; rw [e,hoi] at this; cases this
       ·have:=c.1; dsimp only at this; rw [e,kp₄ _ _ ha₃] at this; cases this
       ·obtain ⟨oc,_,_,hoc,_⟩:=hn₃.keeps kp₄
        have:=c.1; dsimp only at this; rw [e,hoc] at this; cases this
     ·exact ⟨kp₅ _ _ (ho₄ q hq).1,(ho₄ q hq).2⟩
    obtain ⟨st₆,ho₆⟩:=turn eM1 hs₆.extBut st₅ ho₅
    refine ⟨k - 1,cnt_less hk hi,i+1,h₆,tk₅,m₃,ys.push y,n+1,ow++own,cnt_next hk hi,rfl,st₆,((hi₃.at (fun o e=>kp₄ _ o e)).at (fun o e=>kp₅ _ o e)).extBut hs₆.extBut (Ne.symm nDI),ha₆,((hn₃.keeps kp₄).keeps kp₅).sameBut hs₆ (Ne.symm nDC),ho₆,?_⟩
    rw [tk1,Array.toList_push]
    exact Paired.snoc (hP.mono fun a b=>hmono own (ow++own) a b fun q hq=>List.mem_append_right _ hq) (hmono ow (ow++own) v y (fun q hq=>List.mem_append_left _ hq) hPy)
 exact codeAny_compStart_list (loop _ rfl) (wpAny_pyIter_listiter hit (loop _ rfl))) ((prog,w,A,E,s,env),(elt,target,iter,ifs,scope,cl),(pos,pos',Q))
abbrev Z0bP (prog:Program) (w:World) (A:Around) (E:Vp) (s:Shared) (env:Env) (elt target iter:Expr) (ifs:List Expr) (scope:Scope) (cl:List (Str×Addr)) (pos:Pos) (Q:Vp):Prop:=∀ (p:Value→Bool) (P:Rest→Value→Value→Prop) (Bnd:Value→(Sm)→Prop) (hmono:∀ own own' v y,(∀ q∈own,q∈own')→P own v y→P own' v y) (hh:A.handled=none) (hclos:closureFor scope env=pure cl) (hcell:∀ y∈scope.names,y.2≠.cell) (hkind:scope.kind=.function) (hnames:∀ y∈scope.names,y.2=.local→scope.names.lookup y.1=some .local) (hown:Goes prog w A target) (h:wpAny (model prog w) A (eval iter env) (fun xv s₁=>CompHas prog w A env elt target ifs scope cl p P Bnd s₁ (True) (fun items=>∀ D n ys own h' tk,s₁.heap.get? D=none→h'.get? D=some (listOf ys n)→OwnAt s₁.heap h' [D] own→Paired (P own) (items.toList.filter p) ys.toList→s₁.heap.StaysIn h'→Q (.ref D) { s₁ with heap:=h',toks:=tk }) xv) E s) (hs:∀ x,foldedSetIterable iter env x=pure x),wpAny (model prog w) A (eval (.ListComp elt [⟨target,iter,ifs,0⟩] scope pos) env) Q E s
abbrev Z0bcq:=U fun a=>U fun b c=>T2 (T6 (T6 Z0bP a) b) c
def Z0bc:=eps Z0bcq ⟨inferInstance⟩
theorem comp_list {prog:Program} {w:World} {A:Around} {E:Vp} {s:Shared} {env:Env} {elt target iter:Expr} {ifs:List Expr} {scope:Scope} {cl:List (Str×Addr)} {pos:Pos} {Q:Vp}:Z0bP prog w A E s env elt target iter ifs scope cl pos Q:=eps0 Z0bcq Z0bc rfl (by
 show Z0bP Z0bc.1.1 Z0bc.1.2.1 Z0bc.1.2.2.1 Z0bc.1.2.2.2.1 Z0bc.1.2.2.2.2.1 Z0bc.1.2.2.2.2.2 Z0bc.2.1.1 Z0bc.2.1.2.1 Z0bc.2.1.2.2.1 Z0bc.2.1.2.2.2.1 Z0bc.2.1.2.2.2.2.1 Z0bc.2.1.2.2.2.2.2 Z0bc.2.2.1 Z0bc.2.2.2
 generalize Z0bc.1.1=prog,Z0bc.1.2.1=w,Z0bc.1.2.2.1=A,Z0bc.1.2.2.2.1=E,Z0bc.1.2.2.2.2.1=s,Z0bc.1.2.2.2.2.2=env,Z0bc.2.1.1=elt,Z0bc.2.1.2.1=target,Z0bc.2.1.2.2.1=iter,Z0bc.2.1.2.2.2.1=ifs,Z0bc.2.1.2.2.2.2.1=scope,Z0bc.2.1.2.2.2.2.2=cl,Z0bc.2.2.1=pos,Z0bc.2.2.2=Q
 intro p P Bnd hmono hh hclos hcell hkind hnames hown h hs
 rw [eval_ListComp]
 refine comp_core (use:=none) p P Bnd hmono hh hclos hcell hkind hnames hown (wpAny_mono h (fun xv s₁ hz=>?_) fun _ _ e=>e) hs
 obtain ⟨l,items,e,hl,hsz,-,ha,ht,he,hQ⟩:=hz
 refine ⟨l,items,e,hl,hsz,trivial,ha,ht,he,fun D C n ys own h' tk m' fD fC nDC hn hD ho hP st=>⟨m',hn,fun h'' hs''=>hQ D n ys own h'' tk fD (hs''.extBut _ _ nDC hD) (fun q hq=>?_) hP fun b o e=>hs''.extBut b o (fun q=>by rw [q,fC] at e; cases e) (st b o e)⟩⟩
 have c:=ho q hq
 exact ⟨hs''.extBut _ _ (fun e=>c.2.2 (e ▸ eM1)) c.1,c.2.1,fun hm=>c.2.2 (List.mem_singleton.mp hm ▸ .head _)⟩) ((prog,w,A,E,s,env),(elt,target,iter,ifs,scope,cl),(pos,Q))
abbrev Z02P (prog:Program) (w:World) (A:Around) (E:Vp) (s:Shared) (env:Env) (elt target iter:Expr) (ifs:List Expr) (scope:Scope) (cl:List (Str×Addr)) (pos py spos:Pos) (y:Str) (g:Heap) (L:Addr) (m:Sm) (Q:Fp):Prop:=∀ (p:Value→Bool) (P:Rest→Value→Value→Prop) (Bnd:Value→(Sm)→Prop) (hmono:∀ own own' v y,(∀ q∈own,q∈own')→P own v y→P own' v y) (hh:A.handled=none) (hLe:env.locals=L) (hsw:swapsWith (.ListComp elt [⟨target,iter,ifs,0⟩] scope pos) (some (.Name y py)) spos.line env=pure true) (hclos:closureFor scope env=pure cl) (hcell:∀ y∈scope.names,y.2≠.cell) (hkind:scope.kind=.function) (hnames:∀ y∈scope.names,y.2=.local→scope.names.lookup y.1=some .local) (hown:Goes prog w A target) (hy:env.kindOf y=some .local) (hp:(env.scope.kind == .class || (env.scope.kind == .module && env.locals != env.globals))=false) (h:wpAny (model prog w) A (eval iter env) (fun xv s₁=>CompHas prog w A env elt target ifs scope cl p P Bnd s₁ (Fr g L s₁.heap m) (fun items=>∀ D n ys own h' tk,s₁.heap.get? D=none→h'.get? D=some (listOf ys n)→OwnAt s₁.heap h' [D] own→Paired (P own) (items.toList.filter p) ys.toList→Mod [L] s₁.heap h'→Fr g L h' (fun z=>if z=y then some (.ref D) else m z)→Q .next { s₁ with heap:=h',toks:=tk }) xv) E s) (hs:∀ x,foldedSetIterable iter env x=pure x),wpAny (model prog w) A (exec (.Assign [.Name y py] (.ListComp elt [⟨target,iter,ifs,0⟩] scope pos) spos) env) Q E s
abbrev Z02cq:=U fun a=>U fun b=>U fun c d=>T2 (T6 (T6 (T6 Z02P a) b) c) d
def Z02c:=eps Z02cq ⟨inferInstance⟩
theorem comp_assign {prog:Program} {w:World} {A:Around} {E:Vp} {s:Shared} {env:Env} {elt target iter:Expr} {ifs:List Expr} {scope:Scope} {cl:List (Str×Addr)} {pos py spos:Pos} {y:Str} {g:Heap} {L:Addr} {m:Sm} {Q:Fp}:Z02P prog w A E s env elt target iter ifs scope cl pos py spos y g L m Q:=eps0 Z02cq Z02c rfl (by
 show Z02P Z02c.1.1 Z02c.1.2.1 Z02c.1.2.2.1 Z02c.1.2.2.2.1 Z02c.1.2.2.2.2.1 Z02c.1.2.2.2.2.2 Z02c.2.1.1 Z02c.2.1.2.1 Z02c.2.1.2.2.1 Z02c.2.1.2.2.2.1 Z02c.2.1.2.2.2.2.1 Z02c.2.1.2.2.2.2.2 Z02c.2.2.1.1 Z02c.2.2.1.2.1 Z02c.2.2.1.2.2.1 Z02c.2.2.1.2.2.2.1 Z02c.2.2.1.2.2.2.2.1 Z02c.2.2.1.2.2.2.2.2 Z02c.2.2.2.1 Z02c.2.2.2.2
 generalize Z02c.1.1=prog,Z02c.1.2.1=w,Z02c.1.2.2.1=A,Z02c.1.2.2.2.1=E,Z02c.1.2.2.2.2.1=s,Z02c.1.2.2.2.2.2=env,Z02c.2.1.1=elt,Z02c.2.1.2.1=target,Z02c.2.1.2.2.1=iter,Z02c.2.1.2.2.2.1=ifs,Z02c.2.1.2.2.2.2.1=scope,Z02c.2.1.2.2.2.2.2=cl,Z02c.2.2.1.1=pos,Z02c.2.2.1.2.1=py,Z02c.2.2.1.2.2.1=spos,Z02c.2.2.1.2.2.2.1=y,Z02c.2.2.1.2.2.2.2.1=g,Z02c.2.2.1.2.2.2.2.2=L,Z02c.2.2.2.1=m,Z02c.2.2.2.2=Q
 intro p P Bnd hmono hh hLe hsw hclos hcell hkind hnames hown hy hp h hs
 subst hLe
 rw [exec_Assign_Name_used _ _ _ _ hsw]
 refine wpAny_bind (wpAny_standAt (wpAny_bind ?_))
 show wpAny _ A (do let _ ←comprehension (.ListComp elt [⟨target,iter,ifs,0⟩] scope pos) scope env _ (newList []) false (eval iter env) (some (assign (.Name y py) env))) _ _ s
 refine wpAny_bind (wpAny_mono (comp_core (use:=some (assign (.Name y py) env)) (Q:=fun _ s'=>Q .next s') p P Bnd hmono hh hclos hcell hkind hnames hown (wpAny_mono h (fun xv s₁ hz=>?_) fun _ _ e=>e) hs) (fun _ s' hq=>wpAny_pure (wpAny_pure hq)) fun _ _ e=>e)
 obtain ⟨l,items,e,hl,hsz,F₁,ha,ht,he,hQ⟩:=hz
 refine ⟨l,items,e,hl,hsz,trivial,ha,ht,he,fun D C n ys own h' tk m' fD fC nDC hn hD ho hP st=>?_⟩
 have hL₀:g.get? env.locals=none:=Heap.get?_none_of_le F₁.above
 obtain ⟨oL,esL,epL,hoL,rL⟩:=F₁.ns
 have nL:∀ {a:Addr},s₁.heap.get? a=none→a≠env.locals:=fun {a} e q=>by rw [q,hoL] at e; cases e
 have Fn:h'.Ns env.locals m:=⟨oL,esL,epL,st _ _ hoL,rL⟩
 show wpAny _ A (assign (.Name y py) env (.ref D)) _ _ _
 refine wpAny_assign_Name (wpAny_storeName_local hy Fn (fun h₂ hn₂ hs₂=>?_) hp)
 refine ⟨m',hn.sameBut hs₂ (Ne.symm (nL fC)).symm,fun h'' hs''=>?_⟩
 have nCL:env.locals≠C:=Ne.symm (nL fC)
 refine hQ D n ys own h'' _ fD (hs''.extBut _ _ nDC (hs₂.extBut _ _ (nL fD) hD)) (fun q hq=>?_) hP (fun b o e nb=>?_) ⟨hn₂.sameBut hs'' nCL,fun b o e=>?_,F₁.above⟩
 ·have c:=ho q hq
  exact ⟨hs''.extBut _ _ (fun e=>c.2.2 (e ▸ eM1)) (hs₂.extBut _ _ (nL c.2.1) c.1),c.2.1,fun hm=>c.2.2 (List.mem_singleton.mp hm ▸ .head _)⟩
 ·exact hs''.extBut b o (fun q=>by rw [q,fC] at e; cases e) (hs₂.extBut b o (fun q=>nb (q ▸ .head _)) (st b o e))
 ·have e':=F₁.keep b o e
  exact hs''.extBut b o (fun q=>by rw [q,fC] at e'; cases e') (hs₂.extBut b o (fun q=>by rw [q,hL₀] at e; cases e) (st b o e'))) ((prog,w,A,E,s,env),(elt,target,iter,ifs,scope,cl),(pos,py,spos,y,g,L),(m,Q))
end
noncomputable abbrev scR:Scope:={ kind:=.function,names:=[(Str.ofString "order",.local),(Str.ofString "keys",.local),(Str.ofString "values",.local),(Str.ofString "seed",.local),(Str.ofString "log",.local),(Str.ofString "managers",.local),(Str.ofString "owner",.local),(Str.ofString "k",.local),(Str.ofString "kind",.local),(Str.ofString "step",.local),(Str.ofString "transaction",.local),(Str.ofString "error",.local),(Str.ofString "rows",.local),(Str.ofString "shown",.local),(Str.ofString "later",.local),(Str.ofString "TransactionManager",.globalImplicit),(Str.ofString "range",.globalImplicit),(Str.ofString "len",.globalImplicit),(Str.ofString "Manager",.globalImplicit),(Str.ofString "PlainManager",.globalImplicit),(Str.ofString "Refusal",.globalImplicit),(Str.ofString "Passing",.globalImplicit),(Str.ofString "list",.globalImplicit)],isGenerator:=false,isCoroutine:=false,more:=["order", "keys", "values", "seed", "log", "managers", "owner", "k", "kind", "step", "transaction", "error", "manager", "rows", "shown", "later"].map fun x=>(Str.ofString "fast",Const.str (Str.ofString x)) }
noncomputable abbrev enR (L':Addr):Env:=envOf (Str.ofString "_law_run") scR L' 972 (.ref 971)
noncomputable abbrev frR (o k v s lg mgs ow:Value):Sm:=fun y=>if y=Str.ofString "owner" then some ow else if y=Str.ofString "managers" then some mgs else if y=Str.ofString "log" then some lg else if y=Str.ofString "seed" then some s else if y=Str.ofString "values" then some v else if y=Str.ofString "keys" then some k else if y=Str.ofString "order" then some o else none
noncomputable abbrev mW (rk rn:Option Value) (m₀:Sm):Sm:=fun y=>if y=Str.ofString "k" then rk else if y=Str.ofString "kind" then rn else m₀ y
theorem lookup_if {y a:Str} {v:Value} {l:List (Str×Value)}:List.lookup y ((a,v)::l)=if y=a then some v else List.lookup y l:=by
 rw [List.lookup_cons]
 by_cases h:y=a
 ·rw [if_pos h,h]; simp
 ·rw [if_neg h,beq_eq_false_iff_ne.mpr h]
noncomputable def σ0:Addr→Ms:=fun _=>⟨0,0,none⟩
noncomputable def whoAt (k:Nat):Str:=Txt.item (Str.ofString "abcde") (k:Int)
noncomputable def IntsAt (a:Array Value) (xs:List Int):Prop:=Paired (fun v n=>∃ t,v=.int n t) a.toList xs
theorem IntsAt.len {a:Array Value} {xs:List Int} (h:IntsAt a xs):a.size=xs.length:=by
 have:=h.length
 rw [Array.length_toList] at this
 exact this
theorem IntsAt.at {a:Array Value} {xs:List Int} (h:IntsAt a xs) {i:Nat} (hi:i<xs.length):∃ t,a[i]?=some (.int (xs.getD i 0) t):=by
 unfold IntsAt at h
 rw [←Array.getElem?_toList]
 generalize a.toList=l at h
 induction h generalizing i with
 | nil=>exact absurd hi (Nat.not_lt_zero _)
 | cons hxy _ ih=>
  cases i with
  | zero=>obtain ⟨t,rfl⟩:=hxy; exact ⟨t,rfl⟩
  | succ i=>exact ih (Nat.lt_of_succ_lt_succ hi)
theorem wd_add {w:World} {lg:Addr} {μs:List Mg} {σ:Addr→Ms} {rows:List (Str×Str)} {rest:Rest} (W:Wd kept w lg μs σ rows rest) {μ:Mg} {op:Obj} {t5 t6:Tok} (hC:μ.C=897 ∨ μ.C=923) (hD:μ.D=[]) (hop:op.IsDictOf (strKind P2 w) []) (hl:(μ.pl == sysModules)=false)
  (hs:σ μ.M=⟨0,0,none⟩) (n1:μ.M≠μ.d) (n2:μ.M≠μ.pl) (n3:μ.d≠μ.pl) (f1:μ.M∉rest.map (·.1)) (f2:μ.d∉rest.map (·.1)) (f3:μ.pl∉rest.map (·.1)) :
  Wd kept w lg (μs++[μ]) σ rows ((μ.M,instObj μ.C μ.d)::(μ.d,mgDict lg μ ⟨0,0,none⟩ t5 t6 .none)::(μ.pl,op)::rest):=by
 have up:∀ {p:Addr×Obj},p∈rest→p∈(μ.M,instObj μ.C μ.d)::(μ.d,mgDict lg μ ⟨0,0,none⟩ t5 t6 .none)::(μ.pl,op)::rest:=fun h=>eT3 h
 have nr:∀ {ν:Mg},ν∈μs→ν.M∈rest.map (·.1)∧ν.d∈rest.map (·.1)∧ν.pl∈rest.map (·.1):=fun {ν} hν=>by
  have P:=W.mg ν hν
  obtain ⟨op',kvs,hp,_⟩:=P.plan
  obtain ⟨_,_,_,hd,_⟩:=P.dict
  exact ⟨List.mem_map_of_mem (f:=(·.1)) P.inst,List.mem_map_of_mem (f:=(·.1)) hd,List.mem_map_of_mem (f:=(·.1)) hp⟩
 have sp:∀ {ν:Mg},ν∈μs++[μ]→ν∈μs ∨ ν=μ:=fun h=>(List.mem_append.mp h).imp id List.mem_singleton.mp
 refine ⟨?_,?_,fun ν hν=>?_,fun a ha b hb e=>?_,fun a ha b hb e=>?_,fun a ha b hb e=>?_,fun p hp=>⟨up (W.stay p hp).1,(W.stay p hp).2⟩⟩
 ·simp only [List.map_cons,List.nodup_cons,List.mem_cons,not_or]
  exact ⟨⟨n1,n2,f1⟩,⟨n3,f2⟩,f3,W.nd⟩
 ·obtain ⟨items,k,hlg,hr⟩:=W.log
  exact ⟨items,k,up hlg,hr.imp fun v r ⟨T,ta,tb,e,hm⟩=>⟨T,ta,tb,e,up hm⟩⟩
 ·rcases sp hν with hν|rfl
  ·have P:=W.mg ν hν
   obtain ⟨op',kvs,hp,hq⟩:=P.plan
   obtain ⟨t5',t6',rv,hd,hr⟩:=P.dict
   exact ⟨P.cls,up P.inst,⟨op',kvs,up hp,hq⟩,P.low,t5',t6',rv,up hd,fun v hv=>by
    obtain ⟨r,tr,kr,e,nr,hm⟩:=hr v hv
    exact ⟨r,tr,kr,e,nr,up hm⟩⟩
  ·refine ⟨hC,.head _,⟨op,[],eM2,?_,?_⟩,hl,t5,t6,.none,?_,fun v hv=>?_⟩
   ·exact hop
   ·rw [hD]
    exact .nil
   ·rw [hs]; exact eM1
   ·rw [hs] at hv; cases hv
 ·rcases sp ha with ha'|ea<;>rcases sp hb with hb'|eb
  ·exact W.ndM a ha' b hb' e
  ·exact (f1 (eb ▸ e ▸ (nr ha').1)).elim
  ·exact (f1 (ea ▸ e ▸ (nr hb').1)).elim
  ·exact ea.trans eb.symm
 ·rcases sp ha with ha'|ea<;>rcases sp hb with hb'|eb
  ·exact W.ndd a ha' b hb' e
  ·exact (f2 (eb ▸ e ▸ (nr ha').2.1)).elim
  ·exact (f2 (ea ▸ e ▸ (nr hb').2.1)).elim
  ·exact ea.trans eb.symm
 ·rcases sp ha with ha'|ea<;>rcases sp hb with hb'|eb
  ·exact W.ndp a ha' b hb' e
  ·exact f3 (eb ▸ e ▸ (nr ha').2.1)
  ·exact f2 (ea ▸ e ▸ (nr hb').2.2)
  ·rw [ea,eb] at e; exact n3 e
set_option genSizeOf false in
set_option genInjectivity false in
structure JM (w:World) (lg:Addr) (ks:List Int) (i:Nat) (μs:List Mg) (mi:Array Value) (rest:Rest):Prop where
 wd:Wd [] w lg μs σ0 [] rest
 mi:mi.toList=μs.map fun μ=>.ref μ.M
 len:μs.length=i
 at_:∀ j μ,μs[j]?=some μ→μ.who=whoAt j∧μ.key=ks.getD j 0∧μ.D=[]
 pos:∀ μ∈μs,@LT.lt Nat _ 0 μ.M
 nodup:(μs.map (·.M)).Nodup
 plne:∀ μ∈μs,∀ ν∈μs,μ.pl=ν.pl→μ=ν
theorem mW_none {m:Sm} (h1:m (Str.ofString "k")=none) (h2:m (Str.ofString "kind")=none) (y:Str):m y=mW none none m y:=by
 show _=if y=_ then _ else if y=_ then _ else _
 by_cases e1:y=Str.ofString "k"
 ·rw [if_pos e1,e1,h1]
 rw [if_neg e1]
 by_cases e2:y=Str.ofString "kind"
 ·rw [if_pos e2,e2,h2]
 rw [if_neg e2]
theorem mW_set {a b rk rn:Option Value} {m:Sm} (y:Str):(if y=Str.ofString "kind" then a else if y=Str.ofString "k" then b else mW rk rn m y)=mW b a m y:=by
 show _=if y=_ then _ else if y=_ then _ else _
 by_cases e1:y=Str.ofString "kind"
 ·rw [if_pos e1,if_neg (by rw [e1]; decide),if_pos e1]
 rw [if_neg e1]
 by_cases e2:y=Str.ofString "k"
 ·rw [if_pos e2,if_pos e2]
 rw [if_neg e2,if_neg e2,if_neg e1]
 show (if y=_ then _ else if y=_ then _ else _)=_
 rw [if_neg e2,if_neg e1]
theorem JM.add {w:World} {lg:Addr} {ks:List Int} {i:Nat} {μs:List Mg} {mi:Array Value} {rest:Rest} (J:JM w lg ks i μs mi rest) {C M d pl:Addr} {x:Mk} {tw tk t5 t6:Tok} {op:Obj} (hC:C=897 ∨ C=923) (hop:op.IsDictOf (strKind P2 w) []) (hl:(pl == sysModules)=false)
  (n1:@LT.lt Nat _ d M) (n2:@LT.lt Nat _ pl d) (f:∀ p∈rest,@LT.lt Nat _ p.1 pl) :
  JM w lg ks (i+1) (μs++[⟨C,M,d,pl,x,whoAt i,tw,ks.getD i 0,tk,[]⟩]) (mi.push (.ref M)) ((M,instObj C d)::(d,dictOf (mgrEs x (whoAt i) tw (ks.getD i 0) tk pl lg 0 t5 0 t6 .none) 8)::(pl,op)::rest):=by
 have nin:∀ {a:Addr},¬ @LT.lt Nat _ a pl→a∉rest.map (·.1):=fun {a} h hm=>by
  obtain ⟨p,hp,e⟩:=List.mem_map.mp hm
  exact h (e ▸ f p hp)
 refine ⟨wd_add (μ:=⟨C,M,d,pl,x,whoAt i,tw,ks.getD i 0,tk,[]⟩) J.wd hC rfl hop hl rfl (Nat.ne_of_gt n1) (Nat.ne_of_gt (Nat.lt_trans n2 n1)) (Nat.ne_of_gt n2) (nin ?_) (nin ?_) (nin ?_),?_,?_,fun j μ h=>?_,fun μ h=>?_,?_,fun a ha b hb e=>?_⟩
 ·dsimp only; omega
 ·dsimp only; omega
 ·dsimp only; omega
 ·rw [Array.toList_push,J.mi,List.map_append]; rfl
 ·rw [List.length_append,J.len]; rfl
 ·rcases Nat.lt_or_ge j μs.length with hj|hj
  ·rw [List.getElem?_append_left hj] at h
   exact J.at_ j μ h
  ·rw [List.getElem?_append_right hj] at h
   have:j - μs.length=0:=by
    have:=(List.getElem?_eq_some_iff.mp h).1
    simp at this
    omega
   rw [this] at h
   cases h
   have:j=i:=by have:=J.len; omega
   rw [this]
   exact ⟨rfl,rfl,rfl⟩
 ·rcases List.mem_append.mp h with h|h
  ·exact J.pos μ h
  ·rw [List.mem_singleton.mp h]; show @LT.lt Nat _ 0 M; omega
 ·rw [List.map_append,List.nodup_append]
  refine ⟨J.nodup,by simp,fun a ha b hb e=>?_⟩
  obtain ⟨ν,hν,rfl⟩:=List.mem_map.mp ha
  have hb':b=M:=List.mem_singleton.mp hb
  have:=f _ (J.wd.mg ν hν).inst
  have h2:@Eq Nat ν.M M:=e.trans hb'
  have h3:@LT.lt Nat _ ν.M pl:=this
  omega
 ·have fp:∀ {ν:Mg},ν∈μs→@LT.lt Nat _ ν.pl pl:=fun {ν} hν=>by
   obtain ⟨op',kvs,hp,_⟩:=(J.wd.mg ν hν).plan
   exact f _ hp
  rcases List.mem_append.mp ha with ha|ha<;>rcases List.mem_append.mp hb with hb|hb
  ·exact J.plne a ha b hb e
  ·have h1:=fp ha
   rw [List.mem_singleton.mp hb] at e
   have e':@Eq Nat a.pl pl:=e
   omega
  ·have h1:=fp hb
   rw [List.mem_singleton.mp ha] at e
   have e':@Eq Nat pl b.pl:=e
   omega
  ·rw [List.mem_singleton.mp ha,List.mem_singleton.mp hb]
set_option genSizeOf false in
set_option genInjectivity false in
structure JP (w:World) (lg:Addr) (ks:List Int) (μs:List Mg) (mi:Array Value) (rest:Rest) (stp:Str) (kd:Int) (at0:Addr):Prop where
 wd:Wd [] w lg μs σ0 [] rest
 mi:mi.toList=μs.map fun μ=>.ref μ.M
 len:μs.length=ks.length
 at_:∀ j μ,μs[j]?=some μ→μ.who=whoAt j∧μ.key=ks.getD j 0
 nodup:(μs.map (·.M)).Nodup
 plan:PlanIs μs stp kd at0
 pos:∀ μ∈μs,@LT.lt Nat _ 0 μ.M
theorem JM.none {w:World} {lg:Addr} {ks:List Int} {μs:List Mg} {mi:Array Value} {rest:Rest} {stp:Str} {kd:Int} (hk:kd=1 ∨ kd=2) (J:JM w lg ks ks.length μs mi rest):JP w lg ks μs mi rest stp kd 0:=by
 refine ⟨J.wd,J.mi,J.len,fun j μ h=>⟨(J.at_ j μ h).1,(J.at_ j μ h).2.1⟩,J.nodup,⟨hk,fun μ hμ n=>?_⟩,J.pos⟩
 obtain ⟨i,hi,e⟩:=List.getElem_of_mem hμ
 rw [(J.at_ i μ (by rw [List.getElem?_eq_getElem hi,e])).2.2,if_neg fun h=>Nat.ne_of_gt (J.pos μ hμ) h.2]
 rfl
theorem JM.store {w:World} {lg:Addr} {ks:List Int} {μs:List Mg} {mi:Array Value} {rest:Rest} {stp:Str} {kd:Int} {tk:Tok} (hk:kd=1 ∨ kd=2) (J:JM w lg ks ks.length μs mi rest) {j:Nat} {μ:Mg} (hμ:μs[j]?=some μ) {op:Obj} (hop:op.IsDictOf (strKind P2 w) [(stp,.int kd tk)]) :
  JP w lg ks (μs.set j { μ with D:=[(.str stp,.int kd)] }) mi (put μ.pl op rest) stp kd μ.M:=by
 have hlt:j<μs.length:=(List.getElem?_eq_some_iff.mp hμ).1
 have hm:μ∈μs:=List.mem_of_getElem? hμ
 have W:=J.wd
 have P:=W.mg μ hm
 obtain ⟨op₀,kvs₀,hp₀,hd₀,_⟩:=P.plan
 have sc:∀ {i ν},(μs.set j { μ with D:=[(.str stp,.int kd)] })[i]?=some ν→(i=j∧ν={ μ with D:=[(.str stp,.int kd)] }) ∨ (μs[i]?=some ν∧ν.M≠μ.M):=fun {i ν} h=>by
  by_cases c:j=i
  ·subst c
   rw [List.getElem?_set_self hlt] at h
   exact .inl ⟨rfl,(Option.some.inj h).symm⟩
  ·rw [List.getElem?_set_ne c] at h
   refine .inr ⟨h,fun e=>c ?_⟩
   have h1:(μs.map (·.M))[j]?=some μ.M:=by rw [List.getElem?_map,hμ]; rfl
   have h2:(μs.map (·.M))[i]?=some ν.M:=by rw [List.getElem?_map,h]; rfl
   exact (List.getElem?_inj (List.getElem?_eq_some_iff.mp h1).1 J.nodup).mp (by rw [h1,h2,e])
 have sm:∀ {ν},ν∈μs.set j { μ with D:=[(.str stp,.int kd)] }→ν={ μ with D:=[(.str stp,.int kd)] } ∨ (ν∈μs∧ν.M≠μ.M):=fun {ν} h=>by
  obtain ⟨i,hi,e⟩:=List.getElem_of_mem h
  rcases sc (by rw [List.getElem?_eq_getElem hi,e]) with h|h
  ·exact .inl h.2
  ·exact .inr ⟨List.mem_of_getElem? h.1,h.2⟩
 have inst_pl:∀ {ν:Mg},ν∈μs→ν.M≠μ.pl:=fun {ν} hν e=>by
  have h1:=(W.mg ν hν).inst
  rw [e] at h1
  have:=nd_eq W.nd h1 hp₀
  obtain ⟨es,ep,_,hdt,_⟩:=hd₀
  rw [←this] at hdt; cases hdt
 have oldOk:∀ {ν:Mg},ν∈μs→ν.M≠μ.M→MgOk w lg (put μ.pl op rest) ν (σ0 ν.M):=fun {ν} hν hn=>by
  have Q:=W.mg ν hν
  obtain ⟨op',kvs,hp,hq⟩:=Q.plan
  obtain ⟨t5,t6,rv,hd,_⟩:=Q.dict
  exact ⟨Q.cls,put_ne Q.inst (inst_pl hν),⟨op',kvs,put_ne hp fun e=>hn (J.plne ν hν μ hm e ▸ rfl),hq⟩,Q.low,t5,t6,rv,put_ne hd (W.ndp ν hν μ hm),fun v hv=>by cases hv⟩
 have mapM:(μs.set j { μ with D:=[(.str stp,.int kd)] }).map (·.M)=μs.map (·.M):=by
  rw [List.map_set]
  refine List.ext_getElem? fun i=>?_
  by_cases c:j=i
  ·subst c
   rw [List.getElem?_set_self (by rw [List.length_map]; exact hlt),List.getElem?_map,hμ]
   rfl
  ·rw [List.getElem?_set_ne c]
 refine ⟨⟨by rw [put_fst]; exact W.nd,?_,fun ν hν=>?_,fun a ha b hb e=>?_,fun a ha b hb e=>?_,fun a ha b hb=>?_,fun _ h=>nomatch h⟩,?_,by rw [List.length_set]; exact J.len,fun i ν h=>?_,by rw [mapM]; exact J.nodup,⟨hk,fun ν hν n=>?_⟩,fun ν hν=>?_⟩
 ·obtain ⟨items,k,hl,hr⟩:=W.log
  refine ⟨items,k,put_ne hl (Ne.symm (W.lg_ne_inst hm).2.2.1),?_⟩
  generalize items.toList=l at hr
  cases l with
  | nil=>trivial
  | cons a l=>exact hr.elim
 ·rcases sm hν with rfl|⟨hν,hn⟩
  ·obtain ⟨t5,t6,rv,hd,_⟩:=P.dict
   exact ⟨P.cls,put_ne P.inst (inst_pl hm),⟨op,_,put_self hp₀,hop,.cons (.int _ _) .nil⟩,P.low,t5,t6,rv,put_ne hd (W.ndp μ hm μ hm),fun v hv=>by cases hv⟩
  ·exact oldOk hν hn
 ·rcases sm ha with rfl|⟨ha',na⟩<;>rcases sm hb with rfl|⟨hb',nb⟩
  ·rfl
  ·exact (nb e.symm).elim
  ·exact (na e).elim
  ·exact W.ndM a ha' b hb' e
 ·rcases sm ha with rfl|⟨ha',na⟩<;>rcases sm hb with rfl|⟨hb',nb⟩
  ·rfl
  ·exact (nb (W.ndd μ hm b hb' e ▸ rfl)).elim
  ·exact (na (W.ndd a ha' μ hm e ▸ rfl)).elim
  ·exact W.ndd a ha' b hb' e
 ·rcases sm ha with rfl|⟨ha',na⟩<;>rcases sm hb with rfl|⟨hb',nb⟩
  ·exact W.ndp μ hm μ hm
  ·exact W.ndp μ hm b hb'
  ·exact W.ndp a ha' μ hm
  ·exact W.ndp a ha' b hb'
 ·rw [J.mi]
  have:∀ l:List Mg,(l.map fun μ=>Value.ref μ.M)=(l.map (·.M)).map .ref:=fun l=>by rw [List.map_map]; rfl
  rw [this,this,mapM]
 ·rcases sc h with ⟨rfl,rfl⟩|⟨h,_⟩
  ·exact ⟨(J.at_ _ _ hμ).1,(J.at_ _ _ hμ).2.1⟩
  ·exact ⟨(J.at_ _ _ h).1,(J.at_ _ _ h).2.1⟩
 ·rcases sm hν with rfl|⟨hν,hn⟩
  ·show PySem.Spec.lookup (.str n) [(PyData.str stp,PyData.int kd)]=_
   by_cases c:n=stp
   ·subst c
    rw [if_pos ⟨rfl,rfl⟩]
    simp [PySem.Spec.lookup,PySem.Spec.same]
   ·rw [if_neg fun h=>c h.1]
    simp [PySem.Spec.lookup,PySem.Spec.same]
    exact fun h=>c h.symm
  ·obtain ⟨i,hi,e⟩:=List.getElem_of_mem hν
   rw [(J.at_ i ν (by rw [List.getElem?_eq_getElem hi,e])).2.2,if_neg fun h=>hn h.2]
   rfl
 ·rcases sm hν with rfl|⟨hν,_⟩
  ·exact J.pos μ hm
  ·exact J.pos ν hν
section
variable {prog:Program} {w:World} {A:Around} {E:Vp} {s:Shared}
theorem sub_list {value slice:Expr} {l:Addr} {items:Array Value} {k:Int} {u:Tok} {x:Value} {Q:Vp} (hl:s.heap.IsList l items) (h0:0 ≤ k) (hfit:k<2 ^ 63) (hx:items[k.toNat]?=some x) (h:Q x s)
  (hs:subscripted slice false (.ref l) (.int k u)=operate [.ref l,.int k u] (getItem (.ref l) (.int k u)):=by with_unfolding_all rfl) (hg:∀ r,letTemporaryGo value (.ref l) r=pure ():=by intro _; with_unfolding_all rfl) :
  wpAny (model prog w) A (subscriptTail value slice (.ref l) (.int k u)) Q E s:=subscriptTail_builtin hl.typeIs slot_list_getitem.lookup (wpAny_getItem_list hl h0 hfit hx h) hs hg
end
theorem mk_mgr {w:World} {A:Around} {E:Vp} {s:Shared} {g:Heap} {L:Addr} {m:Sm} {nw:Rest} {C pl lg:Addr} {who:Str} {tw tk:Tok} {key:Int} {Q:Vp} {loose:List Str} {mg mb:Sm} (hC:C=897 ∨ C=923)
  (X:(hd.heap_1 w.params).In g) (T:TopRead pq loose mg mb g) (F:Fr g L s.heap m) (N:News g L s.heap nw) (hroom:A.depth+4<recursionLimit)
  (h:∀ tw' h' tk' M d x t5 t6,Fr g L h' m→News g L h' ((M,instObj C d)::(d,dictOf (mgrEs x who tw' key tk pl lg 0 t5 0 t6 .none) 8)::nw)→(∀ p∈nw,p.1<d)→d<M→Q (.ref M) { s with heap:=h',toks:=tk' }) :
  wpAny (model P2 w) A (call (.ref C) [.str who tw,.int key tk,.ref pl,.ref lg]) Q E s:=by
 rcases hC with rfl|rfl
 ·exact mk_mgr897 X T F N hroom (h tw)
 ·exact mk_mgr923 X T F N hroom (h tw)
noncomputable def stepAt:Nat→Str
 | 1=>Str.ofString "tpc_begin"
 | 2=>Str.ofString "commit"
 | 3=>Str.ofString "tpc_vote"
 | 4=>Str.ofString "tpc_finish"
 | 5=>Str.ofString "tpc_abort"
 | 7=>Str.ofString "tpc_vote"
 | _=>Str.ofString ""
theorem sub_steps {prog:Program} {w:World} {A:Around} {E:Vp} {s:Shared} {value slice:Expr} {l:Addr} {k:Int} {u t0 t1 t2 t3 t4 t5 t6 t7:Tok} {Q:Vp}
  (hl:s.heap.IsList l #[.str (Str.ofString "") t0,.str (Str.ofString "tpc_begin") t1,.str (Str.ofString "commit") t2,.str (Str.ofString "tpc_vote") t3,.str (Str.ofString "tpc_finish") t4,.str (Str.ofString "tpc_abort") t5,.str (Str.ofString "") t6,.str (Str.ofString "tpc_vote") t7])
  (h0:0 ≤ k) (h8:k<8) (h:∀ ts,Q (.str (stepAt k.toNat) ts) s)
  (hs:subscripted slice false (.ref l) (.int k u)=operate [.ref l,.int k u] (getItem (.ref l) (.int k u)):=by with_unfolding_all rfl) (hg:∀ r,letTemporaryGo value (.ref l) r=pure ():=by intro _; with_unfolding_all rfl) :
  wpAny (model prog w) A (subscriptTail value slice (.ref l) (.int k u)) Q E s:=by
 have hk:k.toNat<8:=by omega
 obtain ⟨ts,hx⟩:∃ ts,(#[.str (Str.ofString "") t0,.str (Str.ofString "tpc_begin") t1,.str (Str.ofString "commit") t2,.str (Str.ofString "tpc_vote") t3,.str (Str.ofString "tpc_finish") t4,.str (Str.ofString "tpc_abort") t5,.str (Str.ofString "") t6,.str (Str.ofString "tpc_vote") t7]:Array Value)[k.toNat]?=some (.str (stepAt k.toNat) ts):=by
  exact at8 (P:=fun n o=>∃ ts,o=some (.str (stepAt n) ts)) ⟨_,rfl⟩ ⟨_,rfl⟩ ⟨_,rfl⟩ ⟨_,rfl⟩ ⟨_,rfl⟩ ⟨_,rfl⟩ ⟨_,rfl⟩ ⟨_,rfl⟩ hk
 exact sub_list hl h0 (by k_room) hx (h ts) hs hg
noncomputable def excNot (K:Frag) (C D:Addr):Bool:=match K.lookup C with
 | some ⟨_,_,.cls cd,_⟩=>cd.mro.contains (.ref D) == false
 | _=>false
theorem exc_not_of {K:Frag} {h:Heap} {nm q:Str} {C D N:Addr} {bs bm:List Value} {hdct:Bool} {sn:List Str} {sub:List Value} {ab:Bool} {col:Option Bool} {dd:Option Addr} {k0 k1 k2 k3 k5:Option Value} {newId:String} (X:K.In h)
  (hC:h.get? C=some (excClassObj nm q C N bs bm hdct sn sub ab col dd k0 k1 k2 k3 k5 newId)) (hn:excNot K C D=true):(Value.ref C::bm).contains (.ref D)=false:=by
 unfold excNot at hn
 split at hn
 ·rename_i c dd' cd sl ho
  have:=X _ _ ho
  rw [hC] at this
  have this:=Option.some.inj this
  have e:=congrArg Obj.data this
  simp only [excClassObj,Data.cls.injEq] at e
  subst e
  exact of_decide_eq_true hn
 ·cases hn
section
variable {M:Model} {A:Around} {E:Vp}
variable {nm q nm' q':Str} {C N D N':Addr} {bs bm bs' bm':List Value} {hdct hdct':Bool} {sn sn':List Str} {sub sub':List Value} {ab ab':Bool} {col col':Option Bool} {dd dd':Option Addr} {k0 k1 k2 k3 k5 k0' k1' k2' k3' k5':Option Value} {newId newId':String}
theorem wpAny_excMatches_sub_other {h:Heap} {g:Array GenState} {d:Drawn} {t:Nat} {os:OsState} {e:Addr} {oe:Obj} {Q:Bool→Shared→Prop}
  (hC:h.get? C=some (excClassObj nm q C N bs bm hdct sn sub ab col dd k0 k1 k2 k3 k5 newId)) (he:h.get? e=some oe) (hcls:oe.cls=.ref C)
  (hD:h.get? D=some (excClassObj nm' q' D N' bs' bm' hdct' sn' sub' ab' col' dd' k0' k1' k2' k3' k5' newId')) (hbase:bm'.contains (.type "BaseException")=true) (hn:(Value.ref C::bm).contains (.ref D)=false)
  (hq:Q false ⟨h,g,d,t,os⟩):wpAny M A (excMatches (.ref e) (.ref D)) Q E ⟨h,g,d,t,os⟩:=by
 have hcB:(Value.ref D::bm').contains (.type "BaseException")=true:=by rw [List.contains_cons,hbase,Bool.or_true]
 have f:=tc_notTuple
 unfold excMatches
 repeat (first|(with_reducible refine wpAny_loadPart_at he ?_; rw [hcls])|with_reducible refine wpAny_loadPart_at hD ?_|(with_reducible refine wpAny_isSubtype_exc hD ?_; rw [hcB])|(with_reducible refine wpAny_isSubtype_exc hC ?_; rw [hn])|wp_step)
 exact hq
end
noncomputable def HeldV (env:Env) (outer:List Env) (g:Heap) (L:Addr) (m:Sm) (news:Rest) (C e:Addr) (h':Heap):Prop:=
 ∃ B t v,(∀ b o,g.get? b=some o→b∉frs outer→B.get? b=some o)∧(∀ p∈news,B.get? p.1=some p.2)∧Up2 B (env::outer) e (.ref C) (.ref t) (some v) h' ∧
  (∀ b∈frs outer,∀ o,g.get? b=some o→∃ sl,h'.get? b=some { o with slots:=sl })∧h'.Ns L m∧∀ p∈news,g.get? p.1=none
section
variable {w:World} {A A₀:Around} {E:Vp} {s:Shared} {g B:Heap} {L C D e fI fD:Addr} {env:Env} {outer:List Env} {m:Sm} {news:Rest} {K:Frag} {x:Str} {np pos:Pos} {b₀:Stmt} {suite:List Stmt} {rest:List ExceptHandler} {Q:Fp}
 {p:Program} {loose:List Str} {mean:ExcName→Option Value} {mg mb:Sm}
theorem HeldV.ground (hfr:∀ b∈frs outer,∃ o,g.get? b=some o) {h:Heap} (H:HeldV env outer g L m news C e h):∃ g',KtsTurn (frs outer) g g'∧∀ b o,g'.get? b=some o→h.get? b=some o:=by
 obtain ⟨B,t,v,b1,b2,b3,b4,b5,b6⟩:=H
 exact turn_ground hfr b1 b3.stays b4
theorem HeldV.flight (hfr:∀ b∈frs outer,∃ o,g.get? b=some o∧∀ vs,o.data≠.fields vs) {A':Around} {M:Model} (H:HeldV env outer g L m news C e s.heap) {Q:Unit→Shared→Prop} (h:∀ h',HeldV env outer g L m news C e h'→Q () { s with heap:=h' }) :
  wpAny M A' (setFlight (.ref e) none) Q E s:=by
 obtain ⟨B,t,v,b1,b2,b3,b4,b5,b6⟩:=H
 refine flight2 (fr:=none) b3 fun h₁ U₁ x₁=>h h₁ ⟨B,t,_,b1,b2,U₁,fun b hb o q=>?_,x₁.ns b5,b6⟩
 obtain ⟨sl,hs⟩:=b4 b hb o q
 obtain ⟨o',ho',hn'⟩:=hfr b hb
 rw [q] at ho'
 obtain rfl:=Option.some.inj ho'
 obtain ⟨sl',hs'⟩:=x₁ b _ hs hn'
 exact ⟨sl',hs'⟩
theorem clause_no (hfr:∀ b∈frs outer,∃ o,g.get? b=some o∧∀ vs,o.data≠.fields vs) (hX:∀ {g'},KtsTurn (frs outer) g g'→K.In g') (hx:excInitIn K C fI=true) (hD:excInitIn K D fD=true) (hn:excNot K C D=true) (hab:g.objs.size ≤ L)
  (hname:∀ {g':Heap} {A':Around} {E':Vp} {Q':Vp} {s':Shared},KtsTurn (frs outer) g g'→Fr g' L s'.heap m→Q' (.ref D) s'→wpAny (model P2 w) A' (eval (.Name x np) env) Q' E' s')
  (H:HeldV env outer g L m news C e s.heap) (k:wpAny (model P2 w) A (handleBy (.ref e) env rest) Q E s) :
  wpAny (model P2 w) A (handleBy (.ref e) env (.ExceptHandler (some (.Name x np)) none (b₀::suite) pos::rest)) Q E s:=by
 obtain ⟨g₁,T₁,S₁⟩:=H.ground fun b hb=>let ⟨o,h,_⟩:=hfr b hb; ⟨o,h⟩
 obtain ⟨B,t,v,b1,b2,b3,b4,b5,b6⟩:=H
 have F₁:Fr g₁ L s.heap m:=⟨b5,S₁,by rw [T₁.size]; exact hab⟩
 obtain ⟨oe,vs,he,hc,hd,h0,h2,r1⟩:=b3.rcd
 obtain ⟨cd,dd,kz,mN,hC,T,hN,hi⟩:=exc_init_of (hX T₁) hx
 obtain ⟨cd',dd',kz',mN',hC',T',hN',hi'⟩:=exc_init_of (hX T₁) hD
 refine wpAny_handleBy_cons (codeAny_handlers_test (hname T₁ F₁ ?_)) (by intro q; cases q)
 exact wpAny_excMatches_sub_other (S₁ _ _ hC) he hc (S₁ _ _ hC') (T'.hasType (X := "BaseException") (b:=true) (by decide)) (exc_not_of (hX T₁) hC hn) k
theorem clause_yes (hfr:∀ b∈frs outer,∃ o,g.get? b=some o∧∀ vs,o.data≠.fields vs) (hX:∀ {g'},KtsTurn (frs outer) g g'→K.In g') (hx:excInitIn K C fI=true) (hab:g.objs.size ≤ L) (hfL:env.frame=some L)
  (hname:∀ {g':Heap} {A':Around} {E':Vp} {Q':Vp} {s':Shared},KtsTurn (frs outer) g g'→Fr g' L s'.heap m→Q' (.ref C) s'→wpAny (model P2 w) A' (eval (.Name x np) env) Q' E' s')
  (H:HeldV env outer g L m news C e s.heap)
  (k:∀ h' g',KtsTurn (frs outer) g g'→Fr g' L h' m→News g' L h' news→wpAny (model P2 w) (A.mark (some (.ref e))) (execs (b₀::suite) env) Q (notedBy (model P2 w) (A.mark (some (.ref e))) env (cameBackBy (model P2 w) A env E)) { s with heap:=h' }) :
  wpAny (model P2 w) A (handleBy (.ref e) env (.ExceptHandler (some (.Name x np)) none (b₀::suite) pos::rest)) Q E s:=by
 obtain ⟨g₁,T₁,S₁⟩:=H.ground fun b hb=>let ⟨o,h,_⟩:=hfr b hb; ⟨o,h⟩
 have H':=H
 obtain ⟨B,t,v,b1,b2,b3,b4,b5,b6⟩:=H
 have F₁:Fr g₁ L s.heap m:=⟨b5,S₁,by rw [T₁.size]; exact hab⟩
 obtain ⟨oe,vs,he,hc,hd,h0,h2,r1⟩:=b3.rcd
 obtain ⟨cd,dd,kz,mN,hC,T,hN,hi⟩:=exc_init_of (hX T₁) hx
 refine wpAny_handleBy_cons (codeAny_handlers_test (hname T₁ F₁ ?_)) (by intro q; cases q)
 refine wpAny_excMatches_sub_self (S₁ _ _ hC) he hc (T.hasType (X := "BaseException") (b:=true) (by decide)) ?_
 refine codeAny_handlers_suite ?_
 refine H'.flight hfr fun h₂ H₂=>?_
 obtain ⟨g₂,T₂,S₂⟩:=H₂.ground fun b hb=>let ⟨o,h,_⟩:=hfr b hb; ⟨o,h⟩
 obtain ⟨B,t,v,b1,b2,b3,b4,b5,b6⟩:=H₂
 have hLf:L∈frs (env::outer):=List.mem_filterMap.mpr ⟨env,.head _,hfL⟩
 refine k h₂ g₂ T₂ ⟨b5,S₂,by rw [T₂.size]; exact hab⟩ fun p hp=>⟨b3.stays _ _ (b2 p hp),fun q=>?_,T₂.none_ _ (b6 p hp)⟩
 have:=b2 p hp
 rw [q,(b3.frames.mem hLf).1] at this
 cases this
theorem Held.v {h:Heap} (H:Held env outer g L m news C e h):HeldV env outer g L m news C e h:=
 Exists.imp (fun _=>Exists.imp fun _ b=>⟨_,b⟩) H
end
theorem catch_two {w:World} {A A₀:Around} {E:Vp} {s:Shared} {g B:Heap} {L C e:Addr} {env:Env} {outer:List Env} {m:Sm} {news:Rest} {x y:Str} {np np' pos pos':Pos} {b₀ b₁:Stmt} {s₀ s₁:List Stmt} {Q:Fp}
  {loose:List Str} {mean:ExcName→Option Value} {mg mb:Sm} {kd:Int}
  (hcl:ClsOf kd C) (hfL:env.frame=some L) (KB:Below A₀ B outer g) (hBf:∀ b∈frs outer,B.get? b=none) (XB:(hd.heap_1 w.params).In B) (TB:Top pq loose mean mg mb B) (hab:g.objs.size ≤ L)
  (hname1:∀ {g':Heap} {A':Around} {E':Vp} {Q':Vp} {s':Shared},(hd.heap_1 w.params).In g'→Top pq loose mean mg mb g'→Fr g' L s'.heap m→Q' (.ref 779) s'→wpAny (model P2 w) A' (eval (.Name x np) env) Q' E' s')
  (hname2:∀ {g':Heap} {A':Around} {E':Vp} {Q':Vp} {s':Shared},(hd.heap_1 w.params).In g'→Top pq loose mean mg mb g'→Fr g' L s'.heap m→Q' (.ref 799) s'→wpAny (model P2 w) A' (eval (.Name y np') env) Q' E' s')
  (H:Held env outer g L m news C e s.heap)
  (k:∀ h' g',KtsTurn (frs outer) g g'→Below A₀ B outer g'→(hd.heap_1 w.params).In g'→Top pq loose mean mg mb g'→Fr g' L h' m→News g' L h' news →
   (kd=1→wpAny (model P2 w) (A.mark (some (.ref e))) (execs (b₀::s₀) env) Q (notedBy (model P2 w) (A.mark (some (.ref e))) env (cameBackBy (model P2 w) A env E)) { s with heap:=h' }) ∧
   (kd=2→wpAny (model P2 w) (A.mark (some (.ref e))) (execs (b₁::s₁) env) Q (notedBy (model P2 w) (A.mark (some (.ref e))) env (cameBackBy (model P2 w) A env E)) { s with heap:=h' })) :
  wpAny (model P2 w) A (setFlight (.ref e) none) (fun _ s₃=>wpAny (model P2 w) A (handleBy (.ref e) env (.ExceptHandler (some (.Name x np)) none (b₀::s₀) pos::.ExceptHandler (some (.Name y np')) none (b₁::s₁) pos'::[])) Q E s₃) E s:=by
 have hfr:∀ b∈frs outer,∃ o,g.get? b=some o∧∀ vs,o.data≠.fields vs:=fun b hb=>below_nf KB hb
 have hX:∀ {g'},KtsTurn (frs outer) g g'→(hd.heap_1 w.params).In g':=fun T=>XB.keeps (turn_stays KB.stays hBf T)
 have hT:∀ {g'},KtsTurn (frs outer) g g'→Top pq loose mean mg mb g':=fun T=>TB.keeps (turn_stays KB.stays hBf T)
 refine H.v.flight hfr fun h₁ H₁=>?_
 rcases hcl with ⟨hk,rfl⟩|⟨hk,rfl⟩
 ·exact clause_yes (fI:=776) hfr hX (init779 _) hab hfL (fun T F q=>hname1 (hX T) (hT T) F q) H₁ fun h' g' T F N=>(k h' g' T (below_turn KB hBf T) (hX T) (hT T) F N).1 hk
 ·refine clause_no (fI:=796) (fD:=776) hfr hX (init799 _) (init779 _) (by kernel_rfl) hab (fun T F q=>hname1 (hX T) (hT T) F q) H₁ ?_
  exact clause_yes (fI:=796) hfr hX (init799 _) hab hfL (fun T F q=>hname2 (hX T) (hT T) F q) H₁ fun h' g' T F N=>(k h' g' T (below_turn KB hBf T) (hX T) (hT T) F N).2 hk
noncomputable def errOf (kd:Int):Str:=if kd=1 then Str.ofString "refusal" else Str.ofString "passing"
set_option genSizeOf false in
set_option genInjectivity false in
structure Out where
 rows:List (Str×Str)
 shown:List (Int×Int)
 er:Str
 later:List (Int×Int)
 tail:List (Str×Str)
deriving Nonempty
noncomputable def runOf (ml:List Mg) (sh:(Addr→Ms)→List (Int×Int)) (σ:Addr→Ms):Out:=
 match tryPart (sortMg ml) σ [] with
 | ((σ1,rows,none),_)=>⟨rows,sh σ1,Str.ofString "none",sh σ1,[]⟩
 | ((σ1,rows,some k),voted)=>⟨(cleanSt (sortMg ml) voted (σ1,rows)).2,sh (cleanSt (sortMg ml) voted (σ1,rows)).1,errOf k,sh (ml.foldl (fun st μ=>effAb μ st) (cleanSt (sortMg ml) voted (σ1,rows))).1,
   (ml.foldl (fun st μ=>effAb μ st) (cleanSt (sortMg ml) voted (σ1,rows))).2.drop (cleanSt (sortMg ml) voted (σ1,rows)).2.length⟩
noncomputable def cMg (ks:List Int) (stp:Str) (kd:Int) (at_:Nat) (j:Nat):Mg:=⟨0,j,0,0,⟨fun _=>0,fun _=>0⟩,whoAt j,0,ks.getD j 0,0,if stp≠Str.ofString "" ∧ j=at_ then [(.str stp,.int kd)] else []⟩
noncomputable def runPure (os:List Nat) (ks vs:List Int) (stp:Str) (kd:Int) (at_:Nat):Out:=
 runOf (os.map (cMg ks stp kd at_)) (fun σ=>(List.range ks.length).map fun j=>((σ j).value,(σ j).kept)) fun j=>⟨0,vs.getD j 0,none⟩
noncomputable def rowD (r:Str×Str):Dat:=.tuple [.str r.1,.str r.2]
noncomputable def pairD (p:Int×Int):Dat:=.tuple [.int p.1,.int p.2]
inductive RunEnd (outer:List Env) (s:Shared) (o:Out) (r:Result) (s₁:Shared):Prop
 | mk (h':Heap) (tk':Tok) (nw:Rest) (T l0 l1 l3 l4:Addr) (x0 x1 x3 x4:Array Value) (n0 n1 n3 n4:Nat) (te:Tok) (ps1 ps2 ps3:Array Value)
  (e1:r=.ok (.ret (.ref T))) (e2:s₁={ s with heap:=h',toks:=tk' })
  (keep:∀ b o,s.heap.get? b=some o→b∉[299,422,464]→b∉frs outer→h'.get? b=some o)
  (frm:∀ b∈frs outer,∀ o,s.heap.get? b=some o→∃ sl,h'.get? b=some { o with slots:=sl })
  (tabs:∀ p∈[(299,tabObj ps1),(422,tabObj ps2),(464,tabObj ps3)],h'.get? p.1=some p.2) (t1:TabL ps1.toList) (t2:TabL ps2.toList) (t3:TabL ps3.toList)
  (hnw:∀ p∈nw,h'.get? p.1=some p.2∧s.heap.get? p.1=none)
  (m:∀ p∈[(T,({ cls:=.type "tuple",data:=.seq #[.ref l0,.ref l1,.str o.er te,.ref l3,.ref l4] }:Obj)),(l0,listOf x0 n0),(l1,listOf x1 n1),(l3,listOf x3 n3),(l4,listOf x4 n4)],p∈nw)
  (d0:DatAll nw x0.toList (o.rows.map rowD)) (d1:DatAll nw x1.toList (o.shown.map pairD)) (d3:DatAll nw x3.toList (o.later.map pairD)) (d4:DatAll nw x4.toList (o.tail.map rowD)):RunEnd outer s o r s₁
structure Ph (n:Nat) (φ c:Nat→Mg):Prop where
 inj:∀ i,i<n→∀ j,j<n→(φ i).M=(φ j).M→i=j
 cM:∀ j,(c j).M=j
 who:∀ j,j<n→(φ j).who=(c j).who
 key:∀ j,j<n→(φ j).key=(c j).key
 fl:∀ j,j<n→∀ nm,fails nm (φ j)=fails nm (c j)
noncomputable def Sim (n:Nat) (φ:Nat→Mg) (σ σ':Addr→Ms):Prop:=∀ j,j<n→σ (φ j).M=σ' j
section
variable {n:Nat} {φ c:Nat→Mg} {σ σ':Addr→Ms}
theorem upd_sim (P:Ph n φ c) (h:Sim n φ σ σ') {j:Nat} (hj:j<n) {s:Ms}:Sim n φ (upd σ (φ j).M s) (upd σ' (c j).M s):=fun i hi=>by
 unfold upd
 rw [P.cM]
 by_cases e:i=j
 ·subst e
  rw [if_pos rfl,if_pos rfl]
 ·rw [if_neg fun q=>e (P.inj _ hi _ hj q),if_neg e]
  exact h i hi
theorem phase_sim (P:Ph n φ c) {nm:Str} {f:Ms→Ms} {il:List Nat} {σ σ':Addr→Ms} {rows:List (Str×Str)} (hl:∀ j∈il,j<n) (h:Sim n φ σ σ') :
  Sim n φ (phase nm f (il.map φ) σ rows).1 (phase nm f (il.map c) σ' rows).1∧(phase nm f (il.map φ) σ rows).2=(phase nm f (il.map c) σ' rows).2:=by
 induction il generalizing σ σ' rows with
 | nil=>exact ⟨h,rfl⟩
 | cons j il ih=>
  have hj:=hl j (.head _)
  rw [List.map_cons,List.map_cons]
  cases hf:fails nm (φ j) with
  | none=>
   rw [phase_ok hf,phase_ok ((P.fl j hj _).symm.trans hf),P.who j hj,(congrArg f ((h j hj).trans (congrArg σ' (P.cM j).symm)):f (σ (φ j).M)=f (σ' (c j).M))]
   exact ih (fun i hi=>hl i (.tail _ hi)) (upd_sim P h hj)
  | some k=>
   rw [phase_no hf,phase_no ((P.fl j hj _).symm.trans hf),P.who j hj]
   exact ⟨h,rfl⟩
theorem takeWhile_sim (P:Ph n φ c) {nm:Str} {il:List Nat} (hl:∀ j∈il,j<n):∃ vl:List Nat,(∀ j∈vl,j<n)∧(il.map φ).takeWhile (fun μ=>(fails nm μ).isNone)=vl.map φ∧(il.map c).takeWhile (fun μ=>(fails nm μ).isNone)=vl.map c:=by
 induction il with
 | nil=>exact ⟨[],fun _ h=>absurd h List.not_mem_nil,rfl,rfl⟩
 | cons j il ih=>
  have hj:=hl j (.head _)
  obtain ⟨vl,h1,h2,h3⟩:=ih fun i hi=>hl i (.tail _ hi)
  rw [List.map_cons,List.map_cons,List.takeWhile_cons,List.takeWhile_cons,←P.fl j hj]
  cases (fails nm (φ j)).isNone with
  | false=>exact ⟨[],fun _ h=>absurd h List.not_mem_nil,rfl,rfl⟩
  | true=>exact ⟨j::vl,fun i hi=>(List.mem_cons.mp hi).elim (fun e=>e ▸ hj) (h1 i),congrArg (φ j::·) h2,congrArg (c j::·) h3⟩
theorem tryPart_sim (P:Ph n φ c) {il:List Nat} {rows:List (Str×Str)} (hl:∀ j∈il,j<n) (h:Sim n φ σ σ') :
  Sim n φ (tryPart (il.map φ) σ rows).1.1 (tryPart (il.map c) σ' rows).1.1∧(tryPart (il.map φ) σ rows).1.2=(tryPart (il.map c) σ' rows).1.2 ∧
   ∃ vl:List Nat,(∀ j∈vl,j<n)∧(tryPart (il.map φ) σ rows).2=vl.map φ∧(tryPart (il.map c) σ' rows).2=vl.map c:=by
 have no:∃ vl:List Nat,(∀ j∈vl,j<n)∧([]:List Mg)=vl.map φ∧([]:List Mg)=vl.map c:=⟨[],(fun _ h=>absurd h List.not_mem_nil),rfl,rfl⟩
 have p:∀ {nm f} {σ σ' s:Addr→Ms} {rows r:List (Str×Str)} {o},Sim n φ σ σ'→phase nm f (il.map φ) σ rows=(s,r,o)→∃ s',Sim n φ s s'∧phase nm f (il.map c) σ' rows=(s',r,o):=fun {nm f _ _ _ rows _ _} h e=>by
  have k:=phase_sim P (nm:=nm) (f:=f) (rows:=rows) hl h
  rw [e] at k
  exact ⟨_,k.1,Prod.ext rfl k.2.symm⟩
 refine tryPart_ind (Q:=fun x=>Sim n φ x.1.1 (tryPart (il.map c) σ' rows).1.1∧x.1.2=(tryPart (il.map c) σ' rows).1.2∧∃ vl:List Nat,(∀ j∈vl,j<n)∧x.2=vl.map φ∧(tryPart (il.map c) σ' rows).2=vl.map c) (fun _ k e1=>?_) (fun _ _ k e1 e2=>?_) (fun _ _ _ k e1 e2 e3=>?_) fun _ _ _ e1 e2 e3=>?_
 ·obtain ⟨s,h1,f1⟩:=p h e1
  rw [tp1 f1]; exact ⟨h1,rfl,no⟩
 ·obtain ⟨s,h1,f1⟩:=p h e1
  obtain ⟨s2,h2,f2⟩:=p h1 e2
  rw [tp2 f1 f2]; exact ⟨h2,rfl,no⟩
 ·obtain ⟨s,h1,f1⟩:=p h e1
  obtain ⟨s2,h2,f2⟩:=p h1 e2
  obtain ⟨s3,h3,f3⟩:=p h2 e3
  rw [tp3 f1 f2 f3]; exact ⟨h3,rfl,takeWhile_sim P hl⟩
 ·obtain ⟨s,h1,f1⟩:=p h e1
  obtain ⟨s2,h2,f2⟩:=p h1 e2
  obtain ⟨s3,h3,f3⟩:=p h2 e3
  rw [tp4 f1 f2 f3]
  obtain ⟨s4,e4⟩:=phase_sim P (nm:=Str.ofString "tpc_finish") (f:=fF) hl h3
  exact ⟨s4,e4,il,hl,rfl,rfl⟩
theorem fold_sim (F G:Mg→Sr→Sr) (step:∀ j,j<n→∀ st st':Sr,Sim n φ st.1 st'.1→st.2=st'.2→Sim n φ (F (φ j) st).1 (G (c j) st').1∧(F (φ j) st).2=(G (c j) st').2):∀ (il:List Nat) (st st':Sr),(∀ j∈il,j<n)→Sim n φ st.1 st'.1→st.2=st'.2 →
  Sim n φ ((il.map φ).foldl (fun st μ=>F μ st) st).1 ((il.map c).foldl (fun st μ=>G μ st) st').1∧((il.map φ).foldl (fun st μ=>F μ st) st).2=((il.map c).foldl (fun st μ=>G μ st) st').2
 | [],_,_,_,h1,h2=>⟨h1,h2⟩
 | j::il,st,st',hl,h1,h2=>by
  obtain ⟨a,b⟩:=step j (hl j (.head _)) st st' h1 h2
  exact fold_sim F G step il _ _ (fun i hi=>hl i (.tail _ hi)) a b
theorem row_sim (P:Ph n φ c) {nm:Str} {f:Ms→Ms} {j:Nat} (hj:j<n) {st st':Sr} (h1:Sim n φ st.1 st'.1) (h2:st.2=st'.2) :
  Sim n φ (upd st.1 (φ j).M (f (st.1 (φ j).M))) (upd st'.1 (c j).M (f (st'.1 (c j).M)))∧st.2++[(nm,(φ j).who)]=st'.2++[(nm,(c j).who)]:=by
 have e:st.1 (φ j).M=st'.1 (c j).M:=by rw [h1 j hj,P.cM]
 rw [e,P.who j hj,h2]
 exact ⟨upd_sim P h1 hj,rfl⟩
theorem clean_sim (P:Ph n φ c) {il vl:List Nat} {st st':Sr} (hl:∀ j∈il,j<n) (hv:∀ j∈vl,j<n) (h1:Sim n φ st.1 st'.1) (h2:st.2=st'.2) :
  Sim n φ (cleanSt (il.map φ) (vl.map φ) st).1 (cleanSt (il.map c) (vl.map c) st').1∧(cleanSt (il.map φ) (vl.map φ) st).2=(cleanSt (il.map c) (vl.map c) st').2:=by
 unfold cleanSt
 have stp:∀ j,j<n→∀ st st':Sr,Sim n φ st.1 st'.1→st.2=st'.2→Sim n φ (effA (vl.map φ) (φ j) st).1 (effA (vl.map c) (c j) st').1∧(effA (vl.map φ) (φ j) st).2=(effA (vl.map c) (c j) st').2:=by
  intro j hj st st' h1 h2
  unfold effA
  by_cases m:j∈vl
  ·rw [if_pos (List.mem_map_of_mem (List.mem_map_of_mem m)),if_pos (List.mem_map_of_mem (List.mem_map_of_mem m))]
   exact ⟨h1,h2⟩
  ·rw [if_neg,if_neg]
   ·exact row_sim P hj h1 h2
   ·intro q
    obtain ⟨x,hx,e⟩:=List.mem_map.mp q
    obtain ⟨i,hi,rfl⟩:=List.mem_map.mp hx
    rw [P.cM,P.cM] at e
    exact m (e ▸ hi)
   ·intro q
    obtain ⟨x,hx,e⟩:=List.mem_map.mp q
    obtain ⟨i,hi,rfl⟩:=List.mem_map.mp hx
    exact m (P.inj _ (hv i hi) _ hj e ▸ hi)
 obtain ⟨a,b⟩:=fold_sim (effA (vl.map φ)) (effA (vl.map c)) stp il st st' hl h1 h2
 exact fold_sim effT effT (fun j hj st st' h1 h2=>row_sim P hj h1 h2) il _ _ hl a b
theorem sort_sim (P:Ph n φ c) {il:List Nat} (hl:∀ j∈il,j<n):∃ sl:List Nat,(∀ j∈sl,j<n)∧sortMg (il.map φ)=sl.map φ∧sortMg (il.map c)=sl.map c:=by
 have e:(il.map φ).map (·.key)=(il.map c).map (·.key):=by
  rw [List.map_map,List.map_map]
  exact List.map_congr_left fun j hj=>P.key j (hl j hj)
 have fm:∀ (ψ:Nat→Mg) (pl:List Nat),(pl.filterMap fun i=>(il.map ψ)[i]?)=(pl.filterMap fun i=>il[i]?).map ψ:=fun ψ pl=>by
  rw [List.map_filterMap]
  congr 1
  funext i
  rw [List.getElem?_map]
 refine ⟨(sortPl il.length ((il.map c).map (·.key))).filterMap fun i=>il[i]?,fun j hj=>?_,?_,?_⟩
 ·obtain ⟨i,_,e⟩:=List.mem_filterMap.mp hj
  exact hl j (List.mem_of_getElem? e)
 ·unfold sortMg
  rw [fm,e,List.length_map]
 ·unfold sortMg
  rw [fm,List.length_map]
theorem run_sim (P:Ph n φ c) {os:List Nat} (hl:∀ j∈os,j<n) (h:Sim n φ σ σ') :
  runOf (os.map φ) (fun σ=>(List.range n).map fun j=>((σ (φ j).M).value,(σ (φ j).M).kept)) σ=runOf (os.map c) (fun σ=>(List.range n).map fun j=>((σ j).value,(σ j).kept)) σ':=by
 have sh:∀ {σ σ':Addr→Ms},Sim n φ σ σ'→((List.range n).map fun j=>((σ (φ j).M).value,(σ (φ j).M).kept))=(List.range n).map fun j=>((σ' j).value,(σ' j).kept):=fun {σ σ'} h=>
  List.map_congr_left fun j hj=>by rw [h j (List.mem_range.mp hj)]
 obtain ⟨sl,hs,e1,e2⟩:=sort_sim P hl
 unfold runOf
 rw [e1,e2]
 obtain ⟨s1,e3,vl,hv,e4,e5⟩:=tryPart_sim P (rows:=[]) hs h
 generalize tryPart (sl.map φ) σ []=a at s1 e3 e4 e5 ⊢
 generalize tryPart (sl.map c) σ' []=b at s1 e3 e4 e5 ⊢
 obtain ⟨⟨σ1,r1,o1⟩,v1⟩:=a
 obtain ⟨⟨σ1',r1',o1'⟩,v1'⟩:=b
 cases e3
 dsimp only at s1 e4 e5
 subst e4 e5
 cases o1 with
 | none=>
  dsimp only
  rw [sh s1]
 | some k=>
  dsimp only
  obtain ⟨a,b⟩:=clean_sim P (st:=(σ1,r1)) (st':=(σ1',r1)) hs hv s1 rfl
  obtain ⟨a',b'⟩:=fold_sim effAb effAb (fun j hj st st' h1 h2=>row_sim P hj h1 h2) os _ _ hl a b
  rw [sh a,sh a',b,b']
end
theorem wd_value {w:World} {lg:Addr} {μs:List Mg} {σ:Addr→Ms} {rows:List (Str×Str)} {rest:Rest} (W:Wd kept w lg μs σ rows rest) {μ:Mg} (hμ:μ∈μs) {v:Int} {t5 t6:Tok} (hr:(σ μ.M).ready=none) {rv:Value} :
  Wd kept w lg μs (upd σ μ.M ⟨(σ μ.M).kept,v,none⟩) rows (put μ.d (mgDict lg μ ⟨(σ μ.M).kept,v,none⟩ t5 t6 rv) rest):=by
 obtain ⟨nM,nd',npl,nMd,nMp⟩:=W.lg_ne_inst hμ
 obtain ⟨t5₀,t6₀,rv₀,hd,_⟩:=(W.mg μ hμ).dict
 obtain ⟨items,k,hl,hrows⟩:=W.log
 have keepT:∀ r o,(r,o)∈rest→o.cls=.type "tuple" → (r,o)∈put μ.d (mgDict lg μ ⟨(σ μ.M).kept,v,none⟩ t5 t6 rv) rest:=fun r o hro hc=>put_ne hro fun e=>by
  have e:r=μ.d:=e
  subst e
  exact tup_dict hc (nd_eq W.nd hro hd)
 refine ⟨by rw [put_fst]; exact W.nd,⟨items,k,put_ne hl (Ne.symm nd'),hrows.imp fun v r ⟨T,ta,tb,e,hm⟩=>⟨T,ta,tb,e,keepT _ _ hm rfl⟩⟩,fun ν hν=>?_,W.ndM,W.ndd,W.ndp,fun p hp=>⟨keepT _ _ (W.stay p hp).1 (W.stay p hp).2,(W.stay p hp).2⟩⟩
 have P:=W.mg ν hν
 obtain ⟨op,kvs,hp,ho,hfp⟩:=P.plan
 have pl':(ν.pl,op)∈put μ.d (mgDict lg μ ⟨(σ μ.M).kept,v,none⟩ t5 t6 rv) rest:=put_ne hp fun e=>W.ndp μ hμ ν hν e.symm
 have in':(ν.M,instObj ν.C ν.d)∈put μ.d (mgDict lg μ ⟨(σ μ.M).kept,v,none⟩ t5 t6 rv) rest:=put_ne P.inst fun e=>by
  have e:ν.M=μ.d:=e
  have h1:=P.inst
  rw [e] at h1
  exact inst_dict (nd_eq W.nd h1 hd)
 by_cases hν':ν=μ
 ·subst hν'
  refine ⟨P.cls,in',⟨op,kvs,pl',ho,hfp⟩,P.low,t5,t6,rv,?_,fun v hv=>?_⟩
  ·simp only [upd,if_pos]
   exact put_self hd
  ·simp only [upd,if_pos] at hv
   cases hv
 ·have us:upd σ μ.M ⟨(σ μ.M).kept,v,none⟩ ν.M=σ ν.M:=if_neg fun e=>hν' (W.ndM ν hν μ hμ e)
  rw [us]
  obtain ⟨t5',t6',rv',hd',hr'⟩:=P.dict
  refine ⟨P.cls,in',⟨op,kvs,pl',ho,hfp⟩,P.low,t5',t6',rv',put_ne hd' fun e=>hν' (W.ndd ν hν μ hμ e),fun v hv=>?_⟩
  obtain ⟨r,tr,kr,e,nr,hm⟩:=hr' v hv
  refine ⟨r,tr,kr,e,nr,put_ne hm fun e=>?_⟩
  have e:r=μ.d:=e
  subst e
  exact dict_list (nd_eq W.nd hd hm)
noncomputable abbrev cut (d:Addr) (r:Rest):Rest:=r.filter fun p=>decide (p.1≠d)
theorem news_put {g h:Heap} {L:Addr} {nm rest:Rest} {d M:Addr} {oM od:Obj} (N:News g L h ((M,oM)::(d,od)::(nm++cut d rest))):News g L h (nm++put d od rest):=by
 intro p hp
 rcases List.mem_append.mp hp with hp|hp
 ·exact N p (eT2 (List.mem_append_left _ hp))
 rcases put_mem hp with ⟨rfl,_⟩|⟨hp,n⟩
 ·exact N _ eM1
 ·exact N p (eT2 (List.mem_append_right _ (List.mem_filter.mpr ⟨hp,decide_eq_true n⟩)))
theorem news_cut {g h:Heap} {L:Addr} {nm rest:Rest} {d M:Addr} {oM od:Obj} (N:News g L h (nm++rest)) (h1:(M,oM)∈rest) (h2:(d,od)∈rest):News g L h ((M,oM)::(d,od)::(nm++cut d rest)):=by
 refine nms_cons (N _ (List.mem_append_right _ h1)) (nms_cons (N _ (List.mem_append_right _ h2)) fun p hp=>?_)
 rcases List.mem_append.mp hp with hp|hp
 ·exact N p (List.mem_append_left _ hp)
 ·exact N p (List.mem_append_right _ (List.mem_filter.mp hp).1)
noncomputable abbrev mEr (rv:Option Value) (tr er st:Value) (m:Sm):Sm:=fun y=>if y=Str.ofString "k" then rv else if y=Str.ofString "transaction" then some tr else if y=Str.ofString "error" then some er else if y=Str.ofString "step" then some st else m y
noncomputable abbrev mSh (ro sh:Value) (m:Sm):Sm:=fun y=>if y=Str.ofString "rows" then some ro else if y=Str.ofString "shown" then some sh else m y
theorem mEr_set {rv:Option Value} {tr er er' st:Value} {m:Sm} (y:Str):(if y=Str.ofString "error" then some er' else mEr rv tr er st m y)=mEr rv tr er' st m y:=by
 show (if y=_ then _ else if y=_ then _ else if y=_ then _ else if y=_ then _ else _)=if y=_ then _ else if y=_ then _ else if y=_ then _ else _
 by_cases e1:y=Str.ofString "error"
 ·rw [if_pos e1,e1]
  rfl
 ·rw [if_neg e1,if_neg e1,if_neg e1]
theorem pick_nodup {l:List Mg} (nd:(l.map (·.M)).Nodup) {os:List Nat} (h:os.Nodup):((os.filterMap fun k=>l[k]?).map (·.M)).Nodup:=by
 induction os with
 | nil=>exact .nil
 | cons k os ih=>
  rw [List.nodup_cons] at h
  rw [List.filterMap_cons]
  cases e:l[k]? with
  | none=>exact ih h.2
  | some μ=>
   refine List.nodup_cons.mpr ⟨fun hm=>?_,ih h.2⟩
   obtain ⟨ν,hν,eM⟩:=List.mem_map.mp hm
   obtain ⟨j,hj,ej⟩:=List.mem_filterMap.mp hν
   have h1:(l.map (·.M))[k]?=some μ.M:=by rw [List.getElem?_map,e]; rfl
   have h2:(l.map (·.M))[j]?=some ν.M:=by rw [List.getElem?_map,ej]; rfl
   have:j=k:=(List.getElem?_inj (List.getElem?_eq_some_iff.mp h2).1 nd).mp (by rw [h2,h1,eM])
   exact h.1 (this ▸ hj)
theorem pick_mem {l:List Mg} {os:List Nat} {μ:Mg} (h:μ∈os.filterMap fun k=>l[k]?):μ∈l:=by
 obtain ⟨j,_,ej⟩:=List.mem_filterMap.mp h
 exact List.mem_of_getElem? ej
inductive CmNo (w:World) (outer:List Env) (h:Heap) (Λ:List Addr) (q:Tq) (items:Array Value) (lg:Addr) (μs ml:List Mg) (σ:Addr→Ms) (s:Shared) (e:Value) (s₁:Shared):Prop
 | mk (h':Heap) (tk':Tok) (rest':Rest) (σ':Addr→Ms) (rows':List (Str×Str)) (kd:Int) (Cx ea:Addr) (voted:List Mg) (vt':Addr) (vits':Array Value) (kv':Nat) (ts' tf:Tok) (ps1' ps2':Array Value)
  (e1:e=.ref ea) (e2:s₁={ s with heap:=h',toks:=tk' }) (tp:tryPart (sortMg ml) σ []=((σ',rows',some kd),voted)) (cl:ClsOf kd Cx) (t1:TabL ps1'.toList) (t2:TabL ps2'.toList)
  (wd:Wd [] w lg μs (cleanSt (sortMg ml) voted (σ',rows')).1 (cleanSt (sortMg ml) voted (σ',rows')).2 rest')
  (th:Thrown outer (hideAll h Λ) (cmN q (Str.ofString "Commit failed") ts' items vt' vits' kv' (.str "failed" tf) ps1' ps2' rest') Cx ea h h') (dis:∀ a∈cmA q vt',a∉rest'.map (·.1)):CmNo w outer h Λ q items lg μs ml σ s e s₁
inductive TryEnd (w:World) (outer:List Env) (g:Heap) (L:Addr) (m:Value→Sm) (q:Tq) (items:Array Value) (head:Rest) (lg:Addr) (μs ml:List Mg) (σ:Addr→Ms) (s:Shared) (fl:Flow) (s₁:Shared):Prop
 | mk (h':Heap) (tk':Tok) (g':Heap) (er:Str) (te:Tok) (tlx rest:Rest) (σ':Addr→Ms) (rows':List (Str×Str)) (ps1 ps2:Array Value)
  (e1:fl=.next) (e2:s₁={ s with heap:=h',toks:=tk' }) (tt:KtsTurn (frs outer) g g') (f:Fr g' L h' (m (.str er te))) (n:News g' L h' (head++(tlx++rest)))
  (wd:Wd [] w lg μs σ' rows' rest) (dis:∀ p∈head++tlx,p.1∉rest.map (·.1)) (t1:TabL ps1.toList) (t2:TabL ps2.toList) (m1:(299,tabObj ps1)∈tlx) (m2:(422,tabObj ps2)∈tlx)
  (out:(er=Str.ofString "none" ∧ ∃ voted,tryPart (sortMg ml) σ []=((σ',rows',none),voted)) ∨
   ∃ kd σ₀ rows₀ voted vt vits kv ts tf,er=errOf kd∧(kd=1 ∨ kd=2)∧tryPart (sortMg ml) σ []=((σ₀,rows₀,some kd),voted)∧σ'=(cleanSt (sortMg ml) voted (σ₀,rows₀)).1∧rows'=(cleanSt (sortMg ml) voted (σ₀,rows₀)).2 ∧
    tlx=cmN q (Str.ofString "Commit failed") ts items vt vits kv (.str "failed" tf) ps1 ps2 []):TryEnd w outer g L m q items head lg μs ml σ s fl s₁
theorem rows_kept {rest:Rest} {vs:List Value} {rs:List (Str×Str)} (h:RowsAt rest vs rs):∃ kept:Rest,(∀ p∈kept,p∈rest∧p.2.cls=.type "tuple")∧RowsAt kept vs rs:=by
 induction vs generalizing rs with
 | nil=>
  cases rs with
  | nil=>exact ⟨[],(fun _ h=>absurd h List.not_mem_nil),trivial⟩
  | cons r rs=>exact h.elim
 | cons v vs ih=>
  cases rs with
  | nil=>exact h.elim
  | cons r rs=>
   obtain ⟨k,hk,hr⟩:=ih h.2
   obtain ⟨T,ta,tb,e,hm⟩:=h.1
   exact ⟨(T,tup2 (.str r.1 ta) (.str r.2 tb))::k,nms_cons ⟨hm,rfl⟩ hk,⟨T,ta,tb,e,.head _⟩,hr.imp fun v r q=>Exists.imp (fun _=>Exists.imp fun _=>Exists.imp fun _ b=>⟨b.1,.tail _ b.2⟩) q⟩
theorem foldl_len {α:Type} {f:Sr→α→Sr} (hf:∀ st a,(f st a).2.length ≤ st.2.length+1):∀ (l:List α) (st:Sr),(l.foldl f st).2.length ≤ st.2.length+l.length
 | [],st=>by simp
 | a::l,st=>by
  have h1:=foldl_len hf l (f st a)
  have h2:=hf st a
  rw [List.foldl_cons,List.length_cons]
  omega
theorem cleanSt_len (ml voted:List Mg) (st:Sr):(cleanSt ml voted st).2.length ≤ st.2.length+2 * ml.length:=by
 unfold cleanSt
 have h1:=foldl_len (f:=fun st μ=>effT μ st) (fun st a=>by unfold effT; simp) ml (ml.foldl (fun st μ=>effA voted μ st) st)
 have h2:=foldl_len (f:=fun st μ=>effA voted μ st) (fun st a=>by unfold effA; split<;>simp) ml st
 omega
noncomputable def abOut (er:Str) (ml:List Mg) (st:Sr):Sr:=if er=Str.ofString "none" then st else ml.foldl (fun st μ=>effAb μ st) st
inductive AbEnd (w:World) (g:Heap) (L:Addr) (m:Sm) (lg:Addr) (μs:List Mg) (keep kept:Rest) (st:Sr) (s:Shared) (fl:Flow) (s₁:Shared):Prop
 | mk (h':Heap) (tk':Tok) (rest':Rest) (ps:Array Value) (e1:fl=.next) (e2:s₁={ s with heap:=h',toks:=tk' }) (f:Fr g L h' m) (n:News g L h' (keep++((464,tabObj ps)::rest'))) (t3:TabL ps.toList)
  (wd:Wd kept w lg μs st.1 st.2 rest') (dis:∀ p∈keep++[(464,tabObj ps)],p.1∉rest'.map (·.1)):AbEnd w g L m lg μs keep kept st s fl s₁
theorem fails_cMg {ks:List Int} {stp:Str} {kd:Int} {at_ j:Nat} {nm:Str}:fails nm (cMg ks stp kd at_ j)=if nm=stp∧stp≠Str.ofString "" ∧ j=at_ then some kd else none:=by
 by_cases h:stp≠Str.ofString "" ∧ j=at_
 ·have hD:(cMg ks stp kd at_ j).D=[(.str stp,.int kd)]:=if_pos h
  by_cases c:nm=stp
  ·subst c
   rw [if_pos ⟨rfl,h⟩]
   refine fails_some ?_
   rw [hD]
   simp [PySem.Spec.lookup,PySem.Spec.same]
  ·rw [if_neg fun q=>c q.1]
   refine fails_none ?_
   rw [hD]
   simp [PySem.Spec.lookup,PySem.Spec.same]
   exact fun h=>c h.symm
 ·rw [if_neg fun q=>h q.2]
  refine fails_none ?_
  have hD:(cMg ks stp kd at_ j).D=[]:=if_neg h
  rw [hD]
  rfl
theorem ph_of {w:World} {lg:Addr} {ks:List Int} {μs:List Mg} {mi:Array Value} {rest:Rest} {stp:Str} {kd:Int} {at0:Addr} {at_:Nat} (J:JP w lg ks μs mi rest stp kd at0) (h1:stp≠Str.ofString "" → ∃ μ,μs[at_]?=some μ∧at0=μ.M) (h2:stp=Str.ofString "" → at0=0) :
  Ph ks.length (fun j=>(μs[j]?).getD (cMg ks stp kd at_ j)) (cMg ks stp kd at_):=by
 have g:∀ j,j<ks.length→∃ μ,μs[j]?=some μ∧(μs[j]?).getD (cMg ks stp kd at_ j)=μ:=fun j hj=>by
  have:μs[j]?=some (μs[j]'(by rw [J.len]; exact hj)):=List.getElem?_eq_getElem _
  exact ⟨_,this,by rw [this]; rfl⟩
 have inj:∀ (i j:Nat) (μ ν:Mg),μs[i]?=some μ→μs[j]?=some ν→μ.M=ν.M→i=j:=fun i j μ ν hi hj e=>by
  have h1:(μs.map (·.M))[i]?=some μ.M:=by rw [List.getElem?_map,hi]; rfl
  have h2:(μs.map (·.M))[j]?=some ν.M:=by rw [List.getElem?_map,hj]; rfl
  exact (List.getElem?_inj (List.getElem?_eq_some_iff.mp h1).1 J.nodup).mp (by rw [h1,h2,e])
 refine ⟨fun i hi j hj e=>?_,fun j=>rfl,fun j hj=>?_,fun j hj=>?_,fun j hj nm=>?_⟩
 ·obtain ⟨μ,hμ,e1⟩:=g i hi
  obtain ⟨ν,hν,e2⟩:=g j hj
  try dsimp only at e
  rw [e1,e2] at e
  exact inj i j μ ν hμ hν e
 ·obtain ⟨μ,hμ,e1⟩:=g j hj
  try dsimp only
  rw [e1]
  exact (J.at_ j μ hμ).1
 ·obtain ⟨μ,hμ,e1⟩:=g j hj
  try dsimp only
  rw [e1]
  exact (J.at_ j μ hμ).2
 ·obtain ⟨μ,hμ,e1⟩:=g j hj
  have hm:=List.mem_of_getElem? hμ
  try dsimp only
  rw [e1,J.plan.fails hm,fails_cMg]
  by_cases c:stp=Str.ofString ""
  ·rw [if_neg fun q=>Nat.ne_of_gt (J.pos μ hm) (q.2.trans (h2 c)),if_neg fun q=>q.2.1 c]
  ·obtain ⟨ν,hν,ea⟩:=h1 c
   by_cases d:nm=stp∧j=at_
   ·rw [if_pos ⟨d.1,by
     have:=d.2 ▸ hμ
     rw [hν] at this
     rw [ea,Option.some.inj this]⟩,if_pos ⟨d.1,c,d.2⟩]
   ·rw [if_neg fun q=>d ⟨q.1,inj _ _ _ _ hμ hν (q.2.trans ea)⟩,if_neg fun q=>d ⟨q.1,q.2.2⟩]
theorem out_of {ml:List Mg} {σ σ₃:Addr→Ms} {rows₃:List (Str×Str)} {er:Str} {sh:(Addr→Ms)→List (Int×Int)} {X:List Mg→Prop} (out:(er=Str.ofString "none" ∧ ∃ voted,tryPart (sortMg ml) σ []=((σ₃,rows₃,none),voted)) ∨
   ∃ kd σ₀ rows₀ voted,er=errOf kd∧(kd=1 ∨ kd=2)∧tryPart (sortMg ml) σ []=((σ₀,rows₀,some kd),voted)∧σ₃=(cleanSt (sortMg ml) voted (σ₀,rows₀)).1∧rows₃=(cleanSt (sortMg ml) voted (σ₀,rows₀)).2) :
  runOf ml sh σ=⟨rows₃,sh σ₃,er,sh (abOut er ml (σ₃,rows₃)).1,(abOut er ml (σ₃,rows₃)).2.drop rows₃.length⟩:=by
 rcases out with ⟨rfl,voted,tp⟩|⟨kd,σ₀,rows₀,voted,rfl,hk,tp,rfl,rfl⟩
 ·have e:abOut (Str.ofString "none") ml (σ₃,rows₃)=(σ₃,rows₃):=if_pos rfl
  unfold runOf
  rw [tp,e]
  dsimp only
  rw [List.drop_length]
 ·have hne:errOf kd≠Str.ofString "none" := by rcases hk with rfl|rfl<;>decide
  have e:∀ st,abOut (errOf kd) ml st=ml.foldl (fun st μ=>effAb μ st) st:=fun st=>if_neg hne
  unfold runOf
  rw [tp,e]
theorem rows_dat {rest nw:Rest} (hs:∀ p∈rest,p∈nw):∀ {vs:List Value} {rs:List (Str×Str)},RowsAt rest vs rs→DatAll nw vs (rs.map rowD)
 | [],[],_=>.nil
 | v::vs,r::rs,⟨⟨T,ta,tb,e,hm⟩,b⟩=>by
  subst e
  exact .cons (.tuple (vs:=[.str r.1 ta,.str r.2 tb]) (n:=0) (hs _ hm) (.cons (.str _ _) (.cons (.str _ _) .nil))) (rows_dat hs b)
theorem rows_drop {rest:Rest} (k:Nat) {vs:List Value} {rs:List (Str×Str)} (h:RowsAt rest vs rs):RowsAt rest (vs.drop k) (rs.drop k):=by
 induction k generalizing vs rs with
 | zero=>exact h
 | succ k ih=>
  cases vs with
  | nil=>
   cases rs with
   | nil=>exact h
   | cons r rs=>exact h.elim
  | cons v vs=>
   cases rs with
   | nil=>exact h.elim
   | cons r rs=>exact ih h.2
theorem pick_map {l:List Mg} {φ:Nat→Mg}:∀ {os:List Nat},(∀ j∈os,l[j]?=some (φ j))→(os.filterMap fun k=>l[k]?)=os.map φ
 | [],_=>rfl
 | j::r,h=>by
  rw [List.filterMap_cons,h j (.head _),List.map_cons,pick_map fun i hi=>h i (.tail _ hi)]
theorem pick_drop {l:List Value} {n:Nat}:kms_pick l (some (n:Int)) none=l.drop n:=by
 unfold kms_pick kms_lo kms_hi
 simp only [Int.toNat_natCast]
 rw [if_neg (by omega)]
 by_cases h:n ≤ l.length
 ·rw [Nat.min_eq_left h,List.take_of_length_le (by rw [List.length_drop]; exact Nat.le_refl _)]
 ·rw [Nat.min_eq_right (by omega),List.drop_length,List.take_nil,List.drop_eq_nil_of_le (by omega)]
section
local macro_rules | `(tactic| walk_at "exec For Name Call cons nil") => `(tactic| k_dflt (refine wpAny_For ?_))
local macro_rules | `(tactic| walk_at "call type:list") => `(tactic| refine Opq.out ?_)
theorem paired_get {α β:Type} {F:α→β→Prop} (l:List α) (r:List β) (h:l.length=r.length) (g:∀ (j:Nat) (a:α),l[j]?=some a→∃ b,r[j]?=some b∧F a b):Paired F l r:=by
 induction l generalizing r with
 | nil=>cases r with
  | nil=>exact .nil
  | cons d ds=>cases h
 | cons y ys ih=>cases r with
  | nil=>cases h
  | cons d ds=>
   obtain ⟨e,he,hc⟩:=g 0 y rfl
   obtain rfl:=Option.some.inj he
   exact .cons hc (ih ds (Nat.succ.inj h) fun j v hv=>g (j+1) v hv)
theorem list_rangeK {prog:Program} {w:World} {A:Around} {E:Vp} {s:Shared} {g:Heap} {L r:Addr} {m:Sm} {nw:Rest} {n:Nat} {t u v:Tok} {Q:Vp} (hh:A.handled=none) (F:Fr g L s.heap m) (N:News g L s.heap nw) (hr:IsRange s.heap r 0 n 1 t u v) (hn:n ≤ 1000)
  (h:∀ h' tk D xs k,Fr g L h' m→News g L h' ((D,listOf xs k)::nw)→(∀ p∈nw,@LT.lt Nat _ p.1 D)→IntsAt xs ((List.range n).map Int.ofNat)→Q (.ref D) { s with heap:=h',toks:=tk }) :
  wpAny (model prog w) A (call (.type "list") [.ref r]) Q E s:=by
 have hsz:Builtin.Range.rangeSize 0 n 1=n:=by
  unfold Builtin.Range.rangeSize
  simp
  try omega
 refine call_list_range hh hr (small_n hn) hsz (by k_room) fun h' tk acc k st hD hi=>?_
 have fD:s.heap.get? s.heap.objs.size=none:=by
  cases q:s.heap.get? s.heap.objs.size with
  | none=>rfl
  | some o=>exact absurd (Heap.lt_size q) (Nat.lt_irrefl _)
 refine h h' tk _ acc k (fr_mod0 F fun b o e _=>st b o e) (nms_cons ⟨hD,fun q=>?_,?_⟩ fun p hp=>news_mod0 N (fun b o e _=>st b o e) p hp) (fun p hp=>Heap.lt_size (N p hp).1) ?_
 ·obtain ⟨oL,_,_,hL,_⟩:=F.ns
  have q:s.heap.objs.size=L:=q
  rw [q,hL] at fD; cases fD
 ·cases q:g.get? s.heap.objs.size with
  | none=>rfl
  | some o=>have:=F.keep _ _ q; rw [fD] at this; cases this
 ·refine paired_get _ _ (by rw [Array.length_toList,hi.1,List.length_map,List.length_range]) fun j v hv=>?_
  rw [Array.getElem?_toList] at hv
  obtain ⟨t,rfl⟩:=hi.2 j v hv
  have hj:j<n:=hi.1 ▸ (Array.getElem?_eq_some_iff.mp hv).1
  refine ⟨(j:Int),by rw [List.getElem?_map,List.getElem?_range hj]; rfl,t,?_⟩
  rw [show (0+(j:Int) * 1)=(j:Int) by omega]
theorem Paired.erase {α β:Type} {F:α→β→Prop} (k:Nat) {l:List α} {r:List β} (h:Paired F l r):Paired F (l.eraseIdx k) (r.eraseIdx k):=by
 induction h generalizing k with
 | nil=>rw [List.eraseIdx_nil,List.eraseIdx_nil]; exact .nil
 | cons h r ih=>cases k with
  | zero=>exact r
  | succ k=>exact .cons h (ih k)
theorem erase_map {α β:Type} (f:α→β):∀ (k:Nat) (l:List α),(l.map f).eraseIdx k=(l.eraseIdx k).map f
 | _,[]=>rfl
 | 0,_::_=>rfl
 | k+1,a::l=>by
  show f a::(l.map f).eraseIdx k=f a::(l.eraseIdx k).map f
  rw [erase_map f k l]
theorem erase_perm {α:Type}:∀ (k:Nat) (l:List α) (h:k<l.length),(l[k]::l.eraseIdx k).Perm l
 | _,[],h=>absurd h (Nat.not_lt_zero _)
 | 0,a::l,_=>.refl _
 | k+1,a::l,h=>(List.Perm.swap a _ _).trans ((erase_perm k l (Nat.lt_of_succ_lt_succ h)).cons a)
theorem pop_meets {prog:Program} {w:World} {A:Around} {E:Vp} {s:Shared} {a b:Value} {Q:Vp} {S:PySem.Spec} (h1:s.TypeIs a "list") (g:Meets (Builtin.«list.pop» ⟨[a,b],[]⟩) S) (h:S A (wants Q E) s) :
  wpAny (model prog w) A (call (.builtin "list.pop") [a,b]) Q E s:=
 call_meets (B:=Builtin.«list.pop») PySem.F.slot_list_pop h1 PySem.F.entry_list_pop (PySem.F.args_list_pop_2 _ _) g h
theorem pop_any {prog:Program} {w:World} {A:Around} {E:Vp} {s:Shared} {h₀:Heap} {L D:Addr} {m:Sm} {news:Rest} {g:Obj→Rest} {its:Array Value} {n k:Nat} {i:Int} {t:Tok} {y:Value} {Q:Vp}
  (F:Fr h₀ L s.heap m) (N:News h₀ L s.heap news) (U:UpdF D (listOf its n) news g) (hz:its.size ≤ sizeLine) (hz':its.size ≤ 1000) (hik:i=(k:Int)) (hy:its[k]?=some y)
  (h:∀ h' n',Fr h₀ L h' m→News h₀ L h' (g (listOf (its.eraseIdxIfInBounds k) n'))→Q y { s with heap:=h' }):wpAny (model prog w) A (call (.builtin "list.pop") [.ref D,.int i t]) Q E s:=by
 obtain ⟨pre,post,rfl,hg,a,c⟩:=U.split
 have z:=N (D,listOf its n) (List.mem_append.mpr (.inr (.head _)))
 have hk:=(Array.getElem?_eq_some_iff.mp hy).1
 have hf:Builtin.List.listFitsIndex i=true:=by
  unfold Builtin.List.listFitsIndex
  rw [Bool.and_eq_true]
  exact ⟨decide_eq_true (by k_room),decide_eq_true (by k_room)⟩
 have hq:seqIndex? i its.size=some k:=by
  unfold seqIndex?
  rw [if_neg (show ¬ i<0 by omega)]
  dsimp only
  rw [if_pos]
  ·rw [hik,Int.toNat_natCast]
  rw [Bool.and_eq_true]
  exact ⟨decide_eq_true (by k_room),decide_eq_true (by k_room)⟩
 have X:News h₀ L (s.heap.update D (Obj.mapSeq fun xs=>xs.eraseIdxIfInBounds k)) (g (listOf (its.eraseIdxIfInBounds k) (n+1))):=by
  rw [hg]
  refine kl_turn (fun xs=>xs.eraseIdxIfInBounds k) N a c rfl ?_
  unfold Array.eraseIdxIfInBounds
  rw [dif_pos hk,Array.size_eraseIdx]
  omega
 exact pop_meets ⟨_,z.1,rfl⟩ (@MeetsSeq.list_pop_at D its n i t k y hf hq hy hz) ⟨z.1,h _ (n+1) (F.change (Heap.SameBut.update ..) z.2.1 z.2.2) X⟩
noncomputable abbrev frO (nu ma sh le od:Value) (rk:Option Value):Sm:=fun y=>if y=Str.ofString "k" then rk else if y=Str.ofString "order" then some od else if y=Str.ofString "left" then some le else if y=Str.ofString "shift" then some sh else if y=Str.ofString "many" then some ma else if y=Str.ofString "numbers" then some nu else none
abbrev Z0iP (pq:Program) (w:World) (s:Shared) (B:Heap) (nL:Addr) (ni:Array Value) (nn:Nat) (ns:List Int) (n:Nat) (tn ts:Tok) (sh:Int) (R:Rp) (loose:List Str) (mg mb:Sm) (dp:Nat) (fr_:Option (List Env)) (gd:Option (List Code)) (un:Nat):Prop:=∀ (XB:(hd.heap_1 w.params).In B) (TB:TopRead pq loose mg mb B) (hB:B.StaysIn s.heap) (hroom:dp+20<recursionLimit) (hN:s.heap.get? nL=some (listOf ni nn)) (fN:B.get? nL=none) (hi:IntsAt ni ns) (hz:1 ≤ ns.length∧ns.length<100) (hb:∀ x∈ns,0 ≤ x∧x<1000000000) (hn:2 ≤ n∧n ≤ 5) (hsh:sh=1 ∨ sh=2) (h:∀ h' tk' D oi k (os:List Nat),Mod [] s.heap h'→h'.get? D=some (listOf oi k)→s.heap.get? D=none→IntsAt oi (os.map Int.ofNat)→os.Perm (List.range n)→R (.ok (.ret (.ref D))) { s with heap:=h',toks:=tk' }),codeAny (model P2 w) (Around.mk none dp fr_ gd un) (.call (.ref 960) ⟨[.ref nL,.int n tn,.int sh ts],[]⟩) R s
abbrev Z0icq:=U fun a=>U fun b=>U fun c d=>T2 (T6 (T6 (T6 Z0iP a) b) c) d
def Z0ic:=eps Z0icq ⟨inferInstance⟩
def Z0i.pq:=Z0ic.1.1
def Z0i.w:=Z0ic.1.2.1
def Z0i.s:=Z0ic.1.2.2.1
def Z0i.B:=Z0ic.1.2.2.2.1
def Z0i.nL:=Z0ic.1.2.2.2.2.1
def Z0i.ni:=Z0ic.1.2.2.2.2.2
def Z0i.nn:=Z0ic.2.1.1
def Z0i.ns:=Z0ic.2.1.2.1
def Z0i.n:=Z0ic.2.1.2.2.1
def Z0i.tn:=Z0ic.2.1.2.2.2.1
def Z0i.ts:=Z0ic.2.1.2.2.2.2.1
def Z0i.sh:=Z0ic.2.1.2.2.2.2.2
def Z0i.R:=Z0ic.2.2.1.1
def Z0i.loose:=Z0ic.2.2.1.2.1
def Z0i.mg:=Z0ic.2.2.1.2.2.1
def Z0i.mb:=Z0ic.2.2.1.2.2.2.1
def Z0i.dp:=Z0ic.2.2.1.2.2.2.2.1
def Z0i.fr_:=Z0ic.2.2.1.2.2.2.2.2
def Z0i.gd:=Z0ic.2.2.2.1
def Z0i.un:=Z0ic.2.2.2.2
open Z0i in
noncomputable def Z0ib:PSigma fun P:(Heap)→(Addr)→(Heap)→Prop=>(∀ g L' h₁,P g L' h₁)→Z0iP Z0i.pq Z0i.w Z0i.s Z0i.B Z0i.nL Z0i.ni Z0i.nn Z0i.ns Z0i.n Z0i.tn Z0i.ts Z0i.sh Z0i.R Z0i.loose Z0i.mg Z0i.mb Z0i.dp Z0i.fr_ Z0i.gd Z0i.un:=by
 apply PSigma.mk
 case snd=>
 intro hP
 intro XB TB hB hroom hN fN hi hz hb hn hsh h
 k_dflt (refine' enter (Λ:=[(nL,listOf ni nn)]) XB TB hB ?k1 ?k2 (by k_is) (by k_is) (by show dp<recursionLimit; k_room) (BindsTo.of_eq rfl) (locs rfl) ?_ rfl rfl rfl (by decide))
 (case k1=>exact nms_cons hN nms_nil)
 (case k2=>exact nms_cons fN nms_nil)
 intro g L' h₁
 revert XB TB hB hroom hN fN hi hz hb hn hsh h
 exact hP g L' h₁
abbrev Z0idq:=T3 Z0ib.1
def Z0id:=eps Z0idq ⟨inferInstance⟩
def Z0i.g:=Z0id.1
def Z0i.L':=Z0id.2.1
def Z0i.h₁:=Z0id.2.2
set_option genSizeOf false in
set_option genInjectivity false in
open Z0i in
inductive LoJ (lD oD:Addr) (i:Nat) (m:Sm) (nw:Rest):Prop where
 | mk (rk:Option Value) (lv:Array Value) (lc:Nat) (ov:Array Value) (oc:Nat) (ls:List Nat) (os:List Nat) (f1:m=frO (.ref nL) (.int n tn) (.int sh ts) (.ref lD) (.ref oD) rk) (f2:nw=[(oD,listOf ov oc),(lD,listOf lv lc),(nL,listOf ni nn)]) (f3:IntsAt lv (ls.map Int.ofNat)) (f4:IntsAt ov (os.map Int.ofNat)) (f5:(os++ls).Perm (List.range n)) (f6:os.length=i):LoJ lD oD i m nw
open Z0i in
theorem Z0im:Z0ib.1 Z0i.g Z0i.L' Z0i.h₁:=by
 intro XB TB hB hroom hN fN hi hz hb hn hsh h
 intro hg l1 KX TX F N
 clear l1
 replace hsh:=sh12 hsh
 k_steps
 rename IsRange _ _ _ _ _ _ _ _=>hR
 rename Fr _ _ _ _=>F₁
 rename News _ _ _ _=>N₁
 refine Opq.mk ?_
 refine list_rangeK (n:=n) rfl F₁ N₁ hR (by k_room) fun h₂ tk₂ lD lv lc F₂ N₂ ll hlv=>?_
 clear F₁ N₁ hR
 k_steps
 rename IsRange _ _ _ _ _ _ _ _=>hR
 rename Fr _ _ _ _=>F₃
 rename News _ _ _ _=>N₃
 have ll1:=ll _ (.head _)
 obtain ⟨oD,F₄,N₄,lo1,lo2⟩:∃ oD:Addr,Fr g L' _ (frO (.ref nL) (.int n tn) (.int sh ts) (.ref lD) (.ref oD) none)∧News g L' _ [(oD,listOf #[] 0),(lD,listOf lv lc),(nL,listOf ni nn)]∧@LT.lt Nat _ lD oD∧@LT.lt Nat _ nL oD:=by
  refine ⟨_,fr_same F₃ fun y=>?_,news_tl N₃,lt_in (by with_reducible assumption) (by k_mem),lt_in (by with_reducible assumption) (by k_mem)⟩
  by_cases e1:y=Str.ofString "left"
  ·rw [if_pos e1]; subst e1; rfl
  rw [if_neg e1]
  by_cases e2:y=Str.ofString "order"
  ·rw [if_pos e2]; subst e2; rfl
  rw [if_neg e2]
  by_cases e3:y=Str.ofString "k"
  ·subst e3; rfl
  show _=if y=Str.ofString "k" then _ else if y=Str.ofString "order" then _ else if y=Str.ofString "left" then _ else _
  rw [if_neg e3,if_neg e2,if_neg e1]
  show List.lookup y [(Str.ofString "shift",Value.int sh ts),(Str.ofString "many",Value.int n tn),(Str.ofString "numbers",.ref nL)]=_
  simp only [lookup_if]
  rfl
 clear F₃ N₃
 have nl1:@Ne Nat oD lD:=Nat.ne_of_gt lo1
 have nl2:@Ne Nat oD nL:=Nat.ne_of_gt lo2
 have nl3:@Ne Nat lD nL:=Nat.ne_of_gt ll1
 refine for_range (fun i m nw=>LoJ lD oD i m nw)
  rfl rfl rfl rfl (by k_room) ?turn ?done ⟨none,lv,lc,#[],0,List.range n,[],rfl,rfl,hlv,(show Paired _ [] [] from .nil),.refl _,rfl⟩ F₄ N₄ hR
 case turn=>
  rintro i m nw it hp₉ tk ti hin ⟨rk,lv,lc,ov,oc,ls,os,rfl,rfl,hlv,hov,hp,hlen⟩ nit F N
  clear F₄ N₄ hR
  have ni1:@Ne Nat it oD:=fun e=>nit _ (.head _) e.symm
  have ni2:@Ne Nat it lD:=fun e=>nit _ eM1 e.symm
  k_steps
  refine Calls.call_len_list (News.isList N (by k_mem)) (by rw [hi.len]; exact i63 (And.right ‹1 ≤ ns.length∧ns.length<100›) (by decide)) ?_
  rw [hi.len]
  k_steps
  obtain ⟨j,hj,hjn⟩:=fmod_ix (i:Int) (n:=ns.length) hz.1
  rw [hj]
  obtain ⟨tx,hx⟩:=hi.at (i:=j) hjn
  have hbx:=hb _ (List.getElem?_eq_some_iff.mp (show ns[j]?=some (ns.getD j 0) by rw [List.getD_eq_getElem?_getD,List.getElem?_eq_getElem hjn]; rfl) |>.2 ▸ List.getElem_mem _)
  generalize ns.getD j 0=x at hx hbx
  refine sub_list (News.isList N (by k_mem)) (Int.natCast_nonneg j) (i63 hjn (Nat.le_of_lt (Nat.lt_of_lt_of_le hz.2 (by decide)))) (by rw [Int.toNat_natCast]; exact hx) ?_
  have hll:ls.length=n - i:=by
   have:=hp.length_eq
   rw [List.length_append,List.length_range] at this
   exact len_rest this hlen
  have hlp:0<ls.length:=by rw [hll]; exact Nat.sub_pos_of_lt hin
  have hl5:ls.length ≤ 5:=by rw [hll]; exact Nat.le_trans (Nat.sub_le _ _) hn.2
  k_steps
  refine Calls.call_len_list (News.isList N (by k_mem)) (by rw [hlv.len,List.length_map]; exact i63 (Nat.lt_succ_of_le ‹ls.length ≤ 5›) (by decide)) ?_
  rw [hlv.len,List.length_map]
  k_steps
  obtain ⟨z,hz',hzl⟩:=fmod_ix (x.fdiv ((i:Int)+sh)+i) (n:=ls.length) hlp
  obtain ⟨ty,hy⟩:=hlv.at (i:=z) (by rw [List.length_map]; exact hzl)
  refine' pop_any (its:=lv) (n:=lc) (k:=z) F N ?U (by rw [hlv.len,List.length_map,sizeLine_eq]; exact le_big hl5 rfl) (by rw [hlv.len,List.length_map]; exact le_big hl5 rfl) hz' hy ?_
  (case U=>k_updF)
  intro hp₈ n₈ F₈ N₈
  try dsimp only at N₈
  clear F N
  have ey:(ls.map Int.ofNat).getD z 0=((ls[z]:Nat):Int):=by
   rw [List.getD_eq_getElem?_getD,List.getElem?_map,List.getElem?_eq_getElem hzl]
   rfl
  rw [ey] at hy ⊢
  have hov5:ov.size<100:=by rw [hov.len,List.length_map,hlen]; exact Nat.lt_trans hin (Nat.lt_of_le_of_lt hn.2 (by decide))
  k_steps
  rename Fr _ _ _ _=>F₉
  rename News _ _ _ _=>N₉
  refine ⟨rfl,_,_,_,_,rfl,⟨some (.int (i:Int) ti),_,_,_,_,ls.eraseIdx z,os++[ls[z]],rfl,rfl,?e1,?e2,?e3,?e4⟩,nms_cons ni1.symm (nms_cons ni2.symm (nms_cons (nit _ eM2) nms_nil)),fr_same F₉ fun y=>?fr,N₉⟩
  case e1=>
   unfold IntsAt
   rw [Array.toList_eraseIdxIfInBounds,←erase_map]
   exact Paired.erase z hlv
  case e2=>
   unfold IntsAt
   rw [Array.toList_push,List.map_append]
   exact Paired.snoc hov ⟨ty,rfl⟩
  case e3=>
   rw [List.append_assoc]
   exact ((erase_perm z ls hzl).append_left os).trans hp
  case e4=>rw [List.length_append,hlen]; rfl
  case fr=>
   by_cases e:y=Str.ofString "k"
   ·rw [if_pos e,e]; rfl
   ·rw [if_neg e]
    show (if y=Str.ofString "k" then _ else _)=if y=Str.ofString "k" then _ else _
    rw [if_neg e,if_neg e]
 case done=>
  rintro m nw hp₉ tk ⟨rk,lv,lc,ov,oc,ls,os,rfl,rfl,hlv,hov,hp,hlen⟩ F N
  clear F₄ N₄ hR
  k_steps
  have els:ls=[]:=by
   have:=hp.length_eq
   rw [List.length_append,List.length_range] at this
   exact List.length_eq_zero_iff.mp (len_rest0 this hlen)
  rw [els,List.append_nil] at hp
  exact h _ _ oD ov oc os (mod_of hg F N (ns_cons (fun _=>mk_in hN (by k_mem)) ns_nil)) (N _ (.head _)).1 (fresh_of hg (N _ (.head _)).2.2 fun hm=>nl2 (List.mem_singleton.mp hm)) hov hp
theorem order960 {w:World} {A:Around} {s:Shared} {B:Heap} {nL:Addr} {ni:Array Value} {nn:Nat} {ns:List Int} {n:Nat} {tn ts:Tok} {sh:Int} {R:Rp} {loose:List Str} {mg mb:Sm} (XB:(hd.heap_1 w.params).In B) (TB:TopRead pq loose mg mb B) (hB:B.StaysIn s.heap) (hroom:A.depth+20<recursionLimit) (hh:A.handled=none) (hN:s.heap.get? nL=some (listOf ni nn)) (fN:B.get? nL=none) (hi:IntsAt ni ns) (hz:1 ≤ ns.length∧ns.length<100) (hb:∀ x∈ns,0 ≤ x∧x<1000000000) (hn:2 ≤ n∧n ≤ 5) (hsh:sh=1 ∨ sh=2) (h:∀ h' tk' D oi k (os:List Nat),Mod [] s.heap h'→h'.get? D=some (listOf oi k)→s.heap.get? D=none→IntsAt oi (os.map Int.ofNat)→os.Perm (List.range n)→R (.ok (.ret (.ref D))) { s with heap:=h',toks:=tk' }):codeAny (model P2 w) A (.call (.ref 960) ⟨[.ref nL,.int n tn,.int sh ts],[]⟩) R s:=by
 obtain ⟨hd_,dp,fr_,gd,un⟩:=A
 dsimp only at hroom hh
 subst hh
 exact eps0 Z0icq Z0ic rfl (by with_unfolding_all exact Z0ib.2 (fun g L' h₁=>eps0 Z0idq Z0id rfl (by with_unfolding_all exact Z0im) (g,L',h₁))) ((pq,w,s,B,nL,ni),(nn,ns,n,tn,ts,sh),(R,loose,mg,mb,dp,fr_),(gd,un)) XB TB hB hroom hN fN hi hz hb hn hsh h
end
section
local macro_rules | `(tactic| walk_at "exec For Name Name cons nil") => `(tactic| k_dflt (refine wpAny_For ?_))
local macro_rules | `(tactic| walk_at "subscriptTail Name Slice ref ref") => `(tactic| refine Opq.out ?_)
local macro_rules | `(tactic| walk_at "subscriptTail Name Name ref int") => `(tactic| refine Opq.out ?_)
local macro_rules | `(tactic| walk_at "subscriptTail Name Subscript ref int") => `(tactic| refine Opq.out ?_)
local macro_rules | `(tactic| walk_at "subscriptTail Name Constant ref int") => `(tactic| refine Opq.out ?_)
local macro_rules | `(tactic| walk_at "subscriptTail Subscript Constant ref int") => `(tactic| refine Opq.out ?_)
local macro_rules | `(tactic| walk_at "subscriptTail Subscript Slice ref ref") => `(tactic| refine Opq.out ?_)
local macro_rules | `(tactic| walk_at "binaryOp Add ref ref") => `(tactic| refine Opq.out ?_)
local macro_rules | `(tactic| walk_at "setItem ref int") => `(tactic| refine Opq.out ?_)
local macro_rules | `(tactic| walk_at "eval Dict nil nil") => `(tactic| refine Opq.out ?_)
theorem valueAt_stored {kvs:List (Int×Value)} {k k':Int} {v:Value}:valueAt (stored kvs k v) k'=if k'=k then some v else valueAt kvs k':=by
 unfold stored valueAt
 by_cases h:(kvs.any fun kv=>decide (kv.1=k))=true
 ·rw [if_pos h]
  induction kvs with
  | nil=>cases h
  | cons a r ih=>
   rw [List.map_cons,List.find?_cons]
   by_cases e:a.1=k
   ·rw [if_pos e]
    by_cases e':k'=k
    ·rw [if_pos e',decide_eq_true (by rw [e,e'])]
     rfl
    ·rw [if_neg e',decide_eq_false (by dsimp only; rw [e]; exact fun q=>e' q.symm),List.find?_cons,decide_eq_false (by rw [e]; exact fun q=>e' q.symm)]
     dsimp only
     clear h ih
     congr 1
     induction r with
     | nil=>rfl
     | cons b r ih=>
      rw [List.map_cons,List.find?_cons,List.find?_cons]
      by_cases eb:b.1=k
      ·rw [if_pos eb,decide_eq_false (by dsimp only; rw [eb]; exact fun q=>e' q.symm)]
       exact ih
      ·rw [if_neg eb]
       cases decide (b.1=k') with
       | true=>rfl
       | false=>exact ih
   ·rw [if_neg e,List.find?_cons]
    rw [List.any_cons,decide_eq_false e,Bool.false_or] at h
    by_cases e':a.1=k'
    ·rw [decide_eq_true e',if_neg fun q=>e (e'.trans q)]
    ·rw [decide_eq_false e']
     exact ih h
 ·rw [if_neg h]
  have hn:∀ a∈kvs,a.1≠k:=fun a ha e=>h (List.any_eq_true.mpr ⟨a,ha,decide_eq_true e⟩)
  rw [List.find?_append]
  by_cases e':k'=k
  ·rw [if_pos e',List.find?_eq_none.mpr (fun a ha=>by rw [e']; simpa using hn a ha),Option.none_or,List.find?_cons,decide_eq_true e'.symm]
   rfl
  ·rw [if_neg e',List.find?_cons,decide_eq_false fun q=>e' q.symm,List.find?_nil,Option.or_none]
noncomputable abbrev frW (od fi ke rw fo:Value) (hf:Bool) (rk:Option Value):Sm:=fun y=>if y=Str.ofString "k" then rk else if y=Str.ofString "found" then (if hf then some fo else none) else if y=Str.ofString "rows" then some rw else if y=Str.ofString "keys" then some ke else if y=Str.ofString "first" then some fi else if y=Str.ofString "order" then some od else none
theorem lt_of_all {d:Nat} {l:Rest} (h:AllLt d l):∀ p∈l,@LT.lt Nat _ p.1 d:=by
 induction l with
 | nil=>exact fun _ h=>absurd h List.not_mem_nil
 | cons a l ih=>exact fun p hp=>(List.mem_cons.mp hp).elim (fun e=>e ▸ h.1) (ih h.2 p)
theorem Paired.drop1 {α β:Type} {F:α→β→Prop} {l:List α} {r:List β} (h:Paired F l r):Paired F (l.drop 1) (r.drop 1):=by
 cases h with
 | nil=>exact .nil
 | cons _ h=>exact h
theorem stored_len {kvs:List (Int×Value)} {k:Int} {v:Value}:(stored kvs k v).length ≤ kvs.length+1:=by
 unfold stored
 split
 ·rw [List.length_map]; omega
 ·rw [List.length_append]; exact Nat.le_refl _
noncomputable def Bk (own:Rest) (kvs:List (Int×Value)) (b:Int→List Nat):Prop:=∀ c,(b c=[]∧valueAt kvs c=none) ∨ ∃ a it n,valueAt kvs c=some (.ref a)∧(a,listOf it n)∈own∧IntsAt it ((b c).map Int.ofNat)
theorem dict_get {w:World} {A:Around} {E:Vp} {s:Shared} {d:Addr} {kvs:List (Int×Value)} {c:Int} {t:Tok} {dflt:Value} {Q:Vp} (hd:(d == sysModules)=false) (hm:s.heap.DictOf (intKind P2 w) d kvs)
  (h:Q ((valueAt kvs c).getD dflt) { s with toks:=s.toks+1 }):wpAny (model P2 w) A (call (.builtin "dict.get") [.ref d,.int c t,dflt]) Q E s:=
 call_meetsIn PySem.F.slot_dict_get hm.typeIs PySem.F.entry_dict_get (PySem.F.args_dict_get_3 _ _ _) (meets_dict_get_default (intKind P2 w) d (intKind_is _ _ _ _) hd dflt) ⟨_,hm.mapOf,h⟩
theorem sub_dict {w:World} {A:Around} {E:Vp} {s:Shared} {value slice:Expr} {d:Addr} {kvs:List (Int×Value)} {c:Int} {t:Tok} {v:Value} {Q:Vp} (hm:s.heap.DictOf (intKind P2 w) d kvs) (hv:valueAt kvs c=some v) (h:Q v { s with toks:=s.toks+1 })
  (hs:subscripted slice false (.ref d) (.int c t)=operate [.ref d,.int c t] (getItem (.ref d) (.int c t)):=by with_unfolding_all rfl) (hg:∀ r,letTemporaryGo value (.ref d) r=pure ():=by intro _; with_unfolding_all rfl) :
  wpAny (model P2 w) A (subscriptTail value slice (.ref d) (.int c t)) Q E s:=subscriptTail_builtin hm.typeIs slot_dict_getitem.lookup (wpAny_getItem_of (intKind_is _ _ _ _) hm.mapOf hv h) hs hg
abbrev Z0pP (pq:Program) (w:World) (s:Shared) (B:Heap) (oL fL kL:Addr) (oi fi ki:Array Value) (n1 n2 n3:Nat) (od fs:List Nat) (ks:List Int) (R:Rp) (loose:List Str) (mg mb:Sm) (dp:Nat) (fr_:Option (List Env)) (gd:Option (List Code)) (un:Nat):Prop:=∀ (XB:(hd.heap_1 w.params).In B) (TB:TopRead pq loose mg mb B) (hB:B.StaysIn s.heap) (hroom:dp+20<recursionLimit) (hN:∀ p∈[(oL,listOf oi n1),(fL,listOf fi n2),(kL,listOf ki n3)],s.heap.get? p.1=some p.2) (fN:∀ p∈[(oL,listOf oi n1),(fL,listOf fi n2),(kL,listOf ki n3)],B.get? p.1=none) (ho:IntsAt oi (od.map Int.ofNat)) (hf:IntsAt fi (fs.map Int.ofNat)) (hk:IntsAt ki ks) (po:od.Perm (List.range ks.length)) (pf:fs.Perm (List.range ks.length)) (hn:ks.length∈[2,3,4,5]) (h:∀ h' tk' D xi k (xs:List Nat),Mod [] s.heap h'→h'.get? D=some (listOf xi k)→s.heap.get? D=none→IntsAt xi (xs.map Int.ofNat)→xs.Perm (List.range ks.length)→(∀ c,xs.filter (fun j=>decide (ks.getD j 0=c))=fs.filter fun j=>decide (ks.getD j 0=c))→R (.ok (.ret (.ref D))) { s with heap:=h',toks:=tk' }),codeAny (model P2 w) (Around.mk none dp fr_ gd un) (.call (.ref 967) ⟨[.ref oL,.ref fL,.ref kL],[]⟩) R s
abbrev Z0pcq:=U fun a=>U fun b=>U fun c d=>T6 (T6 (T6 (T6 Z0pP a) b) c) d
def Z0pc:=eps Z0pcq ⟨inferInstance⟩
def Z0p.pq:=Z0pc.1.1
def Z0p.w:=Z0pc.1.2.1
def Z0p.s:=Z0pc.1.2.2.1
def Z0p.B:=Z0pc.1.2.2.2.1
def Z0p.oL:=Z0pc.1.2.2.2.2.1
def Z0p.fL:=Z0pc.1.2.2.2.2.2
def Z0p.kL:=Z0pc.2.1.1
def Z0p.oi:=Z0pc.2.1.2.1
def Z0p.fi:=Z0pc.2.1.2.2.1
def Z0p.ki:=Z0pc.2.1.2.2.2.1
def Z0p.n1:=Z0pc.2.1.2.2.2.2.1
def Z0p.n2:=Z0pc.2.1.2.2.2.2.2
def Z0p.n3:=Z0pc.2.2.1.1
def Z0p.od:=Z0pc.2.2.1.2.1
def Z0p.fs:=Z0pc.2.2.1.2.2.1
def Z0p.ks:=Z0pc.2.2.1.2.2.2.1
def Z0p.R:=Z0pc.2.2.1.2.2.2.2.1
def Z0p.loose:=Z0pc.2.2.1.2.2.2.2.2
def Z0p.mg:=Z0pc.2.2.2.1
def Z0p.mb:=Z0pc.2.2.2.2.1
def Z0p.dp:=Z0pc.2.2.2.2.2.1
def Z0p.fr_:=Z0pc.2.2.2.2.2.2.1
def Z0p.gd:=Z0pc.2.2.2.2.2.2.2.1
def Z0p.un:=Z0pc.2.2.2.2.2.2.2.2
open Z0p in
noncomputable def Z0pb:PSigma fun P:(Heap)→(Addr)→(Heap)→Prop=>(∀ g L' h₁,P g L' h₁)→Z0pP Z0p.pq Z0p.w Z0p.s Z0p.B Z0p.oL Z0p.fL Z0p.kL Z0p.oi Z0p.fi Z0p.ki Z0p.n1 Z0p.n2 Z0p.n3 Z0p.od Z0p.fs Z0p.ks Z0p.R Z0p.loose Z0p.mg Z0p.mb Z0p.dp Z0p.fr_ Z0p.gd Z0p.un:=by
 apply PSigma.mk
 case snd=>
 intro hP
 intro XB TB hB hroom hN fN ho hf hk po pf hn h
 k_dflt (refine' enter (Λ:=[(oL,listOf oi n1),(fL,listOf fi n2),(kL,listOf ki n3)]) XB TB hB ?k1 ?k2 (by k_is) (by k_is) (by show dp<recursionLimit; k_room) (BindsTo.of_eq rfl) (locs rfl) ?_ rfl rfl rfl (by decide))
 (case k1=>exact hN)
 (case k2=>exact fN)
 intro g L' h₁
 revert XB TB hB hroom hN fN ho hf hk po pf hn h
 exact hP g L' h₁
abbrev Z0pdq:=T3 Z0pb.1
def Z0pd:=eps Z0pdq ⟨inferInstance⟩
def Z0p.g:=Z0pd.1
def Z0p.L':=Z0pd.2.1
def Z0p.h₁:=Z0pd.2.2
set_option genSizeOf false in
set_option genInjectivity false in
open Z0p in
inductive LwJ (rd:Addr) (i:Nat) (nw:Rest):Prop where
 | mk (o:Obj) (kvs:List (Int×Value)) (own:Rest) (f1:nw=(rd,o)::(kL,listOf ki n3)::(oL,listOf oi n1)::own) (f2:o.IsDictOf (intKind P2 w) kvs) (f3:kvs.length ≤ i) (f4:Bk own kvs (fun c=>(fs.take i).filter fun j=>decide (ks.getD j 0=c))) (f5:∀ p∈own,p.1≠rd):LwJ rd i nw
set_option genSizeOf false in
set_option genInjectivity false in
open Z0p in
inductive LwJ2 (rd xL:Addr) (fb:Int→List Nat) (i:Nat) (nw:Rest):Prop where
 | mk (o:Obj) (kvs:List (Int×Value)) (xi:Array Value) (xc:Nat) (own:Rest) (xs:List Nat) (f1:nw=(rd,o)::(kL,listOf ki n3)::(fL,listOf fi n2)::(xL,listOf xi xc)::own) (f2:o.IsDictOf (intKind P2 w) kvs) (f3:kvs.length ≤ fs.length+i) (f4:IntsAt xi (xs.map Int.ofNat)) (f5:xs.length=i) (f6:Bk own kvs (fun c=>(fb c).drop ((od.take i).filter fun j=>decide (ks.getD j 0=c)).length)) (f7:(∀ c,(xs.filter fun j=>decide (ks.getD j 0=c))=(fb c).take ((od.take i).filter fun j=>decide (ks.getD j 0=c)).length)) (f8:(∀ p∈own,p.1≠rd)) (f9:∀ p∈own,p.1≠xL):LwJ2 rd xL fb i nw
open Z0p in
theorem Z0pm:Z0pb.1 Z0p.g Z0p.L' Z0p.h₁:=by
 intro XB TB hB hroom hN fN ho hf hk po pf hn h
 intro hg l1 KX TX F N
 clear l1
 k_steps
 refine Opq.mk ?_
 refine newDict_K F N TX.nolimit fun rd h₂ o₂ F₂ N₂ l₂ lo₂ _ _ hd₂ _=>?_
 have nrd:∀ p∈[(oL,listOf oi n1),(fL,listOf fi n2),(kL,listOf ki n3)],@Ne Nat p.1 rd:=fun p hp=>Nat.ne_of_lt (l₂ p hp)
 clear F N
 k_steps
 rename Fr _ _ _ _=>F₃
 rename News _ _ _ _=>N₃
 rename Heap=>h₃
 replace F₃:Fr g L' h₃ (frW (.ref oL) (.ref fL) (.ref kL) (.ref rd) .none false none):=by
  refine fr_same F₃ fun y=>?_
  by_cases e1:y=Str.ofString "rows"
  ·rw [if_pos e1]; subst e1; rfl
  rw [if_neg e1]
  by_cases e2:y=Str.ofString "k"
  ·subst e2; rfl
  by_cases e3:y=Str.ofString "found"
  ·subst e3; rfl
  show _=if y=Str.ofString "k" then _ else if y=Str.ofString "found" then _ else if y=Str.ofString "rows" then _ else _
  rw [if_neg e2,if_neg e3,if_neg e1]
  show List.lookup y [(Str.ofString "keys",Value.ref kL),(Str.ofString "first",.ref fL),(Str.ofString "order",.ref oL)]=_
  simp only [lookup_if]
  rfl
 refine wpAny_pyIter_list (items:=fi) (News.isList N₃ (by k_mem)) ?_
 have F₄:=F₃.push { cls:=.type "list_iterator",data:=.fields #[.ref fL,.int 0 0] }
 have N₄:=N₃.push F₃ { cls:=.type "list_iterator",data:=.fields #[.ref fL,.int 0 0] }
 have nI:=fun p hp=>Nat.ne_of_lt (Heap.lt_size (N₃ p hp).1)
 have N₅:News g L' (h₃.push { cls:=.type "list_iterator",data:=.fields #[.ref fL,.int 0 0] }) ((h₃.objs.size,{ cls:=.type "list_iterator",data:=.fields #[.ref fL,.int 0 0] })::(fL,listOf fi n2)::[(rd,o₂),(kL,listOf ki n3),(oL,listOf oi n1)]):=nms_cons (N₄ _ (.head _)) (nms_cons (N₄ (fL,listOf fi n2) (by k_mem)) (nms_cons (N₄ (rd,o₂) (by k_mem)) (nms_cons (N₄ (kL,listOf ki n3) (by k_mem)) (nms_cons (N₄ (oL,listOf oi n1) (by k_mem)) nms_nil))))
 have hn5:ks.length ≤ 5:=le25 hn
 have lf:fs.length=ks.length:=by rw [pf.length_eq,List.length_range]
 have lo:od.length=ks.length:=by rw [po.length_eq,List.length_range]
 have lf5:fs.length ≤ 5:=lf ▸ hn5
 have lo5:od.length ≤ 5:=lo ▸ hn5
 refine for_list (it:=h₃.objs.size) (J:=fun i nw=>LwJ rd i nw)
  (m₀:=frW (.ref oL) (.ref fL) (.ref kL) (.ref rd) .none false none) (rv₀:=none) rfl rfl rfl (fun i nw _=>.inl rfl) ?turn ?done ⟨rfl,rfl⟩ ⟨o₂,[],[],rfl,hd₂,Nat.le_refl _,fun c=>.inl ⟨rfl,rfl⟩,fun _ h=>nomatch h⟩ ?ni (fr_same F₄ fun y=>?fr) N₅
 case fr=>
  by_cases e:y=Str.ofString "k"
  ·rw [if_pos e,e]; rfl
  ·rw [if_neg e]
 case ni=>exact nms_cons (nI _ (by k_mem)) (nms_cons (nI _ (by k_mem)) (nms_cons (nI _ (by k_mem)) nms_nil))
 case turn=>
  rintro i v nw h₅ tk₅ io hoi hvi ⟨o,kvs,own,rfl,hdo,hkl,hB,nrd'⟩ nit F N
  clear F₃ F₄ N₃ N₄ N₅ nI
  generalize h₃.objs.size=it at N nit
  have hi5:i<fs.length:=by
   have h1:=(Array.getElem?_eq_some_iff.mp hvi).1
   have h2:=hf.len
   rw [List.length_map] at h2
   exact h2 ▸ h1
  obtain ⟨k,hk'⟩:∃ k,fs[i]?=some k:=⟨_,List.getElem?_eq_getElem hi5⟩
  have hkn:k<ks.length:=List.mem_range.mp (pf.mem_iff.mp (List.mem_of_getElem? hk'))
  obtain ⟨tk',hv'⟩:=hf.at (i:=i) (by rw [List.length_map]; exact hi5)
  rw [hvi,List.getD_eq_getElem?_getD,List.getElem?_map,hk'] at hv'
  obtain rfl:=Option.some.inj hv'
  replace F:=fr_same (m':=frW (.ref oL) (.ref fL) (.ref kL) (.ref rd) .none false (some (.int (k:Int) tk'))) F fun y=>by
   by_cases e:y=Str.ofString "k"
   ·rw [if_pos e,e]; rfl
   ·rw [if_neg e]
    show (if y=Str.ofString "k" then _ else _)=if y=Str.ofString "k" then _ else _
    rw [if_neg e,if_neg e]
  have nitR:@Ne Nat it rd:=fun e=>nit _ (.head _) e.symm
  obtain ⟨c,hc⟩:∃ c,c=ks.getD k 0:=⟨_,rfl⟩
  obtain ⟨tc,hkx⟩:=hk.at hkn
  rw [←hc] at hkx
  obtain ⟨b,hb⟩:∃ b:Int→List Nat,b=fun c=>(fs.take i).filter fun j=>decide (ks.getD j 0=c):=⟨_,rfl⟩
  rw [←hb] at hB
  have hbl:∀ c,(b c).length<100:=fun c=>by
   rw [hb]
   have h1:=List.length_filter_le (fun j=>decide (ks.getD j 0=c)) (fs.take i)
   have h2:=List.length_take_le i fs
   exact Nat.lt_of_le_of_lt h1 (Nat.lt_of_le_of_lt h2 (Nat.lt_of_lt_of_le hi5 (le_big lf5 rfl)))
  k_steps
  refine Opq.mk ?_
  refine sub_list (News.isList N (by k_mem)) (Int.natCast_nonneg _) (k63 ‹k<ks.length› ‹ks.length ≤ 5›) (by rw [Int.toNat_natCast]; exact hkx) ?_
  k_steps
  rename Fr _ _ _ _=>F₆
  rename News _ _ _ _=>N₆
  rename Addr=>e
  have ndl:∀ {o:Obj} {kvs:List (Int×Value)} {it:Array Value} {n:Nat},o.IsDictOf (intKind P2 w) kvs→listOf it n≠o:=fun {o kvs it n} ⟨es,ep,_,hdt,_⟩ q=>by
   rw [←q] at hdt
   cases hdt
  refine dict_get lo₂ (Heap.dictOf_iff.mpr ⟨o,(N₆ (rd,o) (by k_mem)).1,hdo⟩) ?_
  obtain ⟨a,it_,n_,ea,ma,ia⟩:∃ a it_ n_,(valueAt kvs c).getD (.ref e)=.ref a∧(a,listOf it_ n_)∈(e,listOf #[] 0)::(it,io)::(fL,listOf fi n2)::(rd,o)::(kL,listOf ki n3)::(oL,listOf oi n1)::own∧IntsAt it_ ((b c).map Int.ofNat):=by
   rcases hB c with ⟨h1,h2⟩|⟨a,it_,n_,h1,h2,h3⟩
   ·exact ⟨e,#[],0,by rw [h2]; rfl,.head _,by rw [h1]; exact (show Paired _ [] [] from .nil)⟩
   ·exact ⟨a,it_,n_,by rw [h1]; rfl,eT6 h2,h3⟩
  rw [ea]
  k_steps
  rename Fr _ _ _ _=>F₇
  rename News _ _ _ _=>N₇
  rename Addr=>e2
  refine Opq.mk ?_
  refine add_mine F₇ N₇ (.tail _ ma) (.head _) (by rw [ia.len,List.length_map,sizeLine_eq]; have:=hbl c; show _+1 ≤ _; omega) fun e3 h₈ F₈ N₈ l₈=>?_
  clear F₇ N₇
  k_steps
  refine Opq.mk ?_
  refine sub_list (News.isList N₈ (by k_mem)) (Int.natCast_nonneg _) (k63 ‹k<ks.length› ‹ks.length ≤ 5›) (by rw [Int.toNat_natCast]; exact hkx) ?_
  k_steps
  have cR:=N₈ (rd,o) (by k_mem)
  refine Opq.mk ?_
  refine wpAny_setItem_pairs (knd:=intKind P2 w) (intKind_is _ _ _ _) (Heap.dictOf_iff.mpr ⟨o,cR.1,hdo⟩) (fun h₉ hd₉ hs₉=>?_) (by rw [sizeLine_eq]; exact le_line ‹kvs.length ≤ i› (Nat.le_trans (Nat.le_of_lt ‹i<fs.length›) (Nat.le_trans (Nat.le_of_eq ‹fs.length=ks.length›) (Nat.le_trans ‹ks.length ≤ 5› (by decide)))))
  have F₉:=F₈.change hs₉ cR.2.1 cR.2.2
  obtain ⟨o',ho',hdo'⟩:=Heap.dictOf_iff.mp hd₉
  have ne3:∀ {x:Addr} {it':Array Value} {n:Nat},(x,listOf it' n)∈(e3,listOf (it_++#[Value.int (k:Int) tk']) 0)::(e2,listOf #[Value.int (k:Int) tk'] 0)::(e,listOf #[] 0)::(it,io)::(fL,listOf fi n2)::(rd,o)::(kL,listOf ki n3)::(oL,listOf oi n1)::own→@Ne Nat x rd:=fun hx=>news_ne N₈ hx (by k_mem) (ndl hdo)
  have nei:∀ {x:Addr} {it':Array Value} {n:Nat},(x,listOf it' n)∈(e3,listOf (it_++#[Value.int (k:Int) tk']) 0)::(e2,listOf #[Value.int (k:Int) tk'] 0)::(e,listOf #[] 0)::(it,io)::(fL,listOf fi n2)::(rd,o)::(kL,listOf ki n3)::(oL,listOf oi n1)::own→@Ne Nat x it:=fun hx=>news_ne N₈ hx (by k_mem) fun q=>by
   have h1:=hoi.1
   rw [←q] at h1
   simp [PySem.W.listOf] at h1
  have kp:∀ {p:Addr×Obj},p∈(e3,listOf (it_++#[Value.int (k:Int) tk']) 0)::(e2,listOf #[Value.int (k:Int) tk'] 0)::(e,listOf #[] 0)::(it,io)::(fL,listOf fi n2)::(rd,o)::(kL,listOf ki n3)::(oL,listOf oi n1)::own→p.1≠rd→h₉.get? p.1=some p.2∧p.1≠L'∧g.get? p.1=none:=fun hp n=>⟨(hs₉.2 _ n).trans (N₈ _ hp).1,(N₈ _ hp).2⟩
  have N₉:News g L' h₉ ((it,io)::(fL,listOf fi n2)::(rd,o')::(kL,listOf ki n3)::(oL,listOf oi n1)::(e3,listOf (it_++#[Value.int (k:Int) tk']) 0)::(e2,listOf #[Value.int (k:Int) tk'] 0)::(e,listOf #[] 0)::own):=
   nms_cons (kp (by k_mem) nitR) (nms_cons (kp (by k_mem) (ne3 (by k_mem))) (nms_cons ⟨ho',cR.2⟩ (nms_cons (kp (by k_mem) (ne3 (by k_mem))) (nms_cons (kp (by k_mem) (ne3 (by k_mem))) (nms_cons (kp (by k_mem) (ne3 (by k_mem))) (nms_cons (kp (by k_mem) (ne3 (by k_mem))) (nms_cons (kp (by k_mem) (ne3 (by k_mem)))
    fun p hp=>kp (eT8 hp) (nrd' p hp))))))))
  clear F₈
  k_steps
  refine .inl ⟨rfl,h₉,_,_,some (.int (k:Int) tk'),rfl,⟨o',stored kvs c (.ref e3),_,rfl,hdo',Nat.le_trans stored_len (Nat.succ_le_succ hkl),fun c'=>?bk,nms_cons (ne3 (by k_mem)) (nms_cons (ne3 (by k_mem)) (nms_cons (ne3 (by k_mem)) nrd'))⟩,?nit,fr_same F₉ fun y=>?fr,N₉⟩
  case fr=>
   show (if y=Str.ofString "k" then _ else _)=if y=Str.ofString "k" then _ else (if y=Str.ofString "k" then _ else _)
   by_cases e:y=Str.ofString "k"
   ·rw [if_pos e,if_pos e]
   ·rw [if_neg e,if_neg e,if_neg e]
  case nit=>exact nms_cons nitR.symm (nms_cons (nit _ eM1) (nms_cons (nit _ eM2) (nms_cons (nei (by k_mem)) (nms_cons (nei (by k_mem)) (nms_cons (nei (by k_mem)) fun p hp=>nit p (eT3 hp))))))
  case bk=>
   have tk1:fs.take (i+1)=fs.take i++[k]:=by rw [List.take_add_one,hk']; rfl
   dsimp only
   rw [tk1,List.filter_append,valueAt_stored]
   by_cases ec:c'=c
   ·rw [if_pos ec]
    refine .inr ⟨e3,_,0,rfl,.head _,?_⟩
    have ek:[k].filter (fun j=>decide (ks.getD j 0=c'))=[k]:=by
     rw [List.filter_cons,decide_eq_true (by rw [ec,hc])]
     rfl
    rw [ek,ec]
    have eb:(fs.take i).filter (fun j=>decide (ks.getD j 0=c))=b c:=by rw [hb]
    rw [eb]
    unfold IntsAt
    rw [Array.toList_append,List.map_append]
    exact Paired.snoc ia ⟨tk',rfl⟩
   ·rw [if_neg ec]
    have ek:[k].filter (fun j=>decide (ks.getD j 0=c'))=[]:=by
     rw [List.filter_cons,decide_eq_false (by rw [←hc]; exact fun q=>ec q.symm)]
     rfl
    rw [ek,List.append_nil]
    have eb:(fs.take i).filter (fun j=>decide (ks.getD j 0=c'))=b c':=by rw [hb]
    rw [eb]
    rcases hB c' with h1|⟨a,it',n',h1,h2,h3⟩
    ·exact .inl h1
    ·exact .inr ⟨a,it',n',h1,eT3 h2,h3⟩
 case done=>
  rintro nw h₅ tk₅ rv ⟨o,kvs,own,rfl,hdo,hkl,hB,nrd'⟩ F N
  clear F₃ F₄ N₃ N₄ N₅ nI
  have ndl:∀ {o:Obj} {kvs:List (Int×Value)} {it:Array Value} {n:Nat},o.IsDictOf (intKind P2 w) kvs→listOf it n≠o:=fun {o kvs it n} ⟨es,ep,_,hdt,_⟩ q=>by
   rw [←q] at hdt
   cases hdt
  have efi:fi.size=fs.length:=by rw [hf.len,List.length_map]
  rw [efi] at hkl hB
  rw [List.take_length] at hB
  obtain ⟨fb,hfb⟩:∃ fb:Int→List Nat,fb=fun c=>fs.filter fun j=>decide (ks.getD j 0=c):=⟨_,rfl⟩
  rw [←hfb] at hB
  show wpAny _ _ _ _ _ _
  k_steps
  rename Fr _ _ _ _=>F₆
  rename News _ _ _ _=>N₆
  rename Heap=>h₆
  rename ∀ p∈(_:Rest),p.1<_=>lx
  obtain ⟨xL,N₆,lx0,lx,F₆⟩:∃ xL:Addr,News g L' h₆ ((xL,listOf #[] 0)::(fL,listOf fi n2)::(rd,o)::(kL,listOf ki n3)::(oL,listOf oi n1)::own)∧(@LT.lt Nat _ fL xL∧@LT.lt Nat _ rd xL∧@LT.lt Nat _ kL xL∧@LT.lt Nat _ oL xL)∧AllLt xL own∧Fr g L' h₆ (fun y=>if y=Str.ofString "k" then rv else frW (.ref oL) (.ref fL) (.ref kL) (.ref rd) (.ref xL) true none y):=by
   refine ⟨_,N₆,⟨lt_in lx (by k_mem),lt_in lx (by k_mem),lt_in lx (by k_mem),lt_in lx (by k_mem)⟩,allLt_of fun p hp=>lx p (eT4 hp),fr_same F₆ fun y=>?_⟩
   by_cases e1:y=Str.ofString "found"
   ·rw [if_pos e1]; subst e1; rfl
   rw [if_neg e1]
   by_cases e2:y=Str.ofString "k"
   ·rw [if_pos e2,if_pos e2]
   rw [if_neg e2,if_neg e2]
   show (if y=Str.ofString "k" then _ else if y=Str.ofString "found" then _ else _)=if y=Str.ofString "k" then _ else if y=Str.ofString "found" then _ else _
   rw [if_neg e2,if_neg e1,if_neg e2,if_neg e1]
  refine wpAny_pyIter_list (items:=oi) (News.isList N₆ (by k_mem)) ?_
  have F₇:=F₆.push { cls:=.type "list_iterator",data:=.fields #[.ref oL,.int 0 0] }
  have N₇:=N₆.push F₆ { cls:=.type "list_iterator",data:=.fields #[.ref oL,.int 0 0] }
  have nI:=fun p hp=>Nat.ne_of_lt (Heap.lt_size (N₆ p hp).1)
  have nxr:@Ne Nat xL rd:=news_ne N₆ (.head _) (by k_mem) (ndl hdo)
  have N₈:News g L' (h₆.push { cls:=.type "list_iterator",data:=.fields #[.ref oL,.int 0 0] }) ((h₆.objs.size,{ cls:=.type "list_iterator",data:=.fields #[.ref oL,.int 0 0] })::(oL,listOf oi n1)::(rd,o)::(kL,listOf ki n3)::(fL,listOf fi n2)::(xL,listOf #[] 0)::own):=
   nms_cons (N₇ _ (.head _)) (nms_cons (N₇ _ (by k_mem)) (nms_cons (N₇ _ (by k_mem)) (nms_cons (N₇ _ (by k_mem)) (nms_cons (N₇ _ (by k_mem)) (nms_cons (N₇ _ (by k_mem)) fun p hp=>N₇ p (eT6 hp))))))
  refine for_list (it:=h₆.objs.size) (J:=fun i nw=>LwJ2 rd xL fb i nw)
   (m₀:=frW (.ref oL) (.ref fL) (.ref kL) (.ref rd) (.ref xL) true none) (rv₀:=rv) rfl rfl rfl (fun i nw _=>.inl rfl) ?turn2 ?done2 ⟨rfl,rfl⟩ ⟨o,kvs,#[],0,own,[],rfl,hdo,hkl,(show Paired _ [] [] from .nil),rfl,hB,(fun c=>rfl),nrd',?nx⟩ ?ni2 F₇ N₈
  case nx=>exact fun p hp=>Nat.ne_of_lt (lt_of_all lx p hp)
  case ni2=>exact nms_cons (nI _ (by k_mem)) (nms_cons (nI _ (by k_mem)) (nms_cons (nI _ (by k_mem)) (nms_cons (nI _ (by k_mem)) fun p hp=>nI p (eT5 hp))))
  case turn2=>
   rintro i v nw h₇ tk₇ io hoi hvi ⟨o,kvs,xi,xc,own,xs,rfl,hdo,hkl,hxi,hxl,hB,hX,nrd',nx'⟩ nit F N
   clear F₆ F₇ N₆ N₇ N₈ nI
   generalize h₆.objs.size=it at N nit
   have hi5:i<od.length:=by
    have h1:=(Array.getElem?_eq_some_iff.mp hvi).1
    have h2:=ho.len
    rw [List.length_map] at h2
    exact h2 ▸ h1
   obtain ⟨k,hk'⟩:∃ k,od[i]?=some k:=⟨_,List.getElem?_eq_getElem hi5⟩
   have hkn:k<ks.length:=List.mem_range.mp (po.mem_iff.mp (List.mem_of_getElem? hk'))
   obtain ⟨tk',hv'⟩:=ho.at (i:=i) (by rw [List.length_map]; exact hi5)
   rw [hvi,List.getD_eq_getElem?_getD,List.getElem?_map,hk'] at hv'
   obtain rfl:=Option.some.inj hv'
   replace F:=fr_same (m':=frW (.ref oL) (.ref fL) (.ref kL) (.ref rd) (.ref xL) true (some (.int (k:Int) tk'))) F fun y=>by
    by_cases e:y=Str.ofString "k"
    ·rw [if_pos e,e]; rfl
    ·rw [if_neg e]
     show (if y=Str.ofString "k" then _ else _)=if y=Str.ofString "k" then _ else _
     rw [if_neg e,if_neg e]
   have nitR:@Ne Nat it rd:=fun e=>nit _ (.head _) e.symm
   have nitX:@Ne Nat it xL:=fun e=>nit _ eM3 e.symm
   obtain ⟨c,hc⟩:∃ c,c=ks.getD k 0:=⟨_,rfl⟩
   obtain ⟨tc,hkx⟩:=hk.at hkn
   rw [←hc] at hkx
   obtain ⟨q,hq⟩:∃ q:Int→Nat,q=fun c=>((od.take i).filter fun j=>decide (ks.getD j 0=c)).length:=⟨_,rfl⟩
   have hB':Bk own kvs fun c=>(fb c).drop (q c):=by rw [hq]; exact hB
   have hX':∀ c,(xs.filter fun j=>decide (ks.getD j 0=c))=(fb c).take (q c):=by rw [hq]; exact hX
   have tk1:od.take (i+1)=od.take i++[k]:=by rw [List.take_add_one,hk']; rfl
   have hq1:∀ c',((od.take (i+1)).filter fun j=>decide (ks.getD j 0=c')).length=if c'=c then q c'+1 else q c':=fun c'=>by
    rw [tk1,List.filter_append,List.length_append,hq]
    dsimp only
    by_cases ec:c'=c
    ·rw [if_pos ec,List.filter_cons,decide_eq_true (by rw [ec,hc])]
     rfl
    ·rw [if_neg ec,List.filter_cons,decide_eq_false (by rw [←hc]; exact fun q=>ec q.symm)]
     rfl
   have hql:q c<(fb c).length:=by
    have h1:=hq1 c
    rw [if_pos rfl] at h1
    have h2:((od.take (i+1)).filter fun j=>decide (ks.getD j 0=c)).length ≤ (od.filter fun j=>decide (ks.getD j 0=c)).length:=by
     have:=(List.take_sublist (i+1) od).filter fun j=>decide (ks.getD j 0=c)
     exact this.length_le
    have h3:(od.filter fun j=>decide (ks.getD j 0=c)).length=(fb c).length:=by
     rw [hfb]
     exact ((po.trans pf.symm).filter _).length_eq
    exact Nat.lt_of_lt_of_le (Nat.lt_of_lt_of_le (Nat.lt_succ_self _) (Nat.le_of_eq h1.symm)) (h3 ▸ h2)
   obtain ⟨a,it_,n_,hva,ma,ia⟩:∃ a it_ n_,valueAt kvs c=some (.ref a)∧(a,listOf it_ n_)∈own∧IntsAt it_ (((fb c).drop (q c)).map Int.ofNat):=by
    rcases hB' c with ⟨h1,_⟩|h
    ·have:=congrArg List.length h1
     rw [List.length_drop,List.length_nil] at this
     exact absurd this (Nat.ne_of_gt (Nat.sub_pos_of_lt hql))
    ·exact h
   have ma':∀ {x y z u v w':Addr×Obj},(a,listOf it_ n_)∈x::y::z::u::v::w'::own:=eT6 ma
   have hfl:(fb c).length<100:=by
    rw [hfb]
    exact Nat.lt_of_le_of_lt (List.length_filter_le (fun j=>decide (ks.getD j 0=c)) fs) (Nat.lt_of_le_of_lt lf5 (by decide))
   have hil:it_.size=(fb c).length - q c:=by rw [ia.len,List.length_map,List.length_drop]
   obtain ⟨tx,hx0⟩:=ia.at (i:=0) (by rw [List.length_map,List.length_drop]; exact Nat.sub_pos_of_lt hql)
   have ex:(((fb c).drop (q c)).map Int.ofNat).getD 0 0=(((fb c)[q c]:Nat):Int):=by
    rw [List.getD_eq_getElem?_getD,List.getElem?_map,List.getElem?_drop,Nat.add_zero,List.getElem?_eq_getElem hql]
    rfl
   rw [ex] at hx0
   have hxi5:xi.size<100:=by rw [hxi.len,List.length_map]; exact of_i5 (Nat.le_of_eq ‹xs.length=i›) ‹i<od.length› ‹od.length=ks.length› ‹ks.length ≤ 5›
   have dR:=Heap.dictOf_iff.mpr ⟨o,(N (rd,o) (by k_mem)).1,hdo⟩
   k_steps
   refine Opq.mk ?_
   refine sub_list (News.isList N (by k_mem)) (Int.natCast_nonneg _) (k63 ‹k<ks.length› ‹ks.length ≤ 5›) (by rw [Int.toNat_natCast]; exact hkx) ?_
   k_steps
   refine Opq.mk ?_
   refine sub_dict dR hva ?_
   k_steps
   refine Opq.mk ?_
   refine sub_list (News.isList N ma') (by k_room) (by k_room) hx0 ?_
   have z1:@Ne Nat fL xL:=Nat.ne_of_lt lx0.1
   have z2:@Ne Nat rd xL:=Nat.ne_of_lt lx0.2.1
   have z3:@Ne Nat kL xL:=Nat.ne_of_lt lx0.2.2.1
   have z4:@Ne Nat oL xL:=Nat.ne_of_lt lx0.2.2.2
   k_steps
   rename Fr _ _ _ _=>F₉
   rename News _ _ _ _=>N₉
   have dR₉:=Heap.dictOf_iff.mpr ⟨o,(N₉ (rd,o) (by k_mem)).1,hdo⟩
   refine Opq.mk ?_
   refine sub_list (News.isList N₉ (by k_mem)) (Int.natCast_nonneg _) (k63 ‹k<ks.length› ‹ks.length ≤ 5›) (by rw [Int.toNat_natCast]; exact hkx) ?_
   k_steps
   refine Opq.mk ?_
   refine sub_dict dR₉ hva ?_
   k_steps
   refine Opq.mk ?_
   refine kms_slice_lit (s:=⟨_,_,_,_,_⟩) F₉ N₉ (News.isList N₉ ma') (IsPart.int _ _) IsPart.none rfl (fun e2 h₁₀ F₁₀ N₁₀ l₁₀=>?_) rfl (fun _=>rfl) (by rw [sizeLine_eq,hil]; exact le_line (Nat.sub_le _ _) (Nat.le_of_lt (Nat.lt_trans ‹(fb c).length<100› (by decide))))
   clear F₉ N₉ dR₉
   k_steps
   refine Opq.mk ?_
   refine sub_list (News.isList N₁₀ (by k_mem)) (Int.natCast_nonneg _) (k63 ‹k<ks.length› ‹ks.length ≤ 5›) (by rw [Int.toNat_natCast]; exact hkx) ?_
   k_steps
   refine Opq.mk ?_
   have cR:=N₁₀ (rd,o) (by k_mem)
   refine wpAny_setItem_pairs (knd:=intKind P2 w) (intKind_is _ _ _ _) (Heap.dictOf_iff.mpr ⟨o,cR.1,hdo⟩) (fun h₁₁ hd₁₁ hs₁₁=>?_) (by rw [sizeLine_eq]; exact le_line ‹kvs.length ≤ fs.length+i› (Nat.le_trans (Nat.add_le_add lf5 (Nat.le_trans (Nat.le_of_lt ‹i<od.length›) (Nat.le_trans (Nat.le_of_eq ‹od.length=ks.length›) ‹ks.length ≤ 5›))) (by decide)))
   have F₁₁:=F₁₀.change hs₁₁ cR.2.1 cR.2.2
   obtain ⟨o',ho',hdo'⟩:=Heap.dictOf_iff.mp hd₁₁
   have ne2:@Ne Nat e2 rd:=Nat.ne_of_gt (l₁₀ (rd,o) (by k_mem))
   have ne2x:@Ne Nat e2 xL:=Nat.ne_of_gt (l₁₀ (xL,listOf (xi.push (.int (((fb c)[q c]:Nat):Int) tx)) (xc+1)) (by k_mem))
   have ne2i:@Ne Nat e2 it:=Nat.ne_of_gt (l₁₀ (it,io) (by k_mem))
   have nrl:∀ {x:Addr} {it':Array Value} {n:Nat},(x,listOf it' n)∈(e2,listOf (kms_pick it_.toList (some 1) none).toArray 0)::(it,io)::(oL,listOf oi n1)::(rd,o)::(kL,listOf ki n3)::(fL,listOf fi n2)::(xL,listOf (xi.push (.int (((fb c)[q c]:Nat):Int) tx)) (xc+1))::own→@Ne Nat x rd:=fun hx=>news_ne N₁₀ hx (by k_mem) (ndl hdo)
   have kp:∀ {p:Addr×Obj},p∈(e2,listOf (kms_pick it_.toList (some 1) none).toArray 0)::(it,io)::(oL,listOf oi n1)::(rd,o)::(kL,listOf ki n3)::(fL,listOf fi n2)::(xL,listOf (xi.push (.int (((fb c)[q c]:Nat):Int) tx)) (xc+1))::own→p.1≠rd→h₁₁.get? p.1=some p.2∧p.1≠L'∧g.get? p.1=none:=fun hp n=>⟨(hs₁₁.2 _ n).trans (N₁₀ _ hp).1,(N₁₀ _ hp).2⟩
   have N₁₁:News g L' h₁₁ ((it,io)::(oL,listOf oi n1)::(rd,o')::(kL,listOf ki n3)::(fL,listOf fi n2)::(xL,listOf (xi.push (.int (((fb c)[q c]:Nat):Int) tx)) (xc+1))::(e2,listOf (kms_pick it_.toList (some 1) none).toArray 0)::own):=
    nms_cons (kp (by k_mem) nitR) (nms_cons (kp (by k_mem) (nrl (by k_mem))) (nms_cons ⟨ho',cR.2⟩ (nms_cons (kp (by k_mem) (nrl (by k_mem))) (nms_cons (kp (by k_mem) (nrl (by k_mem))) (nms_cons (kp (by k_mem) z2.symm) (nms_cons (kp (by k_mem) ne2)
     fun p hp=>kp (eT7 hp) (nrd' p hp)))))))
   clear F₁₀
   k_steps
   refine .inl ⟨rfl,h₁₁,_,_,some (.int (k:Int) tk'),rfl,⟨o',stored kvs c (.ref e2),_,_,_,xs++[(fb c)[q c]],rfl,hdo',Nat.le_trans stored_len (Nat.succ_le_succ hkl),?e1,?e2,fun c'=>?bk,fun c'=>?bx,nms_cons ne2 nrd',nms_cons ne2x nx'⟩,?nit,fr_same F₁₁ fun y=>?fr,N₁₁⟩
   case e1=>
    unfold IntsAt
    rw [Array.toList_push,List.map_append]
    exact Paired.snoc hxi ⟨tx,rfl⟩
   case e2=>rw [List.length_append,hxl]; rfl
   case fr=>
    show (if y=Str.ofString "k" then _ else _)=if y=Str.ofString "k" then _ else (if y=Str.ofString "k" then _ else _)
    by_cases e:y=Str.ofString "k"
    ·rw [if_pos e,if_pos e]
    ·rw [if_neg e,if_neg e,if_neg e]
   case nit=>exact nms_cons nitR.symm (nms_cons (nit _ eM1) (nms_cons (nit _ eM2) (nms_cons nitX.symm (nms_cons ne2i fun p hp=>nit p (eT4 hp)))))
   case bk=>
    dsimp only
    rw [hq1 c',valueAt_stored]
    by_cases ec:c'=c
    ·rw [if_pos ec,if_pos ec]
     refine .inr ⟨e2,_,0,rfl,.head _,?_⟩
     unfold IntsAt
     rw [List.toList_toArray,show (1:Int)=((1:Nat):Int) from rfl,pick_drop,ec]
     have:=Paired.drop1 ia
     rw [←List.map_drop,List.drop_drop] at this
     exact this
    ·rw [if_neg ec,if_neg ec]
     rcases hB' c' with h1|⟨a,it',n',h1,h2,h3⟩
     ·exact .inl h1
     ·exact .inr ⟨a,it',n',h1,.tail _ h2,h3⟩
   case bx=>
    rw [hq1 c',List.filter_append]
    have hkey:ks.getD ((fb c)[q c]) 0=c:=by
     have:∀ j∈fb c,ks.getD j 0=c:=by
      rw [hfb]
      exact fun j hj=>of_decide_eq_true (List.mem_filter.mp hj).2
     exact this _ (List.getElem_mem hql)
    by_cases ec:c'=c
    ·rw [if_pos ec,hX' c',List.filter_cons,decide_eq_true (by rw [hkey,ec])]
     rw [ec]
     exact (List.take_append_getElem hql)
    ·rw [if_neg ec,hX' c',List.filter_cons,decide_eq_false (by rw [hkey]; exact fun q=>ec q.symm)]
     exact List.append_nil _
  case done2=>
   rintro nw h₇ tk₇ rv₇ ⟨o,kvs,xi,xc,own,xs,rfl,hdo,hkl,hxi,hxl,hB,hX,nrd',nx'⟩ F N
   clear F₆ F₇ N₆ N₇ N₈ nI
   show wpAny _ _ _ _ _ _
   k_steps
   have eoi:oi.size=od.length:=by rw [ho.len,List.length_map]
   rw [eoi,List.take_length] at hX
   have hXf:∀ c,(xs.filter fun j=>decide (ks.getD j 0=c))=fs.filter fun j=>decide (ks.getD j 0=c):=fun c=>by
    have h3:(od.filter fun j=>decide (ks.getD j 0=c)).length=(fb c).length:=by
     rw [hfb]
     exact ((po.trans pf.symm).filter _).length_eq
    rw [hX c,h3,List.take_length,hfb]
   have hp:xs.Perm fs:=List.perm_iff_count.mpr fun a=>by
    have hc:∀ l:List Nat,List.count a (l.filter fun j=>decide (ks.getD j 0=ks.getD a 0))=List.count a l:=fun l=>List.count_filter (p:=fun j=>decide (ks.getD j 0=ks.getD a 0)) (by exact decide_eq_true rfl)
    rw [←hc xs,←hc fs,hXf (ks.getD a 0)]
   refine h _ _ xL xi xc xs (mod_of hg F N (ns_cons (fun _=>mk_in (hN _ (.head _)) (by k_mem)) (ns_cons (fun _=>mk_in (hN _ eM1) (by k_mem)) (ns_cons (fun _=>mk_in (hN _ eM2) (by k_mem)) ns_nil)))) (N (xL,listOf xi xc) (by k_mem)).1 (fresh_of hg (N (xL,listOf xi xc) (by k_mem)).2.2 fun hm=>?_) hxi (hp.trans pf) hXf
   rcases List.mem_cons.mp hm with e|hm
   ·exact Nat.ne_of_gt lx0.2.2.2 e
   rcases List.mem_cons.mp hm with e|hm
   ·exact Nat.ne_of_gt lx0.1 e
   exact Nat.ne_of_gt lx0.2.2.1 (List.mem_singleton.mp hm)
theorem with967 {w:World} {A:Around} {s:Shared} {B:Heap} {oL fL kL:Addr} {oi fi ki:Array Value} {n1 n2 n3:Nat} {od fs:List Nat} {ks:List Int} {R:Rp} {loose:List Str} {mg mb:Sm} (XB:(hd.heap_1 w.params).In B) (TB:TopRead pq loose mg mb B) (hB:B.StaysIn s.heap) (hroom:A.depth+20<recursionLimit) (hh:A.handled=none) (hN:∀ p∈[(oL,listOf oi n1),(fL,listOf fi n2),(kL,listOf ki n3)],s.heap.get? p.1=some p.2) (fN:∀ p∈[(oL,listOf oi n1),(fL,listOf fi n2),(kL,listOf ki n3)],B.get? p.1=none) (ho:IntsAt oi (od.map Int.ofNat)) (hf:IntsAt fi (fs.map Int.ofNat)) (hk:IntsAt ki ks) (po:od.Perm (List.range ks.length)) (pf:fs.Perm (List.range ks.length)) (hn:ks.length∈[2,3,4,5]) (h:∀ h' tk' D xi k (xs:List Nat),Mod [] s.heap h'→h'.get? D=some (listOf xi k)→s.heap.get? D=none→IntsAt xi (xs.map Int.ofNat)→xs.Perm (List.range ks.length)→(∀ c,xs.filter (fun j=>decide (ks.getD j 0=c))=fs.filter fun j=>decide (ks.getD j 0=c))→R (.ok (.ret (.ref D))) { s with heap:=h',toks:=tk' }):codeAny (model P2 w) A (.call (.ref 967) ⟨[.ref oL,.ref fL,.ref kL],[]⟩) R s:=by
 obtain ⟨hd_,dp,fr_,gd,un⟩:=A
 dsimp only at hroom hh
 subst hh
 exact eps0 Z0pcq Z0pc rfl (by with_unfolding_all exact Z0pb.2 (fun g L' h₁=>eps0 Z0pdq Z0pd rfl (by with_unfolding_all exact Z0pm) (g,L',h₁))) ((pq,w,s,B,oL,fL),(kL,oi,fi,ki,n1,n2),(n3,od,fs,ks,R,loose),(mg,mb,dp,fr_,gd,un)) XB TB hB hroom hN fN ho hf hk po pf hn h
end
end
section
local macro_rules | `(tactic| walk_at "subscriptTail Name Slice ref ref") => `(tactic| refine Opq.out ?_)
local macro_rules | `(tactic| walk_at "subscriptTail Name BinOp ref int") => `(tactic| refine Opq.out ?_)
local macro_rules | `(tactic| walk_at "subscriptTail Name Name ref int") => `(tactic| refine Opq.out ?_)
noncomputable abbrev scLaw:Scope:={ kind:=.function,names:=[(Str.ofString "script",.local),(Str.ofString "numbers",.cell),(Str.ofString "seed",.cell),(Str.ofString "many",.local),(Str.ofString "values",.local),(Str.ofString "second",.local),(Str.ofString "one",.local),(Str.ofString "two",.local),(Str.ofString "due",.local),(Str.ofString "phase",.cell),(Str.ofString "called",.local),(Str.ofString "first",.cell),(Str.ofString "keys",.cell),(Str.ofString "sum",.globalImplicit),(Str.ofString "range",.globalImplicit),(Str.ofString "_law_order",.globalImplicit),(Str.ofString "_law_with",.globalImplicit),(Str.ofString "_law_run",.globalImplicit),(Str.ofString "sorted",.globalImplicit),(Str.ofString "len",.globalImplicit)],isGenerator:=false,isCoroutine:=false,more:=(["script", "number", "numbers", "seed", "many", "k", "values", "second", "one", "two", "due", "phase", "what", "who", "called", "row", "first", "keys"].map fun x=>(Str.ofString "fast",Const.str (Str.ofString x))) }
noncomputable abbrev enLaw (L f:Addr):Env:=envOfC (Str.ofString "law") scLaw L f (.ref 976)
noncomputable abbrev scN:Scope:={ kind:=.function,names:=[(Str.ofString ".0",.local),(Str.ofString "number",.local),(Str.ofString "abs",.globalImplicit)],isGenerator:=false,isCoroutine:=false }
noncomputable def numOf (n:Int):Int:=(if n<0 then -n else n).fmod 1000000000
theorem num_elt {w:World} {A:Around} {s:Shared} {g:Heap} {L fa:Addr} {m:Sm} {loose:List Str} {mean:ExcName→Option Value} {mg mb:Sm} {p1 p2 p3 p4 p5 p6 p7:Pos} (KX:(hd.heap_1 w.params).In g) (TX:Top pq loose mean mg mb g) (hh:A.handled=none) (hroom:A.depth+4<recursionLimit)
  (F:Fr g L s.heap m) {n:Int} {t:Tok} (C:Addr) (s₂:Shared) (m₂:Sm) (E':Vp) (st:s.heap.StaysIn s₂.heap) (fC:s.heap.get? C=none) (hn:s₂.heap.Ns C m₂) (hb:m₂ (Str.ofString "number")=some (.int n t)) :
  wpAny (model P2 w) A (eval (.BinOp (.Call (.Name (Str.ofString "abs") p1) [.Name (Str.ofString "number") p2] [] p3) .Mod (.BinOp (.Constant (.int 10) 0 p4) .Pow (.Constant (.int 9) 0 p5) p6) p7) (compEnvC scN [] C (enLaw L fa)))
   (fun y s₃=>(∃ own:Rest,(∀ q∈own,s₂.heap.get? q.1=none∧s₃.heap.get? q.1=some q.2)∧∃ t',y=.int (numOf n) t')∧Keeps s₂ s₃) E' s₂:=by
 have F₂:Fr g L s₂.heap m:=fr_mod0 F fun b o e _=>st b o e
 obtain ⟨oC,hoC⟩:∃ oC,s₂.heap.get? C=some oC:=Exists.elim hn fun o q=>Exists.elim q fun _ q=>Exists.elim q fun _ q=>⟨o,q.1⟩
 have nsC:LCg.NsObj oC m₂:=by
  obtain ⟨o,es,ep,e,r⟩:=hn
  rw [hoC] at e
  obtain rfl:=Option.some.inj e
  exact ⟨es,ep,r⟩
 have nCL:C≠L:=fun e=>by
  obtain ⟨oL,_,_,hL,_⟩:=F.ns
  rw [e,hL] at fC; cases fC
 have gC:g.get? C=none:=by
  cases q:g.get? C with
  | none=>rfl
  | some o=>have:=F.keep _ _ q; rw [fC] at this; cases this
 have N₂:News g L s₂.heap [(C,oC)]:=nms_cons ⟨hoC,nCL,gC⟩ nms_nil
 clear F
 refine wpAny_mono (Q:=fun y s₃=>Opq (∃ t' tk,y=.int (numOf n) t'∧s₃={ s₂ with toks:=tk })) ?_ (fun y s₃ q=>?_) fun _ _ e=>e
 ·k_steps
  exact Opq.mk ⟨_,_,by rw [show ((10:Int) ^ Int.toNat 9)=1000000000 by decide]; rfl,rfl⟩
 ·obtain ⟨t',tk,rfl,rfl⟩:=q.out
  exact ⟨⟨[],(fun _ h=>nomatch h),t',rfl⟩,s₂.heap,tk,rfl,fun _ _ e=>e⟩
theorem ints_of_are {vs:List Value} {ns:List Int} (h:IntsAre vs ns):IntsAt vs.toArray ns:=by
 induction h with
 | nil=>exact (show Paired _ [] [] from .nil)
 | cons n t h ih=>exact (show Paired _ (_::_) (_::_) from .cons ⟨t,rfl⟩ ih)
theorem Paired.take {α β:Type} {F:α→β→Prop} (k:Nat) {l:List α} {r:List β} (h:Paired F l r):Paired F (l.take k) (r.take k):=by
 induction h generalizing k with
 | nil=>rw [List.take_nil,List.take_nil]; exact .nil
 | cons h _ ih=>cases k with
  | zero=>exact .nil
  | succ k=>exact .cons h (ih k)
theorem pick_take {l:List Value} {n:Nat}:kms_pick l none (some (n:Int))=l.take n:=by
 unfold kms_pick kms_lo kms_hi
 simp only [Int.toNat_natCast,List.drop_zero,Nat.sub_zero]
 rw [if_neg (by k_room)]
 by_cases h:n ≤ l.length
 ·rw [Nat.min_eq_left h]
 ·rw [Nat.min_eq_right (by k_room),List.take_length,List.take_of_length_le (by k_room)]
theorem ints_map {ys vs:List Value} {ns:List Int} {f:Int→Int} (h:Paired (fun v y=>∃ n t t',v=.int n t∧y=.int (f n) t') vs ys) (hv:Paired (fun v n=>∃ t,v=.int n t) vs ns):Paired (fun v n=>∃ t,v=.int n t) ys (ns.map f):=by
 induction h generalizing ns with
 | nil=>cases hv; exact .nil
 | cons h r ih=>
  cases hv with
  | cons hn hr=>
   obtain ⟨n,t,t',e1,e2⟩:=h
   obtain ⟨u,e3⟩:=hn
   rw [e1] at e3
   cases e3
   exact .cons ⟨t',e2⟩ (ih hr)
theorem numbers_comp {w:World} {A:Around} {E:Vp} {s:Shared} {g:Heap} {L fa sc:Addr} {m:Sm} {loose:List Str} {mean:ExcName→Option Value} {mg mb:Sm} {items:List Value} {script:List Int} {nw:Rest} {p1 p2 p3 p4 p5 p6 p7 p8 p9 pa pb pc pd:Pos} {Q:Vp}
  (KX:(hd.heap_1 w.params).In g) (TX:Top pq loose mean mg mb g) (hh:A.handled=none) (hroom:A.depth+4<recursionLimit) (F:Fr g L s.heap m) (N:News g L s.heap nw) (hm:m (Str.ofString "script")=some (.ref sc)) (hL:g.IsList sc items.toArray) (hI:IntsAre items script) (hz:script.length ≤ 63)
  (h:∀ D n ys S so h' tk,Fr g L h' m→News g L h' ((D,listOf ys n)::(S,so)::nw)→IntsAt ys ((script.take 12).map numOf)→(∀ p∈nw,p.1≠D)→Q (.ref D) { s with heap:=h',toks:=tk }) :
  wpAny (model P2 w) A (eval (.ListComp (.BinOp (.Call (.Name (Str.ofString "abs") p1) [.Name (Str.ofString "number") p2] [] p3) .Mod (.BinOp (.Constant (.int 10) 0 p4) .Pow (.Constant (.int 9) 0 p5) p6) p7)
   [⟨.Name (Str.ofString "number") p8,.Subscript (.Name (Str.ofString "script") p9) (.Slice none (some (.Constant (.int 12) 0 pa)) none pb) pc,[],0⟩] scN pd) (enLaw L fa)) Q E s:=by
 have hl63:items.toArray.size=script.length:=by rw [List.size_toArray]; exact hI.length
 refine comp_list (cl:=[]) (fun _=>true) (fun _ v y=>∃ n t t',v=.int n t∧y=.int (numOf n) t') (fun v m₂=>m₂ (Str.ofString "number")=some v) (fun _ _ _ _ _ h=>h) hh ?hclos ?hcell rfl ?hnames ?hown ?main ?hs
 case hclos=>with_unfolding_all rfl
 case hcell=>decide
 case hnames=>decide
 case hown=>exact goes_name
 case hs=>intro x; rfl
 case main=>
  refine wpAny_mono (Q:=fun xv s₁=>Opq (∃ S sx h' tk,xv=.ref S∧s₁={ s with heap:=h',toks:=tk }∧Fr g L h' m∧News g L h' ((S,listOf sx 0)::nw)∧IntsAt sx (script.take 12))) ?it (fun xv s₁ q=>?_) fun _ _ e=>e
  case it=>
   k_steps
   refine wpAny_Name (wpAny_loadName_local (env:=enLaw L fa) rfl rfl F.ns hm ?_) (by decide)
   k_steps
   refine Opq.mk ?_
   refine kms_slice_lit F N (show Heap.IsList _ sc items.toArray from let ⟨o,e,r⟩:=hL; ⟨o,F.keep _ _ e,r⟩) IsPart.none (IsPart.int _ _) rfl (fun S h' F' N' l'=>?_) rfl (fun _=>rfl) (by rw [hl63,sizeLine_eq]; omega)
   refine Opq.mk ⟨S,_,h',_,rfl,rfl,F',N',?_⟩
   ·unfold IntsAt
    rw [List.toList_toArray,show (12:Int)=((12:Nat):Int) from rfl,pick_take]
    have:=ints_of_are hI
    unfold IntsAt at this
    exact Paired.take 12 this
  obtain ⟨S,sx,h₁,tk₁,rfl,rfl,F₁,N₁,hsx⟩:=q.out
  have hsz:=hsx.len
  rw [List.length_take] at hsz
  refine ⟨S,sx,rfl,News.isList N₁ (.head _),by rw [sizeLine_eq]; omega,trivial,?asg,?tst,?elt,?fin⟩
  case asg=>
   intro C v s₂ m₂ E' hv st fC hn
   exact wpAny_assign_Name (wpAny_storeName_local rfl hn (fun h' n' sb=>⟨h',_,_,rfl,n',if_pos rfl,sb.extBut⟩) rfl)
  case tst=>
   intro C v s₂ m₂ E' hv st fC hn hb
   exact wpAny_pure ⟨rfl,s₂.heap,s₂.toks,rfl,fun _ _ e=>e⟩
  case elt=>
   intro C v s₂ m₂ E' hv _ st fC hn hb
   obtain ⟨n,t,rfl⟩:∃ n t,v=.int n t:=by
    unfold IntsAt at hsx
    obtain ⟨i,hi⟩:=List.mem_iff_getElem?.mp hv
    have hi':i<(script.take 12).length:=by rw [←hsx.length]; exact (List.getElem?_eq_some_iff.mp hi).1
    obtain ⟨t,ht⟩:=IntsAt.at hsx hi'
    rw [←Array.getElem?_toList,hi] at ht
    exact ⟨_,t,Option.some.inj ht⟩
   refine wpAny_mono (num_elt KX TX hh hroom F₁ C s₂ m₂ E' st fC hn hb) (fun y s₃ ⟨⟨own,h1,t',h2⟩,h3⟩=>⟨⟨own,h1,n,t,t',rfl,h2⟩,h3⟩) fun _ _ e=>e
  case fin=>
   intro D n ys own h' tk fD hD ho hP st
   have hP':Paired (fun v y=>∃ n t t',v=.int n t∧y=.int (numOf n) t') sx.toList ys.toList:=by
    have e:sx.toList.filter (fun _=>true)=sx.toList:=List.filter_eq_self.mpr fun _ _=>rfl
    rw [e] at hP
    exact hP
   have gn:∀ {a:Addr},h₁.get? a=none→a≠L∧g.get? a=none:=fun {a} e=>by
    refine ⟨fun q=>?_,?_⟩
    ·obtain ⟨oL,_,_,hL,_⟩:=F₁.ns
     rw [q,hL] at e; cases e
    ·cases q:g.get? a with
     | none=>rfl
     | some o=>have:=F₁.keep _ _ q; rw [e] at this; cases this
   refine h D n ys S _ h' tk (fr_mod0 F₁ fun b o e _=>st b o e) (nms_cons ⟨hD,gn fD⟩ (news_mod0 N₁ fun b o e _=>st b o e)) (ints_map hP' hsx) fun p hp e=>?_
   have:=(N₁ p (.tail _ hp)).1
   rw [e,fD] at this
   cases this
end
section
local macro_rules | `(tactic| walk_at "subscriptTail Name BinOp ref int") => `(tactic| refine Opq.out ?_)
local macro_rules | `(tactic| walk_at "subscriptTail Name Name ref int") => `(tactic| refine Opq.out ?_)
open LCg in
theorem rest_ints {w:World} {A:Around} {s:Shared} {g:Heap} {L:Addr} {m:Sm} {env:Env} {elt:Expr} {x:Str} {scope:Scope} {cl:List (Str×Addr)} {S:Rest→Prop} {P:Nat→Value→Prop} {Fin:List Value→Rest→Prop} {n:Nat} {news:Rest} {val:Nat→Int} (hS:S news)
  (step:∀ i v I oI C oC D m₂ h tk (E':Vp) ys,i<n→P i v→NsObj oC m₂→m₂ x=some v→Fr g L h m→News g L h ((I,oI)::(C,oC)::(D,lst ys)::news)→Off3 I C D news→((@Ne Nat I C)∧(@Ne Nat I D)∧(@Ne Nat C D)) →
   wpAny (model P2 w) A (eval elt (compEnvC scope cl C env)) (fun y s₃=>Opq (∃ t' tk',y=.int (val i) t'∧s₃={ s with heap:=h,toks:=tk' })) E' { s with heap:=h,toks:=tk })
  (fin:∀ ys:List Value,Paired (fun v n=>∃ t,v=.int n t) ys ((List.range n).map val)→Fin ys news) :
  CompRest P2 w A g L m env elt x scope cl s S P Fin n 0 [] news:=by
 have go:∀ k i ys,i+k=n→Paired (fun v n=>∃ t,v=.int n t) ys ((List.range i).map val)→CompRest P2 w A g L m env elt x scope cl s S P Fin k i ys news:=by
  intro k
  induction k with
  | zero=>
   intro i ys hi hp
   obtain rfl:i=n:=by omega
   exact fin ys hp
  | succ k ih=>
   intro i ys hi hp v I oI C oC D m₂ h tk E' hv hC hx F N off ne
   refine wpAny_mono (step i v I oI C oC D m₂ h tk E' ys (by k_room) hv hC hx F N off ne) (fun y s₃ q=>?_) fun _ _ e=>e
   obtain ⟨t',tk',rfl,rfl⟩:=q.out
   refine ⟨h,tk',news,rfl,F,N,off,hS,ih (i+1) _ (by k_room) ?_⟩
   rw [List.range_succ,List.map_append]
   exact Paired.snoc hp ⟨t',rfl⟩
 exact go n 0 [] (by k_room) .nil
noncomputable abbrev scK:Scope:={ kind:=.function,names:=[(Str.ofString ".0",.local),(Str.ofString "k",.local),(Str.ofString "len",.globalImplicit),(Str.ofString "numbers",.free),(Str.ofString "seed",.free)],isGenerator:=false,isCoroutine:=false }
noncomputable abbrev scV:Scope:={ kind:=.function,names:=[(Str.ofString ".0",.local),(Str.ofString "k",.local),(Str.ofString "len",.globalImplicit),(Str.ofString "numbers",.free)],isGenerator:=false,isCoroutine:=false }
noncomputable def keyOf (ns:List Int) (seed:Int) (k:Nat):Int:=((ns.getD ((k:Int).fmod ns.length).toNat 0).fdiv 3).fmod 3+(k:Int) * (seed.fdiv 320).fmod 2
noncomputable def valOf (ns:List Int) (k:Nat):Int:=1+(ns.getD (((k:Int)+1).fmod ns.length).toNat 0).fmod 50+(k:Int)
theorem clos_K (L fa:Addr):closureFor scK (enLaw L fa)=pure [(Str.ofString "seed",L+1+1),(Str.ofString "numbers",L+1)]:=by with_unfolding_all rfl
theorem keys_comp {w:World} {A:Around} {E:Vp} {s:Shared} {g:Heap} {L fa nD:Addr} {m:Sm} {loose:List Str} {mean:ExcName→Option Value} {mg mb:Sm} {ni:Array Value} {nn n:Nat} {ns:List Int} {seed:Int} {ts tn:Tok} {oN oS:Obj} {nw:Rest} {p1 p2 p3 p4 p5 p6 p7 p8 p9 q1 q2 q3 q4 q5 q6 q7 q8 q9 r1 r2 r3 r4 r5 r6:Pos} {Q:Vp}
  (KX:(hd.heap_1 w.params).In g) (TX:Top pq loose mean mg mb g) (hh:A.handled=none) (hroom:A.depth+4<recursionLimit) (F:Fr g L s.heap m) (N:News g L s.heap nw) (hm:m (Str.ofString "many")=some (.int n tn)) (hn:n ≤ 5)
  (c1:(L+1,oN)∈nw) (d1:oN.data=.cell (some (.ref nD))) (c2:(L+1+1,oS)∈nw) (d2:oS.data=.cell (some (.int seed ts))) (c3:(nD,listOf ni nn)∈nw) (hi:IntsAt ni ns) (hz:1 ≤ ns.length∧ns.length<100)
  (h:∀ D ys h' tk,Fr g L h' m→News g L h' ((D,LCg.lst ys)::nw)→LCg.Off1 D nw→Paired (fun v n=>∃ t,v=.int n t) ys ((List.range n).map (keyOf ns seed))→Q (.ref D) { s with heap:=h',toks:=tk }) :
  wpAny (model P2 w) A (eval (.ListComp (.BinOp (.BinOp (.BinOp (.Subscript (.Name (Str.ofString "numbers") p1) (.BinOp (.Name (Str.ofString "k") p2) .Mod (.Call (.Name (Str.ofString "len") p3) [.Name (Str.ofString "numbers") p4] [] p5) p6) p7) .FloorDiv (.Constant (.int 3) 0 p8) p9) .Mod (.Constant (.int 3) 0 q1) q2) .Add
    (.BinOp (.Name (Str.ofString "k") q3) .Mult (.BinOp (.BinOp (.Name (Str.ofString "seed") q4) .FloorDiv (.Constant (.int 320) 0 q5) q6) .Mod (.Constant (.int 2) 0 q7) q8) q9) r1)
   [⟨.Name (Str.ofString "k") r2,.Call (.Name (Str.ofString "range") r3) [.Name (Str.ofString "many") r4] [] r5,[],0⟩] scK r6) (enLaw L fa)) Q E s:=by
 refine LCg.ListComp_U (F₀:=F) (clos_K L fa) (by decide) rfl (by decide) rfl ?_ (by intro _; rfl)
 k_steps
 refine wpAny_Name (wpAny_loadName_local (env:=enLaw L fa) rfl rfl F.ns hm ?_) (by decide)
 k_steps
 rename IsRange _ _ _ _ _ _ _ _=>hR
 rename Fr _ _ _ _=>F₁
 rename News _ _ _ _=>N₁
 have hsz:Builtin.Range.rangeSize 0 n 1=n:=by
  unfold Builtin.Range.rangeSize
  simp
  try omega
 refine LCg.CompSrc.range hh F₁ N₁ hR (small_n (by k_room)) hsz (by rw [sizeLine_eq]; omega) fun g₂=>rest_ints (val:=keyOf ns seed) trivial ?step ?fin
 case step=>
  intro i v I oI C oC D m₂ h₂ tk₂ E' ys hin hP hC hx F₂ N₂ off ne
  obtain ⟨ti,rfl⟩:=hP
  rw [Int.zero_add] at hx
  have q1:=Int.fmod_nonneg_of_pos (i:Int) (b:=(ns.length:Int)) (by k_room)
  have q2:=Int.fmod_lt_of_pos (i:Int) (b:=(ns.length:Int)) (by k_room)
  have ix:ni[((i:Int).fmod (ns.length:Int)).toNat]?=some (.int (ns.getD ((i:Int).fmod (ns.length:Int)).toNat 0) (hi.at (i:=((i:Int).fmod (ns.length:Int)).toNat) (by k_room)).choose):=(hi.at (i:=((i:Int).fmod (ns.length:Int)).toNat) (by k_room)).choose_spec
  have N₃:News g L h₂ [(C,oC),(L+1,oN),(L+1+1,oS),(nD,listOf ni nn)]:=nms_cons (N₂ _ eM1) (nms_cons (N₂ _ (eT3 c1)) (nms_cons (N₂ _ (eT3 c2)) (nms_cons (N₂ _ (eT3 c3)) nms_nil)))
  clear N₂ F₁ N₁
  k_steps
  refine Calls.call_len_list (News.isList N₃ (by k_mem)) (by rw [hi.len]; exact i63 (And.right ‹1 ≤ ns.length∧ns.length<100›) (by decide)) ?_
  rw [hi.len]
  k_steps
  refine Opq.mk (sub_list (News.isList N₃ (by k_mem)) q1 (by k_room) ix ?_)
  k_steps
  exact Opq.mk ⟨_,_,rfl,rfl⟩
 case fin=>
  intro ys hys D h' tk F' N' off
  exact h D ys h' tk F' N' off hys
theorem clos_V (L fa:Addr):closureFor scV (enLaw L fa)=pure [(Str.ofString "numbers",L+1)]:=by with_unfolding_all rfl
theorem values_comp {w:World} {A:Around} {E:Vp} {s:Shared} {g:Heap} {L fa nD:Addr} {m:Sm} {loose:List Str} {mean:ExcName→Option Value} {mg mb:Sm} {ni:Array Value} {nn n:Nat} {ns:List Int} {tn:Tok} {oN:Obj} {nw:Rest} {p1 p2 p3 p4 p5 p6 p7 p8 p9 q1 q2 q3 q4 q5 q6 r2 r3 r4 r5 r6 r7 r8:Pos} {Q:Fp}
  (KX:(hd.heap_1 w.params).In g) (TX:Top pq loose mean mg mb g) (hh:A.handled=none) (hroom:A.depth+4<recursionLimit) (F:Fr g L s.heap m) (N:News g L s.heap nw) (hm:m (Str.ofString "many")=some (.int n tn)) (hn:n ≤ 5)
  (c1:(L+1,oN)∈nw) (d1:oN.data=.cell (some (.ref nD))) (c3:(nD,listOf ni nn)∈nw) (hi:IntsAt ni ns) (hz:1 ≤ ns.length∧ns.length<100)
  (hsw:swapsWith (.ListComp (.BinOp (.BinOp (.Constant (.int 1) 0 p1) .Add (.BinOp (.Subscript (.Name (Str.ofString "numbers") p2) (.BinOp (.BinOp (.Name (Str.ofString "k") p3) .Add (.Constant (.int 1) 0 p4) p5) .Mod (.Call (.Name (Str.ofString "len") p6) [.Name (Str.ofString "numbers") p7] [] p8) p9) q1) .Mod (.Constant (.int 50) 0 q2) q3) q4) .Add (.Name (Str.ofString "k") q5) q6) [⟨.Name (Str.ofString "k") r2,.Call (.Name (Str.ofString "range") r3) [.Name (Str.ofString "many") r4] [] r5,[],0⟩] scV r6) (some (.Name (Str.ofString "values") r7)) r8.line (enLaw L fa)=pure true)
  (h:∀ D ys h' tk,Fr g L h' (fun z=>if z=Str.ofString "values" then some (.ref D) else m z)→News g L h' ((D,LCg.lst ys)::nw)→LCg.Off1 D nw→Paired (fun v n=>∃ t,v=.int n t) ys ((List.range n).map (valOf ns))→Q .next { s with heap:=h',toks:=tk }) :
  wpAny (model P2 w) A (exec (.Assign [.Name (Str.ofString "values") r7] (.ListComp (.BinOp (.BinOp (.Constant (.int 1) 0 p1) .Add (.BinOp (.Subscript (.Name (Str.ofString "numbers") p2) (.BinOp (.BinOp (.Name (Str.ofString "k") p3) .Add (.Constant (.int 1) 0 p4) p5) .Mod (.Call (.Name (Str.ofString "len") p6) [.Name (Str.ofString "numbers") p7] [] p8) p9) q1) .Mod (.Constant (.int 50) 0 q2) q3) q4) .Add (.Name (Str.ofString "k") q5) q6)
   [⟨.Name (Str.ofString "k") r2,.Call (.Name (Str.ofString "range") r3) [.Name (Str.ofString "many") r4] [] r5,[],0⟩] scV r6) r8) (enLaw L fa)) Q E s:=by
 refine LCg.Assign_ListComp_U (F₀:=F) rfl hsw (clos_V L fa) (by decide) rfl (by decide) rfl rfl rfl ?_ (by intro _; rfl)
 k_steps
 refine wpAny_Name (wpAny_loadName_local (env:=enLaw L fa) rfl rfl F.ns hm ?_) (by decide)
 k_steps
 rename IsRange _ _ _ _ _ _ _ _=>hR
 rename Fr _ _ _ _=>F₁
 rename News _ _ _ _=>N₁
 have hsz:Builtin.Range.rangeSize 0 n 1=n:=by
  unfold Builtin.Range.rangeSize
  simp
  try omega
 refine LCg.CompSrc.range hh F₁ N₁ hR (small_n (by k_room)) hsz (by rw [sizeLine_eq]; omega) fun g₂=>rest_ints (val:=valOf ns) trivial ?step ?fin
 case step=>
  intro i v I oI C oC D m₂ h₂ tk₂ E' ys hin hP hC hx F₂ N₂ off ne
  obtain ⟨ti,rfl⟩:=hP
  rw [Int.zero_add] at hx
  have q1:=Int.fmod_nonneg_of_pos ((i:Int)+1) (b:=(ns.length:Int)) (by k_room)
  have q2:=Int.fmod_lt_of_pos ((i:Int)+1) (b:=(ns.length:Int)) (by k_room)
  have ix:ni[(((i:Int)+1).fmod (ns.length:Int)).toNat]?=some (.int (ns.getD (((i:Int)+1).fmod (ns.length:Int)).toNat 0) (hi.at (i:=(((i:Int)+1).fmod (ns.length:Int)).toNat) (by k_room)).choose):=(hi.at (i:=(((i:Int)+1).fmod (ns.length:Int)).toNat) (by k_room)).choose_spec
  have N₃:News g L h₂ [(C,oC),(L+1,oN),(nD,listOf ni nn)]:=nms_cons (N₂ _ eM1) (nms_cons (N₂ _ (eT3 c1)) (nms_cons (N₂ _ (eT3 c3)) nms_nil))
  clear N₂ F₁ N₁
  k_steps
  refine Calls.call_len_list (News.isList N₃ (by k_mem)) (by rw [hi.len]; exact i63 (And.right ‹1 ≤ ns.length∧ns.length<100›) (by decide)) ?_
  rw [hi.len]
  k_steps
  refine Opq.mk (sub_list (News.isList N₃ (by k_mem)) q1 (by k_room) ix ?_)
  k_steps
  exact Opq.mk ⟨_,_,rfl,rfl⟩
 case fin=>
  intro ys hys D h' tk F' N' off
  exact h D ys h' tk F' N' off hys
end
theorem are_of_ints {vs:List Value} {ns:List Int} (h:Paired (fun v n=>∃ t,v=.int n t) vs ns):IntsAre vs ns:=by
 induction h with
 | nil=>exact .nil
 | cons h _ ih=>
  obtain ⟨t,rfl⟩:=h
  exact .cons _ t ih
theorem sum_ints {prog:Program} {w:World} {A:Around} {E:Vp} {s:Shared} {h₀:Heap} {L l:Addr} {m:Sm} {news:Rest} {a:Array Value} {ns:List Int} {Q:Vp} (hh:A.handled=none) (F:Fr h₀ L s.heap m) (N:News h₀ L s.heap news) (hl:s.heap.IsList l a) (hi:IntsAt a ns)
  (h:∀ h' tk t',Fr h₀ L h' m→News h₀ L h' news→Q (.int ns.sum t') { s with heap:=h',toks:=tk }) :
  wpAny (model prog w) A (call (.builtin "sum") [.ref l]) Q E s:=by
 have hi:=are_of_ints hi
 obtain ⟨xs,hx⟩:=hi.allInts.items
 have hn:numsOf a.toList=ns:=hi.numsOf
 have hx:a=intItems xs:=hx
 rw [hx] at hl hn
 rw [nums_intItems] at hn
 refine sum_intListG hh hl fun h' tk t' hk=>?_
 have:=h h' tk t' (F.keeps hk) (N.grown hk)
 rw [preSum_eq,List.take_of_length_le (by simp),hn]
 exact this
theorem news_fresh {g h h':Heap} {L D:Addr} {o:Obj} {m:Sm} {nw:Rest} (F:Fr g L h m) (N:News g L h nw) (hm:Mod [] h h') (e:h'.get? D=some o) (n:h.get? D=none):News g L h' ((D,o)::nw)∧∀ p∈nw,@Ne Nat D p.1:=by
 refine ⟨nms_cons ⟨e,fun q=>?_,?_⟩ (news_mod0 N hm),fun p hp q=>?_⟩
 ·obtain ⟨oL,es,ep,hL,r⟩:=F.ns
  rw [show D=L from q,show h.get? L=_ from hL] at n
  cases n
 ·cases q:g.get? D with
  | none=>rfl
  | some o'=>
   rw [F.keep _ _ q] at n
   cases n
 ·rw [show D=p.1 from q,(N p hp).1] at n
  cases n
theorem paired_rev {α β:Type} {F:α→β→Prop} {l:List α} {r:List β} (h:Paired F l r):Paired F l.reverse r.reverse:=by
 induction h with
 | nil=>exact .nil
 | cons h _ ih=>rw [List.reverse_cons,List.reverse_cons]; exact Paired.snoc ih h
theorem ints_rev {a:Array Value} {ns:List Int} (h:IntsAt a ns):IntsAt a.toList.reverse.toArray ns.reverse:=paired_rev h
theorem not3 {a:Addr} (h1:@Ne Nat a 299) (h2:@Ne Nat a 422) (h3:@Ne Nat a 464):a∉[299,422,464]:=fun h=>by
 rcases List.mem_cons.mp h with e|h
 ·exact h1 e
 rcases List.mem_cons.mp h with e|h
 ·exact h2 e
 exact h3 (List.mem_singleton.mp h)
theorem not3_big {a:Addr} (h:@LT.lt Nat _ 613 a):a∉[299,422,464]:=not3 (by omega) (by omega) (by omega)
theorem sorted_ext {α:Type} (key:α→Int) {l1 l2:List α} (h1:l1.Pairwise (fun a b=>key a ≤ key b)) (h2:l2.Pairwise (fun a b=>key a ≤ key b)) (h:∀ v,l1.filter (fun a=>decide (key a=v))=l2.filter fun a=>decide (key a=v)):l1=l2:=by
 have sub:∀ {l1 l2:List α},(∀ v,l1.filter (fun a=>decide (key a=v))=l2.filter fun a=>decide (key a=v))→∀ x∈l1,x∈l2:=fun h x hx=>
  (List.mem_filter.mp (h (key x) ▸ List.mem_filter.mpr ⟨hx,decide_eq_true rfl⟩)).1
 induction l1 generalizing l2 with
 | nil=>
  cases l2 with
  | nil=>rfl
  | cons b l2=>exact absurd (sub (fun v=>(h v).symm) b (.head _)) List.not_mem_nil
 | cons a l1 ih=>
  cases l2 with
  | nil=>exact absurd (sub h a (.head _)) List.not_mem_nil
  | cons b l2=>
   have le:∀ {x y:α} {l:List α},(y::l).Pairwise (fun a b=>key a ≤ key b)→x∈y::l→key y ≤ key x:=fun p m=>
    (List.mem_cons.mp m).elim (fun e=>e ▸ Int.le_refl _) ((List.pairwise_cons.mp p).1 _)
   have ek:key a=key b:=Int.le_antisymm (le h1 (sub (fun v=>(h v).symm) b (.head _))) (le h2 (sub h a (.head _)))
   have e:=h (key a)
   rw [List.filter_cons_of_pos (p:=fun x=>decide (key x=key a)) (a:=a) (decide_eq_true rfl),List.filter_cons_of_pos (p:=fun x=>decide (key x=key a)) (a:=b) (decide_eq_true ek.symm)] at e
   obtain ⟨e1,e2⟩:=List.cons.inj e
   rw [e1,ih (List.pairwise_cons.mp h1).2 (List.pairwise_cons.mp h2).2 fun v=>?_]
   by_cases q:key a=v
   ·exact q ▸ e2
   ·have:=h v
    rwa [List.filter_cons_of_neg (p:=fun x=>decide (key x=v)) (a:=a) (fun c=>q (of_decide_eq_true c)),List.filter_cons_of_neg (p:=fun x=>decide (key x=v)) (a:=b) (fun c=>q (ek.trans (of_decide_eq_true c)))] at this
theorem nodup_len:∀ (n:Nat) {l:List Nat},l.Nodup→(∀ a∈l,a<n)→l.length ≤ n
 | 0,[],_,_=>Nat.le_refl _
 | 0,a::_,_,h=>absurd (h a (.head _)) (Nat.not_lt_zero _)
 | n+1,l,nd,h=>by
  by_cases m:n∈l
  ·have p:=List.perm_cons_erase m
   have nd':=p.nodup_iff.mp nd
   rw [List.nodup_cons] at nd'
   have:=nodup_len n nd'.2 fun a ha=>Nat.lt_of_le_of_ne (Nat.le_of_lt_succ (h a (List.mem_of_mem_erase ha))) fun e=>nd'.1 (e ▸ ha)
   rw [p.length_eq,List.length_cons]
   omega
  ·exact Nat.le_succ_of_le (nodup_len n nd fun a ha=>Nat.lt_of_le_of_ne (Nat.le_of_lt_succ (h a ha)) fun e=>m (e ▸ ha))
theorem perm_range (n:Nat) {l:List Nat} (nd:l.Nodup) (h:∀ a∈l,a<n) (e:l.length=n):l.Perm (List.range n):=by
 induction n generalizing l with
 | zero=>rw [List.length_eq_zero_iff.mp e]; exact .refl _
 | succ n ih=>
  have m:n∈l:=Classical.byContradiction fun m=>Nat.not_succ_le_self n (Nat.le_trans (Nat.le_of_eq e.symm) (nodup_len n nd fun a ha=>Nat.lt_of_le_of_ne (Nat.le_of_lt_succ (h a ha)) fun e=>m (e ▸ ha)))
  have p:=List.perm_cons_erase m
  have nd':=p.nodup_iff.mp nd
  rw [List.nodup_cons] at nd'
  have q:=ih nd'.2 (fun a ha=>Nat.lt_of_le_of_ne (Nat.le_of_lt_succ (h a (List.mem_of_mem_erase ha))) fun e=>nd'.1 (e ▸ ha)) (Nat.succ.inj (p.length_eq.symm.trans e))
  rw [List.range_succ]
  exact p.trans ((q.cons n).trans (List.perm_append_comm (l₁:=[n])))
noncomputable def sortI (kk:Nat→Int) (il:List Nat):List Nat:=(sortPl il.length (il.map kk)).filterMap fun i=>il[i]?
section
variable {kk:Nat→Int} {il:List Nat}
theorem pl_perm (hl:il.length∈[2,3,4,5]):(sortPl il.length (il.map kk)).Perm (List.range il.length):=
 let hs:=sortPl_spec hl (kz:=il.map kk) (by simp)
 perm_range _ (nodup_of_asc hs.2.2) hs.2.1 hs.1
theorem pick_nat {l:List Nat} {φ:Nat→Nat}:∀ {os:List Nat},(∀ j∈os,l[j]?=some (φ j))→(os.filterMap fun k=>l[k]?)=os.map φ
 | [],_=>rfl
 | j::r,h=>by
  rw [List.filterMap_cons,h j (.head _),List.map_cons,pick_nat fun i hi=>h i (.tail _ hi)]
theorem range_pick (l:List Nat):((List.range l.length).filterMap fun i=>l[i]?)=l:=by
 have e:∀ i,i<l.length→l[i]?=some (l.getD i 0):=fun i h=>by
  rw [List.getD_eq_getElem?_getD,List.getElem?_eq_getElem h]; rfl
 rw [pick_nat (φ:=fun i=>l.getD i 0) fun i hi=>e i (List.mem_range.mp hi)]
 refine List.ext_getElem? fun i=>?_
 by_cases h:i<l.length
 ·rw [List.getElem?_map,List.getElem?_range h,e i h]
  rfl
 ·rw [List.getElem?_eq_none (by rw [List.length_map,List.length_range]; omega),List.getElem?_eq_none (by omega)]
theorem sortI_perm (hl:il.length∈[2,3,4,5]):(sortI kk il).Perm il:=by
 have:=(pl_perm (kk:=kk) hl).filterMap fun i=>il[i]?
 rw [range_pick] at this
 exact this
theorem kz_at {i x:Nat} (h:il[i]?=some x):(il.map kk).getD i 0=kk x:=by
 rw [List.getD_eq_getElem?_getD,List.getElem?_map,h]; rfl
theorem sortI_sorted (hl:il.length∈[2,3,4,5]):(sortI kk il).Pairwise fun a b=>kk a ≤ kk b:=by
 have hs:=sortPl_spec hl (kz:=il.map kk) (by simp)
 unfold sortI
 rw [List.pairwise_filterMap]
 refine hs.2.2.imp fun {a b} h x hx y hy=>?_
 rw [kz_at hx,kz_at hy] at h
 omega
theorem filter_pick (v:Int) (pl:List Nat):((pl.filterMap fun i=>il[i]?).filter fun x=>decide (kk x=v))=(pl.filter fun i=>decide ((il.map kk).getD i 0=v∧i<il.length)).filterMap fun i=>il[i]?:=by
 induction pl with
 | nil=>rfl
 | cons i pl ih=>
  rw [List.filterMap_cons,List.filter_cons]
  cases e:il[i]? with
  | none=>
   have:¬ i<il.length:=fun h=>nomatch (List.getElem?_eq_getElem h).symm.trans e
   rw [decide_eq_false fun q=>this q.2]; exact ih
  | some x=>
   have hi:i<il.length:=(List.getElem?_eq_some_iff.mp e).1
   rw [kz_at e]
   by_cases q:kk x=v
   ·rw [decide_eq_true (p:=_∧_) ⟨q,hi⟩,if_pos rfl,List.filterMap_cons,e]
    exact (List.filter_cons_of_pos (p:=fun x=>decide (kk x=v)) (decide_eq_true q)).trans (congrArg (x::·) ih)
   ·rw [decide_eq_false (p:=_∧_) fun h=>q h.1]
    exact (List.filter_cons_of_neg (p:=fun x=>decide (kk x=v)) fun c=>q (of_decide_eq_true c)).trans ih
theorem sortI_stable (hl:il.length∈[2,3,4,5]) (v:Int):(sortI kk il).filter (fun x=>decide (kk x=v))=il.filter fun x=>decide (kk x=v):=by
 have hs:=sortPl_spec hl (kz:=il.map kk) (by simp)
 have e:(sortPl il.length (il.map kk)).filter (fun i=>decide ((il.map kk).getD i 0=v∧i<il.length))=(List.range il.length).filter fun i=>decide ((il.map kk).getD i 0=v∧i<il.length):=by
  refine List.Perm.eq_of_pairwise (le:=fun a b=>a<b) (fun a b _ _ h1 h2=>absurd h1 (Nat.lt_asymm h2)) ?_ ?_ ((pl_perm hl).filter _)
  ·rw [List.pairwise_filter]
   refine hs.2.2.imp fun {a b} h ha hb=>?_
   have ha:=(of_decide_eq_true ha).1
   have hb:=(of_decide_eq_true hb).1
   omega
  ·exact (List.pairwise_lt_range).filter _
 unfold sortI
 rw [filter_pick,e,←filter_pick,range_pick]
theorem same_sort {il':List Nat} (hl:il.length∈[2,3,4,5]) (hl':il'.length∈[2,3,4,5]) (h:∀ v,il.filter (fun x=>decide (kk x=v))=il'.filter fun x=>decide (kk x=v)):sortI kk il=sortI kk il':=
 sorted_ext kk (sortI_sorted hl) (sortI_sorted hl') fun v=>by rw [sortI_stable hl,sortI_stable hl',h]
end
theorem fold_row {nm:Str} {f:Ms→Ms} {ml:List Mg} {σ:Addr→Ms} {rows:List (Str×Str)} (nd:(ml.map (·.M)).Nodup) :
  ml.foldl (fun st μ=>(upd st.1 μ.M (f (st.1 μ.M)),st.2++[(nm,μ.who)])) (σ,rows)=(fun a=>if a∈ml.map (·.M) then f (σ a) else σ a,rows++ml.map fun μ=>(nm,μ.who)):=by
 induction ml generalizing σ rows with
 | nil=>exact Prod.ext rfl (List.append_nil _).symm
 | cons μ r ih=>
  rw [List.map_cons,List.nodup_cons] at nd
  rw [List.foldl_cons,ih nd.2,List.append_assoc]
  exact Prod.ext (upd_in nd.1) rfl
theorem phase_rows {nm:Str} {f:Ms→Ms} {ml:List Mg} {σ:Addr→Ms} {rows:List (Str×Str)}:∃ k,(phase nm f ml σ rows).2.1=rows++(ml.take k).map (fun μ=>(nm,μ.who))∧((phase nm f ml σ rows).2.2=none→ml.take k=ml):=by
 induction ml generalizing σ rows with
 | nil=>exact ⟨0,(List.append_nil _).symm,fun _=>rfl⟩
 | cons μ r ih=>
  cases hf:fails nm μ with
  | none=>
   rw [phase_ok hf]
   obtain ⟨k,h1,h2⟩:=ih (σ:=upd σ μ.M (f (σ μ.M))) (rows:=rows++[(nm,μ.who)])
   exact ⟨k+1,h1.trans (List.append_assoc _ _ _),fun h=>congrArg (μ::·) (h2 h)⟩
  | some k=>
   rw [phase_no hf]
   exact ⟨1,rfl,fun h=>nomatch h⟩
theorem phase_none {nm:Str} {f:Ms→Ms} {ml:List Mg} {σ:Addr→Ms} {rows:List (Str×Str)} (h:(phase nm f ml σ rows).2.2=none):∀ μ∈ml,fails nm μ=none:=by
 induction ml generalizing σ rows with
 | nil=>exact fun _ h=>absurd h List.not_mem_nil
 | cons μ r ih=>
  cases hf:fails nm μ with
  | none=>
   rw [phase_ok hf] at h
   exact fun ν hν=>(List.mem_cons.mp hν).elim (fun e=>e ▸ hf) (ih h ν)
  | some k=>
   rw [phase_no hf] at h
   cases h
noncomputable def fourRows (ml:List Mg) (k1 k2 k3 k4:Nat):List (Str×Str):=(ml.take k1).map (fun μ=>(Str.ofString "tpc_begin",μ.who))++((ml.take k2).map (fun μ=>(Str.ofString "commit",μ.who))++((ml.take k3).map (fun μ=>(Str.ofString "tpc_vote",μ.who))++(ml.take k4).map fun μ=>(Str.ofString "tpc_finish",μ.who)))
theorem tryPart_rows {ml:List Mg} {σ:Addr→Ms}:∃ k1 k2 k3 k4,(tryPart ml σ []).1.2.1=fourRows ml k1 k2 k3 k4∧((tryPart ml σ []).1.2.2=none→ml.take k1=ml∧ml.take k2=ml∧ml.take k3=ml∧ml.take k4=ml):=by
 have p:∀ {nm f} {σ:Addr→Ms} {rows:List (Str×Str)} {a},phase nm f ml σ rows=a→∃ k,a.2.1=rows++(ml.take k).map (fun μ=>(nm,μ.who))∧(a.2.2=none→ml.take k=ml):=fun e=>e ▸ phase_rows
 refine tryPart_ind (Q:=fun x=>∃ k1 k2 k3 k4,x.1.2.1=fourRows ml k1 k2 k3 k4∧(x.1.2.2=none→ml.take k1=ml∧ml.take k2=ml∧ml.take k3=ml∧ml.take k4=ml)) (fun a k e1=>?_) (fun a b k e1 e2=>?_) (fun a b c k e1 e2 e3=>?_) fun a b c e1 e2 e3=>?_
 ·obtain ⟨k1,a1,_⟩:=p e1
  exact ⟨k1,0,0,0,a1.trans (List.append_nil _).symm,fun h=>absurd h (Option.some_ne_none k)⟩
 ·obtain ⟨k1,a1,_⟩:=p e1
  obtain ⟨k2,a2,_⟩:=p e2
  dsimp only at a1 a2 ⊢
  rw [a1,List.nil_append] at a2
  exact ⟨k1,k2,0,0,a2.trans (congrArg (_++·) (List.append_nil _).symm),fun h=>absurd h (Option.some_ne_none k)⟩
 ·obtain ⟨k1,a1,_⟩:=p e1
  obtain ⟨k2,a2,_⟩:=p e2
  obtain ⟨k3,a3,_⟩:=p e3
  dsimp only at a1 a2 a3 ⊢
  rw [a2,a1,List.nil_append,List.append_assoc] at a3
  exact ⟨k1,k2,k3,0,a3.trans (congrArg (fun z=>_++(_++z)) (List.append_nil _).symm),fun h=>absurd h (Option.some_ne_none k)⟩
 ·obtain ⟨k1,a1,b1⟩:=p e1
  obtain ⟨k2,a2,b2⟩:=p e2
  obtain ⟨k3,a3,b3⟩:=p e3
  obtain ⟨k4,a4,b4⟩:=phase_rows (nm:=Str.ofString "tpc_finish") (f:=fF) (ml:=ml) (σ:=c.1) (rows:=c.2)
  dsimp only at a1 a2 a3
  rw [a2,a1,List.nil_append,List.append_assoc] at a3
  exact ⟨k1,k2,k3,k4,a4.trans ((congrArg (·++_) a3).trans ((List.append_assoc _ _ _).trans (congrArg (_++·) (List.append_assoc _ _ _)))),fun h=>⟨b1 rfl,b2 rfl,b3 rfl,b4 h⟩⟩
theorem tryPart_none {ml:List Mg} {σ σ1:Addr→Ms} {rows:List (Str×Str)} {v:List Mg} (nd:(ml.map (·.M)).Nodup) (h:tryPart ml σ []=((σ1,rows,none),v)):∀ a∈ml.map (·.M),σ1 a=fF (fC (σ a)):=by
 have p:∀ {nm f} {σ:Addr→Ms} {rows:List (Str×Str)} {a:Addr→Ms} {b},phase nm f ml σ rows=(a,b,none)→∀ x∈ml.map (·.M),a x=f (σ x):=fun {nm f σ rows a b} e x hx=>by
  have n:=phase_all (phase_none (by rw [e])) nd (f:=f) (σ:=σ) (rows:=rows)
  exact (congrFun (congrArg Prod.fst (e.symm.trans n)) x).trans (if_pos hx)
 revert h
 refine tryPart_ind (Q:=fun x=>x=((σ1,rows,none),v)→∀ a∈ml.map (·.M),σ1 a=fF (fC (σ a))) (fun _ k _ h=>absurd (congrArg (·.1.2.2) h) (Option.some_ne_none k)) (fun _ _ k _ _ h=>absurd (congrArg (·.1.2.2) h) (Option.some_ne_none k)) (fun _ _ _ k _ _ _ h=>absurd (congrArg (·.1.2.2) h) (Option.some_ne_none k)) fun a b c e1 e2 e3 h x hx=>?_
 rw [p (congrArg Prod.fst h) x hx,p e3 x hx,p e2 x hx,p e1 x hx]
theorem fold_extra {f:Sr→Mg→Sr} (hf:∀ st μ,∃ ex:List (Str×Str),(f st μ).2=st.2++ex∧∀ r∈ex,r.1∉four) (ml:List Mg) (st:Sr):∃ ex:List (Str×Str),(ml.foldl f st).2=st.2++ex∧∀ r∈ex,r.1∉four:=by
 induction ml generalizing st with
 | nil=>exact ⟨[],(List.append_nil _).symm,fun _ h=>absurd h List.not_mem_nil⟩
 | cons μ ml ih=>
  obtain ⟨e1,a1,b1⟩:=hf st μ
  obtain ⟨e2,a2,b2⟩:=ih (f st μ)
  exact ⟨e1++e2,a2.trans (a1 ▸ List.append_assoc _ _ _),fun r hr=>(List.mem_append.mp hr).elim (b1 r) (b2 r)⟩
theorem clean_rows (ml voted:List Mg) (st:Sr):∃ ex:List (Str×Str),(cleanSt ml voted st).2=st.2++ex∧∀ r∈ex,r.1∉four:=by
 unfold cleanSt
 obtain ⟨e1,a1,b1⟩:=fold_extra (f:=fun st μ=>effA voted μ st) (fun st μ=>by
  unfold effA
  split
  ·exact ⟨[],by simp,fun _ h=>nomatch h⟩
  ·exact ⟨[(Str.ofString "abort",μ.who)],rfl,fun r hr=>by rw [List.mem_singleton.mp hr]; exact (show Str.ofString "abort" ∉ four by decide)⟩) ml st
 obtain ⟨e2,a2,b2⟩:=fold_extra (f:=fun st μ=>effT μ st) (fun st μ=>⟨[(Str.ofString "tpc_abort",μ.who)],rfl,fun r hr=>by rw [List.mem_singleton.mp hr]; exact (show Str.ofString "tpc_abort" ∉ four by decide)⟩) ml (ml.foldl (fun st μ=>effA voted μ st) st)
 exact ⟨e1++e2,by rw [a2,a1,List.append_assoc],fun r hr=>(List.mem_append.mp hr).elim (b1 r) (b2 r)⟩
noncomputable def calledOf (p:Str) (rows:List (Str×Str)):List Str:=(rows.filter fun r=>decide (r.1=p)).map (·.2)
theorem called_map (p nm:Str) (l:List Mg):calledOf p (l.map fun μ=>(nm,μ.who))=if nm=p then l.map (·.who) else []:=by
 unfold calledOf
 by_cases h:nm=p
 ·rw [if_pos h,List.filter_eq_self.mpr (fun r hr=>by
   obtain ⟨μ,_,rfl⟩:=List.mem_map.mp hr
   exact decide_eq_true h),List.map_map]
  rfl
 ·rw [if_neg h,List.filter_eq_nil_iff.mpr (fun r hr=>by
   obtain ⟨μ,_,rfl⟩:=List.mem_map.mp hr
   simpa using h)]
  rfl
theorem called_app (p:Str) (a b:List (Str×Str)):calledOf p (a++b)=calledOf p a++calledOf p b:=by
 unfold calledOf
 rw [List.filter_append,List.map_append]
theorem called_extra {p:Str} (hp:p∈four) {ex:List (Str×Str)} (h:∀ r∈ex,r.1∉four):calledOf p ex=[]:=by
 unfold calledOf
 rw [List.filter_eq_nil_iff.mpr fun r hr=>?_]
 ·rfl
 ·simp only [decide_eq_true_eq]
  exact fun e=>h r hr (e ▸ hp)
theorem called_four {p:Str} (hp:p∈four) (ml:List Mg) (k1 k2 k3 k4:Nat):∃ k∈[k1,k2,k3,k4],calledOf p (fourRows ml k1 k2 k3 k4)=(ml.take k).map (·.who):=by
 unfold fourRows
 rw [called_app,called_app,called_app,called_map,called_map,called_map,called_map]
 simp only [four,List.mem_cons,List.not_mem_nil,or_false] at hp
 rcases hp with rfl|rfl|rfl|rfl
 ·exact ⟨k1,by simp,by rw [if_pos rfl,if_neg (by decide),if_neg (by decide),if_neg (by decide)]; simp⟩
 ·exact ⟨k2,by simp,by rw [if_neg (by decide),if_pos rfl,if_neg (by decide),if_neg (by decide)]; simp⟩
 ·exact ⟨k3,by simp,by rw [if_neg (by decide),if_neg (by decide),if_pos rfl,if_neg (by decide)]; simp⟩
 ·exact ⟨k4,by simp,by rw [if_neg (by decide),if_neg (by decide),if_neg (by decide),if_pos rfl]; simp⟩
section
variable {os:List Nat} {ks vs:List Int} {stp:Str} {kd:Int} {at_:Nat}
theorem sort_c (hl:os.length∈[2,3,4,5]):sortMg (os.map (cMg ks stp kd at_))=(sortI (fun j=>ks.getD j 0) os).map (cMg ks stp kd at_):=by
 unfold sortMg sortI
 rw [List.length_map,List.map_map,List.map_filterMap]
 show (sortPl os.length (os.map fun j=>ks.getD j 0)).filterMap _=_
 congr 1
 funext i
 rw [List.getElem?_map]
theorem c_nodup (h:os.Nodup):((os.map (cMg ks stp kd at_)).map (·.M)).Nodup:=by
 rw [List.map_map,show ((·.M) ∘ cMg ks stp kd at_)=_root_.id from rfl,List.map_id]
 exact h
theorem called_ok (po:os.Perm (List.range ks.length)) (hn:ks.length∈[2,3,4,5]) {p:Str} (hp:p∈four) :
  calledOf p (runPure os ks vs stp kd at_).rows=((sortI (fun j=>ks.getD j 0) os).map whoAt).take (calledOf p (runPure os ks vs stp kd at_).rows).length ∧
   ((runPure os ks vs stp kd at_).er=Str.ofString "none" → (calledOf p (runPure os ks vs stp kd at_).rows).length=ks.length):=by
 have hl:os.length∈[2,3,4,5]:=by rw [po.length_eq,List.length_range]; exact hn
 have lsl:(sortI (fun j=>ks.getD j 0) os).length=ks.length:=by rw [(sortI_perm hl).length_eq,po.length_eq,List.length_range]
 have fin:∀ k,((((sortI (fun j=>ks.getD j 0) os).map (cMg ks stp kd at_)).take k).map (·.who))=((sortI (fun j=>ks.getD j 0) os).map whoAt).take k:=fun k=>by
  rw [List.map_take,List.map_map]; rfl
 have ln:∀ k,(((sortI (fun j=>ks.getD j 0) os).map whoAt).take k)=((sortI (fun j=>ks.getD j 0) os).map whoAt).take (((sortI (fun j=>ks.getD j 0) os).map whoAt).take k).length:=fun k=>by
  rw [List.length_take,←List.take_take,List.take_length]
 unfold runPure runOf
 rw [sort_c hl]
 obtain ⟨k1,k2,k3,k4,a,b⟩:=tryPart_rows (ml:=(sortI (fun j=>ks.getD j 0) os).map (cMg ks stp kd at_)) (σ:=fun j=>⟨0,vs.getD j 0,none⟩)
 generalize tryPart ((sortI (fun j=>ks.getD j 0) os).map (cMg ks stp kd at_)) (fun j=>⟨0,vs.getD j 0,none⟩) []=x at a b ⊢
 obtain ⟨⟨σ1,r1,o1⟩,v⟩:=x
 dsimp only at a b
 obtain ⟨k,hk,hc⟩:=called_four hp ((sortI (fun j=>ks.getD j 0) os).map (cMg ks stp kd at_)) k1 k2 k3 k4
 cases o1 with
 | none=>
  dsimp only
  rw [a,hc]
  obtain ⟨b1,b2,b3,b4⟩:=b rfl
  have:((sortI (fun j=>ks.getD j 0) os).map (cMg ks stp kd at_)).take k=(sortI (fun j=>ks.getD j 0) os).map (cMg ks stp kd at_):=by
   simp only [List.mem_cons,List.not_mem_nil,or_false] at hk
   rcases hk with rfl|rfl|rfl|rfl
   ·exact b1
   ·exact b2
   ·exact b3
   ·exact b4
  rw [fin]
  refine ⟨ln k,fun _=>?_⟩
  rw [←fin,this,List.length_map,List.length_map,lsl]
 | some kk=>
  dsimp only
  obtain ⟨ex,e1,e2⟩:=clean_rows ((sortI (fun j=>ks.getD j 0) os).map (cMg ks stp kd at_)) v (σ1,r1)
  rw [e1,called_app,called_extra hp e2,List.append_nil,a,hc,fin]
  refine ⟨ln k,fun h=>?_⟩
  unfold errOf at h
  split at h<;>exact absurd h (by decide)
theorem none_ok (po:os.Perm (List.range ks.length)) (hn:ks.length∈[2,3,4,5]) (hvs:vs.length=ks.length) (h:(runPure os ks vs stp kd at_).er=Str.ofString "none") :
  (runPure os ks vs stp kd at_).tail=[]∧(runPure os ks vs stp kd at_).shown.map (·.2)=vs:=by
 have hl:os.length∈[2,3,4,5]:=by rw [po.length_eq,List.length_range]; exact hn
 have psl:=(sortI_perm (kk:=fun j=>ks.getD j 0) hl).trans po
 revert h
 unfold runPure runOf
 rw [sort_c hl]
 have tn:=fun σ1 rows v h=>tryPart_none (ml:=(sortI (fun j=>ks.getD j 0) os).map (cMg ks stp kd at_)) (σ:=fun j=>⟨0,vs.getD j 0,none⟩) (σ1:=σ1) (rows:=rows) (v:=v) (c_nodup (psl.nodup_iff.mpr List.nodup_range)) h
 generalize tryPart ((sortI (fun j=>ks.getD j 0) os).map (cMg ks stp kd at_)) (fun j=>⟨0,vs.getD j 0,none⟩) []=x at tn ⊢
 obtain ⟨⟨σ1,r1,o1⟩,v⟩:=x
 cases o1 with
 | some k=>
  intro h
  dsimp only at h
  unfold errOf at h
  split at h<;>exact absurd h (by decide)
 | none=>
  intro _
  refine ⟨rfl,?_⟩
  dsimp only
  have hσ:=tn σ1 r1 v rfl
  rw [List.map_map]
  refine List.ext_getElem? fun j=>?_
  rw [List.getElem?_map]
  by_cases hj:j<ks.length
  ·rw [List.getElem?_range hj]
   have hm:j∈((sortI (fun j=>ks.getD j 0) os).map (cMg ks stp kd at_)).map (·.M):=by
    rw [List.map_map,show ((·.M) ∘ cMg ks stp kd at_)=_root_.id from rfl,List.map_id]
    exact psl.mem_iff.mpr (List.mem_range.mpr hj)
   show some ((σ1 j).kept)=vs[j]?
   rw [hσ j hm,List.getElem?_eq_getElem (by rw [hvs]; exact hj)]
   show some (vs.getD j 0)=_
   rw [List.getD_eq_getElem?_getD,List.getElem?_eq_getElem (by rw [hvs]; exact hj)]
   rfl
  ·rw [List.getElem?_eq_none (by rw [List.length_range]; omega),List.getElem?_eq_none (by omega)]
   rfl
theorem fold_ab {ml:List Mg} (nd:(ml.map (·.M)).Nodup) (st:Sr):ml.foldl (fun st μ=>effAb μ st) st=(fun a=>if a∈ml.map (·.M) then fA (st.1 a) else st.1 a,st.2++ml.map fun μ=>(Str.ofString "abort",μ.who)):=
 fold_row (f:=fA) (σ:=st.1) (rows:=st.2) nd
theorem fail_ok (po:os.Perm (List.range ks.length)) (hn:ks.length∈[2,3,4,5]) (h:(runPure os ks vs stp kd at_).er≠Str.ofString "none") :
  (runPure os ks vs stp kd at_).later.map (·.1)=(runPure os ks vs stp kd at_).later.map (·.2)∧(runPure os ks vs stp kd at_).tail=os.map fun k=>(Str.ofString "abort",whoAt k):=by
 revert h
 unfold runPure runOf
 rcases tryPart (sortMg (os.map (cMg ks stp kd at_))) (fun j=>⟨0,vs.getD j 0,none⟩) [] with ⟨⟨σ1,r1,o1⟩,v⟩
 cases o1 with
 | none=>
  intro h
  exact absurd rfl h
 | some k=>
  intro _
  dsimp only
  rw [fold_ab (c_nodup (po.nodup_iff.mpr List.nodup_range))]
  constructor
  ·rw [List.map_map (l:=List.range ks.length),List.map_map (l:=List.range ks.length)]
   refine List.map_congr_left fun j hj=>?_
   have hm:j∈(os.map (cMg ks stp kd at_)).map (·.M):=by
    rw [List.map_map,show ((·.M) ∘ cMg ks stp kd at_)=_root_.id from rfl,List.map_id]
    exact po.mem_iff.mpr hj
   show (if _ then _ else _:Ms).value=(if _ then _ else _:Ms).kept
   rw [if_pos hm]
   rfl
  ·dsimp only
   rw [List.drop_left,List.map_map]
   rfl
theorem same_out {os':List Nat} (po:os.Perm (List.range ks.length)) (po':os'.Perm (List.range ks.length)) (hn:ks.length∈[2,3,4,5]) (h:∀ c,os.filter (fun j=>decide (ks.getD j 0=c))=os'.filter fun j=>decide (ks.getD j 0=c)) :
  (runPure os ks vs stp kd at_).rows=(runPure os' ks vs stp kd at_).rows∧(runPure os ks vs stp kd at_).shown=(runPure os' ks vs stp kd at_).shown∧(runPure os ks vs stp kd at_).er=(runPure os' ks vs stp kd at_).er∧(runPure os ks vs stp kd at_).later=(runPure os' ks vs stp kd at_).later:=by
 have hl:os.length∈[2,3,4,5]:=by rw [po.length_eq,List.length_range]; exact hn
 have hl':os'.length∈[2,3,4,5]:=by rw [po'.length_eq,List.length_range]; exact hn
 unfold runPure runOf
 rw [sort_c hl,sort_c hl',same_sort hl hl' h]
 rcases tryPart ((sortI (fun j=>ks.getD j 0) os').map (cMg ks stp kd at_)) (fun j=>⟨0,vs.getD j 0,none⟩) [] with ⟨⟨σ1,r1,o1⟩,v⟩
 cases o1 with
 | none=>exact ⟨rfl,rfl,rfl,rfl⟩
 | some k=>
  dsimp only
  refine ⟨rfl,rfl,rfl,?_⟩
  rw [fold_ab (c_nodup (po.nodup_iff.mpr List.nodup_range)),fold_ab (c_nodup (po'.nodup_iff.mpr List.nodup_range))]
  refine List.map_congr_left fun j hj=>?_
  have hm:∀ {l:List Nat},l.Perm (List.range ks.length)→j∈(l.map (cMg ks stp kd at_)).map (·.M):=fun {l} p=>by
   rw [List.map_map,show ((·.M) ∘ cMg ks stp kd at_)=_root_.id from rfl,List.map_id]
   exact p.mem_iff.mpr hj
  dsimp only
  rw [if_pos (hm po),if_pos (hm po')]
end
theorem news_app {g h:Heap} {L:Addr} {a b:Rest} (x:News g L h a) (y:News g L h b):News g L h (a++b):=fun p hp=>(List.mem_append.mp hp).elim (x p) (y p)
inductive RunNext (g:Heap) (L:Addr) (m:Sm) (nw:Rest) (o:Out) (s:Shared) (r:Result) (s₁:Shared):Prop
 | mk (h':Heap) (tk':Tok) (nw':Rest) (T l0 l1 l3 l4:Addr) (x0 x1 x3 x4:Array Value) (n0 n1 n3 n4:Nat) (te:Tok) (ps1 ps2 ps3:Array Value)
  (e1:r=.ok (.ret (.ref T))) (e2:s₁={ s with heap:=h',toks:=tk' }) (f:Fr g L h' m)
  (keep:∀ p∈nw,p.1∉[299,422,464]→h'.get? p.1=some p.2∧p.1≠L∧g.get? p.1=none)
  (tabs:News g L h' [(299,tabObj ps1),(422,tabObj ps2),(464,tabObj ps3)]) (t1:TabL ps1.toList) (t2:TabL ps2.toList) (t3:TabL ps3.toList)
  (nn:News g L h' nw') (dis:∀ p∈nw',∀ q∈nw,@Ne Nat p.1 q.1)
  (mm:∀ p∈[(T,({ cls:=.type "tuple",data:=.seq #[.ref l0,.ref l1,.str o.er te,.ref l3,.ref l4] }:Obj)),(l0,listOf x0 n0),(l1,listOf x1 n1),(l3,listOf x3 n3),(l4,listOf x4 n4)],p∈nw')
  (d0:DatAll nw' x0.toList (o.rows.map rowD)) (d1:DatAll nw' x1.toList (o.shown.map pairD)) (d3:DatAll nw' x3.toList (o.later.map pairD)) (d4:DatAll nw' x4.toList (o.tail.map rowD)):RunNext g L m nw o s r s₁
theorem run_after {outer:List Env} {g:Heap} {L:Addr} {m:Sm} {nw:Rest} {o:Out} {s s₁:Shared} {r:Result} (F:Fr g L s.heap m) (N:News g L s.heap nw) (hfr:frs outer=[L]) (ht:∀ a∈[299,422,464],a≠L∧g.get? a=none) (R:RunEnd outer s o r s₁):RunNext g L m nw o s r s₁:=by
 obtain ⟨h',tk',nw',T,l0,l1,l3,l4,x0,x1,x3,x4,n0,n1,n3,n4,te,ps1,ps2,ps3,e1,e2,keep,frm,tabs,t1,t2,t3,hnw,hm,d0,d1,d3,d4⟩:=R
 rw [hfr] at keep frm
 obtain ⟨oL,es,ep,hL,hd,hr⟩:=F.ns
 obtain ⟨sl,hs⟩:=frm L (.head _) oL hL
 have ok:∀ {b:Addr},b∉[299,422,464]→b≠L→∀ o,s.heap.get? b=some o→h'.get? b=some o:=fun n1 n2 o e=>keep _ o e n1 fun q=>n2 (List.mem_singleton.mp q)
 refine ⟨h',tk',nw',T,l0,l1,l3,l4,x0,x1,x3,x4,n0,n1,n3,n4,te,ps1,ps2,ps3,e1,e2,⟨⟨_,es,ep,hs,hd,hr⟩,fun b o e=>ok (fun q=>?_) (Nat.ne_of_lt (Nat.lt_of_lt_of_le (Heap.lt_size e) F.above)) _ (F.keep b o e),F.above⟩,fun p hp n=>⟨ok n (N p hp).2.1 _ (N p hp).1,(N p hp).2⟩,
  fun p hp=>⟨tabs p hp,ht p.1 ?_⟩,t1,t2,t3,fun p hp=>⟨(hnw p hp).1,fun q=>?_,?_⟩,fun p hp q hq e=>?_,hm,d0,d1,d3,d4⟩
 ·have:=(ht b q).2
  rw [e] at this
  cases this
 ·rcases List.mem_cons.mp hp with rfl|hp
  ·exact .head _
  rcases List.mem_cons.mp hp with rfl|hp
  ·exact eM1
  rw [List.mem_singleton.mp hp]
  exact eM2
 ·have:=(hnw p hp).2
  rw [show p.1=L from q,show s.heap.get? L=_ from hL] at this
  cases this
 ·cases q:g.get? p.1 with
  | none=>rfl
  | some o'=>
   have:=(hnw p hp).2
   rw [F.keep _ _ q] at this
   cases this
 ·have:=(hnw p hp).2
  rw [show p.1=q.1 from e,(N q hq).1] at this
  cases this
section
variable {prog:Program} {w:World} {A:Around} {E:Vp} {s:Shared}
theorem sliceApplied_four {sl:Addr} {u:Tok} {Q:Int×Int×Nat→Shared→Prop} (hs:s.heap.IsSliceOf sl .none (.int 4 u) .none) (h:Q ((0:Int),1,4) s) :
  wpAny (model prog w) A (Builtin.Slice.sliceApplied (.ref sl) (pure (5:Int))) Q E s:=by
 obtain ⟨os,hos,hcs,hds⟩:=id hs
 unfold Builtin.Slice.sliceApplied Builtin.Slice.sliceFields
 refine wpAny_bind (wpAny_bind (wpAny_field hos hds (x:=.none) rfl (wpAny_bind (wpAny_field hos hds (x:=.int 4 u) rfl (wpAny_bind (wpAny_field hos hds (x:=.none) rfl (wpAny_pure ?_)))))))
 refine wpAny_bind (slicePart_none ?_)
 show wpAny _ _ (if ((1:Int) == 0)=true then _ else _) _ _ s
 rw [if_neg (by decide)]
 refine wpAny_bind (slicePart_none (wpAny_bind (slicePart_int (wpAny_bind (wpAny_pure ?_)))))
 exact wpAny_pure h
theorem getItem_tuple_four {t sl:Addr} {v0 v1 v2 v3 v4:Value} {u:Tok} {Q:Vp} (ht:IsTup s.heap t #[v0,v1,v2,v3,v4]) (hs:s.heap.IsSliceOf sl .none (.int 4 u) .none)
  (h:Q (.ref s.heap.objs.size) { s with heap:=s.heap.push { cls:=.type "tuple",data:=.seq #[v0,v1,v2,v3] } }):wpAny (model prog w) A (getItem (.ref t) (.ref sl)) Q E s:=by
 have hdrop:sizeOk (.seq #[v0,v1,v2,v3]):=by
  show (4:Nat) ≤ sizeLine
  rw [sizeLine_eq]; omega
 obtain ⟨os,hos,hcs,hds⟩:=id hs
 have hTs:s.TypeIs (.ref sl) "slice" := ⟨os,hos,hcs⟩
 unfold getItem
 try with_reducible refine wpAny_holding ?_
 first|refine wpAny_bind (wpAny_pure ?_)|skip
 refine wpAny_bind (wpAny_sequenceKey ht.typeIs (by decide) ?_)
 refine wpAny_bind (wpAny_callSpecial?_slot (name:=Str.ofString "__getitem__") ht.typeIs slot_tuple_getitem
  (wpAny_call_entry slot_tuple_getitem ht.typeIs entry_tuple_getitem ?_ (args_tuple_getitem _ _)))
 show wpAny _ _ (Builtin.Tuple.tupleItemsOf (.ref t) >>= _) _ _ s
 refine wpAny_bind (tupleItemsOf_ ht ?_)
 refine wpAny_bind (wpAny_typeOf hTs ?_)
 rw [if_pos (by decide)]
 refine wpAny_bind (sliceApplied_four hs ?_)
 show wpAny _ _ (if ((0:Int) == 0 && (1:Int) == 1 && 4 == 5)=true then _ else _) _ _ s
 rw [if_neg (by decide)]
 have e:(List.filterMap (fun (k:Nat)=>(#[v0,v1,v2,v3,v4]:Array Value)[((0:Int)+(k:Int) * 1).toNat]?) (List.range 4)).toArray=#[v0,v1,v2,v3]:=rfl
 rw [e]
 first
  | exact wpAny_bind (m:=Builtin.Tuple.tupleExact _) (wpAny_newObj_type (wpAny_pure ⟨_,rfl,wpAny_pure h⟩) hdrop)
  | exact wpAny_bind (m:=Builtin.Tuple.tupleExact _) (wpAny_newObj_type (wpAny_bind (wpAny_pure (wpAny_pure ⟨_,rfl,wpAny_pure h⟩))) hdrop)
  | exact wpAny_bind (wpAny_bind (m:=Builtin.Tuple.tupleExact _) (wpAny_newObj_type (wpAny_pure (wpAny_pure ⟨_,rfl,wpAny_pure h⟩)) hdrop))
  | exact wpAny_bind (wpAny_bind (m:=Builtin.Tuple.tupleExact _) (wpAny_newObj_type (wpAny_pure ⟨_,rfl,wpAny_pure h⟩) hdrop))
theorem slice_four {h₀:Heap} {L:Addr} {m:Sm} {news:Rest} {value slice:Expr} {t:Addr} {v0 v1 v2 v3 v4:Value} {u:Tok} {Q:Vp}
  (F:Fr h₀ L s.heap m) (N:News h₀ L s.heap news) (ht:s.heap.get? t=some { cls:=.type "tuple",data:=.seq #[v0,v1,v2,v3,v4] })
  (h:∀ D h',Fr h₀ L h' m→News h₀ L h' ((D,{ cls:=.type "tuple",data:=.seq #[v0,v1,v2,v3] })::news)→Q (.ref D) { s with heap:=h' })
  (hs:subscripted slice false (.ref t) (.ref s.heap.objs.size)=operate [.ref s.heap.objs.size,.ref t] (getItem (.ref t) (.ref s.heap.objs.size)):=by with_unfolding_all rfl)
  (hg:∀ r,letTemporaryGo value (.ref t) r=pure ():=by intro _; with_unfolding_all rfl) :
  wpAny (model prog w) A (subscriptTail value slice (.ref t) (.ref s.heap.objs.size)) Q E { s with heap:=s.heap.push { cls:=.type "slice",data:=.fields #[.none,.int 4 u,.none] } }:=by
 have ht':IsTup (s.heap.push { cls:=.type "slice",data:=.fields #[.none,.int 4 u,.none] }) t #[v0,v1,v2,v3,v4]:=⟨_,Heap.get?_push_of_some _ ht,rfl,_,rfl⟩
 refine subscriptTail_ops (s:={ s with heap:=s.heap.push { cls:=.type "slice",data:=.fields #[.none,.int 4 u,.none] } }) ht'.typeIs slot_tuple_getitem.lookup
  (getItem_tuple_four ht' (Heap.IsSliceOf.new ..) ?_) hs hg
 have N1:=News.push (F.push { cls:=.type "slice",data:=.fields #[.none,.int 4 u,.none] }) (N.grown fun _ _ e=>Heap.get?_push_of_some _ e) { cls:=.type "tuple",data:=.seq #[v0,v1,v2,v3] }
 exact h _ _ ((F.push _).push _) N1
end
theorem ne_same {prog:Program} {w:World} {A:Around} {E:Vp} {s:Shared} {h₀:Heap} {L:Addr} {news:Rest} {a b:Value} {d:Dat} {Q:Vp} (N:News h₀ L s.heap news) (da:DatIn news a d) (db:DatIn news b d) (hk:kqdOk 9 d=true) (hu:A.units+64<cLine) (h:Q (.bool false) s) :
  wpAny (model prog w) A (compareOp .NotEq a b) Q E s:=by
 obtain ⟨as,ra⟩:=kqd_in N 9 da hk
 obtain ⟨bs,rb⟩:=kqd_in N 9 db hk
 have la:=kqd_lay 9 d hk
 have e:PyData.eqv (kqdP d) (kqdP d)=true:=(kqd_eqv 9 d d 9 hk hk).mpr rfl
 have hs:SeqAt.shaped (kqdP d)=true:=by
  unfold SeqAt.shaped
  rw [la.1,Bool.true_and]
  exact decide_eq_true (Nat.le_trans la.2 (by decide))
 exact ne_dataH ra rb hs hs hu (by rw [e]; exact h)
noncomputable def RowsOk (rows:List (Str×Str)):Prop:=∀ r∈rows,PyData.strOk r.1=true∧PyData.strOk r.2=true
theorem RowsOk.snoc {rows:List (Str×Str)} {a b:Str} (h:RowsOk rows) (ha:PyData.strOk a=true) (hb:PyData.strOk b=true):RowsOk (rows++[(a,b)]):=fun r hr=>by
 rcases List.mem_append.mp hr with hr|hr
 ·exact h r hr
 ·rw [List.mem_singleton.mp hr]
  exact ⟨ha,hb⟩
theorem phase_okr {nm:Str} {f:Ms→Ms} (hn:PyData.strOk nm=true):∀ {ml:List Mg} {σ:Addr→Ms} {rows:List (Str×Str)},(∀ μ∈ml,PyData.strOk μ.who=true)→RowsOk rows→RowsOk (phase nm f ml σ rows).2.1
 | [],σ,rows,_,h=>h
 | μ::ml,σ,rows,hw,h=>by
  unfold phase
  cases fails nm μ with
  | some k=>exact h.snoc hn (hw μ (.head _))
  | none=>exact phase_okr hn (fun μ hm=>hw μ (.tail _ hm)) (h.snoc hn (hw μ (.head _)))
theorem tryPart_okr {ml:List Mg} {σ:Addr→Ms} (hw:∀ μ∈ml,PyData.strOk μ.who=true):RowsOk (tryPart ml σ []).1.2.1:=by
 have h0:RowsOk []:=fun _ h=>absurd h List.not_mem_nil
 have p:∀ {nm f} {σ:Addr→Ms} {rows:List (Str×Str)} {a},PyData.strOk nm=true→phase nm f ml σ rows=a→RowsOk rows→RowsOk a.2.1:=fun hn e h=>e ▸ phase_okr hn hw h
 have b1:PyData.strOk (Str.ofString "tpc_begin")=true:=by with_unfolding_all rfl
 have b2:PyData.strOk (Str.ofString "commit")=true:=by with_unfolding_all rfl
 have b3:PyData.strOk (Str.ofString "tpc_vote")=true:=by with_unfolding_all rfl
 have b4:PyData.strOk (Str.ofString "tpc_finish")=true:=by with_unfolding_all rfl
 exact tryPart_ind (Q:=fun x=>RowsOk x.1.2.1) (fun _ _ e=>p b1 e h0) (fun _ _ _ e1 e2=>p b2 e2 (p b1 e1 h0)) (fun _ _ _ _ e1 e2 e3=>p b3 e3 (p b2 e2 (p b1 e1 h0))) fun _ _ _ e1 e2 e3=>p b4 rfl (p b3 e3 (p b2 e2 (p b1 e1 h0)))
theorem fold_okr {f:Sr→Mg→Sr} (ml:List Mg) (hf:∀ st,∀ μ∈ml,RowsOk st.2→RowsOk (f st μ).2):∀ (st:Sr),RowsOk st.2→RowsOk (ml.foldl f st).2:=by
 induction ml with
 | nil=>exact fun _ h=>h
 | cons μ ml ih=>exact fun st h=>ih (fun st μ' hm=>hf st μ' (.tail _ hm)) _ (hf st μ (.head _) h)
theorem clean_okr {ml voted:List Mg} {st:Sr} (hw:∀ μ∈ml,PyData.strOk μ.who=true) (h:RowsOk st.2):RowsOk (cleanSt ml voted st).2:=by
 unfold cleanSt
 refine fold_okr ml (fun st μ hm h=>?_) _ (fold_okr ml (fun st μ hm h=>?_) _ h)
 ·exact h.snoc (by with_unfolding_all rfl) (hw μ hm)
 ·unfold effA
  split
  ·exact h
  ·exact h.snoc (by with_unfolding_all rfl) (hw μ hm)
theorem who_ok {j:Nat} (h:j<5):PyData.strOk (whoAt j)=true:=by
 rcases lt5 h with rfl|rfl|rfl|rfl|rfl<;>with_unfolding_all rfl
theorem run_okr {os:List Nat} {ks vs:List Int} {stp:Str} {kd:Int} {at_:Nat} (po:os.Perm (List.range ks.length)) (hn:ks.length∈[2,3,4,5]):RowsOk (runPure os ks vs stp kd at_).rows∧PyData.strOk (runPure os ks vs stp kd at_).er=true:=by
 have hw:∀ μ∈sortMg (os.map (cMg ks stp kd at_)),PyData.strOk μ.who=true:=fun μ hm=>by
  obtain ⟨j,hj,rfl⟩:=List.mem_map.mp (mem_sortMg hm)
  have hj:=List.mem_range.mp (po.mem_iff.mp hj)
  exact who_ok (Nat.lt_of_lt_of_le hj (le25 hn))
 unfold runPure runOf
 have a1:=tryPart_okr (σ:=fun j=>⟨0,vs.getD j 0,none⟩) hw
 split
 ·rename_i e
  rw [e] at a1
  exact ⟨a1,by with_unfolding_all rfl⟩
 ·rename_i e
  rw [e] at a1
  refine ⟨clean_okr hw a1,?_⟩
  unfold errOf
  split<;>with_unfolding_all rfl
noncomputable abbrev outD (o:Out):Dat:=.tuple [.list (o.rows.map rowD),.list (o.shown.map pairD),.str o.er,.list (o.later.map pairD)]
theorem out_in {nw:Rest} {D l0 l1 l3:Addr} {x0 x1 x3:Array Value} {n0 n1 n3:Nat} {te:Tok} {o:Out} (h:(D,({ cls:=.type "tuple",data:=.seq #[.ref l0,.ref l1,.str o.er te,.ref l3] }:Obj))∈nw) (h0:(l0,listOf x0 n0)∈nw) (h1:(l1,listOf x1 n1)∈nw) (h3:(l3,listOf x3 n3)∈nw)
  (d0:DatAll nw x0.toList (o.rows.map rowD)) (d1:DatAll nw x1.toList (o.shown.map pairD)) (d3:DatAll nw x3.toList (o.later.map pairD)):DatIn nw (.ref D) (outD o):=
 .tuple (vs:=[.ref l0,.ref l1,.str o.er te,.ref l3]) h (.cons (.list (vs:=x0.toList) h0 d0) (.cons (.list (vs:=x1.toList) h1 d1) (.cons (.str _ _) (.cons (.list (vs:=x3.toList) h3 d3) .nil))))
theorem out_ok {o:Out} (hr:RowsOk o.rows) (he:PyData.strOk o.er=true):kqdOk 9 (outD o)=true:=by
 have a:∀ l:List (Int×Int),kqdOk 8 (.list (l.map pairD))=true:=fun l=>by
  rw [kqdOk,List.all_eq_true]
  intro d hd
  obtain ⟨p,_,rfl⟩:=List.mem_map.mp hd
  rfl
 have b:kqdOk 8 (.list (o.rows.map rowD))=true:=by
  rw [kqdOk,List.all_eq_true]
  intro d hd
  obtain ⟨p,hp,rfl⟩:=List.mem_map.mp hd
  have:=hr p hp
  unfold rowD
  simp [kqdOk,this.1,this.2]
 have c:kqdOk 8 (.str o.er)=true:=by simp [kqdOk,he]
 unfold outD
 rw [kqdOk]
 simp [a,b,c]
theorem out_eq {o o':Out} (h:o.rows=o'.rows∧o.shown=o'.shown∧o.er=o'.er∧o.later=o'.later):outD o=outD o':=by
 obtain ⟨h1,h2,h3,h4⟩:=h
 unfold outD
 rw [h1,h2,h3,h4]
section
variable {prog:Program} {w:World} {A:Around} {E:Vp} {s:Shared}
theorem kas_runG {α:Type} {ks:List Value} {κ:SortKind} {lt:Nat→Nat→Bool} {n:Nat} {Q:α→Shared→Prop} (ask:∀ i j,i<n→j<n→∀ C:Bool→Shared→Prop,C (lt i j) s→kas_ask prog w A κ ks i j C s):∀ t:KasT α,okT n t=true→Q (runT lt t) s→t.kasWp (kas_ask prog w A κ ks) Q s
 | .ret a,_,q=>q
 | .ask i j k,ok,q=>by
  obtain ⟨hi,hj,hk⟩:=okT_k ok
  exact ask i j hi hj _ (kas_runG ask (k _) (hk _) q)
noncomputable abbrev tupZ (a b:Int) (t u:Tok):Obj:={ cls:=.type "tuple",data:=.seq #[.int a t,.int b u] }
noncomputable def TupK (own:Rest) (v:Value) (p:Int×Int):Prop:=∃ a t u,v=.ref a∧(a,tupZ p.1 p.2 t u)∈own
noncomputable def lex2 (p q:Int×Int):Bool:=if p.1=q.1 then decide (p.2<q.2) else decide (p.1<q.1)
theorem tup_lt {x y:Addr} {a b c d:Int} {t u t' u':Tok} {C:Bool→Shared→Prop} (hx:s.heap.get? x=some (tupZ a b t u)) (hy:s.heap.get? y=some (tupZ c d t' u')) (h:C (lex2 (a,b) (c,d)) s) :
  wpAny (model prog w) A (keyLt' (tuples' true) (.ref x) (.ref y)) C E s:=by
 refine kat_lt hx rfl hy rfl ?_
 refine kat_cons (wpAny_eqBool_int (kat_go (fun e=>kat_yes ?_) fun e=>kat_no ?_))
 ·have e1:a=c:=by simpa using e
  refine kat_cons (wpAny_eqBool_int (kat_go (fun e=>kat_yes (kat_nil ?_)) fun e=>kat_no ?_))
  ·have e2:b=d:=by simpa using e
   have:lex2 (a,b) (c,d)=false:=by simp [lex2,e1,e2]
   rw [this] at h
   exact h
  ·refine kat_one _ _ ?_
   have:lex2 (a,b) (c,d)=decide (b<d):=by simp [lex2,e1]
   rw [this] at h
   exact PyProof.Rows.lt_int h
 ·have e1:¬ a=c:=by simpa using e
  have:lex2 (a,b) (c,d)=decide (a<c):=by simp [lex2,e1]
  rw [this] at h
  exact oneLt_int h
end
inductive DueBack (g:Heap) (L:Addr) (m:Sm) (nw:Rest) (s:Shared) (p:Int×Int) (v:Value) (s':Shared):Prop
 | mk (D:Addr) (h':Heap) (tk' t u:Tok) (e1:v=.ref D) (e2:s'={ s with heap:=h',toks:=tk' }) (F:Fr g L h' m) (N:News g L h' ((D,tupZ p.1 p.2 t u)::nw)) (ne:∀ q∈nw,@Ne Nat D q.1):DueBack g L m nw s p v s'
theorem TupK.mono {own own':Rest} (hs:∀ p∈own,p∈own') {v:Value} {p:Int×Int} (h:TupK own v p):TupK own' v p:=by
 obtain ⟨a,t,u,e,hm⟩:=h
 exact ⟨a,t,u,e,hs _ hm⟩
theorem paired_mono {α β:Type} {F G:α→β→Prop} (h:∀ a b,F a b→G a b) {l:List α} {r:List β} (p:Paired F l r):Paired G l r:=by
 induction p with
 | nil=>exact .nil
 | cons x _ ih=>exact .cons (h _ _ x) ih
theorem due_go {prog:Program} {w:World} {A:Around} {g:Heap} {L kS D:Addr} {m:Sm} {f:Value} {φ:Nat→Int×Int} {base:Rest} {e1:Nat} {Fin:List Value→Nat→Shared→Prop} (hkD:kS≠D) (il:List Nat) :
  ∀ (ivs ks:List Value) (kz:List (Int×Int)) (own:Rest) (e:Nat) (s:Shared)
   (turn:∀ j∈il,∀ (t:Tok) (s:Shared) (nw:Rest),Fr g L s.heap m→News g L s.heap nw→(∀ p∈base,p∈nw)→wpAny (model prog w) A (call f [.int (j:Int) t]) (DueBack g L m nw s (φ j)) (fun _ _=>False) s),
   Paired (fun v j=>∃ t,v=.int j t) ivs (il.map Int.ofNat)→Paired (TupK own) ks kz→Fr g L s.heap m→News g L s.heap ((kS,seqObj "list" (List.toArray ks) e)::(D,seqObj "list" #[] e1)::(own++base))→(∀ p∈own++base,p.1≠kS∧p.1≠D) →
   (∀ ks' own' e' h' tk,Paired (TupK own') ks' (kz++il.map φ)→Fr g L h' m→News g L h' ((kS,seqObj "list" (List.toArray ks') e')::(D,seqObj "list" #[] e1)::(own'++base))→(∀ p∈own'++base,p.1≠kS∧p.1≠D)→Fin ks' e' { s with heap:=h',toks:=tk }) →
   KatKeys prog w A g L m kS f Fin ivs ks e s:=by
 induction il with
 | nil=>
  intro ivs ks kz own e s _ hp hk F N hn h
  rw [p_nil' hp]
  exact KatKeys.nil (h ks own e s.heap s.toks ((List.append_nil kz).symm ▸ hk) F N hn)
 | cons j il ih=>
  intro ivs ks kz own e s turn hp hk F N hn h
  obtain ⟨v,ivs',e',a,r⟩:=p_inv' hp
  obtain ⟨t,e2⟩:=a
  rw [e',e2]
  refine KatKeys.cons (wpAny_mono (turn j (.head _) t s _ F N fun p hp=>eT2 (List.mem_append_right _ hp)) (fun v s' hb=>?_) fun _ _ x=>x)
  obtain ⟨T,h',tk',t',u',rfl,rfl,F',N',hne⟩:=hb
  have N₂:News g L h' ((kS,seqObj "list" (List.toArray ks) e)::(D,seqObj "list" #[] e1)::(((T,tupZ (φ j).1 (φ j).2 t' u')::own)++base)):=
   nms_cons (N' _ eM1) (nms_cons (N' _ eM2) (nms_cons (N' _ (.head _)) fun p hp=>N' p (eT3 hp)))
  have hn₂:∀ p∈((T,tupZ (φ j).1 (φ j).2 t' u')::own)++base,p.1≠kS∧p.1≠D:=nms_cons ⟨hne _ (.head _),hne _ eM1⟩ hn
  refine KatBack.intro (s:={ s with heap:=h',toks:=tk' }) F' N₂ (UpdF.head fun p hp=>(List.mem_cons.mp hp).elim (fun e=>e ▸ Ne.symm hkD) fun hp=>(hn₂ p hp).1) fun h2 c F2 N2=>?_
  refine ih _ (ks++[.ref T]) (kz++[φ j]) ((T,tupZ (φ j).1 (φ j).2 t' u')::own) c { s with heap:=h2,toks:=tk' } (fun i hi=>turn i (.tail _ hi)) r (Paired.snoc (paired_mono (fun _ _ x=>x.mono fun p hp=>.tail _ hp) hk) ⟨T,t',u',rfl,.head _⟩) F2 N2 hn₂ fun ks' own' e' h3 tk3 hk3 F3 N3 hn3=>?_
  exact h ks' own' e' h3 tk3 (by rw [List.append_assoc] at hk3; exact hk3) F3 N3 hn3
theorem tups_of {h:Heap} {own:Rest} (ho:∀ p∈own,h.get? p.1=some p.2) {ks:List Value} {kz:List (Int×Int)} (hk:Paired (TupK own) ks kz):∃ fs,KatTups h ks fs∧fs.length=kz.length∧∀ v∈fs,∃ n t,v=.int n t:=by
 induction hk with
 | nil=>exact ⟨[],KatTups.nil,rfl,fun _ h=>absurd h List.not_mem_nil⟩
 | cons x _ ih=>
  obtain ⟨a,t,u,rfl,hm⟩:=x
  obtain ⟨fs,k,hl,hf⟩:=ih
  exact ⟨_::fs,KatTups.cons (ho _ hm) rfl rfl rfl k,congrArg (·+1) hl,fun v hv=>(List.mem_cons.mp hv).elim (fun e=>⟨_,_,e⟩) (hf v)⟩
theorem tup_at {own:Rest} {ks:List Value} {kz:List (Int×Int)} (h:Paired (TupK own) ks kz):∀ i,i<kz.length→TupK own (ks.getD i Value.none) (kz.getD i (0,0)):=by
 induction h with
 | nil=>exact fun i h=>(Nat.not_lt_zero i h).elim
 | cons x _ ih=>exact fun i=>Nat.casesOn i (fun _=>x) fun i hi=>ih i (Nat.lt_of_succ_lt_succ hi)
noncomputable def lexPl (kz:List (Int×Int)):List Nat:=(runT (fun i j=>lex2 (kz.getD i (0,0)) (kz.getD j (0,0))) (kas_sort kz.length)).toList
theorem due_sorted {prog:Program} {w:World} {A:Around} {E:Vp} {s:Shared} {g:Heap} {L l:Addr} {m:Sm} {q:Addr} {φ:Nat→Int×Int} {base:Rest} {il:List Nat} {li:Array Value} {c:Nat} {Q:Vp}
  (F:Fr g L s.heap m) (N:News g L s.heap base) (hl:s.heap.get? l=some (listOf li c)) (hi:IntsAt li (il.map Int.ofNat)) (hn:il.length∈[2,3,4,5])
  (turn:∀ j∈il,∀ (t:Tok) (s:Shared) (nw:Rest),Fr g L s.heap m→News g L s.heap nw→(∀ p∈base,p∈nw)→wpAny (model prog w) A.in1.in1 (call (.ref q) [.int (j:Int) t]) (DueBack g L m nw s (φ j)) (fun _ _=>False) s)
  (h:∀ D h' tk dv c,Fr g L h' m→News g L h' ((D,listOf dv c)::base)→(∀ q∈base,q.1≠D)→dv.toList=(lexPl (il.map φ)).map (fun i=>li.toList.getD i Value.none)→Q (.ref D) { s with heap:=h',toks:=tk }) :
  wpAny (model prog w) A (call (.builtin "sorted") [.ref l] [(Str.ofString "key",.ref q)]) Q E s:=by
 have hlen:li.toList.length=il.length:=by
  have:=hi.len
  rw [List.length_map] at this
  rw [Array.length_toList,this]
 have h2:2 ≤ il.length∧il.length<64:=by
  exact small25 hn
 refine kat_sortedK (vs:=li.toList) (b:=false) (f:=.ref q) F N ⟨_,hl,rfl,c,rfl⟩ (by rw [hlen]; exact h2.1) (by rw [hlen]; exact h2.2) (ksk_s1 _ _) (fun x=>ksk_l1 _ _) (fun x=>ksk_t1 q x) fun D kS e1 h' F' N' l0 l1=>?_
 refine due_go (φ:=φ) (base:=base) (Nat.ne_of_gt l0) il li.toList [] [] [] 0 _ turn hi .nil F' N' (fun p hp=>⟨Nat.ne_of_lt (Nat.lt_trans (l1 p hp) l0),Nat.ne_of_lt (l1 p hp)⟩) fun ks own e h3 tk3 hk F3 N3 hn3=>?_
 rw [List.nil_append] at hk
 have hkl:ks.length=il.length:=by rw [hk.length,List.length_map]
 have hown:∀ p∈own,h3.get? p.1=some p.2:=fun p hp=>(N3 p (eT2 (List.mem_append_left _ hp))).1
 obtain ⟨fs,hT,hfl,hfi⟩:=tups_of hown hk
 refine kat_kind (T:=.type "int") hT (by rw [hfl,List.length_map]; omega) (fun v hv=>?_) rfl ?_
 ·obtain ⟨n,t,rfl⟩:=hfi v hv
  exact Looks.now
 show (kas_sort li.toList.length).kasWp (kas_ask prog w A.in1.in1 (tuples' true) (katRev false ks)) _ _
 rw [hlen]
 have hkz:(il.map φ).length=il.length:=List.length_map _
 refine kas_runG (n:=il.length) (lt:=fun i j=>lex2 ((il.map φ).getD i (0,0)) ((il.map φ).getD j (0,0))) (fun i j hi hj C hC=>?_) _ (ok5 _ hn) ?_
 ·obtain ⟨a,t,u,ea,ma⟩:=tup_at hk i (by rw [hkz]; exact hi)
  obtain ⟨b,t',u',eb,mb⟩:=tup_at hk j (by rw [hkz]; exact hj)
  unfold kas_ask
  rw [show katRev false ks=ks from rfl,ea,eb]
  exact tup_lt (hown _ ma) (hown _ mb) hC
 refine KatFin.intro F3 N3 (UpdF.head fun p hp=>?_) fun h4 c4 F4 N4=>KasFin.intro F4 N4 (UpdF.tail (Nat.ne_of_gt l0) (UpdF.head fun p hp=>(hn3 p hp).2)) fun h5 c5 F5 N5=>?_
 ·rcases List.mem_cons.mp hp with rfl|hp
  ·exact Nat.ne_of_lt l0
  ·exact (hn3 p hp).1
 ·refine h D h5 tk3 _ c5 F5 (nms_cons (N5 _ eM1) fun p hp=>N5 p (eT2 (List.mem_append_right _ hp))) (fun q hq=>Nat.ne_of_lt (l1 q hq)) ?_
  unfold lexPl
  rw [hkz]
  rfl
theorem l8 {x y:Int} {i j:Nat} (hi:i<5) (hj:j<5):x * 8+(i:Int)<y * 8+(j:Int) ↔ x<y ∨ x=y∧i<j:=by
 have key:∀ {x y:Int} {i:Nat} (j:Nat),i<5→x<y→x * 8+(i:Int)<y * 8+(j:Int):=fun j _ _=>by omega
 constructor
 ·intro h
  rcases Int.lt_trichotomy x y with a|a|a
  ·exact .inl a
  ·rw [a] at h; exact .inr ⟨a,Int.ofNat_lt.mp (Int.lt_of_add_lt_add_left h)⟩
  ·exact absurd h (Int.not_lt.mpr (Int.le_of_lt (key i hj a)))
 ·rintro (a|⟨rfl,a⟩)
  ·exact key j hi a
  ·exact Int.add_lt_add_left (Int.ofNat_lt.mpr a) _
theorem l8e {x y:Int} {i j:Nat} (hi:i<5) (hj:j<5) (r:x * 8+(i:Int)<y * 8+(j:Int) ∨ x * 8+(i:Int)=y * 8+(j:Int)∧i<j):x<y ∨ x=y∧i<j:=
 r.elim (l8 hi hj).mp fun q=>by omega
theorem l8a {x y:Int} {i j:Nat} (h:x<y ∨ x=y∧i<j) (k:y<x ∨ y=x∧j<i):False:=by
 rcases h with h|⟨rfl,h⟩<;>rcases k with k|⟨e,k⟩
 ·exact Int.lt_irrefl _ (Int.lt_trans h k)
 ·rw [e] at h; exact Int.lt_irrefl _ h
 ·exact Int.lt_irrefl _ k
 ·exact Nat.lt_irrefl _ (Nat.lt_trans h k)
theorem lex_pl {kz:List (Int×Int)} (hn:kz.length∈[2,3,4,5]) (hx:∀ i,i<kz.length→(kz.getD i (0,0)).2=(i:Int)):lexPl kz=sortPl kz.length (kz.map (·.1)):=by
 have hlen:kz.length ≤ 5:=le25 hn
 have g1:∀ i,i<kz.length→(kz.map fun p=>p.1 * 8+p.2).getD i 0=(kz.getD i (0,0)).1 * 8+(i:Int):=fun i hi=>by
  have e:=hx i hi
  rw [List.getD_eq_getElem?_getD,List.getElem?_map,List.getD_eq_getElem?_getD,List.getElem?_eq_getElem hi] at *
  simp only [Option.getD_some,Option.map_some] at e ⊢
  rw [e]
 have g2:∀ i,i<kz.length→(kz.map (·.1)).getD i 0=(kz.getD i (0,0)).1:=fun i hi=>by
  rw [List.getD_eq_getElem?_getD,List.getElem?_map,List.getD_eq_getElem?_getD,List.getElem?_eq_getElem hi]
  rfl
 have e1:lexPl kz=sortPl kz.length (kz.map fun p=>p.1 * 8+p.2):=by
  unfold lexPl sortPl
  rw [runT_congr (n:=kz.length) (fun i j hi hj=>?_) _ (ok5 _ hn)]
  rw [g1 i hi,g1 j hj]
  unfold lex2
  rw [hx i hi,hx j hj]
  split
  ·rename_i e
   rw [e]
   exact decide_eq_decide.mpr (Int.add_lt_add_iff_left _).symm
  ·rename_i e
   exact decide_eq_decide.mpr ⟨fun h=>(l8 (Nat.lt_of_lt_of_le hi hlen) (Nat.lt_of_lt_of_le hj hlen)).mpr (.inl h),fun h=>((l8 (Nat.lt_of_lt_of_le hi hlen) (Nat.lt_of_lt_of_le hj hlen)).mp h).resolve_right fun q=>e q.1⟩
 rw [e1]
 have s1:=sortPl_spec hn (kz:=kz.map fun p=>p.1 * 8+p.2) (by rw [List.length_map])
 have s2:=sortPl_spec hn (kz:=kz.map (·.1)) (by rw [List.length_map])
 have p1:=perm_range _ (nodup_of_asc s1.2.2) s1.2.1 s1.1
 have p2:=perm_range _ (nodup_of_asc s2.2.2) s2.2.1 s2.1
 have w1:(sortPl kz.length (kz.map fun p=>p.1 * 8+p.2)).Pairwise fun a b=>(kz.getD a (0,0)).1<(kz.getD b (0,0)).1 ∨ (kz.getD a (0,0)).1=(kz.getD b (0,0)).1∧a<b:=s1.2.2.imp_of_mem fun {a b} ha hb r=>by
  rw [g1 a (s1.2.1 a ha),g1 b (s1.2.1 b hb)] at r
  exact l8e (Nat.lt_of_lt_of_le (s1.2.1 a ha) hlen) (Nat.lt_of_lt_of_le (s1.2.1 b hb) hlen) r
 have w2:(sortPl kz.length (kz.map (·.1))).Pairwise fun a b=>(kz.getD a (0,0)).1<(kz.getD b (0,0)).1 ∨ (kz.getD a (0,0)).1=(kz.getD b (0,0)).1∧a<b:=s2.2.2.imp_of_mem fun {a b} ha hb r=>by
  rw [g2 a (s2.2.1 a ha),g2 b (s2.2.1 b hb)] at r
  exact r
 exact List.Perm.eq_of_pairwise (fun a b _ _ x y=>(l8a x y).elim) w1 w2 (p1.trans p2.symm)
theorem ints_kf:∀ {vs:List Value} {ns:List Int},Paired (fun v n=>∃ t,v=.int n t) vs ns→kf_ints vs=true
 | _,_,.nil=>rfl
 | _,_,.cons h r=>by
  obtain ⟨t,rfl⟩:=h
  rw [kf_ints]
  exact ints_kf r
theorem idx_kf {j:Nat} {vs:List Value} {os:List Nat} (h:Paired (fun v n=>∃ t,v=.int n t) vs (os.map Int.ofNat)) (hm:j∈os):kf_at (j:Int) vs=some (os.idxOf j):=by
 induction os generalizing vs with
 | nil=>exact absurd hm List.not_mem_nil
 | cons i os ih=>
  obtain ⟨v,vs',e,a,p⟩:=p_inv' h
  obtain ⟨t,e'⟩:=a
  rw [e,e',List.idxOf_cons]
  unfold kf_at
  by_cases e:i=j
  ·rw [e]; simp [isInt]
  ·have b1:((i:Int) == (j:Int))=false:=beq_false_of_ne fun q=>e (Int.ofNat.inj q)
   have b2:(i == j)=false:=beq_false_of_ne e
   simp [isInt,ih p ((List.mem_cons.mp hm).resolve_left (Ne.symm e)),b1,b2]
open LCg in
theorem rest_rel {w:World} {A:Around} {s:Shared} {g:Heap} {L:Addr} {m:Sm} {env:Env} {elt:Expr} {x:Str} {scope:Scope} {cl:List (Str×Addr)} {S:Rest→Prop} {P:Nat→Value→Prop} {Fin:List Value→Rest→Prop} {news:Rest} {α:Type} {R:Value→α→Prop} {al:List α} (hS:S news)
  (step:∀ i a v I oI C oC D m₂ h tk (E':Vp) ys,al[i]?=some a→P i v→NsObj oC m₂→m₂ x=some v→Fr g L h m→News g L h ((I,oI)::(C,oC)::(D,lst ys)::news)→Off3 I C D news→((@Ne Nat I C)∧(@Ne Nat I D)∧(@Ne Nat C D)) →
   wpAny (model P2 w) A (eval elt (compEnvC scope cl C env)) (fun y s₃=>Opq (∃ tk',R y a∧s₃={ s with heap:=h,toks:=tk' })) E' { s with heap:=h,toks:=tk })
  (fin:∀ ys:List Value,Paired R ys al→Fin ys news) :
  CompRest P2 w A g L m env elt x scope cl s S P Fin al.length 0 [] news:=by
 have go:∀ k i ys,i+k=al.length→Paired R ys (al.take i)→CompRest P2 w A g L m env elt x scope cl s S P Fin k i ys news:=by
  intro k
  induction k with
  | zero=>
   intro i ys hi hp
   rw [List.take_of_length_le (by k_room)] at hp
   exact fin ys hp
  | succ k ih=>
   intro i ys hi hp v I oI C oC D m₂ h tk E' hv hC hx F N off ne
   obtain ⟨a,ha⟩:∃ a,al[i]?=some a:=⟨_,List.getElem?_eq_getElem (by k_room)⟩
   refine wpAny_mono (step i a v I oI C oC D m₂ h tk E' ys ha hv hC hx F N off ne) (fun y s₃ q=>?_) fun _ _ e=>e
   obtain ⟨tk',hr,rfl⟩:=q.out
   refine ⟨h,tk',news,rfl,F,N,off,hS,ih (i+1) _ (by k_room) ?_⟩
   rw [List.take_add_one,ha]
   exact Paired.snoc hp hr
 exact go al.length 0 [] (by k_room) .nil
theorem due_comp {w:World} {A:Around} {s:Shared} {g:Heap} {L dD:Addr} {m:Sm} {env:Env} {cl:List (Str×Addr)} {p1 p2 p3:Pos} {nw:Rest} {dv:Array Value} {dc:Nat} {jl:List Nat} {sc:Scope} {Fin:Shared→List Value→Rest→Prop} {loose:List Str} {mean:ExcName→Option Value} {mg mb:Sm}
  (hsc:sc={ kind:=.function,names:=[(Str.ofString ".0",.local),(Str.ofString "k",.local)],isGenerator:=false,isCoroutine:=false })
  (KX:(hd.heap_1 w.params).In g) (TX:Top pq loose mean mg mb g) (hh:A.handled=none) (F:Fr g L s.heap m) (N:News g L s.heap nw) (hm:(dD,listOf dv dc)∈nw) (hd:IntsAt dv (jl.map Int.ofNat)) (hj:∀ j∈jl,j<5) (hjl:jl.length ≤ 5)
  (h:∀ g' ys,Paired (fun v j=>∃ t,v=Value.str (whoAt j) t) ys jl→Fin { s with heap:=g' } ys nw) :
  LCg.CompSrc P2 w A g L m env (.Subscript (.Constant (.str (Str.ofString "abcde")) 0 p1) (.Name (Str.ofString "k") p2) p3) (Str.ofString "k") sc cl Fin (.ref dD) s:=by
 subst hsc
 have e1:dv.size=jl.length:=by rw [hd.len,List.length_map]
 refine LCg.CompSrc.ledger hh F N hm (by rw [sizeLine_eq]; omega) fun g'=>?_
 rw [e1]
 refine rest_rel (R:=fun v j=>∃ t,v=Value.str (whoAt j) t) (.inr ⟨_,hm,rfl,_,rfl⟩) ?step (h g')
 intro i j v I oI C oC D m₂ h₂ tk₂ E' ys hin hP hC hx F₂ N₂ off ne
 have hj5:=hj j (List.mem_of_getElem? hin)
 have hil:i<jl.length:=(List.getElem?_eq_some_iff.mp hin).1
 obtain ⟨t,hv⟩:=hd.at (i:=i) (by rw [List.length_map]; exact hil)
 rw [hP,List.getD_eq_getElem?_getD,List.getElem?_map,hin] at hv
 obtain rfl:=Option.some.inj hv
 have N₃:News g L h₂ [(C,oC)]:=nms_cons (N₂ _ eM1) nms_nil
 clear N₂ F N
 have hj0:(0:Int) ≤ (j:Int)∧(j:Int)<5:=by omega
 obtain ⟨hj1,hj2⟩:=hj0
 replace hx:m₂ (Str.ofString "k")=some (.int (j:Int) t):=hx
 clear hv hP
 k_steps
 exact Opq.mk ⟨_,⟨_,rfl⟩,rfl⟩
theorem picked_ints {fi:Array Value} {os:List Nat} (hfi:IntsAt fi (os.map Int.ofNat)) {pl:List Nat} (h:∀ i∈pl,i<os.length):Paired (fun v n=>∃ t,v=Value.int n t) (pl.map fun i=>fi.toList.getD i Value.none) ((pl.filterMap fun i=>os[i]?).map Int.ofNat):=by
 induction pl with
 | nil=>exact .nil
 | cons i pl ih=>
  have hi:=h i (.head _)
  obtain ⟨t,ht⟩:=hfi.at (i:=i) (by rw [List.length_map]; exact hi)
  rw [List.getD_eq_getElem?_getD,List.getElem?_map,List.getElem?_eq_getElem hi] at ht
  rw [List.map_cons,List.filterMap_cons,List.getElem?_eq_getElem hi]
  refine .cons ⟨t,?_⟩ (ih fun j hj=>h j (.tail _ hj))
  rw [List.getD_eq_getElem?_getD,Array.getElem?_toList,ht]
  rfl
theorem due_ints {fi dv:Array Value} {os:List Nat} {ks:List Int} (hfi:IntsAt fi (os.map Int.ofNat)) (nd:os.Nodup) (hl:os.length∈[2,3,4,5])
  (hdv:dv.toList=(lexPl (os.map fun j=>(ks.getD j 0,(os.idxOf j:Int)))).map fun i=>fi.toList.getD i Value.none):IntsAt dv ((sortI (fun j=>ks.getD j 0) os).map Int.ofNat):=by
 have hlen:(os.map fun j=>(ks.getD j 0,(os.idxOf j:Int))).length=os.length:=List.length_map _
 have hx:∀ i,i<(os.map fun j=>(ks.getD j 0,(os.idxOf j:Int))).length→((os.map fun j=>(ks.getD j 0,(os.idxOf j:Int))).getD i (0,0)).2=(i:Int):=fun i hi=>by
  rw [hlen] at hi
  rw [List.getD_eq_getElem?_getD,List.getElem?_map,List.getElem?_eq_getElem hi]
  show ((os.idxOf os[i]:Nat):Int)=i
  rw [nd.idxOf_getElem]
 rw [lex_pl (by rw [hlen]; exact hl) hx,hlen,List.map_map] at hdv
 have e:(Prod.fst ∘ fun j=>(ks.getD j 0,(os.idxOf j:Int)))=fun j=>ks.getD j 0:=rfl
 rw [e] at hdv
 unfold IntsAt
 rw [hdv]
 exact picked_ints hfi (sortPl_spec hl (kz:=os.map fun j=>ks.getD j 0) (by simp)).2.1
noncomputable def RowH (h:Heap) (v:Value) (r:Str×Str):Prop:=∃ T t u n,v=.ref T∧h.get? T=some { cls:=.type "tuple",data:=.seq #[.str r.1 t,.str r.2 u] n }
theorem RowH.uniq {h:Heap} {v:Value} {r r':Str×Str} (a:RowH h v r) (b:RowH h v r'):r=r':=by
 obtain ⟨T,t,u,n,rfl,e⟩:=a
 obtain ⟨T',t',u',n',e1,e2⟩:=b
 cases e1
 rw [e] at e2
 obtain ⟨a,b⟩:=r
 obtain ⟨c,d⟩:=r'
 simp only [Option.some.injEq,Obj.mk.injEq,Data.seq.injEq] at e2
 have:=e2.2.2.1.1
 simp at this
 exact Prod.ext this.1.1 this.2.1
theorem RowH.keeps {h h':Heap} {v:Value} {r:Str×Str} (k:h.StaysIn h') (a:RowH h v r):RowH h' v r:=by
 obtain ⟨T,t,u,n,rfl,e⟩:=a
 exact ⟨T,t,u,n,rfl,k _ _ e⟩
abbrev Z0xP (g h:Heap) (L:Addr) (nw:Rest):Prop:=∀ (N:News g L h nw) {v:Value} {r:Str×Str} (d:DatIn nw v (rowD r)),RowH h v r
abbrev Z0xcq:=T4 Z0xP
def Z0xc:=eps Z0xcq ⟨inferInstance⟩
theorem row_at {g h:Heap} {L:Addr} {nw:Rest}:Z0xP g h L nw:=eps0 Z0xcq Z0xc rfl (by
 show Z0xP Z0xc.1 Z0xc.2.1 Z0xc.2.2.1 Z0xc.2.2.2
 generalize Z0xc.1=g,Z0xc.2.1=h,Z0xc.2.2.1=L,Z0xc.2.2.2=nw
 intro N v r d
 unfold rowD at d
 cases d with
 | tuple hm ds=>
  cases ds with
  | cons d1 ds=>
   cases ds with
   | cons d2 ds=>
    cases ds
    cases d1
    cases d2
    exact ⟨_,_,_,_,rfl,(N _ hm).1⟩) (g,h,L,nw)
theorem rows_at {g h:Heap} {L:Addr} {nw:Rest} (N:News g L h nw) {rows:List (Str×Str)} {vs:List Value} (d:DatAll nw vs (rows.map rowD)):Paired (RowH h) vs rows:=by
 induction rows generalizing vs with
 | nil=>rw [da_nil d]; exact .nil
 | cons r rows ih=>
  obtain ⟨v,vs',e,a,p⟩:=da_inv d
  rw [e]
  exact .cons (row_at N a) (ih p)
noncomputable def isPh (h:Heap) (ph:Str) (v:Value):Bool:=@decide (∃ b,RowH h v (ph,b)) (Classical.propDecidable _)
theorem isPh_of {h:Heap} {ph:Str} {v:Value} {r:Str×Str} (a:RowH h v r):isPh h ph v=decide (r.1=ph):=by
 unfold isPh
 by_cases e:r.1=ph
 ·rw [decide_eq_true e]
  exact @decide_eq_true _ (Classical.propDecidable _) ⟨r.2,by rw [←e]; exact a⟩
 ·rw [decide_eq_false e]
  refine @decide_eq_false _ (Classical.propDecidable _) fun ⟨b,hb⟩=>e ?_
  rw [a.uniq hb]
theorem paired_mem {α β:Type} {F:α→β→Prop} {l:List α} {r:List β} (h:Paired F l r):∀ a∈l,∃ b,F a b:=by
 induction h with
 | nil=>exact fun _ h=>nomatch h
 | cons h _ ih=>exact fun a m=>(List.mem_cons.mp m).elim (fun e=>⟨_,e ▸ h⟩) (ih a)
theorem called_pairs {h:Heap} {ph:Str} {vs:List Value} {rows:List (Str×Str)} {ys:List Value} (p:Paired (RowH h) vs rows) (k:Paired (fun v y=>∃ r u,RowH h v r∧y=Value.str r.2 u) (vs.filter (isPh h ph)) ys) :
  Paired (fun y x=>∃ t,y=Value.str x t) ys (calledOf ph rows):=by
 unfold calledOf
 induction p generalizing ys with
 | nil=>rw [p_nil k]; exact .nil
 | @cons v r vs rows a _ ih=>
  rw [List.filter_cons,isPh_of a] at k
  rw [List.filter_cons]
  by_cases e:r.1=ph
  ·rw [decide_eq_true e,if_pos rfl] at k
   rw [decide_eq_true e,if_pos rfl,List.map_cons]
   obtain ⟨y,ys',e',b,k⟩:=p_inv k
   obtain ⟨r',u,a',e2⟩:=b
   rw [e']
   exact .cons ⟨u,a.uniq a' ▸ e2⟩ (ih k)
  ·rw [decide_eq_false e] at k
   rw [decide_eq_false e]
   exact ih k
noncomputable abbrev scC:Scope:={ kind:=.function,names:=[(Str.ofString ".0",.local),(Str.ofString "what",.local),(Str.ofString "who",.local),(Str.ofString "phase",.free)],isGenerator:=false,isCoroutine:=false }
theorem clos_C (L fa:Addr):closureFor scC (enLaw L fa)=pure [(Str.ofString "phase",L+1+1+1)]:=by with_unfolding_all rfl
theorem called_test {w:World} {A:Around} {s:Shared} {g:Heap} {L fa C:Addr} {m m₂:Sm} {oc oC:Obj} {ph a:Str} {tp t:Tok} {p1 p2 p3:Pos} {E':Vp} {loose:List Str} {mean:ExcName→Option Value} {mg mb:Sm}
  (KX:(hd.heap_1 w.params).In g) (TX:Top pq loose mean mg mb g) (F:Fr g L s.heap m) (N:News g L s.heap [(C,oC),(L+1+1+1,oc)]) (hoc:oc.data=.cell (some (.str ph tp))) (hC:LCg.NsObj oC m₂) (hx:m₂ (Str.ofString "what")=some (.str a t)) :
  wpAny (model P2 w) A (isTrue (.Compare (.Name (Str.ofString "what") p1) [.Eq] [.Name (Str.ofString "phase") p2] p3) (compEnvC scC [(Str.ofString "phase",L+1+1+1)] C (enLaw L fa)) (eval (.Compare (.Name (Str.ofString "what") p1) [.Eq] [.Name (Str.ofString "phase") p2] p3) (compEnvC scC [(Str.ofString "phase",L+1+1+1)] C (enLaw L fa))))
   (fun ok s'=>Opq (∃ tk,ok=decide (a=ph)∧s'={ s with toks:=tk })) E' s:=by
 k_steps
 exact Opq.mk ⟨s.toks,rfl,rfl⟩
theorem fresh_fr {g h:Heap} {L a:Addr} {m:Sm} (F:Fr g L h m) (e:h.get? a=none):a≠L∧g.get? a=none:=by
 refine ⟨fun q=>?_,?_⟩
 ·obtain ⟨oL,_,_,hL,_⟩:=F.ns
  rw [q,hL] at e; cases e
 ·cases q:g.get? a with
  | none=>rfl
  | some o=>have:=F.keep _ _ q; rw [e] at this; cases this
abbrev Z01P (pq:Program) (w:World) (A:Around) (E:Vp) (s:Shared) (g:Heap) (L fa T l0:Addr) (m:Sm) (nw:Rest) (x0:Array Value) (n0:Nat) (v1 v2 v3 v4:Value) (rows:List (Str×Str)) (ph:Str) (tp:Tok) (oc:Obj) (loose:List Str) (mean:ExcName→Option Value) (mg mb:Sm) (p1 p2 p3 p4 p5 p6 p7 p8 p9 pa pb py ps:Pos) (Q:Fp):Prop:=∀ (KX:(hd.heap_1 w.params).In g) (TX:Top pq loose mean mg mb g) (hh:A.handled=none) (F:Fr g L s.heap m) (N:News g L s.heap nw) (hm:m (Str.ofString "one")=some (.ref T)) (hT:(T,({ cls:=.type "tuple",data:=.seq #[.ref l0,v1,v2,v3,v4] }:Obj))∈nw) (hl:(l0,listOf x0 n0)∈nw) (hd:DatAll nw x0.toList (rows.map rowD)) (hz:x0.size<1000) (hc:(L+1+1+1,oc)∈nw) (hoc:oc.data=.cell (some (.str ph tp))) (hsw:swapsWith (.ListComp (.Name (Str.ofString "who") p1) [⟨.Tuple [.Name (Str.ofString "what") p2,.Name (Str.ofString "who") p3] 0 p4,.Subscript (.Name (Str.ofString "one") p5) (.Constant (.int 0) 0 p6) p7,[.Compare (.Name (Str.ofString "what") p8) [.Eq] [.Name (Str.ofString "phase") p9] pa],0⟩] scC pb) (some (.Name (Str.ofString "called") py)) ps.line (enLaw L fa)=pure true) (h:∀ D n ys h' tk,Fr g L h' (fun z=>if z=Str.ofString "called" then some (.ref D) else m z)→News g L h' ((D,listOf ys n)::nw)→(∀ p∈nw,p.1≠D)→Paired (fun y x=>∃ t,y=Value.str x t) ys.toList (calledOf ph rows)→Q .next { s with heap:=h',toks:=tk }),wpAny (model P2 w) A (exec (.Assign [.Name (Str.ofString "called") py] (.ListComp (.Name (Str.ofString "who") p1) [⟨.Tuple [.Name (Str.ofString "what") p2,.Name (Str.ofString "who") p3] 0 p4,.Subscript (.Name (Str.ofString "one") p5) (.Constant (.int 0) 0 p6) p7,[.Compare (.Name (Str.ofString "what") p8) [.Eq] [.Name (Str.ofString "phase") p9] pa],0⟩] scC pb) ps) (enLaw L fa)) Q E s
abbrev Z01cq:=U fun a=>U fun b=>U fun c=>U fun d=>U fun e=>U fun f g=>T4 (T6 (T6 (T6 (T6 (T6 (T6 Z01P a) b) c) d) e) f) g
def Z01c:=eps Z01cq ⟨inferInstance⟩
theorem called_assign {pq:Program} {w:World} {A:Around} {E:Vp} {s:Shared} {g:Heap} {L fa T l0:Addr} {m:Sm} {nw:Rest} {x0:Array Value} {n0:Nat} {v1 v2 v3 v4:Value} {rows:List (Str×Str)} {ph:Str} {tp:Tok} {oc:Obj} {loose:List Str} {mean:ExcName→Option Value} {mg mb:Sm} {p1 p2 p3 p4 p5 p6 p7 p8 p9 pa pb py ps:Pos} {Q:Fp}:Z01P pq w A E s g L fa T l0 m nw x0 n0 v1 v2 v3 v4 rows ph tp oc loose mean mg mb p1 p2 p3 p4 p5 p6 p7 p8 p9 pa pb py ps Q:=eps0 Z01cq Z01c rfl (by
 show Z01P Z01c.1.1 Z01c.1.2.1 Z01c.1.2.2.1 Z01c.1.2.2.2.1 Z01c.1.2.2.2.2.1 Z01c.1.2.2.2.2.2 Z01c.2.1.1 Z01c.2.1.2.1 Z01c.2.1.2.2.1 Z01c.2.1.2.2.2.1 Z01c.2.1.2.2.2.2.1 Z01c.2.1.2.2.2.2.2 Z01c.2.2.1.1 Z01c.2.2.1.2.1 Z01c.2.2.1.2.2.1 Z01c.2.2.1.2.2.2.1 Z01c.2.2.1.2.2.2.2.1 Z01c.2.2.1.2.2.2.2.2 Z01c.2.2.2.1.1 Z01c.2.2.2.1.2.1 Z01c.2.2.2.1.2.2.1 Z01c.2.2.2.1.2.2.2.1 Z01c.2.2.2.1.2.2.2.2.1 Z01c.2.2.2.1.2.2.2.2.2 Z01c.2.2.2.2.1.1 Z01c.2.2.2.2.1.2.1 Z01c.2.2.2.2.1.2.2.1 Z01c.2.2.2.2.1.2.2.2.1 Z01c.2.2.2.2.1.2.2.2.2.1 Z01c.2.2.2.2.1.2.2.2.2.2 Z01c.2.2.2.2.2.1.1 Z01c.2.2.2.2.2.1.2.1 Z01c.2.2.2.2.2.1.2.2.1 Z01c.2.2.2.2.2.1.2.2.2.1 Z01c.2.2.2.2.2.1.2.2.2.2.1 Z01c.2.2.2.2.2.1.2.2.2.2.2 Z01c.2.2.2.2.2.2.1 Z01c.2.2.2.2.2.2.2.1 Z01c.2.2.2.2.2.2.2.2.1 Z01c.2.2.2.2.2.2.2.2.2
 generalize Z01c.1.1=pq,Z01c.1.2.1=w,Z01c.1.2.2.1=A,Z01c.1.2.2.2.1=E,Z01c.1.2.2.2.2.1=s,Z01c.1.2.2.2.2.2=g,Z01c.2.1.1=L,Z01c.2.1.2.1=fa,Z01c.2.1.2.2.1=T,Z01c.2.1.2.2.2.1=l0,Z01c.2.1.2.2.2.2.1=m,Z01c.2.1.2.2.2.2.2=nw,Z01c.2.2.1.1=x0,Z01c.2.2.1.2.1=n0,Z01c.2.2.1.2.2.1=v1,Z01c.2.2.1.2.2.2.1=v2,Z01c.2.2.1.2.2.2.2.1=v3,Z01c.2.2.1.2.2.2.2.2=v4,Z01c.2.2.2.1.1=rows,Z01c.2.2.2.1.2.1=ph,Z01c.2.2.2.1.2.2.1=tp,Z01c.2.2.2.1.2.2.2.1=oc,Z01c.2.2.2.1.2.2.2.2.1=loose,Z01c.2.2.2.1.2.2.2.2.2=mean,Z01c.2.2.2.2.1.1=mg,Z01c.2.2.2.2.1.2.1=mb,Z01c.2.2.2.2.1.2.2.1=p1,Z01c.2.2.2.2.1.2.2.2.1=p2,Z01c.2.2.2.2.1.2.2.2.2.1=p3,Z01c.2.2.2.2.1.2.2.2.2.2=p4,Z01c.2.2.2.2.2.1.1=p5,Z01c.2.2.2.2.2.1.2.1=p6,Z01c.2.2.2.2.2.1.2.2.1=p7,Z01c.2.2.2.2.2.1.2.2.2.1=p8,Z01c.2.2.2.2.2.1.2.2.2.2.1=p9,Z01c.2.2.2.2.2.1.2.2.2.2.2=pa,Z01c.2.2.2.2.2.2.1=pb,Z01c.2.2.2.2.2.2.2.1=py,Z01c.2.2.2.2.2.2.2.2.1=ps,Z01c.2.2.2.2.2.2.2.2.2=Q
 intro KX TX hh F N hm hT hl hd hz hc hoc hsw h
 refine comp_assign (g:=g) (m:=m) (cl:=[(Str.ofString "phase",L+1+1+1)]) (isPh s.heap ph) (fun _ v y=>∃ r u,RowH s.heap v r∧y=Value.str r.2 u) (fun v m₂=>∃ r t u,RowH s.heap v r∧m₂ (Str.ofString "what")=some (.str r.1 t)∧m₂ (Str.ofString "who")=some (.str r.2 u)) (fun _ _ _ _ _ h=>h) hh rfl hsw (clos_C L fa) (by decide) rfl (by decide) ?hown rfl rfl ?main ?hs
 case hown=>exact goes_tuple
 case hs=>intro x; rfl
 case main=>
  refine wpAny_mono (Q:=fun xv s₁=>Opq (∃ tk,xv=.ref l0∧s₁={ s with toks:=tk })) ?it (fun xv s₁ q=>?_) fun _ _ e=>e
  case it=>
   k_steps
   refine wpAny_Name (wpAny_loadName_local (env:=enLaw L fa) rfl rfl F.ns hm ?_) (by decide)
   k_steps
   exact Opq.mk ⟨_,rfl,rfl⟩
  obtain ⟨tk,rfl,rfl⟩:=q.out
  have rp:=rows_at N hd
  have rowOf:∀ v∈x0.toList,∃ r,RowH s.heap v r:=paired_mem rp
  refine ⟨l0,x0,rfl,News.isList N hl,by rw [sizeLine_eq]; omega,F,?asg,?tst,?elt,?fin⟩
  case asg=>
   intro C v s₂ m₂ E' hv st fC hn
   obtain ⟨r,hr⟩:=rowOf v hv
   obtain ⟨T',t,u,n,rfl,hT'⟩:=hr
   refine assign_Tuple_tuple hh (items:=#[.str r.1 t,.str r.2 u]) ⟨_,st _ _ hT',rfl,n,rfl⟩ rfl rfl fun h₁ he=>?_
   have hn₁:h₁.Ns C m₂:=by
    obtain ⟨o,es,ep,e,q⟩:=hn
    exact ⟨o,es,ep,he _ _ (Nat.ne_of_lt (Heap.lt_size e)) e,q⟩
   refine assignInOrder_cons (wpAny_assign_Name (wpAny_storeName_local rfl hn₁ (fun h₂ hn₂ hs₂=>?_) rfl))
   refine assignInOrder_cons (wpAny_assign_Name (wpAny_storeName_local rfl hn₂ (fun h₃ hn₃ hs₃=>?_) rfl))
   refine assignInOrder_nil ⟨h₃,_,_,rfl,hn₃,⟨r,t,u,⟨T',t,u,n,rfl,hT'⟩,?_,if_pos rfl⟩,?_⟩
   ·rw [if_neg (by decide)]
    exact if_pos rfl
   ·exact fun b o nb e=>hs₃.extBut _ _ nb (hs₂.extBut _ _ nb (he _ _ (Nat.ne_of_lt (Heap.lt_size e)) e))
  case tst=>
   intro C v s₂ m₂ E' hv st fC hn hb
   obtain ⟨r,t,u,hr,hw,_⟩:=hb
   have F₂:Fr g L s₂.heap m:=fr_mod0 F fun b o e _=>st b o e
   obtain ⟨oC,hoC⟩:∃ oC,s₂.heap.get? C=some oC:=let ⟨o,_,_,e,_⟩:=hn; ⟨o,e⟩
   have nsC:LCg.NsObj oC m₂:=by
    obtain ⟨o,es,ep,e,r⟩:=hn
    rw [hoC] at e
    obtain rfl:=Option.some.inj e
    exact ⟨es,ep,r⟩
   have gn:=fresh_fr F fC
   have hcc:=N _ hc
   have N₂:News g L s₂.heap [(C,oC),(L+1+1+1,oc)]:=nms_cons ⟨hoC,gn⟩ (nms_cons ⟨st _ _ hcc.1,hcc.2⟩ nms_nil)
   refine wpAny_tests_one (wpAny_mono (called_test KX TX F₂ N₂ hoc nsC hw) (fun ok s₃ q=>?_) fun _ _ e=>e)
   obtain ⟨tk',e1,e2⟩:=q.out
   rw [e1,e2,isPh_of hr]
   exact ⟨rfl,s₂.heap,tk',rfl,fun _ _ e=>e⟩
  case elt=>
   intro C v s₂ m₂ E' hv _ st fC hn hb
   obtain ⟨r,t,u,hr,_,hw⟩:=hb
   exact wpAny_Name (wpAny_loadName_local (env:=compEnvC scC [(Str.ofString "phase",L+1+1+1)] C (enLaw L fa)) rfl rfl hn hw ⟨⟨[],(fun _ h=>nomatch h),r,u,hr,rfl⟩,s₂.heap,s₂.toks,rfl,fun _ _ e=>e⟩) (by decide)
  case fin=>
   intro D n ys own h' tk' fD hD ho hP st F'
   refine h D n ys h' tk' F' (nms_cons ⟨hD,fresh_fr F fD⟩ fun p hp=>?_) (fun p hp e=>?_) (called_pairs rp hP)
   ·have c:=N p hp
    exact ⟨st _ _ c.1 fun q=>c.2.1 (List.mem_singleton.mp q),c.2⟩
   ·have c:=(N p hp).1
    have fD':s.heap.get? D=none:=fD
    rw [e,fD'] at c
    cases c) ((pq,w,A,E,s,g),(L,fa,T,l0,m,nw),(x0,n0,v1,v2,v3,v4),(rows,ph,tp,oc,loose,mean),(mg,mb,p1,p2,p3,p4),(p5,p6,p7,p8,p9,pa),(pb,py,ps,Q))
theorem run_len {os:List Nat} {ks vs:List Int} {stp:Str} {kd:Int} {at_:Nat} (po:os.Perm (List.range ks.length)) (hn:ks.length∈[2,3,4,5]):(runPure os ks vs stp kd at_).rows.length<100:=by
 have hl:(os.map (cMg ks stp kd at_)).length∈[2,3,4,5]:=by rw [List.length_map,po.length_eq,List.length_range]; exact hn
 have h5:(sortMg (os.map (cMg ks stp kd at_))).length ≤ 5:=by
  rw [sortMg_len hl]
  simp only [List.mem_cons,List.not_mem_nil,or_false] at hl
  omega
 unfold runPure runOf
 split
 ·rename_i rows _ e
  have:=tryPart_len e
  rw [List.length_nil] at this
  show rows.length<100
  omega
 ·rename_i σ1 rows k voted e
  have:=tryPart_len e
  rw [List.length_nil] at this
  have h2:=cleanSt_len (sortMg (os.map (cMg ks stp kd at_))) voted (σ1,rows)
  have h3:((σ1,rows):Sr).2.length=rows.length:=rfl
  show (cleanSt (sortMg (os.map (cMg ks stp kd at_))) voted (σ1,rows)).2.length<100
  omega
theorem strs_dat {nw:Rest} {ys:List Value} {xs:List Str} (h:Paired (fun y x=>∃ t,y=Value.str x t) ys xs):DatAll nw ys (xs.map .str):=by
 induction h with
 | nil=>exact .nil
 | cons h _ ih=>
  obtain ⟨t,rfl⟩:=h
  exact .cons (.str _ _) ih
theorem ints_dat {nw:Rest} {ys:List Value} {xs:List Int} (h:Paired (fun y x=>∃ t,y=Value.int x t) ys xs):DatAll nw ys (xs.map .int):=by
 induction h with
 | nil=>exact .nil
 | cons h _ ih=>
  obtain ⟨t,rfl⟩:=h
  exact .cons (.int _ _) ih
theorem dat_len {nw:Rest} {vs:List Value} {ds:List Dat} (h:DatAll nw vs ds):vs.length=ds.length:=by
 induction ds generalizing vs with
 | nil=>rw [da_nil h]; rfl
 | cons d ds ih=>
  obtain ⟨v,vs',e,_,p⟩:=da_inv h
  rw [e]; exact congrArg (·+1) (ih p)
theorem strs_ok {xs:List Str} (h:∀ x∈xs,PyData.strOk x=true):kqdOk 9 (.list (xs.map .str))=true:=by
 rw [kqdOk,List.all_eq_true]
 intro d hd
 obtain ⟨x,hx,rfl⟩:=List.mem_map.mp hd
 rw [kqdOk]
 exact h x hx
theorem paired_who {ys:List Value} {jl:List Nat} (h:Paired (fun v j=>∃ t,v=Value.str (whoAt j) t) ys jl):Paired (fun y x=>∃ t,y=Value.str x t) ys (jl.map whoAt):=by
 induction h with
 | nil=>exact .nil
 | cons h _ ih=>exact .cons h ih
section
local macro_rules | `(tactic| walk_at "newTuple cons cons nil") => `(tactic| refine Opq.out ?_)
local macro_rules | `(tactic| walk_at "newTuple") => `(tactic| refine Opq.out ?_)
noncomputable abbrev scM:Scope:={ kind:=.function,names:=[(Str.ofString ".0",.local),(Str.ofString "manager",.local)],isGenerator:=false,isCoroutine:=false }
noncomputable abbrev tupI (a b:Int) (t u:Tok):Obj:=tup2 (.int a t) (.int b u)
noncomputable def PairAt (σ:Addr→Ms) (own:Rest) (v y:Value):Prop:=∃ M T t u,v=.ref M∧y=.ref T∧(T,tup2 (.int (σ M).value t) (.int (σ M).kept u))∈own
theorem shown_elt {w:World} {A:Around} {s:Shared} {g:Heap} {L:Addr} {m:Sm} {nw:Rest} {mi:Array Value} {kept:Rest} {lg:Addr} {μs:List Mg} {σ:Addr→Ms} {rows:List (Str×Str)} {rest:Rest} {loose:List Str} {mg mb:Sm}
  {p1 p2 p3 p4 p5:Pos} (KX:(hd.heap_1 w.params).In g) (TX:TopRead pq loose mg mb g)
  (F:Fr g L s.heap m) (N:News g L s.heap nw) (hmi:mi.toList=μs.map fun μ=>.ref μ.M) (W:Wd kept w lg μs σ rows rest) (hr:∀ p∈rest,p∈nw)
  (C:Addr) (v:Value) (s₂:Shared) (m₂:Sm) (E':Vp) (hv:v∈mi.toList) (st:s.heap.StaysIn s₂.heap) (fC:s.heap.get? C=none) (hn:s₂.heap.Ns C m₂) (hb:m₂ (Str.ofString "manager")=some v) :
  wpAny (model P2 w) A (eval (.Tuple [.Attribute (.Name (Str.ofString "manager") p1) (Str.ofString "value") p2,.Attribute (.Name (Str.ofString "manager") p3) (Str.ofString "kept") p4] 0 p5) (compEnvC scM [] C (enR L)))
   (fun y s₃=>(∃ own,(∀ q∈own,s₂.heap.get? q.1=none∧s₃.heap.get? q.1=some q.2)∧PairAt σ own v y)∧Keeps s₂ s₃) E' s₂:=by
 obtain ⟨μ,hμ,rfl⟩:=List.mem_map.mp (hmi ▸ hv)
 have P:=W.mg μ hμ
 obtain ⟨t5,t6,rv,hd,_⟩:=P.dict
 have F₂:Fr g L s₂.heap m:=fr_mod0 F fun b o e _=>st b o e
 have N₁:News g L s₂.heap nw:=news_mod0 N fun b o e _=>st b o e
 obtain ⟨oC,hoC⟩:∃ oC,s₂.heap.get? C=some oC:=let ⟨o,_,_,e,_⟩:=hn; ⟨o,e⟩
 have st_none:s₂.heap.get? s₂.heap.objs.size=none:=by
  cases q:s₂.heap.get? s₂.heap.objs.size with
  | none=>rfl
  | some o=>exact absurd (Heap.lt_size q) (Nat.lt_irrefl _)
 have nsC:LCg.NsObj oC m₂:=by
  obtain ⟨o,es,ep,e,r⟩:=hn
  rw [hoC] at e
  obtain rfl:=Option.some.inj e
  exact ⟨es,ep,r⟩
 have nCL:C≠L:=fun e=>by
  obtain ⟨oL,_,_,hL,_⟩:=F.ns
  rw [e,hL] at fC; cases fC
 have gC:g.get? C=none:=by
  cases q:g.get? C with
  | none=>rfl
  | some o=>have:=F.keep _ _ q; rw [fC] at this; cases this
 have N₂:News g L s₂.heap [(C,oC),(μ.M,instObj μ.C μ.d),(μ.d,mgDict lg μ (σ μ.M) t5 t6 rv)]:=nms_cons ⟨hoC,nCL,gC⟩ (nms_cons (N₁ _ (hr _ P.inst)) (nms_cons (N₁ _ (hr _ hd)) nms_nil))
 clear N₁ F
 rcases P.cls with hC|hC
 all_goals
  rw [hC] at N₂
  k_steps
  refine Opq.mk (wpAny_newTuple ⟨⟨[(s₂.heap.objs.size,tupI (σ μ.M).value (σ μ.M).kept t6 t5)],fun q hq=>?_,μ.M,_,t6,t5,rfl,rfl,.head _⟩,_,_,rfl,fun b o e=>Heap.get?_push_of_some _ e⟩)
  obtain rfl:=List.mem_singleton.mp hq
  exact ⟨st_none,Heap.get?_push_size _ rfl⟩
theorem shown_comp {w:World} {A:Around} {E:Vp} {s:Shared} {g:Heap} {L mgs:Addr} {m:Sm} {nw:Rest} {mi:Array Value} {c:Nat} {kept:Rest} {lg:Addr} {μs:List Mg} {σ:Addr→Ms} {rows:List (Str×Str)} {rest:Rest} {loose:List Str} {mg mb:Sm}
  {p1 p2 p3 p4 p5 p6 p7 p8:Pos} {Q:Vp} (KX:(hd.heap_1 w.params).In g) (TX:TopRead pq loose mg mb g) (hh:A.handled=none) (hroom:A.depth+20<recursionLimit)
  (F:Fr g L s.heap m) (N:News g L s.heap nw) (hm:m (Str.ofString "managers")=some (.ref mgs)) (hmg:(mgs,listOf mi c)∈nw) (hmi:mi.toList=μs.map fun μ=>.ref μ.M) (hz:mi.size<100)
  (W:Wd kept w lg μs σ rows rest) (hr:∀ p∈rest,p∈nw)
  (h:∀ D n ys own h' tk,Fr g L h' m→News g L h' ((D,listOf ys n)::(own++nw))→Paired (PairAt σ own) mi.toList ys.toList→(∀ q∈(D,listOf ys n)::own,s.heap.get? q.1=none)→(∀ q∈own,q.1≠D)→Q (.ref D) { s with heap:=h',toks:=tk }) :
  wpAny (model P2 w) A (eval (.ListComp (.Tuple [.Attribute (.Name (Str.ofString "manager") p1) (Str.ofString "value") p2,.Attribute (.Name (Str.ofString "manager") p3) (Str.ofString "kept") p4] 0 p5)
   [⟨.Name (Str.ofString "manager") p6,.Name (Str.ofString "managers") p7,[],0⟩] scM p8) (enR L)) Q E s:=by
 have fr0:∀ {h':Heap},s.heap.StaysIn h'→Fr g L h' m:=fun st=>fr_mod0 F fun b o e _=>st b o e
 have nw0:∀ {h':Heap},s.heap.StaysIn h'→News g L h' nw:=fun st=>news_mod0 N fun b o e _=>st b o e
 refine comp_list (cl:=[]) (fun _=>true) (PairAt σ) (fun v m₂=>m₂ (Str.ofString "manager")=some v) ?hmono hh ?hclos ?hcell ?hkind ?hnames ?hown ?main ?hs
 case hmono=>
  rintro own own' v y hs ⟨M,T,t,u,e1,e2,hm⟩
  exact ⟨M,T,t,u,e1,e2,hs _ hm⟩
 case hclos=>with_unfolding_all rfl
 case hcell=>decide
 case hkind=>rfl
 case hnames=>decide
 case hown=>exact goes_name
 case hs=>intro x; rfl
 case main=>
  refine wpAny_mono (Q:=fun xv s₁=>xv=.ref mgs∧s₁=s) ?nm (fun xv s₁ q=>?_) fun _ _ e=>e
  case nm=>
   exact wpAny_Name (wpAny_loadName_local (env:=enR L) rfl rfl F.ns hm ⟨rfl,rfl⟩) (by decide)
  obtain ⟨rfl,rfl⟩:=q
  refine ⟨mgs,mi,rfl,News.isList N hmg,by rw [sizeLine_eq]; omega,trivial,?asg,?tst,?elt,?fin⟩
  case asg=>
   intro C v s₂ m₂ E' hv st fC hn
   exact wpAny_assign_Name (wpAny_storeName_local rfl hn (fun h' n' sb=>⟨h',_,_,rfl,n',if_pos rfl,sb.extBut⟩) rfl)
  case tst=>
   intro C v s₂ m₂ E' hv st fC hn hb
   exact wpAny_pure ⟨rfl,s₂.heap,s₂.toks,rfl,fun _ _ e=>e⟩
  case elt=>exact fun C v s₂ m₂ E' hv _ st fC hn hb=>shown_elt KX TX F N hmi W hr C v s₂ m₂ E' hv st fC hn hb
  case fin=>
   intro D n ys own h' tk fD hD ho hP st
   have gn:∀ {a:Addr},s₁.heap.get? a=none→a≠L∧g.get? a=none:=fun {a} e=>by
    refine ⟨fun q=>?_,?_⟩
    ·obtain ⟨oL,_,_,hL,_⟩:=F.ns
     rw [q,hL] at e; cases e
    ·cases q:g.get? a with
     | none=>rfl
     | some o=>have:=F.keep _ _ q; rw [e] at this; cases this
   have hP':Paired (PairAt σ own) mi.toList ys.toList:=by
    have e:mi.toList.filter (fun _=>true)=mi.toList:=List.filter_eq_self.mpr fun _ _=>rfl
    rw [e] at hP
    exact hP
   refine h D n ys own h' tk (fr0 st) (nms_cons ⟨hD,gn fD⟩ fun q hq=>?_) hP' (nms_cons fD fun q hq=>(ho q hq).2.1) fun q hq e=>(ho q hq).2.2 (e ▸ .head _)
   rcases List.mem_append.mp hq with hq|hq
   ·exact ⟨(ho q hq).1,gn (ho q hq).2.1⟩
   ·exact nw0 st q hq
theorem shown_assign {w:World} {A:Around} {E:Vp} {s:Shared} {g:Heap} {L mgs:Addr} {m:Sm} {nw:Rest} {mi:Array Value} {c:Nat} {kept:Rest} {lg:Addr} {μs:List Mg} {σ:Addr→Ms} {rows:List (Str×Str)} {rest:Rest} {loose:List Str} {mg mb:Sm}
  {p1 p2 p3 p4 p5 p6 p7 p8 py ps:Pos} {y:Str} {Q:Fp} (KX:(hd.heap_1 w.params).In g) (TX:TopRead pq loose mg mb g) (hh:A.handled=none) (hroom:A.depth+20<recursionLimit)
  (F:Fr g L s.heap m) (N:News g L s.heap nw) (hm:m (Str.ofString "managers")=some (.ref mgs)) (hmg:(mgs,listOf mi c)∈nw) (hmi:mi.toList=μs.map fun μ=>.ref μ.M) (hz:mi.size<100)
  (W:Wd kept w lg μs σ rows rest) (hr:∀ p∈rest,p∈nw)
  (hsw:swapsWith (.ListComp (.Tuple [.Attribute (.Name (Str.ofString "manager") p1) (Str.ofString "value") p2,.Attribute (.Name (Str.ofString "manager") p3) (Str.ofString "kept") p4] 0 p5) [⟨.Name (Str.ofString "manager") p6,.Name (Str.ofString "managers") p7,[],0⟩] scM p8) (some (.Name y py)) ps.line (enR L)=pure true) (hy:(enR L).kindOf y=some .local)
  (h:∀ D n ys own h' tk,Fr g L h' (fun z=>if z=y then some (.ref D) else m z)→News g L h' ((D,listOf ys n)::(own++nw))→Paired (PairAt σ own) mi.toList ys.toList→(∀ q∈(D,listOf ys n)::own,s.heap.get? q.1=none)→(∀ q∈own,q.1≠D)→Q .next { s with heap:=h',toks:=tk }) :
  wpAny (model P2 w) A (exec (.Assign [.Name y py] (.ListComp (.Tuple [.Attribute (.Name (Str.ofString "manager") p1) (Str.ofString "value") p2,.Attribute (.Name (Str.ofString "manager") p3) (Str.ofString "kept") p4] 0 p5)
   [⟨.Name (Str.ofString "manager") p6,.Name (Str.ofString "managers") p7,[],0⟩] scM p8) ps) (enR L)) Q E s:=by
 have fr0:∀ {h':Heap},s.heap.StaysIn h'→Fr g L h' m:=fun st=>fr_mod0 F fun b o e _=>st b o e
 have nw0:∀ {h':Heap},s.heap.StaysIn h'→News g L h' nw:=fun st=>news_mod0 N fun b o e _=>st b o e
 refine comp_assign (g:=g) (m:=m) (cl:=[]) (fun _=>true) (PairAt σ) (fun v m₂=>m₂ (Str.ofString "manager")=some v) ?hmono hh rfl hsw ?hclos ?hcell ?hkind ?hnames ?hown hy rfl ?main ?hs
 case hmono=>
  rintro own own' v y hs ⟨M,T,t,u,e1,e2,hm⟩
  exact ⟨M,T,t,u,e1,e2,hs _ hm⟩
 case hclos=>with_unfolding_all rfl
 case hcell=>decide
 case hkind=>rfl
 case hnames=>decide
 case hown=>exact goes_name
 case hs=>intro x; rfl
 case main=>
  refine wpAny_mono (Q:=fun xv s₁=>xv=.ref mgs∧s₁=s) ?nm (fun xv s₁ q=>?_) fun _ _ e=>e
  case nm=>
   exact wpAny_Name (wpAny_loadName_local (env:=enR L) rfl rfl F.ns hm ⟨rfl,rfl⟩) (by decide)
  obtain ⟨rfl,rfl⟩:=q
  refine ⟨mgs,mi,rfl,News.isList N hmg,by rw [sizeLine_eq]; omega,F,?asg,?tst,?elt,?fin⟩
  case asg=>
   intro C v s₂ m₂ E' hv st fC hn
   exact wpAny_assign_Name (wpAny_storeName_local rfl hn (fun h' n' sb=>⟨h',_,_,rfl,n',if_pos rfl,sb.extBut⟩) rfl)
  case tst=>
   intro C v s₂ m₂ E' hv st fC hn hb
   exact wpAny_pure ⟨rfl,s₂.heap,s₂.toks,rfl,fun _ _ e=>e⟩
  case elt=>exact fun C v s₂ m₂ E' hv _ st fC hn hb=>shown_elt KX TX F N hmi W hr C v s₂ m₂ E' hv st fC hn hb
  case fin=>
   intro D n ys own h' tk fD hD ho hP st F'
   have gn:∀ {a:Addr},s₁.heap.get? a=none→a≠L∧g.get? a=none:=fun {a} e=>by
    refine ⟨fun q=>?_,?_⟩
    ·obtain ⟨oL,_,_,hL,_⟩:=F.ns
     rw [q,hL] at e; cases e
    ·cases q:g.get? a with
     | none=>rfl
     | some o=>have:=F.keep _ _ q; rw [e] at this; cases this
   have hP':Paired (PairAt σ own) mi.toList ys.toList:=by
    have e:mi.toList.filter (fun _=>true)=mi.toList:=List.filter_eq_self.mpr fun _ _=>rfl
    rw [e] at hP
    exact hP
   refine h D n ys own h' tk F' (nms_cons ⟨hD,gn fD⟩ fun q hq=>?_) hP' (nms_cons fD fun q hq=>(ho q hq).2.1) fun q hq e=>(ho q hq).2.2 (e ▸ .head _)
   rcases List.mem_append.mp hq with hq|hq
   ·exact ⟨(ho q hq).1,gn (ho q hq).2.1⟩
   ·exact ⟨st _ _ (N q hq).1 (fun e=>(N q hq).2.1 (List.mem_singleton.mp e)),(N q hq).2⟩
theorem pairs_dat {σ:Addr→Ms} {own nw:Rest} {f:Nat→Addr} (hs:∀ p∈own,p∈nw) {l:List Nat} {ys:List Value} (h:Paired (PairAt σ own) (l.map fun j=>Value.ref (f j)) ys):DatAll nw ys ((l.map fun j=>((σ (f j)).value,(σ (f j)).kept)).map pairD):=by
 induction l generalizing ys with
 | nil=>rw [p_nil h]; exact .nil
 | cons j l ih=>
  obtain ⟨y,ys',e,a,p⟩:=p_inv h
  obtain ⟨M,T,t,u,e1,e2,hm⟩:=a
  rw [e,e2]
  obtain rfl:=Value.ref.inj e1
  exact .cons (.tuple (vs:=[.int _ t,.int _ u]) (n:=0) (hs _ hm) (.cons (.int _ _) (.cons (.int _ _) .nil))) (ih p)
theorem eq_same {prog:Program} {w:World} {A:Around} {E:Vp} {s:Shared} {h₀:Heap} {L:Addr} {news:Rest} {a b:Value} {d:Dat} {Q:Vp} (N:News h₀ L s.heap news) (da:DatIn news a d) (db:DatIn news b d) (hk:kqdOk 9 d=true) (hu:A.units+64<cLine) (h:Q (.bool true) s) :
  wpAny (model prog w) A (compareOp .Eq a b) Q E s:=by
 obtain ⟨as,ra⟩:=kqd_in N 9 da hk
 obtain ⟨bs,rb⟩:=kqd_in N 9 db hk
 have la:=kqd_lay 9 d hk
 have e:PyData.eqv (kqdP d) (kqdP d)=true:=(kqd_eqv 9 d d 9 hk hk).mpr rfl
 have hs:SeqAt.shaped (kqdP d)=true:=by
  unfold SeqAt.shaped
  rw [la.1,Bool.true_and]
  exact decide_eq_true (Nat.le_trans la.2 (by decide))
 exact eq_dataH ra rb hs hs hu (by rw [e]; exact h)
theorem ints_ok (xs:List Int):kqdOk 9 (.list (xs.map .int))=true:=by
 rw [kqdOk,List.all_eq_true]
 intro d hd
 obtain ⟨x,hx,rfl⟩:=List.mem_map.mp hd
 rfl
noncomputable def PairH (g:Heap) (L:Addr) (h:Heap) (v:Value) (r:Int×Int):Prop:=∃ T t u n,v=.ref T∧h.get? T=some { cls:=.type "tuple",data:=.seq #[.int r.1 t,.int r.2 u] n }∧T≠L∧g.get? T=none
theorem pair_at {g h:Heap} {L:Addr} {nw:Rest} (N:News g L h nw) {v:Value} {r:Int×Int} (d:DatIn nw v (pairD r)):PairH g L h v r:=by
 unfold pairD at d
 cases d with
 | tuple hm ds=>
  cases ds with
  | cons d1 ds=>
   cases ds with
   | cons d2 ds=>
    cases ds
    cases d1
    cases d2
    exact ⟨_,_,_,_,rfl,N _ hm⟩
theorem pairs_at {g h:Heap} {L:Addr} {nw:Rest} (N:News g L h nw) {rows:List (Int×Int)} {vs:List Value} (d:DatAll nw vs (rows.map pairD)):Paired (PairH g L h) vs rows:=by
 induction rows generalizing vs with
 | nil=>rw [da_nil d]; exact .nil
 | cons r rows ih=>
  obtain ⟨v,vs',e,a,p⟩:=da_inv d
  rw [e]
  exact .cons (pair_at N a) (ih p)
theorem PairH.uniq {g h:Heap} {L:Addr} {v:Value} {r r':Int×Int} (a:PairH g L h v r) (b:PairH g L h v r'):r=r':=by
 obtain ⟨T,t,u,n,rfl,e,_⟩:=a
 obtain ⟨T',t',u',n',e1,e2,_⟩:=b
 cases e1
 rw [e] at e2
 obtain ⟨a,b⟩:=r
 obtain ⟨c,d⟩:=r'
 simp only [Option.some.injEq,Obj.mk.injEq,Data.seq.injEq] at e2
 have:=e2.2.2.1.1
 simp at this
 exact Prod.ext this.1.1 this.2.1
theorem pick_pairs {g h:Heap} {L:Addr} {f:Int×Int→Int} {vs:List Value} {rows:List (Int×Int)} {ys:List Value} (p:Paired (PairH g L h) vs rows) (k:Paired (fun v y=>∃ r t,PairH g L h v r∧y=Value.int (f r) t) vs ys):Paired (fun y x=>∃ t,y=Value.int x t) ys (rows.map f):=by
 induction p generalizing ys with
 | nil=>rw [p_nil k]; exact .nil
 | cons a _ ih=>
  obtain ⟨y,ys',e,b,k⟩:=p_inv k
  obtain ⟨r',u,a',e'⟩:=b
  rw [e]
  exact .cons ⟨u,a.uniq a' ▸ e'⟩ (ih k)
noncomputable abbrev scP:Scope:={ kind:=.function,names:=[(Str.ofString ".0",.local),(Str.ofString "row",.local)],isGenerator:=false,isCoroutine:=false }
noncomputable def partOf (i:Int) (r:Int×Int):Int:=if i=0 then r.1 else r.2
theorem row_elt {w:World} {A:Around} {s:Shared} {g:Heap} {L C T fa:Addr} {m m₂:Sm} {oC:Obj} {i:Int} {r:Int×Int} {t u:Tok} {n:Nat} {p1 p2 p3:Pos} {E':Vp} {loose:List Str} {mean:ExcName→Option Value} {mg mb:Sm}
  (KX:(hd.heap_1 w.params).In g) (TX:Top pq loose mean mg mb g) (F:Fr g L s.heap m) (N:News g L s.heap [(C,oC),(T,{ cls:=.type "tuple",data:=.seq #[.int r.1 t,.int r.2 u] n })]) (hC:LCg.NsObj oC m₂) (hx:m₂ (Str.ofString "row")=some (.ref T)) (hi:i=0 ∨ i=1) :
  wpAny (model P2 w) A (eval (.Subscript (.Name (Str.ofString "row") p1) (.Constant (.int i) 0 p2) p3) (compEnvC scP [] C (enLaw L fa))) (fun y s'=>Opq (∃ tk t,y=.int (partOf i r) t∧s'={ s with toks:=tk })) E' s:=by
 rcases hi with rfl|rfl
 ·k_steps
  exact Opq.mk ⟨_,_,rfl,rfl⟩
 ·k_steps
  exact Opq.mk ⟨_,_,rfl,rfl⟩
theorem comp_frame {g:Heap} {s s₂:Shared} {L C:Addr} {m m₂:Sm} (F:Fr g L s.heap m) (st:s.heap.StaysIn s₂.heap) (fC:s.heap.get? C=none) (hn:s₂.heap.Ns C m₂):∃ oC,Fr g L s₂.heap m∧LCg.NsObj oC m₂∧s₂.heap.get? C=some oC∧C≠L∧g.get? C=none:=by
 have F₂:Fr g L s₂.heap m:=fr_mod0 F fun b o e _=>st b o e
 obtain ⟨o,es,ep,e,r⟩:=hn
 exact ⟨o,F₂,⟨es,ep,r⟩,e,fresh_fr F fC⟩
theorem row_comp {w:World} {A:Around} {E:Vp} {s:Shared} {g:Heap} {L fa l:Addr} {m:Sm} {nw:Rest} {xs:Array Value} {nx:Nat} {rows:List (Int×Int)} {iter:Expr} {i:Int} {loose:List Str} {mean:ExcName→Option Value} {mg mb:Sm}
  {p1 p2 p3 p4 p5:Pos} {Q:Vp} (KX:(hd.heap_1 w.params).In g) (TX:Top pq loose mean mg mb g) (hh:A.handled=none)
  (F:Fr g L s.heap m) (N:News g L s.heap nw) (hl:(l,listOf xs nx)∈nw) (hd:DatAll nw xs.toList (rows.map pairD)) (hz:xs.size<1000) (hi:i=0 ∨ i=1)
  (hit:wpAny (model P2 w) A (eval iter (enLaw L fa)) (fun xv s₁=>Opq (∃ tk,xv=.ref l∧s₁={ s with toks:=tk })) E s) (hs:∀ x,foldedSetIterable iter (enLaw L fa) x=pure x)
  (h:∀ D n ys h' tk,Fr g L h' m→News g L h' ((D,listOf ys n)::nw)→Paired (fun y x=>∃ t,y=Value.int x t) ys.toList (rows.map (partOf i))→Q (.ref D) { s with heap:=h',toks:=tk }) :
  wpAny (model P2 w) A (eval (.ListComp (.Subscript (.Name (Str.ofString "row") p1) (.Constant (.int i) 0 p2) p3) [⟨.Name (Str.ofString "row") p4,iter,[],0⟩] scP p5) (enLaw L fa)) Q E s:=by
 have rp:=pairs_at N hd
 refine comp_list (cl:=[]) (fun _=>true) (fun _ v y=>∃ r t,PairH g L s.heap v r∧y=Value.int (partOf i r) t) (fun v m₂=>m₂ (Str.ofString "row")=some v) (fun _ _ _ _ _ h=>h) hh ?hclos (by decide) rfl (by decide) goes_name ?main hs
 case hclos=>with_unfolding_all rfl
 case main=>
  refine wpAny_mono hit (fun xv s₁ q=>?_) fun _ _ e=>e
  obtain ⟨tk,rfl,rfl⟩:=q.out
  refine ⟨l,xs,rfl,News.isList N hl,by rw [sizeLine_eq]; omega,trivial,?asg,?tst,?elt,?fin⟩
  case asg=>
   intro C v s₂ m₂ E' hv st fC hn
   exact wpAny_assign_Name (wpAny_storeName_local rfl hn (fun h' n' sb=>⟨h',_,_,rfl,n',if_pos rfl,sb.extBut⟩) rfl)
  case tst=>
   intro C v s₂ m₂ E' hv st fC hn hb
   exact wpAny_pure ⟨rfl,s₂.heap,s₂.toks,rfl,fun _ _ e=>e⟩
  case elt=>
   intro C v s₂ m₂ E' hv _ st fC hn hb
   obtain ⟨r,T,t,u,n,rfl,hT,hTn⟩:=paired_mem rp v hv
   obtain ⟨oC,F₂,nsC,hoC,gC⟩:=comp_frame F st fC hn
   refine wpAny_mono (row_elt KX TX F₂ (nms_cons ⟨hoC,gC⟩ (nms_cons ⟨st _ _ hT,hTn⟩ nms_nil)) nsC hb hi) (fun y s₃ q=>?_) fun _ _ e=>e
   obtain ⟨tk',t',rfl,rfl⟩:=q.out
   exact ⟨⟨[],(fun _ h=>nomatch h),r,t',⟨T,t,u,n,rfl,hT,hTn⟩,rfl⟩,s₂.heap,tk',rfl,fun _ _ e=>e⟩
  case fin=>
   intro D n ys own h' tk' fD hD ho hP st
   have hP':Paired (fun v y=>∃ r t,PairH g L s.heap v r∧y=Value.int (partOf i r) t) xs.toList ys.toList:=by
    have e:xs.toList.filter (fun _=>true)=xs.toList:=List.filter_eq_self.mpr fun _ _=>rfl
    rw [e] at hP
    exact hP
   exact h D n ys h' tk' (fr_mod0 F fun b o e _=>st b o e) (nms_cons ⟨hD,fresh_fr F fD⟩ (news_mod0 N fun b o e _=>st b o e)) (pick_pairs rp hP')
theorem paired_mem' {α β:Type} {F:α→β→Prop} {l:List α} {r:List β} (h:Paired F l r):∀ a∈l,∃ b∈r,F a b:=by
 induction h with
 | nil=>exact fun _ h=>nomatch h
 | cons h _ ih=>exact fun a m=>(List.mem_cons.mp m).elim (fun e=>⟨_,.head _,e ▸ h⟩) fun m=>(ih a m).elim fun b hb=>⟨b,.tail _ hb.1,hb.2⟩
noncomputable abbrev scAbt:Scope:={ kind:=.function,names:=[(Str.ofString ".0",.local),(Str.ofString "k",.local)],isGenerator:=false,isCoroutine:=false }
noncomputable def AbAt (own:Rest) (v y:Value):Prop:=∃ (j:Nat) (t t' u:Tok) (T:Addr),v=.int (j:Int) t∧y=.ref T∧(T,tup2 (.str (Str.ofString "abort") t') (.str (whoAt j) u))∈own
theorem ab_dat {nw own:Rest} (hs:∀ p∈own,p∈nw) {vs ys:List Value} {jl:List Nat} (h:Paired (fun v n=>∃ t,v=Value.int n t) vs (jl.map Int.ofNat)) (k:Paired (AbAt own) vs ys):DatAll nw ys ((jl.map fun j=>(Str.ofString "abort",whoAt j)).map rowD):=by
 induction jl generalizing vs ys with
 | nil=>
  obtain rfl:=p_nil' h
  rw [p_nil k]; exact .nil
 | cons j jl ih=>
  obtain ⟨v,vs',e,a,p⟩:=p_inv' h
  obtain ⟨y,ys',e',b,k⟩:=p_inv (e ▸ k)
  obtain ⟨j',t,t',u,T,e1,e2,hm⟩:=b
  obtain ⟨t2,e3⟩:=a
  obtain rfl:j=j':=Int.ofNat.inj (Value.int.inj (e3.symm.trans e1)).1
  rw [e',e2]
  exact .cons (.tuple (vs:=[.str _ t',.str _ u]) (hs _ hm) (.cons (.str _ _) (.cons (.str _ _) .nil))) (ih p k)
theorem ab_elt {w:World} {A:Around} {s:Shared} {g:Heap} {L C fa:Addr} {m m₂:Sm} {oC:Obj} {j:Nat} {t:Tok} {p1 p2 p3 p4 p5:Pos} {E':Vp} {loose:List Str} {mean:ExcName→Option Value} {mg mb:Sm}
  (KX:(hd.heap_1 w.params).In g) (TX:Top pq loose mean mg mb g) (F:Fr g L s.heap m) (N:News g L s.heap [(C,oC)]) (hC:LCg.NsObj oC m₂) (hx:m₂ (Str.ofString "k")=some (.int (j:Int) t)) (hj:j<5) :
  wpAny (model P2 w) A (eval (.Tuple [.Constant (.str (Str.ofString "abort")) 0 p1,.Subscript (.Constant (.str (Str.ofString "abcde")) 0 p2) (.Name (Str.ofString "k") p3) p4] 0 p5) (compEnvC scAbt [] C (enLaw L fa))) (fun y s₃=>(∃ own,(∀ q∈own,s.heap.get? q.1=none∧s₃.heap.get? q.1=some q.2)∧AbAt own (.int (j:Int) t) y)∧Keeps s s₃) E' s:=by
 have hj0:(0:Int) ≤ (j:Int)∧(j:Int)<5:=by omega
 obtain ⟨hj1,hj2⟩:=hj0
 have st_none:s.heap.get? s.heap.objs.size=none:=by
  cases q:s.heap.get? s.heap.objs.size with
  | none=>rfl
  | some o=>exact absurd (Heap.lt_size q) (Nat.lt_irrefl _)
 k_steps
 refine Opq.mk (wpAny_newTuple ⟨⟨[(s.heap.objs.size,tup2 (.str (Str.ofString "abort") s.toks) (.str (whoAt j) (s.toks+1+1)))],fun q hq=>?_,j,t,s.toks,s.toks+1+1,_,rfl,rfl,.head _⟩,_,_,rfl,fun b o e=>Heap.get?_push_of_some _ e⟩)
 obtain rfl:=List.mem_singleton.mp hq
 exact ⟨st_none,Heap.get?_push_size _ rfl⟩
theorem ab_comp {w:World} {A:Around} {E:Vp} {s:Shared} {g:Heap} {L fa l:Addr} {m:Sm} {nw:Rest} {xs:Array Value} {nx:Nat} {jl:List Nat} {iter:Expr} {loose:List Str} {mean:ExcName→Option Value} {mg mb:Sm}
  {p1 p2 p3 p4 p5 p6 p7:Pos} {Q:Vp} (KX:(hd.heap_1 w.params).In g) (TX:Top pq loose mean mg mb g) (hh:A.handled=none)
  (F:Fr g L s.heap m) (N:News g L s.heap nw) (hl:(l,listOf xs nx)∈nw) (hd:IntsAt xs (jl.map Int.ofNat)) (hz:xs.size<1000) (hj:∀ j∈jl,j<5)
  (hit:wpAny (model P2 w) A (eval iter (enLaw L fa)) (fun xv s₁=>Opq (∃ tk,xv=.ref l∧s₁={ s with toks:=tk })) E s) (hs:∀ x,foldedSetIterable iter (enLaw L fa) x=pure x)
  (h:∀ D n ys own h' tk,Fr g L h' m→News g L h' ((D,listOf ys n)::(own++nw))→DatAll (own++nw) ys.toList ((jl.map fun j=>(Str.ofString "abort",whoAt j)).map rowD)→Q (.ref D) { s with heap:=h',toks:=tk }) :
  wpAny (model P2 w) A (eval (.ListComp (.Tuple [.Constant (.str (Str.ofString "abort")) 0 p1,.Subscript (.Constant (.str (Str.ofString "abcde")) 0 p2) (.Name (Str.ofString "k") p3) p4] 0 p5) [⟨.Name (Str.ofString "k") p6,iter,[],0⟩] scAbt p7) (enLaw L fa)) Q E s:=by
 refine comp_list (cl:=[]) (fun _=>true) AbAt (fun v m₂=>m₂ (Str.ofString "k")=some v) ?hmono hh ?hclos (by decide) rfl (by decide) goes_name ?main hs
 case hmono=>
  rintro own own' v y hs ⟨j,t,t',u,T,e1,e2,hm⟩
  exact ⟨j,t,t',u,T,e1,e2,hs _ hm⟩
 case hclos=>with_unfolding_all rfl
 case main=>
  refine wpAny_mono hit (fun xv s₁ q=>?_) fun _ _ e=>e
  obtain ⟨tk,rfl,rfl⟩:=q.out
  refine ⟨l,xs,rfl,News.isList N hl,by rw [sizeLine_eq]; omega,trivial,?asg,?tst,?elt,?fin⟩
  case asg=>
   intro C v s₂ m₂ E' hv st fC hn
   exact wpAny_assign_Name (wpAny_storeName_local rfl hn (fun h' n' sb=>⟨h',_,_,rfl,n',if_pos rfl,sb.extBut⟩) rfl)
  case tst=>
   intro C v s₂ m₂ E' hv st fC hn hb
   exact wpAny_pure ⟨rfl,s₂.heap,s₂.toks,rfl,fun _ _ e=>e⟩
  case elt=>
   intro C v s₂ m₂ E' hv _ st fC hn hb
   obtain ⟨n,hn',t,rfl⟩:=paired_mem' hd v hv
   obtain ⟨j,hjm,rfl⟩:=List.mem_map.mp hn'
   obtain ⟨oC,F₂,nsC,hoC,gC⟩:=comp_frame F st fC hn
   exact ab_elt KX TX F₂ (nms_cons ⟨hoC,gC⟩ nms_nil) nsC hb (hj j hjm)
  case fin=>
   intro D n ys own h' tk' fD hD ho hP st
   have hP':Paired (AbAt own) xs.toList ys.toList:=by
    have e:xs.toList.filter (fun _=>true)=xs.toList:=List.filter_eq_self.mpr fun _ _=>rfl
    rw [e] at hP
    exact hP
   refine h D n ys own h' tk' (fr_mod0 F fun b o e _=>st b o e) (nms_cons ⟨hD,fresh_fr F fD⟩ fun q hq=>?_) (ab_dat (fun p hp=>List.mem_append_left _ hp) hd hP')
   rcases List.mem_append.mp hq with hq|hq
   ·exact ⟨(ho q hq).1,fresh_fr F (ho q hq).2.1⟩
   ·exact news_mod0 N (fun b o e _=>st b o e) q hq
theorem rows_ok {rows:List (Str×Str)} (h:RowsOk rows):kqdOk 9 (.list (rows.map rowD))=true:=by
 rw [kqdOk,List.all_eq_true]
 intro d hd
 obtain ⟨p,hp,rfl⟩:=List.mem_map.mp hd
 have:=h p hp
 unfold rowD
 simp [kqdOk,this.1,this.2]
theorem aborts_ok {jl:List Nat} (h:∀ j∈jl,j<5):RowsOk (jl.map fun j=>(Str.ofString "abort",whoAt j)):=fun r hr=>by
 obtain ⟨j,hj,rfl⟩:=List.mem_map.mp hr
 exact ⟨by with_unfolding_all rfl,who_ok (h j hj)⟩
theorem run_later {os:List Nat} {ks vs:List Int} {stp:Str} {kd:Int} {at_:Nat}:(runPure os ks vs stp kd at_).later.length=ks.length:=by
 unfold runPure runOf
 split
 ·show List.length (List.map _ _)=_
  rw [List.length_map,List.length_range]
 ·show List.length (List.map _ _)=_
  rw [List.length_map,List.length_range]
end
section
local macro_rules | `(tactic| walk_at "exec For Name Call cons nil") => `(tactic| k_dflt (refine wpAny_For ?_))
set_option genSizeOf false in
set_option genInjectivity false in
inductive RunJ (w:World) (mR:Sm) (mgs kL lg:Addr) (ki:Array Value) (n2:Nat) (tlo:Rest) (ks:List Int) (i:Nat) (m:Sm) (nw:Rest):Prop where
 | mk (rkv:Option Value) (rn:Option Value) (μs:List Mg) (mi:Array Value) (c:Nat) (rest:Rest) (f1:m=mW rkv rn mR) (f2:nw=(mgs,listOf mi c)::(kL,listOf ki n2)::(tlo++rest)) (f3:JM w lg ks i μs mi rest) (f4:∀ p∈(mgs,listOf mi c)::(kL,listOf ki n2)::tlo,p.1∉rest.map (·.1)):RunJ w mR mgs kL lg ki n2 tlo ks i m nw
abbrev Z0uP (pq:Program) (w:World) (s:Shared) (B:Heap) (oL kL vL:Addr) (oi ki vi:Array Value) (n1 n2 n3:Nat) (osl:List Nat) (ks vs:List Int) (seed:Int) (td:Tok) (ps1 ps2 ps3:Array Value) (R:Rp) (loose:List Str) (mean:ExcName→Option Value) (mg mb:Sm) (outer:List Env) (dp:Nat) (gd:Option (List Code)) (un:Nat):Prop:=∀ (XB:(hd.heap_1 w.params).In B) (TB:Top pq loose mean mg mb B) (hB:B.StaysIn s.heap) (hroom:dp+120<recursionLimit) (hp1:TabL ps1.toList) (hp2:TabL ps2.toList) (hp3:TabL ps3.toList) (hN:∀ p∈[(299,tabObj ps1),(422,tabObj ps2),(464,tabObj ps3),(oL,listOf oi n1),(kL,listOf ki n2),(vL,listOf vi n3)],s.heap.get? p.1=some p.2) (fN:∀ p∈[(299,tabObj ps1),(422,tabObj ps2),(464,tabObj ps3),(oL,listOf oi n1),(kL,listOf ki n2),(vL,listOf vi n3)],B.get? p.1=none) (S:Stk outer s.heap [299,422,464,oL,kL,vL]) (hBf:∀ b∈frs outer,B.get? b=none) (ho:IntsAt oi (osl.map Int.ofNat)) (hk:IntsAt ki ks) (hv:IntsAt vi vs) (hos:osl.Perm (List.range ks.length)) (hvs:vs.length=ks.length) (hks:ks.length∈[2,3,4,5]) (hpost:∀ r s₁,RunEnd outer s (runPure osl ks vs (stepAt (seed.fmod 8).toNat) (1+(seed.fdiv 40).fmod 2) ((seed.fdiv 8).fmod (ks.length:Int)).toNat) r s₁→R r s₁),codeAny (model P2 w) (Around.mk none dp (some outer) gd un) (.call (.ref 972) ⟨[.ref oL,.ref kL,.ref vL,.int seed td],[]⟩) R s
abbrev Z0ucq:=U fun a=>U fun b=>U fun c=>U fun d e=>T6 (T6 (T6 (T6 (T6 Z0uP a) b) c) d) e
def Z0uc:=eps Z0ucq ⟨inferInstance⟩
def Z0u.pq:=Z0uc.1.1
def Z0u.w:=Z0uc.1.2.1
def Z0u.s:=Z0uc.1.2.2.1
def Z0u.B:=Z0uc.1.2.2.2.1
def Z0u.oL:=Z0uc.1.2.2.2.2.1
def Z0u.kL:=Z0uc.1.2.2.2.2.2
def Z0u.vL:=Z0uc.2.1.1
def Z0u.oi:=Z0uc.2.1.2.1
def Z0u.ki:=Z0uc.2.1.2.2.1
def Z0u.vi:=Z0uc.2.1.2.2.2.1
def Z0u.n1:=Z0uc.2.1.2.2.2.2.1
def Z0u.n2:=Z0uc.2.1.2.2.2.2.2
def Z0u.n3:=Z0uc.2.2.1.1
def Z0u.osl:=Z0uc.2.2.1.2.1
def Z0u.ks:=Z0uc.2.2.1.2.2.1
def Z0u.vs:=Z0uc.2.2.1.2.2.2.1
def Z0u.seed:=Z0uc.2.2.1.2.2.2.2.1
def Z0u.td:=Z0uc.2.2.1.2.2.2.2.2
def Z0u.ps1:=Z0uc.2.2.2.1.1
def Z0u.ps2:=Z0uc.2.2.2.1.2.1
def Z0u.ps3:=Z0uc.2.2.2.1.2.2.1
def Z0u.R:=Z0uc.2.2.2.1.2.2.2.1
def Z0u.loose:=Z0uc.2.2.2.1.2.2.2.2.1
def Z0u.mean:=Z0uc.2.2.2.1.2.2.2.2.2
def Z0u.mg:=Z0uc.2.2.2.2.1
def Z0u.mb:=Z0uc.2.2.2.2.2.1
def Z0u.outer:=Z0uc.2.2.2.2.2.2.1
def Z0u.dp:=Z0uc.2.2.2.2.2.2.2.1
def Z0u.gd:=Z0uc.2.2.2.2.2.2.2.2.1
def Z0u.un:=Z0uc.2.2.2.2.2.2.2.2.2
open Z0u in
noncomputable def Z0ub:PSigma fun P:(Heap)→(Addr)→(Heap)→Prop=>(∀ g L' h₁,P g L' h₁)→Z0uP Z0u.pq Z0u.w Z0u.s Z0u.B Z0u.oL Z0u.kL Z0u.vL Z0u.oi Z0u.ki Z0u.vi Z0u.n1 Z0u.n2 Z0u.n3 Z0u.osl Z0u.ks Z0u.vs Z0u.seed Z0u.td Z0u.ps1 Z0u.ps2 Z0u.ps3 Z0u.R Z0u.loose Z0u.mean Z0u.mg Z0u.mb Z0u.outer Z0u.dp Z0u.gd Z0u.un:=by
 apply PSigma.mk
 case snd=>
 intro hP
 intro XB TB hB hroom hp1 hp2 hp3 hN fN S hBf ho hk hv hos hvs hks hpost
 k_dflt (refine' enter (Λ:=[(299,tabObj ps1),(422,tabObj ps2),(464,tabObj ps3),(oL,listOf oi n1),(kL,listOf ki n2),(vL,listOf vi n3)]) XB (topRead_of TB) hB ?k1 ?k2 (by k_is) (by k_is) (by show dp<recursionLimit; k_room) (BindsTo.of_eq rfl) (locs rfl) ?_ rfl rfl rfl (by decide))
 (case k1=>exact hN)
 (case k2=>exact fN)
 intro g L' h₁
 revert XB TB hB hroom hp1 hp2 hp3 hN fN S hBf ho hk hv hos hvs hks hpost
 exact hP g L' h₁
abbrev Z0udq:=T3 Z0ub.1
def Z0ud:=eps Z0udq ⟨inferInstance⟩
def Z0u.g:=Z0ud.1
def Z0u.L':=Z0ud.2.1
def Z0u.h₁:=Z0ud.2.2
open Z0u in
noncomputable def Ra_b:PSigma fun P:(Addr)→(Heap)→(Nat)→(Addr)→(Addr)→(Addr)→(Addr)→(Addr)→(Mk)→(Int)→(Tok)→(Nat)→(Nat)→(Addr)→(Addr)→(Sm)→(Rest)→(Heap)→(Nat)→(Option Value)→(Option Value)→(List Mg)→(Array Value)→(Nat)→(List (Addr×Obj))→(Addr)→(Heap)→Prop=>(∀ zRa1 h₂ tk₂ O dO W dW dlw y wh wt kl zRa2 lg mgs mR tlo h tk rkv rn μs mi c rest zRa3 zRa4,P zRa1 h₂ tk₂ O dO W dW dlw y wh wt kl zRa2 lg mgs mR tlo h tk rkv rn μs mi c rest zRa3 zRa4)→Z0ub.1 Z0u.g Z0u.L' Z0u.h₁:=by
 apply PSigma.mk
 case snd=>
 intro hP
 intro XB TB hB hroom hp1 hp2 hp3 hN fN S hBf ho hk hv hos hvs hks hpost
 intro hg l1 KX TX F N
 have hBG:B.StaysIn g:=hg ▸ stays_hide hB fN
 have KB:Box (Below ⟨none,dp,some outer,gd,un⟩ B outer g):=⟨below_of rfl S hg hBG hBf⟩
 have TT:Box (Top pq loose mean mg mb g):=⟨TB.keeps hBG⟩
 k_lt l1
 clear l1
 have HF:=bf_push (env:=enR L') hBG rfl F hBf
 k_steps
 rename Fr _ _ _ _=>F₁
 rename News _ _ _ _=>N₁
 refine mk_owner (outer:=outer) XB TB hBG KB.out (Around.frames_deeper rfl) rfl rfl HF F₁ N₁ (by rw [depth_deeper]; exact room2 hroom rfl) fun h₂ tk₂ O dO W dW dlw y wh wt kl F₂ N₂ lw lO1 lO2 lO3 lO4=>?_
 clear F₁ N₁
 k_steps
 rename Fr _ _ _ _=>F₃
 rename News _ _ _ _=>N₃
 rename Fr _ _ _ _=>F₁
 rename News _ _ _ _=>N₁
 have hn5:ks.length ≤ 5:=le25 hks
 refine Calls.call_len_list (News.isList N₁ (by k_mem)) (by rw [hk.len]; exact i63 (Nat.lt_succ_of_le (le25 hks)) (by decide)) ?_
 rw [hk.len]
 k_steps
 rename IsRange _ _ _ _ _ _ _ _=>hR
 rename Fr _ _ _ _=>F₂
 rename News _ _ _ _=>N₂
 have lw1:=lw _ (.head _)
 have p1:@LT.lt Nat _ dO O:=lO1
 have p2:@LT.lt Nat _ O dW:=lO2
 have p3:@LT.lt Nat _ dW W:=lO3
 have p4:@LT.lt Nat _ W dlw:=lO4
 clear lO1 lO2 lO3 lO4
 obtain ⟨lg,mgs,F₃,N₃,o1,o2,o3⟩:∃ lg mgs:Addr,Fr g L' _ (frR (.ref oL) (.ref kL) (.ref vL) (.int seed td) (.ref lg) (.ref mgs) (.ref O)) ∧
   News g L' _ [(O,instObj 758 dO),(dO,owN y W .none),(W,instObj 153 dW),(dW,wsDict wh wt dlw),(dlw,listOf #[] kl),(mgs,listOf #[] 0),(lg,listOf #[] 0),(299,tabObj ps1),(422,tabObj ps2),(464,tabObj ps3),(oL,listOf oi n1),(kL,listOf ki n2),(vL,listOf vi n3)] ∧
   (@LT.lt Nat _ 299 lg∧@LT.lt Nat _ 422 lg∧@LT.lt Nat _ 464 lg∧@LT.lt Nat _ oL lg∧@LT.lt Nat _ kL lg∧@LT.lt Nat _ vL lg)∧@LT.lt Nat _ lg mgs∧@LT.lt Nat _ mgs dO:=by
  refine ⟨_,_,fr_same F₂ fun y=>?_,fun p hp=>N₂ p (.tail _ hp),?_,?_,lw1⟩
  rotate_left
  ·with_reducible assumption
  ·show @LT.lt Nat _ _ _
   omega
  ·by_cases e1:y=Str.ofString "log"
   ·rw [if_pos e1]; subst e1; rfl
   rw [if_neg e1]
   by_cases e2:y=Str.ofString "managers"
   ·rw [if_pos e2]; subst e2; rfl
   rw [if_neg e2]
   by_cases e3:y=Str.ofString "owner"
   ·rw [if_pos e3]; subst e3; rfl
   rw [if_neg e3]
   show _=if y=Str.ofString "owner" then _ else if y=Str.ofString "managers" then _ else if y=Str.ofString "log" then _ else _
   rw [if_neg e3,if_neg e2,if_neg e1]
   show List.lookup y [(Str.ofString "seed",Value.int seed td),(Str.ofString "values",.ref vL),(Str.ofString "keys",.ref kL),(Str.ofString "order",.ref oL)]=_
   simp only [lookup_if]
   rfl
 clear F₂ N₂
 obtain ⟨mR,hmR⟩:∃ mR,mR=frR (.ref oL) (.ref kL) (.ref vL) (.int seed td) (.ref lg) (.ref mgs) (.ref O):=⟨_,rfl⟩
 obtain ⟨tlo,htl⟩:∃ tl:Rest,tl=[(O,instObj 758 dO),(dO,owN y W .none),(W,instObj 153 dW),(dW,wsDict wh wt dlw),(dlw,listOf #[] kl),(299,tabObj ps1),(422,tabObj ps2),(464,tabObj ps3),(oL,listOf oi n1),(vL,listOf vi n3)]:=⟨_,rfl⟩
 have mt:∀ {p:Addr×Obj},p∈tlo→p∈[(O,instObj 758 dO),(dO,owN y W .none),(W,instObj 153 dW),(dW,wsDict wh wt dlw),(dlw,listOf #[] kl),(299,tabObj ps1),(422,tabObj ps2),(464,tabObj ps3),(oL,listOf oi n1),(vL,listOf vi n3)]:=fun h=>htl ▸ h
 have tn:∀ p∈(kL,listOf ki n2)::tlo,@Ne Nat p.1 mgs∧@Ne Nat p.1 lg:=by
  rw [htl]
  have up:∀ {a:Nat},dO ≤ a→@Ne Nat a mgs∧@Ne Nat a lg:=fun h=>⟨Nat.ne_of_gt (Nat.lt_of_lt_of_le o3 h),Nat.ne_of_gt (Nat.lt_trans o2 (Nat.lt_of_lt_of_le o3 h))⟩
  have dn:∀ {a:Nat},a<lg→@Ne Nat a mgs∧@Ne Nat a lg:=fun h=>⟨Nat.ne_of_lt (Nat.lt_trans h o2),Nat.ne_of_lt h⟩
  have p5:=Nat.lt_trans p1 p2
  have p6:=Nat.lt_trans p5 p3
  exact nms_cons (dn o1.2.2.2.2.1) (nms_cons (up (Nat.le_of_lt p1)) (nms_cons (up (Nat.le_refl _)) (nms_cons (up (Nat.le_of_lt p6)) (nms_cons (up (Nat.le_of_lt p5)) (nms_cons (up (Nat.le_of_lt (Nat.lt_trans p6 p4))) (nms_cons (dn o1.1) (nms_cons (dn o1.2.1) (nms_cons (dn o1.2.2.1) (nms_cons (dn o1.2.2.2.1) (nms_cons (dn o1.2.2.2.2.2) nms_nil))))))))))
 refine for_range (fun i m nw=>RunJ w mR mgs kL lg ki n2 tlo ks i m nw) rfl rfl rfl rfl (by k_room) ?turn ?done ⟨none,none,[],#[],0,[(lg,listOf #[] 0)],rfl,rfl,?ini,?dis0⟩ (hmR ▸ fr_same F₃ (mW_none rfl rfl)) (nw₀:=(mgs,listOf #[] 0)::(kL,listOf ki n2)::(tlo++[(lg,listOf #[] 0)])) ?n0 hR
 case ini=>
  exact ⟨⟨by simp,⟨#[],0,.head _,trivial⟩,(fun _ h=>nomatch h),(fun _ h=>nomatch h),(fun _ h=>nomatch h),(fun _ h=>nomatch h),(fun _ h=>nomatch h)⟩,rfl,rfl,(fun j μ h=>by simp at h),(fun _ h=>nomatch h),(by simp),(fun _ h=>nomatch h)⟩
 case dis0=>
  refine nms_cons ?_ fun p hp hm=>(tn p hp).2 (List.mem_singleton.mp hm)
  exact fun hm=>by have:@Eq Nat mgs lg:=List.mem_singleton.mp hm; exact Nat.ne_of_gt o2 this
 case n0=>
  rw [htl]
  repeat' (first|(refine nms_cons (N₃ _ (by k_mem)) ?_)|exact nms_nil)
 case turn=>
  rintro i m nw it h tk ti hi ⟨rkv,rn,μs,mi,c,rest,rfl,rfl,J,dis⟩ nit F N
  have hfm:(seed.fdiv 7+(i:Int)).fmod 2=0 ∨ (seed.fdiv 7+(i:Int)).fmod 2=1:=by
   rw [Int.fmod_eq_emod_of_nonneg _ (by decide)]
   exact Int.emod_two_eq _
  obtain ⟨C,hC,hx⟩:∃ C:Addr,(C=897 ∨ C=923)∧(#[Value.ref 923,Value.ref 897]:Array Value)[((seed.fdiv 7+(i:Int)).fmod 2).toNat]?=some (.ref C):=by
   rcases hfm with e|e<;>rw [e]
   ·exact ⟨923,.inr rfl,rfl⟩
   ·exact ⟨897,.inl rfl,rfl⟩
  rw [hmR] at F
  clear F₃ N₃ hR
  k_steps
  rename Fr _ _ _ _=>F₄
  rename News _ _ _ _=>N₄
  refine sub_list (News.isList N₄ (.head _)) (by k_room) (by k_room) hx ?_
  have N₄':=news_tl N₄
  clear N₄
  k_steps
  refine callWith_K KX (by rcases hC with rfl|rfl<;>kernel_rfl) ?_
  k_steps
  rename Fr _ _ _ _=>F₅
  rename News _ _ _ _=>N₅
  obtain ⟨tq,hxk⟩:=hk.at hi
  refine sub_list (News.isList N₅ eM2) (Int.natCast_nonneg _) (k63 hi ‹ks.length ≤ 5›) (by rw [Int.toNat_natCast]; exact hxk) ?_
  k_steps
  refine newDict_K F₅ N₅ TX.nolimit fun pl h₆ op F₆ N₆ l₆ lo₆ hop _ _ _=>?_
  k_steps
  refine mk_mgr hC KX TX F₆ N₆ (by rw [depth_deeper]; exact room2 hroom rfl) fun tw h₇ tk₇ M d x t5 t6 F₇ N₇ l₇ l₇'=>?_
  clear F₆ N₆ F₅ N₅ F₄
  have lm:=l₇ _ eM2
  have lp:=l₆ _ eM1
  have lq:=l₇ _ (.head _)
  have nM:@Ne Nat M mgs:=Nat.ne_of_gt (Nat.lt_trans lm l₇')
  have nd:@Ne Nat d mgs:=Nat.ne_of_gt lm
  have np:@Ne Nat pl mgs:=Nat.ne_of_gt lp
  have ni:@Ne Nat it mgs:=fun e=>nit _ (.head _) e.symm
  have nk:∀ p∈(kL,listOf ki n2)::(tlo++rest),p.1≠mgs:=fun p hp=>by
   rcases List.mem_cons.mp hp with rfl|hp
   ·exact (tn _ (.head _)).1
   rcases List.mem_append.mp hp with hp|hp
   ·exact (tn _ (.tail _ hp)).1
   ·exact fun e=>dis _ (.head _) (e ▸ List.mem_map_of_mem (f:=(·.1)) hp)
  have hmz:mi.size<100:=by
   have:=J.len
   have e1:mi.size=μs.length:=by rw [←Array.length_toList,J.mi,List.length_map]
   exact of_i5 (Nat.le_of_eq (e1.trans this)) hi rfl ‹ks.length ≤ 5›
  k_steps
  rename Fr _ _ _ _=>F₈
  rename News _ _ _ _=>N₈
  have pt:∀ p∈tlo++rest,@LT.lt Nat _ p.1 pl:=fun p hp=>l₆ p (eT3 hp)
  refine ⟨rfl,_,_,_,_,rfl,⟨some (.int i ti),some (.ref C),_,_,c+1,_,rfl,rfl,J.add (x:=x) (t5:=t5) (t6:=t6) (tk:=tq) (tw:=tw) hC hop lo₆ l₇' lq fun p hp=>pt p (List.mem_append_right _ hp),?ds⟩,?ni,fr_same F₈ fun y=>hmR ▸ mW_set y,?nw⟩
  case nw=>
   refine nms_cons (N₈ _ eM3) (nms_cons (N₈ _ eM4) (nms_cons (N₈ _ eM5) fun p hp=>?_))
   rcases List.mem_append.mp hp with hp|hp
   ·exact N₈ _ (eT6 (List.mem_append_left _ hp))
   rcases List.mem_cons.mp hp with rfl|hp
   ·exact N₈ _ (.head _)
   rcases List.mem_cons.mp hp with rfl|hp
   ·exact N₈ _ eM1
   rcases List.mem_cons.mp hp with rfl|hp
   ·exact N₈ _ eM2
   ·exact N₈ _ (eT6 (List.mem_append_right _ hp))
  case ds=>
   intro p hp hm
   have hpl:@LT.lt Nat _ p.1 pl:=by
    rcases List.mem_cons.mp hp with rfl|hp
    ·exact lp
    rcases List.mem_cons.mp hp with rfl|hp
    ·exact l₆ _ eM2
    exact pt p (List.mem_append_left _ hp)
   rcases List.mem_cons.mp hm with e|hm
   ·exact absurd hpl (by rw [e]; exact Nat.not_lt.mpr (Nat.le_of_lt (Nat.lt_trans lq l₇')))
   rcases List.mem_cons.mp hm with e|hm
   ·exact absurd hpl (by rw [e]; exact Nat.not_lt.mpr (Nat.le_of_lt lq))
   rcases List.mem_cons.mp hm with e|hm
   ·exact absurd hpl (by rw [e]; exact Nat.lt_irrefl _)
   ·rcases List.mem_cons.mp hp with rfl|hp
    ·exact dis _ (.head _) hm
    ·exact dis _ (.tail _ hp) hm
  case ni=>
   have li:@LT.lt Nat _ it pl:=l₆ _ (.head _)
   refine nms_cons (fun e=>nit _ (.head _) e) (nms_cons (fun e=>nit _ eM1 e) fun p hp=>?_)
   rcases List.mem_append.mp hp with hp|hp
   ·exact nit _ (eT2 (List.mem_append_left _ hp))
   rcases List.mem_cons.mp hp with rfl|hp
   ·exact Nat.ne_of_gt (Nat.lt_trans li (Nat.lt_trans lq l₇'))
   rcases List.mem_cons.mp hp with rfl|hp
   ·exact Nat.ne_of_gt (Nat.lt_trans li lq)
   rcases List.mem_cons.mp hp with rfl|hp
   ·exact Nat.ne_of_gt li
   ·exact nit _ (eT2 (List.mem_append_right _ hp))
 case done=>
  rintro m nw h tk ⟨rkv,rn,μs,mi,c,rest,rfl,rfl,J,dis⟩ F N
  rw [hmR] at F
  clear F₃ N₃ hR fN lw
  k_steps
  rename Fr _ _ _ _=>F₁
  rename News _ _ _ _=>N₁
  rename_i zRa1 _ _ _ _ _ _ _ _ _ _ _ zRa2 _ _ _ _ _ _ zRa3 zRa4 _
  revert XB TB hB hroom hp1 hp2 hp3 hN S hBf ho hk hv hos hvs hks hpost hg KX TX hBG KB TT HF hn5 lw1 p1 p2 p3 p4 o1 o2 o3 hmR htl mt tn J dis F₁ N₁
  exact hP zRa1 h₂ tk₂ O dO W dW dlw y wh wt kl zRa2 lg mgs mR tlo h tk rkv rn μs mi c rest zRa3 zRa4
noncomputable abbrev Ra_dq:=U fun a=>U fun b=>U fun c=>U fun d e=>T3 (T6 (T6 (T6 (T6 Ra_b.1 a) b) c) d) e
noncomputable def Ra_d:=eps Ra_dq ⟨inferInstance⟩
noncomputable def Ra_.zRa1:=Ra_d.1.1
noncomputable def Ra_.h₂:=Ra_d.1.2.1
noncomputable def Ra_.tk₂:=Ra_d.1.2.2.1
noncomputable def Ra_.O:=Ra_d.1.2.2.2.1
noncomputable def Ra_.dO:=Ra_d.1.2.2.2.2.1
noncomputable def Ra_.W:=Ra_d.1.2.2.2.2.2
noncomputable def Ra_.dW:=Ra_d.2.1.1
noncomputable def Ra_.dlw:=Ra_d.2.1.2.1
noncomputable def Ra_.y:=Ra_d.2.1.2.2.1
noncomputable def Ra_.wh:=Ra_d.2.1.2.2.2.1
noncomputable def Ra_.wt:=Ra_d.2.1.2.2.2.2.1
noncomputable def Ra_.kl:=Ra_d.2.1.2.2.2.2.2
noncomputable def Ra_.zRa2:=Ra_d.2.2.1.1
noncomputable def Ra_.lg:=Ra_d.2.2.1.2.1
noncomputable def Ra_.mgs:=Ra_d.2.2.1.2.2.1
noncomputable def Ra_.mR:=Ra_d.2.2.1.2.2.2.1
noncomputable def Ra_.tlo:=Ra_d.2.2.1.2.2.2.2.1
noncomputable def Ra_.h:=Ra_d.2.2.1.2.2.2.2.2
noncomputable def Ra_.tk:=Ra_d.2.2.2.1.1
noncomputable def Ra_.rkv:=Ra_d.2.2.2.1.2.1
noncomputable def Ra_.rn:=Ra_d.2.2.2.1.2.2.1
noncomputable def Ra_.μs:=Ra_d.2.2.2.1.2.2.2.1
noncomputable def Ra_.mi:=Ra_d.2.2.2.1.2.2.2.2.1
noncomputable def Ra_.c:=Ra_d.2.2.2.1.2.2.2.2.2
noncomputable def Ra_.rest:=Ra_d.2.2.2.2.1
noncomputable def Ra_.zRa3:=Ra_d.2.2.2.2.2.1
noncomputable def Ra_.zRa4:=Ra_d.2.2.2.2.2.2
section
local macro_rules | `(tactic| walk_at "exec For Name Name cons nil") => `(tactic| k_dflt (refine wpAny_For ?_))
local macro_rules | `(tactic| walk_at "exec If Compare cons nil") => `(tactic| refine Opq.out ?_)
set_option genSizeOf false in
set_option genInjectivity false in
inductive StepEnd (w:World) (s:Shared) (g:Heap) (L' mgs kL lg oL vL O:Addr) (ks:List Int) (mi ki:Array Value) (c n2:Nat) (tlo:Rest) (stp:Str) (seed:Int) (ts td:Tok) (rkv rn:Option Value) (fl:Flow) (s₃:Shared):Prop where
 | mk (f1:fl=.next) (h':Heap) (tk':Tok) (μs':List Mg) (rest':Rest) (at0:Addr) (f2:s₃={ s with heap:=h',toks:=tk' }) (f3:JP w lg ks μs' mi rest' stp (1+(seed.fdiv 40).fmod 2) at0) (f4:(∀ p∈(mgs,listOf mi c)::(kL,listOf ki n2)::tlo,p.1∉rest'.map (·.1))) (f5:(stp≠Str.ofString "" → ∃ μ,μs'[((seed.fdiv 8).fmod (ks.length:Int)).toNat]?=some μ∧at0=μ.M)) (f6:(stp=Str.ofString "" → at0=0)) (f7:Fr g L' h' (fun y=>if y=Str.ofString "step" then some (.str stp ts) else mW rkv rn (frR (.ref oL) (.ref kL) (.ref vL) (.int seed td) (.ref lg) (.ref mgs) (.ref O)) y)) (f8:News g L' h' ((mgs,listOf mi c)::(kL,listOf ki n2)::(tlo++rest'))):StepEnd w s g L' mgs kL lg oL vL O ks mi ki c n2 tlo stp seed ts td rkv rn fl s₃
open Z0u in
open Ra_ in
noncomputable def Re_b:PSigma fun P:(Tok)→(Str)→(Nat)→(Heap)→(Tok)→(List Mg)→(Rest)→(Addr)→(Heap)→(Nat)→(Addr)→(Addr)→(Addr)→(Addr)→(Addr)→(Addr)→(Addr)→(Addr)→(Addr)→(Addr)→(Mk)→(Tok)→(Tq)→(Rest)→(Array Value)→(Rest)→(Heap)→(Nat)→Prop=>(∀ ts stp zRe1 h₄ tk₄ μs₄ rest₄ at0 h₅ tk₅ X dx rs adr vt ex b1 b2 b3 b4 x tst q ext items al hz tk,P ts stp zRe1 h₄ tk₄ μs₄ rest₄ at0 h₅ tk₅ X dx rs adr vt ex b1 b2 b3 b4 x tst q ext items al hz tk)→Ra_b.1 Ra_.zRa1 Ra_.h₂ Ra_.tk₂ Ra_.O Ra_.dO Ra_.W Ra_.dW Ra_.dlw Ra_.y Ra_.wh Ra_.wt Ra_.kl Ra_.zRa2 Ra_.lg Ra_.mgs Ra_.mR Ra_.tlo Ra_.h Ra_.tk Ra_.rkv Ra_.rn Ra_.μs Ra_.mi Ra_.c Ra_.rest Ra_.zRa3 Ra_.zRa4:=by
 apply PSigma.mk
 case snd=>
 intro hP
 intro XB TB hB hroom hp1 hp2 hp3 hN S hBf ho hk hv hos hvs hks hpost hg KX TX hBG KB TT HF hn5 lw1 p1 p2 p3 p4 o1 o2 o3 hmR htl mt tn J dis F₁ N₁
 have hf8:0 ≤ seed.fmod 8∧seed.fmod 8<8:=by
  exact ⟨Int.fmod_nonneg_of_pos _ (by decide),Int.fmod_lt_of_pos _ (by decide)⟩
 refine sub_steps (News.isList N₁ (.head _)) hf8.1 hf8.2 fun ts=>?_
 have N₂:=news_tl N₁
 clear N₁
 obtain ⟨stp,hstp⟩:∃ stp,stp=stepAt (seed.fmod 8).toNat:=⟨_,rfl⟩
 rw [←hstp]
 k_steps
 rename Fr _ _ _ _=>F₂
 rename News _ _ _ _=>N₂
 clear F₁
 refine Opq.mk ?_
 refine wpAny_mono (Q:=fun fl s₃=>Opq (StepEnd w s g L' mgs kL lg oL vL O ks mi ki c n2 tlo stp seed ts td rkv rn fl s₃)) ?sif (fun fl s₃ q=>?safter) fun _ _ e=>e
 case sif=>
  have hkd:1+(seed.fdiv 40).fmod 2=1 ∨ 1+(seed.fdiv 40).fmod 2=2:=by
   obtain ⟨j,e,l⟩:=fmod_ix (seed.fdiv 40) (n:=2) (by decide)
   rw [show (seed.fdiv 40).fmod 2=(j:Int) from e]
   match j,l with
   | 0,_=>exact .inl rfl
   | 1,_=>exact .inr rfl
  refine wpAny_If ?_
  k_steps
  ·have hn2:0<ks.length:=Nat.lt_of_lt_of_le (by decide) (in25 hks).1
   refine Calls.call_len_list (News.isList N₂ eM1) (by rw [hk.len]; exact i63 (Nat.lt_succ_of_le (le25 hks)) (by decide)) ?_
   rw [hk.len]
   k_steps
   obtain ⟨j,hj,hjn⟩:=fmod_ix (seed.fdiv 8) hn2
   obtain ⟨μ,hμ⟩:∃ μ,μs[j]?=some μ:=⟨_,List.getElem?_eq_getElem (by rw [J.len]; exact hjn)⟩
   have hmi:mi[((seed.fdiv 8).fmod (ks.length:Int)).toNat]?=some (.ref μ.M):=by
    rw [hj,Int.toNat_natCast,←Array.getElem?_toList,J.mi,List.getElem?_map,hμ]
    rfl
   refine sub_list (News.isList N₂ (.head _)) (fmod_nn _ hn2) (fmod_63 _ hn2 (le_big (le25 hks) rfl)) hmi ?_
   have hm:μ∈μs:=List.mem_of_getElem? hμ
   have P:=J.wd.mg μ hm
   obtain ⟨op,kvs,hp,hop,hfp⟩:=P.plan
   obtain ⟨t5,t6,rv,hd,_⟩:=P.dict
   have up:∀ {p:Addr×Obj},p∈rest→p∈(mgs,listOf mi c)::(kL,listOf ki n2)::(tlo++rest):=fun h=>eT2 (List.mem_append_right _ h)
   have N₃:News g L' _ [(μ.M,instObj μ.C μ.d),(μ.d,mgDict lg μ (σ0 μ.M) t5 t6 rv)]:=nms_cons (N₂ _ (up P.inst)) (nms_cons (N₂ _ (up hd)) nms_nil)
   have NB:=Box.mk N₂
   clear N₂
   have hnil:kvs=[]:=by
    rw [(J.at_ j μ hμ).2.2] at hfp
    cases hfp
    rfl
   subst hnil
   have np:∀ {p:Addr×Obj},p∈(mgs,listOf mi c)::(kL,listOf ki n2)::tlo→p.1≠μ.pl:=fun {p} hp' e=>dis p hp' (e ▸ List.mem_map_of_mem (f:=(·.1)) hp)
   rcases P.cls with hC|hC
   all_goals
    rw [hC] at N₃
    k_steps
    refine wpAny_setItem_pairs (knd:=strKind P2 w) (strKind_is _ _ _ _) (Heap.dictOf_iff.mpr ⟨op,(NB.out _ (up hp)).1,hop⟩) (fun h₂ hd₂ hs₂=>?_) (Nat.zero_le _)
    have NF:=NB.out _ (up hp)
    have F₄:=F₂.change hs₂ NF.2.1 NF.2.2
    obtain ⟨op',ho',hd'⟩:=Heap.dictOf_iff.mp hd₂
    clear F₂ N₃
    have N₄:News g L' h₂ ((mgs,listOf mi c)::(kL,listOf ki n2)::(tlo++put μ.pl op' rest)):=by
     have kp:∀ {p:Addr×Obj},p∈(mgs,listOf mi c)::(kL,listOf ki n2)::(tlo++rest)→p.1≠μ.pl→h₂.get? p.1=some p.2∧p.1≠L'∧g.get? p.1=none:=fun hp' n=>⟨(hs₂.2 _ n).trans (NB.out _ hp').1,(NB.out _ hp').2⟩
     refine nms_cons (kp (.head _) (np (.head _))) (nms_cons (kp eM1 (np eM1)) fun p hp'=>?_)
     rcases List.mem_append.mp hp' with hp'|hp'
     ·exact kp (eT2 (List.mem_append_left _ hp')) (np (eT2 hp'))
     rcases put_mem hp' with ⟨rfl,_⟩|⟨hp',n⟩
     ·exact ⟨ho',NF.2⟩
     ·exact kp (up hp') n
    k_steps
    rename Fr _ _ _ _=>F₅
    refine ⟨rfl,_,_,_,_,μ.M,rfl,J.store hkd hμ hd',fun p hp' hm'=>?_,fun _=>⟨{ μ with D:=[(.str stp,.int (1+(seed.fdiv 40).fmod 2))] },by rw [hj,Int.toNat_natCast]; exact List.getElem?_set_self (by rw [J.len]; exact hjn),rfl⟩,fun e=>?_,F₅,N₄⟩
    ·rw [put_fst] at hm'
     exact dis p hp' hm'
    ·rename (stp != Str.ofString "")=true=>hne
     rw [e] at hne
     exact absurd hne (by decide)
  ·rename (stp != Str.ofString "")=false=>hne
   have hse:stp=Str.ofString "" := by simpa using hne
   exact Opq.mk ⟨rfl,_,_,μs,rest,0,rfl,J.none hkd,dis,fun h=>absurd hse h,fun _=>rfl,F₂,N₂⟩
 case safter=>
  obtain ⟨rfl,h₄,tk₄,μs₄,rest₄,at0,rfl,JJ,dis₄,hat1,hat2,F₄,N₄⟩:=q.out
  clear J dis
  clear F₂ N₂
  have up:∀ {p:Addr×Obj},p∈tlo→p∈(mgs,listOf mi c)::(kL,listOf ki n2)::(tlo++rest₄):=fun h=>eT2 (List.mem_append_left _ h)
  have NB:=Box.mk N₄
  have N₅:News g L' h₄ [(O,instObj 758 dO),(dO,owN y W .none),(W,instObj 153 dW),(dW,wsDict wh wt dlw),(dlw,listOf #[] kl)]:=
   nms_cons (N₄ _ (up (htl ▸ .head _))) (nms_cons (N₄ _ (up (htl ▸ eM1))) (nms_cons (N₄ _ (up (htl ▸ eM2))) (nms_cons (N₄ _ (up (htl ▸ eM3))) (nms_cons (N₄ _ (up (htl ▸ eM4))) nms_nil))))
  clear N₄
  k_steps
  refine wpAny_call (begin640 (B:=B) XB TB (fun b o e=>F₄.keep b o (hBG b o e)) (by rw [depth_deeper]; exact room2 hroom rfl) (fun p hp=>(N₅ p hp).1) (fun p hp=>fresh_of_stays hBG (N₅ p hp).2.2) (Around.frames_deeper rfl)
   ((stk_of KB.out).push (env:=enR L') (Λ:=[]) rfl F₄ N₅ rfl rfl (ns_cons ⟨_,.head _,rfl⟩ (ns_cons ⟨_,eM1,rfl⟩ (ns_cons ⟨_,eM2,rfl⟩ (ns_cons ⟨_,eM3,rfl⟩ (ns_cons ⟨_,eM4,rfl⟩ ns_nil)))))) HF p1 p2 p3 p4
   fun h₅ tk₅ X dx rs adr vt ex b1 b2 b3 b4 x tst hm₅ gdO gnew ord=>?_)
  have F₅:=fr_mod F₄ hm₅ fun a ha=>List.mem_singleton.mp ha ▸ (N₅ _ eM1).2
  have nf:∀ {p:Addr×Obj},h₅.get? p.1=some p.2∧h₄.get? p.1=none→h₅.get? p.1=some p.2∧p.1≠L'∧g.get? p.1=none:=fun {p} e=>by
   refine ⟨e.1,fun q=>?_,?_⟩
   ·obtain ⟨oL,es,ep,hL,_⟩:=F₄.ns
    have:=e.2
    rw [q] at this
    rw [show h₄.get? L'=_ from hL] at this; cases this
   ·cases q:g.get? p.1 with
    | none=>rfl
    | some o'=>have:=F₄.keep _ _ q; rw [e.2] at this; cases this
  have NO:=NB.out
  have ndO:∀ {p:Addr×Obj},p∈rest₄→p.1≠dO:=fun {p} hp e=>dis₄ (dO,owN y W .none) (eT2 (htl ▸ .tail _ (.head _))) (List.mem_map.mpr ⟨p,hp,e⟩)
  have hx:∀ {p:Addr×Obj},p∈tlo→@Ne Nat p.1 dO→h₅.get? p.1=some p.2∧p.1≠L'∧g.get? p.1=none:=fun hp n=>news_stay NO hm₅ (up hp) n
  obtain ⟨q1,q2,q3,q4,q5,q6,q7,q8,q9,q10⟩:=ord
  obtain ⟨q,hq⟩:∃ q:Tq,q=⟨X,dx,rs,W,dW,dlw,O,dO,adr,ex,b1,b2,b3,b4,x,y,wh,wt,0,kl,0,0,0,0⟩:=⟨_,rfl⟩
  have hord:Ord q vt:=by
   rw [hq]
   refine ⟨?_,p1,p2,p3,p4,q1,q2,q3,q4,q5,q6,q7,q8,q9,q10⟩
   exact Nat.lt_trans (Nat.lt_trans o1.2.2.1 o2) o3
  have dl:∀ {a:Nat},a<lg→@LT.lt Nat _ a dO:=fun h=>Nat.lt_trans (Nat.lt_trans h o2) o3
  have dn:∀ {a:Nat},a<lg→@Ne Nat a dO:=fun h=>Nat.ne_of_lt (dl h)
  have p5:=Nat.lt_trans p1 p2
  have p6:=Nat.lt_trans p5 p3
  have NA:News g L' h₅ (cmN q (Str.ofString "Active") tst #[] vt #[] 0 .none ps1 ps2 rest₄):=by
   rw [hq]
   refine nms_cons (nf (gnew _ (.head _))) (nms_cons (nf (gnew (dx,dictOf (txEs x (Str.ofString "Active") tst rs W O adr vt ex .none b1 b2 b3 b4) 12) eM1)) (nms_cons (hx (htl ▸ eM2) (Nat.ne_of_gt p6)) (nms_cons (hx (htl ▸ eM3) (Nat.ne_of_gt p5))
    (nms_cons (hx (htl ▸ eM5) (dn o1.1)) (nms_cons (nf (gnew _ eM2)) (nms_cons (nf (gnew _ eM3)) (nms_cons (hx (htl ▸ eM4) (Nat.ne_of_gt (Nat.lt_trans p6 p4)))
    (nms_cons (hx (htl ▸ eM6) (dn o1.2.1)) (nms_cons (hx (htl ▸ .head _) (Nat.ne_of_gt p1)) (nms_cons ⟨gdO,(N₅ _ eM1).2⟩
    (nms_cons (nf (gnew _ eM4)) (nms_cons (nf (gnew _ eM5)) (nms_cons (nf (gnew _ eM6)) (nms_cons (nf (gnew _ eM7)) fun p hp=>?_))))))))))))))
   exact news_stay NO hm₅ (eT2 (List.mem_append_right _ hp)) (ndO hp)
  have disA:∀ a∈cmA q vt,a∉rest₄.map (·.1):=by
   rw [hq]
   have fo:∀ {p:Addr×Obj},p∈tlo→p.1∉rest₄.map (·.1):=fun hp=>dis₄ _ (eT2 hp)
   have fn:∀ {p:Addr×Obj},h₅.get? p.1=some p.2∧h₄.get? p.1=none→p.1∉rest₄.map (·.1):=fun {p} e hm=>by
    obtain ⟨r,hr,er⟩:=List.mem_map.mp hm
    have:=(NO _ (eT2 (List.mem_append_right _ hr))).1
    rw [er,e.2] at this; cases this
   refine ns_cons (fn (gnew _ (.head _))) (ns_cons (fn (gnew _ eM1)) (ns_cons (fo (p:=(W,instObj 153 dW)) (htl ▸ eM2)) (ns_cons (fo (p:=(dW,wsDict wh wt dlw)) (htl ▸ eM3)) (ns_cons (fo (p:=(299,tabObj ps1)) (htl ▸ eM5))
    (ns_cons (fn (gnew _ eM2)) (ns_cons (fn (gnew _ eM3)) (ns_cons (fo (p:=(dlw,listOf #[] kl)) (htl ▸ eM4)) (ns_cons (fo (p:=(422,tabObj ps2)) (htl ▸ eM6))
    (ns_cons (fo (p:=(O,instObj 758 dO)) (htl ▸ .head _)) (ns_cons (fo (p:=(dO,owN y W .none)) (htl ▸ eM1))
    (ns_cons (fn (gnew _ eM4)) (ns_cons (fn (gnew _ eM5)) (ns_cons (fn (gnew _ eM6)) (ns_cons (fn (gnew _ eM7)) ns_nil))))))))))))))
  obtain ⟨ext,hext⟩:∃ ext:Rest,ext=[(464,tabObj ps3),(oL,listOf oi n1),(vL,listOf vi n3),(mgs,listOf mi c),(kL,listOf ki n2)]:=⟨_,rfl⟩
  have lE:∀ p∈ext,@LT.lt Nat _ p.1 dO:=by
   rw [hext]
   exact nms_cons (dl o1.2.2.1) (nms_cons (dl o1.2.2.2.1) (nms_cons (dl o1.2.2.2.2.2) (nms_cons o3 (nms_cons (dl o1.2.2.2.2.1) nms_nil))))
  have NE:Box (News g L' h₅ ext):=by
   rw [hext]
   exact ⟨nms_cons (hx (htl ▸ eM7) (dn o1.2.2.1)) (nms_cons (hx (htl ▸ eM8) (dn o1.2.2.2.1)) (nms_cons (hx (htl ▸ eT8 eM1) (dn o1.2.2.2.2.2))
    (nms_cons (news_stay NO hm₅ (.head _) (Nat.ne_of_lt o3)) (nms_cons (news_stay NO hm₅ eM1 (Nat.ne_of_lt (Nat.lt_trans o1.2.2.2.2.1 (Nat.lt_trans o2 o3)))) nms_nil))))⟩
  have disE:∀ p∈ext,p.1∉rest₄.map (·.1):=by
   rw [hext]
   have fo:∀ {p:Addr×Obj},p∈tlo→p.1∉rest₄.map (·.1):=fun hp=>dis₄ _ (eT2 hp)
   exact nms_cons (fo (htl ▸ eM7)) (nms_cons (fo (htl ▸ eM8)) (nms_cons (fo (htl ▸ eT8 eM1)) (nms_cons (dis₄ _ (.head _)) (nms_cons (dis₄ _ eM1) nms_nil))))
  have eX:X=q.X:=by rw [hq]
  have eO:O=q.O:=by rw [hq]
  have edO:dO=q.dO:=by rw [hq]
  obtain ⟨items,hit⟩:∃ items:Array Value,items=#[]:=⟨_,rfl⟩
  rw [eX]
  rw [eO] at F₅
  rw [edO] at lE
  clear N₅ NB nf hx gnew gdO NO ndO up dis₄ hm₅ hq
  clear tn mt htl
  obtain ⟨al,hal⟩:∃ al:Rest,al=cmN q (Str.ofString "Active") tst #[] vt #[] 0 .none ps1 ps2 rest₄++ext:=⟨_,rfl⟩
  have N₆:News g L' h₅ al:=by
   rw [hal]
   intro p hp
   rcases List.mem_append.mp hp with hp|hp
   ·exact NA p hp
   ·exact NE.out p hp
  clear NA NE
  k_steps
  rename Fr _ _ _ _=>F₆
  rename News _ _ _ _=>N₇
  have N₆:=news_tl N₇
  clear N₇ eX eO edO q1 q2 q3 q4 q5 q6 q7 q8 q9 q10 p1 p2 p3 p4 lw1
  rename_i zRe1 _ _ _ _ _ _ hz
  revert XB TB hB hroom hp1 hp2 hp3 hN S hBf ho hk hv hos hvs hks hpost hg KX TX hBG KB TT HF hn5 o1 o2 o3 hmR hf8 N₂ hstp JJ hat1 hat2 hord disA hext lE disE hit hal F₆ N₆
  exact hP ts stp zRe1 h₄ tk₄ μs₄ rest₄ at0 h₅ tk₅ X dx rs adr vt ex b1 b2 b3 b4 x tst q ext items al hz tk
noncomputable abbrev Re_dq:=U fun a=>U fun b=>U fun c=>U fun d e=>T4 (T6 (T6 (T6 (T6 Re_b.1 a) b) c) d) e
noncomputable def Re_d:=eps Re_dq ⟨inferInstance⟩
noncomputable def Re_.ts:=Re_d.1.1
noncomputable def Re_.stp:=Re_d.1.2.1
noncomputable def Re_.zRe1:=Re_d.1.2.2.1
noncomputable def Re_.h₄:=Re_d.1.2.2.2.1
noncomputable def Re_.tk₄:=Re_d.1.2.2.2.2.1
noncomputable def Re_.μs₄:=Re_d.1.2.2.2.2.2
noncomputable def Re_.rest₄:=Re_d.2.1.1
noncomputable def Re_.at0:=Re_d.2.1.2.1
noncomputable def Re_.h₅:=Re_d.2.1.2.2.1
noncomputable def Re_.tk₅:=Re_d.2.1.2.2.2.1
noncomputable def Re_.X:=Re_d.2.1.2.2.2.2.1
noncomputable def Re_.dx:=Re_d.2.1.2.2.2.2.2
noncomputable def Re_.rs:=Re_d.2.2.1.1
noncomputable def Re_.adr:=Re_d.2.2.1.2.1
noncomputable def Re_.vt:=Re_d.2.2.1.2.2.1
noncomputable def Re_.ex:=Re_d.2.2.1.2.2.2.1
noncomputable def Re_.b1:=Re_d.2.2.1.2.2.2.2.1
noncomputable def Re_.b2:=Re_d.2.2.1.2.2.2.2.2
noncomputable def Re_.b3:=Re_d.2.2.2.1.1
noncomputable def Re_.b4:=Re_d.2.2.2.1.2.1
noncomputable def Re_.x:=Re_d.2.2.2.1.2.2.1
noncomputable def Re_.tst:=Re_d.2.2.2.1.2.2.2.1
noncomputable def Re_.q:=Re_d.2.2.2.1.2.2.2.2.1
noncomputable def Re_.ext:=Re_d.2.2.2.1.2.2.2.2.2
noncomputable def Re_.items:=Re_d.2.2.2.2.1
noncomputable def Re_.al:=Re_d.2.2.2.2.2.1
noncomputable def Re_.hz:=Re_d.2.2.2.2.2.2.1
noncomputable def Re_.tk:=Re_d.2.2.2.2.2.2.2
end
end
noncomputable abbrev mT (tr er st:Value) (m:Sm):Sm:=fun y=>if y=Str.ofString "transaction" then some tr else if y=Str.ofString "error" then some er else if y=Str.ofString "step" then some st else m y
set_option genSizeOf false in
set_option genInjectivity false in
inductive JoinJ (w:World) (q:Tq) (tst:Tok) (vt mgs vL lg:Addr) (mi vi:Array Value) (c n3:Nat) (kp rest₄:Rest) (μs₄:List Mg) (osl:List Nat) (vs:List Int) (i:Nat) (nw:Rest):Prop where
 | mk (its:Array Value) (kr:Nat) (σ:Addr→Ms) (rest':Rest) (f1:nw=(q.X,instObj 501 q.dx)::(q.dx,txD q (Str.ofString "Active") tst vt .none)::(q.rs,listOf its kr)::(mgs,listOf mi c)::(vL,listOf vi n3)::(kp++rest')) (f2:Wd [] w lg μs₄ σ [] rest') (f3:rest'.map (·.1)=rest₄.map (·.1)) (f4:its.toList=((osl.take i).filterMap fun k=>μs₄[k]?).map (fun μ=>.ref μ.M)) (f5:∀ j μ,μs₄[j]?=some μ→σ μ.M=⟨0,if j∈osl.take i then vs.getD j 0 else 0,none⟩):JoinJ w q tst vt mgs vL lg mi vi c n3 kp rest₄ μs₄ osl vs i nw
open Z0u in
open Ra_ hiding tk in
open Re_ in
noncomputable def Rf_b:PSigma fun P:(Rest)→(Heap)→(Nat)→(Option Value)→(Array Value)→(Nat)→(Addr→Ms)→(List (Addr×Obj))→Prop=>(∀ kp h tk rv its kr σ rest',P kp h tk rv its kr σ rest')→Re_b.1 Re_.ts Re_.stp Re_.zRe1 Re_.h₄ Re_.tk₄ Re_.μs₄ Re_.rest₄ Re_.at0 Re_.h₅ Re_.tk₅ Re_.X Re_.dx Re_.rs Re_.adr Re_.vt Re_.ex Re_.b1 Re_.b2 Re_.b3 Re_.b4 Re_.x Re_.tst Re_.q Re_.ext Re_.items Re_.al Re_.hz Re_.tk:=by
 apply PSigma.mk
 case snd=>
 intro hP
 intro XB TB hB hroom hp1 hp2 hp3 hN S hBf ho hk hv hos hvs hks hpost hg KX TX hBG KB TT HF hn5 o1 o2 o3 hmR hf8 N₂ hstp JJ hat1 hat2 hord disA hext lE disE hit hal F₆ N₆
 have hos5:osl.length=ks.length:=by rw [hos.length_eq,List.length_range]
 have hlt:∀ {j k:Nat},osl[j]?=some k→k<ks.length:=fun {j k} e=>List.mem_range.mp (hos.mem_iff.mp (List.mem_of_getElem? e))
 obtain ⟨kp,hkp⟩:∃ kp:Rest,kp=[(q.W,instObj 153 q.dW),(q.dW,wsDict q.wh q.wt q.dl),(299,tabObj ps1),(vt,listOf #[] 0),(q.dl,listOf #[] q.kl),(422,tabObj ps2),(q.O,instObj 758 q.dO),(q.dO,owD q (.ref q.X)),(q.b1,listOf #[] q.k1),(q.b2,listOf #[] q.k2),(q.b3,listOf #[] q.k3),(q.b4,listOf #[] q.k4),(464,tabObj ps3),(kL,listOf ki n2)]:=⟨_,rfl⟩
 have N₈:=(show ∀ {h:Heap},News g L' h al→News g L' h ((oL,listOf oi n1)::((q.X,instObj 501 q.dx)::(q.dx,txD q (Str.ofString "Active") tst vt .none)::(q.rs,listOf #[] q.kr)::(mgs,listOf mi c)::(vL,listOf vi n3)::(kp++rest₄))) from by
  intro h N₆
  rw [hal,hext] at N₆
  rw [hkp]
  have Na:News g L' _ (cmN q (Str.ofString "Active") tst #[] vt #[] 0 .none ps1 ps2 rest₄):=fun p hp=>N₆ p (List.mem_append_left _ hp)
  have Nb:News g L' _ [(464,tabObj ps3),(oL,listOf oi n1),(vL,listOf vi n3),(mgs,listOf mi c),(kL,listOf ki n2)]:=fun p hp=>N₆ p (List.mem_append_right _ hp)
  clear N₆
  have hr:∀ {p:Addr×Obj},p∈rest₄→p∈cmN q (Str.ofString "Active") tst #[] vt #[] 0 .none ps1 ps2 rest₄:=fun hp=>eT8 (eT7 hp)
  refine nms_cons (Nb _ (by k_mem)) ?_
  repeat' (first|(refine nms_cons (Na _ (by k_mem)) ?_)|(refine nms_cons (Nb _ (by k_mem)) ?_)|exact fun p hp=>Na p (hr hp))) N₆
 clear N₆
 refine wpAny_pyIter_list (items:=oi) (News.isList N₈ (.head _)) ?_
 have F₇:=F₆.push { cls:=.type "list_iterator",data:=.fields #[.ref oL,.int 0 0] }
 have N₉:=N₈.push F₆ { cls:=.type "list_iterator",data:=.fields #[.ref oL,.int 0 0] }
 have nI:=fun p hp=>Nat.ne_of_lt (Heap.lt_size (N₈ p hp).1)
 clear F₆ N₈
 have pl:=hord.pwl
 have rsG:∀ {a:Nat},a<q.dO→@Ne Nat a q.rs:=fun h=>bes (pw_cons h (List.pairwise_cons.mp hord.pw).2) (by with_reducible repeat' constructor)
 have ord':=hord
 unfold Ord at ord'
 have lkL:@LT.lt Nat _ kL q.dO:=lE (kL,listOf ki n2) (by rw [hext]; k_mem)
 have kne:∀ p∈kp,@Ne Nat p.1 q.rs:=by
  rw [hkp]
  repeat' (first|(refine nms_cons ?_ ?_)|exact nms_nil|exact rsG lkL|(refine neN ?_; dsimp only; exact bes pl (by with_reducible repeat' constructor)))
 have kdis:∀ p∈kp,p.1∉rest₄.map (·.1):=by
  rw [hkp]
  have lst:=disE (464,tabObj ps3) (by rw [hext]; k_mem)
  have lst':=disE (kL,listOf ki n2) (by rw [hext]; k_mem)
  refine nms_cons (disA _ (by k_mem)) (nms_cons (disA _ (by k_mem)) (nms_cons (disA _ (by k_mem)) (nms_cons (disA _ (by k_mem)) (nms_cons (disA _ (by k_mem)) (nms_cons (disA _ (by k_mem)) (nms_cons (disA _ (by k_mem)) (nms_cons (disA _ (by k_mem)) (nms_cons (disA _ (by k_mem)) (nms_cons (disA _ (by k_mem)) (nms_cons (disA _ (by k_mem)) (nms_cons (disA _ (by k_mem)) (nms_cons lst (nms_cons lst' nms_nil)))))))))))))
 have eE:∀ p∈[(464,tabObj ps3),(oL,listOf oi n1),(vL,listOf vi n3),(mgs,listOf mi c),(kL,listOf ki n2)],@LT.lt Nat _ p.1 q.dO∧p.1∉rest₄.map (·.1):=hext ▸ fun p hp=>⟨lE p hp,disE p hp⟩
 have loL:=eE (oL,listOf oi n1) (by k_mem)
 have lvL:=eE (vL,listOf vi n3) (by k_mem)
 have lmg:=eE (mgs,listOf mi c) (by k_mem)
 dsimp only at loL lvL lmg
 refine for_list (it:=hz.objs.size) (J:=fun i nw=>JoinJ w q tst vt mgs vL lg mi vi c n3 kp rest₄ μs₄ osl vs i nw)
  (m₀:=mT (.ref q.X) (.str (Str.ofString "none") tk₅) (.str stp ts) (mW rkv rn (frR (.ref oL) (.ref kL) (.ref vL) (.int seed td) (.ref lg) (.ref mgs) (.ref q.O)))) (rv₀:=rkv) rfl rfl rfl (fun i nw _=>.inl rfl) ?turn ?done ⟨rfl,rfl⟩ ⟨#[],q.kr,σ0,rest₄,rfl,JJ.wd,rfl,rfl,fun j μ _=>by simp [σ0]⟩ (fun p hp=>nI p (.tail _ hp)) (fr_same F₇ fun y=>?fr) N₉
 case fr=>
  by_cases e:y=Str.ofString "k"
  ·rw [if_pos e,e]; rfl
  ·rw [if_neg e]
 case turn=>
  rintro i v nw h tk io hoi hvi ⟨its,kr,σ,rest',rfl,WD,hmap,hits,hσ⟩ nit F N
  clear N₉ F₇ hal nI
  generalize hz.objs.size=it at N nit ⊢
  have hi5:i<osl.length:=by
   have h1:=(Array.getElem?_eq_some_iff.mp hvi).1
   have h2:=ho.len
   rw [List.length_map] at h2
   omega
  obtain ⟨k,hk'⟩:∃ k,osl[i]?=some k:=⟨_,List.getElem?_eq_getElem hi5⟩
  have hkn:=hlt hk'
  obtain ⟨tk',hv'⟩:=ho.at (i:=i) (by rw [List.length_map]; exact hi5)
  rw [hvi,List.getD_eq_getElem?_getD,List.getElem?_map,hk'] at hv'
  obtain rfl:=Option.some.inj hv'
  obtain ⟨μ,hμ⟩:∃ μ,μs₄[k]?=some μ:=⟨_,List.getElem?_eq_getElem (by rw [JJ.len]; exact hkn)⟩
  have hmi:mi[((k:Nat):Int).toNat]?=some (.ref μ.M):=by
   rw [Int.toNat_natCast,←Array.getElem?_toList,JJ.mi,List.getElem?_map,hμ]
   rfl
  replace F:=fr_same (m':=fun y=>if y=Str.ofString "k" then some (.int (k:Int) tk') else mT (.ref q.X) (.str (Str.ofString "none") tk₅) (.str stp ts) (mW rkv rn (frR (.ref oL) (.ref kL) (.ref vL) (.int seed td) (.ref lg) (.ref mgs) (.ref q.O))) y) F fun y=>rfl
  k_steps
  refine sub_list (News.isList N eM5) (Int.natCast_nonneg _) (k63 hkn ‹ks.length ≤ 5›) hmi ?_
  k_steps
  unfold Ord at hord
  have hits5:its.size<100:=by
   have e1:its.size=((osl.take i).filterMap fun k=>μs₄[k]?).length:=by rw [←Array.length_toList,hits,List.length_map]
   have e2:=List.length_filterMap_le (fun k=>μs₄[k]?) (osl.take i)
   have e3:=List.length_take_le i osl
   exact of_i5 (Nat.le_trans (Nat.le_of_eq e1) (Nat.le_trans e2 e3)) hi5 ‹osl.length=ks.length› ‹ks.length ≤ 5›
  refine wpAny_call (join268 (B:=B) (q:=q) (ts:=tst) (items:=its) (kr:=kr) (vt:=vt) XB (topRead_of TB) (fun b o e=>F.keep b o (hBG b o e)) (by rw [depth_deeper]; exact room2 hroom rfl) (N _ eM2).1 (N (q.dx,txD q (Str.ofString "Active") tst vt .none) eM3).1 (N _ eM4).1
   (fresh_of_stays hBG (N _ eM2).2.2) (fresh_of_stays hBG (N (q.dx,txD q (Str.ofString "Active") tst vt .none) eM3).2.2) (fresh_of_stays hBG (N _ eM4).2.2) (by k_room) (by k_room) hits5 fun h₆ tk₆ hm₆ grs=>?_)
  have F₂:=fr_mod F hm₆ fun a ha=>List.mem_singleton.mp ha ▸ (N _ eM4).2
  have kN:∀ {p:Addr×Obj},p∈_→@Ne Nat p.1 q.rs→h₆.get? p.1=some p.2∧p.1≠L'∧g.get? p.1=none:=fun hp n=>news_stay N hm₆ hp n
  have N₂:News g L' h₆ ((it,io)::(oL,listOf oi n1)::(q.X,instObj 501 q.dx)::(q.dx,txD q (Str.ofString "Active") tst vt .none)::(q.rs,listOf (its.push (.ref μ.M)) (kr+1))::(mgs,listOf mi c)::(vL,listOf vi n3)::(kp++rest')):=by
   refine nms_cons (kN (.head _) fun e=>nit _ eM2 e.symm) (nms_cons (kN eM1 (rsG (eE _ eM1).1)) (nms_cons (kN eM2 (by dsimp only; exact bes pl (by with_reducible repeat' constructor))) (nms_cons (kN eM3 (by dsimp only; exact bes pl (by with_reducible repeat' constructor))) (nms_cons ⟨grs,(N _ eM4).2⟩
    (nms_cons (kN eM5 (rsG (eE _ eM3).1)) (nms_cons (kN eM6 (rsG (eE _ eM2).1)) fun p hp=>kN (eT7 hp) ?_))))))
   rcases List.mem_append.mp hp with hp|hp
   ·exact kne p hp
   ·exact fun e=>disA q.rs (by k_mem) (hmap ▸ List.mem_map.mpr ⟨p,hp,e⟩)
  clear kN hm₆ N F
  have hkv:k<vs.length:=by rw [hvs]; exact hkn
  obtain ⟨tv,hvx⟩:=hv.at hkv
  have hm:μ∈μs₄:=List.mem_of_getElem? hμ
  have P:=WD.mg μ hm
  obtain ⟨t5,t6,rv,hd,_⟩:=P.dict
  have hσμ:=hσ k μ hμ
  have N₃:News g L' h₆ ((μ.M,instObj μ.C μ.d)::(μ.d,mgDict lg μ (σ μ.M) t5 t6 rv)::(it,io)::(oL,listOf oi n1)::(q.X,instObj 501 q.dx)::(q.dx,txD q (Str.ofString "Active") tst vt .none)::(q.rs,listOf (its.push (.ref μ.M)) (kr+1))::(mgs,listOf mi c)::(vL,listOf vi n3)::(kp++cut μ.d rest')):=
   news_cut (nm:=(it,io)::(oL,listOf oi n1)::(q.X,instObj 501 q.dx)::(q.dx,txD q (Str.ofString "Active") tst vt .none)::(q.rs,listOf (its.push (.ref μ.M)) (kr+1))::(mgs,listOf mi c)::(vL,listOf vi n3)::kp) N₂ P.inst hd
  have mdr:μ.d∈rest₄.map (·.1):=hmap ▸ List.mem_map_of_mem (f:=(·.1)) hd
  have mdx:∀ {a:Addr},a=μ.d→a∈rest₄.map (·.1):=fun e=>by rw [e]; exact mdr
  have nMd:@Ne Nat μ.M μ.d:=(WD.lg_ne_inst hm).2.2.2.1
  have nt:∀ p∈(it,io)::(oL,listOf oi n1)::(q.X,instObj 501 q.dx)::(q.dx,txD q (Str.ofString "Active") tst vt .none)::(q.rs,listOf (its.push (.ref μ.M)) (kr+1))::(mgs,listOf mi c)::(vL,listOf vi n3)::(kp++cut μ.d rest'),p.1≠μ.d:=by
   refine nms_cons (fun e=>nit (μ.d,mgDict lg μ (σ μ.M) t5 t6 rv) (eT5 (List.mem_append_right _ hd)) e.symm) (nms_cons (fun e=>loL.2 (mdx e)) (nms_cons (fun e=>disA q.X (by k_mem) (mdx e)) (nms_cons (fun e=>disA q.dx (by k_mem) (mdx e)) (nms_cons (fun e=>disA q.rs (by k_mem) (mdx e))
    (nms_cons (fun e=>lmg.2 (mdx e)) (nms_cons (fun e=>lvL.2 (mdx e)) fun p hp=>?_))))))
   rcases List.mem_append.mp hp with hp|hp
   ·exact fun e=>kdis p hp (mdx e)
   ·exact of_decide_eq_true (List.mem_filter.mp hp).2
  clear N₂
  k_steps
  refine sub_list (News.isList N₃ eM8) (Int.natCast_nonneg _) (k63 hkn ‹ks.length ≤ 5›) (by rw [Int.toNat_natCast]; exact hvx) ?_
  k_steps
  refine sub_list (News.isList N₃ eM7) (Int.natCast_nonneg _) (k63 hkn ‹ks.length ≤ 5›) hmi ?_
  k_steps
  rcases P.cls with hC|hC
  all_goals
   rw [hC] at N₃
   k_steps
   rename Fr _ _ _ _=>F₄
   rename News _ _ _ _=>N₄
   clear N₃
   have N₅:News g L' _ ((it,io)::(oL,listOf oi n1)::(q.X,instObj 501 q.dx)::(q.dx,txD q (Str.ofString "Active") tst vt .none)::(q.rs,listOf (its.push (.ref μ.M)) (kr+1))::(mgs,listOf mi c)::(vL,listOf vi n3)::(kp++put μ.d (mgDict lg μ ⟨(σ μ.M).kept,vs.getD k 0,none⟩ t5 tv rv) rest')):=
    news_put (nm:=(it,io)::(oL,listOf oi n1)::(q.X,instObj 501 q.dx)::(q.dx,txD q (Str.ofString "Active") tst vt .none)::(q.rs,listOf (its.push (.ref μ.M)) (kr+1))::(mgs,listOf mi c)::(vL,listOf vi n3)::kp) N₄
   refine .inl ⟨rfl,_,_,_,some (.int (k:Int) tk'),rfl,⟨_,_,_,_,rfl,wd_value WD hm (by rw [hσμ]),by rw [put_fst]; exact hmap,?_,?_⟩,?_,F₄,N₅⟩
   ·rw [Array.toList_push,hits,List.take_add_one,hk']
    simp [List.filterMap_append,hμ]
   ·intro j ν hν
    have hjk:ν.M=μ.M→j=k:=fun e=>by
     have h1:(μs₄.map (·.M))[j]?=some ν.M:=by rw [List.getElem?_map,hν]; rfl
     have h2:(μs₄.map (·.M))[k]?=some μ.M:=by rw [List.getElem?_map,hμ]; rfl
     exact (List.getElem?_inj (List.getElem?_eq_some_iff.mp h1).1 JJ.nodup).mp (by rw [h1,h2,e])
    have tk1:osl.take (i+1)=osl.take i++[k]:=by rw [List.take_add_one,hk']; rfl
    rw [tk1]
    unfold upd
    by_cases e:ν.M=μ.M
    ·rw [if_pos e,hσμ,hjk e,if_pos (List.mem_append_right _ (.head _))]
    ·rw [if_neg e,hσ j ν hν]
     have:j≠k:=fun q=>e (by rw [q,hμ] at hν; cases hν; rfl)
     simp [this]
   ·refine nms_cons (nit _ (.head _)) (nms_cons (nit (q.dx,txD q (Str.ofString "Active") tst vt .none) eM1) (nms_cons (nit (q.rs,listOf its kr) eM2) (nms_cons (nit _ eM3) (nms_cons (nit _ eM4) fun p hp=>?_))))
    rcases List.mem_append.mp hp with hp|hp
    ·exact nit p (eT5 (List.mem_append_left _ hp))
    rcases put_mem hp with ⟨rfl,_⟩|⟨hp,_⟩
    ·exact nit (μ.d,mgDict lg μ (σ μ.M) t5 t6 rv) (eT5 (List.mem_append_right _ hd))
    ·exact nit p (eT5 (List.mem_append_right _ hp))
 case done=>
  rintro nw h tk rv ⟨its,kr,σ,rest',rfl,WD,hmap,hits,hσ⟩ F N
  clear N₉ F₇ hal nI
  show wpAny _ _ _ _ _ _
  revert XB TB hB hroom hp1 hp2 hp3 hN S hBf ho hk hv hos hvs hks hpost hg KX TX hBG KB TT HF hn5 o1 o2 o3 hmR hf8 N₂ hstp JJ hat1 hat2 hord disA hext lE disE hit hos5 hlt hkp ord' lkL kne kdis eE loL lvL lmg WD hmap hits hσ F N
  exact hP kp h tk rv its kr σ rest'
noncomputable abbrev Rf_dq:=U fun a b=>T2 (T6 Rf_b.1 a) b
noncomputable def Rf_d:=eps Rf_dq ⟨inferInstance⟩
noncomputable def Rf_.kp:=Rf_d.1.1
noncomputable def Rf_.h:=Rf_d.1.2.1
noncomputable def Rf_.tk:=Rf_d.1.2.2.1
noncomputable def Rf_.rv:=Rf_d.1.2.2.2.1
noncomputable def Rf_.its:=Rf_d.1.2.2.2.2.1
noncomputable def Rf_.kr:=Rf_d.1.2.2.2.2.2
noncomputable def Rf_.σ:=Rf_d.2.1
noncomputable def Rf_.rest':=Rf_d.2.2
open Z0u in
open Ra_ hiding h tk in
open Re_ hiding tk in
open Rf_ in
noncomputable def Rh_b:PSigma fun P:(Tq)→(List Mg)→(Rest)→(List Addr)→(Value→Sm)→Prop=>(∀ q' ml head Λ mE,P q' ml head Λ mE)→Rf_b.1 Rf_.kp Rf_.h Rf_.tk Rf_.rv Rf_.its Rf_.kr Rf_.σ Rf_.rest':=by
 apply PSigma.mk
 case snd=>
 intro hP
 intro XB TB hB hroom hp1 hp2 hp3 hN S hBf ho hk hv hos hvs hks hpost hg KX TX hBG KB TT HF hn5 o1 o2 o3 hmR hf8 N₂ hstp JJ hat1 hat2 hord disA hext lE disE hit hos5 hlt hkp ord' lkL kne kdis eE loL lvL lmg WD hmap hits hσ F N
 unfold Ord at hord
 obtain ⟨q',hq'⟩:∃ q':Tq,q'={ q with kr:=kr }:=⟨_,rfl⟩
 have eO:q.O=q'.O:=by rw [hq']
 have eX:q.X=q'.X:=by rw [hq']
 have hord':Ord q' vt:=by rw [hq']; exact hord
 have disA':∀ a∈cmA q' vt,a∉rest'.map (·.1):=by rw [hq',hmap]; exact disA
 have hos5:osl.length=ks.length:=by rw [hos.length_eq,List.length_range]
 obtain ⟨ml,hml⟩:∃ ml:List Mg,ml=osl.filterMap fun k=>μs₄[k]?:=⟨_,rfl⟩
 have hits':its.toList=ml.map fun μ=>.ref μ.M:=by
  rw [hits,List.take_of_length_le (by rw [ho.len,List.length_map]; exact Nat.le_refl _),hml]
 obtain ⟨head,hhd⟩:∃ head:Rest,head=[(mgs,listOf mi c),(464,tabObj ps3),(oL,listOf oi n1),(kL,listOf ki n2),(vL,listOf vi n3)]:=⟨_,rfl⟩
 have lkL:@LT.lt Nat _ kL q.dO:=lE (kL,listOf ki n2) (by rw [hext]; k_mem)
 have hdh:∀ p∈head,p.1∉rest'.map (·.1):=by
  rw [hhd,hmap]
  exact nms_cons lmg.2 (nms_cons (kdis (464,tabObj ps3) (by rw [hkp]; k_mem)) (nms_cons loL.2 (nms_cons (kdis (kL,listOf ki n2) (by rw [hkp]; k_mem)) (nms_cons lvL.2 nms_nil))))
 have NN:Box (News g L' h (head++cmN q' (Str.ofString "Active") tst its vt #[] 0 .none ps1 ps2 rest')):=by
  refine ⟨?_⟩
  rw [hkp] at N
  rw [hhd,hq']
  dsimp only [List.cons_append,List.nil_append] at N ⊢
  repeat' (first|(refine nms_cons (N _ (by k_mem)) ?_)|exact fun p hp=>N p (eT8 (eT8 (eT4 hp))))
 clear N
 rw [eX,eO] at F
 have Nh:∀ p∈head,p∈head++cmN q' (Str.ofString "Active") tst its vt #[] 0 .none ps1 ps2 rest':=fun p hp=>List.mem_append_left _ hp
 have hlow:∀ p∈head,@LT.lt Nat _ p.1 q.dO∧@Ne Nat p.1 299∧@Ne Nat p.1 422:=by
  have a1:@LT.lt Nat _ 464 q.dO:=hord.1
  have nt:∀ {a:Addr} {it:Array Value} {k:Nat},(a,listOf it k)∈head→@Ne Nat a 299∧@Ne Nat a 422:=fun hp=>
   ⟨news_ne NN.out (Nh _ hp) (List.mem_append_right _ eM4) ne_tab_list,news_ne NN.out (Nh _ hp) (List.mem_append_right _ eM8) ne_tab_list⟩
  have n1:=nt (a:=mgs) (by rw [hhd]; exact .head _)
  have n2:=nt (a:=oL) (by rw [hhd]; exact eM2)
  have n3:=nt (a:=kL) (by rw [hhd]; exact eM3)
  have n4:=nt (a:=vL) (by rw [hhd]; exact eM4)
  rw [hhd]
  exact nms_cons ⟨lmg.1,n1⟩ (nms_cons ⟨a1,(show @Ne Nat 464 299 by decide),(show @Ne Nat 464 422 by decide)⟩ (nms_cons ⟨loL.1,n2⟩ (nms_cons ⟨lkL,n3⟩ (nms_cons ⟨lvL.1,n4⟩ nms_nil))))
 obtain ⟨Λ,hΛ⟩:∃ Λ:List Addr,Λ=(cmN q' (Str.ofString "Active") tst its vt #[] 0 .none ps1 ps2 rest').map (·.1):=⟨_,rfl⟩
 have hnΛ:∀ p∈head,p.1∉Λ:=by
  intro p hp hm
  have lw:=hlow p hp
  rw [hΛ] at hm
  have lq:@LT.lt Nat _ p.1 q'.dO:=by rw [hq']; exact lw.1
  simp only [List.map_cons,List.mem_cons] at hm
  rcases hm with e|e|e|e|e|e|e|e|e|e|e|e|e|e|e|hm
  all_goals first
   | exact absurd (show @Eq Nat _ _ from e) lw.2.1
   | exact absurd (show @Eq Nat _ _ from e) lw.2.2
   | exact absurd (show @Eq Nat _ _ from e) (Nat.ne_of_lt (Nat.lt_of_lt_of_le lq (Ord.ge hord' _ (by k_mem))))
   | exact hdh p hp hm
 have SS:∀ {h:Heap} {m:Sm} {nw:Rest} {Λ':List Addr},Fr g L' h m→News g L' h nw→(∀ a∈Λ',∃ p∈nw,p.1=a)→Stk (enR L'::outer) h Λ':=fun F N hΛ=>(stk_of KB.out).push (env:=enR L') (Λ:=[]) rfl F N rfl rfl hΛ
 have inΛ:∀ a∈Λ,∃ p∈head++cmN q' (Str.ofString "Active") tst its vt #[] 0 .none ps1 ps2 rest',p.1=a:=fun a ha=>by
  obtain ⟨p,hp,rfl⟩:=List.mem_map.mp (hΛ ▸ ha)
  exact ⟨p,List.mem_append_right _ hp,rfl⟩
 obtain ⟨mE,hmE⟩:∃ mE:Value→Sm,mE=fun er=>mEr rv (.ref q'.X) er (.str stp ts) (mW rkv rn (frR (.ref oL) (.ref kL) (.ref vL) (.int seed td) (.ref lg) (.ref mgs) (.ref q'.O))):=⟨_,rfl⟩
 refine wpAny_execs_cons ?_
 refine wpAny_mono (Q:=fun fl s₁=>TryEnd w outer g L' mE q' its head lg μs₄ ml σ s fl s₁) ?stry (fun fl s₃ q=>?safter) fun _ _ e=>e
 case stry=>
  refine try_with (fun e s₁=>Opq (CmNo w (enR L'::outer) h Λ q' its lg μs₄ ml σ s e s₁)) ?hand ?body
  case body=>
   have N':News g L' h [(q'.O,instObj 758 q'.dO),(q'.dO,owD q' (.ref q'.X))]:=nms_cons (NN.out _ (List.mem_append_right _ (by k_mem))) (nms_cons (NN.out _ (List.mem_append_right _ (by k_mem))) nms_nil)
   k_steps
   have hlen:ml.length=ks.length:=by
    rw [hml,←hos5]
    exact filterMap_len μs₄ osl fun a ha=>by rw [JJ.len]; exact List.mem_range.mp (hos.mem_iff.mp ha)
   refine wpAny_call (commit710 (B:=B) (q:=q') (ts:=tst) (items:=its) (vt:=vt) (kv:=0) (ps1:=ps1) (ps2:=ps2) (rest:=rest') (σ:=σ) (rows:=[]) (lg:=lg) (μs:=μs₄) (ml:=ml) (stp:=stp) (kdp:=1+(seed.fdiv 40).fmod 2) (at_:=at0) XB TB (fun b o e=>F.keep b o (hBG b o e)) (by rw [depth_deeper]; exact room2 hroom rfl) hp1 hp2
    (fun p hp=>(NN.out p (List.mem_append_right _ hp)).1) (fun p hp=>fresh_of_stays hBG (NN.out p (List.mem_append_right _ hp)).2.2) disA' hord' WD hits' ?mem rfl (Around.frames_deeper rfl) (SS F NN.out fun a ha=>inΛ a (hΛ ▸ ha)) HF JJ.plan (by decide) ?nd (by rw [hlen]; exact hks) ?ok ?no)
   case mem=>exact fun μ hμ=>pick_mem (hml ▸ hμ)
   case nd=>exact hml ▸ pick_nodup JJ.nodup (hos.nodup_iff.mpr List.nodup_range)
   case no=>
    intro h' tk' rest₅ σ' rows' kd Cx ea voted vt' vits' kv' ts' tf ps1' ps2' tp cl t1 t2 nv wd th dis
    exact Opq.mk (CmNo.mk h' tk' rest₅ σ' rows' kd Cx ea voted vt' vits' kv' ts' tf ps1' ps2' rfl rfl tp cl t1 t2 wd (hΛ ▸ th) dis)
   case ok=>
    intro h' tk' rest₅ σ' rows' voted ps1' ps2' tp wd t1 t2 D
    k_steps
    rw [←hΛ] at D
    obtain ⟨F₅,mk₅⟩:=after_done F NN.out D inΛ
    refine TryEnd.mk h' _ g (Str.ofString "none") tk₅ [(299,tabObj ps1'),(422,tabObj ps2')] rest₅ σ' rows' ps1' ps2' rfl rfl KtsTurn.refl (hmE ▸ F₅) (mk₅ _ fun p hp=>?_) wd (fun p hp=>?_) t1 t2 (.head _) eM1 (.inl ⟨rfl,voted,tp⟩)
    ·rcases List.mem_append.mp hp with hp|hp
     ·exact .inr ⟨Nh p hp,hnΛ p hp⟩
     ·exact .inl hp
    ·rcases List.mem_append.mp hp with hp|hp
     ·exact dis_all NN.out D (a:=p.1) (o:=p.2) (Nh p hp) (hnΛ p hp)
     ·exact D.dis p hp
  case hand=>
   rintro e s₁ hO
   cases hO.out with
   | mk h' tk' rest₅ σ' rows' kd Cx ea voted vt' vits' kv' ts' tf ps1' ps2' e1 e2 tp cl t1 t2 wd th dis=>
    subst e1 e2
    have hdh':∀ p∈head,p.1∉rest₅.map (·.1):=fun p hp=>thrown_dis (n8:=cmN q' (Str.ofString "Commit failed") ts' its vt' vits' kv' (.str "failed" tf) ps1' ps2' []) th (NN.out p (Nh p hp)).1 (hnΛ p hp)
    refine note_held (A₀:=⟨none,dp,some outer,gd,un⟩) (B:=B) (nw:=head++cmN q' (Str.ofString "Active") tst its vt #[] 0 .none ps1 ps2 rest') (l:=head++cmN q' (Str.ofString "Commit failed") ts' its vt' vits' kv' (.str "failed" tf) ps1' ps2' rest₅) (Around.frames_deeper rfl) rfl KB.out th F NN.out (fun a ha=>?_) (fun p hp=>?_) fun h₇ H=>?_
    ·obtain ⟨p,hp,rfl⟩:=inΛ a ha
     exact (NN.out p hp).2.2
    ·rcases List.mem_append.mp hp with hp|hp
     ·exact .inr ⟨Nh p hp,hnΛ p hp⟩
     ·exact .inl hp
    refine catch_two (kd:=kd) (A₀:=⟨none,dp,some outer,gd,un⟩) (B:=B) cl rfl KB.out hBf XB TB F.above (fun KX' TX' F' q=>?hname1) (fun KX' TX' F' q=>?hname2) H ?_
    case hname1=>
     k_steps
     exact q
    case hname2=>
     k_steps
     exact q
    intro h₈ g₈ TT₈ KB₈ KX₈ TX₈ F₈ N₈
    clear F H
    have fin:∀ (tk₉:Tok) (te:Tok) (h₉:Heap),Fr g₈ L' h₉ (fun y=>if y=Str.ofString "error" then some (.str (errOf kd) te) else mEr rv (.ref q'.X) (.str (Str.ofString "none") tk₅) (.str stp ts) (mW rkv rn (frR (.ref oL) (.ref kL) (.ref vL) (.int seed td) (.ref lg) (.ref mgs) (.ref q'.O))) y) →
      News g₈ L' h₉ (head++cmN q' (Str.ofString "Commit failed") ts' its vt' vits' kv' (.str "failed" tf) ps1' ps2' rest₅)→TryEnd w outer g L' mE q' its head lg μs₄ ml σ s .next { s with heap:=h₉,toks:=tk₉ }:=fun tk₉ te h₉ F₉ N₉=>by
     refine TryEnd.mk h₉ tk₉ g₈ (errOf kd) te (cmN q' (Str.ofString "Commit failed") ts' its vt' vits' kv' (.str "failed" tf) ps1' ps2' []) rest₅ _ _ ps1' ps2' rfl rfl TT₈ (fr_same F₉ fun y=>?_) N₉ wd (fun p hp=>?_) t1 t2 (by k_mem) (by k_mem)
      (.inr ⟨kd,σ',rows',voted,vt',vits',kv',ts',tf,rfl,by rcases cl with h|h; exact .inl h.1; exact .inr h.1,tp,rfl,rfl,rfl⟩)
     ·rw [hmE]
      exact mEr_set y
     ·rcases List.mem_append.mp hp with hp|hp
      ·exact hdh' p hp
      ·exact dis p.1 (List.mem_map_of_mem (f:=(·.1)) hp)
    constructor
    ·intro hk1
     k_steps
     rename Fr _ _ _ _=>F₉
     rename News _ _ _ _=>N₉
     have e:Str.ofString "refusal" = errOf kd:=by rw [hk1]; rfl
     rw [e] at F₉
     exact fin _ _ _ F₉ N₉
    ·intro hk2
     k_steps
     rename Fr _ _ _ _=>F₉
     rename News _ _ _ _=>N₉
     have e:Str.ofString "passing" = errOf kd:=by rw [hk2]; rfl
     rw [e] at F₉
     exact fin _ _ _ F₉ N₉
 case safter=>
  revert XB TB hB hroom hp1 hp2 hp3 hN S hBf ho hk hv hos hvs hks hpost hg KX TX hBG KB TT HF hn5 o1 o2 o3 hmR hf8 N₂ hstp JJ hat1 hat2 hord disA hext lE disE hit hlt hkp ord' kne kdis eE loL lvL lmg WD hmap hits hσ F hq' eO eX hord' disA' hos5 hml hits' hhd lkL hdh NN Nh hlow hΛ hnΛ SS inΛ hmE fl s₃ q
  exact hP q' ml head Λ mE
noncomputable abbrev Rh_dq:=T5 Rh_b.1
noncomputable def Rh_d:=eps Rh_dq ⟨inferInstance⟩
noncomputable def Rh_.q':=Rh_d.1
noncomputable def Rh_.ml:=Rh_d.2.1
noncomputable def Rh_.head:=Rh_d.2.2.1
noncomputable def Rh_.Λ:=Rh_d.2.2.2.1
noncomputable def Rh_.mE:=Rh_d.2.2.2.2
section
local macro_rules | `(tactic| walk_at "eval ListComp") => `(tactic| refine Opq.out ?_)
local macro_rules | `(tactic| walk_at "exec Assign cons ListComp") => `(tactic| refine Opq.out ?_)
section
local macro_rules | `(tactic| walk_at "exec If Compare cons nil") => `(tactic| refine Opq.out ?_)
open Z0u in
open Ra_ hiding h tk in
open Re_ hiding tk in
open Rf_ in
open Rh_ in
noncomputable def Ri_b:PSigma fun P:(Heap)→(Tok)→(Heap)→(Str)→(Tok)→(Rest)→(Rest)→(Addr→Ms)→(List (Str×Str))→(Array Value)→(Array Value)→(Array Value)→(Nat)→(Rest)→(Addr)→(Nat)→(Heap)→(Addr)→(Nat)→(Array Value)→(List (Addr×Obj))→(Heap)→(Nat)→(Heap)→(Nat)→(Rest)→Prop=>(∀ h₃ tk₃ g₃ er te tlx rest₃ σ₃ rows₃ ps₁ ps₂ litems lk kpt D c₅ h₄ D₆ n₆ ys₆ own₆ h₆ tk₆ h₇ tk keep,P h₃ tk₃ g₃ er te tlx rest₃ σ₃ rows₃ ps₁ ps₂ litems lk kpt D c₅ h₄ D₆ n₆ ys₆ own₆ h₆ tk₆ h₇ tk keep)→Rh_b.1 Rh_.q' Rh_.ml Rh_.head Rh_.Λ Rh_.mE:=by
 apply PSigma.mk
 case snd=>
 intro hP
 intro XB TB hB hroom hp1 hp2 hp3 hN S hBf ho hk hv hos hvs hks hpost hg KX TX hBG KB TT HF hn5 o1 o2 o3 hmR hf8 N₂ hstp JJ hat1 hat2 hord disA hext lE disE hit hlt hkp ord' kne kdis eE loL lvL lmg WD hmap hits hσ F hq' eO eX hord' disA' hos5 hml hits' hhd lkL hdh NN Nh hlow hΛ hnΛ SS inΛ hmE fl s₃ q
 rename TryEnd _ _ _ _ _ _ _ _ _ _ _ _ _ _ _=>TE
 cases TE with
 | mk h₃ tk₃ g₃ er te tlx rest₃ σ₃ rows₃ ps₁ ps₂ e1 e2 tt F₃ N₃ WD₃ dis₃ t1 t2 m1 m2 out=>
  subst e1 e2
  have KB₃:=Box.mk (below_turn KB.out hBf tt)
  have hBG₃:=KB₃.out.stays
  have KX₃:(hd.heap_1 w.params).In g₃:=XB.keeps hBG₃
  have TT₃:=Box.mk (TB.keeps hBG₃)
  have TX₃:=topRead_of TT₃.out
  have HF₃:=bf_push (env:=enR L') hBG₃ rfl F₃ hBf
  clear KX TX HF TT F
  clear hBG
  have NN₃:=Box.mk N₃
  obtain ⟨litems,lk,hlg,hrows⟩:=WD₃.log
  have N₄:News g₃ L' h₃ [(lg,listOf litems lk),(mgs,listOf mi c)]:=nms_cons (N₃ _ (List.mem_append_right _ (List.mem_append_right _ hlg))) (nms_cons (N₃ _ (List.mem_append_left _ (by rw [hhd]; exact .head _))) nms_nil)
  clear N₃
  rw [hmE] at F₃
  show wpAny _ _ _ _ _ _
  k_steps
  have hlen:ml.length=ks.length:=by
   rw [hml,←hos5]
   exact filterMap_len μs₄ osl fun a ha=>by rw [JJ.len]; exact List.mem_range.mp (hos.mem_iff.mp ha)
  have hlen5:ml.length ≤ 5:=by rw [hlen]; exact le25 hks
  have hrl:rows₃.length ≤ 30:=by
   have e0:(sortMg ml).length=ml.length:=sortMg_len (by rw [hlen]; exact hks)
   have e1:(sortMg ml).length ≤ 5:=e0 ▸ hlen5
   rcases out with ⟨-,voted,tp⟩|⟨kd,σ₀,rows₀,voted,vt',vits,kv,ts',tf,-,-,tp,-,e,-⟩
   ·have:=tryPart_len tp
    exact lin1 this e1
   ·have h1:=tryPart_len tp
    have h2:=cleanSt_len (sortMg ml) voted (σ₀,rows₀)
    rw [e]
    exact lin2 h1 h2 e1
  have hl3:litems.size<100:=by
   have:=RowsAt.len hrows
   rw [Array.length_toList] at this
   rw [this]; exact Nat.lt_of_le_of_lt hrl (by decide)
  obtain ⟨kpt,hkpt,hrk⟩:=rows_kept hrows
  have WK:Wd kpt w lg μs₄ σ₃ rows₃ rest₃:=⟨WD₃.nd,WD₃.log,WD₃.mg,WD₃.ndM,WD₃.ndd,WD₃.ndp,hkpt⟩
  have hmz:mi.size<100:=by
   have h1:=congrArg List.length JJ.mi
   rw [List.length_map,Array.length_toList,JJ.len] at h1
   rw [h1]; exact Nat.lt_of_le_of_lt (le25 hks) (by decide)
  refine list_copyK F₃ NN₃.out ⟨_,(N₄ _ (.head _)).1,rfl,_,rfl⟩ (fun D c₅ h₄ F₄ N₅ l₅=>?_) (by rw [sizeLine_eq]; omega)
  clear N₄ F₃
  k_steps
  refine Opq.mk (shown_comp KX₃ TX₃ rfl (by rw [depth_deeper]; exact room2 hroom rfl) F₄ N₅ rfl (.tail _ (List.mem_append_left _ (by rw [hhd]; exact .head _))) JJ.mi hmz WD₃ (fun p hp=>.tail _ (List.mem_append_right _ (List.mem_append_right _ hp))) fun D₆ n₆ ys₆ own₆ h₆ tk₆ F₆ N₆ hP₆ nw₆ nD₆=>?_)
  have ne₆:∀ q∈(D₆,listOf ys₆ n₆)::own₆,∀ p∈(D,listOf litems c₅)::(head++(tlx++rest₃)),q.1≠p.1:=fun q hq p hp e=>by
   have h1:=nw₆ q hq
   have h2:=(N₅ p hp).1
   dsimp only at h1
   rw [e,h2] at h1; cases h1
  clear N₅ F₄ nw₆
  k_steps
  rename Fr _ _ _ _=>F₇
  rename News _ _ _ _=>N₇
  rename Heap=>h₇
  have NN₇:=Box.mk (news_tl N₇)
  clear N₇
  obtain ⟨keep,hkeep⟩:∃ keep:Rest,keep=(D₆,listOf ys₆ n₆)::(own₆++[(D,listOf litems c₅),(mgs,listOf mi c),(oL,listOf oi n1),(kL,listOf ki n2),(vL,listOf vi n3),(299,tabObj ps₁),(422,tabObj ps₂)]):=⟨_,rfl⟩
  have inK:∀ p∈keep,p∈(D₆,listOf ys₆ n₆)::(own₆++(D,listOf litems c₅)::(head++(tlx++rest₃))):=by
   have hh:∀ {p:Addr×Obj},p∈head→p∈(D₆,listOf ys₆ n₆)::(own₆++(D,listOf litems c₅)::(head++(tlx++rest₃))):=fun hp=>.tail _ (List.mem_append_right _ (.tail _ (List.mem_append_left _ hp)))
   have ht:∀ {p:Addr×Obj},p∈tlx→p∈(D₆,listOf ys₆ n₆)::(own₆++(D,listOf litems c₅)::(head++(tlx++rest₃))):=fun hp=>.tail _ (List.mem_append_right _ (.tail _ (List.mem_append_right _ (List.mem_append_left _ hp))))
   rw [hkeep]
   refine nms_cons (.head _) fun p hp=>?_
   rcases List.mem_append.mp hp with hp|hp
   ·exact .tail _ (List.mem_append_left _ hp)
   exact nms_cons (P:=fun p=>p∈(D₆,listOf ys₆ n₆)::(own₆++(D,listOf litems c₅)::(head++(tlx++rest₃)))) (.tail _ (List.mem_append_right _ (.head _))) (nms_cons (hh (p:=(mgs,listOf mi c)) (by rw [hhd]; k_mem)) (nms_cons (hh (p:=(oL,listOf oi n1)) (by rw [hhd]; k_mem)) (nms_cons (hh (p:=(kL,listOf ki n2)) (by rw [hhd]; k_mem)) (nms_cons (hh (p:=(vL,listOf vi n3)) (by rw [hhd]; k_mem)) (nms_cons (ht m1) (nms_cons (ht m2) nms_nil)))))) p hp
  have in464:(464,tabObj ps3)∈(D₆,listOf ys₆ n₆)::(own₆++(D,listOf litems c₅)::(head++(tlx++rest₃))):=.tail _ (List.mem_append_right _ (.tail _ (List.mem_append_left _ (by rw [hhd]; k_mem))))
  have inR:∀ p∈rest₃,p∈(D₆,listOf ys₆ n₆)::(own₆++(D,listOf litems c₅)::(head++(tlx++rest₃))):=fun p hp=>.tail _ (List.mem_append_right _ (.tail _ (List.mem_append_right _ (List.mem_append_right _ hp))))
  have disK:∀ p∈keep++[(464,tabObj ps3)],p.1∉rest₃.map (·.1):=by
   have nr:∀ {q:Addr×Obj},q∈(D₆,listOf ys₆ n₆)::own₆→q.1∉rest₃.map (·.1):=fun {q} hq hm=>by
    obtain ⟨p,hp,e⟩:=List.mem_map.mp hm
    exact ne₆ q hq p (.tail _ (List.mem_append_right _ (List.mem_append_right _ hp))) e.symm
   have nD:D∉rest₃.map (·.1):=fun hm=>by
    obtain ⟨p,hp,e⟩:=List.mem_map.mp hm
    have:@LT.lt Nat _ p.1 D:=l₅ p (List.mem_append_right _ (List.mem_append_right _ hp))
    rw [e] at this
    exact Nat.lt_irrefl _ this
   have dh:∀ {p:Addr×Obj},p∈head→p.1∉rest₃.map (·.1):=fun hp=>dis₃ _ (List.mem_append_left _ hp)
   have dt:∀ {p:Addr×Obj},p∈tlx→p.1∉rest₃.map (·.1):=fun hp=>dis₃ _ (List.mem_append_right _ hp)
   rw [hkeep]
   refine nms_cons (nr (.head _)) fun p hp=>?_
   rcases List.mem_append.mp hp with hp|hp
   ·rcases List.mem_append.mp hp with hp|hp
    ·exact nr (.tail _ hp)
    exact nms_cons (P:=fun p=>p.1∉rest₃.map (·.1)) (a:=(D,listOf litems c₅)) nD (nms_cons (dh (p:=(mgs,listOf mi c)) (by rw [hhd]; k_mem)) (nms_cons (dh (p:=(oL,listOf oi n1)) (by rw [hhd]; k_mem)) (nms_cons (dh (p:=(kL,listOf ki n2)) (by rw [hhd]; k_mem)) (nms_cons (dh (p:=(vL,listOf vi n3)) (by rw [hhd]; k_mem)) (nms_cons (dt (p:=(299,tabObj ps₁)) m1) (nms_cons (dt (p:=(422,tabObj ps₂)) m2) nms_nil)))))) p hp
   ·exact dh (by rw [hhd,List.mem_singleton.mp hp]; k_mem)
  replace F₇:Fr g₃ L' h₇ (mSh (.ref D) (.ref D₆) (mEr rv (.ref q'.X) (.str er te) (.str stp ts) (mW rkv rn (frR (.ref oL) (.ref kL) (.ref vL) (.int seed td) (.ref lg) (.ref mgs) (.ref q'.O))))):=F₇
  refine Opq.mk ?_
  refine wpAny_mono (Q:=fun fl s₁=>AbEnd w g₃ L' (mSh (.ref D) (.ref D₆) (mEr rv (.ref q'.X) (.str er te) (.str stp ts) (mW rkv rn (frR (.ref oL) (.ref kL) (.ref vL) (.int seed td) (.ref lg) (.ref mgs) (.ref q'.O))))) lg μs₄ keep kpt (abOut er ml (σ₃,rows₃)) s fl s₁) ?sif (fun fl s₃ q=>?safter) fun _ _ e=>e
  case sif=>
   refine wpAny_If ?_
   rcases out with ⟨rfl,voted,tp⟩|⟨kd,σ₀,rows₀,voted,vt',vits,kv,ts',tf,eer,hkd,tp,eσ,er₃,etl⟩
   ·k_steps
    refine AbEnd.mk h₇ _ rest₃ ps3 rfl rfl F₇ (fun p hp=>?_) hp3 WK disK
    rcases List.mem_append.mp hp with hp|hp
    ·exact NN₇.out p (inK p hp)
    rcases List.mem_cons.mp hp with rfl|hp
    ·exact NN₇.out _ in464
    ·exact NN₇.out p (inR p hp)
   ·have hne:er≠Str.ofString "none" := by
     rw [eer]
     rcases hkd with rfl|rfl<;>decide
    have hne':(er != Str.ofString "none")=true:=bne_iff_ne.mpr hne
    have N₈:News g₃ L' h₇ [(q'.O,instObj 758 q'.dO),(q'.dO,owD q' (.ref q'.X))]:=by
     have ht:∀ {p:Addr×Obj},p∈tlx→p∈(D₆,listOf ys₆ n₆)::(own₆++(D,listOf litems c₅)::(head++(tlx++rest₃))):=fun hp=>.tail _ (List.mem_append_right _ (.tail _ (List.mem_append_right _ (List.mem_append_left _ hp))))
     exact nms_cons (NN₇.out _ (ht (by rw [etl]; k_mem))) (nms_cons (NN₇.out _ (ht (by rw [etl]; k_mem))) nms_nil)
    obtain ⟨Λ₇,hΛ₇⟩:∃ Λ:List Addr,Λ=(abN q' (Str.ofString "Commit failed") ts' its vt' (.str (Str.ofString "failed") tf) ps3 rest₃).map (·.1):=⟨_,rfl⟩
    have inA:∀ p∈abN q' (Str.ofString "Commit failed") ts' its vt' (.str (Str.ofString "failed") tf) ps3 rest₃,p∈head++(tlx++rest₃):=by
     have ht:∀ {p:Addr×Obj},p∈tlx→p∈head++(tlx++rest₃):=fun hp=>List.mem_append_right _ (List.mem_append_left _ hp)
     rw [etl] at ht ⊢
     exact nms_cons (ht (by k_mem)) (nms_cons (ht (by k_mem)) (nms_cons (ht (by k_mem)) (nms_cons (ht (by k_mem)) (nms_cons (List.mem_append_left _ (by rw [hhd]; k_mem)) (nms_cons (ht (by k_mem)) (nms_cons (ht (by k_mem)) (nms_cons (ht (by k_mem)) (nms_cons (ht (by k_mem))
      (nms_cons (ht (by k_mem)) (nms_cons (ht (by k_mem)) (nms_cons (ht (by k_mem)) (nms_cons (ht (by k_mem)) fun p hp=>List.mem_append_right _ (List.mem_append_right _ hp)))))))))))))
    have inF:∀ {p:Addr×Obj},p∈head++(tlx++rest₃)→p∈(D₆,listOf ys₆ n₆)::(own₆++(D,listOf litems c₅)::(head++(tlx++rest₃))):=fun hp=>.tail _ (List.mem_append_right _ (.tail _ hp))
    have inΛ₇:∀ a∈Λ₇,∃ p∈head++(tlx++rest₃),p.1=a:=fun a ha=>by
     obtain ⟨p,hp,rfl⟩:=List.mem_map.mp (hΛ₇ ▸ ha)
     exact ⟨p,inA p hp,rfl⟩
    have nL:∀ {a:Addr},@LT.lt Nat _ a q'.dO→@Ne Nat a 464→a∉rest₃.map (·.1)→a∉Λ₇:=fun {a} h1 h2 h3 hm=>by
     rw [hΛ₇] at hm
     rcases List.mem_append.mp (show a∈abA q'++rest₃.map (·.1) from hm) with hm|hm
     ·refine ns_cons (P:=fun b=>@Ne Nat a b) ?_ (ns_cons ?_ (ns_cons ?_ (ns_cons ?_ (ns_cons ?_ (ns_cons ?_ (ns_cons ?_ (ns_cons ?_ (ns_cons ?_ (ns_cons ?_ (ns_cons ?_ (ns_cons ?_ (ns_cons ?_ ns_nil)))))))))))) a hm rfl
      all_goals first|assumption|exact Nat.ne_of_lt (Nat.lt_of_lt_of_le h1 (Ord.ge hord' _ (by k_mem)))
     ·exact h3 hm
    have e0:@Eq Nat q.dO q'.dO:=by rw [hq']
    have nKΛ:∀ p∈keep,p.1∉Λ₇:=by
     have nr:∀ {p:Addr×Obj},p∈(D₆,listOf ys₆ n₆)::own₆→p.1∉Λ₇:=fun {p} hp hm=>by
      obtain ⟨r,hr,e⟩:=inΛ₇ _ hm
      exact ne₆ p hp r (.tail _ hr) e.symm
     have nD:D∉Λ₇:=fun hm=>by
      obtain ⟨r,hr,e⟩:=inΛ₇ _ hm
      have:@LT.lt Nat _ r.1 D:=l₅ r hr
      rw [e] at this
      exact Nat.lt_irrefl _ this
     have nt:∀ {a:Addr} {it:Array Value} {k:Nat},(a,listOf it k)∈head→a∉Λ₇:=fun {a it k} hp=>
      nL (e0 ▸ (hlow _ hp).1) (news_ne NN₇.out (inF (List.mem_append_left _ hp)) in464 ne_tab_list) (dis₃ (a,listOf it k) (List.mem_append_left _ hp))
     have l464:@LT.lt Nat _ 464 q'.dO:=e0 ▸ hord.1
     rw [hkeep]
     refine nms_cons (nr (.head _)) fun p hp=>?_
     rcases List.mem_append.mp hp with hp|hp
     ·exact nr (.tail _ hp)
     exact nms_cons (P:=fun p=>p.1∉Λ₇) (a:=(D,listOf litems c₅)) nD (nms_cons (nt (a:=mgs) (by rw [hhd]; k_mem)) (nms_cons (nt (a:=oL) (by rw [hhd]; k_mem)) (nms_cons (nt (a:=kL) (by rw [hhd]; k_mem)) (nms_cons (nt (a:=vL) (by rw [hhd]; k_mem))
      (nms_cons (nL (a:=299) (Nat.lt_trans (show @LT.lt Nat _ 299 464 by decide) l464) (show @Ne Nat 299 464 by decide) (dis₃ _ (List.mem_append_right _ m1))) (nms_cons (nL (a:=422) (Nat.lt_trans (show @LT.lt Nat _ 422 464 by decide) l464) (show @Ne Nat 422 464 by decide) (dis₃ _ (List.mem_append_right _ m2))) nms_nil)))))) p hp
    have SS₃:∀ {h:Heap} {m:Sm} {nw:Rest} {Λ':List Addr},Fr g₃ L' h m→News g₃ L' h nw→(∀ a∈Λ',∃ p∈nw,p.1=a)→Stk (enR L'::outer) h Λ':=fun F N hΛ=>(stk_of KB₃.out).push (env:=enR L') (Λ:=[]) rfl F N rfl rfl hΛ
    have daA:∀ a∈abA q',a∉rest₃.map (·.1):=by
     have dt:∀ a∈cmA q' vt',a∉rest₃.map (·.1):=fun a ha=>by
      have e:tlx.map (·.1)=cmA q' vt':=by
       rw [etl]
       rfl
      obtain ⟨p,hp,rfl⟩:=List.mem_map.mp (e ▸ ha)
      exact dis₃ p (List.mem_append_right _ hp)
     have d4:464∉rest₃.map (·.1):=dis₃ (464,tabObj ps3) (List.mem_append_left _ (by rw [hhd]; k_mem))
     exact ns_cons (dt _ (by k_mem)) (ns_cons (dt _ (by k_mem)) (ns_cons (dt _ (by k_mem)) (ns_cons (dt _ (by k_mem)) (ns_cons d4 (ns_cons (dt _ (by k_mem)) (ns_cons (dt _ (by k_mem)) (ns_cons (dt _ (by k_mem)) (ns_cons (dt _ (by k_mem)) (ns_cons (dt _ (by k_mem)) (ns_cons (dt _ (by k_mem)) (ns_cons (dt _ (by k_mem)) (ns_cons (dt _ (by k_mem)) ns_nil))))))))))))
    have hDs:∀ μ∈μs₄,PySem.Spec.lookup (.str (Str.ofString "abort")) μ.D=none:=by
     obtain ⟨n,hn,μ,hμ,hf⟩:=tryPart_some tp
     exact fun ν hν=>(JJ.plan.clean (ml:=ml) hn (pick_mem (hml ▸ mem_sortMg hμ)) hf ν hν).2.1
    k_steps
    refine wpAny_call (abort717 (B:=B) (q:=q') (st:=Str.ofString "Commit failed") (ts:=ts') (items:=its) (vt:=vt') (vt₀:=vt) (ftb:=.str (Str.ofString "failed") tf) (ps:=ps3) (rest:=rest₃) (σ:=σ₃) (rows:=rows₃) (lg:=lg) (μs:=μs₄) (ml:=ml) XB TB (fun b o e=>F₇.keep b o (hBG₃ b o e)) (by rw [depth_deeper]; exact room2 hroom rfl) hp3
     (fun p hp=>(NN₇.out p (inF (inA p hp))).1) (fun p hp=>fresh_of_stays hBG₃ (NN₇.out p (inF (inA p hp))).2.2) daA hord' WK hits' (fun μ hμ=>pick_mem (hml ▸ hμ)) rfl (Around.frames_deeper rfl) (SS₃ F₇ NN₇.out fun a ha=>?_) HF₃ hDs (by k_room) hlen5 fun h' tk' rest₉ ps' wd tps D₉=>?_)
    ·obtain ⟨p,hp,rfl⟩:=List.mem_map.mp ha
     exact ⟨p,inF (inA p hp),rfl⟩
    rw [←hΛ₇] at D₉
    obtain ⟨F₉,mk₉⟩:=after_done F₇ NN₇.out D₉ fun a ha=>by
     obtain ⟨p,hp,e⟩:=inΛ₇ a ha
     exact ⟨p,inF hp,e⟩
    k_steps
    have eo:abOut er ml (σ₃,rows₃)=ml.foldl (fun st μ=>effAb μ st) (σ₃,rows₃):=if_neg hne
    refine AbEnd.mk h' _ rest₉ ps' rfl rfl F₉ (mk₉ _ fun p hp=>?_) tps (eo ▸ wd) fun p hp=>?_
    ·rcases List.mem_append.mp hp with hp|hp
     ·exact .inr ⟨inK p hp,nKΛ p hp⟩
     ·exact .inl hp
    ·rcases List.mem_append.mp hp with hp|hp
     ·exact dis_all NN₇.out D₉ (a:=p.1) (o:=p.2) (inK p hp) (nKΛ p hp)
     ·exact D₉.dis p hp
  case safter=>
   revert XB TB hB hroom hp1 hp2 hp3 hN S hBf ho hk hv hos hvs hks hpost hg KB hn5 o1 o2 o3 hmR hf8 N₂ hstp JJ hat1 hat2 hord disA hext lE disE hit hlt hkp ord' kne kdis eE loL lvL lmg WD hmap hits hσ hq' eO eX hord' disA' hos5 hml hits' hhd lkL hdh NN Nh hlow hΛ hnΛ SS inΛ hmE tt WD₃ dis₃ t1 t2 m1 m2 out KB₃ hBG₃ KX₃ TT₃ TX₃ HF₃ NN₃ hlg hrows hlen hlen5 hrl hl3 hkpt hrk WK hmz l₅ hP₆ nD₆ ne₆ NN₇ hkeep inK in464 inR disK F₇ fl s₃ q
   exact hP h₃ tk₃ g₃ er te tlx rest₃ σ₃ rows₃ ps₁ ps₂ litems lk kpt D c₅ h₄ D₆ n₆ ys₆ own₆ h₆ tk₆ h₇ tk keep
noncomputable abbrev Ri_dq:=U fun a=>U fun b=>U fun c=>U fun d e=>T2 (T6 (T6 (T6 (T6 Ri_b.1 a) b) c) d) e
noncomputable def Ri_d:=eps Ri_dq ⟨inferInstance⟩
noncomputable def Ri_.h₃:=Ri_d.1.1
noncomputable def Ri_.tk₃:=Ri_d.1.2.1
noncomputable def Ri_.g₃:=Ri_d.1.2.2.1
noncomputable def Ri_.er:=Ri_d.1.2.2.2.1
noncomputable def Ri_.te:=Ri_d.1.2.2.2.2.1
noncomputable def Ri_.tlx:=Ri_d.1.2.2.2.2.2
noncomputable def Ri_.rest₃:=Ri_d.2.1.1
noncomputable def Ri_.σ₃:=Ri_d.2.1.2.1
noncomputable def Ri_.rows₃:=Ri_d.2.1.2.2.1
noncomputable def Ri_.ps₁:=Ri_d.2.1.2.2.2.1
noncomputable def Ri_.ps₂:=Ri_d.2.1.2.2.2.2.1
noncomputable def Ri_.litems:=Ri_d.2.1.2.2.2.2.2
noncomputable def Ri_.lk:=Ri_d.2.2.1.1
noncomputable def Ri_.kpt:=Ri_d.2.2.1.2.1
noncomputable def Ri_.D:=Ri_d.2.2.1.2.2.1
noncomputable def Ri_.c₅:=Ri_d.2.2.1.2.2.2.1
noncomputable def Ri_.h₄:=Ri_d.2.2.1.2.2.2.2.1
noncomputable def Ri_.D₆:=Ri_d.2.2.1.2.2.2.2.2
noncomputable def Ri_.n₆:=Ri_d.2.2.2.1.1
noncomputable def Ri_.ys₆:=Ri_d.2.2.2.1.2.1
noncomputable def Ri_.own₆:=Ri_d.2.2.2.1.2.2.1
noncomputable def Ri_.h₆:=Ri_d.2.2.2.1.2.2.2.1
noncomputable def Ri_.tk₆:=Ri_d.2.2.2.1.2.2.2.2.1
noncomputable def Ri_.h₇:=Ri_d.2.2.2.1.2.2.2.2.2
noncomputable def Ri_.tk:=Ri_d.2.2.2.2.1
noncomputable def Ri_.keep:=Ri_d.2.2.2.2.2
end
open Z0u in
open Ra_ hiding h tk in
open Re_ hiding tk h₄ in
open Rf_ hiding tk in
open Rh_ in
open Ri_ in
theorem Rj_m:Ri_b.1 Ri_.h₃ Ri_.tk₃ Ri_.g₃ Ri_.er Ri_.te Ri_.tlx Ri_.rest₃ Ri_.σ₃ Ri_.rows₃ Ri_.ps₁ Ri_.ps₂ Ri_.litems Ri_.lk Ri_.kpt Ri_.D Ri_.c₅ Ri_.h₄ Ri_.D₆ Ri_.n₆ Ri_.ys₆ Ri_.own₆ Ri_.h₆ Ri_.tk₆ Ri_.h₇ Ri_.tk Ri_.keep:=by
 intro XB TB hB hroom hp1 hp2 hp3 hN S hBf ho hk hv hos hvs hks hpost hg KB hn5 o1 o2 o3 hmR hf8 N₂ hstp JJ hat1 hat2 hord disA hext lE disE hit hlt hkp ord' kne kdis eE loL lvL lmg WD hmap hits hσ hq' eO eX hord' disA' hos5 hml hits' hhd lkL hdh NN Nh hlow hΛ hnΛ SS inΛ hmE tt WD₃ dis₃ t1 t2 m1 m2 out KB₃ hBG₃ KX₃ TT₃ TX₃ HF₃ NN₃ hlg hrows hlen hlen5 hrl hl3 hkpt hrk WK hmz l₅ hP₆ nD₆ ne₆ NN₇ hkeep inK in464 inR disK F₇ fl s₃ q
 rename AbEnd _ _ _ _ _ _ _ _ _ _ _ _=>AE
 cases AE with
 | mk h₉ tk₉ rest₉ ps₉ e1 e2 F₉ N₉ t9 wd₉ dis₉=>
  subst e1 e2
  show wpAny _ _ _ _ _ _
  k_steps
  have hKR:∀ p∈rest₉,p∈keep++(464,tabObj ps₉)::rest₉:=fun p hp=>List.mem_append_right _ (.tail _ hp)
  have hKmg:(mgs,listOf mi c)∈keep:=by
   rw [hkeep]
   exact .tail _ (List.mem_append_right _ eM1)
  have hKD:(D,listOf litems c₅)∈keep:=by
   rw [hkeep]
   exact .tail _ (List.mem_append_right _ (.head _))
  obtain ⟨litems₉,lk₉,hlg₉,hrows₉⟩:=wd₉.log
  refine Opq.mk (shown_assign KX₃ TX₃ rfl (by rw [depth_deeper]; exact room2 hroom rfl) F₉ N₉ rfl (List.mem_append_left _ hKmg) JJ.mi hmz wd₉ hKR (by with_unfolding_all rfl) rfl fun D₁ nn₁ ys₁ own₁ h₁₀ tk₁₀ F₁₀ N₁₀ hP₁₀ nw₁₀ nD₁₀=>?_)
  have ne₁₀:∀ q∈(D₁,listOf ys₁ nn₁)::own₁,∀ p∈keep++(464,tabObj ps₉)::rest₉,q.1≠p.1:=fun q hq p hp e=>by
   have h1:=nw₁₀ q hq
   have h2:=(N₉ p hp).1
   dsimp only at h1
   rw [e,h2] at h1; cases h1
  clear F₉ N₉
  k_steps
  refine Calls.call_len_list (News.isList N₁₀ (.tail _ (List.mem_append_right _ (List.mem_append_left _ hKD)))) (by k_room) ?_
  k_steps
  have hl9:litems₉.size<100:=by
   have h1:=RowsAt.len hrows₉
   rw [Array.length_toList] at h1
   have h2:(abOut er ml (σ₃,rows₃)).2.length ≤ rows₃.length+ml.length:=by
    unfold abOut
    split
    ·exact Nat.le_add_right _ _
    ·exact foldl_len (f:=fun st μ=>effAb μ st) (fun st a=>by unfold effAb; simp) ml (σ₃,rows₃)
   omega
  refine kms_slice_lit F₁₀ N₁₀ (News.isList N₁₀ (.tail _ (List.mem_append_right _ (List.mem_append_right _ (.tail _ hlg₉))))) (IsPart.int _ _) IsPart.none rfl (fun D₂ h₁₁ F₁₁ N₁₁ l₁₁=>?_) rfl (fun _=>rfl) (by rw [sizeLine_eq]; omega)
  k_steps
  rename Fr _ _ _ _=>F₁₂
  rename News _ _ _ _=>N₁₂
  rename Heap=>h₁₂
  rename Addr=>T'
  obtain ⟨tO,htO⟩:∃ tO:Obj,tO=({ cls:=.type "tuple",data:=.seq #[.ref D,.ref D₆,.str er te,.ref D₁,.ref D₂] }:Obj):=⟨_,rfl⟩
  obtain ⟨x4,hx4⟩:∃ x4:Array Value,x4=(kms_pick litems₉.toList (some (litems.size:Int)) none).toArray:=⟨_,rfl⟩
  have N₁₃:Box (News g₃ L' h₁₂ ((T',tO)::(D₂,listOf x4 0)::(D₁,listOf ys₁ nn₁)::(own₁++(keep++(464,tabObj ps₉)::rest₉)))):=⟨by rw [htO,hx4]; exact N₁₂⟩
  clear N₁₂
  obtain ⟨kp9,hkp9,hr9⟩:=rows_kept hrows₉
  have h6K:∀ p∈(D₆,listOf ys₆ n₆)::own₆,p∈keep:=by
   rw [hkeep]
   exact fun p hp=>(List.mem_cons.mp hp).elim (fun e=>e ▸ .head _) fun hp=>.tail _ (List.mem_append_left _ hp)
  have inNm:∀ a∈[299,422,464,oL,kL,vL],∃ p∈keep++[(464,tabObj ps₉)],p.1=a∧((∃ it k,p.2=listOf it k) ∨ ∃ ps,p.2=tabObj ps)∧∃ p'∈head++(tlx++rest₃),p'.1=a:=by
   have t7:∀ p∈[(D,listOf litems c₅),(mgs,listOf mi c),(oL,listOf oi n1),(kL,listOf ki n2),(vL,listOf vi n3),(299,tabObj ps₁),(422,tabObj ps₂)],p∈keep++[(464,tabObj ps₉)]:=fun p hp=>List.mem_append_left _ (by rw [hkeep]; exact .tail _ (List.mem_append_right _ hp))
   have hh:∀ {p:Addr×Obj},p∈head→p∈head++(tlx++rest₃):=fun h=>List.mem_append_left _ h
   have ht:∀ {p:Addr×Obj},p∈tlx→p∈head++(tlx++rest₃):=fun h=>List.mem_append_right _ (List.mem_append_left _ h)
   refine ns_cons ⟨_,t7 _ eM5,rfl,.inr ⟨_,rfl⟩,_,ht m1,rfl⟩ (ns_cons ⟨_,t7 _ eM6,rfl,.inr ⟨_,rfl⟩,_,ht m2,rfl⟩
    (ns_cons ⟨_,List.mem_append_right _ (.head _),rfl,.inr ⟨_,rfl⟩,(464,tabObj ps3),hh (by rw [hhd]; k_mem),rfl⟩ (ns_cons ⟨_,t7 _ eM2,rfl,.inl ⟨_,_,rfl⟩,(oL,listOf oi n1),hh (by rw [hhd]; k_mem),rfl⟩
    (ns_cons ⟨_,t7 _ eM3,rfl,.inl ⟨_,_,rfl⟩,(kL,listOf ki n2),hh (by rw [hhd]; k_mem),rfl⟩ (ns_cons ⟨_,t7 _ eM4,rfl,.inl ⟨_,_,rfl⟩,(vL,listOf vi n3),hh (by rw [hhd]; k_mem),rfl⟩ ns_nil)))))
  have kI:∀ {p:Addr×Obj},p∈keep++[(464,tabObj ps₉)]→p∈keep++(464,tabObj ps₉)::rest₉:=fun hp=>(List.mem_append.mp hp).elim (fun h=>List.mem_append_left _ h) fun h=>List.mem_append_right _ (List.mem_singleton.mp h ▸ .head _)
  have kF:∀ {p:Addr×Obj},p∈keep++(464,tabObj ps₉)::rest₉→p∈(T',tO)::(D₂,listOf x4 0)::(D₁,listOf ys₁ nn₁)::(own₁++(keep++(464,tabObj ps₉)::rest₉)):=fun hp=>eT3 (List.mem_append_right _ hp)
  have gn:∀ {a:Addr},g₃.get? a=none→g.get? a=none:=fun {a} e=>by
   cases q:g.get? a with
   | none=>rfl
   | some o=>
    obtain ⟨sl,hs⟩:=tt.up q
    rw [e] at hs; cases hs
  obtain ⟨nw,hnw⟩:∃ nw:Rest,nw=(T',tO)::(D₂,listOf x4 0)::(D₁,listOf ys₁ nn₁)::(D,listOf litems c₅)::(D₆,listOf ys₆ n₆)::(own₁++(own₆++(kpt++kp9))):=⟨_,rfl⟩
  have fresh:∀ p∈nw,p∈(T',tO)::(D₂,listOf x4 0)::(D₁,listOf ys₁ nn₁)::(own₁++(keep++(464,tabObj ps₉)::rest₉))∧p.1∉[299,422,464,oL,kL,vL]:=by
   have fR:∀ {p:Addr×Obj},p∈rest₉→p∈(T',tO)::(D₂,listOf x4 0)::(D₁,listOf ys₁ nn₁)::(own₁++(keep++(464,tabObj ps₉)::rest₉))∧p.1∉[299,422,464,oL,kL,vL]:=fun {p} hp=>
    ⟨kF (hKR p hp),fun hm=>by
     obtain ⟨r,hr,e,-⟩:=inNm _ hm
     exact dis₉ r hr (e ▸ List.mem_map_of_mem (f:=(·.1)) hp)⟩
   have f1:∀ {p:Addr×Obj},p∈(D₁,listOf ys₁ nn₁)::own₁→p.1∉[299,422,464,oL,kL,vL]:=fun {p} hp hm=>by
    obtain ⟨r,hr,e,-⟩:=inNm _ hm
    exact ne₁₀ p hp r (kI hr) e.symm
   have f6:∀ {p:Addr×Obj},p∈(D₆,listOf ys₆ n₆)::own₆→p.1∉[299,422,464,oL,kL,vL]:=fun {p} hp hm=>by
    obtain ⟨r,hr,e,-,p',hp',e'⟩:=inNm _ hm
    exact ne₆ p hp p' (.tail _ hp') e'.symm
   rw [hnw]
   refine nms_cons ⟨.head _,fun hm=>?_⟩ (nms_cons ⟨eM1,fun hm=>?_⟩ (nms_cons ⟨eM2,f1 (.head _)⟩ (nms_cons ⟨kF (List.mem_append_left _ hKD),fun hm=>?_⟩ (nms_cons ⟨kF (List.mem_append_left _ (h6K _ (.head _))),f6 (.head _)⟩ fun p hp=>?_))))
   ·obtain ⟨r,hr,e,ho,-⟩:=inNm _ hm
    refine news_ne N₁₃.out (a:=r.1) (b:=T') (o:=r.2) (o':=tO) (kF (kI hr)) (.head _) (fun q=>?_) e
    rw [htO] at q
    rcases ho with ⟨it,k,ho⟩|⟨ps,ho⟩
    ·rw [ho] at q
     have:=congrArg Obj.cls q
     simp [PySem.W.listOf] at this
    ·rw [ho] at q
     have:=congrArg Obj.cls q
     simp [tabObj] at this
   ·obtain ⟨r,hr,e,-⟩:=inNm _ hm
    have:@LT.lt Nat _ r.1 D₂:=l₁₁ r (.tail _ (List.mem_append_right _ (kI hr)))
    rw [show @Eq Nat r.1 D₂ from e] at this
    exact Nat.lt_irrefl _ this
   ·obtain ⟨r,hr,e,-,p',hp',e'⟩:=inNm _ hm
    have:@LT.lt Nat _ p'.1 D:=l₅ p' hp'
    rw [show @Eq Nat p'.1 D from e'] at this
    exact Nat.lt_irrefl _ this
   ·rcases List.mem_append.mp hp with hp|hp
    ·exact ⟨eT3 (List.mem_append_left _ hp),f1 (.tail _ hp)⟩
    rcases List.mem_append.mp hp with hp|hp
    ·exact ⟨kF (List.mem_append_left _ (h6K p (.tail _ hp))),f6 (.tail _ hp)⟩
    rcases List.mem_append.mp hp with hp|hp
    ·exact fR (wd₉.stay p hp).1
    ·exact fR (hkp9 p hp).1
  obtain ⟨at_,hat⟩:∃ at_:Nat,at_=((seed.fdiv 8).fmod (ks.length:Int)).toNat:=⟨_,rfl⟩
  rw [←hat,←hstp] at hpost
  rw [←hat] at hat1
  obtain ⟨φ,hφ⟩:∃ φ:Nat→Mg,φ=fun j=>(μs₄[j]?).getD (cMg ks stp (1+(seed.fdiv 40).fmod 2) at_ j):=⟨_,rfl⟩
  have PH:Ph ks.length φ (cMg ks stp (1+(seed.fdiv 40).fmod 2) at_):=hφ ▸ ph_of JJ hat1 hat2
  have gφ:∀ j,j<ks.length→μs₄[j]?=some (φ j):=fun j hj=>by
   have:μs₄[j]?=some (μs₄[j]'(by rw [JJ.len]; exact hj)):=List.getElem?_eq_getElem _
   rw [hφ]
   dsimp only
   rw [this]
   rfl
  have hosl:∀ j∈osl,j<ks.length:=fun j hj=>List.mem_range.mp (hos.mem_iff.mp hj)
  have eml:ml=osl.map φ:=hml.trans (pick_map fun j hj=>gφ j (hosl j hj))
  have hmi':mi.toList=(List.range ks.length).map fun j=>Value.ref (φ j).M:=by
   rw [JJ.mi]
   refine List.ext_getElem? fun j=>?_
   rw [List.getElem?_map,List.getElem?_map]
   by_cases hj:j<ks.length
   ·rw [gφ j hj,List.getElem?_range hj]
    rfl
   ·rw [List.getElem?_eq_none (by rw [JJ.len]; omega),List.getElem?_eq_none (by rw [List.length_range]; omega)]
    rfl
  have hsim:Sim ks.length φ σ fun j=>⟨0,vs.getD j 0,none⟩:=fun j hj=>by
   rw [hσ j (φ j) (gφ j hj),if_pos]
   rw [List.take_of_length_le (by rw [ho.len,List.length_map]; exact Nat.le_refl _)]
   exact hos.mem_iff.mpr (List.mem_range.mpr hj)
  have eout:runPure osl ks vs stp (1+(seed.fdiv 40).fmod 2) at_=⟨rows₃,(List.range ks.length).map fun j=>((σ₃ (φ j).M).value,(σ₃ (φ j).M).kept),er,(List.range ks.length).map fun j=>(((abOut er ml (σ₃,rows₃)).1 (φ j).M).value,((abOut er ml (σ₃,rows₃)).1 (φ j).M).kept),(abOut er ml (σ₃,rows₃)).2.drop rows₃.length⟩:=by
   unfold runPure
   rw [←run_sim PH hosl hsim,←eml]
   refine out_of (X:=fun _=>True) ?_
   rcases out with h|⟨kd,σ₀,rows₀,voted,vt',vits,kv,ts',tf,e1,e2,e3,e4,e5,-⟩
   ·exact .inl h
   ·exact .inr ⟨kd,σ₀,rows₀,voted,e1,e2,e3,e4,e5⟩
  rw [eout] at hpost
  have nwm:∀ {p:Addr×Obj},p∈own₁++(own₆++(kpt++kp9))→p∈nw:=fun hp=>by
   rw [hnw]
   exact eT5 hp
  refine hpost _ _ (RunEnd.mk h₁₂ _ nw T' D D₆ D₁ D₂ litems ys₆ ys₁ x4 c₅ n₆ nn₁ 0 te ps₁ ps₂ ps₉ rfl rfl ?keep ?frm ?tabs t1 t2 t9 (fun p hp=>?fresh) ?m ?d0 ?d1 ?d3 ?d4)
  case keep=>
   intro b o hb nt nf
   by_cases nb:b∈[299,422,464,oL,kL,vL]
   ·have t7:∀ p∈[(oL,listOf oi n1),(kL,listOf ki n2),(vL,listOf vi n3)],p∈keep:=fun p hp=>by rw [hkeep]; exact .tail _ (List.mem_append_right _ (eT2 (List.mem_append_left _ hp)))
    have same:∀ p∈[(oL,listOf oi n1),(kL,listOf ki n2),(vL,listOf vi n3)],p.1=b→h₁₂.get? b=some o:=fun p hp e=>by
     have c:=(N₁₃.out p (kF (List.mem_append_left _ (t7 p hp)))).1
     have c':=hN p (eT3 hp)
     rw [e] at c c'
     rw [hb] at c'
     rw [c,←c']
    simp only [List.mem_cons,List.not_mem_nil,or_false,not_or] at nb nt
    rcases nb with e|e|e|e|e|e
    ·exact (nt.1 e).elim
    ·exact (nt.2.1 e).elim
    ·exact (nt.2.2 e).elim
    ·exact same _ (.head _) e.symm
    ·exact same _ eM1 e.symm
    ·exact same _ eM2 e.symm
   ·exact F₁₂.keep b o (tt.other b o (hg ▸ hideAll_get _ hb nb) nf)
  case frm=>
   intro b hb o ho
   obtain ⟨o',ho',hg',_⟩:=S.ground hg hb
   rw [ho] at ho'
   obtain rfl:=Option.some.inj ho'
   obtain ⟨sl,hs⟩:=tt.frame b o hg' hb
   exact ⟨sl,F₁₂.keep _ _ hs⟩
  case tabs=>
   have t7:∀ p∈[(D,listOf litems c₅),(mgs,listOf mi c),(oL,listOf oi n1),(kL,listOf ki n2),(vL,listOf vi n3),(299,tabObj ps₁),(422,tabObj ps₂)],p∈keep:=fun p hp=>by rw [hkeep]; exact .tail _ (List.mem_append_right _ hp)
   exact nms_cons (N₁₃.out _ (kF (List.mem_append_left _ (t7 _ (by k_mem))))).1 (nms_cons (N₁₃.out _ (kF (List.mem_append_left _ (t7 _ (by k_mem))))).1 (nms_cons (N₁₃.out (464,tabObj ps₉) (kF (List.mem_append_right _ (.head _)))).1 nms_nil))
  case fresh=>
   obtain ⟨h1,h2⟩:=fresh p hp
   have c:=N₁₃.out p h1
   exact ⟨c.1,fresh_of hg (gn c.2.2) h2⟩
  case m=>
   rw [hnw,htO]
   exact nms_cons (.head _) (nms_cons eM3 (nms_cons eM4 (nms_cons eM2 (nms_cons eM1 nms_nil))))
  case d0=>exact rows_dat (fun p hp=>nwm (List.mem_append_right _ (List.mem_append_right _ (List.mem_append_left _ hp)))) hrk
  case d1=>exact pairs_dat (fun p hp=>nwm (List.mem_append_right _ (List.mem_append_left _ hp))) (hmi' ▸ hP₆)
  case d3=>exact pairs_dat (fun p hp=>nwm (List.mem_append_left _ hp)) (hmi' ▸ hP₁₀)
  case d4=>
   have e:litems.size=rows₃.length:=by
    have:=RowsAt.len hrows
    rw [Array.length_toList] at this
    exact this
   rw [hx4,List.toList_toArray,pick_drop,e]
   exact rows_dat (fun p hp=>nwm (List.mem_append_right _ (List.mem_append_right _ (List.mem_append_right _ hp)))) (rows_drop _ hr9)
theorem Ri_m:Rh_b.1 Rh_.q' Rh_.ml Rh_.head Rh_.Λ Rh_.mE:=Ri_b.2 (fun h₃ tk₃ g₃ er te tlx rest₃ σ₃ rows₃ ps₁ ps₂ litems lk kpt D c₅ h₄ D₆ n₆ ys₆ own₆ h₆ tk₆ h₇ tk keep=>eps0 Ri_dq Ri_d rfl (by with_unfolding_all exact Rj_m) ((h₃,tk₃,g₃,er,te,tlx),(rest₃,σ₃,rows₃,ps₁,ps₂,litems),(lk,kpt,D,c₅,h₄,D₆),(n₆,ys₆,own₆,h₆,tk₆,h₇),(tk,keep)))
theorem Rh_m:Rf_b.1 Rf_.kp Rf_.h Rf_.tk Rf_.rv Rf_.its Rf_.kr Rf_.σ Rf_.rest':=Rh_b.2 (fun q' ml head Λ mE=>eps0 Rh_dq Rh_d rfl (by with_unfolding_all exact Ri_m) (q',ml,head,Λ,mE))
theorem Rf_m:Re_b.1 Re_.ts Re_.stp Re_.zRe1 Re_.h₄ Re_.tk₄ Re_.μs₄ Re_.rest₄ Re_.at0 Re_.h₅ Re_.tk₅ Re_.X Re_.dx Re_.rs Re_.adr Re_.vt Re_.ex Re_.b1 Re_.b2 Re_.b3 Re_.b4 Re_.x Re_.tst Re_.q Re_.ext Re_.items Re_.al Re_.hz Re_.tk:=Rf_b.2 (fun kp h tk rv its kr σ rest'=>eps0 Rf_dq Rf_d rfl (by with_unfolding_all exact Rh_m) ((kp,h,tk,rv,its,kr),(σ,rest')))
theorem Re_m:Ra_b.1 Ra_.zRa1 Ra_.h₂ Ra_.tk₂ Ra_.O Ra_.dO Ra_.W Ra_.dW Ra_.dlw Ra_.y Ra_.wh Ra_.wt Ra_.kl Ra_.zRa2 Ra_.lg Ra_.mgs Ra_.mR Ra_.tlo Ra_.h Ra_.tk Ra_.rkv Ra_.rn Ra_.μs Ra_.mi Ra_.c Ra_.rest Ra_.zRa3 Ra_.zRa4:=Re_b.2 (fun ts stp zRe1 h₄ tk₄ μs₄ rest₄ at0 h₅ tk₅ X dx rs adr vt ex b1 b2 b3 b4 x tst q ext items al hz tk=>eps0 Re_dq Re_d rfl (by with_unfolding_all exact Rf_m) ((ts,stp,zRe1,h₄,tk₄,μs₄),(rest₄,at0,h₅,tk₅,X,dx),(rs,adr,vt,ex,b1,b2),(b3,b4,x,tst,q,ext),(items,al,hz,tk)))
open Z0u in
theorem Z0um:Z0ub.1 Z0u.g Z0u.L' Z0u.h₁:=Ra_b.2 (fun zRa1 h₂ tk₂ O dO W dW dlw y wh wt kl zRa2 lg mgs mR tlo h tk rkv rn μs mi c rest zRa3 zRa4=>eps0 Ra_dq Ra_d rfl (by with_unfolding_all exact Re_m) ((zRa1,h₂,tk₂,O,dO,W),(dW,dlw,y,wh,wt,kl),(zRa2,lg,mgs,mR,tlo,h),(tk,rkv,rn,μs,mi,c),(rest,zRa3,zRa4)))
theorem run972 {w:World} {A:Around} {s:Shared} {B:Heap} {oL kL vL:Addr} {oi ki vi:Array Value} {n1 n2 n3:Nat} {os:List Nat} {ks vs:List Int} {seed:Int} {td:Tok} {ps1 ps2 ps3:Array Value} {R:Rp} {loose:List Str} {mean:ExcName→Option Value} {mg mb:Sm} {outer:List Env} (XB:(hd.heap_1 w.params).In B) (TB:Top pq loose mean mg mb B) (hB:B.StaysIn s.heap) (hroom:A.depth+120<recursionLimit) (hp1:TabL ps1.toList) (hp2:TabL ps2.toList) (hp3:TabL ps3.toList) (hN:∀ p∈[(299,tabObj ps1),(422,tabObj ps2),(464,tabObj ps3),(oL,listOf oi n1),(kL,listOf ki n2),(vL,listOf vi n3)],s.heap.get? p.1=some p.2) (fN:∀ p∈[(299,tabObj ps1),(422,tabObj ps2),(464,tabObj ps3),(oL,listOf oi n1),(kL,listOf ki n2),(vL,listOf vi n3)],B.get? p.1=none) (hh:A.handled=none) (hA:A.frames=some outer) (S:Stk outer s.heap [299,422,464,oL,kL,vL]) (hBf:∀ b∈frs outer,B.get? b=none) (ho:IntsAt oi (os.map Int.ofNat)) (hk:IntsAt ki ks) (hv:IntsAt vi vs) (hos:os.Perm (List.range ks.length)) (hvs:vs.length=ks.length) (hks:ks.length∈[2,3,4,5]) (hpost:∀ r s₁,RunEnd outer s (runPure os ks vs (stepAt (seed.fmod 8).toNat) (1+(seed.fdiv 40).fmod 2) ((seed.fdiv 8).fmod (ks.length:Int)).toNat) r s₁→R r s₁):codeAny (model P2 w) A (.call (.ref 972) ⟨[.ref oL,.ref kL,.ref vL,.int seed td],[]⟩) R s:=by
 obtain ⟨hd_,dp,_,gd,un⟩:=A
 dsimp only at hA hroom hh
 subst hA hh
 exact eps0 Z0ucq Z0uc rfl (by with_unfolding_all exact Z0ub.2 (fun g L' h₁=>eps0 Z0udq Z0ud rfl (by with_unfolding_all exact Z0um) (g,L',h₁))) ((pq,w,s,B,oL,kL),(vL,oi,ki,vi,n1,n2),(n3,os,ks,vs,seed,td),(ps1,ps2,ps3,R,loose,mean),(mg,mb,outer,dp,gd,un)) XB TB hB hroom hp1 hp2 hp3 hN fN S hBf ho hk hv hos hvs hks hpost
section
local macro_rules | `(tactic| walk_at "subscriptTail Name Constant ref int") => `(tactic| refine Opq.out ?_)
local macro_rules | `(tactic| walk_at "binaryOp Add ref ref") => `(tactic| refine Opq.out ?_)
local macro_rules | `(tactic| walk_at "call builtin:sum") => `(tactic| refine Opq.out ?_)
theorem opq_post {M:Model} {A:Around} {α:Type} {x:Sem α} {Q:α→Shared→Prop} {E:Vp} {s:Shared} (h:∀ (Q':α→Shared→Prop) (E':Vp),(∀ f s',Q f s'→Q' f s')→wpAny M A x Q' E' s):wpAny M A x Q E s:=h Q E fun _ _ h=>h
noncomputable def La_b:PSigma fun P:(World)→(Shared)→(Shared)→(Sm)→(Sm)→(Addr)→(Value)→(Value)→(List Int)→(Addr)→(List Value)→(Heap)→(Nat)→(Obj)→(Obj)→(Obj)→(Obj)→(Obj)→(Heap)→(Nat)→(Obj)→(Obj)→(Obj)→(Obj)→(Obj)→(Fp)→(Vp)→Prop=>(∀ w zLa1 s1 zLa2 zLa3 zLa4 zLa5 zLa6 script zLa7 items h₁ zLa8 zLa9 zLa10 zLa11 zLa12 zLa13 g L oK oF oP oS oN Q E,P w zLa1 s1 zLa2 zLa3 zLa4 zLa5 zLa6 script zLa7 items h₁ zLa8 zLa9 zLa10 zLa11 zLa12 zLa13 g L oK oF oP oS oN Q E)→PySem.Challenge.rw_jh0025_02.Holds:=by
 apply PSigma.mk
 case snd=>
 intro hP
 refine Mine.hd ?_
 k_go0
 all_goals try k_fold
 rename World=>w
 rename (hd.heap_1 _).In _=>KX
 rename Top topProg _ _ _ _ _=>TT
 rename Below _ _ _ _=>KB
 rename Fr _ _ _ _=>F
 rename News _ _ _ _=>N
 rename Heap.IsList _ _ _=>hL
 rename ¬ _<_=>hlen
 rename Fr _ _ _ _=>F
 rename List Int=>script
 rename List Value=>items
 rename IntsAre items script=>hI
 dsimp only at F N hL ⊢
 rename Heap=>h₁
 generalize hg0:ghostOf _ _=g at F N hL KX TT KB ⊢
 have hz63:script.length ≤ 63:=by omega
 rename (613:Nat)<_∧_=>l0
 rename Shared=>s1
 generalize hLL:s1.heap.objs.size=L at F N l0 ⊢
 obtain ⟨oK,oF,oP,oS,oN,N,dK,dF,dP,dS,dN⟩:∃ oK oF oP oS oN:Obj,News g L h₁ [(L+1+1+1+1+1,oK),(L+1+1+1+1,oF),(L+1+1+1,oP),(L+1+1,oS),(L+1,oN),(613,tabObj #[]),(464,tabObj #[]),(422,tabObj #[]),(299,tabObj #[]),(974,tabObj #[])] ∧
   oK.data=.cell none∧oF.data=.cell none∧oP.data=.cell none∧oS.data=.cell none∧oN.data=.cell none:=⟨_,_,_,_,_,N,by assumption,by assumption,by assumption,by assumption,by assumption⟩
 rename Heap.IsList _ _ _=>hL
 rename g.IsList _ _=>hL
 refine opq_post fun Q E hQ=>?_
 rename s1.gens=#[]=>hgen
 have fin:∀ (h':Heap) (tk':Nat) (m':Sm),Fr g L h' m'→(∀ P∈[613,464,422,299,974],∃ ps,h'.get? P=some (tabObj ps))→Q (.ret (.bool true)) { s1 with heap:=h',toks:=tk' }:=fun h' tk' m' F' hT=>by
  refine hQ _ _ ⟨goodW_bool (L:=L) (m:=m') F' hgen ?_ ?_,?_⟩
  ·intro cls; rfl
  ·kc_post
  ·exact ⟨hT _ (by decide),hT _ (by decide),hT _ (by decide),hT _ (by decide),hT _ (by decide),trivial⟩
 clear hQ hT8 hT9 hgen
 rename_i zLa1 zLa2 zLa3 _ _ zLa4 _ zLa5 zLa6 _ _ _ _ _ _ _ _ _ _ _ _ _ _ _ zLa7 _ _ _ _ _ _ _ _ zLa8 zLa9 zLa10 zLa11 zLa12 zLa13 _ _ _ _ _ _ _ _ _ _ _
 revert hI hlen codeHd hg0 hL KX TT KB hz63 hLL F l0 N dK dF dP dS dN fin
 exact hP w zLa1 s1 zLa2 zLa3 zLa4 zLa5 zLa6 script zLa7 items h₁ zLa8 zLa9 zLa10 zLa11 zLa12 zLa13 g L oK oF oP oS oN Q E
noncomputable abbrev La_dq:=U fun a=>U fun b=>U fun c=>U fun d e=>T3 (T6 (T6 (T6 (T6 La_b.1 a) b) c) d) e
noncomputable def La_d:=eps La_dq ⟨inferInstance⟩
noncomputable def La_.w:=La_d.1.1
noncomputable def La_.zLa1:=La_d.1.2.1
noncomputable def La_.s1:=La_d.1.2.2.1
noncomputable def La_.zLa2:=La_d.1.2.2.2.1
noncomputable def La_.zLa3:=La_d.1.2.2.2.2.1
noncomputable def La_.zLa4:=La_d.1.2.2.2.2.2
noncomputable def La_.zLa5:=La_d.2.1.1
noncomputable def La_.zLa6:=La_d.2.1.2.1
noncomputable def La_.script:=La_d.2.1.2.2.1
noncomputable def La_.zLa7:=La_d.2.1.2.2.2.1
noncomputable def La_.items:=La_d.2.1.2.2.2.2.1
noncomputable def La_.h₁:=La_d.2.1.2.2.2.2.2
noncomputable def La_.zLa8:=La_d.2.2.1.1
noncomputable def La_.zLa9:=La_d.2.2.1.2.1
noncomputable def La_.zLa10:=La_d.2.2.1.2.2.1
noncomputable def La_.zLa11:=La_d.2.2.1.2.2.2.1
noncomputable def La_.zLa12:=La_d.2.2.1.2.2.2.2.1
noncomputable def La_.zLa13:=La_d.2.2.1.2.2.2.2.2
noncomputable def La_.g:=La_d.2.2.2.1.1
noncomputable def La_.L:=La_d.2.2.2.1.2.1
noncomputable def La_.oK:=La_d.2.2.2.1.2.2.1
noncomputable def La_.oF:=La_d.2.2.2.1.2.2.2.1
noncomputable def La_.oP:=La_d.2.2.2.1.2.2.2.2.1
noncomputable def La_.oS:=La_d.2.2.2.1.2.2.2.2.2
noncomputable def La_.oN:=La_d.2.2.2.2.1
noncomputable def La_.Q:=La_d.2.2.2.2.2.1
noncomputable def La_.E:=La_d.2.2.2.2.2.2
section
local macro_rules | `(tactic| walk_at "subscriptTail Name Slice ref ref") => `(tactic| refine Opq.out ?_)
local macro_rules | `(tactic| walk_at "call ref") => `(tactic| refine Opq.out ?_)
open La_ in
noncomputable def Lb_b:PSigma fun P:(Addr)→(Nat)→(Array Value)→(Addr)→(Obj)→(Heap)→(Nat)→(List Int)→(Addr)→(Heap)→(Array Value)→(Obj)→(Nat)→(Heap)→(Nat)→(Tok)→(Obj)→(Nat)→(Addr)→(List Value)→(Heap)→(Nat)→(Array Value)→(Nat)→(Obj)→(Addr)→(List Value)→(Heap)→(Nat)→(Array Value)→(Nat)→(Heap)→(Nat)→(Addr)→(Array Value)→(Nat)→(List Nat)→(Obj)→(Nat)→(Addr)→(Heap)→(Array Value)→(Heap)→(Nat)→(Addr)→(Array Value)→(Nat)→(List Nat)→(List Int)→(List Int)→(Heap)→(Nat)→(Addr)→(Array Value)→(Nat)→(List Nat)→(Heap)→(Nat)→(Obj)→(Obj)→(Obj)→(Tok)→(Nat)→(Int)→Prop=>(∀ D nn ys S so h₂ tk₂ ns nD h₄ ni zLb1 zLb2 h₅ tk₅ zLb3 zLb4 zLb5 kD ky h₆ tk₆ ki kk zLb6 vD vy h₇ tk₇ vi vk h₈ tk₈ fD fi fk osl zLb7 zLb8 rD h₉ ri h₁₀ tk₁₀ oD oi ok od ks vs h₁₁ tk₁₁ sD si sk os' h tk cK cF cS tS tM seed,P D nn ys S so h₂ tk₂ ns nD h₄ ni zLb1 zLb2 h₅ tk₅ zLb3 zLb4 zLb5 kD ky h₆ tk₆ ki kk zLb6 vD vy h₇ tk₇ vi vk h₈ tk₈ fD fi fk osl zLb7 zLb8 rD h₉ ri h₁₀ tk₁₀ oD oi ok od ks vs h₁₁ tk₁₁ sD si sk os' h tk cK cF cS tS tM seed)→La_b.1 La_.w La_.zLa1 La_.s1 La_.zLa2 La_.zLa3 La_.zLa4 La_.zLa5 La_.zLa6 La_.script La_.zLa7 La_.items La_.h₁ La_.zLa8 La_.zLa9 La_.zLa10 La_.zLa11 La_.zLa12 La_.zLa13 La_.g La_.L La_.oK La_.oF La_.oP La_.oS La_.oN La_.Q La_.E:=by
 apply PSigma.mk
 case snd=>
 intro hP
 intro hI hlen codeHd hg0 hL KX TT KB hz63 hLL F l0 N dK dF dP dS dN fin
 have hpw:=pw974 l0.2.2.2.2
 k_steps
 refine Opq.mk ?_
 refine numbers_comp KX TT rfl (by rw [depth_deeper]; decide) F N rfl hL hI hz63 fun D nn ys S so h₂ tk₂ F₂ N₂ hys hne=>?_
 clear F N
 k_steps
 refine Opq.mk ?_
 rename Fr _ _ _ _=>F₃
 rename News _ _ _ _=>N₃
 obtain ⟨ns,hns⟩:∃ ns:List Int,ns=(script.take 12).map numOf++[5]:=⟨_,rfl⟩
 have hnl:1 ≤ ns.length∧ns.length ≤ 13:=by
  rw [hns,List.length_append,List.length_map,List.length_take,List.length_singleton]
  omega
 have hnb:∀ x∈ns,0 ≤ x∧x<1000000000:=by
  rw [hns]
  intro x hx
  rcases List.mem_append.mp hx with hx|hx
  ·obtain ⟨n,_,rfl⟩:=List.mem_map.mp hx
   unfold numOf
   exact ⟨Int.fmod_nonneg_of_pos _ (by decide),Int.fmod_lt_of_pos _ (by decide)⟩
  ·rw [List.mem_singleton.mp hx]
   decide
 have hyl:ys.size<100:=by
  rw [hys.len,List.length_map,List.length_take]
  omega
 refine add_mine F₃ N₃ eM1 (.head _) (by rw [sizeLine_eq]; show ys.size+1 ≤ _; omega) fun nD h₄ F₄ N₄ l₄=>?_
 have hni:IntsAt (ys++#[Value.int 5 tk₂]) ns:=by
  rw [hns]
  unfold IntsAt
  rw [Array.toList_append]
  exact Paired.snoc hys ⟨tk₂,rfl⟩
 generalize ys++#[Value.int 5 tk₂]=ni at hni N₄
 clear F₃ N₃
 have x1:@LT.lt Nat _ (L+1+1+1+1+1) nD:=l₄ (L+1+1+1+1+1,oK) (by k_mem)
 have N₅:News g L h₄ [(nD,listOf ni 0),(L+1+1+1+1+1,oK),(L+1+1+1+1,oF),(L+1+1+1,oP),(L+1+1,oS),(L+1,oN),(613,tabObj #[]),(464,tabObj #[]),(422,tabObj #[]),(299,tabObj #[]),(974,tabObj #[])]:=
  nms_cons (N₄ _ (by k_mem)) fun p hp=>N₄ p (eT4 hp)
 clear N₄ l₄ hne
 obtain ⟨l0a,l0b,l0c,l0d,l0e⟩:=l0
 k_steps
 refine Opq.mk ?_
 rename Fr _ _ _ _=>F₄
 rename News _ _ _ _=>N₅
 refine sum_ints rfl F₄ N₅ (News.isList N₅ (.head _)) hni fun h₅ tk₅ tS F₅ N₆=>?_
 clear F₄ N₅
 k_steps
 refine Opq.mk ?_
 have ix:ni[(0:Int).toNat]?=some (.int (ns.getD (0:Int).toNat 0) (hni.at (i:=(0:Int).toNat) hnl.1).choose):=(hni.at (i:=(0:Int).toNat) hnl.1).choose_spec
 refine sub_list (News.isList N₆ (.head _)) (Int.le_refl 0) (by decide) ix ?_
 k_steps
 refine Opq.mk ?_
 obtain ⟨n,hn,hn2,hn5⟩:∃ n:Nat,2+(ns.getD (Int.toNat 0) 0).fmod 4=(n:Int)∧2 ≤ n∧n ≤ 5:=by
  obtain ⟨j,e,l⟩:=fmod_ix (ns.getD (Int.toNat 0) 0) (n:=4) (by decide)
  exact ⟨2+j,congrArg (2+·) e,Nat.le_add_right _ _,Nat.add_le_add_left (Nat.le_of_lt_succ l) 2⟩
 rename Fr _ _ _ _=>F₇
 rename News _ _ _ _=>N₇
 rw [hn] at F₇ N₇
 clear ix hn hns
 have N₈:=N₇.tail'
 clear N₇
 refine wpAny_Assign_Name ?_
 refine keys_comp (n:=n) KX TT rfl (by rw [depth_deeper]; decide) F₇ N₈ rfl hn5 eM5 (by assumption) eM4 (by assumption) (.head _) hni ⟨hnl.1,by omega⟩ fun kD ky h₆ tk₆ F₉ N₉ hkz hky0=>?_
 clear F₇ N₈
 have xn:@Ne Nat kD nD:=fun e=>hkz.1 e.symm
 have xk:@Ne Nat kD (L+1+1+1+1+1):=fun e=>hkz.2.1 e.symm
 have xkF:@Ne Nat kD (L+1+1+1+1):=fun e=>hkz.2.2.1 e.symm
 obtain ⟨ki,kk,hki,hky⟩:∃ (ki:Array Value) (kk:Nat),LCg.lst ky=listOf ki kk∧IntsAt ki ((List.range n).map (keyOf ns ns.sum)):=⟨ky.toArray,ky.length,rfl,hky0⟩
 rw [hki] at N₉
 have kt:kD∉[299,422,464]:=not3 (fun e=>hkz.2.2.2.2.2.2.2.2.2.1 e.symm) (fun e=>hkz.2.2.2.2.2.2.2.2.1 e.symm) (fun e=>hkz.2.2.2.2.2.2.2.1 e.symm)
 have k4:@Ne Nat kD 974:=fun e=>hkz.2.2.2.2.2.2.2.2.2.2.1 e.symm
 clear hki hkz hky0
 k_steps
 refine Opq.mk ?_
 rename Fr _ _ _ _=>F₁
 rename News _ _ _ _=>N₁
 refine values_comp (n:=n) KX TT rfl (by rw [depth_deeper]; decide) F₁ N₁ rfl hn5 eM6 (by assumption) eM1 hni ⟨hnl.1,by omega⟩ rfl fun vD vy h₇ tk₇ F₂ N₂ hvz hvy0=>?_
 clear F₁ N₁
 have yk:@Ne Nat vD kD:=fun e=>hvz.1 e.symm
 have yn:@Ne Nat vD nD:=fun e=>hvz.2.1 e.symm
 have yK:@Ne Nat vD (L+1+1+1+1+1):=fun e=>hvz.2.2.1 e.symm
 have yF:@Ne Nat vD (L+1+1+1+1):=fun e=>hvz.2.2.2.1 e.symm
 obtain ⟨vi,vk,hvi,hvy⟩:∃ (vi:Array Value) (vk:Nat),LCg.lst vy=listOf vi vk∧IntsAt vi ((List.range n).map (valOf ns)):=⟨vy.toArray,vy.length,rfl,hvy0⟩
 rw [hvi] at N₂
 have vt:vD∉[299,422,464]:=not3 (fun e=>hvz.2.2.2.2.2.2.2.2.2.2.1 e.symm) (fun e=>hvz.2.2.2.2.2.2.2.2.2.1 e.symm) (fun e=>hvz.2.2.2.2.2.2.2.2.1 e.symm)
 have v4:@Ne Nat vD 974:=fun e=>hvz.2.2.2.2.2.2.2.2.2.2.2.1 e.symm
 clear hvi hvz hvy0
 k_steps
 refine Opq.mk ?_
 rename Fr _ _ _ _=>F₃
 rename News _ _ _ _=>N₃
 refine wpAny_call (order960 (B:=g) KX (topRead_of TT) F₃.keep (by rw [depth_deeper]; decide) rfl (N₃ (nD,_) (by k_mem)).1 (N₃ (nD,listOf ni 0) (by k_mem)).2.2 hni ⟨hnl.1,by omega⟩ hnb ⟨hn2,hn5⟩ (.inl rfl) fun h₈ tk₈ fD fi fk osl hm₈ fg fn hfi hos=>?_)
 obtain ⟨N₄,hne⟩:=news_fresh F₃ N₃ hm₈ fg fn
 have F₄:=fr_mod0 F₃ hm₈
 clear F₃ N₃ hm₈ fg fn
 have zn:@Ne Nat fD nD:=hne (nD,listOf ni 0) (by k_mem)
 have zk:@Ne Nat fD kD:=hne (kD,listOf ki kk) (by k_mem)
 have zv:@Ne Nat fD vD:=hne (vD,listOf vi vk) (by k_mem)
 have zF:@Ne Nat fD (L+1+1+1+1):=hne (L+1+1+1+1,oF) (by k_mem)
 have ft:fD∉[299,422,464]:=not3 (hne (299,tabObj #[]) (by k_mem)) (hne (422,tabObj #[]) (by k_mem)) (hne (464,tabObj #[]) (by k_mem))
 have f4:@Ne Nat fD 974:=hne (974,tabObj #[]) (by k_mem)
 clear hne
 show wpAny _ _ _ _ _ _
 k_steps
 refine Opq.mk ?_
 rename Fr _ _ _ _=>F₄
 rename News _ _ _ _=>N₄
 refine krv_lit F₄ N₄ (News.isList N₄ eM3) (IsPart.int _ _) rfl (fun rD h₉ F₅ N₅ l₅=>?_) rfl (fun _=>rfl) (by rw [hni.len,sizeLine_eq]; omega)
 have hri:=ints_rev hni
 generalize ni.toList.reverse.toArray=ri at hri N₅
 clear F₄ N₄
 k_steps
 refine Opq.mk ?_
 refine wpAny_call (order960 (B:=g) KX (topRead_of TT) F₅.keep (by rw [depth_deeper]; decide) rfl (N₅ (rD,listOf ri 0) (by k_mem)).1 (N₅ (rD,listOf ri 0) (by k_mem)).2.2 hri (by rw [List.length_reverse]; omega) (fun x hx=>hnb x (List.mem_reverse.mp hx)) ⟨hn2,hn5⟩ (.inr rfl) fun h₁₀ tk₁₀ oD oi ok od hm₁₀ og on hoi hod=>?_)
 obtain ⟨N₆,hne⟩:=news_fresh F₅ N₅ hm₁₀ og on
 have F₆:=fr_mod0 F₅ hm₁₀
 clear F₅ N₅ hm₁₀ og on
 show wpAny _ _ _ _ _ _
 k_steps
 refine Opq.mk ?_
 obtain ⟨ks,hkl,hky'⟩:∃ ks:List Int,ks.length=n∧IntsAt ki ks:=⟨_,by rw [List.length_map,List.length_range],hky⟩
 obtain ⟨vs,hvl,hvy'⟩:∃ vs:List Int,vs.length=n∧IntsAt vi vs:=⟨_,by rw [List.length_map,List.length_range],hvy⟩
 clear hky hvy
 have hky:=hky'
 have hvy:=hvy'
 clear hky' hvy'
 have hkm:ks.length∈[2,3,4,5]:=by
  rw [hkl]
  exact of25 hn2 hn5
 rw [←hkl] at hos hod hvl
 have f3:∀ p∈[(oD,listOf oi ok),(fD,listOf fi fk),(kD,listOf ki kk)],h₁₀.get? p.1=some p.2∧p.1≠L∧g.get? p.1=none:=nms_cons (N₆ _ (by k_mem)) (nms_cons (N₆ _ (by k_mem)) (nms_cons (N₆ _ (by k_mem)) nms_nil))
 refine wpAny_call (with967 (B:=g) KX (topRead_of TT) F₆.keep (by rw [depth_deeper]; decide) rfl (fun p hp=>(f3 p hp).1) (fun p hp=>(f3 p hp).2.2) hoi hfi hky hod hos hkm fun h₁₁ tk₁₁ sD si sk os' hm₁₁ sg sn hsi hos' hfil=>?_)
 clear f3 hne
 obtain ⟨N₇,hne⟩:=news_fresh F₆ N₆ hm₁₁ sg sn
 have F₇:=fr_mod0 F₆ hm₁₁
 clear F₆ N₆ hm₁₁ sg sn
 show wpAny _ _ _ _ _ _
 k_steps
 rename Fr _ _ _ _=>F
 rename News _ _ _ _=>N
 rename Heap=>h
 have nfs:@Ne Nat fD sD:=fun e=>hne (fD,listOf fi fk) (by k_mem) e.symm
 have st:sD∉[299,422,464]:=not3 (hne (299,tabObj #[]) (by k_mem)) (hne (422,tabObj #[]) (by k_mem)) (hne (464,tabObj #[]) (by k_mem))
 have s4:@Ne Nat sD 974:=hne (974,tabObj #[]) (by k_mem)
 have nkf:@Ne Nat kD fD:=zk.symm
 have nvf:@Ne Nat vD fD:=zv.symm
 have nks:@Ne Nat kD sD:=fun e=>hne (kD,listOf ki kk) (by k_mem) e.symm
 have nvs:@Ne Nat vD sD:=fun e=>hne (vD,listOf vi vk) (by k_mem) e.symm
 have nvk:@Ne Nat vD kD:=yk
 obtain ⟨cK,cF,cS,tS,N,dK',dF',dS'⟩:∃ (cK cF cS:Obj) (tS:Tok),News g L h [(sD,listOf si sk),(fD,listOf fi fk),(vD,listOf vi vk),(kD,listOf ki kk),(L+1+1+1+1+1,cK),(L+1+1+1+1,cF),(L+1+1+1,oP),(L+1+1,cS),(613,tabObj #[]),(464,tabObj #[]),(422,tabObj #[]),(299,tabObj #[]),(974,tabObj #[])] ∧
   cK.data=.cell (some (.ref kD))∧cF.data=.cell (some (.ref fD))∧cS.data=.cell (some (.int ns.sum tS)):=
  ⟨_,_,_,_,nms_cons (N _ (by k_mem)) (nms_cons (N _ (by k_mem)) (nms_cons (N _ (by k_mem)) (nms_cons (N _ (by k_mem)) (nms_cons (N _ eM7) (nms_cons (N _ eM8) (nms_cons (N _ (by k_mem)) (nms_cons (N _ (eT8 eM2)) (nms_cons (N _ (by k_mem)) (nms_cons (N _ (by k_mem)) (nms_cons (N _ (by k_mem)) (nms_cons (N _ (by k_mem)) (nms_cons (N _ (by k_mem)) nms_nil)))))))))))),by assumption,by assumption,by assumption⟩
 generalize tk₅+1+1+1+1=tM at F
 subst hkl
 generalize ns.sum=seed at dS' ⊢
 clear hni hnl hnb hI hL hz63
 rename_i zLb1 _ zLb2 zLb3 _ _ _ _ _ zLb4 _ _ zLb5 _ zLb6 _ _ zLb7 _ zLb8 _
 revert hlen codeHd hg0 KX TT KB hLL dK dF dP dS dN fin hys hyl x1 l0a l0b l0c l0d l0e xn xk xkF kt k4 yk yn yK yF vt v4 hfi zn zk zv zF ft f4 l₅ hri hoi hod hos hvl hky hvy hkm hsi hos' hfil hne nfs st s4 nkf nvf nks nvs nvk N dK' dF' hn2 hn5 F dS'
 exact hP D nn ys S so h₂ tk₂ ns nD h₄ ni zLb1 zLb2 h₅ tk₅ zLb3 zLb4 zLb5 kD ky h₆ tk₆ ki kk zLb6 vD vy h₇ tk₇ vi vk h₈ tk₈ fD fi fk osl zLb7 zLb8 rD h₉ ri h₁₀ tk₁₀ oD oi ok od ks vs h₁₁ tk₁₁ sD si sk os' h tk cK cF cS tS tM seed
noncomputable abbrev Lb_dq:=U fun a=>U fun b=>U fun c=>U fun d=>U fun e=>U fun f=>U fun g=>U fun h=>U fun i=>U fun j k=>T4 (T6 (T6 (T6 (T6 (T6 (T6 (T6 (T6 (T6 (T6 Lb_b.1 a) b) c) d) e) f) g) h) i) j) k
noncomputable def Lb_d:=eps Lb_dq ⟨inferInstance⟩
noncomputable def Lb_.D:=Lb_d.1.1
noncomputable def Lb_.nn:=Lb_d.1.2.1
noncomputable def Lb_.ys:=Lb_d.1.2.2.1
noncomputable def Lb_.S:=Lb_d.1.2.2.2.1
noncomputable def Lb_.so:=Lb_d.1.2.2.2.2.1
noncomputable def Lb_.h₂:=Lb_d.1.2.2.2.2.2
noncomputable def Lb_.tk₂:=Lb_d.2.1.1
noncomputable def Lb_.ns:=Lb_d.2.1.2.1
noncomputable def Lb_.nD:=Lb_d.2.1.2.2.1
noncomputable def Lb_.h₄:=Lb_d.2.1.2.2.2.1
noncomputable def Lb_.ni:=Lb_d.2.1.2.2.2.2.1
noncomputable def Lb_.zLb1:=Lb_d.2.1.2.2.2.2.2
noncomputable def Lb_.zLb2:=Lb_d.2.2.1.1
noncomputable def Lb_.h₅:=Lb_d.2.2.1.2.1
noncomputable def Lb_.tk₅:=Lb_d.2.2.1.2.2.1
noncomputable def Lb_.zLb3:=Lb_d.2.2.1.2.2.2.1
noncomputable def Lb_.zLb4:=Lb_d.2.2.1.2.2.2.2.1
noncomputable def Lb_.zLb5:=Lb_d.2.2.1.2.2.2.2.2
noncomputable def Lb_.kD:=Lb_d.2.2.2.1.1
noncomputable def Lb_.ky:=Lb_d.2.2.2.1.2.1
noncomputable def Lb_.h₆:=Lb_d.2.2.2.1.2.2.1
noncomputable def Lb_.tk₆:=Lb_d.2.2.2.1.2.2.2.1
noncomputable def Lb_.ki:=Lb_d.2.2.2.1.2.2.2.2.1
noncomputable def Lb_.kk:=Lb_d.2.2.2.1.2.2.2.2.2
noncomputable def Lb_.zLb6:=Lb_d.2.2.2.2.1.1
noncomputable def Lb_.vD:=Lb_d.2.2.2.2.1.2.1
noncomputable def Lb_.vy:=Lb_d.2.2.2.2.1.2.2.1
noncomputable def Lb_.h₇:=Lb_d.2.2.2.2.1.2.2.2.1
noncomputable def Lb_.tk₇:=Lb_d.2.2.2.2.1.2.2.2.2.1
noncomputable def Lb_.vi:=Lb_d.2.2.2.2.1.2.2.2.2.2
noncomputable def Lb_.vk:=Lb_d.2.2.2.2.2.1.1
noncomputable def Lb_.h₈:=Lb_d.2.2.2.2.2.1.2.1
noncomputable def Lb_.tk₈:=Lb_d.2.2.2.2.2.1.2.2.1
noncomputable def Lb_.fD:=Lb_d.2.2.2.2.2.1.2.2.2.1
noncomputable def Lb_.fi:=Lb_d.2.2.2.2.2.1.2.2.2.2.1
noncomputable def Lb_.fk:=Lb_d.2.2.2.2.2.1.2.2.2.2.2
noncomputable def Lb_.osl:=Lb_d.2.2.2.2.2.2.1.1
noncomputable def Lb_.zLb7:=Lb_d.2.2.2.2.2.2.1.2.1
noncomputable def Lb_.zLb8:=Lb_d.2.2.2.2.2.2.1.2.2.1
noncomputable def Lb_.rD:=Lb_d.2.2.2.2.2.2.1.2.2.2.1
noncomputable def Lb_.h₉:=Lb_d.2.2.2.2.2.2.1.2.2.2.2.1
noncomputable def Lb_.ri:=Lb_d.2.2.2.2.2.2.1.2.2.2.2.2
noncomputable def Lb_.h₁₀:=Lb_d.2.2.2.2.2.2.2.1.1
noncomputable def Lb_.tk₁₀:=Lb_d.2.2.2.2.2.2.2.1.2.1
noncomputable def Lb_.oD:=Lb_d.2.2.2.2.2.2.2.1.2.2.1
noncomputable def Lb_.oi:=Lb_d.2.2.2.2.2.2.2.1.2.2.2.1
noncomputable def Lb_.ok:=Lb_d.2.2.2.2.2.2.2.1.2.2.2.2.1
noncomputable def Lb_.od:=Lb_d.2.2.2.2.2.2.2.1.2.2.2.2.2
noncomputable def Lb_.ks:=Lb_d.2.2.2.2.2.2.2.2.1.1
noncomputable def Lb_.vs:=Lb_d.2.2.2.2.2.2.2.2.1.2.1
noncomputable def Lb_.h₁₁:=Lb_d.2.2.2.2.2.2.2.2.1.2.2.1
noncomputable def Lb_.tk₁₁:=Lb_d.2.2.2.2.2.2.2.2.1.2.2.2.1
noncomputable def Lb_.sD:=Lb_d.2.2.2.2.2.2.2.2.1.2.2.2.2.1
noncomputable def Lb_.si:=Lb_d.2.2.2.2.2.2.2.2.1.2.2.2.2.2
noncomputable def Lb_.sk:=Lb_d.2.2.2.2.2.2.2.2.2.1.1
noncomputable def Lb_.os':=Lb_d.2.2.2.2.2.2.2.2.2.1.2.1
noncomputable def Lb_.h:=Lb_d.2.2.2.2.2.2.2.2.2.1.2.2.1
noncomputable def Lb_.tk:=Lb_d.2.2.2.2.2.2.2.2.2.1.2.2.2.1
noncomputable def Lb_.cK:=Lb_d.2.2.2.2.2.2.2.2.2.1.2.2.2.2.1
noncomputable def Lb_.cF:=Lb_d.2.2.2.2.2.2.2.2.2.1.2.2.2.2.2
noncomputable def Lb_.cS:=Lb_d.2.2.2.2.2.2.2.2.2.2.1
noncomputable def Lb_.tS:=Lb_d.2.2.2.2.2.2.2.2.2.2.2.1
noncomputable def Lb_.tM:=Lb_d.2.2.2.2.2.2.2.2.2.2.2.2.1
noncomputable def Lb_.seed:=Lb_d.2.2.2.2.2.2.2.2.2.2.2.2.2
end
end
end
section
local macro_rules | `(tactic| walk_at "subscriptTail Name Slice ref ref") => `(tactic| refine Opq.out ?_)
section
local macro_rules | `(tactic| walk_at "call ref") => `(tactic| refine Opq.out ?_)
open La_ in
open Lb_ in
noncomputable def Lf_b:PSigma fun P:(Heap)→(Tok)→(Rest)→(Addr)→(Addr)→(Addr)→(Addr)→(Addr)→(Array Value)→(Array Value)→(Array Value)→(Array Value)→(Nat)→(Nat)→(Nat)→(Nat)→(Tok)→(Array Value)→(Array Value)→(Array Value)→(Heap)→(Tok)→(Rest)→(Addr)→(Addr)→(Addr)→(Addr)→(Addr)→(Array Value)→(Array Value)→(Array Value)→(Array Value)→(Nat)→(Nat)→(Nat)→(Nat)→(Tok)→(Array Value)→(Array Value)→(Array Value)→(Addr)→(Heap)→(Nat)→Prop=>(∀ h₁ tk₁ nw₁ T₁ a0 a1 a3 a4 x0 x1 x3 x4 n0 n1 n3 n4 te₁ ps1 ps2 ps3 h₂ tk₂ nw₂ T₂ b0 b1 b3 b4 y0 y1 y3 y4 k0 k1 k3 k4 te₂ qs1 qs2 qs3 zLf3 h₃ tk,P h₁ tk₁ nw₁ T₁ a0 a1 a3 a4 x0 x1 x3 x4 n0 n1 n3 n4 te₁ ps1 ps2 ps3 h₂ tk₂ nw₂ T₂ b0 b1 b3 b4 y0 y1 y3 y4 k0 k1 k3 k4 te₂ qs1 qs2 qs3 zLf3 h₃ tk)→Lb_b.1 Lb_.D Lb_.nn Lb_.ys Lb_.S Lb_.so Lb_.h₂ Lb_.tk₂ Lb_.ns Lb_.nD Lb_.h₄ Lb_.ni Lb_.zLb1 Lb_.zLb2 Lb_.h₅ Lb_.tk₅ Lb_.zLb3 Lb_.zLb4 Lb_.zLb5 Lb_.kD Lb_.ky Lb_.h₆ Lb_.tk₆ Lb_.ki Lb_.kk Lb_.zLb6 Lb_.vD Lb_.vy Lb_.h₇ Lb_.tk₇ Lb_.vi Lb_.vk Lb_.h₈ Lb_.tk₈ Lb_.fD Lb_.fi Lb_.fk Lb_.osl Lb_.zLb7 Lb_.zLb8 Lb_.rD Lb_.h₉ Lb_.ri Lb_.h₁₀ Lb_.tk₁₀ Lb_.oD Lb_.oi Lb_.ok Lb_.od Lb_.ks Lb_.vs Lb_.h₁₁ Lb_.tk₁₁ Lb_.sD Lb_.si Lb_.sk Lb_.os' Lb_.h Lb_.tk Lb_.cK Lb_.cF Lb_.cS Lb_.tS Lb_.tM Lb_.seed:=by
 apply PSigma.mk
 case snd=>
 intro hP
 intro hlen codeHd hg0 KX TT KB hLL dK dF dP dS dN fin hys hyl x1 l0a l0b l0c l0d l0e xn xk xkF kt k4 yk yn yK yF vt v4 hfi zn zk zv zF ft f4 l₅ hri hoi hod hos hvl hky hvy hkm hsi hos' hfil hne nfs st s4 nkf nvf nks nvs nvk N dK' dF' hn2 hn5 F dS'
 refine Opq.mk ?_
 have tn:∀ a∈[299,422,464],a≠L∧g.get? a=none:=fun a ha=>by
  rcases List.mem_cons.mp ha with rfl|ha
  ·exact (N (299,tabObj #[]) (by k_mem)).2
  rcases List.mem_cons.mp ha with rfl|ha
  ·exact (N (422,tabObj #[]) (by k_mem)).2
  rw [List.mem_singleton.mp ha]
  exact (N (464,tabObj #[]) (by k_mem)).2
 have f6:∀ p∈[(299,tabObj #[]),(422,tabObj #[]),(464,tabObj #[]),(fD,listOf fi fk),(kD,listOf ki kk),(vD,listOf vi vk)],h.get? p.1=some p.2∧p.1≠L∧g.get? p.1=none:=
  nms_cons (N _ (by k_mem)) (nms_cons (N _ (by k_mem)) (nms_cons (N _ (by k_mem)) (nms_cons (N _ (by k_mem)) (nms_cons (N _ (by k_mem)) (nms_cons (N _ (by k_mem)) nms_nil)))))
 refine wpAny_call (run972 (B:=g) (os:=osl) (ks:=ks) (vs:=vs) (n1:=fk) (n2:=kk) (n3:=vk) KX TT F.keep (by rw [depth_deeper]; decide) (ps1:=#[]) (ps2:=#[]) (ps3:=#[]) .nil .nil .nil (fun p hp=>(f6 p hp).1) (fun p hp=>(f6 p hp).2.2) rfl (Around.frames_deeper rfl)
  ((stk_of KB).push (Λ:=[]) rfl F N rfl rfl (ns_cons ⟨(299,tabObj #[]),by k_mem,rfl⟩ (ns_cons ⟨(422,tabObj #[]),by k_mem,rfl⟩ (ns_cons ⟨(464,tabObj #[]),by k_mem,rfl⟩ (ns_cons ⟨(fD,listOf fi fk),by k_mem,rfl⟩ (ns_cons ⟨(kD,listOf ki kk),by k_mem,rfl⟩ (ns_cons ⟨(vD,listOf vi vk),by k_mem,rfl⟩ ns_nil)))))))
  (bf_push (B:=g) (fun b o e=>e) rfl F (fun _ h=>nomatch h)) hfi hky hvy hos hvl hkm fun r s₁ hR=>?_)
 obtain ⟨h₁,tk₁,nw₁,T₁,a0,a1,a3,a4,x0,x1,x3,x4,n0,n1,n3,n4,te₁,ps1,ps2,ps3,rfl,rfl,F₁,keep₁,tabs₁,t1,t2,t3,nn₁,dis₁,mm₁,d0,d1,d3,d4⟩:=run_after F N rfl tn hR
 clear hR f6
 have N₁:News g L h₁ [(299,tabObj ps1),(422,tabObj ps2),(464,tabObj ps3),(sD,listOf si sk),(fD,listOf fi fk),(vD,listOf vi vk),(kD,listOf ki kk),(L+1+1+1+1+1,cK),(L+1+1+1+1,cF),(L+1+1+1,oP),(L+1+1,cS),(613,tabObj #[]),(974,tabObj #[])]:=
  nms_cons (tabs₁ _ (.head _)) (nms_cons (tabs₁ _ eM1) (nms_cons (tabs₁ _ eM2) (nms_cons (keep₁ (sD,listOf si sk) (by k_mem) st) (nms_cons (keep₁ (fD,listOf fi fk) (by k_mem) ft) (nms_cons (keep₁ (vD,listOf vi vk) (by k_mem) vt) (nms_cons (keep₁ (kD,listOf ki kk) (by k_mem) kt) (nms_cons (keep₁ (L+1+1+1+1+1,cK) (by k_mem) (not3_big (by k_room))) (nms_cons (keep₁ (L+1+1+1+1,cF) (by k_mem) (not3_big (by k_room))) (nms_cons (keep₁ (L+1+1+1,oP) (by k_mem) (not3_big (by k_room))) (nms_cons (keep₁ (L+1+1,cS) (by k_mem) (not3_big (by k_room))) (nms_cons (keep₁ (613,tabObj #[]) (by k_mem) (by decide)) (nms_cons (keep₁ (974,tabObj #[]) (by k_mem) (by decide)) nms_nil))))))))))))
 clear N F
 show wpAny _ _ _ _ _ _
 k_steps
 refine Opq.mk ?_
 have f7:∀ p∈[(299,tabObj ps1),(422,tabObj ps2),(464,tabObj ps3),(sD,listOf si sk),(kD,listOf ki kk),(vD,listOf vi vk)],h₁.get? p.1=some p.2∧p.1≠L∧g.get? p.1=none:=
  nms_cons (N₁ _ (by k_mem)) (nms_cons (N₁ _ (by k_mem)) (nms_cons (N₁ _ (by k_mem)) (nms_cons (N₁ _ (by k_mem)) (nms_cons (N₁ _ (by k_mem)) (nms_cons (N₁ _ (by k_mem)) nms_nil)))))
 refine wpAny_call (run972 (B:=g) (os:=os') (ks:=ks) (vs:=vs) (n1:=sk) (n2:=kk) (n3:=vk) KX TT F₁.keep (by rw [depth_deeper]; decide) (ps1:=ps1) (ps2:=ps2) (ps3:=ps3) t1 t2 t3 (fun p hp=>(f7 p hp).1) (fun p hp=>(f7 p hp).2.2) rfl (Around.frames_deeper rfl)
  ((stk_of KB).push (Λ:=[]) rfl F₁ N₁ rfl rfl (ns_cons ⟨(299,tabObj ps1),by k_mem,rfl⟩ (ns_cons ⟨(422,tabObj ps2),by k_mem,rfl⟩ (ns_cons ⟨(464,tabObj ps3),by k_mem,rfl⟩ (ns_cons ⟨(sD,listOf si sk),by k_mem,rfl⟩ (ns_cons ⟨(kD,listOf ki kk),by k_mem,rfl⟩ (ns_cons ⟨(vD,listOf vi vk),by k_mem,rfl⟩ ns_nil)))))))
  (bf_push (B:=g) (fun b o e=>e) rfl F₁ (fun _ h=>nomatch h)) hsi hky hvy hos' hvl hkm fun r s₁ hR=>?_)
 have nt1:∀ p∈nw₁,p.1∉[299,422,464]:=fun p hp=>not3 (dis₁ p hp (299,tabObj #[]) (by k_mem)) (dis₁ p hp (422,tabObj #[]) (by k_mem)) (dis₁ p hp (464,tabObj #[]) (by k_mem))
 have NA:=news_app N₁ nn₁
 obtain ⟨h₂,tk₂,nw₂,T₂,b0,b1,b3,b4,y0,y1,y3,y4,k0,k1,k3,k4,te₂,qs1,qs2,qs3,rfl,rfl,F₂,keep₂,tabs₂,u1,u2,u3,nn₂,dis₂,mm₂,c0,c1,c3,c4⟩:=run_after F₁ NA rfl tn hR
 clear hR f7 NA
 have N₂:News g L h₂ [(299,tabObj qs1),(422,tabObj qs2),(464,tabObj qs3),(sD,listOf si sk),(fD,listOf fi fk),(vD,listOf vi vk),(kD,listOf ki kk),(L+1+1+1+1+1,cK),(L+1+1+1+1,cF),(L+1+1+1,oP),(613,tabObj #[]),(974,tabObj #[])]:=
  nms_cons (tabs₂ _ (.head _)) (nms_cons (tabs₂ _ eM1) (nms_cons (tabs₂ _ eM2) (nms_cons (keep₂ _ (List.mem_append_left _ (show (sD,listOf si sk)∈_ by k_mem)) st) (nms_cons (keep₂ _ (List.mem_append_left _ (show (fD,listOf fi fk)∈_ by k_mem)) ft) (nms_cons (keep₂ _ (List.mem_append_left _ (show (vD,listOf vi vk)∈_ by k_mem)) vt) (nms_cons (keep₂ _ (List.mem_append_left _ (show (kD,listOf ki kk)∈_ by k_mem)) kt) (nms_cons (keep₂ _ (List.mem_append_left _ (show (L+1+1+1+1+1,cK)∈_ by k_mem)) (not3_big (by k_room))) (nms_cons (keep₂ _ (List.mem_append_left _ (show (L+1+1+1+1,cF)∈_ by k_mem)) (not3_big (by k_room))) (nms_cons (keep₂ _ (List.mem_append_left _ (show (L+1+1+1,oP)∈_ by k_mem)) (not3_big (by k_room))) (nms_cons (keep₂ _ (List.mem_append_left _ (show (613,tabObj #[])∈_ by k_mem)) (by decide)) (nms_cons (keep₂ _ (List.mem_append_left _ (show (974,tabObj #[])∈_ by k_mem)) (by decide)) nms_nil)))))))))))
 have nn₁:News g L h₂ nw₁:=fun p hp=>keep₂ p (List.mem_append_right _ hp) (nt1 p hp)
 have dis12:∀ p∈nw₂,∀ q∈nw₁,@Ne Nat p.1 q.1:=fun p hp q hq=>dis₂ p hp q (List.mem_append_right _ hq)
 have N₃:News g L h₂ ((299,tabObj qs1)::(422,tabObj qs2)::(464,tabObj qs3)::(sD,listOf si sk)::(fD,listOf fi fk)::(vD,listOf vi vk)::(kD,listOf ki kk)::(L+1+1+1+1+1,cK)::(L+1+1+1+1,cF)::(L+1+1+1,oP)::(613,tabObj #[])::(974,tabObj #[])::(nw₁++nw₂)):=news_app N₂ (news_app nn₁ nn₂)
 have off974:∀ p∈nw₁++nw₂,p.1≠974:=fun p hp=>(List.mem_append.mp hp).elim (fun hp=>dis₁ p hp (974,tabObj #[]) (by k_mem)) fun hp=>dis₂ p hp (974,tabObj #[]) (List.mem_append_left _ (by k_mem))
 have offP:∀ p∈nw₁++nw₂,p.1≠L+1+1+1:=fun p hp=>(List.mem_append.mp hp).elim (fun hp=>dis₁ p hp (L+1+1+1,oP) (by k_mem)) fun hp=>dis₂ p hp (L+1+1+1,oP) (List.mem_append_left _ (by k_mem))
 rename News g L h₁ nw₁=>nn₁'
 clear N₁ F₁ keep₂ keep₁ tabs₂ t1 t2 t3 nt1 nn₁' nn₁ nn₂ N₂ tabs₁ dis₂ dis₁ dS' nks nvs nfs tn
 show wpAny _ _ _ _ _ _
 k_steps
 rename Fr _ _ _ _=>F
 rename News _ _ _ _=>N
 rename Heap=>h₃
 have N:=N.tail'
 rename_i zLf1 zLf2 zLf3 _ _ _ _ _
 revert hlen codeHd hg0 KX TT KB hLL dK dF dP dS dN fin hys hyl zLf1 l0a l0b l0c l0d l0e xn xk xkF kt zLf2 yk yn yK yF vt v4 hfi zn zk zv zF ft f4 l₅ hri hoi hod hos hvl hky hvy hkm hsi hos' hfil hne st s4 nkf nvf nvk dK' dF' hn2 hn5 mm₁ d0 d1 d3 d4 u1 u2 u3 mm₂ c0 c1 c3 c4 dis12 off974 offP F N
 exact hP h₁ tk₁ nw₁ T₁ a0 a1 a3 a4 x0 x1 x3 x4 n0 n1 n3 n4 te₁ ps1 ps2 ps3 h₂ tk₂ nw₂ T₂ b0 b1 b3 b4 y0 y1 y3 y4 k0 k1 k3 k4 te₂ qs1 qs2 qs3 zLf3 h₃ tk
noncomputable abbrev Lf_dq:=U fun a=>U fun b=>U fun c=>U fun d=>U fun e=>U fun f=>U fun g h=>(T6 (T6 (T6 (T6 (T6 (T6 (T6 Lf_b.1 a) b) c) d) e) f) g) h
noncomputable def Lf_d:=eps Lf_dq ⟨inferInstance⟩
noncomputable def Lf_.h₁:=Lf_d.1.1
noncomputable def Lf_.tk₁:=Lf_d.1.2.1
noncomputable def Lf_.nw₁:=Lf_d.1.2.2.1
noncomputable def Lf_.T₁:=Lf_d.1.2.2.2.1
noncomputable def Lf_.a0:=Lf_d.1.2.2.2.2.1
noncomputable def Lf_.a1:=Lf_d.1.2.2.2.2.2
noncomputable def Lf_.a3:=Lf_d.2.1.1
noncomputable def Lf_.a4:=Lf_d.2.1.2.1
noncomputable def Lf_.x0:=Lf_d.2.1.2.2.1
noncomputable def Lf_.x1:=Lf_d.2.1.2.2.2.1
noncomputable def Lf_.x3:=Lf_d.2.1.2.2.2.2.1
noncomputable def Lf_.x4:=Lf_d.2.1.2.2.2.2.2
noncomputable def Lf_.n0:=Lf_d.2.2.1.1
noncomputable def Lf_.n1:=Lf_d.2.2.1.2.1
noncomputable def Lf_.n3:=Lf_d.2.2.1.2.2.1
noncomputable def Lf_.n4:=Lf_d.2.2.1.2.2.2.1
noncomputable def Lf_.te₁:=Lf_d.2.2.1.2.2.2.2.1
noncomputable def Lf_.ps1:=Lf_d.2.2.1.2.2.2.2.2
noncomputable def Lf_.ps2:=Lf_d.2.2.2.1.1
noncomputable def Lf_.ps3:=Lf_d.2.2.2.1.2.1
noncomputable def Lf_.h₂:=Lf_d.2.2.2.1.2.2.1
noncomputable def Lf_.tk₂:=Lf_d.2.2.2.1.2.2.2.1
noncomputable def Lf_.nw₂:=Lf_d.2.2.2.1.2.2.2.2.1
noncomputable def Lf_.T₂:=Lf_d.2.2.2.1.2.2.2.2.2
noncomputable def Lf_.b0:=Lf_d.2.2.2.2.1.1
noncomputable def Lf_.b1:=Lf_d.2.2.2.2.1.2.1
noncomputable def Lf_.b3:=Lf_d.2.2.2.2.1.2.2.1
noncomputable def Lf_.b4:=Lf_d.2.2.2.2.1.2.2.2.1
noncomputable def Lf_.y0:=Lf_d.2.2.2.2.1.2.2.2.2.1
noncomputable def Lf_.y1:=Lf_d.2.2.2.2.1.2.2.2.2.2
noncomputable def Lf_.y3:=Lf_d.2.2.2.2.2.1.1
noncomputable def Lf_.y4:=Lf_d.2.2.2.2.2.1.2.1
noncomputable def Lf_.k0:=Lf_d.2.2.2.2.2.1.2.2.1
noncomputable def Lf_.k1:=Lf_d.2.2.2.2.2.1.2.2.2.1
noncomputable def Lf_.k3:=Lf_d.2.2.2.2.2.1.2.2.2.2.1
noncomputable def Lf_.k4:=Lf_d.2.2.2.2.2.1.2.2.2.2.2
noncomputable def Lf_.te₂:=Lf_d.2.2.2.2.2.2.1.1
noncomputable def Lf_.qs1:=Lf_d.2.2.2.2.2.2.1.2.1
noncomputable def Lf_.qs2:=Lf_d.2.2.2.2.2.2.1.2.2.1
noncomputable def Lf_.qs3:=Lf_d.2.2.2.2.2.2.1.2.2.2.1
noncomputable def Lf_.zLf3:=Lf_d.2.2.2.2.2.2.1.2.2.2.2.1
noncomputable def Lf_.h₃:=Lf_d.2.2.2.2.2.2.1.2.2.2.2.2
noncomputable def Lf_.tk:=Lf_d.2.2.2.2.2.2.2
end
section
local macro_rules | `(tactic| walk_at "exec Assign cons ListComp") => `(tactic| refine Opq.out ?_)
local macro_rules | `(tactic| walk_at "compareOp NotEq ref ref") => `(tactic| refine Opq.out ?_)
local macro_rules | `(tactic| walk_at "call builtin:sorted") => `(tactic| refine Opq.out ?_)
local macro_rules | `(tactic| walk_at "callWith builtin:sorted") => `(tactic| refine Opq.out ?_)
open La_ hiding h₁ in
open Lb_ hiding h₂ tk₂ tk in
open Lf_ in
noncomputable def Lh_b:PSigma fun P:(Out)→(Out)→(Addr)→(Heap)→(Addr)→(Heap)→(Nat)→Prop=>(∀ o1 o2 D1 h₄ D2 h₅ tk,P o1 o2 D1 h₄ D2 h₅ tk)→Lf_b.1 Lf_.h₁ Lf_.tk₁ Lf_.nw₁ Lf_.T₁ Lf_.a0 Lf_.a1 Lf_.a3 Lf_.a4 Lf_.x0 Lf_.x1 Lf_.x3 Lf_.x4 Lf_.n0 Lf_.n1 Lf_.n3 Lf_.n4 Lf_.te₁ Lf_.ps1 Lf_.ps2 Lf_.ps3 Lf_.h₂ Lf_.tk₂ Lf_.nw₂ Lf_.T₂ Lf_.b0 Lf_.b1 Lf_.b3 Lf_.b4 Lf_.y0 Lf_.y1 Lf_.y3 Lf_.y4 Lf_.k0 Lf_.k1 Lf_.k3 Lf_.k4 Lf_.te₂ Lf_.qs1 Lf_.qs2 Lf_.qs3 Lf_.zLf3 Lf_.h₃ Lf_.tk:=by
 apply PSigma.mk
 case snd=>
 intro hP
 intro hlen codeHd hg0 KX TT KB hLL dK dF dP dS dN fin hys hyl zLf1 l0a l0b l0c l0d l0e xn xk xkF kt zLf2 yk yn yK yF vt v4 hfi zn zk zv zF ft f4 l₅ hri hoi hod hos hvl hky hvy hkm hsi hos' hfil hne st s4 nkf nvf nvk dK' dF' hn2 hn5 mm₁ d0 d1 d3 d4 u1 u2 u3 mm₂ c0 c1 c3 c4 dis12 off974 offP F N
 have hsame:=same_out (vs:=vs) (stp:=stepAt (seed.fmod 8).toNat) (kd:=1+(seed.fdiv 40).fmod 2) (at_:=((seed.fdiv 8).fmod (ks.length:Int)).toNat) hos hos' hkm fun c=>(hfil c).symm
 have hok:=run_okr (vs:=vs) (stp:=stepAt (seed.fmod 8).toNat) (kd:=1+(seed.fdiv 40).fmod 2) (at_:=((seed.fdiv 8).fmod (ks.length:Int)).toNat) hos hkm
 generalize ho1:runPure osl ks vs _ _ _=o1 at mm₁ d0 d1 d3 d4 hsame hok
 generalize ho2:runPure os' ks vs _ _ _=o2 at mm₂ c0 c1 c3 c4 hsame
 refine Opq.mk ?_
 have up1:∀ p∈nw₁,p∈(299,tabObj qs1)::(422,tabObj qs2)::(464,tabObj qs3)::(sD,listOf si sk)::(fD,listOf fi fk)::(vD,listOf vi vk)::(kD,listOf ki kk)::(L+1+1+1+1+1,cK)::(L+1+1+1+1,cF)::(L+1+1+1,oP)::(613,tabObj #[])::(974,tabObj #[])::(nw₁++nw₂):=fun p hp=>eT8 (eT4 (List.mem_append_left _ hp))
 have up2:∀ p∈nw₂,p∈(299,tabObj qs1)::(422,tabObj qs2)::(464,tabObj qs3)::(sD,listOf si sk)::(fD,listOf fi fk)::(vD,listOf vi vk)::(kD,listOf ki kk)::(L+1+1+1+1+1,cK)::(L+1+1+1+1,cF)::(L+1+1+1,oP)::(613,tabObj #[])::(974,tabObj #[])::(nw₁++nw₂):=fun p hp=>eT8 (eT4 (List.mem_append_right _ hp))
 refine slice_four F N (N _ (up1 _ (mm₁ _ (.head _)))).1 fun D1 h₄ F₄ N₄=>?_
 clear F N
 k_steps
 refine Opq.mk ?_
 rename Fr _ _ _ _=>F
 rename News _ _ _ _=>N
 refine slice_four F N (N _ (.tail _ (up2 _ (mm₂ _ (.head _))))).1 fun D2 h₅ F₅ N₅=>?_
 clear F N
 k_steps
 refine Opq.mk ?_
 rename Fr _ _ _ _=>F
 rename News _ _ _ _=>N
 have v1:∀ p∈nw₁,p∈_:=fun p hp=>List.mem_cons_of_mem (D2,({ cls:=.type "tuple",data:=.seq #[.ref b0,.ref b1,.str o2.er te₂,.ref b3] }:Obj)) (List.mem_cons_of_mem (D1,({ cls:=.type "tuple",data:=.seq #[.ref a0,.ref a1,.str o1.er te₁,.ref a3] }:Obj)) (up1 p hp))
 have v2:∀ p∈nw₂,p∈_:=fun p hp=>List.mem_cons_of_mem (D2,({ cls:=.type "tuple",data:=.seq #[.ref b0,.ref b1,.str o2.er te₂,.ref b3] }:Obj)) (List.mem_cons_of_mem (D1,({ cls:=.type "tuple",data:=.seq #[.ref a0,.ref a1,.str o1.er te₁,.ref a3] }:Obj)) (up2 p hp))
 have dA:=out_in (o:=o1) (te:=te₁) eM1 (v1 _ (mm₁ _ eM1)) (v1 _ (mm₁ _ eM2)) (v1 _ (mm₁ _ eM3)) (d0.mono v1) (d1.mono v1) (d3.mono v1)
 have dB:=out_in (o:=o2) (te:=te₂) (.head _) (v2 _ (mm₂ _ eM1)) (v2 _ (mm₂ _ eM2)) (v2 _ (mm₂ _ eM3)) (c0.mono v2) (c1.mono v2) (c3.mono v2)
 rw [←out_eq hsame] at dB
 refine ne_same N dA dB (out_ok hok.1 hok.2) (by ke_room) ?_
 clear dA dB v1 v2
 have N:=N.tail'.tail'
 k_steps
 clear up1 up2
 revert hlen codeHd hg0 KX TT KB hLL dK dF dP dS dN fin hys hyl zLf1 l0a l0b l0c l0d l0e xn xk xkF kt zLf2 yk yn yK yF vt v4 hfi zn zk zv zF ft f4 l₅ hri hoi hod hos hvl hky hvy hkm hsi hos' hfil hne st s4 nkf nvf nvk dK' dF' hn2 hn5 u1 u2 u3 dis12 off974 offP ho1 mm₁ d0 d1 d3 d4 hok ho2 mm₂ c0 c1 c3 c4 hsame F N
 exact hP o1 o2 D1 h₄ D2 h₅ tk
noncomputable abbrev Lh_dq:=U fun a b=>(T6 Lh_b.1 a) b
noncomputable def Lh_d:=eps Lh_dq ⟨inferInstance⟩
noncomputable def Lh_.o1:=Lh_d.1.1
noncomputable def Lh_.o2:=Lh_d.1.2.1
noncomputable def Lh_.D1:=Lh_d.1.2.2.1
noncomputable def Lh_.h₄:=Lh_d.1.2.2.2.1
noncomputable def Lh_.D2:=Lh_d.1.2.2.2.2.1
noncomputable def Lh_.h₅:=Lh_d.1.2.2.2.2.2
noncomputable def Lh_.tk:=Lh_d.2
end
end
section
local macro_rules | `(tactic| walk_at "subscriptTail Name Name ref int") => `(tactic| refine Opq.out ?_)
local macro_rules | `(tactic| walk_at "call builtin:sorted") => `(tactic| refine Opq.out ?_)
noncomputable abbrev frL (uD T1 T2 sD vD mn:Value) (m₁:Sm):Sm:=fun y=>if y=Str.ofString "due" then some uD else if y=Str.ofString "one" then some T1 else if y=Str.ofString "two" then some T2 else if y=Str.ofString "second" then some sD else if y=Str.ofString "values" then some vD else if y=Str.ofString "many" then some mn else m₁ y
theorem fr_due {g h:Heap} {L:Addr} {m:Sm} {uD T1 T2 sD vD mn:Value} (F:Fr g L h m) (e1:m (Str.ofString "due")=some uD) (e2:m (Str.ofString "one")=some T1) (e3:m (Str.ofString "two")=some T2) (e4:m (Str.ofString "second")=some sD) (e5:m (Str.ofString "values")=some vD) (e6:m (Str.ofString "many")=some mn):∃ m₁,Fr g L h (frL uD T1 T2 sD vD mn m₁):=by
 refine ⟨m,fr_same F fun y=>?_⟩
 show m y=if y=Str.ofString "due" then some uD else if y=Str.ofString "one" then some T1 else if y=Str.ofString "two" then some T2 else if y=Str.ofString "second" then some sD else if y=Str.ofString "values" then some vD else if y=Str.ofString "many" then some mn else m y
 repeat' (first|rfl|(split; next e=>(rw [e]; assumption)))
open La_ hiding h₁ in
open Lb_ hiding h₂ tk₂ h₄ h₅ tk in
open Lf_ hiding tk in
open Lh_ in
noncomputable def Lk_b:PSigma fun P:(Addr)→(Addr)→(Obj)→(Array Value)→(Tok)→(Value)→(Heap)→(Nat)→(Addr)→(Heap)→(Nat)→(Array Value)→(Nat)→(Heap)→(List Value)→(Addr)→(Heap)→(Nat)→(Rest)→(Sm)→Prop=>(∀ lf lc loc lvs lt lct h₄ tk₄ dD h₅ tk₅ dv dc g₁ ys uD h₆ tk₆ bs m₁,P lf lc loc lvs lt lct h₄ tk₄ dD h₅ tk₅ dv dc g₁ ys uD h₆ tk₆ bs m₁)→Lh_b.1 Lh_.o1 Lh_.o2 Lh_.D1 Lh_.h₄ Lh_.D2 Lh_.h₅ Lh_.tk:=by
 apply PSigma.mk
 case snd=>
 intro hP
 intro hlen codeHd hg0 KX TT KB hLL dK dF dP dS dN fin hys hyl zLf1 l0a l0b l0c l0d l0e xn xk xkF kt zLf2 yk yn yK yF vt v4 hfi zn zk zv zF ft f4 l₅ hri hoi hod hos hvl hky hvy hkm hsi hos' hfil hne st s4 nkf nvf nvk dK' dF' hn2 hn5 u1 u2 u3 dis12 off974 offP ho1 mm₁ d0 d1 d3 d4 hok ho2 mm₂ c0 c1 c3 c4 hsame F N
 have hpw:=pw974 l0e
 refine Opq.mk ?_
 refine LCg.Assign_ListComp_U (F₀:=F) (cl:=[]) rfl rfl rfl (by decide) rfl (by decide) rfl rfl rfl ?_ (by intro _; rfl)
 k_steps
 have CH:CodeHd g 976 974:=codeHd_of_K KX (by kernel_rfl)
 refine kla_eval rfl ?_
 refine kla_nest (ps:=#[]) F N TT CH rfl (by k_updF) trivial rfl rfl fun lf lc loc lvs lt lct h₄ tk₄ F₄ N₄ _ _ l₁ l₂=>?_
 clear F N
 dsimp only at N₄
 k_steps
 refine Opq.mk ?_
 refine due_sorted (il:=osl) (φ:=fun j=>(ks.getD j 0,(osl.idxOf j:Int))) F₄ N₄ (N₄ (fD,listOf fi fk) (by k_mem)).1 hfi (by rw [hos.length_eq,List.length_range]; exact hkm) ?turn fun dD h₅ tk₅ dv dc F₅ N₅ ndD hdv=>?_
 case turn=>
  intro j hj t s nw F N sub
  have M:News g L s.heap ((lf,_)::(lc,loc)::(L+1+1+1+1+1,cK)::(L+1+1+1+1,cF)::(kD,listOf ki kk)::(fD,listOf fi fk)::nw):=nms_cons (N _ (sub _ (.head _))) (nms_cons (N _ (sub _ eM1)) (nms_cons (N _ (sub _ (by k_mem))) (nms_cons (N _ (sub _ (by k_mem))) (nms_cons (N _ (sub _ (by k_mem))) (nms_cons (N _ (sub _ (by k_mem))) N)))))
  clear N sub N₄ F₄
  k_steps
  rename News _ _ _ _=>N₆
  rename Fr _ _ _ _=>F₆
  have hjl:j<ks.length:=List.mem_range.mp (hos.mem_iff.mp hj)
  have ix:ki[((j:Int)).toNat]?=some (.int (ks.getD j 0) (hky.at (i:=j) hjl).choose):=(hky.at (i:=j) hjl).choose_spec
  refine Opq.mk (sub_list (News.isList N₆ eM4) (by k_room) (by have:=hkm; simp at this; omega) ix ?_)
  k_steps
  rename News _ _ _ _=>N₇
  refine kf_index N₇ eM5 (ints_kf hfi) (idx_kf hfi hj) rfl (by rw [Array.length_toList,hfi.len,List.length_map,hos.length_eq,List.length_range,sizeLine_eq]; have:=hkm; simp at this; omega) ?_
  k_steps
  rename Fr _ _ _ _=>F₈
  rename News _ _ _ _=>N₈
  refine DueBack.mk _ _ _ _ _ rfl rfl F₈ (nms_cons (N₈ _ (.head _)) fun p hp=>N₈ p (eT7 hp)) ?_
  rename (lf<_∧_)=>l8
  exact fun q hq=>Nat.ne_of_gt (ktn_ltOf l8.2.2.2.2.2.2 q hq)
 clear F₄ N₄
 have hod:osl.length∈[2,3,4,5]:=by rw [hos.length_eq,List.length_range]; exact hkm
 have hon:osl.Nodup:=hos.nodup_iff.mpr List.nodup_range
 have hj5:∀ j∈sortI (fun j=>ks.getD j 0) osl,j<5:=fun j hj=>by
  have h1:=List.mem_range.mp (hos.mem_iff.mp ((sortI_perm hod).mem_iff.mp hj))
  have h2:=hkm
  simp at h2
  omega
 have hjl:(sortI (fun j=>ks.getD j 0) osl).length ≤ 5:=by
  rw [(sortI_perm hod).length_eq]
  have h2:=hod
  simp at h2
  omega
 refine due_comp rfl KX TT rfl F₅ N₅ (.head _) (due_ints hfi hon hod hdv) hj5 hjl fun g₁ ys hys=>?_
 intro uD h₆ tk₆ F₆ N₆ off
 clear F₅ N₅ hdv
 k_steps
 have ncell:∀ {x:Addr} {o:Obj} {nw:Rest},News g L h₆ nw→(x,o)∈nw→(L+1+1+1,oP)∈nw→o.data≠oP.data→x≠L+1+1+1:=fun {x o nw} N hx hy hd=>news_ne N hx hy fun e=>hd (by rw [e])
 have oPd:∀ {it:Array Value} {n:Nat},Data.seq it n≠oP.data:=fun {it n}=>by rw [dP]; exact fun e=>nomatch e
 have oPf:∀ {it:Array Value},Data.fields it≠oP.data:=fun {it}=>by rw [dP]; exact fun e=>nomatch e
 obtain ⟨bs,hbs⟩:∃ bs:Rest,bs=(uD,LCg.lst ys)::(sD,listOf si sk)::(fD,listOf fi fk)::(vD,listOf vi vk)::(L+1+1+1+1,cF)::(299,tabObj qs1)::(422,tabObj qs2)::(464,tabObj qs3)::(613,tabObj #[])::(974,tabObj (#[]++#[rawInt 572,rawInt 49,.ref lc]))::(nw₁++nw₂):=⟨_,rfl⟩
 have NB:News g L h₆ ((L+1+1+1,oP)::bs):=by
  rw [hbs]
  exact nms_cons (N₆ _ (by k_mem)) (nms_cons (N₆ _ (by k_mem)) (nms_cons (N₆ _ (by k_mem)) (nms_cons (N₆ _ (by k_mem)) (nms_cons (N₆ _ (by k_mem)) (nms_cons (N₆ _ (by k_mem)) (nms_cons (N₆ _ (by k_mem)) (nms_cons (N₆ _ (by k_mem)) (nms_cons (N₆ _ (by k_mem)) (nms_cons (N₆ _ (by k_mem)) (nms_cons (N₆ _ (by k_mem)) fun p hp=>N₆ p (eT8 (eT8 hp))))))))))))
 have offB:∀ p∈bs,p.1≠L+1+1+1:=by
  rw [hbs]
  exact nms_cons (ncell N₆ (.head _) (by k_mem) oPd) (nms_cons (ncell N₆ (show (sD,listOf si sk)∈_ by k_mem) (by k_mem) oPd) (nms_cons (ncell N₆ (show (fD,listOf fi fk)∈_ by k_mem) (by k_mem) oPd) (nms_cons (ncell N₆ (show (vD,listOf vi vk)∈_ by k_mem) (by k_mem) oPd) (nms_cons (show @Ne Nat _ _ by omega)
   (nms_cons (ncell N₆ (show (299,tabObj qs1)∈_ by k_mem) (by k_mem) oPf) (nms_cons (ncell N₆ (show (422,tabObj qs2)∈_ by k_mem) (by k_mem) oPf) (nms_cons (ncell N₆ (show (464,tabObj qs3)∈_ by k_mem) (by k_mem) oPf) (nms_cons (ncell N₆ (show (613,tabObj #[])∈_ by k_mem) (by k_mem) oPf) (nms_cons (ncell N₆ (show (974,tabObj (#[]++#[rawInt 572,rawInt 49,.ref lc]))∈_ by k_mem) (by k_mem) oPf) offP)))))))))
 have bN:∀ p∈nw₁++nw₂,p∈bs:=fun p hp=>by
  rw [hbs]
  exact eT8 (eT2 hp)
 have bN1:∀ p∈nw₁,p∈bs:=fun p hp=>bN p (List.mem_append_left _ hp)
 have bN2:∀ p∈nw₂,p∈bs:=fun p hp=>bN p (List.mem_append_right _ hp)
 have bu:(uD,LCg.lst ys)∈bs:=by rw [hbs]; k_mem
 have bsD:(sD,listOf si sk)∈bs:=by rw [hbs]; k_mem
 have bfD:(fD,listOf fi fk)∈bs:=by rw [hbs]; k_mem
 have bvD:(vD,listOf vi vk)∈bs:=by rw [hbs]; k_mem
 have bcF:(L+1+1+1+1,cF)∈bs:=by rw [hbs]; k_mem
 have bt1:∃ ps,(299,tabObj ps)∈bs:=⟨qs1,by rw [hbs]; k_mem⟩
 have bt2:∃ ps,(422,tabObj ps)∈bs:=⟨qs2,by rw [hbs]; k_mem⟩
 have bt3:∃ ps,(464,tabObj ps)∈bs:=⟨qs3,by rw [hbs]; k_mem⟩
 have bt4:∃ ps,(613,tabObj ps)∈bs:=⟨_,by rw [hbs]; k_mem⟩
 have bt5:∃ ps,(974,tabObj ps)∈bs:=⟨_,by rw [hbs]; k_mem⟩
 obtain ⟨m₁,FB⟩:=fr_due F₆ rfl rfl rfl rfl rfl rfl
 have q0:=d0.mono bN1
 have q1:=d1.mono bN1
 have q3:=d3.mono bN1
 have q4:=d4.mono bN1
 have q4':=c4.mono bN2
 have bT1:=fun p hp=>bN1 p (mm₁ p hp)
 have bT2:=fun p hp=>bN2 p (mm₂ p hp)
 clear F₆ N₆ hbs ncell oPd oPf off ndD l₁ l₂ bN bN1 bN2 off974 offP d0 d1 d3 d4 c0 c1 c3 c4 mm₁ mm₂ dis12 u1 u2 u3
 revert hlen codeHd hg0 KX TT KB hLL dK dF dP dS dN fin hyl zLf1 l0a l0b l0c l0d l0e xn xk xkF kt zLf2 yk yn yK yF vt v4 hfi zn zk zv zF ft f4 l₅ hri hoi hos hvl hky hvy hkm hsi hos' hfil hne st s4 nkf nvf nvk dK' dF' hn2 hn5 ho1 hok ho2 hsame CH hod hon hj5 hjl hys NB offB bu bsD bfD bvD bcF bt1 bt2 bt3 bt4 bt5 FB q0 q1 q3 q4 q4' bT1 bT2
 exact hP lf lc loc lvs lt lct h₄ tk₄ dD h₅ tk₅ dv dc g₁ ys uD h₆ tk₆ bs m₁
noncomputable abbrev Lk_dq:=U fun a=>U fun b=>U fun c d=>T2 (T6 (T6 (T6 Lk_b.1 a) b) c) d
noncomputable def Lk_d:=eps Lk_dq ⟨inferInstance⟩
noncomputable def Lk_.lf:=Lk_d.1.1
noncomputable def Lk_.lc:=Lk_d.1.2.1
noncomputable def Lk_.loc:=Lk_d.1.2.2.1
noncomputable def Lk_.lvs:=Lk_d.1.2.2.2.1
noncomputable def Lk_.lt:=Lk_d.1.2.2.2.2.1
noncomputable def Lk_.lct:=Lk_d.1.2.2.2.2.2
noncomputable def Lk_.h₄:=Lk_d.2.1.1
noncomputable def Lk_.tk₄:=Lk_d.2.1.2.1
noncomputable def Lk_.dD:=Lk_d.2.1.2.2.1
noncomputable def Lk_.h₅:=Lk_d.2.1.2.2.2.1
noncomputable def Lk_.tk₅:=Lk_d.2.1.2.2.2.2.1
noncomputable def Lk_.dv:=Lk_d.2.1.2.2.2.2.2
noncomputable def Lk_.dc:=Lk_d.2.2.1.1
noncomputable def Lk_.g₁:=Lk_d.2.2.1.2.1
noncomputable def Lk_.ys:=Lk_d.2.2.1.2.2.1
noncomputable def Lk_.uD:=Lk_d.2.2.1.2.2.2.1
noncomputable def Lk_.h₆:=Lk_d.2.2.1.2.2.2.2.1
noncomputable def Lk_.tk₆:=Lk_d.2.2.1.2.2.2.2.2
noncomputable def Lk_.bs:=Lk_d.2.2.2.1
noncomputable def Lk_.m₁:=Lk_d.2.2.2.2
end
section
local macro_rules | `(tactic| walk_at "compareOp NotEq ref ref") => `(tactic| refine Opq.out ?_)
section
local macro_rules | `(tactic| walk_at "exec Assign cons ListComp") => `(tactic| refine Opq.out ?_)
local macro_rules | `(tactic| walk_at "subscriptTail Name Slice ref ref") => `(tactic| refine Opq.out ?_)
local macro_rules | `(tactic| walk_at "exec For Name List cons nil") => `(tactic| k_dflt (refine wpAny_For ?_))
local macro_rules | `(tactic| walk_at "pyIter ref") => `(tactic| refine Opq.out ?_)
open La_ hiding h₁ in
open Lb_ hiding ys h₂ tk₂ h₄ h₅ tk₅ h₆ tk₆ tk in
open Lf_ hiding tk in
open Lh_ hiding h₄ h₅ in
open Lk_ in
noncomputable def Ln_b:PSigma fun P:(Addr)→(Heap)→(Array Value)→(Heap)→(Nat)→(Obj)→(Option Value)→Prop=>(∀ lA hA pv h tk oc rv,P lA hA pv h tk oc rv)→Lk_b.1 Lk_.lf Lk_.lc Lk_.loc Lk_.lvs Lk_.lt Lk_.lct Lk_.h₄ Lk_.tk₄ Lk_.dD Lk_.h₅ Lk_.tk₅ Lk_.dv Lk_.dc Lk_.g₁ Lk_.ys Lk_.uD Lk_.h₆ Lk_.tk₆ Lk_.bs Lk_.m₁:=by
 apply PSigma.mk
 case snd=>
 intro hP
 intro hlen codeHd hg0 KX TT KB hLL dK dF dP dS dN fin hyl zLf1 l0a l0b l0c l0d l0e xn xk xkF kt zLf2 yk yn yK yF vt v4 hfi zn zk zv zF ft f4 l₅ hri hoi hos hvl hky hvy hkm hsi hos' hfil hne st s4 nkf nvf nvk dK' dF' hn2 hn5 ho1 hok ho2 hsame CH hod hon hj5 hjl hys NB offB bu bsD bfD bvD bcF bt1 bt2 bt3 bt4 bt5 FB q0 q1 q3 q4 q4' bT1 bT2
 k_steps
 refine Opq.mk ?_
 rename Fr _ _ _ _=>F
 rename News _ _ _ _=>N
 rename Heap=>hA
 rename Addr=>lA
 refine wpAny_pyIter_list (News.isList N (.head _)) ?_
 have nI:∀ p∈(lA,listOf #[Value.str (Str.ofString "tpc_begin") tk₆,.str (Str.ofString "commit") (tk₆+1),.str (Str.ofString "tpc_vote") (tk₆+1+1),.str (Str.ofString "tpc_finish") (tk₆+1+1+1)] 0)::(L+1+1+1,oP)::bs,p.1≠hA.objs.size:=fun p hp=>Nat.ne_of_lt (Heap.lt_size (N p hp).1)
 have FA:=F.push { cls:=.type "list_iterator",data:=.fields #[.ref lA,.int 0 0] }
 have NA:=N.push F { cls:=.type "list_iterator",data:=.fields #[.ref lA,.int 0 0] }
 have nlc:lA≠L+1+1+1:=news_ne N (.head _) eM1 fun e=>by
  have:=congrArg Obj.data e
  rw [dP] at this
  cases this
 have ph4:∀ (i:Nat) (v:Value),(#[Value.str (Str.ofString "tpc_begin") tk₆,.str (Str.ofString "commit") (tk₆+1),.str (Str.ofString "tpc_vote") (tk₆+1+1),.str (Str.ofString "tpc_finish") (tk₆+1+1+1)]:Array Value)[i]?=some v→∃ p∈four,∃ t,v=.str p t:=fun i v hv=>by
  match i,hv with
  | 0,hv=>cases hv; exact ⟨_,.head _,_,rfl⟩
  | 1,hv=>cases hv; exact ⟨_,eM1,_,rfl⟩
  | 2,hv=>cases hv; exact ⟨_,eM2,_,rfl⟩
  | 3,hv=>cases hv; exact ⟨_,eM3,_,rfl⟩
  | i+4,hv=>cases hv
 generalize #[Value.str (Str.ofString "tpc_begin") tk₆,.str (Str.ofString "commit") (tk₆+1),.str (Str.ofString "tpc_vote") (tk₆+1+1),.str (Str.ofString "tpc_finish") (tk₆+1+1+1)]=pv at N NA nI ph4
 refine for_cell (g:=g) (L:=L) (it:=hA.objs.size) (l:=lA) (c:=L+1+1+1) (items:=pv) (kl:=0) (fun i m nw=>nw=bs∧∃ rv,m=fun y=>if y=Str.ofString "called" then rv else frL (.ref uD) (.ref T₁) (.ref T₂) (.ref sD) (.ref vD) (.int (ks.length:Int) tM) m₁ y) rfl rfl rfl rfl (nI _ eM1).symm ?turn ?done
  ⟨_,_,_,bs,_,oP,rfl,⟨rfl,rfl⟩,⟨_,dP,.inl rfl⟩,⟨rfl,m₁ (Str.ofString "called"),?fm⟩,nms_cons ⟨nI _ (.head _),nlc⟩ fun p hp=>⟨nI p (eT2 hp),offB p hp⟩,FA,nms_cons (NA _ (.head _)) (nms_cons (NA _ eM2) (nms_cons (NA _ eM1) fun p hp=>NA p (eT3 hp)))⟩
 case fm=>
  funext y
  by_cases e:y=Str.ofString "called"
  ·rw [if_pos e]; subst e; rfl
  ·rw [if_neg e]
 case turn=>
  intro i v s₁ hv CL
  obtain ⟨p,hp4,tp,rfl⟩:=ph4 i v hv
  clear FA NA F N nI
  obtain ⟨h,tk,m,nw,oi,oc,e,io,⟨v₀,hc,hov⟩,⟨hnw,rv,hm⟩,off,F,N⟩:=CL
  rcases hov with q|q
  ·cases q
  subst e hnw hm q
  k_steps
  refine Opq.mk ?_
  have rl:=run_len (vs:=vs) (stp:=stepAt (seed.fmod 8).toNat) (kd:=1+(seed.fdiv 40).fmod 2) (at_:=((seed.fdiv 8).fmod (ks.length:Int)).toNat) hos hkm
  have ck:=called_ok (vs:=vs) (stp:=stepAt (seed.fmod 8).toNat) (kd:=1+(seed.fdiv 40).fmod 2) (at_:=((seed.fdiv 8).fmod (ks.length:Int)).toNat) hos hkm hp4
  rw [ho1] at rl ck
  have xl:x0.size<1000:=by
   have:=dat_len q0
   rw [List.length_map,Array.length_toList] at this
   omega
  have up:∀ {q:Addr×Obj},q∈bs→q∈(hA.objs.size,oi)::(L+1+1+1,oc)::(lA,listOf pv 0)::bs:=fun h=>eT3 h
  refine called_assign KX TT rfl F N rfl (up (bT1 _ (.head _))) (up (bT1 _ eM1)) (q0.mono fun _ h=>up h) xl eM1 hc rfl fun D n cy h₁ tk₁ F₁ N₁ offD hcl=>?_
  clear F N q0
  k_steps
  have yl:cy.size=(calledOf p o1.rows).length:=by rw [←Array.length_toList]; exact hcl.length
  have y5:(calledOf p o1.rows).length ≤ 5:=by
   rw [ck.1,List.length_take,List.length_map]
   omega
  refine Calls.call_len_list (News.isList N₁ (.head _)) (by rw [yl]; omega) ?_
  rw [yl]
  k_steps
  refine Opq.mk ?_
  have uu:=N₁ (uD,LCg.lst _) (.tail _ (up bu))
  refine kms_slice_lit F₁ N₁ (News.isList N₁ (.tail _ (up bu))) IsPart.none (IsPart.int _ _) rfl (fun e2 h₂ F₂ N₂ l₂=>?_) rfl (fun _=>rfl) (by rw [List.size_toArray,hys.length,sizeLine_eq]; omega)
  clear F₁ N₁
  k_steps
  have okc:∀ x∈calledOf p o1.rows,PyData.strOk x=true:=fun x hx=>by
   rw [ck.1] at hx
   obtain ⟨j,hj,rfl⟩:=List.mem_map.mp (List.mem_of_mem_take hx)
   exact who_ok (hj5 j hj)
  have dA:DatIn ((e2,listOf (kms_pick ys.toArray.toList none (some ((calledOf p o1.rows).length:Int))).toArray 0)::(D,listOf cy n)::(hA.objs.size,oi)::(L+1+1+1,oc)::(lA,listOf pv 0)::bs) (.ref D) (.list ((calledOf p o1.rows).map .str)):=.list (vs:=cy.toList) eM1 (strs_dat hcl)
  have dB:DatIn ((e2,listOf (kms_pick ys.toArray.toList none (some ((calledOf p o1.rows).length:Int))).toArray 0)::(D,listOf cy n)::(hA.objs.size,oi)::(L+1+1+1,oc)::(lA,listOf pv 0)::bs) (.ref e2) (.list ((calledOf p o1.rows).map .str)):=by
   refine .list (vs:=kms_pick ys.toArray.toList none (some ((calledOf p o1.rows).length:Int))) (.head _) ?_
   have hw:=Paired.take (calledOf p o1.rows).length (paired_who hys)
   rw [←ck.1] at hw
   rw [pick_take]
   exact strs_dat hw
  refine Opq.mk (ne_same N₂ dA dB (strs_ok okc) (by ke_room) ?_)
  clear dA dB
  have N₃:News g L h₂ ((T₁,({ cls:=.type "tuple",data:=.seq #[.ref a0,.ref a1,.str o1.er te₁,.ref a3,.ref a4] }:Obj))::(D,listOf cy n)::(hA.objs.size,oi)::(L+1+1+1,oc)::(lA,listOf pv 0)::bs):=nms_cons (N₂ _ (eT2 (up (bT1 _ (.head _))))) fun p hp=>N₂ p (.tail _ hp)
  clear N₂
  k_steps
  ·rename (_ == _)=true=>ea
   rename (_:Int)≠_=>eb
   exact absurd (congrArg Int.ofNat (ck.2 (eq_of_beq ea))) eb
  all_goals
   refine Opq.mk ⟨rfl,h₂,_,_,bs,oi,oc,rfl,io,⟨_,hc,.inl rfl⟩,⟨rfl,some (.ref D),?_⟩,off,F₂,fun p hp=>N₃ p (eT2 hp)⟩
   funext y
   by_cases e:y=Str.ofString "called"
   ·rw [if_pos e,if_pos e]
   ·rw [if_neg e,if_neg e,if_neg e]
 case done=>
  intro h tk m nw oc hc ⟨hnw,rv,hm⟩ F' N'
  subst hnw hm
  clear FA NA F N nI ph4
  show wpAny _ _ _ _ _ _
  have up:∀ {q:Addr×Obj},q∈bs→q∈(L+1+1+1,oc)::(lA,listOf pv 0)::bs:=fun h=>eT2 h
  have N₁:News g L h ((T₁,({ cls:=.type "tuple",data:=.seq #[.ref a0,.ref a1,.str o1.er te₁,.ref a3,.ref a4] }:Obj))::(T₂,({ cls:=.type "tuple",data:=.seq #[.ref b0,.ref b1,.str o2.er te₂,.ref b3,.ref b4] }:Obj))::(L+1+1+1+1,cF)::bs):=
   nms_cons (N' _ (up (bT1 _ (.head _)))) (nms_cons (N' _ (up (bT2 _ (.head _)))) (nms_cons (N' _ (up bcF)) fun p hp=>N' p (up hp)))
  clear N' up offB
  rename Fr _ _ _ _=>F
  rename News _ _ _ _=>N
  revert hlen codeHd hg0 KX TT KB hLL dK dF dP dS dN fin hyl zLf1 l0a l0b l0c l0d l0e xn xk xkF kt zLf2 yk yn yK yF vt v4 hfi zn zk zv zF ft f4 l₅ hri hoi hos hvl hky hvy hkm hsi hos' hfil hne st s4 nkf nvf nvk dK' dF' hn2 hn5 ho1 hok ho2 hsame CH hod hon hj5 hjl hys bu bsD bfD bvD bcF bt1 bt2 bt3 bt4 bt5 q0 q1 q3 q4 q4' bT1 bT2 nlc hc F N
  exact hP lA hA pv h tk oc rv
noncomputable abbrev Ln_dq:=U fun a b=>(T6 Ln_b.1 a) b
noncomputable def Ln_d:=eps Ln_dq ⟨inferInstance⟩
noncomputable def Ln_.lA:=Ln_d.1.1
noncomputable def Ln_.hA:=Ln_d.1.2.1
noncomputable def Ln_.pv:=Ln_d.1.2.2.1
noncomputable def Ln_.h:=Ln_d.1.2.2.2.1
noncomputable def Ln_.tk:=Ln_d.1.2.2.2.2.1
noncomputable def Ln_.oc:=Ln_d.1.2.2.2.2.2
noncomputable def Ln_.rv:=Ln_d.2
end
section
local macro_rules | `(tactic| walk_at "eval ListComp") => `(tactic| refine Opq.out ?_)
local macro_rules | `(tactic| walk_at "compareOp Eq ref ref") => `(tactic| refine Opq.out ?_)
open La_ hiding h₁ in
open Lb_ hiding ys h₂ tk₂ h₄ h₅ tk₅ h₆ tk₆ h tk in
open Lf_ hiding tk in
open Lh_ hiding h₄ h₅ tk in
open Lk_ in
open Ln_ in
theorem Lo2_m:Ln_b.1 Ln_.lA Ln_.hA Ln_.pv Ln_.h Ln_.tk Ln_.oc Ln_.rv:=by
 intro hlen codeHd hg0 KX TT KB hLL dK dF dP dS dN fin hyl zLf1 l0a l0b l0c l0d l0e xn xk xkF kt zLf2 yk yn yK yF vt v4 hfi zn zk zv zF ft f4 l₅ hri hoi hos hvl hky hvy hkm hsi hos' hfil hne st s4 nkf nvf nvk dK' dF' hn2 hn5 ho1 hok ho2 hsame CH hod hon hj5 hjl hys bu bsD bfD bvD bcF bt1 bt2 bt3 bt4 bt5 q0 q1 q3 q4 q4' bT1 bT2 nlc hc F N
 have up:∀ {q:Addr×Obj},q∈bs→q∈(T₁,({ cls:=.type "tuple",data:=.seq #[.ref a0,.ref a1,.str o1.er te₁,.ref a3,.ref a4] }:Obj))::(T₂,({ cls:=.type "tuple",data:=.seq #[.ref b0,.ref b1,.str o2.er te₂,.ref b3,.ref b4] }:Obj))::(L+1+1+1+1,cF)::bs:=fun h=>eT3 h
 have tb:∀ {h':Heap} {nw':Rest},News g L h' nw'→(∀ p∈bs,p∈nw')→∀ P∈[613,464,422,299,974],∃ ps,h'.get? P=some (tabObj ps):=fun {h' nw'} N s P hP=>by
  have f:(∃ ps,(P,tabObj ps)∈bs)→∃ ps,h'.get? P=some (tabObj ps):=fun ⟨ps,hm⟩=>⟨ps,(N _ (s _ hm)).1⟩
  simp only [List.mem_cons,List.not_mem_nil,or_false] at hP
  rcases hP with rfl|rfl|rfl|rfl|rfl
  ·exact f bt4
  ·exact f bt3
  ·exact f bt2
  ·exact f bt1
  ·exact f bt5
 have ma4:=bT1 _ eM4
 have mb4:=bT2 _ eM4
 have ma1:=bT1 _ eM2
 have ma3:=bT1 _ eM3
 k_steps
 ·rename (_ == _)=true=>ea
  have ea:=eq_of_beq ea
  have eb:o2.er=Str.ofString "none" := hsame.2.2.1.symm.trans ea
  obtain ⟨g1,g2⟩:=none_ok (vs:=vs) (stp:=stepAt (seed.fmod 8).toNat) (kd:=1+(seed.fdiv 40).fmod 2) (at_:=((seed.fdiv 8).fmod (ks.length:Int)).toNat) hos hkm hvl (by rw [ho1]; exact ea)
  obtain ⟨g3,g4⟩:=none_ok (vs:=vs) (stp:=stepAt (seed.fmod 8).toNat) (kd:=1+(seed.fdiv 40).fmod 2) (at_:=((seed.fdiv 8).fmod (ks.length:Int)).toNat) hos' hkm hvl (by rw [ho2]; exact eb)
  rw [ho1] at g1 g2
  rw [ho2] at g3
  rw [g1] at q4
  rw [g3] at q4'
  clear g4
  rename News _ _ _ _=>N₂
  refine Opq.mk (eq_same (d:=.list []) N₂ (.list (vs:=x4.toList) (.tail _ (up ma4)) (q4.mono fun _ h=>.tail _ (up h))) (.list (vs:=[]) (.head _) .nil) rfl (by ke_room) ?_)
  k_steps
  rename News _ _ _ _=>N₃
  refine Opq.mk (eq_same (d:=.list []) N₃ (.list (vs:=y4.toList) (eT2 (up mb4)) (q4'.mono fun _ h=>eT2 (up h))) (.list (vs:=[]) (.head _) .nil) rfl (by ke_room) ?_)
  k_steps
  rename News _ _ _ _=>N₄
  rename Fr _ _ _ _=>F₄
  refine Opq.mk (row_comp (l:=a1) KX TT rfl F₄ N₄ (eT2 (up ma1)) (q1.mono fun _ h=>eT2 (up h)) ?sz (.inr rfl) ?hit (by intro _; rfl) fun D n cy h₅ tk₅ F₅ N₅ hcy=>?_)
  case sz=>
   have:=dat_len q1
   rw [List.length_map,Array.length_toList] at this
   have h2:=congrArg List.length g2
   rw [List.length_map,hvl] at h2
   omega
  case hit=>
   k_steps
   exact Opq.mk ⟨_,rfl,rfl⟩
  have e1:o1.shown.map (partOf 1)=vs:=g2
  rw [e1] at hcy
  clear N₄ F₄
  k_steps
  refine Opq.mk (eq_same N₅ (.list (vs:=cy.toList) (.head _) (ints_dat hcy)) (.list (vs:=vi.toList) (eT3 (up bvD)) (ints_dat hvy)) (ints_ok vs) (by ke_room) ?_)
  k_steps
  exact fin _ _ _ F₅ (tb N₅ fun p hp=>eT3 (up hp))
 ·rename (_ == _)=false=>ea
  have ea:o1.er≠Str.ofString "none" := fun e=>by rw [e] at ea; exact absurd ea (by decide)
  have eb:o2.er≠Str.ofString "none" := fun e=>ea (hsame.2.2.1.trans e)
  obtain ⟨g1,g2⟩:=fail_ok (vs:=vs) (stp:=stepAt (seed.fmod 8).toNat) (kd:=1+(seed.fdiv 40).fmod 2) (at_:=((seed.fdiv 8).fmod (ks.length:Int)).toNat) hos hkm (by rw [ho1]; exact ea)
  obtain ⟨g3,g4⟩:=fail_ok (vs:=vs) (stp:=stepAt (seed.fmod 8).toNat) (kd:=1+(seed.fdiv 40).fmod 2) (at_:=((seed.fdiv 8).fmod (ks.length:Int)).toNat) hos' hkm (by rw [ho2]; exact eb)
  rw [ho1] at g1 g2
  rw [ho2] at g4
  rw [g2] at q4
  rw [g4] at q4'
  clear g3
  have j5:∀ {l:List Nat},l.Perm (List.range ks.length)→∀ j∈l,j<5:=fun p j hj=>by
   have:=List.mem_range.mp (p.mem_iff.mp hj)
   omega
  rename News _ _ _ _=>N₂
  rename Fr _ _ _ _=>F₂
  refine Opq.mk (row_comp (l:=a3) KX TT rfl F₂ N₂ (up ma3) (q3.mono fun _ h=>up h) ?sz (.inl rfl) ?hit (by intro _; rfl) fun D n cy h₅ tk₅ F₅ N₅ hcy=>?_)
  case sz=>
   have:=dat_len q3
   rw [List.length_map,Array.length_toList] at this
   have h2:=run_later (vs:=vs) (stp:=stepAt (seed.fmod 8).toNat) (kd:=1+(seed.fdiv 40).fmod 2) (at_:=((seed.fdiv 8).fmod (ks.length:Int)).toNat) (os:=osl) (ks:=ks)
   rw [ho1] at h2
   omega
  case hit=>
   k_steps
   exact Opq.mk ⟨_,rfl,rfl⟩
  clear N₂ F₂
  k_steps
  refine Opq.mk (row_comp (l:=a3) KX TT rfl F₅ N₅ (.tail _ (up ma3)) (q3.mono fun _ h=>.tail _ (up h)) ?sz2 (.inr rfl) ?hit2 (by intro _; rfl) fun D2 n2 cz h₆ tk₆ F₆ N₆ hcz=>?_)
  case sz2=>
   have:=dat_len q3
   rw [List.length_map,Array.length_toList] at this
   have h2:=run_later (vs:=vs) (stp:=stepAt (seed.fmod 8).toNat) (kd:=1+(seed.fdiv 40).fmod 2) (at_:=((seed.fdiv 8).fmod (ks.length:Int)).toNat) (os:=osl) (ks:=ks)
   rw [ho1] at h2
   omega
  case hit2=>
   k_steps
   exact Opq.mk ⟨_,rfl,rfl⟩
  have e0:o1.later.map (partOf 0)=o1.later.map (partOf 1):=g1
  rw [e0] at hcy
  clear N₅ F₅
  k_steps
  refine Opq.mk (ne_same N₆ (.list (vs:=cy.toList) eM1 (ints_dat hcy)) (.list (vs:=cz.toList) (.head _) (ints_dat hcz)) (ints_ok _) (by ke_room) ?_)
  k_steps
  refine Opq.mk (ab_comp (l:=fD) KX TT rfl F₆ N₆ (eT2 (up bfD)) hfi ?sz3 (j5 hos) ?hit3 (by intro _; rfl) fun D3 n3' c3 own h₇ tk₇ F₇ N₇ d3=>?_)
  case sz3=>
   have:=hfi.len
   rw [List.length_map,hos.length_eq,List.length_range] at this
   omega
  case hit3=>
   k_steps
   exact Opq.mk ⟨_,rfl,rfl⟩
  have ins:∀ p∈bs,p∈own++(D2,listOf cz n2)::(D,listOf cy n)::(T₁,({ cls:=.type "tuple",data:=.seq #[.ref a0,.ref a1,.str o1.er te₁,.ref a3,.ref a4] }:Obj))::(T₂,({ cls:=.type "tuple",data:=.seq #[.ref b0,.ref b1,.str o2.er te₂,.ref b3,.ref b4] }:Obj))::(L+1+1+1+1,cF)::bs:=fun p hp=>List.mem_append_right _ (eT2 (up hp))
  clear N₆ F₆ hcy hcz
  k_steps
  refine Opq.mk (eq_same N₇ (.list (vs:=x4.toList) (.tail _ (ins _ ma4)) (q4.mono fun _ h=>.tail _ (ins _ h))) (.list (vs:=c3.toList) (.head _) (d3.mono fun _ h=>.tail _ h)) (rows_ok (aborts_ok (j5 hos))) (by ke_room) ?_)
  have N₈:News g L h₇ ((T₂,({ cls:=.type "tuple",data:=.seq #[.ref b0,.ref b1,.str o2.er te₂,.ref b3,.ref b4] }:Obj))::bs):=nms_cons (N₇ _ (.tail _ (List.mem_append_right _ eM3))) fun p hp=>N₇ p (.tail _ (ins p hp))
  clear N₇ d3 q4 ins
  k_steps
  refine Opq.mk (ab_comp (l:=sD) KX TT rfl F₇ N₈ (.tail _ bsD) hsi ?sz4 (j5 hos') ?hit4 (by intro _; rfl) fun D4 n4' c4 own' h₈ tk₈ F₈ N₉ d4=>?_)
  case sz4=>
   have:=hsi.len
   rw [List.length_map,hos'.length_eq,List.length_range] at this
   omega
  case hit4=>
   k_steps
   exact Opq.mk ⟨_,rfl,rfl⟩
  k_steps
  refine Opq.mk (eq_same N₉ (.list (vs:=y4.toList) (.tail _ (List.mem_append_right _ (.tail _ mb4))) (q4'.mono fun _ h=>.tail _ (List.mem_append_right _ (.tail _ h)))) (.list (vs:=c4.toList) (.head _) (d4.mono fun _ h=>.tail _ h)) (rows_ok (aborts_ok (j5 hos'))) (by ke_room) ?_)
  k_steps
  exact fin _ _ _ F₈ (tb N₉ fun p hp=>.tail _ (List.mem_append_right _ (.tail _ hp)))
theorem Ln_m:Lk_b.1 Lk_.lf Lk_.lc Lk_.loc Lk_.lvs Lk_.lt Lk_.lct Lk_.h₄ Lk_.tk₄ Lk_.dD Lk_.h₅ Lk_.tk₅ Lk_.dv Lk_.dc Lk_.g₁ Lk_.ys Lk_.uD Lk_.h₆ Lk_.tk₆ Lk_.bs Lk_.m₁:=Ln_b.2 (fun lA hA pv h tk oc rv=>eps0 Ln_dq Ln_d rfl (by with_unfolding_all exact Lo2_m) ((lA,hA,pv,h,tk,oc),rv))
theorem Lk_m:Lh_b.1 Lh_.o1 Lh_.o2 Lh_.D1 Lh_.h₄ Lh_.D2 Lh_.h₅ Lh_.tk:=Lk_b.2 (fun lf lc loc lvs lt lct h₄ tk₄ dD h₅ tk₅ dv dc g₁ ys uD h₆ tk₆ bs m₁=>eps0 Lk_dq Lk_d rfl (by with_unfolding_all exact Ln_m) ((lf,lc,loc,lvs,lt,lct),(h₄,tk₄,dD,h₅,tk₅,dv),(dc,g₁,ys,uD,h₆,tk₆),(bs,m₁)))
theorem Lh_m:Lf_b.1 Lf_.h₁ Lf_.tk₁ Lf_.nw₁ Lf_.T₁ Lf_.a0 Lf_.a1 Lf_.a3 Lf_.a4 Lf_.x0 Lf_.x1 Lf_.x3 Lf_.x4 Lf_.n0 Lf_.n1 Lf_.n3 Lf_.n4 Lf_.te₁ Lf_.ps1 Lf_.ps2 Lf_.ps3 Lf_.h₂ Lf_.tk₂ Lf_.nw₂ Lf_.T₂ Lf_.b0 Lf_.b1 Lf_.b3 Lf_.b4 Lf_.y0 Lf_.y1 Lf_.y3 Lf_.y4 Lf_.k0 Lf_.k1 Lf_.k3 Lf_.k4 Lf_.te₂ Lf_.qs1 Lf_.qs2 Lf_.qs3 Lf_.zLf3 Lf_.h₃ Lf_.tk:=Lh_b.2 (fun o1 o2 D1 h₄ D2 h₅ tk=>eps0 Lh_dq Lh_d rfl (by with_unfolding_all exact Lk_m) ((o1,o2,D1,h₄,D2,h₅),tk))
theorem Lf_m:Lb_b.1 Lb_.D Lb_.nn Lb_.ys Lb_.S Lb_.so Lb_.h₂ Lb_.tk₂ Lb_.ns Lb_.nD Lb_.h₄ Lb_.ni Lb_.zLb1 Lb_.zLb2 Lb_.h₅ Lb_.tk₅ Lb_.zLb3 Lb_.zLb4 Lb_.zLb5 Lb_.kD Lb_.ky Lb_.h₆ Lb_.tk₆ Lb_.ki Lb_.kk Lb_.zLb6 Lb_.vD Lb_.vy Lb_.h₇ Lb_.tk₇ Lb_.vi Lb_.vk Lb_.h₈ Lb_.tk₈ Lb_.fD Lb_.fi Lb_.fk Lb_.osl Lb_.zLb7 Lb_.zLb8 Lb_.rD Lb_.h₉ Lb_.ri Lb_.h₁₀ Lb_.tk₁₀ Lb_.oD Lb_.oi Lb_.ok Lb_.od Lb_.ks Lb_.vs Lb_.h₁₁ Lb_.tk₁₁ Lb_.sD Lb_.si Lb_.sk Lb_.os' Lb_.h Lb_.tk Lb_.cK Lb_.cF Lb_.cS Lb_.tS Lb_.tM Lb_.seed:=Lf_b.2 (fun h₁ tk₁ nw₁ T₁ a0 a1 a3 a4 x0 x1 x3 x4 n0 n1 n3 n4 te₁ ps1 ps2 ps3 h₂ tk₂ nw₂ T₂ b0 b1 b3 b4 y0 y1 y3 y4 k0 k1 k3 k4 te₂ qs1 qs2 qs3 zLf3 h₃ tk=>eps0 Lf_dq Lf_d rfl (by with_unfolding_all exact Lh_m) ((h₁,tk₁,nw₁,T₁,a0,a1),(a3,a4,x0,x1,x3,x4),(n0,n1,n3,n4,te₁,ps1),(ps2,ps3,h₂,tk₂,nw₂,T₂),(b0,b1,b3,b4,y0,y1),(y3,y4,k0,k1,k3,k4),(te₂,qs1,qs2,qs3,zLf3,h₃),tk))
theorem Lb_m:La_b.1 La_.w La_.zLa1 La_.s1 La_.zLa2 La_.zLa3 La_.zLa4 La_.zLa5 La_.zLa6 La_.script La_.zLa7 La_.items La_.h₁ La_.zLa8 La_.zLa9 La_.zLa10 La_.zLa11 La_.zLa12 La_.zLa13 La_.g La_.L La_.oK La_.oF La_.oP La_.oS La_.oN La_.Q La_.E:=Lb_b.2 (fun D nn ys S so h₂ tk₂ ns nD h₄ ni zLb1 zLb2 h₅ tk₅ zLb3 zLb4 zLb5 kD ky h₆ tk₆ ki kk zLb6 vD vy h₇ tk₇ vi vk h₈ tk₈ fD fi fk osl zLb7 zLb8 rD h₉ ri h₁₀ tk₁₀ oD oi ok od ks vs h₁₁ tk₁₁ sD si sk os' h tk cK cF cS tS tM seed=>eps0 Lb_dq Lb_d rfl (by with_unfolding_all exact Lf_m) ((D,nn,ys,S,so,h₂),(tk₂,ns,nD,h₄,ni,zLb1),(zLb2,h₅,tk₅,zLb3,zLb4,zLb5),(kD,ky,h₆,tk₆,ki,kk),(zLb6,vD,vy,h₇,tk₇,vi),(vk,h₈,tk₈,fD,fi,fk),(osl,zLb7,zLb8,rD,h₉,ri),(h₁₀,tk₁₀,oD,oi,ok,od),(ks,vs,h₁₁,tk₁₁,sD,si),(sk,os',h,tk,cK,cF),(cS,tS,tM,seed)))
theorem law:PySem.Challenge.rw_jh0025_02.Holds:=La_b.2 (fun w zLa1 s1 zLa2 zLa3 zLa4 zLa5 zLa6 script zLa7 items h₁ zLa8 zLa9 zLa10 zLa11 zLa12 zLa13 g L oK oF oP oS oN Q E=>eps0 La_dq La_d rfl (by with_unfolding_all exact Lb_m) ((w,zLa1,s1,zLa2,zLa3,zLa4),(zLa5,zLa6,script,zLa7,items,h₁),(zLa8,zLa9,zLa10,zLa11,zLa12,zLa13),(g,L,oK,oF,oP,oS),(oN,Q,E)))
end
end
end Mine
end
set_option maxRecDepth 100000 in
theorem PySem.Challenge.cw_jh0025_02_holds : PySem.Challenge.rw_jh0025_02.Holds := by
  exact Mine.law
