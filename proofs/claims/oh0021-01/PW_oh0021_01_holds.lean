import PyProof.Rows.All
import Wide.All
import OpenK.AllK
import Wide.FinOn
import PySem.Challenge.RW_oh0021_01
set_option Elab.async false
namespace Mine
section
open PySem PySem.W PySem.W.X PyProof.Rows
set_option maxRecDepth 100000
set_option maxHeartbeats 8000000
/-- the top's run behind the opening, and what is seen of it, by the library's quick forms -/
noncomputable def runT {α : Type} (p q : Program) (loose mods : List Str) (Xt : Shared → Bool) (Yf : Shared → α) (w : World) (N : Nat) (s₀ : Shared) :=
  match s₀.heap.isNs mainGlobals && s₀.gens.size == 0 with
  | true => ((PySem.W.Fast.tw14082659384304107361 PySem.W.Fast.tw14364793385576792824 p w s₀.heap.objs.size (s₀.heap.nsMap mainGlobals "__annotations__") N s₀ (topStub p)).bind fun s₁ =>
      match staticsOk (importedModules p.main.body) s₀.heap s₁.heap && namesBound p s₁.heap && gensDone s₁ && laidKept s₀.heap s₁.heap with
      | true => some s₁
      | false => none).map fun s => (PySem.W.Fast.tw4187177175401517315 q loose mods Xt true s, Yf s)
  | false => none
theorem runT_eq {α : Type} (p q : Program) (loose mods : List Str) (Xt : Shared → Bool) (Yf : Shared → α) (w : World) (N : Nat) (s₀ : Shared) :
    ((topFrom treeTable p w N s₀).map fun s => (openSeen q loose mods Xt true s, Yf s)) = runT p q loose mods Xt Yf w N s₀ := by
  unfold topFrom runT
  rw [← PySem.W.Fast.te14082659384304107361, ← PySem.W.Fast.te14364793385576792824, ← PySem.W.Fast.te4187177175401517315]
  cases s₀.heap.isNs mainGlobals && s₀.gens.size == 0 <;> rfl
/-- the text less the statements that nothing is known of -/
noncomputable def qv : Program := PySem.W.view PySem.Challenge.pw_oh0021_01 [1, 2, 3, 4, 6, 7, 11, 12, 14, 15, 16, 17, 18, 19, 20, 21]
noncomputable abbrev lv : List Str := ["_initial_missing", "reduce", "_deduplicate"]
noncomputable abbrev xt : Shared → Bool := fun s => xlAt qv [] s && recOk (RowW.records (OpenRow.toRowW (OpenLaw.row PySem.Challenge.rw_oh0021_01))) s
theorem of_run {p q : Program} {loose : List Str} {Xt : Shared → Bool} {α : Type} {Yf : Shared → α} {Ya : World → α} {N : Nat}
    (b : ∀ w : World, (fencedOpening treeTable p w N).map (fun s => (s.heap, s.gens, s.drawn, s.toks)) = some (boot_heap w.params, Array.mk [], boot_drawn, boot_toks))
    (hr : ∀ (w : World) (os : OsState), runT p q loose (importedModules p.main.body) Xt Yf w N ⟨boot_heap w.params, #[], boot_drawn, boot_toks, os⟩ = some (openGood q loose, Ya w)) : LeftO p q loose Xt Yf Ya N := fun w => by
  obtain ⟨⟨h, gs, d, k, os⟩, e, e'⟩ := Option.map_eq_some_iff.mp (b w)
  obtain ⟨rfl, rfl, rfl, rfl⟩ : h = boot_heap w.params ∧ gs = #[] ∧ d = boot_drawn ∧ k = boot_toks := by simpa using e'
  unfold openEnds
  rw [e]
  exact (runT_eq ..).trans (hr w os)
theorem bootP : ∀ w : World, (fencedOpening treeTable PySem.Challenge.pw_oh0021_01 w 1270).map (fun s => (s.heap, s.gens, s.drawn, s.toks)) = some (boot_heap w.params, Array.mk [], boot_drawn, boot_toks) :=
  boot_open (p := PySem.Challenge.pw_oh0021_01) (N := 1270) rfl rfl (fun _ => rfl)
theorem said0 : PySem.W.Fast.tw9446332074065402090 PySem.Challenge.rw_oh0021_01 = true := by kernel_rfl
theorem said : PySem.Challenge.rw_oh0021_01.wellSaid = true := (congrFun PySem.W.Fast.te9446332074065402090 _).trans said0
local macro_rules | `(tactic| o_law) => `(tactic| refine holds_law Mine.said fun said => ?_)
local macro_rules | `(tactic| o_head $H) => do
  let (hw, hc) := (Lean.mkIdent `hw, Lean.mkIdent `hc)
  `(tactic| (refine holds_open (q := Mine.qv) (loose := Mine.lv) (Xt := Mine.xt) (XP := XL Mine.qv []) (Yf := Hook.obs $H) (Ya := Hook.val $H) (YP := Hook.says $H) (N := 1270) (Mine.of_run Mine.bootP fun w os => (by kernel_rfl)) (Hook.of $H) (Hook.keeps $H) (fun s e => xl_of s (Bool.and_eq_true_iff.mp e).1) XL.keeps (by rfl) (by rfl) (by rfl) (fun s e => recFacts_of (Bool.and_eq_true_iff.mp e).2) (by rfl) (by assumption) (by decide +kernel) ⟨rfl, rfl, rfl, rfl, rfl, by decide +kernel⟩ ?$hw ?$hc))
open_top hd for PySem.Challenge.rw_oh0021_01
end
section
open PySem PySem.W PySem.W.X PyProof.Rows PySem.Calls
set_option maxRecDepth 100000
set_option maxHeartbeats 1000000
/-- a goal put aside while hypotheses are taken apart -/
theorem hide {P : Prop} (h : ∀ G : Prop, (P → G) → G) : P := h P id
/-! the kit's rules, with the ends named: a term within binders stays small -/
section
noncomputable abbrev KExecs (M : Model) (A : Around) (rest : List Stmt) (env : Env) (Q : Flow → Shared → Prop) (E : Value → Shared → Prop) : Flow → Shared → Prop := fun f s' => match f with | .next => wpAny M A (execs rest env) Q E s' | f => Q f s'
noncomputable abbrev KNext (Q : Flow → Shared → Prop) : Unit → Shared → Prop := fun _ => Q .next
noncomputable abbrev KAssign (M : Model) (A : Around) (env : Env) (x : Str) (Q : Flow → Shared → Prop) (E : Value → Shared → Prop) : Value → Shared → Prop := fun v s₁ => wpAny M A (storeName env x v) (KNext Q) E s₁
noncomputable abbrev KCons (Q : List Value → Shared → Prop) (v : Value) : List Value → Shared → Prop := fun vs s₂ => Q (v :: vs) s₂
noncomputable abbrev KArgs (M : Model) (A : Around) (env : Env) (rest : List Expr) (pos : Pos) (Q : List Value → Shared → Prop) (E : Value → Shared → Prop) : Value → Shared → Prop := fun v s₁ => wpAny M A (spliced (backTo pos (starEach rest env))) (KCons Q v) E s₁
noncomputable abbrev KRet (Q : Flow → Shared → Prop) : Value → Shared → Prop := fun v => Q (.ret v)
noncomputable abbrev KExpr (Q : Flow → Shared → Prop) : Value → Shared → Prop := fun v s' => match v with | .ref _ => False | _ => Q .next s'
noncomputable abbrev KMeth2 (M : Model) (A : Around) (env : Env) (args : List Expr) (pos : Pos) (Q : Value → Shared → Prop) (E : Value → Shared → Prop) : Value × List Value → Shared → Prop := fun fx s₂ => wpAny M A (callWith pos fx.1 fx.2 (backTo pos (starEach args env)) []) Q E s₂
noncomputable abbrev KMeth (M : Model) (A : Around) (env : Env) (name : Str) (args : List Expr) (pos : Pos) (pl : Sem Bool) (Q : Value → Shared → Prop) (E : Value → Shared → Prop) : Value → Shared → Prop := fun ov s₁ => wpAny M A (getMethod ov name pl) (KMeth2 M A env args pos Q E) E s₁
noncomputable abbrev KTr (M : Model) (A : Around) (Q : Bool → Shared → Prop) (E : Value → Shared → Prop) : Value → Shared → Prop := fun c s₃ => wpAny M A (truthy c) Q E s₃
noncomputable abbrev KCmp2 (M : Model) (A : Around) (op : CmpOp) (a : Value) (Q : Bool → Shared → Prop) (E : Value → Shared → Prop) : Value → Shared → Prop := fun b s₂ => wpAny M A (compareOp op a b) (KTr M A Q E) E s₂
noncomputable abbrev KCmp (M : Model) (A : Around) (env : Env) (op : CmpOp) (r : Expr) (Q : Bool → Shared → Prop) (E : Value → Shared → Prop) : Value → Shared → Prop := fun a s₁ => wpAny M A (eval r env) (KCmp2 M A op a Q E) E s₁
noncomputable abbrev KBin2 (M : Model) (A : Around) (op : Operator) (a : Value) (Q : Value → Shared → Prop) (E : Value → Shared → Prop) : Value → Shared → Prop := fun b s₂ => wpAny M A (binaryOp op a b) Q E s₂
noncomputable abbrev KBin (M : Model) (A : Around) (env : Env) (op : Operator) (r : Expr) (Q : Value → Shared → Prop) (E : Value → Shared → Prop) : Value → Shared → Prop := fun a s₁ => wpAny M A (eval r env) (KBin2 M A op a Q E) E s₁
noncomputable abbrev KSub2 (M : Model) (A : Around) (value slice : Expr) (o : Value) (Q : Value → Shared → Prop) (E : Value → Shared → Prop) : Value → Shared → Prop := fun i s₂ => wpAny M A (subscriptTail value slice o i) Q E s₂
noncomputable abbrev KSub (M : Model) (A : Around) (env : Env) (value slice : Expr) (Q : Value → Shared → Prop) (E : Value → Shared → Prop) : Value → Shared → Prop := fun o s₁ => wpAny M A (eval slice env) (KSub2 M A value slice o Q E) E s₁
noncomputable abbrev KList (M : Model) (A : Around) (Q : Value → Shared → Prop) (E : Value → Shared → Prop) : List Value → Shared → Prop := fun vs s₁ => wpAny M A (newList vs) Q E s₁
noncomputable abbrev KTuple (M : Model) (A : Around) (Q : Value → Shared → Prop) (E : Value → Shared → Prop) : List Value → Shared → Prop := fun vs s₁ => wpAny M A (newTuple vs) Q E s₁
noncomputable abbrev KCallW (M : Model) (A : Around) (pos : Pos) (trees : List (Bool × Sem Value)) (Q : Value → Shared → Prop) (E : Value → Shared → Prop) : Value → Shared → Prop := fun f s₁ => wpAny M A (callWith pos f [] trees []) Q E s₁
noncomputable abbrev KForR (M : Model) (A : Around) (env : Env) (Q : Flow → Shared → Prop) (E : Value → Shared → Prop) : Result → Shared → Prop := fun r s' => match r with | .ok f => Q f s' | .error e => cameBackBy M A env E e s'
noncomputable abbrev KFor2 (M : Model) (A : Around) (env : Env) (target : Expr) (body orelse : List Stmt) (Q : Flow → Shared → Prop) (E : Value → Shared → Prop) : Value → Shared → Prop := fun it s₂ => codeAny M A (.forLoop target it body orelse env) (KForR M A env Q E) s₂
noncomputable abbrev KFor (M : Model) (A : Around) (env : Env) (target : Expr) (body orelse : List Stmt) (Q : Flow → Shared → Prop) (E : Value → Shared → Prop) : Value → Shared → Prop := fun x s₁ => wpAny M A (pyIter x) (KFor2 M A env target body orelse Q E) E s₁
variable {M : Model} {A : Around} {E : Value → Shared → Prop} {s : Shared} {env : Env}
theorem wpAny_execs_cons {st rest} {Q : Flow → Shared → Prop} (h : wpAny M A (exec st env) (KExecs M A rest env Q E) E s) : wpAny M A (execs (st :: rest) env) Q E s := PySem.wpAny_execs_cons h
theorem wpAny_Assign_Name {x pos' value pos} {Q : Flow → Shared → Prop} (h : wpAny M A (eval value env) (KAssign M A env x Q E) E s) (hs : swapsWith value (some (.Name x pos')) pos.line env = pure false := by rfl) :
    wpAny M A (exec (.Assign [.Name x pos'] value pos) env) Q E s := PySem.wpAny_Assign_Name h hs
theorem args_cons {e : Expr} {rest : List Expr} {pos : Pos} {Q : List Value → Shared → Prop} (h : wpAny M A (eval e env) (KArgs M A env rest pos Q E) E s) (he : starEach (e :: rest) env = (false, eval e env) :: starEach rest env := by rfl) :
    wpAny M A (spliced (backTo pos (starEach (e :: rest) env))) Q E s := PyProof.Rows.args_cons h he
theorem wpAny_Return_some {e pos} {Q : Flow → Shared → Prop} (h : wpAny M A (eval e env) (KRet Q) E s) : wpAny M A (exec (.Return (some e) pos) env) Q E s := PySem.wpAny_Return_some h
theorem wpAny_Expr {e pos} {Q : Flow → Shared → Prop} (h : wpAny M A (eval e env) (KExpr Q) E s) (hi : interactive env = false := by rfl) (hs : swapsWith e none pos.line env = pure false := by rfl) :
    wpAny M A (exec (.Expr e pos) env) Q E s := PySem.wpAny_Expr h hi hs
theorem MethodCall_ {o : Expr} {name : Str} {apos pos : Pos} {args : List Expr} {pl : Sem Bool} {Q : Value → Shared → Prop} (h : wpAny M A (eval o env) (KMeth M A env name args pos pl Q E) E s)
    (he : eval (.Call (.Attribute o name apos) args [] pos) env = (do
      let ov ← eval o env
      standAt apos.atName
      let (f, first) ← holding [ov] (getMethod ov name pl)
      callWith pos f first (backTo pos (starEach args env)) []) := by rfl) :
    wpAny M A (eval (.Call (.Attribute o name apos) args [] pos) env) Q E s := PyProof.Rows.MethodCall_ h he
theorem wpAny_For {target iter body orelse pos} {Q : Flow → Shared → Prop} (h : wpAny M A (eval iter env) (KFor M A env target body orelse Q E) E s) (hs : ∀ x, foldedSetIterable iter env x = pure x := by intro _; rfl) :
    wpAny M A (exec (.For target iter body orelse pos) env) Q E s := PySem.wpAny_For h hs
theorem wpAny_isTrue_Compare1 {l op r pos whole} {Q : Bool → Shared → Prop} (h : wpAny M A (eval l env) (KCmp M A env op r Q E) E s)
    (hm : behindInMarks op r = false := by with_unfolding_all rfl) : wpAny M A (isTrue (.Compare l [op] [r] pos) env whole) Q E s := PySem.wpAny_isTrue_Compare1 h hm
theorem wpAny_BinOp {l op r pos} {Q : Value → Shared → Prop} (h : wpAny M A (eval l env) (KBin M A env op r Q E) E s) : wpAny M A (eval (.BinOp l op r pos) env) Q E s := PySem.wpAny_BinOp h
theorem Subscript_ {value slice pos} {Q : Value → Shared → Prop} (h : wpAny M A (eval value env) (KSub M A env value slice Q E) E s) : wpAny M A (eval (.Subscript value slice pos) env) Q E s := PyProof.Rows.Subscript_ h
theorem List_ {elts : List Expr} {pos : Pos} {Q : Value → Shared → Prop} (h : wpAny M A (spliced (backTo pos (starEach elts env))) (KList M A Q E) E s) : wpAny M A (eval (.List elts pos) env) Q E s := PyProof.Rows.List_ h
theorem Tuple_ {elts : List Expr} {k : Nat} {pos : Pos} {Q : Value → Shared → Prop} (h : wpAny M A (spliced (backTo pos (starEach elts env))) (KTuple M A Q E) E s) : wpAny M A (eval (.Tuple elts k pos) env) Q E s := PyProof.Rows.Tuple_ h
theorem Call_Name {x : Str} {p pos : Pos} {args : List Expr} {trees : List (Bool × Sem Value)} {Q : Value → Shared → Prop} (ht : backTo pos (starEach args env) = trees) (h : wpAny M A (eval (.Name x p) env) (KCallW M A pos trees Q E) E s) :
    wpAny M A (eval (.Call (.Name x p) args [] pos) env) Q E s := PyProof.Rows.Call_Name ht h
end
end
section
open PySem PySem.W PyProof.Rows
set_option maxRecDepth 100000
set_option maxHeartbeats 1000000
noncomputable abbrev PG : Program := PySem.Challenge.pw_oh0021_01
noncomputable def K2 (P : Params) : Frag := hd.heap_1 P
noncomputable abbrev PH := Addr → Option Obj
/-- the built-ins' own namespace -/
noncomputable def BObj (o : Obj) : Prop := (∃ es ep, o.data = .dict es ep) ∧ ∃ m : Str → Option Value, (∀ x, (x == ("__name__" : Str)) = false → m x = bootBuiltins x) ∧ ∀ h : Heap, h.get? builtinsNs = some o → h.Ns builtinsNs m
structure KIn (w : World) (g : PH) : Prop where
  kin : ∀ a o, (K2 w.params).lookup a = some o → g a = some o
  bi : ∃ o, g builtinsNs = some o ∧ BObj o
  k4 : (∃ o, g 4 = some o ∧ o.cls = .type "module" ∧ o.dict = some builtinsNs ∧ o.data = .plain) ∧ ∃ o, g 1 = some o ∧ ∃ es ep, o.data = .dict es ep
/-- the module of the built-ins, and the modules -/
noncomputable def K4 (h : Heap) : Prop := (∃ o, h.get? 4 = some o ∧ o.cls = .type "module" ∧ o.dict = some builtinsNs ∧ o.data = .plain) ∧ ∃ o, h.get? 1 = some o ∧ ∃ es ep, o.data = .dict es ep
theorem K4.keep {h h' : Heap} (x : K4 h) (k : ∀ a o, a = 4 ∨ a = 1 → h.get? a = some o → h'.get? a = some o) : K4 h' := let ⟨⟨o, e, r⟩, o1, e1, r1⟩ := x; ⟨⟨o, k _ _ (.inl rfl) e, r⟩, o1, k _ _ (.inr rfl) e1, r1⟩
noncomputable def N0 : Addr → Prop := fun _ => False

/-- from s (known part g) to s' (known part g'): all objects stay as they were but those of X; what is newly known was not there -/
structure Stp (X : Addr → Prop) (g g' : PH) (s s' : Shared) : Prop where
  le : ∀ a o, g a = some o → g' a = some o
  new : ∀ a o, g' a = some o → g a = some o ∨ s.heap.get? a = none
  live : ∀ a o, g' a = some o → s'.heap.get? a = some o
  keep : ∀ a o, ¬ X a → s.heap.get? a = some o → s'.heap.get? a = some o
  dom : ∀ a o, s.heap.get? a = some o → ∃ o', s'.heap.get? a = some o'
  rest : s' = { s with heap := s'.heap, toks := s'.toks }

theorem Stp.refl {X : Addr → Prop} {g : PH} {s : Shared} (h : ∀ a o, g a = some o → s.heap.get? a = some o) : Stp X g g s s :=
  ⟨fun _ _ e => e, fun _ _ e => .inl e, h, fun _ _ _ e => e, fun _ o e => ⟨o, e⟩, rfl⟩
theorem Stp.trans {X : Addr → Prop} {g g' g'' : PH} {s s' s'' : Shared} (x : Stp X g g' s s') (y : Stp X g' g'' s' s'') : Stp X g g'' s s'' := by
  refine ⟨fun a o e => y.le a o (x.le a o e), fun a o e => ?_, y.live, fun a o hx e => y.keep a o hx (x.keep a o hx e), fun a o e => ?_, ?_⟩
  · rcases y.new a o e with h | h
    · exact x.new a o h
    · refine .inr ?_
      cases q : s.heap.get? a with
      | none => rfl
      | some o' => obtain ⟨o2, h2⟩ := x.dom a o' q; rw [h] at h2; cases h2
  · obtain ⟨o', h⟩ := x.dom a o e; exact y.dom a o' h
  · rw [y.rest, x.rest]
theorem Stp.transF {X Y : Addr → Prop} {g g' g'' : PH} {s s' s'' : Shared} (x : Stp X g g' s s') (y : Stp Y g' g'' s' s'') (hY : ∀ a, Y a → X a ∨ s.heap.get? a = none) : Stp X g g'' s s'' := by
  refine ⟨fun a o e => y.le a o (x.le a o e), fun a o e => ?_, y.live, fun a o hx e => y.keep a o (fun q => ?_) (x.keep a o hx e), fun a o e => ?_, ?_⟩
  · rcases y.new a o e with h | h
    · exact x.new a o h
    · refine .inr ?_
      cases q : s.heap.get? a with
      | none => rfl
      | some o' => obtain ⟨o2, h2⟩ := x.dom a o' q; rw [h] at h2; cases h2
  · rcases hY a q with z | z
    · exact hx z
    · rw [z] at e; cases e
  · obtain ⟨o', h⟩ := x.dom a o e; exact y.dom a o' h
  · rw [y.rest, x.rest]
theorem Stp.weak {X Y : Addr → Prop} {g g' : PH} {s s' : Shared} (x : Stp X g g' s s') (h : ∀ a, X a → Y a) : Stp Y g g' s s' :=
  ⟨x.le, x.new, x.live, fun a o hy e => x.keep a o (fun q => hy (h a q)) e, x.dom, x.rest⟩
theorem Stp.of0 {Y : Addr → Prop} {g g' : PH} {s s' : Shared} (x : Stp N0 g g' s s') : Stp Y g g' s s' := x.weak fun _ h => h.elim
theorem Stp.keep0 {g g' : PH} {s s' : Shared} (x : Stp N0 g g' s s') : ∀ a o, s.heap.get? a = some o → s'.heap.get? a = some o := fun a o e => x.keep a o (fun h => h) e
/-- nothing but the tokens -/
theorem Stp.tok {X : Addr → Prop} {g : PH} {s : Shared} {t : Nat} (h : ∀ a o, g a = some o → s.heap.get? a = some o) : Stp X g g s { s with toks := t } :=
  ⟨fun _ _ e => e, fun _ _ e => .inl e, h, fun _ _ _ e => e, fun _ o e => ⟨o, e⟩, rfl⟩

/-- g with one more -/
noncomputable def PH.put (g : PH) (a : Addr) (o : Obj) : PH := fun b => if b = a then some o else g b
theorem PH.put_self {g : PH} {a : Addr} {o : Obj} : g.put a o a = some o := by simp [PH.put]
theorem PH.put_le {g : PH} {a : Addr} {o : Obj} (h : g a = none) : ∀ b p, g b = some p → g.put a o b = some p := fun b p e => by
  unfold PH.put
  split
  · rename_i q; subst q; rw [h] at e; cases e
  · exact e

theorem live_none {g : PH} {h : Heap} {a : Addr} (hl : ∀ a o, g a = some o → h.get? a = some o) (hn : h.get? a = none) : g a = none := by
  cases q : g a with
  | none => rfl
  | some o => rw [hl a o q] at hn; cases hn

theorem get?_size (h : Heap) : h.get? h.objs.size = none := by
  cases q : h.get? h.objs.size with
  | none => rfl
  | some o => exact absurd (Heap.lt_size q) (Nat.lt_irrefl _)

/-- a new object laid and known -/
theorem Stp.alloc {X : Addr → Prop} {g : PH} {s : Shared} {o : Obj} (h : ∀ a o, g a = some o → s.heap.get? a = some o) (hf : o.isFreed = false) :
    Stp X g (g.put s.heap.objs.size o) s { s with heap := s.heap.push o } := by
  have hn := live_none h (get?_size s.heap)
  refine ⟨PH.put_le hn, fun a p e => ?_, fun a p e => ?_, fun a p _ e => Heap.get?_push_of_some _ e, fun a p e => ⟨p, Heap.get?_push_of_some _ e⟩, rfl⟩
  · unfold PH.put at e
    split at e
    · rename_i q; subst q; exact .inr (get?_size s.heap)
    · exact .inl e
  · unfold PH.put at e
    split at e
    · rename_i q; subst q; cases e; exact Heap.get?_push_size _ hf
    · exact Heap.get?_push_of_some _ (h a p e)

/-- the values of an environment's names -/
structure EnvAt (h : Heap) (env : Env) (vs : List (Str × Value)) : Prop where
  kind : env.scope.kind = .function
  loc : ∃ m, h.Ns env.locals m ∧ ∀ x, env.kindOf x = some .local → m x = vs.lookup x
  cell : ∀ x c, env.cells.lookup x = some c → ∃ v, h.IsCell c v ∧ (env.kindOf x ≠ some .local → v = vs.lookup x)
  apart : env.cells.Pairwise fun x y => x.2 ≠ y.2

theorem EnvAt.keeps {h h' : Heap} {env : Env} {vs : List (Str × Value)} (x : EnvAt h env vs) (k : ∀ b o, h.get? b = some o → h'.get? b = some o) : EnvAt h' env vs :=
  let ⟨m, hn, hm⟩ := x.loc
  ⟨x.kind, ⟨m, hn.keeps k, hm⟩, fun y c hc => let ⟨v, a, b⟩ := x.cell y c hc; ⟨v, a.keeps k, b⟩, x.apart⟩
/-- a change elsewhere -/
theorem EnvAt.keepsBut {X : Addr → Prop} {h h' : Heap} {env : Env} {vs : List (Str × Value)} (x : EnvAt h env vs) (k : ∀ b o, ¬ X b → h.get? b = some o → h'.get? b = some o)
    (hL : ¬ X env.locals) (hC : ∀ y c, env.cells.lookup y = some c → ¬ X c) : EnvAt h' env vs :=
  let ⟨m, hn, hm⟩ := x.loc
  ⟨x.kind, ⟨m, let ⟨o, es, ep, ho, r⟩ := hn; ⟨o, es, ep, k _ _ hL ho, r⟩, hm⟩, fun y c hc => let ⟨v, ⟨o, ho, hd⟩, b⟩ := x.cell y c hc; ⟨v, ⟨o, k _ _ (hC y c hc) ho, hd⟩, b⟩, x.apart⟩

/-- within a block: s₀, g₀ at its start -/
structure Blk (X : Addr → Prop) (g₀ : PH) (s₀ : Shared) (env : Env) (g : PH) (s : Shared) (vs : List (Str × Value)) : Prop where
  st : Stp X g₀ g s₀ s
  ea : EnvAt s.heap env vs
  offL : g env.locals = none
  lowL : s₀.heap.get? env.locals = none
  offC : ∀ x c, env.cells.lookup x = some c → g c = none

namespace Blk
variable {X : Addr → Prop} {g₀ g g' : PH} {s₀ s s' : Shared} {env : Env} {vs : List (Str × Value)}
theorem live (x : Blk X g₀ s₀ env g s vs) : ∀ a o, g a = some o → s.heap.get? a = some o := x.st.live
theorem domL (x : Blk X g₀ s₀ env g s vs) : ∃ o, s.heap.get? env.locals = some o := let ⟨_, ⟨o, _, _, ho, _⟩, _⟩ := x.ea.loc; ⟨o, ho⟩
theorem domC (x : Blk X g₀ s₀ env g s vs) {n : Str} {c : Addr} (hc : env.cells.lookup n = some c) : ∃ o, s.heap.get? c = some o := let ⟨_, ⟨o, ho, _⟩, _⟩ := x.ea.cell n c hc; ⟨o, ho⟩
/-- a step that changes nothing of the block's own -/
theorem stepX {Y : Addr → Prop} (x : Blk X g₀ s₀ env g s vs) (y : Stp Y g g' s s') (hY : ∀ a, Y a → X a ∨ s₀.heap.get? a = none) (hL : ¬ Y env.locals) (hC : ∀ n c, env.cells.lookup n = some c → ¬ Y c) : Blk X g₀ s₀ env g' s' vs := by
  refine ⟨x.st.transF y hY, x.ea.keepsBut y.keep hL hC, ?_, x.lowL, fun n c hc => ?_⟩
  · cases q : g' env.locals with
    | none => rfl
    | some o =>
      rcases y.new _ _ q with h | h
      · rw [x.offL] at h; cases h
      · obtain ⟨o', ho'⟩ := x.domL; rw [ho'] at h; cases h
  · cases q : g' c with
    | none => rfl
    | some o =>
      rcases y.new _ _ q with h | h
      · rw [x.offC n c hc] at h; cases h
      · obtain ⟨o', ho'⟩ := x.domC hc; rw [ho'] at h; cases h
theorem step (x : Blk X g₀ s₀ env g s vs) (y : Stp N0 g g' s s') : Blk X g₀ s₀ env g' s' vs :=
  x.stepX y (fun _ h => h.elim) (fun h => h) (fun _ _ _ h => h)
theorem tok (x : Blk X g₀ s₀ env g s vs) (t : Nat) : Blk X g₀ s₀ env g { s with toks := t } vs := x.step (Stp.tok x.live)
end Blk
section
variable {M : Model} {A : Around} {E : Value → Shared → Prop} {X : Addr → Prop} {g₀ g g' : PH} {s₀ s s' : Shared} {env : Env} {vs : List (Str × Value)}
/-- a name's value -/
theorem ld_ {x : Str} {v : Value} {Q : Value → Shared → Prop} (B : Blk X g₀ s₀ env g s vs) (hv : vs.lookup x = some v)
    (hk : env.kindOf x = some .local ∨ (env.kindOf x = some .cell ∨ env.kindOf x = some .free) ∧ (env.cells.lookup x).isSome = true) (h : Q v s) (hn : (x == ("__classdict__" : Str)) = false) : wpAny M A (loadName env x) Q E s := by
  rcases hk with hk | ⟨hk, hc⟩
  · obtain ⟨m, hm, e⟩ := B.ea.loc
    exact wpAny_loadName_local B.ea.kind hk hm ((e x hk).trans hv) h
  · obtain ⟨c, hc⟩ := Option.isSome_iff_exists.mp hc
    obtain ⟨u, hu, e⟩ := B.ea.cell x c hc
    have e' : u = some v := (e (by rcases hk with hk | hk <;> rw [hk] <;> decide)).trans hv
    subst e'
    rcases hk with hk | hk
    · exact wpAny_loadName_cell B.ea.kind hk hc hu h
    · exact wpAny_loadName_free B.ea.kind hk hc hu h hn
theorem name_ {x : Str} {pos : Pos} {v : Value} {Q : Value → Shared → Prop} (B : Blk X g₀ s₀ env g s vs) (hv : vs.lookup x = some v)
    (hk : env.kindOf x = some .local ∨ (env.kindOf x = some .cell ∨ env.kindOf x = some .free) ∧ (env.cells.lookup x).isSome = true) (h : Q v s) (hn : (x == ("__classdict__" : Str)) = false := by decide)
    (hd : (x == ("__debug__" : Str)) = false := by decide) : wpAny M A (eval (.Name x pos) env) Q E s := wpAny_Name (ld_ B hv hk h hn) hd
/-- a name stored -/
theorem st_ {x : Str} {v : Value} {Q : Unit → Shared → Prop} (B : Blk X g₀ s₀ env g s vs)
    (hk : env.kindOf x = some .local ∨ env.kindOf x = some .cell ∧ ∃ c, env.cells.lookup x = some c ∧ s₀.heap.get? c = none)
    (h : ∀ s', Blk X g₀ s₀ env g s' ((x, v) :: vs) → (env.kindOf x = some .local ∧ Heap.SameBut env.locals s.heap s'.heap) ∨ (env.kindOf x = some .cell ∧ ∃ c, env.cells.lookup x = some c ∧ Heap.SameBut c s.heap s'.heap) → Q () s') : wpAny M A (storeName env x v) Q E s := by
  rcases hk with hk | ⟨hk, hc⟩
  · obtain ⟨m, hm, e⟩ := B.ea.loc
    refine wpAny_storeName_local hk hm (fun h' hn hs => h _ ?_ (.inl ⟨hk, hs⟩)) (by rw [B.ea.kind]; rfl)
    refine ⟨?_, ⟨B.ea.kind, ⟨_, hn, fun y hy => ?_⟩, fun y c hc => ?_, B.ea.apart⟩, B.offL, B.lowL, B.offC⟩
    · refine ⟨B.st.le, B.st.new, fun a o q => ?_, fun a o hx q => ?_, fun a o q => ?_, ?_⟩
      · exact (hs.2 a (fun z => by rw [z, B.offL] at q; cases q)).trans (B.st.live a o q)
      · exact (hs.2 a (fun z => by rw [z, B.lowL] at q; cases q)).trans (B.st.keep a o hx q)
      · obtain ⟨o', ho'⟩ := B.st.dom a o q
        exact ⟨o', (hs.2 a (fun z => by rw [z, B.lowL] at q; cases q)).trans ho'⟩
      · rw [B.st.rest]
    · show (if y = x then some v else m y) = List.lookup y ((x, v) :: vs)
      rw [List.lookup_cons]
      by_cases q : y = x
      · subst q; simp
      · have : (y == x) = false := by simpa using q
        rw [this, if_neg q]; exact e y hy
    · obtain ⟨u, ⟨o, ho, hd⟩, hu⟩ := B.ea.cell y c hc
      have hne : c ≠ env.locals := fun z => by
        refine hide fun Gₕ hGₕ => ?_
        obtain ⟨oL, es, ep, hoL, hdL, _⟩ := hm
        refine hGₕ ?_
        rw [z] at ho; rw [hoL] at ho; cases ho; rw [hdL] at hd; cases hd
      refine ⟨u, ⟨o, (hs.2 c hne).trans ho, hd⟩, fun hy => ?_⟩
      rw [List.lookup_cons]
      have : (y == x) = false := by
        have : y ≠ x := fun z => hy (z ▸ hk)
        simpa using this
      rw [this]; exact hu hy
  · obtain ⟨c, hc, hlow⟩ := hc
    obtain ⟨u, hu, e⟩ := B.ea.cell x c hc
    refine wpAny_storeName_cell B.ea.kind hk hc hu fun h' hn hs => h _ ?_ (.inr ⟨hk, c, hc, hs⟩)
    have hoff := B.offC x c hc
    refine ⟨?_, ⟨B.ea.kind, ?_, fun y c' hc' => ?_, B.ea.apart⟩, B.offL, B.lowL, B.offC⟩
    · refine ⟨B.st.le, B.st.new, fun a o q => ?_, fun a o hx q => ?_, fun a o q => ?_, ?_⟩
      · exact (hs.2 a (fun z => by rw [z, hoff] at q; cases q)).trans (B.st.live a o q)
      · exact (hs.2 a (fun z => by rw [z, hlow] at q; cases q)).trans (B.st.keep a o hx q)
      · obtain ⟨o', ho'⟩ := B.st.dom a o q
        exact ⟨o', (hs.2 a (fun z => by rw [z, hlow] at q; cases q)).trans ho'⟩
      · rw [B.st.rest]
    · obtain ⟨m, hm, em⟩ := B.ea.loc
      refine ⟨m, ?_, fun y hy => ?_⟩
      · obtain ⟨oL, es, ep, hoL, hdL, r⟩ := hm
        obtain ⟨o, ho, hd⟩ := hu
        have hne : env.locals ≠ c := fun z => by rw [← z, hoL] at ho; cases ho; rw [hdL] at hd; cases hd
        exact ⟨oL, es, ep, (hs.2 _ hne).trans hoL, hdL, r⟩
      · rw [List.lookup_cons]
        have : (y == x) = false := by
          have : y ≠ x := fun z => by rw [z, hk] at hy; cases hy
          simpa using this
        rw [this]; exact em y hy
    · by_cases q : y = x
      · subst q
        rw [hc] at hc'; cases hc'
        exact ⟨some v, hn, fun _ => by rw [List.lookup_cons]; simp⟩
      · obtain ⟨u', hu', e'⟩ := B.ea.cell y c' hc'
        have hne : c' ≠ c := fun z => q (name_of_addr B.ea.apart (mem_of_lookup hc') (z ▸ mem_of_lookup hc))
        refine ⟨u', hu'.sameBut hs hne, fun hy => ?_⟩
        rw [List.lookup_cons]
        have : (y == x) = false := by simpa using q
        rw [this]; exact e' hy
end
end
section
open PySem PySem.W PyProof.Rows PySem.Calls
set_option maxRecDepth 100000
set_option maxHeartbeats 1000000
theorem KIn.mono {w : World} {g g' : PH} (h : KIn w g) (le : ∀ a o, g a = some o → g' a = some o) : KIn w g' := ⟨fun a o e => le a o (h.kin a o e), let ⟨o, e, b⟩ := h.bi; ⟨o, le _ _ e, b⟩, let ⟨⟨o, e, r⟩, o1, e1, r1⟩ := h.k4; ⟨⟨o, le _ _ e, r⟩, o1, le _ _ e1, r1⟩⟩
theorem KIn.frag {w : World} {g : PH} {h : Heap} (hK : KIn w g) (live : ∀ a o, g a = some o → h.get? a = some o) : (K2 w.params).In h := fun a o e => live a o (hK.kin a o e)
theorem KIn.four {w : World} {g : PH} {h : Heap} (hK : KIn w g) (live : ∀ a o, g a = some o → h.get? a = some o) : K4 h := let ⟨⟨o, e, r⟩, o1, e1, r1⟩ := hK.k4; ⟨⟨o, live _ _ e, r⟩, o1, live _ _ e1, r1⟩
theorem nolimit {w : World} {h : Heap} (X : (K2 w.params).In h) : h.NoLimit := by
  refine ⟨fun _ => none, ⟨_, #[], 0, X cStatics _ rfl, rfl, fun _ he => by simp at he, fun _ => rfl⟩, rfl⟩

structure Room (A : Around) (n : Nat) : Prop where
  hd : A.handled = none
  dp : A.depth + n ≤ 990
  un : A.units + 8 * n ≤ 9000
  gd : A.guards = some []
theorem Room.deeper {A : Around} {n : Nat} (h : Room A (n + 1)) (env : Env) : Room (A.deeper env) n :=
  ⟨h.hd, by have := h.dp; show A.depth + 1 + n ≤ 990; lia, by have := h.un; show A.units + 3 + 8 * n ≤ 9000; lia, h.gd⟩
theorem Room.in1 {A : Around} {n : Nat} (h : Room A (n + 1)) : Room A.in1 n :=
  ⟨h.hd, by have := h.dp; show A.depth + n ≤ 990; lia, by have := h.un; show A.units + 1 + 8 * n ≤ 9000; lia, h.gd⟩
theorem Room.le {A : Around} {n m : Nat} (h : Room A n) (hm : m ≤ n) : Room A m := ⟨h.hd, by have := h.dp; lia, by have := h.un; lia, h.gd⟩
theorem Room.d {A : Around} {n : Nat} (h : Room A n) : A.depth < recursionLimit := by have := h.dp; show A.depth < 1000; lia
theorem Room.u {A : Around} {n : Nat} (h : Room A n) : A.units < cLine := by have := h.un; show A.units < 9900; lia

theorem bindL_eq {kindOf : Str → Option NameKind} {x : Str} (hx : kindOf x = some .local) : ∀ (binds : List (Str × Value)) (m : Str → Option Value), bindL kindOf binds m x = (binds.reverse.lookup x).or (m x)
  | [], m => by simp [bindL]
  | (n, v) :: r, m => by
    rw [bindL, bindL_eq hx r, List.reverse_cons, List.lookup_append, Option.or_assoc]
    congr 1
    by_cases q : x = n
    · subst q; rw [if_pos hx]; simp
    · have q' : (x == n) = false := by simpa using q
      rw [List.lookup_cons, q', List.lookup_nil, Option.none_or]
      split <;> simp [q]
theorem bindC_eq {kindOf : Str → Option NameKind} {x : Str} (hx : kindOf x ≠ some .local) : ∀ (binds : List (Str × Value)) (m : Str → Option Value), bindC kindOf binds m x = (binds.reverse.lookup x).or (m x)
  | [], m => by simp [bindC]
  | (n, v) :: r, m => by
    rw [bindC, bindC_eq hx r, List.reverse_cons, List.lookup_append, Option.or_assoc]
    congr 1
    by_cases q : x = n
    · subst q; rw [if_neg hx]; simp
    · have q' : (x == n) = false := by simpa using q
      rw [List.lookup_cons, q', List.lookup_nil, Option.none_or]
      split <;> simp [q]

noncomputable abbrev EF : Value → Shared → Prop := fun _ _ => False
theorem wpEF {α : Type} {M : Model} {A : Around} {t : Sem α} {Q : α → Shared → Prop} {E : Value → Shared → Prop} {s : Shared} (h : wpAny M A t Q EF s) : wpAny M A t Q E s :=
  wpAny_mono h (fun _ _ q => q) fun _ _ q => q.elim
noncomputable def flowVal : Flow → Value
  | .ret v => v
  | _ => .none
noncomputable abbrev KFlow (Q : Value → Shared → Prop) : Flow → Shared → Prop := fun fl s' => Q (flowVal fl) s'

section
variable {w : World} {A : Around} {E : Value → Shared → Prop} {X : Addr → Prop} {g₀ g g' : PH} {s₀ s s' : Shared} {env : Env} {vs : List (Str × Value)}

/-- a call of a def of the text -/
theorem fn_call {n : Nat} {f : Addr} {fd : FuncData} {body : List Stmt} {vals : List Value} {binds : List (Str × Value)} {Q : Value → Shared → Prop}
    (live : ∀ a o, g a = some o → s.heap.get? a = some o) (hK : KIn w g) (hR : Room A (n + 1))
    (ho : (K2 w.params).lookup f = some ⟨.type "function", none, .func fd, #[]⟩) (hcd : codeIn (K2 w.params) fd.code fd.qualname = true)
    (hbody : fd.body = .stmts body) (hbind : Looks (model PG w) s.heap (bindArgs fd ⟨vals, []⟩) binds) (hclo : fd.closure = [])
    (hkind : (binds.all fun y => fd.scope.names.lookup y.1 == some .local || fd.scope.names.lookup y.1 == some .cell) = true)
    (h : ∀ A' s₁, Room A' n → A' = A.deeper (callEnvC fd s.heap.objs.size f) → Blk X g s (callEnvC fd s.heap.objs.size f) g s₁ binds.reverse → (∀ y c, (callEnvC fd s.heap.objs.size f).cells.lookup y = some c → s.heap.get? c = none) →
      wpAny (model PG w) A' (execs body (callEnvC fd s.heap.objs.size f)) (KFlow Q) EF s₁)
    (hco : fd.scope.isCoroutine = false) (hgen : fd.scope.isGenerator = false) (hk : fd.scope.kind = .function) :
    wpAny (model PG w) A (call (.ref f) vals) Q E s := by
  have hX := hK.frag live
  refine wpAny_call (codeAny_call_function hR.d (hX _ _ ho) rfl hco hgen hbody (codeRec_of hX hcd) (hbind _ _ _ _ (fun _ _ e => e) ?_))
  rw [hclo]
  refine wpAny_newFunctionEnv_cells hk (kindsX hkind _) fun env he s₁ x => ?_
  subst he
  refine ⟨(nolimit hX).keeps x.toInCall.keep, codeAny_func ?_⟩
  refine wpAny_mono (wpEF (h _ s₁ (hR.deeper _) rfl ?_ fun y c hc => ?_)) (fun fl s' q => ?_) fun e s' q => q
  · have ic := x.toInCall
    refine hide fun Gₕ hGₕ => ?_
    obtain ⟨⟨h', tk, hs⟩, hns, hkeep, hlow⟩ := ic
    refine hGₕ ?_
    have hn : s.heap.get? s.heap.objs.size = none := get?_size _
    refine ⟨⟨fun _ _ e => e, fun _ _ e => .inl e, fun a o e => hkeep a o (live a o e), fun a o _ e => hkeep a o e, fun a o e => ⟨o, hkeep a o e⟩, by rw [hs]⟩, ⟨hk, ⟨_, hns, fun y hy => ?_⟩, fun y c hc => ?_, x.apart⟩, ?_, hn, fun y c hc => ?_⟩
    · refine (bindL_eq hy binds _).trans (by simp)
    · refine ⟨_, x.cell y c hc, fun hy => ?_⟩
      refine (bindC_eq hy binds _).trans (by simp)
    · exact live_none live hn
    · have hlt := x.above y c (mem_of_lookup hc)
      refine live_none live ?_
      cases q : s.heap.get? c with
      | none => rfl
      | some o => exact absurd (Heap.lt_size q) (Nat.not_lt.mpr (Nat.le_of_lt hlt))
  · have hlt := x.above y c (mem_of_lookup hc)
    cases q : s.heap.get? c with
    | none => rfl
    | some o => exact absurd (Heap.lt_size q) (Nat.not_lt.mpr (Nat.le_of_lt hlt))
  · cases fl <;> exact q

theorem glob_ {M : Model} {x : Str} {v : Value} {Q : Value → Shared → Prop} (B : Blk X g₀ s₀ env g s vs) (hK : KIn w g) (hk : env.kindOf x = some .globalImplicit) (hg : env.globals = mainGlobals)
    (e : nsIn (K2 w.params) mainGlobals x = some (some v)) (h : Q v s) : wpAny M A (loadName env x) Q E s := by
  unfold loadName
  simp only [Env.blockKind, B.ea.kind, hk, ScopeKind.isAnnotationScope, Bool.false_and, Bool.false_eq_true, if_false]
  unfold loadGlobal
  rw [hg]
  exact wpAny_bind (looks_nsIn (hK.frag B.live) e _ _ _ _ (fun _ _ e => e) (wpAny_pure h))
theorem bltn_ {M : Model} {x : Str} {v : Value} {Q : Value → Shared → Prop} (B : Blk X g₀ s₀ env g s vs) (hK : KIn w g) (hk : env.kindOf x = some .globalImplicit) (hg : env.globals = mainGlobals) (hb : env.builtins = builtinsNs)
    (e : nsIn (K2 w.params) mainGlobals x = some none) (e' : bootBuiltins x = some v) (h : Q v s) (hne : (x == ("__name__" : Str)) = false := by decide) : wpAny M A (loadName env x) Q E s := by
  unfold loadName
  simp only [Env.blockKind, B.ea.kind, hk, ScopeKind.isAnnotationScope, Bool.false_and, Bool.false_eq_true, if_false]
  unfold loadGlobal
  rw [hg, hb]
  refine wpAny_bind (looks_nsIn (hK.frag B.live) e _ _ _ _ (fun _ _ e => e) (wpAny_bind ?_))
  refine hide fun Gₕ hGₕ => ?_
  obtain ⟨o, ho, _, m, hm, hn⟩ := hK.bi
  refine hGₕ ?_
  refine wpAny_nsGet (hn _ (B.live _ _ ho)) ?_
  rw [hm x hne, e']
  exact wpAny_pure h
end
end
section
open PySem PySem.W PyProof.Rows PySem.Calls
set_option maxRecDepth 100000
set_option maxHeartbeats 1000000
/-- a test's end -/
noncomputable abbrev KTst (gi : PH) (si : Shared) (r : Bool) : Bool → Shared → Prop := fun b s₁ => ∃ g₁, Stp N0 gi g₁ si s₁ ∧ b = r
/-- a source of values: it, what it looks at, what is left -/
structure Src0 (w : World) (it : Addr) (F : Addr → Prop) (St : List (Value → Prop) → Heap → Prop) : Prop where
  itF : F it
  dom : ∀ rest h a, St rest h → F a → ∃ o, h.get? a = some o
  keep : ∀ rest h h', St rest h → (∀ a o, F a → h.get? a = some o → h'.get? a = some o) → St rest h'
  iter : ∀ (A : Around) (Q : Value → Shared → Prop) (E : Value → Shared → Prop) (s : Shared) rest, St rest s.heap → Q (.ref it) s → wpAny (model PG w) A (pyIter (.ref it)) Q E s
structure Src (w : World) (it : Addr) (F : Addr → Prop) (St : List (Value → Prop) → Heap → Prop) : Prop extends Src0 w it F St where
  nil : ∀ (A : Around) (Q : Option Value → Shared → Prop) (E : Value → Shared → Prop) (s : Shared), A.handled = none → St [] s.heap → (∀ h', Heap.ExtBut it s.heap h' → Q none { s with heap := h' }) → wpAny (model PG w) A (pyNext (.ref it)) Q E s
  cons : ∀ (A : Around) (Q : Option Value → Shared → Prop) (E : Value → Shared → Prop) (s : Shared) p rest, St (p :: rest) s.heap →
    (∀ h' tk v, p v → St rest h' → Heap.SameBut it s.heap h' → Q (some v) { s with heap := h', toks := tk }) → wpAny (model PG w) A (pyNext (.ref it)) Q E s

noncomputable def listSt (it l : Addr) (rest : List (Value → Prop)) (h : Heap) : Prop := ∃ (i : Nat) (items : List Value), h.IsListIter it l i ∧ h.IsList l items.toArray ∧ i ≤ items.length ∧ rest = (items.drop i).map fun x v => v = x
theorem listSrc {w : World} {it l : Addr} : Src w it (fun a => a = it ∨ a = l) (listSt it l) where
  itF := .inl rfl
  dom := by
    rintro rest h a ⟨i, items, ⟨o, ho, _⟩, ⟨o', ho', _⟩, _⟩ (rfl | rfl)
    · exact ⟨o, ho⟩
    · exact ⟨o', ho'⟩
  keep := by
    intro rest h h' rᵢ1 k
    refine hide fun Gₕ hGₕ => ?_
    obtain ⟨i, items, ⟨o, ho, r⟩, ⟨o', ho', r'⟩, e⟩ := rᵢ1
    refine hGₕ ?_
    exact ⟨i, items, ⟨o, k _ _ (.inl rfl) ho, r⟩, ⟨o', k _ _ (.inr rfl) ho', r'⟩, e⟩
  iter := by
    intro A Q E s rest rᵢ2 h
    refine hide fun Gₕ hGₕ => ?_
    obtain ⟨i, items, hi, hl, e⟩ := rᵢ2
    refine hGₕ ?_
    exact wpAny_pyIter_listiter hi h
  nil := by
    intro A Q E s hh rᵢ3 h
    refine hide fun Gₕ hGₕ => ?_
    obtain ⟨i, items, hi, hl, hle, e⟩ := rᵢ3
    refine hGₕ ?_
    refine wpAny_pyNext_list_end hh hi hl ?_ h
    have : items.drop i = [] := by
      cases q : items.drop i with
      | nil => rfl
      | cons a b => rw [q] at e; cases e
    have hlen : items.length ≤ i := List.drop_eq_nil_iff.mp this
    simp; lia
  cons := by
    intro A Q E s p rest rᵢ4 h
    refine hide fun Gₕ hGₕ => ?_
    obtain ⟨i, items, hi, hl, hle, e⟩ := rᵢ4
    refine hGₕ ?_
    cases q : items.drop i with
    | nil => rw [q] at e; cases e
    | cons x r =>
      rw [q] at e
      cases e
      have hx : items[i]? = some x := by rw [← List.head?_drop, q]; rfl
      have hlt : i < items.length := (List.getElem?_eq_some_iff.mp hx).1
      refine wpAny_pyNext_list_item hi hl (by simpa using hx) fun h' hi' hs => ?_
      refine h h' s.toks x rfl ⟨i + 1, items, hi', ?_, hlt, ?_⟩ hs
      · obtain ⟨o, ho, hc, hd⟩ := hi
        refine hide fun Gₕ hGₕ => ?_
        obtain ⟨o', ho', hc', r'⟩ := hl
        refine hGₕ ?_
        have : l ≠ it := fun z => by rw [z, ho] at ho'; cases ho'; rw [hc] at hc'; exact absurd hc' (by decide)
        exact ⟨o', (hs.2 l this).trans ho', hc', r'⟩
      · have : items.drop (i + 1) = r := by rw [← List.drop_drop, q]; rfl
        rw [this]

noncomputable def rangeSt (it : Addr) (rest : List (Value → Prop)) (h : Heap) : Prop := ∃ (x : Int) (k : Nat), IsRangeIter h it x k 1 ∧ rest = (List.range k).map fun i v => ∃ t, v = .int (x + i) t
theorem rangeSrc {w : World} {it : Addr} : Src w it (fun a => a = it) (rangeSt it) where
  itF := rfl
  dom := by
    intro rest h a rᵢ5 rᵢ6
    refine hide fun Gₕ hGₕ => ?_
    obtain ⟨x, k, hi, _⟩ := rᵢ5
    obtain rfl := rᵢ6
    refine hGₕ ?_
    exact ⟨_, hi⟩
  keep := by
    intro rest h h' rᵢ7 kk
    refine hide fun Gₕ hGₕ => ?_
    obtain ⟨x, k, hi, e⟩ := rᵢ7
    refine hGₕ ?_
    exact ⟨x, k, kk _ _ rfl hi, e⟩
  iter := by
    intro A Q E s rest rᵢ8 h
    refine hide fun Gₕ hGₕ => ?_
    obtain ⟨x, k, hi, e⟩ := rᵢ8
    refine hGₕ ?_
    exact wpAny_pyIter_rangeiter hi h
  nil := by
    intro A Q E s hh rᵢ9 h
    refine hide fun Gₕ hGₕ => ?_
    obtain ⟨x, k, hi, e⟩ := rᵢ9
    refine hGₕ ?_
    cases k with
    | zero => exact wpAny_pyNext_range_end hh hi (by simp) h
    | succ k => rw [List.range_succ_eq_map] at e; cases e
  cons := by
    intro A Q E s p rest rᵢ10 h
    refine hide fun Gₕ hGₕ => ?_
    obtain ⟨x, k, hi, e⟩ := rᵢ10
    refine hGₕ ?_
    cases k with
    | zero => cases e
    | succ k =>
      rw [List.range_succ_eq_map, List.map_cons, List.map_map] at e
      obtain ⟨e1, e2⟩ := List.cons.inj e
      subst e1 e2
      refine wpAny_pyNext_range_item hi (by lia) fun h' hi' hs => h h' _ _ ⟨s.toks, by simp⟩ ⟨x + 1, k, ?_, ?_⟩ hs
      · have : ((k + 1 : Nat) : Int) - 1 = (k : Int) := by lia
        rw [this] at hi'; exact hi'
      · apply List.map_congr_left
        intro i _
        funext v
        show (∃ t, v = .int (x + ((i + 1 : Nat) : Int)) t) = ∃ t, v = .int (x + 1 + (i : Int)) t
        have : x + ((i + 1 : Nat) : Int) = x + 1 + (i : Int) := by lia
        rw [this]

/-- the cells of a block within env -/
noncomputable def clos (env : Env) : List (Str × NameKind) → List (Str × Addr) → List (Str × Addr)
  | [], acc => acc
  | (n, k) :: r, acc => if k == .free then clos env r ((n, (env.cells.lookup n).getD 0) :: acc) else clos env r acc
theorem closureFor_eq {env : Env} {scope : Scope} (h : (scope.names.all fun p => p.2 != .free || (env.cells.lookup p.1).isSome) = true) : closureFor scope env = pure (clos env scope.names []) := by
  have key : ∀ (names : List (Str × NameKind)) (acc : List (Str × Addr)), (names.all fun p => p.2 != .free || (env.cells.lookup p.1).isSome) = true →
      (forIn names acc fun x (cs : List (Str × Addr)) => if x.2 == .free then (do let a ← cellOf env x.1; pure (ForInStep.yield ((x.1, a) :: cs))) else pure (ForInStep.yield cs) : Sem (List (Str × Addr))) = pure (clos env names acc) := by
    intro names
    induction names with
    | nil => intro acc _; rfl
    | cons x r ih =>
      intro acc hx
      obtain ⟨n, k⟩ := x
      rw [List.all_cons, Bool.and_eq_true] at hx
      rw [List.forIn_cons]
      by_cases hk : (k == NameKind.free) = true
      · have hk' : k = .free := by simpa using hk
        subst hk'
        have hl : (env.cells.lookup n).isSome = true := by simpa using hx.1
        obtain ⟨a, ha⟩ := Option.isSome_iff_exists.mp hl
        have e1 : cellOf env n = pure a := by unfold cellOf; rw [ha]
        simp only [beq_self_eq_true, if_true, e1]
        show (forIn r ((n, a) :: acc) _ : Sem _) = _
        rw [ih _ hx.2]
        show _ = pure (clos env ((n, .free) :: r) acc)
        rw [clos, if_pos (by rfl), ha]; rfl
      · have hk' : (k == NameKind.free) = false := by simpa using hk
        simp only [hk', Bool.false_eq_true, if_false]
        show (forIn r acc _ : Sem _) = _
        rw [ih _ hx.2, clos, if_neg hk]
  unfold closureFor
  have e := key scope.names [] h
  show (forIn scope.names [] _ >>= fun cs => pure cs : Sem _) = _
  have : (forIn scope.names ([] : List (Str × Addr)) fun x (cs : List (Str × Addr)) => if x.2 == .free then (do let a ← cellOf env x.1; pure (ForInStep.yield ((x.1, a) :: cs))) else pure (ForInStep.yield cs) : Sem (List (Str × Addr))) >>= (fun cs => pure cs) = pure (clos env scope.names []) := by rw [e]; rfl
  exact this

noncomputable def ownCell (env : Env) (n : Str) (k : NameKind) : Bool := k == .free && env.scope.kind == .function && env.kindOf n == some .cell
/-- the environment of a comprehension -/
noncomputable def compEnv (scope : Scope) (env : Env) (L : Addr) : Env :=
  { scope := { scope with names := scope.names.map fun x => if ownCell env x.1 x.2 then (x.1, .cell) else (x.1, x.2) }, locals := L, globals := env.globals,
    cells := cellsFrom (L + 1) scope.names (clos env scope.names []), qual := env.qual, func := none, code := env.code, frame := env.frame, builtins := env.builtins }
noncomputable def freeVs (scope : Scope) (vs : List (Str × Value)) : List (Str × Value) := vs.filter fun p => scope.names.lookup p.1 == some .free
theorem lookup_filter {p : Str → Bool} {x : Str} : ∀ (vs : List (Str × Value)), (vs.filter fun q => p q.1).lookup x = if p x then vs.lookup x else none
  | [] => by simp
  | (n, v) :: r => by
    rw [List.filter_cons]
    by_cases hn : p n = true
    · rw [if_pos hn, List.lookup_cons, List.lookup_cons, lookup_filter r]
      by_cases q : x = n
      · subst q; simp [hn]
      · have : (x == n) = false := by simpa using q
        rw [this]
    · rw [if_neg hn, lookup_filter r, List.lookup_cons]
      by_cases q : x = n
      · subst q; simp [hn]
      · have : (x == n) = false := by simpa using q
        rw [this]
theorem lookup_freeVs {scope : Scope} {x : Str} {vs : List (Str × Value)} : (freeVs scope vs).lookup x = if scope.names.lookup x == some .free then vs.lookup x else none := lookup_filter (p := fun n => scope.names.lookup n == some .free) vs

theorem cellsFrom_append : ∀ (names : List (Str × NameKind)) (n : Nat) (acc : List (Str × Addr)), cellsFrom n names acc = cellsFrom n names [] ++ acc
  | [], _, _ => rfl
  | (x, k) :: r, n, acc => by
    unfold cellsFrom
    split
    · rw [cellsFrom_append r _ ((x, n) :: acc), cellsFrom_append r _ [(x, n)]]; simp
    · exact cellsFrom_append r n acc
theorem cellsFrom_mem {x : Str} {c : Addr} : ∀ (names : List (Str × NameKind)) (n : Nat) (acc : List (Str × Addr)), (x, c) ∈ cellsFrom n names acc → (x, NameKind.cell) ∈ names ∨ (x, c) ∈ acc
  | [], _, _, h => .inr h
  | (y, k) :: r, n, acc, h => by
    unfold cellsFrom at h
    split at h
    · rename_i hk
      have hk' : k = .cell := by simpa using hk
      subst hk'
      rcases cellsFrom_mem r _ _ h with q | q
      · exact .inl (List.mem_cons_of_mem _ q)
      · rcases List.mem_cons.mp q with q | q
        · cases q; exact .inl List.mem_cons_self
        · exact .inr q
    · rcases cellsFrom_mem r _ _ h with q | q
      · exact .inl (List.mem_cons_of_mem _ q)
      · exact .inr q
theorem clos_mem {env : Env} {x : Str} {c : Addr} : ∀ (names : List (Str × NameKind)) (acc : List (Str × Addr)), (names.all fun p => p.2 != .free || (env.cells.lookup p.1).isSome) = true → (x, c) ∈ clos env names acc → ((x, NameKind.free) ∈ names ∧ env.cells.lookup x = some c) ∨ (x, c) ∈ acc
  | [], _, _, h => .inr h
  | (y, k) :: r, acc, hx, h => by
    rw [List.all_cons, Bool.and_eq_true] at hx
    unfold clos at h
    split at h
    · rename_i hk
      have hk' : k = .free := by simpa using hk
      subst hk'
      have hl : (env.cells.lookup y).isSome = true := by simpa using hx.1
      obtain ⟨a, ha⟩ := Option.isSome_iff_exists.mp hl
      rcases clos_mem r _ hx.2 h with q | q
      · exact .inl ⟨List.mem_cons_of_mem _ q.1, q.2⟩
      · rcases List.mem_cons.mp q with q | q
        · cases q; exact .inl ⟨List.mem_cons_self, by rw [ha]; rfl⟩
        · exact .inr q
    · rcases clos_mem r _ hx.2 h with q | q
      · exact .inl ⟨List.mem_cons_of_mem _ q.1, q.2⟩
      · exact .inr q
theorem clos_apart {env : Env} (hap : env.cells.Pairwise fun x y => x.2 ≠ y.2) : ∀ (names : List (Str × NameKind)) (acc : List (Str × Addr)), (names.map (·.1)).Nodup → (names.all fun p => p.2 != .free || (env.cells.lookup p.1).isSome) = true →
    (acc.Pairwise fun x y => x.2 ≠ y.2) → (∀ x c, (x, c) ∈ acc → env.cells.lookup x = some c ∧ x ∉ names.map (·.1)) → (clos env names acc).Pairwise fun x y => x.2 ≠ y.2
  | [], _, _, _, h, _ => h
  | (y, k) :: r, acc, hnd, hx, h, hm => by
    rw [List.all_cons, Bool.and_eq_true] at hx
    rw [List.map_cons, List.nodup_cons] at hnd
    unfold clos
    split
    · rename_i hk
      have hk' : k = .free := by simpa using hk
      subst hk'
      have hl : (env.cells.lookup y).isSome = true := by simpa using hx.1
      obtain ⟨a, ha⟩ := Option.isSome_iff_exists.mp hl
      refine clos_apart hap r _ hnd.2 hx.2 (List.pairwise_cons.mpr ⟨fun z hz e => ?_, h⟩) fun x c hc => ?_
      · obtain ⟨e1, e2⟩ := hm z.1 z.2 hz
        rw [ha] at e
        have e' : a = z.2 := e
        have := name_of_addr hap (mem_of_lookup ha) (e' ▸ mem_of_lookup e1)
        exact e2 (by rw [← this]; exact List.mem_cons_self)
      · rcases List.mem_cons.mp hc with q | q
        · cases q; exact ⟨by rw [ha]; rfl, hnd.1⟩
        · exact ⟨(hm x c q).1, fun z => (hm x c q).2 (List.mem_cons_of_mem _ z)⟩
    · exact clos_apart hap r _ hnd.2 hx.2 h fun x c hc => ⟨(hm x c hc).1, fun z => (hm x c hc).2 (List.mem_cons_of_mem _ z)⟩
end
section
open PySem PySem.W PyProof.Rows PySem.Calls
set_option maxRecDepth 100000
set_option maxHeartbeats 2000000
/-- what stands fast in a comprehension's run -/
structure CS (F : Addr → Prop) (scope : Scope) (s : Shared) (cenv : Env) (it acc : Addr) : Prop where
  accs : s.heap.get? acc = none
  its : s.heap.get? it = none
  accF : ¬ F acc
  LF : ¬ F cenv.locals
  accL : acc ≠ cenv.locals
  accC : ∀ x c, cenv.cells.lookup x = some c → c ≠ acc
  itC : ∀ x c, cenv.cells.lookup x = some c → c ≠ it
  own : ∀ x c, (x, NameKind.cell) ∈ scope.names → cenv.cells.lookup x = some c → ¬ F c ∧ s.heap.get? c = none

noncomputable def lstObj (o : Obj) (out : List Value) : Prop := o.cls = .type "list" ∧ ∃ n, o.data = .seq out.toArray n

section
variable {w : World} {A : Around} {E : Value → Shared → Prop} {X : Addr → Prop} {g₀ g : PH} {s₀ s : Shared} {env : Env} {vs : List (Str × Value)}

theorem lt_sz {h : Heap} {a : Addr} {o : Obj} (e : h.get? a = some o) : @LT.lt Nat _ a h.objs.size := Heap.lt_size e
theorem none_of_ge {h : Heap} {a : Addr} (e : @LE.le Nat _ h.objs.size a) : h.get? a = none := by
  cases q : h.get? a with
  | none => rfl
  | some o => exact absurd (lt_sz q) (Nat.not_lt.mpr e)
theorem pushCells_size : ∀ (names : List (Str × NameKind)) (h : Heap), h.objs.size ≤ (pushCells h names).objs.size
  | [], _ => Nat.le_refl _
  | (_, k) :: r, h => by
    unfold pushCells
    split
    · refine Nat.le_trans ?_ (pushCells_size r _); rw [Heap.size_push]; lia
    · exact pushCells_size r h

/-- what a comprehension does behind the making of its block -/
noncomputable def compTail (e : Expr) (scope : Scope) (use : Option (Value → Sem Unit)) (it acc : Value) (cenv : Env) : Sem Value :=
  let vars := scope.names.filter fun (n, k) => (k == .local || k == .cell) && n != (".0" : Str)
  let cellOf? (n : Str) : List Value := ((cenv.cells.lookup n).map Value.ref).toList
  let cellsOf (vs : List (Str × NameKind)) : List Value := vs.flatMap fun (n, k) => if k == .cell then cellOf? n else []
  holding [.ref cenv.locals] do
    match ← (holding (acc :: cellsOf vars) (run (.compStart e 0 it acc cenv))).attempt, use with
    | .ok _, none => holding [acc] (comprehension.letGo cenv cellsOf vars.reverse); pure acc
    | .ok _, some u =>
      rule "comprehension.stores-exchanged"
      holding (cellsOf vars) (u acc)
      comprehension.letGo cenv cellsOf (vars.reverse.drop 1 ++ vars.reverse.take 1)
      pure .none
    | .error x, _ => holding [x] (comprehension.letGo cenv cellsOf vars.reverse); passOn "comprehension.variables-let-go" x cenv

structure SrcC (w : World) (g : PH) (s : Shared) (scope : Scope) (env : Env) (vs : List (Str × Value)) (K : Addr → Addr → Addr → Shared → Prop) (s₂ : Shared) (it : Addr) (F : Addr → Prop) (St : List (Value → Prop) → Heap → Prop) (r : List (Value → Prop)) (g₂ : PH) : Prop where
  src : Src0 w it F St
  st : St r s₂.heap
  stp : Stp N0 g g₂ s s₂
  its : s.heap.get? it = none
  itg : g₂ it = none
  go : ∀ (acc L : Addr) (s₃ : Shared), CS F scope s (compEnv scope env L) it acc → Blk N0 g s (compEnv scope env L) g₂ s₃ (freeVs scope vs) → St r s₃.heap → s₃.heap.IsList acc #[] → g₂ acc = none → K it acc L s₃
noncomputable abbrev SrcE (w : World) (g : PH) (s : Shared) (scope : Scope) (env : Env) (vs : List (Str × Value)) (K : Addr → Addr → Addr → Shared → Prop) : Value → Shared → Prop := fun itv s₂ =>
  ∃ (it : Addr) (F : Addr → Prop) (St : List (Value → Prop) → Heap → Prop) (r : List (Value → Prop)) (g₂ : PH), itv = .ref it ∧ SrcC w g s scope env vs K s₂ it F St r g₂
theorem comp_pre {elt target iter : Expr} {ifs : List Expr} {rest : List Comprehension} {scope : Scope} {pos pos2 : Pos} {use : Option (Value → Sem Unit)} {Q : Value → Shared → Prop}
    (B : Blk X g₀ s₀ env g s vs) (hsc : scope.kind = .function) (hnd : (scope.names.map (·.1)).Nodup)
    (hfr : (scope.names.all fun p => p.2 != .free || (env.cells.lookup p.1).isSome) = true)
    (hfk : (scope.names.all fun p => p.2 != .free || env.kindOf p.1 != some .local) = true)
    (h : wpAny (model PG w) A (eval iter env) (fun x s₁ => wpAny (model PG w) A (pyIter x) (SrcE w g s scope env vs fun it acc L s₃ =>
        (∀ x ∈ (scope.names.filter fun x => (x.2 == .local || x.2 == .cell) && x.1 != (".0" : Str)), x.2 = .local → Env.kindOf (compEnv scope env L) x.1 = some .local) →
        wpAny (model PG w) A (compTail (.ListComp elt (⟨target, iter, ifs, 0⟩ :: rest) scope pos) scope use (.ref it) (.ref acc) (compEnv scope env L)) Q E s₃) E s₁) E s)
    (hs : ∀ x, foldedSetIterable iter env x = pure x := by intro _; rfl) :
    wpAny (model PG w) A (comprehension (.ListComp elt (⟨target, iter, ifs, 0⟩ :: rest) scope pos) scope env pos2 (newList []) false (eval iter env) use) Q E s := by
  unfold comprehension
  rw [closureFor_eq hfr]
  refine wpAny_bind (wpAny_mono h (fun x s₁ h₁ => wpAny_bind (wpAny_standAt (wpAny_bind (wpAny_of_eq (hs x) (wpAny_bind (wpAny_holding (wpAny_mono h₁ (fun itv s₂ h₂ => ?_) fun _ _ e => e))))))) fun _ _ e => e)
  refine hide fun Gₕ hGₕ => ?_
  obtain ⟨it, F, St, r, g₂, rfl, src, hst, st2, its, itg, hloop⟩ := h₂
  refine hGₕ ?_
  refine wpAny_standIf (wpAny_bind (wpAny_newList ?_))
  refine wpAny_bind (wpAny_pure (wpAny_bind ?_))
  -- the environment
  simp only [newFunctionEnv, Option.isSome_some, if_true]
  refine wpAny_bind (wpAny_alloc ?_)
  refine wpAny_bind (wpAny_layCells _ (fun name kind cells => by cases hkc : kind == NameKind.cell <;> simp [hkc]) _ _ _ _ ?_)
  refine wpAny_bind ?_
  rw [List.forIn_nil]
  refine wpAny_pure (wpAny_pure ?_)
  -- names for the heaps
  generalize hh3 : s₂.heap.push { cls := Value.type "list", data := Data.seq ([] : List Value).toArray } = h3
  have e3 : h3.objs.size = s₂.heap.objs.size + 1 := by rw [← hh3]; exact Heap.size_push ..
  generalize hh4 : h3.push { cls := Value.type "dict", data := Data.dict #[] } = h4
  have e4 : h4.objs.size = s₂.heap.objs.size + 2 := by rw [← hh4, Heap.size_push, e3]
  have k3 : ∀ b o, s₂.heap.get? b = some o → h3.get? b = some o := fun b o e => by rw [← hh3]; exact Heap.get?_push_of_some _ e
  have k4 : ∀ b o, h3.get? b = some o → h4.get? b = some o := fun b o e => by rw [← hh4]; exact Heap.get?_push_of_some _ e
  have a3 : h3.get? s₂.heap.objs.size = some { cls := Value.type "list", data := Data.seq ([] : List Value).toArray } := by rw [← hh3]; exact Heap.get?_push_size _ rfl
  have a4 : h4.get? h3.objs.size = some { cls := Value.type "dict", data := Data.dict #[] } := by rw [← hh4]; exact Heap.get?_push_size _ rfl
  have nsL : h4.Ns h3.objs.size fun _ => none := by rw [← hh4]; exact Heap.Ns.new h3 (.type "dict")
  have ok := cellsFrom_ok scope.names h4 h4.objs.size [] ⟨fun _ _ hm => (nomatch hm), List.Pairwise.nil⟩ (Nat.le_refl _)
  generalize hh5 : pushCells h4 scope.names = h5 at ok ⊢
  have k5 : ∀ b o, h4.get? b = some o → h5.get? b = some o := fun b o e => by rw [← hh5]; exact pushCells_keeps _ _ b o e
  have kall : ∀ b o, s₂.heap.get? b = some o → h5.get? b = some o := fun b o e => k5 b o (k4 b o (k3 b o e))
  have sz4 : h4.objs.size = h3.objs.size + 1 := by rw [e4, e3]
  rw [sz4] at ok
  -- the environment is compEnv
  dsimp only
  simp only [sz4]
  have hcells : cellsFrom (h3.objs.size + 1) scope.names (clos env scope.names []) = (compEnv scope env h3.objs.size).cells := rfl
  have hfreeK : ∀ p ∈ scope.names, p.2 = .free → (env.cells.lookup p.1).isSome = true ∧ env.kindOf p.1 ≠ some .local := fun p hp hk => by
    have q1 := List.all_eq_true.mp hfr p hp
    have q2 := List.all_eq_true.mp hfk p hp
    rw [hk] at q1 q2
    exact ⟨by simpa using q1, by simpa using q2⟩
  have lk : ∀ x k, (x, k) ∈ scope.names → scope.names.lookup x = some k := by
    intro x k hm
    have : ∀ (l : List (Str × NameKind)), (l.map (·.1)).Nodup → (x, k) ∈ l → l.lookup x = some k := by
      intro l
      induction l with
      | nil => intro _ h; cases h
      | cons y l ih =>
        intro hn h
        rw [List.map_cons, List.nodup_cons] at hn
        rcases List.mem_cons.mp h with e | h
        · subst e; simp
        · have : x ≠ y.1 := fun z => hn.1 (z ▸ List.mem_map_of_mem (f := (·.1)) h)
          have q : (x == y.1) = false := by simpa using this
          rw [List.lookup_cons, q]; exact ih hn.2 h
    exact this _ hnd hm
  -- a cell of the block: its own, or one of env's
  have cellOfX : ∀ x c, (compEnv scope env h3.objs.size).cells.lookup x = some c →
      ((x, NameKind.cell) ∈ scope.names ∧ h5.IsCell c none ∧ h3.objs.size + 1 ≤ c) ∨ ((x, NameKind.free) ∈ scope.names ∧ env.cells.lookup x = some c) := by
    intro x c hc
    rw [← hcells, cellsFrom_append] at hc
    have hm := mem_of_lookup hc
    rcases List.mem_append.mp hm with q | q
    · rcases cellsFrom_mem _ _ _ q with z | z
      · exact .inl ⟨z, (ok.empty x c q).1, (ok.empty x c q).2⟩
      · cases z
    · rcases clos_mem _ _ hfr q with z | z
      · exact .inr z
      · cases z
  have outerLt : ∀ x c, env.cells.lookup x = some c → @LT.lt Nat _ c s₂.heap.objs.size := fun x c hc => by
    obtain ⟨o, ho⟩ := B.domC hc
    exact lt_sz (st2.keep0 c o ho)
  have Lnone : s.heap.get? h3.objs.size = none := by
    cases q : s.heap.get? h3.objs.size with
    | none => rfl
    | some o => have := lt_sz (st2.keep0 _ o q); lia
  have accnone : s.heap.get? s₂.heap.objs.size = none := by
    cases q : s.heap.get? s₂.heap.objs.size with
    | none => rfl
    | some o => have := lt_sz (st2.keep0 _ o q); lia
  have Fout : ∀ a, F a → @LT.lt Nat _ a s₂.heap.objs.size := fun a ha => by obtain ⟨o, ho⟩ := src.dom _ _ _ hst ha; exact lt_sz ho
  have gout : ∀ a, @LE.le Nat _ s₂.heap.objs.size a → g₂ a = none := fun a ha => live_none st2.live (none_of_ge ha)
  have cs : CS F scope s (compEnv scope env h3.objs.size) it s₂.heap.objs.size := by
    refine ⟨accnone, its, fun hF => Nat.lt_irrefl _ (Fout _ hF), fun hF => ?_, ?_, fun x c hc => ?_, fun x c hc => ?_, fun x c hx hc => ?_⟩
    · have := Fout _ hF; have : h3.objs.size < s₂.heap.objs.size := this; lia
    · show s₂.heap.objs.size ≠ h3.objs.size; lia
    · rcases cellOfX x c hc with ⟨_, _, q⟩ | ⟨_, q⟩
      · exact fun z => by have z' : @Eq Nat c s₂.heap.objs.size := z; lia
      · have := outerLt x c q; exact fun z => by have z' : @Eq Nat c s₂.heap.objs.size := z; lia
    · have hit := Fout _ src.itF
      rcases cellOfX x c hc with ⟨_, _, q⟩ | ⟨_, q⟩
      · exact fun z => by have z' : @Eq Nat c it := z; lia
      · intro z
        obtain ⟨o, ho⟩ := B.domC q
        rw [z, its] at ho; cases ho
    · rcases cellOfX x c hc with ⟨_, _, q⟩ | ⟨z, q⟩
      · refine ⟨fun hF => ?_, ?_⟩
        · have := Fout _ hF; lia
        · cases q' : s.heap.get? c with
          | none => rfl
          | some o => have := lt_sz (st2.keep0 _ o q'); lia
      · have z1 := lk _ _ hx; have z2 := lk _ _ z; rw [z1] at z2; cases z2
  have blk : Blk N0 g s (compEnv scope env h3.objs.size) g₂ { s₂ with heap := h5 } (freeVs scope vs) := by
    refine ⟨⟨st2.le, st2.new, fun a o e => kall a o (st2.live a o e), fun a o _ e => kall a o (st2.keep0 a o e), fun a o e => ⟨o, kall a o (st2.keep0 a o e)⟩, ?_⟩, ⟨hsc, ⟨fun _ => none, nsL.keeps k5, fun x hx => ?_⟩, fun x c hc => ?_, ?_⟩, ?_, Lnone, fun x c hc => ?_⟩
    · rw [st2.rest]
    · rw [lookup_freeVs]
      have hx' : (scope.names.map fun y => if ownCell env y.1 y.2 then (y.1, NameKind.cell) else (y.1, y.2)).lookup x = some NameKind.local := hx
      have hnf : ¬ scope.names.lookup x = some .free := fun z => by
        have gen : ∀ (l : List (Str × NameKind)), l.lookup x = some .free → (l.map fun y => if ownCell env y.1 y.2 then (y.1, NameKind.cell) else (y.1, y.2)).lookup x ≠ some .local := by
          intro l
          induction l with
          | nil => intro h; cases h
          | cons y l ih =>
            intro h
            rw [List.lookup_cons] at h
            rw [List.map_cons]
            by_cases q : x = y.1
            · subst q
              simp only [beq_self_eq_true] at h
              cases h' : y.2 with
              | free => cases hoc : ownCell env y.1 NameKind.free <;> simp
              | _ => rw [h'] at h; cases h
            · have q' : (x == y.1) = false := by simpa using q
              rw [q'] at h
              have : (if ownCell env y.1 y.2 then (y.1, NameKind.cell) else (y.1, y.2)).1 = y.1 := by split <;> rfl
              rw [List.lookup_cons, this, q']
              exact ih h
        exact gen _ z hx'
      have : (scope.names.lookup x == some .free) = false := by simpa using hnf
      rw [this]; rfl
    · rcases cellOfX x c hc with ⟨hm, hcell, _⟩ | ⟨hm, hl⟩
      · refine ⟨none, hcell, fun _ => ?_⟩
        rw [lookup_freeVs, lk _ _ hm]; rfl
      · obtain ⟨v, hv, e⟩ := B.ea.cell x c hl
        refine ⟨v, (hv.keeps st2.keep0).keeps kall, fun _ => ?_⟩
        rw [lookup_freeVs, lk _ _ hm]
        exact e (hfreeK _ hm rfl).2
    · rw [← hcells, cellsFrom_append, List.pairwise_append]
      refine ⟨ok.apart, clos_apart B.ea.apart _ _ hnd hfr List.Pairwise.nil (fun _ _ hm => (nomatch hm)), fun x hx y hy => ?_⟩
      have h1 := (ok.empty x.1 x.2 hx).2
      rcases clos_mem _ _ hfr (show (y.1, y.2) ∈ _ from hy) with ⟨_, z⟩ | z
      · have := outerLt _ _ z; exact fun z => by have z' : @Eq Nat x.2 y.2 := z; lia
      · cases z
    · exact gout _ (by show @LE.le Nat _ s₂.heap.objs.size h3.objs.size; lia)
    · rcases cellOfX x c hc with ⟨_, _, q⟩ | ⟨_, q⟩
      · exact gout _ (by lia)
      · cases q' : g₂ c with
        | none => rfl
        | some o =>
          rcases st2.new _ _ q' with z | z
          · rw [B.offC x c q] at z; cases z
          · obtain ⟨o', ho'⟩ := B.domC q; rw [ho'] at z; cases z
  have hst5 : St r h5 := src.keep _ _ _ hst fun a o _ e => kall a o e
  have hacc5 : h5.IsList s₂.heap.objs.size #[] := ⟨_, k5 _ _ (k4 _ _ a3), rfl, _, rfl⟩
  have hv : ∀ x ∈ (scope.names.filter fun x => (x.2 == .local || x.2 == .cell) && x.1 != (".0" : Str)), x.2 = .local →
      Env.kindOf (compEnv scope env h3.objs.size) x.1 = some .local := fun x hx hloc => by
    have hm : x ∈ scope.names := (List.mem_filter.mp hx).1
    have gen : ∀ (l : List (Str × NameKind)), l.lookup x.1 = some .local → (l.map fun y => if ownCell env y.1 y.2 then (y.1, NameKind.cell) else (y.1, y.2)).lookup x.1 = some .local := by
      intro l
      induction l with
      | nil => intro h; cases h
      | cons y l ih =>
        intro h
        rw [List.lookup_cons] at h
        rw [List.map_cons]
        by_cases q : x.1 = y.1
        · rw [q] at h ⊢
          simp only [beq_self_eq_true] at h
          have hy : y.2 = .local := Option.some.inj h
          have : ownCell env y.1 y.2 = false := by unfold ownCell; rw [hy]; rfl
          rw [this]; simp [hy]
        · have q' : (x.1 == y.1) = false := by simpa using q
          rw [q'] at h
          have : (if ownCell env y.1 y.2 then (y.1, NameKind.cell) else (y.1, y.2)).1 = y.1 := by split <;> rfl
          rw [List.lookup_cons, this, q']
          exact ih h
    have := lk x.1 x.2 (by simpa using hm)
    rw [hloc] at this
    exact gen _ this
  exact hloop s₂.heap.objs.size h3.objs.size { s₂ with heap := h5 } cs blk hst5 hacc5 (gout _ (Nat.le_refl _)) hv

theorem comp_enter {elt target iter : Expr} {ifs : List Expr} {rest : List Comprehension} {scope : Scope} {pos : Pos} {Q : Value → Shared → Prop}
    (B : Blk X g₀ s₀ env g s vs) (hsc : scope.kind = .function) (hnd : (scope.names.map (·.1)).Nodup)
    (hfr : (scope.names.all fun p => p.2 != .free || (env.cells.lookup p.1).isSome) = true)
    (hfk : (scope.names.all fun p => p.2 != .free || env.kindOf p.1 != some .local) = true)
    (h : wpAny (model PG w) A (eval iter env) (fun x s₁ => wpAny (model PG w) A (pyIter x) (SrcE w g s scope env vs fun it acc L s₃ =>
        codeAny (model PG w) A (.compLoop (.ListComp elt (⟨target, iter, ifs, 0⟩ :: rest) scope pos) 0 (.ref it) (.ref acc) (compEnv scope env L))
          (fun r s' => r = .ok .next ∧ ∃ out g' vs', s'.heap.IsList acc out ∧ Blk N0 g s (compEnv scope env L) g' s' vs' ∧ g' acc = none ∧
            ∀ sQ o, Stp N0 g (g'.put acc o) s sQ → o.cls = .type "list" → (∃ n, o.data = .seq out n) → Q (.ref acc) sQ) s₃) E s₁) E s)
    (hs : ∀ x, foldedSetIterable iter env x = pure x := by intro _; rfl) :
    wpAny (model PG w) A (eval (.ListComp elt (⟨target, iter, ifs, 0⟩ :: rest) scope pos) env) Q E s := by
  rw [eval_ListComp]
  refine comp_pre (use := none) B hsc hnd hfr hfk (wpAny_mono h (fun x s₁ h₁ => wpAny_mono h₁ (fun itv s₂ h₂ => ?_) fun _ _ e => e) fun _ _ e => e) hs
  refine hide fun Gₕ hGₕ => ?_
  obtain ⟨it, F, St, r, g₂, rfl, src, hst, st2, its, itg, hloop⟩ := h₂
  refine hGₕ ?_
  refine ⟨it, F, St, r, g₂, rfl, src, hst, st2, its, itg, fun acc L s₃ cs blk hst3 hacc3 hg3 hv => ?_⟩
  have hl := hloop acc L s₃ cs blk hst3 hacc3 hg3
  have step : ∀ {R : Result → Shared → Prop}, codeAny (model PG w) A (.compLoop (.ListComp elt (⟨target, iter, ifs, 0⟩ :: rest) scope pos) 0 (.ref it) (.ref acc) (compEnv scope env L)) R s₃ →
      codeAny (model PG w) A (.compStart (.ListComp elt (⟨target, iter, ifs, 0⟩ :: rest) scope pos) 0 (.ref it) (.ref acc) (compEnv scope env L)) R s₃ := fun h =>
    codeAny_compStart_list h (src.iter _ _ _ s₃ _ hst3 h)
  unfold compTail
  refine wpAny_holding (wpAny_bind (wpAny_attempt (wpAny_holding (wpAny_run (show codeAny (model PG w) A (.compStart (.ListComp elt (⟨target, iter, ifs, 0⟩ :: rest) scope pos) 0 (.ref it) (.ref acc) (compEnv scope env L)) _ s₃ from codeAny_mono (step hl) fun r s' hr => ?_)))))
  refine hide fun Gₕ hGₕ => ?_
  obtain ⟨rfl, out, g', vs', hlist, blk', haccg, hQ⟩ := hr
  obtain ⟨m, hns, _⟩ := blk'.ea.loc
  refine hGₕ ?_
  refine wpAny_bind (wpAny_holding (wpAny_comp_letGo (cenv := compEnv scope env L) hsc _ s' m (fun x hx => hv x (List.mem_reverse.mp hx)) hns fun h' m' _ hs' => wpAny_pure ?_))
  refine hide fun Gₕ hGₕ => ?_
  obtain ⟨o, ho, hc, n, hd⟩ := hlist
  refine hGₕ ?_
  refine hQ _ o ?_ hc ⟨n, hd⟩
  refine ⟨fun a p e => PH.put_le haccg a p (blk'.st.le a p e), fun a p e => ?_, fun a p e => ?_, fun a p hx e => ?_, fun a p e => ?_, ?_⟩
  · unfold PH.put at e
    split at e
    · rename_i q; subst q; exact .inr cs.accs
    · exact blk'.st.new a p e
  · unfold PH.put at e
    split at e
    · rename_i q; subst q; cases e; exact (hs'.2 _ cs.accL).trans ho
    · exact (hs'.2 a (fun z => by rw [z, blk'.offL] at e; cases e)).trans (blk'.st.live a p e)
  · exact (hs'.2 a (fun z => by rw [z, blk'.lowL] at e; cases e)).trans (blk'.st.keep a p hx e)
  · obtain ⟨o', ho'⟩ := blk'.st.dom a p e
    exact ⟨o', (hs'.2 a (fun z => by rw [z, blk'.lowL] at e; cases e)).trans ho'⟩
  · rw [blk'.st.rest]

/-- the comprehension of «x = [..]» where x is a local: the store comes ahead of the letting go -/
theorem comp_use {elt target iter : Expr} {ifs : List Expr} {rest : List Comprehension} {scope : Scope} {pos pos2 : Pos} {x : Str} {px : Pos} {Q : Flow → Shared → Prop}
    (B : Blk X g₀ s₀ env g s vs) (hsc : scope.kind = .function) (hnd : (scope.names.map (·.1)).Nodup)
    (hfr : (scope.names.all fun p => p.2 != .free || (env.cells.lookup p.1).isSome) = true)
    (hfk : (scope.names.all fun p => p.2 != .free || env.kindOf p.1 != some .local) = true)
    (hxl : env.kindOf x = some .local) (hsw : swapsWith (.ListComp elt (⟨target, iter, ifs, 0⟩ :: rest) scope pos) (some (.Name x px)) pos2.line env = pure true)
    (h : wpAny (model PG w) A (eval iter env) (fun iv s₁ => wpAny (model PG w) A (pyIter iv) (SrcE w g s scope env vs fun it acc L s₃ =>
        codeAny (model PG w) A (.compLoop (.ListComp elt (⟨target, iter, ifs, 0⟩ :: rest) scope pos) 0 (.ref it) (.ref acc) (compEnv scope env L))
          (fun r s' => r = .ok .next ∧ ∃ out g' vs', s'.heap.IsList acc out ∧ Blk N0 g s (compEnv scope env L) g' s' vs' ∧ g' acc = none ∧
            ∀ s'' o, o.cls = .type "list" → (∃ n, o.data = .seq out n) → Blk X g₀ s₀ env (g'.put acc o) s'' ((x, .ref acc) :: vs) → (∀ a p, a ≠ env.locals → s.heap.get? a = some p → s''.heap.get? a = some p) → (∀ a p, (g'.put acc o) a = some p → g a = some p ∨ s.heap.get? a = none) → Q .next s'') s₃) E s₁) E s)
    (hs : ∀ x, foldedSetIterable iter env x = pure x := by intro _; rfl) :
    wpAny (model PG w) A (exec (.Assign [.Name x px] (.ListComp elt (⟨target, iter, ifs, 0⟩ :: rest) scope pos) pos2) env) Q E s := by
  rw [exec_Assign_Name_used x px _ pos2 hsw]
  refine wpAny_bind (wpAny_standAt (wpAny_bind ?_))
  show wpAny _ _ (comprehension (.ListComp elt (⟨target, iter, ifs, 0⟩ :: rest) scope pos) scope env (firstIterPos (⟨target, iter, ifs, 0⟩ :: rest) pos) (newList []) (firstAsync (⟨target, iter, ifs, 0⟩ :: rest)) (firstIter (⟨target, iter, ifs, 0⟩ :: rest) env) (some (assign (.Name x px) env)) >>= fun _ => pure ()) _ _ _
  refine wpAny_bind ?_
  refine comp_pre (use := some (assign (.Name x px) env)) B hsc hnd hfr hfk (wpAny_mono h (fun x s₁ h₁ => wpAny_mono h₁ (fun itv s₂ h₂ => ?_) fun _ _ e => e) fun _ _ e => e) hs
  refine hide fun Gₕ hGₕ => ?_
  obtain ⟨it, F, St, r, g₂, rfl, src, hst, st2, its, itg, hloop⟩ := h₂
  refine hGₕ ?_
  refine ⟨it, F, St, r, g₂, rfl, src, hst, st2, its, itg, fun acc L s₃ cs blk hst3 hacc3 hg3 hv => ?_⟩
  have hl := hloop acc L s₃ cs blk hst3 hacc3 hg3
  have step : ∀ {R : Result → Shared → Prop}, codeAny (model PG w) A (.compLoop (.ListComp elt (⟨target, iter, ifs, 0⟩ :: rest) scope pos) 0 (.ref it) (.ref acc) (compEnv scope env L)) R s₃ →
      codeAny (model PG w) A (.compStart (.ListComp elt (⟨target, iter, ifs, 0⟩ :: rest) scope pos) 0 (.ref it) (.ref acc) (compEnv scope env L)) R s₃ := fun h =>
    codeAny_compStart_list h (src.iter _ _ _ s₃ _ hst3 h)
  unfold compTail
  refine wpAny_holding (wpAny_bind (wpAny_attempt (wpAny_holding (wpAny_run (show codeAny (model PG w) A (.compStart (.ListComp elt (⟨target, iter, ifs, 0⟩ :: rest) scope pos) 0 (.ref it) (.ref acc) (compEnv scope env L)) _ s₃ from codeAny_mono (step hl) fun r s' hr => ?_)))))
  refine hide fun Gₕ hGₕ => ?_
  obtain ⟨rfl, out, g', vs', hlist, blk', haccg, hQ⟩ := hr
  obtain ⟨o, ho, hc, n, hd⟩ := hlist
  refine hGₕ ?_
  have stN : Stp N0 g (g'.put acc o) s s' := by
    refine ⟨fun a p e => PH.put_le haccg a p (blk'.st.le a p e), fun a p e => ?_, fun a p e => ?_, blk'.st.keep, blk'.st.dom, blk'.st.rest⟩
    · unfold PH.put at e
      split at e
      · rename_i q; subst q; exact .inr cs.accs
      · exact blk'.st.new a p e
    · unfold PH.put at e
      split at e
      · rename_i q; subst q; cases e; exact ho
      · exact blk'.st.live a p e
  have B1 := B.step stN
  have hLne : env.locals ≠ L := fun z => by obtain ⟨oL, hoL⟩ := B.domL; rw [z, show s.heap.get? L = none from blk'.lowL] at hoL; cases hoL
  refine wpAny_bind (wpAny_rule (wpAny_bind (wpAny_holding (wpAny_assign_Name (st_ B1 (.inl hxl) fun s5 B5 hch => ?_)))))
  have hsame : Heap.SameBut env.locals s'.heap s5.heap := by
    rcases hch with ⟨_, q⟩ | ⟨hk, _⟩
    · exact q
    · rw [hxl] at hk; cases hk
  obtain ⟨m, hns, _⟩ := blk'.ea.loc
  have hns5 : s5.heap.Ns L m := hns.sameBut hsame (Ne.symm hLne)
  refine wpAny_bind (wpAny_comp_letGo (cenv := compEnv scope env L) hsc _ s5 m (fun y hy hloc => hv y ?_ hloc) hns5 fun h' m' _ hs' => wpAny_pure (wpAny_pure (wpAny_pure ?_)))
  · rcases List.mem_append.mp hy with q | q
    · exact List.mem_reverse.mp (List.mem_of_mem_drop q)
    · exact List.mem_reverse.mp (List.mem_of_mem_take q)
  · refine hQ _ o hc ⟨n, hd⟩ ?_ (fun a p hne e => hs'.extBut a p (fun z => by rw [z, show s.heap.get? (compEnv scope env L).locals = none from blk'.lowL] at e; cases e) ((hsame.2 a hne).trans (stN.keep0 a p e))) stN.new
    have hgL : (g'.put acc o) L = none := by
      unfold PH.put
      rw [if_neg (fun z => cs.accL z.symm)]; exact blk'.offL
    have h0L : s₀.heap.get? L = none := by
      cases q : s₀.heap.get? L with
      | none => rfl
      | some o' => obtain ⟨o2, h2⟩ := B.st.dom _ _ q; rw [show s.heap.get? L = none from blk'.lowL] at h2; cases h2
    have hCL : ∀ y c, env.cells.lookup y = some c → c ≠ L := fun y c hc z => by obtain ⟨oc, hoc⟩ := B.domC hc; rw [z, show s.heap.get? L = none from blk'.lowL] at hoc; cases hoc
    have hs6 := hs'.extBut
    refine ⟨⟨B5.st.le, B5.st.new, fun a p e => hs6 a p (fun z => by rw [z] at e; rw [show ((g'.put acc o) (compEnv scope env L).locals) = none from hgL] at e; cases e) (B5.live a p e), fun a p hx e => hs6 a p (fun z => by rw [z, show s₀.heap.get? (compEnv scope env L).locals = none from h0L] at e; cases e) (B5.st.keep a p hx e), fun a p e => ?_, ?_⟩,
      B5.ea.keepsBut (X := fun a => a = L) (fun a p hn e => hs6 a p hn e) (fun z => hLne z) (fun y c hc z => hCL y c hc z), B5.offL, B5.lowL, B5.offC⟩
    · obtain ⟨o', ho'⟩ := B5.st.dom a p e
      exact ⟨o', hs6 a o' (fun z => by rw [z, show s₀.heap.get? (compEnv scope env L).locals = none from h0L] at e; cases e) ho'⟩
    · rw [B5.st.rest]

/-- a list object of the known part -/
noncomputable def ListAt (g : PH) (a : Addr) (vs : List Value) : Prop := ∃ o, g a = some o ∧ lstObj o vs
/-- a comprehension's source and loop go through; fin: what is known of the list at the end -/
noncomputable def CompOK (w : World) (A : Around) (E : Value → Shared → Prop) (elt target iter : Expr) (ifs : List Expr) (rest : List Comprehension) (scope : Scope) (pos : Pos) (env : Env) (g : PH) (s : Shared) (vs : List (Str × Value)) (fin : List Value → PH → Prop) : Prop :=
  wpAny (model PG w) A (eval iter env) (fun iv s₁ => wpAny (model PG w) A (pyIter iv) (SrcE w g s scope env vs fun it acc L s₃ =>
        codeAny (model PG w) A (.compLoop (.ListComp elt (⟨target, iter, ifs, 0⟩ :: rest) scope pos) 0 (.ref it) (.ref acc) (compEnv scope env L))
          (fun r s' => r = .ok .next ∧ ∃ out g' vs', s'.heap.IsList acc out.toArray ∧ Blk N0 g s (compEnv scope env L) g' s' vs' ∧ g' acc = none ∧ fin out g') s₃) E s₁) E s

theorem comp_eval {elt target iter : Expr} {ifs : List Expr} {rest : List Comprehension} {scope : Scope} {pos : Pos} {Q : Value → Shared → Prop} {fin : List Value → PH → Prop}
    (B : Blk X g₀ s₀ env g s vs) (h : CompOK w A E elt target iter ifs rest scope pos env g s vs fin)
    (hQ : ∀ acc out g' g'' s', fin out g' → (∀ a o, g' a = some o → g'' a = some o) → ListAt g'' acc out → Stp N0 g g'' s s' → Q (.ref acc) s')
    (hsc : scope.kind = .function := by rfl) (hnd : (scope.names.map (·.1)).Nodup := by decide)
    (hfr : (scope.names.all fun p => p.2 != .free || (env.cells.lookup p.1).isSome) = true := by rfl)
    (hfk : (scope.names.all fun p => p.2 != .free || env.kindOf p.1 != some .local) = true := by rfl)
    (hs : ∀ x, foldedSetIterable iter env x = pure x := by intro _; rfl) :
    wpAny (model PG w) A (eval (.ListComp elt (⟨target, iter, ifs, 0⟩ :: rest) scope pos) env) Q E s := by
  refine comp_enter B hsc hnd hfr hfk (wpAny_mono h (fun v s₁ h₁ => wpAny_mono h₁ (fun itv s₂ h₂ => ?_) fun _ _ e => e) fun _ _ e => e) hs
  refine hide fun Gₕ hGₕ => ?_
  obtain ⟨it, F, St, r, g₂, rfl, src, hst, st2, its, itg, hloop⟩ := h₂
  refine hGₕ ?_
  refine ⟨it, F, St, r, g₂, rfl, src, hst, st2, its, itg, fun acc L s₃ cs blk hst3 hl3 ha3 => codeAny_mono (hloop acc L s₃ cs blk hst3 hl3 ha3) fun r s' hr => ?_⟩
  refine hide fun Gₕ hGₕ => ?_
  obtain ⟨hr, out, g', vs', hl, Bf, ha, hf⟩ := hr
  refine hGₕ ?_
  exact ⟨hr, out.toArray, g', vs', hl, Bf, ha, fun sQ o st hc hd => hQ acc out g' _ sQ hf (PH.put_le ha) ⟨o, PH.put_self, hc, hd⟩ st⟩

theorem comp_assign2 {elt target iter : Expr} {ifs : List Expr} {rest : List Comprehension} {scope : Scope} {pos pos2 : Pos} {x : Str} {px : Pos} {Q : Flow → Shared → Prop} {fin : List Value → PH → Prop}
    (B : Blk X g₀ s₀ env g s vs) (h : CompOK w A E elt target iter ifs rest scope pos env g s vs fin)
    (hQ : ∀ acc out g' g'' s', fin out g' → (∀ a o, g' a = some o → g'' a = some o) → (∀ a o, g a = some o → g'' a = some o) → ListAt g'' acc out → Blk X g₀ s₀ env g'' s' ((x, .ref acc) :: vs) → (∀ a p, a ≠ env.locals → s.heap.get? a = some p → s'.heap.get? a = some p) → (∀ a p, g'' a = some p → g a = some p ∨ s.heap.get? a = none) → Q .next s')
    (hxl : env.kindOf x = some .local := by rfl) (hsw : swapsWith (.ListComp elt (⟨target, iter, ifs, 0⟩ :: rest) scope pos) (some (.Name x px)) pos2.line env = pure true := by rfl)
    (hsc : scope.kind = .function := by rfl) (hnd : (scope.names.map (·.1)).Nodup := by decide)
    (hfr : (scope.names.all fun p => p.2 != .free || (env.cells.lookup p.1).isSome) = true := by rfl)
    (hfk : (scope.names.all fun p => p.2 != .free || env.kindOf p.1 != some .local) = true := by rfl)
    (hs : ∀ x, foldedSetIterable iter env x = pure x := by intro _; rfl) :
    wpAny (model PG w) A (exec (.Assign [.Name x px] (.ListComp elt (⟨target, iter, ifs, 0⟩ :: rest) scope pos) pos2) env) Q E s := by
  refine comp_use B hsc hnd hfr hfk hxl hsw (wpAny_mono h (fun v s₁ h₁ => wpAny_mono h₁ (fun itv s₂ h₂ => ?_) fun _ _ e => e) fun _ _ e => e) hs
  refine hide fun Gₕ hGₕ => ?_
  obtain ⟨it, F, St, r, g₂, rfl, src, hst, st2, its, itg, hloop⟩ := h₂
  refine hGₕ ?_
  refine ⟨it, F, St, r, g₂, rfl, src, hst, st2, its, itg, fun acc L s₃ cs blk hst3 hl3 ha3 => codeAny_mono (hloop acc L s₃ cs blk hst3 hl3 ha3) fun r s' hr => ?_⟩
  refine hide fun Gₕ hGₕ => ?_
  obtain ⟨hr, out, g', vs', hl, Bf, ha, hf⟩ := hr
  refine hGₕ ?_
  exact ⟨hr, out.toArray, g', vs', hl, Bf, ha, fun s'' o hc hd Bq kk nn => hQ acc out g' _ s'' hf (PH.put_le ha) (fun a p e => PH.put_le ha a p (Bf.st.le a p e)) ⟨o, PH.put_self, hc, hd⟩ Bq kk nn⟩
theorem comp_assign {elt target iter : Expr} {ifs : List Expr} {rest : List Comprehension} {scope : Scope} {pos pos2 : Pos} {x : Str} {px : Pos} {Q : Flow → Shared → Prop} {fin : List Value → PH → Prop}
    (B : Blk X g₀ s₀ env g s vs) (h : CompOK w A E elt target iter ifs rest scope pos env g s vs fin)
    (hQ : ∀ acc out g' g'' s', fin out g' → (∀ a o, g' a = some o → g'' a = some o) → (∀ a o, g a = some o → g'' a = some o) → ListAt g'' acc out → Blk X g₀ s₀ env g'' s' ((x, .ref acc) :: vs) → Q .next s')
    (hxl : env.kindOf x = some .local := by rfl) (hsw : swapsWith (.ListComp elt (⟨target, iter, ifs, 0⟩ :: rest) scope pos) (some (.Name x px)) pos2.line env = pure true := by rfl)
    (hsc : scope.kind = .function := by rfl) (hnd : (scope.names.map (·.1)).Nodup := by decide)
    (hfr : (scope.names.all fun p => p.2 != .free || (env.cells.lookup p.1).isSome) = true := by rfl)
    (hfk : (scope.names.all fun p => p.2 != .free || env.kindOf p.1 != some .local) = true := by rfl)
    (hs : ∀ x, foldedSetIterable iter env x = pure x := by intro _; rfl) :
    wpAny (model PG w) A (exec (.Assign [.Name x px] (.ListComp elt (⟨target, iter, ifs, 0⟩ :: rest) scope pos) pos2) env) Q E s := by
  exact comp_assign2 B h (fun acc out g' g'' s' a b c d e _ _ => hQ acc out g' g'' s' a b c d e) hxl hsw hsc hnd hfr hfk hs
end
end
section
open PySem PySem.W PyProof.Rows PySem.Calls
set_option maxRecDepth 100000
set_option maxHeartbeats 2000000
section
variable {w : World} {A : Around} {E : Value → Shared → Prop} {X : Addr → Prop} {g₀ g : PH} {s₀ s : Shared} {env cenv : Env} {vs fv : List (Str × Value)} {scope : Scope}
  {F : Addr → Prop} {St : List (Value → Prop) → Heap → Prop} {it acc : Addr}

/-- after pyNext: the source's own object alone has turned -/
theorem Blk.ended {gi : PH} {si : Shared} {h' : Heap} {tk : Nat} (B : Blk X g₀ s₀ env gi si vs) (hs : Heap.ExtBut it si.heap h') (hg : gi it = none) (h0 : s₀.heap.get? it = none)
    (hL : it ≠ env.locals) (hC : ∀ x c, env.cells.lookup x = some c → c ≠ it) : Blk X g₀ s₀ env gi { si with heap := h', toks := tk } vs := by
  refine ⟨⟨B.st.le, B.st.new, fun a o e => hs a o (fun z => by rw [z, hg] at e; cases e) (B.live a o e), fun a o hx e => hs a o (fun z => by rw [z, h0] at e; cases e) (B.st.keep a o hx e), fun a o e => ?_, ?_⟩,
    B.ea.keepsBut (X := fun a => a = it) (fun a o hn e => hs a o hn e) (fun z => hL z.symm) (fun x c hc z => hC x c hc z), B.offL, B.lowL, B.offC⟩
  · obtain ⟨o', ho'⟩ := B.st.dom a o e
    exact ⟨o', hs a o' (fun z => by rw [z, h0] at e; cases e) ho'⟩
  · rw [B.st.rest]

theorem comp_loop {e : Expr} {depth : Nat} {x : Str} {px p0 : Pos} {body : Sem Unit} {V : Str → Prop} {Kp : Addr → Prop} {R : Result → Shared → Prop}
    (src : Src w it F St) (cs : CS F scope s cenv it acc) (hh : A.handled = none)
    (hx : cenv.kindOf x = some .local ∨ cenv.kindOf x = some .cell ∧ (x, NameKind.cell) ∈ scope.names ∧ (cenv.cells.lookup x).isSome = true)
    (heq : compTurn e depth (.ref it) (.ref acc) cenv = (standAt p0 >>= fun _ => pyNext (.ref it) >>= fun r => match r with
      | none => pure (.done .next)
      | some v => letOwnedTupleGo (.Name x px) (.ref it) v >>= fun _ => assign (.Name x px) cenv v >>= fun _ => body >>= fun _ => again (.compLoop e depth (.ref it) (.ref acc) cenv)))
    (hfrm : (Code.compLoop e depth (.ref it) (.ref acc) cenv).isFrame = false) (hwt : (Code.compLoop e depth (.ref it) (.ref acc) cenv).weight = 0) (hcu : (Code.compLoop e depth (.ref it) (.ref acc) cenv).cUnits = 0)
    (hKp : ∀ a, Kp a → a ≠ it ∧ a ≠ cenv.locals ∧ ∀ c, cenv.kindOf x = some NameKind.cell → cenv.cells.lookup x = some c → a ≠ c)
    (P : List (Value → Prop) → List Value → PH → Prop)
    {r : List (Value → Prop)} {g1 : PH} {s1 : Shared} {vs1 : List (Str × Value)} {out1 : List Value}
    (hbody : ∀ p rest v out gi si vs', p v → P (p :: rest) out gi → Blk N0 g s cenv gi si ((x, v) :: vs') → (∀ y, V y → vs'.lookup y = fv.lookup y) → si.heap.IsList acc out.toArray → gi acc = none → gi it = none → St rest si.heap → (∀ a o, Kp a → s1.heap.get? a = some o → si.heap.get? a = some o) →
      wpAny (model PG w) A body (fun _ s' => ∃ out' g' vs'', Blk N0 g s cenv g' s' vs'' ∧ (∀ y, V y → vs''.lookup y = fv.lookup y) ∧ (∀ a o, F a ∨ Kp a → si.heap.get? a = some o → s'.heap.get? a = some o) ∧
        g' acc = none ∧ g' it = none ∧ s'.heap.IsList acc out'.toArray ∧ P rest out' g') EF si)
    (hB : Blk N0 g s cenv g1 s1 vs1) (hvs : ∀ y, V y → vs1.lookup y = fv.lookup y) (hst : St r s1.heap) (hl : s1.heap.IsList acc out1.toArray) (ha : g1 acc = none) (hi : g1 it = none) (hP : P r out1 g1)
    (hR : ∀ s' out g' vs', P [] out g' → s'.heap.IsList acc out.toArray → Blk N0 g s cenv g' s' vs' → (∀ y, V y → vs'.lookup y = fv.lookup y) → g' acc = none → (∀ a o, Kp a → s1.heap.get? a = some o → s'.heap.get? a = some o) → R (.ok .next) s') :
    codeAny (model PG w) A (.compLoop e depth (.ref it) (.ref acc) cenv) R s1 := by
  have hitL : it ≠ cenv.locals := fun z => cs.LF (z ▸ src.itF)
  have hacc : acc ≠ it := fun z => cs.accF (z ▸ src.itF)
  refine codeAny_loop rfl (fun n s' => ∃ r out gi vsi, n = r.length ∧ Blk N0 g s cenv gi s' vsi ∧ (∀ y, V y → vsi.lookup y = fv.lookup y) ∧ St r s'.heap ∧ s'.heap.IsList acc out.toArray ∧ gi acc = none ∧ gi it = none ∧ P r out gi ∧
      (∀ a o, Kp a → s1.heap.get? a = some o → s'.heap.get? a = some o)) ?_ r.length ⟨r, out1, g1, vs1, rfl, hB, hvs, hst, hl, ha, hi, hP, fun _ _ _ e => e⟩
  intro n si rᵢ1
  refine hide fun Gₕ hGₕ => ?_
  obtain ⟨r, out, gi, vsi, rfl, B, hv, hst, hl, ha, hi, hP, hFk⟩ := rᵢ1
  refine hGₕ ?_
  show wpAny _ _ (if (Code.compLoop e depth (.ref it) (.ref acc) cenv).isFrame = true then _ else (compTurn e depth (.ref it) (.ref acc) cenv).onRaise (fun x => do noteFrame x cenv; theTreesLotGoes x)) _ _ si
  rw [hfrm, if_neg Bool.false_ne_true]
  rw [Around.under_of_weight hwt hcu]
  refine wpAny_noted (wpEF ?_)
  rw [heq]
  refine wpAny_bind (wpAny_standAt (wpAny_bind ?_))
  have ho : ∃ o, si.heap.get? it = some o := src.dom _ _ _ hst src.itF
  cases r with
  | nil =>
    refine src.nil _ _ _ _ hh hst fun h' hs => wpAny_pure ?_
    refine hR _ out gi vsi hP ?_ ?_ hv ha fun a o hF e => hs a o (hKp a hF).1 (hFk a o hF e)
    · obtain ⟨o, ho', r'⟩ := hl
      exact ⟨o, hs _ _ hacc ho', r'⟩
    · exact B.ended hs hi cs.its hitL cs.itC
  | cons p rest =>
    refine src.cons _ _ _ _ p rest hst fun h' tk v hp hst' hs => ?_
    have B1 := B.ended (tk := tk) hs.extBut hi cs.its hitL cs.itC
    have hl1 : h'.IsList acc out.toArray := by obtain ⟨o, ho', r'⟩ := hl; exact ⟨o, (hs.2 _ hacc).trans ho', r'⟩
    have hFk1 : ∀ a o, Kp a → s1.heap.get? a = some o → h'.get? a = some o := fun a o hF e => (hs.2 _ (hKp a hF).1).trans (hFk a o hF e)
    refine wpAny_bind (wpAny_pure (wpAny_bind (wpAny_assign_Name (st_ B1 ?_ fun s2 B2 hch => ?_))))
    · rcases hx with q | ⟨q1, q2, q3⟩
      · exact .inl q
      · obtain ⟨c, hc⟩ := Option.isSome_iff_exists.mp q3
        exact .inr ⟨q1, c, hc, (cs.own x c q2 hc).2⟩
    · have hch2 : ∀ a o, Kp a → h'.get? a = some o → s2.heap.get? a = some o := fun a o h1 e => by
        rcases hch with ⟨_, q⟩ | ⟨hk, c, hc, q⟩
        · exact (q.2 a (hKp a h1).2.1).trans e
        · exact (q.2 a ((hKp a h1).2.2 c hk hc)).trans e
      have hch' : ∀ a o, F a ∨ a = acc → h'.get? a = some o → s2.heap.get? a = some o := fun a o h1 e => by
        rcases hch with ⟨_, q⟩ | ⟨hk, c, hc, q⟩
        · refine (q.2 a fun z => ?_).trans e
          rcases h1 with h1 | h1
          · exact cs.LF (z ▸ h1)
          · exact cs.accL (h1.symm.trans z)
        · refine (q.2 a fun z => ?_).trans e
          rcases h1 with h1 | h1
          · rcases hx with q' | ⟨_, q2, _⟩
            · rw [hk] at q'; cases q'
            · exact (cs.own x c q2 hc).1 (z ▸ h1)
          · exact cs.accC x c hc (z.symm.trans h1)
      have hl2 : s2.heap.IsList acc out.toArray := by obtain ⟨o, ho', r'⟩ := hl1; exact ⟨o, hch' _ _ (.inr rfl) ho', r'⟩
      have hst2 : St rest s2.heap := src.keep _ _ _ hst' fun a o hF e => hch' a o (.inl hF) e
      refine wpAny_bind (wpAny_mono (hbody p rest v out gi s2 vsi hp hP B2 hv hl2 ha hi hst2 fun a o hF e => hch2 a o hF (hFk1 a o hF e)) (fun _ s3 h3 => ?_) fun _ _ q => q)
      refine hide fun Gₕ hGₕ => ?_
      obtain ⟨out', g', vs'', B3, hv3, hF3, ha3, hi3, hl3, hP3⟩ := h3
      refine hGₕ ?_
      exact wpAny_pure ⟨rfl, rest.length, by simp, rest, out', g', vs'', rfl, B3, hv3, src.keep _ _ _ hst2 (fun a o hF e => hF3 a o (.inl hF) e), hl3, ha3, hi3, hP3, fun a o hF e => hF3 a o (.inr hF) (hch2 a o hF (hFk1 a o hF e))⟩
end
end
section
open PySem PySem.W PyProof.Rows PySem.Calls
set_option maxRecDepth 100000
set_option maxHeartbeats 2000000
theorem ListAt.mono {g g' : PH} {a : Addr} {vs : List Value} (h : ListAt g a vs) (le : ∀ a o, g a = some o → g' a = some o) : ListAt g' a vs := let ⟨o, ho, r⟩ := h; ⟨o, le _ _ ho, r⟩
theorem ListAt.isList {g : PH} {h : Heap} {a : Addr} {vs : List Value} (x : ListAt g a vs) (live : ∀ a o, g a = some o → h.get? a = some o) : h.IsList a vs.toArray := let ⟨o, ho, hc, hd⟩ := x; ⟨o, live _ _ ho, hc, hd⟩

/-- what stands behind the making of an iterator -/
structure SourcedC (w : World) (g : PH) (s : Shared) (P : List (Value → Prop) → PH → Prop) (s₂ : Shared) (it : Addr) (F : Addr → Prop) (St : List (Value → Prop) → Heap → Prop) (r : List (Value → Prop)) (g₂ : PH) : Prop where
  src : Src w it F St
  st : St r s₂.heap
  stp : Stp N0 g g₂ s s₂
  its : s.heap.get? it = none
  itg : g₂ it = none
  off : ∀ a, F a → g₂ a ≠ none ∨ s.heap.get? a = none
  p : P r g₂
noncomputable abbrev Sourced (w : World) (g : PH) (s : Shared) (P : List (Value → Prop) → PH → Prop) (itv : Value) (s₂ : Shared) : Prop :=
  ∃ (it : Addr) (F : Addr → Prop) (St : List (Value → Prop) → Heap → Prop) (r : List (Value → Prop)) (g₂ : PH), itv = .ref it ∧ SourcedC w g s P s₂ it F St r g₂

section
variable {w : World} {A : Around} {E : Value → Shared → Prop} {X : Addr → Prop} {g₀ g : PH} {s₀ s : Shared} {env cenv : Env} {vs : List (Str × Value)} {scope : Scope}

theorem pyIter_list {g₁ : PH} {s₁ : Shared} {a : Addr} {items : List Value} {P : List (Value → Prop) → PH → Prop} (st : Stp N0 g g₁ s s₁) (hl : ListAt g₁ a items) (hP : P (items.map fun x v => v = x) g₁) :
    wpAny (model PG w) A (pyIter (.ref a)) (fun itv s₂ => Sourced w g s P itv s₂) E s₁ := by
  have hL := hl.isList st.live
  refine wpAny_pyIter_list hL ⟨s₁.heap.objs.size, _, listSt s₁.heap.objs.size a, items.map fun x v => v = x, g₁, rfl, listSrc, ?_, ?_, ?_, ?_, ?_, hP⟩
  · exact ⟨0, items, ⟨_, Heap.get?_push_size _ rfl, rfl, rfl⟩, hL.push _, Nat.zero_le _, by simp⟩
  · exact ⟨st.le, st.new, fun b o e => Heap.get?_push_of_some _ (st.live b o e), fun b o hx e => Heap.get?_push_of_some _ (st.keep b o hx e), fun b o e => ⟨o, Heap.get?_push_of_some _ (st.keep0 b o e)⟩, by rw [st.rest]⟩
  · cases q : s.heap.get? s₁.heap.objs.size with
    | none => rfl
    | some o => have := lt_sz (st.keep0 _ o q); exact absurd this (Nat.lt_irrefl _)
  · exact live_none st.live (get?_size _)
  · rintro b (rfl | rfl)
    · refine .inr ?_
      cases q : s.heap.get? s₁.heap.objs.size with
      | none => rfl
      | some o => have := lt_sz (st.keep0 _ o q); exact absurd this (Nat.lt_irrefl _)
    · obtain ⟨o, ho, _⟩ := hl
      exact .inl (by rw [ho]; exact fun z => nomatch z)

/-- the step of an append to acc -/
theorem append_ {acc : Addr} {out : List Value} {u : Value} {gi : PH} {si : Shared} {Q : Value → Shared → Prop} (live : ∀ a o, gi a = some o → si.heap.get? a = some o) (hl : si.heap.IsList acc out.toArray) (ha : gi acc = none) (hlen : out.length < 2 ^ 20)
    (h : ∀ s', Stp (fun a => a = acc) gi gi si s' → s'.heap.IsList acc (out ++ [u]).toArray → Q .none s') : wpAny (model PG w) A (call (.builtin "list.append") [.ref acc, u]) Q E si := by
  refine wpAny_list_append hl (fun h' hl' hs => h _ ⟨fun _ _ e => e, fun _ _ e => .inl e, fun a o e => (hs.2 a (fun z => by rw [z, ha] at e; cases e)).trans (live a o e), fun a o hn e => (hs.2 a hn).trans e, fun a o e => ?_, rfl⟩ ?_) ?_
  · by_cases z : a = acc
    · subst z; obtain ⟨o', ho', _⟩ := hl'; exact ⟨o', ho'⟩
    · exact ⟨o, (hs.2 a z).trans e⟩
  · have : (out ++ [u]).toArray = out.toArray.push u := by simp
    rw [this]; exact hl'
  · rw [List.size_toArray, sizeLine_eq]; lia

/-- behind an element: the block goes on -/
theorem Blk.afterAcc {F : Addr → Prop} {it acc : Addr} {gi g' : PH} {si s' : Shared} {vsi : List (Str × Value)} (cs : CS F scope s cenv it acc) (B : Blk N0 g s cenv gi si vsi) (st : Stp (fun a => a = acc) gi g' si s') : Blk N0 g s cenv g' s' vsi :=
  B.stepX st (fun a ha => .inr (by subst ha; exact cs.accs)) (fun z => cs.accL z.symm) fun x c hc z => cs.accC x c hc z
theorem off_of {gi g' : PH} {si s' : Shared} {Y : Addr → Prop} {a : Addr} (st : Stp Y gi g' si s') (ha : gi a = none) (ho : ∃ o, si.heap.get? a = some o) : g' a = none := by
  cases q : g' a with
  | none => rfl
  | some o =>
    rcases st.new _ _ q with z | z
    · rw [ha] at z; cases z
    · obtain ⟨o', ho'⟩ := ho; rw [ho'] at z; cases z

noncomputable abbrev KElt (P : List Value → PH → Prop) (gi : PH) (si : Shared) (out : List Value) : Value → Shared → Prop := fun u s' => ∃ g', Stp N0 gi g' si s' ∧ P (out ++ [u]) g'
/-- «[elt for x in iter]» -/
theorem comp1 {elt iter : Expr} {x : Str} {px : Pos} {scope : Scope} {pos : Pos} (P : List (Value → Prop) → List Value → PH → Prop)
    (hh : A.handled = none)
    (hxf : scope.names.lookup x ≠ some .free)
    (hx : ∀ L, (compEnv scope env L).kindOf x = some .local ∨ (compEnv scope env L).kindOf x = some .cell ∧ (x, NameKind.cell) ∈ scope.names ∧ ((compEnv scope env L).cells.lookup x).isSome = true)
    (hit : wpAny (model PG w) A (eval iter env) (fun v s₁ => wpAny (model PG w) A (pyIter v) (Sourced w g s fun r g₂ => P r [] g₂) E s₁) E s)
    (helt : ∀ L p rest v out gi si vs', p v → P (p :: rest) out gi → Blk N0 g s (compEnv scope env L) gi si ((x, v) :: vs') → (∀ y, scope.names.lookup y = some .free → vs'.lookup y = vs.lookup y) →
      wpAny (model PG w) A (eval elt (compEnv scope env L)) (KElt (P rest) gi si out) EF si)
    (hlen : ∀ r out g, P r out g → out.length < 2 ^ 20) : CompOK w A E elt (.Name x px) iter [] [] scope pos env g s vs (fun out g' => P [] out g') := by
  refine wpAny_mono hit (fun v s₁ h₁ => wpAny_mono h₁ (fun itv s₂ h₂ => ?_) fun _ _ e => e) fun _ _ e => e
  refine hide fun Gₕ hGₕ => ?_
  obtain ⟨it, F, St, r, g₂, rfl, src, hst, st2, its, itg, _, hP⟩ := h₂
  refine hGₕ ?_
  refine ⟨it, F, St, r, g₂, rfl, src.toSrc0, hst, st2, its, itg, fun acc L s₃ cs blk hst3 hl3 ha3 => ?_⟩
  refine comp_loop (V := fun y => scope.names.lookup y = some .free) (Kp := fun _ => False) (fv := vs) src cs hh (hx L) (compTurn_list1 ..) rfl rfl rfl (fun _ z => z.elim) P ?_ blk (fun y hy => by rw [lookup_freeVs, hy]; rfl) hst3 hl3 ha3 itg hP ?_
  · intro p rest v out gi si vs' hp hPp Bi hv hl ha hi hsti _
    refine wpAny_bind (wpAny_mono (helt L p rest v out gi si vs' hp hPp Bi hv) (fun u s' h' => ?_) fun _ _ q => q)
    obtain ⟨g', st', hP'⟩ := h'
    have hacc' := off_of st' ha (let ⟨o, ho, _⟩ := hl; ⟨o, ho⟩)
    have hit' := off_of st' hi (src.dom _ _ _ hsti src.itF)
    refine wpAny_bind (append_ (u := u) st'.live (let ⟨o, ho, r⟩ := hl; ⟨o, st'.keep0 _ _ ho, r⟩) hacc' (hlen _ _ _ hPp) fun s3 st3 hl3 => wpAny_pure ?_)
    have B2 := Bi.step st'
    refine ⟨out ++ [u], g', _, B2.afterAcc cs st3, fun y hy => ?_, fun a o hF e => st3.keep a o (fun z => cs.accF (z ▸ hF.resolve_right fun q => q)) (st'.keep0 a o e), off_of st3 hacc' (let ⟨o, ho, _⟩ := hl; ⟨o, st'.keep0 _ _ ho⟩), hit', hl3, hP'⟩
    rw [List.lookup_cons]
    have hyx : y ≠ x := fun z => hxf (z ▸ hy)
    have : (y == x) = false := by simpa using hyx
    rw [this]; exact hv y hy
  · intro s' out g' vs' hP' hl' B' _ ha' _
    exact ⟨rfl, out, g', vs', hl', B', ha', hP'⟩

theorem compTurn_if (elt target iter c : Expr) (scope : Scope) (pos : Pos) (it acc : Value) (env : Env) :
    compTurn (.ListComp elt [⟨target, iter, [c], 0⟩] scope pos) 0 it acc env = (standAt iter.pos >>= fun _ => pyNext it >>= fun r => match r with
      | none => pure (.done .next)
      | some v => letOwnedTupleGo target it v >>= fun _ => assign target env v >>= fun _ =>
        (isTrue c env (eval c env) >>= fun ok => if ok = true then (eval elt env >>= fun x => call (.builtin "list.append") [acc, x] >>= fun _ => pure ()) else pure ()) >>= fun _ =>
          again (.compLoop (.ListComp elt [⟨target, iter, [c], 0⟩] scope pos) 0 it acc env)) := by
  rw [compTurn_list]
  refine congrArg (standAt iter.pos >>= ·) (funext fun _ => congrArg (pyNext it >>= ·) (funext fun r => ?_))
  cases r with
  | none => rfl
  | some v =>
    refine congrArg (letOwnedTupleGo target it v >>= ·) (funext fun _ => congrArg (assign target env v >>= ·) (funext fun _ => ?_))
    simp only [List.forIn_cons, List.forIn_nil, if_true, bind_assoc, pure_bind]
    refine congrArg (isTrue c env (eval c env) >>= ·) (funext fun ok => ?_)
    cases ok
    · rfl
    · simp only [if_true, bind_assoc, pure_bind]

/-- «[elt for x in iter if c]» -/
theorem comp1if {elt iter c : Expr} {x : Str} {px : Pos} {scope : Scope} {pos : Pos} (P : List (Value → Prop) → List Value → PH → Prop)
    (hh : A.handled = none)
    (hxf : scope.names.lookup x ≠ some .free)
    (hx : ∀ L, (compEnv scope env L).kindOf x = some .local ∨ (compEnv scope env L).kindOf x = some .cell ∧ (x, NameKind.cell) ∈ scope.names ∧ ((compEnv scope env L).cells.lookup x).isSome = true)
    (hit : wpAny (model PG w) A (eval iter env) (fun v s₁ => wpAny (model PG w) A (pyIter v) (Sourced w g s fun r g₂ => P r [] g₂) E s₁) E s)
    (helt : ∀ L p rest v out gi si vs', p v → P (p :: rest) out gi → Blk N0 g s (compEnv scope env L) gi si ((x, v) :: vs') → (∀ y, scope.names.lookup y = some .free → vs'.lookup y = vs.lookup y) →
      wpAny (model PG w) A (isTrue c (compEnv scope env L) (eval c (compEnv scope env L))) (fun b s₁ => ∃ g₁, Stp N0 gi g₁ si s₁ ∧ (b = false → P rest out g₁) ∧ (b = true →
        wpAny (model PG w) A (eval elt (compEnv scope env L)) (fun u s' => ∃ g', Stp N0 g₁ g' s₁ s' ∧ P rest (out ++ [u]) g') EF s₁)) EF si)
    (hlen : ∀ r out g, P r out g → out.length < 2 ^ 20) : CompOK w A E elt (.Name x px) iter [c] [] scope pos env g s vs (fun out g' => P [] out g') := by
  refine wpAny_mono hit (fun v s₁ h₁ => wpAny_mono h₁ (fun itv s₂ h₂ => ?_) fun _ _ e => e) fun _ _ e => e
  refine hide fun Gₕ hGₕ => ?_
  obtain ⟨it, F, St, r, g₂, rfl, src, hst, st2, its, itg, _, hP⟩ := h₂
  refine hGₕ ?_
  refine ⟨it, F, St, r, g₂, rfl, src.toSrc0, hst, st2, its, itg, fun acc L s₃ cs blk hst3 hl3 ha3 => ?_⟩
  refine comp_loop (V := fun y => scope.names.lookup y = some .free) (Kp := fun _ => False) (fv := vs) src cs hh (hx L) (compTurn_if ..) rfl rfl rfl (fun _ z => z.elim) P ?_ blk (fun y hy => by rw [lookup_freeVs, hy]; rfl) hst3 hl3 ha3 itg hP ?_
  · intro p rest v out gi si vs' hp hPp Bi hv hl ha hi hsti _
    refine wpAny_bind (wpAny_mono (helt L p rest v out gi si vs' hp hPp Bi hv) (fun b s₁ h' => ?_) fun _ _ q => q)
    refine hide fun Gₕ hGₕ => ?_
    obtain ⟨g₁, st₁, hf, ht⟩ := h'
    refine hGₕ ?_
    have hvv : ∀ y, scope.names.lookup y = some .free → ((x, v) :: vs').lookup y = vs.lookup y := fun y hy => by
      rw [List.lookup_cons]
      have hyx : y ≠ x := fun z => hxf (z ▸ hy)
      have : (y == x) = false := by simpa using hyx
      rw [this]; exact hv y hy
    have hacc1 := off_of st₁ ha (let ⟨o, ho, _⟩ := hl; ⟨o, ho⟩)
    have hit1 := off_of st₁ hi (src.dom _ _ _ hsti src.itF)
    have hl1 : s₁.heap.IsList acc out.toArray := let ⟨o, ho, r⟩ := hl; ⟨o, st₁.keep0 _ _ ho, r⟩
    have B1 := Bi.step st₁
    cases b with
    | false => exact wpAny_pure ⟨out, g₁, _, B1, hvv, fun a o hF e => st₁.keep0 a o e, hacc1, hit1, hl1, hf rfl⟩
    | true =>
      refine wpAny_bind (wpAny_mono (ht rfl) (fun u s' h' => ?_) fun _ _ q => q)
      obtain ⟨g', st', hP'⟩ := h'
      have hacc' := off_of st' hacc1 (let ⟨o, ho, _⟩ := hl1; ⟨o, ho⟩)
      have hit' := off_of st' hit1 (let ⟨o, ho⟩ := src.dom _ _ _ hsti src.itF; ⟨o, st₁.keep0 _ _ ho⟩)
      refine wpAny_bind (append_ (u := u) st'.live (let ⟨o, ho, r⟩ := hl1; ⟨o, st'.keep0 _ _ ho, r⟩) hacc' (hlen _ _ _ hPp) fun s3 st3 hl3 => wpAny_pure ?_)
      exact ⟨out ++ [u], g', _, (B1.step st').afterAcc cs st3, hvv, fun a o hF e => st3.keep a o (fun z => cs.accF (z ▸ hF.resolve_right fun q => q)) (st'.keep0 a o (st₁.keep0 a o e)), off_of st3 hacc' (let ⟨o, ho, _⟩ := hl1; ⟨o, st'.keep0 _ _ ho⟩), hit', hl3, hP'⟩
  · intro s' out g' vs' hP' hl' B' _ ha' _
    exact ⟨rfl, out, g', vs', hl', B', ha', hP'⟩
end
end
section
open PySem PySem.W PySem.W.X PyProof.Rows
local macro_rules | `(tactic| x_close) => do let h := Lean.mkIdent `hend; `(tactic| first | (refine $h _ _ _ ?_; assumption) | (apply $h; assumption) | exact $h | exact $h _ | (apply $h; rotate_left; assumption; kernel_rfl!) | fail "x")
section
open PySem PySem.W PySem.W.X PyProof.Rows PySem.Calls
set_option maxRecDepth 100000
set_option maxHeartbeats 2000000
/-- two lists, item by item -/
noncomputable def All2 {α β : Type} (R : α → β → Prop) : List α → List β → Prop
  | [], [] => True
  | a :: as, b :: bs => R a b ∧ All2 R as bs
  | _, _ => False
theorem All2.mono {α β : Type} {R S : α → β → Prop} (h : ∀ a b, R a b → S a b) : ∀ {as : List α} {bs : List β}, All2 R as bs → All2 S as bs
  | [], [], _ => trivial
  | _ :: _, _ :: _, x => ⟨h _ _ x.1, All2.mono h x.2⟩
  | [], _ :: _, x => x.elim
  | _ :: _, [], x => x.elim
theorem All2.length {α β : Type} {R : α → β → Prop} : ∀ {as : List α} {bs : List β}, All2 R as bs → as.length = bs.length
  | [], [], _ => rfl
  | _ :: _, _ :: _, x => by rw [List.length_cons, List.length_cons, All2.length x.2]
  | [], _ :: _, x => x.elim
  | _ :: _, [], x => x.elim
theorem All2.append {α β : Type} {R : α → β → Prop} : ∀ {as : List α} {bs : List β} {cs : List α} {ds : List β}, All2 R as bs → All2 R cs ds → All2 R (as ++ cs) (bs ++ ds)
  | [], [], _, _, _, y => y
  | _ :: _, _ :: _, _, _, x, y => ⟨x.1, All2.append x.2 y⟩
  | [], _ :: _, _, _, x, _ => x.elim
  | _ :: _, [], _, _, x, _ => x.elim
theorem All2.snoc {α β : Type} {R : α → β → Prop} {as : List α} {bs : List β} {a : α} {b : β} (x : All2 R as bs) (y : R a b) : All2 R (as ++ [a]) (bs ++ [b]) := x.append (show All2 R [a] [b] from ⟨y, trivial⟩)
theorem All2.get {α β : Type} {R : α → β → Prop} : ∀ {as : List α} {bs : List β}, All2 R as bs → ∀ {i : Nat} {a : α}, as[i]? = some a → ∃ b, bs[i]? = some b ∧ R a b
  | [], [], _, _, _, h => by simp at h
  | _ :: _, b :: _, x, 0, _, h => by simp at h; subst h; exact ⟨b, rfl, x.1⟩
  | _ :: _, _ :: _, x, i + 1, _, h => by simp at h ⊢; exact All2.get x.2 h
  | [], _ :: _, x, _, _, _ => x.elim
  | _ :: _, [], x, _, _, _ => x.elim
theorem All2.getR {α β : Type} {R : α → β → Prop} : ∀ {as : List α} {bs : List β}, All2 R as bs → ∀ {i : Nat} {b : β}, bs[i]? = some b → ∃ a, as[i]? = some a ∧ R a b
  | [], [], _, _, _, h => by simp at h
  | a :: _, _ :: _, x, 0, _, h => by simp at h; subst h; exact ⟨a, rfl, x.1⟩
  | _ :: _, _ :: _, x, i + 1, _, h => by simp at h ⊢; exact All2.getR x.2 h
  | [], _ :: _, x, _, _, _ => x.elim
  | _ :: _, [], x, _, _, _ => x.elim
theorem All2.drop {α β : Type} {R : α → β → Prop} : ∀ (n : Nat) {as : List α} {bs : List β}, All2 R as bs → All2 R (as.drop n) (bs.drop n)
  | 0, _, _, x => x
  | n + 1, [], [], _ => trivial
  | n + 1, _ :: _, _ :: _, x => All2.drop n x.2
  | _ + 1, [], _ :: _, x => x.elim
  | _ + 1, _ :: _, [], x => x.elim
theorem All2.take {α β : Type} {R : α → β → Prop} : ∀ (n : Nat) {as : List α} {bs : List β}, All2 R as bs → All2 R (as.take n) (bs.take n)
  | 0, _, _, _ => by simp; trivial
  | n + 1, [], [], _ => trivial
  | n + 1, _ :: _, _ :: _, x => ⟨x.1, All2.take n x.2⟩
  | _ + 1, [], _ :: _, x => x.elim
  | _ + 1, _ :: _, [], x => x.elim

noncomputable def IntV (v : Value) (i : Int) : Prop := ∃ t, v = .int i t
/-- a list of ints -/
noncomputable def IntsAt (g : PH) (a : Addr) (xs : List Int) : Prop := ∃ vs, ListAt g a vs ∧ All2 IntV vs xs
noncomputable def IV (g : PH) (v : Value) (xs : List Int) : Prop := ∃ a, v = .ref a ∧ IntsAt g a xs
/-- a list of lists of ints -/
noncomputable def SetsAt (g : PH) (a : Addr) (xss : List (List Int)) : Prop := ∃ vs, ListAt g a vs ∧ All2 (IV g) vs xss
theorem IntsAt.mono {g g' : PH} {a : Addr} {xs : List Int} (h : IntsAt g a xs) (le : ∀ a o, g a = some o → g' a = some o) : IntsAt g' a xs := let ⟨vs, x, y⟩ := h; ⟨vs, x.mono le, y⟩
theorem IV.mono {g g' : PH} {v : Value} {xs : List Int} (h : IV g v xs) (le : ∀ a o, g a = some o → g' a = some o) : IV g' v xs := let ⟨a, x, y⟩ := h; ⟨a, x, y.mono le⟩
theorem SetsAt.mono {g g' : PH} {a : Addr} {xs : List (List Int)} (h : SetsAt g a xs) (le : ∀ a o, g a = some o → g' a = some o) : SetsAt g' a xs := let ⟨vs, x, y⟩ := h; ⟨vs, x.mono le, y.mono fun _ _ z => z.mono le⟩

/-- first occurrences, in order -/
noncomputable def dd (xs : List Int) : List Int := xs.foldl (fun acc x => if x ∈ acc then acc else acc ++ [x]) []
noncomputable abbrev nones (xs : List Int) : List (Int × Value) := xs.map fun x => (x, Value.none)
theorem stored_nones (acc : List Int) (x : Int) : stored (nones acc) x .none = nones (if x ∈ acc then acc else acc ++ [x]) := by
  unfold stored
  have e : ((nones acc).any fun kv => kv.1 = x) = decide (x ∈ acc) := by
    rw [Bool.eq_iff_iff]
    simp [nones]
  rw [e]
  by_cases h : x ∈ acc
  · rw [if_pos (by simpa using h), if_pos h]
    simp only [nones, List.map_map]
    apply List.map_congr_left
    intro y _
    simp
  · rw [if_neg (by simpa using h), if_neg h]
    simp [nones]

/-- a dict with int keys, all None -/
noncomputable def DictI (w : World) (g : PH) (a : Addr) (xs : List Int) : Prop :=
  ∃ o es ep, g a = some o ∧ o.ExactDict ∧ o.data = .dict es ep ∧ KeysOf (intKind PG w) es ∧ Pairs (intKind PG w) es.toList (nones xs) ∧ ((nones xs).map (·.1)).Nodup
theorem DictI.of {w : World} {g : PH} {h : Heap} {a : Addr} {xs : List Int} (x : DictI w g a xs) (live : ∀ a o, g a = some o → h.get? a = some o) : h.DictOf (intKind PG w) a (nones xs) :=
  let ⟨o, es, ep, ho, r⟩ := x; ⟨o, es, ep, live _ _ ho, r⟩

section
variable {w : World} {A : Around} {E : Value → Shared → Prop} {X : Addr → Prop} {g₀ g : PH} {s₀ s : Shared} {env : Env} {vs : List (Str × Value)}

/-- the known part with what Mem tells -/
noncomputable def PH.puts (g : PH) (news : List (Addr × Obj)) : PH := fun a => (news.lookup a).or (g a)
theorem lookup_mem {news : List (Addr × Obj)} {a : Addr} {o : Obj} (h : news.lookup a = some o) : (a, o) ∈ news := by
  induction news with
  | nil => cases h
  | cons p r ih =>
    rw [List.lookup_cons] at h
    cases q : a == p.1 with
    | true => rw [q] at h; cases h; rw [beq_iff_eq.mp q]; exact List.mem_cons_self
    | false => rw [q] at h; exact List.mem_cons_of_mem _ (ih h)
theorem Stp.ofMem {h' : Heap} {t : Nat} {news : List (Addr × Obj)} (live : ∀ a o, g a = some o → s.heap.get? a = some o) (D : Mem s.heap h' [] news) : Stp X g (g.puts news) s ⟨h', s.gens, s.drawn, t, s.os⟩ := by
  have keep : ∀ a o, s.heap.get? a = some o → h'.get? a = some o := fun a o e => D.keep a o e (by simp [away])
  have nn : ∀ a o, g a = some o → news.lookup a = none := fun a o e => by
    cases q : news.lookup a with
    | none => rfl
    | some p => have := (D.nw _ (lookup_mem q)).2; have z := live a o e; rw [show s.heap.get? a = none from this] at z; cases z
  refine ⟨fun a o e => ?_, fun a o e => ?_, fun a o e => ?_, fun a o _ e => keep a o e, fun a o e => ⟨o, keep a o e⟩, rfl⟩
  · show (news.lookup a).or (g a) = some o
    rw [nn a o e, e]; rfl
  · have e' : (news.lookup a).or (g a) = some o := e
    cases q : news.lookup a with
    | none => rw [q] at e'; exact .inl e'
    | some p => exact .inr (D.nw _ (lookup_mem q)).2
  · have e' : (news.lookup a).or (g a) = some o := e
    cases q : news.lookup a with
    | none => rw [q] at e'; exact keep a o (live a o e')
    | some p => rw [q] at e'; cases e'; exact (D.nw _ (lookup_mem q)).1

section
theorem cmd_get {Q : Value → Shared → Prop}
    (hend : ∀ a h' t, Mem s.heap h' [] [(a, ⟨.type "builtin_function_or_method", none, .fields #[.builtin "dict.fromkeys", .type "dict"], #[]⟩)] → Q (.ref a) ⟨h', s.gens, s.drawn, t, s.os⟩) :
    wpAny (model PG w) A (call (.builtin "classmethod_descriptor.__get__") [.builtin "dict.fromkeys", .none, .type "dict"]) Q E s := by
  x_run
theorem code_dict_new {Q₁ : Value → Shared → Prop} (h : Q₁ (.ref s.heap.objs.size) { s with heap := s.heap.push { cls := .type "dict", data := .dict #[] } }) :
    codeAny (model PG w) A (.call (.builtin "dict.__new__") ⟨[.type "dict"], []⟩) (wants Q₁ E) s := by
  refine codeAny_call_builtin F.kt_plain_dict_new F.kt_entry_dict_new (wpAny_of_eq (a := ()) (by kernel_rfl) ?_)
  have hsub := F.kt_sub_dict
  have hmro := F.kt_mro_dict
  refine hide fun Gₕ hGₕ => ?_
  obtain ⟨hp, g, d, tk, os⟩ := s
  refine hGₕ ?_
  unfold Builtin.«dict.__new__»
  wp_walk
  exact h
theorem dict_new {Q : Value → Shared → Prop} (hend : ∀ a h' t, @LE.le Nat _ s.heap.objs.size a → Mem s.heap h' [] [(a, ⟨.type "dict", none, .dict #[] 0, #[]⟩)] → Q (.ref a) ⟨h', s.gens, s.drawn, t, s.os⟩) :
    wpAny (model PG w) A (call (.type "dict") []) Q E s := by
  refine callType_codes (Q₁ := fun obj s₁ => obj = .ref s.heap.objs.size ∧ s₁ = { s with heap := s.heap.push { cls := .type "dict", data := .dict #[] } }) F.kt_called_dict (by kernel_rfl) F.entry_dict_init (code_dict_new ⟨rfl, rfl⟩) ?_
  rintro obj s₁ ⟨rfl, rfl⟩
  have hT : (show Shared from { s with heap := s.heap.push { cls := .type "dict", data := .dict #[] } }).TypeIs (.ref s.heap.objs.size) "dict" := ⟨_, Heap.get?_push_size _ rfl, rfl⟩
  refine ⟨hT, F.args_dict_init_1 _, ?_⟩
  unfold Builtin.«dict.__init__»
  refine wpAny_bind ?_
  unfold Builtin.Dict.selfAndRest
  refine wpAny_bind (wpAny_notOrdered_dict hT ?_)
  show wpAny _ _ (pure (s.heap.objs.size, [])) _ _ _
  refine wpAny_pure ?_
  refine wpAny_bind (wpAny_pure (wpAny_pure ⟨rfl, ?_⟩))
  exact hend _ _ _ (Nat.le_refl _) ((Mem.start _).alloc rfl)
end
end
end
section
open PySem PySem.W PySem.W.X PyProof.Rows PySem.Calls
set_option maxRecDepth 100000
set_option maxHeartbeats 2000000
section
variable {w : World} {A : Around} {E : Value → Shared → Prop} {X : Addr → Prop} {g₀ g : PH} {s₀ s : Shared} {env : Env} {vs : List (Str × Value)}
noncomputable abbrev fkObj : Obj := ⟨.type "builtin_function_or_method", none, .fields #[.builtin "dict.fromkeys", .type "dict"], #[]⟩

theorem fk_method {pl : Sem Bool} {Q : Value × List Value → Shared → Prop} (X : (K2 w.params).In s.heap)
    (h : ∀ a h' t, Mem s.heap h' [] [(a, fkObj)] → Q (.ref a, []) ⟨h', s.gens, s.drawn, t, s.os⟩) : wpAny (model PG w) A (getMethod (.type "dict") "fromkeys" pl) Q E s := by
  have hstub : opaqueClassAbove (.type "dict") = pure none := by unfold opaqueClassAbove; dsimp only; rw [show Manifest.isStub "dict" = false by decide +kernel]; rfl
  have L0 : Looks (model PG w) s.heap (typeOf (.type "dict")) (.type "type") := Looks.of_pure (by rfl)
  have hg : findIn (K2 w.params) (.type "type") "__getattribute__" = some (some (.builtin "type.__getattribute__")) := type_tga
  unfold getMethod specialOf
  refine wpAny_bind (wpAny_bind (L0.here ((looks_findIn X hg).here ?_)))
  dsimp only
  rw [if_pos canon_tga]
  refine wpAny_bind (wpAny_mono (Q := fun v => Q (v, [])) (E := E) ?_ (fun _ _ z => wpAny_pure z) fun _ _ z => z)
  have LO : Looks (model PG w) s.heap (opaqueClassAbove (.type "dict")) none := Looks.of_pure hstub
  refine cls_open X LO L0 hg (looks_hook X (r := none) (by rfl)) (by show subIn _ _ _ = _; rfl) (r := .get (.builtin "classmethod_descriptor.__get__") (.builtin "dict.fromkeys") .none (.type "dict")) (by kernel_rfl) ?_
  show wpAny _ _ (holding [.builtin "dict.fromkeys"] (call (.builtin "classmethod_descriptor.__get__") [.builtin "dict.fromkeys", .none, .type "dict"]) >>= fun v => ret v) _ _ _
  refine wpAny_bind (wpAny_holding (cmd_get (s := { s with toks := s.toks + 1 }) fun a h' t D => wpAny_pure ?_))
  exact wpAny_pure (h a h' t D)

theorem callWith_bm0 {M : Model} {pos : Pos} {u : Addr} {vs : Array Value} {args : List (Bool × Sem Value)} {Q : Value → Shared → Prop} (hplain : args.any (·.1) = false)
    (h : wpAny M A (evalArgs (.ref u) true args []) (fun x s₁ => s₁.heap.get? u = some ⟨.type "builtin_function_or_method", none, .fields vs, #[]⟩ ∧ wpAny M A (call (.ref u) x.pos x.kw) Q E s₁) E s) : wpAny M A (callWith pos (.ref u) [] args []) Q E s := by
  unfold callWith
  refine wpAny_bind (wpAny_holding (wpAny_mono h (fun x s₁ h₁ => wpAny_bind (wpAny_standAt ?_)) fun _ _ x => x))
  obtain ⟨ho, hcall⟩ := h₁
  simp only [hplain, List.any_nil, Bool.or_false]
  refine wpAny_bind (m := keeperOf (.ref u)) ?_
  unfold keeperOf
  refine wpAny_bind (wpAny_load ho ?_)
  simp only [show (Value.type "builtin_function_or_method" != Value.type "method") = true by decide, show (Value.type "builtin_function_or_method" == Value.type "builtin_function_or_method" || Value.type "builtin_function_or_method" == Value.type "method-wrapper") = true by decide, if_true]
  refine wpAny_pure ?_
  exact wpAny_bind (wpAny_mono hcall (fun r s₂ hr => wpAny_bind (wpAny_holding (wpAny_point (wpAny_pure hr)))) fun _ _ x => x)
theorem callWith_bm {M : Model} {pos : Pos} {u : Addr} {env : Env} {e : Expr} {rest : List Expr} {vs : Array Value} {Q : Value → Shared → Prop}
    (h : wpAny M A (spliced (backTo pos (starEach (e :: rest) env))) (fun vals s₁ => s₁.heap.get? u = some ⟨.type "builtin_function_or_method", none, .fields vs, #[]⟩ ∧ wpAny M A (call (.ref u) vals) Q E s₁) E s)
    (he : starEach (e :: rest) env = (false, eval e env) :: starEach rest env := by rfl) (hplain : (backTo pos (starEach rest env)).any (·.1) = false := by rfl) :
    wpAny M A (callWith pos (.ref u) [] (backTo pos (starEach (e :: rest) env)) []) Q E s := by
  rw [he] at h ⊢
  refine callWith_bm0 (vs := vs) (by show (false || (backTo pos (starEach rest env)).any (·.1)) = false; rw [hplain]; rfl) ?_
  exact evalArgs_plain h

theorem fk_check (v : Value) : checkBoundCall "dict.fromkeys" ⟨[.type "dict", v], []⟩ = pure () := by first | kernel_rfl | rfl
theorem fk_entry : entryFor table "dict.fromkeys" = some Builtin.«dict.fromkeys» := entryFor_of_tree (by kernel_rfl)
theorem fk_entryL : entryFor table "dict.fromkeys.loop" = some Builtin.«dict.fromkeys.loop» := entryFor_of_tree (by kernel_rfl)
theorem fk_quiet (args : Args) : (Code.builtin "dict.fromkeys" args).quiet = true := plainId_quiet (by decide +kernel) args
theorem fk_under (args : Args) : A.under (.builtin "dict.fromkeys" args) = A.in1 := Around.under_plainId (by decide +kernel) args
theorem fk_quietL (args : Args) : (Code.builtin "dict.fromkeys.loop" args).quiet = true := plainId_quiet (by decide +kernel) args
theorem fk_underL (args : Args) : A.under (.builtin "dict.fromkeys.loop" args) = A.in1 := Around.under_plainId (by decide +kernel) args

/-- what the loop has behind it -/
noncomputable def ddFrom (acc : List Int) (xs : List Int) : List Int := xs.foldl (fun acc x => if x ∈ acc then acc else acc ++ [x]) acc
theorem ddFrom_len : ∀ (xs acc : List Int), (ddFrom acc xs).length ≤ acc.length + xs.length
  | [], acc => by simp [ddFrom]
  | x :: r, acc => by
    show (ddFrom (if x ∈ acc then acc else acc ++ [x]) r).length ≤ _
    refine Nat.le_trans (ddFrom_len r _) ?_
    split <;> simp <;> lia

theorem fk_loop {R : Result → Shared → Prop} {it l d : Addr} (hh : A.handled = none) (hne : d ≠ it) (hnl : d ≠ l) :
    ∀ (xs : List Int) (vs : List Value) (acc : List Int) (s : Shared), All2 IntV vs xs → listSt it l (vs.map fun x v => v = x) s.heap → s.heap.DictOf (intKind PG w) d (nones acc) → acc.length + xs.length < 2 ^ 20 →
      (∀ s', (∀ a o, a ≠ it → a ≠ d → s.heap.get? a = some o → s'.heap.get? a = some o) → (s' = { s with heap := s'.heap, toks := s'.toks }) → s'.heap.DictOf (intKind PG w) d (nones (ddFrom acc xs)) → R (.ok (.ret (.ref d))) s') →
      codeAny (model PG w) A (.builtin "dict.fromkeys.loop" ⟨[.ref d, .ref it, .none], []⟩) R s := by
  intro xs
  induction xs with
  | nil =>
    intro vs acc s hv hst hd hlen hR
    cases vs with
    | cons a b => exact hv.elim
    | nil =>
      refine codeAny_builtin fk_entryL ?_
      rw [fk_underL]
      show wpAny _ _ (pyNext (.ref it) >>= _) _ _ _
      refine wpAny_bind (listSrc.nil _ _ _ _ hh hst fun h' hs => ?_)
      refine wpAny_pure (hR _ (fun a o ha hb e => hs a o ha e) rfl ?_)
      exact hd.extBut hs hne
  | cons x xs ih =>
    intro vs acc s hv hst hd hlen hR
    cases vs with
    | nil => exact hv.elim
    | cons v vs =>
      obtain ⟨⟨t, rfl⟩, hv'⟩ := hv
      refine codeAny_builtin fk_entryL ?_
      rw [fk_underL]
      show wpAny _ _ (pyNext (.ref it) >>= _) _ _ _
      refine wpAny_bind (listSrc.cons _ _ _ _ _ _ hst fun h' tk u hu hst' hs => ?_)
      subst hu
      have hd1 : h'.DictOf (intKind PG w) d (nones acc) := hd.sameBut hs hne
      show wpAny _ _ (typeOf (.ref d) >>= _) _ _ _
      refine wpAny_bind (wpAny_typeOf (s := { s with heap := h', toks := tk }) hd1.typeIs ?_)
      show wpAny _ _ (holding [.int x t] (dictSet d (.int x t) .none) >>= fun _ => again _) _ _ _
      refine wpAny_bind (wpAny_holding (wpAny_dictSet_pairs (k := x) (by show Value.isInt x (.int x t) = true; simp [Value.isInt]) hd1 (fun h2 hd2 hs2 => ?_) ?_))
      · refine wpAny_pure ⟨fk_quietL _, ?_⟩
        rw [stored_nones] at hd2
        have hst2 : listSt it l (vs.map fun x v => v = x) h2 := listSrc.keep (w := w) _ _ _ hst' fun a o hF e => (hs2.2 a (fun z => by rcases hF with q | q; exact hne (z.symm.trans q); exact hnl (z.symm.trans q))).trans e
        refine ih vs _ { s with heap := h2, toks := tk + 1 } hv' hst2 hd2 ?_ fun s' hk hrest hd' => hR s' (fun a o ha hb e => hk a o ha hb ((hs2.2 a hb).trans ((hs.2 a ha).trans e))) ?_ hd'
        · simp only [List.length_cons] at hlen
          split <;> simp <;> lia
        · rw [hrest]
      · simp only [nones, List.length_map]
        simp only [List.length_cons] at hlen
        rw [sizeLine_eq]; lia
end
end
section
open PySem PySem.W PySem.W.X PyProof.Rows PySem.Calls
set_option maxRecDepth 100000
set_option maxHeartbeats 2000000
section
variable {w : World} {A : Around} {E : Value → Shared → Prop} {X : Addr → Prop} {g₀ g : PH} {s₀ s : Shared} {env : Env} {vs : List (Str × Value)}
theorem if_no {α : Type} {M : Model} {b : Bool} {t e : Sem α} {Q : α → Shared → Prop} (hb : b = false) (h : wpAny M A e Q E s) : wpAny M A (if b = true then t else e) Q E s := by rw [if_neg (by rw [hb]; decide)]; exact h
theorem if_yes {α : Type} {M : Model} {b : Bool} {t e : Sem α} {Q : α → Shared → Prop} (hb : b = true) (h : wpAny M A t Q E s) : wpAny M A (if b = true then t else e) Q E s := by rw [if_pos hb]; exact h

theorem fk_call {q a : Addr} {xs : List Int} {Q : Value → Shared → Prop} (hh : A.handled = none) (hq : s.heap.get? q = some fkObj) (live : ∀ a o, g a = some o → s.heap.get? a = some o) (hl : IntsAt g a xs) (hlen : xs.length < 2 ^ 19)
    (h : ∀ d g' s', Stp N0 g g' s s' → DictI w g' d (dd xs) → @LE.le Nat _ s.heap.objs.size d → Q (.ref d) s') : wpAny (model PG w) A (call (.ref q) [.ref a]) Q E s := by
  obtain ⟨vals, hla, hints⟩ := hl
  refine wpAny_call (codeAny_of_tree ?_)
  show wpAny _ A.in1 (callAny (.ref q) ⟨[.ref a], []⟩) _ _ s
  simp only [callAny]
  refine wpAny_bind (wpAny_load hq ?_)
  simp only [fkObj, show (Value.type "builtin_function_or_method" == Value.type "method" || Value.type "builtin_function_or_method" == Value.type "builtin_function_or_method" || Value.type "builtin_function_or_method" == Value.type "method-wrapper") = true by decide, if_true]
  refine if_yes (by decide) ?_
  refine wpAny_bind (wpAny_of_eq (a := ()) (fk_check _) ?_)
  refine wpAny_bind (wpAny_pure (wpAny_pure ⟨fk_quiet _, ?_⟩))
  show codeAny _ _ (.builtin "dict.fromkeys" ⟨[.type "dict", .ref a], []⟩) _ _
  refine codeAny_builtin fk_entry ?_
  rw [fk_under]
  unfold Builtin.«dict.fromkeys»
  refine wpAny_bind (wpAny_of_eq (a := true) (by kernel_rfl) ?_)
  refine if_no rfl ?_
  refine wpAny_bind (wpAny_of_eq (a := true) (by rw [isSubtype_type]; kernel_rfl) ?_)
  refine if_no rfl ?_
  refine if_no rfl ?_
  refine wpAny_bind (wpAny_rule (wpAny_bind (wpAny_pure (wpAny_bind (dict_new fun d h' t hge D => ?_)))))
  refine wpAny_holding ?_
  have st : Stp N0 g (g.puts [(d, ⟨.type "dict", none, .dict #[] 0, #[]⟩)]) s ⟨h', s.gens, s.drawn, t, s.os⟩ := Stp.ofMem live D
  have hda : h'.get? d = some ⟨.type "dict", none, .dict #[] 0, #[]⟩ := (D.nw _ List.mem_cons_self).1
  have hdn : s.heap.get? d = none := (D.nw _ List.mem_cons_self).2
  have keep : ∀ b o, s.heap.get? b = some o → h'.get? b = some o := fun b o e => D.keep b o e (by simp [away])
  have hla1 : h'.IsList a vals.toArray := let ⟨o, ho, r⟩ := hla.isList live; ⟨o, keep _ _ ho, r⟩
  have hdd : h'.DictOf (intKind PG w) d (nones []) := ⟨_, #[], 0, hda, ⟨rfl, rfl, rfl⟩, rfl, fun _ he => by simp at he, Pairs.nil, List.nodup_nil⟩
  refine wpAny_bind (wpAny_typeOf (T := "list") (s := ⟨h', s.gens, s.drawn, t, s.os⟩) hla1.typeIs ?_)
  refine wpAny_bind (wpAny_typeOf (T := "dict") (s := ⟨h', s.gens, s.drawn, t, s.os⟩) ⟨_, hda, rfl⟩ ?_)
  refine if_no (by decide) ?_
  refine wpAny_bind (wpAny_typeOf (T := "dict") (s := ⟨h', s.gens, s.drawn, t, s.os⟩) ⟨_, hda, rfl⟩ ?_)
  refine if_no (by decide) ?_
  refine wpAny_bind (wpAny_pyIter_list hla1 ?_)
  refine wpAny_pure ⟨fk_quietL _, ?_⟩
  have hdl : @LT.lt Nat _ d h'.objs.size := lt_sz hda
  have hal : d ≠ a := fun z => by obtain ⟨o, ho, _⟩ := hla.isList live; rw [z, ho] at hdn; cases hdn
  refine fk_loop hh (it := h'.objs.size) (l := a) (fun z => by have z' : @Eq Nat d h'.objs.size := z; lia) hal xs vals [] _ hints ?_ (hdd.push _) (by simp; lia) fun s' hk hrest hd' => ?_
  · exact ⟨0, vals, ⟨_, Heap.get?_push_size _ rfl, rfl, rfl⟩, hla1.push _, Nat.zero_le _, by simp⟩
  · obtain ⟨o, es, ep, ho, r⟩ := hd'
    have keep2 : ∀ b o, s.heap.get? b = some o → s'.heap.get? b = some o := fun b o e => by
      have hb := lt_sz (keep b o e)
      exact hk b o (fun z => by have z' : @Eq Nat b h'.objs.size := z; lia) (fun z => by rw [z, hdn] at e; cases e) (Heap.get?_push_of_some _ (keep b o e))
    have hgd : g d = none := live_none live hdn
    refine h d (g.put d o) s' ⟨PH.put_le hgd, fun b p e => ?_, fun b p e => ?_, fun b p _ e => keep2 b p e, fun b p e => ⟨p, keep2 b p e⟩, by rw [hrest]⟩ ⟨o, es, ep, PH.put_self, r⟩ hge
    · unfold PH.put at e
      split at e
      · rename_i z; subst z; exact .inr hdn
      · exact .inl e
    · unfold PH.put at e
      split at e
      · rename_i z; subst z; cases e; exact ho
      · exact keep2 b p (live b p e)
end
end
section
open PySem PySem.W PySem.W.X PyProof.Rows PySem.Calls
set_option maxRecDepth 100000
set_option maxHeartbeats 2000000
section
variable {w : World} {A : Around} {E : Value → Shared → Prop} {X : Addr → Prop} {g₀ g : PH} {s₀ s : Shared} {env : Env} {vs : List (Str × Value)}
theorem nameG {M : Model} {x : Str} {pos : Pos} {v : Value} {Q : Value → Shared → Prop} (B : Blk X g₀ s₀ env g s vs) (hK : KIn w g) (hk : env.kindOf x = some .globalImplicit) (hg : env.globals = mainGlobals)
    (e : nsIn (K2 w.params) mainGlobals x = some (some v)) (h : Q v s) (hd : (x == ("__debug__" : Str)) = false := by decide) : wpAny M A (eval (.Name x pos) env) Q E s := wpAny_Name (glob_ B hK hk hg e h) hd
theorem nameB {M : Model} {x : Str} {pos : Pos} {v : Value} {Q : Value → Shared → Prop} (B : Blk X g₀ s₀ env g s vs) (hK : KIn w g) (hk : env.kindOf x = some .globalImplicit) (hg : env.globals = mainGlobals) (hb : env.builtins = builtinsNs)
    (e : nsIn (K2 w.params) mainGlobals x = some none) (e' : bootBuiltins x = some v) (h : Q v s) (hd : (x == ("__debug__" : Str)) = false := by decide) (hne : (x == ("__name__" : Str)) = false := by decide) : wpAny M A (eval (.Name x pos) env) Q E s := wpAny_Name (bltn_ B hK hk hg hb e e' h hne) hd

/-- the step of a frame's end -/
theorem Blk.out {gi : PH} {si : Shared} {vsi : List (Str × Value)} (B : Blk X g s env gi si vsi) : Stp X g gi s si := B.st

theorem dedup_call {n : Nat} {a : Addr} {xs : List Int} {Q : Value → Shared → Prop} (live : ∀ a o, g a = some o → s.heap.get? a = some o) (hK : KIn w g) (hR : Room A (n + 1)) (hl : IntsAt g a xs) (hlen : xs.length < 2 ^ 19)
    (h : ∀ d g' s', Stp N0 g g' s s' → DictI w g' d (dd xs) → (d == sysModules) = false → Q (.ref d) s') : wpAny (model PG w) A (call (.ref 66) [.ref a]) Q E s := by
  refine fn_call (X := N0) (binds := [("params", .ref a), ("unhashable_fallback", .bool false)]) live hK hR (f := 66) rfl (by kernel_rfl) rfl (Looks.of_peek (hK.frag live) (by kernel_rfl)) rfl (by kernel_rfl) (fun A' s₁ hR' _ B hlc => ?_) rfl rfl rfl
  refine wpAny_execs_cons (wpAny_Try_except (wpAny_execs_cons (wpAny_Return_some ?_)))
  refine MethodCall_ (pl := ?_) ?_
  rotate_left
  refine nameB B hK rfl rfl rfl (by kernel_rfl) (v := .type "dict") (by kernel_rfl) ?_
  refine fk_method (hK.frag B.live) fun q h' t D => ?_
  have st1 := Stp.ofMem (X := N0) (t := t) B.live D
  have B1 := B.step st1
  have hq : h'.get? q = some fkObj := (D.nw _ List.mem_cons_self).1
  refine callWith_bm (vs := #[.builtin "dict.fromkeys", .type "dict"]) (args_cons (name_ B1 rfl (.inl rfl) (args_nil ⟨hq, ?_⟩)))
  refine fk_call hR'.hd hq B1.live (hl.mono st1.le) hlen fun d g' s' st hd hdn => ?_
  refine h d g' s' (B1.step st).st hd ?_
  have h2 := lt_sz (B1.live 2 _ (st1.le _ _ (hK.kin 2 _ rfl)))
  have : d ≠ sysModules := fun z => by
    rw [z] at hdn
    exact absurd (Nat.lt_of_lt_of_le h2 hdn) (by decide)
  simpa using this
end
end
section
open PySem PySem.W PySem.W.X PyProof.Rows PySem.Calls
set_option maxRecDepth 100000
set_option maxHeartbeats 2000000
section
variable {w : World} {A : Around} {E : Value → Shared → Prop} {X : Addr → Prop} {g₀ g : PH} {s₀ s : Shared} {env : Env} {vs : List (Str × Value)}

noncomputable abbrev KCall (w : World) (A : Around) (f : Addr) (Q : Value → Shared → Prop) (E : Value → Shared → Prop) : List Value → Shared → Prop := fun vals s₁ => (∃ g₁, KIn w g₁ ∧ ∀ a o, g₁ a = some o → s₁.heap.get? a = some o) ∧ wpAny (model PG w) A (call (.ref f) vals) Q E s₁
noncomputable abbrev KB (M : Model) (A : Around) (id : String) (Q : Value → Shared → Prop) (E : Value → Shared → Prop) : Value → Shared → Prop := fun v s₁ => wpAny M A (call (.builtin id) [v]) Q E s₁
noncomputable abbrev KT1 (M : Model) (A : Around) (T : String) (Q : Value → Shared → Prop) (E : Value → Shared → Prop) : Value → Shared → Prop := fun v s₁ => wpAny M A (call (.type T) [v]) Q E s₁
/-- f(e, ..) of a def of the text -/
theorem callFn {x : Str} {p pos : Pos} {args : List Expr} {f : Addr} {fd : FuncData} {e : Expr} {Q : Value → Shared → Prop} (B : Blk X g₀ s₀ env g s vs) (hK : KIn w g) (hk : env.kindOf x = some .globalImplicit) (hg : env.globals = mainGlobals)
    (en : nsIn (K2 w.params) mainGlobals x = some (some (.ref f))) (ho : (K2 w.params).lookup f = some ⟨.type "function", none, .func fd, #[]⟩)
    (h : wpAny (model PG w) A (spliced (backTo pos (starEach (e :: args) env))) (KCall w A f Q E) E s)
    (hd : (x == ("__debug__" : Str)) = false := by decide) (he : starEach (e :: args) env = (false, eval e env) :: starEach args env := by rfl) :
    wpAny (model PG w) A (eval (.Call (.Name x p) (e :: args) [] pos) env) Q E s := by
  refine Call_Name rfl (nameG B hK hk hg en ?_ hd)
  rw [he] at h ⊢
  refine callWith_function (o := ⟨.type "function", none, .func fd, #[]⟩) (fd := fd) ?_
  refine evalArgs_plain ?_
  refine wpAny_mono h (fun vals s₁ h₁ => ?_) fun _ _ e => e
  refine hide fun Gₕ hGₕ => ?_
  obtain ⟨⟨g₁, k1, l1⟩, h₁⟩ := h₁
  refine hGₕ ?_
  exact ⟨⟨l1 _ _ (k1.kin _ _ ho), rfl⟩, h₁⟩
/-- a built-in of one argument -/
theorem callB1 {M : Model} {x : Str} {p pos : Pos} {e : Expr} {id : String} {Q : Value → Shared → Prop} (B : Blk X g₀ s₀ env g s vs) (hK : KIn w g) (hk : env.kindOf x = some .globalImplicit) (hg : env.globals = mainGlobals) (hb : env.builtins = builtinsNs)
    (e1 : nsIn (K2 w.params) mainGlobals x = some none) (e2 : bootBuiltins x = some (.builtin id))
    (h : wpAny M A (eval e env) (KB M A id Q E) E s)
    (hd : (x == ("__debug__" : Str)) = false := by decide) (hne : (x == ("__name__" : Str)) = false := by decide) (hs : starEach [e] env = [(false, eval e env)] := by rfl) :
    wpAny M A (eval (.Call (.Name x p) [e] [] pos) env) Q E s :=
  Call_Name1 (nameB B hK hk hg hb e1 e2 (callWith_builtin rfl (evalArgs_plain (spliced_cons (wpAny_mono h (fun _ _ h₁ => spliced_nil h₁) fun _ _ e => e)))) hd hne) hs
/-- a built-in class of one argument -/
theorem callT1 {M : Model} {x : Str} {p pos : Pos} {e : Expr} {T : String} {Q : Value → Shared → Prop} (B : Blk X g₀ s₀ env g s vs) (hK : KIn w g) (hk : env.kindOf x = some .globalImplicit) (hg : env.globals = mainGlobals) (hb : env.builtins = builtinsNs)
    (e1 : nsIn (K2 w.params) mainGlobals x = some none) (e2 : bootBuiltins x = some (.type T))
    (h : wpAny M A (eval e env) (KT1 M A T Q E) E s)
    (hd : (x == ("__debug__" : Str)) = false := by decide) (hne : (x == ("__name__" : Str)) = false := by decide) (hs : starEach [e] env = [(false, eval e env)] := by rfl) :
    wpAny M A (eval (.Call (.Name x p) [e] [] pos) env) Q E s :=
  Call_Name1 (nameB B hK hk hg hb e1 e2 (PySem.callWith_type (pos := pos) (first := []) rfl (evalArgs_plain (spliced_cons (wpAny_mono h (fun _ _ h₁ => spliced_nil h₁) fun _ _ e => e)))) hd hne) hs

theorem addL {l b : Addr} {vs ws : List Value} {Q : Value → Shared → Prop} (hl : s.heap.IsList l vs.toArray) (hb : s.heap.IsList b ws.toArray)
    (h : Q (.ref s.heap.objs.size) { s with heap := s.heap.push { cls := .type "list", data := .seq (vs ++ ws).toArray } }) (hsz : vs.length + ws.length ≤ sizeLine) :
    wpAny (model PG w) A (binaryOp .Add (.ref l) (.ref b)) Q E s := by
  refine hide fun Gₕ hGₕ => ?_
  obtain ⟨⟨cls, dd, data, sl⟩, ho, hc, n, hd⟩ := id hl
  obtain ⟨⟨cls2, dd2, data2, sl2⟩, ho2, hc2, n2, hd2⟩ := id hb
  refine hGₕ ?_
  simp only at hc hd hc2 hd2
  subst hc hd hc2 hd2
  have e : vs.toArray ++ ws.toArray = (vs ++ ws).toArray := by simp
  refine concat_meets ⟨_, ho, rfl⟩ ⟨_, ho2, rfl⟩ noFill_list_add seq_list_add PySem.F.slot_list_add PySem.F.entry_list_add (PySem.F.args_list_add_2 _ _) (list_addW l b vs.toArray ws.toArray n n2 dd dd2 sl sl2 (by simpa using hsz)) ⟨ho, ho2, ?_⟩
  rw [e]
  exact h
/-- a + b of two known lists -/
theorem addLK {l b : Addr} {vs ws : List Value} {Q : Value → Shared → Prop} (live : ∀ a o, g a = some o → s.heap.get? a = some o) (hl : ListAt g l vs) (hb : ListAt g b ws) (hsz : vs.length + ws.length < 2 ^ 20)
    (h : ∀ a g' s', Stp N0 g g' s s' → ListAt g' a (vs ++ ws) → Q (.ref a) s') : wpAny (model PG w) A (binaryOp .Add (.ref l) (.ref b)) Q E s :=
  addL (hl.isList live) (hb.isList live) (h _ _ _ (Stp.alloc live rfl) ⟨_, PH.put_self, rfl, 0, rfl⟩) (by rw [sizeLine_eq]; lia)
/-- a list display, laid -/
theorem newListK {vs : List Value} {Q : Value → Shared → Prop} {M : Model} (live : ∀ a o, g a = some o → s.heap.get? a = some o) (hsz : vs.length < 2 ^ 20)
    (h : ∀ a g' s', Stp N0 g g' s s' → ListAt g' a vs → Q (.ref a) s') : wpAny M A (newList vs) Q E s :=
  wpAny_newList (h _ _ _ (Stp.alloc live rfl) ⟨_, PH.put_self, rfl, 0, rfl⟩) (by rw [sizeLine_eq]; lia)

theorem lenDict {d : Addr} {xs : List Int} {Q : Value → Shared → Prop} (live : ∀ a o, g a = some o → s.heap.get? a = some o) (hd : DictI w g d xs) (hne : (d == sysModules) = false) (hlen : xs.length < 2 ^ 20) (h : ∀ t s', Stp N0 g g s s' → Q (.int xs.length t) s') :
    wpAny (model PG w) A (call (.builtin "len") [.ref d]) Q E s := by
  refine call_len_dict hne (hd.of live) (by simp [nones]; lia) ?_
  have e : ((nones xs).length : Int) = xs.length := by simp [nones]
  rw [e]
  exact h _ _ (Stp.tok live)

theorem lenList {a : Addr} {vs : List Value} {Q : Value → Shared → Prop} (live : ∀ a o, g a = some o → s.heap.get? a = some o) (hl : ListAt g a vs) (hlen : vs.length < 2 ^ 20) (h : ∀ t s', Stp N0 g g s s' → Q (.int vs.length t) s') :
    wpAny (model PG w) A (call (.builtin "len") [.ref a]) Q E s := by
  refine call_len_list (hl.isList live) (by simp; lia) ?_
  have e : (vs.toArray.size : Int) = vs.length := by simp
  rw [e]
  exact h _ _ (Stp.tok live)

noncomputable def both (xs ys : List Int) : Int := (dd (xs ++ ys)).length
theorem dd_len (xs : List Int) : (dd xs).length ≤ xs.length := by have := ddFrom_len xs []; simpa [dd, ddFrom] using this

theorem both_call {n : Nat} {a b : Addr} {xs ys : List Int} {Q : Value → Shared → Prop} (live : ∀ a o, g a = some o → s.heap.get? a = some o) (hK : KIn w g) (hR : Room A (n + 2)) (hx : IntsAt g a xs) (hy : IntsAt g b ys) (hlen : xs.length + ys.length < 2 ^ 18)
    (h : ∀ t g' s', Stp N0 g g' s s' → Q (.int (both xs ys) t) s') : wpAny (model PG w) A (call (.ref 92) [.ref a, .ref b]) Q E s := by
  refine fn_call (X := N0) (binds := [("one", .ref a), ("other", .ref b)]) live hK hR (f := 92) rfl (by kernel_rfl) rfl (Looks.of_pure (by rfl)) rfl (by kernel_rfl) (fun A' s₁ hR' _ B hlc => ?_) rfl rfl rfl
  refine wpAny_execs_cons (wpAny_Return_some ?_)
  refine callB1 B hK rfl rfl rfl (by kernel_rfl) (id := "len") (by kernel_rfl) ?_
  refine callFn B hK rfl rfl (f := 66) (by kernel_rfl) rfl (args_cons (wpAny_BinOp (name_ B rfl (.inl rfl) (name_ B rfl (.inl rfl) ?_))))
  refine hide fun Gₕ hGₕ => ?_
  obtain ⟨us, hu, hui⟩ := hx
  obtain ⟨ws, hw, hwi⟩ := hy
  refine hGₕ ?_
  have l1 := hui.length
  have l2 := hwi.length
  refine addLK B.live hu hw (by lia) fun c g1 s2 st1 hc => args_nil ⟨⟨g1, hK.mono st1.le, st1.live⟩, ?_⟩
  have B1 := B.step st1
  refine dedup_call B1.live (hK.mono st1.le) hR' ⟨_, hc, hui.append hwi⟩ (by simp; lia) fun d g2 s3 st2 hd hdn => ?_
  have B2 := B1.step st2
  refine lenDict B2.live hd hdn (Nat.lt_of_le_of_lt (dd_len _) (by simp; lia)) fun t s4 st3 => ?_
  exact h t g2 s4 (B2.step st3).st
end
end
section
open PySem PySem.W PySem.W.X PyProof.Rows PySem.Calls
set_option maxRecDepth 100000
set_option maxHeartbeats 2000000
section
variable {w : World} {A : Around} {E : Value → Shared → Prop} {X : Addr → Prop} {g₀ g : PH} {s₀ s : Shared} {env : Env} {vs : List (Str × Value)}
theorem range_new {n : Int} {t : Tok} {Q : Value → Shared → Prop} (hend : ∀ a h' t' u v, Mem s.heap h' [] [(a, ⟨.type "range", none, .fields #[.int 0 u, .int n t, .int 1 v], #[]⟩)] → Q (.ref a) ⟨h', s.gens, s.drawn, t', s.os⟩) :
    wpAny (model PG w) A (call (.type "range") [.int n t]) Q E s :=
  call_range_1 (hend _ _ _ _ _ ((Mem.start _).alloc rfl))
theorem pyIter_range {g₁ : PH} {s₁ : Shared} {r : Addr} {k : Nat} {n : Int} {t u v : Tok} {P : List (Value → Prop) → PH → Prop} (st : Stp N0 g g₁ s s₁) (hr : g₁ r = some ⟨.type "range", none, .fields #[.int 0 t, .int n u, .int 1 v], #[]⟩) (hn : n = k) (hk : k < 2 ^ 20)
    (hP : P ((List.range k).map fun (i : Nat) v => ∃ t, v = .int i t) g₁) :
    wpAny (model PG w) A (pyIter (.ref r)) (fun itv s₂ => Sourced w g s P itv s₂) E s₁ := by
  subst hn
  have hz : Builtin.Range.rangeSize 0 (k : Int) 1 = (k : Int) := by rw [rangeSize_nat]; lia
  refine wpAny_pyIter_range (a := 0) (b := k) (c := 1) (st.live _ _ hr) (small_one (by lia) (by lia) (by lia) (by lia)) ⟨s₁.heap.objs.size, _, rangeSt s₁.heap.objs.size, (List.range k).map fun (i : Nat) v => ∃ t, v = .int i t, g₁, rfl, rangeSrc, ?_, ?_, ?_, ?_, ?_, hP⟩
  · refine ⟨0, k, ?_, ?_⟩
    · rw [hz]; exact Heap.get?_push_size _ rfl
    · apply List.map_congr_left
      intro i _
      funext v
      simp
  · exact ⟨st.le, st.new, fun b o e => Heap.get?_push_of_some _ (st.live b o e), fun b o hx e => Heap.get?_push_of_some _ (st.keep b o hx e), fun b o e => ⟨o, Heap.get?_push_of_some _ (st.keep0 b o e)⟩, by rw [st.rest]⟩
  · cases q : s.heap.get? s₁.heap.objs.size with
    | none => rfl
    | some o => have := lt_sz (st.keep0 _ o q); exact absurd this (Nat.lt_irrefl _)
  · exact live_none st.live (get?_size _)
  · rintro b rfl
    refine .inr ?_
    cases q : s.heap.get? s₁.heap.objs.size with
    | none => rfl
    | some o => have := lt_sz (st.keep0 _ o q); exact absurd this (Nat.lt_irrefl _)
end
end
section
open PySem PySem.W PySem.W.X PyProof.Rows PySem.Calls
set_option maxRecDepth 100000
set_option maxHeartbeats 2000000
theorem lk_cons {x y : Str} {v u : Value} {vs : List (Str × Value)} (hne : (y == x) = false) (h : vs.lookup y = some u) : ((x, v) :: vs).lookup y = some u := by rw [List.lookup_cons, hne]; exact h
theorem intV {a b : Int} {t : Tok} (h : a = b) : IntV (.int a t) b := ⟨t, by rw [h]⟩
theorem drop_cons {α : Type} {l : List α} {j : Nat} {p : α} {r : List α} (h : p :: r = l.drop j) : l[j]? = some p ∧ r = l.drop (j + 1) := by
  refine ⟨?_, ?_⟩
  · rw [← List.head?_drop, ← h]; rfl
  · rw [← List.drop_drop, ← h]; rfl
section
variable {w : World} {A : Around} {E : Value → Shared → Prop} {X : Addr → Prop} {g₀ g : PH} {s₀ s : Shared} {env : Env} {vs : List (Str × Value)}

theorem CompOK.mono {elt target iter : Expr} {ifs : List Expr} {rest : List Comprehension} {scope : Scope} {pos : Pos} {fin fin' : List Value → PH → Prop} (h : CompOK w A E elt target iter ifs rest scope pos env g s vs fin) (hf : ∀ out g', fin out g' → fin' out g') :
    CompOK w A E elt target iter ifs rest scope pos env g s vs fin' := by
  refine wpAny_mono h (fun v s₁ h₁ => wpAny_mono h₁ (fun itv s₂ h₂ => ?_) fun _ _ e => e) fun _ _ e => e
  refine hide fun Gₕ hGₕ => ?_
  obtain ⟨it, F, St, r, g₂, a, src, hst, st2, its, itg, hloop⟩ := h₂
  refine hGₕ ?_
  refine ⟨it, F, St, r, g₂, a, src, hst, st2, its, itg, fun acc L s₃ cs blk hst3 hl3 ha3 => codeAny_mono (hloop acc L s₃ cs blk hst3 hl3 ha3) fun r s' hr => ?_⟩
  refine hide fun Gₕ hGₕ => ?_
  obtain ⟨hr, out, g', vs', hl, Bf, ha, hfi⟩ := hr
  refine hGₕ ?_
  exact ⟨hr, out, g', vs', hl, Bf, ha, hf _ _ hfi⟩
/-- «[elt for x in iter]», by the place -/
theorem compN {elt iter : Expr} {x : Str} {px : Pos} {scope : Scope} {pos : Pos} (ps : List (Value → Prop)) (R : Nat → List Value → PH → Prop)
    (hh : A.handled = none)
    (hxf : scope.names.lookup x ≠ some .free)
    (hx : ∀ L, (compEnv scope env L).kindOf x = some .local ∨ (compEnv scope env L).kindOf x = some .cell ∧ (x, NameKind.cell) ∈ scope.names ∧ ((compEnv scope env L).cells.lookup x).isSome = true)
    (hit : wpAny (model PG w) A (eval iter env) (fun v s₁ => wpAny (model PG w) A (pyIter v) (Sourced w g s fun r g₂ => r = ps ∧ R 0 [] g₂) E s₁) E s)
    (helt : ∀ L j p v out gi si vs', ps[j]? = some p → p v → R j out gi → Blk N0 g s (compEnv scope env L) gi si ((x, v) :: vs') → (∀ y, scope.names.lookup y = some .free → vs'.lookup y = vs.lookup y) →
      wpAny (model PG w) A (eval elt (compEnv scope env L)) (KElt (R (j + 1)) gi si out) EF si)
    (hlen : ∀ j out g, R j out g → out.length < 2 ^ 20) : CompOK w A E elt (.Name x px) iter [] [] scope pos env g s vs (fun out g' => R ps.length out g') := by
  refine CompOK.mono (comp1 (fun r out g => ∃ j, j ≤ ps.length ∧ r = ps.drop j ∧ R j out g) hh hxf hx (wpAny_mono hit (fun v s₁ h₁ => wpAny_mono h₁ (fun itv s₂ h₂ => ?_) fun _ _ e => e) fun _ _ e => e) ?_ ?_) ?_
  · obtain ⟨it, F, St, r, g₂, a, b, c, d, e, f, hF, h1, h2⟩ := h₂
    exact ⟨it, F, St, r, g₂, a, b, c, d, e, f, hF, 0, Nat.zero_le _, h1, h2⟩
  · intro L p rest v out gi si vs' hp rᵢ1 Bi hv
    refine hide fun Gₕ hGₕ => ?_
    obtain ⟨j, hj, hr, hR⟩ := rᵢ1
    refine hGₕ ?_
    obtain ⟨h1, h2⟩ := drop_cons hr
    refine wpAny_mono (helt L j p v out gi si vs' h1 hp hR Bi hv) (fun u s' h' => ?_) fun _ _ q => q
    obtain ⟨g', st, hR'⟩ := h'
    exact ⟨g', st, j + 1, (List.getElem?_eq_some_iff.mp h1).1, h2, hR'⟩
  · rintro r out g ⟨j, _, _, hR⟩; exact hlen j out g hR
  · intro out g' rᵢ2
    refine hide fun Gₕ hGₕ => ?_
    obtain ⟨j, hj, hr, hR⟩ := rᵢ2
    refine hGₕ ?_
    have : j = ps.length := by
      have := List.drop_eq_nil_iff.mp hr.symm
      lia
    subst this
    exact hR
/-- «[elt for x in iter if c]», by the place -/
theorem compNif {elt iter c : Expr} {x : Str} {px : Pos} {scope : Scope} {pos : Pos} (ps : List (Value → Prop)) (R : Nat → List Value → PH → Prop)
    (hh : A.handled = none)
    (hxf : scope.names.lookup x ≠ some .free)
    (hx : ∀ L, (compEnv scope env L).kindOf x = some .local ∨ (compEnv scope env L).kindOf x = some .cell ∧ (x, NameKind.cell) ∈ scope.names ∧ ((compEnv scope env L).cells.lookup x).isSome = true)
    (hit : wpAny (model PG w) A (eval iter env) (fun v s₁ => wpAny (model PG w) A (pyIter v) (Sourced w g s fun r g₂ => r = ps ∧ R 0 [] g₂) E s₁) E s)
    (helt : ∀ L j p v out gi si vs', ps[j]? = some p → p v → R j out gi → Blk N0 g s (compEnv scope env L) gi si ((x, v) :: vs') → (∀ y, scope.names.lookup y = some .free → vs'.lookup y = vs.lookup y) →
      wpAny (model PG w) A (isTrue c (compEnv scope env L) (eval c (compEnv scope env L))) (fun b s₁ => ∃ g₁, Stp N0 gi g₁ si s₁ ∧ (b = false → R (j + 1) out g₁) ∧ (b = true →
        wpAny (model PG w) A (eval elt (compEnv scope env L)) (fun u s' => ∃ g', Stp N0 g₁ g' s₁ s' ∧ R (j + 1) (out ++ [u]) g') EF s₁)) EF si)
    (hlen : ∀ j out g, R j out g → out.length < 2 ^ 20) : CompOK w A E elt (.Name x px) iter [c] [] scope pos env g s vs (fun out g' => R ps.length out g') := by
  refine CompOK.mono (comp1if (fun r out g => ∃ j, j ≤ ps.length ∧ r = ps.drop j ∧ R j out g) hh hxf hx (wpAny_mono hit (fun v s₁ h₁ => wpAny_mono h₁ (fun itv s₂ h₂ => ?_) fun _ _ e => e) fun _ _ e => e) ?_ ?_) ?_
  · obtain ⟨it, F, St, r, g₂, a, b, c, d, e, f, hF, h1, h2⟩ := h₂
    exact ⟨it, F, St, r, g₂, a, b, c, d, e, f, hF, 0, Nat.zero_le _, h1, h2⟩
  · intro L p rest v out gi si vs' hp rᵢ3 Bi hv
    refine hide fun Gₕ hGₕ => ?_
    obtain ⟨j, hj, hr, hR⟩ := rᵢ3
    refine hGₕ ?_
    obtain ⟨h1, h2⟩ := drop_cons hr
    have hj1 := (List.getElem?_eq_some_iff.mp h1).1
    refine wpAny_mono (helt L j p v out gi si vs' h1 hp hR Bi hv) (fun b s₁ h' => ?_) fun _ _ q => q
    refine hide fun Gₕ hGₕ => ?_
    obtain ⟨g₁, st, hf, ht⟩ := h'
    refine hGₕ ?_
    refine ⟨g₁, st, fun hb => ⟨j + 1, hj1, h2, hf hb⟩, fun hb => wpAny_mono (ht hb) (fun u s' h' => ?_) fun _ _ q => q⟩
    obtain ⟨g', st', hR'⟩ := h'
    exact ⟨g', st', j + 1, hj1, h2, hR'⟩
  · rintro r out g ⟨j, _, _, hR⟩; exact hlen j out g hR
  · intro out g' rᵢ4
    refine hide fun Gₕ hGₕ => ?_
    obtain ⟨j, hj, hr, hR⟩ := rᵢ4
    refine hGₕ ?_
    have : j = ps.length := by
      have := List.drop_eq_nil_iff.mp hr.symm
      lia
    subst this
    exact hR

theorem listDict {d : Addr} {xs : List Int} {Q : Value → Shared → Prop} (hh : A.handled = none) (live : ∀ a o, g a = some o → s.heap.get? a = some o) (hd : DictI w g d xs) (hne : (d == sysModules) = false) (hlen : xs.length < 2 ^ 20)
    (h : ∀ a g' s', Stp N0 g g' s s' → IntsAt g' a xs → Q (.ref a) s') : wpAny (model PG w) A (call (.type "list") [.ref d]) Q E s := by
  obtain ⟨ep, hda⟩ := (hd.of live).dictAt
  refine kdl_call (kdl_dict hne) hh hda (by simp [nones]; rw [sizeLine_eq]; lia) fun h' tk acc' c' hk hS hit => ?_
  have hn := get?_size s.heap
  have hgn := live_none live hn
  refine h s.heap.objs.size (g.put s.heap.objs.size { cls := .type "list", dict := none, data := .seq acc' c', slots := #[] }) _ ⟨PH.put_le hgn, fun b p e => ?_, fun b p e => ?_, fun b p _ e => hk b p e, fun b p e => ⟨p, hk b p e⟩, rfl⟩ ⟨acc'.toList, ⟨_, PH.put_self, rfl, c', by simp⟩, ?_⟩
  · unfold PH.put at e
    split at e
    · rename_i z; subst z; exact .inr hn
    · exact .inl e
  · unfold PH.put at e
    split at e
    · rename_i z; subst z; cases e; exact hS
    · exact hk b p (live b p e)
  · obtain ⟨h1, h2⟩ := hit
    have gen : ∀ (vs : List Value) (xs : List Int), vs.length = xs.length → (∀ (j : Nat) v, vs[j]? = some v → ∃ k, xs[j]? = some k ∧ IntV v k) → All2 IntV vs xs := by
      intro vs
      induction vs with
      | nil => intro xs hl _; cases xs with | nil => trivial | cons a b => simp at hl
      | cons v vs ih =>
        intro xs hl hv
        cases xs with
        | nil => simp at hl
        | cons x xs =>
          refine ⟨?_, ih xs (by simpa using hl) fun j u hu => ?_⟩
          · obtain ⟨k, hk, hi⟩ := hv 0 v rfl
            simp at hk; subst hk; exact hi
          · have := hv (j + 1) u (by simpa using hu)
            simpa using this
    refine gen _ _ (by rw [Array.length_toList, h1]; simp [nones]) fun j v hv => ?_
    refine hide fun Gₕ hGₕ => ?_
    obtain ⟨k, x, hkx, hki⟩ := h2 j v (by simpa using hv)
    simp only [nones, List.getElem?_map, Option.map_eq_some_iff] at hkx
    obtain ⟨y, hy, e⟩ := hkx
    refine hGₕ ?_
    have e1 : y = k := congrArg Prod.fst e
    subst e1
    exact ⟨y, hy, Value.isInt_shape hki⟩

/-- the row of a number -/
noncomputable def rowOf (x : Int) : List Int := dd ((List.range (1 + x / 64).toNat).map fun k => x / 4 ^ k % 4)

theorem row_call {n : Nat} {x : Int} {t : Tok} {Q : Value → Shared → Prop} (live : ∀ a o, g a = some o → s.heap.get? a = some o) (hK : KIn w g) (hR : Room A (n + 2)) (hx0 : 0 ≤ x) (hx1 : x < 192)
    (h : ∀ a g' s', Stp N0 g g' s s' → IntsAt g' a (rowOf x) → Q (.ref a) s') : wpAny (model PG w) A (call (.ref 85) [.int x t]) Q E s := by
  refine fn_call (X := N0) (binds := [("x", .int x t)]) live hK hR (f := 85) rfl (by kernel_rfl) rfl (Looks.of_pure (by rfl)) rfl (by kernel_rfl) (fun A' s₁ hR' _ B hlc => ?_) rfl rfl rfl
  refine wpAny_execs_cons (wpAny_Return_some ?_)
  refine callT1 B hK rfl rfl rfl (by kernel_rfl) (T := "list") (by kernel_rfl) ?_
  refine callFn B hK rfl rfl (f := 66) (by kernel_rfl) rfl (args_cons ?_)
  generalize hm : (1 + x / 64).toNat = m
  have hm3 : m ≤ 3 := by lia
  refine comp_eval B (compN ((List.range m).map fun (i : Nat) v => ∃ t, v = Value.int i t) (fun j out g' => KIn w g' ∧ j ≤ m ∧ All2 IntV out ((List.range j).map fun k => x / 4 ^ k % 4)) hR'.hd (by decide) (fun L => .inl rfl) ?_ ?_ ?_) ?_
  · refine callT1 B hK rfl rfl rfl (by kernel_rfl) (T := "range") (by kernel_rfl) ?_
    refine wpAny_BinOp (wpAny_Constant_int ?_)
    refine wpAny_BinOp (name_ (B.tok _) rfl (.inr ⟨.inl rfl, rfl⟩) (wpAny_Constant_int ?_))
    refine floordiv_int (by decide) (PyProof.Rows.add_int ?_) (.inl (PyProof.noPylong_small (by lia)))
    refine range_new fun a h' t' u v D => ?_
    have st := Stp.ofMem (X := N0) (s := s₁) (t := t') B.live D
    refine pyIter_range st (k := m) (by simp only [PH.puts, List.lookup_cons, beq_self_eq_true]; rfl) ?_ (by lia) ⟨rfl, hK.mono st.le, Nat.zero_le _, trivial⟩
    rw [Int.fdiv_eq_ediv_of_nonneg _ (by decide)]; lia
  · intro L j p v out gi si vs' hp hpv rᵢ5 Bi hv
    refine hide fun Gₕ hGₕ => ?_
    obtain ⟨hKi, hj, hout⟩ := rᵢ5
    refine hGₕ ?_
    rw [List.getElem?_map, Option.map_eq_some_iff] at hp
    refine hide fun Gₕ hGₕ => ?_
    obtain ⟨i, hi, rfl⟩ := hp
    obtain ⟨hjm, rfl⟩ : j < m ∧ i = j := by
      rw [List.getElem?_eq_some_iff] at hi
      obtain ⟨h1, h2⟩ := hi
      simp at h1 h2
      exact ⟨h1, h2.symm⟩
    obtain ⟨t1, rfl⟩ := hpv
    refine hGₕ ?_
    have hlx : ((("k" : Str), Value.int (i : Int) t1) :: vs').lookup ("x" : Str) = some (.int x t) := lk_cons (by decide) ((hv "x" rfl).trans rfl)
    refine wpAny_BinOp (wpAny_BinOp (name_ Bi hlx (.inr ⟨.inl rfl, rfl⟩) (wpAny_BinOp (wpAny_Constant_int (name_ (Bi.tok _) rfl (.inl rfl) ?_)))))
    have hp4 : (4 : Int) ^ i > 0 := Int.pow_pos (by decide)
    have hp16 : (4 : Int) ^ i ≤ 16 := by
      have : i = 0 ∨ i = 1 ∨ i = 2 := by lia
      rcases this with h | h | h <;> rw [h] <;> decide
    refine pow_int_small (by lia) (by lia) (by decide) ?_
    have e1 : ((i : Int)).toNat = i := by lia
    rw [e1]
    refine floordiv_int (by lia) (wpAny_Constant_int ?_) (.inl (PyProof.noPylong_small (by lia)))
    refine mod_int' (by decide) ⟨gi, Stp.tok Bi.live, hKi, hjm, ?_⟩
    rw [List.range_succ, List.map_append]
    refine hout.snoc (intV ?_)
    rw [Int.fdiv_eq_ediv_of_nonneg _ (by lia), Int.fmod_eq_emod_of_nonneg _ (by decide)]
  · intro j out g' rᵢ6
    refine hide fun Gₕ hGₕ => ?_
    obtain ⟨_, hj, hout⟩ := rᵢ6
    refine hGₕ ?_
    have := hout.length
    simp at this
    lia
  · intro acc out g1 g2 s2 rᵢ7 le hl st1
    refine hide fun Gₕ hGₕ => ?_
    obtain ⟨hK1, _, hout⟩ := rᵢ7
    refine hGₕ ?_
    have B1 := B.step st1
    have hK2 := hK1.mono le
    simp only [List.length_map, List.length_range] at hout
    refine args_nil ⟨⟨g2, hK2, st1.live⟩, ?_⟩
    refine dedup_call B1.live hK2 hR' ⟨_, hl, hout⟩ (by simp; lia) fun d g3 s3 st2 hd hdn => ?_
    have B2 := B1.step st2
    refine listDict hR'.hd B2.live hd hdn (Nat.lt_of_le_of_lt (dd_len _) (by simp; lia)) fun a g4 s4 st3 ha => ?_
    refine h a g4 s4 (B2.step st3).st ?_
    unfold rowOf
    rw [hm]
    exact ha
end
end
section
open PySem PySem.W PySem.W.X PyProof.Rows PySem.Calls PySem.SeqAt
set_option maxRecDepth 100000
set_option maxHeartbeats 2000000
noncomputable abbrev dI (xs : List Int) : PyData := .list (xs.map PyData.int)
noncomputable abbrev dS (xss : List (List Int)) : PyData := .list (xss.map dI)
theorem canI : ∀ xs : List Int, PyData.canLayAll0 (xs.map PyData.int) = true
  | [] => rfl
  | _ :: r => by show (true && _) = true; rw [canI r]; rfl
theorem canS : ∀ xss : List (List Int), PyData.canLayAll0 (xss.map dI) = true
  | [] => rfl
  | x :: r => by show (PyData.canLay0 (dI x) && _) = true; rw [canS r, Bool.and_true]; exact canI x
theorem depI : ∀ xs : List Int, PyData.depthAll (xs.map PyData.int) = 0
  | [] => rfl
  | _ :: r => by show max 0 (PyData.depthAll (r.map PyData.int)) = 0; rw [depI r]; rfl
theorem depS : ∀ xss : List (List Int), PyData.depthAll (xss.map dI) ≤ 1
  | [] => Nat.zero_le _
  | x :: r => by
    show max (PyData.depthAll (x.map PyData.int) + 1) (PyData.depthAll (r.map dI)) ≤ 1
    rw [depI x]; have := depS r; lia
theorem eqvI : ∀ xs ys : List Int, PyData.eqvAll (xs.map PyData.int) (ys.map PyData.int) = decide (xs = ys)
  | [], [] => rfl
  | [], _ :: _ => rfl
  | _ :: _, [] => rfl
  | x :: xs, y :: ys => by
    show ((x == y) && PyData.eqvAll (xs.map PyData.int) (ys.map PyData.int)) = _
    rw [eqvI xs ys, Bool.eq_iff_iff]
    simp
theorem eqvL (xs ys : List Int) : PyData.eqv (dI xs) (dI ys) = decide (xs = ys) := eqvI xs ys
theorem eqvSS : ∀ xs ys : List (List Int), PyData.eqvAll (xs.map dI) (ys.map dI) = decide (xs = ys)
  | [], [] => rfl
  | [], _ :: _ => rfl
  | _ :: _, [] => rfl
  | x :: xs, y :: ys => by
    show (PyData.eqv (dI x) (dI y) && PyData.eqvAll (xs.map dI) (ys.map dI)) = _
    rw [eqvSS xs ys, eqvL, Bool.eq_iff_iff]
    simp
theorem readsI {h : Heap} : ∀ {vs : List Value} {xs : List Int}, All2 IntV vs xs → ReadsAll h vs (xs.map PyData.int) []
  | [], [], _ => .nil
  | _ :: _, _ :: _, ⟨⟨t, e⟩, r⟩ => by subst e; exact .cons (.int _ t) (readsI r)
  | [], _ :: _, x => x.elim
  | _ :: _, [], x => x.elim
theorem IntsAt.reads {g : PH} {h : Heap} {a : Addr} {xs : List Int} (x : IntsAt g a xs) (live : ∀ a o, g a = some o → h.get? a = some o) : ∃ as, Reads h (.ref a) (dI xs) as := by
  refine hide fun Gₕ hGₕ => ?_
  obtain ⟨vs, ⟨o, ho, hc, n, hd⟩, hi⟩ := x
  refine hGₕ ?_
  exact ⟨_, .list (live _ _ ho) hc hd (by simpa using readsI hi)⟩
theorem readsS {g : PH} {h : Heap} (live : ∀ a o, g a = some o → h.get? a = some o) : ∀ {vs : List Value} {xss : List (List Int)}, All2 (IV g) vs xss → ∃ as, ReadsAll h vs (xss.map dI) as
  | [], [], _ => ⟨_, .nil⟩
  | _ :: _, _ :: _, ⟨⟨a, e, r⟩, q⟩ => by
    subst e
    obtain ⟨as, h1⟩ := r.reads live
    obtain ⟨bs, h2⟩ := readsS live q
    exact ⟨_, .cons h1 h2⟩
  | [], _ :: _, x => x.elim
  | _ :: _, [], x => x.elim
theorem SetsAt.reads {g : PH} {h : Heap} {a : Addr} {xss : List (List Int)} (x : SetsAt g a xss) (live : ∀ a o, g a = some o → h.get? a = some o) : ∃ as, Reads h (.ref a) (dS xss) as := by
  refine hide fun Gₕ hGₕ => ?_
  obtain ⟨vs, ⟨o, ho, hc, n, hd⟩, hi⟩ := x
  obtain ⟨as, h1⟩ := readsS live hi
  refine hGₕ ?_
  exact ⟨_, .list (live _ _ ho) hc hd (by simpa using h1)⟩

section
variable {w : World} {A : Around} {E : Value → Shared → Prop} {X : Addr → Prop} {g₀ g : PH} {s₀ s : Shared} {env : Env} {vs : List (Str × Value)} {n : Nat}
theorem eqInts {a b : Addr} {xs ys : List Int} {Q : Value → Shared → Prop} (hR : Room A n) (live : ∀ a o, g a = some o → s.heap.get? a = some o) (hx : IntsAt g a xs) (hy : IntsAt g b ys) (h : Q (.bool (decide (xs = ys))) s) :
    wpAny (model PG w) A (compareOp .Eq (.ref a) (.ref b)) Q E s := by
  obtain ⟨_, r1⟩ := hx.reads live
  obtain ⟨_, r2⟩ := hy.reads live
  refine compareEq_reads r1 r2 (canI _) (canI _) ?_ (by rw [eqvL]; exact h)
  have := hR.un
  show A.units + min (PyData.depthAll (xs.map PyData.int) + 1) (PyData.depthAll (ys.map PyData.int) + 1) < 9900
  rw [depI, depI]; lia
theorem neInts {a b : Addr} {xs ys : List Int} {Q : Value → Shared → Prop} (hR : Room A n) (live : ∀ a o, g a = some o → s.heap.get? a = some o) (hx : IntsAt g a xs) (hy : IntsAt g b ys) (h : Q (.bool (decide (xs ≠ ys))) s) :
    wpAny (model PG w) A (compareOp .NotEq (.ref a) (.ref b)) Q E s := by
  obtain ⟨_, r1⟩ := hx.reads live
  obtain ⟨_, r2⟩ := hy.reads live
  refine compareNe_reads r1 r2 (canI _) (canI _) ?_ ?_
  · have := hR.un
    show A.units + min (PyData.depthAll (xs.map PyData.int) + 1) (PyData.depthAll (ys.map PyData.int) + 1) < 9900
    rw [depI, depI]; lia
  · rw [eqvL]
    have : (!decide (xs = ys)) = decide (xs ≠ ys) := by simp
    rw [this]; exact h
theorem eqSets {a b : Addr} {xs ys : List (List Int)} {Q : Value → Shared → Prop} (hR : Room A n) (live : ∀ a o, g a = some o → s.heap.get? a = some o) (hx : SetsAt g a xs) (hy : SetsAt g b ys) (h : Q (.bool (decide (xs = ys))) s) :
    wpAny (model PG w) A (compareOp .Eq (.ref a) (.ref b)) Q E s := by
  obtain ⟨_, r1⟩ := hx.reads live
  obtain ⟨_, r2⟩ := hy.reads live
  refine compareEq_reads r1 r2 (canS _) (canS _) ?_ (by show Q (.bool (PyData.eqvAll (xs.map dI) (ys.map dI))) s; rw [eqvSS]; exact h)
  have := hR.un
  show A.units + min (PyData.depthAll (xs.map dI) + 1) (PyData.depthAll (ys.map dI) + 1) < 9900
  have := depS xs; lia
theorem notInSets {a c : Addr} {xs : List Int} {xss : List (List Int)} {Q : Value → Shared → Prop} (hR : Room A n) (live : ∀ a o, g a = some o → s.heap.get? a = some o) (hx : IntsAt g a xs) (hc : SetsAt g c xss) (h : Q (.bool (decide (xs ∉ xss))) s) :
    wpAny (model PG w) A (compareOp .NotIn (.ref a) (.ref c)) Q E s := by
  obtain ⟨_, r1⟩ := hx.reads live
  obtain ⟨_, r2⟩ := hc.reads live
  refine notIn_list_reads r2 r1 (canS _) (canI _) ?_ ?_
  · have := hR.un
    show A.units + 1 + min (PyData.depthAll (xss.map dI)) (PyData.depthAll (xs.map PyData.int) + 1) < 9900
    have := depS xss; lia
  · have e : (!((xss.map dI).any fun y => PyData.eqv y (dI xs))) = decide (xs ∉ xss) := by
      rw [Bool.eq_iff_iff]
      simp only [List.any_map, Bool.not_eq_true', List.any_eq_false, Function.comp, eqvL, decide_eq_true_eq]
      exact ⟨fun q z => q xs z rfl, fun q y hy e => q (e ▸ hy)⟩
    rw [e]; exact h
theorem inInts {i : Int} {t : Tok} {c : Addr} {xs : List Int} {Q : Value → Shared → Prop} (hR : Room A n) (live : ∀ a o, g a = some o → s.heap.get? a = some o) (hc : IntsAt g c xs) (h : Q (.bool (decide (i ∈ xs))) s) :
    wpAny (model PG w) A (compareOp .In (.int i t) (.ref c)) Q E s := by
  obtain ⟨_, r2⟩ := hc.reads live
  refine in_list_reads r2 (.int i t) (canI _) rfl ?_ ?_
  · have := hR.un
    show A.units + 1 + min (PyData.depthAll (xs.map PyData.int)) 0 < 9900
    lia
  · have e : ((xs.map PyData.int).any fun y => PyData.eqv y (.int i)) = decide (i ∈ xs) := by
      rw [Bool.eq_iff_iff]
      simp only [List.any_map, List.any_eq_true, Function.comp, decide_eq_true_eq]
      exact ⟨fun ⟨y, hy, e⟩ => by have : y = i := by simpa [PyData.eqv] using e
                                  exact this ▸ hy, fun q => ⟨i, q, by simp [PyData.eqv]⟩⟩
    rw [e]; exact h
end
end
section
open PySem PySem.W PySem.W.X PyProof.Rows PySem.Calls PySem.SeqAt
set_option maxRecDepth 100000
set_option maxHeartbeats 2000000
theorem take_succ_filter {α : Type} {l : List α} {j : Nat} {x : α} (f : α → Bool) (h : l[j]? = some x) : (l.take (j + 1)).filter f = (l.take j).filter f ++ (if f x then [x] else []) := by
  rw [List.take_add_one, h, Option.toList_some, List.filter_append]
  congr 1
  simp [List.filter_cons]
theorem lk_self {x : Str} {v : Value} {vs : List (Str × Value)} : ((x, v) :: vs).lookup x = some v := by rw [List.lookup_cons]; simp
section
variable {w : World} {A : Around} {E : Value → Shared → Prop} {X : Addr → Prop} {g₀ g : PH} {s₀ s : Shared} {env : Env} {vs : List (Str × Value)} {n : Nat}
/-- «[x for x in iter if c]» over a list of lists -/
theorem compFilterS {iter c : Expr} {x : Str} {px pe : Pos} {scope : Scope} {pos : Pos} {a : Addr} {xss : List (List Int)} (f : List Int → Bool)
    (hh : A.handled = none) (hl : SetsAt g a xss) (hlen : xss.length < 2 ^ 19)
    (hxf : scope.names.lookup x ≠ some .free)
    (hx : ∀ L, (compEnv scope env L).kindOf x = some .local ∨ (compEnv scope env L).kindOf x = some .cell ∧ (x, NameKind.cell) ∈ scope.names ∧ ((compEnv scope env L).cells.lookup x).isSome = true)
    (hit : ∀ Q' : Value → Shared → Prop, (∀ s₁, Stp N0 g g s s₁ → Q' (.ref a) s₁) → wpAny (model PG w) A (eval iter env) Q' E s)
    (hc : ∀ L v xs gi si vs', xs ∈ xss → IV gi v xs → Blk N0 g s (compEnv scope env L) gi si ((x, v) :: vs') → (∀ y, scope.names.lookup y = some .free → vs'.lookup y = vs.lookup y) →
      wpAny (model PG w) A (isTrue c (compEnv scope env L) (eval c (compEnv scope env L))) (KTst gi si (f xs)) EF si)
    (hd : (x == ("__debug__" : Str)) = false := by decide) (hcd : (x == ("__classdict__" : Str)) = false := by decide) : CompOK w A E (.Name x pe) (.Name x px) iter [c] [] scope pos env g s vs (fun out g' => All2 (IV g') out (xss.filter f)) := by
  obtain ⟨vals, hla, hall⟩ := hl
  have hlv := hall.length
  refine CompOK.mono (compNif (vals.map fun x v => v = x) (fun j out gi => (∀ a o, g a = some o → gi a = some o) ∧ j ≤ xss.length ∧ All2 (IV gi) out ((xss.take j).filter f)) hh hxf hx (hit _ fun s₁ st => ?_) ?_ ?_) ?_
  · exact pyIter_list st (hla.mono st.le) ⟨rfl, st.le, Nat.zero_le _, by simp; trivial⟩
  · intro L j p v out gi si vs' hp hpv rᵢ1 Bi hv
    refine hide fun Gₕ hGₕ => ?_
    obtain ⟨hle, hj, hout⟩ := rᵢ1
    refine hGₕ ?_
    rw [List.getElem?_map, Option.map_eq_some_iff] at hp
    refine hide fun Gₕ hGₕ => ?_
    obtain ⟨u, hu, rfl⟩ := hp
    have hpv' : v = u := hpv
    subst hpv'
    obtain ⟨xs, hxs, hiv⟩ := hall.get hu
    refine hGₕ ?_
    have hj1 := (List.getElem?_eq_some_iff.mp hxs).1
    refine wpAny_mono (hc L v xs gi si vs' (List.mem_of_getElem? hxs) (hiv.mono hle) Bi hv) (fun b s₁ h₁ => ?_) fun _ _ q => q
    obtain ⟨g₁, st₁, hb⟩ := h₁
    have hout1 : All2 (IV g₁) out ((xss.take j).filter f) := hout.mono fun _ _ z => z.mono st₁.le
    refine ⟨g₁, st₁, fun hbf => ⟨fun a o e => st₁.le a o (hle a o e), hj1, ?_⟩, fun hbt => ?_⟩
    · rw [take_succ_filter f hxs, ← hb, hbf]; simpa using hout1
    · refine name_ (Bi.step st₁) lk_self ?_ ⟨g₁, Stp.refl st₁.live, fun a o e => st₁.le a o (hle a o e), hj1, ?_⟩ hcd hd
      · rcases hx L with q | ⟨q1, _, q3⟩
        · exact .inl q
        · exact .inr ⟨.inl q1, q3⟩
      · rw [take_succ_filter f hxs, ← hb, hbt, if_pos rfl]
        exact hout1.snoc (hiv.mono fun a o e => st₁.le a o (hle a o e))
  · intro j out gi rᵢ2
    refine hide fun Gₕ hGₕ => ?_
    obtain ⟨_, hj, hout⟩ := rᵢ2
    refine hGₕ ?_
    have h1 := hout.length
    have h2 : ((xss.take j).filter f).length ≤ (xss.take j).length := List.length_filter_le ..
    simp at h2
    lia
  · intro out g' rᵢ3
    refine hide fun Gₕ hGₕ => ?_
    obtain ⟨hle, hj, hout⟩ := rᵢ3
    refine hGₕ ?_
    have : (vals.map fun x v => v = x).length = xss.length := by simp [hlv]
    rw [this, List.take_length] at hout
    exact hout

noncomputable def stayF (sets : List (List Int)) (row : List Int) : List (List Int) := sets.filter fun one => decide (both one row < (one.length : Int) + row.length)
noncomputable def apartF (sets stay : List (List Int)) : List (List Int) := sets.filter fun one => decide (one ∉ stay)
noncomputable def moreF (apart : List (List Int)) (row : List Int) : List (List Int) := apart.flatMap fun one => row.map fun p => one ++ [p]
noncomputable def within (stay : List (List Int)) (one : List Int) : List (List Int) := stay.filter fun less => decide (both less one = one.length)
noncomputable def grown (sets : List (List Int)) (row : List Int) : List (List Int) :=
  stayF sets row ++ (moreF (apartF sets (stayF sets row)) row).filter fun one => decide (within (stayF sets row) one = [])
end
end
section
open PySem PySem.W PySem.W.X PyProof.Rows PySem.Calls PySem.SeqAt
set_option maxRecDepth 100000
set_option maxHeartbeats 2000000
theorem compTurn_two0 (elt x0 iter0 x1 iter1 : Expr) (scope : Scope) (pos : Pos) (it acc : Value) (env : Env) :
    compTurn (.ListComp elt [⟨x0, iter0, [], 0⟩, ⟨x1, iter1, [], 0⟩] scope pos) 0 it acc env = (standAt iter0.pos >>= fun _ => pyNext it >>= fun r => match r with
      | none => pure (.done .next)
      | some v => letOwnedTupleGo x0 it v >>= fun _ => assign x0 env v >>= fun _ =>
        (eval iter1 env >>= fun x => standAt iter1.pos >>= fun _ => foldedSetIterable iter1 env x >>= fun x => holding [x] (pyIter x) >>= fun i =>
          runOwn (.compStart (.ListComp elt [⟨x0, iter0, [], 0⟩, ⟨x1, iter1, [], 0⟩] scope pos) 1 i acc env) env >>= fun _ => pure ()) >>= fun _ =>
          again (.compLoop (.ListComp elt [⟨x0, iter0, [], 0⟩, ⟨x1, iter1, [], 0⟩] scope pos) 0 it acc env)) := by
  have e : compTurn (.ListComp elt [⟨x0, iter0, [], 0⟩, ⟨x1, iter1, [], 0⟩] scope pos) 0 it acc env = (standAt iter0.pos >>= fun _ => pyNext it >>= fun r => match r with
      | none => pure (.done .next)
      | some v => letOwnedTupleGo x0 it v >>= fun _ => assign x0 env v >>= fun _ =>
        (eval iter1 env >>= fun x => standAt iter1.pos >>= fun _ => foldedSetIterable iter1 env x >>= fun x => holding [x] (pyIter x) >>= fun i =>
          runOwn (.compStart (.ListComp elt [⟨x0, iter0, [], 0⟩, ⟨x1, iter1, [], 0⟩] scope pos) 1 i acc env) env >>= fun _ =>
          again (.compLoop (.ListComp elt [⟨x0, iter0, [], 0⟩, ⟨x1, iter1, [], 0⟩] scope pos) 0 it acc env))) := by rfl
  rw [e]
  refine congrArg (standAt iter0.pos >>= ·) (funext fun _ => congrArg (pyNext it >>= ·) (funext fun r => ?_))
  cases r with
  | none => rfl
  | some v =>
    refine congrArg (letOwnedTupleGo x0 it v >>= ·) (funext fun _ => congrArg (assign x0 env v >>= ·) (funext fun _ => ?_))
    simp only [bind_assoc, pure_bind]
theorem compTurn_two1 (elt x0 iter0 x1 iter1 : Expr) (scope : Scope) (pos : Pos) (it acc : Value) (env : Env) :
    compTurn (.ListComp elt [⟨x0, iter0, [], 0⟩, ⟨x1, iter1, [], 0⟩] scope pos) 1 it acc env = (standAt iter1.pos >>= fun _ => pyNext it >>= fun r => match r with
      | none => pure (.done .next)
      | some v => letOwnedTupleGo x1 it v >>= fun _ => assign x1 env v >>= fun _ =>
        (eval elt env >>= fun x => call (.builtin "list.append") [acc, x] >>= fun _ => pure ()) >>= fun _ =>
          again (.compLoop (.ListComp elt [⟨x0, iter0, [], 0⟩, ⟨x1, iter1, [], 0⟩] scope pos) 1 it acc env)) := by rfl

section
variable {w : World} {A : Around} {E : Value → Shared → Prop} {X : Addr → Prop} {g₀ g : PH} {s₀ s : Shared} {env cenv : Env} {vs : List (Str × Value)} {n : Nat}

theorem codeAny_compStart1 {elt x0 iter0 x1 iter1 : Expr} {scope : Scope} {pos : Pos} {it acc : Value} {R : Result → Shared → Prop}
    (h0 : codeAny (model PG w) A (.compLoop (.ListComp elt [⟨x0, iter0, [], 0⟩, ⟨x1, iter1, [], 0⟩] scope pos) 1 it acc env) R s)
    (h : wpAny (model PG w) A (pyIter it) (fun it' s' => codeAny (model PG w) A (.compLoop (.ListComp elt [⟨x0, iter0, [], 0⟩, ⟨x1, iter1, [], 0⟩] scope pos) 1 it' acc env) R s')
      (notedBy (model PG w) A env fun x s' => R (.error x) s') s) :
    codeAny (model PG w) A (.compStart (.ListComp elt [⟨x0, iter0, [], 0⟩, ⟨x1, iter1, [], 0⟩] scope pos) 1 it acc env) R s := by
  refine codeAny_of_tree ?_
  show wpAny _ _ ((compStart (.ListComp elt [⟨x0, iter0, [], 0⟩, ⟨x1, iter1, [], 0⟩] scope pos) 1 it acc env).onRaise (fun x => do noteFrame x env; standAt theWindowsPlace)) _ _ s
  refine wpAny_notedAt ?_
  unfold compStart
  show wpAny _ _ (ask >>= _) _ _ s
  refine wpAny_bind (wpAny_askSetting (wpAny_ite ?_))
  split
  · first
      | exact wpAny_bind (wpAny_pure (wpAny_pure (And.intro rfl h0)))
      | exact wpAny_pure (And.intro rfl h0)
  · first
      | exact wpAny_bind (wpAny_rule (wpAny_bind (wpAny_standAt (wpAny_bind (wpAny_mono h (fun it' s' h' => wpAny_pure (And.intro rfl h')) fun _ _ x => x)))))
      | (refine wpAny_bind (wpAny_rule ?_); show wpAny _ _ (standAt iter1.pos >>= _) _ _ s; exact wpAny_bind (wpAny_standAt (wpAny_bind (wpAny_mono h (fun it' s' h' => wpAny_pure (And.intro rfl h')) fun _ _ x => x))))

/-- «[elt for x in iter0 for y in iter1]» -/
theorem comp2 {elt iter0 iter1 : Expr} {x y : Str} {px py : Pos} {scope : Scope} {pos : Pos} (P : List (Value → Prop) → List Value → PH → Prop) (P1 : Value → List (Value → Prop) → List (Value → Prop) → List Value → PH → Prop)
    (hh : A.handled = none)
    (hxf : scope.names.lookup x ≠ some .free) (hyf : scope.names.lookup y ≠ some .free) (hxy : (x == y) = false)
    (hx : ∀ L, (compEnv scope env L).kindOf x = some .local) (hy : ∀ L, (compEnv scope env L).kindOf y = some .local)
    (hit : wpAny (model PG w) A (eval iter0 env) (fun v s₁ => wpAny (model PG w) A (pyIter v) (Sourced w g s fun r g₂ => P r [] g₂) E s₁) E s)
    (hit1 : ∀ L p rest v out gi si vs', p v → P (p :: rest) out gi → Blk N0 g s (compEnv scope env L) gi si ((x, v) :: vs') → (∀ y, scope.names.lookup y = some .free → vs'.lookup y = vs.lookup y) →
      wpAny (model PG w) A (eval iter1 (compEnv scope env L)) (fun u s₁ => wpAny (model PG w) A (pyIter u) (Sourced w gi si fun r1 g₂ => P1 v rest r1 out g₂) EF s₁) EF si)
    (helt : ∀ L p rest rest1 v u out gi si vs', p u → P1 v rest (p :: rest1) out gi → Blk N0 g s (compEnv scope env L) gi si ((y, u) :: vs') → vs'.lookup x = some v → (∀ y, scope.names.lookup y = some .free → vs'.lookup y = vs.lookup y) →
      wpAny (model PG w) A (eval elt (compEnv scope env L)) (fun u s' => ∃ g', Stp N0 gi g' si s' ∧ P1 v rest rest1 (out ++ [u]) g') EF si)
    (hend : ∀ v rest out g, P1 v rest [] out g → P rest out g)
    (hlen : ∀ v rest r out g, P1 v rest r out g → out.length < 2 ^ 20)
    (hs1 : ∀ L x, foldedSetIterable iter1 (compEnv scope env L) x = pure x := by intro _ _; rfl) : CompOK w A E elt (.Name x px) iter0 [] [⟨.Name y py, iter1, [], 0⟩] scope pos env g s vs (fun out g' => P [] out g') := by
  refine wpAny_mono hit (fun v s₁ h₁ => wpAny_mono h₁ (fun itv s₂ h₂ => ?_) fun _ _ e => e) fun _ _ e => e
  refine hide fun Gₕ hGₕ => ?_
  obtain ⟨it, F, St, r, g₂, rfl, src, hst, st2, its, itg, _, hP⟩ := h₂
  refine hGₕ ?_
  refine ⟨it, F, St, r, g₂, rfl, src.toSrc0, hst, st2, its, itg, fun acc L s₃ cs blk hst3 hl3 ha3 => ?_⟩
  refine comp_loop (V := fun y => scope.names.lookup y = some .free) (Kp := fun _ => False) (fv := vs) src cs hh (.inl (hx L)) (compTurn_two0 ..) rfl rfl rfl (fun _ z => z.elim) P ?_ blk (fun y hy => by rw [lookup_freeVs, hy]; rfl) hst3 hl3 ha3 itg hP ?_
  · intro p rest v out gi si vs' hp hPp Bi hv hl ha hi hsti _
    refine wpAny_bind (wpAny_mono (hit1 L p rest v out gi si vs' hp hPp Bi hv) (fun u s₁ h₁ => ?_) fun _ _ q => q)
    refine wpAny_bind (wpAny_standAt (wpAny_bind (wpAny_of_eq (hs1 L u) (wpAny_bind (wpAny_holding (wpAny_mono h₁ (fun itv2 s₄ h₄ => ?_) fun _ _ q => q))))))
    refine hide fun Gₕ hGₕ => ?_
    obtain ⟨it2, F2, St2, r1, g₄, rfl, src2, hst4, st4, its2, itg2, hF2, hP1⟩ := h₄
    refine hGₕ ?_
    have B4 := Bi.step st4
    have hacc4 := off_of st4 ha (let ⟨o, ho, _⟩ := hl; ⟨o, ho⟩)
    have hl4 : s₄.heap.IsList acc out.toArray := let ⟨o, ho, r⟩ := hl; ⟨o, st4.keep0 _ _ ho, r⟩
    have hit4 := off_of st4 hi (src.dom _ _ _ hsti src.itF)
    -- what the inner source looks at is none of the block's own
    have F2off : ∀ a, g₄ a = none → (∃ o, si.heap.get? a = some o) → ¬ F2 a := fun a hg ho hF => by
      rcases hF2 a hF with q | q
      · exact q hg
      · obtain ⟨o, ho⟩ := ho; rw [q] at ho; cases ho
    have it2s : s.heap.get? it2 = none := by
      cases q : s.heap.get? it2 with
      | none => rfl
      | some o => obtain ⟨o', ho'⟩ := Bi.st.dom _ _ q; rw [its2] at ho'; cases ho'
    have cs2 : CS F2 scope s (compEnv scope env L) it2 acc := by
      refine ⟨cs.accs, it2s, F2off _ hacc4 (let ⟨o, ho, _⟩ := hl; ⟨o, ho⟩), F2off _ B4.offL Bi.domL, cs.accL, cs.accC, fun z c hc e => ?_, fun z c hz hc => ⟨F2off _ (B4.offC z c hc) (Bi.domC hc), (cs.own z c hz hc).2⟩⟩
      obtain ⟨o, ho⟩ := Bi.domC hc
      rw [e, its2] at ho; cases ho
    have keepF : ∀ a, F a → a ≠ it2 ∧ a ≠ (compEnv scope env L).locals ∧ ∀ c, (compEnv scope env L).kindOf y = some NameKind.cell → (compEnv scope env L).cells.lookup y = some c → a ≠ c := fun a hF => by
      refine ⟨fun e => ?_, fun e => cs.LF (e ▸ hF), fun c hk _ => by rw [hy L] at hk; cases hk⟩
      obtain ⟨o, ho⟩ := src.dom _ _ _ hsti hF
      rw [e, its2] at ho; cases ho
    refine wpAny_bind (wpEF (wpAny_runOwn ?_))
    have hloop : ∀ {R : Result → Shared → Prop}, (∀ s' out' g' vs'', P1 v rest [] out' g' ∧ g' it = none → s'.heap.IsList acc out'.toArray → Blk N0 g s (compEnv scope env L) g' s' vs'' → (∀ z, scope.names.lookup z = some .free ∨ z = x → vs''.lookup z = ((x, v) :: vs').lookup z) → g' acc = none → (∀ a o, F a → s₄.heap.get? a = some o → s'.heap.get? a = some o) → R (.ok .next) s') →
        codeAny (model PG w) A (.compLoop (.ListComp elt [⟨.Name x px, iter0, [], 0⟩, ⟨.Name y py, iter1, [], 0⟩] scope pos) 1 (.ref it2) (.ref acc) (compEnv scope env L)) R s₄ := fun hR => by
      refine comp_loop (V := fun z => scope.names.lookup z = some .free ∨ z = x) (Kp := F) (fv := (x, v) :: vs') src2 cs2 hh (.inl (hy L)) (compTurn_two1 ..) rfl rfl rfl keepF (fun r out g => P1 v rest r out g ∧ g it = none) ?_ B4 (fun _ _ => rfl) hst4 hl4 hacc4 itg2 ⟨hP1, hit4⟩ hR
      rintro p1 rest1 u out1 g5 s5 vs5 hp1 ⟨hP5, hi9⟩ B5 hv5 hl5 ha5 hi5 hst5 hk5
      have hx5 : vs5.lookup x = some v := (hv5 x (.inr rfl)).trans lk_self
      have hf5 : ∀ z, scope.names.lookup z = some .free → vs5.lookup z = vs.lookup z := fun z hz => by
        rw [hv5 z (.inl hz), List.lookup_cons]
        have : (z == x) = false := by
          have : z ≠ x := fun e => hxf (e ▸ hz)
          simpa using this
        rw [this]; exact hv z hz
      refine wpAny_bind (wpAny_mono (helt L p1 rest rest1 v u out1 g5 s5 vs5 hp1 hP5 B5 hx5 hf5) (fun e6 s6 h6 => ?_) fun _ _ q => q)
      obtain ⟨g6, st6, hP6⟩ := h6
      have hacc6 := off_of st6 ha5 (let ⟨o, ho, _⟩ := hl5; ⟨o, ho⟩)
      have hit6 := off_of st6 hi5 (src2.dom _ _ _ hst5 src2.itF)
      refine wpAny_bind (append_ (u := e6) st6.live (let ⟨o, ho, r⟩ := hl5; ⟨o, st6.keep0 _ _ ho, r⟩) hacc6 (hlen _ _ _ _ _ hP5) fun s7 st7 hl7 => wpAny_pure ?_)
      refine ⟨out1 ++ [e6], g6, _, (B5.step st6).afterAcc cs2 st7, fun z hz => ?_, fun a o hF e => st7.keep a o (fun q => ?_) (st6.keep0 a o e), off_of st7 hacc6 (let ⟨o, ho, _⟩ := hl5; ⟨o, st6.keep0 _ _ ho⟩), hit6, hl7, hP6, off_of st6 hi9 (let ⟨o, ho⟩ := src.dom _ _ _ hsti src.itF; ⟨o, hk5 _ _ src.itF (st4.keep0 _ _ ho)⟩)⟩
      · rw [List.lookup_cons]
        have : (z == y) = false := by
          rcases hz with hz | hz
          · have : z ≠ y := fun e => hyf (e ▸ hz)
            simpa using this
          · rw [hz]; exact hxy
        rw [this]; exact hv5 z hz
      · rcases hF with hF | hF
        · exact cs2.accF (q ▸ hF)
        · exact cs.accF (q ▸ hF)
    have hfin : codeAny (model PG w) A (.compStart (.ListComp elt [⟨.Name x px, iter0, [], 0⟩, ⟨.Name y py, iter1, [], 0⟩] scope pos) 1 (.ref it2) (.ref acc) (compEnv scope env L)) (fun r s' => r = .ok .next ∧ ∃ out' g' vs'', (P1 v rest [] out' g' ∧ g' it = none) ∧ s'.heap.IsList acc out'.toArray ∧ Blk N0 g s (compEnv scope env L) g' s' vs'' ∧ (∀ z, scope.names.lookup z = some .free ∨ z = x → vs''.lookup z = ((x, v) :: vs').lookup z) ∧ g' acc = none ∧ (∀ a o, F a → s₄.heap.get? a = some o → s'.heap.get? a = some o)) s₄ := by
      have hl9 := hloop (R := fun r s' => r = .ok .next ∧ ∃ out' g' vs'', (P1 v rest [] out' g' ∧ g' it = none) ∧ s'.heap.IsList acc out'.toArray ∧ Blk N0 g s (compEnv scope env L) g' s' vs'' ∧ (∀ z, scope.names.lookup z = some .free ∨ z = x → vs''.lookup z = ((x, v) :: vs').lookup z) ∧ g' acc = none ∧ (∀ a o, F a → s₄.heap.get? a = some o → s'.heap.get? a = some o)) fun s' out' g' vs'' h1 h2 h3 h4 h5 h6 => ⟨rfl, out', g', vs'', h1, h2, h3, h4, h5, h6⟩
      exact codeAny_compStart1 hl9 (src2.iter _ _ _ _ _ hst4 hl9)
    refine codeAny_mono hfin fun r s' hr => ?_
    refine hide fun Gₕ hGₕ => ?_
    obtain ⟨rfl, out', g', vs'', h1, h2, h3, h4, h5, h6⟩ := hr
    refine hGₕ ?_
    refine wpAny_pure ⟨out', g', vs'', h3, fun z hz => ?_, fun a o hF e => h6 a o (hF.resolve_right fun q => q) (st4.keep0 a o e), h5, h1.2, h2, hend v rest out' g' h1.1⟩
    · rw [h4 z (.inl hz), List.lookup_cons]
      have : (z == x) = false := by
        have : z ≠ x := fun e => hxf (e ▸ hz)
        simpa using this
      rw [this]; exact hv z hz
  · intro s' out g' vs' hP' hl' B' _ ha' _
    exact ⟨rfl, out, g', vs', hl', B', ha', hP'⟩
end
end
section
open PySem PySem.W PySem.W.X PyProof.Rows PySem.Calls PySem.SeqAt
set_option maxRecDepth 100000
set_option maxHeartbeats 2000000
section
variable {w : World} {A : Around} {E : Value → Shared → Prop} {X : Addr → Prop} {g₀ g : PH} {s₀ s : Shared} {env : Env} {vs : List (Str × Value)} {n : Nat}

theorem IV.len {v : Value} {xs : List Int} {Q : Value → Shared → Prop} (live : ∀ a o, g a = some o → s.heap.get? a = some o) (hv : IV g v xs) (hlen : xs.length < 2 ^ 20) (h : ∀ t s', Stp N0 g g s s' → Q (.int xs.length t) s') :
    wpAny (model PG w) A (call (.builtin "len") [v]) Q E s := by
  refine hide fun Gₕ hGₕ => ?_
  obtain ⟨a, rfl, us, hu, hui⟩ := hv
  refine hGₕ ?_
  have := hui.length
  refine lenList live hu (by lia) fun t s' st => ?_
  rw [this]; exact h t s' st

theorem moreF_len (l : List (List Int)) (row : List Int) : (moreF l row).length = l.length * row.length := by
  unfold moreF
  induction l with
  | nil => simp
  | cons x r ih => rw [List.flatMap_cons, List.length_append, ih, List.length_map, List.length_cons, Nat.add_mul]; lia

theorem grown_call {a : Addr} {rv : Value} {xss : List (List Int)} {row : List Int} {Q : Value → Shared → Prop} (live : ∀ a o, g a = some o → s.heap.get? a = some o) (hK : KIn w g) (hR : Room A (n + 4)) (hx : SetsAt g a xss) (hr : IV g rv row)
    (hl1 : xss.length < 2 ^ 10) (hl2 : ∀ x ∈ xss, x.length < 2 ^ 10) (hl3 : row.length < 2 ^ 5)
    (h : ∀ b g' s', Stp N0 g g' s s' → SetsAt g' b (grown xss row) → Q (.ref b) s') : wpAny (model PG w) A (call (.ref 97) [.ref a, rv]) Q E s := by
  obtain ⟨ra, rfl, hra⟩ := hr
  refine fn_call (X := N0) (binds := [("sets", .ref a), ("row", .ref ra)]) live hK hR (f := 97) rfl (by kernel_rfl) rfl (Looks.of_pure (by rfl)) rfl (by kernel_rfl) (fun A' s₁ hR' _ B hlc => ?_) rfl rfl rfl
  -- stay
  refine wpAny_execs_cons (wpAny_Assign_Name (comp_eval B (compFilterS (fun one => decide (both one row < (one.length : Int) + row.length)) hR'.hd hx (by lia) (by decide) (fun L => .inl rfl) (fun Q' hQ' => name_ B rfl (.inl rfl) (hQ' _ (Stp.refl B.live))) ?_) ?_))
  · intro L v xs gi si vs' hmem hiv Bi hv
    have hKi := hK.mono Bi.st.le
    have hrow : ((("one" : Str), v) :: vs').lookup ("row" : Str) = some (.ref ra) := lk_cons (by decide) ((hv "row" rfl).trans rfl)
    have hxl := hl2 xs hmem
    refine wpAny_isTrue_Compare1 ?_
    refine callFn Bi hKi rfl rfl (f := 92) (by kernel_rfl) rfl (args_cons (name_ Bi lk_self (.inl rfl) (args_cons (name_ Bi hrow (.inr ⟨.inl rfl, rfl⟩) (args_nil ⟨⟨gi, hKi, Bi.live⟩, ?_⟩)))))
    obtain ⟨b, rfl, hb⟩ := id hiv
    refine both_call (n := n) Bi.live hKi (hR'.le (by lia)) hb (hra.mono Bi.st.le) (by lia) fun t1 g1 s2 st1 => ?_
    have B1 := Bi.step st1
    have hK1 := hKi.mono st1.le
    refine wpAny_BinOp (callB1 B1 hK1 rfl rfl rfl (by kernel_rfl) (id := "len") (by kernel_rfl) (name_ B1 lk_self (.inl rfl) (IV.len B1.live (hiv.mono st1.le) (by lia) fun t2 s3 st2 => ?_)))
    have B2 := B1.step st2
    refine callB1 B2 hK1 rfl rfl rfl (by kernel_rfl) (id := "len") (by kernel_rfl) (name_ B2 hrow (.inr ⟨.inl rfl, rfl⟩) (IV.len B2.live (show IV g1 (.ref ra) row from ⟨ra, rfl, hra.mono fun a o e => st1.le a o (Bi.st.le a o e)⟩) (by lia) fun t3 s4 st3 => ?_))
    have B3 := B2.step st3
    refine PyProof.Rows.add_int (lt_int (wpAny_truthy_bool ⟨g1, ?_, rfl⟩))
    exact ((st1.trans st2).trans st3).trans (Stp.tok B3.live)
  · intro acc out0 g0 g1 s2 hout0 hle0 hla0 st1
    have hst : SetsAt g1 acc (stayF xss row) := ⟨out0, hla0, hout0.mono fun _ _ z => z.mono hle0⟩
    have B1 := B.step st1
    have hK1 := hK.mono st1.le
    refine st_ B1 (.inr ⟨rfl, _, rfl, hlc "stay" _ rfl⟩) fun s3 B2 _ => ?_
    unfold grown at h
    generalize hstay : stayF xss row = stay at h hst
    have hst' : SetsAt g1 acc stay := hst
    have hsl : stay.length ≤ xss.length := by rw [← hstay]; exact List.length_filter_le ..
    have hsm : ∀ x ∈ stay, x.length < 2 ^ 10 := fun x hx => hl2 x (by rw [← hstay] at hx; exact (List.mem_filter.mp hx).1)
    -- apart
    refine wpAny_execs_cons (comp_assign B2 (compFilterS (fun one => decide (one ∉ stay)) hR'.hd (hx.mono st1.le) (by lia) (by decide) (fun L => .inl rfl) (fun Q' hQ' => name_ B2 rfl (.inl rfl) (hQ' _ (Stp.refl B2.live))) ?_) ?_)
    · intro L v xs gi si vs' hmem hiv Bi hv
      have hstl : ((("one" : Str), v) :: vs').lookup ("stay" : Str) = some (.ref acc) := lk_cons (by decide) ((hv "stay" rfl).trans rfl)
      refine wpAny_isTrue_Compare1 (name_ Bi lk_self (.inl rfl) (name_ Bi hstl (.inr ⟨.inl rfl, rfl⟩) ?_))
      obtain ⟨b, rfl, hb⟩ := hiv
      exact notInSets hR' Bi.live hb (hst'.mono Bi.st.le) (wpAny_truthy_bool ⟨gi, Stp.refl Bi.live, rfl⟩)
    · intro acc2 out2 g2' g2 s4 hout2 hle2 hg12 hla2 B3
      have hap : SetsAt g2 acc2 (apartF xss stay) := ⟨out2, hla2, hout2.mono fun _ _ z => z.mono hle2⟩
      generalize hapart : apartF xss stay = apart at h hap
      have hal : apart.length ≤ xss.length := by rw [← hapart]; exact List.length_filter_le ..
      have ham : ∀ x ∈ apart, x.length < 2 ^ 10 := fun x hx => hl2 x (by rw [← hapart] at hx; exact (List.mem_filter.mp hx).1)
      have hg02 : ∀ a o, g a = some o → g2 a = some o := fun a o e => hg12 a o (st1.le a o e)
      -- more
      refine hide fun Gₕ hGₕ => ?_
      obtain ⟨apv, hapl, hapa⟩ := hap
      obtain ⟨rov, hrol, hroa⟩ := hra.mono hg02
      refine hGₕ ?_
      have hapn := hapa.length
      have hron := hroa.length
      refine wpAny_execs_cons (comp_assign B3 (comp2
        (fun r out gi => (∀ a o, g2 a = some o → gi a = some o) ∧ ∃ j, j ≤ apart.length ∧ r = (apv.drop j).map (fun x v => v = x) ∧ All2 (IV gi) out (moreF (apart.take j) row))
        (fun v r r1 out gi => (∀ a o, g2 a = some o → gi a = some o) ∧ ∃ j k xs, apart[j]? = some xs ∧ IV g2 v xs ∧ r = (apv.drop (j + 1)).map (fun x v => v = x) ∧ k ≤ row.length ∧ r1 = (rov.drop k).map (fun x v => v = x) ∧
          All2 (IV gi) out (moreF (apart.take j) row ++ (row.take k).map fun p => xs ++ [p]))
        hR'.hd (by decide) (by decide) (by decide) (fun L => rfl) (fun L => rfl) ?_ ?_ ?_ ?_ ?_) ?_)
      · refine name_ B3 rfl (.inl rfl) (pyIter_list (Stp.refl B3.live) hapl ⟨fun _ _ e => e, 0, Nat.zero_le _, by simp, ?_⟩)
        simp [moreF]; trivial
      · intro L p rest v out gi si vs' hpv rᵢ1 Bi hv
        refine hide fun Gₕ hGₕ => ?_
        obtain ⟨hle, j, hj, hr, hout⟩ := rᵢ1
        refine hGₕ ?_
        rw [List.map_drop] at hr
        refine hide fun Gₕ hGₕ => ?_
        obtain ⟨hp, hrest⟩ := drop_cons hr
        rw [List.getElem?_map, Option.map_eq_some_iff] at hp
        obtain ⟨u, hu, rfl⟩ := hp
        have hvu : v = u := hpv
        subst hvu
        obtain ⟨xs, hxs, hiv⟩ := hapa.get hu
        refine hGₕ ?_
        have hrow : ((("one" : Str), v) :: vs').lookup ("row" : Str) = some (.ref ra) := lk_cons (by decide) ((hv "row" rfl).trans rfl)
        refine name_ Bi hrow (.inr ⟨.inl rfl, rfl⟩) (pyIter_list (Stp.refl Bi.live) (hrol.mono hle) ⟨hle, j, 0, xs, hxs, hiv, ?_, Nat.zero_le _, by simp, by simpa using hout⟩)
        rw [hrest, List.map_drop]
      · intro L p rest rest1 v u out gi si vs' hpu rᵢ2 Bi hone hv
        refine hide fun Gₕ hGₕ => ?_
        obtain ⟨hle, j, k, xs, hxs, hiv, hr, hk, hr1, hout⟩ := rᵢ2
        refine hGₕ ?_
        rw [List.map_drop] at hr1
        refine hide fun Gₕ hGₕ => ?_
        obtain ⟨hp, hrest⟩ := drop_cons hr1
        rw [List.getElem?_map, Option.map_eq_some_iff] at hp
        obtain ⟨u', hu', rfl⟩ := hp
        have huu : u = u' := hpu
        subst huu
        obtain ⟨pt, hpt, hiu⟩ := hroa.get hu'
        refine hGₕ ?_
        have hk1 := (List.getElem?_eq_some_iff.mp hpt).1
        have hxl := ham xs (List.mem_of_getElem? hxs)
        have hone' : ((("point" : Str), u) :: vs').lookup ("one" : Str) = some v := lk_cons (by decide) hone
        refine wpAny_BinOp (name_ Bi hone' (.inl rfl) (List_ (args_cons (name_ Bi lk_self (.inl rfl) (args_nil ?_)))))
        refine hide fun Gₕ hGₕ => ?_
        obtain ⟨b, rfl, us, hus, husi⟩ := hiv
        refine hGₕ ?_
        have hun := husi.length
        refine newListK Bi.live (by simp) fun c g3 s5 st3 hc => ?_
        refine addLK st3.live ((hus.mono hle).mono st3.le) hc (by simp; lia) fun d g4 s6 st4 hd => ?_
        refine ⟨g4, st3.trans st4, fun a o e => st4.le a o (st3.le a o (hle a o e)), j, k + 1, xs, hxs, ⟨b, rfl, us, hus, husi⟩, hr, hk1, by rw [hrest, List.map_drop], ?_⟩
        have e : (row.take (k + 1)).map (fun p => xs ++ [p]) = (row.take k).map (fun p => xs ++ [p]) ++ [xs ++ [pt]] := by
          rw [List.take_add_one, hpt]; simp
        rw [e, ← List.append_assoc]
        exact (hout.mono fun _ _ z => z.mono fun a o e => st4.le a o (st3.le a o e)).snoc ⟨d, rfl, _, hd, husi.snoc hiu⟩
      · intro v rest out gi rᵢ3
        refine hide fun Gₕ hGₕ => ?_
        obtain ⟨hle, j, k, xs, hxs, hiv, hr, hk, hr1, hout⟩ := rᵢ3
        refine hGₕ ?_
        have hj1 := (List.getElem?_eq_some_iff.mp hxs).1
        have hkk : row.take k = row := by
          have : rov.drop k = [] := by
            cases q : rov.drop k with
            | nil => rfl
            | cons a b => rw [q] at hr1; cases hr1
          have := List.drop_eq_nil_iff.mp this
          rw [List.take_of_length_le]; lia
        refine ⟨hle, j + 1, hj1, hr, ?_⟩
        rw [hkk] at hout
        have e : moreF (apart.take (j + 1)) row = moreF (apart.take j) row ++ row.map fun p => xs ++ [p] := by
          unfold moreF
          rw [List.take_add_one, hxs]; simp
        rw [e]; exact hout
      · intro v rest r1 out gi rᵢ4
        refine hide fun Gₕ hGₕ => ?_
        obtain ⟨hle, j, k, xs, hxs, hiv, hr, hk, hr1, hout⟩ := rᵢ4
        refine hGₕ ?_
        have h1 := hout.length
        have h2 := moreF_len (apart.take j) row
        have h3 : (apart.take j).length ≤ 2 ^ 10 := by simp; lia
        have h4 : (apart.take j).length * row.length ≤ 2 ^ 10 * 2 ^ 5 := Nat.mul_le_mul h3 (by lia)
        have h5 : (row.take k).length ≤ row.length := by simp; lia
        rw [List.length_append, h2, List.length_map] at h1
        lia
      · intro acc3 out3 g3' g3 s5 rᵢ5 hle3 hg23 hla3 B4
        refine hide fun Gₕ hGₕ => ?_
        obtain ⟨hle3', j, hj, hr, hout3⟩ := rᵢ5
        refine hGₕ ?_
        have hjn : apart.take j = apart := by
          have : apv.drop j = [] := by
            cases q : apv.drop j with
            | nil => rfl
            | cons a b => rw [q] at hr; cases hr
          have := List.drop_eq_nil_iff.mp this
          rw [List.take_of_length_le]; lia
        rw [hjn] at hout3
        have hmo : SetsAt g3 acc3 (moreF apart row) := ⟨out3, hla3, hout3.mono fun _ _ z => z.mono hle3⟩
        have hml := moreF_len apart row
        have hmb : (moreF apart row).length ≤ 2 ^ 10 * 2 ^ 5 := by rw [hml]; exact Nat.mul_le_mul (by lia) (by lia)
        have hmm : ∀ x ∈ moreF apart row, x.length ≤ 2 ^ 10 := fun x hx => by
          refine hide fun Gₕ hGₕ => ?_
          obtain ⟨y, hy, hxy⟩ := List.mem_flatMap.mp hx
          obtain ⟨p, _, rfl⟩ := List.mem_map.mp hxy
          refine hGₕ ?_
          have := ham y hy
          simp; lia
        generalize moreF apart row = more at h hmo hmb hmm
        have hst3 : SetsAt g3 acc stay := hst'.mono fun a o e => hg23 a o (hg12 a o e)
        have hK3 : KIn w g3 := hK1.mono fun a o e => hg23 a o (hg12 a o e)
        -- the answer
        refine wpAny_execs_cons (wpAny_Return_some (wpAny_BinOp (name_ B4 rfl (.inr ⟨.inl rfl, rfl⟩) ?_)))
        refine comp_eval B4 (compFilterS (fun one => decide (within stay one = [])) hR'.hd hmo (by lia) (by decide) (fun L => .inr ⟨rfl, by decide, rfl⟩) (fun Q' hQ' => name_ B4 rfl (.inl rfl) (hQ' _ (Stp.refl B4.live))) ?_) ?_
        · intro L v xs gi si vs' hmem hiv Bi hv
          have hKi := hK3.mono Bi.st.le
          have hxl := hmm xs hmem
          have hstl : ((("one" : Str), v) :: vs').lookup ("stay" : Str) = some (.ref acc) := lk_cons (by decide) ((hv "stay" rfl).trans rfl)
          have hsti := hst3.mono Bi.st.le
          refine wpAny_isTrue_Compare1 ?_
          refine comp_eval Bi (compFilterS (fun less => decide (both less xs = xs.length)) hR'.hd hsti (by lia) (by decide) (fun L => .inl rfl) (fun Q' hQ' => name_ Bi hstl (.inr ⟨.inl rfl, rfl⟩) (hQ' _ (Stp.refl Bi.live))) ?_) ?_
          · intro L2 u ys gj sj vs'' hmem2 hiv2 Bj hv2
            have hKj := hKi.mono Bj.st.le
            have hyl := hsm ys hmem2
            have honej : ((("less" : Str), u) :: vs'').lookup ("one" : Str) = some v := lk_cons (by decide) ((hv2 "one" rfl).trans lk_self)
            refine wpAny_isTrue_Compare1 ?_
            refine callFn Bj hKj rfl rfl (f := 92) (by kernel_rfl) rfl (args_cons (name_ Bj lk_self (.inl rfl) (args_cons (name_ Bj honej (.inr ⟨.inl rfl, rfl⟩) (args_nil ⟨⟨gj, hKj, Bj.live⟩, ?_⟩)))))
            have hiv1 := hiv.mono Bj.st.le
            refine hide fun Gₕ hGₕ => ?_
            obtain ⟨b, rfl, hb⟩ := id hiv1
            obtain ⟨b2, rfl, hb2⟩ := id hiv2
            refine hGₕ ?_
            refine both_call (n := n) Bj.live hKj (hR'.le (by lia)) hb2 hb (by lia) fun t1 g1 s2 st1 => ?_
            have B1 := Bj.step st1
            have hK1 := hKj.mono st1.le
            refine callB1 B1 hK1 rfl rfl rfl (by kernel_rfl) (id := "len") (by kernel_rfl) (name_ B1 honej (.inr ⟨.inl rfl, rfl⟩) (IV.len B1.live (hiv1.mono st1.le) (by lia) fun t2 s3 st2 => ?_))
            refine PyProof.Rows.eq_int (wpAny_truthy_bool ⟨g1, st1.trans st2, ?_⟩)
            rw [Bool.eq_iff_iff]; simp
          · intro acc5 out5 g5' g5 s7 hout5 hle5 hla5 st5
            refine List_ (args_nil (newListK st5.live (by simp) fun c g6 s8 st6 hc => ?_))
            have hw : SetsAt g6 acc5 (within stay xs) := ⟨out5, hla5.mono st6.le, hout5.mono fun _ _ z => z.mono fun a o e => st6.le a o (hle5 a o e)⟩
            refine eqSets hR' st6.live hw (show SetsAt g6 c [] from ⟨[], hc, trivial⟩) (wpAny_truthy_bool ⟨g6, st5.trans st6, rfl⟩)
        · intro acc4 out4 g4' g4 s6 hout4 hle4 hla4 st4
          obtain ⟨sv, hsv, hsa⟩ := hst3.mono st4.le
          have hsn := hsa.length
          have hn4 := hout4.length
          have hfl : (more.filter fun one => decide (within stay one = [])).length ≤ more.length := List.length_filter_le ..
          refine addLK st4.live hsv hla4 (by lia) fun b g5 s7 st5 hb => ?_
          refine h b g5 s7 ?_ ⟨_, hb, (hsa.mono fun _ _ z => z.mono st5.le).append (hout4.mono fun _ _ z => z.mono fun a o e => st5.le a o (hle4 a o e))⟩
          exact (B4.step (st4.trans st5)).st
end
end
section
open PySem PySem.W PySem.W.X PyProof.Rows PySem.Calls PySem.SeqAt
set_option maxRecDepth 100000
set_option maxHeartbeats 2000000
section
variable {w : World} {A : Around} {E : Value → Shared → Prop} {X : Addr → Prop} {g₀ g : PH} {s₀ s : Shared} {env : Env} {vs : List (Str × Value)} {n : Nat}
/-- a for loop over a source, its target a local name -/
noncomputable abbrev KFB (X : Addr → Prop) (g₀ : PH) (s₀ : Shared) (env : Env) (it : Addr) (F : Addr → Prop) (J : PH → List (Str × Value) → Heap → Prop) (si : Shared) (R : Result → Shared → Prop) : Flow → Shared → Prop := fun fl s' => match fl with
        | .next => ∃ g' vs', Blk X g₀ s₀ env g' s' vs' ∧ g' it = none ∧ (∀ a o, F a → si.heap.get? a = some o → s'.heap.get? a = some o) ∧ J g' vs' s'.heap
        | .cont => False
        | .brk => False
        | .ret v => R (.ok (.ret v)) s'
theorem for_loop {R : Result → Shared → Prop} {x : Str} {px : Pos} {body : List Stmt} {it : Addr} {F : Addr → Prop} {St : List (Value → Prop) → Heap → Prop} (src : Src w it F St) (hh : A.handled = none) (hx : env.kindOf x = some .local)
    (J : List (Value → Prop) → PH → List (Str × Value) → Heap → Prop)
    (hJ : ∀ r gi vsi v h h', J r gi vsi h → (∀ a o, a ≠ it → a ≠ env.locals → h.get? a = some o → h'.get? a = some o) → J r gi ((x, v) :: vsi) h')
    (hJe : ∀ gi vsi h h', J [] gi vsi h → (∀ a o, a ≠ it → h.get? a = some o → h'.get? a = some o) → J [] gi vsi h')
    (h0 : s₀.heap.get? it = none) (hL : ¬ F env.locals) (hC : ∀ y c, env.cells.lookup y = some c → c ≠ it)
    (hbody : ∀ p rest v gi si vsi, p v → J (p :: rest) gi ((x, v) :: vsi) si.heap → Blk X g₀ s₀ env gi si ((x, v) :: vsi) → gi it = none → St rest si.heap →
      wpAny (model PG w) A (execs body env) (KFB X g₀ s₀ env it F (J rest) si R) EF si)
    (hR : ∀ g' s' vs', Blk X g₀ s₀ env g' s' vs' → J [] g' vs' s'.heap → R (.ok .next) s')
    {r : List (Value → Prop)} (B : Blk X g₀ s₀ env g s vs) (hst : St r s.heap) (hg : g it = none) (hJ0 : J r g vs s.heap) :
    codeAny (model PG w) A (.forLoop (.Name x px) (.ref it) body [] env) R s := by
  have hitL : it ≠ env.locals := fun z => hL (z ▸ src.itF)
  refine codeAny_forLoop (fun n s' => ∃ r gi vsi, n = r.length ∧ Blk X g₀ s₀ env gi s' vsi ∧ St r s'.heap ∧ gi it = none ∧ J r gi vsi s'.heap) ?_ r.length ⟨r, g, vs, rfl, B, hst, hg, hJ0⟩
  intro n si rᵢ1
  refine hide fun Gₕ hGₕ => ?_
  obtain ⟨r, gi, vsi, rfl, Bi, hsti, hgi, hJi⟩ := rᵢ1
  refine hGₕ ?_
  cases r with
  | nil =>
    refine src.nil _ _ _ _ hh hsti fun h' hs => wpAny_execs_nil ?_
    exact hR gi _ vsi (Bi.ended hs hgi h0 hitL hC) (hJe gi vsi si.heap h' hJi hs)
  | cons p rest =>
    refine src.cons _ _ _ _ p rest hsti fun h' tk v hp hst' hs => ?_
    have B1 := Bi.ended (tk := tk) hs.extBut hgi h0 hitL hC
    refine wpAny_assign_Name (st_ B1 (.inl hx) fun s2 B2 hch => ?_)
    have hsame : Heap.SameBut env.locals h' s2.heap := by
      rcases hch with ⟨_, q⟩ | ⟨hk, _⟩
      · exact q
      · rw [hx] at hk; cases hk
    have hst2 : St rest s2.heap := src.keep _ _ _ hst' fun a o hF e => (hsame.2 a (fun z => hL (z ▸ hF))).trans e
    have hJ2 := hJ (p :: rest) gi vsi v si.heap s2.heap hJi fun a o h1 h2 e => (hsame.2 a h2).trans ((hs.2 a h1).trans e)
    refine wpAny_mono (wpEF (hbody p rest v gi s2 vsi hp hJ2 B2 hgi hst2)) (fun fl s' h' => ?_) fun _ _ e => e
    cases fl with
    | next =>
      refine hide fun Gₕ hGₕ => ?_
      obtain ⟨g', vs', B', hg', hF', hJ'⟩ := h'
      refine hGₕ ?_
      exact ⟨rest.length, by simp, rest, g', vs', rfl, B', src.keep _ _ _ hst2 hF', hg', hJ'⟩
    | cont => exact h'.elim
    | brk => exact h'.elim
    | ret v => exact h'

theorem iter_list {l : Addr} {d : Option Addr} {items : Array Value} {k : Nat} {sl : Array (Option Value)} {Q : Value → Shared → Prop} (ho : s.heap.get? l = some ⟨.type "list", d, .seq items k, sl⟩)
    (hend : ∀ a h' t, Mem s.heap h' [] [(a, ⟨.type "list_iterator", none, .fields #[.ref l, .int 0 0], #[]⟩)] → Q (.ref a) ⟨h', s.gens, s.drawn, t, s.os⟩) : wpAny (model PG w) A (call (.builtin "iter") [.ref l]) Q E s := by
  refine call_function_entry (by decide +kernel) (by decide +kernel) kdk_entry_iter (kdk_args_iter _) ?_
  unfold Builtin.«iter»
  refine wpAny_bind (wpAny_of_eq (a := [Value.ref l]) (by first | rfl | kernel_rfl!) ?_)
  show wpAny _ _ (pyIter (.ref l) >>= _) _ _ _
  refine wpAny_bind (wpAny_pyIter_list (items := items) ⟨_, ho, rfl, k, rfl⟩ ?_)
  exact wpAny_pure ⟨_, rfl, hend _ _ _ ((Mem.start _).alloc rfl)⟩
end
end
section
open PySem PySem.W PySem.W.X PyProof.Rows PySem.Calls PySem.SeqAt
set_option maxRecDepth 100000
set_option maxHeartbeats 2000000
section
variable {w : World} {A : Around} {E : Value → Shared → Prop} {X : Addr → Prop} {g₀ g : PH} {s₀ s : Shared} {env : Env} {vs : List (Str × Value)} {n : Nat}
theorem Stp.ofMem0 {h' : Heap} {t : Nat} {news : List (Addr × Obj)} (live : ∀ a o, g a = some o → s.heap.get? a = some o) (D : Mem s.heap h' [] news) : Stp X g g s ⟨h', s.gens, s.drawn, t, s.os⟩ := by
  have keep : ∀ a o, s.heap.get? a = some o → h'.get? a = some o := fun a o e => D.keep a o e (by simp [away])
  exact ⟨fun _ _ e => e, fun _ _ e => .inl e, fun a o e => keep a o (live a o e), fun a o _ e => keep a o e, fun a o e => ⟨o, keep a o e⟩, rfl⟩

/-- a local name stored -/
theorem stl_ {M : Model} {x : Str} {v : Value} {Q : Unit → Shared → Prop} (B : Blk X g₀ s₀ env g s vs) (hk : env.kindOf x = some .local)
    (h : ∀ s', Blk X g₀ s₀ env g s' ((x, v) :: vs) → Heap.SameBut env.locals s.heap s'.heap → Q () s') : wpAny M A (storeName env x v) Q E s :=
  st_ B (.inl hk) fun s' B' hch => h s' B' (by
    rcases hch with ⟨_, q⟩ | ⟨hk', _⟩
    · exact q
    · rw [hk] at hk'; cases hk')

theorem callWith_fnK {pos : Pos} {args : List Expr} {f : Addr} {fd : FuncData} {e : Expr} {Q : Value → Shared → Prop} (ho : (K2 w.params).lookup f = some ⟨.type "function", none, .func fd, #[]⟩)
    (h : wpAny (model PG w) A (spliced (backTo pos (starEach (e :: args) env))) (fun vals s₁ => (∃ g₁, KIn w g₁ ∧ ∀ a o, g₁ a = some o → s₁.heap.get? a = some o) ∧ wpAny (model PG w) A (call (.ref f) vals) Q E s₁) E s)
    (he : starEach (e :: args) env = (false, eval e env) :: starEach args env := by rfl) :
    wpAny (model PG w) A (callWith pos (.ref f) [] (backTo pos (starEach (e :: args) env)) []) Q E s := by
  rw [he] at h ⊢
  refine callWith_function (o := ⟨.type "function", none, .func fd, #[]⟩) (fd := fd) ?_
  refine evalArgs_plain ?_
  refine wpAny_mono h (fun vals s₁ h₁ => ?_) fun _ _ e => e
  refine hide fun Gₕ hGₕ => ?_
  obtain ⟨⟨g₁, k1, l1⟩, h₁⟩ := h₁
  refine hGₕ ?_
  exact ⟨⟨l1 _ _ (k1.kin _ _ ho), rfl⟩, h₁⟩

theorem grown_len (xss : List (List Int)) (row : List Int) (hr : row.length ≤ 3) : (grown xss row).length ≤ 4 * xss.length := by
  unfold grown
  rw [List.length_append]
  have h1 : (stayF xss row).length ≤ xss.length := List.length_filter_le ..
  have h2 : ((moreF (apartF xss (stayF xss row)) row).filter fun one => decide (within (stayF xss row) one = [])).length ≤ (moreF (apartF xss (stayF xss row)) row).length := List.length_filter_le ..
  rw [moreF_len] at h2
  have h3 : (apartF xss (stayF xss row)).length ≤ xss.length := List.length_filter_le ..
  have h4 : (apartF xss (stayF xss row)).length * row.length ≤ xss.length * 3 := Nat.mul_le_mul h3 hr
  lia
theorem grown_items (xss : List (List Int)) (row : List Int) (k : Nat) (h : ∀ x ∈ xss, x.length ≤ k) : ∀ x ∈ grown xss row, x.length ≤ k + 1 := by
  intro x hx
  unfold grown at hx
  rcases List.mem_append.mp hx with q | q
  · have := h x (List.mem_filter.mp q).1; lia
  · obtain ⟨y, hy, hxy⟩ := List.mem_flatMap.mp (List.mem_filter.mp q).1
    obtain ⟨p, _, rfl⟩ := List.mem_map.mp hxy
    have := h y (List.mem_filter.mp hy).1
    simp; lia
theorem fold_bounds (rows : List (List Int)) (hr : ∀ r ∈ rows, r.length ≤ 3) : ∀ j, j ≤ rows.length → ((rows.take j).foldl grown [[]]).length ≤ 4 ^ j ∧ ∀ x ∈ (rows.take j).foldl grown [[]], x.length ≤ j := by
  intro j
  induction j with
  | zero => intro _; simp
  | succ j ih =>
    intro hj
    obtain ⟨h1, h2⟩ := ih (by lia)
    have hx : rows[j]? = some rows[j] := List.getElem?_eq_getElem (by lia)
    rw [List.take_add_one, hx, Option.toList_some, List.foldl_append]
    show (grown _ rows[j]).length ≤ _ ∧ ∀ x ∈ grown _ rows[j], _
    have hrl := hr rows[j] (List.getElem_mem ..)
    refine ⟨?_, grown_items _ _ j h2⟩
    have := grown_len ((rows.take j).foldl grown [[]]) rows[j] hrl
    rw [Nat.pow_succ]; lia

theorem reduce_call {a i : Addr} {rows : List (List Int)} {Q : Value → Shared → Prop} (live : ∀ a o, g a = some o → s.heap.get? a = some o) (hK : KIn w g) (hR : Room A (n + 5)) (hrows : SetsAt g a rows) (hi : SetsAt g i [[]])
    (hlen : rows.length ≤ 5) (hrl : ∀ r ∈ rows, r.length ≤ 3)
    (h : ∀ b g' s', Stp N0 g g' s s' → SetsAt g' b (rows.foldl grown [[]]) → Q (.ref b) s') : wpAny (model PG w) A (call (.ref 58) [.ref 97, .ref a, .ref i]) Q E s := by
  refine fn_call (X := N0) (binds := [("function", .ref 97), ("sequence", .ref a), ("initial", .ref i)]) live hK hR (f := 58) rfl (by kernel_rfl) rfl (Looks.of_peek (hK.frag live) (by kernel_rfl)) rfl (by kernel_rfl) (fun A' s₁ hR' _ B hlc => ?_) rfl rfl rfl
  obtain ⟨vals, hla, hall⟩ := hrows
  have hn := hall.length
  -- it = iter(sequence)
  refine wpAny_execs_cons (wpAny_Assign_Name (callB1 B hK rfl rfl rfl (by kernel_rfl) (id := "iter") (by kernel_rfl) (name_ B rfl (.inl rfl) ?_)))
  refine hide fun Gₕ hGₕ => ?_
  obtain ⟨⟨oc, od, odat, osl⟩, ho, hoc, k, hod⟩ := id hla
  refine hGₕ ?_
  simp only at hoc hod
  subst hoc hod
  refine iter_list (B.live _ _ ho) fun it h1 t1 D => ?_
  have st1 := Stp.ofMem0 (X := N0) (t := t1) B.live D
  have B1 := B.step st1
  have hit1 : h1.get? it = some ⟨.type "list_iterator", none, .fields #[.ref a, .int 0 0], #[]⟩ := (D.nw _ List.mem_cons_self).1
  have hitn : s₁.heap.get? it = none := (D.nw _ List.mem_cons_self).2
  refine stl_ B1 rfl fun s2 B2 same2 => ?_
  -- initial is given
  refine wpAny_execs_cons (wpAny_If (wpAny_isTrue_Compare1 (name_ B2 rfl (.inl rfl) (nameG (v := .ref 50) B2 hK rfl rfl (by kernel_rfl) ?_))))
  refine hide fun Gₕ hGₕ => ?_
  obtain ⟨iv, ⟨io, hio, hic, hik⟩, hiall⟩ := id hi
  refine hGₕ ?_
  have h50 : g 50 = some ⟨.type "object", none, .plain, #[]⟩ := hK.kin 50 _ rfl
  have hi50 : i ≠ 50 := fun z => by rw [z, h50] at hio; cases hio; exact absurd hic (by decide)
  refine wpAny_is_ref_other hi50 (B2.live _ _ hio) (B2.live _ _ h50) (by rw [hic]; decide) (wpAny_truthy_bool ?_)
  rw [if_neg Bool.false_ne_true]
  refine wpAny_execs_cons (wpAny_Assign_Name (name_ B2 rfl (.inl rfl) (stl_ B2 rfl fun s3 B3 same3 => wpAny_execs_nil ?_)))
  have hitL : it ≠ s.heap.objs.size := fun z => by
    obtain ⟨o, hoL⟩ := B.domL
    have hoL' : s₁.heap.get? s.heap.objs.size = some o := hoL
    rw [← z, hitn] at hoL'; cases hoL'
  have hit3 : s3.heap.get? it = some ⟨.type "list_iterator", none, .fields #[.ref a, .int 0 0], #[]⟩ := (same3.2 it hitL).trans ((same2.2 it hitL).trans hit1)
  have h0it : s.heap.get? it = none := by
    cases q : s.heap.get? it with
    | none => rfl
    | some o => obtain ⟨o', ho'⟩ := B.st.dom _ _ q; rw [hitn] at ho'; cases ho'
  have hgit : g it = none := live_none live h0it
  have haL : a ≠ s.heap.objs.size := fun z => by have := live _ _ ho; rw [z, get?_size] at this; cases this
  have hst3 : listSt it a (vals.map fun x v => v = x) s3.heap := ⟨0, vals, ⟨_, hit3, rfl, rfl⟩, hla.isList B3.live, Nat.zero_le _, by simp⟩
  -- the loop
  refine wpAny_execs_cons (wpAny_For (name_ B3 rfl (.inl rfl) (listSrc.iter _ _ _ _ _ hst3 ?_)))
  refine for_loop (listSrc (w := w)) hR'.hd rfl
    (fun r gi vsi _ => (∀ a o, g a = some o → gi a = some o) ∧ ∃ j b, j ≤ rows.length ∧ r = (vals.drop j).map (fun x v => v = x) ∧ vsi.lookup ("value" : Str) = some (.ref b) ∧ vsi.lookup ("function" : Str) = some (.ref 97) ∧ SetsAt gi b ((rows.take j).foldl grown [[]]))
    ?_ (fun _ _ _ _ z _ => z) h0it ?_ (fun _ _ z => by cases z) ?_ ?_ B3 hst3 hgit ?_
  · intro r gi vsi v h1 h2 rᵢ1 _
    refine hide fun Gₕ hGₕ => ?_
    obtain ⟨hle, j, b, hj, hr, hv1, hv2, hb⟩ := rᵢ1
    refine hGₕ ?_
    exact ⟨hle, j, b, hj, hr, lk_cons (by decide) hv1, lk_cons (by decide) hv2, hb⟩
  · rintro (z | z)
    · exact hitL z.symm
    · exact haL z.symm
  · intro p rest v gi si vsi hpv rᵢ2 Bi hgi hsti
    refine hide fun Gₕ hGₕ => ?_
    obtain ⟨hle, j, b, hj, hr, hv1, hv2, hb⟩ := rᵢ2
    refine hGₕ ?_
    rw [List.map_drop] at hr
    refine hide fun Gₕ hGₕ => ?_
    obtain ⟨hp, hrest⟩ := drop_cons hr
    rw [List.getElem?_map, Option.map_eq_some_iff] at hp
    obtain ⟨u, hu, rfl⟩ := hp
    have hvu : v = u := hpv
    subst hvu
    obtain ⟨row, hrow, hiv⟩ := hall.get hu
    have hj1 := (List.getElem?_eq_some_iff.mp hrow).1
    obtain ⟨hb1, hb2⟩ := fold_bounds rows hrl j hj
    refine hGₕ ?_
    have hp4 : 4 ^ j ≤ 4 ^ 4 := Nat.pow_le_pow_right (by decide) (by lia)
    refine wpAny_execs_cons (wpAny_Assign_Name (Call_Name rfl (name_ Bi hv2 (.inl rfl) ?_)))
    refine callWith_fnK rfl (args_cons (name_ Bi hv1 (.inl rfl) (args_cons (name_ Bi lk_self (.inl rfl) (args_nil ⟨⟨gi, hK.mono hle, Bi.live⟩, ?_⟩)))))
    refine grown_call (n := n) Bi.live (hK.mono hle) hR' hb (hiv.mono hle) (by lia) (fun x hx => by have := hb2 x hx; lia) (by have := hrl row (List.mem_of_getElem? hrow); lia) fun c g2 s4 st2 hc => ?_
    refine stl_ (Bi.step st2) rfl fun s5 B5 same5 => wpAny_execs_nil ?_
    have hgit2 := off_of st2 hgi (listSrc.dom (w := w) _ _ _ hsti (.inl rfl))
    refine ⟨g2, _, B5, hgit2, fun a' o hF e => (same5.2 a' (fun z => by rcases hF with q | q; exact hitL (q.symm.trans z); exact haL (q.symm.trans z))).trans (st2.keep0 _ _ e), fun a o e => st2.le a o (hle a o e), j + 1, c, hj1, by rw [hrest, List.map_drop], lk_self, lk_cons (by decide) hv2, ?_⟩
    rw [List.take_add_one, hrow, Option.toList_some, List.foldl_append]
    exact hc
  · intro g' s' vs' B' rᵢ3
    refine hide fun Gₕ hGₕ => ?_
    obtain ⟨hle, j, b, hj, hr, hv1, hv2, hb⟩ := rᵢ3
    refine hGₕ ?_
    have hjn : rows.take j = rows := by
      have : vals.drop j = [] := by
        cases q : vals.drop j with
        | nil => rfl
        | cons a b => rw [q] at hr; cases hr
      have := List.drop_eq_nil_iff.mp this
      rw [List.take_of_length_le]; lia
    rw [hjn] at hb
    exact wpAny_execs_cons (wpAny_Return_some (name_ B' hv1 (.inl rfl) (h b g' s' B'.st hb)))
  · exact ⟨fun _ _ e => e, 0, i, Nat.zero_le _, by simp, rfl, rfl, by simpa using hi⟩
end
end
section
open PySem PySem.W PySem.W.X PyProof.Rows PySem.Calls PySem.SeqAt
set_option maxRecDepth 100000
set_option maxHeartbeats 2000000
theorem All2.ints : ∀ {vs : List Value} {xs : List Int}, All2 IntV vs xs → IntsAre vs xs
  | [], [], _ => .nil
  | _ :: _, _ :: _, ⟨⟨t, e⟩, r⟩ => by subst e; exact .cons _ t r.ints
  | [], _ :: _, x => x.elim
  | _ :: _, [], x => x.elim
theorem ints_all2 : ∀ {vs : List Value} {xs : List Int}, IntsAre vs xs → All2 IntV vs xs
  | _, _, .nil => trivial
  | _, _, .cons n t r => ⟨⟨t, rfl⟩, ints_all2 r⟩
theorem All2.pairs : ∀ {vs : List Value} {xs : List Int}, All2 IntV vs xs → ∃ ps : List (Int × Tok), vs = ps.map (fun p => Value.int p.1 p.2) ∧ xs = ps.map (·.1)
  | [], [], _ => ⟨[], rfl, rfl⟩
  | _ :: _, _ :: _, ⟨⟨t, e⟩, r⟩ => by
    obtain ⟨ps, h1, h2⟩ := r.pairs
    subst e h1 h2
    exact ⟨(_, t) :: ps, rfl, rfl⟩
  | [], _ :: _, x => x.elim
  | _ :: _, [], x => x.elim
/-- sorted -/
noncomputable def srt (xs : List Int) : List Int := xs.mergeSort (fun a b => decide (a ≤ b))
theorem srt_perm (xs : List Int) : (srt xs).Perm xs := List.mergeSort_perm ..
theorem srt_sorted (xs : List Int) : (srt xs).Pairwise (· ≤ ·) := by
  have := List.pairwise_mergeSort (le := fun a b : Int => decide (a ≤ b)) (fun a b c h1 h2 => by simp at *; lia) (fun a b => by simp; lia) xs
  exact this.imp fun h => by simpa using h
theorem sorted_unique : ∀ {xs ys : List Int}, xs.Perm ys → xs.Pairwise (· ≤ ·) → ys.Pairwise (· ≤ ·) → xs = ys
  | [], ys, h, _, _ => h.nil_eq
  | x :: xs, [], h, _, _ => absurd h.symm (by simp)
  | x :: xs, y :: ys, h, hx, hy => by
    obtain ⟨h1, h2⟩ := List.pairwise_cons.mp hx
    obtain ⟨h3, h4⟩ := List.pairwise_cons.mp hy
    have e : x = y := by
      have a : x ∈ y :: ys := h.subset List.mem_cons_self
      have b : y ∈ x :: xs := h.symm.subset List.mem_cons_self
      rcases List.mem_cons.mp a with a | a <;> rcases List.mem_cons.mp b with b | b
      · exact a
      · exact a
      · exact b.symm
      · have := h3 x a; have := h1 y b; lia
    subst e
    rw [sorted_unique (List.Perm.cons_inv h) h2 h4]
section
variable {w : World} {A : Around} {E : Value → Shared → Prop} {X : Addr → Prop} {g₀ g : PH} {s₀ s : Shared} {env : Env} {vs : List (Str × Value)} {n : Nat}
theorem sumInts {a : Addr} {xs : List Int} {Q : Value → Shared → Prop} (hh : A.handled = none) (live : ∀ a o, g a = some o → s.heap.get? a = some o) (hx : IntsAt g a xs)
    (h : ∀ t s', Stp N0 g g s s' → Q (.int xs.sum t) s') : wpAny (model PG w) A (call (.builtin "sum") [.ref a]) Q E s := by
  refine hide fun Gₕ hGₕ => ?_
  obtain ⟨us, hu, hui⟩ := hx
  obtain ⟨ps, h1, h2⟩ := hui.pairs
  refine hGₕ ?_
  subst h1 h2
  refine sum_intListG (xs := ps.toArray) hh (by have := hu.isList live; simpa [intItems] using this) fun h' tk t' hk => ?_
  have e : preSum (numAt ps.toArray) ps.toArray.size = (ps.map (·.1)).sum := by
    rw [preSum_eq, List.take_of_length_le (by simp)]
  rw [e]
  exact h t' _ ⟨fun _ _ e => e, fun _ _ e => .inl e, fun a o e => hk a o (live a o e), fun a o _ e => hk a o e, fun a o e => ⟨o, hk a o e⟩, rfl⟩
theorem sortInts {a : Addr} {xs : List Int} {Q : Value → Shared → Prop} (live : ∀ a o, g a = some o → s.heap.get? a = some o) (hx : IntsAt g a xs) (h64 : xs.length < 64)
    (h : ∀ b g' s', Stp N0 g g' s s' → IntsAt g' b (srt xs) → Q (.ref b) s') : wpAny (model PG w) A (call (.builtin "sorted") [.ref a]) Q E s := by
  obtain ⟨us, hu, hui⟩ := hx
  have hn := hui.length
  refine sorted_ints (hu.isList live) hui.ints (by lia) fun out ns' a1 a2 a3 => ?_
  obtain ⟨e, he⟩ := sortedAll_at s.heap us out
  have hns : ns' = srt xs := sorted_unique (a2.trans (srt_perm xs).symm) a3 (srt_sorted xs)
  subst hns
  have hnone : s.heap.get? (s.heap.objs.size + 1) = none := none_of_ge (Nat.le_succ _)
  have hgn := live_none live hnone
  refine h (s.heap.objs.size + 1) (g.put (s.heap.objs.size + 1) (seqObj "list" out e)) _ ⟨PH.put_le hgn, fun b p q => ?_, fun b p q => ?_, fun b p _ q => sortedAll_old q, fun b p q => ⟨p, sortedAll_old q⟩, rfl⟩ ⟨out.toList, ⟨_, PH.put_self, rfl, e, by simp [seqObj]⟩, ints_all2 a1⟩
  · unfold PH.put at q
    split at q
    · rename_i z; subst z; exact .inr hnone
    · exact .inl q
  · unfold PH.put at q
    split at q
    · rename_i z; subst z; cases q; exact he
    · exact sortedAll_old (live b p q)

noncomputable abbrev KMap {β : Type} (D : PH → Value → β → Prop) (gi : PH) (si : Shared) (b : β) : Value → Shared → Prop := fun u s₁ => ∃ g₁, Stp N0 gi g₁ si s₁ ∧ D g₁ u b
/-- «[elt for x in iter]» over a list of lists, each one's make told -/
theorem compMapS {elt iter : Expr} {x : Str} {px : Pos} {scope : Scope} {pos : Pos} {a : Addr} {xss : List (List Int)} {β : Type} (D : PH → Value → β → Prop) (hD : ∀ g g' v b, D g v b → (∀ a o, g a = some o → g' a = some o) → D g' v b) (f : List Int → β)
    (hh : A.handled = none) (hl : SetsAt g a xss) (hlen : xss.length < 2 ^ 19)
    (hxf : scope.names.lookup x ≠ some .free)
    (hx : ∀ L, (compEnv scope env L).kindOf x = some .local ∨ (compEnv scope env L).kindOf x = some .cell ∧ (x, NameKind.cell) ∈ scope.names ∧ ((compEnv scope env L).cells.lookup x).isSome = true)
    (hit : ∀ Q' : Value → Shared → Prop, (∀ s₁, Stp N0 g g s s₁ → Q' (.ref a) s₁) → wpAny (model PG w) A (eval iter env) Q' E s)
    (hc : ∀ L v xs gi si vs', xs ∈ xss → IV gi v xs → Blk N0 g s (compEnv scope env L) gi si ((x, v) :: vs') → (∀ y, scope.names.lookup y = some .free → vs'.lookup y = vs.lookup y) →
      wpAny (model PG w) A (eval elt (compEnv scope env L)) (KMap D gi si (f xs)) EF si) :
    CompOK w A E elt (.Name x px) iter [] [] scope pos env g s vs (fun out g' => All2 (D g') out (xss.map f)) := by
  obtain ⟨vals, hla, hall⟩ := hl
  have hlv := hall.length
  refine CompOK.mono (compN (vals.map fun x v => v = x) (fun j out gi => (∀ a o, g a = some o → gi a = some o) ∧ j ≤ xss.length ∧ All2 (D gi) out ((xss.take j).map f)) hh hxf hx (hit _ fun s₁ st => ?_) ?_ ?_) ?_
  · exact pyIter_list st (hla.mono st.le) ⟨rfl, st.le, Nat.zero_le _, by simp; trivial⟩
  · intro L j p v out gi si vs' hp hpv rᵢ1 Bi hv
    refine hide fun Gₕ hGₕ => ?_
    obtain ⟨hle, hj, hout⟩ := rᵢ1
    refine hGₕ ?_
    rw [List.getElem?_map, Option.map_eq_some_iff] at hp
    refine hide fun Gₕ hGₕ => ?_
    obtain ⟨u, hu, rfl⟩ := hp
    have hpv' : v = u := hpv
    subst hpv'
    obtain ⟨xs, hxs, hiv⟩ := hall.get hu
    refine hGₕ ?_
    have hj1 := (List.getElem?_eq_some_iff.mp hxs).1
    refine wpAny_mono (hc L v xs gi si vs' (List.mem_of_getElem? hxs) (hiv.mono hle) Bi hv) (fun b s₁ h₁ => ?_) fun _ _ q => q
    obtain ⟨g₁, st₁, hb⟩ := h₁
    refine ⟨g₁, st₁, fun a o e => st₁.le a o (hle a o e), hj1, ?_⟩
    rw [List.take_add_one, hxs, Option.toList_some, List.map_append]
    exact (hout.mono fun _ _ z => hD _ _ _ _ z st₁.le).snoc hb
  · intro j out gi rᵢ2
    refine hide fun Gₕ hGₕ => ?_
    obtain ⟨_, hj, hout⟩ := rᵢ2
    refine hGₕ ?_
    have h1 := hout.length
    simp at h1
    lia
  · intro out g' rᵢ3
    refine hide fun Gₕ hGₕ => ?_
    obtain ⟨hle, hj, hout⟩ := rᵢ3
    refine hGₕ ?_
    have : (vals.map fun x v => v = x).length = xss.length := by simp [hlv]
    rw [this, List.take_length] at hout
    exact hout

noncomputable def rising (xss : List (List Int)) : List (List Int) := xss.map srt
theorem rising_call {a : Addr} {xss : List (List Int)} {Q : Value → Shared → Prop} (live : ∀ a o, g a = some o → s.heap.get? a = some o) (hK : KIn w g) (hR : Room A (n + 1)) (hx : SetsAt g a xss) (hl1 : xss.length < 2 ^ 10) (hl2 : ∀ x ∈ xss, x.length < 64)
    (h : ∀ b g' s', Stp N0 g g' s s' → SetsAt g' b (rising xss) → Q (.ref b) s') : wpAny (model PG w) A (call (.ref 117) [.ref a]) Q E s := by
  refine fn_call (X := N0) (binds := [("sets", .ref a)]) live hK hR (f := 117) rfl (by kernel_rfl) rfl (Looks.of_pure (by rfl)) rfl (by kernel_rfl) (fun A' s₁ hR' _ B hlc => ?_) rfl rfl rfl
  refine wpAny_execs_cons (wpAny_Return_some (comp_eval B (compMapS IV (fun _ _ _ _ z le => z.mono le) srt hR'.hd hx (by lia) (by decide) (fun L => .inl rfl) (fun Q' hQ' => name_ B rfl (.inl rfl) (hQ' _ (Stp.refl B.live))) ?_) ?_))
  · intro L v xs gi si vs' hmem hiv Bi hv
    have hKi := hK.mono Bi.st.le
    refine callB1 Bi hKi rfl rfl rfl (by kernel_rfl) (id := "sorted") (by kernel_rfl) (name_ Bi lk_self (.inl rfl) ?_)
    obtain ⟨b, rfl, hb⟩ := hiv
    exact sortInts Bi.live hb (hl2 xs hmem) fun c g1 s1 st1 hc => ⟨g1, st1, c, rfl, hc⟩
  · intro acc out g1 g2 s2 hout hle hla st
    exact h acc g2 s2 (B.step st).st ⟨out, hla, hout.mono fun _ _ z => z.mono hle⟩

noncomputable def numF (one : List Int) : Int := (one.map fun p => (2 : Int) ^ p.toNat).sum
noncomputable def numbersF (xss : List (List Int)) : List Int := xss.map numF
theorem numbers_call {a : Addr} {xss : List (List Int)} {Q : Value → Shared → Prop} (live : ∀ a o, g a = some o → s.heap.get? a = some o) (hK : KIn w g) (hR : Room A (n + 1)) (hx : SetsAt g a xss) (hl1 : xss.length < 2 ^ 11) (hl2 : ∀ x ∈ xss, x.length < 64) (hp : ∀ x ∈ xss, ∀ p ∈ x, 0 ≤ p ∧ p < 4)
    (h : ∀ b g' s', Stp N0 g g' s s' → IntsAt g' b (numbersF xss) → Q (.ref b) s') : wpAny (model PG w) A (call (.ref 107) [.ref a]) Q E s := by
  refine fn_call (X := N0) (binds := [("sets", .ref a)]) live hK hR (f := 107) rfl (by kernel_rfl) rfl (Looks.of_pure (by rfl)) rfl (by kernel_rfl) (fun A' s₁ hR' _ B hlc => ?_) rfl rfl rfl
  refine wpAny_execs_cons (wpAny_Return_some (comp_eval B (compMapS (fun _ => IntV) (fun _ _ _ _ z _ => z) numF hR'.hd hx (by lia) (by decide) (fun L => .inl rfl) (fun Q' hQ' => name_ B rfl (.inl rfl) (hQ' _ (Stp.refl B.live))) ?_) ?_))
  · intro L v xs gi si vs' hmem hiv Bi hv
    have hKi := hK.mono Bi.st.le
    refine callB1 Bi hKi rfl rfl rfl (by kernel_rfl) (id := "sum") (by kernel_rfl) ?_
    refine hide fun Gₕ hGₕ => ?_
    obtain ⟨b, rfl, us, hus, husi⟩ := hiv
    refine hGₕ ?_
    have hun := husi.length
    have hxl := hl2 xs hmem
    refine comp_eval Bi (compN (us.map fun x v => v = x) (fun j out gj => (∀ a o, gi a = some o → gj a = some o) ∧ j ≤ xs.length ∧ All2 IntV out ((xs.take j).map fun p => (2 : Int) ^ p.toNat)) hR'.hd (by decide) (fun L => .inl rfl) (name_ Bi lk_self (.inl rfl) ?_) ?_ ?_) ?_
    · exact pyIter_list (Stp.refl Bi.live) hus ⟨rfl, fun _ _ e => e, Nat.zero_le _, by simp; trivial⟩
    · intro L2 j p u out gj sj vs'' hp2 hpv rᵢ4 Bj hv2
      refine hide fun Gₕ hGₕ => ?_
      obtain ⟨hle, hj, hout⟩ := rᵢ4
      refine hGₕ ?_
      rw [List.getElem?_map, Option.map_eq_some_iff] at hp2
      refine hide fun Gₕ hGₕ => ?_
      obtain ⟨u', hu', rfl⟩ := hp2
      have : u = u' := hpv
      subst this
      obtain ⟨q, hq, t, rfl⟩ := husi.get hu'
      have hj1 := (List.getElem?_eq_some_iff.mp hq).1
      obtain ⟨h0, h4⟩ := hp xs hmem q (List.mem_of_getElem? hq)
      refine hGₕ ?_
      refine wpAny_BinOp (wpAny_Constant_int (name_ (Bj.tok _) lk_self (.inl rfl) (pow_int_small h0 (by lia) (by decide) ⟨gj, Stp.tok Bj.live, hle, hj1, ?_⟩)))
      rw [List.take_add_one, hq, Option.toList_some, List.map_append]
      exact hout.snoc (intV rfl)
    · intro j out gj rᵢ5
      refine hide fun Gₕ hGₕ => ?_
      obtain ⟨_, hj, hout⟩ := rᵢ5
      refine hGₕ ?_
      have h1 := hout.length
      simp at h1
      lia
    · intro acc out gj g2 s2 rᵢ6 le hla st
      refine hide fun Gₕ hGₕ => ?_
      obtain ⟨hle, hj, hout⟩ := rᵢ6
      refine hGₕ ?_
      rw [List.length_map, hun, List.take_length] at hout
      exact sumInts hR'.hd st.live ⟨out, hla, hout⟩ fun t s3 st3 => ⟨g2, st.trans st3, intV rfl⟩
  · intro acc out g1 g2 s2 hout hle hla st
    exact h acc g2 s2 (B.step st).st ⟨out, hla, hout⟩
end
end
section
open PySem PySem.W PySem.W.X PyProof.Rows PySem.Calls PySem.SeqAt
set_option maxRecDepth 100000
set_option maxHeartbeats 2000000
section
variable {w : World} {A : Around} {E : Value → Shared → Prop} {X : Addr → Prop} {g₀ g : PH} {s₀ s : Shared} {env : Env} {vs : List (Str × Value)} {n : Nat}
/-- «[x for x in iter if c]» over a known list -/
theorem compFilterG {iter c : Expr} {x : Str} {px pe : Pos} {scope : Scope} {pos : Pos} {a : Addr} {vals : List Value} {β : Type} {bs : List β} (D : PH → Value → β → Prop) (hD : ∀ g g' v b, D g v b → (∀ a o, g a = some o → g' a = some o) → D g' v b) (f : β → Bool)
    (hh : A.handled = none) (hla : ListAt g a vals) (hall : All2 (D g) vals bs) (hlen : bs.length < 2 ^ 19)
    (hxf : scope.names.lookup x ≠ some .free)
    (hx : ∀ L, (compEnv scope env L).kindOf x = some .local ∨ (compEnv scope env L).kindOf x = some .cell ∧ (x, NameKind.cell) ∈ scope.names ∧ ((compEnv scope env L).cells.lookup x).isSome = true)
    (hit : ∀ Q' : Value → Shared → Prop, (∀ s₁, Stp N0 g g s s₁ → Q' (.ref a) s₁) → wpAny (model PG w) A (eval iter env) Q' E s)
    (hc : ∀ L v xs gi si vs', xs ∈ bs → D gi v xs → Blk N0 g s (compEnv scope env L) gi si ((x, v) :: vs') → (∀ y, scope.names.lookup y = some .free → vs'.lookup y = vs.lookup y) →
      wpAny (model PG w) A (isTrue c (compEnv scope env L) (eval c (compEnv scope env L))) (KTst gi si (f xs)) EF si)
    (hd : (x == ("__debug__" : Str)) = false := by decide) (hcd : (x == ("__classdict__" : Str)) = false := by decide) : CompOK w A E (.Name x pe) (.Name x px) iter [c] [] scope pos env g s vs (fun out g' => All2 (D g') out (bs.filter f)) := by
  have hlv := hall.length
  refine CompOK.mono (compNif (vals.map fun x v => v = x) (fun j out gi => (∀ a o, g a = some o → gi a = some o) ∧ j ≤ bs.length ∧ All2 (D gi) out ((bs.take j).filter f)) hh hxf hx (hit _ fun s₁ st => ?_) ?_ ?_) ?_
  · exact pyIter_list st (hla.mono st.le) ⟨rfl, st.le, Nat.zero_le _, by simp; trivial⟩
  · intro L j p v out gi si vs' hp hpv rᵢ1 Bi hv
    refine hide fun Gₕ hGₕ => ?_
    obtain ⟨hle, hj, hout⟩ := rᵢ1
    refine hGₕ ?_
    rw [List.getElem?_map, Option.map_eq_some_iff] at hp
    refine hide fun Gₕ hGₕ => ?_
    obtain ⟨u, hu, rfl⟩ := hp
    have hpv' : v = u := hpv
    subst hpv'
    obtain ⟨xs, hxs, hiv⟩ := hall.get hu
    refine hGₕ ?_
    have hj1 := (List.getElem?_eq_some_iff.mp hxs).1
    refine wpAny_mono (hc L v xs gi si vs' (List.mem_of_getElem? hxs) (hD _ _ _ _ hiv hle) Bi hv) (fun b s₁ h₁ => ?_) fun _ _ q => q
    obtain ⟨g₁, st₁, hb⟩ := h₁
    have hout1 : All2 (D g₁) out ((bs.take j).filter f) := hout.mono fun _ _ z => hD _ _ _ _ z st₁.le
    refine ⟨g₁, st₁, fun hbf => ⟨fun a o e => st₁.le a o (hle a o e), hj1, ?_⟩, fun hbt => ?_⟩
    · rw [take_succ_filter f hxs, ← hb, hbf]; simpa using hout1
    · refine name_ (Bi.step st₁) lk_self ?_ ⟨g₁, Stp.refl st₁.live, fun a o e => st₁.le a o (hle a o e), hj1, ?_⟩ hcd hd
      · rcases hx L with q | ⟨q1, _, q3⟩
        · exact .inl q
        · exact .inr ⟨.inl q1, q3⟩
      · rw [take_succ_filter f hxs, ← hb, hbt, if_pos rfl]
        exact hout1.snoc (hD _ _ _ _ hiv fun a o e => st₁.le a o (hle a o e))
  · intro j out gi rᵢ2
    refine hide fun Gₕ hGₕ => ?_
    obtain ⟨_, hj, hout⟩ := rᵢ2
    refine hGₕ ?_
    have h1 := hout.length
    have h2 : ((bs.take j).filter f).length ≤ (bs.take j).length := List.length_filter_le ..
    simp at h2
    lia
  · intro out g' rᵢ3
    refine hide fun Gₕ hGₕ => ?_
    obtain ⟨hle, hj, hout⟩ := rᵢ3
    refine hGₕ ?_
    have : (vals.map fun x v => v = x).length = bs.length := by simp [hlv]
    rw [this, List.take_length] at hout
    exact hout
/-- «[x for x in range(k) if c]» -/
theorem compFilterR {iter c : Expr} {x : Str} {px pe : Pos} {scope : Scope} {pos : Pos} {k : Nat} (f : Int → Bool) (hh : A.handled = none) (hk : k < 2 ^ 19)
    (hxf : scope.names.lookup x ≠ some .free)
    (hx : ∀ L, (compEnv scope env L).kindOf x = some .local ∨ (compEnv scope env L).kindOf x = some .cell ∧ (x, NameKind.cell) ∈ scope.names ∧ ((compEnv scope env L).cells.lookup x).isSome = true)
    (hit : ∀ (P : List (Value → Prop) → PH → Prop), (∀ g₁, (∀ a o, g a = some o → g₁ a = some o) → P ((List.range k).map fun (i : Nat) v => ∃ t, v = .int i t) g₁) → wpAny (model PG w) A (eval iter env) (fun v s₁ => wpAny (model PG w) A (pyIter v) (Sourced w g s P) E s₁) E s)
    (hc : ∀ L t (i : Nat) gi si vs', i < k → Blk N0 g s (compEnv scope env L) gi si ((x, .int i t) :: vs') → (∀ y, scope.names.lookup y = some .free → vs'.lookup y = vs.lookup y) →
      wpAny (model PG w) A (isTrue c (compEnv scope env L) (eval c (compEnv scope env L))) (KTst gi si (f i)) EF si)
    (hd : (x == ("__debug__" : Str)) = false := by decide) (hcd : (x == ("__classdict__" : Str)) = false := by decide) : CompOK w A E (.Name x pe) (.Name x px) iter [c] [] scope pos env g s vs (fun out _ => All2 IntV out (((List.range k).map Int.ofNat).filter f)) := by
  refine CompOK.mono (compNif ((List.range k).map fun (i : Nat) v => ∃ t, v = .int i t) (fun j out gi => j ≤ k ∧ All2 IntV out ((((List.range k).map Int.ofNat).take j).filter f)) hh hxf hx (hit _ fun g₁ hle => ⟨rfl, Nat.zero_le _, by simp; trivial⟩) ?_ ?_) ?_
  · rintro L j p v out gi si vs' hp hpv ⟨hj, hout⟩ Bi hv
    rw [List.getElem?_map, Option.map_eq_some_iff] at hp
    refine hide fun Gₕ hGₕ => ?_
    obtain ⟨i, hi, rfl⟩ := hp
    obtain ⟨hjm, rfl⟩ : j < k ∧ i = j := by
      rw [List.getElem?_eq_some_iff] at hi
      obtain ⟨h1, h2⟩ := hi
      simp at h1 h2
      exact ⟨h1, h2.symm⟩
    obtain ⟨t, rfl⟩ := hpv
    refine hGₕ ?_
    have hxs : ((List.range k).map Int.ofNat)[i]? = some (i : Int) := by simp [hjm]
    refine wpAny_mono (hc L t i gi si vs' hjm Bi hv) (fun b s₁ h₁ => ?_) fun _ _ q => q
    obtain ⟨g₁, st₁, hb⟩ := h₁
    refine ⟨g₁, st₁, fun hbf => ⟨hjm, ?_⟩, fun hbt => ?_⟩
    · rw [take_succ_filter f hxs, ← hb, hbf]; simpa using hout
    · refine name_ (Bi.step st₁) lk_self ?_ ⟨g₁, Stp.refl st₁.live, hjm, ?_⟩ hcd hd
      · rcases hx L with q | ⟨q1, _, q3⟩
        · exact .inl q
        · exact .inr ⟨.inl q1, q3⟩
      · rw [take_succ_filter f hxs, ← hb, hbt, if_pos rfl]
        exact hout.snoc (intV rfl)
  · rintro j out gi ⟨hj, hout⟩
    have h1 := hout.length
    have h2 : ((((List.range k).map Int.ofNat).take j).filter f).length ≤ (((List.range k).map Int.ofNat).take j).length := List.length_filter_le ..
    simp at h2
    lia
  · rintro out g' ⟨hj, hout⟩
    rw [List.length_map, List.length_range] at hout
    rw [List.take_of_length_le (by simp)] at hout
    exact hout

/-- range(k), k written -/
theorem rangeK {x : Str} {p p2 pos : Pos} {k : Nat} {kk : Nat} {P : List (Value → Prop) → PH → Prop} (B : Blk X g₀ s₀ env g s vs) (hK : KIn w g) (hk : env.kindOf ("range" : Str) = some .globalImplicit) (hg : env.globals = mainGlobals) (hb : env.builtins = builtinsNs) (hkk : k < 2 ^ 19)
    (hP : ∀ g₁, (∀ a o, g a = some o → g₁ a = some o) → P ((List.range k).map fun (i : Nat) v => ∃ t, v = .int i t) g₁) (hx : x = "range")
    (hs : starEach [Expr.Constant (.int k) kk p2] env = [(false, eval (Expr.Constant (.int k) kk p2) env)] := by rfl) :
    wpAny (model PG w) A (eval (.Call (.Name x p) [Expr.Constant (.int k) kk p2] [] pos) env) (fun v s₁ => wpAny (model PG w) A (pyIter v) (Sourced w g s P) E s₁) E s := by
  subst hx
  refine callT1 B hK hk hg hb (by kernel_rfl) (T := "range") (by kernel_rfl) (wpAny_Constant_int (range_new fun a h' t' u v D => ?_)) (by decide) (by decide) hs
  have st := Stp.ofMem (X := N0) (s := s) (t := t') B.live D
  exact pyIter_range st (k := k) (by simp only [PH.puts, List.lookup_cons, beq_self_eq_true]; rfl) rfl (by lia) (hP _ st.le)

noncomputable def leastF (nums : List Int) : List Int := ((List.range 16).map Int.ofNat).filter fun one => decide (one ∈ nums) && decide (nums.filter (fun less => decide (less ≠ one) && decide (Builtin.bitAnd less one = less)) = [])
theorem least_call {a : Addr} {nums : List Int} {Q : Value → Shared → Prop} (live : ∀ a o, g a = some o → s.heap.get? a = some o) (hK : KIn w g) (hR : Room A (n + 1)) (hx : IntsAt g a nums) (hl1 : nums.length < 2 ^ 11)
    (h : ∀ b g' s', Stp N0 g g' s s' → IntsAt g' b (leastF nums) → Q (.ref b) s') : wpAny (model PG w) A (call (.ref 112) [.ref a]) Q E s := by
  refine fn_call (X := N0) (binds := [("numbers", .ref a)]) live hK hR (f := 112) rfl (by kernel_rfl) rfl (Looks.of_pure (by rfl)) rfl (by kernel_rfl) (fun A' s₁ hR' _ B hlc => ?_) rfl rfl rfl
  refine wpAny_execs_cons (wpAny_Return_some (comp_eval B (compFilterR (k := 16) (fun one => decide (one ∈ nums) && decide (nums.filter (fun less => decide (less ≠ one) && decide (Builtin.bitAnd less one = less)) = [])) hR'.hd (by decide) (by decide) (fun L => .inr ⟨rfl, by decide, rfl⟩) (fun P hP => rangeK B hK rfl rfl rfl (by decide) hP rfl) ?_) ?_))
  · intro L t i gi si vs' hi Bi hv
    have hKi := hK.mono Bi.st.le
    have hxi := hx.mono Bi.st.le
    have hnl : ((("one" : Str), Value.int i t) :: vs').lookup ("numbers" : Str) = some (.ref a) := lk_cons (by decide) ((hv "numbers" rfl).trans rfl)
    refine isTrue_and (wpAny_isTrue_Compare1 (name_ Bi lk_self (.inr ⟨.inl rfl, rfl⟩) (name_ Bi hnl (.inr ⟨.inl rfl, rfl⟩) (inInts hR' Bi.live hxi (wpAny_truthy_bool ?_)))))
    by_cases hin : (i : Int) ∈ nums
    · rw [decide_eq_true hin, if_pos rfl, Bool.true_and]
      obtain ⟨us, hus, husi⟩ := hxi
      refine isTrue_and (wpAny_isTrue_Compare1 (comp_eval Bi (compFilterG (fun _ => IntV) (fun _ _ _ _ z _ => z) (fun less => decide (less ≠ (i : Int)) && decide (Builtin.bitAnd less i = less)) hR'.hd hus husi (by lia) (by decide) (fun L => .inl rfl) (fun Q' hQ' => name_ Bi hnl (.inr ⟨.inl rfl, rfl⟩) (hQ' _ (Stp.refl Bi.live))) ?_) ?_))
      · intro L2 u y gj sj vs'' hmem2 hiv2 Bj hv2
        obtain ⟨t2, rfl⟩ := hiv2
        have honej : ((("less" : Str), Value.int y t2) :: vs'').lookup ("one" : Str) = some (.int i t) := lk_cons (by decide) ((hv2 "one" rfl).trans lk_self)
        refine isTrue_and (wpAny_isTrue_Compare1 (name_ Bj lk_self (.inl rfl) (name_ Bj honej (.inr ⟨.inl rfl, rfl⟩) (ne_int (wpAny_truthy_bool ?_)))))
        by_cases hne : y = (i : Int)
        · have : (y != (i : Int)) = false := by simp [hne]
          rw [this, if_neg Bool.false_ne_true]
          exact ⟨gj, Stp.refl Bj.live, by simp [hne]⟩
        · have : (y != (i : Int)) = true := by simpa using hne
          rw [this, if_pos rfl]
          refine isTrue_and (wpAny_isTrue_Compare1 (wpAny_BinOp (name_ Bj lk_self (.inl rfl) (name_ Bj honej (.inr ⟨.inl rfl, rfl⟩) (and_int (name_ (Bj.tok _) lk_self (.inl rfl) (PyProof.Rows.eq_int (wpAny_truthy_bool ?_))))))))
          by_cases hb : Builtin.bitAnd y i = y
          · have : (Builtin.bitAnd y i == y) = true := by simpa using hb
            rw [this, if_pos rfl]
            exact isTrue_and_nil ⟨gj, Stp.tok Bj.live, by simp [hne, hb]⟩
          · have : (Builtin.bitAnd y i == y) = false := by simpa using hb
            rw [this, if_neg Bool.false_ne_true]
            exact ⟨gj, Stp.tok Bj.live, by simp [hb]⟩
      · intro acc5 out5 g5' g5 s7 hout5 hle5 hla5 st5
        refine List_ (args_nil (newListK st5.live (by simp) fun c g6 s8 st6 hc => ?_))
        refine eqInts hR' st6.live (show IntsAt g6 acc5 _ from ⟨out5, hla5.mono st6.le, hout5⟩) (show IntsAt g6 c [] from ⟨[], hc, trivial⟩) (wpAny_truthy_bool ?_)
        generalize hz : nums.filter (fun less => decide (less ≠ (i : Int)) && decide (Builtin.bitAnd less i = less)) = zs
        cases q : decide (zs = [])
        · rw [if_neg Bool.false_ne_true]
          exact ⟨g6, st5.trans st6, rfl⟩
        · rw [if_pos rfl]
          exact isTrue_and_nil ⟨g6, st5.trans st6, rfl⟩
    · rw [decide_eq_false hin, if_neg Bool.false_ne_true]
      exact ⟨gi, Stp.refl Bi.live, by simp⟩
  · intro acc out g1 g2 s2 hout hle hla st
    exact h acc g2 s2 (B.step st).st ⟨out, hla, hout⟩
end
end
section
open PySem PySem.W PySem.W.X PyProof.Rows Builtin
set_option maxRecDepth 100000
set_option maxHeartbeats 4000000
/-- the names that the body of K leaves -/
noncomputable def kEnts (H : Nat → Int) (T : Nat → Tok) (sl f1 f2 f3 f4 f5 f6 sa : Addr) : Array DictEntry :=
  #[⟨H 0, .str "__module__" (T 0), .str "cpy313.functools" (T 1)⟩, ⟨H 1, .str "__qualname__" (T 2), .str "cmp_to_key.<locals>.K" (T 3)⟩, ⟨H 2, .str "__firstlineno__" (T 4), .int 41 (T 5)⟩,
    ⟨H 3, .str "__slots__" (T 6), .ref sl⟩, ⟨H 4, .str "__init__" (T 7), .ref f1⟩, ⟨H 5, .str "__lt__" (T 8), .ref f2⟩, ⟨H 6, .str "__gt__" (T 9), .ref f3⟩, ⟨H 7, .str "__eq__" (T 10), .ref f4⟩,
    ⟨H 8, .str "__le__" (T 11), .ref f5⟩, ⟨H 9, .str "__ge__" (T 12), .ref f6⟩, ⟨H 10, .str "__hash__" (T 13), .none⟩, ⟨H 11, .str "__static_attributes__" (T 14), .ref sa⟩]



section
variable {w : World} {A : Around} {E : Value → Shared → Prop}
section
theorem collect0 {s : Shared} {Q : Value → Shared → Prop} {sl : Addr} {tsl : Tok} (hsl : s.heap.get? sl = some { cls := .type "list", dict := none, data := .seq #[.str "obj" tsl] 0, slots := #[] })
    (hend : ∀ a h' t, Mem s.heap h' [] [(a, ⟨.type "list", none, .seq #[.str "obj" tsl] 1, #[]⟩)] → Q (.ref a) ⟨h', s.gens, s.drawn, t, s.os⟩) :
    wpAny (model PG w) A (runValue (.builtin "proto.collect" ⟨[.ref sl], []⟩)) Q E s := by
  x_run
end
theorem collect1 {s : Shared} {Q : List Value → Shared → Prop} {sl : Addr} {tsl : Tok} (hsl : s.heap.get? sl = some { cls := .type "list", dict := none, data := .seq #[.str "obj" tsl] 0, slots := #[] })
    (hend : ∀ a h' t, Mem s.heap h' [] [(a, ⟨.type "list", none, .seq #[.str "obj" tsl] 1, #[]⟩)] → Q [.str "obj" tsl] ⟨h', s.gens, s.drawn, t, s.os⟩) :
    wpAny (model PG w) A (collect (.ref sl)) Q E s := by
  unfold collect
  refine wpAny_bind (collect0 hsl fun a h' t D => ?_)
  have e := D.at 0 _ _ rfl
  repeat wp_step
  exact hend a h' t D
theorem sl_read {h : Heap} {g : Array GenState} {d : Drawn} {t : Nat} {os : OsState} {Q : Slots.Plan → Shared → Prop}
    {H : Nat → Int} {T : Nat → Tok} {sl f1 f2 f3 f4 f5 f6 sa : Addr} {tsl : Tok}
    (hsl : h.get? sl = some { cls := .type "list", dict := none, data := .seq #[.str "obj" tsl] 0, slots := #[] })
    (hend : ∀ a h' t, Mem h h' [] [(a, ⟨.type "list", none, .seq #[.str "obj" tsl] 1, #[]⟩)] → Q { names := ["obj"], dict := false, weak := false, inherited := [] } ⟨h', g, d, t, os⟩) :
    wpAny (model PG w) A (Slots.read "K" [.type "object"] (kEnts H T sl f1 f2 f3 f4 f5 f6 sa)) Q E ⟨h, g, d, t, os⟩ := by
  have m : mroOf (.type "object") = pure [.type "object"] := by rw [mroOf_type]; kernel_rfl
  have i1 : isSubtype (.type "object") (.type "object") = pure true := by rw [isSubtype_type]; kernel_rfl
  have w1 : typeLookup (.type "object") "__weakref__" = pure none := by rw [typeLookup_type, builtinLookup_eq_fast]; kernel_rfl
  have i2 : isSubtype (.type "list") (.type "str") = pure false := by rw [isSubtype_type]; kernel_rfl
  have T1 : (⟨h, g, d, t, os⟩ : Shared).TypeIs (.ref sl) "list" := ⟨_, hsl, rfl⟩
  have d1 : Slots.isIdentifier (Str.ofString "obj") = some true := by decide +kernel
  have d2 : Slots.mangle (Str.ofString "K") (Str.ofString "obj") = Str.ofString "obj" := by decide +kernel
  have d3 : (Str.ofString "obj" == Str.ofString "__dict__") = false := by decide +kernel
  have d4 : (Str.ofString "obj" == Str.ofString "__weakref__") = false := by decide +kernel
  have d5 : (Str.ofString "obj" == Str.ofString "__del__") = false := by decide +kernel
  unfold Slots.read
  repeat (first | (refine collect1 (sl := sl) hsl fun a h' t' D => ?_) | wp_step | ((with_reducible apply wpAny_ite_false); focus (kernel_rfl; done)) | rw [d1] | rw [d2] | rw [d3] | rw [d4] | rw [d5])
  have z := hend a h' t' D
  exact Eq.mp (by kernel_rfl) z
end
end
section
open PySem PySem.W PySem.W.X PyProof.Rows Builtin
set_option maxRecDepth 100000
set_option maxHeartbeats 4000000
theorem nt_object {M : Model} {A : Around} {Q : Unit → Shared → Prop} {E : Value → Shared → Prop} {s : Shared} (hq : Q () s) : wpAny M A (notOverATurnedClass [.type "object"]) Q E s := by
  have m : mroOf (.type "object") = pure [.type "object"] := by rw [mroOf_type]; kernel_rfl
  unfold notOverATurnedClass
  repeat wp_step
  exact hq
theorem ext_object {M : Model} {A : Around} {Q : Value → Shared → Prop} {E : Value → Shared → Prop} {s : Shared} (hq : Q (.type "object") s) : wpAny M A (extendedBase [.type "object"]) Q E s := by
  have i1 : isSubtype (.type "object") (.type "object") = pure true := by rw [isSubtype_type]; kernel_rfl
  unfold extendedBase
  repeat wp_step
  exact hq
theorem nt_object' {M : Model} {A : Around} {bs : List Value} {Q : Unit → Shared → Prop} {E : Value → Shared → Prop} {s : Shared} (e : bs = [.type "object"]) (hq : Q () s) : wpAny M A (notOverATurnedClass bs) Q E s := e ▸ nt_object hq
theorem ext_object' {M : Model} {A : Around} {bs : List Value} {Q : Value → Shared → Prop} {E : Value → Shared → Prop} {s : Shared} (e : bs = [.type "object"]) (hq : Q (.type "object") s) : wpAny M A (extendedBase bs) Q E s := by rw [e]; exact ext_object hq
theorem sl_read' {w : World} {A : Around} {E : Value → Shared → Prop} {h : Heap} {g : Array GenState} {d : Drawn} {t : Nat} {os : OsState} {Q : Slots.Plan → Shared → Prop}
    {H : Nat → Int} {T : Nat → Tok} {sl f1 f2 f3 f4 f5 f6 sa : Addr} {tsl : Tok} {nm : Str} {bs : List Value} {es : Array DictEntry} (e1 : nm = "K") (e2 : bs = [.type "object"]) (e3 : es = kEnts H T sl f1 f2 f3 f4 f5 f6 sa)
    (hsl : h.get? sl = some { cls := .type "list", dict := none, data := .seq #[.str "obj" tsl] 0, slots := #[] })
    (hend : ∀ a h' t, Mem h h' [] [(a, ⟨.type "list", none, .seq #[.str "obj" tsl] 1, #[]⟩)] → Q { names := ["obj"], dict := false, weak := false, inherited := [] } ⟨h', g, d, t, os⟩) :
    wpAny (model PG w) A (Slots.read nm bs es) Q E ⟨h, g, d, t, os⟩ := by subst e1 e2 e3; exact sl_read hsl hend
section
variable {M : Model} {A : Around} {E : Value → Shared → Prop} {h0 h : Heap} {g : Array GenState} {d : Drawn} {t : Nat} {os : OsState} {news : List (Addr × Obj)}
theorem m_alloc {o : Obj} {Q : Addr → Shared → Prop} (D : Mem h0 h [] news) (hf : o.isFreed = false) (k : ∀ a h', Mem h0 h' [] ((a, o) :: news) → Q a ⟨h', g, d, t, os⟩) :
    wpAny M A (alloc o) Q E ⟨h, g, d, t, os⟩ := wpAny_alloc (k _ _ (D.alloc hf))
theorem m_updP {a : Addr} {q : Option Value} {f : Obj → Obj} {Q : Unit → Shared → Prop} {o : Obj} (D : Mem h0 h [] news) (i : Nat) (hi : news[i]? = some (a, o)) (hf : (f o).isFreed = false)
    (k : ∀ h', Mem h0 h' [] (news.set i (a, f o)) → Q () ⟨h', g, d, t, os⟩) : wpAny M A (updatePart a q f) Q E ⟨h, g, d, t, os⟩ := wpAny_updatePart (D.at i a o hi) (k _ (D.update hi hf))
theorem m_upd {a : Addr} {f : Obj → Obj} {Q : Unit → Shared → Prop} {o : Obj} (D : Mem h0 h [] news) (i : Nat) (hi : news[i]? = some (a, o)) (hf : (f o).isFreed = false)
    (k : ∀ h', Mem h0 h' [] (news.set i (a, f o)) → Q () ⟨h', g, d, t, os⟩) : wpAny M A (update a f) Q E ⟨h, g, d, t, os⟩ := wpAny_update (D.at i a o hi) (k _ (D.update hi hf))
end
end
section
open PySem PySem.W PySem.W.X PyProof.Rows Builtin
set_option maxRecDepth 100000
set_option maxHeartbeats 4000000
section
variable {M : Model} {A : Around} {E : Value → Shared → Prop} {h0 h : Heap} {g : Array GenState} {d : Drawn} {t : Nat} {os : OsState} {chg news : List (Addr × Obj)}
theorem m_alloc2 {o : Obj} (o' : Obj) {Q : Addr → Shared → Prop} (D : Mem h0 h chg news) (e : o = o') (hf : o'.isFreed = false) (k : ∀ a h', Mem h0 h' chg ((a, o') :: news) → Q a ⟨h', g, d, t, os⟩) :
    wpAny M A (alloc o) Q E ⟨h, g, d, t, os⟩ := by subst e; exact wpAny_alloc (k _ _ (D.alloc hf))
theorem m_updP2 {a : Addr} {q : Option Value} {f : Obj → Obj} {Q : Unit → Shared → Prop} {o : Obj} (o' : Obj) (D : Mem h0 h chg news) (i : Nat) (hi : news[i]? = some (a, o)) (e : f o = o') (hf : o'.isFreed = false)
    (k : ∀ h', Mem h0 h' chg (news.set i (a, o')) → Q () ⟨h', g, d, t, os⟩) : wpAny M A (updatePart a q f) Q E ⟨h, g, d, t, os⟩ := by
  subst e; exact wpAny_updatePart (D.at i a o hi) (k _ (D.update hi hf))
theorem m_upd2 {a : Addr} {f : Obj → Obj} {Q : Unit → Shared → Prop} {o : Obj} (o' : Obj) (D : Mem h0 h chg news) (i : Nat) (hi : news[i]? = some (a, o)) (e : f o = o') (hf : o'.isFreed = false)
    (k : ∀ h', Mem h0 h' chg (news.set i (a, o')) → Q () ⟨h', g, d, t, os⟩) : wpAny M A (update a f) Q E ⟨h, g, d, t, os⟩ := by
  subst e; exact wpAny_update (D.at i a o hi) (k _ (D.update hi hf))
/-- the class -/
noncomputable abbrev kCD (mro : List Value) (ns : Addr) (hd : Bool) (sn : List Str) : ClassData := { name := "K", bases := [.type "object"], mro, ns, qualname := "cmp_to_key.<locals>.K", hasDict := hd, slotNames := sn }
noncomputable abbrev kObj (cd : ClassData) (sl : Array (Option Value)) : Obj := ⟨.type "type", none, .cls cd, sl⟩
/-- the class's own dict -/
noncomputable abbrev kNs (H : Nat → Int) (T : Nat → Tok) (sl f1 f2 f3 f4 f5 f6 sa : Addr) (more : List DictEntry) : Array DictEntry :=
  (([⟨H 0, .str "__module__" (T 0), .str "cpy313.functools" (T 1)⟩, ⟨H 2, .str "__firstlineno__" (T 4), .int 41 (T 5)⟩,
    ⟨H 3, .str "__slots__" (T 6), .ref sl⟩, ⟨H 4, .str "__init__" (T 7), .ref f1⟩, ⟨H 5, .str "__lt__" (T 8), .ref f2⟩, ⟨H 6, .str "__gt__" (T 9), .ref f3⟩, ⟨H 7, .str "__eq__" (T 10), .ref f4⟩,
    ⟨H 8, .str "__le__" (T 11), .ref f5⟩, ⟨H 9, .str "__ge__" (T 12), .ref f6⟩, ⟨H 10, .str "__hash__" (T 13), .none⟩, ⟨H 11, .str "__static_attributes__" (T 14), .ref sa⟩] : List DictEntry) ++ more).toArray
theorem m_tl {a : Addr} {name : Str} {cd : ClassData} {sl : Array (Option Value)} {on : Obj} {r res : Option Value} {Q : Option Value → Shared → Prop} (ha : h.get? a = some (kObj cd sl)) (hm : cd.mro = [.ref a, .type "object"]) (hn : h.get? cd.ns = some on) (hl : nsLook name on = pure r)
    (hr : r.or (builtinOwn "object" name) = res) (hq : Q res ⟨h, g, d, t, os⟩) : wpAny M A (typeLookup (.ref a) name) Q E ⟨h, g, d, t, os⟩ := by
  unfold typeLookup
  refine wpAny_bind ?_
  unfold mroOf
  refine wpAny_bind ?_
  unfold classData
  refine wpAny_bind (wpAny_load' ha ?_)
  refine wpAny_pure (wpAny_pure ?_)
  rw [hm]
  subst hr
  have e1 : ∀ {Q' : Option Value → Shared → Prop}, Q' r ⟨h, g, d, t, os⟩ → wpAny M A (classOwn (.ref a) name) Q' E ⟨h, g, d, t, os⟩ := fun q => by
    unfold classOwn classData
    refine wpAny_bind (wpAny_bind (wpAny_load' ha (wpAny_pure ?_)))
    unfold nsGet
    refine wpAny_bind (wpAny_loadPart' hn ?_)
    rw [hl]
    exact wpAny_pure q
  simp only [List.forIn_cons, List.forIn_nil]
  refine wpAny_bind (wpAny_bind ?_)
  refine wpAny_bind (e1 ?_)
  cases r with
  | some v => 
    refine wpAny_pure ?_
    refine wpAny_pure ?_
    exact wpAny_pure hq
  | none =>
    refine wpAny_pure ?_
    refine wpAny_bind (wpAny_bind (wpAny_pure ?_))
    rw [Option.none_or] at hq
    generalize hb : builtinOwn "object" name = b at hq ⊢
    cases b with
    | some v => exact wpAny_pure (wpAny_pure (wpAny_pure hq))
    | none => exact wpAny_pure (wpAny_pure (wpAny_pure hq))
end
end
section
open PySem PySem.W PySem.W.X PyProof.Rows Builtin
set_option maxRecDepth 100000
set_option maxHeartbeats 4000000
section
variable {w : World} {A : Around} {E : Value → Shared → Prop} {s : Shared}
theorem m_strHash {name : Str} {Q : Int → Shared → Prop} (hq : ∀ x, Q x s) : wpAny (model PG w) A (strHash name) Q E s := by
  unfold strHash
  exact wpAny_bind (wpAny_askSetting (wpAny_pure (hq _)))
theorem m_try {M : Model} {α : Type} {m : Sem α} {k : Value → Sem α} {Q : α → Shared → Prop} (h : wpAny M A m Q (fun e s' => wpAny M A (k e) Q E s') s) : wpAny M A (m.tryCatch k) Q E s := wpAny_tryCatch h
/-- a loop whose turns leave all as it was -/
theorem m_loopL {M : Model} {α β : Type} {f : α → β → Sem (ForInStep β)} {b : β} {Q : β → Shared → Prop} : ∀ (l : List α), (∀ e ∈ l, ∀ Q' : ForInStep β → Shared → Prop, Q' (.yield b) s → wpAny M A (f e b) Q' E s) → Q b s → wpAny M A (forIn l b f) Q E s
  | [], _, hq => by rw [List.forIn_nil]; exact wpAny_pure hq
  | x :: l, h, hq => by
    rw [List.forIn_cons]
    refine wpAny_bind (h x List.mem_cons_self _ ?_)
    exact m_loopL l (fun e he => h e (List.mem_cons_of_mem _ he)) hq
theorem m_loop {M : Model} {α β : Type} {f : α → β → Sem (ForInStep β)} {b : β} {Q : β → Shared → Prop} {arr : Array α} (h : ∀ e ∈ arr.toList, ∀ Q' : ForInStep β → Shared → Prop, Q' (.yield b) s → wpAny M A (f e b) Q' E s) (hq : Q b s) : wpAny M A (forIn arr b f) Q E s := by
  rw [← Array.forIn_toList]
  exact m_loopL _ h hq
end
end
section
open PySem PySem.W PySem.W.X PyProof.Rows Builtin
set_option maxRecDepth 100000
set_option maxHeartbeats 4000000
section
variable {w : World} {A : Around} {E : Value → Shared → Prop} {s : Shared} {a ns : Addr} {sl : Array (Option Value)}
theorem super_new {Q : Value → Shared → Prop}
    (hc : s.heap.get? a = some { cls := .type "type", dict := none, data := .cls { name := "K", bases := [.type "object"], mro := [.ref a, .type "object"], ns, qualname := "cmp_to_key.<locals>.K", hasDict := false, slotNames := ["obj"] }, slots := sl })
    (hend : ∀ u h' t, Mem s.heap h' [] [(u, ⟨.type "super", none, .fields #[.ref a, .ref a, .ref a], #[]⟩)] → Q (.ref u) ⟨h', s.gens, s.drawn, t, s.os⟩) :
    wpAny (model PG w) A (call (.type "super") [.ref a, .ref a]) Q E s := by
  x_run
theorem is_get {Q : Value → Shared → Prop}
    (hc : s.heap.get? a = some { cls := .type "type", dict := none, data := .cls { name := "K", bases := [.type "object"], mro := [.ref a, .type "object"], ns, qualname := "cmp_to_key.<locals>.K", hasDict := false, slotNames := ["obj"] }, slots := sl })
    (hend : ∀ u h' t, Mem s.heap h' [] [(u, ⟨.type "builtin_function_or_method", none, .fields #[.builtin "object.__init_subclass__", .ref a], #[]⟩)] → Q (.ref u) ⟨h', s.gens, s.drawn, t, s.os⟩) :
    wpAny (model PG w) A (call (.builtin "classmethod_descriptor.__get__") [.builtin "object.__init_subclass__", .none, .ref a]) Q E s := by
  x_run
end
section
variable {w : World} {A : Around} {E : Value → Shared → Prop} {s : Shared} {a ns u : Addr} {sl : Array (Option Value)}
theorem is_call {Q : Value → Shared → Prop}
    (hc : s.heap.get? a = some { cls := .type "type", dict := none, data := .cls { name := "K", bases := [.type "object"], mro := [.ref a, .type "object"], ns, qualname := "cmp_to_key.<locals>.K", hasDict := false, slotNames := ["obj"] }, slots := sl })
    (hu : s.heap.get? u = some ⟨.type "builtin_function_or_method", none, .fields #[.builtin "object.__init_subclass__", .ref a], #[]⟩)
    (hend : Q .none s) :
    wpAny (model PG w) A (call (.ref u) []) Q E s := by
  x_run
end
end
section
open PySem PySem.W PySem.W.X PyProof.Rows Builtin
local macro_rules | `(tactic| heap_get) => do
  let D := Lean.mkIdent `D
  `(tactic| first | exact Mem.at $D 0 _ _ rfl | exact Mem.at $D 1 _ _ rfl | exact Mem.at $D 2 _ _ rfl | exact Mem.at $D 3 _ _ rfl | exact Mem.at $D 4 _ _ rfl | exact Mem.at $D 5 _ _ rfl | exact Mem.old $D _ _ (by assumption) rfl)
local macro_rules | `(tactic| walk1) => do
  `(tactic| (first
  | with_reducible (first
      | refine wpAny_pure ?_ | refine wpAny_bind ?_ | refine wpAny_holding ?_ | refine wpAny_standAt ?_ | refine wpAny_point ?_ | refine wpAny_rule ?_
      | refine wpAny_mkInt' ?_ | refine wpAny_mkStr' ?_ | refine wpAny_fresh' ?_ | refine wpAny_attempt ?_ | refine wpAny_tryCatch ?_
      | (refine m_strHash ?_; intro hx) | refine wpAny_of_eq (by assumption) ?_)
  | ((with_reducible apply wpAny_load'); focus (heap_get; done))
  | ((with_reducible apply wpAny_loadPart'); focus (heap_get; done))
  | ((with_reducible refine wpAny_ite_false ?hf ?_); (case hf => kernel_rfl!))
  | ((with_reducible refine wpAny_ite_true ?hf ?_); (case hf => kernel_rfl!))
  | wp_delta
  | with_reducible_and_instances refine wpAny_pure ?_
  | with_reducible_and_instances refine wpAny_bind ?_))
section
open PySem PySem.W PySem.W.X PyProof.Rows Builtin
set_option maxRecDepth 100000
set_option maxHeartbeats 4000000
section
theorem m_forEq {M : Model} {A : Around} {E : Value → Shared → Prop} {s : Shared} {α β : Type} {f : α → β → Sem (ForInStep β)} {b : β} {Q : β → Shared → Prop} {l l' : List α} (e : l = l') (h : wpAny M A (forIn l' b f) Q E s) : wpAny M A (forIn l b f) Q E s := by rw [e]; exact h
theorem super_ga {w : World} {A : Around} {h : Heap} {g : Array GenState} {d : Drawn} {t : Nat} {os : OsState} {Q : Fin → Shared → Prop} {E : Value → Shared → Prop} {u a ns : Addr} {sl : Array (Option Value)} {tk : Tok}
    (X : (K2 w.params).In h) (hu : h.get? u = some ⟨.type "super", none, .fields #[.ref a, .ref a, .ref a], #[]⟩)
    (hc : h.get? a = some (kObj (kCD [.ref a, .type "object"] ns false ["obj"]) sl))
    (hend : ∀ v h' t', Mem h h' [] [(v, ⟨.type "builtin_function_or_method", none, .fields #[.builtin "object.__init_subclass__", .ref a], #[]⟩)] → Q (.done (.ret (.ref v))) ⟨h', g, d, t', os⟩) :
    wpAny (model PG w) A (Builtin.«super.__getattribute__» ⟨[.ref u, .str "__init_subclass__" tk], []⟩) Q E ⟨h, g, d, t, os⟩ := by
  have D := Mem.start h
  have hst := X cStatics _ rfl
  have ed : ∀ x : Value, (List.drop 1 (List.dropWhile (fun y => y != x) [x, Value.type "object"])) = [Value.type "object"] := fun x => by simp
  have b0 : classOwn (.type "object") "__init_subclass__" = pure (some (.builtin "object.__init_subclass__")) := by kernel_rfl
  have b1 : typeOf (.builtin "object.__init_subclass__") = pure (.type "classmethod_descriptor") := by kernel_rfl
  have b2 : typeLookup (.type "classmethod_descriptor") "__get__" = pure (some (.builtin "classmethod_descriptor.__get__")) := by rw [typeLookup_type, builtinLookup_eq_fast]; kernel_rfl
  unfold Builtin.«super.__getattribute__»
  repeat ((fail_if_success (with_reducible_and_instances show wpAny _ _ (forIn (List.drop _ _) _ _) _ _ _)); walk1)
  refine m_forEq (l' := [Value.type "object"]) (ed (.ref a)) ?_
  repeat (walk1)
  rw [if_pos (by simp)]
  refine is_get (a := a) (s := ⟨h, g, d, t, os⟩) hc fun v h' t' D' => ?_
  repeat (walk1)
  exact hend v h' t' D'
theorem super_get {w : World} {A : Around} {h : Heap} {g : Array GenState} {d : Drawn} {t : Nat} {os : OsState} {Q : Value → Shared → Prop} {E : Value → Shared → Prop} {u a ns : Addr} {sl : Array (Option Value)}
    (X : (K2 w.params).In h) (hu : h.get? u = some ⟨.type "super", none, .fields #[.ref a, .ref a, .ref a], #[]⟩)
    (hc : h.get? a = some (kObj (kCD [.ref a, .type "object"] ns false ["obj"]) sl))
    (hend : ∀ v h' t', Mem h h' [] [(v, ⟨.type "builtin_function_or_method", none, .fields #[.builtin "object.__init_subclass__", .ref a], #[]⟩)] → Q (.ref v) ⟨h', g, d, t', os⟩) :
    wpAny (model PG w) A (getAttr (.ref u) "__init_subclass__") Q E ⟨h, g, d, t, os⟩ := by
  have D := Mem.start h
  have g1 := F.ks_slot_super_ga.lookup
  have g2 := F.ks_slot_super_ga.bind (.ref u)
  repeat (walk1)
  refine wpAny_call (codeAny_call_builtin F.ks_slot_super_ga.plain F.ks_entry_super_ga (F.ks_slot_super_ga.check _ _ _ _ _ _ _ _ ⟨_, hu, rfl⟩ (F.ks_gaArgs_super _ _) (super_ga X hu hc fun v h' t' D' => ?_)))
  repeat (walk1)
  exact hend v h' t' D'
end
end
section
open PySem PySem.W PySem.W.X PyProof.Rows Builtin
set_option maxRecDepth 100000
set_option maxHeartbeats 4000000
set_option linter.unusedVariables false
section
theorem m_none {h0 h : Heap} {chg news : List (Addr × Obj)} (D : Mem h0 h chg news) (i : Nat) {a : Addr} {o : Obj} (hi : news[i]? = some (a, o)) : h0.get? a = none := (D.nw _ (List.mem_of_getElem? hi)).2
structure Hid (P : Prop) : Prop where
  out : P
noncomputable def TnT : Prop := ∀ (w : World) (A : Around) (h : Heap) (g : Array GenState) (d : Drawn) (t : Nat) (os : OsState) (Q : Fin → Shared → Prop) (E : Value → Shared → Prop) (bT nsA : Addr) (n : Nat) (tk : Tok)
    (H : Nat → Int) (T : Nat → Tok) (sl f1 f2 f3 f4 f5 f6 sa : Addr) (tsl tsa : Tok) (d1 d2 d3 d4 d5 d6 : FuncData)
    (X : (K2 w.params).In h) (hb : h.get? bT = some { cls := .type "tuple", dict := none, data := .seq #[.type "object"] 0, slots := #[] })
    (hns : h.get? nsA = some { cls := .type "dict", dict := none, data := .dict (kEnts H T sl f1 f2 f3 f4 f5 f6 sa) n, slots := #[] })
    (hsl : h.get? sl = some { cls := .type "list", dict := none, data := .seq #[.str "obj" tsl] 0, slots := #[] })
    (h1 : h.get? f1 = some { cls := .type "function", dict := none, data := .func d1, slots := #[] })
    (h2 : h.get? f2 = some { cls := .type "function", dict := none, data := .func d2, slots := #[] })
    (h3 : h.get? f3 = some { cls := .type "function", dict := none, data := .func d3, slots := #[] })
    (h4 : h.get? f4 = some { cls := .type "function", dict := none, data := .func d4, slots := #[] })
    (h5 : h.get? f5 = some { cls := .type "function", dict := none, data := .func d5, slots := #[] })
    (h6 : h.get? f6 = some { cls := .type "function", dict := none, data := .func d6, slots := #[] }) 
    (hsa : h.get? sa = some { cls := .type "tuple", dict := none, data := .seq #[.str "obj" tsa] 0, slots := #[] })
    (hnm : (nsA == sysModules) = false)
    (hend : ∀ a ns md hx1 hx2 t1 t2 t3 h' t', (∀ b o, h.get? b = some o → h'.get? b = some o) → h'.get? a = some (kObj (kCD [.ref a, .type "object"] ns false ["obj"]) #[some (.ref bT), none, some (.str "K" tk), some (.str "cmp_to_key.<locals>.K" (T 3)), some (.builtin "object.__new__"), some (.bool false)]) →
      h'.get? ns = some ⟨.type "dict", none, .dict (kNs H T sl f1 f2 f3 f4 f5 f6 sa [⟨hx1, .str "obj" t1, .ref md⟩, ⟨hx2, .str "__doc__" t2, .none⟩]) 3, #[]⟩ →
      h'.get? md = some ⟨.type "member_descriptor", none, .fields #[.str "obj" t3, .ref a, .builtin "proto.slot", .builtin "proto.slot#set", rawInt 0], #[]⟩ →
      h.get? a = none → h.get? ns = none → h.get? md = none → Q (.done (.ret (.ref a))) ⟨h', g, d, t', os⟩), wpAny (model PG w) A (Builtin.«type.__new__» ⟨[.type "type", .str "K" tk, .ref bT, .ref nsA], []⟩) Q E ⟨h, g, d, t, os⟩
noncomputable def tnA : PSigma fun P : Prop => Hid P → TnT := by
  apply PSigma.mk
  intro hP
  intro w A h g d t os Q E bT nsA n tk H T sl f1 f2 f3 f4 f5 f6 sa tsl tsa d1 d2 d3 d4 d5 d6 X hb hns hsl h1 h2 h3 h4 h5 h6 hsa hnm hend
  have i1 : isSubtype (.type "tuple") (.type "tuple") = pure true := by rw [isSubtype_type]; kernel_rfl
  have i2 : isSubtype (.type "dict") (.type "dict") = pure true := by rw [isSubtype_type]; kernel_rfl
  have i3 : isSubtype (.type "type") (.type ((Manifest.find? "object").elim "type" fun x => x.metatype)) = pure true := by rw [isSubtype_type]; kernel_rfl
  have l1 : typeLookup (.type "dict") "__iter__" = pure (some (.builtin "dict.__iter__")) := by rw [typeLookup_type, builtinLookup_eq_fast]; kernel_rfl
  have l2 : typeLookup (.type "type") "mro" = pure (some (.builtin "type.mro")) := by rw [typeLookup_type, builtinLookup_eq_fast]; kernel_rfl
  have m : mroOf (.type "object") = pure [.type "object"] := by rw [mroOf_type]; kernel_rfl
  have D := Mem.start h
  unfold Builtin.«type.__new__»
  repeat (first | (with_reducible refine nt_object' (by kernel_rfl) ?_) | (with_reducible refine ext_object' (by kernel_rfl) ?_) | (with_reducible refine sl_read' (H := H) (T := T) (f1 := f1) (f2 := f2) (f3 := f3) (f4 := f4) (f5 := f5) (f6 := f6) (sa := sa) (by kernel_rfl) (by kernel_rfl) (by kernel_rfl) hsl fun aC hC tC D => ?_) | walk1 | rw [hnm])
  refine m_alloc2 ⟨.type "dict", none, .dict (kEnts H T sl f1 f2 f3 f4 f5 f6 sa) 0, #[]⟩ D (by kernel_rfl!) rfl ?_
  clear D; intro aNs hN D
  repeat walk1
  refine m_alloc2 (kObj (kCD [] aNs true []) #[]) D (by kernel_rfl!) rfl ?_
  clear D; intro aN hN D
  repeat walk1
  refine m_updP2 (kObj (kCD [] aNs true []) #[some (.ref bT)]) D 0 rfl (by kernel_rfl!) rfl ?_
  clear D; intro hN D
  dsimp only [List.set] at D
  repeat walk1
  refine m_updP2 (kObj (kCD [] aNs true []) #[some (.ref bT), none, some (.str "K" tk)]) D 0 rfl (by kernel_rfl!) rfl ?_
  clear D; intro hN D
  dsimp only [List.set] at D
  repeat walk1
  refine m_updP2 (kObj (kCD [] aNs true []) #[some (.ref bT), none, some (.str "K" tk), some (.str "cmp_to_key.<locals>.K" (T 3))]) D 0 rfl (by kernel_rfl!) rfl ?_
  clear D; intro hN D
  dsimp only [List.set] at D
  repeat walk1
  refine m_updP2 ⟨.type "dict", none, .dict (kNs H T sl f1 f2 f3 f4 f5 f6 sa []) 1, #[]⟩ D 1 rfl (by kernel_rfl!) rfl ?_
  clear D; intro hN D
  dsimp only [List.set] at D
  repeat walk1
  rw [List.filter_cons_of_neg (by simp)]
  rename_i D0 x5 x4 x3 x2 x1
  clear D0 x5 x4 x3 x2 x1
  revert w A h g d t os Q E bT nsA n tk H T sl f1 f2 f3 f4 f5 f6 sa tsl tsa d1 d2 d3 d4 d5 d6 X hb hns hsl h1 h2 h3 h4 h5 h6 hsa hnm hend i1 i2 i3 l1 l2 m aC hC tC aNs aN hN D
  exact hP.out
theorem hbs_rfl (α : List Value) : (if (((some (#[Value.type "object"])).getD #[]).toList).isEmpty = true then α else ((some (#[Value.type "object"])).getD #[]).toList) = [Value.type "object"] := rfl
noncomputable def tnB : PSigma fun P : Prop => Hid P → tnA.1 := by
  apply PSigma.mk
  intro hP
  intro w A h g d t os Q E bT nsA n tk H T sl f1 f2 f3 f4 f5 f6 sa tsl tsa d1 d2 d3 d4 d5 d6 X hb hns hsl h1 h2 h3 h4 h5 h6 hsa hnm hend i1 i2 i3 l1 l2 m aC hC tC aNs aN hN D
  have w1 : typeLookup (.type "object") "__weakref__" = pure none := by rw [typeLookup_type, builtinLookup_eq_fast]; kernel_rfl
  have w2 : typeLookup (.type "object") "__new__" = pure (some (.builtin "object.__new__")) := by rw [typeLookup_type, builtinLookup_eq_fast]; kernel_rfl
  repeat (walk1)
  refine m_upd2 (kObj (kCD [.ref aN, .type "object"] aNs true []) #[some (.ref bT), none, some (.str "K" tk), some (.str "cmp_to_key.<locals>.K" (T 3))]) D 0 rfl (by kernel_rfl!) rfl ?_
  clear D; intro hN D
  dsimp only [List.set] at D
  repeat (walk1)
  refine m_updP2 (kObj (kCD [.ref aN, .type "object"] aNs true []) #[some (.ref bT), none, some (.str "K" tk), some (.str "cmp_to_key.<locals>.K" (T 3)), some (.builtin "object.__new__")]) D 0 rfl (by kernel_rfl!) rfl ?_
  clear D; intro hN D
  dsimp only [List.set] at D
  repeat (walk1)
  refine m_tl (Mem.at D 0 _ _ rfl) rfl (Mem.at D 1 _ _ rfl) (r := none) (by kernel_rfl!) (res := some (.builtin "object.__new__")) (by kernel_rfl!) ?_
  repeat (walk1)
  refine m_alloc2 ⟨.type "member_descriptor", none, .fields #[.str "obj" tC, .ref aN, .builtin "proto.slot", .builtin "proto.slot#set", rawInt 0], #[]⟩ D (by kernel_rfl!) rfl ?_
  clear D; intro aM hN D
  repeat (walk1)
  rename_i hxo
  refine m_updP2 ⟨.type "dict", none, .dict (kNs H T sl f1 f2 f3 f4 f5 f6 sa [⟨hxo, .str "obj" (tC + 1), .ref aM⟩]) 2, #[]⟩ D 2 rfl (by kernel_rfl!) rfl ?_
  clear D; intro hN D
  dsimp only [List.set] at D
  dsimp only [hbs_rfl]
  repeat (walk1)
  refine m_upd2 (kObj (kCD [.ref aN, .type "object"] aNs false ["obj"]) #[some (.ref bT), none, some (.str "K" tk), some (.str "cmp_to_key.<locals>.K" (T 3)), some (.builtin "object.__new__")]) D 1 rfl (by kernel_rfl!) rfl ?_
  clear D; intro hN D
  dsimp only [List.set] at D
  repeat (walk1)
  refine m_updP2 (kObj (kCD [.ref aN, .type "object"] aNs false ["obj"]) #[some (.ref bT), none, some (.str "K" tk), some (.str "cmp_to_key.<locals>.K" (T 3)), some (.builtin "object.__new__"), some (.bool false)]) D 1 rfl (by kernel_rfl!) rfl ?_
  clear D; intro hN D
  dsimp only [List.set] at D
  repeat (walk1)
  rename_i hxd
  refine m_updP2 ⟨.type "dict", none, .dict (kNs H T sl f1 f2 f3 f4 f5 f6 sa [⟨hxo, .str "obj" (tC + 1), .ref aM⟩, ⟨hxd, .str "__doc__" (tC + 2), .none⟩]) 3, #[]⟩ D 2 rfl (by kernel_rfl!) rfl ?_
  clear D; intro hN D
  dsimp only [List.set] at D
  repeat ((fail_if_success (with_reducible refine m_try ?_)); walk1)
  refine m_try (wpEF ?_)
  rename_i y6 y5 y4 y3 y2 y1 y0
  clear y6 y5 y4 y3 y2 y1 y0
  revert w A h g d t os Q E bT nsA n tk H T sl f1 f2 f3 f4 f5 f6 sa tsl tsa d1 d2 d3 d4 d5 d6 X hb hns hsl h1 h2 h3 h4 h5 h6 hsa hnm hend i1 i2 i3 l1 l2 m aC hC tC aNs aN w1 w2 aM hxo hxd hN D
  exact hP.out
theorem tnC : tnB.1 := by
  show tnB.1
  intro w A h g d t os Q E bT nsA n tk H T sl f1 f2 f3 f4 f5 f6 sa tsl tsa d1 d2 d3 d4 d5 d6 X hb hns hsl h1 h2 h3 h4 h5 h6 hsa hnm hend i1 i2 i3 l1 l2 m aC hC tC aNs aN w1 w2 aM hxo hxd hN D
  have s1 : typeLookup (.type "str") "__set_name__" = pure none := by rw [typeLookup_type, builtinLookup_eq_fast]; kernel_rfl
  have s2 : typeLookup (.type "int") "__set_name__" = pure none := by rw [typeLookup_type, builtinLookup_eq_fast]; kernel_rfl
  have s3 : typeLookup (.type "list") "__set_name__" = pure none := by rw [typeLookup_type, builtinLookup_eq_fast]; kernel_rfl
  have s4 : typeLookup (.type "function") "__set_name__" = pure none := by rw [typeLookup_type, builtinLookup_eq_fast]; kernel_rfl
  have s5 : typeLookup (.type "NoneType") "__set_name__" = pure none := by rw [typeLookup_type, builtinLookup_eq_fast]; kernel_rfl
  have s6 : typeLookup (.type "tuple") "__set_name__" = pure none := by rw [typeLookup_type, builtinLookup_eq_fast]; kernel_rfl
  have s7 : typeLookup (.type "member_descriptor") "__set_name__" = pure none := by rw [typeLookup_type, builtinLookup_eq_fast]; kernel_rfl
  refine wpAny_holding ?_
  refine wpAny_bind (wpAny_dictEntries (Mem.at D 2 _ _ rfl) rfl ?_)
  refine wpAny_bind (m_loop ?_ ?_)
  · intro e he Q' hq
    simp only [List.cons_append, List.nil_append, List.mem_cons, List.not_mem_nil, or_false] at he
    rcases he with rfl | rfl | rfl | rfl | rfl | rfl | rfl | rfl | rfl | rfl | rfl | rfl | rfl
    all_goals (repeat walk1)
    all_goals exact hq
  refine wpAny_ite_false rfl ?_
  refine wpAny_bind (wpAny_dictEntries (Mem.at D 2 _ _ rfl) rfl ?_)
  refine wpAny_bind (m_loop ?_ ?_)
  · intro e he Q' hq
    simp only [List.cons_append, List.nil_append, List.mem_cons, List.not_mem_nil, or_false] at he
    rcases he with rfl | rfl | rfl | rfl | rfl | rfl | rfl | rfl | rfl | rfl | rfl | rfl | rfl
    all_goals (repeat walk1)
    all_goals exact hq
  have hcN := Mem.at D 1 _ _ rfl
  have XN : (K2 w.params).In hN := fun b o e => D.keep b o (X b o e) (by simp [away])
  refine wpAny_bind (super_new (s := ⟨hN, g, d, _, os⟩) hcN fun u h2 t2 D2 => ?_)
  have X2 : (K2 w.params).In h2 := fun b o e => D2.keep b o (XN b o e) (by simp [away])
  have hc2 := D2.keep _ _ hcN (by simp [away])
  have hu2 := Mem.at D2 0 _ _ rfl
  refine wpAny_bind (wpAny_holding (super_get X2 hu2 hc2 fun v h3 t3 D3 => ?_))
  have hc3 := D3.keep _ _ hc2 (by simp [away])
  refine wpAny_bind (is_call (s := ⟨h3, g, d, t3, os⟩) hc3 (Mem.at D3 0 _ _ rfl) ?_)
  refine wpAny_pure (wpAny_pure ?_)
  have k : ∀ b o, hN.get? b = some o → h3.get? b = some o := fun b o e => D3.keep b o (D2.keep b o e (by simp [away])) (by simp [away])
  exact hend aN aNs aM hxo hxd _ _ _ h3 t3 (fun b o e => k b o (D.keep b o e (by simp [away]))) (k _ _ hcN) (k _ _ (Mem.at D 2 _ _ rfl)) (k _ _ (Mem.at D 0 _ _ rfl)) (m_none D 1 rfl) (m_none D 2 rfl) (m_none D 0 rfl)
theorem tn : TnT := by
  have hB : tnA.1 := tnB.2 ⟨tnC⟩
  exact tnA.2 ⟨hB⟩
end
end
section
open PySem PySem.W PySem.W.X PyProof.Rows Builtin
set_option maxRecDepth 100000
set_option maxHeartbeats 4000000
section
theorem tn_entry : entryFor table "type.__new__" = some Builtin.«type.__new__» := entryFor_of_tree (by kernel_rfl)
theorem ti_entry : entryFor table "type.__init__" = some Builtin.«type.__init__» := entryFor_of_tree (by kernel_rfl)
theorem tn_plain : plainId "type.__new__" = true := by decide +kernel
theorem ti_plain : plainId "type.__init__" = true := by decide +kernel
theorem ti_slot : Slot "type" "__init__" "type.__init__" := .of (owner := "type") (n := "__init__") (by rw [typeLookup_type, builtinLookup_eq_fast]; kernel_rfl) (by decide +kernel) (by decide +kernel) (by decide +kernel)
  (by first | exact .inl (by decide +kernel) | exact .inr (by decide +kernel)) (by rw [isSubtype_type]; kernel_rfl)
theorem ti_args (o a b c : Value) : argsOk "type.__init__" ⟨[o, a, b, c], []⟩ := by unfold argsOk; kernel_rfl
theorem type_call {w : World} {A : Around} {h : Heap} {g : Array GenState} {d : Drawn} {t : Nat} {os : OsState} {Q : Value → Shared → Prop} {E : Value → Shared → Prop} {bT nsA : Addr} {n : Nat} {tk : Tok}
    {H : Nat → Int} {T : Nat → Tok} {sl f1 f2 f3 f4 f5 f6 sa : Addr} {tsl tsa : Tok} {d1 d2 d3 d4 d5 d6 : FuncData}
    (X : (K2 w.params).In h) (hb : h.get? bT = some { cls := .type "tuple", dict := none, data := .seq #[.type "object"] 0, slots := #[] })
    (hns : h.get? nsA = some { cls := .type "dict", dict := none, data := .dict (kEnts H T sl f1 f2 f3 f4 f5 f6 sa) n, slots := #[] })
    (hsl : h.get? sl = some { cls := .type "list", dict := none, data := .seq #[.str "obj" tsl] 0, slots := #[] })
    (h1 : h.get? f1 = some { cls := .type "function", dict := none, data := .func d1, slots := #[] })
    (h2 : h.get? f2 = some { cls := .type "function", dict := none, data := .func d2, slots := #[] })
    (h3 : h.get? f3 = some { cls := .type "function", dict := none, data := .func d3, slots := #[] })
    (h4 : h.get? f4 = some { cls := .type "function", dict := none, data := .func d4, slots := #[] })
    (h5 : h.get? f5 = some { cls := .type "function", dict := none, data := .func d5, slots := #[] })
    (h6 : h.get? f6 = some { cls := .type "function", dict := none, data := .func d6, slots := #[] })
    (hsa : h.get? sa = some { cls := .type "tuple", dict := none, data := .seq #[.str "obj" tsa] 0, slots := #[] })
    (hnm : (nsA == sysModules) = false)
    (hend : ∀ a ns md hx1 hx2 t1 t2 t3 h' t', (∀ b o, h.get? b = some o → h'.get? b = some o) → h'.get? a = some (kObj (kCD [.ref a, .type "object"] ns false ["obj"]) #[some (.ref bT), none, some (.str "K" tk), some (.str "cmp_to_key.<locals>.K" (T 3)), some (.builtin "object.__new__"), some (.bool false)]) →
      h'.get? ns = some ⟨.type "dict", none, .dict (kNs H T sl f1 f2 f3 f4 f5 f6 sa [⟨hx1, .str "obj" t1, .ref md⟩, ⟨hx2, .str "__doc__" t2, .none⟩]) 3, #[]⟩ →
      h'.get? md = some ⟨.type "member_descriptor", none, .fields #[.str "obj" t3, .ref a, .builtin "proto.slot", .builtin "proto.slot#set", rawInt 0], #[]⟩ →
      h.get? a = none → h.get? ns = none → h.get? md = none → Q (.ref a) ⟨h', g, d, t', os⟩) :
    wpAny (model PG w) A (call (.type "type") [.str "K" tk, .ref bT, .ref nsA]) Q E ⟨h, g, d, t, os⟩ := by
  have D := Mem.start h
  have m1 : mroOf (.type "type") = pure [.type "type", .type "object"] := by rw [mroOf_type]; kernel_rfl
  have l1 : typeLookup (.type "type") "__new__" = pure (some (.builtin "type.__new__")) := by rw [typeLookup_type, builtinLookup_eq_fast]; kernel_rfl
  have l2 : typeLookup (.type "type") "__init__" = pure (some (.builtin "type.__init__")) := by rw [typeLookup_type, builtinLookup_eq_fast]; kernel_rfl
  have mb : Bind.madeBy (.type "type") = pure (some "type.__new__") := madeBy_type m1 l1 (by decide +kernel)
  have i1 : isSubtype (.type "type") (.type "type") = pure true := by rw [isSubtype_type]; kernel_rfl
  have c1 : checkBuiltinCall "type.__new__" ⟨[.type "type", .str "K" tk, .ref bT, .ref nsA], []⟩ = pure () := by kernel_rfl
  have c2 : checkTypeCall "type" ⟨[.str "K" tk, .ref bT, .ref nsA], []⟩ = pure () := by kernel_rfl
  refine wpAny_call (codeAny_of_tree ?_)
  show wpAny _ _ (callAny (.type "type") _) _ _ _
  refine wpAny_pure ⟨Code.quiet_builtin _ (by decide +kernel), codeAny_builtin F.entry_type_call ?_⟩
  rw [Around.under_plain (weight_type_call_type "type" _ []) rfl]
  unfold Builtin.«type.__call__»
  repeat walk1
  refine wpAny_call (codeAny_call_builtin tn_plain tn_entry (wpAny_of_eq c1 (tn _ _ _ _ _ _ _ _ _ _ _ _ _ _ _ _ _ _ _ _ _ _ _ _ _ _ _ _ _ _ _ X hb hns hsl h1 h2 h3 h4 h5 h6 hsa hnm fun a ns md hx1 hx2 t1 t2 t3 h' t' hk ha hn hm na nn nm => ?_)))
  clear D
  have D := Mem.start h'
  have bs := ti_slot.bind (.ref a)
  show wpAny _ _ _ _ _ _
  repeat (walk1)
  refine wpAny_call (codeAny_call_builtin ti_slot.plain ti_entry (ti_slot.check _ _ _ _ _ _ _ _ ⟨_, ha, rfl⟩ (ti_args _ _ _ _) ?_))
  unfold Builtin.«type.__init__»
  repeat walk1
  exact hend a ns md hx1 hx2 t1 t2 t3 h' t' hk ha hn hm na nn nm
end
end
end
section
open PySem PySem.W PySem.W.X PyProof.Rows Builtin
set_option maxRecDepth 100000
set_option maxHeartbeats 4000000
/-- h from h0: all kept but X; the new ones listed -/
structure Mm (h0 h : Heap) (X : Addr → Prop) (news : List (Addr × Obj)) : Prop where
  keep : ∀ b o, ¬ X b → h0.get? b = some o → h.get? b = some o
  dom : ∀ b o, h0.get? b = some o → ∃ o', h.get? b = some o'
  nw : ∀ p ∈ news, h.get? p.1 = some p.2 ∧ h0.get? p.1 = none
  nd : (news.map (·.1)).Nodup
section
variable {h0 h h' : Heap} {X : Addr → Prop} {news : List (Addr × Obj)}
theorem Mm.start (h : Heap) (X : Addr → Prop) : Mm h h X [] := ⟨fun _ _ _ e => e, fun _ o e => ⟨o, e⟩, fun _ h => (nomatch h), List.nodup_nil⟩
theorem Mm.at (D : Mm h0 h X news) (i : Nat) {a : Addr} {o : Obj} (hi : news[i]? = some (a, o)) : h.get? a = some o := (D.nw _ (List.mem_of_getElem? hi)).1
theorem Mm.off (D : Mm h0 h X news) (i : Nat) {a : Addr} {o : Obj} (hi : news[i]? = some (a, o)) : h0.get? a = none := (D.nw _ (List.mem_of_getElem? hi)).2
theorem Mm.alloc (D : Mm h0 h X news) {o : Obj} (hf : o.isFreed = false) : Mm h0 (h.push o) X ((h.objs.size, o) :: news) := by
  refine ⟨fun b p hx e => Heap.get?_push_of_some _ (D.keep b p hx e), fun b p e => let ⟨q, hq⟩ := D.dom b p e; ⟨q, Heap.get?_push_of_some _ hq⟩, fun p hp => ?_, ?_⟩
  · rcases List.mem_cons.mp hp with rfl | hp
    · refine ⟨Heap.get?_push_size _ hf, ?_⟩
      cases q : h0.get? h.objs.size with
      | none => rfl
      | some o' => obtain ⟨q', hq'⟩ := D.dom _ _ q; rw [get?_size] at hq'; cases hq'
    · exact ⟨Heap.get?_push_of_some _ (D.nw p hp).1, (D.nw p hp).2⟩
  · rw [List.map_cons]
    refine List.nodup_cons.mpr ⟨fun hm => ?_, D.nd⟩
    obtain ⟨p, hp, e⟩ := List.mem_map.mp hm
    have := (D.nw p hp).1
    rw [e, get?_size] at this; cases this
theorem Mm.upd (D : Mm h0 h X news) {i : Nat} {a : Addr} {o o' : Obj} {f : Obj → Obj} (hi : news[i]? = some (a, o)) (e : f o = o') (hf : o'.isFreed = false) : Mm h0 (h.update a f) X (news.set i (a, o')) := by
  subst e
  have hs : Heap.SameBut a h (h.update a f) := Heap.SameBut.update ..
  have hm := List.mem_of_getElem? hi
  have ho := (D.nw _ hm).1
  have hn := (D.nw _ hm).2
  obtain ⟨hl, hgi⟩ := List.getElem?_eq_some_iff.mp hi
  have em : (news.set i (a, f o)).map (·.1) = news.map (·.1) := by
    rw [List.map_set]
    exact set_same (by rw [List.getElem?_map, hi]; rfl)
  have ne : ∀ b p, h0.get? b = some p → b ≠ a := fun b p e z => by
    have hn' : h0.get? a = none := hn
    rw [z, hn'] at e; cases e
  refine ⟨fun b p hx e => (hs.2 b (ne b p e)).trans (D.keep b p hx e), fun b p e => let ⟨q, hq⟩ := D.dom b p e; ⟨q, (hs.2 b (ne b p e)).trans hq⟩, fun p hp => ?_, by rw [em]; exact D.nd⟩
  by_cases hpa : p.1 = a
  · have hx : (a, f o) ∈ news.set i (a, f o) := List.mem_set hl _
    have : p = (a, f o) := key_unique (by rw [em]; exact D.nd) hp hx hpa
    subst this
    refine ⟨?_, hn⟩
    first | exact Heap.get?_update_self f ho hf | exact Heap.get?_update_self _ ho hf
  · rcases List.mem_or_eq_of_mem_set hp with hp | rfl
    · exact ⟨(hs.2 _ hpa).trans (D.nw p hp).1, (D.nw p hp).2⟩
    · exact absurd rfl hpa
/-- a step that turns P alone -/
theorem Mm.ext (D : Mm h0 h X news) {P : Addr} {ps : Array Value} (hP : h.get? P = some (tabObj ps)) (hX : X P ∨ h0.get? P = none) (he : Heap.ExtBut P h h') (hd : ∃ o, h'.get? P = some o) (hc : (news.all fun p => p.2.cls != .none) = true) : Mm h0 h' X news := by
  have key : ∀ b o, ¬ X b → h0.get? b = some o → b ≠ P := fun b o hx e z => by
    rcases hX with q | q
    · exact hx (z ▸ q)
    · rw [z, q] at e; cases e
  refine ⟨fun b o hx e => he b o (key b o hx e) (D.keep b o hx e), fun b o e => ?_, fun p hp => ?_, D.nd⟩
  · obtain ⟨q, hq⟩ := D.dom b o e
    by_cases hb : b = P
    · rw [hb]; exact hd
    · exact ⟨q, he b q hb hq⟩
  · refine ⟨he _ _ (fun z => ?_) (D.nw p hp).1, (D.nw p hp).2⟩
    have h1 := (D.nw p hp).1
    rw [z, hP] at h1
    have h2 := List.all_eq_true.mp hc p hp
    rw [← Option.some.inj h1] at h2
    exact absurd (show ((Value.none : Value) != Value.none) = true from h2) (by decide)
/-- a call's step -/
theorem Mm.mem (D : Mm h0 h X news) {news' : List (Addr × Obj)} (M : Mem h h' [] news') : Mm h0 h' X news := by
  have k : ∀ b o, h.get? b = some o → h'.get? b = some o := fun b o e => M.keep b o e (by simp [away])
  exact ⟨fun b o hx e => k b o (D.keep b o hx e), fun b o e => let ⟨q, hq⟩ := D.dom b o e; ⟨q, k b q hq⟩, fun p hp => ⟨k _ _ (D.nw p hp).1, (D.nw p hp).2⟩, D.nd⟩
theorem Mm.keeps (D : Mm h0 h X news) (k : ∀ b o, h.get? b = some o → h'.get? b = some o) : Mm h0 h' X news :=
  ⟨fun b o hx e => k b o (D.keep b o hx e), fun b o e => let ⟨q, hq⟩ := D.dom b o e; ⟨q, k b q hq⟩, fun p hp => ⟨k _ _ (D.nw p hp).1, (D.nw p hp).2⟩, D.nd⟩
/-- one more known -/
theorem Mm.more (D : Mm h0 h X news) {a : Addr} {o : Obj} (ha : h.get? a = some o) (hn : h0.get? a = none) (hf : ∀ p ∈ news, p.1 ≠ a) : Mm h0 h X ((a, o) :: news) := by
  refine ⟨D.keep, D.dom, fun p hp => ?_, ?_⟩
  · rcases List.mem_cons.mp hp with rfl | hp
    · exact ⟨ha, hn⟩
    · exact D.nw p hp
  · rw [List.map_cons]
    refine List.nodup_cons.mpr ⟨fun hm => ?_, D.nd⟩
    obtain ⟨p, hp, e⟩ := List.mem_map.mp hm
    exact hf p hp e
end
section
variable {M : Model} {A : Around} {E : Value → Shared → Prop} {h0 h : Heap} {X : Addr → Prop} {g : Array GenState} {d : Drawn} {t : Nat} {os : OsState} {news : List (Addr × Obj)}
theorem n_alloc {o : Obj} (o' : Obj) {Q : Addr → Shared → Prop} (D : Mm h0 h X news) (e : o = o') (hf : o'.isFreed = false) (k : ∀ a h', Mm h0 h' X ((a, o') :: news) → Q a ⟨h', g, d, t, os⟩) :
    wpAny M A (alloc o) Q E ⟨h, g, d, t, os⟩ := by subst e; exact wpAny_alloc (k _ _ (D.alloc hf))
theorem n_updP {a : Addr} {q : Option Value} {f : Obj → Obj} {Q : Unit → Shared → Prop} {o : Obj} (o' : Obj) (D : Mm h0 h X news) (i : Nat) (hi : news[i]? = some (a, o)) (e : f o = o') (hf : o'.isFreed = false)
    (k : ∀ h', Mm h0 h' X (news.set i (a, o')) → Q () ⟨h', g, d, t, os⟩) : wpAny M A (updatePart a q f) Q E ⟨h, g, d, t, os⟩ :=
  wpAny_updatePart (D.at i hi) (k _ (D.upd hi e hf))
end
end
section
open PySem PySem.W PySem.W.X PyProof.Rows Builtin
set_option maxRecDepth 100000
set_option maxHeartbeats 4000000
theorem codeAmong_snoc_ne {pos pos' : Pos} {c : Value} : ∀ (l : List Value), TriplesOk l → ¬ (pos'.line = pos.line ∧ pos'.col = pos.col) → codeAmong pos (l ++ [rawInt pos'.line, rawInt pos'.col, c]) = codeAmong pos l := by
  intro l h hne
  fun_induction TriplesOk l with
  | case1 =>
    have : ((pos'.line : Int) == (pos.line : Int) && (pos'.col : Int) == (pos.col : Int)) = false := by
      cases q : ((pos'.line : Int) == (pos.line : Int) && (pos'.col : Int) == (pos.col : Int)) with
      | false => rfl
      | true =>
        rw [Bool.and_eq_true, beq_iff_eq, beq_iff_eq] at q
        exact absurd ⟨by lia, by lia⟩ hne
    simp only [List.nil_append, codeAmong, rawInt, this, Bool.false_eq_true, if_false]
  | case2 a t b u x rest ih =>
    simp only [List.cons_append, codeAmong]
    split
    · rfl
    · exact ih h
  | case3 => exact h.elim
theorem triple1 : ∀ {l : List Value}, TriplesOk l → ∀ s t, l[1]? ≠ some (.str s t) := by
  intro l h s t
  fun_induction TriplesOk l with
  | case1 => simp
  | case2 a t b u x rest ih => simp
  | case3 => exact h.elim
/-- a code object of that name, known or new -/
noncomputable def CRk (Kn : Addr → Obj → Prop) (h : Heap) (c : Addr) (q : Str) : Prop := ∃ o vs t, h.get? c = some o ∧ o.data = .fields vs ∧ vs[1]? = some (.str q t) ∧ Kn c o ∧ o.cls = .type "code"
theorem CRk.keeps {Kn : Addr → Obj → Prop} {h h' : Heap} {c : Addr} {q : Str} (x : CRk Kn h c q) (k : ∀ b o, h.get? b = some o → h'.get? b = some o) : CRk Kn h' c q := let ⟨o, vs, t, a, r⟩ := x; ⟨o, vs, t, k _ _ a, r⟩
theorem CRk.but {Kn : Addr → Obj → Prop} {h h' : Heap} {c a : Addr} {q : Str} {oa : Obj} (x : CRk Kn h c q) (k : ∀ b o, b ≠ a → h.get? b = some o → h'.get? b = some o) (ha : h.get? a = some oa) (hna : ∀ vs, oa.data ≠ .fields vs) : CRk Kn h' c q :=
  let ⟨o, vs, t, e, d, r⟩ := x
  ⟨o, vs, t, k _ _ (by rintro rfl; rw [ha] at e; cases e; exact hna _ d) e, d, r⟩
theorem CRk.rec {Kn : Addr → Obj → Prop} {h : Heap} {c : Addr} {q : Str} (x : CRk Kn h c q) : h.CodeRec (.ref c) q := let ⟨o, vs, t, a, b, d, _⟩ := x; ⟨c, o, vs, t, rfl, a, b, d⟩
/-- what a code's table holds of the named places -/
noncomputable def TabOK (Kn : Addr → Obj → Prop) (h : Heap) (c P : Addr) (ents : List (Pos × Str)) : Prop :=
  ∃ ps, h.IsCode c P ps ∧ h.TableAt c P ps ∧ ∀ e ∈ ents, codeAmong e.1 ps.toList = none ∨ ∃ c', codeAmong e.1 ps.toList = some (.ref c') ∧ CRk Kn h c' e.2
section
variable {Kn : Addr → Obj → Prop} {h h' : Heap} {c P : Addr} {ents : List (Pos × Str)}
theorem TabOK.keeps (x : TabOK Kn h c P ents) (k : ∀ b o, h.get? b = some o → h'.get? b = some o) : TabOK Kn h' c P ents := by
  refine hide fun Gₕ hGₕ => ?_
  obtain ⟨ps, a, b, d⟩ := x
  refine hGₕ ?_
  refine ⟨ps, a.keeps k, b.keeps k, fun e he => ?_⟩
  rcases d e he with q | ⟨c', q, r⟩
  · exact .inl q
  · exact .inr ⟨c', q, r.keeps k⟩
theorem TabOK.tab (x : TabOK Kn h c P ents) : ∃ ps, h.get? P = some (tabObj ps) := let ⟨ps, _, b, _⟩ := x; ⟨ps, b.2⟩
theorem TabOK.but {a : Addr} {oa : Obj} (x : TabOK Kn h c P ents) (k : ∀ b o, b ≠ a → h.get? b = some o → h'.get? b = some o) (ha : h.get? a = some oa) (hna : ∀ vs, oa.data ≠ .fields vs) : TabOK Kn h' c P ents := by
  refine hide fun Gₕ hGₕ => ?_
  obtain ⟨ps, i, b, d⟩ := x
  obtain ⟨⟨o, vs, e1, e2, e3, e4⟩, e5⟩ := id b
  refine hGₕ ?_
  have hc : c ≠ a := fun z => by rw [z, ha] at e1; cases e1; exact hna _ e3
  have hP : P ≠ a := fun z => by rw [z, ha] at e5; cases e5; exact hna _ rfl
  refine ⟨ps, i.extBut k hc hP, b.extBut k hc hP, fun e he => ?_⟩
  rcases d e he with q | ⟨c', q, r⟩
  · exact .inl q
  · exact .inr ⟨c', q, r.but k ha hna⟩
end
section
variable {Kn : Addr → Obj → Prop} {M : Model} {A : Around} {E : Value → Shared → Prop} {s : Shared} {env : Env} {c P : Addr} {ents : List (Pos × Str)}
theorem tab_grow {s : Shared} {h' : Heap} {ps : Array Value} {pos : Pos} {qual : Str} {c' : Addr} (hi : s.heap.IsCode c P ps) (ht : s.heap.TableAt c P ps) (hd : ∀ e ∈ ents, codeAmong e.1 ps.toList = none ∨ ∃ c', codeAmong e.1 ps.toList = some (.ref c') ∧ CRk Kn s.heap c' e.2)
    (hap : ∀ e ∈ ents, (e.1.line = pos.line ∧ e.1.col = pos.col) → e = (pos, qual)) (hnf : codeAmong pos ps.toList = none) (he : Heap.ExtBut P s.heap h') (hi' : h'.IsCode c P (ps ++ #[rawInt pos.line, rawInt pos.col, .ref c'])) (ht' : h'.TableAt c P (ps ++ #[rawInt pos.line, rawInt pos.col, .ref c'])) (hr : CRk Kn h' c' qual) : TabOK Kn h' c P ents := by
  have htr : TriplesOk ps.toList := by obtain ⟨_, _, _, _, _, _, _, _, _, _, _, _, _, _, _, _, _, _, _, q, _⟩ := hi; exact q
  have hl : (ps ++ #[rawInt pos.line, rawInt pos.col, Value.ref c']).toList = ps.toList ++ [rawInt pos.line, rawInt pos.col, .ref c'] := by simp
  refine ⟨_, hi', ht', fun e hm => ?_⟩
  rw [hl]
  by_cases q : e.1.line = pos.line ∧ e.1.col = pos.col
  · have := hap e hm q
    subst this
    rw [codeAmong_snoc _ htr hnf]
    exact .inr ⟨c', rfl, hr⟩
  · rw [codeAmong_snoc_ne _ htr (fun z => q ⟨z.1.symm, z.2.symm⟩)]
    rcases hd e hm with z | ⟨c2, z, r⟩
    · exact .inl z
    · refine .inr ⟨c2, z, ?_⟩
      refine hide fun Gₕ hGₕ => ?_
      obtain ⟨o, vs, t, e2, e3, e4, e5⟩ := r
      refine hGₕ ?_
      refine ⟨o, vs, t, he _ _ (fun y => ?_) e2, e3, e4, e5⟩
      rw [y, ht.2] at e2
      cases e2
      cases e3
      exact triple1 htr _ _ (by simpa using e4)
theorem fcode {pos : Pos} {firstLine : Nat} {name qual : Str} {p : Arguments} {scope : Scope} {body : FuncBody} {Q : Value → Shared → Prop} (hc : env.code = .ref c) (hT : TabOK Kn s.heap c P ents) (hm : (pos, qual) ∈ ents)
    (hap : ∀ e ∈ ents, (e.1.line = pos.line ∧ e.1.col = pos.col) → e = (pos, qual))
    (hKn : ∀ c o, s.heap.get? c = none → Kn c o) (hQ : ∀ c' h' tk, Heap.ExtBut P s.heap h' → TabOK Kn h' c P ents → CRk Kn h' c' qual → Q (.ref c') { s with heap := h', toks := tk }) :
    wpAny M A (functionCode env pos firstLine name qual p scope body) Q E s := by
  refine hide fun Gₕ hGₕ => ?_
  obtain ⟨ps, hi, ht, hd⟩ := id hT
  refine hGₕ ?_
  rcases hd _ hm with q | ⟨c', q, r⟩
  · refine wpAny_functionCodeX hc hi ht q fun c' h' tk he h1 h2 hi' hr ht' hx => ?_
    refine hide fun Gₕ hGₕ => ?_
    obtain ⟨c3, o, vs, t, e1, e2, e3, e4⟩ := hr
    refine hGₕ ?_
    cases e1
    refine hide fun Gₕ hGₕ => ?_
    obtain ⟨P', _, _, ⟨o2, _, g1, g2, _⟩, _⟩ := hx
    refine hGₕ ?_
    rw [e2] at g1
    cases g1
    have hr' : CRk Kn h' c' qual := ⟨o, vs, t, e2, e3, e4, hKn _ _ (none_of_ge h1), g2⟩
    exact hQ c' h' tk he (tab_grow hi ht hd hap q he hi' ht' hr') hr'
  · exact wpAny_functionCode_hit hc hi q (hQ c' s.heap s.toks (fun b o _ e => e) hT r)
/-- the code of a def that holds a class: its table, and the class's -/
noncomputable def KT (Kn : Addr → Obj → Prop) (X : Addr → Prop) (h : Heap) (c0 P0 : Addr) (pos : Pos) (ents : List (Pos × Str)) : Prop :=
  ∃ ps, h.IsCode c0 P0 ps ∧ h.TableAt c0 P0 ps ∧ (codeAmong pos ps.toList = none ∨ ∃ cc P, codeAmong pos ps.toList = some (.ref cc) ∧ TabOK Kn h cc P ents ∧ X P ∧ P ≠ P0)
theorem KT.keeps {X : Addr → Prop} {h h' : Heap} {c0 P0 : Addr} {pos : Pos} (x : KT Kn X h c0 P0 pos ents) (k : ∀ b o, h.get? b = some o → h'.get? b = some o) : KT Kn X h' c0 P0 pos ents := by
  refine hide fun Gₕ hGₕ => ?_
  obtain ⟨ps, a, b, q⟩ := x
  refine hGₕ ?_
  refine ⟨ps, a.keeps k, b.keeps k, ?_⟩
  rcases q with q | ⟨cc, P, q, r, u, v⟩
  · exact .inl q
  · exact .inr ⟨cc, P, q, r.keeps k, u, v⟩
theorem ccode {X : Addr → Prop} {c0 P0 : Addr} {pos : Pos} {firstLine : Nat} {name qual : Str} {scope : Scope} {Q : Value → Shared → Prop} (hc : env.code = .ref c0) (hT : KT Kn X s.heap c0 P0 pos ents)
    (hQ : ∀ cc P h' tk, Heap.ExtBut P0 s.heap h' → TabOK Kn h' cc P ents → (X P ∨ s.heap.get? P = none) → P ≠ P0 → (∃ ps, h'.IsCode c0 P0 ps ∧ h'.TableAt c0 P0 ps ∧ codeAmong pos ps.toList = some (.ref cc)) → Q (.ref cc) { s with heap := h', toks := tk }) :
    wpAny M A (classCode env pos firstLine name qual scope) Q E s := by
  refine hide fun Gₕ hGₕ => ?_
  obtain ⟨ps, hok, htab, hd⟩ := id hT
  refine hGₕ ?_
  rcases hd with hnf | ⟨cc, P, q, r, u, v⟩
  · obtain ⟨o, vs, file, tf, flags, tg, inF, text, tt, op, ho, hd, h11, h2, h7, h9, h10, hop, hpd, htr, hne⟩ := id hok
    unfold classCode codeAt
    rw [hc, if_neg (show ¬ ((Value.ref c0 == Value.none) = true) from Bool.false_ne_true)]
    refine wpAny_bind (wpAny_fieldsOf ho hd ?_)
    rw [h11]
    refine wpAny_bind (wpAny_fieldsOf hop hpd ?_)
    rw [hnf, h2, h7, h9, h10]
    refine wpAny_bind (wpAny_newCodeX fun c' P' h' tk hk hc' hP' hcode' htab' _ => ?_)
    have hop' := hk _ _ hop
    refine wpAny_bind (wpAny_updateFieldsOfTheText hop' hpd ?_)
    have hnew : (Obj.mapFields (fun vs => if (codeAmong pos vs.toList).isSome = true then vs else vs ++ #[rawInt pos.line, rawInt pos.col, .ref c']) op).data =
        .fields (ps ++ #[rawInt pos.line, rawInt pos.col, .ref c']) := by
      rw [Obj.data_mapFields hpd, hnf]; rfl
    have hget := Heap.get?_update_self (h := h') (fun o => Obj.mapFields (fun vs => if (codeAmong pos vs.toList).isSome = true then vs else
      vs ++ #[rawInt pos.line, rawInt pos.col, .ref c']) o) hop' (Obj.isFreed_of_fields hnew)
    refine wpAny_bind (wpAny_fieldsOf hget hnew ?_)
    have hl : (ps ++ #[rawInt pos.line, rawInt pos.col, Value.ref c']).toList = ps.toList ++ [rawInt pos.line, rawInt pos.col, .ref c'] := by simp
    rw [hl, codeAmong_snoc _ htr hnf]
    have hcP : c' ≠ P0 := Nat.ne_of_gt (Nat.lt_of_lt_of_le (Heap.lt_size hop) hc')
    have hPP : P' ≠ P0 := Nat.ne_of_gt (Nat.lt_of_lt_of_le (Heap.lt_size hop) hP')
    refine wpAny_pure (hQ c' P' _ _ (fun b o' hb e => ((Heap.SameBut.update ..).extBut b o' hb (hk b o' e))) ⟨#[], hcode'.extBut (Heap.SameBut.update ..).extBut hcP hPP, htab'.extBut (Heap.SameBut.update ..).extBut hcP hPP, fun e _ => .inl rfl⟩ (.inr (none_of_ge hP')) hPP ?_)
    refine ⟨ps ++ #[rawInt pos.line, rawInt pos.col, .ref c'], ?_, ?_, by rw [hl, codeAmong_snoc _ htr hnf]⟩
    · exact ⟨o, vs, file, tf, flags, tg, inF, text, tt, _, (Heap.SameBut.update ..).extBut _ _ hne (hk _ _ ho), hd, h11, h2, h7, h9, h10, hget, hnew, by rw [hl]; exact TriplesOk_snoc _ _ _ _ htr, hne⟩
    · obtain ⟨⟨oc, vc, hoc, hcc, hdc, h11c⟩, htP⟩ := htab
      have e1 : op = { cls := .none, data := .fields ps } := Option.some.inj (hop.symm.trans htP)
      refine ⟨⟨oc, vc, (Heap.SameBut.update ..).extBut _ _ hne (hk _ _ hoc), hcc, hdc, h11c⟩, ?_⟩
      rw [hget, e1]
      simp only [Obj.mapFields, hnf]
      rfl
  · exact wpAny_codeAt_hit hc hok q (hQ cc P s.heap s.toks (fun b o _ e => e) r (.inl u) v ⟨ps, hok, htab, q⟩)
theorem TabOK.mono {Kn Kn' : Addr → Obj → Prop} {h : Heap} (x : TabOK Kn h c P ents) (k : ∀ c o, h.get? c = some o → o.cls = .type "code" → Kn c o → Kn' c o) : TabOK Kn' h c P ents := by
  refine hide fun Gₕ hGₕ => ?_
  obtain ⟨ps, a, b, d⟩ := x
  refine hGₕ ?_
  refine ⟨ps, a, b, fun e he => ?_⟩
  rcases d e he with q | ⟨c', q, o, vs, t, r1, r2, r3, r4, r5⟩
  · exact .inl q
  · exact .inr ⟨c', q, o, vs, t, r1, r2, r3, k _ _ r1 r5 r4, r5⟩
theorem KT.mono {Kn Kn' : Addr → Obj → Prop} {X : Addr → Prop} {h : Heap} {c0 P0 : Addr} {pos : Pos} (x : KT Kn X h c0 P0 pos ents) (k : ∀ c o, h.get? c = some o → o.cls = .type "code" → Kn c o → Kn' c o) : KT Kn' X h c0 P0 pos ents := by
  refine hide fun Gₕ hGₕ => ?_
  obtain ⟨ps, a, b, q⟩ := x
  refine hGₕ ?_
  refine ⟨ps, a, b, ?_⟩
  rcases q with q | ⟨cc, P, q, r, u, v⟩
  · exact .inl q
  · exact .inr ⟨cc, P, q, r.mono k, u, v⟩
end
end
section
open PySem PySem.W PySem.W.X PyProof.Rows Builtin
set_option maxRecDepth 100000
set_option maxHeartbeats 4000000
section
variable {w : World} {A : Around} {E : Value → Shared → Prop} {s : Shared}
theorem bfor {Q : Addr → Shared → Prop} (X : (K2 w.params).In s.heap) (hk4 : K4 s.heap) (hq : Q builtinsNs s) : wpAny (model PG w) A (builtinsFor mainGlobals builtinsNs) Q E s := by
  obtain ⟨⟨⟨cls, dict, data, sl⟩, h4, c1, c2, c3⟩, _⟩ := hk4
  simp only at c1 c2 c3
  subst c1 c2 c3
  unfold builtinsFor
  refine wpAny_bind (looks_nsIn X (show nsIn (K2 w.params) mainGlobals "__builtins__" = some (some (.ref 4)) by kernel_rfl) _ _ _ _ (fun _ _ e => e) ?_)
  refine if_no rfl ?_
  refine wpAny_bind (wpAny_load h4 ?_)
  exact wpAny_pure hq
theorem gname {Q : Option Value → Shared → Prop} (X : (K2 w.params).In s.heap) (hq : Q (some (.str "law_oh0021_01" 287)) s) : wpAny (model PG w) A (nsGet mainGlobals "__name__") Q E s :=
  looks_nsIn X (show nsIn (K2 w.params) mainGlobals "__name__" = some (some (.str "law_oh0021_01" 287)) by kernel_rfl) _ _ _ _ (fun _ _ e => e) hq
/-- a def within the class's body -/
theorem mkfn {Kn : Addr → Obj → Prop} {name qual : Str} {params : Arguments} {body : List Stmt} {scope : Scope} {env : Env} {c P : Addr} {ents : List (Pos × Str)} {pos : Pos} {firstLine : Nat} {clos : List (Str × Addr)} {Q : Value → Shared → Prop}
    (X : (K2 w.params).In s.heap) (hPK : ∀ a o, (K2 w.params).lookup a = some o → a ≠ P) (hk4 : K4 s.heap) (hP4 : (4 : Addr) ≠ P ∧ (1 : Addr) ≠ P) (hcl : closureFor scope env = pure clos) (hg0 : env.globals = mainGlobals) (hb0 : env.builtins = builtinsNs) (hcode : env.code = .ref c) (hT : TabOK Kn s.heap c P ents) (hm : (pos, qual) ∈ ents)
    (hap : ∀ e ∈ ents, (e.1.line = pos.line ∧ e.1.col = pos.col) → e = (pos, qual)) (hdoc : docOf body = none) (hKn : ∀ c o, s.heap.get? c = none → Kn c o)
    (h : ∀ f ctv cv h' tk, Heap.ExtBut P s.heap h' → h'.get? f = some ⟨.type "function", none, .func (fnX name qual params body scope clos .none .none .none (.str "law_oh0021_01" 287) none (.ref cv) ctv), #[]⟩ → s.heap.get? f = none → TabOK Kn h' c P ents → CRk Kn h' cv qual → Q (.ref f) { s with heap := h', toks := tk }) :
    wpAny (model PG w) A (makeFunction name qual params (.stmts body) scope env [] [] [] pos firstLine) Q E s := by
  rw [makeFunction_eq]
  simp only [List.zip_nil_right, List.filterMap_nil, List.isEmpty_nil, if_true, pure_bind]
  unfold makeTail
  rw [hcl, hg0, hb0]
  refine wpAny_bind (wpAny_pure ?_)
  have fin : ∀ {s' : Shared} {ctv : Value}, (∀ b o, s.heap.get? b = some o → s'.heap.get? b = some o) → s'.gens = s.gens → s'.drawn = s.drawn → s'.os = s.os →
      wpAny (model PG w) A (functionCode env pos firstLine name qual params scope (.stmts body) >>= fun code => builtinsFor mainGlobals builtinsNs >>= fun b => nsGet mainGlobals "__name__" >>= fun nm =>
        (match docOf body with | some s => mkText s | none => pure Value.none) >>= fun doc =>
        newObj (.type "function") (.func { name, qualname := qual, params, body := .stmts body, scope, globals := mainGlobals, closure := clos, closureTuple := ctv, code, builtins := b, defaults := .none, kwdefaults := .none, annotations := none, pyModule := nm.getD .none, doc })) Q E s' := fun {s'} {ctv} k e1 e2 e3 => by
    refine wpAny_bind (fcode hcode (hT.keeps k) hm hap (fun c o e => hKn c o (by
      cases q : s.heap.get? c with
      | none => rfl
      | some o' => rw [k _ _ q] at e; cases e)) fun c' h' tk he hT' hr => ?_)
    have X' : (K2 w.params).In h' := fun a o e => he a o (hPK a o e) (k a o (X a o e))
    have K' : K4 h' := hk4.keep fun a o ha e => he a o (by rcases ha with rfl | rfl; exact hP4.1; exact hP4.2) (k a o e)
    refine wpAny_bind (bfor (s := { s' with heap := h', toks := tk }) X' K' (wpAny_bind (gname (s := { s' with heap := h', toks := tk }) X' ?_)))
    rw [hdoc]
    refine wpAny_bind (wpAny_pure (wpAny_newObj_type ?_ (by size_fits)))
    have hsz : s.heap.get? h'.objs.size = none := by
      cases q : s.heap.get? h'.objs.size with
      | none => rfl
      | some o =>
        by_cases z : h'.objs.size = P
        · obtain ⟨ps, hp⟩ := hT'.tab
          rw [← z, get?_size] at hp; cases hp
        · have := he _ _ z (k _ _ q)
          rw [get?_size] at this; cases this
    have z := h h'.objs.size ctv c' (h'.push ⟨.type "function", none, .func (fnX name qual params body scope clos .none .none .none (.str "law_oh0021_01" 287) none (.ref c') ctv), #[]⟩) tk (fun b o hb e => Heap.get?_push_of_some _ (he b o hb (k b o e))) (Heap.get?_push_size _ rfl) hsz (hT'.keeps fun b o e => Heap.get?_push_of_some _ e) (hr.keeps fun b o e => Heap.get?_push_of_some _ e)
    obtain ⟨sh, sg, sd, stk, so⟩ := s'
    subst e1 e2 e3
    exact z
  cases clos with
  | nil =>
    simp only [List.isEmpty_nil, if_true]
    refine wpAny_bind (wpAny_pure ?_)
    exact fin (s' := s) (fun _ _ e => e) rfl rfl rfl
  | cons q r =>
    simp only [List.isEmpty_cons, Bool.false_eq_true, if_false]
    refine wpAny_bind (wpAny_newTextTuple ?_)
    exact fin (fun b o e => Heap.get?_push_of_some _ e) rfl rfl rfl
end
end
section
open PySem PySem.W PySem.W.X PyProof.Rows Builtin
set_option maxRecDepth 100000
set_option maxHeartbeats 4000000
noncomputable abbrev dObj (es : Array DictEntry) (n : Nat) : Obj := ⟨.type "dict", none, .dict es n, #[]⟩
structure CB (hB : Heap) (Kn : Addr → Obj → Prop) (X : Addr → Prop) (h0 : Heap) (c P ns : Addr) (ents : List (Pos × Str)) (es : Array DictEntry) (n : Nat) (news : List (Addr × Obj)) (cs : List (Addr × Str)) (h : Heap) : Prop where
  mm : Mm h0 h X ((ns, dObj es n) :: news)
  tab : TabOK Kn h c P ents
  crs : ∀ p ∈ cs, CRk Kn h p.1 p.2
  cls : (news.all fun p => p.2.cls != .none) = true
  base : ∀ b o, b ≠ ns → b ≠ P → hB.get? b = some o → h.get? b = some o
section
variable {w : World} {A : Around} {E : Value → Shared → Prop} {hB : Heap} {Kn : Addr → Obj → Prop} {X : Addr → Prop} {h0 h : Heap} {c P ns : Addr} {ents : List (Pos × Str)} {es : Array DictEntry} {n : Nat} {news : List (Addr × Obj)} {cs : List (Addr × Str)}
  {g : Array GenState} {d : Drawn} {t : Nat} {os : OsState} {cenv : Env}
theorem CB.store (C : CB hB Kn X h0 c P ns ents es n news cs h) {x : Str} {v : Value} {Q : Unit → Shared → Prop} (es' : Int → Tok → Array DictEntry) (n' : Nat) (hl : cenv.locals = ns) (hst : storeName cenv x v = localSet cenv x v) (hr : aRefKeyMayBeTheName x es = false)
    (he : ∀ hx tk, Obj.putName x hx (.str x tk) v (dObj es n) = dObj (es' hx tk) n')
    (k : ∀ hx tk h', CB hB Kn X h0 c P ns ents (es' hx tk) n' news cs h' → Q () ⟨h', g, d, t + 1, os⟩) : wpAny (model PG w) A (storeName cenv x v) Q E ⟨h, g, d, t, os⟩ := by
  have h1 := C.mm.at 0 rfl
  rw [hst]
  unfold localSet
  rw [hl]
  refine wpAny_bind (wpAny_load' h1 ?_)
  refine if_yes rfl ?_
  unfold nsSet
  refine wpAny_bind (m_strHash fun hx => wpAny_bind ?_)
  unfold mkText
  refine wpAny_bind (wpAny_fresh' (wpAny_pure (wpAny_bind (wpAny_loadPart' h1 ?_))))
  refine if_no hr ?_
  refine wpAny_updatePart h1 ?_
  have D := C.mm.upd (i := 0) rfl (he hx t) rfl
  have hs : ∀ b o, b ≠ ns → h.get? b = some o → (h.update ns (Obj.putName x hx (.str x t) v)).get? b = some o := fun b o hb e => ((Heap.SameBut.update ..).2 b hb).trans e
  have hna : ∀ vs, (dObj es n).data ≠ .fields vs := fun vs z => by cases z
  exact k hx t _ ⟨D, C.tab.but hs h1 hna, fun p hp => (C.crs p hp).but hs h1 hna, C.cls, fun b o hn hp e => hs b o hn (C.base b o hn hp e)⟩
theorem CB.kin (C : CB hB Kn X h0 c P ns ents es n news cs h) (X0 : (K2 w.params).In h0) (hKX : ∀ a o, (K2 w.params).lookup a = some o → ¬ X a) : (K2 w.params).In h := fun a o e => C.mm.keep a o (hKX a o e) (X0 a o e)
/-- a new object -/
theorem CB.new (C : CB hB Kn X h0 c P ns ents es n news cs h) {o : Obj} (hf : o.isFreed = false) (hc : (o.cls != .none) = true) : CB hB Kn X h0 c P ns ents es n ((h.objs.size, o) :: news) cs (h.push o) := by
  have k : ∀ b p, h.get? b = some p → (h.push o).get? b = some p := fun b p e => Heap.get?_push_of_some _ e
  have D := C.mm.alloc hf
  refine ⟨⟨D.keep, D.dom, fun p hp => D.nw p ?_, ?_⟩, C.tab.keeps k, fun p hp => (C.crs p hp).keeps k, ?_, fun b o hn hp e => k b o (C.base b o hn hp e)⟩
  · rcases List.mem_cons.mp hp with rfl | hp
    · exact List.mem_cons_of_mem _ List.mem_cons_self
    · rcases List.mem_cons.mp hp with rfl | hp
      · exact List.mem_cons_self
      · exact List.mem_cons_of_mem _ (List.mem_cons_of_mem _ hp)
  · have := D.nd
    simp only [List.map_cons, List.nodup_cons, List.mem_cons, not_or] at this ⊢
    exact ⟨⟨fun e => this.1.1 e.symm, this.2.1⟩, this.1.2, this.2.2⟩
  · rw [List.all_cons, hc, C.cls]; rfl
/-- a def in the class's body -/
theorem CB.def (C : CB hB Kn X h0 c P ns ents es n news cs h) (X0 : (K2 w.params).In h0) (hKX : ∀ a o, (K2 w.params).lookup a = some o → ¬ X a) (hk4 : K4 h0) (hX4 : ¬ X 4 ∧ ¬ X 1) (hKP : ∀ a o, (K2 w.params).lookup a = some o → a ≠ P) (hXP : X P ∨ h0.get? P = none) (hKn : ∀ c o, h0.get? c = none → Kn c o)
    {name : Str} {params : Arguments} {body : List Stmt} {scope : Scope} {pos : Pos} {clos : List (Str × Addr)} {Q : Flow → Shared → Prop} (es' : Int → Tok → Addr → Array DictEntry) (n' : Nat)
    (hd0 : params.defaults = []) (hk0 : params.kw_defaults = []) (ha : annTrees params none cenv = [])
    (hl : cenv.locals = ns) (hst : ∀ v, storeName cenv name v = localSet cenv name v) (hr : aRefKeyMayBeTheName name es = false)
    (he : ∀ hx tk f, Obj.putName name hx (.str name tk) (.ref f) (dObj es n) = dObj (es' hx tk f) n')
    (hcl : closureFor scope cenv = pure clos) (hg0 : cenv.globals = mainGlobals) (hb0 : cenv.builtins = builtinsNs) (hcode : cenv.code = .ref c) (hm : (pos, qualnameIn cenv name name) ∈ ents)
    (hap : ∀ e ∈ ents, (e.1.line = pos.line ∧ e.1.col = pos.col) → e = (pos, qualnameIn cenv name name)) (hdoc : docOf body = none)
    (k : ∀ hx tk f cv ctv h' t', CB hB Kn X h0 c P ns ents (es' hx tk f) n' ((f, ⟨.type "function", none, .func (fnX name (qualnameIn cenv name name) params body scope clos .none .none .none (.str "law_oh0021_01" 287) none (.ref cv) ctv), #[]⟩) :: news) ((cv, qualnameIn cenv name name) :: cs) h' → Q .next ⟨h', g, d, t', os⟩) :
    wpAny (model PG w) A (exec (.FunctionDef name params body [] none [] scope none name pos) cenv) Q E ⟨h, g, d, t, os⟩ := by
  have kh : K4 h := hk4.keep fun a o ha e => C.mm.keep a o (by rcases ha with rfl | rfl; exact hX4.1; exact hX4.2) e
  have hP4 : (4 : Addr) ≠ P ∧ (1 : Addr) ≠ P := by
    refine ⟨fun z => ?_, fun z => ?_⟩
    · rcases hXP with q | q
      · exact hX4.1 (z ▸ q)
      · obtain ⟨⟨o, e, _⟩, _⟩ := hk4
        rw [← z, e] at q; cases q
    · rcases hXP with q | q
      · exact hX4.2 (z ▸ q)
      · obtain ⟨_, o, e, _⟩ := hk4
        rw [← z, e] at q; cases q
  refine nestDef_K hd0 hk0 ha (mkfn (s := ⟨h, g, d, t, os⟩) (C.kin X0 hKX) hKP kh hP4 hcl hg0 hb0 hcode C.tab hm hap hdoc (fun c o e => hKn c o ?_) fun f ctv cv h' tk hx hf hfn hT hr' => ?_)
  · cases q : h0.get? c with
    | none => rfl
    | some o' => obtain ⟨o2, h2⟩ := C.mm.dom _ _ q; rw [show h.get? c = none from e] at h2; cases h2
  · obtain ⟨ps, hP⟩ := C.tab.tab
    obtain ⟨ps', hP'⟩ := hT.tab
    have D1 : Mm h0 h' X ((ns, dObj es n) :: news) := C.mm.ext hP hXP hx ⟨_, hP'⟩ (by rw [List.all_cons, C.cls]; rfl)
    have hfn' : h.get? f = none := hfn
    have D2 : Mm h0 h' X ((ns, dObj es n) :: (f, ⟨.type "function", none, .func (fnX name (qualnameIn cenv name name) params body scope clos .none .none .none (.str "law_oh0021_01" 287) none (.ref cv) ctv), #[]⟩) :: news) := by
      have hf0 : h0.get? f = none := by
        cases q : h0.get? f with
        | none => rfl
        | some o' => obtain ⟨o2, h2⟩ := C.mm.dom _ _ q; rw [hfn'] at h2; cases h2
      have D3 := D1.more hf hf0 (fun p hp z => by have := (C.mm.nw p hp).1; rw [z, hfn'] at this; cases this)
      refine ⟨D3.keep, D3.dom, fun p hp => D3.nw p ?_, ?_⟩
      · rcases List.mem_cons.mp hp with rfl | hp
        · exact List.mem_cons_of_mem _ List.mem_cons_self
        · rcases List.mem_cons.mp hp with rfl | hp
          · exact List.mem_cons_self
          · exact List.mem_cons_of_mem _ (List.mem_cons_of_mem _ hp)
      · have := D3.nd
        simp only [List.map_cons, List.nodup_cons, List.mem_cons, not_or] at this ⊢
        exact ⟨⟨fun e => this.1.1 e.symm, this.2.1⟩, this.1.2, this.2.2⟩
    have crs : ∀ p ∈ (cv, qualnameIn cenv name name) :: cs, CRk Kn h' p.1 p.2 := fun p hp => by
      rcases List.mem_cons.mp hp with rfl | hp
      · exact hr'
      · obtain ⟨o, vs, tt, e1, e2, e3, e4⟩ := C.crs p hp
        refine ⟨o, vs, tt, hx _ _ (fun z => ?_) e1, e2, e3, e4⟩
        refine hide fun Gₕ hGₕ => ?_
        obtain ⟨ps2, hi2, ht2, _⟩ := C.tab
        refine hGₕ ?_
        have htr : TriplesOk ps2.toList := by obtain ⟨_, _, _, _, _, _, _, _, _, _, _, _, _, _, _, _, _, _, _, q, _⟩ := hi2; exact q
        rw [z, ht2.2] at e1
        cases e1
        cases e2
        exact triple1 htr _ _ (by simpa using e3)
    have C' : CB hB Kn X h0 c P ns ents es n ((f, ⟨.type "function", none, .func (fnX name (qualnameIn cenv name name) params body scope clos .none .none .none (.str "law_oh0021_01" 287) none (.ref cv) ctv), #[]⟩) :: news) ((cv, qualnameIn cenv name name) :: cs) h' := ⟨D2, hT, crs, by rw [List.all_cons, C.cls]; rfl, fun b o hn hp e => hx b o hp (C.base b o hn hp e)⟩
    exact C'.store (fun hx tk => es' hx tk f) n' hl (hst _) hr (fun hx tk => he hx tk f) fun hx2 tk2 h2 C2 => k hx2 tk2 f cv ctv h2 _ C2
end
end
section
open PySem PySem.W PySem.W.X PyProof.Rows Builtin
local macro_rules | `(tactic| heap_get) => do
  let D := Lean.mkIdent `D
  `(tactic| first | exact Mm.at $D 0 rfl | exact Mm.at $D 1 rfl | exact Mm.at $D 2 rfl | assumption)
local macro_rules | `(tactic| walk1) => do
  `(tactic| (first
  | with_reducible (first
      | refine wpAny_pure ?_ | refine wpAny_bind ?_ | refine wpAny_holding ?_ | refine wpAny_standAt ?_ | refine wpAny_point ?_ | refine wpAny_rule ?_
      | refine wpAny_mkInt' ?_ | refine wpAny_mkStr' ?_ | refine wpAny_fresh' ?_ | refine wpAny_attempt ?_ | refine wpAny_tryCatch ?_
      | (refine m_strHash ?_; intro hx) | refine wpAny_of_eq (by assumption) ?_)
  | ((with_reducible apply wpAny_load'); focus (heap_get; done))
  | ((with_reducible apply wpAny_loadPart'); focus (heap_get; done))
  | ((with_reducible refine wpAny_ite_false ?hf ?_); (case hf => kernel_rfl!))
  | ((with_reducible refine wpAny_ite_true ?hf ?_); (case hf => kernel_rfl!))
  | wp_delta
  | with_reducible_and_instances refine wpAny_pure ?_
  | with_reducible_and_instances refine wpAny_bind ?_))
section
open PySem PySem.W PySem.W.X PyProof.Rows Builtin
set_option maxRecDepth 100000
set_option maxHeartbeats 4000000
theorem Mm.memMore {h0 h h' : Heap} {X : Addr → Prop} {news : List (Addr × Obj)} {a : Addr} {o : Obj} (D : Mm h0 h X news) (M : Mem h h' [] [(a, o)]) : Mm h0 h' X ((a, o) :: news) := by
  have hn : h.get? a = none := (M.nw _ List.mem_cons_self).2
  refine (D.mem M).more (M.nw _ List.mem_cons_self).1 ?_ fun p hp z => ?_
  · cases q : h0.get? a with
    | none => rfl
    | some o' => obtain ⟨o2, h2⟩ := D.dom _ _ q; rw [hn] at h2; cases h2
  · have := (D.nw p hp).1
    rw [z, hn] at this; cases this
section
variable {w : World} {A : Around} {E : Value → Shared → Prop} {s : Shared} {u bT : Addr} {tk : Tok}
theorem tg_run {Q : Value → Shared → Prop}
    (hend : ∀ v h' t, Mem s.heap h' [] [(v, ⟨.type "builtin_function_or_method", none, .fields #[.builtin "type.__prepare__", .type "type"], #[]⟩)] → Q (.ref v) ⟨h', s.gens, s.drawn, t, s.os⟩) :
    wpAny (model PG w) A (call (.builtin "type.__getattribute__") [.type "type", .str "__prepare__" tk]) Q E s := by
  x_run
theorem pc_run {Q : Value → Shared → Prop} (hu : s.heap.get? u = some ⟨.type "builtin_function_or_method", none, .fields #[.builtin "type.__prepare__", .type "type"], #[]⟩)
    (hend : ∀ v h' t, Mem s.heap h' [] [(v, ⟨.type "dict", none, .dict #[] 0, #[]⟩)] → Q (.ref v) ⟨h', s.gens, s.drawn, t, s.os⟩) :
    wpAny (model PG w) A (call (.ref u) [.str "K" tk, .ref bT]) Q E s := by
  x_run
end
section
theorem prep_get {w : World} {A : Around} {E : Value → Shared → Prop} {h : Heap} {g : Array GenState} {d : Drawn} {t : Nat} {os : OsState} {Q : Option Value → Shared → Prop}
    (hend : ∀ v h' t', Mem h h' [] [(v, ⟨.type "builtin_function_or_method", none, .fields #[.builtin "type.__prepare__", .type "type"], #[]⟩)] → Q (some (.ref v)) ⟨h', g, d, t', os⟩) :
    wpAny (model PG w) A (getAttr? (.type "type") "__prepare__") Q E ⟨h, g, d, t, os⟩ := by
  have t1 : typeOf (.type "type") = pure (.type "type") := by kernel_rfl
  have l1 : typeLookup (.type "type") "__getattribute__" = pure (some (.builtin "type.__getattribute__")) := by rw [typeLookup_type, builtinLookup_eq_fast]; kernel_rfl
  have b1 : bindSpecial (.builtin "type.__getattribute__") (.type "type") = pure (.builtin "type.__getattribute__", [.type "type"]) := by kernel_rfl
  repeat walk1
  refine tg_run (s := ⟨h, g, d, _, os⟩) fun v h' t' D' => ?_
  repeat walk1
  exact hend v h' t' D'
end
end
section
open PySem PySem.W PySem.W.X PyProof.Rows Builtin
set_option maxRecDepth 100000
set_option maxHeartbeats 4000000
noncomputable def posK : Pos := ⟨41, 4, 62, 23⟩
noncomputable def entsK : List (Pos × Str) := [(⟨45, 8, 46, 26⟩, "cmp_to_key.<locals>.K.__init__"), (⟨48, 8, 49, 49⟩, "cmp_to_key.<locals>.K.__lt__"), (⟨51, 8, 52, 49⟩, "cmp_to_key.<locals>.K.__gt__"), (⟨54, 8, 55, 50⟩, "cmp_to_key.<locals>.K.__eq__"), (⟨57, 8, 58, 50⟩, "cmp_to_key.<locals>.K.__le__"), (⟨60, 8, 61, 50⟩, "cmp_to_key.<locals>.K.__ge__")]
/-- the tables of codes that may grow -/
noncomputable def TabX (g : PH) (s : Shared) : Addr → Prop := fun a => g a = none ∧ ∃ ps, s.heap.get? a = some (tabObj ps)
theorem bcg {w : World} {A : Around} {E : Value → Shared → Prop} {s : Shared} {env : Env} {Q : Unit → Shared → Prop} (hb : env.builtins = builtinsNs) (X : ∃ o, s.heap.get? builtinsNs = some o ∧ BObj o) (q : Q () s) : wpAny (model PG w) A (buildClassGuard env) Q E s := by
  unfold buildClassGuard
  rw [hb]
  obtain ⟨o, ho, _, m, hm, hn⟩ := X
  refine wpAny_bind (wpAny_nsGet (hn _ ho) ?_)
  rw [hm _ (by decide), show bootBuiltins "__build_class__" = some (.builtin "__build_class__") by kernel_rfl]
  exact wpAny_pure q
/-- the names laid ahead of the body -/
noncomputable abbrev e3 (H : Nat → Int) (T : Nat → Tok) : Array DictEntry := #[⟨H 0, .str "__module__" (T 0), .str "law_oh0021_01" 287⟩, ⟨H 1, .str "__qualname__" (T 2), .str "cmp_to_key.<locals>.K" (T 3)⟩, ⟨H 2, .str "__firstlineno__" (T 4), .int 41 (T 5)⟩]
/-- the names behind the body -/
noncomputable abbrev e11 (H : Nat → Int) (T : Nat → Tok) (sl : Addr) (F : Nat → Addr) : Array DictEntry :=
  #[⟨H 0, .str "__module__" (T 0), .str "cpy313.functools" (T 1)⟩, ⟨H 1, .str "__qualname__" (T 2), .str "cmp_to_key.<locals>.K" (T 3)⟩, ⟨H 2, .str "__firstlineno__" (T 4), .int 41 (T 5)⟩,
    ⟨H 3, .str "__slots__" (T 6), .ref sl⟩, ⟨H 4, .str "__init__" (T 7), .ref (F 1)⟩, ⟨H 5, .str "__lt__" (T 8), .ref (F 2)⟩, ⟨H 6, .str "__gt__" (T 9), .ref (F 3)⟩, ⟨H 7, .str "__eq__" (T 10), .ref (F 4)⟩,
    ⟨H 8, .str "__le__" (T 11), .ref (F 5)⟩, ⟨H 9, .str "__ge__" (T 12), .ref (F 6)⟩, ⟨H 10, .str "__hash__" (T 13), .none⟩]
noncomputable abbrev fnO (d : FuncData) : Obj := ⟨.type "function", none, .func d, #[]⟩
noncomputable abbrev lsO (t : Tok) : Obj := ⟨.type "list", none, .seq #[.str "obj" t] 0, #[]⟩
noncomputable abbrev nf7 (F : Nat → Addr) (Dt : Nat → FuncData) (sl : Addr) (tsl : Tok) (news : List (Addr × Obj)) : List (Addr × Obj) := (F 6, fnO (Dt 6)) :: (F 5, fnO (Dt 5)) :: (F 4, fnO (Dt 4)) :: (F 3, fnO (Dt 3)) :: (F 2, fnO (Dt 2)) :: (F 1, fnO (Dt 1)) :: (sl, lsO tsl) :: news
noncomputable abbrev cs6 (C : Nat → Addr) : List (Addr × Str) := [(C 6, "cmp_to_key.<locals>.K.__ge__"), (C 5, "cmp_to_key.<locals>.K.__le__"), (C 4, "cmp_to_key.<locals>.K.__eq__"), (C 3, "cmp_to_key.<locals>.K.__gt__"), (C 2, "cmp_to_key.<locals>.K.__lt__"), (C 1, "cmp_to_key.<locals>.K.__init__")]
/-- the environment of the class's body -/
noncomputable abbrev cEnv (scope : Scope) (nsA : Addr) (clos : List (Str × Addr)) (cc fr : Addr) : Env := { scope, locals := nsA, globals := mainGlobals, cells := clos, qual := "cmp_to_key.<locals>.K" ++ ".", code := .ref cc, frame := some fr, builtins := builtinsNs }
/-- what the body does -/
noncomputable def KBody (w : World) (A : Around) (Kn : Addr → Obj → Prop) (X : Addr → Prop) (h : Heap) (gn : Array GenState) (dr : Drawn) (os : OsState) (ents : List (Pos × Str)) (body : List Stmt) (scope : Scope) (clos : List (Str × Addr)) (Good : (Nat → FuncData) → (Nat → Addr) → Prop) : Prop :=
  ∀ (hB : Heap) (cc P nsA fr : Addr) (h' : Heap) (t' : Nat) (H : Nat → Int) (T : Nat → Tok) (news : List (Addr × Obj)) (Q' : Flow → Shared → Prop), (∀ a o, (K2 w.params).lookup a = some o → a ≠ P) → (X P ∨ h.get? P = none) →
    CB hB Kn X h cc P nsA ents (e3 H T) 3 news [] h' →
    (∀ H T sl F Dt C tsl h'' t'' n, Good Dt C → CB hB Kn X h cc P nsA ents (e11 H T sl F) n (nf7 F Dt sl tsl news) (cs6 C) h'' → Q' .next ⟨h'', gn, dr, t'', os⟩) →
    wpAny (model PG w) A (run (.body body (cEnv scope nsA clos cc fr))) Q' EF ⟨h', gn, dr, t', os⟩
theorem Mm.weak {h0 h : Heap} {X Y : Addr → Prop} {news : List (Addr × Obj)} (D : Mm h0 h X news) (k : ∀ a, X a → Y a) : Mm h0 h Y news := ⟨fun b o hy e => D.keep b o (fun hx => hy (k b hx)) e, D.dom, D.nw, D.nd⟩
theorem Mm.swap {h0 h : Heap} {X : Addr → Prop} {p q : Addr × Obj} {news : List (Addr × Obj)} (D : Mm h0 h X (p :: q :: news)) : Mm h0 h X (q :: p :: news) := by
  refine ⟨D.keep, D.dom, fun r hr => D.nw r ?_, ?_⟩
  · rcases List.mem_cons.mp hr with rfl | hr
    · exact List.mem_cons_of_mem _ List.mem_cons_self
    · rcases List.mem_cons.mp hr with rfl | hr
      · exact List.mem_cons_self
      · exact List.mem_cons_of_mem _ (List.mem_cons_of_mem _ hr)
  · have := D.nd
    simp only [List.map_cons, List.nodup_cons, List.mem_cons, not_or] at this ⊢
    exact ⟨⟨fun e => this.1.1 e.symm, this.2.1⟩, this.1.2, this.2.2⟩
/-- the class has been made -/
noncomputable def KMade (Kn : Addr → Obj → Prop) (X : Addr → Prop) (h h' : Heap) (pos : Pos) (ents : List (Pos × Str)) (Good : (Nat → FuncData) → (Nat → Addr) → Prop) (a : Addr) : Prop :=
  ∃ (ns md nsA sa sl bT cc P : Addr) (F : Nat → Addr) (Dt : Nat → FuncData) (C : Nat → Addr) (H : Nat → Int) (T : Nat → Tok) (hx1 hx2 : Int) (u1 u2 u3 tk tsl : Tok) (od os1 : Obj) (rest : List (Addr × Obj)), Good Dt C ∧
    Mm h h' X ((a, kObj (kCD [.ref a, .type "object"] ns false ["obj"]) #[some (.ref bT), none, some (.str "K" tk), some (.str "cmp_to_key.<locals>.K" (T 3)), some (.builtin "object.__new__"), some (.bool false)]) ::
      (ns, dObj (kNs H T sl (F 1) (F 2) (F 3) (F 4) (F 5) (F 6) sa [⟨hx1, .str "obj" u1, .ref md⟩, ⟨hx2, .str "__doc__" u2, .none⟩]) 3) ::
      (md, ⟨.type "member_descriptor", none, .fields #[.str "obj" u3, .ref a, .builtin "proto.slot", .builtin "proto.slot#set", rawInt 0], #[]⟩) :: (nsA, od) :: (sa, os1) :: nf7 F Dt sl tsl rest) ∧
    (∀ p ∈ cs6 C, CRk Kn h' p.1 p.2) ∧ TabOK Kn h' cc P ents ∧ (X P ∨ h.get? P = none) ∧ P ≠ 44 ∧ ∃ ps, h'.IsCode 48 44 ps ∧ h'.TableAt 48 44 ps ∧ codeAmong pos ps.toList = some (.ref cc)
theorem Mm.more' {h0 h h1 : Heap} {X : Addr → Prop} {news : List (Addr × Obj)} {a : Addr} {o : Obj} (D : Mm h0 h1 X news) (ha : h1.get? a = some o) (d : ∀ b p, h0.get? b = some p → ∃ q, h.get? b = some q) (hn : h.get? a = none) (hw : ∀ p ∈ news, p.1 ≠ a) : Mm h0 h1 X ((a, o) :: news) := by
  refine D.more ha ?_ hw
  cases q : h0.get? a with
  | none => rfl
  | some o' => obtain ⟨o2, h2⟩ := d _ _ q; rw [hn] at h2; cases h2
end
section
open PySem PySem.W PySem.W.X PyProof.Rows Builtin
set_option maxRecDepth 100000
set_option maxHeartbeats 4000000
theorem cls_st {cenv : Env} {x : Str} {v : Value} (hk : cenv.scope.kind = .class) (hx : cenv.kindOf x = some .local ∨ (cenv.kindOf x = none ∧ compilersOwnNames.contains x = true)) : storeName cenv x v = localSet cenv x v := by
  unfold storeName
  rcases hx with hx | ⟨hx, hc⟩
  · simp only [hx, hk]
    rfl
  · simp only [hx, hk, hc, Env.blockKind]
    rfl
theorem cls_ldname {w : World} {A : Around} {E : Value → Shared → Prop} {h : Heap} {g : Array GenState} {d : Drawn} {t : Nat} {os : OsState} {cenv : Env} {ns : Addr} {Q : Value → Shared → Prop} (hk : cenv.scope.kind = .class) (hx : cenv.kindOf "__name__" = none) (hl : cenv.locals = ns) (hg : cenv.globals = mainGlobals)
    (hn : h.get? ns = some (dObj #[] 0)) (X : (K2 w.params).In h) (q : Q (.str "law_oh0021_01" 287) ⟨h, g, d, t, os⟩) : wpAny (model PG w) A (loadName cenv "__name__") Q E ⟨h, g, d, t, os⟩ := by
  unfold loadName
  simp only [hk, hx, Env.blockKind, ScopeKind.isAnnotationScope, Bool.false_and, Bool.false_eq_true, if_false]
  refine if_no (by kernel_rfl!) ?_
  refine wpAny_bind ?_
  unfold localGet
  rw [hl]
  refine wpAny_bind (wpAny_load' hn ?_)
  refine if_yes rfl ?_
  unfold nsGet
  refine wpAny_bind (wpAny_loadPart' hn ?_)
  refine wpAny_of_eq (a := none) (by kernel_rfl!) ?_
  unfold loadGlobal
  rw [hg]
  exact wpAny_bind (gname (s := ⟨h, g, d, t, os⟩) X (wpAny_pure q))
end
section
open PySem PySem.W PySem.W.X PyProof.Rows Builtin
set_option maxRecDepth 100000
set_option maxHeartbeats 4000000
set_option linter.unusedVariables false
section
noncomputable def BcT : Prop := ∀ (w : World) (A : Around) (Q : Value → Shared → Prop) (Kn : Addr → Obj → Prop) (X : Addr → Prop) (h : Heap) (gn : Array GenState) (dr : Drawn) (t : Nat) (os : OsState)
    (nm qual : Str) (given : List Value) (kw : List (Str × Value)) (body : List Stmt) (scope : Scope) (statics : List Str) (fl : Nat) (env : Env) (pos : Pos) (clos : List (Str × Addr)) (ents : List (Pos × Str)) (Good : (Nat → FuncData) → (Nat → Addr) → Prop)
    (e1 : nm = "K") (e2 : qual = "cmp_to_key.<locals>.K") (e3 : given = [.type "object"]) (e4 : kw = []) (e5 : statics = [("obj" : Str)]) (e6 : fl = 41)
    (hg0 : env.globals = mainGlobals) (hb0 : env.builtins = builtinsNs) (hcode : env.code = .ref 48) (hsk : scope.kind = .class) (hs1 : (scope.names.lookup ("__class__" : Str) == some NameKind.cell) = false) (hs2 : (scope.names.lookup ("__classdict__" : Str) == some NameKind.cell) = false) (hcl : closureFor scope env = pure clos)
    (hn1 : scope.names.lookup ("__module__" : Str) = some .local) (hn2 : scope.names.lookup ("__qualname__" : Str) = none) (hn3 : scope.names.lookup ("__firstlineno__" : Str) = none) (hn4 : scope.names.lookup ("__static_attributes__" : Str) = none) (hn5 : scope.names.lookup ("__name__" : Str) = none)
    (hdp : A.depth < recursionLimit)
    (X0 : (K2 w.params).In h) (hKX : ∀ a o, (K2 w.params).lookup a = some o → ¬ X a) (hk4 : K4 h) (hX4 : ¬ X 4 ∧ ¬ X 1) (hT : KT Kn X h 48 44 pos ents) (hX44 : X 44) (hKn : ∀ c o, h.get? c = none → Kn c o) (hbody : KBody w A Kn X h gn dr os ents body scope clos Good)
    (hend : ∀ a h' t', KMade Kn X h h' pos ents Good a → Q (.ref a) ⟨h', gn, dr, t', os⟩), wpAny (model PG w) A (buildClass nm qual given kw body scope statics fl env pos none) Q EF ⟨h, gn, dr, t, os⟩
noncomputable def bcA : PSigma fun P : Prop => Hid P → BcT := by
  apply PSigma.mk
  intro hP
  intro w A Q Kn X h gn dr t os nm qual given kw body scope statics fl env pos clos ents Good e1 e2 e3 e4 e5 e6 hg0 hb0 hcode hsk hs1 hs2 hcl hn1 hn2 hn3 hn4 hn5 hdp X0 hKX hk4 hX4 hT hX44 hKn hbody hend
  subst e1 e2 e3 e4 e5 e6
  obtain ⟨esc, elo, egl, ece, equ, efn, ecd, efr, ebl⟩ := env
  simp only at hg0 hb0 hcode
  subst hg0 hb0 hcode
  have D := Mm.start h (fun _ => False)
  have t0 : typeOf (.type "object") = pure (.type "type") := by kernel_rfl
  have i1 : isSubtype (.type "type") (.type "type") = pure true := by rw [isSubtype_type]; kernel_rfl
  have l1 : typeLookup (.type "dict") "__getitem__" = pure (some (.builtin "dict.__getitem__")) := by rw [typeLookup_type, builtinLookup_eq_fast]; kernel_rfl
  unfold buildClass
  repeat walk1
  refine n_alloc ⟨.type "tuple", none, .seq #[.type "object"] 0, #[]⟩ D (by kernel_rfl!) rfl ?_
  clear D; intro bT hN D
  repeat ((fail_if_success (with_reducible show wpAny _ _ (getAttr? _ _) _ _ _)); walk1)
  refine prep_get fun v h1 t1 M1 => ?_
  have hv := Mem.at M1 0 _ _ rfl
  replace D := D.mem M1
  repeat walk1
  refine pc_run (s := ⟨h1, gn, dr, t1, os⟩) hv fun nsA h2 t2 M2 => ?_
  replace D := D.memMore M2
  have hnm : (nsA == sysModules) = false := by
    cases q : nsA == sysModules with
    | false => rfl
    | true =>
      have : nsA = sysModules := by simpa using q
      have h0 := D.off 0 rfl
      obtain ⟨_, o1, hk, _⟩ := hk4
      rw [this] at h0
      exact nomatch (show none = some o1 from h0.symm.trans hk)
  repeat ((fail_if_success (with_reducible show wpAny _ _ (classCode _ _ _ _ _ _) _ _ _)); first | (with_reducible refine if_no hs1 ?_) | (with_reducible refine if_no hs2 ?_) | walk1 | rw [hnm])
  clear M1 M2 hv
  revert w A Q Kn X h gn dr t os body scope pos clos ents Good hsk hs1 hs2 hn1 hn2 hn3 hn4 hn5 hdp X0 hKX hk4 hX4 hT hX44 hKn hbody hend esc elo ece equ efn efr hcl t0 i1 l1 bT hN v h1 t1 nsA h2 t2 D hnm
  exact hP.out
theorem bcB : bcA.1 := by
  intro w A Q Kn X h gn dr t os body scope pos clos ents Good hsk hs1 hs2 hn1 hn2 hn3 hn4 hn5 hdp X0 hKX hk4 hX4 hT hX44 hKn hbody hend esc elo ece equ efn efr hcl t0 i1 l1 bT hN v h1 t1 nsA h2 t2 D hnm
  have k2 : ∀ b o, h.get? b = some o → h2.get? b = some o := fun b o e => D.keep b o (fun z => z) e
  refine ccode rfl (hT.keeps k2) fun cc P h3 t3 he hTab hXP hne hps => ?_
  have hXP' : X P ∨ h.get? P = none := by
    rcases hXP with q | q
    · exact .inl q
    · refine .inr ?_
      have q' : h2.get? P = none := q
      cases z : h.get? P with
      | none => rfl
      | some o => have y := k2 P o z; rw [q'] at y; cases y
  obtain ⟨ps0, hp1, hp2, hp3⟩ := hps
  obtain ⟨ps, hi0, ht0, _⟩ := hT
  have h44 := k2 _ _ ht0.2
  replace D : Mm h h3 X _ := (D.weak (Y := X) fun _ z => z.elim).ext h44 (.inl hX44) he ⟨_, hp2.2⟩ rfl
  have X3 : (K2 w.params).In h3 := fun a o e => D.keep a o (hKX a o e) (X0 a o e)
  have K3 : K4 h3 := hk4.keep fun a o ha e => D.keep a o (by rcases ha with rfl | rfl; exact hX4.1; exact hX4.2) e
  have hKP : ∀ a o, (K2 w.params).lookup a = some o → a ≠ P := fun a o e z => by
    subst z
    rcases hXP' with q | q
    · exact hKX _ _ e q
    · rw [X0 _ _ e] at q; cases q
  repeat (first | (with_reducible refine bfor X3 K3 ?_) | (with_reducible refine gname X3 ?_) | walk1)
  show wpAny _ _ _ _ _ ⟨h3, gn, dr, t3, os⟩
  have C0 : CB h3 Kn X h cc P nsA ents #[] 0 _ [] h3 := ⟨D, hTab, fun _ q => (nomatch q), rfl, fun _ _ _ _ e => e⟩
  clear D
  refine wpAny_alloc' ?_
  have C := C0.new (o := ⟨.type "frame", none, .plain, #[some (.ref cc), some (.ref mainGlobals), some (.ref nsA), none, some (.str "law_oh0021_01" 287), none, some (.ref builtinsNs)]⟩) rfl rfl
  have hpush : ∀ b o, h3.get? b = some o → (h3.push ⟨.type "frame", none, .plain, #[some (.ref cc), some (.ref mainGlobals), some (.ref nsA), none, some (.str "law_oh0021_01" 287), none, some (.ref builtinsNs)]⟩).get? b = some o := fun b o e => Heap.get?_push_of_some _ e
  have X4 : (K2 w.params).In (h3.push ⟨.type "frame", none, .plain, #[some (.ref cc), some (.ref mainGlobals), some (.ref nsA), none, some (.str "law_oh0021_01" 287), none, some (.ref builtinsNs)]⟩) := fun a o e => hpush _ _ (X3 a o e)
  show wpAny _ _ _ _ _ ⟨h3.push ⟨.type "frame", none, .plain, #[some (.ref cc), some (.ref mainGlobals), some (.ref nsA), none, some (.str "law_oh0021_01" 287), none, some (.ref builtinsNs)]⟩, gn, dr, t3, os⟩
  generalize h3.push ⟨.type "frame", none, .plain, #[some (.ref cc), some (.ref mainGlobals), some (.ref nsA), none, some (.str "law_oh0021_01" 287), none, some (.ref builtinsNs)]⟩ = h4 at C X4 hpush ⊢
  generalize h3.objs.size = fr at C ⊢
  refine wpAny_bind (wpAny_of_eq hcl ?_)
  refine wpAny_holding (wpAny_bind (wpAny_enterFrame (nolimit X4) hdp ?_))
  refine wpAny_bind (wpAny_onRaise (wpEF ?_))
  refine wpAny_bind (cls_ldname hsk hn5 rfl rfl (C.mm.at 0 rfl) X4 ?_)
  refine wpAny_bind (C.store (fun hx tk => #[⟨hx, .str "__module__" tk, .str "law_oh0021_01" 287⟩]) 1 rfl (cls_st hsk (.inl hn1)) rfl (fun _ _ => by kernel_rfl!) fun x0 k0 h5 C5 => ?_)
  refine wpAny_bind ?_
  unfold mkText
  refine wpAny_bind (wpAny_fresh' (wpAny_pure ?_))
  refine wpAny_bind (C5.store (fun hx tk => #[⟨x0, .str "__module__" k0, .str "law_oh0021_01" 287⟩, ⟨hx, .str "__qualname__" tk, .str "cmp_to_key.<locals>.K" (t3 + 1)⟩]) 2 rfl (cls_st hsk (.inr ⟨hn2, by decide +kernel⟩)) rfl (fun _ _ => by kernel_rfl!) fun x1 k1 h6 C6 => ?_)
  refine wpAny_bind (wpAny_mkInt' ?_)
  refine wpAny_bind (C6.store (fun hx tk => #[⟨x0, .str "__module__" k0, .str "law_oh0021_01" 287⟩, ⟨x1, .str "__qualname__" k1, .str "cmp_to_key.<locals>.K" (t3 + 1)⟩, ⟨hx, .str "__firstlineno__" tk, .int 41 (t3 + 1 + 1 + 1)⟩]) 3 rfl (cls_st hsk (.inr ⟨hn3, by decide +kernel⟩)) rfl (fun _ _ => by kernel_rfl!) fun x2 k2' h7 C7 => ?_)
  refine wpAny_pure ?_
  refine wpAny_bind (hbody h3 cc P nsA fr h7 _ (fun n => [x0, x1, x2].getD n 0) (fun n => [k0, 0, k1, t3 + 1, k2', t3 + 1 + 1 + 1].getD n 0) _ _ hKP hXP' C7 fun H T sl F Dt Cd tsl h8 t8 n8 hgood C8 => ?_)
  refine wpAny_bind (wpAny_onRaise (wpEF ?_))
  refine wpAny_bind ?_
  repeat (walk1)
  refine wpAny_alloc' ?_
  have C9 := C8.new (o := ⟨.type "tuple", none, .seq #[.str "obj" t8] 0, #[]⟩) rfl rfl
  show wpAny _ _ _ _ _ ⟨h8.push ⟨.type "tuple", none, .seq #[.str "obj" t8] 0, #[]⟩, gn, dr, _, os⟩
  generalize h8.push ⟨.type "tuple", none, .seq #[.str "obj" t8] 0, #[]⟩ = h9 at C9 ⊢
  generalize h8.objs.size = sa at C9 ⊢
  refine wpAny_pure ?_
  refine wpAny_bind (C9.store (fun hx tk => kEnts (fun n => if n = 11 then hx else H n) (fun n => if n = 14 then tk else T n) sl (F 1) (F 2) (F 3) (F 4) (F 5) (F 6) sa) (n8 + 1) rfl (cls_st hsk (.inr ⟨hn4, by decide +kernel⟩)) rfl (fun _ _ => by kernel_rfl!) fun x3 k3 h10 C10 => ?_)
  refine wpAny_pure ?_
  refine wpAny_ite_false rfl ?_
  have na44 : (44 : Addr) ≠ nsA := fun z => by
    have q := C10.mm.off 0 rfl
    rw [← z] at q
    exact nomatch (ht0.2.symm.trans q)
  have na48 : (48 : Addr) ≠ nsA := fun z => by
    have q := C10.mm.off 0 rfl
    rw [← z] at q
    obtain ⟨⟨o, _, e, _⟩, _⟩ := ht0
    exact nomatch (e.symm.trans q)
  have np48 : (48 : Addr) ≠ P := hKP 48 _ rfl
  refine wpAny_bind (type_call (C10.kin X0 hKX) (C10.mm.at 10 rfl) (C10.mm.at 0 rfl) (C10.mm.at 8 rfl) (C10.mm.at 7 rfl) (C10.mm.at 6 rfl) (C10.mm.at 5 rfl) (C10.mm.at 4 rfl) (C10.mm.at 3 rfl) (C10.mm.at 2 rfl) (C10.mm.at 1 rfl) hnm fun a ns md hx1 hx2 u1 u2 u3 h11 t11 hk ha hn hm na nn nm => ?_)
  refine wpAny_pure ?_
  refine hend a h11 t11 ?_
  have hB : ∀ b o, b ≠ nsA → b ≠ P → h3.get? b = some o → h11.get? b = some o := fun b o e1 e2 e => hk b o (C10.base b o e1 e2 e)
  have D0 := C10.mm.keeps hk
  have ne : ∀ (p : Addr × Obj) (x : Addr), h10.get? p.1 = some p.2 → h10.get? x = none → p.1 ≠ x := fun p x q hx z => by
    rw [z, hx] at q; cases q
  have D1 := D0.more' hm C10.mm.dom nm fun p hp => ne p md (C10.mm.nw p hp).1 nm
  have D2 := D1.more' hn C10.mm.dom nn fun p hp => by
    rcases List.mem_cons.mp hp with rfl | hp
    · exact ne_objs _ _ _ _ hm hn rfl
    · exact ne p ns (C10.mm.nw p hp).1 nn
  have D3 := D2.more' ha C10.mm.dom na fun p hp => by
    rcases List.mem_cons.mp hp with rfl | hp
    · exact ne_objs _ _ _ _ hn ha rfl
    · rcases List.mem_cons.mp hp with rfl | hp
      · exact ne_objs _ _ _ _ hm ha rfl
      · exact ne p a (C10.mm.nw p hp).1 na
  refine ⟨ns, md, nsA, sa, sl, bT, cc, P, F, Dt, Cd, (fun n => if n = 11 then x3 else H n), (fun n => if n = 14 then k3 else T n), hx1, hx2, u1, u2, u3, t, tsl, _, _, _, hgood, D3, fun p hp => (C10.crs p hp).keeps hk, C10.tab.keeps hk, hXP', hne, ps0, ?_, ?_, hp3⟩
  · obtain ⟨o, vs, file, tf, flags, tg, inF, text, tt, op, f1, f2, f3, f4, f5, f6, f7, f8, f9, f10, f11⟩ := hp1
    exact ⟨o, vs, file, tf, flags, tg, inF, text, tt, op, hB _ _ na48 np48 f1, f2, f3, f4, f5, f6, f7, hB _ _ na44 hne.symm f8, f9, f10, f11⟩
  · obtain ⟨⟨o, vs, f1, f2, f3, f4⟩, f5⟩ := hp2
    exact ⟨⟨o, vs, hB _ _ na48 np48 f1, f2, f3, f4⟩, hB _ _ na44 hne.symm f5⟩
theorem bc_call : BcT := bcA.2 ⟨bcB⟩
end
end
section
open PySem PySem.W PySem.W.X PyProof.Rows Builtin
set_option maxRecDepth 100000
set_option maxHeartbeats 4000000
open Classical in
/-- what is known, and all that is new but the tables -/
noncomputable def PH.grow (g : PH) (h h' : Heap) : PH := fun a => (g a).or (if h.get? a = none ∧ ¬ ∃ ps, h'.get? a = some (tabObj ps) then h'.get? a else none)
theorem PH.grow_old {g : PH} {h h' : Heap} {a : Addr} {o : Obj} (e : g a = some o) : g.grow h h' a = some o := by unfold PH.grow; rw [e]; rfl
theorem PH.grow_new {g : PH} {h h' : Heap} {a : Addr} {o : Obj} (live : ∀ a o, g a = some o → h.get? a = some o) (hn : h.get? a = none) (e : h'.get? a = some o) (ho : ∀ ps, o ≠ tabObj ps) : g.grow h h' a = some o := by
  unfold PH.grow
  rw [live_none live hn, if_pos ⟨hn, fun ⟨ps, q⟩ => by rw [e] at q; exact ho ps (Option.some.inj q)⟩, e]; rfl
theorem PH.grow_inv {g : PH} {h h' : Heap} {a : Addr} {o : Obj} (e : g.grow h h' a = some o) : g a = some o ∨ (h.get? a = none ∧ h'.get? a = some o ∧ ¬ ∃ ps, h'.get? a = some (tabObj ps)) := by
  unfold PH.grow at e
  cases q : g a with
  | some p => rw [q] at e; exact .inl e
  | none =>
    rw [q] at e
    by_cases c : h.get? a = none ∧ ¬ ∃ ps, h'.get? a = some (tabObj ps)
    · rw [if_pos c] at e; exact .inr ⟨c.1, e, c.2⟩
    · rw [if_neg c] at e; cases e
theorem Mm.stp {X : Addr → Prop} {g : PH} {h h' : Heap} {news : List (Addr × Obj)} {gn : Array GenState} {dr : Drawn} {t t' : Nat} {os : OsState} (D : Mm h h' X news) (live : ∀ a o, g a = some o → h.get? a = some o) (hX : ∀ a, X a → g a = none) : Stp X g (g.grow h h') ⟨h, gn, dr, t, os⟩ ⟨h', gn, dr, t', os⟩ := by
  refine ⟨fun a o e => PH.grow_old e, fun a o e => ?_, fun a o e => ?_, fun a o hx e => D.keep a o hx e, fun a o e => D.dom a o e, rfl⟩
  · rcases PH.grow_inv e with q | q
    · exact .inl q
    · exact .inr q.1
  · rcases PH.grow_inv e with q | q
    · exact D.keep a o (fun hx => by rw [hX a hx] at q; cases q) (live a o q)
    · exact q.2.1
end
section
open PySem PySem.W PySem.W.X PyProof.Rows Builtin
set_option maxRecDepth 100000
set_option maxHeartbeats 4000000
section
/-- the class statement's body, as it stands in cmp_to_key's def -/
noncomputable def kBodyOf (P : Params) : List Stmt := match (K2 P).lookup 49 with
  | some ⟨_, _, .func fd, _⟩ => match fd.body with
    | .stmts (.ClassDef _ _ _ body _ _ _ _ _ _ _ :: _) => body
    | _ => []
  | _ => []
/-- the i-th def of the class's body -/
noncomputable def mkD (P : Params) (i : Nat) (mc c : Addr) (ct : Value) : FuncData := match (kBodyOf P)[i + 1]? with
  | some (.FunctionDef name params body _ _ _ scope _ _ _) => fnX name ("cmp_to_key.<locals>.K." ++ name) params body scope (if i = 1 then [] else [("mycmp", mc)]) .none .none .none (.str "law_oh0021_01" 287) none (.ref c) ct
  | _ => default
noncomputable def GoodK (w : World) (mc : Addr) (Dt : Nat → FuncData) (C : Nat → Addr) : Prop := ∃ ct : Nat → Value, Dt 1 = mkD w.params 1 mc (C 1) (ct 1) ∧ Dt 2 = mkD w.params 2 mc (C 2) (ct 2) ∧ Dt 4 = mkD w.params 4 mc (C 4) (ct 4)
/-- known, or new -/
noncomputable def KnOf (g : PH) (h : Heap) : Addr → Obj → Prop := fun c o => g c = some o ∨ h.get? c = none
/-- the class, known -/
structure KClsc (w : World) (g : PH) (a : Addr) (f : Value) (ns md sl sa bT mc : Addr) (F : Nat → Addr) (Dt : Nat → FuncData) (C : Nat → Addr) (H : Nat → Int) (T : Nat → Tok) (hx1 hx2 : Int) (u1 u2 u3 tk : Tok) (oc : Obj) : Prop where
  p1 : g a = some (kObj (kCD [.ref a, .type "object"] ns false ["obj"]) #[some (.ref bT), none, some (.str "K" tk), some (.str "cmp_to_key.<locals>.K" (T 3)), some (.builtin "object.__new__"), some (.bool false)])
  p2 : g ns = some (dObj (kNs H T sl (F 1) (F 2) (F 3) (F 4) (F 5) (F 6) sa [⟨hx1, .str "obj" u1, .ref md⟩, ⟨hx2, .str "__doc__" u2, .none⟩]) 3)
  p3 : g md = some ⟨.type "member_descriptor", none, .fields #[.str "obj" u3, .ref a, .builtin "proto.slot", .builtin "proto.slot#set", rawInt 0], #[]⟩
  p4 : g (F 1) = some (fnO (Dt 1))
  p5 : g (F 2) = some (fnO (Dt 2))
  p6 : g (F 4) = some (fnO (Dt 4))
  p7 : GoodK w mc Dt C
  p8 : (∀ p ∈ cs6 C, ∃ o vs t, g p.1 = some o ∧ o.data = .fields vs ∧ vs[1]? = some (.str p.2 t) ∧ o.cls = .type "code")
  p9 : g mc = some oc
  p10 : oc.data = .cell (some f)
noncomputable def KCls (w : World) (g : PH) (a : Addr) (f : Value) : Prop := ∃ (ns md sl sa bT mc : Addr) (F : Nat → Addr) (Dt : Nat → FuncData) (C : Nat → Addr) (H : Nat → Int) (T : Nat → Tok) (hx1 hx2 : Int) (u1 u2 u3 tk : Tok) (oc : Obj), KClsc w g a f ns md sl sa bT mc F Dt C H T hx1 hx2 u1 u2 u3 tk oc
section
variable {w : World} {A : Around} {E : Value → Shared → Prop} {hB : Heap} {Kn : Addr → Obj → Prop} {X : Addr → Prop} {h0 h : Heap} {c P ns : Addr} {ents : List (Pos × Str)} {es : Array DictEntry} {n : Nat} {news : List (Addr × Obj)} {cs : List (Addr × Str)}
  {g : Array GenState} {d : Drawn} {t : Nat} {os : OsState} {cenv : Env}
/-- a def in the class's body -/
theorem CB.defq (C : CB hB Kn X h0 c P ns ents es n news cs h) (X0 : (K2 w.params).In h0) (hKX : ∀ a o, (K2 w.params).lookup a = some o → ¬ X a) (hk4 : K4 h0) (hX4 : ¬ X 4 ∧ ¬ X 1) (hKP : ∀ a o, (K2 w.params).lookup a = some o → a ≠ P) (hXP : X P ∨ h0.get? P = none) (hKn : ∀ c o, h0.get? c = none → Kn c o)
    {name : Str} {params : Arguments} {body : List Stmt} {scope : Scope} {pos : Pos} {clos : List (Str × Addr)} {qn : Str} {Q : Flow → Shared → Prop} (es' : Int → Tok → Addr → Array DictEntry) (n' : Nat)
    (hq : qualnameIn cenv name name = qn) (hd0 : params.defaults = []) (hk0 : params.kw_defaults = []) (ha : annTrees params none cenv = [])
    (hl : cenv.locals = ns) (hst : ∀ v, storeName cenv name v = localSet cenv name v) (hr : aRefKeyMayBeTheName name es = false)
    (he : ∀ hx tk f, Obj.putName name hx (.str name tk) (.ref f) (dObj es n) = dObj (es' hx tk f) n')
    (hcl : closureFor scope cenv = pure clos) (hg0 : cenv.globals = mainGlobals) (hb0 : cenv.builtins = builtinsNs) (hcode : cenv.code = .ref c) (hm : (pos, qn) ∈ ents)
    (hap : ∀ e ∈ ents, (e.1.line = pos.line ∧ e.1.col = pos.col) → e = (pos, qn)) (hdoc : docOf body = none)
    (k : ∀ hx tk f cv ctv h' t', CB hB Kn X h0 c P ns ents (es' hx tk f) n' ((f, ⟨.type "function", none, .func (fnX name (qn) params body scope clos .none .none .none (.str "law_oh0021_01" 287) none (.ref cv) ctv), #[]⟩) :: news) ((cv, qn) :: cs) h' → Q .next ⟨h', g, d, t', os⟩) :
    wpAny (model PG w) A (exec (.FunctionDef name params body [] none [] scope none name pos) cenv) Q E ⟨h, g, d, t, os⟩ := by
  subst hq
  exact C.def X0 hKX hk4 hX4 hKP hXP hKn es' n' hd0 hk0 ha hl hst hr he hcl hg0 hb0 hcode hm hap hdoc k
end
theorem Stp.reveal {X : Addr → Prop} {g g1 : PH} {s s2 : Shared} {mc : Addr} {oc : Obj} (S : Stp X g g1 s s2) (live : ∀ a o, g a = some o → s.heap.get? a = some o) (hc : s2.heap.get? mc = some oc) (hn : s.heap.get? mc = none) : Stp X g (g1.put mc oc) s s2 := by
  refine ⟨fun a o e => ?_, fun a o e => ?_, fun a o e => ?_, S.keep, S.dom, S.rest⟩
  · unfold PH.put
    rw [if_neg (fun z => by rw [z] at e; rw [live _ _ e] at hn; cases hn)]
    exact S.le a o e
  · unfold PH.put at e
    split at e
    · rename_i z; subst z; exact .inr hn
    · exact S.new a o e
  · unfold PH.put at e
    split at e
    · rename_i z; subst z; cases e; exact hc
    · exact S.live a o e
/-- the tables of codes that may grow, but z -/
noncomputable def TabZ (z : Addr) (g : PH) (s : Shared) : Addr → Prop := fun a => (g a = none ∧ ∃ ps, s.heap.get? a = some (tabObj ps)) ∧ a ≠ z
theorem ck_call {z : Addr} {w : World} {A : Around} {E : Value → Shared → Prop} {g : PH} {s : Shared} {n : Nat} {f : Value} {Q : Value → Shared → Prop}
    (live : ∀ a o, g a = some o → s.heap.get? a = some o) (hK : KIn w g) (hR : Room A (n + 3)) (hz : z ≠ 44) (hzo : ∃ o, s.heap.get? z = some o) (h44 : g 44 = none) (hT : KT (fun c o => g c = some o) (TabZ z g s) s.heap 48 44 posK entsK)
    (hend : ∀ a g' s', Stp (TabZ z g s) g g' s s' → KCls w g' a f → KT (fun c o => g' c = some o) (TabZ z g' s') s'.heap 48 44 posK entsK → g' 44 = none → Q (.ref a) s') :
    wpAny (model PG w) A (call (.ref 49) [f]) Q E s := by
  refine fn_call (X := N0) (binds := [("mycmp", f)]) live hK hR (f := 49) rfl (by kernel_rfl) rfl (Looks.of_pure (by rfl)) rfl (by kernel_rfl) (fun A' s₁ hR' hA' B hlc => ?_) rfl rfl rfl
  refine wpAny_execs_cons ?_
  have XK : (K2 w.params).In s₁.heap := hK.frag B.live
  have XB : ∃ o, s₁.heap.get? builtinsNs = some o ∧ BObj o := let ⟨o, e, b⟩ := hK.bi; ⟨o, B.live _ _ e, b⟩
  have XF : K4 s₁.heap := hK.four B.live
  have hX4 : ¬ TabZ z g s 4 ∧ ¬ TabZ z g s 1 := by
    refine hide fun Gₕ hGₕ => ?_
    obtain ⟨⟨o, e, _⟩, o1, e1, _⟩ := hK.k4
    refine hGₕ ?_
    exact ⟨fun x => (by rw [x.1.1] at e; cases e), fun x => (by rw [x.1.1] at e1; cases e1)⟩
  refine hide fun Gₕ hGₕ => ?_
  obtain ⟨h, gn, dr, t, os⟩ := s₁
  refine hGₕ ?_
  refine wpEF ?_
  have D := Mm.start h (TabZ z g s)
  repeat ((fail_if_success (with_reducible show wpAny _ _ (buildClass _ _ _ _ _ _ _ _ _ _ _) _ _ _)); first | (with_reducible refine bcg rfl XB ?_) | (with_reducible refine nameB B hK rfl rfl rfl (by kernel_rfl) (v := .type "object") (by kernel_rfl) ?_) | walk1)
  have k1 : ∀ b o, s.heap.get? b = some o → h.get? b = some o := fun b o e => B.st.keep0 b o e
  refine bc_call w A' _ (KnOf g h) (TabZ z g s) h gn dr t os _ _ _ _ _ _ _ _ _ _ [("mycmp", s.heap.objs.size + 1)] entsK (GoodK w (s.heap.objs.size + 1)) (by kernel_rfl!) (by kernel_rfl!) (by kernel_rfl!) (by kernel_rfl!) (by kernel_rfl!) (by kernel_rfl!) rfl rfl rfl rfl (by kernel_rfl!) (by kernel_rfl!) ((closureFor_eq (by kernel_rfl!)).trans (congrArg pure (by kernel_rfl!))) (by kernel_rfl!) (by kernel_rfl!) (by kernel_rfl!) (by kernel_rfl!) (by kernel_rfl!) hR'.d XK ?_ XF hX4 ((hT.keeps k1).mono fun _ _ _ _ q => .inl q) ?_ ?_ ?_ ?_
  · intro a o e hx
    have := hK.kin a o e
    rw [hx.1.1] at this; cases this
  · obtain ⟨ps, _, ht, _⟩ := hT
    exact ⟨⟨h44, ps, ht.2⟩, hz.symm⟩
  · exact fun c o e => .inr e
  · have hKX : ∀ a o, (K2 w.params).lookup a = some o → ¬ TabZ z g s a := fun a o e hx => by
      have := hK.kin a o e
      rw [hx.1.1] at this; cases this
    have hKn : ∀ c o, h.get? c = none → KnOf g h c o := fun c o e => .inr e
    generalize s.heap.objs.size + 1 = mc
    intro hB cc P nsA fr h' t' H T news Q' hKP hXP C k
    refine wpAny_run (codeAny_body rfl rfl (wpEF ?_))
    refine wpAny_execs_cons (wpAny_Assign_Name (wpAny_Constant_str ?_))
    refine C.store (fun _ _ => #[⟨H 0, .str "__module__" (T 0), .str "cpy313.functools" t'⟩, ⟨H 1, .str "__qualname__" (T 2), .str "cmp_to_key.<locals>.K" (T 3)⟩, ⟨H 2, .str "__firstlineno__" (T 4), .int 41 (T 5)⟩]) 3 rfl rfl rfl (fun _ _ => by kernel_rfl!) fun _ _ h1 C1 => ?_
    refine wpAny_execs_cons (wpAny_Assign_Name (List_ (args_cons (wpAny_Constant_str (args_nil (wpAny_newList ?_))))))
    have C2 := C1.new (o := lsO (t' + 1 + 1)) rfl rfl
    show wpAny _ _ _ _ _ ⟨h1.push (lsO (t' + 1 + 1)), gn, dr, _, os⟩
    generalize h1.push (lsO (t' + 1 + 1)) = h2 at C2 ⊢
    generalize h1.objs.size = sl at C2 ⊢
    refine C2.store (fun hx tk => #[⟨H 0, .str "__module__" (T 0), .str "cpy313.functools" t'⟩, ⟨H 1, .str "__qualname__" (T 2), .str "cmp_to_key.<locals>.K" (T 3)⟩, ⟨H 2, .str "__firstlineno__" (T 4), .int 41 (T 5)⟩, ⟨hx, .str "__slots__" tk, .ref sl⟩]) 4 rfl rfl rfl (fun _ _ => by kernel_rfl!) fun x3 k3 h3 C3 => ?_
    refine wpAny_execs_cons (C3.defq XK hKX XF hX4 hKP hXP hKn (fun hx tk f => #[⟨H 0, .str "__module__" (T 0), .str "cpy313.functools" t'⟩, ⟨H 1, .str "__qualname__" (T 2), .str "cmp_to_key.<locals>.K" (T 3)⟩, ⟨H 2, .str "__firstlineno__" (T 4), .int 41 (T 5)⟩, ⟨x3, .str "__slots__" k3, .ref sl⟩, ⟨hx, .str "__init__" tk, .ref f⟩]) 5 (qn := "cmp_to_key.<locals>.K.__init__") (by kernel_rfl!) rfl rfl rfl rfl (fun _ => rfl) rfl (fun _ _ _ => by kernel_rfl!) (closureFor_eq (by kernel_rfl!)) rfl rfl rfl (by decide +kernel) (by decide +kernel) rfl fun x4 k4 f1 c1 ct1 h4 t4 C4 => ?_)
    refine wpAny_execs_cons (C4.defq XK hKX XF hX4 hKP hXP hKn (fun hx tk f => #[⟨H 0, .str "__module__" (T 0), .str "cpy313.functools" t'⟩, ⟨H 1, .str "__qualname__" (T 2), .str "cmp_to_key.<locals>.K" (T 3)⟩, ⟨H 2, .str "__firstlineno__" (T 4), .int 41 (T 5)⟩, ⟨x3, .str "__slots__" k3, .ref sl⟩, ⟨x4, .str "__init__" k4, .ref f1⟩, ⟨hx, .str "__lt__" tk, .ref f⟩]) 6 (qn := "cmp_to_key.<locals>.K.__lt__") (by kernel_rfl!) rfl rfl rfl rfl (fun _ => rfl) rfl (fun _ _ _ => by kernel_rfl!) (closureFor_eq (by kernel_rfl!)) rfl rfl rfl (by decide +kernel) (by decide +kernel) rfl fun x5 k5 f2 c2 ct2 h5 t5 C5 => ?_)
    refine wpAny_execs_cons (C5.defq XK hKX XF hX4 hKP hXP hKn (fun hx tk f => #[⟨H 0, .str "__module__" (T 0), .str "cpy313.functools" t'⟩, ⟨H 1, .str "__qualname__" (T 2), .str "cmp_to_key.<locals>.K" (T 3)⟩, ⟨H 2, .str "__firstlineno__" (T 4), .int 41 (T 5)⟩, ⟨x3, .str "__slots__" k3, .ref sl⟩, ⟨x4, .str "__init__" k4, .ref f1⟩, ⟨x5, .str "__lt__" k5, .ref f2⟩, ⟨hx, .str "__gt__" tk, .ref f⟩]) 7 (qn := "cmp_to_key.<locals>.K.__gt__") (by kernel_rfl!) rfl rfl rfl rfl (fun _ => rfl) rfl (fun _ _ _ => by kernel_rfl!) (closureFor_eq (by kernel_rfl!)) rfl rfl rfl (by decide +kernel) (by decide +kernel) rfl fun x6 k6 f3 c3 ct3 h6 t6 C6 => ?_)
    refine wpAny_execs_cons (C6.defq XK hKX XF hX4 hKP hXP hKn (fun hx tk f => #[⟨H 0, .str "__module__" (T 0), .str "cpy313.functools" t'⟩, ⟨H 1, .str "__qualname__" (T 2), .str "cmp_to_key.<locals>.K" (T 3)⟩, ⟨H 2, .str "__firstlineno__" (T 4), .int 41 (T 5)⟩, ⟨x3, .str "__slots__" k3, .ref sl⟩, ⟨x4, .str "__init__" k4, .ref f1⟩, ⟨x5, .str "__lt__" k5, .ref f2⟩, ⟨x6, .str "__gt__" k6, .ref f3⟩, ⟨hx, .str "__eq__" tk, .ref f⟩]) 8 (qn := "cmp_to_key.<locals>.K.__eq__") (by kernel_rfl!) rfl rfl rfl rfl (fun _ => rfl) rfl (fun _ _ _ => by kernel_rfl!) (closureFor_eq (by kernel_rfl!)) rfl rfl rfl (by decide +kernel) (by decide +kernel) rfl fun x7 k7 f4 c4 ct4 h7 t7 C7 => ?_)
    refine wpAny_execs_cons (C7.defq XK hKX XF hX4 hKP hXP hKn (fun hx tk f => #[⟨H 0, .str "__module__" (T 0), .str "cpy313.functools" t'⟩, ⟨H 1, .str "__qualname__" (T 2), .str "cmp_to_key.<locals>.K" (T 3)⟩, ⟨H 2, .str "__firstlineno__" (T 4), .int 41 (T 5)⟩, ⟨x3, .str "__slots__" k3, .ref sl⟩, ⟨x4, .str "__init__" k4, .ref f1⟩, ⟨x5, .str "__lt__" k5, .ref f2⟩, ⟨x6, .str "__gt__" k6, .ref f3⟩, ⟨x7, .str "__eq__" k7, .ref f4⟩, ⟨hx, .str "__le__" tk, .ref f⟩]) 9 (qn := "cmp_to_key.<locals>.K.__le__") (by kernel_rfl!) rfl rfl rfl rfl (fun _ => rfl) rfl (fun _ _ _ => by kernel_rfl!) (closureFor_eq (by kernel_rfl!)) rfl rfl rfl (by decide +kernel) (by decide +kernel) rfl fun x8 k8 f5 c5 ct5 h8 t8 C8 => ?_)
    refine wpAny_execs_cons (C8.defq XK hKX XF hX4 hKP hXP hKn (fun hx tk f => #[⟨H 0, .str "__module__" (T 0), .str "cpy313.functools" t'⟩, ⟨H 1, .str "__qualname__" (T 2), .str "cmp_to_key.<locals>.K" (T 3)⟩, ⟨H 2, .str "__firstlineno__" (T 4), .int 41 (T 5)⟩, ⟨x3, .str "__slots__" k3, .ref sl⟩, ⟨x4, .str "__init__" k4, .ref f1⟩, ⟨x5, .str "__lt__" k5, .ref f2⟩, ⟨x6, .str "__gt__" k6, .ref f3⟩, ⟨x7, .str "__eq__" k7, .ref f4⟩, ⟨x8, .str "__le__" k8, .ref f5⟩, ⟨hx, .str "__ge__" tk, .ref f⟩]) 10 (qn := "cmp_to_key.<locals>.K.__ge__") (by kernel_rfl!) rfl rfl rfl rfl (fun _ => rfl) rfl (fun _ _ _ => by kernel_rfl!) (closureFor_eq (by kernel_rfl!)) rfl rfl rfl (by decide +kernel) (by decide +kernel) rfl fun x9 k9 f6 c6 ct6 h9 t9 C9 => ?_)
    refine wpAny_execs_cons (wpAny_Assign_Name (wpAny_Constant_none ?_))
    refine C9.store (fun hx tk => #[⟨H 0, .str "__module__" (T 0), .str "cpy313.functools" t'⟩, ⟨H 1, .str "__qualname__" (T 2), .str "cmp_to_key.<locals>.K" (T 3)⟩, ⟨H 2, .str "__firstlineno__" (T 4), .int 41 (T 5)⟩, ⟨x3, .str "__slots__" k3, .ref sl⟩, ⟨x4, .str "__init__" k4, .ref f1⟩, ⟨x5, .str "__lt__" k5, .ref f2⟩, ⟨x6, .str "__gt__" k6, .ref f3⟩, ⟨x7, .str "__eq__" k7, .ref f4⟩, ⟨x8, .str "__le__" k8, .ref f5⟩, ⟨x9, .str "__ge__" k9, .ref f6⟩, ⟨hx, .str "__hash__" tk, .none⟩]) 11 rfl rfl rfl (fun _ _ => by kernel_rfl!) fun x10 k10 h10 C10 => ?_
    refine wpAny_execs_nil ?_
    exact k (fun n => [H 0, H 1, H 2, x3, x4, x5, x6, x7, x8, x9, x10].getD n 0) (fun n => [T 0, t', T 2, T 3, T 4, T 5, k3, k4, k5, k6, k7, k8, k9, k10].getD n 0) sl (fun n => [0, f1, f2, f3, f4, f5, f6].getD n 0) (fun n => [default, _, _, _, _, _, _].getD n default) (fun n => [0, c1, c2, c3, c4, c5, c6].getD n 0) (t' + 1 + 1) h10 _ 11
      ⟨fun n => [.none, ct1, ct2, ct3, ct4, ct5, ct6].getD n .none, by kernel_rfl, by kernel_rfl, by kernel_rfl⟩ C10
  · intro a h' t' hM
    have hlv : ∀ a o, g a = some o → h.get? a = some o := B.live
    have hXg : ∀ a, TabZ z g s a → g a = none := fun a q => q.1.1
    refine hide fun Gₕ hGₕ => ?_
    obtain ⟨ns, md, nsA, sa, sl, bT, cc, P, F, Dt, C, H, T, hx1, hx2, u1, u2, u3, tk, tsl, od, os1, rest, hgood, DM, hcrs, htab, hXP, hP44, ps, hi, ht, hcd⟩ := hM
    refine hGₕ ?_
    have st := DM.stp (g := g) (gn := gn) (dr := dr) (t := t) (t' := t') (os := os) hlv hXg
    have B1 := (show Blk (TabZ z g s) g s _ g _ _ from ⟨B.st.of0, B.ea, B.offL, B.lowL, B.offC⟩).stepX st (fun _ q => .inl q) (fun q => by obtain ⟨ps, e⟩ := q.1.2; rw [B.lowL] at e; cases e) (fun y c hc q => by obtain ⟨ps, e⟩ := q.1.2; rw [hlc y c hc] at e; cases e)
    repeat ((fail_if_success (with_reducible show wpAny _ _ (bindName _ _ _) _ _ _)); walk1)
    refine wpAny_bindName (st_ B1 (.inl rfl) fun s2 B2 hs => wpAny_pure ?_)
    refine wpAny_execs_cons (wpAny_Return_some (name_ B2 rfl (.inl rfl) ?_))
    -- the table behind the store
    have hsb : Heap.SameBut s.heap.objs.size h' s2.heap := by
      rcases hs with ⟨_, q⟩ | ⟨q, _⟩
      · exact q
      · exact absurd q (by intro z; exact nomatch z)
    refine hide fun Gₕ hGₕ => ?_
    obtain ⟨mL, ⟨oL, esL, epL, hoL, hdL, _⟩, _⟩ := B1.ea.loc
    have hna : ∀ vs, oL.data ≠ .fields vs := fun vs z => by rw [hdL] at z; cases z
    have kb : ∀ b o, b ≠ s.heap.objs.size → h'.get? b = some o → s2.heap.get? b = some o := fun b o hb e => (hsb.2 b hb).trans e
    have hmcn : s.heap.get? (s.heap.objs.size + 1) = none := none_of_ge (Nat.le_succ _)
    obtain ⟨v, ⟨oc, hoc, hcv⟩, hv⟩ := B2.ea.cell "mycmp" (s.heap.objs.size + 1) rfl
    refine hGₕ ?_
    have hv' : v = some f := hv (by intro z; exact nomatch z)
    subst hv'
    have S2 := B2.st.reveal live hoc hmcn
    have hg1 : ∀ x o, g.grow h h' x = some o → (g.grow h h').put (s.heap.objs.size + 1) oc x = some o := fun x o e => by
      unfold PH.put
      rw [if_neg (fun z => by rw [z] at e; rw [B2.offC "mycmp" _ rfl] at e; cases e)]
      exact e
    have hoL' : h'.get? s.heap.objs.size = some oL := hoL
    have htab2 : TabOK (fun c o => (g.grow h h').put (s.heap.objs.size + 1) oc c = some o) s2.heap cc P entsK := by
      refine TabOK.mono (Kn := KnOf g h) (htab.but kb hoL' hna) fun c o e hcl q => hg1 _ _ ?_
      rcases q with q | q
      · exact PH.grow_old q
      · have e' : h'.get? c = some o := by
          by_cases z : c = s.heap.objs.size
          · obtain ⟨o2, h2⟩ := B.domL
            rw [z] at q
            exact absurd (show h.get? s.heap.objs.size = some o2 from h2) (by rw [q]; exact fun y => nomatch y)
          · exact ((hsb.2 c z).symm.trans e)
        exact PH.grow_new hlv q e' fun ps z => by rw [z] at hcl; cases hcl
    refine hend a ((g.grow h h').put (s.heap.objs.size + 1) oc) s2 S2 ?_ ?_ ?_
    · refine ⟨ns, md, sl, sa, bT, s.heap.objs.size + 1, F, Dt, C, H, T, hx1, hx2, u1, u2, u3, tk, oc, ?_, ?_, ?_, ?_, ?_, ?_, hgood, fun p hp => ?_, PH.put_self, hcv⟩
      · exact hg1 _ _ (PH.grow_new hlv (DM.off 0 rfl) (DM.at 0 rfl) fun ps z => by cases z)
      · exact hg1 _ _ (PH.grow_new hlv (DM.off 1 rfl) (DM.at 1 rfl) fun ps z => by cases z)
      · exact hg1 _ _ (PH.grow_new hlv (DM.off 2 rfl) (DM.at 2 rfl) fun ps z => by cases z)
      · exact hg1 _ _ (PH.grow_new hlv (DM.off 10 rfl) (DM.at 10 rfl) fun ps z => by cases z)
      · exact hg1 _ _ (PH.grow_new hlv (DM.off 9 rfl) (DM.at 9 rfl) fun ps z => by cases z)
      · exact hg1 _ _ (PH.grow_new hlv (DM.off 7 rfl) (DM.at 7 rfl) fun ps z => by cases z)
      · obtain ⟨o, vs, tt, e1, e2, e3, e4, e5⟩ := hcrs p hp
        refine ⟨o, vs, tt, hg1 _ _ ?_, e2, e3, e5⟩
        rcases e4 with q | q
        · exact PH.grow_old q
        · exact PH.grow_new hlv q e1 fun ps z => by rw [z] at e5; cases e5
    · obtain ⟨psT, _, ⟨⟨o48, v48, e48, _⟩, e44⟩, _⟩ := hT
      have hL := B.lowL
      have n48 : (48 : Addr) ≠ s.heap.objs.size := fun z => by
        have q : s.heap.get? s.heap.objs.size = none := hL
        rw [← z, e48] at q; cases q
      have n44 : (44 : Addr) ≠ s.heap.objs.size := fun z => by
        have q : s.heap.get? s.heap.objs.size = none := hL
        rw [← z, e44] at q; cases q
      have hPz : P ≠ z := fun y => by
        rcases hXP with q | q
        · exact q.2 y
        · obtain ⟨oz, hoz⟩ := hzo
          rw [y, k1 _ _ hoz] at q; exact nomatch q
      refine ⟨ps, hi.extBut kb n48 n44, ht.extBut kb n48 n44, .inr ⟨cc, P, hcd, htab2, ⟨⟨?_, htab2.tab⟩, hPz⟩, hP44⟩⟩
      obtain ⟨p2, e2⟩ := htab2.tab
      obtain ⟨p3, e3⟩ := htab.tab
      unfold PH.put
      rw [if_neg (fun z => by rw [z, hoc] at e2; cases e2; cases hcv)]
      cases q : g.grow h h' P with
      | none => rfl
      | some o =>
        rcases PH.grow_inv q with z | z
        · rcases hXP with y | y
          · rw [y.1.1] at z; cases z
          · rw [live_none hlv y] at z; cases z
        · exact absurd ⟨p3, e3⟩ z.2.2
    · obtain ⟨psT, _, ⟨_, e44⟩, _⟩ := hT
      unfold PH.put
      rw [if_neg (fun z => by rw [← z, e44] at hmcn; cases hmcn)]
      cases q : g.grow h h' 44 with
      | none => rfl
      | some o =>
        rcases PH.grow_inv q with z | z
        · rw [h44] at z; cases z
        · rw [k1 _ _ e44] at z; exact nomatch z.1
end
end
end
section
open PySem PySem.W PySem.W.X PyProof.Rows Builtin
set_option maxRecDepth 100000
set_option maxHeartbeats 4000000
section
theorem k_new {w : World} {e1 e2 : Env} {E : Value → Shared → Prop} {s : Shared} {l : Addr} {Q : Value → Shared → Prop}
    {a ns md sl sa bT mc : Addr} {F : Nat → Addr} {C1 : Addr} {ct : Value} {H : Nat → Int} {T : Nat → Tok} {hx1 hx2 : Int} {u1 u2 u3 tk tq : Tok} {v0 : Value} {vr : List Value} {sq : Array (Option Value)} {cd : Option Addr}
    (X : (K2 w.params).In s.heap)
    (ha : s.heap.get? a = some { cls := .type "type", dict := none, data := .cls { name := "K", bases := [.type "object"], mro := [.ref a, .type "object"], ns, qualname := "cmp_to_key.<locals>.K", hasDict := false, slotNames := ["obj"] }, slots := #[some (.ref bT), none, some (.str "K" tk), some (.str "cmp_to_key.<locals>.K" (T 3)), some (.builtin "object.__new__"), some (.bool false)] })
    (hn : s.heap.get? ns = some ⟨.type "dict", none, .dict (kNs H T sl (F 1) (F 2) (F 3) (F 4) (F 5) (F 6) sa [⟨hx1, .str "obj" u1, .ref md⟩, ⟨hx2, .str "__doc__" u2, .none⟩]) 3, #[]⟩)
    (hm : s.heap.get? md = some ⟨.type "member_descriptor", none, .fields #[.str "obj" u3, .ref a, .builtin "proto.slot", .builtin "proto.slot#set", rawInt 0], #[]⟩)
    (h1 : s.heap.get? (F 1) = some ⟨.type "function", none, .func (mkD w.params 1 mc C1 ct), #[]⟩)
    (hc1 : s.heap.get? C1 = some ⟨.type "code", cd, .fields ⟨v0 :: .str "cmp_to_key.<locals>.K.__init__" tq :: vr⟩, sq⟩)
    (hend : ∀ L oL u oU d oD h' t, oU = ⟨.ref a, some d, .plain, #[some (.ref l)]⟩ → Mem s.heap h' [] [(L, oL), (u, oU), (d, oD)] → Q (.ref u) ⟨h', s.gens, s.drawn, t, s.os⟩) :
    wpAny (model PG w) ((callerA.deeper e1).deeper e2) (call (.ref a) [.ref l]) Q E s := by
  x_run
end
end
section
open PySem PySem.W PySem.W.X PyProof.Rows Builtin PySem.Calls
set_option maxRecDepth 100000
set_option maxHeartbeats 4000000
section
variable {w : World} {A : Around} {E : Value → Shared → Prop} {g : PH} {s : Shared}
/-- a lambda that closes over nothing, made -/
theorem mklam {Kn : Addr → Obj → Prop} {name qual : Str} {params : Arguments} {body : Expr} {scope : Scope} {env : Env} {c P : Addr} {ents : List (Pos × Str)} {pos : Pos} {firstLine : Nat} {Q : Value → Shared → Prop}
    (X : (K2 w.params).In s.heap) (hPK : ∀ a o, (K2 w.params).lookup a = some o → a ≠ P) (hk4 : K4 s.heap) (hP4 : (4 : Addr) ≠ P ∧ (1 : Addr) ≠ P) (hcl : closureFor scope env = pure []) (hg0 : env.globals = mainGlobals) (hb0 : env.builtins = builtinsNs) (hcode : env.code = .ref c) (hT : TabOK Kn s.heap c P ents) (hm : (pos, qual) ∈ ents)
    (hap : ∀ e ∈ ents, (e.1.line = pos.line ∧ e.1.col = pos.col) → e = (pos, qual)) (hKn : ∀ c o, s.heap.get? c = none → Kn c o)
    (h : ∀ f cv h' tk, Heap.ExtBut P s.heap h' → h'.get? f = some (fnO (kla_fn name qual params body scope [] (.str "law_oh0021_01" 287) (.ref cv) .none)) → s.heap.get? f = none → TabOK Kn h' c P ents → CRk Kn h' cv qual → Q (.ref f) { s with heap := h', toks := tk }) :
    wpAny (model PG w) A (makeFunction name qual params (.expr body) scope env [] [] [] pos firstLine) Q E s := by
  rw [makeFunction_eq]
  simp only [List.zip_nil_right, List.filterMap_nil, List.isEmpty_nil, if_true, pure_bind]
  unfold makeTail
  rw [hcl, hg0, hb0]
  refine wpAny_bind (wpAny_pure ?_)
  simp only [List.isEmpty_nil, if_true]
  refine wpAny_bind (wpAny_pure ?_)
  refine wpAny_bind (fcode hcode hT hm hap hKn fun c' h' tk he hT' hr => ?_)
  have X' : (K2 w.params).In h' := fun a o e => he a o (hPK a o e) (X a o e)
  have K' : K4 h' := hk4.keep fun a o ha e => he a o (by rcases ha with rfl | rfl; exact hP4.1; exact hP4.2) e
  refine wpAny_bind (bfor (s := { s with heap := h', toks := tk }) X' K' (wpAny_bind (gname (s := { s with heap := h', toks := tk }) X' ?_)))
  refine wpAny_bind (wpAny_pure (wpAny_newObj_type ?_ (by size_fits)))
  have hsz : s.heap.get? h'.objs.size = none := by
    cases q : s.heap.get? h'.objs.size with
    | none => rfl
    | some o =>
      by_cases z : h'.objs.size = P
      · obtain ⟨ps, hp⟩ := hT'.tab
        rw [← z, get?_size] at hp; cases hp
      · have := he _ _ z q
        rw [get?_size] at this; cases this
  exact h h'.objs.size c' (h'.push (fnO (kla_fn name qual params body scope [] (.str "law_oh0021_01" 287) (.ref c') .none))) tk (fun b o hb e => Heap.get?_push_of_some _ (he b o hb e)) (Heap.get?_push_size _ rfl) hsz (hT'.keeps fun b o e => Heap.get?_push_of_some _ e) (hr.keeps fun b o e => Heap.get?_push_of_some _ e)
theorem lam_new {params : Arguments} {body : Expr} {scope : Scope} {env : Env} {c P : Addr} {ents : List (Pos × Str)} {pos : Pos} {qual : Str} {Q : Value → Shared → Prop} (live : ∀ a o, g a = some o → s.heap.get? a = some o) (hK : KIn w g) (hP : g P = none)
    (hq : env.qual ++ "<lambda>" = qual) (hdef : defaultsOf params env = ([], [])) (hcl : closureFor scope env = pure []) (hg0 : env.globals = mainGlobals) (hb0 : env.builtins = builtinsNs) (hcode : env.code = .ref c) (hT : TabOK (fun c o => g c = some o) s.heap c P ents) (hm : (pos, qual) ∈ ents)
    (hap : ∀ e ∈ ents, (e.1.line = pos.line ∧ e.1.col = pos.col) → e = (pos, qual))
    (h : ∀ f cv g' s', Stp (fun a => a = P) g g' s s' → g' f = some (fnO (kla_fn "<lambda>" qual params body scope [] (.str "law_oh0021_01" 287) (.ref cv) .none)) → (∃ oc vs t, g' cv = some oc ∧ oc.data = .fields vs ∧ vs[1]? = some (.str qual t)) →
      TabOK (fun c o => g' c = some o) s'.heap c P ents → g' P = none → Q (.ref f) s') :
    wpAny (model PG w) A (eval (.Lambda params body scope pos) env) Q E s := by
  subst hq
  have hPt := hT.tab
  have hP4 : (4 : Addr) ≠ P ∧ (1 : Addr) ≠ P := by
    refine hide fun Gₕ hGₕ => ?_
    obtain ⟨⟨o, e, _⟩, o1, e1, _⟩ := hK.k4
    refine hGₕ ?_
    exact ⟨fun z => (by rw [z, hP] at e; cases e), fun z => (by rw [z, hP] at e1; cases e1)⟩
  refine kla_eval hdef (mklam (Kn := KnOf g s.heap) (hK.frag live) (fun a o e z => by have := hK.kin a o e; rw [z, hP] at this; cases this) (hK.four live) hP4 hcl hg0 hb0 hcode (hT.mono fun _ _ _ _ q => .inl q) hm hap (fun c o e => .inr e) fun f cv h' tk he hf hfn hT' hr => ?_)
  refine hide fun Gₕ hGₕ => ?_
  obtain ⟨hp, gn, dr, t, os⟩ := s
  obtain ⟨ps, hps⟩ := hPt
  refine hGₕ ?_
  have D : Mm hp h' (fun a => a = P) [] := ⟨fun b o hx e => he b o hx e, fun b o e => by
    by_cases z : b = P
    · obtain ⟨ps', hp'⟩ := hT'.tab; exact ⟨_, z ▸ hp'⟩
    · exact ⟨o, he b o z e⟩, fun _ h => (nomatch h), List.nodup_nil⟩
  have S := D.stp (gn := gn) (dr := dr) (t := t) (t' := tk) (os := os) live (fun a z => by rw [z]; exact hP)
  have up : ∀ c o, h'.get? c = some o → o.cls = .type "code" → KnOf g hp c o → (g.grow hp h') c = some o := fun c o e hcl q => by
    rcases q with q | q
    · exact PH.grow_old q
    · exact PH.grow_new live q e fun ps z => by rw [z] at hcl; cases hcl
  refine h f cv (g.grow hp h') ⟨h', gn, dr, tk, os⟩ S (PH.grow_new live hfn hf fun ps z => by cases z) ?_ (hT'.mono up) ?_
  · obtain ⟨o, vs, tt, e1, e2, e3, e4, e5⟩ := hr
    exact ⟨o, vs, tt, up cv o e1 e5 e4, e2, e3⟩
  · cases q : g.grow hp h' P with
    | none => rfl
    | some o =>
      rcases PH.grow_inv q with z | z
      · rw [hP] at z; cases z
      · rw [show hp.get? P = some (tabObj ps) from hps] at z; exact nomatch z.1
end
end
section
open PySem PySem.W PyProof.Rows
set_option maxRecDepth 100000
set_option maxHeartbeats 1000000
/-- a set of points: a list without doubles of 0 to 3 -/
noncomputable def GL (xs : List Int) : Prop := xs.Nodup ∧ ∀ p ∈ xs, 0 ≤ p ∧ p < 4
noncomputable def Sub (xs ys : List Int) : Prop := ∀ p ∈ xs, p ∈ ys
noncomputable def Same (xs ys : List Int) : Prop := Sub xs ys ∧ Sub ys xs
noncomputable def Hits (r xs : List Int) : Prop := ∃ p ∈ r, p ∈ xs
noncomputable def Trans (rows : List (List Int)) (xs : List Int) : Prop := ∀ r ∈ rows, Hits r xs
noncomputable def MinT (rows : List (List Int)) (xs : List Int) : Prop := GL xs ∧ Trans rows xs ∧ ∀ ys, GL ys → Trans rows ys → Sub ys xs → Sub xs ys
theorem Sub.refl {xs : List Int} : Sub xs xs := fun _ h => h
theorem Sub.trans {xs ys zs : List Int} (a : Sub xs ys) (b : Sub ys zs) : Sub xs zs := fun p h => b p (a p h)
theorem Same.refl {xs : List Int} : Same xs xs := ⟨Sub.refl, Sub.refl⟩
theorem Same.symm {xs ys : List Int} (a : Same xs ys) : Same ys xs := ⟨a.2, a.1⟩
theorem Same.trans {xs ys zs : List Int} (a : Same xs ys) (b : Same ys zs) : Same xs zs := ⟨a.1.trans b.1, b.2.trans a.2⟩
theorem Hits.mono {r xs ys : List Int} (h : Hits r xs) (s : Sub xs ys) : Hits r ys := let ⟨p, a, b⟩ := h; ⟨p, a, s p b⟩
theorem Hits.symm {r xs : List Int} (h : Hits r xs) : Hits xs r := let ⟨p, a, b⟩ := h; ⟨p, b, a⟩
theorem Trans.mono {rows : List (List Int)} {xs ys : List Int} (h : Trans rows xs) (s : Sub xs ys) : Trans rows ys := fun r hr => (h r hr).mono s

/-- dd of a nodup list with another behind it -/
theorem ddFrom_mem (xs : List Int) : ∀ acc p, p ∈ xs.foldl (fun acc x => if x ∈ acc then acc else acc ++ [x]) acc ↔ p ∈ acc ∨ p ∈ xs := by
  induction xs with
  | nil => intro acc p; simp
  | cons x xs ih =>
    intro acc p
    rw [List.foldl_cons, ih]
    by_cases h : x ∈ acc
    · rw [if_pos h, List.mem_cons]
      constructor
      · rintro (a | a); exact .inl a; exact .inr (.inr a)
      · rintro (a | rfl | a); exact .inl a; exact .inl h; exact .inr a
    · rw [if_neg h, List.mem_append, List.mem_singleton, List.mem_cons, or_assoc]
theorem ddFrom_nodup (xs : List Int) : ∀ acc : List Int, acc.Nodup → (xs.foldl (fun acc x => if x ∈ acc then acc else acc ++ [x]) acc).Nodup := by
  induction xs with
  | nil => intro acc h; exact h
  | cons x xs ih =>
    intro acc h
    rw [List.foldl_cons]
    by_cases hx : x ∈ acc
    · rw [if_pos hx]; exact ih _ h
    · rw [if_neg hx]
      refine ih _ (List.nodup_append.mpr ⟨h, by simp, ?_⟩)
      intro a ha b hb e
      rw [List.mem_singleton] at hb
      subst hb e
      exact hx ha
theorem dd_mem (xs : List Int) (p : Int) : p ∈ dd xs ↔ p ∈ xs := by unfold dd; rw [ddFrom_mem]; simp
theorem dd_nodup (xs : List Int) : (dd xs).Nodup := ddFrom_nodup xs [] List.nodup_nil
/-- the number of points of a list without doubles -/
noncomputable def bt (b : Bool) : Nat := if b then 1 else 0
noncomputable def card (f : Int → Bool) : Nat := bt (f 0) + bt (f 1) + bt (f 2) + bt (f 3)
theorem bt_le {a b : Bool} (h : a = true → b = true) : bt a ≤ bt b := by cases a <;> cases b <;> simp_all [bt]
theorem len_card {xs : List Int} (h : GL xs) : xs.length = card fun p => decide (p ∈ xs) := by
  obtain ⟨hn, hb⟩ := h
  induction xs with
  | nil => rfl
  | cons x xs ih =>
    rw [List.nodup_cons] at hn
    have ih' := ih hn.2 fun p hp => hb p (List.mem_cons_of_mem _ hp)
    have hx := hb x List.mem_cons_self
    rw [List.length_cons, ih']
    dsimp only [card]
    have key : ∀ i : Int, bt (decide (i ∈ x :: xs)) = bt (decide (i ∈ xs)) + bt (decide (i = x)) := fun i => by
      by_cases e : i = x
      · subst e
        simp [hn.1, bt]
      · simp [e, bt]
    rw [key, key, key, key]
    have : x = 0 ∨ x = 1 ∨ x = 2 ∨ x = 3 := by lia
    rcases this with e | e | e | e <;> subst e <;> simp [bt] <;> lia
theorem card_le (f g : Int → Bool) (h : ∀ i, 0 ≤ i → i < 4 → f i = true → g i = true) : card f ≤ card g := by
  have a := bt_le (h 0 (by lia) (by lia))
  have b := bt_le (h 1 (by lia) (by lia))
  have c := bt_le (h 2 (by lia) (by lia))
  have d := bt_le (h 3 (by lia) (by lia))
  dsimp only [card]; lia
theorem card_eq (f g : Int → Bool) (h : ∀ i, 0 ≤ i → i < 4 → f i = true → g i = true) (e : card f = card g) : ∀ i, 0 ≤ i → i < 4 → g i = true → f i = true := by
  have a := bt_le (h 0 (by lia) (by lia))
  have b := bt_le (h 1 (by lia) (by lia))
  have c := bt_le (h 2 (by lia) (by lia))
  have d := bt_le (h 3 (by lia) (by lia))
  dsimp only [card] at e
  intro i h0 h4 hg
  have : i = 0 ∨ i = 1 ∨ i = 2 ∨ i = 3 := by lia
  have ib : ∀ {b c : Bool}, bt b = bt c → c = true → b = true := fun {b c} q r => by subst r; cases b <;> simp_all [bt]
  rcases this with z | z | z | z <;> subst z
  · exact ib (by lia) hg
  · exact ib (by lia) hg
  · exact ib (by lia) hg
  · exact ib (by lia) hg
theorem GL.len_le {xs : List Int} (h : GL xs) : xs.length ≤ 4 := by
  rw [len_card h]
  have hb : ∀ b, bt b ≤ 1 := fun b => by cases b <;> simp [bt]
  dsimp only [card]
  have := hb (decide ((0 : Int) ∈ xs)); have := hb (decide ((1 : Int) ∈ xs)); have := hb (decide ((2 : Int) ∈ xs)); have := hb (decide ((3 : Int) ∈ xs))
  lia
theorem Sub.len {xs ys : List Int} (h : Sub xs ys) (a : GL xs) (b : GL ys) : xs.length ≤ ys.length := by
  rw [len_card a, len_card b]
  exact card_le _ _ fun i _ _ e => by simpa using h i (by simpa using e)
theorem Sub.of_len {xs ys : List Int} (h : Sub xs ys) (a : GL xs) (b : GL ys) (e : ys.length ≤ xs.length) : Sub ys xs := by
  have := h.len a b
  intro p hp
  have q := card_eq (fun p => decide (p ∈ xs)) (fun p => decide (p ∈ ys)) (fun i _ _ e => by simpa using h i (by simpa using e)) (by rw [← len_card a, ← len_card b]; lia) p (b.2 p hp).1 (b.2 p hp).2 (by simpa using hp)
  simpa using q
theorem GL.dd {xs : List Int} (h : ∀ p ∈ xs, 0 ≤ p ∧ p < 4) : GL (dd xs) := ⟨dd_nodup xs, fun p hp => h p ((dd_mem xs p).mp hp)⟩
theorem GL.both {xs ys : List Int} (a : GL xs) (b : GL ys) : GL (Mine.dd (xs ++ ys)) := GL.dd fun p hp => by
  rcases List.mem_append.mp hp with h | h
  · exact a.2 p h
  · exact b.2 p h
/-- together as many as apart: no point in common -/
theorem both_lt {xs ys : List Int} (a : GL xs) (b : GL ys) : both xs ys < (xs.length : Int) + ys.length ↔ Hits ys xs := by
  have e : (both xs ys) = (card fun p => decide (p ∈ xs) || decide (p ∈ ys) : Nat) := by
    unfold both
    rw [len_card (a.both b)]
    congr 1
    dsimp only [card]
    simp only [dd_mem, List.mem_append, Bool.decide_or]
  rw [e, len_card a, len_card b]
  have key : ∀ p q : Bool, bt (p || q) + bt (p && q) = bt p + bt q := by decide
  have k : card (fun p => decide (p ∈ xs) || decide (p ∈ ys)) + card (fun p => decide (p ∈ xs) && decide (p ∈ ys)) = card (fun p => decide (p ∈ xs)) + card (fun p => decide (p ∈ ys)) := by
    dsimp only [card]
    have a0 := key (decide ((0 : Int) ∈ xs)) (decide ((0 : Int) ∈ ys))
    have a1 := key (decide ((1 : Int) ∈ xs)) (decide ((1 : Int) ∈ ys))
    have a2 := key (decide ((2 : Int) ∈ xs)) (decide ((2 : Int) ∈ ys))
    have a3 := key (decide ((3 : Int) ∈ xs)) (decide ((3 : Int) ∈ ys))
    lia
  have hb : ∀ b, bt b = 0 ∨ b = true := fun b => by cases b <;> simp [bt]
  have ht : bt true = 1 := rfl
  constructor
  · intro h
    have h1 : 0 < card (fun p => decide (p ∈ xs) && decide (p ∈ ys)) := by lia
    dsimp only [card] at h1
    have fin : ∀ i : Int, (decide (i ∈ xs) && decide (i ∈ ys)) = true → Hits ys xs := fun i q => by
      rw [Bool.and_eq_true, decide_eq_true_eq, decide_eq_true_eq] at q
      exact ⟨i, q.2, q.1⟩
    rcases hb (decide ((0 : Int) ∈ xs) && decide ((0 : Int) ∈ ys)) with z0 | z0
    · rcases hb (decide ((1 : Int) ∈ xs) && decide ((1 : Int) ∈ ys)) with z1 | z1
      · rcases hb (decide ((2 : Int) ∈ xs) && decide ((2 : Int) ∈ ys)) with z2 | z2
        · rcases hb (decide ((3 : Int) ∈ xs) && decide ((3 : Int) ∈ ys)) with z3 | z3
          · lia
          · exact fin _ z3
        · exact fin _ z2
      · exact fin _ z1
    · exact fin _ z0
  · rintro ⟨p, hp, hq⟩
    have h1 : card (fun i => decide (i = p)) ≤ card (fun p => decide (p ∈ xs) && decide (p ∈ ys)) := card_le _ _ fun i _ _ e => by
      have : i = p := by simpa using e
      subst this; simp [hp, hq]
    have h2 : card (fun i => decide (i = p)) = 1 := by
      have := b.2 p hp
      have : p = 0 ∨ p = 1 ∨ p = 2 ∨ p = 3 := by lia
      rcases this with e | e | e | e <;> subst e <;> decide
    lia
theorem both_eq {xs ys : List Int} (a : GL xs) (b : GL ys) : both xs ys = (xs.length : Int) + ys.length ↔ ¬ Hits ys xs := by
  rw [← both_lt a b]
  have : both xs ys ≤ (xs.length : Int) + ys.length := by
    unfold both
    have := dd_len (xs ++ ys)
    rw [List.length_append] at this
    lia
  lia
/-- together as many as the second: within -/
theorem both_sub {xs ys : List Int} (a : GL xs) (b : GL ys) : both xs ys = ys.length ↔ Sub xs ys := by
  have hs : Sub ys (Mine.dd (xs ++ ys)) := fun p hp => (dd_mem _ p).mpr (List.mem_append.mpr (.inr hp))
  have hg := a.both b
  have hl := hs.len b hg
  unfold both
  constructor
  · intro h p hp
    exact hs.of_len b hg (by lia) p ((dd_mem _ p).mpr (List.mem_append.mpr (.inl hp)))
  · intro h
    have : Sub (Mine.dd (xs ++ ys)) ys := fun p hp => by
      rcases List.mem_append.mp ((dd_mem _ p).mp hp) with q | q
      · exact h p q
      · exact q
    have := this.len hg b
    lia
end
section
open PySem PySem.W PyProof.Rows
set_option maxRecDepth 100000
set_option maxHeartbeats 1000000
/-- the least transversals, each once -/
structure BL (rows meet : List (List Int)) : Prop where
  min : ∀ x ∈ meet, MinT rows x
  all : ∀ y, MinT rows y → ∃ x ∈ meet, Same x y
  ap : meet.Pairwise fun a b => ¬ Same a b
theorem MinT.anti {rows : List (List Int)} {x y : List Int} (a : MinT rows x) (b : MinT rows y) (h : Sub x y) : Sub y x := b.2.2 x a.1 a.2.1 h
theorem MinT.same {rows : List (List Int)} {x y : List Int} (a : MinT rows x) (g : GL y) (h : Same x y) : MinT rows y :=
  ⟨g, a.2.1.mono h.1, fun z gz tz s => h.2.trans (a.2.2 z gz tz (s.trans h.2))⟩
/-- each transversal holds a least one -/
theorem exists_min {rows : List (List Int)} : ∀ (n : Nat) (xs : List Int), xs.length ≤ n → GL xs → Trans rows xs → ∃ ys, MinT rows ys ∧ Sub ys xs := by
  intro n
  induction n with
  | zero =>
    intro xs hl g t
    have e : xs = [] := List.length_eq_zero_iff.mp (by lia)
    subst e
    exact ⟨[], ⟨g, t, fun _ _ _ _ p hp => by cases hp⟩, Sub.refl⟩
  | succ n ih =>
    intro xs hl g t
    by_cases h : ∀ ys, GL ys → Trans rows ys → Sub ys xs → Sub xs ys
    · exact ⟨xs, ⟨g, t, h⟩, Sub.refl⟩
    · simp only [Classical.not_forall] at h
      obtain ⟨ys, gy, ty, sy, ns⟩ := h
      have hlt : ys.length < xs.length := by
        have h1 := sy.len gy g
        by_cases e : xs.length ≤ ys.length
        · exact absurd (sy.of_len gy g e) ns
        · lia
      obtain ⟨zs, mz, sz⟩ := ih ys (by lia) gy ty
      exact ⟨zs, mz, sz.trans sy⟩
theorem Trans.min {rows : List (List Int)} {xs : List Int} (g : GL xs) (t : Trans rows xs) : ∃ ys, MinT rows ys ∧ Sub ys xs := exists_min xs.length xs (Nat.le_refl _) g t

theorem GL.snoc {xs : List Int} {p : Int} (g : GL xs) (hp : 0 ≤ p ∧ p < 4) (hn : p ∉ xs) : GL (xs ++ [p]) := by
  refine ⟨List.nodup_append.mpr ⟨g.1, by simp, ?_⟩, fun q hq => ?_⟩
  · intro a ha b hb e
    rw [List.mem_singleton] at hb
    subst hb e
    exact hn ha
  · rcases List.mem_append.mp hq with h | h
    · exact g.2 q h
    · rw [List.mem_singleton] at h; subst h; exact hp
theorem not_hits {r xs : List Int} {p : Int} (h : ¬ Hits r xs) (hp : p ∈ r) : p ∉ xs := fun z => h ⟨p, hp, z⟩

section
variable {rows meet : List (List Int)} {row : List Int}
theorem mem_stay (B : BL rows meet) (gr : GL row) (x : List Int) : x ∈ stayF meet row ↔ x ∈ meet ∧ Hits row x := by
  unfold stayF
  rw [List.mem_filter]
  constructor
  · rintro ⟨a, b⟩; exact ⟨a, (both_lt (B.min x a).1 gr).mp (by simpa using b)⟩
  · rintro ⟨a, b⟩; exact ⟨a, by simpa using (both_lt (B.min x a).1 gr).mpr b⟩
theorem mem_apart (B : BL rows meet) (gr : GL row) (x : List Int) : x ∈ apartF meet (stayF meet row) ↔ x ∈ meet ∧ ¬ Hits row x := by
  unfold apartF
  rw [List.mem_filter, decide_eq_true_eq, mem_stay B gr]
  constructor
  · rintro ⟨a, b⟩; exact ⟨a, fun h => b ⟨a, h⟩⟩
  · rintro ⟨a, b⟩; exact ⟨a, fun h => b h.2⟩
theorem mem_more (B : BL rows meet) (gr : GL row) (z : List Int) : z ∈ moreF (apartF meet (stayF meet row)) row ↔ ∃ x ∈ meet, ¬ Hits row x ∧ ∃ p ∈ row, z = x ++ [p] := by
  unfold moreF
  rw [List.mem_flatMap]
  constructor
  · rintro ⟨x, hx, hz⟩
    obtain ⟨h1, h2⟩ := (mem_apart B gr x).mp hx
    obtain ⟨p, hp, rfl⟩ := List.mem_map.mp hz
    exact ⟨x, h1, h2, p, hp, rfl⟩
  · rintro ⟨x, h1, h2, p, hp, rfl⟩
    exact ⟨x, (mem_apart B gr x).mpr ⟨h1, h2⟩, List.mem_map.mpr ⟨p, hp, rfl⟩⟩
theorem within_nil (B : BL rows meet) (gr : GL row) {z : List Int} (gz : GL z) : within (stayF meet row) z = [] ↔ ∀ less ∈ meet, Hits row less → ¬ Sub less z := by
  unfold within
  rw [List.filter_eq_nil_iff]
  constructor
  · intro h less hl hh s
    exact h less ((mem_stay B gr less).mpr ⟨hl, hh⟩) (by simpa using (both_sub (B.min less hl).1 gz).mpr s)
  · intro h less hl q
    obtain ⟨h1, h2⟩ := (mem_stay B gr less).mp hl
    exact h less h1 h2 ((both_sub (B.min less h1).1 gz).mp (by simpa using q))
theorem mem_grown (B : BL rows meet) (gr : GL row) (z : List Int) : z ∈ grown meet row ↔ (z ∈ meet ∧ Hits row z) ∨ ∃ x ∈ meet, ¬ Hits row x ∧ ∃ p ∈ row, z = x ++ [p] ∧ ∀ less ∈ meet, Hits row less → ¬ Sub less z := by
  unfold grown
  rw [List.mem_append, mem_stay B gr, List.mem_filter, mem_more B gr, decide_eq_true_eq]
  have gz : ∀ {x : List Int} {p : Int}, x ∈ meet → ¬ Hits row x → p ∈ row → GL (x ++ [p]) := fun hx hh hp => (B.min _ hx).1.snoc (gr.2 _ hp) (not_hits hh hp)
  constructor
  · rintro (a | ⟨⟨x, h1, h2, p, hp, rfl⟩, b⟩)
    · exact .inl a
    · exact .inr ⟨x, h1, h2, p, hp, rfl, (within_nil B gr (gz h1 h2 hp)).mp b⟩
  · rintro (a | ⟨x, h1, h2, p, hp, rfl, b⟩)
    · exact .inl a
    · exact .inr ⟨⟨x, h1, h2, p, hp, rfl⟩, (within_nil B gr (gz h1 h2 hp)).mpr b⟩
theorem trans_snoc {rows : List (List Int)} {row xs : List Int} : Trans (rows ++ [row]) xs ↔ Trans rows xs ∧ Hits row xs := by
  constructor
  · intro h; exact ⟨fun r hr => h r (List.mem_append.mpr (.inl hr)), h row (List.mem_append.mpr (.inr List.mem_cons_self))⟩
  · rintro ⟨a, b⟩ r hr
    rcases List.mem_append.mp hr with h | h
    · exact a r h
    · rw [List.mem_singleton] at h; subst h; exact b
theorem sub_snoc {x z : List Int} {p : Int} : Sub z (x ++ [p]) → p ∉ z → Sub z x := fun h hn q hq => by
  rcases List.mem_append.mp (h q hq) with a | a
  · exact a
  · rw [List.mem_singleton] at a; subst a; exact absurd hq hn
theorem BL.grown (B : BL rows meet) (gr : GL row) : BL (rows ++ [row]) (grown meet row) := by
  refine ⟨fun z hz => ?_, fun y hy => ?_, ?_⟩
  · rcases (mem_grown B gr z).mp hz with ⟨a, b⟩ | ⟨x, h1, h2, p, hp, rfl, b⟩
    · have m := B.min z a
      exact ⟨m.1, trans_snoc.mpr ⟨m.2.1, b⟩, fun ys gy ty s => m.2.2 ys gy (trans_snoc.mp ty).1 s⟩
    · have m := B.min x h1
      have hn := not_hits h2 hp
      refine ⟨m.1.snoc (gr.2 p hp) hn, trans_snoc.mpr ⟨m.2.1.mono fun q hq => List.mem_append.mpr (.inl hq), ⟨p, hp, List.mem_append.mpr (.inr List.mem_cons_self)⟩⟩, fun ys gy ty s => ?_⟩
      obtain ⟨t1, t2⟩ := trans_snoc.mp ty
      obtain ⟨u, mu, su⟩ := t1.min gy
      obtain ⟨v, hv, sv⟩ := B.all u mu
      have sz : Sub v (x ++ [p]) := (sv.1.trans su).trans s
      by_cases hh : Hits row v
      · exact absurd sz (b v hv hh)
      · have s1 : Sub v x := sub_snoc sz (not_hits hh hp)
        have s2 : Sub x v := (B.min v hv).anti m s1
        have s3 : Sub x ys := s2.trans (sv.1.trans su)
        obtain ⟨q, hq1, hq2⟩ := t2
        have hqp : q = p := by
          rcases List.mem_append.mp (s q hq2) with a | a
          · exact absurd ⟨q, hq1, a⟩ h2
          · exact List.mem_singleton.mp a
        intro w hw
        rcases List.mem_append.mp hw with a | a
        · exact s3 w a
        · rw [List.mem_singleton] at a; subst a hqp; exact hq2
  · obtain ⟨t1, t2⟩ := trans_snoc.mp hy.2.1
    obtain ⟨u, mu, su⟩ := t1.min hy.1
    obtain ⟨v, hv, sv⟩ := B.all u mu
    have svy : Sub v y := sv.1.trans su
    have mv := B.min v hv
    by_cases hh : Hits row v
    · refine ⟨v, (mem_grown B gr v).mpr (.inl ⟨hv, hh⟩), svy, hy.2.2 v mv.1 (trans_snoc.mpr ⟨mv.2.1, hh⟩) svy⟩
    · obtain ⟨p, hp, hpy⟩ := t2
      have hn := not_hits hh hp
      have gz := mv.1.snoc (gr.2 p hp) hn
      have s1 : Sub (v ++ [p]) y := fun q hq => by
        rcases List.mem_append.mp hq with a | a
        · exact svy q a
        · rw [List.mem_singleton] at a; subst a; exact hpy
      have tz : Trans (rows ++ [row]) (v ++ [p]) := trans_snoc.mpr ⟨mv.2.1.mono fun q hq => List.mem_append.mpr (.inl hq), ⟨p, hp, List.mem_append.mpr (.inr List.mem_cons_self)⟩⟩
      have s2 : Sub y (v ++ [p]) := hy.2.2 _ gz tz s1
      refine ⟨v ++ [p], (mem_grown B gr _).mpr (.inr ⟨v, hv, hh, p, hp, rfl, fun less hl hlh hls => ?_⟩), s1, s2⟩
      have ml := B.min less hl
      have s3 : Sub y less := hy.2.2 less ml.1 (trans_snoc.mpr ⟨ml.2.1, hlh⟩) (hls.trans s1)
      have s4 : Sub less v := ml.2.2 v mv.1 mv.2.1 (svy.trans s3)
      exact hh (hlh.mono s4)
  · unfold Mine.grown
    have cross : ∀ {x x' : List Int} {p p' : Int}, x ∈ meet → ¬ Hits row x → p ∈ row → x' ∈ meet → ¬ Hits row x' → p' ∈ row → Same (x ++ [p]) (x' ++ [p']) → p = p' ∧ Same x x' := fun {x x' p p'} hx hh hp hx' hh' hp' e => by
      have e1 : p = p' := by
        rcases List.mem_append.mp (e.1 p (List.mem_append.mpr (.inr List.mem_cons_self))) with a | a
        · exact absurd a (not_hits hh' hp)
        · exact List.mem_singleton.mp a
      subst e1
      refine ⟨rfl, ?_, ?_⟩
      · exact sub_snoc ((fun q hq => e.1 q (List.mem_append.mpr (.inl hq))) : Sub x (x' ++ [p])) (not_hits hh hp)
      · exact sub_snoc ((fun q hq => e.2 q (List.mem_append.mpr (.inl hq))) : Sub x' (x ++ [p])) (not_hits hh' hp')
    refine List.pairwise_append.mpr ⟨B.ap.filter _, List.Pairwise.filter _ ?_, ?_⟩
    · unfold moreF
      refine List.pairwise_flatMap.mpr ⟨fun x hx => ?_, ?_⟩
      · obtain ⟨h1, h2⟩ := (mem_apart B gr x).mp hx
        rw [List.pairwise_map]
        refine List.Pairwise.imp_of_mem ?_ gr.1
        intro p q hp hq hne e
        exact hne (cross h1 h2 hp h1 h2 hq e).1
      · have pw : (apartF meet (stayF meet row)).Pairwise fun a b => ¬ Same a b := B.ap.filter _
        refine List.Pairwise.imp_of_mem ?_ pw
        intro x x' hx hx' hne z hz z' hz' e
        obtain ⟨h1, h2⟩ := (mem_apart B gr x).mp hx
        obtain ⟨h1', h2'⟩ := (mem_apart B gr x').mp hx'
        obtain ⟨p, hp, rfl⟩ := List.mem_map.mp hz
        obtain ⟨p', hp', rfl⟩ := List.mem_map.mp hz'
        exact hne (cross h1 h2 hp h1' h2' hp' e).2
    · intro a ha b hb e
      obtain ⟨h1, h2⟩ := (mem_stay B gr a).mp ha
      obtain ⟨hb1, hb2⟩ := List.mem_filter.mp hb
      obtain ⟨x, h3, h4, p, hp, rfl⟩ := (mem_more B gr b).mp hb1
      have gz : GL (x ++ [p]) := (B.min _ h3).1.snoc (gr.2 _ hp) (not_hits h4 hp)
      exact (within_nil B gr gz).mp (by simpa using hb2) a h1 h2 e.1
end
theorem BL.start : BL [] [[]] := by
  have e : ∀ {α : Type} {P : α → Prop}, ∀ p ∈ ([] : List α), P p := fun _ h => nomatch h
  have g : GL [] := ⟨List.nodup_nil, e⟩
  have t : ∀ {xs}, Trans [] xs := fun {_} => e
  have s : ∀ {xs : List Int}, Sub [] xs := fun {_} => e
  refine ⟨fun x hx => ?_, fun y hy => ⟨[], List.mem_cons_self, s, hy.2.2 [] g t s⟩, by simp⟩
  rw [List.mem_singleton] at hx
  subst hx
  exact ⟨g, t, fun _ _ _ _ => s⟩
theorem BL.fold : ∀ {rows pre meet : List (List Int)}, BL pre meet → (∀ r ∈ rows, GL r) → BL (pre ++ rows) (rows.foldl Mine.grown meet)
  | [], pre, meet, B, _ => by simpa using B
  | r :: rows, pre, meet, B, h => by
    have := BL.fold (B.grown (h r List.mem_cons_self)) fun x hx => h x (List.mem_cons_of_mem _ hx)
    rw [List.append_assoc] at this
    exact this
theorem BL.reduce {rows : List (List Int)} (h : ∀ r ∈ rows, GL r) : BL rows (rows.foldl Mine.grown [[]]) := BL.fold BL.start h

/-- the blocker of the blocker -/
theorem blocker {rows meet : List (List Int)} (B : BL rows meet) (hr : ∀ r ∈ rows, GL r) (r : List Int) : MinT meet r ↔ GL r ∧ ∃ ρ ∈ rows, Same ρ r ∧ ∀ ρ' ∈ rows, Sub ρ' r → Sub r ρ' := by
  have tr : ∀ ρ ∈ rows, Trans meet ρ := fun ρ hρ x hx => ((B.min x hx).2.1 ρ hρ).symm
  have holds : ∀ u, GL u → Trans meet u → ∃ ρ ∈ rows, Sub ρ u := by
    intro u gu tu
    refine Classical.byContradiction fun hno => ?_
    have hc : GL (([0, 1, 2, 3] : List Int).filter fun i => decide (i ∉ u)) := by
      refine ⟨List.Pairwise.filter _ (by decide), fun p hp => ?_⟩
      have := (List.mem_filter.mp hp).1
      simp at this; lia
    have ht : Trans rows (([0, 1, 2, 3] : List Int).filter fun i => decide (i ∉ u)) := by
      intro ρ hρ
      refine Classical.byContradiction fun hh => hno ⟨ρ, hρ, fun p hp => Classical.byContradiction fun hpu => hh ⟨p, hp, List.mem_filter.mpr ⟨?_, by simpa using hpu⟩⟩⟩
      have := (hr ρ hρ).2 p hp
      have : p = 0 ∨ p = 1 ∨ p = 2 ∨ p = 3 := by lia
      rcases this with e | e | e | e <;> subst e <;> simp
    obtain ⟨m, mm, sm⟩ := ht.min hc
    obtain ⟨x, hx, sx⟩ := B.all m mm
    obtain ⟨p, hp1, hp2⟩ := tu x hx
    have := (List.mem_filter.mp (sm p (sx.1 p hp1))).2
    exact absurd hp2 (by simpa using this)
  constructor
  · intro m
    obtain ⟨ρ, hρ, s⟩ := holds r m.1 m.2.1
    refine ⟨m.1, ρ, hρ, ⟨s, m.2.2 ρ (hr ρ hρ) (tr ρ hρ) s⟩, fun ρ' hρ' s' => m.2.2 ρ' (hr ρ' hρ') (tr ρ' hρ') s'⟩
  · rintro ⟨g, ρ, hρ, s, hm⟩
    refine ⟨g, (tr ρ hρ).mono s.1, fun ys gy ty sy => ?_⟩
    obtain ⟨ρ', hρ', s'⟩ := holds ys gy ty
    exact (hm ρ' hρ' (s'.trans sy)).trans s'
end
section
open PySem PySem.W PyProof.Rows
set_option maxRecDepth 100000
set_option maxHeartbeats 1000000
/-- an entry of the heap: its set, its number -/
noncomputable abbrev Ent := List Int × Int
noncomputable def wt (e : Ent) : Nat := 5 ^ (4 - e.1.length)
noncomputable def weight (h : List Ent) : Nat := (h.map wt).sum
structure SInv (rows : List (List Int)) (heap : List Ent) (found : List (List Int)) (num : Int) : Prop where
  gl : ∀ e ∈ heap, GL e.1
  nm : ∀ e ∈ heap, e.2 ≤ num
  nd : (heap.map (·.2)).Nodup
  fm : ∀ x ∈ found, MinT rows x
  fa : found.Pairwise fun a b => ¬ Same a b
  fs : found.Pairwise fun a b => a.length ≤ b.length
  fh : ∀ x ∈ found, ∀ e ∈ heap, x.length ≤ e.1.length
  al : ∀ y, MinT rows y → (∃ x ∈ found, Same x y) ∨ ∃ e ∈ heap, Sub e.1 y
  ms : found.length + weight heap ≤ 625
section
variable {rows : List (List Int)} {heap h' : List Ent} {found : List (List Int)} {num : Int} {e : Ent}
theorem weight_perm (p : heap.Perm h') : weight heap = weight h' := (p.map wt).sum_nat
theorem SInv.perm (S : SInv rows heap found num) (p : heap.Perm h') : SInv rows h' found num :=
  ⟨fun e he => S.gl e (p.mem_iff.mpr he), fun e he => S.nm e (p.mem_iff.mpr he), (p.map _).nodup S.nd, S.fm, S.fa, S.fs, fun x hx e he => S.fh x hx e (p.mem_iff.mpr he),
    fun y hy => (S.al y hy).imp id fun ⟨e, he, s⟩ => ⟨e, p.mem_iff.mp he, s⟩, weight_perm p ▸ S.ms⟩
theorem SInv.start : SInv rows [([], 0)] [] 0 := by
  refine ⟨fun e he => ?_, fun e he => ?_, by simp, fun _ h => (nomatch h), List.Pairwise.nil, List.Pairwise.nil, fun _ h => (nomatch h), fun y _ => .inr ⟨_, List.mem_cons_self, fun _ h => (nomatch h)⟩, by decide⟩
  · rw [List.mem_singleton] at he; subst he; exact ⟨List.nodup_nil, fun _ h => nomatch h⟩
  · rw [List.mem_singleton] at he; subst he; exact Int.le_refl _
theorem wt_pos (e : Ent) : 0 < wt e := Nat.pow_pos (by decide)
theorem weight_cons : weight (e :: h') = wt e + weight h' := by unfold weight; rw [List.map_cons, List.sum_cons]
/-- one with a found one within is dropped -/
theorem SInv.skip (S : SInv rows (e :: h') found num) (hw : ∃ x ∈ found, Sub x e.1) : SInv rows h' found num := by
  refine ⟨fun e he => S.gl e (List.mem_cons_of_mem _ he), fun e he => S.nm e (List.mem_cons_of_mem _ he), (List.nodup_cons.mp S.nd).2, S.fm, S.fa, S.fs, fun x hx e he => S.fh x hx e (List.mem_cons_of_mem _ he), fun y hy => ?_, ?_⟩
  · rcases S.al y hy with h | ⟨e2, he, s⟩
    · exact .inl h
    · rcases List.mem_cons.mp he with rfl | he
      · obtain ⟨x, hx, sx⟩ := hw
        have s2 := sx.trans s
        exact .inl ⟨x, hx, s2, (S.fm x hx).anti hy s2⟩
      · exact .inr ⟨e2, he, s⟩
  · have := S.ms; rw [weight_cons] at this; lia
/-- one that meets all is found -/
theorem SInv.take (S : SInv rows (e :: h') found num) (hm : ∀ x ∈ h', e.1.length ≤ x.1.length) (hw : ∀ x ∈ found, ¬ Sub x e.1) (ht : Trans rows e.1) : SInv rows h' (found ++ [e.1]) num := by
  have ge := S.gl e List.mem_cons_self
  have mn : MinT rows e.1 := by
    refine ⟨ge, ht, fun ys gy ty s => ?_⟩
    obtain ⟨y, my, sy⟩ := ty.min gy
    have sye := sy.trans s
    rcases S.al y my with ⟨x, hx, sx⟩ | ⟨e2, he2, s2⟩
    · exact absurd (sx.1.trans sye) (hw x hx)
    · have g2 := S.gl e2 he2
      have hl : e.1.length ≤ e2.1.length := by
        rcases List.mem_cons.mp he2 with rfl | h
        · exact Nat.le_refl _
        · exact hm e2 h
      have h1 := s2.len g2 my.1
      exact (sye.of_len my.1 ge (by lia)).trans sy
  refine ⟨fun e he => S.gl e (List.mem_cons_of_mem _ he), fun e he => S.nm e (List.mem_cons_of_mem _ he), (List.nodup_cons.mp S.nd).2, fun x hx => ?_, ?_, ?_, fun x hx e' he' => ?_, fun y hy => ?_, ?_⟩
  · rcases List.mem_append.mp hx with h | h
    · exact S.fm x h
    · rw [List.mem_singleton] at h; subst h; exact mn
  · refine List.pairwise_append.mpr ⟨S.fa, by simp, fun a ha b hb z => ?_⟩
    rw [List.mem_singleton] at hb; subst hb; exact hw a ha z.1
  · refine List.pairwise_append.mpr ⟨S.fs, by simp, fun a ha b hb => ?_⟩
    rw [List.mem_singleton] at hb; subst hb; exact S.fh a ha e List.mem_cons_self
  · rcases List.mem_append.mp hx with h | h
    · exact S.fh x h e' (List.mem_cons_of_mem _ he')
    · rw [List.mem_singleton] at h; subst h; exact hm e' he'
  · rcases S.al y hy with ⟨x, hx, s⟩ | ⟨e2, he, s⟩
    · exact .inl ⟨x, List.mem_append.mpr (.inl hx), s⟩
    · rcases List.mem_cons.mp he with rfl | he
      · exact .inl ⟨_, List.mem_append.mpr (.inr List.mem_cons_self), s, mn.anti hy s⟩
      · exact .inr ⟨e2, he, s⟩
  · have := S.ms; rw [weight_cons] at this; have := wt_pos e; rw [List.length_append]; simp; lia
/-- what goes back -/
noncomputable def kids (one : List Int) : Int → List Int → List Ent
  | _, [] => []
  | n, p :: ps => (one ++ [p], n + 1) :: kids one (n + 1) ps
theorem kids_snoc (one : List Int) (p : Int) : ∀ (n : Int) (ps : List Int), kids one n (ps ++ [p]) = kids one n ps ++ [(one ++ [p], n + ps.length + 1)]
  | n, [] => by simp [kids]
  | n, q :: ps => by
    have e : n + 1 + (ps.length : Int) + 1 = n + ((ps.length + 1 : Nat) : Int) + 1 := by lia
    rw [List.cons_append, kids, kids, kids_snoc one p (n + 1) ps, List.cons_append, List.length_cons, e]
theorem kids_mem (one : List Int) : ∀ (n : Int) (ps : List Int) (e : Ent), e ∈ kids one n ps → n < e.2 ∧ e.2 ≤ n + ps.length ∧ ∃ p ∈ ps, e.1 = one ++ [p]
  | n, [], e, h => by cases h
  | n, q :: ps, e, h => by
    rw [kids] at h
    rcases List.mem_cons.mp h with rfl | h
    · exact ⟨by show n < n + 1; lia, by show n + 1 ≤ _; rw [List.length_cons]; lia, q, List.mem_cons_self, rfl⟩
    · obtain ⟨a, b, p, hp, c⟩ := kids_mem one (n + 1) ps e h
      exact ⟨by lia, by rw [List.length_cons]; lia, p, List.mem_cons_of_mem _ hp, c⟩
theorem kids_of (one : List Int) : ∀ (n : Int) (ps : List Int) (p : Int), p ∈ ps → ∃ k, (one ++ [p], k) ∈ kids one n ps
  | n, [], p, h => by cases h
  | n, q :: ps, p, h => by
    rw [kids]
    rcases List.mem_cons.mp h with rfl | h
    · exact ⟨n + 1, List.mem_cons_self⟩
    · obtain ⟨k, hk⟩ := kids_of one (n + 1) ps p h
      exact ⟨k, List.mem_cons_of_mem _ hk⟩
theorem kids_nodup (one : List Int) : ∀ (n : Int) (ps : List Int), ((kids one n ps).map (·.2)).Nodup
  | n, [] => List.nodup_nil
  | n, q :: ps => by
    rw [kids, List.map_cons, List.nodup_cons]
    refine ⟨fun h => ?_, kids_nodup one (n + 1) ps⟩
    obtain ⟨e, he, z⟩ := List.mem_map.mp h
    have := (kids_mem one _ _ e he).1
    have z' : e.2 = n + 1 := z
    lia
theorem kids_weight (one : List Int) : ∀ (n : Int) (ps : List Int), weight (kids one n ps) = ps.length * 5 ^ (4 - (one.length + 1))
  | n, [] => by simp [kids, weight]
  | n, q :: ps => by
    rw [kids, weight_cons, kids_weight one (n + 1) ps, List.length_cons, Nat.add_mul]
    unfold wt
    simp
    lia
/-- else it goes back with each point of the first row that it misses -/
theorem SInv.grow {m : List Int} (S : SInv rows (e :: h') found num) (hm : ∀ x ∈ h', e.1.length ≤ x.1.length) (gm : GL m) (hr : m ∈ rows) (hh : ¬ Hits m e.1) : SInv rows (h' ++ kids e.1 num m) found (num + m.length) := by
  have ge := S.gl e List.mem_cons_self
  have gk : ∀ p ∈ m, GL (e.1 ++ [p]) := fun p hp => ge.snoc (gm.2 p hp) (not_hits hh hp)
  refine ⟨fun x hx => ?_, fun x hx => ?_, ?_, S.fm, S.fa, S.fs, fun x hx y hy => ?_, fun y hy => ?_, ?_⟩
  · rcases List.mem_append.mp hx with h | h
    · exact S.gl x (List.mem_cons_of_mem _ h)
    · obtain ⟨_, _, p, hp, c⟩ := kids_mem _ _ _ _ h
      rw [c]; exact gk p hp
  · rcases List.mem_append.mp hx with h | h
    · have := S.nm x (List.mem_cons_of_mem _ h); lia
    · exact (kids_mem _ _ _ _ h).2.1
  · rw [List.map_append]
    refine List.nodup_append.mpr ⟨(List.nodup_cons.mp S.nd).2, kids_nodup _ _ _, ?_⟩
    intro a ha b hb z
    obtain ⟨x, hx, rfl⟩ := List.mem_map.mp ha
    obtain ⟨y, hy, rfl⟩ := List.mem_map.mp hb
    have h1 := S.nm x (List.mem_cons_of_mem _ hx)
    have h2 := (kids_mem _ _ _ _ hy).1
    have z' : x.2 = y.2 := z
    lia
  · rcases List.mem_append.mp hy with h | h
    · exact S.fh x hx y (List.mem_cons_of_mem _ h)
    · obtain ⟨_, _, p, hp, c⟩ := kids_mem _ _ _ _ h
      have := S.fh x hx e List.mem_cons_self
      rw [c, List.length_append]; lia
  · rcases S.al y hy with h | ⟨e2, he, s⟩
    · exact .inl h
    · rcases List.mem_cons.mp he with rfl | he
      · obtain ⟨p, hp, hpy⟩ := hy.2.1 m hr
        obtain ⟨k, hk⟩ := kids_of e2.1 num m p hp
        refine .inr ⟨_, List.mem_append.mpr (.inr hk), fun q hq => ?_⟩
        rcases List.mem_append.mp hq with a | a
        · exact s q a
        · rw [List.mem_singleton] at a; subst a; exact hpy
      · exact .inr ⟨e2, List.mem_append.mpr (.inl he), s⟩
  · have h1 := S.ms
    rw [weight_cons] at h1
    have h2 : weight (h' ++ kids e.1 num m) = weight h' + weight (kids e.1 num m) := by unfold weight; rw [List.map_append, List.sum_append]
    rw [h2, kids_weight]
    have h3 : m.length * 5 ^ (4 - (e.1.length + 1)) ≤ wt e := by
      cases m with
      | nil => simp
      | cons p ps =>
        have hl := (gk p List.mem_cons_self).len_le
        rw [List.length_append, List.length_singleton] at hl
        have hm4 := gm.len_le
        unfold wt
        have : 4 - e.1.length = (4 - (e.1.length + 1)) + 1 := by lia
        rw [this, Nat.pow_succ, Nat.mul_comm]
        exact Nat.mul_le_mul_left _ (by lia)
    lia
/-- the weight falls -/
theorem weight_grow {m : List Int} (S : SInv rows (e :: h') found num) (gm : GL m) (hh : ¬ Hits m e.1) : weight (h' ++ kids e.1 num m) < weight (e :: h') := by
  have ge := S.gl e List.mem_cons_self
  have h2 : weight (h' ++ kids e.1 num m) = weight h' + weight (kids e.1 num m) := by unfold weight; rw [List.map_append, List.sum_append]
  rw [h2, kids_weight, weight_cons]
  cases m with
  | nil => simp; exact wt_pos e
  | cons p ps =>
    have hl := (ge.snoc (gm.2 p List.mem_cons_self) (not_hits hh List.mem_cons_self)).len_le
    rw [List.length_append, List.length_singleton] at hl
    have hm4 := gm.len_le
    unfold wt
    have : 4 - e.1.length = (4 - (e.1.length + 1)) + 1 := by lia
    rw [this, Nat.pow_succ]
    have h5 : 0 < 5 ^ (4 - (e.1.length + 1)) := Nat.pow_pos (by decide)
    have := Nat.mul_lt_mul_of_pos_left (show (p :: ps).length < 5 by lia) h5
    rw [Nat.mul_comm] at this
    lia
theorem weight_cons_lt : weight h' < weight (e :: h') := by rw [weight_cons]; have := wt_pos e; lia
theorem SInv.done (S : SInv rows [] found num) : BL rows found := ⟨S.fm, fun y hy => (S.al y hy).elim id (fun ⟨_, h, _⟩ => nomatch h), S.fa⟩
theorem weight_len : ∀ h : List Ent, h.length ≤ weight h
  | [] => Nat.zero_le _
  | e :: h => by rw [weight_cons, List.length_cons]; have := wt_pos e; have := weight_len h; lia
theorem SInv.len (S : SInv rows heap found num) : heap.length ≤ 625 ∧ found.length ≤ 625 := by have := S.ms; have := weight_len heap; lia
end
end
section
open PySem PySem.W PyProof.Rows
set_option maxRecDepth 100000
set_option maxHeartbeats 1000000
noncomputable def bv (a b c d : Bool) : Int := (bt a + 2 * bt b + 4 * bt c + 8 * bt d : Nat)
theorem numF_bv {xs : List Int} (h : GL xs) : numF xs = bv (decide ((0 : Int) ∈ xs)) (decide ((1 : Int) ∈ xs)) (decide ((2 : Int) ∈ xs)) (decide ((3 : Int) ∈ xs)) := by
  obtain ⟨hn, hb⟩ := h
  induction xs with
  | nil => rfl
  | cons x xs ih =>
    rw [List.nodup_cons] at hn
    have ih' := ih hn.2 fun p hp => hb p (List.mem_cons_of_mem _ hp)
    have hx := hb x List.mem_cons_self
    have e : numF (x :: xs) = 2 ^ x.toNat + numF xs := by unfold numF; rw [List.map_cons, List.sum_cons]
    rw [e, ih']
    have key : ∀ i : Int, bt (decide (i ∈ x :: xs)) = bt (decide (i ∈ xs)) + bt (decide (i = x)) := fun i => by
      by_cases e : i = x
      · subst e
        simp [hn.1, bt]
      · simp [e, bt]
    unfold bv
    rw [key, key, key, key]
    have : x = 0 ∨ x = 1 ∨ x = 2 ∨ x = 3 := by lia
    rcases this with e | e | e | e <;> subst e <;> simp [bt] <;> lia
theorem and_bv : ∀ a b c d a' b' c' d' : Bool, Builtin.bitAnd (bv a b c d) (bv a' b' c' d') = bv (a && a') (b && b') (c && c') (d && d') := by decide +kernel
theorem bv_inj : ∀ a b c d a' b' c' d' : Bool, bv a b c d = bv a' b' c' d' → a = a' ∧ b = b' ∧ c = c' ∧ d = d' := by decide +kernel
theorem bv_range (a b c d : Bool) : 0 ≤ bv a b c d ∧ bv a b c d < 16 := by revert a b c d; decide +kernel
theorem four {P : Int → Prop} (h0 : P 0) (h1 : P 1) (h2 : P 2) (h3 : P 3) (i : Int) (h : 0 ≤ i ∧ i < 4) : P i := by
  have : i = 0 ∨ i = 1 ∨ i = 2 ∨ i = 3 := by lia
  rcases this with e | e | e | e <;> subst e <;> assumption
theorem numF_range {xs : List Int} (h : GL xs) : 0 ≤ numF xs ∧ numF xs < 16 := by rw [numF_bv h]; exact bv_range ..
theorem sub_num {xs ys : List Int} (a : GL xs) (b : GL ys) : Builtin.bitAnd (numF xs) (numF ys) = numF xs ↔ Sub xs ys := by
  rw [numF_bv a, numF_bv b, and_bv]
  constructor
  · intro h
    obtain ⟨h0, h1, h2, h3⟩ := bv_inj _ _ _ _ _ _ _ _ h
    have key : ∀ {p q : Prop} [Decidable p] [Decidable q], (decide p && decide q) = decide p → p → q := fun {p q} _ _ h hp => by simp [hp] at h; exact h
    intro p hp
    refine four (P := fun p => p ∈ xs → p ∈ ys) (key h0) (key h1) (key h2) (key h3) p (a.2 p hp) hp
  · intro h
    have key : ∀ i : Int, (decide (i ∈ xs) && decide (i ∈ ys)) = decide (i ∈ xs) := fun i => by
      by_cases e : i ∈ xs
      · simp [e, h i e]
      · simp [e]
    rw [key, key, key, key]
theorem hits_num {r xs : List Int} (a : GL r) (b : GL xs) : Builtin.bitAnd (numF r) (numF xs) ≠ 0 ↔ Hits r xs := by
  rw [numF_bv a, numF_bv b, and_bv]
  have z : (0 : Int) = bv false false false false := by decide
  constructor
  · intro h
    refine Classical.byContradiction fun hn => h ?_
    have key : ∀ i : Int, (decide (i ∈ r) && decide (i ∈ xs)) = false := fun i => by
      by_cases e : i ∈ r
      · have := not_hits hn e; simp [this]
      · simp [e]
    rw [key, key, key, key, z]
  · rintro ⟨p, hp, hq⟩ h
    rw [z] at h
    obtain ⟨h0, h1, h2, h3⟩ := bv_inj _ _ _ _ _ _ _ _ h
    have key : ∀ {i : Int}, (decide (i ∈ r) && decide (i ∈ xs)) = false → i ∈ r → i ∈ xs → False := fun {i} h a b => by simp [a, b] at h
    exact four (P := fun p => p ∈ r → p ∈ xs → False) (key h0) (key h1) (key h2) (key h3) p (a.2 p hp) hp hq
theorem same_num {xs ys : List Int} (a : GL xs) (b : GL ys) : numF xs = numF ys ↔ Same xs ys := by
  constructor
  · intro h
    have idem : ∀ a b c d : Bool, Builtin.bitAnd (bv a b c d) (bv a b c d) = bv a b c d := fun a b c d => by rw [and_bv]; simp
    refine ⟨(sub_num a b).mp ?_, (sub_num b a).mp ?_⟩
    · rw [← h, numF_bv a]; exact idem ..
    · rw [← h, numF_bv a]; exact idem ..
  · intro h
    rw [numF_bv a, numF_bv b]
    have key : ∀ i : Int, decide (i ∈ xs) = decide (i ∈ ys) := fun i => by
      have : i ∈ xs ↔ i ∈ ys := ⟨h.1 i, h.2 i⟩
      simp [this]
    rw [key, key, key, key]
noncomputable def setOf (n : Int) : List Int := ([0, 1, 2, 3] : List Int).filter fun p => decide (n / 2 ^ p.toNat % 2 = 1)
theorem setOf_GL (n : Int) : GL (setOf n) := by
  refine ⟨List.Pairwise.filter _ (by decide), fun p hp => ?_⟩
  have := (List.mem_filter.mp hp).1
  simp at this; lia
theorem numF_setOf (n : Int) (h : 0 ≤ n ∧ n < 16) : numF (setOf n) = n := by
  have : ∀ k : Fin 16, numF (setOf (k.val : Int)) = (k.val : Int) := by decide +kernel
  have := this ⟨n.toNat, by lia⟩
  simp only at this
  have e : ((n.toNat : Nat) : Int) = n := by lia
  rw [e] at this; exact this

/-- the least of a family, told by numbers -/
theorem mem_range16 (n : Int) : n ∈ (List.range 16).map Int.ofNat ↔ 0 ≤ n ∧ n < 16 := by
  rw [List.mem_map]
  constructor
  · rintro ⟨k, hk, rfl⟩; rw [List.mem_range] at hk; exact ⟨Int.natCast_nonneg k, by show (k : Int) < 16; lia⟩
  · rintro ⟨a, b⟩; exact ⟨n.toNat, by rw [List.mem_range]; lia, by show ((n.toNat : Nat) : Int) = n; lia⟩
theorem leastF_mem {T : List Int} {F : List Int → Prop} (hF : ∀ x y, GL y → F x → Same x y → F y) (hT : ∀ n, 0 ≤ n → n < 16 → (n ∈ T ↔ ∃ x, GL x ∧ F x ∧ n = numF x)) (hR : ∀ n ∈ T, 0 ≤ n ∧ n < 16) (n : Int) :
    n ∈ leastF T ↔ ∃ x, (GL x ∧ F x ∧ ∀ y, GL y → F y → Sub y x → Sub x y) ∧ n = numF x := by
  unfold leastF
  rw [List.mem_filter, mem_range16, Bool.and_eq_true, decide_eq_true_eq, decide_eq_true_eq, List.filter_eq_nil_iff]
  constructor
  · rintro ⟨hr, ht, hm⟩
    obtain ⟨x, gx, fx, rfl⟩ := (hT n hr.1 hr.2).mp ht
    refine ⟨x, ⟨gx, fx, fun y gy fy s => Classical.byContradiction fun hn => ?_⟩, rfl⟩
    have ry := numF_range gy
    refine hm (numF y) ((hT _ ry.1 ry.2).mpr ⟨y, gy, fy, rfl⟩) ?_
    rw [Bool.and_eq_true, decide_eq_true_eq, decide_eq_true_eq]
    exact ⟨fun e => hn ((same_num gy gx).mp e).2, (sub_num gy gx).mpr s⟩
  · rintro ⟨x, ⟨gx, fx, hm⟩, rfl⟩
    have rx := numF_range gx
    refine ⟨rx, (hT _ rx.1 rx.2).mpr ⟨x, gx, fx, rfl⟩, fun less hl q => ?_⟩
    rw [Bool.and_eq_true, decide_eq_true_eq, decide_eq_true_eq] at q
    have rl := hR less hl
    obtain ⟨y, gy, fy, rfl⟩ := (hT less rl.1 rl.2).mp hl
    have s := (sub_num gy gx).mp q.2
    exact q.1 ((same_num gy gx).mpr ⟨s, hm y gy fy s⟩)
theorem srt_srt (xs : List Int) : (srt xs).Pairwise (· ≤ ·) := by
  have := List.pairwise_mergeSort (le := fun a b : Int => decide (a ≤ b)) (fun a b c h1 h2 => by simp at *; lia) (fun a b => by simp; lia) xs
  exact this.imp fun h => by simpa using h
theorem srt_eq {xs ys : List Int} (hp : xs.Perm ys) (hs : ys.Pairwise (· ≤ ·)) : srt xs = ys :=
  List.Perm.eq_of_pairwise (le := fun a b : Int => a ≤ b) (fun a b _ _ h1 h2 => by lia) (srt_srt xs) hs ((srt_perm xs).trans hp)
theorem leastF_sorted (T : List Int) : (leastF T).Pairwise (· < ·) := List.Pairwise.filter _ (by decide)
theorem srt_least {xs T : List Int} (hn : xs.Nodup) (h : ∀ n, n ∈ xs ↔ n ∈ leastF T) : srt xs = leastF T := by
  refine srt_eq ((List.perm_ext_iff_of_nodup hn ?_).mpr h) ((leastF_sorted T).imp fun h => by lia)
  exact (leastF_sorted T).imp fun h => by lia
theorem srt_same {x y : List Int} (a : GL x) (b : GL y) (h : Same x y) : srt x = srt y :=
  srt_eq (((List.perm_ext_iff_of_nodup a.1 b.1).mpr fun p => ⟨h.1 p, h.2 p⟩).trans (srt_perm y).symm) (srt_srt y)
theorem same_srt {x y : List Int} (h : srt x = srt y) : Same x y :=
  ⟨fun p hp => (srt_perm y).mem_iff.mp (h ▸ (srt_perm x).mem_iff.mpr hp), fun p hp => (srt_perm x).mem_iff.mp (h ▸ (srt_perm y).mem_iff.mpr hp)⟩
section
variable {rows meet same : List (List Int)}
theorem BL.nums (B : BL rows meet) (n : Int) : n ∈ numbersF meet ↔ ∃ x, MinT rows x ∧ n = numF x := by
  unfold numbersF
  rw [List.mem_map]
  constructor
  · rintro ⟨x, hx, rfl⟩; exact ⟨x, B.min x hx, rfl⟩
  · rintro ⟨x, hx, rfl⟩
    obtain ⟨y, hy, s⟩ := B.all x hx
    exact ⟨y, hy, (same_num (B.min y hy).1 hx.1).mpr s⟩
theorem BL.nums_nodup (B : BL rows meet) : (numbersF meet).Nodup := by
  unfold numbersF List.Nodup
  rw [List.pairwise_map]
  refine List.Pairwise.imp_of_mem ?_ B.ap
  intro a b ha hb hne e
  exact hne ((same_num (B.min a ha).1 (B.min b hb).1).mp e)
theorem BL.rise_nodup (B : BL rows meet) : (meet.map srt).Nodup := by
  unfold List.Nodup
  rw [List.pairwise_map]
  exact B.ap.imp fun hne e => hne (same_srt e)
theorem BL.rise (B : BL rows meet) (z : List Int) : z ∈ meet.map srt ↔ ∃ x, MinT rows x ∧ z = srt x := by
  rw [List.mem_map]
  constructor
  · rintro ⟨x, hx, rfl⟩; exact ⟨x, B.min x hx, rfl⟩
  · rintro ⟨x, hx, rfl⟩
    obtain ⟨y, hy, s⟩ := B.all x hx
    exact ⟨y, hy, srt_same (B.min y hy).1 hx.1 s⟩
theorem BL.len (B : BL rows meet) (C : BL rows same) : same.length = meet.length := by
  have p := (List.perm_ext_iff_of_nodup C.rise_nodup B.rise_nodup).mpr fun z => by rw [C.rise, B.rise]
  have := p.length_eq
  simpa using this
end
/-- told by trying all 16 -/
noncomputable def triedF (numbers : List Int) : List Int := ((List.range 16).map Int.ofNat).filter fun number => decide (numbers.filter (fun other => decide (Builtin.bitAnd other number = 0)) = [])
theorem tried_mem {rows : List (List Int)} (hr : ∀ r ∈ rows, GL r) (n : Int) (h0 : 0 ≤ n) (h1 : n < 16) : n ∈ triedF (numbersF rows) ↔ ∃ x, GL x ∧ Trans rows x ∧ n = numF x := by
  unfold triedF
  rw [List.mem_filter, mem_range16, decide_eq_true_eq, List.filter_eq_nil_iff]
  have key : ∀ x, GL x → ((∀ o ∈ numbersF rows, ¬ decide (Builtin.bitAnd o (numF x) = 0) = true) ↔ Trans rows x) := fun x gx => by
    constructor
    · intro h r hrr
      have := h (numF r) (List.mem_map.mpr ⟨r, hrr, rfl⟩)
      exact (hits_num (hr r hrr) gx).mp (by simpa using this)
    · intro h o ho
      obtain ⟨r, hrr, rfl⟩ := List.mem_map.mp ho
      have := (hits_num (hr r hrr) gx).mpr (h r hrr)
      simpa using this
  constructor
  · rintro ⟨_, h⟩
    have e := numF_setOf n ⟨h0, h1⟩
    refine ⟨setOf n, setOf_GL n, (key _ (setOf_GL n)).mp ?_, e.symm⟩
    rw [e]; exact h
  · rintro ⟨x, gx, tx, rfl⟩
    exact ⟨⟨h0, h1⟩, (key x gx).mpr tx⟩
theorem claim1 {rows meet : List (List Int)} (hr : ∀ r ∈ rows, GL r) (B : BL rows meet) : srt (numbersF meet) = leastF (triedF (numbersF rows)) := by
  refine srt_least B.nums_nodup fun n => ?_
  rw [B.nums, leastF_mem (F := Trans rows) (fun x y _ t s => t.mono s.1) (fun n h0 h1 => tried_mem hr n h0 h1) fun n hn => (mem_range16 n).mp (List.mem_filter.mp hn).1]
  rfl
theorem claim3 {rows meet found : List (List Int)} (hr : ∀ r ∈ rows, GL r) (B : BL rows meet) (C : BL meet found) : srt (numbersF found) = leastF (numbersF rows) := by
  refine srt_least C.nums_nodup fun n => ?_
  rw [C.nums, leastF_mem (F := fun x => ∃ ρ ∈ rows, Same ρ x) (fun x y _ ⟨ρ, h, s⟩ s2 => ⟨ρ, h, s.trans s2⟩) (fun n h0 h1 => ?_) fun n hn => ?_]
  · constructor
    · rintro ⟨x, mx, rfl⟩
      obtain ⟨g, ρ, hρ, s, m⟩ := (blocker B hr x).mp mx
      exact ⟨x, ⟨g, ⟨ρ, hρ, s⟩, fun y _ ⟨ρ', hρ', s'⟩ sy => (m ρ' hρ' (s'.1.trans sy)).trans s'.1⟩, rfl⟩
    · rintro ⟨x, ⟨g, ⟨ρ, hρ, s⟩, m⟩, rfl⟩
      exact ⟨x, (blocker B hr x).mpr ⟨g, ρ, hρ, s, fun ρ' hρ' s' => m ρ' (hr ρ' hρ') ⟨ρ', hρ', Same.refl⟩ s'⟩, rfl⟩
  · unfold numbersF
    rw [List.mem_map]
    constructor
    · rintro ⟨r, h, rfl⟩; exact ⟨r, hr r h, ⟨r, h, Same.refl⟩, rfl⟩
    · rintro ⟨x, gx, ⟨ρ, hρ, s⟩, rfl⟩; exact ⟨ρ, hρ, (same_num (hr ρ hρ) gx).mpr s⟩
  · unfold numbersF at hn
    obtain ⟨r, h, rfl⟩ := List.mem_map.mp hn
    exact numF_range (hr r h)
/-- doubles taken out of a list of lists -/
noncomputable def ddS (xs : List (List Int)) : List (List Int) := xs.foldl (fun acc x => if x ∈ acc then acc else acc ++ [x]) []
theorem ddSFrom_mem (xs : List (List Int)) : ∀ acc p, p ∈ xs.foldl (fun acc x => if x ∈ acc then acc else acc ++ [x]) acc ↔ p ∈ acc ∨ p ∈ xs := by
  induction xs with
  | nil => intro acc p; simp
  | cons x xs ih =>
    intro acc p
    rw [List.foldl_cons, ih]
    by_cases h : x ∈ acc
    · rw [if_pos h, List.mem_cons]
      constructor
      · rintro (a | a); exact .inl a; exact .inr (.inr a)
      · rintro (a | rfl | a); exact .inl a; exact .inl h; exact .inr a
    · rw [if_neg h, List.mem_append, List.mem_singleton, List.mem_cons, or_assoc]
theorem ddSFrom_nodup (xs : List (List Int)) : ∀ acc : List (List Int), acc.Nodup → (xs.foldl (fun acc x => if x ∈ acc then acc else acc ++ [x]) acc).Nodup := by
  induction xs with
  | nil => intro acc h; exact h
  | cons x xs ih =>
    intro acc h
    rw [List.foldl_cons]
    by_cases hx : x ∈ acc
    · rw [if_pos hx]; exact ih _ h
    · rw [if_neg hx]
      refine ih _ (List.nodup_append.mpr ⟨h, by simp, ?_⟩)
      intro a ha b hb e
      rw [List.mem_singleton] at hb
      subst hb e
      exact hx ha
theorem ddS_mem (xs : List (List Int)) (p : List Int) : p ∈ ddS xs ↔ p ∈ xs := by unfold ddS; rw [ddSFrom_mem]; simp
theorem ddS_nodup (xs : List (List Int)) : (ddS xs).Nodup := ddSFrom_nodup xs [] List.nodup_nil
/-- one list, each item taken out of the other -/
noncomputable def cmpF : List (List Int) → List (List Int) → Bool
  | [], t => decide (t = [])
  | e :: es, t => if e ∈ t then cmpF es (t.erase e) else false
theorem cmpF_perm : ∀ a t : List (List Int), cmpF a t = true ↔ a.Perm t
  | [], t => by unfold cmpF; rw [decide_eq_true_eq, List.nil_perm]
  | e :: es, t => by
    unfold cmpF
    rw [List.cons_perm_iff_perm_erase]
    by_cases h : e ∈ t
    · rw [if_pos h, cmpF_perm es]; simp [h]
    · rw [if_neg h]; simp [h]
noncomputable def cmpArgs (a b : List (List Int)) : Bool := cmpF (ddS a) (ddS b)
theorem cmpArgs_iff (a b : List (List Int)) : cmpArgs a b = true ↔ ∀ x, x ∈ a ↔ x ∈ b := by
  unfold cmpArgs
  rw [cmpF_perm, List.perm_ext_iff_of_nodup (ddS_nodup a) (ddS_nodup b)]
  simp only [ddS_mem]
theorem claim2 {rows meet same : List (List Int)} (B : BL rows meet) (C : BL rows same) : same.length = meet.length ∧ cmpArgs (same.map srt) (meet.map srt) = true :=
  ⟨B.len C, (cmpArgs_iff _ _).mpr fun z => by rw [C.rise, B.rise]⟩
noncomputable def dueF (rows : List (List Int)) (least : List Int) : List (List Int) := rows.filter fun r => decide (numF r ∈ least)
theorem due_mem {rows meet found : List (List Int)} (hr : ∀ r ∈ rows, GL r) (B : BL rows meet) (C : BL meet found) (z : List Int) : z ∈ found.map srt ↔ z ∈ (dueF rows (leastF (numbersF rows))).map srt := by
  have e : ∀ n, n ∈ leastF (numbersF rows) ↔ n ∈ numbersF found := fun n => by rw [← claim3 hr B C]; exact (srt_perm _).mem_iff
  unfold dueF
  rw [C.rise, List.mem_map]
  constructor
  · rintro ⟨x, mx, rfl⟩
    obtain ⟨g, ρ, hρ, s, _⟩ := (blocker B hr x).mp mx
    refine ⟨ρ, List.mem_filter.mpr ⟨hρ, ?_⟩, srt_same (hr ρ hρ) g s⟩
    rw [decide_eq_true_eq, e, C.nums]
    exact ⟨x, mx, (same_num (hr ρ hρ) g).mpr s⟩
  · rintro ⟨ρ, hρ, rfl⟩
    obtain ⟨h1, h2⟩ := List.mem_filter.mp hρ
    rw [decide_eq_true_eq, e, C.nums] at h2
    obtain ⟨x, mx, h3⟩ := h2
    exact ⟨x, mx, srt_same (hr ρ h1) mx.1 ((same_num (hr ρ h1) mx.1).mp h3)⟩
theorem claim4 {rows meet found : List (List Int)} (hr : ∀ r ∈ rows, GL r) (hne : rows ≠ []) (B : BL rows meet) (C : BL meet found) :
    cmpArgs (found.map srt) ((dueF rows (leastF (numbersF rows))).map srt) = true ∧ cmpArgs ((found.map srt).drop 1) ((dueF rows (leastF (numbersF rows))).map srt) = false := by
  refine ⟨(cmpArgs_iff _ _).mpr (due_mem hr B C), ?_⟩
  have hf : found ≠ [] := by
    intro e
    cases rows with
    | nil => exact hne rfl
    | cons r rest =>
      have t : Trans meet r := fun x hx => ((B.min x hx).2.1 r List.mem_cons_self).symm
      obtain ⟨y, my, _⟩ := t.min (hr r List.mem_cons_self)
      obtain ⟨x, hx, _⟩ := C.all y my
      rw [e] at hx; cases hx
  cases found with
  | nil => exact absurd rfl hf
  | cons f fs =>
    cases q : cmpArgs (((f :: fs).map srt).drop 1) ((dueF rows (leastF (numbersF rows))).map srt) with
    | false => rfl
    | true =>
      have h1 := (cmpArgs_iff _ _).mp q (srt f)
      have h2 := due_mem hr B C (srt f)
      have h3 : srt f ∈ (f :: fs).map srt := List.mem_map.mpr ⟨f, List.mem_cons_self, rfl⟩
      have h4 := h1.mpr (h2.mp h3)
      have nd := C.rise_nodup
      rw [List.map_cons, List.nodup_cons] at nd
      exact absurd (by simpa using h4) (by simpa using nd.1)
theorem sizes_sorted {found : List (List Int)} (h : found.Pairwise fun a b => a.length ≤ b.length) : srt (found.map fun one => (one.length : Int)) = found.map fun one => (one.length : Int) := by
  refine srt_eq (List.Perm.refl _) ?_
  rw [List.pairwise_map]
  exact h.imp fun h => by lia
theorem rowOf_GL (x : Int) : GL (rowOf x) := by
  unfold rowOf
  refine GL.dd fun p hp => ?_
  obtain ⟨k, _, rfl⟩ := List.mem_map.mp hp
  lia
end
section
open PySem PySem.W PyProof.Rows
set_option maxRecDepth 100000
set_option maxHeartbeats 1000000
/-- the order of the keys -/
noncomputable def elt (a b : Ent) : Prop := a.1.length < b.1.length ∨ (a.1.length = b.1.length ∧ a.2 < b.2)
noncomputable def eltB (a b : Ent) : Bool := decide (a.1.length < b.1.length) || (decide (a.1.length = b.1.length) && decide (a.2 < b.2))
theorem eltB_iff {a b : Ent} : eltB a b = true ↔ elt a b := by unfold eltB elt; simp
theorem eltB_not {a b : Ent} : eltB a b = false ↔ ¬ elt a b := by rw [← eltB_iff]; simp
theorem elt_asymm {a b : Ent} (h : elt a b) : ¬ elt b a := by unfold elt at *; lia
theorem nelt_trans {a b c : Ent} (h : ¬ elt a b) (h' : ¬ elt b c) : ¬ elt a c := by unfold elt at *; lia
theorem nelt_refl (a : Ent) : ¬ elt a a := by unfold elt; lia
theorem nelt_len {a b : Ent} (h : ¬ elt a b) : b.1.length ≤ a.1.length := by unfold elt at *; lia
noncomputable def HeapOK (l : List Ent) : Prop := ∀ i a b, 0 < i → l[i]? = some a → l[(i - 1) / 2]? = some b → ¬ elt a b
structure UpI (l : List Ent) (pos : Nat) : Prop where
  u1 : ∀ i a b, 0 < i → i ≠ pos → l[i]? = some a → l[(i - 1) / 2]? = some b → ¬ elt a b
  u2 : ∀ c a b, 0 < pos → 0 < c → (c - 1) / 2 = pos → l[c]? = some a → l[(pos - 1) / 2]? = some b → ¬ elt a b
structure DownI (l : List Ent) (pos : Nat) : Prop where
  d1 : ∀ i a b, 0 < i → i ≠ pos → (i - 1) / 2 ≠ pos → l[i]? = some a → l[(i - 1) / 2]? = some b → ¬ elt a b
  d2 : ∀ c a b, 0 < pos → 0 < c → (c - 1) / 2 = pos → l[c]? = some a → l[(pos - 1) / 2]? = some b → ¬ elt a b
theorem set_swap_perm {l : List Ent} {i j : Nat} {x y : Ent} (hi : l[i]? = some x) (hj : l[j]? = some y) : ((l.set i y).set j x).Perm l := by
  obtain ⟨h1, rfl⟩ := List.getElem?_eq_some_iff.mp hi
  obtain ⟨h2, rfl⟩ := List.getElem?_eq_some_iff.mp hj
  exact List.set_set_perm h1 h2
/-- an entry of a list with two turned -/
theorem get_swap {l : List Ent} {i j k : Nat} {x y : Ent} (hi : l[i]? = some x) (hj : l[j]? = some y) : ((l.set i y).set j x)[k]? = if k = j then some x else if k = i then some y else l[k]? := by
  have h1 := (List.getElem?_eq_some_iff.mp hi).1
  have h2 := (List.getElem?_eq_some_iff.mp hj).1
  rw [List.getElem?_set, List.length_set]
  by_cases e : j = k
  · subst e; rw [if_pos rfl, if_pos h2, if_pos rfl]
  · rw [if_neg e, if_neg (fun z => e z.symm), List.getElem?_set]
    by_cases e2 : i = k
    · subst e2; rw [if_pos rfl, if_pos h1, if_pos rfl]
    · rw [if_neg e2, if_neg (fun z => e2 z.symm)]
theorem UpI.step {l : List Ent} {pos : Nat} {x p : Ent} (U : UpI l pos) (h0 : 0 < pos) (hx : l[pos]? = some x) (hp : l[(pos - 1) / 2]? = some p) (hlt : elt x p) : UpI ((l.set pos p).set ((pos - 1) / 2) x) ((pos - 1) / 2) := by
  have hne : (pos - 1) / 2 ≠ pos := by lia
  refine ⟨fun i a b hi hne2 ha hb => ?_, fun c a b hpp hc hce ha hb => ?_⟩
  · rw [get_swap hx hp, if_neg hne2] at ha
    rw [get_swap hx hp] at hb
    by_cases e1 : i = pos
    · subst e1
      rw [if_pos rfl] at ha hb
      cases ha; cases hb
      exact elt_asymm hlt
    · rw [if_neg e1] at ha
      by_cases e2 : (i - 1) / 2 = (pos - 1) / 2
      · rw [if_pos e2] at hb
        cases hb
        have := U.u1 i a p hi e1 ha (by rw [e2]; exact hp)
        exact nelt_trans this (elt_asymm hlt)
      · rw [if_neg e2] at hb
        by_cases e3 : (i - 1) / 2 = pos
        · rw [if_pos e3] at hb
          cases hb
          exact U.u2 i a p h0 hi e3 ha hp
        · rw [if_neg e3] at hb
          exact U.u1 i a b hi e1 ha hb
  · rw [get_swap hx hp, if_neg (by lia), if_neg (by lia)] at hb
    have hpb := U.u1 ((pos - 1) / 2) p b hpp hne hp hb
    rw [get_swap hx hp, if_neg (by lia)] at ha
    by_cases e1 : c = pos
    · subst e1
      rw [if_pos rfl] at ha
      cases ha
      exact hpb
    · rw [if_neg e1] at ha
      have := U.u1 c a p hc e1 ha (by rw [hce]; exact hp)
      exact nelt_trans this hpb
theorem UpI.done {l : List Ent} {pos : Nat} (U : UpI l pos) (h : pos = 0 ∨ ∀ x p, l[pos]? = some x → l[(pos - 1) / 2]? = some p → ¬ elt x p) : HeapOK l := by
  intro i a b hi ha hb
  by_cases e : i = pos
  · subst e
    rcases h with h | h
    · lia
    · exact h a b ha hb
  · exact U.u1 i a b hi e ha hb
theorem DownI.step {l : List Ent} {pos c : Nat} {x y : Ent} (D : DownI l pos) (hc0 : 0 < c) (hc : (c - 1) / 2 = pos) (hx : l[pos]? = some x) (hy : l[c]? = some y)
    (hl : ∀ c' a, 0 < c' → (c' - 1) / 2 = pos → l[c']? = some a → ¬ elt a y) : DownI ((l.set pos y).set c x) c := by
  have hcp : c ≠ pos := by lia
  refine ⟨fun i a b hi hne hpn ha hb => ?_, fun d a b hpp hd hde ha hb => ?_⟩
  · rw [get_swap hx hy, if_neg hne] at ha
    rw [get_swap hx hy, if_neg hpn] at hb
    by_cases e1 : i = pos
    · subst e1
      rw [if_pos rfl] at ha
      cases ha
      rw [if_neg (by lia)] at hb
      exact D.d2 c y b hi hc0 hc hy hb
    · rw [if_neg e1] at ha
      by_cases e2 : (i - 1) / 2 = pos
      · rw [if_pos e2] at hb
        cases hb
        exact hl i a hi e2 ha
      · rw [if_neg e2] at hb
        exact D.d1 i a b hi e1 e2 ha hb
  · rw [hc, get_swap hx hy, if_neg (fun z => hcp z.symm), if_pos rfl] at hb
    cases hb
    rw [get_swap hx hy, if_neg (by lia), if_neg (by lia)] at ha
    exact D.d1 d a y hd (by lia) (by lia) ha (by rw [hde]; exact hy)
theorem DownI.done {l : List Ent} {pos : Nat} (D : DownI l pos) (h : l.length ≤ 2 * pos + 1) : UpI l pos := by
  refine ⟨fun i a b hi hne ha hb => D.d1 i a b hi hne (fun z => ?_) ha hb, fun c a b h0 hc hce ha hb => D.d2 c a b h0 hc hce ha hb⟩
  have := (List.getElem?_eq_some_iff.mp ha).1
  lia
theorem HeapOK.push {l : List Ent} (h : HeapOK l) (e : Ent) : UpI (l ++ [e]) l.length := by
  have low : ∀ i, i < l.length → (l ++ [e])[i]? = l[i]? := fun i hi => List.getElem?_append_left hi
  refine ⟨fun i a b hi hne ha hb => ?_, fun c a b h0 hc hce ha hb => ?_⟩
  · have := (List.getElem?_eq_some_iff.mp ha).1
    rw [List.length_append, List.length_singleton] at this
    rw [low i (by lia)] at ha
    rw [low _ (by lia)] at hb
    exact h i a b hi ha hb
  · have := (List.getElem?_eq_some_iff.mp ha).1
    rw [List.length_append, List.length_singleton] at this
    lia
theorem HeapOK.pop {l : List Ent} {x e : Ent} (h : HeapOK (l ++ [e])) (y : Ent) (hx : l[0]? = some x) : DownI (l.set 0 y) 0 := by
  refine ⟨fun i a b hi hne hpn ha hb => ?_, fun c a b h0 => absurd h0 (Nat.lt_irrefl 0)⟩
  rw [List.getElem?_set_ne (by lia)] at ha
  rw [List.getElem?_set_ne (by lia)] at hb
  have h1 := (List.getElem?_eq_some_iff.mp ha).1
  exact h i a b hi (by rw [List.getElem?_append_left h1]; exact ha) (by rw [List.getElem?_append_left (by lia)]; exact hb)
theorem HeapOK.root {l : List Ent} {x : Ent} (h : HeapOK l) (hx : l[0]? = some x) : ∀ (i : Nat) (a : Ent), l[i]? = some a → ¬ elt a x := by
  intro i
  induction i using Nat.strongRecOn with
  | _ i ih =>
    intro a ha
    by_cases e : i = 0
    · subst e; rw [hx] at ha; cases ha; exact nelt_refl _
    · have h1 := (List.getElem?_eq_some_iff.mp ha).1
      have hb : l[(i - 1) / 2]? = some (l[(i - 1) / 2]'(by lia)) := List.getElem?_eq_getElem (by lia)
      exact nelt_trans (h i a _ (by lia) ha hb) (ih ((i - 1) / 2) (by lia) _ hb)
theorem HeapOK.one {e : Ent} : HeapOK [e] := fun i a b hi ha _ => by
  have := (List.getElem?_eq_some_iff.mp ha).1
  simp at this; lia
theorem HeapOK.nil : HeapOK [] := fun i a b hi ha _ => by simp at ha
end
section
open PySem PySem.W PySem.W.X PyProof.Rows Builtin
set_option maxRecDepth 100000
set_option maxHeartbeats 4000000
section
theorem obj_hook {w : World} {A : Around} {E : Value → Shared → Prop} {s : Shared} {l u d : Addr} {Q : Value → Shared → Prop} {tq : Tok}
    {a ns md sl sa bT : Addr} {F : Nat → Addr} {H : Nat → Int} {T : Nat → Tok} {hx1 hx2 : Int} {u1 u2 u3 tk : Tok}
    (ha : s.heap.get? a = some { cls := .type "type", dict := none, data := .cls { name := "K", bases := [.type "object"], mro := [.ref a, .type "object"], ns, qualname := "cmp_to_key.<locals>.K", hasDict := false, slotNames := ["obj"] }, slots := #[some (.ref bT), none, some (.str "K" tk), some (.str "cmp_to_key.<locals>.K" (T 3)), some (.builtin "object.__new__"), some (.bool false)] })
    (hn : s.heap.get? ns = some ⟨.type "dict", none, .dict (kNs H T sl (F 1) (F 2) (F 3) (F 4) (F 5) (F 6) sa [⟨hx1, .str "obj" u1, .ref md⟩, ⟨hx2, .str "__doc__" u2, .none⟩]) 3, #[]⟩)
    (hm : s.heap.get? md = some ⟨.type "member_descriptor", none, .fields #[.str "obj" u3, .ref a, .builtin "proto.slot", .builtin "proto.slot#set", rawInt 0], #[]⟩)
    (hu : s.heap.get? u = some ⟨.ref a, some d, .plain, #[some (.ref l)]⟩)
    (hend : ∀ t, Q (.ref l) ⟨s.heap, s.gens, s.drawn, t, s.os⟩) :
    wpAny (model PG w) A (runValue (.builtin "proto.getattr_hooked" ⟨[.ref u, .str "obj" tq], []⟩)) Q E s := by
  x_run
end
noncomputable abbrev KI (a d l : Addr) : Obj := ⟨.ref a, some d, .plain, #[some (.ref l)]⟩
theorem obj_get {w : World} {A : Around} {E : Value → Shared → Prop} {g : PH} {s : Shared} {a u d l : Addr} {f : Value} {Q : Value → Shared → Prop} (live : ∀ a o, g a = some o → s.heap.get? a = some o) (hc : KCls w g a f) (hu : g u = some (KI a d l))
    (h : ∀ s', Stp N0 g g s s' → Q (.ref l) s') : wpAny (model PG w) A (getAttr (.ref u) "obj" true) Q E s := by
  refine hide fun Gₕ hGₕ => ?_
  obtain ⟨ns, md, sl, sa, bT, mc, F, Dt, C, H, T, hx1, hx2, u1, u2, u3, tk, oc, ha, hn, hm, _⟩ := hc
  obtain ⟨hp, gn, dr, t, os⟩ := s
  refine hGₕ ?_
  have ha' := live _ _ ha
  have hn' := live _ _ hn
  have hm' := live _ _ hm
  have hu' := live _ _ hu
  unfold getAttr
  refine wpAny_bind (wpAny_mkText ?_)
  unfold getAttrBy
  refine wpAny_holding (wpAny_bind (wpAny_typeOf_ref hu' (wpAny_bind ?_)))
  refine m_tl ha' rfl hn' (r := none) (by kernel_rfl!) (res := some (.builtin "object.__getattribute__")) (by kernel_rfl!) ?_
  refine if_yes (by kernel_rfl!) ?_
  unfold getAttrEveryday
  refine wpAny_bind (wpAny_onRaise ?_)
  refine obj_hook ha' hn' hm' hu' fun t' => ?_
  exact wpAny_pure (h _ (Stp.tok live))
end
section
open PySem PySem.W PySem.W.X PyProof.Rows Builtin PySem.Calls
set_option maxRecDepth 100000
set_option maxHeartbeats 4000000
noncomputable abbrev cloEnv (fd : FuncData) (L f : Addr) : Env := newEnv fd.scope L fd.globals fd.closure (fd.qualname ++ ".<locals>.") (some f) fd.code none fd.builtins
noncomputable def PH.less (g : PH) (m : Addr) : PH := fun b => if b = m then none else g b
theorem PH.less_of {g : PH} {m b : Addr} {o : Obj} (e : g b = some o) (hne : b ≠ m) : g.less m b = some o := by unfold PH.less; rw [if_neg hne]; exact e
theorem PH.less_le {g : PH} {m b : Addr} {o : Obj} (e : g.less m b = some o) : g b = some o := by
  unfold PH.less at e
  split at e
  · cases e
  · exact e
theorem noCell (P : Params) : ((K2 P).all fun p => match p.2.data with | .cell _ => false | _ => true) = true := by kernel_rfl
theorem KIn.less {w : World} {g : PH} {mc : Addr} {oc : Obj} {fv : Option Value} (hK : KIn w g) (hmc : g mc = some oc) (hoc : oc.data = .cell fv) : KIn w (g.less mc) := by
  have F : ∀ {b : Addr} {o : Obj}, g b = some o → (∀ v, o.data ≠ .cell v) → g.less mc b = some o := fun {b o} e hd =>
    PH.less_of e fun z => hd fv (by rw [z, hmc] at e; cases e; exact hoc)
  refine ⟨fun a o e => F (hK.kin a o e) fun v hd => ?_, ?_, ?_, ?_⟩
  · have this := List.all_eq_true.mp (noCell w.params) (a, o) (lookup_mem e)
    simp only [hd] at this
    cases this
  · exact let ⟨o, e, b⟩ := hK.bi; ⟨o, F e fun v h => (by obtain ⟨⟨_, _, h'⟩, _⟩ := b; rw [h'] at h; cases h), b⟩
  · exact let ⟨⟨o, e, a1, a2, a3⟩, _⟩ := hK.k4; ⟨o, F e fun v h => (by rw [a3] at h; cases h), a1, a2, a3⟩
  · exact let ⟨_, o1, e1, es, ep, h1⟩ := hK.k4; ⟨o1, F e1 fun v h => (by rw [h1] at h; cases h), es, ep, h1⟩
theorem Stp.back {g g' : PH} {s s' : Shared} {mc : Addr} {oc : Obj} (S : Stp N0 (g.less mc) g' s s') (live : ∀ a o, g a = some o → s.heap.get? a = some o) (hmc : g mc = some oc) : Stp N0 g (g'.put mc oc) s s' := by
  refine ⟨fun a o e => ?_, fun a o e => ?_, fun a o e => ?_, S.keep, S.dom, S.rest⟩
  · unfold PH.put
    split
    · rename_i z; subst z; exact hmc ▸ e
    · rename_i z; exact S.le a o (PH.less_of e z)
  · unfold PH.put at e
    split at e
    · rename_i z; subst z; exact .inl (hmc.trans e)
    · exact (S.new a o e).imp PH.less_le id
  · unfold PH.put at e
    split at e
    · rename_i z; subst z; cases e; exact S.keep0 _ _ (live _ _ hmc)
    · exact S.live a o e
section
variable {w : World} {A : Around} {E : Value → Shared → Prop} {g : PH} {s : Shared}
/-- a call of a def that closes over one name -/
theorem fnC_call {n : Nat} {f : Addr} {fd : FuncData} {body : List Stmt} {vals : List Value} {binds : List (Str × Value)} {x : Str} {mc : Addr} {oc : Obj} {fv : Value} {Q : Value → Shared → Prop}
    (live : ∀ a o, g a = some o → s.heap.get? a = some o) (hK : KIn w g) (hR : Room A (n + 1)) (ho : g f = some (fnO fd)) (hcd : s.heap.CodeRec fd.code fd.qualname)
    (hbody : fd.body = .stmts body) (hbind : bindArgs fd ⟨vals, []⟩ = pure binds) (hclo : fd.closure = [(x, mc)]) (hmc : g mc = some oc) (hoc : oc.data = .cell (some fv))
    (hloc : (binds.all fun y => fd.scope.names.lookup y.1 == some .local) = true) (hnc : (fd.scope.names.all fun y => y.2 != .cell) = true) (hxf0 : (fd.scope.names.lookup x == some .local) = false)
    (h : ∀ A' s₁ L, Room A' n → KIn w (g.less mc) → Blk N0 (g.less mc) s (cloEnv fd L f) (g.less mc) s₁ ((x, fv) :: binds.reverse) →
      wpAny (model PG w) A' (execs body (cloEnv fd L f)) (fun fl s' => Q (flowVal fl) s') EF s₁)
    (hco : fd.scope.isCoroutine = false) (hgen : fd.scope.isGenerator = false) (hk : fd.scope.kind = .function) :
    wpAny (model PG w) A (call (.ref f) vals) Q E s := by
  have hxf : fd.scope.names.lookup x ≠ some .local := by simpa using hxf0
  have hX := hK.frag live
  have hlive : ∀ a o, g.less mc a = some o → s.heap.get? a = some o := fun a o e => live a o (PH.less_le e)
  refine wpAny_call (codeAny_call_function hR.d (live _ _ ho) rfl hco hgen hbody hcd ?_)
  rw [hbind]
  refine wpAny_pure (wpAny_newFunctionEnv (fun y hy => by simpa using List.all_eq_true.mp hnc y hy) (fun y hy => by simpa using List.all_eq_true.mp hloc y hy) (fun h₁ hns hsb => ?_) hk)
  have hk₁ : ∀ b o, s.heap.get? b = some o → h₁.get? b = some o := fun b o e => hsb.extBut b o (Nat.ne_of_lt (Heap.lt_size e)) (Heap.get?_push_of_some _ e)
  refine ⟨(nolimit hX).keeps hk₁, codeAny_func ?_⟩
  have hn : s.heap.get? s.heap.objs.size = none := get?_size _
  refine wpAny_mono (h (A.deeper (cloEnv fd s.heap.objs.size f)) { s with heap := h₁, toks := s.toks + binds.length } s.heap.objs.size (hR.deeper _) (hK.less hmc hoc) ?_) (fun fl s' q => ?_) fun e s' q => q.elim
  · refine ⟨⟨fun _ _ e => e, fun _ _ e => .inl e, fun a o e => hk₁ a o (hlive a o e), fun a o _ e => hk₁ a o e, fun a o e => ⟨o, hk₁ a o e⟩, rfl⟩, ⟨hk, ⟨_, hns, fun y hy => ?_⟩, fun y c hc => ?_, ?_⟩, live_none hlive hn, hn, fun y c hc => ?_⟩
    · rw [List.lookup_cons]
      have : (y == x) = false := by
        have : y ≠ x := fun z => hxf (z ▸ hy)
        simpa using this
      rw [this]
    · have hc' : fd.closure.lookup y = some c := hc
      rw [hclo, List.lookup_cons] at hc'
      cases q : y == x with
      | false => rw [q] at hc'; cases hc'
      | true =>
        rw [q] at hc'
        cases hc'
        refine ⟨some fv, ⟨oc, hk₁ _ _ (live _ _ hmc), hoc⟩, fun _ => ?_⟩
        rw [List.lookup_cons, q]
    · show fd.closure.Pairwise _
      rw [hclo]; simp
    · have hc' : fd.closure.lookup y = some c := hc
      rw [hclo, List.lookup_cons] at hc'
      cases q : y == x with
      | false => rw [q] at hc'; cases hc'
      | true =>
        rw [q] at hc'
        cases hc'
        unfold PH.less; rw [if_pos rfl]
  · cases fl <;> exact q
/-- a call of a lambda that closes over nothing -/
theorem lam_call {n : Nat} {f : Addr} {fd : FuncData} {body : Expr} {vals : List Value} {binds : List (Str × Value)} {Q : Value → Shared → Prop}
    (live : ∀ a o, g a = some o → s.heap.get? a = some o) (hK : KIn w g) (hR : Room A (n + 1)) (ho : g f = some (fnO fd)) (hcd : s.heap.CodeRec fd.code fd.qualname)
    (hbody : fd.body = .expr body) (hbind : bindArgs fd ⟨vals, []⟩ = pure binds) (hclo : fd.closure = [])
    (hloc : (binds.all fun y => fd.scope.names.lookup y.1 == some .local) = true) (hnc : (fd.scope.names.all fun y => y.2 != .cell) = true)
    (h : ∀ A' s₁ L, Room A' n → Blk N0 g s (cloEnv fd L f) g s₁ binds.reverse → wpAny (model PG w) A' (eval body (cloEnv fd L f)) Q EF s₁)
    (hco : fd.scope.isCoroutine = false) (hgen : fd.scope.isGenerator = false) (hk : fd.scope.kind = .function) :
    wpAny (model PG w) A (call (.ref f) vals) Q E s := by
  have hX := hK.frag live
  refine wpAny_call (kla_callFunE hR.d (live _ _ ho) rfl hco hgen hbody hcd ?_)
  rw [hbind]
  refine wpAny_pure (wpAny_newFunctionEnv (fun y hy => by simpa using List.all_eq_true.mp hnc y hy) (fun y hy => by simpa using List.all_eq_true.mp hloc y hy) (fun h₁ hns hsb => ?_) hk)
  have hk₁ : ∀ b o, s.heap.get? b = some o → h₁.get? b = some o := fun b o e => hsb.extBut b o (Nat.ne_of_lt (Heap.lt_size e)) (Heap.get?_push_of_some _ e)
  refine ⟨(nolimit hX).keeps hk₁, kla_codeExpr ?_⟩
  have hn : s.heap.get? s.heap.objs.size = none := get?_size _
  refine wpAny_mono (h (A.deeper (cloEnv fd s.heap.objs.size f)) { s with heap := h₁, toks := s.toks + binds.length } s.heap.objs.size (hR.deeper _) ?_) (fun fl s' q => q) fun e s' q => q.elim
  refine ⟨⟨fun _ _ e => e, fun _ _ e => .inl e, fun a o e => hk₁ a o (live a o e), fun a o _ e => hk₁ a o e, fun a o e => ⟨o, hk₁ a o e⟩, rfl⟩, ⟨hk, ⟨_, hns, fun y hy => rfl⟩, fun y c hc => ?_, ?_⟩, live_none live hn, hn, fun y c hc => ?_⟩
  · have hc' : fd.closure.lookup y = some c := hc
    rw [hclo] at hc'; cases hc'
  · show fd.closure.Pairwise _
    rw [hclo]; exact List.Pairwise.nil
  · have hc' : fd.closure.lookup y = some c := hc
    rw [hclo] at hc'; cases hc'
end
end
section
open PySem PySem.W PySem.W.X PyProof.Rows Builtin PySem.Calls
set_option maxRecDepth 100000
set_option maxHeartbeats 4000000
/-- the lambda of _law_search, as it stands in its body -/
noncomputable def lamD (P : Params) (c : Addr) (ct : Value) : FuncData := match (K2 P).lookup 102 with
  | some ⟨_, _, .func fd, _⟩ => match fd.body with
    | .stmts (.Assign _ (.Call _ [.Lambda params body scope _] _ _) _ :: _) => kla_fn "<lambda>" "_law_search.<locals>.<lambda>" params body scope [] (.str "law_oh0021_01" 287) (.ref c) ct
    | _ => default
  | _ => default
noncomputable def LamV (w : World) (g : PH) (f : Value) : Prop := ∃ (lam c : Addr) (ct : Value) (oc : Obj) (vs : Array Value) (t : Tok), f = .ref lam ∧ g lam = some (fnO (lamD w.params c ct)) ∧ g c = some oc ∧ oc.data = .fields vs ∧ vs[1]? = some (.str "_law_search.<locals>.<lambda>" t)
theorem LamV.mono {w : World} {g g' : PH} {f : Value} (h : LamV w g f) (le : ∀ a o, g a = some o → g' a = some o) : LamV w g' f :=
  let ⟨lam, c, ct, oc, vs, t, e, a, b, r⟩ := h; ⟨lam, c, ct, oc, vs, t, e, le _ _ a, le _ _ b, r⟩
theorem KCls.mono {w : World} {g g' : PH} {a : Addr} {f : Value} (h : KCls w g a f) (le : ∀ a o, g a = some o → g' a = some o) : KCls w g' a f := by
  refine hide fun Gₕ hGₕ => ?_
  obtain ⟨ns, md, sl, sa, bT, mc, F, Dt, C, H, T, hx1, hx2, u1, u2, u3, tk, oc, e1, e2, e3, e4, e5, e6, e7, e8, e9, e10⟩ := h
  refine hGₕ ?_
  exact ⟨ns, md, sl, sa, bT, mc, F, Dt, C, H, T, hx1, hx2, u1, u2, u3, tk, oc, le _ _ e1, le _ _ e2, le _ _ e3, le _ _ e4, le _ _ e5, le _ _ e6, e7, fun p hp => let ⟨o, vs, t, a, r⟩ := e8 p hp; ⟨o, vs, t, le _ _ a, r⟩, le _ _ e9, e10⟩
/-- a key of the list xs -/
noncomputable def KeyV (g : PH) (a : Addr) (v : Value) (xs : List Int) : Prop := ∃ u l d, v = .ref u ∧ g u = some (KI a d l) ∧ IntsAt g l xs
theorem KeyV.mono {g g' : PH} {a : Addr} {v : Value} {xs : List Int} (h : KeyV g a v xs) (le : ∀ a o, g a = some o → g' a = some o) : KeyV g' a v xs := let ⟨u, l, d, e, x, y⟩ := h; ⟨u, l, d, e, le _ _ x, y.mono le⟩
section
variable {w : World} {A : Around} {E : Value → Shared → Prop} {g : PH} {s : Shared} {n : Nat}
theorem lam_cmp {f : Value} {l1 l2 : Addr} {xs ys : List Int} {Q : Value → Shared → Prop} (live : ∀ a o, g a = some o → s.heap.get? a = some o) (hK : KIn w g) (hR : Room A (n + 1)) (hf : LamV w g f) (h1 : IntsAt g l1 xs) (h2 : IntsAt g l2 ys) (b1 : xs.length < 2 ^ 18) (b2 : ys.length < 2 ^ 18)
    (h : ∀ t s', Stp N0 g g s s' → Q (.int ((xs.length : Int) - ys.length) t) s') : wpAny (model PG w) A (call f [.ref l1, .ref l2]) Q E s := by
  refine hide fun Gₕ hGₕ => ?_
  obtain ⟨lam, c, ct, oc, vs, t, rfl, hl, hc, hd, hq⟩ := hf
  refine hGₕ ?_
  have e : lamD w.params c ct = lamD w.params c ct := rfl
  conv at e => rhs; whnf
  rw [e] at hl
  refine lam_call (n := n) (binds := [("one", .ref l1), ("other", .ref l2)]) live hK hR hl ⟨c, oc, vs, t, rfl, live _ _ hc, hd, hq⟩ rfl rfl rfl rfl rfl (fun A' s₁ L hR' B => ?_) rfl rfl rfl
  refine wpAny_BinOp (callB1 B hK rfl rfl rfl (by kernel_rfl) (id := "len") (by kernel_rfl) (name_ B rfl (.inl rfl) (IV.len B.live ⟨_, rfl, h1⟩ (by lia) fun t1 s2 st1 => ?_)))
  have B1 := B.step st1
  refine callB1 B1 hK rfl rfl rfl (by kernel_rfl) (id := "len") (by kernel_rfl) (name_ B1 rfl (.inl rfl) (IV.len B1.live ⟨_, rfl, h2⟩ (by lia) fun t2 s3 st2 => ?_))
  have B2 := B1.step st2
  exact PyProof.Rows.sub_int (h _ _ (B2.tok _).st)
theorem IntsAt.less {l mc : Addr} {xs : List Int} {oc : Obj} {fv : Option Value} (h : IntsAt g l xs) (hmc : g mc = some oc) (hoc : oc.data = .cell fv) : IntsAt (g.less mc) l xs := by
  refine hide fun Gₕ hGₕ => ?_
  obtain ⟨vs, ⟨o, ho, hc, n, hd⟩, hi⟩ := h
  refine hGₕ ?_
  refine ⟨vs, ⟨o, PH.less_of ho fun z => ?_, hc, n, hd⟩, hi⟩
  rw [z, hmc] at ho
  cases ho
  rw [hoc] at hd; cases hd
theorem Stp.plain {x y : PH} {s' : Shared} (S : Stp N0 x y s s') (live : ∀ a o, g a = some o → s.heap.get? a = some o) : Stp N0 g g s s' := ⟨fun _ _ e => e, fun _ _ e => .inl e, fun a o e => S.keep0 a o (live a o e), S.keep, S.dom, S.rest⟩
/-- «mycmp(self.obj, other.obj)» -/
theorem k_body {g₀ g : PH} {s₀ : Shared} {gf : PH} {env : Env} {vs : List (Str × Value)} {p1 p2 p3 p4 p5 p6 : Pos} {a : Addr} {f : Value} {u1 u2 l1 l2 d1 d2 : Addr} {xs ys : List Int} {Q : Value → Shared → Prop}
    (B : Blk N0 g₀ s₀ env g s vs) (hR : Room A (n + 1)) (glive : ∀ a o, gf a = some o → s.heap.get? a = some o) (hK : KIn w gf) (hc : KCls w gf a f) (hf : LamV w gf f)
    (hu1 : gf u1 = some (KI a d1 l1)) (hu2 : gf u2 = some (KI a d2 l2)) (h1 : IntsAt gf l1 xs) (h2 : IntsAt gf l2 ys) (b1 : xs.length < 2 ^ 18) (b2 : ys.length < 2 ^ 18)
    (k1 : vs.lookup ("mycmp" : Str) = some f) (k2 : vs.lookup ("self" : Str) = some (.ref u1)) (k3 : vs.lookup ("other" : Str) = some (.ref u2))
    (e1 : env.kindOf ("mycmp" : Str) = some .free ∧ (env.cells.lookup ("mycmp" : Str)).isSome = true) (e2 : env.kindOf ("self" : Str) = some .local) (e3 : env.kindOf ("other" : Str) = some .local)
    (h : ∀ t s', Stp N0 gf gf s s' → Q (.int ((xs.length : Int) - ys.length) t) s') :
    wpAny (model PG w) A (eval (.Call (.Name "mycmp" p1) [.Attribute (.Name "self" p2) "obj" p3, .Attribute (.Name "other" p4) "obj" p5] [] p6) env) Q E s := by
  refine Call_Name rfl (name_ B k1 (.inr ⟨.inr e1.1, e1.2⟩) ?_)
  refine hide fun Gₕ hGₕ => ?_
  obtain ⟨lam, c, ct, oc, vs', t, rfl, hl, _⟩ := id hf
  refine hGₕ ?_
  refine callWith_function (o := fnO (lamD w.params c ct)) (fd := lamD w.params c ct) (evalArgs_plain ?_)
  refine args_cons (Attribute_name (name_ B k2 (.inl e2) (obj_get glive hc hu1 fun s1 st1 => ?_)))
  have B1 := B.step (st1.plain B.live)
  refine args_cons (Attribute_name (name_ B1 k3 (.inl e3) (obj_get st1.live hc hu2 fun s2 st2 => ?_)))
  refine args_nil ⟨⟨st2.live _ _ hl, rfl⟩, ?_⟩
  exact lam_cmp st2.live hK hR hf h1 h2 b1 b2 fun t s3 st3 => h t s3 ((st1.trans st2).trans st3)
theorem k_meth (i : Nat) (q : Str) {fa mc c : Addr} {ct : Value} {a : Addr} {f : Value} {v1 v2 : Value} {xs ys : List Int} {oc oo : Obj} {cs : Array Value} {tq : Tok} {Q : Value → Shared → Prop} (hi : (i = 2 ∧ q = "cmp_to_key.<locals>.K.__lt__") ∨ (i = 4 ∧ q = "cmp_to_key.<locals>.K.__eq__"))
    (live : ∀ a o, g a = some o → s.heap.get? a = some o) (hK : KIn w g) (hR : Room A (n + 2)) (hc : KCls w g a f) (hf : LamV w g f) (hfa : g fa = some (fnO (mkD w.params i mc c ct))) (hmc : g mc = some oc) (hoc : oc.data = .cell (some f))
    (hcc : g c = some oo) (hcd : oo.data = .fields cs) (hcq : cs[1]? = some (.str q tq))
    (h1 : KeyV g a v1 xs) (h2 : KeyV g a v2 ys) (b1 : xs.length < 2 ^ 18) (b2 : ys.length < 2 ^ 18)
    (h : ∀ s', Stp N0 g g s s' → Q (.bool (if i = 2 then decide (xs.length < ys.length) else decide (xs.length = ys.length))) s') : wpAny (model PG w) A (call (.ref fa) [v1, v2]) Q E s := by
  refine hide fun Gₕ hGₕ => ?_
  obtain ⟨u1, l1, d1, rfl, hu1, hl1⟩ := h1
  obtain ⟨u2, l2, d2, rfl, hu2, hl2⟩ := h2
  refine hGₕ ?_
  rcases hi with ⟨rfl, rfl⟩ | ⟨rfl, rfl⟩
  · have e : mkD w.params 2 mc c ct = mkD w.params 2 mc c ct := rfl
    conv at e => rhs; whnf
    rw [e] at hfa
    refine fnC_call (n := n + 1) (x := "mycmp") (mc := mc) (binds := [("self", .ref u1), ("other", .ref u2)]) live hK hR hfa ⟨c, oo, cs, tq, rfl, live _ _ hcc, hcd, hcq.trans (by kernel_rfl)⟩ rfl rfl rfl hmc hoc rfl rfl rfl (fun A' s₁ L hR' hK' B => ?_) rfl rfl rfl
    have S0 := B.st.plain live
    refine wpAny_execs_cons (wpAny_Return_some (wpAny_Compare1 ?_))
    refine k_body (n := n) B hR' S0.live hK hc hf hu1 hu2 hl1 hl2 b1 b2 rfl rfl rfl ⟨rfl, rfl⟩ rfl rfl fun t s2 st => ?_
    refine wpAny_Constant_int (lt_int ?_)
    have := h _ ((S0.trans st).trans (Stp.tok (t := s2.toks + 1) st.live))
    have e2 : decide ((xs.length : Int) - ys.length < 0) = decide (xs.length < ys.length) := by
      rw [decide_eq_decide]; lia
    rw [e2]; exact this
  · have e : mkD w.params 4 mc c ct = mkD w.params 4 mc c ct := rfl
    conv at e => rhs; whnf
    rw [e] at hfa
    refine fnC_call (n := n + 1) (x := "mycmp") (mc := mc) (binds := [("self", .ref u1), ("other", .ref u2)]) live hK hR hfa ⟨c, oo, cs, tq, rfl, live _ _ hcc, hcd, hcq.trans (by kernel_rfl)⟩ rfl rfl rfl hmc hoc rfl rfl rfl (fun A' s₁ L hR' hK' B => ?_) rfl rfl rfl
    have S0 := B.st.plain live
    refine wpAny_execs_cons (wpAny_Return_some (wpAny_Compare1 ?_))
    refine k_body (n := n) B hR' S0.live hK hc hf hu1 hu2 hl1 hl2 b1 b2 rfl rfl rfl ⟨rfl, rfl⟩ rfl rfl fun t s2 st => ?_
    refine wpAny_Constant_int (PyProof.Rows.eq_int ?_)
    have := h _ ((S0.trans st).trans (Stp.tok (t := s2.toks + 1) st.live))
    have e2 : ((xs.length : Int) - ys.length == 0) = decide (xs.length = ys.length) := by
      rw [Bool.eq_iff_iff]; simp; lia
    rw [e2]; exact this
end
end
section
open PySem PySem.W PySem.W.X PyProof.Rows Builtin PySem.Calls
set_option maxRecDepth 100000
set_option maxHeartbeats 4000000
section
variable {w : World} {A : Around} {E : Value → Shared → Prop} {g : PH} {s : Shared} {n : Nat}
/-- one method of the class, found by its name -/
theorem k_try {name : Str} {fa a u : Addr} {d l : Addr} {cd : ClassData} {sl : Array (Option Value)} {on of : Obj} {args : List Value} {Q : Option Value → Shared → Prop} (hu : s.heap.get? u = some (KI a d l)) (ha : s.heap.get? a = some (kObj cd sl)) (hm : cd.mro = [.ref a, .type "object"])
    (hn : s.heap.get? cd.ns = some on) (hl : nsLook name on = pure (some (.ref fa))) (hf : s.heap.get? fa = some of) (hfc : of.cls = .type "function")
    (h : wpAny (model PG w) A (call (.ref fa) (.ref u :: args)) (fun v => Q (some v)) E s) : wpAny (model PG w) A (callSpecialIfBound? (.ref u) name args) Q E s := by
  refine hide fun Gₕ hGₕ => ?_
  obtain ⟨hp, gn, dr, t, os⟩ := s
  refine hGₕ ?_
  simp only [callSpecialIfBound?, bindSpecialIfBound?]
  refine wpAny_holding (wpAny_bind (wpAny_bind ?_))
  unfold specialOf
  refine wpAny_bind (wpAny_typeOf_ref hu ?_)
  refine m_tl ha hm hn hl (res := some (.ref fa)) rfl ?_
  refine wpAny_bind (wpAny_askSetting (wpAny_ite ?_))
  have fin : wpAny (model PG w) A (call (.ref fa) ([.ref u] ++ args) >>= fun v => pure (some v)) Q E ⟨hp, gn, dr, t, os⟩ :=
    wpAny_bind (wpAny_mono h (fun v s' h' => wpAny_pure h') fun _ _ h' => h')
  split
  · exact wpAny_bind (wpAny_bindSpecial_def (s := ⟨hp, gn, dr, t, os⟩) hf hfc (wpAny_pure (by exact fin)))
  · exact wpAny_tryCatch (wpAny_bind (wpAny_bindSpecial_def (s := ⟨hp, gn, dr, t, os⟩) hf hfc (wpAny_pure (by exact fin))))
theorem k_rich {op : CmpOp} {sym : String} {nm r : Str} {fa a u1 u2 : Addr} {d1 l1 d2 l2 : Addr} {cd : ClassData} {sl : Array (Option Value)} {on of : Obj} {Q : Value → Shared → Prop} (hop : cmpInfo op = (sym, nm, r)) (hu : A.units < cLine)
    (hu1 : s.heap.get? u1 = some (KI a d1 l1)) (hu2 : s.heap.get? u2 = some (KI a d2 l2)) (ha : s.heap.get? a = some (kObj cd sl)) (hm : cd.mro = [.ref a, .type "object"])
    (hn : s.heap.get? cd.ns = some on) (hl : nsLook nm on = pure (some (.ref fa))) (hf : s.heap.get? fa = some of) (hfc : of.cls = .type "function")
    (h : wpAny (model PG w) A (call (.ref fa) [.ref u1, .ref u2]) (fun v s' => ∃ b, v = .bool b ∧ Q (.bool b) s') E s) : wpAny (model PG w) A (richCompare op (.ref u1) (.ref u2)) Q E s := by
  unfold richCompare
  simp only [oneThing_ref]
  refine wpAny_holding ?_
  refine wpAny_bind (wpAny_cRoomFor hu ?_)
  rw [hop]
  dsimp only
  refine wpAny_bind (wpAny_typeOf_ref hu1 ?_)
  refine wpAny_bind (wpAny_typeOf_ref hu2 ?_)
  rw [show ((KI a d1 l1).cls != (KI a d2 l2).cls) = false from by simp]
  simp only [Bool.false_eq_true, if_false]
  refine wpAny_bind (wpAny_pure ?_)
  simp only [Bool.false_eq_true, if_false]
  unfold tryCompare
  refine wpAny_bind (wpAny_bind (k_try hu1 ha hm hn hl hf hfc (wpAny_mono h (fun v s' hv => ?_) fun _ _ e => e)))
  obtain ⟨b, rfl, hq⟩ := hv
  exact wpAny_pure (wpAny_pure hq)
theorem key_lt {a : Addr} {f : Value} {v1 v2 : Value} {xs ys : List Int} {Q : Value → Shared → Prop} (live : ∀ a o, g a = some o → s.heap.get? a = some o) (hK : KIn w g) (hR : Room A (n + 2)) (hc : KCls w g a f) (hf : LamV w g f)
    (h1 : KeyV g a v1 xs) (h2 : KeyV g a v2 ys) (b1 : xs.length < 2 ^ 18) (b2 : ys.length < 2 ^ 18) (h : ∀ s', Stp N0 g g s s' → Q (.bool (decide (xs.length < ys.length))) s') : wpAny (model PG w) A (richCompare .Lt v1 v2) Q E s := by
  refine hide fun Gₕ hGₕ => ?_
  obtain ⟨ns, md, sl, sa, bT, mc, F, Dt, C, H, T, hx1, hx2, u1, u2, u3, tk, oc, ha, hn, hm, hF1, hF2, hF4, hg, hcs, hmc, hoc⟩ := id hc
  obtain ⟨ct, _, e2, e4⟩ := hg
  obtain ⟨w1, l1, d1, rfl, hu1, hl1⟩ := id h1
  obtain ⟨w2, l2, d2, rfl, hu2, hl2⟩ := id h2
  obtain ⟨oo, cs, tq, hcc, hcd, hcq, hcl⟩ := hcs (C 2, "cmp_to_key.<locals>.K.__lt__") (by simp)
  refine hGₕ ?_
  refine k_rich (fa := F 2) (r := "__gt__") (sym := "<") (nm := "__lt__") rfl hR.u (live _ _ hu1) (live _ _ hu2) (live _ _ ha) rfl (live _ _ hn) (by kernel_rfl!) (live _ _ hF2) rfl ?_
  rw [e2] at hF2
  exact k_meth 2 _ (.inl ⟨rfl, rfl⟩) live hK hR hc hf hF2 hmc hoc hcc hcd hcq h1 h2 b1 b2 fun s' st => ⟨_, rfl, h s' st⟩
theorem key_eq {a : Addr} {f : Value} {v1 v2 : Value} {xs ys : List Int} {Q : Value → Shared → Prop} (live : ∀ a o, g a = some o → s.heap.get? a = some o) (hK : KIn w g) (hR : Room A (n + 2)) (hc : KCls w g a f) (hf : LamV w g f)
    (h1 : KeyV g a v1 xs) (h2 : KeyV g a v2 ys) (b1 : xs.length < 2 ^ 18) (b2 : ys.length < 2 ^ 18) (h : ∀ s', Stp N0 g g s s' → Q (.bool (decide (xs.length = ys.length))) s') : wpAny (model PG w) A (richCompare .Eq v1 v2) Q E s := by
  refine hide fun Gₕ hGₕ => ?_
  obtain ⟨ns, md, sl, sa, bT, mc, F, Dt, C, H, T, hx1, hx2, u1, u2, u3, tk, oc, ha, hn, hm, hF1, hF2, hF4, hg, hcs, hmc, hoc⟩ := id hc
  obtain ⟨ct, _, e2, e4⟩ := hg
  obtain ⟨w1, l1, d1, rfl, hu1, hl1⟩ := id h1
  obtain ⟨w2, l2, d2, rfl, hu2, hl2⟩ := id h2
  obtain ⟨oo, cs, tq, hcc, hcd, hcq, hcl⟩ := hcs (C 4, "cmp_to_key.<locals>.K.__eq__") (by simp)
  refine hGₕ ?_
  refine k_rich (fa := F 4) (r := "__eq__") (sym := "==") (nm := "__eq__") rfl hR.u (live _ _ hu1) (live _ _ hu2) (live _ _ ha) rfl (live _ _ hn) (by kernel_rfl!) (live _ _ hF4) rfl ?_
  rw [e4] at hF4
  exact k_meth 4 _ (.inr ⟨rfl, rfl⟩) live hK hR hc hf hF4 hmc hoc hcc hcd hcq h1 h2 b1 b2 fun s' st => ⟨_, rfl, h s' st⟩
/-- an entry of the heap -/
noncomputable def TupV (g : PH) (a : Addr) (v : Value) (e : List Int × Int) : Prop := ∃ t k kv nt lv, v = .ref t ∧ g t = some ⟨.type "tuple", none, .seq #[kv, .int e.2 nt, lv] k, #[]⟩ ∧ KeyV g a kv e.1 ∧ IV g lv e.1
theorem TupV.mono {g g' : PH} {a : Addr} {v : Value} {e : List Int × Int} (h : TupV g a v e) (le : ∀ a o, g a = some o → g' a = some o) : TupV g' a v e := let ⟨t, k, kv, nt, lv, e1, x, y, z⟩ := h; ⟨t, k, kv, nt, lv, e1, le _ _ x, y.mono le, z.mono le⟩
theorem IntV.fn : ∀ {vs : List Value} {xs ys : List Int}, All2 IntV vs xs → All2 IntV vs ys → xs = ys
  | [], [], [], _, _ => rfl
  | v :: vs, x :: xs, y :: ys, ⟨⟨t, e⟩, r⟩, ⟨⟨u, e'⟩, r'⟩ => by
    rw [e] at e'
    cases e'
    rw [IntV.fn r r']
  | [], _ :: _, _, h, _ => h.elim
  | [], [], _ :: _, _, h => h.elim
  | _ :: _, [], _, h, _ => h.elim
  | _ :: _, _ :: _, [], _, h => h.elim
theorem IntsAt.fn {l : Addr} {xs ys : List Int} (h : IntsAt g l xs) (h' : IntsAt g l ys) : xs = ys := by
  refine hide fun Gₕ hGₕ => ?_
  obtain ⟨vs, ⟨o, ho, _, k, hd⟩, hi⟩ := h
  obtain ⟨vs', ⟨o', ho', _, k', hd'⟩, hi'⟩ := h'
  refine hGₕ ?_
  rw [ho] at ho'
  cases ho'
  rw [hd] at hd'
  have e : vs.toArray = vs'.toArray := by cases hd'; rfl
  have e' : vs = vs' := by simpa using e
  subst e'
  exact IntV.fn hi hi'
theorem key_eqBool {a : Addr} {f : Value} {v1 v2 : Value} {xs ys : List Int} {Q : Bool → Shared → Prop} (live : ∀ a o, g a = some o → s.heap.get? a = some o) (hK : KIn w g) (hR : Room A (n + 2)) (hc : KCls w g a f) (hf : LamV w g f)
    (h1 : KeyV g a v1 xs) (h2 : KeyV g a v2 ys) (b1 : xs.length < 2 ^ 18) (b2 : ys.length < 2 ^ 18) (h : ∀ s', Stp N0 g g s s' → Q (decide (xs.length = ys.length)) s') : wpAny (model PG w) A (eqBool v1 v2) Q E s := by
  refine hide fun Gₕ hGₕ => ?_
  obtain ⟨w1, l1, d1, rfl, hu1, hl1⟩ := id h1
  obtain ⟨w2, l2, d2, rfl, hu2, hl2⟩ := id h2
  refine hGₕ ?_
  unfold eqBool
  refine wpAny_holding ?_
  by_cases e : w1 = w2
  · subst e
    rw [if_pos (by simp)]
    refine wpAny_bind (wpAny_rule (wpAny_pure ?_))
    have e1 : l1 = l2 := by rw [hu1] at hu2; cases hu2; rfl
    subst e1
    have e2 := hl1.fn hl2
    subst e2
    have := h s (Stp.refl live)
    simpa using this
  · rw [if_neg (by simpa using e)]
    refine wpAny_bind (key_eq live hK hR hc hf h1 h2 b1 b2 fun s' st => ?_)
    exact wpAny_truthy_bool (h s' st)
theorem tup_lt {a : Addr} {f : Value} {v1 v2 : Value} {e1 e2 : Ent} {Q : Value → Shared → Prop} (live : ∀ a o, g a = some o → s.heap.get? a = some o) (hK : KIn w g) (hR : Room A (n + 3)) (hc : KCls w g a f) (hf : LamV w g f)
    (h1 : TupV g a v1 e1) (h2 : TupV g a v2 e2) (b1 : e1.1.length < 2 ^ 18) (b2 : e2.1.length < 2 ^ 18) (hne : e1.2 ≠ e2.2) (h : ∀ s', Stp N0 g g s s' → Q (.bool (eltB e1 e2)) s') : wpAny (model PG w) A (compareOp .Lt v1 v2) Q E s := by
  refine hide fun Gₕ hGₕ => ?_
  obtain ⟨t1, k1, kv1, nt1, lv1, rfl, hT1, hk1, hl1⟩ := h1
  obtain ⟨t2, k2, kv2, nt2, lv2, rfl, hT2, hk2, hl2⟩ := h2
  refine hGₕ ?_
  have i1 : s.TypeIs (.ref t1) "tuple" := ⟨_, live _ _ hT1, rfl⟩
  have i2 : s.TypeIs (.ref t2) "tuple" := ⟨_, live _ _ hT2, rfl⟩
  refine cmp_ofLt (wpAny_richCompare_same_room i1 i2 PySem.F.slot_tuple_lt ?_ hR.u)
  refine wpAny_call_entry PySem.F.slot_tuple_lt i1 PySem.F.entry_tuple_lt ?_ (PySem.F.args_tuple_lt_2 _ _)
  unfold Builtin.«tuple.__lt__»
  wp_delta
  refine wpAny_bind (m := slotArgs "__lt__" 1 _) (wpAny_pure ?_)
  refine wpAny_bind (wpAny_isInstance i2 isSubtype_tuple_tuple ?_)
  refine if_no rfl ?_
  refine wpAny_bind (wpAny_tupleItemsOf (live _ _ hT1) rfl (wpAny_bind (wpAny_tupleItemsOf (live _ _ hT2) rfl ?_)))
  have hR1 : Room A.in1 (n + 2) := hR.in1
  show wpAny _ _ (forIn [(kv1, kv2), (Value.int e1.2 nt1, Value.int e2.2 nt2), (lv1, lv2)] _ _ >>= _) _ _ _
  rw [List.forIn_cons]
  refine wpAny_bind (wpAny_bind (wpAny_bind (key_eqBool live hK hR1 hc hf hk1 hk2 b1 b2 fun s1 st1 => ?_)))
  by_cases hl : e1.1.length = e2.1.length
  · rw [decide_eq_true hl]
    refine if_no rfl (wpAny_pure ?_)
    dsimp only
    rw [List.forIn_cons]
    refine wpAny_bind (wpAny_bind (wpAny_eqBool_int ?_))
    have hb : (e1.2 == e2.2) = false := by simpa using hne
    rw [hb]
    refine if_yes rfl (wpAny_bind (wpAny_rule (wpAny_bind (PyProof.Rows.lt_int (wpAny_bind (wpAny_pure (wpAny_pure (wpAny_pure ?_))))))))
    refine wpAny_pure ⟨_, rfl, by simp, ?_⟩
    have e : eltB e1 e2 = decide (e1.2 < e2.2) := by unfold eltB; simp [hl]
    rw [← e]
    exact h s1 st1
  · rw [decide_eq_false hl]
    refine if_yes rfl (wpAny_bind (wpAny_rule (wpAny_bind (key_lt st1.live hK hR1 hc hf hk1 hk2 b1 b2 fun s2 st2 => wpAny_bind (wpAny_pure (wpAny_pure (wpAny_pure ?_)))))))
    refine wpAny_pure ⟨_, rfl, by simp, ?_⟩
    have e : eltB e1 e2 = decide (e1.1.length < e2.1.length) := by unfold eltB; simp [hl]
    rw [← e]
    exact h s2 (st1.trans st2)
end
end
section
open PySem PySem.W PySem.W.X PyProof.Rows Builtin PySem.Calls
set_option maxRecDepth 100000
set_option maxHeartbeats 4000000
/-- the heap's list -/
noncomputable def HpAt (h : Heap) (hp : Addr) (vals : List Value) : Prop := ∃ k, h.get? hp = some ⟨.type "list", none, .seq vals.toArray k, #[]⟩
theorem HpAt.isList {h : Heap} {hp : Addr} {vals : List Value} (x : HpAt h hp vals) : h.IsList hp vals.toArray := let ⟨k, e⟩ := x; ⟨_, e, rfl, k, rfl⟩
theorem HpAt.keep {h h' : Heap} {hp : Addr} {vals : List Value} (x : HpAt h hp vals) (k : ∀ o, h.get? hp = some o → h'.get? hp = some o) : HpAt h' hp vals := let ⟨n, e⟩ := x; ⟨n, k _ e⟩
noncomputable abbrev At (hp : Addr) : Addr → Prop := fun a => a = hp
section
variable {w : World} {A : Around} {E : Value → Shared → Prop} {g : PH} {s : Shared} {n : Nat} {hp : Addr} {vals : List Value}
theorem hp_stp {h' : Heap} (live : ∀ a o, g a = some o → s.heap.get? a = some o) (ha : g hp = none) (hs : Heap.SameBut hp s.heap h') (ho : ∃ o, h'.get? hp = some o) : Stp (At hp) g g s { s with heap := h' } := by
  refine ⟨fun _ _ e => e, fun _ _ e => .inl e, fun a o e => (hs.2 a (fun z => by rw [z, ha] at e; cases e)).trans (live a o e), fun a o hn e => (hs.2 a hn).trans e, fun a o e => ?_, rfl⟩
  by_cases z : a = hp
  · subst z; exact ho
  · exact ⟨o, (hs.2 a z).trans e⟩
theorem hp_set {k : Int} {t : Tok} {v : Value} {Q : Unit → Shared → Prop} (live : ∀ a o, g a = some o → s.heap.get? a = some o) (ha : g hp = none) (hh : HpAt s.heap hp vals) (h0 : 0 ≤ k) (h1 : k < vals.length) (hz : vals.length < 2 ^ 18)
    (h : ∀ s', Stp (At hp) g g s s' → HpAt s'.heap hp (vals.set k.toNat v) → Q () s') : wpAny (model PG w) A (setItem (.ref hp) (.int k t) v) Q E s := by
  obtain ⟨m, e⟩ := hh
  refine ki_setAt (n := m) e h0 (by lia) (by simpa using h1) ?_
  have u := PySem.IsL.update (n := m) e (fun x => x.setIfInBounds k.toNat v)
  have eq : vals.toArray.setIfInBounds k.toNat v = (vals.set k.toNat v).toArray := by
    apply Array.toList_inj.mp
    simp
  refine h _ (hp_stp live ha (Heap.SameBut.update ..) ⟨_, u⟩) ?_
  have u' := u
  rw [eq] at u'
  exact ⟨_, u'⟩
theorem hp_app {v : Value} {Q : Value → Shared → Prop} (live : ∀ a o, g a = some o → s.heap.get? a = some o) (ha : g hp = none) (hh : HpAt s.heap hp vals) (hz : vals.length < 2 ^ 18)
    (h : ∀ s', Stp (At hp) g g s s' → HpAt s'.heap hp (vals ++ [v]) → Q .none s') : wpAny (model PG w) A (call (.builtin "list.append") [.ref hp, v]) Q E s := by
  obtain ⟨m, e⟩ := hh
  have u := PySem.IsL.update (n := m) e (fun x => x.push v)
  have eq : vals.toArray.push v = (vals ++ [v]).toArray := by simp
  refine call_meets slot_list_append ⟨_, e, rfl⟩ entry_list_append (args_list_append _ _) (PySem.list_append hp vals.toArray m v (by rw [List.size_toArray, sizeLine_eq]; lia)) ⟨e, ?_⟩
  refine h _ (hp_stp live ha (Heap.SameBut.update ..) ⟨_, u⟩) ?_
  have u' := u
  rw [eq] at u'
  exact ⟨_, u'⟩
theorem hp_pop {v : Value} {Q : Value → Shared → Prop} (live : ∀ a o, g a = some o → s.heap.get? a = some o) (ha : g hp = none) (hh : HpAt s.heap hp (vals ++ [v])) (hz : vals.length < 2 ^ 18)
    (h : ∀ s', Stp (At hp) g g s s' → HpAt s'.heap hp vals → Q v s') : wpAny (model PG w) A (call (.builtin "list.pop") [.ref hp]) Q E s := by
  obtain ⟨m, e⟩ := hh
  have hk : (vals ++ [v]).toArray.size - 1 = vals.length := by rw [List.size_toArray, List.length_append]; rfl
  have hy : (vals ++ [v]).toArray[(vals ++ [v]).toArray.size - 1]? = some v := by rw [hk]; simp
  have u := PySem.IsL.update (n := m) e (fun xs => xs.eraseIdxIfInBounds ((vals ++ [v]).toArray.size - 1))
  have eq : (vals ++ [v]).toArray.eraseIdxIfInBounds ((vals ++ [v]).toArray.size - 1) = vals.toArray := by rw [hk, kl_erase, List.append_nil]
  refine call_meets PySem.F.slot_list_pop ⟨_, e, rfl⟩ PySem.F.entry_list_pop (PySem.F.args_list_pop_1 _) (PySem.MeetsSeq.list_pop_last hp _ m v hy (by rw [List.size_toArray, sizeLine_eq, List.length_append]; simp; lia)) ⟨e, ?_⟩
  refine h _ (hp_stp live ha (Heap.SameBut.update ..) ⟨_, u⟩) ?_
  have u' := u
  rw [eq] at u'
  exact ⟨_, u'⟩
end
end
section
open PySem PySem.W PySem.W.X PyProof.Rows Builtin PySem.Calls
set_option maxRecDepth 100000
set_option maxHeartbeats 4000000
theorem All2.set {α β : Type} {R : α → β → Prop} {a : α} {b : β} (h : R a b) : ∀ {as : List α} {bs : List β} (i : Nat), All2 R as bs → All2 R (as.set i a) (bs.set i b)
  | [], [], _, _ => trivial
  | _ :: _, _ :: _, 0, x => ⟨h, x.2⟩
  | _ :: _, _ :: _, i + 1, x => ⟨x.1, All2.set h i x.2⟩
  | [], _ :: _, _, x => x.elim
  | _ :: _, [], _, x => x.elim
theorem nodup_ne {L : List Ent} (h : (L.map (·.2)).Nodup) {i j : Nat} {a b : Ent} (hi : L[i]? = some a) (hj : L[j]? = some b) (hne : i ≠ j) : a.2 ≠ b.2 := by
  intro e
  have h1 : (L.map (·.2))[i]? = some a.2 := by rw [List.getElem?_map, hi]; rfl
  have h2 : (L.map (·.2))[j]? = some a.2 := by rw [List.getElem?_map, hj, e]; rfl
  have l1 := (List.getElem?_eq_some_iff.mp h1).1
  exact hne (List.getElem?_inj l1 h |>.mp (h1.trans h2.symm))
section
variable {w : World} {A : Around} {E : Value → Shared → Prop} {g : PH} {s : Shared} {n : Nat} {hp : Addr}
theorem Blk.at {g₀ : PH} {s₀ s' : Shared} {env : Env} {vs : List (Str × Value)} (B : Blk (At hp) g₀ s₀ env g s vs) (y : Stp (At hp) g g s s') (hd : ∃ o, s₀.heap.get? hp = some o) (hC : env.cells = []) : Blk (At hp) g₀ s₀ env g s' vs := by
  refine B.stepX y (fun a ha => .inl ha) (fun z => ?_) fun x c hc => ?_
  · obtain ⟨o, ho⟩ := hd
    have := B.lowL
    rw [z, ho] at this; cases this
  · rw [hC] at hc; cases hc
theorem Blk.wk {g₀ : PH} {s₀ : Shared} {env : Env} {vs : List (Str × Value)} (B : Blk N0 g₀ s₀ env g s vs) : Blk (At hp) g₀ s₀ env g s vs := ⟨B.st.of0, B.ea, B.offL, B.lowL, B.offC⟩
noncomputable abbrev KWI (I : Nat → Shared → Prop) (k : Nat) (Done : Shared → Prop) (Q : Flow → Shared → Prop) : Flow → Shared → Prop := fun f s₃ => match f with
      | .next | .cont => ∃ j, j < k ∧ I j s₃
      | .brk => Done s₃
      | .ret v => Q (.ret v) s₃
/-- a while loop: an invariant with a measure, what holds at its end -/
theorem while_ {test : Expr} {body : List Stmt} {env : Env} {pos : Pos} {Q : Flow → Shared → Prop} (I : Nat → Shared → Prop) (Done : Shared → Prop) (m : Nat) (h0 : I m s)
    (turn : ∀ k si, I k si → wpAny (model PG w) A (isTrue test env (eval test env)) (fun b s₂ => if b then wpAny (model PG w) A (execs body env) (KWI I k Done Q) EF s₂ else Done s₂) EF si)
    (after : ∀ s', Done s' → Q .next s') : wpAny (model PG w) A (exec (.While test body [] pos) env) Q E s := by
  refine wpAny_While (codeAny_whileLoop I (fun k si hI => ?_) m h0)
  refine wpAny_mono (turn k si hI) (fun b s₂ h₂ => ?_) fun _ _ z => z.elim
  cases b with
  | true =>
    simp only [if_true] at h₂ ⊢
    refine wpAny_mono h₂ (fun f s₃ h₃ => ?_) fun _ _ z => z.elim
    cases f with
    | next => exact h₃
    | cont => exact h₃
    | brk => exact after _ h₃
    | ret v => exact h₃
  | false =>
    simp only [Bool.false_eq_true, if_false] at h₂ ⊢
    exact wpAny_execs_nil (after _ h₂)
structure SdIc (g : PH) (s : Shared) (hp a : Addr) (nv : Value) (e : Ent) (L : List Ent) (t0 : Tok) (env : Env) (m : Nat) (si : Shared) (q : Nat) (tq : Tok) (H : List Ent) (us : List Value) (vsi : List (Str × Value)) : Prop where
  p1 : m = q
  p2 : Blk (At hp) g s env g si vsi
  p3 : vsi.lookup ("heap" : Str) = some (.ref hp)
  p4 : vsi.lookup ("startpos" : Str) = some (.int 0 t0)
  p5 : vsi.lookup ("pos" : Str) = some (.int q tq)
  p6 : vsi.lookup ("newitem" : Str) = some nv
  p7 : HpAt si.heap hp us
  p8 : All2 (TupV g a) us H
  p9 : q < H.length
  p10 : UpI (H.set q e) q
  p11 : (H.set q e).Perm L
noncomputable def SdI (g : PH) (s : Shared) (hp a : Addr) (nv : Value) (e : Ent) (L : List Ent) (t0 : Tok) (env : Env) (m : Nat) (si : Shared) : Prop := ∃ (q : Nat) (tq : Tok) (H : List Ent) (us : List Value) (vsi : List (Str × Value)), SdIc g s hp a nv e L t0 env m si q tq H us vsi
structure SdDc (g : PH) (s : Shared) (hp a : Addr) (nv : Value) (e : Ent) (L : List Ent) (env : Env) (si : Shared) (q : Nat) (tq : Tok) (H : List Ent) (us : List Value) (vsi : List (Str × Value)) : Prop where
  p1 : Blk (At hp) g s env g si vsi
  p2 : vsi.lookup ("heap" : Str) = some (.ref hp)
  p3 : vsi.lookup ("pos" : Str) = some (.int q tq)
  p4 : vsi.lookup ("newitem" : Str) = some nv
  p5 : HpAt si.heap hp us
  p6 : All2 (TupV g a) us H
  p7 : q < H.length
  p8 : HeapOK (H.set q e)
  p9 : (H.set q e).Perm L
noncomputable def SdD (g : PH) (s : Shared) (hp a : Addr) (nv : Value) (e : Ent) (L : List Ent) (env : Env) (si : Shared) : Prop := ∃ (q : Nat) (tq : Tok) (H : List Ent) (us : List Value) (vsi : List (Str × Value)), SdDc g s hp a nv e L env si q tq H us vsi
theorem sd_call {a : Addr} {f : Value} {vals : List Value} {L : List Ent} {pos : Nat} {t0 t1 : Tok} {Q : Value → Shared → Prop} (live : ∀ a o, g a = some o → s.heap.get? a = some o) (hK : KIn w g) (hR : Room A (n + 4)) (hc : KCls w g a f) (hf : LamV w g f)
    (hg : g hp = none) (hh : HpAt s.heap hp vals) (hall : All2 (TupV g a) vals L) (U : UpI L pos) (hpos : pos < L.length) (hnd : (L.map (·.2)).Nodup) (hb : ∀ e ∈ L, e.1.length < 2 ^ 18) (hlen : L.length < 2 ^ 18)
    (h : ∀ vals' L' s', Stp (At hp) g g s s' → HpAt s'.heap hp vals' → All2 (TupV g a) vals' L' → HeapOK L' → L'.Perm L → Q .none s') :
    wpAny (model PG w) A (call (.ref 35) [.ref hp, .int 0 t0, .int pos t1]) Q E s := by
  refine fn_call (X := N0) (binds := [("heap", .ref hp), ("startpos", .int 0 t0), ("pos", .int pos t1)]) live hK hR (f := 35) rfl (by kernel_rfl) rfl (Looks.of_pure (by rfl)) rfl (by kernel_rfl) (fun A' s₁ hR' _ B0 hlc => ?_) rfl rfl rfl
  generalize hE : callEnvC _ s.heap.objs.size 35 = env at B0 hlc ⊢
  have c1 : env.kindOf ("heap" : Str) = some .local := by rw [← hE]; rfl
  have c2 : env.kindOf ("startpos" : Str) = some .local := by rw [← hE]; rfl
  have c3 : env.kindOf ("pos" : Str) = some .local := by rw [← hE]; rfl
  have c4 : env.kindOf ("newitem" : Str) = some .local := by rw [← hE]; rfl
  have c5 : env.kindOf ("parentpos" : Str) = some .local := by rw [← hE]; rfl
  have c6 : env.kindOf ("parent" : Str) = some .local := by rw [← hE]; rfl
  have c7 : env.cells = [] := by rw [← hE]; rfl
  have hd : ∃ o, s.heap.get? hp = some o := let ⟨k, e⟩ := hh; ⟨_, e⟩
  have hoff : hp ≠ env.locals := fun z => by
    obtain ⟨o, ho⟩ := hd
    have := B0.lowL
    rw [← z, ho] at this; cases this
  clear hE
  have hh1 : HpAt s₁.heap hp vals := hh.keep fun o e => B0.st.keep0 _ _ e
  have B := B0.wk (hp := hp)
  clear B0
  have hlv := hall.length
  refine hide fun Gₕ hGₕ => ?_
  obtain ⟨e, he⟩ : ∃ e, L[pos]? = some e := ⟨_, List.getElem?_eq_getElem hpos⟩
  obtain ⟨nv, hnv, hne⟩ := hall.getR he
  refine hGₕ ?_
  refine wpAny_execs_cons (wpAny_Assign_Name (Subscript_ (name_ B rfl (.inl c1) (name_ B rfl (.inl c3) ?_))))
  refine item_listL hh1.isList (by lia) (by lia) (x := nv) (by simpa using hnv) ?_
  refine stl_ B c4 fun s2 B2 same2 => ?_
  have hh2 : HpAt s2.heap hp vals := hh1.keep fun o e => (same2.2 hp hoff).trans e
  have hset : ∀ (l : List Ent) (i : Nat) x, l[i]? = some x → l.set i x = l := fun l i x hx => by
    obtain ⟨h1, rfl⟩ := List.getElem?_eq_some_iff.mp hx
    exact List.set_getElem_self h1
  refine wpAny_execs_cons (while_ (SdI g s hp a nv e L t0 env) (SdD g s hp a nv e L env)
    pos ⟨pos, t1, L, vals, _, rfl, B2, rfl, rfl, rfl, rfl, hh2, hall, hpos, by rw [hset L pos e he]; exact U, by rw [hset L pos e he]⟩ ?_ ?_)
  · intro q si rᵢ1
    refine hide fun Gₕ hGₕ => ?_
    obtain ⟨_, tq, H, us, vsi, rfl, Bi, k1, k2, k3, k4, hhi, halli, hq, Ui, Pi⟩ := rᵢ1
    refine hGₕ ?_
    have hli := halli.length
    have hHl : H.length = L.length := by have := Pi.length_eq; simpa using this
    have hq1 : q < us.length := by lia
    have he1 : (H.set q e)[q]? = some e := List.getElem?_set_self hq
    refine wpAny_isTrue_Compare1 (name_ Bi k3 (.inl c3) (name_ Bi k2 (.inl c2) (gt_int (wpAny_truthy_bool ?_))))
    by_cases h0 : 0 < q
    · have hd0 : decide ((0 : Int) < (q : Int)) = true := by simpa using h0
      rw [hd0, if_pos rfl]
      have hpq : (q - 1) / 2 < H.length := by lia
      have hpne : (q - 1) / 2 ≠ q := by lia
      refine hide fun Gₕ hGₕ => ?_
      obtain ⟨pe, hpe⟩ : ∃ pe, H[(q - 1) / 2]? = some pe := ⟨_, List.getElem?_eq_getElem hpq⟩
      obtain ⟨pv, hpv, hptv⟩ := halli.getR hpe
      refine hGₕ ?_
      have hpe1 : (H.set q e)[(q - 1) / 2]? = some pe := by rw [List.getElem?_set_ne (fun z => hpne z.symm)]; exact hpe
      -- parentpos
      refine wpAny_execs_cons (wpAny_Assign_Name (wpAny_BinOp (wpAny_BinOp (name_ Bi k3 (.inl c3) (wpAny_Constant_int (PyProof.Rows.sub_int (wpAny_Constant_int (rshift_int (by decide) ?_))))))))
      have e2 : ((q : Int) - 1).fdiv (2 ^ (1 : Int).toNat) = (((q - 1) / 2 : Nat) : Int) := by
        have : (2 : Int) ^ (1 : Int).toNat = 2 := by decide
        rw [this, Int.fdiv_eq_ediv_of_nonneg _ (by decide)]
        lia
      rw [e2]
      refine stl_ ((Bi.tok _)) c5 fun s3 B3 same3 => ?_
      have hh3 : HpAt s3.heap hp us := hhi.keep fun o e => (same3.2 hp hoff).trans e
      -- parent
      refine wpAny_execs_cons (wpAny_Assign_Name (Subscript_ (name_ B3 (lk_cons (by decide) k1) (.inl c1) (name_ B3 lk_self (.inl c5) ?_))))
      refine item_listL hh3.isList (by lia) (by lia) (x := pv) (by rw [Int.toNat_natCast]; exact hpv) ?_
      refine stl_ B3 c6 fun s4 B4 same4 => ?_
      have hh4 : HpAt s4.heap hp us := hh3.keep fun o e => (same4.2 hp hoff).trans e
      -- the test
      have bp : pe.1.length < 2 ^ 18 := hb pe (Pi.mem_iff.mp (List.mem_of_getElem? hpe1))
      have be : e.1.length < 2 ^ 18 := hb e (Pi.mem_iff.mp (List.mem_of_getElem? he1))
      have nd : ((H.set q e).map (·.2)).Nodup := (Pi.map _).symm.nodup hnd
      refine wpAny_execs_cons (wpAny_If (wpAny_isTrue_Compare1 (name_ B4 (lk_cons (by decide) (lk_cons (by decide) k4)) (.inl c4) (name_ B4 lk_self (.inl c6) ?_))))
      refine tup_lt (n := n) B4.live hK hR' hc hf hne hptv be bp (nodup_ne nd he1 hpe1 (fun z => hpne z.symm)) fun s5 st5 => wpAny_truthy_bool ?_
      have B5 := B4.step st5.of0
      have hh5 : HpAt s5.heap hp us := hh4.keep fun o e => st5.keep0 _ _ e
      cases hlt : eltB e pe with
      | true =>
        rw [if_pos rfl]
        refine wpAny_execs_cons (wpAny_Assign_Subscript (name_ B5 lk_self (.inl c6) (name_ B5 (lk_cons (by decide) (lk_cons (by decide) k1)) (.inl c1) (name_ B5 (lk_cons (by decide) (lk_cons (by decide) k3)) (.inl c3) ?_))))
        refine hp_set B5.live hg hh5 (by lia) (by lia) (by lia) fun s6 st6 hh6 => ?_
        have B6 := B5.at st6 hd c7
        refine wpAny_execs_cons (wpAny_Assign_Name (name_ B6 (lk_cons (by decide) lk_self) (.inl c5) (stl_ B6 c3 fun s7 B7 same7 => ?_)))
        have hh7 := hh6.keep fun o e => (same7.2 hp hoff).trans e
        rw [Int.toNat_natCast] at hh7
        refine wpAny_execs_cons (wpAny_Continue ?_)
        have es : ((H.set q e).set q pe).set ((q - 1) / 2) e = (H.set q pe).set ((q - 1) / 2) e := by rw [List.set_set]
        have U' := Ui.step h0 he1 hpe1 (eltB_iff.mp hlt)
        have P' := (set_swap_perm he1 hpe1).trans Pi
        rw [es] at U' P'
        exact ⟨(q - 1) / 2, by lia, (q - 1) / 2, _, H.set q pe, us.set q pv, _, rfl, B7, lk_cons (by decide) (lk_cons (by decide) (lk_cons (by decide) k1)), lk_cons (by decide) (lk_cons (by decide) (lk_cons (by decide) k2)), lk_self,
          lk_cons (by decide) (lk_cons (by decide) (lk_cons (by decide) k4)), hh7, All2.set hptv q halli, by rw [List.length_set]; lia, U', P'⟩
      | false =>
        rw [if_neg Bool.false_ne_true]
        refine wpAny_execs_nil (wpAny_execs_cons (wpAny_Break ?_))
        refine ⟨q, tq, H, us, _, B5, lk_cons (by decide) (lk_cons (by decide) k1), lk_cons (by decide) (lk_cons (by decide) k3), lk_cons (by decide) (lk_cons (by decide) k4), hh5, halli, hq, Ui.done (.inr fun x p hx hp' => ?_), Pi⟩
        rw [he1] at hx
        rw [hpe1] at hp'
        cases hx; cases hp'
        exact eltB_not.mp hlt
    · have hd0 : decide ((0 : Int) < (q : Int)) = false := by simpa using h0
      rw [hd0, if_neg Bool.false_ne_true]
      exact ⟨q, tq, H, us, vsi, Bi, k1, k3, k4, hhi, halli, hq, Ui.done (.inl (by lia)), Pi⟩
  · intro si rᵢ2
    refine hide fun Gₕ hGₕ => ?_
    obtain ⟨q, tq, H, us, vsi, Bi, k1, k3, k4, hhi, halli, hq, Hi, Pi⟩ := rᵢ2
    refine hGₕ ?_
    have hli := halli.length
    have hHl : H.length = L.length := by have := Pi.length_eq; simpa using this
    refine wpAny_execs_cons (wpAny_Assign_Subscript (name_ Bi k4 (.inl c4) (name_ Bi k1 (.inl c1) (name_ Bi k3 (.inl c3) ?_))))
    refine hp_set Bi.live hg hhi (by lia) (by lia) (by lia) fun s6 st6 hh6 => ?_
    rw [Int.toNat_natCast] at hh6
    exact wpAny_execs_nil (h _ _ _ (Bi.at st6 hd c7).st hh6 (All2.set hne q halli) Hi Pi)
end
end
section
open PySem PySem.W PySem.W.X PyProof.Rows Builtin PySem.Calls
set_option maxRecDepth 100000
set_option maxHeartbeats 4000000
section
variable {w : World} {A : Around} {E : Value → Shared → Prop} {g : PH} {s : Shared} {n : Nat} {hp : Addr}
structure SuIc (g : PH) (s : Shared) (hp a : Addr) (nv : Value) (e : Ent) (L : List Ent) (env : Env) (m : Nat) (si : Shared) (q : Nat) (tq tc ts te : Tok) (H : List Ent) (us : List Value) (vsi : List (Str × Value)) : Prop where
  p1 : m = L.length - q
  p2 : Blk (At hp) g s env g si vsi
  p3 : vsi.lookup ("heap" : Str) = some (.ref hp)
  p4 : vsi.lookup ("startpos" : Str) = some (.int 0 ts)
  p5 : vsi.lookup ("endpos" : Str) = some (.int L.length te)
  p6 : vsi.lookup ("pos" : Str) = some (.int q tq)
  p7 : vsi.lookup ("childpos" : Str) = some (.int ((2 * q + 1 : Nat) : Int) tc)
  p8 : vsi.lookup ("newitem" : Str) = some nv
  p9 : HpAt si.heap hp us
  p10 : All2 (TupV g a) us H
  p11 : q < H.length
  p12 : DownI (H.set q e) q
  p13 : (H.set q e).Perm L
noncomputable def SuI (g : PH) (s : Shared) (hp a : Addr) (nv : Value) (e : Ent) (L : List Ent) (env : Env) (m : Nat) (si : Shared) : Prop := ∃ (q : Nat) (tq tc ts te : Tok) (H : List Ent) (us : List Value) (vsi : List (Str × Value)), SuIc g s hp a nv e L env m si q tq tc ts te H us vsi
structure SuDc (g : PH) (s : Shared) (hp a : Addr) (nv : Value) (e : Ent) (L : List Ent) (env : Env) (si : Shared) (q : Nat) (tq ts : Tok) (H : List Ent) (us : List Value) (vsi : List (Str × Value)) : Prop where
  p1 : Blk (At hp) g s env g si vsi
  p2 : vsi.lookup ("heap" : Str) = some (.ref hp)
  p3 : vsi.lookup ("startpos" : Str) = some (.int 0 ts)
  p4 : vsi.lookup ("pos" : Str) = some (.int q tq)
  p5 : vsi.lookup ("newitem" : Str) = some nv
  p6 : HpAt si.heap hp us
  p7 : All2 (TupV g a) us H
  p8 : q < H.length
  p9 : UpI (H.set q e) q
  p10 : (H.set q e).Perm L
noncomputable def SuD (g : PH) (s : Shared) (hp a : Addr) (nv : Value) (e : Ent) (L : List Ent) (env : Env) (si : Shared) : Prop := ∃ (q : Nat) (tq ts : Tok) (H : List Ent) (us : List Value) (vsi : List (Str × Value)), SuDc g s hp a nv e L env si q tq ts H us vsi
theorem su_call {a : Addr} {f : Value} {vals : List Value} {L : List Ent} {t0 : Tok} {Q : Value → Shared → Prop} (live : ∀ a o, g a = some o → s.heap.get? a = some o) (hK : KIn w g) (hR : Room A (n + 5)) (hc : KCls w g a f) (hf : LamV w g f)
    (hg : g hp = none) (hh : HpAt s.heap hp vals) (hall : All2 (TupV g a) vals L) (U : DownI L 0) (hpos : 0 < L.length) (hnd : (L.map (·.2)).Nodup) (hb : ∀ e ∈ L, e.1.length < 2 ^ 18) (hlen : L.length < 2 ^ 18)
    (h : ∀ vals' L' s', Stp (At hp) g g s s' → HpAt s'.heap hp vals' → All2 (TupV g a) vals' L' → HeapOK L' → L'.Perm L → Q .none s') :
    wpAny (model PG w) A (call (.ref 42) [.ref hp, .int 0 t0]) Q E s := by
  refine fn_call (X := N0) (binds := [("heap", .ref hp), ("pos", .int 0 t0)]) live hK hR (f := 42) rfl (by kernel_rfl) rfl (Looks.of_pure (by rfl)) rfl (by kernel_rfl) (fun A' s₁ hR' _ B0 hlc => ?_) rfl rfl rfl
  generalize hE : callEnvC _ s.heap.objs.size 42 = env at B0 hlc ⊢
  have c1 : env.kindOf ("heap" : Str) = some .local := by rw [← hE]; rfl
  have c2 : env.kindOf ("startpos" : Str) = some .local := by rw [← hE]; rfl
  have c3 : env.kindOf ("pos" : Str) = some .local := by rw [← hE]; rfl
  have c4 : env.kindOf ("newitem" : Str) = some .local := by rw [← hE]; rfl
  have c5 : env.kindOf ("childpos" : Str) = some .local := by rw [← hE]; rfl
  have c6 : env.kindOf ("rightpos" : Str) = some .local := by rw [← hE]; rfl
  have c8 : env.kindOf ("endpos" : Str) = some .local := by rw [← hE]; rfl
  have c7 : env.cells = [] := by rw [← hE]; rfl
  have d1 : env.kindOf ("len" : Str) = some .globalImplicit := by rw [← hE]; rfl
  have d2 : env.kindOf ("_siftdown" : Str) = some .globalImplicit := by rw [← hE]; rfl
  have d3 : env.globals = mainGlobals := by rw [← hE]; rfl
  have d4 : env.builtins = builtinsNs := by rw [← hE]; rfl
  have d5 : interactive env = false := by rw [← hE]; rfl
  have hd : ∃ o, s.heap.get? hp = some o := let ⟨k, e⟩ := hh; ⟨_, e⟩
  have hoff : hp ≠ env.locals := fun z => by
    obtain ⟨o, ho⟩ := hd
    have := B0.lowL
    rw [← z, ho] at this; cases this
  clear hE
  have hh1 : HpAt s₁.heap hp vals := hh.keep fun o e => B0.st.keep0 _ _ e
  have B := B0.wk (hp := hp)
  clear B0
  have hlv := hall.length
  refine hide fun Gₕ hGₕ => ?_
  obtain ⟨e, he⟩ : ∃ e, L[0]? = some e := ⟨_, List.getElem?_eq_getElem hpos⟩
  obtain ⟨nv, hnv, hne⟩ := hall.getR he
  refine hGₕ ?_
  have hset : ∀ (l : List Ent) (i : Nat) x, l[i]? = some x → l.set i x = l := fun l i x hx => by
    obtain ⟨h1, rfl⟩ := List.getElem?_eq_some_iff.mp hx
    exact List.set_getElem_self h1
  -- endpos
  refine wpAny_execs_cons (wpAny_Assign_Name (callB1 B hK d1 d3 d4 (by kernel_rfl) (id := "len") (by kernel_rfl) (name_ B rfl (.inl c1) ?_)))
  refine call_len_list hh1.isList (by rw [List.size_toArray]; lia) ?_
  have el : ((vals.toArray.size : Nat) : Int) = (L.length : Int) := by rw [List.size_toArray, hlv]
  rw [el]
  refine stl_ (B.tok _) c8 fun s2 B2 same2 => ?_
  have hh2 : HpAt s2.heap hp vals := hh1.keep fun o e => (same2.2 hp hoff).trans e
  -- startpos
  refine wpAny_execs_cons (wpAny_Assign_Name (name_ B2 (lk_cons (by decide) rfl) (.inl c3) (stl_ B2 c2 fun s3 B3 same3 => ?_)))
  have hh3 : HpAt s3.heap hp vals := hh2.keep fun o e => (same3.2 hp hoff).trans e
  -- newitem
  refine wpAny_execs_cons (wpAny_Assign_Name (Subscript_ (name_ B3 (lk_cons (by decide) (lk_cons (by decide) rfl)) (.inl c1) (name_ B3 (lk_cons (by decide) (lk_cons (by decide) rfl)) (.inl c3) ?_))))
  refine item_listL hh3.isList (by lia) (by lia) (x := nv) (by simpa using hnv) ?_
  refine stl_ B3 c4 fun s4 B4 same4 => ?_
  have hh4 : HpAt s4.heap hp vals := hh3.keep fun o e => (same4.2 hp hoff).trans e
  -- childpos
  refine wpAny_execs_cons (wpAny_Assign_Name (wpAny_BinOp (wpAny_BinOp (wpAny_Constant_int (name_ (B4.tok _) (lk_cons (by decide) (lk_cons (by decide) (lk_cons (by decide) rfl))) (.inl c3) (mul_int (wpAny_Constant_int (PyProof.Rows.add_int ?_)) (PySem.IntMulOk.of_left (by decide))))))))
  refine stl_ (B4.tok _) c5 fun s5 B5 same5 => ?_
  have hh5 : HpAt s5.heap hp vals := hh4.keep fun o e => (same5.2 hp hoff).trans e
  refine wpAny_execs_cons (while_ (SuI g s hp a nv e L env) (SuD g s hp a nv e L env)
    L.length ⟨0, t0, _, t0, _, L, vals, _, rfl, B5, rfl, rfl, rfl, rfl, rfl, rfl, hh5, hall, hpos, by rw [hset L 0 e he]; exact U, by rw [hset L 0 e he]⟩ ?_ ?_)
  · intro m si rᵢ1
    refine hide fun Gₕ hGₕ => ?_
    obtain ⟨q, tq, tc, ts, te, H, us, vsi, rfl, Bi, k1, k2, k3, k4, k5, k6, hhi, halli, hq, Di, Pi⟩ := rᵢ1
    refine hGₕ ?_
    have hli := halli.length
    have hHl : H.length = L.length := by have := Pi.length_eq; simpa using this
    have he1 : (H.set q e)[q]? = some e := List.getElem?_set_self hq
    have nd : ((H.set q e).map (·.2)).Nodup := (Pi.map _).symm.nodup hnd
    have oth : ∀ i, i ≠ q → (H.set q e)[i]? = H[i]? := fun i hi => List.getElem?_set_ne (fun z => hi z.symm)
    refine wpAny_isTrue_Compare1 (name_ Bi k5 (.inl c5) (name_ Bi k3 (.inl c8) (PyProof.Rows.lt_int (wpAny_truthy_bool ?_))))
    by_cases h0 : 2 * q + 1 < L.length
    · have hd0 : decide (((2 * q + 1 : Nat) : Int) < (L.length : Int)) = true := decide_eq_true (by lia)
      rw [hd0, if_pos rfl]
      refine hide fun Gₕ hGₕ => ?_
      obtain ⟨ce, hce⟩ : ∃ ce, H[2 * q + 1]? = some ce := ⟨_, List.getElem?_eq_getElem (by lia)⟩
      obtain ⟨cv, hcv, hctv⟩ := halli.getR hce
      refine hGₕ ?_
      have hce1 : (H.set q e)[2 * q + 1]? = some ce := by rw [oth _ (by lia)]; exact hce
      have bc : ce.1.length < 2 ^ 18 := hb ce (Pi.mem_iff.mp (List.mem_of_getElem? hce1))
      -- rightpos
      refine wpAny_execs_cons (wpAny_Assign_Name (wpAny_BinOp (name_ Bi k5 (.inl c5) (wpAny_Constant_int (PyProof.Rows.add_int ?_)))))
      have er : (((2 * q + 1 : Nat) : Int) + 1) = ((2 * q + 2 : Nat) : Int) := by lia
      rw [er]
      refine stl_ (Bi.tok _) c6 fun s6 B6 same6 => ?_
      have hh6 : HpAt s6.heap hp us := hhi.keep fun o e => (same6.2 hp hoff).trans e
      -- the least child
      refine wpAny_execs_cons (wpAny_mono (Q := fun fl sj => fl = .next ∧ ∃ (c : Nat) (tc' : Tok) (ye : Ent) (yv : Value) (vsj : List (Str × Value)), (c = 2 * q + 1 ∨ c = 2 * q + 2) ∧ H[c]? = some ye ∧ us[c]? = some yv ∧ TupV g a yv ye ∧
        (∀ c' x, 0 < c' → (c' - 1) / 2 = q → (H.set q e)[c']? = some x → ¬ elt x ye) ∧ Blk (At hp) g s env g sj vsj ∧ vsj.lookup ("heap" : Str) = some (.ref hp) ∧ vsj.lookup ("startpos" : Str) = some (.int 0 ts) ∧ vsj.lookup ("endpos" : Str) = some (.int L.length te) ∧ vsj.lookup ("pos" : Str) = some (.int q tq) ∧
        vsj.lookup ("childpos" : Str) = some (.int (c : Int) tc') ∧ vsj.lookup ("newitem" : Str) = some nv ∧ HpAt sj.heap hp us) (E := EF) (wpAny_If ?_) ?_ fun _ _ z => z)
      · refine isTrue_and (wpAny_isTrue_Compare1 (name_ B6 lk_self (.inl c6) (name_ B6 (lk_cons (by decide) k3) (.inl c8) (PyProof.Rows.lt_int (wpAny_truthy_bool ?_)))))
        by_cases h1 : 2 * q + 2 < L.length
        · have hd1 : decide (((2 * q + 2 : Nat) : Int) < (L.length : Int)) = true := decide_eq_true (by lia)
          rw [hd1, if_pos rfl]
          refine hide fun Gₕ hGₕ => ?_
          obtain ⟨re, hre⟩ : ∃ re, H[2 * q + 2]? = some re := ⟨_, List.getElem?_eq_getElem (by lia)⟩
          obtain ⟨rv, hrv, hrtv⟩ := halli.getR hre
          refine hGₕ ?_
          have hre1 : (H.set q e)[2 * q + 2]? = some re := by rw [oth _ (by lia)]; exact hre
          have br : re.1.length < 2 ^ 18 := hb re (Pi.mem_iff.mp (List.mem_of_getElem? hre1))
          have two : ∀ (c' : Nat) (x : Ent), 0 < c' → (c' - 1) / 2 = q → (H.set q e)[c']? = some x → x = ce ∨ x = re := fun c' x h1 h2 h3 => by
            have : c' = 2 * q + 1 ∨ c' = 2 * q + 2 := by lia
            rcases this with z | z
            · subst z; rw [hce1] at h3; cases h3; exact .inl rfl
            · subst z; rw [hre1] at h3; cases h3; exact .inr rfl
          refine isTrue_and (isTrue_not (wpAny_isTrue_Compare1 (Subscript_ (name_ B6 (lk_cons (by decide) k1) (.inl c1) (name_ B6 (lk_cons (by decide) k5) (.inl c5) ?_)))))
          refine item_listL hh6.isList (by lia) (by lia) (x := cv) (by rw [Int.toNat_natCast]; exact hcv) ?_
          refine Subscript_ (name_ B6 (lk_cons (by decide) k1) (.inl c1) (name_ B6 lk_self (.inl c6) ?_))
          refine item_listL hh6.isList (by lia) (by lia) (x := rv) (by rw [Int.toNat_natCast]; exact hrv) ?_
          refine tup_lt (n := n + 1) B6.live hK hR' hc hf hctv hrtv bc br (nodup_ne nd hce1 hre1 (by lia)) fun s7 st7 => wpAny_truthy_bool ?_
          have B7 := B6.step st7.of0
          have hh7 : HpAt s7.heap hp us := hh6.keep fun o e => st7.keep0 _ _ e
          cases hlt : eltB ce re with
          | true =>
            rw [Bool.not_true, if_neg Bool.false_ne_true, if_neg Bool.false_ne_true]
            refine wpAny_execs_nil ⟨rfl, 2 * q + 1, tc, ce, cv, _, .inl rfl, hce, hcv, hctv, fun c' x h1 h2 h3 => ?_, B7, lk_cons (by decide) k1, lk_cons (by decide) k2, lk_cons (by decide) k3, lk_cons (by decide) k4, lk_cons (by decide) k5, lk_cons (by decide) k6, hh7⟩
            rcases two c' x h1 h2 h3 with z | z
            · rw [z]; exact nelt_refl _
            · rw [z]; exact elt_asymm (eltB_iff.mp hlt)
          | false =>
            rw [Bool.not_false, if_pos rfl]
            refine isTrue_and_nil ?_
            rw [if_pos rfl]
            refine wpAny_execs_cons (wpAny_Assign_Name (name_ B7 lk_self (.inl c6) (stl_ B7 c5 fun s8 B8 same8 => wpAny_execs_nil ?_)))
            have hh8 : HpAt s8.heap hp us := hh7.keep fun o e => (same8.2 hp hoff).trans e
            refine ⟨rfl, 2 * q + 2, _, re, rv, _, .inr rfl, hre, hrv, hrtv, fun c' x h1 h2 h3 => ?_, B8, lk_cons (by decide) (lk_cons (by decide) k1), lk_cons (by decide) (lk_cons (by decide) k2), lk_cons (by decide) (lk_cons (by decide) k3), lk_cons (by decide) (lk_cons (by decide) k4), lk_self, lk_cons (by decide) (lk_cons (by decide) k6), hh8⟩
            rcases two c' x h1 h2 h3 with z | z
            · rw [z]; exact eltB_not.mp hlt
            · rw [z]; exact nelt_refl _
        · have hd1 : decide (((2 * q + 2 : Nat) : Int) < (L.length : Int)) = false := decide_eq_false (by lia)
          rw [hd1, if_neg Bool.false_ne_true, if_neg Bool.false_ne_true]
          refine wpAny_execs_nil ⟨rfl, 2 * q + 1, tc, ce, cv, _, .inl rfl, hce, hcv, hctv, fun c' x h2 h3 h4 => ?_, B6, lk_cons (by decide) k1, lk_cons (by decide) k2, lk_cons (by decide) k3, lk_cons (by decide) k4, lk_cons (by decide) k5, lk_cons (by decide) k6, hh6⟩
          have hl4 := (List.getElem?_eq_some_iff.mp h4).1
          rw [List.length_set] at hl4
          have : c' = 2 * q + 1 := by lia
          subst this
          rw [hce1] at h4; cases h4; exact nelt_refl _
      · intro fl sj rᵢ2
        refine hide fun Gₕ hGₕ => ?_
        obtain ⟨rfl, c, tc', ye, yv, vsj, hcc, hye, hyv, hytv, hleast, Bj, j1, j2, j3, j4, j5, j6, hhj⟩ := rᵢ2
        refine hGₕ ?_
        have hcl := (List.getElem?_eq_some_iff.mp hye).1
        have hye1 : (H.set q e)[c]? = some ye := by rw [oth _ (by lia)]; exact hye
        refine wpAny_execs_cons (wpAny_Assign_Subscript (Subscript_ (name_ Bj j1 (.inl c1) (name_ Bj j5 (.inl c5) ?_))))
        refine item_listL hhj.isList (by lia) (by lia) (x := yv) (by rw [Int.toNat_natCast]; exact hyv) ?_
        refine name_ Bj j1 (.inl c1) (name_ Bj j4 (.inl c3) ?_)
        refine hp_set Bj.live hg hhj (by lia) (by lia) (by lia) fun s8 st8 hh8 => ?_
        rw [Int.toNat_natCast] at hh8
        have B8 := Bj.at st8 hd c7
        refine wpAny_execs_cons (wpAny_Assign_Name (name_ B8 j5 (.inl c5) (stl_ B8 c3 fun s9 B9 same9 => ?_)))
        have hh9 := hh8.keep fun o e => (same9.2 hp hoff).trans e
        refine wpAny_execs_cons (wpAny_Assign_Name (wpAny_BinOp (wpAny_BinOp (wpAny_Constant_int (name_ (B9.tok _) lk_self (.inl c3) (mul_int (wpAny_Constant_int (PyProof.Rows.add_int ?_)) (PySem.IntMulOk.of_left (by decide))))))))
        have ec : (2 * (c : Int) + 1) = ((2 * c + 1 : Nat) : Int) := by lia
        rw [ec]
        refine stl_ (B9.tok _) c5 fun s10 B10 same10 => wpAny_execs_nil ?_
        have hh10 := hh9.keep (h' := s10.heap) fun o e => (same10.2 hp hoff).trans e
        have es : ((H.set q e).set q ye).set c e = (H.set q ye).set c e := by rw [List.set_set]
        have D' := Di.step (by lia) (by lia) he1 hye1 hleast
        have P' := (set_swap_perm he1 hye1).trans Pi
        rw [es] at D' P'
        exact ⟨L.length - c, by lia, c, _, _, ts, te, H.set q ye, us.set q yv, _, rfl, B10, lk_cons (by decide) (lk_cons (by decide) j1), lk_cons (by decide) (lk_cons (by decide) j2), lk_cons (by decide) (lk_cons (by decide) j3), lk_cons (by decide) lk_self, lk_self,
          lk_cons (by decide) (lk_cons (by decide) j6), hh10, All2.set hytv q halli, by rw [List.length_set]; exact hcl, D', P'⟩
    · have hd0 : decide (((2 * q + 1 : Nat) : Int) < (L.length : Int)) = false := decide_eq_false (by lia)
      rw [hd0, if_neg Bool.false_ne_true]
      exact ⟨q, tq, ts, H, us, vsi, Bi, k1, k2, k4, k6, hhi, halli, hq, Di.done (by rw [List.length_set]; lia), Pi⟩
  · intro si rᵢ3
    refine hide fun Gₕ hGₕ => ?_
    obtain ⟨q, tq, ts, H, us, vsi, Bi, k1, k2, k3, k4, hhi, halli, hq, Ui, Pi⟩ := rᵢ3
    refine hGₕ ?_
    have hli := halli.length
    have hHl : H.length = L.length := by have := Pi.length_eq; simpa using this
    refine wpAny_execs_cons (wpAny_Assign_Subscript (name_ Bi k4 (.inl c4) (name_ Bi k1 (.inl c1) (name_ Bi k3 (.inl c3) ?_))))
    refine hp_set Bi.live hg hhi (by lia) (by lia) (by lia) fun s6 st6 hh6 => ?_
    rw [Int.toNat_natCast] at hh6
    have B6 := Bi.at st6 hd c7
    refine wpAny_execs_cons (wpAny_Expr (callFn B6 hK d2 d3 (f := 35) (by kernel_rfl) rfl (args_cons (name_ B6 k1 (.inl c1) (args_cons (name_ B6 k2 (.inl c2) (args_cons (name_ B6 k3 (.inl c3) (args_nil ⟨⟨g, hK, B6.live⟩, ?_⟩)))))))) d5)
    have nd : ((H.set q e).map (·.2)).Nodup := (Pi.map _).symm.nodup hnd
    refine sd_call (n := n) B6.live hK hR' hc hf hg hh6 (All2.set hne q halli) Ui (by rw [List.length_set]; exact hq) nd (fun x hx => hb x (Pi.mem_iff.mp hx)) (by rw [List.length_set]; lia) fun vals' L' s7 st7 hh7 hall7 hok hp7 => ?_
    exact wpAny_execs_nil (h _ _ _ (B6.at st7 hd c7).st hh7 hall7 hok (hp7.trans Pi))
end
end
section
open PySem PySem.W PySem.W.X PyProof.Rows Builtin PySem.Calls
set_option maxRecDepth 100000
set_option maxHeartbeats 4000000
section
variable {w : World} {A : Around} {E : Value → Shared → Prop} {g : PH} {s : Shared} {n : Nat} {hp : Addr}
theorem push_call {a : Addr} {f v : Value} {vals : List Value} {L : List Ent} {e : Ent} {Q : Value → Shared → Prop} (live : ∀ a o, g a = some o → s.heap.get? a = some o) (hK : KIn w g) (hR : Room A (n + 5)) (hc : KCls w g a f) (hf : LamV w g f)
    (hg : g hp = none) (hh : HpAt s.heap hp vals) (hall : All2 (TupV g a) vals L) (hv : TupV g a v e) (U : HeapOK L) (hnd : ((L ++ [e]).map (·.2)).Nodup) (hb : ∀ x ∈ L ++ [e], x.1.length < 2 ^ 18) (hlen : L.length < 2 ^ 17)
    (h : ∀ vals' L' s', Stp (At hp) g g s s' → HpAt s'.heap hp vals' → All2 (TupV g a) vals' L' → HeapOK L' → L'.Perm (L ++ [e]) → Q .none s') :
    wpAny (model PG w) A (call (.ref 21) [.ref hp, v]) Q E s := by
  refine fn_call (X := N0) (binds := [("heap", .ref hp), ("item", v)]) live hK hR (f := 21) rfl (by kernel_rfl) rfl (Looks.of_pure (by rfl)) rfl (by kernel_rfl) (fun A' s₁ hR' _ B0 hlc => ?_) rfl rfl rfl
  have hd : ∃ o, s.heap.get? hp = some o := let ⟨k, e⟩ := hh; ⟨_, e⟩
  have hh1 : HpAt s₁.heap hp vals := hh.keep fun o e => B0.st.keep0 _ _ e
  have B := B0.wk (hp := hp)
  clear B0
  have hlv := hall.length
  refine wpAny_execs_cons (wpAny_Expr (MethodCall_ (pl := ?_) (name_ B rfl (.inl rfl) ?_)))
  rotate_left
  refine getMethod_builtin hh1.isList.typeIs PySem.F.plainAttrs_list slot_list_append (by kernel_rfl) (fun a e => by cases e; obtain ⟨k, e⟩ := hh1; exact ⟨_, e, rfl⟩) ?_
  refine callWith_builtin rfl (evalArgs_plain (args_cons (name_ B rfl (.inl rfl) (args_nil ?_))))
  refine hp_app B.live hg hh1 (by lia) fun s2 st2 hh2 => ?_
  have B2 := B.at st2 hd rfl
  refine wpAny_execs_cons (wpAny_Expr (callFn B2 hK rfl rfl (f := 35) (by kernel_rfl) rfl (args_cons (name_ B2 rfl (.inl rfl) (args_cons (wpAny_Constant_int (args_cons (wpAny_BinOp (callB1 (B2.tok _) hK rfl rfl rfl (by kernel_rfl) (id := "len") (by kernel_rfl) (name_ (B2.tok _) rfl (.inl rfl) ?_))))))))))
  refine call_len_list hh2.isList (by rw [List.size_toArray, List.length_append]; simp; lia) ?_
  refine wpAny_Constant_int (PyProof.Rows.sub_int (args_nil ⟨⟨g, hK, (B2.tok _).live⟩, ?_⟩))
  have el : (((vals ++ [v]).toArray.size : Nat) : Int) - 1 = ((L.length : Nat) : Int) := by rw [List.size_toArray, List.length_append, hlv]; simp
  rw [el]
  refine sd_call (n := n) (vals := vals ++ [v]) (L := L ++ [e]) (B2.tok _).live hK hR' hc hf hg hh2 (hall.snoc hv) (U.push e) (by simp) hnd hb (by rw [List.length_append]; simp; lia) fun vals' L' s7 st7 hh7 hall7 hok hp7 => ?_
  exact wpAny_execs_nil (h _ _ _ ((B2.tok _).at st7 hd rfl).st hh7 hall7 hok hp7)
theorem pop_call {a : Addr} {f : Value} {vals : List Value} {L : List Ent} {Q : Value → Shared → Prop} (live : ∀ a o, g a = some o → s.heap.get? a = some o) (hK : KIn w g) (hR : Room A (n + 6)) (hc : KCls w g a f) (hf : LamV w g f)
    (hg : g hp = none) (hh : HpAt s.heap hp vals) (hall : All2 (TupV g a) vals L) (U : HeapOK L) (hne : L ≠ []) (hnd : (L.map (·.2)).Nodup) (hb : ∀ x ∈ L, x.1.length < 2 ^ 18) (hlen : L.length < 2 ^ 17)
    (h : ∀ v e vals' L' s', Stp (At hp) g g s s' → TupV g a v e → HpAt s'.heap hp vals' → All2 (TupV g a) vals' L' → HeapOK L' → (e :: L').Perm L → (∀ x ∈ L', e.1.length ≤ x.1.length) → Q v s') :
    wpAny (model PG w) A (call (.ref 28) [.ref hp]) Q E s := by
  refine fn_call (X := N0) (binds := [("heap", .ref hp)]) live hK hR (f := 28) rfl (by kernel_rfl) rfl (Looks.of_pure (by rfl)) rfl (by kernel_rfl) (fun A' s₁ hR' _ B0 hlc => ?_) rfl rfl rfl
  have hd : ∃ o, s.heap.get? hp = some o := let ⟨k, e⟩ := hh; ⟨_, e⟩
  have hoff : hp ≠ s.heap.objs.size := fun z => by obtain ⟨o, ho⟩ := hd; rw [z, get?_size] at ho; cases ho
  have hh1 : HpAt s₁.heap hp vals := hh.keep fun o e => B0.st.keep0 _ _ e
  have B := B0.wk (hp := hp)
  clear B0
  have hlv := hall.length
  refine hide fun Gₕ hGₕ => ?_
  obtain ⟨L0, le, rfl⟩ : ∃ L0 le, L = L0 ++ [le] := ⟨L.dropLast, L.getLast hne, (List.dropLast_concat_getLast hne).symm⟩
  obtain ⟨vs0, lv, rfl⟩ : ∃ vs0 lv, vals = vs0 ++ [lv] := by
    have : vals ≠ [] := fun z => by rw [z] at hlv; simp at hlv
    exact ⟨vals.dropLast, vals.getLast this, (List.dropLast_concat_getLast this).symm⟩
  refine hGₕ ?_
  have hl0 : vs0.length = L0.length := by simpa using hlv
  have hall0 : All2 (TupV g a) vs0 L0 := by
    have := hall.take L0.length
    rw [List.take_left, ← hl0, List.take_left] at this
    exact this
  have hlast : TupV g a lv le := by
    obtain ⟨b, hb1, hb2⟩ := hall.get (i := vs0.length) (a := lv) (by simp)
    rw [hl0] at hb1
    simp at hb1
    subst hb1; exact hb2
  refine wpAny_execs_cons (wpAny_Assign_Name (MethodCall_ (pl := ?_) (name_ B rfl (.inl rfl) ?_)))
  rotate_left
  refine getMethod_builtin hh1.isList.typeIs PySem.F.plainAttrs_list PySem.F.slot_list_pop (by kernel_rfl) (fun a e => by cases e; obtain ⟨k, e⟩ := hh1; exact ⟨_, e, rfl⟩) ?_
  refine callWith_builtin rfl (evalArgs_nil3 ?_)
  refine hp_pop B.live hg hh1 (by simp at hlen; lia) fun s2 st2 hh2 => ?_
  have B2 := B.at st2 hd rfl
  refine stl_ B2 rfl fun s3 B3 same3 => ?_
  have hh3 : HpAt s3.heap hp vs0 := hh2.keep fun o e => (same3.2 hp hoff).trans e
  refine wpAny_execs_cons (wpAny_If (isTrue_plain (name_ B3 rfl (.inl rfl) ?_)))
  refine wpAny_truthy_list hh3.isList (by rw [List.size_toArray]; simp at hlen; lia) ?_
  by_cases he : L0 = []
  · subst he
    have : vs0 = [] := List.length_eq_zero_iff.mp (by rw [hl0]; rfl)
    subst this
    rw [show (!(([] : List Value).toArray).isEmpty) = false from rfl, if_neg Bool.false_ne_true]
    refine wpAny_execs_nil (wpAny_execs_cons (wpAny_Return_some (name_ ((B3.tok _).tok _) lk_self (.inl rfl) ?_)))
    exact h lv le [] [] _ (B3.tok _).st hlast hh3 trivial HeapOK.nil (List.Perm.refl _) fun _ h => nomatch h
  · obtain ⟨x0, T, rfl⟩ : ∃ x0 T, L0 = x0 :: T := by
      cases L0 with
      | nil => exact absurd rfl he
      | cons x T => exact ⟨x, T, rfl⟩
    refine hide fun Gₕ hGₕ => ?_
    obtain ⟨xv, Tv, rfl⟩ : ∃ x0 T, vs0 = x0 :: T := by
      cases vs0 with
      | nil => simp at hl0
      | cons x T => exact ⟨x, T, rfl⟩
    refine hGₕ ?_
    have hxv : TupV g a xv x0 := hall0.1
    rw [show (!((xv :: Tv).toArray).isEmpty) = true from by simp, if_pos rfl]
    have B4 := B3.tok (s3.toks + 1 + 1)
    have hh4 : HpAt ({ s3 with toks := s3.toks + 1 + 1 } : Shared).heap hp (xv :: Tv) := hh3
    revert B4 hh4
    generalize ({ s3 with toks := s3.toks + 1 + 1 } : Shared) = s4
    intro B4 hh4
    simp only [List.length_cons, List.length_append, List.length_nil] at hlen hl0
    refine wpAny_execs_cons (wpAny_Assign_Name (Subscript_ (name_ B4 rfl (.inl rfl) (wpAny_Constant_int ?_))))
    refine item_listL (x := xv) (HpAt.isList hh4) (by lia) (by lia) rfl ?_
    refine stl_ (B4.tok _) rfl fun s5 B5 same5 => ?_
    have hh5 : HpAt s5.heap hp (xv :: Tv) := hh4.keep fun o e => (same5.2 hp hoff).trans e
    refine wpAny_execs_cons (wpAny_Assign_Subscript (name_ B5 rfl (.inl rfl) (name_ B5 rfl (.inl rfl) (wpAny_Constant_int ?_))))
    refine hp_set (vals := xv :: Tv) (B5.tok _).live hg hh5 (by lia) (by rw [List.length_cons]; lia) (by rw [List.length_cons]; lia) fun s6 st6 hh6 => ?_
    have B6 := (B5.tok _).at st6 hd rfl
    have hh6' : HpAt s6.heap hp (lv :: Tv) := hh6
    refine wpAny_execs_cons (wpAny_Expr (callFn B6 hK rfl rfl (f := 42) (by kernel_rfl) rfl (args_cons (name_ B6 rfl (.inl rfl) (args_cons (wpAny_Constant_int (args_nil ⟨⟨g, hK, (B6.tok _).live⟩, ?_⟩)))))))
    have pm : (x0 :: le :: T).Perm (x0 :: T ++ [le]) := by
      refine List.Perm.cons x0 ?_
      exact (List.perm_append_comm (l₁ := [le]) (l₂ := T))
    have nd : ((le :: T).map (·.2)).Nodup := by
      have := (pm.map (·.2)).symm.nodup hnd
      exact (List.nodup_cons.mp this).2
    refine su_call (n := n) (L := le :: T) (vals := lv :: Tv) (B6.tok _).live hK hR' hc hf hg hh6' ⟨hlast, hall0.2⟩ (U.pop le rfl) (by simp) nd (fun x hx => hb x (pm.mem_iff.mp (List.mem_cons_of_mem _ hx))) (by rw [List.length_cons]; lia) fun vals' L' s7 st7 hh7 hall7 hok hp7 => ?_
    have B7 := (B6.tok _).at st7 hd rfl
    refine wpAny_execs_cons (wpAny_Return_some (name_ B7 rfl (.inl rfl) ?_))
    have pL : (x0 :: L').Perm (x0 :: T ++ [le]) := (hp7.cons x0).trans pm
    refine h xv x0 vals' L' _ B7.st hxv hh7 hall7 hok pL fun x hx => ?_
    have hm := pL.mem_iff.mp (List.mem_cons_of_mem x0 hx)
    obtain ⟨i, hi⟩ := List.mem_iff_getElem?.mp hm
    exact nelt_len (U.root rfl i x hi)
end
end
section
open PySem PySem.W PySem.W.X PyProof.Rows Builtin PySem.Calls
set_option maxRecDepth 100000
set_option maxHeartbeats 4000000
section
variable {w : World} {A : Around} {E : Value → Shared → Prop} {g : PH} {s : Shared} {n : Nat}
theorem key_new {e1 e2 : Env} {a l : Addr} {f : Value} {xs : List Int} {Q : Value → Shared → Prop} (live : ∀ a o, g a = some o → s.heap.get? a = some o) (hK : KIn w g) (hc : KCls w g a f) (hl : IntsAt g l xs)
    (h : ∀ v g' s', Stp N0 g g' s s' → KeyV g' a v xs → Q v s') : wpAny (model PG w) ((callerA.deeper e1).deeper e2) (call (.ref a) [.ref l]) Q E s := by
  refine hide fun Gₕ hGₕ => ?_
  obtain ⟨ns, md, sl, sa, bT, mc, F, Dt, C, H, T, hx1, hx2, u1, u2, u3, tk, oc, ha, hn, hm, hF1, hF2, hF4, hg, hcs, hmc, hoc⟩ := id hc
  obtain ⟨ct, e1', _, _⟩ := hg
  obtain ⟨oo, cs, tq, hcc, hcd, hcq, hcl⟩ := hcs (C 1, "cmp_to_key.<locals>.K.__init__") (by simp)
  obtain ⟨⟨clsO, dO, datO, slO⟩, hoo⟩ : ∃ x, x = oo := ⟨oo, rfl⟩
  refine hGₕ ?_
  subst hoo
  simp only at hcd hcl
  subst hcd hcl
  refine hide fun Gₕ hGₕ => ?_
  obtain ⟨v0, vr, rfl⟩ : ∃ v0 vr, cs = ⟨v0 :: .str "cmp_to_key.<locals>.K.__init__" tq :: vr⟩ := by
    obtain ⟨lst⟩ := cs
    match lst, hcq with
    | v0 :: v1 :: vr, hcq => simp at hcq; exact ⟨v0, vr, by rw [hcq]⟩
  refine hGₕ ?_
  rw [e1'] at hF1
  refine k_new (hK.frag live) (live _ _ ha) (live _ _ hn) (live _ _ hm) (live _ _ hF1) (live _ _ hcc) fun L oL u oU d oD h' t hU D => ?_
  have hu := D.nw (u, oU) (by simp)
  have hun : s.heap.get? u = none := hu.2
  have S : Stp N0 g g s ⟨h', s.gens, s.drawn, t, s.os⟩ := Stp.ofMem0 live D
  have S2 := S.reveal live (show (⟨h', s.gens, s.drawn, t, s.os⟩ : Shared).heap.get? u = some oU from hu.1) hun
  refine h _ _ _ S2 ⟨u, l, d, rfl, by rw [PH.put_self, hU], hl.mono S2.le⟩
theorem key_newA {e1 e2 : Env} {a l : Addr} {f : Value} {xs : List Int} {Q : Value → Shared → Prop} (hA : A = (callerA.deeper e1).deeper e2) (live : ∀ a o, g a = some o → s.heap.get? a = some o) (hK : KIn w g) (hc : KCls w g a f) (hl : IntsAt g l xs)
    (h : ∀ v g' s', Stp N0 g g' s s' → KeyV g' a v xs → Q v s') : wpAny (model PG w) A (call (.ref a) [.ref l]) Q E s := by
  subst hA
  exact key_new live hK hc hl h
/-- the class stays a class -/
theorem keeps_cls {a : Addr} {cd : ClassData} {sl : Array (Option Value)} (hp : Heap) (X : hp.get? a = some (kObj cd sl)) : ∃ k, (k = Keeper.frame ∨ k = Keeper.machine ∨ k = Keeper.boundFrame) ∧ Looks (model PG w) hp (keeperOf (.ref a)) k := by
  refine ⟨.machine, .inr (.inl rfl), fun A Q E s k q => ?_⟩
  unfold keeperOf
  refine wpAny_bind (wpAny_load (k _ _ X) ?_)
  refine wpAny_bind ?_
  unfold specialOf
  refine wpAny_bind (wpAny_typeOf_ref (k _ _ X) ?_)
  refine wpAny_of_eq (a := some (.builtin "type.__call__")) (by show typeLookup (.type "type") _ = _; rw [typeLookup_type, builtinLookup_eq_fast]; kernel_rfl) ?_
  exact wpAny_pure q
end
end
section
open PySem PySem.W PySem.W.X PyProof.Rows Builtin PySem.Calls
set_option maxRecDepth 100000
set_option maxHeartbeats 4000000
noncomputable abbrev Kno (g : PH) : Addr → Obj → Prop := fun c o => g c = some o
section
variable {X : Addr → Prop} {g g' : PH} {s s' : Shared} {c P z : Addr} {ents : List (Pos × Str)}
/-- no code objects -/
noncomputable def NoCode (X : Addr → Prop) (h : Heap) : Prop := ∀ a o, X a → h.get? a = some o → o.cls ≠ .type "code" ∨ ∀ vs, o.data ≠ .fields vs
theorem NoCode.tabs {X : Addr → Prop} {h : Heap} (k : ∀ a, X a → ∃ ps, h.get? a = some (tabObj ps)) : NoCode X h := fun a o hx e => by
  obtain ⟨ps, q⟩ := k a hx
  rw [q] at e; cases e
  exact .inl (by intro z; cases z)
theorem TabOK.stp (x : TabOK (Kno g) s.heap c P ents) (S : Stp X g g' s s') (hX : NoCode X s.heap) (hP : ¬ X P) : TabOK (Kno g') s'.heap c P ents := by
  refine hide fun Gₕ hGₕ => ?_
  obtain ⟨ps, i, b, d⟩ := x
  obtain ⟨⟨o, vs, e1, e2, e3, e4⟩, e5⟩ := id b
  have key : ∀ {a : Addr} {o : Obj} {vs : Array Value}, s.heap.get? a = some o → o.cls = .type "code" → o.data = .fields vs → s'.heap.get? a = some o := fun {a o vs} e h h' => S.keep a o (fun hx => by
    rcases hX a o hx e with q | q
    · exact q h
    · exact q vs h') e
  obtain ⟨oc, vc, file, tf, flags, tg, inF, text, tt, op, r0, r1, r2, r3, r4, r5, r6, r7, r8, r9, r10⟩ := id i
  refine hGₕ ?_
  have hoc : oc = o := by rw [e1] at r0; cases r0; rfl
  refine ⟨ps, ⟨oc, vc, file, tf, flags, tg, inF, text, tt, op, key r0 (by rw [hoc]; exact e2) r1, r1, r2, r3, r4, r5, r6, S.keep _ _ hP r7, r8, r9, r10⟩, ⟨⟨o, vs, key e1 e2 e3, e2, e3, e4⟩, S.keep _ _ hP e5⟩, fun e he => ?_⟩
  rcases d e he with q | ⟨c', q, o', vs', t', f1, f2, f3, f4, f5⟩
  · exact .inl q
  · exact .inr ⟨c', q, o', vs', t', key f1 f5 f2, f2, f3, S.le _ _ f4, f5⟩
theorem off_tab {X : Addr → Prop} (S : Stp X g g' s s') (h : g P = none) (ht : ∃ ps, s.heap.get? P = some (tabObj ps)) : g' P = none := off_of S h (let ⟨ps, e⟩ := ht; ⟨_, e⟩)
theorem KT.stp {c0 P0 : Addr} {pos : Pos} (x : KT (Kno g) (TabZ z g s) s.heap c0 P0 pos ents) (S : Stp X g g' s s') (hX : NoCode X s.heap) (hP : ¬ X P0) (hZ : ∀ a, TabZ z g s a → ¬ X a) :
    KT (Kno g') (TabZ z g' s') s'.heap c0 P0 pos ents := by
  refine hide fun Gₕ hGₕ => ?_
  obtain ⟨ps, i, b, d⟩ := x
  have w : TabOK (Kno g') s'.heap c0 P0 [] := (show TabOK (Kno g) s.heap c0 P0 [] from ⟨ps, i, b, fun _ h => nomatch h⟩).stp S hX hP
  obtain ⟨ps', i', b', _⟩ := w
  refine hGₕ ?_
  have hps : ps' = ps := by
    have h1 := S.keep _ _ hP b.2
    rw [b'.2] at h1
    cases h1; rfl
  subst hps
  refine ⟨ps', i', b', ?_⟩
  rcases d with q | ⟨cc, P, q, r, u, v⟩
  · exact .inl q
  · have r' := r.stp S hX (hZ _ u)
    exact .inr ⟨cc, P, q, r', ⟨⟨off_tab S u.1.1 u.1.2, r'.tab⟩, u.2⟩, v⟩
/-- the two tables of codes -/
structure Tabs (g : PH) (s : Shared) : Prop where
  h44 : g 44 = none
  h99 : g 99 = none
  kt : KT (Kno g) (TabZ 99 g s) s.heap 48 44 posK entsK
  tl : TabOK (Kno g) s.heap 101 99 [(⟨112, 21, 112, 61⟩, "_law_search.<locals>.<lambda>")]
theorem Tabs.t44 (T : Tabs g s) : ∃ ps, s.heap.get? 44 = some (tabObj ps) := let ⟨ps, _, b, _⟩ := T.kt; ⟨ps, b.2⟩
/-- a step that turns no old object -/
theorem Tabs.step (T : Tabs g s) (S : Stp N0 g g' s s') : Tabs g' s' :=
  ⟨off_tab S T.h44 T.t44, off_tab S T.h99 T.tl.tab, T.kt.stp S (fun _ _ h => h.elim) (fun h => h) (fun _ _ h => h), T.tl.stp S (fun _ _ h => h.elim) (fun h => h)⟩

theorem Blk.reveal {g₀ : PH} {s₀ : Shared} {env : Env} {vs : List (Str × Value)} {a : Addr} {o : Obj} (B : Blk X g₀ s₀ env g s vs) (live0 : ∀ a o, g₀ a = some o → s₀.heap.get? a = some o) (ha : s.heap.get? a = some o) (hn : s₀.heap.get? a = none) (hL : a ≠ env.locals) (hC : ∀ x c, env.cells.lookup x = some c → a ≠ c) : Blk X g₀ s₀ env (g.put a o) s vs := by
  refine ⟨B.st.reveal live0 ha hn, B.ea, ?_, B.lowL, fun x c hc => ?_⟩
  · unfold PH.put; rw [if_neg (fun z => hL z.symm)]; exact B.offL
  · unfold PH.put; rw [if_neg (fun z => hC x c hc z.symm)]; exact B.offC x c hc
theorem PH.less_off {g : PH} {m b : Addr} (h : g b = none) : g.less m b = none := by
  unfold PH.less
  split
  · rfl
  · exact h
theorem Blk.hide {g₀ : PH} {s₀ : Shared} {env : Env} {vs : List (Str × Value)} {a : Addr} (B : Blk X g₀ s₀ env g s vs) (live0 : ∀ a o, g₀ a = some o → s₀.heap.get? a = some o) (hn : s₀.heap.get? a = none) : Blk X g₀ s₀ env (g.less a) s vs := by
  refine ⟨⟨fun b o e => PH.less_of (B.st.le b o e) (fun z => by rw [z] at e; rw [live0 _ _ e] at hn; cases hn), fun b o e => B.st.new b o (PH.less_le e), fun b o e => B.st.live b o (PH.less_le e), B.st.keep, B.st.dom, B.st.rest⟩,
    B.ea, PH.less_off B.offL, B.lowL, fun x c hc => PH.less_off (B.offC x c hc)⟩
end
section
variable {w : World} {A : Around} {E : Value → Shared → Prop} {g : PH} {s : Shared} {n : Nat} {hp : Addr} {vals : List Value}
/-- the heap against an empty list -/
theorem neHp {c : Addr} {Q : Value → Shared → Prop} (hR : Room A n) (live : ∀ a o, g a = some o → s.heap.get? a = some o) (hh : HpAt s.heap hp vals) (hc : ∃ k, s.heap.get? c = some ⟨.type "list", none, .seq #[] k, #[]⟩) (h : Q (.bool (!vals.isEmpty)) s) :
    wpAny (model PG w) A (compareOp .NotEq (.ref hp) (.ref c)) Q E s := by
  obtain ⟨m, e⟩ := hh
  obtain ⟨k, e'⟩ := hc
  refine cmp_ofNotEq ?_
  by_cases hz : vals = []
  · subst hz
    exact richCompare_meets_room (op := .NotEq) ⟨_, e, rfl⟩ ⟨_, e', rfl⟩ PySem.F.slot_list_ne PySem.F.entry_list_ne (PySem.F.args_list_ne_2 _ _) (PySem.SeqAt.list_neAt hp c #[] #[] m k none none #[] #[] rfl fun _ => true)
      ⟨e, e', fun j h1 => absurd h1 (Nat.not_lt_zero j), show Value.bool false ≠ Value.notImplemented ∧ Q (.bool false) s from ⟨(fun x => nomatch x), h⟩⟩ hR.u
  · have hb : (!vals.isEmpty) = true := by cases vals with | nil => exact absurd rfl hz | cons a b => rfl
    rw [hb] at h
    refine richCompare_meets_room (op := .NotEq) ⟨_, e, rfl⟩ ⟨_, e', rfl⟩ PySem.F.slot_list_ne PySem.F.entry_list_ne (PySem.F.args_list_ne_2 _ _) (PySem.SeqAt.list_ne_lengthsAt hp c vals.toArray #[] m k none none #[] #[] ?_)
      ⟨e, e', show Value.bool true ≠ Value.notImplemented ∧ Q (.bool true) s from ⟨(fun x => nomatch x), h⟩⟩ hR.u
    cases vals with
    | nil => exact absurd rfl hz
    | cons a b => simp
end
/-- what is tracked in the search: the heap, the found ones, all that stood before but the frame's own -/
structure Trk (L C : Addr) (g3 : PH) (h3 : Heap) (hp fp : Addr) (g : PH) (h : Heap) (vals fvals : List Value) : Prop where
  hpA : HpAt h hp vals
  fpA : HpAt h fp fvals
  kp : ∀ a o, a ≠ L → a ≠ C → h3.get? a = some o → h.get? a = some o
  dL : ∃ o, h.get? L = some o
  dC : ∃ o, h.get? C = some o
  le : ∀ a o, g3 a = some o → g a = some o
  nw : ∀ a o, g a = some o → g3 a = some o ∨ h3.get? a = none
  oh : g hp = none
  of : g fp = none
/-- hp and fp are apart from all -/
structure Apart (L C : Addr) (h0 h3 : Heap) (hp fp : Addr) : Prop where
  hL : hp ≠ L
  fL : fp ≠ L
  hC : hp ≠ C
  fC : fp ≠ C
  lc : L ≠ C
  hf : hp ≠ fp
  h0h : h0.get? hp = none
  h0f : h0.get? fp = none
  h3h : h3.get? hp = none
  h3f : h3.get? fp = none
section
variable {L C : Addr} {g3 g g' : PH} {h0 h3 h h' : Heap} {hp fp : Addr} {vals fvals vals' fvals' : List Value}
theorem Trk.n0 {s s' : Shared} (T : Trk L C g3 h3 hp fp g s.heap vals fvals) (S : Stp N0 g g' s s') : Trk L C g3 h3 hp fp g' s'.heap vals fvals := by
  refine ⟨T.hpA.keep (fun o => S.keep0 hp o), T.fpA.keep (fun o => S.keep0 fp o), fun a o h1 h2 e => S.keep0 a o (T.kp a o h1 h2 e), let ⟨o, e⟩ := T.dL; ⟨o, S.keep0 _ _ e⟩, let ⟨o, e⟩ := T.dC; ⟨o, S.keep0 _ _ e⟩, fun a o e => S.le a o (T.le a o e), fun a o e => ?_, off_of S T.oh (let ⟨_, e⟩ := T.hpA; ⟨_, e⟩), off_of S T.of (let ⟨_, e⟩ := T.fpA; ⟨_, e⟩)⟩
  rcases S.new a o e with q | q
  · exact T.nw a o q
  · refine .inr ?_
    cases z : h3.get? a with
    | none => rfl
    | some p =>
      by_cases z1 : a = L
      · obtain ⟨o', e'⟩ := T.dL; rw [z1, e'] at q; cases q
      · by_cases z2 : a = C
        · obtain ⟨o', e'⟩ := T.dC; rw [z2, e'] at q; cases q
        · rw [T.kp a p z1 z2 z] at q; cases q
theorem Trk.loc (T : Trk L C g3 h3 hp fp g h vals fvals) (P : Apart L C h0 h3 hp fp) (k : Heap.SameBut L h h') (hd : ∃ o, h'.get? L = some o) : Trk L C g3 h3 hp fp g h' vals fvals :=
  ⟨T.hpA.keep fun _ e => (k.2 hp P.hL).trans e, T.fpA.keep fun _ e => (k.2 fp P.fL).trans e, fun a o h1 h2 e => (k.2 a h1).trans (T.kp a o h1 h2 e), hd, let ⟨o, e⟩ := T.dC; ⟨o, (k.2 _ P.lc.symm).trans e⟩, T.le, T.nw, T.oh, T.of⟩
theorem Trk.cell (T : Trk L C g3 h3 hp fp g h vals fvals) (P : Apart L C h0 h3 hp fp) (k : Heap.SameBut C h h') (hd : ∃ o, h'.get? C = some o) : Trk L C g3 h3 hp fp g h' vals fvals :=
  ⟨T.hpA.keep fun _ e => (k.2 hp P.hC).trans e, T.fpA.keep fun _ e => (k.2 fp P.fC).trans e, fun a o h1 h2 e => (k.2 a h2).trans (T.kp a o h1 h2 e), let ⟨o, e⟩ := T.dL; ⟨o, (k.2 _ P.lc).trans e⟩, hd, T.le, T.nw, T.oh, T.of⟩
theorem Trk.turnH {s s' : Shared} (T : Trk L C g3 h3 hp fp g s.heap vals fvals) (P : Apart L C h0 h3 hp fp) (S : Stp (At hp) g g s s') (hh : HpAt s'.heap hp vals') : Trk L C g3 h3 hp fp g s'.heap vals' fvals :=
  ⟨hh, T.fpA.keep fun _ e => S.keep _ _ (fun z => P.hf z.symm) e, fun a o h1 h2 e => S.keep a o (fun z => by have z' : a = hp := z; rw [z', P.h3h] at e; cases e) (T.kp a o h1 h2 e),
    let ⟨o, e⟩ := T.dL; ⟨o, S.keep _ _ (fun z => P.hL z.symm) e⟩, let ⟨o, e⟩ := T.dC; ⟨o, S.keep _ _ (fun z => P.hC z.symm) e⟩, T.le, T.nw, T.oh, T.of⟩
theorem Trk.turnF {s s' : Shared} (T : Trk L C g3 h3 hp fp g s.heap vals fvals) (P : Apart L C h0 h3 hp fp) (S : Stp (At fp) g g s s') (hh : HpAt s'.heap fp fvals') : Trk L C g3 h3 hp fp g s'.heap vals fvals' :=
  ⟨T.hpA.keep fun _ e => S.keep _ _ P.hf e, hh, fun a o h1 h2 e => S.keep a o (fun z => by have z' : a = fp := z; rw [z', P.h3f] at e; cases e) (T.kp a o h1 h2 e),
    let ⟨o, e⟩ := T.dL; ⟨o, S.keep _ _ (fun z => P.fL z.symm) e⟩, let ⟨o, e⟩ := T.dC; ⟨o, S.keep _ _ (fun z => P.fC z.symm) e⟩, T.le, T.nw, T.oh, T.of⟩
end
/-- what was known for a while alone is known no more -/
theorem Stp.unput {g g' : PH} {s s' : Shared} {m : Addr} {o : Obj} (S : Stp N0 (g.put m o) g' s s') (hm : g m = none) : Stp N0 g (g'.less m) s s' := by
  refine ⟨fun a p e => PH.less_of (S.le a p (PH.put_le hm a p e)) (fun z => by rw [z, hm] at e; cases e), fun a p e => ?_, fun a p e => S.live a p (PH.less_le e), S.keep, S.dom, S.rest⟩
  unfold PH.less at e
  split at e
  · cases e
  · rename_i z
    rcases S.new a p e with q | q
    · unfold PH.put at q
      rw [if_neg z] at q
      exact .inl q
    · exact .inr q
section
variable {w : World} {A : Around} {E : Value → Shared → Prop} {X : Addr → Prop} {g₀ g : PH} {s₀ s : Shared} {env : Env} {vs : List (Str × Value)}
/-- a cell stored -/
theorem stc_ {M : Model} {x : Str} {c : Addr} {v : Value} {Q : Unit → Shared → Prop} (B : Blk X g₀ s₀ env g s vs) (hk : env.kindOf x = some .cell) (hc : env.cells.lookup x = some c) (h0 : s₀.heap.get? c = none)
    (h : ∀ s', Blk X g₀ s₀ env g s' ((x, v) :: vs) → Heap.SameBut c s.heap s'.heap → Q () s') : wpAny M A (storeName env x v) Q E s :=
  st_ B (.inr ⟨hk, c, hc, h0⟩) fun s' B' hch => h s' B' (by
    rcases hch with ⟨hk', _⟩ | ⟨_, c', hc', q⟩
    · rw [hk] at hk'; cases hk'
    · rw [hc] at hc'; cases hc'; exact q)
theorem Stp.push0 {o : Obj} (live : ∀ a o, g a = some o → s.heap.get? a = some o) : Stp N0 g g s { s with heap := s.heap.push o } :=
  ⟨fun _ _ e => e, fun _ _ e => .inl e, fun a p e => Heap.get?_push_of_some _ (live a p e), fun _ _ _ e => Heap.get?_push_of_some _ e, fun _ p e => ⟨p, Heap.get?_push_of_some _ e⟩, rfl⟩
theorem Stp.ext0 {h' : Heap} (live : ∀ a o, g a = some o → s.heap.get? a = some o) (k : Heap.ExtBut s.heap.objs.size s.heap h') : Stp N0 g g s { s with heap := h' } := by
  have kk : ∀ a o, s.heap.get? a = some o → h'.get? a = some o := fun a o e => k a o (Nat.ne_of_lt (Heap.lt_size e)) e
  exact ⟨fun _ _ e => e, fun _ _ e => .inl e, fun a p e => kk a p (live a p e), fun a p _ e => kk a p e, fun a p e => ⟨p, kk a p e⟩, rfl⟩
noncomputable abbrev KKc (w : World) (A : Around) (a : Addr) (cd : ClassData) (sl : Array (Option Value)) (Q : Value → Shared → Prop) (E : Value → Shared → Prop) : List Value → Shared → Prop := fun vs s₁ => s₁.heap.get? a = some (kObj cd sl) ∧ wpAny (model PG w) A (call (.ref a) vs) Q E s₁
/-- a call of the class -/
theorem callWith_kcls {pos : Pos} {a : Addr} {cd : ClassData} {sl : Array (Option Value)} {e : Expr} {Q : Value → Shared → Prop}
    (h : wpAny (model PG w) A (spliced (backTo pos (starEach [e] env))) (KKc w A a cd sl Q E) E s) (he : starEach [e] env = [(false, eval e env)] := by rfl) :
    wpAny (model PG w) A (callWith pos (.ref a) [] (backTo pos (starEach [e] env)) []) Q E s := by
  rw [he] at h ⊢
  exact callWith_of (P := fun h => h.get? a = some (kObj cd sl)) rfl (fun h X => keeps_cls h X) (evalArgs_plain h)
theorem newListU {us : List Value} {Q : Value → Shared → Prop} {M : Model} (live : ∀ a o, g a = some o → s.heap.get? a = some o) (hsz : us.length < 2 ^ 20)
    (h : ∀ a s', Stp N0 g g s s' → HpAt s'.heap a us → s.heap.get? a = none → Q (.ref a) s') : wpAny M A (newList us) Q E s :=
  wpAny_newList (h _ _ (Stp.push0 live) ⟨0, Heap.get?_push_size _ rfl⟩ (get?_size _)) (by rw [sizeLine_eq]; lia)
theorem newTupleK {us : List Value} {Q : Value → Shared → Prop} {M : Model} (live : ∀ a o, g a = some o → s.heap.get? a = some o) (hsz : us.length < 2 ^ 20)
    (h : ∀ a g' s', Stp N0 g g' s s' → g' a = some ⟨.type "tuple", none, .seq us.toArray 0, #[]⟩ → Q (.ref a) s') : wpAny M A (newTuple us) Q E s :=
  wpAny_newTuple (h _ _ _ (Stp.alloc live rfl) PH.put_self) (by rw [sizeLine_eq]; lia)
noncomputable abbrev KWB (X : Addr → Prop) (g₀ : PH) (s₀ : Shared) (env : Env) (J : Nat → PH → List (Str × Value) → Heap → Prop) (k : Nat) (Q : Flow → Shared → Prop) : Flow → Shared → Prop := fun f s₃ => match f with
      | .next | .cont => ∃ j, j < k ∧ ∃ gj vsj, Blk X g₀ s₀ env gj s₃ vsj ∧ J j gj vsj s₃.heap
      | .brk => False
      | .ret v => Q (.ret v) s₃
noncomputable abbrev KWD (X : Addr → Prop) (g₀ : PH) (s₀ : Shared) (env : Env) (D : PH → List (Str × Value) → Heap → Prop) (s₂ : Shared) : Prop := ∃ gj vsj, Blk X g₀ s₀ env gj s₂ vsj ∧ D gj vsj s₂.heap
/-- a while loop within a block -/
theorem whileB {test : Expr} {body : List Stmt} {pos : Pos} {Q : Flow → Shared → Prop} (J : Nat → PH → List (Str × Value) → Heap → Prop) (D : PH → List (Str × Value) → Heap → Prop) (m : Nat) (B : Blk X g₀ s₀ env g s vs) (h0 : J m g vs s.heap)
    (turn : ∀ k gi vsi si, Blk X g₀ s₀ env gi si vsi → J k gi vsi si.heap → wpAny (model PG w) A (isTrue test env (eval test env)) (fun b s₂ => if b then wpAny (model PG w) A (execs body env) (KWB X g₀ s₀ env J k Q) EF s₂ else KWD X g₀ s₀ env D s₂) EF si)
    (after : ∀ gj vsj s', Blk X g₀ s₀ env gj s' vsj → D gj vsj s'.heap → Q .next s') : wpAny (model PG w) A (exec (.While test body [] pos) env) Q E s := by
  refine while_ (fun k si => ∃ gi vsi, Blk X g₀ s₀ env gi si vsi ∧ J k gi vsi si.heap) (fun si => ∃ gi vsi, Blk X g₀ s₀ env gi si vsi ∧ D gi vsi si.heap) m ⟨g, vs, B, h0⟩ (fun k si hI => ?_) (fun s' ⟨gj, vsj, b, d⟩ => after gj vsj s' b d)
  refine hide fun Gₕ hGₕ => ?_
  obtain ⟨gi, vsi, b, j⟩ := hI
  refine hGₕ ?_
  refine wpAny_mono (turn k gi vsi si b j) (fun bb s₂ h₂ => ?_) fun _ _ z => z.elim
  cases bb with
  | true =>
    simp only [if_true] at h₂ ⊢
    refine wpAny_mono h₂ (fun f s₃ h₃ => ?_) fun _ _ z => z.elim
    cases f with
    | next => exact h₃
    | cont => exact h₃
    | brk => exact h₃.elim
    | ret v => exact h₃
  | false =>
    simp only [Bool.false_eq_true, if_false] at h₂ ⊢
    exact h₂
end
/-- a step on a new object -/
theorem Blk.one {X : Addr → Prop} {g₀ g : PH} {s₀ s s' : Shared} {env : Env} {vs : List (Str × Value)} {p : Addr} (B : Blk X g₀ s₀ env g s vs) (S : Stp (At p) g g s s') (h0 : s₀.heap.get? p = none) (hL : p ≠ env.locals) (hC : ∀ x c, env.cells.lookup x = some c → p ≠ c) : Blk X g₀ s₀ env g s' vs :=
  B.stepX S (fun a ha => .inr (by subst ha; exact h0)) (fun z => hL z.symm) fun x c hc z => hC x c hc z.symm
end
section
open PySem PySem.W PyProof.Rows PySem.Calls
set_option maxRecDepth 100000
set_option maxHeartbeats 2000000
theorem pyIterU {w : World} {A : Around} {E : Value → Shared → Prop} {g : PH} {s : Shared} {l : Addr} {items : List Value} {Q : Value → Shared → Prop} (live : ∀ a o, g a = some o → s.heap.get? a = some o) (hl : s.heap.IsList l items.toArray)
    (h : ∀ it s', Stp N0 g g s s' → listSt it l (items.map fun x v => v = x) s'.heap → s.heap.get? it = none → Q (.ref it) s') : wpAny (model PG w) A (pyIter (.ref l)) Q E s := by
  refine wpAny_pyIter_list hl (h _ _ (Stp.push0 live) ⟨0, items, ⟨_, Heap.get?_push_size _ rfl, rfl, rfl⟩, hl.push _, Nat.zero_le _, by simp⟩ (get?_size _))
theorem Trk.big {L C : Addr} {g3 g g' : PH} {h3 : Heap} {hp fp : Addr} {vals fvals : List Value} {h0 : Heap} {s s' : Shared} (T : Trk L C g3 h3 hp fp g s.heap vals fvals) (P : Apart L C h0 h3 hp fp) (k : ∀ a p, a ≠ L → s.heap.get? a = some p → s'.heap.get? a = some p)
    (nn : ∀ a p, g' a = some p → g a = some p ∨ s.heap.get? a = none) (le : ∀ a o, g a = some o → g' a = some o) (hd : ∃ o, s'.heap.get? L = some o) : Trk L C g3 h3 hp fp g' s'.heap vals fvals := by
  refine ⟨T.hpA.keep (fun o => k hp o P.hL), T.fpA.keep (fun o => k fp o P.fL), fun a o h1 h2 e => k a o h1 (T.kp a o h1 h2 e), hd, let ⟨o, e⟩ := T.dC; ⟨o, k _ _ P.lc.symm e⟩, fun a o e => le a o (T.le a o e), fun a o e => ?_, ?_, ?_⟩
  · rcases nn a o e with q | q
    · exact T.nw a o q
    · refine .inr ?_
      cases z : h3.get? a with
      | none => rfl
      | some p =>
        by_cases z1 : a = L
        · obtain ⟨o', e'⟩ := T.dL; rw [z1, e'] at q; cases q
        · by_cases z2 : a = C
          · obtain ⟨o', e'⟩ := T.dC; rw [z2, e'] at q; cases q
          · rw [T.kp a p z1 z2 z] at q; cases q
  · cases q : g' hp with
    | none => rfl
    | some o =>
      rcases nn _ _ q with z | z
      · rw [T.oh] at z; cases z
      · obtain ⟨_, e⟩ := T.hpA; rw [e] at z; cases z
  · cases q : g' fp with
    | none => rfl
    | some o =>
      rcases nn _ _ q with z | z
      · rw [T.of] at z; cases z
      · obtain ⟨_, e⟩ := T.fpA; rw [e] at z; cases z
end
section
open PySem PySem.W PySem.W.X PyProof.Rows Builtin PySem.Calls
set_option maxRecDepth 100000
set_option maxHeartbeats 4000000
theorem SInv.kidsNodup {rows : List (List Int)} {e : Ent} {h' : List Ent} {found : List (List Int)} {num : Int} (S : SInv rows (e :: h') found num) (ps : List Int) : ((h' ++ kids e.1 num ps).map (·.2)).Nodup := by
  rw [List.map_append]
  refine List.nodup_append.mpr ⟨(List.nodup_cons.mp S.nd).2, kids_nodup _ _ _, ?_⟩
  intro a ha b hb z
  refine hide fun Gₕ hGₕ => ?_
  obtain ⟨x, hx, rfl⟩ := List.mem_map.mp ha
  obtain ⟨y, hy, rfl⟩ := List.mem_map.mp hb
  refine hGₕ ?_
  have h1 := S.nm x (List.mem_cons_of_mem _ hx)
  have h2 := (kids_mem _ _ _ _ hy).1
  have z' : x.2 = y.2 := z
  lia
theorem kids_len (one : List Int) : ∀ (n : Int) (ps : List Int), (kids one n ps).length = ps.length
  | _, [] => rfl
  | n, p :: ps => by rw [kids, List.length_cons, List.length_cons, kids_len one (n + 1) ps]
/-- tracked, but for an iterator and the names -/
noncomputable def TrkJ (it L C : Addr) (g3 : PH) (h3 : Heap) (hp fp : Addr) (g : PH) (h : Heap) (vals fvals : List Value) : Prop :=
  ∀ h2 : Heap, (∀ a o, a ≠ it → a ≠ L → h.get? a = some o → h2.get? a = some o) → (∃ o, h2.get? L = some o) → Trk L C g3 h3 hp fp g h2 vals fvals
theorem Trk.toJ {it L C : Addr} {g3 g : PH} {h0 h3 h : Heap} {hp fp : Addr} {vals fvals : List Value} (T : Trk L C g3 h3 hp fp g h vals fvals) (P : Apart L C h0 h3 hp fp) (i1 : hp ≠ it) (i2 : fp ≠ it) (i3 : C ≠ it) (i4 : h3.get? it = none) : TrkJ it L C g3 h3 hp fp g h vals fvals := by
  intro h2 k hd
  refine ⟨T.hpA.keep fun o e => k hp o i1 P.hL e, T.fpA.keep fun o e => k fp o i2 P.fL e, fun a o h1 h2' e => k a o (fun z => by rw [z, i4] at e; cases e) h1 (T.kp a o h1 h2' e), hd, let ⟨o, e⟩ := T.dC; ⟨o, k C o i3 P.lc.symm e⟩, T.le, T.nw, T.oh, T.of⟩
theorem lookup1 {x y : Str} {a c : Addr} (h : List.lookup x [(y, a)] = some c) : c = a := by
  rw [List.lookup_cons] at h
  cases q : x == y with
  | true => rw [q] at h; exact (Option.some.inj h).symm
  | false => rw [q] at h; cases h
section
variable {w : World} {A : Around} {E : Value → Shared → Prop} {g : PH} {s : Shared} {n : Nat}
structure SIc (rows : List (List Int)) (L C : Addr) (g2 : PH) (h3 : Heap) (a hp fp ra : Addr) (m : Nat) (gi : PH) (vsi : List (Str × Value)) (hi : Heap) (H : List Ent) (found : List (List Int)) (num : Int) (tn : Tok) (vals fvals : List Value) : Prop where
  p1 : m = weight H
  p2 : Trk L C g2 h3 hp fp gi hi vals fvals
  p3 : All2 (TupV gi a) vals H
  p4 : All2 (IV gi) fvals found
  p5 : vsi.lookup ("key" : Str) = some (.ref a)
  p6 : vsi.lookup ("heap" : Str) = some (.ref hp)
  p7 : vsi.lookup ("found" : Str) = some (.ref fp)
  p8 : vsi.lookup ("number" : Str) = some (.int num tn)
  p9 : vsi.lookup ("rows" : Str) = some (.ref ra)
  p10 : SInv rows H found num
  p11 : HeapOK H
noncomputable abbrev SI (rows : List (List Int)) (L C : Addr) (g2 : PH) (h3 : Heap) (a hp fp ra : Addr) : Nat → PH → List (Str × Value) → Heap → Prop := fun m gi vsi hi => ∃ (H : List Ent) (found : List (List Int)) (num : Int) (tn : Tok) (vals fvals : List Value), SIc rows L C g2 h3 a hp fp ra m gi vsi hi H found num tn vals fvals
structure SDc (rows : List (List Int)) (L C : Addr) (g2 : PH) (h3 : Heap) (hp fp : Addr) (gi : PH) (vsi : List (Str × Value)) (hi : Heap) (found : List (List Int)) (num : Int) (vals fvals : List Value) : Prop where
  p1 : Trk L C g2 h3 hp fp gi hi vals fvals
  p2 : All2 (IV gi) fvals found
  p3 : vsi.lookup ("found" : Str) = some (.ref fp)
  p4 : SInv rows [] found num
noncomputable abbrev SD (rows : List (List Int)) (L C : Addr) (g2 : PH) (h3 : Heap) (hp fp : Addr) : PH → List (Str × Value) → Heap → Prop := fun gi vsi hi => ∃ (found : List (List Int)) (num : Int) (vals fvals : List Value), SDc rows L C g2 h3 hp fp gi vsi hi found num vals fvals
structure SFc (mv : List Value) (it L C : Addr) (g2 : PH) (h3 : Heap) (a hp fp ra : Addr) (gn : PH) (e : Ent) (num : Int) (m : List Int) (L' : List Ent) (fvals : List Value) (lve : Value) (r : List (Value → Prop)) (gj : PH) (vsj : List (Str × Value)) (hj : Heap) (k : Nat) (H2 : List Ent) (tn2 : Tok) (vals2 : List Value) : Prop where
  p1 : k ≤ m.length
  p2 : r = (mv.drop k).map (fun x v => v = x)
  p3 : TrkJ it L C g2 h3 hp fp gj hj vals2 fvals
  p4 : (∀ a o, gn a = some o → gj a = some o)
  p5 : All2 (TupV gj a) vals2 H2
  p6 : H2.Perm (L' ++ kids e.1 num (m.take k))
  p7 : HeapOK H2
  p8 : vsj.lookup ("key" : Str) = some (.ref a)
  p9 : vsj.lookup ("heap" : Str) = some (.ref hp)
  p10 : vsj.lookup ("found" : Str) = some (.ref fp)
  p11 : vsj.lookup ("number" : Str) = some (.int (num + k) tn2)
  p12 : vsj.lookup ("rows" : Str) = some (.ref ra)
  p13 : vsj.lookup ("one" : Str) = some lve
noncomputable abbrev SF (mv : List Value) (it L C : Addr) (g2 : PH) (h3 : Heap) (a hp fp ra : Addr) (gn : PH) (e : Ent) (num : Int) (m : List Int) (L' : List Ent) (fvals : List Value) (lve : Value) : List (Value → Prop) → PH → List (Str × Value) → Heap → Prop := fun r gj vsj hj => ∃ (k : Nat) (H2 : List Ent) (tn2 : Tok) (vals2 : List Value), SFc mv it L C g2 h3 a hp fp ra gn e num m L' fvals lve r gj vsj hj k H2 tn2 vals2
theorem search_call {A : Around} {e1 : Env} {ra : Addr} {rows : List (List Int)} {Q : Value → Shared → Prop} (hA : A = callerA.deeper e1) (live : ∀ a o, g a = some o → s.heap.get? a = some o) (hK : KIn w g) (hR : Room A (n + 8)) (hT : Tabs g s)
    (hrows : SetsAt g ra rows) (gr : ∀ r ∈ rows, GL r) (hrl : rows.length < 2 ^ 12)
    (h : ∀ b found g' s', Stp (TabX g s) g g' s s' → Tabs g' s' → SetsAt g' b found → BL rows found → (found.Pairwise fun a b => a.length ≤ b.length) → found.length ≤ 625 → Q (.ref b) s') :
    wpAny (model PG w) A (call (.ref 102) [.ref ra]) Q E s := by
  refine fn_call (X := N0) (binds := [("rows", .ref ra)]) live hK hR (f := 102) rfl (by kernel_rfl) rfl (Looks.of_pure (by rfl)) rfl (by kernel_rfl) (fun A' s₁ hR' hA' B0 hlc => ?_) rfl rfl rfl
  rw [hA] at hA'
  have k1 : ∀ b o, s.heap.get? b = some o → s₁.heap.get? b = some o := fun b o e => B0.st.keep0 b o e
  have T1 := hT.step B0.st
  have B := (show Blk (TabX g s) g s _ g _ _ from ⟨B0.st.of0, B0.ea, B0.offL, B0.lowL, B0.offC⟩)
  clear B0
  -- key = cmp_to_key(lambda ..)
  refine wpAny_execs_cons (wpAny_Assign_Name (callFn B hK rfl rfl (f := 49) (by kernel_rfl) rfl (args_cons ?_)))
  refine lam_new (qual := "_law_search.<locals>.<lambda>") B.live hK T1.h99 (by kernel_rfl!) rfl (closureFor_eq (by kernel_rfl!)) rfl rfl rfl T1.tl (by decide +kernel) (by decide +kernel) fun lam cv g1 s2 st1 hlam hcv htl h99 => ?_
  have t99 : ∃ ps, s.heap.get? 99 = some (tabObj ps) := hT.tl.tab
  have n99L : (99 : Addr) ≠ s.heap.objs.size := fun z => by
    obtain ⟨ps, e⟩ := t99
    rw [z, get?_size] at e; cases e
  have n99C : (99 : Addr) ≠ s.heap.objs.size + 1 := fun z => by
    obtain ⟨ps, e⟩ := t99
    have := lt_sz e
    rw [z] at this
    exact absurd this (Nat.not_lt.mpr (Nat.le_succ _))
  have X99 : ∀ a, a = (99 : Addr) → ∃ ps, s₁.heap.get? a = some (tabObj ps) := fun a z => by subst z; exact T1.tl.tab
  have B2 := B.stepX st1 (fun a z => .inl (by subst z; exact ⟨hT.h99, t99⟩)) (fun z => n99L z.symm) (fun x c hc z => by
    have := hlc x c hc
    obtain ⟨ps, e⟩ := t99
    rw [z, e] at this; cases this)
  have T2 : Tabs g1 s2 := ⟨off_tab st1 T1.h44 T1.t44, h99, T1.kt.stp st1 (NoCode.tabs X99) (by decide) (fun a z q => z.2 q), htl⟩
  have hK1 := hK.mono st1.le
  have hLam : LamV w g1 (.ref lam) := by
    refine hide fun Gₕ hGₕ => ?_
    obtain ⟨oc, vs, t, q1, q2, q3⟩ := hcv
    refine hGₕ ?_
    refine ⟨lam, cv, .none, oc, vs, t, rfl, ?_, q1, q2, q3⟩
    have e : lamD w.params cv .none = lamD w.params cv .none := rfl
    conv at e => rhs; whnf
    rw [e]; exact hlam
  refine args_nil ⟨⟨g1, hK1, st1.live⟩, ?_⟩
  refine ck_call (z := 99) (n := n + 4) st1.live hK1 hR' (by decide) (let ⟨ps, e⟩ := htl.tab; ⟨_, e⟩) T2.h44 T2.kt fun a g2 s3 st2 hcls kt3 h443 => ?_
  have XZ : ∀ a, TabZ 99 g1 s2 a → ∃ ps, s2.heap.get? a = some (tabObj ps) := fun a z => z.1.2
  have T3 : Tabs g2 s3 := ⟨h443, off_tab st2 T2.h99 T2.tl.tab, kt3, T2.tl.stp st2 (NoCode.tabs XZ) fun z => z.2 rfl⟩
  have B3 := B2.stepX st2 (fun b z => by
      cases q : s.heap.get? b with
      | none => exact .inr rfl
      | some o =>
        refine .inl ⟨?_, ?_⟩
        · cases q2 : g b with
          | none => rfl
          | some o2 => have := B2.st.le _ _ q2; rw [z.1.1] at this; cases this
        · obtain ⟨ps, e⟩ := z.1.2
          have e2 := st1.keep b o (fun z2 => z.2 z2) (k1 _ _ q)
          rw [e] at e2
          exact ⟨ps, by rw [q]; exact e2.symm⟩) (fun z => by
      obtain ⟨m, ⟨o, es, ep, ho, hdt, _⟩, _⟩ := B2.ea.loc
      obtain ⟨ps, e⟩ := z.1.2
      rw [ho] at e; cases e; cases hdt) (fun x c hc z => by
      obtain ⟨v, ⟨o, ho, hdt⟩, _⟩ := B2.ea.cell x c hc
      obtain ⟨ps, e⟩ := z.1.2
      rw [ho] at e; cases e; cases hdt)
  have hK2 := hK1.mono st2.le
  have hLam2 := hLam.mono st2.le
  refine stl_ B3 rfl fun s4 B4 same4 => ?_
  refine hide fun Gₕ hGₕ => ?_
  obtain ⟨ns, md, sl, sa, bT, mc, F, Dt, C, H, T, hx1, hx2, u1, u2, u3, tk, oc, ha, _⟩ := id hcls
  obtain ⟨cdK, slK, haK⟩ : ∃ cd sl, g2 a = some (kObj cd sl) := ⟨_, _, ha⟩
  refine hGₕ ?_
  -- heap, found, number
  refine wpAny_execs_cons (Assign_Tuple_swapped (Tuple_ (args_cons (List_ (args_cons (Tuple_ (args_cons ?_)))))))
  refine Call_Name rfl (name_ B4 lk_self (.inl rfl) (callWith_kcls (args_cons (List_ (args_nil (newListK B4.live (by simp) fun l0 g5 s5 st5 hl0 => args_nil ⟨(B4.step st5).live _ _ (st5.le _ _ ha), ?_⟩))))))
  have B5 := B4.step st5
  refine key_newA hA' B5.live (hK2.mono st5.le) (hcls.mono st5.le) (⟨[], hl0, trivial⟩ : IntsAt g5 l0 []) fun kv g6 s6 st6 hkv => ?_
  have B6 := B5.step st6
  refine args_cons (wpAny_Constant_int (args_cons (List_ (args_nil (newListK (B6.tok _).live (by simp) fun l1 g7 s7 st7 hl1 => args_nil ?_)))))
  have B7 := (B6.tok _).step st7
  refine newTupleK B7.live (by simp) fun t0 g8 s8 st8 ht0 => args_nil ?_
  have B8 := B7.step st8
  have htup : TupV g8 a (.ref t0) ([], 0) := ⟨t0, 0, kv, _, .ref l1, rfl, ht0, hkv.mono (fun a o e => st8.le a o (st7.le a o e)), ⟨l1, rfl, [], hl1.mono st8.le, trivial⟩⟩
  refine newListU B8.live (by simp) fun hp s9 st9 hhp hp8 => ?_
  have B9 := B8.step st9
  refine args_cons (List_ (args_nil (newListU B9.live (by simp) fun fp s10 st10 hfp fp9 => ?_)))
  have B10 := B9.step st10
  refine args_cons (wpAny_Constant_int (args_nil ?_))
  refine newTupleK (B10.tok _).live (by simp) fun ot g11 s11 st11 hot => ?_
  have B11 := (B10.tok _).step st11
  refine unpackItems_tuple hR'.hd (items := #[.ref hp, .ref fp, .int 0 s10.toks]) ⟨_, st11.live _ _ hot, rfl, 0, rfl⟩ fun h12 hx12 => ?_
  have st12 : Stp N0 g11 g11 s11 _ := Stp.ext0 (h' := h12) st11.live hx12
  have B12 := B11.step st12
  show wpAny _ _ (assignInOrder [bindName _ "number", bindName _ "found", bindName _ "heap"] [.int 0 s10.toks, .ref fp, .ref hp]) _ _ _
  refine wpAny_bind (wpAny_holding (wpAny_bindName (stl_ B12 rfl fun s13 B13 same13 => ?_)))
  refine wpAny_bind (wpAny_holding (wpAny_bindName (stl_ B13 rfl fun s14 B14 same14 => ?_)))
  refine wpAny_bind (wpAny_holding (wpAny_bindName (stl_ B14 rfl fun s15 B15 same15 => wpAny_pure ?_)))
  -- what is tracked
  have hLx : ∀ b, s3.heap.get? b = none → b ≠ s.heap.objs.size := fun b e z => by
    obtain ⟨o, ho⟩ := B3.domL
    rw [z] at e
    exact nomatch (show none = some o from e.symm.trans ho)
  have hCx : ∀ b, s3.heap.get? b = none → b ≠ s.heap.objs.size + 1 := fun b e z => by
    obtain ⟨o, ho⟩ := B3.domC (n := "one") (c := s.heap.objs.size + 1) rfl
    rw [z] at e
    exact nomatch (show none = some o from e.symm.trans ho)
  have back4 : ∀ b, s4.heap.get? b = none → s3.heap.get? b = none := fun b e => by
    by_cases z : b = s.heap.objs.size
    · obtain ⟨o, ho⟩ := B4.domL
      rw [z] at e
      exact nomatch (show none = some o from e.symm.trans ho)
    · exact (same4.2 b z).symm.trans e
  have back : ∀ {x y : PH} {u v : Shared} {b : Addr}, Stp N0 x y u v → v.heap.get? b = none → u.heap.get? b = none := fun {x y u v b} S e => by
    cases q : u.heap.get? b with
    | none => rfl
    | some o => rw [S.keep0 _ _ q] at e; cases e
  have S48 : Stp N0 g2 g8 s4 s8 := st5.trans (st6.trans ((Stp.tok st6.live).trans (st7.trans st8)))
  have s3h : s3.heap.get? hp = none := back4 _ (back S48 hp8)
  have s3f : s3.heap.get? fp = none := back4 _ (back S48 (back st9 fp9))
  have s0 : ∀ b, s3.heap.get? b = none → s.heap.get? b = none := fun b e => by
    cases q : s.heap.get? b with
    | none => rfl
    | some o => obtain ⟨o', ho'⟩ := B3.st.dom _ _ q; rw [ho'] at e; cases e
  have P : Apart s.heap.objs.size (s.heap.objs.size + 1) s.heap s3.heap hp fp := ⟨hLx _ s3h, hLx _ s3f, hCx _ s3h, hCx _ s3f, fun z => (by have z' : @Eq Nat s.heap.objs.size (s.heap.objs.size + 1) := z; lia), fun z => (by
    obtain ⟨_, e⟩ := hhp
    rw [z, fp9] at e; cases e), s0 _ s3h, s0 _ s3f, s3h, s3f⟩
  have Tk10 : Trk s.heap.objs.size (s.heap.objs.size + 1) g2 s3.heap hp fp g8 s10.heap [.ref t0] [] := by
    refine ⟨hhp.keep (fun o => st10.keep0 hp o), hfp, fun b o h1 h2 e => st10.keep0 _ _ (st9.keep0 _ _ (S48.keep0 _ _ ((same4.2 b h1).trans e))), B10.domL, B10.domC (n := "one") rfl, S48.le, fun b o e => (S48.new b o e).imp id (back4 b), live_none B8.live hp8, live_none B9.live fp9⟩
  have Tk15 : Trk s.heap.objs.size (s.heap.objs.size + 1) g2 s3.heap hp fp g11 s15.heap [.ref t0] [] :=
    ((((Tk10.n0 (Stp.tok B10.live)).n0 st11).n0 st12).loc P same13 B13.domL).loc P same14 B14.domL |>.loc P same15 B15.domL
  have hg8 : ∀ b o, g8 b = some o → g11 b = some o := st11.le
  have hrows2 : SetsAt g2 ra rows := hrows.mono B3.st.le
  clear Tk10
  refine wpAny_execs_cons (whileB (SI rows s.heap.objs.size (s.heap.objs.size + 1) g2 s3.heap a hp fp ra) (SD rows s.heap.objs.size (s.heap.objs.size + 1) g2 s3.heap hp fp)
    _ B15 ⟨[([], 0)], [], 0, s10.toks, [.ref t0], [], rfl, Tk15, ⟨htup.mono hg8, trivial⟩, trivial, rfl, rfl, rfl, rfl, rfl, SInv.start, HeapOK.one⟩ ?_ ?_)
  · intro _ gi vsi si Bi rᵢ1
    refine hide fun Gₕ hGₕ => ?_
    obtain ⟨H, found, num, tn, vals, fvals, rfl, Ti, hall, fall, j1, j2, j3, j4, j5, Si, ok⟩ := rᵢ1
    refine hGₕ ?_
    have hKi := hK2.mono Ti.le
    have hlen := Si.len
    refine wpAny_isTrue_Compare1 (name_ Bi j2 (.inl rfl) (List_ (args_nil (newListU Bi.live (by simp) fun c sa sta hc _ => ?_))))
    have Ba := Bi.step sta
    have Ta := Ti.n0 sta
    refine neHp hR' Ba.live Ta.hpA hc (wpAny_truthy_bool ?_)
    have hlv := hall.length
    have hlf := fall.length
    by_cases hH : H = []
    · subst hH
      have : vals = [] := List.length_eq_zero_iff.mp hlv
      subst this
      rw [show (!([] : List Value).isEmpty) = false from rfl, if_neg Bool.false_ne_true]
      exact ⟨gi, vsi, Ba, found, num, [], fvals, Ta, fall, j3, Si⟩
    · have hv : (!vals.isEmpty) = true := by
        cases vals with
        | nil => exact absurd (List.length_eq_zero_iff.mp hlv.symm) hH
        | cons x y => rfl
      rw [hv, if_pos rfl]
      -- one = heappop(heap)[2]
      refine wpAny_execs_cons (wpAny_Assign_Name (Subscript_ (callFn Ba hKi rfl rfl (f := 28) (by kernel_rfl) rfl (args_cons (name_ Ba j2 (.inl rfl) (args_nil ⟨⟨gi, hKi, Ba.live⟩, ?_⟩))))))
      refine pop_call (n := n) Ba.live hKi (hR'.le (by lia)) (hcls.mono Ti.le) (hLam2.mono Ti.le) Ta.oh Ta.hpA hall ok hH Si.nd (fun x hx => by have := (Si.gl x hx).len_le; lia) (by lia) fun v e vals' L' sb stb hte hhb hallb okb pm hmin => ?_
      have Bb := Ba.one stb P.h0h P.hL (fun x c hc z => P.hC (z.trans (lookup1 hc)))
      have Tb := Ta.turnH P stb hhb
      have Sb : SInv rows (e :: L') found num := Si.perm pm.symm
      have hwt : weight H = weight (e :: L') := (weight_perm pm).symm
      have ge := Sb.gl e List.mem_cons_self
      refine hide fun Gₕ hGₕ => ?_
      obtain ⟨te, ke, kve, nte, lve, rfl, hte1, _, hlve⟩ := hte
      refine hGₕ ?_
      refine wpAny_Constant_int (kba_turn (value' := PySem.Expr.Name (PySem.Str.ofString "x") ⟨0, 0, 0, 0⟩) (fun _ => rfl) ?_)
      refine item_tuple (items := #[kve, .int e.2 nte, lve]) (j := 2) ⟨_, Bb.live _ _ hte1, rfl, ke, rfl⟩ (by decide) (by decide) rfl rfl ?_
      refine stc_ (c := s.heap.objs.size + 1) (Bb.tok _) rfl rfl (hlc "one" _ rfl) fun sc Bc samec => ?_
      have Tc := Tb.cell P samec (Bc.domC (n := "one") rfl)
      -- no found one within?
      refine wpAny_execs_cons (wpAny_If (wpAny_isTrue_Compare1 ?_))
      obtain ⟨kf, hfo⟩ := id Tc.fpA
      have Br := Bc.reveal live hfo P.h0f P.fL (fun x c hc z => P.fC (z.trans (lookup1 hc)))
      have hst : SetsAt (gi.put fp ⟨.type "list", none, .seq fvals.toArray kf, #[]⟩) fp found := ⟨fvals, ⟨_, PH.put_self, rfl, kf, rfl⟩, fall.mono fun _ _ z => z.mono (PH.put_le Tc.of)⟩
      refine comp_eval Br (compFilterS (fun less => decide (both less e.1 = e.1.length)) hR'.hd hst (by lia) (by decide) (fun L => .inl rfl) (fun Q' hQ' => name_ Br (lk_cons (by decide) j3) (.inl rfl) (hQ' _ (Stp.refl Br.live))) ?_) ?_
      · intro L2 u ys gj sj vs'' hmem2 hiv2 Bj hv2
        have hle : ∀ b o, gi b = some o → gj b = some o := fun b o q => Bj.st.le b o (PH.put_le Tc.of b o q)
        have hKj := hKi.mono hle
        have hyl := (Sb.fm ys hmem2).1.len_le
        have hel := ge.len_le
        have honej : ((("less" : Str), u) :: vs'').lookup ("one" : Str) = some lve := lk_cons (by decide) ((hv2 "one" rfl).trans lk_self)
        refine wpAny_isTrue_Compare1 ?_
        refine callFn Bj hKj rfl rfl (f := 92) (by kernel_rfl) rfl (args_cons (name_ Bj lk_self (.inl rfl) (args_cons (name_ Bj honej (.inr ⟨.inl rfl, rfl⟩) (args_nil ⟨⟨gj, hKj, Bj.live⟩, ?_⟩)))))
        have hiv1 := hlve.mono hle
        refine hide fun Gₕ hGₕ => ?_
        obtain ⟨b, rfl, hb⟩ := id hiv1
        obtain ⟨b2, rfl, hb2⟩ := id hiv2
        refine hGₕ ?_
        refine both_call (n := n) Bj.live hKj (hR'.le (by lia)) hb2 hb (by lia) fun t1 g1' s2' st1' => ?_
        have B1' := Bj.step st1'
        have hK1' := hKj.mono st1'.le
        refine callB1 B1' hK1' rfl rfl rfl (by kernel_rfl) (id := "len") (by kernel_rfl) (name_ B1' honej (.inr ⟨.inl rfl, rfl⟩) (IV.len B1'.live (hiv1.mono st1'.le) (by lia) fun t2 s3' st2' => ?_))
        refine PyProof.Rows.eq_int (wpAny_truthy_bool ⟨g1', st1'.trans st2', ?_⟩)
        rw [Bool.eq_iff_iff]; simp
      · intro acc5 out5 g5' gx sx hout5 hle5 hla5 stx
        refine List_ (args_nil (newListK stx.live (by simp) fun c2 gy sy sty hc2 => ?_))
        have hw : SetsAt gy acc5 (found.filter fun less => decide (both less e.1 = e.1.length)) := ⟨out5, hla5.mono sty.le, hout5.mono fun _ _ z => z.mono fun a o q => sty.le a o (hle5 a o q)⟩
        refine eqSets hR' sty.live hw (show SetsAt gy c2 [] from ⟨[], hc2, trivial⟩) (wpAny_truthy_bool ?_)
        have U := (stx.trans sty).unput Tc.of
        have Bd := Bc.step U
        have Td := Tc.n0 U
        revert U Bd Td
        generalize gy.less fp = gd
        intro U Bd Td
        clear hw hc2 hla5 hout5 hle5 stx sty
        by_cases hF : (found.filter fun less => decide (both less e.1 = e.1.length)) = []
        · rw [decide_eq_true hF, if_pos rfl]
          have hno : ∀ x ∈ found, ¬ Sub x e.1 := fun x hx q => by
            have := List.filter_eq_nil_iff.mp hF x hx
            exact this (by simpa using (both_sub (Sb.fm x hx).1 ge).mpr q)
          have hKd := hKi.mono U.le
          have hrd := hrows2.mono Td.le
          have hel := ge.len_le
          refine wpAny_execs_cons (comp_assign2 Bd (compFilterS (fun row => decide (both e.1 row = (e.1.length : Int) + row.length)) hR'.hd hrd (by lia) (by decide) (fun L => .inl rfl) (fun Q' hQ' => name_ Bd (lk_cons (by decide) j5) (.inl rfl) (hQ' _ (Stp.refl Bd.live))) ?_) ?_)
          · intro L2 u ys gj sj vs'' hmem2 hiv2 Bj hv2
            have hle : ∀ b o, gi b = some o → gj b = some o := fun b o q => Bj.st.le b o (U.le b o q)
            have hKj := hKi.mono hle
            have hyl := (gr ys hmem2).len_le
            have honej : ((("row" : Str), u) :: vs'').lookup ("one" : Str) = some lve := lk_cons (by decide) ((hv2 "one" rfl).trans lk_self)
            refine wpAny_isTrue_Compare1 ?_
            refine callFn Bj hKj rfl rfl (f := 92) (by kernel_rfl) rfl (args_cons (name_ Bj honej (.inr ⟨.inl rfl, rfl⟩) (args_cons (name_ Bj lk_self (.inl rfl) (args_nil ⟨⟨gj, hKj, Bj.live⟩, ?_⟩)))))
            have hiv1 := hlve.mono hle
            refine hide fun Gₕ hGₕ => ?_
            obtain ⟨b, rfl, hb⟩ := id hiv1
            obtain ⟨b2, rfl, hb2⟩ := id hiv2
            refine hGₕ ?_
            refine both_call (n := n) Bj.live hKj (hR'.le (by lia)) hb hb2 (by lia) fun t1 g1' s2' st1' => ?_
            have B1' := Bj.step st1'
            have hK1' := hKj.mono st1'.le
            refine wpAny_BinOp (callB1 B1' hK1' rfl rfl rfl (by kernel_rfl) (id := "len") (by kernel_rfl) (name_ B1' honej (.inr ⟨.inl rfl, rfl⟩) (IV.len B1'.live (hiv1.mono st1'.le) (by lia) fun t2 s3' st2' => ?_)))
            have B2' := B1'.step st2'
            refine callB1 B2' hK1' rfl rfl rfl (by kernel_rfl) (id := "len") (by kernel_rfl) (name_ B2' lk_self (.inl rfl) (IV.len B2'.live (hiv2.mono st1'.le) (by lia) fun t3 s4' st3' => ?_))
            have B3' := B2'.step st3'
            refine PyProof.Rows.add_int (PyProof.Rows.eq_int (wpAny_truthy_bool ⟨g1', ((st1'.trans st2').trans st3').trans (Stp.tok B3'.live), ?_⟩))
            rw [Bool.eq_iff_iff]; simp
          · intro acc2 out2 gm' gm sm hout2 hle2 hge2 hla2 Bm kk nn
            have hM : SetsAt gm acc2 (rows.filter fun row => decide (both e.1 row = (e.1.length : Int) + row.length)) := ⟨out2, hla2, hout2.mono fun _ _ z => z.mono hle2⟩
            have Tm := Td.big P kk nn hge2 Bm.domL
            have hUm : ∀ b o, gi b = some o → gm b = some o := fun b o q => hge2 b o (U.le b o q)
            have hMm : ∀ r, r ∈ (rows.filter fun row => decide (both e.1 row = (e.1.length : Int) + row.length)) ↔ r ∈ rows ∧ ¬ Hits r e.1 := fun r => by
              rw [List.mem_filter, decide_eq_true_eq]
              constructor
              · rintro ⟨q1, q2⟩; exact ⟨q1, (both_eq ge (gr r q1)).mp q2⟩
              · rintro ⟨q1, q2⟩; exact ⟨q1, (both_eq ge (gr r q1)).mpr q2⟩
            revert hM hMm
            generalize (rows.filter fun row => decide (both e.1 row = (e.1.length : Int) + row.length)) = M
            intro hM hMm
            refine wpAny_execs_cons (wpAny_If (wpAny_isTrue_Compare1 (name_ Bm lk_self (.inl rfl) (List_ (args_nil (newListK Bm.live (by simp) fun c3 gn sn stn hc3 => ?_))))))
            refine eqSets hR' stn.live (hM.mono stn.le) (show SetsAt gn c3 [] from ⟨[], hc3, trivial⟩) (wpAny_truthy_bool ?_)
            have Bn := Bm.step stn
            have Tn := Tm.n0 stn
            have hUn : ∀ b o, gi b = some o → gn b = some o := fun b o q => stn.le b o (hUm b o q)
            have hM2 := hM.mono stn.le
            by_cases hMe : M = []
            · rw [decide_eq_true hMe, if_pos rfl]
              have ht : Trans rows e.1 := fun r hr => Classical.byContradiction fun hh => by
                have := (hMm r).mpr ⟨hr, hh⟩
                rw [hMe] at this; cases this
              refine wpAny_execs_cons (wpAny_Expr (MethodCall_ (pl := ?_) (name_ Bn (lk_cons (by decide) (lk_cons (by decide) j3)) (.inl rfl) ?_)))
              rotate_left
              refine getMethod_builtin Tn.fpA.isList.typeIs PySem.F.plainAttrs_list slot_list_append (by kernel_rfl) (fun a e => by cases e; obtain ⟨k, e⟩ := Tn.fpA; exact ⟨_, e, rfl⟩) ?_
              refine callWith_builtin rfl (evalArgs_plain (args_cons (name_ Bn (lk_cons (by decide) lk_self) (.inr ⟨.inl rfl, rfl⟩) (args_nil ?_))))
              refine hp_app Bn.live Tn.of Tn.fpA (by lia) fun so sto hho => ?_
              have Bo := Bn.one sto P.h0f P.fL (fun x c hc z => P.fC (z.trans (lookup1 hc)))
              have To := Tn.turnF P sto hho
              exact wpAny_execs_nil (wpAny_execs_nil (wpAny_execs_nil ⟨weight L', by rw [hwt]; exact weight_cons_lt, gn, _, Bo, L', found ++ [e.1], num, tn, vals', fvals ++ [lve], rfl, To, hallb.mono fun _ _ z => z.mono hUn, (fall.mono fun _ _ z => z.mono hUn).snoc (hlve.mono hUn),
                lk_cons (by decide) (lk_cons (by decide) j1), lk_cons (by decide) (lk_cons (by decide) j2), lk_cons (by decide) (lk_cons (by decide) j3), lk_cons (by decide) (lk_cons (by decide) j4), lk_cons (by decide) (lk_cons (by decide) j5), Sb.take hmin hno ht, okb⟩))
            · rw [decide_eq_false hMe, if_neg Bool.false_ne_true]
              refine hide fun Gₕ hGₕ => ?_
              obtain ⟨m, mrest, rfl⟩ : ∃ m mrest, M = m :: mrest := by
                cases M with
                | nil => exact absurd rfl hMe
                | cons m r => exact ⟨m, r, rfl⟩
              obtain ⟨hmr, hmh⟩ := (hMm m).mp List.mem_cons_self
              have gm4 := gr m hmr
              have hml := gm4.len_le
              obtain ⟨mvs, hmla, hmall⟩ := hM2
              obtain ⟨mval, mvr, rfl⟩ : ∃ x y, mvs = x :: y := by
                cases mvs with
                | nil => exact hmall.elim
                | cons x y => exact ⟨x, y, rfl⟩
              obtain ⟨lm, rfl, mv, hmv, hmvi⟩ := hmall.1
              refine hGₕ ?_
              have hmvl := hmvi.length
              refine wpAny_execs_cons (wpAny_For (Subscript_ (name_ Bn lk_self (.inl rfl) (wpAny_Constant_int ?_))))
              refine item_listL (x := .ref lm) (hmla.isList (Bn.tok _).live) (by decide) (by decide) rfl ?_
              have Bp0 := Bn.tok (sn.toks + 1)
              have Tp0 := Tn.n0 (Stp.tok (t := sn.toks + 1) Bn.live)
              refine pyIterU Bp0.live (hmv.isList Bp0.live) fun it sp stp hst hit => ?_
              have Bp := Bp0.step stp
              have Tp := Tp0.n0 stp
              have hitx : ∀ {b : Addr}, (∃ o, (show Shared from { sn with toks := sn.toks + 1 }).heap.get? b = some o) → b ≠ it := fun {b} ⟨o, q⟩ z => by rw [z, show (show Shared from { sn with toks := sn.toks + 1 }).heap.get? it = none from hit] at q; cases q
              have i1 : hp ≠ it := hitx (let ⟨_, q⟩ := Tp0.hpA; ⟨_, q⟩)
              have i2 : fp ≠ it := hitx (let ⟨_, q⟩ := Tp0.fpA; ⟨_, q⟩)
              have i3 : s.heap.objs.size + 1 ≠ it := hitx Tp0.dC
              have i5 : s.heap.objs.size ≠ it := hitx Tp0.dL
              have i4 : s3.heap.get? it = none := by
                cases q : s3.heap.get? it with
                | none => rfl
                | some o => exact absurd rfl (hitx ⟨o, Tp0.kp it o (fun z => i5 z.symm) (fun z => i3 z.symm) q⟩)
              have hgit : gn it = none := live_none Bp0.live hit
              refine for_loop (listSrc (w := w)) hR'.hd rfl
                (SF mv it s.heap.objs.size (s.heap.objs.size + 1) g2 s3.heap a hp fp ra gn e num m L' fvals lve)
                ?_ ?_ (s0 _ i4) ?_ (fun x c hc z => i3 ((lookup1 hc).symm.trans z)) ?_ ?_ Bp hst hgit ?_
              · intro r gj vsj v hj hj' rᵢ2 kk
                refine hide fun Gₕ hGₕ => ?_
                obtain ⟨k, H2, tn2, vals2, q1, q2, q3, q4, q5, q6, q7, q8, q9, q10, q11, q12, q13⟩ := rᵢ2
                refine hGₕ ?_
                exact ⟨k, H2, tn2, vals2, q1, q2, fun h2 k2 hd2 => q3 h2 (fun a o h1 h2' e => k2 a o h1 h2' (kk a o h1 h2' e)) hd2, q4, q5, q6, q7, lk_cons (by decide) q8, lk_cons (by decide) q9, lk_cons (by decide) q10, lk_cons (by decide) q11, lk_cons (by decide) q12, lk_cons (by decide) q13⟩
              · intro gj vsj hj hj' rᵢ3 kk
                refine hide fun Gₕ hGₕ => ?_
                obtain ⟨k, H2, tn2, vals2, q1, q2, q3, q4, q5, q6, q7, q8, q9, q10, q11, q12, q13⟩ := rᵢ3
                refine hGₕ ?_
                exact ⟨k, H2, tn2, vals2, q1, q2, fun h2 k2 hd2 => q3 h2 (fun a o h1 h2' e => k2 a o h1 h2' (kk a o h1 e)) hd2, q4, q5, q6, q7, q8, q9, q10, q11, q12, q13⟩
              · rintro (z | z)
                · exact i5 z
                · obtain ⟨o, ho, _⟩ := hmv
                  rw [← z, Bn.offL] at ho; cases ho
              · intro p rest v gj sj vsj hpv rᵢ4 Bj hgj hstj
                refine hide fun Gₕ hGₕ => ?_
                obtain ⟨k, H2, tn2, vals2, q1, q2, q3, q4, q5, q6, q7, q8, q9, q10, q11, q12, q13⟩ := rᵢ4
                refine hGₕ ?_
                have Tj := q3 sj.heap (fun _ _ _ _ e => e) Bj.domL
                rw [List.map_drop] at q2
                refine hide fun Gₕ hGₕ => ?_
                obtain ⟨hpp, hrest⟩ := drop_cons q2
                rw [List.getElem?_map, Option.map_eq_some_iff] at hpp
                obtain ⟨u, hu, rfl⟩ := hpp
                have hvu : v = u := hpv
                subst hvu
                obtain ⟨pt, hpt, tp, rfl⟩ := hmvi.get hu
                refine hGₕ ?_
                have hk1 := (List.getElem?_eq_some_iff.mp hpt).1
                have hnj : ∀ b o, gi b = some o → gj b = some o := fun b o q => q4 b o (hUn b o q)
                have hitj : ∃ o, sj.heap.get? it = some o := listSrc.dom (w := w) _ _ _ hstj (.inl rfl)
                -- number = number + 1
                refine wpAny_execs_cons (wpAny_Assign_Name (wpAny_BinOp (name_ Bj q11 (.inl rfl) (wpAny_Constant_int (PyProof.Rows.add_int ?_)))))
                refine stl_ (Bj.tok _) rfl fun sq Bq sameq => ?_
                have Tq := Tj.loc P sameq Bq.domL
                -- the entry
                refine hide fun Gₕ hGₕ => ?_
                obtain ⟨lo, rfl, ovs, hovs, hovsi⟩ := id hlve
                refine hGₕ ?_
                have hovl := hovsi.length
                have hcl := hcls.mono Tj.le
                refine wpAny_execs_cons (wpAny_Expr (callFn Bq (hKi.mono hnj) rfl rfl (f := 21) (by kernel_rfl) rfl (args_cons (name_ Bq (lk_cons (by decide) q9) (.inl rfl) (args_cons (Tuple_ (args_cons ?_)))))))
                refine Call_Name rfl (name_ Bq (lk_cons (by decide) q8) (.inl rfl) (callWith_kcls (cd := cdK) (sl := slK) (args_cons (wpAny_BinOp (name_ Bq (lk_cons (by decide) q13) (.inr ⟨.inl rfl, rfl⟩) (List_ (args_cons (name_ Bq (lk_cons (by decide) lk_self) (.inl rfl) (args_nil ?_)))))))))
                refine newListK Bq.live (by simp) fun x1 gr1 sr1 str1 hx1 => ?_
                refine addLK str1.live ((hovs.mono hnj).mono str1.le) hx1 (by simp; lia) fun x2 gr2 sr2 str2 hx2 => args_nil ⟨str2.live _ _ (str2.le _ _ (str1.le _ _ (Tj.le _ _ haK))), ?_⟩
                have hle2 : ∀ b o, gj b = some o → gr2 b = some o := fun b o q => str2.le b o (str1.le b o q)
                refine key_newA hA' str2.live ((hKi.mono hnj).mono hle2) (hcl.mono hle2) (⟨_, hx2, hovsi.snoc ⟨tp, rfl⟩⟩ : IntsAt gr2 x2 (e.1 ++ [pt])) fun kv2 gr3 sr3 str3 hkv2 => ?_
                have S3 := (str1.trans str2).trans str3
                have Br3 := Bq.step S3
                refine args_cons (name_ Br3 lk_self (.inl rfl) (args_cons (wpAny_BinOp (name_ Br3 (lk_cons (by decide) q13) (.inr ⟨.inl rfl, rfl⟩) (List_ (args_cons (name_ Br3 (lk_cons (by decide) lk_self) (.inl rfl) (args_nil ?_))))))))
                refine newListK Br3.live (by simp) fun x3 gr4 sr4 str4 hx3 => ?_
                refine addLK str4.live (((hovs.mono hnj).mono S3.le).mono str4.le) hx3 (by simp; lia) fun x4 gr5 sr5 str5 hx4 => args_nil ?_
                refine newTupleK str5.live (by simp) fun x5 gr6 sr6 str6 hx5 => args_nil ?_
                have S6 := ((S3.trans str4).trans str5).trans str6
                have Br6 := Bq.step S6
                have Tr6 := Tq.n0 S6
                have hle6 : ∀ b o, gi b = some o → gr6 b = some o := fun b o q => S6.le b o (hnj b o q)
                refine ⟨⟨gr6, hKi.mono hle6, Br6.live⟩, ?_⟩
                have hkt : (m.take k).length = k := by rw [List.length_take]; lia
                have hnum : num + (k : Int) + 1 = num + ((m.take k).length : Int) + 1 := by rw [hkt]
                have htv : TupV gr6 a (.ref x5) (e.1 ++ [pt], num + (k : Int) + 1) := ⟨x5, 0, kv2, _, .ref x4, rfl, hx5, hkv2.mono fun b o q => str6.le b o (str5.le b o (str4.le b o q)), ⟨x4, rfl, _, hx4.mono str6.le, hovsi.snoc ⟨tp, rfl⟩⟩⟩
                have hP2 : (H2 ++ [(e.1 ++ [pt], num + (k : Int) + 1)]).Perm (L' ++ kids e.1 num (m.take (k + 1))) := by
                  rw [List.take_add_one, hpt, Option.toList_some, kids_snoc, ← List.append_assoc, hnum]
                  exact q6.append_right _
                have hH2l : H2.length = L'.length + k := by rw [q6.length_eq, List.length_append, kids_len, hkt]
                have hL'l : L'.length ≤ 625 := by have := Sb.len.1; rw [List.length_cons] at this; lia
                have hnd : ((H2 ++ [(e.1 ++ [pt], num + (k : Int) + 1)]).map (·.2)).Nodup := (hP2.map _).symm.nodup (Sb.kidsNodup _)
                have hbb : ∀ x ∈ H2 ++ [(e.1 ++ [pt], num + (k : Int) + 1)], x.1.length < 2 ^ 18 := fun x hx => by
                  rcases List.mem_append.mp (hP2.mem_iff.mp hx) with q | q
                  · have := (Sb.gl x (List.mem_cons_of_mem _ q)).len_le; lia
                  · obtain ⟨_, _, y, _, hy⟩ := kids_mem _ _ _ _ q
                    rw [hy, List.length_append]; simp; lia
                refine push_call (n := n) Br6.live (hKi.mono hle6) (hR'.le (by lia)) (hcl.mono S6.le) ((hLam2.mono Tj.le).mono S6.le) Tr6.oh Tr6.hpA (q5.mono fun _ _ z => z.mono S6.le) htv q7 hnd hbb (by lia) fun vals3 H3 sz stz hhz hall3 ok3 pm3 => ?_
                have Bz := Br6.one stz P.h0h P.hL (fun x c hc z => P.hC (z.trans (lookup1 hc)))
                have Tz := Tr6.turnH P stz hhz
                have hqj : ∀ b o, b ≠ s.heap.objs.size → sj.heap.get? b = some o → sq.heap.get? b = some o := fun b o q1' q2' => (sameq.2 b q1').trans q2'
                refine wpAny_execs_nil ⟨gr6, _, Bz, off_of S6 hgj (let ⟨o, q⟩ := hitj; ⟨o, hqj _ _ (fun z => i5 z.symm) q⟩), fun b o hb q => ?_, k + 1, H3, sj.toks + 1, vals3, hk1, by rw [hrest, List.map_drop], Tz.toJ P i1 i2 i3 i4, fun b o q => S6.le b o (q4 b o q), hall3, pm3.trans hP2, ok3,
                  lk_cons (by decide) q8, lk_cons (by decide) q9, lk_cons (by decide) q10, ?_, lk_cons (by decide) q12, lk_cons (by decide) q13⟩
                · refine stz.keep b o (fun z => ?_) (S6.keep0 b o (hqj b o (fun z => ?_) q))
                  · have z' : b = hp := z
                    rcases hb with y | y
                    · exact i1 (z'.symm.trans y)
                    · obtain ⟨o2, ho2, _⟩ := hmv
                      rw [← y, z', Tn.oh] at ho2; cases ho2
                  · rcases hb with y | y
                    · exact i5 (z.symm.trans y)
                    · obtain ⟨o2, ho2, _⟩ := hmv
                      rw [← y, z] at ho2
                      have := Bn.offL
                      rw [show gn s.heap.objs.size = none from this] at ho2; cases ho2
                · have en : num + ((k + 1 : Nat) : Int) = num + (k : Int) + 1 := by lia
                  rw [en]; exact lk_self
              · intro gj s' vsj Bj rᵢ5
                refine hide fun Gₕ hGₕ => ?_
                obtain ⟨k, H2, tn2, vals2, q1, q2, q3, q4, q5, q6, q7, q8, q9, q10, q11, q12, q13⟩ := rᵢ5
                refine hGₕ ?_
                have hkm : k = m.length := by
                  have : mv.drop k = [] := by
                    cases q : mv.drop k with
                    | nil => rfl
                    | cons a b => rw [q] at q2; cases q2
                  have := List.drop_eq_nil_iff.mp this
                  lia
                subst hkm
                rw [List.take_length] at q6
                refine wpAny_execs_nil (wpAny_execs_nil (wpAny_execs_nil ⟨weight H2, ?_, gj, vsj, Bj, H2, found, num + (m.length : Int), tn2, vals2, fvals, rfl, q3 s'.heap (fun _ _ _ _ e => e) Bj.domL, q5, fall.mono fun _ _ z => z.mono fun b o q => q4 b o (hUn b o q), q8, q9, q10, q11, q12, (Sb.grow hmin gm4 hmr hmh).perm q6.symm, q7⟩))
                rw [weight_perm q6, hwt]
                exact weight_grow Sb gm4 hmh
              · refine ⟨0, L', tn, vals', Nat.zero_le _, by simp, Tp.toJ P i1 i2 i3 i4, fun _ _ q => q, hallb.mono fun _ _ z => z.mono hUn, by simp [kids], okb, lk_cons (by decide) (lk_cons (by decide) j1), lk_cons (by decide) (lk_cons (by decide) j2), lk_cons (by decide) (lk_cons (by decide) j3), ?_, lk_cons (by decide) (lk_cons (by decide) j5), lk_cons (by decide) lk_self⟩
                rw [show num + ((0 : Nat) : Int) = num by simp]
                exact lk_cons (by decide) (lk_cons (by decide) j4)
        · rw [decide_eq_false hF, if_neg Bool.false_ne_true]
          have hw : ∃ x ∈ found, Sub x e.1 := by
            refine Classical.byContradiction fun hno => hF (List.filter_eq_nil_iff.mpr fun x hx q => hno ⟨x, hx, (both_sub (Sb.fm x hx).1 ge).mp (by simpa using q)⟩)
          refine wpAny_execs_nil (wpAny_execs_nil ⟨weight L', by rw [hwt]; exact weight_cons_lt, gd, _, Bd, L', found, num, tn, vals', fvals, rfl, Td, hallb.mono fun _ _ z => z.mono U.le, fall.mono fun _ _ z => z.mono U.le, lk_cons (by decide) j1, lk_cons (by decide) j2, lk_cons (by decide) j3, lk_cons (by decide) j4, lk_cons (by decide) j5, Sb.skip hw, okb⟩)
  · intro gj vsj s' Bj rᵢ6
    refine hide fun Gₕ hGₕ => ?_
    obtain ⟨found, num, vals, fvals, Tj, fall, j3, Sj⟩ := rᵢ6
    refine hGₕ ?_
    refine wpAny_execs_cons (wpAny_Return_some (name_ Bj j3 (.inl rfl) ?_))
    obtain ⟨kf, hfo⟩ := id Tj.fpA
    have SX : Stp (fun b => b = s.heap.objs.size ∨ b = s.heap.objs.size + 1) g2 (gj.put fp ⟨.type "list", none, .seq fvals.toArray kf, #[]⟩) s3 s' := by
      refine ⟨fun b o q => PH.put_le Tj.of b o (Tj.le b o q), fun b o q => ?_, fun b o q => ?_, fun b o hb q => Tj.kp b o (fun z => hb (.inl z)) (fun z => hb (.inr z)) q, fun b o q => ?_, ?_⟩
      · unfold PH.put at q
        split at q
        · rename_i z; subst z; exact .inr P.h3f
        · exact Tj.nw b o q
      · unfold PH.put at q
        split at q
        · rename_i z; subst z; cases q; exact hfo
        · exact Bj.live b o q
      · by_cases z1 : b = s.heap.objs.size
        · rw [z1]; exact Tj.dL
        · by_cases z2 : b = s.heap.objs.size + 1
          · rw [z2]; exact Tj.dC
          · exact ⟨o, Tj.kp b o z1 z2 q⟩
      · have r1 := Bj.st.rest
        have r3 := B3.st.rest
        rw [r1, r3]
    have hLd : ∀ o, s3.heap.get? s.heap.objs.size = some o → ∀ vs, o.data ≠ .fields vs := fun o ho vs hd => by
      refine hide fun Gₕ hGₕ => ?_
      obtain ⟨m, ⟨o2, es, ep, ho2, hdt, _⟩, _⟩ := B3.ea.loc
      refine hGₕ ?_
      rw [show s3.heap.get? s.heap.objs.size = some o2 from ho2] at ho
      cases ho
      rw [hdt] at hd; cases hd
    have hCd : ∀ o, s3.heap.get? (s.heap.objs.size + 1) = some o → ∀ vs, o.data ≠ .fields vs := fun o ho vs hd => by
      refine hide fun Gₕ hGₕ => ?_
      obtain ⟨v, ⟨o2, ho2, hdt⟩, _⟩ := B3.ea.cell "one" (s.heap.objs.size + 1) rfl
      refine hGₕ ?_
      rw [ho2] at ho
      cases ho
      rw [hdt] at hd; cases hd
    have NC : NoCode (fun b => b = s.heap.objs.size ∨ b = s.heap.objs.size + 1) s3.heap := fun b o hb e => by
      rcases hb with rfl | rfl
      · exact .inr (hLd o e)
      · exact .inr (hCd o e)
    have nt : ∀ b, (∃ ps, s3.heap.get? b = some (tabObj ps)) → ¬ (b = s.heap.objs.size ∨ b = s.heap.objs.size + 1) := fun b ⟨ps, e⟩ hb => by
      rcases hb with rfl | rfl
      · exact hLd _ e _ rfl
      · exact hCd _ e _ rfl
    refine h fp found _ s' (Bj.st.reveal live hfo P.h0f) ⟨off_tab SX T3.h44 T3.t44, off_tab SX T3.h99 T3.tl.tab, T3.kt.stp SX NC (nt _ T3.t44) (fun b hb => nt b hb.1.2), T3.tl.stp SX NC (nt _ T3.tl.tab)⟩
      ⟨fvals, ⟨_, PH.put_self, rfl, kf, rfl⟩, fall.mono fun _ _ z => z.mono (PH.put_le Tj.of)⟩ Sj.done Sj.fs Sj.len.2
end
end
section
open PySem PySem.W PySem.W.X PyProof.Rows Builtin PySem.Calls PySem.SeqAt
set_option maxRecDepth 100000
set_option maxHeartbeats 4000000
theorem All2.split {α β : Type} {R : α → β → Prop} {y : β} : ∀ {bs : List β} {cs : List β} {as : List α}, All2 R as (bs ++ y :: cs) → ∃ a1 x a2, as = a1 ++ x :: a2 ∧ All2 R a1 bs ∧ R x y ∧ All2 R a2 cs
  | [], _, x :: as, h => ⟨[], x, as, rfl, trivial, h.1, h.2⟩
  | [], _, [], h => h.elim
  | b :: bs, cs, x :: as, h => let ⟨a1, z, a2, e, h1, h2, h3⟩ := All2.split (bs := bs) h.2; ⟨x :: a1, z, a2, by rw [e]; rfl, ⟨h.1, h1⟩, h2, h3⟩
  | _ :: _, _, [], h => h.elim
theorem ddS_snoc (l : List (List Int)) (x : List Int) : ddS (l ++ [x]) = if x ∈ ddS l then ddS l else ddS l ++ [x] := by
  unfold ddS; rw [List.foldl_append]; rfl
theorem ddS_len (l : List (List Int)) : (ddS l).length ≤ l.length := by
  have : ∀ (l acc : List (List Int)), (l.foldl (fun acc x => if x ∈ acc then acc else acc ++ [x]) acc).length ≤ acc.length + l.length := by
    intro l
    induction l with
    | nil => intro acc; simp
    | cons x l ih =>
      intro acc
      rw [List.foldl_cons]
      have := ih (if x ∈ acc then acc else acc ++ [x])
      rw [List.length_cons]
      split at this
      · rename_i h; rw [if_pos h]; lia
      · rename_i h; rw [if_neg h]; rw [List.length_append, List.length_singleton] at this; lia
  have := this l []
  simpa [ddS] using this
section
variable {w : World} {A : Around} {E : Value → Shared → Prop} {g : PH} {s : Shared} {n : Nat}
theorem put_live {np : Addr} {o : Obj} (live : ∀ a o, g a = some o → s.heap.get? a = some o) (ho : s.heap.get? np = some o) : ∀ a p, (g.put np o) a = some p → s.heap.get? a = some p := fun a p e => by
  unfold PH.put at e
  split at e
  · rename_i z; subst z; cases e; exact ho
  · exact live a p e
structure DuIc (xss : List (List Int)) (vals : List Value) (np : Addr) (g : PH) (r : List (Value → Prop)) (gj : PH) (vsj : List (Str × Value)) (hj : Heap) (k : Nat) (nv : List Value) : Prop where
  p1 : k ≤ xss.length
  p2 : r = (vals.drop k).map (fun x v => v = x)
  p3 : HpAt hj np nv
  p4 : gj = g
  p5 : All2 (IV g) nv (ddS (xss.take k))
  p6 : vsj.lookup ("new_unhashable" : Str) = some (.ref np)
noncomputable abbrev DuI (xss : List (List Int)) (vals : List Value) (np : Addr) (g : PH) : List (Value → Prop) → PH → List (Str × Value) → Heap → Prop := fun r gj vsj hj => ∃ (k : Nat) (nv : List Value), DuIc xss vals np g r gj vsj hj k nv
theorem du_call {ra : Addr} {xss : List (List Int)} {Q : Value → Shared → Prop} (live : ∀ a o, g a = some o → s.heap.get? a = some o) (hK : KIn w g) (hR : Room A (n + 1)) (hx : SetsAt g ra xss) (hlen : xss.length < 2 ^ 17)
    (h : ∀ b g' s', Stp N0 g g' s s' → SetsAt g' b (ddS xss) → Q (.ref b) s') : wpAny (model PG w) A (call (.ref 73) [.ref ra]) Q E s := by
  refine fn_call (X := N0) (binds := [("unhashable_params", .ref ra)]) live hK hR (f := 73) rfl (by kernel_rfl) rfl (Looks.of_pure (by rfl)) rfl (by kernel_rfl) (fun A' s₁ hR' _ B hlc => ?_) rfl rfl rfl
  obtain ⟨vals, hla, hall⟩ := hx
  have hlv := hall.length
  refine wpAny_execs_cons (wpAny_Assign_Name (List_ (args_nil (newListU B.live (by simp) fun np s2 st2 hnp hn1 => ?_))))
  have B2 := B.step st2
  have hn0 : s.heap.get? np = none := by
    cases q : s.heap.get? np with
    | none => rfl
    | some o => rw [B.st.keep0 _ _ q] at hn1; cases hn1
  have hnL : np ≠ s.heap.objs.size := fun z => by
    obtain ⟨o, ho⟩ := B.domL
    rw [z] at hn1
    exact nomatch (show none = some o from hn1.symm.trans ho)
  have hgn : g np = none := live_none live hn0
  refine stl_ B2 rfl fun s3 B3 same3 => ?_
  have hnp3 : HpAt s3.heap np [] := hnp.keep fun _ e => (same3.2 np hnL).trans e
  refine wpAny_execs_cons (wpAny_For (name_ B3 rfl (.inl rfl) ?_))
  refine pyIterU B3.live (hla.isList B3.live) fun it s4 st4 hst hit => ?_
  have B4 := B3.step st4
  have hitL : it ≠ s.heap.objs.size := fun z => by
    obtain ⟨o, ho⟩ := B3.domL
    rw [z] at hit
    exact nomatch (show none = some o from hit.symm.trans ho)
  have hitn : np ≠ it := fun z => by
    obtain ⟨_, e⟩ := hnp3
    rw [z, hit] at e; cases e
  have hi0 : s.heap.get? it = none := by
    cases q : s.heap.get? it with
    | none => rfl
    | some o => obtain ⟨o', ho'⟩ := B3.st.dom _ _ q; rw [ho'] at hit; cases hit
  have hran : ra ≠ np := fun z => by
    obtain ⟨o, ho, _⟩ := hla
    rw [z, hgn] at ho; cases ho
  refine for_loop (listSrc (w := w)) hR'.hd rfl
    (DuI xss vals np g)
    ?_ ?_ hi0 ?_ (fun x c hc => by cases hc) ?_ ?_ B4 hst (live_none B3.live hit) ?_
  · intro r gj vsj v hj hj' rᵢ1 kk
    refine hide fun Gₕ hGₕ => ?_
    obtain ⟨k, nv, q1, q2, q3, q4, q5, q6⟩ := rᵢ1
    refine hGₕ ?_
    exact ⟨k, nv, q1, q2, q3.keep fun o e => kk np o hitn hnL e, q4, q5, lk_cons (by decide) q6⟩
  · intro gj vsj hj hj' rᵢ2 kk
    refine hide fun Gₕ hGₕ => ?_
    obtain ⟨k, nv, q1, q2, q3, q4, q5, q6⟩ := rᵢ2
    refine hGₕ ?_
    exact ⟨k, nv, q1, q2, q3.keep fun o e => kk np o hitn e, q4, q5, q6⟩
  · rintro (z | z)
    · exact hitL z.symm
    · obtain ⟨o, ho, _⟩ := hla
      have hl := B.lowL
      rw [z] at hl
      exact nomatch (show none = some o from hl.symm.trans (live _ _ ho))
  · intro p rest v gj sj vsj hpv rᵢ3 Bj hgj hstj
    refine hide fun Gₕ hGₕ => ?_
    obtain ⟨k, nv, q1, q2, q3, rfl, q5, q6⟩ := rᵢ3
    refine hGₕ ?_
    rw [List.map_drop] at q2
    refine hide fun Gₕ hGₕ => ?_
    obtain ⟨hpp, hrest⟩ := drop_cons q2
    rw [List.getElem?_map, Option.map_eq_some_iff] at hpp
    obtain ⟨u, hu, rfl⟩ := hpp
    have hvu : v = u := hpv
    subst hvu
    obtain ⟨xs, hxs, b, rfl, hb⟩ := hall.get hu
    have hk1 := (List.getElem?_eq_some_iff.mp hxs).1
    have ht : xss.take (k + 1) = xss.take k ++ [xs] := by rw [List.take_add_one, hxs]; rfl
    obtain ⟨kf, hfo⟩ := id q3
    refine hGₕ ?_
    have hlj := put_live Bj.live hfo
    have hnl := q5.length
    have hdl := ddS_len (xss.take k)
    rw [List.length_take] at hdl
    refine wpAny_execs_cons (wpAny_If (wpAny_isTrue_Compare1 (name_ Bj lk_self (.inl rfl) (name_ Bj q6 (.inl rfl) ?_))))
    refine notInSets hR' hlj (hb.mono (PH.put_le hgn)) (⟨nv, ⟨_, PH.put_self, rfl, kf, rfl⟩, q5.mono fun _ _ z => z.mono (PH.put_le hgn)⟩ : SetsAt _ np (ddS (xss.take k))) (wpAny_truthy_bool ?_)
    by_cases hin : xs ∈ ddS (xss.take k)
    · rw [decide_eq_false (fun z => z hin), if_neg Bool.false_ne_true]
      refine wpAny_execs_nil (wpAny_execs_nil ⟨gj, _, Bj, hgj, fun _ _ _ e => e, k + 1, nv, hk1, by rw [hrest, List.map_drop], q3, rfl, ?_, q6⟩)
      rw [ht, ddS_snoc, if_pos hin]; exact q5
    · rw [decide_eq_true hin, if_pos rfl]
      refine wpAny_execs_cons (wpAny_Expr (MethodCall_ (pl := ?_) (name_ Bj q6 (.inl rfl) ?_)))
      rotate_left
      refine getMethod_builtin q3.isList.typeIs PySem.F.plainAttrs_list slot_list_append (by kernel_rfl) (fun a e => by cases e; obtain ⟨k, e⟩ := q3; exact ⟨_, e, rfl⟩) ?_
      refine callWith_builtin rfl (evalArgs_plain (args_cons (name_ Bj lk_self (.inl rfl) (args_nil ?_))))
      refine hp_app Bj.live hgn q3 (by lia) fun so sto hho => ?_
      have Bo := Bj.one sto hn0 hnL (fun x c hc => by cases hc)
      refine wpAny_execs_nil (wpAny_execs_nil ⟨gj, _, Bo, hgj, fun a o hF e => sto.keep a o (fun z => ?_) e, k + 1, nv ++ [.ref b], hk1, by rw [hrest, List.map_drop], hho, rfl, ?_, q6⟩)
      · have z' : a = np := z
        rcases hF with y | y
        · exact hitn (z'.symm.trans y)
        · exact hran (y.symm.trans z')
      · rw [ht, ddS_snoc, if_neg hin]; exact q5.snoc ⟨b, rfl, hb⟩
  · intro gj s' vsj Bj rᵢ4
    refine hide fun Gₕ hGₕ => ?_
    obtain ⟨k, nv, q1, q2, q3, rfl, q5, q6⟩ := rᵢ4
    refine hGₕ ?_
    have hkm : k = xss.length := by
      have : vals.drop k = [] := by
        cases q : vals.drop k with
        | nil => rfl
        | cons a b => rw [q] at q2; cases q2
      have := List.drop_eq_nil_iff.mp this
      lia
    subst hkm
    rw [List.take_length] at q5
    obtain ⟨kf, hfo⟩ := id q3
    refine wpAny_execs_cons (wpAny_Return_some (name_ Bj q6 (.inl rfl) ?_))
    exact h np _ s' (Bj.st.reveal live hfo hn0) ⟨nv, ⟨_, PH.put_self, rfl, kf, rfl⟩, q5.mono fun _ _ z => z.mono (PH.put_le hgn)⟩
  · refine ⟨0, [], Nat.zero_le _, by simp, hnp3.keep fun o e => st4.keep0 np o e, rfl, by simp [ddS]; trivial, rfl⟩
/-- «l.remove(x)», x within -/
theorem remove_at (l : Addr) (items : Array Value) (n : Nat) (x : Value) (j : Nat) (hj : j < items.size) (hs1 : items.size ≤ sizeLine) (k : Nat) :
    ∀ i : Nat, j - i = k → i ≤ j → Meets (Builtin.«list.remove.loop» ⟨[.ref l, x, rawInt i], []⟩)
      (fun A R s => s.heap.get? l = some { cls := .type "list", dict := none, data := .seq items n, slots := #[] } ∧ EqAt A.in1 s items[j] x true ∧ (∀ m (hm : m < items.size), m < j → EqAt A.in1 s items[m] x false) ∧
        R (.ok (.ret .none)) { s with heap := s.heap.update l (Obj.mapSeq fun xs => xs.eraseIdxIfInBounds j) }) := by
  induction k with
  | zero =>
    intro i hk hij prog w A R s h
    refine hide fun Gₕ hGₕ => ?_
    obtain ⟨hp, g, d, tk, os⟩ := s; obtain ⟨hl, he, hno, h⟩ := h
    refine hGₕ ?_
    have hij' : i = j := by lia
    subst hij'
    wp_walk using AutoSeq1.wpAny_loadPart' hl
    have hi : items[((i : Nat) : Int).toNat]? = some items[i] := by simp [hj]
    rw [hi]
    refine wpAny_bind (he prog w _ _ ?_)
    have hz' : (items.eraseIdxIfInBounds i).size ≤ sizeLine + 1 := Nat.le_trans (MeetsSeq.size_erased items _) (Nat.le_succ_of_le hs1)
    wp_walk using (wpAny_updateSeq hl rfl (hz := hs1) (_hz' := hz')), AutoSeq1.wpAny_loadPart' hl
    simpa using h
  | succ k ih =>
    intro i hk hij prog w A R s h
    refine hide fun Gₕ hGₕ => ?_
    obtain ⟨hp, g, d, tk, os⟩ := s; obtain ⟨hl, he, hno, h⟩ := h
    refine hGₕ ?_
    have hlt : i < items.size := by lia
    wp_walk using AutoSeq1.wpAny_loadPart' hl
    have hi : items[((i : Nat) : Int).toNat]? = some items[i] := by simp [hlt]
    have hc : ((i : Int) + 1) = ((i + 1 : Nat) : Int) := by push_cast; rfl
    rw [hi]
    refine wpAny_bind (hno i hlt (by lia) prog w _ _ ?_)
    wp_walk
    rw [hc]
    exact ⟨plainId_quiet MeetsSeq.plain_remove_loop _, codeAny_builtin MeetsSeq.entry_remove_loop (by
      rw [Around.under_plainId MeetsSeq.plain_remove_loop _]
      exact ih (i + 1) (by lia) (by lia) prog w A R _ ⟨hl, he, hno, h⟩)⟩
theorem list_removeAt (l : Addr) (items : Array Value) (n : Nat) (x : Value) (j : Nat) (hj : j < items.size) (hs1 : items.size ≤ sizeLine) :
    Meets (Builtin.«list.remove» ⟨[.ref l, x], []⟩)
      (fun A R s => s.heap.get? l = some { cls := .type "list", dict := none, data := .seq items n, slots := #[] } ∧ EqAt A.in1 s items[j] x true ∧ (∀ m (hm : m < items.size), m < j → EqAt A.in1 s items[m] x false) ∧
        R (.ok (.ret .none)) { s with heap := s.heap.update l (Obj.mapSeq fun xs => xs.eraseIdxIfInBounds j) }) := by
  intro prog w A R s h
  refine hide fun Gₕ hGₕ => ?_
  obtain ⟨hp, g, d, tk, os⟩ := s; obtain ⟨hl, he, hno, h⟩ := h
  refine hGₕ ?_
  wp_walk using AutoSeq1.wpAny_loadPart' hl
  exact ⟨plainId_quiet MeetsSeq.plain_remove_loop _, codeAny_builtin MeetsSeq.entry_remove_loop (by
    rw [Around.under_plainId MeetsSeq.plain_remove_loop _]
    exact remove_at l items n x j hj hs1 _ 0 rfl (Nat.zero_le _) prog w A R _ ⟨hl, he, hno, h⟩)⟩
end
end
section
open PySem PySem.W PySem.W.X PyProof.Rows Builtin PySem.Calls PySem.SeqAt
set_option maxRecDepth 100000
set_option maxHeartbeats 4000000
section
variable {w : World} {A : Around} {E : Value → Shared → Prop} {g : PH} {s : Shared} {n : Nat}
theorem listU {l : Addr} {us : List Value} {Q : Value → Shared → Prop} (live : ∀ a o, g a = some o → s.heap.get? a = some o) (hl : s.heap.IsList l us.toArray) (hsz : us.length < 2 ^ 18)
    (h : ∀ a s', Stp N0 g g s s' → HpAt s'.heap a us → s.heap.get? a = none → Q (.ref a) s') : wpAny (model PG w) A (call (.type "list") [.ref l]) Q E s := by
  refine hide fun Gₕ hGₕ => ?_
  obtain ⟨o, ho, hc, m, hd⟩ := hl
  refine hGₕ ?_
  refine call_list_seq (hsz := by rw [List.size_toArray, sizeLine_eq]; lia) l (.inl rfl) ho hc hd fun h' c' hk hD => h _ _ ⟨fun _ _ e => e, fun _ _ e => .inl e, fun a p e => hk a p (live a p e), fun a p _ e => hk a p e, fun a p e => ⟨p, hk a p e⟩, rfl⟩ ⟨c', hD⟩ (get?_size _)
theorem intsEqAt {a b : Addr} {xs ys : List Int} (hR : Room A n) (live : ∀ a o, g a = some o → s.heap.get? a = some o) (hx : IntsAt g a xs) (hy : IntsAt g b ys) : EqAt A.in1 s (.ref a) (.ref b) (decide (xs = ys)) := by
  obtain ⟨_, r1⟩ := hx.reads live
  obtain ⟨_, r2⟩ := hy.reads live
  have := eqAt_reads (dI xs) (dI ys) A.in1 s _ _ _ _ r1 r2 (canI _) (canI _) (by
    have := hR.un
    show A.units + 1 + min (PyData.depthAll (xs.map PyData.int) + 1) (PyData.depthAll (ys.map PyData.int) + 1) < 9900
    rw [depI, depI]; lia)
  rw [eqvL] at this
  exact this
theorem hp_remove {tp b : Addr} {tv : List Value} {t : List (List Int)} {x : List Int} {Q : Value → Shared → Prop} (hR : Room A n) (live : ∀ a o, g a = some o → s.heap.get? a = some o) (ha : g tp = none) (hh : HpAt s.heap tp tv) (hall : All2 (IV g) tv t) (hb : IntsAt g b x) (hx : x ∈ t) (hz : tv.length < 2 ^ 18)
    (h : ∀ tv' s', Stp (At tp) g g s s' → HpAt s'.heap tp tv' → All2 (IV g) tv' (t.erase x) → Q .none s') : wpAny (model PG w) A (call (.builtin "list.remove") [.ref tp, .ref b]) Q E s := by
  refine hide fun Gₕ hGₕ => ?_
  obtain ⟨l1, l2, hno, rfl, her⟩ := List.exists_erase_eq hx
  obtain ⟨v1, v, v2, rfl, h1, ⟨c, rfl, hc⟩, h2⟩ := hall.split
  obtain ⟨m, e⟩ := hh
  refine hGₕ ?_
  have hl1 := h1.length
  have u := PySem.IsL.update (n := m) e (fun xs => xs.eraseIdxIfInBounds v1.length)
  have eq : (v1 ++ Value.ref c :: v2).toArray.eraseIdxIfInBounds v1.length = (v1 ++ v2).toArray := kl_erase v1 v2 _
  refine call_meets PySem.F.slot_list_remove ⟨_, e, rfl⟩ PySem.F.entry_list_remove (PySem.F.args_list_remove_2 _ _) (list_removeAt tp _ m (.ref b) v1.length (by simp) (by rw [List.size_toArray, sizeLine_eq]; lia)) ⟨e, ?_, fun j hj hlt => ?_, ?_⟩
  · have := intsEqAt hR live hc hb
    rw [decide_eq_true rfl] at this
    have e2 : (v1 ++ Value.ref c :: v2).toArray[v1.length]'(by simp) = .ref c := by simp
    rw [e2]; exact this
  · have hj1 : v1[j]? = some v1[j] := List.getElem?_eq_getElem hlt
    refine hide fun Gₕ hGₕ => ?_
    obtain ⟨y, hy, d, hd, hdy⟩ := h1.get hj1
    refine hGₕ ?_
    have := intsEqAt hR live hdy hb
    have hyx : ¬ y = x := fun z => hno (by rw [← z]; exact List.mem_of_getElem? hy)
    rw [decide_eq_false hyx] at this
    have e2 : (v1 ++ Value.ref c :: v2).toArray[j]'hj = .ref d := by
      rw [← hd]; simp [hlt]
    rw [e2]; exact this
  · rw [eq] at u
    refine h (v1 ++ v2) _ (hp_stp live ha (Heap.SameBut.update ..) ⟨_, u⟩) ⟨_, u⟩ ?_
    rw [her]; exact h1.append h2
theorem cmpF_sub : ∀ (a t : List (List Int)), a.Nodup → (∀ x ∈ a, x ∈ t) → cmpF a t = decide (a.foldl List.erase t = [])
  | [], t, _, _ => rfl
  | e :: es, t, hn, hs => by
    rw [List.nodup_cons] at hn
    unfold cmpF
    rw [if_pos (hs e List.mem_cons_self), List.foldl_cons]
    exact cmpF_sub es (t.erase e) hn.2 fun x hx => (List.mem_erase_of_ne (show x ≠ e from fun z => hn.1 (by rw [← z]; exact hx))).mpr (hs x (List.mem_cons_of_mem _ hx))
theorem foldl_erase_mem : ∀ (a t : List (List Int)) (x : List Int), x ∉ a → x ∈ t → x ∈ a.foldl List.erase t
  | [], t, x, _, h => h
  | e :: es, t, x, hn, h => by
    rw [List.foldl_cons]
    exact foldl_erase_mem es (t.erase e) x (fun z => hn (List.mem_cons_of_mem _ z)) ((List.mem_erase_of_ne (show x ≠ e from fun z => hn (by rw [z]; exact List.mem_cons_self))).mpr h)
theorem foldl_erase_len : ∀ (a t : List (List Int)), (a.foldl List.erase t).length ≤ t.length
  | [], t => Nat.le_refl _
  | e :: es, t => by
    rw [List.foldl_cons]
    have := foldl_erase_len es (t.erase e)
    have := List.length_erase_le (a := e) (l := t)
    lia
structure CmIc (xs ys : List (List Int)) (fv : List Value) (tp : Addr) (g2 : PH) (r : List (Value → Prop)) (gj : PH) (vsj : List (Str × Value)) (hj : Heap) (k : Nat) (tv : List Value) : Prop where
  p1 : k ≤ (ddS xs).length
  p2 : r = (fv.drop k).map (fun x v => v = x)
  p3 : HpAt hj tp tv
  p4 : gj = g2
  p5 : All2 (IV g2) tv (((ddS xs).take k).foldl List.erase (ddS ys))
  p6 : vsj.lookup ("t" : Str) = some (.ref tp)
noncomputable abbrev CmI (xs ys : List (List Int)) (fv : List Value) (tp : Addr) (g2 : PH) : List (Value → Prop) → PH → List (Str × Value) → Heap → Prop := fun r gj vsj hj => ∃ (k : Nat) (tv : List Value), CmIc xs ys fv tp g2 r gj vsj hj k tv
theorem cmp_call {a b : Addr} {xs ys : List (List Int)} {Q : Value → Shared → Prop} (live : ∀ a o, g a = some o → s.heap.get? a = some o) (hK : KIn w g) (hR : Room A (n + 2)) (hx : SetsAt g a xs) (hy : SetsAt g b ys) (hl1 : xs.length < 2 ^ 17) (hl2 : ys.length < 2 ^ 17) (hsub : ∀ x ∈ xs, x ∈ ys)
    (h : ∀ g' s', Stp N0 g g' s s' → Q (.bool (cmpArgs xs ys)) s') : wpAny (model PG w) A (call (.ref 80) [.ref a, .ref b]) Q E s := by
  refine fn_call (X := N0) (binds := [("first_args", .ref a), ("second_args", .ref b)]) live hK hR (f := 80) rfl (by kernel_rfl) rfl (Looks.of_pure (by rfl)) rfl (by kernel_rfl) (fun A' s₁ hR' _ B hlc => ?_) rfl rfl rfl
  refine wpAny_execs_cons (wpAny_Assign_Name (callFn B hK rfl rfl (f := 73) (by kernel_rfl) rfl (args_cons (name_ B rfl (.inl rfl) (args_nil ⟨⟨g, hK, B.live⟩, ?_⟩)))))
  refine du_call (n := n) B.live hK hR' hx hl1 fun fu g1 s2 st2 hfu => ?_
  have B2 := B.step st2
  have hK1 := hK.mono st2.le
  refine stl_ B2 rfl fun s3 B3 _ => ?_
  refine wpAny_execs_cons (wpAny_Assign_Name (callFn B3 hK1 rfl rfl (f := 73) (by kernel_rfl) rfl (args_cons (name_ B3 (lk_cons (by decide) rfl) (.inl rfl) (args_nil ⟨⟨g1, hK1, B3.live⟩, ?_⟩)))))
  refine du_call (n := n) B3.live hK1 hR' (hy.mono st2.le) hl2 fun su g2 s4 st4 hsu => ?_
  have B4 := B3.step st4
  have hK2 := hK1.mono st4.le
  refine stl_ B4 rfl fun s5 B5 _ => ?_
  obtain ⟨sv, hsl, hsa⟩ := hsu
  have hsn := hsa.length
  have hdy := ddS_len ys
  refine wpAny_execs_cons (wpAny_Assign_Name (callT1 B5 hK2 rfl rfl rfl (by kernel_rfl) (T := "list") (by kernel_rfl) (name_ B5 lk_self (.inl rfl) (listU B5.live (hsl.isList B5.live) (by lia) fun tp s6 st6 htp hn5 => ?_))))
  have B6 := B5.step st6
  have htL : tp ≠ s.heap.objs.size := fun z => by
    obtain ⟨o, ho⟩ := B5.domL
    rw [z] at hn5
    exact nomatch (show none = some o from hn5.symm.trans ho)
  have ht0 : s.heap.get? tp = none := by
    cases q : s.heap.get? tp with
    | none => rfl
    | some o => obtain ⟨o', ho'⟩ := B5.st.dom _ _ q; rw [ho'] at hn5; cases hn5
  have hgt : g2 tp = none := live_none B5.live hn5
  refine stl_ B6 rfl fun s7 B7 same7 => ?_
  have htp7 : HpAt s7.heap tp sv := htp.keep fun _ e => (same7.2 tp htL).trans e
  obtain ⟨fv, hfl, hfa⟩ := hfu.mono st4.le
  have hfn := hfa.length
  refine wpAny_execs_cons (wpAny_Try_except (wpAny_execs_cons (wpAny_For (name_ B7 (lk_cons (by decide) (lk_cons (by decide) rfl)) (.inl rfl) ?_))))
  refine pyIterU B7.live (hfl.isList B7.live) fun it s8 st8 hst hit => ?_
  have B8 := B7.step st8
  have hitL : it ≠ s.heap.objs.size := fun z => by
    obtain ⟨o, ho⟩ := B7.domL
    rw [z] at hit
    exact nomatch (show none = some o from hit.symm.trans ho)
  have hitn : tp ≠ it := fun z => by
    obtain ⟨_, e⟩ := htp7
    rw [z, hit] at e; cases e
  have hi0 : s.heap.get? it = none := by
    cases q : s.heap.get? it with
    | none => rfl
    | some o => obtain ⟨o', ho'⟩ := B7.st.dom _ _ q; rw [ho'] at hit; cases hit
  have hfun : fu ≠ tp := fun z => by
    obtain ⟨o, ho, _⟩ := hfl
    rw [z, hgt] at ho; cases ho
  refine for_loop (listSrc (w := w)) hR'.hd rfl
    (CmI xs ys fv tp g2)
    ?_ ?_ hi0 ?_ (fun x c hc => by cases hc) ?_ ?_ B8 hst (live_none B7.live hit) ?_
  · intro r gj vsj v hj hj' rᵢ1 kk
    refine hide fun Gₕ hGₕ => ?_
    obtain ⟨k, tv, q1, q2, q3, q4, q5, q6⟩ := rᵢ1
    refine hGₕ ?_
    exact ⟨k, tv, q1, q2, q3.keep fun o e => kk tp o hitn htL e, q4, q5, lk_cons (by decide) q6⟩
  · intro gj vsj hj hj' rᵢ2 kk
    refine hide fun Gₕ hGₕ => ?_
    obtain ⟨k, tv, q1, q2, q3, q4, q5, q6⟩ := rᵢ2
    refine hGₕ ?_
    exact ⟨k, tv, q1, q2, q3.keep fun o e => kk tp o hitn e, q4, q5, q6⟩
  · rintro (z | z)
    · exact hitL z.symm
    · obtain ⟨o, ho, _⟩ := hfl
      have hl := B7.offL
      rw [z, ho] at hl; cases hl
  · intro p rest v gj sj vsj hpv rᵢ3 Bj hgj hstj
    refine hide fun Gₕ hGₕ => ?_
    obtain ⟨k, tv, q1, q2, q3, rfl, q5, q6⟩ := rᵢ3
    refine hGₕ ?_
    rw [List.map_drop] at q2
    refine hide fun Gₕ hGₕ => ?_
    obtain ⟨hpp, hrest⟩ := drop_cons q2
    rw [List.getElem?_map, Option.map_eq_some_iff] at hpp
    obtain ⟨u, hu, rfl⟩ := hpp
    have hvu : v = u := hpv
    subst hvu
    obtain ⟨x, hxs, b2, rfl, hb⟩ := hfa.get hu
    refine hGₕ ?_
    have hk1 := (List.getElem?_eq_some_iff.mp hxs).1
    have htk : (ddS xs).take (k + 1) = (ddS xs).take k ++ [x] := by rw [List.take_add_one, hxs]; rfl
    have hxn : x ∉ (ddS xs).take k := fun hm => by
      have hnd := ddS_nodup xs
      obtain ⟨i, hi⟩ := List.mem_iff_getElem?.mp hm
      rw [List.getElem?_take] at hi
      split at hi
      · rename_i hik
        have l1 := (List.getElem?_eq_some_iff.mp hi).1
        have := List.getElem?_inj l1 hnd |>.mp (hi.trans hxs.symm)
        lia
      · cases hi
    have hxt : x ∈ ((ddS xs).take k).foldl List.erase (ddS ys) := foldl_erase_mem _ _ _ hxn ((ddS_mem ys x).mpr (hsub x ((ddS_mem xs x).mp (List.mem_of_getElem? hxs))))
    have htl := foldl_erase_len ((ddS xs).take k) (ddS ys)
    have hq5 := q5.length
    refine wpAny_execs_cons (wpAny_Expr (MethodCall_ (pl := ?_) (name_ Bj q6 (.inl rfl) ?_)))
    rotate_left
    refine getMethod_builtin q3.isList.typeIs PySem.F.plainAttrs_list PySem.F.slot_list_remove PySem.F.type_list_remove (fun a e => by cases e; obtain ⟨k, e⟩ := q3; exact ⟨_, e, rfl⟩) ?_
    refine callWith_builtin rfl (evalArgs_plain (args_cons (name_ Bj lk_self (.inl rfl) (args_nil ?_))))
    refine hp_remove hR' Bj.live hgt q3 q5 hb hxt (by lia) fun tv' so sto hho hall' => ?_
    have Bo := Bj.one sto ht0 htL (fun x c hc => by cases hc)
    refine wpAny_execs_nil ⟨gj, _, Bo, hgj, fun a o hF e => sto.keep a o (fun z => ?_) e, k + 1, tv', hk1, by rw [hrest, List.map_drop], hho, rfl, ?_, q6⟩
    · have z' : a = tp := z
      rcases hF with y | y
      · exact hitn (z'.symm.trans y)
      · exact hfun (y.symm.trans z')
    · rw [htk, List.foldl_append]; exact hall'
  · intro gj s' vsj Bj rᵢ4
    refine hide fun Gₕ hGₕ => ?_
    obtain ⟨k, tv, q1, q2, q3, rfl, q5, q6⟩ := rᵢ4
    refine hGₕ ?_
    have hkm : k = (ddS xs).length := by
      have : fv.drop k = [] := by
        cases q : fv.drop k with
        | nil => rfl
        | cons a b => rw [q] at q2; cases q2
      have := List.drop_eq_nil_iff.mp this
      lia
    subst hkm
    rw [List.take_length] at q5
    have hq5 := q5.length
    have htl := foldl_erase_len (ddS xs) (ddS ys)
    refine wpAny_execs_nil (wpAny_execs_nil (wpAny_execs_cons (wpAny_Return_some (UnaryOp_ (name_ Bj q6 (.inl rfl) (not_of (wpAny_truthy_list q3.isList (by rw [List.size_toArray]; lia) ?_)))))))
    have e : (!(!tv.toArray.isEmpty)) = cmpArgs xs ys := by
      unfold cmpArgs
      rw [cmpF_sub _ _ (ddS_nodup xs) fun x hx => (ddS_mem ys x).mpr (hsub x ((ddS_mem xs x).mp hx))]
      generalize (ddS xs).foldl List.erase (ddS ys) = z at q5
      cases tv with
      | nil => cases z with
        | nil => rfl
        | cons a b => exact q5.elim
      | cons a b => cases z with
        | nil => exact q5.elim
        | cons c d => simp
    show Q (.bool (!(!tv.toArray.isEmpty))) _
    rw [e]
    exact h _ _ ((Bj.tok _).tok _).st
  · exact ⟨0, sv, Nat.zero_le _, by simp, htp7.keep fun o e => st8.keep0 tp o e, rfl, by simpa using hsa, lk_self⟩
end
end
section
open PySem PySem.W PySem.W.X PyProof.Rows Builtin PySem.Calls PySem.SeqAt
set_option maxRecDepth 100000
set_option maxHeartbeats 4000000
section
variable {w : World} {A : Around} {E : Value → Shared → Prop} {g : PH} {s : Shared} {n : Nat} {env : Env}
/-- a slice of a list; l the list, vl, vu the bounds -/
theorem slice_k {value : Expr} {lower upper : Option Expr} {p : Pos} {l : Addr} {us : List Value} {vl vu : Value} {lo hi : Option Int} {Q : Value → Shared → Prop} (live : ∀ a o, g a = some o → s.heap.get? a = some o) (hl : s.heap.IsList l us.toArray) (hz : us.length < 2 ^ 18) (pl : IsPart vl lo) (pu : IsPart vu hi)
    (h : ∀ a g' s', Stp N0 g g' s s' → ListAt g' a (slicePick us.toArray lo hi none).toList → Q (.ref a) s') :
    wpAny (model PG w) A (subscriptTail value (.Slice lower upper none p) (.ref l) (.ref s.heap.objs.size)) Q E { s with heap := s.heap.push { cls := .type "slice", data := .fields #[vl, vu, .none] } } := by
  refine kba_turn (value' := PySem.Expr.Name (PySem.Str.ofString "x") ⟨0, 0, 0, 0⟩) (fun _ => rfl) ?_
  refine subscriptTail_ops (ops := [.ref s.heap.objs.size, .ref l]) (Heap.IsList.typeIs (s := { s with heap := s.heap.push { cls := .type "slice", data := .fields #[vl, vu, .none] } }) (hl.push _)) list_getitem_lookup
    (wpAny_getItem_list_slice (hl.push _) (Heap.IsSliceOf.new ..) pl pu .none (by simp) ?_ (by rw [List.size_toArray, sizeLine_eq]; lia)) (by with_unfolding_all rfl) (fun _ => rfl)
  have S1 : Stp N0 g g s { s with heap := s.heap.push { cls := .type "slice", data := .fields #[vl, vu, .none] } } := Stp.push0 live
  have S2 := Stp.alloc (X := N0) (o := { cls := .type "list", data := .seq (slicePick us.toArray lo hi none) }) S1.live rfl
  refine h _ _ _ (S1.trans S2) ⟨_, PH.put_self, rfl, 0, by simp⟩
theorem pick_upto (us : List Value) {y : Int} (h : 0 ≤ y) : (slicePick us.toArray none (some y) none).toList = us.take y.toNat := by
  have e : sliceBounds none (some y) none us.toArray.size = (((0 : Nat) : Int), ((min y.toNat us.toArray.size : Nat) : Int), 1) := by
    simp only [sliceBounds, Option.getD_none, show (1 : Int) > 0 by decide, if_true, if_neg (show ¬ (y < 0) by lia)]
    congr 1
    congr 1
    lia
  rw [kmk_pick_nat _ e]
  show (us.drop 0).take (min y.toNat us.toArray.size - 0) = _
  rw [List.drop_zero, Nat.sub_zero, List.size_toArray, kmk_take_min]
theorem pick_from (us : List Value) {x : Int} (h : 0 ≤ x) : (slicePick us.toArray (some x) none none).toList = us.drop x.toNat := by
  have e : sliceBounds (some x) none none us.toArray.size = (((min x.toNat us.toArray.size : Nat) : Int), ((us.toArray.size : Nat) : Int), 1) := by
    simp only [sliceBounds, Option.getD_none, show (1 : Int) > 0 by decide, if_true, if_neg (show ¬ (x < 0) by lia)]
    congr 1
    lia
  rw [kmk_pick_nat _ e]
  show (us.drop (min x.toNat us.toArray.size)).take (us.toArray.size - min x.toNat us.toArray.size) = _
  rw [List.size_toArray, kmk_drop_min, List.take_of_length_le (by rw [List.length_drop]; lia)]
end
/-- the drawn numbers, and those that fill up -/
noncomputable def drawnF (ns : List Int) : List Int := (ns.take 5).map fun x => x % 192
noncomputable def fillF (ns : List Int) : List Int := drawnF ns ++ ([68, 70, 174, 67, 137] : List Int).drop (drawnF ns).length
theorem drawnF_len (ns : List Int) : (drawnF ns).length ≤ 5 := by unfold drawnF; rw [List.length_map, List.length_take]; lia
theorem fillF_len (ns : List Int) : (fillF ns).length = 5 := by
  have := drawnF_len ns
  unfold fillF
  rw [List.length_append, List.length_drop]
  simp; lia
theorem fillF_range (ns : List Int) : ∀ x ∈ fillF ns, 0 ≤ x ∧ x < 192 := by
  intro x hx
  unfold fillF at hx
  rcases List.mem_append.mp hx with h | h
  · obtain ⟨y, _, rfl⟩ := List.mem_map.mp h; lia
  · have := List.mem_of_mem_drop h
    simp at this; lia
noncomputable def rowsF (ns : List Int) : List (List Int) := (fillF ns).map rowOf
theorem rowOf_len {x : Int} (h : 0 ≤ x ∧ x < 192) : (rowOf x).length ≤ 3 := by
  unfold rowOf
  have := dd_len ((List.range (1 + x / 64).toNat).map fun k => x / 4 ^ k % 4)
  rw [List.length_map, List.length_range] at this
  lia
theorem rowsF_len (ns : List Int) : (rowsF ns).length = 5 := by unfold rowsF; rw [List.length_map, fillF_len]
theorem rowsF_GL (ns : List Int) : ∀ r ∈ rowsF ns, GL r := fun r hr => by obtain ⟨x, _, rfl⟩ := List.mem_map.mp hr; exact rowOf_GL x
theorem rowsF_item (ns : List Int) : ∀ r ∈ rowsF ns, r.length ≤ 3 := fun r hr => by obtain ⟨x, hx, rfl⟩ := List.mem_map.mp hr; exact rowOf_len (fillF_range ns x hx)
theorem nodup_len : ∀ (xs R : List Int), xs.Nodup → (∀ x ∈ xs, x ∈ R) → xs.length ≤ R.length
  | [], _, _, _ => Nat.zero_le _
  | x :: xs, R, hn, hs => by
    rw [List.nodup_cons] at hn
    have hx := hs x List.mem_cons_self
    have := nodup_len xs (R.erase x) hn.2 fun y hy => (List.mem_erase_of_ne (show y ≠ x from fun z => hn.1 (by rw [← z]; exact hy))).mpr (hs y (List.mem_cons_of_mem _ hy))
    rw [List.length_erase_of_mem hx] at this
    have h0 : 0 < R.length := List.length_pos_of_mem hx
    rw [List.length_cons]; lia
theorem BL.len16 {rows meet : List (List Int)} (B : BL rows meet) : meet.length ≤ 16 := by
  have := nodup_len (numbersF meet) ((List.range 16).map Int.ofNat) B.nums_nodup fun n hn => by
    obtain ⟨x, hx, rfl⟩ := (B.nums n).mp hn
    exact (mem_range16 _).mpr (numF_range hx.1)
  simpa [numbersF] using this
end
section
open PySem PySem.W PySem.W.X PyProof.Rows Builtin PySem.Calls PySem.SeqAt
set_option maxRecDepth 100000
set_option maxHeartbeats 4000000
section
variable {w : World} {A : Around} {E : Value → Shared → Prop} {X : Addr → Prop} {g₀ g : PH} {s₀ s : Shared} {env : Env} {vs : List (Str × Value)}
/-- some objects, none of them known nor old, have turned -/
theorem Blk.moved {M : Addr → Prop} {gi : PH} {si : Shared} {h' : Heap} {tk : Nat} (B : Blk X g₀ s₀ env gi si vs) (hs : ∀ a o, ¬ M a → si.heap.get? a = some o → h'.get? a = some o) (hg : ∀ a, M a → gi a = none) (h0 : ∀ a, M a → s₀.heap.get? a = none)
    (hL : ¬ M env.locals) (hC : ∀ x c, env.cells.lookup x = some c → ¬ M c) : Blk X g₀ s₀ env gi { si with heap := h', toks := tk } vs := by
  refine ⟨⟨B.st.le, B.st.new, fun a o e => hs a o (fun z => by rw [hg a z] at e; cases e) (B.live a o e), fun a o hx e => hs a o (fun z => by rw [h0 a z] at e; cases e) (B.st.keep a o hx e), fun a o e => ?_, ?_⟩,
    B.ea.keepsBut (X := M) (fun a o hn e => hs a o hn e) hL (fun x c hc => hC x c hc), B.offL, B.lowL, B.offC⟩
  · obtain ⟨o', ho'⟩ := B.st.dom a o e
    exact ⟨o', hs a o' (fun z => by rw [h0 a z] at e; cases e) ho'⟩
  · rw [B.st.rest]
structure ZS (z TI TO i1 i2 l1 l2 : Addr) (xs ys : List Value) (h : Heap) (j : Nat) : Prop where
  hz : IsZip h z TI TO .none
  hTI : IsPair h TI (.ref i1) (.ref i2)
  hTO : ∃ a b, IsPair h TO a b
  h1 : h.IsListIter i1 l1 j
  h2 : h.IsListIter i2 l2 j
  hl1 : h.IsList l1 xs.toArray
  hl2 : h.IsList l2 ys.toArray
theorem ZS.keep {z TI TO i1 i2 l1 l2 : Addr} {xs ys : List Value} {h h' : Heap} {j : Nat} (Z : ZS z TI TO i1 i2 l1 l2 xs ys h j)
    (hk : ∀ a o, (a = z ∨ a = TI ∨ a = TO ∨ a = i1 ∨ a = i2 ∨ a = l1 ∨ a = l2) → h.get? a = some o → h'.get? a = some o) : ZS z TI TO i1 i2 l1 l2 xs ys h' j := by
  refine hide fun Gₕ hGₕ => ?_
  obtain ⟨hz, hTI, ⟨a, b, hTO⟩, h1, h2, hl1, hl2⟩ := Z
  refine hGₕ ?_
  exact ⟨hk z _ (by simp) hz, hk TI _ (by simp) hTI, ⟨a, b, hk TO _ (by simp) hTO⟩, h1.at fun o e => hk i1 o (by simp) e, h2.at fun o e => hk i2 o (by simp) e,
      hl1.at fun o e => hk l1 o (by simp) e, hl2.at fun o e => hk l2 o (by simp) e⟩
theorem not_loc {gi : PH} {si : Shared} {a : Addr} {o : Obj} (B : Blk X g₀ s₀ env gi si vs) (ho : si.heap.get? a = some o) (hd : ∀ es ep, o.data ≠ .dict es ep) : a ≠ env.locals := fun z => by
  refine hide fun Gₕ hGₕ => ?_
  obtain ⟨m, ⟨o2, es, ep, ho2, hdt, _⟩, _⟩ := B.ea.loc
  refine hGₕ ?_
  rw [← z, ho] at ho2; cases ho2
  exact hd _ _ hdt
theorem not_cell {gi : PH} {si : Shared} {a : Addr} {o : Obj} (B : Blk X g₀ s₀ env gi si vs) (ho : si.heap.get? a = some o) (hd : ∀ v, o.data ≠ .cell v) : ∀ x c, env.cells.lookup x = some c → c ≠ a := fun x c hc z => by
  refine hide fun Gₕ hGₕ => ?_
  obtain ⟨v, ⟨o2, ho2, hdt⟩, _⟩ := B.ea.cell x c hc
  refine hGₕ ?_
  rw [z, ho] at ho2; cases ho2
  exact hd _ hdt

structure ZIc (g : PH) (s : Shared) (scope : Scope) (cenv : Env) (vs : List (Str × Value)) (z TI TO i1 i2 l1 l2 : Addr) (xv yv : List Value) (xss : List (List Int)) (num : List Int → Int) (f : Int → Bool) (acc : Addr) (n : Nat) (s' : Shared) (j : Nat) (out : List Value) (gi : PH) (vsi : List (Str × Value)) : Prop where
  p1 : n = xss.length - j
  p2 : j ≤ xss.length
  p3 : Blk N0 g s cenv gi s' vsi
  p4 : (∀ y, scope.names.lookup y = some .free → vsi.lookup y = vs.lookup y)
  p5 : ZS z TI TO i1 i2 l1 l2 xv yv s'.heap j
  p6 : s'.heap.IsList acc out.toArray
  p7 : gi acc = none
  p8 : gi z = none
  p9 : gi TO = none
  p10 : gi i1 = none
  p11 : gi i2 = none
  p12 : All2 (IV gi) out ((xss.take j).filter fun x => f (num x))
theorem comp_den {e : Expr} {d : Nat} {it acc : Value} {cenv : Env} {Q : Fin → Shared → Prop} (hfrm : (Code.compLoop e d it acc cenv).isFrame = false) (hwt : (Code.compLoop e d it acc cenv).weight = 0) (hcu : (Code.compLoop e d it acc cenv).cUnits = 0)
    (h : wpAny (model PG w) A (compTurn e d it acc cenv) Q EF s) : wpAny (model PG w) (A.under (Code.compLoop e d it acc cenv)) ((model PG w).den (Code.compLoop e d it acc cenv)) Q E s := by
  show wpAny _ _ (if (Code.compLoop e d it acc cenv).isFrame = true then _ else (compTurn e d it acc cenv).onRaise (fun x => do noteFrame x cenv; theTreesLotGoes x)) _ _ s
  rw [hfrm, if_neg Bool.false_ne_true]
  rw [Around.under_of_weight hwt hcu]
  exact wpAny_noted (wpEF h)
/-- «[row for row, number in zip(rows, numbers) if ..]» -/
theorem comp_zip {iter c : Expr} {xa xb : Str} {pa pb pt pe : Pos} {kt : Nat} {scope : Scope} {pos : Pos} {l1 l2 : Addr} {xss : List (List Int)} (num : List Int → Int) (f : Int → Bool)
    (hh : A.handled = none) (h1 : SetsAt g l1 xss) (h2 : IntsAt g l2 (xss.map num)) (live : ∀ a o, g a = some o → s.heap.get? a = some o) (hlen : xss.length < 2 ^ 19) (hab : xa ≠ xb)
    (hxa : scope.names.lookup xa ≠ some .free) (hxb : scope.names.lookup xb ≠ some .free)
    (hka : ∀ L, (compEnv scope env L).kindOf xa = some .local) (hkb : ∀ L, (compEnv scope env L).kindOf xb = some .local)
    (hit : ∀ Q' : Value → Shared → Prop, (∀ s₁, Stp N0 g g s s₁ → wpAny (model PG w) A (call (.type "zip") [.ref l1, .ref l2]) Q' E s₁) → wpAny (model PG w) A (eval iter env) Q' E s)
    (hc : ∀ L va t (i : Int) gi si vs', Blk N0 g s (compEnv scope env L) gi si ((xb, .int i t) :: (xa, va) :: vs') → (∀ y, scope.names.lookup y = some .free → vs'.lookup y = vs.lookup y) →
      wpAny (model PG w) A (isTrue c (compEnv scope env L) (eval c (compEnv scope env L))) (KTst gi si (f i)) EF si)
    (hd : (xa == ("__debug__" : Str)) = false := by decide) (hcd : (xa == ("__classdict__" : Str)) = false := by decide) :
    CompOK w A E (.Name xa pe) (.Tuple [.Name xa pa, .Name xb pb] kt pt) iter [c] [] scope pos env g s vs (fun out g' => All2 (IV g') out (xss.filter fun x => f (num x))) := by
  refine hide fun Gₕ hGₕ => ?_
  obtain ⟨xv, hx1, hx2⟩ := h1
  obtain ⟨yv, hy1, hy2⟩ := h2
  refine hGₕ ?_
  have hxn := hx2.length
  have hyn := hy2.length
  rw [List.length_map] at hyn
  refine hit _ fun s₁ st1 => ?_
  have G1 := hx1.isList st1.live
  have G2 := hy1.isList st1.live
  have lt1 : @LT.lt Nat _ l1 s₁.heap.objs.size := by obtain ⟨_, e, _⟩ := G1; exact Heap.lt_size e
  have lt2 : @LT.lt Nat _ l2 s₁.heap.objs.size := by obtain ⟨_, e, _⟩ := G2; exact Heap.lt_size e
  have nw : ∀ a, @LE.le Nat _ s₁.heap.objs.size a → s.heap.get? a = none := fun a ha => by
    cases q : s.heap.get? a with
    | none => rfl
    | some o => have := lt_sz (st1.keep0 _ o q); exact absurd this (Nat.not_lt.mpr ha)
  refine call_zip_2 G1 G2 fun h' hz hTI hTO hi1 hi2 hsz hk => ?_
  have D := zipApart_new lt1 lt2
  have e0 := nw s₁.heap.objs.size (Nat.le_refl _)
  have e1 := nw (s₁.heap.objs.size + 1) (Nat.le_add_right _ 1)
  have e3 := nw (s₁.heap.objs.size + 3) (Nat.le_add_right _ 3)
  have e4 := nw (s₁.heap.objs.size + 4) (Nat.le_add_right _ 4)
  have Z0 : ZS (s₁.heap.objs.size + 4) (s₁.heap.objs.size + 2) (s₁.heap.objs.size + 3) s₁.heap.objs.size (s₁.heap.objs.size + 1) l1 l2 xv yv h' 0 :=
    ⟨hz, hTI, ⟨_, _, hTO⟩, hi1, hi2, G1.at fun o e => hk _ o e, G2.at fun o e => hk _ o e⟩
  have st2 : Stp N0 g g s { s₁ with heap := h' } := ⟨fun _ _ e => e, fun _ _ e => .inl e, fun a o e => hk a o (st1.live a o e), fun a o _ e => hk a o (st1.keep0 a o e), fun a o e => ⟨o, hk a o (st1.keep0 a o e)⟩, by rw [st1.rest]⟩
  clear hz hTI hTO hi1 hi2 hk hsz nw
  revert D e0 e1 e3 e4 Z0
  generalize s₁.heap.objs.size + 4 = z
  generalize s₁.heap.objs.size + 2 = TI
  generalize s₁.heap.objs.size + 3 = TO
  generalize s₁.heap.objs.size + 1 = i2
  generalize s₁.heap.objs.size = i1
  intro D e0 e1 e3 e4 Z0
  have gn : ∀ a, s.heap.get? a = none → g a = none := fun a => live_none live
  refine wpAny_pyIter_zip Z0.hz ⟨z, fun a => a = z ∨ a = TI ∨ a = TO ∨ a = i1 ∨ a = i2 ∨ a = l1 ∨ a = l2, fun _ h => ZS z TI TO i1 i2 l1 l2 xv yv h 0, [], g, rfl, ⟨.inl rfl, ?_, fun _ _ _ Z k => Z.keep fun a o ha e => k a o ha e, fun A Q E s _ Z h => wpAny_pyIter_zip Z.hz h⟩, Z0, st2, e4, gn _ e4, fun acc L s₃ cs blk Z3 hl3 ha3 => ?_⟩
  · rintro _ h a Z ha
    refine hide fun Gₕ hGₕ => ?_
    obtain ⟨a1, a2, ⟨_, _, a3⟩, ⟨_, a4, _⟩, ⟨_, a5, _⟩, ⟨_, a6, _⟩, ⟨_, a7, _⟩⟩ := Z
    refine hGₕ ?_
    rcases ha with rfl | rfl | rfl | rfl | rfl | rfl | rfl
    · exact ⟨_, a1⟩
    · exact ⟨_, a2⟩
    · exact ⟨_, a3⟩
    · exact ⟨_, a4⟩
    · exact ⟨_, a5⟩
    · exact ⟨_, a6⟩
    · exact ⟨_, a7⟩
  · have cL : ∀ a, (a = z ∨ a = TI ∨ a = TO ∨ a = i1 ∨ a = i2 ∨ a = l1 ∨ a = l2) → a ≠ (compEnv scope env L).locals := fun a ha z => cs.LF (z ▸ ha)
    have cA : ∀ a, (a = z ∨ a = TI ∨ a = TO ∨ a = i1 ∨ a = i2 ∨ a = l1 ∨ a = l2) → a ≠ acc := fun a ha z => cs.accF (z ▸ ha)
    refine codeAny_loop rfl (fun n s' => ∃ j out gi vsi, ZIc g s scope (compEnv scope env L) vs z TI TO i1 i2 l1 l2 xv yv xss num f acc n s' j out gi vsi) ?_ xss.length ⟨0, [], g, _, rfl, Nat.zero_le _, blk, fun y hy => by rw [lookup_freeVs, hy]; rfl, Z3, hl3, ha3, gn _ e4, gn _ e3, gn _ e0, gn _ e1, by simp; trivial⟩
    intro n si rᵢ1
    refine hide fun Gₕ hGₕ => ?_
    obtain ⟨j, out, gi, vsi, rfl, hj, B, hv, Z, hl, ha, gz, gTO, gi1, gi2, hout⟩ := rᵢ1
    refine hGₕ ?_
    refine comp_den rfl rfl rfl ?_
    rw [compTurn_if]
    refine wpAny_bind (wpAny_standAt (wpAny_bind ?_))
    have M4 : ∀ a, (a = z ∨ a = TO ∨ a = i1 ∨ a = i2) → gi a = none ∧ s.heap.get? a = none ∧ a ≠ (compEnv scope env L).locals ∧ a ≠ acc := by
      rintro a (rfl | rfl | rfl | rfl)
      · exact ⟨gz, e4, cL _ (by simp), cA _ (by simp)⟩
      · exact ⟨gTO, e3, cL _ (by simp), cA _ (by simp)⟩
      · exact ⟨gi1, e0, cL _ (by simp), cA _ (by simp)⟩
      · exact ⟨gi2, e1, cL _ (by simp), cA _ (by simp)⟩
    have M4c : ∀ y c, (compEnv scope env L).cells.lookup y = some c → ¬ (c = z ∨ c = TO ∨ c = i1 ∨ c = i2) := by
      refine hide fun Gₕ hGₕ => ?_
      obtain ⟨a1, a2, ⟨_, _, a3⟩, ⟨o4, a4, b4, d4⟩, ⟨o5, a5, b5, d5⟩, _, _⟩ := Z
      refine hGₕ ?_
      rintro y c hc (rfl | rfl | rfl | rfl)
      · exact not_cell B a1 (fun v h => nomatch h) y _ hc rfl
      · exact not_cell B a3 (fun v h => nomatch h) y _ hc rfl
      · exact not_cell B a4 (fun v h => by rw [d4] at h; cases h) y _ hc rfl
      · exact not_cell B a5 (fun v h => by rw [d5] at h; cases h) y _ hc rfl
    by_cases hjn : j = xss.length
    · refine wpAny_pyNext_zip_end hh D Z.hz Z.hTI Z.hTO.choose_spec.choose_spec Z.h1 Z.h2 Z.hl1 Z.hl2 (.inl (by simp; lia)) fun h' hk => wpAny_pure ?_
      refine ⟨rfl, out, gi, vsi, ?_, ?_, ha, ?_⟩
      · obtain ⟨o, ho, r'⟩ := hl
        exact ⟨o, hk _ _ (fun e => (M4 acc (.inl e)).2.2.2 rfl) (fun e => (M4 acc (.inr (.inl e))).2.2.2 rfl) (fun e => (M4 acc (.inr (.inr (.inl e)))).2.2.2 rfl) (fun e => (M4 acc (.inr (.inr (.inr e)))).2.2.2 rfl) ho, r'⟩
      · exact B.moved (M := fun a => a = z ∨ a = TO ∨ a = i1 ∨ a = i2) (tk := si.toks) (fun a o hn e => hk a o (fun q => hn (.inl q)) (fun q => hn (.inr (.inl q))) (fun q => hn (.inr (.inr (.inl q)))) (fun q => hn (.inr (.inr (.inr q)))) e) (fun a h => (M4 a h).1) (fun a h => (M4 a h).2.1) (fun h => (M4 _ h).2.2.1 rfl) M4c
      · rw [hjn, List.take_length] at hout; exact hout
    · have hjl : j < xss.length := by lia
      refine hide fun Gₕ hGₕ => ?_
      obtain ⟨x, hx⟩ : ∃ x, xss[j]? = some x := ⟨_, List.getElem?_eq_getElem hjl⟩
      obtain ⟨u, hu⟩ : ∃ u, xv[j]? = some u := ⟨_, List.getElem?_eq_getElem (by lia)⟩
      obtain ⟨y, hy⟩ : ∃ y, yv[j]? = some y := ⟨_, List.getElem?_eq_getElem (by lia)⟩
      obtain ⟨x', hx', hiv⟩ := hx2.get hu
      rw [hx] at hx'
      obtain rfl := Option.some.inj hx'
      obtain ⟨i', hi', t, rfl⟩ := hy2.get hy
      rw [List.getElem?_map, hx] at hi'
      obtain rfl := Option.some.inj hi'
      obtain ⟨ta, tb, hTO⟩ := Z.hTO
      refine hGₕ ?_
      refine wpAny_pyNext_zip_item D Z.hz Z.hTI hTO Z.h1 Z.h2 Z.hl1 Z.hl2 (by simpa using hu) (by simpa using hy) fun h₁ a1 a2 a3 a4 a5 a6 hk => ?_
      have B1 := B.moved (M := fun a => a = z ∨ a = TO ∨ a = i1 ∨ a = i2) (tk := si.toks) (fun a o hn e => hk a o (fun q => hn (.inl q)) (fun q => hn (.inr (.inl q))) (fun q => hn (.inr (.inr (.inl q)))) (fun q => hn (.inr (.inr (.inr q)))) e) (fun a h => (M4 a h).1) (fun a h => (M4 a h).2.1) (fun h => (M4 _ h).2.2.1 rfl) M4c
      have hl1 : h₁.IsList acc out.toArray := by
        obtain ⟨o, ho, r'⟩ := hl
        exact ⟨o, hk _ _ (fun e => (M4 acc (.inl e)).2.2.2 rfl) (fun e => (M4 acc (.inr (.inl e))).2.2.2 rfl) (fun e => (M4 acc (.inr (.inr (.inl e)))).2.2.2 rfl) (fun e => (M4 acc (.inr (.inr (.inr e)))).2.2.2 rfl) ho, r'⟩
      have hTI1 := hk _ _ D.TIz D.TITO D.TIi1 D.TIi2 Z.hTI
      have hm1 := Z.hl1.at fun o e => hk _ o D.l1z D.l1TO D.l1i1 D.l1i2 e
      have hm2 := Z.hl2.at fun o e => hk _ o D.l2z D.l2TO D.l2i1 D.l2i2 e
      have hzlt : @LT.lt Nat _ z si.heap.objs.size := Heap.lt_size Z.hz
      clear hk
      revert a1 a5 a6
      generalize si.heap.objs.size = T at hzlt
      intro a1 a5 a6
      refine wpAny_bind (wpAny_letOwnedTupleGo_zip a1 fun h₂ b1 b2 => ?_)
      have B2 := B1.moved (h' := h₂) (M := fun a => a = z) (tk := si.toks) (fun a o hn e => b2.extBut a o hn e) (fun a h => h ▸ gz) (fun a h => h ▸ e4) (fun h => cL _ (.inl rfl) h.symm) (fun y c hc h => M4c y c hc (.inl h))
      have Z2 : ZS z TI TO i1 i2 l1 l2 xv yv h₂ (j + 1) := ⟨b1, b2.extBut _ _ D.TIz hTI1, ⟨_, _, b2.extBut _ _ D.TOz a2⟩, a3.extBut b2.extBut D.i1z, a4.extBut b2.extBut D.i2z, hm1.extBut b2.extBut D.l1z, hm2.extBut b2.extBut D.l2z⟩
      have hl2 : h₂.IsList acc out.toArray := by
        obtain ⟨o, ho, r'⟩ := hl1
        exact ⟨o, b2.extBut _ _ (fun e => (M4 acc (.inl e)).2.2.2 rfl) ho, r'⟩
      have hT2 := b2.extBut _ _ (Nat.ne_of_gt hzlt) a5
      clear a1 a2 a3 a4 a5 a6 b1 b2 hl1 hTI1 hm1 hm2 B1
      refine wpAny_bind (wpAny_assign_Tuple hh ⟨_, hT2, rfl, _, rfl⟩ rfl rfl fun h₃ hx3 => ?_)
      have k3 : ∀ a o, h₂.get? a = some o → h₃.get? a = some o := fun a o e => hx3 a o (Nat.ne_of_lt (Heap.lt_size e)) e
      have B3 := B2.moved (h' := h₃) (M := fun _ => False) (tk := si.toks) (fun a o _ e => k3 a o e) (fun a h => h.elim) (fun a h => h.elim) (fun h => h) (fun y c hc h => h)
      have Z3 := Z2.keep fun a o _ e => k3 a o e
      have hl3 : h₃.IsList acc out.toArray := let ⟨o, ho, r'⟩ := hl2; ⟨o, k3 _ _ ho, r'⟩
      clear hx3 k3 hT2 hl2 Z2 B2
      show wpAny _ A (do holding [.int (num x) t] (assign (.Name xa pa) (compEnv scope env L) u); do holding [] (assign (.Name xb pb) (compEnv scope env L) (.int (num x) t)); pure ()) _ _ _
      refine wpAny_bind (wpAny_holding (wpAny_assign_Name (st_ B3 (.inl (hka L)) fun s4 B4 ch4 => wpAny_bind (wpAny_holding (wpAny_assign_Name (st_ B4 (.inl (hkb L)) fun s5 B5 ch5 => wpAny_pure ?_))))))
      have k5 : ∀ a o, a ≠ (compEnv scope env L).locals → h₃.get? a = some o → s5.heap.get? a = some o := fun a o hn e => by
        rcases ch4 with ⟨_, q4⟩ | ⟨q4, _⟩
        · rcases ch5 with ⟨_, q5⟩ | ⟨q5, _⟩
          · exact (q5.2 a hn).trans ((q4.2 a hn).trans e)
          · rw [hkb L] at q5; cases q5
        · rw [hka L] at q4; cases q4
      have Z5 := Z3.keep fun a o ha e => k5 a o (cL a ha) e
      have hl5 : s5.heap.IsList acc out.toArray := let ⟨o, ho, r'⟩ := hl3; ⟨o, k5 _ _ cs.accL ho, r'⟩
      clear k5 ch4 ch5 Z3 hl3 B3
      have hv5 : ∀ y, scope.names.lookup y = some .free → ((xb, .int (num x) t) :: (xa, u) :: vsi).lookup y = vs.lookup y := fun y hy => by
        rw [List.lookup_cons, List.lookup_cons]
        have y1 : y ≠ xb := fun z => hxb (z ▸ hy)
        have y2 : y ≠ xa := fun z => hxa (z ▸ hy)
        have y1' : (y == xb) = false := by simpa using y1
        have y2' : (y == xa) = false := by simpa using y2
        rw [y1', y2']; exact hv y hy
      have hxu : ((xb, Value.int (num x) t) :: (xa, u) :: vsi).lookup xa = some u := by
        rw [List.lookup_cons, List.lookup_cons]
        have y1' : (xa == xb) = false := by simpa using hab
        rw [y1']; simp
      refine wpAny_bind (wpAny_bind (wpAny_mono (hc L u t (num x) gi s5 vsi B5 hv) (fun b s6 h6 => ?_) fun _ _ q => q))
      obtain ⟨g6, st6, hb⟩ := h6
      have off6 : ∀ a, gi a = none → (∃ o, s5.heap.get? a = some o) → g6 a = none := fun a h1 h2 => off_of st6 h1 h2
      have Z6 := Z5.keep fun a o _ e => st6.keep0 a o e
      have hacc6 := off6 acc ha (let ⟨o, ho, _⟩ := hl5; ⟨o, ho⟩)
      have q1 := off6 z gz ⟨_, Z5.hz⟩
      have q2 := off6 TO gTO ⟨_, Z5.hTO.choose_spec.choose_spec⟩
      have q3 := off6 i1 gi1 (let ⟨o, ho, _⟩ := Z5.h1; ⟨o, ho⟩)
      have q4 := off6 i2 gi2 (let ⟨o, ho, _⟩ := Z5.h2; ⟨o, ho⟩)
      have hl6 : s6.heap.IsList acc out.toArray := let ⟨o, ho, r'⟩ := hl5; ⟨o, st6.keep0 _ _ ho, r'⟩
      have B6 := B5.step st6
      have hout6 : All2 (IV g6) out ((xss.take j).filter fun x => f (num x)) := hout.mono fun _ _ z => z.mono st6.le
      have hiv6 : IV g6 u x := hiv.mono fun a o e => st6.le a o (B.st.le a o e)
      have htk : (xss.take (j + 1)).filter (fun x => f (num x)) = (xss.take j).filter (fun x => f (num x)) ++ if f (num x) then [x] else [] := take_succ_filter (fun x => f (num x)) hx
      have hlo : out.length < 2 ^ 20 := by
        have h1 := hout.length
        have h2 : ((xss.take j).filter fun x => f (num x)).length ≤ (xss.take j).length := List.length_filter_le ..
        simp at h2
        lia
      cases b with
      | false =>
        refine wpAny_pure (wpAny_pure ⟨rfl, _, ?_, j + 1, out, g6, _, rfl, hjl, B6, hv5, Z6, hl6, hacc6, q1, q2, q3, q4, ?_⟩)
        · lia
        · rw [htk, ← hb]; simpa using hout6
      | true =>
        refine wpAny_bind (name_ B6 hxu (.inl (hka L)) (wpAny_bind (append_ (u := u) B6.live hl6 hacc6 hlo fun s7 st7 hl7 => wpAny_pure (wpAny_pure ?_))) hcd hd)
        refine ⟨rfl, _, ?_, j + 1, out ++ [u], g6, _, rfl, hjl, B6.afterAcc cs st7, hv5, Z6.keep fun a o ha e => st7.keep a o (cA a ha) e, hl7, hacc6, q1, q2, q3, q4, ?_⟩
        · lia
        · rw [htk, ← hb, if_pos rfl]; exact hout6.snoc hiv6
theorem callT2 {M : Model} {x : Str} {p pos : Pos} {e e' : Expr} {T : String} {Q : Value → Shared → Prop} (B : Blk X g₀ s₀ env g s vs) (hK : KIn w g) (hk : env.kindOf x = some .globalImplicit) (hg : env.globals = mainGlobals) (hb : env.builtins = builtinsNs)
    (e1 : nsIn (K2 w.params) mainGlobals x = some none) (e2 : bootBuiltins x = some (.type T))
    (h : wpAny M A (eval e env) (fun v s₁ => wpAny M A (eval e' env) (fun v' s₂ => wpAny M A (call (.type T) [v, v']) Q E s₂) E s₁) E s)
    (hd : (x == ("__debug__" : Str)) = false := by decide) (hne : (x == ("__name__" : Str)) = false := by decide) (hs : starEach [e, e'] env = [(false, eval e env), (false, eval e' env)] := by rfl) :
    wpAny M A (eval (.Call (.Name x p) [e, e'] [] pos) env) Q E s :=
  Call_Name2 (nameB B hK hk hg hb e1 e2 (PySem.callWith_type (pos := pos) (first := []) rfl (evalArgs_plain (spliced_cons (wpAny_mono h (fun _ _ h₁ => spliced_cons (wpAny_mono h₁ (fun _ _ h₂ => spliced_nil h₂) fun _ _ e => e)) fun _ _ e => e)))) hd hne) hs
end
end
section
open PySem PySem.W PySem.W.X PyProof.Rows Builtin PySem.Calls PySem.SeqAt
set_option maxRecDepth 100000
set_option maxHeartbeats 4000000
section
variable {w : World} {A : Around} {E : Value → Shared → Prop} {g gi gj : PH} {s si sj : Shared} {n : Nat} {env : Env} {vs vs' : List (Str × Value)}
/-- a step that turns tables, within a block that may -/
theorem Blk.tabs (B : Blk (TabX g s) g s env gi si vs) (S : Stp (TabX gi si) gi gj si sj) : Blk (TabX g s) g s env gj sj vs := by
  refine B.stepX S (fun a ha => ?_) (fun z => ?_) fun x c hc z => ?_
  · by_cases q : TabX g s a
    · exact .inl q
    · cases e : s.heap.get? a with
      | none => exact .inr rfl
      | some o =>
        refine absurd ⟨?_, ?_⟩ q
        · cases q2 : g a with
          | none => rfl
          | some o2 => have := B.st.le _ _ q2; rw [ha.1] at this; cases this
        · obtain ⟨ps, e2⟩ := ha.2
          have e3 := B.st.keep a o q e
          rw [e2] at e3
          exact ⟨ps, by rw [e]; exact e3.symm⟩
  · obtain ⟨m, ⟨o, es, ep, ho, hdt, _⟩, _⟩ := B.ea.loc
    obtain ⟨ps, e⟩ := z.2
    rw [ho] at e; cases e; cases hdt
  · obtain ⟨v, ⟨o, ho, hdt⟩, _⟩ := B.ea.cell x c hc
    obtain ⟨ps, e⟩ := z.2
    rw [ho] at e; cases e; cases hdt
/-- a local stored, as a step -/
theorem loc_stp {X : Addr → Prop} {g₀ : PH} {s₀ : Shared} (B : Blk X g₀ s₀ env gi si vs) (B' : Blk X g₀ s₀ env gi sj vs') (k : Heap.SameBut env.locals si.heap sj.heap) : Stp (At env.locals) gi gi si sj := by
  refine ⟨fun _ _ e => e, fun _ _ e => .inl e, B'.live, fun a o ha e => (k.2 a ha).trans e, fun a o e => ?_, ?_⟩
  · by_cases z : a = env.locals
    · rw [z]; exact B'.domL
    · exact ⟨o, (k.2 a z).trans e⟩
  · have r1 := B.st.rest
    have r2 := B'.st.rest
    rw [r2, r1]
theorem Tabs.loc {X : Addr → Prop} {g₀ : PH} {s₀ : Shared} (T : Tabs gi si) (B : Blk X g₀ s₀ env gi si vs) (B' : Blk X g₀ s₀ env gi sj vs') (k : Heap.SameBut env.locals si.heap sj.heap) : Tabs gi sj := by
  have S := loc_stp B B' k
  have hd : ∀ o, si.heap.get? env.locals = some o → ∀ vs, o.data ≠ .fields vs := fun o ho vs hd => by
    refine hide fun Gₕ hGₕ => ?_
    obtain ⟨m, ⟨o2, es, ep, ho2, hdt, _⟩, _⟩ := B.ea.loc
    refine hGₕ ?_
    rw [ho2] at ho; cases ho
    rw [hdt] at hd; cases hd
  have NC : NoCode (At env.locals) si.heap := fun a o ha e => by
    have ha' : a = env.locals := ha
    subst ha'
    exact .inr (hd o e)
  have nt : ∀ b, (∃ ps, si.heap.get? b = some (tabObj ps)) → ¬ At env.locals b := fun b ⟨ps, e⟩ hb => by
    have hb' : b = env.locals := hb
    subst hb'
    exact hd _ e _ rfl
  exact ⟨T.h44, T.h99, T.kt.stp S NC (nt _ T.t44) (fun b hb => nt b hb.1.2), T.tl.stp S NC (nt _ T.tl.tab)⟩
theorem room0 : Room callerA 20 := ⟨rfl, by decide, by decide, rfl⟩
end
section
variable {w : World} {E : Value → Shared → Prop} {g : PH} {s : Shared}
theorem law_call {sc : Addr} {ns : List Int} {Q : Value → Shared → Prop} (live : ∀ a o, g a = some o → s.heap.get? a = some o) (hK : KIn w g) (hT : Tabs g s) (hsc : IntsAt g sc ns) (hlen : ns.length ≤ 63)
    (h : ∀ g' s', Stp (TabX g s) g g' s s' → (∃ ps, s'.heap.get? 44 = some (tabObj ps)) → (∃ ps, s'.heap.get? 99 = some (tabObj ps)) → Q (.bool true) s') : wpAny (model PG w) callerA (call (.ref 122) [.ref sc]) Q E s := by
  refine fn_call (X := N0) (binds := [("script", .ref sc)]) (n := 19) live hK room0 (f := 122) rfl (by kernel_rfl) rfl (Looks.of_pure (by rfl)) rfl (by kernel_rfl) (fun A' s₁ hR' hA' B hlc => ?_) rfl rfl rfl
  -- drawn
  obtain ⟨sv, hsl, hsa⟩ := id hsc
  have hsn := hsa.length
  refine wpAny_execs_cons (comp_assign B (compN ((sv.take 5).map fun x v => v = x) (fun j out gi => j ≤ 5 ∧ j ≤ sv.length ∧ All2 IntV out (((ns.take 5).take j).map fun x => x % 192)) hR'.hd (by decide) (fun L => .inl rfl) ?_ ?_ ?_) ?_)
  · refine Subscript_ (name_ B rfl (.inl rfl) (wpAny_Slice (wpAny_evalPart_none (wpAny_evalPart_some (wpAny_Constant_int (wpAny_evalPart_none ?_))))))
    refine slice_k (B.tok _).live (hsl.isList (B.tok _).live) (by lia) .none (.int 5 _) fun l5 g1 s2 st1 hl5 => ?_
    rw [pick_upto _ (by decide)] at hl5
    exact pyIter_list ((Stp.tok B.live).trans st1) hl5 ⟨rfl, Nat.zero_le _, Nat.zero_le _, by simp; trivial⟩
  · intro L j p v out gi si vs' hp hpv rᵢ1 Bi hv
    refine hide fun Gₕ hGₕ => ?_
    obtain ⟨hj, hj2, hout⟩ := rᵢ1
    refine hGₕ ?_
    rw [List.getElem?_map, Option.map_eq_some_iff] at hp
    refine hide fun Gₕ hGₕ => ?_
    obtain ⟨u, hu, rfl⟩ := hp
    have hvu : v = u := hpv
    subst hvu
    obtain ⟨x, hx, t1, rfl⟩ := (hsa.take 5).get hu
    refine hGₕ ?_
    have hj1 := (List.getElem?_eq_some_iff.mp hx).1
    rw [List.length_take] at hj1
    refine wpAny_BinOp (name_ Bi lk_self (.inl rfl) (wpAny_Constant_int (mod_int' (by decide) ⟨gi, Stp.tok Bi.live, by lia, by lia, ?_⟩)))
    rw [List.take_add_one, hx, Option.toList_some, List.map_append]
    exact hout.snoc (intV (Int.fmod_eq_emod_of_nonneg _ (by decide)))
  · intro j out gi rᵢ2
    refine hide fun Gₕ hGₕ => ?_
    obtain ⟨hj, hj2, hout⟩ := rᵢ2
    refine hGₕ ?_
    have := hout.length
    simp at this
    lia
  · intro da dout gd' gd s2 rᵢ3 led hgd hdl B2
    refine hide fun Gₕ hGₕ => ?_
    obtain ⟨_, _, hdout⟩ := rᵢ3
    refine hGₕ ?_
    rw [List.length_map, List.take_of_length_le (by rw [List.length_take, List.length_take]; lia)] at hdout
    have hdr : IntsAt gd da (drawnF ns) := ⟨dout, hdl, hdout⟩
    have hdn : dout.length = (drawnF ns).length := hdout.length
    have hd5 := drawnF_len ns
    have hKd := hK.mono hgd
    -- rows
    refine wpAny_execs_cons (comp_assign B2 (comp1 (fun r out gi => ∃ (fv : List Value) (j : Nat), All2 IntV fv (fillF ns) ∧ j ≤ 5 ∧ r = (fv.drop j).map (fun x v => v = x) ∧ (∀ a o, gd a = some o → gi a = some o) ∧ All2 (IV gi) out (((fillF ns).take j).map rowOf)) hR'.hd (by decide) (fun L => .inl rfl) ?_ ?_ ?_) ?_)
    · refine wpAny_BinOp (name_ B2 lk_self (.inl rfl) (Subscript_ (List_ (args_cons (wpAny_Constant_int (args_cons (wpAny_Constant_int (args_cons (wpAny_Constant_int (args_cons (wpAny_Constant_int (args_cons (wpAny_Constant_int (args_nil ?_))))))))))))))
      refine newListK (B2.tok _).live (by simp) fun cl g3 s3 st3 hcl => ?_
      have B3 := (B2.tok _).step st3
      refine wpAny_Slice (wpAny_evalPart_some (callB1 B3 (hKd.mono st3.le) rfl rfl rfl (by kernel_rfl) (id := "len") (by kernel_rfl) (name_ B3 lk_self (.inl rfl) (lenList B3.live (hdl.mono st3.le) (by lia) fun t4 s4 st4 => wpAny_evalPart_none (wpAny_evalPart_none ?_)))))
      have B4 := B3.step st4
      refine slice_k B4.live (hcl.isList B4.live) (by simp) (.int _ _) .none fun sl g5 s5 st5 hsl5 => ?_
      rw [pick_from _ (by lia), Int.toNat_natCast] at hsl5
      refine addLK st5.live (hdl.mono fun a o e => st5.le a o (st3.le a o e)) hsl5 (by rw [List.length_drop]; simp; lia) fun fl g6 s6 st6 hfl => ?_
      refine pyIter_list ((((Stp.tok B2.live).trans st3).trans (st4.trans st5)).trans st6) hfl ⟨_, 0, ?_, Nat.zero_le _, rfl, fun a o e => st6.le a o (st5.le a o (st3.le a o e)), by simp; trivial⟩
      unfold fillF
      rw [← hdn]
      refine hdout.append (All2.drop _ ?_)
      exact ⟨⟨_, rfl⟩, ⟨_, rfl⟩, ⟨_, rfl⟩, ⟨_, rfl⟩, ⟨_, rfl⟩, trivial⟩
    · intro L p rest v out gi si vs' hpv rᵢ4 Bi hv
      refine hide fun Gₕ hGₕ => ?_
      obtain ⟨fv, j, hfv, hj, hr, hle, hout⟩ := rᵢ4
      refine hGₕ ?_
      rw [List.map_drop] at hr
      refine hide fun Gₕ hGₕ => ?_
      obtain ⟨hpp, hrest⟩ := drop_cons hr
      rw [List.getElem?_map, Option.map_eq_some_iff] at hpp
      obtain ⟨u, hu, rfl⟩ := hpp
      have hvu : v = u := hpv
      subst hvu
      obtain ⟨x, hx, t1, rfl⟩ := hfv.get hu
      refine hGₕ ?_
      have hj1 := (List.getElem?_eq_some_iff.mp hx).1
      rw [fillF_len] at hj1
      have hx2 := fillF_range ns x (List.mem_of_getElem? hx)
      have hKi := hKd.mono hle
      refine callFn Bi hKi rfl rfl (f := 85) (by kernel_rfl) rfl (args_cons (name_ Bi lk_self (.inl rfl) (args_nil ⟨⟨gi, hKi, Bi.live⟩, ?_⟩)))
      refine row_call (n := 10) Bi.live hKi (hR'.le (by lia)) hx2.1 hx2.2 fun b g1 s1 st1 hb => ⟨g1, st1, fv, j + 1, hfv, hj1, by rw [hrest, List.map_drop], fun a o e => st1.le a o (hle a o e), ?_⟩
      rw [List.take_add_one, hx, Option.toList_some, List.map_append]
      exact (hout.mono fun _ _ z => z.mono st1.le).snoc ⟨b, rfl, hb⟩
    · intro r out gi rᵢ5
      refine hide fun Gₕ hGₕ => ?_
      obtain ⟨fv, j, _, hj, _, _, hout⟩ := rᵢ5
      refine hGₕ ?_
      have := hout.length
      simp at this
      lia
    · intro ro rout gr' gr s3 rᵢ6 ler hgr hrl B3
      refine hide fun Gₕ hGₕ => ?_
      obtain ⟨fv, j, hfv, hj, hr, hle, hrout⟩ := rᵢ6
      refine hGₕ ?_
      have hj5 : (fillF ns).take j = fillF ns := by
        have : fv.drop j = [] := by
          cases q : fv.drop j with
          | nil => rfl
          | cons a b => rw [q] at hr; cases hr
        have := List.drop_eq_nil_iff.mp this
        have := hfv.length
        rw [List.take_of_length_le]; lia
      rw [hj5] at hrout
      have hrows : SetsAt gr ro (rowsF ns) := ⟨rout, hrl, hrout.mono fun _ _ z => z.mono ler⟩
      have hKr := hKd.mono hgr
      have r5 := rowsF_len ns
      have rG := rowsF_GL ns
      have r3 := rowsF_item ns
      have rne : rowsF ns ≠ [] := fun z => by rw [z] at r5; cases r5
      clear hrout hrl hj5 hr hle ler hfv
      revert hrows r5 rG r3 rne
      generalize rowsF ns = rows
      intro hrows r5 rG r3 rne
      -- numbers
      refine wpAny_execs_cons (wpAny_Assign_Name (callFn B3 hKr rfl rfl (f := 107) (by kernel_rfl) rfl (args_cons (name_ B3 lk_self (.inl rfl) (args_nil ⟨⟨gr, hKr, B3.live⟩, ?_⟩)))))
      refine numbers_call (n := 10) B3.live hKr (hR'.le (by lia)) hrows (by lia) (fun x hx => by have := r3 x hx; lia) (fun x hx => (rG x hx).2) fun na gn s4 st4 hna => ?_
      have B4 := B3.step st4
      have hrn := hrows.mono st4.le
      have hKn := hKr.mono st4.le
      refine stc_ B4 rfl rfl (hlc "numbers" _ rfl) fun s5 B5 _ => ?_
      -- meet
      refine wpAny_execs_cons (wpAny_Assign_Name (callFn B5 hKn rfl rfl (f := 58) (by kernel_rfl) rfl (args_cons (nameG (v := .ref 97) B5 hKn rfl rfl (by kernel_rfl) (args_cons (name_ B5 (lk_cons (by decide) lk_self) (.inl rfl) (args_cons (List_ (args_cons (List_ (args_nil ?_)))))))))))
      refine newListK B5.live (by simp) fun l0 g6 s6 st6 hl0 => args_nil (newListK st6.live (by simp) fun mi g7 s7 st7 hmi => args_nil ⟨⟨g7, hKn.mono fun a o e => st7.le a o (st6.le a o e), st7.live⟩, ?_⟩)
      have hmi2 : SetsAt g7 mi [[]] := ⟨[.ref l0], hmi, ⟨⟨l0, rfl, [], hl0.mono st7.le, trivial⟩, trivial⟩⟩
      have hle57 : ∀ a o, gn a = some o → g7 a = some o := fun a o e => st7.le a o (st6.le a o e)
      refine reduce_call (n := 10) st7.live (hKn.mono hle57) (hR'.le (by lia)) (hrn.mono hle57) hmi2 (by lia) r3 fun ma g8 s8 st8 hma => ?_
      have BM := BL.reduce rG
      revert hma BM
      generalize rows.foldl grown [[]] = meet
      intro hma BM
      have m16 := BM.len16
      have mG : ∀ x ∈ meet, GL x := fun x hx => (BM.min x hx).1
      have m4 : ∀ x ∈ meet, x.length ≤ 4 := fun x hx => (mG x hx).len_le
      have B8 := B5.step ((st6.trans st7).trans st8)
      have hle58 : ∀ a o, gn a = some o → g8 a = some o := fun a o e => st8.le a o (hle57 a o e)
      refine stl_ B8 rfl fun s9 B9 _ => ?_
      have hK9 := hKn.mono hle58
      have hna9 := hna.mono hle58
      have hrows9 := hrn.mono hle58
      have hnl : (numbersF rows).length = 5 := by unfold numbersF; rw [List.length_map, r5]
      -- tried
      refine wpAny_execs_cons (comp_assign B9 (compFilterR (k := 16) (fun number => decide ((numbersF rows).filter (fun other => decide (Builtin.bitAnd other number = 0)) = [])) hR'.hd (by decide) (by decide) (fun L => .inr ⟨rfl, by decide, rfl⟩) (fun P hP => rangeK B9 hK9 rfl rfl rfl (by decide) hP rfl) ?_) ?_)
      · intro L t i gi si vs' hi Bi hv
        have hnl2 : ((("number" : Str), Value.int i t) :: vs').lookup ("numbers" : Str) = some (.ref na) := lk_cons (by decide) ((hv "numbers" rfl).trans (lk_cons (by decide) lk_self))
        obtain ⟨us, hus, husi⟩ := hna9.mono Bi.st.le
        refine wpAny_isTrue_Compare1 (comp_eval Bi (compFilterG (fun _ => IntV) (fun _ _ _ _ z _ => z) (fun other => decide (Builtin.bitAnd other i = 0)) hR'.hd hus husi (by lia) (by decide) (fun L => .inl rfl) (fun Q' hQ' => name_ Bi hnl2 (.inr ⟨.inl rfl, rfl⟩) (hQ' _ (Stp.refl Bi.live))) ?_) ?_)
        · intro L2 u y gj sj vs'' hmem2 hiv2 Bj hv2
          obtain ⟨t2, rfl⟩ := hiv2
          have honej : ((("other" : Str), Value.int y t2) :: vs'').lookup ("number" : Str) = some (.int i t) := lk_cons (by decide) ((hv2 "number" rfl).trans lk_self)
          refine wpAny_isTrue_Compare1 (wpAny_BinOp (name_ Bj lk_self (.inl rfl) (name_ Bj honej (.inr ⟨.inl rfl, rfl⟩) (and_int (wpAny_Constant_int (PyProof.Rows.eq_int (wpAny_truthy_bool ⟨gj, Stp.tok Bj.live, ?_⟩)))))))
          rw [Bool.eq_iff_iff]; simp
        · intro acc5 out5 g5' g5 s7' hout5 hle5 hla5 st5'
          refine List_ (args_nil (newListK st5'.live (by simp) fun c g6' s8' st6' hc => ?_))
          exact eqInts hR' st6'.live (show IntsAt g6' acc5 _ from ⟨out5, hla5.mono st6'.le, hout5⟩) (show IntsAt g6' c [] from ⟨[], hc, trivial⟩) (wpAny_truthy_bool ⟨g6', st5'.trans st6', rfl⟩)
      · intro ta tout gt' gt s10 htout hlet hgt htl B10
        have hta : IntsAt gt ta (triedF (numbersF rows)) := ⟨tout, htl, htout⟩
        have hK10 := hK9.mono hgt
        have hma10 := (hma.mono hgt)
        have htn : (triedF (numbersF rows)).length ≤ 16 := by
          have : (triedF (numbersF rows)).length ≤ ((List.range 16).map Int.ofNat).length := List.length_filter_le ..
          simpa using this
        have hmn : (numbersF meet).length ≤ 16 := by unfold numbersF; rw [List.length_map]; exact m16
        -- the first test
        refine wpAny_execs_cons (wpAny_If (wpAny_isTrue_Compare1 (callB1 B10 hK10 rfl rfl rfl (by kernel_rfl) (id := "sorted") (by kernel_rfl) (callFn B10 hK10 rfl rfl (f := 107) (by kernel_rfl) rfl (args_cons (name_ B10 (lk_cons (by decide) lk_self) (.inl rfl) (args_nil ⟨⟨gt, hK10, B10.live⟩, ?_⟩)))))))
        refine numbers_call (n := 10) B10.live hK10 (hR'.le (by lia)) hma10 (by lia) (fun x hx => by have := m4 x hx; lia) (fun x hx => (mG x hx).2) fun nb g11 s11 st11 hnb => ?_
        refine sortInts st11.live hnb (by lia) fun sb g12 s12 st12 hsb => ?_
        have B12 := B10.step (st11.trans st12)
        have hle12 : ∀ a o, gt a = some o → g12 a = some o := fun a o e => st12.le a o (st11.le a o e)
        refine callFn B12 (hK10.mono hle12) rfl rfl (f := 112) (by kernel_rfl) rfl (args_cons (name_ B12 lk_self (.inl rfl) (args_nil ⟨⟨g12, hK10.mono hle12, B12.live⟩, ?_⟩)))
        refine least_call (n := 10) B12.live (hK10.mono hle12) (hR'.le (by lia)) (hta.mono hle12) (by lia) fun lb g13 s13 st13 hlb => ?_
        have B13 := B12.step st13
        refine neInts hR' B13.live (hsb.mono st13.le) hlb (wpAny_truthy_bool ?_)
        rw [decide_eq_false (fun z => z (claim1 rG BM)), if_neg Bool.false_ne_true]
        refine wpAny_execs_nil ?_
        have hle13 : ∀ a o, gt a = some o → g13 a = some o := fun a o e => st13.le a o (hle12 a o e)
        have hK13 := hK10.mono hle13
        have hrows13 := (hrows9.mono hgt).mono hle13
        -- same
        have T13 := hT.step B13.st
        have Bt := (show Blk (TabX g s) g s _ g13 s13 _ from ⟨B13.st.of0, B13.ea, B13.offL, B13.lowL, B13.offC⟩)
        refine wpAny_execs_cons (wpAny_Assign_Name (callFn Bt hK13 rfl rfl (f := 102) (by kernel_rfl) rfl (args_cons (name_ Bt (lk_cons (by decide) (lk_cons (by decide) (lk_cons (by decide) lk_self))) (.inl rfl) (args_nil ⟨⟨g13, hK13, Bt.live⟩, ?_⟩)))))
        refine search_call (n := 10) hA' Bt.live hK13 (hR'.le (by lia)) T13 hrows13 rG (by lia) fun sm same g14 s14 st14 T14 hsm BS _ _ => ?_
        have B14 := Bt.tabs st14
        refine stl_ B14 rfl fun s15 B15 same15 => ?_
        have T15 := T14.loc B14 B15 same15
        have hK15 := hK13.mono st14.le
        have hma15 := (hma10.mono hle13).mono st14.le
        have hrows15 := hrows13.mono st14.le
        have hna15 := ((hna9.mono hgt).mono hle13).mono st14.le
        refine hide fun Gₕ hGₕ => ?_
        obtain ⟨sl1, hsm1, hsm2⟩ := id hsm
        obtain ⟨ml1, hma1, hma2⟩ := id hma15
        refine hGₕ ?_
        have hsn1 := hsm2.length
        have hmn1 := hma2.length
        have c2 := claim2 BM BS
        have s16 := BS.len16
        have s4 : ∀ x ∈ same, x.length ≤ 4 := fun x hx => (BS.min x hx).1.len_le
        refine wpAny_execs_cons (wpAny_If (isTrue_or (wpAny_isTrue_Compare1 (callB1 B15 hK15 rfl rfl rfl (by kernel_rfl) (id := "len") (by kernel_rfl) (name_ B15 lk_self (.inl rfl) (lenList B15.live hsm1 (by lia) fun t2 sA stA => ?_))))))
        have BA := B15.step stA
        refine callB1 BA hK15 rfl rfl rfl (by kernel_rfl) (id := "len") (by kernel_rfl) (name_ BA (lk_cons (by decide) (lk_cons (by decide) lk_self)) (.inl rfl) (lenList BA.live hma1 (by lia) fun t3 sB stB => ne_int (wpAny_truthy_bool ?_)))
        rw [show ((sl1.length : Int) != (ml1.length : Int)) = false by rw [hsn1, hmn1, c2.1]; simp, if_neg Bool.false_ne_true]
        have BB := BA.step stB
        refine isTrue_or (isTrue_not (isTrue_plain (callFn BB hK15 rfl rfl (f := 80) (by kernel_rfl) rfl (args_cons (callFn BB hK15 rfl rfl (f := 117) (by kernel_rfl) rfl (args_cons (name_ BB lk_self (.inl rfl) (args_nil ⟨⟨g14, hK15, BB.live⟩, ?_⟩))))))))
        refine rising_call (n := 10) BB.live hK15 (hR'.le (by lia)) hsm (by lia) (fun x hx => by have := s4 x hx; lia) fun ra g16 sC stC hra => ?_
        have BC := BB.step stC
        have hKC := hK15.mono stC.le
        refine args_cons (callFn BC hKC rfl rfl (f := 117) (by kernel_rfl) rfl (args_cons (name_ BC (lk_cons (by decide) (lk_cons (by decide) lk_self)) (.inl rfl) (args_nil ⟨⟨g16, hKC, BC.live⟩, ?_⟩))))
        refine rising_call (n := 10) BC.live hKC (hR'.le (by lia)) (hma15.mono stC.le) (by lia) (fun x hx => by have := m4 x hx; lia) fun rb g17 sD stD hrb => ?_
        have hKD := hKC.mono stD.le
        refine args_nil ⟨⟨g17, hKD, stD.live⟩, ?_⟩
        refine cmp_call (n := 10) stD.live hKD (hR'.le (by lia)) (hra.mono stD.le) hrb (by unfold rising; rw [List.length_map]; lia) (by unfold rising; rw [List.length_map]; lia) (fun x hx => ((cmpArgs_iff _ _).mp c2.2 x).mp hx) fun g18 sE stE => wpAny_truthy_bool ?_
        rw [show cmpArgs (rising same) (rising meet) = true from c2.2]
        refine isTrue_or_nil ?_
        rw [if_neg Bool.false_ne_true]
        refine wpAny_execs_nil ?_
        have stF := (((stA.trans stB).trans stC).trans stD).trans stE
        have TE := T15.step stF
        have BE := B15.step stF
        have hKE := hK15.mono stF.le
        -- found
        refine wpAny_execs_cons (wpAny_Assign_Name (callFn BE hKE rfl rfl (f := 102) (by kernel_rfl) rfl (args_cons (name_ BE (lk_cons (by decide) (lk_cons (by decide) lk_self)) (.inl rfl) (args_nil ⟨⟨g18, hKE, BE.live⟩, ?_⟩)))))
        refine search_call (n := 10) hA' BE.live hKE (hR'.le (by lia)) TE (hma15.mono stF.le) mG (by lia) fun fo found g19 s19 st19 T19 hfo BF hpw _ => ?_
        have B19 := BE.tabs st19
        refine stl_ B19 rfl fun s20 B20 same20 => ?_
        have T20 := T19.loc B19 B20 same20
        have hK20 := hKE.mono st19.le
        have f16 := BF.len16
        have f4 : ∀ x ∈ found, x.length ≤ 4 := fun x hx => (BF.min x hx).1.len_le
        have fG : ∀ x ∈ found, GL x := fun x hx => (BF.min x hx).1
        have hrows20 := (hrows15.mono stF.le).mono st19.le
        have hna20 := (hna15.mono stF.le).mono st19.le
        obtain ⟨p44, e44⟩ := T20.t44
        obtain ⟨p99, e99⟩ := T20.tl.tab
        have n44 := not_loc B20 e44 (fun _ _ h => nomatch h)
        have n99 := not_loc B20 e99 (fun _ _ h => nomatch h)
        have nc44 := not_cell B20 e44 (fun _ h => nomatch h)
        have nc99 := not_cell B20 e99 (fun _ h => nomatch h)
        clear T20 T19 TE T15 T14 T13 stF stE stD stC stB stA
        -- sizes
        refine wpAny_execs_cons (comp_assign2 B20 (compMapS (fun _ => IntV) (fun _ _ _ _ z _ => z) (fun one => (one.length : Int)) hR'.hd hfo (by lia) (by decide) (fun L => .inl rfl) (fun Q' hQ' => name_ B20 lk_self (.inl rfl) (hQ' _ (Stp.refl B20.live))) ?_) ?_)
        · intro L v xs gi si vs' hmem hiv Bi hv
          have hKi := hK20.mono Bi.st.le
          have := f4 xs hmem
          exact callB1 Bi hKi rfl rfl rfl (by kernel_rfl) (id := "len") (by kernel_rfl) (name_ Bi lk_self (.inl rfl) (IV.len Bi.live hiv (by lia) fun t s1 st1 => ⟨gi, st1, t, rfl⟩))
        · intro za zout gz' gz s21 hzout _ hgz hzl B21 k21 _
          have hsz : IntsAt gz za (found.map fun one => (one.length : Int)) := ⟨zout, hzl, hzout⟩
          have e44' := k21 _ _ n44 e44
          have e99' := k21 _ _ n99 e99
          have hK21 := hK20.mono hgz
          have hna21 := hna20.mono hgz
          have hfo21 := hfo.mono hgz
          have hrows21 := hrows20.mono hgz
          -- least
          refine wpAny_execs_cons (wpAny_Assign_Name (callFn B21 hK21 rfl rfl (f := 112) (by kernel_rfl) rfl (args_cons (name_ B21 (lk_cons (by decide) (lk_cons (by decide) (lk_cons (by decide) (lk_cons (by decide) (lk_cons (by decide) lk_self))))) (.inr ⟨.inl rfl, rfl⟩) (args_nil ⟨⟨gz, hK21, B21.live⟩, ?_⟩)))))
          refine least_call (n := 10) B21.live hK21 (hR'.le (by lia)) hna21 (by lia) fun lb2 g22 s22 st22 hlb2 => ?_
          have B22 := B21.step st22
          refine stc_ B22 rfl rfl (hlc "least" _ rfl) fun s23 B23 sc23 => ?_
          have e44b := (sc23.2 _ (nc44 "least" _ rfl).symm).trans (st22.keep0 _ _ e44')
          have e99b := (sc23.2 _ (nc99 "least" _ rfl).symm).trans (st22.keep0 _ _ e99')
          have hK23 := hK21.mono st22.le
          have hna23 := hna21.mono st22.le
          have hfo23 := hfo21.mono st22.le
          have hrows23 := hrows21.mono st22.le
          have hsz23 := hsz.mono st22.le
          clear sc23 k21 B22 B21
          -- the third test
          refine wpAny_execs_cons (wpAny_If (isTrue_or (wpAny_isTrue_Compare1 (name_ B23 (lk_cons (by decide) lk_self) (.inl rfl) (callB1 B23 hK23 rfl rfl rfl (by kernel_rfl) (id := "sorted") (by kernel_rfl) (name_ B23 (lk_cons (by decide) lk_self) (.inl rfl) (sortInts B23.live hsz23 (by rw [List.length_map]; lia) fun sb2 g24 s24 st24 hsb2 => neInts hR' st24.live (hsz23.mono st24.le) hsb2 (wpAny_truthy_bool ?_))))))))
          rw [decide_eq_false (fun z => z (sizes_sorted hpw).symm), if_neg Bool.false_ne_true]
          have B24 := B23.step st24
          have hK24 := hK23.mono st24.le
          refine isTrue_or (wpAny_isTrue_Compare1 (callB1 B24 hK24 rfl rfl rfl (by kernel_rfl) (id := "sorted") (by kernel_rfl) (callFn B24 hK24 rfl rfl (f := 107) (by kernel_rfl) rfl (args_cons (name_ B24 (lk_cons (by decide) (lk_cons (by decide) lk_self)) (.inl rfl) (args_nil ⟨⟨g24, hK24, B24.live⟩, ?_⟩))))))
          refine numbers_call (n := 10) B24.live hK24 (hR'.le (by lia)) (hfo23.mono st24.le) (by lia) (fun x hx => by have := f4 x hx; lia) (fun x hx => (fG x hx).2) fun nb2 g25 s25 st25 hnb2 => ?_
          refine sortInts st25.live hnb2 (by unfold numbersF; rw [List.length_map]; lia) fun sb3 g26 s26 st26 hsb3 => ?_
          have B26 := B24.step (st25.trans st26)
          refine name_ B26 lk_self (.inr ⟨.inl rfl, rfl⟩) (neInts hR' B26.live hsb3 (((hlb2.mono st24.le).mono st25.le).mono st26.le) (wpAny_truthy_bool ?_))
          rw [decide_eq_false (fun z => z (claim3 rG BM BF)), if_neg Bool.false_ne_true]
          refine isTrue_or_nil ?_
          rw [if_neg Bool.false_ne_true]
          refine wpAny_execs_nil ?_
          have st2 := (st24.trans st25).trans st26
          have hK26 := hK23.mono st2.le
          have hna26 := hna23.mono st2.le
          have hfo26 := hfo23.mono st2.le
          have hrows26 := hrows23.mono st2.le
          have hle26 := hlb2.mono st2.le
          have e44c := st2.keep0 _ _ e44b
          have e99c := st2.keep0 _ _ e99b
          clear st26 st25 st24 B24 B23
          -- due
          refine wpAny_execs_cons (wpAny_Assign_Name (callFn B26 hK26 rfl rfl (f := 117) (by kernel_rfl) rfl (args_cons (comp_eval B26 (comp_zip numF (fun i => decide (i ∈ leastF (numbersF rows))) hR'.hd hrows26 hna26 B26.live (by lia) (by decide) (by decide) (by decide) (fun L => rfl) (fun L => rfl) (fun Q' hQ' => callT2 B26 hK26 rfl rfl rfl (by kernel_rfl) (T := "zip") (by kernel_rfl) (name_ B26 (lk_cons (by decide) (lk_cons (by decide) (lk_cons (by decide) (lk_cons (by decide) (lk_cons (by decide) (lk_cons (by decide) (lk_cons (by decide) lk_self))))))) (.inl rfl) (name_ B26 (lk_cons (by decide) (lk_cons (by decide) (lk_cons (by decide) (lk_cons (by decide) (lk_cons (by decide) (lk_cons (by decide) lk_self)))))) (.inr ⟨.inl rfl, rfl⟩) (hQ' _ (Stp.refl B26.live))))) ?_) ?_))))
          · intro L va t i gi si vs' Bi hv
            exact wpAny_isTrue_Compare1 (name_ Bi lk_self (.inl rfl) (name_ Bi (lk_cons (by decide) (lk_cons (by decide) ((hv "least" rfl).trans lk_self))) (.inr ⟨.inl rfl, rfl⟩) (inInts hR' Bi.live (hle26.mono Bi.st.le) (wpAny_truthy_bool ⟨gi, Stp.refl Bi.live, rfl⟩))))
          · intro du dout2 gd' gd s27 hdout2 hled hdl2 st27
            have hdue : SetsAt gd du (dueF rows (leastF (numbersF rows))) := ⟨dout2, hdl2, hdout2.mono fun _ _ z => z.mono hled⟩
            have hdn2 : (dueF rows (leastF (numbersF rows))).length ≤ rows.length := List.length_filter_le ..
            have hK27 := hK26.mono st27.le
            refine args_nil ⟨⟨gd, hK27, st27.live⟩, ?_⟩
            refine rising_call (n := 10) st27.live hK27 (hR'.le (by lia)) hdue (by lia) (fun x hx => by have := r3 x (List.mem_filter.mp hx).1; lia) fun db g28 s28 st28 hdb => ?_
            have B28 := (B26.step st27).step st28
            refine stl_ B28 rfl fun s29 B29 same29 => ?_
            have hK29 := hK27.mono st28.le
            have hfo29 := (hfo26.mono st27.le).mono st28.le
            have e44d := (same29.2 _ n44).trans (st28.keep0 _ _ (st27.keep0 _ _ e44c))
            have e99d := (same29.2 _ n99).trans (st28.keep0 _ _ (st27.keep0 _ _ e99c))
            -- told
            refine wpAny_execs_cons (wpAny_Assign_Name (callFn B29 hK29 rfl rfl (f := 117) (by kernel_rfl) rfl (args_cons (name_ B29 (lk_cons (by decide) (lk_cons (by decide) (lk_cons (by decide) lk_self))) (.inl rfl) (args_nil ⟨⟨g28, hK29, B29.live⟩, ?_⟩)))))
            refine rising_call (n := 10) B29.live hK29 (hR'.le (by lia)) hfo29 (by lia) (fun x hx => by have := f4 x hx; lia) fun tb g30 s30 st30 htb => ?_
            have B30 := B29.step st30
            refine stl_ B30 rfl fun s31 B31 same31 => ?_
            have hK31 := hK29.mono st30.le
            have hdb31 := hdb.mono st30.le
            have e44e := (same31.2 _ n44).trans (st30.keep0 _ _ e44d)
            have e99e := (same31.2 _ n99).trans (st30.keep0 _ _ e99d)
            have c4 := claim4 rG rne BM BF
            have hmem4 := due_mem rG BM BF
            have ln1 : (rising found).length = found.length := by unfold rising; rw [List.length_map]
            have ln2 : (rising (dueF rows (leastF (numbersF rows)))).length ≤ rows.length := by unfold rising; rw [List.length_map]; exact hdn2
            refine wpAny_execs_cons (wpAny_Return_some (BoolOp_and (callFn B31 hK31 rfl rfl (f := 80) (by kernel_rfl) rfl (args_cons (name_ B31 lk_self (.inl rfl) (args_cons (name_ B31 (lk_cons (by decide) lk_self) (.inl rfl) (args_nil ⟨⟨g30, hK31, B31.live⟩, ?_⟩))))))))
            refine cmp_call (n := 10) B31.live hK31 (hR'.le (by lia)) htb hdb31 (by lia) (by lia) (fun x hx => (hmem4 x).mp hx) fun g32 s32 st32 => wpAny_truthy_bool ?_
            rw [show cmpArgs (rising found) (rising (dueF rows (leastF (numbersF rows)))) = true from c4.1, if_pos rfl]
            have B32 := B31.step st32
            have hK32 := hK31.mono st32.le
            obtain ⟨tv, htv1, htv2⟩ := htb.mono st32.le
            have htn := htv2.length
            refine BoolOp_one (UnaryOp_ (callFn B32 hK32 rfl rfl (f := 80) (by kernel_rfl) rfl (args_cons (Subscript_ (name_ B32 lk_self (.inl rfl) (wpAny_Slice (wpAny_evalPart_some (wpAny_Constant_int (wpAny_evalPart_none (wpAny_evalPart_none ?_))))))))))
            refine slice_k (B32.tok _).live (htv1.isList (B32.tok _).live) (by lia) (.int 1 _) .none fun sl2 g33 s33 st33 hsl2 => ?_
            rw [pick_from _ (by decide)] at hsl2
            have B33 := (B32.tok _).step st33
            have hK33 := hK32.mono st33.le
            refine args_cons (name_ B33 (lk_cons (by decide) lk_self) (.inl rfl) (args_nil ⟨⟨g33, hK33, B33.live⟩, ?_⟩))
            have hts : SetsAt g33 sl2 ((rising found).drop 1) := ⟨_, hsl2, (htv2.mono fun _ _ z => z.mono st33.le).drop 1⟩
            refine cmp_call (n := 10) B33.live hK33 (hR'.le (by lia)) hts ((hdb31.mono st32.le).mono st33.le) (by rw [List.length_drop]; lia) (by lia) (fun x hx => (hmem4 x).mp (List.mem_of_mem_drop hx)) fun g34 s34 st34 => ?_
            rw [show cmpArgs ((rising found).drop 1) (rising (dueF rows (leastF (numbersF rows)))) = false from c4.2]
            refine not_of (wpAny_truthy_bool ?_)
            have B34 := B33.step st34
            exact h g34 s34 B34.st ⟨_, st34.keep0 _ _ (st33.keep0 _ _ (st32.keep0 _ _ e44e))⟩ ⟨_, st34.keep0 _ _ (st33.keep0 _ _ (st32.keep0 _ _ e99e))⟩
end
end
section
open PySem PySem.W PySem.W.X PyProof.Rows
set_option maxRecDepth 100000
set_option maxHeartbeats 8000000
theorem top_four {loose : List Str} {mean : ExcName → Option Value} {mg mb : Str → Option Value} {w : World} {s₁ : Shared} (T : Top qv loose mean mg mb s₁.heap) (KX : (hd.heap_1 w.params).In s₁.heap) : K4 s₁.heap := by
  refine ⟨?_, ?_⟩
  · obtain ⟨bm, ob, h1, _, h3, h4, h5, h6⟩ := T.bmain
    have e : mg "__builtins__" = some (.ref 4) := mg_of KX T.g (by kernel_rfl)
    rw [e] at h1; cases h1
    exact ⟨ob, h3, h4, h5, h6⟩
  · obtain ⟨mm, ⟨o, es, ep, ho, hd, _⟩, _⟩ := (T.seer (by rfl)).mods
    exact ⟨o, ho, es, ep, hd⟩
theorem code_tab {h : Heap} {c P : Addr} (hd : CodeHd h c P) (e : h.get? P = some (tabObj #[])) : h.TableAt c P #[] ∧ h.IsCode c P #[] := by
  obtain ⟨o, vs, f, tf, fl, tg, inF, tx, tt, a1, a2, a3, a4, a5, a6, a7, a8, a9, a10⟩ := hd
  exact ⟨⟨⟨o, vs, a1, a2, a3, a4⟩, e⟩, o, vs, f, tf, fl, tg, inF, tx, tt, _, a1, a3, a5, a6, a7, a8, a9, e, rfl, trivial, a10⟩
theorem law_top {loose : List Str} {mean : ExcName → Option Value} {mg mb : Str → Option Value} {w : World} {s₁ : Shared} {l : Addr} {vs : List Value} {ns : List Int} {E : Value → Shared → Prop} {Q : Value → Shared → Prop} (T : Top qv loose mean mg mb s₁.heap) (KX : (hd.heap_1 w.params).In s₁.heap) (hL : s₁.heap.IsList l vs.toArray) (hI : IntsAre vs ns) (hlen : ns.length ≤ 63)
    (h : ∀ s', OldK s₁.heap s'.heap → s'.os = s₁.os → s'.gens = s₁.gens → Q (.bool true) s') : wpAny (model PG w) callerA (call (.ref 122) [.ref l]) Q E s₁ := by
  obtain ⟨h44, e44⟩ := tab_of (x := "cmp_to_key") (c := 48) (P := 44) T KX (by rfl) (by kernel_rfl)
  obtain ⟨h99, e99⟩ := tab_of (x := "_law_search") (c := 101) (P := 99) T KX (by rfl) (by kernel_rfl)
  have ⟨T44, C44⟩ := code_tab h44 e44
  have ⟨T99, C99⟩ := code_tab h99 e99
  let g₀ : PH := fun a => if a = 44 ∨ a = 99 then none else s₁.heap.get? a
  have g44 : g₀ 44 = none := if_pos (.inl rfl)
  have g99 : g₀ 99 = none := if_pos (.inr rfl)
  have gel : ∀ a, a ≠ 44 → a ≠ 99 → g₀ a = s₁.heap.get? a := fun a h1 h2 => if_neg (fun z => z.elim h1 h2)
  have live : ∀ a o, g₀ a = some o → s₁.heap.get? a = some o := fun a o e => by
    by_cases z : a = 44 ∨ a = 99
    · rw [show g₀ a = none from if_pos z] at e; cases e
    · exact (if_neg z).symm.trans e
  have k44 : (K2 w.params).lookup 44 = none := rfl
  have k99 : (K2 w.params).lookup 99 = none := rfl
  have hK : KIn w g₀ := by
    refine ⟨fun a o e => (gel a (fun z => ?_) fun z => ?_).trans (KX a o e), ?_, ?_⟩
    · rw [z, k44] at e; cases e
    · rw [z, k99] at e; cases e
    · obtain ⟨o, es, ep, ho, hd, r⟩ := T.b
      exact ⟨o, (gel builtinsNs (by decide) (by decide)).trans ho, ⟨es, ep, hd⟩, mb, fun x hx => T.builtins x (by simpa using hx), fun h e => ⟨o, es, ep, e, hd, r⟩⟩
    · obtain ⟨⟨o, e, r⟩, o1, e1, r1⟩ := top_four T KX
      exact ⟨⟨o, (gel 4 (by decide) (by decide)).trans e, r⟩, o1, (gel 1 (by decide) (by decide)).trans e1, r1⟩
  have hT : Tabs g₀ s₁ := ⟨g44, g99, ⟨#[], C44, T44, .inl rfl⟩, ⟨#[], C99, T99, fun e _ => .inl rfl⟩⟩
  have hsc : IntsAt g₀ l ns := by
    refine hide fun Gₕ hGₕ => ?_
    obtain ⟨o, ho, hc, n, hd⟩ := hL
    refine hGₕ ?_
    refine ⟨vs, ⟨o, ?_, hc, n, hd⟩, ints_all2 hI⟩
    refine (gel l (fun z => ?_) (fun z => ?_)).trans ho
    · rw [z, e44] at ho; cases ho; cases hc
    · rw [z, e99] at ho; cases ho; cases hc
  refine law_call live hK hT hsc hlen fun g' s' S t44 t99 => ?_
  have k : ∀ a o, a ≠ 44 → a ≠ 99 → s₁.heap.get? a = some o → s'.heap.get? a = some o := fun a o h1 h2 e => S.keep a o (fun z => by have z1 : g₀ a = none := z.1; rw [gel a h1 h2, e] at z1; cases z1) e
  refine h s' ⟨fun b o e => ?_, fun b o e => S.dom b o e⟩ (by rw [S.rest]) (by rw [S.rest])
  by_cases z : b = 44
  · subst z
    obtain ⟨ps, e'⟩ := t44
    rw [e44] at e; cases e
    exact .inr (.inl ⟨T44.isCodeTable, rfl, #[], ps, rfl, by rw [e']; simp⟩)
  · by_cases z2 : b = 99
    · subst z2
      obtain ⟨ps, e'⟩ := t99
      rw [e99] at e; cases e
      exact .inr (.inl ⟨T99.isCodeTable, rfl, #[], ps, rfl, by rw [e']; simp⟩)
    · exact .inl (k b o z z2 e)
end
end
end Mine
section
open PySem PySem.W PySem.W.X PyProof.Rows
set_option maxRecDepth 100000
set_option maxHeartbeats 8000000
theorem PySem.Challenge.cw_oh0021_01_holds : PySem.Challenge.rw_oh0021_01.Holds :=
  Mine.hd (by
  k_fill
  intro w s₀ s₁ mg mb G Y fa o pm cd doc dV kV ho hd hcd hD hmg hg args vals as hpre hlay hrd hwl hlo
  have KX := km_in_of Y
  refine Ground.open G ?_
  intro T B D TE TW
  wrow_args hpre hlay hrd hwl hlo
  x_fa T KX hmg
  refine Mine.law_top T KX (by assumption) (by assumption) (by lia) fun s' hO hos hge => ?_
  exact ⟨.inl ⟨_, _, [], rfl, fun _ => rfl, ReadsW.bool true, by wrow_post, fun _ => ⟨List.nodup_nil, fun _ hm => (nomatch hm)⟩⟩, hO, hos, .of_eq (hge.trans hg)⟩)
end
