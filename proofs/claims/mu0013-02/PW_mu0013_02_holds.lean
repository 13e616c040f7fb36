import PyProof.Rows.All
import Wide.All
import OpenK.AllK
import Wide.FinOn
import Lean
import PySem.Challenge.RW_mu0013_02
set_option compiler.extract_closed false
section
open PySem PySem.W PyProof.Rows PySem.Challenge
set_option Elab.async false
set_option maxRecDepth 100000
set_option maxHeartbeats 8000000
namespace Mine
/-- any of a whole array, over its list -/
noncomputable def anyQ {α : Type} (xs : Array α) (p : α → Bool) (a b : Nat) : Bool :=
  match Nat.beq a 0 && Nat.beq b xs.size with
  | true => xs.toList.any p
  | false => xs.any p a b
theorem anyQ_eq : @Array.any.{0} = @anyQ := by
  funext α xs p a b
  unfold anyQ
  split
  · rename_i h
    obtain ⟨h1, h2⟩ := Bool.and_eq_true_iff.mp h
    have e1 := Nat.eq_of_beq_eq_true h1
    have e2 := Nat.eq_of_beq_eq_true h2
    subst e1 e2
    rw [Array.any_toList]
  · rfl
noncomputable abbrev AnyT : Type 1 := ∀ {α : Type}, Array α → (α → Bool) → Nat → Nat → Bool
noncomputable def Held (_ : Builtin) : Type := Unit
noncomputable def newS : (F : AnyT → Builtin) × (Held PySem.W.Fast.tw4202317264376624991 → Held (F @Array.any.{0})) :=
  ⟨_, by
    delta PySem.W.Fast.tw4202317264376624991
    generalize @Array.any.{0} = a
    exact fun u => u⟩
noncomputable def newF : AnyT → Builtin := newS.1
theorem newF_eq : PySem.W.Fast.tw4202317264376624991 = newF @Array.any.{0} := by kernel_rfl
noncomputable def newQ : Builtin := newF @anyQ
theorem newQ_eq : PySem.Builtin.«type.__new__» = newQ := by
  rw [PySem.W.Fast.te4202317264376624991]
  exact newF_eq.trans (congrArg newF anyQ_eq)
noncomputable def tableQ (id : String) : Option Builtin := match decide (id = "type.__new__") with
  | true => some newQ
  | false => treeTable id
theorem tableQ_eq : treeTable = tableQ := by
  funext id
  unfold tableQ
  split
  · rename_i h
    have e := of_decide_eq_true h
    subst e
    rw [← newQ_eq]
    kernel_rfl
  · rfl
/-- the top's run over a tree of objects -/
noncomputable def topRunT (tb : String → Option Builtin) (p : Program) (w : World) (n₀ : Nat) (ann : Option Value) : Nat → SharedT → Thread → Option SharedT
  | 0, _, _ => none
  | n + 1, s, t => match through t with
    | true => some s
    | false => match stepOk n₀ ann t with
      | false => none
      | true => match stepT (denote tb) p w s t with
        | some (s', t') => topRunT tb p w n₀ ann n s' t'
        | none => none
theorem topRunT_of {tb : String → Option Builtin} {p : Program} {w : World} {n₀ : Nat} {ann : Option Value} : ∀ {n : Nat} {s s' : SharedT} {t : Thread},
    topRunT tb p w n₀ ann n s t = some s' → topRun tb p w n₀ ann n s.abs t = some s'.abs
  | 0, _, _, _, h => by cases h
  | n + 1, s, s', t, h => by
    unfold topRunT at h
    unfold topRun
    cases ht : through t with
    | true => rw [ht] at h; cases h; rfl
    | false =>
      rw [ht] at h
      dsimp only at h ⊢
      cases hk : stepOk n₀ ann t with
      | false => rw [hk] at h; cases h
      | true =>
        rw [hk] at h
        dsimp only at h ⊢
        cases hs : stepT (denote tb) p w s t with
        | none => rw [hs] at h; cases h
        | some r =>
          obtain ⟨s₂, t₂⟩ := r
          rw [hs] at h
          rw [stepT_spec hs]
          exact topRunT_of h
noncomputable def treeOf : List Obj → Nat → BT → BT
  | [], _, t => t
  | o :: r, i, t => treeOf r (i + 1) (t.ins i o)

noncomputable def s0T (w : World) (os : OsState) : SharedT := ⟨treeOf (boot_heap w.params).objs.toList 0 .nil, (boot_heap w.params).objs.size, (boot_heap w.params).life, Array.mk [], boot_drawn, boot_toks, os⟩
theorem s0T_abs (w : World) (os : OsState) : (s0T w os).abs = ⟨boot_heap w.params, Array.mk [], boot_drawn, boot_toks, os⟩ := by kernel_rfl
theorem boot_isNs (w : World) : (boot_heap w.params).isNs mainGlobals = true := by kernel_rfl
/-- the whole top: its run, and the looks behind it -/
noncomputable def wholeBy (tb : String → Option Builtin) (p q : Program) (loose : List Str) (Xt : Shared → Bool) (N : Nat) (w : World) (s : SharedT) (ann : Option Value) (H : Heap) :=
  (topRunT tb p w H.objs.size ann N s (topStub p)).bind fun s1 =>
    match staticsOk (importedModules p.main.body) H s1.abs.heap && namesBound p s1.abs.heap && gensDone s1.abs && laidKept H s1.abs.heap with
    | true => some (openSeen q loose (importedModules p.main.body) Xt true s1.abs)
    | false => none
noncomputable def lookBy {α : Type} (tb : String → Option Builtin) (p : Program) (Yf : Shared → α) (N : Nat) (w : World) (s : SharedT) (ann : Option Value) (H : Heap) : Option α :=
  (topRunT tb p w H.objs.size ann N s (topStub p)).bind fun s1 => some (Yf s1.abs)
theorem left_of {α : Type} {p q : Program} {loose : List Str} {Xt : Shared → Bool} {Yf : Shared → α} {Ya : World → α} {N : Nat}
    (open_ : ∀ w : World, (fencedOpening treeTable p w N).map (fun s => (s.heap, s.gens, s.drawn, s.toks)) = some (boot_heap w.params, Array.mk [], boot_drawn, boot_toks))
    (check : ∀ w, (fun os => wholeBy tableQ p q loose Xt N w (s0T w os) ((boot_heap w.params).nsMap mainGlobals "__annotations__") (boot_heap w.params)) = fun _ => some (openGood q loose))
    (look : ∀ w, (fun os => lookBy tableQ p Yf N w (s0T w os) ((boot_heap w.params).nsMap mainGlobals "__annotations__") (boot_heap w.params)) = fun _ => some (Ya w)) :
    LeftO p q loose Xt Yf Ya N true := fun w => by
  obtain ⟨⟨h, gs, d, k, os⟩, e, e'⟩ := Option.map_eq_some_iff.mp (open_ w)
  obtain ⟨rfl, rfl, rfl, rfl⟩ : h = boot_heap w.params ∧ gs = Array.mk [] ∧ d = boot_drawn ∧ k = boot_toks := by simpa using e'
  have c := congrFun (check w) os
  unfold wholeBy at c
  obtain ⟨s1, r1, r2⟩ := Option.bind_eq_some_iff.mp c
  have y := congrFun (look w) os
  unfold lookBy at y
  rw [r1] at y
  have y' : Yf s1.abs = Ya w := Option.some.inj y
  have r := topRunT_of r1
  rw [s0T_abs, ← tableQ_eq] at r
  unfold openEnds
  rw [e]
  show (topFrom treeTable p w N _).map _ = _
  have t : topFrom treeTable p w N ⟨boot_heap w.params, Array.mk [], boot_drawn, boot_toks, os⟩ = some s1.abs ∧ (openSeen q loose (importedModules p.main.body) Xt true s1.abs, Yf s1.abs) = (openGood q loose, Ya w) := by
    cases hc : (staticsOk (importedModules p.main.body) (boot_heap w.params) s1.abs.heap && namesBound p s1.abs.heap && gensDone s1.abs && laidKept (boot_heap w.params) s1.abs.heap) with
    | false => rw [hc] at r2; cases r2
    | true =>
      rw [hc] at r2
      refine ⟨?_, Prod.ext (Option.some.inj r2) y'⟩
      unfold topFrom
      dsimp only
      rw [boot_isNs]
      show (topRun treeTable p w _ _ N _ _).bind _ = _
      rw [r]
      show (match staticsOk _ _ _ && _ && _ && _ with | true => _ | false => _) = _
      rw [hc]
  rw [t.1]
  exact congrArg some t.2
/-- looks at written objects, one by one -/
noncomputable def getsOf (h : Heap) : List Addr → List (Option Obj)
  | [] => []
  | a :: r => h.get? a :: getsOf h r
noncomputable def optsOf : List (Addr × Obj) → List (Option Obj)
  | [] => []
  | p :: r => some p.2 :: optsOf r
theorem getsOf_eq (h : Heap) : ∀ l, getsOf h l = l.map h.get?
  | [] => rfl
  | _ :: r => congrArg _ (getsOf_eq h r)
theorem optsOf_eq : ∀ l : List (Addr × Obj), optsOf l = l.map fun p => some p.2
  | [] => rfl
  | _ :: r => congrArg _ (optsOf_eq r)
noncomputable def hookBy (K : Params → Frag) (as : List Addr) (e : ∀ P, as = (K P).map (·.1)) : Hook :=
  ⟨List (Option Obj), fun s => getsOf s.heap as, fun w => optsOf (K w.params), InK K, fun w s x => InK.of e w s (by rw [← getsOf_eq, ← optsOf_eq]; exact x), InK.keeps⟩
-- parts of the text, by place
noncomputable def bodyOf : Stmt → List Stmt
  | .FunctionDef _ _ b _ _ _ _ _ _ _ => b
  | .ClassDef _ _ _ b _ _ _ _ _ _ _ => b
  | _ => []
noncomputable def argsOf : Stmt → Arguments
  | .FunctionDef _ a _ _ _ _ _ _ _ _ => a
  | _ => ⟨[], [], none, [], [], none, []⟩
noncomputable def scopeOf : Stmt → Scope
  | .FunctionDef _ _ _ _ _ _ s _ _ _ => s
  | .ClassDef _ _ _ _ _ _ s _ _ _ _ => s
  | _ => ⟨.function, [], false, false, []⟩
noncomputable def docS (s : Stmt) : Str := (docOf (bodyOf s)).getD Str.empty
noncomputable def stAt (l : List Stmt) (i : Nat) : Stmt := l.getD i (.Pass ⟨0, 0, 0, 0⟩)

-- the text anew, in pieces: the quick twin of one def costs the square of the names in it
noncomputable def setBody (l : List Stmt) : Stmt → Stmt
  | .ClassDef a b c _ d e f g h i j => .ClassDef a b c l d e f g h i j
  | s => s
noncomputable def tx0 : Stmt := by
  refine' (?f : ∀ s : Stmt, stAt pw_mu0013_02.main.body 0 = s → Stmt) _ ?h
  case f => exact fun s _ => s
  case h => (conv => lhs; whnf)
noncomputable def tx1 : Stmt := by
  refine' (?f : ∀ s : Stmt, stAt pw_mu0013_02.main.body 1 = s → Stmt) _ ?h
  case f => exact fun s _ => s
  case h => (conv => lhs; whnf)
noncomputable def tx2 : Stmt := by
  refine' (?f : ∀ s : Stmt, stAt pw_mu0013_02.main.body 2 = s → Stmt) _ ?h
  case f => exact fun s _ => s
  case h => (conv => lhs; whnf)
noncomputable def tx3 : Stmt := by
  refine' (?f : ∀ s : Stmt, stAt pw_mu0013_02.main.body 3 = s → Stmt) _ ?h
  case f => exact fun s _ => s
  case h => (conv => lhs; whnf)
noncomputable def tx4 : Stmt := by
  refine' (?f : ∀ s : Stmt, stAt pw_mu0013_02.main.body 4 = s → Stmt) _ ?h
  case f => exact fun s _ => s
  case h => (conv => lhs; whnf)
noncomputable def tx6 : Stmt := by
  refine' (?f : ∀ s : Stmt, stAt pw_mu0013_02.main.body 6 = s → Stmt) _ ?h
  case f => exact fun s _ => s
  case h => (conv => lhs; whnf)
noncomputable def tx7 : Stmt := by
  refine' (?f : ∀ s : Stmt, stAt pw_mu0013_02.main.body 7 = s → Stmt) _ ?h
  case f => exact fun s _ => s
  case h => (conv => lhs; whnf)
noncomputable def tx8 : Stmt := by
  refine' (?f : ∀ s : Stmt, stAt pw_mu0013_02.main.body 8 = s → Stmt) _ ?h
  case f => exact fun s _ => s
  case h => (conv => lhs; whnf)
noncomputable def tx9 : Stmt := by
  refine' (?f : ∀ s : Stmt, stAt pw_mu0013_02.main.body 9 = s → Stmt) _ ?h
  case f => exact fun s _ => s
  case h => (conv => lhs; whnf)
noncomputable def tx10 : Stmt := by
  refine' (?f : ∀ s : Stmt, stAt pw_mu0013_02.main.body 10 = s → Stmt) _ ?h
  case f => exact fun s _ => s
  case h => (conv => lhs; whnf)
noncomputable def tx11 : Stmt := by
  refine' (?f : ∀ s : Stmt, stAt pw_mu0013_02.main.body 11 = s → Stmt) _ ?h
  case f => exact fun s _ => s
  case h => (conv => lhs; whnf)
noncomputable def ty0 : Stmt := by
  refine' (?f : ∀ s : Stmt, stAt (bodyOf (stAt pw_mu0013_02.main.body 5)) 0 = s → Stmt) _ ?h
  case f => exact fun s _ => s
  case h => (conv => lhs; whnf)
noncomputable def ty1 : Stmt := by
  refine' (?f : ∀ s : Stmt, stAt (bodyOf (stAt pw_mu0013_02.main.body 5)) 1 = s → Stmt) _ ?h
  case f => exact fun s _ => s
  case h => (conv => lhs; whnf)
noncomputable def ty2 : Stmt := by
  refine' (?f : ∀ s : Stmt, stAt (bodyOf (stAt pw_mu0013_02.main.body 5)) 2 = s → Stmt) _ ?h
  case f => exact fun s _ => s
  case h => (conv => lhs; whnf)
noncomputable def ty3 : Stmt := by
  refine' (?f : ∀ s : Stmt, stAt (bodyOf (stAt pw_mu0013_02.main.body 5)) 3 = s → Stmt) _ ?h
  case f => exact fun s _ => s
  case h => (conv => lhs; whnf)
noncomputable def ty4 : Stmt := by
  refine' (?f : ∀ s : Stmt, stAt (bodyOf (stAt pw_mu0013_02.main.body 5)) 4 = s → Stmt) _ ?h
  case f => exact fun s _ => s
  case h => (conv => lhs; whnf)
noncomputable def ty5 : Stmt := by
  refine' (?f : ∀ s : Stmt, stAt (bodyOf (stAt pw_mu0013_02.main.body 5)) 5 = s → Stmt) _ ?h
  case f => exact fun s _ => s
  case h => (conv => lhs; whnf)
noncomputable def ty6 : Stmt := by
  refine' (?f : ∀ s : Stmt, stAt (bodyOf (stAt pw_mu0013_02.main.body 5)) 6 = s → Stmt) _ ?h
  case f => exact fun s _ => s
  case h => (conv => lhs; whnf)
noncomputable def ty7 : Stmt := by
  refine' (?f : ∀ s : Stmt, stAt (bodyOf (stAt pw_mu0013_02.main.body 5)) 7 = s → Stmt) _ ?h
  case f => exact fun s _ => s
  case h => (conv => lhs; whnf)
noncomputable def ty8 : Stmt := by
  refine' (?f : ∀ s : Stmt, stAt (bodyOf (stAt pw_mu0013_02.main.body 5)) 8 = s → Stmt) _ ?h
  case f => exact fun s _ => s
  case h => (conv => lhs; whnf)
noncomputable def ty9 : Stmt := by
  refine' (?f : ∀ s : Stmt, stAt (bodyOf (stAt pw_mu0013_02.main.body 5)) 9 = s → Stmt) _ ?h
  case f => exact fun s _ => s
  case h => (conv => lhs; whnf)
noncomputable def ty10 : Stmt := by
  refine' (?f : ∀ s : Stmt, stAt (bodyOf (stAt pw_mu0013_02.main.body 5)) 10 = s → Stmt) _ ?h
  case f => exact fun s _ => s
  case h => (conv => lhs; whnf)
noncomputable def ty11 : Stmt := by
  refine' (?f : ∀ s : Stmt, stAt (bodyOf (stAt pw_mu0013_02.main.body 5)) 11 = s → Stmt) _ ?h
  case f => exact fun s _ => s
  case h => (conv => lhs; whnf)
noncomputable def ty12 : Stmt := by
  refine' (?f : ∀ s : Stmt, stAt (bodyOf (stAt pw_mu0013_02.main.body 5)) 12 = s → Stmt) _ ?h
  case f => exact fun s _ => s
  case h => (conv => lhs; whnf)
noncomputable def tx5h : Stmt := by
  refine' (?f : ∀ s : Stmt, setBody [] (stAt pw_mu0013_02.main.body 5) = s → Stmt) _ ?h
  case f => exact fun s _ => s
  case h => (conv => lhs; whnf)
noncomputable def tx5 : Stmt := setBody [ty0, ty1, ty2, ty3, ty4, ty5, ty6, ty7, ty8, ty9, ty10, ty11, ty12] tx5h
noncomputable def txS : Scope := by
  refine' (?f : ∀ s : Scope, pw_mu0013_02.main.scope = s → Scope) _ ?h
  case f => exact fun s _ => s
  case h => (conv => lhs; whnf)
noncomputable def txG : Given := by
  refine' (?f : ∀ s : Given, pw_mu0013_02.given = s → Given) _ ?h
  case f => exact fun s _ => s
  case h => (conv => lhs; whnf)
noncomputable def pq : Program := { main := { body := [tx0, tx1, tx2, tx3, tx4, tx5, tx6, tx7, tx8, tx9, tx10, tx11], scope := txS, futureAnnotations := false, file := "/claim/cut.py", more := [] }, modules := [], parses := [], absent := [], harvested := [], given := txG }
theorem pq_eq : pw_mu0013_02 = pq := by kernel_rfl
noncomputable def top (i : Nat) : Stmt := stAt pq.main.body i
noncomputable def sub (i j : Nat) : Stmt := stAt (bodyOf (top i)) j
noncomputable def ob2 (_ : Params) : Obj := ⟨.none, none, (.dict #[] 0), #[]⟩
noncomputable def ob3 (P : Params) : Obj := ⟨(.type "dict"), none, (.dict #[⟨PyData.keyHash P (Str.ofString "__name__"), (.str (Str.ofString "__name__") 165), (.str (Str.ofString "law_mu0013_02") 592)⟩, ⟨PyData.keyHash P (Str.ofString "__doc__"), (.str (Str.ofString "__doc__") 166), .none⟩, ⟨PyData.keyHash P (Str.ofString "__package__"), (.str (Str.ofString "__package__") 167), .none⟩, ⟨PyData.keyHash P (Str.ofString "__loader__"), (.str (Str.ofString "__loader__") 168), (.builtin "__main__.__loader__#opaque")⟩, ⟨PyData.keyHash P (Str.ofString "__spec__"), (.str (Str.ofString "__spec__") 169), .none⟩, ⟨PyData.keyHash P (Str.ofString "__annotations__"), (.str (Str.ofString "__annotations__") 170), (.ref 6)⟩, ⟨PyData.keyHash P (Str.ofString "__builtins__"), (.str (Str.ofString "__builtins__") 171), (.ref 4)⟩, ⟨PyData.keyHash P (Str.ofString "__file__"), (.str (Str.ofString "__file__") 173), (.str (Str.ofString "/claim/cut.py") 172)⟩, ⟨PyData.keyHash P (Str.ofString "__cached__"), (.str (Str.ofString "__cached__") 174), .none⟩, ⟨PyData.keyHash P (Str.ofString "_wall"), (.str (Str.ofString "_wall") 193), (.ref 21)⟩, ⟨PyData.keyHash P (Str.ofString "_tuplegetter"), (.str (Str.ofString "_tuplegetter") 252), (.ref 60)⟩, ⟨PyData.keyHash P (Str.ofString "Match"), (.str (Str.ofString "Match") 380), (.ref 135)⟩, ⟨PyData.keyHash P (Str.ofString "_calculate_ratio"), (.str (Str.ofString "_calculate_ratio") 388), (.ref 145)⟩, ⟨PyData.keyHash P (Str.ofString "SequenceMatcher"), (.str (Str.ofString "SequenceMatcher") 574), (.ref 242)⟩, ⟨PyData.keyHash P (Str.ofString "bisect_left"), (.str (Str.ofString "bisect_left") 591), (.ref 255)⟩, ⟨PyData.keyHash P (Str.ofString "_law_mistake"), (.str (Str.ofString "_law_mistake") 599), (.ref 260)⟩, ⟨PyData.keyHash P (Str.ofString "_law_rise"), (.str (Str.ofString "_law_rise") 609), (.ref 267)⟩, ⟨PyData.keyHash P (Str.ofString "law"), (.str (Str.ofString "law") 615), (.ref 272)⟩] 18), #[]⟩
noncomputable def ob15 (_ : Params) : Obj := ⟨(.type "tuple"), none, (.seq #[] 0), #[]⟩
noncomputable def ob17 (_ : Params) : Obj := ⟨(.type "tuple"), none, (.seq #[(.str (Str.ofString "k") 190)] 0), #[]⟩
noncomputable def ob18 (_ : Params) : Obj := ⟨(.type "tuple"), none, (.seq #[] 0), #[]⟩
noncomputable def ob20 (_ : Params) : Obj := ⟨(.type "code"), none, (.fields #[(.str (Str.ofString "_wall") 187), (.str (Str.ofString "_wall") 188), (.str (Str.ofString "/claim/cut.py") 189), (.int 1 0), (.int 1 0), (.int 0 0), (.int 0 0), (.int 3 0), (.ref 15), (.bool true), (.int 181 0), (.ref 16), .none, (.ref 17), (.ref 18), (.ref 19), (.int 191 0), (.int 1 0), (.str (Str.ofString "/claim/cut.py") 192)]), #[]⟩
noncomputable def ob21 (_ : Params) : Obj := ⟨(.type "function"), none, (.func { name := (Str.ofString "_wall"), qualname := (Str.ofString "_wall"), params := argsOf (top 0), body := .stmts (bodyOf (top 0)), scope := scopeOf (top 0), globals := 3, closure := [], defaults := .none, kwdefaults := .none, doc := .none, pyModule := (.str (Str.ofString "__main__") 164), annotations := none, code := (.ref 20), closureTuple := .none, builtins := 0 }), #[]⟩
noncomputable def ob29 (_ : Params) : Obj := ⟨(.type "tuple"), none, (.seq #[] 0), #[]⟩
noncomputable def ob31 (_ : Params) : Obj := ⟨(.type "tuple"), none, (.seq #[(.str (Str.ofString "self") 211), (.str (Str.ofString "index") 212), (.str (Str.ofString "doc") 213)] 0), #[]⟩
noncomputable def ob32 (_ : Params) : Obj := ⟨(.type "tuple"), none, (.seq #[] 0), #[]⟩
noncomputable def ob34 (_ : Params) : Obj := ⟨(.type "code"), none, (.fields #[(.str (Str.ofString "__init__") 208), (.str (Str.ofString "_tuplegetter.__init__") 209), (.str (Str.ofString "/claim/cut.py") 210), (.int 7 0), (.int 3 0), (.int 0 0), (.int 0 0), (.int 3 0), (.ref 29), (.bool true), (.int 181 0), (.ref 30), .none, (.ref 31), (.ref 32), (.ref 33), (.int 214 0), (.int 7 0), (.str (Str.ofString "/claim/cut.py") 215)]), #[]⟩
noncomputable def ob35 (_ : Params) : Obj := ⟨(.type "function"), none, (.func { name := (Str.ofString "__init__"), qualname := (Str.ofString "_tuplegetter.__init__"), params := argsOf (sub 2 0), body := .stmts (bodyOf (sub 2 0)), scope := scopeOf (sub 2 0), globals := 3, closure := [], defaults := .none, kwdefaults := .none, doc := .none, pyModule := (.str (Str.ofString "cpy313.difflib") 194), annotations := none, code := (.ref 34), closureTuple := .none, builtins := 0 }), #[]⟩
noncomputable def ob36 (_ : Params) : Obj := ⟨(.type "tuple"), none, (.seq #[.none] 0), #[]⟩
noncomputable def ob37 (_ : Params) : Obj := ⟨(.type "tuple"), none, (.seq #[] 0), #[]⟩
noncomputable def ob39 (_ : Params) : Obj := ⟨(.type "tuple"), none, (.seq #[(.str (Str.ofString "self") 220), (.str (Str.ofString "obj") 221), (.str (Str.ofString "objtype") 222)] 0), #[]⟩
noncomputable def ob40 (_ : Params) : Obj := ⟨(.type "tuple"), none, (.seq #[] 0), #[]⟩
noncomputable def ob42 (_ : Params) : Obj := ⟨(.type "code"), none, (.fields #[(.str (Str.ofString "__get__") 217), (.str (Str.ofString "_tuplegetter.__get__") 218), (.str (Str.ofString "/claim/cut.py") 219), (.int 11 0), (.int 3 0), (.int 0 0), (.int 0 0), (.int 3 0), (.ref 37), (.bool true), (.int 181 0), (.ref 38), .none, (.ref 39), (.ref 40), (.ref 41), (.int 223 0), (.int 11 0), (.str (Str.ofString "/claim/cut.py") 224)]), #[]⟩
noncomputable def ob43 (_ : Params) : Obj := ⟨(.type "function"), none, (.func { name := (Str.ofString "__get__"), qualname := (Str.ofString "_tuplegetter.__get__"), params := argsOf (sub 2 1), body := .stmts (bodyOf (sub 2 1)), scope := scopeOf (sub 2 1), globals := 3, closure := [], defaults := (.ref 36), kwdefaults := .none, doc := .none, pyModule := (.str (Str.ofString "cpy313.difflib") 194), annotations := none, code := (.ref 42), closureTuple := .none, builtins := 0 }), #[]⟩
noncomputable def ob44 (_ : Params) : Obj := ⟨(.type "tuple"), none, (.seq #[] 0), #[]⟩
noncomputable def ob46 (_ : Params) : Obj := ⟨(.type "tuple"), none, (.seq #[(.str (Str.ofString "self") 229), (.str (Str.ofString "obj") 230), (.str (Str.ofString "value") 231)] 0), #[]⟩
noncomputable def ob47 (_ : Params) : Obj := ⟨(.type "tuple"), none, (.seq #[] 0), #[]⟩
noncomputable def ob49 (_ : Params) : Obj := ⟨(.type "code"), none, (.fields #[(.str (Str.ofString "__set__") 226), (.str (Str.ofString "_tuplegetter.__set__") 227), (.str (Str.ofString "/claim/cut.py") 228), (.int 18 0), (.int 3 0), (.int 0 0), (.int 0 0), (.int 3 0), (.ref 44), (.bool true), (.int 181 0), (.ref 45), .none, (.ref 46), (.ref 47), (.ref 48), (.int 232 0), (.int 18 0), (.str (Str.ofString "/claim/cut.py") 233)]), #[]⟩
noncomputable def ob50 (_ : Params) : Obj := ⟨(.type "function"), none, (.func { name := (Str.ofString "__set__"), qualname := (Str.ofString "_tuplegetter.__set__"), params := argsOf (sub 2 2), body := .stmts (bodyOf (sub 2 2)), scope := scopeOf (sub 2 2), globals := 3, closure := [], defaults := .none, kwdefaults := .none, doc := .none, pyModule := (.str (Str.ofString "cpy313.difflib") 194), annotations := none, code := (.ref 49), closureTuple := .none, builtins := 0 }), #[]⟩
noncomputable def ob51 (_ : Params) : Obj := ⟨(.type "tuple"), none, (.seq #[] 0), #[]⟩
noncomputable def ob53 (_ : Params) : Obj := ⟨(.type "tuple"), none, (.seq #[(.str (Str.ofString "self") 238), (.str (Str.ofString "obj") 239)] 0), #[]⟩
noncomputable def ob54 (_ : Params) : Obj := ⟨(.type "tuple"), none, (.seq #[] 0), #[]⟩
noncomputable def ob56 (_ : Params) : Obj := ⟨(.type "code"), none, (.fields #[(.str (Str.ofString "__delete__") 235), (.str (Str.ofString "_tuplegetter.__delete__") 236), (.str (Str.ofString "/claim/cut.py") 237), (.int 21 0), (.int 2 0), (.int 0 0), (.int 0 0), (.int 3 0), (.ref 51), (.bool true), (.int 181 0), (.ref 52), .none, (.ref 53), (.ref 54), (.ref 55), (.int 240 0), (.int 21 0), (.str (Str.ofString "/claim/cut.py") 241)]), #[]⟩
noncomputable def ob57 (_ : Params) : Obj := ⟨(.type "function"), none, (.func { name := (Str.ofString "__delete__"), qualname := (Str.ofString "_tuplegetter.__delete__"), params := argsOf (sub 2 3), body := .stmts (bodyOf (sub 2 3)), scope := scopeOf (sub 2 3), globals := 3, closure := [], defaults := .none, kwdefaults := .none, doc := .none, pyModule := (.str (Str.ofString "cpy313.difflib") 194), annotations := none, code := (.ref 56), closureTuple := .none, builtins := 0 }), #[]⟩
noncomputable def ob58 (_ : Params) : Obj := ⟨(.type "tuple"), none, (.seq #[(.str (Str.ofString "__doc__") 243), (.str (Str.ofString "index") 244)] 0), #[]⟩
noncomputable def ob59 (P : Params) : Obj := ⟨(.type "dict"), none, (.dict #[⟨PyData.keyHash P (Str.ofString "__module__"), (.str (Str.ofString "__module__") 203), (.str (Str.ofString "cpy313.difflib") 194)⟩, ⟨PyData.keyHash P (Str.ofString "__firstlineno__"), (.str (Str.ofString "__firstlineno__") 207), (.int 5 206)⟩, ⟨PyData.keyHash P (Str.ofString "__init__"), (.str (Str.ofString "__init__") 216), (.ref 35)⟩, ⟨PyData.keyHash P (Str.ofString "__get__"), (.str (Str.ofString "__get__") 225), (.ref 43)⟩, ⟨PyData.keyHash P (Str.ofString "__set__"), (.str (Str.ofString "__set__") 234), (.ref 50)⟩, ⟨PyData.keyHash P (Str.ofString "__delete__"), (.str (Str.ofString "__delete__") 242), (.ref 57)⟩, ⟨PyData.keyHash P (Str.ofString "__static_attributes__"), (.str (Str.ofString "__static_attributes__") 245), (.ref 58)⟩, ⟨PyData.keyHash P (Str.ofString "__dict__"), (.str (Str.ofString "__dict__") 247), (.ref 61)⟩, ⟨PyData.keyHash P (Str.ofString "__weakref__"), (.str (Str.ofString "__weakref__") 249), (.ref 62)⟩, ⟨PyData.keyHash P (Str.ofString "__doc__"), (.str (Str.ofString "__doc__") 250), .none⟩] 4), #[]⟩
noncomputable def ob60 (_ : Params) : Obj := ⟨(.type "type"), none, (.cls { name := (Str.ofString "_tuplegetter"), bases := [(.type "object")], mro := [(.ref 60), (.type "object")], ns := 59, qualname := (Str.ofString "_tuplegetter"), hasDict := true, slotNames := [], subclasses := [], abstract := false, collection := none, hasDel := false }), #[none, none, some (.str (Str.ofString "_tuplegetter") 196), some (.str (Str.ofString "_tuplegetter") 204), some (.builtin "object.__new__"), some (.bool true)]⟩
noncomputable def ob61 (_ : Params) : Obj := ⟨(.type "getset_descriptor"), none, (.fields #[(.str (Str.ofString "__dict__") 246), (.ref 60), (.builtin "function.__dict__"), (.builtin "function.__dict__#set")]), #[]⟩
noncomputable def ob62 (_ : Params) : Obj := ⟨(.type "getset_descriptor"), none, (.fields #[(.str (Str.ofString "__weakref__") 248), (.ref 60), (.builtin "ExceptionGroup.__weakref__"), .none]), #[]⟩
noncomputable def ob65 (_ : Params) : Obj := ⟨(.type "tuple"), none, (.seq #[(.type "tuple")] 0), #[]⟩
noncomputable def ob68 (_ : Params) : Obj := ⟨(.type "cell"), none, (.cell (some (.ref 135))), #[]⟩
noncomputable def ob73 (_ : Params) : Obj := ⟨(.type "tuple"), none, (.seq #[] 0), #[]⟩
noncomputable def ob74 (_ : Params) : Obj := ⟨(.type "tuple"), none, (.seq #[(.str (Str.ofString "a") 269), (.str (Str.ofString "b") 270), (.str (Str.ofString "size") 271)] 0), #[]⟩
noncomputable def ob75 (_ : Params) : Obj := ⟨(.type "dict"), none, (.dict #[] 0), #[]⟩
noncomputable def ob76 (_ : Params) : Obj := ⟨(.type "tuple"), none, (.seq #[] 0), #[]⟩
noncomputable def ob78 (_ : Params) : Obj := ⟨(.type "tuple"), none, (.seq #[(.str (Str.ofString "_cls") 277), (.str (Str.ofString "a") 278), (.str (Str.ofString "b") 279), (.str (Str.ofString "size") 280)] 0), #[]⟩
noncomputable def ob79 (_ : Params) : Obj := ⟨(.type "tuple"), none, (.seq #[] 0), #[]⟩
noncomputable def ob81 (_ : Params) : Obj := ⟨(.type "code"), none, (.fields #[(.str (Str.ofString "__new__") 274), (.str (Str.ofString "Match.__new__") 275), (.str (Str.ofString "/claim/cut.py") 276), (.int 29 0), (.int 4 0), (.int 0 0), (.int 0 0), (.int 3 0), (.ref 76), (.bool true), (.int 181 0), (.ref 77), .none, (.ref 78), (.ref 79), (.ref 80), (.int 281 0), (.int 29 0), (.str (Str.ofString "/claim/cut.py") 282)]), #[]⟩
noncomputable def ob82 (_ : Params) : Obj := ⟨(.type "function"), none, (.func { name := (Str.ofString "__new__"), qualname := (Str.ofString "Match.__new__"), params := argsOf (sub 3 4), body := .stmts (bodyOf (sub 3 4)), scope := scopeOf (sub 3 4), globals := 3, closure := [], defaults := .none, kwdefaults := .none, doc := (.str (docS (sub 3 4)) 283), pyModule := (.str (Str.ofString "cpy313.difflib") 194), annotations := none, code := (.ref 81), closureTuple := .none, builtins := 0 }), #[]⟩
noncomputable def ob83 (_ : Params) : Obj := ⟨(.type "tuple"), none, (.seq #[] 0), #[]⟩
noncomputable def ob85 (_ : Params) : Obj := ⟨(.type "tuple"), none, (.seq #[(.str (Str.ofString "cls") 288), (.str (Str.ofString "iterable") 289), (.str (Str.ofString "result") 290)] 0), #[]⟩
noncomputable def ob86 (_ : Params) : Obj := ⟨(.type "tuple"), none, (.seq #[] 0), #[]⟩
noncomputable def ob88 (_ : Params) : Obj := ⟨(.type "code"), none, (.fields #[(.str (Str.ofString "_make") 285), (.str (Str.ofString "Match._make") 286), (.str (Str.ofString "/claim/cut.py") 287), (.int 33 0), (.int 2 0), (.int 0 0), (.int 0 0), (.int 3 0), (.ref 83), (.bool true), (.int 181 0), (.ref 84), .none, (.ref 85), (.ref 86), (.ref 87), (.int 291 0), (.int 33 0), (.str (Str.ofString "/claim/cut.py") 292)]), #[]⟩
noncomputable def ob89 (_ : Params) : Obj := ⟨(.type "function"), none, (.func { name := (Str.ofString "_make"), qualname := (Str.ofString "Match._make"), params := argsOf (sub 3 5), body := .stmts (bodyOf (sub 3 5)), scope := scopeOf (sub 3 5), globals := 3, closure := [], defaults := .none, kwdefaults := .none, doc := (.str (docS (sub 3 5)) 293), pyModule := (.str (Str.ofString "cpy313.difflib") 194), annotations := (some 92), code := (.ref 88), closureTuple := .none, builtins := 0 }), #[]⟩
noncomputable def ob90 (P : Params) : Obj := ⟨(.type "dict"), none, (.dict #[⟨PyData.keyHash P (Str.ofString "__module__"), (.str (Str.ofString "__module__") 295), (.str (Str.ofString "cpy313.difflib") 194)⟩, ⟨PyData.keyHash P (Str.ofString "__name__"), (.str (Str.ofString "__name__") 298), (.str (Str.ofString "_make") 297)⟩, ⟨PyData.keyHash P (Str.ofString "__qualname__"), (.str (Str.ofString "__qualname__") 301), (.str (Str.ofString "Match._make") 300)⟩, ⟨PyData.keyHash P (Str.ofString "__doc__"), (.str (Str.ofString "__doc__") 303), (.str (docS (sub 3 5)) 293)⟩, ⟨PyData.keyHash P (Str.ofString "__annotations__"), (.str (Str.ofString "__annotations__") 305), (.ref 92)⟩] 5), #[]⟩
noncomputable def ob91 (_ : Params) : Obj := ⟨(.type "classmethod"), (some 90), (.fields #[(.ref 89), (.bool false)]), #[]⟩
noncomputable def ob92 (_ : Params) : Obj := ⟨(.type "dict"), none, (.dict #[] 0), #[]⟩
noncomputable def ob93 (_ : Params) : Obj := ⟨(.type "tuple"), none, (.seq #[(.ref 68)] 0), #[]⟩
noncomputable def ob94 (_ : Params) : Obj := ⟨(.type "tuple"), none, (.seq #[(.str (Str.ofString "__class__") 310)] 0), #[]⟩
noncomputable def ob96 (_ : Params) : Obj := ⟨(.type "tuple"), none, (.seq #[(.str (Str.ofString "self") 311), (.str (Str.ofString "kwds") 312), (.str (Str.ofString "result") 313)] 0), #[]⟩
noncomputable def ob97 (_ : Params) : Obj := ⟨(.type "tuple"), none, (.seq #[] 0), #[]⟩
noncomputable def ob99 (_ : Params) : Obj := ⟨(.type "code"), none, (.fields #[(.str (Str.ofString "_replace") 307), (.str (Str.ofString "Match._replace") 308), (.str (Str.ofString "/claim/cut.py") 309), (.int 41 0), (.int 1 0), (.int 1 0), (.int 0 0), (.int 11 0), (.ref 94), (.bool true), (.int 181 0), (.ref 95), .none, (.ref 96), (.ref 97), (.ref 98), (.int 314 0), (.int 41 0), (.str (Str.ofString "/claim/cut.py") 315)]), #[]⟩
noncomputable def ob100 (_ : Params) : Obj := ⟨(.type "function"), none, (.func { name := (Str.ofString "_replace"), qualname := (Str.ofString "Match._replace"), params := argsOf (sub 3 6), body := .stmts (bodyOf (sub 3 6)), scope := scopeOf (sub 3 6), globals := 3, closure := [((Str.ofString "__class__"), 68)], defaults := .none, kwdefaults := .none, doc := (.str (docS (sub 3 6)) 316), pyModule := (.str (Str.ofString "cpy313.difflib") 194), annotations := none, code := (.ref 99), closureTuple := (.ref 93), builtins := 0 }), #[]⟩
noncomputable def ob101 (_ : Params) : Obj := ⟨(.type "tuple"), none, (.seq #[] 0), #[]⟩
noncomputable def ob103 (_ : Params) : Obj := ⟨(.type "tuple"), none, (.seq #[(.str (Str.ofString "self") 322)] 0), #[]⟩
noncomputable def ob104 (_ : Params) : Obj := ⟨(.type "tuple"), none, (.seq #[] 0), #[]⟩
noncomputable def ob106 (_ : Params) : Obj := ⟨(.type "code"), none, (.fields #[(.str (Str.ofString "__repr__") 319), (.str (Str.ofString "Match.__repr__") 320), (.str (Str.ofString "/claim/cut.py") 321), (.int 52 0), (.int 1 0), (.int 0 0), (.int 0 0), (.int 3 0), (.ref 101), (.bool true), (.int 181 0), (.ref 102), .none, (.ref 103), (.ref 104), (.ref 105), (.int 323 0), (.int 52 0), (.str (Str.ofString "/claim/cut.py") 324)]), #[]⟩
noncomputable def ob107 (_ : Params) : Obj := ⟨(.type "function"), none, (.func { name := (Str.ofString "__repr__"), qualname := (Str.ofString "Match.__repr__"), params := argsOf (sub 3 8), body := .stmts (bodyOf (sub 3 8)), scope := scopeOf (sub 3 8), globals := 3, closure := [], defaults := .none, kwdefaults := .none, doc := (.str (docS (sub 3 8)) 325), pyModule := (.str (Str.ofString "cpy313.difflib") 194), annotations := none, code := (.ref 106), closureTuple := .none, builtins := 0 }), #[]⟩
noncomputable def ob108 (_ : Params) : Obj := ⟨(.type "tuple"), none, (.seq #[] 0), #[]⟩
noncomputable def ob110 (_ : Params) : Obj := ⟨(.type "tuple"), none, (.seq #[(.str (Str.ofString "self") 330)] 0), #[]⟩
noncomputable def ob111 (_ : Params) : Obj := ⟨(.type "tuple"), none, (.seq #[] 0), #[]⟩
noncomputable def ob113 (_ : Params) : Obj := ⟨(.type "code"), none, (.fields #[(.str (Str.ofString "_asdict") 327), (.str (Str.ofString "Match._asdict") 328), (.str (Str.ofString "/claim/cut.py") 329), (.int 56 0), (.int 1 0), (.int 0 0), (.int 0 0), (.int 3 0), (.ref 108), (.bool true), (.int 181 0), (.ref 109), .none, (.ref 110), (.ref 111), (.ref 112), (.int 331 0), (.int 56 0), (.str (Str.ofString "/claim/cut.py") 332)]), #[]⟩
noncomputable def ob114 (_ : Params) : Obj := ⟨(.type "function"), none, (.func { name := (Str.ofString "_asdict"), qualname := (Str.ofString "Match._asdict"), params := argsOf (sub 3 9), body := .stmts (bodyOf (sub 3 9)), scope := scopeOf (sub 3 9), globals := 3, closure := [], defaults := .none, kwdefaults := .none, doc := .none, pyModule := (.str (Str.ofString "cpy313.difflib") 194), annotations := none, code := (.ref 113), closureTuple := .none, builtins := 0 }), #[]⟩
noncomputable def ob115 (_ : Params) : Obj := ⟨(.type "tuple"), none, (.seq #[] 0), #[]⟩
noncomputable def ob117 (_ : Params) : Obj := ⟨(.type "tuple"), none, (.seq #[(.str (Str.ofString "self") 337)] 0), #[]⟩
noncomputable def ob118 (_ : Params) : Obj := ⟨(.type "tuple"), none, (.seq #[] 0), #[]⟩
noncomputable def ob120 (_ : Params) : Obj := ⟨(.type "code"), none, (.fields #[(.str (Str.ofString "__getnewargs__") 334), (.str (Str.ofString "Match.__getnewargs__") 335), (.str (Str.ofString "/claim/cut.py") 336), (.int 59 0), (.int 1 0), (.int 0 0), (.int 0 0), (.int 3 0), (.ref 115), (.bool true), (.int 181 0), (.ref 116), .none, (.ref 117), (.ref 118), (.ref 119), (.int 338 0), (.int 59 0), (.str (Str.ofString "/claim/cut.py") 339)]), #[]⟩
noncomputable def ob121 (_ : Params) : Obj := ⟨(.type "function"), none, (.func { name := (Str.ofString "__getnewargs__"), qualname := (Str.ofString "Match.__getnewargs__"), params := argsOf (sub 3 10), body := .stmts (bodyOf (sub 3 10)), scope := scopeOf (sub 3 10), globals := 3, closure := [], defaults := .none, kwdefaults := .none, doc := (.str (docS (sub 3 10)) 340), pyModule := (.str (Str.ofString "cpy313.difflib") 194), annotations := none, code := (.ref 120), closureTuple := .none, builtins := 0 }), #[]⟩
noncomputable def ob122 (_ : Params) : Obj := ⟨(.type "tuple"), none, (.seq #[(.str (Str.ofString "a") 342), (.str (Str.ofString "b") 343), (.str (Str.ofString "size") 344)] 0), #[]⟩
noncomputable def ob123 (P : Params) : Obj := ⟨(.type "dict"), none, (.dict #[⟨PyData.keyHash P (Str.ofString "index"), (.str (Str.ofString "index") 352), (.int 0 346)⟩, ⟨PyData.keyHash P (Str.ofString "__doc__"), (.str (Str.ofString "__doc__") 354), (.str (Str.ofString "Alias for field number 0") 347)⟩] 2), #[]⟩
noncomputable def ob124 (_ : Params) : Obj := ⟨(.ref 60), (some 123), .plain, #[]⟩
noncomputable def ob126 (P : Params) : Obj := ⟨(.type "dict"), none, (.dict #[⟨PyData.keyHash P (Str.ofString "index"), (.str (Str.ofString "index") 362), (.int 1 356)⟩, ⟨PyData.keyHash P (Str.ofString "__doc__"), (.str (Str.ofString "__doc__") 364), (.str (Str.ofString "Alias for field number 1") 357)⟩] 2), #[]⟩
noncomputable def ob127 (_ : Params) : Obj := ⟨(.ref 60), (some 126), .plain, #[]⟩
noncomputable def ob129 (P : Params) : Obj := ⟨(.type "dict"), none, (.dict #[⟨PyData.keyHash P (Str.ofString "index"), (.str (Str.ofString "index") 372), (.int 2 366)⟩, ⟨PyData.keyHash P (Str.ofString "__doc__"), (.str (Str.ofString "__doc__") 374), (.str (Str.ofString "Alias for field number 2") 367)⟩] 2), #[]⟩
noncomputable def ob130 (_ : Params) : Obj := ⟨(.ref 60), (some 129), .plain, #[]⟩
noncomputable def ob132 (_ : Params) : Obj := ⟨(.type "tuple"), none, (.seq #[] 0), #[]⟩
noncomputable def ob134 (P : Params) : Obj := ⟨(.type "dict"), none, (.dict #[⟨PyData.keyHash P (Str.ofString "__module__"), (.str (Str.ofString "__module__") 260), (.str (Str.ofString "cpy313.difflib") 194)⟩, ⟨PyData.keyHash P (Str.ofString "__firstlineno__"), (.str (Str.ofString "__firstlineno__") 264), (.int 23 263)⟩, ⟨PyData.keyHash P (Str.ofString "__doc__"), (.str (Str.ofString "__doc__") 266), (.str (docS (top 3)) 265)⟩, ⟨PyData.keyHash P (Str.ofString "__slots__"), (.str (Str.ofString "__slots__") 268), (.ref 73)⟩, ⟨PyData.keyHash P (Str.ofString "_fields"), (.str (Str.ofString "_fields") 272), (.ref 74)⟩, ⟨PyData.keyHash P (Str.ofString "_field_defaults"), (.str (Str.ofString "_field_defaults") 273), (.ref 75)⟩, ⟨PyData.keyHash P (Str.ofString "__new__"), (.str (Str.ofString "__new__") 284), (.ref 136)⟩, ⟨PyData.keyHash P (Str.ofString "_make"), (.str (Str.ofString "_make") 306), (.ref 91)⟩, ⟨PyData.keyHash P (Str.ofString "_replace"), (.str (Str.ofString "_replace") 317), (.ref 100)⟩, ⟨PyData.keyHash P (Str.ofString "__replace__"), (.str (Str.ofString "__replace__") 318), (.ref 100)⟩, ⟨PyData.keyHash P (Str.ofString "__repr__"), (.str (Str.ofString "__repr__") 326), (.ref 107)⟩, ⟨PyData.keyHash P (Str.ofString "_asdict"), (.str (Str.ofString "_asdict") 333), (.ref 114)⟩, ⟨PyData.keyHash P (Str.ofString "__getnewargs__"), (.str (Str.ofString "__getnewargs__") 341), (.ref 121)⟩, ⟨PyData.keyHash P (Str.ofString "__match_args__"), (.str (Str.ofString "__match_args__") 345), (.ref 122)⟩, ⟨PyData.keyHash P (Str.ofString "a"), (.str (Str.ofString "a") 355), (.ref 124)⟩, ⟨PyData.keyHash P (Str.ofString "b"), (.str (Str.ofString "b") 365), (.ref 127)⟩, ⟨PyData.keyHash P (Str.ofString "size"), (.str (Str.ofString "size") 375), (.ref 130)⟩, ⟨PyData.keyHash P (Str.ofString "__static_attributes__"), (.str (Str.ofString "__static_attributes__") 376), (.ref 132)⟩] 2), #[]⟩
noncomputable def ob135 (_ : Params) : Obj := ⟨(.type "type"), none, (.cls { name := (Str.ofString "Match"), bases := [(.type "tuple")], mro := [(.ref 135), (.type "tuple"), (.type "object")], ns := 134, qualname := (Str.ofString "Match"), hasDict := false, slotNames := [], subclasses := [], abstract := false, collection := none, hasDel := false }), #[some (.ref 65), none, some (.str (Str.ofString "Match") 253), some (.str (Str.ofString "Match") 261), some .none, some (.bool false)]⟩
noncomputable def ob136 (_ : Params) : Obj := ⟨(.type "staticmethod"), none, (.fields #[(.ref 82)]), #[]⟩
noncomputable def ob139 (_ : Params) : Obj := ⟨(.type "tuple"), none, (.seq #[] 0), #[]⟩
noncomputable def ob141 (_ : Params) : Obj := ⟨(.type "tuple"), none, (.seq #[(.str (Str.ofString "matches") 384), (.str (Str.ofString "length") 385)] 0), #[]⟩
noncomputable def ob142 (_ : Params) : Obj := ⟨(.type "tuple"), none, (.seq #[] 0), #[]⟩
noncomputable def ob144 (_ : Params) : Obj := ⟨(.type "code"), none, (.fields #[(.str (Str.ofString "_calculate_ratio") 381), (.str (Str.ofString "_calculate_ratio") 382), (.str (Str.ofString "/claim/cut.py") 383), (.int 66 0), (.int 2 0), (.int 0 0), (.int 0 0), (.int 3 0), (.ref 139), (.bool true), (.int 181 0), (.ref 140), .none, (.ref 141), (.ref 142), (.ref 143), (.int 386 0), (.int 66 0), (.str (Str.ofString "/claim/cut.py") 387)]), #[]⟩
noncomputable def ob145 (_ : Params) : Obj := ⟨(.type "function"), none, (.func { name := (Str.ofString "_calculate_ratio"), qualname := (Str.ofString "_calculate_ratio"), params := argsOf (top 4), body := .stmts (bodyOf (top 4)), scope := scopeOf (top 4), globals := 3, closure := [], defaults := .none, kwdefaults := .none, doc := .none, pyModule := (.str (Str.ofString "cpy313.difflib") 194), annotations := none, code := (.ref 144), closureTuple := .none, builtins := 0 }), #[]⟩
noncomputable def ob153 (_ : Params) : Obj := ⟨(.type "tuple"), none, (.seq #[.none, (.str (Str.ofString "") 404), (.str (Str.ofString "") 405), (.bool true)] 0), #[]⟩
noncomputable def ob154 (_ : Params) : Obj := ⟨(.type "tuple"), none, (.seq #[] 0), #[]⟩
noncomputable def ob156 (_ : Params) : Obj := ⟨(.type "tuple"), none, (.seq #[(.str (Str.ofString "self") 409), (.str (Str.ofString "isjunk") 410), (.str (Str.ofString "a") 411), (.str (Str.ofString "b") 412), (.str (Str.ofString "autojunk") 413)] 0), #[]⟩
noncomputable def ob157 (_ : Params) : Obj := ⟨(.type "tuple"), none, (.seq #[] 0), #[]⟩
noncomputable def ob159 (_ : Params) : Obj := ⟨(.type "code"), none, (.fields #[(.str (Str.ofString "__init__") 406), (.str (Str.ofString "SequenceMatcher.__init__") 407), (.str (Str.ofString "/claim/cut.py") 408), (.int 145 0), (.int 5 0), (.int 0 0), (.int 0 0), (.int 3 0), (.ref 154), (.bool true), (.int 181 0), (.ref 155), .none, (.ref 156), (.ref 157), (.ref 158), (.int 414 0), (.int 145 0), (.str (Str.ofString "/claim/cut.py") 415)]), #[]⟩
noncomputable def ob160 (_ : Params) : Obj := ⟨(.type "function"), none, (.func { name := (Str.ofString "__init__"), qualname := (Str.ofString "SequenceMatcher.__init__"), params := argsOf (sub 5 1), body := .stmts (bodyOf (sub 5 1)), scope := scopeOf (sub 5 1), globals := 3, closure := [], defaults := (.ref 153), kwdefaults := .none, doc := (.str (docS (sub 5 1)) 416), pyModule := (.str (Str.ofString "cpy313.difflib") 194), annotations := none, code := (.ref 159), closureTuple := .none, builtins := 0 }), #[]⟩
noncomputable def ob161 (_ : Params) : Obj := ⟨(.type "tuple"), none, (.seq #[] 0), #[]⟩
noncomputable def ob163 (_ : Params) : Obj := ⟨(.type "tuple"), none, (.seq #[(.str (Str.ofString "self") 421), (.str (Str.ofString "a") 422), (.str (Str.ofString "b") 423)] 0), #[]⟩
noncomputable def ob164 (_ : Params) : Obj := ⟨(.type "tuple"), none, (.seq #[] 0), #[]⟩
noncomputable def ob166 (_ : Params) : Obj := ⟨(.type "code"), none, (.fields #[(.str (Str.ofString "set_seqs") 418), (.str (Str.ofString "SequenceMatcher.set_seqs") 419), (.str (Str.ofString "/claim/cut.py") 420), (.int 173 0), (.int 3 0), (.int 0 0), (.int 0 0), (.int 3 0), (.ref 161), (.bool true), (.int 181 0), (.ref 162), .none, (.ref 163), (.ref 164), (.ref 165), (.int 424 0), (.int 173 0), (.str (Str.ofString "/claim/cut.py") 425)]), #[]⟩
noncomputable def ob167 (_ : Params) : Obj := ⟨(.type "function"), none, (.func { name := (Str.ofString "set_seqs"), qualname := (Str.ofString "SequenceMatcher.set_seqs"), params := argsOf (sub 5 2), body := .stmts (bodyOf (sub 5 2)), scope := scopeOf (sub 5 2), globals := 3, closure := [], defaults := .none, kwdefaults := .none, doc := (.str (docS (sub 5 2)) 426), pyModule := (.str (Str.ofString "cpy313.difflib") 194), annotations := none, code := (.ref 166), closureTuple := .none, builtins := 0 }), #[]⟩
noncomputable def ob168 (_ : Params) : Obj := ⟨(.type "tuple"), none, (.seq #[] 0), #[]⟩
noncomputable def ob170 (_ : Params) : Obj := ⟨(.type "tuple"), none, (.seq #[(.str (Str.ofString "self") 431), (.str (Str.ofString "a") 432)] 0), #[]⟩
noncomputable def ob171 (_ : Params) : Obj := ⟨(.type "tuple"), none, (.seq #[] 0), #[]⟩
noncomputable def ob173 (_ : Params) : Obj := ⟨(.type "code"), none, (.fields #[(.str (Str.ofString "set_seq1") 428), (.str (Str.ofString "SequenceMatcher.set_seq1") 429), (.str (Str.ofString "/claim/cut.py") 430), (.int 184 0), (.int 2 0), (.int 0 0), (.int 0 0), (.int 3 0), (.ref 168), (.bool true), (.int 181 0), (.ref 169), .none, (.ref 170), (.ref 171), (.ref 172), (.int 433 0), (.int 184 0), (.str (Str.ofString "/claim/cut.py") 434)]), #[]⟩
noncomputable def ob174 (_ : Params) : Obj := ⟨(.type "function"), none, (.func { name := (Str.ofString "set_seq1"), qualname := (Str.ofString "SequenceMatcher.set_seq1"), params := argsOf (sub 5 3), body := .stmts (bodyOf (sub 5 3)), scope := scopeOf (sub 5 3), globals := 3, closure := [], defaults := .none, kwdefaults := .none, doc := (.str (docS (sub 5 3)) 435), pyModule := (.str (Str.ofString "cpy313.difflib") 194), annotations := none, code := (.ref 173), closureTuple := .none, builtins := 0 }), #[]⟩
noncomputable def ob175 (_ : Params) : Obj := ⟨(.type "tuple"), none, (.seq #[] 0), #[]⟩
noncomputable def ob177 (_ : Params) : Obj := ⟨(.type "tuple"), none, (.seq #[(.str (Str.ofString "self") 440), (.str (Str.ofString "b") 441)] 0), #[]⟩
noncomputable def ob178 (_ : Params) : Obj := ⟨(.type "tuple"), none, (.seq #[] 0), #[]⟩
noncomputable def ob180 (_ : Params) : Obj := ⟨(.type "code"), none, (.fields #[(.str (Str.ofString "set_seq2") 437), (.str (Str.ofString "SequenceMatcher.set_seq2") 438), (.str (Str.ofString "/claim/cut.py") 439), (.int 209 0), (.int 2 0), (.int 0 0), (.int 0 0), (.int 3 0), (.ref 175), (.bool true), (.int 181 0), (.ref 176), .none, (.ref 177), (.ref 178), (.ref 179), (.int 442 0), (.int 209 0), (.str (Str.ofString "/claim/cut.py") 443)]), #[]⟩
noncomputable def ob181 (_ : Params) : Obj := ⟨(.type "function"), none, (.func { name := (Str.ofString "set_seq2"), qualname := (Str.ofString "SequenceMatcher.set_seq2"), params := argsOf (sub 5 4), body := .stmts (bodyOf (sub 5 4)), scope := scopeOf (sub 5 4), globals := 3, closure := [], defaults := .none, kwdefaults := .none, doc := (.str (docS (sub 5 4)) 444), pyModule := (.str (Str.ofString "cpy313.difflib") 194), annotations := none, code := (.ref 180), closureTuple := .none, builtins := 0 }), #[]⟩
noncomputable def ob182 (_ : Params) : Obj := ⟨(.type "tuple"), none, (.seq #[] 0), #[]⟩
noncomputable def ob184 (_ : Params) : Obj := ⟨(.type "tuple"), none, (.seq #[(.str (Str.ofString "self") 449), (.str (Str.ofString "b") 450), (.str (Str.ofString "b2j") 451), (.str (Str.ofString "i") 452), (.str (Str.ofString "elt") 453), (.str (Str.ofString "indices") 454), (.str (Str.ofString "junk") 455), (.str (Str.ofString "isjunk") 456), (.str (Str.ofString "popular") 457), (.str (Str.ofString "n") 458), (.str (Str.ofString "ntest") 459), (.str (Str.ofString "idxs") 460)] 0), #[]⟩
noncomputable def ob185 (_ : Params) : Obj := ⟨(.type "tuple"), none, (.seq #[] 0), #[]⟩
noncomputable def ob187 (_ : Params) : Obj := ⟨(.type "code"), none, (.fields #[(.str (Str.ofString "__chain_b") 446), (.str (Str.ofString "SequenceMatcher.__chain_b") 447), (.str (Str.ofString "/claim/cut.py") 448), (.int 236 0), (.int 1 0), (.int 0 0), (.int 0 0), (.int 3 0), (.ref 182), (.bool true), (.int 181 0), (.ref 183), .none, (.ref 184), (.ref 185), (.ref 186), (.int 461 0), (.int 236 0), (.str (Str.ofString "/claim/cut.py") 462)]), #[]⟩
noncomputable def ob188 (_ : Params) : Obj := ⟨(.type "function"), none, (.func { name := (Str.ofString "__chain_b"), qualname := (Str.ofString "SequenceMatcher.__chain_b"), params := argsOf (sub 5 5), body := .stmts (bodyOf (sub 5 5)), scope := scopeOf (sub 5 5), globals := 3, closure := [], defaults := .none, kwdefaults := .none, doc := .none, pyModule := (.str (Str.ofString "cpy313.difflib") 194), annotations := none, code := (.ref 187), closureTuple := .none, builtins := 0 }), #[]⟩
noncomputable def ob189 (_ : Params) : Obj := ⟨(.type "tuple"), none, (.seq #[(.int 0 464), .none, (.int 0 465), .none] 0), #[]⟩
noncomputable def ob190 (_ : Params) : Obj := ⟨(.type "tuple"), none, (.seq #[] 0), #[]⟩
noncomputable def ob192 (_ : Params) : Obj := ⟨(.type "tuple"), none, (.seq #[(.str (Str.ofString "self") 469), (.str (Str.ofString "alo") 470), (.str (Str.ofString "ahi") 471), (.str (Str.ofString "blo") 472), (.str (Str.ofString "bhi") 473), (.str (Str.ofString "a") 474), (.str (Str.ofString "b") 475), (.str (Str.ofString "b2j") 476), (.str (Str.ofString "isbjunk") 477), (.str (Str.ofString "besti") 478), (.str (Str.ofString "bestj") 479), (.str (Str.ofString "bestsize") 480), (.str (Str.ofString "j2len") 481), (.str (Str.ofString "nothing") 482), (.str (Str.ofString "i") 483), (.str (Str.ofString "j2lenget") 484), (.str (Str.ofString "newj2len") 485), (.str (Str.ofString "j") 486), (.str (Str.ofString "k") 487)] 0), #[]⟩
noncomputable def ob193 (_ : Params) : Obj := ⟨(.type "tuple"), none, (.seq #[] 0), #[]⟩
noncomputable def ob195 (_ : Params) : Obj := ⟨(.type "code"), none, (.fields #[(.str (Str.ofString "find_longest_match") 466), (.str (Str.ofString "SequenceMatcher.find_longest_match") 467), (.str (Str.ofString "/claim/cut.py") 468), (.int 260 0), (.int 5 0), (.int 0 0), (.int 0 0), (.int 3 0), (.ref 190), (.bool true), (.int 181 0), (.ref 191), .none, (.ref 192), (.ref 193), (.ref 194), (.int 488 0), (.int 260 0), (.str (Str.ofString "/claim/cut.py") 489)]), #[]⟩
noncomputable def ob196 (_ : Params) : Obj := ⟨(.type "function"), none, (.func { name := (Str.ofString "find_longest_match"), qualname := (Str.ofString "SequenceMatcher.find_longest_match"), params := argsOf (sub 5 6), body := .stmts (bodyOf (sub 5 6)), scope := scopeOf (sub 5 6), globals := 3, closure := [], defaults := (.ref 189), kwdefaults := .none, doc := (.str (docS (sub 5 6)) 490), pyModule := (.str (Str.ofString "cpy313.difflib") 194), annotations := none, code := (.ref 195), closureTuple := .none, builtins := 0 }), #[]⟩
noncomputable def ob197 (_ : Params) : Obj := ⟨(.type "tuple"), none, (.seq #[] 0), #[]⟩
noncomputable def ob199 (_ : Params) : Obj := ⟨(.type "tuple"), none, (.seq #[(.str (Str.ofString "self") 495), (.str (Str.ofString "la") 496), (.str (Str.ofString "lb") 497), (.str (Str.ofString "queue") 498), (.str (Str.ofString "matching_blocks") 499), (.str (Str.ofString "alo") 500), (.str (Str.ofString "ahi") 501), (.str (Str.ofString "blo") 502), (.str (Str.ofString "bhi") 503), (.str (Str.ofString "i") 504), (.str (Str.ofString "j") 505), (.str (Str.ofString "k") 506), (.str (Str.ofString "x") 507), (.str (Str.ofString "i1") 508), (.str (Str.ofString "j1") 509), (.str (Str.ofString "k1") 510), (.str (Str.ofString "non_adjacent") 511), (.str (Str.ofString "i2") 512), (.str (Str.ofString "j2") 513), (.str (Str.ofString "k2") 514)] 0), #[]⟩
noncomputable def ob200 (_ : Params) : Obj := ⟨(.type "tuple"), none, (.seq #[] 0), #[]⟩
noncomputable def ob202 (_ : Params) : Obj := ⟨(.type "code"), none, (.fields #[(.str (Str.ofString "get_matching_blocks") 492), (.str (Str.ofString "SequenceMatcher.get_matching_blocks") 493), (.str (Str.ofString "/claim/cut.py") 494), (.int 335 0), (.int 1 0), (.int 0 0), (.int 0 0), (.int 3 0), (.ref 197), (.bool true), (.int 181 0), (.ref 198), .none, (.ref 199), (.ref 200), (.ref 201), (.int 515 0), (.int 335 0), (.str (Str.ofString "/claim/cut.py") 516)]), #[]⟩
noncomputable def ob203 (_ : Params) : Obj := ⟨(.type "function"), none, (.func { name := (Str.ofString "get_matching_blocks"), qualname := (Str.ofString "SequenceMatcher.get_matching_blocks"), params := argsOf (sub 5 7), body := .stmts (bodyOf (sub 5 7)), scope := scopeOf (sub 5 7), globals := 3, closure := [], defaults := .none, kwdefaults := .none, doc := (.str (docS (sub 5 7)) 517), pyModule := (.str (Str.ofString "cpy313.difflib") 194), annotations := none, code := (.ref 202), closureTuple := .none, builtins := 0 }), #[]⟩
noncomputable def ob204 (_ : Params) : Obj := ⟨(.type "tuple"), none, (.seq #[] 0), #[]⟩
noncomputable def ob206 (_ : Params) : Obj := ⟨(.type "tuple"), none, (.seq #[(.str (Str.ofString "self") 522)] 0), #[]⟩
noncomputable def ob207 (_ : Params) : Obj := ⟨(.type "tuple"), none, (.seq #[] 0), #[]⟩
noncomputable def ob209 (_ : Params) : Obj := ⟨(.type "code"), none, (.fields #[(.str (Str.ofString "get_opcodes") 519), (.str (Str.ofString "SequenceMatcher.get_opcodes") 520), (.str (Str.ofString "/claim/cut.py") 521), (.int 383 0), (.int 1 0), (.int 0 0), (.int 0 0), (.int 3 0), (.ref 204), (.bool true), (.int 181 0), (.ref 205), .none, (.ref 206), (.ref 207), (.ref 208), (.int 523 0), (.int 383 0), (.str (Str.ofString "/claim/cut.py") 524)]), #[]⟩
noncomputable def ob210 (_ : Params) : Obj := ⟨(.type "function"), none, (.func { name := (Str.ofString "get_opcodes"), qualname := (Str.ofString "SequenceMatcher.get_opcodes"), params := argsOf (sub 5 8), body := .stmts (bodyOf (sub 5 8)), scope := scopeOf (sub 5 8), globals := 3, closure := [], defaults := .none, kwdefaults := .none, doc := .none, pyModule := (.str (Str.ofString "cpy313.difflib") 194), annotations := none, code := (.ref 209), closureTuple := .none, builtins := 0 }), #[]⟩
noncomputable def ob211 (_ : Params) : Obj := ⟨(.type "tuple"), none, (.seq #[(.int 3 526)] 0), #[]⟩
noncomputable def ob212 (_ : Params) : Obj := ⟨(.type "tuple"), none, (.seq #[] 0), #[]⟩
noncomputable def ob214 (_ : Params) : Obj := ⟨(.type "tuple"), none, (.seq #[(.str (Str.ofString "self") 530), (.str (Str.ofString "n") 531)] 0), #[]⟩
noncomputable def ob215 (_ : Params) : Obj := ⟨(.type "tuple"), none, (.seq #[] 0), #[]⟩
noncomputable def ob217 (_ : Params) : Obj := ⟨(.type "code"), none, (.fields #[(.str (Str.ofString "get_grouped_opcodes") 527), (.str (Str.ofString "SequenceMatcher.get_grouped_opcodes") 528), (.str (Str.ofString "/claim/cut.py") 529), (.int 386 0), (.int 2 0), (.int 0 0), (.int 0 0), (.int 3 0), (.ref 212), (.bool true), (.int 181 0), (.ref 213), .none, (.ref 214), (.ref 215), (.ref 216), (.int 532 0), (.int 386 0), (.str (Str.ofString "/claim/cut.py") 533)]), #[]⟩
noncomputable def ob218 (_ : Params) : Obj := ⟨(.type "function"), none, (.func { name := (Str.ofString "get_grouped_opcodes"), qualname := (Str.ofString "SequenceMatcher.get_grouped_opcodes"), params := argsOf (sub 5 9), body := .stmts (bodyOf (sub 5 9)), scope := scopeOf (sub 5 9), globals := 3, closure := [], defaults := (.ref 211), kwdefaults := .none, doc := .none, pyModule := (.str (Str.ofString "cpy313.difflib") 194), annotations := none, code := (.ref 217), closureTuple := .none, builtins := 0 }), #[]⟩
noncomputable def ob219 (_ : Params) : Obj := ⟨(.type "tuple"), none, (.seq #[] 0), #[]⟩
noncomputable def ob221 (_ : Params) : Obj := ⟨(.type "tuple"), none, (.seq #[(.str (Str.ofString "self") 538), (.str (Str.ofString "matches") 539)] 0), #[]⟩
noncomputable def ob222 (_ : Params) : Obj := ⟨(.type "tuple"), none, (.seq #[] 0), #[]⟩
noncomputable def ob224 (_ : Params) : Obj := ⟨(.type "code"), none, (.fields #[(.str (Str.ofString "ratio") 535), (.str (Str.ofString "SequenceMatcher.ratio") 536), (.str (Str.ofString "/claim/cut.py") 537), (.int 389 0), (.int 1 0), (.int 0 0), (.int 0 0), (.int 3 0), (.ref 219), (.bool true), (.int 181 0), (.ref 220), .none, (.ref 221), (.ref 222), (.ref 223), (.int 540 0), (.int 389 0), (.str (Str.ofString "/claim/cut.py") 541)]), #[]⟩
noncomputable def ob225 (_ : Params) : Obj := ⟨(.type "function"), none, (.func { name := (Str.ofString "ratio"), qualname := (Str.ofString "SequenceMatcher.ratio"), params := argsOf (sub 5 10), body := .stmts (bodyOf (sub 5 10)), scope := scopeOf (sub 5 10), globals := 3, closure := [], defaults := .none, kwdefaults := .none, doc := (.str (docS (sub 5 10)) 542), pyModule := (.str (Str.ofString "cpy313.difflib") 194), annotations := none, code := (.ref 224), closureTuple := .none, builtins := 0 }), #[]⟩
noncomputable def ob226 (_ : Params) : Obj := ⟨(.type "tuple"), none, (.seq #[] 0), #[]⟩
noncomputable def ob228 (_ : Params) : Obj := ⟨(.type "tuple"), none, (.seq #[(.str (Str.ofString "self") 547)] 0), #[]⟩
noncomputable def ob229 (_ : Params) : Obj := ⟨(.type "tuple"), none, (.seq #[] 0), #[]⟩
noncomputable def ob231 (_ : Params) : Obj := ⟨(.type "code"), none, (.fields #[(.str (Str.ofString "quick_ratio") 544), (.str (Str.ofString "SequenceMatcher.quick_ratio") 545), (.str (Str.ofString "/claim/cut.py") 546), (.int 413 0), (.int 1 0), (.int 0 0), (.int 0 0), (.int 3 0), (.ref 226), (.bool true), (.int 181 0), (.ref 227), .none, (.ref 228), (.ref 229), (.ref 230), (.int 548 0), (.int 413 0), (.str (Str.ofString "/claim/cut.py") 549)]), #[]⟩
noncomputable def ob232 (_ : Params) : Obj := ⟨(.type "function"), none, (.func { name := (Str.ofString "quick_ratio"), qualname := (Str.ofString "SequenceMatcher.quick_ratio"), params := argsOf (sub 5 11), body := .stmts (bodyOf (sub 5 11)), scope := scopeOf (sub 5 11), globals := 3, closure := [], defaults := .none, kwdefaults := .none, doc := .none, pyModule := (.str (Str.ofString "cpy313.difflib") 194), annotations := none, code := (.ref 231), closureTuple := .none, builtins := 0 }), #[]⟩
noncomputable def ob233 (_ : Params) : Obj := ⟨(.type "tuple"), none, (.seq #[] 0), #[]⟩
noncomputable def ob235 (_ : Params) : Obj := ⟨(.type "tuple"), none, (.seq #[(.str (Str.ofString "self") 554)] 0), #[]⟩
noncomputable def ob236 (_ : Params) : Obj := ⟨(.type "tuple"), none, (.seq #[] 0), #[]⟩
noncomputable def ob238 (_ : Params) : Obj := ⟨(.type "code"), none, (.fields #[(.str (Str.ofString "real_quick_ratio") 551), (.str (Str.ofString "SequenceMatcher.real_quick_ratio") 552), (.str (Str.ofString "/claim/cut.py") 553), (.int 416 0), (.int 1 0), (.int 0 0), (.int 0 0), (.int 3 0), (.ref 233), (.bool true), (.int 181 0), (.ref 234), .none, (.ref 235), (.ref 236), (.ref 237), (.int 555 0), (.int 416 0), (.str (Str.ofString "/claim/cut.py") 556)]), #[]⟩
noncomputable def ob239 (_ : Params) : Obj := ⟨(.type "function"), none, (.func { name := (Str.ofString "real_quick_ratio"), qualname := (Str.ofString "SequenceMatcher.real_quick_ratio"), params := argsOf (sub 5 12), body := .stmts (bodyOf (sub 5 12)), scope := scopeOf (sub 5 12), globals := 3, closure := [], defaults := .none, kwdefaults := .none, doc := .none, pyModule := (.str (Str.ofString "cpy313.difflib") 194), annotations := none, code := (.ref 238), closureTuple := .none, builtins := 0 }), #[]⟩
noncomputable def ob240 (_ : Params) : Obj := ⟨(.type "tuple"), none, (.seq #[(.str (Str.ofString "a") 558), (.str (Str.ofString "autojunk") 559), (.str (Str.ofString "b") 560), (.str (Str.ofString "b2j") 561), (.str (Str.ofString "bjunk") 562), (.str (Str.ofString "bpopular") 563), (.str (Str.ofString "fullbcount") 564), (.str (Str.ofString "isjunk") 565), (.str (Str.ofString "matching_blocks") 566), (.str (Str.ofString "opcodes") 567)] 0), #[]⟩
noncomputable def ob241 (P : Params) : Obj := ⟨(.type "dict"), none, (.dict #[⟨PyData.keyHash P (Str.ofString "__module__"), (.str (Str.ofString "__module__") 396), (.str (Str.ofString "cpy313.difflib") 194)⟩, ⟨PyData.keyHash P (Str.ofString "__firstlineno__"), (.str (Str.ofString "__firstlineno__") 400), (.int 70 399)⟩, ⟨PyData.keyHash P (Str.ofString "__doc__"), (.str (Str.ofString "__doc__") 402), (.str (docS (top 5)) 401)⟩, ⟨PyData.keyHash P (Str.ofString "__init__"), (.str (Str.ofString "__init__") 417), (.ref 160)⟩, ⟨PyData.keyHash P (Str.ofString "set_seqs"), (.str (Str.ofString "set_seqs") 427), (.ref 167)⟩, ⟨PyData.keyHash P (Str.ofString "set_seq1"), (.str (Str.ofString "set_seq1") 436), (.ref 174)⟩, ⟨PyData.keyHash P (Str.ofString "set_seq2"), (.str (Str.ofString "set_seq2") 445), (.ref 181)⟩, ⟨PyData.keyHash P (Str.ofString "_SequenceMatcher__chain_b"), (.str (Str.ofString "_SequenceMatcher__chain_b") 463), (.ref 188)⟩, ⟨PyData.keyHash P (Str.ofString "find_longest_match"), (.str (Str.ofString "find_longest_match") 491), (.ref 196)⟩, ⟨PyData.keyHash P (Str.ofString "get_matching_blocks"), (.str (Str.ofString "get_matching_blocks") 518), (.ref 203)⟩, ⟨PyData.keyHash P (Str.ofString "get_opcodes"), (.str (Str.ofString "get_opcodes") 525), (.ref 210)⟩, ⟨PyData.keyHash P (Str.ofString "get_grouped_opcodes"), (.str (Str.ofString "get_grouped_opcodes") 534), (.ref 218)⟩, ⟨PyData.keyHash P (Str.ofString "ratio"), (.str (Str.ofString "ratio") 543), (.ref 225)⟩, ⟨PyData.keyHash P (Str.ofString "quick_ratio"), (.str (Str.ofString "quick_ratio") 550), (.ref 232)⟩, ⟨PyData.keyHash P (Str.ofString "real_quick_ratio"), (.str (Str.ofString "real_quick_ratio") 557), (.ref 239)⟩, ⟨PyData.keyHash P (Str.ofString "__static_attributes__"), (.str (Str.ofString "__static_attributes__") 568), (.ref 240)⟩, ⟨PyData.keyHash P (Str.ofString "__dict__"), (.str (Str.ofString "__dict__") 570), (.ref 243)⟩, ⟨PyData.keyHash P (Str.ofString "__weakref__"), (.str (Str.ofString "__weakref__") 572), (.ref 244)⟩] 3), #[]⟩
noncomputable def ob242 (_ : Params) : Obj := ⟨(.type "type"), none, (.cls { name := (Str.ofString "SequenceMatcher"), bases := [(.type "object")], mro := [(.ref 242), (.type "object")], ns := 241, qualname := (Str.ofString "SequenceMatcher"), hasDict := true, slotNames := [], subclasses := [], abstract := false, collection := none, hasDel := false }), #[none, none, some (.str (Str.ofString "SequenceMatcher") 389), some (.str (Str.ofString "SequenceMatcher") 397), some (.builtin "object.__new__"), some (.bool true)]⟩
noncomputable def ob243 (_ : Params) : Obj := ⟨(.type "getset_descriptor"), none, (.fields #[(.str (Str.ofString "__dict__") 569), (.ref 242), (.builtin "function.__dict__"), (.builtin "function.__dict__#set")]), #[]⟩
noncomputable def ob244 (_ : Params) : Obj := ⟨(.type "getset_descriptor"), none, (.fields #[(.str (Str.ofString "__weakref__") 571), (.ref 242), (.builtin "ExceptionGroup.__weakref__"), .none]), #[]⟩
noncomputable def ob247 (_ : Params) : Obj := ⟨(.type "tuple"), none, (.seq #[(.int 0 577), .none] 0), #[]⟩
noncomputable def ob248 (P : Params) : Obj := ⟨(.type "dict"), none, (.dict #[⟨PyData.keyHash P (Str.ofString "key"), (.str (Str.ofString "key") 578), .none⟩] 1), #[]⟩
noncomputable def ob249 (_ : Params) : Obj := ⟨(.type "tuple"), none, (.seq #[] 0), #[]⟩
noncomputable def ob251 (_ : Params) : Obj := ⟨(.type "tuple"), none, (.seq #[(.str (Str.ofString "a") 582), (.str (Str.ofString "x") 583), (.str (Str.ofString "lo") 584), (.str (Str.ofString "hi") 585), (.str (Str.ofString "key") 586), (.str (Str.ofString "mid") 587)] 0), #[]⟩
noncomputable def ob252 (_ : Params) : Obj := ⟨(.type "tuple"), none, (.seq #[] 0), #[]⟩
noncomputable def ob254 (_ : Params) : Obj := ⟨(.type "code"), none, (.fields #[(.str (Str.ofString "bisect_left") 579), (.str (Str.ofString "bisect_left") 580), (.str (Str.ofString "/claim/cut.py") 581), (.int 419 0), (.int 4 0), (.int 0 0), (.int 1 0), (.int 3 0), (.ref 249), (.bool true), (.int 181 0), (.ref 250), .none, (.ref 251), (.ref 252), (.ref 253), (.int 588 0), (.int 419 0), (.str (Str.ofString "/claim/cut.py") 589)]), #[]⟩
noncomputable def ob255 (_ : Params) : Obj := ⟨(.type "function"), none, (.func { name := (Str.ofString "bisect_left"), qualname := (Str.ofString "bisect_left"), params := argsOf (top 7), body := .stmts (bodyOf (top 7)), scope := scopeOf (top 7), globals := 3, closure := [], defaults := (.ref 247), kwdefaults := (.ref 248), doc := (.str (docS (top 7)) 590), pyModule := (.str (Str.ofString "cpy313.bisect") 575), annotations := none, code := (.ref 254), closureTuple := .none, builtins := 0 }), #[]⟩
noncomputable def ob256 (_ : Params) : Obj := ⟨(.type "tuple"), none, (.seq #[] 0), #[]⟩
noncomputable def ob259 (_ : Params) : Obj := ⟨(.type "code"), none, (.fields #[(.str (Str.ofString "_law_mistake") 594), (.str (Str.ofString "_law_mistake") 595), (.str (Str.ofString "/claim/cut.py") 596), (.int 451 0), (.int 3 0), (.int 0 0), (.int 0 0), (.int 3 0), (.ref 256), (.bool true), (.int 181 0), (.ref 257), .none, .none, .none, (.ref 258), (.int 597 0), (.int 451 0), (.str (Str.ofString "/claim/cut.py") 598)]), #[]⟩
noncomputable def ob260 (_ : Params) : Obj := ⟨(.type "function"), none, (.func { name := (Str.ofString "_law_mistake"), qualname := (Str.ofString "_law_mistake"), params := argsOf (top 9), body := .stmts (bodyOf (top 9)), scope := scopeOf (top 9), globals := 3, closure := [], defaults := .none, kwdefaults := .none, doc := .none, pyModule := (.str (Str.ofString "law_mu0013_02") 592), annotations := none, code := (.ref 259), closureTuple := .none, builtins := 0 }), #[]⟩
noncomputable def ob261 (_ : Params) : Obj := ⟨(.type "tuple"), none, (.seq #[] 0), #[]⟩
noncomputable def ob263 (_ : Params) : Obj := ⟨(.type "tuple"), none, (.seq #[(.str (Str.ofString "places") 603), (.str (Str.ofString "rise") 604), (.str (Str.ofString "place") 605), (.str (Str.ofString "k") 606)] 0), #[]⟩
noncomputable def ob264 (_ : Params) : Obj := ⟨(.type "tuple"), none, (.seq #[] 0), #[]⟩
noncomputable def ob266 (_ : Params) : Obj := ⟨(.type "code"), none, (.fields #[(.str (Str.ofString "_law_rise") 600), (.str (Str.ofString "_law_rise") 601), (.str (Str.ofString "/claim/cut.py") 602), (.int 460 0), (.int 1 0), (.int 0 0), (.int 0 0), (.int 3 0), (.ref 261), (.bool true), (.int 181 0), (.ref 262), .none, (.ref 263), (.ref 264), (.ref 265), (.int 607 0), (.int 460 0), (.str (Str.ofString "/claim/cut.py") 608)]), #[]⟩
noncomputable def ob267 (_ : Params) : Obj := ⟨(.type "function"), none, (.func { name := (Str.ofString "_law_rise"), qualname := (Str.ofString "_law_rise"), params := argsOf (top 10), body := .stmts (bodyOf (top 10)), scope := scopeOf (top 10), globals := 3, closure := [], defaults := .none, kwdefaults := .none, doc := .none, pyModule := (.str (Str.ofString "law_mu0013_02") 592), annotations := none, code := (.ref 266), closureTuple := .none, builtins := 0 }), #[]⟩
noncomputable def ob268 (_ : Params) : Obj := ⟨(.type "tuple"), none, (.seq #[] 0), #[]⟩
noncomputable def ob271 (_ : Params) : Obj := ⟨(.type "code"), none, (.fields #[(.str (Str.ofString "law") 610), (.str (Str.ofString "law") 611), (.str (Str.ofString "/claim/cut.py") 612), (.int 469 0), (.int 1 0), (.int 0 0), (.int 0 0), (.int 3 0), (.ref 268), (.bool true), (.int 181 0), (.ref 269), .none, .none, .none, (.ref 270), (.int 613 0), (.int 469 0), (.str (Str.ofString "/claim/cut.py") 614)]), #[]⟩
noncomputable def ob272 (_ : Params) : Obj := ⟨(.type "function"), none, (.func { name := (Str.ofString "law"), qualname := (Str.ofString "law"), params := argsOf (top 11), body := .stmts (bodyOf (top 11)), scope := scopeOf (top 11), globals := 3, closure := [], defaults := .none, kwdefaults := .none, doc := .none, pyModule := (.str (Str.ofString "law_mu0013_02") 592), annotations := none, code := (.ref 271), closureTuple := .none, builtins := 0 }), #[]⟩
noncomputable def K2 (P : Params) : Frag := (nat_lit 2, ob2 P) :: (nat_lit 3, ob3 P) :: (nat_lit 15, ob15 P) :: (nat_lit 17, ob17 P) :: (nat_lit 18, ob18 P) :: (nat_lit 20, ob20 P) :: (nat_lit 21, ob21 P) :: (nat_lit 29, ob29 P) :: (nat_lit 31, ob31 P) :: (nat_lit 32, ob32 P) :: (nat_lit 34, ob34 P) :: (nat_lit 35, ob35 P) :: (nat_lit 36, ob36 P) :: (nat_lit 37, ob37 P) :: (nat_lit 39, ob39 P) :: (nat_lit 40, ob40 P) :: (nat_lit 42, ob42 P) :: (nat_lit 43, ob43 P) :: (nat_lit 44, ob44 P) :: (nat_lit 46, ob46 P) :: (nat_lit 47, ob47 P) :: (nat_lit 49, ob49 P) :: (nat_lit 50, ob50 P) :: (nat_lit 51, ob51 P) :: (nat_lit 53, ob53 P) :: (nat_lit 54, ob54 P) :: (nat_lit 56, ob56 P) :: (nat_lit 57, ob57 P) :: (nat_lit 58, ob58 P) :: (nat_lit 59, ob59 P) :: (nat_lit 60, ob60 P) :: (nat_lit 61, ob61 P) :: (nat_lit 62, ob62 P) :: (nat_lit 65, ob65 P) :: (nat_lit 68, ob68 P) :: (nat_lit 73, ob73 P) :: (nat_lit 74, ob74 P) :: (nat_lit 75, ob75 P) :: (nat_lit 76, ob76 P) :: (nat_lit 78, ob78 P) :: (nat_lit 79, ob79 P) :: (nat_lit 81, ob81 P) :: (nat_lit 82, ob82 P) :: (nat_lit 83, ob83 P) :: (nat_lit 85, ob85 P) :: (nat_lit 86, ob86 P) :: (nat_lit 88, ob88 P) :: (nat_lit 89, ob89 P) :: (nat_lit 90, ob90 P) :: (nat_lit 91, ob91 P) :: (nat_lit 92, ob92 P) :: (nat_lit 93, ob93 P) :: (nat_lit 94, ob94 P) :: (nat_lit 96, ob96 P) :: (nat_lit 97, ob97 P) :: (nat_lit 99, ob99 P) :: (nat_lit 100, ob100 P) :: (nat_lit 101, ob101 P) :: (nat_lit 103, ob103 P) :: (nat_lit 104, ob104 P) :: (nat_lit 106, ob106 P) :: (nat_lit 107, ob107 P) :: (nat_lit 108, ob108 P) :: (nat_lit 110, ob110 P) :: (nat_lit 111, ob111 P) :: (nat_lit 113, ob113 P) :: (nat_lit 114, ob114 P) :: (nat_lit 115, ob115 P) :: (nat_lit 117, ob117 P) :: (nat_lit 118, ob118 P) :: (nat_lit 120, ob120 P) :: (nat_lit 121, ob121 P) :: (nat_lit 122, ob122 P) :: (nat_lit 123, ob123 P) :: (nat_lit 124, ob124 P) :: (nat_lit 126, ob126 P) :: (nat_lit 127, ob127 P) :: (nat_lit 129, ob129 P) :: (nat_lit 130, ob130 P) :: (nat_lit 132, ob132 P) :: (nat_lit 134, ob134 P) :: (nat_lit 135, ob135 P) :: (nat_lit 136, ob136 P) :: (nat_lit 139, ob139 P) :: (nat_lit 141, ob141 P) :: (nat_lit 142, ob142 P) :: (nat_lit 144, ob144 P) :: (nat_lit 145, ob145 P) :: (nat_lit 153, ob153 P) :: (nat_lit 154, ob154 P) :: (nat_lit 156, ob156 P) :: (nat_lit 157, ob157 P) :: (nat_lit 159, ob159 P) :: (nat_lit 160, ob160 P) :: (nat_lit 161, ob161 P) :: (nat_lit 163, ob163 P) :: (nat_lit 164, ob164 P) :: (nat_lit 166, ob166 P) :: (nat_lit 167, ob167 P) :: (nat_lit 168, ob168 P) :: (nat_lit 170, ob170 P) :: (nat_lit 171, ob171 P) :: (nat_lit 173, ob173 P) :: (nat_lit 174, ob174 P) :: (nat_lit 175, ob175 P) :: (nat_lit 177, ob177 P) :: (nat_lit 178, ob178 P) :: (nat_lit 180, ob180 P) :: (nat_lit 181, ob181 P) :: (nat_lit 182, ob182 P) :: (nat_lit 184, ob184 P) :: (nat_lit 185, ob185 P) :: (nat_lit 187, ob187 P) :: (nat_lit 188, ob188 P) :: (nat_lit 189, ob189 P) :: (nat_lit 190, ob190 P) :: (nat_lit 192, ob192 P) :: (nat_lit 193, ob193 P) :: (nat_lit 195, ob195 P) :: (nat_lit 196, ob196 P) :: (nat_lit 197, ob197 P) :: (nat_lit 199, ob199 P) :: (nat_lit 200, ob200 P) :: (nat_lit 202, ob202 P) :: (nat_lit 203, ob203 P) :: (nat_lit 204, ob204 P) :: (nat_lit 206, ob206 P) :: (nat_lit 207, ob207 P) :: (nat_lit 209, ob209 P) :: (nat_lit 210, ob210 P) :: (nat_lit 211, ob211 P) :: (nat_lit 212, ob212 P) :: (nat_lit 214, ob214 P) :: (nat_lit 215, ob215 P) :: (nat_lit 217, ob217 P) :: (nat_lit 218, ob218 P) :: (nat_lit 219, ob219 P) :: (nat_lit 221, ob221 P) :: (nat_lit 222, ob222 P) :: (nat_lit 224, ob224 P) :: (nat_lit 225, ob225 P) :: (nat_lit 226, ob226 P) :: (nat_lit 228, ob228 P) :: (nat_lit 229, ob229 P) :: (nat_lit 231, ob231 P) :: (nat_lit 232, ob232 P) :: (nat_lit 233, ob233 P) :: (nat_lit 235, ob235 P) :: (nat_lit 236, ob236 P) :: (nat_lit 238, ob238 P) :: (nat_lit 239, ob239 P) :: (nat_lit 240, ob240 P) :: (nat_lit 241, ob241 P) :: (nat_lit 242, ob242 P) :: (nat_lit 243, ob243 P) :: (nat_lit 244, ob244 P) :: (nat_lit 247, ob247 P) :: (nat_lit 248, ob248 P) :: (nat_lit 249, ob249 P) :: (nat_lit 251, ob251 P) :: (nat_lit 252, ob252 P) :: (nat_lit 254, ob254 P) :: (nat_lit 255, ob255 P) :: (nat_lit 256, ob256 P) :: (nat_lit 259, ob259 P) :: (nat_lit 260, ob260 P) :: (nat_lit 261, ob261 P) :: (nat_lit 263, ob263 P) :: (nat_lit 264, ob264 P) :: (nat_lit 266, ob266 P) :: (nat_lit 267, ob267 P) :: (nat_lit 268, ob268 P) :: (nat_lit 271, ob271 P) :: (nat_lit 272, ob272 P) :: []
noncomputable def k2La (P : Params) (r : List (Addr × Obj)) : List (Addr × Obj) := (nat_lit 2, ob2 P) :: (nat_lit 3, ob3 P) :: (nat_lit 15, ob15 P) :: (nat_lit 17, ob17 P) :: (nat_lit 18, ob18 P) :: (nat_lit 20, ob20 P) :: (nat_lit 21, ob21 P) :: (nat_lit 29, ob29 P) :: (nat_lit 31, ob31 P) :: (nat_lit 32, ob32 P) :: (nat_lit 34, ob34 P) :: (nat_lit 35, ob35 P) :: r
noncomputable def k2Lb (P : Params) (r : List (Addr × Obj)) : List (Addr × Obj) := (nat_lit 36, ob36 P) :: (nat_lit 37, ob37 P) :: (nat_lit 39, ob39 P) :: (nat_lit 40, ob40 P) :: (nat_lit 42, ob42 P) :: (nat_lit 43, ob43 P) :: (nat_lit 44, ob44 P) :: (nat_lit 46, ob46 P) :: (nat_lit 47, ob47 P) :: (nat_lit 49, ob49 P) :: (nat_lit 50, ob50 P) :: (nat_lit 51, ob51 P) :: r
noncomputable def k2Lc (P : Params) (r : List (Addr × Obj)) : List (Addr × Obj) := (nat_lit 53, ob53 P) :: (nat_lit 54, ob54 P) :: (nat_lit 56, ob56 P) :: (nat_lit 57, ob57 P) :: (nat_lit 58, ob58 P) :: (nat_lit 59, ob59 P) :: (nat_lit 60, ob60 P) :: (nat_lit 61, ob61 P) :: (nat_lit 62, ob62 P) :: (nat_lit 65, ob65 P) :: (nat_lit 68, ob68 P) :: (nat_lit 73, ob73 P) :: r
noncomputable def k2Ld (P : Params) (r : List (Addr × Obj)) : List (Addr × Obj) := (nat_lit 74, ob74 P) :: (nat_lit 75, ob75 P) :: (nat_lit 76, ob76 P) :: (nat_lit 78, ob78 P) :: (nat_lit 79, ob79 P) :: (nat_lit 81, ob81 P) :: (nat_lit 82, ob82 P) :: (nat_lit 83, ob83 P) :: (nat_lit 85, ob85 P) :: (nat_lit 86, ob86 P) :: (nat_lit 88, ob88 P) :: (nat_lit 89, ob89 P) :: r
noncomputable def k2Le (P : Params) (r : List (Addr × Obj)) : List (Addr × Obj) := (nat_lit 90, ob90 P) :: (nat_lit 91, ob91 P) :: (nat_lit 92, ob92 P) :: (nat_lit 93, ob93 P) :: (nat_lit 94, ob94 P) :: (nat_lit 96, ob96 P) :: (nat_lit 97, ob97 P) :: (nat_lit 99, ob99 P) :: (nat_lit 100, ob100 P) :: (nat_lit 101, ob101 P) :: (nat_lit 103, ob103 P) :: (nat_lit 104, ob104 P) :: r
noncomputable def k2Lf (P : Params) (r : List (Addr × Obj)) : List (Addr × Obj) := (nat_lit 106, ob106 P) :: (nat_lit 107, ob107 P) :: (nat_lit 108, ob108 P) :: (nat_lit 110, ob110 P) :: (nat_lit 111, ob111 P) :: (nat_lit 113, ob113 P) :: (nat_lit 114, ob114 P) :: (nat_lit 115, ob115 P) :: (nat_lit 117, ob117 P) :: (nat_lit 118, ob118 P) :: (nat_lit 120, ob120 P) :: (nat_lit 121, ob121 P) :: r
noncomputable def k2Lg (P : Params) (r : List (Addr × Obj)) : List (Addr × Obj) := (nat_lit 122, ob122 P) :: (nat_lit 123, ob123 P) :: (nat_lit 124, ob124 P) :: (nat_lit 126, ob126 P) :: (nat_lit 127, ob127 P) :: (nat_lit 129, ob129 P) :: (nat_lit 130, ob130 P) :: (nat_lit 132, ob132 P) :: (nat_lit 134, ob134 P) :: (nat_lit 135, ob135 P) :: (nat_lit 136, ob136 P) :: (nat_lit 139, ob139 P) :: r
noncomputable def k2Lh (P : Params) (r : List (Addr × Obj)) : List (Addr × Obj) := (nat_lit 141, ob141 P) :: (nat_lit 142, ob142 P) :: (nat_lit 144, ob144 P) :: (nat_lit 145, ob145 P) :: (nat_lit 153, ob153 P) :: (nat_lit 154, ob154 P) :: (nat_lit 156, ob156 P) :: (nat_lit 157, ob157 P) :: (nat_lit 159, ob159 P) :: (nat_lit 160, ob160 P) :: (nat_lit 161, ob161 P) :: (nat_lit 163, ob163 P) :: r
noncomputable def k2Li (P : Params) (r : List (Addr × Obj)) : List (Addr × Obj) := (nat_lit 164, ob164 P) :: (nat_lit 166, ob166 P) :: (nat_lit 167, ob167 P) :: (nat_lit 168, ob168 P) :: (nat_lit 170, ob170 P) :: (nat_lit 171, ob171 P) :: (nat_lit 173, ob173 P) :: (nat_lit 174, ob174 P) :: (nat_lit 175, ob175 P) :: (nat_lit 177, ob177 P) :: (nat_lit 178, ob178 P) :: (nat_lit 180, ob180 P) :: r
noncomputable def k2Lj (P : Params) (r : List (Addr × Obj)) : List (Addr × Obj) := (nat_lit 181, ob181 P) :: (nat_lit 182, ob182 P) :: (nat_lit 184, ob184 P) :: (nat_lit 185, ob185 P) :: (nat_lit 187, ob187 P) :: (nat_lit 188, ob188 P) :: (nat_lit 189, ob189 P) :: (nat_lit 190, ob190 P) :: (nat_lit 192, ob192 P) :: (nat_lit 193, ob193 P) :: (nat_lit 195, ob195 P) :: (nat_lit 196, ob196 P) :: r
noncomputable def k2Lk (P : Params) (r : List (Addr × Obj)) : List (Addr × Obj) := (nat_lit 197, ob197 P) :: (nat_lit 199, ob199 P) :: (nat_lit 200, ob200 P) :: (nat_lit 202, ob202 P) :: (nat_lit 203, ob203 P) :: (nat_lit 204, ob204 P) :: (nat_lit 206, ob206 P) :: (nat_lit 207, ob207 P) :: (nat_lit 209, ob209 P) :: (nat_lit 210, ob210 P) :: (nat_lit 211, ob211 P) :: (nat_lit 212, ob212 P) :: r
noncomputable def k2Ll (P : Params) (r : List (Addr × Obj)) : List (Addr × Obj) := (nat_lit 214, ob214 P) :: (nat_lit 215, ob215 P) :: (nat_lit 217, ob217 P) :: (nat_lit 218, ob218 P) :: (nat_lit 219, ob219 P) :: (nat_lit 221, ob221 P) :: (nat_lit 222, ob222 P) :: (nat_lit 224, ob224 P) :: (nat_lit 225, ob225 P) :: (nat_lit 226, ob226 P) :: (nat_lit 228, ob228 P) :: (nat_lit 229, ob229 P) :: r
noncomputable def k2Lm (P : Params) (r : List (Addr × Obj)) : List (Addr × Obj) := (nat_lit 231, ob231 P) :: (nat_lit 232, ob232 P) :: (nat_lit 233, ob233 P) :: (nat_lit 235, ob235 P) :: (nat_lit 236, ob236 P) :: (nat_lit 238, ob238 P) :: (nat_lit 239, ob239 P) :: (nat_lit 240, ob240 P) :: (nat_lit 241, ob241 P) :: (nat_lit 242, ob242 P) :: (nat_lit 243, ob243 P) :: (nat_lit 244, ob244 P) :: r
noncomputable def k2Ln (P : Params) (r : List (Addr × Obj)) : List (Addr × Obj) := (nat_lit 247, ob247 P) :: (nat_lit 248, ob248 P) :: (nat_lit 249, ob249 P) :: (nat_lit 251, ob251 P) :: (nat_lit 252, ob252 P) :: (nat_lit 254, ob254 P) :: (nat_lit 255, ob255 P) :: (nat_lit 256, ob256 P) :: (nat_lit 259, ob259 P) :: (nat_lit 260, ob260 P) :: (nat_lit 261, ob261 P) :: (nat_lit 263, ob263 P) :: r
noncomputable def k2Lo (P : Params) (r : List (Addr × Obj)) : List (Addr × Obj) := (nat_lit 264, ob264 P) :: (nat_lit 266, ob266 P) :: (nat_lit 267, ob267 P) :: (nat_lit 268, ob268 P) :: (nat_lit 271, ob271 P) :: (nat_lit 272, ob272 P) :: r
noncomputable def k2L (P : Params) : List (Addr × Obj) := k2La P (k2Lb P (k2Lc P (k2Ld P (k2Le P (k2Lf P (k2Lg P (k2Lh P (k2Li P (k2Lj P (k2Lk P (k2Ll P (k2Lm P (k2Ln P (k2Lo P []))))))))))))))
noncomputable def asK2 : List Addr := nat_lit 2 :: nat_lit 3 :: nat_lit 15 :: nat_lit 17 :: nat_lit 18 :: nat_lit 20 :: nat_lit 21 :: nat_lit 29 :: nat_lit 31 :: nat_lit 32 :: nat_lit 34 :: nat_lit 35 :: nat_lit 36 :: nat_lit 37 :: nat_lit 39 :: nat_lit 40 :: nat_lit 42 :: nat_lit 43 :: nat_lit 44 :: nat_lit 46 :: nat_lit 47 :: nat_lit 49 :: nat_lit 50 :: nat_lit 51 :: nat_lit 53 :: nat_lit 54 :: nat_lit 56 :: nat_lit 57 :: nat_lit 58 :: nat_lit 59 :: nat_lit 60 :: nat_lit 61 :: nat_lit 62 :: nat_lit 65 :: nat_lit 68 :: nat_lit 73 :: nat_lit 74 :: nat_lit 75 :: nat_lit 76 :: nat_lit 78 :: nat_lit 79 :: nat_lit 81 :: nat_lit 82 :: nat_lit 83 :: nat_lit 85 :: nat_lit 86 :: nat_lit 88 :: nat_lit 89 :: nat_lit 90 :: nat_lit 91 :: nat_lit 92 :: nat_lit 93 :: nat_lit 94 :: nat_lit 96 :: nat_lit 97 :: nat_lit 99 :: nat_lit 100 :: nat_lit 101 :: nat_lit 103 :: nat_lit 104 :: nat_lit 106 :: nat_lit 107 :: nat_lit 108 :: nat_lit 110 :: nat_lit 111 :: nat_lit 113 :: nat_lit 114 :: nat_lit 115 :: nat_lit 117 :: nat_lit 118 :: nat_lit 120 :: nat_lit 121 :: nat_lit 122 :: nat_lit 123 :: nat_lit 124 :: nat_lit 126 :: nat_lit 127 :: nat_lit 129 :: nat_lit 130 :: nat_lit 132 :: nat_lit 134 :: nat_lit 135 :: nat_lit 136 :: nat_lit 139 :: nat_lit 141 :: nat_lit 142 :: nat_lit 144 :: nat_lit 145 :: nat_lit 153 :: nat_lit 154 :: nat_lit 156 :: nat_lit 157 :: nat_lit 159 :: nat_lit 160 :: nat_lit 161 :: nat_lit 163 :: nat_lit 164 :: nat_lit 166 :: nat_lit 167 :: nat_lit 168 :: nat_lit 170 :: nat_lit 171 :: nat_lit 173 :: nat_lit 174 :: nat_lit 175 :: nat_lit 177 :: nat_lit 178 :: nat_lit 180 :: nat_lit 181 :: nat_lit 182 :: nat_lit 184 :: nat_lit 185 :: nat_lit 187 :: nat_lit 188 :: nat_lit 189 :: nat_lit 190 :: nat_lit 192 :: nat_lit 193 :: nat_lit 195 :: nat_lit 196 :: nat_lit 197 :: nat_lit 199 :: nat_lit 200 :: nat_lit 202 :: nat_lit 203 :: nat_lit 204 :: nat_lit 206 :: nat_lit 207 :: nat_lit 209 :: nat_lit 210 :: nat_lit 211 :: nat_lit 212 :: nat_lit 214 :: nat_lit 215 :: nat_lit 217 :: nat_lit 218 :: nat_lit 219 :: nat_lit 221 :: nat_lit 222 :: nat_lit 224 :: nat_lit 225 :: nat_lit 226 :: nat_lit 228 :: nat_lit 229 :: nat_lit 231 :: nat_lit 232 :: nat_lit 233 :: nat_lit 235 :: nat_lit 236 :: nat_lit 238 :: nat_lit 239 :: nat_lit 240 :: nat_lit 241 :: nat_lit 242 :: nat_lit 243 :: nat_lit 244 :: nat_lit 247 :: nat_lit 248 :: nat_lit 249 :: nat_lit 251 :: nat_lit 252 :: nat_lit 254 :: nat_lit 255 :: nat_lit 256 :: nat_lit 259 :: nat_lit 260 :: nat_lit 261 :: nat_lit 263 :: nat_lit 264 :: nat_lit 266 :: nat_lit 267 :: nat_lit 268 :: nat_lit 271 :: nat_lit 272 :: []
noncomputable def q2 : Program := view pq [0, 1, 4, 6, 8, 9, 10, 11]
noncomputable def loose2 : List Str := [Str.ofString "_tuplegetter", Str.ofString "Match", Str.ofString "SequenceMatcher", Str.ofString "bisect_left"]
noncomputable def xt2 (s : Shared) : Bool := xlAt q2 [] s && recOk [] s
theorem asK2_eq (P : Params) : asK2 = (K2 P).map (·.1) := by kernel_rfl
noncomputable def obs2 (s : Shared) : List (Option Obj) := getsOf s.heap asK2
noncomputable def val2 (w : World) : List (Option Obj) := optsOf (k2L w.params)
noncomputable def whole2 (w : World) (os : OsState) := wholeBy tableQ pq q2 loose2 xt2 4584 w (s0T w os) ((boot_heap w.params).nsMap mainGlobals "__annotations__") (boot_heap w.params)
noncomputable def look2 (w : World) (os : OsState) := lookBy tableQ pq obs2 4584 w (s0T w os) ((boot_heap w.params).nsMap mainGlobals "__annotations__") (boot_heap w.params)
noncomputable def good2 := some (openGood q2 loose2)
noncomputable def some2 (w : World) := some (val2 w)
theorem warm : (fun (_ : World → OsState → _) (_ : Option _) (_ : World → OsState → _) (_ : World → _) => true) whole2 good2 look2 some2 = true := by k_qdec
set_option maxHeartbeats 0 in
theorem check2 (w : World) : (fun os => whole2 w os) = fun _ => good2 := by
  rw [PySem.W.Fast.te4165110978206148404, PySem.W.Fast.te14205110778110953275]
  kernel_rfl
set_option maxHeartbeats 0 in
theorem looked2 (w : World) : (fun os => look2 w os) = fun _ => some2 w := by
  rw [PySem.W.Fast.te2328526617337647392, PySem.W.Fast.te8047570249723429633]
  kernel_rfl
theorem left2' : LeftO pq q2 loose2 xt2 obs2 val2 4584 true :=
  left_of (boot_open (by kernel_rfl) (by decide) (fun _ => by kernel_rfl)) check2 looked2

noncomputable def d2 : DefRec := ⟨Str.ofString "law", argsOf (top 11), bodyOf (top 11), scopeOf (top 11), ⟨469, 0, 485, 15⟩⟩
theorem k2_in (w : World) (s : Shared) (e : obs2 s = val2 w) : InK K2 w s.heap :=
  InK.of (K := K2) asK2_eq w s (by rw [← getsOf_eq]; exact e.trans (optsOf_eq _))
noncomputable def rq : OpenLaw := { prog := pq, name := (Str.ofString "law"), about := [(Str.ofString "SequenceMatcher"), (Str.ofString "get_matching_blocks")], foot := 3, most := some 63, bound := none, writes := false }
theorem rq_eq : rw_mu0013_02 = rq := by
  unfold rw_mu0013_02 rq
  rw [pq_eq]
theorem head2q (walk : WalkO q2 loose2 (XL q2 []) (InK K2) rq.row.toRowW d2 [] fun f vs => call f vs) : rq.Holds := by
  w_on
  o_law
  refine PySem.W.holds_open (q := q2) (loose := loose2) (Xt := xt2) (XP := XL q2 []) (Yf := obs2) (Ya := val2) (YP := InK K2) (N := 4584) left2' k2_in InK.keeps (fun s e => xl_of s (Bool.and_eq_true_iff.mp e).1) XL.keeps (by kernel_rfl) (by kernel_rfl) (by kernel_rfl) (fun s e => recFacts_of (Bool.and_eq_true_iff.mp e).2) (by rfl) (by assumption) (by decide +kernel) ⟨rfl, rfl, rfl, rfl, rfl, by decide +kernel⟩ ?hw walk
  case hw => exact ⟨[.list []], by decide +kernel, by decide +kernel⟩
theorem head2 (walk : WalkO q2 loose2 (XL q2 []) (InK K2) rw_mu0013_02.row.toRowW d2 [] fun f vs => call f vs) : rw_mu0013_02.Holds := by
  rw [rq_eq] at walk ⊢
  exact head2q walk
end Mine
end
section
set_option autoImplicit false
namespace Mine
/-! the plain law of 02: what a search for longest blocks keeps -/
section count
open Classical
noncomputable def cnt (p : Nat → Prop) (lo : Nat) : Nat → Nat
  | 0 => 0
  | n + 1 => cnt p lo n + if p (lo + n) then 1 else 0
theorem cnt_add (p : Nat → Prop) (lo n : Nat) : ∀ m, cnt p lo (n + m) = cnt p lo n + cnt p (lo + n) m
  | 0 => by simp [cnt]
  | m + 1 => by
    show cnt p lo (n + m) + _ = _
    rw [cnt_add p lo n m]
    show _ = cnt p lo n + (cnt p (lo + n) m + _)
    rw [show lo + n.add m = lo + n + m from (Nat.add_assoc lo n m).symm]; lia
theorem cnt_congr {p q : Nat → Prop} {lo : Nat} : ∀ {n : Nat}, (∀ i, lo ≤ i → i < lo + n → (p i ↔ q i)) → cnt p lo n = cnt q lo n
  | 0, _ => rfl
  | n + 1, h => by
    have e := cnt_congr (n := n) (p := p) (q := q) (lo := lo) fun i a b => h i a (by first | assumption | exact Nat.le_refl _ | exact Nat.zero_le _ | exact Nat.le_add_right _ _ | exact Nat.lt_add_of_pos_right (by assumption) | exact Nat.le_of_lt (by assumption) | exact Nat.le_trans (by assumption) (Nat.le_add_right _ _) | exact Nat.le_trans (by assumption) (by assumption) | exact Nat.lt_of_lt_of_le (by assumption) (by assumption) | exact Nat.lt_of_le_of_lt (by assumption) (by assumption) | exact Nat.add_le_add_left (by assumption) _ | exact Nat.add_lt_add_left (by assumption) _ | exact Nat.le_of_eq (Nat.add_sub_cancel' (by assumption)) | lia)
    have e2 := h (lo + n) (by first | assumption | exact Nat.le_refl _ | exact Nat.zero_le _ | exact Nat.le_add_right _ _ | exact Nat.lt_add_of_pos_right (by assumption) | exact Nat.le_of_lt (by assumption) | exact Nat.le_trans (by assumption) (Nat.le_add_right _ _) | exact Nat.le_trans (by assumption) (by assumption) | exact Nat.lt_of_lt_of_le (by assumption) (by assumption) | exact Nat.lt_of_le_of_lt (by assumption) (by assumption) | exact Nat.add_le_add_left (by assumption) _ | exact Nat.add_lt_add_left (by assumption) _ | exact Nat.le_of_eq (Nat.add_sub_cancel' (by assumption)) | lia) (by first | assumption | exact Nat.le_refl _ | exact Nat.zero_le _ | exact Nat.le_add_right _ _ | exact Nat.lt_add_of_pos_right (by assumption) | exact Nat.le_of_lt (by assumption) | exact Nat.le_trans (by assumption) (Nat.le_add_right _ _) | exact Nat.le_trans (by assumption) (by assumption) | exact Nat.lt_of_lt_of_le (by assumption) (by assumption) | exact Nat.lt_of_le_of_lt (by assumption) (by assumption) | exact Nat.add_le_add_left (by assumption) _ | exact Nat.add_lt_add_left (by assumption) _ | exact Nat.le_of_eq (Nat.add_sub_cancel' (by assumption)) | lia)
    show cnt p lo n + _ = cnt q lo n + _
    rw [e]; congr 1
    simp only [e2]
theorem cnt_all {p : Nat → Prop} {lo : Nat} : ∀ {n : Nat}, (∀ i, lo ≤ i → i < lo + n → p i) → cnt p lo n = n
  | 0, _ => rfl
  | n + 1, h => by
    show cnt p lo n + _ = _
    rw [cnt_all (n := n) fun i a b => h i a (by first | assumption | exact Nat.le_refl _ | exact Nat.zero_le _ | exact Nat.le_add_right _ _ | exact Nat.lt_add_of_pos_right (by assumption) | exact Nat.le_of_lt (by assumption) | exact Nat.le_trans (by assumption) (Nat.le_add_right _ _) | exact Nat.le_trans (by assumption) (by assumption) | exact Nat.lt_of_lt_of_le (by assumption) (by assumption) | exact Nat.lt_of_le_of_lt (by assumption) (by assumption) | exact Nat.add_le_add_left (by assumption) _ | exact Nat.add_lt_add_left (by assumption) _ | exact Nat.le_of_eq (Nat.add_sub_cancel' (by assumption)) | lia), if_pos (h _ (by first | assumption | exact Nat.le_refl _ | exact Nat.zero_le _ | exact Nat.le_add_right _ _ | exact Nat.lt_add_of_pos_right (by assumption) | exact Nat.le_of_lt (by assumption) | exact Nat.le_trans (by assumption) (Nat.le_add_right _ _) | exact Nat.le_trans (by assumption) (by assumption) | exact Nat.lt_of_lt_of_le (by assumption) (by assumption) | exact Nat.lt_of_le_of_lt (by assumption) (by assumption) | exact Nat.add_le_add_left (by assumption) _ | exact Nat.add_lt_add_left (by assumption) _ | exact Nat.le_of_eq (Nat.add_sub_cancel' (by assumption)) | lia) (by first | assumption | exact Nat.le_refl _ | exact Nat.zero_le _ | exact Nat.le_add_right _ _ | exact Nat.lt_add_of_pos_right (by assumption) | exact Nat.le_of_lt (by assumption) | exact Nat.le_trans (by assumption) (Nat.le_add_right _ _) | exact Nat.le_trans (by assumption) (by assumption) | exact Nat.lt_of_lt_of_le (by assumption) (by assumption) | exact Nat.lt_of_le_of_lt (by assumption) (by assumption) | exact Nat.add_le_add_left (by assumption) _ | exact Nat.add_lt_add_left (by assumption) _ | exact Nat.le_of_eq (Nat.add_sub_cancel' (by assumption)) | lia))]
theorem cnt_none {p : Nat → Prop} {lo : Nat} : ∀ {n : Nat}, (∀ i, lo ≤ i → i < lo + n → ¬ p i) → cnt p lo n = 0
  | 0, _ => rfl
  | n + 1, h => by
    show cnt p lo n + _ = _
    rw [cnt_none (n := n) fun i a b => h i a (by first | assumption | exact Nat.le_refl _ | exact Nat.zero_le _ | exact Nat.le_add_right _ _ | exact Nat.lt_add_of_pos_right (by assumption) | exact Nat.le_of_lt (by assumption) | exact Nat.le_trans (by assumption) (Nat.le_add_right _ _) | exact Nat.le_trans (by assumption) (by assumption) | exact Nat.lt_of_lt_of_le (by assumption) (by assumption) | exact Nat.lt_of_le_of_lt (by assumption) (by assumption) | exact Nat.add_le_add_left (by assumption) _ | exact Nat.add_lt_add_left (by assumption) _ | exact Nat.le_of_eq (Nat.add_sub_cancel' (by assumption)) | lia), if_neg (h _ (by first | assumption | exact Nat.le_refl _ | exact Nat.zero_le _ | exact Nat.le_add_right _ _ | exact Nat.lt_add_of_pos_right (by assumption) | exact Nat.le_of_lt (by assumption) | exact Nat.le_trans (by assumption) (Nat.le_add_right _ _) | exact Nat.le_trans (by assumption) (by assumption) | exact Nat.lt_of_lt_of_le (by assumption) (by assumption) | exact Nat.lt_of_le_of_lt (by assumption) (by assumption) | exact Nat.add_le_add_left (by assumption) _ | exact Nat.add_lt_add_left (by assumption) _ | exact Nat.le_of_eq (Nat.add_sub_cancel' (by assumption)) | lia) (by first | assumption | exact Nat.le_refl _ | exact Nat.zero_le _ | exact Nat.le_add_right _ _ | exact Nat.lt_add_of_pos_right (by assumption) | exact Nat.le_of_lt (by assumption) | exact Nat.le_trans (by assumption) (Nat.le_add_right _ _) | exact Nat.le_trans (by assumption) (by assumption) | exact Nat.lt_of_lt_of_le (by assumption) (by assumption) | exact Nat.lt_of_le_of_lt (by assumption) (by assumption) | exact Nat.add_le_add_left (by assumption) _ | exact Nat.add_lt_add_left (by assumption) _ | exact Nat.le_of_eq (Nat.add_sub_cancel' (by assumption)) | lia))]
end count
/-- a run of matches -/
noncomputable def Block (M : Nat → Nat → Prop) (i j k : Nat) : Prop := ∀ t, t < k → M (i + t) (j + t)
/-- what any search for longest blocks, part by part, keeps in all -/
inductive Tot (M : Nat → Nat → Prop) : Nat → Nat → Nat → Nat → Nat → Prop
  | stop {alo ahi blo bhi : Nat} (h : ∀ i j, alo ≤ i → i < ahi → blo ≤ j → j < bhi → ¬ M i j) : Tot M alo ahi blo bhi 0
  | pick {alo ahi blo bhi i j k t1 t2 : Nat} (hk : 0 < k) (h1 : alo ≤ i) (h2 : i + k ≤ ahi) (h3 : blo ≤ j) (h4 : j + k ≤ bhi) (hb : Block M i j k)
      (hmax : ∀ i' j' k', alo ≤ i' → i' + k' ≤ ahi → blo ≤ j' → j' + k' ≤ bhi → Block M i' j' k' → k' ≤ k)
      (l : Tot M alo i blo j t1) (r : Tot M (i + k) ahi (j + k) bhi t2) : Tot M alo ahi blo bhi (k + t1 + t2)
theorem Tot.flip {M : Nat → Nat → Prop} {alo ahi blo bhi t : Nat} (h : Tot M alo ahi blo bhi t) : Tot (fun i j => M j i) blo bhi alo ahi t := by
  induction h with
  | stop h => exact .stop fun i j a b c d => h j i c d a b
  | pick hk h1 h2 h3 h4 hb hmax _ _ ihl ihr => exact .pick hk h3 h4 h1 h2 (fun t ht => hb t ht) (fun i' j' k' a b c d e => hmax j' i' k' c d a b (fun t ht => e t ht)) ihl ihr
/-- matches that rise: all are kept -/
theorem Tot.mono {M : Nat → Nat → Prop} {alo ahi blo bhi t : Nat} (h : Tot M alo ahi blo bhi t) (hA : alo ≤ ahi)
    (up : ∀ i j i' j', alo ≤ i → i < ahi → blo ≤ j → j < bhi → alo ≤ i' → i' < ahi → blo ≤ j' → j' < bhi → M i j → M i' j' → (i < i' ↔ j < j')) :
    t = cnt (fun i => ∃ j, blo ≤ j ∧ j < bhi ∧ M i j) alo (ahi - alo) := by
  induction h with
  | stop h => exact (cnt_none fun i a b => by rintro ⟨j, c, d, e⟩; exact h i j a (by first | assumption | exact Nat.le_refl _ | exact Nat.zero_le _ | exact Nat.le_add_right _ _ | exact Nat.lt_add_of_pos_right (by assumption) | exact Nat.le_of_lt (by assumption) | exact Nat.le_trans (by assumption) (Nat.le_add_right _ _) | exact Nat.le_trans (by assumption) (by assumption) | exact Nat.lt_of_lt_of_le (by assumption) (by assumption) | exact Nat.lt_of_le_of_lt (by assumption) (by assumption) | exact Nat.add_le_add_left (by assumption) _ | exact Nat.add_lt_add_left (by assumption) _ | exact Nat.le_of_eq (Nat.add_sub_cancel' (by assumption)) | lia) c d e).symm
  | @pick alo ahi blo bhi i j k t1 t2 hk h1 h2 h3 h4 hb hmax _ _ ihl ihr =>
    have m0 := hb 0 hk
    have m1 := hb (k - 1) (by first | assumption | exact Nat.le_refl _ | exact Nat.zero_le _ | exact Nat.le_add_right _ _ | exact Nat.lt_add_of_pos_right (by assumption) | exact Nat.le_of_lt (by assumption) | exact Nat.le_trans (by assumption) (Nat.le_add_right _ _) | exact Nat.le_trans (by assumption) (by assumption) | exact Nat.lt_of_lt_of_le (by assumption) (by assumption) | exact Nat.lt_of_le_of_lt (by assumption) (by assumption) | exact Nat.add_le_add_left (by assumption) _ | exact Nat.add_lt_add_left (by assumption) _ | exact Nat.le_of_eq (Nat.add_sub_cancel' (by assumption)) | lia)
    rw [Nat.add_zero, Nat.add_zero] at m0
    have el := ihl h1 fun a b a' b' x1 x2 x3 x4 x5 x6 x7 x8 => up a b a' b' x1 (by first | assumption | exact Nat.le_refl _ | exact Nat.zero_le _ | exact Nat.le_add_right _ _ | exact Nat.lt_add_of_pos_right (by assumption) | exact Nat.le_of_lt (by assumption) | exact Nat.le_trans (by assumption) (Nat.le_add_right _ _) | exact Nat.le_trans (by assumption) (by assumption) | exact Nat.lt_of_lt_of_le (by assumption) (by assumption) | exact Nat.lt_of_le_of_lt (by assumption) (by assumption) | exact Nat.add_le_add_left (by assumption) _ | exact Nat.add_lt_add_left (by assumption) _ | exact Nat.le_of_eq (Nat.add_sub_cancel' (by assumption)) | lia) x3 (by first | assumption | exact Nat.le_refl _ | exact Nat.zero_le _ | exact Nat.le_add_right _ _ | exact Nat.lt_add_of_pos_right (by assumption) | exact Nat.le_of_lt (by assumption) | exact Nat.le_trans (by assumption) (Nat.le_add_right _ _) | exact Nat.le_trans (by assumption) (by assumption) | exact Nat.lt_of_lt_of_le (by assumption) (by assumption) | exact Nat.lt_of_le_of_lt (by assumption) (by assumption) | exact Nat.add_le_add_left (by assumption) _ | exact Nat.add_lt_add_left (by assumption) _ | exact Nat.le_of_eq (Nat.add_sub_cancel' (by assumption)) | lia) x5 (by first | assumption | exact Nat.le_refl _ | exact Nat.zero_le _ | exact Nat.le_add_right _ _ | exact Nat.lt_add_of_pos_right (by assumption) | exact Nat.le_of_lt (by assumption) | exact Nat.le_trans (by assumption) (Nat.le_add_right _ _) | exact Nat.le_trans (by assumption) (by assumption) | exact Nat.lt_of_lt_of_le (by assumption) (by assumption) | exact Nat.lt_of_le_of_lt (by assumption) (by assumption) | exact Nat.add_le_add_left (by assumption) _ | exact Nat.add_lt_add_left (by assumption) _ | exact Nat.le_of_eq (Nat.add_sub_cancel' (by assumption)) | lia) x7 (by first | assumption | exact Nat.le_refl _ | exact Nat.zero_le _ | exact Nat.le_add_right _ _ | exact Nat.lt_add_of_pos_right (by assumption) | exact Nat.le_of_lt (by assumption) | exact Nat.le_trans (by assumption) (Nat.le_add_right _ _) | exact Nat.le_trans (by assumption) (by assumption) | exact Nat.lt_of_lt_of_le (by assumption) (by assumption) | exact Nat.lt_of_le_of_lt (by assumption) (by assumption) | exact Nat.add_le_add_left (by assumption) _ | exact Nat.add_lt_add_left (by assumption) _ | exact Nat.le_of_eq (Nat.add_sub_cancel' (by assumption)) | lia)
    have er := ihr (by first | assumption | exact Nat.le_refl _ | exact Nat.zero_le _ | exact Nat.le_add_right _ _ | exact Nat.lt_add_of_pos_right (by assumption) | exact Nat.le_of_lt (by assumption) | exact Nat.le_trans (by assumption) (Nat.le_add_right _ _) | exact Nat.le_trans (by assumption) (by assumption) | exact Nat.lt_of_lt_of_le (by assumption) (by assumption) | exact Nat.lt_of_le_of_lt (by assumption) (by assumption) | exact Nat.add_le_add_left (by assumption) _ | exact Nat.add_lt_add_left (by assumption) _ | exact Nat.le_of_eq (Nat.add_sub_cancel' (by assumption)) | lia) fun a b a' b' x1 x2 x3 x4 x5 x6 x7 x8 => up a b a' b' (by first | assumption | exact Nat.le_refl _ | exact Nat.zero_le _ | exact Nat.le_add_right _ _ | exact Nat.lt_add_of_pos_right (by assumption) | exact Nat.le_of_lt (by assumption) | exact Nat.le_trans (by assumption) (Nat.le_add_right _ _) | exact Nat.le_trans (by assumption) (by assumption) | exact Nat.lt_of_lt_of_le (by assumption) (by assumption) | exact Nat.lt_of_le_of_lt (by assumption) (by assumption) | exact Nat.add_le_add_left (by assumption) _ | exact Nat.add_lt_add_left (by assumption) _ | exact Nat.le_of_eq (Nat.add_sub_cancel' (by assumption)) | lia) x2 (by first | assumption | exact Nat.le_refl _ | exact Nat.zero_le _ | exact Nat.le_add_right _ _ | exact Nat.lt_add_of_pos_right (by assumption) | exact Nat.le_of_lt (by assumption) | exact Nat.le_trans (by assumption) (Nat.le_add_right _ _) | exact Nat.le_trans (by assumption) (by assumption) | exact Nat.lt_of_lt_of_le (by assumption) (by assumption) | exact Nat.lt_of_le_of_lt (by assumption) (by assumption) | exact Nat.add_le_add_left (by assumption) _ | exact Nat.add_lt_add_left (by assumption) _ | exact Nat.le_of_eq (Nat.add_sub_cancel' (by assumption)) | lia) x4 (by first | assumption | exact Nat.le_refl _ | exact Nat.zero_le _ | exact Nat.le_add_right _ _ | exact Nat.lt_add_of_pos_right (by assumption) | exact Nat.le_of_lt (by assumption) | exact Nat.le_trans (by assumption) (Nat.le_add_right _ _) | exact Nat.le_trans (by assumption) (by assumption) | exact Nat.lt_of_lt_of_le (by assumption) (by assumption) | exact Nat.lt_of_le_of_lt (by assumption) (by assumption) | exact Nat.add_le_add_left (by assumption) _ | exact Nat.add_lt_add_left (by assumption) _ | exact Nat.le_of_eq (Nat.add_sub_cancel' (by assumption)) | lia) x6 (by first | assumption | exact Nat.le_refl _ | exact Nat.zero_le _ | exact Nat.le_add_right _ _ | exact Nat.lt_add_of_pos_right (by assumption) | exact Nat.le_of_lt (by assumption) | exact Nat.le_trans (by assumption) (Nat.le_add_right _ _) | exact Nat.le_trans (by assumption) (by assumption) | exact Nat.lt_of_lt_of_le (by assumption) (by assumption) | exact Nat.lt_of_le_of_lt (by assumption) (by assumption) | exact Nat.add_le_add_left (by assumption) _ | exact Nat.add_lt_add_left (by assumption) _ | exact Nat.le_of_eq (Nat.add_sub_cancel' (by assumption)) | lia) x8
    rw [show ahi - alo = (i - alo) + (k + (ahi - (i + k))) by lia, cnt_add, cnt_add, show alo + (i - alo) = i by lia]
    have c1 : cnt (fun i => ∃ j, blo ≤ j ∧ j < bhi ∧ M i j) alo (i - alo) = t1 := by
      rw [el]
      refine cnt_congr fun x a b => ⟨?_, ?_⟩
      · rintro ⟨y, c, d, e⟩
        exact ⟨y, c, (up x y i j a (by first | assumption | exact Nat.le_refl _ | exact Nat.zero_le _ | exact Nat.le_add_right _ _ | exact Nat.lt_add_of_pos_right (by assumption) | exact Nat.le_of_lt (by assumption) | exact Nat.le_trans (by assumption) (Nat.le_add_right _ _) | exact Nat.le_trans (by assumption) (by assumption) | exact Nat.lt_of_lt_of_le (by assumption) (by assumption) | exact Nat.lt_of_le_of_lt (by assumption) (by assumption) | exact Nat.add_le_add_left (by assumption) _ | exact Nat.add_lt_add_left (by assumption) _ | exact Nat.le_of_eq (Nat.add_sub_cancel' (by assumption)) | lia) c d h1 (by first | assumption | exact Nat.le_refl _ | exact Nat.zero_le _ | exact Nat.le_add_right _ _ | exact Nat.lt_add_of_pos_right (by assumption) | exact Nat.le_of_lt (by assumption) | exact Nat.le_trans (by assumption) (Nat.le_add_right _ _) | exact Nat.le_trans (by assumption) (by assumption) | exact Nat.lt_of_lt_of_le (by assumption) (by assumption) | exact Nat.lt_of_le_of_lt (by assumption) (by assumption) | exact Nat.add_le_add_left (by assumption) _ | exact Nat.add_lt_add_left (by assumption) _ | exact Nat.le_of_eq (Nat.add_sub_cancel' (by assumption)) | lia) h3 (by first | assumption | exact Nat.le_refl _ | exact Nat.zero_le _ | exact Nat.le_add_right _ _ | exact Nat.lt_add_of_pos_right (by assumption) | exact Nat.le_of_lt (by assumption) | exact Nat.le_trans (by assumption) (Nat.le_add_right _ _) | exact Nat.le_trans (by assumption) (by assumption) | exact Nat.lt_of_lt_of_le (by assumption) (by assumption) | exact Nat.lt_of_le_of_lt (by assumption) (by assumption) | exact Nat.add_le_add_left (by assumption) _ | exact Nat.add_lt_add_left (by assumption) _ | exact Nat.le_of_eq (Nat.add_sub_cancel' (by assumption)) | lia) e m0).mp (by first | assumption | exact Nat.le_refl _ | exact Nat.zero_le _ | exact Nat.le_add_right _ _ | exact Nat.lt_add_of_pos_right (by assumption) | exact Nat.le_of_lt (by assumption) | exact Nat.le_trans (by assumption) (Nat.le_add_right _ _) | exact Nat.le_trans (by assumption) (by assumption) | exact Nat.lt_of_lt_of_le (by assumption) (by assumption) | exact Nat.lt_of_le_of_lt (by assumption) (by assumption) | exact Nat.add_le_add_left (by assumption) _ | exact Nat.add_lt_add_left (by assumption) _ | exact Nat.le_of_eq (Nat.add_sub_cancel' (by assumption)) | lia), e⟩
      · rintro ⟨y, c, d, e⟩
        exact ⟨y, c, by lia, e⟩
    have c2 : cnt (fun i => ∃ j, blo ≤ j ∧ j < bhi ∧ M i j) i k = k := cnt_all fun x a b => ⟨j + (x - i), by lia, by lia, by
      have := hb (x - i) (by first | assumption | exact Nat.le_refl _ | exact Nat.zero_le _ | exact Nat.le_add_right _ _ | exact Nat.lt_add_of_pos_right (by assumption) | exact Nat.le_of_lt (by assumption) | exact Nat.le_trans (by assumption) (Nat.le_add_right _ _) | exact Nat.le_trans (by assumption) (by assumption) | exact Nat.lt_of_lt_of_le (by assumption) (by assumption) | exact Nat.lt_of_le_of_lt (by assumption) (by assumption) | exact Nat.add_le_add_left (by assumption) _ | exact Nat.add_lt_add_left (by assumption) _ | exact Nat.le_of_eq (Nat.add_sub_cancel' (by assumption)) | lia)
      rwa [show i + (x - i) = x by lia] at this⟩
    have c3 : cnt (fun i => ∃ j, blo ≤ j ∧ j < bhi ∧ M i j) (i + k) (ahi - (i + k)) = t2 := by
      rw [er]
      refine cnt_congr fun x a b => ⟨?_, ?_⟩
      · rintro ⟨y, c, d, e⟩
        have := (up (i + (k - 1)) (j + (k - 1)) x y (by first | assumption | exact Nat.le_refl _ | exact Nat.zero_le _ | exact Nat.le_add_right _ _ | exact Nat.lt_add_of_pos_right (by assumption) | exact Nat.le_of_lt (by assumption) | exact Nat.le_trans (by assumption) (Nat.le_add_right _ _) | exact Nat.le_trans (by assumption) (by assumption) | exact Nat.lt_of_lt_of_le (by assumption) (by assumption) | exact Nat.lt_of_le_of_lt (by assumption) (by assumption) | exact Nat.add_le_add_left (by assumption) _ | exact Nat.add_lt_add_left (by assumption) _ | exact Nat.le_of_eq (Nat.add_sub_cancel' (by assumption)) | lia) (by first | assumption | exact Nat.le_refl _ | exact Nat.zero_le _ | exact Nat.le_add_right _ _ | exact Nat.lt_add_of_pos_right (by assumption) | exact Nat.le_of_lt (by assumption) | exact Nat.le_trans (by assumption) (Nat.le_add_right _ _) | exact Nat.le_trans (by assumption) (by assumption) | exact Nat.lt_of_lt_of_le (by assumption) (by assumption) | exact Nat.lt_of_le_of_lt (by assumption) (by assumption) | exact Nat.add_le_add_left (by assumption) _ | exact Nat.add_lt_add_left (by assumption) _ | exact Nat.le_of_eq (Nat.add_sub_cancel' (by assumption)) | lia) (by first | assumption | exact Nat.le_refl _ | exact Nat.zero_le _ | exact Nat.le_add_right _ _ | exact Nat.lt_add_of_pos_right (by assumption) | exact Nat.le_of_lt (by assumption) | exact Nat.le_trans (by assumption) (Nat.le_add_right _ _) | exact Nat.le_trans (by assumption) (by assumption) | exact Nat.lt_of_lt_of_le (by assumption) (by assumption) | exact Nat.lt_of_le_of_lt (by assumption) (by assumption) | exact Nat.add_le_add_left (by assumption) _ | exact Nat.add_lt_add_left (by assumption) _ | exact Nat.le_of_eq (Nat.add_sub_cancel' (by assumption)) | lia) (by first | assumption | exact Nat.le_refl _ | exact Nat.zero_le _ | exact Nat.le_add_right _ _ | exact Nat.lt_add_of_pos_right (by assumption) | exact Nat.le_of_lt (by assumption) | exact Nat.le_trans (by assumption) (Nat.le_add_right _ _) | exact Nat.le_trans (by assumption) (by assumption) | exact Nat.lt_of_lt_of_le (by assumption) (by assumption) | exact Nat.lt_of_le_of_lt (by assumption) (by assumption) | exact Nat.add_le_add_left (by assumption) _ | exact Nat.add_lt_add_left (by assumption) _ | exact Nat.le_of_eq (Nat.add_sub_cancel' (by assumption)) | lia) (by first | assumption | exact Nat.le_refl _ | exact Nat.zero_le _ | exact Nat.le_add_right _ _ | exact Nat.lt_add_of_pos_right (by assumption) | exact Nat.le_of_lt (by assumption) | exact Nat.le_trans (by assumption) (Nat.le_add_right _ _) | exact Nat.le_trans (by assumption) (by assumption) | exact Nat.lt_of_lt_of_le (by assumption) (by assumption) | exact Nat.lt_of_le_of_lt (by assumption) (by assumption) | exact Nat.add_le_add_left (by assumption) _ | exact Nat.add_lt_add_left (by assumption) _ | exact Nat.le_of_eq (Nat.add_sub_cancel' (by assumption)) | lia) (by first | assumption | exact Nat.le_refl _ | exact Nat.zero_le _ | exact Nat.le_add_right _ _ | exact Nat.lt_add_of_pos_right (by assumption) | exact Nat.le_of_lt (by assumption) | exact Nat.le_trans (by assumption) (Nat.le_add_right _ _) | exact Nat.le_trans (by assumption) (by assumption) | exact Nat.lt_of_lt_of_le (by assumption) (by assumption) | exact Nat.lt_of_le_of_lt (by assumption) (by assumption) | exact Nat.add_le_add_left (by assumption) _ | exact Nat.add_lt_add_left (by assumption) _ | exact Nat.le_of_eq (Nat.add_sub_cancel' (by assumption)) | lia) c d m1 e).mp (by first | assumption | exact Nat.le_refl _ | exact Nat.zero_le _ | exact Nat.le_add_right _ _ | exact Nat.lt_add_of_pos_right (by assumption) | exact Nat.le_of_lt (by assumption) | exact Nat.le_trans (by assumption) (Nat.le_add_right _ _) | exact Nat.le_trans (by assumption) (by assumption) | exact Nat.lt_of_lt_of_le (by assumption) (by assumption) | exact Nat.lt_of_le_of_lt (by assumption) (by assumption) | exact Nat.add_le_add_left (by assumption) _ | exact Nat.add_lt_add_left (by assumption) _ | exact Nat.le_of_eq (Nat.add_sub_cancel' (by assumption)) | lia)
        exact ⟨y, by lia, d, e⟩
      · rintro ⟨y, c, d, e⟩
        exact ⟨y, by lia, d, e⟩
    rw [c1, c2, c3]; lia

theorem Tot.empty {M : Nat → Nat → Prop} {alo ahi blo bhi t : Nat} (h : Tot M alo ahi blo bhi t) (e : ahi ≤ alo ∨ bhi ≤ blo) : t = 0 := by
  cases h with
  | stop _ => rfl
  | pick hk h1 h2 h3 h4 => lia
/-- two runs that rise -/
theorem Tot.two {M : Nat → Nat → Prop} {alo ahi blo bhi t : Nat} (h : Tot M alo ahi blo bhi t) (p q c p' q' c' : Nat) (hp : alo ≤ p) (hpc : p + c ≤ p') (hpc' : p' + c' ≤ ahi) (hq : blo ≤ q) (hqc : q + c ≤ q') (hqc' : q' + c' ≤ bhi)
    (run : ∀ i j, alo ≤ i → i < ahi → blo ≤ j → j < bhi → (M i j ↔ (p ≤ i ∧ i < p + c ∧ j + p = i + q) ∨ (p' ≤ i ∧ i < p' + c' ∧ j + p' = i + q'))) : t = c + c' := by
  rw [h.mono (by first | assumption | exact Nat.le_refl _ | exact Nat.zero_le _ | exact Nat.le_add_right _ _ | exact Nat.lt_add_of_pos_right (by assumption) | exact Nat.le_of_lt (by assumption) | exact Nat.le_trans (by assumption) (Nat.le_add_right _ _) | exact Nat.le_trans (by assumption) (by assumption) | exact Nat.lt_of_lt_of_le (by assumption) (by assumption) | exact Nat.lt_of_le_of_lt (by assumption) (by assumption) | exact Nat.add_le_add_left (by assumption) _ | exact Nat.add_lt_add_left (by assumption) _ | exact Nat.le_of_eq (Nat.add_sub_cancel' (by assumption)) | lia) fun i j i' j' x1 x2 x3 x4 x5 x6 x7 x8 m m' => by
    have a := (run i j x1 x2 x3 x4).mp m
    have b := (run i' j' x5 x6 x7 x8).mp m'
    lia]
  rw [show ahi - alo = (p - alo) + (c + ((p' - (p + c)) + (c' + (ahi - (p' + c'))))) by lia, cnt_add, cnt_add, cnt_add, cnt_add, show alo + (p - alo) = p by lia, show p + c + (p' - (p + c)) = p' by lia]
  rw [cnt_none (lo := alo), cnt_all (lo := p), cnt_none (lo := p + c), cnt_all (lo := p'), cnt_none (lo := p' + c')]
  · lia
  · rintro x a b ⟨y, d, e, m⟩
    have := (run x y (by first | assumption | exact Nat.le_refl _ | exact Nat.zero_le _ | exact Nat.le_add_right _ _ | exact Nat.lt_add_of_pos_right (by assumption) | exact Nat.le_of_lt (by assumption) | exact Nat.le_trans (by assumption) (Nat.le_add_right _ _) | exact Nat.le_trans (by assumption) (by assumption) | exact Nat.lt_of_lt_of_le (by assumption) (by assumption) | exact Nat.lt_of_le_of_lt (by assumption) (by assumption) | exact Nat.add_le_add_left (by assumption) _ | exact Nat.add_lt_add_left (by assumption) _ | exact Nat.le_of_eq (Nat.add_sub_cancel' (by assumption)) | lia) (by first | assumption | exact Nat.le_refl _ | exact Nat.zero_le _ | exact Nat.le_add_right _ _ | exact Nat.lt_add_of_pos_right (by assumption) | exact Nat.le_of_lt (by assumption) | exact Nat.le_trans (by assumption) (Nat.le_add_right _ _) | exact Nat.le_trans (by assumption) (by assumption) | exact Nat.lt_of_lt_of_le (by assumption) (by assumption) | exact Nat.lt_of_le_of_lt (by assumption) (by assumption) | exact Nat.add_le_add_left (by assumption) _ | exact Nat.add_lt_add_left (by assumption) _ | exact Nat.le_of_eq (Nat.add_sub_cancel' (by assumption)) | lia) d e).mp m
    lia
  · intro x a b
    exact ⟨q' + (x - p'), by lia, by lia, (run x _ (by first | assumption | exact Nat.le_refl _ | exact Nat.zero_le _ | exact Nat.le_add_right _ _ | exact Nat.lt_add_of_pos_right (by assumption) | exact Nat.le_of_lt (by assumption) | exact Nat.le_trans (by assumption) (Nat.le_add_right _ _) | exact Nat.le_trans (by assumption) (by assumption) | exact Nat.lt_of_lt_of_le (by assumption) (by assumption) | exact Nat.lt_of_le_of_lt (by assumption) (by assumption) | exact Nat.add_le_add_left (by assumption) _ | exact Nat.add_lt_add_left (by assumption) _ | exact Nat.le_of_eq (Nat.add_sub_cancel' (by assumption)) | lia) (by first | assumption | exact Nat.le_refl _ | exact Nat.zero_le _ | exact Nat.le_add_right _ _ | exact Nat.lt_add_of_pos_right (by assumption) | exact Nat.le_of_lt (by assumption) | exact Nat.le_trans (by assumption) (Nat.le_add_right _ _) | exact Nat.le_trans (by assumption) (by assumption) | exact Nat.lt_of_lt_of_le (by assumption) (by assumption) | exact Nat.lt_of_le_of_lt (by assumption) (by assumption) | exact Nat.add_le_add_left (by assumption) _ | exact Nat.add_lt_add_left (by assumption) _ | exact Nat.le_of_eq (Nat.add_sub_cancel' (by assumption)) | lia) (by first | assumption | exact Nat.le_refl _ | exact Nat.zero_le _ | exact Nat.le_add_right _ _ | exact Nat.lt_add_of_pos_right (by assumption) | exact Nat.le_of_lt (by assumption) | exact Nat.le_trans (by assumption) (Nat.le_add_right _ _) | exact Nat.le_trans (by assumption) (by assumption) | exact Nat.lt_of_lt_of_le (by assumption) (by assumption) | exact Nat.lt_of_le_of_lt (by assumption) (by assumption) | exact Nat.add_le_add_left (by assumption) _ | exact Nat.add_lt_add_left (by assumption) _ | exact Nat.le_of_eq (Nat.add_sub_cancel' (by assumption)) | lia) (by first | assumption | exact Nat.le_refl _ | exact Nat.zero_le _ | exact Nat.le_add_right _ _ | exact Nat.lt_add_of_pos_right (by assumption) | exact Nat.le_of_lt (by assumption) | exact Nat.le_trans (by assumption) (Nat.le_add_right _ _) | exact Nat.le_trans (by assumption) (by assumption) | exact Nat.lt_of_lt_of_le (by assumption) (by assumption) | exact Nat.lt_of_le_of_lt (by assumption) (by assumption) | exact Nat.add_le_add_left (by assumption) _ | exact Nat.add_lt_add_left (by assumption) _ | exact Nat.le_of_eq (Nat.add_sub_cancel' (by assumption)) | lia)).mpr (.inr ⟨a, b, by lia⟩)⟩
  · rintro x a b ⟨y, d, e, m⟩
    have := (run x y (by first | assumption | exact Nat.le_refl _ | exact Nat.zero_le _ | exact Nat.le_add_right _ _ | exact Nat.lt_add_of_pos_right (by assumption) | exact Nat.le_of_lt (by assumption) | exact Nat.le_trans (by assumption) (Nat.le_add_right _ _) | exact Nat.le_trans (by assumption) (by assumption) | exact Nat.lt_of_lt_of_le (by assumption) (by assumption) | exact Nat.lt_of_le_of_lt (by assumption) (by assumption) | exact Nat.add_le_add_left (by assumption) _ | exact Nat.add_lt_add_left (by assumption) _ | exact Nat.le_of_eq (Nat.add_sub_cancel' (by assumption)) | lia) (by first | assumption | exact Nat.le_refl _ | exact Nat.zero_le _ | exact Nat.le_add_right _ _ | exact Nat.lt_add_of_pos_right (by assumption) | exact Nat.le_of_lt (by assumption) | exact Nat.le_trans (by assumption) (Nat.le_add_right _ _) | exact Nat.le_trans (by assumption) (by assumption) | exact Nat.lt_of_lt_of_le (by assumption) (by assumption) | exact Nat.lt_of_le_of_lt (by assumption) (by assumption) | exact Nat.add_le_add_left (by assumption) _ | exact Nat.add_lt_add_left (by assumption) _ | exact Nat.le_of_eq (Nat.add_sub_cancel' (by assumption)) | lia) d e).mp m
    lia
  · intro x a b
    exact ⟨q + (x - p), by lia, by lia, (run x _ (by first | assumption | exact Nat.le_refl _ | exact Nat.zero_le _ | exact Nat.le_add_right _ _ | exact Nat.lt_add_of_pos_right (by assumption) | exact Nat.le_of_lt (by assumption) | exact Nat.le_trans (by assumption) (Nat.le_add_right _ _) | exact Nat.le_trans (by assumption) (by assumption) | exact Nat.lt_of_lt_of_le (by assumption) (by assumption) | exact Nat.lt_of_le_of_lt (by assumption) (by assumption) | exact Nat.add_le_add_left (by assumption) _ | exact Nat.add_lt_add_left (by assumption) _ | exact Nat.le_of_eq (Nat.add_sub_cancel' (by assumption)) | lia) (by first | assumption | exact Nat.le_refl _ | exact Nat.zero_le _ | exact Nat.le_add_right _ _ | exact Nat.lt_add_of_pos_right (by assumption) | exact Nat.le_of_lt (by assumption) | exact Nat.le_trans (by assumption) (Nat.le_add_right _ _) | exact Nat.le_trans (by assumption) (by assumption) | exact Nat.lt_of_lt_of_le (by assumption) (by assumption) | exact Nat.lt_of_le_of_lt (by assumption) (by assumption) | exact Nat.add_le_add_left (by assumption) _ | exact Nat.add_lt_add_left (by assumption) _ | exact Nat.le_of_eq (Nat.add_sub_cancel' (by assumption)) | lia) (by first | assumption | exact Nat.le_refl _ | exact Nat.zero_le _ | exact Nat.le_add_right _ _ | exact Nat.lt_add_of_pos_right (by assumption) | exact Nat.le_of_lt (by assumption) | exact Nat.le_trans (by assumption) (Nat.le_add_right _ _) | exact Nat.le_trans (by assumption) (by assumption) | exact Nat.lt_of_lt_of_le (by assumption) (by assumption) | exact Nat.lt_of_le_of_lt (by assumption) (by assumption) | exact Nat.add_le_add_left (by assumption) _ | exact Nat.add_lt_add_left (by assumption) _ | exact Nat.le_of_eq (Nat.add_sub_cancel' (by assumption)) | lia) (by first | assumption | exact Nat.le_refl _ | exact Nat.zero_le _ | exact Nat.le_add_right _ _ | exact Nat.lt_add_of_pos_right (by assumption) | exact Nat.le_of_lt (by assumption) | exact Nat.le_trans (by assumption) (Nat.le_add_right _ _) | exact Nat.le_trans (by assumption) (by assumption) | exact Nat.lt_of_lt_of_le (by assumption) (by assumption) | exact Nat.lt_of_le_of_lt (by assumption) (by assumption) | exact Nat.add_le_add_left (by assumption) _ | exact Nat.add_lt_add_left (by assumption) _ | exact Nat.le_of_eq (Nat.add_sub_cancel' (by assumption)) | lia)).mpr (.inl ⟨a, b, by lia⟩)⟩
  · rintro x a b ⟨y, d, e, m⟩
    have := (run x y a (by first | assumption | exact Nat.le_refl _ | exact Nat.zero_le _ | exact Nat.le_add_right _ _ | exact Nat.lt_add_of_pos_right (by assumption) | exact Nat.le_of_lt (by assumption) | exact Nat.le_trans (by assumption) (Nat.le_add_right _ _) | exact Nat.le_trans (by assumption) (by assumption) | exact Nat.lt_of_lt_of_le (by assumption) (by assumption) | exact Nat.lt_of_le_of_lt (by assumption) (by assumption) | exact Nat.add_le_add_left (by assumption) _ | exact Nat.add_lt_add_left (by assumption) _ | exact Nat.le_of_eq (Nat.add_sub_cancel' (by assumption)) | lia) d e).mp m
    lia
/-- one run alone -/
theorem Tot.one {M : Nat → Nat → Prop} {alo ahi blo bhi t : Nat} (h : Tot M alo ahi blo bhi t) (p q c : Nat) (hp : alo ≤ p) (hpc : p + c ≤ ahi) (hq : blo ≤ q) (hqc : q + c ≤ bhi)
    (run : ∀ i j, alo ≤ i → i < ahi → blo ≤ j → j < bhi → (M i j ↔ p ≤ i ∧ i < p + c ∧ j + p = i + q)) : t = c :=
  h.two p q c ahi bhi 0 hp hpc (Nat.le_refl _) hq hqc (Nat.le_refl _) fun i j a b x y => (run i j a b x y).trans (or_iff_left fun e => Nat.not_lt.mpr e.1 e.2.1).symm
/-- two stretches that changed places -/
theorem tot_swap {M : Nat → Nat → Prop} {e o u b : Nat} (ho : 0 < o) (hu : 0 < u)
    (hM : ∀ i j, M i j ↔ (0 ≤ i ∧ i < e ∧ j + 0 = i + 0) ∨ (e ≤ i ∧ i < e + u ∧ j + e = i + (e + o)) ∨ (e + u ≤ i ∧ i < e + u + o ∧ j + (e + u) = i + e) ∨ (e + u + o ≤ i ∧ i < e + u + o + b ∧ j + (e + u + o) = i + (e + o + u)))
    {alo ahi blo bhi t : Nat} (h : Tot M alo ahi blo bhi t) : blo = alo → bhi = ahi → alo ≤ e → e + u + o ≤ ahi → ahi ≤ e + u + o + b → t = (e - alo) + max o u + (ahi - (e + u + o)) := by
  induction h with
  | @stop alo ahi blo bhi h =>
    intro h1 h2 h3 h4 h5
    exact absurd ((hM e (e + o)).mpr (.inr (.inl ⟨Nat.le_refl _, by lia, by lia⟩))) (h e (e + o) h3 (by first | assumption | exact Nat.le_refl _ | exact Nat.zero_le _ | exact Nat.le_add_right _ _ | exact Nat.lt_add_of_pos_right (by assumption) | exact Nat.le_of_lt (by assumption) | exact Nat.le_trans (by assumption) (Nat.le_add_right _ _) | exact Nat.le_trans (by assumption) (by assumption) | exact Nat.lt_of_lt_of_le (by assumption) (by assumption) | exact Nat.lt_of_le_of_lt (by assumption) (by assumption) | exact Nat.add_le_add_left (by assumption) _ | exact Nat.add_lt_add_left (by assumption) _ | exact Nat.le_of_eq (Nat.add_sub_cancel' (by assumption)) | lia) (by first | assumption | exact Nat.le_refl _ | exact Nat.zero_le _ | exact Nat.le_add_right _ _ | exact Nat.lt_add_of_pos_right (by assumption) | exact Nat.le_of_lt (by assumption) | exact Nat.le_trans (by assumption) (Nat.le_add_right _ _) | exact Nat.le_trans (by assumption) (by assumption) | exact Nat.lt_of_lt_of_le (by assumption) (by assumption) | exact Nat.lt_of_le_of_lt (by assumption) (by assumption) | exact Nat.add_le_add_left (by assumption) _ | exact Nat.add_lt_add_left (by assumption) _ | exact Nat.le_of_eq (Nat.add_sub_cancel' (by assumption)) | lia) (by first | assumption | exact Nat.le_refl _ | exact Nat.zero_le _ | exact Nat.le_add_right _ _ | exact Nat.lt_add_of_pos_right (by assumption) | exact Nat.le_of_lt (by assumption) | exact Nat.le_trans (by assumption) (Nat.le_add_right _ _) | exact Nat.le_trans (by assumption) (by assumption) | exact Nat.lt_of_lt_of_le (by assumption) (by assumption) | exact Nat.lt_of_le_of_lt (by assumption) (by assumption) | exact Nat.add_le_add_left (by assumption) _ | exact Nat.add_lt_add_left (by assumption) _ | exact Nat.le_of_eq (Nat.add_sub_cancel' (by assumption)) | lia))
  | @pick alo ahi blo bhi i j k t1 t2 hk x1 x2 x3 x4 hb hmax l r ihl ihr =>
    intro h1 h2 h3 h4 h5
    subst h1 h2
    have mF := hmax blo blo (e - blo) (Nat.le_refl _) (by first | assumption | exact Nat.le_refl _ | exact Nat.zero_le _ | exact Nat.le_add_right _ _ | exact Nat.lt_add_of_pos_right (by assumption) | exact Nat.le_of_lt (by assumption) | exact Nat.le_trans (by assumption) (Nat.le_add_right _ _) | exact Nat.le_trans (by assumption) (by assumption) | exact Nat.lt_of_lt_of_le (by assumption) (by assumption) | exact Nat.lt_of_le_of_lt (by assumption) (by assumption) | exact Nat.add_le_add_left (by assumption) _ | exact Nat.add_lt_add_left (by assumption) _ | exact Nat.le_of_eq (Nat.add_sub_cancel' (by assumption)) | lia) (Nat.le_refl _) (by first | assumption | exact Nat.le_refl _ | exact Nat.zero_le _ | exact Nat.le_add_right _ _ | exact Nat.lt_add_of_pos_right (by assumption) | exact Nat.le_of_lt (by assumption) | exact Nat.le_trans (by assumption) (Nat.le_add_right _ _) | exact Nat.le_trans (by assumption) (by assumption) | exact Nat.lt_of_lt_of_le (by assumption) (by assumption) | exact Nat.lt_of_le_of_lt (by assumption) (by assumption) | exact Nat.add_le_add_left (by assumption) _ | exact Nat.add_lt_add_left (by assumption) _ | exact Nat.le_of_eq (Nat.add_sub_cancel' (by assumption)) | lia) fun t ht => (hM _ _).mpr (.inl ⟨Nat.zero_le _, by lia, rfl⟩)
    have mU := hmax e (e + o) u h3 (by first | assumption | exact Nat.le_refl _ | exact Nat.zero_le _ | exact Nat.le_add_right _ _ | exact Nat.lt_add_of_pos_right (by assumption) | exact Nat.le_of_lt (by assumption) | exact Nat.le_trans (by assumption) (Nat.le_add_right _ _) | exact Nat.le_trans (by assumption) (by assumption) | exact Nat.lt_of_lt_of_le (by assumption) (by assumption) | exact Nat.lt_of_le_of_lt (by assumption) (by assumption) | exact Nat.add_le_add_left (by assumption) _ | exact Nat.add_lt_add_left (by assumption) _ | exact Nat.le_of_eq (Nat.add_sub_cancel' (by assumption)) | lia) (by first | assumption | exact Nat.le_refl _ | exact Nat.zero_le _ | exact Nat.le_add_right _ _ | exact Nat.lt_add_of_pos_right (by assumption) | exact Nat.le_of_lt (by assumption) | exact Nat.le_trans (by assumption) (Nat.le_add_right _ _) | exact Nat.le_trans (by assumption) (by assumption) | exact Nat.lt_of_lt_of_le (by assumption) (by assumption) | exact Nat.lt_of_le_of_lt (by assumption) (by assumption) | exact Nat.add_le_add_left (by assumption) _ | exact Nat.add_lt_add_left (by assumption) _ | exact Nat.le_of_eq (Nat.add_sub_cancel' (by assumption)) | lia) (by first | assumption | exact Nat.le_refl _ | exact Nat.zero_le _ | exact Nat.le_add_right _ _ | exact Nat.lt_add_of_pos_right (by assumption) | exact Nat.le_of_lt (by assumption) | exact Nat.le_trans (by assumption) (Nat.le_add_right _ _) | exact Nat.le_trans (by assumption) (by assumption) | exact Nat.lt_of_lt_of_le (by assumption) (by assumption) | exact Nat.lt_of_le_of_lt (by assumption) (by assumption) | exact Nat.add_le_add_left (by assumption) _ | exact Nat.add_lt_add_left (by assumption) _ | exact Nat.le_of_eq (Nat.add_sub_cancel' (by assumption)) | lia) fun t ht => (hM _ _).mpr (.inr (.inl ⟨by lia, by lia, by lia⟩))
    have mO := hmax (e + u) e o (by first | assumption | exact Nat.le_refl _ | exact Nat.zero_le _ | exact Nat.le_add_right _ _ | exact Nat.lt_add_of_pos_right (by assumption) | exact Nat.le_of_lt (by assumption) | exact Nat.le_trans (by assumption) (Nat.le_add_right _ _) | exact Nat.le_trans (by assumption) (by assumption) | exact Nat.lt_of_lt_of_le (by assumption) (by assumption) | exact Nat.lt_of_le_of_lt (by assumption) (by assumption) | exact Nat.add_le_add_left (by assumption) _ | exact Nat.add_lt_add_left (by assumption) _ | exact Nat.le_of_eq (Nat.add_sub_cancel' (by assumption)) | lia) h4 h3 (by first | assumption | exact Nat.le_refl _ | exact Nat.zero_le _ | exact Nat.le_add_right _ _ | exact Nat.lt_add_of_pos_right (by assumption) | exact Nat.le_of_lt (by assumption) | exact Nat.le_trans (by assumption) (Nat.le_add_right _ _) | exact Nat.le_trans (by assumption) (by assumption) | exact Nat.lt_of_lt_of_le (by assumption) (by assumption) | exact Nat.lt_of_le_of_lt (by assumption) (by assumption) | exact Nat.add_le_add_left (by assumption) _ | exact Nat.add_lt_add_left (by assumption) _ | exact Nat.le_of_eq (Nat.add_sub_cancel' (by assumption)) | lia) fun t ht => (hM _ _).mpr (.inr (.inr (.inl ⟨by lia, by lia, by lia⟩)))
    have mB := hmax (e + u + o) (e + u + o) (bhi - (e + u + o)) (by first | assumption | exact Nat.le_refl _ | exact Nat.zero_le _ | exact Nat.le_add_right _ _ | exact Nat.lt_add_of_pos_right (by assumption) | exact Nat.le_of_lt (by assumption) | exact Nat.le_trans (by assumption) (Nat.le_add_right _ _) | exact Nat.le_trans (by assumption) (by assumption) | exact Nat.lt_of_lt_of_le (by assumption) (by assumption) | exact Nat.lt_of_le_of_lt (by assumption) (by assumption) | exact Nat.add_le_add_left (by assumption) _ | exact Nat.add_lt_add_left (by assumption) _ | exact Nat.le_of_eq (Nat.add_sub_cancel' (by assumption)) | lia) (by first | assumption | exact Nat.le_refl _ | exact Nat.zero_le _ | exact Nat.le_add_right _ _ | exact Nat.lt_add_of_pos_right (by assumption) | exact Nat.le_of_lt (by assumption) | exact Nat.le_trans (by assumption) (Nat.le_add_right _ _) | exact Nat.le_trans (by assumption) (by assumption) | exact Nat.lt_of_lt_of_le (by assumption) (by assumption) | exact Nat.lt_of_le_of_lt (by assumption) (by assumption) | exact Nat.add_le_add_left (by assumption) _ | exact Nat.add_lt_add_left (by assumption) _ | exact Nat.le_of_eq (Nat.add_sub_cancel' (by assumption)) | lia) (by first | assumption | exact Nat.le_refl _ | exact Nat.zero_le _ | exact Nat.le_add_right _ _ | exact Nat.lt_add_of_pos_right (by assumption) | exact Nat.le_of_lt (by assumption) | exact Nat.le_trans (by assumption) (Nat.le_add_right _ _) | exact Nat.le_trans (by assumption) (by assumption) | exact Nat.lt_of_lt_of_le (by assumption) (by assumption) | exact Nat.lt_of_le_of_lt (by assumption) (by assumption) | exact Nat.add_le_add_left (by assumption) _ | exact Nat.add_lt_add_left (by assumption) _ | exact Nat.le_of_eq (Nat.add_sub_cancel' (by assumption)) | lia) (by first | assumption | exact Nat.le_refl _ | exact Nat.zero_le _ | exact Nat.le_add_right _ _ | exact Nat.lt_add_of_pos_right (by assumption) | exact Nat.le_of_lt (by assumption) | exact Nat.le_trans (by assumption) (Nat.le_add_right _ _) | exact Nat.le_trans (by assumption) (by assumption) | exact Nat.lt_of_lt_of_le (by assumption) (by assumption) | exact Nat.lt_of_le_of_lt (by assumption) (by assumption) | exact Nat.add_le_add_left (by assumption) _ | exact Nat.add_lt_add_left (by assumption) _ | exact Nat.le_of_eq (Nat.add_sub_cancel' (by assumption)) | lia) fun t ht => (hM _ _).mpr (.inr (.inr (.inr ⟨by lia, by lia, by lia⟩)))
    have m0 := (hM _ _).mp (hb 0 hk)
    rw [Nat.add_zero, Nat.add_zero] at m0
    rcases m0 with a | a | a | a
    · have hi : i + k ≤ e := by
        refine Nat.le_of_not_lt fun q => ?_
        have := (hM _ _).mp (hb (e - i) (by first | assumption | exact Nat.le_refl _ | exact Nat.zero_le _ | exact Nat.le_add_right _ _ | exact Nat.lt_add_of_pos_right (by assumption) | exact Nat.le_of_lt (by assumption) | exact Nat.le_trans (by assumption) (Nat.le_add_right _ _) | exact Nat.le_trans (by assumption) (by assumption) | exact Nat.lt_of_lt_of_le (by assumption) (by assumption) | exact Nat.lt_of_le_of_lt (by assumption) (by assumption) | exact Nat.add_le_add_left (by assumption) _ | exact Nat.add_lt_add_left (by assumption) _ | exact Nat.le_of_eq (Nat.add_sub_cancel' (by assumption)) | lia))
        clear hM hb hmax mF mU mO mB l r ihl ihr
        lia
      have e1 := l.empty (by first | assumption | exact Nat.le_refl _ | exact Nat.zero_le _ | exact Nat.le_add_right _ _ | exact Nat.lt_add_of_pos_right (by assumption) | exact Nat.le_of_lt (by assumption) | exact Nat.le_trans (by assumption) (Nat.le_add_right _ _) | exact Nat.le_trans (by assumption) (by assumption) | exact Nat.lt_of_lt_of_le (by assumption) (by assumption) | exact Nat.lt_of_le_of_lt (by assumption) (by assumption) | exact Nat.add_le_add_left (by assumption) _ | exact Nat.add_lt_add_left (by assumption) _ | exact Nat.le_of_eq (Nat.add_sub_cancel' (by assumption)) | lia)
      have e2 := ihr (by first | assumption | exact Nat.le_refl _ | exact Nat.zero_le _ | exact Nat.le_add_right _ _ | exact Nat.lt_add_of_pos_right (by assumption) | exact Nat.le_of_lt (by assumption) | exact Nat.le_trans (by assumption) (Nat.le_add_right _ _) | exact Nat.le_trans (by assumption) (by assumption) | exact Nat.lt_of_lt_of_le (by assumption) (by assumption) | exact Nat.lt_of_le_of_lt (by assumption) (by assumption) | exact Nat.add_le_add_left (by assumption) _ | exact Nat.add_lt_add_left (by assumption) _ | exact Nat.le_of_eq (Nat.add_sub_cancel' (by assumption)) | lia) rfl hi h4 h5
      lia
    · have hi : i + k ≤ e + u := by
        refine Nat.le_of_not_lt fun q => ?_
        have := (hM _ _).mp (hb (e + u - i) (by first | assumption | exact Nat.le_refl _ | exact Nat.zero_le _ | exact Nat.le_add_right _ _ | exact Nat.lt_add_of_pos_right (by assumption) | exact Nat.le_of_lt (by assumption) | exact Nat.le_trans (by assumption) (Nat.le_add_right _ _) | exact Nat.le_trans (by assumption) (by assumption) | exact Nat.lt_of_lt_of_le (by assumption) (by assumption) | exact Nat.lt_of_le_of_lt (by assumption) (by assumption) | exact Nat.add_le_add_left (by assumption) _ | exact Nat.add_lt_add_left (by assumption) _ | exact Nat.le_of_eq (Nat.add_sub_cancel' (by assumption)) | lia))
        clear hM hb hmax mF mU mO mB l r ihl ihr
        lia
      obtain ⟨rfl, rfl, rfl⟩ : i = e ∧ j = e + o ∧ k = u := by clear mF mO mB; lia
      have e1 := l.one blo blo (i - blo) (Nat.le_refl _) (by first | assumption | exact Nat.le_refl _ | exact Nat.zero_le _ | exact Nat.le_add_right _ _ | exact Nat.lt_add_of_pos_right (by assumption) | exact Nat.le_of_lt (by assumption) | exact Nat.le_trans (by assumption) (Nat.le_add_right _ _) | exact Nat.le_trans (by assumption) (by assumption) | exact Nat.lt_of_lt_of_le (by assumption) (by assumption) | exact Nat.lt_of_le_of_lt (by assumption) (by assumption) | exact Nat.add_le_add_left (by assumption) _ | exact Nat.add_lt_add_left (by assumption) _ | exact Nat.le_of_eq (Nat.add_sub_cancel' (by assumption)) | lia) (Nat.le_refl _) (by first | assumption | exact Nat.le_refl _ | exact Nat.zero_le _ | exact Nat.le_add_right _ _ | exact Nat.lt_add_of_pos_right (by assumption) | exact Nat.le_of_lt (by assumption) | exact Nat.le_trans (by assumption) (Nat.le_add_right _ _) | exact Nat.le_trans (by assumption) (by assumption) | exact Nat.lt_of_lt_of_le (by assumption) (by assumption) | exact Nat.lt_of_le_of_lt (by assumption) (by assumption) | exact Nat.add_le_add_left (by assumption) _ | exact Nat.add_lt_add_left (by assumption) _ | exact Nat.le_of_eq (Nat.add_sub_cancel' (by assumption)) | lia) fun x y p1 p2 p3 p4 => by rw [hM]; clear a hi hk x1 x2 x3 x4 hb hmax l r ihl ihr mF mU mO mB hM; lia
      have e2 := r.one (i + k + o) (i + k + o) (bhi - (i + k + o)) (by first | assumption | exact Nat.le_refl _ | exact Nat.zero_le _ | exact Nat.le_add_right _ _ | exact Nat.lt_add_of_pos_right (by assumption) | exact Nat.le_of_lt (by assumption) | exact Nat.le_trans (by assumption) (Nat.le_add_right _ _) | exact Nat.le_trans (by assumption) (by assumption) | exact Nat.lt_of_lt_of_le (by assumption) (by assumption) | exact Nat.lt_of_le_of_lt (by assumption) (by assumption) | exact Nat.add_le_add_left (by assumption) _ | exact Nat.add_lt_add_left (by assumption) _ | exact Nat.le_of_eq (Nat.add_sub_cancel' (by assumption)) | lia) (by first | assumption | exact Nat.le_refl _ | exact Nat.zero_le _ | exact Nat.le_add_right _ _ | exact Nat.lt_add_of_pos_right (by assumption) | exact Nat.le_of_lt (by assumption) | exact Nat.le_trans (by assumption) (Nat.le_add_right _ _) | exact Nat.le_trans (by assumption) (by assumption) | exact Nat.lt_of_lt_of_le (by assumption) (by assumption) | exact Nat.lt_of_le_of_lt (by assumption) (by assumption) | exact Nat.add_le_add_left (by assumption) _ | exact Nat.add_lt_add_left (by assumption) _ | exact Nat.le_of_eq (Nat.add_sub_cancel' (by assumption)) | lia) (by first | assumption | exact Nat.le_refl _ | exact Nat.zero_le _ | exact Nat.le_add_right _ _ | exact Nat.lt_add_of_pos_right (by assumption) | exact Nat.le_of_lt (by assumption) | exact Nat.le_trans (by assumption) (Nat.le_add_right _ _) | exact Nat.le_trans (by assumption) (by assumption) | exact Nat.lt_of_lt_of_le (by assumption) (by assumption) | exact Nat.lt_of_le_of_lt (by assumption) (by assumption) | exact Nat.add_le_add_left (by assumption) _ | exact Nat.add_lt_add_left (by assumption) _ | exact Nat.le_of_eq (Nat.add_sub_cancel' (by assumption)) | lia) (by first | assumption | exact Nat.le_refl _ | exact Nat.zero_le _ | exact Nat.le_add_right _ _ | exact Nat.lt_add_of_pos_right (by assumption) | exact Nat.le_of_lt (by assumption) | exact Nat.le_trans (by assumption) (Nat.le_add_right _ _) | exact Nat.le_trans (by assumption) (by assumption) | exact Nat.lt_of_lt_of_le (by assumption) (by assumption) | exact Nat.lt_of_le_of_lt (by assumption) (by assumption) | exact Nat.add_le_add_left (by assumption) _ | exact Nat.add_lt_add_left (by assumption) _ | exact Nat.le_of_eq (Nat.add_sub_cancel' (by assumption)) | lia) fun x y p1 p2 p3 p4 => by rw [hM]; clear a hi hk x1 x2 x3 x4 hb hmax l r ihl ihr mF mU mO mB hM; lia
      clear a hM hb hmax l r ihl ihr mF mB mU
      lia
    · have hi : i + k ≤ e + u + o := by
        refine Nat.le_of_not_lt fun q => ?_
        have := (hM _ _).mp (hb (e + u + o - i) (by first | assumption | exact Nat.le_refl _ | exact Nat.zero_le _ | exact Nat.le_add_right _ _ | exact Nat.lt_add_of_pos_right (by assumption) | exact Nat.le_of_lt (by assumption) | exact Nat.le_trans (by assumption) (Nat.le_add_right _ _) | exact Nat.le_trans (by assumption) (by assumption) | exact Nat.lt_of_lt_of_le (by assumption) (by assumption) | exact Nat.lt_of_le_of_lt (by assumption) (by assumption) | exact Nat.add_le_add_left (by assumption) _ | exact Nat.add_lt_add_left (by assumption) _ | exact Nat.le_of_eq (Nat.add_sub_cancel' (by assumption)) | lia))
        clear hM hb hmax mF mU mO mB l r ihl ihr
        lia
      obtain ⟨rfl, rfl, rfl⟩ : i = e + u ∧ j = e ∧ k = o := by clear mF mU mB; lia
      have e1 := l.one blo blo (j - blo) (Nat.le_refl _) (by first | assumption | exact Nat.le_refl _ | exact Nat.zero_le _ | exact Nat.le_add_right _ _ | exact Nat.lt_add_of_pos_right (by assumption) | exact Nat.le_of_lt (by assumption) | exact Nat.le_trans (by assumption) (Nat.le_add_right _ _) | exact Nat.le_trans (by assumption) (by assumption) | exact Nat.lt_of_lt_of_le (by assumption) (by assumption) | exact Nat.lt_of_le_of_lt (by assumption) (by assumption) | exact Nat.add_le_add_left (by assumption) _ | exact Nat.add_lt_add_left (by assumption) _ | exact Nat.le_of_eq (Nat.add_sub_cancel' (by assumption)) | lia) (Nat.le_refl _) (by first | assumption | exact Nat.le_refl _ | exact Nat.zero_le _ | exact Nat.le_add_right _ _ | exact Nat.lt_add_of_pos_right (by assumption) | exact Nat.le_of_lt (by assumption) | exact Nat.le_trans (by assumption) (Nat.le_add_right _ _) | exact Nat.le_trans (by assumption) (by assumption) | exact Nat.lt_of_lt_of_le (by assumption) (by assumption) | exact Nat.lt_of_le_of_lt (by assumption) (by assumption) | exact Nat.add_le_add_left (by assumption) _ | exact Nat.add_lt_add_left (by assumption) _ | exact Nat.le_of_eq (Nat.add_sub_cancel' (by assumption)) | lia) fun x y p1 p2 p3 p4 => by rw [hM]; clear a hi hk x1 x2 x3 x4 hb hmax l r ihl ihr mF mU mO mB hM; lia
      have e2 := r.one (j + u + k) (j + u + k) (bhi - (j + u + k)) (by first | assumption | exact Nat.le_refl _ | exact Nat.zero_le _ | exact Nat.le_add_right _ _ | exact Nat.lt_add_of_pos_right (by assumption) | exact Nat.le_of_lt (by assumption) | exact Nat.le_trans (by assumption) (Nat.le_add_right _ _) | exact Nat.le_trans (by assumption) (by assumption) | exact Nat.lt_of_lt_of_le (by assumption) (by assumption) | exact Nat.lt_of_le_of_lt (by assumption) (by assumption) | exact Nat.add_le_add_left (by assumption) _ | exact Nat.add_lt_add_left (by assumption) _ | exact Nat.le_of_eq (Nat.add_sub_cancel' (by assumption)) | lia) (by first | assumption | exact Nat.le_refl _ | exact Nat.zero_le _ | exact Nat.le_add_right _ _ | exact Nat.lt_add_of_pos_right (by assumption) | exact Nat.le_of_lt (by assumption) | exact Nat.le_trans (by assumption) (Nat.le_add_right _ _) | exact Nat.le_trans (by assumption) (by assumption) | exact Nat.lt_of_lt_of_le (by assumption) (by assumption) | exact Nat.lt_of_le_of_lt (by assumption) (by assumption) | exact Nat.add_le_add_left (by assumption) _ | exact Nat.add_lt_add_left (by assumption) _ | exact Nat.le_of_eq (Nat.add_sub_cancel' (by assumption)) | lia) (by first | assumption | exact Nat.le_refl _ | exact Nat.zero_le _ | exact Nat.le_add_right _ _ | exact Nat.lt_add_of_pos_right (by assumption) | exact Nat.le_of_lt (by assumption) | exact Nat.le_trans (by assumption) (Nat.le_add_right _ _) | exact Nat.le_trans (by assumption) (by assumption) | exact Nat.lt_of_lt_of_le (by assumption) (by assumption) | exact Nat.lt_of_le_of_lt (by assumption) (by assumption) | exact Nat.add_le_add_left (by assumption) _ | exact Nat.add_lt_add_left (by assumption) _ | exact Nat.le_of_eq (Nat.add_sub_cancel' (by assumption)) | lia) (by first | assumption | exact Nat.le_refl _ | exact Nat.zero_le _ | exact Nat.le_add_right _ _ | exact Nat.lt_add_of_pos_right (by assumption) | exact Nat.le_of_lt (by assumption) | exact Nat.le_trans (by assumption) (Nat.le_add_right _ _) | exact Nat.le_trans (by assumption) (by assumption) | exact Nat.lt_of_lt_of_le (by assumption) (by assumption) | exact Nat.lt_of_le_of_lt (by assumption) (by assumption) | exact Nat.add_le_add_left (by assumption) _ | exact Nat.add_lt_add_left (by assumption) _ | exact Nat.le_of_eq (Nat.add_sub_cancel' (by assumption)) | lia) fun x y p1 p2 p3 p4 => by rw [hM]; clear a hi hk x1 x2 x3 x4 hb hmax l r ihl ihr mF mU mO mB hM; lia
      clear a hM hb hmax l r ihl ihr mF mB mO
      lia
    · have e1 := ihl (by first | assumption | exact Nat.le_refl _ | exact Nat.zero_le _ | exact Nat.le_add_right _ _ | exact Nat.lt_add_of_pos_right (by assumption) | exact Nat.le_of_lt (by assumption) | exact Nat.le_trans (by assumption) (Nat.le_add_right _ _) | exact Nat.le_trans (by assumption) (by assumption) | exact Nat.lt_of_lt_of_le (by assumption) (by assumption) | exact Nat.lt_of_le_of_lt (by assumption) (by assumption) | exact Nat.add_le_add_left (by assumption) _ | exact Nat.add_lt_add_left (by assumption) _ | exact Nat.le_of_eq (Nat.add_sub_cancel' (by assumption)) | lia) (by first | assumption | exact Nat.le_refl _ | exact Nat.zero_le _ | exact Nat.le_add_right _ _ | exact Nat.lt_add_of_pos_right (by assumption) | exact Nat.le_of_lt (by assumption) | exact Nat.le_trans (by assumption) (Nat.le_add_right _ _) | exact Nat.le_trans (by assumption) (by assumption) | exact Nat.lt_of_lt_of_le (by assumption) (by assumption) | exact Nat.lt_of_le_of_lt (by assumption) (by assumption) | exact Nat.add_le_add_left (by assumption) _ | exact Nat.add_lt_add_left (by assumption) _ | exact Nat.le_of_eq (Nat.add_sub_cancel' (by assumption)) | lia) h3 (by first | assumption | exact Nat.le_refl _ | exact Nat.zero_le _ | exact Nat.le_add_right _ _ | exact Nat.lt_add_of_pos_right (by assumption) | exact Nat.le_of_lt (by assumption) | exact Nat.le_trans (by assumption) (Nat.le_add_right _ _) | exact Nat.le_trans (by assumption) (by assumption) | exact Nat.lt_of_lt_of_le (by assumption) (by assumption) | exact Nat.lt_of_le_of_lt (by assumption) (by assumption) | exact Nat.add_le_add_left (by assumption) _ | exact Nat.add_lt_add_left (by assumption) _ | exact Nat.le_of_eq (Nat.add_sub_cancel' (by assumption)) | lia) (by first | assumption | exact Nat.le_refl _ | exact Nat.zero_le _ | exact Nat.le_add_right _ _ | exact Nat.lt_add_of_pos_right (by assumption) | exact Nat.le_of_lt (by assumption) | exact Nat.le_trans (by assumption) (Nat.le_add_right _ _) | exact Nat.le_trans (by assumption) (by assumption) | exact Nat.lt_of_lt_of_le (by assumption) (by assumption) | exact Nat.lt_of_le_of_lt (by assumption) (by assumption) | exact Nat.add_le_add_left (by assumption) _ | exact Nat.add_lt_add_left (by assumption) _ | exact Nat.le_of_eq (Nat.add_sub_cancel' (by assumption)) | lia)
      have e2 := r.empty (by first | assumption | exact Nat.le_refl _ | exact Nat.zero_le _ | exact Nat.le_add_right _ _ | exact Nat.lt_add_of_pos_right (by assumption) | exact Nat.le_of_lt (by assumption) | exact Nat.le_trans (by assumption) (Nat.le_add_right _ _) | exact Nat.le_trans (by assumption) (by assumption) | exact Nat.lt_of_lt_of_le (by assumption) (by assumption) | exact Nat.lt_of_le_of_lt (by assumption) (by assumption) | exact Nat.add_le_add_left (by assumption) _ | exact Nat.add_lt_add_left (by assumption) _ | exact Nat.le_of_eq (Nat.add_sub_cancel' (by assumption)) | lia)
      lia
/-- a stretch that stands twice -/
theorem tot_twice {M : Nat → Nat → Prop} {e o c : Nat} (ho : 0 < o)
    (hM : ∀ i j, M i j ↔ (0 ≤ i ∧ i < e + o ∧ j + 0 = i + 0) ∨ (e + o ≤ i ∧ i < e + o + (o + c) ∧ j + (e + o) = i + e)) {t : Nat} (h : Tot M 0 (e + o + (o + c)) 0 (e + o + c) t) : t = e + o + c := by
  cases h with
  | stop h => exact absurd ((hM e e).mpr (.inl ⟨Nat.zero_le _, by lia, rfl⟩)) (h e e (Nat.zero_le _) (by first | assumption | exact Nat.le_refl _ | exact Nat.zero_le _ | exact Nat.le_add_right _ _ | exact Nat.lt_add_of_pos_right (by assumption) | exact Nat.le_of_lt (by assumption) | exact Nat.le_trans (by assumption) (Nat.le_add_right _ _) | exact Nat.le_trans (by assumption) (by assumption) | exact Nat.lt_of_lt_of_le (by assumption) (by assumption) | exact Nat.lt_of_le_of_lt (by assumption) (by assumption) | exact Nat.add_le_add_left (by assumption) _ | exact Nat.add_lt_add_left (by assumption) _ | exact Nat.le_of_eq (Nat.add_sub_cancel' (by assumption)) | lia) (Nat.zero_le _) (by first | assumption | exact Nat.le_refl _ | exact Nat.zero_le _ | exact Nat.le_add_right _ _ | exact Nat.lt_add_of_pos_right (by assumption) | exact Nat.le_of_lt (by assumption) | exact Nat.le_trans (by assumption) (Nat.le_add_right _ _) | exact Nat.le_trans (by assumption) (by assumption) | exact Nat.lt_of_lt_of_le (by assumption) (by assumption) | exact Nat.lt_of_le_of_lt (by assumption) (by assumption) | exact Nat.add_le_add_left (by assumption) _ | exact Nat.add_lt_add_left (by assumption) _ | exact Nat.le_of_eq (Nat.add_sub_cancel' (by assumption)) | lia))
  | @pick _ _ _ _ i j k t1 t2 hk x1 x2 x3 x4 hb hmax l r =>
    have mA := hmax 0 0 (e + o) (Nat.le_refl _) (by first | assumption | exact Nat.le_refl _ | exact Nat.zero_le _ | exact Nat.le_add_right _ _ | exact Nat.lt_add_of_pos_right (by assumption) | exact Nat.le_of_lt (by assumption) | exact Nat.le_trans (by assumption) (Nat.le_add_right _ _) | exact Nat.le_trans (by assumption) (by assumption) | exact Nat.lt_of_lt_of_le (by assumption) (by assumption) | exact Nat.lt_of_le_of_lt (by assumption) (by assumption) | exact Nat.add_le_add_left (by assumption) _ | exact Nat.add_lt_add_left (by assumption) _ | exact Nat.le_of_eq (Nat.add_sub_cancel' (by assumption)) | lia) (Nat.le_refl _) (by first | assumption | exact Nat.le_refl _ | exact Nat.zero_le _ | exact Nat.le_add_right _ _ | exact Nat.lt_add_of_pos_right (by assumption) | exact Nat.le_of_lt (by assumption) | exact Nat.le_trans (by assumption) (Nat.le_add_right _ _) | exact Nat.le_trans (by assumption) (by assumption) | exact Nat.lt_of_lt_of_le (by assumption) (by assumption) | exact Nat.lt_of_le_of_lt (by assumption) (by assumption) | exact Nat.add_le_add_left (by assumption) _ | exact Nat.add_lt_add_left (by assumption) _ | exact Nat.le_of_eq (Nat.add_sub_cancel' (by assumption)) | lia) fun t ht => (hM _ _).mpr (.inl ⟨Nat.zero_le _, by lia, rfl⟩)
    have mB := hmax (e + o) e (o + c) (Nat.zero_le _) (by first | assumption | exact Nat.le_refl _ | exact Nat.zero_le _ | exact Nat.le_add_right _ _ | exact Nat.lt_add_of_pos_right (by assumption) | exact Nat.le_of_lt (by assumption) | exact Nat.le_trans (by assumption) (Nat.le_add_right _ _) | exact Nat.le_trans (by assumption) (by assumption) | exact Nat.lt_of_lt_of_le (by assumption) (by assumption) | exact Nat.lt_of_le_of_lt (by assumption) (by assumption) | exact Nat.add_le_add_left (by assumption) _ | exact Nat.add_lt_add_left (by assumption) _ | exact Nat.le_of_eq (Nat.add_sub_cancel' (by assumption)) | lia) (Nat.zero_le _) (by first | assumption | exact Nat.le_refl _ | exact Nat.zero_le _ | exact Nat.le_add_right _ _ | exact Nat.lt_add_of_pos_right (by assumption) | exact Nat.le_of_lt (by assumption) | exact Nat.le_trans (by assumption) (Nat.le_add_right _ _) | exact Nat.le_trans (by assumption) (by assumption) | exact Nat.lt_of_lt_of_le (by assumption) (by assumption) | exact Nat.lt_of_le_of_lt (by assumption) (by assumption) | exact Nat.add_le_add_left (by assumption) _ | exact Nat.add_lt_add_left (by assumption) _ | exact Nat.le_of_eq (Nat.add_sub_cancel' (by assumption)) | lia) fun t ht => (hM _ _).mpr (.inr ⟨by lia, by lia, by lia⟩)
    have m0 := (hM _ _).mp (hb 0 hk)
    rw [Nat.add_zero, Nat.add_zero] at m0
    rcases m0 with a | a
    · have hi : i + k ≤ e + o := by
        refine Nat.le_of_not_lt fun q => ?_
        have := (hM _ _).mp (hb (e + o - i) (by first | assumption | exact Nat.le_refl _ | exact Nat.zero_le _ | exact Nat.le_add_right _ _ | exact Nat.lt_add_of_pos_right (by assumption) | exact Nat.le_of_lt (by assumption) | exact Nat.le_trans (by assumption) (Nat.le_add_right _ _) | exact Nat.le_trans (by assumption) (by assumption) | exact Nat.lt_of_lt_of_le (by assumption) (by assumption) | exact Nat.lt_of_le_of_lt (by assumption) (by assumption) | exact Nat.add_le_add_left (by assumption) _ | exact Nat.add_lt_add_left (by assumption) _ | exact Nat.le_of_eq (Nat.add_sub_cancel' (by assumption)) | lia))
        clear hM hb hmax mA mB l r
        lia
      have e1 := l.empty (by first | assumption | exact Nat.le_refl _ | exact Nat.zero_le _ | exact Nat.le_add_right _ _ | exact Nat.lt_add_of_pos_right (by assumption) | exact Nat.le_of_lt (by assumption) | exact Nat.le_trans (by assumption) (Nat.le_add_right _ _) | exact Nat.le_trans (by assumption) (by assumption) | exact Nat.lt_of_lt_of_le (by assumption) (by assumption) | exact Nat.lt_of_le_of_lt (by assumption) (by assumption) | exact Nat.add_le_add_left (by assumption) _ | exact Nat.add_lt_add_left (by assumption) _ | exact Nat.le_of_eq (Nat.add_sub_cancel' (by assumption)) | lia)
      have e2 := r.one (e + o + o) (e + o) c (by first | assumption | exact Nat.le_refl _ | exact Nat.zero_le _ | exact Nat.le_add_right _ _ | exact Nat.lt_add_of_pos_right (by assumption) | exact Nat.le_of_lt (by assumption) | exact Nat.le_trans (by assumption) (Nat.le_add_right _ _) | exact Nat.le_trans (by assumption) (by assumption) | exact Nat.lt_of_lt_of_le (by assumption) (by assumption) | exact Nat.lt_of_le_of_lt (by assumption) (by assumption) | exact Nat.add_le_add_left (by assumption) _ | exact Nat.add_lt_add_left (by assumption) _ | exact Nat.le_of_eq (Nat.add_sub_cancel' (by assumption)) | lia) (by first | assumption | exact Nat.le_refl _ | exact Nat.zero_le _ | exact Nat.le_add_right _ _ | exact Nat.lt_add_of_pos_right (by assumption) | exact Nat.le_of_lt (by assumption) | exact Nat.le_trans (by assumption) (Nat.le_add_right _ _) | exact Nat.le_trans (by assumption) (by assumption) | exact Nat.lt_of_lt_of_le (by assumption) (by assumption) | exact Nat.lt_of_le_of_lt (by assumption) (by assumption) | exact Nat.add_le_add_left (by assumption) _ | exact Nat.add_lt_add_left (by assumption) _ | exact Nat.le_of_eq (Nat.add_sub_cancel' (by assumption)) | lia) (by first | assumption | exact Nat.le_refl _ | exact Nat.zero_le _ | exact Nat.le_add_right _ _ | exact Nat.lt_add_of_pos_right (by assumption) | exact Nat.le_of_lt (by assumption) | exact Nat.le_trans (by assumption) (Nat.le_add_right _ _) | exact Nat.le_trans (by assumption) (by assumption) | exact Nat.lt_of_lt_of_le (by assumption) (by assumption) | exact Nat.lt_of_le_of_lt (by assumption) (by assumption) | exact Nat.add_le_add_left (by assumption) _ | exact Nat.add_lt_add_left (by assumption) _ | exact Nat.le_of_eq (Nat.add_sub_cancel' (by assumption)) | lia) (by first | assumption | exact Nat.le_refl _ | exact Nat.zero_le _ | exact Nat.le_add_right _ _ | exact Nat.lt_add_of_pos_right (by assumption) | exact Nat.le_of_lt (by assumption) | exact Nat.le_trans (by assumption) (Nat.le_add_right _ _) | exact Nat.le_trans (by assumption) (by assumption) | exact Nat.lt_of_lt_of_le (by assumption) (by assumption) | exact Nat.lt_of_le_of_lt (by assumption) (by assumption) | exact Nat.add_le_add_left (by assumption) _ | exact Nat.add_lt_add_left (by assumption) _ | exact Nat.le_of_eq (Nat.add_sub_cancel' (by assumption)) | lia) fun x y _ _ _ _ => by rw [hM]; lia
      lia
    · have e2 := r.empty (by first | assumption | exact Nat.le_refl _ | exact Nat.zero_le _ | exact Nat.le_add_right _ _ | exact Nat.lt_add_of_pos_right (by assumption) | exact Nat.le_of_lt (by assumption) | exact Nat.le_trans (by assumption) (Nat.le_add_right _ _) | exact Nat.le_trans (by assumption) (by assumption) | exact Nat.lt_of_lt_of_le (by assumption) (by assumption) | exact Nat.lt_of_le_of_lt (by assumption) (by assumption) | exact Nat.add_le_add_left (by assumption) _ | exact Nat.add_lt_add_left (by assumption) _ | exact Nat.le_of_eq (Nat.add_sub_cancel' (by assumption)) | lia)
      have e1 := l.one 0 0 e (Nat.le_refl _) (by first | assumption | exact Nat.le_refl _ | exact Nat.zero_le _ | exact Nat.le_add_right _ _ | exact Nat.lt_add_of_pos_right (by assumption) | exact Nat.le_of_lt (by assumption) | exact Nat.le_trans (by assumption) (Nat.le_add_right _ _) | exact Nat.le_trans (by assumption) (by assumption) | exact Nat.lt_of_lt_of_le (by assumption) (by assumption) | exact Nat.lt_of_le_of_lt (by assumption) (by assumption) | exact Nat.add_le_add_left (by assumption) _ | exact Nat.add_lt_add_left (by assumption) _ | exact Nat.le_of_eq (Nat.add_sub_cancel' (by assumption)) | lia) (Nat.le_refl _) (by first | assumption | exact Nat.le_refl _ | exact Nat.zero_le _ | exact Nat.le_add_right _ _ | exact Nat.lt_add_of_pos_right (by assumption) | exact Nat.le_of_lt (by assumption) | exact Nat.le_trans (by assumption) (Nat.le_add_right _ _) | exact Nat.le_trans (by assumption) (by assumption) | exact Nat.lt_of_lt_of_le (by assumption) (by assumption) | exact Nat.lt_of_le_of_lt (by assumption) (by assumption) | exact Nat.add_le_add_left (by assumption) _ | exact Nat.add_lt_add_left (by assumption) _ | exact Nat.le_of_eq (Nat.add_sub_cancel' (by assumption)) | lia) fun x y _ _ _ _ => by rw [hM]; lia
      lia
/-- a stretch turned round -/
theorem tot_turn {M : Nat → Nat → Prop} {e o c : Nat} (ho : 2 ≤ o)
    (hM : ∀ i j, M i j ↔ (0 ≤ i ∧ i < e ∧ j + 0 = i + 0) ∨ (e ≤ i ∧ i < e + o ∧ i + j + 1 = e + e + o) ∨ (e + o ≤ i ∧ i < e + o + c ∧ j + (e + o) = i + (e + o)))
    {alo ahi blo bhi t : Nat} (h : Tot M alo ahi blo bhi t) : blo = alo → bhi = ahi → alo ≤ e → e + o ≤ ahi → ahi ≤ e + o + c → t = (e - alo) + 1 + (ahi - (e + o)) := by
  induction h with
  | @stop alo ahi blo bhi h =>
    intro h1 h2 h3 h4 h5
    exact absurd ((hM e (e + o - 1)).mpr (.inr (.inl ⟨Nat.le_refl _, by lia, by lia⟩))) (h e (e + o - 1) h3 (by first | assumption | exact Nat.le_refl _ | exact Nat.zero_le _ | exact Nat.le_add_right _ _ | exact Nat.lt_add_of_pos_right (by assumption) | exact Nat.le_of_lt (by assumption) | exact Nat.le_trans (by assumption) (Nat.le_add_right _ _) | exact Nat.le_trans (by assumption) (by assumption) | exact Nat.lt_of_lt_of_le (by assumption) (by assumption) | exact Nat.lt_of_le_of_lt (by assumption) (by assumption) | exact Nat.add_le_add_left (by assumption) _ | exact Nat.add_lt_add_left (by assumption) _ | exact Nat.le_of_eq (Nat.add_sub_cancel' (by assumption)) | lia) (by first | assumption | exact Nat.le_refl _ | exact Nat.zero_le _ | exact Nat.le_add_right _ _ | exact Nat.lt_add_of_pos_right (by assumption) | exact Nat.le_of_lt (by assumption) | exact Nat.le_trans (by assumption) (Nat.le_add_right _ _) | exact Nat.le_trans (by assumption) (by assumption) | exact Nat.lt_of_lt_of_le (by assumption) (by assumption) | exact Nat.lt_of_le_of_lt (by assumption) (by assumption) | exact Nat.add_le_add_left (by assumption) _ | exact Nat.add_lt_add_left (by assumption) _ | exact Nat.le_of_eq (Nat.add_sub_cancel' (by assumption)) | lia) (by first | assumption | exact Nat.le_refl _ | exact Nat.zero_le _ | exact Nat.le_add_right _ _ | exact Nat.lt_add_of_pos_right (by assumption) | exact Nat.le_of_lt (by assumption) | exact Nat.le_trans (by assumption) (Nat.le_add_right _ _) | exact Nat.le_trans (by assumption) (by assumption) | exact Nat.lt_of_lt_of_le (by assumption) (by assumption) | exact Nat.lt_of_le_of_lt (by assumption) (by assumption) | exact Nat.add_le_add_left (by assumption) _ | exact Nat.add_lt_add_left (by assumption) _ | exact Nat.le_of_eq (Nat.add_sub_cancel' (by assumption)) | lia))
  | @pick alo ahi blo bhi i j k t1 t2 hk x1 x2 x3 x4 hb hmax l r ihl ihr =>
    intro h1 h2 h3 h4 h5
    subst h1 h2
    have mF := hmax blo blo (e - blo) (Nat.le_refl _) (by first | assumption | exact Nat.le_refl _ | exact Nat.zero_le _ | exact Nat.le_add_right _ _ | exact Nat.lt_add_of_pos_right (by assumption) | exact Nat.le_of_lt (by assumption) | exact Nat.le_trans (by assumption) (Nat.le_add_right _ _) | exact Nat.le_trans (by assumption) (by assumption) | exact Nat.lt_of_lt_of_le (by assumption) (by assumption) | exact Nat.lt_of_le_of_lt (by assumption) (by assumption) | exact Nat.add_le_add_left (by assumption) _ | exact Nat.add_lt_add_left (by assumption) _ | exact Nat.le_of_eq (Nat.add_sub_cancel' (by assumption)) | lia) (Nat.le_refl _) (by first | assumption | exact Nat.le_refl _ | exact Nat.zero_le _ | exact Nat.le_add_right _ _ | exact Nat.lt_add_of_pos_right (by assumption) | exact Nat.le_of_lt (by assumption) | exact Nat.le_trans (by assumption) (Nat.le_add_right _ _) | exact Nat.le_trans (by assumption) (by assumption) | exact Nat.lt_of_lt_of_le (by assumption) (by assumption) | exact Nat.lt_of_le_of_lt (by assumption) (by assumption) | exact Nat.add_le_add_left (by assumption) _ | exact Nat.add_lt_add_left (by assumption) _ | exact Nat.le_of_eq (Nat.add_sub_cancel' (by assumption)) | lia) fun t ht => (hM _ _).mpr (.inl ⟨Nat.zero_le _, by lia, rfl⟩)
    have mB := hmax (e + o) (e + o) (bhi - (e + o)) (by first | assumption | exact Nat.le_refl _ | exact Nat.zero_le _ | exact Nat.le_add_right _ _ | exact Nat.lt_add_of_pos_right (by assumption) | exact Nat.le_of_lt (by assumption) | exact Nat.le_trans (by assumption) (Nat.le_add_right _ _) | exact Nat.le_trans (by assumption) (by assumption) | exact Nat.lt_of_lt_of_le (by assumption) (by assumption) | exact Nat.lt_of_le_of_lt (by assumption) (by assumption) | exact Nat.add_le_add_left (by assumption) _ | exact Nat.add_lt_add_left (by assumption) _ | exact Nat.le_of_eq (Nat.add_sub_cancel' (by assumption)) | lia) (by first | assumption | exact Nat.le_refl _ | exact Nat.zero_le _ | exact Nat.le_add_right _ _ | exact Nat.lt_add_of_pos_right (by assumption) | exact Nat.le_of_lt (by assumption) | exact Nat.le_trans (by assumption) (Nat.le_add_right _ _) | exact Nat.le_trans (by assumption) (by assumption) | exact Nat.lt_of_lt_of_le (by assumption) (by assumption) | exact Nat.lt_of_le_of_lt (by assumption) (by assumption) | exact Nat.add_le_add_left (by assumption) _ | exact Nat.add_lt_add_left (by assumption) _ | exact Nat.le_of_eq (Nat.add_sub_cancel' (by assumption)) | lia) (by first | assumption | exact Nat.le_refl _ | exact Nat.zero_le _ | exact Nat.le_add_right _ _ | exact Nat.lt_add_of_pos_right (by assumption) | exact Nat.le_of_lt (by assumption) | exact Nat.le_trans (by assumption) (Nat.le_add_right _ _) | exact Nat.le_trans (by assumption) (by assumption) | exact Nat.lt_of_lt_of_le (by assumption) (by assumption) | exact Nat.lt_of_le_of_lt (by assumption) (by assumption) | exact Nat.add_le_add_left (by assumption) _ | exact Nat.add_lt_add_left (by assumption) _ | exact Nat.le_of_eq (Nat.add_sub_cancel' (by assumption)) | lia) (by first | assumption | exact Nat.le_refl _ | exact Nat.zero_le _ | exact Nat.le_add_right _ _ | exact Nat.lt_add_of_pos_right (by assumption) | exact Nat.le_of_lt (by assumption) | exact Nat.le_trans (by assumption) (Nat.le_add_right _ _) | exact Nat.le_trans (by assumption) (by assumption) | exact Nat.lt_of_lt_of_le (by assumption) (by assumption) | exact Nat.lt_of_le_of_lt (by assumption) (by assumption) | exact Nat.add_le_add_left (by assumption) _ | exact Nat.add_lt_add_left (by assumption) _ | exact Nat.le_of_eq (Nat.add_sub_cancel' (by assumption)) | lia) fun t ht => (hM _ _).mpr (.inr (.inr ⟨by lia, by lia, rfl⟩))
    have m0 := (hM _ _).mp (hb 0 hk)
    rw [Nat.add_zero, Nat.add_zero] at m0
    rcases m0 with a | a | a
    · have hi : i + k ≤ e := by
        refine Nat.le_of_not_lt fun q => ?_
        have := (hM _ _).mp (hb (e - i) (by first | assumption | exact Nat.le_refl _ | exact Nat.zero_le _ | exact Nat.le_add_right _ _ | exact Nat.lt_add_of_pos_right (by assumption) | exact Nat.le_of_lt (by assumption) | exact Nat.le_trans (by assumption) (Nat.le_add_right _ _) | exact Nat.le_trans (by assumption) (by assumption) | exact Nat.lt_of_lt_of_le (by assumption) (by assumption) | exact Nat.lt_of_le_of_lt (by assumption) (by assumption) | exact Nat.add_le_add_left (by assumption) _ | exact Nat.add_lt_add_left (by assumption) _ | exact Nat.le_of_eq (Nat.add_sub_cancel' (by assumption)) | lia))
        clear hM hb hmax mF mB l r ihl ihr
        lia
      have e1 := l.empty (by first | assumption | exact Nat.le_refl _ | exact Nat.zero_le _ | exact Nat.le_add_right _ _ | exact Nat.lt_add_of_pos_right (by assumption) | exact Nat.le_of_lt (by assumption) | exact Nat.le_trans (by assumption) (Nat.le_add_right _ _) | exact Nat.le_trans (by assumption) (by assumption) | exact Nat.lt_of_lt_of_le (by assumption) (by assumption) | exact Nat.lt_of_le_of_lt (by assumption) (by assumption) | exact Nat.add_le_add_left (by assumption) _ | exact Nat.add_lt_add_left (by assumption) _ | exact Nat.le_of_eq (Nat.add_sub_cancel' (by assumption)) | lia)
      have e2 := ihr (by first | assumption | exact Nat.le_refl _ | exact Nat.zero_le _ | exact Nat.le_add_right _ _ | exact Nat.lt_add_of_pos_right (by assumption) | exact Nat.le_of_lt (by assumption) | exact Nat.le_trans (by assumption) (Nat.le_add_right _ _) | exact Nat.le_trans (by assumption) (by assumption) | exact Nat.lt_of_lt_of_le (by assumption) (by assumption) | exact Nat.lt_of_le_of_lt (by assumption) (by assumption) | exact Nat.add_le_add_left (by assumption) _ | exact Nat.add_lt_add_left (by assumption) _ | exact Nat.le_of_eq (Nat.add_sub_cancel' (by assumption)) | lia) rfl hi h4 h5
      lia
    · have hi : k = 1 := by
        refine Nat.le_antisymm (Nat.le_of_not_lt fun q => ?_) hk
        have := (hM _ _).mp (hb 1 q)
        clear hM hb hmax mF mB l r ihl ihr
        lia
      subst hi
      have e1 := l.one blo blo (e - blo) (Nat.le_refl _) (by first | assumption | exact Nat.le_refl _ | exact Nat.zero_le _ | exact Nat.le_add_right _ _ | exact Nat.lt_add_of_pos_right (by assumption) | exact Nat.le_of_lt (by assumption) | exact Nat.le_trans (by assumption) (Nat.le_add_right _ _) | exact Nat.le_trans (by assumption) (by assumption) | exact Nat.lt_of_lt_of_le (by assumption) (by assumption) | exact Nat.lt_of_le_of_lt (by assumption) (by assumption) | exact Nat.add_le_add_left (by assumption) _ | exact Nat.add_lt_add_left (by assumption) _ | exact Nat.le_of_eq (Nat.add_sub_cancel' (by assumption)) | lia) (Nat.le_refl _) (by first | assumption | exact Nat.le_refl _ | exact Nat.zero_le _ | exact Nat.le_add_right _ _ | exact Nat.lt_add_of_pos_right (by assumption) | exact Nat.le_of_lt (by assumption) | exact Nat.le_trans (by assumption) (Nat.le_add_right _ _) | exact Nat.le_trans (by assumption) (by assumption) | exact Nat.lt_of_lt_of_le (by assumption) (by assumption) | exact Nat.lt_of_le_of_lt (by assumption) (by assumption) | exact Nat.add_le_add_left (by assumption) _ | exact Nat.add_lt_add_left (by assumption) _ | exact Nat.le_of_eq (Nat.add_sub_cancel' (by assumption)) | lia) fun x y p1 p2 p3 p4 => by rw [hM]; clear ho h4 h5 hk x1 x2 x3 x4 hb hmax l r ihl ihr mF mB hM; lia
      have e2 := r.one (e + o) (e + o) (bhi - (e + o)) (by first | assumption | exact Nat.le_refl _ | exact Nat.zero_le _ | exact Nat.le_add_right _ _ | exact Nat.lt_add_of_pos_right (by assumption) | exact Nat.le_of_lt (by assumption) | exact Nat.le_trans (by assumption) (Nat.le_add_right _ _) | exact Nat.le_trans (by assumption) (by assumption) | exact Nat.lt_of_lt_of_le (by assumption) (by assumption) | exact Nat.lt_of_le_of_lt (by assumption) (by assumption) | exact Nat.add_le_add_left (by assumption) _ | exact Nat.add_lt_add_left (by assumption) _ | exact Nat.le_of_eq (Nat.add_sub_cancel' (by assumption)) | lia) (by first | assumption | exact Nat.le_refl _ | exact Nat.zero_le _ | exact Nat.le_add_right _ _ | exact Nat.lt_add_of_pos_right (by assumption) | exact Nat.le_of_lt (by assumption) | exact Nat.le_trans (by assumption) (Nat.le_add_right _ _) | exact Nat.le_trans (by assumption) (by assumption) | exact Nat.lt_of_lt_of_le (by assumption) (by assumption) | exact Nat.lt_of_le_of_lt (by assumption) (by assumption) | exact Nat.add_le_add_left (by assumption) _ | exact Nat.add_lt_add_left (by assumption) _ | exact Nat.le_of_eq (Nat.add_sub_cancel' (by assumption)) | lia) (by first | assumption | exact Nat.le_refl _ | exact Nat.zero_le _ | exact Nat.le_add_right _ _ | exact Nat.lt_add_of_pos_right (by assumption) | exact Nat.le_of_lt (by assumption) | exact Nat.le_trans (by assumption) (Nat.le_add_right _ _) | exact Nat.le_trans (by assumption) (by assumption) | exact Nat.lt_of_lt_of_le (by assumption) (by assumption) | exact Nat.lt_of_le_of_lt (by assumption) (by assumption) | exact Nat.add_le_add_left (by assumption) _ | exact Nat.add_lt_add_left (by assumption) _ | exact Nat.le_of_eq (Nat.add_sub_cancel' (by assumption)) | lia) (by first | assumption | exact Nat.le_refl _ | exact Nat.zero_le _ | exact Nat.le_add_right _ _ | exact Nat.lt_add_of_pos_right (by assumption) | exact Nat.le_of_lt (by assumption) | exact Nat.le_trans (by assumption) (Nat.le_add_right _ _) | exact Nat.le_trans (by assumption) (by assumption) | exact Nat.lt_of_lt_of_le (by assumption) (by assumption) | exact Nat.lt_of_le_of_lt (by assumption) (by assumption) | exact Nat.add_le_add_left (by assumption) _ | exact Nat.add_lt_add_left (by assumption) _ | exact Nat.le_of_eq (Nat.add_sub_cancel' (by assumption)) | lia) fun x y p1 p2 p3 p4 => by rw [hM]; clear ho hk x1 x2 x3 x4 hb hmax l r ihl ihr mF mB hM; lia
      clear a hM hb hmax l r ihl ihr mF mB
      lia
    · have e1 := ihl (by first | assumption | exact Nat.le_refl _ | exact Nat.zero_le _ | exact Nat.le_add_right _ _ | exact Nat.lt_add_of_pos_right (by assumption) | exact Nat.le_of_lt (by assumption) | exact Nat.le_trans (by assumption) (Nat.le_add_right _ _) | exact Nat.le_trans (by assumption) (by assumption) | exact Nat.lt_of_lt_of_le (by assumption) (by assumption) | exact Nat.lt_of_le_of_lt (by assumption) (by assumption) | exact Nat.add_le_add_left (by assumption) _ | exact Nat.add_lt_add_left (by assumption) _ | exact Nat.le_of_eq (Nat.add_sub_cancel' (by assumption)) | lia) (by first | assumption | exact Nat.le_refl _ | exact Nat.zero_le _ | exact Nat.le_add_right _ _ | exact Nat.lt_add_of_pos_right (by assumption) | exact Nat.le_of_lt (by assumption) | exact Nat.le_trans (by assumption) (Nat.le_add_right _ _) | exact Nat.le_trans (by assumption) (by assumption) | exact Nat.lt_of_lt_of_le (by assumption) (by assumption) | exact Nat.lt_of_le_of_lt (by assumption) (by assumption) | exact Nat.add_le_add_left (by assumption) _ | exact Nat.add_lt_add_left (by assumption) _ | exact Nat.le_of_eq (Nat.add_sub_cancel' (by assumption)) | lia) h3 (by first | assumption | exact Nat.le_refl _ | exact Nat.zero_le _ | exact Nat.le_add_right _ _ | exact Nat.lt_add_of_pos_right (by assumption) | exact Nat.le_of_lt (by assumption) | exact Nat.le_trans (by assumption) (Nat.le_add_right _ _) | exact Nat.le_trans (by assumption) (by assumption) | exact Nat.lt_of_lt_of_le (by assumption) (by assumption) | exact Nat.lt_of_le_of_lt (by assumption) (by assumption) | exact Nat.add_le_add_left (by assumption) _ | exact Nat.add_lt_add_left (by assumption) _ | exact Nat.le_of_eq (Nat.add_sub_cancel' (by assumption)) | lia) (by first | assumption | exact Nat.le_refl _ | exact Nat.zero_le _ | exact Nat.le_add_right _ _ | exact Nat.lt_add_of_pos_right (by assumption) | exact Nat.le_of_lt (by assumption) | exact Nat.le_trans (by assumption) (Nat.le_add_right _ _) | exact Nat.le_trans (by assumption) (by assumption) | exact Nat.lt_of_lt_of_le (by assumption) (by assumption) | exact Nat.lt_of_le_of_lt (by assumption) (by assumption) | exact Nat.add_le_add_left (by assumption) _ | exact Nat.add_lt_add_left (by assumption) _ | exact Nat.le_of_eq (Nat.add_sub_cancel' (by assumption)) | lia)
      have e2 := r.empty (by first | assumption | exact Nat.le_refl _ | exact Nat.zero_le _ | exact Nat.le_add_right _ _ | exact Nat.lt_add_of_pos_right (by assumption) | exact Nat.le_of_lt (by assumption) | exact Nat.le_trans (by assumption) (Nat.le_add_right _ _) | exact Nat.le_trans (by assumption) (by assumption) | exact Nat.lt_of_lt_of_le (by assumption) (by assumption) | exact Nat.lt_of_le_of_lt (by assumption) (by assumption) | exact Nat.add_le_add_left (by assumption) _ | exact Nat.add_lt_add_left (by assumption) _ | exact Nat.le_of_eq (Nat.add_sub_cancel' (by assumption)) | lia)
      lia
end Mine
end
section
set_option autoImplicit false
namespace Mine
/-- the table's step: behind the last one, or in place of the first that is not less -/
noncomputable def put (r : List Int) (x : Int) : List Int :=
  let k := (r.takeWhile (· < x)).length
  if k = r.length then r ++ [x] else r.set k x
noncomputable def rises (l : List Int) : List Int := l.foldl put []
noncomputable def run (a : Int) : Nat → List Int
  | 0 => []
  | n + 1 => a :: run (a + 1) n
theorem run_length (a : Int) : ∀ n, (run a n).length = n := by
  intro n; induction n generalizing a with
  | zero => rfl
  | succ n ih => simp [run, ih]
theorem mem_run {x : Int} : ∀ {n : Nat} {a : Int}, x ∈ run a n ↔ a ≤ x ∧ x < a + n
  | 0, a => by simp only [run, List.not_mem_nil, false_iff]; lia
  | n + 1, a => by
    rw [run, List.mem_cons, mem_run]
    constructor
    · rintro (h | h) <;> lia
    · intro h
      by_cases e : x = a
      · exact .inl e
      · right; lia
theorem run_get {n : Nat} : ∀ {a : Int} {i : Nat} (h : i < (run a n).length), (run a n)[i] = a + i := by
  induction n with
  | zero => intro a i h; exact absurd h (Nat.not_lt_zero _)
  | succ n ih =>
    intro a i h
    cases i with
    | zero => simp [run]
    | succ i => simp only [run, List.getElem_cons_succ]; rw [ih]; lia
theorem run_app (a : Int) (n : Nat) : ∀ m, run a (n + m) = run a n ++ run (a + n) m := by
  induction n generalizing a with
  | zero => intro m; simp [run]
  | succ n ih =>
    intro m
    rw [show n + 1 + m = (n + m) + 1 by lia, run, run, ih, List.cons_append]
    congr 3; lia
theorem takeWhile_app {A B : List Int} {x : Int} (hA : ∀ y ∈ A, y < x) (hB : ∀ y ∈ B, x ≤ y) : ((A ++ B).takeWhile (· < x)).length = A.length := by
  induction A with
  | nil =>
    cases B with
    | nil => rfl
    | cons b B => simp [List.takeWhile]; have := hB b (.head _); simp [show ¬ b < x by lia]
  | cons a A ih =>
    have h1 := hA a (.head _)
    simp [List.takeWhile, h1]
    exact ih fun y hy => hA y (.tail _ hy)
theorem put_app {A B : List Int} {x : Int} (hA : ∀ y ∈ A, y < x) (hB : ∀ y ∈ B, x ≤ y) : put (A ++ B) x = A ++ x :: B.drop 1 := by
  unfold put
  rw [takeWhile_app hA hB]
  cases B with
  | nil => simp
  | cons b B => simp [List.set_append]
theorem put_run : ∀ (n : Nat) (A B : List Int) (a : Int), (∀ y ∈ A, y < a) → (∀ i (h : i < B.length), a + i ≤ B[i]) → (run a n).foldl put (A ++ B) = A ++ run a n ++ B.drop n
  | 0, A, B, a, _, _ => by simp [run]
  | n + 1, A, B, a, hA, hB => by
    have hB' : ∀ y ∈ B, a ≤ y := fun y hy => by
      obtain ⟨i, h, e⟩ := List.getElem_of_mem hy
      have := hB i h
      lia
    rw [run, List.foldl_cons, put_app hA hB']
    have := put_run n (A ++ [a]) (B.drop 1) (a + 1) (by
      intro y hy
      rcases List.mem_append.mp hy with h | h
      · have := hA y h; lia
      · rw [List.mem_singleton.mp h]; lia) (by
      intro i h
      rw [List.getElem_drop]
      have := hB (1 + i) (by rw [List.length_drop] at h; lia)
      lia)
    rw [show A ++ a :: B.drop 1 = (A ++ [a]) ++ B.drop 1 by simp, this]
    simp [List.drop_drop, Nat.add_comm]
theorem put_more {A : List Int} {a : Int} (n : Nat) (hA : ∀ y ∈ A, y < a) : (run a n).foldl put A = A ++ run a n := by
  have := put_run n A [] a hA (fun i h => absurd h (Nat.not_lt_zero _))
  simpa using this
theorem put_turn (A : List Int) (a : Int) (hA : ∀ y ∈ A, y < a) : ∀ n, ((run a (n + 1)).reverse).foldl put A = A ++ [a] ∧ ∀ v, a + n ≤ v → ((run a n).reverse).foldl put (A ++ [v]) = A ++ [if n = 0 then v else a] := by
  have key : ∀ (n : Nat) (v : Int), a + n ≤ v → ((run a n).reverse).foldl put (A ++ [v]) = A ++ [if n = 0 then v else a] := by
    intro n
    induction n with
    | zero => intro v _; simp [run]
    | succ n ih =>
      intro v hv
      rw [run_app a n 1, List.reverse_append]
      show ((run a n).reverse).foldl put (put (A ++ [v]) (a + n)) = _
      rw [put_app (fun y hy => by have := hA y hy; lia) (fun y hy => by rw [List.mem_singleton.mp hy]; lia)]
      show ((run a n).reverse).foldl put (A ++ [a + (n : Int)]) = _
      rw [ih _ (by lia)]
      cases n <;> simp
  intro n
  refine ⟨?_, key n⟩
  rw [run_app a n 1, List.reverse_append]
  show ((run a n).reverse).foldl put (put A (a + n)) = _
  have e := put_app (A := A) (B := []) (x := a + n) (fun y hy => by have := hA y hy; lia) (fun y hy => nomatch hy)
  rw [List.append_nil] at e
  rw [e]
  show ((run a n).reverse).foldl put (A ++ [a + (n : Int)]) = _
  rw [key n _ (by lia)]
  cases n <;> simp
-- the seven kinds' tables
variable {e o u b n : Nat}
theorem rises_up (e n : Nat) (d : Nat) : (rises (run 0 e ++ run ((e + d : Nat) : Int) n)).length = e + n := by
  unfold rises
  rw [List.foldl_append]
  have h1 := put_more (A := []) (a := 0) e (fun y hy => nomatch hy)
  rw [List.nil_append] at h1
  rw [h1, put_more n (fun y hy => by have := mem_run.mp hy; lia)]
  simp [run_length]
theorem rises_swap (e o u b : Nat) : (rises (run 0 e ++ (run ((e + o : Nat) : Int) u ++ (run (e : Int) o ++ run ((e + o + u : Nat) : Int) b)))).length = e + max o u + b := by
  unfold rises
  rw [List.foldl_append, List.foldl_append, List.foldl_append]
  have h1 := put_more (A := []) (a := 0) e (fun y hy => nomatch hy)
  rw [List.nil_append] at h1
  rw [h1, put_more u (fun y hy => by have := mem_run.mp hy; lia)]
  rw [put_run o (run 0 e) _ _ (fun y hy => by have := mem_run.mp hy; lia) (fun i h => by rw [run_get]; lia)]
  rw [put_more b]
  · simp [run_length]; lia
  · intro y hy
    rcases List.mem_append.mp hy with h | h
    · rcases List.mem_append.mp h with h | h <;> (have := mem_run.mp h; lia)
    · have := mem_run.mp (List.mem_of_mem_drop h); lia
theorem rises_twice (e o b : Nat) : (rises (run 0 (e + o) ++ (run (e : Int) o ++ run ((e + o : Nat) : Int) b))).length = e + o + b := by
  unfold rises
  rw [List.foldl_append, List.foldl_append]
  have h1 := put_more (A := []) (a := 0) (e + o) (fun y hy => nomatch hy)
  rw [List.nil_append] at h1
  rw [h1, run_app, put_run o (run 0 e) _ _ (fun y hy => by have := mem_run.mp hy; lia) (fun i h => by rw [run_get]; lia)]
  rw [put_more b]
  · simp [run_length]; lia
  · intro y hy
    rcases List.mem_append.mp hy with h | h
    · rcases List.mem_append.mp h with h | h <;> (have := mem_run.mp h; lia)
    · have := mem_run.mp (List.mem_of_mem_drop h); lia
theorem rises_turn (e o b : Nat) : (rises (run 0 e ++ ((run (e : Int) (o + 1)).reverse ++ run ((e + (o + 1) : Nat) : Int) b))).length = e + 1 + b := by
  unfold rises
  rw [List.foldl_append, List.foldl_append]
  have h1 := put_more (A := []) (a := 0) e (fun y hy => nomatch hy)
  rw [List.nil_append] at h1
  rw [h1, (put_turn (run 0 e) e (fun y hy => by have := mem_run.mp hy; lia) o).1, put_more b]
  · simp [run_length]; lia
  · intro y hy
    rcases List.mem_append.mp hy with h | h
    · have := mem_run.mp h; lia
    · rw [List.mem_singleton.mp h]; lia
end Mine
end
section
set_option autoImplicit false
namespace Mine
noncomputable def seg (w : List Int) (a c : Nat) : List Int := (w.drop a).take c
noncomputable def Mt (a b : List Int) (i j : Nat) : Prop := ∃ x, a[i]? = some x ∧ b[j]? = some x
theorem seg_length {w : List Int} {a c : Nat} (h : a + c ≤ w.length) : (seg w a c).length = c := by
  unfold seg; rw [List.length_take, List.length_drop]; lia
theorem seg_get {w : List Int} {a c i : Nat} : (seg w a c)[i]? = if i < c then w[a + i]? else none := by
  unfold seg
  rw [List.getElem?_take]
  split <;> simp [List.getElem?_drop]
theorem nodup_get {w : List Int} (hw : w.Nodup) {p q : Nat} {x : Int} (h1 : w[p]? = some x) (h2 : w[q]? = some x) : p = q := by
  obtain ⟨a, _⟩ := List.getElem?_eq_some_iff.mp h1
  exact (List.getElem?_inj a hw).mp (h1.trans h2.symm)
theorem Mt_seg {w : List Int} (hw : w.Nodup) {a c i j : Nat} (h : a + c ≤ w.length) : Mt (seg w a c) w i j ↔ i < c ∧ j = a + i := by
  unfold Mt
  rw [seg_get]
  constructor
  · rintro ⟨x, h1, h2⟩
    split at h1
    · exact ⟨by assumption, nodup_get hw h2 h1⟩
    · cases h1
  · rintro ⟨h1, rfl⟩
    rw [if_pos h1]
    exact ⟨w[a + i]'(by lia), by rw [List.getElem?_eq_getElem], by rw [List.getElem?_eq_getElem]⟩
theorem Mt_rev {w : List Int} (hw : w.Nodup) {a c i j : Nat} (h : a + c ≤ w.length) : Mt (seg w a c).reverse w i j ↔ i < c ∧ i + j + 1 = a + c := by
  have e : Mt (seg w a c).reverse w i j ↔ i < c ∧ Mt (seg w a c) w (c - 1 - i) j := by
    unfold Mt
    by_cases q : i < c
    · rw [List.getElem?_reverse (by rw [seg_length h]; exact q), seg_length h]
      exact ⟨fun x => ⟨q, x⟩, fun x => x.2⟩
    · constructor
      · rintro ⟨x, h1, _⟩
        rw [List.getElem?_eq_none (by rw [List.length_reverse, seg_length h]; lia)] at h1
        cases h1
      · rintro ⟨h1, _⟩; exact absurd h1 q
  rw [e, Mt_seg hw h]
  lia
theorem Mt_app {A B w : List Int} {i j : Nat} : Mt (A ++ B) w i j ↔ (i < A.length ∧ Mt A w i j) ∨ (A.length ≤ i ∧ Mt B w (i - A.length) j) := by
  unfold Mt
  rw [List.getElem?_append]
  by_cases q : i < A.length
  · rw [if_pos q]
    exact ⟨fun x => .inl ⟨q, x⟩, fun x => x.elim (·.2) fun y => absurd q (by lia)⟩
  · rw [if_neg q]
    exact ⟨fun x => .inr ⟨by lia, x⟩, fun x => x.elim (fun y => absurd y.1 q) (·.2)⟩
theorem Mt_new {A w : List Int} {i j : Nat} (h : ∀ x ∈ A, x ∉ w) : Mt A w i j ↔ False := by
  refine ⟨?_, False.elim⟩
  rintro ⟨x, h1, h2⟩
  exact h x (List.mem_of_getElem? h1) (List.mem_of_getElem? h2)
/-- the places in the word -/
noncomputable def places (w l : List Int) : List Int := (l.filter fun x => decide (x ∈ w)).map fun x => (w.idxOf x : Int)
theorem places_app (w A B : List Int) : places w (A ++ B) = places w A ++ places w B := by
  unfold places; rw [List.filter_append, List.map_append]
theorem places_rev (w A : List Int) : places w A.reverse = (places w A).reverse := by
  unfold places; rw [List.filter_reverse, List.map_reverse]
theorem places_new {w A : List Int} (h : ∀ x ∈ A, x ∉ w) : places w A = [] := by
  unfold places
  rw [List.filter_eq_nil_iff.mpr (fun x hx => by simpa using h x hx)]
  rfl
theorem places_seg {w : List Int} (hw : w.Nodup) {a c : Nat} (h : a + c ≤ w.length) : places w (seg w a c) = run (a : Int) c := by
  unfold places
  have sub : ∀ x ∈ seg w a c, x ∈ w := fun x hx => List.mem_of_mem_drop (List.mem_of_mem_take hx)
  rw [List.filter_eq_self.mpr (fun x hx => by simpa using sub x hx)]
  apply List.ext_getElem
  · rw [List.length_map, seg_length h, run_length]
  · intro i h1 h2
    rw [List.getElem_map, run_get]
    have hi : i < c := by rwa [run_length] at h2
    have e : (seg w a c)[i]'(by rw [seg_length h]; exact hi) = w[a + i]'(by lia) := by
      have := seg_get (w := w) (a := a) (c := c) (i := i)
      rw [if_pos hi, List.getElem?_eq_getElem (by rw [seg_length h]; exact hi), List.getElem?_eq_getElem (by lia)] at this
      exact Option.some.inj this
    rw [e, List.Nodup.idxOf_getElem hw]
    lia
/-- what one mistake makes of the word -/
noncomputable def mistake (w news : List Int) (e o u : Nat) : Nat → List Int
  | 0 => seg w 0 e ++ (seg w (e + o) u ++ seg w (e + o + u) (w.length - (e + o + u)))
  | 1 => seg w 0 e ++ (news ++ (seg w e o ++ (seg w (e + o) u ++ seg w (e + o + u) (w.length - (e + o + u)))))
  | 2 => seg w 0 e ++ (news ++ (seg w (e + o) u ++ seg w (e + o + u) (w.length - (e + o + u))))
  | 3 => seg w 0 e ++ (seg w (e + o) u ++ (seg w e o ++ seg w (e + o + u) (w.length - (e + o + u))))
  | 4 => seg w 0 e ++ (seg w e o ++ (seg w e o ++ (seg w (e + o) u ++ seg w (e + o + u) (w.length - (e + o + u)))))
  | 5 => seg w 0 e ++ ((seg w e o).reverse ++ (seg w (e + o) u ++ seg w (e + o + u) (w.length - (e + o + u))))
  | _ => seg w e o
theorem seg_join {w : List Int} {a c d : Nat} (h : a + c + d ≤ w.length) : seg w a c ++ seg w (a + c) d = seg w a (c + d) := by
  apply List.ext_getElem?
  intro i
  rw [List.getElem?_append, seg_length (by lia), seg_get, seg_get, seg_get]
  by_cases h1 : i < c
  · rw [if_pos h1, if_pos h1, if_pos (by lia)]
  · rw [if_neg h1]
    by_cases h2 : i < c + d
    · rw [if_pos h2, if_pos (by lia)]; congr 1; lia
    · rw [if_neg h2, if_neg (by lia)]
end Mine
end
section
set_option autoImplicit false
namespace Mine
/-- the matches of a list that is laid from place p on -/
noncomputable def At (w : List Int) (p : Nat) (A : List Int) (i j : Nat) : Prop := p ≤ i ∧ Mt A w (i - p) j
theorem At_zero {A w : List Int} {i j : Nat} : Mt A w i j ↔ At w 0 A i j := by
  unfold At
  rw [Nat.sub_zero]
  exact ⟨fun h => ⟨Nat.zero_le _, h⟩, fun h => h.2⟩
theorem At_app {A B w : List Int} {p i j : Nat} : At w p (A ++ B) i j ↔ At w p A i j ∨ At w (p + A.length) B i j := by
  unfold At
  rw [Mt_app, Nat.sub_sub]
  constructor
  · rintro ⟨h, ⟨_, m⟩ | ⟨q, m⟩⟩
    · exact .inl ⟨h, m⟩
    · exact .inr ⟨by lia, m⟩
  · rintro (⟨h, m⟩ | ⟨h, m⟩)
    · refine ⟨h, .inl ⟨?_, m⟩⟩
      obtain ⟨x, a, _⟩ := m
      exact (List.getElem?_eq_some_iff.mp a).1
    · exact ⟨by lia, .inr ⟨by lia, m⟩⟩
theorem At_seg {w : List Int} (hw : w.Nodup) {a c p i j : Nat} (h : a + c ≤ w.length) : At w p (seg w a c) i j ↔ p ≤ i ∧ i < p + c ∧ j + p = i + a := by
  unfold At
  rw [Mt_seg hw h]
  lia
theorem At_rev {w : List Int} (hw : w.Nodup) {a c p i j : Nat} (h : a + c ≤ w.length) : At w p (seg w a c).reverse i j ↔ p ≤ i ∧ i < p + c ∧ i + j + 1 = p + a + c := by
  unfold At
  rw [Mt_rev hw h]
  lia
theorem At_new {A w : List Int} {p i j : Nat} (h : ∀ x ∈ A, x ∉ w) : At w p A i j ↔ False := by
  unfold At
  rw [Mt_new h, and_false]
theorem plain_law {w news : List Int} {e o u kind t : Nat} (hw : w.Nodup) (hn : ∀ x ∈ news, x ∉ w) (h : e + o + u ≤ w.length)
    (T : Tot (Mt (mistake w news e o u kind) w) 0 (mistake w news e o u kind).length 0 w.length t) : t = (rises (places w (mistake w news e o u kind))).length := by
  obtain ⟨b, hb⟩ : ∃ b, w.length = e + o + u + b := ⟨_, (Nat.add_sub_cancel' h).symm⟩
  have hbs : w.length - (e + o + u) = b := by rw [hb, Nat.add_sub_cancel_left]
  have h0 : 0 + e ≤ w.length := by lia
  have hO : e + o ≤ w.length := by lia
  have hU : e + o + u ≤ w.length := h
  have hB : e + o + u + b ≤ w.length := Nat.le_of_eq hb.symm
  have hR : e + o + (u + b) ≤ w.length := by rwa [← Nat.add_assoc]
  have hS : e + (o + (u + b)) ≤ w.length := by rwa [← Nat.add_assoc]
  have l0 := seg_length h0
  have lO := seg_length hO
  have lU := seg_length hU
  have lB := seg_length hB
  have lR := seg_length hR
  have lS := seg_length hS
  have p0 := places_seg hw h0
  have pO := places_seg hw hO
  have pU := places_seg hw hU
  have pB := places_seg hw hB
  have pR := places_seg hw hR
  have pS := places_seg hw hS
  have pN := places_new hn
  have hr : e + (u + b) ≤ w.length := by lia
  match kind with
  | 0 =>
    simp only [mistake, hbs] at T ⊢
    rw [seg_join hB] at T ⊢
    rw [List.length_append, l0, lR] at T
    rw [places_app, p0, pR, Int.natCast_zero, rises_up]
    refine T.two 0 0 e e (e + o) (u + b) (Nat.le_refl _) (Nat.le_of_eq (Nat.zero_add e)) (Nat.le_refl _) (Nat.le_refl _) (by rw [Nat.zero_add]; exact Nat.le_add_right _ _) hR fun i j _ _ _ _ => ?_
    rw [At_zero, At_app, At_seg hw h0, At_seg hw hR, l0, Nat.zero_add]
  | 1 =>
    simp only [mistake, hbs] at T ⊢
    rw [seg_join hB, seg_join hR] at T ⊢
    rw [List.length_append, List.length_append, l0, lS] at T
    have r := rises_up e (o + (u + b)) 0
    rw [Nat.add_zero] at r
    rw [places_app, places_app, p0, pN, List.nil_append, pS, Int.natCast_zero, r]
    refine T.two 0 0 e (e + news.length) e (o + (u + b)) (Nat.le_refl _) (by rw [Nat.zero_add]; exact Nat.le_add_right _ _) (Nat.le_of_eq (Nat.add_assoc _ _ _)) (Nat.le_refl _) (Nat.le_of_eq (Nat.zero_add e)) hS fun i j _ _ _ _ => ?_
    rw [At_zero, At_app, At_app, At_seg hw h0, At_seg hw hS, At_new hn, l0, Nat.zero_add, false_or]
  | 2 =>
    simp only [mistake, hbs] at T ⊢
    rw [seg_join hB] at T ⊢
    rw [List.length_append, List.length_append, l0, lR] at T
    rw [places_app, places_app, p0, pN, List.nil_append, pR, Int.natCast_zero, rises_up]
    refine T.two 0 0 e (e + news.length) (e + o) (u + b) (Nat.le_refl _) (by rw [Nat.zero_add]; exact Nat.le_add_right _ _) (Nat.le_of_eq (Nat.add_assoc _ _ _)) (Nat.le_refl _) (by rw [Nat.zero_add]; exact Nat.le_add_right _ _) hR fun i j _ _ _ _ => ?_
    rw [At_zero, At_app, At_app, At_seg hw h0, At_seg hw hR, At_new hn, l0, Nat.zero_add, false_or]
  | 3 =>
    simp only [mistake, hbs] at T ⊢
    rw [List.length_append, List.length_append, List.length_append, l0, lU, lO, lB, hb] at T
    rw [places_app, places_app, places_app, p0, pU, pO, pB, Int.natCast_zero, rises_swap]
    have hM : ∀ i j, Mt (seg w 0 e ++ (seg w (e + o) u ++ (seg w e o ++ seg w (e + o + u) b))) w i j ↔
        (0 ≤ i ∧ i < e ∧ j + 0 = i + 0) ∨ (e ≤ i ∧ i < e + u ∧ j + e = i + (e + o)) ∨ (e + u ≤ i ∧ i < e + u + o ∧ j + (e + u) = i + e) ∨ (e + u + o ≤ i ∧ i < e + u + o + b ∧ j + (e + u + o) = i + (e + o + u)) := fun i j => by
      rw [At_zero, At_app, At_app, At_app, At_seg hw h0, At_seg hw hU, At_seg hw hO, At_seg hw hB, l0, lU, lO, Nat.zero_add]
    clear hw hn l0 lO lU lB lR lS p0 pO pU pB pR pS pN h0 hO hU hB hR hS hr h hb hbs
    by_cases q : 0 < o ∧ 0 < u
    · have := tot_swap q.1 q.2 hM T rfl (by lia) (Nat.zero_le _) (by lia) (by lia)
      clear hM T
      lia
    · have := T.one 0 0 (e + u + o + b) (Nat.le_refl _) (by lia) (Nat.le_refl _) (by lia) fun i j _ _ _ _ => by rw [hM]; clear hM T; lia
      clear hM T
      lia
  | 4 =>
    simp only [mistake, hbs] at T ⊢
    have j1 : seg w 0 e ++ seg w e o = seg w 0 (e + o) := by
      have := seg_join (w := w) (a := 0) (c := e) (d := o) (by lia)
      rwa [Nat.zero_add] at this
    have hM : ∀ i j, Mt (seg w 0 (e + o) ++ seg w e (o + (u + b))) w i j ↔
        (0 ≤ i ∧ i < e + o ∧ j + 0 = i + 0) ∨ (e + o ≤ i ∧ i < e + o + (o + (u + b)) ∧ j + (e + o) = i + e) := fun i j => by
      rw [At_zero, At_app, At_seg hw (by rwa [Nat.zero_add]), At_seg hw hS, seg_length (by rwa [Nat.zero_add]), Nat.zero_add]
    rw [seg_join hB] at T ⊢
    rw [seg_join hR, ← List.append_assoc, j1, List.length_append, seg_length (by rwa [Nat.zero_add]), lS, show w.length = e + o + (u + b) by rw [hb, Nat.add_assoc]] at T
    rw [places_app, places_app, places_app, p0, pO, pR, Int.natCast_zero, ← List.append_assoc]
    have r := rises_twice e o (u + b)
    rw [run_app, Int.zero_add] at r
    rw [r]
    clear hw hn l0 lO lU lB lR lS p0 pO pU pB pR pS pN h0 hO hU hB hR hS hr h hb hbs r
    by_cases q : 0 < o
    · have := tot_twice q hM T
      clear hM T
      lia
    · have := T.one 0 0 (e + (u + b)) (Nat.le_refl _) (by lia) (Nat.le_refl _) (by lia) fun i j _ _ _ _ => by rw [hM]; clear hM T; lia
      clear hM T
      lia
  | 5 =>
    simp only [mistake, hbs] at T ⊢
    rw [seg_join hB] at T ⊢
    have hM : ∀ i j, Mt (seg w 0 e ++ ((seg w e o).reverse ++ seg w (e + o) (u + b))) w i j ↔
        (0 ≤ i ∧ i < e ∧ j + 0 = i + 0) ∨ (e ≤ i ∧ i < e + o ∧ i + j + 1 = e + e + o) ∨ (e + o ≤ i ∧ i < e + o + (u + b) ∧ j + (e + o) = i + (e + o)) := fun i j => by
      rw [At_zero, At_app, At_app, At_seg hw h0, At_rev hw hO, At_seg hw hR, List.length_reverse, l0, lO, Nat.zero_add]
    rw [List.length_append, List.length_append, List.length_reverse, l0, lO, lR, show w.length = e + o + (u + b) by rw [hb, Nat.add_assoc]] at T
    rw [places_app, places_app, places_rev, p0, pO, pR, Int.natCast_zero]
    clear hw hn l0 lO lU lB lR lS p0 pO pU pB pR pS pN h0 hO hU hB hR hS hr h hb hbs
    cases o with
    | zero =>
      have r := rises_up e (u + b) 0
      simp only [run, List.reverse_nil, List.nil_append]
      rw [r]
      have := T.one 0 0 (e + (u + b)) (Nat.le_refl _) (by lia) (Nat.le_refl _) (by lia) fun i j _ _ _ _ => by rw [hM]; clear hM T; lia
      exact this
    | succ o =>
      rw [rises_turn]
      by_cases q : 2 ≤ o + 1
      · have := tot_turn q hM T rfl (by lia) (Nat.zero_le _) (by lia) (by lia)
        clear hM T
        lia
      · have := T.one 0 0 (e + o + 1 + (u + b)) (Nat.le_refl _) (by lia) (Nat.le_refl _) (by lia) fun i j _ _ _ _ => by rw [hM]; clear hM T; lia
        clear hM T
        lia
  | k + 6 =>
    simp only [mistake] at T ⊢
    rw [lO] at T
    have r := put_more (A := []) (a := (e : Int)) o (fun y hy => nomatch hy)
    rw [List.nil_append] at r
    rw [pO]
    unfold rises
    rw [r, run_length]
    exact T.one 0 e o (Nat.le_refl _) (Nat.le_of_eq (Nat.zero_add o)) (Nat.zero_le _) hO fun i j _ _ _ _ => by rw [At_zero, At_seg hw hO]
/-- the other way round -/
theorem plain_law' {w news : List Int} {e o u kind t : Nat} (hw : w.Nodup) (hn : ∀ x ∈ news, x ∉ w) (h : e + o + u ≤ w.length)
    (T : Tot (Mt w (mistake w news e o u kind)) 0 w.length 0 (mistake w news e o u kind).length t) : t = (rises (places w (mistake w news e o u kind))).length := by
  refine plain_law hw hn h ?_
  have f := T.flip
  have e1 : (fun i j => Mt w (mistake w news e o u kind) j i) = Mt (mistake w news e o u kind) w := by
    funext i j
    exact propext ⟨fun ⟨x, a, b⟩ => ⟨x, b, a⟩, fun ⟨x, a, b⟩ => ⟨x, b, a⟩⟩
  rwa [e1] at f
end Mine
end
section
open PySem PySem.W PyProof.Rows PySem.Challenge
namespace Mine
local macro_rules | `(tactic| k_room) => `(tactic| ktr_room)
local macro_rules | `(tactic| k_mem) => `(tactic| first | assumption | exact List.mem_cons_self | (refine' List.mem_cons_of_mem _ ?_; k_mem))
local macro_rules | `(tactic| walk_at "call builtin:len") => `(tactic| (k_here; k_dflt (refine' kst_len (by k_asm) (by k_mem) (by first | assumption | exact IntsAre.length (by assumption)) (by lia) ?_); k_whole))
local macro_rules | `(tactic| walk_at "call builtin:list.append") => `(tactic| (k_here; k_dflt (refine' append_K (by k_asm) (by k_asm) (by exact Upd.head (by assumption)) ?_ (by (rw [List.size_toArray, sizeLine_eq]; lia))); intros; (try dsimp only)))
section
open PySem PySem.W PyProof.Rows PySem.Challenge
set_option Elab.async false
set_option maxRecDepth 100000
set_option maxHeartbeats 8000000
noncomputable def Halt (p : Prop) : Prop := p
theorem halt {p : Prop} (h : Halt p) : p := h
theorem haltC (n : Nat) {M : Model} {A : Around} {l : List Value} {Q : Value → Shared → Prop} {E : Value → Shared → Prop} {s : Shared} (h : Halt (wpAny M A (call (.ref n) l) Q E s)) : wpAny M A (call (.ref n) l) Q E s := h
local macro_rules | `(tactic| walk_at "exec While Compare cons nil") => `(tactic| refine halt ?_)
theorem takeWhile_len {ns : List Int} {x : Int} {k : Nat} (hk : k ≤ ns.length) (h1 : ∀ i (h : i < ns.length), i < k → ns[i] < x) (h2 : ∀ i (h : i < ns.length), k ≤ i → x ≤ ns[i]) : (ns.takeWhile (· < x)).length = k := by
  have e : ns = ns.take k ++ ns.drop k := (List.take_append_drop k ns).symm
  rw [e, takeWhile_app, List.length_take]
  · lia
  · intro y hy
    obtain ⟨i, hi, rfl⟩ := List.getElem_of_mem hy
    rw [List.getElem_take]
    rw [List.length_take] at hi
    exact h1 i (by lia) (by lia)
  · intro y hy
    obtain ⟨i, hi, rfl⟩ := List.getElem_of_mem hy
    rw [List.getElem_drop]
    rw [List.length_drop] at hi
    exact h2 _ (by lia) (by lia)
theorem kstB_off {rest : Str → Option Value} {z : Str} : ∀ {ps : List (Str × Value)}, (∀ p ∈ ps, z ≠ p.1) → kstB rest ps z = rest z
  | [], _ => rfl
  | p :: ps, h => by
    show (if z = p.1 then some p.2 else kstB rest ps z) = _
    rw [if_neg (h p (.head _))]
    exact kstB_off fun q hq => h q (.tail _ hq)
theorem off_ps {m₀ u : Str → Option Value} {stored : List Str} {z : Str} {ps : List (Str × Value)} (h : ∀ p ∈ ps, z ≠ p.1) (h3 : stored.contains z = false) :
    kstB (fun z => if stored.contains z then u z else m₀ z) ps z = m₀ z := by
  rw [kstB_off h]
  show (if stored.contains z = true then u z else m₀ z) = m₀ z
  rw [h3]; rfl
theorem ne_of_stored {a z : Str} (h : [a].contains z = false) : z ≠ a := fun e => by subst e; simp at h
/-- what holds between the turns of the search -/
noncomputable def BisP (ns : List Int) (x lo hi : Int) : Prop := 0 ≤ lo ∧ lo ≤ hi ∧ hi ≤ ns.length ∧ (∀ i (h : i < ns.length), (i : Int) < lo → ns[i] < x) ∧ (∀ i (h : i < ns.length), hi ≤ i → x ≤ ns[i])
theorem getD_at {ns : List Int} {k : Nat} (h : k < ns.length) : ns.getD k 0 = ns[k] := by simp [List.getD, h]
theorem bis_mid {lo hi : Int} (h0 : 0 ≤ lo) (h : lo < hi) : lo ≤ (lo + hi).fdiv 2 ∧ (lo + hi).fdiv 2 < hi := by
  rw [Int.fdiv_eq_ediv_of_nonneg _ (by lia)]; lia
theorem bis_up {ns : List Int} {x lo hi : Int} (hs : ns.Pairwise (· < ·)) (p : BisP ns x lo hi) (h : lo < hi) (c : ns.getD ((lo + hi).fdiv 2).toNat 0 < x) : BisP ns x ((lo + hi).fdiv 2 + 1) hi := by
  obtain ⟨p0, p1, p2, p3, p4⟩ := p
  obtain ⟨m1, m2⟩ := bis_mid p0 h
  generalize (lo + hi).fdiv 2 = k at *
  refine ⟨by lia, by lia, p2, fun i hi' hk => ?_, p4⟩
  rw [getD_at (by lia)] at c
  by_cases e : i = k.toNat
  · subst e; exact c
  · have := List.pairwise_iff_getElem.mp hs i k.toNat hi' (by lia) (by lia)
    lia
theorem bis_down {ns : List Int} {x lo hi : Int} (hs : ns.Pairwise (· < ·)) (p : BisP ns x lo hi) (h : lo < hi) (c : ¬ ns.getD ((lo + hi).fdiv 2).toNat 0 < x) : BisP ns x lo ((lo + hi).fdiv 2) := by
  obtain ⟨p0, p1, p2, p3, p4⟩ := p
  obtain ⟨m1, m2⟩ := bis_mid p0 h
  generalize (lo + hi).fdiv 2 = k at *
  refine ⟨p0, by lia, by lia, p3, fun i hi' hk => ?_⟩
  rw [getD_at (by lia)] at c
  by_cases e : i = k.toNat
  · subst e; lia
  · have := List.pairwise_iff_getElem.mp hs k.toNat i (by lia) hi' (by lia)
    lia
theorem bis_end {ns : List Int} {x lo hi : Int} (p : BisP ns x lo hi) (h : ¬ lo < hi) : lo = ((ns.takeWhile (· < x)).length : Nat) := by
  obtain ⟨p0, p1, p2, p3, p4⟩ := p
  rw [takeWhile_len (k := lo.toNat) (by lia) (fun i h' a => p3 i h' (by lia)) (fun i h' a => p4 i h' (by lia))]
  lia
theorem bisect_tells {w : World} {dp un : Nat} {gd : Option (List Code)} {cn : Str} {cs : Scope} {a : Addr} {ccd : Value} {cl : List (Str × Addr)} {outer : List Env} {A₀ : Around} {base h₀ : Heap} {L : Addr} {m : Str → Option Value} {news : List (Addr × Obj)} {s : Shared}
    {mean : ExcName → Option Value} {mg mb : Str → Option Value} {l : Addr} {vs : List Value} {nn : Nat} {ns : List Int} {x : Int} {tx : Tok} {Q E : Value → Shared → Prop}
    (B : Below A₀ base outer h₀) (F : Fr h₀ L s.heap m) (N : News h₀ L s.heap news) (T : Top q2 (looseW q2 loose2) mean mg mb h₀) (hk : cs.kind = .function)
    (hl : (l, listOf vs.toArray nn) ∈ news) (hi : IntsAre vs ns) (hsrt : ns.Pairwise (· < ·)) (hlen : ns.length ≤ 1000) (hd : dp + 10 < recursionLimit) (hu : un + 100 < cLine)
    (ret : ∀ t' h' tk', Fr h₀ L h' m → News h₀ L h' news → Q (.int ((ns.takeWhile (· < x)).length : Nat) t') { s with heap := h', toks := tk' }) :
    (K2 w.params).In h₀ → wpAny (model rw_mu0013_02.row.prog w) (ktrTop dp un gd cn cs L a ccd cl outer) (call (.ref 255) [.ref l, .int x tx]) Q E s := by
  w_on
  k_fill
  intro X
  obtain ⟨ck, cnm, cig, cic, cmo⟩ := cs
  change ck = _ at hk
  subst hk
  refine wpAny_call ?_
  w_strict (
    k_dflt k_enter
    (have hb := Eq.refl (bodyOf (top 7)))
    (conv at hb => rhs; whnf)
    rw [hb]
    clear hb
    (have mk := kstMark)
    (have hvl := IntsAre.length hi)
    k_steps
    (unfold Halt)
    (rename Fr _ _ _ _ => F1)
    (rename News _ _ _ _ => N1)
    (refine' ksw_while (σ := Int × Tok × Int × Tok) (fun _ => news) (fun c : Int × Tok × Int × Tok => [(Str.ofString "lo", Value.int c.1 c.2.1), (Str.ofString "hi", Value.int c.2.2.1 c.2.2.2)]) (fun _ => True) [Str.ofString "mid"]
      (fun c : Int × Tok × Int × Tok => BisP ns x c.1 c.2.2.1) (fun c : Int × Tok × Int × Tok => (c.2.2.1 - c.1).toNat) (0, ?_, (ns.length : Int), ?_) ?kF ?kN trivial ?hk ?hp ?turn ?hE)
    (case kF => exact F1)
    (case kN => exact N1)
    (case hE => passes_own)
    (case hk => exact List.forall_mem_cons.mpr ⟨by with_unfolding_all rfl, List.forall_mem_cons.mpr ⟨by with_unfolding_all rfl, List.forall_mem_nil _⟩⟩)
    (case hp => exact ⟨Int.le_refl _, Int.natCast_nonneg _, Int.le_refl _, fun i _ h => absurd h (by show ¬ (i : Int) < 0; lia), fun i h h' => absurd h' (by show ¬ (ns.length : Int) ≤ i; lia)⟩)
    (case turn =>
      rintro ⟨lo, tlo, hi', thi⟩ u h tk - pP F2 N2
      dsimp only at pP F2 N2 ⊢
      have p0 := pP.1
      have p2 := pP.2.2.1
      clear F1 N1
      k_steps
      · refine' ksw_end (((lo + hi').fdiv 2 + 1, ?_, hi', ?_) : Int × Tok × Int × Tok) ?kF ?kN (fun _ h9 => h9) trivial ?hk ?hr ?hp ?hm
        (case kF => assumption)
        (case kN => assumption)
        (case hk => exact List.forall_mem_cons.mpr ⟨by with_unfolding_all rfl, List.forall_mem_cons.mpr ⟨by with_unfolding_all rfl, List.forall_mem_nil _⟩⟩)
        (case hr => (intro z h2 h3; (have n1 := h2 _ (.head _)); (have n2 := h2 _ (.tail _ (.head _))); (have n3 := ne_of_stored h3); (first | rw [if_neg n1, if_neg n3] | rw [if_neg n2, if_neg n3]); exact off_ps (ps := [(Str.ofString "lo", _), (Str.ofString "hi", _)]) (List.forall_mem_cons.mpr ⟨n1, List.forall_mem_cons.mpr ⟨n2, List.forall_mem_nil _⟩⟩) h3))
        (case hp => exact bis_up hsrt pP (by assumption) (by assumption))
        (case hm => have := bis_mid p0 (by assumption); dsimp only; lia)
      · refine' ksw_end ((lo, ?_, (lo + hi').fdiv 2, ?_) : Int × Tok × Int × Tok) ?kF ?kN (fun _ h9 => h9) trivial ?hk ?hr ?hp ?hm
        (case kF => assumption)
        (case kN => assumption)
        (case hk => exact List.forall_mem_cons.mpr ⟨by with_unfolding_all rfl, List.forall_mem_cons.mpr ⟨by with_unfolding_all rfl, List.forall_mem_nil _⟩⟩)
        (case hr => (intro z h2 h3; (have n1 := h2 _ (.head _)); (have n2 := h2 _ (.tail _ (.head _))); (have n3 := ne_of_stored h3); (first | rw [if_neg n1, if_neg n3] | rw [if_neg n2, if_neg n3]); exact off_ps (ps := [(Str.ofString "lo", _), (Str.ofString "hi", _)]) (List.forall_mem_cons.mpr ⟨n1, List.forall_mem_cons.mpr ⟨n2, List.forall_mem_nil _⟩⟩) h3))
        (case hp => exact bis_down hsrt pP (by assumption) (by assumption))
        (case hm => have := bis_mid p0 (by assumption); dsimp only; lia)
      · rw [bis_end pP (by assumption)]
        exact ret _ _ _ (by assumption) (by assumption)))
end
section
open PySem PySem.W PyProof.Rows PySem.Challenge
set_option Elab.async false
set_option maxRecDepth 100000
set_option maxHeartbeats 8000000
local macro_rules | `(tactic| walk_at "pyIter ref") => `(tactic| refine halt ?_)
local macro_rules | `(tactic| walk_at "call ref") => `(tactic| (k_here; (with_reducible show wpAny _ _ (call (Value.ref 255) _) _ _ _); k_dflt (refine' bisect_tells (by k_asm) (by k_asm) (by k_asm) (by k_asm) (by exact rfl) (by first | assumption | k_mem) (by assumption) (by assumption) (by lia) (by ktr_room) (by ktr_units) ?_ (by k_asm)); intros; (try dsimp only)))
local macro_rules | `(tactic| walk_at "setItem ref int") => `(tactic| (k_here; k_dflt (refine' ksa_set (by k_asm) (by k_asm) (by exact Upd.head (by assumption)) (by assumption) (by lia) (by lia) (by lia) ?_); intros; (try dsimp only)))
theorem put_sorted {r : List Int} {x : Int} (h : r.Pairwise (· < ·)) : (put r x).Pairwise (· < ·) ∧ (put r x).length ≤ r.length + 1 := by
  have e : r = r.takeWhile (· < x) ++ r.dropWhile (· < x) := List.takeWhile_append_dropWhile.symm
  have hA : ∀ y ∈ r.takeWhile (· < x), y < x := fun y hy => by simpa using List.all_takeWhile (p := (· < x)) (l := r) |> fun q => List.all_eq_true.mp q y hy
  have hB : ∀ y ∈ r.dropWhile (· < x), x ≤ y := by
    cases q : r.dropWhile (· < x) with
    | nil => intro y hy; cases hy
    | cons b B =>
      have hb : ¬ b < x := by
        have := List.head_dropWhile_not (p := (· < x)) (l := r) (by rw [q]; simp)
        simp only [q, List.head_cons] at this
        simpa using this
      intro y hy
      have hp : (b :: B).Pairwise (· < ·) := by rw [← q]; exact h.sublist (List.dropWhile_sublist _)
      rcases List.mem_cons.mp hy with rfl | hy
      · lia
      · have := (List.pairwise_cons.mp hp).1 y hy; lia
  generalize r.takeWhile (· < x) = A at *
  generalize r.dropWhile (· < x) = B at *
  subst e
  rw [put_app hA hB]
  obtain ⟨h1, h2, h3⟩ := List.pairwise_append.mp h
  refine ⟨List.pairwise_append.mpr ⟨h1, List.pairwise_cons.mpr ⟨fun y hy => ?_, h2.sublist (List.drop_sublist _ _)⟩, fun a ha b hb => ?_⟩, by simp; lia⟩
  · cases B with
    | nil => cases hy
    | cons b B =>
      have q := hB b (.head _)
      have := (List.pairwise_cons.mp h2).1 y (by simpa using hy)
      lia
  · rcases List.mem_cons.mp hb with rfl | hb
    · exact hA a ha
    · exact h3 a ha b (List.mem_of_mem_drop hb)
theorem rises_snoc (l : List Int) (x : Int) : rises (l ++ [x]) = put (rises l) x := by unfold rises; rw [List.foldl_append]; rfl
theorem rise_tells {w : World} {dp un : Nat} {gd : Option (List Code)} {cn : Str} {cs : Scope} {a : Addr} {ccd : Value} {cl : List (Str × Addr)} {outer : List Env} {A₀ : Around} {base h₀ : Heap} {L : Addr} {m : Str → Option Value} {news : List (Addr × Obj)} {s : Shared}
    {mean : ExcName → Option Value} {mg mb : Str → Option Value} {l : Addr} {vs : List Value} {nn : Nat} {ns : List Int} {Q E : Value → Shared → Prop}
    (B : Below A₀ base outer h₀) (F : Fr h₀ L s.heap m) (N : News h₀ L s.heap news) (T : Top q2 (looseW q2 loose2) mean mg mb h₀) (hk : cs.kind = .function)
    (hl : (l, listOf vs.toArray nn) ∈ news) (hi : IntsAre vs ns) (hlen : ns.length ≤ 1000) (hd : dp + 20 < recursionLimit) (hu : un + 200 < cLine)
    (ret : ∀ t' h' tk', Fr h₀ L h' m → News h₀ L h' news → Q (.int ((rises ns).length : Nat) t') { s with heap := h', toks := tk' }) :
    (K2 w.params).In h₀ → wpAny (model rw_mu0013_02.row.prog w) (ktrTop dp un gd cn cs L a ccd cl outer) (call (.ref 267) [.ref l]) Q E s := by
  w_on
  k_fill
  intro X
  obtain ⟨ck, cnm, cig, cic, cmo⟩ := cs
  change ck = _ at hk
  subst hk
  refine wpAny_call ?_
  w_strict (
    k_dflt k_enter
    (have hb := Eq.refl (bodyOf (top 10)))
    (conv at hb => rhs; whnf)
    rw [hb]
    clear hb
    (have mk := kstMark)
    (have hvl := IntsAre.length hi)
    k_steps
    (unfold Halt)
    (rename Fr _ _ _ _ => F1)
    (rename News _ _ _ _ => N1)
    (rename Addr => d)
    (refine' kst_listL (σ := List Value × Nat × List Int) (vs := vs) (nn := nn) (fun c : List Value × Nat × List Int => (d, listOf c.1.toArray c.2.1) :: news) (fun _ => []) (fun c : List Value × Nat × List Int => IntsAre c.1 c.2.2) [Str.ofString "k"]
      (fun pre (c : List Value × Nat × List Int) => c.2.2 = rises pre ∧ c.2.2.Pairwise (· < ·) ∧ c.2.2.length ≤ pre.length) ([], 0, []) rfl ?hl ?hi9 ?kF ?kN ?hf ?hk ?hp ?turn ?done)
    (case hi9 => assumption)
    (case kF => exact F1)
    (case kN => exact N1)
    (case hl => exact fun _ => .tail _ hl)
    (case hf => exact .nil)
    (case hk => exact List.forall_mem_nil _)
    (case hp => exact ⟨rfl, .nil, Nat.le_refl _⟩)
    (case turn =>
      rintro ⟨us, c, rs⟩ pre post n t u h tk own hpre hmem hoff hfacts ⟨hr, hsr, hlr⟩ F2 N2
      dsimp only at hfacts hr hsr hlr F2 N2 ⊢
      clear F1 N1
      (have hpl : pre.length ≤ ns.length := by rw [hpre]; simp)
      (have hul := IntsAre.length hfacts)
      (have hlt : ∀ p ∈ news, p.1 < d := by assumption)
      (have hne : ∀ p ∈ news ++ own, p.1 ≠ d := fun p hp => (List.mem_append.mp hp).elim (fun q => Nat.ne_of_lt (hlt p q)) (fun q => hoff p q d (.head _)))
      rw [List.cons_append] at N2
      (have hkb : (rs.takeWhile (· < n)).length ≤ rs.length := (List.takeWhile_sublist _).length_le)
      k_steps
      · refine' kst_end ((us ++ [Value.int n t], c + 1, rs ++ [n]) : List Value × Nat × List Int) ?kF ?kN ?hn ?ho ?ha ?hf ?hk ?hr ?hp
        (case kF => assumption)
        (case kN => assumption)
        (case hn => exact List.forall_mem_cons.mpr ⟨by rw [show (d, W.listOf (us ++ [Value.int n t]).toArray (c + 1)) = (d, W.listOf (us.toArray.push (Value.int n t)) (c + 1)) by rw [List.push_toArray]]; exact .head _, fun p hp => .tail _ (List.mem_append_left _ hp)⟩)
        (case ho => exact fun p hp => .tail _ (List.mem_append_right _ hp))
        (case ha => rfl)
        (case hk => exact List.forall_mem_nil _)
        (case hr => (intro z h1 h2 h3; (have n3 := ne_of_stored h3); rw [if_neg n3, if_neg h1]; exact off_ps (ps := []) (List.forall_mem_nil _) h3))
        (case hf => exact hfacts.append (.cons n t .nil))
        (case hp =>
          have e : rs ++ [n] = put rs n := by unfold put; rw [if_pos (by lia)]
          refine ⟨?_, ?_, ?_⟩
          · rw [rises_snoc, ← hr]; exact e
          · show (rs ++ [n]).Pairwise _; rw [e]; exact (put_sorted hsr).1
          · show (rs ++ [n]).length ≤ _; simp; exact hlr)
      · refine' kst_end ((us.set (((rs.takeWhile (· < n)).length : Int)).toNat (Value.int n t), c, rs.set (((rs.takeWhile (· < n)).length : Int)).toNat n) : List Value × Nat × List Int) ?kF ?kN ?hn ?ho ?ha ?hf ?hk ?hr ?hp
        (case kF => assumption)
        (case kN => assumption)
        (case hn => exact List.forall_mem_cons.mpr ⟨.head _, fun p hp => .tail _ (List.mem_append_left _ hp)⟩)
        (case ho => exact fun p hp => .tail _ (List.mem_append_right _ hp))
        (case ha => rfl)
        (case hk => exact List.forall_mem_nil _)
        (case hr => (intro z h1 h2 h3; (have n3 := ne_of_stored h3); rw [if_neg n3, if_neg h1]; exact off_ps (ps := []) (List.forall_mem_nil _) h3))
        (case hf => assumption)
        (case hp =>
          have e : rs.set (((rs.takeWhile (· < n)).length : Int)).toNat n = put rs n := by unfold put; rw [if_neg (by lia), Int.toNat_natCast]
          refine ⟨?_, ?_, ?_⟩
          · rw [rises_snoc, ← hr]; exact e
          · show (rs.set _ n).Pairwise _; rw [show rs.set _ n = put rs n from e]; exact (put_sorted hsr).1
          · show (rs.set _ n).length ≤ _; rw [List.length_set]; simp; lia))
    (case done =>
      rintro ⟨us, c, rs⟩ u h tk hfacts ⟨hr, hsr, hlr⟩ F2 N2
      dsimp only at hfacts hr hsr hlr F2 N2 ⊢
      clear F1 N1
      (have hul := IntsAre.length hfacts)
      k_steps
      rw [hr]
      exact ret _ _ _ (by assumption) (fun p hp => (by assumption : News _ _ _ (_ :: news)) p (.tail _ hp))))
end
section
open PySem PySem.W PyProof.Rows PySem.Challenge
set_option Elab.async false
set_option maxRecDepth 100000
set_option maxHeartbeats 8000000
section
variable {prog : Program} {w : World} {A : Around} {E : Value → Shared → Prop} {Q : Value → Shared → Prop} {hp : Heap} {gs : Array GenState} {dr : Drawn} {tk0 : Nat} {os : OsState} {a b : Int} {t u : Tok}
theorem addT (h : ∀ t tk, Q (.int (a + b) t) ⟨hp, gs, dr, tk, os⟩) : wpAny (model prog w) A (binaryOp .Add (.int a t) (.int b u)) Q E ⟨hp, gs, dr, tk0, os⟩ := add_int (h _ _)
theorem subT (h : ∀ t tk, Q (.int (a - b) t) ⟨hp, gs, dr, tk, os⟩) : wpAny (model prog w) A (binaryOp .Sub (.int a t) (.int b u)) Q E ⟨hp, gs, dr, tk0, os⟩ := sub_int (h _ _)
theorem modT (hb : b ≠ 0) (h : ∀ t tk, Q (.int (a.fmod b) t) ⟨hp, gs, dr, tk, os⟩) : wpAny (model prog w) A (binaryOp .Mod (.int a t) (.int b u)) Q E ⟨hp, gs, dr, tk0, os⟩ := mod_int' hb (h _ _)
theorem fdivT (hb : b ≠ 0) (hs : b.natAbs < 1073741824) (h : ∀ t tk, Q (.int (a.fdiv b) t) ⟨hp, gs, dr, tk, os⟩) : wpAny (model prog w) A (binaryOp .FloorDiv (.int a t) (.int b u)) Q E ⟨hp, gs, dr, tk0, os⟩ :=
  floordiv_int hb (h _ _) (Or.inl (PyProof.noPylong_small hs))
theorem constT {M : Model} {env : Env} {i : Int} {k : Nat} {pos : Pos} (h : ∀ t tk, Q (.int i t) ⟨hp, gs, dr, tk, os⟩) : wpAny M A (eval (.Constant (.int i) k pos) env) Q E ⟨hp, gs, dr, tk0, os⟩ := wpAny_Constant_int (h _ _)
end
section
variable {M : Model} {A : Around} {E : Value → Shared → Prop} {Q : Unit → Shared → Prop} {hp h₀ : Heap} {gs : Array GenState} {dr : Drawn} {tk0 : Nat} {os : OsState} {L a : Addr} {m : Str → Option Value} {cn : Str} {cs : Scope} {ccd : Value} {cl : List (Str × Addr)} {x : Str} {v : Value} {news : List (Addr × Obj)}
theorem storeT (F : Fr h₀ L hp m) (N : News h₀ L hp news) (h : ∀ h' tk, Fr h₀ L h' (fun y => if y = x then some v else m y) → News h₀ L h' news → Q () ⟨h', gs, dr, tk, os⟩)
    (hk : cs.kind = .function := by rfl) (hx : (envX cn cs L a ccd cl).kindOf x = some .local := by rfl) : wpAny M A (storeName (envX cn cs L a ccd cl) x v) Q E ⟨hp, gs, dr, tk0, os⟩ :=
  storeX_L (s := ⟨hp, gs, dr, tk0, os⟩) F N (fun h' F' N' => h h' _ F' N') hk hx
end
section
variable {prog : Program} {w : World} {A : Around} {E : Value → Shared → Prop} {Q : Value → Shared → Prop} {hp h₀ : Heap} {gs : Array GenState} {dr : Drawn} {tk0 : Nat} {os : OsState} {L l : Addr} {m : Str → Option Value} {news : List (Addr × Obj)}
theorem three_ints {vs : List Value} {ns : List Int} (h : IntsAre vs ns) (e : ns.length = 3) : ∃ a b c t u v, vs = [.int a t, .int b u, .int c v] ∧ ns = [a, b, c] := by
  cases h with
  | nil => cases e
  | cons a t h =>
    cases h with
    | nil => cases e
    | cons b u h =>
      cases h with
      | nil => cases e
      | cons c v h =>
        cases h with
        | nil => exact ⟨a, b, c, t, u, v, rfl, rfl⟩
        | cons _ _ _ => simp at e
theorem sorted3 {a b c : Int} {t u v : Tok} {n0 : Nat} (n : Int) (F : Fr h₀ L hp m) (N : News h₀ L hp news) (hl : (l, W.listOf #[.int a t, .int b u, .int c v] n0) ∈ news) (ha : 0 ≤ a ∧ a ≤ n) (hb : 0 ≤ b ∧ b ≤ n) (hc : 0 ≤ c ∧ c ≤ n)
    (h : ∀ D e f g t u v c h', Fr h₀ L h' m → News h₀ L h' ((D, W.listOf #[.int e t, .int f u, .int g v] c) :: news) → (∀ q ∈ news, q.1 < D) → 0 ≤ e → e ≤ f → f ≤ g → g ≤ n → Q (.ref D) ⟨h', gs, dr, tk0, os⟩) :
    wpAny (model prog w) A (call (.builtin "sorted") [.ref l]) Q E ⟨hp, gs, dr, tk0, os⟩ := by
  refine kso_sorted (s := ⟨hp, gs, dr, tk0, os⟩) (vs := [.int a t, .int b u, .int c v]) (ns := [a, b, c]) F N (News.isList N hl) (.cons _ _ (.cons _ _ (.cons _ _ .nil))) (by simp) ?_
  intro D vs' ns' c' h' F' N' hlt hi he hp hs _
  obtain ⟨e, f, g, t', u', v', rfl, rfl⟩ := three_ints hi (by simpa using he)
  have hm : ∀ x ∈ [e, f, g], 0 ≤ x ∧ x ≤ n := fun x hx => by
    have := hp.mem_iff.mp hx
    simp only [List.mem_cons, List.not_mem_nil, or_false] at this
    rcases this with rfl | rfl | rfl <;> assumption
  have s1 := List.pairwise_cons.mp hs
  have s2 := List.pairwise_cons.mp s1.2
  exact h D e f g t' u' v' c' h' F' N' hlt (hm e (by simp)).1 (s1.1 f (by simp)) (s2.1 g (by simp)) (hm g (by simp)).2
end
/-- a list of at most a thousand times k items (kept apart from the arithmetic) -/
noncomputable def Sm (ws : List Value) (k : Nat) : Prop := ws.length ≤ 1000 * k
section
variable {prog : Program} {w : World} {A : Around} {E : Value → Shared → Prop} {Q : Value → Shared → Prop} {hp h₀ : Heap} {gs : Array GenState} {dr : Drawn} {tk0 : Nat} {os : OsState} {L l : Addr} {m : Str → Option Value} {news : List (Addr × Obj)} {vs : List Value} {ns : List Int} {nn : Nat} {x y : Int} {tx ty : Tok} {value slice : PySem.Expr}
theorem sliceA (F : Fr h₀ L hp m) (N : News h₀ L hp news) (hl : (l, W.listOf vs.toArray nn) ∈ news) (hi : IntsAre vs ns) (hz : ns.length ≤ 1000) (h1 : 0 ≤ y) (h2 : y ≤ ns.length)
    (h : ∀ D ws h', Fr h₀ L h' m → News h₀ L h' ((D, W.listOf (List.toArray ws) 0) :: news) → (∀ p ∈ news, p.1 < D) → IntsAre ws (seg ns 0 y.toNat) → ws.length = y.toNat → Sm ws 1 → Q (.ref D) ⟨h', gs, dr, tk0, os⟩)
    (hs : subscripted slice false (.ref l) (.ref hp.objs.size) = operate [.ref hp.objs.size, .ref l] (getItem (.ref l) (.ref hp.objs.size))) (ht : ∀ r, letTemporaryGo value (.ref l) r = pure ()) :
    wpAny (model prog w) A (subscriptTail value slice (.ref l) (.ref hp.objs.size)) Q E ⟨hp.push { cls := .type "slice", data := .fields #[.none, .int y ty, .none] }, gs, dr, tk0, os⟩ := by
  refine kmk_slice_ints (s := ⟨hp, gs, dr, tk0, os⟩) F N (News.isList N hl) .none (.int _ _) hi (kmk_upto hi h1) rfl (fun D ws h' F' N' l1 hI _ _ => ?_) hs ht (by rw [List.size_toArray, sizeLine_eq, hi.length]; lia)
  have e : seg ns 0 y.toNat = ns.take y.toNat := by unfold seg; rw [List.drop_zero]
  exact h D ws h' F' N' l1 (e ▸ hI) (by rw [hI.length, List.length_take]; lia) (by unfold Sm; rw [hI.length, List.length_take]; lia)
theorem sliceB (F : Fr h₀ L hp m) (N : News h₀ L hp news) (hl : (l, W.listOf vs.toArray nn) ∈ news) (hi : IntsAre vs ns) (hz : ns.length ≤ 1000) (h0 : 0 ≤ x) (h1 : x ≤ y) (h2 : y ≤ ns.length)
    (h : ∀ D ws h', Fr h₀ L h' m → News h₀ L h' ((D, W.listOf (List.toArray ws) 0) :: news) → (∀ p ∈ news, p.1 < D) → IntsAre ws (seg ns x.toNat (y - x).toNat) → ws.length = (y - x).toNat → Sm ws 1 → Q (.ref D) ⟨h', gs, dr, tk0, os⟩)
    (hs : subscripted slice false (.ref l) (.ref hp.objs.size) = operate [.ref hp.objs.size, .ref l] (getItem (.ref l) (.ref hp.objs.size))) (ht : ∀ r, letTemporaryGo value (.ref l) r = pure ()) :
    wpAny (model prog w) A (subscriptTail value slice (.ref l) (.ref hp.objs.size)) Q E ⟨hp.push { cls := .type "slice", data := .fields #[.int x tx, .int y ty, .none] }, gs, dr, tk0, os⟩ := by
  refine kmk_slice_ints (s := ⟨hp, gs, dr, tk0, os⟩) F N (News.isList N hl) (.int _ _) (.int _ _) hi (kmk_run hi h0 (by lia)) rfl (fun D ws h' F' N' l1 hI _ _ => ?_) hs ht (by rw [List.size_toArray, sizeLine_eq, hi.length]; lia)
  have e : seg ns x.toNat (y - x).toNat = (ns.drop x.toNat).take (min y.toNat ns.length - x.toNat) := by
    unfold seg; congr 1; rw [Nat.min_eq_left (by clear hi hz F N hl hI l1 h; lia)]; clear hi hz F N hl hI l1 h; lia
  have hI2 : IntsAre ws (seg ns x.toNat (y - x).toNat) := e ▸ hI
  have hle : ws.length = (y - x).toNat := by
    rw [hI2.length]; unfold seg; rw [List.length_take, List.length_drop, Nat.min_eq_left]; clear hi F N hl hI hI2 l1 h e; lia
  exact h D ws h' F' N' l1 hI2 hle (by unfold Sm; rw [hle]; clear hi F N hl hI hI2 l1 h e hle; lia)
theorem sliceC (F : Fr h₀ L hp m) (N : News h₀ L hp news) (hl : (l, W.listOf vs.toArray nn) ∈ news) (hi : IntsAre vs ns) (hz : ns.length ≤ 1000) (h0 : 0 ≤ x) (h2 : x ≤ ns.length)
    (h : ∀ D ws h', Fr h₀ L h' m → News h₀ L h' ((D, W.listOf (List.toArray ws) 0) :: news) → (∀ p ∈ news, p.1 < D) → IntsAre ws (seg ns x.toNat (ns.length - x.toNat)) → ws.length = ns.length - x.toNat → Sm ws 1 → Q (.ref D) ⟨h', gs, dr, tk0, os⟩)
    (hs : subscripted slice false (.ref l) (.ref hp.objs.size) = operate [.ref hp.objs.size, .ref l] (getItem (.ref l) (.ref hp.objs.size))) (ht : ∀ r, letTemporaryGo value (.ref l) r = pure ()) :
    wpAny (model prog w) A (subscriptTail value slice (.ref l) (.ref hp.objs.size)) Q E ⟨hp.push { cls := .type "slice", data := .fields #[.int x tx, .none, .none] }, gs, dr, tk0, os⟩ := by
  refine kmk_slice_ints (s := ⟨hp, gs, dr, tk0, os⟩) F N (News.isList N hl) (.int _ _) .none hi (kmk_from hi h0) rfl (fun D ws h' F' N' l1 hI _ _ => ?_) hs ht (by rw [List.size_toArray, sizeLine_eq, hi.length]; lia)
  have e : seg ns x.toNat (ns.length - x.toNat) = ns.drop x.toNat := by unfold seg; rw [List.take_of_length_le (by rw [List.length_drop]; exact Nat.le_refl _)]
  exact h D ws h' F' N' l1 (e ▸ hI) (by rw [hI.length, List.length_drop]) (by unfold Sm; rw [hI.length, List.length_drop]; lia)
theorem catT {l' : Addr} {us : List Value} {xs : List Int} {mm : Nat} (F : Fr h₀ L hp m) (N : News h₀ L hp news) (hl : (l, W.listOf vs.toArray nn) ∈ news) (hl' : (l', W.listOf us.toArray mm) ∈ news) (hi : IntsAre vs ns) (hi' : IntsAre us xs) {i j : Nat} (s1 : Sm vs i) (s2 : Sm us j) (hz : i + j ≤ 50)
    (h : ∀ D ws h', Fr h₀ L h' m → News h₀ L h' ((D, W.listOf (List.toArray ws) 0) :: news) → (∀ p ∈ news, p.1 < D) → IntsAre ws (ns ++ xs) → Sm ws (i + j) → Q (.ref D) ⟨h', gs, dr, tk0, os⟩) :
    wpAny (model prog w) A (binaryOp .Add (.ref l) (.ref l')) Q E ⟨hp, gs, dr, tk0, os⟩ := by
  refine kmk_add_ints (s := ⟨hp, gs, dr, tk0, os⟩) F N (News.isList N hl) (News.isList N hl') hi hi' (fun D ws h' F' N' l1 hI => h D ws h' F' N' l1 hI ?_) ?_
  · unfold Sm at *; rw [hI.length, List.length_append, ← hi.length, ← hi'.length]; lia
  · have e1 := hi.length
    have e2 := hi'.length
    simp only [sizeLine_eq]
    unfold Sm at *
    lia
theorem revT {t : Tok} (F : Fr h₀ L hp m) (N : News h₀ L hp news) (hl : (l, W.listOf vs.toArray nn) ∈ news) (hi : IntsAre vs ns) {i : Nat} (s1 : Sm vs i) (hz : i ≤ 50)
    (h : ∀ D ws h', Fr h₀ L h' m → News h₀ L h' ((D, W.listOf (List.toArray ws) 0) :: news) → (∀ p ∈ news, p.1 < D) → IntsAre ws ns.reverse → Sm ws i → Q (.ref D) ⟨h', gs, dr, tk0, os⟩) {ops : List Value}
    (hs : subscripted slice false (.ref l) (.ref hp.objs.size) = operate ops (getItem (.ref l) (.ref hp.objs.size))) (ht : ∀ r, letTemporaryGo value (.ref l) r = pure ()) :
    wpAny (model prog w) A (subscriptTail value slice (.ref l) (.ref hp.objs.size)) Q E ⟨hp.push { cls := .type "slice", data := .fields #[.none, .none, .int (-1) t] }, gs, dr, tk0, os⟩ := by
  refine krv_ints (s := ⟨hp, gs, dr, tk0, os⟩) F N (News.isList N hl) (.int _ _) hi (fun D ws h' F' N' l1 hI _ => h D ws h' F' N' l1 hI ?_) hs ht (by unfold Sm at s1; rw [List.size_toArray, sizeLine_eq]; lia)
  unfold Sm at *
  rw [hI.length, List.length_reverse, ← hi.length]
  exact s1
end
end
local macro_rules | `(tactic| walk_at "eval Constant int") => `(tactic| (with_reducible refine constT ?_; intros))
local macro_rules | `(tactic| walk_at "storeName") => `(tactic| (k_here; k_dflt (refine' storeT (by k_asm) (by k_asm) ?_ (by rfl) (by rfl); k_whole); intros; (try k_sweep)))
local macro_rules | `(tactic| walk_at "binaryOp Add int int") => `(tactic| (with_reducible refine addT ?_; intros))
local macro_rules | `(tactic| walk_at "binaryOp Sub int int") => `(tactic| (with_reducible refine subT ?_; intros))
section
open PySem PySem.W PyProof.Rows PySem.Challenge
set_option Elab.async false
set_option maxRecDepth 100000
set_option maxHeartbeats 8000000
theorem fmod_in (x : Int) (n : Nat) : 0 ≤ x.fmod ((n : Int) + 1) ∧ x.fmod ((n : Int) + 1) ≤ n := by
  have h0 : (0 : Int) < (n : Int) + 1 := Int.lt_add_one_of_le (Int.natCast_nonneg n)
  exact ⟨Int.fmod_nonneg_of_pos x h0, Int.le_of_lt_add_one (Int.fmod_lt_of_pos x h0)⟩
local macro_rules | `(tactic| walk_at "binaryOp Mod int int") => `(tactic| (with_reducible refine modT (by first | decide | lia) ?_; intros))
local macro_rules | `(tactic| walk_at "binaryOp FloorDiv int int") => `(tactic| (with_reducible refine fdivT (by first | decide | lia) (by first | decide | lia) ?_; intros))
local macro_rules | `(tactic| walk_at "subscriptTail Name Constant ref int") => `(tactic| (k_here; (with_reducible show wpAny _ _ (subscriptTail _ _ (Value.ref _) (Value.int _ _)) _ _ _); k_dflt (refine' item_litK (by exact News.isList (by k_asm) (by k_mem)) (by decide) (by decide) (by rfl) ?_ (by with_unfolding_all rfl); k_whole)))
local macro_rules | `(tactic| walk_at "call builtin:sorted") => `(tactic| (k_here; k_dflt (refine' sorted3 _ (by k_asm) (by k_asm) (by k_mem) (by exact fmod_in _ _) (by exact fmod_in _ _) (by exact fmod_in _ _) ?_; k_whole); intros; (try k_sweep)))
local macro_rules | `(tactic| walk_at "subscriptTail Name Slice ref ref") => `(tactic| (k_here; k_dflt (first
  | (refine' sliceB (by k_asm) (by k_asm) (by k_mem) (by with_reducible assumption) (by lia) (by lia) (by lia) (by lia) ?_ (by with_unfolding_all rfl) (by kmk_pure))
  | (refine' sliceA (by k_asm) (by k_asm) (by k_mem) (by with_reducible assumption) (by lia) (by lia) (by lia) ?_ (by with_unfolding_all rfl) (by kmk_pure))
  | (refine' sliceC (by k_asm) (by k_asm) (by k_mem) (by with_reducible assumption) (by lia) (by lia) (by lia) ?_ (by with_unfolding_all rfl) (by kmk_pure))); intro D' ws' h' F' N' l1 hI' hL' hS'; clear l1; (try k_sweep)))
local macro_rules | `(tactic| walk_at "subscriptTail Name Slice ref ref") => `(tactic| (k_here; (with_reducible show wpAny _ _ (subscriptTail _ (PySem.Expr.Slice none none (some _) _) (Value.ref _) (Value.ref _)) _ _ _); k_dflt (refine' revT (by k_asm) (by k_asm) (by k_mem) (by with_reducible assumption) (by with_reducible assumption) (by decide) ?_ (by with_unfolding_all rfl) (by kmk_pure)); intro D' ws' h' F' N' l1 hI' hL'; clear l1; (try k_sweep)))
local macro_rules | `(tactic| walk_at "binaryOp Add ref ref") => `(tactic| (k_here; k_dflt (refine' catT (by k_asm) (by k_asm) (by k_mem) (by k_mem) (by with_reducible assumption) (by with_reducible assumption) (by with_reducible assumption) (by with_reducible assumption) (by decide) ?_); intro D' ws' h' F' N' l1 hI' hL'; clear l1; (try k_sweep)))
local macro_rules | `(tactic| walk_at "subscriptTail Name BinOp ref int") => `(tactic| refine halt ?_)
theorem sm_ys {ys : List Value} {f : Int → Int} {e g g' : Int} {n : Nat} (h : ys.length = (List.map f (rangeKs 0 (((g - e).toNat : Int) - 0).toNat)).length) (h0 : 0 ≤ e) (h1 : e ≤ g) (h2 : g ≤ g') (h3 : g' ≤ n) (hn : n ≤ 1000) : Sm ys 1 := by
  unfold Sm
  rw [h, List.length_map, rangeKs_length]
  lia
theorem seven (y : Int) : y.fmod 7 = 0 ∨ y.fmod 7 = 1 ∨ y.fmod 7 = 2 ∨ y.fmod 7 = 3 ∨ y.fmod 7 = 4 ∨ y.fmod 7 = 5 ∨ y.fmod 7 = 6 := by
  have h1 := Int.fmod_nonneg_of_pos y (show (0 : Int) < 7 by lia)
  have h2 := Int.fmod_lt_of_pos y (show (0 : Int) < 7 by lia)
  lia
noncomputable def kinds7 (xf xn xo xu xb : List Int) : Nat → List Int
  | 0 => xf ++ xu ++ xb
  | 1 => xf ++ xn ++ xo ++ xu ++ xb
  | 2 => xf ++ xn ++ xu ++ xb
  | 3 => xf ++ xu ++ xo ++ xb
  | 4 => xf ++ xo ++ xo ++ xu ++ xb
  | 5 => xf ++ xo.reverse ++ xu ++ xb
  | _ => xo
theorem kinds_is {ns : List Int} {e f g : Int} (new : Int) {k : Nat} (h0 : 0 ≤ e) (h1 : e ≤ f) (h2 : f ≤ g) (h3 : g ≤ ns.length) :
    kinds7 (seg ns 0 e.toNat) (List.map (fun k' => new + k') (rangeKs 0 (((f - e).toNat : Int) - 0).toNat)) (seg ns e.toNat (f - e).toNat) (seg ns f.toNat (g - f).toNat) (seg ns g.toNat (ns.length - g.toNat)) k =
      mistake ns (List.map (fun k' => new + k') (rangeKs 0 (((f - e).toNat : Int) - 0).toNat)) e.toNat (f - e).toNat (g - f).toNat k ∧
    (∀ x ∈ List.map (fun k' => new + k') (rangeKs 0 (((f - e).toNat : Int) - 0).toNat), new ≤ x) ∧ (List.map (fun k' => new + k') (rangeKs 0 (((f - e).toNat : Int) - 0).toNat)).length = (f - e).toNat ∧ e.toNat + (f - e).toNat + (g - f).toNat ≤ ns.length := by
  have tn : ∀ a b : Int, 0 ≤ a → a ≤ b → a.toNat + (b - a).toNat = b.toNat := fun a b h1 h2 => by
    rw [← Int.toNat_add h1 (Int.sub_nonneg.mpr h2), Int.add_comm, Int.sub_add_cancel]
  have e1 := tn e f h0 h1
  have e2 := tn f g (Int.le_trans h0 h1) h2
  refine ⟨?_, ?_, ?_, by rw [e1, e2]; exact Int.toNat_le.mpr h3⟩
  · generalize List.map (fun k' => new + k') (rangeKs 0 (((f - e).toNat : Int) - 0).toNat) = xn
    rw [← e2, ← e1]
    generalize e.toNat = a
    generalize (f - e).toNat = o
    generalize (g - f).toNat = u
    match k with
    | 0 => exact List.append_assoc _ _ _
    | 1 => exact (List.append_assoc _ _ _).trans ((List.append_assoc _ _ _).trans (List.append_assoc _ _ _))
    | 2 => exact (List.append_assoc _ _ _).trans (List.append_assoc _ _ _)
    | 3 => exact (List.append_assoc _ _ _).trans (List.append_assoc _ _ _)
    | 4 => exact (List.append_assoc _ _ _).trans ((List.append_assoc _ _ _).trans (List.append_assoc _ _ _))
    | 5 => exact (List.append_assoc _ _ _).trans (List.append_assoc _ _ _)
    | _ + 6 => rfl
  · intro x hx
    obtain ⟨k', hk, rfl⟩ := List.mem_map.mp hx
    have : 0 ≤ k' := by
      unfold rangeKs at hk
      obtain ⟨i, _, rfl⟩ := List.mem_map.mp hk
      lia
    lia
  · rw [List.length_map, rangeKs_length, Int.sub_zero, Int.toNat_natCast]
theorem mistake_kinds {w : World} {A : Around} {g hp : Heap} {L' : Addr} {news : List (Addr × Obj)} {gs : Array GenState} {dr : Drawn} {tk0 : Nat} {os : OsState} {Q : Flow → Shared → Prop} {E : Value → Shared → Prop}
    {ln lu lb lf lo : Addr} {wn wu wb wf wo : List Value} {xn xu xb xf xo : List Int} {cN cu cb cf co : Nat} {ve vr vsp vw : Value} {y : Int} {ty : Tok}
    (F : Fr g L' hp (fun z => if z = Str.ofString "news" then some (.ref ln) else if z = Str.ofString "other" then some (.ref lu) else if z = Str.ofString "back" then some (.ref lb) else if z = Str.ofString "front" then some (.ref lf) else if z = Str.ofString "one" then some (.ref lo) else if z = Str.ofString "ends" then some (ve) else if z = Str.ofString "rest" then some (vr) else if z = Str.ofString "spread" then some (vsp) else if z = Str.ofString "y" then some (.int y ty) else if z = Str.ofString "word" then some (vw) else none)) (N : News g L' hp news)
    (hln : (ln, W.listOf wn.toArray cN) ∈ news) (iln : IntsAre wn xn) (sln : Sm wn 1)
    (hlu : (lu, W.listOf wu.toArray cu) ∈ news) (ilu : IntsAre wu xu) (slu : Sm wu 1)
    (hlb : (lb, W.listOf wb.toArray cb) ∈ news) (ilb : IntsAre wb xb) (slb : Sm wb 1)
    (hlf : (lf, W.listOf wf.toArray cf) ∈ news) (ilf : IntsAre wf xf) (slf : Sm wf 1)
    (hlo : (lo, W.listOf wo.toArray co) ∈ news) (ilo : IntsAre wo xo) (slo : Sm wo 1)
    (ret : ∀ r ws n h' tk' m' news', Fr g L' h' m' → News g L' h' news' → (r, W.listOf (List.toArray ws) n) ∈ news' → (∀ p ∈ news, p ∈ news') → IntsAre ws (kinds7 xf xn xo xu xb (y.fmod 7).toNat) → Q (.ret (.ref r)) ⟨h', gs, dr, tk', os⟩) :
    (K2 w.params).In g → wpAny (model rw_mu0013_02.row.prog w) A (execs ((bodyOf (top 9)).drop 6) (envOfC (Str.ofString "_law_mistake") (scopeOf (top 9)) L' 260 (.ref 259))) Q E ⟨hp, gs, dr, tk0, os⟩ := by
  w_on
  k_fill
  intro X
  have hb := Eq.refl ((bodyOf (top 9)).drop 6)
  conv at hb => rhs; whnf
  rw [hb]
  clear hb
  have hs := Eq.refl (scopeOf (top 9))
  conv at hs => rhs; whnf
  rw [hs]
  clear hs
  w_strict (
    (have mk := kstMark)
    k_steps
    (unfold Halt)
    (rename Fr _ _ _ _ => F9)
    (rename News _ _ _ _ => N9)
    (have h7 : y.fmod 7 = 0 ∨ y.fmod 7 = 1 ∨ y.fmod 7 = 2 ∨ y.fmod 7 = 3 ∨ y.fmod 7 = 4 ∨ y.fmod 7 = 5 ∨ y.fmod 7 = 6 := seven y)
    (rcases h7 with h7 | h7 | h7 | h7 | h7 | h7 | h7) <;> (
      rw [h7]
      (refine' item_litK ?zl ?z0 ?z1 ?z2 ?_ ?zs)
      (case zl => exact News.isList N9 (by k_mem))
      (case z0 => decide)
      (case z1 => decide)
      (case z2 => rfl)
      (case zs => with_unfolding_all rfl)
      exact ret _ _ _ _ _ _ _ F9 N9 (by k_mem) (fun p hp => by (repeat (first | exact hp | refine List.mem_cons_of_mem _ ?_))) (by rw [h7]; simp only [Int.reduceToNat, kinds7]; with_reducible assumption)))
section
local macro_rules | `(tactic| walk_at "execs cons") => `(tactic| ((with_reducible show wpAny _ _ (execs [_, _] _) _ _ _); refine halt ?_))
theorem mistake_tells {w : World} {dp un : Nat} {gd : Option (List Code)} {cn : Str} {cs : Scope} {a : Addr} {ccd : Value} {cl : List (Str × Addr)} {outer : List Env} {A₀ : Around} {base h₀ : Heap} {L : Addr} {m : Str → Option Value} {news : List (Addr × Obj)} {s : Shared}
    {mean : ExcName → Option Value} {mg mb : Str → Option Value} {l : Addr} {vs : List Value} {nn : Nat} {ns : List Int} {new y : Int} {tn ty : Tok} {Q E : Value → Shared → Prop}
    (B : Below A₀ base outer h₀) (F : Fr h₀ L s.heap m) (N : News h₀ L s.heap news) (T : Top q2 (looseW q2 loose2) mean mg mb h₀) (hk : cs.kind = .function)
    (hl : (l, listOf vs.toArray nn) ∈ news) (hi : IntsAre vs ns) (hlen : ns.length ≤ 1000) (hd : dp + 20 < recursionLimit) (hu : un + 200 < cLine)
    (ret : ∀ r ws n h' tk' nws e o u k, Fr h₀ L h' m → News h₀ L h' ((r, W.listOf (List.toArray ws) n) :: news) → (∀ x ∈ nws, new ≤ x) → nws.length = o → e + o + u ≤ ns.length → IntsAre ws (mistake ns nws e o u k) → Q (.ref r) { s with heap := h', toks := tk' }) :
    (K2 w.params).In h₀ → wpAny (model rw_mu0013_02.row.prog w) (ktrTop dp un gd cn cs L a ccd cl outer) (call (.ref 260) [.ref l, .int new tn, .int y ty]) Q E s := by
  w_on
  k_fill
  intro X
  obtain ⟨ck, cnm, cig, cic, cmo⟩ := cs
  change ck = _ at hk
  subst hk
  refine wpAny_call ?_
  w_strict (
    k_dflt k_enter
    (have hb := Eq.refl (bodyOf (top 9)))
    (conv at hb => rhs; whnf)
    rw [hb]
    clear hb
    (have mk := kstMark)
    (have hvl := IntsAre.length hi)
    (rename Fr _ _ _ _ => F1)
    (have F3 : Fr _ _ _ (fun z => if z = Str.ofString "y" then some (Value.int y ty) else if z = Str.ofString "word" then some (Value.ref l) else none) := F1)
    (clear F1)
    (rename PySem.Obj.data _ = _ => D1)
    (have D3 : _ = Data.cell (some (Value.int new tn)) := D1)
    (clear D1)
    k_steps
    (unfold Halt)
    (rename Fr _ _ _ _ => F9)
    (rename News _ _ _ _ => N9)
    (rename List.length _ = List.length (List.map _ _) => L9)
    (rename IntsAre _ (List.map _ _) => I9)
    (rename 0 ≤ (_ : Int) => i1)
    (rename (_ : Int) ≤ (List.length ns : Int) => i4)
    (have hSm := sm_ys L9 i1 (by assumption) (by assumption) i4 hlen)
    (refine' mistake_kinds F9 N9 ?h1 ?h2 ?h3 ?h4 ?h5 ?h6 ?h7 ?h8 ?h9 ?h10 ?h11 ?h12 ?h13 ?h14 ?h15 ?zr ?zx)
    (case zx => assumption)
    (case h1 => k_mem)
    (case h4 => k_mem)
    (case h7 => k_mem)
    (case h10 => k_mem)
    (case h13 => k_mem)
    (case h2 => assumption)
    (case h5 => assumption)
    (case h8 => assumption)
    (case h11 => assumption)
    (case h14 => assumption)
    (case h3 => assumption)
    (case h6 => assumption)
    (case h9 => assumption)
    (case h12 => assumption)
    (case h15 => assumption)
    (intro r ws n h' tk' m' news' F' N' hr hsub hI
     refine leaveK_ F' N' fun FL NL => ?_
     (have hw := kinds_is new i1 (by assumption) (by assumption) i4 (k := (y.fmod 7).toNat))
     rw [hw.1] at hI
     exact ret r ws n h' tk' _ _ _ _ _ FL (fun p hp => NL p (by
       rcases List.mem_cons.mp hp with rfl | hp
       · exact hr
       · exact hsub p (by (repeat (first | exact hp | refine List.mem_cons_of_mem _ ?_))))) hw.2.1 hw.2.2.1 hw.2.2.2 hI))
end
end
section
open PySem PySem.W PyProof.Rows PySem.Challenge PySem.Spec
set_option Elab.async false
set_option maxRecDepth 100000
set_option maxHeartbeats 8000000
/-- a turn's end, over a ledger that may grow -/
noncomputable def KgEnd {σ : Type} (h₀ : Heap) (L : Addr) (Led : σ → List (Addr × Obj)) (ps : σ → List (Str × Value)) (x : Str) (stored : List Str) (m₀ : Str → Option Value) (P : σ → Prop) (I : Addr) (oI : Obj) (s₁ s₂ : Shared) : Prop :=
  ∃ (c : σ) (h' : Heap) (tk : Nat) (m' : Str → Option Value) (news' : List (Addr × Obj)), s₂ = { s₁ with heap := h', toks := tk } ∧ Fr h₀ L h' m' ∧ News h₀ L h' news' ∧ (∀ p ∈ Led c, p ∈ news') ∧ (I, oI) ∈ news' ∧ (∀ q ∈ Led c, q.1 ≠ I) ∧
    (∀ p ∈ ps c, m' p.1 = some p.2) ∧ (∀ z, z ≠ x → (∀ p ∈ ps c, z ≠ p.1) → stored.contains z = false → m' z = m₀ z) ∧ P c
noncomputable def KgPost {σ : Type} (h₀ : Heap) (L : Addr) (Led : σ → List (Addr × Obj)) (ps : σ → List (Str × Value)) (x : Str) (stored : List Str) (m₀ : Str → Option Value) (P : σ → Prop) (I : Addr) (oI : Obj) (s₁ : Shared) (Q : Flow → Shared → Prop) (f : Flow) (s₂ : Shared) : Prop :=
  match f with
  | .ret v => Q (.ret v) s₂
  | .brk => Q .next s₂
  | _ => KgEnd h₀ L Led ps x stored m₀ P I oI s₁ s₂
theorem kg_end {σ : Type} {h₀ : Heap} {L : Addr} {Led : σ → List (Addr × Obj)} {ps : σ → List (Str × Value)} {x : Str} {stored : List Str} {m₀ m' : Str → Option Value} {P : σ → Prop} {I : Addr} {oI : Obj} {s₁ : Shared} {h' : Heap} {tk : Nat} {news' : List (Addr × Obj)} (c : σ)
    (F : Fr h₀ L h' m') (N : News h₀ L h' news') (hn : ∀ p ∈ Led c, p ∈ news') (hI : (I, oI) ∈ news') (ho : ∀ q ∈ Led c, q.1 ≠ I) (hk : ∀ p ∈ ps c, m' p.1 = some p.2) (hr : ∀ z, z ≠ x → (∀ p ∈ ps c, z ≠ p.1) → stored.contains z = false → m' z = m₀ z) (hp : P c) :
    KgEnd h₀ L Led ps x stored m₀ P I oI s₁ { s₁ with heap := h', toks := tk } := ⟨c, h', tk, m', news', rfl, F, N, hn, hI, ho, hk, hr, hp⟩
section
variable {prog : Program} {w : World} {A : Around} {E : Value → Shared → Prop} {s : Shared} {env : Env} {h₀ : Heap} {x : Str} {body : List Stmt} {Q : Flow → Shared → Prop}
theorem kg_core {σ : Type} {I : Addr} {n : Nat} {Pv : Nat → Value → Prop} {St : Nat → Heap → Prop} {fp : List Addr} {m₀ : Str → Option Value} (Led : σ → List (Addr × Obj)) (ps : σ → List (Str × Value)) (stored : List Str) (P : Nat → σ → Prop) (c₀ : σ)
    (W : Walks prog w A I fp [I] n Pv St) (hfpL : env.locals ∉ fp) (hI : h₀.get? I = none) (hIn : ∀ q ∈ Led c₀, q.1 ≠ I) (hst : St 0 s.heap) (hstI : ∀ i h, St i h → ∃ o, h.get? I = some o)
    (hfp : ∀ b ∈ fp, b ≠ I → (∃ o, h₀.get? b = some o) ∨ ∃ o, ∀ c, (b, o) ∈ Led c)
    (F : Fr h₀ env.locals s.heap m₀) (N : News h₀ env.locals s.heap (Led c₀)) (hk : ∀ p ∈ ps c₀, m₀ p.1 = some p.2) (hp : P 0 c₀)
    (turn : ∀ (c : σ) i v (u : Str → Option Value) h tk oI, i < n → Pv i v → P i c → (∀ q ∈ Led c, q.1 ≠ I) →
      Fr h₀ env.locals h (fun y => if y = x then some v else kstB (fun z => if stored.contains z then u z else m₀ z) (ps c) y) → News h₀ env.locals h ((I, oI) :: Led c) →
      wpAny (model prog w) A (execs body env) (KgPost h₀ env.locals Led ps x stored m₀ (P (i + 1)) I oI { s with heap := h, toks := tk } Q) E { s with heap := h, toks := tk })
    (done : ∀ (c : σ) (u : Str → Option Value) h tk, P n c → Fr h₀ env.locals h (fun y => if y = x then u y else kstB (fun z => if stored.contains z then u z else m₀ z) (ps c) y) → News h₀ env.locals h (Led c) → Q .next { s with heap := h, toks := tk }) :
    LoopAtV prog w A h₀ env x body Q E (.ref I) s := by
  refine ⟨I, fp, [I], n, Pv, St, m₀, Led c₀, (fun i m nx => ∃ c : σ, nx = Led c ∧ (∀ p ∈ ps c, m p.1 = some p.2) ∧ (∀ z, z ≠ x → (∀ p ∈ ps c, z ≠ p.1) → stored.contains z = false → m z = m₀ z) ∧ P i c), rfl, W, hfpL, ?_, ?_, hst, F, N, ⟨c₀, rfl, hk, fun _ _ _ _ => rfl, hp⟩, ?_, ?_⟩
  · intro b hb; rw [List.mem_singleton.mp hb]; exact hI
  · intro p hp' hq; exact hIn p hp' (List.mem_singleton.mp hq)
  · rintro i v m₁ news₁ s₁ own ⟨hh', tk', rfl⟩ hin hP ⟨c, rfl, h1, h2, hp'⟩ hoff hown hget hfpo hst' F₁ N₁
    obtain ⟨oI, hoI⟩ := hstI _ _ hst'
    have hIown : (I, oI) ∈ own := hfpo I (W.sub I (List.mem_singleton.mpr rfl)) hI oI hoI
    refine wpAny_mono (turn c i v m₁ hh' tk' oI hin hP hp' (fun q hq e => hoff q hq (List.mem_singleton.mpr e)) (kst_fr h1 h2 F₁) (fun p hp => ?_)) (fun f s₂ q => ?_) fun _ _ e => e
    · rcases List.mem_cons.mp hp with rfl | hp
      · exact N₁ _ (List.mem_append_left _ hIown)
      · exact N₁ _ (List.mem_append_right _ hp)
    · have fin : KgEnd h₀ env.locals Led ps x stored m₀ (P (i + 1)) I oI { s with heap := hh', toks := tk' } s₂ →
          LoopStepU h₀ env.locals [I] own (fun m nx => ∃ c : σ, nx = Led c ∧ (∀ p ∈ ps c, m p.1 = some p.2) ∧ (∀ z, z ≠ x → (∀ p ∈ ps c, z ≠ p.1) → stored.contains z = false → m z = m₀ z) ∧ P (i + 1) c) { s with heap := hh', toks := tk' } .next s₂ := by
        rintro ⟨c', h', tk, m', news', e, F', N', hn, hI', ho, hk', hr', hp9⟩
        refine ⟨rfl, h', tk, m', Led c', e, F', fun p hp => ?_, fun p hp hq => ho p hp (List.mem_singleton.mp hq), c', rfl, hk', hr', hp9⟩
        rcases List.mem_append.mp hp with hp | hp
        · by_cases hb : p.1 = I
          · have e2 := hget p hp
            rw [hb, hoI] at e2
            have e3 : p = (I, oI) := Prod.ext hb (Option.some.inj e2).symm
            rw [e3]; exact N' _ hI'
          · rcases hfp p.1 (hown p hp) hb with ⟨o, ho9⟩ | ⟨o, ho9⟩
            · have := (N₁ p (List.mem_append_left _ hp)).2.2
              rw [ho9] at this; cases this
            · have e2 := hget p hp
              rw [(N₁ _ (List.mem_append_right _ (ho9 c))).1] at e2
              have e3 : p = (p.1, o) := Prod.ext rfl (Option.some.inj e2).symm
              rw [e3]
              exact N' _ (hn _ (ho9 c'))
        · exact N' _ (hn _ hp)
      cases f with
      | ret v => exact .ret q
      | brk => exact .brk q
      | next => exact .next (fin q)
      | cont => exact .cont (fin q)
  · rintro h' tk m' news' F' N' _ ⟨c, rfl, h1, h2, hp'⟩
    exact done c m' h' tk hp' (kst_frOut h1 h2 F') N'
/-- over a list of the ledger, any items -/
theorem kg_list {σ : Type} {l : Addr} {vs : List Value} {nn : Nat} {m₀ : Str → Option Value} (Led : σ → List (Addr × Obj)) (ps : σ → List (Str × Value)) (stored : List Str) (P : Nat → σ → Prop) (c₀ : σ)
    (hh : A.handled = none) (hl : ∀ c : σ, (l, W.listOf vs.toArray nn) ∈ Led c) (F : Fr h₀ env.locals s.heap m₀) (N : News h₀ env.locals s.heap (Led c₀)) (hk : ∀ p ∈ ps c₀, m₀ p.1 = some p.2) (hp : P 0 c₀)
    (turn : ∀ (c : σ) i v (u : Str → Option Value) h tk I oI, vs[i]? = some v → P i c → (∀ q ∈ Led c, q.1 ≠ I) →
      Fr h₀ env.locals h (fun y => if y = x then some v else kstB (fun z => if stored.contains z then u z else m₀ z) (ps c) y) → News h₀ env.locals h ((I, oI) :: Led c) →
      wpAny (model prog w) A (execs body env) (KgPost h₀ env.locals Led ps x stored m₀ (P (i + 1)) I oI { s with heap := h, toks := tk } Q) E { s with heap := h, toks := tk })
    (done : ∀ (c : σ) (u : Str → Option Value) h tk, P vs.length c → Fr h₀ env.locals h (fun y => if y = x then u y else kstB (fun z => if stored.contains z then u z else m₀ z) (ps c) y) → News h₀ env.locals h (Led c) → Q .next { s with heap := h, toks := tk }) :
    wpAny (model prog w) A (pyIter (.ref l)) (fun it s₂ => LoopAtV prog w A h₀ env x body Q E it s₂) E s := by
  have hol : s.heap.get? l = some (W.listOf vs.toArray nn) := (N _ (hl c₀)).1
  have hls : s.heap.IsList l vs.toArray := ⟨_, hol, rfl, nn, rfl⟩
  have hne : l ≠ s.heap.objs.size := Nat.ne_of_lt (Heap.lt_size hol)
  refine wpAny_pyIter_list hls ?_
  have W := Walks.list (prog := prog) (w := w) hh s.heap.objs.size l hne vs.toArray
  refine kg_core Led ps stored P c₀ W ?_ (next_is_new F) ?_ ⟨⟨_, Heap.get?_push_size _ rfl, rfl, rfl⟩, hls.at fun o e => Heap.get?_push_of_some _ e⟩ ?_ ?_ (F.push _) (fun p hp => ⟨Heap.get?_push_of_some _ (N p hp).1, (N p hp).2⟩) hk hp ?_ ?_
  · intro hm
    rcases List.mem_cons.mp hm with e | hm
    · exact absurd F.ns.lt (e ▸ Nat.lt_irrefl _)
    · exact (N _ (hl c₀)).2.1 ((List.mem_singleton.mp hm).symm)
  · exact fun q hq => Nat.ne_of_lt (Heap.lt_size (N q hq).1)
  · rintro i h ⟨⟨o, ho, _⟩, _⟩
    exact ⟨o, ho⟩
  · intro b hb hn
    rcases List.mem_cons.mp hb with e | hb
    · exact absurd e hn
    · rw [List.mem_singleton.mp hb]
      exact .inr ⟨_, hl⟩
  · intro c i v u h tk oI hi hv hP hoff F' N'
    exact turn c i v u h tk _ oI (by simpa using hv) hP hoff F' N'
  · intro c u h tk hP F' N'
    rw [List.size_toArray] at hP
    exact done c u h tk hP F' N'
/-- over a range by ones -/
theorem kg_range {σ : Type} {r : Addr} {a₀ b₀ : Int} {t₀ u₀ v₀ : Tok} {n : Nat} {m₀ : Str → Option Value} (Led : σ → List (Addr × Obj)) (ps : σ → List (Str × Value)) (stored : List Str) (P : Nat → σ → Prop) (c₀ : σ)
    (hh : A.handled = none) (hr : IsRange s.heap r a₀ b₀ 1 t₀ u₀ v₀) (hsmall : Builtin.Range.small a₀ b₀ 1 = true) (hn : Builtin.Range.rangeSize a₀ b₀ 1 = (n : Int)) (F : Fr h₀ env.locals s.heap m₀) (N : News h₀ env.locals s.heap (Led c₀)) (hk : ∀ p ∈ ps c₀, m₀ p.1 = some p.2) (hp : P 0 c₀)
    (turn : ∀ (c : σ) (i : Nat) t (u : Str → Option Value) h tk I oI, i < n → P i c → (∀ q ∈ Led c, q.1 ≠ I) →
      Fr h₀ env.locals h (fun y => if y = x then some (.int (a₀ + i) t) else kstB (fun z => if stored.contains z then u z else m₀ z) (ps c) y) → News h₀ env.locals h ((I, oI) :: Led c) →
      wpAny (model prog w) A (execs body env) (KgPost h₀ env.locals Led ps x stored m₀ (P (i + 1)) I oI { s with heap := h, toks := tk } Q) E { s with heap := h, toks := tk })
    (done : ∀ (c : σ) (u : Str → Option Value) h tk, P n c → Fr h₀ env.locals h (fun y => if y = x then u y else kstB (fun z => if stored.contains z then u z else m₀ z) (ps c) y) → News h₀ env.locals h (Led c) → Q .next { s with heap := h, toks := tk }) :
    wpAny (model prog w) A (pyIter (.ref r)) (fun it s₂ => LoopAtV prog w A h₀ env x body Q E it s₂) E s := by
  refine wpAny_pyIter_range hr hsmall ?_
  have W : Walks prog w A s.heap.objs.size [s.heap.objs.size] [s.heap.objs.size] n (fun i v => i < n ∧ ∃ t, v = .int (a₀ + i * 1) t)
      (fun i h => IsRangeIter h s.heap.objs.size (a₀ + (i : Nat) * 1) ((n : Int) - (i : Nat)) 1) := (Walks.range hh _ a₀ 1 n).bound
  refine kg_core Led ps stored P c₀ W ?_ (next_is_new F) ?_ (by show IsRangeIter _ _ _ _ _; rw [hn]; simpa using Heap.get?_push_size _ rfl) ?_ ?_ (F.push _) (fun p hp => ⟨Heap.get?_push_of_some _ (N p hp).1, (N p hp).2⟩) hk hp ?_ done
  · intro hm
    exact absurd F.ns.lt ((List.mem_singleton.mp hm) ▸ Nat.lt_irrefl _)
  · exact fun q hq => Nat.ne_of_lt (Heap.lt_size (N q hq).1)
  · intro i h st
    exact ⟨_, st⟩
  · intro b hb hne
    exact absurd (List.mem_singleton.mp hb) hne
  · rintro c i v u h tk oI hi ⟨_, t, rfl⟩ hP hoff F' N'
    rw [show a₀ + (i : Int) * 1 = a₀ + (i : Int) by lia] at F'
    exact turn c i t u h tk _ oI hi hP hoff F' N'
end
end
section
open PySem PySem.W PyProof.Rows PySem.Challenge PySem.Spec PySem.Calls Builtin Builtin.ObjectAttr
set_option Elab.async false
set_option maxRecDepth 100000
set_option maxHeartbeats 1000000
/-- a call inside a tree of the machine -/
theorem nd_call {α : Type} {M : Model} {A : Around} {Q : α → Shared → Prop} {E : Value → Shared → Prop} {s : Shared} {c : Code} {b : Bool} {l : List Value} {k : Result → Sem α}
    (hc : codeAny M A c (fun r s' => wpAny M A (k r) Q E s') s) : wpAny M A (.call c none b l k) Q E s :=
  fun Γ p hΓ => wpCode_mono (fun _ _ h => h Γ p hΓ) (hc (Γ.enter c none p) p rfl (hΓ.enter c none p (by intro x; cases x)))
/-- a method of a built-in object, bound -/
noncomputable abbrev bmObj (id : String) (self : Value) : Obj := { cls := .type "builtin_function_or_method", data := .fields #[.builtin id, self] }
/-- an empty set -/
noncomputable abbrev setE (led : Bool) : Obj := { cls := .type "set", dict := none, data := .set #[] 0 (.fresh 0 0 led) }
theorem type_md_get : typeLookup (.type "method_descriptor") "__get__" = pure (some (.builtin "method_descriptor.__get__")) := by rw [typeLookup_type, builtinLookup_eq_fast]; kernel_rfl
theorem entry_md_get : entryFor table "method_descriptor.__get__" = some Builtin.«method_descriptor.__get__» := entryFor_of_tree (by kernel_rfl)
theorem entry_set_getattribute : entryFor table "set.__getattribute__" = some Builtin.«object.__getattribute__» :=
  entryFor_alias (id' := "object.__getattribute__") (by kernel_rfl) (by decide +kernel) (by decide +kernel) (by kernel_rfl)
section
variable {prog : Program} {w : World} {A : Around} {E : Value → Shared → Prop} {Q : Value → Shared → Prop} {R : Result → Shared → Prop} {hp h₀ : Heap} {gs : Array GenState} {dr : Drawn} {tk : Nat} {os : OsState} {d q L : Addr} {m : Str → Option Value} {news : List (Addr × Obj)}
theorem bound_m {c ga mid : String} {nm : Str} {x : Data} {sl : Array (Option Value)} (S : Slot c "__getattribute__" ga) (oh : onTheHeap (.builtin ga) = false) (ge : entryFor table ga = some Builtin.«object.__getattribute__») (ga' : ∀ l, argsOk ga ⟨[.ref d, l], []⟩) (f5' : typeLookup (.type c) nm = pure (some (.builtin mid))) (f6' : typeOf (.builtin mid) = pure (.type "method_descriptor"))
    (hi : ∃ mro, builtinMro c = some mro ∧ mro.contains (.type (".".intercalate (mid.cutAt '.').dropLast)) = true) (ht : Manifest.toldItsClass.contains mid = false) (hn : [Str.ofString "__module__", Str.ofString "__name__", Str.ofString "__qualname__", Str.ofString "__doc__", Str.ofString "__annotations__"].contains nm = false) (hx : ∀ c, x ≠ .cls c) (ho : hp.get? d = some ⟨.type c, none, x, sl⟩) (h : Q (.ref hp.objs.size) ⟨hp.push (bmObj mid (.ref d)), gs, dr, tk + 1, os⟩) :
    wpAny (model prog w) A (getAttr (.ref d) nm true) Q E ⟨hp, gs, dr, tk, os⟩ := by
  have f3 : Looks (model prog w) hp (typeLookup (.type c) "__getattribute__") (some (.builtin ga)) := Looks.of_pure S.lookup
  have f4 : Looks (model prog w) hp (bindSpecial (.builtin ga) (.ref d)) (.builtin ga, [.ref d]) := Looks.of_pure (S.bind (.ref d))
  have f5 : Looks (model prog w) hp (typeLookup (.type c) nm) (some (.builtin mid)) := Looks.of_pure f5'
  have f6 : Looks (model prog w) hp (typeOf (.builtin mid)) (.type "method_descriptor") := Looks.of_pure f6'
  have f7 : Looks (model prog w) hp (typeLookup (.type "method_descriptor") "__get__") (some (.builtin "method_descriptor.__get__")) := Looks.of_pure type_md_get
  have hT : ∀ s' : Shared, s'.heap = hp → s'.TypeIs (.ref d) c := fun s' e => ⟨⟨.type c, none, x, sl⟩, e ▸ ho, rfl⟩
  unfold getAttr
  repeat lk
  unfold callGetattribute
  rw [oh, Bool.and_false, if_neg Bool.false_ne_true]
  refine wpAny_tryCatch (wpAny_bind (wpAny_holding ?_))
  unfold boundAndCalled
  refine wpAny_bind (Looks.at f4 ?_)
  dsimp only
  repeat lk
  refine nd_call ?_
  refine codeAny_call_builtin S.plain ge ?_
  refine S.check _ _ _ _ _ _ _ _ (hT _ rfl) (ga' _) ?_
  unfold Builtin.«object.__getattribute__»
  repeat lk
  split
  · exact absurd rfl (hx _)
  repeat lk
  rw [hn, if_neg Bool.false_ne_true]
  repeat lk
  refine nd_call (codeAny_call_builtin (by decide +kernel) entry_md_get ?_)
  repeat lk
  rw [ht, if_neg Bool.false_ne_true]
  repeat lk
  obtain ⟨mro, hm, hq⟩ := hi
  rw [hm]
  repeat lk
  rw [hq]
  repeat lk
  exact h
theorem bound_get {es : Array DictEntry} {n : Nat} {sl : Array (Option Value)} (ho : hp.get? d = some ⟨.type "dict", none, .dict es n, sl⟩) (h : Q (.ref hp.objs.size) ⟨hp.push (bmObj "dict.get" (.ref d)), gs, dr, tk + 1, os⟩) :
    wpAny (model prog w) A (getAttr (.ref d) "get" true) Q E ⟨hp, gs, dr, tk, os⟩ :=
  bound_m F.slot_dict_getattribute rfl am_entry_dict_getattribute (F.args_dict_getattribute_2 _) F.slot_dict_get.lookup F.type_dict_get ⟨_, rfl, by decide +kernel⟩ (by decide +kernel) (by decide +kernel) (fun _ e => by cases e) ho h
theorem bound_contains {led : Bool} (ho : hp.get? d = some (setE led)) (h : Q (.ref hp.objs.size) ⟨hp.push (bmObj "set.__contains__" (.ref d)), gs, dr, tk + 1, os⟩) :
    wpAny (model prog w) A (getAttr (.ref d) "__contains__" true) Q E ⟨hp, gs, dr, tk, os⟩ :=
  bound_m F.slot_set_getattribute rfl entry_set_getattribute (F.args_set_getattribute_2 _) F.slot_set_contains.lookup F.type_set_contains ⟨_, rfl, by decide +kernel⟩ (by decide +kernel) (by decide +kernel) (fun _ e => by cases e) ho h
theorem call_bget {k : Int} {t : Tok} {v : Value} {o : Obj} {kvs : List (Int × Value)} (hq : hp.get? q = some (bmObj "dict.get" (.ref d))) (ho : hp.get? d = some o) (hd : o.IsDictOf (intKind prog w) kvs) (lo : (d == sysModules) = false)
    (h : R (.ok (.ret ((valueAt kvs k).getD v))) ⟨hp, gs, dr, tk + 1, os⟩) : codeAny (model prog w) A (.call (.ref q) ⟨[.int k t, v], []⟩) R ⟨hp, gs, dr, tk, os⟩ := by
  have hD : hp.DictOf (intKind prog w) d kvs := Heap.dictOf_iff.mpr ⟨o, ho, hd⟩
  obtain ⟨es, ep, ⟨hc, hdd, hsl⟩, hdat, _⟩ := id hd
  obtain ⟨c, dct, dat, sl⟩ := o
  dsimp only at hc hdd hsl hdat
  subst hc hdd hsl hdat
  refine codeAny_of_tree ?_
  show wpAny _ _ (callAny (.ref q) _) _ _ _
  repeat lk
  refine ⟨Code.quiet_builtin _ (by decide +kernel), codeAny_builtin PySem.F.entry_dict_get ?_⟩
  rw [Around.under_plainId F.slot_dict_get.plain]
  exact meets_dict_get_default (intKind prog w) d (by simp [intKind, Value.isInt]) lo v A R _ ⟨_, hD.mapOf, h⟩
theorem call_bin {k : Int} {t : Tok} {led : Bool} (hq : hp.get? q = some (bmObj "set.__contains__" (.ref d))) (ho : hp.get? d = some (setE led))
    (h : R (.ok (.ret (.bool false))) ⟨hp, gs, dr, tk + 1, os⟩) : codeAny (model prog w) A (.call (.ref q) ⟨[.int k t], []⟩) R ⟨hp, gs, dr, tk, os⟩ := by
  refine codeAny_of_tree ?_
  show wpAny _ _ (callAny (.ref q) _) _ _ _
  repeat lk
  refine ⟨Code.quiet_builtin _ (by decide +kernel), codeAny_builtin entry_set_contains ?_⟩
  rw [Around.under_plainId F.slot_set_contains.plain]
  have hS : (⟨hp, gs, dr, tk, os⟩ : Shared).heap.SetOf (intKind prog w) d (fun _ => false) 0 := (setObjOf_fresh (knd := PySem.intKind prog w) led).setOf ho (by decide)
  unfold Builtin.«frozenset.__contains__» Builtin.Frozenset.oneOther
  simp only [List.isEmpty_nil, bind_assoc]
  unfold Builtin.Frozenset.addrOf Builtin.Frozenset.withSetAsKey setContains
  refine wpAny_bind (wpAny_pure ?_)
  try dsimp only
  refine wpAny_bind (wpAny_pure ?_)
  try dsimp only
  refine wpAny_bind (wpAny_tryCatch ?_)
  refine wpAny_holding ?_
  refine wpAny_bind ((intKind prog w).pyHash (k := k) (by simp [intKind, Value.isInt]) ?_)
  refine wpAny_bind (wpAny_setFind_of (s := ⟨hp, gs, dr, tk + 1, os⟩) (k := k) (by simp [intKind, Value.isInt]) rfl hS fun r hr => ?_)
  refine wpAny_pure ?_
  show wpAny _ _ (ret (Value.bool r.isSome)) _ _ _
  rw [hr]
  exact wpAny_pure h
/-- the bound method of a dict of the ledger -/
theorem boundGet {o : Obj} {kvs : List (Int × Value)} (F : Fr h₀ L hp m) (N : News h₀ L hp news) (hm : (d, o) ∈ news) (hd : o.IsDictOf (intKind prog w) kvs)
    (h : ∀ q h' tk', Fr h₀ L h' m → News h₀ L h' ((q, bmObj "dict.get" (.ref d)) :: news) → (∀ p ∈ news, p.1 < q) → Q (.ref q) ⟨h', gs, dr, tk', os⟩) : wpAny (model prog w) A (getAttr (.ref d) "get" true) Q E ⟨hp, gs, dr, tk, os⟩ := by
  have ho := (N _ hm).1
  obtain ⟨es, ep, ⟨hc, hdd, hsl⟩, hdat, _⟩ := id hd
  obtain ⟨c, dct, dat, sl⟩ := o
  dsimp only at hc hdd hsl hdat
  subst hc hdd hsl hdat
  exact bound_get ho (h _ _ _ (F.push _) (N.push F _) fun p hp => Heap.lt_size (N p hp).1)
theorem boundIn {led : Bool} (F : Fr h₀ L hp m) (N : News h₀ L hp news) (hm : (d, setE led) ∈ news)
    (h : ∀ q h' tk', Fr h₀ L h' m → News h₀ L h' ((q, bmObj "set.__contains__" (.ref d)) :: news) → (∀ p ∈ news, p.1 < q) → Q (.ref q) ⟨h', gs, dr, tk', os⟩) : wpAny (model prog w) A (getAttr (.ref d) "__contains__" true) Q E ⟨hp, gs, dr, tk, os⟩ :=
  bound_contains (N _ hm).1 (h _ _ _ (F.push _) (N.push F _) fun p hp => Heap.lt_size (N p hp).1)
theorem callGet {k : Int} {t : Tok} {v : Value} {o : Obj} {kvs : List (Int × Value)} (N : News h₀ L hp news) (hq : (q, bmObj "dict.get" (.ref d)) ∈ news) (hm : (d, o) ∈ news) (hd : o.IsDictOf (intKind prog w) kvs) (lo : (d == sysModules) = false)
    (h : ∀ tk', Q ((valueAt kvs k).getD v) ⟨hp, gs, dr, tk', os⟩) : wpAny (model prog w) A (call (.ref q) [.int k t, v]) Q E ⟨hp, gs, dr, tk, os⟩ :=
  wpAny_call (call_bget (N _ hq).1 (N _ hm).1 hd lo (h _))
theorem callIn {k : Int} {t : Tok} {led : Bool} (N : News h₀ L hp news) (hq : (q, bmObj "set.__contains__" (.ref d)) ∈ news) (hm : (d, setE led) ∈ news)
    (h : ∀ tk', Q (.bool false) ⟨hp, gs, dr, tk', os⟩) : wpAny (model prog w) A (call (.ref q) [.int k t]) Q E ⟨hp, gs, dr, tk, os⟩ :=
  wpAny_call (call_bin (N _ hq).1 (N _ hm).1 (h _))
noncomputable def BmAt (q : Addr) (id : String) (self : Value) (h : Heap) : Prop := h.get? q = some (bmObj id self)
theorem keeps_BM {M : Model} {id : String} {self : Value} (h : Heap) (X : BmAt q id self h) : ∃ k, (k = Keeper.frame ∨ k = Keeper.machine ∨ k = Keeper.boundFrame) ∧ Looks M h (keeperOf (.ref q)) k :=
  ⟨.machine, .inr (.inl rfl), (Looks.ld (part := none) X).andThen .now⟩
theorem callWith_BM {M : Model} {env : Env} {pos : Pos} {s : Shared} {id : String} {self : Value} {e : PySem.Expr} {rest : List PySem.Expr} (_hq : (q, bmObj id self) ∈ news)
    (h : wpAny M A (spliced (backTo pos (starEach (e :: rest) env))) (fun vs s₁ => BmAt q id self s₁.heap ∧ wpAny M A (call (.ref q) ([] ++ vs)) Q E s₁) E s)
    (he : starEach (e :: rest) env = (false, eval e env) :: starEach rest env := by rfl) (hplain : (backTo pos (starEach rest env)).any (·.1) = false := by rfl) :
    wpAny M A (callWith pos (.ref q) [] (backTo pos (starEach (e :: rest) env)) []) Q E s := by
  rw [he] at h ⊢
  exact callWith_of (P := BmAt q id self) (by show ((false || (backTo pos (starEach rest env)).any (·.1)) || false) = false; rw [hplain]; rfl) keeps_BM (evalArgs_plain h)
theorem setDefault {k : Int} {t : Tok} {dflt : Value} {o : Obj} {kvs : List (Int × Value)} {g : Obj → List (Addr × Obj)} (F : Fr h₀ L hp m) (N : News h₀ L hp news) (U : UpdF d o news g) (hd : o.IsDictOf (intKind prog w) kvs) (lo : (d == sysModules) = false) (hsz : kvs.length ≤ 100000)
    (h1 : ∀ v tk', valueAt kvs k = some v → Q v ⟨hp, gs, dr, tk', os⟩)
    (h2 : ∀ h' o' tk', valueAt kvs k = none → Fr h₀ L h' m → News h₀ L h' (g o') → o'.IsDictOf (intKind prog w) (stored kvs k dflt) → Q dflt ⟨h', gs, dr, tk', os⟩) :
    wpAny (model prog w) A (call (.builtin "dict.setdefault") [.ref d, .int k t, dflt]) Q E ⟨hp, gs, dr, tk, os⟩ := by
  obtain ⟨pre, post, rfl, hg, a, b⟩ := U.split
  have hm := N (d, o) (List.mem_append_right _ (.head _))
  have hD : hp.DictOf (intKind prog w) d kvs := Heap.dictOf_iff.mpr ⟨o, hm.1, hd⟩
  refine call_meetsIn (s := ⟨hp, gs, dr, tk, os⟩) PySem.F.slot_dict_setdefault (Heap.DictOf.typeIs (s := ⟨hp, gs, dr, tk, os⟩) hD) PySem.F.entry_dict_setdefault (PySem.F.args_dict_setdefault_3 _ _ _) (kt_meets_setdefault (intKind prog w) (k := k) d (by simp [intKind, Value.isInt]) lo dflt) ⟨kvs, hD, (by rw [sizeLine_eq]; lia), fun v hv => h1 v _ hv, fun hn h' hmm hs => ?_⟩
  obtain ⟨o', ho', hd'⟩ := Heap.dictOf_iff.mp hmm
  exact h2 h' o' _ hn (F.change hs hm.2.1 hm.2.2) (hg o' ▸ N.setIn a b hs ho') hd'
end
end
section
open PySem PySem.W PyProof.Rows PySem.Challenge PySem.Spec
set_option Elab.async false
set_option maxRecDepth 100000
set_option maxHeartbeats 200000
theorem subL_of {keep l : List (Addr × Obj)} (h : ∀ p ∈ keep, p ∈ l) : SubL keep l := by
  induction keep with
  | nil => exact trivial
  | cons p r ih => exact ⟨h p (.head _), ih fun q hq => h q (.tail _ hq)⟩
theorem objs1 {a : Addr} {n : String} : ∀ {its : List (Addr × Obj)}, Objs [(a, n)] its → ∃ o, its = [(a, o)]
  | [], h => h.elim
  | [(b, o)], h => ⟨o, by rw [show b = a from h.1.1]⟩
  | _ :: _ :: _, h => h.2.elim
theorem objs2 {a b : Addr} {n k : String} : ∀ {its : List (Addr × Obj)}, Objs [(a, n), (b, k)] its → ∃ o p, its = [(a, o), (b, p)]
  | [], h => h.elim
  | p :: r, h => by
    obtain ⟨o, rfl⟩ := objs1 (its := r) h.2
    exact ⟨p.2, o, by rw [show p = (a, p.2) from Prod.ext h.1.1 rfl]⟩
noncomputable def KtEnd {σ : Type} (h₀ : Heap) (L : Addr) (Led : σ → List (Addr × Obj)) (ps : σ → List (Str × Value)) (stored : List Str) (m₀ : Str → Option Value) (P : σ → Prop) (its : List (Addr × Obj)) (s₁ s₂ : Shared) : Prop :=
  ∃ (c : σ) (h' : Heap) (tk : Nat) (m' : Str → Option Value) (news' : List (Addr × Obj)), s₂ = { s₁ with heap := h', toks := tk } ∧ Fr h₀ L h' m' ∧ News h₀ L h' news' ∧ (∀ p ∈ Led c, p ∈ news') ∧ (∀ p ∈ its, p ∈ news') ∧ (∀ p ∈ Led c, ∀ q ∈ its, p.1 ≠ q.1) ∧
    (∀ p ∈ ps c, m' p.1 = some p.2) ∧ (∀ z, (∀ p ∈ ps c, z ≠ p.1) → stored.contains z = false → m' z = m₀ z) ∧ P c
noncomputable def KtPost {σ : Type} (h₀ : Heap) (L : Addr) (Led : σ → List (Addr × Obj)) (ps : σ → List (Str × Value)) (stored : List Str) (m₀ : Str → Option Value) (P : σ → Prop) (its : List (Addr × Obj)) (s₁ : Shared) (Q : Flow → Shared → Prop) (f : Flow) (s₂ : Shared) : Prop :=
  match f with
  | .ret v => Q (.ret v) s₂
  | .brk => Q .next s₂
  | _ => KtEnd h₀ L Led ps stored m₀ P its s₁ s₂
theorem kt_end {σ : Type} {h₀ : Heap} {L : Addr} {Led : σ → List (Addr × Obj)} {ps : σ → List (Str × Value)} {stored : List Str} {m₀ m' : Str → Option Value} {P : σ → Prop} {its : List (Addr × Obj)} {s₁ : Shared} {h' : Heap} {tk : Nat} {news' : List (Addr × Obj)} (c : σ)
    (F : Fr h₀ L h' m') (N : News h₀ L h' news') (hn : ∀ p ∈ Led c, p ∈ news') (hI : ∀ p ∈ its, p ∈ news') (ho : ∀ p ∈ Led c, ∀ q ∈ its, p.1 ≠ q.1) (hk : ∀ p ∈ ps c, m' p.1 = some p.2) (hr : ∀ z, (∀ p ∈ ps c, z ≠ p.1) → stored.contains z = false → m' z = m₀ z) (hp : P c) :
    KtEnd h₀ L Led ps stored m₀ P its s₁ { s₁ with heap := h', toks := tk } := ⟨c, h', tk, m', news', rfl, F, N, hn, hI, ho, hk, hr, hp⟩
section
variable {prog : Program} {w : World} {A : Around} {E : Value → Shared → Prop} {s : Shared} {env : Env} {h₀ : Heap} {target : PySem.Expr} {body : List Stmt} {Q : Flow → Shared → Prop}
theorem kt_rest {σ : Type} {m₀ : Str → Option Value} (Led : σ → List (Addr × Obj)) (ps : σ → List (Str × Value)) (stored : List Str) (P : Nat → σ → Prop) (ws : List (Addr × String)) (keep : List (Addr × Obj)) (xs : List Itm)
    (hkeep : ∀ c, ∀ p ∈ keep, p ∈ Led c)
    (turn : ∀ (c : σ) i a v (u : Str → Option Value) h tk its, xs[i]? = some a → a.Is v h → P i c → Objs ws its → (∀ p ∈ Led c, ∀ q ∈ its, p.1 ≠ q.1) →
      Fr h₀ env.locals h (kstB (fun z => if stored.contains z then u z else m₀ z) (ps c)) → News h₀ env.locals h (its ++ Led c) →
      wpAny (model prog w) A (assign target env v) (fun _ s₂ => wpAny (model prog w) A (execs body env) (KtPost h₀ env.locals Led ps stored m₀ (P (i + 1)) its { s with heap := h, toks := tk } Q) E s₂) E { s with heap := h, toks := tk })
    (done : ∀ (c : σ) (u : Str → Option Value) h tk, P xs.length c → Fr h₀ env.locals h (kstB (fun z => if stored.contains z then u z else m₀ z) (ps c)) → News h₀ env.locals h (Led c) → Q .next { s with heap := h, toks := tk }) :
    ∀ (k i : Nat) (c : σ) (m : Str → Option Value), i + k = xs.length → (∀ p ∈ ps c, m p.1 = some p.2) → (∀ z, (∀ p ∈ ps c, z ≠ p.1) → stored.contains z = false → m z = m₀ z) → (∀ p ∈ Led c, p.1 ∉ ws.map (·.1)) → P i c →
      ItemsRest prog w A E h₀ env target body Q s ws keep (xs.drop i) m (Led c) := by
  intro k
  induction k with
  | zero =>
    intro i c m hi hk hr _ hp
    rw [List.drop_of_length_le (by lia)]
    intro h tk F N
    rw [show i = xs.length by lia] at hp
    exact done c m h tk hp (ksw_fr hk hr F) N
  | succ k ih =>
    intro i c m hi hk hr hoff hp
    have hlt : i < xs.length := by lia
    rw [List.drop_eq_getElem_cons hlt]
    intro v h tk ha F
    have all : ∀ (ws' : List (Addr × String)) (kk : List (Addr × Obj) → Prop), (∀ its, Objs ws' its → kk its) → AllObj ws' kk := by
      intro ws'
      induction ws' with
      | nil => intro kk h; exact h [] trivial
      | cons w' r ih2 => intro kk h o ho; exact ih2 _ fun its hits => h _ ⟨⟨rfl, ho⟩, hits⟩
    refine all ws _ fun its hits N => ?_
    have hoff2 : ∀ p ∈ Led c, ∀ q ∈ its, p.1 ≠ q.1 := fun p hp q hq e => hoff p hp (by rw [← hits.map, e]; exact List.mem_map_of_mem hq)
    refine wpAny_mono (turn c i xs[i] v m h tk its (by simp [hlt]) ha hp hits hoff2 (ksw_fr hk hr F) N) (fun _ s₂ q => wpAny_mono q (fun f s₃ q => ?_) fun _ _ e => e) fun _ _ e => e
    have fin : KtEnd h₀ env.locals Led ps stored m₀ (P (i + 1)) its { s with heap := h, toks := tk } s₃ → UnrEndW h₀ env.locals { s with heap := h, toks := tk } its (fun m' n' => SubL keep n' ∧ ItemsRest prog w A E h₀ env target body Q s ws keep (xs.drop (i + 1)) m' n') s₃ := by
      rintro ⟨c', h', tk', m', news', e, F', N', hn, hI, ho, hk', hr', hp'⟩
      refine ⟨h', tk', m', Led c', e, F', fun p hp => ?_, ho, subL_of (hkeep c'), ih (i + 1) c' m' (by lia) hk' hr' (fun p hp hq => ?_) hp'⟩
      · rcases List.mem_append.mp hp with hp | hp
        · exact N' p (hI p hp)
        · exact N' p (hn p hp)
      · rw [← hits.map] at hq
        obtain ⟨q, hq, e⟩ := List.mem_map.mp hq
        exact ho p hp q hq e.symm
    cases f with
    | ret v => exact q
    | brk => exact q
    | next => exact fin q
    | cont => exact fin q
/-- for (a, b) in enumerate(l) -/
theorem kt_enum {σ : Type} {elts : List PySem.Expr} {kk : Nat} {pos : Pos} {l : Addr} {vs : List Value} {nn : Nat} {m₀ : Str → Option Value} (Led : σ → List (Addr × Obj)) (ps : σ → List (Str × Value)) (stored : List Str) (P : Nat → σ → Prop) (c₀ : σ)
    (hh : A.handled = none) (hl : ∀ c : σ, (l, W.listOf vs.toArray nn) ∈ Led c) (F : Fr h₀ env.locals s.heap m₀) (N : News h₀ env.locals s.heap (Led c₀)) (hk : ∀ p ∈ ps c₀, m₀ p.1 = some p.2) (hp : P 0 c₀)
    (turn : ∀ (c : σ) (i : Nat) x T t (u : Str → Option Value) h tk I oe oi, vs[i]? = some x → IsTup h T #[.int (i : Int) t, x] → P i c → (∀ p ∈ Led c, p.1 ≠ I + 1 ∧ p.1 ≠ I) →
      Fr h₀ env.locals h (kstB (fun z => if stored.contains z then u z else m₀ z) (ps c)) → News h₀ env.locals h ((I + 1, oe) :: (I, oi) :: Led c) →
      wpAny (model prog w) A (assign (.Tuple elts kk pos) env (.ref T)) (fun _ s₂ => wpAny (model prog w) A (execs body env) (KtPost h₀ env.locals Led ps stored m₀ (P (i + 1)) [(I + 1, oe), (I, oi)] { s with heap := h, toks := tk } Q) E s₂) E { s with heap := h, toks := tk })
    (done : ∀ (c : σ) (u : Str → Option Value) h tk, P vs.length c → Fr h₀ env.locals h (kstB (fun z => if stored.contains z then u z else m₀ z) (ps c)) → News h₀ env.locals h (Led c) → Q .next { s with heap := h, toks := tk }) :
    wpAny (model prog w) A (call (.type "enumerate") [.ref l]) (fun xv s₁ => wpAny (model prog w) A (pyIter xv) (fun it s₂ => TurnsAt prog w A h₀ env (.Tuple elts kk pos) body Q E it s₂) E s₁) E s := by
  refine ktu_enum hh F N (hl c₀) rfl rfl rfl fun I hlt => ?_
  have r := kt_rest (prog := prog) (w := w) (A := A) (h₀ := h₀) (target := .Tuple elts kk pos) (E := E) (s := s) (env := env) (body := body) (Q := Q) (m₀ := m₀) Led ps stored P [(I + 1, "enumerate"), (I, "list_iterator")] [(l, W.listOf vs.toArray nn)] (enumItems 0 vs) (fun c p hp => by rw [List.mem_singleton.mp hp]; exact hl c)
    (fun c i a v u h tk its hx ha hP hO hoff F' N' => by
        obtain ⟨oe, oi, rfl⟩ := objs2 hO
        have hlen : i < vs.length := by
          have := (List.getElem?_eq_some_iff.mp hx).1
          rwa [enumItems_length] at this
        have hx2 := enumItems_get vs 0 i (v := vs[i]) (by simp [hlen])
        rw [hx] at hx2
        cases hx2
        obtain ⟨T, t, rfl, hT⟩ := ha
        rw [Nat.zero_add] at hT
        exact turn c i vs[i] T t u h tk I oe oi (by simp [hlen]) hT hP (fun p hp => ⟨hoff p hp _ (.head _), hoff p hp _ (.tail _ (.head _))⟩) F' N')
    (fun c u h tk hP F' N' => by rw [enumItems_length] at hP; exact done c u h tk hP F' N')
    (enumItems 0 vs).length 0 c₀ m₀ (by lia) hk (fun _ _ _ => rfl) (fun p hp hq => by
      have := hlt p hp
      simp only [List.map_cons, List.map_nil, List.mem_cons, List.not_mem_nil, or_false] at hq
      rcases hq with e | e
      · exact Nat.ne_of_lt (Nat.lt_succ_of_lt this) e
      · exact Nat.ne_of_lt this e) hp
  rwa [List.drop_zero] at r
/-- for target in l -/
theorem kt_list {σ : Type} {l : Addr} {vs : List Value} {nn : Nat} {m₀ : Str → Option Value} (Led : σ → List (Addr × Obj)) (ps : σ → List (Str × Value)) (stored : List Str) (P : Nat → σ → Prop) (c₀ : σ)
    (hh : A.handled = none) (hl : ∀ c : σ, (l, W.listOf vs.toArray nn) ∈ Led c) (F : Fr h₀ env.locals s.heap m₀) (N : News h₀ env.locals s.heap (Led c₀)) (hk : ∀ p ∈ ps c₀, m₀ p.1 = some p.2) (hp : P 0 c₀)
    (turn : ∀ (c : σ) (i : Nat) v (u : Str → Option Value) h tk I oI, vs[i]? = some v → P i c → (∀ p ∈ Led c, p.1 ≠ I) →
      Fr h₀ env.locals h (kstB (fun z => if stored.contains z then u z else m₀ z) (ps c)) → News h₀ env.locals h ((I, oI) :: Led c) →
      wpAny (model prog w) A (assign target env v) (fun _ s₂ => wpAny (model prog w) A (execs body env) (KtPost h₀ env.locals Led ps stored m₀ (P (i + 1)) [(I, oI)] { s with heap := h, toks := tk } Q) E s₂) E { s with heap := h, toks := tk })
    (done : ∀ (c : σ) (u : Str → Option Value) h tk, P vs.length c → Fr h₀ env.locals h (kstB (fun z => if stored.contains z then u z else m₀ z) (ps c)) → News h₀ env.locals h (Led c) → Q .next { s with heap := h, toks := tk }) :
    wpAny (model prog w) A (pyIter (.ref l)) (fun it s₂ => TurnsAt prog w A h₀ env target body Q E it s₂) E s := by
  refine iter_listTurns hh F N (hl c₀) rfl rfl fun I hlt => ?_
  have r := kt_rest (prog := prog) (w := w) (A := A) (h₀ := h₀) (target := target) (E := E) (s := s) (env := env) (body := body) (Q := Q) (m₀ := m₀) Led ps stored P [(I, "list_iterator")] [(l, W.listOf vs.toArray nn)] (vs.map .val) (fun c p hp => by rw [List.mem_singleton.mp hp]; exact hl c)
    (fun c i a v u h tk its hx ha hP hO hoff F' N' => by
        obtain ⟨oi, rfl⟩ := objs1 hO
        have hlen : i < vs.length := by
          have := (List.getElem?_eq_some_iff.mp hx).1
          rwa [List.length_map] at this
        have hx2 : (vs.map Itm.val)[i]? = some (.val vs[i]) := by simp [hlen]
        rw [hx] at hx2
        cases hx2
        cases (show v = vs[i] from ha)
        exact turn c i vs[i] u h tk I oi (by simp [hlen]) hP (fun p hp => hoff p hp _ (.head _)) F' N')
    (fun c u h tk hP F' N' => by rw [List.length_map] at hP; exact done c u h tk hP F' N')
    (vs.map Itm.val).length 0 c₀ m₀ (by lia) hk (fun _ _ _ => rfl) (fun p hp hq => Nat.ne_of_lt (hlt p hp) (by simpa using hq)) hp
  rwa [List.drop_zero] at r
end
end
section
open PySem PySem.W PyProof.Rows PySem.Challenge
set_option maxRecDepth 100000
/-- the places of k -/
noncomputable def idxs (bs : List Int) (k : Int) : List Int := ((List.range bs.length).filter fun j => decide (bs[j]? = some k)).map fun (j : Nat) => (j : Int)
theorem idxs_nil (k : Int) : idxs [] k = [] := rfl
theorem idxs_snoc (bs : List Int) (x k : Int) : idxs (bs ++ [x]) k = if x = k then idxs bs k ++ [(bs.length : Int)] else idxs bs k := by
  unfold idxs
  rw [List.length_append, List.length_singleton, List.range_succ, List.filter_append, List.map_append]
  have e : (List.range bs.length).filter (fun j => decide ((bs ++ [x])[j]? = some k)) = (List.range bs.length).filter (fun j => decide (bs[j]? = some k)) := by
    apply List.filter_congr
    intro j hj
    rw [List.getElem?_append_left (List.mem_range.mp hj)]
  rw [e]
  by_cases h : x = k
  · rw [if_pos h]; simp [h]
  · rw [if_neg h]; simp [h]
theorem mem_idxs {bs : List Int} {k : Int} {j : Nat} : (j : Int) ∈ idxs bs k ↔ bs[j]? = some k := by
  unfold idxs
  simp only [List.mem_map, List.mem_filter, List.mem_range, decide_eq_true_eq]
  constructor
  · rintro ⟨i, ⟨_, h⟩, e⟩
    rw [← show i = j by lia]; exact h
  · intro h
    exact ⟨j, ⟨(List.getElem?_eq_some_iff.mp h).1, h⟩, rfl⟩
theorem idxs_sorted (bs : List Int) (k : Int) : (idxs bs k).Pairwise (· < ·) := by
  unfold idxs
  rw [List.pairwise_map]
  exact (List.pairwise_lt_range.filter _).imp fun h => by lia
theorem mem_idxs' {bs : List Int} {k j : Int} (h : j ∈ idxs bs k) : 0 ≤ j ∧ bs[j.toNat]? = some k := by
  unfold idxs at h
  simp only [List.mem_map, List.mem_filter, List.mem_range, decide_eq_true_eq] at h
  obtain ⟨i, ⟨_, h⟩, rfl⟩ := h
  exact ⟨by lia, by simpa using h⟩
theorem idxs_none {bs : List Int} {k : Int} (h : k ∉ bs) : idxs bs k = [] := by
  cases e : idxs bs k with
  | nil => rfl
  | cons a r =>
    have := mem_idxs' (bs := bs) (k := k) (j := a) (by rw [e]; exact .head _)
    exact absurd (List.mem_of_getElem? this.2) h
/-- the table of the places -/
noncomputable def B2J (bs : List Int) (kvs : List (Int × Value)) (ls : List (Addr × Obj)) : Prop :=
  ∀ k, (k ∈ bs → ∃ l vs n, valueAt kvs k = some (.ref l) ∧ (l, W.listOf (List.toArray vs) n) ∈ ls ∧ IntsAre vs (idxs bs k)) ∧ (k ∉ bs → valueAt kvs k = none)
theorem b2j_nil (ls : List (Addr × Obj)) : B2J [] [] ls := fun k => ⟨(fun h => nomatch h), fun _ => rfl⟩
/-- an object of the ledger set anew -/
noncomputable def upL (l : Addr) (o : Obj) (news : List (Addr × Obj)) : List (Addr × Obj) := news.map fun p => if p.1 = l then (l, o) else p
theorem mem_upL_ne {l : Addr} {o : Obj} {news : List (Addr × Obj)} {p : Addr × Obj} (h : p ∈ news) (hne : p.1 ≠ l) : p ∈ upL l o news := List.mem_map.mpr ⟨p, h, if_neg hne⟩
theorem mem_upL_self {l : Addr} {o o' : Obj} {news : List (Addr × Obj)} (h : (l, o') ∈ news) : (l, o) ∈ upL l o news := List.mem_map.mpr ⟨_, h, if_pos rfl⟩
theorem upL_mem {l : Addr} {o : Obj} {news : List (Addr × Obj)} {p : Addr × Obj} (h : p ∈ upL l o news) : (p = (l, o)) ∨ (p ∈ news ∧ p.1 ≠ l) := by
  obtain ⟨q, hq, rfl⟩ := List.mem_map.mp h
  by_cases e : q.1 = l
  · rw [if_pos e]; exact .inl rfl
  · rw [if_neg e]; exact .inr ⟨hq, e⟩
theorem upL_fst {l : Addr} {o : Obj} {news : List (Addr × Obj)} {p : Addr × Obj} (h : p ∈ upL l o news) : ∃ q ∈ news, q.1 = p.1 := by
  obtain ⟨q, hq, rfl⟩ := List.mem_map.mp h
  by_cases e : q.1 = l
  · rw [if_pos e]; exact ⟨q, hq, e⟩
  · rw [if_neg e]; exact ⟨q, hq, rfl⟩
theorem News.one {h₀ h : Heap} {L : Addr} {news : List (Addr × Obj)} (N : News h₀ L h news) {a : Addr} {o o' : Obj} (h1 : (a, o) ∈ news) (h2 : (a, o') ∈ news) : o = o' :=
  Option.some.inj ((N _ h1).1.symm.trans (N _ h2).1)
section
variable {prog : Program} {w : World} {A : Around} {E : Value → Shared → Prop} {Q : Value → Shared → Prop} {hp h₀ : Heap} {gs : Array GenState} {dr : Drawn} {tk0 : Nat} {os : OsState} {L l : Addr} {m : Str → Option Value} {news : List (Addr × Obj)}
theorem appendU {its : Array Value} {n : Nat} {x : Value} (F : Fr h₀ L hp m) (N : News h₀ L hp news) (hm : (l, W.listOf its n) ∈ news)
    (h : ∀ h', Fr h₀ L h' m → News h₀ L h' (upL l (W.listOf (its.push x) (n + 1)) news) → Q .none ⟨h', gs, dr, tk0, os⟩) (hsz : its.size ≤ 100000) : wpAny (model prog w) A (call (.builtin "list.append") [.ref l, x]) Q E ⟨hp, gs, dr, tk0, os⟩ := by
  have z := N _ hm
  refine append_at (s := ⟨hp, gs, dr, tk0, os⟩) (hsz := by rw [sizeLine_eq]; lia) z.1 fun h' hs ho' => h h' (F.change hs z.2.1 z.2.2) fun p hp' => ?_
  rcases upL_mem hp' with rfl | ⟨hq, hne⟩
  · exact ⟨ho', z.2⟩
  · exact ⟨(hs.2 p.1 hne).trans (N p hq).1, (N p hq).2⟩
end
/-- one more number into the table: it stood there -/
theorem b2j_there {bs : List Int} {kvs : List (Int × Value)} {ls : List (Addr × Obj)} {k : Int} {l : Addr} {t : Tok} (hB : B2J bs kvs ls) (hf : ∀ a o o', (a, o) ∈ ls → (a, o') ∈ ls → o = o') (hv : valueAt kvs k = some (.ref l)) :
    ∃ vs n, (l, W.listOf (List.toArray vs) n) ∈ ls ∧ IntsAre vs (idxs bs k) ∧ B2J (bs ++ [k]) kvs (upL l (W.listOf (vs.toArray.push (.int (bs.length : Int) t)) (n + 1)) ls) := by
  have hk : k ∈ bs := Classical.byContradiction fun h => by rw [(hB k).2 h] at hv; cases hv
  obtain ⟨l', vs, n, e1, e2, e3⟩ := (hB k).1 hk
  rw [hv] at e1
  cases e1
  refine ⟨vs, n, e2, e3, fun k2 => ⟨fun h2 => ?_, fun h2 => ?_⟩⟩
  · by_cases e : k = k2
    · subst e
      refine ⟨l, vs ++ [.int (bs.length : Int) t], n + 1, hv, ?_, ?_⟩
      · rw [show (vs ++ [Value.int (bs.length : Int) t]).toArray = vs.toArray.push (.int (bs.length : Int) t) by simp]
        exact mem_upL_self e2
      · rw [idxs_snoc, if_pos rfl]; exact e3.append (.cons _ _ .nil)
    · have hb : k2 ∈ bs := by
        rcases List.mem_append.mp h2 with h | h
        · exact h
        · exact absurd (List.mem_singleton.mp h).symm e
      obtain ⟨l2, vs2, n2, f1, f2, f3⟩ := (hB k2).1 hb
      refine ⟨l2, vs2, n2, f1, mem_upL_ne f2 fun el => ?_, by rw [idxs_snoc, if_neg e]; exact f3⟩
      have el' : l2 = l := el
      subst el'
      have := hf _ _ _ e2 f2
      have e4 : vs.toArray = vs2.toArray := by injection this with _ _ hd _; injection hd
      have e5 : vs = vs2 := by simpa using e4
      subst e5
      have hne : ∃ j, j ∈ idxs bs k := by
        obtain ⟨j, hj⟩ := List.mem_iff_getElem?.mp hk
        exact ⟨j, mem_idxs.mpr hj⟩
      obtain ⟨j, hj⟩ := hne
      have same : idxs bs k = idxs bs k2 := by
        have aux : ∀ {vs : List Value} {xs ys : List Int}, IntsAre vs xs → IntsAre vs ys → xs = ys := by
          intro vs xs ys a
          induction a generalizing ys with
          | nil => intro b; cases b; rfl
          | cons n t _ ih => intro b; cases b with | cons _ _ b => rw [ih b]
        exact aux e3 f3
      have j1 := (mem_idxs' hj).2
      have j2 := (mem_idxs' (same ▸ hj)).2
      rw [j1] at j2
      exact e (Option.some.inj j2)
  · exact (hB k2).2 fun h => h2 (List.mem_append_left _ h)
/-- .. it did not -/
theorem b2j_new {bs : List Int} {kvs : List (Int × Value)} {ls : List (Addr × Obj)} {k : Int} {l : Addr} {t : Tok} {n : Nat} (hB : B2J bs kvs ls) (hv : valueAt kvs k = none) :
    B2J (bs ++ [k]) (stored kvs k (.ref l)) ((l, W.listOf #[.int (bs.length : Int) t] n) :: ls) := by
  have hk : k ∉ bs := fun h => by obtain ⟨l', _, _, e, _⟩ := (hB k).1 h; rw [hv] at e; cases e
  have hst : ∀ k2, valueAt (stored kvs k (.ref l)) k2 = if k2 = k then some (.ref l) else valueAt kvs k2 := by
    intro k2
    have hany : ¬ (kvs.any fun kv => decide (kv.1 = k)) = true := fun h => by
      obtain ⟨kv, h1, h2⟩ := List.any_eq_true.mp h
      have : (kvs.find? fun kv => decide (kv.1 = k)) ≠ none := fun h => by
        have := List.find?_eq_none.mp h kv h1
        exact this h2
      unfold valueAt at hv
      cases e : kvs.find? fun kv => decide (kv.1 = k) with
      | none => exact this e
      | some _ => rw [e] at hv; cases hv
    unfold stored
    rw [if_neg hany]
    unfold valueAt
    rw [List.find?_append]
    by_cases e : k2 = k
    · subst e
      rw [if_pos rfl]
      have : (kvs.find? fun kv => decide (kv.1 = k2)) = none := by
        cases e : kvs.find? fun kv => decide (kv.1 = k2) with
        | none => rfl
        | some _ => unfold valueAt at hv; rw [e] at hv; cases hv
      rw [this]; simp
    · rw [if_neg e]
      have : ([(k, Value.ref l)].find? fun kv => decide (kv.1 = k2)) = none := by simp; exact fun h => e h.symm
      rw [this, Option.or_none]
  refine fun k2 => ⟨fun h2 => ?_, fun h2 => ?_⟩
  · by_cases e : k2 = k
    · subst e
      refine ⟨l, [.int (bs.length : Int) t], n, by rw [hst, if_pos rfl], .head _, ?_⟩
      rw [idxs_snoc, if_pos rfl, idxs_none hk]
      exact .cons _ _ .nil
    · have hb : k2 ∈ bs := by
        rcases List.mem_append.mp h2 with h | h
        · exact h
        · exact absurd (List.mem_singleton.mp h) e
      obtain ⟨l2, vs2, n2, f1, f2, f3⟩ := (hB k2).1 hb
      exact ⟨l2, vs2, n2, by rw [hst, if_neg e]; exact f1, .tail _ f2, by rw [idxs_snoc, if_neg (fun h => e h.symm)]; exact f3⟩
  · rw [hst, if_neg fun e => h2 (by rw [e]; simp)]
    exact (hB k2).2 fun h => h2 (List.mem_append_left _ h)
theorem stored_len {kvs : List (Int × Value)} {k : Int} {v : Value} : (stored kvs k v).length ≤ kvs.length + 1 := by
  unfold stored
  split
  · rw [List.length_map]; lia
  · rw [List.length_append]; simp
end
section
open PySem PySem.W PyProof.Rows PySem.Challenge
set_option Elab.async false
set_option maxRecDepth 100000
set_option maxHeartbeats 4000000
noncomputable abbrev en (w : World) (x : String) (t : Tok) (v : Value) : DictEntry := ⟨PyData.keyHash w.params (Str.ofString x), .str (Str.ofString x) t, v⟩
local macro_rules | `(tactic| k_upd) => `(tactic| first | exact Upd.head (by assumption) | (refine' Upd.tail (by lia) (by k_upd)))
local macro_rules | `(tactic| k_updF) => `(tactic| first | exact UpdF.head (by assumption) | (refine' UpdF.tail (by lia) (by k_updF)))
local macro_rules | `(tactic| walk_at "exec For Tuple Call") => `(tactic| (k_here; (rename Fr _ _ _ _ => lF'); (with_unfolding_all refine' For_turns lF' ?_; k_whole)))
local macro_rules | `(tactic| walk_at "call builtin:dict.setdefault") => `(tactic| refine halt ?_)
local macro_rules | `(tactic| walk_at "call builtin:list.append") => `(tactic| (k_here; k_dflt (refine' appendU (by k_asm) (by k_asm) (by k_mem) ?_ (by (first | (rw [List.size_toArray]; lia) | (show (0 : Nat) ≤ 100000; lia)))); intros; (try dsimp only)))
local macro_rules | `(tactic| walk_at "call type:enumerate") => `(tactic| refine halt ?_)
theorem allLt_to {d : Addr} : ∀ {l : List (Addr × Obj)}, AllLt d l → ∀ p ∈ l, p.1 < d
  | [], _, _, h => nomatch h
  | p :: r, h, q, hq => by
    rcases List.mem_cons.mp hq with rfl | hq
    · exact h.1
    · exact allLt_to h.2 q hq
theorem b2j_val {bs : List Int} {kvs : List (Int × Value)} {ls : List (Addr × Obj)} {k : Int} {v : Value} (hB : B2J bs kvs ls) (hv : valueAt kvs k = some v) : ∃ l, v = .ref l := by
  by_cases h : k ∈ bs
  · obtain ⟨l, _, _, e, _⟩ := (hB k).1 h
    rw [hv] at e
    exact ⟨l, Option.some.inj e⟩
  · rw [(hB k).2 h] at hv; cases hv
theorem idxs_len {bs : List Int} {k : Int} : (idxs bs k).length ≤ bs.length := by
  unfold idxs
  rw [List.length_map]
  exact Nat.le_trans (List.length_filter_le _ _) (by rw [List.length_range]; exact Nat.le_refl _)
theorem ne_of_in {l : List Str} {a z : Str} (h : l.contains z = false) (hm : a ∈ l) : z ≠ a := fun e => by subst e; rw [List.contains_iff_mem.mpr hm] at h; cases h
theorem take_snoc {bs : List Int} {i : Nat} (h : i < bs.length) : bs.take (i + 1) = bs.take i ++ [bs[i]] := by
  rw [List.take_add_one, List.getElem?_eq_getElem h]; rfl
theorem sub_up {D d l : Addr} {o od o1 O : Obj} {ls rest pre : List (Addr × Obj)} (hDl : D ≠ l) (hr : ∀ p ∈ (d, od) :: rest, p.1 ≠ l) (hm : (l, o1) ∈ ls) :
    ∀ p ∈ (D, o) :: (upL l O ls ++ (d, od) :: rest), p ∈ upL l O (pre ++ (D, o) :: (ls ++ (d, od) :: rest)) := by
  intro p hp
  rcases List.mem_cons.mp hp with rfl | hp
  · exact mem_upL_ne (List.mem_append_right _ (.head _)) hDl
  · rcases List.mem_append.mp hp with hp | hp
    · rcases upL_mem hp with rfl | ⟨hq, hne⟩
      · exact mem_upL_self (o' := o1) (List.mem_append_right _ (.tail _ (List.mem_append_left _ hm)))
      · exact mem_upL_ne (List.mem_append_right _ (.tail _ (List.mem_append_left _ hq))) hne
    · exact mem_upL_ne (List.mem_append_right _ (.tail _ (List.mem_append_right _ hp))) (hr p hp)
theorem off_up {D d l I : Addr} {o od O oe oi : Obj} {ls rest : List (Addr × Obj)} (hoff : ∀ p ∈ (D, o) :: (ls ++ (d, od) :: rest), p.1 ≠ I + 1 ∧ p.1 ≠ I) :
    ∀ p ∈ (D, o) :: (upL l O ls ++ (d, od) :: rest), ∀ q ∈ [(I + 1, oe), (I, oi)], p.1 ≠ q.1 := by
  have h : ∀ p ∈ (D, o) :: (upL l O ls ++ (d, od) :: rest), p.1 ≠ I + 1 ∧ p.1 ≠ I := by
    intro p hp
    rcases List.mem_cons.mp hp with rfl | hp
    · exact hoff (D, o) (.head _)
    · rcases List.mem_append.mp hp with hp | hp
      · obtain ⟨q, hq, e⟩ := upL_fst hp
        rw [← e]
        exact hoff q (.tail _ (List.mem_append_left _ hq))
      · exact hoff p (.tail _ (List.mem_append_right _ hp))
  intro p hp q hq
  rcases List.mem_cons.mp hq with rfl | hq
  · exact (h p hp).1
  · rw [List.mem_singleton.mp hq]; exact (h p hp).2
theorem off_new {D d l I : Addr} {o o' od O oe oi : Obj} {ls rest : List (Addr × Obj)} (h1 : I + 1 < l) (h2 : I < l) (hoff : ∀ p ∈ (D, o) :: (ls ++ (d, od) :: rest), p.1 ≠ I + 1 ∧ p.1 ≠ I) :
    ∀ p ∈ (D, o') :: ((l, O) :: ls ++ (d, od) :: rest), ∀ q ∈ [(I + 1, oe), (I, oi)], p.1 ≠ q.1 := by
  have h : ∀ p ∈ (D, o') :: ((l, O) :: ls ++ (d, od) :: rest), p.1 ≠ I + 1 ∧ p.1 ≠ I := by
    intro p hp
    rcases List.mem_cons.mp hp with rfl | hp
    · exact hoff (D, o) (.head _)
    · rcases List.mem_cons.mp hp with rfl | hp
      · exact ⟨Nat.ne_of_gt h1, Nat.ne_of_gt h2⟩
      · exact hoff p (.tail _ hp)
  intro p hp q hq
  rcases List.mem_cons.mp hq with rfl | hq
  · exact (h p hp).1
  · rw [List.mem_singleton.mp hq]; exact (h p hp).2
theorem kt_abs {M : Model} {A : Around} {t : PySem.Expr} {v : Value} {l : List Stmt} {env : Env} {Q : Flow → Shared → Prop} {E : Value → Shared → Prop} {s : Shared} (h : ∀ Q' : Flow → Shared → Prop, (∀ f s, Q f s → Q' f s) → wpAny M A (assign t env v) (fun _ s₂ => wpAny M A (execs l env) Q' E s₂) E s) : wpAny M A (assign t env v) (fun _ s₂ => wpAny M A (execs l env) Q E s₂) E s := h Q fun _ _ h => h
theorem chain_rest {w : World} {dp un : Nat} {fr : Option (List Env)} {gd : Option (List Code)} {g hp : Heap} {L : Addr} {rest : List (Addr × Obj)} {gs : Array GenState} {dr : Drawn} {tk0 : Nat} {os : OsState} {Q : Flow → Shared → Prop} {E : Value → Shared → Prop}
    {mean : ExcName → Option Value} {mg mb : Str → Option Value} {x d la lb D : Addr} {o0 : Obj} {vb : List Value} {nb : Nat} {bs : List Int} {t1 t2 t3 t4 t5 t6 t7 t8 : Tok}
    (F : Fr g L hp (fun y => if y = Str.ofString "b2j" then some (.ref D) else if y = Str.ofString "b" then some (.ref lb) else List.lookup y [(Str.ofString "self", .ref x)]))
    (N : News g L hp ((D, o0) :: (d, dictOf [en w "isjunk" t1 .none, en w "a" t2 (.ref la), en w "b" t3 (.ref lb), en w "autojunk" t4 (.bool true), en w "matching_blocks" t5 .none, en w "opcodes" t6 .none, en w "fullbcount" t7 .none, en w "b2j" t8 (.ref D)] 8) :: rest)) (T : Top q2 (looseW q2 loose2) mean mg mb g) (hE : PassesOwn (model rw_mu0013_02.row.prog w) ⟨none, dp, fr, gd, un⟩ (envOf (Str.ofString "SequenceMatcher.__chain_b") (scopeOf (sub 5 5)) L 188 (.ref 187)) E)
    (hD0 : o0.IsDictOf (intKind rw_mu0013_02.row.prog w) []) (hlo : (D == sysModules) = false) (hltD : ∀ p ∈ rest, p.1 < D) (hdD : d < D)
    (hx : (x, instObj 242 d) ∈ rest) (hlb : (lb, listOf vb.toArray nb) ∈ rest) (hdr : ∀ p ∈ rest, p.1 ≠ d) (hi : IntsAre vb bs) (hlen : bs.length < 200)
    (ret : ∀ h' tk' m' news' S1 S2 led t9 t10 kvs o ls, Fr g L h' m' → News g L h' news' → (d, dictOf [en w "isjunk" t1 .none, en w "a" t2 (.ref la), en w "b" t3 (.ref lb), en w "autojunk" t4 (.bool true), en w "matching_blocks" t5 .none, en w "opcodes" t6 .none, en w "fullbcount" t7 .none, en w "b2j" t8 (.ref D), en w "bjunk" t9 (.ref S1), en w "bpopular" t10 (.ref S2)] 10) ∈ news' → (S1, setE led) ∈ news' → (D, o) ∈ news' → (∀ p ∈ ls, p ∈ news') → (∀ p ∈ rest, p ∈ news') → o.IsDictOf (intKind rw_mu0013_02.row.prog w) kvs → B2J bs kvs ls → Q .next ⟨h', gs, dr, tk', os⟩) :
    (K2 w.params).In g → wpAny (model rw_mu0013_02.row.prog w) ⟨none, dp, fr, gd, un⟩ (execs ((bodyOf (sub 5 5)).drop 2) (envOf (Str.ofString "SequenceMatcher.__chain_b") (scopeOf (sub 5 5)) L 188 (.ref 187))) Q E ⟨hp, gs, dr, tk0, os⟩ := by
  w_on
  k_fill
  intro X
  have hb := Eq.refl ((bodyOf (sub 5 5)).drop 2)
  conv at hb => rhs; whnf
  rw [hb]
  clear hb
  have hvl := IntsAre.length hi
  w_strict (
    (have mk := kstMark)
    k_steps
    (unfold Halt)
    (rename Fr _ _ _ _ => F1)
    (rename News _ _ _ _ => N2)
    (refine' kt_enum (σ := List (Int × Value) × Obj × List (Addr × Obj)) (vs := vb) (nn := nb)
      (fun c : List (Int × Value) × Obj × List (Addr × Obj) => (D, c.2.1) :: (c.2.2 ++ (d, dictOf [en w "isjunk" t1 .none, en w "a" t2 (.ref la), en w "b" t3 (.ref lb), en w "autojunk" t4 (.bool true), en w "matching_blocks" t5 .none, en w "opcodes" t6 .none, en w "fullbcount" t7 .none, en w "b2j" t8 (.ref D)] 8) :: rest)) (fun _ => []) [Str.ofString "i", Str.ofString "elt", Str.ofString "indices"]
      (fun i (c : List (Int × Value) × Obj × List (Addr × Obj)) => c.2.1.IsDictOf (intKind rw_mu0013_02.row.prog w) c.1 ∧ B2J (bs.take i) c.1 c.2.2 ∧ c.1.length ≤ i ∧ ∀ p ∈ c.2.2, D < p.1) ([], o0, []) rfl ?zl F1 N2 ?zk ?zp ?zt ?zd)
    (case zl => exact fun c => .tail _ (List.mem_append_right _ (.tail _ hlb)))
    (case zk => exact List.forall_mem_nil _)
    (case zp => exact ⟨hD0, b2j_nil _, Nat.le_refl _, List.forall_mem_nil _⟩)
    (case zt =>
      rintro ⟨kvs, o, ls⟩ i xv T9 t u h tk I oe oi hxi hT9 ⟨hDo, hB, hkl, hls⟩ hoff F2 N3
      dsimp only at hDo hB hkl hls F2 N3 ⊢
      (have hil : i < bs.length := by rw [← hvl]; exact (List.getElem?_eq_some_iff.mp hxi).1)
      (obtain ⟨tb, hxb⟩ := hi.get i bs[i] (by simp [hil]))
      rw [hxi] at hxb
      cases hxb
      clear F1 N2
      (have hDI : D ≠ I + 1 ∧ D ≠ I := hoff (D, o) (.head _))
      refine' kt_abs ?_
      intro QO hQO
      k_steps
      (unfold Halt)
      (rename_i l0 h4 F4 N4 hl1)
      (have hDt : ∀ p ∈ ls ++ (d, dictOf [en w "isjunk" t1 .none, en w "a" t2 (.ref la), en w "b" t3 (.ref lb), en w "autojunk" t4 (.bool true), en w "matching_blocks" t5 .none, en w "opcodes" t6 .none, en w "fullbcount" t7 .none, en w "b2j" t8 (.ref D)] 8) :: rest, p.1 ≠ D := fun p hp => by
        rcases List.mem_append.mp hp with hp | hp
        · exact Nat.ne_of_gt (hls p hp)
        · rcases List.mem_cons.mp hp with rfl | hp
          · exact Nat.ne_of_lt hdD
          · exact Nat.ne_of_lt (hltD p hp))
      (have hl0 := allLt_to hl1.2.2.2)
      (have hI1 : I + 1 < l0 := hl1.1)
      (have hI2 : I < l0 := hl1.2.1)
      (have hlD0 : D < l0 := hl1.2.2.1)
      (have n1 : l0 ≠ D := Nat.ne_of_gt hl1.2.2.1)
      (have n2 : I + 1 ≠ D := fun e => hDI.1 e.symm)
      (have n3 : I ≠ D := fun e => hDI.2 e.symm)
      (have hfun : ∀ a o o', (a, o) ∈ ls → (a, o') ∈ ls → o = o' := fun a o o' h1 h2 => News.one N4 (a := a) (.tail _ (.tail _ (.tail _ (.tail _ (List.mem_append_left _ h1))))) (.tail _ (.tail _ (.tail _ (.tail _ (List.mem_append_left _ h2))))))
      (have hsn : bs.take (i + 1) = bs.take i ++ [bs[i]] := take_snoc hil)
      (have htl : (bs.take i).length = i := by rw [List.length_take]; lia)
      (refine' setDefault (kvs := kvs) F4 N4 (UpdF.tail n1 (UpdF.tail n2 (UpdF.tail n3 (UpdF.head hDt)))) hDo hlo (by lia) ?z1 ?z2)
      (case z1 =>
        intro v tk9 hv
        (obtain ⟨l, rfl⟩ := b2j_val hB hv)
        (obtain ⟨vs, n, hm, hI, hB2⟩ := b2j_there (t := t) hB hfun hv)
        rw [htl] at hB2
        (have hm4 := List.mem_cons_of_mem (l0, W.listOf #[] 0) (List.mem_cons_of_mem (I + 1, oe) (List.mem_cons_of_mem (I, oi) (List.mem_cons_of_mem (D, o) (List.mem_append_left ((d, dictOf [en w "isjunk" t1 .none, en w "a" t2 (.ref la), en w "b" t3 (.ref lb), en w "autojunk" t4 (.bool true), en w "matching_blocks" t5 .none, en w "opcodes" t6 .none, en w "fullbcount" t7 .none, en w "b2j" t8 (.ref D)] 8) :: rest) hm)))))
        (have hvl2 : vs.length ≤ 1000 := by rw [hI.length]; exact Nat.le_trans idxs_len (by lia))
        clear hl1
        k_steps
        (rename Fr _ _ _ _ => F9)
        (rename News _ _ _ _ => N9)
        (have hlD : D < l := hls _ hm)
        (have hlI := hoff (l, W.listOf vs.toArray n) (.tail _ (List.mem_append_left _ hm)))
        (have hrl : ∀ p ∈ (d, dictOf [en w "isjunk" t1 .none, en w "a" t2 (.ref la), en w "b" t3 (.ref lb), en w "autojunk" t4 (.bool true), en w "matching_blocks" t5 .none, en w "opcodes" t6 .none, en w "fullbcount" t7 .none, en w "b2j" t8 (.ref D)] 8) :: rest, p.1 ≠ l := fun p hp => by
          rcases List.mem_cons.mp hp with rfl | hp
          · exact Nat.ne_of_lt (Nat.lt_trans hdD hlD)
          · exact Nat.ne_of_lt (Nat.lt_trans (hltD p hp) hlD))
        (refine' hQO _ _ ?_)
        (dsimp only [KtPost])
        (refine' kt_end ((kvs, o, upL l (W.listOf (vs.toArray.push (.int (i : Int) t)) (n + 1)) ls) : List (Int × Value) × Obj × List (Addr × Obj)) F9 N9 ?a1 ?a2 ?a3 ?a4 ?a5 ?a6)
        (case a1 => exact sub_up (pre := [(l0, W.listOf #[] 0), (I + 1, oe), (I, oi)]) (Nat.ne_of_lt hlD) hrl hm)
        (case a2 => exact List.forall_mem_cons.mpr ⟨mem_upL_ne (.tail _ (.head _)) fun e => hlI.1 e.symm, List.forall_mem_cons.mpr ⟨mem_upL_ne (.tail _ (.tail _ (.head _))) fun e => hlI.2 e.symm, List.forall_mem_nil _⟩⟩)
        (case a3 => exact off_up (o := o) (O := W.listOf (vs.toArray.push (.int (i : Int) t)) (n + 1)) (l := l) hoff)
        (case a4 => exact List.forall_mem_nil _)
        (case a5 =>
          intro z _ h3
          rw [if_neg (ne_of_in h3 (.tail _ (.tail _ (.head _)))), if_neg (ne_of_in h3 (.tail _ (.head _))), if_neg (ne_of_in h3 (.head _))]
          exact off_ps (ps := []) (List.forall_mem_nil _) h3)
        (case a6 => exact ⟨hDo, by rw [hsn]; exact hB2, by dsimp only; lia, fun p hp => by
          obtain ⟨q, hq, e⟩ := upL_fst hp
          rw [← e]; exact hls q hq⟩))
      (case z2 =>
        intro h9 o9 tk9 hv F5 N5 hD9
        (try dsimp only at N5)
        (have hB2 := b2j_new (l := l0) (t := t) (n := 0 + 1) hB hv)
        rw [htl] at hB2
        clear hl1 N4 F4
        k_steps
        (rename Fr _ _ _ _ => F9)
        (rename News _ _ _ _ => N9)
        (refine' hQO _ _ ?_)
        (dsimp only [KtPost])
        (refine' kt_end ((stored kvs bs[i] (.ref l0), o9, (l0, W.listOf #[.int (i : Int) t] (0 + 1)) :: ls) : List (Int × Value) × Obj × List (Addr × Obj)) F9 N9 ?a1 ?a2 ?a3 ?a4 ?a5 ?a6)
        (case a1 =>
          intro p hp
          rcases List.mem_cons.mp hp with rfl | hp
          · exact mem_upL_ne (.tail _ (.tail _ (.tail _ (.head _)))) (fun e => n1 e.symm)
          · rcases List.mem_cons.mp hp with rfl | hp
            · exact mem_upL_self (.head _)
            · exact mem_upL_ne (.tail _ (.tail _ (.tail _ (.tail _ hp)))) (Nat.ne_of_lt (hl0 p hp)))
        (case a2 => exact List.forall_mem_cons.mpr ⟨mem_upL_ne (.tail _ (.head _)) (Nat.ne_of_lt hI1), List.forall_mem_cons.mpr ⟨mem_upL_ne (.tail _ (.tail _ (.head _))) (Nat.ne_of_lt hI2), List.forall_mem_nil _⟩⟩)
        (case a3 => exact off_new hI1 hI2 hoff)
        (case a4 => exact List.forall_mem_nil _)
        (case a5 =>
          intro z _ h3
          rw [if_neg (ne_of_in h3 (.tail _ (.tail _ (.head _)))), if_neg (ne_of_in h3 (.tail _ (.head _))), if_neg (ne_of_in h3 (.head _))]
          exact off_ps (ps := []) (List.forall_mem_nil _) h3)
        (case a6 => exact ⟨hD9, by rw [hsn]; exact hB2, Nat.le_trans stored_len (by lia), List.forall_mem_cons.mpr ⟨hlD0, hls⟩⟩)))
    (case zd =>
      rintro ⟨kvs, o, ls⟩ u h tk ⟨hDo, hB, hkl, hls⟩ F2 N3
      dsimp only at hDo hB hkl hls F2 N3 ⊢
      clear F1 N2
      rw [List.take_of_length_le (by lia)] at hB
      (obtain ⟨rest2, hx2, hlb2, hdr2, hDm, hlsm, hrm, N4⟩ : ∃ rest2 : List (Addr × Obj), (x, instObj 242 d) ∈ rest2 ∧ (lb, listOf vb.toArray nb) ∈ rest2 ∧ (∀ p ∈ rest2, p.1 ≠ d) ∧ (D, o) ∈ rest2 ∧ (∀ p ∈ ls, p ∈ rest2) ∧ (∀ p ∈ rest, p ∈ rest2) ∧ News g L h ((d, dictOf [en w "isjunk" t1 .none, en w "a" t2 (.ref la), en w "b" t3 (.ref lb), en w "autojunk" t4 (.bool true), en w "matching_blocks" t5 .none, en w "opcodes" t6 .none, en w "fullbcount" t7 .none, en w "b2j" t8 (.ref D)] 8) :: rest2) :=
        ⟨(D, o) :: (ls ++ rest), .tail _ (List.mem_append_right _ hx), .tail _ (List.mem_append_right _ hlb), (fun p hp => by
          rcases List.mem_cons.mp hp with rfl | hp
          · exact Nat.ne_of_gt hdD
          · rcases List.mem_append.mp hp with hp | hp
            · exact Nat.ne_of_gt (Nat.lt_trans hdD (hls p hp))
            · exact hdr p hp), .head _, (fun p hp => .tail _ (List.mem_append_left _ hp)), (fun p hp => .tail _ (List.mem_append_right _ hp)), fun p hp => N3 p (by
          rcases List.mem_cons.mp hp with rfl | hp
          · exact .tail _ (List.mem_append_right _ (.head _))
          · rcases List.mem_cons.mp hp with rfl | hp
            · exact .head _
            · rcases List.mem_append.mp hp with hp | hp
              · exact .tail _ (List.mem_append_left _ hp)
              · exact .tail _ (List.mem_append_right _ (.tail _ hp)))⟩)
      clear N3 hx hlb hdr
      k_steps
      (rename Fr _ _ _ _ => F9)
      (rename News _ _ _ _ => N9)
      (refine' ret _ _ _ _ _ _ _ _ _ kvs o ls F9 N9 ?b1 ?b2 ?b3 ?b4 ?b5 hDo hB)
      (case b1 => k_mem)
      (case b2 => k_mem)
      (case b3 => k_mem)
      (case b4 => exact fun p hp => .tail _ (.tail _ (.tail _ (hlsm p hp))))
      (case b5 => exact fun p hp => .tail _ (.tail _ (.tail _ (hrm p hp))))))
section
local macro_rules | `(tactic| walk_at "execs cons") => `(tactic| ((with_reducible show wpAny _ _ (execs [_, _, _, _, _, _, _] _) _ _ _); refine halt ?_))
theorem chain_tells {w : World} {dp un : Nat} {gd : Option (List Code)} {cn : Str} {cs : Scope} {a : Addr} {ccd : Value} {cl : List (Str × Addr)} {outer : List Env} {A₀ : Around} {base h₀ : Heap} {L : Addr} {m : Str → Option Value} {rest : List (Addr × Obj)} {s : Shared}
    {mean : ExcName → Option Value} {mg mb : Str → Option Value} {x d la lb : Addr} {vb : List Value} {nb : Nat} {bs : List Int} {t1 t2 t3 t4 t5 t6 t7 : Tok} {Q E : Value → Shared → Prop}
    (B : Below A₀ base outer h₀) (F : Fr h₀ L s.heap m) (N : News h₀ L s.heap ((d, dictOf [en w "isjunk" t1 .none, en w "a" t2 (.ref la), en w "b" t3 (.ref lb), en w "autojunk" t4 (.bool true), en w "matching_blocks" t5 .none, en w "opcodes" t6 .none, en w "fullbcount" t7 .none] 7) :: rest)) (T : Top q2 (looseW q2 loose2) mean mg mb h₀) (hk : cs.kind = .function)
    (hx : (x, instObj 242 d) ∈ rest) (hlb : (lb, listOf vb.toArray nb) ∈ rest) (hdr : ∀ p ∈ rest, p.1 ≠ d) (hi : IntsAre vb bs) (hlen : bs.length < 200) (hd : dp + 20 < recursionLimit) (hu : un + 200 < cLine)
    (ret : ∀ h' tk' news' D S1 S2 led t8 t9 t10 kvs o ls, Fr h₀ L h' m → News h₀ L h' news' → (d, dictOf [en w "isjunk" t1 .none, en w "a" t2 (.ref la), en w "b" t3 (.ref lb), en w "autojunk" t4 (.bool true), en w "matching_blocks" t5 .none, en w "opcodes" t6 .none, en w "fullbcount" t7 .none, en w "b2j" t8 (.ref D), en w "bjunk" t9 (.ref S1), en w "bpopular" t10 (.ref S2)] 10) ∈ news' → (S1, setE led) ∈ news' → (D, o) ∈ news' → (∀ p ∈ ls, p ∈ news') → (∀ p ∈ rest, p ∈ news') → o.IsDictOf (intKind rw_mu0013_02.row.prog w) kvs → (D == sysModules) = false → B2J bs kvs ls → Q .none { s with heap := h', toks := tk' }) :
    (K2 w.params).In h₀ → wpAny (model rw_mu0013_02.row.prog w) (ktrTop dp un gd cn cs L a ccd cl outer) (call (.ref 188) [.ref x]) Q E s := by
  w_on
  k_fill
  intro X
  obtain ⟨ck, cnm, cig, cic, cmo⟩ := cs
  change ck = _ at hk
  subst hk
  refine wpAny_call ?_
  w_strict (
    k_dflt k_enter
    (have hb := Eq.refl (bodyOf (sub 5 5)))
    (conv at hb => rhs; whnf)
    rw [hb]
    clear hb
    (have mk := kstMark)
    (have hvl := IntsAre.length hi)
    (rename Fr _ _ _ _ => F1)
    (have F3 : Fr _ _ _ (fun y => List.lookup y [(Str.ofString "self", Value.ref x)]) := F1)
    (clear F1)
    k_steps
    (unfold Halt)
    (rename Fr _ _ _ _ => F9)
    (rename News _ _ _ _ => N9)
    (rename _ ∧ AllLt _ _ => hAll)
    (refine' chain_rest F9 N9 ?b1 ?b2 ?b3 ?b4 (allLt_to hAll.2) hAll.1 hx hlb hdr hi hlen ?b5 ?b6)
    (case b1 => assumption)
    (case b2 => passes_own)
    (case b3 => assumption)
    (case b4 => assumption)
    (case b6 => assumption)
    (intro h' tk' m' news' S1 S2 led t9 t10 kvs o ls F' N' c1 c2 c3 c4 c5 c6 c7
     refine leaveK_ F' N' fun FL NL => ?_
     exact ret h' tk' news' _ S1 S2 led _ t9 t10 kvs o ls FL NL c1 c2 c3 c4 c5 c6 (by assumption) c7))
end
end
section
open PySem PySem.W PyProof.Rows PySem.Challenge
set_option Elab.async false
set_option maxRecDepth 100000
set_option maxHeartbeats 4000000
theorem news_swap {h₀ h : Heap} {L : Addr} {p q : Addr × Obj} {r : List (Addr × Obj)} (N : News h₀ L h (p :: q :: r)) : News h₀ L h (q :: p :: r) := fun x hx => N x (by
  rcases List.mem_cons.mp hx with rfl | hx
  · exact .tail _ (.head _)
  · rcases List.mem_cons.mp hx with rfl | hx
    · exact .head _
    · exact .tail _ (.tail _ hx))
end
section
open PySem PySem.W PyProof.Rows PySem.Challenge PySem.Spec PySem.Calls Builtin
set_option Elab.async false
set_option maxRecDepth 100000
set_option maxHeartbeats 4000000
theorem kind_tn : builtinKind "tuple.__new__" = some .builtinFn := by decide +kernel
theorem split_tn : splitId "tuple.__new__" = some ("tuple", "__new__") := by decide +kernel
theorem collectT {prog : Program} {w : World} {A : Around} {E : Value → Shared → Prop} {Q : List Value → Shared → Prop} {hp : Heap} {gs : Array GenState} {dr : Drawn} {tk : Nat} {os : OsState} {q : Addr} {i j k : Value}
    (ht : hp.get? q = some { cls := .type "tuple", data := .seq #[i, j, k] }) (h : ∀ h', (∀ b o', hp.get? b = some o' → h'.get? b = some o') → Q [i, j, k] ⟨h', gs, dr, tk, os⟩) : wpAny (model prog w) A (collect (.ref q)) Q E ⟨hp, gs, dr, tk, os⟩ :=
  wpAny_collect_seq (s := ⟨hp, gs, dr, tk, os⟩) q (T := "tuple") (.inr rfl) ht rfl rfl (fun h' hk => h h' hk) (by show 3 ≤ sizeLine; rw [sizeLine_eq]; lia)
theorem match_new {w : World} {A : Around} {E : Value → Shared → Prop} {Q : Value → Shared → Prop} {hp : Heap} {gs : Array GenState} {dr : Drawn} {tk : Nat} {os : OsState} {q : Addr} {i j k : Value}
   (ht : hp.get? q = some { cls := .type "tuple", data := .seq #[i, j, k] })
   (h : ∀ h9 : Heap, (∀ b o', hp.get? b = some o' → h9.get? b = some o') → Q (.ref (h9.objs.size + 1)) ⟨(h9.push { cls := .type "dict", data := .dict #[] }).push { cls := .ref 135, dict := some h9.objs.size, data := .seq #[i, j, k] }, gs, dr, tk, os⟩) :
   (K2 w.params).In hp → wpAny (model rw_mu0013_02.row.prog w) A (call (.builtin "tuple.__new__") [.ref 135, .ref q]) Q E ⟨hp, gs, dr, tk, os⟩ := by
  w_on
  k_fill
  intro X
  have f1 : Looks (model rw_mu0013_02.row.prog w) hp (typeLookup (.ref 135) "__init__") (some (.builtin "object.__init__")) := looks_findIn X (by k_is)
  have f2 : Looks (model rw_mu0013_02.row.prog w) hp (isSubtype (.ref 135) (.type "tuple")) true := looks_subIn X (by k_is)
  have f3 : Looks (model rw_mu0013_02.row.prog w) hp (typeOf (.ref 135)) (.type "type") := looks_typeIn X (by k_is)
  have f4 : Looks (model rw_mu0013_02.row.prog w) hp (Bind.madeBy (.type "tuple")) (some "tuple.__new__") := Looks.of_pure F.called_tuple.made
  have h135 := X 135 _ (by k_is)
  unfold ob135 at h135
  refine wpAny_call (codeAny_call_builtin (by decide +kernel) F.entry_tuple_new ?_)
  unfold checkBuiltinCall
  simp only [kind_tn, split_tn]
  repeat (first | ((with_reducible refine collectT ht ?_); intro h9 k9) | lk)
  have h9p : ∀ o, (h9.push o).get? 135 = _ := fun o => Heap.get?_push_of_some o (k9 _ _ h135)
  have h9q : ∀ o o', ((h9.push o).push o').get? 135 = _ := fun o o' => Heap.get?_push_of_some o' (Heap.get?_push_of_some o (k9 _ _ h135))
  repeat (first | lk | (refine nd_load (h9p _) ?_; try dsimp only) | (refine nd_load (h9q _ _) ?_; try dsimp only))
  rw [Heap.size_push]
  exact h h9 k9
theorem new_attr {w : World} {A : Around} {E : Value → Shared → Prop} {Q : Value → Shared → Prop} {hp : Heap} {gs : Array GenState} {dr : Drawn} {tk : Nat} {os : OsState} (h : Q (.ref 82) ⟨hp, gs, dr, tk + 1, os⟩) :
   (K2 w.params).In hp → wpAny (model rw_mu0013_02.row.prog w) A (getAttr (.ref 135) "__new__" false) Q E ⟨hp, gs, dr, tk, os⟩ := by
  w_on
  k_fill
  intro X
  refine' cls_bind (mc := .type "type") (s := ⟨hp, gs, dr, tk, os⟩) X ?zr ?ze (wpAny_call (sm_get (s := ⟨hp, gs, dr, tk + 1, os⟩) X ?zp (handed_on ?zh h)))
  (case zr => k_is)
  (case ze => k_is)
  (case zp => k_is)
  (case zh => k_handed)
theorem oi_args4 (a b c d : Value) : argsOk "object.__init__" ⟨[a, b, c, d], []⟩ := by unfold argsOk; kernel_rfl
theorem match_call {w : World} {A : Around} {R : Result → Shared → Prop} {hp : Heap} {gs : Array GenState} {dr : Drawn} {tk : Nat} {os : OsState} {i j k : Value} 
   (hq : codeAny (model rw_mu0013_02.row.prog w) (A.under (.builtin "type.__call__" ⟨[.ref 135, i, j, k], []⟩)) (.call (.ref 82) ⟨[.ref 135, i, j, k], []⟩)
     (fun r s' => match r with
       | .ok (.ret v) => ∃ q dd, v = .ref q ∧ (K2 w.params).In s'.heap ∧ s'.heap.get? q = some { cls := .ref 135, dict := some dd, data := .seq #[i, j, k] } ∧ R (.ok (.ret (.ref q))) s'
       | .ok _ => False
       | .error e => R (.error e) s') ⟨hp, gs, dr, tk + 1, os⟩) :
   (K2 w.params).In hp → codeAny (model rw_mu0013_02.row.prog w) A (.call (.ref 135) ⟨[i, j, k], []⟩) R ⟨hp, gs, dr, tk, os⟩ := by
  w_on
  k_fill
  intro X
  have f1 : Looks (model rw_mu0013_02.row.prog w) hp (typeLookup (.ref 135) "__init__") (some (.builtin "object.__init__")) := looks_findIn X (by k_is)
  have f3 : Looks (model rw_mu0013_02.row.prog w) hp (typeOf (.ref 135)) (.type "type") := looks_typeIn X (by k_is)
  have f5 : Looks (model rw_mu0013_02.row.prog w) hp (specialOf (.ref 135) "__call__") (some (.builtin "type.__call__")) := looks_specialIn X (by k_is)
  have f6 : Looks (model rw_mu0013_02.row.prog w) hp (isInstance (.ref 135) (.type "type")) true := looks_instIn X (by k_is)
  have h135 := X 135 _ (by k_is)
  unfold ob135 at h135
  refine codeAny_of_tree ?_
  show wpAny _ _ (callAny (.ref 135) _) _ _ _
  refine nd_load h135 ?_
  show wpAny _ _ (callAny.viaDunder (.ref 135) _) _ _ _
  unfold callAny.viaDunder
  refine wpAny_bind (f5.at ?_)
  dsimp only
  rw [tc_bind]
  refine wpAny_bind (wpAny_pure (wpAny_bind (wpAny_pure ?_)))
  refine wpAny_pure (a := Fin.again (.call (.builtin "type.__call__") ⟨[.ref 135, i, j, k], []⟩)) (And.intro rfl ?_)
  refine codeAny_call_builtin_at (Code.quiet_builtin _ (by decide +kernel)) entry_typeCall (check_slot tc_kind tc_split f6 (tc_args _ _ _) ?_)
  unfold Builtin.«type.__call__»
  have f7 : Looks (model rw_mu0013_02.row.prog w) hp (Bind.madeBy (.ref 135)) none := by
    intro A Q E s k q
    obtain ⟨h', g', d', t', o'⟩ := s
    have h135' := k _ _ h135
    repeat lk
    exact q
  repeat (first | ((with_reducible refine new_attr ?_ X)) | with_reducible refine wpAny_call ?_ | lk)
  refine codeAny_mono hq fun r s' z => ?_
  rcases r with e | (v | _ | _ | _) <;> first | exact z | exact z.elim | skip
  obtain ⟨q, dd, rfl, X', hm, z⟩ := z
  obtain ⟨h2, g2, d2, t2, o2⟩ := s'
  dsimp only at hm X' ⊢
  have k1 : Looks (model rw_mu0013_02.row.prog w) h2 (typeOf (.ref q)) (.ref 135) := (Looks.ld hm).andThen .now
  have k2 : Looks (model rw_mu0013_02.row.prog w) h2 (isSubtype (.ref 135) (.ref 135)) true := looks_subIn X' (by k_is)
  have k3 : Looks (model rw_mu0013_02.row.prog w) h2 (typeLookup (.ref 135) "__init__") (some (.builtin "object.__init__")) := looks_findIn X' (by k_is)
  have k5 : Looks (model rw_mu0013_02.row.prog w) h2 (bindSpecial (.builtin "object.__init__") (.ref q)) (.builtin "object.__init__", [.ref q]) := Looks.of_pure (oi_bind _)
  have k6 : Looks (model rw_mu0013_02.row.prog w) h2 (isSubtype (.ref 135) (.type "object")) true := looks_subIn X' (by k_is)
  have k7 : Looks (model rw_mu0013_02.row.prog w) h2 (isInstance (.ref q) (.type "object")) true := k1.andThen k6
  unfold isInstance callSpecial? specialOf
  repeat (first | with_reducible refine wpAny_call ?_ | lk)
  have h135' := X' 135 _ (by k_is)
  unfold ob135 at h135'
  have k8 : Looks (model rw_mu0013_02.row.prog w) h2 (Bind.madeBy (.ref 135)) none := by
    intro A Q E s k q
    obtain ⟨h', g', d', t', o'⟩ := s
    have h135'' := k _ _ h135'
    repeat lk
    exact q
  refine codeAny_call_builtin oi_plain entry_oi (check_slot (rest := [i, j, k]) oi_kind oi_split k7 (oi_args4 _ _ _ _) ?_)
  unfold Builtin.«object.__init__»
  repeat lk
  exact z
/-- a Match -/
noncomputable abbrev matchObj (dd : Addr) (i j k : Value) : Obj := { cls := .ref 135, dict := some dd, data := .seq #[i, j, k] }
end
section
open PySem PySem.W PyProof.Rows PySem.Challenge
set_option Elab.async false
set_option maxRecDepth 100000
set_option maxHeartbeats 4000000
section
variable {w : World} {A : Around} {E : Value → Shared → Prop} {Q : Value → Shared → Prop} {hp h₀ : Heap} {gs : Array GenState} {dr : Drawn} {tk : Nat} {os : OsState} {q L : Addr} {m : Str → Option Value} {news : List (Addr × Obj)} {i j k : Value}
theorem matchNew (F : Fr h₀ L hp m) (N : News h₀ L hp news) (hq : (q, ({ cls := .type "tuple", data := .seq #[i, j, k] } : Obj)) ∈ news)
    (h : ∀ r dd h' , Fr h₀ L h' m → News h₀ L h' ((r, matchObj dd i j k) :: news) → (∀ p ∈ news, p.1 < r) → Q (.ref r) ⟨h', gs, dr, tk, os⟩) (X : (K2 w.params).In h₀) :
    wpAny (model rw_mu0013_02.row.prog w) A (call (.builtin "tuple.__new__") [.ref 135, .ref q]) Q E ⟨hp, gs, dr, tk, os⟩ := by
  refine match_new (N _ hq).1 (fun h9 k9 => ?_) (X.keeps F.keep)
  have F9 : Fr h₀ L h9 m := F.keeps k9
  have N9 : News h₀ L h9 news := N.grown k9
  have N10 := (N9.push F9 { cls := .type "dict", data := .dict #[] }).push (F9.push _) (matchObj h9.objs.size i j k)
  rw [Heap.size_push] at N10
  refine h (h9.objs.size + 1) h9.objs.size _ ((F9.push _).push _) (fun p hp => N10 p ?_) fun p hp => Nat.lt_succ_of_lt (Heap.lt_size (N9 p hp).1)
  rcases List.mem_cons.mp hp with rfl | hp
  · exact .head _
  · exact .tail _ (.tail _ hp)
end
theorem meta_tuple : typeOf (.type "tuple") = pure (.type "type") := by kernel_rfl
end
local macro_rules | `(tactic| walk_at "getMethod type:tuple") => `(tactic| (k_here; refine' method_type (by k_asm) (by k_asm) (by exact meta_tuple) (by decide +kernel) (by k_dflt k_is) (by k_handed) ?_))
section
open PySem PySem.W PyProof.Rows PySem.Challenge
set_option Elab.async false
set_option maxRecDepth 100000
set_option maxHeartbeats 4000000
end
local macro_rules | `(tactic| walk_at "call builtin:tuple.__new__") => `(tactic| (k_here; k_dflt (refine' matchNew (by k_asm) (by k_asm) (by k_mem) ?_ (by k_asm)); intros))
section
open PySem PySem.W PyProof.Rows PySem.Challenge
set_option Elab.async false
set_option maxRecDepth 100000
set_option maxHeartbeats 4000000
local macro_rules | `(tactic| walk_at "LeaveK") => `(tactic| refine halt ?_)
theorem match_tells {w : World} {dp un : Nat} {gd : Option (List Code)} {cn : Str} {cs : Scope} {a : Addr} {ccd : Value} {cl : List (Str × Addr)} {outer : List Env} {A₀ : Around} {base h₀ : Heap} {L : Addr} {m : Str → Option Value} {news : List (Addr × Obj)} {s : Shared}
    {mean : ExcName → Option Value} {mg mb : Str → Option Value} {i j k : Int} {ti tj tk : Tok} {Q E : Value → Shared → Prop}
    (B : Below A₀ base outer h₀) (F : Fr h₀ L s.heap m) (N : News h₀ L s.heap news) (T : Top q2 (looseW q2 loose2) mean mg mb h₀) (hk : cs.kind = .function) (hd : dp + 20 < recursionLimit) (hu : un + 200 < cLine)
    (ret : ∀ r dd h' tk', Fr h₀ L h' m → News h₀ L h' ((r, matchObj dd (.int i ti) (.int j tj) (.int k tk)) :: news) → (∀ p ∈ news, p.1 < r) → Q (.ref r) { s with heap := h', toks := tk' }) :
    (K2 w.params).In h₀ → wpAny (model rw_mu0013_02.row.prog w) (ktrTop dp un gd cn cs L a ccd cl outer) (call (.ref 135) [.int i ti, .int j tj, .int k tk]) Q E s := by
  w_on
  k_fill
  intro X
  obtain ⟨ck, cnm, cig, cic, cmo⟩ := cs
  change ck = _ at hk
  subst hk
  obtain ⟨hp, gs, dr, tk0, os⟩ := s
  refine wpAny_call (match_call ?_ (X.keeps F.keep))
  w_strict (
    k_dflt k_enter
    (have mk := kstMark)
    k_steps
    (unfold Halt)
    (rename_i r9 dd9 h9 F9 N9 l9)
    (refine leaveK_ F9 N9 fun FL NL => ?_)
    exact ⟨_, _, rfl, X.keeps FL.keep, (NL _ (.head _)).1, ret _ _ _ _ FL (fun p hp => NL p (by
      rcases List.mem_cons.mp hp with rfl | hp
      · exact .head _
      · exact .tail _ (.tail _ hp))) fun p hp => l9 p (.tail _ hp)⟩)
end
section
open PySem PySem.W PyProof.Rows PySem.Challenge
set_option maxRecDepth 100000
open Classical in
/-- the longest run of matches that ends ahead of (i, j), within the rectangle -/
noncomputable def rn (M : Nat → Nat → Prop) (alo blo : Nat) : Nat → Nat → Nat
  | 0, _ => 0
  | _ + 1, 0 => 0
  | i + 1, j + 1 => if alo ≤ i ∧ blo ≤ j ∧ M i j then rn M alo blo i j + 1 else 0
section
variable {M : Nat → Nat → Prop} {alo blo : Nat}
theorem rn_hit {i j : Nat} (h1 : alo ≤ i) (h2 : blo ≤ j) (h : M i j) : rn M alo blo (i + 1) (j + 1) = rn M alo blo i j + 1 := if_pos ⟨h1, h2, h⟩
theorem rn_miss {i j : Nat} (h : ¬ M i j) : rn M alo blo (i + 1) (j + 1) = 0 := if_neg fun x => h x.2.2
theorem rn_low : ∀ {i j : Nat}, i ≤ alo → rn M alo blo i j = 0
  | 0, _, _ => by unfold rn; rfl
  | _ + 1, 0, _ => by unfold rn; rfl
  | i + 1, j + 1, h => if_neg fun x => absurd x.1 (by lia)
theorem rn_left : ∀ {i j : Nat}, j ≤ blo → rn M alo blo i j = 0
  | 0, _, _ => by unfold rn; rfl
  | _ + 1, 0, _ => by unfold rn; rfl
  | i + 1, j + 1, h => if_neg fun x => absurd x.2.1 (by lia)
theorem rn_block : ∀ {i j : Nat}, alo ≤ i → blo ≤ j → alo + rn M alo blo i j ≤ i ∧ blo + rn M alo blo i j ≤ j ∧ Block M (i - rn M alo blo i j) (j - rn M alo blo i j) (rn M alo blo i j)
  | 0, j, h1, h2 => by
    rw [show rn M alo blo 0 j = 0 by unfold rn; rfl]
    exact ⟨h1, h2, fun t ht => absurd ht (Nat.not_lt_zero _)⟩
  | i + 1, 0, h1, h2 => by
    rw [show rn M alo blo (i + 1) 0 = 0 by unfold rn; rfl]
    exact ⟨h1, h2, fun t ht => absurd ht (Nat.not_lt_zero _)⟩
  | i + 1, j + 1, h1, h2 => by
    by_cases h : alo ≤ i ∧ blo ≤ j ∧ M i j
    · obtain ⟨a, b, c⟩ := rn_block (i := i) (j := j) h.1 h.2.1
      rw [rn_hit h.1 h.2.1 h.2.2]
      refine ⟨by lia, by lia, fun t ht => ?_⟩
      rw [show i + 1 - (rn M alo blo i j + 1) = i - rn M alo blo i j by lia, show j + 1 - (rn M alo blo i j + 1) = j - rn M alo blo i j by lia]
      by_cases e : t < rn M alo blo i j
      · exact c t e
      · rw [show i - rn M alo blo i j + t = i by lia, show j - rn M alo blo i j + t = j by lia]
        exact h.2.2
    · rw [show rn M alo blo (i + 1) (j + 1) = 0 from if_neg h]
      exact ⟨h1, h2, fun t ht => absurd ht (Nat.not_lt_zero _)⟩
theorem rn_most {i j : Nat} : ∀ {k : Nat}, alo ≤ i → blo ≤ j → Block M i j k → k ≤ rn M alo blo (i + k) (j + k)
  | 0, _, _, _ => Nat.zero_le _
  | k + 1, h1, h2, h => by
    rw [← Nat.add_assoc, ← Nat.add_assoc, rn_hit (by lia) (by lia) (h k (Nat.lt_succ_self _))]
    exact Nat.succ_le_succ (rn_most h1 h2 fun t ht => h t (by lia))
end
/-- what the search has so far: a block of size k within the rectangle, and no run among those seen is longer -/
structure Best (M : Nat → Nat → Prop) (alo ahi blo bhi : Nat) (seen : Nat → Nat → Prop) (i j k : Nat) : Prop where
  a1 : alo ≤ i
  a2 : i + k ≤ ahi
  b1 : blo ≤ j
  b2 : j + k ≤ bhi
  blk : Block M i j k
  top : ∀ x y, alo ≤ x → x < ahi → blo ≤ y → y < bhi → seen x y → rn M alo blo (x + 1) (y + 1) ≤ k
theorem Best.start {M : Nat → Nat → Prop} {alo ahi blo bhi : Nat} (h1 : alo ≤ ahi) (h2 : blo ≤ bhi) : Best M alo ahi blo bhi (fun x _ => x < alo) alo blo 0 :=
  ⟨Nat.le_refl _, h1, Nat.le_refl _, h2, fun t ht => absurd ht (Nat.not_lt_zero _), fun x y a _ _ _ d => absurd d (by lia)⟩
theorem Best.mono {M : Nat → Nat → Prop} {alo ahi blo bhi i j k : Nat} {s s' : Nat → Nat → Prop} (h : Best M alo ahi blo bhi s i j k)
    (hs : ∀ x y, alo ≤ x → x < ahi → blo ≤ y → y < bhi → s' x y → s x y ∨ ¬ M x y) : Best M alo ahi blo bhi s' i j k :=
  ⟨h.a1, h.a2, h.b1, h.b2, h.blk, fun x y a b c d e => (hs x y a b c d e).elim (h.top x y a b c d) fun n => by rw [rn_miss n]; exact Nat.zero_le _⟩
/-- one more place: not longer -/
theorem Best.keep {M : Nat → Nat → Prop} {alo ahi blo bhi i j k x y : Nat} {s : Nat → Nat → Prop} (h : Best M alo ahi blo bhi s i j k) (hk : rn M alo blo (x + 1) (y + 1) ≤ k) :
    Best M alo ahi blo bhi (fun x' y' => s x' y' ∨ (x' = x ∧ y' = y)) i j k :=
  ⟨h.a1, h.a2, h.b1, h.b2, h.blk, fun x' y' a b c d e => e.elim (h.top x' y' a b c d) fun ⟨e1, e2⟩ => by rw [e1, e2]; exact hk⟩
/-- .. longer -/
theorem Best.more {M : Nat → Nat → Prop} {alo ahi blo bhi i j k x y : Nat} {s : Nat → Nat → Prop} (h : Best M alo ahi blo bhi s i j k) (hx : alo ≤ x) (hx' : x < ahi) (hy : blo ≤ y) (hy' : y < bhi) (hk : k ≤ rn M alo blo (x + 1) (y + 1)) :
    Best M alo ahi blo bhi (fun x' y' => s x' y' ∨ (x' = x ∧ y' = y)) (x + 1 - rn M alo blo (x + 1) (y + 1)) (y + 1 - rn M alo blo (x + 1) (y + 1)) (rn M alo blo (x + 1) (y + 1)) := by
  obtain ⟨a, b, c⟩ := rn_block (M := M) (alo := alo) (blo := blo) (i := x + 1) (j := y + 1) (by lia) (by lia)
  exact ⟨by lia, by lia, by lia, by lia, c, fun x' y' p q r s' e => e.elim (fun e => Nat.le_trans (h.top x' y' p q r s' e) hk) fun ⟨e1, e2⟩ => by rw [e1, e2]; exact Nat.le_refl _⟩
theorem Best.max {M : Nat → Nat → Prop} {alo ahi blo bhi i j k : Nat} {s : Nat → Nat → Prop} (h : Best M alo ahi blo bhi s i j k) (hs : ∀ x y, alo ≤ x → x < ahi → blo ≤ y → y < bhi → s x y) :
    ∀ i' j' k', alo ≤ i' → i' + k' ≤ ahi → blo ≤ j' → j' + k' ≤ bhi → Block M i' j' k' → k' ≤ k := by
  intro i' j' k' a b c d e
  cases k' with
  | zero => exact Nat.zero_le _
  | succ k' =>
    have := rn_most a c e
    exact Nat.le_trans this (by
      have := h.top (i' + k') (j' + k') (by lia) (by lia) (by lia) (by lia) (hs _ _ (by lia) (by lia) (by lia) (by lia))
      rwa [Nat.add_assoc, Nat.add_assoc] at this)
/-- the table of a row -/
noncomputable def Row (M : Nat → Nat → Prop) (alo blo : Nat) (i : Nat) (S : Nat → Prop) (kvs : List (Int × Value)) : Prop :=
  (∀ j : Nat, S j → ∃ t, valueAt kvs (j : Int) = some (.int (rn M alo blo (i + 1) (j + 1) : Nat) t)) ∧ (∀ z : Int, (∀ j : Nat, S j → z ≠ j) → valueAt kvs z = none)
theorem row_nil (M : Nat → Nat → Prop) (alo blo i : Nat) : Row M alo blo i (fun _ => False) [] := ⟨fun _ h => h.elim, fun _ _ => rfl⟩
theorem valueAt_stored {kvs : List (Int × Value)} {k : Int} {v : Value} (z : Int) : valueAt (stored kvs k v) z = if z = k then some v else valueAt kvs z := by
  unfold valueAt stored
  by_cases h : (kvs.any fun kv => decide (kv.1 = k)) = true
  · rw [if_pos h]
    induction kvs with
    | nil => cases h
    | cons p r ih =>
      rw [List.map_cons]
      by_cases e : p.1 = k
      · rw [if_pos e, List.find?_cons, List.find?_cons]
        by_cases ez : z = k
        · subst ez; simp [e]
        · rw [if_neg ez]
          have e1 : ¬ p.1 = z := fun q => ez (q.symm.trans e)
          simp only [e1, decide_false]
          by_cases h' : (r.any fun kv => decide (kv.1 = k)) = true
          · rw [ih h', if_neg ez]
          · have : r.map (fun kv => if kv.1 = k then (kv.1, v) else kv) = r := by
              conv => rhs; rw [← List.map_id r]
              apply List.map_congr_left
              intro kv hkv
              rw [if_neg fun q => h' (List.any_eq_true.mpr ⟨kv, hkv, by simpa using q⟩)]; rfl
            rw [this]
      · have h' : (r.any fun kv => decide (kv.1 = k)) = true := by simpa [e] using h
        rw [if_neg e, List.find?_cons, List.find?_cons]
        by_cases ez : p.1 = z
        · simp [ez]
          exact fun q => absurd (ez.trans q) e
        · simp only [ez, decide_false]
          exact ih h'
  · rw [if_neg h, List.find?_append]
    by_cases ez : z = k
    · subst ez
      have : (kvs.find? fun kv => decide (kv.1 = z)) = none := List.find?_eq_none.mpr fun kv hkv q => h (List.any_eq_true.mpr ⟨kv, hkv, q⟩)
      rw [this]; simp
    · rw [if_neg ez]
      have : ([(k, v)].find? fun kv => decide (kv.1 = z)) = none := by simp; exact fun q => ez q.symm
      rw [this, Option.or_none]
theorem row_put {M : Nat → Nat → Prop} {alo blo i j : Nat} {S : Nat → Prop} {kvs : List (Int × Value)} {t : Tok} (h : Row M alo blo i S kvs) :
    Row M alo blo i (fun y => S y ∨ y = j) (stored kvs (j : Int) (.int (rn M alo blo (i + 1) (j + 1) : Nat) t)) := by
  refine ⟨fun y hy => ?_, fun z hz => ?_⟩
  · rw [valueAt_stored]
    by_cases e : y = j
    · subst e; exact ⟨t, if_pos rfl⟩
    · rw [if_neg (by lia)]
      exact h.1 y (hy.resolve_right e)
  · rw [valueAt_stored, if_neg (hz j (.inr rfl))]
    exact h.2 z fun y hy => hz y (.inl hy)
/-- what the row ahead tells of (i, j) -/
theorem row_get {M : Nat → Nat → Prop} {alo blo bhi i j : Nat} {kvs : List (Int × Value)} {t0 : Tok} (h : Row M alo blo i (fun y => blo ≤ y ∧ y < bhi ∧ M i y) kvs) (hj : blo ≤ j) (hj' : j < bhi) :
    ∃ t, (valueAt kvs ((j : Int) - 1)).getD (.int 0 t0) = .int (rn M alo blo (i + 1) j : Nat) t := by
  cases j with
  | zero =>
    rw [h.2 _ fun y _ => by lia, show rn M alo blo (i + 1) 0 = 0 by unfold rn; rfl]
    exact ⟨t0, rfl⟩
  | succ j =>
    rw [show ((j + 1 : Nat) : Int) - 1 = (j : Int) by lia]
    by_cases hm : blo ≤ j ∧ j < bhi ∧ M i j
    · obtain ⟨t, e⟩ := h.1 j hm
      exact ⟨t, by rw [e]; rfl⟩
    · rw [h.2 _ fun y hy e => hm (by have : j = y := by lia
                                     subst this; exact hy)]
      have : rn M alo blo (i + 1) (j + 1) = 0 := by
        by_cases hb : blo ≤ j
        · exact rn_miss fun x => hm ⟨hb, by lia, x⟩
        · exact rn_left (by lia)
      rw [this]
      exact ⟨t0, rfl⟩
theorem row_get0 {M : Nat → Nat → Prop} {alo blo j : Nat} {t0 : Tok} : ∃ t, (valueAt ([] : List (Int × Value)) ((j : Int) - 1)).getD (.int 0 t0) = .int (rn M alo blo alo j : Nat) t :=
  ⟨t0, by rw [rn_low (Nat.le_refl _)]; rfl⟩
end
section
open PySem PySem.W PyProof.Rows PySem.Challenge
set_option Elab.async false
set_option maxRecDepth 100000
set_option maxHeartbeats 4000000
local macro_rules | `(tactic| walk_at "pyIter ref") => `(tactic| refine halt ?_)
local macro_rules | `(tactic| walk_at "call builtin:dict.get") => `(tactic| refine halt ?_)
local macro_rules | `(tactic| walk_at "getAttr ref") => `(tactic| (k_here; (with_reducible show wpAny _ _ (getAttr (Value.ref _) (Str.ofString "get") _) _ _ _); k_dflt (refine' boundGet (by k_asm) (by k_asm) (by k_mem) (by assumption) ?_); intros; (try k_sweep)))
local macro_rules | `(tactic| walk_at "getMethod ref") => `(tactic| (k_here; (with_reducible show wpAny _ _ (getMethod (Value.ref _) (Str.ofString "get") _) _ _ _); k_dflt (refine' kdg_method (knd := intKind rw_mu0013_02.row.prog _) (by k_asm) (by k_mem) (by assumption) ?_)))
theorem bm_at {h₀ h : Heap} {L q : Addr} {news : List (Addr × Obj)} {id : String} {self : Value} (N : News h₀ L h news) (hq : (q, bmObj id self) ∈ news) : BmAt q id self h := (N _ hq).1
theorem callBM {M : Model} {A : Around} {E : Value → Shared → Prop} {Q : Value → Shared → Prop} {h₀ : Heap} {L q : Addr} {news : List (Addr × Obj)} {env : Env} {pos : Pos} {s : Shared} {id : String} {self : Value} {e : PySem.Expr} {rest : List PySem.Expr} (_N : News h₀ L s.heap news) (hq : (q, bmObj id self) ∈ news)
    (h : wpAny M A (spliced (backTo pos (starEach (e :: rest) env))) (fun vs s₁ => BmAt q id self s₁.heap ∧ wpAny M A (call (.ref q) ([] ++ vs)) Q E s₁) E s)
    (he : starEach (e :: rest) env = (false, eval e env) :: starEach rest env := by rfl) (hplain : (backTo pos (starEach rest env)).any (·.1) = false := by rfl) :
    wpAny M A (callWith pos (.ref q) [] (backTo pos (starEach (e :: rest) env)) []) Q E s := callWith_BM hq h he hplain
local macro_rules | `(tactic| walk_at "callWith ref") => `(tactic| (k_here; k_dflt (refine' callBM (by k_asm) (by k_mem) ?_; k_whole)))
local macro_rules | `(tactic| walk_at "And") => `(tactic| ((with_reducible show BmAt _ _ _ _ ∧ _); refine' ⟨(by k_dflt (exact bm_at (by k_asm) (by k_mem))), ?_⟩; try dsimp only [List.nil_append, List.cons_append]))
local macro_rules | `(tactic| walk_at "call ref") => `(tactic| first | (k_here; k_dflt (refine' callIn (led := _) (by k_asm) (by with_reducible k_mem) (by k_mem) ?_); intros; (try dsimp only)) | refine halt ?_)
local macro_rules | `(tactic| k_updF) => `(tactic| first | exact UpdF.head (by assumption) | (refine' UpdF.tail (by assumption) (by k_updF)))
local macro_rules | `(tactic| walk_at "setItem ref int") => `(tactic| (k_here; k_dflt (refine' kda_set (knd := intKind rw_mu0013_02.row.prog _) (by k_asm) (by k_asm) (by k_updF) (by assumption) (by exact intKind_is _ _ _ _) (by (rw [sizeLine_eq]; lia)) ?_); intros; (try dsimp only); (try k_sweep)))
local macro_rules | `(tactic| walk_at "exec While") => `(tactic| refine halt ?_)
noncomputable abbrev es10 (w : World) (t1 t2 t3 t4 t5 t6 t7 t8 t9 t10 : Tok) (la lb D S1 S2 : Addr) (mv : Value) : List DictEntry := [en w "isjunk" t1 .none, en w "a" t2 (.ref la), en w "b" t3 (.ref lb), en w "autojunk" t4 (.bool true), en w "matching_blocks" t5 mv, en w "opcodes" t6 .none, en w "fullbcount" t7 .none, en w "b2j" t8 (.ref D), en w "bjunk" t9 (.ref S1), en w "bpopular" t10 (.ref S2)]
theorem small_nat {a b n : Nat} (h1 : a ≤ b) (h2 : b ≤ n) (h3 : n ≤ 1000) : Builtin.Range.small (a : Int) (b : Int) 1 = true := small_one (by lia) (by lia) (by lia) (by lia)
theorem size_nat {a b : Nat} (h1 : a ≤ b) : Builtin.Range.rangeSize (a : Int) (b : Int) 1 = ((b - a : Nat) : Int) := by
  unfold Builtin.Range.rangeSize
  rw [if_pos (by lia)]
  split <;> lia
theorem getD_row {as : List Int} {a n : Nat} (h : a + n < as.length) : as[a + n]? = some (as.getD ((a : Int) + (n : Int)).toNat 0) := by
  rw [show ((a : Int) + (n : Int)).toNat = a + n by lia, List.getElem?_eq_getElem h]
  simp [List.getD, h]
theorem b2j_get {bs : List Int} {kvs : List (Int × Value)} {ls rest : List (Addr × Obj)} {k : Int} {nl : Addr} (hB : B2J bs kvs ls) (hls : ∀ p ∈ ls, p ∈ rest) (hnl : (nl, W.listOf #[] 0) ∈ rest) :
    ∃ l vs nn, (valueAt kvs k).getD (.ref nl) = .ref l ∧ (l, W.listOf (List.toArray vs) nn) ∈ rest ∧ IntsAre vs (idxs bs k) := by
  by_cases h : k ∈ bs
  · obtain ⟨l, vs, n, e1, e2, e3⟩ := (hB k).1 h
    exact ⟨l, vs, n, by rw [e1]; rfl, hls _ e2, e3⟩
  · exact ⟨nl, [], 0, by rw [(hB k).2 h]; rfl, hnl, by rw [idxs_none h]; exact .nil⟩
theorem idx_at {bs : List Int} {xv : Int} {vs : List Value} {n : Nat} {v : Value} (h : IntsAre vs (idxs bs xv)) (hv : vs[n]? = some v) :
    ∃ (y : Nat) (t : Tok), v = .int (y : Int) t ∧ (idxs bs xv)[n]? = some (y : Int) ∧ y < bs.length ∧ bs[y]? = some xv := by
  have hl : n < (idxs bs xv).length := by rw [← h.length]; exact (List.getElem?_eq_some_iff.mp hv).1
  obtain ⟨t, ht⟩ := h.get n (idxs bs xv)[n] (by simp [hl])
  rw [hv] at ht
  cases ht
  obtain ⟨h0, h1⟩ := mem_idxs' (bs := bs) (k := xv) (j := (idxs bs xv)[n]) (List.getElem_mem hl)
  have e : ((idxs bs xv)[n].toNat : Int) = (idxs bs xv)[n] := by lia
  exact ⟨(idxs bs xv)[n].toNat, t, by rw [e], by rw [e]; simp [hl], (List.getElem?_eq_some_iff.mp h1).1, h1⟩
theorem in_skip {prog : Program} {w : World} {M : Nat → Nat → Prop} {alo ahi blo bhi i n' y ci cj ck : Nat} {js : List Int} {on : Obj} {kn : List (Int × Value)} (hc : y < blo) (hsn : js.take (n' + 1) = js.take n' ++ [(y : Int)])
    (h1 : on.IsDictOf (intKind prog w) kn) (h2 : Row M alo blo i (fun z => (z : Int) ∈ js.take n' ∧ blo ≤ z) kn) (h3 : ∀ z ∈ js.take n', z < (bhi : Int)) (h4 : Best M alo ahi blo bhi (fun x z => x < i ∨ (x = i ∧ (z : Int) ∈ js.take n')) ci cj ck) (h5 : kn.length ≤ n') (hb : blo ≤ bhi) :
    on.IsDictOf (intKind prog w) kn ∧ Row M alo blo i (fun z => (z : Int) ∈ js.take (n' + 1) ∧ blo ≤ z) kn ∧ (∀ z ∈ js.take (n' + 1), z < (bhi : Int)) ∧ Best M alo ahi blo bhi (fun x z => x < i ∨ (x = i ∧ (z : Int) ∈ js.take (n' + 1))) ci cj ck ∧ kn.length ≤ n' + 1 := by
  have mem : ∀ z : Nat, (z : Int) ∈ js.take (n' + 1) → (z : Int) ∈ js.take n' ∨ z = y := fun z hz => by
    rw [hsn] at hz
    rcases List.mem_append.mp hz with hz | hz
    · exact .inl hz
    · exact .inr (by have := List.mem_singleton.mp hz; lia)
  refine ⟨h1, ⟨fun z hz => h2.1 z ⟨(mem z hz.1).resolve_right (by lia), hz.2⟩, fun z hz => h2.2 z fun j hj => hz j ⟨by rw [hsn]; exact List.mem_append_left _ hj.1, hj.2⟩⟩, fun z hz => ?_, h4.mono fun x z _ _ c _ e => .inl (e.imp id fun ⟨a, b⟩ => ⟨a, (mem z b).resolve_right (by lia)⟩), by lia⟩
  rw [hsn] at hz
  rcases List.mem_append.mp hz with hz | hz
  · exact h3 z hz
  · rw [List.mem_singleton.mp hz]; lia
theorem not_in {a z : Str} (h : z ≠ a) : [a].contains z = false := by
  cases e : [a].contains z with
  | false => rfl
  | true => exact absurd (List.mem_singleton.mp (List.contains_iff_mem.mp e)) h
theorem full_brk {bs : List Int} {xv : Int} {n' y bhi : Nat} (hy : (idxs bs xv)[n']? = some (y : Int)) (hc : bhi ≤ y) : ∀ z : Nat, z < bhi → bs[z]? = some xv → (z : Int) ∈ (idxs bs xv).take n' := by
  intro z hz hb
  have hm := mem_idxs.mpr hb
  obtain ⟨p, hp⟩ := List.mem_iff_getElem?.mp hm
  have hl := (List.getElem?_eq_some_iff.mp hp).1
  have hl' := (List.getElem?_eq_some_iff.mp hy).1
  by_cases e : p < n'
  · exact List.mem_of_getElem? (i := p) (by rw [List.getElem?_take, if_pos e]; exact hp)
  · have s := idxs_sorted bs xv
    have h1 : (idxs bs xv)[n'] = (y : Int) := (List.getElem?_eq_some_iff.mp hy).2
    have h2 : (idxs bs xv)[p] = (z : Int) := (List.getElem?_eq_some_iff.mp hp).2
    by_cases e2 : n' = p
    · subst e2; rw [h1] at h2; lia
    · have := List.pairwise_iff_getElem.mp s n' p hl' hl (by lia)
      rw [h1, h2] at this
      lia
theorem full_done {bs : List Int} {xv : Int} {bhi : Nat} : ∀ z : Nat, z < bhi → bs[z]? = some xv → (z : Int) ∈ (idxs bs xv).take (idxs bs xv).length := by
  intro z _ hb
  rw [List.take_length]
  exact mem_idxs.mpr hb
theorem row_end {as bs : List Int} {xv : Int} {alo ahi blo bhi n n' ci cj ck : Nat} {kn : List (Int × Value)} (hrow : as[alo + n]? = some xv)
    (h2 : Row (Mt as bs) alo blo (alo + n) (fun z => (z : Int) ∈ (idxs bs xv).take n' ∧ blo ≤ z) kn) (h3 : ∀ z ∈ (idxs bs xv).take n', z < (bhi : Int)) (h4 : Best (Mt as bs) alo ahi blo bhi (fun x z => x < alo + n ∨ (x = alo + n ∧ (z : Int) ∈ (idxs bs xv).take n')) ci cj ck)
    (hf : ∀ z : Nat, z < bhi → bs[z]? = some xv → (z : Int) ∈ (idxs bs xv).take n') :
    (∀ (j : Nat) t0, blo ≤ j → j < bhi → ∃ t, (valueAt kn ((j : Int) - 1)).getD (.int 0 t0) = .int (rn (Mt as bs) alo blo (alo + (n + 1)) j : Nat) t) ∧ Best (Mt as bs) alo ahi blo bhi (fun x _ => x < alo + (n + 1)) ci cj ck := by
  have hM : ∀ z : Nat, Mt as bs (alo + n) z ↔ bs[z]? = some xv := fun z => ⟨fun ⟨v, a, b⟩ => by rw [hrow] at a; cases a; exact b, fun b => ⟨xv, hrow, b⟩⟩
  have hr : Row (Mt as bs) alo blo (alo + n) (fun z => blo ≤ z ∧ z < bhi ∧ Mt as bs (alo + n) z) kn :=
    ⟨fun z hz => h2.1 z ⟨hf z hz.2.1 ((hM z).mp hz.2.2), hz.1⟩, fun z hz => h2.2 z fun j hj => hz j ⟨hj.2, by have := h3 _ hj.1; lia, (hM j).mpr (mem_idxs.mp (List.mem_of_mem_take hj.1))⟩⟩
  refine ⟨fun j t0 a b => row_get hr a b, h4.mono fun x z _ _ _ d e => ?_⟩
  by_cases ex : x < alo + n
  · exact .inl (.inl ex)
  · have : x = alo + n := by lia
    subst this
    by_cases hm : Mt as bs (alo + n) z
    · exact .inl (.inr ⟨rfl, hf z d ((hM z).mp hm)⟩)
    · exact .inr hm
theorem Row.congr {M : Nat → Nat → Prop} {alo blo i : Nat} {S S' : Nat → Prop} {kvs : List (Int × Value)} (h : Row M alo blo i S kvs) (e : ∀ z, S z ↔ S' z) : Row M alo blo i S' kvs :=
  ⟨fun j hj => h.1 j ((e j).mpr hj), fun z hz => h.2 z fun j hj => hz j ((e j).mp hj)⟩
section
variable {prog : Program} {w : World} {M : Nat → Nat → Prop} {alo ahi blo bhi i n' y r ci cj ck : Nat} {t : Tok} {js : List Int} {on : Obj} {kn : List (Int × Value)}
theorem in_put (hy : blo ≤ y) (hy' : y < bhi) (hr : rn M alo blo (i + 1) (y + 1) = r + 1) (hsn : js.take (n' + 1) = js.take n' ++ [(y : Int)])
    (h2 : Row M alo blo i (fun z => (z : Int) ∈ js.take n' ∧ blo ≤ z) kn) (h3 : ∀ z ∈ js.take n', z < (bhi : Int)) (h5 : kn.length ≤ n') :
    Row M alo blo i (fun z => (z : Int) ∈ js.take (n' + 1) ∧ blo ≤ z) (stored kn (y : Int) (.int ((r : Int) + 1) t)) ∧ (∀ z ∈ js.take (n' + 1), z < (bhi : Int)) ∧ (stored kn (y : Int) (.int ((r : Int) + 1) t)).length ≤ n' + 1 := by
  refine ⟨?_, fun z hz => ?_, Nat.le_trans stored_len (by lia)⟩
  · have e : (r : Int) + 1 = ((rn M alo blo (i + 1) (y + 1) : Nat) : Int) := by rw [hr]; lia
    rw [e]
    refine (row_put h2).congr fun z => ?_
    rw [hsn, List.mem_append, List.mem_singleton]
    constructor
    · rintro (⟨a, b⟩ | rfl)
      · exact ⟨.inl a, b⟩
      · exact ⟨.inr rfl, hy⟩
    · rintro ⟨a | a, b⟩
      · exact .inl ⟨a, b⟩
      · exact .inr (by lia)
  · rw [hsn] at hz
    rcases List.mem_append.mp hz with hz | hz
    · exact h3 z hz
    · rw [List.mem_singleton.mp hz]; lia
theorem seen_put {x z : Nat} (hsn : js.take (n' + 1) = js.take n' ++ [(y : Int)]) (e : x < i ∨ (x = i ∧ (z : Int) ∈ js.take (n' + 1))) : (x < i ∨ (x = i ∧ (z : Int) ∈ js.take n')) ∨ (x = i ∧ z = y) := by
  rcases e with e | ⟨e, f⟩
  · exact .inl (.inl e)
  · rw [hsn] at f
    rcases List.mem_append.mp f with f | f
    · exact .inl (.inr ⟨e, f⟩)
    · exact .inr ⟨e, by have := List.mem_singleton.mp f; lia⟩
theorem in_more (hi : alo ≤ i) (hi' : i < ahi) (hy : blo ≤ y) (hy' : y < bhi) (hr : rn M alo blo (i + 1) (y + 1) = r + 1) (hc : ck ≤ r + 1) (hsn : js.take (n' + 1) = js.take n' ++ [(y : Int)])
    (h1 : on.IsDictOf (intKind prog w) (stored kn (y : Int) (.int ((r : Int) + 1) t))) (h2 : Row M alo blo i (fun z => (z : Int) ∈ js.take n' ∧ blo ≤ z) kn) (h3 : ∀ z ∈ js.take n', z < (bhi : Int)) (h4 : Best M alo ahi blo bhi (fun x z => x < i ∨ (x = i ∧ (z : Int) ∈ js.take n')) ci cj ck) (h5 : kn.length ≤ n') :
    on.IsDictOf (intKind prog w) (stored kn (y : Int) (.int ((r : Int) + 1) t)) ∧ Row M alo blo i (fun z => (z : Int) ∈ js.take (n' + 1) ∧ blo ≤ z) (stored kn (y : Int) (.int ((r : Int) + 1) t)) ∧ (∀ z ∈ js.take (n' + 1), z < (bhi : Int)) ∧
      Best M alo ahi blo bhi (fun x z => x < i ∨ (x = i ∧ (z : Int) ∈ js.take (n' + 1))) (i + 1 - (r + 1)) (y + 1 - (r + 1)) (r + 1) ∧ (stored kn (y : Int) (.int ((r : Int) + 1) t)).length ≤ n' + 1 := by
  obtain ⟨a, b, c⟩ := in_put (t := t) hy hy' hr hsn h2 h3 h5
  refine ⟨h1, a, b, ?_, c⟩
  have := h4.more (x := i) (y := y) hi hi' hy hy' (by rw [hr]; exact hc)
  rw [hr] at this
  exact this.mono fun x z _ _ _ _ e => .inl (seen_put hsn e)
theorem in_keep (hy : blo ≤ y) (hy' : y < bhi) (hr : rn M alo blo (i + 1) (y + 1) = r + 1) (hc : r + 1 ≤ ck) (hsn : js.take (n' + 1) = js.take n' ++ [(y : Int)])
    (h1 : on.IsDictOf (intKind prog w) (stored kn (y : Int) (.int ((r : Int) + 1) t))) (h2 : Row M alo blo i (fun z => (z : Int) ∈ js.take n' ∧ blo ≤ z) kn) (h3 : ∀ z ∈ js.take n', z < (bhi : Int)) (h4 : Best M alo ahi blo bhi (fun x z => x < i ∨ (x = i ∧ (z : Int) ∈ js.take n')) ci cj ck) (h5 : kn.length ≤ n') :
    on.IsDictOf (intKind prog w) (stored kn (y : Int) (.int ((r : Int) + 1) t)) ∧ Row M alo blo i (fun z => (z : Int) ∈ js.take (n' + 1) ∧ blo ≤ z) (stored kn (y : Int) (.int ((r : Int) + 1) t)) ∧ (∀ z ∈ js.take (n' + 1), z < (bhi : Int)) ∧
      Best M alo ahi blo bhi (fun x z => x < i ∨ (x = i ∧ (z : Int) ∈ js.take (n' + 1))) ci cj ck ∧ (stored kn (y : Int) (.int ((r : Int) + 1) t)).length ≤ n' + 1 := by
  obtain ⟨a, b, c⟩ := in_put (t := t) hy hy' hr hsn h2 h3 h5
  exact ⟨h1, a, b, (h4.keep (x := i) (y := y) (by rw [hr]; exact hc)).mono fun x z _ _ _ _ e => .inl (seen_put hsn e), c⟩
end
theorem mt_getD {as bs : List Int} {i j : Nat} (hi : i < as.length) (hj : j < bs.length) (e : as.getD i 0 = bs.getD j 0) : Mt as bs i j := by
  rw [getD_at hi, getD_at hj] at e
  exact ⟨as[i], List.getElem?_eq_getElem hi, by rw [e]; exact List.getElem?_eq_getElem hj⟩
theorem grow_left {as bs : List Int} {alo ahi blo bhi bi bj bk : Nat} {s : Nat → Nat → Prop} (hb : Best (Mt as bs) alo ahi blo bhi s bi bj bk) (hmax : ∀ i' j' k', alo ≤ i' → i' + k' ≤ ahi → blo ≤ j' → j' + k' ≤ bhi → Block (Mt as bs) i' j' k' → k' ≤ bk)
    (h2 : ahi ≤ as.length) (h4 : bhi ≤ bs.length) (c1 : (alo : Int) < bi) (c2 : (blo : Int) < bj) (e : as.getD ((bi : Int) - 1).toNat 0 = bs.getD ((bj : Int) - 1).toNat 0) : False := by
  have a2 := hb.a2
  have b2 := hb.b2
  rw [show ((bi : Int) - 1).toNat = bi - 1 by lia, show ((bj : Int) - 1).toNat = bj - 1 by lia] at e
  have hm := mt_getD (by lia) (by lia) e
  have := hmax (bi - 1) (bj - 1) (bk + 1) (by lia) (by lia) (by lia) (by lia) fun t ht => by
    cases t with
    | zero => exact hm
    | succ t =>
      rw [show bi - 1 + (t + 1) = bi + t by lia, show bj - 1 + (t + 1) = bj + t by lia]
      exact hb.blk t (by lia)
  lia
theorem grow_right {as bs : List Int} {alo ahi blo bhi bi bj bk : Nat} {s : Nat → Nat → Prop} (hb : Best (Mt as bs) alo ahi blo bhi s bi bj bk) (hmax : ∀ i' j' k', alo ≤ i' → i' + k' ≤ ahi → blo ≤ j' → j' + k' ≤ bhi → Block (Mt as bs) i' j' k' → k' ≤ bk)
    (h2 : ahi ≤ as.length) (h4 : bhi ≤ bs.length) (c1 : (bi : Int) + bk < ahi) (c2 : (bj : Int) + bk < bhi) (e : as.getD ((bi : Int) + bk).toNat 0 = bs.getD ((bj : Int) + bk).toNat 0) : False := by
  rw [show ((bi : Int) + bk).toNat = bi + bk by lia, show ((bj : Int) + bk).toNat = bj + bk by lia] at e
  have hm := mt_getD (by lia) (by lia) e
  have := hmax bi bj (bk + 1) hb.a1 (by lia) hb.b1 (by lia) fun t ht => by
    by_cases e : t < bk
    · exact hb.blk t e
    · rw [show t = bk by lia]; exact hm
  lia
/-- a longest block of the rectangle -/
structure Found (M : Nat → Nat → Prop) (alo ahi blo bhi i j k : Nat) : Prop where
  a1 : alo ≤ i
  a2 : i + k ≤ ahi
  b1 : blo ≤ j
  b2 : j + k ≤ bhi
  blk : Block M i j k
  max : ∀ i' j' k', alo ≤ i' → i' + k' ≤ ahi → blo ≤ j' → j' + k' ≤ bhi → Block M i' j' k' → k' ≤ k
/-- a test that comes out false, and nothing else is changed -/
noncomputable def NoB (h₀ : Heap) (L : Addr) (m : Str → Option Value) (news : List (Addr × Obj)) (gs : Array GenState) (dr : Drawn) (os : OsState) (b : Bool) (s₂ : Shared) : Prop := b = false ∧ ∃ h' tk, s₂ = ⟨h', gs, dr, tk, os⟩ ∧ Fr h₀ L h' m ∧ News h₀ L h' news
theorem noB {h₀ h' : Heap} {L : Addr} {m : Str → Option Value} {news : List (Addr × Obj)} {gs : Array GenState} {dr : Drawn} {os : OsState} {tk : Nat} {b : Bool} (hb : b = false) (F : Fr h₀ L h' m) (N : News h₀ L h' news) : NoB h₀ L m news gs dr os b ⟨h', gs, dr, tk, os⟩ := ⟨hb, h', tk, rfl, F, N⟩
theorem while_no {prog : Program} {w : World} {A : Around} {E : Value → Shared → Prop} {Q : Flow → Shared → Prop} {hp h₀ : Heap} {gs : Array GenState} {dr : Drawn} {tk0 : Nat} {os : OsState} {env : Env} {L : Addr} {m : Str → Option Value} {news : List (Addr × Obj)} {test : PySem.Expr} {body : List Stmt} {pos : Pos}
    (F : Fr h₀ L hp m) (N : News h₀ L hp news) (hE : PassesOwn (model prog w) A env E)
    (h : ∀ h' tk, Fr h₀ L h' m → News h₀ L h' news → wpAny (model prog w) A (isTrue test env (eval test env)) (NoB h₀ L m news gs dr os) E ⟨h', gs, dr, tk, os⟩)
    (next : ∀ h' tk, Fr h₀ L h' m → News h₀ L h' news → Q .next ⟨h', gs, dr, tk, os⟩) :
    wpAny (model prog w) A (exec (.While test body [] pos) env) Q E ⟨hp, gs, dr, tk0, os⟩ := by
  refine ksw_while (s := ⟨hp, gs, dr, tk0, os⟩) (σ := Unit) (fun _ => news) (fun _ => []) (fun _ => True) [] (fun _ => True) (fun _ => 0) () F N trivial (List.forall_mem_nil _) trivial (fun c u h' tk _ _ F' N' => ?_) hE
  refine wpAny_mono (h h' tk F' N') (fun b s₂ q => ?_) fun _ _ e => e
  obtain ⟨rfl, h'', tk'', rfl, F'', N''⟩ := q
  exact next h'' tk'' F'' N''
theorem kg_abs {M : Model} {A : Around} {l : List Stmt} {env : Env} {Q : Flow → Shared → Prop} {E : Value → Shared → Prop} {s : Shared} (h : ∀ Q' : Flow → Shared → Prop, (∀ f s, Q f s → Q' f s) → wpAny M A (execs l env) Q' E s) : wpAny M A (execs l env) Q E s := h Q fun _ _ h => h
theorem flm_out {w : World} {dp un : Nat} {fr : Option (List Env)} {gd : Option (List Code)} {g hp : Heap} {L : Addr} {rest : List (Addr × Obj)} {gs : Array GenState} {dr : Drawn} {tk0 : Nat} {os : OsState} {Q : Flow → Shared → Prop} {E : Value → Shared → Prop}
    {mean : ExcName → Option Value} {mg mb : Str → Option Value} {x la lb D S1 nl d0 q : Addr} {o0 o : Obj} {led : Bool} {va vb : List Value} {na nb : Nat} {as bs : List Int} {kvs : List (Int × Value)} {ls : List (Addr × Obj)} {alo ahi blo bhi : Nat} {u1 u2 u3 u4 u5 : Tok}
    (F : Fr g L hp (fun y => if y = Str.ofString "nothing" then some (.ref nl) else if y = Str.ofString "j2len" then some (.ref d0) else if y = Str.ofString "besti" then some (.int (alo : Int) u1) else if y = Str.ofString "bestj" then some (.int (blo : Int) u3) else if y = Str.ofString "bestsize" then some (.int 0 u5) else if y = Str.ofString "isbjunk" then some (.ref q) else if y = Str.ofString "b2j" then some (.ref D) else if y = Str.ofString "b" then some (.ref lb) else if y = Str.ofString "a" then some (.ref la) else List.lookup y [(Str.ofString "bhi", .int (bhi : Int) u4), (Str.ofString "blo", .int (blo : Int) u3), (Str.ofString "ahi", .int (ahi : Int) u2), (Str.ofString "alo", .int (alo : Int) u1), (Str.ofString "self", .ref x)]))
    (N : News g L hp ((d0, o0) :: rest)) (T : Top q2 (looseW q2 loose2) mean mg mb g) (hE : PassesOwn (model rw_mu0013_02.row.prog w) ⟨none, dp, fr, gd, un⟩ (envOf (Str.ofString "SequenceMatcher.find_longest_match") (scopeOf (sub 5 6)) L 196 (.ref 195)) E)
    (hD0 : o0.IsDictOf (intKind rw_mu0013_02.row.prog w) []) (hlo0 : (d0 == sysModules) = false) (hnl : (nl, listOf #[] 0) ∈ rest) (hq : (q, bmObj "set.__contains__" (.ref S1)) ∈ rest) (hS : (S1, setE led) ∈ rest) (hD : (D, o) ∈ rest) (hls : ∀ p ∈ ls, p ∈ rest) (hla : (la, listOf va.toArray na) ∈ rest) (hlb : (lb, listOf vb.toArray nb) ∈ rest)
    (hDo : o.IsDictOf (intKind rw_mu0013_02.row.prog w) kvs) (hlo : (D == sysModules) = false) (hB : B2J bs kvs ls) (hia : IntsAre va as) (hib : IntsAre vb bs) (hal : as.length ≤ 1000) (hbl : bs.length ≤ 1000)
    (h1 : alo ≤ ahi) (h2 : ahi ≤ as.length) (h3 : blo ≤ bhi) (h4 : bhi ≤ bs.length)
    (ret : ∀ h' tk' m' (bi bj bk : Nat) ti tj tkk, Fr g L h' m' → News g L h' rest → Found (Mt as bs) alo ahi blo bhi bi bj bk →
      wpAny (model rw_mu0013_02.row.prog w) ⟨none, dp, fr, gd, un⟩ (call (.ref 135) [.int (bi : Int) ti, .int (bj : Int) tj, .int (bk : Int) tkk]) (fun v s' => Q (.ret v) s') E ⟨h', gs, dr, tk', os⟩) :
    (K2 w.params).In g → wpAny (model rw_mu0013_02.row.prog w) ⟨none, dp, fr, gd, un⟩ (execs ((bodyOf (sub 5 6)).drop 7) (envOf (Str.ofString "SequenceMatcher.find_longest_match") (scopeOf (sub 5 6)) L 196 (.ref 195))) Q E ⟨hp, gs, dr, tk0, os⟩ := by
  w_on
  k_fill
  intro X
  have hb := Eq.refl ((bodyOf (sub 5 6)).drop 7)
  conv at hb => rhs; whnf
  rw [hb]
  clear hb
  have hva := IntsAre.length hia
  have hvb := IntsAre.length hib
  w_strict (
    (have mk := kstMark)
    k_steps
    (unfold Halt)
    (rename Fr _ _ _ _ => F1)
    (rename News _ _ _ _ => N2)
    (refine' kg_range (n := ahi - alo) (σ := (Addr × Obj × List (Int × Value)) × (Nat × Nat × Nat) × Tok × Tok × Tok)
      (fun c => (c.1.1, c.1.2.1) :: rest) (fun c => [(Str.ofString "j2len", .ref c.1.1), (Str.ofString "besti", .int (c.2.1.1 : Int) c.2.2.1), (Str.ofString "bestj", .int (c.2.1.2.1 : Int) c.2.2.2.1), (Str.ofString "bestsize", .int (c.2.1.2.2 : Int) c.2.2.2.2)])
      [Str.ofString "j2lenget", Str.ofString "newj2len", Str.ofString "j", Str.ofString "k"]
      (fun n c => c.1.2.1.IsDictOf (intKind rw_mu0013_02.row.prog w) c.1.2.2 ∧ (c.1.1 == sysModules) = false ∧ (∀ (j : Nat) t0, blo ≤ j → j < bhi → ∃ t, (valueAt c.1.2.2 ((j : Int) - 1)).getD (.int 0 t0) = .int (rn (Mt as bs) alo blo (alo + n) j : Nat) t) ∧ Best (Mt as bs) alo ahi blo bhi (fun x _ => x < alo + n) c.2.1.1 c.2.1.2.1 c.2.1.2.2)
      ((d0, o0, []), (alo, blo, 0), u1, u3, u5) rfl ?zr ?zs ?zn F1 N2 ?zk ?zp ?zt ?zd)
    (case zr => assumption)
    (case zs => exact small_nat h1 h2 hal)
    (case zn => exact size_nat h1)
    (case zk => exact List.forall_mem_cons.mpr ⟨by with_unfolding_all rfl, List.forall_mem_cons.mpr ⟨by with_unfolding_all rfl, List.forall_mem_cons.mpr ⟨by with_unfolding_all rfl, List.forall_mem_cons.mpr ⟨by with_unfolding_all rfl, List.forall_mem_nil _⟩⟩⟩⟩)
    (case zp => exact ⟨hD0, hlo0, fun j t0 _ _ => row_get0, Best.start h1 h3⟩)
    (case zt =>
      rintro ⟨⟨dj, oj, kj⟩, ⟨bi, bj, bk⟩, ti, tj, tkk⟩ n tI u h tk I oI hn ⟨hjd, hjlo, hjv, hbest⟩ hoff F2 N3
      dsimp only at hjd hjlo hjv hbest F2 N3 ⊢
      clear F1 N2
      refine' kg_abs ?_
      intro QO hQO
      k_steps
      (unfold Halt)
      (rename_i q2 h5 tk5 F5 N5 l5 h6 tk6 dn h7 on0 hnlo hns hfs hnd hfi hl1 h8 tk8 F8 N8 t8)
      clear F5 N5 hns hfs hfi
      (have hrow : as[alo + n]? = some (as.getD ((alo : Int) + (n : Int)).toNat 0) := getD_row (by lia))
      (generalize as.getD ((alo : Int) + (n : Int)).toNat 0 = xv at hrow ⊢)
      (have hjs : ∃ l vs nn, (valueAt kvs xv).getD (.ref nl) = .ref l ∧ (l, W.listOf (List.toArray vs) nn) ∈ rest ∧ IntsAre vs (idxs bs xv) := b2j_get hB hls hnl)
      (obtain ⟨l, vs, nn, hl0, hl, hjs⟩ := hjs)
      (refine' kdg_get2 (knd := intKind rw_mu0013_02.row.prog w) (k := xv) N8 ?y1 hDo hlo ?y2 _ rfl ?_)
      (case y1 => exact .tail _ (.tail _ (.tail _ (.tail _ hD))))
      (case y2 => simp [intKind, Value.isInt])
      rw [hl0]
      (refine' kg_list (vs := vs) (nn := nn) (σ := (Obj × List (Int × Value)) × (Nat × Nat × Nat) × Tok × Tok × Tok)
        (fun c => (dn, c.1.1) :: (q2, bmObj "dict.get" (.ref dj)) :: (I, oI) :: (dj, oj) :: rest) (fun c => [(Str.ofString "besti", .int (c.2.1.1 : Int) c.2.2.1), (Str.ofString "bestj", .int (c.2.1.2.1 : Int) c.2.2.2.1), (Str.ofString "bestsize", .int (c.2.1.2.2 : Int) c.2.2.2.2)])
        [Str.ofString "k"]
        (fun n' c => c.1.1.IsDictOf (intKind rw_mu0013_02.row.prog w) c.1.2 ∧ Row (Mt as bs) alo blo (alo + n) (fun y => (y : Int) ∈ (idxs bs xv).take n' ∧ blo ≤ y) c.1.2 ∧ (∀ y ∈ (idxs bs xv).take n', y < (bhi : Int)) ∧
          Best (Mt as bs) alo ahi blo bhi (fun x y => x < alo + n ∨ (x = alo + n ∧ (y : Int) ∈ (idxs bs xv).take n')) c.2.1.1 c.2.1.2.1 c.2.1.2.2 ∧ c.1.2.length ≤ n')
        ((on0, []), (bi, bj, bk), ti, tj, tkk) rfl ?xl F8 N8 ?xk ?xp ?xt ?xd)
      (case xl => exact fun c => .tail _ (.tail _ (.tail _ (.tail _ hl))))
      (case xk => exact List.forall_mem_cons.mpr ⟨by with_unfolding_all rfl, List.forall_mem_cons.mpr ⟨by with_unfolding_all rfl, List.forall_mem_cons.mpr ⟨by with_unfolding_all rfl, List.forall_mem_nil _⟩⟩⟩)
      (case xp => exact ⟨hnd, ⟨fun _ h => absurd h.1 (by simp), fun _ _ => rfl⟩, fun _ h => absurd h (by simp), hbest.mono (fun x y _ _ _ _ e => .inl (e.resolve_right fun z => absurd z.2 (by simp))), Nat.le_refl _⟩)
      (case xt =>
        rintro ⟨⟨on, kn⟩, ⟨ci, cj, ck⟩, si, sj, sk⟩ n' v u' h9 tk9 I2 oI2 hv ⟨hnd', hrow', hlt, hb', hkl⟩ hoff2 F9 N9
        dsimp only at hnd' hrow' hlt hb' hkl hoff2 F9 N9 ⊢
        clear F8 N8
        (obtain ⟨y, ty, rfl, hy, hyb, hin⟩ := idx_at hjs hv)
        (have hMy : Mt as bs (alo + n) y := ⟨xv, hrow, hin⟩)
        (have hsn : (idxs bs xv).take (n' + 1) = (idxs bs xv).take n' ++ [(y : Int)] := by rw [List.take_add_one, hy]; rfl)
        refine' kg_abs ?_
        intro QI hQI
        k_steps
        · (rename_i hc)
          (refine' hQI _ _ ?_)
          dsimp only [KgPost]
          (refine' kg_end (((on, kn), (ci, cj, ck), si, sj, sk) : (Obj × List (Int × Value)) × (Nat × Nat × Nat) × Tok × Tok × Tok) F9 N9 ?v1 ?v2 ?v3 ?v4 ?v5 ?v6)
          (case v1 => exact fun p hp => .tail _ hp)
          (case v2 => exact .head _)
          (case v3 => exact hoff2)
          (case v4 => exact List.forall_mem_cons.mpr ⟨by with_unfolding_all rfl, List.forall_mem_cons.mpr ⟨by with_unfolding_all rfl, List.forall_mem_cons.mpr ⟨by with_unfolding_all rfl, List.forall_mem_nil _⟩⟩⟩)
          (case v5 => exact fun z z1 z2 z3 => by rw [if_neg z1]; exact off_ps z2 z3)
          (case v6 => exact in_skip (by lia) hsn hnd' hrow' hlt hb' hkl h3)
        · (rename_i hc1 hc2)
          refine' hQI _ _ ?_
          dsimp only [KgPost]
          k_steps
          (rename Fr _ _ _ _ => FE)
          (rename News _ _ _ _ => NE)
          (refine' hQO _ _ ?_)
          dsimp only [KgPost]
          (refine' kg_end (((dn, on, kn), (ci, cj, ck), si, sj, sk) : (Addr × Obj × List (Int × Value)) × (Nat × Nat × Nat) × Tok × Tok × Tok) FE NE ?w1 ?w2 ?w3 ?w4 ?w5 ?w6)
          (case w1 => exact List.forall_mem_cons.mpr ⟨.tail _ (.head _), fun p hp => .tail _ (.tail _ (.tail _ (.tail _ (.tail _ hp))))⟩)
          (case w2 => exact .tail _ (.tail _ (.tail _ (.head _))))
          (case w3 => exact List.forall_mem_cons.mpr ⟨Nat.ne_of_gt hl1.2.1, fun p hp => hoff p (.tail _ hp)⟩)
          (case w4 => exact List.forall_mem_cons.mpr ⟨by with_unfolding_all rfl, List.forall_mem_cons.mpr ⟨by with_unfolding_all rfl, List.forall_mem_cons.mpr ⟨by with_unfolding_all rfl, List.forall_mem_cons.mpr ⟨by with_unfolding_all rfl, List.forall_mem_nil _⟩⟩⟩⟩)
          (case w5 =>
            intro z z1 z2 z3
            (have e1 := z2 _ (.head _))
            (have e2 := z2 _ (.tail _ (.head _)))
            (have e3 := z2 _ (.tail _ (.tail _ (.head _))))
            (have e4 := z2 _ (.tail _ (.tail _ (.tail _ (.head _)))))
            (have e5 : [Str.ofString "k"].contains z = false := not_in (ne_of_in z3 (.tail _ (.tail _ (.tail _ (.head _))))))
            rw [if_neg e1, if_neg (ne_of_in z3 (.tail _ (.tail _ (.head _))))]
            refine (off_ps (List.forall_mem_cons.mpr ⟨e2, List.forall_mem_cons.mpr ⟨e3, List.forall_mem_cons.mpr ⟨e4, List.forall_mem_nil _⟩⟩⟩) e5).trans ?_
            rw [if_neg (ne_of_in z3 (.tail _ (.head _))), if_neg (ne_of_in z3 (.head _)), if_neg z1]
            exact off_ps (List.forall_mem_cons.mpr ⟨e1, List.forall_mem_cons.mpr ⟨e2, List.forall_mem_cons.mpr ⟨e3, List.forall_mem_cons.mpr ⟨e4, List.forall_mem_nil _⟩⟩⟩⟩) z3)
          (case w6 => exact ⟨hnd', hnlo, row_end hrow hrow' hlt hb' (full_brk hy (by lia))⟩)
        · (unfold Halt)
          (rename_i hc1 hc2 t7 tk7 t6 tk6 t0 tkc)
          (obtain ⟨tr, hval⟩ := hjv y t0 (by lia) (by lia))
          (refine' callGet (kvs := kj) N9 ?g1 ?g2 hjd hjlo (fun tkd => ?_))
          (case g1 => exact .tail _ (.tail _ (.head _)))
          (case g2 => exact .tail _ (.tail _ (.tail _ (.tail _ (.head _)))))
          rw [hval]
          (have hr1 : rn (Mt as bs) alo blo (alo + n + 1) (y + 1) = rn (Mt as bs) alo blo (alo + n) y + 1 := rn_hit (by lia) (by lia) hMy)
          (generalize rn (Mt as bs) alo blo (alo + n) y = r at hval hr1 ⊢)
          (have hI2 : I2 ≠ dn := fun e => hoff2 (dn, on) (.head _) e.symm)
          (have hdnt : ∀ p ∈ (q2, bmObj "dict.get" (.ref dj)) :: (I, oI) :: (dj, oj) :: rest, p.1 ≠ dn := List.forall_mem_cons.mpr ⟨Nat.ne_of_lt hl1.1, List.forall_mem_cons.mpr ⟨Nat.ne_of_lt hl1.2.1, List.forall_mem_cons.mpr ⟨Nat.ne_of_lt hl1.2.2.1, fun p hp => Nat.ne_of_lt (allLt_to hl1.2.2.2 p hp)⟩⟩⟩)
          (have hkl2 : kn.length ≤ 2000 := by
            have := (List.getElem?_eq_some_iff.mp hy).1
            have := idxs_len (bs := bs) (k := xv)
            lia)
          k_steps
          · (rename Obj.IsDictOf _ _ (stored _ _ _) => hdS0)
            (rename Obj => oS)
            (obtain ⟨tS, hdS⟩ : ∃ tS, oS.IsDictOf (intKind rw_mu0013_02.row.prog w) (stored kn (y : Int) (.int ((r : Int) + 1) tS)) := ⟨_, hdS0⟩)
            (rename (_ : Int) < _ + 1 => hck)
            (rename Fr _ _ _ _ => FE)
            (rename News _ _ _ _ => NE)
            (have hrb := rn_block (M := Mt as bs) (alo := alo) (blo := blo) (i := alo + n + 1) (j := y + 1) (by lia) (by lia))
            rw [hr1] at hrb
            (have q1 : (alo : Int) + (n : Int) - ((r : Int) + 1) + 1 = ((alo + n + 1 - (r + 1) : Nat) : Int) := by lia)
            (have q2' : (y : Int) - ((r : Int) + 1) + 1 = ((y + 1 - (r + 1) : Nat) : Int) := by lia)
            (have q3 : (r : Int) + 1 = ((r + 1 : Nat) : Int) := by lia)
            rw [q1, q2', q3] at FE
            (refine' hQI _ _ ?_)
            dsimp only [KgPost]
            (refine' kg_end (((oS, stored kn (y : Int) (.int ((r : Int) + 1) tS)), (alo + n + 1 - (r + 1), y + 1 - (r + 1), r + 1), ?_, ?_, ?_) : (Obj × List (Int × Value)) × (Nat × Nat × Nat) × Tok × Tok × Tok) FE NE ?v1 ?v2 ?v3 ?v4 ?v5 ?v6)
            (case v6 => exact in_more (by lia) (by lia) (by lia) (by lia) hr1 (by lia) hsn hdS hrow' hlt hb' hkl)
            (case v4 => exact List.forall_mem_cons.mpr ⟨by with_unfolding_all rfl, List.forall_mem_cons.mpr ⟨by with_unfolding_all rfl, List.forall_mem_cons.mpr ⟨by with_unfolding_all rfl, List.forall_mem_nil _⟩⟩⟩)
            (case v1 => exact fun p hp => .tail _ (.tail _ hp))
            (case v2 => exact .tail _ (.head _))
            (case v3 => exact List.forall_mem_cons.mpr ⟨fun e => hI2 e.symm, fun p hp => hoff2 p (.tail _ hp)⟩)
            (case v5 =>
              intro z z1 z2 z3
              (have e2 := z2 _ (.head _))
              (have e3 := z2 _ (.tail _ (.head _)))
              (have e4 := z2 _ (.tail _ (.tail _ (.head _))))
              rw [if_neg e4, if_neg e3, if_neg e2, if_neg (ne_of_stored z3), if_neg z1]
              exact off_ps (List.forall_mem_cons.mpr ⟨e2, List.forall_mem_cons.mpr ⟨e3, List.forall_mem_cons.mpr ⟨e4, List.forall_mem_nil _⟩⟩⟩) z3)
          · (rename Obj.IsDictOf _ _ (stored _ _ _) => hdS0)
            (rename Obj => oS)
            (obtain ⟨tS, hdS⟩ : ∃ tS, oS.IsDictOf (intKind rw_mu0013_02.row.prog w) (stored kn (y : Int) (.int ((r : Int) + 1) tS)) := ⟨_, hdS0⟩)
            (rename ¬ (_ : Int) < _ + 1 => hck)
            (rename Fr _ _ _ _ => FE)
            (rename News _ _ _ _ => NE)
            (refine' hQI _ _ ?_)
            dsimp only [KgPost]
            (refine' kg_end (((oS, stored kn (y : Int) (.int ((r : Int) + 1) tS)), (ci, cj, ck), si, sj, sk) : (Obj × List (Int × Value)) × (Nat × Nat × Nat) × Tok × Tok × Tok) FE NE ?v1 ?v2 ?v3 ?v4 ?v5 ?v6)
            (case v6 => dsimp only; exact in_keep (by lia) (by lia) hr1 (by lia) hsn hdS hrow' hlt hb' hkl)
            (case v4 => exact List.forall_mem_cons.mpr ⟨by with_unfolding_all rfl, List.forall_mem_cons.mpr ⟨by with_unfolding_all rfl, List.forall_mem_cons.mpr ⟨by with_unfolding_all rfl, List.forall_mem_nil _⟩⟩⟩)
            (case v1 => exact fun p hp => .tail _ hp)
            (case v2 => exact .head _)
            (case v3 => exact List.forall_mem_cons.mpr ⟨fun e => hI2 e.symm, fun p hp => hoff2 p (.tail _ hp)⟩)
            (case v5 =>
              intro z z1 z2 z3
              rw [if_neg (ne_of_stored z3), if_neg z1]
              exact off_ps (List.forall_mem_cons.mpr ⟨z2 _ (.head _), List.forall_mem_cons.mpr ⟨z2 _ (.tail _ (.head _)), List.forall_mem_cons.mpr ⟨z2 _ (.tail _ (.tail _ (.head _))), List.forall_mem_nil _⟩⟩⟩) z3))
      (case xd =>
        rintro ⟨⟨on, kn⟩, ⟨ci, cj, ck⟩, si, sj, sk⟩ u' h9 tk9 ⟨hnd', hrow', hlt, hb', hkl⟩ F9 N9
        dsimp only at hnd' hrow' hlt hb' hkl F9 N9 ⊢
        clear F8 N8
        k_steps
        (rename Fr _ _ _ _ => FE)
        (rename News _ _ _ _ => NE)
        (refine' hQO _ _ ?_)
        dsimp only [KgPost]
        (refine' kg_end (((dn, on, kn), (ci, cj, ck), si, sj, sk) : (Addr × Obj × List (Int × Value)) × (Nat × Nat × Nat) × Tok × Tok × Tok) FE NE ?w1 ?w2 ?w3 ?w4 ?w5 ?w6)
        (case w1 => exact List.forall_mem_cons.mpr ⟨.head _, fun p hp => .tail _ (.tail _ (.tail _ (.tail _ hp)))⟩)
        (case w2 => exact .tail _ (.tail _ (.head _)))
        (case w3 => exact List.forall_mem_cons.mpr ⟨Nat.ne_of_gt hl1.2.1, fun p hp => hoff p (.tail _ hp)⟩)
        (case w4 => exact List.forall_mem_cons.mpr ⟨by with_unfolding_all rfl, List.forall_mem_cons.mpr ⟨by with_unfolding_all rfl, List.forall_mem_cons.mpr ⟨by with_unfolding_all rfl, List.forall_mem_cons.mpr ⟨by with_unfolding_all rfl, List.forall_mem_nil _⟩⟩⟩⟩)
        (case w5 =>
          intro z z1 z2 z3
          (have e1 := z2 _ (.head _))
          (have e2 := z2 _ (.tail _ (.head _)))
          (have e3 := z2 _ (.tail _ (.tail _ (.head _))))
          (have e4 := z2 _ (.tail _ (.tail _ (.tail _ (.head _)))))
          (have e5 : [Str.ofString "k"].contains z = false := not_in (ne_of_in z3 (.tail _ (.tail _ (.tail _ (.head _))))))
          rw [if_neg e1, if_neg (ne_of_in z3 (.tail _ (.tail _ (.head _))))]
          refine (off_ps (List.forall_mem_cons.mpr ⟨e2, List.forall_mem_cons.mpr ⟨e3, List.forall_mem_cons.mpr ⟨e4, List.forall_mem_nil _⟩⟩⟩) e5).trans ?_
          rw [if_neg (ne_of_in z3 (.tail _ (.head _))), if_neg (ne_of_in z3 (.head _)), if_neg z1]
          exact off_ps (List.forall_mem_cons.mpr ⟨e1, List.forall_mem_cons.mpr ⟨e2, List.forall_mem_cons.mpr ⟨e3, List.forall_mem_cons.mpr ⟨e4, List.forall_mem_nil _⟩⟩⟩⟩) z3)
        (case w6 => exact ⟨hnd', hnlo, row_end hrow hrow' hlt hb' (by rw [hjs.length]; exact full_done)⟩)))
    (case zd =>
      rintro ⟨⟨dj, oj, kj⟩, ⟨bi, bj, bk⟩, ti, tj, tkk⟩ u h tk ⟨hjd, hjlo, hjv, hbest⟩ F2 N3
      dsimp only at hjd hjlo hjv hbest F2 N3 ⊢
      clear F1 N2 hjd hjlo hjv
      (have hmax := hbest.max fun x y _ b _ _ => by lia)
      (have ha1 := hbest.a1)
      (have ha2 := hbest.a2)
      (have hb1 := hbest.b1)
      (have hb2 := hbest.b2)
      k_steps
      (unfold Halt)
      (rename Fr _ _ _ _ => F5)
      (rename News _ _ _ _ => N5)
      (refine' while_no F5 N5 hE (fun h7 tk7 F7 N7 => ?ga0) (fun h7 tk7 F7 N7 => ?gb0))
      (case' ga0 => clear F5 N5)
      (case' gb0 => clear F5 N5)
      (case ga0 =>
        k_steps
        all_goals first | exact noB rfl F7 N7 | exact (grow_left hbest hmax h2 h4 (by assumption) (by assumption) (by assumption)).elim)
      k_steps
      (unfold Halt)
      (rename Fr _ _ _ _ => F5)
      (rename News _ _ _ _ => N5)
      (refine' while_no F5 N5 hE (fun h7 tk7 F7 N7 => ?ga1) (fun h7 tk7 F7 N7 => ?gb1))
      (case' ga1 => clear F5 N5)
      (case' gb1 => clear F5 N5)
      (case ga1 =>
        k_steps
        all_goals first | exact noB rfl F7 N7 | exact (grow_right hbest hmax h2 h4 (by assumption) (by assumption) (by assumption)).elim)
      k_steps
      (unfold Halt)
      (rename Fr _ _ _ _ => F5)
      (rename News _ _ _ _ => N5)
      (refine' while_no F5 N5 hE (fun h7 tk7 F7 N7 => ?ga2) (fun h7 tk7 F7 N7 => ?gb2))
      (case' ga2 => clear F5 N5)
      (case' gb2 => clear F5 N5)
      (case ga2 =>
        k_steps
        all_goals first | exact noB rfl F7 N7 | exact (grow_left hbest hmax h2 h4 (by assumption) (by assumption) (by assumption)).elim)
      k_steps
      (unfold Halt)
      (rename Fr _ _ _ _ => F5)
      (rename News _ _ _ _ => N5)
      (refine' while_no F5 N5 hE (fun h7 tk7 F7 N7 => ?ga3) (fun h7 tk7 F7 N7 => ?gb3))
      (case' ga3 => clear F5 N5)
      (case' gb3 => clear F5 N5)
      (case ga3 =>
        k_steps
        all_goals first | exact noB rfl F7 N7 | exact (grow_right hbest hmax h2 h4 (by assumption) (by assumption) (by assumption)).elim)
      k_steps
      (unfold Halt)
      (rename Fr _ _ _ _ => F5)
      (rename News _ _ _ _ => N5)
      exact ret _ _ _ bi bj bk ti tj tkk F5 (fun p hp => N5 p (.tail _ hp)) ⟨hbest.a1, hbest.a2, hbest.b1, hbest.b2, hbest.blk, hmax⟩))
end
section
open PySem PySem.W PyProof.Rows PySem.Challenge
set_option Elab.async false
set_option maxRecDepth 100000
set_option maxHeartbeats 4000000
local macro_rules | `(tactic| walk_at "getAttr ref") => `(tactic| (k_here; (with_reducible show wpAny _ _ (getAttr (Value.ref _) (Str.ofString "__contains__") _) _ _ _); k_dflt (refine' boundIn (by k_asm) (by k_asm) (by k_mem) ?_); intros; (try k_sweep)))
local macro_rules | `(tactic| walk_at "execs cons") => `(tactic| ((with_reducible show wpAny _ _ (execs [_, _, _, _, _, _] _) _ _ _); refine halt ?_))
theorem flm_tells {w : World} {dp un : Nat} {gd : Option (List Code)} {cn : Str} {cs : Scope} {a : Addr} {ccd : Value} {cl : List (Str × Addr)} {outer : List Env} {A₀ : Around} {base h₀ : Heap} {L : Addr} {m : Str → Option Value} {news : List (Addr × Obj)} {s : Shared}
    {mean : ExcName → Option Value} {mg mb : Str → Option Value} {x d la lb D S1 S2 : Addr} {t1 t2 t3 t4 t5 t6 t7 t8 t9 t10 : Tok} {mv : Value} {led : Bool} {va vb : List Value} {na nb : Nat} {as bs : List Int} {kvs : List (Int × Value)} {o : Obj} {ls : List (Addr × Obj)} {alo ahi blo bhi : Nat} {u1 u2 u3 u4 : Tok} {Q E : Value → Shared → Prop}
    (B : Below A₀ base outer h₀) (F : Fr h₀ L s.heap m) (N : News h₀ L s.heap news) (T : Top q2 (looseW q2 loose2) mean mg mb h₀) (hk : cs.kind = .function)
    (hx : (x, instObj 242 d) ∈ news) (hdd : (d, dictOf (es10 w t1 t2 t3 t4 t5 t6 t7 t8 t9 t10 la lb D S1 S2 mv) 10) ∈ news) (hS : (S1, setE led) ∈ news) (hD : (D, o) ∈ news) (hls : ∀ p ∈ ls, p ∈ news) (hla : (la, listOf va.toArray na) ∈ news) (hlb : (lb, listOf vb.toArray nb) ∈ news)
    (hDo : o.IsDictOf (intKind rw_mu0013_02.row.prog w) kvs) (hlo : (D == sysModules) = false) (hB : B2J bs kvs ls) (hia : IntsAre va as) (hib : IntsAre vb bs) (hal : as.length ≤ 1000) (hbl : bs.length ≤ 1000)
    (h1 : alo ≤ ahi) (h2 : ahi ≤ as.length) (h3 : blo ≤ bhi) (h4 : bhi ≤ bs.length) (hd : dp + 60 < recursionLimit) (hu : un + 400 < cLine)
    (ret : ∀ r dd h' tk' (i j k : Nat) ti tj tkk, Fr h₀ L h' m → News h₀ L h' ((r, matchObj dd (.int (i : Int) ti) (.int (j : Int) tj) (.int (k : Int) tkk)) :: news) → (∀ p ∈ news, p.1 < r) → Found (Mt as bs) alo ahi blo bhi i j k → Q (.ref r) { s with heap := h', toks := tk' }) :
    (K2 w.params).In h₀ → wpAny (model rw_mu0013_02.row.prog w) (ktrTop dp un gd cn cs L a ccd cl outer) (call (.ref 196) [.ref x, .int (alo : Int) u1, .int (ahi : Int) u2, .int (blo : Int) u3, .int (bhi : Int) u4]) Q E s := by
  w_on
  k_fill
  intro X
  obtain ⟨ck, cnm, cig, cic, cmo⟩ := cs
  change ck = _ at hk
  subst hk
  refine wpAny_call ?_
  w_strict (
    k_dflt k_enter
    (have hb := Eq.refl (bodyOf (sub 5 6)))
    (conv at hb => rhs; whnf)
    rw [hb]
    clear hb
    (have mk := kstMark)
    (rename Fr _ _ _ _ => F1)
    (have F3 : Fr _ _ _ (fun y => List.lookup y [(Str.ofString "bhi", Value.int (bhi : Int) u4), (Str.ofString "blo", Value.int (blo : Int) u3), (Str.ofString "ahi", Value.int (ahi : Int) u2), (Str.ofString "alo", Value.int (alo : Int) u1), (Str.ofString "self", Value.ref x)]) := F1)
    (clear F1)
    k_steps
    (unfold Halt)
    (rename Fr _ _ _ _ => F9)
    (rename News _ _ _ _ => N9)
    (refine' flm_out F9 (news_swap N9) ?b1 ?b2 ?b3 ?b4 ?b5 ?b6 ?b7 ?b8 ?b9 ?b10 ?b11 hDo hlo hB hia hib hal hbl h1 h2 h3 h4 ?b12 ?b13)
    (case b1 => assumption)
    (case b2 => passes_own)
    (case b3 => assumption)
    (case b4 => assumption)
    (case b5 => k_mem)
    (case b6 => k_mem)
    (case b7 => k_mem)
    (case b8 => k_mem)
    (case b9 => exact fun p hp => .tail _ (.tail _ (.tail _ (.tail _ (hls p hp)))))
    (case b10 => k_mem)
    (case b11 => k_mem)
    (case b13 => assumption)
    (intro h8 tk8 m8 bi bj bk ti tj tkk F8 N8 hf
     refine' match_tells (i := (bi : Int)) (j := (bj : Int)) (k := (bk : Int)) ?c1 F8 N8 ?c2 rfl ?c3 ?c4 ?c5 ?c6)
    (case c1 => k_asm)
    (case c2 => k_asm)
    (case c3 => ktr_room)
    (case c4 => ktr_units)
    (case c6 => k_asm)
    (intro r dd h7 tk7 F7 N7 l7
     refine leaveK_ F7 N7 fun FL NL => ?_
     exact ret r dd h7 tk7 bi bj bk ti tj tkk FL (fun p hp => NL p (by
       rcases List.mem_cons.mp hp with rfl | hp
       · exact .head _
       · exact .tail _ (.tail _ (.tail _ (.tail _ (.tail _ hp)))))) (fun p hp => l7 p (.tail _ (.tail _ (.tail _ (.tail _ hp))))) hf))
end
section
open PySem PySem.W PyProof.Rows PySem.Challenge PySem.Spec PySem.Calls Builtin
set_option Elab.async false
set_option maxRecDepth 100000
set_option maxHeartbeats 1000000
theorem nd_update {α : Type} {M : Model} {A : Around} {Q : α → Shared → Prop} {E : Value → Shared → Prop} {s : Shared} {a : Addr} {p : Option Value} {f : Obj → Obj} {k : Unit → Sem α} {o : Obj} (ho : s.heap.get? a = some o) (h : wpAny M A (k ()) Q E { s with heap := s.heap.update a f }) : wpAny M A (.update a p f k) Q E s :=
  fun Γ q hΓ => ⟨by rw [ho]; rfl, h Γ q hΓ⟩
noncomputable abbrev tupIt (t : Addr) (i : Nat) : Obj := { cls := .type "tuple_iterator", data := .fields #[.ref t, .int i 0] }
/-- the next of three -/
theorem next_three {prog : Program} {w : World} {A : Around} {E : Value → Shared → Prop} {Q : Option Value → Shared → Prop} {hp : Heap} {gs : Array GenState} {dr : Drawn} {tk : Nat} {os : OsState} {it t : Addr} {c : Value} {dd : Option Addr} {a b d x : Value} {nl i : Nat}
    (hit : hp.get? it = some (tupIt t i)) (hol : hp.get? t = some ⟨c, dd, .seq #[a, b, d] nl, #[]⟩) (hx : (#[a, b, d] : Array Value)[i]? = some x)
    (h : Q (some x) ⟨hp.update it (Obj.mapFields fun y => y.setIfInBounds 1 (.int ((i : Int) + 1) 0)), gs, dr, tk, os⟩) :
    wpAny (model prog w) A (pyNext (.ref it)) Q E ⟨hp, gs, dr, tk, os⟩ := by
  have f1 : Looks (model prog w) hp (typeLookup (.type "tuple_iterator") "__next__") (some (.builtin "tuple_iterator.__next__")) := Looks.of_pure F.slot_tuple_iterator_next.lookup
  have f2 : Looks (model prog w) hp (bindSpecial (.builtin "tuple_iterator.__next__") (.ref it)) (.builtin "tuple_iterator.__next__", [.ref it]) := Looks.of_pure (F.slot_tuple_iterator_next.bind (.ref it))
  repeat lk
  refine nd_call (codeAny_call_builtin F.slot_tuple_iterator_next.plain F.entry_tuple_iterator_next (F.slot_tuple_iterator_next.check _ _ _ _ _ _ _ _ ⟨_, hit, rfl⟩ (F.args_tuple_iterator_next_1 _) ?_))
  match i, hx with
  | 0, hx | 1, hx | 2, hx =>
    cases hx
    repeat (first | lk | (refine nd_update hit ?_))
    exact h
theorem nd_handled {α : Type} {M : Model} {A : Around} {Q : α → Shared → Prop} {E : Value → Shared → Prop} {s : Shared} {k : Option Value → Sem α} (hh : A.handled = none) (h : wpAny M A.in1 (k none) Q E s) : wpAny M A.in1 (.handled false k) Q E s :=
  fun Γ q hΓ => by
    show Sem.wp M Γ (k Γ.handled) _ _ q s
    rw [hΓ.1, show A.in1.handled = none from hh]
    exact h Γ q hΓ
theorem nd_raise {α : Type} {M : Model} {A : Around} {Q : α → Shared → Prop} {E : Value → Shared → Prop} {s : Shared} {e : Value} (h : E e s) : wpAny M A (.raise e : Sem α) Q E s := fun _ _ _ => h
theorem end_three {prog : Program} {w : World} {A : Around} {E : Value → Shared → Prop} {Q : Option Value → Shared → Prop} {hp : Heap} {gs : Array GenState} {dr : Drawn} {tk : Nat} {os : OsState} {it t : Addr} {c : Value} {dd : Option Addr} {a b d : Value} {nl : Nat} (hh : A.handled = none)
    (hit : hp.get? it = some (tupIt t 3)) (hol : hp.get? t = some ⟨c, dd, .seq #[a, b, d] nl, #[]⟩)
    (h : ∀ h', Heap.ExtBut it hp h' → Q none ⟨h', gs, dr, tk, os⟩) :
    wpAny (model prog w) A (pyNext (.ref it)) Q E ⟨hp, gs, dr, tk, os⟩ := by
  have f1 : Looks (model prog w) hp (typeLookup (.type "tuple_iterator") "__next__") (some (.builtin "tuple_iterator.__next__")) := Looks.of_pure F.slot_tuple_iterator_next.lookup
  have f2 : Looks (model prog w) hp (bindSpecial (.builtin "tuple_iterator.__next__") (.ref it)) (.builtin "tuple_iterator.__next__", [.ref it]) := Looks.of_pure (F.slot_tuple_iterator_next.bind (.ref it))
  repeat lk
  refine nd_call (codeAny_call_builtin F.slot_tuple_iterator_next.plain F.entry_tuple_iterator_next (F.slot_tuple_iterator_next.check _ _ _ _ _ _ _ _ ⟨_, hit, rfl⟩ (F.args_tuple_iterator_next_1 _) ?_))
  repeat (first | lk | (refine nd_update hit ?_) | (refine nd_handled hh ?_) | (with_reducible refine wpAny_throw ?_))
  have f3 : ∀ H : Heap, Looks (model prog w) H (isSubtype (.type "StopIteration") (.type "StopIteration")) true := fun H => Looks.of_pure isSubtype_stop
  refine nd_raise ?_
  show wpAny _ _ _ _ _ _
  repeat (first | (with_reducible refine (f3 _).at ?_) | lk | (refine nd_load (Heap.get?_push_size _ rfl) ?_; try dsimp only) | (refine nd_raise ?_; show wpAny _ _ _ _ _ _))
  exact h _ (((Heap.SameBut.update ..).extBut.push _).push _)
end
section
open PySem PySem.W PyProof.Rows PySem.Challenge PySem.Spec PySem.Calls Builtin
set_option Elab.async false
set_option maxRecDepth 100000
set_option maxHeartbeats 1000000
theorem iter_match {w : World} {A : Around} {E : Value → Shared → Prop} {Q : Value → Shared → Prop} {hp : Heap} {gs : Array GenState} {dr : Drawn} {tk : Nat} {os : OsState} {r dd : Addr} {a b d : Value}
    (hm : hp.get? r = some (matchObj dd a b d)) (h : Q (.ref hp.objs.size) ⟨hp.push (tupIt r 0), gs, dr, tk, os⟩) :
    (K2 w.params).In hp → wpAny (model rw_mu0013_02.row.prog w) A (pyIter (.ref r)) Q E ⟨hp, gs, dr, tk, os⟩ := by
  w_on
  k_fill
  intro X
  have k1 : Looks (model rw_mu0013_02.row.prog w) hp (typeOf (.ref r)) (.ref 135) := (Looks.ld hm).andThen .now
  have k3 : Looks (model rw_mu0013_02.row.prog w) hp (typeLookup (.ref 135) "__iter__") (some (.builtin "tuple.__iter__")) := looks_findIn X (by k_is)
  have k6 : Looks (model rw_mu0013_02.row.prog w) hp (isSubtype (.ref 135) (.type "tuple")) true := looks_subIn X (by k_is)
  have k7 : Looks (model rw_mu0013_02.row.prog w) hp (isInstance (.ref r) (.type "tuple")) true := k1.andThen k6
  have k5 : Looks (model rw_mu0013_02.row.prog w) hp (bindSpecial (.builtin "tuple.__iter__") (.ref r)) (.builtin "tuple.__iter__", [.ref r]) := Looks.of_pure (F.slot_tuple_iter.bind _)
  unfold pyIter
  repeat lk
  refine wpAny_ite ?_
  split
  all_goals
    repeat (first | lk | (with_reducible refine wpAny_tryCatch ?_))
  all_goals
    refine nd_call (codeAny_call_builtin F.slot_tuple_iter.plain F.entry_tuple_iter (check_slot (n := "__iter__") (rest := []) (by decide +kernel) (by decide +kernel) k7 (F.args_tuple_iter_1 _) ?_))
    repeat lk
  all_goals
    refine nd_load (Heap.get?_push_size _ rfl) ?_
    have f9 : Looks (model rw_mu0013_02.row.prog w) (hp.push { cls := .type "tuple_iterator", data := .fields #[.ref r, rawInt 0] }) (typeLookup (.type "tuple_iterator") "__next__") (some (.builtin "tuple_iterator.__next__")) := Looks.of_pure F.slot_tuple_iterator_next.lookup
    repeat lk
    exact h
end
section
open PySem PySem.W PyProof.Rows PySem.Challenge PySem.Spec PySem.Calls Builtin
set_option Elab.async false
set_option maxRecDepth 100000
set_option maxHeartbeats 1000000
noncomputable abbrev stepIt (i : Nat) : Obj → Obj := Obj.mapFields fun y => y.setIfInBounds 1 (.int ((i : Int) + 1) 0)
theorem upd_it {hp : Heap} {it t : Addr} {i : Nat} (h : hp.get? it = some (tupIt t i)) : (hp.update it (stepIt i)).get? it = some (tupIt t (i + 1)) := by
  rw [Heap.get?_update_self _ h rfl]
  rfl
theorem upd_ne {hp : Heap} {it t : Addr} {o : Obj} {i : Nat} (ne : t ≠ it) (h : hp.get? t = some o) : (hp.update it (stepIt i)).get? t = some o := by
  rw [Heap.get?_update_ne _ _ _ _ ne]
  exact h
theorem draw3 {prog : Program} {w : World} {A : Around} {E : Value → Shared → Prop} {Q : List Value → Shared → Prop} {hp : Heap} {gs : Array GenState} {dr : Drawn} {tk : Nat} {os : OsState} {it t : Addr} {c : Value} {dd : Option Addr} {a b d : Value} {nl : Nat}
    (hit : hp.get? it = some (tupIt t 0)) (hol : hp.get? t = some ⟨c, dd, .seq #[a, b, d] nl, #[]⟩) (ne : t ≠ it)
    (h : Q [a, b, d] ⟨((hp.update it (stepIt 0)).update it (stepIt 1)).update it (stepIt 2), gs, dr, tk, os⟩) :
    wpAny (model prog w) A (draw (.ref it) 3) Q E ⟨hp, gs, dr, tk, os⟩ := by
  have h1 : (hp.update it (stepIt 0)).get? it = some (tupIt t 1) := upd_it hit
  have h2 : ((hp.update it (stepIt 0)).update it (stepIt 1)).get? it = some (tupIt t 2) := upd_it h1
  have g1 := upd_ne (i := 0) ne hol
  have g2 := upd_ne (i := 1) ne g1
  repeat (first | (with_reducible refine next_three hit hol rfl ?_) | (with_reducible refine next_three h1 g1 rfl ?_) | (with_reducible refine next_three h2 g2 rfl ?_) | lk)
  exact h
theorem unpack_match {w : World} {A : Around} {E : Value → Shared → Prop} {Q : List Value → Shared → Prop} {hp : Heap} {gs : Array GenState} {dr : Drawn} {tk : Nat} {os : OsState} {r dd : Addr} {a b d : Value} (hh : A.handled = none)
    (hm : hp.get? r = some (matchObj dd a b d)) (h : ∀ h', Heap.ExtBut hp.objs.size hp h' → Q [a, b, d] ⟨h', gs, dr, tk, os⟩) :
    (K2 w.params).In hp → wpAny (model rw_mu0013_02.row.prog w) A (unpackItems (.ref r) 3 none) Q E ⟨hp, gs, dr, tk, os⟩ := by
  w_on
  k_fill
  intro X
  have k1 : Looks (model rw_mu0013_02.row.prog w) hp (typeOf (.ref r)) (.ref 135) := (Looks.ld hm).andThen .now
  have k3 : Looks (model rw_mu0013_02.row.prog w) hp (typeLookup (.ref 135) "__iter__") (some (.builtin "tuple.__iter__")) := looks_findIn X (by k_is)
  have hne : r ≠ hp.objs.size := Nat.ne_of_lt (Heap.lt_size hm)
  have hit : (hp.push (tupIt r 0)).get? hp.objs.size = some (tupIt r 0) := Heap.get?_push_size _ rfl
  have hol : (hp.push (tupIt r 0)).get? r = some (matchObj dd a b d) := Heap.get?_push_of_some _ hm
  have h3 : ((((hp.push (tupIt r 0)).update hp.objs.size (stepIt 0)).update hp.objs.size (stepIt 1)).update hp.objs.size (stepIt 2)).get? hp.objs.size = some (tupIt r 3) := upd_it (upd_it (upd_it hit))
  have g3 := upd_ne (i := 2) hne (upd_ne (i := 1) hne (upd_ne (i := 0) hne hol))
  unfold unpackItems
  repeat (first | (with_reducible refine iter_match hm ?_ X) | (with_reducible refine draw3 hit hol hne ?_) | (with_reducible refine end_three hh h3 g3 ?_) | lk)
  intro h' x
  repeat lk
  refine h h' (fun z o hz e => x z o hz ?_)
  rw [Heap.get?_update_ne _ _ _ _ hz, Heap.get?_update_ne _ _ _ _ hz, Heap.get?_update_ne _ _ _ _ hz]
  exact Heap.get?_push_of_some _ e
end
section
open PySem PySem.W PyProof.Rows PySem.Challenge
set_option Elab.async false
set_option maxRecDepth 100000
set_option maxHeartbeats 400000
/-! the sort's tree of questions: whatever is answered, it ends with a permutation -/
noncomputable def TAll {α : Type} (N : Nat) (P : α → Prop) : KasT α → Prop
  | .ret a => P a
  | .ask i j k => i < N ∧ j < N ∧ ∀ b, TAll N P (k b)
theorem TAll.mono {α : Type} {N : Nat} {P R : α → Prop} (h : ∀ a, P a → R a) : ∀ {t : KasT α}, TAll N P t → TAll N R t
  | .ret a, p => h a p
  | .ask _ _ _, p => ⟨p.1, p.2.1, fun b => (p.2.2 b).mono h⟩
theorem TAll.bind {α β : Type} {N : Nat} {P : α → Prop} {R : β → Prop} {f : α → KasT β} (h : ∀ a, P a → TAll N R (f a)) : ∀ {t : KasT α}, TAll N P t → TAll N R (t.bind f)
  | .ret a, p => h a p
  | .ask _ _ k, p => ⟨p.1, p.2.1, fun b => TAll.bind (t := k b) h (p.2.2 b)⟩
theorem TAll.wp {α : Type} {N : Nat} {P : α → Prop} {cmp : Nat → Nat → (Bool → Shared → Prop) → Shared → Prop} {R : Shared → Prop} {Q : α → Shared → Prop}
    (hc : ∀ i j C s, i < N → j < N → R s → (∀ b s', R s' → C b s') → cmp i j C s) (hq : ∀ a s', P a → R s' → Q a s') : ∀ {t : KasT α} {s : Shared}, TAll N P t → R s → t.kasWp cmp Q s
  | .ret a, s, p, r => hq a s p r
  | .ask i j k, s, p, r => hc i j _ s p.1 p.2.1 r fun b s' r' => TAll.wp hc hq (t := k b) (p.2.2 b) r'
noncomputable def IsP (N : Nat) (p : Array Nat) : Prop := p.toList.Perm (List.range N)
theorem IsP.at {N : Nat} {p : Array Nat} (h : IsP N p) (h0 : 0 < N) (i : Nat) : p.getD i 0 < N := by
  by_cases hi : i < p.size
  · have e : p.getD i 0 = p[i] := by simp [Array.getD, hi]
    rw [e]
    exact List.mem_range.mp (h.mem_iff.mp (by simp))
  · have e : p.getD i 0 = 0 := by simp [Array.getD, hi]
    lia
theorem IsP.of {N : Nat} {p q : Array Nat} (h : IsP N p) (e : q.Perm p) : IsP N q := (Array.perm_iff_toList_perm.mp e).trans h
theorem IsP.rev {N : Nat} {p : Array Nat} (h : IsP N p) (i j : Nat) : IsP N (kas_rev p i j) := h.of (mirror_perm _ _ _ _)
theorem tall_asc {N : Nat} {p : Array Nat} (h0 : 0 < N) (h : IsP N p) : ∀ (f n : Nat), TAll N (fun _ => True) (kas_asc p f n)
  | 0, _ => trivial
  | f + 1, n => ⟨h.at h0 _, h.at h0 _, fun b => by cases b <;> first | exact tall_asc h0 h f (n + 1) | exact trivial⟩
theorem tall_desc {N : Nat} (h0 : 0 < N) : ∀ (f : Nat) (p : Array Nat) (n q : Nat), IsP N p → TAll N (fun r => IsP N r.1) (kas_desc f p n q)
  | 0, _, _, _, h => h
  | f + 1, p, n, q, h => ⟨h.at h0 _, h.at h0 _, fun b => by
    cases b with
    | true =>
      show TAll N _ (if q > 0 then _ else _)
      split
      · exact tall_desc h0 f _ _ _ (h.rev _ _)
      · exact tall_desc h0 f _ _ _ h
    | false => exact ⟨h.at h0 _, h.at h0 _, fun d => by cases d <;> first | exact tall_desc h0 f p _ _ h | exact h⟩⟩
theorem tall_tail3 {N : Nat} (h0 : 0 < N) {n nrem : Nat} {p : Array Nat} (h : IsP N p) : TAll N (fun r => IsP N r.2) (kas_tail3 n nrem p) :=
  TAll.bind (N := N) (P := fun _ => True) (f := fun m => .ret (m, kas_rev p 0 n)) (R := fun r : Nat × Array Nat => IsP N r.2) (fun _ _ => (h.rev 0 n : IsP N (kas_rev p 0 n))) (tall_asc h0 (h.rev _ _) _ _)
theorem tall_descPart {N : Nat} (h0 : 0 < N) {n nrem : Nat} {p : Array Nat} (h : IsP N p) : TAll N (fun r => IsP N r.2) (kas_descPart n nrem p) :=
  TAll.bind (fun r hr => by
    show TAll N _ (if r.2.2 > 0 then _ else _)
    split
    · exact tall_tail3 h0 (IsP.rev hr _ _)
    · exact tall_tail3 h0 hr) (tall_desc h0 _ _ _ _ h)
theorem tall_count {N : Nat} (h0 : 0 < N) {nrem : Nat} {p : Array Nat} (h : IsP N p) : TAll N (fun r => IsP N r.2) (kas_count nrem p) :=
  TAll.bind (fun n _ => by
    show TAll N _ (if (n == nrem) = true then _ else if n > 1 then _ else _)
    split
    · exact h
    · split
      · exact ⟨h.at h0 _, h.at h0 _, fun b => by cases b <;> first | exact tall_descPart h0 (h.rev _ _) | exact h⟩
      · exact tall_descPart h0 h) (tall_asc h0 h _ _)
theorem tall_place {N : Nat} {p : Array Nat} (h0 : 0 < N) (h : IsP N p) (k : Nat) : ∀ (f l r : Nat), TAll N (fun _ => True) (kas_place p k f l r)
  | 0, _, _ => trivial
  | f + 1, l, r => by
    show TAll N _ (if l ≥ r then _ else _)
    split
    · exact trivial
    · exact ⟨h.at h0 _, h.at h0 _, fun b => by cases b <;> exact tall_place h0 h k f _ _⟩
theorem tall_bin {N : Nat} (h0 : 0 < N) : ∀ (f : Nat) (p : Array Nat) (k : Nat), IsP N p → TAll N (IsP N) (kas_bin f p k)
  | 0, _, _, h => h
  | f + 1, p, k, h => TAll.bind (fun _ _ => tall_bin h0 f _ _ (h.of (bubble_perm _ _ _))) (tall_place h0 h k _ _ _)
theorem tall_sort {N : Nat} (h0 : 0 < N) : TAll N (IsP N) (kas_sort N) :=
  TAll.bind (fun r hr => by
    show TAll N _ (if r.1 < N then _ else _)
    split
    · exact tall_bin h0 _ _ _ hr
    · exact hr) (tall_count h0 (List.Perm.refl _))
theorem isP_map {α : Type} {vs : List α} {d : α} {p : Array Nat} (h : IsP vs.length p) : (p.toList.map fun i => vs.getD i d).Perm vs := by
  have e : (List.range vs.length).map (fun i => vs.getD i d) = vs := by
    apply List.ext_getElem
    · simp
    · intro i h1 h2
      simp [List.getD, h2]
  have := h.map (fun i => vs.getD i d)
  rwa [e] at this
end
section
open PySem PySem.W PyProof.Rows PySem.Challenge PySem.Spec PySem.Calls Builtin
set_option Elab.async false
set_option maxRecDepth 100000
set_option maxHeartbeats 1000000
theorem kind_tlt : builtinKind "tuple.__lt__" = some .slot := by decide +kernel
theorem split_tlt : splitId "tuple.__lt__" = some ("tuple", "__lt__") := by decide +kernel
theorem looks_quiet {α : Type} {M : Model} {hp : Heap} {m : Sem α} {f : Value → Sem α} {r : α} {c : Prop} {dec : Decidable c} (x : Looks M hp m r) : Looks M hp (if c then m else m.tryCatch f) r := by
  intro A Q E s k q
  refine wpAny_ite ?_
  split
  · exact x A Q E s k q
  · exact wpAny_tryCatch (x A _ _ s k q)
theorem rc_lt {prog : Program} {w : World} {A : Around} {E : Value → Shared → Prop} {s : Shared} {a b : Int} {t u : Tok} {Q : Value → Shared → Prop} (h : ∀ r, Q (.bool r) s) : wpAny (model prog w) A (richCompare .Lt (.int a t) (.int b u)) Q E s :=
  show wpAny (model prog w) A (compareOp .Lt (.int a t) (.int b u)) Q E s from PyProof.Rows.lt_int (h _)
theorem tuple_lt_tree {prog : Program} {w : World} {A : Around} {E : Value → Shared → Prop} {P : PySem.Fin → Shared → Prop} {hp : Heap} {gs : Array GenState} {dr : Drawn} {tk : Nat} {os : OsState} {x y dx dy : Addr} {a b c d e f : Int} {ta tb tc td te tf : Tok}
    (hx : hp.get? x = some (matchObj dx (.int a ta) (.int b tb) (.int c tc))) (hy : hp.get? y = some (matchObj dy (.int d td) (.int e te) (.int f tf))) (k8 : Looks (model prog w) hp (isInstance (.ref y) (.type "tuple")) true)
    (h : ∀ r, P (.done (.ret (.bool r))) ⟨hp, gs, dr, tk, os⟩) : wpAny (model prog w) A (Builtin.«tuple.__lt__» ⟨[.ref x, .ref y], []⟩) P E ⟨hp, gs, dr, tk, os⟩ := by
  unfold Builtin.«tuple.__lt__»
  repeat (first | (with_reducible refine wpAny_eqBool_int ?_) | lk)
  refine wpAny_ite ?_
  split
  · repeat (first | ((with_reducible refine rc_lt ?_); intro r) | lk)
    exact h _
  repeat (first | (with_reducible refine wpAny_eqBool_int ?_) | lk)
  refine wpAny_ite ?_
  split
  · repeat (first | ((with_reducible refine rc_lt ?_); intro r) | lk)
    exact h _
  repeat (first | (with_reducible refine wpAny_eqBool_int ?_) | lk)
  refine wpAny_ite ?_
  split
  · repeat (first | ((with_reducible refine rc_lt ?_); intro r) | lk)
    exact h _
  repeat lk
  exact h _
theorem match_lt {w : World} {A : Around} {E : Value → Shared → Prop} {Q : Bool → Shared → Prop} {hp : Heap} {gs : Array GenState} {dr : Drawn} {tk : Nat} {os : OsState} {x y dx dy : Addr} {a b c d e f : Int} {ta tb tc td te tf : Tok} (hu : A.units < cLine)
    (hx : hp.get? x = some (matchObj dx (.int a ta) (.int b tb) (.int c tc))) (hy : hp.get? y = some (matchObj dy (.int d td) (.int e te) (.int f tf))) (h : ∀ r, Q r ⟨hp, gs, dr, tk, os⟩) :
    (K2 w.params).In hp → wpAny (model rw_mu0013_02.row.prog w) A (keyLt' oneType' (.ref x) (.ref y)) Q E ⟨hp, gs, dr, tk, os⟩ := by
  w_on
  k_fill
  intro X
  have k1 : Looks (model rw_mu0013_02.row.prog w) hp (typeOf (.ref x)) (.ref 135) := (Looks.ld hx).andThen .now
  have k2 : Looks (model rw_mu0013_02.row.prog w) hp (typeOf (.ref y)) (.ref 135) := (Looks.ld hy).andThen .now
  have k3 : Looks (model rw_mu0013_02.row.prog w) hp (typeLookup (.ref 135) "__lt__") (some (.builtin "tuple.__lt__")) := looks_findIn X (by k_is)
  have k6 : Looks (model rw_mu0013_02.row.prog w) hp (isSubtype (.ref 135) (.type "tuple")) true := looks_subIn X (by k_is)
  have k7 : Looks (model rw_mu0013_02.row.prog w) hp (isInstance (.ref x) (.type "tuple")) true := k1.andThen k6
  have k8 : Looks (model rw_mu0013_02.row.prog w) hp (isInstance (.ref y) (.type "tuple")) true := k2.andThen k6
  have k5 : Looks (model rw_mu0013_02.row.prog w) hp (bindSpecial (.builtin "tuple.__lt__") (.ref x)) (.builtin "tuple.__lt__", [.ref x]) := Looks.of_pure (F.slot_tuple_lt.bind _)
  rw [keyLt'_oneType, oneLt'_eq]
  simp only [if_true]
  refine wpAny_bind (wpAny_cRoomFor hu ?_)
  unfold callSpecialIfBound? bindSpecialIfBound? specialOf
  repeat lk
  refine Looks.at (looks_quiet (r := some (.builtin "tuple.__lt__", [.ref x])) (k5.andThen Looks.now)) ?_
  repeat lk
  refine nd_call (codeAny_call_builtin F.slot_tuple_lt.plain F.entry_tuple_lt (check_slot (n := "__lt__") (rest := [.ref y]) (by decide +kernel) (by decide +kernel) k7 (F.args_tuple_lt_2 _ _) ?_))
  refine tuple_lt_tree hx hy k8 fun r => ?_
  repeat lk
  exact h r
end
section
open PySem PySem.W PyProof.Rows PySem.Challenge
set_option Elab.async false
set_option maxRecDepth 100000
set_option maxHeartbeats 400000
/-! plain law of get_matching_blocks -/
noncomputable abbrev Rect := Nat × Nat × Nat × Nat
inductive TotQ (M : Nat → Nat → Prop) : List Rect → Nat → Prop
  | nil : TotQ M [] 0
  | cons {a b c d t1 t2 : Nat} {rs : List Rect} : Tot M a b c d t1 → TotQ M rs t2 → TotQ M ((a, b, c, d) :: rs) (t1 + t2)
theorem Tot.off {M : Nat → Nat → Prop} {alo ahi blo bhi : Nat} (e : ahi ≤ alo ∨ bhi ≤ blo) : Tot M alo ahi blo bhi 0 := .stop fun i j _ _ _ _ => by lia
theorem Tot.le {M : Nat → Nat → Prop} {alo ahi blo bhi t : Nat} (h : Tot M alo ahi blo bhi t) : t ≤ ahi - alo ∧ t ≤ bhi - blo := by
  induction h with
  | stop _ => exact ⟨Nat.zero_le _, Nat.zero_le _⟩
  | pick hk h1 h2 h3 h4 hb hmax _ _ ihl ihr => lia
theorem turn_none {M : Nat → Nat → Prop} {alo ahi blo bhi i j : Nat} {rest : List Rect} {G : Nat → Prop} (hf : Found M alo ahi blo bhi i j 0) (h : ∀ t, TotQ M ((alo, ahi, blo, bhi) :: rest) t → G t) (t : Nat) (ht : TotQ M rest t) : G t := by
  have e : Tot M alo ahi blo bhi 0 := .stop fun x y a b c d e => by
    have := hf.max x y 1 a (by lia) c (by lia) (fun t ht => by
      have : t = 0 := by lia
      subst this
      exact e)
    lia
  have := h _ (.cons e ht)
  rwa [Nat.zero_add] at this
theorem turn_pick {M : Nat → Nat → Prop} {alo ahi blo bhi i j k : Nat} {rest ls rs : List Rect} {G : Nat → Prop} (hf : Found M alo ahi blo bhi i j k) (hk : 0 < k) (h : ∀ t, TotQ M ((alo, ahi, blo, bhi) :: rest) t → G t)
    (hl : (ls = [] ∧ ¬ (alo < i ∧ blo < j)) ∨ ls = [(alo, i, blo, j)]) (hr : (rs = [] ∧ ¬ (i + k < ahi ∧ j + k < bhi)) ∨ rs = [(i + k, ahi, j + k, bhi)]) (t : Nat) (ht : TotQ M (rs ++ (ls ++ rest)) t) : G (k + t) := by
  obtain ⟨a1, a2, b1, b2, blk, hm⟩ := hf
  have left : ∀ t, TotQ M (ls ++ rest) t → ∃ t1 t2, t = t1 + t2 ∧ Tot M alo i blo j t1 ∧ TotQ M rest t2 := by
    intro t ht
    rcases hl with ⟨rfl, hn⟩ | rfl
    · exact ⟨0, t, by lia, Tot.off (by lia), ht⟩
    · cases ht with
      | cons x y => exact ⟨_, _, rfl, x, y⟩
  have right : ∃ t1 t2, t = t1 + t2 ∧ Tot M (i + k) ahi (j + k) bhi t1 ∧ TotQ M (ls ++ rest) t2 := by
    rcases hr with ⟨rfl, hn⟩ | rfl
    · exact ⟨0, t, by lia, Tot.off (by lia), ht⟩
    · cases ht with
      | cons x y => exact ⟨_, _, rfl, x, y⟩
  obtain ⟨t1, t2, rfl, x1, x2⟩ := right
  obtain ⟨t3, t4, rfl, x3, x4⟩ := left _ x2
  have := h _ (.cons (.pick hk a1 a2 b1 b2 blk hm x3 x1) x4)
  rwa [show k + t3 + t1 + t4 = k + (t1 + (t3 + t4)) by lia] at this
/-- the queue's measure -/
noncomputable def measQ : List Rect → Nat
  | [] => 0
  | r :: rs => 2 * (r.2.1 - r.1) + 1 + measQ rs
theorem measQ_app (a b : List Rect) : measQ (a ++ b) = measQ a + measQ b := by
  induction a with
  | nil => simp [measQ]
  | cons x a ih => simp only [List.cons_append, measQ, ih]; lia
theorem measQ_len (a : List Rect) : a.length ≤ measQ a := by
  induction a with
  | nil => simp
  | cons x a ih => simp only [List.length_cons, measQ]; lia
theorem meas_pick {M : Nat → Nat → Prop} {alo ahi blo bhi i j k : Nat} {rest ls rs : List Rect} (hf : Found M alo ahi blo bhi i j k) (hk : 0 < k)
    (hl : (ls = [] ∧ ¬ (alo < i ∧ blo < j)) ∨ ls = [(alo, i, blo, j)]) (hr : (rs = [] ∧ ¬ (i + k < ahi ∧ j + k < bhi)) ∨ rs = [(i + k, ahi, j + k, bhi)]) : measQ (rs ++ (ls ++ rest)) + 1 ≤ measQ ((alo, ahi, blo, bhi) :: rest) := by
  obtain ⟨a1, a2, b1, b2, blk, hm⟩ := hf
  rw [measQ_app, measQ_app]
  rcases hl with ⟨rfl, hn⟩ | rfl <;> rcases hr with ⟨rfl, hn'⟩ | rfl <;> simp only [measQ] <;> lia
/-- the rectangles lie within -/
noncomputable def InR (n m : Nat) (r : Rect) : Prop := r.1 ≤ r.2.1 ∧ r.2.1 ≤ n ∧ r.2.2.1 ≤ r.2.2.2 ∧ r.2.2.2 ≤ m
end
section
open PySem PySem.W PyProof.Rows PySem.Challenge
set_option Elab.async false
set_option maxRecDepth 100000
set_option maxHeartbeats 1000000
section
variable {prog : Program} {w : World} {A : Around} {E : Value → Shared → Prop} {Q : Value → Shared → Prop} {hp h₀ : Heap} {gs : Array GenState} {dr : Drawn} {tk0 : Nat} {os : OsState} {L l : Addr} {m : Str → Option Value} {news news' : List (Addr × Obj)} {us : List Value} {k c : Nat}
theorem lenT (N : News h₀ L hp news) (hm : (l, listOf us.toArray c) ∈ news) (e : us.length = k) (hfit : k ≤ 1000000) (h : ∀ t tk, Q (.int (k : Int) t) ⟨hp, gs, dr, tk, os⟩) : wpAny (model prog w) A (call (.builtin "len") [.ref l]) Q E ⟨hp, gs, dr, tk0, os⟩ :=
  kst_len (s := ⟨hp, gs, dr, tk0, os⟩) N hm e (by lia) (h _ _)
/-- the values of a list that is kept from behind -/
noncomputable def valsR {β : Type} (l : List (Addr × Obj × β)) : List Value := (l.map fun p => Value.ref p.1).reverse
noncomputable def objsR {β : Type} (l : List (Addr × Obj × β)) : List (Addr × Obj) := l.map fun p => (p.1, p.2.1)
theorem valsR_cons {β : Type} (e : Addr × Obj × β) (l : List (Addr × Obj × β)) : valsR (e :: l) = valsR l ++ [.ref e.1] := by simp [valsR]
theorem valsR_push {β : Type} (e : Addr × Obj × β) (l : List (Addr × Obj × β)) : (valsR l).toArray.push (.ref e.1) = (valsR (e :: l)).toArray := by rw [valsR_cons]; simp
theorem valsR_len {β : Type} (l : List (Addr × Obj × β)) : (valsR l).length = l.length := by simp [valsR]
theorem popR {β : Type} {e : Addr × Obj × β} {l : List (Addr × Obj × β)} {q : Addr} {n : Nat} (F : Fr h₀ L hp m) (N : News h₀ L hp news) (U : Upd q (listOf (valsR (e :: l)).toArray n) (listOf (valsR l).toArray (n + 1)) news news') (hz : l.length ≤ 5000)
    (h : ∀ h', Fr h₀ L h' m → News h₀ L h' news' → Q (.ref e.1) ⟨h', gs, dr, tk0, os⟩) : wpAny (model prog w) A (call (.builtin "list.pop") [.ref q]) Q E ⟨hp, gs, dr, tk0, os⟩ :=
  kl_pop (s := ⟨hp, gs, dr, tk0, os⟩) F N (by show kl_last (valsR (e :: l)) = _; rw [valsR_cons]; exact kpa_last _ _) U (by show (valsR (e :: l)).length ≤ _; rw [valsR_len, sizeLine_eq, List.length_cons]; lia) h
theorem truthR {β : Type} {l : List (Addr × Obj × β)} {q : Addr} {n : Nat} {Q : Bool → Shared → Prop} (N : News h₀ L hp news) (hm : (q, listOf (valsR l).toArray n) ∈ news) (hz : l.length ≤ 5000)
    (h1 : ∀ tk, l = [] → Q false ⟨hp, gs, dr, tk, os⟩) (h2 : ∀ tk e r, l = e :: r → Q true ⟨hp, gs, dr, tk, os⟩) : wpAny (model prog w) A (truthy (.ref q)) Q E ⟨hp, gs, dr, tk0, os⟩ := by
  refine wpAny_truthy_list (s := ⟨hp, gs, dr, tk0, os⟩) (News.isList N hm) (by rw [List.size_toArray, valsR_len]; lia) ?_
  cases l with
  | nil => exact h1 _ rfl
  | cons e r =>
    have e9 : (!(valsR (e :: r)).toArray.isEmpty) = true := by rw [valsR_cons]; simp
    rw [e9]
    exact h2 _ e r rfl
end
section
variable {w : World} {A : Around} {E : Value → Shared → Prop} {hp h₀ : Heap} {gs : Array GenState} {dr : Drawn} {tk : Nat} {os : OsState} {L r dd : Addr} {m : Str → Option Value} {news : List (Addr × Obj)} {a b d : Value}
theorem unpackM {Q : List Value → Shared → Prop} (hh : A.handled = none)
    (F : Fr h₀ L hp m) (N : News h₀ L hp news) (hm : (r, matchObj dd a b d) ∈ news) (X : (K2 w.params).In h₀) (h : ∀ h', Fr h₀ L h' m → News h₀ L h' news → Q [a, b, d] ⟨h', gs, dr, tk, os⟩) :
    wpAny (model rw_mu0013_02.row.prog w) A (unpackItems (.ref r) 3 none) Q E ⟨hp, gs, dr, tk, os⟩ :=
  unpack_match hh (N _ hm).1 (fun h' x => by
    have k : ∀ z o, hp.get? z = some o → h'.get? z = some o := fun z o e => x z o (Nat.ne_of_lt (Heap.lt_size e)) e
    exact h h' (F.keeps k) (N.grown k)) (X.keeps F.keep)
theorem assignM {Q : Unit → Shared → Prop} {elts : List PySem.Expr} {k : Nat} {pos : Pos} {env : Env} (hh : A.handled = none)
    (F : Fr h₀ L hp m) (N : News h₀ L hp news) (hm : (r, matchObj dd a b d) ∈ news) (X : (K2 w.params).In h₀) (hn : (assignEach elts env).length = 3) (hstar : (assignEach elts env).findIdx? (·.1) = none)
    (h : ∀ h', Fr h₀ L h' m → News h₀ L h' news → wpAny (model rw_mu0013_02.row.prog w) A (assignInOrder ((assignEach elts env).map (·.2)) [a, b, d]) Q E ⟨h', gs, dr, tk, os⟩) :
    wpAny (model rw_mu0013_02.row.prog w) A (assign (.Tuple elts k pos) env (.ref r)) Q E ⟨hp, gs, dr, tk, os⟩ := by
  show wpAny _ _ (do standAt pos; unpack (.ref r) (assignEach elts env)) _ _ _
  refine wpAny_bind (wpAny_standAt ?_)
  unfold unpack
  rw [hn, hstar]
  exact wpAny_bind (wpAny_holding (unpackM hh F N hm X h))
end
noncomputable abbrev tupO (xs : Array Value) : Obj := { cls := .type "tuple", data := .seq xs }
noncomputable def IsRect (o : Obj) (r : Rect) : Prop := ∃ t1 t2 t3 t4, o = tupO #[.int (r.1 : Int) t1, .int (r.2.1 : Int) t2, .int (r.2.2.1 : Int) t3, .int (r.2.2.2 : Int) t4]
noncomputable abbrev Blk := Nat × Nat × Nat
noncomputable def IsBlk (o : Obj) (b : Blk) : Prop := ∃ dd t1 t2 t3, o = matchObj dd (.int (b.1 : Int) t1) (.int (b.2.1 : Int) t2) (.int (b.2.2 : Int) t3)
noncomputable abbrev QE := Addr × Obj × Rect
noncomputable abbrev BE := Addr × Obj × Blk
noncomputable abbrev GSt := List QE × Nat × List BE × Nat
noncomputable abbrev GLed (b0 q0 : Addr) (rest : List (Addr × Obj)) (c : GSt) : List (Addr × Obj) := (b0, listOf (valsR c.2.2.1).toArray c.2.2.2) :: (q0, listOf (valsR c.1).toArray c.2.1) :: (objsR c.1 ++ (objsR c.2.2.1 ++ rest))
noncomputable abbrev GFacts (b0 q0 : Addr) (rest : List (Addr × Obj)) (c : GSt) : Prop := ∀ p ∈ objsR c.1 ++ (objsR c.2.2.1 ++ rest), p.1 ≠ b0 ∧ p.1 ≠ q0
noncomputable abbrev Gμ (c : GSt) : Nat := measQ (c.1.map (·.2.2))
noncomputable abbrev sizesB (l : List BE) : Nat := (l.map (·.2.2.2.2)).sum
structure GP (M : Nat → Nat → Prop) (n m : Nat) (c : GSt) : Prop where
  q : ∀ e ∈ c.1, IsRect e.2.1 e.2.2 ∧ InR n m e.2.2
  b : ∀ e ∈ c.2.2.1, IsBlk e.2.1 e.2.2 ∧ 0 < e.2.2.2.2
  t : ∀ t, TotQ M (c.1.map (·.2.2)) t → Tot M 0 n 0 m (sizesB c.2.2.1 + t)
  s : c.2.2.1.length + Gμ c ≤ 2 * n + 1
theorem GP.len {M : Nat → Nat → Prop} {n m : Nat} {c : GSt} (h : GP M n m c) : c.1.length + c.2.2.1.length ≤ 2 * n + 1 := by
  have := h.s
  have e := measQ_len (c.1.map (·.2.2))
  rw [List.length_map] at e
  unfold Gμ at this
  lia
theorem gp_start {M : Nat → Nat → Prop} {n m : Nat} {D : Addr} {t1 t2 t3 t4 : Tok} : GP M n m ([(D, tupO #[.int 0 t1, .int (n : Int) t2, .int 0 t3, .int (m : Int) t4], 0, n, 0, m)], 0, [], 0) where
  q := List.forall_mem_cons.mpr ⟨⟨⟨t1, t2, t3, t4, rfl⟩, Nat.zero_le _, Nat.le_refl _, Nat.zero_le _, Nat.le_refl _⟩, List.forall_mem_nil _⟩
  b := List.forall_mem_nil _
  t := fun t ht => by
    cases ht with
    | cons x y =>
      cases y
      simpa [sizesB] using x
  s := by simp [measQ, Gμ]
section
variable {h₀ h' : Heap} {L b0 q0 tA r1 : Addr} {s : Shared} {rest news' : List (Addr × Obj)} {stored : List Str} {m₀ m' : Str → Option Value} {tk n m qn qn' mn mn' alo ahi blo bhi bi bj bk : Nat} {r ls rs : List QE} {ms : List BE} {tO om : Obj} {M : Nat → Nat → Prop}
theorem end_pick (FE : Fr h₀ L h' m') (NE : News h₀ L h' news') (hr : ∀ z, stored.contains z = false → m' z = m₀ z) (hP : GP M n m ((tA, tO, alo, ahi, blo, bhi) :: r, qn, ms, mn)) (hF : GFacts b0 q0 rest ((tA, tO, alo, ahi, blo, bhi) :: r, qn, ms, mn))
    (hf : Found M alo ahi blo bhi bi bj bk) (hk : 0 < bk) (hom : IsBlk om (bi, bj, bk))
    (hl : (ls.map (·.2.2) = [] ∧ ¬ (alo < bi ∧ blo < bj)) ∨ ls.map (·.2.2) = [(alo, bi, blo, bj)]) (hrr : (rs.map (·.2.2) = [] ∧ ¬ (bi + bk < ahi ∧ bj + bk < bhi)) ∨ rs.map (·.2.2) = [(bi + bk, ahi, bj + bk, bhi)])
    (hne : ∀ e ∈ rs ++ ls, IsRect e.2.1 e.2.2 ∧ e.1 ≠ b0 ∧ e.1 ≠ q0) (hr1 : r1 ≠ b0 ∧ r1 ≠ q0)
    (mem : ∀ p ∈ GLed b0 q0 rest (rs ++ (ls ++ r), qn', (r1, om, bi, bj, bk) :: ms, mn'), p ∈ news') :
    KswEnd h₀ L s (GLed b0 q0 rest) (fun _ => []) (GFacts b0 q0 rest) stored m₀ (GP M n m) Gμ ((tA, tO, alo, ahi, blo, bhi) :: r, qn, ms, mn) { s with heap := h', toks := tk } := by
  obtain ⟨hq, hb, ht, hs⟩ := hP
  dsimp only at hq hb ht hs
  obtain ⟨⟨_, i1, i2, i3, i4⟩, hq⟩ := List.forall_mem_cons.mp hq
  dsimp only at i1 i2 i3 i4
  have hm := meas_pick (rest := r.map (·.2.2)) hf hk hl hrr
  have mm : ((rs ++ (ls ++ r)).map (·.2.2)) = rs.map (·.2.2) ++ (ls.map (·.2.2) ++ r.map (·.2.2)) := by simp
  have a1 := hf.a1
  have a2 := hf.a2
  have b1 := hf.b1
  have b2 := hf.b2
  have inl : ∀ e ∈ ls, InR n m e.2.2 := fun e he => by
    have : e.2.2 ∈ ls.map (·.2.2) := List.mem_map_of_mem he
    rcases hl with ⟨z, _⟩ | z
    · rw [z] at this; cases this
    · rw [z] at this
      rw [List.mem_singleton.mp this]
      exact ⟨a1, by dsimp only; lia, b1, by dsimp only; lia⟩
  have inr : ∀ e ∈ rs, InR n m e.2.2 := fun e he => by
    have : e.2.2 ∈ rs.map (·.2.2) := List.mem_map_of_mem he
    rcases hrr with ⟨z, _⟩ | z
    · rw [z] at this; cases this
    · rw [z] at this
      rw [List.mem_singleton.mp this]
      exact ⟨a2, i2, b2, i4⟩
  refine ksw_end (rs ++ (ls ++ r), qn', (r1, om, bi, bj, bk) :: ms, mn') FE NE mem ?_ (List.forall_mem_nil _) (fun z _ => hr z) ?_ ?_
  · intro p hp
    dsimp only at hp
    have old : ∀ p ∈ objsR r ++ (objsR ms ++ rest), p.1 ≠ b0 ∧ p.1 ≠ q0 := fun p hp => hF p (.tail _ hp)
    rcases List.mem_append.mp hp with hp | hp
    · obtain ⟨e, he, rfl⟩ := List.mem_map.mp hp
      rcases List.mem_append.mp he with he | he
      · exact (hne e (List.mem_append_left _ he)).2
      · rcases List.mem_append.mp he with he | he
        · exact (hne e (List.mem_append_right _ he)).2
        · exact old _ (List.mem_append_left _ (List.mem_map.mpr ⟨e, he, rfl⟩))
    · rcases List.mem_append.mp hp with hp | hp
      · rcases List.mem_cons.mp hp with rfl | hp
        · exact hr1
        · exact old _ (List.mem_append_right _ (List.mem_append_left _ hp))
      · exact old _ (List.mem_append_right _ (List.mem_append_right _ hp))
  · refine ⟨fun e he => ?_, List.forall_mem_cons.mpr ⟨⟨hom, hk⟩, hb⟩, fun t h9 => ?_, ?_⟩
    · rcases List.mem_append.mp he with he | he
      · exact ⟨(hne e (List.mem_append_left _ he)).1, inr e he⟩
      · rcases List.mem_append.mp he with he | he
        · exact ⟨(hne e (List.mem_append_right _ he)).1, inl e he⟩
        · exact hq e he
    · dsimp only at h9
      rw [mm] at h9
      have := turn_pick (G := fun t => Tot M 0 n 0 m (sizesB ms + t)) hf hk (fun t h => ht t h) hl hrr t h9
      show Tot M 0 n 0 m (sizesB ((r1, om, bi, bj, bk) :: ms) + t)
      rw [show sizesB ((r1, om, bi, bj, bk) :: ms) + t = sizesB ms + (bk + t) by simp [sizesB]; lia]
      exact this
    · show ((r1, om, bi, bj, bk) :: ms).length + measQ ((rs ++ (ls ++ r)).map (·.2.2)) ≤ _
      rw [mm, List.length_cons]
      have : ms.length + measQ ((alo, ahi, blo, bhi) :: r.map (·.2.2)) ≤ 2 * n + 1 := hs
      lia
  · show measQ ((rs ++ (ls ++ r)).map (·.2.2)) < measQ ((alo, ahi, blo, bhi) :: r.map (·.2.2))
    rw [mm]
    lia
theorem end_none (FE : Fr h₀ L h' m') (NE : News h₀ L h' news') (hr : ∀ z, stored.contains z = false → m' z = m₀ z) (hP : GP M n m ((tA, tO, alo, ahi, blo, bhi) :: r, qn, ms, mn)) (hF : GFacts b0 q0 rest ((tA, tO, alo, ahi, blo, bhi) :: r, qn, ms, mn))
    (hf : Found M alo ahi blo bhi bi bj bk) (hk : bk = 0) (mem : ∀ p ∈ GLed b0 q0 rest (r, qn', ms, mn), p ∈ news') :
    KswEnd h₀ L s (GLed b0 q0 rest) (fun _ => []) (GFacts b0 q0 rest) stored m₀ (GP M n m) Gμ ((tA, tO, alo, ahi, blo, bhi) :: r, qn, ms, mn) { s with heap := h', toks := tk } := by
  subst hk
  obtain ⟨hq, hb, ht, hs⟩ := hP
  dsimp only at hq hb ht hs
  have hs' : ms.length + measQ ((alo, ahi, blo, bhi) :: r.map (·.2.2)) ≤ 2 * n + 1 := hs
  simp only [measQ] at hs'
  refine ksw_end (r, qn', ms, mn) FE NE mem (fun p hp => hF p (.tail _ hp)) (List.forall_mem_nil _) (fun z _ => hr z) ⟨fun e he => hq e (.tail _ he), hb, fun t h9 => ?_, ?_⟩ ?_
  · exact turn_none (G := fun t => Tot M 0 n 0 m (sizesB ms + t)) hf (fun t h => ht t h) t h9
  · show ms.length + measQ (r.map (·.2.2)) ≤ _
    lia
  · show measQ (r.map (·.2.2)) < measQ ((alo, ahi, blo, bhi) :: r.map (·.2.2))
    simp only [measQ]
    lia
theorem gled_mem {c : GSt} {N : List (Addr × Obj)} (h1 : (b0, listOf (valsR c.2.2.1).toArray c.2.2.2) ∈ N) (h2 : (q0, listOf (valsR c.1).toArray c.2.1) ∈ N) (h3 : ∀ p ∈ objsR c.1, p ∈ N) (h4 : ∀ p ∈ objsR c.2.2.1, p ∈ N) (h5 : ∀ p ∈ rest, p ∈ N) :
    ∀ p ∈ GLed b0 q0 rest c, p ∈ N := by
  intro p hp
  rcases List.mem_cons.mp hp with rfl | hp
  · exact h1
  · rcases List.mem_cons.mp hp with rfl | hp
    · exact h2
    · rcases List.mem_append.mp hp with hp | hp
      · exact h3 p hp
      · exact (List.mem_append.mp hp).elim (h4 p) (h5 p)
variable {dd n1 n2 : Addr} {ti tj tkk y1 y2 y3 y4 y5 y6 y7 y8 : Tok} {tl : List (Addr × Obj)}
theorem end_0 (FE : Fr h₀ L h' m') (NE : News h₀ L h' ((r1, matchObj dd (.int (bi : Int) ti) (.int (bj : Int) tj) (.int (bk : Int) tkk)) :: (b0, listOf (valsR ms).toArray mn) :: (q0, listOf (valsR r).toArray qn') :: (tA, tO) :: tl)) (htl : objsR r ++ (objsR ms ++ rest) = tl)
    (hr : ∀ z, stored.contains z = false → m' z = m₀ z) (hP : GP M n m ((tA, tO, alo, ahi, blo, bhi) :: r, qn, ms, mn)) (hF : GFacts b0 q0 rest ((tA, tO, alo, ahi, blo, bhi) :: r, qn, ms, mn)) (hf : Found M alo ahi blo bhi bi bj bk) (hk : bk = 0) :
    KswEnd h₀ L s (GLed b0 q0 rest) (fun _ => []) (GFacts b0 q0 rest) stored m₀ (GP M n m) Gμ ((tA, tO, alo, ahi, blo, bhi) :: r, qn, ms, mn) { s with heap := h', toks := tk } := by
  subst htl
  refine end_none (qn' := qn') FE NE hr hP hF hf hk (gled_mem (.tail _ (.head _)) (.tail _ (.tail _ (.head _))) (fun p hp => ?_) (fun p hp => ?_) fun p hp => ?_)
  · exact .tail _ (.tail _ (.tail _ (.tail _ (List.mem_append_left _ hp))))
  · exact .tail _ (.tail _ (.tail _ (.tail _ (List.mem_append_right _ (List.mem_append_left _ hp)))))
  · exact .tail _ (.tail _ (.tail _ (.tail _ (List.mem_append_right _ (List.mem_append_right _ hp)))))
theorem end_00 (FE : Fr h₀ L h' m') (NE : News h₀ L h' ((r1, matchObj dd (.int (bi : Int) ti) (.int (bj : Int) tj) (.int (bk : Int) tkk)) :: (b0, listOf ((valsR ms).toArray.push (.ref r1)) mn') :: (q0, listOf (valsR r).toArray qn') :: (tA, tO) :: tl)) (htl : objsR r ++ (objsR ms ++ rest) = tl)
    (hr : ∀ z, stored.contains z = false → m' z = m₀ z) (hP : GP M n m ((tA, tO, alo, ahi, blo, bhi) :: r, qn, ms, mn)) (hF : GFacts b0 q0 rest ((tA, tO, alo, ahi, blo, bhi) :: r, qn, ms, mn)) (hf : Found M alo ahi blo bhi bi bj bk) (hk : 0 < bk) (hr1 : r1 ≠ b0 ∧ r1 ≠ q0)
    (hnl : ¬ (alo < bi ∧ blo < bj)) (hnr : ¬ (bi + bk < ahi ∧ bj + bk < bhi)) :
    KswEnd h₀ L s (GLed b0 q0 rest) (fun _ => []) (GFacts b0 q0 rest) stored m₀ (GP M n m) Gμ ((tA, tO, alo, ahi, blo, bhi) :: r, qn, ms, mn) { s with heap := h', toks := tk } := by
  subst htl
  rw [valsR_push ((r1, matchObj dd (.int (bi : Int) ti) (.int (bj : Int) tj) (.int (bk : Int) tkk), bi, bj, bk) : BE)] at NE
  refine end_pick (ls := []) (rs := []) (qn' := qn') (mn' := mn') FE NE hr hP hF hf hk ⟨dd, ti, tj, tkk, rfl⟩ (.inl ⟨rfl, hnl⟩) (.inl ⟨rfl, hnr⟩) (List.forall_mem_nil _) hr1 (gled_mem (.tail _ (.head _)) (.tail _ (.tail _ (.head _))) (fun p hp => ?_) (List.forall_mem_cons.mpr ⟨.head _, fun p hp => ?_⟩) fun p hp => ?_)
  · exact .tail _ (.tail _ (.tail _ (.tail _ (List.mem_append_left _ hp))))
  · exact .tail _ (.tail _ (.tail _ (.tail _ (List.mem_append_right _ (List.mem_append_left _ hp)))))
  · exact .tail _ (.tail _ (.tail _ (.tail _ (List.mem_append_right _ (List.mem_append_right _ hp)))))
theorem end_10 (FE : Fr h₀ L h' m') (NE : News h₀ L h' ((n1, tupO #[.int (alo : Int) y1, .int (bi : Int) y2, .int (blo : Int) y3, .int (bj : Int) y4]) :: (r1, matchObj dd (.int (bi : Int) ti) (.int (bj : Int) tj) (.int (bk : Int) tkk)) :: (b0, listOf ((valsR ms).toArray.push (.ref r1)) mn') :: (q0, listOf ((valsR r).toArray.push (.ref n1)) qn') :: (tA, tO) :: tl)) (htl : objsR r ++ (objsR ms ++ rest) = tl)
    (hr : ∀ z, stored.contains z = false → m' z = m₀ z) (hP : GP M n m ((tA, tO, alo, ahi, blo, bhi) :: r, qn, ms, mn)) (hF : GFacts b0 q0 rest ((tA, tO, alo, ahi, blo, bhi) :: r, qn, ms, mn)) (hf : Found M alo ahi blo bhi bi bj bk) (hk : 0 < bk) (hr1 : r1 ≠ b0 ∧ r1 ≠ q0) (hn1 : @LT.lt Nat _ b0 n1 ∧ @LT.lt Nat _ q0 n1)
    (hnr : ¬ (bi + bk < ahi ∧ bj + bk < bhi)) :
    KswEnd h₀ L s (GLed b0 q0 rest) (fun _ => []) (GFacts b0 q0 rest) stored m₀ (GP M n m) Gμ ((tA, tO, alo, ahi, blo, bhi) :: r, qn, ms, mn) { s with heap := h', toks := tk } := by
  subst htl
  rw [valsR_push ((r1, matchObj dd (.int (bi : Int) ti) (.int (bj : Int) tj) (.int (bk : Int) tkk), bi, bj, bk) : BE), valsR_push ((n1, tupO #[.int (alo : Int) y1, .int (bi : Int) y2, .int (blo : Int) y3, .int (bj : Int) y4], alo, bi, blo, bj) : QE)] at NE
  refine end_pick (ls := [(n1, tupO #[.int (alo : Int) y1, .int (bi : Int) y2, .int (blo : Int) y3, .int (bj : Int) y4], alo, bi, blo, bj)]) (rs := []) (qn' := qn') (mn' := mn') FE NE hr hP hF hf hk ⟨dd, ti, tj, tkk, rfl⟩ (.inr rfl) (.inl ⟨rfl, hnr⟩)
    (List.forall_mem_cons.mpr ⟨⟨⟨y1, y2, y3, y4, rfl⟩, Nat.ne_of_gt hn1.1, Nat.ne_of_gt hn1.2⟩, List.forall_mem_nil _⟩) hr1 (gled_mem (.tail _ (.tail _ (.head _))) (.tail _ (.tail _ (.tail _ (.head _)))) (List.forall_mem_cons.mpr ⟨.head _, fun p hp => ?_⟩) (List.forall_mem_cons.mpr ⟨.tail _ (.head _), fun p hp => ?_⟩) fun p hp => ?_)
  · exact .tail _ (.tail _ (.tail _ (.tail _ (.tail _ (List.mem_append_left _ hp)))))
  · exact .tail _ (.tail _ (.tail _ (.tail _ (.tail _ (List.mem_append_right _ (List.mem_append_left _ hp))))))
  · exact .tail _ (.tail _ (.tail _ (.tail _ (.tail _ (List.mem_append_right _ (List.mem_append_right _ hp))))))
theorem end_01 (FE : Fr h₀ L h' m') (NE : News h₀ L h' ((n2, tupO #[.int ((bi : Int) + (bk : Int)) y5, .int (ahi : Int) y6, .int ((bj : Int) + (bk : Int)) y7, .int (bhi : Int) y8]) :: (r1, matchObj dd (.int (bi : Int) ti) (.int (bj : Int) tj) (.int (bk : Int) tkk)) :: (b0, listOf ((valsR ms).toArray.push (.ref r1)) mn') :: (q0, listOf ((valsR r).toArray.push (.ref n2)) qn') :: (tA, tO) :: tl)) (htl : objsR r ++ (objsR ms ++ rest) = tl)
    (hr : ∀ z, stored.contains z = false → m' z = m₀ z) (hP : GP M n m ((tA, tO, alo, ahi, blo, bhi) :: r, qn, ms, mn)) (hF : GFacts b0 q0 rest ((tA, tO, alo, ahi, blo, bhi) :: r, qn, ms, mn)) (hf : Found M alo ahi blo bhi bi bj bk) (hk : 0 < bk) (hr1 : r1 ≠ b0 ∧ r1 ≠ q0) (hn2 : @LT.lt Nat _ b0 n2 ∧ @LT.lt Nat _ q0 n2)
    (hnl : ¬ (alo < bi ∧ blo < bj)) :
    KswEnd h₀ L s (GLed b0 q0 rest) (fun _ => []) (GFacts b0 q0 rest) stored m₀ (GP M n m) Gμ ((tA, tO, alo, ahi, blo, bhi) :: r, qn, ms, mn) { s with heap := h', toks := tk } := by
  subst htl
  rw [valsR_push ((r1, matchObj dd (.int (bi : Int) ti) (.int (bj : Int) tj) (.int (bk : Int) tkk), bi, bj, bk) : BE), valsR_push ((n2, tupO #[.int ((bi : Int) + (bk : Int)) y5, .int (ahi : Int) y6, .int ((bj : Int) + (bk : Int)) y7, .int (bhi : Int) y8], bi + bk, ahi, bj + bk, bhi) : QE)] at NE
  refine end_pick (ls := []) (rs := [(n2, tupO #[.int ((bi : Int) + (bk : Int)) y5, .int (ahi : Int) y6, .int ((bj : Int) + (bk : Int)) y7, .int (bhi : Int) y8], bi + bk, ahi, bj + bk, bhi)]) (qn' := qn') (mn' := mn') FE NE hr hP hF hf hk ⟨dd, ti, tj, tkk, rfl⟩ (.inl ⟨rfl, hnl⟩) (.inr rfl)
    (List.forall_mem_cons.mpr ⟨⟨⟨y5, y6, y7, y8, rfl⟩, Nat.ne_of_gt hn2.1, Nat.ne_of_gt hn2.2⟩, List.forall_mem_nil _⟩) hr1 (gled_mem (.tail _ (.tail _ (.head _))) (.tail _ (.tail _ (.tail _ (.head _)))) (List.forall_mem_cons.mpr ⟨.head _, fun p hp => ?_⟩) (List.forall_mem_cons.mpr ⟨.tail _ (.head _), fun p hp => ?_⟩) fun p hp => ?_)
  · exact .tail _ (.tail _ (.tail _ (.tail _ (.tail _ (List.mem_append_left _ hp)))))
  · exact .tail _ (.tail _ (.tail _ (.tail _ (.tail _ (List.mem_append_right _ (List.mem_append_left _ hp))))))
  · exact .tail _ (.tail _ (.tail _ (.tail _ (.tail _ (List.mem_append_right _ (List.mem_append_right _ hp))))))
theorem end_11 (FE : Fr h₀ L h' m') (NE : News h₀ L h' ((n2, tupO #[.int ((bi : Int) + (bk : Int)) y5, .int (ahi : Int) y6, .int ((bj : Int) + (bk : Int)) y7, .int (bhi : Int) y8]) :: (n1, tupO #[.int (alo : Int) y1, .int (bi : Int) y2, .int (blo : Int) y3, .int (bj : Int) y4]) :: (r1, matchObj dd (.int (bi : Int) ti) (.int (bj : Int) tj) (.int (bk : Int) tkk)) :: (b0, listOf ((valsR ms).toArray.push (.ref r1)) mn') :: (q0, listOf (((valsR r).toArray.push (.ref n1)).push (.ref n2)) qn') :: (tA, tO) :: tl)) (htl : objsR r ++ (objsR ms ++ rest) = tl)
    (hr : ∀ z, stored.contains z = false → m' z = m₀ z) (hP : GP M n m ((tA, tO, alo, ahi, blo, bhi) :: r, qn, ms, mn)) (hF : GFacts b0 q0 rest ((tA, tO, alo, ahi, blo, bhi) :: r, qn, ms, mn)) (hf : Found M alo ahi blo bhi bi bj bk) (hk : 0 < bk) (hr1 : r1 ≠ b0 ∧ r1 ≠ q0) (hn1 : @LT.lt Nat _ b0 n1 ∧ @LT.lt Nat _ q0 n1) (hn2 : @LT.lt Nat _ b0 n2 ∧ @LT.lt Nat _ q0 n2) :
    KswEnd h₀ L s (GLed b0 q0 rest) (fun _ => []) (GFacts b0 q0 rest) stored m₀ (GP M n m) Gμ ((tA, tO, alo, ahi, blo, bhi) :: r, qn, ms, mn) { s with heap := h', toks := tk } := by
  subst htl
  rw [valsR_push ((r1, matchObj dd (.int (bi : Int) ti) (.int (bj : Int) tj) (.int (bk : Int) tkk), bi, bj, bk) : BE), valsR_push ((n1, tupO #[.int (alo : Int) y1, .int (bi : Int) y2, .int (blo : Int) y3, .int (bj : Int) y4], alo, bi, blo, bj) : QE),
    valsR_push ((n2, tupO #[.int ((bi : Int) + (bk : Int)) y5, .int (ahi : Int) y6, .int ((bj : Int) + (bk : Int)) y7, .int (bhi : Int) y8], bi + bk, ahi, bj + bk, bhi) : QE)] at NE
  refine end_pick (ls := [(n1, tupO #[.int (alo : Int) y1, .int (bi : Int) y2, .int (blo : Int) y3, .int (bj : Int) y4], alo, bi, blo, bj)]) (rs := [(n2, tupO #[.int ((bi : Int) + (bk : Int)) y5, .int (ahi : Int) y6, .int ((bj : Int) + (bk : Int)) y7, .int (bhi : Int) y8], bi + bk, ahi, bj + bk, bhi)]) (qn' := qn') (mn' := mn') FE NE hr hP hF hf hk ⟨dd, ti, tj, tkk, rfl⟩ (.inr rfl) (.inr rfl)
    (List.forall_mem_cons.mpr ⟨⟨⟨y5, y6, y7, y8, rfl⟩, Nat.ne_of_gt hn2.1, Nat.ne_of_gt hn2.2⟩, List.forall_mem_cons.mpr ⟨⟨⟨y1, y2, y3, y4, rfl⟩, Nat.ne_of_gt hn1.1, Nat.ne_of_gt hn1.2⟩, List.forall_mem_nil _⟩⟩) hr1 (gled_mem (.tail _ (.tail _ (.tail _ (.head _)))) (.tail _ (.tail _ (.tail _ (.tail _ (.head _))))) (List.forall_mem_cons.mpr ⟨.head _, List.forall_mem_cons.mpr ⟨.tail _ (.head _), fun p hp => ?_⟩⟩) (List.forall_mem_cons.mpr ⟨.tail _ (.tail _ (.head _)), fun p hp => ?_⟩) fun p hp => ?_)
  · exact .tail _ (.tail _ (.tail _ (.tail _ (.tail _ (.tail _ (List.mem_append_left _ hp))))))
  · exact .tail _ (.tail _ (.tail _ (.tail _ (.tail _ (.tail _ (List.mem_append_right _ (List.mem_append_left _ hp)))))))
  · exact .tail _ (.tail _ (.tail _ (.tail _ (.tail _ (.tail _ (List.mem_append_right _ (List.mem_append_right _ hp)))))))
end
end
section
open PySem PySem.W PyProof.Rows PySem.Challenge PySem.Calls
set_option Elab.async false
set_option maxRecDepth 100000
set_option maxHeartbeats 1000000
theorem updF_again {d : Addr} {o : Obj} {l : List (Addr × Obj)} {g : Obj → List (Addr × Obj)} (U : UpdF d o l g) : ∀ o', UpdF d o' (g o') g := by
  induction U with
  | head h => exact fun o' => .head h
  | tail h _ ih => exact fun o' => .tail h (ih o')
theorem updF_mem {d : Addr} {o : Obj} {l : List (Addr × Obj)} {g : Obj → List (Addr × Obj)} (U : UpdF d o l g) {p : Addr × Obj} (hp : p ∈ l) (hne : p.1 ≠ d) : ∀ o', p ∈ g o' := by
  induction U with
  | head h =>
    rcases List.mem_cons.mp hp with rfl | hp
    · exact absurd rfl hne
    · exact fun o' => .tail _ hp
  | tail h _ ih =>
    rcases List.mem_cons.mp hp with rfl | hp
    · exact fun o' => .head _
    · exact fun o' => .tail _ (ih hp o')
theorem updF_self {d : Addr} {o : Obj} {l : List (Addr × Obj)} {g : Obj → List (Addr × Obj)} (U : UpdF d o l g) : (d, o) ∈ l := by
  induction U with
  | head h => exact .head _
  | tail h _ ih => exact .tail _ ih
/-- the values of a list that is kept from the front -/
noncomputable def valsF {β : Type} (l : List (Addr × Obj × β)) : List Value := l.map fun p => Value.ref p.1
theorem valsR_rev {β : Type} (l : List (Addr × Obj × β)) : valsR l = valsF l.reverse := by simp [valsR, valsF]
theorem getD_map {α β : Type} (f : α → β) (l : List α) (i : Nat) (a : α) (b : β) (h : i < l.length) : (l.map f).getD i b = f (l.getD i a) := by simp [List.getD, h]
theorem isP_lt {n : Nat} {p : Array Nat} (h : IsP n p) {i : Nat} (hi : i ∈ p.toList) : i < n := List.mem_range.mp (h.mem_iff.mp hi)
theorem sort_short {prog : Program} {w : World} {A : Around} {E : Value → Shared → Prop} {s : Shared} {a : Addr} {vs : List Value} {n : Nat} {P : PySem.Fin → Shared → Prop} (ho : s.heap.get? a = some (seqObj "list" vs.toArray n)) (h2 : vs.length < 2)
    (h : P (.done (.ret .none)) { s with heap := sortedHeap s.heap a vs vs.toArray }) : wpAny (model prog w) A (Builtin.«list.sort» ⟨[.ref a], []⟩) P E s := by
  rw [list_sort_plain]
  have ha : a < s.heap.objs.size := Heap.lt_size ho
  refine wpAny_bind (listItems_at ho rfl ?_)
  refine wpAny_bind (listUpdate_at ho rfl ?_ (by rw [List.size_toArray, sizeLine_eq]; lia) (Nat.zero_le _))
  obtain ⟨e1, ho1⟩ : ∃ e1, (s.heap.update a (Obj.mapSeq fun _ => #[])).get? a = some (seqObj "list" #[] e1) := ⟨_, get?_update_seq ho (fun _ => #[])⟩
  refine wpAny_bind (seqEpoch_at ho1 rfl ?_)
  refine wpAny_bind (wpAny_newTuple ?_ (by show vs.length ≤ _; rw [sizeLine_eq]; lia))
  refine wpAny_bind (wpAny_newList ?_ (Nat.zero_le _))
  refine wpAny_holding ?_
  have ho6 : (((s.heap.update a (Obj.mapSeq fun _ => #[])).push (seqObj "tuple" vs.toArray 0)).push (seqObj "list" #[] 0)).get? a = some (seqObj "list" #[] e1) := Heap.get?_push_of_some _ (Heap.get?_push_of_some _ ho1)
  show wpAny (model prog w) A _ P E { s with heap := ((s.heap.update a (Obj.mapSeq fun _ => #[])).push (seqObj "tuple" vs.toArray 0)).push (seqObj "list" #[] 0) }
  dsimp only
  have h2' : vs.toArray.size < 2 := by simpa using h2
  rw [if_pos h2', if_pos h2']
  refine wpAny_bind (wpAny_pure ?_)
  rw [StateT.run_pure]
  refine wpAny_bind (wpAny_pure ?_)
  dsimp only
  have ez : (arrOf (SortSt.mk' general' (vs.toArray.zip vs.toArray) #[] 7 none)).map (·.2) = vs.toArray := by
    show (vs.toArray.zip vs.toArray).map (·.2) = vs.toArray
    apply Array.ext <;> simp
  rw [ez]
  refine wpAny_bind (seqEpoch_at ho6 rfl ?_)
  refine wpAny_bind (listUpdate_at ho6 rfl ?_ (Nat.zero_le _) (by rw [List.size_toArray, sizeLine_eq]; lia))
  simp only [bne_self_eq_false, Bool.false_eq_true, if_false]
  exact wpAny_pure h
section
variable {w : World} {A : Around} {E : Value → Shared → Prop} {Q : Value → Shared → Prop} {hp h₀ : Heap} {gs : Array GenState} {dr : Drawn} {tk : Nat} {os : OsState} {L D : Addr} {m : Str → Option Value} {news : List (Addr × Obj)} {g : Obj → List (Addr × Obj)} {ms : List BE} {n : Nat}
theorem sortM (F : Fr h₀ L hp m) (N : News h₀ L hp news) (U : UpdF D (listOf (valsF ms).toArray n) news g) (hb : ∀ e ∈ ms, IsBlk e.2.1 e.2.2) (hm : ∀ p ∈ objsR ms, p ∈ news ∧ p.1 ≠ D) (h64 : ms.length < 64) (hu : A.in1.units < cLine) (X : (K2 w.params).In h₀)
    (h : ∀ ms' c h', ms'.Perm ms → Fr h₀ L h' m → News h₀ L h' (g (listOf (valsF ms').toArray c)) → Q .none ⟨h', gs, dr, tk, os⟩) :
    wpAny (model rw_mu0013_02.row.prog w) A (call (.builtin "list.sort") [.ref D]) Q E ⟨hp, gs, dr, tk, os⟩ := by
  have hlen : (valsF ms).length = ms.length := by simp [valsF]
  by_cases h2 : ms.length < 2
  · have nz := N _ (updF_self U)
    refine wpAny_call_entry slot_list_sort ⟨_, nz.1, rfl⟩ entry_list_sort (sort_short (s := ⟨hp, gs, dr, tk, os⟩) (vs := valsF ms) nz.1 (by rw [hlen]; exact h2) ⟨_, rfl, ?_⟩) (args_list_sort _)
    have s1 := Heap.SameBut.update hp D (Obj.mapSeq fun _ => (#[] : Array Value))
    obtain ⟨e1, ho1⟩ : ∃ e1, (hp.update D (Obj.mapSeq fun _ => (#[] : Array Value))).get? D = some (seqObj "list" #[] e1) := ⟨_, get?_update_seq nz.1 fun _ => #[]⟩
    obtain ⟨pre, post, e0, hg, x1, x2⟩ := U.split
    have ho6 : (((hp.update D (Obj.mapSeq fun _ => #[])).push (seqObj "tuple" (valsF ms).toArray 0)).push (seqObj "list" #[] 0)).get? D = some (seqObj "list" #[] e1) := Heap.get?_push_of_some _ (Heap.get?_push_of_some _ ho1)
    have F6 : Fr h₀ L (((hp.update D (Obj.mapSeq fun _ => #[])).push (seqObj "tuple" (valsF ms).toArray 0)).push (seqObj "list" #[] 0)) m := ((F.change s1 nz.2.1 nz.2.2).push _).push _
    have N6 : News h₀ L (((hp.update D (Obj.mapSeq fun _ => #[])).push (seqObj "tuple" (valsF ms).toArray 0)).push (seqObj "list" #[] 0)) (pre ++ (D, seqObj "list" #[] e1) :: post) := by
      have N1 : News h₀ L (hp.update D (Obj.mapSeq fun _ => (#[] : Array Value))) (pre ++ (D, seqObj "list" #[] e1) :: post) := news_set (e0 ▸ N) x1 x2 s1 ho1
      exact (N1.grown fun b x e => Heap.get?_push_of_some _ (Heap.get?_push_of_some _ e))
    have s2 := Heap.SameBut.update (((hp.update D (Obj.mapSeq fun _ => #[])).push (seqObj "tuple" (valsF ms).toArray 0)).push (seqObj "list" #[] 0)) D (Obj.mapSeq fun _ => (valsF ms).toArray)
    obtain ⟨c2, hc2⟩ : ∃ c2, ((((hp.update D (Obj.mapSeq fun _ => #[])).push (seqObj "tuple" (valsF ms).toArray 0)).push (seqObj "list" #[] 0)).update D (Obj.mapSeq fun _ => (valsF ms).toArray)).get? D = some (seqObj "list" (valsF ms).toArray c2) := ⟨_, get?_update_seq ho6 fun _ => (valsF ms).toArray⟩
    refine h ms c2 _ (List.Perm.refl _) (F6.change s2 nz.2.1 nz.2.2) ?_
    rw [hg]
    exact news_set N6 x1 x2 s2 hc2
  · refine kas_lsort (s := ⟨hp, gs, dr, tk, os⟩) (vs := valsF ms) (T := .ref 135) F N U rfl (by rw [hlen]; lia) (by rw [hlen]; exact h64) (fun e1 h' F' N' v hv => ?_) rfl (fun e1 h' F' N' => ?_)
    · obtain ⟨e, he, rfl⟩ := List.mem_map.mp hv
      obtain ⟨dd, t1, t2, t3, ho⟩ := hb e he
      have h1 := hm (e.1, e.2.1) (List.mem_map.mpr ⟨e, he, rfl⟩)
      have h3 := (N' _ (updF_mem U h1.1 h1.2 _)).1
      rw [ho] at h3
      exact (Looks.ld h3).andThen .now
    · have at' : ∀ i, i < ms.length → ∃ x dx a b c ta tb tc, (valsF ms).getD i .none = .ref x ∧ h'.get? x = some (matchObj dx (.int a ta) (.int b tb) (.int c tc)) := by
        intro i hi
        obtain ⟨dd, t1, t2, t3, ho⟩ := hb ms[i] (by simp)
        have h1 := hm (ms[i].1, ms[i].2.1) (List.mem_map.mpr ⟨ms[i], by simp, rfl⟩)
        have h3 := (N' _ (updF_mem U h1.1 h1.2 _)).1
        rw [ho] at h3
        exact ⟨ms[i].1, dd, _, _, _, t1, t2, t3, by simp [valsF, List.getD, hi], h3⟩
      rw [hlen]
      refine TAll.wp (R := fun s' => s' = ⟨h', gs, dr, tk, os⟩) (fun i j C s' hi hj e hC => ?_) (fun p s' hp e => ?_) (tall_sort (by lia)) rfl
      · subst e
        obtain ⟨x, dx, a, b, c, ta, tb, tc, ex, hx⟩ := at' i hi
        obtain ⟨y, dy, a', b', c', ta', tb', tc', ey, hy⟩ := at' j hj
        unfold kas_ask
        rw [ex, ey]
        exact match_lt hu hx hy (fun r => hC r _ rfl) (X.keeps F'.keep)
      · subst e
        have d0 : BE := (0, setE false, 0, 0, 0)
        have hp' : IsP ms.length p := hp
        refine KasFin.intro F' N' (updF_again U _) fun h2 c F2 N2 => ?_
        have e : (p.toList.map fun i => (valsF ms).getD i Value.none) = valsF (p.toList.map fun i => ms.getD i d0) := by
          unfold valsF
          rw [List.map_map]
          exact List.map_congr_left fun i hi => getD_map _ _ _ _ _ (isP_lt hp' hi)
        rw [e] at N2
        exact h _ c h2 (isP_map hp') F2 N2
end
end
section
open PySem PySem.W PyProof.Rows PySem.Challenge
set_option Elab.async false
set_option maxRecDepth 100000
set_option maxHeartbeats 1000000
noncomputable abbrev NEt := Addr × Obj × Nat
noncomputable abbrev MSt := List NEt × Nat × (Int × Int × Nat) × Tok × Tok × Tok
noncomputable def IsTri (o : Obj) (k : Nat) : Prop := ∃ (i j : Int) (t1 t2 t3 : Tok), o = tupO #[.int i t1, .int j t2, .int (k : Int) t3]
noncomputable abbrev sizesN (l : List NEt) : Nat := (l.map (·.2.2)).sum
noncomputable abbrev MLed (d0 : Addr) (rest : List (Addr × Obj)) (c : MSt) : List (Addr × Obj) := (d0, listOf (valsR c.1).toArray c.2.1) :: (objsR c.1 ++ rest)
noncomputable abbrev mps (c : MSt) : List (Str × Value) := [(Str.ofString "i1", .int c.2.2.1.1 c.2.2.2.1), (Str.ofString "j1", .int c.2.2.1.2.1 c.2.2.2.2.1), (Str.ofString "k1", .int (c.2.2.1.2.2 : Int) c.2.2.2.2.2)]
noncomputable abbrev mst : List Str := [Str.ofString "i2", Str.ofString "j2", Str.ofString "k2"]
structure MP (ms : List BE) (d0 : Addr) (rest : List (Addr × Obj)) (i : Nat) (c : MSt) : Prop where
  s : c.2.2.1.2.2 + sizesN c.1 = sizesB (ms.take i)
  t : ∀ e ∈ c.1, IsTri e.2.1 e.2.2
  f : ∀ p ∈ objsR c.1 ++ rest, p.1 ≠ d0
  l : c.1.length ≤ i
theorem take_size {ms : List BE} {i : Nat} {eA : Addr} {eO : Obj} {bi bj bk : Nat} (he : ms[i]? = some (eA, eO, bi, bj, bk)) : sizesB (ms.take (i + 1)) = sizesB (ms.take i) + bk := by
  rw [List.take_add_one, he]
  simp [sizesB]
section
variable {h₀ h' : Heap} {L d0 I n1 n2 eA : Addr} {oI eO o2 : Obj} {s : Shared} {rest : List (Addr × Obj)} {ms : List BE} {m₀ u : Str → Option Value} {tk i nn nn' bi bj bk : Nat} {na : List NEt} {i1 j1 : Int} {k1 : Nat} {s1 s2 s3 s4 y1 y2 y3 : Tok}
theorem mfar (c c' : MSt) {m' : Str → Option Value} (h : ∀ z, z ≠ Str.ofString "i1" → z ≠ Str.ofString "j1" → z ≠ Str.ofString "k1" → z ≠ Str.ofString "i2" → z ≠ Str.ofString "j2" → z ≠ Str.ofString "k2" → m' z = kstB (fun z => if mst.contains z then u z else m₀ z) (mps c) z) :
    ∀ z, (∀ p ∈ mps c', z ≠ p.1) → mst.contains z = false → m' z = m₀ z := fun z z2 z3 => by
  have e1 : z ≠ Str.ofString "i1" := z2 _ (.head _)
  have e2 : z ≠ Str.ofString "j1" := z2 _ (.tail _ (.head _))
  have e3 : z ≠ Str.ofString "k1" := z2 _ (.tail _ (.tail _ (.head _)))
  rw [h z e1 e2 e3 (ne_of_in z3 (.head _)) (ne_of_in z3 (.tail _ (.head _))) (ne_of_in z3 (.tail _ (.tail _ (.head _))))]
  exact off_ps (List.forall_mem_cons.mpr ⟨e1, List.forall_mem_cons.mpr ⟨e2, List.forall_mem_cons.mpr ⟨e3, List.forall_mem_nil _⟩⟩⟩) z3
theorem mend_add (FE : Fr h₀ L h' (fun y => if y = Str.ofString "k1" then some (.int ((k1 : Int) + (bk : Int)) s4) else if y = Str.ofString "k2" then some (.int (bk : Int) y3) else if y = Str.ofString "j2" then some (.int (bj : Int) y2) else if y = Str.ofString "i2" then some (.int (bi : Int) y1) else
      kstB (fun z => if mst.contains z then u z else m₀ z) (mps (na, nn, (i1, j1, k1), s1, s2, s3)) y))
    (NE : News h₀ L h' ((I, oI) :: MLed d0 rest (na, nn, (i1, j1, k1), s1, s2, s3))) (hoff : ∀ p ∈ MLed d0 rest (na, nn, (i1, j1, k1), s1, s2, s3), p.1 ≠ I) (hP : MP ms d0 rest i (na, nn, (i1, j1, k1), s1, s2, s3)) (he : ms[i]? = some (eA, eO, bi, bj, bk)) :
    KtEnd h₀ L (MLed d0 rest) mps mst m₀ (MP ms d0 rest (i + 1)) [(I, oI)] s { s with heap := h', toks := tk } := by
  refine kt_end (na, nn, (i1, j1, k1 + bk), s1, s2, s4) FE NE (fun p hp => .tail _ hp) (List.forall_mem_cons.mpr ⟨.head _, List.forall_mem_nil _⟩) (fun p hp q hq => by rw [List.mem_singleton.mp hq]; exact hoff p hp) ?_ (mfar (u := u) (na, nn, (i1, j1, k1), s1, s2, s3) _ fun z e1 e2 e3 e4 e5 e6 => ?_) ?_
  · exact List.forall_mem_cons.mpr ⟨by with_unfolding_all rfl, List.forall_mem_cons.mpr ⟨by with_unfolding_all rfl, List.forall_mem_cons.mpr ⟨by with_unfolding_all rfl, List.forall_mem_nil _⟩⟩⟩
  · rw [if_neg e3, if_neg e6, if_neg e5, if_neg e4]
  · refine ⟨?_, hP.t, hP.f, Nat.le_succ_of_le hP.l⟩
    have := hP.s
    rw [take_size he]
    dsimp only at this ⊢
    lia
theorem mend_new {nx : List (Addr × Obj)} (FE : Fr h₀ L h' (fun y => if y = Str.ofString "i1" then some (.int (bi : Int) y1) else if y = Str.ofString "j1" then some (.int (bj : Int) y2) else if y = Str.ofString "k1" then some (.int (bk : Int) y3) else if y = Str.ofString "k2" then some (.int (bk : Int) y3) else if y = Str.ofString "j2" then some (.int (bj : Int) y2) else if y = Str.ofString "i2" then some (.int (bi : Int) y1) else
      kstB (fun z => if mst.contains z then u z else m₀ z) (mps (na, nn, (i1, j1, k1), s1, s2, s3)) y))
    (NE : News h₀ L h' nx) (hnx : ∀ p ∈ (I, oI) :: MLed d0 rest (na, nn, (i1, j1, k1), s1, s2, s3), p ∈ nx) (hoff : ∀ p ∈ MLed d0 rest (na, nn, (i1, j1, k1), s1, s2, s3), p.1 ≠ I) (hP : MP ms d0 rest i (na, nn, (i1, j1, k1), s1, s2, s3)) (he : ms[i]? = some (eA, eO, bi, bj, bk)) (hk : k1 = 0) :
    KtEnd h₀ L (MLed d0 rest) mps mst m₀ (MP ms d0 rest (i + 1)) [(I, oI)] s { s with heap := h', toks := tk } := by
  refine kt_end (na, nn, ((bi : Int), (bj : Int), bk), y1, y2, y3) FE NE (fun p hp => hnx p (.tail _ hp)) (List.forall_mem_cons.mpr ⟨hnx _ (.head _), List.forall_mem_nil _⟩) (fun p hp q hq => by rw [List.mem_singleton.mp hq]; exact hoff p hp) ?_ (mfar (u := u) (na, nn, (i1, j1, k1), s1, s2, s3) _ fun z e1 e2 e3 e4 e5 e6 => ?_) ?_
  · exact List.forall_mem_cons.mpr ⟨by with_unfolding_all rfl, List.forall_mem_cons.mpr ⟨by with_unfolding_all rfl, List.forall_mem_cons.mpr ⟨by with_unfolding_all rfl, List.forall_mem_nil _⟩⟩⟩
  · rw [if_neg e1, if_neg e2, if_neg e3, if_neg e6, if_neg e5, if_neg e4]
  · refine ⟨?_, hP.t, hP.f, Nat.le_succ_of_le hP.l⟩
    have := hP.s
    rw [take_size he]
    dsimp only at this ⊢
    lia
theorem mend_app (FE : Fr h₀ L h' (fun y => if y = Str.ofString "i1" then some (.int (bi : Int) y1) else if y = Str.ofString "j1" then some (.int (bj : Int) y2) else if y = Str.ofString "k1" then some (.int (bk : Int) y3) else if y = Str.ofString "k2" then some (.int (bk : Int) y3) else if y = Str.ofString "j2" then some (.int (bj : Int) y2) else if y = Str.ofString "i2" then some (.int (bi : Int) y1) else
      kstB (fun z => if mst.contains z then u z else m₀ z) (mps (na, nn, (i1, j1, k1), s1, s2, s3)) y))
    (NE : News h₀ L h' ((n2, o2) :: (n1, tupO #[.int i1 s1, .int j1 s2, .int (k1 : Int) s3]) :: (I, oI) :: (d0, listOf ((valsR na).toArray.push (.ref n1)) nn') :: (objsR na ++ rest))) (hoff : ∀ p ∈ MLed d0 rest (na, nn, (i1, j1, k1), s1, s2, s3), p.1 ≠ I) (hP : MP ms d0 rest i (na, nn, (i1, j1, k1), s1, s2, s3)) (he : ms[i]? = some (eA, eO, bi, bj, bk))
    (hn : @LT.lt Nat _ I n1 ∧ @LT.lt Nat _ d0 n1) :
    KtEnd h₀ L (MLed d0 rest) mps mst m₀ (MP ms d0 rest (i + 1)) [(I, oI)] s { s with heap := h', toks := tk } := by
  rw [valsR_push ((n1, tupO #[.int i1 s1, .int j1 s2, .int (k1 : Int) s3], k1) : NEt)] at NE
  refine kt_end ((n1, tupO #[.int i1 s1, .int j1 s2, .int (k1 : Int) s3], k1) :: na, nn', ((bi : Int), (bj : Int), bk), y1, y2, y3) FE NE (List.forall_mem_cons.mpr ⟨.tail _ (.tail _ (.tail _ (.head _))), List.forall_mem_cons.mpr ⟨.tail _ (.head _), fun p hp => .tail _ (.tail _ (.tail _ (.tail _ hp)))⟩⟩)
    (List.forall_mem_cons.mpr ⟨.tail _ (.tail _ (.head _)), List.forall_mem_nil _⟩) (fun p hp q hq => ?_) ?_ (mfar (u := u) (na, nn, (i1, j1, k1), s1, s2, s3) _ fun z e1 e2 e3 e4 e5 e6 => ?_) ?_
  · rw [List.mem_singleton.mp hq]
    rcases List.mem_cons.mp hp with rfl | hp
    · have := hoff _ List.mem_cons_self
      exact this
    · rcases List.mem_cons.mp hp with rfl | hp
      · exact Nat.ne_of_gt hn.1
      · exact hoff p (.tail _ hp)
  · exact List.forall_mem_cons.mpr ⟨by with_unfolding_all rfl, List.forall_mem_cons.mpr ⟨by with_unfolding_all rfl, List.forall_mem_cons.mpr ⟨by with_unfolding_all rfl, List.forall_mem_nil _⟩⟩⟩
  · rw [if_neg e1, if_neg e2, if_neg e3, if_neg e6, if_neg e5, if_neg e4]
  · refine ⟨?_, List.forall_mem_cons.mpr ⟨⟨i1, j1, s1, s2, s3, rfl⟩, hP.t⟩, List.forall_mem_cons.mpr ⟨Nat.ne_of_gt hn.2, hP.f⟩, ?_⟩
    · have := hP.s
      rw [take_size he]
      simp only [sizesN, List.map_cons, List.sum_cons] at this ⊢
      lia
    · have := hP.l
      simp only [List.length_cons] at this ⊢
      lia
end
end
section
open PySem PySem.W PyProof.Rows PySem.Challenge PySem.Spec PySem.Calls Builtin
set_option Elab.async false
set_option maxRecDepth 100000
set_option maxHeartbeats 4000000
section
variable {w : World} {A : Around} {E : Value → Shared → Prop} {Q : Value → Shared → Prop} {hp h₀ : Heap} {gs : Array GenState} {dr : Drawn} {tk : Nat} {os : OsState} {r dd L : Addr} {m : Str → Option Value} {news : List (Addr × Obj)} {i j k : Value}
theorem len_match (hm : hp.get? r = some (matchObj dd i j k)) (h : ∀ t tk, Q (.int 3 t) ⟨hp, gs, dr, tk, os⟩) :
   (K2 w.params).In hp → wpAny (model rw_mu0013_02.row.prog w) A (call (.builtin "len") [.ref r]) Q E ⟨hp, gs, dr, tk, os⟩ := by
  w_on
  k_fill
  intro X
  have k1 : Looks (model rw_mu0013_02.row.prog w) hp (typeOf (.ref r)) (.ref 135) := (Looks.ld hm).andThen .now
  have k3 : Looks (model rw_mu0013_02.row.prog w) hp (typeLookup (.ref 135) "__len__") (some (.builtin "tuple.__len__")) := looks_findIn X (by k_is)
  have k6 : Looks (model rw_mu0013_02.row.prog w) hp (isSubtype (.ref 135) (.type "tuple")) true := looks_subIn X (by k_is)
  have k7 : Looks (model rw_mu0013_02.row.prog w) hp (isInstance (.ref r) (.type "tuple")) true := k1.andThen k6
  have k5 : Looks (model rw_mu0013_02.row.prog w) hp (bindSpecial (.builtin "tuple.__len__") (.ref r)) (.builtin "tuple.__len__", [.ref r]) := Looks.of_pure (F.slot_tuple_len.bind _)
  refine Calls.call_function_entry kind_len plain_len entry_len (args_len1 _) ?_
  unfold Builtin.«len»
  repeat lk
  refine nd_call (codeAny_call_builtin F.slot_tuple_len.plain F.entry_tuple_len (check_slot (n := "__len__") (rest := []) (by decide +kernel) (by decide +kernel) k7 (F.args_tuple_len_1 _) ?_))
  unfold Builtin.«tuple.__len__»
  repeat lk
  exact ⟨_, rfl, h _ _⟩
theorem lenM (F : Fr h₀ L hp m) (N : News h₀ L hp news) (hm : (r, matchObj dd i j k) ∈ news) (X : (K2 w.params).In h₀) (h : ∀ t tk, Q (.int 3 t) ⟨hp, gs, dr, tk, os⟩) :
    wpAny (model rw_mu0013_02.row.prog w) A (call (.builtin "len") [.ref r]) Q E ⟨hp, gs, dr, tk, os⟩ := len_match (N _ hm).1 h (X.keeps F.keep)
end
local macro_rules | `(tactic| walk_at "call builtin:len") => `(tactic| (k_here; k_dflt (refine' lenM (by k_asm) (by k_asm) (by k_mem) (by k_asm) ?_); intros))
local macro_rules | `(tactic| walk_at "LeaveK") => `(tactic| refine halt ?_)
theorem mk_tells {w : World} {dp un : Nat} {gd : Option (List Code)} {cn : Str} {cs : Scope} {a : Addr} {ccd : Value} {cl : List (Str × Addr)} {outer : List Env} {A₀ : Around} {base h₀ : Heap} {L q : Addr} {m : Str → Option Value} {news : List (Addr × Obj)} {s : Shared}
    {mean : ExcName → Option Value} {mg mb : Str → Option Value} {i j k : Value} {R : Result → Shared → Prop}
    (B : Below A₀ base outer h₀) (F : Fr h₀ L s.heap m) (N : News h₀ L s.heap news) (T : Top q2 (looseW q2 loose2) mean mg mb h₀) (hk : cs.kind = .function) (hq : (q, tupO #[i, j, k]) ∈ news) (hd : dp + 20 < recursionLimit) (hu : un + 200 < cLine)
    (ret : ∀ r dd h' tk', Fr h₀ L h' m → News h₀ L h' ((r, matchObj dd i j k) :: news) → (∀ p ∈ news, p.1 < r) → R (.ok (.ret (.ref r))) { s with heap := h', toks := tk' }) :
    (K2 w.params).In h₀ → codeAny (model rw_mu0013_02.row.prog w) (ktrTop dp un gd cn cs L a ccd cl outer) (.call (.ref 89) ⟨[.ref 135, .ref q], []⟩) R s := by
  w_on
  k_fill
  intro X
  obtain ⟨ck, cnm, cig, cic, cmo⟩ := cs
  change ck = _ at hk
  subst hk
  obtain ⟨hp, gs, dr, tk0, os⟩ := s
  w_strict (
    k_dflt k_enter
    (have mk := kstMark)
    k_steps
    (unfold Halt)
    (rename Fr _ _ _ _ => FE)
    (rename News _ _ _ _ => NE)
    (refine leaveK_ FE NE fun FL NL => ?_)
    exact ret _ _ _ _ FL NL (by assumption))
end
section
open PySem PySem.W PyProof.Rows PySem.Challenge PySem.Spec PySem.Calls Builtin
set_option Elab.async false
set_option maxRecDepth 100000
set_option maxHeartbeats 1000000
theorem slot_map_init : Slot "map" "__init__" "object.__init__" :=
  .of (owner := "object") (n := "__init__") (by rw [typeLookup_type, builtinLookup_eq_fast]; kernel_rfl) (by decide +kernel) (by decide +kernel) (by decide +kernel)
    (by first | exact .inl (by decide +kernel) | exact .inr (by decide +kernel)) (by rw [isSubtype_type]; kernel_rfl)
theorem slot_map_iter : Slot "map" "__iter__" "map.__iter__" :=
  .of (owner := "map") (n := "__iter__") (by rw [typeLookup_type, builtinLookup_eq_fast]; kernel_rfl) (by decide +kernel) (by decide +kernel) (by decide +kernel)
    (by first | exact .inl (by decide +kernel) | exact .inr (by decide +kernel)) (by rw [isSubtype_type]; kernel_rfl)
theorem slot_map_next : Slot "map" "__next__" "map.__next__" :=
  .of (owner := "map") (n := "__next__") (by rw [typeLookup_type, builtinLookup_eq_fast]; kernel_rfl) (by decide +kernel) (by decide +kernel) (by decide +kernel)
    (by first | exact .inl (by decide +kernel) | exact .inr (by decide +kernel)) (by rw [isSubtype_type]; kernel_rfl)
theorem entry_map_next : entryFor table "map.__next__" = some Builtin.«map.__next__» := entryFor_of_tree (by kernel_rfl)
theorem entry_map_new : entryFor table "map.__new__" = some Builtin.«map.__new__» := entryFor_of_tree (by kernel_rfl)
theorem entry_map_iter : entryFor table "map.__iter__" = some Builtin.«dict_keyiterator.__iter__» :=
  entryFor_alias (id' := "dict_keyiterator.__iter__") (by kernel_rfl) (by first | rfl | decide +kernel | (unfold String.splitOn; simp +decide [String.splitOnAux])) (by decide +kernel) (by kernel_rfl)
theorem mro_map : mroOf (.type "map") = pure [.type "map", .type "object"] := by rw [mroOf_type]; kernel_rfl
theorem lookup_map_new : typeLookup (.type "map") "__new__" = pure (some (.builtin "map.__new__")) := by rw [typeLookup_type, builtinLookup_eq_fast]; kernel_rfl
theorem called_map : TypeCalled "map" "map.__new__" "object.__init__" :=
  ⟨by decide +kernel, by decide +kernel, ⟨_, _, mro_map⟩, madeBy_type mro_map lookup_map_new (by decide +kernel), by decide +kernel, by rw [isSubtype_type]; kernel_rfl, slot_map_init⟩
theorem typeCall_map_2 (a b : Value) : checkTypeCall "map" ⟨[a, b], []⟩ = pure () := by kernel_rfl
theorem newCall_map_2 (a b : Value) : checkBuiltinCall "map.__new__" ⟨[.type "map", a, b], []⟩ = pure () := by kernel_rfl
theorem sub_map : isSubtype (.type "map") (.type "map") = pure true := by rw [isSubtype_type]; kernel_rfl
theorem args_map_next (a : Value) : argsOk "map.__next__" ⟨[a], []⟩ := by unfold argsOk; kernel_rfl
theorem args_map_iter (a : Value) : argsOk "map.__iter__" ⟨[a], []⟩ := by unfold argsOk; kernel_rfl
theorem map_no_len : typeLookup (.type "map") "__len__" = pure none := by rw [typeLookup_type, builtinLookup_eq_fast]; kernel_rfl
theorem map_no_hint : typeLookup (.type "map") "__length_hint__" = pure none := by rw [typeLookup_type, builtinLookup_eq_fast]; kernel_rfl
noncomputable abbrev listIt (l : Addr) (i : Nat) : Obj := { cls := .type "list_iterator", data := .fields #[.ref l, .int i 0] }
noncomputable abbrev mapO (tp : Addr) (f : Value) : Obj := { cls := .type "map", data := .fields #[.ref tp, f] }
noncomputable abbrev mapH1 (h : Heap) (l : Addr) : Heap := h.push (listIt l 0)
noncomputable abbrev mapH2 (h : Heap) (l : Addr) : Heap := (mapH1 h l).push (tupO #[.ref h.objs.size])
noncomputable abbrev mapH3 (h : Heap) (l : Addr) (f : Value) : Heap := (mapH2 h l).push (mapO (mapH1 h l).objs.size f)
theorem meets_map_new (f : Value) (l : Addr) (xs : Array Value) :
    Meets (Builtin.«map.__new__» ⟨[.type "map", f, .ref l], []⟩) (fun _ R s => s.heap.IsList l xs ∧ R (.ok (.ret (.ref (mapH2 s.heap l).objs.size))) { s with heap := mapH3 s.heap l f }) :=
  .of_wp fun prog w A R s h => by
    obtain ⟨hp, g, d, tk, os⟩ := s; obtain ⟨hl1, h⟩ := h
    have hsub := sub_map
    have hL1 : Heap.IsList (Shared.heap ⟨hp, g, d, tk, os⟩) l xs := hl1
    wp_walk using wpAny_pyIter_list hL1
    exact ⟨_, rfl, h⟩
end
section
open PySem PySem.W PyProof.Rows PySem.Challenge PySem.Spec PySem.Calls Builtin
set_option Elab.async false
set_option maxRecDepth 100000
set_option maxHeartbeats 1000000
section
variable {prog : Program} {w : World} {A : Around} {E : Value → Shared → Prop} {hp h₀ : Heap} {gs : Array GenState} {dr : Drawn} {tk : Nat} {os : OsState} {L l : Addr} {m : Str → Option Value} {news : List (Addr × Obj)}
theorem mapCall {Q : Value → Shared → Prop} {f : Value} {xs : Array Value} {n : Nat} (F : Fr h₀ L hp m) (N : News h₀ L hp news) (hl : (l, listOf xs n) ∈ news)
    (h : ∀ I tp it h', Fr h₀ L h' m → News h₀ L h' ((I, mapO tp f) :: (tp, tupO #[.ref it]) :: (it, listIt l 0) :: news) → (∀ p ∈ news, p.1 < it) → it < tp → tp < I → Q (.ref I) ⟨h', gs, dr, tk, os⟩) :
    wpAny (model prog w) A (call (.type "map") [f, .ref l]) Q E ⟨hp, gs, dr, tk, os⟩ := by
  have hL : hp.IsList l xs := ⟨_, (N _ hl).1, rfl, n, rfl⟩
  refine callType_new called_map (by decide) (typeCall_map_2 _ _) (newCall_map_2 _ _) (fun obj => _root_.PySem.F.args_object_init_3 obj _ _) entry_map_new (meets_map_new f l xs) ⟨hL, ?_⟩
  refine ⟨⟨_, Heap.get?_push_size _ rfl, rfl⟩, ?_⟩
  have F1 := F.push (listIt l 0)
  have N1 := N.push F (listIt l 0)
  have F2 := F1.push (tupO #[.ref hp.objs.size])
  have N2 := N1.push F1 (tupO #[.ref hp.objs.size])
  have F3 := F2.push (mapO (mapH1 hp l).objs.size f)
  have N3 := N2.push F2 (mapO (mapH1 hp l).objs.size f)
  exact h _ _ _ _ F3 N3 (fun p hp' => Heap.lt_size (N p hp').1) (by rw [Heap.size_push]; exact Nat.lt_succ_self _) (by show _ < ((hp.push _).push _).objs.size; rw [Heap.size_push (hp.push _)]; exact Nat.lt_succ_self _)
/-- the next of a map over a list: the list's item is handed to the function -/
theorem next_map {Q : Option Value → Shared → Prop} {I tp it : Addr} {f x : Value} {xs : Array Value} {i : Nat} (hI : hp.get? I = some (mapO tp f)) (ht : hp.get? tp = some (tupO #[.ref it])) (hit : hp.IsListIter it l i) (hl : hp.IsList l xs) (hx : xs[i]? = some x) (nI : I ≠ it) (nt : tp ≠ it)
    (h : ∀ h', h'.IsListIter it l (i + 1) → Heap.SameBut it hp h' → wpAny (model prog w) A.in1 (call f [x]) (fun v s' => Q (some v) s') (fun _ _ => False) ⟨h', gs, dr, tk, os⟩) :
    wpAny (model prog w) A (pyNext (.ref I)) Q E ⟨hp, gs, dr, tk, os⟩ := by
  have f1 : Looks (model prog w) hp (typeLookup (.type "map") "__next__") (some (.builtin "map.__next__")) := Looks.of_pure slot_map_next.lookup
  have f2 : Looks (model prog w) hp (bindSpecial (.builtin "map.__next__") (.ref I)) (.builtin "map.__next__", [.ref I]) := Looks.of_pure (slot_map_next.bind (.ref I))
  repeat lk
  refine nd_call (codeAny_call_builtin slot_map_next.plain entry_map_next (slot_map_next.check _ _ _ _ _ _ _ _ ⟨_, hI, rfl⟩ (args_map_next _) ?_))
  unfold Builtin.«map.__next__»
  repeat ((fail_if_success (with_reducible show wpAny _ _ (SmallTypes.nextOf _) _ _ _)); lk)
  refine wpAny_nextOf_list_item (s := ⟨hp, gs, dr, tk, os⟩) hit hl hx fun h' hit' hs => ?_
  have hI' : h'.get? I = some (mapO tp f) := (hs.2 I nI).trans hI
  repeat ((fail_if_success (with_reducible show wpAny _ _ (call _ _) _ _ _)); lk)
  refine wpAny_mono (h h' hit' hs) (fun v s' hv => ?_) fun _ _ e => e.elim
  obtain ⟨h2, g2, d2, t2, o2⟩ := s'
  repeat lk
  exact hv
theorem end_map {Q : Option Value → Shared → Prop} {I tp it : Addr} {f : Value} {xs : Array Value} {i : Nat} (hh : A.handled = none) (hI : hp.get? I = some (mapO tp f)) (ht : hp.get? tp = some (tupO #[.ref it])) (hit : hp.IsListIter it l i) (hl : hp.IsList l xs) (hx : xs[i]? = none)
    (h : ∀ h', Heap.ExtBut it hp h' → Q none ⟨h', gs, dr, tk, os⟩) :
    wpAny (model prog w) A (pyNext (.ref I)) Q E ⟨hp, gs, dr, tk, os⟩ := by
  have f1 : Looks (model prog w) hp (typeLookup (.type "map") "__next__") (some (.builtin "map.__next__")) := Looks.of_pure slot_map_next.lookup
  have f2 : Looks (model prog w) hp (bindSpecial (.builtin "map.__next__") (.ref I)) (.builtin "map.__next__", [.ref I]) := Looks.of_pure (slot_map_next.bind (.ref I))
  repeat lk
  refine nd_call (codeAny_call_builtin slot_map_next.plain entry_map_next (slot_map_next.check _ _ _ _ _ _ _ _ ⟨_, hI, rfl⟩ (args_map_next _) ?_))
  unfold Builtin.«map.__next__»
  repeat ((fail_if_success (with_reducible show wpAny _ _ (SmallTypes.nextOf _) _ _ _)); lk)
  refine wpAny_nextOf_list_end (s := ⟨hp, gs, dr, tk, os⟩) hh hit hl hx fun h' e he ⟨o, ho, hc⟩ => ?_
  have f3 : Looks (model prog w) h' (isSubtype (.type "StopIteration") (.type "StopIteration")) true := Looks.of_pure isSubtype_stop
  have f4 : Looks (model prog w) h' (isInstance (.ref e) (.type "StopIteration")) true := by
    refine Looks.andThen (a := .type "StopIteration") ((Looks.ld ho).andThen ?_) f3
    rw [hc]
    exact .now
  repeat (first | lk | (refine nd_raise ?_; show wpAny _ _ _ _ _ _))
  exact h _ he
end
end
section
open PySem PySem.W PyProof.Rows PySem.Challenge PySem.Spec PySem.Calls Builtin
set_option Elab.async false
set_option maxRecDepth 100000
set_option maxHeartbeats 1000000
noncomputable def IsM (o : Obj) (k : Nat) : Prop := ∃ (dd : Addr) (i j : Int) (t1 t2 t3 : Tok), o = matchObj dd (.int i t1) (.int j t2) (.int (k : Int) t3)
noncomputable def LI (o : Obj) (l : Addr) (i : Nat) : Prop := o.cls = .type "list_iterator" ∧ o.data = .fields #[.ref l, .int i 0]
noncomputable abbrev objsF (l : List NEt) : List (Addr × Obj) := l.map fun p => (p.1, p.2.1)
structure Acc (L : List NEt) (i : Nat) (acc : List NEt) : Prop where
  s : sizesN acc = sizesN (L.take i)
  m : ∀ e ∈ acc, IsM e.2.1 e.2.2
  l : acc.length = i
theorem valsF_snoc (acc : List NEt) (e : NEt) : (valsF acc).toArray.push (.ref e.1) = (valsF (acc ++ [e])).toArray := by simp [valsF]
theorem Acc.snoc {L acc : List NEt} {i : Nat} {e e' : NEt} (h : Acc L i acc) (he : L[i]? = some e) (hs : e'.2.2 = e.2.2) (hm : IsM e'.2.1 e'.2.2) : Acc L (i + 1) (acc ++ [e']) := by
  refine ⟨?_, fun x hx => ?_, by simp [h.l]⟩
  · rw [List.take_add_one, he]
    have := h.s
    simp only [sizesN, List.map_append, List.map_cons, List.map_nil, Option.toList, List.sum_append, List.sum_cons, List.sum_nil] at this ⊢
    lia
  · rcases List.mem_append.mp hx with hx | hx
    · exact h.m x hx
    · rw [List.mem_singleton.mp hx]; exact hm
theorem fr_extBut {h₀ h h' : Heap} {L d : Addr} {m : Str → Option Value} (F : Fr h₀ L h m) (hx : Heap.ExtBut d h h') (hL : d ≠ L) (hn : h₀.get? d = none) : Fr h₀ L h' m :=
  ⟨F.ns.extBut hx hL.symm, fun b x e => hx b x (fun q => by rw [q, hn] at e; cases e) (F.keep b x e), F.above⟩
theorem ext_loop {w : World} {dp un : Nat} {gd : Option (List Code)} {cn : Str} {cs : Scope} {a : Addr} {ccd : Value} {cl : List (Str × Addr)} {outer : List Env} {A₀ : Around} {base h₀ : Heap} {Lc : Addr} {m : Str → Option Value} {gs : Array GenState} {dr : Drawn} {os : OsState}
    {mean : ExcName → Option Value} {mg mb : Str → Option Value} {S I tp it q l : Addr} {led : List (Addr × Obj)} {L : List NEt} {n : Nat} {R : Result → Shared → Prop}
    (B : Below A₀ base outer h₀) (T : Top q2 (looseW q2 loose2) mean mg mb h₀) (hk : cs.kind = .function) (X : (K2 w.params).In h₀) (hd : dp + 30 < recursionLimit) (hu : un + 300 < cLine)
    (hq : (q, methodObj (.ref 89) (.ref 135)) ∈ led) (hI : (I, mapO tp (.ref q)) ∈ led) (ht : (tp, tupO #[.ref it]) ∈ led) (hl : (l, listOf (valsF L).toArray n) ∈ led) (hL : ∀ e ∈ L, (e.1, e.2.1) ∈ led ∧ IsTri e.2.1 e.2.2)
    (hSi : S ≠ it) (hled : ∀ p ∈ led, p.1 ≠ S ∧ p.1 ≠ it) (hz : L.length ≤ 5000)
    (hR : ∀ acc h' tk' c, Fr h₀ Lc h' m → News h₀ Lc h' ((S, listOf (valsF acc).toArray c) :: (objsF acc ++ led)) → Acc L L.length acc → R (.ok (.ret .none)) ⟨h', gs, dr, tk', os⟩) :
    ∀ (k i : Nat) (acc : List NEt) (h : Heap) (tk c : Nat) (oI : Obj), L.length - i = k → i ≤ L.length → LI oI l i → Fr h₀ Lc h m → News h₀ Lc h ((S, listOf (valsF acc).toArray c) :: (it, oI) :: (objsF acc ++ led)) → (∀ p ∈ objsF acc, p.1 ≠ S ∧ p.1 ≠ it) → Acc L i acc →
      codeAny (model rw_mu0013_02.row.prog w) (ktrTop dp un gd cn cs Lc a ccd cl outer) (.builtin "list.extend.loop" ⟨[.ref S, .ref I, .none], []⟩) R ⟨h, gs, dr, tk, os⟩ := by
  intro k
  induction k with
  | zero =>
    intro i acc h tk c oI hki hi hLI F N hacc hA
    have hin : i = L.length := by lia
    subst hin
    refine codeAny_builtin _root_.PySem.F.entry_extend_loop ?_
    rw [Around.under_plainId _root_.PySem.F.plain_extend_loop _]
    show wpAny _ _ (pyNext (.ref I) >>= _) _ _ _
    have at' : ∀ p ∈ led, h.get? p.1 = some p.2 := fun p hp => (N p (.tail _ (.tail _ (List.mem_append_right _ hp)))).1
    have nit := (N (it, oI) (.tail _ (.head _)))
    refine wpAny_bind (end_map (it := it) rfl (at' _ hI) (at' _ ht) ⟨oI, nit.1, hLI.1, hLI.2⟩ ⟨_, at' _ hl, rfl, n, rfl⟩ (by simp [valsF]) fun h' hx => ?_)
    refine wpAny_pure (hR acc h' _ c (fr_extBut F hx nit.2.1 nit.2.2) (fun p hp => ?_) hA)
    rcases List.mem_cons.mp hp with rfl | hp
    · have z := N _ List.mem_cons_self
      exact ⟨hx _ _ hSi z.1, z.2⟩
    · have z := N p (.tail _ (.tail _ hp))
      refine ⟨hx _ _ ?_ z.1, z.2⟩
      rcases List.mem_append.mp hp with hp | hp
      · exact (hacc p hp).2
      · exact (hled p hp).2
  | succ k ih =>
    intro i acc h tk c oI hki hi hLI F N hacc hA
    have hlt : i < L.length := by lia
    refine codeAny_builtin _root_.PySem.F.entry_extend_loop ?_
    rw [Around.under_plainId _root_.PySem.F.plain_extend_loop _]
    show wpAny _ _ (pyNext (.ref I) >>= _) _ _ _
    have at' : ∀ p ∈ led, h.get? p.1 = some p.2 := fun p hp => (N p (.tail _ (.tail _ (List.mem_append_right _ hp)))).1
    have nit := (N (it, oI) (.tail _ (.head _)))
    have he : L[i]? = some L[i] := by simp [hlt]
    obtain ⟨hin, ei, ej, e1, e2, e3, ho⟩ := hL L[i] (by simp)
    generalize L[i] = e at he hin ho
    obtain ⟨eA, eO, ek⟩ := e
    dsimp only at hin ho
    subst ho
    have hx : (valsF L).toArray[i]? = some (.ref eA) := by simp [valsF, he]
    refine wpAny_bind (next_map (it := it) (at' _ hI) (at' _ ht) ⟨oI, nit.1, hLI.1, hLI.2⟩ ⟨_, at' _ hl, rfl, n, rfl⟩ hx (hled _ hI).2 (hled _ ht).2 fun h' hit' hs => ?_)
    obtain ⟨oI', hoI', hc', hd'⟩ := hit'
    have F1 : Fr h₀ Lc h' m := F.change hs nit.2.1 nit.2.2
    have N1 : News h₀ Lc h' ((S, listOf (valsF acc).toArray c) :: (it, oI') :: (objsF acc ++ led)) := by
      refine news_set (pre := [(S, listOf (valsF acc).toArray c)]) (post := objsF acc ++ led) N (List.forall_mem_cons.mpr ⟨hSi, List.forall_mem_nil _⟩) (fun p hp => ?_) hs hoI'
      rcases List.mem_append.mp hp with hp | hp
      · exact (hacc p hp).2
      · exact (hled p hp).2
    refine call_meth N1 (.tail _ (.tail _ (List.mem_append_right _ hq))) (mk_tells (s := ⟨h', gs, dr, tk, os⟩) B F1 N1 T hk (.tail _ (.tail _ (List.mem_append_right _ hin))) (show dp + 20 < recursionLimit by lia) (show un + 1 + 1 + 200 < cLine by lia) (fun r dd h2 tk2 F2 N2 l2 => ?_) X)
    dsimp only
    have hrS : r ≠ S := Nat.ne_of_gt (l2 _ List.mem_cons_self)
    have hri : r ≠ it := Nat.ne_of_gt (l2 _ (.tail _ List.mem_cons_self))
    have nS := N2 (S, listOf (valsF acc).toArray c) (.tail _ (.head _))
    have hlen : (valsF acc).toArray.size = i := by simp [valsF, hA.l]
    show wpAny _ _ (updateSeq S (·.push (.ref r)) >>= _) _ _ _
    refine wpAny_bind (wpAny_updateSeq nS.1 rfl (wpAny_pure ⟨plainId_quiet _root_.PySem.F.plain_extend_loop _, ?_⟩) (by rw [hlen, sizeLine_eq]; lia) (by rw [Array.size_push, hlen, sizeLine_eq]; lia))
    have F3 : Fr h₀ Lc (h2.update S (Obj.mapSeq (·.push (.ref r)))) m := F2.change (Heap.SameBut.update ..) nS.2.1 nS.2.2
    have hSo : ∀ p ∈ (it, oI') :: (objsF acc ++ led), p.1 ≠ S := List.forall_mem_cons.mpr ⟨fun e => hSi e.symm, fun p hp => (List.mem_append.mp hp).elim (fun hp => (hacc p hp).1) fun hp => (hled p hp).1⟩
    have N3 : News h₀ Lc (h2.update S (Obj.mapSeq (·.push (.ref r)))) ((r, matchObj dd (.int ei e1) (.int ej e2) (.int (ek : Int) e3)) :: (S, listOf ((valsF acc).toArray.push (.ref r)) (c + 1)) :: (it, oI') :: (objsF acc ++ led)) :=
      kl_turn (pre := [(r, matchObj dd (.int ei e1) (.int ej e2) (.int (ek : Int) e3))]) (its' := (valsF acc).toArray.push (.ref r)) (·.push (.ref r)) N2 (List.forall_mem_cons.mpr ⟨hrS, List.forall_mem_nil _⟩) hSo rfl (by simp)
    have e9 := valsF_snoc acc (r, matchObj dd (.int ei e1) (.int ej e2) (.int (ek : Int) e3), ek)
    dsimp only at e9
    rw [e9] at N3
    refine ih (i + 1) (acc ++ [(r, matchObj dd (.int ei e1) (.int ej e2) (.int (ek : Int) e3), ek)]) _ tk2 (c + 1) oI' (by lia) hlt ⟨hc', hd'⟩ F3 (fun p hp => ?_) (fun p hp => ?_) (hA.snoc he rfl ⟨dd, ei, ej, e1, e2, e3, rfl⟩)
    · rcases List.mem_cons.mp hp with rfl | hp
      · exact N3 _ (.tail _ (.head _))
      · rcases List.mem_cons.mp hp with rfl | hp
        · exact N3 _ (.tail _ (.tail _ (.head _)))
        · rcases List.mem_append.mp hp with hp | hp
          · rw [show objsF (acc ++ [(r, matchObj dd (.int ei e1) (.int ej e2) (.int (ek : Int) e3), ek)]) = objsF acc ++ [(r, matchObj dd (.int ei e1) (.int ej e2) (.int (ek : Int) e3))] by simp [objsF]] at hp
            rcases List.mem_append.mp hp with hp | hp
            · exact N3 _ (.tail _ (.tail _ (.tail _ (List.mem_append_left _ hp))))
            · rw [List.mem_singleton.mp hp]; exact N3 _ (.head _)
          · exact N3 _ (.tail _ (.tail _ (.tail _ (List.mem_append_right _ hp))))
    · rw [show objsF (acc ++ [(r, matchObj dd (.int ei e1) (.int ej e2) (.int (ek : Int) e3), ek)]) = objsF acc ++ [(r, matchObj dd (.int ei e1) (.int ej e2) (.int (ek : Int) e3))] by simp [objsF]] at hp
      rcases List.mem_append.mp hp with hp | hp
      · exact hacc p hp
      · rw [List.mem_singleton.mp hp]; exact ⟨hrS, hri⟩
end
section
open PySem PySem.W PyProof.Rows PySem.Challenge PySem.Spec PySem.Calls Builtin
set_option Elab.async false
set_option maxRecDepth 100000
set_option maxHeartbeats 1000000
section
variable {prog : Program} {w : World} {A : Around} {E : Value → Shared → Prop} {hp : Heap} {gs : Array GenState} {dr : Drawn} {tk : Nat} {os : OsState}
theorem iter_map {Q : Value → Shared → Prop} {I tp : Addr} {f : Value} (hI : hp.get? I = some (mapO tp f)) (h : Q (.ref I) ⟨hp, gs, dr, tk, os⟩) : wpAny (model prog w) A (pyIter (.ref I)) Q E ⟨hp, gs, dr, tk, os⟩ := by
  have k3 : Looks (model prog w) hp (typeLookup (.type "map") "__iter__") (some (.builtin "map.__iter__")) := Looks.of_pure slot_map_iter.lookup
  have k5 : Looks (model prog w) hp (bindSpecial (.builtin "map.__iter__") (.ref I)) (.builtin "map.__iter__", [.ref I]) := Looks.of_pure (slot_map_iter.bind _)
  have k9 : Looks (model prog w) hp (typeLookup (.type "map") "__next__") (some (.builtin "map.__next__")) := Looks.of_pure slot_map_next.lookup
  unfold pyIter
  repeat lk
  refine Looks.at (looks_quiet (r := some (.builtin "map.__iter__", [.ref I])) (k5.andThen Looks.now)) ?_
  repeat lk
  refine nd_call (codeAny_call_builtin slot_map_iter.plain entry_map_iter (slot_map_iter.check _ _ _ _ _ _ _ _ ⟨_, hI, rfl⟩ (args_map_iter _) ?_))
  unfold Builtin.«dict_keyiterator.__iter__»
  repeat lk
  exact h
theorem list_init_map {P : PySem.Fin → Shared → Prop} {E' : Value → Shared → Prop} {S I tp : Addr} {f : Value} (hI : hp.get? I = some (mapO tp f)) (hS : hp.get? S = some (listOf #[] 0)) (hne : S ≠ I)
    (h : ∀ h' c, Heap.SameBut S hp h' → h'.get? S = some (listOf #[] c) → P (.again (.builtin "list.extend.loop" ⟨[.ref S, .ref I, .none], []⟩)) ⟨h', gs, dr, tk, os⟩) :
    wpAny (model prog w) A (Builtin.«list.__init__» ⟨[.ref S, .ref I], []⟩) P E' ⟨hp, gs, dr, tk, os⟩ := by
  show wpAny _ A (do let old ← Builtin.List.listItems (.ref S); Builtin.List.listUpdate (.ref S) (fun _ => #[]); letGo old.toList.reverse; Builtin.List.listExtendWith (.ref S) (.ref I) .none) _ _ _
  refine wpAny_bind ?_
  unfold Builtin.List.listItems
  refine wpAny_bind (wpAny_seqItems hS rfl (wpAny_pure ?_))
  show wpAny _ A (updateSeq S (fun _ => #[]) >>= fun _ => letGo (#[] : Array Value).toList.reverse >>= fun _ => Builtin.List.listExtendWith (.ref S) (.ref I) .none) _ _ _
  refine wpAny_bind (wpAny_updateSeq hS rfl ?_ (Nat.zero_le _) (Nat.zero_le _))
  have hS₂ := Heap.get?_update_self (Obj.mapSeq (fun _ => (#[] : Array Value))) hS rfl
  have s1 := Heap.SameBut.update hp S (Obj.mapSeq (fun _ => (#[] : Array Value)))
  have hI₂ := (s1.2 I hne.symm).trans hI
  refine wpAny_bind (wpAny_letGo ?_)
  unfold Builtin.List.listExtendWith
  generalize hp.update S (Obj.mapSeq (fun _ => (#[] : Array Value))) = h1 at hS₂ s1 hI₂ ⊢
  refine wpAny_bind (wpAny_typeOf (T := "map") ⟨_, hI₂, rfl⟩ ?_)
  have q1 : Builtin.List.listSameRef (.ref S) (.ref I) = false := by simp [Builtin.List.listSameRef, hne]
  have q2 : (Value.type "map" == Value.type "list") = false := by decide
  have q3 : (Value.type "map" == Value.type "tuple") = false := by decide
  simp only [q1, q2, q3, Bool.or_false, Bool.false_eq_true, if_false]
  refine wpAny_bind (iter_map hI₂ ?_)
  refine wpAny_bind (wpAny_holding ?_)
  unfold Builtin.List.listLengthHint
  refine wpAny_bind (wpAny_specialOf (T := "map") ⟨_, hI₂, rfl⟩ map_no_len ?_)
  show wpAny _ A (specialOf (Value.ref I) (Str.ofString "__length_hint__") >>= _) _ _ _
  refine wpAny_bind (wpAny_specialOf (T := "map") ⟨_, hI₂, rfl⟩ map_no_hint ?_)
  refine wpAny_pure ?_
  show wpAny _ A (rule "list.extend.makes-room" >>= fun _ => Builtin.List.listTouch (.ref S) >>= fun _ => again (.builtin "list.extend.loop" ⟨[.ref S, .ref I, .none], []⟩)) _ _ _
  refine wpAny_bind (wpAny_rule ?_)
  refine wpAny_bind ?_
  show wpAny _ A (updateSeq S (·.push .none) >>= fun _ => updateSeq S (·.pop)) _ _ _
  refine wpAny_bind (wpAny_updateSeq hS₂ rfl ?_)
  have hS₃ := Heap.get?_update_self (Obj.mapSeq (·.push Value.none)) hS₂ rfl
  refine wpAny_updateSeq (hz := by seq_fits) hS₃ rfl ?_
  have hS₄ := Heap.get?_update_self (Obj.mapSeq (·.pop)) hS₃ rfl
  exact wpAny_pure (h _ _ ((s1.trans (Heap.SameBut.update ..)).trans (Heap.SameBut.update ..)) hS₄)
end
theorem list_map {w : World} {dp un : Nat} {gd : Option (List Code)} {cn : Str} {cs : Scope} {a : Addr} {ccd : Value} {cl : List (Str × Addr)} {outer : List Env} {A₀ : Around} {base h₀ hp : Heap} {Lc : Addr} {m : Str → Option Value} {gs : Array GenState} {dr : Drawn} {tk : Nat} {os : OsState}
    {mean : ExcName → Option Value} {mg mb : Str → Option Value} {I tp it q l : Addr} {news : List (Addr × Obj)} {L : List NEt} {n : Nat} {Q E : Value → Shared → Prop}
    (B : Below A₀ base outer h₀) (F : Fr h₀ Lc hp m) (N : News h₀ Lc hp ((I, mapO tp (.ref q)) :: (tp, tupO #[.ref it]) :: (it, listIt l 0) :: news)) (T : Top q2 (looseW q2 loose2) mean mg mb h₀) (hk : cs.kind = .function) (hd : dp + 30 < recursionLimit) (hu : un + 310 < cLine)
    (l1 : ∀ p ∈ news, p.1 < it) (l2 : it < tp) (l3 : tp < I)
    (hq : (q, methodObj (.ref 89) (.ref 135)) ∈ news) (hl : (l, listOf (valsF L).toArray n) ∈ news) (hL : ∀ e ∈ L, (e.1, e.2.1) ∈ news ∧ IsTri e.2.1 e.2.2) (hz : L.length ≤ 5000)
    (hQ : ∀ S acc h' tk' c, Fr h₀ Lc h' m → News h₀ Lc h' ((S, listOf (valsF acc).toArray c) :: (objsF acc ++ news)) → (∀ p ∈ news, p.1 < S) → Acc L L.length acc → Q (.ref S) ⟨h', gs, dr, tk', os⟩) (X : (K2 w.params).In h₀) :
    wpAny (model rw_mu0013_02.row.prog w) (ktrTop dp un gd cn cs Lc a ccd cl outer) (call (.type "list") [.ref I]) Q E ⟨hp, gs, dr, tk, os⟩ := by
  have lI : I < hp.objs.size := Heap.lt_size (N _ (.head _)).1
  have ltp : tp < hp.objs.size := Nat.lt_trans l3 lI
  have lit : it < hp.objs.size := Nat.lt_trans l2 ltp
  refine callType_codes (Q₁ := fun obj s₁ => obj = .ref hp.objs.size ∧ s₁ = ⟨hp.push { cls := .type "list", data := .seq #[] }, gs, dr, tk, os⟩) _root_.PySem.F.called_list (_root_.PySem.F.typeCall_list_1 _) _root_.PySem.F.entry_list_init
    (code_list_new _ ⟨rfl, rfl⟩) fun obj s₁ h₁ => ?_
  obtain ⟨rfl, rfl⟩ := h₁
  have hS : (hp.push { cls := .type "list", data := .seq #[] }).get? hp.objs.size = some { cls := .type "list", data := .seq #[] } := Heap.get?_push_size _ rfl
  have F1 := F.push { cls := .type "list", data := .seq #[] }
  have N1 := N.push F { cls := .type "list", data := .seq #[] }
  have nS := N1 _ List.mem_cons_self
  refine ⟨⟨_, hS, rfl⟩, _root_.PySem.F.args_list_init_2 _ _, list_init_map (N1 _ (.tail _ (.head _))).1 hS (Nat.ne_of_gt lI) fun h' c hs hS' => ?_⟩
  refine ⟨plainId_quiet _root_.PySem.F.plain_extend_loop _, ?_⟩
  have F2 : Fr h₀ Lc h' m := F1.change hs nS.2.1 nS.2.2
  have l9 : ∀ p ∈ (I, mapO tp (.ref q)) :: (tp, tupO #[.ref it]) :: (it, listIt l 0) :: news, p.1 < hp.objs.size := fun p hp9 => Heap.lt_size (N p hp9).1
  have N2 : News h₀ Lc h' ((hp.objs.size, listOf #[] c) :: (I, mapO tp (.ref q)) :: (tp, tupO #[.ref it]) :: (it, listIt l 0) :: news) :=
    news_set (pre := []) (post := (I, mapO tp (.ref q)) :: (tp, tupO #[.ref it]) :: (it, listIt l 0) :: news) N1 (List.forall_mem_nil _) (fun p hp9 => Nat.ne_of_lt (l9 p hp9)) hs hS'
  refine ext_loop (S := hp.objs.size) (I := I) (tp := tp) (it := it) (q := q) (l := l) (L := L) (n := n) (led := (I, mapO tp (.ref q)) :: (tp, tupO #[.ref it]) :: news) (un := un + 1) B T hk X (by lia) (by lia)
    (.tail _ (.tail _ hq)) (.head _) (.tail _ (.head _)) (.tail _ (.tail _ hl)) (fun e he => ⟨.tail _ (.tail _ (hL e he).1), (hL e he).2⟩) (Nat.ne_of_gt lit) ?_ hz (fun acc h9 tk9 c9 F9 N9 hA => ⟨rfl, hQ _ acc h9 tk9 c9 F9 (fun p hp9 => ?_) (fun p hp9 => l9 p (.tail _ (.tail _ (.tail _ hp9)))) hA⟩) L.length 0 [] h' tk c (listIt l 0) rfl (Nat.zero_le _) ⟨rfl, rfl⟩ F2 (fun p hp9 => ?_) (List.forall_mem_nil _) ⟨rfl, List.forall_mem_nil _, rfl⟩
  · refine List.forall_mem_cons.mpr ⟨⟨Nat.ne_of_lt lI, Nat.ne_of_gt (Nat.lt_trans l2 l3)⟩, List.forall_mem_cons.mpr ⟨⟨Nat.ne_of_lt ltp, Nat.ne_of_gt l2⟩, fun p hp9 => ⟨Nat.ne_of_lt (l9 p (.tail _ (.tail _ (.tail _ hp9)))), Nat.ne_of_lt (l1 p hp9)⟩⟩⟩
  · rcases List.mem_cons.mp hp9 with rfl | hp9
    · exact N2 _ (.head _)
    · rcases List.mem_cons.mp hp9 with rfl | hp9
      · exact N2 _ (.tail _ (.tail _ (.tail _ (.head _))))
      · rcases List.mem_cons.mp hp9 with rfl | hp9
        · exact N2 _ (.tail _ (.head _))
        · rcases List.mem_cons.mp hp9 with rfl | hp9
          · exact N2 _ (.tail _ (.tail _ (.head _)))
          · exact N2 p (.tail _ (.tail _ (.tail _ (.tail _ hp9))))
  · rcases List.mem_cons.mp hp9 with rfl | hp9
    · exact N9 _ (.head _)
    · rcases List.mem_append.mp hp9 with hp9 | hp9
      · exact N9 p (.tail _ (List.mem_append_left _ hp9))
      · exact N9 p (.tail _ (List.mem_append_right _ (.tail _ (.tail _ hp9))))
end
section
open PySem PySem.W PyProof.Rows PySem.Challenge PySem.Spec PySem.Calls Builtin
set_option Elab.async false
set_option maxRecDepth 100000
set_option maxHeartbeats 1000000
theorem news_ne {h₀ h : Heap} {L : Addr} {news : List (Addr × Obj)} (N : News h₀ L h news) {p q : Addr × Obj} (hp : p ∈ news) (hq : q ∈ news) (hc : p.2.cls ≠ q.2.cls) : p.1 ≠ q.1 := fun e => hc (by
  have a := (N p hp).1
  have b := (N q hq).1
  rw [e, b] at a
  rw [Option.some.inj a])
section
variable {w : World} {dp un : Nat} {gd : Option (List Code)} {cn : Str} {cs : Scope} {a : Addr} {ccd : Value} {cl : List (Str × Addr)} {outer : List Env} {A₀ : Around} {base h₀ hp : Heap} {Lc : Addr} {m : Str → Option Value} {gs : Array GenState} {dr : Drawn} {tk : Nat} {os : OsState}
    {mean : ExcName → Option Value} {mg mb : Str → Option Value} {I tp it q l n1 n2 : Addr} {news : List (Addr × Obj)} {na : List NEt} {n : Nat} {x1 x2 i1 j1 : Int} {k1 : Nat} {y1 y2 y3 s1 s2 s3 : Tok} {Q E : Value → Shared → Prop}
theorem list_map1 (B : Below A₀ base outer h₀) (F : Fr h₀ Lc hp m) (N : News h₀ Lc hp ((I, mapO tp (.ref q)) :: (tp, tupO #[.ref it]) :: (it, listIt l 0) :: (q, methodObj (.ref 89) (.ref 135)) :: (n2, tupO #[.int x1 y1, .int x2 y2, .int 0 y3]) :: (l, listOf ((valsR na).toArray.push (.ref n2)) n) :: (objsR na ++ news))) (T : Top q2 (looseW q2 loose2) mean mg mb h₀) (hk : cs.kind = .function) (hd : dp + 30 < recursionLimit) (hu : un + 310 < cLine)
    (l1 : ∀ p ∈ (q, methodObj (.ref 89) (.ref 135)) :: (n2, tupO #[.int x1 y1, .int x2 y2, .int 0 y3]) :: (l, listOf ((valsR na).toArray.push (.ref n2)) n) :: (objsR na ++ news), p.1 < it) (l2 : it < tp) (l3 : tp < I) (hz : na.length ≤ 4000) (ht : ∀ e ∈ na, IsTri e.2.1 e.2.2)
    (hQ : ∀ S acc h' tk' c, Fr h₀ Lc h' m → News h₀ Lc h' ((S, listOf (valsF acc).toArray c) :: (objsF acc ++ news)) → (∀ e ∈ acc, IsM e.2.1 e.2.2) → sizesN acc = sizesN na → acc.length = na.length + 1 → Q (.ref S) ⟨h', gs, dr, tk', os⟩) (X : (K2 w.params).In h₀) :
    wpAny (model rw_mu0013_02.row.prog w) (ktrTop dp un gd cn cs Lc a ccd cl outer) (call (.type "list") [.ref I]) Q E ⟨hp, gs, dr, tk, os⟩ := by
  have e1 := valsR_push ((n2, tupO #[.int x1 y1, .int x2 y2, .int 0 y3], 0) : NEt) na
  dsimp only at e1
  rw [e1, valsR_rev] at N l1
  refine list_map (L := ((n2, tupO #[.int x1 y1, .int x2 y2, .int 0 y3], 0) :: na).reverse) B F N T hk hd hu l1 l2 l3 (.head _) (.tail _ (.tail _ (.head _))) (fun e he => ?_) (by rw [List.length_reverse, List.length_cons]; lia) (fun S acc h' tk' c F9 N9 _ hA => ?_) X
  · rcases List.mem_cons.mp (List.mem_reverse.mp he) with rfl | he
    · exact ⟨.tail _ (.head _), x1, x2, y1, y2, y3, rfl⟩
    · exact ⟨.tail _ (.tail _ (.tail _ (List.mem_append_left _ (List.mem_map.mpr ⟨e, he, rfl⟩)))), ht e he⟩
  · refine hQ S acc h' tk' c F9 (fun p hp9 => N9 p ?_) hA.m ?_ ?_
    · rcases List.mem_cons.mp hp9 with rfl | hp9
      · exact .head _
      · rcases List.mem_append.mp hp9 with hp9 | hp9
        · exact .tail _ (List.mem_append_left _ hp9)
        · exact .tail _ (List.mem_append_right _ (.tail _ (.tail _ (.tail _ (List.mem_append_right _ hp9)))))
    · have := hA.s
      rw [List.take_length] at this
      rw [this]
      simp [sizesN, List.map_reverse, List.sum_reverse]
    · rw [hA.l, List.length_reverse, List.length_cons]
theorem list_map2 (B : Below A₀ base outer h₀) (F : Fr h₀ Lc hp m) (N : News h₀ Lc hp ((I, mapO tp (.ref q)) :: (tp, tupO #[.ref it]) :: (it, listIt l 0) :: (q, methodObj (.ref 89) (.ref 135)) :: (n2, tupO #[.int x1 y1, .int x2 y2, .int 0 y3]) :: (n1, tupO #[.int i1 s1, .int j1 s2, .int (k1 : Int) s3]) :: (l, listOf (((valsR na).toArray.push (.ref n1)).push (.ref n2)) n) :: (objsR na ++ news))) (T : Top q2 (looseW q2 loose2) mean mg mb h₀) (hk : cs.kind = .function) (hd : dp + 30 < recursionLimit) (hu : un + 310 < cLine)
    (l1 : ∀ p ∈ (q, methodObj (.ref 89) (.ref 135)) :: (n2, tupO #[.int x1 y1, .int x2 y2, .int 0 y3]) :: (n1, tupO #[.int i1 s1, .int j1 s2, .int (k1 : Int) s3]) :: (l, listOf (((valsR na).toArray.push (.ref n1)).push (.ref n2)) n) :: (objsR na ++ news), p.1 < it) (l2 : it < tp) (l3 : tp < I) (hz : na.length ≤ 4000) (ht : ∀ e ∈ na, IsTri e.2.1 e.2.2)
    (hQ : ∀ S acc h' tk' c, Fr h₀ Lc h' m → News h₀ Lc h' ((S, listOf (valsF acc).toArray c) :: (objsF acc ++ news)) → (∀ e ∈ acc, IsM e.2.1 e.2.2) → sizesN acc = k1 + sizesN na → acc.length = na.length + 2 → Q (.ref S) ⟨h', gs, dr, tk', os⟩) (X : (K2 w.params).In h₀) :
    wpAny (model rw_mu0013_02.row.prog w) (ktrTop dp un gd cn cs Lc a ccd cl outer) (call (.type "list") [.ref I]) Q E ⟨hp, gs, dr, tk, os⟩ := by
  have e1 := valsR_push ((n1, tupO #[.int i1 s1, .int j1 s2, .int (k1 : Int) s3], k1) : NEt) na
  dsimp only at e1
  have e2 := valsR_push ((n2, tupO #[.int x1 y1, .int x2 y2, .int 0 y3], 0) : NEt) ((n1, tupO #[.int i1 s1, .int j1 s2, .int (k1 : Int) s3], k1) :: na)
  dsimp only at e2
  rw [e1, e2, valsR_rev] at N l1
  refine list_map (L := ((n2, tupO #[.int x1 y1, .int x2 y2, .int 0 y3], 0) :: (n1, tupO #[.int i1 s1, .int j1 s2, .int (k1 : Int) s3], k1) :: na).reverse) B F N T hk hd hu l1 l2 l3 (.head _) (.tail _ (.tail _ (.tail _ (.head _)))) (fun e he => ?_) (by rw [List.length_reverse, List.length_cons, List.length_cons]; lia) (fun S acc h' tk' c F9 N9 _ hA => ?_) X
  · rcases List.mem_cons.mp (List.mem_reverse.mp he) with rfl | he
    · exact ⟨.tail _ (.head _), x1, x2, y1, y2, y3, rfl⟩
    · rcases List.mem_cons.mp he with rfl | he
      · exact ⟨.tail _ (.tail _ (.head _)), i1, j1, s1, s2, s3, rfl⟩
      · exact ⟨.tail _ (.tail _ (.tail _ (.tail _ (List.mem_append_left _ (List.mem_map.mpr ⟨e, he, rfl⟩))))), ht e he⟩
  · refine hQ S acc h' tk' c F9 (fun p hp9 => N9 p ?_) hA.m ?_ ?_
    · rcases List.mem_cons.mp hp9 with rfl | hp9
      · exact .head _
      · rcases List.mem_append.mp hp9 with hp9 | hp9
        · exact .tail _ (List.mem_append_left _ hp9)
        · exact .tail _ (List.mem_append_right _ (.tail _ (.tail _ (.tail _ (.tail _ (List.mem_append_right _ hp9))))))
    · have := hA.s
      rw [List.take_length] at this
      rw [this]
      simp [sizesN, List.map_reverse, List.sum_reverse, Nat.add_comm]
    · rw [hA.l, List.length_reverse, List.length_cons, List.length_cons]
end
end
section
local macro_rules | `(tactic| walk_at "assign Tuple") => `(tactic| (k_here; (with_reducible show wpAny _ _ (assign (Expr.Tuple [_, _, _] _ _) _ (Value.ref _)) _ _ _); k_dflt (refine' assignM (by exact rfl) (by k_asm) (by k_asm) (by with_reducible k_mem) (by k_asm) (by exact rfl) (by exact rfl) ?_); intros; (try dsimp only)))
local macro_rules | `(tactic| walk_at "call builtin:list.append") => `(tactic| (k_here; k_dflt (refine' append_K (by k_asm) (by k_asm) (by k_upd) ?_ (by (simp only [Array.size_push, List.size_toArray, valsR_len, sizeLine_eq]; lia))); intros; (try dsimp only)))
local macro_rules | `(tactic| k_upd) => `(tactic| first | exact Upd.head (by first | assumption | exact List.forall_mem_cons.mpr ⟨by assumption, by assumption⟩) | (refine' Upd.tail (by first | assumption | exact Nat.ne_of_gt (by lia)) (by k_upd)))
section
open PySem PySem.W PyProof.Rows PySem.Challenge
set_option Elab.async false
set_option maxRecDepth 100000
set_option maxHeartbeats 4000000
local macro_rules | `(tactic| walk_at "call builtin:list.sort") => `(tactic| refine halt ?_)
local macro_rules | `(tactic| walk_at "pyIter ref") => `(tactic| refine halt ?_)
local macro_rules | `(tactic| walk_at "exec For Tuple Name cons nil") => `(tactic| (k_here; (rename Fr _ _ _ _ => lF'); k_dflt (refine' For_turns lF' ?_ (by (intro _; rfl)) (by assumption); k_whole)))
local macro_rules | `(tactic| walk_at "call type:map") => `(tactic| (k_here; k_dflt (refine' mapCall (by k_asm) (by k_asm) (by k_mem) ?_); intros; (try dsimp only)))
local macro_rules | `(tactic| walk_at "call type:list") => `(tactic| refine halt ?_)
theorem valsF_len {β : Type} (l : List (Addr × Obj × β)) : (valsF l).length = l.length := by simp [valsF]
theorem sizes_perm {ms ms' : List BE} (h : ms'.Perm ms.reverse) : sizesB (ms'.take (valsF ms').length) = sizesB ms := by
  rw [valsF_len, List.take_length]
  exact (h.trans (List.reverse_perm ms)).map _ |>.sum_nat
theorem cls_ld : Value.type "list" ≠ Value.type "dict" := by decide
theorem cls_rd (n : Addr) : Value.ref n ≠ Value.type "dict" := fun h => nomatch h
noncomputable def JMark : Prop := True
theorem jMark : JMark := trivial
/-- what a test with `and` leaves: the heap as it was, and the answer -/
noncomputable def JPost (h : Heap) (gs : Array GenState) (dr : Drawn) (os : OsState) (P : Prop) (b : Bool) (s' : Shared) : Prop := (∃ tk', s' = (⟨h, gs, dr, tk', os⟩ : Shared)) ∧ (b = true ↔ P)
theorem jp_t {h : Heap} {gs : Array GenState} {dr : Drawn} {tk : Nat} {os : OsState} {P : Prop} (p : P) : JPost h gs dr os P true ⟨h, gs, dr, tk, os⟩ := ⟨⟨_, rfl⟩, fun _ => p, fun _ => rfl⟩
theorem jp_f {h : Heap} {gs : Array GenState} {dr : Drawn} {tk : Nat} {os : OsState} {P : Prop} (p : ¬ P) : JPost h gs dr os P false ⟨h, gs, dr, tk, os⟩ := ⟨⟨_, rfl⟩, fun e => (Bool.false_ne_true e).elim, fun q => absurd q p⟩
theorem join_and {M : Model} {A : Around} {t : PySem.Expr} {env : Env} {Q : Bool → Shared → Prop} {E : Value → Shared → Prop} {h : Heap} {gs : Array GenState} {dr : Drawn} {tk : Nat} {os : OsState} (P : Prop)
    (h0 : wpAny M A (isTrue t env (eval t env)) (JPost h gs dr os P) E ⟨h, gs, dr, tk, os⟩)
    (h1 : ∀ tk', P → Q true ⟨h, gs, dr, tk', os⟩) (h2 : ∀ tk', ¬ P → Q false ⟨h, gs, dr, tk', os⟩) : wpAny M A (isTrue t env (eval t env)) Q E ⟨h, gs, dr, tk, os⟩ :=
  wpAny_mono h0 (fun b s' q => by
    obtain ⟨⟨tk', rfl⟩, e⟩ := q
    cases b
    · exact h2 tk' fun p => (Bool.false_ne_true (e.mpr p)).elim
    · exact h1 tk' (e.mp rfl)) fun _ _ e => e
local macro_rules | `(tactic| walk_at "isTrue BoolOp") => `(tactic| ((rename JMark => jm9); clear jm9; refine halt ?_))
theorem gmb_rest {w : World} {dp un : Nat} {gd : Option (List Code)} {cn : Str} {cs : Scope} {a : Addr} {ccd : Value} {cl : List (Str × Addr)} {outer : List Env} {base g hp : Heap} {L L' : Addr} {rest : List (Addr × Obj)} {gs : Array GenState} {dr : Drawn} {tk0 : Nat} {os : OsState} {Q : Flow → Shared → Prop} {E : Value → Shared → Prop}
    {mean : ExcName → Option Value} {mg mb : Str → Option Value} {x d la lb D S1 S2 b0 q0 : Addr} {qo : Obj} {t1 t2 t3 t4 t5 t6 t7 t8 t9 t10 ta tb : Tok} {ms : List BE} {mn n m : Nat} {u : Str → Option Value}
    (B : Below (ktrTop dp un gd cn cs L a ccd cl outer) base (envX cn cs L a ccd cl :: outer) g)
    (F : Fr g L' hp (fun z => if [Str.ofString "alo", Str.ofString "ahi", Str.ofString "blo", Str.ofString "bhi", Str.ofString "i", Str.ofString "j", Str.ofString "k", Str.ofString "x"].contains z then u z else if z = Str.ofString "matching_blocks" then some (.ref b0) else if z = Str.ofString "queue" then some (.ref q0) else if z = Str.ofString "la" then some (.int (n : Int) ta) else if z = Str.ofString "lb" then some (.int (m : Int) tb) else List.lookup z [(Str.ofString "self", .ref x)]))
    (N : News g L' hp ((b0, listOf (valsR ms).toArray mn) :: (q0, qo) :: rest)) (T : Top q2 (looseW q2 loose2) mean mg mb g)
    (hE : PassesOwn (model rw_mu0013_02.row.prog w) ((ktrTop dp un gd cn cs L a ccd cl outer).deeper (envOf (Str.ofString "SequenceMatcher.get_matching_blocks") (scopeOf (sub 5 7)) L' 203 (.ref 202))) (envOf (Str.ofString "SequenceMatcher.get_matching_blocks") (scopeOf (sub 5 7)) L' 203 (.ref 202)) E)
    (hms : ∀ e ∈ ms, IsBlk e.2.1 e.2.2) (hmem : ∀ p ∈ objsR ms, p ∈ rest) (h64 : ms.length < 64) (hbq : b0 ≠ q0) (hbr : ∀ p ∈ rest, p.1 ≠ b0)
    (hx : (x, instObj 242 d) ∈ rest) (hdd : (d, dictOf (es10 w t1 t2 t3 t4 t5 t6 t7 t8 t9 t10 la lb D S1 S2 .none) 10) ∈ rest)
    {keep : List (Addr × Obj)} (hkeep : ∀ p ∈ keep, p ∈ rest ∧ p.1 ≠ d) (hd : dp + 80 < recursionLimit) (hu : un + 800 < cLine)
    (ret : ∀ S acc h' tk' c m', Fr g L' h' m' → News g L' h' ((S, listOf (valsF acc).toArray c) :: (objsF acc ++ keep)) → (∀ e ∈ acc, IsM e.2.1 e.2.2) → sizesN acc = sizesB ms → acc.length ≤ ms.length + 2 → Q (.ret (.ref S)) ⟨h', gs, dr, tk', os⟩) :
    (K2 w.params).In g → wpAny (model rw_mu0013_02.row.prog w) ((ktrTop dp un gd cn cs L a ccd cl outer).deeper (envOf (Str.ofString "SequenceMatcher.get_matching_blocks") (scopeOf (sub 5 7)) L' 203 (.ref 202))) (execs ((bodyOf (sub 5 7)).drop 6) (envOf (Str.ofString "SequenceMatcher.get_matching_blocks") (scopeOf (sub 5 7)) L' 203 (.ref 202))) Q E ⟨hp, gs, dr, tk0, os⟩ := by
  w_on
  k_fill
  intro X
  have hb := Eq.refl ((bodyOf (sub 5 7)).drop 6)
  conv at hb => rhs; whnf
  rw [hb]
  clear hb
  w_strict (
    (have mk := kstMark)
    k_steps
    (unfold Halt)
    (rename Fr _ _ _ _ => F1)
    (rename News _ _ _ _ => N1)
    rw [valsR_rev] at N1
    (refine' sortM F1 N1 (UpdF.head (List.forall_mem_cons.mpr ⟨fun e => hbq e.symm, hbr⟩)) ?z1 ?z2 ?z3 ?z4 X ?z5)
    (case z1 => exact fun e he => hms e (List.mem_reverse.mp he))
    (case z2 =>
      intro p hp
      obtain ⟨e, he, rfl⟩ := List.mem_map.mp hp
      have := hmem _ (List.mem_map.mpr ⟨e, List.mem_reverse.mp he, rfl⟩)
      exact ⟨.tail _ (.tail _ this), hbr _ this⟩)
    (case z3 => rw [List.length_reverse]; exact h64)
    (case z4 => ktr_units)
    (case z5 =>
      intro ms' c h2 hperm F2 N2
      clear F1 N1
      (try dsimp only at N2)
      k_steps
      (unfold Halt)
      (rename Fr _ _ _ _ => F1)
      (rename News _ _ _ _ => N1)
      (rename_i d0 h8 ld0 h9 tk9)
      (have hml : ms'.length < 64 := by rw [hperm.length_eq, List.length_reverse]; exact h64)
      (refine' kt_list (σ := MSt) (vs := valsF ms') (nn := c) (MLed d0 ((b0, listOf (valsF ms').toArray c) :: (q0, qo) :: rest)) mps
        mst (MP ms' d0 ((b0, listOf (valsF ms').toArray c) :: (q0, qo) :: rest)) ([], 0, (0, 0, 0), ?_, ?_, ?_) rfl ?zl F1 N1 ?zk ?zp ?zt ?zd)
      (case zl => exact fun c => .tail _ (List.mem_append_right _ (.head _)))
      (case zk => exact List.forall_mem_cons.mpr ⟨by with_unfolding_all rfl, List.forall_mem_cons.mpr ⟨by with_unfolding_all rfl, List.forall_mem_cons.mpr ⟨by with_unfolding_all rfl, List.forall_mem_nil _⟩⟩⟩)
      (case zp => exact ⟨rfl, List.forall_mem_nil _, List.forall_mem_cons.mpr ⟨Nat.ne_of_lt ld0.1, List.forall_mem_cons.mpr ⟨Nat.ne_of_lt ld0.2.1, fun p hp => Nat.ne_of_lt (allLt_to ld0.2.2 p hp)⟩⟩, Nat.le_refl _⟩)
      (case zt =>
        rintro ⟨na, nn, ⟨i1, j1, k1⟩, s1, s2, s3⟩ i v u2 h7 tk7 I oI hv hP hoff F3 N3
        dsimp only at F3 N3 ⊢
        clear F1 N1
        (obtain ⟨e, he, rfl⟩ : ∃ e, ms'[i]? = some e ∧ v = .ref e.1 := by
          have hi : i < ms'.length := by
            have := (List.getElem?_eq_some_iff.mp hv).1
            simpa [valsF] using this
          refine ⟨ms'[i], by simp [hi], ?_⟩
          simpa [valsF, hi] using hv.symm)
        (have hmem' : e ∈ ms := List.mem_reverse.mp (hperm.mem_iff.mp (List.mem_of_getElem? he)))
        (obtain ⟨dd, y1, y2, y3, ho⟩ := hms e hmem')
        (have hin : (e.1, e.2.1) ∈ rest := hmem _ (List.mem_map.mpr ⟨e, hmem', rfl⟩))
        obtain ⟨eA, eO, bi, bj, bk⟩ := e
        dsimp only at ho hin
        subst ho
        (have hin9 : (eA, matchObj dd (.int (bi : Int) y1) (.int (bj : Int) y2) (.int (bk : Int) y3)) ∈ objsR na ++ ((b0, listOf (valsF ms').toArray c) :: (q0, qo) :: rest) := List.mem_append_right _ (.tail _ (.tail _ hin)))
        (have hna : na.length ≤ 5000 := Nat.le_trans hP.l (Nat.le_trans (Nat.le_of_lt (List.getElem?_eq_some_iff.mp he).1) (by lia)))
        (have hd0 : ∀ p ∈ objsR na ++ ((b0, listOf (valsF ms').toArray c) :: (q0, qo) :: rest), p.1 ≠ d0 := hP.f)
        (have hId : I ≠ d0 := fun e => hoff (d0, _) (.head _) e.symm)
        refine' kt_abs ?_
        intro QO hQO
        (have jm := jMark)
        k_steps
        (unfold Halt)
        (refine' join_and ((i1 : Int) + (k1 : Int) = (bi : Int) ∧ (j1 : Int) + (k1 : Int) = (bj : Int)) ?ja (fun tk9 hP9 => ?jb) (fun tk9 hP9 => ?jc))
        (case ja =>
          k_steps
          all_goals first
            | exact jp_t ⟨by assumption, by assumption⟩
            | exact jp_f (fun p => absurd p.1 (by assumption))
            | exact jp_f (fun p => absurd p.2 (by assumption)))
        all_goals k_steps
        all_goals (refine' hQO _ _ ?_; dsimp only [KtPost]; rename Fr _ _ _ _ => FE; rename News _ _ _ _ => NE)
        all_goals first
          | exact mend_add FE NE hoff hP he
          | exact mend_new FE NE (fun p hp => .tail _ hp) hoff hP he (by dsimp only at *; lia)
          | exact mend_app FE NE hoff hP he ⟨by lia, by lia⟩
          | trace_state)
      (case zd =>
        rintro ⟨na, nn, ⟨i1, j1, k1⟩, s1, s2, s3⟩ u2 h7 tk7 hP F3 N3
        dsimp only at F3 N3 ⊢
        clear F1 N1
        (have hna : na.length ≤ ms.length := Nat.le_trans hP.l (by rw [valsF_len, hperm.length_eq, List.length_reverse]; exact Nat.le_refl _))
        (have hd0 : ∀ p ∈ objsR na ++ ((b0, listOf (valsF ms').toArray c) :: (q0, qo) :: rest), p.1 ≠ d0 := hP.f)
        (have hx9 : (x, instObj 242 d) ∈ objsR na ++ ((b0, listOf (valsF ms').toArray c) :: (q0, qo) :: rest) := List.mem_append_right _ (.tail _ (.tail _ hx)))
        (have hdd9 : (d, dictOf (es10 w t1 t2 t3 t4 t5 t6 t7 t8 t9 t10 la lb D S1 S2 .none) 10) ∈ objsR na ++ ((b0, listOf (valsF ms').toArray c) :: (q0, qo) :: rest) := List.mem_append_right _ (.tail _ (.tail _ hdd)))
        k_steps
        all_goals (unfold Halt; rename Fr _ _ _ _ => FE; rename News _ _ _ _ => NE; rename_i lN1 lN2 lN3)
        all_goals (have hPs : k1 + sizesN na = sizesB ms := hP.s.trans (sizes_perm hperm))
        · (refine' list_map2 ?m0 FE NE ?m1 rfl ?m2 ?m3 lN1 lN2 lN3 (show na.length ≤ 4000 by lia) hP.t (fun S acc h5 tk5 c5 F5 N5 hAm hAs hAl => ?m4) ?m5)
          (case m0 => k_asm)
          (case m1 => k_asm)
          (case m2 => ktr_room)
          (case m3 => ktr_units)
          (case m5 => k_asm)
          (case m4 =>
            clear FE NE
            (have nd := N5 _ (.tail _ (List.mem_append_right _ (.tail _ (.tail _ hdd)))))
            (have md : (d, dictOf (es10 w t1 t2 t3 t4 t5 t6 t7 t8 t9 t10 la lb D S1 S2 .none) 10) ∈ (S, listOf (valsF acc).toArray c5) :: (objsF acc ++ (b0, listOf (valsF ms').toArray c) :: (q0, qo) :: rest) := .tail _ (List.mem_append_right _ (.tail _ (.tail _ hdd))))
            (have xS : ∀ p ∈ (S, listOf (valsF acc).toArray c5) :: (x, instObj 242 d) :: (objsF acc ++ keep), p.1 ≠ d := by
              refine List.forall_mem_cons.mpr ⟨news_ne N5 (.head _) md cls_ld, List.forall_mem_cons.mpr ⟨news_ne N5 (p := (x, instObj 242 d)) (.tail _ (List.mem_append_right _ (.tail _ (.tail _ hx)))) md (cls_rd _), fun p hp => ?_⟩⟩
              rcases List.mem_append.mp hp with hp | hp
              · obtain ⟨e, he, rfl⟩ := List.mem_map.mp hp
                obtain ⟨dd, i, j, z1, z2, z3, ho⟩ := hAm e he
                refine news_ne N5 (.tail _ (List.mem_append_left _ (List.mem_map.mpr ⟨e, he, rfl⟩))) md ?_
                dsimp only
                rw [ho]
                exact cls_rd _
              · exact (hkeep p hp).2)
            (have N6 : News g L' h5 ((d, dictOf (es10 w t1 t2 t3 t4 t5 t6 t7 t8 t9 t10 la lb D S1 S2 .none) 10) :: (S, listOf (valsF acc).toArray c5) :: (x, instObj 242 d) :: (objsF acc ++ keep)) := by
              intro p hp
              rcases List.mem_cons.mp hp with rfl | hp
              · exact nd
              · rcases List.mem_cons.mp hp with rfl | hp
                · exact N5 _ (.head _)
                · rcases List.mem_cons.mp hp with rfl | hp
                  · exact N5 _ (.tail _ (List.mem_append_right _ (.tail _ (.tail _ hx))))
                  · rcases List.mem_append.mp hp with hp | hp
                    · exact N5 p (.tail _ (List.mem_append_left _ hp))
                    · exact N5 p (.tail _ (List.mem_append_right _ (.tail _ (.tail _ (hkeep p hp).1)))))
            clear N5 nd md hx9 hdd9 hd0
            k_steps
            (rename Fr _ _ _ _ => F8)
            (rename News _ _ _ _ => N8)
            exact ret S acc _ _ c5 _ F8 (fun p hp => N8 p (by
              rcases List.mem_cons.mp hp with rfl | hp
              · exact .tail _ (.head _)
              · exact .tail _ (.tail _ (.tail _ hp)))) hAm (hAs.trans hPs) (by rw [hAl]; exact Nat.add_le_add_right hna 2))
        · (refine' list_map1 ?m0 FE NE ?m1 rfl ?m2 ?m3 lN1 lN2 lN3 (show na.length ≤ 4000 by lia) hP.t (fun S acc h5 tk5 c5 F5 N5 hAm hAs hAl => ?m4) ?m5)
          (case m0 => k_asm)
          (case m1 => k_asm)
          (case m2 => ktr_room)
          (case m3 => ktr_units)
          (case m5 => k_asm)
          (case m4 =>
            clear FE NE
            (have nd := N5 _ (.tail _ (List.mem_append_right _ (.tail _ (.tail _ hdd)))))
            (have md : (d, dictOf (es10 w t1 t2 t3 t4 t5 t6 t7 t8 t9 t10 la lb D S1 S2 .none) 10) ∈ (S, listOf (valsF acc).toArray c5) :: (objsF acc ++ (b0, listOf (valsF ms').toArray c) :: (q0, qo) :: rest) := .tail _ (List.mem_append_right _ (.tail _ (.tail _ hdd))))
            (have xS : ∀ p ∈ (S, listOf (valsF acc).toArray c5) :: (x, instObj 242 d) :: (objsF acc ++ keep), p.1 ≠ d := by
              refine List.forall_mem_cons.mpr ⟨news_ne N5 (.head _) md cls_ld, List.forall_mem_cons.mpr ⟨news_ne N5 (p := (x, instObj 242 d)) (.tail _ (List.mem_append_right _ (.tail _ (.tail _ hx)))) md (cls_rd _), fun p hp => ?_⟩⟩
              rcases List.mem_append.mp hp with hp | hp
              · obtain ⟨e, he, rfl⟩ := List.mem_map.mp hp
                obtain ⟨dd, i, j, z1, z2, z3, ho⟩ := hAm e he
                refine news_ne N5 (.tail _ (List.mem_append_left _ (List.mem_map.mpr ⟨e, he, rfl⟩))) md ?_
                dsimp only
                rw [ho]
                exact cls_rd _
              · exact (hkeep p hp).2)
            (have N6 : News g L' h5 ((d, dictOf (es10 w t1 t2 t3 t4 t5 t6 t7 t8 t9 t10 la lb D S1 S2 .none) 10) :: (S, listOf (valsF acc).toArray c5) :: (x, instObj 242 d) :: (objsF acc ++ keep)) := by
              intro p hp
              rcases List.mem_cons.mp hp with rfl | hp
              · exact nd
              · rcases List.mem_cons.mp hp with rfl | hp
                · exact N5 _ (.head _)
                · rcases List.mem_cons.mp hp with rfl | hp
                  · exact N5 _ (.tail _ (List.mem_append_right _ (.tail _ (.tail _ hx))))
                  · rcases List.mem_append.mp hp with hp | hp
                    · exact N5 p (.tail _ (List.mem_append_left _ hp))
                    · exact N5 p (.tail _ (List.mem_append_right _ (.tail _ (.tail _ (hkeep p hp).1)))))
            clear N5 nd md hx9 hdd9 hd0
            k_steps
            (rename Fr _ _ _ _ => F8)
            (rename News _ _ _ _ => N8)
            exact ret S acc _ _ c5 _ F8 (fun p hp => N8 p (by
              rcases List.mem_cons.mp hp with rfl | hp
              · exact .tail _ (.head _)
              · exact .tail _ (.tail _ (.tail _ hp)))) hAm (hAs.trans (by dsimp only at *; lia)) (by rw [hAl]; exact Nat.le_succ_of_le (Nat.add_le_add_right hna 1))))))
end
section
open PySem PySem.W PyProof.Rows PySem.Challenge
set_option Elab.async false
set_option maxRecDepth 100000
set_option maxHeartbeats 4000000
theorem frame8 {m₀ u : Str → Option Value} {v1 v2 v3 v4 v5 v6 v7 v8 : Option Value} (z : Str) (h3 : [Str.ofString "alo", Str.ofString "ahi", Str.ofString "blo", Str.ofString "bhi", Str.ofString "i", Str.ofString "j", Str.ofString "k", Str.ofString "x"].contains z = false) :
    (if z = Str.ofString "x" then v1 else if z = Str.ofString "k" then v2 else if z = Str.ofString "j" then v3 else if z = Str.ofString "i" then v4 else if z = Str.ofString "bhi" then v5 else if z = Str.ofString "blo" then v6 else if z = Str.ofString "ahi" then v7 else if z = Str.ofString "alo" then v8 else
      kstB (fun z => if [Str.ofString "alo", Str.ofString "ahi", Str.ofString "blo", Str.ofString "bhi", Str.ofString "i", Str.ofString "j", Str.ofString "k", Str.ofString "x"].contains z then u z else m₀ z) [] z) = m₀ z := by
  have n1 := ne_of_in h3 (.head _)
  have n2 := ne_of_in h3 (.tail _ (.head _))
  have n3 := ne_of_in h3 (.tail _ (.tail _ (.head _)))
  have n4 := ne_of_in h3 (.tail _ (.tail _ (.tail _ (.head _))))
  have n5 := ne_of_in h3 (.tail _ (.tail _ (.tail _ (.tail _ (.head _)))))
  have n6 := ne_of_in h3 (.tail _ (.tail _ (.tail _ (.tail _ (.tail _ (.head _))))))
  have n7 := ne_of_in h3 (.tail _ (.tail _ (.tail _ (.tail _ (.tail _ (.tail _ (.head _)))))))
  have n8 := ne_of_in h3 (.tail _ (.tail _ (.tail _ (.tail _ (.tail _ (.tail _ (.tail _ (.head _))))))))
  rw [if_neg n8, if_neg n7, if_neg n6, if_neg n5, if_neg n4, if_neg n3, if_neg n2, if_neg n1]
  exact off_ps (List.forall_mem_nil _) h3
theorem gp_end {M : Nat → Nat → Prop} {n m qn mn : Nat} {ms : List BE} (h : GP M n m ([], qn, ms, mn)) : Tot M 0 n 0 m (sizesB ms) := h.t 0 .nil
theorem gp_len {M : Nat → Nat → Prop} {n m qn mn : Nat} {ms : List BE} (h : GP M n m ([], qn, ms, mn)) : ms.length ≤ sizesB ms := by
  have hb := h.b
  dsimp only at hb
  clear h
  induction ms with
  | nil => exact Nat.le_refl _
  | cons e ms ih =>
    have h1 := (hb e (.head _)).2
    have h2 := ih fun x hx => hb x (.tail _ hx)
    simp only [sizesB, List.map_cons, List.sum_cons, List.length_cons] at h2 ⊢
    lia
local macro_rules | `(tactic| walk_at "exec While") => `(tactic| refine halt ?_)
local macro_rules | `(tactic| walk_at "call builtin:len") => `(tactic| (k_here; k_dflt (refine' lenT (by k_asm) (by assumption) (by assumption) (by lia) ?_); intros; k_whole))
local macro_rules | `(tactic| walk_at "call builtin:list.pop") => `(tactic| (k_here; k_dflt (refine' popR (by k_asm) (by k_asm) (by exact Upd.tail (by assumption) (Upd.head (by assumption))) (by assumption) ?_); intros; (try dsimp only)))
local macro_rules | `(tactic| walk_at "call ref") => `(tactic| (with_reducible refine haltC 196 ?_))
local macro_rules | `(tactic| walk_at "KswEnd") => `(tactic| refine halt ?_)
local macro_rules | `(tactic| walk_at "truthy ref") => `(tactic| ((with_reducible show wpAny _ _ (truthy (Value.ref _)) _ _ _); refine halt ?_))
local macro_rules | `(tactic| walk_at "isTrue BoolOp") => `(tactic| ((rename JMark => jm9); clear jm9; refine halt ?_))
theorem gmb_tells {w : World} {dp un : Nat} {gd : Option (List Code)} {cn : Str} {cs : Scope} {a : Addr} {ccd : Value} {cl : List (Str × Addr)} {outer : List Env} {A₀ : Around} {base h₀ : Heap} {L : Addr} {m : Str → Option Value} {news : List (Addr × Obj)} {s : Shared}
    {mean : ExcName → Option Value} {mg mb : Str → Option Value} {x d la lb D S1 S2 : Addr} {t1 t2 t3 t4 t5 t6 t7 t8 t9 t10 : Tok} {led : Bool} {va vb : List Value} {na nb : Nat} {as bs : List Int} {kvs : List (Int × Value)} {o : Obj} {ls : List (Addr × Obj)} {Q E : Value → Shared → Prop}
    (B : Below A₀ base outer h₀) (F : Fr h₀ L s.heap m) (N : News h₀ L s.heap news) (T : Top q2 (looseW q2 loose2) mean mg mb h₀) (hk : cs.kind = .function)
    (hx : (x, instObj 242 d) ∈ news) (hdd : (d, dictOf (es10 w t1 t2 t3 t4 t5 t6 t7 t8 t9 t10 la lb D S1 S2 .none) 10) ∈ news) (hS : (S1, setE led) ∈ news) (hD : (D, o) ∈ news) (hls : ∀ p ∈ ls, p ∈ news) (hla : (la, listOf va.toArray na) ∈ news) (hlb : (lb, listOf vb.toArray nb) ∈ news)
    (hDo : o.IsDictOf (intKind rw_mu0013_02.row.prog w) kvs) (hlo : (D == sysModules) = false) (hB : B2J bs kvs ls) (hia : IntsAre va as) (hib : IntsAre vb bs) (hal : as.length ≤ 1000) (hbl : bs.length ≤ 1000)
    (hmin : as.length < 64 ∨ bs.length < 64) {keep : List (Addr × Obj)} (hkeep : ∀ p ∈ keep, p ∈ news ∧ p.1 ≠ d) (hd : dp + 100 < recursionLimit) (hu : un + 1000 < cLine)
    (ret : ∀ S acc h' tk' c, Fr h₀ L h' m → News h₀ L h' ((S, listOf (valsF acc).toArray c) :: (objsF acc ++ keep)) → (∀ e ∈ acc, IsM e.2.1 e.2.2) → Tot (Mt as bs) 0 as.length 0 bs.length (sizesN acc) → acc.length ≤ 70 → Q (.ref S) { s with heap := h', toks := tk' }) :
    (K2 w.params).In h₀ → wpAny (model rw_mu0013_02.row.prog w) (ktrTop dp un gd cn cs L a ccd cl outer) (call (.ref 203) [.ref x]) Q E s := by
  w_on
  k_fill
  intro X
  obtain ⟨ck, cnm, cig, cic, cmo⟩ := cs
  change ck = _ at hk
  subst hk
  refine wpAny_call ?_
  w_strict (
    k_dflt k_enter
    (have hb := Eq.refl (bodyOf (sub 5 7)))
    (conv at hb => rhs; whnf)
    rw [hb]
    clear hb
    (have mk := kstMark)
    (have hvla := IntsAre.length hia)
    (have hvlb := IntsAre.length hib)
    (rename Fr _ _ _ _ => F1)
    (have F3 : Fr _ _ _ (fun y => List.lookup y [(Str.ofString "self", Value.ref x)]) := F1)
    (clear F1)
    k_steps
    (unfold Halt)
    (rename Fr _ _ _ _ => F1)
    (rename News _ _ _ _ => N1)
    (rename_i hA tkA lA ta tkB lB tb tkC tc tkD td tkE D0 hB0 lC q0 hC lD hD1 tkF b0 hE lE hF tkG)
    (generalize hrest : (hA, _) :: news = rest at N1)
    (have hr0 : ∀ p ∈ rest, p.1 < D0 := by
      subst hrest
      exact List.forall_mem_cons.mpr ⟨lC.1, fun p hp => allLt_to lC.2 p hp⟩)
    (have hrn : ∀ p ∈ news, p ∈ rest := fun p hp => hrest ▸ .tail _ hp)
    clear hrest
    (refine' ksw_while (σ := GSt) (GLed b0 q0 rest) (fun _ => []) (GFacts b0 q0 rest)
      [Str.ofString "alo", Str.ofString "ahi", Str.ofString "blo", Str.ofString "bhi", Str.ofString "i", Str.ofString "j", Str.ofString "k", Str.ofString "x"]
      (GP (Mt as bs) as.length bs.length) Gμ ([(D0, _, 0, as.length, 0, bs.length)], 0, [], 0) F1 N1 ?zf (List.forall_mem_nil _) ?zp ?zt ?zE)
    (case zE => passes_own)
    (case zf => exact List.forall_mem_cons.mpr ⟨⟨Nat.ne_of_lt lE.2.1, Nat.ne_of_lt lD.1⟩, fun p hp => ⟨Nat.ne_of_lt (Nat.lt_trans (hr0 p hp) lE.2.1), Nat.ne_of_lt (Nat.lt_trans (hr0 p hp) lD.1)⟩⟩)
    (case zp => exact gp_start)
    (have hbq : b0 ≠ q0 := Nat.ne_of_gt lE.1)
    (case zt =>
      rintro ⟨qs, qn, ms, mn⟩ u h tk hff hP F2 N2
      (have hp4 : qs.length + ms.length ≤ 2 * as.length + 1 := hP.len)
      dsimp only at F2 N2 ⊢
      clear F1 N1
      k_steps
      (unfold Halt)
      (refine' truthR N2 (.tail _ (.head _)) ?zl (fun tk9 e0 => ?zno) (fun tk9 e r e0 => ?zyes))
      (case zl => show qs.length ≤ 5000; lia)
      (case zno =>
        subst e0
        rw [if_neg (by decide)]
        (have htot := gp_end hP)
        (have hle := htot.le)
        (have hms := gp_len hP)
        (have hres : ∀ p ∈ news, p ∈ objsR ([] : List QE) ++ (objsR ms ++ rest) := fun p hp => List.mem_append_right _ (List.mem_append_right _ (hrn p hp)))
        (refine' gmb_rest (ms := ms) (keep := keep) ?w0 F2 N2 ?w1 ?w2 (fun e he => (hP.b e he).1) (fun p hp => List.mem_append_right _ (List.mem_append_left _ hp)) (show ms.length < 64 by lia) hbq (fun p hp => (hff p hp).1) (hres _ hx) (hres _ hdd) (fun p hp => ⟨hres _ (hkeep p hp).1, (hkeep p hp).2⟩) ?w3 ?w4 ?w5 ?w6)
        (case w0 => k_asm)
        (case w1 => k_asm)
        (case w2 => passes_own)
        (case w3 => lia)
        (case w4 => lia)
        (case w6 => k_asm)
        (case w5 =>
          intro S acc h5 tk5 c5 m5 F5 N5 hAm hAs hAl
          refine leaveK_ F5 N5 fun FL NL => ?_
          exact ret S acc _ _ c5 FL NL hAm (by rw [hAs]; exact htot) (by lia)))
      (case zyes =>
        subst e0
        obtain ⟨⟨z1, z2, z3, z4, hz⟩, hin⟩ := hP.q _ (.head _)
        obtain ⟨tA, tO, alo, ahi, blo, bhi⟩ := e
        dsimp only at hz hin
        subst hz
        change News _ _ _ ((b0, _) :: (q0, _) :: (tA, tupO #[.int (alo : Int) z1, .int (ahi : Int) z2, .int (blo : Int) z3, .int (bhi : Int) z4]) :: (objsR r ++ (objsR ms ++ rest))) at N2
        (have hrl : r.length ≤ 5000 := by rw [List.length_cons] at hp4; lia)
        (have hq9 : ∀ p ∈ (tA, tupO #[.int (alo : Int) z1, .int (ahi : Int) z2, .int (blo : Int) z3, .int (bhi : Int) z4]) :: (objsR r ++ (objsR ms ++ rest)), p.1 ≠ q0 := fun p hp => (hff p hp).2)
        (have hb9 : ∀ p ∈ (tA, tupO #[.int (alo : Int) z1, .int (ahi : Int) z2, .int (blo : Int) z3, .int (bhi : Int) z4]) :: (objsR r ++ (objsR ms ++ rest)), p.1 ≠ b0 := fun p hp => (hff p hp).1)
        (have hn9 : ∀ p ∈ news, p ∈ objsR r ++ (objsR ms ++ rest) := fun p hp => List.mem_append_right _ (List.mem_append_right _ (hrn p hp)))
        (generalize htl : objsR r ++ (objsR ms ++ rest) = tl at N2 hq9 hb9 hn9)
        (have hx9 := hn9 _ hx)
        (have hdd9 := hn9 _ hdd)
        (have hS9 := hn9 _ hS)
        (have hD9 := hn9 _ hD)
        (have hla9 := hn9 _ hla)
        (have hlb9 := hn9 _ hlb)
        clear hx hdd hS hD hla hlb
        rw [if_pos rfl]
        k_steps
        (unfold Halt)
        (rename Fr _ _ _ _ => F4)
        (rename News _ _ _ _ => N4)
        (refine' flm_tells (alo := alo) (ahi := ahi) (blo := blo) (bhi := bhi) ?b1 F4 N4 ?b2 rfl ?b3 ?b4 ?b5 ?b6 ?b7 ?b8 ?b9 hDo hlo hB hia hib hal hbl hin.1 hin.2.1 hin.2.2.1 hin.2.2.2 ?c1 ?c2 ?c3 ?c4)
        (case b1 => k_asm)
        (case b2 => k_asm)
        (case b3 => k_mem)
        (case b4 => k_mem)
        (case b5 => k_mem)
        (case b6 => k_mem)
        (case b7 => exact fun p hp => .tail _ (.tail _ (.tail _ (hn9 _ (hls _ hp)))))
        (case b8 => k_mem)
        (case b9 => k_mem)
        (case c1 => ktr_room)
        (case c2 => ktr_units)
        (case c4 => k_asm)
        (case c3 =>
          intro r1 dd h5 tk5 bi bj bk ti tj tkk F5 N5 l5 hf
          clear F4 N4
          (have hr1b : r1 ≠ b0 := Nat.ne_of_gt (l5 (b0, _) (.head _)))
          (have hr1q : r1 ≠ q0 := Nat.ne_of_gt (l5 (q0, _) (.tail _ (.head _))))
          (have hqb : q0 ≠ b0 := fun e => hbq e.symm)
          (have hml : ms.length ≤ 5000 := by lia)
          (have jm := jMark)
          k_steps
          · unfold Halt
            (refine' join_and ((alo : Int) < (bi : Int) ∧ (blo : Int) < (bj : Int)) ?j0 (fun tk9 hP9 => ?j1) (fun tk9 hP9 => ?j2))
            (case j0 =>
              k_steps
              all_goals first
                | exact jp_t ⟨by assumption, by assumption⟩
                | exact jp_f (fun p => absurd p.1 (by assumption))
                | exact jp_f (fun p => absurd p.2 (by assumption)))
            (case j1 =>
              (have jm := jMark)
              k_steps
              (unfold Halt)
              (refine' join_and ((bi : Int) + (bk : Int) < (ahi : Int) ∧ (bj : Int) + (bk : Int) < (bhi : Int)) ?ka0 (fun tk8 hR9 => ?ka1) (fun tk8 hR9 => ?ka2))
              (case ka0 =>
                k_steps
                all_goals first
                  | exact jp_t ⟨by assumption, by assumption⟩
                  | exact jp_f (fun p => absurd p.1 (by assumption))
                  | exact jp_f (fun p => absurd p.2 (by assumption)))
              all_goals k_steps
              all_goals (unfold Halt; rename Fr _ _ _ _ => FE; rename News _ _ _ _ => NE)
              all_goals first
                | exact end_00 FE NE htl (fun z h3 => frame8 z h3) hP hff hf (by lia) ⟨hr1b, hr1q⟩ (by lia) (by lia)
                | exact end_10 FE NE htl (fun z h3 => frame8 z h3) hP hff hf (by lia) ⟨hr1b, hr1q⟩ ⟨by lia, by lia⟩ (by lia)
                | exact end_01 FE NE htl (fun z h3 => frame8 z h3) hP hff hf (by lia) ⟨hr1b, hr1q⟩ ⟨by lia, by lia⟩ (by lia)
                | exact end_11 FE NE htl (fun z h3 => frame8 z h3) hP hff hf (by lia) ⟨hr1b, hr1q⟩ ⟨by lia, by lia⟩ ⟨by lia, by lia⟩)
            (case j2 =>
              (have jm := jMark)
              k_steps
              (unfold Halt)
              (refine' join_and ((bi : Int) + (bk : Int) < (ahi : Int) ∧ (bj : Int) + (bk : Int) < (bhi : Int)) ?kb0 (fun tk8 hR9 => ?kb1) (fun tk8 hR9 => ?kb2))
              (case kb0 =>
                k_steps
                all_goals first
                  | exact jp_t ⟨by assumption, by assumption⟩
                  | exact jp_f (fun p => absurd p.1 (by assumption))
                  | exact jp_f (fun p => absurd p.2 (by assumption)))
              all_goals k_steps
              all_goals (unfold Halt; rename Fr _ _ _ _ => FE; rename News _ _ _ _ => NE)
              all_goals first
                | exact end_00 FE NE htl (fun z h3 => frame8 z h3) hP hff hf (by lia) ⟨hr1b, hr1q⟩ (by lia) (by lia)
                | exact end_10 FE NE htl (fun z h3 => frame8 z h3) hP hff hf (by lia) ⟨hr1b, hr1q⟩ ⟨by lia, by lia⟩ (by lia)
                | exact end_01 FE NE htl (fun z h3 => frame8 z h3) hP hff hf (by lia) ⟨hr1b, hr1q⟩ ⟨by lia, by lia⟩ (by lia)
                | exact end_11 FE NE htl (fun z h3 => frame8 z h3) hP hff hf (by lia) ⟨hr1b, hr1q⟩ ⟨by lia, by lia⟩ ⟨by lia, by lia⟩)
          · (unfold Halt; rename Fr _ _ _ _ => FE; rename News _ _ _ _ => NE)
            exact end_0 FE NE htl (fun z h3 => frame8 z h3) hP hff hf (by lia)))))
end
end
section
open PySem PySem.W PyProof.Rows PySem.Challenge
set_option Elab.async false
set_option maxRecDepth 100000
set_option maxHeartbeats 8000000
noncomputable abbrev lawE (L fa : Addr) (cdv : Value) : Env := envX (Str.ofString "law") (scopeOf (top 11)) L fa cdv [(Str.ofString "word", L + 1)]
noncomputable abbrev lawA (dp un : Nat) (gd : Option (List Code)) (L fa : Addr) (cdv : Value) (outer : List Env) : Around := ktrTop dp un gd (Str.ofString "law") (scopeOf (top 11)) L fa cdv [(Str.ofString "word", L + 1)] outer
/-- the word: each number where it stands first -/
noncomputable def wordOf (ns : List Int) : List Int := ns.foldl (fun w x => if w.any (· == x) then w else w ++ [x]) []
theorem wordOf_snoc (ns : List Int) (x : Int) : wordOf (ns ++ [x]) = if (wordOf ns).any (· == x) then wordOf ns else wordOf ns ++ [x] := by unfold wordOf; rw [List.foldl_append]; rfl
theorem any_false {ws : List Int} {x : Int} (h : ¬ ws.any (· == x) = true) : x ∉ ws := fun hx => h (List.any_eq_true.mpr ⟨x, hx, by simp⟩)
theorem nodup_snoc {ws : List Int} {x : Int} (h : ws.Nodup) (hx : x ∉ ws) : (ws ++ [x]).Nodup := by
  rw [List.nodup_append]
  exact ⟨h, by simp, fun a ha b hb => by rw [List.mem_singleton.mp hb]; rintro rfl; exact hx ha⟩
local macro_rules | `(tactic| k_updF) => `(tactic| first | exact UpdF.head (by first | assumption | exact List.forall_mem_nil _ | exact List.forall_mem_cons.mpr ⟨Nat.ne_of_gt (by lia), List.forall_mem_nil _⟩) | (refine' UpdF.tail (by first | assumption | exact Nat.ne_of_gt (by lia)) (by k_updF)))
local macro_rules | `(tactic| walk_at "storeName") => `(tactic| (k_here; (with_reducible show wpAny _ _ (storeName _ (Str.ofString "word") _) _ _ _); k_dflt (refine' storeX_C (by k_asm) (by k_asm) (by rfl) (by k_updF) (by assumption) ?_ (by rfl) (by rfl); k_whole); intro h' o' F' N' d'; (try dsimp only at N')))
local macro_rules | `(tactic| walk_at "pyIter ref") => `(tactic| refine halt ?_)
local macro_rules | `(tactic| walk_at "execs cons") => `(tactic| ((with_reducible show wpAny _ _ (execs [_, _] _) _ _ _); refine halt ?_))
theorem forV {prog : Program} {w : World} {A : Around} {s : Shared} {h₀ : Heap} {env : Env} {x : Str} {body : List Stmt} {Q : Flow → Shared → Prop} {E : Value → Shared → Prop} {m : Str → Option Value} {px pos : Pos} {iter : PySem.Expr} (_F : Fr h₀ env.locals s.heap m) (hE : PassesOwn (model prog w) A env E) (hx : env.kindOf x = some .local)
    (hp : (env.scope.kind == .class || (env.scope.kind == .module && env.locals != env.globals)) = false)
    (h : wpAny (model prog w) A (eval iter env) (fun xv s₁ => wpAny (model prog w) A (pyIter xv) (fun it s₂ => LoopAtV prog w A h₀ env x body Q E it s₂) E s₁) E s)
    (hs : ∀ x, foldedSetIterable iter env x = pure x := by intro _; rfl) : wpAny (model prog w) A (exec (.For (.Name x px) iter body [] pos) env) Q E s := For_invV h₀ hx hp h hs hE
local macro_rules | `(tactic| walk_at "exec For Name Subscript cons nil") => `(tactic| (k_here; (rename Fr _ _ _ _ => lF'); k_dflt (refine' forV lF' (by assumption) (by exact rfl) (by exact rfl) ?_ (by (intro _; rfl)); k_whole)))
theorem notInT {prog : Program} {w : World} {A : Around} {E : Value → Shared → Prop} {Q : Value → Shared → Prop} {hp h₀ : Heap} {gs : Array GenState} {dr : Drawn} {tk0 : Nat} {os : OsState} {L l : Addr} {news : List (Addr × Obj)} {us : List Value} {n : Nat} {rs : List Int} {x : Int} {t : Tok}
    (N : News h₀ L hp news) (hm : (l, listOf us.toArray n) ∈ news) (hi : IntsAre us rs) (h1 : x ∈ rs → Q (.bool false) ⟨hp, gs, dr, tk0, os⟩) (h2 : x ∉ rs → Q (.bool true) ⟨hp, gs, dr, tk0, os⟩) :
    wpAny (model prog w) A (compareOp .NotIn (.int x t) (.ref l)) Q E ⟨hp, gs, dr, tk0, os⟩ := by
  refine notin_list_ints (s := ⟨hp, gs, dr, tk0, os⟩) (News.isList N hm) hi ?_
  by_cases h : rs.any (· == x) = true
  · rw [h]
    obtain ⟨y, hy, e⟩ := List.any_eq_true.mp h
    exact h1 (by rwa [← (by simpa using e : y = x)])
  · rw [Bool.not_eq_true] at h
    rw [h]
    exact h2 (any_false (by rw [h]; decide))
local macro_rules | `(tactic| walk_at "compareOp NotIn int ref") => `(tactic| (k_here; k_dflt (refine' notInT (by k_asm) (by k_mem) (by assumption) ?_ ?_) <;> intros))
local macro_rules | `(tactic| walk_at "binaryOp Add ref ref") => `(tactic| (k_here; k_dflt (refine' catT (i := 1) (j := 1) (by k_asm) (by k_asm) (by k_mem) (by exact List.mem_cons_self) (by assumption) (by exact IntsAre.cons _ _ .nil) (by assumption) (by exact (show 1 ≤ 1000 * 1 by decide)) (by decide) ?_); intros; (try dsimp only)))
local macro_rules | `(tactic| walk_at "call builtin:max") => `(tactic| (k_here; k_dflt (refine' kso_max (by k_asm) (by k_asm) (by exact News.isList (by assumption) List.mem_cons_self) (by assumption) (by (rw [List.length_append]; exact Nat.succ_pos _)) (by rfl) ?_); intros; (try dsimp only)))
theorem law_a {w : World} {dp un : Nat} {gd : Option (List Code)} {outer : List Env} {A₀ : Around} {base h₀ hp : Heap} {L fa nd : Addr} {cdv : Value} {gs : Array GenState} {dr : Drawn} {tk0 : Nat} {os : OsState} {Q : Flow → Shared → Prop} {E : Value → Shared → Prop}
    {mean : ExcName → Option Value} {mg mb : Str → Option Value} {m₀ : Str → Option Value} {oc : Obj} {vs : List Value} {ns : List Int} {cut hd0 : Int} {tc th : Tok}
    (B : Below A₀ base outer h₀) (F : Fr h₀ L hp (fun y => if y = Str.ofString "cut" then some (.int cut tc) else if y = Str.ofString "numbers" then some (.ref nd) else if y = Str.ofString "head" then some (.int hd0 th) else m₀ y)) (N : News h₀ L hp [(nd, listOf vs.toArray 0), (L + 1, oc)]) (T : Top q2 (looseW q2 loose2) mean mg mb h₀)
    (hE : PassesOwn (model rw_mu0013_02.row.prog w) (lawA dp un gd L fa cdv outer) (lawE L fa cdv) E) (hLn : L + 1 < nd)
    (hoc : oc.data = .cell none) (hi : IntsAre vs ns) (hlen : ns.length ≤ 62) (hc0 : 0 ≤ cut) (hc1 : cut ≤ ns.length) (hd : dp + 200 < recursionLimit) (hu : un + 2000 < cLine)
    (ret : ∀ h' tk' wd us c word ob nw tn (u : Str → Option Value), Fr h₀ L h' (fun y => if y = Str.ofString "new" then some (.int nw tn) else if y = Str.ofString "x" then u y else if y = Str.ofString "cut" then some (.int cut tc) else if y = Str.ofString "numbers" then some (.ref nd) else if y = Str.ofString "head" then some (.int hd0 th) else m₀ y) →
      News h₀ L h' [(wd, listOf (List.toArray us) c), (nd, listOf vs.toArray 0), (L + 1, ob)] → ob.data = .cell (some (.ref wd)) → IntsAre us word → word.Nodup → word.length ≤ 62 → (∀ x ∈ word, x < nw) → wd ≠ nd → wd ≠ L + 1 →
      wpAny (model rw_mu0013_02.row.prog w) (lawA dp un gd L fa cdv outer) (execs ((bodyOf (top 11)).drop 6) (lawE L fa cdv)) Q E ⟨h', gs, dr, tk', os⟩) :
    (K2 w.params).In h₀ → wpAny (model rw_mu0013_02.row.prog w) (lawA dp un gd L fa cdv outer) (execs ((bodyOf (top 11)).drop 3) (lawE L fa cdv)) Q E ⟨hp, gs, dr, tk0, os⟩ := by
  w_on
  k_fill
  intro X
  have hb := Eq.refl ((bodyOf (top 11)).drop 3)
  conv at hb => rhs; whnf
  rw [hb]
  clear hb
  have hvl := IntsAre.length hi
  w_strict (
    (have mk := kstMark)
    k_steps
    (unfold Halt)
    (rename Fr _ _ _ _ => F1)
    (rename News _ _ _ _ => N1)
    (rename_i wd h5 l5 h6 o6 d6 D5 ws5 h7 hI7 hC7 hL7 l7)
    (have hsl := IntsAre.length hI7)
    (have hrest : ∀ p ∈ [(D5, listOf ws5.toArray 0), (nd, listOf vs.toArray 0), (L + 1, o6)], p.1 ≠ wd := List.forall_mem_cons.mpr ⟨Nat.ne_of_gt l7.1, List.forall_mem_cons.mpr ⟨Nat.ne_of_lt l5.1, List.forall_mem_cons.mpr ⟨Nat.ne_of_lt l5.2, List.forall_mem_nil _⟩⟩⟩)
    (refine' kst_listL (σ := List Value × Nat × List Int) (vs := ws5) (nn := 0) (fun c : List Value × Nat × List Int => (wd, listOf c.1.toArray c.2.1) :: [(D5, listOf ws5.toArray 0), (nd, listOf vs.toArray 0), (L + 1, o6)]) (fun _ => []) (fun c : List Value × Nat × List Int => IntsAre c.1 c.2.2) []
      (fun pre (c : List Value × Nat × List Int) => c.2.2.Nodup ∧ c.2.2.length ≤ pre.length) ([], 0, []) ?hh ?hl ?hi9 ?kF ?kN ?hf ?hk ?hp ?turn ?done)
    (case hh => exact rfl)
    (case hi9 => assumption)
    (case kF => exact F1)
    (case kN => exact news_swap N1)
    (case hl => exact fun _ => .tail _ (.head _))
    (case hf => exact .nil)
    (case hk => exact List.forall_mem_nil _)
    (case hp => exact ⟨.nil, Nat.le_refl _⟩)
    (case turn =>
      rintro ⟨us, c, rs⟩ pre post n t u h tk own hpre hmem hoff hfacts ⟨hnd, hlr⟩ F2 N2
      dsimp only at hfacts hnd hlr F2 N2 ⊢
      clear F1 N1
      (have hpl2 : pre.length ≤ ns.length := by
        have := congrArg List.length hpre
        rw [List.length_append, List.length_cons] at this
        lia)
      (have hul := IntsAre.length hfacts)
      rw [List.cons_append] at N2
      (have hne : ∀ p ∈ [(D5, listOf ws5.toArray 0), (nd, listOf vs.toArray 0), (L + 1, o6)] ++ own, p.1 ≠ wd := fun p hp => (List.mem_append.mp hp).elim (fun q => hrest p q) (fun q => hoff p q wd (.head _)))
      k_steps
      · refine' kst_end ((us, c, rs) : List Value × Nat × List Int) ?kF ?kN ?hn ?ho ?ha ?hf ?hk ?hr ?hp
        (case kF => assumption)
        (case kN => assumption)
        (case hn => exact List.forall_mem_cons.mpr ⟨.head _, fun p hp => .tail _ (List.mem_append_left _ hp)⟩)
        (case ho => exact fun p hp => .tail _ (List.mem_append_right _ hp))
        (case ha => rfl)
        (case hk => exact List.forall_mem_nil _)
        (case hr => (intro z h1 h2 h3; rw [if_neg h1]; exact off_ps (ps := []) (List.forall_mem_nil _) h3))
        (case hf => exact hfacts)
        (case hp => exact ⟨hnd, by rw [List.length_append]; exact Nat.le_succ_of_le hlr⟩)
      · refine' kst_end ((us ++ [Value.int n t], c + 1, rs ++ [n]) : List Value × Nat × List Int) ?kF ?kN ?hn ?ho ?ha ?hf ?hk ?hr ?hp
        (case kF => assumption)
        (case kN => assumption)
        (case hn => exact List.forall_mem_cons.mpr ⟨by rw [show (wd, W.listOf (us ++ [Value.int n t]).toArray (c + 1)) = (wd, W.listOf (us.toArray.push (Value.int n t)) (c + 1)) by rw [List.push_toArray]]; exact .head _, fun p hp => .tail _ (List.mem_append_left _ hp)⟩)
        (case ho => exact fun p hp => .tail _ (List.mem_append_right _ hp))
        (case ha => rfl)
        (case hk => exact List.forall_mem_nil _)
        (case hr => (intro z h1 h2 h3; rw [if_neg h1]; exact off_ps (ps := []) (List.forall_mem_nil _) h3))
        (case hf => exact hfacts.append (.cons n t .nil))
        (case hp => exact ⟨nodup_snoc hnd (by assumption), by rw [List.length_append, List.length_append]; exact Nat.succ_le_succ hlr⟩))
    (case done =>
      rintro ⟨us, c, rs⟩ u h tk hfacts ⟨hnd, hlr⟩ F2 N2
      dsimp only at hfacts hnd hlr F2 N2 ⊢
      clear F1 N1
      (have hul := IntsAre.length hfacts)
      (have hsm : Sm us 1 := by unfold Sm; lia)
      k_steps
      (unfold Halt)
      (rename Fr _ _ _ _ => F9)
      (rename News _ _ _ _ => N9)
      (rename (∀ a : Int, a ∈ rs ++ [0] → a ≤ _) => hmx)
      exact ret _ _ wd us c rs o6 _ _ u F9 (fun p hp => N9 p (by
        rcases List.mem_cons.mp hp with rfl | hp
        · exact .tail _ (.tail _ (.head _))
        · exact .tail _ (.tail _ (.tail _ (.tail _ hp)))) ) d6 hfacts hnd (Nat.le_trans hlr (Nat.le_trans hL7 hlen)) (fun x hx => Int.lt_add_one_of_le (hmx x (List.mem_append_left _ hx))) (Nat.ne_of_gt l5.1) (Nat.ne_of_gt l5.2)))
end
section
open PySem PySem.W PyProof.Rows PySem.Challenge
set_option Elab.async false
set_option maxRecDepth 100000
set_option maxHeartbeats 4000000
noncomputable def forBody : Stmt → List Stmt
  | .For _ _ b _ _ => b
  | _ => []
noncomputable abbrev lawB : List Stmt := match (bodyOf (top 11)).drop 6 with
  | s :: _ => forBody s
  | _ => []
/-- the first argument of the call that is assigned -/
noncomputable def callArg : Stmt → PySem.Expr
  | .Assign _ (.Call _ [e] _ _) _ => e
  | _ => .Constant .none 0 ⟨0, 0, 0, 0⟩
noncomputable abbrev dueC : PySem.Expr := match lawB.drop 1 with
  | s :: _ => callArg s
  | _ => .Constant .none 0 ⟨0, 0, 0, 0⟩
theorem kf_ints_of {us : List Value} {word : List Int} (h : IntsAre us word) : kf_ints us = true := by
  induction h with
  | nil => rfl
  | cons n t _ ih => exact ih
theorem kf_at_of {us : List Value} {word : List Int} {k : Int} (h : IntsAre us word) : k ∈ word → kf_at k us = some (word.idxOf k) := by
  induction h with
  | nil => intro hk; cases hk
  | cons n t r ih =>
    intro h
    by_cases e : n = k
    · subst e
      unfold kf_at
      rw [show isInt n (.int n t) = true by simp [isInt]]
      simp
    · have hk := (List.mem_cons.mp h).resolve_left fun q => e q.symm
      unfold kf_at
      rw [show isInt k (.int n t) = false by simp [isInt, e]]
      rw [ih hk]
      have e2 : (n == k) = false := by simp [e]
      simp [List.idxOf_cons, e2]
theorem compRest_ind {prog : Program} {w : World} {A : Around} {h₀ : Heap} {L : Addr} {m : Str → Option Value} {env : Env} {ct elt : PySem.Expr} {x : Str} {scope : Scope} {cl : List (Str × Addr)} {s : Shared} {S : List (Addr × Obj) → Prop} {P : Nat → Value → Prop} {Fin : List Value → List (Addr × Obj) → Prop} {news : List (Addr × Obj)}
    (J : Nat → List Value → Prop) (n : Nat) (h0 : ∀ ys, J n ys → Fin ys news)
    (step : ∀ k i ys, i < n → J i ys → (∀ ys', J (i + 1) ys' → LCt.CompRestT prog w A h₀ L m env ct elt x scope cl s S P Fin k (i + 1) ys' news) → LCt.CompRestT prog w A h₀ L m env ct elt x scope cl s S P Fin (k + 1) i ys news) :
    ∀ k i ys, i + k = n → J i ys → LCt.CompRestT prog w A h₀ L m env ct elt x scope cl s S P Fin k i ys news
  | 0, i, ys, e, hj => LCt.CompRestT.zero (h0 ys (by rw [← e]; exact hj))
  | k + 1, i, ys, e, hj => step k i ys (by lia) hj fun ys' hj' => compRest_ind J n h0 step k (i + 1) ys' (by lia) hj'
theorem inT {prog : Program} {w : World} {A : Around} {E : Value → Shared → Prop} {Q : Value → Shared → Prop} {hp h₀ : Heap} {gs : Array GenState} {dr : Drawn} {tk0 : Nat} {os : OsState} {L l : Addr} {news : List (Addr × Obj)} {us : List Value} {n : Nat} {rs : List Int} {x : Int} {t : Tok}
    (N : News h₀ L hp news) (hm : (l, listOf us.toArray n) ∈ news) (hi : IntsAre us rs) (h1 : x ∈ rs → Q (.bool true) ⟨hp, gs, dr, tk0, os⟩) (h2 : x ∉ rs → Q (.bool false) ⟨hp, gs, dr, tk0, os⟩) :
    wpAny (model prog w) A (compareOp .In (.int x t) (.ref l)) Q E ⟨hp, gs, dr, tk0, os⟩ := by
  refine in_list_ints (s := ⟨hp, gs, dr, tk0, os⟩) (News.isList N hm) hi ?_
  by_cases h : rs.any (· == x) = true
  · rw [h]
    obtain ⟨y, hy, e⟩ := List.any_eq_true.mp h
    exact h1 (by rwa [← (by simpa using e : y = x)])
  · rw [Bool.not_eq_true] at h
    rw [h]
    exact h2 (any_false (by rw [h]; decide))
theorem places_snoc (w l : List Int) (x : Int) : places w (l ++ [x]) = if x ∈ w then places w l ++ [(w.idxOf x : Int)] else places w l := by
  rw [places_app]
  unfold places
  by_cases h : x ∈ w
  · rw [if_pos h]; simp [h]
  · rw [if_neg h]; simp [h]
local macro_rules | `(tactic| walk_at "compareOp In int ref") => `(tactic| (k_here; k_dflt (refine' inT (by k_asm) (by k_mem) (by assumption) ?_ ?_) <;> intros))
local macro_rules | `(tactic| walk_at "call builtin:list.index") => `(tactic| (k_here; k_dflt (refine' kf_index (by k_asm) (by k_mem) (by assumption) (by exact kf_at_of (by assumption) (by assumption)) rfl (by assumption) ?_)))
local macro_rules | `(tactic| walk_at "CompEnd") => `(tactic| refine halt ?_)
local macro_rules | `(tactic| walk_at "CompSrcT") => `(tactic| refine halt ?_)
theorem due_comp {w : World} {dp un : Nat} {gd : Option (List Code)} {outer : List Env} {h₀ hp : Heap} {L fa wd r : Addr} {cdv : Value} {gs : Array GenState} {dr : Drawn} {tk0 c n : Nat} {os : OsState} {Q E : Value → Shared → Prop}
    {m₀ : Str → Option Value} {ob : Obj} {us ws : List Value} {word xs : List Int} {led : List (Addr × Obj)}
    (F : Fr h₀ L hp (fun z => if z = Str.ofString "made" then some (.ref r) else m₀ z)) (N : News h₀ L hp led)
    (hw : (wd, listOf us.toArray c) ∈ led) (hob : (L + 1, ob) ∈ led) (hobd : ob.data = .cell (some (.ref wd))) (hi : IntsAre us word) (hlen : word.length ≤ 62) (hr : (r, listOf ws.toArray n) ∈ led) (hx : IntsAre ws xs) (hxl : xs.length ≤ 1000)
    (ret : ∀ D vs h' tk', Fr h₀ L h' (fun z => if z = Str.ofString "made" then some (.ref r) else m₀ z) → News h₀ L h' ((D, listOf (List.toArray vs) vs.length) :: led) → IntsAre vs (places word xs) → Q (.ref D) ⟨h', gs, dr, tk', os⟩) :
    (K2 w.params).In h₀ → wpAny (model rw_mu0013_02.row.prog w) (lawA dp un gd L fa cdv outer) (eval dueC (lawE L fa cdv)) Q E ⟨hp, gs, dr, tk0, os⟩ := by
  w_on
  k_fill
  intro X
  have hb := Eq.refl dueC
  conv at hb => rhs; whnf
  rw [hb]
  clear hb
  have hvl := IntsAre.length hi
  have hki := kf_ints_of hi
  have husz : us.toArray.toList.length ≤ sizeLine := by rw [sizeLine_eq]; simp; lia
  w_strict (
    (have mk := kstMark)
    (refine' LCt.ListComp_T F ?z1 ?z2 ?z3 ?z4 ?z5 ?z6)
    (case z1 => with_unfolding_all rfl)
    (case z2 => decide)
    (case z3 => rfl)
    (case z4 => decide)
    (case z5 => rfl)
    (case z6 =>
      k_steps
      (unfold Halt)
      (refine' LCt.CompSrcT.ledger rfl F N hr ?q1 (fun g0 => ?q2))
      (case q1 => (rw [List.size_toArray, hx.length, sizeLine_eq]; lia))
      (case q2 =>
        (refine' compRest_ind (fun i ys => IntsAre ys (places word (xs.take i))) ws.toArray.size ?q3 ?q4 _ 0 [] (Nat.zero_add _) .nil)
        (case q3 =>
          intro ys hy
          rw [List.size_toArray, hx.length, List.take_length] at hy
          exact fun D h5 tk5 F5 N5 _ => ret D ys h5 tk5 F5 N5 hy)
        (case q4 =>
          intro k i ys hi9 hy hrest
          (refine' LCt.CompRestT.succ ?q5)
          intro v I oI C oC D m2 h tk E2 hv hC hxm F5 N5 off ne
          (have hlt : i < xs.length := by rw [List.size_toArray, hx.length] at hi9; exact hi9)
          (obtain ⟨t, ht⟩ := hx.get i xs[i] (by simp [hlt]))
          (have hve : v = .int xs[i] t := by
            rw [List.getElem?_toArray, ht] at hv
            exact (Option.some.inj hv).symm)
          subst hve
          (have hsn : xs.take (i + 1) = xs.take i ++ [xs[i]] := by rw [List.take_add_one]; simp [hlt])
          clear F N
          k_steps
          all_goals (unfold Halt; rename Fr _ _ _ _ => F6; rename News _ _ _ _ => N6)
          · exact LCg.CompEnd.intro F6 N6 led (fun p hp => hp) off (.inr ⟨_, hr, rfl, _, rfl⟩) (hrest _ (by rw [hsn, places_snoc, if_pos (by assumption)]; exact hy.append (.cons _ _ .nil)))
          · exact LCg.CompEnd.intro F6 N6 led (fun p hp => hp) off (.inr ⟨_, hr, rfl, _, rfl⟩) (hrest _ (by rw [hsn, places_snoc, if_neg (by assumption)]; exact hy))))))
end
section
open PySem PySem.W PyProof.Rows PySem.Challenge PySem.Spec PySem.Calls
set_option Elab.async false
set_option maxRecDepth 100000
set_option maxHeartbeats 4000000
/-- [size for i, j, size in l], over a list of Matches -/
theorem size_comp {w : World} {A : Around} {E : Value → Shared → Prop} {h₀ hp : Heap} {gs : Array GenState} {dr : Drawn} {tk0 c : Nat} {os : OsState} {L S : Addr} {m : Str → Option Value} {env : Env} {Q : Value → Shared → Prop} {led : List (Addr × Obj)} {acc : List NEt}
    {x1 x2 x3 : Str} {iter : PySem.Expr} {p1 p2 p3 p4 tp pos : Pos} {tk : Nat} {scope : Scope} {cl : List (Str × Addr)}
    (hh : A.handled = none) (F : Fr h₀ L hp m) (N : News h₀ L hp led) (hS : (S, listOf (valsF acc).toArray c) ∈ led) (hm : ∀ e ∈ acc, IsM e.2.1 e.2.2) (hin : ∀ e ∈ acc, (e.1, e.2.1) ∈ led) (hz : acc.length ≤ 1000) (X : (K2 w.params).In h₀)
    (hclos : closureFor scope env = pure cl) (hcell : ∀ y ∈ scope.names, y.2 ≠ .cell) (hkind : scope.kind = .function) (hnames : ∀ y ∈ scope.names, y.2 = .local → scope.names.lookup y.1 = some .local)
    (hx1 : scope.names.lookup x1 = some .local) (hx2 : scope.names.lookup x2 = some .local) (hx3 : scope.names.lookup x3 = some .local) (hs : ∀ x, foldedSetIterable iter env x = pure x) (hdb : (x3 == ("__debug__" : Str)) = false)
    (hit : ∀ Q' : Value → Shared → Prop, (∀ tk', Q' (.ref S) ⟨hp, gs, dr, tk', os⟩) → wpAny (model rw_mu0013_02.row.prog w) A (eval iter env) Q' E ⟨hp, gs, dr, tk0, os⟩)
    (ret : ∀ D vs h' tk', Fr h₀ L h' m → News h₀ L h' ((D, listOf (List.toArray vs) vs.length) :: led) → IntsAre vs (acc.map fun e => (e.2.2 : Int)) → Q (.ref D) ⟨h', gs, dr, tk', os⟩) :
    wpAny (model rw_mu0013_02.row.prog w) A (eval (.ListComp (.Name x3 p4) [⟨.Tuple [.Name x1 p1, .Name x2 p2, .Name x3 p3] tk tp, iter, [], 0⟩] scope pos) env) Q E ⟨hp, gs, dr, tk0, os⟩ := by
  rw [eval_ListComp]
  refine wpAny_comprehension_free (use := none) rfl hs hclos hkind hnames (hit _ fun tk1 => ?_)
  have hl : hp.IsList S (valsF acc).toArray := ⟨_, (N _ hS).1, rfl, c, rfl⟩
  refine wpAny_pyIter_list hl ?_
  show wpAny _ _ _ _ _ ⟨hp.push { cls := .type "list_iterator", data := .fields #[.ref S, .int 0 0] }, gs, dr, tk1, os⟩
  have F1 := F.push { cls := .type "list_iterator", data := .fields #[.ref S, .int 0 0] }
  have N1 := N.push F { cls := .type "list_iterator", data := .fields #[.ref S, .int 0 0] }
  have lt1 : ∀ p ∈ led, p.1 < hp.objs.size := fun p hp9 => Heap.lt_size (N p hp9).1
  dsimp only
  generalize hI : hp.objs.size = I at N1 lt1 ⊢
  generalize hp.push { cls := .type "list_iterator", data := .fields #[.ref S, .int 0 0] } = h1 at F1 N1 ⊢
  have ltI : I < h1.objs.size := Heap.lt_size (N1 _ (.head _)).1
  refine wpAny_newObj_type ?_
  have F2 := F1.push { cls := .type "list", data := .seq ([] : List Value).toArray }
  have N2 := N1.push F1 { cls := .type "list", data := .seq ([] : List Value).toArray }
  dsimp only
  generalize hD : h1.objs.size = D at N2 ltI ⊢
  generalize hh2 : h1.push { cls := .type "list", data := .seq ([] : List Value).toArray } = h2 at F2 N2 ⊢
  refine wpAny_newFunctionEnv hcell (by intro y hy; simp at hy) (fun h3 hn3 hs3 => ?_) hkind
  dsimp only at hn3 hs3 ⊢
  have ltD : D < h2.objs.size := Heap.lt_size (N2 _ (.head _)).1
  generalize hC : h2.objs.size = C at hn3 hs3 ltD ⊢
  change Heap.SameBut C (h2.push { cls := .type "dict", data := .dict #[] }) h3 at hs3
  have F3p := F2.push { cls := .type "dict", data := .dict #[] }
  have nC := (N2.push F2 { cls := .type "dict", data := .dict #[] }) _ List.mem_cons_self
  rw [hC] at nC
  have F3 : Fr h₀ L h3 m := F3p.change hs3 nC.2.1 nC.2.2
  have N3 : News h₀ L h3 ((D, listOf #[] 0) :: (I, listIt S 0) :: led) := fun p hp9 => by
    have z := N2 p hp9
    have hlt : p.1 < C := hC ▸ Heap.lt_size z.1
    exact ⟨(hs3.2 _ (Nat.ne_of_lt hlt)).trans (Heap.get?_push_of_some _ z.1), z.2⟩
  have offL : ∀ p ∈ led, p.1 ≠ I ∧ p.1 ≠ D ∧ p.1 ≠ C := fun p hp9 => ⟨Nat.ne_of_lt (lt1 p hp9), Nat.ne_of_lt (Nat.lt_trans (lt1 p hp9) ltI), Nat.ne_of_lt (Nat.lt_trans (lt1 p hp9) (Nat.lt_trans ltI ltD))⟩
  have nCL := nC.2
  have hlet : (compEnvC scope cl C env).scope.kind = .function := hkind
  have main : ∀ R : Result → Shared → Prop, (∀ s' : Shared, (∃ m9, s'.heap.Ns C m9 ∧ ∀ h', Heap.SameBut C s'.heap h' → Q (.ref D) { s' with heap := h' }) → R (.ok .next) s') →
      ∀ s9 : Shared, (∃ tk9, s9 = ⟨h3, gs, dr, tk9, os⟩) → codeAny (model rw_mu0013_02.row.prog w) A (.compLoop (.ListComp (.Name x3 p4) [⟨.Tuple [.Name x1 p1, .Name x2 p2, .Name x3 p3] tk tp, iter, [], 0⟩] scope pos) 0 (.ref I) (.ref D) (compEnvC scope cl C env)) R s9 := by
    rintro R hR s9 ⟨tk9, rfl⟩
    obtain ⟨Inv, hInv⟩ : ∃ Inv : Nat → Shared → Prop, Inv = fun k s' => ∃ h' tk' i ys m' oI, s' = ⟨h', gs, dr, tk', os⟩ ∧ i ≤ acc.length ∧ k = acc.length + 1 - i ∧ ys.length = i ∧ Fr h₀ L h' m ∧ News h₀ L h' ((D, LCg.lst ys) :: (I, oI) :: led) ∧ LI oI S i ∧ h'.Ns C m' ∧ IntsAre ys ((acc.take i).map fun e => (e.2.2 : Int)) := ⟨_, rfl⟩
    refine LCp.codeAny_compLoop_pair Inv ?_ (acc.length + 1) (by rw [hInv]; exact ⟨h3, tk9, 0, [], _, listIt S 0, rfl, Nat.zero_le _, rfl, rfl, F3, N3, ⟨rfl, rfl⟩, hn3, .nil⟩)
    intro k s' hI0
    rw [hInv] at hI0
    obtain ⟨h', tk', i, ys, m', oI, rfl, hi, rfl, hyl, F', N', hLI, hn', hI9⟩ := hI0
    have nI := N' (I, oI) (.tail _ (.head _))
    have hl' : h'.IsList S (valsF acc).toArray := ⟨_, (N' _ (.tail _ (.tail _ hS))).1, rfl, c, rfl⟩
    have hID : I ≠ D := Nat.ne_of_lt ltI
    have hIC : I ≠ C := Nat.ne_of_lt (Nat.lt_trans ltI ltD)
    have hDC : D ≠ C := Nat.ne_of_lt ltD
    by_cases hlt : i < acc.length
    · obtain ⟨dd, ei, ej, z1, z2, z3, ho⟩ := hm acc[i] (by simp)
      have hmem := hin acc[i] (by simp)
      have he : acc[i]? = some acc[i] := by simp [hlt]
      generalize acc[i] = e at ho hmem he
      obtain ⟨eA, eO, ek⟩ := e
      dsimp only at ho hmem
      subst ho
      refine wpAny_pyNext_list_item (x := .ref eA) ⟨oI, nI.1, hLI.1, hLI.2⟩ hl' (by simp [valsF, he]) fun h4 hit4 hs4 => ?_
      have F4 : Fr h₀ L h4 m := F'.change hs4 nI.2.1 nI.2.2
      obtain ⟨oI4, hoI4, hc4, hd4⟩ := hit4
      have N4 : News h₀ L h4 ((D, LCg.lst ys) :: (I, oI4) :: led) := news_set (pre := [(D, LCg.lst ys)]) (post := led) N' (List.forall_mem_cons.mpr ⟨hID.symm, List.forall_mem_nil _⟩) (fun p hp9 => (offL p hp9).1) hs4 hoI4
      have hn4 : h4.Ns C m' := hn'.sameBut hs4 hIC.symm
      dsimp only
      refine wpAny_letOwnedTupleGo_listiter (i := i + 1) (l := S) ⟨oI4, hoI4, hc4, hd4⟩ ?_
      obtain ⟨oC, heC, hoC⟩ := LCg.ns_obj hn4
      have N4' : News h₀ L h4 ((C, oC) :: (D, LCg.lst ys) :: (I, oI4) :: led) := fun p hp9 => by
        rcases List.mem_cons.mp hp9 with rfl | hp9
        · exact ⟨heC, nCL⟩
        · exact N4 p hp9
      refine assignM hh F4 N4' (.tail _ (.tail _ (.tail _ hmem))) X rfl rfl fun h5 F5 N5 => ?_
      have hn5 : h5.Ns C m' := hoC.ns (N5 _ (.head _)).1
      have hlc : (compEnvC scope cl C env).scope.kind = .function := hkind
      have hpl : ((compEnvC scope cl C env).scope.kind == .class || ((compEnvC scope cl C env).scope.kind == .module && (compEnvC scope cl C env).locals != (compEnvC scope cl C env).globals)) = false := by rw [hlc]; rfl
      refine assignInOrder_cons (wpAny_assign_Name (wpAny_storeName_local (lookup_relabel_local hx1) hn5 (fun h6 hn6 hs6 => ?_) hpl))
      refine assignInOrder_cons (wpAny_assign_Name (wpAny_storeName_local (lookup_relabel_local hx2) hn6 (fun h7 hn7 hs7 => ?_) hpl))
      refine assignInOrder_cons (wpAny_assign_Name (wpAny_storeName_local (lookup_relabel_local hx3) hn7 (fun h8 hn8 hs8 => ?_) hpl))
      refine assignInOrder_nil ?_
      have F8 : Fr h₀ L h8 m := ((F5.change hs6 nCL.1 nCL.2).change hs7 nCL.1 nCL.2).change hs8 nCL.1 nCL.2
      have off : ∀ p ∈ (D, LCg.lst ys) :: (I, oI4) :: led, p.1 ≠ C := List.forall_mem_cons.mpr ⟨hDC, List.forall_mem_cons.mpr ⟨hIC, fun p hp9 => (offL p hp9).2.2⟩⟩
      have N8 : News h₀ L h8 ((D, LCg.lst ys) :: (I, oI4) :: led) := fun p hp9 => by
        have z := N5 p (.tail _ hp9)
        exact ⟨(hs8.2 _ (off p hp9)).trans ((hs7.2 _ (off p hp9)).trans ((hs6.2 _ (off p hp9)).trans z.1)), z.2⟩
      refine wpAny_Name (wpAny_loadName_local hlc (lookup_relabel_local hx3) hn8 (v := .int (ek : Int) z3) (if_pos rfl) ?_) hdb
      have zD := N8 _ List.mem_cons_self
      refine append_at (hsz := by rw [List.size_toArray, hyl, sizeLine_eq]; lia) zD.1 fun h9 hs9 hD9 => ?_
      refine ⟨acc.length + 1 - (i + 1), by lia, ?_⟩
      rw [hInv]
      refine ⟨h9, _, i + 1, ys ++ [.int (ek : Int) z3], _, oI4, rfl, hlt, rfl, by rw [List.length_append, List.length_singleton, hyl], F8.change hs9 zD.2.1 zD.2.2, fun p hp9 => ?_, ⟨hc4, hd4⟩, hn8.sameBut hs9 hDC.symm, ?_⟩
      · rcases List.mem_cons.mp hp9 with rfl | hp9
        · exact ⟨hD9.trans (congrArg some (LCg.lst_snoc ys _)), zD.2⟩
        · have z := N8 p (.tail _ hp9)
          refine ⟨(hs9.2 _ ?_).trans z.1, z.2⟩
          rcases List.mem_cons.mp hp9 with rfl | hp9
          · exact hID
          · exact (offL p hp9).2.1
      · rw [List.take_add_one, he, List.map_append]
        exact hI9.append (.cons _ _ .nil)
    · obtain rfl : i = acc.length := Nat.le_antisymm hi (Nat.not_lt.mp hlt)
      refine wpAny_pyNext_list_end hh ⟨oI, nI.1, hLI.1, hLI.2⟩ hl' (by simp [valsF]) fun h4 hx4 => ?_
      have F4 := fr_extBut F' hx4 nI.2.1 nI.2.2
      have zD := N' _ List.mem_cons_self
      have hn4 : h4.Ns C m' := hn'.extBut hx4 hIC.symm
      refine hR _ ⟨m', hn4, fun h5 hs5 => ret D ys h5 _ (F4.change hs5 nCL.1 nCL.2) (fun p hp9 => ?_) (by rwa [List.take_length] at hI9)⟩
      rcases List.mem_cons.mp hp9 with rfl | hp9
      · exact ⟨(hs5.2 _ hDC).trans (hx4 _ _ hID.symm zD.1), zD.2⟩
      · have z := N' p (.tail _ (.tail _ hp9))
        exact ⟨(hs5.2 _ (offL p hp9).2.2).trans (hx4 _ _ (offL p hp9).1 z.1), z.2⟩
  refine codeAny_compStart_list (main _ (fun _ h => h) _ ⟨_, rfl⟩) ((Walks.list (prog := rw_mu0013_02.row.prog) (w := w) hh I S (offL _ hS).1 (valsF acc).toArray).self 0 _ _ _ ⟨⟨_, (N3 _ (.tail _ (.head _))).1, rfl, rfl⟩, ⟨_, (N3 _ (.tail _ (.tail _ hS))).1, rfl, c, rfl⟩⟩ (main _ (fun _ h => h) _ ⟨_, rfl⟩))
end
section
open PySem PySem.W PyProof.Rows PySem.Challenge
set_option Elab.async false
set_option maxRecDepth 100000
set_option maxHeartbeats 4000000
local macro_rules | `(tactic| walk_at "call ref") => `(tactic| (with_reducible refine haltC 188 ?_))
theorem make_tells2 {w : World} {dp un : Nat} {gd : Option (List Code)} {cn : Str} {cs : Scope} {a : Addr} {ccd : Value} {cl : List (Str × Addr)} {outer : List Env} {A₀ : Around} {base h₀ : Heap} {L : Addr} {m : Str → Option Value} {news : List (Addr × Obj)} {s : Shared}
    {mean : ExcName → Option Value} {mg mb : Str → Option Value} {la lb : Addr} {va vb : List Value} {na nb : Nat} {bs : List Int} {Q E : Value → Shared → Prop}
    (B : Below A₀ base outer h₀) (F : Fr h₀ L s.heap m) (N : News h₀ L s.heap news) (T : Top q2 (looseW q2 loose2) mean mg mb h₀) (hk : cs.kind = .function)
    (hla : (la, listOf va.toArray na) ∈ news) (hlb : (lb, listOf vb.toArray nb) ∈ news) (hi : IntsAre vb bs) (hlen : bs.length < 200) (hd : dp + 60 < recursionLimit) (hu : un + 400 < cLine)
    (ret : ∀ h' tk' news' x d D S1 S2 led t1 t2 t3 t4 t5 t6 t7 t8 t9 t10 kvs o ls, Fr h₀ L h' m → News h₀ L h' news' → (x, instObj 242 d) ∈ news' → (d, dictOf [en w "isjunk" t1 .none, en w "a" t2 (.ref la), en w "b" t3 (.ref lb), en w "autojunk" t4 (.bool true), en w "matching_blocks" t5 .none, en w "opcodes" t6 .none, en w "fullbcount" t7 .none, en w "b2j" t8 (.ref D), en w "bjunk" t9 (.ref S1), en w "bpopular" t10 (.ref S2)] 10) ∈ news' → (S1, setE led) ∈ news' → (D, o) ∈ news' → (∀ p ∈ ls, p ∈ news') → (∀ p ∈ news, p ∈ news') → (∀ p ∈ news, p.1 < d) →
      o.IsDictOf (intKind rw_mu0013_02.row.prog w) kvs → (D == sysModules) = false → B2J bs kvs ls → Q (.ref x) { s with heap := h', toks := tk' }) :
    (K2 w.params).In h₀ → wpAny (model rw_mu0013_02.row.prog w) (ktrTop dp un gd cn cs L a ccd cl outer) (call (.ref 242) [.none, .ref la, .ref lb]) Q E s := by
  w_on
  k_fill
  intro X
  obtain ⟨ck, cnm, cig, cic, cmo⟩ := cs
  change ck = _ at hk
  subst hk
  w_strict (
    (have mk := kstMark)
    (have hvl := IntsAre.length hi)
    k_steps
    (unfold Halt)
    (rename Fr _ _ _ _ => F9)
    (rename News _ _ _ _ => N9)
    (refine' chain_tells (vb := vb) (nb := nb) (bs := bs) ?b1 F9 (news_swap N9) ?b2 ?b3 ?b4 ?b5 ?b6 hi hlen ?b7 ?b8 ?b9 ?b10)
    (case b1 => k_asm)
    (case b2 => k_asm)
    (case b3 => exact rfl)
    (case b4 => exact .head _)
    (case b5 => exact .tail _ hlb)
    (case b6 => exact List.forall_mem_cons.mpr ⟨Nat.ne_of_gt (by assumption), fun p hp => Nat.ne_of_lt ((by assumption : ∀ p ∈ news, p.1 < _) p hp)⟩)
    (case b7 => ktr_room)
    (case b8 => ((have hcL9 := cLine_is); (try simp only [units_under_make, units_in1, units_deeper, Around.mark_units, units_caller] at *); (try dsimp only [ktrTop] at *); lia))
    (case b10 => k_asm)
    (intro h8 tk8 news8 D S1 S2 led t8 t9 t10 kvs o ls F8 N8 c1 c2 c3 c4 c5 c6 c7 c8
     try dsimp only)
    clear F9 N9
    (have c9 := c5 _ (.head _))
    (have c10 : ∀ p ∈ news, p ∈ news8 := fun p hp => c5 p (.tail _ hp))
    clear c5
    k_steps
    (rename Fr _ _ _ _ => F7)
    (rename News _ _ _ _ => N7)
    exact ret _ _ _ _ _ D S1 S2 led _ _ _ _ _ _ _ t8 t9 t10 kvs o ls F7 N7 c9 c1 c2 c3 c4 c10 (by assumption) c6 c7 c8)
end
section
open PySem PySem.W PyProof.Rows PySem.Challenge
set_option Elab.async false
set_option maxRecDepth 100000
set_option maxHeartbeats 8000000
noncomputable abbrev lawI : List Stmt := match lawB.drop 2 with
  | s :: _ => forBody s
  | _ => []
theorem map_insert {m : Str → Option Value} {x : Str} {v : Value} (h : m x = some v) : (fun z => if z = x then some v else m z) = m := by
  funext z
  by_cases e : z = x
  · subst e; rw [if_pos rfl, h]
  · rw [if_neg e]
theorem sumT {prog : Program} {w : World} {A : Around} {E : Value → Shared → Prop} {Q : Value → Shared → Prop} {hp h₀ : Heap} {gs : Array GenState} {dr : Drawn} {tk0 : Nat} {os : OsState} {L l : Addr} {m : Str → Option Value} {news : List (Addr × Obj)} {vs : List Value} {n : Nat} {ns : List Int}
    (hh : A.handled = none) (F : Fr h₀ L hp m) (N : News h₀ L hp news) (hm : (l, listOf vs.toArray n) ∈ news) (hi : IntsAre vs ns) (h : ∀ t h' tk, Fr h₀ L h' m → News h₀ L h' news → Q (.int ns.sum t) ⟨h', gs, dr, tk, os⟩) :
    wpAny (model prog w) A (call (.builtin "sum") [.ref l]) Q E ⟨hp, gs, dr, tk0, os⟩ := by
  obtain ⟨xs, e⟩ := hi.allInts.items
  have hl := News.isList N hm
  rw [e] at hl
  have e2 : xs.toList.map (·.1) = ns := by rw [← nums_intItems, ← e]; exact hi.numsOf
  refine sum_intListG (s := ⟨hp, gs, dr, tk0, os⟩) hh hl fun h' tk t' hk => ?_
  rw [preSum_eq, List.take_of_length_le (by simp), e2]
  exact h t' h' tk (F.keeps hk) (N.grown hk)
theorem sum_sizes (acc : List NEt) : (acc.map fun e => (e.2.2 : Int)).sum = ((sizesN acc : Nat) : Int) := by
  induction acc with
  | nil => rfl
  | cons e acc ih => simp only [List.map_cons, List.sum_cons, sizesN] at ih ⊢; rw [ih]; simp
local macro_rules | `(tactic| walk_at "eval ListComp") => `(tactic| refine halt ?_)
local macro_rules | `(tactic| walk_at "call ref") => `(tactic| (with_reducible refine haltC 242 ?_))
local macro_rules | `(tactic| walk_at "call ref") => `(tactic| (with_reducible refine haltC 203 ?_))
local macro_rules | `(tactic| walk_at "call builtin:sum") => `(tactic| (k_here; k_dflt (refine' sumT (by exact rfl) (by k_asm) (by k_asm) (by exact List.mem_cons_self) (by assumption) ?_); intros))
theorem law_d {w : World} {dp un : Nat} {gd : Option (List Code)} {outer : List Env} {A₀ : Around} {base h₀ hp : Heap} {L fa la lb : Addr} {cdv : Value} {gs : Array GenState} {dr : Drawn} {tk0 na nb due : Nat} {os : OsState} {Q : Flow → Shared → Prop} {E : Value → Shared → Prop}
    {mean : ExcName → Option Value} {mg mb : Str → Option Value} {m₁ : Str → Option Value} {va vb : List Value} {as bs : List Int} {td : Tok} {led : List (Addr × Obj)}
    (B : Below A₀ base outer h₀) (F : Fr h₀ L hp (fun z => if z = Str.ofString "second" then some (.ref lb) else if z = Str.ofString "first" then some (.ref la) else m₁ z)) (hdue : m₁ (Str.ofString "due") = some (.int (due : Int) td)) (N : News h₀ L hp led) (T : Top q2 (looseW q2 loose2) mean mg mb h₀)
    (hE : PassesOwn (model rw_mu0013_02.row.prog w) (lawA dp un gd L fa cdv outer) (lawE L fa cdv) E)
    (hla : (la, listOf va.toArray na) ∈ led) (hlb : (lb, listOf vb.toArray nb) ∈ led) (hia : IntsAre va as) (hib : IntsAre vb bs) (hal : as.length < 200) (hbl : bs.length < 200) (hmin : as.length < 64 ∨ bs.length < 64) (hd : dp + 200 < recursionLimit) (hu : un + 2000 < cLine)
    (ht : ∀ t, Tot (Mt as bs) 0 as.length 0 bs.length t → t = due)
    (ret : ∀ h' tk' S, Fr h₀ L h' (fun z => if z = Str.ofString "blocks" then some (.ref S) else if z = Str.ofString "second" then some (.ref lb) else if z = Str.ofString "first" then some (.ref la) else m₁ z) → News h₀ L h' led → Q .next ⟨h', gs, dr, tk', os⟩) :
    (K2 w.params).In h₀ → wpAny (model rw_mu0013_02.row.prog w) (lawA dp un gd L fa cdv outer) (execs lawI (lawE L fa cdv)) Q E ⟨hp, gs, dr, tk0, os⟩ := by
  w_on
  k_fill
  intro X
  have hb := Eq.refl lawI
  conv at hb => rhs; whnf
  rw [hb]
  clear hb
  have hvla := IntsAre.length hia
  have hvlb := IntsAre.length hib
  rw [← map_insert hdue] at F
  w_strict (
    (have mk := kstMark)
    k_steps
    (unfold Halt)
    (refine' make_tells2 (bs := bs) ?b1 F N ?b2 ?b3 hla hlb hib hbl ?b4 ?b5 ?b6 ?b7)
    (case b1 => k_asm)
    (case b2 => k_asm)
    (case b3 => exact rfl)
    (case b4 => ktr_room)
    (case b5 => ktr_units)
    (case b7 => k_asm)
    (case b6 =>
      intro h5 tk5 news5 x d D S1 S2 ld t1 t2 t3 t4 t5 t6 t7 t8 t9 t10 kvs o ls F5 N5 c1 c2 c3 c4 c5 c6 c7 c8 c9 c10
      clear F N
      (try dsimp only)
      k_steps
      (unfold Halt)
      (rename Fr _ _ _ _ => F6)
      (rename News _ _ _ _ => N6)
      (refine' gmb_tells (keep := led) (as := as) (bs := bs) ?e1 F6 N6 ?e2 ?e3 c1 c2 c3 c4 c5 (c6 _ hla) (c6 _ hlb) c8 c9 c10 hia hib ?e4 ?e5 hmin ?e6 ?e7 ?e8 ?e9 ?f1)
      (case e1 => k_asm)
      (case e2 => k_asm)
      (case e3 => exact rfl)
      (case e4 => lia)
      (case e5 => lia)
      (case e6 => exact fun p hp9 => ⟨c6 p hp9, Nat.ne_of_lt (c7 p hp9)⟩)
      (case e7 => ktr_room)
      (case e8 => ktr_units)
      (case f1 => k_asm)
      (case e9 =>
        intro S acc h7 tk7 cS F7 N7 hAm hT hAl
        clear c1 c2 c3 c4 c5 c6 c7 c8 c9 c10
        (have hsum := ht _ hT)
        k_steps
        (unfold Halt)
        (rename Fr _ _ _ _ => F8)
        (rename News _ _ _ _ => N8)
        (refine' size_comp (acc := acc) rfl F8 N8 (List.mem_cons_self) hAm ?g1 ?g2 X ?g3 ?g4 ?g5 ?g6 ?g7 ?g8 ?g9 ?h1 ?h2 ?h3 ?h4)
        (case g1 => exact fun e he => .tail _ (List.mem_append_left _ (List.mem_map.mpr ⟨e, he, rfl⟩)))
        (case g2 => lia)
        (case g3 => with_unfolding_all rfl)
        (case g4 => decide)
        (case g5 => rfl)
        (case g6 => decide)
        (case g7 => rfl)
        (case g8 => rfl)
        (case g9 => rfl)
        (case h1 => (intro _; rfl))
        (case h2 => decide)
        (case h3 => exact fun Q' h => nameX_L F8 rfl (h _))
        (case h4 =>
          intro D9 vs9 h9 tk9 F9 N9 hI9
          clear F8 N8
          (have hse : (acc.map fun e => (e.2.2 : Int)).sum = (due : Int) := by rw [sum_sizes, hsum])
          k_steps
          · exact absurd hse (by assumption)
          · (rename Fr _ _ _ _ => F10)
            (rename News _ _ _ _ => N10)
            (have e9 : ∀ z, (if z = Str.ofString "due" then some (Value.int (due : Int) td) else m₁ z) = m₁ z := fun z => congrFun (map_insert hdue) z)
            simp only [e9] at F10
            exact ret _ _ S F10 (fun p hp => N10 p (.tail _ (.tail _ (List.mem_append_right _ hp))))))))
end
section
open PySem PySem.W PyProof.Rows PySem.Challenge
set_option Elab.async false
set_option maxRecDepth 100000
set_option maxHeartbeats 8000000
theorem mistake_len {w nws : List Int} {e o u k : Nat} (h : e + o + u ≤ w.length) (hn : nws.length = o) : (mistake w nws e o u k).length ≤ 2 * w.length := by
  have l1 : (seg w 0 e).length = e := seg_length (by lia)
  have l2 : (seg w e o).length = o := seg_length (by lia)
  have l3 : (seg w (e + o) u).length = u := seg_length h
  have l4 : (seg w (e + o + u) (w.length - (e + o + u))).length = w.length - (e + o + u) := seg_length (by lia)
  generalize hb : w.length - (e + o + u) = b at l4
  have hn2 : w.length = e + o + u + b := by lia
  have big : e + (o + (o + (u + b))) ≤ 2 * w.length := by lia
  clear hn2
  match k with
  | 0 => show List.length (_ ++ _) ≤ _; rw [List.length_append, List.length_append, hb, l1, l3, l4]; lia
  | 1 => show List.length (_ ++ _) ≤ _; rw [List.length_append, List.length_append, List.length_append, List.length_append, hb, l1, l2, l3, l4, hn]; exact big
  | 2 => show List.length (_ ++ _) ≤ _; rw [List.length_append, List.length_append, List.length_append, hb, l1, l3, l4, hn]; lia
  | 3 => show List.length (_ ++ _) ≤ _; rw [List.length_append, List.length_append, List.length_append, hb, l1, l3, l2, l4]; lia
  | 4 => show List.length (_ ++ _) ≤ _; rw [List.length_append, List.length_append, List.length_append, List.length_append, hb, l1, l2, l3, l4]; exact big
  | 5 => show List.length (_ ++ _) ≤ _; rw [List.length_append, List.length_append, List.length_append, List.length_reverse, hb, l1, l2, l3, l4]; lia
  | k + 6 => exact Nat.le_trans (Nat.le_of_eq l2) (by lia)
noncomputable abbrev lawS : List Str := [Str.ofString "made", Str.ofString "due", Str.ofString "first", Str.ofString "second", Str.ofString "blocks"]
local macro_rules | `(tactic| walk_at "eval ListComp") => `(tactic| refine halt ?_)
local macro_rules | `(tactic| walk_at "pyIter ref") => `(tactic| refine halt ?_)
local macro_rules | `(tactic| walk_at "exec For Tuple List cons nil") => `(tactic| (k_here; (rename Fr _ _ _ _ => lF'); k_dflt (refine' For_turns lF' ?_ (by (intro _; rfl)) (by assumption); k_whole)))
local macro_rules | `(tactic| walk_at "call ref") => `(tactic| (with_reducible refine haltC 267 ?_))
local macro_rules | `(tactic| walk_at "call ref") => `(tactic| (with_reducible refine haltC 260 ?_))
local macro_rules | `(tactic| walk_at "execs cons") => `(tactic| ((with_reducible show wpAny _ _ (execs [PySem.Stmt.Assign _ (PySem.Expr.Call (PySem.Expr.Attribute _ _ _) _ _ _) _, _] _) _ _ _); refine halt ?_))
theorem law_c {w : World} {dp un : Nat} {gd : Option (List Code)} {outer : List Env} {A₀ : Around} {base h₀ hp : Heap} {L fa wd : Addr} {cdv : Value} {gs : Array GenState} {dr : Drawn} {tk0 c : Nat} {os : OsState} {Q : Flow → Shared → Prop} {E : Value → Shared → Prop}
    {mean : ExcName → Option Value} {mg mb : Str → Option Value} {m₁ : Str → Option Value} {ob : Obj} {us : List Value} {word : List Int} {yv nw : Int} {ty tn : Tok} {led : List (Addr × Obj)}
    (B : Below A₀ base outer h₀) (F : Fr h₀ L hp m₁) (hy : m₁ (Str.ofString "y") = some (.int yv ty)) (hnw : m₁ (Str.ofString "new") = some (.int nw tn)) (N : News h₀ L hp led) (T : Top q2 (looseW q2 loose2) mean mg mb h₀)
    (hE : PassesOwn (model rw_mu0013_02.row.prog w) (lawA dp un gd L fa cdv outer) (lawE L fa cdv) E)
    (hw : (wd, listOf us.toArray c) ∈ led) (hob : (L + 1, ob) ∈ led) (hobd : ob.data = .cell (some (.ref wd))) (hi : IntsAre us word) (hnd : word.Nodup) (hlen : word.length ≤ 62) (hnew : ∀ x ∈ word, x < nw) (hd : dp + 300 < recursionLimit) (hu : un + 3000 < cLine)
    (ret : ∀ h' tk' m' news', Fr h₀ L h' m' → News h₀ L h' news' → (∀ p ∈ led, p ∈ news') → (∀ z, lawS.contains z = false → m' z = m₁ z) → Q .next ⟨h', gs, dr, tk', os⟩) :
    (K2 w.params).In h₀ → wpAny (model rw_mu0013_02.row.prog w) (lawA dp un gd L fa cdv outer) (execs lawB (lawE L fa cdv)) Q E ⟨hp, gs, dr, tk0, os⟩ := by
  w_on
  k_fill
  intro X
  have hb := Eq.refl lawB
  conv at hb => rhs; whnf
  rw [hb]
  clear hb
  have hvl := IntsAre.length hi
  have F0 : Fr h₀ L hp (fun z => if z = Str.ofString "y" then some (.int yv ty) else if z = Str.ofString "new" then some (.int nw tn) else m₁ z) := by
    have e1 : ∀ z, (if z = Str.ofString "new" then some (Value.int nw tn) else m₁ z) = m₁ z := fun z => congrFun (map_insert hnw) z
    have e2 : ∀ z, (if z = Str.ofString "y" then some (Value.int yv ty) else m₁ z) = m₁ z := fun z => congrFun (map_insert hy) z
    simp only [e1, e2]
    exact F
  clear F
  w_strict (
    (have mk := kstMark)
    k_steps
    (unfold Halt)
    (rename Fr _ _ _ _ => F1)
    (rename News _ _ _ _ => N1)
    (refine' mistake_tells ?b1 F1 N1 ?b2 ?b3 hw hi ?b4 ?b5 ?b6 ?c1 ?c2)
    (case b1 => k_asm)
    (case b2 => k_asm)
    (case b3 => exact rfl)
    (case b4 => lia)
    (case b5 => ktr_room)
    (case b6 => ktr_units)
    (case c2 => k_asm)
    (case c1 =>
      intro r9 ws9 n9 h9 tk9 nws9 e9 o9 u9 k9 F9 N9 hn9 hl9 he9 hI9
      clear F1 N1
      (have hml := mistake_len (k := k9) he9 hl9)
      (have hno : ∀ x ∈ nws9, x ∉ word := fun x hx hx2 => by have := hn9 x hx; have := hnew x hx2; lia)
      (have hlaw1 : ∀ t, Tot (Mt (mistake word nws9 e9 o9 u9 k9) word) 0 (mistake word nws9 e9 o9 u9 k9).length 0 word.length t → t = (rises (places word (mistake word nws9 e9 o9 u9 k9))).length := fun t ht => plain_law hnd hno he9 ht)
      (have hlaw2 : ∀ t, Tot (Mt word (mistake word nws9 e9 o9 u9 k9)) 0 word.length 0 (mistake word nws9 e9 o9 u9 k9).length t → t = (rises (places word (mistake word nws9 e9 o9 u9 k9))).length := fun t ht => plain_law' hnd hno he9 ht)
      (have hpl : (places word (mistake word nws9 e9 o9 u9 k9)).length ≤ 1000 := by
        have : (places word (mistake word nws9 e9 o9 u9 k9)).length ≤ (mistake word nws9 e9 o9 u9 k9).length := by unfold places; rw [List.length_map]; exact List.length_filter_le _ _
        lia)
      (generalize mistake word nws9 e9 o9 u9 k9 = made at hI9 hml hlaw1 hlaw2 hpl)
      k_steps
      (unfold Halt)
      (rename Fr _ _ _ _ => F2)
      (rename News _ _ _ _ => N2)
      (refine' due_comp F2 N2 ?e1 ?e2 hobd hi hlen ?e3 hI9 ?e4 ?e5 X)
      (case e1 => exact .tail _ (by assumption))
      (case e2 => exact .tail _ (by assumption))
      (case e3 => exact .head _)
      (case e4 => lia)
      (case e5 =>
        intro D3 vs3 h3 tk3 F3 N3 hI3
        clear F2 N2
        k_steps
        (unfold Halt)
        (rename Fr _ _ _ _ => F4)
        (rename News _ _ _ _ => N4)
        (refine' rise_tells ?g1 F4 N4 ?g2 ?g3 ?g4 hI3 ?g5 ?g6 ?g7 ?g8 ?g9)
        (case g1 => k_asm)
        (case g2 => k_asm)
        (case g3 => exact rfl)
        (case g4 => exact .head _)
        (case g5 => exact hpl)
        (case g6 => ktr_room)
        (case g7 => ktr_units)
        (case g9 => k_asm)
        (case g8 =>
          intro t4 h4 tk4 F5 N5
          clear F4 N4
          (generalize (rises (places word made)).length = due at hlaw1 hlaw2 F5 N5 ⊢)
          k_steps
          (unfold Halt)
          (dsimp only)
          (rename Fr _ _ _ _ => F6)
          (rename News _ _ _ _ => N6)
          (rename_i T1 h'5 l'5 T2 h'6 l'6 T0 h'7 l'7)
          (refine' kt_list (σ := Unit) (vs := [Value.ref T1, Value.ref T2]) (nn := 0) (fun _ => (T0, listOf [Value.ref T1, Value.ref T2].toArray 0) :: (T2, { cls := Value.type "tuple", data := Data.seq #[Value.ref wd, Value.ref r9] }) :: (T1, { cls := Value.type "tuple", data := Data.seq #[Value.ref r9, Value.ref wd] }) :: (D3, listOf vs3.toArray vs3.length) :: (r9, listOf ws9.toArray n9) :: led) (fun _ => []) [Str.ofString "first", Str.ofString "second", Str.ofString "blocks"]
            (fun _ _ => True) () ?hh ?hl ?kF ?kN ?hk ?hp ?turn ?done)
          (case hh => exact rfl)
          (case kF => exact F6)
          (case kN => exact N6)
          (case hl => exact fun _ => .head _)
          (case hk => exact List.forall_mem_nil _)
          (case hp => exact trivial)
          (case turn =>
            rintro ⟨⟩ i v u h tk I oI hv hP hoff F7 N7
            dsimp only at hoff F7 N7
            clear F6 N6
            match i, hv with
            | 0, hv =>
              cases hv
              k_steps
              (unfold Halt)
              (rename Fr _ _ _ _ => F8)
              (rename News _ _ _ _ => N8)
              (refine' law_d (va := ws9) (vb := us) (as := made) (bs := word) B F8 rfl N8 T hE ?la ?lb hI9 hi ?al ?bl ?mn ?dp ?un hlaw1 ?ret X)
              (case la => exact .tail _ (.tail _ (.tail _ (.tail _ (.tail _ (.head _))))))
              (case lb => exact .tail _ (.tail _ (.tail _ (.tail _ (.tail _ (.tail _ hw))))))
              (case al => lia)
              (case bl => lia)
              (case mn => lia)
              (case dp => lia)
              (case un => lia)
              (case ret =>
                intro h9 tk9 S9 F9 N9
                clear F8 N8
                refine' kt_end () F9 N9 ?x1 ?x2 ?x3 ?x4 ?x5 ?x6
                (case x1 => exact fun p hp => .tail _ hp)
                (case x2 => exact List.forall_mem_cons.mpr ⟨.head _, List.forall_mem_nil _⟩)
                (case x3 => exact fun p hp q hq => by rw [List.mem_singleton.mp hq]; exact hoff p hp)
                (case x4 => exact List.forall_mem_nil _)
                (case x5 =>
                  intro z h1 h2
                  (rw [if_neg (ne_of_in h2 (by decide)), if_neg (ne_of_in h2 (by decide)), if_neg (ne_of_in h2 (by decide))])
                  exact off_ps (ps := []) (List.forall_mem_nil _) h2)
                (case x6 => exact trivial))
            | 1, hv =>
              cases hv
              k_steps
              (unfold Halt)
              (rename Fr _ _ _ _ => F8)
              (rename News _ _ _ _ => N8)
              (refine' law_d (va := us) (vb := ws9) (as := word) (bs := made) B F8 rfl N8 T hE ?la ?lb hi hI9 ?al ?bl ?mn ?dp ?un hlaw2 ?ret X)
              (case la => exact .tail _ (.tail _ (.tail _ (.tail _ (.tail _ (.tail _ hw))))))
              (case lb => exact .tail _ (.tail _ (.tail _ (.tail _ (.tail _ (.head _))))))
              (case al => lia)
              (case bl => lia)
              (case mn => lia)
              (case dp => lia)
              (case un => lia)
              (case ret =>
                intro h9 tk9 S9 F9 N9
                clear F8 N8
                refine' kt_end () F9 N9 ?x1 ?x2 ?x3 ?x4 ?x5 ?x6
                (case x1 => exact fun p hp => .tail _ hp)
                (case x2 => exact List.forall_mem_cons.mpr ⟨.head _, List.forall_mem_nil _⟩)
                (case x3 => exact fun p hp q hq => by rw [List.mem_singleton.mp hq]; exact hoff p hp)
                (case x4 => exact List.forall_mem_nil _)
                (case x5 =>
                  intro z h1 h2
                  (rw [if_neg (ne_of_in h2 (by decide)), if_neg (ne_of_in h2 (by decide)), if_neg (ne_of_in h2 (by decide))])
                  exact off_ps (ps := []) (List.forall_mem_nil _) h2)
                (case x6 => exact trivial))
            | _ + 2, hv => cases hv)
          (case done =>
            rintro ⟨⟩ u h tk hP F7 N7
            dsimp only at F7 N7
            clear F6 N6
            k_steps
            (refine' ret _ _ _ _ F7 N7 ?y1 ?y2)
            (case y1 => exact fun p hp => .tail _ (.tail _ (.tail _ (.tail _ (.tail _ hp)))))
            (case y2 =>
              intro z hz
              rw [off_ps (ps := []) (List.forall_mem_nil _) (by
                rcases hc : ([Str.ofString "first", Str.ofString "second", Str.ofString "blocks"]).contains z with _ | _
                · rfl
                · exact absurd rfl (ne_of_in hz (List.mem_of_mem_drop (i := 2) (List.contains_iff_mem.mp hc))))]
              rw [if_neg (ne_of_in hz (by decide)), if_neg (ne_of_in hz (by decide))]
              by_cases q1 : z = Str.ofString "y"
              · rw [if_pos q1, q1, hy]
              · rw [if_neg q1]
                by_cases q2 : z = Str.ofString "new"
                · rw [if_pos q2, q2, hnw]
                · rw [if_neg q2]))))))
end
section
open PySem PySem.W PyProof.Rows PySem.Challenge
set_option Elab.async false
set_option maxRecDepth 100000
set_option maxHeartbeats 8000000
local macro_rules | `(tactic| walk_at "binaryOp FloorDiv int int") => `(tactic| (with_reducible refine fdivT (by lia) (by lia) ?_; intros))
local macro_rules | `(tactic| walk_at "pyIter ref") => `(tactic| refine halt ?_)
local macro_rules | `(tactic| walk_at "exec For Name BinOp cons nil") => `(tactic| (k_here; (rename Fr _ _ _ _ => lF'); k_dflt (refine' forV lF' (by assumption) (by exact rfl) (by exact rfl) ?_ (by (intro _; rfl)); k_whole)))
local macro_rules | `(tactic| walk_at "call builtin:len") => `(tactic| (k_here; k_dflt (refine' lenT (by k_asm) (by k_mem) (by assumption) (by lia) ?_); intros))
theorem law_b {w : World} {dp un : Nat} {gd : Option (List Code)} {outer : List Env} {A₀ : Around} {base h₀ hp : Heap} {L fa nd wd : Addr} {cdv : Value} {gs : Array GenState} {dr : Drawn} {tk0 c : Nat} {os : OsState} {Q : Flow → Shared → Prop} {E : Value → Shared → Prop}
    {mean : ExcName → Option Value} {mg mb : Str → Option Value} {m₀ u : Str → Option Value} {ob : Obj} {vs us : List Value} {ns word : List Int} {cut hd0 nw : Int} {tc th tn : Tok}
    (B : Below A₀ base outer h₀)
    (F : Fr h₀ L hp (fun y => if y = Str.ofString "new" then some (.int nw tn) else if y = Str.ofString "x" then u y else if y = Str.ofString "cut" then some (.int cut tc) else if y = Str.ofString "numbers" then some (.ref nd) else if y = Str.ofString "head" then some (.int hd0 th) else m₀ y))
    (N : News h₀ L hp [(wd, listOf (List.toArray us) c), (nd, listOf vs.toArray 0), (L + 1, ob)]) (T : Top q2 (looseW q2 loose2) mean mg mb h₀)
    (hE : PassesOwn (model rw_mu0013_02.row.prog w) (lawA dp un gd L fa cdv outer) (lawE L fa cdv) E)
    (hobd : ob.data = .cell (some (.ref wd))) (hiw : IntsAre us word) (hnd : word.Nodup) (hlw : word.length ≤ 62) (hnew : ∀ x ∈ word, x < nw)
    (hi : IntsAre vs ns) (hlen : ns.length ≤ 62) (hc0 : 0 ≤ cut) (hc1 : cut ≤ ns.length) (hd : dp + 300 < recursionLimit) (hu : un + 3000 < cLine)
    (ret : ∀ h' tk' m', Fr h₀ L h' m' → Q (.ret (.bool true)) ⟨h', gs, dr, tk', os⟩) :
    (K2 w.params).In h₀ → wpAny (model rw_mu0013_02.row.prog w) (lawA dp un gd L fa cdv outer) (execs ((bodyOf (top 11)).drop 6) (lawE L fa cdv)) Q E ⟨hp, gs, dr, tk0, os⟩ := by
  w_on
  k_fill
  intro X
  have hb := Eq.refl ((bodyOf (top 11)).drop 6)
  conv at hb => rhs; whnf
  rw [hb]
  clear hb
  have hvl := IntsAre.length hi
  w_strict (
    (have mk := kstMark)
    k_steps
    (unfold Halt)
    (dsimp only)
    (rename Fr _ _ _ _ => F1)
    (rename News _ _ _ _ => N1)
    (rename IntsAre _ (_ ++ _) => hI1)
    (rename_i l5 h5 l6 D5 ws5 h6 hI5 hC5 hL5 l7 D1 ws1 h1 l8)
    (generalize [hd0.fdiv (↑ns.length + 1)] ++ List.drop cut.toNat ns = ys at hI1)
    (refine' kg_list (σ := Unit) (vs := ws1) (nn := 0) (fun _ => (D1, listOf ws1.toArray 0) :: (D5, listOf ws5.toArray 0) :: (l5, listOf _ 0) :: (wd, listOf us.toArray c) :: (nd, listOf vs.toArray 0) :: (L + 1, ob) :: []) (fun _ => []) lawS (fun _ _ => True) () ?hh ?hl ?kF ?kN ?hk ?hp ?turn ?done)
    (case hh => exact rfl)
    (case kF => exact F1)
    (case kN => exact N1)
    (case hl => exact fun _ => .head _)
    (case hk => exact List.forall_mem_nil _)
    (case hp => exact trivial)
    (case turn =>
      rintro ⟨⟩ i v u h tk I oI hv hP hoff F2 N2
      dsimp only at hoff F2 N2
      clear F1 N1
      (have hlt : i < ys.length := by
        have := (List.getElem?_eq_some_iff.mp hv).1
        rw [hI1.length] at this
        exact this)
      (obtain ⟨t, ht⟩ := hI1.get i ys[i] (by simp [hlt]))
      (have hve : v = .int ys[i] t := by
        rw [ht] at hv
        exact (Option.some.inj hv).symm)
      subst hve
      (refine' law_c (us := us) (word := word) B F2 rfl rfl N2 T hE ?c1 ?c2 hobd hiw hnd hlw hnew hd hu ?c3 X)
      (case c1 => exact .tail _ (.tail _ (.tail _ (.tail _ (.head _)))))
      (case c2 => exact .tail _ (.tail _ (.tail _ (.tail _ (.tail _ (.tail _ (.head _)))))))
      (case c3 =>
        intro h3 tk3 m3 news3 F3 N3 hsub hm3
        refine' kg_end () F3 N3 ?x1 ?x2 ?x3 ?x4 ?x5 ?x6
        (case x1 => exact fun p hp => hsub p (.tail _ hp))
        (case x2 => exact hsub _ (.head _))
        (case x3 => exact hoff)
        (case x4 => exact List.forall_mem_nil _)
        (case x5 => exact fun z h1 h2 h3 => by rw [hm3 z h3, if_neg h1]; exact off_ps (ps := []) (List.forall_mem_nil _) h3)
        (case x6 => exact trivial)))
    (case done =>
      rintro ⟨⟩ u h tk hP F2 N2
      dsimp only at F2 N2
      clear F1 N1
      k_steps
      exact ret _ _ _ F2))
end
section
open PySem PySem.W PyProof.Rows PySem.Challenge
set_option Elab.async false
set_option maxRecDepth 100000
set_option maxHeartbeats 8000000
local macro_rules | `(tactic| walk_at "execs cons") => `(tactic| ((with_reducible show wpAny _ _ (execs [_, _, _, _, _] _) _ _ _); refine halt ?_))
noncomputable def VPost (h : Heap) (gs : Array GenState) (dr : Drawn) (os : OsState) (n : Int) (v : Value) (s' : Shared) : Prop := ∃ t tk', v = .int n t ∧ s' = (⟨h, gs, dr, tk', os⟩ : Shared)
/-- a value of either way, walked on once -/
theorem join_if {M : Model} {A : Around} {e : PySem.Expr} {env : Env} {Q E : Value → Shared → Prop} {h : Heap} {gs : Array GenState} {dr : Drawn} {tk : Nat} {os : OsState} (n : Int)
    (h0 : wpAny M A (eval e env) (VPost h gs dr os n) E ⟨h, gs, dr, tk, os⟩) (h1 : ∀ t tk', Q (.int n t) ⟨h, gs, dr, tk', os⟩) : wpAny M A (eval e env) Q E ⟨h, gs, dr, tk, os⟩ :=
  wpAny_mono h0 (fun v s' q => by
    obtain ⟨t, tk', rfl, rfl⟩ := q
    exact h1 t tk') fun _ _ e => e
local macro_rules | `(tactic| walk_at "eval IfExp") => `(tactic| ((rename JMark => jm9); clear jm9; refine halt ?_))
theorem law_pro {w : World} {dp un : Nat} {gd : Option (List Code)} {outer : List Env} {A₀ : Around} {base h₀ hp : Heap} {L fa l : Addr} {cdv : Value} {gs : Array GenState} {dr : Drawn} {tk0 : Nat} {os : OsState} {Q : Flow → Shared → Prop} {E : Value → Shared → Prop}
    {mean : ExcName → Option Value} {mg mb : Str → Option Value} {m₀ : Str → Option Value} {oc : Obj} {vs : List Value} {ns : List Int}
    (B : Below A₀ base outer h₀) (F : Fr h₀ L hp (fun y => if y = Str.ofString "script" then some (.ref l) else m₀ y)) (N : News h₀ L hp [(L + 1, oc)]) (T : Top q2 (looseW q2 loose2) mean mg mb h₀)
    (hE : PassesOwn (model rw_mu0013_02.row.prog w) (lawA dp un gd L fa cdv outer) (lawE L fa cdv) E)
    (hoc : oc.data = .cell none) (hl : h₀.IsList l vs.toArray) (hi : IntsAre vs ns) (hlen : ns.length ≤ 63) (hd : dp + 300 < recursionLimit) (hu : un + 3000 < cLine)
    (ret : ∀ h' tk' m', Fr h₀ L h' m' → Q (.ret (.bool true)) ⟨h', gs, dr, tk', os⟩) :
    (K2 w.params).In h₀ → wpAny (model rw_mu0013_02.row.prog w) (lawA dp un gd L fa cdv outer) (execs (bodyOf (top 11)) (lawE L fa cdv)) Q E ⟨hp, gs, dr, tk0, os⟩ := by
  w_on
  k_fill
  intro X
  have hb := Eq.refl (bodyOf (top 11))
  conv at hb => rhs; whnf
  rw [hb]
  clear hb
  have hvl := IntsAre.length hi
  w_strict (
    (have mk := kstMark)
    (have jm := jMark)
    k_steps
    (unfold Halt)
    (refine' join_if (ns.getD 0 0) ?za (fun t8 tk8 => ?zb))
    (case za =>
      k_steps
      · exact ⟨_, _, rfl, rfl⟩
      · (have hz : ns = [] := List.length_eq_zero_iff.mp (Nat.eq_zero_of_not_pos (by assumption)))
        subst hz
        exact ⟨_, _, rfl, rfl⟩)
    (case zb =>
      (generalize ns.getD 0 0 = hd9)
      k_steps
      all_goals (unfold Halt; rename Fr _ _ _ _ => F1; rename News _ _ _ _ => N1; dsimp only)
      all_goals (
        (dsimp only at F1 N1)
        (rename (L + 1 < _) => hlt9)
        (rename IntsAre _ (List.take _ _) => hI9)
        (have hnl : (List.take (min 63 ns.length - 1) (List.drop 1 ns)).length ≤ 62 := by rw [List.length_take]; lia)
        (generalize List.take (min 63 ns.length - 1) (List.drop 1 ns) = nums at hI9 hnl F1)
        (refine' law_a B F1 N1 T hE hlt9 hoc hI9 hnl (Int.fmod_nonneg_of_pos _ (by lia)) (Int.le_of_lt_add_one (Int.fmod_lt_of_pos _ (by lia))) ?d1 ?d2 ?d3 X)
        (case d1 => lia)
        (case d2 => lia)
        (case d3 =>
          intro h5 tk5 wd us c word ob nw tn u F5 N5 hob hiw hnd hlw hnew hw1 hw2
          exact law_b B F5 N5 T hE hob hiw hnd hlw hnew hI9 hnl (Int.fmod_nonneg_of_pos _ (by lia)) (Int.le_of_lt_add_one (Int.fmod_lt_of_pos _ (by lia))) hd hu ret X))))
end
section
open PySem PySem.W PyProof.Rows PySem.Challenge
set_option Elab.async false
set_option maxRecDepth 100000
set_option maxHeartbeats 8000000
theorem fr_set {h₀ h : Heap} {L : Addr} {m : Str → Option Value} {x : Str} {v : Value} (F : Fr h₀ L h m) (e : m x = some v) : Fr h₀ L h (fun z => if z = x then some v else m z) := by rw [map_insert e]; exact F
theorem walk2 : WalkO q2 loose2 (XL q2 []) (InK K2) rw_mu0013_02.row.toRowW d2 [] fun f vs => call f vs := by
  w_on
  have hd2 : d2 = ⟨Str.ofString "law", argsOf (top 11), bodyOf (top 11), scopeOf (top 11), ⟨469, 0, 485, 15⟩⟩ := rfl
  have ha := Eq.refl (argsOf (top 11))
  conv at ha => rhs; whnf
  rw [ha] at hd2
  rw [hd2]
  clear hd2 ha
  k_fill
  intro w s₀ s₁ mg mb G Y fa o pm cd doc dV kV ho hd hcd hD hmg hg args vals as hpre hlay hrd hwl hlo
  have KX : (K2 w.params).In s₁.heap := Y
  w_strict (
  k_behind G ho hd hcd hD hmg hpre hlay hrd hwl hlo cd
  (all_goals try k_fold)
  (rename Below callerA _ _ _ => K0)
  (rename Fr _ _ _ _ => F0)
  (rename News _ _ _ _ => N0)
  (rename Top _ _ _ _ _ _ => T0)
  (rename Heap.IsList _ _ _ => L0)
  (rename IntsAre _ _ => I0)
  (refine' law_pro (ns := _) K0 ?z1 N0 T0 ?z2 ?z3 L0 I0 ?z4 ?z5 ?z6 ?z7 KX)
  (case z1 => exact fr_set F0 rfl)
  (case z2 => exact PassesOwn.leaving)
  (case z3 => assumption)
  (case z4 => (simp only [Int.ofNat_lt] at *; lia))
  (case z5 => decide)
  (case z6 => decide)
  (case z7 =>
    intro h5 tk5 m5 F5
    (dsimp only [qk])
    wrow_close))
end
end Mine
end
theorem PySem.Challenge.cw_mu0013_02_holds : PySem.Challenge.rw_mu0013_02.Holds :=
  Mine.head2 Mine.walk2
