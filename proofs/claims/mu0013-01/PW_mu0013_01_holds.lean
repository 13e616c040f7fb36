import PyProof.Rows.All
import Wide.All
import OpenK.AllK
import Wide.FinOn
import Lean
import PySem.Challenge.RW_mu0013_01
set_option compiler.extract_closed false
set_option Elab.async false
set_option maxRecDepth 100000
set_option maxHeartbeats 8000000
section
open PySem PySem.W PyProof.Rows PySem.Challenge PySem.Spec
namespace Mine.Internal
namespace Tab
abbrev Sx:=Lean.Syntax
def nd (k:String) (l:List Sx):Sx:=.node .none k.toName l.toArray
def kw (s:String):Sx:=.atom .none s
def nm (s:String):Sx:=Lean.mkIdent s.toName
def nl (l:List Sx):Sx:=nd "null" l
def tc (k s:String) (l:List Sx):Sx:=nd ("Lean.Parser.Tactic." ++ k) (kw s :: l)
def sq (l:List Sx):Sx:=nd "Lean.Parser.Tactic.tacticSeq" [nd "Lean.Parser.Tactic.tacticSeq1Indented" [nl (l.foldr (fun t r=>t :: kw ";" :: r) [])]]
def pr (l:List Sx):Sx:=tc "paren" "(" [sq l, kw ")"]
def oc:Sx:=nd "Lean.Parser.Tactic.optConfig" [nl []]
def kt (s:String):Sx:=nd ("PySem.W.tactic" ++ s.capitalize) [kw s]
def ho:Sx:=nd "Lean.Parser.Term.hole" [kw "_"]
def sh:Sx:=nd "Lean.Parser.Term.syntheticHole" [kw "?", kw "_"]
def ap (s:String) (l:List Sx):Sx:=nd "Lean.Parser.Term.app" [nm s, nl l]
def bt (t:Sx):Sx:=nd "Lean.Parser.Term.byTactic" [kw "by", sq [t]]
def ex (t:Sx):Sx:=tc "exact" "exact" [t]
def fi (l:List Sx):Sx:=tc "first" "first" [nl (l.map fun t=>nd "group" [kw "|", sq [t]])]
def lia':Sx:=tc "lia" "lia" [oc]
def asm:Sx:=tc "assumption" "assumption" []
def rf:Sx:=tc "tacticRfl" "rfl" []
def dec:Sx:=tc "decide" "decide" [oc]
def rwS (l:List String):Sx:=pr [tc "rwSeq" "rw" [oc, nd "Lean.Parser.Tactic.rwRuleSeq" [kw "[", nl ((l.map fun s=>[nd "Lean.Parser.Tactic.rwRule" [nl [], nm s]]).intersperse [kw ","]).flatten, kw "]"], nl []], lia']
def red (l:List Sx):Sx:=tc "withReducible" "with_reducible" [sq l]
def ins:Sx:=tc "intros" "intros" [nl []]
def tr (t:Sx):Sx:=tc "tacticTry_" "try" [sq [t]]
def ds (l:List Sx):Sx:=tr (tc "dsimp" "dsimp" [oc, nl [], nl [kw "only"], nl l, nl []])
def args:List (Char × Sx):=[('?', sh), ('_', ho), ('R', nm "rfl"), ('F', nm "lF'"), ('B', nd "Lean.Parser.Term.namedArgument" [kw "(", nm "b", kw ":=", nm "true", kw ")"]), ('k', nd "Lean.Parser.Term.namedArgument" [kw "(", nm "knd", kw ":=", ap "intKind" [nm "rw_mu0013_01.row.prog", ho], kw ")"])]
  ++ [('a', kt "k_asm"), ('m', kt "k_mem"), ('s', asm), ('l', lia'), ('r', rf), ('x', ex (nm "rfl")), ('d', dec), ('I', kt "k_is"), ('N', kt "k_inst"), ('S', kt "k_slotset"), ('g', kt "k_get"), ('p', kt "k_put"), ('u', kt "ktr_units"), ('i', ex (ap "intKind_is" [ho, ho, ho, ho])), ('b', ex (ap "Nat.le_of_ble_eq_true" [nm "rfl"])), ('z', rwS ["List.size_toArray"]), ('y', rwS ["sizeLine_eq"]), ('o', fi [asm, nd "tacticPasses_own" [kw "passes_own"]]), ('D', fi [dec, lia']), ('f', pr [tc "intro" "intro" [nl [ho]], rf]), ('U', tc "withUnfoldingAll" "with_unfolding_all" [sq [rf]]), ('c', fi [asm, ex (ap "Cnd.use" [bt asm, bt asm])]), ('C', ex (ap "CndF.use" [bt asm, bt asm])), ('A', ex (ap "News.isList" [bt asm, bt asm])), ('L', ex (ap "News.isList" [bt (kt "k_asm"), bt (kt "k_mem")])), ('t', fi [asm, ex (ap "IntsAre.cons" [ho, ho, nm "IntsAre.nil"])]), ('n', ex (ap "kf_intsOf" [bt asm])), ('q', ex (ap "any_isInt" [bt asm, bt asm])), ('e', ex (nm "msg_eq")), ('v', ex (ap "List.toList_toArray" [nd "Lean.Parser.Term.ellipsis" [kw ".."]])), ('h', rwS ["Array.length_toList", "List.size_toArray", "sizeLine_eq"]), ('M', pr [tc "simp" "simp" [oc, nl [], nl [], nl [], nl []], lia'])].map fun p=>(p.1, bt p.2)
def tls:List (Char × Sx):=[('w', kt "k_whole"), ('i', ins), ('d', ds []), ('g', ds [kw "[", nl [nd "Lean.Parser.Tactic.simpLemma" [nl [], nl [], nm "Option.getD"]], kw "]"]), ('s', tr (kt "k_sweep"))]
def by1 (l:List (Char × Sx)) (s:String):List Sx:=s.toList.filterMap (List.lookup · l)
def see (t:Sx):Sx:=red [tc "show" "show" [ap "wpAny" [ho, ho, t, ho, ho, ho]]]
def hd (s:String):List Sx :=
  let w:=(s.splitOn ":").toArray
  if s = "for" then [tc "rename" "rename" [ap "Fr" [ho, ho, ho, ho], kw "=>", nm "lF'"]] else
  if w.size = 2 then [see (ap (w.getD 0 "") [ap "Value.ref" [ho], ap "Str.ofString" [Lean.Syntax.mkStrLit (w.getD 1 "")], ho])] else []
def rf' (t:Sx):Sx:=tc "refine'" "refine'" [t]
def hal:Sx:=tc "refine" "refine" [ap "halt" [sh]]
def exs (n:String):Sx:=see (ap "execs" [.node .none (.mkSimple "term[_]") #[kw "[", nl ((List.replicate n.toNat! [ho]).intersperse [kw ","]).flatten, kw "]"], ho])
def mark (m:String):List Sx:=[tc "rename" "rename" [nm m, kw "=>", nm "jm9"], tc "clear" "clear" [nl [nm "jm9"]], hal]
def rule (w:Array String):Sx :=
  let t (i:Nat):=w.getD i ""
  let x:=ap (t 2) (by1 args (t 3))
  if t 1 = "halt" then hal else
  if t 1 = "dhalt" then pr [ds [], hal] else
  if t 1 = "haltC" then red [tc "refine" "refine" [ap "haltC" [Lean.Syntax.mkNumLit (t 2), sh]]] else
  if t 1 = "mark" then pr (mark (t 2)) else
  if t 1 = "markA" then pr (see (ap "isTrue" [ap "PySem.Expr.BoolOp" [nm "BoolOp.And", ho, ho], ho, ho]) :: mark (t 2)) else
  if t 1 = "execs" then pr [exs (t 2), hal] else
  if t 1 = "execm" then pr (exs (t 2) :: mark (t 3)) else
  if t 1 = "red" then red [tc "refine" "refine" [x], ins] else
  if t 1 = "ref" then tc "refine" "refine" [x] else
  if t 1 = "and" then pr [ds [], red [tc "refine" "refine" [ap "And.intro" [if t 3 = "" then nm (t 2) else x, sh]]]] else
  let d:=nd "PySem.W.tacticK_dflt_" [kw "k_dflt", pr (rf' x :: (if (t 4).startsWith "W" then [kt "k_whole"] else []))]
  if t 1 = "each" then pr [kt "k_here", .node .none (.str (.str (.str (.str .anonymous "Lean") "Parser") "Tactic") "tactic_<;>_") #[d, kw "<;>", ins]] else
  pr (kt "k_here" :: hd (t 1) ++ [d] ++ by1 tls (t 4))
def rules (s:Lean.TSyntax `str) (t:String):Lean.MacroM Lean.Syntax :=
  let l:=(t.splitOn "\n").filter (·.startsWith (s.getString ++ "|"))
  if l = [] then Lean.Macro.throwUnsupported else pure (fi (l.map fun r=>rule (r.splitOn "|").toArray))
def km:Sx:=kt "k_mem"
def nh (n:Lean.Name):Sx:=nd "Lean.Parser.Term.syntheticHole" [kw "?", Lean.mkIdent n]
def cs (n:Lean.Name) (t:Sx):Sx:=tc "case" "case" [nl [nd "Lean.Parser.Tactic.caseArg" [nd "Lean.binderIdent" [Lean.mkIdent n], nl []]], kw "=>", sq [t]]
def sc (f:Lean.Name→Lean.Name→Sx):Lean.MacroM Lean.Syntax:=do return f (← Lean.MonadQuotation.addMacroScope `a) (← Lean.MonadQuotation.addMacroScope `b)
def cons1 (a:Lean.Name) (f:String) (l:List Sx):Sx:=pr (rf' (ap f (l ++ [nh a])) :: [cs a km])
def upne (a b:Lean.Name):Sx:=pr [rf' (ap "mem_upL_ne" [nh a, nh b]), cs a km, cs b asm]
def mem (a:Lean.Name) (l:List Sx):Sx:=fi ([asm, ex (nm "List.mem_cons_self")] ++ l ++ [cons1 a "List.mem_cons_of_mem" [ho]])
def memA:Lean.MacroM Lean.Syntax:=sc fun a _=>mem a []
def memB:Lean.MacroM Lean.Syntax:=sc fun a b=>mem a [cons1 a "mem_upL_self" [], upne a b]
def memC:Lean.MacroM Lean.Syntax:=sc fun a b=>mem a [ex (ap "mem_upL_self" [bt asm]), upne a b]
def allA:Lean.MacroM Lean.Syntax:=sc fun a b=>fi [ex (ap "List.forall_mem_nil" [ho]), asm, ex (ap "all_ne" [bt asm, bt lia']), pr [rf' (ap "List.forall_mem_cons.mpr" [ap "And.intro" [nh a, nh b]]), cs a (fi [kt "k_ne", ex (ap "Nat.ne_of_lt" [bt lia']), ex (ap "Nat.ne_of_gt" [bt lia'])]), cs b (kt "k_all")]]
end Tab
end Mine.Internal
end
local macro_rules | `(tactic| k_room)=>`(tactic| ktr_room)
local macro_rules | `(tactic| k_mem)=>Mine.Internal.Tab.memB
local macro_rules | `(tactic| k_all)=>Mine.Internal.Tab.allA
section
namespace Mine.Internal
theorem eE1 {α1:Sort _} {P:α1→Prop} {G:Prop}:(∀ x1, P x1→G)→(∃ x1, P x1)→G:=fun k h=>h.elim fun x1 h=>k x1 h
theorem eE2 {α1:Sort _} {α2:Sort _} {P:α1→α2→Prop} {G:Prop}:(∀ x1 x2, P x1 x2→G)→(∃ x1 x2, P x1 x2)→G:=fun k h=>h.elim fun x1 h=>h.elim fun x2 h=>k x1 x2 h
theorem eE3 {α1:Sort _} {α2:Sort _} {α3:Sort _} {P:α1→α2→α3→Prop} {G:Prop}:(∀ x1 x2 x3, P x1 x2 x3→G)→(∃ x1 x2 x3, P x1 x2 x3)→G:=fun k h=>h.elim fun x1 h=>h.elim fun x2 h=>h.elim fun x3 h=>k x1 x2 x3 h
theorem eE5 {α1:Sort _} {α2:Sort _} {α3:Sort _} {α4:Sort _} {α5:Sort _} {P:α1→α2→α3→α4→α5→Prop} {G:Prop}:(∀ x1 x2 x3 x4 x5, P x1 x2 x3 x4 x5→G)→(∃ x1 x2 x3 x4 x5, P x1 x2 x3 x4 x5)→G:=fun k h=>h.elim fun x1 h=>h.elim fun x2 h=>h.elim fun x3 h=>h.elim fun x4 h=>h.elim fun x5 h=>k x1 x2 x3 x4 x5 h
theorem eE6 {α1:Sort _} {α2:Sort _} {α3:Sort _} {α4:Sort _} {α5:Sort _} {α6:Sort _} {P:α1→α2→α3→α4→α5→α6→Prop} {G:Prop}:(∀ x1 x2 x3 x4 x5 x6, P x1 x2 x3 x4 x5 x6→G)→(∃ x1 x2 x3 x4 x5 x6, P x1 x2 x3 x4 x5 x6)→G:=fun k h=>h.elim fun x1 h=>h.elim fun x2 h=>h.elim fun x3 h=>h.elim fun x4 h=>h.elim fun x5 h=>h.elim fun x6 h=>k x1 x2 x3 x4 x5 x6 h
theorem eE7 {α1:Sort _} {α2:Sort _} {α3:Sort _} {α4:Sort _} {α5:Sort _} {α6:Sort _} {α7:Sort _} {P:α1→α2→α3→α4→α5→α6→α7→Prop} {G:Prop}:(∀ x1 x2 x3 x4 x5 x6 x7, P x1 x2 x3 x4 x5 x6 x7→G)→(∃ x1 x2 x3 x4 x5 x6 x7, P x1 x2 x3 x4 x5 x6 x7)→G:=fun k h=>h.elim fun x1 h=>h.elim fun x2 h=>h.elim fun x3 h=>h.elim fun x4 h=>h.elim fun x5 h=>h.elim fun x6 h=>h.elim fun x7 h=>k x1 x2 x3 x4 x5 x6 x7 h
theorem eE8 {α1:Sort _} {α2:Sort _} {α3:Sort _} {α4:Sort _} {α5:Sort _} {α6:Sort _} {α7:Sort _} {α8:Sort _} {P:α1→α2→α3→α4→α5→α6→α7→α8→Prop} {G:Prop}:(∀ x1 x2 x3 x4 x5 x6 x7 x8, P x1 x2 x3 x4 x5 x6 x7 x8→G)→(∃ x1 x2 x3 x4 x5 x6 x7 x8, P x1 x2 x3 x4 x5 x6 x7 x8)→G:=fun k h=>h.elim fun x1 h=>h.elim fun x2 h=>h.elim fun x3 h=>h.elim fun x4 h=>h.elim fun x5 h=>h.elim fun x6 h=>h.elim fun x7 h=>h.elim fun x8 h=>k x1 x2 x3 x4 x5 x6 x7 x8 h
theorem eE9 {α1:Sort _} {α2:Sort _} {α3:Sort _} {α4:Sort _} {α5:Sort _} {α6:Sort _} {α7:Sort _} {α8:Sort _} {α9:Sort _} {P:α1→α2→α3→α4→α5→α6→α7→α8→α9→Prop} {G:Prop}:(∀ x1 x2 x3 x4 x5 x6 x7 x8 x9, P x1 x2 x3 x4 x5 x6 x7 x8 x9→G)→(∃ x1 x2 x3 x4 x5 x6 x7 x8 x9, P x1 x2 x3 x4 x5 x6 x7 x8 x9)→G:=fun k h=>h.elim fun x1 h=>h.elim fun x2 h=>h.elim fun x3 h=>h.elim fun x4 h=>h.elim fun x5 h=>h.elim fun x6 h=>h.elim fun x7 h=>h.elim fun x8 h=>h.elim fun x9 h=>k x1 x2 x3 x4 x5 x6 x7 x8 x9 h
theorem eE11 {α1:Sort _} {α2:Sort _} {α3:Sort _} {α4:Sort _} {α5:Sort _} {α6:Sort _} {α7:Sort _} {α8:Sort _} {α9:Sort _} {α10:Sort _} {α11:Sort _} {P:α1→α2→α3→α4→α5→α6→α7→α8→α9→α10→α11→Prop} {G:Prop}:(∀ x1 x2 x3 x4 x5 x6 x7 x8 x9 x10 x11, P x1 x2 x3 x4 x5 x6 x7 x8 x9 x10 x11→G)→(∃ x1 x2 x3 x4 x5 x6 x7 x8 x9 x10 x11, P x1 x2 x3 x4 x5 x6 x7 x8 x9 x10 x11)→G:=fun k h=>h.elim fun x1 h=>h.elim fun x2 h=>h.elim fun x3 h=>h.elim fun x4 h=>h.elim fun x5 h=>h.elim fun x6 h=>h.elim fun x7 h=>h.elim fun x8 h=>h.elim fun x9 h=>h.elim fun x10 h=>h.elim fun x11 h=>k x1 x2 x3 x4 x5 x6 x7 x8 x9 x10 x11 h
theorem eA2 {A1 A2 G:Prop} (k:A1→A2→G) (h:A1 ∧ A2):G:=k h.1 h.2
theorem eA3 {A1 A2 A3 G:Prop} (k:A1→A2→A3→G) (h:A1 ∧ A2 ∧ A3):G:=k h.1 h.2.1 h.2.2
theorem eA4 {A1 A2 A3 A4 G:Prop} (k:A1→A2→A3→A4→G) (h:A1 ∧ A2 ∧ A3 ∧ A4):G:=k h.1 h.2.1 h.2.2.1 h.2.2.2
theorem eA5 {A1 A2 A3 A4 A5 G:Prop} (k:A1→A2→A3→A4→A5→G) (h:A1 ∧ A2 ∧ A3 ∧ A4 ∧ A5):G:=k h.1 h.2.1 h.2.2.1 h.2.2.2.1 h.2.2.2.2
theorem eA6 {A1 A2 A3 A4 A5 A6 G:Prop} (k:A1→A2→A3→A4→A5→A6→G) (h:A1 ∧ A2 ∧ A3 ∧ A4 ∧ A5 ∧ A6):G:=k h.1 h.2.1 h.2.2.1 h.2.2.2.1 h.2.2.2.2.1 h.2.2.2.2.2
theorem eA7 {A1 A2 A3 A4 A5 A6 A7 G:Prop} (k:A1→A2→A3→A4→A5→A6→A7→G) (h:A1 ∧ A2 ∧ A3 ∧ A4 ∧ A5 ∧ A6 ∧ A7):G:=k h.1 h.2.1 h.2.2.1 h.2.2.2.1 h.2.2.2.2.1 h.2.2.2.2.2.1 h.2.2.2.2.2.2
theorem eA9 {A1 A2 A3 A4 A5 A6 A7 A8 A9 G:Prop} (k:A1→A2→A3→A4→A5→A6→A7→A8→A9→G) (h:A1 ∧ A2 ∧ A3 ∧ A4 ∧ A5 ∧ A6 ∧ A7 ∧ A8 ∧ A9):G:=k h.1 h.2.1 h.2.2.1 h.2.2.2.1 h.2.2.2.2.1 h.2.2.2.2.2.1 h.2.2.2.2.2.2.1 h.2.2.2.2.2.2.2.1 h.2.2.2.2.2.2.2.2
theorem eA11 {A1 A2 A3 A4 A5 A6 A7 A8 A9 A10 A11 G:Prop} (k:A1→A2→A3→A4→A5→A6→A7→A8→A9→A10→A11→G) (h:A1 ∧ A2 ∧ A3 ∧ A4 ∧ A5 ∧ A6 ∧ A7 ∧ A8 ∧ A9 ∧ A10 ∧ A11):G:=k h.1 h.2.1 h.2.2.1 h.2.2.2.1 h.2.2.2.2.1 h.2.2.2.2.2.1 h.2.2.2.2.2.2.1 h.2.2.2.2.2.2.2.1 h.2.2.2.2.2.2.2.2.1 h.2.2.2.2.2.2.2.2.2.1 h.2.2.2.2.2.2.2.2.2.2
theorem eA12 {A1 A2 A3 A4 A5 A6 A7 A8 A9 A10 A11 A12 G:Prop} (k:A1→A2→A3→A4→A5→A6→A7→A8→A9→A10→A11→A12→G) (h:A1 ∧ A2 ∧ A3 ∧ A4 ∧ A5 ∧ A6 ∧ A7 ∧ A8 ∧ A9 ∧ A10 ∧ A11 ∧ A12):G:=k h.1 h.2.1 h.2.2.1 h.2.2.2.1 h.2.2.2.2.1 h.2.2.2.2.2.1 h.2.2.2.2.2.2.1 h.2.2.2.2.2.2.2.1 h.2.2.2.2.2.2.2.2.1 h.2.2.2.2.2.2.2.2.2.1 h.2.2.2.2.2.2.2.2.2.2.1 h.2.2.2.2.2.2.2.2.2.2.2
theorem iE2 {α1:Sort _} {α2:Sort _} {P:α1→α2→Prop} (x1:α1) (x2:α2) (h:P x1 x2):∃ x1 x2, P x1 x2:=⟨x1, x2, h⟩
theorem iE3 {α1:Sort _} {α2:Sort _} {α3:Sort _} {P:α1→α2→α3→Prop} (x1:α1) (x2:α2) (x3:α3) (h:P x1 x2 x3):∃ x1 x2 x3, P x1 x2 x3:=⟨x1, x2, x3, h⟩
theorem iE4 {α1:Sort _} {α2:Sort _} {α3:Sort _} {α4:Sort _} {P:α1→α2→α3→α4→Prop} (x1:α1) (x2:α2) (x3:α3) (x4:α4) (h:P x1 x2 x3 x4):∃ x1 x2 x3 x4, P x1 x2 x3 x4:=⟨x1, x2, x3, x4, h⟩
theorem iE5 {α1:Sort _} {α2:Sort _} {α3:Sort _} {α4:Sort _} {α5:Sort _} {P:α1→α2→α3→α4→α5→Prop} (x1:α1) (x2:α2) (x3:α3) (x4:α4) (x5:α5) (h:P x1 x2 x3 x4 x5):∃ x1 x2 x3 x4 x5, P x1 x2 x3 x4 x5:=⟨x1, x2, x3, x4, x5, h⟩
theorem iE6 {α1:Sort _} {α2:Sort _} {α3:Sort _} {α4:Sort _} {α5:Sort _} {α6:Sort _} {P:α1→α2→α3→α4→α5→α6→Prop} (x1:α1) (x2:α2) (x3:α3) (x4:α4) (x5:α5) (x6:α6) (h:P x1 x2 x3 x4 x5 x6):∃ x1 x2 x3 x4 x5 x6, P x1 x2 x3 x4 x5 x6:=⟨x1, x2, x3, x4, x5, x6, h⟩
theorem iE7 {α1:Sort _} {α2:Sort _} {α3:Sort _} {α4:Sort _} {α5:Sort _} {α6:Sort _} {α7:Sort _} {P:α1→α2→α3→α4→α5→α6→α7→Prop} (x1:α1) (x2:α2) (x3:α3) (x4:α4) (x5:α5) (x6:α6) (x7:α7) (h:P x1 x2 x3 x4 x5 x6 x7):∃ x1 x2 x3 x4 x5 x6 x7, P x1 x2 x3 x4 x5 x6 x7:=⟨x1, x2, x3, x4, x5, x6, x7, h⟩
theorem iE8 {α1:Sort _} {α2:Sort _} {α3:Sort _} {α4:Sort _} {α5:Sort _} {α6:Sort _} {α7:Sort _} {α8:Sort _} {P:α1→α2→α3→α4→α5→α6→α7→α8→Prop} (x1:α1) (x2:α2) (x3:α3) (x4:α4) (x5:α5) (x6:α6) (x7:α7) (x8:α8) (h:P x1 x2 x3 x4 x5 x6 x7 x8):∃ x1 x2 x3 x4 x5 x6 x7 x8, P x1 x2 x3 x4 x5 x6 x7 x8:=⟨x1, x2, x3, x4, x5, x6, x7, x8, h⟩
theorem iE9 {α1:Sort _} {α2:Sort _} {α3:Sort _} {α4:Sort _} {α5:Sort _} {α6:Sort _} {α7:Sort _} {α8:Sort _} {α9:Sort _} {P:α1→α2→α3→α4→α5→α6→α7→α8→α9→Prop} (x1:α1) (x2:α2) (x3:α3) (x4:α4) (x5:α5) (x6:α6) (x7:α7) (x8:α8) (x9:α9) (h:P x1 x2 x3 x4 x5 x6 x7 x8 x9):∃ x1 x2 x3 x4 x5 x6 x7 x8 x9, P x1 x2 x3 x4 x5 x6 x7 x8 x9:=⟨x1, x2, x3, x4, x5, x6, x7, x8, x9, h⟩
theorem iE11 {α1:Sort _} {α2:Sort _} {α3:Sort _} {α4:Sort _} {α5:Sort _} {α6:Sort _} {α7:Sort _} {α8:Sort _} {α9:Sort _} {α10:Sort _} {α11:Sort _} {P:α1→α2→α3→α4→α5→α6→α7→α8→α9→α10→α11→Prop} (x1:α1) (x2:α2) (x3:α3) (x4:α4) (x5:α5) (x6:α6) (x7:α7) (x8:α8) (x9:α9) (x10:α10) (x11:α11) (h:P x1 x2 x3 x4 x5 x6 x7 x8 x9 x10 x11):∃ x1 x2 x3 x4 x5 x6 x7 x8 x9 x10 x11, P x1 x2 x3 x4 x5 x6 x7 x8 x9 x10 x11:=⟨x1, x2, x3, x4, x5, x6, x7, x8, x9, x10, x11, h⟩
theorem iE16 {α1:Sort _} {α2:Sort _} {α3:Sort _} {α4:Sort _} {α5:Sort _} {α6:Sort _} {α7:Sort _} {α8:Sort _} {α9:Sort _} {α10:Sort _} {α11:Sort _} {α12:Sort _} {α13:Sort _} {α14:Sort _} {α15:Sort _} {α16:Sort _} {P:α1→α2→α3→α4→α5→α6→α7→α8→α9→α10→α11→α12→α13→α14→α15→α16→Prop} (x1:α1) (x2:α2) (x3:α3) (x4:α4) (x5:α5) (x6:α6) (x7:α7) (x8:α8) (x9:α9) (x10:α10) (x11:α11) (x12:α12) (x13:α13) (x14:α14) (x15:α15) (x16:α16) (h:P x1 x2 x3 x4 x5 x6 x7 x8 x9 x10 x11 x12 x13 x14 x15 x16):∃ x1 x2 x3 x4 x5 x6 x7 x8 x9 x10 x11 x12 x13 x14 x15 x16, P x1 x2 x3 x4 x5 x6 x7 x8 x9 x10 x11 x12 x13 x14 x15 x16:=⟨x1, x2, x3, x4, x5, x6, x7, x8, x9, x10, x11, x12, x13, x14, x15, x16, h⟩
end Mine.Internal
end
section
namespace Mine.Internal
theorem ar1 {h l o:Nat} (a:l < o) (b:l ≤ h):h + 1 - min o (h + 1) ≤ h - l:=Nat.le_trans (Nat.sub_le_sub_left (Nat.le_min.mpr ⟨a, Nat.succ_le_succ b⟩) (h + 1)) (Nat.le_of_eq (Nat.succ_sub_succ h l))
theorem ar2 {d:Nat}:∀ {i j:Nat}, i < j→i ≠ 1 - d→j ≠ 1 - d→i < 2→1 - i < j
  | 0, _, h, h1, h2, _=>by
    cases d with
    | zero=>exact Nat.lt_of_le_of_ne h (Ne.symm h2)
    | succ d=>exact absurd (Nat.sub_eq_zero_of_le (Nat.succ_le_succ (Nat.zero_le d))).symm h1
  | 1, _, h, _, _, _=>Nat.lt_trans Nat.zero_lt_one h
  | i + 2, _, _, _, _, h=>absurd h (Nat.not_lt.mpr (Nat.le_add_left 2 i))
theorem ar3 {d i j:Nat} (h:i < j) (h1:i ≠ 1 - d) (h2:j ≠ 1 - d):¬ j < 2:=fun h3=>Nat.lt_irrefl j (by
  have a:=ar2 h h1 h2 (Nat.lt_trans h h3)
  have b:1 ≤ j:=Nat.lt_of_le_of_lt (Nat.zero_le i) h
  have c:j = 1:=Nat.le_antisymm (Nat.le_of_lt_succ h3) b
  subst c
  have e:i = 0:=Nat.le_zero.mp (Nat.le_of_lt_succ h)
  subst e
  exact a)
theorem ar4 {d:Nat}:∀ {i:Nat}, i ≠ 1 - d→i < 2→¬ 1 - i = d
  | 0, h, _, e=>h (by subst e; rfl)
  | 1, h, _, e=>h (by subst e; rfl)
  | i + 2, _, h, _=>absurd h (Nat.not_lt.mpr (Nat.le_add_left 2 i))
theorem ar5 {t n1 u i:Nat} (h:t ≤ n1) (c:¬ i < n1 + u):n1 + u + (i - (t + (u + (n1 - t)))) = i:=by
  rw [Nat.add_left_comm, Nat.add_sub_of_le h, Nat.add_comm u n1]
  exact Nat.add_sub_of_le (Nat.le_of_not_lt c)
theorem ar6 {n1 u n t:Nat} (h:n1 + u ≤ n):min n1 n - t = n1 - t:=by rw [Nat.min_eq_left (Nat.le_trans (Nat.le_add_right n1 u) h)]
theorem ar7 {k:Int} {n:Nat} (h:n ≤ 69) (a:0 ≤ k ∧ k < (n:Int)):0 ≤ k ∧ k < 70:=⟨a.1, Int.lt_of_lt_of_le a.2 (Int.ofNat_le.mpr (Nat.le_trans h (by decide:69 ≤ 70)))⟩
theorem ar8 {i h o:Nat} (a:i < h + 1 - min o (h + 1)) (c:¬ o ≤ h + 1):False:=by
  rw [Nat.min_eq_right (Nat.le_of_not_le c), Nat.sub_self] at a
  exact Nat.not_lt_zero i a
theorem ar9 {a i j:Nat} (h:i < j) (h2:j < a + 1):∀ {x:Nat}, x < a + 1→x - 1 < a
  | 0, _=>Nat.lt_of_lt_of_le (Nat.lt_of_le_of_lt (Nat.zero_le i) h) (Nat.le_of_lt_succ h2)
  | _ + 1, h3=>Nat.lt_of_succ_lt_succ h3
theorem ar10 {b n:Nat} (h:n ≤ 69):min b n + (n - (b + 1)) ≤ 16777216:=Nat.le_trans (Nat.add_le_add (Nat.le_trans (Nat.min_le_right _ _) h) (Nat.le_trans (Nat.sub_le _ _) h)) (by decide)
theorem ar11 {x2 x3:Int} {n:Nat} (h:n ≤ 69) (h3:0 ≤ x3) (h2:x2 < n):(x2 + 1 - x3).toNat ≤ 100:=by lia
theorem ar12 {n1 t:Nat} (c:¬ n1 - t = 0):0 + t + (n1 - t) - 1 = n1 - 1:=by rw [Nat.zero_add, Nat.add_sub_of_le (Nat.le_of_lt (Nat.lt_of_sub_ne_zero c))]
theorem ar13 {a b:Nat}:min 1 a + min 1 b ≤ 2:=Nat.add_le_add (Nat.min_le_left _ _) (Nat.min_le_left _ _)
theorem ar14 {n h l o:Nat} (a:l < o) (b:h + l < n):h + l + 1 ≤ h + min o (n - h):=Nat.add_le_add_left (Nat.le_min.mpr ⟨a, Nat.le_sub_of_add_le' b⟩) h
theorem ar15 {n1 s t:Nat} (h:n1 ≤ s):min n1 s - (0 + t) = n1 - t:=by rw [Nat.zero_add, Nat.min_eq_left h]
theorem ar16 {n1 u s:Nat} (h:n1 + u ≤ s):min (n1 + u) s - n1 = u:=by rw [Nat.min_eq_left h, Nat.add_sub_cancel_left]
theorem ar17 {n a b:Nat} (ha:a < n) (hb:b < n):min a (min b n + (n - (b + 1))) = a:=by
  rw [Nat.min_eq_left (Nat.le_of_lt hb)]
  refine Nat.min_eq_left (Nat.le_of_lt_succ ?_)
  rw [show (b + (n - (b + 1))).succ = b + 1 + (n - (b + 1)) from (Nat.succ_add b _).symm, Nat.add_sub_of_le hb]
  exact ha
theorem ar18 {t u i j:Nat} (h:i ≤ j):t + (i - t - u) ≤ t + (j - t - u):=Nat.add_le_add_left (Nat.sub_le_sub_right (Nat.sub_le_sub_right h t) u) t
theorem ar19 {a b x p:Nat} (h:p < x):a + (b + (x - (p + 1) + 1 + 0)) < a + (b + (x - p + 1 + 0)):=Nat.add_lt_add_left (Nat.add_lt_add_left (Nat.succ_lt_succ (Nat.sub_succ_lt_self _ _ h)) b) a
theorem ar20 {j:Nat}:(0 + (j:Int) - 1).toNat = j - 1:=by rw [Int.zero_add]; exact Int.toNat_sub j 1
theorem ar21 {n i:Nat} (h:i < n):n + 1 - (i + 1) < n + 1 - i:=Nat.sub_succ_lt_self _ _ (Nat.lt_succ_of_lt h)
theorem ar22 {n h o:Nat} (a:h < n):h + min o (n - h) ≤ n:=Nat.add_le_of_le_sub' (Nat.le_of_lt a) (Nat.min_le_right _ _)
theorem ar23 {n h o i:Nat} (a:h < n) (b:h + min o (n - h) ≤ i) (d:i < n) (c:¬ o ≤ n - h):False:=by
  rw [Nat.min_eq_right (Nat.le_of_not_le c), Nat.add_sub_of_le (Nat.le_of_lt a)] at b
  exact Nat.lt_irrefl i (Nat.lt_of_lt_of_le d b)
theorem ar24 {h o i:Nat} (a:i < h + 1 - o) (b:o ≤ h + 1):i ≤ h - o:=Nat.le_sub_of_add_le (Nat.le_of_lt_succ (by
  have:=Nat.add_le_of_le_sub b a
  rw [Nat.succ_add] at this
  exact this))
theorem ar25 {l r n:Nat} (h:l ≤ r) (h2:r - l ≤ n - max 0 n):l = r:=by
  rw [Nat.max_eq_right (Nat.zero_le n), Nat.sub_self] at h2
  exact Nat.le_antisymm h (Nat.le_of_sub_eq_zero (Nat.le_zero.mp h2))
end Mine.Internal
end
section
open PySem
namespace Mine.Internal
theorem abs_post {prog:Program} {w:World} {A:Around} {α:Type} {c:Sem α} {Q:α→Shared→Prop} {E:Value→Shared→Prop} {s:Shared} (h:∀ Qz:α→Shared→Prop, (∀ v s', Q v s'→Qz v s')→wpAny (model prog w) A c Qz E s):wpAny (model prog w) A c Q E s:=h Q fun _ _ x=>x
end Mine.Internal
end
section
open PySem PySem.W PyProof.Rows PySem.Challenge
namespace Mine.Internal
noncomputable def anyQ {α:Type} (xs:Array α) (p:α→Bool) (a b:Nat):Bool :=
  match Nat.beq a 0 && Nat.beq b xs.size with
  | true=>xs.toList.any p
  | false=>xs.any p a b
theorem anyQ_eq:@Array.any.{0} = @anyQ:=by
  funext α xs p a b
  unfold anyQ
  split
  · rename_i h
    obtain ⟨h1, h2⟩:=Bool.and_eq_true_iff.mp h
    have e1:=Nat.eq_of_beq_eq_true h1
    have e2:=Nat.eq_of_beq_eq_true h2
    subst e1 e2
    rw [Array.any_toList]
  · rfl
noncomputable abbrev AnyT:Type 1:=∀ {α:Type}, Array α→(α→Bool)→Nat→Nat→Bool
noncomputable def Held (_:Builtin):Type:=Unit
noncomputable def newS:(F:AnyT→Builtin) × (Held PySem.W.Fast.tw4202317264376624991→Held (F @Array.any.{0})) :=
  ⟨_, by
    delta PySem.W.Fast.tw4202317264376624991
    generalize @Array.any.{0} = a
    exact fun u=>u⟩
noncomputable def newF:AnyT→Builtin:=newS.1
theorem newF_eq:PySem.W.Fast.tw4202317264376624991 = newF @Array.any.{0}:=by kernel_rfl
noncomputable def newQ:Builtin:=newF @anyQ
theorem newQ_eq:PySem.Builtin.«type.__new__» = newQ:=by
  rw [PySem.W.Fast.te4202317264376624991]
  exact newF_eq.trans (congrArg newF anyQ_eq)
noncomputable def tableQ (id:String):Option Builtin:=match decide (id = "type.__new__") with
  | true=>some newQ
  | false=>treeTable id
theorem tableQ_eq:treeTable = tableQ:=by
  funext id
  unfold tableQ
  split
  · rename_i h
    have e:=of_decide_eq_true h
    subst e
    rw [← newQ_eq]
    kernel_rfl
  · rfl
noncomputable def topRunT (tb:String→Option Builtin) (p:Program) (w:World) (n₀:Nat) (ann:Option Value):Nat→SharedT→Thread→Option SharedT
  | 0, _, _=>none
  | n + 1, s, t=>match through t with
    | true=>some s
    | false=>match stepOk n₀ ann t with
      | false=>none
      | true=>match stepT (denote tb) p w s t with
        | some (s', t')=>topRunT tb p w n₀ ann n s' t'
        | none=>none
theorem topRunT_of {tb:String→Option Builtin} {p:Program} {w:World} {n₀:Nat} {ann:Option Value}:∀ {n:Nat} {s s':SharedT} {t:Thread},
    topRunT tb p w n₀ ann n s t = some s'→topRun tb p w n₀ ann n s.abs t = some s'.abs
  | 0, _, _, _, h=>by cases h
  | n + 1, s, s', t, h=>by
    unfold topRunT at h
    unfold topRun
    cases ht:through t with
    | true=>rw [ht] at h; cases h; rfl
    | false =>
      rw [ht] at h
      dsimp only at h ⊢
      cases hk:stepOk n₀ ann t with
      | false=>rw [hk] at h; cases h
      | true =>
        rw [hk] at h
        dsimp only at h ⊢
        cases hs:stepT (denote tb) p w s t with
        | none=>rw [hs] at h; cases h
        | some r =>
          obtain ⟨s₂, t₂⟩:=r
          rw [hs] at h
          rw [stepT_spec hs]
          exact topRunT_of h
noncomputable def treeOf:List Obj→Nat→BT→BT
  | [], _, t=>t
  | o :: r, i, t=>treeOf r (i + 1) (t.ins i o)

noncomputable def s0T (w:World) (os:OsState):SharedT:=⟨treeOf (boot_heap w.params).objs.toList 0 .nil, (boot_heap w.params).objs.size, (boot_heap w.params).life, Array.mk [], boot_drawn, boot_toks, os⟩
theorem s0T_abs (w:World) (os:OsState):(s0T w os).abs = ⟨boot_heap w.params, Array.mk [], boot_drawn, boot_toks, os⟩:=by kernel_rfl
theorem boot_isNs (w:World):(boot_heap w.params).isNs mainGlobals = true:=by kernel_rfl
noncomputable def wholeBy (tb:String→Option Builtin) (p q:Program) (loose:List Str) (Xt:Shared→Bool) (N:Nat) (w:World) (s:SharedT) (ann:Option Value) (H:Heap) :=
  (topRunT tb p w H.objs.size ann N s (topStub p)).bind fun s1 =>
    match staticsOk (importedModules p.main.body) H s1.abs.heap && namesBound p s1.abs.heap && gensDone s1.abs && laidKept H s1.abs.heap with
    | true=>some (openSeen q loose (importedModules p.main.body) Xt true s1.abs)
    | false=>none
noncomputable def lookBy {α:Type} (tb:String→Option Builtin) (p:Program) (Yf:Shared→α) (N:Nat) (w:World) (s:SharedT) (ann:Option Value) (H:Heap):Option α :=
  (topRunT tb p w H.objs.size ann N s (topStub p)).bind fun s1=>some (Yf s1.abs)
theorem left_of {α:Type} {p q:Program} {loose:List Str} {Xt:Shared→Bool} {Yf:Shared→α} {Ya:World→α} {N:Nat}
    (open_:∀ w:World, (fencedOpening treeTable p w N).map (fun s=>(s.heap, s.gens, s.drawn, s.toks)) = some (boot_heap w.params, Array.mk [], boot_drawn, boot_toks))
    (check:∀ w, (fun os=>wholeBy tableQ p q loose Xt N w (s0T w os) ((boot_heap w.params).nsMap mainGlobals "__annotations__") (boot_heap w.params)) = fun _=>some (openGood q loose))
    (look:∀ w, (fun os=>lookBy tableQ p Yf N w (s0T w os) ((boot_heap w.params).nsMap mainGlobals "__annotations__") (boot_heap w.params)) = fun _=>some (Ya w)) :
    LeftO p q loose Xt Yf Ya N true:=fun w=>by
  obtain ⟨⟨h, gs, d, k, os⟩, e, e'⟩:=Option.map_eq_some_iff.mp (open_ w)
  obtain ⟨rfl, rfl, rfl, rfl⟩:h = boot_heap w.params ∧ gs = Array.mk [] ∧ d = boot_drawn ∧ k = boot_toks:=by simpa using e'
  have c:=congrFun (check w) os
  unfold wholeBy at c
  obtain ⟨s1, r1, r2⟩:=Option.bind_eq_some_iff.mp c
  have y:=congrFun (look w) os
  unfold lookBy at y
  rw [r1] at y
  have y':Yf s1.abs = Ya w:=Option.some.inj y
  have r:=topRunT_of r1
  rw [s0T_abs, ← tableQ_eq] at r
  unfold openEnds
  rw [e]
  show (topFrom treeTable p w N _).map _ = _
  have t:topFrom treeTable p w N ⟨boot_heap w.params, Array.mk [], boot_drawn, boot_toks, os⟩ = some s1.abs ∧ (openSeen q loose (importedModules p.main.body) Xt true s1.abs, Yf s1.abs) = (openGood q loose, Ya w):=by
    cases hc:(staticsOk (importedModules p.main.body) (boot_heap w.params) s1.abs.heap && namesBound p s1.abs.heap && gensDone s1.abs && laidKept (boot_heap w.params) s1.abs.heap) with
    | false=>rw [hc] at r2; cases r2
    | true =>
      rw [hc] at r2
      refine ⟨?_, Prod.ext (Option.some.inj r2) y'⟩
      unfold topFrom
      dsimp only
      rw [boot_isNs]
      show (topRun treeTable p w _ _ N _ _).bind _ = _
      rw [r]
      show (match staticsOk _ _ _ && _ && _ && _ with | true=>_ | false=>_) = _
      rw [hc]
  rw [t.1]
  exact congrArg some t.2
noncomputable def getsOf (h:Heap):List Addr→List (Option Obj)
  | []=>[]
  | a :: r=>h.get? a :: getsOf h r
noncomputable def optsOf:List (Addr × Obj)→List (Option Obj)
  | []=>[]
  | p :: r=>some p.2 :: optsOf r
theorem getsOf_eq (h:Heap):∀ l, getsOf h l = l.map h.get?
  | []=>rfl
  | _ :: r=>congrArg _ (getsOf_eq h r)
theorem optsOf_eq:∀ l:List (Addr × Obj), optsOf l = l.map fun p=>some p.2
  | []=>rfl
  | _ :: r=>congrArg _ (optsOf_eq r)
noncomputable def hookBy (K:Params→Frag) (as:List Addr) (e:∀ P, as = (K P).map (·.1)):Hook :=
  ⟨List (Option Obj), fun s=>getsOf s.heap as, fun w=>optsOf (K w.params), InK K, fun w s x=>InK.of e w s (by rw [← getsOf_eq, ← optsOf_eq]; exact x), InK.keeps⟩
-- parts of the text, by place
noncomputable def bodyOf:Stmt→List Stmt
  | .FunctionDef _ _ b _ _ _ _ _ _ _=>b
  | .ClassDef _ _ _ b _ _ _ _ _ _ _=>b
  | _=>[]
noncomputable def argsOf:Stmt→Arguments
  | .FunctionDef _ a _ _ _ _ _ _ _ _=>a
  | _=>⟨[], [], none, [], [], none, []⟩
noncomputable def scopeOf:Stmt→Scope
  | .FunctionDef _ _ _ _ _ _ s _ _ _=>s
  | .ClassDef _ _ _ _ _ _ s _ _ _ _=>s
  | _=>⟨.function, [], false, false, []⟩
noncomputable def docS (s:Stmt):Str:=(docOf (bodyOf s)).getD Str.empty
noncomputable def stAt (l:List Stmt) (i:Nat):Stmt:=l.getD i (.Pass ⟨0, 0, 0, 0⟩)

-- the text anew, in pieces: the quick twin of one def costs the square of the names in it
noncomputable def qT (i:Nat):Stmt:=stAt pw_mu0013_01.main.body i
noncomputable def qS (i j:Nat):Stmt:=stAt (bodyOf (qT i)) j
noncomputable def setKids (l:List Stmt):Stmt→Stmt
  | .FunctionDef a b _ c d e f g h i=>.FunctionDef a b l c d e f g h i
  | .ClassDef a b c _ d e f g h i j=>.ClassDef a b c l d e f g h i j
  | s=>s
noncomputable def setDoc (d:Str):Stmt→Stmt
  | .Expr (.Constant (.str _) a b) c=>.Expr (.Constant (.str d) a b) c
  | s=>s
noncomputable def setKS (l:List Stmt) (n:List (Str × NameKind)) (m:List (Str × Const)):Stmt→Stmt
  | .FunctionDef a b _ c d e ⟨f, _, j, k, _⟩ g h i=>.FunctionDef a b l c d e ⟨f, n, j, k, m⟩ g h i
  | s=>s
noncomputable def dd5:Str:=by
  refine' (?f:∀ (s:Str) a b c, qS 5 0 = .Expr (.Constant (.str s) a b) c→Str) _ _ _ _ ?h
  case f=>exact fun s _ _ _ _=>s
  case h=>(conv=>lhs; whnf)
noncomputable def dn5:List Char:=by
  refine' (?f:∀ (s:String) (l:List Char), dd5 = Str.ofString s→s.toList = l→List Char) _ _ ?h1 ?h2
  case f=>exact fun _ l _ _=>l
  case h1=>exact rfl
  case h2=>conv=>lhs; simp only [String.reduceToList]
noncomputable def da5:Str:=⟨(dn5.map Char.toNat).toArray⟩
theorem dd5_eq:dd5 = da5:=(by kernel_rfl:dd5 = Str.ofString (String.ofList dn5)).trans (PySem.W.Fast.ofString_ofList _)
noncomputable def dd7:Str:=by
  refine' (?f:∀ (s:Str) a b c, qS 7 0 = .Expr (.Constant (.str s) a b) c→Str) _ _ _ _ ?h
  case f=>exact fun s _ _ _ _=>s
  case h=>(conv=>lhs; whnf)
noncomputable def dn7:List Char:=by
  refine' (?f:∀ (s:String) (l:List Char), dd7 = Str.ofString s→s.toList = l→List Char) _ _ ?h1 ?h2
  case f=>exact fun _ l _ _=>l
  case h1=>exact rfl
  case h2=>conv=>lhs; simp only [String.reduceToList]
noncomputable def da7:Str:=⟨(dn7.map Char.toNat).toArray⟩
theorem dd7_eq:dd7 = da7:=(by kernel_rfl:dd7 = Str.ofString (String.ofList dn7)).trans (PySem.W.Fast.ofString_ofList _)
noncomputable def dd13:Str:=by
  refine' (?f:∀ (s:Str) a b c, qS 13 0 = .Expr (.Constant (.str s) a b) c→Str) _ _ _ _ ?h
  case f=>exact fun s _ _ _ _=>s
  case h=>(conv=>lhs; whnf)
noncomputable def dn13:List Char:=by
  refine' (?f:∀ (s:String) (l:List Char), dd13 = Str.ofString s→s.toList = l→List Char) _ _ ?h1 ?h2
  case f=>exact fun _ l _ _=>l
  case h1=>exact rfl
  case h2=>conv=>lhs; simp only [String.reduceToList]
noncomputable def da13:Str:=⟨(dn13.map Char.toNat).toArray⟩
theorem dd13_eq:dd13 = da13:=(by kernel_rfl:dd13 = Str.ofString (String.ofList dn13)).trans (PySem.W.Fast.ofString_ofList _)
noncomputable def dc0:Str:=by
  refine' (?f:∀ (s:Str) a b c, stAt (bodyOf (qS 3 4)) 0 = .Expr (.Constant (.str s) a b) c→Str) _ _ _ _ ?h
  case f=>exact fun s _ _ _ _=>s
  case h=>(conv=>lhs; whnf)
noncomputable def dc1:Str:=by
  refine' (?f:∀ (s:Str) a b c, stAt (bodyOf (qS 3 5)) 0 = .Expr (.Constant (.str s) a b) c→Str) _ _ _ _ ?h
  case f=>exact fun s _ _ _ _=>s
  case h=>(conv=>lhs; whnf)
noncomputable def dc2:Str:=by
  refine' (?f:∀ (s:Str) a b c, stAt (bodyOf (qS 3 6)) 0 = .Expr (.Constant (.str s) a b) c→Str) _ _ _ _ ?h
  case f=>exact fun s _ _ _ _=>s
  case h=>(conv=>lhs; whnf)
noncomputable def dc3:Str:=by
  refine' (?f:∀ (s:Str) a b c, stAt (bodyOf (qS 3 8)) 0 = .Expr (.Constant (.str s) a b) c→Str) _ _ _ _ ?h
  case f=>exact fun s _ _ _ _=>s
  case h=>(conv=>lhs; whnf)
noncomputable def dc4:Str:=by
  refine' (?f:∀ (s:Str) a b c, stAt (bodyOf (qS 3 10)) 0 = .Expr (.Constant (.str s) a b) c→Str) _ _ _ _ ?h
  case f=>exact fun s _ _ _ _=>s
  case h=>(conv=>lhs; whnf)
noncomputable def dc5:Str:=by
  refine' (?f:∀ (s:Str) a b c, stAt (bodyOf (qS 5 1)) 0 = .Expr (.Constant (.str s) a b) c→Str) _ _ _ _ ?h
  case f=>exact fun s _ _ _ _=>s
  case h=>(conv=>lhs; whnf)
noncomputable def dc6:Str:=by
  refine' (?f:∀ (s:Str) a b c, stAt (bodyOf (qS 5 2)) 0 = .Expr (.Constant (.str s) a b) c→Str) _ _ _ _ ?h
  case f=>exact fun s _ _ _ _=>s
  case h=>(conv=>lhs; whnf)
noncomputable def dc7:Str:=by
  refine' (?f:∀ (s:Str) a b c, stAt (bodyOf (qS 5 3)) 0 = .Expr (.Constant (.str s) a b) c→Str) _ _ _ _ ?h
  case f=>exact fun s _ _ _ _=>s
  case h=>(conv=>lhs; whnf)
noncomputable def dc8:Str:=by
  refine' (?f:∀ (s:Str) a b c, stAt (bodyOf (qS 5 4)) 0 = .Expr (.Constant (.str s) a b) c→Str) _ _ _ _ ?h
  case f=>exact fun s _ _ _ _=>s
  case h=>(conv=>lhs; whnf)
noncomputable def dc9:Str:=by
  refine' (?f:∀ (s:Str) a b c, stAt (bodyOf (qS 5 6)) 0 = .Expr (.Constant (.str s) a b) c→Str) _ _ _ _ ?h
  case f=>exact fun s _ _ _ _=>s
  case h=>(conv=>lhs; whnf)
noncomputable def dc10:Str:=by
  refine' (?f:∀ (s:Str) a b c, stAt (bodyOf (qS 5 7)) 0 = .Expr (.Constant (.str s) a b) c→Str) _ _ _ _ ?h
  case f=>exact fun s _ _ _ _=>s
  case h=>(conv=>lhs; whnf)
noncomputable def dc11:Str:=by
  refine' (?f:∀ (s:Str) a b c, stAt (bodyOf (qS 5 8)) 0 = .Expr (.Constant (.str s) a b) c→Str) _ _ _ _ ?h
  case f=>exact fun s _ _ _ _=>s
  case h=>(conv=>lhs; whnf)
noncomputable def dc12:Str:=by
  refine' (?f:∀ (s:Str) a b c, stAt (bodyOf (qS 5 10)) 0 = .Expr (.Constant (.str s) a b) c→Str) _ _ _ _ ?h
  case f=>exact fun s _ _ _ _=>s
  case h=>(conv=>lhs; whnf)
noncomputable def dc13:Str:=by
  refine' (?f:∀ (s:Str) a b c, stAt (bodyOf (qS 5 11)) 0 = .Expr (.Constant (.str s) a b) c→Str) _ _ _ _ ?h
  case f=>exact fun s _ _ _ _=>s
  case h=>(conv=>lhs; whnf)
noncomputable def dc14:Str:=by
  refine' (?f:∀ (s:Str) a b c, stAt (bodyOf (qS 5 12)) 0 = .Expr (.Constant (.str s) a b) c→Str) _ _ _ _ ?h
  case f=>exact fun s _ _ _ _=>s
  case h=>(conv=>lhs; whnf)
noncomputable def dc15:Str:=by
  refine' (?f:∀ (s:Str) a b c, qS 6 0 = .Expr (.Constant (.str s) a b) c→Str) _ _ _ _ ?h
  case f=>exact fun s _ _ _ _=>s
  case h=>(conv=>lhs; whnf)
noncomputable def dc16:Str:=by
  refine' (?f:∀ (s:Str) a b c, stAt (bodyOf (qS 7 1)) 0 = .Expr (.Constant (.str s) a b) c→Str) _ _ _ _ ?h
  case f=>exact fun s _ _ _ _=>s
  case h=>(conv=>lhs; whnf)
noncomputable def dc17:Str:=by
  refine' (?f:∀ (s:Str) a b c, stAt (bodyOf (qS 7 2)) 0 = .Expr (.Constant (.str s) a b) c→Str) _ _ _ _ ?h
  case f=>exact fun s _ _ _ _=>s
  case h=>(conv=>lhs; whnf)
noncomputable def dc18:Str:=by
  refine' (?f:∀ (s:Str) a b c, stAt (bodyOf (qS 7 3)) 0 = .Expr (.Constant (.str s) a b) c→Str) _ _ _ _ ?h
  case f=>exact fun s _ _ _ _=>s
  case h=>(conv=>lhs; whnf)
noncomputable def dc19:Str:=by
  refine' (?f:∀ (s:Str) a b c, stAt (bodyOf (qS 7 5)) 0 = .Expr (.Constant (.str s) a b) c→Str) _ _ _ _ ?h
  case f=>exact fun s _ _ _ _=>s
  case h=>(conv=>lhs; whnf)
noncomputable def dc20:Str:=by
  refine' (?f:∀ (s:Str) a b c, stAt (bodyOf (qS 7 7)) 0 = .Expr (.Constant (.str s) a b) c→Str) _ _ _ _ ?h
  case f=>exact fun s _ _ _ _=>s
  case h=>(conv=>lhs; whnf)
noncomputable def dc21:Str:=by
  refine' (?f:∀ (s:Str) a b c, qS 8 0 = .Expr (.Constant (.str s) a b) c→Str) _ _ _ _ ?h
  case f=>exact fun s _ _ _ _=>s
  case h=>(conv=>lhs; whnf)
noncomputable def dc22:Str:=by
  refine' (?f:∀ (s:Str) a b c, stAt (bodyOf (qS 14 3)) 0 = .Expr (.Constant (.str s) a b) c→Str) _ _ _ _ ?h
  case f=>exact fun s _ _ _ _=>s
  case h=>(conv=>lhs; whnf)
noncomputable def dc23:Str:=by
  refine' (?f:∀ (s:Str) a b c, stAt (bodyOf (qS 14 4)) 0 = .Expr (.Constant (.str s) a b) c→Str) _ _ _ _ ?h
  case f=>exact fun s _ _ _ _=>s
  case h=>(conv=>lhs; whnf)
noncomputable def dc24:Str:=by
  refine' (?f:∀ (s:Str) a b c, stAt (bodyOf (qS 14 5)) 0 = .Expr (.Constant (.str s) a b) c→Str) _ _ _ _ ?h
  case f=>exact fun s _ _ _ _=>s
  case h=>(conv=>lhs; whnf)
noncomputable def dc25:Str:=by
  refine' (?f:∀ (s:Str) a b c, stAt (bodyOf (qS 14 6)) 0 = .Expr (.Constant (.str s) a b) c→Str) _ _ _ _ ?h
  case f=>exact fun s _ _ _ _=>s
  case h=>(conv=>lhs; whnf)
noncomputable def dc26:Str:=by
  refine' (?f:∀ (s:Str) a b c, stAt (bodyOf (qS 14 8)) 0 = .Expr (.Constant (.str s) a b) c→Str) _ _ _ _ ?h
  case f=>exact fun s _ _ _ _=>s
  case h=>(conv=>lhs; whnf)
noncomputable def nl0:List Str:=[Str.ofString "__new__", Str.ofString "_cls", Str.ofString "tuple", Str.ofString "a", Str.ofString "b", Str.ofString "size", Str.ofString "result", Str.ofString "cls", Str.ofString "iterable"]
noncomputable def nl1:List Str:=[Str.ofString "len", Str.ofString "TypeError", Str.ofString "__class__", Str.ofString "_make", Str.ofString "type", Str.ofString "self", Str.ofString "__len__", Str.ofString "map", Str.ofString "pop"]
noncomputable def nl2:List Str:=[Str.ofString "kwds", Str.ofString "__getitem__", Str.ofString "list", Str.ofString "__name__", Str.ofString "_wall", Str.ofString "length", Str.ofString "matches", Str.ofString "isjunk", Str.ofString "autojunk"]
noncomputable def nl3:List Str:=[Str.ofString "set_seqs", Str.ofString "set_seq1", Str.ofString "set_seq2", Str.ofString "matching_blocks", Str.ofString "opcodes", Str.ofString "fullbcount", Str.ofString "__chain_b", Str.ofString "b2j", Str.ofString "i"]
noncomputable def nl4:List Str:=[Str.ofString "elt", Str.ofString "enumerate", Str.ofString "indices", Str.ofString "setdefault", Str.ofString "append", Str.ofString "bjunk", Str.ofString "junk", Str.ofString "set", Str.ofString "keys"]
noncomputable def nl5:List Str:=[Str.ofString "add", Str.ofString "bpopular", Str.ofString "popular", Str.ofString "n", Str.ofString "ntest", Str.ofString "idxs", Str.ofString "items", Str.ofString "isbjunk", Str.ofString "__contains__"]
noncomputable def nl6:List Str:=[Str.ofString "ahi", Str.ofString "bhi", Str.ofString "besti", Str.ofString "bestj", Str.ofString "bestsize", Str.ofString "alo", Str.ofString "blo", Str.ofString "j2len", Str.ofString "nothing"]
noncomputable def nl7:List Str:=[Str.ofString "range", Str.ofString "j2lenget", Str.ofString "get", Str.ofString "newj2len", Str.ofString "j", Str.ofString "k", Str.ofString "Match", Str.ofString "la", Str.ofString "lb"]
noncomputable def nl8:List Str:=[Str.ofString "queue", Str.ofString "x", Str.ofString "find_longest_match", Str.ofString "sort", Str.ofString "i1", Str.ofString "j1", Str.ofString "k1", Str.ofString "non_adjacent", Str.ofString "i2"]
noncomputable def nl9:List Str:=[Str.ofString "j2", Str.ofString "k2", Str.ofString "answer", Str.ofString "ai", Str.ofString "bj", Str.ofString "get_matching_blocks", Str.ofString "tag", Str.ofString "sum", Str.ofString "triple"]
noncomputable def nl10:List Str:=[Str.ofString "_calculate_ratio", Str.ofString "avail", Str.ofString "availhas", Str.ofString "numb", Str.ofString "min", Str.ofString "join", Str.ofString "c", Str.ofString "tag_c", Str.ofString "zip"]
noncomputable def nl11:List Str:=[Str.ofString "s", Str.ofString "tag_s", Str.ofString "isspace", Str.ofString "linejunk", Str.ofString "charjunk", Str.ofString "cruncher", Str.ofString "SequenceMatcher", Str.ofString "get_opcodes", Str.ofString "g"]
noncomputable def nl12:List Str:=[Str.ofString "_fancy_replace", Str.ofString "_dump", Str.ofString "ValueError", Str.ofString "lo", Str.ofString "hi", Str.ofString "first", Str.ofString "second", Str.ofString "best_ratio", Str.ofString "cutoff"]
noncomputable def nl13:List Str:=[Str.ofString "eqi", Str.ofString "eqj", Str.ofString "best_i", Str.ofString "best_j", Str.ofString "real_quick_ratio", Str.ofString "quick_ratio", Str.ofString "ratio", Str.ofString "_plain_replace", Str.ofString "_fancy_helper"]
noncomputable def nl14:List Str:=[Str.ofString "aelt", Str.ofString "belt", Str.ofString "atags", Str.ofString "btags", Str.ofString "ai1", Str.ofString "ai2", Str.ofString "bj1", Str.ofString "bj2", Str.ofString "_qformat"]
noncomputable def nl15:List Str:=[Str.ofString "rstrip", Str.ofString "_keep_original_ws", Str.ofString "aline", Str.ofString "bline", Str.ofString "KeyError", Str.ofString "int", Str.ofString "which", Str.ofString "prefixes", Str.ofString "line"]
noncomputable def nl16:List Str:=[Str.ofString "delta", Str.ofString "node", Str.ofString "npredecessors", Str.ofString "successors", Str.ofString "_node2info", Str.ofString "_ready_nodes", Str.ofString "_npassedout", Str.ofString "_nfinished", Str.ofString "graph"]
noncomputable def nl17:List Str:=[Str.ofString "predecessors", Str.ofString "_NodeInfo", Str.ofString "nodeinfo", Str.ofString "_get_nodeinfo", Str.ofString "pred", Str.ofString "pred_info", Str.ofString "values", Str.ofString "cycle", Str.ofString "_find_cycle"]
noncomputable def nl18:List Str:=[Str.ofString "CycleError", Str.ofString "n2i", Str.ofString "_NODE_OUT", Str.ofString "clear", Str.ofString "bool", Str.ofString "is_active", Str.ofString "nodes", Str.ofString "stat", Str.ofString "_NODE_DONE"]
noncomputable def nl19:List Str:=[Str.ofString "successor", Str.ofString "successor_info", Str.ofString "stack", Str.ofString "itstack", Str.ofString "seen", Str.ofString "node2stacki", Str.ofString "__next__", Str.ofString "StopIteration", Str.ofString "iter"]
noncomputable def nl20:List Str:=[Str.ofString "str", Str.ofString "texts", Str.ofString "_law_text", Str.ofString "codes", Str.ofString "rows", Str.ofString "start", Str.ofString "at", Str.ofString "order", Str.ofString "extend"]
noncomputable def nl21:List Str:=[Str.ofString "Differ", Str.ofString "restore", Str.ofString "left", Str.ofString "get_ready", Str.ofString "done", Str.ofString "sorter", Str.ofString "TopologicalSorter", Str.ofString "side", Str.ofString "sides"]
noncomputable def nl22:List Str:=[Str.ofString "prepare", Str.ofString "out", Str.ofString "fault", Str.ofString "active", Str.ofString "more", Str.ofString "remove", Str.ofString "sorted", Str.ofString "words", Str.ofString "_law_finished"]
noncomputable def nl23:List Str:=[Str.ofString "script", Str.ofString "count", Str.ofString "other", Str.ofString "told", Str.ofString "_law_told", Str.ofString "moved", Str.ofString "rising", Str.ofString "insert", Str.ofString "_law_worked"]
noncomputable def nm0:List Str:=nl0 ++ (nl1 ++ (nl2 ++ (nl3 ++ (nl4 ++ (nl5)))))
noncomputable def nm6:List Str:=nl6 ++ (nl7 ++ (nl8 ++ (nl9 ++ (nl10 ++ (nl11)))))
noncomputable def nm12:List Str:=nl12 ++ (nl13 ++ (nl14 ++ (nl15 ++ (nl16 ++ (nl17)))))
noncomputable def nm18:List Str:=nl18 ++ (nl19 ++ (nl20 ++ (nl21 ++ (nl22 ++ (nl23)))))
noncomputable def sgW (sd:Nat→Str) (k:Nat):Str:=(nm0 ++ (nm6 ++ (nm12 ++ (nm18)))).getD k (sd k)
noncomputable def sd0 (k:Nat):Str:=[dc0, dc1, dc2, dc3, dc4, dc5, dc6, dc7, dc8, dc9, dc10, dc11, dc12, dc13, dc14, dc15, dc16, dc17, dc18, dc19, dc20, dc21, dc22, dc23, dc24, dc25, dc26].getD (k - 216) Str.empty
noncomputable def sg0:Nat→Str:=sgW sd0
theorem nms:Str.ofString "__new__" = sg0 0 ∧ Str.ofString "_cls" = sg0 1 ∧ Str.ofString "tuple" = sg0 2 ∧ Str.ofString "a" = sg0 3 ∧ Str.ofString "b" = sg0 4 ∧ Str.ofString "size" = sg0 5 ∧ Str.ofString "result" = sg0 6 ∧ Str.ofString "cls" = sg0 7 ∧ Str.ofString "iterable" = sg0 8 ∧ Str.ofString "len" = sg0 9 ∧ Str.ofString "TypeError" = sg0 10 ∧ Str.ofString "__class__" = sg0 11 ∧ Str.ofString "_make" = sg0 12 ∧ Str.ofString "type" = sg0 13 ∧ Str.ofString "self" = sg0 14 ∧ Str.ofString "__len__" = sg0 15 ∧ Str.ofString "map" = sg0 16 ∧ Str.ofString "pop" = sg0 17 ∧ Str.ofString "kwds" = sg0 18 ∧ Str.ofString "__getitem__" = sg0 19 ∧ Str.ofString "list" = sg0 20 ∧ Str.ofString "__name__" = sg0 21 ∧ Str.ofString "_wall" = sg0 22 ∧ Str.ofString "length" = sg0 23 ∧ Str.ofString "matches" = sg0 24 ∧ Str.ofString "isjunk" = sg0 25 ∧ Str.ofString "autojunk" = sg0 26 ∧ Str.ofString "set_seqs" = sg0 27 ∧ Str.ofString "set_seq1" = sg0 28 ∧ Str.ofString "set_seq2" = sg0 29 ∧ Str.ofString "matching_blocks" = sg0 30 ∧ Str.ofString "opcodes" = sg0 31 ∧ Str.ofString "fullbcount" = sg0 32 ∧ Str.ofString "__chain_b" = sg0 33 ∧ Str.ofString "b2j" = sg0 34 ∧ Str.ofString "i" = sg0 35 ∧ Str.ofString "elt" = sg0 36 ∧ Str.ofString "enumerate" = sg0 37 ∧ Str.ofString "indices" = sg0 38 ∧ Str.ofString "setdefault" = sg0 39 ∧ Str.ofString "append" = sg0 40 ∧ Str.ofString "bjunk" = sg0 41 ∧ Str.ofString "junk" = sg0 42 ∧ Str.ofString "set" = sg0 43 ∧ Str.ofString "keys" = sg0 44 ∧ Str.ofString "add" = sg0 45 ∧ Str.ofString "bpopular" = sg0 46 ∧ Str.ofString "popular" = sg0 47 ∧ Str.ofString "n" = sg0 48 ∧ Str.ofString "ntest" = sg0 49 ∧ Str.ofString "idxs" = sg0 50 ∧ Str.ofString "items" = sg0 51 ∧ Str.ofString "isbjunk" = sg0 52 ∧ Str.ofString "__contains__" = sg0 53 ∧ Str.ofString "ahi" = sg0 54 ∧ Str.ofString "bhi" = sg0 55 ∧ Str.ofString "besti" = sg0 56 ∧ Str.ofString "bestj" = sg0 57 ∧ Str.ofString "bestsize" = sg0 58 ∧ Str.ofString "alo" = sg0 59 ∧ Str.ofString "blo" = sg0 60 ∧ Str.ofString "j2len" = sg0 61 ∧ Str.ofString "nothing" = sg0 62 ∧ Str.ofString "range" = sg0 63 ∧ Str.ofString "j2lenget" = sg0 64 ∧ Str.ofString "get" = sg0 65 ∧ Str.ofString "newj2len" = sg0 66 ∧ Str.ofString "j" = sg0 67 ∧ Str.ofString "k" = sg0 68 ∧ Str.ofString "Match" = sg0 69 ∧ Str.ofString "la" = sg0 70 ∧ Str.ofString "lb" = sg0 71 ∧ Str.ofString "queue" = sg0 72 ∧ Str.ofString "x" = sg0 73 ∧ Str.ofString "find_longest_match" = sg0 74 ∧ Str.ofString "sort" = sg0 75 ∧ Str.ofString "i1" = sg0 76 ∧ Str.ofString "j1" = sg0 77 ∧ Str.ofString "k1" = sg0 78 ∧ Str.ofString "non_adjacent" = sg0 79 ∧ Str.ofString "i2" = sg0 80 ∧ Str.ofString "j2" = sg0 81 ∧ Str.ofString "k2" = sg0 82 ∧ Str.ofString "answer" = sg0 83 ∧ Str.ofString "ai" = sg0 84 ∧ Str.ofString "bj" = sg0 85 ∧ Str.ofString "get_matching_blocks" = sg0 86 ∧ Str.ofString "tag" = sg0 87 ∧ Str.ofString "sum" = sg0 88 ∧ Str.ofString "triple" = sg0 89 ∧ Str.ofString "_calculate_ratio" = sg0 90 ∧ Str.ofString "avail" = sg0 91 ∧ Str.ofString "availhas" = sg0 92 ∧ Str.ofString "numb" = sg0 93 ∧ Str.ofString "min" = sg0 94 ∧ Str.ofString "join" = sg0 95 ∧ Str.ofString "c" = sg0 96 ∧ Str.ofString "tag_c" = sg0 97 ∧ Str.ofString "zip" = sg0 98 ∧ Str.ofString "s" = sg0 99 ∧ Str.ofString "tag_s" = sg0 100 ∧ Str.ofString "isspace" = sg0 101 ∧ Str.ofString "linejunk" = sg0 102 ∧ Str.ofString "charjunk" = sg0 103 ∧ Str.ofString "cruncher" = sg0 104 ∧ Str.ofString "SequenceMatcher" = sg0 105 ∧ Str.ofString "get_opcodes" = sg0 106 ∧ Str.ofString "g" = sg0 107 ∧ Str.ofString "_fancy_replace" = sg0 108 ∧ Str.ofString "_dump" = sg0 109 ∧ Str.ofString "ValueError" = sg0 110 ∧ Str.ofString "lo" = sg0 111 ∧ Str.ofString "hi" = sg0 112 ∧ Str.ofString "first" = sg0 113 ∧ Str.ofString "second" = sg0 114 ∧ Str.ofString "best_ratio" = sg0 115 ∧ Str.ofString "cutoff" = sg0 116 ∧ Str.ofString "eqi" = sg0 117 ∧ Str.ofString "eqj" = sg0 118 ∧ Str.ofString "best_i" = sg0 119 ∧ Str.ofString "best_j" = sg0 120 ∧ Str.ofString "real_quick_ratio" = sg0 121 ∧ Str.ofString "quick_ratio" = sg0 122 ∧ Str.ofString "ratio" = sg0 123 ∧ Str.ofString "_plain_replace" = sg0 124 ∧ Str.ofString "_fancy_helper" = sg0 125 ∧ Str.ofString "aelt" = sg0 126 ∧ Str.ofString "belt" = sg0 127 ∧ Str.ofString "atags" = sg0 128 ∧ Str.ofString "btags" = sg0 129 ∧ Str.ofString "ai1" = sg0 130 ∧ Str.ofString "ai2" = sg0 131 ∧ Str.ofString "bj1" = sg0 132 ∧ Str.ofString "bj2" = sg0 133 ∧ Str.ofString "_qformat" = sg0 134 ∧ Str.ofString "rstrip" = sg0 135 ∧ Str.ofString "_keep_original_ws" = sg0 136 ∧ Str.ofString "aline" = sg0 137 ∧ Str.ofString "bline" = sg0 138 ∧ Str.ofString "KeyError" = sg0 139 ∧ Str.ofString "int" = sg0 140 ∧ Str.ofString "which" = sg0 141 ∧ Str.ofString "prefixes" = sg0 142 ∧ Str.ofString "line" = sg0 143 ∧ Str.ofString "delta" = sg0 144 ∧ Str.ofString "node" = sg0 145 ∧ Str.ofString "npredecessors" = sg0 146 ∧ Str.ofString "successors" = sg0 147 ∧ Str.ofString "_node2info" = sg0 148 ∧ Str.ofString "_ready_nodes" = sg0 149 ∧ Str.ofString "_npassedout" = sg0 150 ∧ Str.ofString "_nfinished" = sg0 151 ∧ Str.ofString "graph" = sg0 152 ∧ Str.ofString "predecessors" = sg0 153 ∧ Str.ofString "_NodeInfo" = sg0 154 ∧ Str.ofString "nodeinfo" = sg0 155 ∧ Str.ofString "_get_nodeinfo" = sg0 156 ∧ Str.ofString "pred" = sg0 157 ∧ Str.ofString "pred_info" = sg0 158 ∧ Str.ofString "values" = sg0 159 ∧ Str.ofString "cycle" = sg0 160 ∧ Str.ofString "_find_cycle" = sg0 161 ∧ Str.ofString "CycleError" = sg0 162 ∧ Str.ofString "n2i" = sg0 163 ∧ Str.ofString "_NODE_OUT" = sg0 164 ∧ Str.ofString "clear" = sg0 165 ∧ Str.ofString "bool" = sg0 166 ∧ Str.ofString "is_active" = sg0 167 ∧ Str.ofString "nodes" = sg0 168 ∧ Str.ofString "stat" = sg0 169 ∧ Str.ofString "_NODE_DONE" = sg0 170 ∧ Str.ofString "successor" = sg0 171 ∧ Str.ofString "successor_info" = sg0 172 ∧ Str.ofString "stack" = sg0 173 ∧ Str.ofString "itstack" = sg0 174 ∧ Str.ofString "seen" = sg0 175 ∧ Str.ofString "node2stacki" = sg0 176 ∧ Str.ofString "__next__" = sg0 177 ∧ Str.ofString "StopIteration" = sg0 178 ∧ Str.ofString "iter" = sg0 179 ∧ Str.ofString "str" = sg0 180 ∧ Str.ofString "texts" = sg0 181 ∧ Str.ofString "_law_text" = sg0 182 ∧ Str.ofString "codes" = sg0 183 ∧ Str.ofString "rows" = sg0 184 ∧ Str.ofString "start" = sg0 185 ∧ Str.ofString "at" = sg0 186 ∧ Str.ofString "order" = sg0 187 ∧ Str.ofString "extend" = sg0 188 ∧ Str.ofString "Differ" = sg0 189 ∧ Str.ofString "restore" = sg0 190 ∧ Str.ofString "left" = sg0 191 ∧ Str.ofString "get_ready" = sg0 192 ∧ Str.ofString "done" = sg0 193 ∧ Str.ofString "sorter" = sg0 194 ∧ Str.ofString "TopologicalSorter" = sg0 195 ∧ Str.ofString "side" = sg0 196 ∧ Str.ofString "sides" = sg0 197 ∧ Str.ofString "prepare" = sg0 198 ∧ Str.ofString "out" = sg0 199 ∧ Str.ofString "fault" = sg0 200 ∧ Str.ofString "active" = sg0 201 ∧ Str.ofString "more" = sg0 202 ∧ Str.ofString "remove" = sg0 203 ∧ Str.ofString "sorted" = sg0 204 ∧ Str.ofString "words" = sg0 205 ∧ Str.ofString "_law_finished" = sg0 206 ∧ Str.ofString "script" = sg0 207 ∧ Str.ofString "count" = sg0 208 ∧ Str.ofString "other" = sg0 209 ∧ Str.ofString "told" = sg0 210 ∧ Str.ofString "_law_told" = sg0 211 ∧ Str.ofString "moved" = sg0 212 ∧ Str.ofString "rising" = sg0 213 ∧ Str.ofString "insert" = sg0 214 ∧ Str.ofString "_law_worked" = sg0 215:=⟨rfl, rfl, rfl, rfl, rfl, rfl, rfl, rfl, rfl, rfl, rfl, rfl, rfl, rfl, rfl, rfl, rfl, rfl, rfl, rfl, rfl, rfl, rfl, rfl, rfl, rfl, rfl, rfl, rfl, rfl, rfl, rfl, rfl, rfl, rfl, rfl, rfl, rfl, rfl, rfl, rfl, rfl, rfl, rfl, rfl, rfl, rfl, rfl, rfl, rfl, rfl, rfl, rfl, rfl, rfl, rfl, rfl, rfl, rfl, rfl, rfl, rfl, rfl, rfl, rfl, rfl, rfl, rfl, rfl, rfl, rfl, rfl, rfl, rfl, rfl, rfl, rfl, rfl, rfl, rfl, rfl, rfl, rfl, rfl, rfl, rfl, rfl, rfl, rfl, rfl, rfl, rfl, rfl, rfl, rfl, rfl, rfl, rfl, rfl, rfl, rfl, rfl, rfl, rfl, rfl, rfl, rfl, rfl, rfl, rfl, rfl, rfl, rfl, rfl, rfl, rfl, rfl, rfl, rfl, rfl, rfl, rfl, rfl, rfl, rfl, rfl, rfl, rfl, rfl, rfl, rfl, rfl, rfl, rfl, rfl, rfl, rfl, rfl, rfl, rfl, rfl, rfl, rfl, rfl, rfl, rfl, rfl, rfl, rfl, rfl, rfl, rfl, rfl, rfl, rfl, rfl, rfl, rfl, rfl, rfl, rfl, rfl, rfl, rfl, rfl, rfl, rfl, rfl, rfl, rfl, rfl, rfl, rfl, rfl, rfl, rfl, rfl, rfl, rfl, rfl, rfl, rfl, rfl, rfl, rfl, rfl, rfl, rfl, rfl, rfl, rfl, rfl, rfl, rfl, rfl, rfl, rfl, rfl, rfl, rfl, rfl, rfl, rfl, rfl, rfl, rfl, rfl, rfl, rfl, rfl, rfl, rfl, rfl, rfl, rfl, rfl⟩
noncomputable def tx0h:Stmt:=by
  refine' (?f:∀ s:Stmt, setKids [] (qT 0) = s→Stmt) _ ?h
  case f=>exact fun s _=>s
  case h=>conv=>lhs; whnf
noncomputable def tx0b (sg:Nat→Str):List Stmt:=by
  refine' (?f:∀ s:(Nat→Str)→List Stmt, bodyOf (qT 0) = s sg0→List Stmt) _ ?h
  case f=>exact fun s _=>s sg
  case h=>(have h:=Eq.refl (bodyOf (qT 0)); (conv at h=>(rhs; whnf)); (have n9:=nms; try simp only [n9] at h); generalize sg0 = sv at h ⊢; exact h)
noncomputable def tx0 (sg:Nat→Str):Stmt:=setKids (tx0b sg) tx0h
noncomputable def tx1:Stmt:=by
  refine' (?f:∀ s:Stmt, qT 1 = s→Stmt) _ ?h
  case f=>exact fun s _=>s
  case h=>conv=>lhs; whnf
noncomputable def ty2x0:Stmt:=by
  refine' (?f:∀ s:Stmt, qS 2 0 = s→Stmt) _ ?h
  case f=>exact fun s _=>s
  case h=>conv=>lhs; whnf
noncomputable def ty2x1:Stmt:=by
  refine' (?f:∀ s:Stmt, qS 2 1 = s→Stmt) _ ?h
  case f=>exact fun s _=>s
  case h=>conv=>lhs; whnf
noncomputable def ty2x2:Stmt:=by
  refine' (?f:∀ s:Stmt, qS 2 2 = s→Stmt) _ ?h
  case f=>exact fun s _=>s
  case h=>conv=>lhs; whnf
noncomputable def ty2x3:Stmt:=by
  refine' (?f:∀ s:Stmt, qS 2 3 = s→Stmt) _ ?h
  case f=>exact fun s _=>s
  case h=>conv=>lhs; whnf
noncomputable def tx2h:Stmt:=by
  refine' (?f:∀ s:Stmt, setKids [] (qT 2) = s→Stmt) _ ?h
  case f=>exact fun s _=>s
  case h=>conv=>lhs; whnf
noncomputable def tx2 (sg:Nat→Str):Stmt:=setKids [ty2x0, ty2x1, ty2x2, ty2x3] tx2h
noncomputable def ty3x0:Stmt:=by
  refine' (?f:∀ s:Stmt, qS 3 0 = s→Stmt) _ ?h
  case f=>exact fun s _=>s
  case h=>conv=>lhs; whnf
noncomputable def ty3x1:Stmt:=by
  refine' (?f:∀ s:Stmt, qS 3 1 = s→Stmt) _ ?h
  case f=>exact fun s _=>s
  case h=>conv=>lhs; whnf
noncomputable def ty3x2:Stmt:=by
  refine' (?f:∀ s:Stmt, qS 3 2 = s→Stmt) _ ?h
  case f=>exact fun s _=>s
  case h=>conv=>lhs; whnf
noncomputable def ty3x3:Stmt:=by
  refine' (?f:∀ s:Stmt, qS 3 3 = s→Stmt) _ ?h
  case f=>exact fun s _=>s
  case h=>conv=>lhs; whnf
noncomputable def ty3x4h:Stmt:=by
  refine' (?f:∀ s:Stmt, setKids [] (qS 3 4) = s→Stmt) _ ?h
  case f=>exact fun s _=>s
  case h=>conv=>lhs; whnf
noncomputable def ty3x4d:Stmt:=by
  refine' (?f:∀ s:Stmt, setDoc Str.empty (stAt (bodyOf (qS 3 4)) 0) = s→Stmt) _ ?h
  case f=>exact fun s _=>s
  case h=>conv=>lhs; whnf
noncomputable def ty3x4b (sg:Nat→Str):List Stmt:=by
  refine' (?f:∀ s:(Nat→Str)→List Stmt, (bodyOf (qS 3 4)).tail = s sg0→List Stmt) _ ?h
  case f=>exact fun s _=>s sg
  case h=>(have h:=Eq.refl ((bodyOf (qS 3 4)).tail); (conv at h=>(rhs; whnf)); (have n9:=nms; try simp only [n9] at h); generalize sg0 = sv at h ⊢; exact h)
noncomputable def ty3x4 (sg:Nat→Str):Stmt:=setKids (setDoc (sg 216) ty3x4d :: ty3x4b sg) ty3x4h
noncomputable def ty3x5h:Stmt:=by
  refine' (?f:∀ s:Stmt, setKids [] (qS 3 5) = s→Stmt) _ ?h
  case f=>exact fun s _=>s
  case h=>conv=>lhs; whnf
noncomputable def ty3x5d:Stmt:=by
  refine' (?f:∀ s:Stmt, setDoc Str.empty (stAt (bodyOf (qS 3 5)) 0) = s→Stmt) _ ?h
  case f=>exact fun s _=>s
  case h=>conv=>lhs; whnf
noncomputable def ty3x5b (sg:Nat→Str):List Stmt:=by
  refine' (?f:∀ s:(Nat→Str)→List Stmt, (bodyOf (qS 3 5)).tail = s sg0→List Stmt) _ ?h
  case f=>exact fun s _=>s sg
  case h=>(have h:=Eq.refl ((bodyOf (qS 3 5)).tail); (conv at h=>(rhs; whnf)); (have n9:=nms; try simp only [n9] at h); generalize sg0 = sv at h ⊢; exact h)
noncomputable def ty3x5 (sg:Nat→Str):Stmt:=setKids (setDoc (sg 217) ty3x5d :: ty3x5b sg) ty3x5h
noncomputable def ty3x6h:Stmt:=by
  refine' (?f:∀ s:Stmt, setKids [] (qS 3 6) = s→Stmt) _ ?h
  case f=>exact fun s _=>s
  case h=>conv=>lhs; whnf
noncomputable def ty3x6d:Stmt:=by
  refine' (?f:∀ s:Stmt, setDoc Str.empty (stAt (bodyOf (qS 3 6)) 0) = s→Stmt) _ ?h
  case f=>exact fun s _=>s
  case h=>conv=>lhs; whnf
noncomputable def ty3x6b (sg:Nat→Str):List Stmt:=by
  refine' (?f:∀ s:(Nat→Str)→List Stmt, (bodyOf (qS 3 6)).tail = s sg0→List Stmt) _ ?h
  case f=>exact fun s _=>s sg
  case h=>(have h:=Eq.refl ((bodyOf (qS 3 6)).tail); (conv at h=>(rhs; whnf)); (have n9:=nms; try simp only [n9] at h); generalize sg0 = sv at h ⊢; exact h)
noncomputable def ty3x6 (sg:Nat→Str):Stmt:=setKids (setDoc (sg 218) ty3x6d :: ty3x6b sg) ty3x6h
noncomputable def ty3x7:Stmt:=by
  refine' (?f:∀ s:Stmt, qS 3 7 = s→Stmt) _ ?h
  case f=>exact fun s _=>s
  case h=>conv=>lhs; whnf
noncomputable def ty3x8h:Stmt:=by
  refine' (?f:∀ s:Stmt, setKids [] (qS 3 8) = s→Stmt) _ ?h
  case f=>exact fun s _=>s
  case h=>conv=>lhs; whnf
noncomputable def ty3x8d:Stmt:=by
  refine' (?f:∀ s:Stmt, setDoc Str.empty (stAt (bodyOf (qS 3 8)) 0) = s→Stmt) _ ?h
  case f=>exact fun s _=>s
  case h=>conv=>lhs; whnf
noncomputable def ty3x8b (sg:Nat→Str):List Stmt:=by
  refine' (?f:∀ s:(Nat→Str)→List Stmt, (bodyOf (qS 3 8)).tail = s sg0→List Stmt) _ ?h
  case f=>exact fun s _=>s sg
  case h=>(have h:=Eq.refl ((bodyOf (qS 3 8)).tail); (conv at h=>(rhs; whnf)); (have n9:=nms; try simp only [n9] at h); generalize sg0 = sv at h ⊢; exact h)
noncomputable def ty3x8 (sg:Nat→Str):Stmt:=setKids (setDoc (sg 219) ty3x8d :: ty3x8b sg) ty3x8h
noncomputable def ty3x9h:Stmt:=by
  refine' (?f:∀ s:Stmt, setKids [] (qS 3 9) = s→Stmt) _ ?h
  case f=>exact fun s _=>s
  case h=>conv=>lhs; whnf
noncomputable def ty3x9b (sg:Nat→Str):List Stmt:=by
  refine' (?f:∀ s:(Nat→Str)→List Stmt, bodyOf (qS 3 9) = s sg0→List Stmt) _ ?h
  case f=>exact fun s _=>s sg
  case h=>(have h:=Eq.refl (bodyOf (qS 3 9)); (conv at h=>(rhs; whnf)); (have n9:=nms; try simp only [n9] at h); generalize sg0 = sv at h ⊢; exact h)
noncomputable def ty3x9 (sg:Nat→Str):Stmt:=setKids (ty3x9b sg) ty3x9h
noncomputable def ty3x10h:Stmt:=by
  refine' (?f:∀ s:Stmt, setKids [] (qS 3 10) = s→Stmt) _ ?h
  case f=>exact fun s _=>s
  case h=>conv=>lhs; whnf
noncomputable def ty3x10d:Stmt:=by
  refine' (?f:∀ s:Stmt, setDoc Str.empty (stAt (bodyOf (qS 3 10)) 0) = s→Stmt) _ ?h
  case f=>exact fun s _=>s
  case h=>conv=>lhs; whnf
noncomputable def ty3x10b (sg:Nat→Str):List Stmt:=by
  refine' (?f:∀ s:(Nat→Str)→List Stmt, (bodyOf (qS 3 10)).tail = s sg0→List Stmt) _ ?h
  case f=>exact fun s _=>s sg
  case h=>(have h:=Eq.refl ((bodyOf (qS 3 10)).tail); (conv at h=>(rhs; whnf)); (have n9:=nms; try simp only [n9] at h); generalize sg0 = sv at h ⊢; exact h)
noncomputable def ty3x10 (sg:Nat→Str):Stmt:=setKids (setDoc (sg 220) ty3x10d :: ty3x10b sg) ty3x10h
noncomputable def ty3x11:Stmt:=by
  refine' (?f:∀ s:Stmt, qS 3 11 = s→Stmt) _ ?h
  case f=>exact fun s _=>s
  case h=>conv=>lhs; whnf
noncomputable def ty3x12:Stmt:=by
  refine' (?f:∀ s:Stmt, qS 3 12 = s→Stmt) _ ?h
  case f=>exact fun s _=>s
  case h=>conv=>lhs; whnf
noncomputable def ty3x13:Stmt:=by
  refine' (?f:∀ s:Stmt, qS 3 13 = s→Stmt) _ ?h
  case f=>exact fun s _=>s
  case h=>conv=>lhs; whnf
noncomputable def ty3x14:Stmt:=by
  refine' (?f:∀ s:Stmt, qS 3 14 = s→Stmt) _ ?h
  case f=>exact fun s _=>s
  case h=>conv=>lhs; whnf
noncomputable def tx3h:Stmt:=by
  refine' (?f:∀ s:Stmt, setKids [] (qT 3) = s→Stmt) _ ?h
  case f=>exact fun s _=>s
  case h=>conv=>lhs; whnf
noncomputable def tx3 (sg:Nat→Str):Stmt:=setKids [ty3x0, ty3x1, ty3x2, ty3x3, ty3x4 sg, ty3x5 sg, ty3x6 sg, ty3x7, ty3x8 sg, ty3x9 sg, ty3x10 sg, ty3x11, ty3x12, ty3x13, ty3x14] tx3h
noncomputable def tx4h:Stmt:=by
  refine' (?f:∀ s:Stmt, setKids [] (qT 4) = s→Stmt) _ ?h
  case f=>exact fun s _=>s
  case h=>conv=>lhs; whnf
noncomputable def tx4b (sg:Nat→Str):List Stmt:=by
  refine' (?f:∀ s:(Nat→Str)→List Stmt, bodyOf (qT 4) = s sg0→List Stmt) _ ?h
  case f=>exact fun s _=>s sg
  case h=>(have h:=Eq.refl (bodyOf (qT 4)); (conv at h=>(rhs; whnf)); (have n9:=nms; try simp only [n9] at h); generalize sg0 = sv at h ⊢; exact h)
noncomputable def tx4 (sg:Nat→Str):Stmt:=setKids (tx4b sg) tx4h
noncomputable def ty5x0:Stmt:=by
  refine' (?f:∀ s:Stmt, setDoc Str.empty (qS 5 0) = s→Stmt) _ ?h
  case f=>exact fun s _=>s
  case h=>conv=>lhs; whnf
noncomputable def ty5x1h:Stmt:=by
  refine' (?f:∀ s:Stmt, setKS [] [] [] (qS 5 1) = s→Stmt) _ ?h
  case f=>exact fun s _=>s
  case h=>conv=>lhs; whnf
noncomputable def ty5x1d:Stmt:=by
  refine' (?f:∀ s:Stmt, setDoc Str.empty (stAt (bodyOf (qS 5 1)) 0) = s→Stmt) _ ?h
  case f=>exact fun s _=>s
  case h=>conv=>lhs; whnf
noncomputable def ty5x1b (sg:Nat→Str):List Stmt:=by
  refine' (?f:∀ s:(Nat→Str)→List Stmt, (bodyOf (qS 5 1)).tail = s sg0→List Stmt) _ ?h
  case f=>exact fun s _=>s sg
  case h=>(have h:=Eq.refl ((bodyOf (qS 5 1)).tail); (conv at h=>(rhs; whnf)); (have n9:=nms; try simp only [n9] at h); generalize sg0 = sv at h ⊢; exact h)
noncomputable def ty5x1n (sg:Nat→Str):List (Str × NameKind):=by
  refine' (?f:∀ s:(Nat→Str)→List (Str × NameKind), (scopeOf (qS 5 1)).names = s sg0→List (Str × NameKind)) _ ?h
  case f=>exact fun s _=>s sg
  case h=>(have h:=Eq.refl (scopeOf (qS 5 1)).names; (conv at h=>(rhs; whnf)); (have n9:=nms; try simp only [n9] at h); generalize sg0 = sv at h ⊢; exact h)
noncomputable def ty5x1m (sg:Nat→Str):List (Str × Const):=by
  refine' (?f:∀ s:(Nat→Str)→List (Str × Const), (scopeOf (qS 5 1)).more = s sg0→List (Str × Const)) _ ?h
  case f=>exact fun s _=>s sg
  case h=>(have h:=Eq.refl (scopeOf (qS 5 1)).more; (conv at h=>(rhs; whnf)); (have n9:=nms; try simp only [n9] at h); generalize sg0 = sv at h ⊢; exact h)
noncomputable def ty5x1 (sg:Nat→Str):Stmt:=setKS (setDoc (sg 221) ty5x1d :: ty5x1b sg) (ty5x1n sg) (ty5x1m sg) ty5x1h
noncomputable def ty5x2h:Stmt:=by
  refine' (?f:∀ s:Stmt, setKids [] (qS 5 2) = s→Stmt) _ ?h
  case f=>exact fun s _=>s
  case h=>conv=>lhs; whnf
noncomputable def ty5x2d:Stmt:=by
  refine' (?f:∀ s:Stmt, setDoc Str.empty (stAt (bodyOf (qS 5 2)) 0) = s→Stmt) _ ?h
  case f=>exact fun s _=>s
  case h=>conv=>lhs; whnf
noncomputable def ty5x2b (sg:Nat→Str):List Stmt:=by
  refine' (?f:∀ s:(Nat→Str)→List Stmt, (bodyOf (qS 5 2)).tail = s sg0→List Stmt) _ ?h
  case f=>exact fun s _=>s sg
  case h=>(have h:=Eq.refl ((bodyOf (qS 5 2)).tail); (conv at h=>(rhs; whnf)); (have n9:=nms; try simp only [n9] at h); generalize sg0 = sv at h ⊢; exact h)
noncomputable def ty5x2 (sg:Nat→Str):Stmt:=setKids (setDoc (sg 222) ty5x2d :: ty5x2b sg) ty5x2h
noncomputable def ty5x3h:Stmt:=by
  refine' (?f:∀ s:Stmt, setKids [] (qS 5 3) = s→Stmt) _ ?h
  case f=>exact fun s _=>s
  case h=>conv=>lhs; whnf
noncomputable def ty5x3d:Stmt:=by
  refine' (?f:∀ s:Stmt, setDoc Str.empty (stAt (bodyOf (qS 5 3)) 0) = s→Stmt) _ ?h
  case f=>exact fun s _=>s
  case h=>conv=>lhs; whnf
noncomputable def ty5x3b (sg:Nat→Str):List Stmt:=by
  refine' (?f:∀ s:(Nat→Str)→List Stmt, (bodyOf (qS 5 3)).tail = s sg0→List Stmt) _ ?h
  case f=>exact fun s _=>s sg
  case h=>(have h:=Eq.refl ((bodyOf (qS 5 3)).tail); (conv at h=>(rhs; whnf)); (have n9:=nms; try simp only [n9] at h); generalize sg0 = sv at h ⊢; exact h)
noncomputable def ty5x3 (sg:Nat→Str):Stmt:=setKids (setDoc (sg 223) ty5x3d :: ty5x3b sg) ty5x3h
noncomputable def ty5x4h:Stmt:=by
  refine' (?f:∀ s:Stmt, setKids [] (qS 5 4) = s→Stmt) _ ?h
  case f=>exact fun s _=>s
  case h=>conv=>lhs; whnf
noncomputable def ty5x4d:Stmt:=by
  refine' (?f:∀ s:Stmt, setDoc Str.empty (stAt (bodyOf (qS 5 4)) 0) = s→Stmt) _ ?h
  case f=>exact fun s _=>s
  case h=>conv=>lhs; whnf
noncomputable def ty5x4b (sg:Nat→Str):List Stmt:=by
  refine' (?f:∀ s:(Nat→Str)→List Stmt, (bodyOf (qS 5 4)).tail = s sg0→List Stmt) _ ?h
  case f=>exact fun s _=>s sg
  case h=>(have h:=Eq.refl ((bodyOf (qS 5 4)).tail); (conv at h=>(rhs; whnf)); (have n9:=nms; try simp only [n9] at h); generalize sg0 = sv at h ⊢; exact h)
noncomputable def ty5x4 (sg:Nat→Str):Stmt:=setKids (setDoc (sg 224) ty5x4d :: ty5x4b sg) ty5x4h
noncomputable def ty5x5h:Stmt:=by
  refine' (?f:∀ s:Stmt, setKS [] [] [] (qS 5 5) = s→Stmt) _ ?h
  case f=>exact fun s _=>s
  case h=>conv=>lhs; whnf
noncomputable def ty5x5b (sg:Nat→Str):List Stmt:=by
  refine' (?f:∀ s:(Nat→Str)→List Stmt, bodyOf (qS 5 5) = s sg0→List Stmt) _ ?h
  case f=>exact fun s _=>s sg
  case h=>(have h:=Eq.refl (bodyOf (qS 5 5)); (conv at h=>(rhs; whnf)); (have n9:=nms; try simp only [n9] at h); generalize sg0 = sv at h ⊢; exact h)
noncomputable def ty5x5n (sg:Nat→Str):List (Str × NameKind):=by
  refine' (?f:∀ s:(Nat→Str)→List (Str × NameKind), (scopeOf (qS 5 5)).names = s sg0→List (Str × NameKind)) _ ?h
  case f=>exact fun s _=>s sg
  case h=>(have h:=Eq.refl (scopeOf (qS 5 5)).names; (conv at h=>(rhs; whnf)); (have n9:=nms; try simp only [n9] at h); generalize sg0 = sv at h ⊢; exact h)
noncomputable def ty5x5m (sg:Nat→Str):List (Str × Const):=by
  refine' (?f:∀ s:(Nat→Str)→List (Str × Const), (scopeOf (qS 5 5)).more = s sg0→List (Str × Const)) _ ?h
  case f=>exact fun s _=>s sg
  case h=>(have h:=Eq.refl (scopeOf (qS 5 5)).more; (conv at h=>(rhs; whnf)); (have n9:=nms; try simp only [n9] at h); generalize sg0 = sv at h ⊢; exact h)
noncomputable def ty5x5 (sg:Nat→Str):Stmt:=setKS (ty5x5b sg) (ty5x5n sg) (ty5x5m sg) ty5x5h
noncomputable def ty5x6h:Stmt:=by
  refine' (?f:∀ s:Stmt, setKS [] [] [] (qS 5 6) = s→Stmt) _ ?h
  case f=>exact fun s _=>s
  case h=>conv=>lhs; whnf
noncomputable def ty5x6d:Stmt:=by
  refine' (?f:∀ s:Stmt, setDoc Str.empty (stAt (bodyOf (qS 5 6)) 0) = s→Stmt) _ ?h
  case f=>exact fun s _=>s
  case h=>conv=>lhs; whnf
noncomputable def ty5x6b (sg:Nat→Str):List Stmt:=by
  refine' (?f:∀ s:(Nat→Str)→List Stmt, (bodyOf (qS 5 6)).tail = s sg0→List Stmt) _ ?h
  case f=>exact fun s _=>s sg
  case h=>(have h:=Eq.refl ((bodyOf (qS 5 6)).tail); (conv at h=>(rhs; whnf)); (have n9:=nms; try simp only [n9] at h); generalize sg0 = sv at h ⊢; exact h)
noncomputable def ty5x6n (sg:Nat→Str):List (Str × NameKind):=by
  refine' (?f:∀ s:(Nat→Str)→List (Str × NameKind), (scopeOf (qS 5 6)).names = s sg0→List (Str × NameKind)) _ ?h
  case f=>exact fun s _=>s sg
  case h=>(have h:=Eq.refl (scopeOf (qS 5 6)).names; (conv at h=>(rhs; whnf)); (have n9:=nms; try simp only [n9] at h); generalize sg0 = sv at h ⊢; exact h)
noncomputable def ty5x6m (sg:Nat→Str):List (Str × Const):=by
  refine' (?f:∀ s:(Nat→Str)→List (Str × Const), (scopeOf (qS 5 6)).more = s sg0→List (Str × Const)) _ ?h
  case f=>exact fun s _=>s sg
  case h=>(have h:=Eq.refl (scopeOf (qS 5 6)).more; (conv at h=>(rhs; whnf)); (have n9:=nms; try simp only [n9] at h); generalize sg0 = sv at h ⊢; exact h)
noncomputable def ty5x6 (sg:Nat→Str):Stmt:=setKS (setDoc (sg 225) ty5x6d :: ty5x6b sg) (ty5x6n sg) (ty5x6m sg) ty5x6h
noncomputable def ty5x7h:Stmt:=by
  refine' (?f:∀ s:Stmt, setKS [] [] [] (qS 5 7) = s→Stmt) _ ?h
  case f=>exact fun s _=>s
  case h=>conv=>lhs; whnf
noncomputable def ty5x7d:Stmt:=by
  refine' (?f:∀ s:Stmt, setDoc Str.empty (stAt (bodyOf (qS 5 7)) 0) = s→Stmt) _ ?h
  case f=>exact fun s _=>s
  case h=>conv=>lhs; whnf
noncomputable def ty5x7b (sg:Nat→Str):List Stmt:=by
  refine' (?f:∀ s:(Nat→Str)→List Stmt, (bodyOf (qS 5 7)).tail = s sg0→List Stmt) _ ?h
  case f=>exact fun s _=>s sg
  case h=>(have h:=Eq.refl ((bodyOf (qS 5 7)).tail); (conv at h=>(rhs; whnf)); (have n9:=nms; try simp only [n9] at h); generalize sg0 = sv at h ⊢; exact h)
noncomputable def ty5x7n (sg:Nat→Str):List (Str × NameKind):=by
  refine' (?f:∀ s:(Nat→Str)→List (Str × NameKind), (scopeOf (qS 5 7)).names = s sg0→List (Str × NameKind)) _ ?h
  case f=>exact fun s _=>s sg
  case h=>(have h:=Eq.refl (scopeOf (qS 5 7)).names; (conv at h=>(rhs; whnf)); (have n9:=nms; try simp only [n9] at h); generalize sg0 = sv at h ⊢; exact h)
noncomputable def ty5x7m (sg:Nat→Str):List (Str × Const):=by
  refine' (?f:∀ s:(Nat→Str)→List (Str × Const), (scopeOf (qS 5 7)).more = s sg0→List (Str × Const)) _ ?h
  case f=>exact fun s _=>s sg
  case h=>(have h:=Eq.refl (scopeOf (qS 5 7)).more; (conv at h=>(rhs; whnf)); (have n9:=nms; try simp only [n9] at h); generalize sg0 = sv at h ⊢; exact h)
noncomputable def ty5x7 (sg:Nat→Str):Stmt:=setKS (setDoc (sg 226) ty5x7d :: ty5x7b sg) (ty5x7n sg) (ty5x7m sg) ty5x7h
noncomputable def ty5x8h:Stmt:=by
  refine' (?f:∀ s:Stmt, setKS [] [] [] (qS 5 8) = s→Stmt) _ ?h
  case f=>exact fun s _=>s
  case h=>conv=>lhs; whnf
noncomputable def ty5x8d:Stmt:=by
  refine' (?f:∀ s:Stmt, setDoc Str.empty (stAt (bodyOf (qS 5 8)) 0) = s→Stmt) _ ?h
  case f=>exact fun s _=>s
  case h=>conv=>lhs; whnf
noncomputable def ty5x8b (sg:Nat→Str):List Stmt:=by
  refine' (?f:∀ s:(Nat→Str)→List Stmt, (bodyOf (qS 5 8)).tail = s sg0→List Stmt) _ ?h
  case f=>exact fun s _=>s sg
  case h=>(have h:=Eq.refl ((bodyOf (qS 5 8)).tail); (conv at h=>(rhs; whnf)); (have n9:=nms; try simp only [n9] at h); generalize sg0 = sv at h ⊢; exact h)
noncomputable def ty5x8n (sg:Nat→Str):List (Str × NameKind):=by
  refine' (?f:∀ s:(Nat→Str)→List (Str × NameKind), (scopeOf (qS 5 8)).names = s sg0→List (Str × NameKind)) _ ?h
  case f=>exact fun s _=>s sg
  case h=>(have h:=Eq.refl (scopeOf (qS 5 8)).names; (conv at h=>(rhs; whnf)); (have n9:=nms; try simp only [n9] at h); generalize sg0 = sv at h ⊢; exact h)
noncomputable def ty5x8m (sg:Nat→Str):List (Str × Const):=by
  refine' (?f:∀ s:(Nat→Str)→List (Str × Const), (scopeOf (qS 5 8)).more = s sg0→List (Str × Const)) _ ?h
  case f=>exact fun s _=>s sg
  case h=>(have h:=Eq.refl (scopeOf (qS 5 8)).more; (conv at h=>(rhs; whnf)); (have n9:=nms; try simp only [n9] at h); generalize sg0 = sv at h ⊢; exact h)
noncomputable def ty5x8 (sg:Nat→Str):Stmt:=setKS (setDoc (sg 227) ty5x8d :: ty5x8b sg) (ty5x8n sg) (ty5x8m sg) ty5x8h
noncomputable def ty5x9h:Stmt:=by
  refine' (?f:∀ s:Stmt, setKids [] (qS 5 9) = s→Stmt) _ ?h
  case f=>exact fun s _=>s
  case h=>conv=>lhs; whnf
noncomputable def ty5x9b (sg:Nat→Str):List Stmt:=by
  refine' (?f:∀ s:(Nat→Str)→List Stmt, bodyOf (qS 5 9) = s sg0→List Stmt) _ ?h
  case f=>exact fun s _=>s sg
  case h=>(have h:=Eq.refl (bodyOf (qS 5 9)); (conv at h=>(rhs; whnf)); (have n9:=nms; try simp only [n9] at h); generalize sg0 = sv at h ⊢; exact h)
noncomputable def ty5x9 (sg:Nat→Str):Stmt:=setKids (ty5x9b sg) ty5x9h
noncomputable def ty5x10h:Stmt:=by
  refine' (?f:∀ s:Stmt, setKids [] (qS 5 10) = s→Stmt) _ ?h
  case f=>exact fun s _=>s
  case h=>conv=>lhs; whnf
noncomputable def ty5x10d:Stmt:=by
  refine' (?f:∀ s:Stmt, setDoc Str.empty (stAt (bodyOf (qS 5 10)) 0) = s→Stmt) _ ?h
  case f=>exact fun s _=>s
  case h=>conv=>lhs; whnf
noncomputable def ty5x10b (sg:Nat→Str):List Stmt:=by
  refine' (?f:∀ s:(Nat→Str)→List Stmt, (bodyOf (qS 5 10)).tail = s sg0→List Stmt) _ ?h
  case f=>exact fun s _=>s sg
  case h=>(have h:=Eq.refl ((bodyOf (qS 5 10)).tail); (conv at h=>(rhs; whnf)); (have n9:=nms; try simp only [n9] at h); generalize sg0 = sv at h ⊢; exact h)
noncomputable def ty5x10 (sg:Nat→Str):Stmt:=setKids (setDoc (sg 228) ty5x10d :: ty5x10b sg) ty5x10h
noncomputable def ty5x11h:Stmt:=by
  refine' (?f:∀ s:Stmt, setKS [] [] [] (qS 5 11) = s→Stmt) _ ?h
  case f=>exact fun s _=>s
  case h=>conv=>lhs; whnf
noncomputable def ty5x11d:Stmt:=by
  refine' (?f:∀ s:Stmt, setDoc Str.empty (stAt (bodyOf (qS 5 11)) 0) = s→Stmt) _ ?h
  case f=>exact fun s _=>s
  case h=>conv=>lhs; whnf
noncomputable def ty5x11b (sg:Nat→Str):List Stmt:=by
  refine' (?f:∀ s:(Nat→Str)→List Stmt, (bodyOf (qS 5 11)).tail = s sg0→List Stmt) _ ?h
  case f=>exact fun s _=>s sg
  case h=>(have h:=Eq.refl ((bodyOf (qS 5 11)).tail); (conv at h=>(rhs; whnf)); (have n9:=nms; try simp only [n9] at h); generalize sg0 = sv at h ⊢; exact h)
noncomputable def ty5x11n (sg:Nat→Str):List (Str × NameKind):=by
  refine' (?f:∀ s:(Nat→Str)→List (Str × NameKind), (scopeOf (qS 5 11)).names = s sg0→List (Str × NameKind)) _ ?h
  case f=>exact fun s _=>s sg
  case h=>(have h:=Eq.refl (scopeOf (qS 5 11)).names; (conv at h=>(rhs; whnf)); (have n9:=nms; try simp only [n9] at h); generalize sg0 = sv at h ⊢; exact h)
noncomputable def ty5x11m (sg:Nat→Str):List (Str × Const):=by
  refine' (?f:∀ s:(Nat→Str)→List (Str × Const), (scopeOf (qS 5 11)).more = s sg0→List (Str × Const)) _ ?h
  case f=>exact fun s _=>s sg
  case h=>(have h:=Eq.refl (scopeOf (qS 5 11)).more; (conv at h=>(rhs; whnf)); (have n9:=nms; try simp only [n9] at h); generalize sg0 = sv at h ⊢; exact h)
noncomputable def ty5x11 (sg:Nat→Str):Stmt:=setKS (setDoc (sg 229) ty5x11d :: ty5x11b sg) (ty5x11n sg) (ty5x11m sg) ty5x11h
noncomputable def ty5x12h:Stmt:=by
  refine' (?f:∀ s:Stmt, setKids [] (qS 5 12) = s→Stmt) _ ?h
  case f=>exact fun s _=>s
  case h=>conv=>lhs; whnf
noncomputable def ty5x12d:Stmt:=by
  refine' (?f:∀ s:Stmt, setDoc Str.empty (stAt (bodyOf (qS 5 12)) 0) = s→Stmt) _ ?h
  case f=>exact fun s _=>s
  case h=>conv=>lhs; whnf
noncomputable def ty5x12b (sg:Nat→Str):List Stmt:=by
  refine' (?f:∀ s:(Nat→Str)→List Stmt, (bodyOf (qS 5 12)).tail = s sg0→List Stmt) _ ?h
  case f=>exact fun s _=>s sg
  case h=>(have h:=Eq.refl ((bodyOf (qS 5 12)).tail); (conv at h=>(rhs; whnf)); (have n9:=nms; try simp only [n9] at h); generalize sg0 = sv at h ⊢; exact h)
noncomputable def ty5x12 (sg:Nat→Str):Stmt:=setKids (setDoc (sg 230) ty5x12d :: ty5x12b sg) ty5x12h
noncomputable def tx5h:Stmt:=by
  refine' (?f:∀ s:Stmt, setKids [] (qT 5) = s→Stmt) _ ?h
  case f=>exact fun s _=>s
  case h=>conv=>lhs; whnf
noncomputable def tx5 (d:Str) (sg:Nat→Str):Stmt:=setKids [setDoc d ty5x0, ty5x1 sg, ty5x2 sg, ty5x3 sg, ty5x4 sg, ty5x5 sg, ty5x6 sg, ty5x7 sg, ty5x8 sg, ty5x9 sg, ty5x10 sg, ty5x11 sg, ty5x12 sg] tx5h
noncomputable def tx6h:Stmt:=by
  refine' (?f:∀ s:Stmt, setKids [] (qT 6) = s→Stmt) _ ?h
  case f=>exact fun s _=>s
  case h=>conv=>lhs; whnf
noncomputable def tx6d:Stmt:=by
  refine' (?f:∀ s:Stmt, setDoc Str.empty (qS 6 0) = s→Stmt) _ ?h
  case f=>exact fun s _=>s
  case h=>conv=>lhs; whnf
noncomputable def tx6b (sg:Nat→Str):List Stmt:=by
  refine' (?f:∀ s:(Nat→Str)→List Stmt, (bodyOf (qT 6)).tail = s sg0→List Stmt) _ ?h
  case f=>exact fun s _=>s sg
  case h=>(have h:=Eq.refl ((bodyOf (qT 6)).tail); (conv at h=>(rhs; whnf)); (have n9:=nms; try simp only [n9] at h); generalize sg0 = sv at h ⊢; exact h)
noncomputable def tx6 (sg:Nat→Str):Stmt:=setKids (setDoc (sg 231) tx6d :: tx6b sg) tx6h
noncomputable def ty7x0:Stmt:=by
  refine' (?f:∀ s:Stmt, setDoc Str.empty (qS 7 0) = s→Stmt) _ ?h
  case f=>exact fun s _=>s
  case h=>conv=>lhs; whnf
noncomputable def ty7x1h:Stmt:=by
  refine' (?f:∀ s:Stmt, setKids [] (qS 7 1) = s→Stmt) _ ?h
  case f=>exact fun s _=>s
  case h=>conv=>lhs; whnf
noncomputable def ty7x1d:Stmt:=by
  refine' (?f:∀ s:Stmt, setDoc Str.empty (stAt (bodyOf (qS 7 1)) 0) = s→Stmt) _ ?h
  case f=>exact fun s _=>s
  case h=>conv=>lhs; whnf
noncomputable def ty7x1b (sg:Nat→Str):List Stmt:=by
  refine' (?f:∀ s:(Nat→Str)→List Stmt, (bodyOf (qS 7 1)).tail = s sg0→List Stmt) _ ?h
  case f=>exact fun s _=>s sg
  case h=>(have h:=Eq.refl ((bodyOf (qS 7 1)).tail); (conv at h=>(rhs; whnf)); (have n9:=nms; try simp only [n9] at h); generalize sg0 = sv at h ⊢; exact h)
noncomputable def ty7x1 (sg:Nat→Str):Stmt:=setKids (setDoc (sg 232) ty7x1d :: ty7x1b sg) ty7x1h
noncomputable def ty7x2h:Stmt:=by
  refine' (?f:∀ s:Stmt, setKS [] [] [] (qS 7 2) = s→Stmt) _ ?h
  case f=>exact fun s _=>s
  case h=>conv=>lhs; whnf
noncomputable def ty7x2d:Stmt:=by
  refine' (?f:∀ s:Stmt, setDoc Str.empty (stAt (bodyOf (qS 7 2)) 0) = s→Stmt) _ ?h
  case f=>exact fun s _=>s
  case h=>conv=>lhs; whnf
noncomputable def ty7x2b (sg:Nat→Str):List Stmt:=by
  refine' (?f:∀ s:(Nat→Str)→List Stmt, (bodyOf (qS 7 2)).tail = s sg0→List Stmt) _ ?h
  case f=>exact fun s _=>s sg
  case h=>(have h:=Eq.refl ((bodyOf (qS 7 2)).tail); (conv at h=>(rhs; whnf)); (have n9:=nms; try simp only [n9] at h); generalize sg0 = sv at h ⊢; exact h)
noncomputable def ty7x2n (sg:Nat→Str):List (Str × NameKind):=by
  refine' (?f:∀ s:(Nat→Str)→List (Str × NameKind), (scopeOf (qS 7 2)).names = s sg0→List (Str × NameKind)) _ ?h
  case f=>exact fun s _=>s sg
  case h=>(have h:=Eq.refl (scopeOf (qS 7 2)).names; (conv at h=>(rhs; whnf)); (have n9:=nms; try simp only [n9] at h); generalize sg0 = sv at h ⊢; exact h)
noncomputable def ty7x2m (sg:Nat→Str):List (Str × Const):=by
  refine' (?f:∀ s:(Nat→Str)→List (Str × Const), (scopeOf (qS 7 2)).more = s sg0→List (Str × Const)) _ ?h
  case f=>exact fun s _=>s sg
  case h=>(have h:=Eq.refl (scopeOf (qS 7 2)).more; (conv at h=>(rhs; whnf)); (have n9:=nms; try simp only [n9] at h); generalize sg0 = sv at h ⊢; exact h)
noncomputable def ty7x2 (sg:Nat→Str):Stmt:=setKS (setDoc (sg 233) ty7x2d :: ty7x2b sg) (ty7x2n sg) (ty7x2m sg) ty7x2h
noncomputable def ty7x3h:Stmt:=by
  refine' (?f:∀ s:Stmt, setKS [] [] [] (qS 7 3) = s→Stmt) _ ?h
  case f=>exact fun s _=>s
  case h=>conv=>lhs; whnf
noncomputable def ty7x3d:Stmt:=by
  refine' (?f:∀ s:Stmt, setDoc Str.empty (stAt (bodyOf (qS 7 3)) 0) = s→Stmt) _ ?h
  case f=>exact fun s _=>s
  case h=>conv=>lhs; whnf
noncomputable def ty7x3b (sg:Nat→Str):List Stmt:=by
  refine' (?f:∀ s:(Nat→Str)→List Stmt, (bodyOf (qS 7 3)).tail = s sg0→List Stmt) _ ?h
  case f=>exact fun s _=>s sg
  case h=>(have h:=Eq.refl ((bodyOf (qS 7 3)).tail); (conv at h=>(rhs; whnf)); (have n9:=nms; try simp only [n9] at h); generalize sg0 = sv at h ⊢; exact h)
noncomputable def ty7x3n (sg:Nat→Str):List (Str × NameKind):=by
  refine' (?f:∀ s:(Nat→Str)→List (Str × NameKind), (scopeOf (qS 7 3)).names = s sg0→List (Str × NameKind)) _ ?h
  case f=>exact fun s _=>s sg
  case h=>(have h:=Eq.refl (scopeOf (qS 7 3)).names; (conv at h=>(rhs; whnf)); (have n9:=nms; try simp only [n9] at h); generalize sg0 = sv at h ⊢; exact h)
noncomputable def ty7x3m (sg:Nat→Str):List (Str × Const):=by
  refine' (?f:∀ s:(Nat→Str)→List (Str × Const), (scopeOf (qS 7 3)).more = s sg0→List (Str × Const)) _ ?h
  case f=>exact fun s _=>s sg
  case h=>(have h:=Eq.refl (scopeOf (qS 7 3)).more; (conv at h=>(rhs; whnf)); (have n9:=nms; try simp only [n9] at h); generalize sg0 = sv at h ⊢; exact h)
noncomputable def ty7x3 (sg:Nat→Str):Stmt:=setKS (setDoc (sg 234) ty7x3d :: ty7x3b sg) (ty7x3n sg) (ty7x3m sg) ty7x3h
noncomputable def ty7x4h:Stmt:=by
  refine' (?f:∀ s:Stmt, setKS [] [] [] (qS 7 4) = s→Stmt) _ ?h
  case f=>exact fun s _=>s
  case h=>conv=>lhs; whnf
noncomputable def ty7x4b (sg:Nat→Str):List Stmt:=by
  refine' (?f:∀ s:(Nat→Str)→List Stmt, bodyOf (qS 7 4) = s sg0→List Stmt) _ ?h
  case f=>exact fun s _=>s sg
  case h=>(have h:=Eq.refl (bodyOf (qS 7 4)); (conv at h=>(rhs; whnf)); (have n9:=nms; try simp only [n9] at h); generalize sg0 = sv at h ⊢; exact h)
noncomputable def ty7x4n (sg:Nat→Str):List (Str × NameKind):=by
  refine' (?f:∀ s:(Nat→Str)→List (Str × NameKind), (scopeOf (qS 7 4)).names = s sg0→List (Str × NameKind)) _ ?h
  case f=>exact fun s _=>s sg
  case h=>(have h:=Eq.refl (scopeOf (qS 7 4)).names; (conv at h=>(rhs; whnf)); (have n9:=nms; try simp only [n9] at h); generalize sg0 = sv at h ⊢; exact h)
noncomputable def ty7x4m (sg:Nat→Str):List (Str × Const):=by
  refine' (?f:∀ s:(Nat→Str)→List (Str × Const), (scopeOf (qS 7 4)).more = s sg0→List (Str × Const)) _ ?h
  case f=>exact fun s _=>s sg
  case h=>(have h:=Eq.refl (scopeOf (qS 7 4)).more; (conv at h=>(rhs; whnf)); (have n9:=nms; try simp only [n9] at h); generalize sg0 = sv at h ⊢; exact h)
noncomputable def ty7x4 (sg:Nat→Str):Stmt:=setKS (ty7x4b sg) (ty7x4n sg) (ty7x4m sg) ty7x4h
noncomputable def ty7x5h:Stmt:=by
  refine' (?f:∀ s:Stmt, setKS [] [] [] (qS 7 5) = s→Stmt) _ ?h
  case f=>exact fun s _=>s
  case h=>conv=>lhs; whnf
noncomputable def ty7x5d:Stmt:=by
  refine' (?f:∀ s:Stmt, setDoc Str.empty (stAt (bodyOf (qS 7 5)) 0) = s→Stmt) _ ?h
  case f=>exact fun s _=>s
  case h=>conv=>lhs; whnf
noncomputable def ty7x5b (sg:Nat→Str):List Stmt:=by
  refine' (?f:∀ s:(Nat→Str)→List Stmt, (bodyOf (qS 7 5)).tail = s sg0→List Stmt) _ ?h
  case f=>exact fun s _=>s sg
  case h=>(have h:=Eq.refl ((bodyOf (qS 7 5)).tail); (conv at h=>(rhs; whnf)); (have n9:=nms; try simp only [n9] at h); generalize sg0 = sv at h ⊢; exact h)
noncomputable def ty7x5n (sg:Nat→Str):List (Str × NameKind):=by
  refine' (?f:∀ s:(Nat→Str)→List (Str × NameKind), (scopeOf (qS 7 5)).names = s sg0→List (Str × NameKind)) _ ?h
  case f=>exact fun s _=>s sg
  case h=>(have h:=Eq.refl (scopeOf (qS 7 5)).names; (conv at h=>(rhs; whnf)); (have n9:=nms; try simp only [n9] at h); generalize sg0 = sv at h ⊢; exact h)
noncomputable def ty7x5m (sg:Nat→Str):List (Str × Const):=by
  refine' (?f:∀ s:(Nat→Str)→List (Str × Const), (scopeOf (qS 7 5)).more = s sg0→List (Str × Const)) _ ?h
  case f=>exact fun s _=>s sg
  case h=>(have h:=Eq.refl (scopeOf (qS 7 5)).more; (conv at h=>(rhs; whnf)); (have n9:=nms; try simp only [n9] at h); generalize sg0 = sv at h ⊢; exact h)
noncomputable def ty7x5 (sg:Nat→Str):Stmt:=setKS (setDoc (sg 235) ty7x5d :: ty7x5b sg) (ty7x5n sg) (ty7x5m sg) ty7x5h
noncomputable def ty7x6h:Stmt:=by
  refine' (?f:∀ s:Stmt, setKS [] [] [] (qS 7 6) = s→Stmt) _ ?h
  case f=>exact fun s _=>s
  case h=>conv=>lhs; whnf
noncomputable def ty7x6b (sg:Nat→Str):List Stmt:=by
  refine' (?f:∀ s:(Nat→Str)→List Stmt, bodyOf (qS 7 6) = s sg0→List Stmt) _ ?h
  case f=>exact fun s _=>s sg
  case h=>(have h:=Eq.refl (bodyOf (qS 7 6)); (conv at h=>(rhs; whnf)); (have n9:=nms; try simp only [n9] at h); generalize sg0 = sv at h ⊢; exact h)
noncomputable def ty7x6n (sg:Nat→Str):List (Str × NameKind):=by
  refine' (?f:∀ s:(Nat→Str)→List (Str × NameKind), (scopeOf (qS 7 6)).names = s sg0→List (Str × NameKind)) _ ?h
  case f=>exact fun s _=>s sg
  case h=>(have h:=Eq.refl (scopeOf (qS 7 6)).names; (conv at h=>(rhs; whnf)); (have n9:=nms; try simp only [n9] at h); generalize sg0 = sv at h ⊢; exact h)
noncomputable def ty7x6m (sg:Nat→Str):List (Str × Const):=by
  refine' (?f:∀ s:(Nat→Str)→List (Str × Const), (scopeOf (qS 7 6)).more = s sg0→List (Str × Const)) _ ?h
  case f=>exact fun s _=>s sg
  case h=>(have h:=Eq.refl (scopeOf (qS 7 6)).more; (conv at h=>(rhs; whnf)); (have n9:=nms; try simp only [n9] at h); generalize sg0 = sv at h ⊢; exact h)
noncomputable def ty7x6 (sg:Nat→Str):Stmt:=setKS (ty7x6b sg) (ty7x6n sg) (ty7x6m sg) ty7x6h
noncomputable def ty7x7h:Stmt:=by
  refine' (?f:∀ s:Stmt, setKS [] [] [] (qS 7 7) = s→Stmt) _ ?h
  case f=>exact fun s _=>s
  case h=>conv=>lhs; whnf
noncomputable def ty7x7d:Stmt:=by
  refine' (?f:∀ s:Stmt, setDoc Str.empty (stAt (bodyOf (qS 7 7)) 0) = s→Stmt) _ ?h
  case f=>exact fun s _=>s
  case h=>conv=>lhs; whnf
noncomputable def ty7x7b (sg:Nat→Str):List Stmt:=by
  refine' (?f:∀ s:(Nat→Str)→List Stmt, (bodyOf (qS 7 7)).tail = s sg0→List Stmt) _ ?h
  case f=>exact fun s _=>s sg
  case h=>(have h:=Eq.refl ((bodyOf (qS 7 7)).tail); (conv at h=>(rhs; whnf)); (have n9:=nms; try simp only [n9] at h); generalize sg0 = sv at h ⊢; exact h)
noncomputable def ty7x7n (sg:Nat→Str):List (Str × NameKind):=by
  refine' (?f:∀ s:(Nat→Str)→List (Str × NameKind), (scopeOf (qS 7 7)).names = s sg0→List (Str × NameKind)) _ ?h
  case f=>exact fun s _=>s sg
  case h=>(have h:=Eq.refl (scopeOf (qS 7 7)).names; (conv at h=>(rhs; whnf)); (have n9:=nms; try simp only [n9] at h); generalize sg0 = sv at h ⊢; exact h)
noncomputable def ty7x7m (sg:Nat→Str):List (Str × Const):=by
  refine' (?f:∀ s:(Nat→Str)→List (Str × Const), (scopeOf (qS 7 7)).more = s sg0→List (Str × Const)) _ ?h
  case f=>exact fun s _=>s sg
  case h=>(have h:=Eq.refl (scopeOf (qS 7 7)).more; (conv at h=>(rhs; whnf)); (have n9:=nms; try simp only [n9] at h); generalize sg0 = sv at h ⊢; exact h)
noncomputable def ty7x7 (sg:Nat→Str):Stmt:=setKS (setDoc (sg 236) ty7x7d :: ty7x7b sg) (ty7x7n sg) (ty7x7m sg) ty7x7h
noncomputable def tx7h:Stmt:=by
  refine' (?f:∀ s:Stmt, setKids [] (qT 7) = s→Stmt) _ ?h
  case f=>exact fun s _=>s
  case h=>conv=>lhs; whnf
noncomputable def tx7 (d:Str) (sg:Nat→Str):Stmt:=setKids [setDoc d ty7x0, ty7x1 sg, ty7x2 sg, ty7x3 sg, ty7x4 sg, ty7x5 sg, ty7x6 sg, ty7x7 sg] tx7h
noncomputable def tx8h:Stmt:=by
  refine' (?f:∀ s:Stmt, setKS [] [] [] (qT 8) = s→Stmt) _ ?h
  case f=>exact fun s _=>s
  case h=>conv=>lhs; whnf
noncomputable def tx8d:Stmt:=by
  refine' (?f:∀ s:Stmt, setDoc Str.empty (qS 8 0) = s→Stmt) _ ?h
  case f=>exact fun s _=>s
  case h=>conv=>lhs; whnf
noncomputable def tx8b (sg:Nat→Str):List Stmt:=by
  refine' (?f:∀ s:(Nat→Str)→List Stmt, (bodyOf (qT 8)).tail = s sg0→List Stmt) _ ?h
  case f=>exact fun s _=>s sg
  case h=>(have h:=Eq.refl ((bodyOf (qT 8)).tail); (conv at h=>(rhs; whnf)); (have n9:=nms; try simp only [n9] at h); generalize sg0 = sv at h ⊢; exact h)
noncomputable def tx8n (sg:Nat→Str):List (Str × NameKind):=by
  refine' (?f:∀ s:(Nat→Str)→List (Str × NameKind), (scopeOf (qT 8)).names = s sg0→List (Str × NameKind)) _ ?h
  case f=>exact fun s _=>s sg
  case h=>(have h:=Eq.refl (scopeOf (qT 8)).names; (conv at h=>(rhs; whnf)); (have n9:=nms; try simp only [n9] at h); generalize sg0 = sv at h ⊢; exact h)
noncomputable def tx8m (sg:Nat→Str):List (Str × Const):=by
  refine' (?f:∀ s:(Nat→Str)→List (Str × Const), (scopeOf (qT 8)).more = s sg0→List (Str × Const)) _ ?h
  case f=>exact fun s _=>s sg
  case h=>(have h:=Eq.refl (scopeOf (qT 8)).more; (conv at h=>(rhs; whnf)); (have n9:=nms; try simp only [n9] at h); generalize sg0 = sv at h ⊢; exact h)
noncomputable def tx8 (sg:Nat→Str):Stmt:=setKS (setDoc (sg 237) tx8d :: tx8b sg) (tx8n sg) (tx8m sg) tx8h
noncomputable def tx9:Stmt:=by
  refine' (?f:∀ s:Stmt, qT 9 = s→Stmt) _ ?h
  case f=>exact fun s _=>s
  case h=>conv=>lhs; whnf
noncomputable def tx10:Stmt:=by
  refine' (?f:∀ s:Stmt, qT 10 = s→Stmt) _ ?h
  case f=>exact fun s _=>s
  case h=>conv=>lhs; whnf
noncomputable def tx11:Stmt:=by
  refine' (?f:∀ s:Stmt, qT 11 = s→Stmt) _ ?h
  case f=>exact fun s _=>s
  case h=>conv=>lhs; whnf
noncomputable def ty12x0:Stmt:=by
  refine' (?f:∀ s:Stmt, qS 12 0 = s→Stmt) _ ?h
  case f=>exact fun s _=>s
  case h=>conv=>lhs; whnf
noncomputable def ty12x1h:Stmt:=by
  refine' (?f:∀ s:Stmt, setKids [] (qS 12 1) = s→Stmt) _ ?h
  case f=>exact fun s _=>s
  case h=>conv=>lhs; whnf
noncomputable def ty12x1b (sg:Nat→Str):List Stmt:=by
  refine' (?f:∀ s:(Nat→Str)→List Stmt, bodyOf (qS 12 1) = s sg0→List Stmt) _ ?h
  case f=>exact fun s _=>s sg
  case h=>(have h:=Eq.refl (bodyOf (qS 12 1)); (conv at h=>(rhs; whnf)); (have n9:=nms; try simp only [n9] at h); generalize sg0 = sv at h ⊢; exact h)
noncomputable def ty12x1 (sg:Nat→Str):Stmt:=setKids (ty12x1b sg) ty12x1h
noncomputable def tx12h:Stmt:=by
  refine' (?f:∀ s:Stmt, setKids [] (qT 12) = s→Stmt) _ ?h
  case f=>exact fun s _=>s
  case h=>conv=>lhs; whnf
noncomputable def tx12 (sg:Nat→Str):Stmt:=setKids [ty12x0, ty12x1 sg] tx12h
noncomputable def ty13x0:Stmt:=by
  refine' (?f:∀ s:Stmt, setDoc Str.empty (qS 13 0) = s→Stmt) _ ?h
  case f=>exact fun s _=>s
  case h=>conv=>lhs; whnf
noncomputable def ty13x1:Stmt:=by
  refine' (?f:∀ s:Stmt, qS 13 1 = s→Stmt) _ ?h
  case f=>exact fun s _=>s
  case h=>conv=>lhs; whnf
noncomputable def tx13h:Stmt:=by
  refine' (?f:∀ s:Stmt, setKids [] (qT 13) = s→Stmt) _ ?h
  case f=>exact fun s _=>s
  case h=>conv=>lhs; whnf
noncomputable def tx13 (d:Str) (sg:Nat→Str):Stmt:=setKids [setDoc d ty13x0, ty13x1] tx13h
noncomputable def ty14x0:Stmt:=by
  refine' (?f:∀ s:Stmt, qS 14 0 = s→Stmt) _ ?h
  case f=>exact fun s _=>s
  case h=>conv=>lhs; whnf
noncomputable def ty14x1h:Stmt:=by
  refine' (?f:∀ s:Stmt, setKids [] (qS 14 1) = s→Stmt) _ ?h
  case f=>exact fun s _=>s
  case h=>conv=>lhs; whnf
noncomputable def ty14x1b (sg:Nat→Str):List Stmt:=by
  refine' (?f:∀ s:(Nat→Str)→List Stmt, bodyOf (qS 14 1) = s sg0→List Stmt) _ ?h
  case f=>exact fun s _=>s sg
  case h=>(have h:=Eq.refl (bodyOf (qS 14 1)); (conv at h=>(rhs; whnf)); (have n9:=nms; try simp only [n9] at h); generalize sg0 = sv at h ⊢; exact h)
noncomputable def ty14x1 (sg:Nat→Str):Stmt:=setKids (ty14x1b sg) ty14x1h
noncomputable def ty14x2h:Stmt:=by
  refine' (?f:∀ s:Stmt, setKids [] (qS 14 2) = s→Stmt) _ ?h
  case f=>exact fun s _=>s
  case h=>conv=>lhs; whnf
noncomputable def ty14x2b (sg:Nat→Str):List Stmt:=by
  refine' (?f:∀ s:(Nat→Str)→List Stmt, bodyOf (qS 14 2) = s sg0→List Stmt) _ ?h
  case f=>exact fun s _=>s sg
  case h=>(have h:=Eq.refl (bodyOf (qS 14 2)); (conv at h=>(rhs; whnf)); (have n9:=nms; try simp only [n9] at h); generalize sg0 = sv at h ⊢; exact h)
noncomputable def ty14x2 (sg:Nat→Str):Stmt:=setKids (ty14x2b sg) ty14x2h
noncomputable def ty14x3h:Stmt:=by
  refine' (?f:∀ s:Stmt, setKS [] [] [] (qS 14 3) = s→Stmt) _ ?h
  case f=>exact fun s _=>s
  case h=>conv=>lhs; whnf
noncomputable def ty14x3d:Stmt:=by
  refine' (?f:∀ s:Stmt, setDoc Str.empty (stAt (bodyOf (qS 14 3)) 0) = s→Stmt) _ ?h
  case f=>exact fun s _=>s
  case h=>conv=>lhs; whnf
noncomputable def ty14x3b (sg:Nat→Str):List Stmt:=by
  refine' (?f:∀ s:(Nat→Str)→List Stmt, (bodyOf (qS 14 3)).tail = s sg0→List Stmt) _ ?h
  case f=>exact fun s _=>s sg
  case h=>(have h:=Eq.refl ((bodyOf (qS 14 3)).tail); (conv at h=>(rhs; whnf)); (have n9:=nms; try simp only [n9] at h); generalize sg0 = sv at h ⊢; exact h)
noncomputable def ty14x3n (sg:Nat→Str):List (Str × NameKind):=by
  refine' (?f:∀ s:(Nat→Str)→List (Str × NameKind), (scopeOf (qS 14 3)).names = s sg0→List (Str × NameKind)) _ ?h
  case f=>exact fun s _=>s sg
  case h=>(have h:=Eq.refl (scopeOf (qS 14 3)).names; (conv at h=>(rhs; whnf)); (have n9:=nms; try simp only [n9] at h); generalize sg0 = sv at h ⊢; exact h)
noncomputable def ty14x3m (sg:Nat→Str):List (Str × Const):=by
  refine' (?f:∀ s:(Nat→Str)→List (Str × Const), (scopeOf (qS 14 3)).more = s sg0→List (Str × Const)) _ ?h
  case f=>exact fun s _=>s sg
  case h=>(have h:=Eq.refl (scopeOf (qS 14 3)).more; (conv at h=>(rhs; whnf)); (have n9:=nms; try simp only [n9] at h); generalize sg0 = sv at h ⊢; exact h)
noncomputable def ty14x3 (sg:Nat→Str):Stmt:=setKS (setDoc (sg 238) ty14x3d :: ty14x3b sg) (ty14x3n sg) (ty14x3m sg) ty14x3h
noncomputable def ty14x4h:Stmt:=by
  refine' (?f:∀ s:Stmt, setKids [] (qS 14 4) = s→Stmt) _ ?h
  case f=>exact fun s _=>s
  case h=>conv=>lhs; whnf
noncomputable def ty14x4d:Stmt:=by
  refine' (?f:∀ s:Stmt, setDoc Str.empty (stAt (bodyOf (qS 14 4)) 0) = s→Stmt) _ ?h
  case f=>exact fun s _=>s
  case h=>conv=>lhs; whnf
noncomputable def ty14x4b (sg:Nat→Str):List Stmt:=by
  refine' (?f:∀ s:(Nat→Str)→List Stmt, (bodyOf (qS 14 4)).tail = s sg0→List Stmt) _ ?h
  case f=>exact fun s _=>s sg
  case h=>(have h:=Eq.refl ((bodyOf (qS 14 4)).tail); (conv at h=>(rhs; whnf)); (have n9:=nms; try simp only [n9] at h); generalize sg0 = sv at h ⊢; exact h)
noncomputable def ty14x4 (sg:Nat→Str):Stmt:=setKids (setDoc (sg 239) ty14x4d :: ty14x4b sg) ty14x4h
noncomputable def ty14x5h:Stmt:=by
  refine' (?f:∀ s:Stmt, setKids [] (qS 14 5) = s→Stmt) _ ?h
  case f=>exact fun s _=>s
  case h=>conv=>lhs; whnf
noncomputable def ty14x5d:Stmt:=by
  refine' (?f:∀ s:Stmt, setDoc Str.empty (stAt (bodyOf (qS 14 5)) 0) = s→Stmt) _ ?h
  case f=>exact fun s _=>s
  case h=>conv=>lhs; whnf
noncomputable def ty14x5b (sg:Nat→Str):List Stmt:=by
  refine' (?f:∀ s:(Nat→Str)→List Stmt, (bodyOf (qS 14 5)).tail = s sg0→List Stmt) _ ?h
  case f=>exact fun s _=>s sg
  case h=>(have h:=Eq.refl ((bodyOf (qS 14 5)).tail); (conv at h=>(rhs; whnf)); (have n9:=nms; try simp only [n9] at h); generalize sg0 = sv at h ⊢; exact h)
noncomputable def ty14x5 (sg:Nat→Str):Stmt:=setKids (setDoc (sg 240) ty14x5d :: ty14x5b sg) ty14x5h
noncomputable def ty14x6h:Stmt:=by
  refine' (?f:∀ s:Stmt, setKids [] (qS 14 6) = s→Stmt) _ ?h
  case f=>exact fun s _=>s
  case h=>conv=>lhs; whnf
noncomputable def ty14x6d:Stmt:=by
  refine' (?f:∀ s:Stmt, setDoc Str.empty (stAt (bodyOf (qS 14 6)) 0) = s→Stmt) _ ?h
  case f=>exact fun s _=>s
  case h=>conv=>lhs; whnf
noncomputable def ty14x6b (sg:Nat→Str):List Stmt:=by
  refine' (?f:∀ s:(Nat→Str)→List Stmt, (bodyOf (qS 14 6)).tail = s sg0→List Stmt) _ ?h
  case f=>exact fun s _=>s sg
  case h=>(have h:=Eq.refl ((bodyOf (qS 14 6)).tail); (conv at h=>(rhs; whnf)); (have n9:=nms; try simp only [n9] at h); generalize sg0 = sv at h ⊢; exact h)
noncomputable def ty14x6 (sg:Nat→Str):Stmt:=setKids (setDoc (sg 241) ty14x6d :: ty14x6b sg) ty14x6h
noncomputable def ty14x7h:Stmt:=by
  refine' (?f:∀ s:Stmt, setKids [] (qS 14 7) = s→Stmt) _ ?h
  case f=>exact fun s _=>s
  case h=>conv=>lhs; whnf
noncomputable def ty14x7b (sg:Nat→Str):List Stmt:=by
  refine' (?f:∀ s:(Nat→Str)→List Stmt, bodyOf (qS 14 7) = s sg0→List Stmt) _ ?h
  case f=>exact fun s _=>s sg
  case h=>(have h:=Eq.refl (bodyOf (qS 14 7)); (conv at h=>(rhs; whnf)); (have n9:=nms; try simp only [n9] at h); generalize sg0 = sv at h ⊢; exact h)
noncomputable def ty14x7 (sg:Nat→Str):Stmt:=setKids (ty14x7b sg) ty14x7h
noncomputable def ty14x8h:Stmt:=by
  refine' (?f:∀ s:Stmt, setKS [] [] [] (qS 14 8) = s→Stmt) _ ?h
  case f=>exact fun s _=>s
  case h=>conv=>lhs; whnf
noncomputable def ty14x8d:Stmt:=by
  refine' (?f:∀ s:Stmt, setDoc Str.empty (stAt (bodyOf (qS 14 8)) 0) = s→Stmt) _ ?h
  case f=>exact fun s _=>s
  case h=>conv=>lhs; whnf
noncomputable def ty14x8b (sg:Nat→Str):List Stmt:=by
  refine' (?f:∀ s:(Nat→Str)→List Stmt, (bodyOf (qS 14 8)).tail = s sg0→List Stmt) _ ?h
  case f=>exact fun s _=>s sg
  case h=>(have h:=Eq.refl ((bodyOf (qS 14 8)).tail); (conv at h=>(rhs; whnf)); (have n9:=nms; try simp only [n9] at h); generalize sg0 = sv at h ⊢; exact h)
noncomputable def ty14x8n (sg:Nat→Str):List (Str × NameKind):=by
  refine' (?f:∀ s:(Nat→Str)→List (Str × NameKind), (scopeOf (qS 14 8)).names = s sg0→List (Str × NameKind)) _ ?h
  case f=>exact fun s _=>s sg
  case h=>(have h:=Eq.refl (scopeOf (qS 14 8)).names; (conv at h=>(rhs; whnf)); (have n9:=nms; try simp only [n9] at h); generalize sg0 = sv at h ⊢; exact h)
noncomputable def ty14x8m (sg:Nat→Str):List (Str × Const):=by
  refine' (?f:∀ s:(Nat→Str)→List (Str × Const), (scopeOf (qS 14 8)).more = s sg0→List (Str × Const)) _ ?h
  case f=>exact fun s _=>s sg
  case h=>(have h:=Eq.refl (scopeOf (qS 14 8)).more; (conv at h=>(rhs; whnf)); (have n9:=nms; try simp only [n9] at h); generalize sg0 = sv at h ⊢; exact h)
noncomputable def ty14x8 (sg:Nat→Str):Stmt:=setKS (setDoc (sg 242) ty14x8d :: ty14x8b sg) (ty14x8n sg) (ty14x8m sg) ty14x8h
noncomputable def ty14x9h:Stmt:=by
  refine' (?f:∀ s:Stmt, setKS [] [] [] (qS 14 9) = s→Stmt) _ ?h
  case f=>exact fun s _=>s
  case h=>conv=>lhs; whnf
noncomputable def ty14x9b (sg:Nat→Str):List Stmt:=by
  refine' (?f:∀ s:(Nat→Str)→List Stmt, bodyOf (qS 14 9) = s sg0→List Stmt) _ ?h
  case f=>exact fun s _=>s sg
  case h=>(have h:=Eq.refl (bodyOf (qS 14 9)); (conv at h=>(rhs; whnf)); (have n9:=nms; try simp only [n9] at h); generalize sg0 = sv at h ⊢; exact h)
noncomputable def ty14x9n (sg:Nat→Str):List (Str × NameKind):=by
  refine' (?f:∀ s:(Nat→Str)→List (Str × NameKind), (scopeOf (qS 14 9)).names = s sg0→List (Str × NameKind)) _ ?h
  case f=>exact fun s _=>s sg
  case h=>(have h:=Eq.refl (scopeOf (qS 14 9)).names; (conv at h=>(rhs; whnf)); (have n9:=nms; try simp only [n9] at h); generalize sg0 = sv at h ⊢; exact h)
noncomputable def ty14x9m (sg:Nat→Str):List (Str × Const):=by
  refine' (?f:∀ s:(Nat→Str)→List (Str × Const), (scopeOf (qS 14 9)).more = s sg0→List (Str × Const)) _ ?h
  case f=>exact fun s _=>s sg
  case h=>(have h:=Eq.refl (scopeOf (qS 14 9)).more; (conv at h=>(rhs; whnf)); (have n9:=nms; try simp only [n9] at h); generalize sg0 = sv at h ⊢; exact h)
noncomputable def ty14x9 (sg:Nat→Str):Stmt:=setKS (ty14x9b sg) (ty14x9n sg) (ty14x9m sg) ty14x9h
noncomputable def ty14x10h:Stmt:=by
  refine' (?f:∀ s:Stmt, setKids [] (qS 14 10) = s→Stmt) _ ?h
  case f=>exact fun s _=>s
  case h=>conv=>lhs; whnf
noncomputable def ty14x10b (sg:Nat→Str):List Stmt:=by
  refine' (?f:∀ s:(Nat→Str)→List Stmt, bodyOf (qS 14 10) = s sg0→List Stmt) _ ?h
  case f=>exact fun s _=>s sg
  case h=>(have h:=Eq.refl (bodyOf (qS 14 10)); (conv at h=>(rhs; whnf)); (have n9:=nms; try simp only [n9] at h); generalize sg0 = sv at h ⊢; exact h)
noncomputable def ty14x10 (sg:Nat→Str):Stmt:=setKids (ty14x10b sg) ty14x10h
noncomputable def tx14h:Stmt:=by
  refine' (?f:∀ s:Stmt, setKids [] (qT 14) = s→Stmt) _ ?h
  case f=>exact fun s _=>s
  case h=>conv=>lhs; whnf
noncomputable def tx14 (sg:Nat→Str):Stmt:=setKids [ty14x0, ty14x1 sg, ty14x2 sg, ty14x3 sg, ty14x4 sg, ty14x5 sg, ty14x6 sg, ty14x7 sg, ty14x8 sg, ty14x9 sg, ty14x10 sg] tx14h
noncomputable def tx15:Stmt:=by
  refine' (?f:∀ s:Stmt, qT 15 = s→Stmt) _ ?h
  case f=>exact fun s _=>s
  case h=>conv=>lhs; whnf
noncomputable def tx16h:Stmt:=by
  refine' (?f:∀ s:Stmt, setKids [] (qT 16) = s→Stmt) _ ?h
  case f=>exact fun s _=>s
  case h=>conv=>lhs; whnf
noncomputable def tx16b (sg:Nat→Str):List Stmt:=by
  refine' (?f:∀ s:(Nat→Str)→List Stmt, bodyOf (qT 16) = s sg0→List Stmt) _ ?h
  case f=>exact fun s _=>s sg
  case h=>(have h:=Eq.refl (bodyOf (qT 16)); (conv at h=>(rhs; whnf)); (have n9:=nms; try simp only [n9] at h); generalize sg0 = sv at h ⊢; exact h)
noncomputable def tx16 (sg:Nat→Str):Stmt:=setKids (tx16b sg) tx16h
noncomputable def tx17h:Stmt:=by
  refine' (?f:∀ s:Stmt, setKS [] [] [] (qT 17) = s→Stmt) _ ?h
  case f=>exact fun s _=>s
  case h=>conv=>lhs; whnf
noncomputable def tx17b (sg:Nat→Str):List Stmt:=by
  refine' (?f:∀ s:(Nat→Str)→List Stmt, bodyOf (qT 17) = s sg0→List Stmt) _ ?h
  case f=>exact fun s _=>s sg
  case h=>(have h:=Eq.refl (bodyOf (qT 17)); (conv at h=>(rhs; whnf)); (have n9:=nms; try simp only [n9] at h); generalize sg0 = sv at h ⊢; exact h)
noncomputable def tx17n (sg:Nat→Str):List (Str × NameKind):=by
  refine' (?f:∀ s:(Nat→Str)→List (Str × NameKind), (scopeOf (qT 17)).names = s sg0→List (Str × NameKind)) _ ?h
  case f=>exact fun s _=>s sg
  case h=>(have h:=Eq.refl (scopeOf (qT 17)).names; (conv at h=>(rhs; whnf)); (have n9:=nms; try simp only [n9] at h); generalize sg0 = sv at h ⊢; exact h)
noncomputable def tx17m (sg:Nat→Str):List (Str × Const):=by
  refine' (?f:∀ s:(Nat→Str)→List (Str × Const), (scopeOf (qT 17)).more = s sg0→List (Str × Const)) _ ?h
  case f=>exact fun s _=>s sg
  case h=>(have h:=Eq.refl (scopeOf (qT 17)).more; (conv at h=>(rhs; whnf)); (have n9:=nms; try simp only [n9] at h); generalize sg0 = sv at h ⊢; exact h)
noncomputable def tx17 (sg:Nat→Str):Stmt:=setKS (tx17b sg) (tx17n sg) (tx17m sg) tx17h
noncomputable def tx18h:Stmt:=by
  refine' (?f:∀ s:Stmt, setKids [] (qT 18) = s→Stmt) _ ?h
  case f=>exact fun s _=>s
  case h=>conv=>lhs; whnf
noncomputable def tx18b (sg:Nat→Str):List Stmt:=by
  refine' (?f:∀ s:(Nat→Str)→List Stmt, bodyOf (qT 18) = s sg0→List Stmt) _ ?h
  case f=>exact fun s _=>s sg
  case h=>(have h:=Eq.refl (bodyOf (qT 18)); (conv at h=>(rhs; whnf)); (have n9:=nms; try simp only [n9] at h); generalize sg0 = sv at h ⊢; exact h)
noncomputable def tx18 (sg:Nat→Str):Stmt:=setKids (tx18b sg) tx18h
noncomputable def tx19h:Stmt:=by
  refine' (?f:∀ s:Stmt, setKS [] [] [] (qT 19) = s→Stmt) _ ?h
  case f=>exact fun s _=>s
  case h=>conv=>lhs; whnf
noncomputable def tx19b (sg:Nat→Str):List Stmt:=by
  refine' (?f:∀ s:(Nat→Str)→List Stmt, bodyOf (qT 19) = s sg0→List Stmt) _ ?h
  case f=>exact fun s _=>s sg
  case h=>(have h:=Eq.refl (bodyOf (qT 19)); (conv at h=>(rhs; whnf)); (have n9:=nms; try simp only [n9] at h); generalize sg0 = sv at h ⊢; exact h)
noncomputable def tx19n (sg:Nat→Str):List (Str × NameKind):=by
  refine' (?f:∀ s:(Nat→Str)→List (Str × NameKind), (scopeOf (qT 19)).names = s sg0→List (Str × NameKind)) _ ?h
  case f=>exact fun s _=>s sg
  case h=>(have h:=Eq.refl (scopeOf (qT 19)).names; (conv at h=>(rhs; whnf)); (have n9:=nms; try simp only [n9] at h); generalize sg0 = sv at h ⊢; exact h)
noncomputable def tx19m (sg:Nat→Str):List (Str × Const):=by
  refine' (?f:∀ s:(Nat→Str)→List (Str × Const), (scopeOf (qT 19)).more = s sg0→List (Str × Const)) _ ?h
  case f=>exact fun s _=>s sg
  case h=>(have h:=Eq.refl (scopeOf (qT 19)).more; (conv at h=>(rhs; whnf)); (have n9:=nms; try simp only [n9] at h); generalize sg0 = sv at h ⊢; exact h)
noncomputable def tx19 (sg:Nat→Str):Stmt:=setKS (tx19b sg) (tx19n sg) (tx19m sg) tx19h
noncomputable def tx20h:Stmt:=by
  refine' (?f:∀ s:Stmt, setKS [] [] [] (qT 20) = s→Stmt) _ ?h
  case f=>exact fun s _=>s
  case h=>conv=>lhs; whnf
noncomputable def tx20b (sg:Nat→Str):List Stmt:=by
  refine' (?f:∀ s:(Nat→Str)→List Stmt, bodyOf (qT 20) = s sg0→List Stmt) _ ?h
  case f=>exact fun s _=>s sg
  case h=>(have h:=Eq.refl (bodyOf (qT 20)); (conv at h=>(rhs; whnf)); (have n9:=nms; try simp only [n9] at h); generalize sg0 = sv at h ⊢; exact h)
noncomputable def tx20n (sg:Nat→Str):List (Str × NameKind):=by
  refine' (?f:∀ s:(Nat→Str)→List (Str × NameKind), (scopeOf (qT 20)).names = s sg0→List (Str × NameKind)) _ ?h
  case f=>exact fun s _=>s sg
  case h=>(have h:=Eq.refl (scopeOf (qT 20)).names; (conv at h=>(rhs; whnf)); (have n9:=nms; try simp only [n9] at h); generalize sg0 = sv at h ⊢; exact h)
noncomputable def tx20m (sg:Nat→Str):List (Str × Const):=by
  refine' (?f:∀ s:(Nat→Str)→List (Str × Const), (scopeOf (qT 20)).more = s sg0→List (Str × Const)) _ ?h
  case f=>exact fun s _=>s sg
  case h=>(have h:=Eq.refl (scopeOf (qT 20)).more; (conv at h=>(rhs; whnf)); (have n9:=nms; try simp only [n9] at h); generalize sg0 = sv at h ⊢; exact h)
noncomputable def tx20 (sg:Nat→Str):Stmt:=setKS (tx20b sg) (tx20n sg) (tx20m sg) tx20h
noncomputable def tk0:List (Str × NameKind):=by
  refine' (?f:∀ a b c d e f r, pw_mu0013_01.main.scope.names.drop 0 = a :: b :: c :: d :: e :: f :: r→List (Str × NameKind)) _ _ _ _ _ _ _ ?h
  case f=>exact fun a b c d e f _ _=>[a, b, c, d, e, f]
  case h=>conv=>lhs; whnf
noncomputable def tk6:List (Str × NameKind):=by
  refine' (?f:∀ a b c d e f r, pw_mu0013_01.main.scope.names.drop 6 = a :: b :: c :: d :: e :: f :: r→List (Str × NameKind)) _ _ _ _ _ _ _ ?h
  case f=>exact fun a b c d e f _ _=>[a, b, c, d, e, f]
  case h=>conv=>lhs; whnf
noncomputable def tk12:List (Str × NameKind):=by
  refine' (?f:∀ a b c d e f r, pw_mu0013_01.main.scope.names.drop 12 = a :: b :: c :: d :: e :: f :: r→List (Str × NameKind)) _ _ _ _ _ _ _ ?h
  case f=>exact fun a b c d e f _ _=>[a, b, c, d, e, f]
  case h=>conv=>lhs; whnf
noncomputable def tk18:List (Str × NameKind):=by
  refine' (?f:∀ a b c r, pw_mu0013_01.main.scope.names.drop 18 = a :: b :: c :: r→List (Str × NameKind)) _ _ _ _ ?h
  case f=>exact fun a b c _ _=>[a, b, c]
  case h=>conv=>lhs; whnf
noncomputable def txS0 (n:List (Str × NameKind)):Scope:=by
  refine' (?f:∀ k o g c m, pw_mu0013_01.main.scope = ⟨k, o, g, c, m⟩→Scope) _ _ _ _ _ ?h
  case f=>exact fun k _ g c m _=>⟨k, n, g, c, m⟩
  case h=>conv=>lhs; whnf
noncomputable def txS:Scope:=txS0 (tk0 ++ (tk6 ++ (tk12 ++ (tk18))))
noncomputable def txG:Given:=by
  refine' (?f:∀ s:Given, pw_mu0013_01.given = s→Given) _ ?h
  case f=>exact fun s _=>s
  case h=>conv=>lhs; whnf
noncomputable def bq0 (d5 d7 d13:Str) (sg:Nat→Str):List Stmt:=[tx0 sg, tx1, tx2 sg, tx3 sg, tx4 sg]
noncomputable def bq1 (d5 d7 d13:Str) (sg:Nat→Str):List Stmt:=[tx5 d5 sg, tx6 sg, tx7 d7 sg, tx8 sg, tx9]
noncomputable def bq2 (d5 d7 d13:Str) (sg:Nat→Str):List Stmt:=[tx10, tx11, tx12 sg, tx13 d13 sg, tx14 sg]
noncomputable def bq3 (d5 d7 d13:Str) (sg:Nat→Str):List Stmt:=[tx15, tx16 sg, tx17 sg, tx18 sg, tx19 sg]
noncomputable def bq4 (d5 d7 d13:Str) (sg:Nat→Str):List Stmt:=[tx20 sg]
noncomputable def pqD (d5 d7 d13:Str) (sg:Nat→Str):Program:={ main:={ body:=bq0 d5 d7 d13 sg ++ (bq1 d5 d7 d13 sg ++ (bq2 d5 d7 d13 sg ++ (bq3 d5 d7 d13 sg ++ (bq4 d5 d7 d13 sg)))), scope:=txS, futureAnnotations:=false, file:="/claim/cut.py", more:=[] }, modules:=[], parses:=[], absent:=[], harvested:=[], given:=txG }
noncomputable def pq (sg:Nat→Str):Program:=pqD da5 da7 da13 sg
theorem pq_eq:pw_mu0013_01 = pq sg0:=(by kernel_rfl:pw_mu0013_01 = pqD dd5 dd7 dd13 sg0).trans (by rw [dd5_eq, dd7_eq, dd13_eq]; exact rfl)
noncomputable def topOf (p:Program) (i:Nat):Stmt:=stAt p.main.body i
noncomputable def subOf (p:Program) (i j:Nat):Stmt:=stAt (bodyOf (topOf p i)) j
noncomputable abbrev top (i:Nat):Stmt:=topOf pw_mu0013_01 i
noncomputable abbrev sub (i j:Nat):Stmt:=subOf pw_mu0013_01 i j
noncomputable def ob2 (_:Params):Obj:=⟨.none, none, (.dict #[] 0), #[]⟩
noncomputable def ob3 (P:Params):Obj:=⟨(.type "dict"), none, (.dict #[⟨PyData.keyHash P (Str.ofString "__name__"), (.str (Str.ofString "__name__") 165), (.str (Str.ofString "law_mu0013_01") 947)⟩, ⟨PyData.keyHash P (Str.ofString "__doc__"), (.str (Str.ofString "__doc__") 166), .none⟩, ⟨PyData.keyHash P (Str.ofString "__package__"), (.str (Str.ofString "__package__") 167), .none⟩, ⟨PyData.keyHash P (Str.ofString "__loader__"), (.str (Str.ofString "__loader__") 168), (.builtin "__main__.__loader__#opaque")⟩, ⟨PyData.keyHash P (Str.ofString "__spec__"), (.str (Str.ofString "__spec__") 169), .none⟩, ⟨PyData.keyHash P (Str.ofString "__annotations__"), (.str (Str.ofString "__annotations__") 170), (.ref 6)⟩, ⟨PyData.keyHash P (Str.ofString "__builtins__"), (.str (Str.ofString "__builtins__") 171), (.ref 4)⟩, ⟨PyData.keyHash P (Str.ofString "__file__"), (.str (Str.ofString "__file__") 173), (.str (Str.ofString "/claim/cut.py") 172)⟩, ⟨PyData.keyHash P (Str.ofString "__cached__"), (.str (Str.ofString "__cached__") 174), .none⟩, ⟨PyData.keyHash P (Str.ofString "_wall"), (.str (Str.ofString "_wall") 193), (.ref 21)⟩, ⟨PyData.keyHash P (Str.ofString "_tuplegetter"), (.str (Str.ofString "_tuplegetter") 252), (.ref 60)⟩, ⟨PyData.keyHash P (Str.ofString "Match"), (.str (Str.ofString "Match") 380), (.ref 135)⟩, ⟨PyData.keyHash P (Str.ofString "_calculate_ratio"), (.str (Str.ofString "_calculate_ratio") 388), (.ref 145)⟩, ⟨PyData.keyHash P (Str.ofString "SequenceMatcher"), (.str (Str.ofString "SequenceMatcher") 592), (.ref 242)⟩, ⟨PyData.keyHash P (Str.ofString "_keep_original_ws"), (.str (Str.ofString "_keep_original_ws") 601), (.ref 253)⟩, ⟨PyData.keyHash P (Str.ofString "Differ"), (.str (Str.ofString "Differ") 743), (.ref 313)⟩, ⟨PyData.keyHash P (Str.ofString "restore"), (.str (Str.ofString "restore") 755), (.ref 324)⟩, ⟨PyData.keyHash P (Str.ofString "_NODE_OUT"), (.str (Str.ofString "_NODE_OUT") 760), (.int (-1) 759)⟩, ⟨PyData.keyHash P (Str.ofString "_NODE_DONE"), (.str (Str.ofString "_NODE_DONE") 763), (.int (-2) 762)⟩, ⟨PyData.keyHash P (Str.ofString "_NodeInfo"), (.str (Str.ofString "_NodeInfo") 800), (.ref 343)⟩, ⟨PyData.keyHash P (Str.ofString "CycleError"), (.str (Str.ofString "CycleError") 820), (.ref 358)⟩, ⟨PyData.keyHash P (Str.ofString "TopologicalSorter"), (.str (Str.ofString "TopologicalSorter") 946), (.ref 440)⟩, ⟨PyData.keyHash P (Str.ofString "_law_text"), (.str (Str.ofString "_law_text") 955), (.ref 451)⟩, ⟨PyData.keyHash P (Str.ofString "_law_told"), (.str (Str.ofString "_law_told") 961), (.ref 456)⟩, ⟨PyData.keyHash P (Str.ofString "_law_finished"), (.str (Str.ofString "_law_finished") 970), (.ref 463)⟩, ⟨PyData.keyHash P (Str.ofString "_law_worked"), (.str (Str.ofString "_law_worked") 976), (.ref 468)⟩, ⟨PyData.keyHash P (Str.ofString "law"), (.str (Str.ofString "law") 982), (.ref 473)⟩] 27), #[]⟩
noncomputable def oq3c0 (P:Params):List DictEntry:=[⟨PyData.keyHash P (Str.ofString "__name__"), (.str (Str.ofString "__name__") 165), (.str (Str.ofString "law_mu0013_01") 947)⟩, ⟨PyData.keyHash P (Str.ofString "__doc__"), (.str (Str.ofString "__doc__") 166), .none⟩, ⟨PyData.keyHash P (Str.ofString "__package__"), (.str (Str.ofString "__package__") 167), .none⟩, ⟨PyData.keyHash P (Str.ofString "__loader__"), (.str (Str.ofString "__loader__") 168), (.builtin "__main__.__loader__#opaque")⟩, ⟨PyData.keyHash P (Str.ofString "__spec__"), (.str (Str.ofString "__spec__") 169), .none⟩]
noncomputable def oq3c5 (P:Params):List DictEntry:=[⟨PyData.keyHash P (Str.ofString "__annotations__"), (.str (Str.ofString "__annotations__") 170), (.ref 6)⟩, ⟨PyData.keyHash P (Str.ofString "__builtins__"), (.str (Str.ofString "__builtins__") 171), (.ref 4)⟩, ⟨PyData.keyHash P (Str.ofString "__file__"), (.str (Str.ofString "__file__") 173), (.str (Str.ofString "/claim/cut.py") 172)⟩, ⟨PyData.keyHash P (Str.ofString "__cached__"), (.str (Str.ofString "__cached__") 174), .none⟩, ⟨PyData.keyHash P (Str.ofString "_wall"), (.str (Str.ofString "_wall") 193), (.ref 21)⟩]
noncomputable def oq3c10 (P:Params):List DictEntry:=[⟨PyData.keyHash P (Str.ofString "_tuplegetter"), (.str (Str.ofString "_tuplegetter") 252), (.ref 60)⟩, ⟨PyData.keyHash P (Str.ofString "Match"), (.str (Str.ofString "Match") 380), (.ref 135)⟩, ⟨PyData.keyHash P (Str.ofString "_calculate_ratio"), (.str (Str.ofString "_calculate_ratio") 388), (.ref 145)⟩, ⟨PyData.keyHash P (Str.ofString "SequenceMatcher"), (.str (Str.ofString "SequenceMatcher") 592), (.ref 242)⟩, ⟨PyData.keyHash P (Str.ofString "_keep_original_ws"), (.str (Str.ofString "_keep_original_ws") 601), (.ref 253)⟩]
noncomputable def oq3c15 (P:Params):List DictEntry:=[⟨PyData.keyHash P (Str.ofString "Differ"), (.str (Str.ofString "Differ") 743), (.ref 313)⟩, ⟨PyData.keyHash P (Str.ofString "restore"), (.str (Str.ofString "restore") 755), (.ref 324)⟩, ⟨PyData.keyHash P (Str.ofString "_NODE_OUT"), (.str (Str.ofString "_NODE_OUT") 760), (.int (-1) 759)⟩, ⟨PyData.keyHash P (Str.ofString "_NODE_DONE"), (.str (Str.ofString "_NODE_DONE") 763), (.int (-2) 762)⟩, ⟨PyData.keyHash P (Str.ofString "_NodeInfo"), (.str (Str.ofString "_NodeInfo") 800), (.ref 343)⟩]
noncomputable def oq3c20 (P:Params):List DictEntry:=[⟨PyData.keyHash P (Str.ofString "CycleError"), (.str (Str.ofString "CycleError") 820), (.ref 358)⟩, ⟨PyData.keyHash P (Str.ofString "TopologicalSorter"), (.str (Str.ofString "TopologicalSorter") 946), (.ref 440)⟩, ⟨PyData.keyHash P (Str.ofString "_law_text"), (.str (Str.ofString "_law_text") 955), (.ref 451)⟩, ⟨PyData.keyHash P (Str.ofString "_law_told"), (.str (Str.ofString "_law_told") 961), (.ref 456)⟩, ⟨PyData.keyHash P (Str.ofString "_law_finished"), (.str (Str.ofString "_law_finished") 970), (.ref 463)⟩]
noncomputable def oq3c25 (P:Params):List DictEntry:=[⟨PyData.keyHash P (Str.ofString "_law_worked"), (.str (Str.ofString "_law_worked") 976), (.ref 468)⟩, ⟨PyData.keyHash P (Str.ofString "law"), (.str (Str.ofString "law") 982), (.ref 473)⟩]
noncomputable def oq3 (p:Program) (P:Params):Obj:=⟨(.type "dict"), none, (.dict ((oq3c0 P ++ (oq3c5 P ++ (oq3c10 P ++ (oq3c15 P ++ (oq3c20 P ++ (oq3c25 P)))))).toArray) 27), #[]⟩
noncomputable def ob261 (_:Params):Obj:=⟨(.type "tuple"), none, (.seq #[.none, .none] 0), #[]⟩
noncomputable def ob267 (_:Params):Obj:=⟨(.type "code"), none, (.fields #[(.str (Str.ofString "__init__") 617), (.str (Str.ofString "Differ.__init__") 618), (.str (Str.ofString "/claim/cut.py") 619), (.int 577 0), (.int 3 0), (.int 0 0), (.int 0 0), (.int 3 0), (.ref 262), (.bool true), (.int 181 0), (.ref 263), .none, (.ref 264), (.ref 265), (.ref 266), (.int 623 0), (.int 577 0), (.str (Str.ofString "/claim/cut.py") 624)]), #[]⟩
noncomputable def ob268 (_:Params):Obj:=⟨(.type "function"), none, (.func { name:=(Str.ofString "__init__"), qualname:=(Str.ofString "Differ.__init__"), params:=argsOf (sub 7 1), body:=.stmts (bodyOf (sub 7 1)), scope:=scopeOf (sub 7 1), globals:=3, closure:=[], defaults:=(.ref 261), kwdefaults:=.none, doc:=(.str (docS (sub 7 1)) 625), pyModule:=(.str (Str.ofString "cpy313.difflib") 194), annotations:=none, code:=(.ref 267), closureTuple:=.none, builtins:=0 }), #[]⟩
noncomputable def oq268 (p:Program) (_:Params):Obj:=⟨(.type "function"), none, (.func { name:=(Str.ofString "__init__"), qualname:=(Str.ofString "Differ.__init__"), params:=argsOf (subOf p 7 1), body:=.stmts (bodyOf (subOf p 7 1)), scope:=scopeOf (subOf p 7 1), globals:=3, closure:=[], defaults:=(.ref 261), kwdefaults:=.none, doc:=(.str (docS (subOf p 7 1)) 625), pyModule:=(.str (Str.ofString "cpy313.difflib") 194), annotations:=none, code:=(.ref 267), closureTuple:=.none, builtins:=0 }), #[]⟩
noncomputable def ob281 (_:Params):Obj:=⟨(.type "code"), none, (.fields #[(.str (Str.ofString "_dump") 644), (.str (Str.ofString "Differ._dump") 645), (.str (Str.ofString "/claim/cut.py") 646), (.int 638 0), (.int 5 0), (.int 0 0), (.int 0 0), (.int 35 0), (.ref 276), (.bool true), (.int 181 0), (.ref 277), .none, (.ref 278), (.ref 279), (.ref 280), (.int 653 0), (.int 638 0), (.str (Str.ofString "/claim/cut.py") 654)]), #[]⟩
noncomputable def ob282 (_:Params):Obj:=⟨(.type "function"), none, (.func { name:=(Str.ofString "_dump"), qualname:=(Str.ofString "Differ._dump"), params:=argsOf (sub 7 3), body:=.stmts (bodyOf (sub 7 3)), scope:=scopeOf (sub 7 3), globals:=3, closure:=[], defaults:=.none, kwdefaults:=.none, doc:=(.str (docS (sub 7 3)) 655), pyModule:=(.str (Str.ofString "cpy313.difflib") 194), annotations:=none, code:=(.ref 281), closureTuple:=.none, builtins:=0 }), #[]⟩
noncomputable def oq282 (p:Program) (_:Params):Obj:=⟨(.type "function"), none, (.func { name:=(Str.ofString "_dump"), qualname:=(Str.ofString "Differ._dump"), params:=argsOf (subOf p 7 3), body:=.stmts (bodyOf (subOf p 7 3)), scope:=scopeOf (subOf p 7 3), globals:=3, closure:=[], defaults:=.none, kwdefaults:=.none, doc:=(.str (docS (subOf p 7 3)) 655), pyModule:=(.str (Str.ofString "cpy313.difflib") 194), annotations:=none, code:=(.ref 281), closureTuple:=.none, builtins:=0 }), #[]⟩
noncomputable def ob312 (P:Params):Obj:=⟨(.type "dict"), none, (.dict #[⟨PyData.keyHash P (Str.ofString "__module__"), (.str (Str.ofString "__module__") 609), (.str (Str.ofString "cpy313.difflib") 194)⟩, ⟨PyData.keyHash P (Str.ofString "__firstlineno__"), (.str (Str.ofString "__firstlineno__") 613), (.int 491 612)⟩, ⟨PyData.keyHash P (Str.ofString "__doc__"), (.str (Str.ofString "__doc__") 615), (.str (docS (top 7)) 614)⟩, ⟨PyData.keyHash P (Str.ofString "__init__"), (.str (Str.ofString "__init__") 626), (.ref 268)⟩, ⟨PyData.keyHash P (Str.ofString "compare"), (.str (Str.ofString "compare") 643), (.ref 275)⟩, ⟨PyData.keyHash P (Str.ofString "_dump"), (.str (Str.ofString "_dump") 656), (.ref 282)⟩, ⟨PyData.keyHash P (Str.ofString "_plain_replace"), (.str (Str.ofString "_plain_replace") 672), (.ref 289)⟩, ⟨PyData.keyHash P (Str.ofString "_fancy_replace"), (.str (Str.ofString "_fancy_replace") 708), (.ref 296)⟩, ⟨PyData.keyHash P (Str.ofString "_fancy_helper"), (.str (Str.ofString "_fancy_helper") 722), (.ref 303)⟩, ⟨PyData.keyHash P (Str.ofString "_qformat"), (.str (Str.ofString "_qformat") 734), (.ref 310)⟩, ⟨PyData.keyHash P (Str.ofString "__static_attributes__"), (.str (Str.ofString "__static_attributes__") 737), (.ref 311)⟩, ⟨PyData.keyHash P (Str.ofString "__dict__"), (.str (Str.ofString "__dict__") 739), (.ref 314)⟩, ⟨PyData.keyHash P (Str.ofString "__weakref__"), (.str (Str.ofString "__weakref__") 741), (.ref 315)⟩] 3), #[]⟩
noncomputable def oq312c0 (p:Program) (P:Params):List DictEntry:=[⟨PyData.keyHash P (Str.ofString "__module__"), (.str (Str.ofString "__module__") 609), (.str (Str.ofString "cpy313.difflib") 194)⟩, ⟨PyData.keyHash P (Str.ofString "__firstlineno__"), (.str (Str.ofString "__firstlineno__") 613), (.int 491 612)⟩, ⟨PyData.keyHash P (Str.ofString "__doc__"), (.str (Str.ofString "__doc__") 615), (.str (docS (topOf p 7)) 614)⟩, ⟨PyData.keyHash P (Str.ofString "__init__"), (.str (Str.ofString "__init__") 626), (.ref 268)⟩, ⟨PyData.keyHash P (Str.ofString "compare"), (.str (Str.ofString "compare") 643), (.ref 275)⟩]
noncomputable def oq312c5 (p:Program) (P:Params):List DictEntry:=[⟨PyData.keyHash P (Str.ofString "_dump"), (.str (Str.ofString "_dump") 656), (.ref 282)⟩, ⟨PyData.keyHash P (Str.ofString "_plain_replace"), (.str (Str.ofString "_plain_replace") 672), (.ref 289)⟩, ⟨PyData.keyHash P (Str.ofString "_fancy_replace"), (.str (Str.ofString "_fancy_replace") 708), (.ref 296)⟩, ⟨PyData.keyHash P (Str.ofString "_fancy_helper"), (.str (Str.ofString "_fancy_helper") 722), (.ref 303)⟩, ⟨PyData.keyHash P (Str.ofString "_qformat"), (.str (Str.ofString "_qformat") 734), (.ref 310)⟩]
noncomputable def oq312c10 (p:Program) (P:Params):List DictEntry:=[⟨PyData.keyHash P (Str.ofString "__static_attributes__"), (.str (Str.ofString "__static_attributes__") 737), (.ref 311)⟩, ⟨PyData.keyHash P (Str.ofString "__dict__"), (.str (Str.ofString "__dict__") 739), (.ref 314)⟩, ⟨PyData.keyHash P (Str.ofString "__weakref__"), (.str (Str.ofString "__weakref__") 741), (.ref 315)⟩]
noncomputable def oq312 (p:Program) (P:Params):Obj:=⟨(.type "dict"), none, (.dict ((oq312c0 p P ++ (oq312c5 p P ++ (oq312c10 p P))).toArray) 3), #[]⟩
noncomputable def ob313 (_:Params):Obj:=⟨(.type "type"), none, (.cls { name:=(Str.ofString "Differ"), bases:=[(.type "object")], mro:=[(.ref 313), (.type "object")], ns:=312, qualname:=(Str.ofString "Differ"), hasDict:=true, slotNames:=[], subclasses:=[], abstract:=false, collection:=none, hasDel:=false }), #[none, none, some (.str (Str.ofString "Differ") 602), some (.str (Str.ofString "Differ") 610), some (.builtin "object.__new__"), some (.bool true)]⟩
noncomputable def ob314 (_:Params):Obj:=⟨(.type "getset_descriptor"), none, (.fields #[(.str (Str.ofString "__dict__") 738), (.ref 313), (.builtin "function.__dict__"), (.builtin "function.__dict__#set")]), #[]⟩
noncomputable def ob315 (_:Params):Obj:=⟨(.type "getset_descriptor"), none, (.fields #[(.str (Str.ofString "__weakref__") 740), (.ref 313), (.builtin "ExceptionGroup.__weakref__"), .none]), #[]⟩
noncomputable def ob323 (_:Params):Obj:=⟨(.type "code"), none, (.fields #[(.str (Str.ofString "restore") 744), (.str (Str.ofString "restore") 745), (.str (Str.ofString "/claim/cut.py") 746), (.int 753 0), (.int 2 0), (.int 0 0), (.int 0 0), (.int 35 0), (.ref 318), (.bool true), (.int 181 0), (.ref 319), .none, (.ref 320), (.ref 321), (.ref 322), (.int 752 0), (.int 753 0), (.str (Str.ofString "/claim/cut.py") 753)]), #[]⟩
noncomputable def ob324 (_:Params):Obj:=⟨(.type "function"), none, (.func { name:=(Str.ofString "restore"), qualname:=(Str.ofString "restore"), params:=argsOf (top 8), body:=.stmts (bodyOf (top 8)), scope:=scopeOf (top 8), globals:=3, closure:=[], defaults:=.none, kwdefaults:=.none, doc:=(.str (docS (top 8)) 754), pyModule:=(.str (Str.ofString "cpy313.difflib") 194), annotations:=none, code:=(.ref 323), closureTuple:=.none, builtins:=0 }), #[]⟩
noncomputable def oq324 (p:Program) (_:Params):Obj:=⟨(.type "function"), none, (.func { name:=(Str.ofString "restore"), qualname:=(Str.ofString "restore"), params:=argsOf (topOf p 8), body:=.stmts (bodyOf (topOf p 8)), scope:=scopeOf (topOf p 8), globals:=3, closure:=[], defaults:=.none, kwdefaults:=.none, doc:=(.str (docS (topOf p 8)) 754), pyModule:=(.str (Str.ofString "cpy313.difflib") 194), annotations:=none, code:=(.ref 323), closureTuple:=.none, builtins:=0 }), #[]⟩
noncomputable def ob338 (_:Params):Obj:=⟨(.type "code"), none, (.fields #[(.str (Str.ofString "__init__") 780), (.str (Str.ofString "_NodeInfo.__init__") 781), (.str (Str.ofString "/claim/cut.py") 782), (.int 789 0), (.int 2 0), (.int 0 0), (.int 0 0), (.int 3 0), (.ref 333), (.bool true), (.int 181 0), (.ref 334), .none, (.ref 335), (.ref 336), (.ref 337), (.int 785 0), (.int 789 0), (.str (Str.ofString "/claim/cut.py") 786)]), #[]⟩
noncomputable def ob339 (_:Params):Obj:=⟨(.type "function"), none, (.func { name:=(Str.ofString "__init__"), qualname:=(Str.ofString "_NodeInfo.__init__"), params:=argsOf (sub 12 1), body:=.stmts (bodyOf (sub 12 1)), scope:=scopeOf (sub 12 1), globals:=3, closure:=[], defaults:=.none, kwdefaults:=.none, doc:=.none, pyModule:=(.str (Str.ofString "cpy313.graphlib") 756), annotations:=none, code:=(.ref 338), closureTuple:=.none, builtins:=0 }), #[]⟩
noncomputable def oq339 (p:Program) (_:Params):Obj:=⟨(.type "function"), none, (.func { name:=(Str.ofString "__init__"), qualname:=(Str.ofString "_NodeInfo.__init__"), params:=argsOf (subOf p 12 1), body:=.stmts (bodyOf (subOf p 12 1)), scope:=scopeOf (subOf p 12 1), globals:=3, closure:=[], defaults:=.none, kwdefaults:=.none, doc:=.none, pyModule:=(.str (Str.ofString "cpy313.graphlib") 756), annotations:=none, code:=(.ref 338), closureTuple:=.none, builtins:=0 }), #[]⟩
noncomputable def ob342 (P:Params):Obj:=⟨(.type "dict"), none, (.dict #[⟨PyData.keyHash P (Str.ofString "__module__"), (.str (Str.ofString "__module__") 771), (.str (Str.ofString "cpy313.graphlib") 756)⟩, ⟨PyData.keyHash P (Str.ofString "__firstlineno__"), (.str (Str.ofString "__firstlineno__") 775), (.int 786 774)⟩, ⟨PyData.keyHash P (Str.ofString "__slots__"), (.str (Str.ofString "__slots__") 779), (.ref 332)⟩, ⟨PyData.keyHash P (Str.ofString "__init__"), (.str (Str.ofString "__init__") 787), (.ref 339)⟩, ⟨PyData.keyHash P (Str.ofString "__static_attributes__"), (.str (Str.ofString "__static_attributes__") 791), (.ref 340)⟩, ⟨PyData.keyHash P (Str.ofString "node"), (.str (Str.ofString "node") 793), (.ref 344)⟩, ⟨PyData.keyHash P (Str.ofString "npredecessors"), (.str (Str.ofString "npredecessors") 795), (.ref 345)⟩, ⟨PyData.keyHash P (Str.ofString "successors"), (.str (Str.ofString "successors") 797), (.ref 346)⟩, ⟨PyData.keyHash P (Str.ofString "__doc__"), (.str (Str.ofString "__doc__") 798), .none⟩] 5), #[]⟩
noncomputable def ob343 (_:Params):Obj:=⟨(.type "type"), none, (.cls { name:=(Str.ofString "_NodeInfo"), bases:=[(.type "object")], mro:=[(.ref 343), (.type "object")], ns:=342, qualname:=(Str.ofString "_NodeInfo"), hasDict:=false, slotNames:=[(Str.ofString "node"), (Str.ofString "npredecessors"), (Str.ofString "successors")], subclasses:=[], abstract:=false, collection:=none, hasDel:=false }), #[none, none, some (.str (Str.ofString "_NodeInfo") 764), some (.str (Str.ofString "_NodeInfo") 772), some (.builtin "object.__new__"), some (.bool false)]⟩
noncomputable def ob344 (_:Params):Obj:=⟨(.type "member_descriptor"), none, (.fields #[(.str (Str.ofString "node") 792), (.ref 343), (.builtin "proto.slot"), (.builtin "proto.slot#set"), (.int 2 0)]), #[]⟩
noncomputable def ob345 (_:Params):Obj:=⟨(.type "member_descriptor"), none, (.fields #[(.str (Str.ofString "npredecessors") 794), (.ref 343), (.builtin "proto.slot"), (.builtin "proto.slot#set"), (.int 1 0)]), #[]⟩
noncomputable def ob346 (_:Params):Obj:=⟨(.type "member_descriptor"), none, (.fields #[(.str (Str.ofString "successors") 796), (.ref 343), (.builtin "proto.slot"), (.builtin "proto.slot#set"), (.int 0 0)]), #[]⟩
noncomputable def ob369 (_:Params):Obj:=⟨(.type "tuple"), none, (.seq #[.none] 0), #[]⟩
noncomputable def ob375 (_:Params):Obj:=⟨(.type "code"), none, (.fields #[(.str (Str.ofString "__init__") 836), (.str (Str.ofString "TopologicalSorter.__init__") 837), (.str (Str.ofString "/claim/cut.py") 838), (.int 808 0), (.int 2 0), (.int 0 0), (.int 0 0), (.int 3 0), (.ref 370), (.bool true), (.int 181 0), (.ref 371), .none, (.ref 372), (.ref 373), (.ref 374), (.int 843 0), (.int 808 0), (.str (Str.ofString "/claim/cut.py") 844)]), #[]⟩
noncomputable def ob376 (_:Params):Obj:=⟨(.type "function"), none, (.func { name:=(Str.ofString "__init__"), qualname:=(Str.ofString "TopologicalSorter.__init__"), params:=argsOf (sub 14 1), body:=.stmts (bodyOf (sub 14 1)), scope:=scopeOf (sub 14 1), globals:=3, closure:=[], defaults:=(.ref 369), kwdefaults:=.none, doc:=.none, pyModule:=(.str (Str.ofString "cpy313.graphlib") 756), annotations:=none, code:=(.ref 375), closureTuple:=.none, builtins:=0 }), #[]⟩
noncomputable def oq376 (p:Program) (_:Params):Obj:=⟨(.type "function"), none, (.func { name:=(Str.ofString "__init__"), qualname:=(Str.ofString "TopologicalSorter.__init__"), params:=argsOf (subOf p 14 1), body:=.stmts (bodyOf (subOf p 14 1)), scope:=scopeOf (subOf p 14 1), globals:=3, closure:=[], defaults:=(.ref 369), kwdefaults:=.none, doc:=.none, pyModule:=(.str (Str.ofString "cpy313.graphlib") 756), annotations:=none, code:=(.ref 375), closureTuple:=.none, builtins:=0 }), #[]⟩
noncomputable def ob382 (_:Params):Obj:=⟨(.type "code"), none, (.fields #[(.str (Str.ofString "_get_nodeinfo") 846), (.str (Str.ofString "TopologicalSorter._get_nodeinfo") 847), (.str (Str.ofString "/claim/cut.py") 848), (.int 817 0), (.int 2 0), (.int 0 0), (.int 0 0), (.int 3 0), (.ref 377), (.bool true), (.int 181 0), (.ref 378), .none, (.ref 379), (.ref 380), (.ref 381), (.int 852 0), (.int 817 0), (.str (Str.ofString "/claim/cut.py") 853)]), #[]⟩
noncomputable def ob383 (_:Params):Obj:=⟨(.type "function"), none, (.func { name:=(Str.ofString "_get_nodeinfo"), qualname:=(Str.ofString "TopologicalSorter._get_nodeinfo"), params:=argsOf (sub 14 2), body:=.stmts (bodyOf (sub 14 2)), scope:=scopeOf (sub 14 2), globals:=3, closure:=[], defaults:=.none, kwdefaults:=.none, doc:=.none, pyModule:=(.str (Str.ofString "cpy313.graphlib") 756), annotations:=none, code:=(.ref 382), closureTuple:=.none, builtins:=0 }), #[]⟩
noncomputable def oq383 (p:Program) (_:Params):Obj:=⟨(.type "function"), none, (.func { name:=(Str.ofString "_get_nodeinfo"), qualname:=(Str.ofString "TopologicalSorter._get_nodeinfo"), params:=argsOf (subOf p 14 2), body:=.stmts (bodyOf (subOf p 14 2)), scope:=scopeOf (subOf p 14 2), globals:=3, closure:=[], defaults:=.none, kwdefaults:=.none, doc:=.none, pyModule:=(.str (Str.ofString "cpy313.graphlib") 756), annotations:=none, code:=(.ref 382), closureTuple:=.none, builtins:=0 }), #[]⟩
noncomputable def ob389 (_:Params):Obj:=⟨(.type "code"), none, (.fields #[(.str (Str.ofString "add") 855), (.str (Str.ofString "TopologicalSorter.add") 856), (.str (Str.ofString "/claim/cut.py") 857), (.int 822 0), (.int 2 0), (.int 0 0), (.int 0 0), (.int 7 0), (.ref 384), (.bool true), (.int 181 0), (.ref 385), .none, (.ref 386), (.ref 387), (.ref 388), (.int 864 0), (.int 822 0), (.str (Str.ofString "/claim/cut.py") 865)]), #[]⟩
noncomputable def ob390 (_:Params):Obj:=⟨(.type "function"), none, (.func { name:=(Str.ofString "add"), qualname:=(Str.ofString "TopologicalSorter.add"), params:=argsOf (sub 14 3), body:=.stmts (bodyOf (sub 14 3)), scope:=scopeOf (sub 14 3), globals:=3, closure:=[], defaults:=.none, kwdefaults:=.none, doc:=(.str (docS (sub 14 3)) 866), pyModule:=(.str (Str.ofString "cpy313.graphlib") 756), annotations:=none, code:=(.ref 389), closureTuple:=.none, builtins:=0 }), #[]⟩
noncomputable def oq390 (p:Program) (_:Params):Obj:=⟨(.type "function"), none, (.func { name:=(Str.ofString "add"), qualname:=(Str.ofString "TopologicalSorter.add"), params:=argsOf (subOf p 14 3), body:=.stmts (bodyOf (subOf p 14 3)), scope:=scopeOf (subOf p 14 3), globals:=3, closure:=[], defaults:=.none, kwdefaults:=.none, doc:=(.str (docS (subOf p 14 3)) 866), pyModule:=(.str (Str.ofString "cpy313.graphlib") 756), annotations:=none, code:=(.ref 389), closureTuple:=.none, builtins:=0 }), #[]⟩
noncomputable def ob394 (_:Params):Obj:=⟨(.type "code"), none, (.fields #[(.str (Str.ofString "prepare") 868), (.str (Str.ofString "TopologicalSorter.prepare") 869), (.str (Str.ofString "/claim/cut.py") 870), (.int 845 0), (.int 1 0), (.int 0 0), (.int 0 0), (.int 3 0), (.ref 391), (.bool true), (.int 181 0), (.ref 392), .none, .none, .none, (.ref 393), (.int 871 0), (.int 845 0), (.str (Str.ofString "/claim/cut.py") 872)]), #[]⟩
noncomputable def ob395 (_:Params):Obj:=⟨(.type "function"), none, (.func { name:=(Str.ofString "prepare"), qualname:=(Str.ofString "TopologicalSorter.prepare"), params:=argsOf (sub 14 4), body:=.stmts (bodyOf (sub 14 4)), scope:=scopeOf (sub 14 4), globals:=3, closure:=[], defaults:=.none, kwdefaults:=.none, doc:=(.str (docS (sub 14 4)) 873), pyModule:=(.str (Str.ofString "cpy313.graphlib") 756), annotations:=none, code:=(.ref 394), closureTuple:=.none, builtins:=0 }), #[]⟩
noncomputable def oq395 (p:Program) (_:Params):Obj:=⟨(.type "function"), none, (.func { name:=(Str.ofString "prepare"), qualname:=(Str.ofString "TopologicalSorter.prepare"), params:=argsOf (subOf p 14 4), body:=.stmts (bodyOf (subOf p 14 4)), scope:=scopeOf (subOf p 14 4), globals:=3, closure:=[], defaults:=.none, kwdefaults:=.none, doc:=(.str (docS (subOf p 14 4)) 873), pyModule:=(.str (Str.ofString "cpy313.graphlib") 756), annotations:=none, code:=(.ref 394), closureTuple:=.none, builtins:=0 }), #[]⟩
noncomputable def ob401 (_:Params):Obj:=⟨(.type "code"), none, (.fields #[(.str (Str.ofString "get_ready") 875), (.str (Str.ofString "TopologicalSorter.get_ready") 876), (.str (Str.ofString "/claim/cut.py") 877), (.int 860 0), (.int 1 0), (.int 0 0), (.int 0 0), (.int 3 0), (.ref 396), (.bool true), (.int 181 0), (.ref 397), .none, (.ref 398), (.ref 399), (.ref 400), (.int 882 0), (.int 860 0), (.str (Str.ofString "/claim/cut.py") 883)]), #[]⟩
noncomputable def ob402 (_:Params):Obj:=⟨(.type "function"), none, (.func { name:=(Str.ofString "get_ready"), qualname:=(Str.ofString "TopologicalSorter.get_ready"), params:=argsOf (sub 14 5), body:=.stmts (bodyOf (sub 14 5)), scope:=scopeOf (sub 14 5), globals:=3, closure:=[], defaults:=.none, kwdefaults:=.none, doc:=(.str (docS (sub 14 5)) 884), pyModule:=(.str (Str.ofString "cpy313.graphlib") 756), annotations:=none, code:=(.ref 401), closureTuple:=.none, builtins:=0 }), #[]⟩
noncomputable def oq402 (p:Program) (_:Params):Obj:=⟨(.type "function"), none, (.func { name:=(Str.ofString "get_ready"), qualname:=(Str.ofString "TopologicalSorter.get_ready"), params:=argsOf (subOf p 14 5), body:=.stmts (bodyOf (subOf p 14 5)), scope:=scopeOf (subOf p 14 5), globals:=3, closure:=[], defaults:=.none, kwdefaults:=.none, doc:=(.str (docS (subOf p 14 5)) 884), pyModule:=(.str (Str.ofString "cpy313.graphlib") 756), annotations:=none, code:=(.ref 401), closureTuple:=.none, builtins:=0 }), #[]⟩
noncomputable def ob408 (_:Params):Obj:=⟨(.type "code"), none, (.fields #[(.str (Str.ofString "is_active") 886), (.str (Str.ofString "TopologicalSorter.is_active") 887), (.str (Str.ofString "/claim/cut.py") 888), (.int 880 0), (.int 1 0), (.int 0 0), (.int 0 0), (.int 3 0), (.ref 403), (.bool true), (.int 181 0), (.ref 404), .none, (.ref 405), (.ref 406), (.ref 407), (.int 890 0), (.int 880 0), (.str (Str.ofString "/claim/cut.py") 891)]), #[]⟩
noncomputable def ob409 (_:Params):Obj:=⟨(.type "function"), none, (.func { name:=(Str.ofString "is_active"), qualname:=(Str.ofString "TopologicalSorter.is_active"), params:=argsOf (sub 14 6), body:=.stmts (bodyOf (sub 14 6)), scope:=scopeOf (sub 14 6), globals:=3, closure:=[], defaults:=.none, kwdefaults:=.none, doc:=(.str (docS (sub 14 6)) 892), pyModule:=(.str (Str.ofString "cpy313.graphlib") 756), annotations:=none, code:=(.ref 408), closureTuple:=.none, builtins:=0 }), #[]⟩
noncomputable def oq409 (p:Program) (_:Params):Obj:=⟨(.type "function"), none, (.func { name:=(Str.ofString "is_active"), qualname:=(Str.ofString "TopologicalSorter.is_active"), params:=argsOf (subOf p 14 6), body:=.stmts (bodyOf (subOf p 14 6)), scope:=scopeOf (subOf p 14 6), globals:=3, closure:=[], defaults:=.none, kwdefaults:=.none, doc:=(.str (docS (subOf p 14 6)) 892), pyModule:=(.str (Str.ofString "cpy313.graphlib") 756), annotations:=none, code:=(.ref 408), closureTuple:=.none, builtins:=0 }), #[]⟩
noncomputable def ob422 (_:Params):Obj:=⟨(.type "code"), none, (.fields #[(.str (Str.ofString "done") 901), (.str (Str.ofString "TopologicalSorter.done") 902), (.str (Str.ofString "/claim/cut.py") 903), (.int 897 0), (.int 1 0), (.int 0 0), (.int 0 0), (.int 7 0), (.ref 417), (.bool true), (.int 181 0), (.ref 418), .none, (.ref 419), (.ref 420), (.ref 421), (.int 912 0), (.int 897 0), (.str (Str.ofString "/claim/cut.py") 913)]), #[]⟩
noncomputable def ob423 (_:Params):Obj:=⟨(.type "function"), none, (.func { name:=(Str.ofString "done"), qualname:=(Str.ofString "TopologicalSorter.done"), params:=argsOf (sub 14 8), body:=.stmts (bodyOf (sub 14 8)), scope:=scopeOf (sub 14 8), globals:=3, closure:=[], defaults:=.none, kwdefaults:=.none, doc:=(.str (docS (sub 14 8)) 914), pyModule:=(.str (Str.ofString "cpy313.graphlib") 756), annotations:=none, code:=(.ref 422), closureTuple:=.none, builtins:=0 }), #[]⟩
noncomputable def oq423 (p:Program) (_:Params):Obj:=⟨(.type "function"), none, (.func { name:=(Str.ofString "done"), qualname:=(Str.ofString "TopologicalSorter.done"), params:=argsOf (subOf p 14 8), body:=.stmts (bodyOf (subOf p 14 8)), scope:=scopeOf (subOf p 14 8), globals:=3, closure:=[], defaults:=.none, kwdefaults:=.none, doc:=(.str (docS (subOf p 14 8)) 914), pyModule:=(.str (Str.ofString "cpy313.graphlib") 756), annotations:=none, code:=(.ref 422), closureTuple:=.none, builtins:=0 }), #[]⟩
noncomputable def ob429 (_:Params):Obj:=⟨(.type "code"), none, (.fields #[(.str (Str.ofString "_find_cycle") 916), (.str (Str.ofString "TopologicalSorter._find_cycle") 917), (.str (Str.ofString "/claim/cut.py") 918), (.int 930 0), (.int 1 0), (.int 0 0), (.int 0 0), (.int 3 0), (.ref 424), (.bool true), (.int 181 0), (.ref 425), .none, (.ref 426), (.ref 427), (.ref 428), (.int 926 0), (.int 930 0), (.str (Str.ofString "/claim/cut.py") 927)]), #[]⟩
noncomputable def ob430 (_:Params):Obj:=⟨(.type "function"), none, (.func { name:=(Str.ofString "_find_cycle"), qualname:=(Str.ofString "TopologicalSorter._find_cycle"), params:=argsOf (sub 14 9), body:=.stmts (bodyOf (sub 14 9)), scope:=scopeOf (sub 14 9), globals:=3, closure:=[], defaults:=.none, kwdefaults:=.none, doc:=.none, pyModule:=(.str (Str.ofString "cpy313.graphlib") 756), annotations:=none, code:=(.ref 429), closureTuple:=.none, builtins:=0 }), #[]⟩
noncomputable def oq430 (p:Program) (_:Params):Obj:=⟨(.type "function"), none, (.func { name:=(Str.ofString "_find_cycle"), qualname:=(Str.ofString "TopologicalSorter._find_cycle"), params:=argsOf (subOf p 14 9), body:=.stmts (bodyOf (subOf p 14 9)), scope:=scopeOf (subOf p 14 9), globals:=3, closure:=[], defaults:=.none, kwdefaults:=.none, doc:=.none, pyModule:=(.str (Str.ofString "cpy313.graphlib") 756), annotations:=none, code:=(.ref 429), closureTuple:=.none, builtins:=0 }), #[]⟩
noncomputable def ob439 (P:Params):Obj:=⟨(.type "dict"), none, (.dict #[⟨PyData.keyHash P (Str.ofString "__module__"), (.str (Str.ofString "__module__") 828), (.str (Str.ofString "cpy313.graphlib") 756)⟩, ⟨PyData.keyHash P (Str.ofString "__firstlineno__"), (.str (Str.ofString "__firstlineno__") 832), (.int 805 831)⟩, ⟨PyData.keyHash P (Str.ofString "__doc__"), (.str (Str.ofString "__doc__") 834), (.str (docS (top 14)) 833)⟩, ⟨PyData.keyHash P (Str.ofString "__init__"), (.str (Str.ofString "__init__") 845), (.ref 376)⟩, ⟨PyData.keyHash P (Str.ofString "_get_nodeinfo"), (.str (Str.ofString "_get_nodeinfo") 854), (.ref 383)⟩, ⟨PyData.keyHash P (Str.ofString "add"), (.str (Str.ofString "add") 867), (.ref 390)⟩, ⟨PyData.keyHash P (Str.ofString "prepare"), (.str (Str.ofString "prepare") 874), (.ref 395)⟩, ⟨PyData.keyHash P (Str.ofString "get_ready"), (.str (Str.ofString "get_ready") 885), (.ref 402)⟩, ⟨PyData.keyHash P (Str.ofString "is_active"), (.str (Str.ofString "is_active") 893), (.ref 409)⟩, ⟨PyData.keyHash P (Str.ofString "__bool__"), (.str (Str.ofString "__bool__") 900), (.ref 416)⟩, ⟨PyData.keyHash P (Str.ofString "done"), (.str (Str.ofString "done") 915), (.ref 423)⟩, ⟨PyData.keyHash P (Str.ofString "_find_cycle"), (.str (Str.ofString "_find_cycle") 928), (.ref 430)⟩, ⟨PyData.keyHash P (Str.ofString "static_order"), (.str (Str.ofString "static_order") 935), (.ref 437)⟩, ⟨PyData.keyHash P (Str.ofString "__static_attributes__"), (.str (Str.ofString "__static_attributes__") 940), (.ref 438)⟩, ⟨PyData.keyHash P (Str.ofString "__dict__"), (.str (Str.ofString "__dict__") 942), (.ref 441)⟩, ⟨PyData.keyHash P (Str.ofString "__weakref__"), (.str (Str.ofString "__weakref__") 944), (.ref 442)⟩] 3), #[]⟩
noncomputable def oq439c0 (p:Program) (P:Params):List DictEntry:=[⟨PyData.keyHash P (Str.ofString "__module__"), (.str (Str.ofString "__module__") 828), (.str (Str.ofString "cpy313.graphlib") 756)⟩, ⟨PyData.keyHash P (Str.ofString "__firstlineno__"), (.str (Str.ofString "__firstlineno__") 832), (.int 805 831)⟩, ⟨PyData.keyHash P (Str.ofString "__doc__"), (.str (Str.ofString "__doc__") 834), (.str (docS (topOf p 14)) 833)⟩, ⟨PyData.keyHash P (Str.ofString "__init__"), (.str (Str.ofString "__init__") 845), (.ref 376)⟩, ⟨PyData.keyHash P (Str.ofString "_get_nodeinfo"), (.str (Str.ofString "_get_nodeinfo") 854), (.ref 383)⟩]
noncomputable def oq439c5 (p:Program) (P:Params):List DictEntry:=[⟨PyData.keyHash P (Str.ofString "add"), (.str (Str.ofString "add") 867), (.ref 390)⟩, ⟨PyData.keyHash P (Str.ofString "prepare"), (.str (Str.ofString "prepare") 874), (.ref 395)⟩, ⟨PyData.keyHash P (Str.ofString "get_ready"), (.str (Str.ofString "get_ready") 885), (.ref 402)⟩, ⟨PyData.keyHash P (Str.ofString "is_active"), (.str (Str.ofString "is_active") 893), (.ref 409)⟩, ⟨PyData.keyHash P (Str.ofString "__bool__"), (.str (Str.ofString "__bool__") 900), (.ref 416)⟩]
noncomputable def oq439c10 (p:Program) (P:Params):List DictEntry:=[⟨PyData.keyHash P (Str.ofString "done"), (.str (Str.ofString "done") 915), (.ref 423)⟩, ⟨PyData.keyHash P (Str.ofString "_find_cycle"), (.str (Str.ofString "_find_cycle") 928), (.ref 430)⟩, ⟨PyData.keyHash P (Str.ofString "static_order"), (.str (Str.ofString "static_order") 935), (.ref 437)⟩, ⟨PyData.keyHash P (Str.ofString "__static_attributes__"), (.str (Str.ofString "__static_attributes__") 940), (.ref 438)⟩, ⟨PyData.keyHash P (Str.ofString "__dict__"), (.str (Str.ofString "__dict__") 942), (.ref 441)⟩]
noncomputable def oq439c15 (p:Program) (P:Params):List DictEntry:=[⟨PyData.keyHash P (Str.ofString "__weakref__"), (.str (Str.ofString "__weakref__") 944), (.ref 442)⟩]
noncomputable def oq439 (p:Program) (P:Params):Obj:=⟨(.type "dict"), none, (.dict ((oq439c0 p P ++ (oq439c5 p P ++ (oq439c10 p P ++ (oq439c15 p P)))).toArray) 3), #[]⟩
noncomputable def ob440 (_:Params):Obj:=⟨(.type "type"), none, (.cls { name:=(Str.ofString "TopologicalSorter"), bases:=[(.type "object")], mro:=[(.ref 440), (.type "object")], ns:=439, qualname:=(Str.ofString "TopologicalSorter"), hasDict:=true, slotNames:=[], subclasses:=[], abstract:=false, collection:=none, hasDel:=false }), #[none, none, some (.str (Str.ofString "TopologicalSorter") 821), some (.str (Str.ofString "TopologicalSorter") 829), some (.builtin "object.__new__"), some (.bool true)]⟩
noncomputable def ob441 (_:Params):Obj:=⟨(.type "getset_descriptor"), none, (.fields #[(.str (Str.ofString "__dict__") 941), (.ref 440), (.builtin "function.__dict__"), (.builtin "function.__dict__#set")]), #[]⟩
noncomputable def ob442 (_:Params):Obj:=⟨(.type "getset_descriptor"), none, (.fields #[(.str (Str.ofString "__weakref__") 943), (.ref 440), (.builtin "ExceptionGroup.__weakref__"), .none]), #[]⟩
noncomputable def ob450 (_:Params):Obj:=⟨(.type "code"), none, (.fields #[(.str (Str.ofString "_law_text") 949), (.str (Str.ofString "_law_text") 950), (.str (Str.ofString "/claim/cut.py") 951), (.int 962 0), (.int 1 0), (.int 0 0), (.int 0 0), (.int 3 0), (.ref 445), (.bool true), (.int 181 0), (.ref 446), .none, (.ref 447), (.ref 448), (.ref 449), (.int 953 0), (.int 962 0), (.str (Str.ofString "/claim/cut.py") 954)]), #[]⟩
noncomputable def ob451 (_:Params):Obj:=⟨(.type "function"), none, (.func { name:=(Str.ofString "_law_text"), qualname:=(Str.ofString "_law_text"), params:=argsOf (top 16), body:=.stmts (bodyOf (top 16)), scope:=scopeOf (top 16), globals:=3, closure:=[], defaults:=.none, kwdefaults:=.none, doc:=.none, pyModule:=(.str (Str.ofString "law_mu0013_01") 947), annotations:=none, code:=(.ref 450), closureTuple:=.none, builtins:=0 }), #[]⟩
noncomputable def oq451 (p:Program) (_:Params):Obj:=⟨(.type "function"), none, (.func { name:=(Str.ofString "_law_text"), qualname:=(Str.ofString "_law_text"), params:=argsOf (topOf p 16), body:=.stmts (bodyOf (topOf p 16)), scope:=scopeOf (topOf p 16), globals:=3, closure:=[], defaults:=.none, kwdefaults:=.none, doc:=.none, pyModule:=(.str (Str.ofString "law_mu0013_01") 947), annotations:=none, code:=(.ref 450), closureTuple:=.none, builtins:=0 }), #[]⟩
noncomputable def ob455 (_:Params):Obj:=⟨(.type "code"), none, (.fields #[(.str (Str.ofString "_law_told") 956), (.str (Str.ofString "_law_told") 957), (.str (Str.ofString "/claim/cut.py") 958), (.int 964 0), (.int 2 0), (.int 0 0), (.int 0 0), (.int 3 0), (.ref 452), (.bool true), (.int 181 0), (.ref 453), .none, .none, .none, (.ref 454), (.int 959 0), (.int 964 0), (.str (Str.ofString "/claim/cut.py") 960)]), #[]⟩
noncomputable def ob456 (_:Params):Obj:=⟨(.type "function"), none, (.func { name:=(Str.ofString "_law_told"), qualname:=(Str.ofString "_law_told"), params:=argsOf (top 17), body:=.stmts (bodyOf (top 17)), scope:=scopeOf (top 17), globals:=3, closure:=[], defaults:=.none, kwdefaults:=.none, doc:=.none, pyModule:=(.str (Str.ofString "law_mu0013_01") 947), annotations:=none, code:=(.ref 455), closureTuple:=.none, builtins:=0 }), #[]⟩
noncomputable def oq456 (p:Program) (_:Params):Obj:=⟨(.type "function"), none, (.func { name:=(Str.ofString "_law_told"), qualname:=(Str.ofString "_law_told"), params:=argsOf (topOf p 17), body:=.stmts (bodyOf (topOf p 17)), scope:=scopeOf (topOf p 17), globals:=3, closure:=[], defaults:=.none, kwdefaults:=.none, doc:=.none, pyModule:=(.str (Str.ofString "law_mu0013_01") 947), annotations:=none, code:=(.ref 455), closureTuple:=.none, builtins:=0 }), #[]⟩
noncomputable def ob462 (_:Params):Obj:=⟨(.type "code"), none, (.fields #[(.str (Str.ofString "_law_finished") 962), (.str (Str.ofString "_law_finished") 963), (.str (Str.ofString "/claim/cut.py") 964), (.int 975 0), (.int 2 0), (.int 0 0), (.int 0 0), (.int 3 0), (.ref 457), (.bool true), (.int 181 0), (.ref 458), .none, (.ref 459), (.ref 460), (.ref 461), (.int 968 0), (.int 975 0), (.str (Str.ofString "/claim/cut.py") 969)]), #[]⟩
noncomputable def ob463 (_:Params):Obj:=⟨(.type "function"), none, (.func { name:=(Str.ofString "_law_finished"), qualname:=(Str.ofString "_law_finished"), params:=argsOf (top 18), body:=.stmts (bodyOf (top 18)), scope:=scopeOf (top 18), globals:=3, closure:=[], defaults:=.none, kwdefaults:=.none, doc:=.none, pyModule:=(.str (Str.ofString "law_mu0013_01") 947), annotations:=none, code:=(.ref 462), closureTuple:=.none, builtins:=0 }), #[]⟩
noncomputable def oq463 (p:Program) (_:Params):Obj:=⟨(.type "function"), none, (.func { name:=(Str.ofString "_law_finished"), qualname:=(Str.ofString "_law_finished"), params:=argsOf (topOf p 18), body:=.stmts (bodyOf (topOf p 18)), scope:=scopeOf (topOf p 18), globals:=3, closure:=[], defaults:=.none, kwdefaults:=.none, doc:=.none, pyModule:=(.str (Str.ofString "law_mu0013_01") 947), annotations:=none, code:=(.ref 462), closureTuple:=.none, builtins:=0 }), #[]⟩
noncomputable def ob467 (_:Params):Obj:=⟨(.type "code"), none, (.fields #[(.str (Str.ofString "_law_worked") 971), (.str (Str.ofString "_law_worked") 972), (.str (Str.ofString "/claim/cut.py") 973), (.int 980 0), (.int 3 0), (.int 0 0), (.int 0 0), (.int 3 0), (.ref 464), (.bool true), (.int 181 0), (.ref 465), .none, .none, .none, (.ref 466), (.int 974 0), (.int 980 0), (.str (Str.ofString "/claim/cut.py") 975)]), #[]⟩
noncomputable def ob468 (_:Params):Obj:=⟨(.type "function"), none, (.func { name:=(Str.ofString "_law_worked"), qualname:=(Str.ofString "_law_worked"), params:=argsOf (top 19), body:=.stmts (bodyOf (top 19)), scope:=scopeOf (top 19), globals:=3, closure:=[], defaults:=.none, kwdefaults:=.none, doc:=.none, pyModule:=(.str (Str.ofString "law_mu0013_01") 947), annotations:=none, code:=(.ref 467), closureTuple:=.none, builtins:=0 }), #[]⟩
noncomputable def oq468 (p:Program) (_:Params):Obj:=⟨(.type "function"), none, (.func { name:=(Str.ofString "_law_worked"), qualname:=(Str.ofString "_law_worked"), params:=argsOf (topOf p 19), body:=.stmts (bodyOf (topOf p 19)), scope:=scopeOf (topOf p 19), globals:=3, closure:=[], defaults:=.none, kwdefaults:=.none, doc:=.none, pyModule:=(.str (Str.ofString "law_mu0013_01") 947), annotations:=none, code:=(.ref 467), closureTuple:=.none, builtins:=0 }), #[]⟩
noncomputable def ob472 (_:Params):Obj:=⟨(.type "code"), none, (.fields #[(.str (Str.ofString "law") 977), (.str (Str.ofString "law") 978), (.str (Str.ofString "/claim/cut.py") 979), (.int 1007 0), (.int 1 0), (.int 0 0), (.int 0 0), (.int 3 0), (.ref 469), (.bool true), (.int 181 0), (.ref 470), .none, .none, .none, (.ref 471), (.int 980 0), (.int 1007 0), (.str (Str.ofString "/claim/cut.py") 981)]), #[]⟩
noncomputable def ob473 (_:Params):Obj:=⟨(.type "function"), none, (.func { name:=(Str.ofString "law"), qualname:=(Str.ofString "law"), params:=argsOf (top 20), body:=.stmts (bodyOf (top 20)), scope:=scopeOf (top 20), globals:=3, closure:=[], defaults:=.none, kwdefaults:=.none, doc:=.none, pyModule:=(.str (Str.ofString "law_mu0013_01") 947), annotations:=none, code:=(.ref 472), closureTuple:=.none, builtins:=0 }), #[]⟩
noncomputable def oq473 (p:Program) (_:Params):Obj:=⟨(.type "function"), none, (.func { name:=(Str.ofString "law"), qualname:=(Str.ofString "law"), params:=argsOf (topOf p 20), body:=.stmts (bodyOf (topOf p 20)), scope:=scopeOf (topOf p 20), globals:=3, closure:=[], defaults:=.none, kwdefaults:=.none, doc:=.none, pyModule:=(.str (Str.ofString "law_mu0013_01") 947), annotations:=none, code:=(.ref 472), closureTuple:=.none, builtins:=0 }), #[]⟩
noncomputable def K2 (P:Params):Frag:=(nat_lit 2, ob2 P) :: (nat_lit 3, ob3 P) :: (nat_lit 261, ob261 P) :: (nat_lit 267, ob267 P) :: (nat_lit 268, ob268 P) :: (nat_lit 281, ob281 P) :: (nat_lit 282, ob282 P) :: (nat_lit 312, ob312 P) :: (nat_lit 313, ob313 P) :: (nat_lit 314, ob314 P) :: (nat_lit 315, ob315 P) :: (nat_lit 323, ob323 P) :: (nat_lit 324, ob324 P) :: (nat_lit 338, ob338 P) :: (nat_lit 339, ob339 P) :: (nat_lit 342, ob342 P) :: (nat_lit 343, ob343 P) :: (nat_lit 344, ob344 P) :: (nat_lit 345, ob345 P) :: (nat_lit 346, ob346 P) :: (nat_lit 369, ob369 P) :: (nat_lit 375, ob375 P) :: (nat_lit 376, ob376 P) :: (nat_lit 382, ob382 P) :: (nat_lit 383, ob383 P) :: (nat_lit 389, ob389 P) :: (nat_lit 390, ob390 P) :: (nat_lit 394, ob394 P) :: (nat_lit 395, ob395 P) :: (nat_lit 401, ob401 P) :: (nat_lit 402, ob402 P) :: (nat_lit 408, ob408 P) :: (nat_lit 409, ob409 P) :: (nat_lit 422, ob422 P) :: (nat_lit 423, ob423 P) :: (nat_lit 429, ob429 P) :: (nat_lit 430, ob430 P) :: (nat_lit 439, ob439 P) :: (nat_lit 440, ob440 P) :: (nat_lit 441, ob441 P) :: (nat_lit 442, ob442 P) :: (nat_lit 450, ob450 P) :: (nat_lit 451, ob451 P) :: (nat_lit 455, ob455 P) :: (nat_lit 456, ob456 P) :: (nat_lit 462, ob462 P) :: (nat_lit 463, ob463 P) :: (nat_lit 467, ob467 P) :: (nat_lit 468, ob468 P) :: (nat_lit 472, ob472 P) :: (nat_lit 473, ob473 P) :: []
noncomputable def K2q (p:Program) (P:Params):Frag:=(nat_lit 2, ob2 P) :: (nat_lit 3, oq3 p P) :: (nat_lit 261, ob261 P) :: (nat_lit 267, ob267 P) :: (nat_lit 268, oq268 p P) :: (nat_lit 281, ob281 P) :: (nat_lit 282, oq282 p P) :: (nat_lit 312, oq312 p P) :: (nat_lit 313, ob313 P) :: (nat_lit 314, ob314 P) :: (nat_lit 315, ob315 P) :: (nat_lit 323, ob323 P) :: (nat_lit 324, oq324 p P) :: (nat_lit 338, ob338 P) :: (nat_lit 339, oq339 p P) :: (nat_lit 342, ob342 P) :: (nat_lit 343, ob343 P) :: (nat_lit 344, ob344 P) :: (nat_lit 345, ob345 P) :: (nat_lit 346, ob346 P) :: (nat_lit 369, ob369 P) :: (nat_lit 375, ob375 P) :: (nat_lit 376, oq376 p P) :: (nat_lit 382, ob382 P) :: (nat_lit 383, oq383 p P) :: (nat_lit 389, ob389 P) :: (nat_lit 390, oq390 p P) :: (nat_lit 394, ob394 P) :: (nat_lit 395, oq395 p P) :: (nat_lit 401, ob401 P) :: (nat_lit 402, oq402 p P) :: (nat_lit 408, ob408 P) :: (nat_lit 409, oq409 p P) :: (nat_lit 422, ob422 P) :: (nat_lit 423, oq423 p P) :: (nat_lit 429, ob429 P) :: (nat_lit 430, oq430 p P) :: (nat_lit 439, oq439 p P) :: (nat_lit 440, ob440 P) :: (nat_lit 441, ob441 P) :: (nat_lit 442, ob442 P) :: (nat_lit 450, ob450 P) :: (nat_lit 451, oq451 p P) :: (nat_lit 455, ob455 P) :: (nat_lit 456, oq456 p P) :: (nat_lit 462, ob462 P) :: (nat_lit 463, oq463 p P) :: (nat_lit 467, ob467 P) :: (nat_lit 468, oq468 p P) :: (nat_lit 472, ob472 P) :: (nat_lit 473, oq473 p P) :: []
noncomputable def k2L0 (p:Program) (P:Params) (r:List (Addr × Obj)):List (Addr × Obj):=(nat_lit 2, ob2 P) :: (nat_lit 3, oq3 p P) :: (nat_lit 261, ob261 P) :: (nat_lit 267, ob267 P) :: (nat_lit 268, oq268 p P) :: (nat_lit 281, ob281 P) :: (nat_lit 282, oq282 p P) :: (nat_lit 312, oq312 p P) :: (nat_lit 313, ob313 P) :: (nat_lit 314, ob314 P) :: (nat_lit 315, ob315 P) :: (nat_lit 323, ob323 P) :: r
noncomputable def k2L1 (p:Program) (P:Params) (r:List (Addr × Obj)):List (Addr × Obj):=(nat_lit 324, oq324 p P) :: (nat_lit 338, ob338 P) :: (nat_lit 339, oq339 p P) :: (nat_lit 342, ob342 P) :: (nat_lit 343, ob343 P) :: (nat_lit 344, ob344 P) :: (nat_lit 345, ob345 P) :: (nat_lit 346, ob346 P) :: (nat_lit 369, ob369 P) :: (nat_lit 375, ob375 P) :: (nat_lit 376, oq376 p P) :: (nat_lit 382, ob382 P) :: r
noncomputable def k2L2 (p:Program) (P:Params) (r:List (Addr × Obj)):List (Addr × Obj):=(nat_lit 383, oq383 p P) :: (nat_lit 389, ob389 P) :: (nat_lit 390, oq390 p P) :: (nat_lit 394, ob394 P) :: (nat_lit 395, oq395 p P) :: (nat_lit 401, ob401 P) :: (nat_lit 402, oq402 p P) :: (nat_lit 408, ob408 P) :: (nat_lit 409, oq409 p P) :: (nat_lit 422, ob422 P) :: (nat_lit 423, oq423 p P) :: (nat_lit 429, ob429 P) :: r
noncomputable def k2L3 (p:Program) (P:Params) (r:List (Addr × Obj)):List (Addr × Obj):=(nat_lit 430, oq430 p P) :: (nat_lit 439, oq439 p P) :: (nat_lit 440, ob440 P) :: (nat_lit 441, ob441 P) :: (nat_lit 442, ob442 P) :: (nat_lit 450, ob450 P) :: (nat_lit 451, oq451 p P) :: (nat_lit 455, ob455 P) :: (nat_lit 456, oq456 p P) :: (nat_lit 462, ob462 P) :: (nat_lit 463, oq463 p P) :: (nat_lit 467, ob467 P) :: r
noncomputable def k2L4 (p:Program) (P:Params) (r:List (Addr × Obj)):List (Addr × Obj):=(nat_lit 468, oq468 p P) :: (nat_lit 472, ob472 P) :: (nat_lit 473, oq473 p P) :: r
noncomputable def k2L (p:Program) (P:Params):List (Addr × Obj):=k2L0 p P (k2L1 p P (k2L2 p P (k2L3 p P (k2L4 p P []))))
noncomputable def asK2:List Addr:=nat_lit 2 :: nat_lit 3 :: nat_lit 261 :: nat_lit 267 :: nat_lit 268 :: nat_lit 281 :: nat_lit 282 :: nat_lit 312 :: nat_lit 313 :: nat_lit 314 :: nat_lit 315 :: nat_lit 323 :: nat_lit 324 :: nat_lit 338 :: nat_lit 339 :: nat_lit 342 :: nat_lit 343 :: nat_lit 344 :: nat_lit 345 :: nat_lit 346 :: nat_lit 369 :: nat_lit 375 :: nat_lit 376 :: nat_lit 382 :: nat_lit 383 :: nat_lit 389 :: nat_lit 390 :: nat_lit 394 :: nat_lit 395 :: nat_lit 401 :: nat_lit 402 :: nat_lit 408 :: nat_lit 409 :: nat_lit 422 :: nat_lit 423 :: nat_lit 429 :: nat_lit 430 :: nat_lit 439 :: nat_lit 440 :: nat_lit 441 :: nat_lit 442 :: nat_lit 450 :: nat_lit 451 :: nat_lit 455 :: nat_lit 456 :: nat_lit 462 :: nat_lit 463 :: nat_lit 467 :: nat_lit 468 :: nat_lit 472 :: nat_lit 473 :: []
noncomputable def q2:Program:=view pw_mu0013_01 [0, 2, 3, 4, 5, 6, 7, 8, 10, 11, 12, 13, 14, 16, 17, 18, 19, 20]
noncomputable def qF (sg:Nat→Str):Program:=view (pq sg) [0, 2, 3, 4, 5, 6, 7, 8, 10, 11, 12, 13, 14, 16, 17, 18, 19, 20]
noncomputable def loose2:List Str:=[Str.ofString "_tuplegetter", Str.ofString "Match", Str.ofString "SequenceMatcher", Str.ofString "_NodeInfo"]
noncomputable def xtF (sg:Nat→Str) (s:Shared):Bool:=xlAt (qF sg) [] s && recOk [] s
theorem asK2_eq (P:Params):asK2 = (K2 P).map (·.1):=by kernel_rfl
theorem k2q_eq (P:Params):K2 P = K2q pw_mu0013_01 P:=by kernel_rfl
noncomputable def obs2 (s:Shared):List (Option Obj):=getsOf s.heap asK2
noncomputable def val2 (sg:Nat→Str) (w:World):List (Option Obj):=optsOf (k2L (pq sg) w.params)
noncomputable def whole2 (sg:Nat→Str) (w:World) (os:OsState):=wholeBy tableQ (pq sg) (qF sg) loose2 (xtF sg) 7772 w (s0T w os) ((boot_heap w.params).nsMap mainGlobals "__annotations__") (boot_heap w.params)
noncomputable def look2 (sg:Nat→Str) (w:World) (os:OsState):=lookBy tableQ (pq sg) obs2 7772 w (s0T w os) ((boot_heap w.params).nsMap mainGlobals "__annotations__") (boot_heap w.params)
noncomputable def good2 (sg:Nat→Str):=some (openGood (qF sg) loose2)
noncomputable def some2 (sg:Nat→Str) (w:World):=some (val2 sg w)
theorem warm:(fun (_:(Nat→Str)→World→OsState→_) (_:(Nat→Str)→Option _) (_:(Nat→Str)→World→OsState→_) (_:(Nat→Str)→World→_)=>true) whole2 good2 look2 some2 = true:=by k_qdec
noncomputable def rq (sg:Nat→Str):OpenLaw:={ prog:=pq sg, name:=(Str.ofString "law"), about:=[(Str.ofString "restore")], foot:=5, most:=some 63, bound:=none, writes:=false }
noncomputable def ws2 (sd:Nat→Str):Bool:=(rq (sgW sd)).wellSaid
theorem warm2:(fun (_:(Nat→Str)→Bool)=>true) ws2 = true:=by k_qdec
set_option maxHeartbeats 0 in
theorem ws (sd:Nat→Str):(rq (sgW sd)).wellSaid = true:=by
  show ws2 sd = true
  rw [PySem.W.Fast.te5592473082009754111]
  kernel_rfl
set_option maxHeartbeats 0 in
theorem check2 (sg:Nat→Str) (w:World):(fun os=>whole2 sg w os) = fun _=>good2 sg:=by
  rw [PySem.W.Fast.te15179355093673937389, PySem.W.Fast.te11298493513894420602]
  kernel_rfl
set_option maxHeartbeats 0 in
theorem looked2 (sg:Nat→Str) (w:World):(fun os=>look2 sg w os) = fun _=>some2 sg w:=by
  rw [PySem.W.Fast.te12524428103089493377, PySem.W.Fast.te9986505569669292960]
  kernel_rfl
theorem left2':LeftO (pq sg0) (qF sg0) loose2 (xtF sg0) obs2 (val2 sg0) 7772 true :=
  left_of (boot_open (by kernel_rfl) (by decide) (fun _=>by kernel_rfl)) (check2 sg0) (looked2 sg0)

noncomputable def d2:DefRec:=⟨Str.ofString "law", argsOf (top 20), bodyOf (top 20), scopeOf (top 20), ⟨1007, 0, 1027, 15⟩⟩
noncomputable def dF:DefRec:=⟨Str.ofString "law", argsOf (topOf (pq sg0) 20), bodyOf (topOf (pq sg0) 20), scopeOf (topOf (pq sg0) 20), ⟨1007, 0, 1027, 15⟩⟩
theorem kq_eq (p:Program) (P:Params):optsOf (k2L p P) = (K2q p P).map fun x=>some x.2:=optsOf_eq _
theorem k2_in (w:World) (s:Shared) (e:obs2 s = val2 sg0 w):InK K2 w s.heap:=by
  refine InK.of (K:=K2) asK2_eq w s ?_
  rw [← getsOf_eq]
  refine (e.trans (kq_eq (pq sg0) w.params)).trans ?_
  rw [k2q_eq, pq_eq]
theorem rq_eq:rw_mu0013_01 = rq sg0:=by
  unfold rw_mu0013_01 rq
  rw [pq_eq]
theorem head2q (walk:WalkO (qF sg0) loose2 (XL (qF sg0) []) (InK K2) (rq sg0).row.toRowW dF [] fun f vs=>call f vs):(rq sg0).Holds:=by
  w_on
  refine holds_law (ws sd0) fun said=>?_
  refine PySem.W.holds_open (q:=qF sg0) (loose:=loose2) (Xt:=xtF sg0) (XP:=XL (qF sg0) []) (Yf:=obs2) (Ya:=val2 sg0) (YP:=InK K2) (N:=7772) left2' k2_in InK.keeps (fun s e=>xl_of s (Bool.and_eq_true_iff.mp e).1) XL.keeps (by kernel_rfl) (by kernel_rfl) (by kernel_rfl) (fun s e=>recFacts_of (Bool.and_eq_true_iff.mp e).2) (by rfl) (by assumption) (by decide +kernel) ⟨rfl, rfl, rfl, rfl, rfl, by decide +kernel⟩ ?hw walk
  case hw=>exact ⟨[.list []], by decide +kernel, by decide +kernel⟩
theorem head2 (walk:WalkO q2 loose2 (XL q2 []) (InK K2) rw_mu0013_01.row.toRowW d2 [] fun f vs=>call f vs):rw_mu0013_01.Holds:=by
  have e1:q2 = qF sg0:=by unfold q2 qF; rw [pq_eq]
  have e2:d2 = dF:=by
    unfold d2 dF
    show (⟨_, argsOf (topOf pw_mu0013_01 20), bodyOf (topOf pw_mu0013_01 20), scopeOf (topOf pw_mu0013_01 20), _⟩:DefRec) = _
    rw [pq_eq]
  rw [rq_eq] at walk ⊢
  rw [e1, e2] at walk
  exact head2q walk
end Mine.Internal
end
section
open PySem PySem.W PyProof.Rows PySem.Challenge
namespace Mine.Internal
noncomputable abbrev ktrH (H:Option Value) (dp un:Nat) (gd:Option (List Code)) (cn:Str) (cs:Scope) (L a:Addr) (ccd:Value) (cl:List (Str × Addr)) (outer:List Env):Around:=⟨H, dp, some (envX cn cs L a ccd cl :: outer), gd, un⟩
noncomputable def seg (w:List Int) (a c:Nat):List Int:=(w.drop a).take c
noncomputable def Halt (p:Prop):Prop:=p
theorem halt {p:Prop} (h:Halt p):p:=h
theorem haltC (n:Nat) {M:Model} {A:Around} {l:List Value} {Q:Value→Shared→Prop} {E:Value→Shared→Prop} {s:Shared} (h:Halt (wpAny M A (call (.ref n) l) Q E s)):wpAny M A (call (.ref n) l) Q E s:=h
theorem ne_of_stored {a z:Str} (h:[a].contains z = false):z ≠ a:=fun e=>by subst e; simp at h
section
variable {prog:Program} {w:World} {A:Around} {E:Value→Shared→Prop} {Q:Value→Shared→Prop} {hp:Heap} {gs:Array GenState} {dr:Drawn} {tk0:Nat} {os:OsState} {a b:Int} {t u:Tok}
theorem addT (h:∀ t tk, Q (.int (a + b) t) ⟨hp, gs, dr, tk, os⟩):wpAny (model prog w) A (binaryOp .Add (.int a t) (.int b u)) Q E ⟨hp, gs, dr, tk0, os⟩:=add_int (h _ _)
theorem subT (h:∀ t tk, Q (.int (a - b) t) ⟨hp, gs, dr, tk, os⟩):wpAny (model prog w) A (binaryOp .Sub (.int a t) (.int b u)) Q E ⟨hp, gs, dr, tk0, os⟩:=sub_int (h _ _)
theorem modT (hb:b ≠ 0) (h:∀ t tk, Q (.int (a.fmod b) t) ⟨hp, gs, dr, tk, os⟩):wpAny (model prog w) A (binaryOp .Mod (.int a t) (.int b u)) Q E ⟨hp, gs, dr, tk0, os⟩:=mod_int' hb (h _ _)
theorem fdivT (hb:b ≠ 0) (hs:b.natAbs < 1073741824) (h:∀ t tk, Q (.int (a.fdiv b) t) ⟨hp, gs, dr, tk, os⟩):wpAny (model prog w) A (binaryOp .FloorDiv (.int a t) (.int b u)) Q E ⟨hp, gs, dr, tk0, os⟩ :=
  floordiv_int hb (h _ _) (Or.inl (PyProof.noPylong_small hs))
theorem constT {M:Model} {env:Env} {i:Int} {k:Nat} {pos:Pos} (h:∀ t tk, Q (.int i t) ⟨hp, gs, dr, tk, os⟩):wpAny M A (eval (.Constant (.int i) k pos) env) Q E ⟨hp, gs, dr, tk0, os⟩:=wpAny_Constant_int (h _ _)
end
section
variable {M:Model} {A:Around} {E:Value→Shared→Prop} {Q:Unit→Shared→Prop} {hp h₀:Heap} {gs:Array GenState} {dr:Drawn} {tk0:Nat} {os:OsState} {L a:Addr} {m:Str→Option Value} {cn:Str} {cs:Scope} {ccd:Value} {cl:List (Str × Addr)} {x:Str} {v:Value} {news:List (Addr × Obj)}
theorem storeT (F:Fr h₀ L hp m) (N:News h₀ L hp news) (h:∀ h' tk, Fr h₀ L h' (fun y=>if y = x then some v else m y)→News h₀ L h' news→Q () ⟨h', gs, dr, tk, os⟩)
    (hk:cs.kind = .function:=by rfl) (hx:(envX cn cs L a ccd cl).kindOf x = some .local:=by rfl):wpAny M A (storeName (envX cn cs L a ccd cl) x v) Q E ⟨hp, gs, dr, tk0, os⟩ :=
  storeX_L (s:=⟨hp, gs, dr, tk0, os⟩) F N (fun h' F' N'=>h h' _ F' N') hk hx
end
section
variable {prog:Program} {w:World} {A:Around} {E:Value→Shared→Prop} {Q:Value→Shared→Prop} {hp h₀:Heap} {gs:Array GenState} {dr:Drawn} {tk0:Nat} {os:OsState} {L l:Addr} {m:Str→Option Value} {news:List (Addr × Obj)}
end
noncomputable def Sm (ws:List Value) (k:Nat):Prop:=ws.length ≤ 1000 * k
section
variable {prog:Program} {w:World} {A:Around} {E:Value→Shared→Prop} {Q:Value→Shared→Prop} {hp h₀:Heap} {gs:Array GenState} {dr:Drawn} {tk0:Nat} {os:OsState} {L l:Addr} {m:Str→Option Value} {news:List (Addr × Obj)} {vs:List Value} {ns:List Int} {nn:Nat} {x y:Int} {tx ty:Tok} {value slice:PySem.Expr}
end
end Mine.Internal
end
section
open PySem PySem.W PyProof.Rows PySem.Challenge PySem.Spec
namespace Mine.Internal
noncomputable def KgEnd {σ:Type} (h₀:Heap) (L:Addr) (Led:σ→List (Addr × Obj)) (ps:σ→List (Str × Value)) (x:Str) (stored:List Str) (m₀:Str→Option Value) (P:σ→Prop) (I:Addr) (oI:Obj) (s₁ s₂:Shared):Prop :=
  ∃ (c:σ) (h':Heap) (tk:Nat) (m':Str→Option Value) (news':List (Addr × Obj)), s₂ = { s₁ with heap:=h', toks:=tk } ∧ Fr h₀ L h' m' ∧ News h₀ L h' news' ∧ (∀ p ∈ Led c, p ∈ news') ∧ (I, oI) ∈ news' ∧ (∀ q ∈ Led c, q.1 ≠ I) ∧
    (∀ p ∈ ps c, m' p.1 = some p.2) ∧ (∀ z, z ≠ x→(∀ p ∈ ps c, z ≠ p.1)→stored.contains z = false→m' z = m₀ z) ∧ P c
noncomputable def KgPost {σ:Type} (h₀:Heap) (L:Addr) (Led:σ→List (Addr × Obj)) (ps:σ→List (Str × Value)) (x:Str) (stored:List Str) (m₀:Str→Option Value) (P:σ→Prop) (I:Addr) (oI:Obj) (s₁:Shared) (Q:Flow→Shared→Prop) (f:Flow) (s₂:Shared):Prop :=
  match f with
  | .ret v=>Q (.ret v) s₂
  | .brk=>Q .next s₂
  | _=>KgEnd h₀ L Led ps x stored m₀ P I oI s₁ s₂
theorem kg_end {σ:Type} {h₀:Heap} {L:Addr} {Led:σ→List (Addr × Obj)} {ps:σ→List (Str × Value)} {x:Str} {stored:List Str} {m₀ m':Str→Option Value} {P:σ→Prop} {I:Addr} {oI:Obj} {s₁:Shared} {h':Heap} {tk:Nat} {news':List (Addr × Obj)} (c:σ)
    (F:Fr h₀ L h' m') (N:News h₀ L h' news') (hn:∀ p ∈ Led c, p ∈ news') (hI:(I, oI) ∈ news') (ho:∀ q ∈ Led c, q.1 ≠ I) (hk:∀ p ∈ ps c, m' p.1 = some p.2) (hr:∀ z, z ≠ x→(∀ p ∈ ps c, z ≠ p.1)→stored.contains z = false→m' z = m₀ z) (hp:P c) :
    KgEnd h₀ L Led ps x stored m₀ P I oI s₁ { s₁ with heap:=h', toks:=tk }:=(iE5 c h' tk m' news' ⟨rfl, F, N, hn, hI, ho, hk, hr, hp⟩)
section
variable {prog:Program} {w:World} {A:Around} {E:Value→Shared→Prop} {s:Shared} {env:Env} {h₀:Heap} {x:Str} {body:List Stmt} {Q:Flow→Shared→Prop}
theorem kg_core {σ:Type} {I:Addr} {n:Nat} {Pv:Nat→Value→Prop} {St:Nat→Heap→Prop} {fp:List Addr} {m₀:Str→Option Value} (Led:σ→List (Addr × Obj)) (ps:σ→List (Str × Value)) (stored:List Str) (P:Nat→σ→Prop) (c₀:σ)
    (W:Walks prog w A I fp [I] n Pv St) (hfpL:env.locals ∉ fp) (hI:h₀.get? I = none) (hIn:∀ q ∈ Led c₀, q.1 ≠ I) (hst:St 0 s.heap) (hstI:∀ i h, St i h→∃ o, h.get? I = some o)
    (hfp:∀ b ∈ fp, b ≠ I→(∃ o, h₀.get? b = some o) ∨ ∃ o, ∀ c, (b, o) ∈ Led c)
    (F:Fr h₀ env.locals s.heap m₀) (N:News h₀ env.locals s.heap (Led c₀)) (hk:∀ p ∈ ps c₀, m₀ p.1 = some p.2) (hp:P 0 c₀)
    (turn:∀ (c:σ) i v (u:Str→Option Value) h tk oI, i < n→Pv i v→P i c→(∀ q ∈ Led c, q.1 ≠ I) →
      Fr h₀ env.locals h (fun y=>if y = x then some v else kstB (fun z=>if stored.contains z then u z else m₀ z) (ps c) y)→News h₀ env.locals h ((I, oI) :: Led c) →
      wpAny (model prog w) A (execs body env) (KgPost h₀ env.locals Led ps x stored m₀ (P (i + 1)) I oI { s with heap:=h, toks:=tk } Q) E { s with heap:=h, toks:=tk })
    (done:∀ (c:σ) (u:Str→Option Value) h tk, P n c→Fr h₀ env.locals h (fun y=>if y = x then u y else kstB (fun z=>if stored.contains z then u z else m₀ z) (ps c) y)→News h₀ env.locals h (Led c)→Q .next { s with heap:=h, toks:=tk }) :
    LoopAtV prog w A h₀ env x body Q E (.ref I) s:=by
  refine (iE9 I fp ([I]) n Pv St m₀ (Led c₀) (fun i m nx=>∃ c:σ, nx = Led c ∧ (∀ p ∈ ps c, m p.1 = some p.2) ∧ (∀ z, z ≠ x→(∀ p ∈ ps c, z ≠ p.1)→stored.contains z = false→m z = m₀ z) ∧ P i c) ⟨rfl, W, hfpL, ?_, ?_, hst, F, N, ⟨c₀, rfl, hk, fun _ _ _ _=>rfl, hp⟩, ?_, ?_⟩)
  · intro b hb; rw [List.mem_singleton.mp hb]; exact hI
  · intro p hp' hq; exact hIn p hp' (List.mem_singleton.mp hq)
  · (rintro i v m₁ news₁ s₁ own; (refine eE2 fun hh' tk' hR2=>?_; subst hR2); rintro hin hP; (refine eE1 fun c=>?_; refine eA4 fun hR1 h1 h2 hp'=>?_; subst hR1); rintro hoff hown hget hfpo hst' F₁ N₁)
    refine eE1 (fun oI hoI=>?_) (hstI _ _ hst')
    have hIown:(I, oI) ∈ own:=hfpo I (W.sub I (List.mem_singleton.mpr rfl)) hI oI hoI
    refine wpAny_mono (turn c i v m₁ hh' tk' oI hin hP hp' (fun q hq e=>hoff q hq (List.mem_singleton.mpr e)) (kst_fr h1 h2 F₁) (fun p hp=>?_)) (fun f s₂ q=>?_) fun _ _ e=>e
    · rcases List.mem_cons.mp hp with rfl | hp
      · exact N₁ _ (List.mem_append_left _ hIown)
      · exact N₁ _ (List.mem_append_right _ hp)
    · have fin : KgEnd h₀ env.locals Led ps x stored m₀ (P (i + 1)) I oI { s with heap := hh', toks := tk' } s₂ →
          LoopStepU h₀ env.locals [I] own (fun m nx=>∃ c:σ, nx = Led c ∧ (∀ p ∈ ps c, m p.1 = some p.2) ∧ (∀ z, z ≠ x→(∀ p ∈ ps c, z ≠ p.1)→stored.contains z = false→m z = m₀ z) ∧ P (i + 1) c) { s with heap:=hh', toks:=tk' } .next s₂:=by
        ((refine eE5 fun c' h' tk m' news'=>?_; refine eA9 fun e F' N' hn hI' ho hk' hr' hp9=>?_))
        refine ⟨rfl, (iE4 h' tk m' (Led c') ⟨e, F', fun p hp=>?_, fun p hp hq=>ho p hp (List.mem_singleton.mp hq), c', rfl, hk', hr', hp9⟩)⟩
        rcases List.mem_append.mp hp with hp | hp
        · by_cases hb:p.1 = I
          · have e2:=hget p hp
            rw [hb, hoI] at e2
            have e3:p = (I, oI):=Prod.ext hb (Option.some.inj e2).symm
            rw [e3]; exact N' _ hI'
          · rcases hfp p.1 (hown p hp) hb with ⟨o, ho9⟩ | ⟨o, ho9⟩
            · have:=(N₁ p (List.mem_append_left _ hp)).2.2
              rw [ho9] at this; cases this
            · have e2:=hget p hp
              rw [(N₁ _ (List.mem_append_right _ (ho9 c))).1] at e2
              have e3:p = (p.1, o):=Prod.ext rfl (Option.some.inj e2).symm
              rw [e3]
              exact N' _ (hn _ (ho9 c'))
        · exact N' _ (hn _ hp)
      cases f with
      | ret v=>exact .ret q
      | brk=>exact .brk q
      | next=>exact .next (fin q)
      | cont=>exact .cont (fin q)
  · (rintro h' tk m' news' F' N' _; (refine eE1 fun c=>?_; refine eA4 fun hR1 h1 h2 hp'=>?_; subst hR1))
    exact done c m' h' tk hp' (kst_frOut h1 h2 F') N'
end
end Mine.Internal
end
section
open PySem PySem.W PyProof.Rows PySem.Challenge PySem.Spec PySem.Calls Builtin Builtin.ObjectAttr
namespace Mine.Internal
theorem nd_call {α:Type} {M:Model} {A:Around} {Q:α→Shared→Prop} {E:Value→Shared→Prop} {s:Shared} {c:Code} {b:Bool} {l:List Value} {k:Result→Sem α}
    (hc:codeAny M A c (fun r s'=>wpAny M A (k r) Q E s') s):wpAny M A (.call c none b l k) Q E s :=
  fun Γ p hΓ=>wpCode_mono (fun _ _ h=>h Γ p hΓ) (hc (Γ.enter c none p) p rfl (hΓ.enter c none p (by intro x; cases x)))
noncomputable abbrev bmObj (id:String) (self:Value):Obj:={ cls:=.type "builtin_function_or_method", data:=.fields #[.builtin id, self] }
noncomputable abbrev setE (led:Bool):Obj:={ cls:=.type "set", dict:=none, data:=.set #[] 0 (.fresh 0 0 led) }
section
variable {prog:Program} {w:World} {A:Around} {E:Value→Shared→Prop} {Q:Value→Shared→Prop} {R:Result→Shared→Prop} {hp h₀:Heap} {gs:Array GenState} {dr:Drawn} {tk:Nat} {os:OsState} {d q L:Addr} {m:Str→Option Value} {news:List (Addr × Obj)}
noncomputable def BmAt (q:Addr) (id:String) (self:Value) (h:Heap):Prop:=h.get? q = some (bmObj id self)
end
end Mine.Internal
end
section
open PySem PySem.W PyProof.Rows PySem.Challenge PySem.Spec
namespace Mine.Internal
noncomputable def KtEnd {σ:Type} (h₀:Heap) (L:Addr) (Led:σ→List (Addr × Obj)) (ps:σ→List (Str × Value)) (stored:List Str) (m₀:Str→Option Value) (P:σ→Prop) (its:List (Addr × Obj)) (s₁ s₂:Shared):Prop :=
  ∃ (c:σ) (h':Heap) (tk:Nat) (m':Str→Option Value) (news':List (Addr × Obj)), s₂ = { s₁ with heap:=h', toks:=tk } ∧ Fr h₀ L h' m' ∧ News h₀ L h' news' ∧ (∀ p ∈ Led c, p ∈ news') ∧ (∀ p ∈ its, p ∈ news') ∧ (∀ p ∈ Led c, ∀ q ∈ its, p.1 ≠ q.1) ∧
    (∀ p ∈ ps c, m' p.1 = some p.2) ∧ (∀ z, (∀ p ∈ ps c, z ≠ p.1)→stored.contains z = false→m' z = m₀ z) ∧ P c
noncomputable def KtPost {σ:Type} (h₀:Heap) (L:Addr) (Led:σ→List (Addr × Obj)) (ps:σ→List (Str × Value)) (stored:List Str) (m₀:Str→Option Value) (P:σ→Prop) (its:List (Addr × Obj)) (s₁:Shared) (Q:Flow→Shared→Prop) (f:Flow) (s₂:Shared):Prop :=
  match f with
  | .ret v=>Q (.ret v) s₂
  | .brk=>Q .next s₂
  | _=>KtEnd h₀ L Led ps stored m₀ P its s₁ s₂
section
variable {prog:Program} {w:World} {A:Around} {E:Value→Shared→Prop} {s:Shared} {env:Env} {h₀:Heap} {target:PySem.Expr} {body:List Stmt} {Q:Flow→Shared→Prop}
end
end Mine.Internal
end
section
open PySem PySem.W PyProof.Rows PySem.Challenge
namespace Mine.Internal
noncomputable def upL (l:Addr) (o:Obj) (news:List (Addr × Obj)):List (Addr × Obj):=news.map fun p=>if p.1 = l then (l, o) else p
theorem mem_upL_ne {l:Addr} {o:Obj} {news:List (Addr × Obj)} {p:Addr × Obj} (h:p ∈ news) (hne:p.1 ≠ l):p ∈ upL l o news:=List.mem_map.mpr ⟨p, h, if_neg hne⟩
theorem mem_upL_self {l:Addr} {o o':Obj} {news:List (Addr × Obj)} (h:(l, o') ∈ news):(l, o) ∈ upL l o news:=List.mem_map.mpr ⟨_, h, if_pos rfl⟩
theorem upL_mem {l:Addr} {o:Obj} {news:List (Addr × Obj)} {p:Addr × Obj} (h:p ∈ upL l o news):(p = (l, o)) ∨ (p ∈ news ∧ p.1 ≠ l):=by
  (refine eE1 (fun q=>?_) (List.mem_map.mp h); refine eA2 fun hq hR2=>?_; subst hR2)
  by_cases e:q.1 = l
  · rw [if_pos e]; exact .inl rfl
  · rw [if_neg e]; exact .inr ⟨hq, e⟩
theorem upL_fst {l:Addr} {o:Obj} {news:List (Addr × Obj)} {p:Addr × Obj} (h:p ∈ upL l o news):∃ q ∈ news, q.1 = p.1:=by
  (refine eE1 (fun q=>?_) (List.mem_map.mp h); refine eA2 fun hq hR2=>?_; subst hR2)
  by_cases e:q.1 = l
  · rw [if_pos e]; exact ⟨q, hq, e⟩
  · rw [if_neg e]; exact ⟨q, hq, rfl⟩
theorem News.one {h₀ h:Heap} {L:Addr} {news:List (Addr × Obj)} (N:News h₀ L h news) {a:Addr} {o o':Obj} (h1:(a, o) ∈ news) (h2:(a, o') ∈ news):o = o' :=
  Option.some.inj ((N _ h1).1.symm.trans (N _ h2).1)
section
variable {prog:Program} {w:World} {A:Around} {E:Value→Shared→Prop} {Q:Value→Shared→Prop} {hp h₀:Heap} {gs:Array GenState} {dr:Drawn} {tk0:Nat} {os:OsState} {L l:Addr} {m:Str→Option Value} {news:List (Addr × Obj)}
theorem appendU {its:Array Value} {n:Nat} {x:Value} (F:Fr h₀ L hp m) (N:News h₀ L hp news) (hm:(l, W.listOf its n) ∈ news)
    (h:∀ h', Fr h₀ L h' m→News h₀ L h' (upL l (W.listOf (its.push x) (n + 1)) news)→Q .none ⟨h', gs, dr, tk0, os⟩) (hsz:its.size ≤ 100000):wpAny (model prog w) A (call (.builtin "list.append") [.ref l, x]) Q E ⟨hp, gs, dr, tk0, os⟩:=by
  have z:=N _ hm
  refine append_at (s:=⟨hp, gs, dr, tk0, os⟩) (hsz:=by rw [sizeLine_eq]; lia) z.1 fun h' hs ho'=>h h' (F.change hs z.2.1 z.2.2) fun p hp'=>?_
  rcases upL_mem hp' with rfl | ⟨hq, hne⟩
  · exact ⟨ho', z.2⟩
  · exact ⟨(hs.2 p.1 hne).trans (N p hq).1, (N p hq).2⟩
end
theorem news_ne {h₀ h:Heap} {L:Addr} {news:List (Addr × Obj)} (N:News h₀ L h news) {p q:Addr × Obj} (hp:p ∈ news) (hq:q ∈ news) (hc:p.2.cls ≠ q.2.cls):p.1 ≠ q.1:=fun e=>hc (by
  have a:=(N p hp).1
  have b:=(N q hq).1
  rw [e, b] at a
  rw [Option.some.inj a])
theorem news_front {h₀ h:Heap} {L:Addr} {news:List (Addr × Obj)} (N:News h₀ L h news) {x:Addr} {o:Obj} (hm:(x, o) ∈ news):News h₀ L h ((x, o) :: news.filter fun p=>decide (p.1 ≠ x)):=fun p hp=>by
  rcases List.mem_cons.mp hp with rfl | hp
  · exact N _ hm
  · exact N _ (List.mem_filter.mp hp).1
theorem front_ne {news:List (Addr × Obj)} {x:Addr}:∀ p ∈ news.filter (fun p=>decide (p.1 ≠ x)), p.1 ≠ x:=fun _ hp=>of_decide_eq_true (List.mem_filter.mp hp).2
theorem news_back {h₀ h:Heap} {L:Addr} {news:List (Addr × Obj)} {x:Addr} {o:Obj} (N:News h₀ L h ((x, o) :: news.filter fun p=>decide (p.1 ≠ x))):News h₀ L h (upL x o news):=fun p hp=>by
  rcases upL_mem hp with rfl | ⟨hq, hne⟩
  · exact N _ (.head _)
  · exact N _ (.tail _ (List.mem_filter.mpr ⟨hq, decide_eq_true hne⟩))
theorem all_ne {news:List (Addr × Obj)} {d x:Addr} (h:∀ p ∈ news, p.1 < d) (h':@LE.le Nat _ d x):∀ p ∈ news, p.1 ≠ x:=fun p hp=>Nat.ne_of_lt (Nat.lt_of_lt_of_le (h p hp) h')
theorem upL_cons_ne {news:List (Addr × Obj)} {x:Addr} {o:Obj} {p:Addr × Obj} (h:p.1 ≠ x):upL x o (p :: news) = p :: upL x o news:=by
  show (if p.1 = x then (x, o) else p) :: _ = _
  rw [if_neg h]; rfl
theorem upL_cons_self {news:List (Addr × Obj)} {x:Addr} {o o':Obj}:upL x o ((x, o') :: news) = (x, o) :: upL x o news:=by
  show (if x = x then (x, o) else (x, o')) :: _ = _
  rw [if_pos rfl]; rfl
theorem upL_off {news:List (Addr × Obj)} {x:Addr} {o:Obj} (h:∀ p ∈ news, p.1 ≠ x):upL x o news = news:=by
  induction news with
  | nil=>rfl
  | cons p r ih=>rw [upL_cons_ne (h p (.head _)), ih fun q hq=>h q (.tail _ hq)]
noncomputable abbrev nodeO (d:Addr) (a b c:Value):Obj:={ cls:=.ref 343, dict:=some d, data:=.plain, slots:=#[some a, some b, some c] }
section
variable {prog:Program} {w:World} {A:Around} {E:Value→Shared→Prop} {s:Shared} {K:Frag} {x C dx L p i:Addr} {h₀:Heap} {m:Str→Option Value} {news:List (Addr × Obj)} {ox ox' od:Obj} {es es':List DictEntry} {n n':Nat} {name:Str} {v:Value}
theorem set_slotU {Q:Unit→Shared→Prop} (F:Fr h₀ L s.heap m) (X₀:K.In h₀) (N:News h₀ L s.heap news) (hm:(x, ox) ∈ news) (I:InstAt s.heap x ox C (some od))
    (hs:findIn K (.ref C) "__setattr__" = some (some (.builtin "object.__setattr__"))) (hp:plainOver K C = true) (ht:takerIn K C name = some (some (.ref p))) (hT:typeIn K (.ref p) = some (.type "member_descriptor")) (hi:slotIn K p C = some i) (hz:i < 1000)
    (e:{ ox with slots:=(ox.slots ++ Array.replicate (i + 1 - ox.slots.size) none).setIfInBounds i (some v) } = ox') (hf:ox'.isFreed = false)
    (h:∀ h', Fr h₀ L h' m→News h₀ L h' (upL x ox' news)→Q () { s with heap:=h', toks:=s.toks + 1 }):wpAny (model prog w) A (setAttr (.ref x) name v) Q E s :=
  set_slot F X₀ (news_front N hm) I hs hp ht hT hi hz e hf (Upd.head front_ne) fun h' F' N'=>h h' F' (news_back N')
theorem set_dictU {Q:Unit→Shared→Prop} (F:Fr h₀ L s.heap m) (X₀:K.In h₀) (N:News h₀ L s.heap news) (I:InstAt s.heap x ox C (some (dictOf es n))) (hd:ox.dict = some dx) (hm:(dx, dictOf es n) ∈ news)
    (hs:findIn K (.ref C) "__setattr__" = some (some (.builtin "object.__setattr__"))) (hp:plainOver K C = true) (ht:takerIn K C name = some none) (hh:hasDictIn K C = true) (hl:(getL name es).isSome = true)
    (e:(putL name (PyData.keyHash w.params name) (.str name (s.toks + 1)) v es, putN name es n) = (es', n')) (hz:es'.length ≤ 1000)
    (h:∀ h', Fr h₀ L h' m→News h₀ L h' (upL dx (dictOf es' n') news)→Q () { s with heap:=h', toks:=s.toks + 2 }) :
    wpAny (model prog w) A (setAttr (.ref x) name v) Q E s :=
  set_dict F X₀ (news_front N hm) I hd hs hp ht hh hl e (Upd.head front_ne) hz fun h' F' N'=>h h' F' (news_back N')
end
section
variable {prog:Program} {w:World} {A:Around} {E:Value→Shared→Prop} {s:Shared} {knd:KeyKind prog w Int} {d L:Addr} {h₀:Heap} {m:Str→Option Value} {news:List (Addr × Obj)} {o:Obj} {kvs:List (Int × Value)} {k:Int} {key v:Value}
theorem kda_setU {Q:Unit→Shared→Prop} (F:Fr h₀ L s.heap m) (N:News h₀ L s.heap news) (hm:(d, o) ∈ news) (hd:o.IsDictOf knd kvs) (hkey:knd.is k key = true) (hsz:kvs.length ≤ sizeLine)
    (h:∀ h' o', Fr h₀ L h' m→News h₀ L h' (upL d o' news)→o'.IsDictOf knd (stored kvs k v)→Q () { s with heap:=h', toks:=s.toks + 1 }):wpAny (model prog w) A (setItem (.ref d) key v) Q E s :=
  kda_set F (news_front N hm) (UpdF.head front_ne) hd hkey hsz fun h' o' F' N' hd'=>h h' o' F' (news_back N') hd'
end
end Mine.Internal
end
section
open PySem
namespace Mine.Internal
noncomputable def stPart:Stmt→PySem.Expr × PySem.Expr × List Stmt × List Stmt × Pos
  | .For t i b o p=>(t, i, b, o, p)
  | .While t b o p=>(t, t, b, o, p)
  | .If t b o p=>(t, t, b, o, p)
  | .Expr e p=>(e, e, [], [], p)
  | _=>(.Constant .none 0 ⟨0, 0, 0, 0⟩, .Constant .none 0 ⟨0, 0, 0, 0⟩, [], [], ⟨0, 0, 0, 0⟩)
noncomputable def yldOf (s:Stmt):PySem.Expr:=match (stPart ((stPart s).2.2.1.headD s)).1 with
  | .Yield (some e) _=>e
  | e=>e
end Mine.Internal
end
section
open PySem PySem.W PyProof.Rows PySem.Challenge PySem.Spec PySem.Calls
namespace Mine.Internal
theorem mem_fs {env:Env} {outer:List Env} {L b:Addr} (hf:env.frame = some L) (h:b ∈ (env :: outer).filterMap (·.frame)):b = L ∨ b ∈ outer.filterMap (·.frame):=by
  (refine eE1 (fun e=>?_) (List.mem_filterMap.mp h); refine eA2 fun he hb=>?_)
  rcases List.mem_cons.mp he with rfl | he
  · exact .inl (Option.some.inj (hb.symm.trans hf))
  · exact .inr (List.mem_filterMap.mpr ⟨e, he, hb⟩)
section
variable {prog:Program} {w:World} {A₀ A:Around} {s:Shared} {base h₀ g₀:Heap} {outer:List Env} {L:Addr} {m:Str→Option Value} {env:Env} {news:List (Addr × Obj)} {K:Frag} {p:Program} {loose:List Str} {mean:ExcName→Option Value} {mg mb:Str→Option Value}
    {R:Result→Shared→Prop} {name qual:Str} {params:Arguments} {body:List Stmt} {scope:Scope} {dV kV doc pm cdv ct oc:Value} {an od:Option Addr} {osl:Array (Option Value)} {f:Addr} {args:Args} {binds:List (Str × Value)}
theorem groundSX (B:Below A₀ base outer h₀) (F:Fr h₀ L s.heap m) (N:News h₀ L s.heap news) (XB:K.In base) (TB:Top p loose mean mg mb base) (D:KtsDicts (outer.filterMap (·.frame)) h₀)
    (T0:KtsTurn (outer.filterMap (·.frame)) g₀ h₀) (hA:A.frames = some (env :: outer)) (hf:env.frame = some L) (hke:env.scope.kind = .function) :
    Fr h₀ L (hideAll s.heap (news.map (·.1))) m ∧ Below A base (env :: outer) (hideAll s.heap (news.map (·.1))) ∧ h₀.StaysIn (hideAll s.heap (news.map (·.1))) ∧ KtsDicts ((env :: outer).filterMap (·.frame)) (hideAll s.heap (news.map (·.1))) ∧
      ∀ v s', LeaveS ((env :: outer).filterMap (·.frame)) A₀ base outer K p loose mean mg mb g₀ h₀ L m (hideAll s.heap (news.map (·.1))) R v s'→R (.ok (.ret v)) s':=by
  refine eA4 (fun FG BG st lv=>?_) (groundX (R:=R) B F N hA hf hke)
  (refine eE3 (fun oL es ep=>?_) FG.ns; refine eA4 fun hLg hLd hLk hLf=>?_)
  have nL₀:h₀.get? L = none:=kts_self F
  refine ⟨FG, BG, st, fun b hb=>?_, fun v s' hl=>?_⟩
  · rcases mem_fs hf hb with rfl | hb
    · exact (iE3 oL es ep ⟨hLg, hLd⟩)
    · (refine eE3 (fun o es' n'=>?_) (D b hb); refine eA2 fun ho' hd'=>?_)
      exact (iE3 o es' n' ⟨st b o ho', hd'⟩)
  · rcases hl with ⟨L', m', news', F', N', k⟩ | ⟨g', L', m', news', T', F', N', k⟩
    · exact lv v s' (iE3 L' m' news' ⟨F', N', k⟩)
    · refine eE1 (fun sl hs=>?_) (T'.up hLg)
      have hns:∀ h':Heap, h'.get? L = some { oL with slots:=sl }→Heap.Ns h' L m:=fun h' e=>(iE3 _ es ep ⟨e, hLd, hLk, hLf⟩)
      have out:∀ b o, h₀.get? b = some o→b ∉ outer.filterMap (·.frame)→b ∉ (env :: outer).filterMap (·.frame):=fun b o e nm q=>by
        rcases mem_fs hf q with z | z
        · rw [z, nL₀] at e
          cases e
        · exact nm z
      obtain ⟨T₁, S₁⟩:=kts_turn_at (h:=s'.heap) (fs:=outer.filterMap (·.frame)) (g:=h₀)
        (fun b hb=>by
          (refine eA2 (fun _=>?_) (B.frames.mem hb); refine eE1 fun o=>?_; refine eA2 fun ho' _=>?_)
          exact ⟨o, ho'⟩)
        (fun b o e nm=>F'.keep b o (T'.other b o (st b o e) (out b o e nm)))
        (fun b o e _=>by
          refine eE1 (fun sl' hs'=>?_) (T'.up (st b o e))
          exact ⟨sl', F'.keep _ _ hs'⟩)
      have B₃:Below A₀ base outer (ktsHeap s'.heap (outer.filterMap (·.frame)) h₀):=⟨B.stack, fun b o e=>T₁.other b o (B.stays b o e) (fun hm=>by
        rw [(B.frames.mem hm).1] at e
        cases e), B.frames.of_keeps fun b o e _=>by
        refine eE1 (fun sl' hs'=>?_) (T₁.up e)
        exact ⟨_, hs', rfl⟩⟩
      refine k _ (T0.trans T₁) ⟨hns _ (F'.keep _ _ hs), S₁, by rw [T₁.size]; exact F.above⟩ (fun p hp=>⟨(N' p hp).1, fun q=>?_, ?_⟩) B₃ (XB.keeps B₃.stays) (TB.keeps B₃.stays) (D.turn T₁)
      · have:=(N' p hp).2.2
        rw [q, hs] at this
        cases this
      · refine T₁.none_ _ ?_
        cases q:h₀.get? p.1 with
        | none=>rfl
        | some o =>
          refine eE1 (fun sl' hs'=>?_) (T'.up (st _ _ q))
          have:=(N' p hp).2.2
          rw [hs'] at this
          cases this
theorem callSX (B:Below A₀ base outer h₀) (F:Fr h₀ L s.heap m) (X₀:K.In h₀) (N:News h₀ L s.heap news) (T:Top p loose mean mg mb h₀) (XB:K.In base) (TB:Top p loose mean mg mb base) (D:KtsDicts (outer.filterMap (·.frame)) h₀)
    (T0:KtsTurn (outer.filterMap (·.frame)) g₀ h₀) (hA:A.frames = some (env :: outer)) (hf:env.frame = some L) (hke:env.scope.kind = .function)
    (ho:K.lookup f = some ⟨oc, od, .func (fnOf name qual params body scope dV kV doc pm an cdv ct), osl⟩) (hcd:codeIn K cdv qual = true) (hroom:A.depth < recursionLimit)
    (hbind:BindsTo s (fnOf name qual params body scope dV kV doc pm an cdv ct) args binds) (hloc:∀ y ∈ binds, scope.names.lookup y.1 = some .local)
    (h:∀ g L' h₁, Fr h₀ L g m→Fr g L' h₁ (fun y=>binds.reverse.lookup y)→News g L' h₁ news→Below A base (env :: outer) g→K.In g→Top p loose mean mg mb g→KtsDicts ((env :: outer).filterMap (·.frame)) g→(∀ p ∈ news, p.1 < L') →
      wpAny (model prog w) (A.deeper (envOf qual scope L' f cdv)) (execs body (envOf qual scope L' f cdv))
        (fun fl s'=>LeaveS ((env :: outer).filterMap (·.frame)) A₀ base outer K p loose mean mg mb g₀ h₀ L m g R (match fl with | .ret v=>v | _=>.none) s')
        (fun e s'=>wpAny (model prog w) (A.deeper (envOf qual scope L' f cdv)) (leaving (envOf qual scope L' f cdv) e) (fun _ s''=>R (.error e) s'') (fun e' s''=>R (.error e') s'') s')
        { s with heap:=h₁, toks:=s.toks + binds.length })
    (hco:scope.isCoroutine = false) (hgen:scope.isGenerator = false) (hk:scope.kind = .function)
    (hcell:∀ x ∈ scope.names, x.2 ≠ .cell):codeAny (model prog w) A (.call (.ref f) args) R s:=by
  have X:=X₀.keeps F.keep
  refine eA5 (fun FG BG st DG lv=>?_) (groundSX (R:=R) B F N XB TB D T0 hA hf hke)
  refine codeAny_call_def (fd:=fnOf name qual params body scope dV kV doc pm an cdv ct) (body:=body) (binds:=binds) hroom (X _ _ ho) rfl (T.nolimit.keeps F.keep) (codeRec_of X hcd) rfl hbind hcell hloc (fun h₁ hns hk₁=>?_) hco hgen hk
  exact wpAny_mono (h _ s.heap.objs.size h₁ FG ⟨hns, fun b o e=>hk₁ b o (of_hideAll _ e), Nat.le_of_eq (hideAll_size _ _)⟩
    (fun p hp=>⟨hk₁ _ _ (N p hp).1, Nat.ne_of_lt (Heap.lt_size (N p hp).1), hideAll_none _ (List.mem_map_of_mem hp)⟩) BG (X₀.keeps st) (T.keeps st) DG (fun p hp=>Heap.lt_size (N p hp).1)) (fun fl s' hl=>lv _ _ hl) fun _ _ y=>y
theorem callSXC (B:Below A₀ base outer h₀) (F:Fr h₀ L s.heap m) (X₀:K.In h₀) (N:News h₀ L s.heap news) (T:Top p loose mean mg mb h₀) (XB:K.In base) (TB:Top p loose mean mg mb base) (D:KtsDicts (outer.filterMap (·.frame)) h₀)
    (T0:KtsTurn (outer.filterMap (·.frame)) g₀ h₀) (hA:A.frames = some (env :: outer)) (hf:env.frame = some L) (hke:env.scope.kind = .function)
    (ho:K.lookup f = some ⟨oc, od, .func (fnX name qual params body scope [] dV kV doc pm an cdv ct), osl⟩) (hcd:codeIn K cdv qual = true) (hroom:A.depth < recursionLimit)
    (hbind:BindsTo s (fnX name qual params body scope [] dV kV doc pm an cdv ct) args binds)
    (hkind:∀ n, ∀ x ∈ binds, scope.names.lookup x.1 = some .local ∨ (scope.names.lookup x.1 = some .cell ∧ ((cellsFrom n scope.names []).lookup x.1).isSome = true))
    (hnd:((cellsFrom 0 scope.names []).map (·.1)).Nodup)
    (h:∀ g L' h₁ tk cells, Fr h₀ L g m→Fr g L' h₁ (bindL (envOfC qual scope L' f cdv).kindOf binds fun _=>none)→News g L' h₁ (cells ++ news) →
      CellsAre (bindC (envOfC qual scope L' f cdv).kindOf binds fun _=>none) (cellsFrom (L' + 1) scope.names []) cells→Below A base (env :: outer) g→K.In g→Top p loose mean mg mb g→KtsDicts ((env :: outer).filterMap (·.frame)) g→(∀ p ∈ news, p.1 < L') →
      wpAny (model prog w) (A.deeper (envOfC qual scope L' f cdv)) (execs body (envOfC qual scope L' f cdv))
        (fun fl s'=>LeaveS ((env :: outer).filterMap (·.frame)) A₀ base outer K p loose mean mg mb g₀ h₀ L m g R (match fl with | .ret v=>v | _=>.none) s')
        (fun e s'=>wpAny (model prog w) (A.deeper (envOfC qual scope L' f cdv)) (leaving (envOfC qual scope L' f cdv) e) (fun _ s''=>R (.error e) s'') (fun e' s''=>R (.error e') s'') s')
        { s with heap:=h₁, toks:=tk })
    (hco:scope.isCoroutine = false) (hgen:scope.isGenerator = false) (hk:scope.kind = .function):codeAny (model prog w) A (.call (.ref f) args) R s:=by
  have X:=X₀.keeps F.keep
  refine eA5 (fun FG BG st DG lv=>?_) (groundSX (R:=R) B F N XB TB D T0 hA hf hke)
  refine codeAny_call_function hroom (X _ _ ho) rfl hco hgen rfl (codeRec_of X hcd) (hbind _ _ _ _ ?_)
  refine wpAny_newFunctionEnv_cells hk (hkind _) fun env' he s' x=>?_
  subst he
  refine ⟨(T.nolimit.keeps F.keep).keeps x.toInCall.keep, codeAny_func ?_⟩
  (refine eE2 (fun h₁ tk=>?_) x.done; refine eA2 fun hR2 _=>?_; subst hR2)
  have hk₁:=x.toInCall.keep
  (refine eE1 (fun cells=>?_) (Cl.news (h₀:=s.heap) (Nat.le_refl _) fun n c hm=>⟨x.cell n c (lookup_of_mem_nodup (cellsFrom_names scope.names 0 (s.heap.objs.size + 1) [] [] rfl ▸ hnd) hm), x.above n c hm⟩); refine eA2 fun NC Y=>?_)
  refine wpAny_mono (h _ s.heap.objs.size h₁ tk cells FG ⟨x.toInCall.ns, fun b o e=>hk₁ b o (of_hideAll _ e), Nat.le_of_eq (hideAll_size _ _)⟩ (fun p hp=>?_) Y BG (X₀.keeps st) (T.keeps st) DG (fun p hp=>Heap.lt_size (N p hp).1)) (fun fl s' hl=>lv _ _ hl) fun _ _ y=>y
  rcases List.mem_append.mp hp with hp | hp
  · refine ⟨(NC p hp).1, (NC p hp).2.1, ?_⟩
    cases q:(hideAll s.heap (news.map (·.1))).get? p.1 with
    | none=>rfl
    | some o =>
      have:=of_hideAll _ q
      rw [(NC p hp).2.2] at this
      cases this
  · exact ⟨hk₁ _ _ (N p hp).1, Nat.ne_of_lt (Heap.lt_size (N p hp).1), hideAll_none _ (List.mem_map_of_mem hp)⟩
end
end Mine.Internal
end
section
open PySem PyProof.Rows
namespace Mine.Internal
/-! the sort of 64 to 67 ints: two runs at most, one merge -/
noncomputable def gallop':Bool→Keyed→Array Keyed→Nat→Nat→Nat→StateT SortSt Sem (Option Nat):=sortPriv% PySem.Builtin.gallop
noncomputable def mergeLo':Array Keyed→Array Keyed→StateT SortSt Sem (Array Keyed):=sortPriv% PySem.Builtin.mergeLo
noncomputable def mergeHi':Array Keyed→Array Keyed→StateT SortSt Sem (Array Keyed):=sortPriv% PySem.Builtin.mergeHi
noncomputable def bey (left:Bool) (key:Keyed) (arr:Array Keyed) (base i:Nat):StateT SortSt Sem (Option Bool):=do
  let x ← elem' arr (base + i)
  if left then lt' x key else return (← lt' key x).map (!·)
noncomputable def bisG (left:Bool) (key:Keyed) (arr:Array Keyed) (base n lo hi:Nat):StateT SortSt Sem (Option Nat):=do
  let mut lo:=lo
  let mut hi:=hi
  for _ in [0:n] do
    if lo ≥ hi then break
    let m:=lo + (hi - lo) / 2
    let some more ← bey left key arr base m | return none
    if more then lo:=m + 1 else hi:=m
  return some hi
theorem gallop'_eq (left:Bool) (key:Keyed) (arr:Array Keyed) (base n hint:Nat):gallop' left key arr base n hint = (do
  let mut lastofs:=0
  let mut ofs:=1
  let some right ← bey left key arr base hint | return none
  if right then
    for _ in [0:n] do
      if ofs ≥ n - hint then break
      let some more ← bey left key arr base (hint + ofs) | return none
      if !more then break
      lastofs:=ofs
      ofs:=2 * ofs + 1
    bisG left key arr base n (hint + lastofs + 1) (hint + min ofs (n - hint))
  else
    for _ in [0:n] do
      if ofs ≥ hint + 1 then break
      let some found ← bey left key arr base (hint - ofs) | return none
      if found then break
      lastofs:=ofs
      ofs:=2 * ofs + 1
    bisG left key arr base n (hint + 1 - min ofs (hint + 1)) (hint - lastofs)):=rfl
section
variable {prog:Program} {w:World} {A:Around} {E:Value→Shared→Prop} {s:Shared}
theorem wpS_ltP {st:SortSt} {a b:Int} {t u:Tok} {p q:Value} {Q:Option Bool→SortSt→Prop} (hk:kindOf st = oneType') (h:Q (some (decide (a < b))) st):wpS (model prog w) A E s (lt' (.int a t, p) (.int b u, q)) Q st:=by
  rw [lt'_eq]
  refine wpS_bind (wpS_get ?_)
  rw [hk, keyLt'_oneType]
  exact wpS_bind (wpS_lift (wpAny_attempt (oneLt_int ⟨rfl, wpS_pure h⟩)))
noncomputable def IntAt (arr:Array Keyed) (i:Nat) (n:Int):Prop:=∃ t p, arr[i]? = some (.int n t, p)
noncomputable def Bey (left:Bool) (x k:Int):Prop:=if left = true then x < k else x ≤ k
theorem wpS_bey {st:SortSt} {left:Bool} {arr:Array Keyed} {base i:Nat} {x k:Int} {u:Tok} {q:Value} {Q:Option Bool→SortSt→Prop} (hk:kindOf st = oneType') (hx:IntAt arr (base + i) x)
    (h:∀ b:Bool, (b = true ↔ Bey left x k)→Q (some b) st):wpS (model prog w) A E s (bey left (.int k u, q) arr base i) Q st:=by
  (revert hx; refine eE2 fun t p hx=>?_)
  unfold bey
  rw [elem'_eq, hx]
  refine wpS_bind (wpS_pure ?_)
  cases left with
  | true=>exact wpS_ltP hk (h _ (by simp [Bey]))
  | false =>
    simp only [Bool.false_eq_true, if_false]
    exact wpS_bind (wpS_ltP hk (wpS_pure (h _ (by simp [Bey]))))
theorem mid_lt {l r:Nat} (h:l < r):l + (r - l) / 2 < r:=Nat.lt_of_lt_of_eq (Nat.add_lt_add_left (Nat.div_lt_self (Nat.sub_pos_of_lt h) (by decide)) l) (Nat.add_sub_of_le (Nat.le_of_lt h))
theorem less1 {l r M a b:Nat} (h:r - l ≤ a - b) (h1:l ≤ M):r - (M + 1) ≤ a - (b + 1):=by
  rw [← Nat.sub_sub a b 1]
  refine Nat.le_trans (Nat.sub_le_sub_left (Nat.succ_le_succ h1) r) ?_
  show r - (l + 1) ≤ _
  rw [← Nat.sub_sub r l 1]
  exact Nat.sub_le_sub_right h 1
theorem less2 {l r M a b:Nat} (h:r - l ≤ a - b) (h2:M < r):M - l ≤ a - (b + 1):=by
  rw [← Nat.sub_sub a b 1]
  refine Nat.le_trans (Nat.sub_le_sub_right (Nat.le_sub_one_of_lt h2) l) ?_
  rw [Nat.sub_right_comm]
  exact Nat.sub_le_sub_right h 1
theorem wpS_bisG {st:SortSt} {left:Bool} {arr:Array Keyed} {base n lo hi:Nat} {f:Nat→Int} {k:Int} {u:Tok} {q:Value} {Q:Option Nat→SortSt→Prop} (hk:kindOf st = oneType') (hx:∀ i, i < n→IntAt arr (base + i) (f i))
    (mono:∀ i j, i ≤ j→j < n→Bey left (f j) k→Bey left (f i) k) (hl:lo ≤ hi) (hn:hi ≤ n) (h1:∀ i, i < lo→Bey left (f i) k) (h2:∀ i, hi ≤ i→i < n→¬ Bey left (f i) k)
    (h:∀ r, r ≤ n→(∀ i, i < r→Bey left (f i) k)→(∀ i, r ≤ i→i < n→¬ Bey left (f i) k)→Q (some r) st):wpS (model prog w) A E s (bisG left (.int k u, q) arr base n lo hi) Q st:=by
  unfold bisG
  refine wpS_bind (wpS_mono (wpS_forRange (I:=fun x c st'=>st' = st ∧ ∃ l r, c = (none, l, r) ∧ l ≤ r ∧ r ≤ n ∧ r - l ≤ n - x ∧ (∀ i, i < l→Bey left (f i) k) ∧ (∀ i, r ≤ i→i < n→¬ Bey left (f i) k))
    (Q:=fun c st'=>st' = st ∧ ∃ r l, c = (none, l, r) ∧ r ≤ n ∧ (∀ i, i < r→Bey left (f i) k) ∧ (∀ i, r ≤ i→i < n→¬ Bey left (f i) k)) ?step ?fin ⟨rfl, (iE2 lo hi ⟨rfl, hl, hn, by lia, h1, h2⟩)⟩) ?post)
  case fin =>
    (rintro c st'; (refine eA2 fun hR0=>?_; refine eE2 fun l r=>?_; refine eA6 fun hR3 a1 a2 a3 a4 a5=>?_; subst hR0 hR3))
    have:l = r:=by exact ar25 ‹_› ‹_›
    subst this
    exact ⟨rfl, (iE2 l l ⟨rfl, a2, a4, a5⟩)⟩
  case post =>
    (rintro c st'; (refine eA2 fun hR0=>?_; refine eE2 fun r l=>?_; refine eA4 fun hR3 a2 a4 a5=>?_; subst hR0 hR3))
    exact wpS_pure (h r a2 a4 a5)
  case step =>
    (rintro x c st' _ hxn; (refine eA2 fun hR0=>?_; refine eE2 fun l r=>?_; refine eA6 fun hR3 a1 a2 a3 a4 a5=>?_; subst hR0 hR3))
    dsimp only
    by_cases hge:l ≥ r
    · rw [if_pos hge]
      have:l = r:=by exact Nat.le_antisymm a1 hge
      subst this
      exact wpS_pure ⟨rfl, (iE2 l l ⟨rfl, a2, a4, a5⟩)⟩
    · rw [if_neg hge]
      have m1:l ≤ l + (r - l) / 2:=Nat.le_add_right _ _
      have m2:l + (r - l) / 2 < r:=mid_lt (Nat.not_le.mp hge)
      generalize l + (r - l) / 2 = M at m1 m2 ⊢
      refine wpS_bind (wpS_bey hk (hx M (Nat.lt_of_lt_of_le m2 a2)) fun b hb=>?_)
      cases b with
      | true =>
        simp only [if_true]
        exact wpS_pure ⟨rfl, (iE2 (M + 1) r ⟨rfl, m2, a2, less1 a3 m1, fun i hi=>mono i M (Nat.le_of_lt_succ hi) (Nat.lt_of_lt_of_le m2 a2) (hb.mp rfl), a5⟩)⟩
      | false =>
        simp only [Bool.false_eq_true, if_false]
        exact wpS_pure ⟨rfl, (iE2 l M ⟨rfl, m1, Nat.le_trans (Nat.le_of_lt m2) a2, less2 a3 m2, a4, fun i h1 h2 h3=>Bool.false_ne_true (hb.mpr (mono _ i h1 h2 h3))⟩)⟩
theorem wpS_gallop {st:SortSt} {left:Bool} {arr:Array Keyed} {base n hint:Nat} {f:Nat→Int} {k:Int} {u:Tok} {q:Value} {Q:Option Nat→SortSt→Prop} (hk:kindOf st = oneType') (hx:∀ i, i < n→IntAt arr (base + i) (f i))
    (mono:∀ i j, i ≤ j→j < n→Bey left (f j) k→Bey left (f i) k) (hh:hint < n)
    (h:∀ r, r ≤ n→(∀ i, i < r→Bey left (f i) k)→(∀ i, r ≤ i→i < n→¬ Bey left (f i) k)→Q (some r) st):wpS (model prog w) A E s (gallop' left (.int k u, q) arr base n hint) Q st:=by
  rw [gallop'_eq]
  refine wpS_bind (wpS_bey hk (hx hint hh) fun b hb=>?_)
  cases b with
  | true =>
    simp only [if_true]
    refine wpS_bind (wpS_mono (wpS_forRange (I:=fun x c st'=>st' = st ∧ ∃ l o, c = (none, l, o) ∧ l < o ∧ x < o ∧ hint + l < n ∧ Bey left (f (hint + l)) k)
      (Q:=fun c st'=>st' = st ∧ ∃ l o, c = (none, l, o) ∧ l < o ∧ hint + l < n ∧ Bey left (f (hint + l)) k ∧ (hint + o < n→¬ Bey left (f (hint + o)) k)) ?step ?fin ⟨rfl, (iE2 0 1 ⟨rfl, by lia, by lia, hh, hb.mp rfl⟩)⟩) ?post)
    case fin =>
      (rintro c st'; (refine eA2 fun hR0=>?_; refine eE2 fun l o=>?_; refine eA5 fun hR3 a1 a2 a3 a4=>?_; subst hR0 hR3))
      exact ⟨rfl, (iE2 l o ⟨rfl, a1, a3, a4, fun h=>absurd h (by lia)⟩)⟩
    case post =>
      (rintro c st'; (refine eA2 fun hR0=>?_; refine eE2 fun l o=>?_; refine eA5 fun hR3 a1 a3 a4 a5=>?_; subst hR0 hR3))
      dsimp only
      refine wpS_bisG hk hx mono (by exact ar14 ‹_› ‹_›) (by exact ar22 ‹_›) (fun i hi=>mono i (hint + l) (by exact Nat.le_of_lt_succ hi) a3 a4) (fun i h1 h2 h3=>?_) h
      by_cases e:o ≤ n - hint
      · rw [Nat.min_eq_left e] at h1
        exact a5 (by exact Nat.lt_of_le_of_lt h1 h2) (mono _ i h1 h2 h3)
      · exact (ar23 ‹_› h1 h2 e).elim
    case step =>
      (rintro x c st' _ hxn; (refine eA2 fun hR0=>?_; refine eE2 fun l o=>?_; refine eA5 fun hR3 a1 a2 a3 a4=>?_; subst hR0 hR3))
      dsimp only
      by_cases hge:o ≥ n - hint
      · rw [if_pos hge]
        exact wpS_pure ⟨rfl, (iE2 l o ⟨rfl, a1, a3, a4, fun h=>absurd h (by lia)⟩)⟩
      · rw [if_neg hge]
        refine wpS_bind (wpS_bey hk (hx (hint + o) (by lia)) fun b hb=>?_)
        cases b with
        | true =>
          simp only [Bool.not_true, Bool.false_eq_true, if_false]
          exact wpS_pure ⟨rfl, (iE2 o (2 * o + 1) ⟨rfl, by lia, by lia, by omega, hb.mp rfl⟩)⟩
        | false =>
          simp only [Bool.not_false, if_true]
          exact wpS_pure ⟨rfl, (iE2 l o ⟨rfl, a1, a3, a4, fun _ h3=>Bool.false_ne_true (hb.mpr h3)⟩)⟩
  | false =>
    simp only [Bool.false_eq_true, if_false]
    have nb:¬ Bey left (f hint) k:=fun h3=>Bool.false_ne_true (hb.mpr h3)
    refine wpS_bind (wpS_mono (wpS_forRange (I:=fun x c st'=>st' = st ∧ ∃ l o, c = (none, l, o) ∧ l < o ∧ x < o ∧ l ≤ hint ∧ ¬ Bey left (f (hint - l)) k)
      (Q:=fun c st'=>st' = st ∧ ∃ l o, c = (none, l, o) ∧ l < o ∧ l ≤ hint ∧ ¬ Bey left (f (hint - l)) k ∧ (o ≤ hint→Bey left (f (hint - o)) k)) ?step ?fin ⟨rfl, (iE2 0 1 ⟨rfl, by lia, by lia, by lia, nb⟩)⟩) ?post)
    case fin =>
      (rintro c st'; (refine eA2 fun hR0=>?_; refine eE2 fun l o=>?_; refine eA5 fun hR3 a1 a2 a3 a4=>?_; subst hR0 hR3))
      exact ⟨rfl, (iE2 l o ⟨rfl, a1, a3, a4, fun h=>absurd h (by lia)⟩)⟩
    case post =>
      (rintro c st'; (refine eA2 fun hR0=>?_; refine eE2 fun l o=>?_; refine eA5 fun hR3 a1 a3 a4 a5=>?_; subst hR0 hR3))
      dsimp only
      refine wpS_bisG hk hx mono (by exact ar1 ‹_› ‹_›) (by lia) (fun i hi=>?_) (fun i h1 h2 h3=>a4 (mono _ i h1 h2 h3)) h
      by_cases e:o ≤ hint + 1
      · rw [Nat.min_eq_left e] at hi
        exact mono i (hint - o) (by lia) (by (exact Nat.sub_lt_of_lt hh)) (a5 (by lia))
      · exact (ar8 hi e).elim
    case step =>
      (rintro x c st' _ hxn; (refine eA2 fun hR0=>?_; refine eE2 fun l o=>?_; refine eA5 fun hR3 a1 a2 a3 a4=>?_; subst hR0 hR3))
      dsimp only
      by_cases hge:o ≥ hint + 1
      · rw [if_pos hge]
        exact wpS_pure ⟨rfl, (iE2 l o ⟨rfl, a1, a3, a4, fun h=>absurd h (by exact Nat.not_le_of_lt hge)⟩)⟩
      · rw [if_neg hge]
        refine wpS_bind (wpS_bey hk (hx (hint - o) (by (exact Nat.sub_lt_of_lt hh))) fun b hb=>?_)
        cases b with
        | true =>
          simp only [if_true]
          exact wpS_pure ⟨rfl, (iE2 l o ⟨rfl, a1, a3, a4, fun _=>hb.mp rfl⟩)⟩
        | false =>
          simp only [Bool.false_eq_true, if_false]
          exact wpS_pure ⟨rfl, (iE2 o (2 * o + 1) ⟨rfl, by lia, by omega, by exact Nat.le_of_not_lt hge, fun h3=>Bool.false_ne_true (hb.mpr h3)⟩)⟩
end
end Mine.Internal
end
section
open PySem PyProof.Rows
namespace Mine.Internal
theorem mergeLo'_eq (a b:Array Keyed):∃ rest:Keyed→StateT SortSt Sem (Array Keyed), mergeLo' a b = (do
  liftM (rule "list.sort.merge-lo")
  let y ← elem' b 0
  if (1 == b.size) = true then pure (#[y] ++ a.extract 0 a.size ++ b.extract 1 b.size)
  else if (0 + 1 == a.size) = true then pure (#[y] ++ b.extract 1 b.size ++ a.extract 0 a.size)
  else rest y):=⟨_, rfl⟩
theorem mergeHi'_eq (a b:Array Keyed):∃ rest:Keyed→StateT SortSt Sem (Array Keyed), mergeHi' a b = (do
  liftM (rule "list.sort.merge-hi")
  let y ← elem' a (a.size - 1)
  if (a.size - 1 == 0) = true then pure (a.extract 0 (a.size - 1) ++ b.extract 0 b.size ++ (#[y]:Array Keyed).reverse)
  else if (b.size == 1) = true then pure (b.extract 0 b.size ++ a.extract 0 (a.size - 1) ++ (#[y]:Array Keyed).reverse)
  else rest y):=⟨_, rfl⟩
theorem mergeAt'_eq (i:Nat):mergeAt' i = (do
  let s ← get
  let (some (sa, na, power), some (sb, nb, _)):=((pendingOf s)[i]?, (pendingOf s)[i + 1]?) | liftM (unsupported "internal:list.sort.pending")
  set (setPending s (((pendingOf s).setIfInBounds i (sa, na + nb, power)).eraseIdxIfInBounds (i + 1)))
  let some k ← gallop' false (← elem' (arrOf s) sb) (arrOf s) sa na 0 | return false
  let (sa, na):=(sa + k, na - k)
  if na == 0 then return true
  let some nb ← gallop' true (← elem' (arrOf s) (sa + na - 1)) (arrOf s) sb nb (nb - 1) | return false
  if nb == 0 then return true
  let x:=(arrOf s).extract sa sb
  let y:=(arrOf s).extract sb (sb + nb)
  let merged ← if na ≤ nb then mergeLo' x y else mergeHi' x y
  modify fun s=>setArr s (merged.toList.zipIdx.foldl (fun a (p, j)=>a.setIfInBounds (sa + j) p) (arrOf s))
  return (failedOf (← get)).isNone):=rfl
section
variable {prog:Program} {w:World} {A:Around} {E:Value→Shared→Prop} {s:Shared}
theorem wpS_set {σ:Type} {M:Model} {Q:PUnit→σ→Prop} {st st':σ} (h:Q ⟨⟩ st'):wpS M A E s (set st':StateT σ Sem PUnit) Q st:=by
  unfold wpS; rw [StateT.run_set]; exact wpAny_pure ⟨rfl, h⟩
theorem wpS_elem {st:SortSt} {arr:Array Keyed} {i:Nat} {x:Keyed} {Q:Keyed→SortSt→Prop} (hx:arr[i]? = some x) (h:Q x st):wpS (model prog w) A E s (elem' arr i) Q st:=by
  rw [elem'_eq, hx]; exact wpS_pure h
theorem one_arr {α:Type} {a:Array α} {y:α} (h:a.size = 1) (hy:a[0]? = some y):a = #[y]:=by
  obtain ⟨l⟩:=a
  match l, h with
  | [x], _ =>
    have:x = y:=by simpa using hy
    rw [this]
theorem front_arr {α:Type} {a:Array α} {y:α} (hy:a[0]? = some y):#[y] ++ a.extract 1 a.size = a:=by
  obtain ⟨l⟩:=a
  match l with
  | []=>cases hy
  | x :: r =>
    have:x = y:=by simpa using hy
    rw [this]; simp
theorem last_arr {α:Type} {a:Array α} {y:α} (hy:a[a.size - 1]? = some y):a.extract 0 (a.size - 1) ++ #[y].reverse = a:=by
  obtain ⟨l⟩:=a
  rcases List.eq_nil_or_concat l with rfl | ⟨r, x, rfl⟩
  · cases hy
  · have:y = x:=by simpa using hy.symm
    subst this
    simp
theorem wpS_mergeLo {st:SortSt} {a b:Array Keyed} {Q:Array Keyed→SortSt→Prop} (ha:0 < a.size) (hb:0 < b.size) (h1:a.size = 1 ∨ b.size = 1) (h:Q (b ++ a) st):wpS (model prog w) A E s (mergeLo' a b) Q st:=by
  refine eE1 (fun rest e=>?_) (mergeLo'_eq a b)
  have hy:b[0]? = some b[0]:=Array.getElem?_eq_getElem hb
  rw [e]
  refine wpS_bind (wpS_lift (wpAny_rule ⟨rfl, ?_⟩))
  refine wpS_bind (wpS_elem hy ?_)
  by_cases h2:b.size = 1
  · rw [if_pos (by simp [h2])]
    refine wpS_pure ?_
    have e1:=one_arr h2 hy
    rw [Array.extract_size]
    have:b.extract 1 b.size = #[]:=Array.extract_empty_of_stop_le_start (by exact Nat.le_of_eq h2)
    rw [this, Array.append_empty, ← e1]
    exact h
  · rw [if_neg (by simpa using Ne.symm h2), if_pos (by simp [h1.resolve_right h2])]
    refine wpS_pure ?_
    rw [front_arr hy, Array.extract_size]
    exact h
theorem wpS_mergeHi {st:SortSt} {a b:Array Keyed} {Q:Array Keyed→SortSt→Prop} (ha:1 < a.size) (hb:b.size = 1) (h:Q (b ++ a) st):wpS (model prog w) A E s (mergeHi' a b) Q st:=by
  refine eE1 (fun rest e=>?_) (mergeHi'_eq a b)
  have hy:a[a.size - 1]? = some a[a.size - 1]:=Array.getElem?_eq_getElem (by omega)
  rw [e]
  refine wpS_bind (wpS_lift (wpAny_rule ⟨rfl, ?_⟩))
  refine wpS_bind (wpS_elem hy ?_)
  rw [if_neg (by simp; (exact (fun {n m}=>Nat.sub_ne_zero_iff_lt.mpr) ha)), if_pos (by simp [hb])]
  refine wpS_pure ?_
  rw [Array.append_assoc, last_arr hy, Array.extract_size]
  exact h
theorem foldl_set {sa:Nat}:∀ (l:List Keyed) (k:Nat) (a:Array Keyed), sa + k + l.length ≤ a.size →
    ((l.zipIdx k).foldl (fun (a:Array Keyed) (x:Keyed × Nat)=>a.setIfInBounds (sa + x.2) x.1) a).toList = a.toList.take (sa + k) ++ l ++ a.toList.drop (sa + k + l.length)
  | [], k, a, _=>by simp
  | x :: l, k, a, h=>by
    rw [List.length_cons] at h
    have hk:sa + k < a.toList.length:=by rw [Array.length_toList]; exact Nat.lt_of_add_right_lt h
    rw [List.zipIdx_cons, List.foldl_cons, foldl_set l (k + 1) _ (by rw [Array.size_setIfInBounds]; lia), Array.toList_setIfInBounds, List.set_eq_take_append_cons_drop, if_pos hk]
    have hm:min (sa + k) a.toList.length = sa + k:=Nat.min_eq_left (Nat.le_of_lt hk)
    have e1:(a.toList.take (sa + k) ++ x :: a.toList.drop (sa + k + 1)).take (sa + (k + 1)) = a.toList.take (sa + k) ++ [x]:=by
      rw [List.take_append, List.length_take, hm, List.take_of_length_le (by rw [List.length_take]; lia), show sa + (k + 1) - (sa + k) = 1 by exact Eq.symm (Nat.eq_sub_of_add_eq' rfl)]
      rfl
    have e2:(a.toList.take (sa + k) ++ x :: a.toList.drop (sa + k + 1)).drop (sa + (k + 1) + l.length) = a.toList.drop (sa + k + (x :: l).length):=by
      rw [List.drop_append, List.length_take, hm, List.drop_of_length_le (by rw [List.length_take]; lia), show sa + (k + 1) + l.length - (sa + k) = l.length + 1 by lia, List.nil_append, List.drop_succ_cons, List.drop_drop, List.length_cons]
      congr 1
      exact Nat.add_right_comm (sa + k) 1 l.length
    rw [e1, e2]
    simp
end
end Mine.Internal
end
section
open PySem PyProof.Rows
namespace Mine.Internal
section
variable {prog:Program} {w:World} {A:Around} {E:Value→Shared→Prop} {s:Shared} {a₀:Array Keyed}
noncomputable def sig (t n1 u i:Nat):Nat:=if i < t then i else if i < t + u then n1 + (i - t) else if i < n1 + u then t + (i - t - u) else i
noncomputable def mrgL (L:List Keyed) (t n1 u:Nat):List Keyed:=L.take t ++ ((L.drop n1).take u ++ (L.take n1).drop t) ++ L.drop (n1 + u)
theorem mrg_get {L:List Keyed} {t n1 u:Nat} (h1:t ≤ n1) (h2:n1 + u ≤ L.length) (i:Nat):(mrgL L t n1 u)[i]? = L[sig t n1 u i]?:=by
  have l1:(L.take t).length = t:=by rw [List.length_take]; lia
  have l2:((L.drop n1).take u).length = u:=by rw [List.length_take, List.length_drop]; lia
  have l3:((L.take n1).drop t).length = n1 - t:=by rw [List.length_drop, List.length_take]; lia
  unfold mrgL sig
  rw [List.getElem?_append, List.getElem?_append, List.getElem?_append, List.length_append, List.length_append, l1, l2, l3]
  by_cases c1:i < t
  · rw [if_pos (by exact Nat.lt_add_right (u + (n1 - t)) c1), if_pos c1, if_pos c1, List.getElem?_take, if_pos c1]
  · by_cases c2:i < t + u
    · rw [if_pos (by lia), if_neg c1, if_pos (by lia), if_neg c1, if_pos c2, List.getElem?_take, if_pos (by omega), List.getElem?_drop]
    · by_cases c3:i < n1 + u
      · rw [if_pos (by lia), if_neg c1, if_neg (by lia), if_neg c1, if_neg c2, if_pos c3, List.getElem?_drop, List.getElem?_take, if_pos (by lia)]
      · rw [if_neg (by lia), if_neg c1, if_neg c2, if_neg c3, List.getElem?_drop]
        congr 1
        lia
theorem mrg_perm {L:List Keyed} {t n1 u:Nat} (h1:t ≤ n1):(mrgL L t n1 u).Perm L:=by
  unfold mrgL
  have e:L = L.take t ++ ((L.take n1).drop t ++ (L.drop n1).take u) ++ L.drop (n1 + u):=by
    have e1:L.take t = (L.take n1).take t:=by rw [List.take_take, Nat.min_eq_left h1]
    have e2:L.drop (n1 + u) = (L.drop n1).drop u:=by rw [List.drop_drop]
    rw [e1, e2, ← List.append_assoc, List.take_append_drop, List.append_assoc, List.take_append_drop, List.take_append_drop]
  conv=>rhs; rw [e]
  exact ((List.Perm.append_left _ List.perm_append_comm).append_right _)
theorem sig_le {k:Nat→Int} {t n1 u n:Nat} (ht:t < n1) (hu:0 < u) (hn:n1 + u ≤ n) (sA:∀ i j, i ≤ j→j < n1→k i ≤ k j) (sB:∀ i j, n1 ≤ i→i ≤ j→j < n→k i ≤ k j) (t2:∀ i, i < t→k i ≤ k n1)
    (gR:∀ j, n1 + u ≤ j→j < n→k (n1 - 1) ≤ k j) (gYX:∀ i' j', i' < u→t ≤ j'→j' < n1→k (n1 + i') ≤ k j') {i j:Nat} (hij:i ≤ j) (hj:j < n):k (sig t n1 u i) ≤ k (sig t n1 u j):=by
  have gA:∀ i, i < n1→k i ≤ k (n1 - 1):=fun i a=>sA i (n1 - 1) (by exact Nat.le_sub_one_of_lt a) (by exact Nat.sub_one_lt_of_lt ht)
  unfold sig
  by_cases c1:j < t
  · rw [if_pos (Nat.lt_of_le_of_lt hij c1), if_pos c1]
    exact sA i j hij (Nat.lt_trans c1 ht)
  rw [if_neg c1]
  by_cases d1:i < t
  · rw [if_pos d1]
    by_cases c2:j < t + u
    · rw [if_pos c2]
      exact Int.le_trans (t2 i d1) (sB n1 _ (Nat.le_refl _) (Nat.le_add_right _ _) (by lia))
    · rw [if_neg c2]
      by_cases c3:j < n1 + u
      · rw [if_pos c3]
        exact sA _ _ (by lia) (by lia)
      · rw [if_neg c3]
        exact Int.le_trans (gA i (Nat.lt_trans d1 ht)) (gR j (Nat.not_lt.mp c3) hj)
  rw [if_neg d1]
  by_cases c2:j < t + u
  · rw [if_pos c2, if_pos (Nat.lt_of_le_of_lt hij c2)]
    exact sB _ _ (Nat.le_add_right _ _) (by lia) (by omega)
  rw [if_neg c2]
  by_cases d2:i < t + u
  · rw [if_pos d2]
    by_cases c3:j < n1 + u
    · rw [if_pos c3]
      exact gYX _ _ (by lia) (by exact Nat.le_add_right t (j - t - u)) (by omega)
    · rw [if_neg c3]
      exact sB _ _ (Nat.le_add_right _ _) (by lia) hj
  rw [if_neg d2]
  by_cases c3:j < n1 + u
  · rw [if_pos c3, if_pos (Nat.lt_of_le_of_lt hij c3)]
    exact sA _ _ (by exact ar18 hij) (by omega)
  rw [if_neg c3]
  by_cases d3:i < n1 + u
  · rw [if_pos d3]
    exact Int.le_trans (gA _ (by lia)) (gR j (Nat.not_lt.mp c3) hj)
  · rw [if_neg d3]
    exact sB _ _ (by lia) hij hj
theorem wpS_mergeAt0 {st:SortSt} {n1 n2 pw:Nat} {Q:Bool→SortSt→Prop} (h0:IntKeys a₀) (hB:SBase a₀ (setPending st #[])) (hp:pendingOf st = #[(0, n1, pw), (n1, n2, 0)]) (hn:n1 + n2 = a₀.size) (h1:0 < n1) (h2:0 < n2)
    (sA:SortedTo (arrOf st) n1) (sB:∀ i j, n1 ≤ i→i ≤ j→j < a₀.size→K (arrOf st) i ≤ K (arrOf st) j)
    (hs:(∀ i, i + 1 < n1→K (arrOf st) i ≤ K (arrOf st) n1) ∨ (∀ j, n1 < j→j < a₀.size→K (arrOf st) (n1 - 1) ≤ K (arrOf st) j))
    (h:∀ st', (arrOf st').Perm a₀→failedOf st' = none→SortedTo (arrOf st') a₀.size→(pendingOf st').size = 1→Q true st'):wpS (model prog w) A E s (mergeAt' 0) Q st:=by
  have hat:∀ i, i < a₀.size→∃ t q, (arrOf st)[i]? = some (.int (K (arrOf st) i) t, q):=fun i hi=>hB.at h0 hi
  have hsz:(arrOf st).size = a₀.size:=hB.size
  have hk:kindOf st = oneType':=hB.kind
  rw [mergeAt'_eq]
  refine wpS_bind (wpS_get ?_)
  rw [hp]
  show wpS _ _ _ _ (do
    set (setPending st ((Array.setIfInBounds #[(0, n1, pw), (n1, n2, 0)] 0 (0, n1 + n2, pw)).eraseIdxIfInBounds (0 + 1)))
    let some k ← gallop' false (← elem' (arrOf st) n1) (arrOf st) 0 n1 0 | return false
    let (sa, na):=(0 + k, n1 - k)
    if na == 0 then return true
    let some nb ← gallop' true (← elem' (arrOf st) (sa + na - 1)) (arrOf st) n1 n2 (n2 - 1) | return false
    if nb == 0 then return true
    let x:=(arrOf st).extract sa n1
    let y:=(arrOf st).extract n1 (n1 + nb)
    let merged ← if na ≤ nb then mergeLo' x y else mergeHi' x y
    modify fun s=>setArr s (merged.toList.zipIdx.foldl (fun a (p, j)=>a.setIfInBounds (sa + j) p) (arrOf s))
    return (failedOf (← get)).isNone) _ _
  have hq:((Array.setIfInBounds #[(0, n1, pw), (n1, n2, 0)] 0 (0, n1 + n2, pw)).eraseIdxIfInBounds (0 + 1)) = #[(0, n1 + n2, pw)]:=by
    simp [Array.eraseIdxIfInBounds]
  rw [hq]
  refine wpS_bind (wpS_set ?_)
  refine eE2 (fun tB qB eB=>?_) (hat n1 (by lia))
  refine wpS_bind (wpS_elem eB ?_)
  refine wpS_bind (wpS_gallop (f:=fun i=>K (arrOf st) i) hk (fun i hi=>by rw [Nat.zero_add]; refine eE2 (fun t q e=>?_) (hat i (by lia)); exact (iE2 t q e)) (fun i j hij hj hb=>?_) h1 fun t t1 t2 t3=>?_)
  · simp only [Bey, Bool.false_eq_true, if_false] at hb ⊢
    exact Int.le_trans (sA i j hij hj) hb
  simp only [Bey, Bool.false_eq_true, if_false] at t2 t3
  dsimp only
  by_cases hna:n1 - t = 0
  · rw [if_pos (by simp [hna])]
    refine wpS_pure (h _ hB.perm hB.failed (fun i j hij hj=>?_) rfl)
    show K (arrOf st) i ≤ K (arrOf st) j
    by_cases c1:j < n1
    · exact sA i j hij c1
    · by_cases c2:i < n1
      · exact Int.le_trans (t2 i (by lia)) (sB n1 j (Nat.le_refl _) (by exact Nat.le_of_not_lt c1) hj)
      · exact sB i j (by exact Nat.le_of_not_lt c2) hij hj
  · rw [if_neg (by simpa using hna)]
    have ht:t < n1:=by lia
    refine eE2 (fun tA qA eA=>?_) (hat (n1 - 1) (by lia))
    refine wpS_bind (wpS_elem (i:=0 + t + (n1 - t) - 1) (by rw [show 0 + t + (n1 - t) - 1 = n1 - 1 from ar12 ‹_›]; exact eA) ?_)
    refine wpS_bind (wpS_gallop (f:=fun i=>K (arrOf st) (n1 + i)) hk (fun i hi=>by refine eE2 (fun t q e=>?_) (hat (n1 + i) (by lia)); exact (iE2 t q e)) (fun i j hij hj hb=>?_) (by (exact Nat.sub_one_lt_of_lt h2)) fun u u1 u2 u3=>?_)
    · simp only [Bey, if_true] at hb ⊢
      exact Int.lt_of_le_of_lt (sB _ _ (by lia) (by lia) (by lia)) hb
    simp only [Bey, if_true] at u2 u3
    dsimp only
    have hab:K (arrOf st) n1 < K (arrOf st) (n1 - 1):=Int.not_le.mp (t3 (n1 - 1) (by lia) (by lia))
    have hu:0 < u:=by
      rcases Nat.eq_zero_or_pos u with e | e
      · exact absurd hab (u3 0 (by lia) h2)
      · exact e
    rw [if_neg (by simp; exact Nat.ne_zero_of_lt hu)]
    have hx:((arrOf st).extract (0 + t) n1).size = n1 - t:=by rw [Array.size_extract]; exact ar15 (Nat.le_trans (Nat.le_add_right n1 n2) (Nat.le_of_eq (Eq.trans ‹n1 + n2 = a₀.size› ‹(arrOf st).size = a₀.size›.symm)))
    have hy:((arrOf st).extract n1 (n1 + u)).size = u:=by rw [Array.size_extract]; exact ar16 (Nat.le_trans (Nat.add_le_add_left ‹u ≤ n2› n1) (Nat.le_of_eq (Eq.trans ‹n1 + n2 = a₀.size› ‹(arrOf st).size = a₀.size›.symm)))
    have hone:n1 - t = 1 ∨ u = 1:=by
      rcases hs with hs | hs
      · left
        rcases Nat.lt_or_ge (t + 1) n1 with c | c
        · exact absurd (hs t c) (t3 t (Nat.le_refl _) ht)
        · lia
      · right
        rcases Nat.lt_or_ge 1 u with c | c
        · exact absurd (u2 1 c) (Int.not_lt.mpr (hs (n1 + 1) (by exact Nat.lt_add_one n1) (by lia)))
        · exact Eq.symm (Nat.le_antisymm hu c)
    have fin:wpS (model prog w) A E s (do
        modify fun s=>setArr s (((arrOf st).extract n1 (n1 + u) ++ (arrOf st).extract (0 + t) n1).toList.zipIdx.foldl (fun a (p, j)=>a.setIfInBounds (0 + t + j) p) (arrOf s))
        return (failedOf (← get)).isNone) Q (setPending st #[(0, n1 + n2, pw)]):=by
      refine wpS_bind (wpS_modify (wpS_bind (wpS_get ?_)))
      have e1:((((arrOf st).extract n1 (n1 + u) ++ (arrOf st).extract (0 + t) n1).toList.zipIdx).foldl (fun (a:Array Keyed) (x:Keyed × Nat)=>a.setIfInBounds (0 + t + x.2) x.1) (arrOf st)).toList = mrgL (arrOf st).toList t n1 u:=by
        have hl:((arrOf st).extract n1 (n1 + u) ++ (arrOf st).extract (0 + t) n1).toList.length = u + (n1 - t):=by rw [Array.length_toList, Array.size_append, hx, hy]
        rw [foldl_set _ 0 _ (by rw [hl]; lia), hl]
        unfold mrgL
        rw [Array.toList_append, Array.toList_extract, Array.toList_extract, List.extract_eq_drop_take, List.extract_eq_drop_take, show 0 + t + 0 = t by exact Eq.symm ((fun {a b}=>Nat.right_eq_add.mpr) rfl), show t + (u + (n1 - t)) = n1 + u by lia, show n1 + u - n1 = u by exact Nat.add_sub_self_left n1 u, Nat.zero_add, List.drop_take]
      have e2:∀ i, K ((((arrOf st).extract n1 (n1 + u) ++ (arrOf st).extract (0 + t) n1).toList.zipIdx).foldl (fun (a:Array Keyed) (x:Keyed × Nat)=>a.setIfInBounds (0 + t + x.2) x.1) (arrOf st)) i = K (arrOf st) (sig t n1 u i):=fun i=>K_congr (by
        rw [← Array.getElem?_toList, ← Array.getElem?_toList, e1]
        exact mrg_get (by exact Nat.le_of_succ_le ht) (by rw [Array.length_toList]; lia) i)
      have hf:failedOf st = none:=hB.failed
      refine wpS_pure ?_
      show Q (failedOf st).isNone _
      rw [hf]
      refine h _ ?_ hf (fun i j hij hj=>?_) rfl
      · refine Array.Perm.trans (Array.perm_iff_toList_perm.mpr ?_) hB.perm
        show (Array.toList (List.foldl (fun (a:Array Keyed) (x:Keyed × Nat)=>a.setIfInBounds (0 + t + x.2) x.1) (arrOf st) _)).Perm _
        rw [e1]
        exact mrg_perm (by exact Nat.le_of_succ_le ht)
      · refine (show K (List.foldl (fun (a:Array Keyed) (x:Keyed × Nat)=>a.setIfInBounds (0 + t + x.2) x.1) (arrOf st) _) i ≤ K (List.foldl (fun (a:Array Keyed) (x:Keyed × Nat)=>a.setIfInBounds (0 + t + x.2) x.1) (arrOf st) _) j from ?_)
        rw [e2, e2]
        have gX:∀ i, t ≤ i→i < n1→K (arrOf st) n1 < K (arrOf st) i:=fun i a b=>Int.not_le.mp (t3 i a b)
        have gR:∀ j, n1 + u ≤ j→j < a₀.size→K (arrOf st) (n1 - 1) ≤ K (arrOf st) j:=fun j a b=>by
          have:=u3 (j - n1) (by exact Nat.le_sub_of_add_le' a) (by lia)
          rw [show n1 + (j - n1) = j by lia] at this
          exact Int.not_lt.mp this
        have gYX:∀ i' j', i' < u→t ≤ j'→j' < n1→K (arrOf st) (n1 + i') ≤ K (arrOf st) j':=fun i' j' a b c=>by
          rcases hone with e | e
          · rw [show j' = n1 - 1 by lia]
            exact Int.le_of_lt (u2 i' a)
          · rw [show n1 + i' = n1 by lia]
            exact Int.le_of_lt (gX j' b c)
        exact sig_le (k:=fun i=>K (arrOf st) i) ht hu (by lia) sA sB t2 gR gYX hij hj
    by_cases hle:n1 - t ≤ u
    · rw [if_pos hle]
      exact wpS_bind (wpS_mergeLo (by lia) (by exact Nat.lt_of_lt_of_eq hu (id (Eq.symm hy))) (by rw [hx, hy]; exact hone) fin)
    · rw [if_neg hle]
      exact wpS_bind (wpS_mergeHi (by lia) (by lia) fin)
end
end Mine.Internal
end
section
open PySem PyProof.Rows
namespace Mine.Internal
noncomputable def Dis (xs:Array Keyed) (n d:Nat):Prop:=∀ i j, i < j→j < n→i ≠ d→j ≠ d→K xs i < K xs j
noncomputable def InjK (xs:Array Keyed) (n:Nat):Prop:=∀ i j, i < n→j < n→K xs i = K xs j→i = j
theorem K_toList (xs:Array Keyed) (i:Nat) (h:i < xs.size):K xs i = (xs.toList.map fun p=>numOf p.1)[i]'(by simpa using h):=by
  rw [K_eq h]; simp
theorem InjK.nodup {xs:Array Keyed} (h:InjK xs xs.size):(xs.toList.map fun p=>numOf p.1).Nodup:=by
  rw [List.Nodup, List.pairwise_iff_getElem]
  intro i j hi hj hij e
  have hi':i < xs.size:=by simpa using hi
  have hj':j < xs.size:=by simpa using hj
  rw [← K_toList xs i hi', ← K_toList xs j hj'] at e
  have:=h i j hi' hj' e
  lia
theorem InjK.of_nodup {xs:Array Keyed} (h:(xs.toList.map fun p=>numOf p.1).Nodup):InjK xs xs.size:=fun i j hi hj e=>by
  rw [K_toList xs i hi, K_toList xs j hj] at e
  exact (List.getElem_inj h).mp e
theorem InjK.perm {xs ys:Array Keyed} {n:Nat} (h:InjK xs n) (hn:xs.size = n) (hp:ys.Perm xs):InjK ys n:=by
  subst hn
  have:=(Array.perm_iff_toList_perm.mp hp).map fun p=>numOf p.1
  rw [← hp.size_eq]
  exact InjK.of_nodup (this.nodup_iff.mpr h.nodup)
section
variable {prog:Program} {w:World} {A:Around} {E:Value→Shared→Prop} {s:Shared} {a₀:Array Keyed}
theorem wpS_first {st:SortSt} {n d:Nat} {Q:Option Nat→SortSt→Prop} (h0:IntKeys a₀) (hn:n = a₀.size) (h3:3 ≤ n) (hB:SBase a₀ st) (hd:Dis (arrOf st) n d) (hi:InjK (arrOf st) n)
    (h:∀ m st' d', SBase a₀ st'→1 ≤ m→m ≤ n→SortedTo (arrOf st') m→Dis (arrOf st') n d'→(m = n ∨ K (arrOf st') m < K (arrOf st') (m - 1))→Q (some m) st'):wpS (model prog w) A E s (countRun' 0 n) Q st:=by
  have hle:n ≤ a₀.size:=Nat.le_of_eq hn
  rw [countRun0_eq]
  refine wpS_bind (wpS_ascLoop h0 hle (Nat.le_refl 1) (by exact Nat.one_le_of_lt h3) hB (fun i j hij hj=>by rw [show i = j by lia]; exact Int.le_refl _) fun m m1 m2 sm hor=>?_)
  dsimp only
  by_cases hmn:m = n
  · rw [if_pos (by simpa using hmn)]
    exact wpS_pure (h m st d hB m1 m2 sm hd (.inl hmn))
  · rw [if_neg (by simpa using hmn)]
    have hlt:=hor.resolve_left hmn
    by_cases hgt:m > 1
    · rw [if_pos hgt]
      refine wpS_bind (wpS_ltK hB h0 (by lia) (by lia) ?_)
      have:K (arrOf st) 0 < K (arrOf st) (m - 1):=by
        rcases Int.lt_or_eq_of_le (sm 0 (m - 1) (Nat.zero_le _) (by exact Nat.sub_one_lt_of_lt m1)) with c | c
        · exact c
        · have:=hi 0 (m - 1) (by exact Nat.zero_lt_of_lt h3) (by exact Nat.sub_one_lt_of_le m1 m2) c
          lia
      simp only [this, decide_true, if_true]
      exact wpS_pure (h m st d hB m1 m2 sm hd (.inr hlt))
    · rw [if_neg hgt]
      obtain rfl:m = 1:=by lia
      rw [show 1 - 1 = 0 from rfl] at hlt
      have hd01:d = 0 ∨ d = 1:=by
        by_cases c:d = 0 ∨ d = 1
        · exact c
        · have:=hd 0 1 (by lia) (by exact Nat.lt_of_le_of_ne m2 hmn) (by lia) (by lia)
          lia
      have h12:K (arrOf st) 1 < K (arrOf st) 2:=by
        rcases hd01 with rfl | rfl
        · exact hd 1 2 (by lia) (by exact Nat.lt_of_succ_le h3) (by lia) (by lia)
        · have:=hd 0 2 (by lia) (by omega) (by lia) (by lia)
          exact Int.lt_trans hlt this
      unfold descPart descLoop
      refine wpS_bind (wpS_lift (wpAny_rule ⟨rfl, ?_⟩))
      refine wpS_bind (wpS_mono (wpS_forRange (I:=fun x c st'=>x = 2 ∧ c = ((none, 2, 0):DescSt) ∧ st' = st) (Q:=fun c st'=>c = ((none, 2, 0):DescSt) ∧ st' = st) ?step ?fin ⟨rfl, rfl, rfl⟩) ?post)
      case fin =>
        (rintro c st'; (refine eA3 fun hx _ _=>?_))
        lia
      case step =>
        (rintro x c st' _ hxn; (refine eA3 fun hR0 hR1 hR2=>?_; subst hR0 hR1 hR2))
        dsimp only
        refine wpS_bind (wpS_ltK hB h0 (by exact Nat.lt_of_lt_of_le h3 hle) (by lia) ?_)
        have n21:¬ K (arrOf st') 2 < K (arrOf st') (2 - 1):=by rw [show 2 - 1 = 1 from rfl]; exact Int.lt_asymm h12
        simp only [n21, decide_false, Bool.false_eq_true, if_false]
        refine wpS_bind (wpS_ltK hB h0 (by omega) (by omega) ?_)
        have p12:K (arrOf st') (2 - 1) < K (arrOf st') 2:=h12
        simp only [p12, decide_true, if_true]
        exact wpS_pure ⟨rfl, rfl⟩
      case post =>
        (rintro c st'; (refine eA2 fun hR0 hR1=>?_; subst hR0 hR1))
        dsimp only
        rw [if_neg (by lia)]
        unfold tail3
        have hsz:2 ≤ (arrOf st').size:=by rw [hB.size]; lia
        refine wpS_bind (wpS_reverse ?_)
        have hB':SBase a₀ (setArr st' (mirror (arrOf st') 0 2 ((2 - 0) / 2))):=hB.setArr (mirror_perm _ _ _ _)
        have hK:∀ i, K (mirror (arrOf st') 0 2 ((2 - 0) / 2)) i = if i < 2 then K (arrOf st') (1 - i) else K (arrOf st') i:=fun i=>by
          rw [K_mirror hsz]
          by_cases c:i < 2
          · rw [if_pos ⟨Nat.zero_le _, c⟩, if_pos c]
          · rw [if_neg (by exact (fun {a b}=>not_and.mpr) fun a=>c), if_neg c]
        refine wpS_bind (wpS_ascLoop h0 hle (by lia) (by exact Nat.le_of_add_left_le h3) hB' (fun i j hij hj=>?_) fun m m1 m2 sm hor=>wpS_pure (h m _ (1 - d) hB' (by exact Nat.one_le_of_lt m1) m2 sm (fun i j hij hj a b=>?_) hor))
        · show K (mirror _ _ _ _) i ≤ K (mirror _ _ _ _) j
          rw [hK, hK, if_pos (by exact Nat.lt_of_le_of_lt hij hj), if_pos hj]
          by_cases c:i = j
          · rw [c]; exact Int.le_refl _
          · rw [show i = 0 by lia, show j = 1 by lia]
            exact Int.le_of_lt hlt
        · show K (mirror _ _ _ _) i < K (mirror _ _ _ _) j
          rw [hK, hK, if_neg (show ¬ j < 2 from ar3 hij ‹_› ‹_›)]
          split
          · exact hd (1 - i) j (by exact ar2 hij ‹_› ‹_› ‹_›) hj (by exact ar4 ‹_› ‹_›) (by lia)
          · exact hd i j hij hj (by lia) (by lia)
structure Kep (xs ys:Array Keyed) (n:Nat):Prop where
  hi:∀ i, n ≤ i→K ys i = K xs i
  lo:∀ i, i < n→∃ j, j < n ∧ K ys i = K xs j
theorem Kep.refl {xs:Array Keyed} {n:Nat}:Kep xs xs n:=⟨fun _ _=>rfl, fun i h=>⟨i, h, rfl⟩⟩
theorem Kep.bubble {xs ys:Array Keyed} {n k l:Nat} (h:Kep xs ys n) (hk:k < n) (hs:k < ys.size) (hl:l ≤ k):Kep xs (bubble ys k (k - l)) n:=by
  have e:=fun i=>K_bubble (xs:=ys) hs (Nat.sub_le k l) i
  refine ⟨fun i hi=>?_, fun i hi=>?_⟩
  · rw [e, if_neg (by lia), if_neg (by lia)]
    exact h.hi i hi
  · rw [e]
    split
    · exact h.lo k hk
    · split
      · exact h.lo (i - 1) (by (exact Nat.sub_lt_of_lt hi))
      · exact h.lo i hi
theorem mid_lt2 {l r:Nat} (h:l < r):l ≤ (l + r) / 2 ∧ (l + r) / 2 < r:=⟨(Nat.le_div_iff_mul_le (by decide)).mpr (by rw [Nat.mul_two]; exact Nat.add_le_add_left (Nat.le_of_lt h) l), (Nat.div_lt_iff_lt_mul (by decide)).mpr (by rw [Nat.mul_two]; exact Nat.add_lt_add_right h r)⟩
theorem wpS_bins {st:SortSt} {n ok:Nat} {Q:Bool→SortSt→Prop} (h0:IntKeys a₀) (hn:n ≤ a₀.size) (h1:1 ≤ ok) (hok:ok ≤ n) (hB:SBase a₀ st) (hs:SortedTo (arrOf st) ok)
    (h:∀ st', SBase a₀ st'→SortedTo (arrOf st') n→Kep (arrOf st) (arrOf st') n→Q true st'):wpS (model prog w) A E s (binarySort' 0 n ok) Q st:=by
  rw [binarySort'_eq]
  simp only [Nat.zero_add]
  refine wpS_bind (wpS_mono (wpS_forRange (I:=fun k c t=>c = (none, ()) ∧ SBase a₀ t ∧ SortedTo (arrOf t) k ∧ Kep (arrOf st) (arrOf t) n) (Q:=fun c t=>c = (none, ()) ∧ SBase a₀ t ∧ SortedTo (arrOf t) n ∧ Kep (arrOf st) (arrOf t) n) ?step ?fin ⟨rfl, hB, by rw [Nat.max_eq_left h1]; exact hs, Kep.refl⟩) ?post)
  case post =>
    (rintro c t; (refine eA4 fun hR0 b1 b2 b3=>?_; subst hR0))
    exact wpS_pure (h t b1 b2 b3)
  case fin =>
    (rintro c t; (refine eA4 fun hc b1 b2 b3=>?_))
    rw [show max (max ok 1) n = n by lia] at b2
    exact ⟨hc, b1, b2, b3⟩
  case step =>
    (rintro k c t hak hkn; (refine eA4 fun hR0 b1 b2 b3=>?_; subst hR0))
    refine wpS_bind (wpS_mono (wpS_forRange (I:=fun x c t'=>t' = t ∧ ∃ l r, c = (none, l, r) ∧ l ≤ r ∧ r ≤ k ∧ r - l ≤ k - x ∧ (∀ i, i < l→K (arrOf t) i ≤ K (arrOf t) k) ∧ (∀ i, r ≤ i→i < k→K (arrOf t) k < K (arrOf t) i))
      (Q:=fun c t'=>t' = t ∧ ∃ l r, c = (none, l, r) ∧ l ≤ k ∧ (∀ i, i < l→K (arrOf t) i ≤ K (arrOf t) k) ∧ (∀ i, l ≤ i→i < k→K (arrOf t) k < K (arrOf t) i)) ?s2 ?f2 ⟨rfl, (iE2 0 k ⟨rfl, by lia, by lia, by exact Nat.sub_le k 0, fun i hi=>by lia, fun i h1 h2=>by lia⟩)⟩) ?p2)
    case f2 =>
      (rintro c t'; (refine eA2 fun hR0=>?_; refine eE2 fun l r=>?_; refine eA6 fun hR3 c1 c2 c3 c4 c5=>?_; subst hR0 hR3))
      obtain rfl:l = r:=by exact ar25 ‹_› ‹_›
      exact ⟨rfl, (iE2 l l ⟨rfl, c2, c4, c5⟩)⟩
    case s2 =>
      (rintro x c t' _ hx; (refine eA2 fun hR0=>?_; refine eE2 fun l r=>?_; refine eA6 fun hR3 c1 c2 c3 c4 c5=>?_; subst hR0 hR3))
      dsimp only
      by_cases hge:l ≥ r
      · rw [if_pos hge]
        obtain rfl:l = r:=by exact Nat.le_antisymm c1 hge
        exact wpS_pure ⟨rfl, (iE2 l l ⟨rfl, c2, c4, c5⟩)⟩
      · rw [if_neg hge]
        refine eA2 (fun m1 m2=>?_) (mid_lt2 (Nat.not_le.mp hge))
        generalize (l + r) / 2 = M at m1 m2 ⊢
        have hkz:=Nat.lt_of_lt_of_le hkn hn
        have mk:=Nat.lt_of_lt_of_le m2 c2
        refine wpS_bind (wpS_ltK b1 h0 hkz (Nat.lt_trans mk hkz) ?_)
        by_cases hless:K (arrOf t') k < K (arrOf t') M
        · simp only [hless, decide_true, if_true]
          exact wpS_pure ⟨rfl, (iE2 l M ⟨rfl, m1, Nat.le_of_lt mk, less2 c3 m2, c4, fun i d1 d2=>Int.lt_of_lt_of_le hless (b2 _ i d1 d2)⟩)⟩
        · simp only [hless, decide_false, Bool.false_eq_true, if_false]
          exact wpS_pure ⟨rfl, (iE2 (M + 1) r ⟨rfl, m2, c2, less1 c3 m1, fun i d1=>Int.le_trans (b2 i _ (Nat.le_of_lt_succ d1) mk) (Int.not_lt.mp hless), c5⟩)⟩
    case p2 =>
      (rintro c t'; (refine eA2 fun hR0=>?_; refine eE2 fun l r=>?_; refine eA4 fun hR3 c1 c4 c5=>?_; subst hR0 hR3))
      have hks:k < (arrOf t').size:=by rw [b1.size]; exact Nat.lt_of_lt_of_le hkn hn
      refine wpS_bind (m:=moveDown' k l) ?_
      rw [moveDown'_eq]
      refine wpS_modify (wpS_pure ⟨rfl, b1.setArr (bubble_perm _ _ _), fun i j hij hj=>?_, b3.bubble hkn hks c1⟩)
      show K (bubble (arrOf t') k (k - l)) i ≤ K (bubble (arrOf t') k (k - l)) j
      have e:=fun i=>K_bubble (xs:=arrOf t') hks (Nat.sub_le k l) i
      rw [e, e, show k - (k - l) = l by exact Nat.sub_sub_self c1]
      by_cases di:i = l
      · rw [if_pos di]
        by_cases dj:j = l
        · rw [if_pos dj]; exact Int.le_refl _
        · rw [if_neg dj, if_pos (by lia)]
          exact Int.le_of_lt (c5 _ (by lia) (by lia))
      · rw [if_neg di]
        by_cases dl:i < l
        · rw [if_neg (by lia)]
          by_cases dj:j = l
          · rw [if_pos dj]; exact c4 i dl
          · rw [if_neg dj]
            split
            · exact b2 _ _ (by lia) (by lia)
            · exact b2 _ _ hij (by lia)
        · rw [if_pos (by lia), if_neg (by lia), if_pos (by lia)]
          exact b2 _ _ (by (exact Nat.sub_le_sub_right hij 1)) (by lia)
end
end Mine.Internal
end
section
open PySem PyProof.Rows
namespace Mine.Internal
section
variable {prog:Program} {w:World} {A:Around} {E:Value→Shared→Prop} {s:Shared} {a₀:Array Keyed}
theorem wpS_lt2 {st:SortSt} {i j:Nat} {Q:Option Bool→SortSt→Prop} (hB:SBase a₀ (setPending st #[])) (h0:IntKeys a₀) (hi:i < a₀.size) (hj:j < a₀.size)
    (h:Q (some (decide (K (arrOf st) i < K (arrOf st) j))) st):wpS (model prog w) A E s (ltAt' i j) Q st:=by
  refine eE2 (fun t p e1=>?_) (hB.at h0 hi)
  refine eE2 (fun u q e2=>?_) (hB.at h0 hj)
  exact wpS_ltAt hB.kind e1 e2 h
theorem wpS_upRun {st:SortSt} {lo n:Nat} {Q:Option Nat→SortSt→Prop} (hB:SBase a₀ (setPending st #[])) (h0:IntKeys a₀) (h1:1 ≤ n) (hn:lo + n ≤ a₀.size) (sB:∀ i j, lo ≤ i→i ≤ j→j < lo + n→K (arrOf st) i ≤ K (arrOf st) j)
    (h:Q (some n) st):wpS (model prog w) A E s (countRun' lo n) Q st:=by
  rw [countRun'_eq]
  refine wpS_bind (wpS_mono (wpS_forRange (I:=fun x c st'=>st' = st ∧ c = (none, x)) (Q:=fun c st'=>st' = st ∧ c = (none, n)) ?step ?fin ⟨rfl, rfl⟩) ?post)
  case fin =>
    (rintro c st'; (refine eA2 fun hR0 hR1=>?_; subst hR0 hR1))
    rw [show max 1 n = n by exact Nat.max_eq_right h1]
    exact ⟨rfl, rfl⟩
  case post =>
    (rintro c st'; (refine eA2 fun hR0 hR1=>?_; subst hR0 hR1))
    dsimp only
    rw [if_pos (by simp)]
    exact wpS_pure h
  case step =>
    (rintro x c st' hx hxn; (refine eA2 fun hR0 hR1=>?_; subst hR0 hR1))
    dsimp only
    refine wpS_bind (wpS_lt2 hB h0 (by lia) (by lia) ?_)
    have:¬ K (arrOf st') (lo + x) < K (arrOf st') (lo + x - 1):=Int.not_lt.mpr (sB _ _ (by lia) (by (exact Nat.sub_le (lo + x) 1)) (by exact Nat.add_lt_add_left hxn lo))
    simp only [this, decide_false, Bool.false_eq_true, if_false]
    exact wpS_pure ⟨rfl, rfl⟩
theorem wpS_binsNone {st:SortSt} {lo n:Nat} {Q:Bool→SortSt→Prop} (h1:1 ≤ n) (h:Q true st):wpS (model prog w) A E s (binarySort' lo n n) Q st:=by
  rw [binarySort'_eq]
  refine wpS_bind (wpS_mono (wpS_forRange (I:=fun _ c st'=>c = (none, ()) ∧ st' = st) (Q:=fun c st'=>c = (none, ()) ∧ st' = st) (fun i c st' a b _=>by lia) (fun _ _ h=>h) ⟨rfl, rfl⟩) ?_)
  (rintro c st'; (refine eA2 fun hR0 hR1=>?_; subst hR0 hR1))
  exact wpS_pure h
noncomputable def One (a₀:Array Keyed) (st:SortSt):Prop:=(arrOf st).Perm a₀ ∧ failedOf st = none ∧ SortedTo (arrOf st) a₀.size ∧ (pendingOf st).size = 1
structure Two (a₀:Array Keyed) (st:SortSt) (n1:Nat):Prop where
  B:SBase a₀ (setPending st #[])
  p:0 < n1
  l:n1 < a₀.size
  sA:SortedTo (arrOf st) n1
  sB:∀ i j, n1 ≤ i→i ≤ j→j < a₀.size→K (arrOf st) i ≤ K (arrOf st) j
  hs:(∀ i, i + 1 < n1→K (arrOf st) i ≤ K (arrOf st) n1) ∨ (∀ j, n1 < j→j < a₀.size→K (arrOf st) (n1 - 1) ≤ K (arrOf st) j)
theorem two_of {st st':SortSt} {m n1 d:Nat} (hB:SBase a₀ st) (hB':SBase a₀ st') (hd:Dis (arrOf st) a₀.size d) (hi:InjK a₀ a₀.size) (hm:1 ≤ m) (hmn:m ≤ n1) (hl:n1 < a₀.size) (hlt:K (arrOf st) m < K (arrOf st) (m - 1)) (sA:SortedTo (arrOf st') n1) (kp:Kep (arrOf st) (arrOf st') n1) (hsame:n1 = m→arrOf st' = arrOf st):Two a₀ st' n1:=by
  have hdm:d = m ∨ d + 1 = m:=by
    by_cases c:d = m ∨ d + 1 = m
    · exact c
    · have:=hd (m - 1) m (by (exact Nat.sub_one_lt_of_lt hm)) (by exact Nat.lt_of_le_of_lt hmn hl) (by lia) (by lia)
      lia
  have inj:=hi.perm rfl hB'.perm
  refine ⟨⟨hB'.perm, hB'.kind, hB'.failed, rfl⟩, by exact Nat.lt_of_lt_of_le hm hmn, hl, sA, fun i j a b c=>?_, ?_⟩
  · rw [kp.hi i a, kp.hi j (by exact Nat.le_trans a b)]
    by_cases e:i = j
    · rw [e]; exact Int.le_refl _
    · by_cases di:i = d
      · have:=hd (m - 1) j (by lia) c (by lia) (by lia)
        rw [show i = m by lia]
        lia
      · exact Int.le_of_lt (hd i j (by lia) c di (by lia))
  · by_cases dn:d < n1
    · left
      intro i hin
      refine Int.not_lt.mp fun hgt=>?_
      have h2:K (arrOf st') n1 < K (arrOf st') (i + 1):=Int.lt_of_lt_of_le hgt (sA i (i + 1) (by lia) hin)
      rw [kp.hi n1 (Nat.le_refl _)] at hgt h2
      have key:∀ q, q < n1→K (arrOf st) n1 < K (arrOf st') q→K (arrOf st') q = K (arrOf st) d:=fun q hq hgt=>by
        (refine eE1 (fun j=>?_) (kp.lo q hq); refine eA2 fun hj e=>?_)
        by_cases c:j = d
        · rw [e, c]
        · have:=hd j n1 hj hl c (by lia)
          lia
      have:=inj i (i + 1) (by lia) (by lia) ((key i (by lia) hgt).trans (key (i + 1) hin h2).symm)
      lia
    · right
      intro j a b
      have e1:n1 = m:=by lia
      rw [hsame e1]
      exact Int.le_of_lt (hd (n1 - 1) j (by lia) b (by lia) (by lia))
noncomputable def SortI (a₀:Array Keyed) (d x:Nat) (c:Option Unit × Nat) (st':SortSt):Prop:=(x = 0 ∧ c = (none, 0) ∧ SBase a₀ st' ∧ Dis (arrOf st') a₀.size d) ∨ (1 ≤ x ∧ c = (none, a₀.size) ∧ One a₀ st') ∨ (x = 1 ∧ ∃ n1, c = (none, n1) ∧ pendingOf st' = #[(0, n1, 0)] ∧ Two a₀ st' n1) ∨ (2 ≤ x ∧ c = (none, a₀.size) ∧ ∃ n1 pw, pendingOf st' = #[(0, n1, pw), (n1, a₀.size - n1, 0)] ∧ Two a₀ st' n1)
noncomputable def SortQ (a₀:Array Keyed) (c:Option Unit × Nat) (st':SortSt):Prop:=c = (none, a₀.size) ∧ (One a₀ st' ∨ ∃ n1 pw, pendingOf st' = #[(0, n1, pw), (n1, a₀.size - n1, 0)] ∧ Two a₀ st' n1)
noncomputable def SortJ (a₀:Array Keyed) (x:Nat) (c:Option Unit × Unit) (st'':SortSt):Prop:=c = (none, ()) ∧ (One a₀ st'' ∨ (x = 0 ∧ ∃ n1 pw, pendingOf st'' = #[(0, n1, pw), (n1, a₀.size - n1, 0)] ∧ Two a₀ st'' n1))
theorem wpS_sortTwo {st:SortSt} {d:Nat} {Q:Unit→SortSt→Prop} (h0:IntKeys a₀) (hB:SBase a₀ st) (hd:Dis (arrOf st) a₀.size d) (hi:InjK a₀ a₀.size) (h3:3 ≤ a₀.size) {mr:Nat} (hmr:minRun' a₀.size a₀.size 0 = mr) (hmr2:mr < a₀.size)
    (h:∀ st', (arrOf st').Perm a₀→failedOf st' = none→SortedTo (arrOf st') a₀.size→Q () st'):wpS (model prog w) A E s sortRuns' Q st:=by
  rw [sortRuns'_eq]
  refine wpS_bind (wpS_get ?_)
  dsimp only
  simp only [hB.size, hmr]
  refine wpS_bind (wpS_mono (wpS_forRange
    (I:=SortI a₀ d)
    (Q:=SortQ a₀) ?step ?fin (.inl ⟨rfl, rfl, hB, hd⟩)) ?post)
  case fin =>
    rintro c st' (⟨hx, _⟩ | ⟨_, hc, hD⟩ | ⟨hx, _⟩ | ⟨_, hc, hD⟩)
    · lia
    · exact ⟨hc, .inl hD⟩
    · lia
    · exact ⟨hc, .inr hD⟩
  case step =>
    rintro x c st' _ hx (⟨rfl, rfl, hB', hd'⟩ | ⟨hx1, rfl, hD⟩ | ⟨rfl, n1, rfl, hp, hT⟩ | ⟨hx2, rfl, hD⟩)
    · dsimp only
      rw [if_neg (by exact Nat.not_le_of_lt hx)]
      simp only [Nat.sub_zero, Nat.zero_add]
      refine wpS_bind (wpS_first h0 rfl h3 hB' hd' (hi.perm rfl hB'.perm) fun m st2 d2 b1 m1 m2 sm dd hor=>?_)
      dsimp only
      by_cases hlt:m < mr
      · rw [if_pos hlt]
        simp only [Nat.min_eq_right (Nat.le_of_lt hmr2)]
        refine wpS_bind (wpS_lift (wpAny_rule ⟨rfl, ?_⟩))
        refine wpS_bind (wpS_bins h0 (Nat.le_of_lt hmr2) m1 (Nat.le_of_lt hlt) b1 sm fun st3 b3 s3 k3=>?_)
        simp only [Bool.not_true, Bool.false_eq_true, if_false]
        refine wpS_bind (wpS_get ?_)
        have hb:(pendingOf st3).back? = none:=by rw [b3.pend]; rfl
        rw [hb]
        dsimp only
        have hT:=two_of b1 b3 dd hi m1 (Nat.le_of_lt hlt) hmr2 (hor.resolve_left (by lia)) s3 k3 (fun e=>by lia)
        exact wpS_bind (wpS_modify (wpS_pure (.inr (.inr (.inl ⟨(by first | rfl | trivial), mr, rfl, by show (pendingOf st3).push _ = _; rw [b3.pend]; rfl, hT.B, hT.p, hT.l, hT.sA, hT.sB, hT.hs⟩)))))
      · rw [if_neg hlt]
        refine wpS_bind (wpS_get ?_)
        have hb:(pendingOf st2).back? = none:=by rw [b1.pend]; rfl
        rw [hb]
        dsimp only
        by_cases hmn:m = a₀.size
        · subst hmn
          exact wpS_bind (wpS_modify (wpS_pure (.inr (.inl ⟨by lia, rfl, b1.perm, b1.failed, sm, by show ((pendingOf st2).push _).size = 1; rw [b1.pend]; rfl⟩))))
        · have hT:=two_of b1 b1 dd hi m1 (Nat.le_refl m) (by lia) (hor.resolve_left hmn) sm Kep.refl (fun _=>rfl)
          exact wpS_bind (wpS_modify (wpS_pure (.inr (.inr (.inl ⟨(by first | rfl | trivial), m, rfl, by show (pendingOf st2).push _ = _; rw [b1.pend]; rfl, hT.B, hT.p, hT.l, hT.sA, hT.sB, hT.hs⟩)))))
    · dsimp only
      rw [if_pos (Nat.le_refl _)]
      exact wpS_pure ⟨rfl, .inl hD⟩
    · dsimp only
      have hl:=hT.l
      rw [if_neg (by exact Nat.not_le_of_lt hl)]
      refine wpS_bind (wpS_upRun hT.B h0 (by exact Nat.le_sub_of_add_le' hl) (by lia) (fun i j a b c=>hT.sB i j a b (by lia)) ?_)
      dsimp only
      by_cases hlt:a₀.size - n1 < mr
      all_goals first
        | (rw [if_pos hlt]
           simp only [Nat.min_eq_left (Nat.le_of_lt hlt)]
           refine wpS_bind (wpS_lift (wpAny_rule ⟨rfl, ?_⟩))
           refine wpS_bind (wpS_binsNone (by omega) ?_)
           simp only [Bool.not_true, Bool.false_eq_true, if_false])
        | rw [if_neg hlt]
      all_goals
        refine wpS_bind (wpS_get ?_)
        have hb:(pendingOf st').back? = some (0, n1, 0):=by rw [hp]; rfl
        rw [hb]
        dsimp only
        refine wpS_bind (wpS_mono (wpS_forRange (I:=fun _ c st''=>st'' = st' ∧ c = (none, ())) (Q:=fun c st''=>st'' = st' ∧ c = (none, ())) ?_ (fun _ _ hh=>hh) ⟨rfl, rfl⟩) ?_)
        · (rintro x c st'' _ _; (refine eA2 fun hR0 hR1=>?_; subst hR0 hR1))
          refine wpS_bind (wpS_get ?_)
          have e:(if (pendingOf st'').size > 1 then (pendingOf st'')[(pendingOf st'').size - 2]? else none) = none:=by rw [hp]; rfl
          rw [e]
          exact wpS_pure ⟨rfl, rfl⟩
        · (rintro c st''; (refine eA2 fun hR0 hR1=>?_; subst hR0 hR1))
          dsimp only
          refine wpS_bind (wpS_modify (wpS_bind (wpS_modify (wpS_pure (.inr (.inr (.inr ⟨Nat.le_refl _, by rw [show n1 + (a₀.size - n1) = a₀.size by lia], (iE2 n1 (power' a₀.size (2 * 0 + n1) (2 * 0 + n1 + n1 + (a₀.size - n1)) a₀.size) ⟨?_, hT.B, hT.p, hT.l, hT.sA, hT.sB, hT.hs⟩)⟩)))))))
          show ((pendingOf st'').modify ((pendingOf st'').size - 1) _).push _ = _
          rw [hp]
          simp [Array.modify, Array.modifyM]
    · dsimp only
      rw [if_pos (Nat.le_refl _)]
      exact wpS_pure ⟨rfl, .inr hD⟩
  case post =>
    (rintro c st'; (refine eA2 fun hR0 hD=>?_; subst hR0))
    dsimp only
    refine wpS_bind (wpS_mono (wpS_forRange (I:=SortJ a₀) (Q:=fun c st''=>c = (none, ()) ∧ One a₀ st'') ?_ (fun c st'' hh=>⟨hh.1, hh.2.resolve_right (fun h=>by lia)⟩) ⟨rfl, hD.imp id (fun h=>⟨rfl, h⟩)⟩) ?_)
    · rintro x c st'' _ _ ⟨rfl, hO | ⟨rfl, n1, pw, hp, hT⟩⟩
      · refine wpS_bind (wpS_get ?_)
        rw [if_pos (Nat.le_of_eq hO.2.2.2)]
        exact wpS_pure ⟨rfl, hO⟩
      · refine wpS_bind (wpS_get ?_)
        have hl:=hT.l
        rw [hp]
        refine wpS_bind (m:=mergeAt' 0) (wpS_mergeAt0 h0 hT.B hp (by omega) hT.p (by lia) hT.sA hT.sB hT.hs fun st3 a1 a2 a3 a4=>?_)
        exact wpS_pure ⟨rfl, .inl ⟨a1, a2, a3, a4⟩⟩
    · (rintro c st''; (refine eA2 fun hR0 hO=>?_; subst hR0))
      exact wpS_pure (h _ hO.1 hO.2.1 hO.2.2.1)
end
end Mine.Internal
end
section
open PySem PyProof.Rows
namespace Mine.Internal
noncomputable def Disp (ns:List Int):Prop:=∃ p k q, ns = p ++ k :: q ∧ (p ++ q).Pairwise (· < ·) ∧ k ∉ p ++ q
theorem Disp.nodup {ns:List Int} (h:Disp ns):ns.Nodup:=by
  (revert h; refine eE3 fun p k q=>?_; refine eA3 fun hR3 h1 h2=>?_; subst hR3)
  rw [List.perm_middle.nodup_iff, List.nodup_cons]
  exact ⟨h2, h1.imp fun h=>by exact Int.ne_of_lt h⟩
theorem keys_pairs {vs:List Value} {ns:List Int} (h:IntsAre vs ns):(pairsOf vs).toList.map (fun p=>numOf p.1) = ns:=by
  rw [pairsOf_toList, ← h.nums]
  have:(vs.zip vs).map (fun p=>numOf p.1) = ((vs.zip vs).map Prod.fst).map numOf:=by rw [List.map_map]; rfl
  rw [this, List.map_fst_zip (Nat.le_refl _)]
theorem K_pairs {vs:List Value} {ns:List Int} (h:IntsAre vs ns) {i:Nat} (hi:i < ns.length):K (pairsOf vs) i = ns[i]:=by
  rw [K_toList _ _ (by rw [pairsOf_size, h.length]; exact hi)]
  simp only [keys_pairs h]
theorem Disp.dis {vs:List Value} {ns:List Int} (h:Disp ns) (hi:IntsAre vs ns):∃ d, Dis (pairsOf vs) (pairsOf vs).size d:=by
  (revert h; refine eE3 fun p k q=>?_; refine eA3 fun e h1 h2=>?_)
  refine ⟨p.length, fun i j hij hj ni nj=>?_⟩
  rw [pairsOf_size, hi.length] at hj
  rw [K_pairs hi (by exact Nat.lt_trans hij hj), K_pairs hi hj]
  subst e
  rw [List.length_append, List.length_cons] at hj
  have get:∀ x (hx:x < (p ++ k :: q).length), x ≠ p.length→(p ++ k :: q)[x] = (p ++ q)[if x < p.length then x else x - 1]'(by rw [List.length_append] at *; simp only [List.length_cons] at hx; split <;> lia):=fun x hx nx=>by
    by_cases c:x < p.length
    · simp only [if_pos c]
      rw [List.getElem_append_left c, List.getElem_append_left c]
    · simp only [if_neg c]
      rw [List.getElem_append_right (by exact Nat.le_of_not_lt c), List.getElem_append_right (by lia), List.getElem_cons, dif_neg (by lia)]
      congr 1
      exact Nat.sub_right_comm x p.length 1
  rw [get i _ ni, get j _ nj]
  refine List.pairwise_iff_getElem.mp h1 _ _ _ _ ?_
  split <;> split <;> lia
section
variable {prog:Program} {w:World} {A:Around} {E:Value→Shared→Prop} {s:Shared}
theorem sort_tree {a:Addr} {vs:List Value} {ns:List Int} {n:Nat} {P:Fin→Shared→Prop} (ho:s.heap.get? a = some (seqObj "list" vs.toArray n)) (hI:IntsAre vs ns) (hz:2 ≤ vs.length) (hz2:vs.length ≤ 1000)
    (hrun:∀ (E':Value→Shared→Prop) (s':Shared) (Q:Unit→SortSt→Prop), (∀ st', (arrOf st').Perm (pairsOf vs)→failedOf st' = none→SortedTo (arrOf st') (pairsOf vs).size→Q () st')→wpS (model prog w) A E' s' sortRuns' Q (SortSt.mk' oneType' (pairsOf vs) #[] 7 none))
    (h:∀ (out:Array Value) (ns':List Int), IntsAre out.toList ns'→ns'.Perm ns→ns'.Pairwise (· ≤ ·)→P (.done (.ret .none)) { s with heap:=sortedHeap s.heap a vs out }) :
    wpAny (model prog w) A (Builtin.«list.sort» ⟨[.ref a], []⟩) P E s:=by
  rw [list_sort_plain]
  have ha:a < s.heap.objs.size:=Heap.lt_size ho
  have hsz:vs.toArray.size = vs.length:=List.size_toArray
  refine wpAny_bind (listItems_at ho rfl ?_)
  refine wpAny_bind (listUpdate_at ho rfl ?_ (by rw [hsz, sizeLine_eq]; lia) (Nat.zero_le _))
  obtain ⟨e1, ho1⟩:∃ e1, (s.heap.update a (Obj.mapSeq fun _=>#[])).get? a = some (seqObj "list" #[] e1):=⟨_, get?_update_seq ho (fun _=>#[])⟩
  refine wpAny_bind (seqEpoch_at ho1 rfl (wpAny_bind (wpAny_newTuple (wpAny_bind (wpAny_newList (wpAny_holding ?_))))))
  have ho6:(((s.heap.update a (Obj.mapSeq fun _=>#[])).push (seqObj "tuple" vs.toArray 0)).push (seqObj "list" #[] 0)).get? a = some (seqObj "list" #[] e1) :=
    Heap.get?_push_of_some _ (Heap.get?_push_of_some _ ho1)
  show wpAny (model prog w) A _ P E { s with heap:=((s.heap.update a (Obj.mapSeq fun _=>#[])).push (seqObj "tuple" vs.toArray 0)).push (seqObj "list" #[] 0) }
  dsimp only
  have h2:¬ vs.toArray.size < 2:=by exact (fun {a b}=>Nat.not_lt.mpr) hz
  rw [if_neg h2, if_neg h2]
  have hkk:keyKind' vs.toArray = pure oneType':=by
    match vs, hz, hI with
    | [], hz, _=>simp at hz
    | [_], hz, _=>simp at hz
    | v₁ :: v₂ :: rest, _, hI=>exact keyKind_ints hI
  rw [hkk]
  refine wpAny_bind (wpAny_pure (wpAny_bind (wpAny_mono (hrun _ _ (fun _ st'=>(arrOf st').Perm (pairsOf vs) ∧ failedOf st' = none ∧ SortedTo (arrOf st') (pairsOf vs).size) fun st' a1 a2 a3=>⟨a1, a2, a3⟩) ?_ fun _ _ e=>e)))
  (rintro hZ1; obtain ⟨⟨⟩, st'⟩:=hZ1; rintro s'; (refine eA4 fun hR0 hp hf hs=>?_; subst hR0))
  dsimp only
  refine wpAny_bind (seqEpoch_at ho6 rfl ?_)
  refine wpAny_bind (listUpdate_at ho6 rfl ?_ (Nat.zero_le _) (by refine Nat.le_trans (Nat.le_of_eq ((Array.size_map ..).trans (hp.size_eq.trans (pairsOf_size _)))) ?_; rw [sizeLine_eq]; lia))
  rw [hf]
  simp only [bne_self_eq_false, Bool.false_eq_true, if_false]
  (refine eE1 (fun ns'=>?_) (sorted_out hI hp hs); refine eA3 fun b1 b2 b3=>?_)
  exact wpAny_pure (h _ ns' b1 b2 b3)
theorem sortedD {l:Addr} {vs:List Value} {ns:List Int} {Q:Value→Shared→Prop} (hl:s.heap.IsList l vs.toArray) (hI:IntsAre vs ns) (hd:Disp ns) (h64:64 ≤ ns.length) (h67:ns.length ≤ 67)
    (h:∀ (out:Array Value) (ns':List Int), IntsAre out.toList ns'→ns'.Perm ns→ns'.Pairwise (· ≤ ·)→Q (.ref (s.heap.objs.size + 1)) { s with heap:=sortedAll s.heap vs out }) :
    wpAny (model prog w) A (call (.builtin "sorted") [.ref l]) Q E s:=by
  have hvl:=hI.length
  refine eE1 (fun d hdis=>?_) (hd.dis hI)
  have hinj:InjK (pairsOf vs) (pairsOf vs).size:=InjK.of_nodup (by rw [keys_pairs hI]; exact hd.nodup)
  refine Calls.call_function_entry kind_sorted plain_sorted entry_sorted (args_sorted1 _) ?_
  unfold Builtin.«sorted»
  refine wpAny_bind (m:=checkCount "sorted" 1 1 _) (wpAny_pure (wpAny_bind (collect_list hl (wpAny_bind (wpAny_newList ?_)) (by rw [sizeLine_eq]; lia))))
  have hsz:((s.heap.push (seqObj "list" #[] 0)).update s.heap.objs.size (Obj.mapSeq (· ++ vs.toArray))).objs.size = s.heap.objs.size + 1:=by rw [Heap.size_update, size_push']
  have hoL:(((s.heap.push (seqObj "list" #[] 0)).update s.heap.objs.size (Obj.mapSeq (· ++ vs.toArray))).push (seqObj "list" vs.toArray 0)).get? (s.heap.objs.size + 1) = some (seqObj "list" vs.toArray 0):=by
    rw [← hsz]; exact Heap.get?_push_size _ rfl
  show wpAny _ _ _ _ _ { s with heap:=((s.heap.push (seqObj "list" #[] 0)).update s.heap.objs.size (Obj.mapSeq (· ++ vs.toArray))).push (seqObj "list" vs.toArray 0) }
  rw [hsz]
  have hm:∃ mr, minRun' (pairsOf vs).size (pairsOf vs).size 0 = mr ∧ mr < (pairsOf vs).size:=by
    rw [pairsOf_size, hvl]
    rcases (by lia:ns.length = 64 ∨ ns.length = 65 ∨ ns.length = 66 ∨ ns.length = 67) with e | e | e | e <;> rw [e]
    · exact ⟨32, rfl, by decide⟩
    · exact ⟨33, rfl, by decide⟩
    · exact ⟨33, rfl, by decide⟩
    · exact ⟨34, rfl, by decide⟩
  (revert hm; refine eE1 fun mr=>?_; refine eA2 fun hmr hmr2=>?_)
  refine wpAny_bind (wpAny_holding (wpAny_call_entry slot_list_sort ⟨_, hoL, rfl⟩ entry_list_sort (sort_tree hoL hI (by lia) (by lia) (fun E' s' Q' hQ=>?_) fun out ns' a1 a2 a3=>⟨_, rfl, ?_⟩) (args_list_sort _)))
  · exact wpS_sortTwo hI.intKeys ⟨Array.Perm.refl _, rfl, rfl, rfl⟩ hdis hinj (by rw [pairsOf_size]; lia) hmr hmr2 hQ
  · exact wpAny_pure ⟨_, rfl, h out ns' a1 a2 a3⟩
end
end Mine.Internal
end
section
open PySem PySem.W PyProof.Rows PySem.Challenge PySem.Spec PySem.Calls
namespace Mine.Internal
section
open PySem PySem.W PyProof.Rows PySem.Challenge PySem.Spec PySem.Calls
noncomputable def NsO (o:Obj) (m:Str→Option Value):Prop:=∃ es ep, o.data = .dict es ep ∧ StrKeys es ∧ ∀ name, nsFind es name = m name
theorem NsO.ns {o:Obj} {m:Str→Option Value} {h:Heap} {a:Addr} (n:NsO o m) (e:h.get? a = some o):h.Ns a m:=let ⟨es, ep, q⟩:=n; ⟨o, es, ep, e, q⟩
theorem NsO.of {m:Str→Option Value} {h:Heap} {a:Addr} (n:h.Ns a m):∃ o, h.get? a = some o ∧ NsO o m:=let ⟨o, es, ep, e, q⟩:=n; ⟨o, e, es, ep, q⟩
noncomputable abbrev genO (n:Nat) (nm qn:Value):Obj:={ cls:=.type "generator", data:=.fields #[.int n 0, nm, qn] }
theorem gen_code {prog:Program} {w:World} {A:Around} {s:Shared} {h₀:Heap} {L:Addr} {m:Str→Option Value} {news:List (Addr × Obj)} {R:Result→Shared→Prop} {f:Addr} {args:Args} {binds:List (Str × Value)} {o:Obj} {fd:FuncData} {body:List Stmt}
    (F:Fr h₀ L s.heap m) (N:News h₀ L s.heap news) (nl:h₀.NoLimit) (hroom:A.depth < recursionLimit) (ho:s.heap.get? f = some o) (hd:o.data = .func fd) (hco:fd.scope.isCoroutine = false) (hgen:fd.scope.isGenerator = true) (hbody:fd.body = .stmts body)
    (hcd:s.heap.CodeRec fd.code fd.qualname) (hbind:BindsTo s fd args binds) (hloc:∀ y ∈ binds, fd.scope.names.lookup y.1 = some .local) (hcell:∀ x ∈ fd.scope.names, x.2 ≠ .cell) (hk:fd.scope.kind = .function)
    (h:∀ L' oL G nm qn h' tk', Fr h₀ L h' m→News h₀ L h' ((G, genO s.gens.size nm qn) :: (L', oL) :: news)→NsO oL (fun y=>binds.reverse.lookup y)→(∀ p ∈ news, p.1 < L')→@LT.lt Nat _ L' G→@LE.le Nat _ h₀.objs.size L' →
      R (.ok (.ret (.ref G))) { s with heap:=h', toks:=tk', gens:=s.gens.push (.fresh (.func body (newEnv fd.scope L' fd.globals fd.closure (fd.qualname ++ ".<locals>.") (some f) fd.code none fd.builtins))) }) :
    codeAny (model prog w) A (.call (.ref f) args) R s:=by
  refine codeAny_call_generator hroom ho hd hco hgen hbody hcd (hbind _ _ _ _ ?_)
  refine wpAny_newFunctionEnv hcell hloc (fun h₁ hns hsb=>?_) hk
  have hk₁:∀ b o, s.heap.get? b = some o→h₁.get? b = some o:=fun b o e=>hsb.extBut b o (Nat.ne_of_lt (Heap.lt_size e)) (Heap.get?_push_of_some _ e)
  have F₁:Fr h₀ L h₁ m:=F.keeps hk₁
  have N₁:News h₀ L h₁ news:=N.grown hk₁
  (refine eE1 (fun oL=>?_) (NsO.of hns); refine eA2 fun e1 e2=>?_)
  have N₂:News h₀ L h₁ ((s.heap.objs.size, oL) :: news):=fun p hp=>by
    rcases List.mem_cons.mp hp with rfl | hp
    · exact ⟨e1, Nat.ne_of_gt F.ns.lt, next_is_new F⟩
    · exact N₁ p hp
  refine ⟨(nl.keeps F.keep).fresh _ hsb, ?_⟩
  exact h s.heap.objs.size oL _ _ _ _ _ (F₁.push _) (N₂.push F₁ _) e2 (fun p hp=>Heap.lt_size (N p hp).1) (Heap.lt_size e1) (Nat.le_trans F.above (Nat.le_of_lt F.ns.lt))
theorem gen_K {K:Frag} {prog:Program} {w:World} {A:Around} {s:Shared} {h₀:Heap} {L:Addr} {m:Str→Option Value} {news:List (Addr × Obj)} {R:Result→Shared→Prop} {f:Addr} {args:Args} {binds:List (Str × Value)} {name qual:Str} {params:Arguments} {body:List Stmt} {scope:Scope} {dV kV doc pm cdv ct oc:Value} {an od:Option Addr} {osl:Array (Option Value)}
    (F:Fr h₀ L s.heap m) (X₀:K.In h₀) (N:News h₀ L s.heap news) (nl:h₀.NoLimit) (hroom:A.depth < recursionLimit) (ho:K.lookup f = some ⟨oc, od, .func (fnOf name qual params body scope dV kV doc pm an cdv ct), osl⟩) (hcd:codeIn K cdv qual = true)
    (hbind:BindsTo s (fnOf name qual params body scope dV kV doc pm an cdv ct) args binds) (hloc:∀ y ∈ binds, scope.names.lookup y.1 = some .local) (hcell:∀ x ∈ scope.names, x.2 ≠ .cell) (hk:scope.kind = .function) (hco:scope.isCoroutine = false) (hgen:scope.isGenerator = true)
    (h:∀ L' oL G nm qn h' tk', Fr h₀ L h' m→News h₀ L h' ((G, genO s.gens.size nm qn) :: (L', oL) :: news)→NsO oL (fun y=>binds.reverse.lookup y)→(∀ p ∈ news, p.1 < L')→@LT.lt Nat _ L' G→@LE.le Nat _ h₀.objs.size L' →
      R (.ok (.ret (.ref G))) { s with heap:=h', toks:=tk', gens:=s.gens.push (.fresh (.func body (envOf qual scope L' f cdv))) }) :
    codeAny (model prog w) A (.call (.ref f) args) R s :=
  gen_code F N nl hroom ((X₀.keeps F.keep) _ _ ho) rfl hco hgen rfl (codeRec_of (X₀.keeps F.keep) hcd) hbind hloc hcell hk h
theorem dump_call {w:World} {A:Around} {h₀:Heap} {L:Addr} {m:Str→Option Value} {news:List (Addr × Obj)} {s:Shared} {mean:ExcName→Option Value} {mg mb:Str→Option Value} {x l:Addr} {tag:Str} {lo hi:Int} {tt tl th:Tok} {Q E:Value→Shared→Prop}
    (F:Fr h₀ L s.heap m) (N:News h₀ L s.heap news) (T:Top q2 (looseW q2 loose2) mean mg mb h₀) (hroom:A.depth < recursionLimit)
    (ret:∀ L' oL G nm qn h' tk', Fr h₀ L h' m→News h₀ L h' ((G, genO s.gens.size nm qn) :: (L', oL) :: news) →
      NsO oL (fun y=>List.lookup y [(Str.ofString "hi", .int hi th), (Str.ofString "lo", .int lo tl), (Str.ofString "x", .ref l), (Str.ofString "tag", .str tag tt), (Str.ofString "self", .ref x)])→(∀ p ∈ news, p.1 < L')→@LT.lt Nat _ L' G→@LE.le Nat _ h₀.objs.size L' →
      Q (.ref G) { s with heap:=h', toks:=tk', gens:=s.gens.push (.fresh (.func (bodyOf (sub 7 3)) (envOf (Str.ofString "Differ._dump") (scopeOf (sub 7 3)) L' 282 (.ref 281)))) }) :
    (K2 w.params).In h₀→wpAny (model rw_mu0013_01.row.prog w) A (call (.ref 282) [.ref x, .str tag tt, .ref l, .int lo tl, .int hi th]) Q E s:=by
  w_on
  k_fill
  intro X
  refine wpAny_call ?_
  w_strict (
    k_dflt (refine' gen_K (binds:=[(Str.ofString "self", .ref x), (Str.ofString "tag", .str tag tt), (Str.ofString "x", .ref l), (Str.ofString "lo", .int lo tl), (Str.ofString "hi", .int hi th)]) F X N T.nolimit hroom ?k6 ?k7 ?k9 ?kB ?c5 ?c4 ?c2 ?c3 ?_; (case k6=>k_is); (case k7=>k_is); (case k9=>exact BindsTo.of_eq rfl); (case c5=>decide +kernel); (case kB=>exact locs rfl); (case c2=>exact rfl); (case c3=>exact rfl); (case c4=>exact rfl))
    (intro L' oL G nm qn h' tk' F' N' n' l1 l2 l3)
    exact ret L' oL G nm qn h' tk' F' N' n' l1 l2 l3)
theorem restore_call {w:World} {A:Around} {h₀:Heap} {L:Addr} {m:Str→Option Value} {news:List (Addr × Obj)} {s:Shared} {mean:ExcName→Option Value} {mg mb:Str→Option Value} {l:Addr} {v:Value} {Q E:Value→Shared→Prop}
    (F:Fr h₀ L s.heap m) (N:News h₀ L s.heap news) (T:Top q2 (looseW q2 loose2) mean mg mb h₀) (hroom:A.depth < recursionLimit)
    (ret:∀ L' oL G nm qn h' tk', Fr h₀ L h' m→News h₀ L h' ((G, genO s.gens.size nm qn) :: (L', oL) :: news) →
      NsO oL (fun y=>List.lookup y [(Str.ofString "which", v), (Str.ofString "delta", .ref l)])→(∀ p ∈ news, p.1 < L')→@LT.lt Nat _ L' G→@LE.le Nat _ h₀.objs.size L' →
      Q (.ref G) { s with heap:=h', toks:=tk', gens:=s.gens.push (.fresh (.func (bodyOf (top 8)) (envOf (Str.ofString "restore") (scopeOf (top 8)) L' 324 (.ref 323)))) }) :
    (K2 w.params).In h₀→wpAny (model rw_mu0013_01.row.prog w) A (call (.ref 324) [.ref l, v]) Q E s:=by
  w_on
  k_fill
  intro X
  refine wpAny_call ?_
  w_strict (
    k_dflt (refine' gen_K (binds:=[(Str.ofString "delta", .ref l), (Str.ofString "which", v)]) F X N T.nolimit hroom ?k6 ?k7 ?k9 ?kB ?c5 ?c4 ?c2 ?c3 ?_; (case k6=>k_is); (case k7=>k_is); (case k9=>exact BindsTo.of_eq rfl); (case c5=>decide +kernel); (case kB=>exact locs rfl); (case c2=>exact rfl); (case c3=>exact rfl); (case c4=>exact rfl))
    (intro L' oL G nm qn h' tk' F' N' n' l1 l2 l3)
    exact ret L' oL G nm qn h' tk' F' N' n' l1 l2 l3)
end
section
open PySem PySem.W PyProof.Rows PySem.Challenge PySem.Spec PySem.Calls
section
variable {M:Model} {A:Around} {R:GenEnd} {Y:Protocol} {n:Nat} {s₀:Shared} {c:Code} {fs:List Frame} {s:Shared} {env:Env}
  {K:Flow→Sem Fin} {H:Value→Sem Fin} {gd:Bool→Bool} {lv:List Value→List Value}
theorem seg_For {target iter:PySem.Expr} {body orelse:List Stmt} {pos:Pos} (hs:∀ x, foldedSetIterable iter env x = pure x)
    (h:wpAny M (A.over c fs) (eval iter env) (fun xv s₁=>wpAny M (A.over c fs) (holding [xv] (pyIter xv)) (fun it s₂=>∀ p, Seg M A R Y n s₀ (.forLoop target it body orelse env) (M.den (.forLoop target it body orelse env))
      (.ret (fun r=>((match r with | .ok f=>(.pure f:Sem Flow) | .error e=>.raise e).onRaise fun (x:Value)=>do
        if (← field x 1) == Value.none then unsupported "frame.own-activation:exception-without-traceback"
        setFlight x env.frame).wrap K H gd lv) none (gd false) (lv []) c p [] :: fs) s₂) (fun x s'=>Seg M A R Y n s₀ c (H x) fs s') s₁) (fun x s'=>Seg M A R Y n s₀ c (H x) fs s') s) :
    Seg M A R Y n s₀ c ((exec (.For target iter body orelse pos) env).wrap K H gd lv) fs s:=by
  rw [exec_For]
  show Seg M A R Y n s₀ c (.at pos fun _=>(eval iter env >>= fun x=>foldedSetIterable iter env x >>= fun x=>standAt iter.pos >>= fun _=>holding [x] (pyIter x) >>= fun it=>runOwn (.forLoop target it body orelse env) env).wrap K H gd lv) fs s
  refine seg_at ?_
  rw [Sem.bind_eq_wrap', Sem.wrap_wrap]
  refine seg_wrap (wpAny_mono h (fun xv s₁ h₁=>?_) fun _ _ x=>x)
  rw [hs]
  show Seg M A R Y n s₀ c (.at iter.pos fun _=>(holding [xv] (pyIter xv) >>= fun it=>runOwn (.forLoop target it body orelse env) env).wrap K H gd lv) fs s₁
  refine seg_at ?_
  rw [Sem.bind_eq_wrap', Sem.wrap_wrap]
  refine seg_wrap (wpAny_mono h₁ (fun it s₂ h₂=>?_) fun _ _ x=>x)
  exact seg_call h₂
end
section
variable {prog:Program} {w:World} {A:Around} {R:GenEnd} {Y:Protocol} {n:Nat} {s₀:Shared} {fs:List Frame} {s:Shared} {env:Env}
noncomputable abbrev loopK (target:PySem.Expr) (it:Value) (body orelse:List Stmt) (env:Env):Flow→Sem Fin:=fun f=>match f with
  | .next | .cont=>.pure (.again (.forLoop target it body orelse env))
  | .brk=>.pure (.done .next)
  | .ret v=>.pure (.done (.ret v))
noncomputable abbrev loopH (env:Env):Value→Sem Fin:=fun e=>(do noteFrame e env; theTreesLotGoes e:Sem Unit).wrap (fun _=>.raise e) .raise id id
theorem seg_forLoop {target:PySem.Expr} {it:Value} {body orelse:List Stmt} (hlet:∀ v, letOwnedTupleGo target it v = pure ())
    (h:wpAny (model prog w) (A.over (.forLoop target it body orelse env) fs) (pyNext it) (fun o s'=>match o with
        | none=>Seg (model prog w) A R Y n s₀ (.block orelse env) ((model prog w).den (.block orelse env)) fs s'
        | some v=>wpAny (model prog w) (A.over (.forLoop target it body orelse env) fs) (assign target env v) (fun _ s'' =>
            Seg (model prog w) A R Y n s₀ (.forLoop target it body orelse env) ((execs body env).wrap (loopK target it body orelse env) (loopH env) id id) fs s'') (fun _ _=>False) s') (fun _ _=>False) s) :
    Seg (model prog w) A R Y n s₀ (.forLoop target it body orelse env) ((model prog w).den (.forLoop target it body orelse env)) fs s:=by
  show Seg _ A R Y n s₀ _ ((forTurn target it body orelse env).onRaise (fun x=>do noteFrame x env; theTreesLotGoes x)) fs s
  unfold forTurn
  rw [Sem.onRaise_eq_wrap, Sem.bind_eq_wrap', Sem.wrap_wrap]
  refine seg_wrap (wpAny_standAt ?_)
  rw [Sem.bind_eq_wrap', Sem.wrap_wrap]
  refine seg_wrap (wpAny_onRaise (wpAny_mono h (fun o s' h'=>?_) fun _ _ x=>x.elim))
  cases o with
  | none =>
    refine seg_again (by rfl) ?_
    exact h'
  | some v =>
    dsimp only
    rw [hlet]
    show Seg _ A R Y n s₀ _ ((assign target env v >>= fun _=>_).wrap _ _ _ _) fs s'
    rw [Sem.bind_eq_wrap', Sem.wrap_wrap]
    refine seg_wrap (wpAny_mono h' (fun _ s'' h''=>?_) fun _ _ x=>x.elim)
    rw [Sem.bind_eq_wrap', Sem.wrap_wrap]
    rw [Sem.wrap_congr (execs body env) _ _ (K':=loopK target it body orelse env) (H':=loopH env)
        (fun f=>by cases f <;> rfl)
        (fun e=>by first | exact Sem.bind_eq_wrap _ _ | (show (do noteFrame e env; theTreesLotGoes e:Sem Unit).bind (fun _=>.raise e) = _; rw [Sem.bind_eq_wrap]))]
    exact h''
theorem seg_blockNil {k:Result→Sem Fin} {h:Option Value} {g:Bool} {l:List Value} {c₁:Code} {p₁:Pos} {kp:List Value} (hk:Seg (model prog w) A R Y n s₀ c₁ (k (.ok .next)) fs s) :
    Seg (model prog w) A R Y n s₀ (.block [] env) ((model prog w).den (.block [] env)) (.ret k h g l c₁ p₁ kp :: fs) s :=
  seg_leaf (.ok .next) hk
end
theorem fr_swap {h₀ h:Heap} {L L':Addr} {m mG:Str→Option Value} {oL':Obj} {r:List (Addr × Obj)} (F:Fr h₀ L h m) (N:News h₀ L h ((L', oL') :: r)) (n:NsO oL' mG) (hr:∀ p ∈ r, p.1 ≠ L') (ha:@LE.le Nat _ h₀.objs.size L') :
    ∃ oL, NsO oL m ∧ Fr h₀ L' h mG ∧ News h₀ L' h ((L, oL) :: r):=by
  (refine eE1 (fun oL=>?_) (NsO.of F.ns); refine eA2 fun e nL=>?_)
  refine ⟨oL, nL, ⟨n.ns (N _ (.head _)).1, F.keep, ha⟩, fun p hp=>?_⟩
  rcases List.mem_cons.mp hp with rfl | hp
  · refine ⟨e, fun q=>(N _ (.head _)).2.1 q.symm, ?_⟩
    cases q:h₀.get? L with
    | none=>rfl
    | some o=>exact absurd (Heap.lt_size q) (Nat.not_lt.mpr F.above)
  · exact ⟨(N p (.tail _ hp)).1, hr p hp, (N p (.tail _ hp)).2.2⟩
end
section
open PySem PySem.W PyProof.Rows PySem.Challenge PySem.Spec PySem.Calls
local macro_rules | `(tactic| walk_at $s)=>Tab.rules s "pyIter ref|halt"
section
open PySem PySem.W PyProof.Rows PySem.Challenge PySem.Spec PySem.Calls
section
open PySem PySem.W PyProof.Rows PySem.Challenge
theorem ni_tells {w:World} {dp un:Nat} {gd:Option (List Code)} {cn:Str} {cs:Scope} {a:Addr} {ccd:Value} {cl:List (Str × Addr)} {outer:List Env} {A₀:Around} {base h₀:Heap} {L:Addr} {m:Str→Option Value} {news:List (Addr × Obj)} {s:Shared}
    {mean:ExcName→Option Value} {mg mb:Str→Option Value} {k:Int} {t:Tok} {Q E:Value→Shared→Prop}
    (B:Below A₀ base outer h₀) (F:Fr h₀ L s.heap m) (N:News h₀ L s.heap news) (T:Top q2 (looseW q2 loose2) mean mg mb h₀) (hk:cs.kind = .function) (hd:dp + 30 < recursionLimit) (hu:un + 300 < cLine)
    (ret:∀ x d l t2 h' tk', Fr h₀ L h' m→News h₀ L h' ((l, listOf #[] 0) :: (x, nodeO d (.int k t) (.int 0 t2) (.ref l)) :: (d, dictOf [] 0) :: news)→(∀ p ∈ news, p.1 < d)→@LT.lt Nat _ d x→@LT.lt Nat _ x l→Q (.ref x) { s with heap:=h', toks:=tk' }) :
    (K2 w.params).In h₀→wpAny (model rw_mu0013_01.row.prog w) (ktrTop dp un gd cn cs L a ccd cl outer) (call (.ref 343) [.int k t]) Q E s:=by
  w_on
  k_fill
  intro X
  obtain ⟨ck, cnm, cig, cic, cmo⟩:=cs
  change ck = _ at hk
  subst hk
  w_strict (
    (have mk:=kstMark)
    k_steps
    exact ret _ _ _ _ _ _ (by assumption) (by assumption) (by assumption) (by assumption) (by lia))
end
section
open PySem PySem.W PyProof.Rows PySem.Challenge
theorem df_make {w:World} {dp un:Nat} {gd:Option (List Code)} {cn:Str} {cs:Scope} {a:Addr} {ccd:Value} {cl:List (Str × Addr)} {outer:List Env} {A₀:Around} {base h₀:Heap} {L:Addr} {m:Str→Option Value} {news:List (Addr × Obj)} {s:Shared}
    {mean:ExcName→Option Value} {mg mb:Str→Option Value} {Q E:Value→Shared→Prop}
    (B:Below A₀ base outer h₀) (F:Fr h₀ L s.heap m) (N:News h₀ L s.heap news) (T:Top q2 (looseW q2 loose2) mean mg mb h₀) (hk:cs.kind = .function) (hd:dp + 30 < recursionLimit) (hu:un + 300 < cLine)
    (ret:∀ x d t1 t2 h' tk', Fr h₀ L h' m→News h₀ L h' ((x, instObj 313 d) :: (d, dictOf [⟨PyData.keyHash w.params (Str.ofString "linejunk"), .str (Str.ofString "linejunk") t1, .none⟩, ⟨PyData.keyHash w.params (Str.ofString "charjunk"), .str (Str.ofString "charjunk") t2, .none⟩] 2) :: news)→(∀ p ∈ news, p.1 < d)→@LT.lt Nat _ d x→Q (.ref x) { s with heap:=h', toks:=tk' }) :
    (K2 w.params).In h₀→wpAny (model rw_mu0013_01.row.prog w) (ktrTop dp un gd cn cs L a ccd cl outer) (call (.ref 313) []) Q E s:=by
  w_on
  k_fill
  intro X
  obtain ⟨ck, cnm, cig, cic, cmo⟩:=cs
  change ck = _ at hk
  subst hk
  w_strict (
    (have mk:=kstMark)
    k_steps
    exact ret _ _ _ _ _ _ (by assumption) (by assumption) (by assumption) (by assumption))
end
section
open PySem PySem.W PyProof.Rows PySem.Challenge
noncomputable abbrev tsD (w:World) (t1 t2 t3 t4:Tok) (D:Addr) (rv pv fv:Value):List DictEntry:=[⟨PyData.keyHash w.params (Str.ofString "_node2info"), .str (Str.ofString "_node2info") t1, .ref D⟩, ⟨PyData.keyHash w.params (Str.ofString "_ready_nodes"), .str (Str.ofString "_ready_nodes") t2, rv⟩, ⟨PyData.keyHash w.params (Str.ofString "_npassedout"), .str (Str.ofString "_npassedout") t3, pv⟩, ⟨PyData.keyHash w.params (Str.ofString "_nfinished"), .str (Str.ofString "_nfinished") t4, fv⟩]
local macro_rules | `(tactic| walk_at $s)=>Tab.rules s "call ref|haltC|343
setItem ref int||kda_setU|kaamsiy?|ids
call builtin:dict.get||kdg_get1|kamssi_s?|g
getMethod ref|getMethod:get|kdg_method|kams?|"
theorem gni_old {w:World} {dp un:Nat} {gd:Option (List Code)} {cn:Str} {cs:Scope} {a:Addr} {ccd:Value} {cl:List (Str × Addr)} {outer:List Env} {A₀:Around} {base h₀:Heap} {L:Addr} {m:Str→Option Value} {news:List (Addr × Obj)} {s:Shared}
    {mean:ExcName→Option Value} {mg mb:Str→Option Value} {k:Int} {t t1 t2 t3 t4:Tok} {S dS D x:Addr} {rv pv fv:Value} {o:Obj} {kvs:List (Int × Value)} {Q E:Value→Shared→Prop}
    (B:Below A₀ base outer h₀) (F:Fr h₀ L s.heap m) (N:News h₀ L s.heap news) (T:Top q2 (looseW q2 loose2) mean mg mb h₀) (hk:cs.kind = .function) (hS:(S, instObj 440 dS) ∈ news) (hd:(dS, dictOf (tsD w t1 t2 t3 t4 D rv pv fv) 4) ∈ news) (hD:(D, o) ∈ news)
    (ho:o.IsDictOf (intKind rw_mu0013_01.row.prog w) kvs) (lo:(D == sysModules) = false) (hv:valueAt kvs k = some (.ref x)) (hdp:dp + 40 < recursionLimit) (hu:un + 400 < cLine)
    (ret:∀ h' tk', Fr h₀ L h' m→News h₀ L h' news→Q (.ref x) { s with heap:=h', toks:=tk' }) :
    (K2 w.params).In h₀→wpAny (model rw_mu0013_01.row.prog w) (ktrTop dp un gd cn cs L a ccd cl outer) (call (.ref 383) [.ref S, .int k t]) Q E s:=by
  w_on
  k_fill
  intro X
  obtain ⟨ck, cnm, cig, cic, cmo⟩:=cs
  change ck = _ at hk
  subst hk
  refine wpAny_call ?_
  w_strict (
    k_dflt k_enter
    (have hb:=Eq.refl (bodyOf (sub 14 2)))
    (conv at hb=>rhs; whnf)
    rw [hb]
    clear hb
    (have mk:=kstMark)
    k_steps
    exact ret _ _ (by assumption) (by assumption))
theorem gni_new {w:World} {dp un:Nat} {gd:Option (List Code)} {cn:Str} {cs:Scope} {a:Addr} {ccd:Value} {cl:List (Str × Addr)} {outer:List Env} {A₀:Around} {base h₀:Heap} {L:Addr} {m:Str→Option Value} {news:List (Addr × Obj)} {s:Shared}
    {mean:ExcName→Option Value} {mg mb:Str→Option Value} {k:Int} {t t1 t2 t3 t4:Tok} {S dS D:Addr} {rv pv fv:Value} {o:Obj} {kvs:List (Int × Value)} {Q E:Value→Shared→Prop}
    (B:Below A₀ base outer h₀) (F:Fr h₀ L s.heap m) (N:News h₀ L s.heap news) (T:Top q2 (looseW q2 loose2) mean mg mb h₀) (hk:cs.kind = .function) (hS:(S, instObj 440 dS) ∈ news) (hd:(dS, dictOf (tsD w t1 t2 t3 t4 D rv pv fv) 4) ∈ news) (hD:(D, o) ∈ news)
    (ho:o.IsDictOf (intKind rw_mu0013_01.row.prog w) kvs) (lo:(D == sysModules) = false) (hv:valueAt kvs k = none) (hz:kvs.length ≤ 100000) (hdp:dp + 60 < recursionLimit) (hu:un + 800 < cLine)
    (ret:∀ x d l t2 o' h' tk', Fr h₀ L h' m→News h₀ L h' ((l, listOf #[] 0) :: (x, nodeO d (.int k t) (.int 0 t2) (.ref l)) :: (d, dictOf [] 0) :: upL D o' news)→(∀ p ∈ news, p.1 < d)→@LT.lt Nat _ d x→@LT.lt Nat _ x l→o'.IsDictOf (intKind rw_mu0013_01.row.prog w) (stored kvs k (.ref x))→Q (.ref x) { s with heap:=h', toks:=tk' }) :
    (K2 w.params).In h₀→wpAny (model rw_mu0013_01.row.prog w) (ktrTop dp un gd cn cs L a ccd cl outer) (call (.ref 383) [.ref S, .int k t]) Q E s:=by
  w_on
  k_fill
  intro X
  obtain ⟨ck, cnm, cig, cic, cmo⟩:=cs
  change ck = _ at hk
  subst hk
  refine wpAny_call ?_
  w_strict (
    k_dflt k_enter
    (have hb:=Eq.refl (bodyOf (sub 14 2)))
    (conv at hb=>rhs; whnf)
    rw [hb]
    clear hb
    (have mk:=kstMark)
    k_steps
    (unfold Halt)
    (rename Fr _ _ _ _=>F9)
    (rename News _ _ _ _=>N9)
    (refine' ni_tells ?b1 F9 N9 ?b2 ?b3 ?b4 ?b5 ?b6 ?b7)
    (case b1=>k_asm)
    (case b2=>k_asm)
    (case b3=>exact rfl)
    (case b4=>ktr_room)
    (case b5=>ktr_units)
    (case b7=>k_asm)
    (intro x d l t2 h8 tk8 F8 N8 l1 l2 l3
     try dsimp only)
    clear F9 N9
    k_steps
    (have q1:@LT.lt Nat _ D d:=l1 _ hD)
    (have q:=(by assumption:News h₀ L _ (upL D _ _)))
    rw [upL_cons_ne (Nat.ne_of_gt (by lia)), upL_cons_ne (Nat.ne_of_gt (by lia)), upL_cons_ne (Nat.ne_of_gt q1)] at q
    exact ret _ _ _ _ _ _ _ (by assumption) q l1 l2 l3 (by assumption))
end
section
open PySem PySem.W PyProof.Rows PySem.Challenge PySem.Spec
section
variable {prog:Program} {w:World} {A:Around} {E:Value→Shared→Prop} {s:Shared} {env:Env} {h₀:Heap} {x:Str} {body:List Stmt} {Q:Flow→Shared→Prop}
theorem kg_tuple {σ:Type} {l:Addr} {vs:List Value} {nn:Nat} {m₀:Str→Option Value} (Led:σ→List (Addr × Obj)) (ps:σ→List (Str × Value)) (stored:List Str) (P:Nat→σ→Prop) (c₀:σ)
    (hh:A.handled = none) (hl:∀ c:σ, (l, ({ cls:=.type "tuple", data:=.seq vs.toArray nn }:Obj)) ∈ Led c) (F:Fr h₀ env.locals s.heap m₀) (N:News h₀ env.locals s.heap (Led c₀)) (hk:∀ p ∈ ps c₀, m₀ p.1 = some p.2) (hp:P 0 c₀)
    (turn:∀ (c:σ) i v (u:Str→Option Value) h tk I oI, vs[i]? = some v→P i c→(∀ q ∈ Led c, q.1 ≠ I) →
      Fr h₀ env.locals h (fun y=>if y = x then some v else kstB (fun z=>if stored.contains z then u z else m₀ z) (ps c) y)→News h₀ env.locals h ((I, oI) :: Led c) →
      wpAny (model prog w) A (execs body env) (KgPost h₀ env.locals Led ps x stored m₀ (P (i + 1)) I oI { s with heap:=h, toks:=tk } Q) E { s with heap:=h, toks:=tk })
    (done:∀ (c:σ) (u:Str→Option Value) h tk, P vs.length c→Fr h₀ env.locals h (fun y=>if y = x then u y else kstB (fun z=>if stored.contains z then u z else m₀ z) (ps c) y)→News h₀ env.locals h (Led c)→Q .next { s with heap:=h, toks:=tk }) :
    wpAny (model prog w) A (pyIter (.ref l)) (fun it s₂=>LoopAtV prog w A h₀ env x body Q E it s₂) E s:=by
  have hol:s.heap.get? l = some (({ cls:=.type "tuple", data:=.seq vs.toArray nn }:Obj)):=(N _ (hl c₀)).1
  have hls:s.heap.IsTuple l vs.toArray:=⟨_, hol, rfl, nn, rfl⟩
  have hne:l ≠ s.heap.objs.size:=Nat.ne_of_lt (Heap.lt_size hol)
  refine wpAny_pyIter_tuple hls ?_
  have W:=Walks.tuple (prog:=prog) (w:=w) hh s.heap.objs.size l hne vs.toArray
  refine kg_core Led ps stored P c₀ W ?_ (next_is_new F) ?_ ⟨⟨_, Heap.get?_push_size _ rfl, rfl, rfl⟩, hls.at fun o e=>Heap.get?_push_of_some _ e⟩ ?_ ?_ (F.push _) (fun p hp=>⟨Heap.get?_push_of_some _ (N p hp).1, (N p hp).2⟩) hk hp ?_ ?_
  · intro hm
    rcases List.mem_cons.mp hm with e | hm
    · exact absurd F.ns.lt (e ▸ Nat.lt_irrefl _)
    · exact (N _ (hl c₀)).2.1 ((List.mem_singleton.mp hm).symm)
  · exact fun q hq=>Nat.ne_of_lt (Heap.lt_size (N q hq).1)
  · (rintro i h; (refine eA2 fun hP0 _=>?_; obtain ⟨o, ho, _⟩:=hP0))
    exact ⟨o, ho⟩
  · intro b hb hn
    rcases List.mem_cons.mp hb with e | hb
    · exact absurd e hn
    · rw [List.mem_singleton.mp hb]
      exact .inr ⟨_, hl⟩
  · intro c i v u h tk oI hi hv hP hoff F' N'
    exact turn c i v u h tk _ oI (by simpa using hv) hP hoff F' N'
  · intro c u h tk hP F' N'
    rw [List.size_toArray] at hP
    exact done c u h tk hP F' N'
end
section
variable {prog:Program} {w:World} {A:Around} {E:Value→Shared→Prop} {Q:Value→Shared→Prop} {hp:Heap} {gs:Array GenState} {dr:Drawn} {tk0:Nat} {os:OsState} {a b:Int} {t u:Tok}
theorem iaddT (h:∀ t tk, Q (.int (a + b) t) ⟨hp, gs, dr, tk, os⟩):wpAny (model prog w) A (inplaceOp .Add (.int a t) (.int b u)) Q E ⟨hp, gs, dr, tk0, os⟩:=iadd_int (h _ _)
end
theorem forV {prog:Program} {w:World} {A:Around} {s:Shared} {h₀:Heap} {env:Env} {x:Str} {body:List Stmt} {Q:Flow→Shared→Prop} {E:Value→Shared→Prop} {m:Str→Option Value} {px pos:Pos} {iter:PySem.Expr} (_F:Fr h₀ env.locals s.heap m) (hE:PassesOwn (model prog w) A env E) (hx:env.kindOf x = some .local)
    (hp:(env.scope.kind == .class || (env.scope.kind == .module && env.locals != env.globals)) = false)
    (h:wpAny (model prog w) A (eval iter env) (fun xv s₁=>wpAny (model prog w) A (pyIter xv) (fun it s₂=>LoopAtV prog w A h₀ env x body Q E it s₂) E s₁) E s)
    (hs:∀ x, foldedSetIterable iter env x = pure x:=by intro _; rfl):wpAny (model prog w) A (exec (.For (.Name x px) iter body [] pos) env) Q E s:=For_invV h₀ hx hp h hs hE
section
variable {prog:Program} {w:World} {A:Around} {E:Value→Shared→Prop} {s:Shared} {env:Env} {h₀:Heap} {x:Str} {body:List Stmt} {Q:Flow→Shared→Prop}
theorem kg_none {l:Addr} {nn:Nat} {m₀:Str→Option Value} {led:List (Addr × Obj)} (stored:List Str) (hh:A.handled = none) (hl:(l, ({ cls:=.type "tuple", data:=.seq #[] nn }:Obj)) ∈ led) (F:Fr h₀ env.locals s.heap m₀) (N:News h₀ env.locals s.heap led)
    (done:∀ (u:Str→Option Value) h tk, Fr h₀ env.locals h (fun y=>if y = x then u y else if stored.contains y then u y else m₀ y)→News h₀ env.locals h led→Q .next { s with heap:=h, toks:=tk }) :
    wpAny (model prog w) A (pyIter (.ref l)) (fun it s₂=>LoopAtV prog w A h₀ env x body Q E it s₂) E s :=
  kg_tuple (σ:=Unit) (vs:=[]) (nn:=nn) (fun _=>led) (fun _=>[]) stored (fun _ _=>True) () hh (fun _=>hl) F N (List.forall_mem_nil _) trivial (fun c i v u h tk I oI hv=>absurd hv (by simp)) fun c u h tk _ F' N'=>by
    refine done (fun y=>if y = x then u y else u y) h tk ?_ N'
    have e:(fun y=>if y = x then u y else kstB (fun z=>if stored.contains z then u z else m₀ z) [] y) = fun y=>if y = x then (if y = x then u y else u y) else if stored.contains y then (if y = x then u y else u y) else m₀ y:=by
      funext y
      by_cases h1:y = x <;> by_cases h2:stored.contains y = true <;> simp [h1, kstB]
    exact e ▸ F'
theorem kg_one {l:Addr} {v:Value} {nn:Nat} {m₀:Str→Option Value} {led:List (Addr × Obj)} (stored:List Str) (Pd:List (Addr × Obj)→Prop) (hh:A.handled = none) (hl:(l, ({ cls:=.type "tuple", data:=.seq #[v] nn }:Obj)) ∈ led) (F:Fr h₀ env.locals s.heap m₀) (N:News h₀ env.locals s.heap led)
    (turn:∀ (u:Str→Option Value) h tk I oI, (∀ q ∈ led, q.1 ≠ I)→Fr h₀ env.locals h (fun y=>if y = x then some v else if stored.contains y then u y else m₀ y)→News h₀ env.locals h ((I, oI) :: led) →
      wpAny (model prog w) A (execs body env) (KgPost (σ:={ c:List (Addr × Obj) // (l, ({ cls:=.type "tuple", data:=.seq #[v] nn }:Obj)) ∈ c }) h₀ env.locals (fun c=>c.1) (fun _=>[]) x stored m₀ (fun c=>Pd c.1) I oI { s with heap:=h, toks:=tk } Q) E { s with heap:=h, toks:=tk })
    (done:∀ c (u:Str→Option Value) h tk, Pd c→Fr h₀ env.locals h (fun y=>if y = x then u y else if stored.contains y then u y else m₀ y)→News h₀ env.locals h c→Q .next { s with heap:=h, toks:=tk }) :
    wpAny (model prog w) A (pyIter (.ref l)) (fun it s₂=>LoopAtV prog w A h₀ env x body Q E it s₂) E s :=
  kg_tuple (σ:={ c:List (Addr × Obj) // (l, ({ cls:=.type "tuple", data:=.seq #[v] nn }:Obj)) ∈ c }) (vs:=[v]) (nn:=nn) (fun c=>c.1) (fun _=>[]) stored (fun i c=>if i = 0 then c.1 = led else Pd c.1) ⟨led, hl⟩ hh (fun c=>c.2) F N (List.forall_mem_nil _) rfl (fun c i v' u h tk I oI hv hp ho F' N'=>by
    obtain ⟨rfl, rfl⟩:i = 0 ∧ v' = v:=by
      cases i with
      | zero=>exact ⟨rfl, (Option.some.inj (by simpa using hv)).symm⟩
      | succ i=>exact absurd hv (by simp)
    have hc:c.1 = led:=hp
    rw [hc] at ho N'
    exact turn u h tk I oI ho F' N') fun c u h tk hp F' N'=>by
    refine done c.1 (fun y=>if y = x then u y else u y) h tk hp ?_ N'
    have e:(fun y=>if y = x then u y else kstB (fun z=>if stored.contains z then u z else m₀ z) [] y) = fun y=>if y = x then (if y = x then u y else u y) else if stored.contains y then (if y = x then u y else u y) else m₀ y:=by
      funext y
      by_cases h1:y = x <;> by_cases h2:stored.contains y = true <;> simp [h1, kstB]
    exact e ▸ F'
end
end
section
open PySem PySem.W PyProof.Rows PySem.Challenge PySem.Spec PySem.Calls
local macro_rules | `(tactic| walk_at $s)=>Tab.rules s "storeName||storeT|aa?rr|Wis
inplaceOp Add int int|red|iaddT|?
exec For Name Name cons nil|for|forV|Foxx?f|W"
section
open PySem PySem.W PyProof.Rows PySem.Challenge PySem.Spec PySem.Calls
local macro_rules | `(tactic| walk_at $s)=>Tab.rules s "setAttr ref||set_slotU|aaamNIIIIIdSx?|Wids
call ref|haltC|383"
section
open PySem PySem.W PyProof.Rows PySem.Challenge
theorem add1_old {w:World} {dp un:Nat} {gd:Option (List Code)} {cn:Str} {cs:Scope} {a:Addr} {ccd:Value} {cl:List (Str × Addr)} {outer:List Env} {A₀:Around} {base h₀:Heap} {L:Addr} {m:Str→Option Value} {news:List (Addr × Obj)} {s:Shared}
    {mean:ExcName→Option Value} {mg mb:Str→Option Value} {k:Int} {t t1 t2 t3 t4:Tok} {S dS D x d l:Addr} {np:Int} {tk tp:Tok} {pv fv:Value} {o:Obj} {kvs:List (Int × Value)} {Q E:Value→Shared→Prop}
    (B:Below A₀ base outer h₀) (F:Fr h₀ L s.heap m) (N:News h₀ L s.heap news) (T:Top q2 (looseW q2 loose2) mean mg mb h₀) (hk:cs.kind = .function) (hS:(S, instObj 440 dS) ∈ news) (hd:(dS, dictOf (tsD w t1 t2 t3 t4 D .none pv fv) 4) ∈ news) (hD:(D, o) ∈ news)
    (ho:o.IsDictOf (intKind rw_mu0013_01.row.prog w) kvs) (lo:(D == sysModules) = false) (hv:valueAt kvs k = some (.ref x)) (hx:(x, nodeO d (.int k tk) (.int np tp) (.ref l)) ∈ news) (hdd:(d, dictOf [] 0) ∈ news) (hdp:dp + 80 < recursionLimit) (hu:un + 1000 < cLine)
    (ret:∀ t' h' tk', Fr h₀ L h' m→News h₀ L h' (upL x (nodeO d (.int k tk) (.int (np + 0) t') (.ref l)) news)→Q .none { s with heap:=h', toks:=tk' }) :
    (K2 w.params).In h₀→wpAny (model rw_mu0013_01.row.prog w) (ktrTop dp un gd cn cs L a ccd cl outer) (call (.ref 390) [.ref S, .int k t]) Q E s:=by
  w_on
  k_fill
  intro X
  obtain ⟨ck, cnm, cig, cic, cmo⟩:=cs
  change ck = _ at hk
  subst hk
  refine wpAny_call ?_
  w_strict (
    k_dflt k_enter
    (have hb:=Eq.refl (bodyOf (sub 14 3)))
    (conv at hb=>rhs; whnf)
    rw [hb]
    clear hb
    (have mk:=kstMark)
    k_steps
    (unfold Halt)
    (rename Fr _ _ _ _=>F9)
    (rename News _ _ _ _=>N9)
    (refine' gni_old (x:=x) ?b1 F9 N9 ?b2 ?b3 ?c1 ?c2 ?c3 ho lo hv ?b4 ?b5 ?b6 ?b7)
    (case b1=>k_asm)
    (case b2=>k_asm)
    (case b3=>exact rfl)
    (case c1=>k_mem)
    (case c2=>k_mem)
    (case c3=>k_mem)
    (case b4=>ktr_room)
    (case b5=>ktr_units)
    (case b7=>k_asm)
    (intro h8 tk8 F8 N8
     try dsimp only)
    clear F9 N9
    k_steps
    (unfold Halt)
    (rename Fr _ _ _ _=>F9)
    (rename News _ _ _ _=>N9)
    (refine' kg_none [Str.ofString "pred_info"] rfl ?hl F9 N9 ?done)
    (case hl=>exact mem_upL_ne (.head _) (Nat.ne_of_gt ((by assumption:∀ p ∈ news, p.1 < _) _ hx)))
    (case done =>
      intro u h8 tk8 F8 N8
      clear F9 N9
      k_steps
      exact ret _ _ _ (by assumption) (fun p hp=>(by assumption:News h₀ L _ _) p (.tail _ hp))))
theorem upL_ne {news:List (Addr × Obj)} {x y:Addr} {o:Obj} (h:∀ p ∈ news, p.1 ≠ y):∀ p ∈ upL x o news, p.1 ≠ y:=fun p hp=>by
  (refine eE1 (fun q=>?_) (upL_fst hp); refine eA2 fun hq e=>?_)
  exact e ▸ h q hq
theorem news_drop3 {h₀ h:Heap} {L:Addr} {a b c d:Addr × Obj} {r:List (Addr × Obj)} (N:News h₀ L h (a :: b :: c :: d :: r)):News h₀ L h (a :: b :: c :: r):=fun p hp=>N p (by
  rcases List.mem_cons.mp hp with e | hp
  · exact e ▸ .head _
  rcases List.mem_cons.mp hp with e | hp
  · exact e ▸ .tail _ (.head _)
  rcases List.mem_cons.mp hp with e | hp
  · exact e ▸ .tail _ (.tail _ (.head _))
  exact .tail _ (.tail _ (.tail _ (.tail _ hp))))
theorem add1_new {w:World} {dp un:Nat} {gd:Option (List Code)} {cn:Str} {cs:Scope} {a:Addr} {ccd:Value} {cl:List (Str × Addr)} {outer:List Env} {A₀:Around} {base h₀:Heap} {L:Addr} {m:Str→Option Value} {news:List (Addr × Obj)} {s:Shared}
    {mean:ExcName→Option Value} {mg mb:Str→Option Value} {k:Int} {t t1 t2 t3 t4:Tok} {S dS D:Addr} {pv fv:Value} {o:Obj} {kvs:List (Int × Value)} {Q E:Value→Shared→Prop}
    (B:Below A₀ base outer h₀) (F:Fr h₀ L s.heap m) (N:News h₀ L s.heap news) (T:Top q2 (looseW q2 loose2) mean mg mb h₀) (hk:cs.kind = .function) (hS:(S, instObj 440 dS) ∈ news) (hd:(dS, dictOf (tsD w t1 t2 t3 t4 D .none pv fv) 4) ∈ news) (hD:(D, o) ∈ news)
    (ho:o.IsDictOf (intKind rw_mu0013_01.row.prog w) kvs) (lo:(D == sysModules) = false) (hv:valueAt kvs k = none) (hz:kvs.length ≤ 100000) (hdp:dp + 100 < recursionLimit) (hu:un + 1400 < cLine)
    (ret:∀ x d l t2 t' o' h' tk', Fr h₀ L h' m→News h₀ L h' ((l, listOf #[] 0) :: (x, nodeO d (.int k t2) (.int (0 + 0) t') (.ref l)) :: (d, dictOf [] 0) :: upL D o' news)→(∀ p ∈ news, p.1 < d)→@LT.lt Nat _ d x→@LT.lt Nat _ x l→o'.IsDictOf (intKind rw_mu0013_01.row.prog w) (stored kvs k (.ref x))→Q .none { s with heap:=h', toks:=tk' }) :
    (K2 w.params).In h₀→wpAny (model rw_mu0013_01.row.prog w) (ktrTop dp un gd cn cs L a ccd cl outer) (call (.ref 390) [.ref S, .int k t]) Q E s:=by
  w_on
  k_fill
  intro X
  obtain ⟨ck, cnm, cig, cic, cmo⟩:=cs
  change ck = _ at hk
  subst hk
  refine wpAny_call ?_
  w_strict (
    k_dflt k_enter
    (have hb:=Eq.refl (bodyOf (sub 14 3)))
    (conv at hb=>rhs; whnf)
    rw [hb]
    clear hb
    (have mk:=kstMark)
    k_steps
    (unfold Halt)
    (rename Fr _ _ _ _=>F9)
    (rename News _ _ _ _=>N9)
    (refine' gni_new ?b1 F9 N9 ?b2 ?b3 ?c1 ?c2 ?c3 ho lo hv hz ?b4 ?b5 ?b6 ?b7)
    (case b1=>k_asm)
    (case b2=>k_asm)
    (case b3=>exact rfl)
    (case c1=>k_mem)
    (case c2=>k_mem)
    (case c3=>k_mem)
    (case b4=>ktr_room)
    (case b5=>ktr_units)
    (case b7=>k_asm)
    (intro x d l t2 o' h8 tk8 F8 N8 l1 l2 l3 ho'
     try dsimp only)
    (have lD:=(by assumption:∀ p ∈ news, p.1 < _))
    (have l4:∀ p ∈ news, p.1 < d:=fun p hp=>l1 p (.tail _ hp))
    (have l5:=l1 _ (.head _))
    (have l6:=lD _ hD)
    rw [upL_cons_ne (Nat.ne_of_gt l6)] at N8
    clear F9 N9
    k_steps
    (unfold Halt)
    (rename Fr _ _ _ _=>F9)
    (rename News _ _ _ _=>N9)
    rw [upL_cons_ne (Nat.ne_of_gt l3), upL_cons_self, upL_cons_ne (Nat.ne_of_lt l2), upL_cons_ne (Nat.ne_of_lt (Nat.lt_trans l5 l2)), upL_off (upL_ne fun p hp=>Nat.ne_of_lt (Nat.lt_trans (l4 p hp) l2))] at N9
    (refine' kg_none [Str.ofString "pred_info"] rfl ?hl F9 N9 ?done)
    (case hl=>exact .tail _ (.tail _ (.tail _ (.head _))))
    (case done =>
      intro u h8 tk8 F8 N8
      clear F9 N9
      k_steps
      exact ret _ _ _ _ _ _ _ _ (by assumption) (news_drop3 (by assumption)) l4 l2 l3 ho'))
end
section
open PySem PySem.W PyProof.Rows PySem.Challenge
theorem news_led {h₀ h:Heap} {L x:Addr} {p:Addr × Obj} {o:Obj} {r:List (Addr × Obj)} (N:News h₀ L h (p :: upL x o r)):∃ led, led = upL x o r ∧ News h₀ L h (p :: led):=⟨_, rfl, N⟩
local macro_rules | `(tactic| walk_at $s)=>Tab.rules s "call builtin:list.append||appendU|aam?z|id"
theorem add2 {w:World} {dp un:Nat} {gd:Option (List Code)} {cn:Str} {cs:Scope} {a:Addr} {ccd:Value} {cl:List (Str × Addr)} {outer:List Env} {A₀:Around} {base h₀:Heap} {L:Addr} {m:Str→Option Value} {news:List (Addr × Obj)} {s:Shared}
    {mean:ExcName→Option Value} {mg mb:Str→Option Value} {k p:Int} {t u t1 t2 t3 t4:Tok} {S dS D x d l y dy ly:Addr} {np:Int} {tk tp:Tok} {vy:Value} {npy:Value} {vs:List Value} {c:Nat} {pv fv:Value} {o:Obj} {kvs:List (Int × Value)} {Q E:Value→Shared→Prop}
    (B:Below A₀ base outer h₀) (F:Fr h₀ L s.heap m) (N:News h₀ L s.heap news) (T:Top q2 (looseW q2 loose2) mean mg mb h₀) (hk:cs.kind = .function) (hS:(S, instObj 440 dS) ∈ news) (hd:(dS, dictOf (tsD w t1 t2 t3 t4 D .none pv fv) 4) ∈ news) (hD:(D, o) ∈ news)
    (ho:o.IsDictOf (intKind rw_mu0013_01.row.prog w) kvs) (lo:(D == sysModules) = false) (hv:valueAt kvs k = some (.ref x)) (hv':valueAt kvs p = some (.ref y)) (hx:(x, nodeO d (.int k tk) (.int np tp) (.ref l)) ∈ news) (hdd:(d, dictOf [] 0) ∈ news) (hy:(y, nodeO dy vy npy (.ref ly)) ∈ news) (hdy:(dy, dictOf [] 0) ∈ news) (hly:(ly, listOf vs.toArray c) ∈ news) (hxy:y ≠ x) (hsz:vs.length ≤ 1000) (hdp:dp + 100 < recursionLimit) (hu:un + 1400 < cLine)
    (ret:∀ t' h' tk', Fr h₀ L h' m→News h₀ L h' (upL ly (listOf (vs.toArray.push (.int k t)) (c + 1)) (upL x (nodeO d (.int k tk) (.int (np + 1) t') (.ref l)) news))→Q .none { s with heap:=h', toks:=tk' }) :
    (K2 w.params).In h₀→wpAny (model rw_mu0013_01.row.prog w) (ktrTop dp un gd cn cs L a ccd cl outer) (call (.ref 390) [.ref S, .int k t, .int p u]) Q E s:=by
  w_on
  k_fill
  intro X
  obtain ⟨ck, cnm, cig, cic, cmo⟩:=cs
  change ck = _ at hk
  subst hk
  refine wpAny_call ?_
  w_strict (
    k_dflt k_enter
    (have hb:=Eq.refl (bodyOf (sub 14 3)))
    (conv at hb=>rhs; whnf)
    rw [hb]
    clear hb
    (have mk:=kstMark)
    k_steps
    (unfold Halt)
    (rename Fr _ _ _ _=>F9)
    (rename News _ _ _ _=>N9)
    (refine' gni_old (x:=x) ?b1 F9 N9 ?b2 ?b3 ?c1 ?c2 ?c3 ho lo hv ?b4 ?b5 ?b6 ?b7)
    (case b1=>k_asm)
    (case b2=>k_asm)
    (case b3=>exact rfl)
    (case c1=>k_mem)
    (case c2=>k_mem)
    (case c3=>k_mem)
    (case b4=>ktr_room)
    (case b5=>ktr_units)
    (case b7=>k_asm)
    (intro h8 tk8 F8 N8
     try dsimp only)
    clear F9 N9
    k_steps
    (unfold Halt)
    (rename Fr _ _ _ _=>F9)
    (rename News _ _ _ _=>N9)
    (have lD:=(by assumption:∀ p ∈ news, p.1 < _))
    (have n1:=news_ne N hy hdd (fun e=>Value.noConfusion e))
    (have nS:S ≠ x:=news_ne N hS hx (fun e=>by cases e))
    (have ndS:dS ≠ x:=news_ne N hd hx (fun e=>by cases e))
    (have nD:D ≠ x:=news_ne N hD hx (fun e=>by (revert ho; refine eE2 fun es ep=>?_; refine eA2 fun hP2 _=>?_; obtain ⟨hc, _⟩:=hP2); exact Value.noConfusion (hc.symm.trans e)))
    (have ndy:dy ≠ x:=news_ne N hdy hx (fun e=>by cases e))
    (have nly:ly ≠ x:=news_ne N hly hx (fun e=>by cases e))
    rw [upL_cons_ne (Nat.ne_of_gt (lD _ hx))] at N9
    ((refine eE1 (fun led=>?_) (news_led N9); refine eA2 fun hled N9=>?_))
    (have k1:=fun {q:Addr × Obj} (hq:q ∈ news) (hne:q.1 ≠ x)=>hled ▸ mem_upL_ne (o:=_) hq hne)
    (have mS:=k1 hS nS)
    (have mdS:=k1 hd ndS)
    (have mD:=k1 hD nD)
    (have my:=k1 hy hxy)
    (have mdy:=k1 hdy ndy)
    (have mly:=k1 hly nly)
    (refine' kg_one [Str.ofString "pred_info"] (fun c'=>∃ p0, c' = p0 :: upL ly (listOf (vs.toArray.push (.int k t)) (c + 1)) led) rfl ?hl F9 N9 ?turn ?done)
    (case hl=>exact .head _)
    (case turn =>
      intro u h8 tk8 I oI hoff F8 N8
      clear F9 N9
      k_steps
      (unfold Halt)
      (rename Fr _ _ _ _=>F9)
      (rename News _ _ _ _=>N9)
      (refine' gni_old (x:=y) ?zb1 F9 N9 ?zb2 ?zb3 ?zc1 ?zc2 ?zc3 ho lo hv' ?zb4 ?zb5 ?zb6 ?zb7)
      (case zb1=>k_asm)
      (case zb2=>k_asm)
      (case zb3=>exact rfl)
      (case zc1=>k_mem)
      (case zc2=>k_mem)
      (case zc3=>k_mem)
      (case zb4=>ktr_room)
      (case zb5=>ktr_units)
      (case zb7=>k_asm)
      (intro h7 tk7 F7 N7
       try dsimp only)
      clear F9 N9
      k_steps
      (rename Fr _ _ _ _=>FE)
      (rename News _ _ _ _=>NE)
      (have nI:I ≠ ly:=fun e=>hoff _ (.tail _ mly) e.symm)
      rw [upL_cons_ne nI, upL_cons_ne (Nat.ne_of_gt (lD _ hly))] at NE
      dsimp only [KgPost]
      (refine' kg_end ⟨_, List.mem_cons_self⟩ FE NE ?w1 ?w2 ?w3 ?w4 ?w5 ?w6)
      (case w1=>exact fun p hp=>.tail _ hp)
      (case w2=>exact .head _)
      (case w3=>exact List.forall_mem_cons.mpr ⟨hoff _ (.head _), upL_ne fun p hp=>hoff p (.tail _ hp)⟩)
      (case w4=>exact List.forall_mem_nil _)
      (case w5=>exact fun z z1 z2 z3=>by rw [if_neg (ne_of_stored z3), if_neg z1]; show (if _ = true then _ else _) = _; rw [z3]; rfl)
      (case w6=>exact ⟨_, rfl⟩))
    (case done =>
      (rintro c' u h8 tk8; (refine eE1 fun p0 hR1=>?_; subst hR1); rintro F8 N8)
      clear F9 N9
      k_steps
      exact ret _ _ _ (by assumption) (fun p hp=>(by assumption:News h₀ L _ _) p (.tail _ (hled ▸ hp)))))
end
end
section
open PySem PySem.W PyProof.Rows PySem.Challenge
theorem dict_nil {prog:Program} {w:World} {K1 K2:Type} [DecidableEq K1] [DecidableEq K2] {k1:KeyKind prog w K1} {k2:KeyKind prog w K2} {o:Obj} (h:o.IsDictOf k1 []):o.IsDictOf k2 []:=by
  (revert h; refine eE2 fun es ep=>?_; refine eA5 fun a b c d e=>?_)
  have z:es.toList = []:=by
    generalize es.toList = l at d
    cases d
    rfl
  have z':es = #[]:=by rw [← Array.toList_inj]; exact z
  subst z'
  exact (iE2 (#[]) ep ⟨a, b, fun e he=>absurd he (by simp), .nil, List.Pairwise.nil⟩)
theorem ts_make {w:World} {dp un:Nat} {gd:Option (List Code)} {cn:Str} {cs:Scope} {a:Addr} {ccd:Value} {cl:List (Str × Addr)} {outer:List Env} {A₀:Around} {base h₀:Heap} {L:Addr} {m:Str→Option Value} {news:List (Addr × Obj)} {s:Shared}
    {mean:ExcName→Option Value} {mg mb:Str→Option Value} {Q E:Value→Shared→Prop}
    (B:Below A₀ base outer h₀) (F:Fr h₀ L s.heap m) (N:News h₀ L s.heap news) (T:Top q2 (looseW q2 loose2) mean mg mb h₀) (hk:cs.kind = .function) (hd:dp + 30 < recursionLimit) (hu:un + 300 < cLine)
    (ret:∀ S dS D o t1 t2 t3 t4 t5 t6 h' tk', Fr h₀ L h' m→News h₀ L h' ((D, o) :: (S, instObj 440 dS) :: (dS, dictOf (tsD w t1 t2 t3 t4 D .none (.int 0 t5) (.int 0 t6)) 4) :: news)→(∀ p ∈ news, p.1 < dS)→@LT.lt Nat _ dS S→@LT.lt Nat _ S D→(D == sysModules) = false→o.IsDictOf (intKind rw_mu0013_01.row.prog w) []→Q (.ref S) { s with heap:=h', toks:=tk' }) :
    (K2 w.params).In h₀→wpAny (model rw_mu0013_01.row.prog w) (ktrTop dp un gd cn cs L a ccd cl outer) (call (.ref 440) []) Q E s:=by
  w_on
  k_fill
  intro X
  obtain ⟨ck, cnm, cig, cic, cmo⟩:=cs
  change ck = _ at hk
  subst hk
  w_strict (
    (have mk:=kstMark)
    k_steps
    (have lD:=(by assumption:@LT.lt Nat _ _ _ ∧ @LT.lt Nat _ _ _ ∧ AllLt _ news))
    exact ret _ _ _ _ _ _ _ _ _ _ _ _ (by assumption) (by assumption) (by assumption) (by assumption) lD.1 (by assumption) (dict_nil (by assumption)))
end
section
open PySem PySem.W PyProof.Rows PySem.Challenge
theorem meets_bool_new_list (l:Addr):Meets (Builtin.«bool.__new__» ⟨[.type "bool", .ref l], []⟩) (fun _ R s=>∃ items:Array Value, s.heap.IsList l items ∧ (items.size:Int) < 2 ^ 63 ∧ R (.ok (.ret (.bool (!items.isEmpty)))) { s with toks:=s.toks + 1 + 1 }) :=
  Meets.of_wp fun prog w A R s hs=>by
    (revert hs; refine eE1 fun items=>?_; refine eA3 fun hl hf hs=>?_)
    obtain ⟨hp, g, d, tk, os⟩:=s
    have f1:=F.conv_sub_bool
    repeat (any_goals (first | assumption | (with_reducible refine wpAny_truthy_list hl hf ?_) | wp_step))
    all_goals first | exact ⟨_, rfl, hs⟩ | exact hs | skip
theorem call_bool_list {prog:Program} {w:World} {A:Around} {E:Value→Shared→Prop} {hp h₀:Heap} {gs:Array GenState} {dr:Drawn} {tk0:Nat} {os:OsState} {L l:Addr} {vs:List Value} {c:Nat} {news:List (Addr × Obj)} {Q:Value→Shared→Prop} (N:News h₀ L hp news) (hm:(l, listOf vs.toArray c) ∈ news) (hz:vs.length ≤ 1000)
    (h:∀ tk, Q (.bool (!vs.isEmpty)) ⟨hp, gs, dr, tk, os⟩):wpAny (model prog w) A (call (.type "bool") [.ref l]) Q E ⟨hp, gs, dr, tk0, os⟩:=by
  refine call_bool_1 (meets_bool_new_list l) ⟨vs.toArray, News.isList N hm, by rw [List.size_toArray]; lia, ?_⟩
  have e:vs.toArray.isEmpty = vs.isEmpty:=by cases vs <;> rfl
  rw [e]
  exact ⟨rfl, h _⟩
local macro_rules | `(tactic| walk_at $s)=>Tab.rules s "call type:bool||call_bool_list|ams?|i"
theorem act_tells {w:World} {H:Option Value} {dp un:Nat} {gd:Option (List Code)} {cn:Str} {cs:Scope} {a:Addr} {ccd:Value} {cl:List (Str × Addr)} {outer:List Env} {A₀:Around} {base h₀:Heap} {L:Addr} {m:Str→Option Value} {news:List (Addr × Obj)} {s:Shared}
    {mean:ExcName→Option Value} {mg mb:Str→Option Value} {f p:Int} {tf tp t1 t2 t3 t4:Tok} {S dS D R:Addr} {vs:List Value} {c:Nat} {Q E:Value→Shared→Prop}
    (B:Below A₀ base outer h₀) (F:Fr h₀ L s.heap m) (N:News h₀ L s.heap news) (T:Top q2 (looseW q2 loose2) mean mg mb h₀) (hk:cs.kind = .function) (hS:(S, instObj 440 dS) ∈ news) (hd:(dS, dictOf (tsD w t1 t2 t3 t4 D (.ref R) (.int p tp) (.int f tf)) 4) ∈ news) (hR:(R, listOf vs.toArray c) ∈ news) (hz:vs.length ≤ 1000) (hdp:dp + 40 < recursionLimit) (hu:un + 400 < cLine)
    (ret:∀ b h' tk', b = (decide (f < p) || !vs.isEmpty)→Fr h₀ L h' m→News h₀ L h' news→Q (.bool b) { s with heap:=h', toks:=tk' }) :
    (K2 w.params).In h₀→wpAny (model rw_mu0013_01.row.prog w) (ktrH H dp un gd cn cs L a ccd cl outer) (call (.ref 409) [.ref S]) Q E s:=by
  unfold ktrH
  w_on
  k_fill
  intro X
  obtain ⟨ck, cnm, cig, cic, cmo⟩:=cs
  change ck = _ at hk
  subst hk
  refine wpAny_call ?_
  w_strict (
    k_dflt k_enter
    (have hb:=Eq.refl (bodyOf (sub 14 6)))
    (conv at hb=>rhs; whnf)
    rw [hb]
    clear hb
    (have mk:=kstMark)
    k_steps
    · exact ret _ _ _ (by rw [decide_eq_true (by assumption:f < p)]; rfl) (by assumption) (by assumption)
    · exact ret _ _ _ (by rw [decide_eq_false (by assumption:¬ f < p)]; rfl) (by assumption) (by assumption))
end
end
end
section
open PySem PySem.W PyProof.Rows PySem.Challenge PySem.Spec
noncomputable def ExcO (ob:Obj):Prop:=∃ vs, ob.data = .fields vs ∧ vs[2]? = some .none
noncomputable def HandIn (H:Option Value) (led:List (Addr × Obj)):Prop:=H = none ∨ ∃ e ob, H = some (.ref e) ∧ (e, ob) ∈ led ∧ ExcO ob
noncomputable def HandAt (H:Option Value) (h:Heap):Prop:=H = none ∨ ∃ e ob, H = some (.ref e) ∧ h.get? e = some ob ∧ ExcO ob
theorem HandAt.keeps {H:Option Value} {h h':Heap} (x:HandAt H h) (k:∀ e ob, H = some (.ref e)→h.get? e = some ob→ExcO ob→h'.get? e = some ob):HandAt H h':=by
  rcases x with rfl | ⟨e, ob, rfl, hm, ho⟩
  · exact .inl rfl
  · exact .inr (iE2 e ob ⟨rfl, k _ _ rfl hm ho, ho⟩)
theorem HandIn.mono {H:Option Value} {led led':List (Addr × Obj)} (x:HandIn H led) (k:∀ e ob, (e, ob) ∈ led→ExcO ob→(e, ob) ∈ led'):HandIn H led':=by
  rcases x with rfl | ⟨e, ob, rfl, hm, ho⟩
  · exact .inl rfl
  · exact .inr (iE2 e ob ⟨rfl, k _ _ hm ho, ho⟩)
theorem entry_unchain:entryFor table "proto.unchain" = some Builtin.«proto.unchain»:=entryFor_of_tree (by kernel_rfl)
section
variable {prog:Program} {w:World} {A:Around} {hp:Heap} {gs:Array GenState} {dr:Drawn} {tk:Nat} {os:OsState}
theorem stop_raise {E:Value→Shared→Prop} {α:Type} {Q:α→Shared→Prop} (hH:HandAt A.handled hp)
    (h:∀ h' e', (∀ b o, hp.get? b = some o→h'.get? b = some o)→(∃ o', h'.get? e' = some o' ∧ o'.cls = .type "StopIteration")→E (.ref e') ⟨h', gs, dr, tk, os⟩) :
    wpAny (model prog w) A (newExc (.type "StopIteration") [] >>= fun e=>(raiseNew e:Sem α)) Q E ⟨hp, gs, dr, tk, os⟩:=by
  refine wpAny_bind ?_
  simp only [newExc, newTuple]
  refine wpAny_bind (wpAny_newObj_type ?_ (by size_fits))
  refine wpAny_bind (m:=firstArgMember _ _) (wpAny_of_eq (a:=Value.none) (by first | rfl | (simp only [firstArgMember]; rfl)) ?_)
  refine wpAny_newObj_type ?_ (by size_fits)
  simp only [raiseNew]
  refine wpAny_bind (wpAny_handled ?_)
  have kp:∀ o1 o2:Obj, ∀ b o, hp.get? b = some o→((hp.push o1).push o2).get? b = some o:=fun o1 o2 b o e=>Heap.get?_push_of_some _ (Heap.get?_push_of_some _ e)
  rcases hH with hH | ⟨e, ob, hH, hob, vs, hd, h2⟩
  · rw [hH]
    exact wpAny_bind (wpAny_pure (wpAny_throw (h _ _ (kp _ _) ⟨_, Heap.get?_push_size _ rfl, rfl⟩)))
  · rw [hH]
    dsimp only
    generalize hg:(hp.push { cls:=.type "tuple", data:=.seq [].toArray }) = g1
    have hne:e ≠ g1.objs.size:=by
      have a:=Heap.lt_size hob
      subst hg
      rw [Heap.size_push]
      exact Nat.ne_of_lt (Nat.lt_succ_of_lt a)
    rw [if_pos (by simp [bne, hne])]
    have hob2:∀ o2:Obj, (g1.push o2).get? e = some ob:=fun o2=>by subst hg; exact kp _ _ _ _ hob
    refine wpAny_bind (wpAny_holding (wpAny_runValue (codeAny_builtin entry_unchain ?_)))
    show wpAny _ _ (field (.ref e) 2 >>= _) _ _ _
    refine wpAny_bind (wpAny_field (hob2 _) hd h2 ?_)
    refine wpAny_pure ?_
    show wpAny _ _ (setField (.ref g1.objs.size) 2 (Value.ref e) >>= fun _=>throw _) _ _ _
    refine wpAny_bind (wpAny_setField (Heap.get?_push_size _ rfl) rfl (by rw [Array.size_append]; exact Nat.lt_of_lt_of_le (show 2 < 6 by decide) (Nat.le_add_right _ _)) (wpAny_throw ?_))
    refine h _ _ (fun b o eb=>?_) ⟨_, Heap.get?_update_self _ (Heap.get?_push_size _ rfl) (Obj.isFreed_of_fields (Obj.data_mapFields rfl _)), Obj.cls_mapFields _ _⟩
    rw [Heap.get?_update_other _ _ (by
      have a:=Heap.lt_size eb
      subst hg
      rw [Heap.size_push]
      exact (Nat.ne_of_gt (Nat.lt_succ_of_lt a)))]
    subst hg
    exact kp _ _ _ _ eb
theorem pyNext_end_stop {E:Value→Shared→Prop} {it:Addr} {o:Obj} {vs:Array Value} {Q:Option Value→Shared→Prop} {id:String} {c:String} {b:Builtin}
    (S:Slot c "__next__" id) (en:entryFor table id = some b) (ho:hp.get? it = some o) (hc:o.cls = .type c) (ar:argsOk id ⟨[.ref it], []⟩) (hd:o.data = .fields vs) (hz:0 < vs.size)
    (hb:∀ (Q:Fin→Shared→Prop) E' A', wpAny (model prog w) A' (do setField (.ref it) 0 .none; newExc (.type "StopIteration") [] >>= fun e=>(raiseNew e:Sem Fin)) Q E' ⟨hp, gs, dr, tk, os⟩→wpAny (model prog w) A' (b ⟨[.ref it], []⟩) Q E' ⟨hp, gs, dr, tk, os⟩)
    (hH:HandAt A.handled hp) (hne:∀ e, A.handled = some (.ref e)→e ≠ it)
    (hQ:∀ h', Heap.ExtBut it hp h'→Q none ⟨h', gs, dr, tk, os⟩):wpAny (model prog w) A (pyNext (.ref it)) Q E ⟨hp, gs, dr, tk, os⟩:=by
  unfold pyNext
  refine wpAny_bind (wpAny_attempt (wpAny_callSpecial?_slot (name:=Str.ofString "__next__") ⟨_, ho, hc⟩ S (wpAny_call_entry S ⟨_, ho, hc⟩ en ?_ ar)))
  refine hb _ _ _ (wpAny_bind (wpAny_setField ho hd hz (stop_raise (HandAt.keeps hH fun e ob he hob _=>?_) fun h' e' k ⟨o', ho', hc'⟩=>?_)))
  · exact (Heap.get?_update_other _ _ (Ne.symm (hne e he))).trans hob
  · refine wpAny_bind (wpAny_isInstance (T:="StopIteration") (b:=true) ⟨_, ho', hc'⟩ isSubtype_stop ?_)
    exact wpAny_pure (hQ _ fun b o hbn eb=>k _ _ ((Heap.get?_update_other _ _ (Ne.symm hbn)).trans eb))
theorem next_list_endH {E:Value→Shared→Prop} {it l:Addr} {i:Nat} {items:Array Value} {Q:Option Value→Shared→Prop} (hH:HandAt A.handled hp) (hne:∀ e, A.handled = some (.ref e)→e ≠ it)
    (hit:hp.IsListIter it l i) (hl:hp.IsList l items) (hx:items[i]? = none) (hQ:∀ h', Heap.ExtBut it hp h'→Q none ⟨h', gs, dr, tk, os⟩):wpAny (model prog w) A (pyNext (.ref it)) Q E ⟨hp, gs, dr, tk, os⟩:=by
  (refine eE1 (fun o=>?_) (id hit); refine eA3 fun ho hc hd=>?_)
  (revert hl; refine eE1 fun ol=>?_; refine eA3 fun hol _=>?_; refine eE1 fun nl hdl=>?_)
  refine pyNext_end_stop slot_listiter_next entry_listiter_next ho hc (args_listiter_next _) hd (by simp) (fun Q E' A' h=>?_) hH hne hQ
  show wpAny _ _ (field (.ref it) 0 >>= _) _ _ _
  refine wpAny_bind (wpAny_field ho hd (x:=.ref l) rfl ?_)
  show wpAny _ _ (if (Value.ref l == Value.none) = true then _ else _) _ _ _
  rw [if_neg (show ¬ ((Value.ref l == Value.none) = true) from Bool.false_ne_true)]
  show wpAny _ _ (field (.ref it) 1 >>= _) _ _ _
  refine wpAny_bind (wpAny_field ho hd (x:=.int i 0) rfl ?_)
  show wpAny _ _ (seqItems? (.ref l) >>= _) _ _ _
  refine wpAny_bind (wpAny_seqItems hol hdl ?_)
  simp only [Int.toNat_natCast, hx]
  exact wpAny_bind (wpAny_rule h)
theorem next_tuple_endH {E:Value→Shared→Prop} {it l:Addr} {i:Nat} {items:Array Value} {Q:Option Value→Shared→Prop} (hH:HandAt A.handled hp) (hne:∀ e, A.handled = some (.ref e)→e ≠ it)
    (hit:hp.IsTupleIter it l i) (hl:hp.IsTuple l items) (hx:items[i]? = none) (hQ:∀ h', Heap.ExtBut it hp h'→Q none ⟨h', gs, dr, tk, os⟩):wpAny (model prog w) A (pyNext (.ref it)) Q E ⟨hp, gs, dr, tk, os⟩:=by
  (refine eE1 (fun o=>?_) (id hit); refine eA3 fun ho hc hd=>?_)
  (revert hl; refine eE1 fun ol=>?_; refine eA3 fun hol _=>?_; refine eE1 fun nl hdl=>?_)
  refine pyNext_end_stop F.slot_tuple_iterator_next F.entry_tuple_iterator_next ho hc (F.args_tuple_iterator_next_1 _) hd (by simp) (fun Q E' A' h=>?_) hH hne hQ
  show wpAny _ _ (field (.ref it) 0 >>= _) _ _ _
  refine wpAny_bind (wpAny_field ho hd (x:=.ref l) rfl ?_)
  show wpAny _ _ (if (Value.ref l == Value.none) = true then _ else _) _ _ _
  rw [if_neg (show ¬ ((Value.ref l == Value.none) = true) from Bool.false_ne_true)]
  show wpAny _ _ (field (.ref it) 1 >>= _) _ _ _
  refine wpAny_bind (wpAny_field ho hd (x:=.int i 0) rfl ?_)
  show wpAny _ _ (seqItems? (.ref l) >>= _) _ _ _
  refine wpAny_bind (wpAny_seqItems hol hdl ?_)
  simp only [Int.toNat_natCast, hx]
  exact wpAny_bind (wpAny_rule h)
end
theorem HandIn.pick {H:Option Value} {led:List (Addr × Obj)} (x:HandIn H led):∃ kh, HandIn H kh ∧ ∀ p ∈ kh, p ∈ led ∧ ExcO p.2:=by
  rcases x with rfl | ⟨e, ob, rfl, hm, ho⟩
  · exact ⟨[], .inl rfl, fun _ h=>nomatch h⟩
  · exact ⟨[(e, ob)], .inr (iE2 e ob ⟨rfl, .head _, ho⟩), fun p hp=>by rw [List.mem_singleton.mp hp]; exact ⟨hm, ho⟩⟩
noncomputable def StK (kh:List (Addr × Obj)) (h:Heap):Prop:=∀ p ∈ kh, h.get? p.1 = some p.2
theorem StK.hand {H:Option Value} {kh:List (Addr × Obj)} {h:Heap} (x:StK kh h) (hh:HandIn H kh):HandAt H h:=by
  rcases hh with rfl | ⟨e, ob, rfl, hm, ho⟩
  · exact .inl rfl
  · exact .inr (iE2 e ob ⟨rfl, x _ hm, ho⟩)
theorem HandIn.ne {H:Option Value} {kh:List (Addr × Obj)} {I e:Addr} (hh:HandIn H kh) (hn:∀ p ∈ kh, p.1 ≠ I) (he:H = some (.ref e)):e ≠ I:=by
  rcases hh with rfl | ⟨e', ob, rfl, hm, ho⟩
  · cases he
  · cases he
    exact hn _ hm
section
variable {prog:Program} {w:World} {A:Around}
theorem walksListH {kh:List (Addr × Obj)} (hh:HandIn A.handled kh) (I ax:Addr) (hne:ax ≠ I) (hk:∀ p ∈ kh, p.1 ≠ I) (items:Array Value) :
    Walks prog w A I (I :: ax :: kh.map (·.1)) [I] items.size (fun i v=>items[i]? = some v) (fun i h=>(h.IsListIter I ax i ∧ h.IsList ax items) ∧ StK kh h) where
  sub:=fun b hb=>by rw [List.mem_singleton.mp hb]; exact .head _
  frame:=fun _ _ _ st hf=>⟨⟨st.1.1.at fun o e=>hf I (.head _) o e, st.1.2.at fun o e=>hf ax (.tail _ (.head _)) o e⟩, fun p hp=>hf _ (.tail _ (.tail _ (List.mem_map.mpr ⟨p, hp, rfl⟩))) _ (st.2 p hp)⟩
  item:=fun i s Q E hi st hQ=>by
    refine wpAny_pyNext_list_item st.1.1 st.1.2 (x:=items[i]) (by simp [hi]) fun h' hit' hs'=>?_
    exact hQ _ h' s.toks (by simp [hi]) ⟨⟨hit', st.1.2.extBut hs'.extBut hne⟩, fun p hp=>hs'.extBut _ _ (hk p hp) (st.2 p hp)⟩ fun b o hb e=>hs'.extBut b o (fun h=>hb (by simp [h])) e
  done:=fun s Q E st hQ=>next_list_endH (st.2.hand hh) (fun e he=>hh.ne hk he) st.1.1 st.1.2 (by simp) fun h' he'=>hQ h' s.toks fun b o hb e=>he' b o (fun h=>hb (by simp [h])) e
  self:=fun _ _ _ _ st hQ=>wpAny_pyIter_listiter st.1.1 hQ
theorem walksTupleH {kh:List (Addr × Obj)} (hh:HandIn A.handled kh) (I ax:Addr) (hne:ax ≠ I) (hk:∀ p ∈ kh, p.1 ≠ I) (items:Array Value) :
    Walks prog w A I (I :: ax :: kh.map (·.1)) [I] items.size (fun i v=>items[i]? = some v) (fun i h=>(h.IsTupleIter I ax i ∧ h.IsTuple ax items) ∧ StK kh h) where
  sub:=fun b hb=>by rw [List.mem_singleton.mp hb]; exact .head _
  frame:=fun _ _ _ st hf=>⟨⟨st.1.1.at fun o e=>hf I (.head _) o e, st.1.2.at fun o e=>hf ax (.tail _ (.head _)) o e⟩, fun p hp=>hf _ (.tail _ (.tail _ (List.mem_map.mpr ⟨p, hp, rfl⟩))) _ (st.2 p hp)⟩
  item:=fun i s Q E hi st hQ=>by
    refine wpAny_pyNext_tuple_item st.1.1 st.1.2 (x:=items[i]) (by simp [hi]) fun h' hit' hs'=>?_
    exact hQ _ h' s.toks (by simp [hi]) ⟨⟨hit', st.1.2.extBut hs'.extBut hne⟩, fun p hp=>hs'.extBut _ _ (hk p hp) (st.2 p hp)⟩ fun b o hb e=>hs'.extBut b o (fun h=>hb (by simp [h])) e
  done:=fun s Q E st hQ=>next_tuple_endH (st.2.hand hh) (fun e he=>hh.ne hk he) st.1.1 st.1.2 (by simp) fun h' he'=>hQ h' s.toks fun b o hb e=>he' b o (fun h=>hb (by simp [h])) e
  self:=fun _ _ _ _ st hQ=>wpAny_pyIter_tupleiter st.1.1 hQ
end
section
variable {prog:Program} {w:World} {A:Around} {E:Value→Shared→Prop} {s:Shared} {env:Env} {h₀:Heap} {x:Str} {body:List Stmt} {Q:Flow→Shared→Prop}
theorem kg_tupleH {σ:Type} {l:Addr} {vs:List Value} {nn:Nat} {m₀:Str→Option Value} {kh:List (Addr × Obj)} (Led:σ→List (Addr × Obj)) (ps:σ→List (Str × Value)) (stored:List Str) (P:Nat→σ→Prop) (c₀:σ)
    (hh:HandIn A.handled kh) (hkl:∀ c:σ, ∀ p ∈ kh, p ∈ Led c) (hl:∀ c:σ, (l, ({ cls:=.type "tuple", data:=.seq vs.toArray nn }:Obj)) ∈ Led c) (F:Fr h₀ env.locals s.heap m₀) (N:News h₀ env.locals s.heap (Led c₀)) (hk:∀ p ∈ ps c₀, m₀ p.1 = some p.2) (hp:P 0 c₀)
    (turn:∀ (c:σ) i v (u:Str→Option Value) h tk I oI, vs[i]? = some v→P i c→(∀ q ∈ Led c, q.1 ≠ I) →
      Fr h₀ env.locals h (fun y=>if y = x then some v else kstB (fun z=>if stored.contains z then u z else m₀ z) (ps c) y)→News h₀ env.locals h ((I, oI) :: Led c) →
      wpAny (model prog w) A (execs body env) (KgPost h₀ env.locals Led ps x stored m₀ (P (i + 1)) I oI { s with heap:=h, toks:=tk } Q) E { s with heap:=h, toks:=tk })
    (done:∀ (c:σ) (u:Str→Option Value) h tk, P vs.length c→Fr h₀ env.locals h (fun y=>if y = x then u y else kstB (fun z=>if stored.contains z then u z else m₀ z) (ps c) y)→News h₀ env.locals h (Led c)→Q .next { s with heap:=h, toks:=tk }) :
    wpAny (model prog w) A (pyIter (.ref l)) (fun it s₂=>LoopAtV prog w A h₀ env x body Q E it s₂) E s:=by
  have hol:s.heap.get? l = some (({ cls:=.type "tuple", data:=.seq vs.toArray nn }:Obj)):=(N _ (hl c₀)).1
  have hls:s.heap.IsTuple l vs.toArray:=⟨_, hol, rfl, nn, rfl⟩
  have hlt:∀ q ∈ Led c₀, q.1 ≠ s.heap.objs.size:=fun q hq=>Nat.ne_of_lt (Heap.lt_size (N q hq).1)
  refine wpAny_pyIter_tuple hls ?_
  refine kg_core Led ps stored P c₀ (walksTupleH (prog:=prog) (w:=w) hh s.heap.objs.size l (hlt _ (hl c₀)) (fun p hp=>hlt _ (hkl c₀ p hp)) vs.toArray) ?_ (next_is_new F) hlt ⟨⟨⟨_, Heap.get?_push_size _ rfl, rfl, rfl⟩, hls.at fun o e=>Heap.get?_push_of_some _ e⟩, fun p hp=>Heap.get?_push_of_some _ (N _ (hkl c₀ p hp)).1⟩ ?_ ?_ (F.push _) (fun p hp=>⟨Heap.get?_push_of_some _ (N p hp).1, (N p hp).2⟩) hk hp ?_ ?_
  · intro hm
    rcases List.mem_cons.mp hm with e | hm
    · exact absurd F.ns.lt (e ▸ Nat.lt_irrefl _)
    rcases List.mem_cons.mp hm with e | hm
    · exact (N _ (hl c₀)).2.1 e.symm
    · (refine eE1 (fun p=>?_) (List.mem_map.mp hm); refine eA2 fun hp e=>?_)
      exact (N _ (hkl c₀ p hp)).2.1 e
  · (rintro i h; (refine eA2 fun hP0 _=>?_; obtain ⟨⟨o, ho, _⟩, _⟩:=hP0))
    exact ⟨o, ho⟩
  · intro b hb hn
    rcases List.mem_cons.mp hb with e | hb
    · exact absurd e hn
    rcases List.mem_cons.mp hb with e | hb
    · rw [e]
      exact .inr ⟨_, hl⟩
    · (refine eE1 (fun p=>?_) (List.mem_map.mp hb); refine eA2 fun hp e=>?_)
      exact .inr ⟨p.2, fun c=>e ▸ hkl c p hp⟩
  · intro c i v u h tk oI hi hv hP hoff F' N'
    exact turn c i v u h tk _ oI (by simpa using hv) hP hoff F' N'
  · intro c u h tk hP F' N'
    rw [List.size_toArray] at hP
    exact done c u h tk hP F' N'
theorem kg_listH {σ:Type} {l:Addr} {vs:List Value} {nn:Nat} {m₀:Str→Option Value} {kh:List (Addr × Obj)} (Led:σ→List (Addr × Obj)) (ps:σ→List (Str × Value)) (stored:List Str) (P:Nat→σ→Prop) (c₀:σ)
    (hh:HandIn A.handled kh) (hkl:∀ c:σ, ∀ p ∈ kh, p ∈ Led c) (hl:∀ c:σ, (l, W.listOf vs.toArray nn) ∈ Led c) (F:Fr h₀ env.locals s.heap m₀) (N:News h₀ env.locals s.heap (Led c₀)) (hk:∀ p ∈ ps c₀, m₀ p.1 = some p.2) (hp:P 0 c₀)
    (turn:∀ (c:σ) i v (u:Str→Option Value) h tk I oI, vs[i]? = some v→P i c→(∀ q ∈ Led c, q.1 ≠ I) →
      Fr h₀ env.locals h (fun y=>if y = x then some v else kstB (fun z=>if stored.contains z then u z else m₀ z) (ps c) y)→News h₀ env.locals h ((I, oI) :: Led c) →
      wpAny (model prog w) A (execs body env) (KgPost h₀ env.locals Led ps x stored m₀ (P (i + 1)) I oI { s with heap:=h, toks:=tk } Q) E { s with heap:=h, toks:=tk })
    (done:∀ (c:σ) (u:Str→Option Value) h tk, P vs.length c→Fr h₀ env.locals h (fun y=>if y = x then u y else kstB (fun z=>if stored.contains z then u z else m₀ z) (ps c) y)→News h₀ env.locals h (Led c)→Q .next { s with heap:=h, toks:=tk }) :
    wpAny (model prog w) A (pyIter (.ref l)) (fun it s₂=>LoopAtV prog w A h₀ env x body Q E it s₂) E s:=by
  have hol:s.heap.get? l = some (W.listOf vs.toArray nn):=(N _ (hl c₀)).1
  have hls:s.heap.IsList l vs.toArray:=⟨_, hol, rfl, nn, rfl⟩
  have hlt:∀ q ∈ Led c₀, q.1 ≠ s.heap.objs.size:=fun q hq=>Nat.ne_of_lt (Heap.lt_size (N q hq).1)
  refine wpAny_pyIter_list hls ?_
  refine kg_core Led ps stored P c₀ (walksListH (prog:=prog) (w:=w) hh s.heap.objs.size l (hlt _ (hl c₀)) (fun p hp=>hlt _ (hkl c₀ p hp)) vs.toArray) ?_ (next_is_new F) hlt ⟨⟨⟨_, Heap.get?_push_size _ rfl, rfl, rfl⟩, hls.at fun o e=>Heap.get?_push_of_some _ e⟩, fun p hp=>Heap.get?_push_of_some _ (N _ (hkl c₀ p hp)).1⟩ ?_ ?_ (F.push _) (fun p hp=>⟨Heap.get?_push_of_some _ (N p hp).1, (N p hp).2⟩) hk hp ?_ ?_
  · intro hm
    rcases List.mem_cons.mp hm with e | hm
    · exact absurd F.ns.lt (e ▸ Nat.lt_irrefl _)
    rcases List.mem_cons.mp hm with e | hm
    · exact (N _ (hl c₀)).2.1 e.symm
    · (refine eE1 (fun p=>?_) (List.mem_map.mp hm); refine eA2 fun hp e=>?_)
      exact (N _ (hkl c₀ p hp)).2.1 e
  · (rintro i h; (refine eA2 fun hP0 _=>?_; obtain ⟨⟨o, ho, _⟩, _⟩:=hP0))
    exact ⟨o, ho⟩
  · intro b hb hn
    rcases List.mem_cons.mp hb with e | hb
    · exact absurd e hn
    rcases List.mem_cons.mp hb with e | hb
    · rw [e]
      exact .inr ⟨_, hl⟩
    · (refine eE1 (fun p=>?_) (List.mem_map.mp hb); refine eA2 fun hp e=>?_)
      exact .inr ⟨p.2, fun c=>e ▸ hkl c p hp⟩
  · intro c i v u h tk oI hi hv hP hoff F' N'
    exact turn c i v u h tk _ oI (by simpa using hv) hP hoff F' N'
  · intro c u h tk hP F' N'
    rw [List.size_toArray] at hP
    exact done c u h tk hP F' N'
end
end
section
open PySem PySem.W PyProof.Rows PySem.Challenge PySem.Spec
noncomputable def TsEnd {τ:Type} (h₀:Heap) (L l:Addr) (ol:Obj) (x:Str) (stored:List Str) (m₀:Str→Option Value) (P:List (Addr × Obj)→τ→Prop) (I:Addr) (oI:Obj) (s₁ s₂:Shared):Prop :=
  ∃ (c:List (Addr × Obj)) (t:τ) (h':Heap) (tk:Nat) (m':Str→Option Value), s₂ = { s₁ with heap:=h', toks:=tk } ∧ Fr h₀ L h' m' ∧ News h₀ L h' ((I, oI) :: c) ∧ (l, ol) ∈ c ∧ (∀ q ∈ c, q.1 ≠ I) ∧ (∀ z, z ≠ x→stored.contains z = false→m' z = m₀ z) ∧ P c t
noncomputable def TsPost {τ:Type} (h₀:Heap) (L l:Addr) (ol:Obj) (x:Str) (stored:List Str) (m₀:Str→Option Value) (P:List (Addr × Obj)→τ→Prop) (I:Addr) (oI:Obj) (s₁:Shared) (Q:Flow→Shared→Prop) (f:Flow) (s₂:Shared):Prop :=
  match f with
  | .ret v=>Q (.ret v) s₂
  | .brk=>Q .next s₂
  | _=>TsEnd h₀ L l ol x stored m₀ P I oI s₁ s₂
theorem ts_end {τ:Type} {h₀:Heap} {L l:Addr} {ol:Obj} {x:Str} {stored:List Str} {m₀ m':Str→Option Value} {P:List (Addr × Obj)→τ→Prop} {I:Addr} {oI:Obj} {s₁:Shared} {h':Heap} {tk:Nat} {c:List (Addr × Obj)} (t:τ)
    (F:Fr h₀ L h' m') (N:News h₀ L h' ((I, oI) :: c)) (hl:(l, ol) ∈ c) (hI:∀ q ∈ c, q.1 ≠ I) (hr:∀ z, z ≠ x→stored.contains z = false→m' z = m₀ z) (hp:P c t) :
    TsEnd h₀ L l ol x stored m₀ P I oI s₁ { s₁ with heap:=h', toks:=tk }:=(iE5 c t h' tk m' ⟨rfl, F, N, hl, hI, hr, hp⟩)
theorem ts_kg {τ:Type} {h₀:Heap} {L l:Addr} {ol:Obj} {x:Str} {stored:List Str} {m₀:Str→Option Value} {P:List (Addr × Obj)→τ→Prop} {I:Addr} {oI:Obj} {s₁ s₂:Shared} {kh:List (Addr × Obj)} (hkp:∀ c t, P c t→∀ p ∈ kh, p ∈ c) (q:TsEnd h₀ L l ol x stored m₀ P I oI s₁ s₂) :
    KgEnd (σ:={ c:List (Addr × Obj) × τ // (l, ol) ∈ c.1 ∧ ∀ p ∈ kh, p ∈ c.1 }) h₀ L (fun c=>c.1.1) (fun _=>[]) x stored m₀ (fun c=>P c.1.1 c.1.2) I oI s₁ s₂:=by
  (revert q; refine eE5 fun c t h' tk m'=>?_; refine eA7 fun hR5 F N hl hI hr hp=>?_; subst hR5)
  exact kg_end ⟨(c, t), hl, hkp c t hp⟩ F N (fun p hp=>.tail _ hp) (.head _) hI (List.forall_mem_nil _) (fun z z1 _ z3=>hr z z1 z3) hp
section
variable {prog:Program} {w:World} {A:Around} {E:Value→Shared→Prop} {s:Shared} {env:Env} {h₀:Heap} {x:Str} {body:List Stmt} {Q:Flow→Shared→Prop}
theorem kg_tupS {τ:Type} {l:Addr} {vs:List Value} {nn:Nat} {m₀:Str→Option Value} {led:List (Addr × Obj)} {kh:List (Addr × Obj)} (stored:List Str) (P:Nat→List (Addr × Obj)→τ→Prop) (t₀:τ) (hh:HandIn A.handled kh) (hkp:∀ i c t, P i c t→∀ p ∈ kh, p ∈ c) (hl:(l, ({ cls:=.type "tuple", data:=.seq vs.toArray nn }:Obj)) ∈ led) (F:Fr h₀ env.locals s.heap m₀) (N:News h₀ env.locals s.heap led) (hp:P 0 led t₀)
    (turn:∀ i v (c:List (Addr × Obj)) (t:τ) (u:Str→Option Value) h tk I oI, vs[i]? = some v→P i c t→(l, ({ cls:=.type "tuple", data:=.seq vs.toArray nn }:Obj)) ∈ c→(∀ q ∈ c, q.1 ≠ I)→Fr h₀ env.locals h (fun y=>if y = x then some v else if stored.contains y then u y else m₀ y)→News h₀ env.locals h ((I, oI) :: c) →
      wpAny (model prog w) A (execs body env) (TsPost h₀ env.locals l ({ cls:=.type "tuple", data:=.seq vs.toArray nn }:Obj) x stored m₀ (P (i + 1)) I oI { s with heap:=h, toks:=tk } Q) E { s with heap:=h, toks:=tk })
    (done:∀ c (t:τ) (u:Str→Option Value) h tk, P vs.length c t→(l, ({ cls:=.type "tuple", data:=.seq vs.toArray nn }:Obj)) ∈ c→Fr h₀ env.locals h (fun y=>if y = x then u y else if stored.contains y then u y else m₀ y)→News h₀ env.locals h c→Q .next { s with heap:=h, toks:=tk }) :
    wpAny (model prog w) A (pyIter (.ref l)) (fun it s₂=>LoopAtV prog w A h₀ env x body Q E it s₂) E s :=
  kg_tupleH (kh:=kh) (σ:={ c:List (Addr × Obj) × τ // (l, ({ cls:=.type "tuple", data:=.seq vs.toArray nn }:Obj)) ∈ c.1 ∧ ∀ p ∈ kh, p ∈ c.1 }) (vs:=vs) (nn:=nn) (fun c=>c.1.1) (fun _=>[]) stored (fun i c=>P i c.1.1 c.1.2) ⟨(led, t₀), hl, hkp _ _ _ hp⟩ hh (fun c=>c.2.2) (fun c=>c.2.1) F N (List.forall_mem_nil _) hp (fun c i v' u h tk I oI hv hp ho F' N'=>by
    refine wpAny_mono (turn i v' c.1.1 c.1.2 u h tk I oI hv hp c.2.1 ho F' N') (fun f s₂ q=>?_) fun _ _ e=>e
    cases f with
    | ret v=>exact q
    | brk=>exact q
    | next=>exact ts_kg (hkp _) q
    | cont=>exact ts_kg (hkp _) q) fun c u h tk hp F' N'=>by
    refine done c.1.1 c.1.2 (fun y=>if y = x then u y else u y) h tk hp c.2.1 ?_ N'
    have e:(fun y=>if y = x then u y else kstB (fun z=>if stored.contains z then u z else m₀ z) [] y) = fun y=>if y = x then (if y = x then u y else u y) else if stored.contains y then (if y = x then u y else u y) else m₀ y:=by
      funext y
      by_cases h1:y = x <;> by_cases h2:stored.contains y = true <;> simp [h1, kstB]
    exact e ▸ F'
theorem kg_listS {τ:Type} {l:Addr} {vs:List Value} {nn:Nat} {m₀:Str→Option Value} {led:List (Addr × Obj)} {kh:List (Addr × Obj)} (stored:List Str) (P:Nat→List (Addr × Obj)→τ→Prop) (t₀:τ) (hh:HandIn A.handled kh) (hkp:∀ i c t, P i c t→∀ p ∈ kh, p ∈ c) (hl:(l, (W.listOf vs.toArray nn)) ∈ led) (F:Fr h₀ env.locals s.heap m₀) (N:News h₀ env.locals s.heap led) (hp:P 0 led t₀)
    (turn:∀ i v (c:List (Addr × Obj)) (t:τ) (u:Str→Option Value) h tk I oI, vs[i]? = some v→P i c t→(l, (W.listOf vs.toArray nn)) ∈ c→(∀ q ∈ c, q.1 ≠ I)→Fr h₀ env.locals h (fun y=>if y = x then some v else if stored.contains y then u y else m₀ y)→News h₀ env.locals h ((I, oI) :: c) →
      wpAny (model prog w) A (execs body env) (TsPost h₀ env.locals l (W.listOf vs.toArray nn) x stored m₀ (P (i + 1)) I oI { s with heap:=h, toks:=tk } Q) E { s with heap:=h, toks:=tk })
    (done:∀ c (t:τ) (u:Str→Option Value) h tk, P vs.length c t→(l, (W.listOf vs.toArray nn)) ∈ c→Fr h₀ env.locals h (fun y=>if y = x then u y else if stored.contains y then u y else m₀ y)→News h₀ env.locals h c→Q .next { s with heap:=h, toks:=tk }) :
    wpAny (model prog w) A (pyIter (.ref l)) (fun it s₂=>LoopAtV prog w A h₀ env x body Q E it s₂) E s :=
  kg_listH (kh:=kh) (σ:={ c:List (Addr × Obj) × τ // (l, (W.listOf vs.toArray nn)) ∈ c.1 ∧ ∀ p ∈ kh, p ∈ c.1 }) (vs:=vs) (nn:=nn) (fun c=>c.1.1) (fun _=>[]) stored (fun i c=>P i c.1.1 c.1.2) ⟨(led, t₀), hl, hkp _ _ _ hp⟩ hh (fun c=>c.2.2) (fun c=>c.2.1) F N (List.forall_mem_nil _) hp (fun c i v' u h tk I oI hv hp ho F' N'=>by
    refine wpAny_mono (turn i v' c.1.1 c.1.2 u h tk I oI hv hp c.2.1 ho F' N') (fun f s₂ q=>?_) fun _ _ e=>e
    cases f with
    | ret v=>exact q
    | brk=>exact q
    | next=>exact ts_kg (hkp _) q
    | cont=>exact ts_kg (hkp _) q) fun c u h tk hp F' N'=>by
    refine done c.1.1 c.1.2 (fun y=>if y = x then u y else u y) h tk hp c.2.1 ?_ N'
    have e:(fun y=>if y = x then u y else kstB (fun z=>if stored.contains z then u z else m₀ z) [] y) = fun y=>if y = x then (if y = x then u y else u y) else if stored.contains y then (if y = x then u y else u y) else m₀ y:=by
      funext y
      by_cases h1:y = x <;> by_cases h2:stored.contains y = true <;> simp [h1, kstB]
    exact e ▸ F'
end
end
section
open PySem PySem.W PyProof.Rows PySem.Challenge PySem.Spec
structure Nd where
  k:Int
  np:Int
  tk:Tok
  tp:Tok
  x:Addr
  d:Addr
  l:Addr
  vs:List Value
  c:Nat
noncomputable abbrev nObj (n:Nd):Obj:=nodeO n.d (.int n.k n.tk) (.int n.np n.tp) (.ref n.l)
noncomputable def NdIn (led:List (Addr × Obj)) (n:Nd):Prop:=(n.x, nObj n) ∈ led ∧ (n.d, dictOf [] 0) ∈ led ∧ (n.l, listOf n.vs.toArray n.c) ∈ led
noncomputable def npN (k:Int) (np:Int) (tp:Tok) (ns:List Nd):List Nd:=ns.map fun n=>if n.k = k then { n with np:=np, tp:=tp } else n
theorem ndx_inj {h₀ h:Heap} {L:Addr} {led:List (Addr × Obj)} (N:News h₀ L h led) {n m:Nd} (hn:NdIn led n) (hm:NdIn led m) (e:n.x = m.x):n.k = m.k:=by
  have q:=News.one N (e ▸ hn.1:(m.x, nObj n) ∈ led) hm.1
  injection q with _ _ _ q4
  have q5:=congrArg Array.toList q4
  injection q5 with q6 _
  injection q6 with q7
  injection q7 with q8 _
theorem npN_in {h₀ h:Heap} {L:Addr} {led:List (Addr × Obj)} {ns:List Nd} {m:Nd} {np:Int} {tp:Tok} (N:News h₀ L h led) (hi:∀ n ∈ ns, NdIn led n) (hu:∀ n ∈ ns, ∀ n' ∈ ns, n.k = n'.k→n = n') (hm:m ∈ ns) :
    ∀ n ∈ npN m.k np tp ns, NdIn (upL m.x (nObj { m with np:=np, tp:=tp }) led) n:=by
  intro n hn
  (refine eE1 (fun n0=>?_) (List.mem_map.mp hn); refine eA2 fun h0 hR2=>?_; subst hR2)
  have a:=hi _ h0
  have b:=hi _ hm
  have d1:n0.d ≠ m.x:=news_ne N a.2.1 b.1 (fun e=>by cases e)
  have d2:n0.l ≠ m.x:=news_ne N a.2.2 b.1 (fun e=>by cases e)
  by_cases e:n0.k = m.k
  · have:=hu _ h0 _ hm e
    subst this
    rw [if_pos rfl]
    exact ⟨mem_upL_self b.1, mem_upL_ne a.2.1 d1, mem_upL_ne a.2.2 d2⟩
  · rw [if_neg e]
    exact ⟨mem_upL_ne a.1 fun q=>e (ndx_inj N a b q), mem_upL_ne a.2.1 d1, mem_upL_ne a.2.2 d2⟩
theorem npN_x {k np:Int} {tp:Tok} {ns:List Nd}:(npN k np tp ns).map (·.x) = ns.map (·.x):=by
  unfold npN
  rw [List.map_map]
  refine List.map_congr_left fun n _=>?_
  show (if n.k = k then _ else n:Nd).x = n.x
  by_cases e:n.k = k
  · rw [if_pos e]
  · rw [if_neg e]
theorem npN_k {k np:Int} {tp:Tok} {ns:List Nd}:(npN k np tp ns).map (·.k) = ns.map (·.k):=by
  unfold npN
  rw [List.map_map]
  refine List.map_congr_left fun n _=>?_
  show (if n.k = k then _ else n:Nd).k = n.k
  by_cases e:n.k = k
  · rw [if_pos e]
  · rw [if_neg e]
noncomputable def KU (ns:List Nd):Prop:=(ns.map (·.k)).Nodup
theorem KU.inj {ns:List Nd} (h:KU ns):∀ n ∈ ns, ∀ n' ∈ ns, n.k = n'.k→n = n':=by
  induction ns with
  | nil=>exact fun _ hn=>nomatch hn
  | cons a r ih =>
    unfold KU at h
    rw [List.map_cons, List.nodup_cons] at h
    intro n hn n' hn' e
    cases hn with
    | head =>
      cases hn' with
      | head=>rfl
      | tail _ h2=>exact (h.1 (List.mem_map.mpr ⟨_, h2, e.symm⟩)).elim
    | tail _ h1 =>
      cases hn' with
      | head=>exact (h.1 (List.mem_map.mpr ⟨_, h1, e⟩)).elim
      | tail _ h2=>exact ih h.2 _ h1 _ h2 e
theorem KU.np {ns:List Nd} (h:KU ns) {k np:Int} {tp:Tok}:KU (npN k np tp ns):=by unfold KU; rw [npN_k]; exact h
noncomputable def outN (ks:List Int) (ns:List Nd):List Nd:=ks.foldl (fun ns k=>npN k (-1) 759 ns) ns
theorem outN_snoc {ks:List Int} {k:Int} {ns:List Nd}:outN (ks ++ [k]) ns = npN k (-1) 759 (outN ks ns):=by unfold outN; rw [List.foldl_append]; rfl
theorem outN_x {ks:List Int}:∀ {ns:List Nd}, (outN ks ns).map (·.x) = ns.map (·.x):=by
  induction ks with
  | nil=>intro ns; rfl
  | cons k r ih=>intro ns; exact (ih (ns:=npN k (-1) 759 ns)).trans npN_x
theorem outN_k {ks:List Int}:∀ {ns:List Nd}, (outN ks ns).map (·.k) = ns.map (·.k):=by
  induction ks with
  | nil=>intro ns; rfl
  | cons k r ih=>intro ns; exact (ih (ns:=npN k (-1) 759 ns)).trans npN_k
theorem KU.out {ks:List Int} {ns:List Nd} (h:KU ns):KU (outN ks ns):=by unfold KU; rw [outN_k]; exact h
noncomputable def Tab (kvs:List (Int × Value)) (ns:List Nd):Prop:=kvs = ns.map fun n=>(n.k, Value.ref n.x)
theorem tab_np {kvs:List (Int × Value)} {ns:List Nd} {k np:Int} {tp:Tok} (h:Tab kvs ns):Tab kvs (npN k np tp ns):=by
  unfold Tab at *
  rw [h]
  unfold npN
  rw [List.map_map]
  refine List.map_congr_left fun n _=>?_
  show _ = ((if n.k = k then _ else n:Nd).k, Value.ref (if n.k = k then _ else n:Nd).x)
  by_cases e:n.k = k
  · rw [if_pos e]
  · rw [if_neg e]
theorem tab_out {ks:List Int}:∀ {kvs:List (Int × Value)} {ns:List Nd}, Tab kvs ns→Tab kvs (outN ks ns):=by
  induction ks with
  | nil=>intro kvs ns h; exact h
  | cons k r ih=>intro kvs ns h; exact ih (tab_np h)
theorem tab_at {kvs:List (Int × Value)} {ns:List Nd} {n:Nd} (h:Tab kvs ns) (hu:KU ns) (hn:n ∈ ns):valueAt kvs n.k = some (.ref n.x):=by
  unfold Tab at h
  subst h
  induction ns with
  | nil=>cases hn
  | cons a r ih =>
    have hu':=hu
    unfold KU at hu'
    rw [List.map_cons, List.nodup_cons] at hu'
    unfold valueAt
    rw [List.map_cons, List.find?_cons]
    rcases List.mem_cons.mp hn with rfl | hn
    · simp
    · have:a.k ≠ n.k:=fun e=>hu'.1 (List.mem_map.mpr ⟨_, hn, e.symm⟩)
      rw [show decide (((a.k, Value.ref a.x):Int × Value).1 = n.k) = false from decide_eq_false this]
      exact ih hu'.2 hn
theorem tab_none {kvs:List (Int × Value)} {ns:List Nd} {k:Int} (h:Tab kvs ns) (hn:∀ n ∈ ns, n.k ≠ k):valueAt kvs k = none:=by
  unfold Tab at h
  subst h
  unfold valueAt
  rw [List.find?_eq_none.mpr]
  · rfl
  · intro p hp
    (refine eE1 (fun n=>?_) (List.mem_map.mp hp); refine eA2 fun h1 hR2=>?_; subst hR2)
    simpa using hn n h1
theorem npN_src {k np:Int} {tp:Tok} {ns:List Nd} {n:Nd} (h:n ∈ npN k np tp ns):∃ n0 ∈ ns, n0.x = n.x ∧ n0.d = n.d ∧ n0.l = n.l ∧ n0.k = n.k ∧ n0.vs = n.vs:=by
  (refine eE1 (fun n0=>?_) (List.mem_map.mp h); refine eA2 fun h0 hR2=>?_; subst hR2)
  refine ⟨n0, h0, ?_⟩
  by_cases e:n0.k = k
  · rw [if_pos e]; exact ⟨rfl, rfl, rfl, rfl, rfl⟩
  · rw [if_neg e]; exact ⟨rfl, rfl, rfl, rfl, rfl⟩
theorem outN_src {ks:List Int}:∀ {ns:List Nd} {n:Nd}, n ∈ outN ks ns→∃ n0 ∈ ns, n0.x = n.x ∧ n0.d = n.d ∧ n0.l = n.l ∧ n0.k = n.k ∧ n0.vs = n.vs:=by
  induction ks with
  | nil=>exact fun h=>⟨_, h, rfl, rfl, rfl, rfl, rfl⟩
  | cons k r ih =>
    intro ns n h
    (refine eE1 (fun n1=>?_) (ih (ns:=npN k (-1) 759 ns) h); refine eA6 fun h1 a b c d e=>?_)
    (refine eE1 (fun n0=>?_) (npN_src h1); refine eA6 fun h0 a' b' c' d' e'=>?_)
    exact ⟨n0, h0, a'.trans a, b'.trans b, c'.trans c, d'.trans d, e'.trans e⟩
theorem ndIn_up {led:List (Addr × Obj)} {n:Nd} {a:Addr} {o:Obj} (h:NdIn led n) (h1:n.x ≠ a) (h2:n.d ≠ a) (h3:n.l ≠ a):NdIn (upL a o led) n:=⟨mem_upL_ne h.1 h1, mem_upL_ne h.2.1 h2, mem_upL_ne h.2.2 h3⟩
theorem news_neo {h₀ h:Heap} {L:Addr} {news:List (Addr × Obj)} (N:News h₀ L h news) {p q:Addr × Obj} (hp:p ∈ news) (hq:q ∈ news) (hc:p.2 ≠ q.2):p.1 ≠ q.1:=fun e=>hc (by
  have a:=(N _ hp).1
  rw [e, (N _ hq).1] at a
  exact (Option.some.inj a).symm)
theorem exc_nx {h₀ h:Heap} {L:Addr} {news:List (Addr × Obj)} {ns:List Nd} {p:Addr × Obj} (N:News h₀ L h news) (hns:∀ n ∈ ns, NdIn news n) (hp:p ∈ news) (he:ExcO p.2):p.1 ∉ ns.map (·.x):=fun hm=>by
  (refine eE1 (fun n=>?_) (List.mem_map.mp hm); refine eA2 fun hn e=>?_)
  have q:=News.one N (e ▸ (hns n hn).1:(p.1, nObj n) ∈ news) hp
  (revert he; refine eE1 fun vs=>?_; refine eA2 fun hd _=>?_)
  rw [← q] at hd
  cases hd
theorem exc_ne {h₀ h:Heap} {L a:Addr} {o:Obj} {news:List (Addr × Obj)} {p:Addr × Obj} (N:News h₀ L h news) (ha:(a, o) ∈ news) (hp:p ∈ news) (he:ExcO p.2) (ho:∀ vs, o.data ≠ .fields vs):p.1 ≠ a:=fun e=>by
  have q:=News.one N ha (e ▸ hp:(a, p.2) ∈ news)
  (revert he; refine eE1 fun vs=>?_; refine eA2 fun hd _=>?_)
  rw [← q] at hd
  exact ho vs hd
theorem tsd_not {prog:Program} {w:World} {o:Obj} {kvs:List (Int × Value)} {x:Str} {t:Tok} {hs:Int} {v:Value} {es:List DictEntry} {n:Nat} (h:o.IsDictOf (intKind prog w) kvs) (e:o = dictOf (⟨hs, .str x t, v⟩ :: es) n):False:=by
  (revert h; refine eE2 fun es' ep=>?_; refine eA4 fun _ hd hk _=>?_)
  rw [e] at hd
  injection hd with q1 q2
  subst q1
  (refine eE1 (fun k=>?_) (hk ⟨hs, .str x t, v⟩ (by simp)); refine eA2 fun hk _=>?_)
  simp [intKind, Value.isInt] at hk
theorem fr_as {h₀ h:Heap} {L:Addr} {m:Str→Option Value} (F:Fr h₀ L h m) (m':Str→Option Value) (e:m = m'):Fr h₀ L h m':=e ▸ F
end
section
open PySem PySem.W PyProof.Rows PySem.Challenge PySem.Spec
noncomputable abbrev dumpFor:Stmt:=(bodyOf (sub 7 3)).getD 1 (.Pass ⟨0, 0, 0, 0⟩)
noncomputable def iterOf (s:Stmt):PySem.Expr:=(stPart s).2.1
theorem dump_range {w:World} {dp un:Nat} {fr:Option (List Env)} {gd:Option (List Code)} {h₀ hp:Heap} {L:Addr} {news:List (Addr × Obj)} {gs:Array GenState} {dr:Drawn} {tk:Nat} {os:OsState} {mean:ExcName→Option Value} {mg mb:Str→Option Value} {x l:Addr} {tag:Str} {lo hi:Int} {tt tl th:Tok} {Q E:Value→Shared→Prop}
    (F:Fr h₀ L hp (fun y=>List.lookup y [(Str.ofString "hi", .int hi th), (Str.ofString "lo", .int lo tl), (Str.ofString "x", .ref l), (Str.ofString "tag", .str tag tt), (Str.ofString "self", .ref x)])) (N:News h₀ L hp news) (T:Top q2 (looseW q2 loose2) mean mg mb h₀) (h0:0 ≤ lo) (h1:lo ≤ hi) (h2:hi ≤ 100)
    (ret:∀ r h' tk' t u v, IsRange h' r lo hi 1 t u v→Fr h₀ L h' (fun y=>List.lookup y [(Str.ofString "hi", .int hi th), (Str.ofString "lo", .int lo tl), (Str.ofString "x", .ref l), (Str.ofString "tag", .str tag tt), (Str.ofString "self", .ref x)])→News h₀ L h' news→Q (.ref r) ⟨h', gs, dr, tk', os⟩) :
    (K2 w.params).In h₀→wpAny (model rw_mu0013_01.row.prog w) ⟨none, dp, fr, gd, un⟩ (eval (iterOf dumpFor) (envOf (Str.ofString "Differ._dump") (scopeOf (sub 7 3)) L 282 (.ref 281))) Q E ⟨hp, gs, dr, tk, os⟩:=by
  w_on
  k_fill
  intro X
  have hb:=Eq.refl (iterOf dumpFor)
  conv at hb=>rhs; whnf
  rw [hb]
  clear hb
  w_strict (
    k_steps
    exact ret _ _ _ _ _ _ (by assumption) (by assumption) (by assumption))
noncomputable def itemOf (s:Stmt):PySem.Expr:=yldOf s
theorem len_app (a b:Str):(a ++ b).length = a.length + b.length:=by
  show (a.cps ++ b.cps).size = _
  rw [Array.size_append]; rfl
theorem len_0:(Str.empty).length = 0:=by decide +kernel
theorem len_sp:(Str.ofString " ").length = 1:=by decide +kernel
theorem gm1 {a:Str} (h:a.length ≤ 1000):(Str.empty ++ a).length ≤ sizeLine:=by rw [len_app, len_0, sizeLine_eq]; lia
theorem gm2 {a:Str} (h:a.length ≤ 1000):(Str.empty ++ a ++ Str.ofString " ").length ≤ sizeLine:=by rw [len_app, len_app, len_0, len_sp, sizeLine_eq]; lia
theorem gm3 {a b:Str} (h:a.length ≤ 1000) (h':b.length ≤ 1000):(Str.empty ++ a ++ Str.ofString " " ++ b).length ≤ sizeLine:=by rw [len_app, len_app, len_app, len_0, len_sp, sizeLine_eq]; lia
local macro_rules | `(tactic| walk_at $s)=>Tab.rules s "subscriptTail Name Name ref int||item_litK|Lsls?U|W
And|and|gm1|s
And|and|gm2|s
And|and|gm3|ss"
theorem dump_item {w:World} {dp un:Nat} {fr:Option (List Env)} {gd:Option (List Code)} {h₀ hp:Heap} {L:Addr} {news:List (Addr × Obj)} {gs:Array GenState} {dr:Drawn} {tk:Nat} {os:OsState} {mean:ExcName→Option Value} {mg mb:Str→Option Value} {x l:Addr} {tag:Str} {lo hi i:Int} {tt tl th ti:Tok} {vs:List Value} {z:Str} {tz:Tok} {c:Nat} {Q E:Value→Shared→Prop}
    (F:Fr h₀ L hp (fun y=>if y = Str.ofString "i" then some (.int i ti) else List.lookup y [(Str.ofString "hi", .int hi th), (Str.ofString "lo", .int lo tl), (Str.ofString "x", .ref l), (Str.ofString "tag", .str tag tt), (Str.ofString "self", .ref x)])) (N:News h₀ L hp news) (T:Top q2 (looseW q2 loose2) mean mg mb h₀) (hl:(l, listOf vs.toArray c) ∈ news) (h0:0 ≤ i) (h1:i < 1000) (hx:vs[i.toNat]? = some (.str z tz)) (htl:tag.length ≤ 1000) (hzl:z.length ≤ 1000)
    (ret:∀ t tk', Q (.str (Str.empty ++ tag ++ Str.ofString " " ++ z) t) ⟨hp, gs, dr, tk', os⟩) :
    (K2 w.params).In h₀→wpAny (model rw_mu0013_01.row.prog w) ⟨none, dp, fr, gd, un⟩ (eval (itemOf dumpFor) (envOf (Str.ofString "Differ._dump") (scopeOf (sub 7 3)) L 282 (.ref 281))) Q E ⟨hp, gs, dr, tk, os⟩:=by
  w_on
  k_fill
  intro X
  have hb:=Eq.refl (itemOf dumpFor)
  conv at hb=>rhs; whnf
  rw [hb]
  clear hb
  w_strict (
    k_steps
    exact ret _ _)
end
end
end Mine.Internal
end
section
open PySem PySem.W PyProof.Rows PySem.Challenge PySem.Spec PySem.Calls Builtin
namespace Mine.Internal
structure GenW (prog:Program) (w:World) (A:Around) (I S:Addr) (n:Nat) (P:Nat→Value→Prop) (St:Nat→Obj→Shared→Prop) (Fin:Obj→Shared→Prop):Prop where
  ne:S ≠ I
  atS:∀ i o s, St i o s→s.heap.get? S = some o
  atF:∀ o s, Fin o s→s.heap.get? S = some o
  typ:∀ i o s, St i o s→s.TypeIs (.ref I) "generator"
  set:∀ i o o' s h', St i o s→Heap.SameBut S s.heap h'→h'.get? S = some o'→St i o' { s with heap:=h' }
  item:∀ i o s (Q:Option Value→Shared→Prop) (E:Value→Shared→Prop), i < n→St i o s→(∀ v s', P i v→St (i + 1) o s'→Q (some v) s')→wpAny (model prog w) A (pyNext (.ref I)) Q E s
  done:∀ o s (Q:Option Value→Shared→Prop) (E:Value→Shared→Prop), St n o s→(∀ s', Fin o s'→Q none s')→wpAny (model prog w) A (pyNext (.ref I)) Q E s
  self:∀ i o s (Q:Value→Shared→Prop) (E:Value→Shared→Prop), St i o s→Q (.ref I) s→wpAny (model prog w) A (pyIter (.ref I)) Q E s
section
variable {prog:Program} {w:World} {A:Around} {I S:Addr} {n:Nat} {P:Nat→Value→Prop} {St:Nat→Obj→Shared→Prop} {Fin:Obj→Shared→Prop} {R:Result→Shared→Prop}
theorem ext_loopG (W:GenW prog w A.in1 I S n P St Fin) (hn:n ≤ 100000)
    (hR:∀ s acc c, Fin (listOf acc c) s→ItemsOf P acc n→R (.ok (.ret .none)) s) :
    ∀ (k i:Nat) (s:Shared) (acc:Array Value) (c:Nat), i + k = n→St i (listOf acc c) s→ItemsOf P acc i →
      codeAny (model prog w) A (.builtin "list.extend.loop" ⟨[.ref S, .ref I, .none], []⟩) R s:=by
  intro k
  induction k with
  | zero =>
    intro i s acc c hk hst hacc
    have hin:i = n:=hk
    subst hin
    refine codeAny_builtin _root_.PySem.F.entry_extend_loop ?_
    rw [Around.under_plainId _root_.PySem.F.plain_extend_loop _]
    show wpAny _ A.in1 (pyNext (.ref I) >>= _) _ _ s
    exact wpAny_bind (W.done _ s _ _ hst fun s' hf=>wpAny_pure (hR s' acc c hf hacc))
  | succ k ih =>
    intro i s acc c hk hst hacc
    have hlt:i < n:=by lia
    refine codeAny_builtin _root_.PySem.F.entry_extend_loop ?_
    rw [Around.under_plainId _root_.PySem.F.plain_extend_loop _]
    show wpAny _ A.in1 (pyNext (.ref I) >>= _) _ _ s
    refine wpAny_bind (W.item i _ s _ _ hlt hst fun v s' hP hst'=>?_)
    have hS':=W.atS _ _ _ hst'
    have hz:acc.size ≤ 100000:=by rw [hacc.1]; lia
    show wpAny _ A.in1 (updateSeq S (·.push v) >>= _) _ _ _
    refine wpAny_bind (wpAny_updateSeq hS' rfl (wpAny_pure ⟨plainId_quiet _root_.PySem.F.plain_extend_loop _, ?_⟩) (Nat.le_trans hz (by decide)) (by rw [Array.size_push]; exact Nat.le_trans (Nat.succ_le_succ hz) (by decide)))
    exact ih (i + 1) _ (acc.push v) _ (by lia) (W.set _ _ _ s' _ hst' (Heap.SameBut.update ..) (Heap.get?_update_self _ hS' rfl)) (hacc.push hP)
theorem list_initG (W:GenW prog w A.in1 I S n P St Fin) (hn:n ≤ 100000) {s:Shared} (hst:St 0 (listOf #[] 0) s)
    (hR:∀ s acc c, Fin (listOf acc c) s→ItemsOf P acc n→R (.ok (.ret .none)) s) :
    wpAny (model prog w) A.in1 (Builtin.«list.__init__» ⟨[.ref S, .ref I], []⟩)
      (fun fin s'=>match fin with | .done f=>R (.ok f) s' | .again c'=>c'.quiet = true ∧ codeAny (model prog w) A c' R s') (fun e s'=>R (.error e) s') s:=by
  have hS:=W.atS _ _ _ hst
  show wpAny _ A.in1 (do let old ← Builtin.List.listItems (.ref S); Builtin.List.listUpdate (.ref S) (fun _=>#[]); letGo old.toList.reverse; Builtin.List.listExtendWith (.ref S) (.ref I) .none) _ _ s
  refine wpAny_bind ?_
  unfold Builtin.List.listItems
  refine wpAny_bind (wpAny_seqItems hS rfl (wpAny_pure ?_))
  show wpAny _ A.in1 (updateSeq S (fun _=>#[]) >>= fun _=>letGo (#[]:Array Value).toList.reverse >>= fun _=>Builtin.List.listExtendWith (.ref S) (.ref I) .none) _ _ s
  refine wpAny_bind (wpAny_updateSeq hS rfl ?_ (Nat.zero_le _) (Nat.zero_le _))
  refine wpAny_bind (wpAny_letGo ?_)
  have h1:=W.set _ _ _ s _ hst (Heap.SameBut.update s.heap S (Obj.mapSeq (fun _=>(#[]:Array Value)))) (Heap.get?_update_self _ hS rfl)
  generalize s.heap.update S (Obj.mapSeq (fun _=>(#[]:Array Value))) = hp1 at h1 ⊢
  unfold Builtin.List.listExtendWith
  refine wpAny_bind (wpAny_typeOf (W.typ _ _ _ h1) ?_)
  have q1:Builtin.List.listSameRef (.ref S) (.ref I) = false:=by simp [Builtin.List.listSameRef, W.ne]
  have q2:(Value.type "generator" == Value.type "list") = false:=by decide
  have q3:(Value.type "generator" == Value.type "tuple") = false:=by decide
  simp only [q1, q2, q3, Bool.or_false, Bool.false_eq_true, if_false]
  refine wpAny_bind (W.self 0 _ _ _ _ h1 ?_)
  refine wpAny_bind (wpAny_holding ?_)
  unfold Builtin.List.listLengthHint
  refine wpAny_bind (wpAny_specialOf (W.typ _ _ _ h1) _root_.PySem.F.gen_no_len ?_)
  show wpAny _ A.in1 (specialOf (Value.ref I) (Str.ofString "__length_hint__") >>= _) _ _ _
  refine wpAny_bind (wpAny_specialOf (W.typ _ _ _ h1) _root_.PySem.F.gen_no_hint ?_)
  refine wpAny_pure ?_
  show wpAny _ A.in1 (rule "list.extend.makes-room" >>= fun _=>Builtin.List.listTouch (.ref S) >>= fun _=>again (.builtin "list.extend.loop" ⟨[.ref S, .ref I, .none], []⟩)) _ _ _
  refine wpAny_bind (wpAny_rule ?_)
  refine wpAny_bind ?_
  show wpAny _ A.in1 (updateSeq S (·.push .none) >>= fun _=>updateSeq S (·.pop)) _ _ _
  have hS1:=W.atS _ _ _ h1
  refine wpAny_bind (wpAny_updateSeq hS1 rfl ?_)
  have hS2:=Heap.get?_update_self (Obj.mapSeq (·.push Value.none)) hS1 rfl
  have h2:=W.set _ _ _ _ _ h1 (Heap.SameBut.update _ S (Obj.mapSeq (·.push Value.none))) hS2
  refine wpAny_updateSeq (hz:=by seq_fits) hS2 rfl ?_
  have hS3:=Heap.get?_update_self (Obj.mapSeq (·.pop)) hS2 rfl
  have h3:=W.set _ _ _ _ _ h2 (Heap.SameBut.update _ S (Obj.mapSeq (·.pop))) hS3
  exact wpAny_pure ⟨plainId_quiet _root_.PySem.F.plain_extend_loop _, ext_loopG W hn hR n 0 _ _ _ (Nat.zero_add n) h3 (ItemsOf.nil P)⟩
end
section
variable {prog:Program} {w:World} {A:Around} {h₀:Heap} {L S G:Addr} {m:Str→Option Value} {g N:Nat} {nm qn:Value} {base:List (Addr × Obj)} {P:Nat→List (Addr × Obj)→Prop} {item:Nat→Value→Prop} {dr:Drawn} {os:OsState}
noncomputable def Good (h₀:Heap) (L S:Addr) (m:Str→Option Value) (base:List (Addr × Obj)) (P:Nat→List (Addr × Obj)→Prop) (own:List (Addr × Obj)) (i:Nat) (o:Obj) (h:Heap):Prop :=
  P i own ∧ Fr h₀ L h m ∧ News h₀ L h ((S, o) :: (own ++ base)) ∧ ∀ p ∈ own ++ base, p.1 ≠ S
noncomputable def FinH (h₀:Heap) (L S:Addr) (m:Str→Option Value) (base:List (Addr × Obj)) (o:Obj) (h:Heap):Prop:=Fr h₀ L h m ∧ News h₀ L h ((S, o) :: base)
noncomputable def GY (h₀:Heap) (L S:Addr) (m:Str→Option Value) (base:List (Addr × Obj)) (P:Nat→List (Addr × Obj)→Prop) (N:Nat) (item:Nat→Value→Prop):Protocol:=fun k s₀ v s kap =>
  ∃ j own, j + k + 1 = N ∧ item j v ∧ (∃ h tk, s = { s₀ with heap:=h, toks:=tk }) ∧ (∀ o, s₀.heap.get? S = some o→Good h₀ L S m base P own (j + 1) o s.heap) ∧ ∀ o' s'', Good h₀ L S m base P own (j + 1) o' s''.heap→kap (.send .none) s''
noncomputable def GP (h₀:Heap) (L S:Addr) (m:Str→Option Value) (base:List (Addr × Obj)) (n:Nat) (s₀ s₁:Shared):Prop:=n = 0 ∧ (∃ h tk, s₁ = { s₀ with heap:=h, toks:=tk }) ∧ ∀ o, s₀.heap.get? S = some o→FinH h₀ L S m base o s₁.heap
noncomputable def GR (h₀:Heap) (L S:Addr) (m:Str→Option Value) (base:List (Addr × Obj)):GenEnd:=fun n s₀ r s₁=>r = .ok (.ret .none) ∧ GP h₀ L S m base n s₀ s₁
noncomputable def Al (g:Nat) (a:Array GenState):Prop:=∀ j x, j ≠ g→a[j]? = some x→x.bare = true
theorem Al.of {g:Nat} {a:Array GenState} (h:AllBare a):Al g a:=fun j x _ e=>h x (Array.mem_of_getElem? e)
theorem Al.set {g:Nat} {a:Array GenState} {y:GenState} (h:Al g a):Al g (a.setIfInBounds g y):=fun j x hj e=>h j x hj (by rw [Array.getElem?_setIfInBounds_ne (Ne.symm hj)] at e; exact e)
theorem Al.fin {g:Nat} {a:Array GenState} {y:GenState} (h:Al g a) (hy:y.bare = true):AllBare (a.setIfInBounds g y):=fun x hx=>by
  refine eE1 (fun j hj=>?_) (Array.mem_iff_getElem?.mp hx)
  by_cases e:j = g
  · subst e
    rw [Array.getElem?_setIfInBounds_self] at hj
    split at hj
    · rw [← Option.some.inj hj]; exact hy
    · cases hj
  · rw [Array.getElem?_setIfInBounds_ne (Ne.symm e)] at hj
    exact h j x e hj
noncomputable def GSt (prog:Program) (w:World) (A:Around) (h₀:Heap) (L S:Addr) (m:Str→Option Value) (g:Nat) (base:List (Addr × Obj)) (P:Nat→List (Addr × Obj)→Prop) (N:Nat) (item:Nat→Value→Prop) (dr:Drawn) (os:OsState) (i:Nat) (o:Obj) (s:Shared):Prop :=
  ∃ gs own, s.gens[g]? = some gs ∧ Good h₀ L S m base P own i o s.heap ∧ s.drawn = dr ∧ s.os = os ∧ Al g s.gens ∧ ∀ o' s'', Good h₀ L S m base P own i o' s''.heap→gs.Goes (model prog w) A.in1 (GR h₀ L S m base) (GY h₀ L S m base P N item) (N - i) (.send .none) s''
theorem news_swapS {h h':Heap} {o o':Obj} {rest:List (Addr × Obj)} (N:News h₀ L h ((S, o) :: rest)) (hs:Heap.SameBut S h h') (hS:h'.get? S = some o') (hne:∀ p ∈ rest, p.1 ≠ S):News h₀ L h' ((S, o') :: rest) :=
  news_set (pre:=[]) (post:=rest) N (List.forall_mem_nil _) hne hs hS
theorem GenW.of (hh:A.handled = none) (hroom:A.depth < recursionLimit) (nl:h₀.NoLimit) (hG:(G, genO g nm qn) ∈ base) (hGS:S ≠ G) :
    GenW prog w A G S N item (GSt prog w A h₀ L S m g base P N item dr os) (fun o s=>FinH h₀ L S m base o s.heap ∧ s.drawn = dr ∧ s.os = os ∧ AllBare s.gens) where
  ne:=hGS
  atS:=fun i o s ⟨_, _, _, hg, _⟩=>(hg.2.2.1 _ (.head _)).1
  atF:=fun o s hf=>(hf.1.2 _ (.head _)).1
  typ:=fun i o s ⟨_, _, _, hg, _⟩=>⟨_, (hg.2.2.1 _ (.tail _ (List.mem_append_right _ hG))).1, rfl⟩
  set:=fun i o o' s h' ⟨gs, own, e, hg, e1, e2, al, hgo⟩ hs hS=>⟨gs, own, e, ⟨hg.1, hg.2.1.change hs (hg.2.2.1 _ (.head _)).2.1 (hg.2.2.1 _ (.head _)).2.2, news_swapS hg.2.2.1 hs hS hg.2.2.2, hg.2.2.2⟩, e1, e2, al, hgo⟩
  item:=fun i o s Q E hi ⟨gs, own, e, hg, e1, e2, al, hgo⟩ hQ=>by
    obtain ⟨k, hk⟩:∃ k, N - i = k + 1:=⟨N - i - 1, by lia⟩
    rw [hk] at hgo
    refine wpAny_pyNext_gen (P:=GP h₀ L S m base) (Y:=GY h₀ L S m base P N item) (n:=k + 1) hh (nl.keeps hg.2.1.keep) hroom (iE3 _ _ _ ⟨(hg.2.2.1 _ (.tail _ (List.mem_append_right _ hG))).1, rfl, rfl, rfl⟩) e (hgo o _ hg) (fun v s₁ gs' hv=>?_) (fun s₁ hp=>absurd hp.1 (Nat.succ_ne_zero k))
    (revert hv; refine eE2 fun j own'=>?_; refine eA5 fun hj hit hP4 hG1 hkap=>?_; obtain ⟨h1, tk1, rfl⟩:=hP4)
    obtain rfl:j = i:=by lia
    refine hQ v _ hit (iE2 gs' own' ⟨setGen_self (gs:=.running) (setGen_self e), hG1 o (hg.2.2.1 _ (.head _)).1, e1, e2, Al.set (Al.set al), ?_⟩)
    rw [show N - (j + 1) = k by lia]
    exact hkap
  done:=fun o s Q E ⟨gs, own, e, hg, e1, e2, al, hgo⟩ hQ=>by
    rw [Nat.sub_self] at hgo
    refine wpAny_pyNext_gen (P:=GP h₀ L S m base) (Y:=GY h₀ L S m base P N item) (n:=0) hh (nl.keeps hg.2.1.keep) hroom (iE3 _ _ _ ⟨(hg.2.2.1 _ (.tail _ (List.mem_append_right _ hG))).1, rfl, rfl, rfl⟩) e (hgo o _ hg) (fun v s₁ gs' hv=>?_) (fun s₁ hp h' hk=>?_)
    · (revert hv; refine eE2 fun j own'=>?_; refine eA5 fun hj _ hP4 hG1 hkap=>?_; obtain ⟨h1, tk1, rfl⟩:=hP4)
      exact (hkap o _ (hG1 o (hg.2.2.1 _ (.head _)).1)).elim
    · (revert hp; refine eA3 fun hC0 hP1 hf=>?_; clear hC0; obtain ⟨h1, tk1, rfl⟩:=hP1)
      have hf:=hf o (hg.2.2.1 _ (.head _)).1
      exact hQ _ ⟨⟨hf.1.keeps hk, hf.2.grown hk⟩, e1, e2, Al.fin (Al.set al) rfl⟩
  self:=fun i o s Q E ⟨_, _, _, hg, _⟩ hQ=>wpAny_pyIter_gen (g:=g) ⟨_, _, _, (hg.2.2.1 _ (.tail _ (List.mem_append_right _ hG))).1, rfl, rfl, rfl⟩ hQ
end
theorem list_gen {prog:Program} {w:World} {A:Around} {h₀ hp:Heap} {L G:Addr} {m:Str→Option Value} {g N:Nat} {nm qn:Value} {own led:List (Addr × Obj)} {P:Nat→List (Addr × Obj)→Prop} {item:Nat→Value→Prop} {dr:Drawn} {os:OsState} {tk:Nat} {gens:Array GenState} {gs:GenState} {Q E}
    (hh:A.handled = none) (hroom:A.depth < recursionLimit) (nl:h₀.NoLimit) (F:Fr h₀ L hp m) (Nw:News h₀ L hp (own ++ led)) (hG:(G, genO g nm qn) ∈ led) (hg:gens[g]? = some gs) (hbare:AllBare gens) (hP:P 0 own) (hN:N ≤ 100000)
    (go:∀ S, (∀ p ∈ own ++ led, p.1 < S)→∀ o s'', Good h₀ L S m led P own 0 o s''.heap→gs.Goes (model prog w) A.in1.in1.in1 (GR h₀ L S m led) (GY h₀ L S m led P N item) N (.send .none) s'')
    (hQ:∀ S acc c h' tk' gens', AllBare gens'→Fr h₀ L h' m→News h₀ L h' ((S, listOf acc c) :: led)→(∀ p ∈ own ++ led, p.1 < S)→ItemsOf item acc N→Q (.ref S) ⟨h', gens', dr, tk', os⟩) :
    wpAny (model prog w) A (call (.type "list") [.ref G]) Q E ⟨hp, gens, dr, tk, os⟩:=by
  refine callType_codes (Q₁:=fun obj s₁=>obj = .ref hp.objs.size ∧ s₁ = ⟨hp.push { cls:=.type "list", data:=.seq #[] }, gens, dr, tk, os⟩) _root_.PySem.F.called_list (_root_.PySem.F.typeCall_list_1 _) _root_.PySem.F.entry_list_init
    (code_list_new _ ⟨rfl, rfl⟩) fun obj s₁ h₁=>?_
  (revert h₁; refine eA2 fun hR0 hR1=>?_; subst hR0 hR1)
  have hS:(hp.push { cls:=.type "list", data:=.seq #[] }).get? hp.objs.size = some (listOf #[] 0):=Heap.get?_push_size _ rfl
  have hlt:∀ p ∈ own ++ led, p.1 < hp.objs.size:=fun p hp=>Heap.lt_size (Nw p hp).1
  refine ⟨⟨_, hS, rfl⟩, _root_.PySem.F.args_list_init_2 _ _, list_initG (A:=A.in1) (n:=N) (P:=item) (GenW.of (A:=A.in1.in1) (L:=L) (m:=m) (P:=P) (base:=led) (N:=N) (item:=item) (dr:=dr) (os:=os) hh hroom nl hG (Nat.ne_of_gt (hlt _ (List.mem_append_right _ hG)))) hN (iE2 gs own ⟨hg, ⟨hP, F.push _, Nw.push F _, fun p hp=>Nat.ne_of_lt (hlt p hp)⟩, rfl, rfl, Al.of hbare, fun o s'' hG=>by rw [Nat.sub_zero]; exact go _ hlt o s'' hG⟩) fun s acc c hf hi=>?_⟩
  obtain ⟨h', gens', dr', tk', os'⟩:=s
  (revert hf; refine eA4 fun hf e1 e2 hb'=>?_)
  dsimp only at e1 e2 hf
  subst e1 e2
  exact ⟨rfl, hQ _ acc c _ _ _ hb' hf.1 hf.2 hlt hi⟩
end Mine.Internal
end
section
open PySem PySem.W PyProof.Rows PySem.Challenge PySem.Spec PySem.Calls Builtin
namespace Mine.Internal
noncomputable abbrev rItO (x n:Int):Obj:={ cls:=.type "range_iterator", data:=.fields #[rawInt x, rawInt n, rawInt 1] }
noncomputable abbrev dumpM (x l:Addr) (tag:Str) (lo hi:Int) (tt tl th:Tok):Str→Option Value:=fun y=>List.lookup y [(Str.ofString "hi", .int hi th), (Str.ofString "lo", .int lo tl), (Str.ofString "x", .ref l), (Str.ofString "tag", .str tag tt), (Str.ofString "self", .ref x)]
noncomputable def DumpI (I L':Addr) (N:Nat) (lo:Int) (md:Str→Option Value) (j:Nat) (own:List (Addr × Obj)):Prop :=
  ∃ oL mm, own = [(I, rItO (lo + (j:Int)) ((N:Int) - (j:Int))), (L', oL)] ∧ NsO oL mm ∧ I ≠ L' ∧ ∀ y, y ≠ Str.ofString "i"→mm y = md y
noncomputable def DumpP (L':Addr) (oL:Obj) (N:Nat) (lo:Int) (md:Str→Option Value) (j:Nat) (own:List (Addr × Obj)):Prop :=
  (j = 0 ∧ own = [(L', oL)]) ∨ ∃ I, DumpI I L' N lo md j own
noncomputable def rowItem (tag:Str) (z:Nat→Str) (j:Nat) (v:Value):Prop:=∃ t, v = .str (Str.empty ++ tag ++ Str.ofString " " ++ z j) t
noncomputable abbrev dumpEnv (L':Addr):Env:=envOf (Str.ofString "Differ._dump") (scopeOf (sub 7 3)) L' 282 (.ref 281)
theorem over_none {A:Around} {c:Code} {fs:List PySem.Frame} (h:(A.over c fs).handled = none):A.over c fs = ⟨none, (A.over c fs).depth, (A.over c fs).frames, (A.over c fs).guards, (A.over c fs).units⟩:=by
  rw [← h]
theorem news_setAt {h₀ h h':Heap} {L a:Addr} {o o':Obj} {pre post:List (Addr × Obj)} (N:News h₀ L h (pre ++ (a, o) :: post)) (hs:Heap.SameBut a h h') (ha:h'.get? a = some o') (h1:∀ p ∈ pre, p.1 ≠ a) (h2:∀ p ∈ post, p.1 ≠ a):News h₀ L h' (pre ++ (a, o') :: post):=news_set N h1 h2 hs ha
section
variable {w:World} {A:Around} {h₀:Heap} {L S L' I x l:Addr} {m:Str→Option Value} {oL:Obj} {N c:Nat} {tag:Str} {lo hi:Int} {tt tl th:Tok} {vs:List Value} {z:Nat→Str} {base:List (Addr × Obj)} {mean:ExcName→Option Value} {mg mb:Str→Option Value} {fs:List PySem.Frame}
noncomputable def dumpBody:List Stmt:=(stPart dumpFor).2.2.1
noncomputable def dumpTgt:PySem.Expr:=(stPart dumpFor).1
theorem dump_loop (T:Top q2 (looseW q2 loose2) mean mg mb h₀) (X:(K2 w.params).In h₀) (hA:(A.over (.forLoop dumpTgt (.ref I) dumpBody [] (dumpEnv L')) fs).handled = none) (hfs:splitAtGen fs = none) (hfg:fs.any Frame.guarded = false)
    (hl:(l, listOf vs.toArray c) ∈ base) (h0:0 ≤ lo) (hi9:lo + (N:Int) ≤ 900) (hx:∀ j, j < N→∃ t, vs[(lo + (j:Int)).toNat]? = some (.str (z j) t)) (htl:tag.length ≤ 1000) (hzl:∀ j, j < N→(z j).length ≤ 1000)
    (hL':@LE.le Nat _ h₀.objs.size L') (hsep:∀ p ∈ base, p.1 ≠ L' ∧ p.1 ≠ I) (hbS:∀ p ∈ base, p.1 ≠ S) (hSL:S ≠ L') (hSI:S ≠ I)
    (hend:∀ s₀ s, GP h₀ L S m base 0 s₀ s→Seg (model rw_mu0013_01.row.prog w) A (GR h₀ L S m base) (GY h₀ L S m base (DumpP L' oL N lo (dumpM x l tag lo hi tt tl th)) N (rowItem tag z)) 0 s₀ (.block [] (dumpEnv L')) ((model rw_mu0013_01.row.prog w).den (.block [] (dumpEnv L'))) fs s) :
    ∀ (k j:Nat) own o s₀ s, j + k = N→DumpI I L' N lo (dumpM x l tag lo hi tt tl th) j own→Fr h₀ L s.heap m→News h₀ L s.heap ((S, o) :: (own ++ base))→(∃ h tk, s = { s₀ with heap:=h, toks:=tk })→s₀.heap.get? S = some o →
      Seg (model rw_mu0013_01.row.prog w) A (GR h₀ L S m base) (GY h₀ L S m base (DumpP L' oL N lo (dumpM x l tag lo hi tt tl th)) N (rowItem tag z)) k s₀ (.forLoop dumpTgt (.ref I) dumpBody [] (dumpEnv L')) ((model rw_mu0013_01.row.prog w).den (.forLoop dumpTgt (.ref I) dumpBody [] (dumpEnv L'))) fs s:=by
  intro k
  induction k with
  | zero =>
    (rintro j own o s₀ s hjk; (refine eE2 fun oL2 mm=>?_; refine eA4 fun hR2 hns hIL hmm=>?_; subst hR2); rintro F Nw; (refine eE2 fun hp tk hR2=>?_; subst hR2); rintro hS)
    obtain rfl:j = N:=hjk
    refine seg_forLoop (fun _=>rfl) ?_
    refine wpAny_pyNext_range_end hA (Nw _ (.tail _ (.head _))).1 (by lia) fun h' he=>?_
    have nI:=Nw _ (.tail _ (.head _))
    have ne9:∀ p ∈ base, p.1 ≠ I:=fun p hp=>(hsep p hp).2
    refine hend s₀ _ ⟨rfl, (iE2 h' tk rfl), fun o' ho'=>?_⟩
    obtain rfl:o = o':=Option.some.inj (hS.symm.trans ho')
    refine ⟨⟨F.ns.extBut he nI.2.1.symm, fun b x e=>he b x (fun q=>by rw [q] at e; rw [nI.2.2] at e; cases e) (F.keep b x e), F.above⟩, fun p hp=>?_⟩
    rcases List.mem_cons.mp hp with rfl | hp
    · exact ⟨he _ _ hSI (Nw _ (.head _)).1, (Nw _ (.head _)).2⟩
    · have q:=Nw p (.tail _ (.tail _ (.tail _ hp)))
      exact ⟨he _ _ (ne9 p hp) q.1, q.2⟩
  | succ k ih =>
    (rintro j own o s₀ s hjk; (refine eE2 fun oL2 mm=>?_; refine eA4 fun hR2 hns hIL hmm=>?_; subst hR2); rintro F Nw; (refine eE2 fun hp tk hR2=>?_; subst hR2); rintro hS)
    refine seg_forLoop (fun _=>rfl) ?_
    have nI:=Nw _ (.tail _ (.head _))
    refine wpAny_pyNext_range_item (nI).1 (by lia) fun h1 hit hs1=>?_
    dsimp only
    have hit:h1.get? I = some (rItO (lo + ((j + 1:Nat):Int)) ((N:Int) - ((j + 1:Nat):Int))):=by
      have e1:lo + ((j + 1:Nat):Int) = lo + (j:Int) + 1:=by lia
      have e2:(N:Int) - ((j + 1:Nat):Int) = (N:Int) - (j:Int) - 1:=by lia
      rw [e1, e2]; exact hit
    have F1:Fr h₀ L h1 m:=F.change hs1 nI.2.1 nI.2.2
    have N1:News h₀ L h1 ([(S, o)] ++ (I, rItO (lo + ((j + 1:Nat):Int)) ((N:Int) - ((j + 1:Nat):Int))) :: ((L', oL2) :: base)):=news_setAt Nw hs1 hit (fun p hp=>by rw [List.mem_singleton.mp hp]; exact hSI) (fun p hp=>by
      rcases List.mem_cons.mp hp with rfl | hp
      · exact hIL.symm
      · exact (hsep p hp).2)
    have nL:=N1 _ (.tail _ (.tail _ (.head _)))
    refine wpAny_assign_Name (wpAny_storeName_local rfl (hns.ns nL.1) (fun h2 hn2 hs2=>?_) rfl)
    (refine eE1 (fun oL3=>?_) (NsO.of hn2); refine eA2 fun e3 n3=>?_)
    have F2:Fr h₀ L h2 m:=F1.change hs2 nL.2.1 nL.2.2
    have N2:News h₀ L h2 ([(S, o), (I, rItO (lo + ((j + 1:Nat):Int)) ((N:Int) - ((j + 1:Nat):Int)))] ++ (L', oL3) :: base):=news_setAt N1 hs2 e3 (fun p hp=>by
      rcases List.mem_cons.mp hp with rfl | hp
      · exact hSL
      · rw [List.mem_singleton.mp hp]; exact hIL) (fun p hp=>(hsep p hp).1)
    have mm2:(fun y=>if y = Str.ofString "i" then some (Value.int (lo + (j:Int)) tk) else mm y) = fun y=>if y = Str.ofString "i" then some (Value.int (lo + (j:Int)) tk) else dumpM x l tag lo hi tt tl th y:=by
      funext y
      by_cases e:y = Str.ofString "i"
      · rw [if_pos e, if_pos e]
      · rw [if_neg e, if_neg e, hmm y e]
    (refine eE1 (fun oLc=>?_) (fr_swap (r:=(S, o) :: (I, rItO (lo + ((j + 1:Nat):Int)) ((N:Int) - ((j + 1:Nat):Int))) :: base) F2 (fun p hp=>N2 p (by
      rcases List.mem_cons.mp hp with rfl | hp
      · exact .tail _ (.tail _ (.head _))
      · rcases List.mem_cons.mp hp with rfl | hp
        · exact .head _
        · rcases List.mem_cons.mp hp with rfl | hp
          · exact .tail _ (.head _)
          · exact .tail _ (.tail _ (.tail _ hp)))) n3 (fun p hp=>by
      rcases List.mem_cons.mp hp with rfl | hp
      · exact hSL
      · rcases List.mem_cons.mp hp with rfl | hp
        · exact hIL
        · exact (hsep p hp).1) hL'); refine eA3 fun nc F3 N3=>?_)
    refine eE1 (fun tz htz=>?_) (hx j (by lia))
    have F3':Fr h₀ L' h2 (fun y=>if y = Str.ofString "i" then some (Value.int (lo + (j:Int)) tk) else dumpM x l tag lo hi tt tl th y):=mm2 ▸ F3
    have hb:=Eq.refl dumpBody
    conv at hb=>rhs; whnf
    rw [hb]
    refine seg_execs_cons (seg_Expr_Yield hfs rfl hfg ?_)
    rw [← hb, over_none hA]
    refine dump_item (F:=F3') (N:=N3) (T:=T) (.tail _ (.tail _ (.tail _ hl))) (by lia) (by lia) htz htl (hzl j (by omega)) (fun t tk'=>?_) X
    intro kap hkap
    refine (iE2 j ([(I, rItO (lo + ((j + 1:Nat):Int)) ((N:Int) - ((j + 1:Nat):Int))), (L', oL3)]) ⟨by exact (fun {a b}=>Nat.succ_inj.mp) (congrArg Nat.succ hjk), ⟨t, rfl⟩, (iE2 h2 tk' rfl), fun o' ho'=>?_, fun o' s'' hG=>hkap _ s'' ?_⟩)
    · obtain rfl:o = o':=Option.some.inj (hS.symm.trans ho')
      refine ⟨.inr ⟨I, (iE2 oL3 _ ⟨rfl, n3, hIL, fun y hy=>by rw [if_neg hy]; exact hmm y hy⟩)⟩, F2, N2, fun p hp=>?_⟩
      rcases List.mem_cons.mp hp with rfl | hp
      · exact hSI.symm
      · rcases List.mem_cons.mp hp with rfl | hp
        · exact hSL.symm
        · exact hbS p hp
    · refine seg_again rfl (ih (j + 1) _ o' s'' s'' (by lia) (iE2 oL3 _ ⟨rfl, n3, hIL, fun y hy=>by rw [if_neg hy]; exact hmm y hy⟩) hG.2.1 hG.2.2.1 (iE2 _ _ rfl) (hG.2.2.1 _ (.head _)).1)

noncomputable abbrev dumpDoc:Stmt:=(bodyOf (sub 7 3)).getD 0 (.Pass ⟨0, 0, 0, 0⟩)
noncomputable def dumpPos:Pos:=(stPart dumpFor).2.2.2.2
theorem range_small {a b:Int} (h0:0 ≤ a) (h1:a ≤ b) (h2:b ≤ 100):Builtin.Range.small a b 1 = true:=by
  exact small_one (by lia) (by lia) (by lia) (by lia)
theorem range_len {a b:Int} {n:Nat} (h:b = a + (n:Int)):Builtin.Range.rangeSize a b 1 = (n:Int):=by
  rw [rangeSize_nat]
  lia
theorem dump_go (T:Top q2 (looseW q2 loose2) mean mg mb h₀) (X:(K2 w.params).In h₀) (hh:A.handled = none) (hoL:NsO oL (dumpM x l tag lo hi tt tl th)) (hN:hi = lo + (N:Int))
    (hl:(l, listOf vs.toArray c) ∈ base) (h0:0 ≤ lo) (hi9:lo + (N:Int) ≤ 100) (hx:∀ j, j < N→∃ t, vs[(lo + (j:Int)).toNat]? = some (.str (z j) t)) (htl:tag.length ≤ 1000) (hzl:∀ j, j < N→(z j).length ≤ 1000)
    (hL':@LE.le Nat _ h₀.objs.size L') (hsep:∀ p ∈ base, p.1 ≠ L') {o:Obj} {s:Shared} (hG:Good h₀ L S m base (DumpP L' oL N lo (dumpM x l tag lo hi tt tl th)) [(L', oL)] 0 o s.heap) :
    (GenState.fresh (.func (bodyOf (sub 7 3)) (dumpEnv L'))).Goes (model rw_mu0013_01.row.prog w) A (GR h₀ L S m base) (GY h₀ L S m base (DumpP L' oL N lo (dumpM x l tag lo hi tt tl th)) N (rowItem tag z)) N (.send .none) s:=by
  refine ⟨rfl, seg_func ?_⟩
  (revert hG; refine eA4 fun hC0 F Nw hS=>?_; clear hC0)
  have hSL:S ≠ L':=(hS _ (.head _)).symm
  (refine eE1 (fun oLc=>?_) (fr_swap (r:=(S, o) :: base) F (fun p hp=>Nw p (by
    rcases List.mem_cons.mp hp with rfl | hp
    · exact .tail _ (.head _)
    · rcases List.mem_cons.mp hp with rfl | hp
      · exact .head _
      · exact .tail _ (.tail _ hp))) hoL (fun p hp=>by
    rcases List.mem_cons.mp hp with rfl | hp
    · exact hSL
    · exact hsep p hp) hL'); refine eA3 fun nc F3 N3=>?_)
  have hA:∀ c, (A.over c []).handled = none:=fun c=>hh
  have hb:bodyOf (sub 7 3) = [dumpDoc, .For dumpTgt (iterOf dumpFor) dumpBody [] dumpPos]:=by kernel_rfl
  rw [hb]
  generalize Code.func [dumpDoc, .For dumpTgt (iterOf dumpFor) dumpBody [] dumpPos] (dumpEnv L') = cc
  refine seg_execs_cons (seg_wrap ?_)
  rw [over_none (hA _)]
  have hd:=Eq.refl dumpDoc
  conv at hd=>rhs; whnf
  rw [hd]
  w_on
  w_strict (
    k_steps)
  refine seg_execs_cons (seg_For (fun _=>rfl) ?_)
  rw [over_none (hA _)]
  refine dump_range (F:=F3) (N:=N3) (T:=T) h0 (by exact Int.le.intro N (_root_.id (Eq.symm hN))) (by exact le_of_eq_of_le hN hi9) (fun r h1 tk1 t u v hr F4 N4=>?_) X
  refine wpAny_holding (wpAny_pyIter_range hr (range_small h0 (by omega) (by omega)) ?_)
  rw [range_len hN]
  intro p
  have F5:=F4.push (rItO (lo + ((0:Nat):Int)) ((N:Int) - ((0:Nat):Int)))
  have N5:=N4.push F4 (rItO (lo + ((0:Nat):Int)) ((N:Int) - ((0:Nat):Int)))
  have lI:∀ p ∈ (L, oLc) :: (S, o) :: base, p.1 ≠ h1.objs.size:=fun p hp=>Nat.ne_of_lt (Heap.lt_size (N4 p hp).1)
  (refine eE1 (fun oL5=>?_) (fr_swap (r:=(h1.objs.size, rItO (lo + ((0:Nat):Int)) ((N:Int) - ((0:Nat):Int))) :: (S, o) :: base) F5 (fun p hp=>N5 p (by
    rcases List.mem_cons.mp hp with rfl | hp
    · exact .tail _ (.head _)
    · rcases List.mem_cons.mp hp with rfl | hp
      · exact .head _
      · exact .tail _ (.tail _ hp))) nc (fun p hp=>by
    rcases List.mem_cons.mp hp with rfl | hp
    · exact (lI _ (.head _)).symm
    · rcases List.mem_cons.mp hp with rfl | hp
      · exact (Nw _ (.head _)).2.1
      · exact (Nw _ (.tail _ (.tail _ hp))).2.1) F.above); refine eA3 fun n5 F6 N6=>?_)
  have nI:h1.objs.size ≠ L':=Nat.ne_of_gt F4.ns.lt
  have eO:({ cls:=.type "range_iterator", data:=.fields #[rawInt lo, rawInt (N:Int), rawInt 1] }:Obj) = rItO (lo + ((0:Nat):Int)) ((N:Int) - ((0:Nat):Int)):=by
    rw [show lo + ((0:Nat):Int) = lo by exact Std.LawfulRightIdentity.right_id lo, show (N:Int) - ((0:Nat):Int) = (N:Int) by exact Eq.symm ((fun {a b}=>Int.neg_inj.mp) rfl)]
  rw [eO]
  refine dump_loop (I:=h1.objs.size) (vs:=vs) (c:=c) T X (by exact hh) (by exact rfl) (by exact rfl) hl h0 (by lia) hx htl hzl hL' (fun p hp=>⟨hsep p hp, lI p (.tail _ (.tail _ hp))⟩) (fun p hp=>hS p (.tail _ hp)) hSL (lI _ (.tail _ (.head _))) (fun s₀ s' hg=>?_) N 0 [(h1.objs.size, rItO (lo + ((0:Nat):Int)) ((N:Int) - ((0:Nat):Int))), (L', oL5)] o s _ (Nat.zero_add N) (iE2 oL5 _ ⟨rfl, n5, nI, fun _ _=>rfl⟩) F6 (fun p hp=>N6 p ?_) (iE2 _ _ rfl) (Nw _ (.head _)).1
  · refine seg_blockNil ?_
    exact seg_end (.ok (.ret .none)) ⟨rfl, hg⟩
  · rcases List.mem_cons.mp hp with rfl | hp
    · exact .tail _ (.tail _ (.head _))
    · rcases List.mem_cons.mp hp with rfl | hp
      · exact .tail _ (.head _)
      · rcases List.mem_cons.mp hp with rfl | hp
        · exact .head _
        · exact .tail _ (.tail _ (.tail _ hp))
end
end Mine.Internal
end
section
open PySem PySem.W PyProof.Rows PySem.Challenge PySem.Spec PySem.Calls Builtin
namespace Mine.Internal
noncomputable abbrev restEnv (L':Addr):Env:=envOf (Str.ofString "restore") (scopeOf (top 8)) L' 324 (.ref 323)
noncomputable abbrev restTry:Stmt:=(bodyOf (top 8)).getD 1 (.Pass ⟨0, 0, 0, 0⟩)
noncomputable abbrev restPre:Stmt:=(bodyOf (top 8)).getD 2 (.Pass ⟨0, 0, 0, 0⟩)
noncomputable abbrev restFor:Stmt:=(bodyOf (top 8)).getD 3 (.Pass ⟨0, 0, 0, 0⟩)
theorem rest_pre1 {w:World} {dp un:Nat} {fr:Option (List Env)} {gd:Option (List Code)} {h₀ hp:Heap} {L:Addr} {news:List (Addr × Obj)} {gs:Array GenState} {dr:Drawn} {tk:Nat} {os:OsState} {mean:ExcName→Option Value} {mg mb:Str→Option Value} {l:Addr} {tw:Tok} {Q:Flow→Shared→Prop} {E:Value→Shared→Prop}
    (F:Fr h₀ L hp (fun y=>List.lookup y [(Str.ofString "which", .int 1 tw), (Str.ofString "delta", .ref l)])) (N:News h₀ L hp news) (T:Top q2 (looseW q2 loose2) mean mg mb h₀)
    (ret:∀ P h' tk' t1 t2 tr, Fr h₀ L h' (fun y=>if y = Str.ofString "prefixes" then some (.ref P) else if y = Str.ofString "tag" then some (.str (Str.ofString "- ") tr) else List.lookup y [(Str.ofString "which", .int 1 tw), (Str.ofString "delta", .ref l)])→News h₀ L h' ((P, ({ cls:=.type "tuple", data:=.seq #[.str (Str.ofString "  ") t1, .str (Str.ofString "- ") t2] }:Obj)) :: news)→(∀ p ∈ news, p.1 < P)→Q .next ⟨h', gs, dr, tk', os⟩) :
    (K2 w.params).In h₀→wpAny (model rw_mu0013_01.row.prog w) ⟨none, dp, fr, gd, un⟩ (execs [restTry, restPre] (restEnv L)) Q E ⟨hp, gs, dr, tk, os⟩:=by
  w_on
  k_fill
  intro X
  have hb:=Eq.refl restTry
  conv at hb=>rhs; whnf
  have hb2:=Eq.refl restPre
  conv at hb2=>rhs; whnf
  rw [hb, hb2]
  clear hb hb2
  w_strict (
    k_steps
    (rename Fr _ _ _ _=>F9)
    (rename News _ _ _ _=>N9)
    (rename _ ∧ AllLt _ _=>lD)
    (rename ∀ p ∈ news, p.1 < _=>lN)
    exact ret _ _ _ _ _ _ F9 (fun p hp=>N9 p (by
      rcases List.mem_cons.mp hp with rfl | hp
      · exact .head _
      · exact .tail _ (.tail _ hp))) (fun p hp=>Nat.lt_trans (lN p hp) lD.1))
theorem rest_pre2 {w:World} {dp un:Nat} {fr:Option (List Env)} {gd:Option (List Code)} {h₀ hp:Heap} {L:Addr} {news:List (Addr × Obj)} {gs:Array GenState} {dr:Drawn} {tk:Nat} {os:OsState} {mean:ExcName→Option Value} {mg mb:Str→Option Value} {l:Addr} {tw:Tok} {Q:Flow→Shared→Prop} {E:Value→Shared→Prop}
    (F:Fr h₀ L hp (fun y=>List.lookup y [(Str.ofString "which", .int 2 tw), (Str.ofString "delta", .ref l)])) (N:News h₀ L hp news) (T:Top q2 (looseW q2 loose2) mean mg mb h₀)
    (ret:∀ P h' tk' t1 t2 tr, Fr h₀ L h' (fun y=>if y = Str.ofString "prefixes" then some (.ref P) else if y = Str.ofString "tag" then some (.str (Str.ofString "+ ") tr) else List.lookup y [(Str.ofString "which", .int 2 tw), (Str.ofString "delta", .ref l)])→News h₀ L h' ((P, ({ cls:=.type "tuple", data:=.seq #[.str (Str.ofString "  ") t1, .str (Str.ofString "+ ") t2] }:Obj)) :: news)→(∀ p ∈ news, p.1 < P)→Q .next ⟨h', gs, dr, tk', os⟩) :
    (K2 w.params).In h₀→wpAny (model rw_mu0013_01.row.prog w) ⟨none, dp, fr, gd, un⟩ (execs [restTry, restPre] (restEnv L)) Q E ⟨hp, gs, dr, tk, os⟩:=by
  w_on
  k_fill
  intro X
  have hb:=Eq.refl restTry
  conv at hb=>rhs; whnf
  have hb2:=Eq.refl restPre
  conv at hb2=>rhs; whnf
  rw [hb, hb2]
  clear hb hb2
  w_strict (
    k_steps
    (rename Fr _ _ _ _=>F9)
    (rename News _ _ _ _=>N9)
    (rename _ ∧ AllLt _ _=>lD)
    (rename ∀ p ∈ news, p.1 < _=>lN)
    exact ret _ _ _ _ _ _ F9 (fun p hp=>N9 p (by
      rcases List.mem_cons.mp hp with rfl | hp
      · exact .head _
      · exact .tail _ (.tail _ hp))) (fun p hp=>Nat.lt_trans (lN p hp) lD.1))

noncomputable def restIf:Stmt:=(stPart restFor).2.2.1.headD (.Pass ⟨0, 0, 0, 0⟩)
noncomputable def testOf (s:Stmt):PySem.Expr:=(stPart s).1
noncomputable def eltOf (s:Stmt):PySem.Expr:=yldOf s
noncomputable abbrev restM (u tag:Str) (tu tr:Tok) (P l:Addr) (v:Value):Str→Option Value:=fun y=>if y = Str.ofString "line" then some (.str u tu) else if y = Str.ofString "prefixes" then some (.ref P) else if y = Str.ofString "tag" then some (.str tag tr) else List.lookup y [(Str.ofString "which", v), (Str.ofString "delta", .ref l)]
theorem rest_test {w:World} {dp un:Nat} {fr:Option (List Env)} {gd:Option (List Code)} {h₀ hp:Heap} {L P l:Addr} {news:List (Addr × Obj)} {gs:Array GenState} {dr:Drawn} {tk:Nat} {os:OsState} {mean:ExcName→Option Value} {mg mb:Str→Option Value} {tag u a:Str} {v:Value} {tr tu t1 t2:Tok} {Q:Bool→Shared→Prop} {E:Value→Shared→Prop}
    (F:Fr h₀ L hp (restM u tag tu tr P l v)) (N:News h₀ L hp news) (T:Top q2 (looseW q2 loose2) mean mg mb h₀) (hP:(P, ({ cls:=.type "tuple", data:=.seq #[.str (Str.ofString "  ") t1, .str tag t2] }:Obj)) ∈ news) (hu:u.length ≤ 2000) (hs:Txt.slice u none (some 2) = a)
    (ret:∀ h' tk', Fr h₀ L h' (restM u tag tu tr P l v)→News h₀ L h' news→Q ([Str.ofString "  ", tag].any (· == a)) ⟨h', gs, dr, tk', os⟩) :
    (K2 w.params).In h₀→wpAny (model rw_mu0013_01.row.prog w) ⟨none, dp, fr, gd, un⟩ (isTrue (testOf restIf) (restEnv L) (PySem.eval (testOf restIf) (restEnv L))) Q E ⟨hp, gs, dr, tk, os⟩:=by
  w_on
  k_fill
  intro X
  have hb:=Eq.refl (testOf restIf)
  conv at hb=>rhs; whnf
  rw [hb]
  clear hb
  w_strict (
    k_steps
    (rename Fr _ _ _ _=>F9)
    (rename News _ _ _ _=>N9)
    refine' in_tuple_strs ⟨_, (N9 _ hP).1, rfl, _, rfl⟩ (.cons _ _ (.cons _ _ .nil)) (wpAny_truthy_bool ?_)
    rw [hs]
    exact ret _ _ F9 N9)
theorem rest_elt {w:World} {dp un:Nat} {fr:Option (List Env)} {gd:Option (List Code)} {h₀ hp:Heap} {L P l:Addr} {news:List (Addr × Obj)} {gs:Array GenState} {dr:Drawn} {tk:Nat} {os:OsState} {mean:ExcName→Option Value} {mg mb:Str→Option Value} {tag u:Str} {v:Value} {tr tu:Tok} {Q:Value→Shared→Prop} {E:Value→Shared→Prop}
    (F:Fr h₀ L hp (restM u tag tu tr P l v)) (N:News h₀ L hp news) (T:Top q2 (looseW q2 loose2) mean mg mb h₀) (hu:u.length ≤ 2000)
    (ret:∀ h' tk' t, Fr h₀ L h' (restM u tag tu tr P l v)→News h₀ L h' news→Q (.str (Txt.slice u (some 2) none) t) ⟨h', gs, dr, tk', os⟩) :
    (K2 w.params).In h₀→wpAny (model rw_mu0013_01.row.prog w) ⟨none, dp, fr, gd, un⟩ (PySem.eval (eltOf restIf) (restEnv L)) Q E ⟨hp, gs, dr, tk, os⟩:=by
  w_on
  k_fill
  intro X
  have hb:=Eq.refl (eltOf restIf)
  conv at hb=>rhs; whnf
  rw [hb]
  clear hb
  w_strict (
    k_steps
    exact ret _ _ _ (by assumption) (by assumption))
end Mine.Internal
end
section
open PySem PySem.W PyProof.Rows PySem.Challenge PySem.Spec PySem.Calls Builtin
namespace Mine.Internal
theorem mid_mem {α:Type} {a:α} {pre post:List α} {p:α}:p ∈ a :: (pre ++ post)→p ∈ pre ++ a :: post:=fun hp=>by
  rcases List.mem_cons.mp hp with rfl | hp
  · exact List.mem_append_right _ (.head _)
  · exact (List.mem_append.mp hp).elim (fun h=>List.mem_append_left _ h) fun h=>List.mem_append_right _ (.tail _ h)
theorem mem_mid {α:Type} {a:α} {pre post:List α} {p:α}:p ∈ pre ++ a :: post→p ∈ a :: (pre ++ post):=fun hp=>by
  rcases List.mem_append.mp hp with hp | hp
  · exact .tail _ (List.mem_append_left _ hp)
  · rcases List.mem_cons.mp hp with rfl | hp
    · exact .head _
    · exact .tail _ (List.mem_append_right _ hp)
theorem swap_mid {h₀ h:Heap} {L L':Addr} {m mG:Str→Option Value} {oL':Obj} {pre post:List (Addr × Obj)} (F:Fr h₀ L h m) (N:News h₀ L h (pre ++ (L', oL') :: post)) (n:NsO oL' mG) (hr:∀ p ∈ pre ++ post, p.1 ≠ L') (ha:@LE.le Nat _ h₀.objs.size L') :
    ∃ oL, NsO oL m ∧ Fr h₀ L' h mG ∧ News h₀ L' h ((L, oL) :: (pre ++ post)):=fr_swap F (fun p hp=>N p (mid_mem hp)) n hr ha
theorem swap_back {h₀ h:Heap} {L L':Addr} {m mG:Str→Option Value} {oL:Obj} {pre post:List (Addr × Obj)} (F:Fr h₀ L' h mG) (N:News h₀ L' h ((L, oL) :: (pre ++ post))) (n:NsO oL m) (hr:∀ p ∈ pre ++ post, p.1 ≠ L) (ha:@LE.le Nat _ h₀.objs.size L) :
    ∃ oL', NsO oL' mG ∧ Fr h₀ L h m ∧ News h₀ L h (pre ++ (L', oL') :: post):=by
  (refine eE1 (fun oL'=>?_) (fr_swap F N n hr ha); refine eA3 fun n' F' N'=>?_)
  exact ⟨oL', n', F', fun p hp=>N' p (mem_mid hp)⟩
theorem seg_If {M:Model} {A:Around} {R:GenEnd} {Y:Protocol} {n:Nat} {s₀:Shared} {c:Code} {fs:List PySem.Frame} {s:Shared} {env:Env} {K:Flow→Sem PySem.Fin} {H:Value→Sem PySem.Fin} {gd:Bool→Bool} {lv:List Value→List Value} {test:PySem.Expr} {body orelse:List Stmt} {pos:Pos}
    (h:wpAny M (A.over c fs) (isTrue test env (PySem.eval test env)) (fun b s'=>if b = true then Seg M A R Y n s₀ c ((execs body env).wrap K H gd lv) fs s' else Seg M A R Y n s₀ c ((execs orelse env).wrap K H gd lv) fs s') (fun x s'=>Seg M A R Y n s₀ c (H x) fs s') s) :
    Seg M A R Y n s₀ c ((exec (.If test body orelse pos) env).wrap K H gd lv) fs s:=by
  rw [exec_If]
  refine seg_at ?_
  show Seg M A R Y n s₀ c (Sem.wrap K H gd lv (PySem.isTrue test env (PySem.eval test env) >>= fun b=>if b = true then execs body env else execs orelse env)) fs s
  rw [Sem.bind_eq_wrap', Sem.wrap_wrap]
  refine seg_wrap (wpAny_mono h (fun b s' hb=>?_) fun _ _ x=>x)
  cases b with
  | true=>rw [if_pos rfl] at hb; exact hb
  | false=>rw [if_neg Bool.false_ne_true] at hb; exact hb
noncomputable def LI (o:Obj) (l:Addr) (i:Nat):Prop:=o.cls = .type "list_iterator" ∧ o.data = .fields #[.ref l, .int i 0]
noncomputable def restF (tag u:Str):Option Str:=if [Str.ofString "  ", tag].any (· == Txt.slice u none (some 2)) then some (Txt.slice u (some 2) none) else none
noncomputable abbrev restM0 (tag:Str) (tr:Tok) (P l:Addr) (v:Value):Str→Option Value:=fun y=>if y = Str.ofString "prefixes" then some (.ref P) else if y = Str.ofString "tag" then some (.str tag tr) else List.lookup y [(Str.ofString "which", v), (Str.ofString "delta", .ref l)]
noncomputable def RestI (I P L' l:Addr) (tag:Str) (v:Value) (j:Nat) (own:List (Addr × Obj)):Prop :=
  ∃ oI oL mm t1 t2 tr, own = [(I, oI), (P, ({ cls:=.type "tuple", data:=.seq #[.str (Str.ofString "  ") t1, .str tag t2] }:Obj)), (L', oL)] ∧ LI oI l j ∧ NsO oL mm ∧ (∀ y, y ≠ Str.ofString "line"→mm y = restM0 tag tr P l v y) ∧ I ≠ L' ∧ P ≠ L' ∧ P ≠ I
noncomputable def RestP (L' l:Addr) (oL:Obj) (tag:Str) (us:List Str) (v:Value) (i:Nat) (own:List (Addr × Obj)):Prop :=
  (i = 0 ∧ own = [(L', oL)]) ∨ ∃ I P j, ((us.take j).filterMap (restF tag)).length = i ∧ j ≤ us.length ∧ RestI I P L' l tag v j own
noncomputable def restItem (tag:Str) (us:List Str) (j:Nat) (v:Value):Prop:=∃ b t, (us.filterMap (restF tag))[j]? = some b ∧ v = .str b t
theorem strs_get {vs:List Value} {us:List Str} (h:StrsAre vs us):∀ {j:Nat} {u:Str}, us[j]? = some u→∃ t, vs[j]? = some (.str u t):=by
  induction h with
  | nil=>intro j u e; simp at e
  | cons y t _ ih =>
    intro j u e
    cases j with
    | zero=>simp at e; subst e; exact ⟨t, rfl⟩
    | succ j=>simpa using ih (by simpa using e)
theorem strs_len {vs:List Value} {us:List Str} (h:StrsAre vs us):vs.length = us.length:=by
  induction h with
  | nil=>rfl
  | cons y t _ ih=>simp [ih]
theorem fm_drop {us:List Str} {j:Nat} {u:Str} {f:Str→Option Str} (h:us[j]? = some u):(us.drop j).filterMap f = (f u).toList ++ (us.drop (j + 1)).filterMap f:=by
  (refine eE1 (fun hlt hR1=>?_) (List.getElem?_eq_some_iff.mp h); subst hR1)
  rw [List.drop_eq_getElem_cons hlt, List.filterMap_cons]
  cases f us[j] <;> rfl
theorem fm_take {us:List Str} {j:Nat} {u:Str} {f:Str→Option Str} (h:us[j]? = some u):(us.take (j + 1)).filterMap f = (us.take j).filterMap f ++ (f u).toList:=by
  rw [List.take_add_one, h, List.filterMap_append]
  cases e:f u <;> simp [e]
theorem fm_all {us:List Str} {f:Str→Option Str} (j:Nat):us.filterMap f = (us.take j).filterMap f ++ (us.drop j).filterMap f:=by
  rw [← List.filterMap_append, List.take_append_drop]
noncomputable def restBody:List Stmt:=(stPart restFor).2.2.1
noncomputable def restTgt:PySem.Expr:=(stPart restFor).1
section
variable {w:World} {A:Around} {h₀:Heap} {L S L' I P l:Addr} {m:Str→Option Value} {oL:Obj} {c:Nat} {tag:Str} {v:Value} {vs:List Value} {us:List Str} {base:List (Addr × Obj)} {mean:ExcName→Option Value} {mg mb:Str→Option Value} {fs:List PySem.Frame}
theorem rest_loop (T:Top q2 (looseW q2 loose2) mean mg mb h₀) (X:(K2 w.params).In h₀) (hA:(A.over (.forLoop restTgt (.ref I) restBody [] (restEnv L')) fs).handled = none) (hfs:splitAtGen fs = none) (hfg:fs.any Frame.guarded = false)
    (hl:(l, listOf vs.toArray c) ∈ base) (hv:StrsAre vs us) (hz:∀ u ∈ us, u.length ≤ 2000)
    (hL':@LE.le Nat _ h₀.objs.size L') (hLa:@LE.le Nat _ h₀.objs.size L) (hsep:∀ p ∈ base, p.1 ≠ L' ∧ p.1 ≠ I) (hbS:∀ p ∈ base, p.1 ≠ S) (hSL:S ≠ L') (hSI:S ≠ I) (hSP:S ≠ P)
    (hend:∀ s₀ s, GP h₀ L S m base 0 s₀ s→Seg (model rw_mu0013_01.row.prog w) A (GR h₀ L S m base) (GY h₀ L S m base (RestP L' l oL tag us v) (us.filterMap (restF tag)).length (restItem tag us)) 0 s₀ (.block [] (restEnv L')) ((model rw_mu0013_01.row.prog w).den (.block [] (restEnv L'))) fs s) :
    ∀ (k j:Nat) own o s₀ s, j + k = us.length→RestI I P L' l tag v j own→Fr h₀ L s.heap m→News h₀ L s.heap ((S, o) :: (own ++ base))→(∃ h tk, s = { s₀ with heap:=h, toks:=tk })→s₀.heap.get? S = some o →
      Seg (model rw_mu0013_01.row.prog w) A (GR h₀ L S m base) (GY h₀ L S m base (RestP L' l oL tag us v) (us.filterMap (restF tag)).length (restItem tag us)) ((us.drop j).filterMap (restF tag)).length s₀ (.forLoop restTgt (.ref I) restBody [] (restEnv L')) ((model rw_mu0013_01.row.prog w).den (.forLoop restTgt (.ref I) restBody [] (restEnv L'))) fs s:=by
  intro k
  induction k with
  | zero =>
    (rintro j own o s₀ s hjk; (refine eE6 fun oI oL2 mm t1 t2 tr=>?_; refine eA7 fun hR6 hLI hns hmm hIL hPL hPI=>?_; subst hR6); rintro F Nw; (refine eE2 fun hp tk hR2=>?_; subst hR2); rintro hS)
    obtain rfl:j = us.length:=hjk
    rw [List.drop_length]
    refine seg_forLoop (fun _=>rfl) ?_
    have nI:=Nw _ (.tail _ (.head _))
    have nl:=Nw _ (.tail _ (.tail _ (.tail _ (.tail _ hl))))
    refine wpAny_pyNext_list_end hA ⟨oI, nI.1, hLI.1, hLI.2⟩ ⟨_, nl.1, rfl, c, rfl⟩ (by simp [strs_len hv]) fun h' he=>?_
    refine hend s₀ _ ⟨rfl, (iE2 h' tk rfl), fun o' ho'=>?_⟩
    obtain rfl:o = o':=Option.some.inj (hS.symm.trans ho')
    refine ⟨⟨F.ns.extBut he nI.2.1.symm, fun b x e=>he b x (fun q=>by rw [q] at e; rw [nI.2.2] at e; cases e) (F.keep b x e), F.above⟩, fun p hp=>?_⟩
    rcases List.mem_cons.mp hp with rfl | hp
    · exact ⟨he _ _ hSI (Nw _ (.head _)).1, (Nw _ (.head _)).2⟩
    · have q:=Nw p (.tail _ (.tail _ (.tail _ (.tail _ hp))))
      exact ⟨he _ _ (hsep p hp).2 q.1, q.2⟩
  | succ k ih =>
    (rintro j own o s₀ s hjk; (refine eE6 fun oI oL2 mm t1 t2 tr=>?_; refine eA7 fun hR6 hLI hns hmm hIL hPL hPI=>?_; subst hR6); rintro F Nw; (refine eE2 fun hp tk hR2=>?_; subst hR2); rintro hS)
    refine seg_forLoop (fun _=>rfl) ?_
    have nI:=Nw _ (.tail _ (.head _))
    have nl:=Nw _ (.tail _ (.tail _ (.tail _ (.tail _ hl))))
    have hlt:j < us.length:=by lia
    have hu:us[j]? = some us[j]:=by simp [hlt]
    have huz:=hz us[j] (List.getElem_mem hlt)
    generalize us[j] = u at hu huz
    refine eE1 (fun tu htu=>?_) (strs_get hv hu)
    refine wpAny_pyNext_list_item ⟨oI, nI.1, hLI.1, hLI.2⟩ ⟨_, nl.1, rfl, c, rfl⟩ (x:=.str u tu) (by simpa using htu) fun h1 hit hs1=>?_
    dsimp only
    (revert hit; refine eE1 fun oI1=>?_; refine eA3 fun eI1 hc1 hd1=>?_)
    have F1:Fr h₀ L h1 m:=F.change hs1 nI.2.1 nI.2.2
    have sepI:∀ p ∈ (P, ({ cls:=.type "tuple", data:=.seq #[.str (Str.ofString "  ") t1, .str tag t2] }:Obj)) :: (L', oL2) :: base, p.1 ≠ I:=fun p hp=>by
      rcases List.mem_cons.mp hp with rfl | hp
      · exact hPI
      · rcases List.mem_cons.mp hp with rfl | hp
        · exact hIL.symm
        · exact (hsep p hp).2
    have N1:News h₀ L h1 ([(S, o)] ++ (I, oI1) :: ((P, ({ cls:=.type "tuple", data:=.seq #[.str (Str.ofString "  ") t1, .str tag t2] }:Obj)) :: (L', oL2) :: base)):=news_setAt Nw hs1 eI1 (fun p hp=>by rw [List.mem_singleton.mp hp]; exact hSI) sepI
    have nL:=N1 _ (.tail _ (.tail _ (.tail _ (.head _))))
    refine wpAny_assign_Name (wpAny_storeName_local rfl (hns.ns nL.1) (fun h2 hn2 hs2=>?_) rfl)
    (refine eE1 (fun oL3=>?_) (NsO.of hn2); refine eA2 fun e3 n3=>?_)
    have F2:Fr h₀ L h2 m:=F1.change hs2 nL.2.1 nL.2.2
    have sepL:∀ p ∈ [(S, o), (I, oI1), (P, ({ cls:=.type "tuple", data:=.seq #[.str (Str.ofString "  ") t1, .str tag t2] }:Obj))] ++ base, p.1 ≠ L':=fun p hp=>by
      rcases List.mem_append.mp hp with hp | hp
      · simp only [List.mem_cons, List.not_mem_nil, or_false] at hp
        rcases hp with rfl | rfl | rfl
        · exact hSL
        · exact hIL
        · exact hPL
      · exact (hsep p hp).1
    have N2:News h₀ L h2 ([(S, o), (I, oI1), (P, ({ cls:=.type "tuple", data:=.seq #[.str (Str.ofString "  ") t1, .str tag t2] }:Obj))] ++ (L', oL3) :: base):=news_setAt N1 hs2 e3 (fun p hp=>sepL p (List.mem_append_left _ hp)) (fun p hp=>(hsep p hp).1)
    have mm2:(fun y=>if y = Str.ofString "line" then some (Value.str u tu) else mm y) = restM u tag tu tr P l v:=by
      funext y
      by_cases e:y = Str.ofString "line"
      · subst e; unfold restM; rw [if_pos rfl, if_pos rfl]
      · unfold restM; rw [if_neg e, if_neg e, hmm y e]
    rw [mm2] at n3
    have offL:∀ p ∈ [(S, o), (I, oI1), (P, ({ cls:=.type "tuple", data:=.seq #[.str (Str.ofString "  ") t1, .str tag t2] }:Obj))] ++ base, p.1 ≠ L:=fun p hp=>(N2 p (mid_mem (.tail _ hp))).2.1
    (refine eE1 (fun oLc=>?_) (swap_mid F2 N2 n3 sepL hL'); refine eA3 fun nc F3 N3=>?_)
    have hS0:=(N3 _ (.tail _ (.head _))).1
    have sI':∀ p ∈ base, p.1 ≠ I:=fun p hp=>(hsep p hp).2
    obtain ⟨yp, ep, ip, hb⟩:∃ yp ep ip, restBody = [.If (testOf restIf) [.Expr (.Yield (some (eltOf restIf)) yp) ep] [] ip]:=by
      refine (iE3 ?_ ?_ ?_ ?h)
      case h=>with_unfolding_all rfl
    have hI1:LI oI1 l (j + 1):=⟨hc1, hd1⟩
    rw [fm_drop hu]
    clear F1 N1 F2 N2 hs2 hs1 F Nw
    generalize hcc:(Code.forLoop restTgt (Value.ref I) restBody [] (restEnv L')) = cc at *
    rw [hb]
    refine seg_execs_cons (seg_If ?_)
    rw [← hb, over_none hA]
    refine rest_test (a:=Txt.slice u none (some 2)) (F:=F3) (N:=N3) (T:=T) (.tail _ (.tail _ (.tail _ (.head _)))) huz rfl (fun h4 tk4 F4 N4=>?_) X
    by_cases hpass:([Str.ofString "  ", tag].any (· == Txt.slice u none (some 2))) = true
    · rw [if_pos hpass]
      have hf:restF tag u = some (Txt.slice u (some 2) none):=if_pos hpass
      have hft:=fm_take (f:=restF tag) hu
      rw [hf] at hft ⊢
      have hall:=fm_all (us:=us) (f:=restF tag) (j + 1)
      rw [hft] at hall
      rw [show ((some (Txt.slice u (some 2) none)).toList ++ (us.drop (j + 1)).filterMap (restF tag)).length = ((us.drop (j + 1)).filterMap (restF tag)).length + 1 by simp [Nat.add_comm]]
      refine seg_execs_cons (seg_Expr_Yield hfs rfl hfg ?_)
      rw [over_none hA]
      refine rest_elt (F:=F4) (N:=N4) (T:=T) huz (fun h5 tk5 t5 F5 N5=>?_) X
      intro kap hkap
      (refine eE1 (fun oL6=>?_) (swap_back F5 N5 nc offL hLa); refine eA3 fun n6 F6 N6=>?_)
      have hRI:RestI I P L' l tag v (j + 1) [(I, oI1), (P, ({ cls:=.type "tuple", data:=.seq #[.str (Str.ofString "  ") t1, .str tag t2] }:Obj)), (L', oL6)]:=(iE6 oI1 oL6 _ t1 t2 tr ⟨rfl, hI1, n6, fun y hy=>by unfold restM; rw [if_neg hy], hIL, hPL, hPI⟩)
      refine (iE2 (((us.take j).filterMap (restF tag)).length) ([(I, oI1), (P, ({ cls:=.type "tuple", data:=.seq #[.str (Str.ofString "  ") t1, .str tag t2] }:Obj)), (L', oL6)]) ⟨by rw [hall]; simp; lia, (iE2 _ t5 ⟨?_, rfl⟩), (iE2 h5 tk5 rfl), fun o' ho'=>?_, fun o' s'' hG=>hkap _ s'' ?_⟩)
      · rw [hall, List.append_assoc, List.getElem?_append_right (Nat.le_refl _), Nat.sub_self]; rfl
      · obtain rfl:o = o':=Option.some.inj (hS.symm.trans ho')
        refine ⟨.inr (iE3 I P (j + 1) ⟨by rw [hft]; simp, hlt, hRI⟩), F6, N6, fun p hp=>?_⟩
        simp only [List.cons_append, List.nil_append, List.mem_cons] at hp
        rcases hp with rfl | rfl | rfl | hp
        · exact hSI.symm
        · exact hSP.symm
        · exact hSL.symm
        · exact hbS p hp
      · refine seg_again rfl ?_
        rw [hcc]
        exact ih (j + 1) _ o' s'' s'' (by lia) hRI hG.2.1 hG.2.2.1 (iE2 _ _ rfl) (hG.2.2.1 _ (.head _)).1
    · rw [if_neg hpass]
      have hf:restF tag u = none:=if_neg hpass
      rw [hf]
      (refine eE1 (fun oL6=>?_) (swap_back F4 N4 nc offL hLa); refine eA3 fun n6 F6 N6=>?_)
      refine seg_again rfl ?_
      rw [hcc]
      exact ih (j + 1) _ o s₀ _ (by omega) (iE6 oI1 oL6 _ t1 t2 tr ⟨rfl, hI1, n6, fun y hy=>by unfold restM; rw [if_neg hy], hIL, hPL, hPI⟩) F6 N6 (iE2 _ _ rfl) hS
end
end Mine.Internal
end
section
open PySem PySem.W PyProof.Rows PySem.Challenge PySem.Spec PySem.Calls Builtin
namespace Mine.Internal
theorem execs_two_wrap {env:Env} {K:Flow→Sem PySem.Fin} {H:Value→Sem PySem.Fin} {gd:Bool→Bool} {lv:List Value→List Value} (a b:Stmt) (rest:List Stmt) :
    (execs (a :: b :: rest) env).wrap K H gd lv = (execs [a, b] env).wrap (fun f=>match f with | .next=>(execs rest env).wrap K H gd lv | f=>K f) H gd lv:=by
  rw [execs_cons_wrap a (b :: rest), execs_cons_wrap a [b]]
  refine Sem.wrap_congr _ _ _ (fun f=>?_) fun _=>rfl
  cases f with
  | next =>
    dsimp only
    rw [execs_cons_wrap b rest, execs_cons_wrap b []]
    refine Sem.wrap_congr _ _ _ (fun f=>?_) fun _=>rfl
    cases f <;> rfl
  | _=>rfl
noncomputable abbrev restDoc:Stmt:=(bodyOf (top 8)).getD 0 (.Pass ⟨0, 0, 0, 0⟩)
noncomputable def restPos:Pos:=(stPart restFor).2.2.2.2
section
variable {w:World} {A:Around} {h₀:Heap} {L S L' l:Addr} {m:Str→Option Value} {oL:Obj} {c:Nat} {tag:Str} {v:Value} {vs:List Value} {us:List Str} {base:List (Addr × Obj)} {mean:ExcName→Option Value} {mg mb:Str→Option Value}
theorem rest_doc {dp un:Nat} {fr:Option (List Env)} {gd:Option (List Code)} {L:Addr} {Q:Flow→Shared→Prop} {E:Value→Shared→Prop} {s:Shared} (ret:∀ tk, Q .next { s with toks:=tk }):wpAny (model rw_mu0013_01.row.prog w) ⟨none, dp, fr, gd, un⟩ (exec restDoc (restEnv L)) Q E s:=by
  have hd:=Eq.refl restDoc
  conv at hd=>rhs; whnf
  rw [hd]
  w_on
  w_strict (
    k_steps
    exact ret _)
theorem rest_iter {dp un:Nat} {fr:Option (List Env)} {gd:Option (List Code)} {L P:Addr} {tr:Tok} {hp:Heap} {news:List (Addr × Obj)} {gs:Array GenState} {dr:Drawn} {tk:Nat} {os:OsState} {Q:Value→Shared→Prop} {E:Value→Shared→Prop} (F:Fr h₀ L hp (restM0 tag tr P l v)) (N:News h₀ L hp news) (ret:∀ tk, Q (.ref l) ⟨hp, gs, dr, tk, os⟩):wpAny (model rw_mu0013_01.row.prog w) ⟨none, dp, fr, gd, un⟩ (PySem.eval (iterOf restFor) (restEnv L)) Q E ⟨hp, gs, dr, tk, os⟩:=by
  have hd:=Eq.refl (iterOf restFor)
  conv at hd=>rhs; whnf
  rw [hd]
  w_on
  w_strict (
    k_steps
    exact ret _)
noncomputable def PreOk (w:World) (h₀:Heap) (L' l:Addr) (v:Value) (tag:Str):Prop:=∀ (dp un:Nat) (fr:Option (List Env)) (gd:Option (List Code)) (hp:Heap) (news:List (Addr × Obj)) (gs:Array GenState) (dr:Drawn) (tk:Nat) (os:OsState) (Q:Flow→Shared→Prop) (E:Value→Shared→Prop), Fr h₀ L' hp (fun y=>List.lookup y [(Str.ofString "which", v), (Str.ofString "delta", .ref l)])→News h₀ L' hp news →
      (∀ P h' tk' t1 t2 tr, Fr h₀ L' h' (restM0 tag tr P l v)→News h₀ L' h' ((P, ({ cls:=.type "tuple", data:=.seq #[.str (Str.ofString "  ") t1, .str tag t2] }:Obj)) :: news)→(∀ p ∈ news, p.1 < P)→Q .next ⟨h', gs, dr, tk', os⟩) →
      wpAny (model rw_mu0013_01.row.prog w) ⟨none, dp, fr, gd, un⟩ (execs [restTry, restPre] (restEnv L')) Q E ⟨hp, gs, dr, tk, os⟩
theorem pre_ok1 {tw:Tok} (T:Top q2 (looseW q2 loose2) mean mg mb h₀) (X:(K2 w.params).In h₀):PreOk w h₀ L' l (.int 1 tw) (Str.ofString "- "):=by
  intro dp un fr gd hp news gs dr tk os Q E F N ret
  with_reducible exact rest_pre1 F N T ret X
theorem pre_ok2 {tw:Tok} (T:Top q2 (looseW q2 loose2) mean mg mb h₀) (X:(K2 w.params).In h₀):PreOk w h₀ L' l (.int 2 tw) (Str.ofString "+ "):=by
  intro dp un fr gd hp news gs dr tk os Q E F N ret
  with_reducible exact rest_pre2 F N T ret X
theorem rest_go (T:Top q2 (looseW q2 loose2) mean mg mb h₀) (X:(K2 w.params).In h₀) (hh:A.handled = none) (hoL:NsO oL (fun y=>List.lookup y [(Str.ofString "which", v), (Str.ofString "delta", .ref l)]))
    (pre:PreOk w h₀ L' l v tag)
    (hl:(l, listOf vs.toArray c) ∈ base) (hv:StrsAre vs us) (hz:∀ u ∈ us, u.length ≤ 2000)
    (hL':@LE.le Nat _ h₀.objs.size L') (hsep:∀ p ∈ base, p.1 ≠ L') {o:Obj} {s:Shared} (hG:Good h₀ L S m base (RestP L' l oL tag us v) [(L', oL)] 0 o s.heap) :
    (GenState.fresh (.func (bodyOf (top 8)) (restEnv L'))).Goes (model rw_mu0013_01.row.prog w) A (GR h₀ L S m base) (GY h₀ L S m base (RestP L' l oL tag us v) (us.filterMap (restF tag)).length (restItem tag us)) (us.filterMap (restF tag)).length (.send .none) s:=by
  refine ⟨rfl, seg_func ?_⟩
  (revert hG; refine eA4 fun hC0 F Nw hS=>?_; clear hC0)
  have hSL:S ≠ L':=(hS _ (.head _)).symm
  have hLa:=F.above
  (refine eE1 (fun oLc=>?_) (swap_mid (pre:=[(S, o)]) (post:=base) F Nw hoL (fun p hp=>by
    rcases List.mem_cons.mp hp with rfl | hp
    · exact hSL
    · exact hsep p hp) hL'); refine eA3 fun nc F3 N3=>?_)
  have offL:∀ p ∈ [(S, o)] ++ base, p.1 ≠ L:=fun p hp=>(Nw p (mid_mem (.tail _ hp))).2.1
  have hA:∀ c, (A.over c []).handled = none:=fun c=>hh
  have hb:bodyOf (top 8) = [restDoc, restTry, restPre, .For restTgt (iterOf restFor) restBody [] restPos]:=by kernel_rfl
  rw [hb]
  generalize Code.func [restDoc, restTry, restPre, .For restTgt (iterOf restFor) restBody [] restPos] (restEnv L') = cc
  refine seg_execs_cons (seg_wrap ?_)
  rw [over_none (hA _)]
  refine rest_doc fun tk=>?_
  rw [execs_two_wrap]
  refine seg_wrap ?_
  rw [over_none (hA _)]
  unfold PreOk at pre
  with_reducible refine pre _ _ _ _ _ _ _ _ _ _ _ _ F3 N3 ?_
  intro P h1 tk1 t1 t2 tr F4 N4 lP
  dsimp only
  refine seg_execs_cons (seg_For (fun _=>rfl) ?_)
  rw [over_none (hA _)]
  refine rest_iter F4 N4 fun tk2=>?_
  have nl:=N4 _ (.tail _ (.tail _ (.tail _ hl)))
  refine wpAny_holding (wpAny_pyIter_list ⟨_, nl.1, rfl, c, rfl⟩ ?_)
  intro p
  dsimp only
  have F5:=F4.push { cls:=.type "list_iterator", data:=.fields #[.ref l, .int 0 0] }
  have N5:=N4.push F4 { cls:=.type "list_iterator", data:=.fields #[.ref l, .int 0 0] }
  have lI:∀ p ∈ (P, ({ cls:=.type "tuple", data:=.seq #[.str (Str.ofString "  ") t1, .str tag t2] }:Obj)) :: (L, oLc) :: ([(S, o)] ++ base), p.1 ≠ h1.objs.size:=fun p hp=>Nat.ne_of_lt (Heap.lt_size (N4 p hp).1)
  have nI:h1.objs.size ≠ L':=Nat.ne_of_gt F4.ns.lt
  have nP:P ≠ L':=(N4 _ (.head _)).2.1
  have nPL:P ≠ L:=Nat.ne_of_gt (lP _ (.head _))
  have nPS:S ≠ P:=Nat.ne_of_lt (lP _ (.tail _ (.head _)))
  (refine eE1 (fun oL5=>?_) (swap_back (pre:=[(S, o), (h1.objs.size, ({ cls:=.type "list_iterator", data:=.fields #[.ref l, .int 0 0] }:Obj)), (P, ({ cls:=.type "tuple", data:=.seq #[.str (Str.ofString "  ") t1, .str tag t2] }:Obj))]) (post:=base) F5 (fun p hp=>N5 p (by
    simp only [List.cons_append, List.nil_append, List.mem_cons] at hp ⊢
    rcases hp with hp | hp | hp | hp | hp
    · exact .inr (.inr (.inl hp))
    · exact .inr (.inr (.inr (.inl hp)))
    · exact .inl hp
    · exact .inr (.inl hp)
    · exact .inr (.inr (.inr (.inr hp))))) nc (fun p hp=>by
    simp only [List.cons_append, List.nil_append, List.mem_cons] at hp
    rcases hp with rfl | rfl | rfl | hp
    · exact offL _ (.head _)
    · exact (lI _ (.tail _ (.head _))).symm
    · exact nPL
    · exact offL _ (.tail _ hp)) hLa); refine eA3 fun n5 F6 N6=>?_)
  refine rest_loop (I:=h1.objs.size) (P:=P) (vs:=vs) (c:=c) T X (by exact hh) (by exact rfl) (by exact rfl) hl hv hz hL' hLa (fun p hp=>⟨hsep p hp, lI p (.tail _ (.tail _ (.tail _ hp)))⟩) (fun p hp=>hS p (.tail _ hp)) hSL (lI _ (.tail _ (.tail _ (.head _)))) nPS (fun s₀ s' hg=>?_) us.length 0 _ o s _ (Nat.zero_add _) (iE6 _ oL5 _ t1 t2 tr ⟨rfl, ⟨rfl, rfl⟩, n5, fun _ _=>rfl, nI, nP, lI _ (.head _)⟩) F6 N6 (iE2 _ _ rfl) (Nw _ (.head _)).1
  refine seg_blockNil ?_
  exact seg_end (.ok (.ret .none)) ⟨rfl, hg⟩
end
end Mine.Internal
end
section
open PySem PySem.W PyProof.Rows PySem.Challenge PySem.Spec
namespace Mine.Internal
noncomputable def textF (k:Int):Str:=Str.ofString " " ++ Str.ofString (toString k) ++ Str.ofString " \n"
noncomputable def rowF (tag z:Str):Str:=Str.empty ++ tag ++ Str.ofString " " ++ z
noncomputable def tagF (c:Int):Str:=if c = 0 then Str.ofString " " else if c = 1 then Str.ofString "-" else Str.ofString "+"
noncomputable def factsT (k:Nat):Bool :=
  decide ((textF k).length ≤ 1000) && decide ((rowF (tagF 0) (textF k)).length ≤ 2000) && decide ((rowF (tagF 1) (textF k)).length ≤ 2000) && decide ((rowF (tagF 2) (textF k)).length ≤ 2000) &&
  decide (restF (Str.ofString "- ") (rowF (tagF 0) (textF k)) = some (textF k)) && decide (restF (Str.ofString "- ") (rowF (tagF 1) (textF k)) = some (textF k)) && decide (restF (Str.ofString "- ") (rowF (tagF 2) (textF k)) = none) &&
  decide (restF (Str.ofString "+ ") (rowF (tagF 0) (textF k)) = some (textF k)) && decide (restF (Str.ofString "+ ") (rowF (tagF 1) (textF k)) = none) && decide (restF (Str.ofString "+ ") (rowF (tagF 2) (textF k)) = some (textF k))
theorem facts_all:(List.range 70).all factsT = true:=by decide +kernel
theorem facts_q:restF (Str.ofString "- ") (Str.ofString "? ^\n") = none ∧ restF (Str.ofString "+ ") (Str.ofString "? ^\n") = none ∧ (Str.ofString "? ^\n").length ≤ 2000:=by decide +kernel
theorem text_nodup:((List.range 70).map fun k:Nat=>textF k).Nodup:=by decide +kernel
end Mine.Internal
end
section
open PySem PySem.W PyProof.Rows PySem.Challenge PySem.Spec PySem.Calls
namespace Mine.Internal
section
open PySem PySem.W PyProof.Rows PySem.Challenge
theorem text_tells {w:World} {dp un:Nat} {gd:Option (List Code)} {cn:Str} {cs:Scope} {a:Addr} {ccd:Value} {cl:List (Str × Addr)} {outer:List Env} {A₀:Around} {base h₀:Heap} {L:Addr} {m:Str→Option Value} {news:List (Addr × Obj)} {s:Shared}
    {mean:ExcName→Option Value} {mg mb:Str→Option Value} {k:Int} {t:Tok} {Q E:Value→Shared→Prop}
    (B:Below A₀ base outer h₀) (F:Fr h₀ L s.heap m) (N:News h₀ L s.heap news) (T:Top q2 (looseW q2 loose2) mean mg mb h₀) (hk:cs.kind = .function) (h0:0 ≤ k) (h1:k < 1000) (hd:dp + 10 < recursionLimit) (hu:un + 100 < cLine)
    (ret:∀ t' h' tk', Fr h₀ L h' m→News h₀ L h' news→Q (.str (textF k) t') { s with heap:=h', toks:=tk' }) :
    (K2 w.params).In h₀→wpAny (model rw_mu0013_01.row.prog w) (ktrTop dp un gd cn cs L a ccd cl outer) (call (.ref 451) [.int k t]) Q E s:=by
  w_on
  k_fill
  intro X
  obtain ⟨ck, cnm, cig, cic, cmo⟩:=cs
  change ck = _ at hk
  subst hk
  refine wpAny_call ?_
  w_strict (
    k_dflt k_enter
    (have hb:=Eq.refl (bodyOf (top 16)))
    (conv at hb=>rhs; whnf)
    rw [hb]
    clear hb
    (have mk:=kstMark)
    k_steps
    exact ret _ _ _ (by assumption) (by assumption))
end
section
open PySem PySem.W PyProof.Rows PySem.Challenge PySem.Spec PySem.Calls
local macro_rules | `(tactic| walk_at $s)=>Tab.rules s "pyIter ref|halt
inplaceOp Add int int|red|iaddT|?
eval ListComp|halt
call builtin:dict.get||kdg_get1|kamssi_s?|g
binaryOp Sub int int|red|subT|?
binaryOp Add int int|red|addT|?
CompSrcT|halt
CompSrc|halt
CompEnd|halt"
section
open PySem PySem.W PyProof.Rows PySem.Challenge PySem.Spec PySem.Calls
local macro_rules | `(tactic| walk_at $s)=>Tab.rules s "subscriptTail Name Name ref int||kda_item|kamsis?|W
storeName||storeT|aa?rr|Wis
setAttr ref||set_slotU|aaamNIIIIIdSx?|Wids
setAttr ref||set_dictU|aaaNxmIIIIgpb?|Wids
exec For Name Name cons nil|for|forV|Foxx?f|W"
section
open PySem PySem.W PyProof.Rows PySem.Challenge PySem.Spec
section
variable {prog:Program} {w:World} {A:Around} {E:Value→Shared→Prop} {Q:Value→Shared→Prop} {hp h₀:Heap} {gs:Array GenState} {dr:Drawn} {tk0:Nat} {os:OsState} {L l:Addr} {m:Str→Option Value} {news:List (Addr × Obj)}
theorem lenTup {vs:List Value} {n:Nat} (N:News h₀ L hp news) (hm:(l, ({ cls:=.type "tuple", data:=.seq vs.toArray n }:Obj)) ∈ news) (hz:vs.length ≤ 100000) (h:∀ t tk, Q (.int vs.length t) ⟨hp, gs, dr, tk, os⟩) :
    wpAny (model prog w) A (call (.builtin "len") [.ref l]) Q E ⟨hp, gs, dr, tk0, os⟩:=by
  have ht:IsTup hp l vs.toArray:=⟨_, (N _ hm).1, rfl, n, rfl⟩
  have h9:=h
  refine PyProof.Rows.len_tuple (s:=⟨hp, gs, dr, tk0, os⟩) ht (by rw [List.size_toArray]; lia) ?_
  rw [List.size_toArray]
  exact h _ _
theorem clearU {its:Array Value} {n:Nat} (F:Fr h₀ L hp m) (N:News h₀ L hp news) (hm:(l, listOf its n) ∈ news) (hz:its.size ≤ 100000)
    (h:∀ h' n', Fr h₀ L h' m→News h₀ L h' (upL l (listOf #[] n') news)→Q .none ⟨h', gs, dr, tk0, os⟩):wpAny (model prog w) A (call (.builtin "list.clear") [.ref l]) Q E ⟨hp, gs, dr, tk0, os⟩:=by
  have NF:=news_front N hm
  have z:=N _ hm
  refine call_meets (s:=⟨hp, gs, dr, tk0, os⟩) PySem.F.slot_list_clear ⟨_, z.1, rfl⟩ PySem.F.entry_list_clear (PySem.F.args_list_clear_1 _) (PySem.AutoSeq1.list_clear_list_0 l its n (by rw [sizeLine_eq]; lia)) ⟨z.1, ?_⟩
  by_cases e:its.size = 0
  · exact h _ n (F.change (Heap.SameBut.update ..) z.2.1 z.2.2) (news_back (kl_turn0 (pre:=[]) (its':=#[]) (fun _=>#[]) NF (List.forall_mem_nil _) front_ne rfl e.symm))
  · exact h _ (n + 1) (F.change (Heap.SameBut.update ..) z.2.1 z.2.2) (news_back (kl_turn (pre:=[]) (its':=#[]) (fun _=>#[]) NF (List.forall_mem_nil _) front_ne rfl (fun q=>e q.symm)))
theorem tupleT {vs:List Value} {n:Nat} (F:Fr h₀ L hp m) (N:News h₀ L hp news) (hm:(l, listOf vs.toArray n) ∈ news) (hz:vs.length ≤ 100000)
    (h:∀ T h', Fr h₀ L h' m→News h₀ L h' ((T, ({ cls:=.type "tuple", data:=.seq vs.toArray }:Obj)) :: news)→(∀ p ∈ news, p.1 < T)→Q (.ref T) ⟨h', gs, dr, tk0, os⟩):wpAny (model prog w) A (call (.type "tuple") [.ref l]) Q E ⟨hp, gs, dr, tk0, os⟩:=by
  refine call_tuple_list (s:=⟨hp, gs, dr, tk0, os⟩) (News.isList N hm) (fun h' hk=>?_) (by rw [List.size_toArray, sizeLine_eq]; lia)
  have F':Fr h₀ L h' m:=F.keeps hk
  have N':News h₀ L h' news:=N.grown hk
  exact h _ _ (F'.push _) (N'.push F' _) fun p hp=>Heap.lt_size (N' p hp).1
end
local macro_rules | `(tactic| walk_at $s)=>Tab.rules s "call builtin:len||lenTup|aml?|i
call builtin:list.clear||clearU|aamz?|id
call type:tuple||tupleT|aaml?|id"
theorem rdy_tells {w:World} {H:Option Value} {dp un:Nat} {gd:Option (List Code)} {cn:Str} {cs:Scope} {a:Addr} {ccd:Value} {cl:List (Str × Addr)} {outer:List Env} {A₀:Around} {base h₀:Heap} {L:Addr} {m:Str→Option Value} {news:List (Addr × Obj)} {s:Shared}
    {mean:ExcName→Option Value} {mg mb:Str→Option Value} {f p:Int} {tf tp t1 t2 t3 t4:Tok} {S dS D R:Addr} {vs:List Value} {c:Nat} {ks:List Int} {ns:List Nd} {o:Obj} {kvs:List (Int × Value)} {Q E:Value→Shared→Prop}
    (B:Below A₀ base outer h₀) (F:Fr h₀ L s.heap m) (N:News h₀ L s.heap news) (T:Top q2 (looseW q2 loose2) mean mg mb h₀) (hk:cs.kind = .function) (hS:(S, instObj 440 dS) ∈ news) (hd:(dS, dictOf (tsD w t1 t2 t3 t4 D (.ref R) (.int p tp) (.int f tf)) 4) ∈ news) (hD:(D, o) ∈ news) (ho:o.IsDictOf (intKind rw_mu0013_01.row.prog w) kvs) (lo:(D == sysModules) = false) (hR:(R, listOf vs.toArray c) ∈ news) (hi:IntsAre vs ks) (hnd:ks.Nodup) (hin:∀ k ∈ ks, ∃ n ∈ ns, n.k = k) (hu:KU ns) (hns:∀ n ∈ ns, NdIn news n) (hRl:∀ n ∈ ns, n.l ≠ R) (htab:Tab kvs ns) (hz:vs.length ≤ 1000) (HH:HandIn H news) (hdp:dp + 40 < recursionLimit) (hun:un + 400 < cLine)
    (ret:∀ T c' t' h' tk' led', Fr h₀ L h' m→News h₀ L h' led'→(T, ({ cls:=.type "tuple", data:=.seq vs.toArray }:Obj)) ∈ led'→(∀ n ∈ outN ks ns, NdIn led' n)→(R, listOf #[] c') ∈ led'→(dS, dictOf (tsD w t1 t2 t3 t4 D (.ref R) (.int (p + vs.length) t') (.int f tf)) 4) ∈ led' →
      (∀ q ∈ news, q.1 ≠ dS→q.1 ≠ R→q.1 ∉ ns.map (·.x)→q ∈ led')→(∀ q ∈ news, q.1 < T)→Q (.ref T) { s with heap:=h', toks:=tk' }) :
    (K2 w.params).In h₀→wpAny (model rw_mu0013_01.row.prog w) (ktrH H dp un gd cn cs L a ccd cl outer) (call (.ref 402) [.ref S]) Q E s:=by
  unfold ktrH
  (refine eE1 (fun kh=>?_) HH.pick; refine eA2 fun HK hkn=>?_)
  w_on
  k_fill
  intro X
  obtain ⟨ck, cnm, cig, cic, cmo⟩:=cs
  change ck = _ at hk
  subst hk
  refine wpAny_call ?_
  w_strict (
    k_dflt k_enter
    (have hb:=Eq.refl (bodyOf (sub 14 5)))
    (conv at hb=>rhs; whnf)
    rw [hb]
    clear hb
    (have mk:=kstMark)
    k_steps
    (unfold Halt)
    (rename Fr _ _ _ _=>F9)
    (rename News _ _ _ _=>N9)
    (have lT:=(by assumption:∀ p ∈ news, p.1 < _))
    (refine' kg_tupS (τ:=List Nd) (vs:=vs) (nn:=0) [] (fun i c t=>t = outN (ks.take i) ns ∧ (∀ n ∈ t, NdIn c n) ∧ ∀ q ∈ news, q.1 ∉ ns.map (·.x)→q ∈ c) ns HK (fun i c t h p hp=>h.2.2 p (hkn p hp).1 (exc_nx N hns (hkn p hp).1 (hkn p hp).2)) ?hl F9 N9 ?hp ?turn ?done)
    (case hl=>exact .head _)
    (case hp=>exact ⟨rfl, fun n hn=>⟨.tail _ (hns n hn).1, .tail _ (hns n hn).2.1, .tail _ (hns n hn).2.2⟩, fun q hq _=>.tail _ hq⟩)
    (case turn =>
      (rintro i v c t u h8 tk8 I oI hv; (refine eA3 fun hR0 hN hK=>?_; subst hR0); rintro hT hoff F8 N8)
      (refine abs_post fun QZ hQZ=>?_)
      clear F9 N9
      (have hlt:i < ks.length:=by
        have:=(List.getElem?_eq_some_iff.mp hv).1
        rw [hi.length] at this
        exact this)
      (refine eE1 (fun tv ht=>?_) (hi.get i ks[i] (by simp [hlt])))
      (obtain rfl:v = .int ks[i] tv:=by
        rw [ht] at hv
        exact (Option.some.inj hv).symm)
      (obtain ⟨m2, hm2, hk2⟩:∃ m2 ∈ outN (ks.take i) ns, m2.k = ks[i]:=by
        (refine eE1 (fun n=>?_) (hin _ (List.getElem_mem hlt)); refine eA2 fun hn e=>?_)
        have:ks[i] ∈ (outN (ks.take i) ns).map (·.k):=by rw [outN_k]; exact List.mem_map.mpr ⟨n, hn, e⟩
        (refine eE1 (fun m=>?_) (List.mem_map.mp this); refine eA2 fun h1 h2=>?_)
        exact ⟨m, h1, h2⟩)
      (have hva:=tab_at (tab_out (ks:=ks.take i) htab) hu.out hm2)
      (have hin2:=hN _ hm2)
      (have mD:(D, o) ∈ c:=hK _ hD fun hm=>by
        (refine eE1 (fun n=>?_) (List.mem_map.mp hm); refine eA2 fun hn e=>?_)
        exact news_ne N hD (hns n hn).1 (fun e=>by (revert ho; refine eE2 fun es ep=>?_; refine eA2 fun hP2 _=>?_; obtain ⟨hc, _⟩:=hP2); exact Value.noConfusion (hc.symm.trans e)) e.symm)
      (have hx2:m2.x ∈ ns.map (·.x):=by
        rw [← outN_x (ks:=ks.take i)]
        exact List.mem_map.mpr ⟨_, hm2, rfl⟩)
      (have hT2:=news_ne (fun p hp=>N8 p (.tail _ hp)) hT hin2.1 (fun e=>by cases e))
      (have hI2:I ≠ m2.x:=fun e=>hoff _ hin2.1 e.symm)
      (have hns2:=npN_in (np:=-1) (tp:=759) (fun p hp=>N8 p (.tail _ hp)) hN hu.out.inj hm2)
      (have h9:outN (ks.take (i + 1)) ns = npN m2.k (-1) 759 (outN (ks.take i) ns):=by
        rw [hk2, ← outN_snoc, List.take_succ, List.getElem?_eq_getElem hlt]; rfl)
      (obtain ⟨k2, np2, tk2, tp2, x2, d2, l2, vs2, c2⟩:=m2)
      dsimp only [nObj] at hk2 hva hx2 hT2 hI2 hns2 h9
      (have hin3:(x2, nodeO d2 (.int k2 tk2) (.int np2 tp2) (.ref l2)) ∈ c:=hin2.1)
      (have hin4:(d2, dictOf [] 0) ∈ c:=hin2.2.1)
      clear hin2 hm2
      generalize ks[i] = kk at *
      subst hk2
      k_steps
      (rename Fr _ _ _ _=>FE)
      (rename News _ _ _ _=>NE)
      rw [upL_cons_ne hI2] at NE
      refine hQZ _ _ ?_
      dsimp only [TsPost]
      (refine' ts_end _ FE NE (mem_upL_ne hT hT2) (upL_ne hoff) ?w5 ⟨h9.symm, hns2, fun q hq hx=>mem_upL_ne (hK q hq hx) fun e=>hx (e ▸ hx2)⟩)
      (case w5=>exact fun z z1 z3=>by rw [if_neg z1]; rfl))
    (case done =>
      (rintro c t u h8 tk8; (refine eA3 fun hR0 hN hK=>?_; subst hR0); rintro hT F8 N8)
      clear F9 N9
      rw [hi.length, List.take_length] at hN
      (have kS:=hK _ hS (fun hm=>by (refine eE1 (fun n=>?_) (List.mem_map.mp hm); refine eA2 fun hn e=>?_); exact news_ne N hS (hns n hn).1 (fun e=>by cases e) e.symm))
      (have kd:=hK _ hd (fun hm=>by (refine eE1 (fun n=>?_) (List.mem_map.mp hm); refine eA2 fun hn e=>?_); exact news_ne N hd (hns n hn).1 (fun e=>by cases e) e.symm))
      (have kR:=hK _ hR (fun hm=>by (refine eE1 (fun n=>?_) (List.mem_map.mp hm); refine eA2 fun hn e=>?_); exact news_ne N hR (hns n hn).1 (fun e=>by cases e) e.symm))
      (have nTR:=news_ne N8 hT kR (fun e=>by injection e with e; exact absurd e (by decide)))
      (have nTd:=news_ne N8 hT kd (fun e=>by injection e with e; exact absurd e (by decide)))
      (have nRd:R ≠ dS:=news_ne N hR hd (fun e=>by injection e with e; exact absurd e (by decide)))
      dsimp only at nTR nTd
      (have nSR:S ≠ R:=news_ne N hS hR (fun e=>by cases e))
      (have ndR:dS ≠ R:=news_ne N hd hR (fun e=>by injection e with e; exact absurd e (by decide)))
      (have hfin:∀ n ∈ outN ks ns, ∀ o1 o2, NdIn (upL dS o1 (upL R o2 c)) n:=fun n hn o1 o2=>by
        (refine eE1 (fun n0=>?_) (outN_src hn); refine eA5 fun h0 a1 a2 a3 hC5=>?_; clear hC5)
        have w:=hN n hn
        exact ndIn_up (ndIn_up w (fun e=>news_ne N8 w.1 kR (fun e=>by cases e) e) (fun e=>news_ne N8 w.2.1 kR (fun e=>by injection e with e; exact absurd e (by decide)) e) (a3 ▸ hRl n0 h0)) (fun e=>news_ne N8 w.1 kd (fun e=>by cases e) e) (fun e=>news_neo N8 w.2.1 kd (fun e=>by cases e) e) (fun e=>news_ne N8 w.2.2 kd (fun e=>by injection e with e; exact absurd e (by decide)) e))
      k_steps
      (rename Fr _ _ _ _=>FE)
      (rename News _ _ _ _=>NE)
      exact ret _ _ _ _ _ _ FE NE (mem_upL_ne (mem_upL_ne hT nTR) nTd) (fun n hn=>hfin n hn _ _) (mem_upL_ne (mem_upL_self kR) nRd) (mem_upL_self (mem_upL_ne kd ndR)) (fun q hq q1 q2 q3=>mem_upL_ne (mem_upL_ne (hK q hq q3) q2) q1) lT))
end
section
open PySem PySem.W PyProof.Rows PySem.Challenge PySem.Spec
noncomputable def absN (ns:List Nd):List (Int × Int):=ns.map fun n=>(n.k, n.np)
noncomputable def setA (s v:Int) (an:List (Int × Int)):List (Int × Int):=an.map fun p=>if p.1 = s then (p.1, v) else p
noncomputable def npOf (an:List (Int × Int)) (s:Int):Int:=((an.find? fun p=>decide (p.1 = s)).map (·.2)).getD 0
noncomputable def decA (st:List (Int × Int) × List Int) (s:Int):List (Int × Int) × List Int:=(setA s (npOf st.1 s - 1) st.1, if npOf st.1 s - 1 = 0 then st.2 ++ [s] else st.2)
theorem absN_np {k np:Int} {tp:Tok} {ns:List Nd}:absN (npN k np tp ns) = setA k np (absN ns):=by
  unfold absN npN setA
  rw [List.map_map, List.map_map]
  refine List.map_congr_left fun n _=>?_
  show ((if n.k = k then _ else n:Nd).k, (if n.k = k then _ else n:Nd).np) = if n.k = k then (n.k, np) else (n.k, n.np)
  by_cases e:n.k = k
  · rw [if_pos e, if_pos e]
  · rw [if_neg e, if_neg e]
theorem npOf_at {ns:List Nd} {n:Nd} (hu:KU ns) (hn:n ∈ ns):npOf (absN ns) n.k = n.np:=by
  unfold npOf absN
  induction ns with
  | nil=>cases hn
  | cons a r ih =>
    have hu':=hu
    unfold KU at hu'
    rw [List.map_cons, List.nodup_cons] at hu'
    rw [List.map_cons, List.find?_cons]
    cases hn with
    | head=>simp
    | tail _ h =>
      have:a.k ≠ n.k:=fun e=>hu'.1 (List.mem_map.mpr ⟨_, h, e.symm⟩)
      rw [show decide (((a.k, a.np):Int × Int).1 = n.k) = false from decide_eq_false this]
      exact ih hu'.2 h
noncomputable def core (n:Nd):Int × Tok × Addr × Addr × Addr × List Value × Nat:=(n.k, n.tk, n.x, n.d, n.l, n.vs, n.c)
theorem core_np {k np:Int} {tp:Tok} {ns:List Nd}:(npN k np tp ns).map core = ns.map core:=by
  unfold npN
  rw [List.map_map]
  refine List.map_congr_left fun n _=>?_
  show core (if n.k = k then _ else n) = core n
  by_cases e:n.k = k
  · rw [if_pos e]; rfl
  · rw [if_neg e]
theorem core_src {ns ns':List Nd} (h:ns'.map core = ns.map core) {n:Nd} (hn:n ∈ ns'):∃ n0 ∈ ns, n0.k = n.k ∧ n0.x = n.x ∧ n0.d = n.d ∧ n0.l = n.l:=by
  have:core n ∈ ns.map core:=h ▸ List.mem_map.mpr ⟨n, hn, rfl⟩
  (refine eE1 (fun n0=>?_) (List.mem_map.mp this); refine eA2 fun h0 e=>?_)
  unfold core at e
  simp only [Prod.mk.injEq] at e
  exact ⟨n0, h0, e.1, e.2.2.1, e.2.2.2.1, e.2.2.2.2.1⟩
theorem core_k {ns ns':List Nd} (h:ns'.map core = ns.map core):ns'.map (·.k) = ns.map (·.k):=by
  have:=congrArg (List.map fun t:Int × Tok × Addr × Addr × Addr × List Value × Nat=>t.1) h
  rw [List.map_map, List.map_map] at this
  exact this
theorem core_x {ns ns':List Nd} (h:ns'.map core = ns.map core):ns'.map (·.x) = ns.map (·.x):=by
  have:=congrArg (List.map fun t:Int × Tok × Addr × Addr × Addr × List Value × Nat=>t.2.2.1) h
  rw [List.map_map, List.map_map] at this
  exact this
theorem tab_core {kvs:List (Int × Value)} {ns ns':List Nd} (h:ns'.map core = ns.map core) (t:Tab kvs ns):Tab kvs ns':=by
  unfold Tab at *
  rw [t]
  have:=congrArg (List.map fun t:Int × Tok × Addr × Addr × Addr × List Value × Nat=>(t.1, Value.ref t.2.2.1)) h
  rw [List.map_map, List.map_map] at this
  exact this.symm
theorem KU.core {ns ns':List Nd} (h:ns'.map core = ns.map core) (u:KU ns):KU ns':=by unfold KU; rw [core_k h]; exact u
end
section
open PySem PySem.W PyProof.Rows PySem.Challenge PySem.Spec
theorem nodup1 {a:Int}:[a].Nodup:=by simp
noncomputable def keysA (an:List (Int × Int)):List Int:=an.map (·.1)
theorem keys_setA {s v:Int} {an:List (Int × Int)}:keysA (setA s v an) = keysA an:=by
  unfold keysA setA
  rw [List.map_map]
  refine List.map_congr_left fun p _=>?_
  show (if p.1 = s then (p.1, v) else p).1 = p.1
  split <;> rfl
theorem npOf_setA {s v x:Int}:∀ {an:List (Int × Int)}, x ∈ keysA an→npOf (setA s v an) x = if x = s then v else npOf an x
  | p :: r, h=>by
    unfold npOf setA
    rw [List.map_cons, List.find?_cons, List.find?_cons]
    by_cases h1:p.1 = s
    · rw [if_pos h1]
      dsimp only
      by_cases h2:p.1 = x
      · rw [decide_eq_true h2, if_pos (h2.symm.trans h1)]; rfl
      · rw [decide_eq_false h2]
        have ih:=npOf_setA (s:=s) (v:=v) (x:=x) (an:=r) (by
          rcases List.mem_cons.mp h with e | h
          · exact absurd e.symm h2
          · exact h)
        exact ih
    · rw [if_neg h1]
      by_cases h2:p.1 = x
      · rw [decide_eq_true h2, if_neg (fun e=>h1 (h2.trans e))]
      · rw [decide_eq_false h2]
        have ih:=npOf_setA (s:=s) (v:=v) (x:=x) (an:=r) (by
          rcases List.mem_cons.mp h with e | h
          · exact absurd e.symm h2
          · exact h)
        exact ih
theorem fold_decA:∀ (su:List Int) (an:List (Int × Int)) (rk:List Int), (∀ x ∈ su, x ∈ keysA an ∧ (su.count x:Int) ≤ npOf an x) →
    ∃ an' rk', su.foldl decA (an, rk) = (an', rk') ∧ keysA an' = keysA an ∧ (∀ x ∈ keysA an, npOf an' x = npOf an x - su.count x) ∧
      (∀ x, x ∈ rk' ↔ x ∈ rk ∨ (x ∈ su ∧ npOf an x = su.count x)) ∧ (rk.Nodup→(∀ x ∈ rk, x ∉ su)→rk'.Nodup)
  | [], an, rk, _=>(iE2 an rk ⟨rfl, rfl, fun x _=>by simp, fun x=>by simp, fun h _=>h⟩)
  | s :: r, an, rk, h=>by
    have hs:=h s (.head _)
    have hcs:(s :: r).count s = r.count s + 1:=List.count_cons_self
    have hcx:∀ x, x ≠ s→(s :: r).count x = r.count x:=fun x hx=>List.count_cons_of_ne (fun e=>hx e.symm)
    have hnp:∀ x ∈ keysA an, npOf (setA s (npOf an s - 1) an) x = if x = s then npOf an s - 1 else npOf an x:=fun x hx=>npOf_setA hx
    have h2:=hs.2
    rw [hcs] at h2
    (refine eE2 (fun an' rk'=>?_) (fold_decA r (setA s (npOf an s - 1) an) (if npOf an s - 1 = 0 then rk ++ [s] else rk) (fun x hx=>by
      have q:=h x (.tail _ hx)
      refine ⟨by rw [keys_setA]; exact q.1, ?_⟩
      rw [hnp x q.1]
      by_cases e:x = s
      · subst e
        rw [if_pos rfl]
        exact Int.le_sub_one_of_lt h2
      · rw [if_neg e, ← hcx x e]
        exact q.2)); refine eA5 fun e1 e2 e3 e4 e5=>?_)
    rw [keys_setA] at e2 e3
    refine (iE2 an' rk' ⟨e1, e2, fun x hx=>?_, fun x=>?_, fun n1 n2=>?_⟩)
    · rw [e3 x hx, hnp x hx]
      by_cases e:x = s
      · subst e
        rw [if_pos rfl, hcs]
        lia
      · rw [if_neg e, hcx x e]
    · rw [e4 x]
      by_cases e:x = s
      · subst e
        rw [hnp x hs.1, if_pos rfl, hcs]
        by_cases z:npOf an x - 1 = 0
        · rw [if_pos z]
          constructor
          · intro _
            exact .inr ⟨.head _, by lia⟩
          · intro _
            exact .inl (List.mem_append_right _ (.head _))
        · rw [if_neg z]
          constructor
          · rintro (a | ⟨a, b⟩)
            · exact .inl a
            · exact .inr ⟨.head _, by lia⟩
          · rintro (a | ⟨a, b⟩)
            · exact .inl a
            · refine .inr ⟨?_, by exact (fun {b a c}=>Int.sub_eq_iff_eq_add.mpr) b⟩
              exact List.count_pos_iff.mp (by lia)
      · rw [hcx x e]
        constructor
        · rintro (a | ⟨a, b⟩)
          · split at a
            · rcases List.mem_append.mp a with a | a
              · exact .inl a
              · exact absurd (List.mem_singleton.mp a) e
            · exact .inl a
          · rw [hnp x (h x (.tail _ a)).1, if_neg e] at b
            exact .inr ⟨.tail _ a, b⟩
        · rintro (a | ⟨a, b⟩)
          · refine .inl ?_
            split
            · exact List.mem_append_left _ a
            · exact a
          · rcases List.mem_cons.mp a with a | a
            · exact absurd a e
            · refine .inr ⟨a, ?_⟩
              rw [hnp x (h x (.tail _ a)).1, if_neg e]
              exact b
    · have hsr:s ∉ rk:=fun hm=>n2 s hm (.head _)
      refine e5 ?_ ?_
      · split
        · exact List.nodup_append.mpr ⟨n1, nodup1, fun a ha b hb=>by rw [List.mem_singleton.mp hb]; exact fun e=>hsr (e ▸ ha)⟩
        · exact n1
      · intro x hx hr
        split at hx
        · rename_i z
          rcases List.mem_append.mp hx with hx | hx
          · exact n2 x hx (.tail _ hr)
          · rw [List.mem_singleton.mp hx] at hr
            have:=List.count_pos_iff.mpr hr
            lia
        · exact n2 x hx (.tail _ hr)
noncomputable def cntU (pre:Int→List Int) (dn:List Int) (k:Int):Nat:=((pre k).filter fun a=>decide (a ∉ dn)).length
noncomputable def npA (pre:Int→List Int) (dn ou:List Int) (k:Int):Int:=if k ∈ dn then -2 else if k ∈ ou then -1 else cntU pre dn k
structure Gph (N:Nat) (pre suc:Int→List Int):Prop where
  lt:∀ k a, a ∈ pre k→0 ≤ a ∧ a < k
  dual:∀ a b, (suc a).count b = (pre b).count a
  top:∀ a b, b ∈ suc a→b < N
structure GInv (N:Nat) (pre:Int→List Int) (dn ou rk:List Int):Prop where
  ndd:dn.Nodup
  ndo:ou.Nodup
  ndr:rk.Nodup
  dr:∀ k ∈ dn, (0 ≤ k ∧ k < N) ∧ cntU pre dn k = 0
  od:∀ k ∈ ou, (0 ≤ k ∧ k < N) ∧ k ∉ dn ∧ cntU pre dn k = 0
  rd:∀ k ∈ rk, (0 ≤ k ∧ k < N) ∧ k ∉ dn ∧ k ∉ ou ∧ cntU pre dn k = 0
  all:∀ k:Int, 0 ≤ k→k < N→k ∉ dn→cntU pre dn k = 0→k ∈ ou ∨ k ∈ rk
theorem GInv.rdy {N:Nat} {pre:Int→List Int} {dn ou rk:List Int} (g:GInv N pre dn ou rk):GInv N pre dn (ou ++ rk) [] where
  ndd:=g.ndd
  ndo:=List.nodup_append.mpr ⟨g.ndo, g.ndr, fun a ha b hb e=>(g.rd b hb).2.2.1 (e ▸ ha)⟩
  ndr:=List.nodup_nil
  dr:=g.dr
  od:=fun k hk=>(List.mem_append.mp hk).elim (g.od k) fun h=>⟨(g.rd k h).1, (g.rd k h).2.1, (g.rd k h).2.2.2⟩
  rd:=fun k hk=>nomatch hk
  all:=fun k a b c d=>.inl (List.mem_append.mpr (g.all k a b c d))
theorem npA_rdy {pre:Int→List Int} {dn ou rk:List Int} {k:Int} (h:∀ x ∈ rk, x ∉ dn):npA pre dn (ou ++ rk) k = if k ∈ rk then -1 else npA pre dn ou k:=by
  unfold npA
  by_cases h1:k ∈ rk
  · rw [if_pos h1, if_neg (h k h1), if_pos (List.mem_append_right _ h1)]
  · rw [if_neg h1]
    by_cases h2:k ∈ dn
    · rw [if_pos h2, if_pos h2]
    · rw [if_neg h2, if_neg h2]
      by_cases h3:k ∈ ou
      · rw [if_pos h3, if_pos (List.mem_append_left _ h3)]
      · rw [if_neg h3, if_neg (fun h=>(List.mem_append.mp h).elim h3 h1)]
theorem cntU_snoc {pre:Int→List Int} {dn:List Int} {k x:Int} (hk:k ∉ dn):cntU pre dn x = cntU pre (dn ++ [k]) x + (pre x).count k:=by
  unfold cntU
  induction pre x with
  | nil=>rfl
  | cons a r ih =>
    rw [List.filter_cons, List.filter_cons, List.count_cons]
    by_cases h1:a ∈ dn
    · have h2:a ∈ dn ++ [k]:=List.mem_append_left _ h1
      have h3:a ≠ k:=fun e=>hk (e ▸ h1)
      rw [if_neg (fun e=>(of_decide_eq_true e) h1), if_neg (fun e=>(of_decide_eq_true e) h2), if_neg (by simpa using h3)]
      exact ih
    · rw [if_pos (by simpa using h1), List.length_cons, ih]
      by_cases h3:a = k
      · rw [if_neg (by simp [h3]), if_pos (by simp [h3])]
        exact Nat.add_assoc (List.filter (fun a=>decide ¬a ∈ dn ++ [k]) r).length (List.count k r) 1
      · rw [if_pos (by simp [h1, h3]), if_neg (by simpa using h3), List.length_cons]
        exact Nat.add_right_comm (List.filter (fun a=>decide ¬a ∈ dn ++ [k]) r).length (List.count k r) 1
theorem GInv.done {N:Nat} {pre suc:Int→List Int} {dn ou rk rk':List Int} {k:Int} (G:Gph N pre suc) (g:GInv N pre dn ou rk) (hk:k ∈ ou) (hn:rk'.Nodup) (hr:∀ x, x ∈ rk' ↔ x ∈ rk ∨ (x ∈ suc k ∧ cntU pre dn x = (suc k).count x)) :
    GInv N pre (dn ++ [k]) (ou.erase k) rk':=by
  refine eA3 (fun kr kd kc=>?_) (g.od k hk)
  have hc:=fun x=>cntU_snoc (pre:=pre) (x:=x) kd
  have hnx:∀ x, cntU pre dn x = 0→cntU pre (dn ++ [k]) x = 0:=fun x h=>by have:=hc x; lia
  refine ⟨List.nodup_append.mpr ⟨g.ndd, nodup1, fun a ha b hb=>by rw [List.mem_singleton.mp hb]; exact fun e=>kd (e ▸ ha)⟩, g.ndo.erase k, hn, fun x hx=>?_, fun x hx=>?_, fun x hx=>?_, fun x a b c d=>?_⟩
  · rcases List.mem_append.mp hx with hx | hx
    · exact ⟨(g.dr x hx).1, hnx x (g.dr x hx).2⟩
    · rw [List.mem_singleton.mp hx]; exact ⟨kr, hnx k kc⟩
  · have h1:=(List.Nodup.mem_erase_iff g.ndo).mp hx
    refine eA3 (fun a b c=>?_) (g.od x h1.2)
    exact ⟨a, fun h=>(List.mem_append.mp h).elim b fun h=>h1.1 (List.mem_singleton.mp h), hnx x c⟩
  · rcases (hr x).mp hx with h1 | ⟨h1, h2⟩
    · refine eA4 (fun a b c d=>?_) (g.rd x h1)
      exact ⟨a, fun h=>(List.mem_append.mp h).elim b fun h=>c (List.mem_singleton.mp h ▸ hk), fun h=>c ((List.Nodup.mem_erase_iff g.ndo).mp h).2, hnx x d⟩
    · have hp:0 < (pre x).count k:=by rw [← G.dual]; exact List.count_pos_iff.mpr h1
      have hlt:=G.lt x k (List.count_pos_iff.mp hp)
      have hz:cntU pre dn x ≠ 0:=by rw [h2, G.dual]; exact Nat.ne_zero_of_lt hp
      have hxd:x ∉ dn:=fun hxd=>hz (g.dr x hxd).2
      refine ⟨⟨by lia, G.top k x h1⟩, fun h=>(List.mem_append.mp h).elim hxd fun h=>?_, fun h=>hz (g.od x ((List.Nodup.mem_erase_iff g.ndo).mp h).2).2.2, ?_⟩
      · have:=List.mem_singleton.mp h
        lia
      · have:=hc x
        rw [← G.dual, h2] at this
        exact (fun {a b}=>Nat.add_eq_right.mp) (id (Eq.symm this))
  · have h1:x ∉ dn:=fun h=>c (List.mem_append_left _ h)
    have h2:x ≠ k:=fun h=>c (List.mem_append_right _ (List.mem_singleton.mpr h))
    by_cases h3:cntU pre dn x = 0
    · rcases g.all x a b h1 h3 with h | h
      · exact .inl ((List.Nodup.mem_erase_iff g.ndo).mpr ⟨h2, h⟩)
      · exact .inr ((hr x).mpr (.inl h))
    · have:=hc x
      rw [d, ← G.dual] at this
      exact .inr ((hr x).mpr (.inr ⟨List.count_pos_iff.mp (by lia), by lia⟩))
end
section
open PySem PySem.W PyProof.Rows PySem.Challenge PySem.Spec PySem.Calls
local macro_rules | `(tactic| walk_at $s)=>Tab.rules s "getMethod ref|getMethod:get|kdg_method|kams?|"
section
open PySem PySem.W PyProof.Rows PySem.Challenge PySem.Spec
theorem ne_of_in {l:List Str} {a z:Str} (h:l.contains z = false) (ha:a ∈ l):z ≠ a:=fun e=>by
  subst e
  rw [List.contains_iff_mem.mpr ha] at h
  cases h
theorem not_in {a z:Str} (h:z ≠ a):[a].contains z = false:=by
  cases e:[a].contains z with
  | false=>rfl
  | true=>exact absurd (List.mem_singleton.mp (List.contains_iff_mem.mp e)) h
theorem mem_filt {I:Addr} {led:List (Addr × Obj)} {q:Addr × Obj} (h:q ∈ led) (hn:q.1 ≠ I):q ∈ led.filter fun p=>decide (p.1 ≠ I):=List.mem_filter.mpr ⟨h, decide_eq_true hn⟩
theorem ints_snoc {vs:List Value} {ns:List Int} {k:Int} {t:Tok} (h:IntsAre vs ns):IntsAre (vs ++ [.int k t]) (ns ++ [k]):=by
  induction h with
  | nil=>exact .cons _ _ .nil
  | cons a u _ ih=>exact .cons a u ih
theorem isubT {prog:Program} {w:World} {A:Around} {E:Value→Shared→Prop} {Q:Value→Shared→Prop} {hp:Heap} {gs:Array GenState} {dr:Drawn} {tk0:Nat} {os:OsState} {a b:Int} {t u:Tok} (h:∀ t tk, Q (.int (a - b) t) ⟨hp, gs, dr, tk, os⟩):wpAny (model prog w) A (inplaceOp .Sub (.int a t) (.int b u)) Q E ⟨hp, gs, dr, tk0, os⟩:=isub_int (h _ _)
local macro_rules | `(tactic| walk_at $s)=>Tab.rules s "inplaceOp Sub int int|red|isubT|?
call builtin:list.append||appendU|aam?z|id
exec For Name Attribute cons nil|for|forV|Foxx?f|W"
structure DnF (w:World) (ns:List Nd) (news:List (Addr × Obj)) (R dS D:Addr) (t1 t2 t3 t4 tp:Tok) (p f k:Int) (su ks:List Int) (c:List (Addr × Obj)) (st:List Nd × List Value × List Int × Nat × Tok):Prop where
  c1:st.1.map core = ns.map core
  c2:∀ n ∈ st.1, NdIn c n
  c3:IntsAre st.2.1 st.2.2.1
  c4:(absN st.1, st.2.2.1) = su.foldl decA (setA k (-2) (absN ns), ks)
  c5:(R, listOf st.2.1.toArray st.2.2.2.1) ∈ c
  c6:(dS, dictOf (tsD w t1 t2 t3 t4 D (.ref R) (.int p tp) (.int (f + 1) st.2.2.2.2)) 4) ∈ c
  c7:∀ q ∈ news, q.1 ≠ dS→q.1 ≠ R→q.1 ∉ ns.map (·.x)→q ∈ c
structure DnO (w:World) (ns:List Nd) (news:List (Addr × Obj)) (R dS D:Addr) (t1 t2 t3 t4 tp:Tok) (p f k:Int) (su ks:List Int) (i:Nat) (c:List (Addr × Obj)) (st:List Nd × List Value × List Int × Nat × Tok):Prop where
  a:i = 0→∀ q ∈ news, q ∈ c
  b:i = 1→DnF w ns news R dS D t1 t2 t3 t4 tp p f k su ks c st
structure DnI (ns:List Nd) (R I:Addr) (oI:Obj) (c9:List (Addr × Obj)) (k2:Int) (su ks:List Int) (vs:List Value) (i:Nat) (c':List (Addr × Obj)) (st:List Nd × List Value × List Int × Nat):Prop where
  c1:st.1.map core = ns.map core
  c2:∀ n ∈ st.1, NdIn c' n
  c3:IntsAre st.2.1 st.2.2.1
  c4:(absN st.1, st.2.2.1) = (su.take i).foldl decA (setA k2 (-2) (absN ns), ks)
  c5:(R, listOf st.2.1.toArray st.2.2.2) ∈ c'
  c6:st.2.1.length ≤ vs.length + i
  c7:(I, oI) ∈ c'
  c8:∀ q ∈ c9, q.1 ≠ R→q.1 ∉ ns.map (·.x)→q ∈ c'
theorem done_ok {w:World} {H:Option Value} {dp un:Nat} {gd:Option (List Code)} {cn:Str} {cs:Scope} {a:Addr} {ccd:Value} {cl:List (Str × Addr)} {outer:List Env} {A₀:Around} {base h₀:Heap} {L:Addr} {m:Str→Option Value} {news:List (Addr × Obj)} {s:Shared}
    {mean:ExcName→Option Value} {mg mb:Str→Option Value} {f p k:Int} {t:Tok} {nd:Nd} {tf tp t1 t2 t3 t4:Tok} {S dS D R:Addr} {vs:List Value} {c:Nat} {su:List Int} {ks:List Int} {ns:List Nd} {o:Obj} {kvs:List (Int × Value)} {Q E:Value→Shared→Prop}
    (B:Below A₀ base outer h₀) (F:Fr h₀ L s.heap m) (N:News h₀ L s.heap news) (T:Top q2 (looseW q2 loose2) mean mg mb h₀) (hk:cs.kind = .function) (hS:(S, instObj 440 dS) ∈ news) (hd:(dS, dictOf (tsD w t1 t2 t3 t4 D (.ref R) (.int p tp) (.int f tf)) 4) ∈ news) (hD:(D, o) ∈ news) (ho:o.IsDictOf (intKind rw_mu0013_01.row.prog w) kvs) (lo:(D == sysModules) = false) (hR:(R, listOf vs.toArray c) ∈ news) (hi:IntsAre vs ks) (hnd:ks.Nodup) (hin:∀ k ∈ ks, ∃ n ∈ ns, n.k = k) (hu:KU ns) (hns:∀ n ∈ ns, NdIn news n) (hRl:∀ n ∈ ns, n.l ≠ R) (htab:Tab kvs ns) (hz:vs.length ≤ 1000) (HH:HandIn H news) (hdp:dp + 40 < recursionLimit) (hun:un + 400 < cLine)
    (hm:nd ∈ ns) (hk1:nd.k = k) (hnp:nd.np = -1) (hsu:IntsAre nd.vs su) (hsin:∀ s ∈ su, ∃ n ∈ ns, n.k = s) (hsl:su.length ≤ 200)
    (ret:∀ t' h' tk' led' ns' rv rk rc, Fr h₀ L h' m→News h₀ L h' led'→ns'.map core = ns.map core→(∀ n ∈ ns', NdIn led' n)→IntsAre rv rk→(absN ns', rk) = su.foldl decA (setA k (-2) (absN ns), ks)→(R, listOf rv.toArray rc) ∈ led' →
      (dS, dictOf (tsD w t1 t2 t3 t4 D (.ref R) (.int p tp) (.int (f + 1) t')) 4) ∈ led'→(∀ q ∈ news, q.1 ≠ dS→q.1 ≠ R→q.1 ∉ ns.map (·.x)→q ∈ led')→Q .none { s with heap:=h', toks:=tk' }) :
    (K2 w.params).In h₀→wpAny (model rw_mu0013_01.row.prog w) (ktrH H dp un gd cn cs L a ccd cl outer) (call (.ref 423) [.ref S, .int k t]) Q E s:=by
  unfold ktrH
  (refine eE1 (fun kh=>?_) HH.pick; refine eA2 fun HK hkn=>?_)
  w_on
  k_fill
  intro X
  obtain ⟨ck, cnm, cig, cic, cmo⟩:=cs
  change ck = _ at hk
  subst hk
  refine wpAny_call ?_
  (have hv:=tab_at htab hu hm)
  rw [hk1] at hv
  (have nDx:D ∉ ns.map (·.x):=fun hm=>by
    (refine eE1 (fun n=>?_) (List.mem_map.mp hm); refine eA2 fun hn e=>?_)
    exact news_ne N hD (hns n hn).1 (fun e=>by (revert ho; refine eE2 fun es ep=>?_; refine eA2 fun hP2 _=>?_; obtain ⟨hc, _⟩:=hP2); exact Value.noConfusion (hc.symm.trans e)) e.symm)
  (have nSx:S ∉ ns.map (·.x):=fun hm=>by (refine eE1 (fun n=>?_) (List.mem_map.mp hm); refine eA2 fun hn e=>?_); exact news_ne N hS (hns n hn).1 (fun e=>by cases e) e.symm)
  (have ndx:dS ∉ ns.map (·.x):=fun hm=>by (refine eE1 (fun n=>?_) (List.mem_map.mp hm); refine eA2 fun hn e=>?_); exact news_ne N hd (hns n hn).1 (fun e=>by cases e) e.symm)
  (have nRx:R ∉ ns.map (·.x):=fun hm=>by (refine eE1 (fun n=>?_) (List.mem_map.mp hm); refine eA2 fun hn e=>?_); exact news_ne N hR (hns n hn).1 (fun e=>by cases e) e.symm)
  (have nSR:S ≠ R:=news_ne N hS hR (fun e=>by cases e))
  (have ndR:dS ≠ R:=news_ne N hd hR (fun e=>by injection e with e; exact absurd e (by decide)))
  (have nRd:R ≠ dS:=fun e=>ndR e.symm)
  w_strict (
    k_dflt k_enter
    (have hb:=Eq.refl (bodyOf (sub 14 8)))
    (conv at hb=>rhs; whnf)
    rw [hb]
    clear hb
    (have mk:=kstMark)
    k_steps
    (unfold Halt)
    (rename Fr _ _ _ _=>F9)
    (rename News _ _ _ _=>N9)
    (have lT:=(by assumption:∀ p ∈ news, p.1 < _))
    (refine' kg_tupS (τ:=List Nd × List Value × List Int × Nat × Tok) (vs:=[.int k t]) (nn:=0) [Str.ofString "nodeinfo", Str.ofString "stat", Str.ofString "successor", Str.ofString "successor_info"] (fun i c st=>DnO w ns news R dS D t1 t2 t3 t4 tp p f k su ks i c st ∧ ∀ p ∈ kh, p ∈ c) (ns, vs, ks, c, tf) HK (fun _ _ _ h=>h.2) ?hl F9 N9 ?hp ?turn ?done)
    (case hl=>exact .head _)
    (case hp=>exact ⟨⟨fun _ q hq=>.tail _ hq, fun h=>absurd h (by decide)⟩, fun p hp=>.tail _ (hkn p hp).1⟩)
    (case done =>
      (rintro c9 hZ1; obtain ⟨ns', rv, rk, rc, t'⟩:=hZ1; rintro u h8 tk8; (refine eA2 fun hP0 hC1=>?_; clear hC1; obtain ⟨-, hf⟩:=hP0); rintro hT F8 N8)
      obtain ⟨q1, q2, q3, q4, q5, q6, q7⟩:=hf rfl
      clear F9 N9 hf
      k_steps
      exact ret _ _ _ _ _ _ _ _ (by assumption) (by assumption) q1 q2 q3 q4 q5 q6 q7)
    (case turn =>
      (rintro i v c9 hZ3; obtain ⟨_, _, _, _, _⟩:=hZ3; rintro u h8 tk8 I oI hv'; (refine eA2 fun hP0 hkc=>?_; obtain ⟨hK0, -⟩:=hP0); rintro hT hoff F8 N8)
      (refine abs_post fun QY hQY=>?_)
      clear F9 N9
      (obtain ⟨rfl, rfl⟩:i = 0 ∧ v = .int k t:=by
        cases i with
        | zero=>exact ⟨rfl, (Option.some.inj (by simpa using hv')).symm⟩
        | succ i=>exact absurd hv' (by simp))
      (have hK:=hK0 rfl)
      (have mD:=hK _ hD)
      (have mS:=hK _ hS)
      (have md:=hK _ hd)
      (have mR:=hK _ hR)
      (have m0:=hns _ hm)
      (have m1:=hK _ m0.1)
      (have m2:=hK _ m0.2.1)
      (have m3:=hK _ m0.2.2)
      (have hI2:I ≠ nd.x:=fun e=>hoff _ m1 e.symm)
      (have hlx:nd.l ≠ nd.x:=news_ne N m0.2.2 m0.1 (fun e=>by cases e))
      (have hdx:nd.d ≠ nd.x:=news_ne N m0.2.1 m0.1 (fun e=>by cases e))
      (have hNp:=npN_in (np:=-2) (tp:=762) (fun p hp=>N8 p (.tail _ hp)) (fun n hn=>⟨hK _ (hns n hn).1, hK _ (hns n hn).2.1, hK _ (hns n hn).2.2⟩) hu.inj hm)
      (have hx2:nd.x ∈ ns.map (·.x):=List.mem_map.mpr ⟨_, hm, rfl⟩)
      (obtain ⟨k2, np2, tk2, tp2, x2, d2, l2, vs2, c2⟩:=nd)
      dsimp only [nObj] at hk1 hnp hsu hv m1 m2 m3 hI2 hlx hdx hNp hx2
      subst hk1 hnp
      k_steps
      (unfold Halt)
      (rename Fr _ _ _ _=>FI)
      (rename News _ _ _ _=>NI)
      rw [upL_cons_ne hI2] at NI
      (have nDR:D ≠ R:=fun e=>news_ne N hD hR (fun e=>by (revert ho; refine eE2 fun es ep=>?_; refine eA2 fun hP2 _=>?_; obtain ⟨hc, _⟩:=hP2); have:=hc.symm.trans e; injection this with e; exact absurd e (by decide)) e)
      (have hRl2:l2 ≠ R:=hRl _ hm)
      (have hup:∀ q ∈ c9, q.1 ∉ ns.map (·.x)→∀ o, q ∈ (I, oI) :: upL x2 o c9:=fun q hq hx o=>.tail _ (mem_upL_ne hq fun e=>hx (e ▸ hx2)))
      (refine' kg_listS (τ:=List Nd × List Value × List Int × Nat) (vs:=vs2) (nn:=c2) [Str.ofString "successor_info"] (DnI ns R I oI c9 k2 su ks vs) (npN k2 (-2) 762 ns, vs, ks, c) HK (fun i c' st h p hp=>h.c8 p (hkc p hp) (fun e=>exc_ne N hR (hkn p hp).1 (hkn p hp).2 (fun _ q=>by cases q) e) (exc_nx N hns (hkn p hp).1 (hkn p hp).2)) ?zl FI NI ?zp ?zturn ?zdone)
      (case zl=>exact .tail _ (mem_upL_ne m3 hlx))
      (case zp=>exact ⟨core_np, fun n hn=>⟨.tail _ (hNp n hn).1, .tail _ (hNp n hn).2.1, .tail _ (hNp n hn).2.2⟩, hi, by rw [absN_np]; rfl, hup _ mR nRx _, Nat.le_refl _, .head _, fun q hq _ hx=>hup q hq hx _⟩)
      (case zturn =>
        (rintro i v c7 hZ5; obtain ⟨ns2, rv, rk, rc⟩:=hZ5; rintro u7 h7 tk7 J oJ hv7 hZ6; obtain ⟨p1, p2, p3, p4, p5, p6, p7, p8⟩:=hZ6; rintro hL7 hoff7 F7 N7)
        dsimp only at p1 p2 p3 p4 p5 p6
        (refine abs_post fun QZ hQZ=>?_)
        clear FI NI
        (have hlt:i < su.length:=by
          have:=(List.getElem?_eq_some_iff.mp hv7).1
          rw [hsu.length] at this
          exact this)
        (refine eE1 (fun tv ht=>?_) (hsu.get i su[i] (by simp [hlt])))
        (obtain rfl:v = .int su[i] tv:=by
          rw [ht] at hv7
          exact (Option.some.inj hv7).symm)
        (obtain ⟨m9, hm9, hk9⟩:∃ m9 ∈ ns2, m9.k = su[i]:=by
          (refine eE1 (fun n=>?_) (hsin _ (List.getElem_mem hlt)); refine eA2 fun hn e=>?_)
          have:su[i] ∈ ns2.map (·.k):=by rw [core_k p1]; exact List.mem_map.mpr ⟨n, hn, e⟩
          (refine eE1 (fun m=>?_) (List.mem_map.mp this); refine eA2 fun h1 h2=>?_)
          exact ⟨m, h1, h2⟩)
        (have hva:=tab_at (tab_core p1 htab) (KU.core p1 hu) hm9)
        (have z0:=p2 _ hm9)
        (have z1:=z0.1)
        (have z2:=z0.2.1)
        (have wD:=p8 _ mD nDR nDx)
        (have wS:=p8 _ mS nSR nSx)
        (have wd:=p8 _ md ndR ndx)
        (have hx9:m9.x ∈ ns.map (·.x):=by rw [← core_x p1]; exact List.mem_map.mpr ⟨_, hm9, rfl⟩)
        (have hRx9:R ≠ m9.x:=fun e=>nRx (e ▸ hx9))
        (have hSx9:S ≠ m9.x:=fun e=>nSx (e ▸ hx9))
        (have hdx9:dS ≠ m9.x:=fun e=>ndx (e ▸ hx9))
        (have hDx9:D ≠ m9.x:=fun e=>nDx (e ▸ hx9))
        (have hd9:m9.d ≠ m9.x:=news_ne (fun p hp=>N7 p (.tail _ hp)) z2 z1 (fun e=>by cases e))
        (have hJ9:J ≠ m9.x:=fun e=>hoff7 _ z1 e.symm)
        (have hN9:=fun tok=>npN_in (np:=m9.np - 1) (tp:=tok) (fun p hp=>N7 p (.tail _ hp)) p2 (KU.core p1 hu).inj hm9)
        (have hz9:=npOf_at (KU.core p1 hu) hm9)
        (have hst:(su.take (i + 1)).foldl decA (setA k2 (-2) (absN ns), ks) = decA (absN ns2, rk) su[i]:=by
          rw [List.take_succ, List.getElem?_eq_getElem hlt, List.foldl_append, ← p4]; rfl)
        (have hl9:(l2, listOf vs2.toArray c2) ∈ c7:=hL7)
        (have hsep:∀ n ∈ ns2, n.x ≠ R ∧ n.d ≠ R ∧ n.l ≠ R:=fun n hn=>by
          (refine eE1 (fun n0=>?_) (core_src p1 hn); refine eA5 fun g0 hC2 g1 hC4 g3=>?_; clear hC2 hC4)
          exact ⟨fun e=>nRx (List.mem_map.mpr ⟨n0, g0, g1.trans e⟩), fun e=>news_ne (fun p hp=>N7 p (.tail _ hp)) (p2 n hn).2.1 p5 (fun e=>by injection e with e; exact absurd e (by decide)) e, g3 ▸ hRl n0 g0⟩)
        (have hIx9:I ≠ m9.x:=fun e=>by
          (refine eE1 (fun n0=>?_) (List.mem_map.mp hx9); refine eA2 fun g0 g1=>?_)
          exact hoff _ (hK _ (hns n0 g0).1) (g1.trans e.symm))
        (have hIR:I ≠ R:=fun e=>hoff _ mR e.symm)
        (have hJR:J ≠ R:=fun e=>hoff7 _ p5 e.symm)
        (have hlx9:l2 ≠ m9.x:=news_ne (fun p hp=>N7 p (.tail _ hp)) hl9 z1 (fun e=>by cases e))
        (obtain ⟨k9, np9, tk9, tp9, x9, d9, l9, vs9, c9'⟩:=m9)
        dsimp only [nObj] at hk9 hva z1 z2 hx9 hRx9 hSx9 hdx9 hDx9 hd9 hJ9 hN9 hz9 hIx9 hlx9
        clear z0
        generalize su[i] = kk at *
        subst hk9
        k_steps
        · (rename Fr _ _ _ _=>FE)
          (rename News _ _ _ _=>NE)
          rw [upL_cons_ne hJ9, upL_cons_ne hJR, List.push_toArray] at NE
          refine hQZ _ _ ?_
          dsimp only [TsPost]
          (refine' ts_end (npN k9 (np9 - 1) _ ns2, rv ++ [.int k9 tv], rk ++ [k9], rc + 1) FE NE (mem_upL_ne (mem_upL_ne hl9 hlx9) hRl2) (upL_ne (upL_ne hoff7)) ?w5 ⟨core_np.trans p1, fun n hn=>?w6, ints_snoc p3, ?w7, mem_upL_self (mem_upL_ne p5 hRx9), ?w8, mem_upL_ne (mem_upL_ne p7 hIx9) hIR, fun q hq h1 h2=>mem_upL_ne (mem_upL_ne (p8 q hq h1 h2) fun e=>h2 (e ▸ hx9)) h1⟩)
          (case w5=>exact fun z z1 z3=>by rw [if_neg (ne_of_stored z3), if_neg z1]; show (if _ = true then _ else _) = _; rw [z3]; rfl)
          (case w6=>(refine eE1 (fun n0=>?_) (npN_src hn); refine eA5 fun g0 g1 g2 g3 hC5=>?_; clear hC5); exact ndIn_up (hN9 _ n hn) (g1 ▸ (hsep n0 g0).1) (g2 ▸ (hsep n0 g0).2.1) (g3 ▸ (hsep n0 g0).2.2))
          (case w7=>rw [hst, absN_np]; unfold decA; dsimp only; rw [hz9, if_pos (by assumption)])
          (case w8=>rw [List.length_append]; exact Nat.add_le_add_right p6 1)
        · (rename Fr _ _ _ _=>FE)
          (rename News _ _ _ _=>NE)
          rw [upL_cons_ne hJ9] at NE
          refine hQZ _ _ ?_
          dsimp only [TsPost]
          (refine' ts_end (npN k9 (np9 - 1) _ ns2, rv, rk, rc) FE NE (mem_upL_ne hl9 hlx9) (upL_ne hoff7) ?w5 ⟨core_np.trans p1, hN9 _, p3, ?w7, mem_upL_ne p5 hRx9, Nat.le_succ_of_le p6, mem_upL_ne p7 hIx9, fun q hq h1 h2=>mem_upL_ne (p8 q hq h1 h2) fun e=>h2 (e ▸ hx9)⟩)
          (case w5=>exact fun z z1 z3=>by rw [if_neg (ne_of_stored z3), if_neg z1]; show (if _ = true then _ else _) = _; rw [z3]; rfl)
          (case w7=>rw [hst, absN_np]; unfold decA; dsimp only; rw [hz9, if_neg (by assumption)]))
      (case zdone =>
        (rintro c7 hZ7; obtain ⟨ns2, rv, rk, rc⟩:=hZ7; rintro u7 h7 tk7 hZ8; obtain ⟨p1, p2, p3, p4, p5, p6, p7, p8⟩:=hZ8; rintro hL7 F7 N7)
        dsimp only at p1 p2 p3 p4 p5 p6
        clear FI NI
        (have nTR:=news_ne (fun p hp=>N8 p (.tail _ hp)) hT mR (fun e=>by injection e with e; exact absurd e (by decide)))
        (have nTd:=news_ne (fun p hp=>N8 p (.tail _ hp)) hT md (fun e=>by injection e with e; exact absurd e (by decide)))
        (have wS:=p8 _ mS nSR nSx)
        (have wd:=p8 _ md ndR ndx)
        rw [hsu.length, List.take_length] at p4
        (have hId:I ≠ dS:=fun e=>hoff _ md e.symm)
        (have nTx:=fun hm9:_ ∈ ns.map (·.x)=>show False from by
          (refine eE1 (fun n=>?_) (List.mem_map.mp hm9); refine eA2 fun hn e=>?_)
          exact news_ne (fun p hp=>N8 p (.tail _ hp)) hT (hK _ (hns n hn).1) (fun e=>by cases e) e.symm)
        (have hTm:=fun o=>mem_filt (mem_upL_ne (o:=o) (p8 _ hT nTR nTx) nTd) (hoff _ hT))
        (have hRI:R ≠ I:=hoff _ mR)
        (have hdI:dS ≠ I:=hoff _ md)
        (have hRm:=fun o=>mem_filt (mem_upL_ne (o:=o) p5 nRd) hRI)
        (have hfin:∀ n ∈ ns2, ∀ o, NdIn ((upL dS o c7).filter fun p=>decide (p.1 ≠ I)) n:=fun n hn o=>by
          (refine eE1 (fun n0=>?_) (core_src p1 hn); refine eA5 fun g0 hC2 g1 g2 g3=>?_; clear hC2)
          have a:=p2 n hn
          have b:=hns n0 g0
          exact ⟨mem_filt (mem_upL_ne a.1 (fun e=>news_ne N7 a.1 wd (fun e=>by cases e) e)) (fun e=>hoff _ (hK _ b.1) (g1.trans e)), mem_filt (mem_upL_ne a.2.1 (fun e=>news_neo N7 a.2.1 wd (fun e=>by cases e) e)) (fun e=>hoff _ (hK _ b.2.1) (g2.trans e)), mem_filt (mem_upL_ne a.2.2 (fun e=>news_ne N7 a.2.2 wd (fun e=>by injection e with e; exact absurd e (by decide)) e)) (fun e=>hoff _ (hK _ b.2.2) (g3.trans e))⟩)
        k_steps
        (rename Fr _ _ _ _=>FE)
        (rename News _ _ _ _=>NE)
        (have N10:=news_front NE (mem_upL_ne p7 hId))
        refine hQY _ _ ?_
        dsimp only [TsPost]
        (refine' ts_end (ns2, rv, rk, rc, _) FE N10 (hTm _) front_ne ?w5 ⟨⟨fun h=>absurd h (by decide), fun _=>⟨p1, fun n hn=>hfin n hn _, p3, p4, hRm _, mem_filt (mem_upL_self wd) hdI, fun q hq h1 h2 h3=>mem_filt (mem_upL_ne (p8 q (hK q hq) h2 h3) h1) (hoff _ (hK q hq))⟩⟩, fun p hp=>mem_filt (mem_upL_ne (p8 p (hkc p hp) (fun e=>exc_ne N hR (hkn p hp).1 (hkn p hp).2 (fun _ q=>by cases q) e) (exc_nx N hns (hkn p hp).1 (hkn p hp).2)) (fun e=>exc_ne N hd (hkn p hp).1 (hkn p hp).2 (fun _ q=>by cases q) e)) (hoff _ (hkc p hp))⟩)
        (case w5 =>
          intro z z1 z3
          (have e1:=ne_of_in z3 (.head _))
          (have e2:=ne_of_in z3 (.tail _ (.head _)))
          (have e3:=ne_of_in z3 (.tail _ (.tail _ (.head _))))
          (have e4:=ne_of_in z3 (.tail _ (.tail _ (.tail _ (.head _)))))
          rw [if_neg e3, if_neg (by rw [not_in e4]; exact Bool.false_ne_true), if_neg e2, if_neg e1, if_neg z1, if_neg (by rw [z3]; exact Bool.false_ne_true)]))))
end
section
open PySem PySem.W PyProof.Rows PySem.Challenge PySem.Spec
noncomputable def LoopX (prog:Program) (w:World) (A:Around) (env:Env) (x:Str) (px:Pos) (body:List Stmt) (Q:Flow→Shared→Prop) (E:Value→Shared→Prop) (it:Value) (s₂:Shared):Prop :=
  codeAny (model prog w) A (.forLoop (.Name x px) it body [] env) (fun r s'=>match r with | .ok f=>Q f s' | .error e=>cameBackBy (model prog w) A env E e s') s₂
theorem forX {prog:Program} {w:World} {A:Around} {s:Shared} {env:Env} {x:Str} {body:List Stmt} {Q:Flow→Shared→Prop} {E:Value→Shared→Prop} {px pos:Pos} {iter:PySem.Expr}
    (h:wpAny (model prog w) A (eval iter env) (fun xv s₁=>wpAny (model prog w) A (pyIter xv) (fun it s₂=>LoopX prog w A env x px body Q E it s₂) E s₁) E s)
    (hs:∀ x, foldedSetIterable iter env x = pure x:=by intro _; rfl):wpAny (model prog w) A (exec (.For (.Name x px) iter body [] pos) env) Q E s:=wpAny_For h hs
noncomputable def KxEnd {τ:Type} (h₀:Heap) (L:Addr) (keep:List (Addr × Obj)) (ps:τ→List (Str × Value)) (x:Str) (stored:List Str) (m₀:Str→Option Value) (P:List (Addr × Obj)→τ→Prop) (I:Addr) (oI:Obj) (dr:Drawn) (os:OsState) (s₂:Shared):Prop :=
  ∃ (c:List (Addr × Obj)) (t:τ) (h':Heap) (gs:Array GenState) (tk:Nat) (m':Str→Option Value), s₂ = ⟨h', gs, dr, tk, os⟩ ∧ AllBare gs ∧ Fr h₀ L h' m' ∧ News h₀ L h' ((I, oI) :: c) ∧ (∀ p ∈ keep, p ∈ c) ∧ (∀ q ∈ c, q.1 ≠ I) ∧ (∀ p ∈ ps t, m' p.1 = some p.2) ∧ (∀ z, z ≠ x→(∀ p ∈ ps t, z ≠ p.1)→stored.contains z = false→m' z = m₀ z) ∧ P c t
noncomputable def KxPost {τ:Type} (h₀:Heap) (L:Addr) (keep:List (Addr × Obj)) (ps:τ→List (Str × Value)) (x:Str) (stored:List Str) (m₀:Str→Option Value) (P:List (Addr × Obj)→τ→Prop) (I:Addr) (oI:Obj) (dr:Drawn) (os:OsState) (Q:Flow→Shared→Prop) (f:Flow) (s₂:Shared):Prop :=
  match f with
  | .ret v=>Q (.ret v) s₂
  | .brk=>Q .next s₂
  | _=>KxEnd h₀ L keep ps x stored m₀ P I oI dr os s₂
theorem kx_end {τ:Type} {h₀:Heap} {L:Addr} {keep:List (Addr × Obj)} {ps:τ→List (Str × Value)} {x:Str} {stored:List Str} {m₀ m':Str→Option Value} {P:List (Addr × Obj)→τ→Prop} {I:Addr} {oI:Obj} {dr:Drawn} {os:OsState} {h':Heap} {gs:Array GenState} {tk:Nat} {c:List (Addr × Obj)} (t:τ) (hgb:AllBare gs)
    (F:Fr h₀ L h' m') (N:News h₀ L h' ((I, oI) :: c)) (hn:∀ p ∈ keep, p ∈ c) (ho:∀ q ∈ c, q.1 ≠ I) (hk:∀ p ∈ ps t, m' p.1 = some p.2) (hr:∀ z, z ≠ x→(∀ p ∈ ps t, z ≠ p.1)→stored.contains z = false→m' z = m₀ z) (hp:P c t) :
    KxEnd h₀ L keep ps x stored m₀ P I oI dr os ⟨h', gs, dr, tk, os⟩:=(iE6 c t h' gs tk m' ⟨rfl, hgb, F, N, hn, ho, hk, hr, hp⟩)
section
variable {prog:Program} {w:World} {A:Around} {E:Value→Shared→Prop} {env:Env} {h₀:Heap} {x:Str} {px:Pos} {body:List Stmt} {Q:Flow→Shared→Prop} {hp:Heap} {gs:Array GenState} {dr:Drawn} {tk:Nat} {os:OsState}
theorem kx_core {τ:Type} {I:Addr} {n:Nat} {Pv:Nat→Value→Prop} {St:Nat→Heap→Prop} {fp:List Addr} {m₀:Str→Option Value} {led:List (Addr × Obj)} (keep:List (Addr × Obj)) (ps:τ→List (Str × Value)) (stored:List Str) (P:Nat→List (Addr × Obj)→τ→Prop) (t₀:τ)
    (hx:env.kindOf x = some .local) (hpe:(env.scope.kind == .class || (env.scope.kind == .module && env.locals != env.globals)) = false) (hE:PassesOwn (model prog w) A env E) (hgb:AllBare gs)
    (W:Walks prog w A I fp [I] n Pv St) (hfpL:env.locals ∉ fp) (hI:h₀.get? I = none) (hIn:∀ q ∈ led, q.1 ≠ I) (hst:St 0 hp) (hstI:∀ i h, St i h→∃ o, h.get? I = some o)
    (hfp:∀ b ∈ fp, b ≠ I→∃ o, (b, o) ∈ keep) (hkeep:∀ p ∈ keep, p ∈ led)
    (F:Fr h₀ env.locals hp m₀) (N:News h₀ env.locals hp led) (hk:∀ p ∈ ps t₀, m₀ p.1 = some p.2) (hP:P 0 led t₀)
    (turn:∀ i v c t (u:Str→Option Value) h gs tk oI, AllBare gs→i < n→Pv i v→P i c t→(∀ p ∈ keep, p ∈ c)→(∀ q ∈ c, q.1 ≠ I) →
      Fr h₀ env.locals h (fun y=>if y = x then some v else kstB (fun z=>if stored.contains z then u z else m₀ z) (ps t) y)→News h₀ env.locals h ((I, oI) :: c) →
      wpAny (model prog w) A (execs body env) (KxPost h₀ env.locals keep ps x stored m₀ (P (i + 1)) I oI dr os Q) E ⟨h, gs, dr, tk, os⟩)
    (done:∀ c t (u:Str→Option Value) h gs tk, AllBare gs→P n c t→(∀ p ∈ keep, p ∈ c)→Fr h₀ env.locals h (fun y=>if y = x then u y else kstB (fun z=>if stored.contains z then u z else m₀ z) (ps t) y)→News h₀ env.locals h c→Q .next ⟨h, gs, dr, tk, os⟩) :
    LoopX prog w A env x px body Q E (.ref I) ⟨hp, gs, dr, tk, os⟩:=by
  have hIL:env.locals ≠ I:=fun e=>hfpL (e ▸ W.sub I (.head _))
  refine codeAny_forLoop_any
    (fun k s'=>∃ h' gs' tk' m' c t i, s' = ⟨h', gs', dr, tk', os⟩ ∧ AllBare gs' ∧ St i h' ∧ Fr h₀ env.locals h' m' ∧ News h₀ env.locals h' c ∧ (∀ p ∈ keep, p ∈ c) ∧ (∀ q ∈ c, q.1 ≠ I) ∧ (∀ p ∈ ps t, m' p.1 = some p.2) ∧ (∀ z, z ≠ x→(∀ p ∈ ps t, z ≠ p.1)→stored.contains z = false→m' z = m₀ z) ∧ P i c t ∧ i ≤ n ∧ k = n + 1 - i) ?_ (n + 1)
    (iE7 hp gs tk m₀ led t₀ 0 ⟨rfl, hgb, hst, F, N, hkeep, hIn, hk, fun _ _ _ _=>rfl, hP, Nat.zero_le _, rfl⟩)
  (rintro k s'; (refine eE7 fun h' gs' tk' m' c t i=>?_; refine eA12 fun hR7 hgb' hst' F' N' hkp hoff hk' hr' hP' hi hR18=>?_; subst hR7 hR18))
  have next:∀ h₁:Heap, (∀ b o, b ∉ [I]→h'.get? b = some o→h₁.get? b = some o)→Fr h₀ env.locals h₁ m' ∧ News h₀ env.locals h₁ c:=fun h₁ hk₁ =>
    ⟨⟨F'.ns.at' fun o e=>hk₁ _ o (fun q=>hIL (List.mem_singleton.mp q)) e, fun b o e=>hk₁ b o (fun q=>by rw [List.mem_singleton.mp q, hI] at e; cases e) (F'.keep b o e), F'.above⟩, fun p hp=>⟨hk₁ _ _ (fun q=>hoff p hp (List.mem_singleton.mp q)) (N' p hp).1, (N' p hp).2⟩⟩
  by_cases hlt:i < n
  · refine W.item i _ _ _ hlt hst' fun v h₁ tk₁ hPv hst₁ hk₁=>?_
    refine eA2 (fun F₁ N₁=>?_) (next h₁ hk₁)
    show wpAny _ A (letOwnedTupleGo (.Name x px) (.ref I) v) _ _ _
    refine wpAny_of_eq (rfl:letOwnedTupleGo (.Name x px) (.ref I) v = pure ()) ?_
    refine wpAny_assign_Name (wpAny_storeName_local hx F₁.ns (fun h₂ hn₂ hs₂=>?_) hpe)
    have F₂:=F₁.set hn₂ hs₂
    have N₂:=N₁.set hs₂
    have hst₂:St (i + 1) h₂:=W.frame _ _ _ hst₁ fun b hb o e=>(hs₂.2 b fun q=>hfpL (q ▸ hb)).trans e
    refine eE1 (fun oI hoI=>?_) (hstI _ _ hst₂)
    have N₃:News h₀ env.locals h₂ ((I, oI) :: c):=fun p hp=>by
      rcases List.mem_cons.mp hp with rfl | hp
      · exact ⟨hoI, fun e=>hIL e.symm, hI⟩
      · exact N₂ p hp
    refine wpAny_mono (turn i v c t m' h₂ gs' _ oI hgb' hlt hPv hP' hkp hoff ?_ N₃) (fun f s₃ h₃=>?_) hE
    · exact kst_fr hk' hr' F₂
    · have fin:KxEnd h₀ env.locals keep ps x stored m₀ (P (i + 1)) I oI dr os s₃→∃ m, m < n + 1 - i ∧ ∃ h' gs' tk' m' c t i, s₃ = ⟨h', gs', dr, tk', os⟩ ∧ AllBare gs' ∧ St i h' ∧ Fr h₀ env.locals h' m' ∧ News h₀ env.locals h' c ∧ (∀ p ∈ keep, p ∈ c) ∧ (∀ q ∈ c, q.1 ≠ I) ∧ (∀ p ∈ ps t, m' p.1 = some p.2) ∧ (∀ z, z ≠ x→(∀ p ∈ ps t, z ≠ p.1)→stored.contains z = false→m' z = m₀ z) ∧ P i c t ∧ i ≤ n ∧ m = n + 1 - i:=by
        ((refine eE6 fun c' t' h' gs' tk m''=>?_; refine eA9 fun hR6 hgb9 F' N' hn ho hk' hr' hp9=>?_; subst hR6))
        refine ⟨n + 1 - (i + 1), by lia, (iE7 h' gs' tk m'' c' t' (i + 1) ⟨rfl, hgb9, ?_, F', fun p hp=>N' p (.tail _ hp), hn, ho, hk', hr', hp9, hlt, rfl⟩)⟩
        refine W.frame _ _ _ hst₂ fun b hb o e=>?_
        by_cases hbI:b = I
        · subst hbI
          rw [hoI] at e
          rw [← Option.some.inj e]
          exact (N' _ (.head _)).1
        · refine eE1 (fun o' ho'=>?_) (hfp b hb hbI)
          have a:=(N₂ _ (hkp _ ho')).1
          rw [e] at a
          rw [Option.some.inj a]
          exact (N' _ (.tail _ (hn _ ho'))).1
      cases f with
      | ret v=>exact h₃
      | brk=>exact h₃
      | next=>exact fin h₃
      | cont=>exact fin h₃
  · have hin:i = n:=by lia
    subst hin
    refine W.done _ _ _ hst' fun h₁ tk₁ hk₁=>wpAny_execs_nil ?_
    refine eA2 (fun F₁ N₁=>?_) (next h₁ hk₁)
    exact done c t m' h₁ gs' tk₁ hgb' hP' hkp (kst_frOut hk' hr' F₁) N₁
theorem kx_list {τ:Type} {l:Addr} {vs:List Value} {nn:Nat} {m₀:Str→Option Value} {led:List (Addr × Obj)} (ps:τ→List (Str × Value)) (stored:List Str) (P:Nat→List (Addr × Obj)→τ→Prop) (t₀:τ)
    (hx:env.kindOf x = some .local) (hpe:(env.scope.kind == .class || (env.scope.kind == .module && env.locals != env.globals)) = false) (hE:PassesOwn (model prog w) A env E) (hgb:AllBare gs)
    (hh:A.handled = none) (hl:(l, W.listOf vs.toArray nn) ∈ led) (F:Fr h₀ env.locals hp m₀) (N:News h₀ env.locals hp led) (hk:∀ p ∈ ps t₀, m₀ p.1 = some p.2) (hP:P 0 led t₀)
    (turn:∀ i v c t (u:Str→Option Value) h gs tk I oI, AllBare gs→vs[i]? = some v→P i c t→(l, W.listOf vs.toArray nn) ∈ c→(∀ q ∈ c, q.1 ≠ I)→(∀ q ∈ led, q.1 < I) →
      Fr h₀ env.locals h (fun y=>if y = x then some v else kstB (fun z=>if stored.contains z then u z else m₀ z) (ps t) y)→News h₀ env.locals h ((I, oI) :: c) →
      wpAny (model prog w) A (execs body env) (KxPost h₀ env.locals [(l, W.listOf vs.toArray nn)] ps x stored m₀ (P (i + 1)) I oI dr os Q) E ⟨h, gs, dr, tk, os⟩)
    (done:∀ c t (u:Str→Option Value) h gs tk, AllBare gs→P vs.length c t→(l, W.listOf vs.toArray nn) ∈ c→Fr h₀ env.locals h (fun y=>if y = x then u y else kstB (fun z=>if stored.contains z then u z else m₀ z) (ps t) y)→News h₀ env.locals h c→Q .next ⟨h, gs, dr, tk, os⟩) :
    wpAny (model prog w) A (pyIter (.ref l)) (fun it s₂=>LoopX prog w A env x px body Q E it s₂) E ⟨hp, gs, dr, tk, os⟩:=by
  have hol:=(N _ hl).1
  have hls:hp.IsList l vs.toArray:=⟨_, hol, rfl, nn, rfl⟩
  have lt:∀ q ∈ led, q.1 < hp.objs.size:=fun q hq=>Heap.lt_size (N q hq).1
  have hne:l ≠ hp.objs.size:=Nat.ne_of_lt (lt _ hl)
  refine wpAny_pyIter_list (s:=⟨hp, gs, dr, tk, os⟩) hls ?_
  refine kx_core [(l, W.listOf vs.toArray nn)] ps stored P t₀ hx hpe hE hgb (Walks.list (prog:=prog) (w:=w) hh hp.objs.size l hne vs.toArray) ?_ (next_is_new F) (fun q hq=>Nat.ne_of_lt (lt q hq)) ⟨⟨_, Heap.get?_push_size _ rfl, rfl, rfl⟩, hls.at fun o e=>Heap.get?_push_of_some _ e⟩ ?_ ?_ (fun p hp=>by rw [List.mem_singleton.mp hp]; exact hl) (F.push _) (fun p hp=>⟨Heap.get?_push_of_some _ (N p hp).1, (N p hp).2⟩) hk hP ?_ ?_
  · intro hm
    rcases List.mem_cons.mp hm with e | hm
    · exact absurd F.ns.lt (e ▸ Nat.lt_irrefl _)
    · exact (N _ hl).2.1 ((List.mem_singleton.mp hm).symm)
  · (rintro i h; (refine eA2 fun hP0 _=>?_; obtain ⟨o, ho, _⟩:=hP0))
    exact ⟨o, ho⟩
  · intro b hb hn
    rcases List.mem_cons.mp hb with e | hb
    · exact absurd e hn
    · rw [List.mem_singleton.mp hb]
      exact ⟨_, .head _⟩
  · intro i v c t u h gs tk oI hgb hi hv hP hkp hoff F' N'
    exact turn i v c t u h gs tk _ oI hgb (by simpa using hv) hP (hkp _ (.head _)) hoff lt F' N'
  · intro c t u h gs tk hgb hP hkp F' N'
    rw [List.size_toArray] at hP
    exact done c t u h gs tk hgb hP (hkp _ (.head _)) F' N'
theorem kx_range {τ:Type} {r:Addr} {a₀ b₀:Int} {t₁ u₁ v₁:Tok} {n:Nat} {m₀:Str→Option Value} {led:List (Addr × Obj)} (ps:τ→List (Str × Value)) (stored:List Str) (P:Nat→List (Addr × Obj)→τ→Prop) (t₀:τ)
    (hx:env.kindOf x = some .local) (hpe:(env.scope.kind == .class || (env.scope.kind == .module && env.locals != env.globals)) = false) (hE:PassesOwn (model prog w) A env E) (hgb:AllBare gs)
    (hh:A.handled = none) (hr:IsRange hp r a₀ b₀ 1 t₁ u₁ v₁) (hsmall:Builtin.Range.small a₀ b₀ 1 = true) (hn:Builtin.Range.rangeSize a₀ b₀ 1 = (n:Int)) (F:Fr h₀ env.locals hp m₀) (N:News h₀ env.locals hp led) (hk:∀ p ∈ ps t₀, m₀ p.1 = some p.2) (hP:P 0 led t₀)
    (turn:∀ i c t (u:Str→Option Value) h gs tk I oI tv, AllBare gs→i < n→P i c t→(∀ q ∈ c, q.1 ≠ I)→(∀ q ∈ led, q.1 < I) →
      Fr h₀ env.locals h (fun y=>if y = x then some (.int (a₀ + (i:Int)) tv) else kstB (fun z=>if stored.contains z then u z else m₀ z) (ps t) y)→News h₀ env.locals h ((I, oI) :: c) →
      wpAny (model prog w) A (execs body env) (KxPost h₀ env.locals [] ps x stored m₀ (P (i + 1)) I oI dr os Q) E ⟨h, gs, dr, tk, os⟩)
    (done:∀ c t (u:Str→Option Value) h gs tk, AllBare gs→P n c t→Fr h₀ env.locals h (fun y=>if y = x then u y else kstB (fun z=>if stored.contains z then u z else m₀ z) (ps t) y)→News h₀ env.locals h c→Q .next ⟨h, gs, dr, tk, os⟩) :
    wpAny (model prog w) A (pyIter (.ref r)) (fun it s₂=>LoopX prog w A env x px body Q E it s₂) E ⟨hp, gs, dr, tk, os⟩:=by
  have lt:∀ q ∈ led, q.1 < hp.objs.size:=fun q hq=>Heap.lt_size (N q hq).1
  refine wpAny_pyIter_range (s:=⟨hp, gs, dr, tk, os⟩) hr hsmall ?_
  have W:Walks prog w A hp.objs.size [hp.objs.size] [hp.objs.size] n (fun i v=>i < n ∧ ∃ t, v = .int (a₀ + i * 1) t)
      (fun i h=>IsRangeIter h hp.objs.size (a₀ + (i:Nat) * 1) ((n:Int) - (i:Nat)) 1):=(Walks.range hh _ a₀ 1 n).bound
  refine kx_core [] ps stored P t₀ hx hpe hE hgb W ?_ (next_is_new F) (fun q hq=>Nat.ne_of_lt (lt q hq)) (by show IsRangeIter _ _ _ _ _; rw [hn]; simpa using Heap.get?_push_size _ rfl) ?_ ?_ (List.forall_mem_nil _) (F.push _) (fun p hp=>⟨Heap.get?_push_of_some _ (N p hp).1, (N p hp).2⟩) hk hP ?_ (fun c t u h gs tk hgb hP _ F' N'=>done c t u h gs tk hgb hP F' N')
  · intro hm
    exact absurd F.ns.lt ((List.mem_singleton.mp hm) ▸ Nat.lt_irrefl _)
  · intro i h st
    exact ⟨_, st⟩
  · intro b hb hne
    exact absurd (List.mem_singleton.mp hb) hne
  · (rintro i v c t u h gs tk oI hgb hi; (refine eA2 fun _=>?_; refine eE1 fun tv hR2=>?_; subst hR2); rintro hP _ hoff F' N')
    rw [show a₀ + (i:Int) * 1 = a₀ + (i:Int) by lia] at F'
    exact turn i c t u h gs tk _ oI tv hgb hi hP hoff lt F' N'
end
end
section
open PySem PySem.W PyProof.Rows PySem.Challenge PySem.Spec PySem.Calls Builtin Builtin.ObjectAttr
noncomputable abbrev mwObj (self:Value):Obj:={ cls:=.type "method-wrapper", data:=.fields #[.builtin "list_iterator.__next__", self] }
theorem type_wd_get:typeLookup (.type "wrapper_descriptor") "__get__" = pure (some (.builtin "wrapper_descriptor.__get__")):=by rw [typeLookup_type, builtinLookup_eq_fast]; kernel_rfl
theorem entry_wd_get:entryFor table "wrapper_descriptor.__get__" = some Builtin.«wrapper_descriptor.__get__»:=entryFor_of_tree (by kernel_rfl)
theorem type_li_next:typeOf (.builtin "list_iterator.__next__") = pure (.type "wrapper_descriptor"):=by kernel_rfl
theorem slot_li_ga:Slot "list_iterator" "__getattribute__" "object.__getattribute__":=by
  exact .of (owner:="object") (n:="__getattribute__") (by rw [typeLookup_type, builtinLookup_eq_fast]; kernel_rfl) (by decide +kernel) (by decide +kernel) (by decide +kernel) (by first | exact .inl (by decide +kernel) | exact .inr (by decide +kernel)) (by rw [isSubtype_type]; kernel_rfl)
theorem entry_obj_ga:entryFor table "object.__getattribute__" = some Builtin.«object.__getattribute__»:=entryFor_of_tree (by kernel_rfl)
theorem args_obj_ga (a b:Value):argsOk "object.__getattribute__" ⟨[a, b], []⟩:=by unfold argsOk; kernel_rfl
noncomputable def ExcAt (X:String) (h h':Heap) (e:Addr):Prop:=(∀ b o, h.get? b = some o→h'.get? b = some o) ∧ h.get? e = none ∧ ∃ ob vs a0, h'.get? e = some ob ∧ ob.cls = .type X ∧ ob.data = .fields vs ∧ vs[1]? = some .none ∧ vs[0]? = some a0
section
variable {prog:Program} {w:World} {A:Around} {E:Value→Shared→Prop} {Q:Value→Shared→Prop} {hp:Heap} {gs:Array GenState} {dr:Drawn} {tk:Nat} {os:OsState} {d:Addr}
theorem bound_next {o:Obj} (ho:hp.get? d = some o) (hc:o.cls = .type "list_iterator") (hd:o.dict = none) {x:Array Value} (hx:o.data = .fields x) (h:Q (.ref hp.objs.size) ⟨hp.push (mwObj (.ref d)), gs, dr, tk + 1, os⟩) :
    wpAny (model prog w) A (getAttr (.ref d) "__next__" true) Q E ⟨hp, gs, dr, tk, os⟩:=by
  obtain ⟨oc, od, ox, sl⟩:=o
  dsimp only at hc hd hx
  subst hc hd hx
  have f3:Looks (model prog w) hp (typeLookup (.type "list_iterator") "__getattribute__") (some (.builtin "object.__getattribute__")):=Looks.of_pure slot_li_ga.lookup
  have f5:Looks (model prog w) hp (typeLookup (.type "list_iterator") "__next__") (some (.builtin "list_iterator.__next__")):=Looks.of_pure slot_listiter_next.lookup
  have f6:Looks (model prog w) hp (typeOf (.builtin "list_iterator.__next__")) (.type "wrapper_descriptor"):=Looks.of_pure type_li_next
  have f7:Looks (model prog w) hp (typeLookup (.type "wrapper_descriptor") "__get__") (some (.builtin "wrapper_descriptor.__get__")):=Looks.of_pure type_wd_get
  have hT:∀ s':Shared, s'.heap = hp→s'.TypeIs (.ref d) "list_iterator":=fun s' e=>⟨_, e ▸ ho, rfl⟩
  unfold getAttr
  repeat lk
  refine nd_call ?_
  refine codeAny_call_builtin slot_li_ga.plain entry_obj_ga ?_
  refine slot_li_ga.check _ _ _ _ _ _ _ _ (hT _ rfl) (args_obj_ga _ _) ?_
  unfold Builtin.«object.__getattribute__»
  repeat lk
  refine nd_call (codeAny_call_builtin (by decide +kernel) entry_wd_get ?_)
  repeat lk
  exact h
theorem call_bnext {q l:Addr} {o:Obj} {i:Nat} {items:Array Value} {x:Value} {R:Result→Shared→Prop} (hq:hp.get? q = some (mwObj (.ref d))) (ho:hp.get? d = some o) (hc:o.cls = .type "list_iterator") (hx:o.data = .fields #[.ref l, .int i 0]) (hl:hp.IsList l items) (hi:items[i]? = some x)
    (h:∀ h', h'.IsListIter d l (i + 1)→Heap.SameBut d hp h'→R (.ok (.ret x)) ⟨h', gs, dr, tk, os⟩):codeAny (model prog w) A (.call (.ref q) ⟨[], []⟩) R ⟨hp, gs, dr, tk, os⟩:=by
  refine codeAny_of_tree ?_
  show wpAny _ _ (callAny (.ref q) _) _ _ _
  repeat lk
  refine ⟨Code.quiet_builtin _ (by decide +kernel), codeAny_builtin entry_listiter_next ?_⟩
  rw [Around.under_plainId slot_listiter_next.plain]
  (revert hl; refine eE1 fun ol=>?_; refine eA3 fun hol _=>?_; refine eE1 fun nl hdl=>?_)
  show wpAny _ _ (field (.ref d) 0 >>= _) _ _ _
  refine wpAny_bind (wpAny_field ho hx (x:=.ref l) rfl ?_)
  show wpAny _ _ (if (Value.ref l == Value.none) = true then _ else _) _ _ _
  rw [if_neg (show ¬ ((Value.ref l == Value.none) = true) from Bool.false_ne_true)]
  show wpAny _ _ (field (.ref d) 1 >>= _) _ _ _
  refine wpAny_bind (wpAny_field ho hx (x:=.int i 0) rfl ?_)
  show wpAny _ _ (seqItems? (.ref l) >>= _) _ _ _
  refine wpAny_bind (wpAny_seqItems hol hdl ?_)
  simp only [Int.toNat_natCast, hi]
  refine wpAny_bind (wpAny_setField ho hx (by simp) (wpAny_pure (h _ ?_ (Heap.SameBut.update ..))))
  exact ⟨_, Heap.get?_update_self _ ho (Obj.isFreed_of_fields (Obj.data_mapFields hx _)), (Obj.cls_mapFields ..).trans hc, by
    rw [Obj.data_mapFields hx]; simp [rawInt]⟩
theorem call_bend {q l:Addr} {o:Obj} {i:Nat} {items:Array Value} {R:Result→Shared→Prop} (hh:A.handled = none) (hq:hp.get? q = some (mwObj (.ref d))) (ho:hp.get? d = some o) (hc:o.cls = .type "list_iterator") (hx:o.data = .fields #[.ref l, .int i 0]) (hl:hp.IsList l items) (hi:items[i]? = none)
    (h:∀ h1 h' e, Heap.SameBut d hp h1→ExcAt "StopIteration" h1 h' e→R (.error (.ref e)) ⟨h', gs, dr, tk, os⟩):codeAny (model prog w) A (.call (.ref q) ⟨[], []⟩) R ⟨hp, gs, dr, tk, os⟩:=by
  refine codeAny_of_tree ?_
  show wpAny _ _ (callAny (.ref q) _) _ _ _
  repeat lk
  refine ⟨Code.quiet_builtin _ (by decide +kernel), codeAny_builtin entry_listiter_next ?_⟩
  rw [Around.under_plainId slot_listiter_next.plain]
  (revert hl; refine eE1 fun ol=>?_; refine eA3 fun hol _=>?_; refine eE1 fun nl hdl=>?_)
  show wpAny _ _ (field (.ref d) 0 >>= _) _ _ _
  refine wpAny_bind (wpAny_field ho hx (x:=.ref l) rfl ?_)
  show wpAny _ _ (if (Value.ref l == Value.none) = true then _ else _) _ _ _
  rw [if_neg (show ¬ ((Value.ref l == Value.none) = true) from Bool.false_ne_true)]
  show wpAny _ _ (field (.ref d) 1 >>= _) _ _ _
  refine wpAny_bind (wpAny_field ho hx (x:=.int i 0) rfl ?_)
  show wpAny _ _ (seqItems? (.ref l) >>= _) _ _ _
  refine wpAny_bind (wpAny_seqItems hol hdl ?_)
  simp only [Int.toNat_natCast, hi]
  refine wpAny_bind (wpAny_rule (wpAny_bind (wpAny_setField ho hx (by simp) ?_)))
  show wpAny _ _ (newExc (.type "StopIteration") [] >>= _) _ _ _
  refine wpAny_bind ?_
  simp only [newExc, newTuple]
  refine wpAny_bind (wpAny_newObj_type ?_ (by size_fits))
  refine wpAny_bind (m:=firstArgMember _ _) (wpAny_of_eq (a:=Value.none) (by first | rfl | (simp only [firstArgMember]; rfl)) ?_)
  refine wpAny_newObj_type ?_ (by size_fits)
  simp only [raiseNew]
  refine wpAny_bind (wpAny_handled ?_)
  rw [show A.in1.handled = none from hh]
  refine wpAny_bind (wpAny_pure (wpAny_throw ?_))
  refine h (hp.update d (Obj.mapFields fun x=>x.setIfInBounds 0 Value.none)) _ _ (Heap.SameBut.update ..) ⟨fun b o e=>Heap.get?_push_of_some _ (Heap.get?_push_of_some _ e), ?_, (iE3 _ _ (.ref (hp.update d (Obj.mapFields fun x=>x.setIfInBounds 0 Value.none)).objs.size) ⟨Heap.get?_push_size _ rfl, rfl, rfl, ?_, ?_⟩)⟩
  · exact Heap.get?_none_of_le (by rw [Heap.size_push]; exact Nat.le_succ _)
  · rw [Array.getElem?_append_left (by simp)]; rfl
  · rw [Array.getElem?_append_left (by simp)]; rfl
theorem callNext {h₀:Heap} {L q l:Addr} {m:Str→Option Value} {oI:Obj} {i c:Nat} {vs:List Value} {news:List (Addr × Obj)} (hh:A.handled = none) (F:Fr h₀ L hp m) (N:News h₀ L hp news) (hq:(q, mwObj (.ref d)) ∈ news) (hd:(d, oI) ∈ news) (hI:oI.cls = .type "list_iterator" ∧ oI.data = .fields #[.ref l, .int i 0]) (hl:(l, listOf vs.toArray c) ∈ news)
    (h1:∀ x h' oI', vs[i]? = some x→oI'.cls = .type "list_iterator"→oI'.data = .fields #[.ref l, .int ((i + 1:Nat):Int) 0]→Fr h₀ L h' m→News h₀ L h' (upL d oI' news)→Q x ⟨h', gs, dr, tk, os⟩)
    (h2:vs[i]? = none→∀ h1 h' e, Fr h₀ L h1 m→News h₀ L h1 (news.filter fun p=>decide (p.1 ≠ d))→ExcAt "StopIteration" h1 h' e→E (.ref e) ⟨h', gs, dr, tk, os⟩) :
    wpAny (model prog w) A (call (.ref q) []) Q E ⟨hp, gs, dr, tk, os⟩:=by
  have nd:=N _ hd
  have hls:hp.IsList l vs.toArray:=⟨_, (N _ hl).1, rfl, c, rfl⟩
  refine wpAny_call ?_
  cases hx:vs[i]? with
  | some x =>
    refine call_bnext (N _ hq).1 nd.1 hI.1 hI.2 hls (by simpa using hx) fun h' ⟨oI', e1, e2, e3⟩ hs=>?_
    refine h1 x h' oI' hx e2 e3 (F.change hs nd.2.1 nd.2.2) fun p hp=>?_
    rcases upL_mem hp with rfl | ⟨hp, hne⟩
    · exact ⟨e1, nd.2⟩
    · exact ⟨(hs.2 p.1 hne).trans (N p hp).1, (N p hp).2⟩
  | none =>
    refine call_bend hh (N _ hq).1 nd.1 hI.1 hI.2 hls (by simpa using hx) fun h1 h' e hs he=>?_
    refine h2 hx h1 h' e (F.change hs nd.2.1 nd.2.2) (fun p hp=>?_) he
    have hp':=List.mem_filter.mp hp
    exact ⟨(hs.2 p.1 (of_decide_eq_true hp'.2)).trans (N p hp'.1).1, (N p hp'.1).2⟩
end
section
variable {M:Model} {A:Around} {E:Value→Shared→Prop} {s:Shared}
theorem note_first {base:Heap} {env:Env} {outer:List Env} {L e:Addr} {oe:Obj} {vs:Array Value} {a0:Value} {Q:Unit→Shared→Prop}
    (hfr:A.frames = some (env :: outer)) (hl:s.heap.FunFrames base (env :: outer)) (hf:env.frame = some L)
    (he:s.heap.get? e = some oe) (hkb:base.StaysIn s.heap) (hen:base.get? e = none) (hd:oe.data = .fields vs) (h1:vs[1]? = some .none) (h0:vs[0]? = some a0)
    (hQ:∀ h', Heap.HeldW base (env :: outer) e oe.cls a0 L h'→s.heap.UpToSlots h'→Q () { s with heap:=h' }):wpAny M A (noteFrame (.ref e) env) Q E s:=by
  unfold noteFrame
  simp only [hf]
  refine wpAny_bind (wpAny_field he hd h1 ?_)
  rw [if_neg (by decide)]
  exact wpAny_entryW hfr hl hf he hkb hen hd (Array.getElem?_eq_some_iff.mp h1).1 h0 fun h' hN=>hQ h' ⟨hN.1, hen, hN.2.1, hN.2.2.1⟩ hN.2.2.2
end
section
variable {prog:Program} {w:World} {A₀:Around} {E:Value→Shared→Prop} {s':Shared} {h₀ h:Heap} {outer:List Env} {L a e:Addr} {m:Str→Option Value} {name:Str} {scope:Scope} {cd:Value}
  {b₀:Stmt} {suite:List Stmt} {pos np:Pos} {rest:List ExceptHandler} {Q:Flow→Shared→Prop} {news:List (Addr × Obj)}
  {p:Program} {loose:List Str} {mean:ExcName→Option Value} {mg mb:Str→Option Value} {x:Str} {X T':String}
end
end
section
open PySem PySem.W PyProof.Rows PySem.Challenge PySem.Spec
theorem whileX {prog:Program} {w:World} {A:Around} {s:Shared} {env:Env} {test:PySem.Expr} {body orelse:List Stmt} {pos:Pos} {Q:Flow→Shared→Prop} {E:Value→Shared→Prop} (I:Nat→Shared→Prop) (hE:PassesOwn (model prog w) A env E)
    (turn:∀ n s, I n s→wpAny (model prog w) A (isTrue test env (eval test env)) (fun b s₂=>if b = true then wpAny (model prog w) A (execs body env) (fun f s₃=>match f with
        | .next | .cont=>∃ m, m < n ∧ I m s₃
        | .brk=>Q .next s₃
        | .ret v=>Q (.ret v) s₃) E s₂ else wpAny (model prog w) A (execs orelse env) Q E s₂) E s)
    (n:Nat) (hI:I n s):wpAny (model prog w) A (exec (.While test body orelse pos) env) Q E s:=by
  refine wpAny_While (codeAny_whileLoop I (fun n s hs=>wpAny_mono (turn n s hs) (fun b s₂ h₂=>?_) hE) n hI)
  cases b with
  | false =>
    simp only [Bool.false_eq_true, if_false] at h₂ ⊢
    exact wpAny_mono h₂ (fun _ _ x=>x) hE
  | true =>
    simp only [if_true] at h₂ ⊢
    exact wpAny_mono h₂ (fun f _ x=>by cases f <;> exact x) hE
section
variable {prog:Program} {w:World} {A:Around} {E:Value→Shared→Prop} {hp h₀:Heap} {gs:Array GenState} {dr:Drawn} {tk0:Nat} {os:OsState} {L l d:Addr} {m:Str→Option Value} {news:List (Addr × Obj)}
theorem itemLast {Q:Value→Shared→Prop} {value slice:PySem.Expr} {xs:List Value} {x:Value} {n:Nat} {t:Tok} (N:News h₀ L hp news) (hm:(l, listOf (xs ++ [x]).toArray n) ∈ news) (hz:xs.length ≤ 100000) (h:Q x ⟨hp, gs, dr, tk0, os⟩)
    (hs:subscripted slice false (.ref l) (.int (-1) t) = operate [.ref l, .int (-1) t] (getItem (.ref l) (.int (-1) t)):=by with_unfolding_all rfl):wpAny (model prog w) A (subscriptTail value slice (.ref l) (.int (-1) t)) Q E ⟨hp, gs, dr, tk0, os⟩:=by
  have hl:=News.isList N hm
  exact tail_any hl.typeIs slot_list_getitem.lookup (wpAny_getItem_list_neg hl (by decide) (by rw [List.size_toArray, List.length_append, List.length_singleton]; lia) (by decide) (by rw [List.size_toArray, List.length_append, List.length_singleton, show ((-1:Int) + ((xs.length + 1:Nat):Int)).toNat = xs.length by lia]; simp) h) hs
theorem popU {Q:Value→Shared→Prop} {xs:List Value} {x:Value} {n:Nat} (F:Fr h₀ L hp m) (N:News h₀ L hp news) (hm:(l, listOf (xs ++ [x]).toArray n) ∈ news) (hz:xs.length ≤ 100000)
    (h:∀ h', Fr h₀ L h' m→News h₀ L h' (upL l (listOf xs.toArray (n + 1)) news)→Q x ⟨h', gs, dr, tk0, os⟩):wpAny (model prog w) A (call (.builtin "list.pop") [.ref l]) Q E ⟨hp, gs, dr, tk0, os⟩ :=
  kl_pop (s:=⟨hp, gs, dr, tk0, os⟩) F (news_front N hm) (by rw [List.toList_toArray]; exact kpa_last x xs) (Upd.head front_ne) (by rw [sizeLine_eq]; simp; lia) fun h' F' N'=>h h' F' (news_back N')
theorem delU {Q:Unit→Shared→Prop} {o:Obj} {kvs:List (Int × Value)} {k:Int} {t:Tok} (F:Fr h₀ L hp m) (N:News h₀ L hp news) (hm:(d, o) ∈ news) (ho:o.IsDictOf (intKind prog w) kvs) (hk:(valueAt kvs k).isSome = true) (hz:kvs.length ≤ 100000)
    (h:∀ h' o' tk', Fr h₀ L h' m→News h₀ L h' (upL d o' news)→o'.IsDictOf (intKind prog w) (without kvs k)→Q () ⟨h', gs, dr, tk', os⟩):wpAny (model prog w) A (delItem (.ref d) (.int k t)) Q E ⟨hp, gs, dr, tk0, os⟩ :=
  kob_del (s:=⟨hp, gs, dr, tk0, os⟩) F (news_front N hm) (UpdF.head front_ne) ho (intKind_is _ _ _ _) hk (by rw [sizeLine_eq]; lia) fun h' o' F' N' hd=>h h' o' _ F' (news_back N') hd
end
noncomputable def MwAt (q:Addr) (self:Value) (h:Heap):Prop:=h.get? q = some (mwObj self)
theorem keeps_MW {M:Model} {q:Addr} {self:Value} (h:Heap) (X:MwAt q self h):∃ k, (k = Keeper.frame ∨ k = Keeper.machine ∨ k = Keeper.boundFrame) ∧ Looks M h (keeperOf (.ref q)) k :=
  ⟨.machine, .inr (.inl rfl), (Looks.ld (part:=none) X).andThen .now⟩
theorem callWith_MW {M:Model} {A:Around} {Q E:Value→Shared→Prop} {env:Env} {pos:Pos} {s:Shared} {q:Addr} {self:Value} (hq:MwAt q self s.heap) (h:wpAny M A (call (.ref q) []) Q E s) :
    wpAny M A (callWith pos (.ref q) [] (backTo pos (starEach [] env)) []) Q E s :=
  callWith_of (P:=MwAt q self) (by rfl) keeps_MW (wpAny_pure ⟨hq, h⟩)
noncomputable abbrev fcE (L:Addr):Env:=envOf (Str.ofString "TopologicalSorter._find_cycle") (scopeOf (sub 14 9)) L 430 (.ref 429)
noncomputable abbrev fcM0 (S D K T Z V:Addr):Str→Option Value:=fun y=>if y = Str.ofString "node2stacki" then some (.ref V) else if y = Str.ofString "seen" then some (.ref Z) else if y = Str.ofString "itstack" then some (.ref T) else if y = Str.ofString "stack" then some (.ref K) else if y = Str.ofString "n2i" then some (.ref D) else List.lookup y [(Str.ofString "self", .ref S)]
noncomputable abbrev fcM (S D K T Z V:Addr) (nv:Value):Str→Option Value:=fun y=>if y = Str.ofString "node" then some nv else fcM0 S D K T Z V y
noncomputable abbrev fcFor:Stmt:=(bodyOf (sub 14 9)).getD 5 (.Pass ⟨0, 0, 0, 0⟩)
noncomputable def forB (s:Stmt):List Stmt:=(stPart s).2.2.1
noncomputable abbrev fcTurn:List Stmt:=forB fcFor
noncomputable abbrev fcWhile:Stmt:=fcTurn.getD 1 (.Pass ⟨0, 0, 0, 0⟩)
noncomputable abbrev fcBody:List Stmt:=forB fcWhile
noncomputable abbrev fcIf:Stmt:=fcBody.getD 0 (.Pass ⟨0, 0, 0, 0⟩)
noncomputable abbrev fcInner:Stmt:=fcBody.getD 1 (.Pass ⟨0, 0, 0, 0⟩)
noncomputable abbrev fcInnerB:List Stmt:=forB fcInner
end
section
open PySem PySem.W PyProof.Rows PySem.Challenge PySem.Spec PySem.Calls
structure Gr (KF:Frag) (p:Program) (loose:List Str) (mean:ExcName→Option Value) (mg mb:Str→Option Value) (A₀:Around) (base:Heap) (outer:List Env) (g₀ g:Heap):Prop where
  T:KtsTurn (outer.filterMap (·.frame)) g₀ g
  K:Below A₀ base outer g
  X:KF.In g
  P:Top p loose mean mg mb g
  D:KtsDicts (outer.filterMap (·.frame)) g
section
variable {prog:Program} {w:World} {A₀:Around} {E:Value→Shared→Prop} {s':Shared} {base g g₀ h:Heap} {outer:List Env} {L a e:Addr} {m:Str→Option Value} {name:Str} {scope:Scope} {cd:Value}
  {b₀:Stmt} {suite:List Stmt} {pos np:Pos} {rest:List ExceptHandler} {Q:Flow→Shared→Prop} {news:List (Addr × Obj)} {KF:Frag}
  {p:Program} {loose:List Str} {mean:ExcName→Option Value} {mg mb:Str→Option Value} {x:Str} {X T':String}
theorem caught_FS (G:Gr KF p loose mean mg mb A₀ base outer g₀ g) (XB:KF.In base) (TB:Top p loose mean mg mb base) (F:Fr g L h m) (N:News g L h news) (hx:ExcAt X h s'.heap e)
    (ex:nsIn KF mainGlobals x = some none) (hv:bootBuiltins x = some (.type T')) (hn':x ≠ "__name__")
    (hexc:isSubtype (.type T') (.type "BaseException") = pure true) (hnt:isSubtype (.type ((Manifest.find? T').elim "type" fun y=>y.metatype)) (.type "tuple") = pure false) (hsub:isSubtype (.type X) (.type T') = pure true)
    (k:∀ h' g', Gr KF p loose mean mg mb A₀ base outer g₀ g'→Fr g' L h' m→News g' L h' news →
      wpAny (model prog w) ((A₀.deeper (envOf name scope L a cd)).mark (some (.ref e))) (execs (b₀ :: suite) (envOf name scope L a cd)) Q E { s' with heap:=h' })
    (hk:scope.kind = .function:=by rfl) (hxk:(envOf name scope L a cd).kindOf x = some .globalImplicit:=by rfl) (hd:(x == ("__debug__":Str)) = false:=by decide)
    (hE:PassesOwnAt (model prog w) ((A₀.deeper (envOf name scope L a cd)).mark (some (.ref e))) (A₀.deeper (envOf name scope L a cd)) (envOf name scope L a cd) E:=by passes_own) :
    wpAny (model prog w) (A₀.deeper (envOf name scope L a cd)) (noteFrame (.ref e) (envOf name scope L a cd))
      (fun _ s₂=>wpAny (model prog w) (A₀.deeper (envOf name scope L a cd)) (setFlight (.ref e) none) (fun _ s₃ =>
        wpAny (model prog w) (A₀.deeper (envOf name scope L a cd)) (handleBy (.ref e) (envOf name scope L a cd) (.ExceptHandler (some (.Name x np)) none (b₀ :: suite) pos :: rest)) Q E s₃) E s₂) E s':=by
  obtain ⟨T0, K, X₀, P₀, D⟩:=G
  have K':=K.push (name:=name) (a:=a) (cd:=cd) F hk
  have hin:∀ env ∈ (envOf name scope L a cd :: outer), ∀ b, env.frame = some b→b ∈ (envOf name scope L a cd :: outer).filterMap (·.frame):=fun env he b hb=>List.mem_filterMap.mpr ⟨env, he, hb⟩
  have st:base.StaysIn (hideAll h ((envOf name scope L a cd :: outer).filterMap (·.frame))):=fun b o q=>hideAll_get _ (K'.stays b o q) fun hm=>by
    rw [(K'.frames.mem hm).1] at q; cases q
  have hBG:∀ b o, h.get? b = some o→b ∉ (envOf name scope L a cd :: outer).filterMap (·.frame)→(hideAll h ((envOf name scope L a cd :: outer).filterMap (·.frame))).get? b = some o:=fun b o q nm=>hideAll_get _ q nm
  have hl:∀ q ∈ news, (hideAll h ((envOf name scope L a cd :: outer).filterMap (·.frame))).get? q.1 = some q.2:=fun q hq=>by
    refine hideAll_get _ (N q hq).1 fun hm=>?_
    (refine eE1 (fun env=>?_) (List.mem_filterMap.mp hm); refine eA2 fun he hf=>?_)
    rcases List.mem_cons.mp he with rfl | he
    · exact (N q hq).2.1 (Option.some.inj hf).symm
    · (refine eE1 (fun o=>?_) ((K.frames.mem (List.mem_filterMap.mpr ⟨env, he, hf⟩)).2); refine eA2 fun ho _=>?_)
      rw [(N q hq).2.2] at ho; cases ho
  (revert hx; refine eA3 fun hkeep hnew=>?_; refine eE3 fun ob vs a0=>?_; refine eA5 fun he hcls hdat hv1 hv0=>?_)
  have hen:(hideAll h ((envOf name scope L a cd :: outer).filterMap (·.frame))).get? e = none:=by
    cases q:(hideAll h ((envOf name scope L a cd :: outer).filterMap (·.frame))).get? e with
    | none=>rfl
    | some o=>have:=of_hideAll _ q; rw [hnew] at this; cases this
  have hLn:(hideAll h ((envOf name scope L a cd :: outer).filterMap (·.frame))).get? L = none:=hideAll_none _ (List.mem_filterMap.mpr ⟨envOf name scope L a cd, .head _, rfl⟩)
  refine note_first (a0:=a0) K'.stack ((funFrames_hide K'.frames hin).of_keeps fun b o hb _=>⟨o, hkeep b o hb, rfl⟩) rfl he (fun b o hb=>hkeep b o (of_hideAll _ hb)) hen hdat hv1 hv0 fun h₄ hheld₄ hsm₄=>?_
  rw [hcls] at hheld₄
  refine wpAny_landsW hheld₄ fun h₅ hheld hsm₅'=>?_
  have hsm₅:=(Heap.UpToSlots.of_keeps hkeep).trans (hsm₄.trans hsm₅')
  (refine eE1 (fun g₅=>?_) (kts_ground K F hBG hheld.1 hsm₅); refine eA3 fun T₅ F₅ K₅=>?_)
  have X₅:KF.In g₅:=XB.keeps K₅.stays
  have P₅:TopRead p loose mg mb g₅:=topRead_of (TB.keeps K₅.stays)
  (refine eE1 (fun ob'=>?_) hheld.there; refine eA2 fun hob hobc=>?_)
  refine wpAny_handleBy_builtin (X:=X) (T:=T') (b:=true) hexc hnt hsub (name_B F₅ X₅ P₅ ex hv hn' ⟨rfl, ⟨ob', hob, hobc⟩, ?_⟩ hk hxk hd)
  refine lands_againW hheld fun h₆ hfl₆ hsm₆=>?_
  (refine eE1 (fun g₆=>?_) (kts_ground K F hBG hfl₆.1 (hsm₅.trans hsm₆)); refine eA3 fun T₆ F₆ K₆=>?_)
  have Nl:News g₆ L h₆ news:=fun q hq=>⟨hfl₆.1 _ _ (hl q hq), (fun z=>by have:=hl q hq; rw [z, hLn] at this; cases this), T₆.none_ _ (N q hq).2.2⟩
  exact wpAny_passesOwnAt hE (k h₆ g₆ ⟨T0.trans T₆, K₆, XB.keeps K₆.stays, TB.keeps K₆.stays, D.turn T₆⟩ F₆ Nl)
end
end
section
open PySem PySem.W PyProof.Rows PySem.Challenge PySem.Spec
noncomputable def Inv (P:Heap→Prop) {α:Type}:Sem α→Prop
  | .pure _=>True
  | .raise _=>True
  | .unsupported _=>True
  | .finish _=>True
  | .register _ _=>True
  | .rule _ k=>Inv P (k ())
  | .at _ k=>Inv P (k ())
  | .load _ _ k=>∀ o, Inv P (k o)
  | .update a _ f k=>(∀ h, P h→P (h.update a f)) ∧ Inv P (k ())
  | .alloc o k=>(∀ h, P h→P (h.push o)) ∧ ∀ a, Inv P (k a)
  | .stack k=>∀ l, Inv P (k l)
  | _=>False
theorem inv_bind {P:Heap→Prop} {α β:Type} {t:Sem α} {f:α→Sem β} (h:Inv P t) (hf:∀ a, Inv P (f a)):Inv P (t >>= f):=by
  show Inv P (t.bind f)
  induction t with
  | pure a=>exact hf a
  | raise e=>trivial
  | unsupported w=>trivial
  | finish e=>trivial
  | register a k ih=>trivial
  | rule t k ih=>exact ih () h
  | «at» p k ih=>exact ih () h
  | load a p k ih=>exact fun o=>ih o (h o)
  | update a p f k ih=>exact ⟨h.1, ih () h.2⟩
  | alloc o k ih=>exact ⟨h.1, fun a=>ih a (h.2 a)⟩
  | stack k ih=>exact fun l=>ih l (h l)
  | _=>exact h.elim
theorem wpAny_inv {P:Heap→Prop} {α:Type} {M:Model} {A:Around} {t:Sem α} {Q:α→Shared→Prop} {E:Value→Shared→Prop} {s:Shared} (hi:Inv P t) (hp:P s.heap) (h:wpAny M A t Q E s) :
    wpAny M A t (fun a s'=>Q a s' ∧ P s'.heap) (fun e s'=>E e s' ∧ P s'.heap) s:=by
  intro Γ p hΓ
  replace h:=h Γ p hΓ
  clear hΓ
  induction t generalizing s p with
  | pure a=>exact ⟨h, hp⟩
  | raise e=>exact ⟨h, hp⟩
  | unsupported w=>exact h
  | finish e=>exact h
  | register a k ih=>exact h
  | rule t k ih=>exact ih () hi hp p h
  | «at» p k ih=>exact ih () hi hp _ h
  | load a p k ih =>
    (revert h; refine eE1 fun o=>?_; refine eA2 fun ho h=>?_)
    exact ⟨o, ho, ih o (hi o) hp _ h⟩
  | update a p f k ih=>exact ⟨h.1, ih () hi.2 (hi.1 _ hp) _ h.2⟩
  | alloc o k ih=>exact ih _ (hi.2 _) (hi.1 _ hp) _ h
  | stack k ih=>exact ih _ (hi _) hp _ h
  | _=>exact hi.elim
noncomputable def Ctx0 (e:Addr) (h:Heap):Prop:=∃ ob, h.get? e = some ob ∧ ExcO ob
theorem ctx_push {e:Addr} {o:Obj}:∀ h, Ctx0 e h→Ctx0 e (h.push o):=fun _ ⟨ob, hb, ho⟩=>⟨ob, Heap.get?_push_of_some _ hb, ho⟩
theorem ctx_field {e a:Addr} {i:Nat} {v:Value} (hi:i ≠ 2):∀ h, Ctx0 e h→Ctx0 e (h.update a (Obj.mapFields (·.setIfInBounds i v))):=fun h ⟨ob, hb, vs, hd, h2⟩=>by
  by_cases ha:a = e
  · subst ha
    exact ⟨_, Heap.get?_update_self _ hb (Obj.isFreed_of_fields (Obj.data_mapFields hd _)), _, Obj.data_mapFields hd _, by rw [Array.getElem?_setIfInBounds_ne hi]; exact h2⟩
  · exact ⟨ob, (Heap.get?_update_other _ _ ha).trans hb, vs, hd, h2⟩
theorem ctx_slots {e a:Addr} {f:Obj→Array (Option Value)}:∀ h, Ctx0 e h→Ctx0 e (h.update a fun o=>{ o with slots:=f o }):=fun h ⟨ob, hb, vs, hd, h2⟩=>by
  by_cases ha:a = e
  · subst ha
    exact ⟨_, Heap.get?_update_self _ hb (Obj.isFreed_of_fields (o:={ ob with slots:=f ob }) hd), vs, hd, h2⟩
  · exact ⟨ob, (Heap.get?_update_other _ _ ha).trans hb, vs, hd, h2⟩
theorem inv_fieldsOf {P:Heap→Prop} {v:Value}:Inv P (fieldsOf v):=by
  cases v with
  | ref a =>
    intro o
    show Inv P (match o.data with | .fields vs=>pure vs | _=>unsupported "internal:no-fields")
    split <;> trivial
  | _=>trivial
theorem inv_field {P:Heap→Prop} {v:Value} {i:Nat}:Inv P (field v i):=inv_bind inv_fieldsOf fun a=>by
  split <;> trivial
theorem inv_setField {e:Addr} {v x:Value} {i:Nat} (hi:i ≠ 2):Inv (Ctx0 e) (setField v i x):=by
  cases v with
  | ref a =>
    intro o
    show Inv (Ctx0 e) (match o.data with | .fields vs=>if i < vs.size then update a (Obj.mapFields (·.setIfInBounds i x)) else unsupported "internal:no-such-field" | _=>unsupported "internal:write-to-non-record")
    split
    · split
      · exact ⟨ctx_field hi, trivial⟩
      · trivial
    · trivial
  | _=>trivial
theorem inv_setFlight {e:Addr} {v:Value} {fr:Option Addr}:Inv (Ctx0 e) (setFlight v fr):=inv_bind inv_field fun a=>by
  split
  · exact inv_setField (by decide)
  · trivial
theorem inv_behind {P:Heap→Prop} {env:Env} {outer:List Env}:Inv P (behindIsImport env outer):=by
  unfold behindIsImport
  split
  · trivial
  split
  · trivial
  exact inv_bind inv_field fun _=>trivial
theorem inv_kept {P:Heap→Prop} {env:Env} {b:Bool} {outer:List Env}:Inv P (keptBack env b outer):=by
  cases outer with
  | nil =>
    show Inv P (if (env.scope.isGenerator || env.scope.isCoroutine) = true then pure Value.none else _)
    by_cases h:(env.scope.isGenerator || env.scope.isCoroutine) = true
    · rw [if_pos h]; trivial
    · rw [if_neg h]; exact fun l=>trivial
  | cons c r=>trivial
theorem inv_ready {e:Addr}:∀ l:List Env, Inv (Ctx0 e) (readyFrames l)
  | []=>trivial
  | env :: outer=>by
    unfold readyFrames
    cases env.frame with
    | none=>trivial
    | some f =>
      intro o
      show Inv (Ctx0 e) (if (o.slots.getD 3 none).isSome = true then pure () else _)
      split
      · trivial
      · exact inv_bind inv_behind fun b=>inv_bind inv_kept fun v=>⟨ctx_slots, inv_ready outer⟩
theorem inv_frameObject {e:Addr} {l:List Env}:Inv (Ctx0 e) (frameObject l):=by
  cases l with
  | nil=>trivial
  | cons env outer=>exact inv_bind (inv_ready _) fun _=>trivial
theorem inv_frameOf {e:Addr} {env:Env}:Inv (Ctx0 e) (frameOf env):=by
  refine inv_bind (fun l=>trivial) fun l=>inv_bind inv_frameObject fun o=>?_
  cases o <;> trivial
theorem inv_place {P:Heap→Prop} {a:Addr} {b:Bool}:Inv P (entryPlaceOf a b):=by
  intro l
  show Inv P (match (l.find? fun (c, _)=>c.env?.bind (·.frame) == some a) with | some (_, pos)=>pure _ | none=>pure [])
  split <;> trivial
theorem inv_newEntry {e:Addr} {a b c d f:Value} {l:List Value}:Inv (Ctx0 e) (EntryCells.newEntry a b c d f l):=by
  unfold EntryCells.newEntry newFields newObj
  dsimp only
  generalize ([a, b, c, d, f] ++ _).toArray = vs
  by_cases h:vs.size > sizeLine + 2
  · rw [if_pos h]; trivial
  · rw [if_neg h]; exact ⟨ctx_push, fun _=>trivial⟩
theorem inv_noteFrame {e:Addr} {v:Value} {env:Env}:Inv (Ctx0 e) (noteFrame v env):=by
  unfold noteFrame
  cases env.frame with
  | none=>trivial
  | some f =>
    refine inv_bind inv_field fun head=>?_
    dsimp only
    split
    · refine inv_bind inv_field fun x=>?_
      split
      · trivial
      · exact inv_bind (inv_setField (by decide)) fun _=>inv_bind inv_frameOf fun _=>inv_bind inv_place fun _=>inv_bind inv_newEntry fun _=>inv_setField (by decide)
    · exact inv_bind inv_frameOf fun _=>inv_bind inv_place fun _=>inv_bind inv_newEntry fun _=>inv_setField (by decide)
theorem inv_leaving {e:Addr} {v:Value} {env:Env}:Inv (Ctx0 e) (leaving env v):=inv_bind inv_noteFrame fun _=>inv_setFlight
section
variable {M:Model} {A:Around} {E:Value→Shared→Prop} {s':Shared} {base g g₂ h:Heap} {outer:List Env} {L a e t:Addr} {m:Str→Option Value} {name:Str} {scope:Scope} {cd:Value} {Q:Unit→Shared→Prop} {news:List (Addr × Obj)}
theorem leave_raiseC {cls:Value} {vs:List Value} (K:Below A base outer g) (hx:Heap.MadeExcOf h s'.heap e cls vs) (F:Fr g L h m) (N:News g L h news)
    (hQ:∀ h' t, RaisedS base g outer e cls t vs news h'→g.UpToSlots h'→Ctx0 e h'→Q () { s' with heap:=h' }) (hk:scope.kind = .function:=by rfl) :
    wpAny M (A.deeper (envOf name scope L a cd)) (leaving (envOf name scope L a cd) (.ref e)) Q E s':=by
  (refine eE1 (fun t=>?_) hx.there; refine eA2 fun he hC2=>?_; clear hC2)
  refine wpAny_mono (wpAny_inv (P:=Ctx0 e) inv_leaving ⟨_, he, _, rfl, rfl⟩ (leave_raiseS K hx F N (Q:=fun _ s₂=>∃ h' t, s₂ = { s' with heap:=h' } ∧ RaisedS base g outer e cls t vs news h' ∧ g.UpToSlots h') (fun h' t R _ U=>(iE2 h' t ⟨rfl, R, U⟩)) hk)) ?_ fun _ _ h=>h.1
  (rintro _ _; (refine eA2 fun hP0 C=>?_; obtain ⟨h', t, rfl, R, U⟩:=hP0))
  exact hQ h' t R U C
end
section
variable {prog:Program} {w:World} {A₀:Around} {E:Value→Shared→Prop} {s':Shared} {base g g₀ G:Heap} {outer:List Env} {L a e t:Addr} {m:Str→Option Value} {name:Str} {scope:Scope} {cd:Value}
  {cl:List (Str × Addr)} {vs:List Value} {n:Str} {b₀:Stmt} {suite:List Stmt} {pos np:Pos} {rest:List ExceptHandler} {Q:Flow→Shared→Prop} {news:List (Addr × Obj)} {KF:Frag}
  {p:Program} {loose:List Str} {mean:ExcName→Option Value} {mg mb:Str→Option Value} {x:Str} {X T':String}
theorem caught_CB (R:RaisedS base G (envX name scope L a cd cl :: outer) e (.type X) t vs news s'.heap) (hc:Ctx0 e s'.heap) (F:Fr g L G m) (Gd:Gr KF p loose mean mg mb A₀ base outer g₀ g) (hsm:G.UpToSlots s'.heap) (XB:KF.In base) (TB:Top p loose mean mg mb base)
    (ex:nsIn KF mainGlobals x = some none) (hv:bootBuiltins x = some (.type T')) (hn':x ≠ "__name__")
    (hexc:isSubtype (.type T') (.type "BaseException") = pure true) (hnt:isSubtype (.type ((Manifest.find? T').elim "type" fun y=>y.metatype)) (.type "tuple") = pure false) (hsub:isSubtype (.type X) (.type T') = pure true)
    (k:∀ h' g' oe ot ws nt tk, Gr KF p loose mean mg mb A₀ base outer g₀ g'→Fr g' L h' (fun y=>if y = n then some (.ref e) else m y)→News g' L h' ((e, oe) :: (t, ot) :: news)→oe.cls = .type X→oe.data = .fields ws→ws[0]? = some (.ref t)→ws[2]? = some .none→ot.cls = .type "tuple"→ot.data = .seq vs.toArray nt →
      wpAny (model prog w) ((A₀.deeper (envX name scope L a cd cl)).mark (some (.ref e))) (execs (b₀ :: suite) (envX name scope L a cd cl))
        (fun f s₄=>wpAny (model prog w) (A₀.deeper (envX name scope L a cd cl)) (do bindName (envX name scope L a cd cl) n .none; unbindBehindTheSuite (envX name scope L a cd cl) n pos) (fun _ s₅=>Q f s₅) E s₄)
        (AsSuiteRaised (model prog w) ((A₀.deeper (envX name scope L a cd cl)).mark (some (.ref e))) (envX name scope L a cd cl) n pos (notedBy (model prog w) ((A₀.deeper (envX name scope L a cd cl)).mark (some (.ref e))) (envX name scope L a cd cl) (cameBackBy (model prog w) (A₀.deeper (envX name scope L a cd cl)) (envX name scope L a cd cl) E)))
        { s' with heap:=h', toks:=tk })
    (hk:scope.kind = .function:=by rfl) (hlo:(envX name scope L a cd cl).kindOf n = some .local:=by rfl) (hx:(envX name scope L a cd cl).kindOf x = some .globalImplicit:=by rfl) (hd:(x == ("__debug__":Str)) = false:=by decide) :
    wpAny (model prog w) (A₀.deeper (envX name scope L a cd cl)) (noteFrame (.ref e) (envX name scope L a cd cl))
      (fun _ s₂=>wpAny (model prog w) (A₀.deeper (envX name scope L a cd cl)) (setFlight (.ref e) none) (fun _ s₃ =>
        wpAny (model prog w) (A₀.deeper (envX name scope L a cd cl)) (handleBy (.ref e) (envX name scope L a cd cl) (.ExceptHandler (some (.Name x np)) (some n) (b₀ :: suite) pos :: rest)) Q E s₃) E s₂) E s':=by
  obtain ⟨T0, K, X₀, P₀, D⟩:=Gd
  (revert R; refine eA2 fun hP0 htup=>?_; obtain ⟨B, hB, hBG, hl, hfl, hnew⟩:=hP0)
  have hL:B.get? L = none:=by
    (refine eA3 (fun _ hP1 _=>?_) hfl.2.2.1; obtain ⟨L', _, hf, hn', _⟩:=hP1)
    obtain rfl:L = L':=Option.some.inj hf
    exact hn'
  refine wpAny_mono (wpAny_inv (P:=Ctx0 e) inv_noteFrame hc (wpAny_looks_onW (Q:=fun _ s₂=>∃ h₄, s₂ = { s' with heap:=h₄ } ∧ Heap.HeldW B (envX name scope L a cd cl :: outer) e (.type X) (.ref t) L h₄ ∧ s'.heap.UpToSlots h₄) (Around.frames_deeper K.stack) rfl hfl fun h₄ y z=>⟨h₄, rfl, y, z⟩)) ?_ fun _ _ h=>h.1
  (rintro _ _; (refine eA2 fun hP0 hc₄=>?_; obtain ⟨h₄, rfl, hheld₄, hsm₄⟩:=hP0))
  refine wpAny_mono (wpAny_inv (P:=Ctx0 e) inv_setFlight hc₄ (wpAny_landsW (Q:=fun _ s₂=>∃ h₅, s₂ = { s' with heap:=h₅ } ∧ Heap.FlyingW B (envX name scope L a cd cl :: outer) e (.type X) (.ref t) h₅ ∧ h₄.UpToSlots h₅) hheld₄ fun h₅ y z=>⟨h₅, rfl, y, z⟩)) ?_ fun _ _ h=>h.1
  (rintro _ _; (refine eA2 fun hP0 hc₅=>?_; obtain ⟨h₅, rfl, hheld, hsm₅'⟩:=hP0))
  have hsm₅:=hsm₄.trans hsm₅'
  (refine eE1 (fun g₅=>?_) (kts_ground (name:=name) (scope:=scope) (a:=a) (cd:=cd) K F hBG hheld.1 (hsm.trans hsm₅)); refine eA3 fun T₅ F₅ K₅=>?_)
  have X₅:KF.In g₅:=XB.keeps K₅.stays
  have P₅:TopRead p loose mg mb g₅:=topRead_of (TB.keeps K₅.stays)
  (refine eE1 (fun ob=>?_) hheld.there; refine eA2 fun hob hobc=>?_)
  refine wpAny_handleBy_builtin_as (X:=X) (T:=T') (b:=true) hexc hnt hsub (nameX_B F₅ X₅ P₅ ex hv hn' ⟨rfl, ⟨ob, hob, hobc⟩, ?_⟩ hk hx hd)
  refine wpAny_mono (wpAny_inv (P:=Ctx0 e) inv_setFlight hc₅ (lands_againW (Q:=fun _ s₂=>∃ h₆, s₂ = { s' with heap:=h₆ } ∧ Heap.FlyingW B (envX name scope L a cd cl :: outer) e (.type X) (.ref t) h₆ ∧ h₅.UpToSlots h₆) hheld fun h₆ y z=>⟨h₆, rfl, y, z⟩)) ?_ fun _ _ h=>h.1
  (rintro _ _; (refine eA2 fun hP0 hc₆=>?_; obtain ⟨h₆, rfl, hfl₆, hsm₆⟩:=hP0))
  (refine eE1 (fun g₆=>?_) (kts_ground (name:=name) (scope:=scope) (a:=a) (cd:=cd) K F hBG hfl₆.1 ((hsm.trans hsm₅).trans hsm₆)); refine eA3 fun T₆ F₆ K₆=>?_)
  (refine eE2 (fun oe ws=>?_) hfl₆.first; refine eA4 fun hoe hoec hoed hoe0=>?_)
  (refine eE2 (fun ot nt=>?_) ((htup.of_slots hsm₅).of_slots hsm₆); refine eA3 fun hot hotc hotd=>?_)
  have hws2:ws[2]? = some .none:=by
    (revert hc₆; refine eE1 fun ob'=>?_; refine eA2 fun hb' hP2=>?_; obtain ⟨ws', hd', h2'⟩:=hP2)
    obtain rfl:oe = ob':=Option.some.inj (hoe.symm.trans hb')
    rw [hoed] at hd'
    cases hd'
    exact h2'
  have far:∀ b o, h₆.get? b = some o→(∀ es n, o.data ≠ .dict es n)→B.get? b = none→((∃ vs, o.data = .fields vs) ∨ ∃ vs n, o.data = .seq vs n)→g₆.get? b = none:=fun b o hb hnd hBb hdat=>T₆.none_ _ (kts_fresh (name:=name) (scope:=scope) (a:=a) (cd:=cd) F hBG hBb fun o' ho' m=>by
    (refine eE3 (fun o'' es n'=>?_) (D _ m); refine eA2 fun ho'' hd=>?_)
    rw [ho'] at ho''
    cases ho''
    refine eE1 (fun sl hs=>?_) (((hsm.trans hsm₅).trans hsm₆) _ _ (F.keep _ _ ho') (fun vs q=>by rw [hd] at q; cases q))
    rw [hb] at hs
    cases hs
    exact hnd _ _ hd)
  have ne₆:=far e oe hoe (fun es n q=>by rw [hoed] at q; cases q) hfl₆.2.1 (.inl ⟨_, hoed⟩)
  have nt₆:=far t ot hot (fun es n q=>by rw [hotd] at q; cases q) hnew (.inr (iE2 _ _ hotd))
  have N₆:=News.more F₆ (News.more F₆ News.nil hot (fun es n q=>by rw [hotd] at q; cases q) nt₆) hoe (fun es n q=>by rw [hoed] at q; cases q) ne₆
  have Nl:News g₆ L h₆ news:=fun q hq=>⟨hfl₆.1 _ _ (hl q hq).1, (fun z=>by have:=(hl q hq).1; rw [z, hL] at this; cases this), T₆.none_ _ (kts_none F.keep (hl q hq).2.1)⟩
  have X₆:KF.In g₆:=XB.keeps K₆.stays
  have P₆:Top p loose mean mg mb g₆:=TB.keeps K₆.stays
  have D₆:KtsDicts (outer.filterMap (·.frame)) g₆:=D.turn T₆
  refine storeX_L F₆ (news:=_ ++ news) (fun q hq=>(List.mem_append.mp hq).elim (N₆ q) (Nl q)) (fun h₇ F₇ N₇=>?_) hk hlo
  exact k h₇ g₆ oe ot ws nt _ ⟨T0.trans T₆, K₆, X₆, P₆, D₆⟩ F₇ N₇ hoec hoed hoe0 hws2 hotc hotd
end
end
section
open PySem PySem.W PyProof.Rows PySem.Challenge PySem.Spec
section
variable {prog:Program} {w:World} {A:Around} {E:Value→Shared→Prop} {Q:Value→Shared→Prop} {hp h₀:Heap} {gs:Array GenState} {dr:Drawn} {tk0:Nat} {os:OsState} {L l b:Addr} {m:Str→Option Value} {news:List (Addr × Obj)} {vs:List Value} {us:Array Value} {n n2:Nat}
theorem door {a b:Array Value} (h:a.size + b.size ≤ 100000):¬(!a.isEmpty && Builtin.List.listTooLong (a.size + b.size)) = true:=extend_door (by rw [sizeLine_eq]; lia)
theorem extendU (F:Fr h₀ L hp m) (N:News h₀ L hp news) (hb:(b, listOf us n2) ∈ news) (hm:(l, listOf vs.toArray n) ∈ news) (hz:vs.length + us.size ≤ 100000)
    (h:∀ h' n', Fr h₀ L h' m→News h₀ L h' (upL l (listOf (vs ++ us.toList).toArray n') news)→Q .none ⟨h', gs, dr, tk0, os⟩):wpAny (model prog w) A (call (.builtin "list.extend") [.ref l, .ref b]) Q E ⟨hp, gs, dr, tk0, os⟩:=by
  have NF:=news_front N hm
  have z:=N _ hm
  have hz':vs.toArray.size + us.size ≤ 100000:=by simpa using hz
  refine call_meets (s:=⟨hp, gs, dr, tk0, os⟩) PySem.F.slot_list_extend ⟨_, z.1, rfl⟩ PySem.F.entry_list_extend (PySem.F.args_list_extend_2 _ _) (PySem.AutoSeq1.list_extend_list_list_0 l vs.toArray n b us n2 (door hz') (by rw [sizeLine_eq]; lia) (by rw [sizeLine_eq]; lia)) ⟨z.1, (N _ hb).1, ?_⟩
  by_cases e:us.size = 0
  · exact h _ n (F.change (Heap.SameBut.update ..) z.2.1 z.2.2) (news_back (kl_turn0 (pre:=[]) (its':=(vs ++ us.toList).toArray) _ NF (List.forall_mem_nil _) front_ne (by simp) (by simp [e])))
  · exact h _ (n + 1) (F.change (Heap.SameBut.update ..) z.2.1 z.2.2) (news_back (kl_turn (pre:=[]) (its':=(vs ++ us.toList).toArray) _ NF (List.forall_mem_nil _) front_ne (by simp) (by simp; intro q; exact e (by simp [q]))))
theorem extendTU (F:Fr h₀ L hp m) (N:News h₀ L hp news) (hb:(b, ({ cls:=.type "tuple", data:=.seq us n2 }:Obj)) ∈ news) (hm:(l, listOf vs.toArray n) ∈ news) (hz:vs.length + us.size ≤ 100000)
    (h:∀ h' n', Fr h₀ L h' m→News h₀ L h' (upL l (listOf (vs ++ us.toList).toArray n') news)→Q .none ⟨h', gs, dr, tk0, os⟩):wpAny (model prog w) A (call (.builtin "list.extend") [.ref l, .ref b]) Q E ⟨hp, gs, dr, tk0, os⟩:=by
  have NF:=news_front N hm
  have z:=N _ hm
  have hz':vs.toArray.size + us.size ≤ 100000:=by simpa using hz
  refine call_meets (s:=⟨hp, gs, dr, tk0, os⟩) PySem.F.slot_list_extend ⟨_, z.1, rfl⟩ PySem.F.entry_list_extend (PySem.F.args_list_extend_2 _ _) (PySem.AutoSeq1.list_extend_list_tuple_0 l vs.toArray n b us n2 (door hz') (by rw [sizeLine_eq]; omega) (by rw [sizeLine_eq]; omega)) ⟨z.1, (N _ hb).1, ?_⟩
  by_cases e:us.size = 0
  · exact h _ n (F.change (Heap.SameBut.update ..) z.2.1 z.2.2) (news_back (kl_turn0 (pre:=[]) (its':=(vs ++ us.toList).toArray) _ NF (List.forall_mem_nil _) front_ne (by simp) (by simp [e])))
  · exact h _ (n + 1) (F.change (Heap.SameBut.update ..) z.2.1 z.2.2) (news_back (kl_turn (pre:=[]) (its':=(vs ++ us.toList).toArray) _ NF (List.forall_mem_nil _) front_ne (by simp) (by simp; intro q; exact e (by simp [q]))))
theorem itemI {value slice:PySem.Expr} {ns:List Int} {i a:Int} {ti:Tok} (N:News h₀ L hp news) (hm:(l, listOf vs.toArray n) ∈ news) (hi:IntsAre vs ns) (h0:0 ≤ i) (h1:i < 1000) (ha:ns[i.toNat]? = some a) (h:∀ t tk, Q (.int a t) ⟨hp, gs, dr, tk, os⟩)
    (hs:subscripted slice false (.ref l) (.int i ti) = operate [.ref l, .int i ti] (getItem (.ref l) (.int i ti)):=by with_unfolding_all rfl):wpAny (model prog w) A (subscriptTail value slice (.ref l) (.int i ti)) Q E ⟨hp, gs, dr, tk0, os⟩:=by
  refine eE1 (fun t ht=>?_) (hi.get i.toNat a ha)
  refine item_litK (News.isList N hm) h0 (by lia) ht ?_ hs
  exact h _ _
end
end
section
open PySem PySem.W PyProof.Rows PySem.Challenge PySem.Spec
theorem strs_snoc {vs:List Value} {ys:List Str} {y:Str} {t:Tok} (h:StrsAre vs ys):StrsAre (vs ++ [.str y t]) (ys ++ [y]):=by
  induction h with
  | nil=>exact .cons _ _ .nil
  | cons z u _ ih=>exact .cons z u ih
noncomputable def oAt (order:List Int) (q:Nat):Int:=order.getD q 0
noncomputable def cAt (codes:List Int) (k:Int):Int:=codes.getD k.toNat 0
noncomputable def RunOk (order codes:List Int) (st i:Nat):Prop:=∀ q, st ≤ q→q ≤ i→oAt order q = oAt order st + ((q:Int) - (st:Int)) ∧ cAt codes (oAt order q) = cAt codes (oAt order st)
noncomputable def RowsOk (order codes:List Int) (st:Nat) (rw:List Str):Prop :=
  rw.filterMap (restF (Str.ofString "- ")) = ((order.take st).filter fun k=>decide (cAt codes k ≠ 2)).map textF ∧ rw.filterMap (restF (Str.ofString "+ ")) = ((order.take st).filter fun k=>decide (cAt codes k ≠ 1)).map textF ∧ ∀ u ∈ rw, u.length ≤ 2000
noncomputable abbrev ToldT:=Nat × Tok × List Value × List Str × Nat
structure ToldSt (order codes:List Int) (R:Addr) (base:List (Addr × Obj)) (i:Nat) (c:List (Addr × Obj)) (t:ToldT):Prop where
  le:t.1 ≤ i
  fin:i = codes.length→t.1 = i
  seg:i < codes.length→RunOk order codes t.1 i
  rows:(R, listOf t.2.2.1.toArray t.2.2.2.2) ∈ c
  hst:StrsAre t.2.2.1 t.2.2.2.1
  len:t.2.2.2.1.length ≤ 2 * t.1
  ok:RowsOk order codes t.1 t.2.2.2.1
  keep:∀ p ∈ base, p ∈ c
noncomputable def Cnd (p q:Prop):Prop:=p→q
theorem Cnd.use {p q:Prop} (h:Cnd p q) (hp:p):q:=h hp
noncomputable def JMark:Prop:=True
theorem jMark:JMark:=trivial
noncomputable def JPost (h:Heap) (gs:Array GenState) (dr:Drawn) (os:OsState) (P:Prop) (b:Bool) (s':Shared):Prop:=(∃ tk', s' = (⟨h, gs, dr, tk', os⟩:Shared)) ∧ (b = true ↔ P)
theorem jp_t {h:Heap} {gs:Array GenState} {dr:Drawn} {tk:Nat} {os:OsState} {P:Prop} (p:P):JPost h gs dr os P true ⟨h, gs, dr, tk, os⟩:=⟨⟨_, rfl⟩, fun _=>p, fun _=>rfl⟩
theorem jp_f {h:Heap} {gs:Array GenState} {dr:Drawn} {tk:Nat} {os:OsState} {P:Prop} (p:¬ P):JPost h gs dr os P false ⟨h, gs, dr, tk, os⟩:=⟨⟨_, rfl⟩, fun e=>(Bool.false_ne_true e).elim, fun q=>absurd q p⟩
theorem join_and {M:Model} {A:Around} {t:PySem.Expr} {env:Env} {Q:Bool→Shared→Prop} {E:Value→Shared→Prop} {h:Heap} {gs:Array GenState} {dr:Drawn} {tk:Nat} {os:OsState} (P:Prop)
    (h0:wpAny M A (isTrue t env (PySem.eval t env)) (JPost h gs dr os P) E ⟨h, gs, dr, tk, os⟩)
    (h1:∀ tk', P→Q true ⟨h, gs, dr, tk', os⟩) (h2:∀ tk', ¬ P→Q false ⟨h, gs, dr, tk', os⟩):wpAny M A (isTrue t env (PySem.eval t env)) Q E ⟨h, gs, dr, tk, os⟩ :=
  wpAny_mono h0 (fun b s' ⟨⟨tk', e⟩, hb⟩=>by
    subst e
    cases b with
    | true=>exact h1 tk' (hb.mp rfl)
    | false=>exact h2 tk' fun p=>Bool.false_ne_true (hb.mpr p)) fun _ _ e=>e
theorem compU_ind {prog:Program} {w:World} {A:Around} {h₀:Heap} {L:Addr} {m:Str→Option Value} {env:Env} {elt:PySem.Expr} {x:Str} {scope:Scope} {cl:List (Str × Addr)} {s:Shared} {S:List (Addr × Obj)→Prop} {P:Nat→Value→Prop} {Fin:List Value→List (Addr × Obj)→Prop} {news:List (Addr × Obj)}
    (J:Nat→List Value→Prop) (n:Nat) (h0:∀ ys, J n ys→Fin ys news)
    (step:∀ k i ys, i < n→J i ys→(∀ ys', J (i + 1) ys'→LCg.CompRest prog w A h₀ L m env elt x scope cl s S P Fin k (i + 1) ys' news)→LCg.CompRest prog w A h₀ L m env elt x scope cl s S P Fin (k + 1) i ys news) :
    ∀ k i ys, i + k = n→J i ys→LCg.CompRest prog w A h₀ L m env elt x scope cl s S P Fin k i ys news
  | 0, i, ys, e, hj=>LCg.CompRest.zero (h0 ys (by rw [← e]; exact hj))
  | k + 1, i, ys, e, hj=>step k i ys (by lia) hj fun ys' hj'=>compU_ind J n h0 step k (i + 1) ys' (by lia) hj'
noncomputable abbrev toldE (L:Addr):Env:=envX (Str.ofString "_law_told") (scopeOf (top 17)) L 456 (.ref 455) []
noncomputable abbrev toldA (dp un:Nat) (gd:Option (List Code)) (L:Addr) (outer:List Env):Around:=ktrTop dp un gd (Str.ofString "_law_told") (scopeOf (top 17)) L 456 (.ref 455) [] outer
noncomputable abbrev toldM (st:Int) (ts:Tok) (R D od cd:Addr):Str→Option Value:=fun y=>if y = Str.ofString "start" then some (.int st ts) else if y = Str.ofString "rows" then some (.ref R) else if y = Str.ofString "texts" then some (.ref D) else List.lookup y [(Str.ofString "codes", .ref cd), (Str.ofString "order", .ref od)]
noncomputable abbrev toldMt (av:Int) (ta:Tok) (st:Int) (ts:Tok) (R D od cd:Addr):Str→Option Value:=fun y=>if y = Str.ofString "at" then some (.int av ta) else toldM st ts R D od cd y
noncomputable abbrev toldFor:Stmt:=(bodyOf (top 17)).getD 3 (.Pass ⟨0, 0, 0, 0⟩)
noncomputable def forBody (s:Stmt):List Stmt:=(stPart s).2.2.1
noncomputable abbrev toldB:List Stmt:=forBody toldFor
noncomputable abbrev toldIf:Stmt:=toldB.getD 0 (.Pass ⟨0, 0, 0, 0⟩)
end
section
open PySem PySem.W PyProof.Rows PySem.Challenge PySem.Spec
noncomputable def KtgPost (L:Addr) (J:Heap→(Str→Option Value)→List (Addr × Obj)→Prop) (I:Addr) (oI:Obj) (dr:Drawn) (os:OsState) (Q:Flow→Shared→Prop) (f:Flow) (s₃:Shared):Prop :=
  match f with
  | .ret v=>Q (.ret v) s₃
  | .brk=>Q .next s₃
  | _=>∃ g m c h gs tk, s₃ = ⟨h, gs, dr, tk, os⟩ ∧ AllBare gs ∧ Fr g L h m ∧ News g L h ((I, oI) :: c) ∧ (∀ q ∈ c, q.1 ≠ I) ∧ J g m c
theorem kx_listT {prog:Program} {w:World} {A:Around} {E:Value→Shared→Prop} {env:Env} {g₀:Heap} {x:Str} {px:Pos} {body:List Stmt} {Q:Flow→Shared→Prop} {hp:Heap} {gs:Array GenState} {dr:Drawn} {tk:Nat} {os:OsState}
    {l:Addr} {vs:List Value} {nn:Nat} {m₀:Str→Option Value} {led:List (Addr × Obj)} (J:Nat→Heap→(Str→Option Value)→List (Addr × Obj)→Prop)
    (hx:env.kindOf x = some .local) (hpe:(env.scope.kind == .class || (env.scope.kind == .module && env.locals != env.globals)) = false) (hE:PassesOwn (model prog w) A env E) (hgb:AllBare gs)
    (hh:A.handled = none) (hl:∀ i g m c, J i g m c→(l, W.listOf vs.toArray nn) ∈ c) (F:Fr g₀ env.locals hp m₀) (N:News g₀ env.locals hp led) (hJ:J 0 g₀ m₀ led)
    (turn:∀ i v g m c h gs tk I oI, AllBare gs→vs[i]? = some v→J i g m c→(∀ q ∈ c, q.1 ≠ I)→Fr g env.locals h (fun y=>if y = x then some v else m y)→News g env.locals h ((I, oI) :: c) →
      wpAny (model prog w) A (execs body env) (KtgPost env.locals (J (i + 1)) I oI dr os Q) E ⟨h, gs, dr, tk, os⟩)
    (done:∀ g m c h gs tk, AllBare gs→J vs.length g m c→Fr g env.locals h m→News g env.locals h c→Q .next ⟨h, gs, dr, tk, os⟩) :
    wpAny (model prog w) A (pyIter (.ref l)) (fun it s₂=>LoopX prog w A env x px body Q E it s₂) E ⟨hp, gs, dr, tk, os⟩:=by
  have hl0:=hl _ _ _ _ hJ
  have hol:=(N _ hl0).1
  have hls:hp.IsList l vs.toArray:=⟨_, hol, rfl, nn, rfl⟩
  have lt:∀ q ∈ led, q.1 < hp.objs.size:=fun q hq=>Heap.lt_size (N q hq).1
  have hne:l ≠ hp.objs.size:=Nat.ne_of_lt (lt _ hl0)
  refine wpAny_pyIter_list (s:=⟨hp, gs, dr, tk, os⟩) hls ?_
  have W:=Walks.list (prog:=prog) (w:=w) (A:=A) hh hp.objs.size l hne vs.toArray
  have F0:=F.push { cls:=.type "list_iterator", data:=.fields #[.ref l, .int 0 0] }
  have N0:=N.push F { cls:=.type "list_iterator", data:=.fields #[.ref l, .int 0 0] }
  have off0:∀ q ∈ led, q.1 ≠ hp.objs.size:=fun q hq=>Nat.ne_of_lt (lt q hq)
  have hI0:=(N0 _ (.head _)).1
  dsimp only at hI0 ⊢
  generalize hp.objs.size = I at W N0 off0 hne hI0 ⊢
  generalize hp.push { cls:=.type "list_iterator", data:=.fields #[.ref l, .int 0 0] } = h1 at F0 N0 hI0 ⊢
  have hsz:vs.toArray.size = vs.length:=List.size_toArray
  refine codeAny_forLoop_any
    (fun k s'=>∃ h' gs' tk' g m c oI i, s' = ⟨h', gs', dr, tk', os⟩ ∧ AllBare gs' ∧ (∀ h'':Heap, h''.get? I = some oI→h''.IsListIter I l i) ∧ Fr g env.locals h' m ∧ News g env.locals h' ((I, oI) :: c) ∧ (∀ q ∈ c, q.1 ≠ I) ∧ J i g m c ∧ i ≤ vs.length ∧ k = vs.length + 1 - i) ?_ (vs.length + 1)
    (iE8 h1 gs tk g₀ m₀ led _ 0 ⟨rfl, hgb, fun _ e=>⟨_, e, rfl, rfl⟩, F0, N0, off0, hJ, Nat.zero_le _, rfl⟩)
  (rintro k s'; (refine eE8 fun h' gs' tk' g m c oI i=>?_; refine eA9 fun hR8 hgb' hst F' N' hoff hJ' hi hR16=>?_; subst hR8 hR16))
  have nI:=N' _ (.head _)
  have hIL:env.locals ≠ I:=fun e=>nI.2.1 e.symm
  have next:∀ h₁:Heap, (∀ b o, b ∉ [I]→h'.get? b = some o→h₁.get? b = some o)→Fr g env.locals h₁ m ∧ News g env.locals h₁ c:=fun h₁ hk₁ =>
    ⟨⟨F'.ns.at' fun o e=>hk₁ _ o (fun q=>hIL (List.mem_singleton.mp q)) e, fun b o e=>hk₁ b o (fun q=>by rw [List.mem_singleton.mp q, nI.2.2] at e; cases e) (F'.keep b o e), F'.above⟩, fun p hp=>⟨hk₁ _ _ (fun q=>hoff p hp (List.mem_singleton.mp q)) (N' p (.tail _ hp)).1, (N' p (.tail _ hp)).2⟩⟩
  have hlist:h'.IsList l vs.toArray:=⟨_, (N' _ (.tail _ (hl _ _ _ _ hJ'))).1, rfl, nn, rfl⟩
  by_cases hlt:i < vs.length
  · refine W.item i _ _ _ (by rw [hsz]; exact hlt) ⟨hst _ nI.1, hlist⟩ fun v h₁ tk₁ hPv hst₁ hk₁=>?_
    refine eA2 (fun F₁ N₁=>?_) (next h₁ hk₁)
    (refine eE1 (fun oI1=>?_) hst₁.1; refine eA3 fun hoI1 hc1 hd1=>?_)
    show wpAny _ A (letOwnedTupleGo (.Name x px) (.ref I) v) _ _ _
    refine wpAny_of_eq (rfl:letOwnedTupleGo (.Name x px) (.ref I) v = pure ()) ?_
    refine wpAny_assign_Name (wpAny_storeName_local hx F₁.ns (fun h₂ hn₂ hs₂=>?_) hpe)
    have F₂:=F₁.set hn₂ hs₂
    have N₂:=N₁.set hs₂
    have N₃:News g env.locals h₂ ((I, oI1) :: c):=fun p hp=>by
      rcases List.mem_cons.mp hp with rfl | hp
      · exact ⟨(hs₂.2 _ fun e=>hIL e.symm).trans hoI1, nI.2⟩
      · exact N₂ p hp
    refine wpAny_mono (turn i v g m c h₂ gs' _ I oI1 hgb' (by simpa using hPv) hJ' hoff F₂ N₃) (fun f s₃ h₃=>?_) hE
    have fin:(∃ g m c h gs tk, s₃ = ⟨h, gs, dr, tk, os⟩ ∧ AllBare gs ∧ Fr g env.locals h m ∧ News g env.locals h ((I, oI1) :: c) ∧ (∀ q ∈ c, q.1 ≠ I) ∧ J (i + 1) g m c)→∃ k, k < vs.length + 1 - i ∧ ∃ h' gs' tk' g m c oI i, s₃ = ⟨h', gs', dr, tk', os⟩ ∧ AllBare gs' ∧ (∀ h'':Heap, h''.get? I = some oI→h''.IsListIter I l i) ∧ Fr g env.locals h' m ∧ News g env.locals h' ((I, oI) :: c) ∧ (∀ q ∈ c, q.1 ≠ I) ∧ J i g m c ∧ i ≤ vs.length ∧ k = vs.length + 1 - i:=by
      ((refine eE6 fun g5 m5 c5 h5 gs5 tk5=>?_; refine eA6 fun hR6 hgb5 F5 N5 off5 J5=>?_; subst hR6))
      exact ⟨vs.length + 1 - (i + 1), by exact ar21 hlt, (iE8 h5 gs5 tk5 g5 m5 c5 oI1 (i + 1) ⟨rfl, hgb5, fun _ e=>⟨_, e, hc1, hd1⟩, F5, N5, off5, J5, hlt, rfl⟩)⟩
    cases f with
    | ret v=>exact h₃
    | brk=>exact h₃
    | next=>exact fin h₃
    | cont=>exact fin h₃
  · have hin:i = vs.length:=by lia
    subst hin
    refine W.done _ _ _ (by rw [hsz]; exact ⟨hst _ nI.1, hlist⟩) fun h₁ tk₁ hk₁=>wpAny_execs_nil ?_
    refine eA2 (fun F₁ N₁=>?_) (next h₁ hk₁)
    exact done g m c h₁ gs' tk₁ hgb' hJ' F₁ N₁
end
section
open PySem PySem.W PyProof.Rows PySem.Challenge PySem.Spec
theorem strlen_app (a b:Str):(a ++ b).length = a.length + b.length:=by
  show (a.cps ++ b.cps).size = _
  rw [Array.size_append]; rfl
theorem strlen_nat:∀ n:Nat, n < 1000→(Str.ofString (toString (n:Int))).length ≤ 20:=by decide +kernel
theorem strlen_int {k:Int} (h0:0 ≤ k) (h1:k < 1000):(Str.ofString (toString k)).length ≤ 20:=by
  (refine eE1 (fun n hR1=>?_) (Int.eq_ofNat_of_zero_le h0); subst hR1)
  exact strlen_nat n (by exact (fun {n m}=>Int.ofNat_lt.mp) h1)
theorem e_len0:(Str.empty).length = 0:=by decide +kernel
theorem e_len1:(Str.ofString "node ").length = 5:=by decide +kernel
theorem e_len2:(Str.ofString " was not passed out (still not ready)").length = 37:=by decide +kernel
theorem msg1:(Str.empty ++ Str.ofString "node ").length ≤ sizeLine:=by rw [strlen_app, e_len0, e_len1, sizeLine_eq]; lia
theorem msg2 {k:Int} (h0:0 ≤ k) (h1:k < 1000):(Str.empty ++ Str.ofString "node " ++ Str.ofString (toString k)).length ≤ sizeLine:=by
  have:=strlen_int h0 h1
  rw [strlen_app, strlen_app, e_len0, e_len1, sizeLine_eq]; lia
theorem msg3 {k:Int} (h0:0 ≤ k) (h1:k < 1000):(Str.empty ++ Str.ofString "node " ++ Str.ofString (toString k) ++ Str.ofString " was not passed out (still not ready)").length ≤ sizeLine:=by
  have:=strlen_int h0 h1
  rw [strlen_app, strlen_app, strlen_app, e_len0, e_len1, e_len2, sizeLine_eq]; lia
local macro_rules | `(tactic| walk_at "leaving ref")=>`(tactic| (k_here; (refine' leave_raiseC ?k1 ?k0 ?k2 ?k3 ?_; (case k0=>first | assumption | exact Heap.MadeExc.of (by assumption)); (case k2=>assumption); (case k1=>assumption); (case k3=>k_asm); k_whole; intro h' t' S' U' C'; (try dsimp only at S' U' C' ⊢))))
local macro_rules | `(tactic| walk_at $s)=>Tab.rules s "And|and|msg1|
And|and|msg2|ss
And|dhalt"
theorem done_bad {w:World} {dp un:Nat} {gd:Option (List Code)} {cn:Str} {cs:Scope} {a:Addr} {ccd:Value} {cl:List (Str × Addr)} {outer:List Env} {A₀:Around} {base h₀:Heap} {L:Addr} {m:Str→Option Value} {news:List (Addr × Obj)} {s:Shared}
    {mean:ExcName→Option Value} {mg mb:Str→Option Value} {f p k:Int} {t:Tok} {nd:Nd} {tf tp t1 t2 t3 t4:Tok} {S dS D R:Addr} {vs:List Value} {c:Nat} {ks:List Int} {ns:List Nd} {o:Obj} {kvs:List (Int × Value)} {Q E:Value→Shared→Prop}
    (B:Below A₀ base outer h₀) (F:Fr h₀ L s.heap m) (N:News h₀ L s.heap news) (T:Top q2 (looseW q2 loose2) mean mg mb h₀) (hk:cs.kind = .function) (hS:(S, instObj 440 dS) ∈ news) (hd:(dS, dictOf (tsD w t1 t2 t3 t4 D (.ref R) (.int p tp) (.int f tf)) 4) ∈ news) (hD:(D, o) ∈ news) (ho:o.IsDictOf (intKind rw_mu0013_01.row.prog w) kvs) (lo:(D == sysModules) = false) (hR:(R, listOf vs.toArray c) ∈ news) (hi:IntsAre vs ks) (hnd:ks.Nodup) (hin:∀ k ∈ ks, ∃ n ∈ ns, n.k = k) (hu:KU ns) (hns:∀ n ∈ ns, NdIn news n) (hRl:∀ n ∈ ns, n.l ≠ R) (htab:Tab kvs ns) (hz:vs.length ≤ 1000) (hdp:dp + 40 < recursionLimit) (hun:un + 400 < cLine)
    (hin1:(nd.x, nObj nd) ∈ news) (hin2:(nd.d, dictOf [] 0) ∈ news) (hv:valueAt kvs k = some (.ref nd.x)) (hnp:0 ≤ nd.np) (h0:0 ≤ k) (h1:k < 1000)
    (ret:∀ e tt tm g h' tk' led, Fr h₀ L g m→g.UpToSlots h'→Ctx0 e h'→RaisedS base g (envX cn cs L a ccd cl :: outer) e (.type "ValueError") tt [.str (Str.empty ++ Str.ofString "node " ++ Str.ofString (toString k) ++ Str.ofString " was not passed out (still not ready)") tm] led h'→(∀ p ∈ news, p ∈ led)→E (.ref e) { s with heap:=h', toks:=tk' }) :
    (K2 w.params).In h₀→wpAny (model rw_mu0013_01.row.prog w) (ktrTop dp un gd cn cs L a ccd cl outer) (call (.ref 423) [.ref S, .int k t]) Q E s:=by
  w_on
  k_fill
  intro X
  obtain ⟨ck, cnm, cig, cic, cmo⟩:=cs
  change ck = _ at hk
  subst hk
  refine wpAny_call ?_
  w_strict (
    k_dflt k_enter
    (have kdx:KtsDicts [] h₀:=ktsDicts_nil)
    (have hb:=Eq.refl (bodyOf (sub 14 8)))
    (conv at hb=>rhs; whnf)
    rw [hb]
    clear hb
    (have mk:=kstMark)
    k_steps
    (unfold Halt)
    (rename Fr _ _ _ _=>F9)
    (rename News _ _ _ _=>N9)
    (have lT:=(by assumption:∀ p ∈ news, p.1 < _))
    (refine' kg_tupS (τ:=Unit) (vs:=[.int k t]) (nn:=0) [] (fun i c _=>i = 0 ∧ ∀ q ∈ news, q ∈ c) () (kh:=[]) (.inl rfl) (fun _ _ _ _ _ h=>nomatch h) ?hl F9 N9 ?hp ?turn ?done)
    (case hl=>exact .head _)
    (case hp=>exact ⟨rfl, fun q hq=>.tail _ hq⟩)
    (case done=>(rintro c t u h8 tk8; (refine eA2 fun h hC1=>?_; clear hC1)); exact absurd h (by simp))
    (case turn =>
      (rintro i v c ⟨⟩ u h8 tk8 I oI hv'; (refine eA2 fun hR0 hK=>?_; subst hR0); rintro hT hoff F8 N8)
      (refine abs_post fun QZ _=>?_)
      clear F9 N9
      (obtain rfl:v = .int k t:=(Option.some.inj (by simpa using hv')).symm)
      (have mD:=hK _ hD)
      (have m1:=hK _ hin1)
      (have m2:=hK _ hin2)
      (obtain ⟨k2, np2, tk2, tp2, x2, d2, l2, vs2, c2⟩:=nd)
      dsimp only [nObj] at hin1 hin2 hv hnp m1 m2
      k_steps
      any_goals (exfalso; lia)
      (unfold Halt)
      (refine And.intro (msg3 h0 h1) ?_)
      (have hlen:=msg3 h0 h1)
      (generalize hmsg:(Str.empty ++ Str.ofString "node " ++ Str.ofString (toString k) ++ Str.ofString " was not passed out (still not ready)") = msg at hlen ⊢)
      (clear hns htab hu hi hnd hin hRl hin1 hin2 hT ho hv)
      k_steps
      (unfold Halt)
      (refine And.intro (by rw [List.length_singleton, sizeLine_eq]; decide) ?_)
      (intro h' e hM)
      dsimp only [ek]
      k_steps
      subst hmsg
      exact ret _ _ _ _ _ _ _ (by assumption) (by assumption) (by assumption) (by assumption) fun p hp=>.tail _ (hK p hp)))
end
end
end
section
open PySem PySem.W PyProof.Rows PySem.Challenge PySem.Spec
theorem eE16 {α1:Sort _} {α2:Sort _} {α3:Sort _} {α4:Sort _} {α5:Sort _} {α6:Sort _} {α7:Sort _} {α8:Sort _} {α9:Sort _} {α10:Sort _} {α11:Sort _} {α12:Sort _} {α13:Sort _} {α14:Sort _} {α15:Sort _} {α16:Sort _} {P:α1→α2→α3→α4→α5→α6→α7→α8→α9→α10→α11→α12→α13→α14→α15→α16→Prop} {G:Prop}:(∀ x1 x2 x3 x4 x5 x6 x7 x8 x9 x10 x11 x12 x13 x14 x15 x16, P x1 x2 x3 x4 x5 x6 x7 x8 x9 x10 x11 x12 x13 x14 x15 x16→G)→(∃ x1 x2 x3 x4 x5 x6 x7 x8 x9 x10 x11 x12 x13 x14 x15 x16, P x1 x2 x3 x4 x5 x6 x7 x8 x9 x10 x11 x12 x13 x14 x15 x16)→G:=fun k h=>h.elim fun x1 h=>h.elim fun x2 h=>h.elim fun x3 h=>h.elim fun x4 h=>h.elim fun x5 h=>h.elim fun x6 h=>h.elim fun x7 h=>h.elim fun x8 h=>h.elim fun x9 h=>h.elim fun x10 h=>h.elim fun x11 h=>h.elim fun x12 h=>h.elim fun x13 h=>h.elim fun x14 h=>h.elim fun x15 h=>h.elim fun x16 h=>k x1 x2 x3 x4 x5 x6 x7 x8 x9 x10 x11 x12 x13 x14 x15 x16 h
theorem nodup_len:∀ {l m:List Int}, l.Nodup→(∀ x ∈ l, x ∈ m)→l.length ≤ m.length
  | [], _, _, _=>Nat.zero_le _
  | a :: l, m, h, hs=>by
    have h':=List.nodup_cons.mp h
    have:=nodup_len (l:=l) (m:=m.erase a) h'.2 fun x hx=>(List.mem_erase_of_ne (fun e:x = a=>h'.1 (by rw [← e]; exact hx))).mpr (hs x (.tail _ hx))
    have hm:=hs a (.head _)
    rw [List.length_erase_of_mem hm] at this
    have:=List.length_pos_of_mem hm
    rw [List.length_cons]
    lia
noncomputable def upto (N:Nat):List Int:=(List.range N).map fun k:Nat=>(k:Int)
theorem mem_upto {N:Nat} {k:Int}:k ∈ upto N ↔ 0 ≤ k ∧ k < N:=by
  unfold upto
  rw [List.mem_map]
  constructor
  · ((refine eE1 fun a=>?_; refine eA2 fun ha hR2=>?_; subst hR2))
    have:=List.mem_range.mp ha
    lia
  · ((refine eA2 fun a b=>?_))
    exact ⟨k.toNat, List.mem_range.mpr (by lia), by lia⟩
theorem len_upto {N:Nat}:(upto N).length = N:=by simp [upto]
noncomputable def ownS (S dS D R:Addr) (ns:List Nd):List Addr:=S :: D :: dS :: R :: (ns.map core).flatMap fun t=>[t.2.2.1, t.2.2.2.1, t.2.2.2.2.1]
theorem own_x {S dS D R a:Addr} {ns:List Nd} (h:a ∉ ownS S dS D R ns):a ≠ S ∧ a ≠ D ∧ a ≠ dS ∧ a ≠ R ∧ ∀ n ∈ ns, a ≠ n.x ∧ a ≠ n.d ∧ a ≠ n.l:=by
  unfold ownS at h
  simp only [List.mem_cons, not_or] at h
  refine ⟨h.1, h.2.1, h.2.2.1, h.2.2.2.1, fun n hn=>?_⟩
  have:∀ b ∈ [n.x, n.d, n.l], a ≠ b:=fun b hb e=>h.2.2.2.2 (List.mem_flatMap.mpr ⟨core n, List.mem_map.mpr ⟨n, hn, rfl⟩, e ▸ hb⟩)
  exact ⟨this _ (.head _), this _ (.tail _ (.head _)), this _ (.tail _ (.tail _ (.head _)))⟩
theorem own_nx {S dS D R a:Addr} {ns:List Nd} (h:a ∉ ownS S dS D R ns):a ∉ ns.map (·.x):=fun hm=>by
  (refine eE1 (fun n=>?_) (List.mem_map.mp hm); refine eA2 fun hn e=>?_)
  exact ((own_x h).2.2.2.2 n hn).1 e.symm
theorem own_core {S dS D R:Addr} {ns ns':List Nd} (h:ns'.map core = ns.map core):ownS S dS D R ns' = ownS S dS D R ns:=by unfold ownS; rw [h]
structure SrtK (w:World) (led:List (Addr × Obj)) (S dS D R:Addr) (t1 t2 t3 t4 tp tf:Tok) (o:Obj) (kvs:List (Int × Value)) (rv:List Value) (c:Nat) (ns:List Nd) (p f:Int) (rk:List Int):Prop where
  hs:(S, instObj 440 dS) ∈ led
  hd:(dS, dictOf (tsD w t1 t2 t3 t4 D (.ref R) (.int p tp) (.int f tf)) 4) ∈ led
  hD:(D, o) ∈ led
  ho:o.IsDictOf (intKind rw_mu0013_01.row.prog w) kvs
  hlo:(D == sysModules) = false
  hR:(R, listOf rv.toArray c) ∈ led
  hi:IntsAre rv rk
  hu:KU ns
  hn:∀ n ∈ ns, NdIn led n
  hl:∀ n ∈ ns, n.l ≠ R
  ht:Tab kvs ns
structure SrtG (N:Nat) (pre suc:Int→List Int) (ns:List Nd) (p f:Int) (dn ou rk:List Int):Prop where
  hp:p = (dn.length:Int) + ou.length
  hf:f = dn.length
  hn:∀ n ∈ ns, n.np = npA pre dn ou n.k ∧ IntsAre n.vs (suc n.k)
  hk:∀ k, (∃ n ∈ ns, n.k = k) ↔ 0 ≤ k ∧ k < N
  hg:Gph N pre suc
  hi:GInv N pre dn ou rk
  htwo:∀ a, (suc a).length ≤ 2
  hN:N ≤ 900
noncomputable def Sorter (w:World) (N:Nat) (pre suc:Int→List Int) (led:List (Addr × Obj)) (S:Addr) (own:List Addr) (dn ou rk:List Int):Prop :=
  ∃ (dS D R:Addr) (t1 t2 t3 t4 tp tf:Tok) (o:Obj) (kvs:List (Int × Value)) (rv:List Value) (c:Nat) (ns:List Nd) (p f:Int),
    SrtK w led S dS D R t1 t2 t3 t4 tp tf o kvs rv c ns p f rk ∧ SrtG N pre suc ns p f dn ou rk ∧ own = ownS S dS D R ns
theorem Sorter.inv {w:World} {N:Nat} {pre suc:Int→List Int} {led:List (Addr × Obj)} {S:Addr} {own:List Addr} {dn ou rk:List Int} (h:Sorter w N pre suc led S own dn ou rk):Gph N pre suc ∧ GInv N pre dn ou rk:=by
  (revert h; refine eE16 fun dS D R t1 t2 t3 t4 tp tf o kvs rv c ns p f=>?_; refine eA3 fun K G e=>?_)
  exact ⟨G.hg, G.hi⟩
theorem Sorter.own_in {w:World} {N:Nat} {pre suc:Int→List Int} {led:List (Addr × Obj)} {S:Addr} {own:List Addr} {dn ou rk:List Int} (h:Sorter w N pre suc led S own dn ou rk):∀ a ∈ own, ∃ o, (a, o) ∈ led:=by
  (revert h; refine eE16 fun dS D R t1 t2 t3 t4 tp tf o kvs rv c ns p f=>?_; refine eA3 fun K G hR18=>?_; subst hR18)
  intro a ha
  unfold ownS at ha
  rcases List.mem_cons.mp ha with rfl | ha
  · exact ⟨_, K.hs⟩
  rcases List.mem_cons.mp ha with rfl | ha
  · exact ⟨_, K.hD⟩
  rcases List.mem_cons.mp ha with rfl | ha
  · exact ⟨_, K.hd⟩
  rcases List.mem_cons.mp ha with rfl | ha
  · exact ⟨_, K.hR⟩
  (refine eE1 (fun t=>?_) (List.mem_flatMap.mp ha); refine eA2 fun ht ha=>?_)
  (refine eE1 (fun n=>?_) (List.mem_map.mp ht); refine eA2 fun hn hR2=>?_; subst hR2)
  have z:=K.hn n hn
  rcases List.mem_cons.mp ha with rfl | ha
  · exact ⟨_, z.1⟩
  rcases List.mem_cons.mp ha with rfl | ha
  · exact ⟨_, z.2.1⟩
  rw [List.mem_singleton.mp ha]
  exact ⟨_, z.2.2⟩
theorem Sorter.mono {w:World} {N:Nat} {pre suc:Int→List Int} {led led':List (Addr × Obj)} {S:Addr} {own:List Addr} {dn ou rk:List Int} (h:Sorter w N pre suc led S own dn ou rk) (k:∀ q ∈ led, q.1 ∈ own→q ∈ led'):Sorter w N pre suc led' S own dn ou rk:=by
  (revert h; refine eE16 fun dS D R t1 t2 t3 t4 tp tf o kvs rv c ns p f=>?_; refine eA3 fun K G hR18=>?_; subst hR18)
  have hx:∀ n ∈ ns, ∀ b ∈ [n.x, n.d, n.l], b ∈ ownS S dS D R ns:=fun n hn b hb=>.tail _ (.tail _ (.tail _ (.tail _ (List.mem_flatMap.mpr ⟨core n, List.mem_map.mpr ⟨n, hn, rfl⟩, hb⟩))))
  exact (iE16 dS D R t1 t2 t3 t4 tp tf o kvs rv c ns p f ⟨⟨k _ K.hs (.head _), k _ K.hd (.tail _ (.tail _ (.head _))), k _ K.hD (.tail _ (.head _)), K.ho, K.hlo, k _ K.hR (.tail _ (.tail _ (.tail _ (.head _)))), K.hi, K.hu, fun n hn=>⟨k _ (K.hn n hn).1 (hx n hn _ (.head _)), k _ (K.hn n hn).2.1 (hx n hn _ (.tail _ (.head _))), k _ (K.hn n hn).2.2 (hx n hn _ (.tail _ (.tail _ (.head _))))⟩, K.hl, K.ht⟩, G, rfl⟩)
theorem core_out {ks:List Int}:∀ {ns:List Nd}, (outN ks ns).map core = ns.map core:=by
  induction ks with
  | nil=>intro ns; rfl
  | cons k r ih=>intro ns; exact (ih (ns:=npN k (-1) 759 ns)).trans core_np
theorem np_out {ks:List Int}:∀ {ns:List Nd} {n:Nd}, n ∈ outN ks ns→∃ n0 ∈ ns, core n0 = core n ∧ n.np = if n.k ∈ ks then -1 else n0.np:=by
  induction ks with
  | nil=>exact fun h=>⟨_, h, rfl, by simp⟩
  | cons k r ih =>
    intro ns n h
    (refine eE1 (fun n1=>?_) (ih (ns:=npN k (-1) 759 ns) h); refine eA3 fun h1 c1 e1=>?_)
    (refine eE1 (fun n0=>?_) (List.mem_map.mp h1); refine eA2 fun h0 hR2=>?_; subst hR2)
    have hk:n0.k = n.k:=by
      have:=congrArg (·.1) c1
      by_cases e:n0.k = k
      · rw [if_pos e] at this; exact this
      · rw [if_neg e] at this; exact this
    by_cases e:n0.k = k
    · rw [if_pos e] at c1 e1
      refine ⟨n0, h0, c1, ?_⟩
      rw [e1, if_pos (List.mem_cons.mpr (.inl (hk ▸ e)))]
      split <;> rfl
    · rw [if_neg e] at c1 e1
      refine ⟨n0, h0, c1, ?_⟩
      rw [e1]
      by_cases h3:n.k ∈ r
      · rw [if_pos h3, if_pos (.tail _ h3)]
      · rw [if_neg h3, if_neg (fun h=>(List.mem_cons.mp h).elim (fun z=>e (hk.trans z)) h3)]
theorem core_eq {n n':Nd} (h:core n = core n'):n.k = n'.k ∧ n.vs = n'.vs ∧ n.l = n'.l:=by
  unfold core at h
  simp only [Prod.mk.injEq] at h
  exact ⟨h.1, h.2.2.2.2.2.1, h.2.2.2.2.1⟩
section
variable {w:World} {H:Option Value} {dp un:Nat} {gd:Option (List Code)} {cn:Str} {cs:Scope} {a:Addr} {ccd:Value} {cl:List (Str × Addr)} {outer:List Env} {A₀:Around} {base h₀:Heap} {L:Addr} {m:Str→Option Value} {news:List (Addr × Obj)} {s:Shared}
    {mean:ExcName→Option Value} {mg mb:Str→Option Value} {N:Nat} {pre suc:Int→List Int} {S:Addr} {own:List Addr} {dn ou rk:List Int} {Q E:Value→Shared→Prop}
theorem rdyS (B:Below A₀ base outer h₀) (F:Fr h₀ L s.heap m) (Nw:News h₀ L s.heap news) (T:Top q2 (looseW q2 loose2) mean mg mb h₀) (hk:cs.kind = .function) (hS:Sorter w N pre suc news S own dn ou rk) (HH:HandIn H news) (hdp:dp + 40 < recursionLimit) (hun:un + 400 < cLine)
    (ret:∀ T vs h' tk' led', Fr h₀ L h' m→News h₀ L h' led'→(T, ({ cls:=.type "tuple", data:=.seq vs.toArray }:Obj)) ∈ led'→IntsAre vs rk→Sorter w N pre suc led' S own dn (ou ++ rk) []→(∀ q ∈ news, q.1 ∉ own→q ∈ led')→(∀ q ∈ news, q.1 < T)→Q (.ref T) { s with heap:=h', toks:=tk' }) :
    (K2 w.params).In h₀→wpAny (model rw_mu0013_01.row.prog w) (ktrH H dp un gd cn cs L a ccd cl outer) (call (.ref 402) [.ref S]) Q E s:=by
  intro X
  (revert hS; refine eE16 fun dS D R t1 t2 t3 t4 tp tf o kvs rv c ns p f=>?_; refine eA3 fun K G hR18=>?_; subst hR18)
  have hlen:rv.length ≤ N:=by
    rw [K.hi.length]
    have:=nodup_len (m:=upto N) G.hi.ndr fun x hx=>mem_upto.mpr (G.hi.rd x hx).1
    rwa [len_upto] at this
  have h9:=G.hN
  refine rdy_tells B F Nw T hk K.hs K.hd K.hD K.ho K.hlo K.hR K.hi G.hi.ndr (fun k hk=>(G.hk k).mpr (G.hi.rd k hk).1) K.hu K.hn K.hl K.ht (by lia) HH hdp hun ?_ X
  intro T' c' t' h' tk' led' F' N' hT hn hR hd hkeep hlt
  refine ret T' rv h' tk' led' F' N' hT K.hi (iE16 dS D R t1 t2 t3 t4 t' tf o kvs ([]) c' (outN rk ns) _ f ⟨⟨?_, hd, ?_, K.ho, K.hlo, hR, .nil, K.hu.out, hn, fun n hn=>?_, tab_out K.ht⟩, ⟨?_, G.hf, fun n hn=>?_, fun k=>?_, G.hg, G.hi.rdy, G.htwo, G.hN⟩, (own_core core_out).symm⟩) ?_ hlt
  · exact hkeep _ K.hs (fun e=>news_ne Nw K.hs K.hd (fun q=>by cases q) e) (fun e=>news_ne Nw K.hs K.hR (fun q=>by cases q) e) fun hm=>by
      (refine eE1 (fun n=>?_) (List.mem_map.mp hm); refine eA2 fun hn e=>?_)
      exact news_ne Nw K.hs (K.hn n hn).1 (fun q=>by cases q) e.symm
  · refine hkeep _ K.hD (fun e=>news_neo Nw K.hD K.hd (fun q=>?_) e) (fun e=>news_ne Nw K.hD K.hR (fun q=>?_) e) fun hm=>?_
    · exact tsd_not K.ho q
    · (refine eE2 (fun es ep=>?_) K.ho; refine eA2 fun hP2 _=>?_; obtain ⟨hc, _⟩:=hP2)
      have:=hc.symm.trans q
      injection this with e
      exact absurd e (by decide)
    · (refine eE1 (fun n=>?_) (List.mem_map.mp hm); refine eA2 fun hn e=>?_)
      exact news_ne Nw K.hD (K.hn n hn).1 (fun q=>by (refine eE2 (fun es ep=>?_) K.ho; refine eA2 fun hP2 _=>?_; obtain ⟨hc, _⟩:=hP2); exact Value.noConfusion (hc.symm.trans q)) e.symm
  · (refine eE1 (fun n0=>?_) (np_out hn); refine eA3 fun h0 c0 hC3=>?_; clear hC3)
    rw [← (core_eq c0).2.2]
    exact K.hl n0 h0
  · rw [G.hp, List.length_append, K.hi.length]
    push_cast
    exact Int.add_assoc ↑dn.length ↑ou.length ↑rk.length
  · (refine eE1 (fun n0=>?_) (np_out hn); refine eA3 fun h0 c0 e0=>?_)
    (refine eA3 (fun k0 v0 hC2=>?_) (core_eq c0); clear hC2)
    rw [e0, npA_rdy (fun x hx=>(G.hi.rd x hx).2.1), ← k0, ← v0, (G.hn n0 h0).1]
    exact ⟨rfl, (G.hn n0 h0).2⟩
  · rw [← G.hk k]
    constructor
    · ((refine eE1 fun n=>?_; refine eA2 fun hn hR2=>?_; subst hR2))
      (refine eE1 (fun n0=>?_) (np_out hn); refine eA3 fun h0 c0 hC3=>?_; clear hC3)
      exact ⟨n0, h0, (core_eq c0).1⟩
    · ((refine eE1 fun n=>?_; refine eA2 fun hn hR2=>?_; subst hR2))
      have:n.k ∈ (outN rk ns).map (·.k):=by rw [outN_k]; exact List.mem_map.mpr ⟨n, hn, rfl⟩
      (refine eE1 (fun n'=>?_) (List.mem_map.mp this); refine eA2 fun h' e=>?_)
      exact ⟨n', h', e⟩
  · intro q hq hno
    have z:=own_x hno
    exact hkeep q hq z.2.2.1 z.2.2.2.1 (own_nx hno)
theorem actS (B:Below A₀ base outer h₀) (F:Fr h₀ L s.heap m) (Nw:News h₀ L s.heap news) (T:Top q2 (looseW q2 loose2) mean mg mb h₀) (hk:cs.kind = .function) (hS:Sorter w N pre suc news S own dn ou rk) (hdp:dp + 40 < recursionLimit) (hun:un + 400 < cLine)
    (ret:∀ h' tk', Fr h₀ L h' m→News h₀ L h' news→Q (.bool (!(ou.isEmpty && rk.isEmpty))) { s with heap:=h', toks:=tk' }) :
    (K2 w.params).In h₀→wpAny (model rw_mu0013_01.row.prog w) (ktrH H dp un gd cn cs L a ccd cl outer) (call (.ref 409) [.ref S]) Q E s:=by
  intro X
  (revert hS; refine eE16 fun dS D R t1 t2 t3 t4 tp tf o kvs rv c ns p f=>?_; refine eA3 fun K G hR18=>?_; subst hR18)
  have hlen:rv.length ≤ N:=by
    rw [K.hi.length]
    have:=nodup_len (m:=upto N) G.hi.ndr fun x hx=>mem_upto.mpr (G.hi.rd x hx).1
    rwa [len_upto] at this
  have h9:=G.hN
  refine act_tells B F Nw T hk K.hs K.hd K.hR (by omega) hdp hun ?_ X
  rintro b h' tk' rfl F' N'
  have e:(decide (f < p) || !rv.isEmpty) = !(ou.isEmpty && rk.isEmpty):=by
    have h1:=G.hp
    have h2:=G.hf
    have h3:rv.isEmpty = rk.isEmpty:=by
      have:=K.hi.length
      cases rv <;> cases rk <;> first | rfl | (simp at this)
    rw [h3]
    cases ou with
    | nil =>
      rw [decide_eq_false (by simp at h1; lia)]
      rfl
    | cons x r =>
      rw [decide_eq_true (by rw [List.length_cons] at h1; push_cast at h1; lia)]
      rfl
  rw [e]
  exact ret h' tk' F' N'
theorem doneS {k:Int} {t:Tok} (B:Below A₀ base outer h₀) (F:Fr h₀ L s.heap m) (Nw:News h₀ L s.heap news) (T:Top q2 (looseW q2 loose2) mean mg mb h₀) (hk:cs.kind = .function) (hS:Sorter w N pre suc news S own dn ou rk) (HH:HandIn H news) (hko:k ∈ ou) (hdp:dp + 40 < recursionLimit) (hun:un + 400 < cLine)
    (ret:∀ h' tk' led' rk', Fr h₀ L h' m→News h₀ L h' led'→Sorter w N pre suc led' S own (dn ++ [k]) (ou.erase k) rk'→(∀ q ∈ news, q.1 ∉ own→q ∈ led')→Q .none { s with heap:=h', toks:=tk' }) :
    (K2 w.params).In h₀→wpAny (model rw_mu0013_01.row.prog w) (ktrH H dp un gd cn cs L a ccd cl outer) (call (.ref 423) [.ref S, .int k t]) Q E s:=by
  intro X
  (revert hS; refine eE16 fun dS D R t1 t2 t3 t4 tp tf o kvs rv c ns p f=>?_; refine eA3 fun K G hR18=>?_; subst hR18)
  have hlen:rv.length ≤ N:=by
    rw [K.hi.length]
    have:=nodup_len (m:=upto N) G.hi.ndr fun x hx=>mem_upto.mpr (G.hi.rd x hx).1
    rwa [len_upto] at this
  have h9:=G.hN
  refine eA3 (fun kr kd kc=>?_) (G.hi.od k hko)
  (refine eE1 (fun nd=>?_) ((G.hk k).mpr kr); refine eA2 fun hnd hR2=>?_; subst hR2)
  have hsu:∀ x ∈ suc nd.k, ∃ n ∈ ns, n.k = x:=fun x hx=>by
    have:=G.hg.lt x nd.k (by have:=List.count_pos_iff.mpr hx; rw [G.hg.dual] at this; exact List.count_pos_iff.mp this)
    exact (G.hk x).mpr ⟨by lia, G.hg.top _ _ hx⟩
  have hnp0:nd.np = -1:=by rw [(G.hn nd hnd).1, npA, if_neg kd, if_pos hko]
  refine done_ok (nd:=nd) (su:=suc nd.k) B F Nw T hk K.hs K.hd K.hD K.ho K.hlo K.hR K.hi G.hi.ndr (fun k hk=>(G.hk k).mpr (G.hi.rd k hk).1) K.hu K.hn K.hl K.ht (by lia) HH hdp hun hnd rfl hnp0 (G.hn nd hnd).2 hsu (Nat.le_trans (G.htwo _) (by decide)) ?_ X
  intro t' h' tk' led' ns' rv' rk' rc' F' N' hcore hn' hi' hfold hR' hd' hkeep
  have hka:∀ n ∈ ns, n.k ∈ keysA (setA nd.k (-2) (absN ns)):=fun n hn=>by
    rw [keys_setA]
    unfold keysA absN
    rw [List.map_map]
    exact List.mem_map.mpr ⟨n, hn, rfl⟩
  have hnp:∀ n ∈ ns, npOf (setA nd.k (-2) (absN ns)) n.k = if n.k = nd.k then -2 else npA pre dn ou n.k:=fun n hn=>by
    rw [npOf_setA (by rw [← keys_setA]; exact hka n hn), npOf_at K.hu hn, (G.hn n hn).1]
  have hcnt:=fun x=>cntU_snoc (pre:=pre) (x:=x) kd
  have hfr:∀ x, x ∈ dn ∨ x ∈ ou ∨ x ∈ rk→(suc nd.k).count x = 0:=fun x hx=>by
    have h0:cntU pre dn x = 0:=by
      rcases hx with h | h | h
      · exact (G.hi.dr x h).2
      · exact (G.hi.od x h).2.2
      · exact (G.hi.rd x h).2.2.2
    have:=hcnt x
    rw [G.hg.dual]
    lia
  have hsx:∀ x ∈ suc nd.k, nd.k < x ∧ x ∉ dn ∧ x ∉ ou ∧ x ∉ rk:=fun x hx=>by
    have hp:=List.count_pos_iff.mpr hx
    refine ⟨(G.hg.lt x nd.k (by rw [G.hg.dual] at hp; exact List.count_pos_iff.mp hp)).2, fun h=>?_, fun h=>?_, fun h=>?_⟩
    · have:=hfr x (.inl h); lia
    · have:=hfr x (.inr (.inl h)); omega
    · have:=hfr x (.inr (.inr h)); omega
  have hnpx:∀ x ∈ suc nd.k, npOf (setA nd.k (-2) (absN ns)) x = cntU pre dn x:=fun x hx=>by
    (refine eE1 (fun n=>?_) (hsu x hx); refine eA2 fun hn hR2=>?_; subst hR2)
    (refine eA4 (fun q1 q2 q3 hC3=>?_) (hsx _ hx); clear hC3)
    rw [hnp n hn, if_neg (by exact Int.ne_of_gt q1), npA, if_neg q2, if_neg q3]
  obtain ⟨an', rk2, e1, e2, e3, e4, e5⟩:=fold_decA (suc nd.k) (setA nd.k (-2) (absN ns)) rk fun x hx=>by
    refine ⟨?_, ?_⟩
    · (refine eE1 (fun n=>?_) (hsu x hx); refine eA2 fun hn hR2=>?_; subst hR2)
      exact hka n hn
    · rw [hnpx x hx]
      have:=hcnt x
      rw [G.hg.dual]
      lia
  rw [e1] at hfold
  injection hfold with f1 f2
  subst f1 f2
  have hrk:∀ x, x ∈ rk' ↔ x ∈ rk ∨ (x ∈ suc nd.k ∧ cntU pre dn x = (suc nd.k).count x):=fun x=>by
    rw [e4 x]
    refine or_congr Iff.rfl (and_congr_right fun hx=>?_)
    rw [hnpx x hx]
    exact Int.ofNat_inj
  have gi:=G.hi.done G.hg hko (e5 G.hi.ndr fun x hx hs=>(hsx x hs).2.2.2 hx) hrk
  have hwS:=hkeep _ K.hs (fun e=>news_ne Nw K.hs K.hd (fun q=>by cases q) e) (fun e=>news_ne Nw K.hs K.hR (fun q=>by cases q) e) fun hm=>by
      (refine eE1 (fun n=>?_) (List.mem_map.mp hm); refine eA2 fun hn e=>?_)
      exact news_ne Nw K.hs (K.hn n hn).1 (fun q=>by cases q) e.symm
  have hwD:=hkeep _ K.hD (fun e=>news_neo Nw K.hD K.hd (fun q=>tsd_not K.ho q) e) (fun e=>news_ne Nw K.hD K.hR (fun q=>by
      (refine eE2 (fun es ep=>?_) K.ho; refine eA2 fun hP2 _=>?_; obtain ⟨hc, _⟩:=hP2)
      have:=hc.symm.trans q
      injection this with e
      exact absurd e (by decide)) e) fun hm=>by
      (refine eE1 (fun n=>?_) (List.mem_map.mp hm); refine eA2 fun hn e=>?_)
      exact news_ne Nw K.hD (K.hn n hn).1 (fun q=>by (refine eE2 (fun es ep=>?_) K.ho; refine eA2 fun hP2 _=>?_; obtain ⟨hc, _⟩:=hP2); exact Value.noConfusion (hc.symm.trans q)) e.symm
  have hsrc:∀ n ∈ ns', ∃ n0 ∈ ns, core n0 = core n:=fun n hn=>by
    have:core n ∈ ns.map core:=hcore ▸ List.mem_map.mpr ⟨n, hn, rfl⟩
    exact List.mem_map.mp this
  refine ret h' tk' led' rk' F' N' (iE16 dS D R t1 t2 t3 t4 tp t' o kvs rv' rc' ns' p (f + 1) ⟨⟨hwS, hd', hwD, K.ho, K.hlo, hR', hi', K.hu.core hcore, hn', fun n hn=>?_, tab_core hcore K.ht⟩, ⟨?_, ?_, fun n hn=>?_, fun k=>?_, G.hg, gi, G.htwo, G.hN⟩, (own_core hcore).symm⟩) ?_
  · (refine eE1 (fun n0=>?_) (hsrc n hn); refine eA2 fun h0 c0=>?_)
    rw [← (core_eq c0).2.2]
    exact K.hl n0 h0
  · have h1:=G.hp
    rw [List.length_append, List.length_erase_of_mem hko]
    have:=List.length_pos_of_mem hko
    simp only [List.length_singleton]
    lia
  · have h1:=G.hf
    rw [List.length_append]
    simp only [List.length_singleton]
    exact Eq.symm (Nat.ToInt.add_congr (id (Eq.symm h1)) rfl)
  · (refine eE1 (fun n0=>?_) (hsrc n hn); refine eA2 fun h0 c0=>?_)
    (refine eA3 (fun k0 v0 hC2=>?_) (core_eq c0); clear hC2)
    refine ⟨?_, by rw [← v0, ← k0]; exact (G.hn n0 h0).2⟩
    rw [← npOf_at (K.hu.core hcore) hn, ← k0, e3 _ (hka n0 h0), hnp n0 h0]
    unfold npA
    by_cases z:n0.k = nd.k
    · rw [if_pos z, if_pos (List.mem_append_right _ (List.mem_singleton.mpr z)), z]
      have:(suc nd.k).count nd.k = 0:=hfr _ (.inr (.inl hko))
      lia
    · rw [if_neg z]
      by_cases z2:n0.k ∈ dn
      · rw [if_pos z2, if_pos (List.mem_append_left _ z2), hfr _ (.inl z2)]
        rfl
      · have z3:n0.k ∉ dn ++ [nd.k]:=fun h=>(List.mem_append.mp h).elim z2 fun h=>z (List.mem_singleton.mp h)
        rw [if_neg z2, if_neg z3]
        by_cases z4:n0.k ∈ ou
        · rw [if_pos z4, if_pos ((List.Nodup.mem_erase_iff G.hi.ndo).mpr ⟨z, z4⟩), hfr _ (.inr (.inl z4))]
          rfl
        · rw [if_neg z4, if_neg (fun h=>z4 ((List.Nodup.mem_erase_iff G.hi.ndo).mp h).2)]
          have:=hcnt n0.k
          rw [G.hg.dual]
          lia
  · rw [← G.hk k]
    constructor
    · ((refine eE1 fun n=>?_; refine eA2 fun hn hR2=>?_; subst hR2))
      (refine eE1 (fun n0=>?_) (hsrc n hn); refine eA2 fun h0 c0=>?_)
      exact ⟨n0, h0, (core_eq c0).1⟩
    · ((refine eE1 fun n=>?_; refine eA2 fun hn hR2=>?_; subst hR2))
      have:core n ∈ ns'.map core:=hcore ▸ List.mem_map.mpr ⟨n, hn, rfl⟩
      (refine eE1 (fun n'=>?_) (List.mem_map.mp this); refine eA2 fun h' e=>?_)
      exact ⟨n', h', (core_eq e).1⟩
  · intro q hq hno
    have z:=own_x hno
    exact hkeep q hq z.2.2.1 z.2.2.2.1 (own_nx hno)
end
theorem badS {w:World} {dp un:Nat} {gd:Option (List Code)} {cn:Str} {cs:Scope} {a:Addr} {ccd:Value} {cl:List (Str × Addr)} {outer:List Env} {A₀:Around} {base h₀:Heap} {L:Addr} {m:Str→Option Value} {news:List (Addr × Obj)} {s:Shared}
    {mean:ExcName→Option Value} {mg mb:Str→Option Value} {N:Nat} {pre suc:Int→List Int} {S:Addr} {own:List Addr} {dn ou rk:List Int} {Q E:Value→Shared→Prop} {k:Int} {t:Tok} (B:Below A₀ base outer h₀) (F:Fr h₀ L s.heap m) (Nw:News h₀ L s.heap news) (T:Top q2 (looseW q2 loose2) mean mg mb h₀) (hk:cs.kind = .function) (hS:Sorter w N pre suc news S own dn ou rk) (hr:0 ≤ k ∧ k < N) (hkd:k ∉ dn) (hko:k ∉ ou) (hdp:dp + 40 < recursionLimit) (hun:un + 400 < cLine)
    (ret:∀ e tt tm g h' tk' led, Fr h₀ L g m→g.UpToSlots h'→Ctx0 e h'→RaisedS base g (envX cn cs L a ccd cl :: outer) e (.type "ValueError") tt [.str (Str.empty ++ Str.ofString "node " ++ Str.ofString (toString k) ++ Str.ofString " was not passed out (still not ready)") tm] led h'→(∀ p ∈ news, p ∈ led)→E (.ref e) { s with heap:=h', toks:=tk' }) :
    (K2 w.params).In h₀→wpAny (model rw_mu0013_01.row.prog w) (ktrTop dp un gd cn cs L a ccd cl outer) (call (.ref 423) [.ref S, .int k t]) Q E s:=by
  intro X
  (revert hS; refine eE16 fun dS D R t1 t2 t3 t4 tp tf o kvs rv c ns p f=>?_; refine eA3 fun K G hR18=>?_; subst hR18)
  have hlen:rv.length ≤ N:=by
    rw [K.hi.length]
    have:=nodup_len (m:=upto N) G.hi.ndr fun x hx=>mem_upto.mpr (G.hi.rd x hx).1
    rwa [len_upto] at this
  have h9:=G.hN
  (refine eE1 (fun nd=>?_) ((G.hk k).mpr hr); refine eA2 fun hnd hR2=>?_; subst hR2)
  exact done_bad (nd:=nd) B F Nw T hk K.hs K.hd K.hD K.ho K.hlo K.hR K.hi G.hi.ndr (fun k hk=>(G.hk k).mpr (G.hi.rd k hk).1) K.hu K.hn K.hl K.ht (by lia) hdp hun (K.hn nd hnd).1 (K.hn nd hnd).2.1 (tab_at K.ht K.hu hnd) (by rw [(G.hn nd hnd).1, npA, if_neg hkd, if_neg hko]; exact Int.natCast_nonneg _) hr.1 (by lia) ret X
end
section
open PySem PySem.W PyProof.Rows PySem.Challenge PySem.Spec PySem.Calls
local macro_rules | `(tactic| walk_at $s)=>Tab.rules s "subscriptTail Name BinOp ref int||itemI|amsllc?|i
exec For Name Call cons nil||forX|?f|w"
section
open PySem PySem.W PyProof.Rows PySem.Challenge PySem.Spec PySem.Calls
local macro_rules | `(tactic| walk_at $s)=>Tab.rules s "storeName||storeT|aa?rr|Wis
call ref|halt"
section
open PySem PySem.W PyProof.Rows PySem.Challenge PySem.Spec PySem.Calls
section
open PySem PySem.W PyProof.Rows PySem.Challenge PySem.Spec
theorem callWith_MWN {M:Model} {A:Around} {Q E:Value→Shared→Prop} {env:Env} {pos:Pos} {s:Shared} {q:Addr} {self:Value} {h₀:Heap} {L:Addr} {news:List (Addr × Obj)} (N:News h₀ L s.heap news) (hq:(q, mwObj self) ∈ news) (h:wpAny M A (call (.ref q) []) Q E s) :
    wpAny M A (callWith pos (.ref q) [] (backTo pos (starEach [] env)) []) Q E s:=callWith_MW (self:=self) (N _ hq).1 h
theorem si_boot:bootBuiltins (Str.ofString "StopIteration") = some (.type "StopIteration"):=by boot_by_name
theorem si_exc:isSubtype (.type "StopIteration") (.type "BaseException") = pure true:=by rw [isSubtype_type]; kernel_rfl
theorem si_tup:isSubtype (.type ((Manifest.find? "StopIteration").elim "type" fun x=>x.metatype)) (.type "tuple") = pure false:=by
  rw [show ((Manifest.find? "StopIteration").elim "type" fun x=>x.metatype) = "type" from by kernel_rfl, isSubtype_type]; kernel_rfl
theorem si_sub:isSubtype (.type "StopIteration") (.type "StopIteration") = pure true:=by rw [isSubtype_type]; kernel_rfl
theorem fr_node {g h:Heap} {L S D K T Z V:Addr} {nv x:Value} (F:Fr g L h (fun y=>if y = Str.ofString "node" then some x else fcM S D K T Z V nv y)):Fr g L h (fcM S D K T Z V x):=by
  have e:(fun y=>if y = Str.ofString "node" then some x else fcM S D K T Z V nv y) = fcM S D K T Z V x:=by
    funext y
    by_cases q:y = Str.ofString "node"
    · unfold fcM; rw [if_pos q, if_pos q]
    · unfold fcM; rw [if_neg q, if_neg q, if_neg q]
  exact e ▸ F
noncomputable abbrev GrK (w:World) (mean:ExcName→Option Value) (mg mb:Str→Option Value) (A₀:Around) (base:Heap) (outer:List Env) (g₀ g:Heap):Prop:=Gr (K2 w.params) q2 (looseW q2 loose2) mean mg mb A₀ base outer g₀ g

local macro_rules | `(tactic| walk_at $s)=>Tab.rules s "delItem ref int||delU|aamssl?|id
call builtin:list.pop||popU|aaml?|id
callWith ref||callWith_MWN|am?|
subscriptTail Name UnaryOp ref int||itemLast|aml?|"
theorem fc_inner {w:World} {dp un:Nat} {gd:Option (List Code)} {cn:Str} {cs:Scope} {Lc ac:Addr} {ccd:Value} {cl:List (Str × Addr)} {outer:List Env} {base g₀ g hp:Heap} {L S D K T Z V q I l:Addr} {gs:Array GenState} {dr:Drawn} {tk0:Nat} {os:OsState} {Q:Flow→Shared→Prop} {E:Value→Shared→Prop}
    {mean:ExcName→Option Value} {mg mb:Str→Option Value} {nv:Value} {kl tl vs:List Value} {kc tc c i:Nat} {k:Int} {tk:Tok} {oI vo:Obj} {kvs:List (Int × Value)} {led:List (Addr × Obj)}
    (G:GrK w mean mg mb (ktrTop dp un gd cn cs Lc ac ccd cl outer) base (envX cn cs Lc ac ccd cl :: outer) g₀ g) (XB:(K2 w.params).In base) (TB:Top q2 (looseW q2 loose2) mean mg mb base) (F:Fr g L hp (fcM S D K T Z V nv)) (N:News g L hp led)
    (hE:PassesOwn (model rw_mu0013_01.row.prog w) ((ktrTop dp un gd cn cs Lc ac ccd cl outer).deeper (fcE L)) (fcE L) E)
    (hEA:∀ e, PassesOwnAt (model rw_mu0013_01.row.prog w) (((ktrTop dp un gd cn cs Lc ac ccd cl outer).deeper (fcE L)).mark (some (Value.ref e))) ((ktrTop dp un gd cn cs Lc ac ccd cl outer).deeper (fcE L)) (fcE L) E)
    (hK:(K, listOf (List.toArray (kl ++ [Value.int k tk])) kc) ∈ led) (hT:(T, listOf (List.toArray (tl ++ [Value.ref q])) tc) ∈ led) (hq:(q, mwObj (.ref I)) ∈ led) (hI:(I, oI) ∈ led) (hLI:oI.cls = .type "list_iterator" ∧ oI.data = .fields #[.ref l, .int i 0]) (hl:(l, listOf vs.toArray c) ∈ led)
    (hV:(V, vo) ∈ led) (ho:vo.IsDictOf (intKind rw_mu0013_01.row.prog w) kvs) (lo:(V == sysModules) = false) (hkv:(valueAt kvs k).isSome = true) (hkz:kl.length ≤ 1000) (htz:tl.length ≤ 1000) (hvz:kvs.length ≤ 1000) (nIK:K ≠ I) (nIT:T ≠ I) (nIV:V ≠ I) (nKV:V ≠ K) (nKT:T ≠ K) (nVT:T ≠ V)
    (item:∀ x h' tk' oI', vs[i]? = some x→oI'.cls = .type "list_iterator"→oI'.data = .fields #[.ref l, .int ((i + 1:Nat):Int) 0]→Fr g L h' (fcM S D K T Z V x)→News g L h' (upL I oI' led)→Q .brk ⟨h', gs, dr, tk', os⟩)
    (stop:vs[i]? = none→∀ h' tk' g' vo', GrK w mean mg mb (ktrTop dp un gd cn cs Lc ac ccd cl outer) base (envX cn cs Lc ac ccd cl :: outer) g₀ g'→Fr g' L h' (fcM S D K T Z V nv)→News g' L h' (upL T (listOf tl.toArray (tc + 1)) (upL V vo' (upL K (listOf kl.toArray (kc + 1)) (led.filter fun p=>decide (p.1 ≠ I)))))→vo'.IsDictOf (intKind rw_mu0013_01.row.prog w) (without kvs k)→Q .next ⟨h', gs, dr, tk', os⟩) :
    (K2 w.params).In g→wpAny (model rw_mu0013_01.row.prog w) ((ktrTop dp un gd cn cs Lc ac ccd cl outer).deeper (fcE L)) (execs fcInnerB (fcE L)) Q E ⟨hp, gs, dr, tk0, os⟩:=by
  w_on
  k_fill
  intro X
  have hb:=Eq.refl fcInnerB
  conv at hb=>rhs; whnf
  rw [hb]
  clear hb
  w_strict (
    (have mk:=kstMark)
    k_steps
    (unfold Halt)
    (refine' callNext rfl F N hq hI hLI hl ?c1 ?c2)
    (case c1 =>
      intro x h' oI' hx hc hd F1 N1
      clear F N
      k_steps
      (rename Fr _ _ _ _=>F2)
      (rename News _ _ _ _=>N2)
      dsimp only
      exact item _ _ _ oI' hx hc hd (fr_node F2) N2)
    (case c2 =>
      intro hx h1 h' e F1 N1 he
      clear F N
      (refine' caught_FS (KF:=K2 w.params) (X:="StopIteration") (T':="StopIteration") G XB TB F1 N1 he ?ex si_boot (by decide) si_exc si_tup si_sub ?k (hE:=hEA e))
      (case ex=>k_is)
      (case k =>
        intro h2 g2 G2 F2 N2
        obtain ⟨T2, K2', X2, P2, D2⟩:=G2
        (have mK:=mem_filt (I:=I) hK nIK)
        (have mT:=mem_filt (I:=I) hT nIT)
        (have mV:=mem_filt (I:=I) hV nIV)
        clear F1 N1
        k_steps
        (rename Fr _ _ _ _=>F3)
        (rename News _ _ _ _=>N3)
        exact stop hx _ _ _ _ ⟨T2, K2', X2, P2, D2⟩ F3 N3 (by assumption))))
end
section
open PySem PySem.W PyProof.Rows PySem.Challenge PySem.Spec PySem.Calls
noncomputable abbrev liO (l:Addr):Obj:={ cls:=.type "list_iterator", data:=.fields #[.ref l, .int 0 0] }
section
variable {prog:Program} {w:World} {A:Around} {E:Value→Shared→Prop} {Q:Value→Shared→Prop} {hp h₀:Heap} {gs:Array GenState} {dr:Drawn} {tk0:Nat} {os:OsState} {L l d:Addr} {m:Str→Option Value} {news:List (Addr × Obj)}
theorem addSetU {so:Obj} {S:Int→Bool} {n:Nat} {k:Int} {t:Tok} (F:Fr h₀ L hp m) (N:News h₀ L hp news) (hm:(d, so) ∈ news) (hso:so.SetObjOf (intKind prog w) S n) (hn:n ≤ 1000)
    (h:∀ h' so' tk', Fr h₀ L h' m→News h₀ L h' (upL d so' news)→so'.SetObjOf (intKind prog w) (fun k'=>S k' || decide (k' = k)) (if S k then n else n + 1)→Q .none ⟨h', gs, dr, tk', os⟩):wpAny (model prog w) A (call (.builtin "set.add") [.ref d, .int k t]) Q E ⟨hp, gs, dr, tk0, os⟩ :=
  kse_add (s:=⟨hp, gs, dr, tk0, os⟩) F (news_front N hm) (UpdF.head front_ne) hso (by unfold scanBound; lia) (intKind_is _ _ _ _) rfl fun h' so' F' N' hs=>h h' so' _ F' (news_back N') hs
theorem addSetM {so:Obj} {S:Int→Bool} {n:Nat} {pl:Sem Bool} {Q:Value × List Value→Shared→Prop} (N:News h₀ L hp news) (hm:(d, so) ∈ news) (hso:so.SetObjOf (intKind prog w) S n) (hn:n ≤ 1000) (h:Q (.builtin "set.add", [.ref d]) ⟨hp, gs, dr, tk0, os⟩) :
    wpAny (model prog w) A (getMethod (.ref d) "add" pl) Q E ⟨hp, gs, dr, tk0, os⟩ :=
  kse_method (s:=⟨hp, gs, dr, tk0, os⟩) (news_front N hm) (UpdF.head front_ne) hso (by unfold scanBound; lia) h
theorem inSetU {so:Obj} {S:Int→Bool} {n:Nat} {k:Int} {t:Tok} (N:News h₀ L hp news) (hm:(d, so) ∈ news) (hso:so.SetObjOf (intKind prog w) S n) (hn:n ≤ 1000) (h:∀ tk', Q (.bool (S k)) ⟨hp, gs, dr, tk', os⟩) :
    wpAny (model prog w) A (compareOp .In (.int k t) (.ref d)) Q E ⟨hp, gs, dr, tk0, os⟩ :=
  kse_in (s:=⟨hp, gs, dr, tk0, os⟩) (news_front N hm) (UpdF.head front_ne) hso (by unfold scanBound; omega) (intKind_is _ _ _ _) rfl (h _)
theorem iterU {vs:List Value} {c:Nat} (F:Fr h₀ L hp m) (N:News h₀ L hp news) (hm:(l, listOf vs.toArray c) ∈ news)
    (h:∀ I h', Fr h₀ L h' m→News h₀ L h' ((I, ({ cls:=.type "list_iterator", data:=.fields #[.ref l, .int 0 0] }:Obj)) :: news)→(∀ p ∈ news, p.1 < I)→Q (.ref I) ⟨h', gs, dr, tk0, os⟩):wpAny (model prog w) A (call (.builtin "iter") [.ref l]) Q E ⟨hp, gs, dr, tk0, os⟩:=by
  refine call_function_entry (by decide +kernel) (by decide +kernel) kdk_entry_iter (kdk_args_iter _) ?_
  unfold Builtin.«iter»
  refine wpAny_bind (m:=someArgs "iter" 1 2 _) (wpAny_of_eq (a:=[Value.ref l]) (by first | rfl | kernel_rfl!) ?_)
  show wpAny _ _ (pyIter (.ref l) >>= _) _ _ _
  refine wpAny_bind (wpAny_pyIter_list (s:=⟨hp, gs, dr, tk0, os⟩) ⟨_, (N _ hm).1, rfl, c, rfl⟩ ?_)
  exact wpAny_pure ⟨_, rfl, h _ _ (F.push _) (N.push F _) fun p hp=>Heap.lt_size (N p hp).1⟩
noncomputable def CndF (p q:Prop):Prop:=p→q
theorem CndF.use {p q:Prop} (h:CndF p q) (hp:p):q:=h hp
theorem inDictU {o:Obj} {kvs:List (Int × Value)} {k:Int} {t:Tok} (N:News h₀ L hp news) (hm:(d, o) ∈ news) (ho:o.IsDictOf (intKind prog w) kvs) (lo:(d == sysModules) = false) (hk:valueAt kvs k = none) (h:∀ tk', Q (.bool false) ⟨hp, gs, dr, tk', os⟩) :
    wpAny (model prog w) A (compareOp .In (.int k t) (.ref d)) Q E ⟨hp, gs, dr, tk0, os⟩ :=
  kda_in (s:=⟨hp, gs, dr, tk0, os⟩) N hm ho lo (intKind_is _ _ _ _) false (by rw [hk]; rfl) (h _)
theorem boundNextU {l:Addr} (F:Fr h₀ L hp m) (N:News h₀ L hp news) (hm:(d, ({ cls:=.type "list_iterator", data:=.fields #[.ref l, .int 0 0] }:Obj)) ∈ news)
    (h:∀ q h' tk', Fr h₀ L h' m→News h₀ L h' ((q, mwObj (.ref d)) :: news)→(∀ p ∈ news, p.1 < q)→Q (.ref q) ⟨h', gs, dr, tk', os⟩):wpAny (model prog w) A (getAttr (.ref d) "__next__" true) Q E ⟨hp, gs, dr, tk0, os⟩ :=
  bound_next (N _ hm).1 rfl rfl rfl (h _ _ _ (F.push _) (N.push F _) fun p hp=>Heap.lt_size (N p hp).1)
end
local macro_rules | `(tactic| walk_at $s)=>Tab.rules s "call builtin:list.append||appendU|aam?z|id
subscriptTail Name Name ref int||kda_item|kamsis?|W
setItem ref int||kda_setU|kaamsiy?|ids"

local macro_rules | `(tactic| walk_at $s)=>Tab.rules s "call builtin:iter||iterU|aam?|id
compareOp In int ref||inDictU|amssC?|i
call builtin:len||kst_len|amRl?|w
getAttr ref|getAttr:__next__|boundNextU|aam?|id
getMethod ref|getMethod:add|addSetM|amsl?|
call builtin:set.add||addSetU|aamsl?|id
compareOp In int ref||inSetU|amsl?|i"
theorem fc_if {w:World} {dp un:Nat} {gd:Option (List Code)} {cn:Str} {cs:Scope} {Lc ac:Addr} {ccd:Value} {cl:List (Str × Addr)} {outer:List Env} {g hp:Heap} {L S D K T Z V x dx l:Addr} {gs:Array GenState} {dr:Drawn} {tk0:Nat} {os:OsState} {Q:Flow→Shared→Prop} {E:Value→Shared→Prop}
    {mean:ExcName→Option Value} {mg mb:Str→Option Value} {kl tl vs:List Value} {kc tc c zn:Nat} {k np:Int} {tk tkk tp:Tok} {o vo zo:Obj} {kvs nkv:List (Int × Value)} {sn:Int→Bool} {led:List (Addr × Obj)}
    (F:Fr g L hp (fcM S D K T Z V (.int k tk))) (N:News g L hp led) (P:Top q2 (looseW q2 loose2) mean mg mb g)
    (hE:PassesOwn (model rw_mu0013_01.row.prog w) ((ktrTop dp un gd cn cs Lc ac ccd cl outer).deeper (fcE L)) (fcE L) E)
    (hK:(K, listOf (List.toArray kl) kc) ∈ led) (hT:(T, listOf (List.toArray tl) tc) ∈ led) (hV:(V, vo) ∈ led) (ho:vo.IsDictOf (intKind rw_mu0013_01.row.prog w) kvs) (lo:(V == sysModules) = false) (hZ:(Z, zo) ∈ led) (hzo:zo.SetObjOf (intKind rw_mu0013_01.row.prog w) sn zn) (hD:(D, o) ∈ led) (hDo:o.IsDictOf (intKind rw_mu0013_01.row.prog w) nkv) (loD:(D == sysModules) = false)
    (hx:valueAt nkv k = some (.ref x)) (hnx:(x, nodeO dx (.int k tkk) (.int np tp) (.ref l)) ∈ led) (hndx:(dx, dictOf [] 0) ∈ led) (hl:(l, listOf vs.toArray c) ∈ led) (hkz:kl.length ≤ 1000) (htz:tl.length ≤ 1000) (hvz:kvs.length ≤ 1000) (hzz:zn ≤ 1000)
    (hseen:CndF (sn k = true) (valueAt kvs k = none))
    (nKZ:K ≠ Z) (nTZ:T ≠ Z) (nVZ:V ≠ Z) (nDZ:D ≠ Z) (nxZ:x ≠ Z) (ndZ:dx ≠ Z) (nlZ:l ≠ Z) (nKT:K ≠ T) (nVT:V ≠ T) (nKV:K ≠ V)
    (seen:sn k = true→∀ tk', Q .next ⟨hp, gs, dr, tk', os⟩)
    (push:sn k = false→∀ h' tk' q I zo' vo' tv, Fr g L h' (fcM S D K T Z V (.int k tk))→News g L h' (upL K (listOf (List.toArray (kl ++ [Value.int k tk])) (kc + 1)) (upL V vo' (upL T (listOf (List.toArray (tl ++ [Value.ref q])) (tc + 1)) ((q, mwObj (.ref I)) :: (I, liO l) :: upL Z zo' led)))) →
      zo'.SetObjOf (intKind rw_mu0013_01.row.prog w) (fun k'=>sn k' || decide (k' = k)) (zn + 1)→vo'.IsDictOf (intKind rw_mu0013_01.row.prog w) (stored kvs k (.int (kl.length:Int) tv))→(∀ p ∈ upL Z zo' led, p.1 < I)→(∀ p ∈ (I, liO l) :: upL Z zo' led, p.1 < q)→Q .next ⟨h', gs, dr, tk', os⟩) :
    (K2 w.params).In g→wpAny (model rw_mu0013_01.row.prog w) ((ktrTop dp un gd cn cs Lc ac ccd cl outer).deeper (fcE L)) (exec fcIf (fcE L)) Q E ⟨hp, gs, dr, tk0, os⟩:=by
  w_on
  k_fill
  intro X
  have hb:=Eq.refl fcIf
  conv at hb=>rhs; whnf
  rw [hb]
  clear hb
  w_strict (
    (have mk:=kstMark)
    k_steps
    · exact seen (by assumption) _
    · (rename Fr _ _ _ _=>F9)
      (rename News _ _ _ _=>N9)
      rw [List.push_toArray, List.push_toArray] at N9
      (have hf:sn k = false:=by assumption)
      (rename Obj.SetObjOf _ _ _ _=>hz9)
      rw [hf, if_neg Bool.false_ne_true] at hz9
      exact push hf _ _ _ _ _ _ _ F9 N9 hz9 (by assumption) (by assumption) (by assumption))
end
section
open PySem PySem.W PyProof.Rows PySem.Challenge PySem.Spec PySem.Calls
structure Ent where
  nd:Nd
  tk:Tok
  q:Addr
  I:Addr
  oI:Obj
  pos:Nat
noncomputable def LIt (o:Obj) (l:Addr) (i:Nat):Prop:=o.cls = .type "list_iterator" ∧ o.data = .fields #[.ref l, .int (i:Int) 0]
noncomputable def unseen (ns:List Nd) (sn:Int→Bool):Nat:=(ns.filter fun n=>!sn n.k).length
structure FcS where
  es:List Ent
  kc:Nat
  tc:Nat
  sn:Int→Bool
  zn:Nat
  zo:Obj
  vo:Obj
  kvs:List (Int × Value)
structure FcOk (w:World) (ns:List Nd) (K T Z V:Addr) (led:List (Addr × Obj)) (s:FcS) (c:List (Addr × Obj)):Prop where
  keep:∀ p ∈ led, p ∈ c
  hK:(K, listOf (s.es.map fun e=>Value.int e.nd.k e.tk).toArray s.kc) ∈ c
  hT:(T, listOf (s.es.map fun e=>Value.ref e.q).toArray s.tc) ∈ c
  hZ:(Z, s.zo) ∈ c
  hV:(V, s.vo) ∈ c
  zs:s.zo.SetObjOf (intKind rw_mu0013_01.row.prog w) s.sn s.zn
  vd:s.vo.IsDictOf (intKind rw_mu0013_01.row.prog w) s.kvs
  en:∀ e ∈ s.es, e.nd ∈ ns ∧ (e.q, mwObj (.ref e.I)) ∈ c ∧ (e.I, e.oI) ∈ c ∧ LIt e.oI e.nd.l e.pos ∧ e.pos ≤ e.nd.vs.length ∧ s.sn e.nd.k = true
  sep:∀ e ∈ s.es, (∀ p ∈ led, p.1 ≠ e.I ∧ p.1 ≠ e.q) ∧ (K ≠ e.I ∧ T ≠ e.I ∧ Z ≠ e.I ∧ V ≠ e.I) ∧ K ≠ e.q ∧ T ≠ e.q ∧ Z ≠ e.q ∧ V ≠ e.q ∧ e.q ≠ e.I
  nI:s.es.Pairwise fun a b=>a.I ≠ b.I ∧ a.q ≠ b.I ∧ a.I ≠ b.q
  asc:s.es.Pairwise fun a b=>a.nd.k < b.nd.k
  kv:∀ k, (valueAt s.kvs k).isSome = true ↔ ∃ e ∈ s.es, e.nd.k = k
  zb:s.zn + unseen ns s.sn ≤ ns.length
  kb:s.kvs.length ≤ s.zn
  eb:s.es.length ≤ s.zn
noncomputable def meas (ns:List Nd) (s:FcS):Nat:=((ns.filter fun n=>!s.sn n.k).map fun n=>n.vs.length + 2).sum + (s.es.map fun e=>e.nd.vs.length - e.pos + 1).sum
section
variable {w:World} {ns:List Nd} {K T Z V:Addr} {led c:List (Addr × Obj)} {s:FcS}
theorem last_mem {es:List Ent} {e:Ent}:e ∈ es ++ [e]:=List.mem_append_right _ (.head _)
theorem pw_last {r:Ent→Ent→Prop} {es:List Ent} {e:Ent} (h:(es ++ [e]).Pairwise r):es.Pairwise r ∧ ∀ a ∈ es, r a e:=by
  have:=List.pairwise_append.mp h
  exact ⟨this.1, fun a ha=>this.2.2 a ha e (.head _)⟩
theorem pw_snoc {r:Ent→Ent→Prop} {es:List Ent} {e:Ent} (h:es.Pairwise r) (h':∀ a ∈ es, r a e):(es ++ [e]).Pairwise r :=
  List.pairwise_append.mpr ⟨h, List.pairwise_singleton .., fun a ha b hb=>by rw [List.mem_singleton.mp hb]; exact h' a ha⟩
theorem FcOk.item {es:List Ent} {e:Ent} {oI':Obj} (h:FcOk w ns K T Z V led { s with es:=es ++ [e] } c) (hI:LIt oI' e.nd.l (e.pos + 1)) (hlt:e.pos < e.nd.vs.length) :
    FcOk w ns K T Z V led { s with es:=es ++ [{ e with oI:=oI', pos:=e.pos + 1 }] } (upL e.I oI' c):=by
  have se:=h.sep e last_mem
  have nI:=pw_last h.nI
  refine ⟨fun p hp=>mem_upL_ne (h.keep p hp) (se.1 p hp).1, ?_, ?_, mem_upL_ne h.hZ se.2.1.2.2.1, mem_upL_ne h.hV se.2.1.2.2.2, h.zs, h.vd, fun a ha=>?_, fun a ha=>?_, pw_snoc nI.1 fun a ha=>nI.2 a ha, pw_snoc (pw_last h.asc).1 fun a ha=>(pw_last h.asc).2 a ha, fun k=>?_, h.zb, h.kb, ?_⟩
  · have:=h.hK
    simp only [List.map_append, List.map_cons, List.map_nil] at this ⊢
    exact mem_upL_ne this se.2.1.1
  · have:=h.hT
    simp only [List.map_append, List.map_cons, List.map_nil] at this ⊢
    exact mem_upL_ne this se.2.1.2.1
  · rcases List.mem_append.mp ha with ha | ha
    · refine eA4 (fun a1 a2 a3 a4=>?_) (h.en a (List.mem_append_left _ ha))
      exact ⟨a1, mem_upL_ne a2 (nI.2 a ha).2.1, mem_upL_ne a3 (nI.2 a ha).1, a4⟩
    · rw [List.mem_singleton.mp ha]
      refine eA6 (fun a1 a2 a3 a4 a5 a6=>?_) (h.en e last_mem)
      exact ⟨a1, mem_upL_ne a2 se.2.2.2.2.2.2, mem_upL_self a3, hI, hlt, a6⟩
  · rcases List.mem_append.mp ha with ha | ha
    · exact h.sep a (List.mem_append_left _ ha)
    · rw [List.mem_singleton.mp ha]; exact se
  · rw [h.kv k]
    constructor
    · ((refine eE1 fun a=>?_; refine eA2 fun ha hR2=>?_; subst hR2))
      rcases List.mem_append.mp ha with ha | ha
      · exact ⟨a, List.mem_append_left _ ha, rfl⟩
      · rw [List.mem_singleton.mp ha]; exact ⟨_, last_mem, rfl⟩
    · ((refine eE1 fun a=>?_; refine eA2 fun ha hR2=>?_; subst hR2))
      rcases List.mem_append.mp ha with ha | ha
      · exact ⟨a, List.mem_append_left _ ha, rfl⟩
      · rw [List.mem_singleton.mp ha]; exact ⟨_, last_mem, rfl⟩
  · have:=h.eb
    simpa using this
theorem meas_item {es:List Ent} {e:Ent} {oI':Obj} (hlt:e.pos < e.nd.vs.length):meas ns { s with es:=es ++ [{ e with oI:=oI', pos:=e.pos + 1 }] } < meas ns { s with es:=es ++ [e] }:=by
  unfold meas
  simp only [List.map_append, List.sum_append, List.map_cons, List.map_nil, List.sum_cons, List.sum_nil]
  exact ar19 hlt
theorem va_some {kvs:List (Int × Value)} {k:Int}:(valueAt kvs k).isSome = true ↔ ∃ p ∈ kvs, p.1 = k:=by
  unfold valueAt
  rw [Option.isSome_map, List.find?_isSome]
  simp
theorem valueAt_without {kvs:List (Int × Value)} {k k':Int}:(valueAt (without kvs k) k').isSome = true ↔ k' ≠ k ∧ (valueAt kvs k').isSome = true:=by
  rw [va_some, va_some]
  unfold without
  constructor
  · ((refine eE1 fun p=>?_; refine eA2 fun hp hR2=>?_; subst hR2))
    have:=List.mem_filter.mp hp
    exact ⟨of_decide_eq_true this.2, p, this.1, rfl⟩
  · ((refine eA2 fun hne=>?_; refine eE1 fun p=>?_; refine eA2 fun hp hR3=>?_; subst hR3))
    exact ⟨p, List.mem_filter.mpr ⟨hp, decide_eq_true hne⟩, rfl⟩
theorem valueAt_stored {kvs:List (Int × Value)} {k k':Int} {v:Value}:(valueAt (stored kvs k v) k').isSome = true ↔ k' = k ∨ (valueAt kvs k').isSome = true:=by
  rw [va_some, va_some]
  unfold stored
  split
  · rename_i h
    (refine eE1 (fun p0=>?_) (List.any_eq_true.mp h); refine eA2 fun hp0 e0=>?_)
    constructor
    · ((refine eE1 fun p=>?_; refine eA2 fun hp hR2=>?_; subst hR2))
      (refine eE1 (fun p1=>?_) (List.mem_map.mp hp); refine eA2 fun hp1 hR2=>?_; subst hR2)
      refine .inr ⟨p1, hp1, ?_⟩
      split <;> rfl
    · rintro (rfl | ⟨p, hp, rfl⟩)
      · refine ⟨_, List.mem_map.mpr ⟨p0, hp0, rfl⟩, ?_⟩
        rw [if_pos (by simpa using e0)]
        simpa using e0
      · refine ⟨_, List.mem_map.mpr ⟨p, hp, rfl⟩, ?_⟩
        split <;> rfl
  · constructor
    · ((refine eE1 fun p=>?_; refine eA2 fun hp hR2=>?_; subst hR2))
      rcases List.mem_append.mp hp with hp | hp
      · exact .inr ⟨p, hp, rfl⟩
      · rw [List.mem_singleton.mp hp]; exact .inl rfl
    · rintro (rfl | ⟨p, hp, rfl⟩)
      · exact ⟨_, List.mem_append_right _ (.head _), rfl⟩
      · exact ⟨p, List.mem_append_left _ hp, rfl⟩
theorem stored_len {kvs:List (Int × Value)} {k:Int} {v:Value}:(stored kvs k v).length ≤ kvs.length + 1:=by
  unfold stored
  split
  · rw [List.length_map]; exact Nat.le_succ _
  · rw [List.length_append]; exact Nat.le_refl _
theorem sum_drop {f:Nd→Nat} {sn:Int→Bool} {k:Int}:∀ {ns:List Nd}, ((ns.filter fun n=>!(sn n.k || decide (n.k = k))).map f).sum ≤ ((ns.filter fun n=>!sn n.k).map f).sum
  | []=>Nat.le_refl _
  | a :: r=>by
    have ih:=sum_drop (f:=f) (sn:=sn) (k:=k) (ns:=r)
    rw [List.filter_cons, List.filter_cons]
    cases sn a.k with
    | true=>simpa using ih
    | false =>
      by_cases e:a.k = k
      · simp only [e, decide_true, Bool.or_true, Bool.not_true, Bool.false_eq_true, if_false, Bool.not_false, if_true, List.map_cons, List.sum_cons]
        exact Nat.le_add_left_of_le ih
      · simp only [e, decide_false, Bool.or_false, Bool.not_false, if_true, List.map_cons, List.sum_cons]
        exact (fun {m k n}=>Nat.add_le_add_iff_left.mpr) ih
theorem sum_drop1 {f:Nd→Nat} {sn:Int→Bool}:∀ {ns:List Nd} {nd:Nd}, nd ∈ ns→sn nd.k = false→((ns.filter fun n=>!(sn n.k || decide (n.k = nd.k))).map f).sum + f nd ≤ ((ns.filter fun n=>!sn n.k).map f).sum
  | a :: r, nd, h, hs=>by
    rw [List.filter_cons, List.filter_cons]
    rcases List.mem_cons.mp h with rfl | h
    · have:=sum_drop (f:=f) (sn:=sn) (k:=nd.k) (ns:=r)
      simp only [hs, decide_true, Bool.or_true, Bool.not_true, Bool.false_eq_true, if_false, Bool.not_false, if_true, List.map_cons, List.sum_cons]
      lia
    · have ih:=sum_drop1 (f:=f) h hs
      cases sn a.k with
      | true=>simpa using ih
      | false =>
        by_cases e:a.k = nd.k
        · simp only [e, decide_true, Bool.or_true, Bool.not_true, Bool.false_eq_true, if_false, Bool.not_false, if_true, List.map_cons, List.sum_cons]
          exact Nat.le_add_left_of_le ih
        · simp only [e, decide_false, Bool.or_false, Bool.not_false, if_true, List.map_cons, List.sum_cons]
          lia
theorem len_sum (l:List Nd):l.length = (l.map fun _=>1).sum:=by
  induction l with
  | nil=>rfl
  | cons a r ih=>simp [ih, Nat.add_comm]
theorem unseen_push {ns:List Nd} {sn:Int→Bool} {nd:Nd} (h:nd ∈ ns) (hs:sn nd.k = false):unseen ns (fun k'=>sn k' || decide (k' = nd.k)) + 1 ≤ unseen ns sn:=by
  unfold unseen
  rw [len_sum, len_sum]
  exact sum_drop1 (f:=fun _=>1) h hs
theorem FcOk.stop {es:List Ent} {e:Ent} {vo':Obj} (h:FcOk w ns K T Z V led { s with es:=es ++ [e] } c) (nKT:K ≠ T) (nKZ:K ≠ Z) (nKV:K ≠ V) (nTZ:T ≠ Z) (nTV:T ≠ V) (nZV:Z ≠ V) (hsep:∀ p ∈ led, p.1 ≠ K ∧ p.1 ≠ T ∧ p.1 ≠ Z ∧ p.1 ≠ V) (hvo:vo'.IsDictOf (intKind rw_mu0013_01.row.prog w) (without s.kvs e.nd.k)) (hlen:(without s.kvs e.nd.k).length ≤ s.kvs.length) :
    FcOk w ns K T Z V led { s with es:=es, kc:=s.kc + 1, tc:=s.tc + 1, vo:=vo', kvs:=without s.kvs e.nd.k } (upL T (listOf (es.map fun e=>Value.ref e.q).toArray (s.tc + 1)) (upL V vo' (upL K (listOf (es.map fun e=>Value.int e.nd.k e.tk).toArray (s.kc + 1)) (c.filter fun p=>decide (p.1 ≠ e.I))))):=by
  have se:=h.sep e last_mem
  have nI:=pw_last h.nI
  have hK:=h.hK
  have hT:=h.hT
  refine ⟨fun p hp=>mem_upL_ne (mem_upL_ne (mem_upL_ne (mem_filt (h.keep p hp) (se.1 p hp).1) (hsep p hp).1) (hsep p hp).2.2.2) (hsep p hp).2.1, mem_upL_ne (mem_upL_ne (mem_upL_self (mem_filt hK se.2.1.1)) nKV) nKT, mem_upL_self (mem_upL_ne (mem_upL_ne (mem_filt hT se.2.1.2.1) nKT.symm) nTV),
    mem_upL_ne (mem_upL_ne (mem_upL_ne (mem_filt h.hZ se.2.1.2.2.1) nKZ.symm) nZV) nTZ.symm, mem_upL_ne (mem_upL_self (mem_upL_ne (mem_filt h.hV se.2.1.2.2.2) nKV.symm)) nTV.symm, h.zs, hvo, fun a ha=>?_, fun a ha=>h.sep a (List.mem_append_left _ ha), nI.1, (pw_last h.asc).1, fun k=>?_, h.zb, Nat.le_trans hlen h.kb, ?_⟩
  · refine eA4 (fun a1 a2 a3 a4=>?_) (h.en a (List.mem_append_left _ ha))
    have sa:=h.sep a (List.mem_append_left _ ha)
    exact ⟨a1, mem_upL_ne (mem_upL_ne (mem_upL_ne (mem_filt a2 (nI.2 a ha).2.1) sa.2.2.1.symm) sa.2.2.2.2.2.1.symm) sa.2.2.2.1.symm, mem_upL_ne (mem_upL_ne (mem_upL_ne (mem_filt a3 (nI.2 a ha).1) sa.2.1.1.symm) sa.2.1.2.2.2.symm) sa.2.1.2.1.symm, a4⟩
  · show (valueAt (without s.kvs e.nd.k) k).isSome = true ↔ _
    rw [valueAt_without, h.kv k]
    constructor
    · ((refine eA2 fun hne=>?_; refine eE1 fun a=>?_; refine eA2 fun ha hR3=>?_; subst hR3))
      rcases List.mem_append.mp ha with ha | ha
      · exact ⟨a, ha, rfl⟩
      · rw [List.mem_singleton.mp ha] at hne; exact absurd rfl hne
    · ((refine eE1 fun a=>?_; refine eA2 fun ha hR2=>?_; subst hR2))
      exact ⟨Int.ne_of_lt ((pw_last h.asc).2 a ha), a, List.mem_append_left _ ha, rfl⟩
  · have:=h.eb
    simp only [List.length_append, List.length_singleton] at this
    exact Nat.le_of_succ_le this
theorem meas_stop {es:List Ent} {e:Ent} {kc tc:Nat} {vo':Obj} {kvs':List (Int × Value)}:meas ns { s with es:=es, kc:=kc, tc:=tc, vo:=vo', kvs:=kvs' } < meas ns { s with es:=es ++ [e] }:=by
  unfold meas
  simp only [List.map_append, List.sum_append, List.map_cons, List.map_nil, List.sum_cons, List.sum_nil]
  lia
theorem FcOk.push {nd:Nd} {tk:Tok} {q I:Addr} {zo' vo':Obj} {v:Value} (h:FcOk w ns K T Z V led s c) (nKT:K ≠ T) (nKZ:K ≠ Z) (nKV:K ≠ V) (nTZ:T ≠ Z) (nTV:T ≠ V) (nZV:Z ≠ V) (hsep:∀ p ∈ led, p.1 ≠ K ∧ p.1 ≠ T ∧ p.1 ≠ Z ∧ p.1 ≠ V)
    (hnd:nd ∈ ns) (hs:s.sn nd.k = false) (hgt:∀ e ∈ s.es, e.nd.k < nd.k) (hzo:zo'.SetObjOf (intKind rw_mu0013_01.row.prog w) (fun k'=>s.sn k' || decide (k' = nd.k)) (s.zn + 1)) (hvo:vo'.IsDictOf (intKind rw_mu0013_01.row.prog w) (stored s.kvs nd.k v)) (lI:∀ p ∈ upL Z zo' c, p.1 < I) (lq:∀ p ∈ (I, liO nd.l) :: upL Z zo' c, p.1 < q) :
    FcOk w ns K T Z V led { es:=s.es ++ [⟨nd, tk, q, I, liO nd.l, 0⟩], kc:=s.kc + 1, tc:=s.tc + 1, sn:=fun k'=>s.sn k' || decide (k' = nd.k), zn:=s.zn + 1, zo:=zo', vo:=vo', kvs:=stored s.kvs nd.k v }
      (upL K (listOf ((s.es.map fun e=>Value.int e.nd.k e.tk) ++ [Value.int nd.k tk]).toArray (s.kc + 1)) (upL V vo' (upL T (listOf ((s.es.map fun e=>Value.ref e.q) ++ [Value.ref q]).toArray (s.tc + 1)) ((q, mwObj (.ref I)) :: (I, liO nd.l) :: upL Z zo' c)))):=by
  have up:∀ {a:Addr} {o:Obj}, (a, o) ∈ c→a ≠ Z→(a, o) ∈ (q, mwObj (.ref I)) :: (I, liO nd.l) :: upL Z zo' c:=fun h hn=>.tail _ (.tail _ (mem_upL_ne h hn))
  have lt:∀ {a:Addr} {o:Obj}, (a, o) ∈ c→a ≠ I ∧ a ≠ q:=fun {a o} hm=>by
    by_cases e:a = Z
    · have m:=mem_upL_self (o:=zo') (e ▸ hm:(Z, o) ∈ c)
      rw [e]
      exact ⟨Nat.ne_of_lt (lI _ m), Nat.ne_of_lt (lq _ (.tail _ m))⟩
    · have m:=mem_upL_ne (o:=zo') hm e
      exact ⟨Nat.ne_of_lt (lI _ m), Nat.ne_of_lt (lq _ (.tail _ m))⟩
  have hIq:I ≠ q:=Nat.ne_of_lt (lq _ (.head _))
  have kK:=lt h.hK
  have kT:=lt h.hT
  have kZ:=lt h.hZ
  have kV:=lt h.hV
  refine ⟨fun p hp=>mem_upL_ne (mem_upL_ne (mem_upL_ne (up (h.keep p hp) (hsep p hp).2.2.1) (hsep p hp).2.1) (hsep p hp).2.2.2) (hsep p hp).1, ?_, ?_, ?_, ?_, hzo, hvo, fun a ha=>?_, fun a ha=>?_, pw_snoc h.nI fun a ha=>?_, pw_snoc h.asc hgt, fun k=>?_, ?_, ?_, ?_⟩
  · simp only [List.map_append, List.map_cons, List.map_nil]
    exact mem_upL_self (mem_upL_ne (mem_upL_ne (up h.hK nKZ) nKT) nKV)
  · simp only [List.map_append, List.map_cons, List.map_nil]
    exact mem_upL_ne (mem_upL_ne (mem_upL_self (up h.hT nTZ)) nTV) nKT.symm
  · exact mem_upL_ne (mem_upL_ne (mem_upL_ne (.tail _ (.tail _ (mem_upL_self h.hZ))) nTZ.symm) nZV) nKZ.symm
  · exact mem_upL_ne (mem_upL_self (mem_upL_ne (up h.hV nZV.symm) nTV.symm)) nKV.symm
  · rcases List.mem_append.mp ha with ha | ha
    · refine eA6 (fun a1 a2 a3 a4 a5 a6=>?_) (h.en a ha)
      have sa:=h.sep a ha
      refine ⟨a1, mem_upL_ne (mem_upL_ne (mem_upL_ne (up a2 sa.2.2.2.2.1.symm) sa.2.2.2.1.symm) sa.2.2.2.2.2.1.symm) sa.2.2.1.symm, mem_upL_ne (mem_upL_ne (mem_upL_ne (up a3 sa.2.1.2.2.1.symm) sa.2.1.2.1.symm) sa.2.1.2.2.2.symm) sa.2.1.1.symm, a4, a5, ?_⟩
      show (s.sn a.nd.k || _) = true
      rw [a6]; rfl
    · rw [List.mem_singleton.mp ha]
      refine ⟨hnd, mem_upL_ne (mem_upL_ne (mem_upL_ne (.head _) kT.2.symm) kV.2.symm) kK.2.symm, mem_upL_ne (mem_upL_ne (mem_upL_ne (.tail _ (.head _)) kT.1.symm) kV.1.symm) kK.1.symm, ⟨rfl, rfl⟩, Nat.zero_le _, ?_⟩
      show (_ || decide (nd.k = nd.k)) = true
      simp
  · rcases List.mem_append.mp ha with ha | ha
    · exact h.sep a ha
    · rw [List.mem_singleton.mp ha]
      exact ⟨fun p hp=>lt (h.keep p hp), ⟨kK.1, kT.1, kZ.1, kV.1⟩, kK.2, kT.2, kZ.2, kV.2, hIq.symm⟩
  · refine eA6 (fun a1 a2 a3 a4 a5 a6=>?_) (h.en a ha)
    exact ⟨(lt a3).1, (lt a2).1, (lt a3).2⟩
  · show (valueAt (stored s.kvs nd.k v) k).isSome = true ↔ _
    rw [valueAt_stored, h.kv k]
    constructor
    · rintro (rfl | ⟨a, ha, rfl⟩)
      · exact ⟨_, List.mem_append_right _ (.head _), rfl⟩
      · exact ⟨a, List.mem_append_left _ ha, rfl⟩
    · ((refine eE1 fun a=>?_; refine eA2 fun ha hR2=>?_; subst hR2))
      rcases List.mem_append.mp ha with ha | ha
      · exact .inr ⟨a, ha, rfl⟩
      · rw [List.mem_singleton.mp ha]; exact .inl rfl
  · have a:=h.zb
    have b:=unseen_push hnd hs
    show s.zn + 1 + unseen ns (fun k'=>s.sn k' || decide (k' = nd.k)) ≤ ns.length
    lia
  · exact Nat.le_trans stored_len (Nat.succ_le_succ h.kb)
  · rw [List.length_append, List.length_singleton]; exact Nat.succ_le_succ h.eb
theorem meas_push {nd:Nd} {tk:Tok} {q I:Addr} {kc tc zn:Nat} {zo vo:Obj} {kvs:List (Int × Value)} (hnd:nd ∈ ns) (hs:s.sn nd.k = false) :
    meas ns { es:=s.es ++ [⟨nd, tk, q, I, liO nd.l, 0⟩], kc:=kc, tc:=tc, sn:=fun k'=>s.sn k' || decide (k' = nd.k), zn:=zn, zo:=zo, vo:=vo, kvs:=kvs } ≤ meas ns s:=by
  unfold meas
  have:=sum_drop1 (f:=fun n=>n.vs.length + 2) hnd hs
  simp only [List.map_append, List.sum_append, List.map_cons, List.map_nil, List.sum_cons, List.sum_nil]
  lia
end
end
section
open PySem PySem.W PyProof.Rows PySem.Challenge PySem.Spec PySem.Calls
noncomputable def testW (s:Stmt):PySem.Expr:=(stPart s).1
noncomputable def elseW (s:Stmt):List Stmt:=(stPart s).2.2.2.1
noncomputable def posW (s:Stmt):Pos:=(stPart s).2.2.2.2

theorem size_test (kl:List Value):(!kl.toArray.isEmpty) = !kl.isEmpty:=by
  cases kl <;> simp
theorem fc_test {w:World} {dp un:Nat} {gd:Option (List Code)} {cn:Str} {cs:Scope} {Lc ac:Addr} {ccd:Value} {cl:List (Str × Addr)} {outer:List Env} {g hp:Heap} {L S D K T Z V:Addr} {gs:Array GenState} {dr:Drawn} {tk0:Nat} {os:OsState} {Q:Bool→Shared→Prop} {E:Value→Shared→Prop}
    {mean:ExcName→Option Value} {mg mb:Str→Option Value} {nv:Value} {kl:List Value} {kc:Nat} {led:List (Addr × Obj)}
    (F:Fr g L hp (fcM S D K T Z V nv)) (N:News g L hp led) (P:Top q2 (looseW q2 loose2) mean mg mb g) (hK:(K, listOf (List.toArray kl) kc) ∈ led) (hkz:kl.length ≤ 1000)
    (ret:∀ tk', Q (!kl.isEmpty) ⟨hp, gs, dr, tk', os⟩) :
    (K2 w.params).In g→wpAny (model rw_mu0013_01.row.prog w) ((ktrTop dp un gd cn cs Lc ac ccd cl outer).deeper (fcE L)) (isTrue (testW fcInner) (fcE L) (PySem.eval (testW fcInner) (fcE L))) Q E ⟨hp, gs, dr, tk0, os⟩:=by
  w_on
  k_fill
  intro X
  have hb:=Eq.refl (testW fcInner)
  conv at hb=>rhs; whnf
  rw [hb]
  clear hb
  w_strict (
    (have mk:=kstMark)
    k_steps
    refine' wpAny_truthy_list (s:=⟨hp, gs, dr, tk0, os⟩) (News.isList (by assumption) hK) (by rw [List.size_toArray]; lia) ?_
    rw [size_test]
    exact ret _)
theorem fc_else {w:World} {dp un:Nat} {gd:Option (List Code)} {cn:Str} {cs:Scope} {Lc ac:Addr} {ccd:Value} {cl:List (Str × Addr)} {outer:List Env} {L:Addr} {s:Shared} {Q:Flow→Shared→Prop} {E:Value→Shared→Prop} (ret:Q .brk s) :
    wpAny (model rw_mu0013_01.row.prog w) ((ktrTop dp un gd cn cs Lc ac ccd cl outer).deeper (fcE L)) (execs (elseW fcInner) (fcE L)) Q E s:=by
  have hb:=Eq.refl (elseW fcInner)
  conv at hb=>rhs; whnf
  rw [hb]
  clear hb
  w_on
  w_strict (
    k_steps
    exact ret)
theorem fc_true {w:World} {dp un:Nat} {gd:Option (List Code)} {cn:Str} {cs:Scope} {Lc ac:Addr} {ccd:Value} {cl:List (Str × Addr)} {outer:List Env} {L:Addr} {s:Shared} {Q:Bool→Shared→Prop} {E:Value→Shared→Prop} (ret:Q true s) :
    wpAny (model rw_mu0013_01.row.prog w) ((ktrTop dp un gd cn cs Lc ac ccd cl outer).deeper (fcE L)) (isTrue (testW fcWhile) (fcE L) (PySem.eval (testW fcWhile) (fcE L))) Q E s:=by
  have hb:=Eq.refl (testW fcWhile)
  conv at hb=>rhs; whnf
  rw [hb]
  clear hb
  w_on
  w_strict (
    k_steps
    exact ret)
structure FcC where
  S:Addr
  D:Addr
  K:Addr
  T:Addr
  Z:Addr
  V:Addr
  L:Addr
noncomputable abbrev fcDeep (dp un:Nat) (gd:Option (List Code)) (cn:Str) (cs:Scope) (Lc ac:Addr) (ccd:Value) (cl:List (Str × Addr)) (outer:List Env):Around:=ktrTop dp un gd cn cs Lc ac ccd cl outer
structure FcAt (w:World) (mean:ExcName→Option Value) (mg mb:Str→Option Value) (A₀:Around) (base:Heap) (out:List Env) (g₀:Heap) (x:FcC) (ns:List Nd) (led:List (Addr × Obj)) (nv:Value) (st:FcS) (gs:Array GenState) (dr:Drawn) (os:OsState) (s:Shared):Prop where
  ex:∃ g c, GrK w mean mg mb A₀ base out g₀ g ∧ Fr g x.L s.heap (fcM x.S x.D x.K x.T x.Z x.V nv) ∧ News g x.L s.heap c ∧ FcOk w ns x.K x.T x.Z x.V led st c
  gs:s.gens = gs
  dr:s.drawn = dr
  os:s.os = os
structure FcSep (x:FcC) (led:List (Addr × Obj)):Prop where
  KT:x.K ≠ x.T
  KZ:x.K ≠ x.Z
  KV:x.K ≠ x.V
  TZ:x.T ≠ x.Z
  TV:x.T ≠ x.V
  ZV:x.Z ≠ x.V
  sep:∀ p ∈ led, p.1 ≠ x.K ∧ p.1 ≠ x.T ∧ p.1 ≠ x.Z ∧ p.1 ≠ x.V
  sysV:(x.V == sysModules) = false
structure FcGraph (w:World) (x:FcC) (ns:List Nd) (led:List (Addr × Obj)):Prop where
  nd:∀ n ∈ ns, NdIn led n
  ku:KU ns
  su:∀ n ∈ ns, ∃ ks, IntsAre n.vs ks ∧ ∀ k ∈ ks, n.k < k ∧ ∃ n' ∈ ns, n'.k = k
  len:ns.length ≤ 900
  tab:∃ o kvs, (x.D, o) ∈ led ∧ o.IsDictOf (intKind rw_mu0013_01.row.prog w) kvs ∧ Tab kvs ns
  sysD:(x.D == sysModules) = false
section
variable {w:World} {dp un:Nat} {gd:Option (List Code)} {cn:Str} {cs:Scope} {Lc ac:Addr} {ccd:Value} {cl:List (Str × Addr)} {outer:List Env} {base g₀:Heap} {x:FcC} {ns:List Nd} {led:List (Addr × Obj)} {gs:Array GenState} {dr:Drawn} {os:OsState} {Q:Flow→Shared→Prop} {E:Value→Shared→Prop} {mean:ExcName→Option Value} {mg mb:Str→Option Value}
theorem es_last {es:List Ent} (h:es ≠ []):∃ r e, es = r ++ [e]:=(iE2 es.dropLast (es.getLast h) ((List.dropLast_concat_getLast h).symm))
theorem inner_run (H:FcSep x led) (Gr9:FcGraph w x ns led) (XB:(K2 w.params).In base) (TB:Top q2 (looseW q2 loose2) mean mg mb base)
    (hE:PassesOwn (model rw_mu0013_01.row.prog w) ((ktrTop dp un gd cn cs Lc ac ccd cl outer).deeper (fcE x.L)) (fcE x.L) E)
    (hEA:∀ e, PassesOwnAt (model rw_mu0013_01.row.prog w) (((ktrTop dp un gd cn cs Lc ac ccd cl outer).deeper (fcE x.L)).mark (some (Value.ref e))) ((ktrTop dp un gd cn cs Lc ac ccd cl outer).deeper (fcE x.L)) (fcE x.L) E)
    {nv:Value} {st:FcS} {s:Shared} (h:FcAt w mean mg mb (ktrTop dp un gd cn cs Lc ac ccd cl outer) base (envX cn cs Lc ac ccd cl :: outer) g₀ x ns led nv st gs dr os s)
    (item:∀ s' st' k t, FcAt w mean mg mb (ktrTop dp un gd cn cs Lc ac ccd cl outer) base (envX cn cs Lc ac ccd cl :: outer) g₀ x ns led (.int k t) st' gs dr os s'→meas ns st' < meas ns st→(∀ e ∈ st'.es, e.nd.k < k)→(∃ nd ∈ ns, nd.k = k)→Q .next s')
    (fin:∀ s' st', FcAt w mean mg mb (ktrTop dp un gd cn cs Lc ac ccd cl outer) base (envX cn cs Lc ac ccd cl :: outer) g₀ x ns led nv st' gs dr os s'→st'.es = []→Q .brk s') :
    wpAny (model rw_mu0013_01.row.prog w) ((ktrTop dp un gd cn cs Lc ac ccd cl outer).deeper (fcE x.L)) (exec (.While (testW fcInner) fcInnerB (elseW fcInner) (posW fcInner)) (fcE x.L)) Q E s:=by
  refine whileX (fun n s'=>∃ st', FcAt w mean mg mb (ktrTop dp un gd cn cs Lc ac ccd cl outer) base (envX cn cs Lc ac ccd cl :: outer) g₀ x ns led nv st' gs dr os s' ∧ meas ns st' = n ∧ n ≤ meas ns st) hE ?_ (meas ns st) ⟨st, h, rfl, Nat.le_refl _⟩
  (rintro n hZ1; obtain ⟨hp', gs', dr', tk', os'⟩:=hZ1; (refine eE1 fun st'=>?_; refine eA3 fun hP1 hR2 hle=>?_; subst hR2; obtain ⟨⟨g, c, hG, F, N, ok⟩, e1, e2, e3⟩:=hP1))
  dsimp only at e1 e2 e3 F N
  subst e1 e2 e3
  have hb:=ok.eb
  have hzb:=ok.zb
  have hlen:=Gr9.len
  have hkl:(st'.es.map fun e=>Value.int e.nd.k e.tk).length ≤ 900:=by rw [List.length_map]; lia
  with_reducible refine fc_test F N hG.P ok.hK (by lia) ?_ hG.X
  intro tk2
  by_cases hes:st'.es = []
  · rw [hes]
    show wpAny _ _ _ _ _ _
    with_reducible refine fc_else ?_
    exact fin _ st' ⟨(iE2 g c ⟨hG, F, N, ok⟩), rfl, rfl, rfl⟩ hes
  · refine eE2 (fun r e he=>?_) (es_last hes)
    have hne:(st'.es.map fun e=>Value.int e.nd.k e.tk).isEmpty = false:=by rw [he]; simp
    rw [hne]
    rw [if_pos (show (!false) = true from rfl)]
    have e0:st' = { st' with es:=r ++ [e] }:=by cases st'; dsimp only at he; subst he; rfl
    rw [e0] at ok
    have en:=ok.en e last_mem
    have li:e.oI.cls = .type "list_iterator" ∧ e.oI.data = .fields #[.ref e.nd.l, .int (e.pos:Int) 0]:=en.2.2.2.1
    have se:=ok.sep e last_mem
    (refine eE1 (fun ks=>?_) (Gr9.su e.nd en.1); refine eA2 fun hks hup=>?_)
    have hl:=ok.keep _ (Gr9.nd e.nd en.1).2.2
    have hK:=ok.hK
    have hT:=ok.hT
    simp only [List.map_append, List.map_cons, List.map_nil] at hK hT
    have hr:r.length ≤ 899:=by have:=ok.eb; simp only [List.length_append, List.length_singleton] at this; have:=ok.zb; dsimp only at *; lia
    with_reducible refine fc_inner (kl:=r.map fun e=>Value.int e.nd.k e.tk) (tl:=r.map fun e=>Value.ref e.q) (k:=e.nd.k) (tk:=e.tk) (q:=e.q) (I:=e.I) (l:=e.nd.l) (i:=e.pos) (oI:=e.oI) (vs:=e.nd.vs) (c:=e.nd.c) hG XB TB F N hE hEA hK hT en.2.1 en.2.2.1 li hl ok.hV ok.vd H.sysV ((ok.kv _).mpr ⟨e, last_mem, rfl⟩) (by rw [List.length_map]; lia) (by rw [List.length_map]; omega) (by have:=ok.kb; have:=ok.zb; dsimp only at *; lia) se.2.1.1 se.2.1.2.1 se.2.1.2.2.2 H.KV.symm H.KT.symm H.TV ?_ ?_ hG.X
    · intro y h3 tk3 oI' hy hc hd F3 N3
      refine eE1 (fun hlt hyv=>?_) (List.getElem?_eq_some_iff.mp hy)
      have hlk:e.pos < ks.length:=by rw [← hks.length]; exact hlt
      refine eE1 (fun t ht=>?_) (hks.get e.pos ks[e.pos] (by simp [hlk]))
      obtain rfl:y = .int ks[e.pos] t:=by rw [ht] at hy; exact (Option.some.inj hy).symm
      have hu:=hup ks[e.pos] (List.getElem_mem hlk)
      refine item _ { st' with es:=r ++ [{ e with oI:=oI', pos:=e.pos + 1 }] } _ _ ⟨(iE2 g _ ⟨hG, F3, N3, ok.item ⟨hc, hd⟩ hlt⟩), rfl, rfl, rfl⟩ ?_ (fun a ha=>?_) hu.2
      · have:=meas_item (ns:=ns) (s:=st') (es:=r) (e:=e) (oI':=oI') hlt
        rw [← e0] at this
        exact Nat.lt_of_lt_of_le this hle
      · rcases List.mem_append.mp ha with ha | ha
        · exact Int.lt_trans ((pw_last ok.asc).2 a ha) hu.1
        · rw [List.mem_singleton.mp ha]; exact hu.1
    · intro hx h3 tk3 g' vo' hG' F3 N3 hv3
      refine ⟨_, ?_, { st' with es:=r, kc:=st'.kc + 1, tc:=st'.tc + 1, vo:=vo', kvs:=without st'.kvs e.nd.k }, ⟨(iE2 g' _ ⟨hG', F3, N3, ok.stop H.KT H.KZ H.KV H.TZ H.TV H.ZV H.sep hv3 (List.length_filter_le _ _)⟩), rfl, rfl, rfl⟩, rfl, ?_⟩
      · have:=meas_stop (ns:=ns) (s:=st') (es:=r) (e:=e) (kc:=st'.kc + 1) (tc:=st'.tc + 1) (vo':=vo') (kvs':=without st'.kvs e.nd.k)
        rw [← e0] at this
        exact this
      · have:=meas_stop (ns:=ns) (s:=st') (es:=r) (e:=e) (kc:=st'.kc + 1) (tc:=st'.tc + 1) (vo':=vo') (kvs':=without st'.kvs e.nd.k)
        rw [← e0] at this
        lia
end
end
section
open PySem PySem.W PyProof.Rows PySem.Challenge PySem.Spec PySem.Calls
section
variable {w:World} {dp un:Nat} {gd:Option (List Code)} {cn:Str} {cs:Scope} {Lc ac:Addr} {ccd:Value} {cl:List (Str × Addr)} {outer:List Env} {base g₀:Heap} {x:FcC} {ns:List Nd} {led:List (Addr × Obj)} {gs:Array GenState} {dr:Drawn} {os:OsState} {Q:Flow→Shared→Prop} {E:Value→Shared→Prop} {mean:ExcName→Option Value} {mg mb:Str→Option Value}
theorem outer_run (H:FcSep x led) (Gr9:FcGraph w x ns led) (XB:(K2 w.params).In base) (TB:Top q2 (looseW q2 loose2) mean mg mb base)
    (hE:PassesOwn (model rw_mu0013_01.row.prog w) ((ktrTop dp un gd cn cs Lc ac ccd cl outer).deeper (fcE x.L)) (fcE x.L) E)
    (hEA:∀ e, PassesOwnAt (model rw_mu0013_01.row.prog w) (((ktrTop dp un gd cn cs Lc ac ccd cl outer).deeper (fcE x.L)).mark (some (Value.ref e))) ((ktrTop dp un gd cn cs Lc ac ccd cl outer).deeper (fcE x.L)) (fcE x.L) E)
    {k:Int} {t:Tok} {st:FcS} {s:Shared} (h:FcAt w mean mg mb (ktrTop dp un gd cn cs Lc ac ccd cl outer) base (envX cn cs Lc ac ccd cl :: outer) g₀ x ns led (.int k t) st gs dr os s) (hlt:∀ e ∈ st.es, e.nd.k < k) (hk:∃ nd ∈ ns, nd.k = k)
    (fin:∀ s' st' nv, FcAt w mean mg mb (ktrTop dp un gd cn cs Lc ac ccd cl outer) base (envX cn cs Lc ac ccd cl :: outer) g₀ x ns led nv st' gs dr os s'→st'.es = []→Q .next s') :
    wpAny (model rw_mu0013_01.row.prog w) ((ktrTop dp un gd cn cs Lc ac ccd cl outer).deeper (fcE x.L)) (exec (.While (testW fcWhile) [fcIf, .While (testW fcInner) fcInnerB (elseW fcInner) (posW fcInner)] [] (posW fcWhile)) (fcE x.L)) Q E s:=by
  refine whileX (fun n s'=>∃ st' k t, FcAt w mean mg mb (ktrTop dp un gd cn cs Lc ac ccd cl outer) base (envX cn cs Lc ac ccd cl :: outer) g₀ x ns led (.int k t) st' gs dr os s' ∧ (∀ e ∈ st'.es, e.nd.k < k) ∧ (∃ nd ∈ ns, nd.k = k) ∧ meas ns st' = n) hE ?_ (meas ns st) (iE3 st k t ⟨h, hlt, hk, rfl⟩)
  (rintro n hZ1; obtain ⟨hp', gs', dr', tk', os'⟩:=hZ1; (refine eE3 fun st' k t=>?_; refine eA4 fun hP3 hlt hP5 hR6=>?_; subst hR6; obtain ⟨⟨g, c, hG, F, N, ok⟩, e1, e2, e3⟩:=hP3; obtain ⟨nd, hnd, rfl⟩:=hP5))
  dsimp only at e1 e2 e3 F N
  subst e1 e2 e3
  with_reducible refine fc_true ?_
  rw [if_pos rfl]
  have hb:=ok.eb
  have hzb:=ok.zb
  have hkb:=ok.kb
  have hlen:=Gr9.len
  (refine eE2 (fun o kvs=>?_) Gr9.tab; refine eA3 fun hD hDo htab=>?_)
  obtain ⟨hn1, hn2, hn3⟩:(nd.x, nObj nd) ∈ led ∧ (nd.d, dictOf [] 0) ∈ led ∧ (nd.l, listOf nd.vs.toArray nd.c) ∈ led:=Gr9.nd nd hnd
  have hsp:=H.sep
  have inner:∀ {st2:FcS} {s2:Shared}, FcAt w mean mg mb (ktrTop dp un gd cn cs Lc ac ccd cl outer) base (envX cn cs Lc ac ccd cl :: outer) g₀ x ns led (.int nd.k t) st2 gs' dr' os' s2→meas ns st2 ≤ meas ns st' →
      wpAny (model rw_mu0013_01.row.prog w) ((ktrTop dp un gd cn cs Lc ac ccd cl outer).deeper (fcE x.L)) (execs [.While (testW fcInner) fcInnerB (elseW fcInner) (posW fcInner)] (fcE x.L)) (fun f s₃=>match f with
        | .next | .cont=>∃ m, m < meas ns st' ∧ ∃ st' k t, FcAt w mean mg mb (ktrTop dp un gd cn cs Lc ac ccd cl outer) base (envX cn cs Lc ac ccd cl :: outer) g₀ x ns led (.int k t) st' gs' dr' os' s₃ ∧ (∀ e ∈ st'.es, e.nd.k < k) ∧ (∃ nd ∈ ns, nd.k = k) ∧ meas ns st' = m
        | .brk=>Q .next s₃
        | .ret v=>Q (.ret v) s₃) E s2:=fun {st2 s2} h2 hle=>by
    refine wpAny_execs_cons ?_
    with_reducible refine inner_run H Gr9 XB TB hE hEA h2 ?_ ?_
    · intro s3 st3 k3 t3 h3 hm hl3 hk3
      exact wpAny_execs_nil ⟨meas ns st3, Nat.lt_of_lt_of_le hm hle, (iE3 st3 k3 t3 ⟨h3, hl3, hk3, rfl⟩)⟩
    · intro s3 st3 h3 he3
      exact fin s3 st3 _ h3 he3
  refine wpAny_execs_cons ?_
  with_reducible refine fc_if (x:=nd.x) (dx:=nd.d) (l:=nd.l) (vs:=nd.vs) (c:=nd.c) (np:=nd.np) (tkk:=nd.tk) (tp:=nd.tp) (kl:=st'.es.map fun e=>Value.int e.nd.k e.tk) (tl:=st'.es.map fun e=>Value.ref e.q) (vo:=st'.vo) (zo:=st'.zo) (kvs:=st'.kvs) (sn:=st'.sn) (nkv:=kvs) (o:=o) F N hG.P hE ok.hK ok.hT ok.hV ok.vd H.sysV ok.hZ ok.zs (ok.keep _ hD) hDo Gr9.sysD (tab_at htab Gr9.ku hnd) (ok.keep _ hn1) (ok.keep _ hn2) (ok.keep _ hn3) (by rw [List.length_map]; lia) (by rw [List.length_map]; omega) (by lia) (by lia) ?_ H.KZ H.TZ H.ZV.symm (hsp _ hD).2.2.1 (hsp _ hn1).2.2.1 (hsp _ hn2).2.2.1 (hsp _ hn3).2.2.1 H.KT H.TV.symm H.KV ?_ ?_ hG.X
  · intro hs
    cases hv:valueAt st'.kvs nd.k with
    | none=>rfl
    | some v =>
      (refine eE1 (fun e=>?_) ((ok.kv nd.k).mp (by rw [hv]; rfl)); refine eA2 fun he hek=>?_)
      have:=hlt e he
      lia
  · intro hs tk2
    exact inner ⟨(iE2 g c ⟨hG, F, N, ok⟩), rfl, rfl, rfl⟩ (Nat.le_refl _)
  · intro hs h3 tk3 q I zo' vo' tv F3 N3 hz3 hv3 lI lq
    exact inner ⟨(iE2 g _ ⟨hG, F3, N3, ok.push H.KT H.KZ H.KV H.TZ H.TV H.ZV hsp hnd hs hlt hz3 hv3 lI lq⟩), rfl, rfl, rfl⟩ (meas_push hnd hs)
end
end
section
open PySem PySem.W PyProof.Rows PySem.Challenge PySem.Spec PySem.Calls
noncomputable abbrev fcSkip:Stmt:=fcTurn.getD 0 (.Pass ⟨0, 0, 0, 0⟩)

local macro_rules | `(tactic| walk_at $s)=>Tab.rules s "compareOp In int ref||inSetU|amsl?|i"
theorem fc_skip {w:World} {dp un:Nat} {gd:Option (List Code)} {cn:Str} {cs:Scope} {Lc ac:Addr} {ccd:Value} {cl:List (Str × Addr)} {outer:List Env} {g hp:Heap} {L S D K T Z V:Addr} {gs:Array GenState} {dr:Drawn} {tk0:Nat} {os:OsState} {Q:Flow→Shared→Prop} {E:Value→Shared→Prop}
    {mean:ExcName→Option Value} {mg mb:Str→Option Value} {zn:Nat} {k:Int} {tk:Tok} {zo:Obj} {sn:Int→Bool} {led:List (Addr × Obj)}
    (F:Fr g L hp (fcM S D K T Z V (.int k tk))) (N:News g L hp led) (P:Top q2 (looseW q2 loose2) mean mg mb g) (hZ:(Z, zo) ∈ led) (hzo:zo.SetObjOf (intKind rw_mu0013_01.row.prog w) sn zn) (hzz:zn ≤ 1000)
    (ret:∀ tk', Q (if sn k = true then .cont else .next) ⟨hp, gs, dr, tk', os⟩) :
    (K2 w.params).In g→wpAny (model rw_mu0013_01.row.prog w) ((ktrTop dp un gd cn cs Lc ac ccd cl outer).deeper (fcE L)) (exec fcSkip (fcE L)) Q E ⟨hp, gs, dr, tk0, os⟩:=by
  w_on
  k_fill
  intro X
  have hb:=Eq.refl fcSkip
  conv at hb=>rhs; whnf
  rw [hb]
  clear hb
  w_strict (
    (have mk:=kstMark)
    k_steps
    · (have r:=ret)
      rw [if_pos (by assumption)] at r
      exact r _
    · (have r:=ret)
      rw [if_neg (by simp only [*]; exact Bool.false_ne_true)] at r
      exact r _)
theorem int_is {prog:Program} {w:World} {k:Int} {v:Value} (h:(intKind prog w).is k v = true):∃ t, v = .int k t:=by
  cases v with
  | int i t =>
    have:i = k:=by simpa [intKind, Value.isInt] using h
    exact ⟨t, by rw [this]⟩
  | _=>simp [intKind, Value.isInt] at h
section
variable {w:World} {ns:List Nd} {K T Z V I:Addr} {led c:List (Addr × Obj)} {s:FcS} {oI oI':Obj}
theorem FcOk.iter (h:FcOk w ns K T Z V ((I, oI) :: led) s c) (he:s.es = []) (nK:K ≠ I) (nT:T ≠ I) (nZ:Z ≠ I) (nV:V ≠ I) (nl:∀ p ∈ led, p.1 ≠ I):FcOk w ns K T Z V ((I, oI') :: led) s (upL I oI' c):=by
  refine ⟨fun p hp=>?_, mem_upL_ne h.hK nK, mem_upL_ne h.hT nT, mem_upL_ne h.hZ nZ, mem_upL_ne h.hV nV, h.zs, h.vd, fun e he'=>?_, fun e he'=>?_, h.nI, h.asc, h.kv, h.zb, h.kb, h.eb⟩
  · rcases List.mem_cons.mp hp with rfl | hp
    · exact mem_upL_self (h.keep _ (.head _))
    · exact mem_upL_ne (h.keep p (.tail _ hp)) (nl p hp)
  · rw [he] at he'; cases he'
  · rw [he] at he'; cases he'
theorem FcSep.iter {x:FcC} {led:List (Addr × Obj)} {I:Addr} {oI:Obj} (H:FcSep x led) (nK:x.K ≠ I) (nT:x.T ≠ I) (nZ:x.Z ≠ I) (nV:x.V ≠ I):FcSep x ((I, oI) :: led) :=
  ⟨H.KT, H.KZ, H.KV, H.TZ, H.TV, H.ZV, List.forall_mem_cons.mpr ⟨⟨nK.symm, nT.symm, nZ.symm, nV.symm⟩, H.sep⟩, H.sysV⟩
theorem FcGraph.iter {w:World} {x:FcC} {ns:List Nd} {led:List (Addr × Obj)} {q:Addr × Obj} (H:FcGraph w x ns led):FcGraph w x ns (q :: led) :=
  ⟨fun n hn=>⟨.tail _ (H.nd n hn).1, .tail _ (H.nd n hn).2.1, .tail _ (H.nd n hn).2.2⟩, H.ku, H.su, H.len, let ⟨o, kvs, a, b, c⟩:=H.tab; ⟨o, kvs, .tail _ a, b, c⟩, H.sysD⟩
end
section
variable {w:World} {dp un:Nat} {gd:Option (List Code)} {cn:Str} {cs:Scope} {Lc ac:Addr} {ccd:Value} {cl:List (Str × Addr)} {outer:List Env} {base g₀ g hp:Heap} {x:FcC} {ns:List Nd} {led c:List (Addr × Obj)} {gs:Array GenState} {dr:Drawn} {tk:Nat} {os:OsState} {Q:Flow→Shared→Prop} {E:Value→Shared→Prop} {mean:ExcName→Option Value} {mg mb:Str→Option Value} {px:Pos}
theorem for_run (H:FcSep x led) (Gr9:FcGraph w x ns led) (XB:(K2 w.params).In base) (TB:Top q2 (looseW q2 loose2) mean mg mb base)
    (hE:PassesOwn (model rw_mu0013_01.row.prog w) ((ktrTop dp un gd cn cs Lc ac ccd cl outer).deeper (fcE x.L)) (fcE x.L) E)
    (hEA:∀ e, PassesOwnAt (model rw_mu0013_01.row.prog w) (((ktrTop dp un gd cn cs Lc ac ccd cl outer).deeper (fcE x.L)).mark (some (Value.ref e))) ((ktrTop dp un gd cn cs Lc ac ccd cl outer).deeper (fcE x.L)) (fcE x.L) E)
    {st:FcS} (hG:GrK w mean mg mb (ktrTop dp un gd cn cs Lc ac ccd cl outer) base (envX cn cs Lc ac ccd cl :: outer) g₀ g) (F:Fr g x.L hp (fcM0 x.S x.D x.K x.T x.Z x.V)) (N:News g x.L hp c) (ok:FcOk w ns x.K x.T x.Z x.V led st c) (he:st.es = [])
    (fin:∀ g' c' h' tk' m', GrK w mean mg mb (ktrTop dp un gd cn cs Lc ac ccd cl outer) base (envX cn cs Lc ac ccd cl :: outer) g₀ g'→Fr g' x.L h' m'→News g' x.L h' c'→(∀ p ∈ led, p ∈ c')→Q .next ⟨h', gs, dr, tk', os⟩) :
    wpAny (model rw_mu0013_01.row.prog w) ((ktrTop dp un gd cn cs Lc ac ccd cl outer).deeper (fcE x.L)) (pyIter (.ref x.D)) (fun it s₂=>LoopX rw_mu0013_01.row.prog w ((ktrTop dp un gd cn cs Lc ac ccd cl outer).deeper (fcE x.L)) (fcE x.L) (Str.ofString "node") px [fcSkip, .While (testW fcWhile) [fcIf, .While (testW fcInner) fcInnerB (elseW fcInner) (posW fcInner)] [] (posW fcWhile)] Q E it s₂) E ⟨hp, gs, dr, tk, os⟩:=by
  (refine eE2 (fun o kvs=>?_) Gr9.tab; refine eA3 fun hD hDo htab=>?_)
  refine eE1 (fun ep ha=>?_) (KdkAt.of hDo)
  have lt:∀ p ∈ c, p.1 < hp.objs.size:=fun p hp=>Heap.lt_size (N p hp).1
  refine wpAny_pyIter_dict (s:=⟨hp, gs, dr, tk, os⟩) Gr9.sysD (ha.dictAt (N _ (ok.keep _ hD)).1) ?_
  have F0:=F.push { cls:=.type "dict_keyiterator", data:=.fields #[.ref x.D, .int 0 0, .int kvs.length 0, .int ep 0] }
  have N0:=N.push F { cls:=.type "dict_keyiterator", data:=.fields #[.ref x.D, .int 0 0, .int kvs.length 0, .int ep 0] }
  dsimp only
  generalize hI:hp.objs.size = I at lt N0 ⊢
  generalize hp.push { cls:=.type "dict_keyiterator", data:=.fields #[.ref x.D, .int 0 0, .int kvs.length 0, .int ep 0] } = h1 at F0 N0 ⊢
  have nK:x.K ≠ I:=Nat.ne_of_lt (lt _ ok.hK)
  have nT:x.T ≠ I:=Nat.ne_of_lt (lt _ ok.hT)
  have nZ:x.Z ≠ I:=Nat.ne_of_lt (lt _ ok.hZ)
  have nV:x.V ≠ I:=Nat.ne_of_lt (lt _ ok.hV)
  have nl:∀ p ∈ led, p.1 ≠ I:=fun p hp=>Nat.ne_of_lt (lt _ (ok.keep p hp))
  have nD:x.D ≠ I:=nl _ hD
  have W:=Walks.dictKeys (prog:=rw_mu0013_01.row.prog) (w:=w) (A:=(ktrTop dp un gd cn cs Lc ac ccd cl outer).deeper (fcE x.L)) (knd:=intKind rw_mu0013_01.row.prog w) rfl I x.D nD kvs ep
  have ok0:FcOk w ns x.K x.T x.Z x.V ((I, { cls:=.type "dict_keyiterator", data:=.fields #[.ref x.D, .int 0 0, .int kvs.length 0, .int ep 0] }) :: led) st ((I, { cls:=.type "dict_keyiterator", data:=.fields #[.ref x.D, .int 0 0, .int kvs.length 0, .int ep 0] }) :: c) :=
    ⟨fun p hp=>by
      rcases List.mem_cons.mp hp with rfl | hp
      · exact .head _
      · exact .tail _ (ok.keep p hp), .tail _ ok.hK, .tail _ ok.hT, .tail _ ok.hZ, .tail _ ok.hV, ok.zs, ok.vd, (fun e he'=>by rw [he] at he'; cases he'), (fun e he'=>by rw [he] at he'; cases he'), ok.nI, ok.asc, ok.kv, ok.zb, ok.kb, ok.eb⟩
  obtain ⟨Inv, hInv⟩:∃ Inv:Nat→Shared→Prop, Inv = fun k s'=>∃ i g c m st oI, k = kvs.length + 1 - i ∧ i ≤ kvs.length ∧ GrK w mean mg mb (ktrTop dp un gd cn cs Lc ac ccd cl outer) base (envX cn cs Lc ac ccd cl :: outer) g₀ g ∧ Fr g x.L s'.heap m ∧ (∀ y, y ≠ Str.ofString "node"→m y = fcM0 x.S x.D x.K x.T x.Z x.V y) ∧ News g x.L s'.heap c ∧ FcOk w ns x.K x.T x.Z x.V ((I, oI) :: led) st c ∧ st.es = [] ∧ KdkIter oI x.D i kvs.length ep ∧ s'.gens = gs ∧ s'.drawn = dr ∧ s'.os = os:=⟨_, rfl⟩
  refine codeAny_forLoop_any Inv ?_ (kvs.length + 1) (by rw [hInv]; exact (iE6 0 g _ _ st _ ⟨rfl, Nat.zero_le _, hG, F0, fun _ _=>rfl, N0, ok0, he, ⟨rfl, rfl⟩, rfl, rfl, rfl⟩))
  intro k s' hI0
  rw [hInv] at hI0
  (revert hI0; refine eE6 fun i g2 c2 m2 st2 oI2=>?_; refine eA12 fun hR6 hi hG2 F2 hm2 N2 ok2 he2 hit e1 e2 e3=>?_; subst hR6)
  obtain ⟨h2, gs2, dr2, tk2, os2⟩:=s'
  dsimp only at e1 e2 e3 F2 N2
  subst e1 e2 e3
  have nI:=N2 _ (ok2.keep _ (.head _))
  have hst:h2.IsKeyIter I x.D i kvs.length ep ∧ h2.DictAt (intKind rw_mu0013_01.row.prog w) x.D kvs ep:=⟨hit.at nI.1, ha.dictAt (N2 _ (ok2.keep _ (.tail _ hD))).1⟩
  have next:∀ h₁:Heap, (∀ b o, b ∉ [I]→h2.get? b = some o→h₁.get? b = some o)→Fr g2 x.L h₁ m2 ∧ ∀ p ∈ c2, p.1 ≠ I→h₁.get? p.1 = some p.2 ∧ p.1 ≠ x.L ∧ g2.get? p.1 = none:=fun h₁ hk₁ =>
    ⟨⟨F2.ns.at' fun o e=>hk₁ _ o (fun q=>nI.2.1 (List.mem_singleton.mp q).symm) e, fun b o e=>hk₁ b o (fun q=>by rw [List.mem_singleton.mp q, nI.2.2] at e; cases e) (F2.keep b o e), F2.above⟩, fun p hp hne=>⟨hk₁ _ _ (fun q=>hne (List.mem_singleton.mp q)) (N2 p hp).1, (N2 p hp).2⟩⟩
  by_cases hlt:i < kvs.length
  · refine W.item i _ _ _ hlt hst fun v h3 tk3 hPv hst3 hk3=>?_
    (revert hPv; refine eE2 fun kk xx=>?_; refine eA2 fun hkx hkey=>?_)
    (refine eE1 (fun t hR1=>?_) (int_is hkey); subst hR1)
    (refine eE1 (fun oI3=>?_) hst3.1; refine eA3 fun ho3 hc3 hd3=>?_)
    refine eA2 (fun F3 N3'=>?_) (next h3 hk3)
    have N3:News g2 x.L h3 (upL I oI3 c2):=fun p hp=>by
      rcases upL_mem hp with rfl | ⟨hp, hne⟩
      · exact ⟨ho3, nI.2⟩
      · exact N3' p hp hne
    have ok3:=ok2.iter (oI':=oI3) he2 nK nT nZ nV nl
    show wpAny _ _ (letOwnedTupleGo (.Name (Str.ofString "node") px) (.ref I) (.int kk t)) _ _ _
    refine wpAny_of_eq (rfl:letOwnedTupleGo (.Name (Str.ofString "node") px) (.ref I) (.int kk t) = pure ()) ?_
    refine wpAny_assign_Name (wpAny_storeName_local rfl F3.ns (fun h4 hn4 hs4=>?_) rfl)
    have F4:=F3.set hn4 hs4
    have N4:=N3.set hs4
    have em:(fun y=>if y = Str.ofString "node" then some (Value.int kk t) else m2 y) = fcM x.S x.D x.K x.T x.Z x.V (.int kk t):=by
      funext y
      by_cases q:y = Str.ofString "node"
      · unfold fcM; rw [if_pos q, if_pos q]
      · unfold fcM; rw [if_neg q, if_neg q, hm2 y q]
    rw [em] at F4
    have hnd:∃ nd ∈ ns, nd.k = kk:=by
      unfold Tab at htab
      rw [htab, List.getElem?_map] at hkx
      (refine eE1 (fun nd=>?_) (Option.map_eq_some_iff.mp hkx); refine eA2 fun e q=>?_)
      exact ⟨nd, List.mem_of_getElem? e, congrArg (·.1) q⟩
    have hzb:=ok3.zb
    have hlen:=Gr9.len
    refine wpAny_mono (Q:=fun f s₃=>match f with
        | .next | .cont=>∃ m, m < kvs.length + 1 - i ∧ Inv m s₃
        | .brk=>Q .next s₃
        | .ret v=>Q (.ret v) s₃) ?_ (fun f _ h=>h) hE
    refine wpAny_execs_cons ?_
    have ended:∀ s5 st5 g5 c5 m5, GrK w mean mg mb (ktrTop dp un gd cn cs Lc ac ccd cl outer) base (envX cn cs Lc ac ccd cl :: outer) g₀ g5→Fr g5 x.L s5.heap m5→(∀ y, y ≠ Str.ofString "node"→m5 y = fcM0 x.S x.D x.K x.T x.Z x.V y)→News g5 x.L s5.heap c5→FcOk w ns x.K x.T x.Z x.V ((I, oI3) :: led) st5 c5→st5.es = []→s5.gens = gs2→s5.drawn = dr2→s5.os = os2→∃ m, m < kvs.length + 1 - i ∧ Inv m s5:=by
      intro s5 st5 g5 c5 m5 a1 a2 a3 a4 a5 a6 a7 a8 a9
      refine ⟨kvs.length + 1 - (i + 1), by exact ar21 ‹_›, ?_⟩
      rw [hInv]
      exact (iE6 (i + 1) g5 c5 m5 st5 oI3 ⟨rfl, hlt, a1, a2, a3, a4, a5, a6, ⟨hc3, hd3⟩, a7, a8, a9⟩)
    with_reducible refine fc_skip F4 N4 hG2.P ok3.hZ ok3.zs (by lia) ?_ hG2.X
    intro tk5
    by_cases hs:st2.sn kk = true
    · rw [if_pos hs]
      exact ended _ st2 g2 _ _ hG2 F4 (fun y hy=>if_neg hy) N4 ok3 he2 rfl rfl rfl
    · rw [if_neg hs]
      show wpAny _ _ _ _ _ _
      refine wpAny_execs_cons ?_
      with_reducible refine outer_run (H.iter nK nT nZ nV) Gr9.iter XB TB hE hEA (st:=st2) ⟨(iE2 g2 _ ⟨hG2, F4, N4, ok3⟩), rfl, rfl, rfl⟩ (by rw [he2]; exact List.forall_mem_nil _) hnd ?_
      intro s6 st6 nv6 h6 he6
      obtain ⟨⟨g6, c6, a1, a2, a3, a4⟩, a5, a6, a7⟩:=h6
      exact wpAny_execs_nil (ended s6 st6 g6 c6 _ a1 a2 (fun y hy=>if_neg hy) a3 a4 he6 a5 a6 a7)
  · have hin:i = kvs.length:=by lia
    subst hin
    refine W.done _ _ _ hst fun h3 tk3 hk3=>wpAny_execs_nil ?_
    refine eA2 (fun F3 N3=>?_) (next h3 hk3)
    exact fin g2 (c2.filter fun p=>decide (p.1 ≠ I)) h3 tk3 m2 hG2 F3 (fun p hp=>N3 p (List.mem_filter.mp hp).1 (of_decide_eq_true (List.mem_filter.mp hp).2)) fun p hp=>mem_filt (ok2.keep p (.tail _ hp)) (nl p hp)
end
end
section
open PySem PySem.W PyProof.Rows PySem.Challenge PySem.Spec PySem.Calls

local macro_rules | `(tactic| walk_at $s)=>Tab.rules s "exec For Name Name cons nil||forX|?f|W"
theorem it_body {prog:Program} {w:World} {A:Around} {s:Shared} {env:Env} {x:Str} {body body':List Stmt} {Q:Flow→Shared→Prop} {E:Value→Shared→Prop} {px:Pos} {v:Value} (e:body' = body)
    (h:wpAny (model prog w) A (pyIter v) (fun it s₂=>LoopX prog w A env x px body' Q E it s₂) E s):wpAny (model prog w) A (pyIter v) (fun it s₂=>LoopX prog w A env x px body Q E it s₂) E s:=e ▸ h
theorem fc_sep {S D K T Z V L:Addr} {news:List (Addr × Obj)} (h1:∀ p ∈ news, p.1 < K) (h2:K < T ∧ AllLt T news) (h3:T < Z ∧ K < Z ∧ AllLt Z news) (h4:Z < V ∧ T < V ∧ K < V ∧ AllLt V news) (h5:(V == sysModules) = false):FcSep ⟨S, D, K, T, Z, V, L⟩ news:=by
  refine ⟨?_, ?_, ?_, ?_, ?_, ?_, fun p hp=>?_, h5⟩
  · exact Nat.ne_of_lt h2.1
  · exact Nat.ne_of_lt h3.2.1
  · exact Nat.ne_of_lt h4.2.2.1
  · exact Nat.ne_of_lt h3.1
  · exact Nat.ne_of_lt h4.2.1
  · exact Nat.ne_of_lt h4.1
  · have:=h1 p hp
    exact ⟨Nat.ne_of_lt this, Nat.ne_of_lt (Nat.lt_trans this h2.1), Nat.ne_of_lt (Nat.lt_trans this h3.2.1), Nat.ne_of_lt (Nat.lt_trans this h4.2.2.1)⟩
theorem fc_init {w:World} {ns:List Nd} {K T Z V:Addr} {zo vo:Obj} {led:List (Addr × Obj)} (hz:zo.SetObjOf (intKind rw_mu0013_01.row.prog w) (fun _=>false) 0) (hv:vo.IsDictOf (intKind rw_mu0013_01.row.prog w) []) :
    FcOk w ns K T Z V led ⟨[], 0, 0, fun _=>false, 0, zo, vo, []⟩ ((V, vo) :: (Z, zo) :: (T, listOf #[] 0) :: (K, listOf #[] 0) :: led):=by
  refine ⟨fun p hp=>.tail _ (.tail _ (.tail _ (.tail _ hp))), .tail _ (.tail _ (.tail _ (.head _))), .tail _ (.tail _ (.head _)), .tail _ (.head _), .head _, hz, hv, List.forall_mem_nil _, List.forall_mem_nil _, .nil, .nil, fun k=>?_, ?_, Nat.le_refl _, Nat.le_refl _⟩
  · exact ⟨fun h=>by simp [valueAt] at h, fun ⟨e, he, _⟩=>by cases he⟩
  · rw [Nat.zero_add]; exact List.length_filter_le _ _
local macro_rules | `(tactic| walk_at $s)=>Tab.rules s "none 1"
theorem fc_tells {w:World} {dp un:Nat} {gd:Option (List Code)} {cn:Str} {cs:Scope} {a:Addr} {ccd:Value} {cl:List (Str × Addr)} {outer:List Env} {A₀:Around} {base h₀:Heap} {L:Addr} {m:Str→Option Value} {news:List (Addr × Obj)} {s:Shared}
    {mean:ExcName→Option Value} {mg mb:Str→Option Value} {f p:Int} {tf tp t1 t2 t3 t4:Tok} {S dS D:Addr} {rv:Value} {ns:List Nd} {o:Obj} {kvs:List (Int × Value)} {Q E:Value→Shared→Prop}
    (B:Below A₀ base outer h₀) (F:Fr h₀ L s.heap m) (N:News h₀ L s.heap news) (T:Top q2 (looseW q2 loose2) mean mg mb h₀) (XB:(K2 w.params).In base) (TB:Top q2 (looseW q2 loose2) mean mg mb base) (DD:KtsDicts (outer.filterMap (·.frame)) h₀) (hk:cs.kind = .function)
    (hS:(S, instObj 440 dS) ∈ news) (hd:(dS, dictOf (tsD w t1 t2 t3 t4 D rv (.int p tp) (.int f tf)) 4) ∈ news) (hD:(D, o) ∈ news) (ho:o.IsDictOf (intKind rw_mu0013_01.row.prog w) kvs) (lo:(D == sysModules) = false) (hu:KU ns) (hns:∀ n ∈ ns, NdIn news n) (htab:Tab kvs ns) (hz:ns.length ≤ 900) (hsu:∀ n ∈ ns, ∃ ks, IntsAre n.vs ks ∧ ∀ k ∈ ks, n.k < k ∧ ∃ n' ∈ ns, n'.k = k) (hdp:dp + 40 < recursionLimit) (hun:un + 400 < cLine)
    (ret:∀ g' h' tk' led', KtsTurn (outer.filterMap (·.frame)) h₀ g'→Fr g' L h' m→News g' L h' led'→(∀ p ∈ news, p ∈ led')→Below A₀ base outer g'→(K2 w.params).In g'→Top q2 (looseW q2 loose2) mean mg mb g'→KtsDicts (outer.filterMap (·.frame)) g'→Q .none { s with heap:=h', toks:=tk' }) :
    (K2 w.params).In h₀→wpAny (model rw_mu0013_01.row.prog w) (ktrTop dp un gd cn cs L a ccd cl outer) (call (.ref 430) [.ref S]) Q E s:=by
  w_on
  k_fill
  intro X
  obtain ⟨ck, cnm, cig, cic, cmo⟩:=cs
  change ck = _ at hk
  subst hk
  refine wpAny_call ?_
  w_strict (
    k_dflt (refine' callSX ?k1 ?k2 ?k3 ?k4 ?k5 ?XB ?TB ?D ?T0 ?kA ?kf ?kke ?k6 ?k7 ?k8 ?k9 ?kB ?_ ?c2 ?c3 ?c4 ?c5; (case kA=>exact rfl); (case kf=>exact rfl); (case kke=>exact rfl); (case k2=>k_asm); (case k1=>k_asm); (case XB=>assumption); (case TB=>assumption); (case D=>assumption); (case T0=>exact KtsTurn.refl); (case k3=>k_asm); (case k4=>k_asm); (case k5=>k_asm); (case k6=>k_is); (case k7=>k_is); (case k8=>ktr_room); (case k9=>exact BindsTo.of_eq rfl); (case kB=>exact locs rfl); (case c2=>exact rfl); (case c3=>exact rfl); (case c4=>exact rfl); (case c5=>decide); k_whole; intro g1 L1 hp0 G1 F00 N1 B1 X1 T1 D1 _; (try dsimp only); (try k_lift B1); (try k_fold))
    (have F0:=F00)
    clear F00
    (have F1:=fr_as F0 (fun y=>List.lookup y [(Str.ofString "self", .ref S)]) (by with_unfolding_all rfl))
    clear F0
    (have hb:=Eq.refl (bodyOf (sub 14 9)))
    (conv at hb=>rhs; whnf)
    rw [hb]
    clear hb
    (have mk:=kstMark)
    k_steps
    (unfold Halt)
    (rename_i hp1 tk1 K1 hp2 l1a hp3 tk3 T2 hp4 l1b hp5 tk5 Z1 hp6 led1 hs1 hz1 l1c hp7 tk7 V1 hp8 o1 lo1 hsd fsd hid fid l1d hp9 tk9 F9 N9)
    (with_reducible refine' it_body (body':=[fcSkip, .While (testW fcWhile) [fcIf, .While (testW fcInner) fcInnerB (elseW fcInner) (posW fcInner)] [] (posW fcWhile)]) ?he ?_)
    (case he=>kernel_rfl)
    (have hE1:PassesOwn (model rw_mu0013_01.row.prog w) ((ktrTop dp un gd cn { kind:=ScopeKind.function, names:=cnm, isGenerator:=cig, isCoroutine:=cic, more:=cmo } L a ccd cl outer).deeper (fcE L1)) (fcE L1) ek:=by passes_own)
    (have hEA1:∀ e, PassesOwnAt (model rw_mu0013_01.row.prog w) (((ktrTop dp un gd cn { kind:=ScopeKind.function, names:=cnm, isGenerator:=cig, isCoroutine:=cic, more:=cmo } L a ccd cl outer).deeper (fcE L1)).mark (some (Value.ref e))) ((ktrTop dp un gd cn { kind:=ScopeKind.function, names:=cnm, isGenerator:=cig, isCoroutine:=cic, more:=cmo } L a ccd cl outer).deeper (fcE L1)) (fcE L1) ek:=by intro e; passes_own)
    (have nw:∀ p ∈ news, p.1 < K1:=l1a)
    (have sep1:FcSep ⟨S, D, K1, T2, Z1, V1, L1⟩ news:=fc_sep l1a l1b l1c l1d lo1)
    (have gr1:FcGraph w ⟨S, D, K1, T2, Z1, V1, L1⟩ ns news:=⟨hns, hu, hsu, hz, (iE2 _ _ ⟨hD, ho, htab⟩), lo⟩)
    (have ok1:=fc_init (ns:=ns) (K:=K1) (T:=T2) (Z:=Z1) (V:=V1) (led:=news) hs1 hid)
    (have hG1:GrK w mean mg mb (ktrTop dp un gd cn { kind:=ScopeKind.function, names:=cnm, isGenerator:=cig, isCoroutine:=cic, more:=cmo } L a ccd cl outer) base (envX cn { kind:=ScopeKind.function, names:=cnm, isGenerator:=cig, isCoroutine:=cic, more:=cmo } L a ccd cl :: outer) g1 g1:=⟨KtsTurn.refl, B1, X1, T1, D1⟩)
    (with_reducible refine' for_run (x:=⟨S, D, K1, T2, Z1, V1, L1⟩) (g₀:=g1) sep1 gr1 XB TB hE1 hEA1 hG1 F9 N9 ok1 rfl ?_)
    (intro g3 c3 h3 tk3' m3 hG3 F3 N3 kp3)
    (obtain ⟨TT3, BB3, XX3, PP3, DD3⟩:=hG3)
    clear F9 N9
    k_steps
    (rename_i kg kT kF kN kB kX₀ kP kD kX)
    exact ret kg h3 tk3' c3 kT kF kN kp3 kB kX₀ kP kD)
end
section
open PySem PySem.W PyProof.Rows PySem.Challenge PySem.Spec PySem.Calls
open PyProof.Rows.LCg PyProof.Rows.LCt
noncomputable def CompSrcV (prog:Program) (w:World) (A:Around) (h₀:Heap) (L:Addr) (m:Str→Option Value) (env:Env) (ct elt:PySem.Expr) (x:Str) (scope:Scope) (cl:List (Str × Addr)) (Fin:Shared→List Value→List (Addr × Obj)→Prop) (xv:Value) (s₁:Shared):Prop :=
  ∃ v D o kvs news, xv = .ref v ∧ A.handled = none ∧ Fr h₀ L s₁.heap m ∧ News h₀ L s₁.heap news ∧ s₁.heap.IsValuesView v D ∧ (D, o) ∈ news ∧ o.IsDictOf (intKind prog w) kvs ∧ kvs.length ≤ sizeLine ∧
    ∀ s₂:Shared, (∃ h, s₂ = { s₁ with heap:=h })→CompRestT prog w A h₀ L m env ct elt x scope cl s₂ (fun nw=>(D, o) ∈ nw) (fun i v=>∃ k:Int, kvs[i]? = some (k, v)) (Fin s₂) kvs.length 0 [] news
section
variable {prog:Program} {w:World} {A:Around} {E:Value→Shared→Prop} {s:Shared} {h₀:Heap} {L:Addr} {m:Str→Option Value} {env:Env}
theorem ListComp_V {ct elt iter:PySem.Expr} {x:Str} {px:Pos} {scope:Scope} {cl:List (Str × Addr)} {pos:Pos} {Q:Value→Shared→Prop} (F₀:Fr h₀ L s.heap m)
    (hclos:closureFor scope env = pure cl) (hcell:∀ y ∈ scope.names, y.2 ≠ .cell) (hkind:scope.kind = .function)
    (hnames:∀ y ∈ scope.names, y.2 = .local→scope.names.lookup y.1 = some .local) (hx:scope.names.lookup x = some .local)
    (h:wpAny (model prog w) A (PySem.eval iter env) (CompSrcV prog w A h₀ L m env ct elt x scope cl (fun s₂=>FinE h₀ L m s₂ Q)) E s)
    (hs:∀ x, foldedSetIterable iter env x = pure x:=by intro _; rfl) :
    wpAny (model prog w) A (PySem.eval (.ListComp elt [⟨.Name x px, iter, [ct], 0⟩] scope pos) env) Q E s:=by
  rw [eval_ListComp]
  refine wpAny_comprehension_free (use:=none) rfl hs hclos hkind hnames (wpAny_mono h (fun xv s₁ h₁=>?_) fun _ _ e=>e)
  (revert h₁; refine eE5 fun v D o kvs news=>?_; refine eA9 fun hR5 hh F N hv hD ho hsz R=>?_; subst hR5)
  refine eE1 (fun ep ha=>?_) (KdkAt.of ho)
  have hvD:=ha.dictAt (N _ hD).1
  have hlt:D < s₁.heap.objs.size:=Heap.lt_size (N _ hD).1
  refine wpAny_pyIter_values hv hvD ?_
  have up:∀ b o, s₁.heap.get? b = some o→(s₁.heap.push { cls:=.type "dict_valueiterator", data:=.fields #[.ref D, .int 0 0, .int kvs.length 0, .int ep 0] }).get? b = some o:=fun b o e=>Heap.get?_push_of_some _ e
  refine block_T (Walks.dictValues (knd:=intKind prog w) hh s₁.heap.objs.size D (Nat.ne_of_lt hlt) kvs ep) hsz (fun i h st=>by (refine eE1 (fun o=>?_) st.1; refine eA2 fun e _=>?_); exact ⟨o, e⟩) (S:=fun nw=>(D, o) ∈ nw) ?_ hcell hkind hx ⟨⟨_, Heap.get?_push_size _ rfl, rfl, rfl⟩, hvD.at' fun o e=>up _ o e⟩ (fun b hb=>?_)
      (F.keeps up) (N.grown up) (Nat.ne_of_lt F.ns.lt) (next_is_new F) (fun p hp=>Nat.ne_of_lt (Heap.lt_size (N p hp).1)) hD (R _ ⟨_, rfl⟩) ?_
  · intro i h h' oI nw st e e' k N' S
    exact ⟨by (refine eE1 (fun o'=>?_) st.1; refine eA2 fun q r=>?_); rw [e] at q; cases q; exact ⟨oI, e', r⟩, ha.dictAt (N' _ S).1⟩
  · show b < (s₁.heap.push _).objs.size
    rw [Heap.size_push]
    rcases List.mem_cons.mp hb with rfl | hb
    · exact Nat.lt_succ_self _
    · rw [List.mem_singleton.mp hb]; exact Nat.lt_succ_of_lt hlt
  · intro D' C h tk m' ys news' F' N' o1 hn hC₀ hD₀ hCL hDL hCD offC fin
    refine ⟨m', hn, fun h'' hs''=>fin D' h'' tk (F'.change hs'' hCL hC₀) (fun p hp=>?_) o1⟩
    refine ⟨hs''.extBut _ _ ?_ (N' p hp).1, (N' p hp).2⟩
    rcases List.mem_cons.mp hp with rfl | hp
    · exact Ne.symm hCD
    · exact offC p hp
theorem compRestT_ind {ct elt:PySem.Expr} {x:Str} {scope:Scope} {cl:List (Str × Addr)} {s:Shared} {S:List (Addr × Obj)→Prop} {P:Nat→Value→Prop} {Fin:List Value→List (Addr × Obj)→Prop} {news:List (Addr × Obj)}
    (J:Nat→List Value→Prop) (n:Nat) (h0:∀ ys, J n ys→Fin ys news)
    (step:∀ k i ys, i < n→J i ys→(∀ ys', J (i + 1) ys'→LCt.CompRestT prog w A h₀ L m env ct elt x scope cl s S P Fin k (i + 1) ys' news)→LCt.CompRestT prog w A h₀ L m env ct elt x scope cl s S P Fin (k + 1) i ys news) :
    ∀ k i ys, i + k = n→J i ys→LCt.CompRestT prog w A h₀ L m env ct elt x scope cl s S P Fin k i ys news
  | 0, i, ys, e, hj=>LCt.CompRestT.zero (h0 ys (by rw [← e]; exact hj))
  | k + 1, i, ys, e, hj=>step k i ys (by lia) hj fun ys' hj'=>compRestT_ind J n h0 step k (i + 1) ys' (by lia) hj'
end
end
section
open PySem PySem.W PyProof.Rows PySem.Challenge PySem.Spec PySem.Calls
local macro_rules | `(tactic| walk_at $s)=>Tab.rules s "setAttr ref||set_slotU|aaamNIIIIIdSx?|Wids
setAttr ref||set_dictU|aaaNxmIIIIgpb?|Wids"

theorem kdvals {prog:Program} {w:World} {A:Around} {E:Value→Shared→Prop} {s:Shared} {knd:KeyKind prog w Int} {d L:Addr} {h₀:Heap} {news:List (Addr × Obj)} {o:Obj} {kvs:List (Int × Value)} {pl:Sem Bool} {Q:Value × List Value→Shared→Prop} (N:News h₀ L s.heap news) (hp:(d, o) ∈ news) (hd:o.IsDictOf knd kvs) (h:Q (.builtin "dict.values", [.ref d]) s):wpAny (model prog w) A (getMethod (.ref d) "values" pl) Q E s :=
  have hD:=kda_dict N hp hd
  getMethod_builtin hD.typeIs PySem.F.plainAttrs_dict PySem.F.slot_dict_values PySem.F.type_dict_values hD.mapOf.noDict h
local macro_rules | `(tactic| walk_at $s)=>Tab.rules s "CompSrcV|halt
call builtin:dict.values||kta_callValues|kaamss?|i
getMethod ref|getMethod:values|kdvals|kams?|"
theorem off1_mem {D:Addr}:∀ {l:List (Addr × Obj)}, LCg.Off1 D l→∀ p ∈ l, p.1 ≠ D
  | [], _, _, hp=>nomatch hp
  | _ :: _, h, p, hp=>by
    rcases List.mem_cons.mp hp with rfl | hp
    · exact h.1
    · exact off1_mem h.2 p hp
noncomputable def rdyN (ns:List Nd):List Value:=(ns.filter fun n=>decide (n.np = 0)).map fun n=>Value.int n.k n.tk
theorem rdyN_snoc {ns:List Nd} {n:Nd}:rdyN (ns ++ [n]) = if n.np = 0 then rdyN ns ++ [.int n.k n.tk] else rdyN ns:=by
  unfold rdyN
  by_cases h:n.np = 0 <;> simp [h]
theorem tab_item {kvs:List (Int × Value)} {ns:List Nd} {i:Nat} {v:Value} (h:Tab kvs ns) (hv:∃ k:Int, kvs[i]? = some (k, v)):∃ nd, ns[i]? = some nd ∧ v = .ref nd.x:=by
  (revert hv; refine eE1 fun k hk=>?_)
  unfold Tab at h
  rw [h, List.getElem?_map] at hk
  (refine eE1 (fun nd=>?_) (Option.map_eq_some_iff.mp hk); refine eA2 fun e q=>?_)
  exact ⟨nd, e, (congrArg (·.2) q).symm⟩
local macro_rules | `(tactic| walk_at $s)=>Tab.rules s "none 2"
theorem prep_tells {w:World} {dp un:Nat} {gd:Option (List Code)} {cn:Str} {cs:Scope} {a:Addr} {ccd:Value} {cl:List (Str × Addr)} {outer:List Env} {A₀:Around} {base h₀:Heap} {L:Addr} {m:Str→Option Value} {news:List (Addr × Obj)} {s:Shared}
    {mean:ExcName→Option Value} {mg mb:Str→Option Value} {f p:Int} {tf tp t1 t2 t3 t4:Tok} {S dS D:Addr} {ns:List Nd} {o:Obj} {kvs:List (Int × Value)} {Q E:Value→Shared→Prop}
    (B:Below A₀ base outer h₀) (F:Fr h₀ L s.heap m) (N:News h₀ L s.heap news) (T:Top q2 (looseW q2 loose2) mean mg mb h₀) (XB:(K2 w.params).In base) (TB:Top q2 (looseW q2 loose2) mean mg mb base) (DD:KtsDicts (outer.filterMap (·.frame)) h₀) (hk:cs.kind = .function)
    (hS:(S, instObj 440 dS) ∈ news) (hd:(dS, dictOf (tsD w t1 t2 t3 t4 D .none (.int p tp) (.int f tf)) 4) ∈ news) (hD:(D, o) ∈ news) (ho:o.IsDictOf (intKind rw_mu0013_01.row.prog w) kvs) (lo:(D == sysModules) = false) (hu:KU ns) (hns:∀ n ∈ ns, NdIn news n) (htab:Tab kvs ns) (hz:ns.length ≤ 900) (hsu:∀ n ∈ ns, ∃ ks, IntsAre n.vs ks ∧ ∀ k ∈ ks, n.k < k ∧ ∃ n' ∈ ns, n'.k = k) (hdp:dp + 60 < recursionLimit) (hun:un + 600 < cLine)
    (ret:∀ R g' h' tk' led', KtsTurn (outer.filterMap (·.frame)) h₀ g'→Fr g' L h' m→News g' L h' led'→(R, listOf (rdyN ns).toArray (rdyN ns).length) ∈ led'→(∀ q ∈ upL dS (dictOf (tsD w t1 t2 t3 t4 D (.ref R) (.int p tp) (.int f tf)) 4) news, q ∈ led')→(∀ p ∈ news, p.1 ≠ R)→Below A₀ base outer g'→(K2 w.params).In g'→Top q2 (looseW q2 loose2) mean mg mb g'→KtsDicts (outer.filterMap (·.frame)) g'→Q .none { s with heap:=h', toks:=tk' }) :
    (K2 w.params).In h₀→wpAny (model rw_mu0013_01.row.prog w) (ktrTop dp un gd cn cs L a ccd cl outer) (call (.ref 395) [.ref S]) Q E s:=by
  w_on
  k_fill
  intro X
  obtain ⟨ck, cnm, cig, cic, cmo⟩:=cs
  change ck = _ at hk
  subst hk
  have hkl:kvs.length = ns.length:=by unfold Tab at htab; rw [htab, List.length_map]
  refine wpAny_call ?_
  w_strict (
    k_dflt (refine' callSX ?k1 ?k2 ?k3 ?k4 ?k5 ?XB ?TB ?D ?T0 ?kA ?kf ?kke ?k6 ?k7 ?k8 ?k9 ?kB ?_ ?c2 ?c3 ?c4 ?c5; (case kA=>exact rfl); (case kf=>exact rfl); (case kke=>exact rfl); (case k2=>k_asm); (case k1=>k_asm); (case XB=>assumption); (case TB=>assumption); (case D=>assumption); (case T0=>exact KtsTurn.refl); (case k3=>k_asm); (case k4=>k_asm); (case k5=>k_asm); (case k6=>k_is); (case k7=>k_is); (case k8=>ktr_room); (case k9=>exact BindsTo.of_eq rfl); (case kB=>exact locs rfl); (case c2=>exact rfl); (case c3=>exact rfl); (case c4=>exact rfl); (case c5=>decide); k_whole; intro g1 L1 hp0 G1 F00 N1 B1 X1 T1 D1 _; (try dsimp only); (try k_lift B1); (try k_fold))
    (have F1:=fr_as F00 (fun y=>List.lookup y [(Str.ofString "self", .ref S)]) (by with_unfolding_all rfl))
    clear F00
    (have hb:=Eq.refl (bodyOf (sub 14 4)))
    (conv at hb=>rhs; whnf)
    rw [hb]
    clear hb
    (have mk:=kstMark)
    k_steps
    (unfold Halt)
    (refine' ListComp_V F1 ?z1 ?z2 ?z3 ?z4 ?z5 ?z6)
    (case z1=>with_unfolding_all rfl)
    (case z2=>decide)
    (case z3=>rfl)
    (case z4=>decide)
    (case z5=>rfl)
    (case z6 =>
      k_steps
      (unfold Halt)
      (rename_i hpV hV FV NV)
      (refine' (iE5 _ D o kvs news ⟨rfl, rfl, FV, NV, hV, hD, ho, ?q0, fun s2 hs2=>?q2⟩))
      (case q0=>(rw [hkl, sizeLine_eq]; lia))
      (case q2 =>
        (revert hs2; refine eE1 fun g0 hR1=>?_; subst hR1)
        (refine' compRestT_ind (fun i ys=>ys = rdyN (ns.take i)) kvs.length ?q3 ?q4 _ 0 [] (Nat.zero_add _) rfl)
        (case q3 =>
          intro ys hy
          rw [hkl, List.take_length] at hy
          intro R h5 tk5 F5 N5 o5
          clear FV NV hV F1
          dsimp only at F5 N5 ⊢
          (have nSd:S ≠ dS:=news_ne N hS hd (fun e=>by cases e))
          (have ndR:dS ≠ R:=news_ne N5 (.tail _ hd) (.head _) (fun e=>by injection e with e; exact absurd e (by decide)))
          k_steps
          (unfold Halt)
          (rename Fr _ _ _ _=>F6)
          (rename News _ _ _ _=>N6)
          (have ledS:(S, instObj 440 dS) ∈ upL dS (dictOf (tsD w t1 t2 t3 t4 D (.ref R) (.int p tp) (.int f tf)) 4) ((R, LCg.lst ys) :: news):=mem_upL_ne (.tail _ hS) nSd)
          (have nDd:D ≠ dS:=news_neo N hD hd (fun e=>tsd_not ho e))
          (refine' fc_tells (rv:=.ref R) (ns:=ns) ?b1 F6 N6 ?b2 XB TB ?b3 ?b4 ledS ?c1 ?c2 ho lo hu ?c3 htab hz hsu ?b5 ?b6 ?b7 ?b8)
          (case b1=>exact B1)
          (case b2=>exact T1)
          (case b3=>exact D1)
          (case b4=>exact rfl)
          (case c1=>exact mem_upL_self (.tail _ hd))
          (case c2=>exact mem_upL_ne (.tail _ hD) nDd)
          (case c3=>exact fun n hn=>ndIn_up ⟨.tail _ (hns n hn).1, .tail _ (hns n hn).2.1, .tail _ (hns n hn).2.2⟩ (news_ne N (hns n hn).1 hd (fun e=>by cases e)) (news_neo N (hns n hn).2.1 hd (fun e=>by cases e)) (news_ne N (hns n hn).2.2 hd (fun e=>by injection e with e; exact absurd e (by decide))))
          (case b5=>ktr_room)
          (case b6=>ktr_units)
          (case b8=>exact X1)
          (case b7 =>
            intro g7 h7 tk7 led7 TT7 F7 N7 kp7 BB7 XX7 PP7 DD7
            clear F6 N6
            k_steps
            (rename_i kg kT kF kN kB kX₀ kP kD kX)
            rw [upL_cons_ne ndR.symm] at kp7
            subst hy
            exact ret R kg _ _ led7 kT kF kN (kp7 _ (.head _)) (fun p hp=>kp7 p (.tail _ hp)) (off1_mem o5) kB kX₀ kP kD))
        (case q4 =>
          intro k i ys hi9 hy hrest
          (refine' LCt.CompRestT.succ ?q5)
          intro v I oI C oC D2 m2 h tk E2 hv hC hxm F5 N5 off ne
          ((refine eE1 (fun nd=>?_) (tab_item htab hv); refine eA2 fun hnd hve=>?_))
          subst hve
          (refine eA3 (fun n1 n2 n3=>?_) (hns nd (List.mem_of_getElem? hnd)))
          clear FV NV hV F1
          (have hsn:ns.take (i + 1) = ns.take i ++ [nd]:=by rw [List.take_add_one, hnd]; rfl)
          k_steps
          all_goals (unfold Halt; rename Fr _ _ _ _=>F6; rename News _ _ _ _=>N6)
          · exact LCg.CompEnd.intro F6 N6 news (fun p hp=>hp) off hD (hrest _ (by rw [hsn, rdyN_snoc, if_pos (by assumption), hy]))
          · exact LCg.CompEnd.intro F6 N6 news (fun p hp=>hp) off hD (hrest _ (by rw [hsn, rdyN_snoc, if_neg (by assumption), hy]))))))
end
end
section
open PySem PySem.W PyProof.Rows PySem.Challenge PySem.Spec
theorem Sorter.exc {w:World} {N:Nat} {pre suc:Int→List Int} {led:List (Addr × Obj)} {S:Addr} {own:List Addr} {dn ou rk:List Int} {h₀ h:Heap} {L:Addr} {p:Addr × Obj} (Nw:News h₀ L h led) (hS:Sorter w N pre suc led S own dn ou rk) (hp:p ∈ led) (he:ExcO p.2):p.1 ∉ own:=by
  (revert hS; refine eE16 fun dS D R t1 t2 t3 t4 tp tf o kvs rv c ns x f=>?_; refine eA3 fun K G hR18=>?_; subst hR18)
  intro hm
  unfold ownS at hm
  rcases List.mem_cons.mp hm with e | hm
  · exact exc_ne Nw K.hs hp he (fun _ q=>by cases q) e
  rcases List.mem_cons.mp hm with e | hm
  · exact exc_ne Nw K.hD hp he (fun _ q=>by (refine eE2 (fun es ep=>?_) K.ho; refine eA3 fun a b c=>?_); rw [b] at q; cases q) e
  rcases List.mem_cons.mp hm with e | hm
  · exact exc_ne Nw K.hd hp he (fun _ q=>by cases q) e
  rcases List.mem_cons.mp hm with e | hm
  · exact exc_ne Nw K.hR hp he (fun _ q=>by cases q) e
  (refine eE1 (fun t=>?_) (List.mem_flatMap.mp hm); refine eA2 fun ht hm=>?_)
  (refine eE1 (fun n=>?_) (List.mem_map.mp ht); refine eA2 fun hn hR2=>?_; subst hR2)
  have z:=K.hn n hn
  rcases List.mem_cons.mp hm with e | hm
  · exact exc_ne Nw z.1 hp he (fun _ q=>by cases q) e
  rcases List.mem_cons.mp hm with e | hm
  · exact exc_ne Nw z.2.1 hp he (fun _ q=>by cases q) e
  · exact exc_ne Nw z.2.2 hp he (fun _ q=>by cases q) (List.mem_singleton.mp hm)
theorem Sorter.sm {w:World} {N:Nat} {pre suc:Int→List Int} {led:List (Addr × Obj)} {S:Addr} {own:List Addr} {dn ou rk:List Int} (hS:Sorter w N pre suc led S own dn ou rk):∃ dS t1 t2 t3 t4 D rv pv fv, (S, instObj 440 dS) ∈ led ∧ (dS, dictOf (tsD w t1 t2 t3 t4 D rv pv fv) 4) ∈ led:=by
  (revert hS; refine eE16 fun dS D R t1 t2 t3 t4 tp tf o kvs rv c ns x f=>?_; refine eA3 fun K G hR18=>?_; subst hR18)
  exact (iE9 _ _ _ _ _ _ _ _ _ ⟨K.hs, K.hd⟩)
theorem GInv.none {N:Nat} {pre:Int→List Int} {dn ou rk:List Int} (g:GInv N pre dn ou rk) (h:∀ k:Int, 0 ≤ k→k < N→k ∈ dn):ou = [] ∧ rk = []:=by
  refine ⟨List.eq_nil_iff_forall_not_mem.mpr fun x hx=>?_, List.eq_nil_iff_forall_not_mem.mpr fun x hx=>?_⟩
  · have z:=g.od x hx
    exact z.2.1 (h x z.1.1 z.1.2)
  · have z:=g.rd x hx
    exact z.2.1 (h x z.1.1 z.1.2)
theorem GInv.least {N:Nat} {pre suc:Int→List Int} {dn ou rk:List Int} {k:Int} (G:Gph N pre suc) (g:GInv N pre dn ou rk) (h0:0 ≤ k) (h1:k < N) (hk:k ∉ dn) (hl:∀ a, 0 ≤ a→a < k→a ∈ dn):k ∈ ou ++ rk:=by
  refine List.mem_append.mpr (g.all k h0 h1 hk ?_)
  unfold cntU
  rw [List.length_eq_zero_iff, List.filter_eq_nil_iff]
  intro a ha
  have:=G.lt k a ha
  simpa using hl a this.1 this.2
local macro_rules | `(tactic| walk_at $s)=>Tab.rules s "exec For Name Name cons nil|for|forV|Foxx?f|W"
theorem fin_tells {w:World} {H:Option Value} {dp un:Nat} {gd:Option (List Code)} {cn:Str} {cs:Scope} {a:Addr} {ccd:Value} {cl:List (Str × Addr)} {outer:List Env} {A₀:Around} {base h₀:Heap} {L:Addr} {m:Str→Option Value} {news:List (Addr × Obj)} {s:Shared}
    {mean:ExcName→Option Value} {mg mb:Str→Option Value} {N:Nat} {pre suc:Int→List Int} {S:Addr} {own:List Addr} {dn ou rk:List Int} {l:Addr} {vl:List Value} {c:Nat} {left:List Int} {Q E:Value→Shared→Prop}
    (B:Below A₀ base outer h₀) (F:Fr h₀ L s.heap m) (Nw:News h₀ L s.heap news) (T:Top q2 (looseW q2 loose2) mean mg mb h₀) (hk:cs.kind = .function) (hS:Sorter w N pre suc news S own dn ou rk) (HH:HandIn H news) (hl:(l, listOf vl.toArray c) ∈ news) (hlo:l ∉ own) (hi:IntsAre vl left) (hasc:left.Pairwise (· < ·)) (hmem:∀ k, k ∈ left ↔ (0 ≤ k ∧ k < (N:Int)) ∧ k ∉ dn) (hSm:∃ o, (S, o) ∈ news) (hdp:dp + 60 < recursionLimit) (hun:un + 600 < cLine)
    (ret:∀ h' tk' led', Fr h₀ L h' m→News h₀ L h' led'→(∀ q ∈ news, q.1 ∉ own→q ∈ led')→Q (.bool true) { s with heap:=h', toks:=tk' }) :
    (K2 w.params).In h₀→wpAny (model rw_mu0013_01.row.prog w) (ktrH H dp un gd cn cs L a ccd cl outer) (call (.ref 463) [.ref S, .ref l]) Q E s:=by
  unfold ktrH
  (refine eE1 (fun kh=>?_) HH.pick; refine eA2 fun HK hkn=>?_)
  w_on
  k_fill
  intro X
  obtain ⟨ck, cnm, cig, cic, cmo⟩:=cs
  change ck = _ at hk
  subst hk
  refine wpAny_call ?_
  w_strict (
    k_dflt k_enter
    (rename Fr _ _ _ _=>F00)
    (have F1:=fr_as F00 (fun y=>List.lookup y [(Str.ofString "left", .ref l), (Str.ofString "sorter", .ref S)]) (by with_unfolding_all rfl))
    clear F00
    (have hb:=Eq.refl (bodyOf (top 18)))
    (conv at hb=>rhs; whnf)
    rw [hb]
    clear hb
    (have mk:=kstMark)
    k_steps
    (unfold Halt)
    (rename Fr _ _ _ _=>F9)
    (rename News _ _ _ _=>N9)
    (refine' kg_listS (τ:=List Int × List Int) (vs:=vl) (nn:=c) [] (fun i c t=>Sorter w N pre suc c S own (dn ++ left.take i) t.1 t.2 ∧ ∀ q ∈ news, q.1 ∉ own→q ∈ c) (ou, rk) HK (fun i c t h p hp=>h.2 p (hkn p hp).1 (hS.exc Nw (hkn p hp).1 (hkn p hp).2)) hl F9 N9 ?hp ?turn ?done)
    (case hp=>exact ⟨by rw [List.take_zero, List.append_nil]; exact hS, fun q hq _=>hq⟩)
    (case turn =>
      (rintro i v c' hZ1; obtain ⟨o1, r1⟩:=hZ1; rintro u h8 tk8 I oI hv; (refine eA2 fun hS1 hK1=>?_); rintro hl1 hoff F8 N8)
      clear F9 N9
      dsimp only at hS1
      (have hlt:i < left.length:=by
        have:=(List.getElem?_eq_some_iff.mp hv).1
        rw [hi.length] at this
        exact this)
      (refine eE1 (fun tv ht=>?_) (hi.get i left[i] (by simp [hlt])))
      (obtain rfl:v = .int left[i] tv:=by
        rw [ht] at hv
        exact (Option.some.inj hv).symm)
      ((refine eE9 (fun dS1 t11 t12 t13 t14 D1 rv1 pv1 fv1=>?_) hS1.sm; refine eA2 fun hs1 hd1=>?_))
      (have hkc:∀ p ∈ kh, p ∈ c':=fun p hp=>hK1 p (hkn p hp).1 (hS.exc Nw (hkn p hp).1 (hkn p hp).2))
      (have hIo:I ∉ own:=fun hm=>by refine eE1 (fun o ho=>?_) (hS1.own_in I hm); exact hoff _ ho rfl)
      (have hmem1:=List.getElem_mem hlt)
      (have hj:left[i] ∈ o1 ++ r1:=by
        refine eA2 (fun G1 g1=>?_) hS1.inv
        have hr:=(hmem _).mp hmem1
        refine g1.least G1 hr.1.1 hr.1.2 (fun hm=>(List.mem_append.mp hm).elim hr.2 fun hm=>?_) fun a a0 a1=>?_
        · obtain ⟨j, hj, e⟩:=List.mem_iff_getElem.mp hm
          rw [List.getElem_take] at e
          rw [List.length_take] at hj
          have:=List.pairwise_iff_getElem.mp hasc j i (by lia) hlt (by lia)
          lia
        · by_cases hd:a ∈ dn
          · exact List.mem_append_left _ hd
          · refine List.mem_append_right _ ?_
            obtain ⟨j, hj, e⟩:=List.mem_iff_getElem.mp ((hmem a).mpr ⟨⟨a0, by lia⟩, hd⟩)
            have hji:j < i:=by
              rcases Nat.lt_trichotomy j i with h | h | h
              · exact h
              · subst h; lia
              · have:=List.pairwise_iff_getElem.mp hasc i j hlt hj h
                lia
            exact List.mem_take_iff_getElem.mpr ⟨j, by exact iteInduction (fun a=>hji) fun a=>hj, e⟩)
      (have hst:dn ++ left.take (i + 1) = dn ++ left.take i ++ [left[i]]:=by rw [List.take_add_one, List.getElem?_eq_getElem hlt, List.append_assoc]; rfl)
      (generalize left[i] = jj at *)
      k_steps
      (unfold Halt)
      (refine' rdyS (hS:=hS1.mono fun q hq _=>.tail _ hq) ?b1 F8 N8 ?b2 ?b3 ?HH ?b4 ?b5 ?b6 ?b7)
      (case b1=>k_asm)
      (case b2=>k_asm)
      (case b3=>exact rfl)
      (case HH=>exact HK.mono fun e ob hm _=>.tail _ (hkc _ hm))
      (case b4=>ktr_room)
      (case b5=>ktr_units)
      (case b7=>k_asm)
      (case b6 =>
        intro T2 vs2 h2 tk2 led2 F2 N2 hT2 hvs2 hS2 hK2 hlt2
        (clear N8 F8)
        ((refine eE9 (fun dS2 t21 t22 t23 t24 D2 rv2 pv2 fv2=>?_) hS2.sm; refine eA2 fun hs2 hd2=>?_))
        k_steps
        (unfold Halt)
        (refine' doneS (hS:=hS2) ?zb1 F2 N2 ?zb2 ?zb3 ?zHH hj ?zb4 ?zb5 ?zb6 ?zb7)
        (case zb1=>k_asm)
        (case zb2=>k_asm)
        (case zb3=>exact rfl)
        (case zHH=>exact HK.mono fun e ob hm _=>hK2 _ (.tail _ (hkc _ hm)) (hS.exc Nw (hkn _ hm).1 (hkn _ hm).2))
        (case zb4=>ktr_room)
        (case zb5=>ktr_units)
        (case zb7=>k_asm)
        (case zb6 =>
          intro h3 tk3 led3 rk3 F3 N3 hS3 hK3
          (clear N2 F2)
          k_steps
          (have hI3:=hK3 (I, oI) (hK2 (I, oI) (.head _) hIo) hIo)
          (rename Fr _ _ _ _=>F4)
          (rename News _ _ _ _=>N4)
          (have N5:=news_front N4 hI3)
          dsimp only [TsPost]
          (refine' ts_end (((o1 ++ r1).erase jj), rk3) F4 N5 (mem_filt (hK3 _ (hK2 _ (.tail _ hl1) hlo) hlo) (hoff _ hl1)) front_ne ?w5 ⟨?w6, fun q hq hno=>mem_filt (hK3 _ (hK2 _ (.tail _ (hK1 q hq hno)) hno) hno) (hoff _ (hK1 q hq hno))⟩)
          (case w5=>exact fun z z1 z3=>by rw [if_neg z1]; rfl)
          (case w6 =>
            rw [hst]
            exact hS3.mono fun q hq ho=>mem_filt hq fun e=>hIo (e ▸ ho)))))
    (case done =>
      (rintro c' hZ3; obtain ⟨o1, r1⟩:=hZ3; rintro u h8 tk8; (refine eA2 fun hS1 hK1=>?_); rintro hl1 F8 N8)
      clear F9 N9
      dsimp only at hS1
      rw [hi.length, List.take_length] at hS1
      (have hz:=hS1.inv.2.none fun k k0 k1=>by
        by_cases hd:k ∈ dn
        · exact List.mem_append_left _ hd
        · exact List.mem_append_right _ ((hmem k).mpr ⟨⟨k0, k1⟩, hd⟩))
      ((revert hz; refine eA2 fun hR0 hR1=>?_; subst hR0 hR1))
      ((refine eE9 (fun dS1 t11 t12 t13 t14 D1 rv1 pv1 fv1=>?_) hS1.sm; refine eA2 fun hs1 hd1=>?_))
      k_steps
      (unfold Halt)
      (refine' actS (hS:=hS1) ?b1 F8 N8 ?b2 ?b3 ?b4 ?b5 ?b6 ?b7)
      (case b1=>k_asm)
      (case b2=>k_asm)
      (case b3=>exact rfl)
      (case b4=>ktr_room)
      (case b5=>ktr_units)
      (case b7=>k_asm)
      (case b6 =>
        intro h2 tk2 F2 N2
        (clear N8 F8)
        k_steps
        exact ret _ _ _ (by assumption) (by assumption) hK1)))
end
end
section
open PySem PySem.W PyProof.Rows PySem.Challenge PySem.Spec
noncomputable def sucE (E:List (Int × Int)) (k:Int):List Int:=(E.filter fun p=>decide (p.1 = k)).map (·.2)
noncomputable def preE (E:List (Int × Int)) (k:Int):List Int:=(E.filter fun p=>decide (p.2 = k)).map (·.1)
theorem sucE_snoc {E:List (Int × Int)} {a b k:Int}:sucE (E ++ [(a, b)]) k = if a = k then sucE E k ++ [b] else sucE E k:=by
  unfold sucE
  rw [List.filter_append, List.map_append, List.filter_cons]
  by_cases h:a = k
  · rw [if_pos h, if_pos (by simpa using h)]; rfl
  · rw [if_neg h, if_neg (by simpa using h)]; simp
theorem preE_snoc {E:List (Int × Int)} {a b k:Int}:preE (E ++ [(a, b)]) k = if b = k then preE E k ++ [a] else preE E k:=by
  unfold preE
  rw [List.filter_append, List.map_append, List.filter_cons]
  by_cases h:b = k
  · rw [if_pos h, if_pos (by simpa using h)]; rfl
  · rw [if_neg h, if_neg (by simpa using h)]; simp
theorem mem_sucE {E:List (Int × Int)} {a b:Int}:b ∈ sucE E a ↔ (a, b) ∈ E:=by
  unfold sucE
  rw [List.mem_map]
  constructor
  · ((refine eE1 fun hP0=>?_; refine eA2 fun h hR2=>?_; subst hR2; obtain ⟨x, y⟩:=hP0))
    have:=List.mem_filter.mp h
    have e:=of_decide_eq_true this.2
    dsimp only at e
    exact e ▸ this.1
  · exact fun h=>⟨(a, b), List.mem_filter.mpr ⟨h, decide_eq_true rfl⟩, rfl⟩
theorem mem_preE {E:List (Int × Int)} {a b:Int}:a ∈ preE E b ↔ (a, b) ∈ E:=by
  unfold preE
  rw [List.mem_map]
  constructor
  · ((refine eE1 fun hP0=>?_; refine eA2 fun h hR2=>?_; subst hR2; obtain ⟨x, y⟩:=hP0))
    have:=List.mem_filter.mp h
    have e:=of_decide_eq_true this.2
    dsimp only at e
    exact e ▸ this.1
  · exact fun h=>⟨(a, b), List.mem_filter.mpr ⟨h, decide_eq_true rfl⟩, rfl⟩
theorem dualE {E:List (Int × Int)} {a b:Int}:(sucE E a).count b = (preE E b).count a:=by
  induction E with
  | nil=>rfl
  | cons p r ih =>
    unfold sucE preE at *
    rw [List.filter_cons, List.filter_cons]
    by_cases h1:p.1 = a <;> by_cases h2:p.2 = b
    · rw [if_pos (by simpa using h1), if_pos (by simpa using h2), List.map_cons, List.map_cons, List.count_cons, List.count_cons, ih]
      simp [h1, h2]
    · rw [if_pos (by simpa using h1), if_neg (by simpa using h2), List.map_cons, List.count_cons, ih]
      simp [h2]
    · rw [if_neg (by simpa using h1), if_pos (by simpa using h2), List.map_cons, List.count_cons, ih]
      simp [h1]
    · rw [if_neg (by simpa using h1), if_neg (by simpa using h2), ih]
noncomputable def suN (k:Int) (v:Value) (ns:List Nd):List Nd:=ns.map fun n=>if n.k = k then { n with vs:=n.vs ++ [v], c:=n.c + 1 } else n
structure SrtBK (w:World) (led n0:List (Addr × Obj)) (S dS D:Addr) (t1 t2 t3 t4 tp tf:Tok) (o:Obj) (kvs:List (Int × Value)) (ns:List Nd) (E:List (Int × Int)) (ks:Int→Prop):Prop where
  hs:(S, instObj 440 dS) ∈ led
  hd:(dS, dictOf (tsD w t1 t2 t3 t4 D .none (.int 0 tp) (.int 0 tf)) 4) ∈ led
  hD:(D, o) ∈ led
  ho:o.IsDictOf (intKind rw_mu0013_01.row.prog w) kvs
  hlo:(D == sysModules) = false
  hu:KU ns
  hn:∀ n ∈ ns, NdIn led n
  hl:∀ n ∈ ns, ∀ n' ∈ ns, n.l = n'.l→n = n'
  ht:Tab kvs ns
  hg:∀ n ∈ ns, n.np = (preE E n.k).length ∧ IntsAre n.vs (sucE E n.k)
  hk:∀ k, (∃ n ∈ ns, n.k = k) ↔ ks k
  h0:∀ q ∈ n0, q ∈ led
  hf:∀ q ∈ n0, q.1 ≠ S ∧ q.1 ≠ D ∧ q.1 ≠ dS ∧ ∀ n ∈ ns, q.1 ≠ n.x ∧ q.1 ≠ n.d ∧ q.1 ≠ n.l
noncomputable def SrtB (w:World) (led n0:List (Addr × Obj)) (S:Addr) (E:List (Int × Int)) (ks:Int→Prop):Prop :=
  ∃ (dS D:Addr) (t1 t2 t3 t4 tp tf:Tok) (o:Obj) (kvs:List (Int × Value)) (ns:List Nd), SrtBK w led n0 S dS D t1 t2 t3 t4 tp tf o kvs ns E ks
theorem SrtB.sm {w:World} {led n0:List (Addr × Obj)} {S:Addr} {E:List (Int × Int)} {ks:Int→Prop} (h:SrtB w led n0 S E ks):∃ dS t1 t2 t3 t4 D rv pv fv, (S, instObj 440 dS) ∈ led ∧ (dS, dictOf (tsD w t1 t2 t3 t4 D rv pv fv) 4) ∈ led:=by
  (revert h; refine eE11 fun dS D t1 t2 t3 t4 tp tf o kvs ns K=>?_)
  exact (iE9 _ _ _ _ _ _ _ _ _ ⟨K.hs, K.hd⟩)
theorem SrtB.beside {w:World} {led n0:List (Addr × Obj)} {S:Addr} {E:List (Int × Int)} {ks:Int→Prop} {p:Addr × Obj} (h:SrtB w led n0 S E ks) (hp:∀ q ∈ led, q.1 ≠ p.1):SrtB w (p :: led) (p :: n0) S E ks:=by
  (revert h; refine eE11 fun dS D t1 t2 t3 t4 tp tf o kvs ns K=>?_)
  refine (iE11 dS D t1 t2 t3 t4 tp tf o kvs ns ⟨.tail _ K.hs, .tail _ K.hd, .tail _ K.hD, K.ho, K.hlo, K.hu, fun n hn=>⟨.tail _ (K.hn n hn).1, .tail _ (K.hn n hn).2.1, .tail _ (K.hn n hn).2.2⟩, K.hl, K.ht, K.hg, K.hk, fun q hq=>?_, fun q hq=>?_⟩)
  · rcases List.mem_cons.mp hq with rfl | hq
    · exact .head _
    · exact .tail _ (K.h0 q hq)
  · rcases List.mem_cons.mp hq with rfl | hq
    · exact ⟨fun e=>hp _ K.hs e.symm, fun e=>hp _ K.hD e.symm, fun e=>hp _ K.hd e.symm, fun n hn=>⟨fun e=>hp _ (K.hn n hn).1 e.symm, fun e=>hp _ (K.hn n hn).2.1 e.symm, fun e=>hp _ (K.hn n hn).2.2 e.symm⟩⟩
    · exact K.hf q hq
theorem SrtB.without {w:World} {led n0:List (Addr × Obj)} {S:Addr} {E:List (Int × Int)} {ks:Int→Prop} {p:Addr × Obj} (h:SrtB w led (p :: n0) S E ks) (hp:∀ q ∈ n0, q.1 ≠ p.1):SrtB w (led.filter fun q=>decide (q.1 ≠ p.1)) n0 S E ks:=by
  (revert h; refine eE11 fun dS D t1 t2 t3 t4 tp tf o kvs ns K=>?_)
  refine eA4 (fun a b c d=>?_) (K.hf p (.head _))
  exact (iE11 dS D t1 t2 t3 t4 tp tf o kvs ns ⟨mem_filt K.hs (Ne.symm a), mem_filt K.hd (Ne.symm c), mem_filt K.hD (Ne.symm b), K.ho, K.hlo, K.hu, fun n hn=>⟨mem_filt (K.hn n hn).1 (Ne.symm (d n hn).1), mem_filt (K.hn n hn).2.1 (Ne.symm (d n hn).2.1), mem_filt (K.hn n hn).2.2 (Ne.symm (d n hn).2.2)⟩, K.hl, K.ht, K.hg, K.hk, fun q hq=>mem_filt (K.h0 q (.tail _ hq)) (hp q hq), fun q hq=>K.hf q (.tail _ hq)⟩)
theorem SrtB.congr {w:World} {led n0:List (Addr × Obj)} {S:Addr} {E:List (Int × Int)} {ks ks':Int→Prop} (h:SrtB w led n0 S E ks) (e:∀ k, ks k ↔ ks' k):SrtB w led n0 S E ks':=by
  (revert h; refine eE11 fun dS D t1 t2 t3 t4 tp tf o kvs ns K=>?_)
  exact (iE11 dS D t1 t2 t3 t4 tp tf o kvs ns ({ K with hk:=fun k=>(K.hk k).trans (e k) }))
theorem stored_new {kvs:List (Int × Value)} {k:Int} {v:Value} (h:∀ p ∈ kvs, p.1 ≠ k):stored kvs k v = kvs ++ [(k, v)]:=by
  unfold stored
  rw [if_neg]
  intro e
  (refine eE1 (fun p=>?_) (List.any_eq_true.mp e); refine eA2 fun hp e=>?_)
  exact h p hp (of_decide_eq_true e)
theorem dict_row {prog:Program} {w:World} {o:Obj} {kvs:List (Int × Value)} (h:o.IsDictOf (intKind prog w) kvs) (hk:kvs ≠ []):o ≠ dictOf [] 0:=fun e=>by
  (revert h; refine eE2 fun es ep=>?_; refine eA5 fun a b c d f=>?_)
  rw [e] at b
  have q:(Data.dict #[] 0:Data) = .dict es ep:=b
  injection q with q1 q2
  have:=d.length
  rw [← q1] at this
  exact hk (List.eq_nil_of_length_eq_zero this.symm)
section
variable {w:World} {dp un:Nat} {gd:Option (List Code)} {cn:Str} {cs:Scope} {a:Addr} {ccd:Value} {cl:List (Str × Addr)} {outer:List Env} {A₀:Around} {base h₀:Heap} {L:Addr} {m:Str→Option Value} {news n0:List (Addr × Obj)} {s:Shared}
    {mean:ExcName→Option Value} {mg mb:Str→Option Value} {S:Addr} {Eg:List (Int × Int)} {ks:Int→Prop} {k p:Int} {t u:Tok} {Q E:Value→Shared→Prop}
theorem makeB (B:Below A₀ base outer h₀) (F:Fr h₀ L s.heap m) (Nw:News h₀ L s.heap news) (T:Top q2 (looseW q2 loose2) mean mg mb h₀) (hk:cs.kind = .function) (hd:dp + 30 < recursionLimit) (hu:un + 300 < cLine)
    (ret:∀ S h' tk' led', Fr h₀ L h' m→News h₀ L h' led'→SrtB w led' news S [] (fun _=>False)→Q (.ref S) { s with heap:=h', toks:=tk' }) :
    (K2 w.params).In h₀→wpAny (model rw_mu0013_01.row.prog w) (ktrTop dp un gd cn cs L a ccd cl outer) (call (.ref 440) []) Q E s:=by
  intro X
  refine ts_make B F Nw T hk hd hu (fun S dS D o t1 t2 t3 t4 t5 t6 h' tk' F' N' l1 l2 l3 lo ho=>ret S h' tk' _ F' N' (iE11 dS D t1 t2 t3 t4 t5 t6 o ([]) ([]) ⟨.tail _ (.head _), .tail _ (.tail _ (.head _)), .head _, ho, lo, List.nodup_nil, List.forall_mem_nil _, (List.forall_mem_nil _), rfl, List.forall_mem_nil _, fun k=>⟨fun ⟨n, hn, _⟩=>(nomatch hn), False.elim⟩, fun q hq=>.tail _ (.tail _ (.tail _ hq)), fun q hq=>?_⟩)) X
  have z:=l1 q hq
  exact ⟨Nat.ne_of_lt (Nat.lt_trans z l2), Nat.ne_of_lt (Nat.lt_trans z (Nat.lt_trans l2 l3)), Nat.ne_of_lt z, List.forall_mem_nil _⟩
theorem Tab.len {kvs:List (Int × Value)} {ns:List Nd} (h:Tab kvs ns):kvs.length = ns.length:=by unfold Tab at h; rw [h, List.length_map]
theorem npN_l {k np:Int} {tp:Tok} {ns:List Nd} (hl:∀ n ∈ ns, ∀ n' ∈ ns, n.l = n'.l→n = n'):∀ n ∈ npN k np tp ns, ∀ n' ∈ npN k np tp ns, n.l = n'.l→n = n':=by
  intro n hn n' hn' e
  (refine eE1 (fun a=>?_) (List.mem_map.mp hn); refine eA2 fun ha hR2=>?_; subst hR2)
  (refine eE1 (fun b=>?_) (List.mem_map.mp hn'); refine eA2 fun hb hR2=>?_; subst hR2)
  have hx:∀ c:Nd, (if c.k = k then { c with np:=np, tp:=tp } else c:Nd).l = c.l:=fun c=>by split <;> rfl
  rw [hx, hx] at e
  rw [hl a ha b hb e]
theorem addB1 (B:Below A₀ base outer h₀) (F:Fr h₀ L s.heap m) (Nw:News h₀ L s.heap news) (T:Top q2 (looseW q2 loose2) mean mg mb h₀) (hk:cs.kind = .function) (hB:SrtB w news n0 S Eg ks) (hnew:¬ ks k→sucE Eg k = [] ∧ preE Eg k = []) (hlen:∀ l:List Int, l.Nodup→(∀ x ∈ l, ks x)→l.length ≤ 900) (hdp:dp + 100 < recursionLimit) (hu:un + 1400 < cLine)
    (ret:∀ h' tk' led', Fr h₀ L h' m→News h₀ L h' led'→SrtB w led' n0 S Eg (fun x=>ks x ∨ x = k)→Q .none { s with heap:=h', toks:=tk' }) :
    (K2 w.params).In h₀→wpAny (model rw_mu0013_01.row.prog w) (ktrTop dp un gd cn cs L a ccd cl outer) (call (.ref 390) [.ref S, .int k t]) Q E s:=by
  intro X
  (revert hB; refine eE11 fun dS D t1 t2 t3 t4 tp tf o kvs ns K=>?_)
  by_cases hks:ks k
  · (refine eE1 (fun nd=>?_) ((K.hk k).mpr hks); refine eA2 fun hnd hR2=>?_; subst hR2)
    have z:=K.hn nd hnd
    refine add1_old (x:=nd.x) (d:=nd.d) (np:=nd.np) (tk:=nd.tk) (tp:=nd.tp) (l:=nd.l) B F Nw T hk K.hs K.hd K.hD K.ho K.hlo (tab_at K.ht K.hu hnd) z.1 z.2.1 (by lia) (by lia) (fun t' h' tk' F' N'=>ret h' tk' _ F' N' (iE11 dS D t1 t2 t3 t4 tp tf o kvs (npN nd.k (nd.np + 0) t' ns) ⟨?_, ?_, ?_, K.ho, K.hlo, K.hu.np, npN_in Nw K.hn K.hu.inj hnd, npN_l K.hl, tab_np K.ht, fun n hn=>?_, fun k=>?_, fun q hq=>?_, fun q hq=>?_⟩)) X
    · exact mem_upL_ne K.hs (news_ne Nw K.hs z.1 (fun e=>by cases e))
    · exact mem_upL_ne K.hd (news_ne Nw K.hd z.1 (fun e=>by cases e))
    · exact mem_upL_ne K.hD (news_ne Nw K.hD z.1 (fun e=>by (refine eE2 (fun es ep=>?_) K.ho; refine eA2 fun hP2 _=>?_; obtain ⟨hc, _⟩:=hP2); exact Value.noConfusion (hc.symm.trans e)))
    · (refine eE1 (fun n1=>?_) (List.mem_map.mp hn); refine eA2 fun h1 hR2=>?_; subst hR2)
      by_cases e:n1.k = nd.k
      · have:=K.hu.inj _ h1 _ hnd e
        subst this
        rw [if_pos rfl]
        have g:=K.hg _ h1
        exact ⟨by show n1.np + 0 = _; rw [Int.add_zero]; exact g.1, g.2⟩
      · rw [if_neg e]
        exact K.hg n1 h1
    · rw [show (∃ n ∈ npN nd.k (nd.np + 0) t' ns, n.k = k) ↔ k ∈ (npN nd.k (nd.np + 0) t' ns).map (·.k) from List.mem_map.symm, npN_k, List.mem_map]
      refine (K.hk k).trans ⟨.inl, fun h=>h.elim id fun e=>e ▸ hks⟩
    · exact mem_upL_ne (K.h0 q hq) ((K.hf q hq).2.2.2 nd hnd).1
    · refine eA4 (fun a b c d=>?_) (K.hf q hq)
      refine ⟨a, b, c, fun n hn=>?_⟩
      (refine eE1 (fun n1=>?_) (npN_src hn); refine eA5 fun h1 ex ed el hC5=>?_; clear hC5)
      rw [← ex, ← ed, ← el]
      exact d n1 h1
  · have hno:∀ n ∈ ns, n.k ≠ k:=fun n hn e=>hks ((K.hk k).mp ⟨n, hn, e⟩)
    have hz:kvs.length ≤ 900:=by
      rw [K.ht.len, ← List.length_map (·.k)]
      exact hlen _ K.hu fun x hx=>by
        (refine eE1 (fun n=>?_) (List.mem_map.mp hx); refine eA2 fun hn e=>?_)
        exact (K.hk x).mp ⟨n, hn, e⟩
    refine eA2 (fun e1 e2=>?_) (hnew hks)
    refine add1_new B F Nw T hk K.hs K.hd K.hD K.ho K.hlo (tab_none K.ht hno) (by lia) hdp hu (fun x d l t2' t' o' h' tk' F' N' l1 l2 l3 ho'=>ret h' tk' _ F' N' (iE11 dS D t1 t2 t3 t4 tp tf o' _ (ns ++ [⟨k, 0 + 0, t2', t', x, d, l, [], 0⟩]) ⟨?_, ?_, ?_, ho', K.hlo, ?_, fun n hn=>?_, fun n hn n' hn' e=>?_, ?_, fun n hn=>?_, fun y=>?_, fun q hq=>?_, fun q hq=>?_⟩)) X
    · exact .tail _ (.tail _ (.tail _ (mem_upL_ne K.hs (news_ne Nw K.hs K.hD (fun e=>by (refine eE2 (fun es ep=>?_) K.ho; refine eA2 fun hP2 _=>?_; obtain ⟨hc, _⟩:=hP2); exact Value.noConfusion (e.trans hc))))))
    · exact .tail _ (.tail _ (.tail _ (mem_upL_ne K.hd (fun e=>news_neo Nw K.hD K.hd (fun q=>tsd_not K.ho q) e.symm))))
    · exact .tail _ (.tail _ (.tail _ (mem_upL_self K.hD)))
    · unfold KU
      rw [List.map_append, List.nodup_append]
      refine ⟨K.hu, nodup1, fun a ha b hb e=>?_⟩
      (refine eE1 (fun n=>?_) (List.mem_map.mp ha); refine eA2 fun hn hR2=>?_; subst hR2)
      exact hno n hn (e.trans (List.mem_singleton.mp hb))
    · rcases List.mem_append.mp hn with hn | hn
      · have z:=K.hn n hn
        have y1:=news_ne Nw z.1 K.hD (fun e=>by (refine eE2 (fun es ep=>?_) K.ho; refine eA2 fun hP2 _=>?_; obtain ⟨hc, _⟩:=hP2); exact Value.noConfusion (e.trans hc))
        have y2:n.d ≠ D:=fun e=>dict_row K.ho (fun e=>by have:=K.ht.len; rw [e] at this; exact absurd (List.length_pos_of_mem hn) (by rw [← this]; exact Nat.lt_irrefl _)) (News.one Nw (e ▸ z.2.1:(D, dictOf [] 0) ∈ news) K.hD).symm
        have y3:=news_ne Nw z.2.2 K.hD (fun e=>by (refine eE2 (fun es ep=>?_) K.ho; refine eA2 fun hP2 _=>?_; obtain ⟨hc, _⟩:=hP2); have:=e.trans hc; injection this with e; exact absurd e (by decide))
        exact ⟨.tail _ (.tail _ (.tail _ (mem_upL_ne z.1 y1))), .tail _ (.tail _ (.tail _ (mem_upL_ne z.2.1 y2))), .tail _ (.tail _ (.tail _ (mem_upL_ne z.2.2 y3)))⟩
      · rw [List.mem_singleton.mp hn]
        exact ⟨.tail _ (.head _), .tail _ (.tail _ (.head _)), .head _⟩
    · have hlt:∀ n ∈ ns, n.l ≠ l:=fun n hn=>Nat.ne_of_lt (Nat.lt_trans (l1 _ (K.hn n hn).2.2) (Nat.lt_trans l2 l3))
      rcases List.mem_append.mp hn with hn | hn <;> rcases List.mem_append.mp hn' with hn' | hn'
      · exact K.hl n hn n' hn' e
      · rw [List.mem_singleton.mp hn'] at e
        exact absurd e (hlt n hn)
      · rw [List.mem_singleton.mp hn] at e
        exact absurd e.symm (hlt n' hn')
      · rw [List.mem_singleton.mp hn, List.mem_singleton.mp hn']
    · unfold Tab
      rw [stored_new (fun p hp=>?_), K.ht, List.map_append]
      · rfl
      · rw [K.ht] at hp
        (refine eE1 (fun n=>?_) (List.mem_map.mp hp); refine eA2 fun hn hR2=>?_; subst hR2)
        exact hno n hn
    · rcases List.mem_append.mp hn with hn | hn
      · exact K.hg n hn
      · rw [List.mem_singleton.mp hn]
        dsimp only
        rw [e1, e2]
        exact ⟨rfl, .nil⟩
    · constructor
      · ((refine eE1 fun n=>?_; refine eA2 fun hn hR2=>?_; subst hR2))
        rcases List.mem_append.mp hn with hn | hn
        · exact .inl ((K.hk _).mp ⟨n, hn, rfl⟩)
        · rw [List.mem_singleton.mp hn]
          exact .inr rfl
      · rintro (h | rfl)
        · (refine eE1 (fun n=>?_) ((K.hk y).mpr h); refine eA2 fun hn e=>?_)
          exact ⟨n, List.mem_append_left _ hn, e⟩
        · exact ⟨_, List.mem_append_right _ (.head _), rfl⟩
    · exact .tail _ (.tail _ (.tail _ (mem_upL_ne (K.h0 q hq) (K.hf q hq).2.1)))
    · refine eA4 (fun a b c dd=>?_) (K.hf q hq)
      refine ⟨a, b, c, fun n hn=>?_⟩
      rcases List.mem_append.mp hn with hn | hn
      · exact dd n hn
      · rw [List.mem_singleton.mp hn]
        have z:=l1 q (K.h0 q hq)
        exact ⟨Nat.ne_of_lt (Nat.lt_trans z l2), Nat.ne_of_lt z, Nat.ne_of_lt (Nat.lt_trans z (Nat.lt_trans l2 l3))⟩
theorem suN_k {p:Int} {v:Value} {ns:List Nd}:(suN p v ns).map (·.k) = ns.map (·.k):=by
  unfold suN
  rw [List.map_map]
  refine List.map_congr_left fun n _=>?_
  show (if n.k = p then _ else n:Nd).k = n.k
  split <;> rfl
theorem len_sucE {E:List (Int × Int)} {k:Int}:(sucE E k).length ≤ E.length:=by
  unfold sucE
  rw [List.length_map]
  exact List.length_filter_le _ _
theorem addB2 (B:Below A₀ base outer h₀) (F:Fr h₀ L s.heap m) (Nw:News h₀ L s.heap news) (T:Top q2 (looseW q2 loose2) mean mg mb h₀) (hk:cs.kind = .function) (hB:SrtB w news n0 S Eg ks) (hkk:ks k) (hkp:ks p) (hne:p ≠ k) (hE:Eg.length ≤ 900) (hdp:dp + 100 < recursionLimit) (hu:un + 1400 < cLine)
    (ret:∀ h' tk' led', Fr h₀ L h' m→News h₀ L h' led'→SrtB w led' n0 S (Eg ++ [(p, k)]) ks→Q .none { s with heap:=h', toks:=tk' }) :
    (K2 w.params).In h₀→wpAny (model rw_mu0013_01.row.prog w) (ktrTop dp un gd cn cs L a ccd cl outer) (call (.ref 390) [.ref S, .int k t, .int p u]) Q E s:=by
  intro X
  (revert hB; refine eE11 fun dS D t1 t2 t3 t4 tp tf o kvs ns K=>?_)
  (refine eE1 (fun x=>?_) ((K.hk k).mpr hkk); refine eA2 fun hx hR2=>?_; subst hR2)
  (refine eE1 (fun y=>?_) ((K.hk p).mpr hkp); refine eA2 fun hy hR2=>?_; subst hR2)
  have zx:=K.hn x hx
  have zy:=K.hn y hy
  have gx:=K.hg x hx
  have gy:=K.hg y hy
  have hxy:y.x ≠ x.x:=fun e=>hne (ndx_inj Nw zy zx e)
  have hsz:y.vs.length ≤ 1000:=by
    rw [gy.2.length]
    exact Nat.le_trans (Nat.le_trans len_sucE hE) (by decide)
  have cD:o.cls = .type "dict":=by (refine eE2 (fun es ep=>?_) K.ho; refine eA2 fun hP2 _=>?_; obtain ⟨hc, _⟩:=hP2); exact hc
  have nxl:∀ n ∈ ns, ∀ n' ∈ ns, n.x ≠ n'.l:=fun n hn n' hn'=>news_ne Nw (K.hn n hn).1 (K.hn n' hn').2.2 (fun e=>by cases e)
  have ndx:∀ n ∈ ns, ∀ n' ∈ ns, n.d ≠ n'.x:=fun n hn n' hn'=>news_ne Nw (K.hn n hn).2.1 (K.hn n' hn').1 (fun e=>by cases e)
  have ndl:∀ n ∈ ns, ∀ n' ∈ ns, n.d ≠ n'.l:=fun n hn n' hn'=>news_ne Nw (K.hn n hn).2.1 (K.hn n' hn').2.2 (fun e=>by injection e with e; exact absurd e (by decide))
  refine add2 (x:=x.x) (d:=x.d) (np:=x.np) (tk:=x.tk) (tp:=x.tp) (l:=x.l) (y:=y.x) (dy:=y.d) (ly:=y.l) (vs:=y.vs) (c:=y.c) B F Nw T hk K.hs K.hd K.hD K.ho K.hlo (tab_at K.ht K.hu hx) (tab_at K.ht K.hu hy) zx.1 zx.2.1 zy.1 zy.2.1 zy.2.2 hxy hsz hdp hu (fun t' h' tk' F' N'=>ret h' tk' _ F' N' (iE11 dS D t1 t2 t3 t4 tp tf o kvs (suN y.k (.int x.k t) (npN x.k (x.np + 1) t' ns)) ⟨?_, ?_, ?_, K.ho, K.hlo, ?_, fun n hn=>?_, fun n hn n' hn' e=>?_, ?_, fun n hn=>?_, fun k=>?_, fun q hq=>?_, fun q hq=>?_⟩)) X
  · exact mem_upL_ne (mem_upL_ne K.hs (news_ne Nw K.hs zx.1 (fun e=>by cases e))) (news_ne Nw K.hs zy.2.2 (fun e=>by cases e))
  · exact mem_upL_ne (mem_upL_ne K.hd (news_ne Nw K.hd zx.1 (fun e=>by cases e))) (news_ne Nw K.hd zy.2.2 (fun e=>by injection e with e; exact absurd e (by decide)))
  · exact mem_upL_ne (mem_upL_ne K.hD (news_ne Nw K.hD zx.1 (fun e=>Value.noConfusion (cD.symm.trans e)))) (news_ne Nw K.hD zy.2.2 (fun e=>by have:=cD.symm.trans e; injection this with e; exact absurd e (by decide)))
  · unfold KU
    rw [suN_k]
    exact K.hu.np
  · (refine eE1 (fun n1=>?_) (List.mem_map.mp hn); refine eA2 fun hn1 hR2=>?_; subst hR2)
    (refine eE1 (fun n2=>?_) (List.mem_map.mp hn1); refine eA2 fun hn2 hR2=>?_; subst hR2)
    have z:=K.hn n2 hn2
    by_cases e1:n2.k = x.k
    · have:=K.hu.inj _ hn2 _ hx e1
      subst this
      rw [if_pos rfl]
      dsimp only
      rw [if_neg (fun e=>hne e.symm)]
      exact ⟨mem_upL_ne (mem_upL_self z.1) (nxl _ hx _ hy), mem_upL_ne (mem_upL_ne z.2.1 (ndx _ hx _ hx)) (ndl _ hx _ hy), mem_upL_ne (mem_upL_ne z.2.2 (Ne.symm (nxl _ hx _ hx))) (fun e=>hne (congrArg (·.k) (K.hl _ hx _ hy e)).symm)⟩
    · rw [if_neg e1]
      have hx2:n2.x ≠ x.x:=fun e=>e1 (ndx_inj Nw z zx e)
      by_cases e2:n2.k = y.k
      · have:=K.hu.inj _ hn2 _ hy e2
        subst this
        rw [if_pos rfl]
        refine ⟨mem_upL_ne (mem_upL_ne z.1 hx2) (nxl _ hy _ hy), mem_upL_ne (mem_upL_ne z.2.1 (ndx _ hy _ hx)) (ndl _ hy _ hy), ?_⟩
        have:=mem_upL_self (o:=listOf (n2.vs.toArray.push (.int x.k t)) (n2.c + 1)) (mem_upL_ne (o:=nodeO x.d (.int x.k x.tk) (.int (x.np + 1) t') (.ref x.l)) z.2.2 (Ne.symm (nxl _ hx _ hy)))
        rw [List.push_toArray] at this ⊢
        exact this
      · rw [if_neg e2]
        exact ⟨mem_upL_ne (mem_upL_ne z.1 hx2) (nxl _ hn2 _ hy), mem_upL_ne (mem_upL_ne z.2.1 (ndx _ hn2 _ hx)) (ndl _ hn2 _ hy), mem_upL_ne (mem_upL_ne z.2.2 (Ne.symm (nxl _ hx _ hn2))) (fun e=>e2 (congrArg (·.k) (K.hl _ hn2 _ hy e)))⟩
  · (refine eE1 (fun n1=>?_) (List.mem_map.mp hn); refine eA2 fun hn1 hR2=>?_; subst hR2)
    (refine eE1 (fun n2=>?_) (List.mem_map.mp hn'); refine eA2 fun hn2 hR2=>?_; subst hR2)
    have hx:∀ c:Nd, (if c.k = y.k then { c with vs:=c.vs ++ [.int x.k t], c:=c.c + 1 } else c:Nd).l = c.l:=fun c=>by split <;> rfl
    rw [hx, hx] at e
    rw [npN_l K.hl n1 hn1 n2 hn2 e]
  · have:=tab_np (k:=x.k) (np:=x.np + 1) (tp:=t') K.ht
    unfold Tab at *
    rw [this]
    unfold suN
    rw [List.map_map]
    refine List.map_congr_left fun n _=>?_
    show _ = ((if n.k = y.k then _ else n:Nd).k, Value.ref (if n.k = y.k then _ else n:Nd).x)
    by_cases e:n.k = y.k
    · rw [if_pos e]
    · rw [if_neg e]
  · (refine eE1 (fun n1=>?_) (List.mem_map.mp hn); refine eA2 fun hn1 hR2=>?_; subst hR2)
    (refine eE1 (fun n2=>?_) (List.mem_map.mp hn1); refine eA2 fun hn2 hR2=>?_; subst hR2)
    have g:=K.hg n2 hn2
    rw [preE_snoc, sucE_snoc]
    by_cases e1:n2.k = x.k
    · have:=K.hu.inj _ hn2 _ hx e1
      subst this
      rw [if_pos rfl]
      dsimp only
      rw [if_neg (fun e=>hne e.symm), if_pos rfl, if_neg hne]
      refine ⟨?_, g.2⟩
      dsimp only
      rw [g.1, List.length_append]
      rfl
    · rw [if_neg e1]
      by_cases e2:n2.k = y.k
      · rw [if_pos e2]
        dsimp only
        rw [if_neg (fun e=>e1 e.symm), if_pos e2.symm]
        exact ⟨g.1, ints_snoc g.2⟩
      · rw [if_neg e2, if_neg (fun e=>e1 e.symm), if_neg (fun e=>e2 e.symm)]
        exact g
  · rw [show (∃ n ∈ suN y.k (.int x.k t) (npN x.k (x.np + 1) t' ns), n.k = k) ↔ k ∈ (suN y.k (.int x.k t) (npN x.k (x.np + 1) t' ns)).map (·.k) from List.mem_map.symm, suN_k, npN_k, List.mem_map]
    exact K.hk k
  · exact mem_upL_ne (mem_upL_ne (K.h0 q hq) ((K.hf q hq).2.2.2 x hx).1) ((K.hf q hq).2.2.2 y hy).2.2
  · refine eA4 (fun a b c d=>?_) (K.hf q hq)
    refine ⟨a, b, c, fun n hn=>?_⟩
    (refine eE1 (fun n1=>?_) (List.mem_map.mp hn); refine eA2 fun hn1 hR2=>?_; subst hR2)
    (refine eE1 (fun n2=>?_) (npN_src hn1); refine eA5 fun h2 ex ed el hC5=>?_; clear hC5)
    have hh:∀ c:Nd, (if c.k = y.k then { c with vs:=c.vs ++ [.int x.k t], c:=c.c + 1 } else c:Nd).x = c.x ∧ (if c.k = y.k then { c with vs:=c.vs ++ [.int x.k t], c:=c.c + 1 } else c:Nd).d = c.d ∧ (if c.k = y.k then { c with vs:=c.vs ++ [.int x.k t], c:=c.c + 1 } else c:Nd).l = c.l:=fun c=>by split <;> exact ⟨rfl, rfl, rfl⟩
    rw [(hh n1).1, (hh n1).2.1, (hh n1).2.2, ← ex, ← ed, ← el]
    exact d n2 h2
theorem filter_true {l:List Int}:l.filter (fun a=>decide (a ∉ ([]:List Int))) = l:=by
  rw [List.filter_eq_self]
  intro a _
  simp
end
theorem prepB {w:World} {dp un:Nat} {gd:Option (List Code)} {cn:Str} {cs:Scope} {a:Addr} {ccd:Value} {cl:List (Str × Addr)} {outer:List Env} {A₀:Around} {base h₀:Heap} {L:Addr} {m:Str→Option Value} {news n0:List (Addr × Obj)} {s:Shared}
    {mean:ExcName→Option Value} {mg mb:Str→Option Value} {N:Nat} {S:Addr} {Eg:List (Int × Int)} {Q E:Value→Shared→Prop}
    (B:Below A₀ base outer h₀) (F:Fr h₀ L s.heap m) (Nw:News h₀ L s.heap news) (T:Top q2 (looseW q2 loose2) mean mg mb h₀) (XB:(K2 w.params).In base) (TB:Top q2 (looseW q2 loose2) mean mg mb base) (DD:KtsDicts (outer.filterMap (·.frame)) h₀) (hk:cs.kind = .function)
    (hB:SrtB w news n0 S Eg (fun k=>0 ≤ k ∧ k < N)) (hE:∀ a b, (a, b) ∈ Eg→0 ≤ a ∧ a < b ∧ b < N) (h2:∀ a, (sucE Eg a).length ≤ 2) (hN:N ≤ 900) (hdp:dp + 60 < recursionLimit) (hun:un + 600 < cLine)
    (ret:∀ own rk g' h' tk' led', KtsTurn (outer.filterMap (·.frame)) h₀ g'→Fr g' L h' m→News g' L h' led'→Sorter w N (preE Eg) (sucE Eg) led' S own [] [] rk→(∀ q ∈ n0, q ∈ led' ∧ q.1 ∉ own)→Below A₀ base outer g'→(K2 w.params).In g'→Top q2 (looseW q2 loose2) mean mg mb g'→KtsDicts (outer.filterMap (·.frame)) g'→Q .none { s with heap:=h', toks:=tk' }) :
    (K2 w.params).In h₀→wpAny (model rw_mu0013_01.row.prog w) (ktrTop dp un gd cn cs L a ccd cl outer) (call (.ref 395) [.ref S]) Q E s:=by
  intro X
  (revert hB; refine eE11 fun dS D t1 t2 t3 t4 tp tf o kvs ns K=>?_)
  have hG:Gph N (preE Eg) (sucE Eg):=⟨fun k a h=>by have:=hE _ _ (mem_preE.mp h); lia, fun a b=>dualE, fun a b h=>(hE _ _ (mem_sucE.mp h)).2.2⟩
  have hlen:ns.length ≤ N:=by
    have:=nodup_len (m:=upto N) K.hu fun x hx=>by
      (refine eE1 (fun n=>?_) (List.mem_map.mp hx); refine eA2 fun hn e=>?_)
      exact mem_upto.mpr ((K.hk x).mp ⟨n, hn, e⟩)
    rwa [len_upto, List.length_map] at this
  refine prep_tells (ns:=ns) B F Nw T XB TB DD hk K.hs K.hd K.hD K.ho K.hlo K.hu K.hn K.ht (by exact Nat.le_trans hlen hN) (fun n hn=>⟨_, (K.hg n hn).2, fun x hx=>by
    have:=hE _ _ (mem_sucE.mp hx)
    exact ⟨this.2.1, (K.hk x).mpr ⟨by lia, this.2.2⟩⟩⟩) hdp hun ?_ X
  intro R g' h' tk' led' TT F' N' hR hkeep hRn B' X' T' D'
  have hRl:∀ n ∈ ns, n.l ≠ R:=fun n hn=>hRn _ (K.hn n hn).2.2
  have hin:∀ q ∈ news, q.1 ≠ dS→q ∈ led':=fun q hq hne=>hkeep q (mem_upL_ne hq hne)
  have dxs:∀ n ∈ ns, n.x ≠ dS ∧ n.d ≠ dS ∧ n.l ≠ dS:=fun n hn=>⟨news_ne Nw (K.hn n hn).1 K.hd (fun e=>by cases e), fun e=>news_neo Nw (K.hn n hn).2.1 K.hd (fun e=>by cases e) e, news_ne Nw (K.hn n hn).2.2 K.hd (fun e=>by injection e with e; exact absurd e (by decide))⟩
  have hk0:∀ k, cntU (preE Eg) [] k = (preE Eg k).length:=fun k=>by unfold cntU; rw [filter_true]
  refine ret (ownS S dS D R ns) ((ns.filter fun n=>decide (n.np = 0)).map (·.k)) g' h' tk' led' TT F' N' (iE16 dS D R t1 t2 t3 t4 tp tf o kvs _ _ ns 0 0 ⟨⟨?_, hkeep _ (mem_upL_self K.hd), ?_, K.ho, K.hlo, hR, ?_, K.hu, fun n hn=>?_, hRl, K.ht⟩, ⟨rfl, rfl, fun n hn=>?_, K.hk, hG, ⟨List.nodup_nil, List.nodup_nil, ?_, fun k hk=>(nomatch hk), fun k hk=>(nomatch hk), fun k hk=>?_, fun k k0 k1 _ hc=>?_⟩, h2, hN⟩, rfl⟩) (fun q hq=>⟨?_, fun hm=>?_⟩) B' X' T' D'
  · exact hin _ K.hs (news_ne Nw K.hs K.hd (fun e=>by cases e))
  · exact hin _ K.hD (fun e=>news_neo Nw K.hD K.hd (fun q=>tsd_not K.ho q) e)
  · show IntsAre (rdyN ns) _
    unfold rdyN
    generalize ns.filter _ = l
    induction l with
    | nil=>exact .nil
    | cons n r ih=>exact .cons _ _ ih
  · refine eA3 (fun a b c=>?_) (dxs n hn)
    exact ⟨hin _ (K.hn n hn).1 a, hin _ (K.hn n hn).2.1 b, hin _ (K.hn n hn).2.2 c⟩
  · refine ⟨?_, (K.hg n hn).2⟩
    rw [(K.hg n hn).1, npA, if_neg List.not_mem_nil, if_neg List.not_mem_nil, hk0]
  · have:=K.hu
    unfold KU at this
    exact this.sublist (List.Sublist.map _ List.filter_sublist)
  · (refine eE1 (fun n=>?_) (List.mem_map.mp hk); refine eA2 fun hn hR2=>?_; subst hR2)
    have hf:=List.mem_filter.mp hn
    refine ⟨(K.hk _).mp ⟨n, hf.1, rfl⟩, List.not_mem_nil, List.not_mem_nil, ?_⟩
    have:=(K.hg n hf.1).1
    rw [of_decide_eq_true hf.2] at this
    rw [hk0]
    exact (fun {n}=>Int.ofNat_eq_zero.mp) (id (Eq.symm this))
  · (refine eE1 (fun n=>?_) ((K.hk k).mpr ⟨k0, k1⟩); refine eA2 fun hn hR2=>?_; subst hR2)
    refine .inr (List.mem_map.mpr ⟨n, List.mem_filter.mpr ⟨hn, decide_eq_true ?_⟩, rfl⟩)
    rw [(K.hg n hn).1, ← hk0, hc]
    rfl
  · exact hin q (K.h0 q hq) (K.hf q hq).2.2.1
  · refine eA4 (fun a b c d=>?_) (K.hf q hq)
    unfold ownS at hm
    rcases List.mem_cons.mp hm with e | hm
    · exact a e
    rcases List.mem_cons.mp hm with e | hm
    · exact b e
    rcases List.mem_cons.mp hm with e | hm
    · exact c e
    rcases List.mem_cons.mp hm with e | hm
    · exact hRn q (K.h0 q hq) e
    (refine eE1 (fun t=>?_) (List.mem_flatMap.mp hm); refine eA2 fun ht hm=>?_)
    (refine eE1 (fun n=>?_) (List.mem_map.mp ht); refine eA2 fun hn hR2=>?_; subst hR2)
    have z:=d n hn
    rcases List.mem_cons.mp hm with e | hm
    · exact z.1 e
    rcases List.mem_cons.mp hm with e | hm
    · exact z.2.1 e
    · exact z.2.2 (List.mem_singleton.mp hm)
end
section
open PySem PySem.W PyProof.Rows PySem.Challenge PySem.Spec PySem.Calls
local macro_rules | `(tactic| walk_at $s)=>Tab.rules s "subscriptTail Name Name ref int||itemI|amsllc?|i
eval Constant int|red|constT|?
call builtin:len||kst_len|amsl?|w"
section
open PySem PySem.W PyProof.Rows PySem.Challenge PySem.Spec
noncomputable def edg (l:List Int):Nat→List (Int × Int)
  | 0=>[]
  | 1=>[]
  | n + 2=>edg l (n + 1) ++ [(l.getD n 0, l.getD (n + 1) 0)]
theorem edg_step {l:List Int} {n:Nat} (h:0 < n):edg l (n + 1) = edg l n ++ [(l.getD (n - 1) 0, l.getD n 0)]:=by
  cases n with
  | zero=>lia
  | succ n=>rfl
theorem mem_edg {l:List Int} {a b:Int}:∀ {n:Nat}, (a, b) ∈ edg l n ↔ ∃ i, i + 1 < n ∧ a = l.getD i 0 ∧ b = l.getD (i + 1) 0
  | 0=>⟨fun h=>(nomatch h), fun ⟨_, h, _⟩=>by lia⟩
  | 1=>⟨fun h=>(nomatch h), fun ⟨_, h, _⟩=>by lia⟩
  | n + 2=>by
    rw [show edg l (n + 2) = edg l (n + 1) ++ [(l.getD n 0, l.getD (n + 1) 0)] from rfl, List.mem_append, mem_edg]
    constructor
    · rintro (⟨i, h, e⟩ | h)
      · exact ⟨i, by exact Nat.lt_succ_of_lt h, e⟩
      · have:=List.mem_singleton.mp h
        injection this with e1 e2
        exact ⟨n, by exact Nat.lt_add_one (n + 1), e1, e2⟩
    · ((refine eE1 fun i=>?_; refine eA3 fun h e1 e2=>?_))
      by_cases hi:i = n
      · subst hi
        exact .inr (by rw [e1, e2]; exact .head _)
      · exact .inl ⟨i, by lia, e1, e2⟩
theorem edg_len {l:List Int}:∀ {n:Nat}, (edg l n).length ≤ n
  | 0=>Nat.le_refl _
  | 1=>Nat.zero_le _
  | n + 2=>by
    rw [show edg l (n + 2) = edg l (n + 1) ++ [(l.getD n 0, l.getD (n + 1) 0)] from rfl, List.length_append]
    have:=edg_len (l:=l) (n:=n + 1)
    simp only [List.length_singleton]
    exact Nat.add_le_add_right this 1
theorem suc_app {E F:List (Int × Int)} {k:Int}:sucE (E ++ F) k = sucE E k ++ sucE F k:=by unfold sucE; rw [List.filter_append, List.map_append]
theorem edg_take {l:List Int} {a b:Int} {n:Nat} (h:(a, b) ∈ edg l n) (hn:n ≤ l.length):a ∈ l.take n ∧ b ∈ l.take n:=by
  (refine eE1 (fun i=>?_) (mem_edg.mp h); refine eA3 fun hi hR2 hR3=>?_; subst hR2 hR3)
  have z:∀ q, q < n→l.getD q 0 ∈ l.take n:=fun q hq=>by
    rw [List.getD_eq_getElem?_getD, List.getElem?_eq_getElem (by exact Nat.lt_of_lt_of_le hq hn)]
    exact List.mem_take_iff_getElem.mpr ⟨q, by lia, rfl⟩
  exact ⟨z i (by exact Nat.lt_of_succ_lt hi), z (i + 1) (by exact Nat.lt_of_succ_le hi)⟩
theorem take_getD {l:List Int} {j:Nat} (h:j < l.length):l.take (j + 1) = l.take j ++ [l.getD j 0]:=by
  rw [List.take_add_one, List.getD_eq_getElem?_getD, List.getElem?_eq_getElem h]; rfl
theorem nil_of {l:List Int} (h:∀ x, x ∉ l):l = []:=List.eq_nil_iff_forall_not_mem.mpr h
noncomputable abbrev wrkC (L:Addr):List (Str × Addr):=[(Str.ofString "second", L + 3), (Str.ofString "first", L + 2), (Str.ofString "codes", L + 1)]
noncomputable abbrev wrkE (L:Addr):Env:=envX (Str.ofString "_law_worked") (scopeOf (top 19)) L 468 (.ref 467) (wrkC L)
noncomputable abbrev wrkA (dp un:Nat) (gd:Option (List Code)) (L:Addr) (outer:List Env):Around:=ktrTop dp un gd (Str.ofString "_law_worked") (scopeOf (top 19)) L 468 (.ref 467) (wrkC L) outer
noncomputable abbrev wrkFor1:Stmt:=(bodyOf (top 19)).getD 1 (.Pass ⟨0, 0, 0, 0⟩)
noncomputable abbrev wrkFor2:Stmt:=(forBody wrkFor1).getD 0 (.Pass ⟨0, 0, 0, 0⟩)
noncomputable abbrev wrkM (S od sd:Addr):Str→Option Value:=fun y=>if y = Str.ofString "sorter" then some (.ref S) else List.lookup y [(Str.ofString "sides", .ref sd), (Str.ofString "order", .ref od)]
noncomputable abbrev wrkM1 (kv:Int) (tv:Tok) (sa S:Addr) (mr:Str→Option Value):Str→Option Value:=fun y=>if y = Str.ofString "k" then some (.int kv tv) else if y = Str.ofString "side" then some (.ref sa) else if y = Str.ofString "sorter" then some (.ref S) else mr y
local macro_rules | `(tactic| walk_at $s)=>Tab.rules s "call ref|halt"
local macro_rules | `(tactic| walk_at $s)=>Tab.rules s "none 3"
theorem wrk_turn1 {w:World} {dp un:Nat} {gd:Option (List Code)} {outer:List Env} {A₀:Around} {base h₀ hp:Heap} {L S sa:Addr} {gs:Array GenState} {dr:Drawn} {tk0:Nat} {os:OsState} {Q:Flow→Shared→Prop} {E:Value→Shared→Prop}
    {mean:ExcName→Option Value} {mg mb:Str→Option Value} {va:List Value} {la:List Int} {ca:Nat} {led n0:List (Addr × Obj)} {mr:Str→Option Value} {N:Nat} {Eg:List (Int × Int)} {ks:Int→Prop} {j:Nat} {tv:Tok}
    (B:Below A₀ base outer h₀) (F:Fr h₀ L hp (wrkM1 (0 + (j:Int)) tv sa S mr)) (Nw:News h₀ L hp led) (T:Top q2 (looseW q2 loose2) mean mg mb h₀)
    (hE:PassesOwn (model rw_mu0013_01.row.prog w) (wrkA dp un gd L outer) (wrkE L) E)
    (hB:SrtB w led n0 S (Eg ++ edg la j) (fun k=>ks k ∨ k ∈ la.take j)) (hsa:(sa, listOf va.toArray ca) ∈ n0) (hia:IntsAre va la) (hj:j < la.length) (hasc:la.Pairwise (· < ·)) (hEg:∀ a b, (a, b) ∈ Eg→ks a ∧ ks b) (hks:∀ k, ks k ∨ k ∈ la→0 ≤ k ∧ k < (N:Int)) (hN:N ≤ 69) (hEl:Eg.length ≤ 100)
    (hd:dp + 150 < recursionLimit) (hu:un + 2000 < cLine)
    (ret:∀ h' tk' led', Fr h₀ L h' (wrkM1 (0 + (j:Int)) tv sa S mr)→News h₀ L h' led'→SrtB w led' n0 S (Eg ++ edg la (j + 1)) (fun k=>ks k ∨ k ∈ la.take (j + 1))→Q .next ⟨h', gs, dr, tk', os⟩) :
    (K2 w.params).In h₀→wpAny (model rw_mu0013_01.row.prog w) (wrkA dp un gd L outer) (execs (forBody wrkFor2) (wrkE L)) Q E ⟨hp, gs, dr, tk0, os⟩:=by
  w_on
  k_fill
  intro X
  have hb:=Eq.refl (forBody wrkFor2)
  conv at hb=>rhs; whnf
  rw [hb]
  clear hb
  have hla:la.length ≤ N:=by
    have:=nodup_len (l:=la) (m:=upto N) (hasc.imp fun h=>by exact Int.ne_of_lt h) fun x hx=>mem_upto.mpr (hks x (.inr hx))
    rwa [len_upto] at this
  have hget:la[(0 + (j:Int)).toNat]? = some (la.getD j 0):=by
    rw [List.getD_eq_getElem?_getD, show (0 + (j:Int)).toNat = j by lia, List.getElem?_eq_getElem hj]; rfl
  have hget2:Cnd (0 < 0 + (j:Int)) (la[(0 + (j:Int) - 1).toNat]? = some (la.getD (j - 1) 0)):=fun h=>by
    rw [List.getD_eq_getElem?_getD, show (0 + (j:Int) - 1).toNat = j - 1 from ar20, List.getElem?_eq_getElem (by exact Nat.sub_lt_of_lt hj)]; rfl
  have hsa':(sa, listOf va.toArray ca) ∈ led:=by
    (revert hB; refine eE11 fun dS D t1 t2 t3 t4 tp tf o kvs ns K=>?_)
    exact K.h0 _ hsa
  (refine eE9 (fun dS1 t11 t12 t13 t14 D1 rv1 pv1 fv1=>?_) hB.sm; refine eA2 fun hs1 hd1=>?_)
  w_strict (
    (have mk:=kstMark)
    k_steps
    (unfold Halt)
    (have hnew:¬ (ks (la.getD j 0) ∨ la.getD j 0 ∈ la.take j)→sucE (Eg ++ edg la j) (la.getD j 0) = [] ∧ preE (Eg ++ edg la j) (la.getD j 0) = []:=fun hno=>by
      refine ⟨nil_of fun x hx=>hno ?_, nil_of fun x hx=>hno ?_⟩
      · rcases List.mem_append.mp (mem_sucE.mp hx) with h | h
        · exact .inl (hEg _ _ h).1
        · exact .inr (edg_take h (by exact Nat.le_of_succ_le hj)).1
      · rcases List.mem_append.mp (mem_preE.mp hx) with h | h
        · exact .inl (hEg _ _ h).2
        · exact .inr (edg_take h (by omega)).2)
    (have hlen:∀ l:List Int, l.Nodup→(∀ x ∈ l, ks x ∨ x ∈ la.take j)→l.length ≤ 900:=fun l hnd hx=>by
      have:=nodup_len (l:=l) (m:=upto N) hnd fun x hxl=>mem_upto.mpr (hks x ((hx x hxl).imp id List.mem_of_mem_take))
      rw [len_upto] at this
      lia)
    (have htk:=take_getD hj)
    (refine' addB1 (hB:=hB) ?b1 F Nw ?b2 ?b3 hnew hlen ?b4 ?b5 ?b6 ?b7)
    (case b1=>k_asm)
    (case b2=>k_asm)
    (case b3=>exact rfl)
    (case b4=>ktr_room)
    (case b5=>ktr_units)
    (case b7=>k_asm)
    (case b6 =>
      intro h2 tk2 led2 F2 N2 hB2
      ((refine eE9 (fun dS2 t21 t22 t23 t24 D2 rv2 pv2 fv2=>?_) hB2.sm; refine eA2 fun hs2 hd2=>?_))
      (have hsa2:(sa, listOf va.toArray ca) ∈ led2:=by
        (revert hB2; refine eE11 fun dS D t1 t2 t3 t4 tp tf o kvs ns K=>?_)
        exact K.h0 _ hsa)
      clear F Nw hs1 hd1 hsa'
      k_steps
      · (unfold Halt)
        (have hj0:0 < j:=by lia)
        (have hne:la.getD (j - 1) 0 ≠ la.getD j 0:=by
          rw [List.getD_eq_getElem?_getD, List.getD_eq_getElem?_getD, List.getElem?_eq_getElem hj, List.getElem?_eq_getElem (by omega)]
          have:=List.pairwise_iff_getElem.mp hasc (j - 1) j (by omega) hj (by exact Nat.sub_one_lt_of_lt hj0)
          simp only [Option.getD_some]
          exact Int.ne_of_lt this)
        (refine' addB2 (hB:=hB2) ?zb1 F2 N2 ?zb2 ?zb3 (.inr rfl) (.inl (.inr ?zb8)) hne ?zb9 ?zb4 ?zb5 ?zb6 ?zb7)
        (case zb1=>k_asm)
        (case zb2=>k_asm)
        (case zb3=>exact rfl)
        (case zb4=>ktr_room)
        (case zb5=>ktr_units)
        (case zb7=>k_asm)
        (case zb8 =>
          rw [List.getD_eq_getElem?_getD, List.getElem?_eq_getElem (by omega)]
          exact List.mem_take_iff_getElem.mpr ⟨j - 1, by lia, rfl⟩)
        (case zb9 =>
          (have:=edg_len (l:=la) (n:=j))
          rw [List.length_append]
          lia)
        (case zb6 =>
          intro h3 tk3 led3 F3 N3 hB3
          clear F2 N2
          k_steps
          refine ret _ _ _ (by assumption) (by assumption) ?_
          rw [edg_step hj0, htk, ← List.append_assoc]
          exact hB3.congr fun x=>by rw [List.mem_append, List.mem_singleton, or_assoc])
      · (have hj0:j = 0:=by lia)
        subst hj0
        refine ret _ _ _ (by assumption) (by assumption) ?_
        rw [htk]
        exact hB2.congr fun x=>by rw [List.mem_append, List.mem_singleton, or_assoc]))
end
section
open PySem PySem.W PyProof.Rows PySem.Challenge PySem.Spec PySem.Calls
local macro_rules | `(tactic| walk_at $s)=>Tab.rules s "storeName||storeT|aa?rr|Wis
isTrue BoolOp|mark|JMark
call type:list|halt"
section
open PySem PySem.W PyProof.Rows PySem.Challenge PySem.Spec PySem.Calls
section
open PySem PySem.W PyProof.Rows PySem.Challenge PySem.Spec
local macro_rules | `(tactic| walk_at $s)=>Tab.rules s "call ref|haltC|282
call ref|haltC|313
call ref|haltC|451
subscriptTail Name Subscript ref int||itemI|amsllc?|i"
theorem tag_item {c:Int} (h:c = 0 ∨ c = 1 ∨ c = 2):Txt.item (Str.ofString " -+") c = tagF c:=by
  rcases h with rfl | rfl | rfl <;> decide +kernel
theorem mem_swap {α:Type} {a b:α} {l:List α} {p:α} (h:p ∈ [b] ++ a :: l):p ∈ a :: b :: l:=by
  rcases List.mem_cons.mp h with rfl | h
  · exact .tail _ (.head _)
  · rcases List.mem_cons.mp h with rfl | h
    · exact .head _
    · exact .tail _ (.tail _ h)
theorem gens_last {gs:Array GenState} {g:GenState}:(gs.push g)[gs.size]? = some g:=by simp
local macro_rules | `(tactic| walk_at $s)=>Tab.rules s "call builtin:list.append||appendU|aam?M|id
call builtin:list.extend||extendU|aamml?|id"
theorem range_text {n:Nat} {x:Int} (h0:0 ≤ x) (h1:x < n):((List.range n).map fun k:Nat=>textF k)[x.toNat]? = some (textF x):=by
  rw [List.getElem?_map, List.getElem?_range (by lia)]
  show some (textF (x.toNat:Int)) = _
  rw [Int.toNat_of_nonneg h0]
theorem tag_len {c:Int} (h:c = 0 ∨ c = 1 ∨ c = 2):(tagF c).length ≤ 1000:=by
  rcases h with rfl | rfl | rfl <;> decide +kernel
theorem text_facts {x:Int} (h0:0 ≤ x) (h1:x < 70):(textF x).length ≤ 1000 ∧ ((rowF (tagF 0) (textF x)).length ≤ 2000 ∧ (rowF (tagF 1) (textF x)).length ≤ 2000 ∧ (rowF (tagF 2) (textF x)).length ≤ 2000) ∧
    (restF (Str.ofString "- ") (rowF (tagF 0) (textF x)) = some (textF x) ∧ restF (Str.ofString "- ") (rowF (tagF 1) (textF x)) = some (textF x) ∧ restF (Str.ofString "- ") (rowF (tagF 2) (textF x)) = none) ∧
    (restF (Str.ofString "+ ") (rowF (tagF 0) (textF x)) = some (textF x) ∧ restF (Str.ofString "+ ") (rowF (tagF 1) (textF x)) = none ∧ restF (Str.ofString "+ ") (rowF (tagF 2) (textF x)) = some (textF x)):=by
  have h:=List.all_eq_true.mp facts_all x.toNat (List.mem_range.mpr (by lia))
  unfold factsT at h
  rw [Int.toNat_of_nonneg h0] at h
  simp only [Bool.and_eq_true, decide_eq_true_eq] at h
  (revert h; refine eA2 fun hP0 q10=>?_; obtain ⟨⟨⟨⟨⟨⟨⟨⟨q1, q2⟩, q3⟩, q4⟩, q5⟩, q6⟩, q7⟩, q8⟩, q9⟩:=hP0)
  exact ⟨q1, ⟨q2, q3, q4⟩, ⟨q5, q6, q7⟩, q8, q9, q10⟩
theorem strs_of {vs:List Value} {us:List Str} (hl:vs.length = us.length) (h:∀ (j:Nat) v, vs[j]? = some v→∃ u t, us[j]? = some u ∧ v = .str u t):StrsAre vs us:=by
  induction vs generalizing us with
  | nil=>cases us with
    | nil=>exact .nil
    | cons _ _=>cases hl
  | cons v r ih =>
    cases us with
    | nil=>cases hl
    | cons u us =>
      (refine eE2 (fun u' t=>?_) (h 0 v rfl); refine eA2 fun e hR3=>?_; subst hR3)
      cases (Option.some.inj e:u = u')
      exact .cons _ _ (ih (by simpa using hl) fun j v hv=>h (j + 1) v (by simpa using hv))
theorem items_strs {tag:Str} {z:Nat→Str} {acc:Array Value} {n:Nat} (h:ItemsOf (rowItem tag z) acc n):StrsAre acc.toList ((List.range n).map fun j=>rowF tag (z j)):=by
  refine strs_of (by simp [h.1]) fun j v hv=>?_
  have hv':acc[j]? = some v:=by simpa using hv
  (refine eE1 (fun t hR1=>?_) (h.2 j v hv'); subst hR1)
  have hj:j < n:=by rw [← h.1]; exact (Array.getElem?_eq_some_iff.mp hv').1
  exact (iE2 _ t ⟨by rw [List.getElem?_map, List.getElem?_range hj]; rfl, rfl⟩)
noncomputable def rowsOf (c x:Int) (n:Nat):List Str:=((List.range n).map fun j:Nat=>rowF (tagF c) (textF (x + (j:Int)))) ++ if 0 < c then [Str.ofString "? ^\n"] else []
theorem strs_app {vs ws:List Value} {us zs:List Str} (h:StrsAre vs us) (h':StrsAre ws zs):StrsAre (vs ++ ws) (us ++ zs):=by
  induction h with
  | nil=>exact h'
  | cons y t _ ih=>exact .cons y t ih
theorem told_turn {w:World} {dp un:Nat} {gd:Option (List Code)} {outer:List Env} {A₀:Around} {base h₀ hp:Heap} {L R D od cd:Addr} {gs:Array GenState} {dr:Drawn} {tk0:Nat} {os:OsState} {Q:Flow→Shared→Prop} {E:Value→Shared→Prop}
    {mean:ExcName→Option Value} {mg mb:Str→Option Value} {vo vc vt rv:List Value} {order codes:List Int} {rw:List Str} {no nc nt rc i st:Nat} {ts ta:Tok} {x1 x2 x3 c1 c3:Int} {led:List (Addr × Obj)}
    (B:Below A₀ base outer h₀) (F:Fr h₀ L hp (toldMt (1 + (i:Int)) ta (st:Int) ts R D od cd)) (N:News h₀ L hp led) (T:Top q2 (looseW q2 loose2) mean mg mb h₀)
    (hE:PassesOwn (model rw_mu0013_01.row.prog w) (toldA dp un gd L outer) (toldE L) E)
    (hod:(od, listOf vo.toArray no) ∈ led) (hcd:(cd, listOf vc.toArray nc) ∈ led) (htd:(D, listOf vt.toArray nt) ∈ led) (hR:(R, listOf rv.toArray rc) ∈ led)
    (hio:IntsAre vo order) (hic:IntsAre vc codes) (hl:order.length = codes.length) (hi:i < codes.length) (hst:st ≤ i) (hmax:codes.length ≤ 69) (hvt:StrsAre vt ((List.range codes.length).map fun k:Nat=>textF k)) (hrv:rv.length ≤ 200)
    (a1:Cnd (¬ (1 + (i:Int) = (codes.length:Int))) (order[(1 + (i:Int)).toNat]? = some x1)) (a2:order[(1 + (i:Int) - 1).toNat]? = some x2) (a3:order[((st:Nat):Int).toNat]? = some x3) (b1:Cnd (¬ (1 + (i:Int) = (codes.length:Int))) (codes[x1.toNat]? = some c1)) (b3:codes[x3.toNat]? = some c3)
    (hc3:c3 = 0 ∨ c3 = 1 ∨ c3 = 2) (hx1:0 ≤ x1 ∧ x1 < 69) (hx3:0 ≤ x3 ∧ x3 < 69) (hx2:x3 ≤ x2 ∧ x2 < codes.length)
    (nR1:od ≠ R) (nR2:cd ≠ R) (nR3:D ≠ R) (hrs:StrsAre rv rw) (hgb:AllBare gs) (hd:dp + 50 < recursionLimit) (hu:un + 500 < cLine)
    (skip:∀ tk', ¬ (1 + (i:Int) = (codes.length:Int) ∨ x1 ≠ x2 + 1 ∨ c1 ≠ c3)→Q .next ⟨hp, gs, dr, tk', os⟩)
    (flush:∀ h' tk' gs' led' rv' rc', AllBare gs'→1 + (i:Int) = (codes.length:Int) ∨ x1 ≠ x2 + 1 ∨ c1 ≠ c3→Fr h₀ L h' (fun z=>if z = Str.ofString "start" then some (.int (1 + (i:Int)) ta) else toldMt (1 + (i:Int)) ta (st:Int) ts R D od cd z)→News h₀ L h' led'→(R, listOf (List.toArray rv') rc') ∈ led'→(∀ p ∈ led, p.1 ≠ R→p ∈ led')→StrsAre rv' (rw ++ rowsOf c3 x3 (x2 + 1 - x3).toNat)→Q .next ⟨h', gs', dr, tk', os⟩) :
    (K2 w.params).In h₀→wpAny (model rw_mu0013_01.row.prog w) (toldA dp un gd L outer) (execs toldB (toldE L)) Q E ⟨hp, gs, dr, tk0, os⟩:=by
  w_on
  k_fill
  intro X
  have hb:=Eq.refl toldB
  conv at hb=>rhs; whnf
  rw [hb]
  clear hb
  have hvo:vo.length = codes.length:=by rw [hio.length]; exact hl
  w_strict (
    (have mk:=kstMark)
    (have jm:=jMark)
    k_steps
    (unfold Halt)
    (refine' join_and (1 + (i:Int) = (codes.length:Int) ∨ x1 ≠ x2 + 1 ∨ c1 ≠ c3) ?ja (fun tk9 hP9=>?jb) (fun tk9 hP9=>?jc))
    (case ja =>
      k_steps
      all_goals (first | exact jp_t (by lia) | exact jp_f (by lia)))
    (case jc =>
      k_steps
      exact skip _ hP9)
    (case jb =>
      k_steps
      (unfold Halt)
      (refine' df_make ?c1 F N ?c2 ?c3 ?c4 ?c5 ?c6 ?c7)
      (case c1=>k_asm)
      (case c2=>k_asm)
      (case c3=>exact rfl)
      (case c4=>ktr_room)
      (case c5=>ktr_units)
      (case c7=>k_asm)
      (case c6 =>
        intro x5 d5 t5 u5 h5 tk5 F5 N5 l5 m5
        clear F N
        (try dsimp only)
        k_steps
        (unfold Halt)
        rw [tag_item hc3]
        (rename Fr _ _ _ _=>F6)
        (rename News _ _ _ _=>N6)
        (refine' dump_call F6 N6 ?e1 ?e2 ?e3 ?e4)
        (case e1=>k_asm)
        (case e2=>ktr_room)
        (case e4=>k_asm)
        (case e3 =>
          intro L7 oL7 G7 nm7 qn7 h7 tk7 F7 N7 n7 l7 m7 s7
          clear F6 N6
          (obtain ⟨md7, hmd, n7⟩:∃ md, _ = md ∧ NsO oL7 md:=⟨_, rfl, n7⟩)
          (have N7':News _ _ _ ([(L7, oL7)] ++ (G7, genO _ nm7 qn7) :: (x5, instObj 313 d5) :: (d5, dictOf [⟨PyData.keyHash w.params (Str.ofString "linejunk"), .str (Str.ofString "linejunk") t5, .none⟩, ⟨PyData.keyHash w.params (Str.ofString "charjunk"), .str (Str.ofString "charjunk") u5, .none⟩] 2) :: led):=fun p hp=>N7 p (mem_swap hp))
          k_steps
          (unfold Halt)
          (refine' list_gen (N:=(x2 + 1 - x3).toNat) (item:=rowItem (tagF c3) fun j=>textF (x3 + (j:Int))) (P:=DumpP L7 oL7 (x2 + 1 - x3).toNat x3 md7) rfl ?f1 ?f2 F7 N7' (.head _) (by exact gens_last) (AllBare.push hgb rfl) ?f4 ?f5 ?f6 ?f7)
          (case f1=>ktr_room)
          (case f2=>exact Top.nolimit (by k_asm))
          (case f4=>exact .inl ⟨rfl, rfl⟩)
          (case f5=>exact Nat.le_trans (ar11 hmax hx3.1 hx2.2) (by decide))
          (case f6 =>
            intro S8 l8 o8 s8 g8
            (have hN9:x2 + 1 = x3 + (((x2 + 1 - x3).toNat:Nat):Int):=by lia)
            subst hmd
            exact dump_go (by k_asm) (by k_asm) rfl n7 hN9 (.tail _ (.tail _ (.tail _ htd))) hx3.1 (by lia) (fun j hj=>strs_get hvt (range_text (by lia) (by lia))) (tag_len hc3) (fun j hj=>(text_facts (by omega) (by lia)).1) s7 (List.forall_mem_cons.mpr ⟨Nat.ne_of_gt m7, fun p hp=>Nat.ne_of_lt (l7 p hp)⟩) g8)
          (case f7 =>
            intro S8 acc8 k8 h8 tk8 gs8 hb8 F8 N8 l8 i8
            (have i8':=items_strs i8)
            (have z8:acc8.size ≤ 100:=by rw [i8.1]; exact ar11 hmax hx3.1 hx2.2)
            clear F7 N7 N7'
            k_steps
            · (rename Fr _ _ _ _=>F9)
              (rename News _ _ _ _=>N9)
              rw [List.push_toArray] at N9
              (refine' flush _ _ _ _ _ _ hb8 hP9 F9 N9 (mem_upL_self (mem_upL_self (.tail _ (.tail _ (.tail _ (.tail _ hR)))))) (fun p hp hn=>mem_upL_ne (mem_upL_ne (.tail _ (.tail _ (.tail _ (.tail _ hp)))) hn) hn) ?_)
              unfold rowsOf
              rw [if_pos (by assumption), ← List.append_assoc]
              exact strs_snoc (strs_app hrs i8')
            · (rename Fr _ _ _ _=>F9)
              (rename News _ _ _ _=>N9)
              (refine' flush _ _ _ _ _ _ hb8 hP9 F9 N9 (mem_upL_self (.tail _ (.tail _ (.tail _ (.tail _ hR))))) (fun p hp hn=>mem_upL_ne (.tail _ (.tail _ (.tail _ (.tail _ hp)))) hn) ?_)
              unfold rowsOf
              rw [if_neg (by assumption), List.append_nil]
              exact strs_app hrs i8')))))
end
section
open PySem PySem.W PyProof.Rows PySem.Challenge PySem.Spec
theorem fm_map {f:Str→Option Str} {g:Nat→Str} {r:Nat→Option Str} (n:Nat) (h:∀ j, j < n→f (g j) = r j):((List.range n).map g).filterMap f = (List.range n).filterMap r:=by
  rw [List.filterMap_map]
  induction n with
  | zero=>rfl
  | succ n ih =>
    rw [List.range_succ, List.filterMap_append, List.filterMap_append, ih fun j hj=>h j (by exact Nat.lt_add_right 1 hj)]
    simp only [List.filterMap_cons, List.filterMap_nil, Function.comp, h n (by exact Nat.lt_add_one n)]
theorem fm_some {g:Nat→Str} (n:Nat):(List.range n).filterMap (fun j=>some (g j)) = (List.range n).map g:=by
  induction n with
  | zero=>rfl
  | succ n ih=>rw [List.range_succ, List.filterMap_append, ih, List.map_append]; rfl
theorem fm_none (n:Nat):(List.range n).filterMap (fun _=>(none:Option Str)) = []:=by
  induction n with
  | zero=>rfl
  | succ n ih=>rw [List.range_succ, List.filterMap_append, ih]; rfl
theorem rowsOf_rest {c x:Int} {n:Nat} (hc:c = 0 ∨ c = 1 ∨ c = 2) (h0:0 ≤ x) (h1:x + (n:Int) ≤ 70) :
    (rowsOf c x n).filterMap (restF (Str.ofString "- ")) = (if c ≠ 2 then (List.range n).map fun j:Nat=>textF (x + (j:Int)) else []) ∧ (rowsOf c x n).filterMap (restF (Str.ofString "+ ")) = (if c ≠ 1 then (List.range n).map fun j:Nat=>textF (x + (j:Int)) else []) ∧ ∀ u ∈ rowsOf c x n, u.length ≤ 2000:=by
  have hf:=fun (j:Nat) (hj:j < n)=>text_facts (x:=x + (j:Int)) (by lia) (by lia)
  have hq:∀ tag, restF tag (Str.ofString "? ^\n") = none→(if 0 < c then [Str.ofString "? ^\n"] else []).filterMap (restF tag) = []:=fun tag h=>by
    by_cases e:0 < c
    · rw [if_pos e, List.filterMap_cons, h]; rfl
    · rw [if_neg e]; rfl
  have hlen:∀ u ∈ (if 0 < c then [Str.ofString "? ^\n"] else []), u.length ≤ 2000:=fun u hu=>by
    by_cases e:0 < c
    · rw [if_pos e] at hu; rw [List.mem_singleton.mp hu]; exact facts_q.2.2
    · rw [if_neg e] at hu; cases hu
  unfold rowsOf
  rw [List.filterMap_append, List.filterMap_append, hq _ facts_q.1, hq _ facts_q.2.1, List.append_nil, List.append_nil]
  rcases hc with rfl | rfl | rfl
  · refine ⟨?_, ?_, fun u hu=>?_⟩
    · rw [if_pos (by decide), fm_map (r:=fun j=>some (textF (x + (j:Int)))) n fun j hj=>(hf j hj).2.2.1.1, fm_some]
    · rw [if_pos (by decide), fm_map (r:=fun j=>some (textF (x + (j:Int)))) n fun j hj=>(hf j hj).2.2.2.1, fm_some]
    · rcases List.mem_append.mp hu with hu | hu
      · (refine eE1 (fun j=>?_) (List.mem_map.mp hu); refine eA2 fun hj hR2=>?_; subst hR2); exact (hf j (List.mem_range.mp hj)).2.1.1
      · exact hlen u hu
  · refine ⟨?_, ?_, fun u hu=>?_⟩
    · rw [if_pos (by decide), fm_map (r:=fun j=>some (textF (x + (j:Int)))) n fun j hj=>(hf j hj).2.2.1.2.1, fm_some]
    · rw [if_neg (by decide), fm_map (r:=fun _=>none) n fun j hj=>(hf j hj).2.2.2.2.1, fm_none]
    · rcases List.mem_append.mp hu with hu | hu
      · (refine eE1 (fun j=>?_) (List.mem_map.mp hu); refine eA2 fun hj hR2=>?_; subst hR2); exact (hf j (List.mem_range.mp hj)).2.1.2.1
      · exact hlen u hu
  · refine ⟨?_, ?_, fun u hu=>?_⟩
    · rw [if_neg (by decide), fm_map (r:=fun _=>none) n fun j hj=>(hf j hj).2.2.1.2.2, fm_none]
    · rw [if_pos (by decide), fm_map (r:=fun j=>some (textF (x + (j:Int)))) n fun j hj=>(hf j hj).2.2.2.2.2, fm_some]
    · rcases List.mem_append.mp hu with hu | hu
      · (refine eE1 (fun j=>?_) (List.mem_map.mp hu); refine eA2 fun hj hR2=>?_; subst hR2); exact (hf j (List.mem_range.mp hj)).2.1.2.2
      · exact hlen u hu
theorem take_run {order codes:List Int} {st:Nat}:∀ (n:Nat), st + n ≤ order.length→(∀ q, st ≤ q→q < st + n→oAt order q = oAt order st + ((q:Int) - (st:Int)))→order.take (st + n) = order.take st ++ (List.range n).map fun j:Nat=>oAt order st + (j:Int)
  | 0, _, _=>by simp
  | n + 1, hl, h=>by
    rw [show st + (n + 1) = st + n + 1 by exact Eq.symm (Nat.add_assoc st n 1), List.take_add_one, take_run (codes:=codes) n (by exact Nat.le_of_succ_le hl) fun q a b=>h q a (by exact Nat.lt_succ_of_lt b), List.append_assoc, List.range_succ, List.map_append]
    have e:=h (st + n) (by exact Nat.le_add_right st n) (by exact Nat.lt_add_one (st + n))
    have e2:order[st + n]? = some (oAt order (st + n)):=by
      unfold oAt
      rw [List.getD_eq_getElem?_getD, List.getElem?_eq_getElem (by exact Nat.lt_of_succ_le hl)]; rfl
    rw [e2, e]
    simp
    exact (fun {b a c}=>Int.sub_eq_iff_eq_add'.mpr) rfl
theorem filter_run {codes:List Int} {x c d:Int} {n:Nat} (h:∀ j:Nat, j < n→cAt codes (x + (j:Int)) = c):((List.range n).map fun j:Nat=>x + (j:Int)).filter (fun k=>decide (cAt codes k ≠ d)) = if c ≠ d then (List.range n).map fun j:Nat=>x + (j:Int) else []:=by
  by_cases e:c = d
  · rw [if_neg (by simpa using e), List.filter_eq_nil_iff]
    intro k hk
    (refine eE1 (fun j=>?_) (List.mem_map.mp hk); refine eA2 fun hj hR2=>?_; subst hR2)
    rw [h j (List.mem_range.mp hj)]
    simp [e]
  · rw [if_pos e, List.filter_eq_self]
    intro k hk
    (refine eE1 (fun j=>?_) (List.mem_map.mp hk); refine eA2 fun hj hR2=>?_; subst hR2)
    rw [h j (List.mem_range.mp hj)]
    simp [e]
theorem rows_step {order codes:List Int} {st i:Nat} {rw:List Str} (h:RowsOk order codes st rw) (hr:RunOk order codes st i) (hst:st ≤ i) (hi:i < order.length) (h0:0 ≤ oAt order st) (h1:oAt order i < 69) (hc:cAt codes (oAt order st) = 0 ∨ cAt codes (oAt order st) = 1 ∨ cAt codes (oAt order st) = 2) :
    RowsOk order codes (i + 1) (rw ++ rowsOf (cAt codes (oAt order st)) (oAt order st) (oAt order i + 1 - oAt order st).toNat):=by
  have e:=(hr i hst (Nat.le_refl _)).1
  have en:(oAt order i + 1 - oAt order st).toNat = i + 1 - st:=by rw [e]; lia
  have ht:=take_run (codes:=codes) (order:=order) (st:=st) (i + 1 - st) (by lia) fun q a b=>(hr q a (by lia)).1
  rw [show st + (i + 1 - st) = i + 1 by lia] at ht
  have hcs:∀ j:Nat, j < i + 1 - st→cAt codes (oAt order st + (j:Int)) = cAt codes (oAt order st):=fun j hj=>by
    have a:=hr (st + j) (by exact Nat.le_add_right st j) (by lia)
    rw [← a.2, a.1]
    congr 1
    lia
  have g:=rowsOf_rest hc h0 (n:=i + 1 - st) (x:=oAt order st) (by lia)
  rw [en]
  refine ⟨?_, ?_, fun u hu=>?_⟩
  · rw [List.filterMap_append, h.1, g.1, ht, List.filter_append, List.map_append, filter_run hcs]
    congr 1
    split
    · rw [List.map_map]; rfl
    · rfl
  · rw [List.filterMap_append, h.2.1, g.2.1, ht, List.filter_append, List.map_append, filter_run hcs]
    congr 1
    split
    · rw [List.map_map]; rfl
    · rfl
  · rcases List.mem_append.mp hu with hu | hu
    · exact h.2.2 u hu
    · exact g.2.2 u hu
theorem run_ext {order codes:List Int} {st i:Nat} (hr:RunOk order codes st i) (hst:st ≤ i) (h1:oAt order (i + 1) = oAt order i + 1) (h2:cAt codes (oAt order (i + 1)) = cAt codes (oAt order st)):RunOk order codes st (i + 1):=fun q a b=>by
  by_cases e:q = i + 1
  · subst e
    refine ⟨?_, h2⟩
    rw [h1, (hr i hst (Nat.le_refl _)).1]
    lia
  · exact hr q a (by lia)
theorem run_one {order codes:List Int} {i:Nat}:RunOk order codes i i:=fun q a b=>by
  obtain rfl:q = i:=by exact Nat.le_antisymm b a
  exact ⟨by lia, rfl⟩
theorem rows_len {c x:Int} {n:Nat}:(rowsOf c x n).length ≤ n + 1:=by
  unfold rowsOf
  rw [List.length_append, List.length_map, List.length_range]
  split <;> simp
end
section
open PySem PySem.W PyProof.Rows PySem.Challenge PySem.Spec PySem.Calls
local macro_rules | `(tactic| walk_at $s)=>Tab.rules s "call ref|haltC|324
call ref|haltC|282
call ref|haltC|313
call ref|haltC|451"
section
open PySem PySem.W PyProof.Rows PySem.Challenge PySem.Spec
theorem allLt_mem {d:Addr}:∀ {l:List (Addr × Obj)}, AllLt d l→∀ p ∈ l, p.1 < d
  | [], _, _, h=>nomatch h
  | q :: r, h, p, hp=>by
    rcases List.mem_cons.mp hp with rfl | hp
    · exact h.1
    · exact allLt_mem h.2 p hp
theorem restItems {tag:Str} {us:List Str} {acc:Array Value} (h:ItemsOf (restItem tag us) acc (us.filterMap (restF tag)).length):StrsAre acc.toList (us.filterMap (restF tag)):=by
  refine strs_of (by simp [h.1]) fun j v hv=>?_
  have hv':acc[j]? = some v:=by simpa using hv
  (refine eE2 (fun b t=>?_) (h.2 j v hv'); refine eA2 fun e hR3=>?_; subst hR3)
  exact (iE2 b t ⟨e, rfl⟩)
section
variable {w:World} {A:Around} {h₀ hp:Heap} {L L' G R:Addr} {m:Str→Option Value} {oL:Obj} {g rc:Nat} {nm qn:Value} {rv:List Value} {us:List Str} {led:List (Addr × Obj)} {mean:ExcName→Option Value} {mg mb:Str→Option Value} {gens:Array GenState} {dr:Drawn} {tk:Nat} {os:OsState} {Q E:Value→Shared→Prop} {tw:Tok}
theorem list_rest {v:Value} {tag:Str} (T:Top q2 (looseW q2 loose2) mean mg mb h₀) (X:(K2 w.params).In h₀) (hh:A.handled = none) (hroom:A.depth < recursionLimit) (F:Fr h₀ L hp m) (N:News h₀ L hp ((G, genO g nm qn) :: (L', oL) :: led)) (n:NsO oL (fun y=>List.lookup y [(Str.ofString "which", v), (Str.ofString "delta", .ref R)]))
    (pre:PreOk w h₀ L' R v tag)
    (hL':@LE.le Nat _ h₀.objs.size L') (l:∀ p ∈ led, p.1 < L') (lG:@LT.lt Nat _ L' G) (hR:(R, listOf rv.toArray rc) ∈ led) (hrv:StrsAre rv us) (hz:∀ u ∈ us, u.length ≤ 2000) (hl:us.length ≤ 1000)
    (hg:gens[g]? = some (.fresh (.func (bodyOf (top 8)) (restEnv L')))) (hgb:AllBare gens)
    (hQ:∀ S acc c h' tk' gens', AllBare gens'→Fr h₀ L h' m→News h₀ L h' ((S, listOf (List.toArray acc) c) :: led)→(∀ p ∈ led, p.1 < S)→StrsAre acc (us.filterMap (restF tag))→Q (.ref S) ⟨h', gens', dr, tk', os⟩) :
    wpAny (model rw_mu0013_01.row.prog w) A (call (.type "list") [.ref G]) Q E ⟨hp, gens, dr, tk, os⟩:=by
  refine list_gen (own:=[(L', oL)]) (led:=(G, genO g nm qn) :: led) (P:=RestP L' R oL tag us v) (item:=restItem tag us) (N:=(us.filterMap (restF tag)).length) hh hroom T.nolimit F (fun p hp=>N p (mem_swap hp)) (.head _) hg hgb (.inl ⟨rfl, rfl⟩) (Nat.le_trans (List.length_filterMap_le _ _) (by lia)) (fun S l8 o8 s8 g8=>?_) fun S acc c h' tk' gens' hb' F' N' l' i'=>?_
  · exact rest_go (l:=R) (v:=v) (tag:=tag) (L':=L') T X (by exact hh) n (by with_reducible exact pre) (.tail _ hR) hrv hz hL' (List.forall_mem_cons.mpr ⟨Nat.ne_of_gt lG, fun p hp=>Nat.ne_of_lt (l p hp)⟩) g8
  · refine hQ S acc.toList c h' tk' gens' hb' F' (fun p hp=>N' p ?_) (fun p hp=>l' p (.tail _ (.tail _ hp))) (restItems i')
    rcases List.mem_cons.mp hp with rfl | hp
    · exact .head _
    · exact .tail _ (.tail _ hp)
theorem list_rest1 (T:Top q2 (looseW q2 loose2) mean mg mb h₀) (X:(K2 w.params).In h₀) (hh:A.handled = none) (hroom:A.depth < recursionLimit) (F:Fr h₀ L hp m) (N:News h₀ L hp ((G, genO g nm qn) :: (L', oL) :: led)) (n:NsO oL (fun y=>List.lookup y [(Str.ofString "which", .int 1 tw), (Str.ofString "delta", .ref R)]))
    (hL':@LE.le Nat _ h₀.objs.size L') (l:∀ p ∈ led, p.1 < L') (lG:@LT.lt Nat _ L' G) (hR:(R, listOf rv.toArray rc) ∈ led) (hrv:StrsAre rv us) (hz:∀ u ∈ us, u.length ≤ 2000) (hl:us.length ≤ 1000)
    (hg:gens[g]? = some (.fresh (.func (bodyOf (top 8)) (restEnv L')))) (hgb:AllBare gens)
    (hQ:∀ S acc c h' tk' gens', AllBare gens'→Fr h₀ L h' m→News h₀ L h' ((S, listOf (List.toArray acc) c) :: led)→(∀ p ∈ led, p.1 < S)→StrsAre acc (us.filterMap (restF (Str.ofString "- ")))→Q (.ref S) ⟨h', gens', dr, tk', os⟩) :
    wpAny (model rw_mu0013_01.row.prog w) A (call (.type "list") [.ref G]) Q E ⟨hp, gens, dr, tk, os⟩ :=
  list_rest T X hh hroom F N n (by with_reducible exact pre_ok1 T X) hL' l lG hR hrv hz hl hg hgb hQ
theorem list_rest2 (T:Top q2 (looseW q2 loose2) mean mg mb h₀) (X:(K2 w.params).In h₀) (hh:A.handled = none) (hroom:A.depth < recursionLimit) (F:Fr h₀ L hp m) (N:News h₀ L hp ((G, genO g nm qn) :: (L', oL) :: led)) (n:NsO oL (fun y=>List.lookup y [(Str.ofString "which", .int 2 tw), (Str.ofString "delta", .ref R)]))
    (hL':@LE.le Nat _ h₀.objs.size L') (l:∀ p ∈ led, p.1 < L') (lG:@LT.lt Nat _ L' G) (hR:(R, listOf rv.toArray rc) ∈ led) (hrv:StrsAre rv us) (hz:∀ u ∈ us, u.length ≤ 2000) (hl:us.length ≤ 1000)
    (hg:gens[g]? = some (.fresh (.func (bodyOf (top 8)) (restEnv L')))) (hgb:AllBare gens)
    (hQ:∀ S acc c h' tk' gens', AllBare gens'→Fr h₀ L h' m→News h₀ L h' ((S, listOf (List.toArray acc) c) :: led)→(∀ p ∈ led, p.1 < S)→StrsAre acc (us.filterMap (restF (Str.ofString "+ ")))→Q (.ref S) ⟨h', gens', dr, tk', os⟩) :
    wpAny (model rw_mu0013_01.row.prog w) A (call (.type "list") [.ref G]) Q E ⟨hp, gens, dr, tk, os⟩ :=
  list_rest T X hh hroom F N n (by with_reducible exact pre_ok2 T X) hL' l lG hR hrv hz hl hg hgb hQ
end
noncomputable abbrev toldRet:Stmt:=(bodyOf (top 17)).getD 4 (.Pass ⟨0, 0, 0, 0⟩)
theorem told_ret {w:World} {dp un:Nat} {gd:Option (List Code)} {outer:List Env} {A₀:Around} {base h₀ hp:Heap} {L R:Addr} {gs:Array GenState} {dr:Drawn} {tk0:Nat} {os:OsState} {Q:Flow→Shared→Prop} {E:Value→Shared→Prop}
    {mean:ExcName→Option Value} {mg mb m₁:Str→Option Value} {rv:List Value} {rw:List Str} {rc:Nat} {led:List (Addr × Obj)}
    (B:Below A₀ base outer h₀) (F:Fr h₀ L hp (fun y=>if y = Str.ofString "rows" then some (.ref R) else m₁ y)) (N:News h₀ L hp led) (T:Top q2 (looseW q2 loose2) mean mg mb h₀)
    (hR:(R, listOf rv.toArray rc) ∈ led) (hrv:StrsAre rv rw) (hz:∀ u ∈ rw, u.length ≤ 2000) (hl:rw.length ≤ 1000) (hgb:AllBare gs) (hd:dp + 50 < recursionLimit) (hu:un + 500 < cLine)
    (ret:∀ h' tk' gs' led' S T1 T2 v1 v2 n0 n1 n2, AllBare gs'→(∃ m', Fr h₀ L h' m')→News h₀ L h' led'→(∀ p ∈ led, p ∈ led')→(S, listOf #[.ref T1, .ref T2] n0) ∈ led'→(T1, listOf (List.toArray v1) n1) ∈ led'→(T2, listOf (List.toArray v2) n2) ∈ led' →
      StrsAre v1 (rw.filterMap (restF (Str.ofString "- ")))→StrsAre v2 (rw.filterMap (restF (Str.ofString "+ ")))→(∀ p ∈ led, p.1 < T1 ∧ p.1 < T2 ∧ p.1 < S)→T1 < T2→T2 < S→Q (.ret (.ref S)) ⟨h', gs', dr, tk', os⟩) :
    (K2 w.params).In h₀→wpAny (model rw_mu0013_01.row.prog w) (toldA dp un gd L outer) (execs [toldRet] (toldE L)) Q E ⟨hp, gs, dr, tk0, os⟩:=by
  w_on
  k_fill
  intro X
  have hb:=Eq.refl toldRet
  conv at hb=>rhs; whnf
  rw [hb]
  clear hb
  have fl:∀ tag, (rw.filterMap (restF tag)).length ≤ 100000:=fun tag=>Nat.le_trans (List.length_filterMap_le _ _) (by lia)
  w_strict (
    (have mk:=kstMark)
    k_steps
    (unfold Halt)
    (rename Fr _ _ _ _=>F1)
    (rename News _ _ _ _=>N1)
    (refine' restore_call F1 N1 ?e1 ?e2 ?e3 ?e4)
    (case e1=>k_asm)
    (case e2=>ktr_room)
    (case e4=>k_asm)
    (case e3 =>
      intro L7 oL7 G7 nm7 qn7 h7 tk7 F7 N7 n7 l7 m7 s7
      clear F1 N1
      k_steps
      (unfold Halt)
      (refine' list_rest1 ?f1 ?f2 rfl ?f3 F7 N7 n7 s7 l7 m7 hR hrv hz hl gens_last (AllBare.push hgb rfl) ?f4)
      (case f1=>k_asm)
      (case f2=>k_asm)
      (case f3=>ktr_room)
      (case f4 =>
        intro S8 acc8 c8 h8 tk8 gs8 hb8 F8 N8 l8 i8
        clear F7 N7
        k_steps
        (unfold Halt)
        (rename Fr _ _ _ _=>F9)
        (rename News _ _ _ _=>N9)
        (refine' restore_call F9 N9 ?g1 ?g2 ?g3 ?g4)
        (case g1=>k_asm)
        (case g2=>ktr_room)
        (case g4=>k_asm)
        (case g3 =>
          intro La oLa Ga nma qna ha tka Fa Na na la ma sa
          clear F9 N9
          k_steps
          (unfold Halt)
          (refine' list_rest2 ?j1 ?j2 rfl ?j3 Fa Na na sa la ma (.tail _ hR) hrv hz hl gens_last (AllBare.push hb8 rfl) ?j4)
          (case j1=>k_asm)
          (case j2=>k_asm)
          (case j3=>ktr_room)
          (case j4 =>
            intro Sb accb cb hb tkb gsb hbb Fb Nb lb ib
            clear Fa Na
            k_steps
            (rename Fr _ _ _ _=>Fz)
            (rename News _ _ _ _=>Nz)
            (rename _ ∧ _ ∧ AllLt _ _=>lz)
            exact ret _ _ _ _ _ S8 Sb acc8 accb _ _ _ hbb ⟨_, Fz⟩ Nz (fun p hp=>.tail _ (.tail _ (.tail _ hp))) (.head _) (.tail _ (.tail _ (.head _))) (.tail _ (.head _)) i8 ib (fun p hp=>⟨l8 p hp, lb p (.tail _ hp), allLt_mem lz.2.2 p hp⟩) (lb _ (.head _)) lz.1)))))
end
section
open PySem PySem.W PyProof.Rows PySem.Challenge PySem.Spec
theorem kst_at {av st:Int} {ta ts:Tok} {u:Str→Option Value} {R D od cd:Addr} {t0:Tok} :
    (fun y=>if y = Str.ofString "at" then some (Value.int av ta) else kstB (fun z=>if ([]:List Str).contains z then u z else toldM 0 t0 R D od cd z) [(Str.ofString "start", .int st ts)] y) = toldMt av ta st ts R D od cd:=by
  funext y
  by_cases e:y = Str.ofString "at"
  · unfold toldMt; rw [if_pos e, if_pos e]
  · unfold toldMt; rw [if_neg e, if_neg e]
    by_cases e2:y = Str.ofString "start"
    · subst e2; rfl
    · unfold toldM kstB; rw [if_neg e2, if_neg e2]; unfold kstB; rw [if_neg e2]; rfl
theorem map_insert {m:Str→Option Value} {x:Str} {v:Value} (h:m x = some v):(fun z=>if z = x then some v else m z) = m:=by
  funext z
  by_cases e:z = x
  · subst e; rw [if_pos rfl, h]
  · rw [if_neg e]
theorem fr_ins {h₀ h:Heap} {L:Addr} {m:Str→Option Value} {x:Str} {v:Value} (F:Fr h₀ L h m) (e:m x = some v):Fr h₀ L h (fun z=>if z = x then some v else m z):=(map_insert e).symm ▸ F
theorem ex_told {h₀ h:Heap} {L R D od cd:Addr} {t:Tok} {oD oR:Obj} {led:List (Addr × Obj)} (F:Fr h₀ L h (fun y=>if y = Str.ofString "start" then some (.int 0 t) else if y = Str.ofString "rows" then some (.ref R) else if y = Str.ofString "texts" then some (.ref D) else (fun y=>List.lookup y [(Str.ofString "codes", .ref cd), (Str.ofString "order", .ref od)]) y)) (N:News h₀ L h ((R, oR) :: (D, oD) :: led)) (hR:D < R ∧ AllLt R led) :
    ∃ R t, Fr h₀ L h (toldM 0 t R D od cd) ∧ News h₀ L h ((R, oR) :: (D, oD) :: led) ∧ ∀ p ∈ (D, oD) :: led, p.1 < R :=
  (iE2 R t ⟨F, N, List.forall_mem_cons.mpr ⟨hR.1, allLt_mem hR.2⟩⟩)
theorem told_body {w:World} {dp un:Nat} {gd:Option (List Code)} {outer:List Env} {A₀:Around} {base h₀ hp:Heap} {L od cd:Addr} {gs:Array GenState} {dr:Drawn} {tk0:Nat} {os:OsState} {Q:Flow→Shared→Prop} {E:Value→Shared→Prop}
    {mean:ExcName→Option Value} {mg mb:Str→Option Value} {vo vc:List Value} {order codes:List Int} {no nc:Nat} {led:List (Addr × Obj)}
    (B:Below A₀ base outer h₀) (F:Fr h₀ L hp (fun y=>List.lookup y [(Str.ofString "codes", .ref cd), (Str.ofString "order", .ref od)])) (N:News h₀ L hp led) (T:Top q2 (looseW q2 loose2) mean mg mb h₀)
    (hE:PassesOwn (model rw_mu0013_01.row.prog w) (toldA dp un gd L outer) (toldE L) E)
    (hod:(od, listOf vo.toArray no) ∈ led) (hcd:(cd, listOf vc.toArray nc) ∈ led) (hio:IntsAre vo order) (hic:IntsAre vc codes) (hl:order.length = codes.length) (hpos:0 < codes.length) (hro:∀ k ∈ order, 0 ≤ k ∧ k < codes.length) (hco:∀ c ∈ codes, c = 0 ∨ c = 1 ∨ c = 2) (hmax:codes.length ≤ 69)
    (hgb:AllBare gs) (hd:dp + 50 < recursionLimit) (hu:un + 500 < cLine)
    (ret:∀ h' tk' gs' led' S T1 T2 v1 v2 n0 n1 n2, AllBare gs'→(∃ m', Fr h₀ L h' m')→News h₀ L h' led'→(∀ p ∈ led, p ∈ led')→(S, listOf #[.ref T1, .ref T2] n0) ∈ led'→(T1, listOf (List.toArray v1) n1) ∈ led'→(T2, listOf (List.toArray v2) n2) ∈ led' →
      StrsAre v1 ((order.filter fun k=>decide (cAt codes k ≠ 2)).map textF)→StrsAre v2 ((order.filter fun k=>decide (cAt codes k ≠ 1)).map textF)→Q (.ret (.ref S)) ⟨h', gs', dr, tk', os⟩) :
    (K2 w.params).In h₀→wpAny (model rw_mu0013_01.row.prog w) (toldA dp un gd L outer) (execs (bodyOf (top 17)) (toldE L)) Q E ⟨hp, gs, dr, tk0, os⟩:=by
  w_on
  k_fill
  intro X
  have hb:=Eq.refl (bodyOf (top 17))
  conv at hb=>rhs; whnf
  rw [hb]
  clear hb
  have hvo:vo.length = codes.length:=by rw [hio.length]; exact hl
  have hvc:vc.length = codes.length:=hic.length
  have oget:∀ q:Int, 0 ≤ q→q < (codes.length:Int)→order[q.toNat]? = some (oAt order q.toNat):=fun q a b=>by
    unfold oAt
    rw [List.getD_eq_getElem?_getD, List.getElem?_eq_getElem (by lia)]; rfl
  have orng:∀ q:Nat, q < codes.length→0 ≤ oAt order q ∧ oAt order q < codes.length:=fun q a=>by
    have e:=oget (q:Int) (by exact Int.natCast_nonneg q) (by exact (fun {n m}=>Int.ofNat_lt.mpr) a)
    rw [Int.toNat_natCast] at e
    exact hro _ (List.mem_of_getElem? e)
  have cget:∀ k:Int, 0 ≤ k→k < (codes.length:Int)→codes[k.toNat]? = some (cAt codes k):=fun k a b=>by
    unfold cAt
    rw [List.getD_eq_getElem?_getD, List.getElem?_eq_getElem (by lia)]; rfl
  have crng:∀ k:Int, 0 ≤ k→k < (codes.length:Int)→cAt codes k = 0 ∨ cAt codes k = 1 ∨ cAt codes k = 2:=fun k a b=>hco _ (List.mem_of_getElem? (cget k a b))
  w_strict (
    (have mk:=kstMark)
    k_steps
    (unfold Halt)
    (rename Fr _ _ _ _=>F1)
    (rename News _ _ _ _=>N1)
    (rename IsRange _ _ _ _ _ _ _ _=>R1)
    (refine' LCg.CompSrc.range (n:=codes.length) rfl F1 N1 R1 (small_one (by lia) (by lia) (by lia) (by lia)) (by rw [rangeSize_nat]; lia) (by rw [sizeLine_eq]; lia) (fun g0=>?q2))
    (refine' compU_ind (fun i ys=>StrsAre ys ((List.range i).map fun k:Nat=>textF k)) codes.length ?q3 ?q4 _ 0 [] (Nat.zero_add _) .nil)
    (case q4 =>
      intro k i ys hi9 hy hrest
      (refine' LCg.CompRest.succ ?q5)
      intro v I oI C oC D m2 h tk E2 hv hC hxm F5 N5 off ne
      (revert hv; refine eE1 fun t5 hR1=>?_; subst hR1)
      rw [Int.zero_add] at hxm
      clear F1 N1 R1
      k_steps
      (unfold Halt)
      (rename Fr _ _ _ _=>F6)
      (rename News _ _ _ _=>N6)
      (refine' text_tells ?b1 F6 N6 ?b2 ?b3 ?b4 ?b5 ?b6 ?b7 ?b8 ?b9)
      (case b1=>k_asm)
      (case b2=>k_asm)
      (case b3=>exact rfl)
      (case b4=>lia)
      (case b5=>lia)
      (case b6=>ktr_room)
      (case b7=>ktr_units)
      (case b9=>k_asm)
      (case b8 =>
        intro t6 h6 tk6 F7 N7
        clear F6 N6
        k_steps
        (unfold Halt)
        (rename Fr _ _ _ _=>F8)
        (rename News _ _ _ _=>N8)
        exact LCg.CompEnd.intro F8 N8 _ (fun p hp=>hp) off trivial (hrest _ (by rw [List.range_succ, List.map_append]; exact strs_snoc hy))))
    (case q3 =>
      intro ys hy D5 h5 tk5 F5 N5 o5
      clear F1 N1 R1
      k_steps
      (unfold Halt)
      (rename Fr _ _ _ _=>F9)
      (rename News _ _ _ _=>N9)
      (rename IsRange _ _ _ _ _ _ _ _=>R9)
      (rename _ ∧ AllLt _ _=>lR9)
      ((refine eE2 (fun R9a t9=>?_) (ex_told F9 N9 lR9); refine eA3 fun F9b N9b l9b=>?_))
      clear F9 N9
      (refine' kx_range (τ:=ToldT) (n:=codes.length) (fun t=>[(Str.ofString "start", .int (t.1:Int) t.2.1)]) [] (ToldSt order codes R9a ((D5, LCg.lst ys) :: led)) (0, t9, [], [], 0) (by rfl) (by rfl) hE hgb rfl R9 (small_one (by lia) (by lia) (by lia) (by lia)) (by rw [rangeSize_nat]; lia) F9b N9b ?pk ?pP ?turn ?done)
      (case pk=>exact List.forall_mem_singleton.mpr rfl)
      (case pP=>exact ⟨Nat.le_refl _, fun _=>rfl, fun _=>run_one, .head _, .nil, Nat.le_refl _, ⟨rfl, rfl, List.forall_mem_nil _⟩, fun p hp=>.tail _ hp⟩)
      (case turn =>
        (rintro i c hZ1; obtain ⟨st, ts, rv, rw9, rc⟩:=hZ1; rintro u h7 gs7 tk7 I7 oI7 tv hg7 hi P7 off7 lI7 F7 N7)
        obtain ⟨p1, p2, p3, p4, p5, p6, p7, p8⟩:=P7
        dsimp only at p1 p2 p3 p4 p5 p6 p7
        clear F9b N9b
        rw [kst_at (u:=u) (t0:=t9)] at F7
        (have n9:=fun p hp=>Nat.ne_of_lt (l9b p hp))
        (have g1:=orng st (by exact Nat.lt_of_le_of_lt p1 hi))
        (have g2:=orng i hi)
        (have g3:=(p3 hi i p1 (Nat.le_refl _)).1)
        (refine' told_turn (vt:=ys) (nt:=ys.length) (rw:=rw9) (st:=st) (order:=order) (codes:=codes) (x1:=oAt order (i + 1)) (x2:=oAt order i) (x3:=oAt order st) (c1:=cAt codes (oAt order (i + 1))) (c3:=cAt codes (oAt order st)) B F7 N7 T hE (.tail _ (p8 _ (.tail _ hod))) (.tail _ (p8 _ (.tail _ hcd))) (.tail _ (p8 _ (.head _))) (.tail _ p4) (by assumption) (by assumption) hl hi p1 hmax hy ?t1 ?t2 ?t3 ?t4 ?t5 ?t6 ?t7 ?t8 ?t9 ?u1 ?u2 ?u3 ?u4 p5 hg7 hd hu ?u5 ?u6 X)
        (case t1=>rw [strs_len p5]; lia)
        (case t2=>intro hne; (have a:=oget (1 + (i:Int)) (by lia) (by lia)); rw [show (1 + (i:Int)).toNat = i + 1 by lia] at a ⊢; exact a)
        (case t3=>(have a:=oget (1 + (i:Int) - 1) (by lia) (by lia)); rw [show (1 + (i:Int) - 1).toNat = i by lia] at a ⊢; exact a)
        (case t4=>(have a:=oget (st:Int) (by lia) (by lia)); rw [Int.toNat_natCast] at a ⊢; exact a)
        (case t5=>intro hne; (have a:=orng (i + 1) (by lia)); exact cget _ a.1 a.2)
        (case t6=>exact cget _ g1.1 g1.2)
        (case t7=>exact crng _ g1.1 g1.2)
        (case t8 => by_cases e : i + 1 < codes.length
                    · (have a:=orng (i + 1) e); lia
                    · (unfold oAt; rw [List.getD_eq_getElem?_getD, List.getElem?_eq_none (by lia)]; decide))
        (case t9=>lia)
        (case u1=>lia)
        (case u2=>exact n9 _ (.tail _ hod))
        (case u3=>exact n9 _ (.tail _ hcd))
        (case u4=>exact n9 _ (.head _))
        (case u5 =>
          intro tk8 hP
          (have hc:cAt codes (oAt order (i + 1)) = cAt codes (oAt order st):=by by_cases e:cAt codes (oAt order (i + 1)) = cAt codes (oAt order st); exact e; exact absurd (.inr (.inr e)) hP)
          dsimp only [KxPost]
          (refine' kx_end (st, ts, rv, rw9, rc) hg7 F7 N7 (List.forall_mem_nil _) off7 (List.forall_mem_singleton.mpr rfl) (fun z z1 z2 _=>?v1) ⟨by lia, fun h=>?v2, fun _=>run_ext (p3 hi) p1 (by lia) hc, p4, p5, p6, p7, p8⟩)
          (case v1=>(have z2':=z2 _ (.head _)); unfold toldMt toldM; rw [if_neg z1, if_neg z2', if_neg z2'])
          (case v2=>exact absurd (.inl (by lia)) hP))
        (case u6 =>
          intro h8 tk8 gs8 led8 rv8 rc8 hg8 hP F8 N8 m8 k8 s8
          dsimp only [KxPost]
          (have kI:=k8 _ (.head _) (off7 _ p4).symm)
          (refine' kx_end (c:=led8.filter fun p=>decide (p.1 ≠ I7)) (i + 1, tv, rv8, rw9 ++ rowsOf (cAt codes (oAt order st)) (oAt order st) (oAt order i + 1 - oAt order st).toNat, rc8) hg8 F8 (news_front N8 kI) (List.forall_mem_nil _) front_ne (List.forall_mem_singleton.mpr ?v0) (fun z z1 z2 _=>?v1) ⟨Nat.le_refl _, fun _=>rfl, fun _=>run_one, mem_filt m8 (show R9a ≠ I7 from off7 _ p4), s8, ?v3, rows_step p7 (p3 hi) p1 (by lia) g1.1 (by lia) (crng _ g1.1 g1.2), fun p hp=>mem_filt (k8 p (.tail _ (p8 p hp)) (n9 p hp)) (off7 p (p8 p hp))⟩)
          (case v0=>rw [if_pos rfl]; (have e:((i + 1:Nat):Int) = 1 + (i:Int):=by lia); rw [e])
          (case v1=>(have z2':=z2 _ (.head _)); unfold toldMt toldM; rw [if_neg z2', if_neg z1, if_neg z2', if_neg z2'])
          (case v3=>rw [List.length_append]; (have a:=rows_len (c:=cAt codes (oAt order st)) (x:=oAt order st) (n:=(oAt order i + 1 - oAt order st).toNat)); (rw [g3] at a ⊢); lia)))
      (case done =>
        (rintro c hZ2; obtain ⟨st, ts, rv, rw9, rc⟩:=hZ2; rintro u h7 gs7 tk7 hg7 P7 F7 N7)
        obtain ⟨p1, p2, p3, p4, p5, p6, p7, p8⟩:=P7
        dsimp only at p1 p2 p3 p4 p5 p6 p7
        obtain rfl:=p2 rfl
        clear F9b N9b
        dsimp only
        (have F7:=fr_ins (x:=Str.ofString "rows") (v:=.ref R9a) F7 (by exact rfl))
        (have hto:order.take codes.length = order:=by rw [← hl, List.take_length])
        unfold RowsOk at p7
        rw [hto] at p7
        (have F7:Fr h₀ L h7 _:=F7)
        (have N7:News h₀ L h7 _:=N7)
        (have hr:=Eq.refl toldRet)
        (conv at hr=>rhs; whnf)
        rw [← hr]
        with_reducible refine told_ret B F7 N7 T p4 p5 p7.2.2 (by lia) hg7 hd hu ?w1 X
        intro h8 tk8 gs8 led8 S8 T1 T2 v1 v2 n0 n1 n2 hg8 F8 N8 k8 a1 a2 a3 a4 a5 a6 a7 a8
        rw [p7.1] at a4
        rw [p7.2.1] at a5
        exact ret h8 tk8 gs8 led8 S8 T1 T2 v1 v2 n0 n1 n2 hg8 F8 N8 (fun p hp=>k8 p (p8 p (.tail _ hp))) a1 a2 a3 a4 a5)))
end
end
end
section
open PySem PySem.W PyProof.Rows PySem.Challenge PySem.Spec
noncomputable abbrev wrkM2 (sa S:Addr) (mr:Str→Option Value):Str→Option Value:=fun y=>if y = Str.ofString "side" then some (.ref sa) else if y = Str.ofString "sorter" then some (.ref S) else mr y
theorem SrtB.keep {w:World} {led n0:List (Addr × Obj)} {S:Addr} {E:List (Int × Int)} {ks:Int→Prop} (h:SrtB w led n0 S E ks):∀ q ∈ n0, q ∈ led:=by
  (revert h; refine eE11 fun dS D t1 t2 t3 t4 tp tf o kvs ns K=>?_)
  exact K.h0
local macro_rules | `(tactic| walk_at $s)=>Tab.rules s "exec For Name Name cons nil||forX|?f|w"
local macro_rules | `(tactic| walk_at $s)=>Tab.rules s "none 4"
theorem wrk_side {w:World} {dp un:Nat} {gd:Option (List Code)} {outer:List Env} {A₀:Around} {base h₀ hp:Heap} {L S sa:Addr} {gs:Array GenState} {dr:Drawn} {tk0:Nat} {os:OsState} {Q:Flow→Shared→Prop} {E:Value→Shared→Prop}
    {mean:ExcName→Option Value} {mg mb:Str→Option Value} {va:List Value} {la:List Int} {ca:Nat} {led n0:List (Addr × Obj)} {mr:Str→Option Value} {N:Nat} {Eg:List (Int × Int)} {ks:Int→Prop}
    (B:Below A₀ base outer h₀) (F:Fr h₀ L hp (wrkM2 sa S mr)) (Nw:News h₀ L hp led) (T:Top q2 (looseW q2 loose2) mean mg mb h₀)
    (hE:PassesOwn (model rw_mu0013_01.row.prog w) (wrkA dp un gd L outer) (wrkE L) E)
    (hB:SrtB w led n0 S Eg ks) (hsa:(sa, listOf va.toArray ca) ∈ n0) (hia:IntsAre va la) (hasc:la.Pairwise (· < ·)) (hEg:∀ a b, (a, b) ∈ Eg→ks a ∧ ks b) (hks:∀ k, ks k ∨ k ∈ la→0 ≤ k ∧ k < (N:Int)) (hN:N ≤ 69) (hEl:Eg.length ≤ 100)
    (hgb:AllBare gs) (hd:dp + 150 < recursionLimit) (hu:un + 2000 < cLine)
    (ret:∀ (u:Str→Option Value) h' gs' tk' led', AllBare gs'→Fr h₀ L h' (fun y=>if y = Str.ofString "k" then u y else wrkM2 sa S mr y)→News h₀ L h' led'→SrtB w led' n0 S (Eg ++ edg la la.length) (fun k=>ks k ∨ k ∈ la)→Q .next ⟨h', gs', dr, tk', os⟩) :
    (K2 w.params).In h₀→wpAny (model rw_mu0013_01.row.prog w) (wrkA dp un gd L outer) (execs (forBody wrkFor1) (wrkE L)) Q E ⟨hp, gs, dr, tk0, os⟩:=by
  w_on
  k_fill
  intro X
  have hb:=Eq.refl (forBody wrkFor1)
  conv at hb=>rhs; whnf
  rw [hb]
  clear hb
  have hla:la.length ≤ N:=by
    have:=nodup_len (l:=la) (m:=upto N) (hasc.imp fun h=>by exact Int.ne_of_lt h) fun x hx=>mem_upto.mpr (hks x (.inr hx))
    rwa [len_upto] at this
  have hva:=hia.length
  have hsa':=hB.keep _ hsa
  w_strict (
    (have mk:=kstMark)
    k_steps
    (unfold Halt)
    (rename Fr _ _ _ _=>F1)
    (rename News _ _ _ _=>N1)
    (rename IsRange _ _ _ _ _ _ _ _=>R1)
    (rename IntsAre va la=>hia)
    (refine' kx_range (τ:=Unit) (n:=la.length) (fun _=>[]) [] (fun i c _=>SrtB w c n0 S (Eg ++ edg la i) (fun k=>ks k ∨ k ∈ la.take i)) () (by rfl) (by rfl) hE hgb rfl R1 (small_one (by lia) (by lia) (by lia) (by lia)) (by rw [rangeSize_nat]; lia) F1 N1 (List.forall_mem_nil _) ?pP ?turn ?done)
    (case pP=>exact (by rw [show Eg ++ edg la 0 = Eg from List.append_nil _]; exact hB.congr fun x=>by simp))
    (case turn =>
      intro i c _ u h7 gs7 tk7 I7 oI7 tv hg7 hi P7 off7 lI7 F7 N7
      clear F1 N1 R1
      (have P7':=P7.beside (p:=(I7, oI7)) off7)
      (have F8:=fr_as F7 (wrkM1 (0 + (i:Int)) tv sa S mr) (by rfl))
      clear F7
      (refine' wrk_turn1 (mr:=mr) (va:=va) (la:=la) (ca:=ca) (N:=N) B F8 N7 T hE P7' (.tail _ hsa) hia hi hasc hEg hks hN hEl hd hu ?w1 X)
      intro h9 tk9 led9 F9 N9 hB9
      (have hI:=hB9.keep _ (.head _))
      dsimp only [KxPost]
      (refine' kx_end () hg7 F9 (news_front N9 hI) (List.forall_mem_nil _) front_ne (List.forall_mem_nil _) ?w2 (hB9.without fun q hq=>off7 q (P7.keep q hq)))
      exact fun z z1 _ _=>if_neg z1)
    (case done =>
      intro c _ u h7 gs7 tk7 hg7 P7 F7 N7
      clear F1 N1 R1
      (have F8:=fr_as F7 (fun y=>if y = Str.ofString "k" then u y else wrkM2 sa S mr y) (by rfl))
      clear F7
      k_steps
      refine ret u _ _ _ _ hg7 (by assumption) (by assumption) ?_
      rw [List.take_length] at P7
      exact P7))
noncomputable def Eo (l1 l2:List Int):Nat→List (Int × Int)
  | 0=>[]
  | 1=>edg l1 l1.length
  | _=>edg l1 l1.length ++ edg l2 l2.length
noncomputable def Ko (l1 l2:List Int) (i:Nat) (k:Int):Prop:=(1 ≤ i ∧ k ∈ l1) ∨ (2 ≤ i ∧ k ∈ l2)
theorem map_a {u:Str→Option Value} {S od sd sa:Addr}:(fun y=>if y = Str.ofString "side" then some (Value.ref sa) else kstB (fun z=>if ([Str.ofString "k"]:List Str).contains z then u z else wrkM S od sd z) [] y) = wrkM2 sa S (fun y=>if y = Str.ofString "k" then u y else wrkM S od sd y):=by
  funext y
  by_cases e1:y = Str.ofString "side"
  · subst e1; rfl
  · by_cases e2:y = Str.ofString "sorter"
    · subst e2; rfl
    · by_cases e3:y = Str.ofString "k"
      · subst e3; rfl
      · simp only [wrkM2, kstB, if_neg e1, if_neg e2, if_neg e3, not_in e3, Bool.false_eq_true, if_false]
theorem map_b {u:Str→Option Value} {S od sd:Addr}:(fun y=>if y = Str.ofString "side" then u y else kstB (fun z=>if ([Str.ofString "k"]:List Str).contains z then u z else wrkM S od sd z) [] y) = (fun y=>if y = Str.ofString "side" then u y else if y = Str.ofString "k" then u y else wrkM S od sd y):=by
  funext y
  by_cases e1:y = Str.ofString "side"
  · rw [if_pos e1, if_pos e1]
  · by_cases e3:y = Str.ofString "k"
    · subst e3; rfl
    · simp only [kstB, if_neg e1, if_neg e3, not_in e3, Bool.false_eq_true, if_false]
theorem map_c {u u9:Str→Option Value} {S od sd sa:Addr} {z:Str} (z1:z ≠ Str.ofString "side") (z2:z ≠ Str.ofString "k"):(fun y=>if y = Str.ofString "k" then u9 y else wrkM2 sa S (fun y=>if y = Str.ofString "k" then u y else wrkM S od sd y) y) z = wrkM S od sd z:=by
  simp only [wrkM2, if_neg z1, if_neg z2]
  by_cases e2:z = Str.ofString "sorter"
  · subst e2; rfl
  · rw [if_neg e2]
theorem wrk_for1 {w:World} {dp un:Nat} {gd:Option (List Code)} {outer:List Env} {A₀:Around} {base h₀ hp:Heap} {L S od sd s1 s2:Addr} {gs:Array GenState} {dr:Drawn} {tk0:Nat} {os:OsState} {Q:Flow→Shared→Prop} {E:Value→Shared→Prop}
    {mean:ExcName→Option Value} {mg mb:Str→Option Value} {v1 v2:List Value} {l1 l2:List Int} {c1 c2 c0:Nat} {led n0:List (Addr × Obj)} {N:Nat}
    (B:Below A₀ base outer h₀) (F:Fr h₀ L hp (wrkM S od sd)) (Nw:News h₀ L hp led) (T:Top q2 (looseW q2 loose2) mean mg mb h₀)
    (hE:PassesOwn (model rw_mu0013_01.row.prog w) (wrkA dp un gd L outer) (wrkE L) E)
    (hB:SrtB w led n0 S [] (fun _=>False)) (hsd:(sd, listOf [.ref s1, .ref s2].toArray c0) ∈ n0) (h1:(s1, listOf v1.toArray c1) ∈ n0) (h2:(s2, listOf v2.toArray c2) ∈ n0) (hi1:IntsAre v1 l1) (hi2:IntsAre v2 l2) (ha1:l1.Pairwise (· < ·)) (ha2:l2.Pairwise (· < ·)) (hks:∀ k, k ∈ l1 ∨ k ∈ l2→0 ≤ k ∧ k < (N:Int)) (hN:N ≤ 69)
    (hgb:AllBare gs) (hd:dp + 150 < recursionLimit) (hu:un + 2000 < cLine)
    (ret:∀ (u:Str→Option Value) h' gs' tk' led', AllBare gs'→Fr h₀ L h' (fun y=>if y = Str.ofString "side" then u y else if y = Str.ofString "k" then u y else wrkM S od sd y)→News h₀ L h' led'→SrtB w led' n0 S (edg l1 l1.length ++ edg l2 l2.length) (fun k=>k ∈ l1 ∨ k ∈ l2)→Q .next ⟨h', gs', dr, tk', os⟩) :
    (K2 w.params).In h₀→wpAny (model rw_mu0013_01.row.prog w) (wrkA dp un gd L outer) (exec wrkFor1 (wrkE L)) Q E ⟨hp, gs, dr, tk0, os⟩:=by
  w_on
  k_fill
  intro X
  have hb:=Eq.refl wrkFor1
  conv at hb=>rhs; whnf
  rw [hb]
  clear hb
  have hlen:∀ l:List Int, l.Pairwise (· < ·)→(∀ x ∈ l, 0 ≤ x ∧ x < (N:Int))→l.length ≤ N:=fun l hl hx=>by
    have:=nodup_len (l:=l) (m:=upto N) (hl.imp fun h=>by exact Int.ne_of_lt h) fun x hxl=>mem_upto.mpr (hx x hxl)
    rwa [len_upto] at this
  have hl1:=hlen l1 ha1 fun x hx=>hks x (.inl hx)
  have hg1:=edg_len (l:=l1) (n:=l1.length)
  w_strict (
    (have mk:=kstMark)
    k_steps
    (unfold Halt)
    (rename Fr _ _ _ _=>F1)
    (rename News _ _ _ _=>N1)
    (refine' kx_list (τ:=Unit) (vs:=[.ref s1, .ref s2]) (nn:=c0) (fun _=>[]) [Str.ofString "k"] (fun i c _=>SrtB w c n0 S (Eo l1 l2 i) (Ko l1 l2 i)) () (by rfl) (by rfl) hE hgb rfl (hB.keep _ hsd) F1 N1 (List.forall_mem_nil _) ?pP ?turn ?done)
    (case pP=>exact hB.congr fun x=>⟨False.elim, fun h=>by rcases h with h | h <;> lia⟩)
    (case turn =>
      intro i v c _ u h7 gs7 tk7 I7 oI7 hg7 hv P7 hl7 off7 lI7 F7 N7
      clear F1 N1
      (have P7':=P7.beside (p:=(I7, oI7)) off7)
      (obtain ⟨sa, va, la, ca, rfl, m1, m2, m3, m4, m5, m6, m7⟩:∃ sa va la ca, v = .ref sa ∧ (sa, listOf (List.toArray va) ca) ∈ n0 ∧ IntsAre va la ∧ la.Pairwise (· < ·) ∧ (∀ a b, (a, b) ∈ Eo l1 l2 i→Ko l1 l2 i a ∧ Ko l1 l2 i b) ∧ (∀ k, Ko l1 l2 i k ∨ k ∈ la→0 ≤ k ∧ k < (N:Int)) ∧ (Eo l1 l2 i).length ≤ 100 ∧ Eo l1 l2 (i + 1) = Eo l1 l2 i ++ edg la la.length ∧ ∀ k, Ko l1 l2 i k ∨ k ∈ la ↔ Ko l1 l2 (i + 1) k:=by
        match i, hv with
        | 0, hv =>
          cases hv
          refine (iE4 s1 v1 l1 c1 ⟨rfl, h1, hi1, ha1, fun a b h=>(nomatch h), fun k h=>hks k ?_, Nat.zero_le _, rfl, fun k=>?_⟩)
          · rcases h with h | h
            · unfold Ko at h; lia
            · exact .inl h
          · unfold Ko
            constructor
            · rintro (h | h)
              · lia
              · exact .inl ⟨Nat.le_refl _, h⟩
            · rintro (h | h)
              · exact .inr h.2
              · lia
        | 1, hv =>
          cases hv
          refine (iE4 s2 v2 l2 c2 ⟨rfl, h2, hi2, ha2, fun a b h=>?_, fun k h=>hks k ?_, ?_, rfl, fun k=>?_⟩)
          · have:=edg_take h (Nat.le_refl _)
            rw [List.take_length] at this
            exact ⟨.inl ⟨Nat.le_refl _, this.1⟩, .inl ⟨Nat.le_refl _, this.2⟩⟩
          · rcases h with h | h
            · unfold Ko at h
              rcases h with h | h
              · exact .inl h.2
              · lia
            · exact .inr h
          · show (edg l1 l1.length).length ≤ 100
            lia
          · unfold Ko
            constructor
            · rintro ((h | h) | h)
              · exact .inl ⟨by lia, h.2⟩
              · lia
              · exact .inr ⟨Nat.le_refl _, h⟩
            · rintro (h | h)
              · exact .inl (.inl ⟨Nat.le_refl _, h.2⟩)
              · exact .inr h.2
        | i + 2, hv=>exact absurd hv (by simp))
      (have F8:=fr_as F7 (wrkM2 sa S (fun y=>if y = Str.ofString "k" then u y else wrkM S od sd y)) map_a)
      clear F7
      (refine' wrk_side (N:=N) (va:=va) (la:=la) (ca:=ca) B F8 N7 T hE P7' (.tail _ m1) m2 m3 m4 m5 hN m6 hg7 hd hu ?w1 X)
      intro u9 h9 gs9 tk9 led9 hg9 F9 N9 hB9
      (have hI:=hB9.keep _ (.head _))
      dsimp only [KxPost]
      (refine' kx_end () hg9 F9 (news_front N9 hI) ?w3 front_ne (List.forall_mem_nil _) ?w2 ?w4)
      (case w3=>exact List.forall_mem_singleton.mpr (mem_filt (hB9.keep _ (.tail _ hsd)) (off7 _ (P7.keep _ hsd))))
      (case w2=>exact fun z z1 _ z3=>map_c z1 (ne_of_stored z3))
      (case w4 =>
        have:=hB9.without (fun q hq=>off7 q (P7.keep q hq))
        rw [← m7.1] at this
        exact this.congr m7.2))
    (case done =>
      intro c _ u h7 gs7 tk7 hg7 P7 hl7 F7 N7
      clear F1 N1
      (have F8:=fr_as F7 (fun y=>if y = Str.ofString "side" then u y else if y = Str.ofString "k" then u y else wrkM S od sd y) map_b)
      clear F7
      refine ret u _ _ _ _ hg7 F8 N7 ?_
      exact P7.congr fun x=>by
        show Ko l1 l2 2 x ↔ _
        unfold Ko
        constructor
        · exact fun h=>h.imp And.right And.right
        · exact fun h=>h.imp (fun h=>⟨by decide, h⟩) (fun h=>⟨Nat.le_refl _, h⟩)))
end
end
section
open PySem PySem.W PyProof.Rows PySem.Challenge PySem.Spec PySem.Calls
local macro_rules | `(tactic| walk_at $s)=>Tab.rules s "call ref|halt"
section
open PySem PySem.W PyProof.Rows PySem.Challenge PySem.Spec
theorem told_tells {w:World} {dp un:Nat} {gd:Option (List Code)} {cn:Str} {cs:Scope} {a:Addr} {ccd:Value} {cl:List (Str × Addr)} {outer:List Env} {A₀:Around} {base h₀:Heap} {L:Addr} {m:Str→Option Value} {news:List (Addr × Obj)} {s:Shared}
    {mean:ExcName→Option Value} {mg mb:Str→Option Value} {od cd:Addr} {vo vc:List Value} {order codes:List Int} {no nc:Nat} {Q E:Value→Shared→Prop}
    (B:Below A₀ base outer h₀) (F:Fr h₀ L s.heap m) (N:News h₀ L s.heap news) (T:Top q2 (looseW q2 loose2) mean mg mb h₀) (hk:cs.kind = .function) (hod:(od, listOf vo.toArray no) ∈ news) (hcd:(cd, listOf vc.toArray nc) ∈ news) (hio:IntsAre vo order) (hic:IntsAre vc codes) (hl:order.length = codes.length) (hpos:0 < codes.length) (hro:∀ k ∈ order, 0 ≤ k ∧ k < codes.length) (hco:∀ c ∈ codes, c = 0 ∨ c = 1 ∨ c = 2) (hmax:codes.length ≤ 69) (hgb:AllBare s.gens)
    (hd:dp + 60 < recursionLimit) (hu:un + 600 < cLine)
    (ret:∀ h' tk' gs' led' S T1 T2 v1 v2 n0 n1 n2, AllBare gs'→Fr h₀ L h' m→News h₀ L h' led'→(∀ p ∈ news, p ∈ led')→(S, listOf #[.ref T1, .ref T2] n0) ∈ led'→(T1, listOf (List.toArray v1) n1) ∈ led'→(T2, listOf (List.toArray v2) n2) ∈ led' →
      StrsAre v1 ((order.filter fun k=>decide (cAt codes k ≠ 2)).map textF)→StrsAre v2 ((order.filter fun k=>decide (cAt codes k ≠ 1)).map textF)→Q (.ref S) ⟨h', gs', s.drawn, tk', s.os⟩) :
    (K2 w.params).In h₀→wpAny (model rw_mu0013_01.row.prog w) (ktrTop dp un gd cn cs L a ccd cl outer) (call (.ref 456) [.ref od, .ref cd]) Q E s:=by
  w_on
  k_fill
  intro X
  obtain ⟨ck, cnm, cig, cic, cmo⟩:=cs
  change ck = _ at hk
  subst hk
  refine wpAny_call ?_
  w_strict (
    k_dflt k_enter
    (rename Fr _ _ _ _=>F0)
    (rename News _ _ _ _=>N1)
    (have F1:=fr_as F0 (fun y=>List.lookup y [(Str.ofString "codes", .ref cd), (Str.ofString "order", .ref od)]) (by with_unfolding_all rfl))
    clear F0
    (change wpAny _ (toldA _ _ _ _ _) (execs (bodyOf (top 17)) (toldE _)) _ _ _)
    (with_reducible refine' told_body ?b1 F1 N1 ?b2 ?b3 hod hcd hio hic hl hpos hro hco hmax ?b8 ?b4 ?b5 ?b6 ?b7)
    (case b1=>k_asm)
    (case b2=>k_asm)
    (case b3=>first | assumption | passes_own)
    (case b4=>ktr_room)
    (case b5=>ktr_units)
    (case b7=>k_asm)
    (case b8=>exact hgb)
    (case b6 =>
      intro h8 tk8 gs8 led8 S8 T1 T2 v1 v2 n0 n1 n2 hg8 F8 N8 k8 a1 a2 a3 a4 a5
      (revert F8; refine eE1 fun m8 F8=>?_)
      clear F1 N1
      k_steps
      (rename Fr h₀ L _ m=>F9)
      exact ret _ _ _ _ _ _ _ _ _ _ _ _ hg8 (by assumption) (by assumption) k8 a1 a2 a3 a4 a5))
end
section
open PySem PySem.W PyProof.Rows PySem.Challenge PySem.Spec
noncomputable abbrev wrkFor3:Stmt:=(bodyOf (top 19)).getD 5 (.Pass ⟨0, 0, 0, 0⟩)
noncomputable abbrev wrkM3 (k:Int) (tk:Tok) (S out lft:Addr) (mr:Str→Option Value):Str→Option Value:=fun y=>if y = Str.ofString "k" then some (.int k tk) else if y = Str.ofString "sorter" then some (.ref S) else if y = Str.ofString "out" then some (.ref out) else if y = Str.ofString "left" then some (.ref lft) else mr y
local macro_rules | `(tactic| walk_at $s)=>Tab.rules s "execs cons|execs|6
call builtin:list.extend||extendTU|aammz?|id"
theorem m3_self {k:Int} {tk:Tok} {S out lft:Addr} {m:Str→Option Value} (h1:m (Str.ofString "k") = some (.int k tk)) (h2:m (Str.ofString "sorter") = some (.ref S)) (h3:m (Str.ofString "out") = some (.ref out)) (h4:m (Str.ofString "left") = some (.ref lft)):m = wrkM3 k tk S out lft m:=by
  funext y
  unfold wrkM3
  by_cases e1:y = Str.ofString "k"
  · rw [if_pos e1, e1, h1]
  rw [if_neg e1]
  by_cases e2:y = Str.ofString "sorter"
  · rw [if_pos e2, e2, h2]
  rw [if_neg e2]
  by_cases e3:y = Str.ofString "out"
  · rw [if_pos e3, e3, h3]
  rw [if_neg e3]
  by_cases e4:y = Str.ofString "left"
  · rw [if_pos e4, e4, h4]
  · rw [if_neg e4]
theorem ints_app {vs us:List Value} {ns ms:List Int} (h:IntsAre vs ns) (h':IntsAre us ms):IntsAre (vs ++ us) (ns ++ ms):=by
  induction h with
  | nil=>exact h'
  | cons a u _ ih=>exact .cons a u ih
theorem wrk_a {w:World} {dp un:Nat} {gd:Option (List Code)} {outer:List Env} {A₀:Around} {base h₀ hp:Heap} {L S out lft:Addr} {gs:Array GenState} {dr:Drawn} {tk0:Nat} {os:OsState} {Q:Flow→Shared→Prop} {E:Value→Shared→Prop}
    {mean:ExcName→Option Value} {mg mb:Str→Option Value} {led:List (Addr × Obj)} {mr:Str→Option Value} {N:Nat} {pre suc:Int→List Int} {own:List Addr} {dn ou rk:List Int} {vo vl:List Value} {co cl:Nat} {k:Int} {tk:Tok}
    (B:Below A₀ base outer h₀) (F:Fr h₀ L hp (wrkM3 k tk S out lft mr)) (Nw:News h₀ L hp led) (T:Top q2 (looseW q2 loose2) mean mg mb h₀)
    (hE:PassesOwn (model rw_mu0013_01.row.prog w) (wrkA dp un gd L outer) (wrkE L) E)
    (hS:Sorter w N pre suc led S own dn ou rk) (hout:(out, listOf vo.toArray co) ∈ led) (hlft:(lft, listOf vl.toArray cl) ∈ led) (oout:out ∉ own) (olft:lft ∉ own)
    (hne:(ou.isEmpty && rk.isEmpty) = false) (hlo:vo.length ≤ 900) (hlr:rk.length ≤ 900) (hio:IntsAre vo ou)
    (hd:dp + 150 < recursionLimit) (hu:un + 2000 < cLine)
    (next:∀ vo' co' h' tk' led' mr', (∀ z, z ≠ Str.ofString "active"→z ≠ Str.ofString "more"→wrkM3 k tk S out lft mr' z = wrkM3 k tk S out lft mr z)→Fr h₀ L h' (wrkM3 k tk S out lft mr')→News h₀ L h' led'→Sorter w N pre suc led' S own dn (ou ++ rk) []→(out, listOf (List.toArray vo') co') ∈ led'→IntsAre vo' (ou ++ rk)→(∀ q ∈ led, q.1 ∉ own→q.1 ≠ out→q ∈ led')→wpAny (model rw_mu0013_01.row.prog w) (wrkA dp un gd L outer) (execs ((forBody wrkFor3).drop 3) (wrkE L)) Q E ⟨h', gs, dr, tk', os⟩) :
    (K2 w.params).In h₀→wpAny (model rw_mu0013_01.row.prog w) (wrkA dp un gd L outer) (execs (forBody wrkFor3) (wrkE L)) Q E ⟨hp, gs, dr, tk0, os⟩:=by
  w_on
  k_fill
  intro X
  have hb:=Eq.refl (forBody wrkFor3)
  conv at hb=>rhs; whnf
  rw [hb]
  clear hb
  (refine eE9 (fun dS1 t11 t12 t13 t14 D1 rv1 pv1 fv1=>?_) hS.sm; refine eA2 fun hs1 hd1=>?_)
  w_strict (
    (have mk:=kstMark)
    k_steps
    (unfold Halt)
    (refine' actS (hS:=hS) ?b1 F Nw ?b2 ?b3 ?b4 ?b5 ?b6 ?b7)
    (case b1=>k_asm)
    (case b2=>k_asm)
    (case b3=>exact rfl)
    (case b4=>ktr_room)
    (case b5=>ktr_units)
    (case b7=>k_asm)
    (case b6 =>
      intro h2 tk2 F2 N2
      clear F Nw
      (simp only [hne, Bool.not_false])
      k_steps
      (unfold Halt)
      (refine' rdyS (hS:=hS) ?zb1 F2 N2 ?zb2 ?zb3 ?zHH ?zb4 ?zb5 ?zb6 ?zb7)
      (case zb1=>k_asm)
      (case zb2=>k_asm)
      (case zb3=>exact rfl)
      (case zHH=>exact .inl rfl)
      (case zb4=>ktr_room)
      (case zb5=>ktr_units)
      (case zb7=>k_asm)
      (case zb6 =>
        intro T3 vs3 h3 tk3 led3 F3 N3 hT3 hvs3 hS3 hK3 hlt3
        clear F2 N2
        ((refine eE9 (fun dS3 t31 t32 t33 t34 D3 rv3 pv3 fv3=>?_) hS3.sm; refine eA2 fun hs3 hd3=>?_))
        k_steps
        (unfold Halt)
        (rename Fr _ _ _ _=>F4)
        (rename News _ _ _ _=>N4')
        (have N4:=fun p (hp:p ∈ led3)=>N4' p (.tail _ hp))
        clear N4'
        (have hv3:=hvs3.length)
        (have hne2:((ou ++ rk).isEmpty && ([]:List Int).isEmpty) = false:=by
          cases ou <;> cases rk <;> first | rfl | exact hne)
        (have mo:=hK3 _ hout oout)
        (have ml:=hK3 _ hlft olft)
        (refine' actS (hS:=hS3) ?yb1 F4 N4 ?yb2 ?yb3 ?yb4 ?yb5 ?yb6 ?yb7)
        (case yb1=>k_asm)
        (case yb2=>k_asm)
        (case yb3=>exact rfl)
        (case yb4=>ktr_room)
        (case yb5=>ktr_units)
        (case yb7=>k_asm)
        (case yb6 =>
          intro h5 tk5 F5 N5
          clear F4 N4
          (simp only [hne2, Bool.not_false])
          k_steps
          (unfold Halt)
          (rename Fr _ _ _ _=>F6)
          (rename News _ _ _ _=>N6)
          (refine' next (vo ++ vs3) _ _ _ _ _ ?xm (fr_as F6 _ (m3_self (by rfl) (by rfl) (by rfl) (by rfl))) N6 ?xa ?xb ?xc ?xd)
          (case xm=>exact fun z z1 z2=>(congrFun (m3_self (by rfl) (by rfl) (by rfl) (by rfl)) z).symm.trans (by rw [if_neg z1, if_neg z2]))
          (case xa=>exact hS3.mono fun q hq ho=>mem_upL_ne hq fun e=>oout (e ▸ ho))
          (case xb=>exact mem_upL_self mo)
          (case xc=>exact ints_app hio hvs3)
          (case xd=>exact fun q hq h1 h2=>mem_upL_ne (hK3 q hq h1) h2)))))
end
section
open PySem PySem.W PyProof.Rows PySem.Challenge PySem.Spec PySem.Calls
section
open PySem PySem.W PyProof.Rows PySem.Challenge PySem.Spec
theorem storeXU {M:Model} {A:Around} {E:Value→Shared→Prop} {s:Shared} {h₀:Heap} {L a:Addr} {m:Str→Option Value} {cn:Str} {cs:Scope} {ccd:Value} {cl:List (Str × Addr)} {x:Str} {v:Value} {Q:Unit→Shared→Prop} {news:List (Addr × Obj)} {c:Addr} {o:Obj} {v₀:Option Value}
    (F:Fr h₀ L s.heap m) (N:News h₀ L s.heap news) (hc:cl.lookup x = some c) (hm:(c, o) ∈ news) (hd:o.data = .cell v₀)
    (h:∀ h' o', Fr h₀ L h' m→News h₀ L h' (upL c o' news)→o'.data = .cell (some v)→Q () { s with heap:=h' })
    (hk:cs.kind = .function) (hx:(envX cn cs L a ccd cl).kindOf x = some .cell):wpAny M A (storeName (envX cn cs L a ccd cl) x v) Q E s :=
  storeX_C F (news_front N hm) hc (UpdF.head front_ne) hd (fun h' o' F' N' d'=>h h' o' F' (news_back N') d') hk hx
local macro_rules | `(tactic| walk_at $s)=>Tab.rules s "execs cons|execs|4
storeName||storeXU|aarms?rr|Wi"
structure CellsW (L cd:Addr) (led:List (Addr × Obj)) (v1 v2:Option Value):Prop where
  c:∃ o, (L + 1, o) ∈ led ∧ o.data = .cell (some (.ref cd))
  f:∃ o, (L + 2, o) ∈ led ∧ o.data = .cell v1
  s:∃ o, (L + 3, o) ∈ led ∧ o.data = .cell v2
noncomputable abbrev fst1 (codes lf:List Int):List Int:=(lf.filter fun j=>decide (cAt codes j ≠ 2)).take 1
noncomputable abbrev snd1 (codes lf:List Int):List Int:=(lf.filter fun j=>decide (cAt codes j ≠ 1)).take 1
local macro_rules | `(tactic| walk_at $s)=>Tab.rules s "none 5"
theorem wrk_b2 {w:World} {dp un:Nat} {gd:Option (List Code)} {outer:List Env} {A₀:Around} {base h₀ hp:Heap} {L S out lft cd:Addr} {gs:Array GenState} {dr:Drawn} {tk0:Nat} {os:OsState} {Q:Flow→Shared→Prop} {E:Value→Shared→Prop}
    {mean:ExcName→Option Value} {mg mb:Str→Option Value} {led:List (Addr × Obj)} {mr:Str→Option Value} {lf codes:List Int} {vl vc:List Value} {cl cc:Nat} {k:Int} {tk:Tok} {w1 w2:Option Value}
    (B:Below A₀ base outer h₀) (F:Fr h₀ L hp (wrkM3 k tk S out lft mr)) (Nw:News h₀ L hp led) (T:Top q2 (looseW q2 loose2) mean mg mb h₀)
    (hE:PassesOwn (model rw_mu0013_01.row.prog w) (wrkA dp un gd L outer) (wrkE L) E)
    (hlft:(lft, listOf vl.toArray cl) ∈ led) (hcd:(cd, listOf vc.toArray cc) ∈ led) (hC:CellsW L cd led w1 w2)
    (hil:IntsAre vl lf) (hic:IntsAre vc codes) (hlf:∀ j ∈ lf, 0 ≤ j ∧ j < codes.length) (hN:codes.length ≤ 69) (hln:lf.length ≤ 69)
    (hd:dp + 150 < recursionLimit) (hu:un + 2000 < cLine)
    (next:∀ fa v1 h' tk' led' o, Fr h₀ L h' (wrkM3 k tk S out lft mr)→News h₀ L h' (upL (L + 3) o led')→o.data = .cell (some (.ref fa))→(fa, listOf (List.toArray v1) 0) ∈ led'→IntsAre v1 (snd1 codes lf)→(∀ q ∈ led, q ∈ led')→(∀ q ∈ led, q.1 < fa)→wpAny (model rw_mu0013_01.row.prog w) (wrkA dp un gd L outer) (execs ((forBody wrkFor3).drop 5) (wrkE L)) Q E ⟨h', gs, dr, tk', os⟩) :
    (K2 w.params).In h₀→wpAny (model rw_mu0013_01.row.prog w) (wrkA dp un gd L outer) (execs ((forBody wrkFor3).drop 4) (wrkE L)) Q E ⟨hp, gs, dr, tk0, os⟩:=by
  w_on
  k_fill
  intro X
  have hb:=Eq.refl ((forBody wrkFor3).drop 4)
  conv at hb=>rhs; whnf
  rw [hb]
  clear hb
  have hvl:=hil.length
  have hget:∀ j ∈ lf, codes[j.toNat]? = some (cAt codes j):=fun j hj=>by
    have:=hlf j hj
    unfold cAt
    rw [List.getD_eq_getElem?_getD, List.getElem?_eq_getElem (by lia)]; rfl
  obtain ⟨⟨oc, mc, ec⟩, ⟨o1, m1, e1⟩, ⟨o2, m2, e2⟩⟩:=hC
  w_strict (
    (have mk:=kstMark)
    k_steps
    (unfold Halt)
    (refine' LCt.ListComp_T (cl:=[(Str.ofString "codes", L + 1)]) F ?z1 ?z2 ?z3 ?z4 ?z5 ?z6)
    (case z1=>with_unfolding_all rfl)
    (case z2=>decide)
    (case z3=>rfl)
    (case z4=>decide)
    (case z5=>rfl)
    (case z6 =>
      k_steps
      (unfold Halt)
      (refine' LCt.CompSrcT.ledger rfl F Nw hlft (by rw [List.size_toArray, sizeLine_eq]; lia) (fun g0=>?q2))
      rw [List.size_toArray]
      (refine' compRestT_ind (fun i ys=>IntsAre ys ((lf.take i).filter fun j=>decide (cAt codes j ≠ 1))) vl.length ?q3 ?q4 _ 0 [] (Nat.zero_add _) .nil)
      (case q4 =>
        intro k i ys hi9 hy hrest
        (refine' LCt.CompRestT.succ ?q5)
        intro v I oI C oC D2 m9 h tk E2 hv hC hxm F5 N5 off ne
        (have hlt:i < lf.length:=by lia)
        (refine eE1 (fun tv ht=>?_) (hil.get i lf[i] (by simp [hlt])))
        (obtain rfl:v = .int lf[i] tv:=by
          rw [List.getElem?_toArray, ht] at hv
          exact (Option.some.inj hv).symm)
        (have hjm:=List.getElem_mem hlt)
        (have hj1:=hget _ hjm)
        (have hj2:=hlf _ hjm)
        (have hst:(lf.take (i + 1)).filter (fun j=>decide (cAt codes j ≠ 1)) = (lf.take i).filter (fun j=>decide (cAt codes j ≠ 1)) ++ if cAt codes lf[i] ≠ 1 then [lf[i]] else []:=by
          rw [List.take_add_one, List.getElem?_eq_getElem hlt, List.filter_append]
          congr 1
          by_cases e:cAt codes lf[i] = 1 <;> simp [e])
        (generalize lf[i] = jj at *)
        clear F Nw
        k_steps
        all_goals (unfold Halt; rename Fr _ _ _ _=>F6; rename News _ _ _ _=>N6)
        · exact LCg.CompEnd.intro F6 N6 led (fun p hp=>hp) off (.inr ⟨_, hlft, rfl, _, rfl⟩) (hrest _ (by rw [hst, if_pos (by assumption)]; exact ints_snoc hy))
        · exact LCg.CompEnd.intro F6 N6 led (fun p hp=>hp) off (.inr ⟨_, hlft, rfl, _, rfl⟩) (hrest _ (by rw [hst, if_neg (by first | assumption | (intro h; exact absurd (by assumption) h)), List.append_nil]; exact hy)))
      (case q3 =>
        intro ys hy R h5 tk5 F5 N5 o5
        rw [hvl, List.take_length] at hy
        clear F Nw
        dsimp only at F5 N5 ⊢
        (have hyl:(lf.filter fun j=>decide (cAt codes j ≠ 1)).length ≤ 1000:=Nat.le_trans (List.length_filter_le _ _) (by lia))
        k_steps
        (unfold Halt)
        (rename_i D6 ws6 h6 F6 N6 hI6 hC6 hL6 l6 h7 o7 F7 N7 d7)
        exact next D6 ws6 _ _ ((D6, listOf ws6.toArray 0) :: (R, LCg.lst ys) :: led) o7 F7 N7 d7 (.head _) hI6 (fun q hq=>.tail _ (.tail _ hq)) (fun q hq=>ktn_ltOf l6.2 q hq))))
local macro_rules | `(tactic| walk_at $s)=>Tab.rules s "execs cons|execs|5"
theorem wrk_b1 {w:World} {dp un:Nat} {gd:Option (List Code)} {outer:List Env} {A₀:Around} {base h₀ hp:Heap} {L S out lft cd:Addr} {gs:Array GenState} {dr:Drawn} {tk0:Nat} {os:OsState} {Q:Flow→Shared→Prop} {E:Value→Shared→Prop}
    {mean:ExcName→Option Value} {mg mb:Str→Option Value} {led:List (Addr × Obj)} {mr:Str→Option Value} {lf codes:List Int} {vl vc:List Value} {cl cc:Nat} {k:Int} {tk:Tok} {w1 w2:Option Value}
    (B:Below A₀ base outer h₀) (F:Fr h₀ L hp (wrkM3 k tk S out lft mr)) (Nw:News h₀ L hp led) (T:Top q2 (looseW q2 loose2) mean mg mb h₀)
    (hE:PassesOwn (model rw_mu0013_01.row.prog w) (wrkA dp un gd L outer) (wrkE L) E)
    (hlft:(lft, listOf vl.toArray cl) ∈ led) (hcd:(cd, listOf vc.toArray cc) ∈ led) (hC:CellsW L cd led w1 w2)
    (hil:IntsAre vl lf) (hic:IntsAre vc codes) (hlf:∀ j ∈ lf, 0 ≤ j ∧ j < codes.length) (hN:codes.length ≤ 69) (hln:lf.length ≤ 69)
    (hd:dp + 150 < recursionLimit) (hu:un + 2000 < cLine)
    (next:∀ fa v1 h' tk' led' o, Fr h₀ L h' (wrkM3 k tk S out lft mr)→News h₀ L h' (upL (L + 2) o led')→o.data = .cell (some (.ref fa))→(fa, listOf (List.toArray v1) 0) ∈ led'→IntsAre v1 (fst1 codes lf)→(∀ q ∈ led, q ∈ led')→(∀ q ∈ led, q.1 < fa)→wpAny (model rw_mu0013_01.row.prog w) (wrkA dp un gd L outer) (execs ((forBody wrkFor3).drop 4) (wrkE L)) Q E ⟨h', gs, dr, tk', os⟩) :
    (K2 w.params).In h₀→wpAny (model rw_mu0013_01.row.prog w) (wrkA dp un gd L outer) (execs ((forBody wrkFor3).drop 3) (wrkE L)) Q E ⟨hp, gs, dr, tk0, os⟩:=by
  w_on
  k_fill
  intro X
  have hb:=Eq.refl ((forBody wrkFor3).drop 3)
  conv at hb=>rhs; whnf
  rw [hb]
  clear hb
  have hvl:=hil.length
  have hget:∀ j ∈ lf, codes[j.toNat]? = some (cAt codes j):=fun j hj=>by
    have:=hlf j hj
    unfold cAt
    rw [List.getD_eq_getElem?_getD, List.getElem?_eq_getElem (by omega)]; rfl
  obtain ⟨⟨oc, mc, ec⟩, ⟨o1, m1, e1⟩, ⟨o2, m2, e2⟩⟩:=hC
  w_strict (
    (have mk:=kstMark)
    k_steps
    (unfold Halt)
    (refine' LCt.ListComp_T (cl:=[(Str.ofString "codes", L + 1)]) F ?z1 ?z2 ?z3 ?z4 ?z5 ?z6)
    (case z1=>with_unfolding_all rfl)
    (case z2=>decide)
    (case z3=>rfl)
    (case z4=>decide)
    (case z5=>rfl)
    (case z6 =>
      k_steps
      (unfold Halt)
      (refine' LCt.CompSrcT.ledger rfl F Nw hlft (by rw [List.size_toArray, sizeLine_eq]; omega) (fun g0=>?q2))
      rw [List.size_toArray]
      (refine' compRestT_ind (fun i ys=>IntsAre ys ((lf.take i).filter fun j=>decide (cAt codes j ≠ 2))) vl.length ?q3 ?q4 _ 0 [] (Nat.zero_add _) .nil)
      (case q4 =>
        intro k i ys hi9 hy hrest
        (refine' LCt.CompRestT.succ ?q5)
        intro v I oI C oC D2 m9 h tk E2 hv hC hxm F5 N5 off ne
        (have hlt:i < lf.length:=by omega)
        (refine eE1 (fun tv ht=>?_) (hil.get i lf[i] (by simp [hlt])))
        (obtain rfl:v = .int lf[i] tv:=by
          rw [List.getElem?_toArray, ht] at hv
          exact (Option.some.inj hv).symm)
        (have hjm:=List.getElem_mem hlt)
        (have hj1:=hget _ hjm)
        (have hj2:=hlf _ hjm)
        (have hst:(lf.take (i + 1)).filter (fun j=>decide (cAt codes j ≠ 2)) = (lf.take i).filter (fun j=>decide (cAt codes j ≠ 2)) ++ if cAt codes lf[i] ≠ 2 then [lf[i]] else []:=by
          rw [List.take_add_one, List.getElem?_eq_getElem hlt, List.filter_append]
          congr 1
          by_cases e:cAt codes lf[i] = 2 <;> simp [e])
        (generalize lf[i] = jj at *)
        clear F Nw
        k_steps
        all_goals (unfold Halt; rename Fr _ _ _ _=>F6; rename News _ _ _ _=>N6)
        · exact LCg.CompEnd.intro F6 N6 led (fun p hp=>hp) off (.inr ⟨_, hlft, rfl, _, rfl⟩) (hrest _ (by rw [hst, if_pos (by assumption)]; exact ints_snoc hy))
        · exact LCg.CompEnd.intro F6 N6 led (fun p hp=>hp) off (.inr ⟨_, hlft, rfl, _, rfl⟩) (hrest _ (by rw [hst, if_neg (by first | assumption | (intro h; exact absurd (by assumption) h)), List.append_nil]; exact hy)))
      (case q3 =>
        intro ys hy R h5 tk5 F5 N5 o5
        rw [hvl, List.take_length] at hy
        clear F Nw
        dsimp only at F5 N5 ⊢
        (have hyl:(lf.filter fun j=>decide (cAt codes j ≠ 2)).length ≤ 1000:=Nat.le_trans (List.length_filter_le _ _) (by omega))
        k_steps
        (unfold Halt)
        (rename_i D6 ws6 h6 F6 N6 hI6 hC6 hL6 l6 h7 o7 F7 N7 d7)
        exact next D6 ws6 _ _ ((D6, listOf ws6.toArray 0) :: (R, LCg.lst ys) :: led) o7 F7 N7 d7 (.head _) hI6 (fun q hq=>.tail _ (.tail _ hq)) (fun q hq=>ktn_ltOf l6.2 q hq))))
end
section
open PySem PySem.W PyProof.Rows PySem.Challenge PySem.Spec
noncomputable def CondJ (codes f s:List Int) (j:Int):Prop:=(cAt codes j = 1 ∧ [j] = f) ∨ (cAt codes j = 2 ∧ [j] = s) ∨ ([j] = f ∧ f = s)
noncomputable instance (codes f s:List Int) (j:Int):Decidable (CondJ codes f s j):=by unfold CondJ; infer_instance
theorem eqT {prog:Program} {w:World} {A:Around} {E:Value→Shared→Prop} {Q:Value→Shared→Prop} {s:Shared} {h₀:Heap} {L:Addr} {news:List (Addr × Obj)} {a b:Addr} {vs us:List Value} {ns ms:List Int} {n n':Nat} (N:News h₀ L s.heap news) (ha:(a, listOf vs.toArray n) ∈ news) (hi:IntsAre vs ns) (hb:(b, listOf us.toArray n') ∈ news) (hi':IntsAre us ms) (hu:A.units + 64 < cLine)
    (h1:ns = ms→Q (.bool true) s) (h2:ns ≠ ms→Q (.bool false) s):wpAny (model prog w) A (compareOp .Eq (.ref a) (.ref b)) Q E s:=by
  refine eq_intsK (News.isList N ha) hi (News.isList N hb) hi' hu ?_
  by_cases e:ns = ms
  · rw [decide_eq_true e]; exact h1 e
  · rw [decide_eq_false e]; exact h2 e
noncomputable def TMark:Prop:=True
theorem tMark:TMark:=trivial
noncomputable def TPost (h₀:Heap) (L:Addr) (m:Str→Option Value) (base:List (Addr × Obj)) (gs:Array GenState) (dr:Drawn) (os:OsState) (P:Prop) (b:Bool) (s':Shared):Prop :=
  ∃ h' tk' c, s' = ⟨h', gs, dr, tk', os⟩ ∧ Fr h₀ L h' m ∧ News h₀ L h' c ∧ (∀ q ∈ base, q ∈ c) ∧ (b = true ↔ P)
theorem join_test {M:Model} {A:Around} {e:PySem.Expr} {env:Env} {t:Sem Value} {Q:Bool→Shared→Prop} {E:Value→Shared→Prop} {s:Shared} {h₀:Heap} {L:Addr} {m:Str→Option Value} {gs:Array GenState} {dr:Drawn} {os:OsState} (base:List (Addr × Obj)) (P:Prop)
    (h0:wpAny M A (isTrue e env t) (TPost h₀ L m base gs dr os P) E s) (h1:∀ b h' tk' c, (b = true ↔ P)→Fr h₀ L h' m→News h₀ L h' c→(∀ q ∈ base, q ∈ c)→Q b ⟨h', gs, dr, tk', os⟩):wpAny M A (isTrue e env t) Q E s :=
  wpAny_mono h0 (fun b s' q=>by
    (revert q; refine eE3 fun h' tk' c=>?_; refine eA5 fun hR3 F N k hb=>?_; subst hR3)
    exact h1 b h' tk' c hb F N k) fun _ _ e=>e
local macro_rules | `(tactic| walk_at $s)=>Tab.rules s "execs cons|execs|3
isTrue BoolOp|markA|TMark
call builtin:sorted||kso_sorted|aaAss?|id
compareOp Eq ref ref|each|eqT|amtmtu??"
theorem wrk_c {w:World} {dp un:Nat} {gd:Option (List Code)} {outer:List Env} {A₀:Around} {base h₀ hp:Heap} {L S out lft cd fa sa:Addr} {gs:Array GenState} {dr:Drawn} {tk0:Nat} {os:OsState} {Q:Flow→Shared→Prop} {E:Value→Shared→Prop}
    {mean:ExcName→Option Value} {mg mb:Str→Option Value} {led:List (Addr × Obj)} {mr:Str→Option Value} {lf codes ou f s:List Int} {vo vl vc v1 v2:List Value} {co cl cc:Nat} {k:Int} {tk:Tok}
    (B:Below A₀ base outer h₀) (F:Fr h₀ L hp (wrkM3 k tk S out lft mr)) (Nw:News h₀ L hp led) (T:Top q2 (looseW q2 loose2) mean mg mb h₀)
    (hE:PassesOwn (model rw_mu0013_01.row.prog w) (wrkA dp un gd L outer) (wrkE L) E)
    (hout:(out, listOf vo.toArray co) ∈ led) (hlft:(lft, listOf vl.toArray cl) ∈ led) (hcd:(cd, listOf vc.toArray cc) ∈ led) (hC:CellsW L cd led (some (.ref fa)) (some (.ref sa))) (hfa:(fa, listOf v1.toArray 0) ∈ led) (hsa:(sa, listOf v2.toArray 0) ∈ led)
    (hio:IntsAre vo ou) (hil:IntsAre vl lf) (hic:IntsAre vc codes) (hi1:IntsAre v1 f) (hi2:IntsAre v2 s) (hlf:∀ j ∈ lf, 0 ≤ j ∧ j < codes.length) (hN:codes.length ≤ 69) (hln:lf.length ≤ 69) (hlo:ou.length < 64)
    (hq:∀ ns:List Int, ns.Perm ou→ns.Pairwise (· ≤ ·)→ns = lf.filter fun j=>decide (CondJ codes f s j))
    (hd:dp + 150 < recursionLimit) (hu:un + 2000 < cLine)
    (next:∀ h' tk' led', Fr h₀ L h' (wrkM3 k tk S out lft mr)→News h₀ L h' led'→(∀ q ∈ led, q ∈ led')→wpAny (model rw_mu0013_01.row.prog w) (wrkA dp un gd L outer) (execs ((forBody wrkFor3).drop 6) (wrkE L)) Q E ⟨h', gs, dr, tk', os⟩) :
    (K2 w.params).In h₀→wpAny (model rw_mu0013_01.row.prog w) (wrkA dp un gd L outer) (execs ((forBody wrkFor3).drop 5) (wrkE L)) Q E ⟨hp, gs, dr, tk0, os⟩:=by
  w_on
  k_fill
  intro X
  have hb:=Eq.refl ((forBody wrkFor3).drop 5)
  conv at hb=>rhs; whnf
  rw [hb]
  clear hb
  have hvl:=hil.length
  have hget:∀ j ∈ lf, codes[j.toNat]? = some (cAt codes j):=fun j hj=>by
    have:=hlf j hj
    unfold cAt
    rw [List.getD_eq_getElem?_getD, List.getElem?_eq_getElem (by lia)]; rfl
  obtain ⟨⟨oc, mc, ec⟩, ⟨o1, m1, e1⟩, ⟨o2, m2, e2⟩⟩:=hC
  w_strict (
    (have mk:=kstMark)
    k_steps
    (unfold Halt)
    (rename_i D1 v9 n9 c9 h9 F9 N9 l9 i9 e9 p9 s9 z9)
    (refine' LCt.ListComp_T (cl:=[(Str.ofString "second", L + 3), (Str.ofString "first", L + 2), (Str.ofString "codes", L + 1)]) F9 ?z1 ?z2 ?z3 ?z4 ?z5 ?z6)
    (case z1=>with_unfolding_all rfl)
    (case z2=>decide)
    (case z3=>rfl)
    (case z4=>decide)
    (case z5=>rfl)
    (case z6 =>
      k_steps
      (unfold Halt)
      (refine' LCt.CompSrcT.ledger rfl F9 N9 (.tail _ hlft) (by rw [List.size_toArray, sizeLine_eq]; lia) (fun g0=>?q2))
      rw [List.size_toArray]
      (refine' compRestT_ind (fun i ys=>IntsAre ys ((lf.take i).filter fun j=>decide (CondJ codes f s j))) vl.length ?q3 ?q4 _ 0 [] (Nat.zero_add _) .nil)
      (case q4 =>
        intro kq i ys hi9 hy hrest
        (refine' LCt.CompRestT.succ ?q5)
        intro v I oI C oC D2 m9 h tkq E2 hv hC hxm F5 N5 off ne
        (have hlt:i < lf.length:=by lia)
        (refine eE1 (fun tv ht=>?_) (hil.get i lf[i] (by simp [hlt])))
        (obtain rfl:v = .int lf[i] tv:=by
          rw [List.getElem?_toArray, ht] at hv
          exact (Option.some.inj hv).symm)
        (have hjm:=List.getElem_mem hlt)
        (have hj1:=hget _ hjm)
        (have hj2:=hlf _ hjm)
        (have hst:(lf.take (i + 1)).filter (fun j=>decide (CondJ codes f s j)) = (lf.take i).filter (fun j=>decide (CondJ codes f s j)) ++ if CondJ codes f s lf[i] then [lf[i]] else []:=by
          rw [List.take_add_one, List.getElem?_eq_getElem hlt, List.filter_append]
          congr 1
          by_cases e:CondJ codes f s lf[i] <;> simp [e])
        (generalize lf[i] = jj at *)
        clear F Nw F9 N9 l9 p9 s9 z9 hq
        (obtain ⟨bs, hbs, N5⟩:∃ bs, bs = _ ∧ News h₀ L h bs:=⟨_, rfl, N5⟩)
        (have up:∀ q ∈ led, q ∈ bs:=fun q hq=>by rw [hbs]; exact .tail _ (.tail _ (.tail _ (.tail _ hq))))
        (have fC:(C, oC) ∈ bs:=by rw [hbs]; exact .tail _ (.head _))
        (have gc:=up _ mc)
        (have gf:=up _ m1)
        (have gs':=up _ m2)
        (have gd:=up _ hcd)
        (have ga:=up _ hfa)
        (have gb:=up _ hsa)
        (refine' join_test (h₀:=h₀) (L:=L) (m:=wrkM3 k tk S out lft mr) (gs:=gs) (dr:=dr) (os:=os) bs (CondJ codes f s jj) ?A ?B)
        (case A =>
          (have tm:=tMark)
          k_steps
          (unfold Halt)
          (refine' join_test (h₀:=h₀) (L:=L) (m:=wrkM3 k tk S out lft mr) (gs:=gs) (dr:=dr) (os:=os) bs (cAt codes jj = 1 ∧ [jj] = f) ?A1 ?B1)
          (case A1 =>
            k_steps
            all_goals (rename Fr _ _ _ _=>F6; rename News _ _ _ _=>N6; refine (iE3 _ _ _ ⟨rfl, F6, N6, fun q hq=>by first | exact hq | exact .tail _ hq | exact .tail _ (.tail _ hq) | exact .tail _ (.tail _ (.tail _ hq)), ?_⟩))
            all_goals first
              | exact ⟨fun _=>⟨by assumption, by assumption⟩, fun _=>rfl⟩
              | exact ⟨fun h=>(nomatch h), fun h=>absurd h.1 (by assumption)⟩
              | exact ⟨fun h=>(nomatch h), fun h=>absurd h.2 (by assumption)⟩)
          (case B1 =>
            intro b h1 tk1 c1 hb1 F1 N1 k1
            clear F5 N5
            (have fC:=k1 _ fC)
            (have gc:=k1 _ gc)
            (have gf:=k1 _ gf)
            (have gs':=k1 _ gs')
            (have gd:=k1 _ gd)
            (have ga:=k1 _ ga)
            (have gb:=k1 _ gb)
            cases b
            · (have tm:=tMark)
              k_steps
              (unfold Halt)
              (refine' join_test (h₀:=h₀) (L:=L) (m:=wrkM3 k tk S out lft mr) (gs:=gs) (dr:=dr) (os:=os) c1 (cAt codes jj = 2 ∧ [jj] = s) ?A2 ?B2)
              (case A2 =>
                k_steps
                all_goals (rename Fr _ _ _ _=>F6; rename News _ _ _ _=>N6; refine (iE3 _ _ _ ⟨rfl, F6, N6, fun q hq=>by first | exact hq | exact .tail _ hq | exact .tail _ (.tail _ hq) | exact .tail _ (.tail _ (.tail _ hq)), ?_⟩))
                all_goals first
                  | exact ⟨fun _=>⟨by assumption, by assumption⟩, fun _=>rfl⟩
                  | exact ⟨fun h=>(nomatch h), fun h=>absurd h.1 (by assumption)⟩
                  | exact ⟨fun h=>(nomatch h), fun h=>absurd h.2 (by assumption)⟩)
              (case B2 =>
                intro b h2 tk2 c2 hb2 F2 N2 k2
                clear F1 N1
                (have fC:=k2 _ fC)
                (have gc:=k2 _ gc)
                (have gf:=k2 _ gf)
                (have gs':=k2 _ gs')
                (have gd:=k2 _ gd)
                (have ga:=k2 _ ga)
                (have gb:=k2 _ gb)
                cases b
                all_goals k_steps
                all_goals (rename Fr _ _ _ _=>F6; rename News _ _ _ _=>N6; refine (iE3 _ _ _ ⟨rfl, F6, N6, fun q hq=>by first | exact k2 _ (k1 _ hq) | exact .tail _ (k2 _ (k1 _ hq)) | exact .tail _ (.tail _ (k2 _ (k1 _ hq))) | exact .tail _ (.tail _ (.tail _ (k2 _ (k1 _ hq)))), ?_⟩))
                all_goals first
                  | exact ⟨fun _=>.inr (.inl (hb2.mp rfl)), fun _=>rfl⟩
                  | exact ⟨fun _=>.inr (.inr ⟨by assumption, by assumption⟩), fun _=>rfl⟩
                  | exact ⟨fun h=>(nomatch h), by rintro (h | h | h) <;> first | exact hb1.mpr h | exact hb2.mpr h | exact absurd h.1 (by assumption) | exact absurd h.2 (by assumption)⟩)
            · k_steps
              (rename Fr _ _ _ _=>F6)
              (rename News _ _ _ _=>N6)
              exact (iE3 _ _ _ ⟨rfl, F6, N6, k1, ⟨fun _=>.inl (hb1.mp rfl), fun _=>rfl⟩⟩)))
        (case B =>
          intro b h1 tk1 c1 hb1 F1 N1 k1
          clear F5 N5
          (have fC:=k1 _ fC)
          cases b
          all_goals k_steps
          all_goals (unfold Halt; rename Fr _ _ _ _=>F6; rename News _ _ _ _=>N6)
          · exact LCg.CompEnd.intro F6 (fun p hp=>N6 p (k1 _ (by rw [hbs]; exact hp))) _ (fun p hp=>hp) off (.inr ⟨_, .tail _ hlft, rfl, _, rfl⟩) (hrest _ (by rw [hst, if_neg (fun h=>nomatch hb1.mpr h), List.append_nil]; exact hy))
          · exact LCg.CompEnd.intro F6 (fun p hp=>N6 p (k1 _ (by rw [hbs]; exact hp))) _ (fun p hp=>hp) off (.inr ⟨_, .tail _ hlft, rfl, _, rfl⟩) (hrest _ (by rw [hst, if_pos (hb1.mp rfl)]; exact ints_snoc hy))))
      (case q3 =>
        intro ys hy R h5 tk5 F5 N5 o5
        rw [hvl, List.take_length, ← hq n9 p9 s9] at hy
        clear F Nw F9 N9
        dsimp only at F5 N5 ⊢
        k_steps
        (unfold Halt)
        exact next _ _ _ (by assumption) (by assumption) (fun q hq=>.tail _ (.tail _ hq)))))
end
end
section
open PySem PySem.W PyProof.Rows PySem.Challenge PySem.Spec
theorem remove_ints {k:Int}:∀ {vs:List Value} {ns:List Int}, IntsAre vs ns→k ∈ ns→∃ j q, kf_at k vs = some j ∧ ki_delL vs j = some q ∧ IntsAre q (ns.erase k)
  | _, _, .nil, h=>nomatch h
  | _, _, .cons (vs:=vs) (ns:=ns) a t r, h=>by
    unfold kf_at
    by_cases e:a = k
    · subst e
      have e1:isInt a (.int a t) = true:=by simp [isInt]
      rw [e1, List.erase_cons_head]
      exact (iE2 0 _ ⟨rfl, rfl, r⟩)
    · have hm:k ∈ ns:=by
        rcases List.mem_cons.mp h with h | h
        · exact absurd h.symm e
        · exact h
      (refine eE2 (fun j q=>?_) (remove_ints r hm); refine eA3 fun h1 h2 h3=>?_)
      have e1:isInt k (.int a t) = false:=by simp [isInt, e]
      rw [e1, h1, List.erase_cons_tail (by simpa using e)]
      refine (iE2 (j + 1) (.int a t :: q) ⟨rfl, ?_, .cons a t h3⟩)
      unfold ki_delL
      rw [h2]
theorem kf_intsOf:∀ {vs:List Value} {ns:List Int}, IntsAre vs ns→kf_ints vs = true
  | _, _, .nil=>rfl
  | _, _, .cons a t r=>by unfold kf_ints; exact kf_intsOf r
theorem any_isInt {k:Int}:∀ {vs:List Value} {ns:List Int}, IntsAre vs ns→k ∉ ns→(!vs.any (isInt k)) = true
  | _, _, .nil, _=>rfl
  | _, _, .cons a t r, h=>by
    rw [List.any_cons]
    have e1:isInt k (.int a t) = false:=by simp [isInt]; exact fun e=>h (e ▸ .head _)
    rw [e1, Bool.false_or]
    exact any_isInt r fun hm=>h (.tail _ hm)
theorem str_empty_app (a:Str):Str.empty ++ a = a:=by
  show (⟨#[] ++ a.cps⟩:Str) = a
  rw [Array.empty_append]
theorem msg_eq {k:Int}:(Str.empty ++ Str.ofString "node " ++ Str.ofString (toString k) ++ Str.ofString " was not passed out (still not ready)") = (Str.ofString "node " ++ Str.ofString (toString k) ++ Str.ofString " was not passed out (still not ready)"):=by rw [str_empty_app]
theorem eqStrT {prog:Program} {w:World} {A:Around} {E:Value→Shared→Prop} {Q:Value→Shared→Prop} {s:Shared} {x y:Str} {t u:Tok} (e:x = y) (h:Q (.bool true) s):wpAny (model prog w) A (compareOp .Eq (.str x t) (.str y u)) Q E s:=by
  subst e
  exact PyProof.Rows.eq_str (by rw [beq_self_eq_true]; exact h)
theorem removeU {prog:Program} {w:World} {A:Around} {E:Value→Shared→Prop} {Q:Value→Shared→Prop} {hp h₀:Heap} {gs:Array GenState} {dr:Drawn} {tk0:Nat} {os:OsState} {L l:Addr} {m:Str→Option Value} {news:List (Addr × Obj)} {vs:List Value} {ns:List Int} {n:Nat} {k:Int} {t:Tok}
    (F:Fr h₀ L hp m) (N:News h₀ L hp news) (hm:(l, listOf vs.toArray n) ∈ news) (hi:IntsAre vs ns) (hk:k ∈ ns) (hz:vs.length ≤ 1000)
    (h:∀ h' q, Fr h₀ L h' m→News h₀ L h' (upL l (listOf (List.toArray q) (n + 1)) news)→IntsAre q (ns.erase k)→Q .none ⟨h', gs, dr, tk0, os⟩):wpAny (model prog w) A (call (.builtin "list.remove") [.ref l, .int k t]) Q E ⟨hp, gs, dr, tk0, os⟩:=by
  (refine eE2 (fun j q=>?_) (remove_ints hi hk); refine eA3 fun h1 h2 h3=>?_)
  exact kf_remove (s:=⟨hp, gs, dr, tk0, os⟩) F (news_front N hm) (kf_intsOf hi) h1 h2 (Upd.head front_ne) (by rw [sizeLine_eq]; simpa using (by lia)) fun h' F' N'=>h h' q F' (news_back N') h3
local macro_rules | `(tactic| walk_at $s)=>Tab.rules s "compareOp Eq str str|ref|eqStrT|e?
compareOp NotIn int ref||kf_notin|Bamnq?|
call builtin:list.remove||removeU|aamssl?|id"
local macro_rules | `(tactic| walk_at $s)=>Tab.rules s "none 6"
theorem wrk_d {w:World} {dp un:Nat} {gd:Option (List Code)} {cn:Str} {cs:Scope} {Lc ac:Addr} {ccd:Value} {clc:List (Str × Addr)} {outer:List Env} {base g₀ h₀ hp:Heap} {L S out lft:Addr} {gs:Array GenState} {dr:Drawn} {tk0:Nat} {os:OsState} {Q:Flow→Shared→Prop} {E:Value→Shared→Prop}
    {mean:ExcName→Option Value} {mg mb:Str→Option Value} {led:List (Addr × Obj)} {mr:Str→Option Value} {N:Nat} {pre suc:Int→List Int} {own:List Addr} {dn ou lf:List Int} {vo vl:List Value} {co cl:Nat} {k:Int} {tk:Tok}
    (G:Gr (K2 w.params) q2 (looseW q2 loose2) mean mg mb (ktrTop dp un gd cn cs Lc ac ccd clc outer) base (envX cn cs Lc ac ccd clc :: outer) g₀ h₀) (XB:(K2 w.params).In base) (TB:Top q2 (looseW q2 loose2) mean mg mb base) (F:Fr h₀ L hp (wrkM3 k tk S out lft mr)) (Nw:News h₀ L hp led)
    (hE:PassesOwn (model rw_mu0013_01.row.prog w) (wrkA (dp + 1) (un + 3) gd L (envX cn cs Lc ac ccd clc :: outer)) (wrkE L) E)
    (hS:Sorter w N pre suc led S own dn ou []) (hout:(out, listOf vo.toArray co) ∈ led) (hlft:(lft, listOf vl.toArray cl) ∈ led) (oout:out ∉ own) (olft:lft ∉ own) (d1:out ≠ lft)
    (hio:IntsAre vo ou) (hil:IntsAre vl lf) (hasc:lf.Pairwise (· < ·)) (hlm:∀ j, j ∈ lf ↔ (0 ≤ j ∧ j < (N:Int)) ∧ j ∉ dn) (hkl:k ∈ lf) (hN:N ≤ 69) (hln:lf.length ≤ 69) (hlo:ou.length < 64)
    (hd:dp + 150 < recursionLimit) (hu:un + 2000 < cLine)
    (good:k ∈ ou→∀ h' tk' led' vo' co' vl' cl' rk', Fr h₀ L h' (wrkM3 k tk S out lft mr)→News h₀ L h' led'→Sorter w N pre suc led' S own (dn ++ [k]) (ou.erase k) rk'→(out, listOf (List.toArray vo') co') ∈ led'→IntsAre vo' (ou.erase k)→(lft, listOf (List.toArray vl') cl') ∈ led'→IntsAre vl' (lf.erase k)→(∀ q ∈ led, q.1 ∉ own→q.1 ≠ out→q.1 ≠ lft→q ∈ led')→Q .next ⟨h', gs, dr, tk', os⟩)
    (bad:k ∉ ou→∀ g' h' tk' m' led', Gr (K2 w.params) q2 (looseW q2 loose2) mean mg mb (ktrTop dp un gd cn cs Lc ac ccd clc outer) base (envX cn cs Lc ac ccd clc :: outer) g₀ g'→Fr g' L h' m'→News g' L h' led'→(∀ q ∈ led, q.1 ∉ own→q ∈ led')→Q (.ret (.bool false)) ⟨h', gs, dr, tk', os⟩) :
    (K2 w.params).In h₀→wpAny (model rw_mu0013_01.row.prog w) (wrkA (dp + 1) (un + 3) gd L (envX cn cs Lc ac ccd clc :: outer)) (execs ((forBody wrkFor3).drop 6) (wrkE L)) Q E ⟨hp, gs, dr, tk0, os⟩:=by
  obtain ⟨TT, B, X₀, T, DD⟩:=G
  w_on
  k_fill
  intro X
  have hb:=Eq.refl ((forBody wrkFor3).drop 6)
  conv at hb=>rhs; whnf
  rw [hb]
  clear hb
  (refine eE9 (fun dS1 t11 t12 t13 t14 D1 rv1 pv1 fv1=>?_) hS.sm; refine eA2 fun hs1 hd1=>?_)
  have hkr:=(hlm k).mp hkl
  by_cases hko:k ∈ ou
  · w_strict (
      (have mk:=kstMark)
      k_steps
      (unfold Halt)
      (refine' doneS (hS:=hS) ?b1 F Nw ?b2 ?b3 ?HH hko ?b4 ?b5 ?b6 ?b7)
      (case b1=>k_asm)
      (case b2=>k_asm)
      (case b3=>exact rfl)
      (case HH=>exact .inl rfl)
      (case b4=>ktr_room)
      (case b5=>ktr_units)
      (case b7=>k_asm)
      (case b6 =>
        intro h2 tk2 led2 rk2 F2 N2 hS2 hK2
        clear F Nw
        (have mo:=hK2 _ hout oout)
        (have ml:=hK2 _ hlft olft)
        (have hvo:=hio.length)
        (have hvl:=hil.length)
        (have d2:lft ≠ out:=fun e=>d1 e.symm)
        k_steps
        (rename_i h3 q3 F3 N3 i3 h4 q4 F4 N4 i4)
        refine good hko _ _ _ q3 _ q4 _ rk2 F4 N4 (hS2.mono fun q hq ho=>mem_upL_ne (mem_upL_ne hq fun e=>oout (e ▸ ho)) fun e=>olft (e ▸ ho)) (mem_upL_ne (mem_upL_self mo) d1) i3 (mem_upL_self (mem_upL_ne ml d2)) i4 fun q hq a1 a2 a3=>mem_upL_ne (mem_upL_ne (hK2 q hq a1) a2) a3))
  · w_strict (
      (have mk:=kstMark)
      k_steps
      (unfold Halt)
      (refine' badS (hS:=hS) ?zb1 F Nw ?zb2 ?zb3 hkr.1 hkr.2 hko ?zb4 ?zb5 ?zb6 ?zb7)
      (case zb1=>k_asm)
      (case zb2=>k_asm)
      (case zb3=>exact rfl)
      (case zb4=>ktr_room)
      (case zb5=>ktr_units)
      (case zb7=>k_asm)
      (case zb6 =>
        intro e tt tm g2 h2 tk2 led2 F2 U2 C2 R2 hK2
        (refine caught_CB (T':="ValueError") (A₀:=ktrTop dp un gd cn cs Lc ac ccd clc outer) (g:=h₀) R2 C2 F2 ⟨TT, B, X₀, T, DD⟩ U2 XB TB ?ex PyProof.Rows.Boot.«ValueError» ?hn PySem.F.isExc_ValueError PySem.F.notTuple_ValueError ?hs ?_)
        (case hs=>kts_sub)
        (case ex=>k_is)
        (case hn=>decide)
        (intro h3 g3 oe ot ws nt tk3 G3 F3 N3 c1 c2 c3 c4 c5 c6)
        (have Gt:Got ((e, oe) :: (tt, ot) :: led2) e tt (.type "ValueError") _:=(iE4 oe ot ws nt ⟨.head _, .tail _ (.head _), c1, c2, c3, c5, c6⟩))
        (obtain ⟨T3, B3, X3, P3, D3⟩:=G3)
        clear F Nw F2 TT B X₀ X T DD R2 U2 C2 hs1 hd1
        (have mo:=hK2 _ hout)
        (have ml:=hK2 _ hlft)
        k_steps
        (unfold Halt)
        (rename Fr _ _ _ _=>F4)
        (rename News _ _ _ _=>N4)
        (have hkeep:∀ q ∈ led, q ∈ (e, oe) :: (tt, ot) :: led2:=fun q hq=>.tail _ (.tail _ (hK2 q hq)))
        (have hS4:=hS.mono (led':=(e, oe) :: (tt, ot) :: led2) fun q hq _=>hkeep q hq)
        (refine' fin_tells (hS:=hS4) ?yb1 F4 N4 ?yb2 ?yb3 ?yHH (.tail _ (.tail _ ml)) olft hil hasc hlm ⟨_, (hS4.sm.choose_spec.choose_spec.choose_spec.choose_spec.choose_spec.choose_spec.choose_spec.choose_spec.choose_spec).1⟩ ?yb4 ?yb5 ?yb6 ?yb7)
        (case yb1=>k_asm)
        (case yb2=>k_asm)
        (case yb3=>exact rfl)
        (case yHH=>exact .inr (iE2 e oe ⟨rfl, .head _, ws, c2, c4⟩))
        (case yb4=>ktr_room)
        (case yb5=>ktr_units)
        (case yb7=>k_asm)
        (case yb6 =>
          intro h5 tk5 led5 F5 N5 hK5
          clear F4 N4
          k_steps
          (refine wpAny_nameGoes_keeps (by rfl) F5.ns (by rfl) fun h6 v6 hn6 hs6=>?_)
          exact bad hko g3 h6 _ _ led5 ⟨T3, B3, X3, P3, D3⟩ (F5.set hn6 hs6) (N5.set hs6) fun q hq hno=>hK5 q (hkeep q hq) hno)))
end
section
open PySem PySem.W PyProof.Rows PySem.Challenge PySem.Spec
noncomputable def sideL (codes:List Int) (o:Int) (l:List Int):List Int:=l.filter fun j=>decide (cAt codes j ≠ o)
noncomputable def edges (codes:List Int):List (Int × Int) :=
  edg (sideL codes 2 (upto codes.length)) (sideL codes 2 (upto codes.length)).length ++ edg (sideL codes 1 (upto codes.length)) (sideL codes 1 (upto codes.length)).length
theorem upto_asc {N:Nat}:(upto N).Pairwise (· < ·):=by
  unfold upto
  rw [List.pairwise_map]
  exact List.pairwise_lt_range.imp fun h=>by lia
theorem side_asc {codes:List Int} {o:Int} {N:Nat}:(sideL codes o (upto N)).Pairwise (· < ·):=upto_asc.sublist List.filter_sublist
theorem mem_side {codes:List Int} {o:Int} {l:List Int} {j:Int}:j ∈ sideL codes o l ↔ j ∈ l ∧ cAt codes j ≠ o:=by unfold sideL; rw [List.mem_filter]; simp
theorem edg_at {l:List Int} {a b:Int} (h:(a, b) ∈ edg l l.length):∃ i, i + 1 < l.length ∧ l[i]? = some a ∧ l[i + 1]? = some b:=by
  (refine eE1 (fun i=>?_) (mem_edg.mp h); refine eA3 fun hi hR2 hR3=>?_; subst hR2 hR3)
  refine ⟨i, hi, ?_, ?_⟩ <;> rw [List.getD_eq_getElem?_getD, List.getElem?_eq_getElem (by lia)] <;> rfl
theorem edg_of {l:List Int} {i:Nat} {a b:Int} (h1:l[i]? = some a) (h2:l[i + 1]? = some b):(a, b) ∈ edg l l.length :=
  mem_edg.mpr ⟨i, (List.getElem?_eq_some_iff.mp h2).1, by rw [List.getD_eq_getElem?_getD, h1]; rfl, by rw [List.getD_eq_getElem?_getD, h2]; rfl⟩
theorem edg_lt {l:List Int} {a b:Int} (hl:l.Pairwise (· < ·)) (h:(a, b) ∈ edg l l.length):a ∈ l ∧ b ∈ l ∧ a < b:=by
  (refine eE1 (fun i=>?_) (edg_at h); refine eA3 fun hi h1 h2=>?_)
  refine eE1 (fun x1 e1=>?_) (List.getElem?_eq_some_iff.mp h1)
  refine eE1 (fun x2 e2=>?_) (List.getElem?_eq_some_iff.mp h2)
  have:=List.pairwise_iff_getElem.mp hl i (i + 1) x1 x2 (by exact Nat.lt_add_one i)
  exact ⟨List.mem_of_getElem? h1, List.mem_of_getElem? h2, by lia⟩
theorem edges_ok {codes:List Int} {a b:Int} (h:(a, b) ∈ edges codes):0 ≤ a ∧ a < b ∧ b < (codes.length:Int):=by
  rcases List.mem_append.mp h with h | h <;>
  · refine eA3 (fun h1 h2 h3=>?_) (edg_lt side_asc h)
    have z1:=mem_upto.mp (mem_side.mp h1).1
    have z2:=mem_upto.mp (mem_side.mp h2).1
    lia
theorem suc_one {l:List Int} (hl:l.Pairwise (· < ·)) {a:Int}:∀ n, n ≤ l.length→(sucE (edg l n) a).length ≤ 1 ∧ (∀ b ∈ sucE (edg l n) a, ∃ i, i + 1 < n ∧ l[i]? = some a)
  | 0, _=>⟨Nat.zero_le _, fun b h=>nomatch h⟩
  | 1, _=>⟨Nat.zero_le _, fun b h=>nomatch h⟩
  | n + 2, hn=>by
    refine eA2 (fun h1 h2=>?_) (suc_one hl (a:=a) (n + 1) (by exact Nat.le_of_succ_le hn))
    have hx:l[n]? = some (l.getD n 0):=by rw [List.getD_eq_getElem?_getD, List.getElem?_eq_getElem (by exact Nat.lt_of_succ_lt hn)]; rfl
    rw [show edg l (n + 2) = edg l (n + 1) ++ [(l.getD n 0, l.getD (n + 1) 0)] from rfl, sucE_snoc]
    by_cases e:l.getD n 0 = a
    · rw [if_pos e]
      have hnil:sucE (edg l (n + 1)) a = []:=List.eq_nil_iff_forall_not_mem.mpr fun b hb=>by
        (refine eE1 (fun i=>?_) (h2 b hb); refine eA2 fun hi hia=>?_)
        refine eE1 (fun x1 e1=>?_) (List.getElem?_eq_some_iff.mp hia)
        refine eE1 (fun x2 e2=>?_) (List.getElem?_eq_some_iff.mp hx)
        have:=List.pairwise_iff_getElem.mp hl i n x1 x2 (by lia)
        lia
      rw [hnil]
      exact ⟨Nat.le_refl _, fun b _=>⟨n, by exact Nat.lt_add_one (n + 1), by rw [hx, e]⟩⟩
    · rw [if_neg e]
      exact ⟨h1, fun b hb=>by (refine eE1 (fun i=>?_) (h2 b hb); refine eA2 fun hi hia=>?_); exact ⟨i, by exact Nat.lt_succ_of_lt hi, hia⟩⟩
theorem suc_two {codes:List Int} {a:Int}:(sucE (edges codes) a).length ≤ 2:=by
  unfold edges
  rw [suc_app, List.length_append]
  have h1:=(suc_one (side_asc (codes:=codes) (o:=2) (N:=codes.length)) (a:=a) _ (Nat.le_refl _)).1
  have h2:=(suc_one (side_asc (codes:=codes) (o:=1) (N:=codes.length)) (a:=a) _ (Nat.le_refl _)).1
  lia
noncomputable def leftOf (N:Nat) (dn:List Int):List Int:=(upto N).filter fun j=>decide (j ∉ dn)
theorem mem_left {N:Nat} {dn:List Int} {j:Int}:j ∈ leftOf N dn ↔ (0 ≤ j ∧ j < (N:Int)) ∧ j ∉ dn:=by unfold leftOf; rw [List.mem_filter, mem_upto]; simp
theorem left_asc {N:Nat} {dn:List Int}:(leftOf N dn).Pairwise (· < ·):=upto_asc.sublist List.filter_sublist
theorem side_left {codes:List Int} {o:Int} {N:Nat} {dn:List Int}:sideL codes o (leftOf N dn) = (sideL codes o (upto N)).filter fun j=>decide (j ∉ dn):=by
  unfold sideL leftOf
  rw [List.filter_filter, List.filter_filter]
  congr 1
  funext j
  exact Bool.and_comm _ _
theorem first_iff {l:List Int} {dn:List Int} {i:Nat} {j:Int} (hnd:l.Nodup) (hi:l[i]? = some j) (hj:j ∉ dn):[j] = (l.filter fun j=>decide (j ∉ dn)).take 1 ↔ ∀ q b, q < i→l[q]? = some b→b ∈ dn:=by
  refine eE1 (fun hlt he=>?_) (List.getElem?_eq_some_iff.mp hi)
  have hs:l = l.take i ++ j :: l.drop (i + 1):=by
    rw [← he, List.getElem_cons_drop, List.take_append_drop]
  have hm:∀ b, b ∈ l.take i ↔ ∃ q, q < i ∧ l[q]? = some b:=fun b=>by
    rw [List.mem_take_iff_getElem]
    constructor
    · rintro ⟨q, hq, e⟩
      exact ⟨q, by lia, by rw [List.getElem?_eq_getElem (by lia), e]⟩
    · ((refine eE1 fun q=>?_; refine eA2 fun hq e=>?_))
      refine eE1 (fun x e=>?_) (List.getElem?_eq_some_iff.mp e)
      exact ⟨q, by exact iteInduction (fun a=>hq) fun a=>x, e⟩
  have hj9:j ∉ l.take i:=fun h=>by
    rw [hs] at hnd
    exact (List.nodup_append.mp hnd).2.2 j h j (.head _) rfl
  have hf:l.filter (fun j=>decide (j ∉ dn)) = (l.take i).filter (fun j=>decide (j ∉ dn)) ++ j :: (l.drop (i + 1)).filter (fun j=>decide (j ∉ dn)):=by
    conv=>lhs; rw [hs]
    rw [List.filter_append, List.filter_cons, if_pos (decide_eq_true hj)]
  rw [hf]
  constructor
  · intro e q b hq hb
    by_cases hbd:b ∈ dn
    · exact hbd
    · exfalso
      have hbm:b ∈ (l.take i).filter (fun j=>decide (j ∉ dn)):=List.mem_filter.mpr ⟨(hm b).mpr ⟨q, hq, hb⟩, decide_eq_true hbd⟩
      cases hc:(l.take i).filter (fun j=>decide (j ∉ dn)) with
      | nil=>rw [hc] at hbm; cases hbm
      | cons x r =>
        rw [hc] at e
        have:j = x:=by simpa using e
        have hx:x ∈ (l.take i).filter (fun j=>decide (j ∉ dn)):=by rw [hc]; exact .head _
        exact hj9 (this ▸ (List.mem_filter.mp hx).1)
  · intro h
    have:(l.take i).filter (fun j=>decide (j ∉ dn)) = []:=List.filter_eq_nil_iff.mpr fun b hb=>by
      (refine eE1 (fun q=>?_) ((hm b).mp hb); refine eA2 fun hq e=>?_)
      simpa using h q b hq e
    rw [this]
    rfl
theorem pre_done {l:List Int} {dn:List Int} {j:Int} (hl:l.Pairwise (· < ·)) (hjl:j ∈ l) (hj:j ∉ dn) (hc:∀ a b, (a, b) ∈ edg l l.length→b ∈ dn→a ∈ dn) :
    (∀ a, (a, j) ∈ edg l l.length→a ∈ dn) ↔ [j] = (l.filter fun j=>decide (j ∉ dn)).take 1:=by
  have hnd:l.Nodup:=hl.imp fun h=>by exact Int.ne_of_lt h
  refine eE1 (fun i hi=>?_) (List.mem_iff_getElem?.mp hjl)
  rw [first_iff hnd hi hj]
  refine eE1 (fun hlt he=>?_) (List.getElem?_eq_some_iff.mp hi)
  have chain:∀ (q:Nat) b, l[q]? = some b→b ∈ dn→∀ (p:Nat) c, p ≤ q→l[p]? = some c→c ∈ dn:=fun q=>by
    induction q with
    | zero =>
      intro b hb hd p c hp hpc
      obtain rfl:p = 0:=by exact Nat.eq_zero_of_le_zero hp
      rw [hb] at hpc
      exact Option.some.inj hpc ▸ hd
    | succ q ih =>
      intro b hb hd p c hp hpc
      by_cases e:p = q + 1
      · subst e
        rw [hb] at hpc
        exact Option.some.inj hpc ▸ hd
      · have hq:q < l.length:=by have:=(List.getElem?_eq_some_iff.mp hb).1; exact Nat.lt_of_succ_lt this
        have hq1:l[q]? = some l[q]:=List.getElem?_eq_getElem hq
        exact ih _ hq1 (hc _ _ (edg_of hq1 hb) hd) p c (by lia) hpc
  constructor
  · intro h q b hq hb
    have hp:l[i - 1]? = some (l[i - 1]'(by exact Nat.sub_lt_of_lt hlt)):=List.getElem?_eq_getElem (by omega)
    have:=h _ (edg_of hp (by rw [show i - 1 + 1 = i by lia]; exact hi))
    exact chain _ _ hp this q b (by exact Nat.le_sub_one_of_lt hq) hb
  · intro h a ha
    (refine eE1 (fun p=>?_) (edg_at ha); refine eA3 fun hp h1 h2=>?_)
    refine eE1 (fun x2 e2=>?_) (List.getElem?_eq_some_iff.mp h2)
    have:p + 1 = i:=by
      rcases Nat.lt_trichotomy (p + 1) i with h | h | h
      · have:=List.pairwise_iff_getElem.mp hl (p + 1) i x2 hlt h; lia
      · exact h
      · have:=List.pairwise_iff_getElem.mp hl i (p + 1) hlt x2 h; lia
    exact h p a (by lia) h1
theorem cnt_zero {pre:Int→List Int} {dn:List Int} {k:Int}:cntU pre dn k = 0 ↔ ∀ a ∈ pre k, a ∈ dn:=by
  unfold cntU
  rw [List.length_eq_zero_iff, List.filter_eq_nil_iff]
  constructor
  · intro h a ha
    simpa using h a ha
  · intro h a ha
    simpa using h a ha
section
variable {codes dn ou rk:List Int} (hcv:∀ j:Int, 0 ≤ j→j < (codes.length:Int)→cAt codes j = 0 ∨ cAt codes j = 1 ∨ cAt codes j = 2) (g:GInv codes.length (preE (edges codes)) dn ou rk)
include g
theorem closed_side {o:Int} (ho:o = 2 ∨ o = 1):∀ a b, (a, b) ∈ edg (sideL codes o (upto codes.length)) (sideL codes o (upto codes.length)).length→b ∈ dn→a ∈ dn:=fun a b h hb=>by
  refine cnt_zero.mp (g.dr b hb).2 a (mem_preE.mpr ?_)
  unfold edges
  rcases ho with rfl | rfl
  · exact List.mem_append_left _ h
  · exact List.mem_append_right _ h
theorem side_first {o j:Int} (ho:o = 2 ∨ o = 1) (hj:j ∈ leftOf codes.length dn) (hc:cAt codes j ≠ o) :
    (∀ a, (a, j) ∈ edg (sideL codes o (upto codes.length)) (sideL codes o (upto codes.length)).length→a ∈ dn) ↔ [j] = (sideL codes o (leftOf codes.length dn)).take 1:=by
  have z:=mem_left.mp hj
  rw [side_left]
  exact pre_done side_asc (mem_side.mpr ⟨mem_upto.mpr z.1, hc⟩) z.2 (closed_side g ho)
theorem no_pre {o j:Int} (hc:cAt codes j = o):∀ a, (a, j) ∉ edg (sideL codes o (upto codes.length)) (sideL codes o (upto codes.length)).length:=fun a h =>
  (mem_side.mp (edg_lt side_asc h).2.1).2 hc
include hcv
theorem cnt_cond {j:Int} (hj:j ∈ leftOf codes.length dn):cntU (preE (edges codes)) dn j = 0 ↔ CondJ codes (fst1 codes (leftOf codes.length dn)) (snd1 codes (leftOf codes.length dn)) j:=by
  have z:=mem_left.mp hj
  have hsp:(∀ a ∈ preE (edges codes) j, a ∈ dn) ↔ (∀ a, (a, j) ∈ edg (sideL codes 2 (upto codes.length)) (sideL codes 2 (upto codes.length)).length→a ∈ dn) ∧ (∀ a, (a, j) ∈ edg (sideL codes 1 (upto codes.length)) (sideL codes 1 (upto codes.length)).length→a ∈ dn):=by
    constructor
    · exact fun h=>⟨fun a ha=>h a (mem_preE.mpr (List.mem_append_left _ ha)), fun a ha=>h a (mem_preE.mpr (List.mem_append_right _ ha))⟩
    · intro h a ha
      rcases List.mem_append.mp (mem_preE.mp ha) with ha | ha
      · exact h.1 a ha
      · exact h.2 a ha
  rw [cnt_zero, hsp]
  have hf:fst1 codes (leftOf codes.length dn) = (sideL codes 2 (leftOf codes.length dn)).take 1:=rfl
  have hs:snd1 codes (leftOf codes.length dn) = (sideL codes 1 (leftOf codes.length dn)).take 1:=rfl
  rw [hf, hs]
  have hns:∀ {o:Int}, cAt codes j = o→[j] ≠ (sideL codes o (leftOf codes.length dn)).take 1:=fun {o} hc e=>by
    have:j ∈ (sideL codes o (leftOf codes.length dn)).take 1:=e ▸ .head _
    exact (mem_side.mp (List.mem_of_mem_take this)).2 hc
  unfold CondJ
  rcases hcv j z.1.1 z.1.2 with h | h | h
  · rw [side_first g (.inl rfl) hj (by lia), side_first g (.inr rfl) hj (by lia)]
    constructor
    · ((refine eA2 fun a b=>?_))
      exact .inr (.inr ⟨a, a.symm.trans b⟩)
    · rintro (⟨a, _⟩ | ⟨a, _⟩ | ⟨a, b⟩)
      · lia
      · lia
      · exact ⟨a, a.trans b⟩
  · rw [side_first g (.inl rfl) hj (by lia)]
    constructor
    · exact fun a=>.inl ⟨h, a.1⟩
    · rintro (⟨_, a⟩ | ⟨a, _⟩ | ⟨a, b⟩)
      · exact ⟨a, fun x hx=>absurd hx (no_pre g h x)⟩
      · lia
      · exact absurd (a.trans b) (hns h)
  · rw [side_first g (.inr rfl) hj (by lia)]
    constructor
    · exact fun a=>.inr (.inl ⟨h, a.2⟩)
    · rintro (⟨a, _⟩ | ⟨_, a⟩ | ⟨a, b⟩)
      · lia
      · exact ⟨fun x hx=>absurd hx (no_pre g h x), a⟩
      · exact absurd a (hns h)
theorem mem_out {j:Int}:j ∈ ou ++ rk ↔ j ∈ leftOf codes.length dn ∧ CondJ codes (fst1 codes (leftOf codes.length dn)) (snd1 codes (leftOf codes.length dn)) j:=by
  constructor
  · intro h
    have q:((0 ≤ j ∧ j < (codes.length:Int)) ∧ j ∉ dn) ∧ cntU (preE (edges codes)) dn j = 0:=by
      rcases List.mem_append.mp h with h | h
      · have:=g.od j h
        exact ⟨⟨this.1, this.2.1⟩, this.2.2⟩
      · have:=g.rd j h
        exact ⟨⟨this.1, this.2.1⟩, this.2.2.2⟩
    have hl:=mem_left.mpr q.1
    exact ⟨hl, (cnt_cond hcv g hl).mp q.2⟩
  · ((refine eA2 fun h1 h2=>?_))
    have z:=mem_left.mp h1
    exact List.mem_append.mpr (g.all j z.1.1 z.1.2 z.2 ((cnt_cond hcv g h1).mpr h2))
theorem out_sorted {ns:List Int} (hp:ns.Perm (ou ++ rk)) (ho:ns.Pairwise (· ≤ ·)):ns = (leftOf codes.length dn).filter fun j=>decide (CondJ codes (fst1 codes (leftOf codes.length dn)) (snd1 codes (leftOf codes.length dn)) j):=by
  have hnd:(ou ++ rk).Nodup:=g.rdy.ndo
  have hperm:ns.Perm ((leftOf codes.length dn).filter fun j=>decide (CondJ codes (fst1 codes (leftOf codes.length dn)) (snd1 codes (leftOf codes.length dn)) j)):=by
    refine (List.perm_ext_iff_of_nodup (hp.nodup_iff.mpr hnd) ((left_asc.imp fun h=>by omega:(leftOf codes.length dn).Nodup).sublist List.filter_sublist)).mpr fun j=>?_
    rw [hp.mem_iff, mem_out hcv g, List.mem_filter]
    simp
  exact hperm.eq_of_pairwise (fun a b _ _ h1 h2=>Int.le_antisymm h1 h2) ho ((left_asc.sublist List.filter_sublist).imp fun h=>by exact Int.le_of_lt h)
theorem out_len:(ou ++ rk).length ≤ 2:=by
  have:=nodup_len (m:=fst1 codes (leftOf codes.length dn) ++ snd1 codes (leftOf codes.length dn)) g.rdy.ndo fun j hj=>by
    rcases ((mem_out hcv g).mp hj).2 with ⟨_, a⟩ | ⟨_, a⟩ | ⟨a, _⟩
    · exact List.mem_append_left _ (a ▸ .head _)
    · exact List.mem_append_right _ (a ▸ .head _)
    · exact List.mem_append_left _ (a ▸ .head _)
  refine Nat.le_trans this ?_
  rw [List.length_append, List.length_take, List.length_take]
  exact ar13
theorem good_ok {k:Int} (hk:k ∈ ou ++ rk):∀ j ∈ leftOf codes.length dn, j ≠ k→(cAt codes k ≠ 2 ∧ cAt codes j ≠ 2) ∨ (cAt codes k ≠ 1 ∧ cAt codes j ≠ 1)→k < j:=by
  refine eA2 (fun h1 h2=>?_) ((mem_out hcv g).mp hk)
  have hc:=cnt_zero.mp ((cnt_cond hcv g h1).mpr h2)
  have key:∀ o:Int, (o = 2 ∨ o = 1)→cAt codes k ≠ o→∀ j ∈ leftOf codes.length dn, j ≠ k→cAt codes j ≠ o→k < j:=fun o ho hko j hj hjk hjo=>by
    have e:=(side_first g ho h1 hko).mp fun a ha=>hc a (mem_preE.mpr (by
      unfold edges
      rcases ho with rfl | rfl
      · exact List.mem_append_left _ ha
      · exact List.mem_append_right _ ha))
    have hm:j ∈ sideL codes o (leftOf codes.length dn):=mem_side.mpr ⟨hj, hjo⟩
    have hs:(sideL codes o (leftOf codes.length dn)).Pairwise (· < ·):=left_asc.sublist List.filter_sublist
    cases hq:sideL codes o (leftOf codes.length dn) with
    | nil=>rw [hq] at hm; cases hm
    | cons x r =>
      rw [hq] at e hm hs
      have:k = x:=by simpa using e
      subst this
      rcases List.mem_cons.mp hm with h | h
      · exact absurd h hjk
      · exact (List.pairwise_cons.mp hs).1 j h
  intro j hj hjk hs
  rcases hs with hs | hs
  · exact key 2 (.inl rfl) hs.1 j hj hjk hs.2
  · exact key 1 (.inr rfl) hs.1 j hj hjk hs.2
theorem bad_ok {k:Int} (hl:k ∈ leftOf codes.length dn) (hk:k ∉ ou ++ rk):∃ j ∈ leftOf codes.length dn, j < k ∧ ((cAt codes k ≠ 2 ∧ cAt codes j ≠ 2) ∨ (cAt codes k ≠ 1 ∧ cAt codes j ≠ 1)):=by
  have z:=mem_left.mp hl
  have hc:cntU (preE (edges codes)) dn k ≠ 0:=fun h=>hk (List.mem_append.mpr (g.all k z.1.1 z.1.2 z.2 h))
  have:∃ a ∈ preE (edges codes) k, a ∉ dn:=by
    apply Classical.byContradiction
    intro h
    exact hc (cnt_zero.mpr fun a ha=>Classical.byContradiction fun hn=>h ⟨a, ha, hn⟩)
  (revert this; refine eE1 fun a=>?_; refine eA2 fun ha hd=>?_)
  have he:=mem_preE.mp ha
  have hr:=edges_ok he
  refine ⟨a, mem_left.mpr ⟨⟨hr.1, by lia⟩, hd⟩, hr.2.1, ?_⟩
  rcases List.mem_append.mp he with h | h
  · have:=edg_lt side_asc h
    exact .inl ⟨(mem_side.mp this.2.1).2, (mem_side.mp this.1).2⟩
  · have:=edg_lt side_asc h
    exact .inr ⟨(mem_side.mp this.2.1).2, (mem_side.mp this.1).2⟩
theorem out_ne {k:Int} (hl:k ∈ leftOf codes.length dn) (G:Gph codes.length (preE (edges codes)) (sucE (edges codes))):(ou.isEmpty && rk.isEmpty) = false:=by
  cases hq:leftOf codes.length dn with
  | nil=>rw [hq] at hl; cases hl
  | cons x r =>
    have hx:x ∈ leftOf codes.length dn:=hq ▸ .head _
    have z:=mem_left.mp hx
    have hs:=left_asc (N:=codes.length) (dn:=dn)
    rw [hq] at hs
    have:=g.least G z.1.1 z.1.2 z.2 fun a a0 a1=>Classical.byContradiction fun ha=>by
      have:a ∈ leftOf codes.length dn:=mem_left.mpr ⟨⟨a0, by lia⟩, ha⟩
      rw [hq] at this
      rcases List.mem_cons.mp this with h | h
      · lia
      · have:=(List.pairwise_cons.mp hs).1 a h
        lia
    cases ou with
    | nil =>
      cases rk with
      | nil=>cases this
      | cons y r=>rfl
    | cons y r=>rfl
end
end
section
open PySem PySem.W PyProof.Rows PySem.Challenge PySem.Spec
theorem left_step {N:Nat} {dn:List Int} {k:Int} (hk:k ∈ leftOf N dn):(leftOf N dn).erase k = leftOf N (dn ++ [k]):=by
  have h1:((leftOf N dn).erase k).Pairwise (· < ·):=left_asc.sublist List.erase_sublist
  have h2:(leftOf N (dn ++ [k])).Pairwise (· < ·):=left_asc
  have nd:∀ {l:List Int}, l.Pairwise (· < ·)→l.Nodup:=fun h=>h.imp fun h=>by exact Int.ne_of_lt h
  have hp:((leftOf N dn).erase k).Perm (leftOf N (dn ++ [k])):=by
    refine (List.perm_ext_iff_of_nodup (nd h1) (nd h2)).mpr fun j=>?_
    rw [List.Nodup.mem_erase_iff (nd left_asc), mem_left, mem_left, List.mem_append, List.mem_singleton]
    constructor
    · ((refine eA3 fun a b c=>?_))
      exact ⟨b, fun h=>h.elim c a⟩
    · ((refine eA2 fun a b=>?_))
      exact ⟨fun e=>b (.inr e), a, fun h=>b (.inl h)⟩
  exact hp.eq_of_pairwise (fun a b _ _ h1 h2=>absurd h1 (by exact Int.lt_asymm h2)) h1 h2
theorem left_len {N:Nat} {dn:List Int}:(leftOf N dn).length ≤ N:=by
  have:=List.length_filter_le (fun j=>decide (j ∉ dn)) (upto N)
  rwa [len_upto] at this
theorem cells_mono {L cd:Addr} {led led':List (Addr × Obj)} {v1 v2:Option Value} (h:CellsW L cd led v1 v2) (k:∀ q ∈ led, q.1 = L + 1 ∨ q.1 = L + 2 ∨ q.1 = L + 3→q ∈ led'):CellsW L cd led' v1 v2:=by
  obtain ⟨⟨a, b, c⟩, ⟨d, e, f⟩, ⟨g, i, j⟩⟩:=h
  exact ⟨⟨a, k _ b (.inl rfl), c⟩, ⟨d, k _ e (.inr (.inl rfl)), f⟩, ⟨g, k _ i (.inr (.inr rfl)), j⟩⟩
theorem cells_f {L cd fa:Addr} {led:List (Addr × Obj)} {o:Obj} {v1 v2:Option Value} (h:CellsW L cd led v1 v2) (ho:o.data = .cell (some (.ref fa))):CellsW L cd (upL (L + 2) o led) (some (.ref fa)) v2:=by
  obtain ⟨⟨a, b, c⟩, ⟨d, e, f⟩, ⟨g, i, j⟩⟩:=h
  exact ⟨⟨a, mem_upL_ne b (by show L + 1 ≠ L + 2; exact fun e=>absurd (Nat.add_left_cancel e) (by decide)), c⟩, ⟨o, mem_upL_self e, ho⟩, ⟨g, mem_upL_ne i (by show L + 3 ≠ L + 2; exact fun e=>absurd (Nat.add_left_cancel e) (by decide)), j⟩⟩
theorem cells_s {L cd sa:Addr} {led:List (Addr × Obj)} {o:Obj} {v1 v2:Option Value} (h:CellsW L cd led v1 v2) (ho:o.data = .cell (some (.ref sa))):CellsW L cd (upL (L + 3) o led) v1 (some (.ref sa)):=by
  obtain ⟨⟨a, b, c⟩, ⟨d, e, f⟩, ⟨g, i, j⟩⟩:=h
  exact ⟨⟨a, mem_upL_ne b (by show L + 1 ≠ L + 3; exact fun e=>absurd (Nat.add_left_cancel e) (by decide)), c⟩, ⟨d, mem_upL_ne e (by show L + 2 ≠ L + 3; exact fun e=>absurd (Nat.add_left_cancel e) (by decide)), f⟩, ⟨o, mem_upL_self i, ho⟩⟩
theorem wrk_turn {w:World} {dp un:Nat} {gd:Option (List Code)} {cn:Str} {cs:Scope} {Lc ac:Addr} {ccd:Value} {clc:List (Str × Addr)} {outer:List Env} {base g₀ h₀ hp:Heap} {L S out lft cd:Addr} {gs:Array GenState} {dr:Drawn} {tk0:Nat} {os:OsState} {Q:Flow→Shared→Prop} {E:Value→Shared→Prop}
    {mean:ExcName→Option Value} {mg mb:Str→Option Value} {led:List (Addr × Obj)} {mr:Str→Option Value} {own:List Addr} {dn ou rk codes:List Int} {vo vl vc:List Value} {co cl cc:Nat} {k:Int} {tk:Tok} {w1 w2:Option Value}
    (G:Gr (K2 w.params) q2 (looseW q2 loose2) mean mg mb (ktrTop dp un gd cn cs Lc ac ccd clc outer) base (envX cn cs Lc ac ccd clc :: outer) g₀ h₀) (XB:(K2 w.params).In base) (TB:Top q2 (looseW q2 loose2) mean mg mb base) (F:Fr h₀ L hp (wrkM3 k tk S out lft mr)) (Nw:News h₀ L hp led)
    (hE:PassesOwn (model rw_mu0013_01.row.prog w) (wrkA (dp + 1) (un + 3) gd L (envX cn cs Lc ac ccd clc :: outer)) (wrkE L) E)
    (hS:Sorter w codes.length (preE (edges codes)) (sucE (edges codes)) led S own dn ou rk) (hout:(out, listOf vo.toArray co) ∈ led) (hlft:(lft, listOf vl.toArray cl) ∈ led) (hcd:(cd, listOf vc.toArray cc) ∈ led) (hC:CellsW L cd led w1 w2) (oout:out ∉ own) (olft:lft ∉ own) (ocd:cd ∉ own) (d1:out ≠ lft) (dcd:cd ≠ out ∧ cd ≠ lft ∧ cd ≠ L + 2 ∧ cd ≠ L + 3) (dl:lft ≠ L + 2 ∧ lft ≠ L + 3) (do9:out ≠ L + 2 ∧ out ≠ L + 3)
    (hLs:∀ a, a = L + 1 ∨ a = L + 2 ∨ a = L + 3→a ∉ own ∧ a ≠ out ∧ a ≠ lft)
    (hio:IntsAre vo ou) (hil:IntsAre vl (leftOf codes.length dn)) (hic:IntsAre vc codes) (hcv:∀ j:Int, 0 ≤ j→j < (codes.length:Int)→cAt codes j = 0 ∨ cAt codes j = 1 ∨ cAt codes j = 2) (hkl:k ∈ leftOf codes.length dn) (hN:codes.length ≤ 69)
    (hd:dp + 160 < recursionLimit) (hu:un + 2100 < cLine)
    (good:(∀ j ∈ leftOf codes.length dn, j ≠ k→(cAt codes k ≠ 2 ∧ cAt codes j ≠ 2) ∨ (cAt codes k ≠ 1 ∧ cAt codes j ≠ 1)→k < j)→∀ h' tk' led' ou' rk' vo' co' vl' cl' w1' w2' mr', (∀ z, z ≠ Str.ofString "active"→z ≠ Str.ofString "more"→wrkM3 k tk S out lft mr' z = wrkM3 k tk S out lft mr z)→Fr h₀ L h' (wrkM3 k tk S out lft mr')→News h₀ L h' led'→Sorter w codes.length (preE (edges codes)) (sucE (edges codes)) led' S own (dn ++ [k]) ou' rk'→(out, listOf (List.toArray vo') co') ∈ led'→IntsAre vo' ou'→(lft, listOf (List.toArray vl') cl') ∈ led'→IntsAre vl' (leftOf codes.length (dn ++ [k]))→CellsW L cd led' w1' w2'→(∀ q ∈ led, q.1 ∉ own→q.1 ≠ out→q.1 ≠ lft→q.1 ≠ L + 2→q.1 ≠ L + 3→q ∈ led')→Q .next ⟨h', gs, dr, tk', os⟩)
    (bad:(∃ j ∈ leftOf codes.length dn, j < k ∧ ((cAt codes k ≠ 2 ∧ cAt codes j ≠ 2) ∨ (cAt codes k ≠ 1 ∧ cAt codes j ≠ 1)))→∀ g' h' tk' m' led', Gr (K2 w.params) q2 (looseW q2 loose2) mean mg mb (ktrTop dp un gd cn cs Lc ac ccd clc outer) base (envX cn cs Lc ac ccd clc :: outer) g₀ g'→Fr g' L h' m'→News g' L h' led'→(∀ q ∈ led, q.1 ∉ own→q.1 ≠ out→q.1 ≠ L + 2→q.1 ≠ L + 3→q ∈ led')→Q (.ret (.bool false)) ⟨h', gs, dr, tk', os⟩) :
    wpAny (model rw_mu0013_01.row.prog w) (wrkA (dp + 1) (un + 3) gd L (envX cn cs Lc ac ccd clc :: outer)) (execs (forBody wrkFor3) (wrkE L)) Q E ⟨hp, gs, dr, tk0, os⟩:=by
  obtain ⟨TT, B, X, T, DD⟩:=id G
  have gi:=hS.inv
  have hol:=(out_len hcv gi.2)
  have hlo2:vo.length ≤ 900:=by
    rw [hio.length]
    rw [List.length_append] at hol
    lia
  have hlr2:rk.length ≤ 900:=by
    rw [List.length_append] at hol
    lia
  have hll:=left_len (N:=codes.length) (dn:=dn)
  have hlfr:∀ j ∈ leftOf codes.length dn, 0 ≤ j ∧ j < (codes.length:Int):=fun j hj=>(mem_left.mp hj).1
  refine wrk_a B F Nw T hE hS hout hlft oout olft (out_ne hcv gi.2 hkl gi.1) hlo2 hlr2 hio (by lia) (by lia) ?_ X
  intro vo1 co1 h1 tk1 led1 mr1 hmr F1 N1 S1 ho1 i1 K1
  have C1:=cells_mono hC fun q hq hL=>K1 q hq (hLs _ hL).1 (hLs _ hL).2.1
  have hl1:=K1 _ hlft olft (Ne.symm d1)
  have hc1:=K1 _ hcd ocd dcd.1
  refine wrk_b1 B F1 N1 T hE hl1 hc1 C1 hil hic hlfr hN (by exact Nat.le_trans hll hN) (by omega) (by omega) ?_ X
  intro fa v1 h2 tk2 led2 o2 F2 N2 d2 hfa2 i2 K2' lt2
  have C2:CellsW L cd (upL (L + 2) o2 led2) (some (.ref fa)) w2:=cells_f (cells_mono C1 fun q hq _=>K2' q hq) d2
  have hfaL:fa ≠ L + 2:=Ne.symm (Nat.ne_of_lt (by (refine eE1 (fun o=>?_) C1.f; refine eA2 fun ho _=>?_); exact lt2 _ ho))
  have hfaL3:fa ≠ L + 3:=Ne.symm (Nat.ne_of_lt (by (refine eE1 (fun o=>?_) C1.s; refine eA2 fun ho _=>?_); exact lt2 _ ho))
  refine wrk_b2 B F2 N2 T hE (mem_upL_ne (K2' _ hl1) dl.1) (mem_upL_ne (K2' _ hc1) dcd.2.2.1) C2 hil hic hlfr hN (by omega) (by omega) (by omega) ?_ X
  intro sa v2 h3 tk3 led3 o3 F3 N3 d3 hsa3 i3 K3 lt3
  have C3:CellsW L cd (upL (L + 3) o3 led3) (some (.ref fa)) (some (.ref sa)):=cells_s (cells_mono C2 fun q hq _=>K3 q hq) d3
  have hsaL:sa ≠ L + 3:=Ne.symm (Nat.ne_of_lt (by (refine eE1 (fun o=>?_) C2.s; refine eA2 fun ho _=>?_); exact lt3 _ ho))
  have keep3:∀ q ∈ led1, q.1 ≠ L + 2→q.1 ≠ L + 3→q ∈ upL (L + 3) o3 led3:=fun q hq a b=>mem_upL_ne (K3 q (mem_upL_ne (K2' q hq) a)) b
  refine wrk_c B F3 N3 T hE (keep3 _ ho1 do9.1 do9.2) (keep3 _ hl1 dl.1 dl.2) (keep3 _ hc1 dcd.2.2.1 dcd.2.2.2) C3 (mem_upL_ne (K3 _ (mem_upL_ne hfa2 hfaL)) hfaL3) (mem_upL_ne hsa3 hsaL) i1 hil hic i2 i3 hlfr hN (by omega) (by lia) (fun ns hp ho=>out_sorted hcv gi.2 hp ho) (by omega) (by omega) ?_ X
  intro h4 tk4 led4 F4 N4 K4
  have keep4:∀ q ∈ led1, q.1 ≠ L + 2→q.1 ≠ L + 3→q ∈ led4:=fun q hq a b=>K4 q (keep3 q hq a b)
  have S4:=S1.mono (led':=led4) fun q hq ho=>keep4 q hq (fun e=>(hLs (L + 2) (.inr (.inl rfl))).1 (e ▸ ho)) (fun e=>(hLs (L + 3) (.inr (.inr rfl))).1 (e ▸ ho))
  have C4:=cells_mono C3 fun q hq _=>K4 q hq
  refine wrk_d G XB TB F4 N4 hE S4 (keep4 _ ho1 do9.1 do9.2) (keep4 _ hl1 dl.1 dl.2) oout olft d1 i1 hil left_asc (fun j=>mem_left) hkl hN (by omega) (by omega) (by lia) (by lia) ?_ ?_ X
  · intro hk h5 tk5 led5 vo5 co5 vl5 cl5 rk5 F5 N5 S5 ho5 io5 hl5 il5 K5
    rw [left_step hkl] at il5
    refine good (good_ok hcv gi.2 hk) h5 tk5 led5 _ rk5 vo5 co5 vl5 cl5 _ _ mr1 hmr F5 N5 S5 ho5 io5 hl5 il5 (cells_mono C4 fun q hq hL=>K5 q hq (hLs _ hL).1 (hLs _ hL).2.1 (hLs _ hL).2.2) fun q hq a b c d e=>K5 q (keep4 q (K1 q hq a b) d e) a b c
  · intro hk g5 h5 tk5 m5 led5 G5 F5 N5 K5
    exact bad (bad_ok hcv gi.2 hkl hk) g5 h5 tk5 m5 led5 G5 F5 N5 fun q hq a b d e=>K5 q (keep4 q (K1 q hq a b) d e) a
end
section
open PySem PySem.W PyProof.Rows PySem.Challenge PySem.Spec
local macro_rules | `(tactic| walk_at $s)=>Tab.rules s "exec For Name Name cons nil|halt"
theorem range_upto {n:Nat}:rangeKs 0 ((n:Int) - 0).toNat = leftOf n []:=by
  rw [show ((n:Int) - 0).toNat = n by exact lenZ n]
  unfold rangeKs leftOf upto
  rw [List.filter_eq_self.mpr (fun a _=>by simp)]
  exact List.map_congr_left fun k _=>by lia
structure WSt (w:World) (order codes:List Int) (S out lft L cd:Addr) (own:List Addr) (n0:List (Addr × Obj)) (i:Nat) (c:List (Addr × Obj)) (t:List Int × List Int × List Value × Nat × List Value × Nat × Option Value × Option Value):Prop where
  hS:Sorter w codes.length (preE (edges codes)) (sucE (edges codes)) c S own (order.take i) t.1 t.2.1
  ho:(out, listOf t.2.2.1.toArray t.2.2.2.1) ∈ c
  io:IntsAre t.2.2.1 t.1
  hl:(lft, listOf t.2.2.2.2.1.toArray t.2.2.2.2.2.1) ∈ c
  il:IntsAre t.2.2.2.2.1 (leftOf codes.length (order.take i))
  hC:CellsW L cd c t.2.2.2.2.2.2.1 t.2.2.2.2.2.2.2
  keep:∀ q ∈ n0, q.1 ≠ L + 2→q.1 ≠ L + 3→q ∈ c
  ok:∀ p q a b, p < q→p < i→order[p]? = some a→order[q]? = some b→(cAt codes a ≠ 2 ∧ cAt codes b ≠ 2) ∨ (cAt codes a ≠ 1 ∧ cAt codes b ≠ 1)→a < b
theorem rise_of {order codes:List Int} (h:∀ p q a b, p < q→p < order.length→order[p]? = some a→order[q]? = some b→(cAt codes a ≠ 2 ∧ cAt codes b ≠ 2) ∨ (cAt codes a ≠ 1 ∧ cAt codes b ≠ 1)→a < b):(sideL codes 2 order).Pairwise (· < ·) ∧ (sideL codes 1 order).Pairwise (· < ·):=by
  have key:∀ o:Int, (o = 2 ∨ o = 1)→(sideL codes o order).Pairwise (· < ·):=fun o ho=>by
    unfold sideL
    rw [List.pairwise_filter, List.pairwise_iff_getElem]
    intro p q hp hq hpq h1 h2
    refine h p q _ _ hpq hp (List.getElem?_eq_getElem hp) (List.getElem?_eq_getElem hq) ?_
    have a1:=of_decide_eq_true h1
    have a2:=of_decide_eq_true h2
    rcases ho with rfl | rfl
    · exact .inl ⟨a1, a2⟩
    · exact .inr ⟨a1, a2⟩
  exact ⟨key 2 (.inl rfl), key 1 (.inr rfl)⟩
theorem not_rise {order codes:List Int} {p q:Nat} {a b:Int} (hpq:p < q) (ha:order[p]? = some a) (hb:order[q]? = some b) (hlt:b < a) (hs:(cAt codes a ≠ 2 ∧ cAt codes b ≠ 2) ∨ (cAt codes a ≠ 1 ∧ cAt codes b ≠ 1)):¬ ((sideL codes 2 order).Pairwise (· < ·) ∧ (sideL codes 1 order).Pairwise (· < ·)):=by
  intro h
  refine eE1 (fun h1 e1=>?_) (List.getElem?_eq_some_iff.mp ha)
  refine eE1 (fun h2 e2=>?_) (List.getElem?_eq_some_iff.mp hb)
  have key:∀ o:Int, (sideL codes o order).Pairwise (· < ·)→cAt codes a ≠ o→cAt codes b ≠ o→False:=fun o ho a1 a2=>by
    unfold sideL at ho
    rw [List.pairwise_filter, List.pairwise_iff_getElem] at ho
    have:=ho p q h1 h2 hpq (decide_eq_true (by rw [e1]; exact a1)) (decide_eq_true (by rw [e2]; exact a2))
    lia
  rcases hs with hs | hs
  · exact key 2 h.1 hs.1 hs.2
  · exact key 1 h.2 hs.1 hs.2
theorem wrk_body {w:World} {dp un:Nat} {gd:Option (List Code)} {cn:Str} {cs:Scope} {Lc ac:Addr} {ccd:Value} {clc:List (Str × Addr)} {outer:List Env} {base h₀ hp:Heap} {L cd od sd s1 s2:Addr} {gs:Array GenState} {dr:Drawn} {tk0:Nat} {os:OsState} {Q:Flow→Shared→Prop} {E:Value→Shared→Prop}
    {mean:ExcName→Option Value} {mg mb:Str→Option Value} {led:List (Addr × Obj)} {order codes:List Int} {vo vc v1 v2:List Value} {no nc c0 c1 c2:Nat} {w1 w2:Option Value}
    (G:Gr (K2 w.params) q2 (looseW q2 loose2) mean mg mb (ktrTop dp un gd cn cs Lc ac ccd clc outer) base (envX cn cs Lc ac ccd clc :: outer) h₀ h₀) (XB:(K2 w.params).In base) (TB:Top q2 (looseW q2 loose2) mean mg mb base) (F:Fr h₀ L hp (fun y=>List.lookup y [(Str.ofString "sides", .ref sd), (Str.ofString "order", .ref od)])) (Nw:News h₀ L hp led)
    (hE:PassesOwn (model rw_mu0013_01.row.prog w) (wrkA (dp + 1) (un + 3) gd L (envX cn cs Lc ac ccd clc :: outer)) (wrkE L) E)
    (hod:(od, listOf vo.toArray no) ∈ led) (hcd:(cd, listOf vc.toArray nc) ∈ led) (hsd:(sd, listOf [.ref s1, .ref s2].toArray c0) ∈ led) (hs1:(s1, listOf v1.toArray c1) ∈ led) (hs2:(s2, listOf v2.toArray c2) ∈ led) (hC:CellsW L cd led w1 w2)
    (hio:IntsAre vo order) (hic:IntsAre vc codes) (hi1:IntsAre v1 (sideL codes 2 (upto codes.length))) (hi2:IntsAre v2 (sideL codes 1 (upto codes.length)))
    (hcv:∀ j:Int, 0 ≤ j→j < (codes.length:Int)→cAt codes j = 0 ∨ cAt codes j = 1 ∨ cAt codes j = 2) (hN:codes.length ≤ 69) (hperm:order.Perm (upto codes.length)) (hgb:AllBare gs)
    (hd:dp + 200 < recursionLimit) (hu:un + 3000 < cLine)
    (ret:∀ b g' h' gs' tk' m' led', AllBare gs'→Gr (K2 w.params) q2 (looseW q2 loose2) mean mg mb (ktrTop dp un gd cn cs Lc ac ccd clc outer) base (envX cn cs Lc ac ccd clc :: outer) h₀ g'→Fr g' L h' m'→News g' L h' led'→(∀ q ∈ led, q.1 ≠ L + 2→q.1 ≠ L + 3→q ∈ led')→(b = true ↔ (sideL codes 2 order).Pairwise (· < ·) ∧ (sideL codes 1 order).Pairwise (· < ·))→Q (.ret (.bool b)) ⟨h', gs', dr, tk', os⟩) :
    (K2 w.params).In h₀→wpAny (model rw_mu0013_01.row.prog w) (wrkA (dp + 1) (un + 3) gd L (envX cn cs Lc ac ccd clc :: outer)) (execs (bodyOf (top 19)) (wrkE L)) Q E ⟨hp, gs, dr, tk0, os⟩:=by
  obtain ⟨TT, B, X₀, T, DD⟩:=id G
  w_on
  k_fill
  intro X
  have hb:=Eq.refl (bodyOf (top 19))
  conv at hb=>rhs; whnf
  rw [hb]
  clear hb
  obtain ⟨⟨oc, mc, ec⟩, ⟨o1, m1, e1⟩, ⟨o2, m2, e2⟩⟩:=id hC
  w_strict (
    (have mk:=kstMark)
    k_steps
    (unfold Halt)
    (refine' makeB B F Nw T rfl ?a1 ?a2 ?a3 ?a4)
    (case a1=>ktr_room)
    (case a2=>ktr_units)
    (case a4=>k_asm)
    (case a3 =>
      intro S h1 tk1 led1 F1 N1 hB1
      clear F Nw
      k_steps
      (unfold Halt)
      (rename Fr _ _ _ _=>F2)
      (rename News _ _ _ _=>N2)
      (have hE2:∀ a b, (a, b) ∈ edges codes→0 ≤ a ∧ a < b ∧ b < (codes.length:Int):=fun a b h=>edges_ok h)
      (refine' wrk_for1 (N:=codes.length) (l1:=sideL codes 2 (upto codes.length)) (l2:=sideL codes 1 (upto codes.length)) B (fr_as F2 (wrkM S od sd) (by rfl)) N2 T hE hB1 hsd hs1 hs2 hi1 hi2 side_asc side_asc ?a5 hN hgb ?a6 ?a7 ?a8 X)
      (case a5=>exact fun k hk=>mem_upto.mp (hk.elim (fun h=>(mem_side.mp h).1) fun h=>(mem_side.mp h).1))
      (case a6=>ktr_room)
      (case a7=>ktr_units)
      (case a8 =>
        intro u3 h3 gs3 tk3 led3 hg3 F3 N3 hB3
        clear F2 N2
        ((refine eE9 (fun dS3 t31 t32 t33 t34 D3 rv3 pv3 fv3=>?_) hB3.sm; refine eA2 fun hs3 hd3=>?_))
        k_steps
        (unfold Halt)
        (have hB4:SrtB w led3 led S (edges codes) (fun k=>0 ≤ k ∧ k < (codes.length:Int)):=hB3.congr fun x=>by
          rw [mem_side, mem_side, mem_upto]
          constructor
          · exact fun h=>h.elim And.left And.left
          · intro h
            by_cases e:cAt codes x = 2
            · exact .inr ⟨h, by lia⟩
            · exact .inl ⟨h, e⟩)
        (refine' prepB B F3 N3 T XB TB DD rfl hB4 hE2 (fun a=>suc_two) (by lia) ?c1 ?c2 ?c3 ?c4)
        (case c1=>ktr_room)
        (case c2=>ktr_units)
        (case c4=>k_asm)
        (case c3 =>
          intro own rk4 g4 h4 tk4 led4 TT4 F4 N4 S4 K4 B4 X4 T4 D4
          clear F3 N3 B T X X₀ DD TT
          (have mc4:=(K4 _ mc).1)
          (have hcd4:=(K4 _ hcd).1)
          (have hvc:=hic.length)
          k_steps
          (unfold Halt)
          (rename Fr _ _ _ _=>F5)
          (rename News _ _ _ _=>N5)
          (rename IntsAre _ (rangeKs 0 _)=>i5)
          (rename_i out5 hh1 lo5 hh2 ee hh3 tkk tt1 uu1 vv1 rr aa lft5 vs5 cc5 hh4 tkx ll5 tk5)
          rw [range_upto] at i5
          clear rr aa
          (have lft4:∀ q ∈ led4, q.1 < lft5:=fun q hq=>ktn_ltOf ll5.2 q hq)
          (have oown:∀ a ∈ own, a < out5 ∧ a < lft5:=fun a ha=>by
            refine eE1 (fun o ho=>?_) (S4.own_in a ha)
            exact ⟨lo5 _ ho, lft4 _ ho⟩)
          (have oout:out5 ∉ own:=fun h=>Nat.lt_irrefl _ (oown _ h).1)
          (have olft:lft5 ∉ own:=fun h=>Nat.lt_irrefl _ (oown _ h).2)
          (have far5:∀ q ∈ led, q.1 ∉ own ∧ q.1 ≠ out5 ∧ q.1 ≠ lft5:=fun q hq=>⟨(K4 q hq).2, Nat.ne_of_lt (lo5 _ (K4 q hq).1), Nat.ne_of_lt (lft4 _ (K4 q hq).1)⟩)
          (have up5:∀ q ∈ led, q ∈ (lft5, listOf vs5.toArray cc5) :: (out5, listOf #[] 0) :: led4:=fun q hq=>.tail _ (.tail _ (K4 q hq).1))
          (have hLs:∀ a, a = L + 1 ∨ a = L + 2 ∨ a = L + 3→a ∉ own ∧ a ≠ out5 ∧ a ≠ lft5:=fun a ha=>by
            rcases ha with rfl | rfl | rfl
            · exact far5 _ mc
            · exact far5 _ m1
            · exact far5 _ m2)
          (have ne2:∀ {b:Addr} {vv:List Value} {nn:Nat}, (b, listOf vv.toArray nn) ∈ led→b ≠ L + 2 ∧ b ≠ L + 3:=fun {b vv nn} hb=>⟨fun e=>news_neo N5 (up5 _ hb) (up5 _ m1) (fun q=>by have:=congrArg Obj.data q; rw [e1] at this; cases this) e, fun e=>news_neo N5 (up5 _ hb) (up5 _ m2) (fun q=>by have:=congrArg Obj.data q; rw [e2] at this; cases this) e⟩)
          (have hn5:lft5 ≠ L + 2 ∧ lft5 ≠ L + 3:=⟨fun e=>(hLs _ (.inr (.inl rfl))).2.2 e.symm, fun e=>(hLs _ (.inr (.inr rfl))).2.2 e.symm⟩)
          (have ho5:out5 ≠ L + 2 ∧ out5 ≠ L + 3:=⟨fun e=>(hLs _ (.inr (.inl rfl))).2.1 e.symm, fun e=>(hLs _ (.inr (.inr rfl))).2.1 e.symm⟩)
          (have dol:out5 ≠ lft5:=Nat.ne_of_lt ll5.1)
          (have hnd:order.Nodup:=hperm.nodup_iff.mpr (upto_asc.imp fun h=>by lia))
          (have hor:∀ a, a ∈ order ↔ 0 ≤ a ∧ a < (codes.length:Int):=fun a=>hperm.mem_iff.trans mem_upto)
          (have hol:order.length = codes.length:=hperm.length_eq.trans len_upto)
          (have later:∀ {p q:Nat} {a b:Int}, p ≤ q→order[q]? = some b→b ∈ leftOf codes.length (order.take p):=fun {p q a b} hpq hb=>by
            refine mem_left.mpr ⟨(hor b).mp (List.mem_of_getElem? hb), fun hm=>?_⟩
            obtain ⟨r, hr, e⟩:=List.mem_take_iff_getElem.mp hm
            refine eE1 (fun h2 e2=>?_) (List.getElem?_eq_some_iff.mp hb)
            have:=(List.getElem_inj hnd).mp (e.trans e2.symm)
            lia)
          (have at_later:∀ {p:Nat} {b:Int}, b ∈ leftOf codes.length (order.take p)→∃ q, p ≤ q ∧ order[q]? = some b:=fun {p b} hb=>by
            have z:=mem_left.mp hb
            obtain ⟨q, hq, e⟩:=List.mem_iff_getElem.mp ((hor b).mpr z.1)
            refine ⟨q, Nat.le_of_not_lt fun hlt=>z.2 (List.mem_take_iff_getElem.mpr ⟨q, by lia, e⟩), by rw [List.getElem?_eq_getElem hq, e]⟩)
          (refine' forX ?_ (by (intro _; rfl)))
          k_steps
          (unfold Halt)
          (rename Fr _ _ _ _=>F6)
          (rename News _ _ _ _=>N6)
          (refine' kx_list (τ:=List Int × List Int × List Value × Nat × List Value × Nat × Option Value × Option Value) (vs:=vo) (nn:=no) (fun _=>[]) [Str.ofString "active", Str.ofString "more"] (WSt w order codes S out5 lft5 L cd own led) ([], rk4, [], 0, vs5, cc5, w1, w2) (by rfl) (by rfl) hE hg3 rfl (up5 _ hod) F6 N6 (List.forall_mem_nil _) ?pP ?turn ?done)
          (case pP=>exact ⟨S4.mono fun q hq _=>.tail _ (.tail _ hq), .tail _ (.head _), .nil, .head _, i5, cells_mono hC fun q hq _=>up5 q hq, fun q hq _ _=>up5 q hq, fun p q a b _ hp=>by lia⟩)
          (case turn =>
            (rintro i v c hZ1; obtain ⟨ou, rk, vo7, co7, vl7, cl7, u1, u2⟩:=hZ1; rintro u h7 gs7 tk7 I7 oI7 hg7 hv P7 hl7 off7 lI7 F7 N7)
            clear F6 N6
            obtain ⟨p1, p2, p3, p4, p5, p6, p7, p8⟩:=P7
            dsimp only at p1 p2 p3 p4 p5 p6
            (have hlt:i < order.length:=by
              have:=(List.getElem?_eq_some_iff.mp hv).1
              rw [hio.length] at this
              exact this)
            (refine eE1 (fun tv ht=>?_) (hio.get i order[i] (by simp [hlt])))
            (obtain rfl:v = .int order[i] tv:=by
              rw [ht] at hv
              exact (Option.some.inj hv).symm)
            (have hk0:order[i]? = some order[i]:=List.getElem?_eq_getElem hlt)
            (have hkl:=later (a:=0) (Nat.le_refl i) hk0)
            (have hst:order.take (i + 1) = order.take i ++ [order[i]]:=by rw [List.take_add_one, hk0]; rfl)
            (generalize order[i] = kk at *)
            (have F8:=fr_as F7 _ (m3_self (k:=kk) (tk:=tv) (S:=S) (out:=out5) (lft:=lft5) (by rfl) (by rfl) (by rfl) (by rfl)))
            (have hIo:I7 ∉ own:=fun hm=>by refine eE1 (fun o ho=>?_) (p1.own_in I7 hm); exact off7 _ ho rfl)
            (have hI1:I7 ≠ out5:=fun e=>off7 _ p2 e.symm)
            (have hI2:I7 ≠ lft5:=fun e=>off7 _ p4 e.symm)
            (have hI3:I7 ≠ L + 2:=fun e=>by (refine eE1 (fun o=>?_) p6.f; refine eA2 fun ho _=>?_); exact off7 _ ho e.symm)
            (have hI4:I7 ≠ L + 3:=fun e=>by (refine eE1 (fun o=>?_) p6.s; refine eA2 fun ho _=>?_); exact off7 _ ho e.symm)
            (have hcd7:=p7 _ hcd (ne2 hcd).1 (ne2 hcd).2)
            (refine' wrk_turn ⟨TT4, B4, X4, T4, D4⟩ XB TB F8 N7 hE (p1.mono fun q hq _=>.tail _ hq) (.tail _ p2) (.tail _ p4) (.tail _ hcd7) (cells_mono p6 fun q hq _=>.tail _ hq) oout olft (far5 _ hcd).1 dol ⟨(far5 _ hcd).2.1, (far5 _ hcd).2.2, (ne2 hcd).1, (ne2 hcd).2⟩ hn5 ho5 hLs p3 p5 hic hcv hkl hN (by lia) (by lia) ?good ?bad)
            (case good =>
              intro hok h9 tk9 led9 ou9 rk9 vo9 co9 vl9 cl9 w19 w29 mr9 hmr F9 N9 S9 ho9 io9 hl9 il9 C9 K9
              (have hI9:=K9 (I7, oI7) (.head _) hIo hI1 hI2 hI3 hI4)
              (have far9:∀ q ∈ c, q.1 ∉ own→q.1 ≠ out5→q.1 ≠ lft5→q.1 ≠ L + 2→q.1 ≠ L + 3→q ∈ led9.filter fun p=>decide (p.1 ≠ I7):=fun q hq a b d e f=>mem_filt (K9 q (.tail _ hq) a b d e f) (off7 q hq))
              dsimp only [KxPost]
              (refine' kx_end (ou9, rk9, vo9, co9, vl9, cl9, w19, w29) hg7 F9 (news_front N9 hI9) ?k1 front_ne (List.forall_mem_nil _) ?k2 ?k3)
              (case k1=>exact List.forall_mem_singleton.mpr (far9 _ hl7 (far5 _ hod).1 (far5 _ hod).2.1 (far5 _ hod).2.2 (ne2 hod).1 (ne2 hod).2))
              (case k2 =>
                intro z z1 _ z3
                (have e1:=ne_of_in z3 (.head _))
                (have e2:=ne_of_in z3 (.tail _ (.head _)))
                rw [hmr z e1 e2]
                (refine (congrFun (m3_self (k:=kk) (tk:=tv) (S:=S) (out:=out5) (lft:=lft5) (by rfl) (by rfl) (by rfl) (by rfl)) z).symm.trans ?_)
                rw [if_neg z1]
                show (if _ = true then _ else _) = _
                rw [z3]
                rfl)
              (case k3 =>
                refine ⟨?_, mem_filt ho9 (Ne.symm hI1), io9, mem_filt hl9 (Ne.symm hI2), by rw [hst]; exact il9, cells_mono C9 fun q hq hL=>mem_filt hq (by
                  rcases hL with e | e | e
                  · exact fun e2=>by (refine eE1 (fun o=>?_) p6.c; refine eA2 fun ho _=>?_); exact off7 _ ho (e.symm.trans e2)
                  · exact fun e2=>hI3 (e2.symm.trans e)
                  · exact fun e2=>hI4 (e2.symm.trans e)), fun q hq a b=>far9 q (p7 q hq a b) (far5 q hq).1 (far5 q hq).2.1 (far5 q hq).2.2 a b, fun p q a b hpq hp ha hb hs=>?_⟩
                · rw [hst]
                  exact S9.mono fun q hq ho=>mem_filt hq fun e=>hIo (e ▸ ho)
                · by_cases e:p < i
                  · exact p8 p q a b hpq e ha hb hs
                  · obtain rfl:p = i:=by lia
                    obtain rfl:kk = a:=Option.some.inj (hk0.symm.trans ha)
                    refine hok b (later (a:=0) (by lia) hb) (fun eb=>?_) hs
                    subst eb
                    refine eE1 (fun x1 y1=>?_) (List.getElem?_eq_some_iff.mp ha)
                    refine eE1 (fun x2 y2=>?_) (List.getElem?_eq_some_iff.mp hb)
                    have:=(List.getElem_inj hnd).mp (y1.trans y2.symm)
                    lia))
            (case bad =>
              ((refine eE1 fun j=>?_; refine eA3 fun hj hjk hs=>?_); rintro g9 h9 tk9 m9 led9 G9 F9 N9 K9)
              (refine eE1 (fun q=>?_) (at_later hj); refine eA2 fun hq hqj=>?_)
              have hqi:i < q:=by
                rcases Nat.lt_or_ge i q with h | h
                · exact h
                · obtain rfl:q = i:=by lia
                  have:=Option.some.inj (hk0.symm.trans hqj)
                  lia
              exact ret false g9 h9 _ _ m9 led9 hg7 G9 F9 N9 (fun q hq a b=>K9 q (.tail _ (p7 q hq a b)) (far5 q hq).1 (far5 q hq).2.1 a b) ⟨fun e=>(Bool.false_ne_true e).elim, fun h=>absurd h (not_rise hqi hk0 hqj hjk hs)⟩))
          (case done =>
            (rintro c hZ3; obtain ⟨ou, rk, vo7, co7, vl7, cl7, u1, u2⟩:=hZ3; rintro u h7 gs7 tk7 hg7 P7 hl7 F7 N7)
            clear F6 N6
            obtain ⟨p1, p2, p3, p4, p5, p6, p7, p8⟩:=P7
            dsimp only at p1 p2 p3 p4 p5 p6
            rw [hio.length, List.take_length] at p1
            (have hz:=p1.inv.2.none fun k k0 k1=>(hor k).mpr ⟨k0, k1⟩)
            ((revert hz; refine eA2 fun hR0 hR1=>?_; subst hR0 hR1))
            ((refine eE9 (fun dS7 t71 t72 t73 t74 D7 rv7 pv7 fv7=>?_) p1.sm; refine eA2 fun hs7 hd7=>?_))
            k_steps
            (unfold Halt)
            (refine' actS (hS:=p1) ?b1 F7 N7 ?b2 ?b3 ?b4 ?b5 ?b6 ?b7)
            (case b1=>k_asm)
            (case b2=>k_asm)
            (case b3=>exact rfl)
            (case b4=>ktr_room)
            (case b5=>ktr_units)
            (case b7=>k_asm)
            (case b6 =>
              intro h8 tk8 F8 N8
              clear F7 N7
              k_steps
              exact ret true g4 h8 _ _ _ c hg7 ⟨TT4, B4, X4, T4, D4⟩ F8 N8 p7 ⟨fun _=>rise_of fun p q a b hpq hp ha hb hs=>p8 p q a b hpq (by rw [hio.length]; exact hp) ha hb hs, fun _=>rfl⟩))))))
end
end
end
end
end
section
open PySem PySem.W PyProof.Rows PySem.Challenge PySem.Spec PySem.Calls
section
open PySem PySem.W PyProof.Rows PySem.Challenge PySem.Spec
theorem wrk_binds {L:Addr} {od cd sd:Addr} {y:Str}:bindL (envOfC (Str.ofString "_law_worked") (scopeOf (top 19)) L 468 (.ref 467)).kindOf [(Str.ofString "order", .ref od), (Str.ofString "codes", .ref cd), (Str.ofString "sides", .ref sd)] (fun _=>none) y = List.lookup y [(Str.ofString "sides", .ref sd), (Str.ofString "order", .ref od)]:=by
  have e:bindL (envOfC (Str.ofString "_law_worked") (scopeOf (top 19)) L 468 (.ref 467)).kindOf [(Str.ofString "order", .ref od), (Str.ofString "codes", .ref cd), (Str.ofString "sides", .ref sd)] (fun _=>none) = fun y=>if y = Str.ofString "sides" then some (.ref sd) else if y = Str.ofString "order" then some (.ref od) else none:=by with_unfolding_all rfl
  rw [e]
  dsimp only
  rw [List.lookup_cons]
  by_cases h1:y = Str.ofString "sides"
  · rw [if_pos h1, h1, beq_self_eq_true]
  · rw [if_neg h1, beq_false_of_ne h1]
    dsimp only
    rw [List.lookup_cons]
    by_cases h2:y = Str.ofString "order"
    · rw [if_pos h2, h2, beq_self_eq_true]
    · rw [if_neg h2, beq_false_of_ne h2]
      rfl
theorem worked_tells {w:World} {dp un:Nat} {gd:Option (List Code)} {cn:Str} {cs:Scope} {a:Addr} {ccd:Value} {cl:List (Str × Addr)} {outer:List Env} {A₀:Around} {base h₀:Heap} {L:Addr} {m:Str→Option Value} {news:List (Addr × Obj)} {s:Shared}
    {mean:ExcName→Option Value} {mg mb:Str→Option Value} {cd od sd s1 s2:Addr} {order codes:List Int} {vo vc v1 v2:List Value} {no nc c0 c1 c2:Nat} {Q E:Value→Shared→Prop}
    (B:Below A₀ base outer h₀) (F:Fr h₀ L s.heap m) (Nw:News h₀ L s.heap news) (T:Top q2 (looseW q2 loose2) mean mg mb h₀) (XB:(K2 w.params).In base) (TB:Top q2 (looseW q2 loose2) mean mg mb base) (DD:KtsDicts (outer.filterMap (·.frame)) h₀) (hk:cs.kind = .function)
    (hod:(od, listOf vo.toArray no) ∈ news) (hcd:(cd, listOf vc.toArray nc) ∈ news) (hsd:(sd, listOf [.ref s1, .ref s2].toArray c0) ∈ news) (hs1:(s1, listOf v1.toArray c1) ∈ news) (hs2:(s2, listOf v2.toArray c2) ∈ news)
    (hio:IntsAre vo order) (hic:IntsAre vc codes) (hi1:IntsAre v1 (sideL codes 2 (upto codes.length))) (hi2:IntsAre v2 (sideL codes 1 (upto codes.length)))
    (hcv:∀ j:Int, 0 ≤ j→j < (codes.length:Int)→cAt codes j = 0 ∨ cAt codes j = 1 ∨ cAt codes j = 2) (hN:codes.length ≤ 69) (hperm:order.Perm (upto codes.length)) (hgb:AllBare s.gens)
    (hd:dp + 300 < recursionLimit) (hu:un + 4000 < cLine)
    (ret:∀ b g' h' gs' tk' led', AllBare gs'→KtsTurn (outer.filterMap (·.frame)) h₀ g'→Fr g' L h' m→News g' L h' led'→(∀ q ∈ news, q ∈ led')→Below A₀ base outer g'→(K2 w.params).In g'→Top q2 (looseW q2 loose2) mean mg mb g'→KtsDicts (outer.filterMap (·.frame)) g'→(b = true ↔ (sideL codes 2 order).Pairwise (· < ·) ∧ (sideL codes 1 order).Pairwise (· < ·))→Q (.bool b) ⟨h', gs', s.drawn, tk', s.os⟩) :
    (K2 w.params).In h₀→wpAny (model rw_mu0013_01.row.prog w) (ktrTop dp un gd cn cs L a ccd cl outer) (call (.ref 468) [.ref od, .ref cd, .ref sd]) Q E s:=by
  w_on
  k_fill
  intro X
  obtain ⟨ck, cnm, cig, cic, cmo⟩:=cs
  change ck = _ at hk
  subst hk
  refine wpAny_call ?_
  w_strict (
    k_dflt (refine' callSXC ?k1 ?k2 ?k3 ?k4 ?k5 ?XB ?TB ?D ?T0 ?kA ?kf ?kke ?k6 ?k7 ?k8 ?k9 ?kB ?kn ?_ ?c2 ?c3 ?c4; (case kA=>exact rfl); (case kf=>exact rfl); (case kke=>exact rfl); (case k2=>k_asm); (case k1=>k_asm); (case XB=>assumption); (case TB=>assumption); (case D=>assumption); (case T0=>exact KtsTurn.refl); (case k3=>k_asm); (case k4=>k_asm); (case k5=>k_asm); (case k6=>k_is); (case k7=>k_is); (case k8=>ktr_room); (case k9=>exact BindsTo.of_eq rfl); (case kB=>exact kindsX (by with_unfolding_all rfl)); (case kn=>decide); (case c2=>exact rfl); (case c3=>exact rfl); (case c4=>exact rfl))
    intro g1 L1 h1 tk1 cells G1 F00 N1 Y1 B1 X1 T1 D1 l1
    (have F1:=fr_as F00 (fun y=>List.lookup y [(Str.ofString "sides", .ref sd), (Str.ofString "order", .ref od)]) (by funext y; exact wrk_binds))
    clear F00
    (change CellsAre _ [(Str.ofString "second", L1 + 3), (Str.ofString "first", L1 + 2), (Str.ofString "codes", L1 + 1)] cells at Y1)
    ((refine eE3 (fun o3 o2 o1=>?_) Y1.three; refine eA4 fun hR3 e3 e2 e1=>?_; subst hR3))
    (have e1':o1.data = .cell (some (.ref cd)):=e1)
    (change wpAny _ (wrkA (dp + 1) (un + 3) gd L1 (envX cn _ L a ccd cl :: outer)) (execs (bodyOf (top 19)) (wrkE L1)) _ _ _)
    (have hC:CellsW L1 cd ([(L1 + 3, o3), (L1 + 2, o2), (L1 + 1, o1)] ++ news) _ _:=⟨⟨o1, .tail _ (.tail _ (.head _)), e1'⟩, ⟨o2, .tail _ (.head _), e2⟩, ⟨o3, .head _, e3⟩⟩)
    (have up:∀ q ∈ news, q ∈ [(L1 + 3, o3), (L1 + 2, o2), (L1 + 1, o1)] ++ news:=fun q hq=>List.mem_append_right _ hq)
    (with_reducible refine' wrk_body ⟨KtsTurn.refl, B1, X1, T1, D1⟩ XB TB F1 N1 ?hE (up _ hod) (up _ hcd) (up _ hsd) (up _ hs1) (up _ hs2) hC hio hic hi1 hi2 hcv hN hperm ?d4 ?d1 ?d2 ?d3 X1)
    (case hE=>passes_own)
    (case d4=>exact hgb)
    (case d1=>lia)
    (case d2=>lia)
    (case d3 =>
      intro b g2 h2 gs2 tk2 m2 led2 hg2 G2 F2 N2 K2' hb
      (refine leaveS_r F2 N2 G2.T fun g3 T3 F3 N3 B3 X3 P3 D3=>?_)
      (refine ret b g3 h2 gs2 tk2 led2 hg2 T3 F3 N3 (fun q hq=>K2' q (up q hq) (fun e=>?_) (fun e=>?_)) B3 X3 P3 D3 hb)
      · exact Nat.lt_irrefl _ (Nat.lt_trans (l1 q hq) (e ▸ (show L1 < L1 + 2 from Nat.lt_add_of_pos_right (by decide))))
      · exact Nat.lt_irrefl _ (Nat.lt_trans (l1 q hq) (e ▸ (show L1 < L1 + 3 from Nat.lt_add_of_pos_right (by decide))))))
end
section
open PySem PySem.W PyProof.Rows PySem.Challenge PySem.Spec PySem.Calls
noncomputable def Ap4 (I c C D:Addr) (news:List (Addr × Obj)):Prop:=∀ p ∈ news, p.1 ≠ I ∧ p.1 ≠ c ∧ p.1 ≠ C ∧ p.1 ≠ D
noncomputable abbrev tupO (vs:List Value) (n:Nat):Obj:={ cls:=.type "tuple", data:=.seq vs.toArray n }
noncomputable def SrcC (prog:Program) (w:World) (A:Around) (h₀:Heap) (L:Addr) (m:Str→Option Value) (env:Env) (elt:PySem.Expr) (x:Str) (scope:Scope) (cl:List (Str × Addr)) (gs:Array GenState) (dr:Drawn) (os:OsState) (Fin:Addr→List Value→List (Addr × Obj)→Prop) (xv:Value) (s₁:Shared):Prop :=
  ∃ t vs nn led h1 tk1, ∃ J:Nat→List Value→List (Addr × Obj)→Prop, xv = .ref t ∧ s₁ = ⟨h1, gs, dr, tk1, os⟩ ∧ Fr h₀ L h1 m ∧ News h₀ L h1 led ∧ J 0 [] led ∧ (∀ i ys news, J i ys news→(t, tupO vs nn) ∈ news) ∧ vs.length ≤ 1000 ∧
    (∀ i v ys news I C c D oI oC oc h tk (E':Value→Shared→Prop), vs[i]? = some v→J i ys news→oc.data = .cell (some v)→Fr h₀ L h m→News h₀ L h ((I, oI) :: (C, oC) :: (c, oc) :: (D, LCg.lst ys) :: news)→Ap4 I c C D news→wpAny (model prog w) A (eval elt (compEnvC scope ((x, c) :: cl) C env)) (fun y s'=>∃ h' tk' news', s' = ⟨h', gs, dr, tk', os⟩ ∧ Fr h₀ L h' m ∧ News h₀ L h' ((I, oI) :: (C, oC) :: (c, oc) :: (D, LCg.lst ys) :: news') ∧ Ap4 I c C D news' ∧ J (i + 1) (ys ++ [y]) news') E' ⟨h, gs, dr, tk, os⟩) ∧ ∀ D ys news, J vs.length ys news→Fin D ys news
theorem comp_cellU {use:Option (Value→Sem Unit)} {prog:Program} {w:World} {A:Around} {E:Value→Shared→Prop} {h₀ hp:Heap} {gs:Array GenState} {dr:Drawn} {tk0:Nat} {os:OsState} {L:Addr} {m:Str→Option Value} {env:Env} {Q:Value→Shared→Prop}
    {x:Str} {elt iter:PySem.Expr} {px pos pos9:Pos} {scope:Scope} {cl:List (Str × Addr)} (Fin:Addr→List Value→List (Addr × Obj)→Prop)
    (hh:A.handled = none) (F0:Fr h₀ L hp m)
    (hclos:closureFor scope env = pure cl) (hkind:scope.kind = .function) (hnames:∀ y ∈ scope.names, y.2 = .local→scope.names.lookup y.1 = some .local)
    (hx:(relabel scope env).names.lookup x = some .cell) (hcf:∀ n, cellsFrom n scope.names cl = (x, n) :: cl) (hpc:∀ h, pushCells h scope.names = h.push { cls:=.type "cell", data:=.cell none })
    (hs:∀ x, foldedSetIterable iter env x = pure x)
    (hit:wpAny (model prog w) A (eval iter env) (SrcC prog w A h₀ L m env elt x scope cl gs dr os Fin) E ⟨hp, gs, dr, tk0, os⟩)
    (ret:∀ C D oC ys news h' tk', Fin D ys news→Fr h₀ L h' m→News h₀ L h' ((C, oC) :: (D, LCg.lst ys) :: news)→LCg.NsObj oC (fun _=>none)→(∀ p ∈ news, p.1 ≠ C ∧ p.1 ≠ D)→D ≠ C→compPost (model prog w) A E use Q (.ref D) C (.ok .next) ⟨h', gs, dr, tk', os⟩) :
    wpAny (model prog w) A (comprehension (.ListComp elt [⟨.Name x px, iter, [], 0⟩] scope pos) scope env pos9 (newList []) false (eval iter env) use) Q E ⟨hp, gs, dr, tk0, os⟩:=by
  refine wpAny_comprehension_free (use:=use) rfl hs hclos hkind hnames (wpAny_mono hit (fun xv s₁ hsrc=>?_) fun _ _ e=>e)
  (revert hsrc; refine eE7 fun t vs nn led h1 tk1 J=>?_; refine eA9 fun hR7 hR8 F N J0 hJt hz turn hfin=>?_; subst hR7 hR8)
  have hol:h1.get? t = some (tupO vs nn):=(N _ (hJt _ _ _ J0)).1
  have hls:h1.IsTuple t vs.toArray:=⟨_, hol, rfl, nn, rfl⟩
  have hne:t ≠ h1.objs.size:=Nat.ne_of_lt (Heap.lt_size hol)
  refine wpAny_pyIter_tuple hls ?_
  have W:=Walks.tuple (prog:=prog) (w:=w) hh h1.objs.size t hne vs.toArray
  have F1:=F.push { cls:=.type "tuple_iterator", data:=.fields #[.ref t, .int 0 0] }
  have N1:=N.push F { cls:=.type "tuple_iterator", data:=.fields #[.ref t, .int 0 0] }
  have g1:(h1.push { cls:=.type "tuple_iterator", data:=.fields #[.ref t, .int 0 0] }).get? h1.objs.size = some { cls:=.type "tuple_iterator", data:=.fields #[.ref t, .int 0 0] }:=Heap.get?_push_size _ rfl
  have lt1:∀ p ∈ led, p.1 < h1.objs.size:=fun p hp9=>Heap.lt_size (N p hp9).1
  have nI:=N1 _ (.head _)
  dsimp only at nI
  show wpAny _ _ _ _ _ ⟨h1.push { cls:=.type "tuple_iterator", data:=.fields #[.ref t, .int 0 0] }, gs, dr, tk1, os⟩
  generalize h1.objs.size = I at W N1 g1 lt1 nI hne ⊢
  generalize h1.push { cls:=.type "tuple_iterator", data:=.fields #[.ref t, .int 0 0] } = h2 at F1 N1 g1 nI ⊢
  refine wpAny_newObj_type ?_
  have F2:=F1.push { cls:=.type "list", data:=.seq ([]:List Value).toArray }
  have N2:=N1.push F1 { cls:=.type "list", data:=.seq ([]:List Value).toArray }
  have ltI:I < h2.objs.size:=Heap.lt_size (N1 _ (.head _)).1
  dsimp only
  generalize h2.objs.size = D at N2 ltI ⊢
  generalize h2.push { cls:=.type "list", data:=.seq ([]:List Value).toArray } = h3 at F2 N2 ⊢
  have ltD:D < h3.objs.size:=Heap.lt_size (N2 _ (.head _)).1
  have F3:=F2.push { cls:=.type "dict", data:=.dict #[] }
  have N3:=N2.push F2 { cls:=.type "dict", data:=.dict #[] }
  have F4:=F3.push { cls:=.type "cell", data:=.cell none }
  have N4:=N3.push F3 { cls:=.type "cell", data:=.cell none }
  have ns3:=(Heap.Ns.new h3 (.type "dict")).keeps (h':=(h3.push { cls:=.type "dict", data:=.dict #[] }).push { cls:=.type "cell", data:=.cell none }) fun b o e=>Heap.get?_push_of_some _ e
  simp only [newFunctionEnv, Option.isSome_some, if_true]
  refine wpAny_bind (wpAny_alloc ?_)
  refine wpAny_bind (wpAny_layCells _ (fun name kind cells=>by cases hkc:kind == NameKind.cell <;> simp) _ _ _ _ ?_)
  rw [hpc, hcf]
  simp only [List.forIn_nil]
  refine wpAny_bind (wpAny_pure (wpAny_pure ?_))
  dsimp only at ns3 ⊢
  have ltC:h3.objs.size < (h3.push { cls:=.type "dict", data:=.dict #[] }).objs.size:=Heap.lt_size (N3 _ (.head _)).1
  generalize (h3.push { cls:=.type "dict", data:=.dict #[] }).objs.size = c at N4 ltC ⊢
  generalize h3.objs.size = C at N3 N4 ltD ltC ns3 ⊢
  generalize (h3.push { cls:=.type "dict", data:=.dict #[] }).push { cls:=.type "cell", data:=.cell none } = h4 at F4 N4 ns3 ⊢
  (refine eE1 (fun oC=>?_) (LCg.ns_obj ns3); refine eA2 fun heC hoC=>?_)
  have nC:=N4 _ (.tail _ (.head _))
  dsimp only at nC
  have N5:News h₀ L h4 ((I, { cls:=.type "tuple_iterator", data:=.fields #[.ref t, .int 0 0] }) :: (C, oC) :: (c, { cls:=.type "cell", data:=.cell none }) :: (D, LCg.lst []) :: led):=fun p hp9=>by
    rcases List.mem_cons.mp hp9 with rfl | hp9
    · exact N4 _ (.tail _ (.tail _ (.tail _ (.head _))))
    rcases List.mem_cons.mp hp9 with rfl | hp9
    · exact ⟨heC, nC.2⟩
    rcases List.mem_cons.mp hp9 with rfl | hp9
    · exact N4 _ (.head _)
    rcases List.mem_cons.mp hp9 with rfl | hp9
    · exact N4 _ (.tail _ (.tail _ (.head _)))
    · exact N4 _ (.tail _ (.tail _ (.tail _ (.tail _ hp9))))
  have ap:Ap4 I c C D led:=fun p hp9=>by
    have l0:=lt1 p hp9
    have l1:=Nat.lt_trans l0 ltI
    have l2:=Nat.lt_trans l1 ltD
    have l3:=Nat.lt_trans l2 ltC
    exact ⟨Nat.ne_of_lt l0, Nat.ne_of_lt l3, Nat.ne_of_lt l2, Nat.ne_of_lt l1⟩
  have hID:I ≠ D:=Nat.ne_of_lt ltI
  have hIC:I ≠ C:=Nat.ne_of_lt (Nat.lt_trans ltI ltD)
  have hIc:I ≠ c:=Nat.ne_of_lt (Nat.lt_trans (Nat.lt_trans ltI ltD) ltC)
  have hDC:D ≠ C:=Nat.ne_of_lt ltD
  have hDc:D ≠ c:=Nat.ne_of_lt (Nat.lt_trans ltD ltC)
  have hCc:C ≠ c:=Nat.ne_of_lt ltC
  clear N1 N2 N3 N4 F1 F2 F3 ltI ltD ltC lt1
  have tup5:h4.IsTuple t vs.toArray:=⟨_, (N5 _ (.tail _ (.tail _ (.tail _ (.tail _ (hJt _ _ _ J0)))))).1, rfl, nn, rfl⟩
  have main:∀ R:Result→Shared→Prop, (∀ s':Shared, compPost (model prog w) A E use Q (.ref D) C (.ok .next) s'→R (.ok .next) s') →
      ∀ s9:Shared, (∃ tk9, s9 = ⟨h4, gs, dr, tk9, os⟩)→codeAny (model prog w) A (.compLoop (.ListComp elt [⟨.Name x px, iter, [], 0⟩] scope pos) 0 (.ref I) (.ref D) (compEnvC scope ((x, c) :: cl) C env)) R s9:=by
    (rintro R hR s9; (refine eE1 fun tk9 hR1=>?_; subst hR1))
    refine codeAny_compLoop_list (fun k s'=>∃ h' tk' i ys news oI oC' co, s' = ⟨h', gs, dr, tk', os⟩ ∧ i ≤ vs.length ∧ k = vs.length + 1 - i ∧ ys.length = i ∧ Fr h₀ L h' m ∧ News h₀ L h' ((I, oI) :: (C, oC') :: (c, co) :: (D, LCg.lst ys) :: news) ∧ Ap4 I c C D news ∧ (∃ v, co.data = .cell v) ∧ LCg.NsObj oC' (fun _=>none) ∧ (h'.IsTupleIter I t i ∧ h'.IsTuple t vs.toArray) ∧ J i ys news) ?_ (vs.length + 1)
      (iE8 h4 tk9 0 ([]) led _ oC _ ⟨rfl, Nat.zero_le _, rfl, rfl, F4, N5, ap, ⟨_, rfl⟩, hoC, ⟨⟨_, (N5 _ (.head _)).1, rfl, rfl⟩, tup5⟩, J0⟩)
    (rintro k s'; (refine eE8 fun h' tk' i ys news oI oC' co=>?_; refine eA11 fun hR8 hi hR10 hyl F' N' ap' hP15 hoC' st' J'=>?_; subst hR8 hR10; obtain ⟨cv, hcv⟩:=hP15))
    have nI':=N' _ (.head _)
    by_cases hlt:i < vs.length
    · refine W.item i _ _ _ (by rw [List.size_toArray]; exact hlt) st' fun v h5 tk5 hv st5 hk5=>?_
      have hv':vs[i]? = some v:=by rw [← List.getElem?_toArray]; exact hv
      (refine eE1 (fun oI'=>?_) st5.1; refine eA2 fun heI _=>?_)
      have F5:Fr h₀ L h5 m:=LCg.fr_but F' hk5 (Ne.symm nI'.2.1) nI'.2.2
      have N5':News h₀ L h5 ((I, oI') :: (C, oC') :: (c, co) :: (D, LCg.lst ys) :: news):=fun p hp9=>by
        rcases List.mem_cons.mp hp9 with rfl | hp9
        · exact ⟨heI, nI'.2⟩
        · have z:=N' p (.tail _ hp9)
          refine ⟨hk5 _ _ (fun q=>?_) z.1, z.2⟩
          have q':p.1 = I:=List.mem_singleton.mp q
          rcases List.mem_cons.mp hp9 with rfl | hp9
          · exact hIC q'.symm
          rcases List.mem_cons.mp hp9 with rfl | hp9
          · exact hIc q'.symm
          rcases List.mem_cons.mp hp9 with rfl | hp9
          · exact hID q'.symm
          · exact (ap' p hp9).1 q'
      have nc:=N5' _ (.tail _ (.tail _ (.head _)))
      refine wpAny_assign_Name (wpAny_storeName_cell (env:=compEnvC scope ((x, c) :: cl) C env) (c:=c) (by show scope.kind = _; exact hkind) hx (by show List.lookup x ((x, c) :: cl) = some c; rw [List.lookup_cons, beq_self_eq_true]) ⟨_, nc.1, hcv⟩ fun h6 hc6 hs6=>?_)
      (revert hc6; refine eE1 fun co'=>?_; refine eA2 fun hco6 hcd6=>?_)
      have F6:Fr h₀ L h6 m:=F5.change hs6 nc.2.1 nc.2.2
      have N6:News h₀ L h6 ((I, oI') :: (C, oC') :: (c, co') :: (D, LCg.lst ys) :: news):=fun p hp9=>by
        rcases List.mem_cons.mp hp9 with rfl | hp9
        · exact ⟨hs6.extBut _ _ hIc heI, nI'.2⟩
        rcases List.mem_cons.mp hp9 with rfl | hp9
        · have z:=N5' (C, oC') (.tail _ (.head _))
          exact ⟨hs6.extBut _ _ hCc z.1, z.2⟩
        rcases List.mem_cons.mp hp9 with rfl | hp9
        · exact ⟨hco6, nc.2⟩
        have z:=N5' p (.tail _ (.tail _ (.tail _ hp9)))
        refine ⟨hs6.extBut _ _ ?_ z.1, z.2⟩
        rcases List.mem_cons.mp hp9 with rfl | hp9
        · exact hDc
        · exact (ap' p hp9).2.1
      refine wpAny_mono (turn i v ys news I C c D oI' oC' co' h6 tk5 _ hv' J' hcd6 F6 N6 ap') (fun y s7 h7=>?_) fun _ _ e=>e
      (revert h7; refine eE3 fun h7 tk7 news7=>?_; refine eA5 fun hR3 F7 N7 ap7 J7=>?_; subst hR3)
      have z:=N7 (D, LCg.lst ys) (.tail _ (.tail _ (.tail _ (.head _))))
      refine append_at (hsz:=by show ys.toArray.size ≤ sizeLine; rw [List.size_toArray, sizeLine_eq]; lia) z.1 fun h8 hs8 hD8=>?_
      refine ⟨vs.length + 1 - (i + 1), by exact ar21 ‹_›, (iE8 h8 tk7 (i + 1) (ys ++ [y]) news7 oI' oC' co' ⟨rfl, hlt, rfl, by rw [List.length_append, hyl]; rfl, F7.change hs8 z.2.1 z.2.2, fun p hp9=>?_, ap7, ⟨_, hcd6⟩, hoC', ⟨?_, ?_⟩, J7⟩)⟩
      · rcases List.mem_cons.mp hp9 with rfl | hp9
        · have z:=N7 (I, oI') (.head _)
          exact ⟨hs8.extBut _ _ hID z.1, z.2⟩
        rcases List.mem_cons.mp hp9 with rfl | hp9
        · have z:=N7 (C, oC') (.tail _ (.head _))
          exact ⟨hs8.extBut _ _ (Ne.symm hDC) z.1, z.2⟩
        rcases List.mem_cons.mp hp9 with rfl | hp9
        · have z:=N7 (c, co') (.tail _ (.tail _ (.head _)))
          exact ⟨hs8.extBut _ _ (Ne.symm hDc) z.1, z.2⟩
        rcases List.mem_cons.mp hp9 with rfl | hp9
        · exact ⟨hD8.trans (congrArg some (LCg.lst_snoc ys y)), z.2⟩
        · have z:=N7 p (.tail _ (.tail _ (.tail _ (.tail _ hp9))))
          exact ⟨hs8.extBut _ _ (ap7 p hp9).2.2.2 z.1, z.2⟩
      · have z:=N7 (I, oI') (.head _)
        (refine eE1 (fun o9=>?_) st5.1; refine eA2 fun ho9 hr9=>?_)
        obtain rfl:oI' = o9:=Option.some.inj (heI.symm.trans ho9)
        exact ⟨_, hs8.extBut _ _ hID z.1, hr9⟩
      · have z:=N7 (t, tupO vs nn) (.tail _ (.tail _ (.tail _ (.tail _ (hJt _ _ _ J7)))))
        exact ⟨_, hs8.extBut _ _ (ap7 _ (hJt _ _ _ J7)).2.2.2 z.1, rfl, nn, rfl⟩
    · obtain rfl:i = vs.length:=Nat.le_antisymm hi (Nat.not_lt.mp hlt)
      refine W.done _ _ _ (by rw [List.size_toArray]; exact st') fun h5 tk5 hk5=>?_
      have zC:=N' (C, oC') (.tail _ (.head _))
      have F5:Fr h₀ L h5 m:=LCg.fr_but F' hk5 (Ne.symm nI'.2.1) nI'.2.2
      refine hR _ (ret C D oC' ys news h5 tk5 (hfin D ys news J') F5 (fun p hp9=>?_) hoC' (fun p hp9=>⟨(ap' p hp9).2.2.1, (ap' p hp9).2.2.2⟩) hDC)
      rcases List.mem_cons.mp hp9 with rfl | hp9
      · exact ⟨hk5 _ _ (fun q=>hIC (List.mem_singleton.mp q).symm) zC.1, zC.2⟩
      rcases List.mem_cons.mp hp9 with rfl | hp9
      · have z:=N' (D, LCg.lst ys) (.tail _ (.tail _ (.tail _ (.head _))))
        exact ⟨hk5 _ _ (fun q=>hID (List.mem_singleton.mp q).symm) z.1, z.2⟩
      · have z:=N' p (.tail _ (.tail _ (.tail _ (.tail _ hp9))))
        exact ⟨hk5 _ _ (fun q=>(ap' p hp9).1 (List.mem_singleton.mp q)) z.1, z.2⟩
  exact codeAny_compStart_list (main _ (fun s' hs'=>hs') _ ⟨_, rfl⟩) (W.self 0 _ _ _ ⟨⟨_, (N5 _ (.head _)).1, rfl, rfl⟩, tup5⟩ (main _ (fun s' hs'=>hs') _ ⟨_, rfl⟩))
theorem comp_cellA {y:Str} {py spos:Pos} {prog:Program} {w:World} {A:Around} {E:Value→Shared→Prop} {h₀ hp:Heap} {gs:Array GenState} {dr:Drawn} {tk0:Nat} {os:OsState} {L:Addr} {m:Str→Option Value} {env:Env} {QF:Flow→Shared→Prop}
    {x:Str} {elt iter:PySem.Expr} {px pos:Pos} {scope:Scope} {cl:List (Str × Addr)}
    (hh:A.handled = none) (F0:Fr h₀ L hp m)
    (hclos:closureFor scope env = pure cl) (hkind:scope.kind = .function) (hnames:∀ y ∈ scope.names, y.2 = .local→scope.names.lookup y.1 = some .local)
    (hx:(relabel scope env).names.lookup x = some .cell) (hcf:∀ n, cellsFrom n scope.names cl = (x, n) :: cl) (hpc:∀ h, pushCells h scope.names = h.push { cls:=.type "cell", data:=.cell none })
    (hs:∀ x, foldedSetIterable iter env x = pure x)
    (hit:wpAny (model prog w) A (eval iter env) (SrcC prog w A h₀ L m env elt x scope cl gs dr os (fun D ys news=>∀ h' tk', Fr h₀ L h' (fun z=>if z = y then some (.ref D) else m z)→News h₀ L h' ((D, LCg.lst ys) :: news)→(∀ p ∈ news, p.1 ≠ D)→QF .next ⟨h', gs, dr, tk', os⟩)) E ⟨hp, gs, dr, tk0, os⟩)
    (hLe:env.locals = L) (hsw:swapsWith (.ListComp elt [⟨.Name x px, iter, [], 0⟩] scope pos) (some (.Name y py)) spos.line env = pure true) (hy:env.kindOf y = some .local) (hp9:(env.scope.kind == .class || (env.scope.kind == .module && env.locals != env.globals)) = false) :
    wpAny (model prog w) A (exec (.Assign [.Name y py] (.ListComp elt [⟨.Name x px, iter, [], 0⟩] scope pos) spos) env) QF E ⟨hp, gs, dr, tk0, os⟩:=by
  subst hLe
  rw [exec_Assign_Name_used _ _ _ _ hsw]
  refine wpAny_bind (wpAny_standAt (wpAny_bind ?_))
  refine wpAny_bind (wpAny_mono (comp_cellU (Q:=fun _ s'=>QF .next s') (use:=some (assign (.Name y py) env)) (fun D ys news=>∀ h' tk', Fr h₀ env.locals h' (fun z=>if z = y then some (.ref D) else m z)→News h₀ env.locals h' ((D, LCg.lst ys) :: news)→(∀ p ∈ news, p.1 ≠ D)→QF .next ⟨h', gs, dr, tk', os⟩) hh F0 hclos hkind hnames hx hcf hpc hs hit fun C D oC ys news h' tk' hf F' N' hoC ap hDC=>?_) (fun _ s' hq=>wpAny_pure (wpAny_pure hq)) fun _ _ e=>e)
  have zC:=N' _ (.head _)
  show wpAny _ A (assign (.Name y py) env (.ref D)) _ _ _
  refine wpAny_assign_Name (wpAny_storeName_local hy F'.ns (fun h₂ hn₂ hs₂=>?_) hp9)
  have hL₀:h₀.get? env.locals = none:=Heap.get?_none_of_le F'.above
  have F₂:Fr h₀ env.locals h₂ (fun z=>if z = y then some (.ref D) else m z):=⟨hn₂, fun b o e=>hs₂.extBut b o (fun q=>by rw [q, hL₀] at e; cases e) (F'.keep b o e), F'.above⟩
  refine ⟨_, (hoC.ns zC.1).sameBut hs₂ zC.2.1, fun h6 hs6=>hf h6 _ (F₂.change hs6 zC.2.1 zC.2.2) (fun p hp9=>?_) fun p hp9=>(ap p hp9).2⟩
  have z:=N' p (.tail _ hp9)
  refine ⟨hs6.extBut _ _ ?_ (hs₂.extBut _ _ z.2.1 z.1), z.2⟩
  rcases List.mem_cons.mp hp9 with rfl | hp9
  · exact hDC
  · exact (ap p hp9).1
end
section
open PySem PySem.W PyProof.Rows PySem.Challenge PySem.Spec PySem.Calls
local macro_rules | `(tactic| walk_at $s)=>Tab.rules s "subscriptTail Name Name ref int||itemI|amsllc?|i
exec Assign cons ListComp|halt
eval ListComp|halt
eval Constant int|red|constT|?
binaryOp Mod int int|red|modT|D?
CompSrcT|halt
CompSrc|halt
CompEnd|halt"
section
open PySem PySem.W PyProof.Rows PySem.Challenge PySem.Spec PySem.Calls
noncomputable abbrev lawC (L:Addr):List (Str × Addr):=[(Str.ofString "other", L + 3), (Str.ofString "order", L + 2), (Str.ofString "codes", L + 1)]
noncomputable abbrev lawE (L:Addr) (fa:Addr) (cdv:Value):Env:=envX (Str.ofString "law") (scopeOf (top 20)) L fa cdv (lawC L)
noncomputable abbrev lawA (dp un:Nat) (gd:Option (List Code)) (L fa:Addr) (cdv:Value) (outer:List Env):Around:=ktrTop dp un gd (Str.ofString "law") (scopeOf (top 20)) L fa cdv (lawC L) outer
structure CellsL (L cd:Addr) (od:Option Value) (led:List (Addr × Obj)):Prop where
  c:∃ o, (L + 1, o) ∈ led ∧ o.data = .cell (some (.ref cd))
  r:∃ o, (L + 2, o) ∈ led ∧ o.data = .cell od
  t:∃ o v, (L + 3, o) ∈ led ∧ o.data = .cell v
theorem mem_rot1 {α:Type} {a b p:α} {n:List α} (h:p ∈ a :: b :: n):p ∈ b :: a :: n:=by
  rcases List.mem_cons.mp h with h | h
  · exact .tail _ (h ▸ .head _)
  · rcases List.mem_cons.mp h with h | h
    · exact h ▸ .head _
    · exact .tail _ (.tail _ h)
theorem mem_up {α:Type} {a p:α} {n m:List α} (k:p ∈ n→p ∈ m) (h:p ∈ a :: n):p ∈ a :: m:=by
  rcases List.mem_cons.mp h with h | h
  · exact h ▸ .head _
  · exact .tail _ (k h)
theorem mem_rot3 {α:Type} {a b c r p:α} {n:List α} (h:p ∈ a :: b :: c :: r :: n):p ∈ r :: a :: b :: c :: n:=mem_rot1 (mem_up mem_rot1 (mem_up (mem_up mem_rot1) h))
theorem mem_rot4 {α:Type} {a b c d r p:α} {n:List α} (h:p ∈ a :: b :: c :: d :: r :: n):p ∈ r :: a :: b :: c :: d :: n:=mem_rot1 (mem_up mem_rot3 h)
local macro_rules | `(tactic| walk_at $s)=>Tab.rules s "execs cons|execs|4"
noncomputable def SidesJ (codes order:List Int) (led:List (Addr × Obj)) (t:Addr) (tv:Obj) (i:Nat) (ys:List Value) (news:List (Addr × Obj)):Prop :=
  (t, tv) ∈ news ∧ (∀ q ∈ led, q ∈ news) ∧ ((i = 0 ∧ ys = []) ∨ (∃ s1 v1, (s1, LCg.lst v1) ∈ news ∧ IntsAre v1 (sideL codes 2 order) ∧
    ((i = 1 ∧ ys = [.ref s1]) ∨ (∃ s2 v2, (s2, LCg.lst v2) ∈ news ∧ IntsAre v2 (sideL codes 1 order) ∧ i = 2 ∧ ys = [.ref s1, .ref s2]))))
theorem law_sides {w:World} {dp un:Nat} {gd:Option (List Code)} {outer:List Env} {A₀:Around} {base h₀ hp:Heap} {L fa cd od:Addr} {cdv:Value} {gs:Array GenState} {dr:Drawn} {tk0:Nat} {os:OsState} {Q:Flow→Shared→Prop} {E:Value→Shared→Prop}
    {mean:ExcName→Option Value} {mg mb:Str→Option Value} {led:List (Addr × Obj)} {m:Str→Option Value} {order codes:List Int} {vo vc:List Value} {no nc:Nat}
    (B:Below A₀ base outer h₀) (F:Fr h₀ L hp m) (Nw:News h₀ L hp led) (T:Top q2 (looseW q2 loose2) mean mg mb h₀)
    (hE:PassesOwn (model rw_mu0013_01.row.prog w) (lawA dp un gd L fa cdv outer) (lawE L fa cdv) E)
    (hod:(od, listOf vo.toArray no) ∈ led) (hcd:(cd, listOf vc.toArray nc) ∈ led) (hC:CellsL L cd (some (.ref od)) led)
    (hio:IntsAre vo order) (hic:IntsAre vc codes) (hlf:∀ j ∈ order, 0 ≤ j ∧ j < codes.length) (hN:codes.length ≤ 69) (hln:order.length ≤ 69)
    (hd:dp + 150 < recursionLimit) (hu:un + 2000 < cLine)
    (next:∀ S s1 s2 v1 v2 h' tk' led', Fr h₀ L h' (fun z=>if z = Str.ofString "sides" then some (.ref S) else m z)→News h₀ L h' led'→(∀ q ∈ led, q ∈ led')→(S, LCg.lst [.ref s1, .ref s2]) ∈ led'→(s1, LCg.lst v1) ∈ led'→(s2, LCg.lst v2) ∈ led'→IntsAre v1 (sideL codes 2 order)→IntsAre v2 (sideL codes 1 order) →
      wpAny (model rw_mu0013_01.row.prog w) (lawA dp un gd L fa cdv outer) (execs ((bodyOf (top 20)).drop 5) (lawE L fa cdv)) Q E ⟨h', gs, dr, tk', os⟩) :
    (K2 w.params).In h₀→wpAny (model rw_mu0013_01.row.prog w) (lawA dp un gd L fa cdv outer) (execs ((bodyOf (top 20)).drop 4) (lawE L fa cdv)) Q E ⟨hp, gs, dr, tk0, os⟩:=by
  w_on
  k_fill
  intro X
  have hb:=Eq.refl ((bodyOf (top 20)).drop 4)
  conv at hb=>rhs; whnf
  rw [hb]
  clear hb
  have hget:∀ j ∈ order, codes[j.toNat]? = some (cAt codes j):=fun j hj=>by
    have:=hlf j hj
    unfold cAt
    rw [List.getD_eq_getElem?_getD, List.getElem?_eq_getElem (by lia)]; rfl
  obtain ⟨⟨oc, mc, ec⟩, ⟨o1, m1, e1⟩, _⟩:=hC
  w_strict (
    (have mk:=kstMark)
    k_steps
    (unfold Halt)
    (refine' comp_cellA (cl:=[(Str.ofString "order", L + 2), (Str.ofString "codes", L + 1)]) rfl F ?z1 ?z2 ?z3 ?z4 ?z5 ?z6 ?z7 ?z8 ?z9 ?za ?zb ?zc)
    (case z1=>with_unfolding_all rfl)
    (case z2=>rfl)
    (case z3=>decide)
    (case z4=>with_unfolding_all rfl)
    (case z5=>intro n; rfl)
    (case z6=>intro h; rfl)
    (case z7=>intro x; rfl)
    (case z9=>rfl)
    (case za=>with_unfolding_all rfl)
    (case zb=>rfl)
    (case zc=>rfl)
    (case z8 =>
      k_steps
      rename_i t2 tk2 t1 tk1 D1 h1 F1 N1 l1
      (refine' (iE7 D1 _ _ _ h1 _ (SidesJ codes order led D1 _) ⟨rfl, rfl, F1, N1, ⟨.head _, fun q hq=>.tail _ hq, .inl ⟨rfl, rfl⟩⟩, fun i ys news hj=>hj.1, (by show 2 ≤ 1000; decide), ?turn, ?fin⟩))
      (case turn =>
        intro i v ys news I C c D oI oC ocl h tk E9 hv hJ hcl F2 N2 ap
        (obtain ⟨o, tv, rfl, ho⟩:∃ o tv, v = .int o tv ∧ ((i = 0 ∧ o = 2) ∨ (i = 1 ∧ o = 1)):=by
          rcases i with _ | _ | i
          · exact (iE2 2 t2 ⟨(Option.some.inj hv).symm, .inl ⟨rfl, rfl⟩⟩)
          · exact (iE2 1 t1 ⟨(Option.some.inj hv).symm, .inr ⟨rfl, rfl⟩⟩)
          · cases hv)
        (revert hJ; refine eA3 fun j1 j2 j3=>?_)
        (have m1':=j2 _ m1)
        (have mc':=j2 _ mc)
        (have hcd':=j2 _ hcd)
        (have hod':=j2 _ hod)
        clear F1 N1
        (have hvl:=hio.length)
        (refine' LCt.ListComp_T (cl:=[(Str.ofString "other", c), (Str.ofString "codes", L + 1)]) F2 ?y1 ?y2 ?y3 ?y4 ?y5 ?y6)
        (case y1=>with_unfolding_all rfl)
        (case y2=>decide)
        (case y3=>rfl)
        (case y4=>decide)
        (case y5=>rfl)
        (case y6 =>
          k_steps
          (unfold Halt)
          (refine' LCt.CompSrcT.ledger rfl F2 N2 (.tail _ (.tail _ (.tail _ (.tail _ hod')))) (by rw [List.size_toArray, sizeLine_eq]; lia) (fun g0=>?q2))
          rw [List.size_toArray]
          (refine' compRestT_ind (fun i ys=>IntsAre ys ((order.take i).filter fun j=>decide (cAt codes j ≠ o))) vo.length ?q3 ?q4 _ 0 [] (Nat.zero_add _) .nil)
          (case q4 =>
            intro k i ys hi9 hy hrest
            (refine' LCt.CompRestT.succ ?q5)
            intro v I5 oI5 C5 oC5 D5 m9 h tk E2 hv hC hxm F5 N5 off ne
            (have hlt:i < order.length:=by lia)
            (refine eE1 (fun tv ht=>?_) (hio.get i order[i] (by simp [hlt])))
            (obtain rfl:v = .int order[i] tv:=by
              rw [List.getElem?_toArray, ht] at hv
              exact (Option.some.inj hv).symm)
            (have hjm:=List.getElem_mem hlt)
            (have hj1:=hget _ hjm)
            (have hj2:=hlf _ hjm)
            (have hst:(order.take (i + 1)).filter (fun j=>decide (cAt codes j ≠ o)) = (order.take i).filter (fun j=>decide (cAt codes j ≠ o)) ++ if cAt codes order[i] ≠ o then [order[i]] else []:=by
              rw [List.take_add_one, List.getElem?_eq_getElem hlt, List.filter_append]
              congr 1
              by_cases e:cAt codes order[i] = o <;> simp [e])
            (generalize order[i] = jj at *)
            clear F2 N2
            k_steps
            all_goals (unfold Halt; rename Fr _ _ _ _=>F6; rename News _ _ _ _=>N6)
            · exact LCg.CompEnd.intro F6 N6 _ (fun p hp=>hp) off (.inr ⟨_, .tail _ (.tail _ (.tail _ (.tail _ hod'))), rfl, _, rfl⟩) (hrest _ (by rw [hst, if_pos (by assumption)]; exact ints_snoc hy))
            · exact LCg.CompEnd.intro F6 N6 _ (fun p hp=>hp) off (.inr ⟨_, .tail _ (.tail _ (.tail _ (.tail _ hod'))), rfl, _, rfl⟩) (hrest _ (by rw [hst, if_neg (by first | assumption | (intro h; exact absurd (by assumption) h)), List.append_nil]; exact hy)))
          (case q3 =>
            intro y9 hy R h5 tk5 F5 N5 o5
            rw [hvl, List.take_length] at hy
            (have o6:=off1_mem o5)
            (refine' (iE3 h5 tk5 ((R, LCg.lst y9) :: news) ⟨rfl, F5, fun p hp=>N5 p ?e0, fun p hp=>?e1, .tail _ j1, fun q hq=>.tail _ (j2 q hq), ?e2⟩))
            (case e0=>exact mem_rot4 hp)
            (case e1 =>
              rcases List.mem_cons.mp hp with rfl | hp
              · exact ⟨(o6 _ (.head _)).symm, (o6 _ (.tail _ (.tail _ (.head _)))).symm, (o6 _ (.tail _ (.head _))).symm, (o6 _ (.tail _ (.tail _ (.tail _ (.head _))))).symm⟩
              · exact ap p hp)
            (case e2 =>
              rcases ho with ⟨rfl, rfl⟩ | ⟨rfl, rfl⟩
              · rcases j3 with ⟨-, rfl⟩ | ⟨s1, v1, a1, a2, ⟨h, -⟩ | ⟨s2, v2, a3, a4, h, -⟩⟩
                · exact .inr (iE2 R y9 ⟨.head _, hy, .inl ⟨rfl, rfl⟩⟩)
                · exact absurd h (by decide)
                · exact absurd h (by decide)
              · rcases j3 with ⟨h, -⟩ | ⟨s1, v1, a1, a2, ⟨-, rfl⟩ | ⟨s2, v2, a3, a4, h, -⟩⟩
                · exact absurd h (by decide)
                · exact .inr (iE2 s1 v1 ⟨.tail _ a1, a2, .inr (iE2 R y9 ⟨.head _, hy, rfl, rfl⟩)⟩)
                · exact absurd h (by decide)))))
      (case fin =>
        intro D ys news hJ h' tk' F2 N2 o2
        (revert hJ; refine eA3 fun hC0 j2 j3=>?_; clear hC0)
        rcases j3 with ⟨h, -⟩ | ⟨s1, v1, a1, a2, ⟨h, -⟩ | ⟨s2, v2, a3, a4, -, rfl⟩⟩
        · exact absurd (show (2:Nat) = 0 from h) (by decide)
        · exact absurd (show (2:Nat) = 1 from h) (by decide)
        · k_steps
          (unfold Halt)
          exact next D s1 s2 v1 v2 h' _ _ F2 N2 (fun q hq=>.tail _ (j2 q hq)) (.head _) (.tail _ a1) (.tail _ a3) a2 a4)))
end
section
open PySem PySem.W PyProof.Rows PySem.Challenge PySem.Spec PySem.Calls
theorem compL_ind {prog:Program} {w:World} {A:Around} {h₀:Heap} {L:Addr} {m:Str→Option Value} {env:Env} {elt:PySem.Expr} {x:Str} {scope:Scope} {cl:List (Str × Addr)} {s:Shared} {S:List (Addr × Obj)→Prop} {P:Nat→Value→Prop} {Fin:List Value→List (Addr × Obj)→Prop}
    (J:Nat→List Value→List (Addr × Obj)→Prop) (n:Nat) (h0:∀ ys news, J n ys news→Fin ys news)
    (step:∀ k i ys news, i < n→J i ys news→(∀ ys' news', J (i + 1) ys' news'→LCg.CompRest prog w A h₀ L m env elt x scope cl s S P Fin k (i + 1) ys' news')→LCg.CompRest prog w A h₀ L m env elt x scope cl s S P Fin (k + 1) i ys news) :
    ∀ k i ys news, i + k = n→J i ys news→LCg.CompRest prog w A h₀ L m env elt x scope cl s S P Fin k i ys news
  | 0, i, ys, news, e, hj=>LCg.CompRest.zero (h0 ys news (by rw [← e]; exact hj))
  | k + 1, i, ys, news, e, hj=>step k i ys news (by lia) hj fun ys' news' hj'=>compL_ind J n h0 step k (i + 1) ys' news' (by lia) hj'
noncomputable def ToldL (codes order:List Int) (TD:Addr) (led:List (Addr × Obj)):Prop :=
  ∃ T1 T2 v1 v2 n0 n1 n2, (TD, listOf #[.ref T1, .ref T2] n0) ∈ led ∧ (T1, listOf (List.toArray v1) n1) ∈ led ∧ (T2, listOf (List.toArray v2) n2) ∈ led ∧ StrsAre v1 ((sideL codes 2 order).map textF) ∧ StrsAre v2 ((sideL codes 1 order).map textF)
noncomputable def TextsJ (codes order:List Int) (led:List (Addr × Obj)) (i:Nat) (ys:List Value) (news:List (Addr × Obj)):Prop :=
  (∀ q ∈ led, q ∈ news) ∧ ((i = 0 ∧ ys = []) ∨ (∃ s1 v1, (s1, LCg.lst v1) ∈ news ∧ StrsAre v1 ((sideL codes 2 order).map textF) ∧
    ((i = 1 ∧ ys = [.ref s1]) ∨ (∃ s2 v2, (s2, LCg.lst v2) ∈ news ∧ StrsAre v2 ((sideL codes 1 order).map textF) ∧ i = 2 ∧ ys = [.ref s1, .ref s2]))))
noncomputable abbrev datT (l:List Int):Dat:=.list (l.map fun k=>.str (textF k))
theorem datT_all {news:List (Addr × Obj)} {vs:List Value} {l:List Int} (h:StrsAre vs (l.map textF)):DatAll news vs (l.map fun k=>.str (textF k)):=by
  generalize e:l.map textF = us at h
  have e2:(l.map fun k=>Dat.str (textF k)) = us.map Dat.str:=by rw [← e, List.map_map]; rfl
  rw [e2]
  clear e e2
  induction h with
  | nil=>exact DatAll.nil
  | cons u t _ ih=>exact DatAll.cons (DatIn.str _ _) ih
theorem textOk_all:(List.range 70).all (fun k:Nat=>PyData.strOk (textF k)) = true:=by decide +kernel
theorem textOk {k:Int} (h0:0 ≤ k) (h1:k < 70):PyData.strOk (textF k) = true:=by
  (refine eE1 (fun n hR1=>?_) (Int.eq_ofNat_of_zero_le h0); subst hR1)
  exact List.all_eq_true.mp textOk_all n (List.mem_range.mpr (by exact (fun {n m}=>Int.ofNat_lt.mp) h1))
theorem datT_ok {l:List Int} (h:∀ k ∈ l, 0 ≤ k ∧ k < 70):kqdOk 8 (datT l) = true:=by
  show (l.map fun k=>Dat.str (textF k)).all (kqdOk 7) = true
  rw [List.all_map, List.all_eq_true]
  exact fun k hk=>textOk (h k hk).1 (h k hk).2
local macro_rules | `(tactic| walk_at $s)=>Tab.rules s "execs cons|execs|2
compareOp NotEq ref ref|halt
call ref|haltC|456
call ref|haltC|451
storeName||storeT|aa?rr|Wis"
local macro_rules | `(tactic| walk_at $s)=>Tab.rules s "none 7"
theorem law_told {w:World} {dp un:Nat} {gd:Option (List Code)} {outer:List Env} {A₀:Around} {base h₀ hp:Heap} {L fa cd od S s1 s2:Addr} {cdv:Value} {gs:Array GenState} {dr:Drawn} {tk0:Nat} {os:OsState} {Q:Flow→Shared→Prop} {E:Value→Shared→Prop}
    {mean:ExcName→Option Value} {mg mb:Str→Option Value} {led:List (Addr × Obj)} {m:Str→Option Value} {order codes:List Int} {vo vc v1 v2:List Value} {no nc:Nat}
    (B:Below A₀ base outer h₀) (F:Fr h₀ L hp (fun z=>if z = Str.ofString "sides" then some (.ref S) else m z)) (Nw:News h₀ L hp led) (T:Top q2 (looseW q2 loose2) mean mg mb h₀)
    (hE:PassesOwn (model rw_mu0013_01.row.prog w) (lawA dp un gd L fa cdv outer) (lawE L fa cdv) E)
    (hod:(od, listOf vo.toArray no) ∈ led) (hcd:(cd, listOf vc.toArray nc) ∈ led) (hC:CellsL L cd (some (.ref od)) led)
    (hS:(S, LCg.lst [.ref s1, .ref s2]) ∈ led) (hs1:(s1, LCg.lst v1) ∈ led) (hs2:(s2, LCg.lst v2) ∈ led) (hi1:IntsAre v1 (sideL codes 2 order)) (hi2:IntsAre v2 (sideL codes 1 order))
    (hio:IntsAre vo order) (hic:IntsAre vc codes) (hlf:∀ j ∈ order, 0 ≤ j ∧ j < codes.length) (hco:∀ c ∈ codes, c = 0 ∨ c = 1 ∨ c = 2) (hpos:0 < codes.length) (hN:codes.length ≤ 69) (hln:order.length = codes.length) (hgb:AllBare gs)
    (hd:dp + 150 < recursionLimit) (hu:un + 2000 < cLine)
    (next:∀ TD h' gs' tk' led', AllBare gs'→Fr h₀ L h' (fun z=>if z = Str.ofString "told" then some (.ref TD) else if z = Str.ofString "sides" then some (.ref S) else m z)→News h₀ L h' led'→(∀ q ∈ led, q ∈ led')→ToldL codes order TD led' →
      wpAny (model rw_mu0013_01.row.prog w) (lawA dp un gd L fa cdv outer) (execs ((bodyOf (top 20)).drop 7) (lawE L fa cdv)) Q E ⟨h', gs', dr, tk', os⟩) :
    (K2 w.params).In h₀→wpAny (model rw_mu0013_01.row.prog w) (lawA dp un gd L fa cdv outer) (execs ((bodyOf (top 20)).drop 5) (lawE L fa cdv)) Q E ⟨hp, gs, dr, tk0, os⟩:=by
  w_on
  k_fill
  intro X
  have hb:=Eq.refl ((bodyOf (top 20)).drop 5)
  conv at hb=>rhs; whnf
  rw [hb]
  clear hb
  obtain ⟨⟨oc, mc, ec⟩, ⟨o1, m1, e1⟩, _⟩:=hC
  w_strict (
    (have mk:=kstMark)
    k_steps
    (unfold Halt)
    (refine' told_tells B F Nw T rfl hod hcd hio hic hln hpos hlf hco hN hgb ?d1 ?d2 ?r1 X)
    (case d1=>lia)
    (case d2=>lia)
    (case r1 =>
      intro h1 tk1 gs1 led1 TD T1 T2 w1 w2 n0 n1 n2 hg1 F1 N1 K1 a1 a2 a3 a4 a5
      (have hS1:=K1 _ hS)
      clear F Nw
      k_steps
      (unfold Halt)
      (rename Fr _ _ _ _=>F2)
      (rename News _ _ _ _=>N2)
      (refine' LCg.ListComp_U (cl:=[]) F2 ?z1 ?z2 ?z3 ?z4 ?z5 ?z6)
      (case z1=>with_unfolding_all rfl)
      (case z2=>decide)
      (case z3=>rfl)
      (case z4=>decide)
      (case z5=>rfl)
      (case z6 =>
        k_steps
        (unfold Halt)
        (refine' LCg.CompSrc.ledger rfl F2 N2 hS1 (by rw [List.size_toArray, sizeLine_eq]; exact Nat.le_of_ble_eq_true rfl) (fun g0=>?q2))
        (refine' compL_ind (TextsJ codes order led1) 2 ?q3 ?q4 _ 0 [] _ rfl ⟨fun q hq=>hq, .inl ⟨rfl, rfl⟩⟩)
        (case q4 =>
          intro k i ys news hi9 hJ hrest
          (refine' LCg.CompRest.succ ?q5)
          intro v I oI C oC D m2 h tk E2 hv hC hxm F5 N5 off ne
          (revert hJ; refine eA2 fun j2 j3=>?_)
          (obtain ⟨o, sd, vv, rfl, hsd, hisd, ho⟩:∃ o sd vv, v = .ref sd ∧ (sd, LCg.lst vv) ∈ news ∧ IntsAre vv (sideL codes o order) ∧ ((i = 0 ∧ o = 2) ∨ (i = 1 ∧ o = 1)):=by
            rcases i with _ | _ | i
            · exact (iE3 2 s1 v1 ⟨(Option.some.inj hv).symm, j2 _ (K1 _ hs1), hi1, .inl ⟨rfl, rfl⟩⟩)
            · exact (iE3 1 s2 v2 ⟨(Option.some.inj hv).symm, j2 _ (K1 _ hs2), hi2, .inr ⟨rfl, rfl⟩⟩)
            · cases hv)
          (have hsb:∀ k ∈ sideL codes o order, 0 ≤ k ∧ k < 70:=fun k hk=>by
            have:=hlf k (List.mem_filter.mp hk).1
            exact ar7 ‹codes.length ≤ 69› this)
          (have hsl:(sideL codes o order).length ≤ 69:=Nat.le_trans (List.length_filter_le _ _) (by lia))
          (generalize hsq:sideL codes o order = sl at hisd hsb hsl)
          (have hvv:=hisd.length)
          clear F2 N2
          (refine' LCg.ListComp_U (cl:=[]) F5 ?y1 ?y2 ?y3 ?y4 ?y5 ?y6)
          (case y1=>with_unfolding_all rfl)
          (case y2=>decide)
          (case y3=>rfl)
          (case y4=>decide)
          (case y5=>rfl)
          (case y6 =>
            k_steps
            (unfold Halt)
            (refine' LCg.CompSrc.ledger rfl F5 N5 (.tail _ (.tail _ (.tail _ hsd))) (by rw [List.size_toArray, sizeLine_eq]; lia) (fun g0=>?q6))
            rw [List.size_toArray]
            (refine' compU_ind (fun i ys=>StrsAre ys ((sl.take i).map textF)) vv.length ?q7 ?q8 _ 0 [] (Nat.zero_add _) .nil)
            (case q8 =>
              intro k i ys hi9 hy hrest
              (refine' LCg.CompRest.succ ?q9)
              intro v I5 oI5 C5 oC5 D5 m5 h tk E3 hv hC5 hxm5 F6 N6 off5 ne5
              (have hlt:i < sl.length:=by lia)
              (refine eE1 (fun tv ht=>?_) (hisd.get i sl[i] (by simp [hlt])))
              (obtain rfl:v = .int sl[i] tv:=by
                rw [List.getElem?_toArray, ht] at hv
                exact (Option.some.inj hv).symm)
              (have hb:=hsb _ (List.getElem_mem hlt))
              clear F5 N5
              k_steps
              (unfold Halt)
              (rename Fr _ _ _ _=>F7)
              (rename News _ _ _ _=>N7)
              (refine' text_tells B F7 N7 T rfl hb.1 (by lia) ?d1 ?d2 ?r2 X)
              (case d1=>lia)
              (case d2=>lia)
              (case r2 =>
                intro t6 h6 tk6 F8 N8
                clear F7 N7
                k_steps
                (unfold Halt)
                exact LCg.CompEnd.intro F8 N8 _ (fun p hp=>hp) off5 (.inr ⟨_, .tail _ (.tail _ (.tail _ hsd)), rfl, _, rfl⟩) (hrest _ (by rw [List.take_add_one, List.getElem?_eq_getElem hlt, List.map_append]; exact strs_snoc hy))))
            (case q7 =>
              intro y9 hy R h5 tk5 F6 N6 o5
              rw [hvv, List.take_length] at hy
              (have o6:=off1_mem o5)
              (refine' LCg.CompEnd.intro F6 N6 ((R, LCg.lst y9) :: news) ?e0 ⟨⟨(o6 _ (.head _)).symm, (o6 _ (.tail _ (.head _))).symm, (o6 _ (.tail _ (.tail _ (.head _)))).symm⟩, off⟩ (.inr ⟨_, .tail _ (j2 _ hS1), rfl, _, rfl⟩) (hrest _ _ ⟨fun q hq=>.tail _ (j2 q hq), ?e2⟩))
              (case e0=>exact fun p hp=>mem_rot3 hp)
              (case e2 =>
                rcases ho with ⟨rfl, rfl⟩ | ⟨rfl, rfl⟩
                · rcases j3 with ⟨-, rfl⟩ | ⟨s1, v1, a1, a2, ⟨h, -⟩ | ⟨s2, v2, a3, a4, h, -⟩⟩
                  · exact .inr (iE2 R y9 ⟨.head _, hsq ▸ hy, .inl ⟨rfl, rfl⟩⟩)
                  · exact absurd h (by decide)
                  · exact absurd h (by decide)
                · rcases j3 with ⟨h, -⟩ | ⟨s1, v1, a1, a2, ⟨-, rfl⟩ | ⟨s2, v2, a3, a4, h, -⟩⟩
                  · exact absurd h (by decide)
                  · exact .inr (iE2 s1 v1 ⟨.tail _ a1, a2, .inr (iE2 R y9 ⟨.head _, hsq ▸ hy, rfl, rfl⟩)⟩)
                  · exact absurd h (by decide)))))
        (case q3 =>
          intro ys news hJ D h2 tk2 F3 N3 o3
          (revert hJ; refine eA2 fun j2 j3=>?_)
          clear F2 N2
          rcases j3 with ⟨h, -⟩ | ⟨r1, y1, b1, b2, ⟨h, -⟩ | ⟨r2, y2, b3, b4, -, rfl⟩⟩
          · exact absurd h (by decide)
          · exact absurd h (by decide)
          · k_steps
            (unfold Halt)
            (have okS:∀ o:Int, kqdOk 8 (datT (sideL codes o order)) = true:=fun o=>datT_ok fun k hk=>by
              have:=hlf k (List.mem_filter.mp hk).1
              lia)
            (have okL:∀ d ∈ [datT (sideL codes 2 order), datT (sideL codes 1 order)], kqdOk 8 d = true:=List.forall_mem_cons.mpr ⟨okS 2, List.forall_mem_cons.mpr ⟨okS 1, List.forall_mem_nil _⟩⟩)
            (refine' kqd_ne (n₁:=(D, LCg.lst [.ref r1, .ref r2]) :: news) (n₂:=(D, LCg.lst [.ref r1, .ref r2]) :: news) (xs:=[.ref T1, .ref T2]) (ys:=[.ref r1, .ref r2]) (ds:=[datT (sideL codes 2 order), datT (sideL codes 1 order)]) (es:=[datT (sideL codes 2 order), datT (sideL codes 1 order)]) N3 (.tail _ (j2 _ a1)) rfl rfl ?e1 (fun _ h=>h) (.head _) rfl rfl ?e2 (fun _ h=>h) okL okL ?d3 ?e3)
            (case e1=>exact DatAll.cons (DatIn.list (.tail _ (j2 _ a2)) (datT_all a4)) (DatAll.cons (DatIn.list (.tail _ (j2 _ a3)) (datT_all a5)) DatAll.nil))
            (case e2=>exact DatAll.cons (DatIn.list (.tail _ b1) (datT_all b2)) (DatAll.cons (DatIn.list (.tail _ b3) (datT_all b4)) DatAll.nil))
            (case d3=>ktr_units)
            (case e3 =>
              simp only [eq_self, decide_true, Bool.not_true]
              k_steps
              (unfold Halt)
              exact next TD _ _ _ _ hg1 F3 N3 (fun q hq=>.tail _ (j2 _ (K1 _ hq))) (iE7 T1 T2 w1 w2 n0 n1 n2 ⟨.tail _ (j2 _ a1), .tail _ (j2 _ a2), .tail _ (j2 _ a3), a4, a5⟩))))))
end
section
open PySem PySem.W PyProof.Rows PySem.Challenge PySem.Spec PySem.Calls
noncomputable abbrev lawFor:Stmt:=(bodyOf (top 20)).getD 7 (.Pass ⟨0, 0, 0, 0⟩)
noncomputable abbrev lawM (x:Int) (tx:Tok) (n:Int) (tn:Tok) (S TD:Addr) (mr:Str→Option Value):Str→Option Value:=fun y=>if y = Str.ofString "x" then some (.int x tx) else if y = Str.ofString "count" then some (.int n tn) else if y = Str.ofString "sides" then some (.ref S) else if y = Str.ofString "told" then some (.ref TD) else mr y
noncomputable def movedF (l:List Int) (a b:Nat):List Int:=(l.take b ++ l.drop (b + 1)).take a ++ l.getD b 0 :: (l.take b ++ l.drop (b + 1)).drop a
theorem cut_at:∀ {l:List Value} {k:Nat} {y:Value}, l[k]? = some y→kl_cut l k = some (l.take k, y, l.drop (k + 1))
  | [], _, _, h=>by cases h
  | x :: r, 0, y, h=>by cases h; rfl
  | x :: r, k + 1, y, h=>by
    unfold kl_cut
    rw [cut_at (show r[k]? = some y from h)]
    rfl
local macro_rules | `(tactic| walk_at $s)=>Tab.rules s "execs cons|execs|3
call builtin:list.insert|halt
call builtin:list.pop|halt
call type:list||kup_listOf|aamv?h|i
binaryOp FloorDiv int int|red|fdivT|DD?
storeName||storeT|aa?rr|Wis"
theorem law_t1 {w:World} {dp un:Nat} {gd:Option (List Code)} {outer:List Env} {A₀:Around} {base h₀ hp:Heap} {L fa od S TD:Addr} {cdv:Value} {gs:Array GenState} {dr:Drawn} {tk0:Nat} {os:OsState} {Q:Flow→Shared→Prop} {E:Value→Shared→Prop}
    {mean:ExcName→Option Value} {mg mb:Str→Option Value} {led:List (Addr × Obj)} {mr:Str→Option Value} {order:List Int} {vo:List Value} {no:Nat} {x n:Int} {tx tn:Tok} {o1:Obj}
    (B:Below A₀ base outer h₀) (F:Fr h₀ L hp (lawM x tx n tn S TD mr)) (Nw:News h₀ L hp led) (T:Top q2 (looseW q2 loose2) mean mg mb h₀)
    (hE:PassesOwn (model rw_mu0013_01.row.prog w) (lawA dp un gd L fa cdv outer) (lawE L fa cdv) E)
    (hod:(od, listOf vo.toArray no) ∈ led) (m1:(L + 2, o1) ∈ led) (e1:o1.data = .cell (some (.ref od)))
    (hio:IntsAre vo order) (hn:n = order.length) (hn0:0 < order.length) (hN:order.length ≤ 69)
    (hd:dp + 150 < recursionLimit) (hu:un + 2000 < cLine)
    (next:∀ md vm nm h' tk' led' a b, Fr h₀ L h' (fun z=>if z = Str.ofString "rising" then some (.bool true) else if z = Str.ofString "moved" then some (.ref md) else lawM x tx n tn S TD mr z)→News h₀ L h' led'→(∀ q ∈ led, q ∈ led')→(md, listOf (List.toArray vm) nm) ∈ led'→IntsAre vm (movedF order a b)→a < order.length→b < order.length→(∀ q ∈ led, q.1 < md) →
      wpAny (model rw_mu0013_01.row.prog w) (lawA dp un gd L fa cdv outer) (execs ((forBody lawFor).drop 3) (lawE L fa cdv)) Q E ⟨h', gs, dr, tk', os⟩) :
    (K2 w.params).In h₀→wpAny (model rw_mu0013_01.row.prog w) (lawA dp un gd L fa cdv outer) (execs (forBody lawFor) (lawE L fa cdv)) Q E ⟨hp, gs, dr, tk0, os⟩:=by
  w_on
  k_fill
  intro X
  have hb:=Eq.refl (forBody lawFor)
  conv at hb=>rhs; whnf
  rw [hb]
  clear hb
  have hvo:=hio.length
  w_strict (
    (have mk:=kstMark)
    k_steps
    (unfold Halt)
    (rename Fr _ _ _ _=>F1)
    (rename News _ _ _ _=>N1)
    (rename_i D c h5 l5 h6 tk6 t6 tk7 t5 tk8 t4 tk9 t3 tka t2 tkb t1 tkc t0 tkd)
    (have hb0:=Int.fmod_nonneg_of_pos (x.fdiv 3) (show 0 < n by lia))
    (have hb1:=Int.fmod_lt_of_pos (x.fdiv 3) (show 0 < n by lia))
    (have ha0:=Int.fmod_nonneg_of_pos ((x.fdiv 3).fdiv n) (show 0 < n by omega))
    (have ha1:=Int.fmod_lt_of_pos ((x.fdiv 3).fdiv n) (show 0 < n by omega))
    (generalize (x.fdiv 3).fmod n = bb at hb0 hb1 ⊢)
    (generalize ((x.fdiv 3).fdiv n).fmod n = aa at ha0 ha1 ⊢)
    ((refine eE1 (fun b hR1=>?_) (Int.eq_ofNat_of_zero_le hb0); subst hR1))
    ((refine eE1 (fun a hR1=>?_) (Int.eq_ofNat_of_zero_le ha0); subst hR1))
    (have hbl:b < order.length:=by lia)
    (have hal:a < order.length:=by lia)
    (refine eE1 (fun ty hty=>?_) (hio.get b (order.getD b 0) (by rw [List.getD_eq_getElem?_getD, List.getElem?_eq_getElem hbl]; rfl)))
    (have fits:∀ k:Nat, k < 100→Builtin.List.listFitsIndex (k:Int) = true:=fun k hk=>by
      unfold Builtin.List.listFitsIndex
      rw [Bool.and_eq_true, decide_eq_true_eq, decide_eq_true_eq]
      lia)
    (refine' kl_popAt (k:=b) F1 N1 (fits b (by lia)) ?p1 (by rw [List.toList_toArray]; exact cut_at hty) (Upd.head (all_ne l5 (Nat.le_refl _))) ?p2 ?p3)
    (case p1 =>
      unfold seqIndex?
      rw [List.size_toArray, hvo]
      simp only [show ¬ ((b:Int) < 0) by lia, if_false]
      rw [if_pos (by simp; omega), Int.toNat_natCast])
    (case p2=>rw [List.toList_toArray, sizeLine_eq]; lia)
    (case p3 =>
      intro h7 F7 N7
      clear F1 N1
      k_steps
      (unfold Halt)
      (refine' kl_insert F7 N7 (fits a (by lia)) rfl (Upd.head (all_ne l5 (Nat.le_refl _))) ?i1 ?i2)
      (case i1=>(rw [List.toList_toArray, sizeLine_eq, List.length_append, List.length_take, List.length_drop]; exact ar10 (Nat.le_trans (Nat.le_of_eq ‹vo.length = order.length›) ‹order.length ≤ 69›)))
      (case i2 =>
        intro h8 F8 N8
        clear F7 N7
        k_steps
        (unfold Halt)
        (rename Fr _ _ _ _=>F9)
        (rename News _ _ _ _=>N9)
        (refine' next D _ _ _ _ _ a b F9 N9 (fun q hq=>.tail _ hq) (.head _) ?i3 hal hbl (fun q hq=>l5 q hq))
        (have hq:IntsAre (vo.take b ++ vo.drop (b + 1)) (order.take b ++ order.drop (b + 1)):=(hio.take b).append (hio.drop _))
        (have hql:=hq.length)
        (have hk:kl_ins (List.take b vo ++ List.drop (b + 1) vo).toArray.toList (a:Int) (.int (order.getD b 0) ty) = (vo.take b ++ vo.drop (b + 1)).take a ++ .int (order.getD b 0) ty :: (vo.take b ++ vo.drop (b + 1)).drop a:=by
          rw [List.toList_toArray]
          unfold kl_ins
          have e:(if (a:Int) < 0 then ((a:Int) + ((vo.take b ++ vo.drop (b + 1)).length:Int)).toNat else min (a:Int).toNat (vo.take b ++ vo.drop (b + 1)).length) = a:=by
            rw [if_neg (by lia), Int.toNat_natCast, hql, List.length_append, List.length_take, List.length_drop]
            lia
          rw [e])
        rw [hk]
        exact (hq.take a).append (.cons _ _ (hq.drop a)))))
end
section
open PySem PySem.W PyProof.Rows PySem.Challenge PySem.Spec PySem.Calls
theorem sorted_disp {prog:Program} {w:World} {A:Around} {E:Value→Shared→Prop} {Q:Value→Shared→Prop} {h₀ hp:Heap} {gs:Array GenState} {dr:Drawn} {tk0:Nat} {os:OsState} {L l:Addr} {m:Str→Option Value} {news:List (Addr × Obj)} {vs:List Value} {ns:List Int} {n:Nat}
    (F:Fr h₀ L hp m) (N:News h₀ L hp news) (hm:(l, listOf vs.toArray n) ∈ news) (hi:IntsAre vs ns) (hd:Disp ns) (hz:ns.length ≤ 67)
    (h:∀ D vs' ns' c h', Fr h₀ L h' m→News h₀ L h' ((D, listOf (List.toArray vs') c) :: news)→(∀ q ∈ news, q.1 < D)→IntsAre vs' ns'→ns'.Perm ns→ns'.Pairwise (· ≤ ·)→Q (.ref D) ⟨h', gs, dr, tk0, os⟩) :
    wpAny (model prog w) A (call (.builtin "sorted") [.ref l]) Q E ⟨hp, gs, dr, tk0, os⟩:=by
  by_cases h64:ns.length < 64
  · exact kso_sorted (s:=⟨hp, gs, dr, tk0, os⟩) F N (News.isList N hm) hi h64 fun D vs' ns' c h' F' N' l' i' _ p' o' _=>h D vs' ns' c h' F' N' l' i' p' o'
  · refine sortedD (s:=⟨hp, gs, dr, tk0, os⟩) (News.isList N hm) hi hd (Nat.not_lt.mp h64) hz fun out ns' a1 a2 a3=>?_
    refine eE1 (fun e he=>?_) (sortedAll_at hp vs out)
    exact h _ out.toList ns' e _ (F.kept fun _ _=>sortedAll_old) (N.kept_cons F (fun _ _=>sortedAll_old) (Nat.le_succ _) he) (fun q hq=>Nat.lt_succ_of_lt (Heap.lt_size (N q hq).1)) a1 a2 a3
theorem sorted_rise {ns ns':List Int} (hn:ns.Nodup) (hp:ns'.Perm ns) (ho:ns'.Pairwise (· ≤ ·)):ns = ns' ↔ ns.Pairwise (· < ·):=by
  constructor
  · rintro rfl
    have:=List.Pairwise.and ho hn
    exact this.imp fun h=>by lia
  · intro h
    exact (List.Perm.eq_of_pairwise (fun a b _ _ h1 h2=>by lia) (h.imp fun h=>Int.le_of_lt h) ho hp.symm)
end
section
open PySem PySem.W PyProof.Rows PySem.Challenge PySem.Spec PySem.Calls
noncomputable abbrev lawForI:Stmt:=(forBody lawFor).getD 3 (.Pass ⟨0, 0, 0, 0⟩)
noncomputable abbrev lawN (b:Bool) (md:Addr) (sv:Option Value) (m:Str→Option Value):Str→Option Value:=fun z=>if z = Str.ofString "rising" then some (.bool b) else if z = Str.ofString "side" then sv else if z = Str.ofString "moved" then some (.ref md) else m z
theorem lawN_of {b:Bool} {md:Addr} {sv:Option Value} {m:Str→Option Value} {h₀ h:Heap} {L:Addr} {v:Value} {b':Bool} (F:Fr h₀ L h (fun z=>if z = Str.ofString "rising" then some (.bool b') else if z = Str.ofString "side" then some v else lawN b md sv m z)):Fr h₀ L h (lawN b' md (some v) m):=by
  refine fr_as F _ ?_
  funext z
  split
  · rfl
  · split
    · rfl
    · rfl
local macro_rules | `(tactic| walk_at $s)=>Tab.rules s "compareOp Eq ref ref|each|eqT|amtmtu??
call builtin:sorted|halt"
local macro_rules | `(tactic| walk_at $s)=>Tab.rules s "none 8"
theorem law_side {w:World} {dp un:Nat} {gd:Option (List Code)} {outer:List Env} {A₀:Around} {base h₀ hp:Heap} {L fa cd md:Addr} {cdv:Value} {gs:Array GenState} {dr:Drawn} {tk0:Nat} {os:OsState} {Q:Flow→Shared→Prop} {E:Value→Shared→Prop}
    {mean:ExcName→Option Value} {mg mb:Str→Option Value} {led:List (Addr × Obj)} {m:Str→Option Value} {moved codes:List Int} {vm vc:List Value} {nm nc:Nat} {b:Bool} {sv:Option Value} {o1 oc:Obj} {o:Int} {to:Tok}
    (B:Below A₀ base outer h₀) (F:Fr h₀ L hp (lawN b md sv m)) (Nw:News h₀ L hp led) (T:Top q2 (looseW q2 loose2) mean mg mb h₀)
    (hE:PassesOwn (model rw_mu0013_01.row.prog w) (lawA dp un gd L fa cdv outer) (lawE L fa cdv) E)
    (hmd:(md, listOf vm.toArray nm) ∈ led) (hcd:(cd, listOf vc.toArray nc) ∈ led) (m1:(L + 1, o1) ∈ led) (e1:o1.data = .cell (some (.ref cd))) (mc:(L + 3, oc) ∈ led) (ec:oc.data = .cell (some (.int o to)))
    (him:IntsAre vm moved) (hic:IntsAre vc codes) (hlf:∀ j ∈ moved, 0 ≤ j ∧ j < codes.length) (hN:codes.length ≤ 69) (hln:moved.length ≤ 69) (hnd:(sideL codes o moved).Nodup) (hds:Disp (sideL codes o moved)) (hsl:(sideL codes o moved).length ≤ 67)
    (hd:dp + 150 < recursionLimit) (hu:un + 2000 < cLine)
    (next:∀ b' sd h' tk' led', Fr h₀ L h' (lawN b' md (some sd) m)→News h₀ L h' led'→(∀ q ∈ led, q ∈ led')→(b' = true ↔ b = true ∧ (sideL codes o moved).Pairwise (· < ·))→Q .next ⟨h', gs, dr, tk', os⟩) :
    (K2 w.params).In h₀→wpAny (model rw_mu0013_01.row.prog w) (lawA dp un gd L fa cdv outer) (execs (forBody lawForI) (lawE L fa cdv)) Q E ⟨hp, gs, dr, tk0, os⟩:=by
  w_on
  k_fill
  intro X
  have hb:=Eq.refl (forBody lawForI)
  conv at hb=>rhs; whnf
  rw [hb]
  clear hb
  have hvl:=him.length
  have hget:∀ j ∈ moved, codes[j.toNat]? = some (cAt codes j):=fun j hj=>by
    have:=hlf j hj
    unfold cAt
    rw [List.getD_eq_getElem?_getD, List.getElem?_eq_getElem (by lia)]; rfl
  w_strict (
    (have mk:=kstMark)
    k_steps
    (unfold Halt)
    (refine' LCt.Assign_ListComp_T (cl:=[(Str.ofString "other", L + 3), (Str.ofString "codes", L + 1)]) F ?z0 ?z1 ?z2 ?z3 ?z4 ?z5 ?z7 ?z8 ?z9 ?z6 (fun _=>rfl))
    (case z0=>rfl)
    (case z1=>with_unfolding_all rfl)
    (case z2=>with_unfolding_all rfl)
    (case z3=>decide)
    (case z4=>rfl)
    (case z5=>decide)
    (case z7=>rfl)
    (case z8=>rfl)
    (case z9=>rfl)
    (case z6 =>
      k_steps
      (unfold Halt)
      (refine' LCt.CompSrcT.ledger rfl F Nw hmd (by rw [List.size_toArray, sizeLine_eq]; lia) (fun g0=>?q2))
      rw [List.size_toArray]
      (refine' compRestT_ind (fun i ys=>IntsAre ys ((moved.take i).filter fun j=>decide (cAt codes j ≠ o))) vm.length ?q3 ?q4 _ 0 [] (Nat.zero_add _) .nil)
      (case q4 =>
        intro k i ys hi9 hy hrest
        (refine' LCt.CompRestT.succ ?q5)
        intro v I oI C oC D2 m9 h tk E2 hv hC hxm F5 N5 off ne
        (have hlt:i < moved.length:=by lia)
        (refine eE1 (fun tv ht=>?_) (him.get i moved[i] (by simp [hlt])))
        (obtain rfl:v = .int moved[i] tv:=by
          rw [List.getElem?_toArray, ht] at hv
          exact (Option.some.inj hv).symm)
        (have hjm:=List.getElem_mem hlt)
        (have hj1:=hget _ hjm)
        (have hj2:=hlf _ hjm)
        (have hst:(moved.take (i + 1)).filter (fun j=>decide (cAt codes j ≠ o)) = (moved.take i).filter (fun j=>decide (cAt codes j ≠ o)) ++ if cAt codes moved[i] ≠ o then [moved[i]] else []:=by
          rw [List.take_add_one, List.getElem?_eq_getElem hlt, List.filter_append]
          congr 1
          by_cases e:cAt codes moved[i] = o <;> simp [e])
        (generalize moved[i] = jj at *)
        clear F Nw
        k_steps
        all_goals (unfold Halt; rename Fr _ _ _ _=>F6; rename News _ _ _ _=>N6)
        · exact LCg.CompEnd.intro F6 N6 led (fun p hp=>hp) off (.inr ⟨_, hmd, rfl, _, rfl⟩) (hrest _ (by rw [hst, if_pos (by assumption)]; exact ints_snoc hy))
        · exact LCg.CompEnd.intro F6 N6 led (fun p hp=>hp) off (.inr ⟨_, hmd, rfl, _, rfl⟩) (hrest _ (by rw [hst, if_neg (by first | assumption | (intro h; exact absurd (by assumption) h)), List.append_nil]; exact hy)))
      (case q3 =>
        intro ys hy R h5 tk5 F5 N5 o5
        rw [hvl, List.take_length] at hy
        (change IntsAre ys (sideL codes o moved) at hy)
        (generalize hsd:sideL codes o moved = sl at hy hnd hds hsl next)
        clear F Nw
        dsimp only at F5 N5 ⊢
        cases b
        · k_steps
          (rename Fr _ _ _ _=>F6)
          (rename News _ _ _ _=>N6)
          exact next false (.ref R) _ _ _ (lawN_of F6) N6 (fun q hq=>.tail _ hq) ⟨fun h=>(nomatch h), fun h=>(nomatch h.1)⟩
        · k_steps
          (unfold Halt)
          (rename Fr _ _ _ _=>F6)
          (rename News _ _ _ _=>N6)
          (refine' sorted_disp F6 N6 (.head _) hy hds hsl ?s1)
          (case s1 =>
            intro D vs' ns' c h' F7 N7 l7 hi7 hp7 ho7
            have hz7:ns'.length ≤ 67:=by rw [hp7.length_eq]; exact hsl
            clear F6 N6
            k_steps
            all_goals (rename Fr _ _ _ _=>F8; rename News _ _ _ _=>N8)
            · exact next true (.ref R) _ _ _ (lawN_of F8) N8 (fun q hq=>.tail _ (.tail _ hq)) ⟨fun _=>⟨rfl, (sorted_rise hnd hp7 ho7).mp (by assumption)⟩, fun _=>rfl⟩
            · exact next false (.ref R) _ _ _ (lawN_of F8) N8 (fun q hq=>.tail _ (.tail _ hq)) ⟨fun h=>(nomatch h), fun h=>absurd ((sorted_rise hnd hp7 ho7).mpr h.2) (by assumption)⟩))))
end
section
open PySem PySem.W PyProof.Rows PySem.Challenge PySem.Spec PySem.Calls
local macro_rules | `(tactic| walk_at $s)=>Tab.rules s "storeName||storeXU|aarms?rr|Wi"
section
open PySem PySem.W PyProof.Rows PySem.Challenge PySem.Spec PySem.Calls
theorem lawN_to {b:Bool} {md:Addr} {m:Str→Option Value} {h₀ h:Heap} {L:Addr} (F:Fr h₀ L h (fun z=>if z = Str.ofString "rising" then some (.bool b) else if z = Str.ofString "moved" then some (.ref md) else m z)):Fr h₀ L h (lawN b md (m (Str.ofString "side")) m):=by
  refine fr_as F _ ?_
  funext z
  split
  · rfl
  · by_cases h:z = Str.ofString "side"
    · subst h; rfl
    · rw [if_neg h]
theorem law_step {w:World} {dp un:Nat} {gd:Option (List Code)} {outer:List Env} {A₀:Around} {base h₀:Heap} {L fa cd od md t I:Addr} {cdv:Value} {s:Shared} {Q:Flow→Shared→Prop} {E:Value→Shared→Prop} {px:Pos}
    {mean:ExcName→Option Value} {mg mb:Str→Option Value} {c:List (Addr × Obj)} {m:Str→Option Value} {moved codes:List Int} {vm vc vt:List Value} {nm nc nt:Nat} {b:Bool} {sv:Option Value} {o:Int} {to:Tok} {r:List Itm}
    (B:Below A₀ base outer h₀) (T:Top q2 (looseW q2 loose2) mean mg mb h₀) (X:(K2 w.params).In h₀)
    (hE:PassesOwn (model rw_mu0013_01.row.prog w) (lawA dp un gd L fa cdv outer) (lawE L fa cdv) E)
    (hI:∀ p ∈ c, p.1 ≠ I) (ht:(t, tupO vt nt) ∈ c) (hmd:(md, listOf vm.toArray nm) ∈ c) (hcd:(cd, listOf vc.toArray nc) ∈ c) (hC:CellsL L cd (some (.ref od)) c)
    (him:IntsAre vm moved) (hic:IntsAre vc codes) (hlf:∀ j ∈ moved, 0 ≤ j ∧ j < codes.length) (hN:codes.length ≤ 69) (hln:moved.length ≤ 69) (hnd:(sideL codes o moved).Nodup ∧ Disp (sideL codes o moved) ∧ (sideL codes o moved).length ≤ 67)
    (hd:dp + 150 < recursionLimit) (hu:un + 2000 < cLine)
    (rest:∀ b' sd c', (∀ p ∈ c', p.1 ≠ I)→(∀ q ∈ c, q.1 ≠ L + 3→q ∈ c')→(t, tupO vt nt) ∈ c'→(md, listOf vm.toArray nm) ∈ c'→(cd, listOf vc.toArray nc) ∈ c'→CellsL L cd (some (.ref od)) c'→(b' = true ↔ b = true ∧ (sideL codes o moved).Pairwise (· < ·)) →
      ItemsRest rw_mu0013_01.row.prog w (lawA dp un gd L fa cdv outer) E h₀ (lawE L fa cdv) (.Name (Str.ofString "other") px) (forBody lawForI) Q s [(I, "tuple_iterator")] [(t, tupO vt nt)] r (lawN b' md (some sd) m) c') :
    ItemsRest rw_mu0013_01.row.prog w (lawA dp un gd L fa cdv outer) E h₀ (lawE L fa cdv) (.Name (Str.ofString "other") px) (forBody lawForI) Q s [(I, "tuple_iterator")] [(t, tupO vt nt)] (.val (.int o to) :: r) (lawN b md sv m) c:=by
  obtain ⟨⟨oc, mc, ec⟩, ⟨o1, m1, e1⟩, ⟨ot, vt9, mt, et⟩⟩:=hC
  refine ItemsRest.val fun h tk F=>AllObj.cons fun oI hoI=>AllObj.nil fun N=>?_
  have N1:News h₀ L h ((I, oI) :: c):=N
  have off:∀ q ∈ c, q.2 ≠ ot→q.1 ≠ L + 3:=fun q hq hn=>news_neo N1 (.tail _ hq) (.tail _ mt) hn
  have nseq:∀ xs n, (listOf xs n) ≠ ot:=fun xs n e=>by rw [← e] at et; cases et
  have ntup:tupO vt nt ≠ ot:=fun e=>by rw [← e] at et; cases et
  have n1:L + 1 ≠ L + 3:=by simp
  have n2:L + 2 ≠ L + 3:=by simp
  refine wpAny_assign_Name (storeXU (o:=ot) F N1 rfl (.tail _ mt) et (fun h2 o2 F2 N2 d2=>?_) rfl rfl)
  have up:∀ q ∈ c, q.1 ≠ L + 3→q ∈ upL (L + 3) o2 ((I, oI) :: c):=fun q hq hn=>mem_upL_ne (.tail _ hq) hn
  have hI3:I ≠ L + 3:=fun e=>hI _ mt e.symm
  refine law_side B F2 N2 T hE (up _ hmd (off _ hmd (nseq _ _))) (up _ hcd (off _ hcd (nseq _ _))) (up _ mc n1) ec (mem_upL_self (.tail _ mt)) d2 him hic hlf hN hln hnd.1 hnd.2.1 hnd.2.2 hd hu (fun b' sd h3 tk3 led3 F3 N3 k3 hb3=>?_) X
  have up3:∀ q ∈ c, q.1 ≠ L + 3→q ∈ led3.filter fun p=>decide (p.1 ≠ I):=fun q hq hn=>mem_filt (k3 _ (up q hq hn)) (hI q hq)
  have ht3:=up3 _ ht (off _ ht ntup)
  refine (iE4 h3 tk3 _ (led3.filter fun p=>decide (p.1 ≠ I)) ⟨rfl, F3, fun p hp=>?_, fun p hp q hq=>?_, ⟨ht3, trivial⟩, ?_⟩)
  · rcases List.mem_append.mp hp with hp | hp
    · rw [List.mem_singleton.mp hp]
      exact N3 _ (k3 _ (mem_upL_ne (.head _) hI3))
    · exact N3 _ (List.mem_filter.mp hp).1
  · rw [List.mem_singleton.mp hq]
    exact of_decide_eq_true (List.mem_filter.mp hp).2
  · refine rest b' sd _ (fun p hp=>of_decide_eq_true (List.mem_filter.mp hp).2) up3 ht3 (up3 _ hmd (off _ hmd (nseq _ _))) (up3 _ hcd (off _ hcd (nseq _ _))) ⟨⟨oc, up3 _ mc n1, ec⟩, ⟨o1, up3 _ m1 n2, e1⟩, (iE2 o2 _ ⟨?_, d2⟩)⟩ hb3
    exact mem_filt (k3 _ (mem_upL_self (.tail _ mt))) (fun e=>hI3 e.symm)
theorem law_t2 {w:World} {dp un:Nat} {gd:Option (List Code)} {outer:List Env} {A₀:Around} {base h₀ hp:Heap} {L fa cd od md:Addr} {cdv:Value} {gs:Array GenState} {dr:Drawn} {tk0:Nat} {os:OsState} {Q:Flow→Shared→Prop} {E:Value→Shared→Prop}
    {mean:ExcName→Option Value} {mg mb:Str→Option Value} {led:List (Addr × Obj)} {m:Str→Option Value} {moved codes:List Int} {vm vc:List Value} {nm nc:Nat}
    (B:Below A₀ base outer h₀) (F:Fr h₀ L hp (fun z=>if z = Str.ofString "rising" then some (.bool true) else if z = Str.ofString "moved" then some (.ref md) else m z)) (Nw:News h₀ L hp led) (T:Top q2 (looseW q2 loose2) mean mg mb h₀)
    (hE:PassesOwn (model rw_mu0013_01.row.prog w) (lawA dp un gd L fa cdv outer) (lawE L fa cdv) E)
    (hmd:(md, listOf vm.toArray nm) ∈ led) (hcd:(cd, listOf vc.toArray nc) ∈ led) (hC:CellsL L cd (some (.ref od)) led)
    (him:IntsAre vm moved) (hic:IntsAre vc codes) (hlf:∀ j ∈ moved, 0 ≤ j ∧ j < codes.length) (hN:codes.length ≤ 69) (hln:moved.length ≤ 69) (hnd:∀ o, (o = 2 ∨ o = 1)→(sideL codes o moved).Nodup ∧ Disp (sideL codes o moved) ∧ (sideL codes o moved).length ≤ 67)
    (hd:dp + 150 < recursionLimit) (hu:un + 2000 < cLine)
    (next:∀ b sv h' tk' led', Fr h₀ L h' (lawN b md sv m)→News h₀ L h' led'→(∀ q ∈ led, q.1 ≠ L + 3→q ∈ led')→CellsL L cd (some (.ref od)) led'→(b = true ↔ (sideL codes 2 moved).Pairwise (· < ·) ∧ (sideL codes 1 moved).Pairwise (· < ·)) →
      wpAny (model rw_mu0013_01.row.prog w) (lawA dp un gd L fa cdv outer) (execs ((forBody lawFor).drop 4) (lawE L fa cdv)) Q E ⟨h', gs, dr, tk', os⟩) :
    (K2 w.params).In h₀→wpAny (model rw_mu0013_01.row.prog w) (lawA dp un gd L fa cdv outer) (execs ((forBody lawFor).drop 3) (lawE L fa cdv)) Q E ⟨hp, gs, dr, tk0, os⟩:=by
  w_on
  k_fill
  intro X
  have hb:=Eq.refl ((forBody lawFor).drop 3)
  conv at hb=>rhs; whnf
  rw [hb]
  clear hb
  have F0:=lawN_to F
  clear F
  obtain ⟨⟨oc, mc, ec⟩, ⟨o1, m1, e1⟩, ⟨ot, vt, mt, et⟩⟩:=hC
  w_strict (
    (have mk:=kstMark)
    k_steps
    (rename_i t2 tk2 t1 tk1 D h2 F1 N1 l1)
    (have up:∀ q ∈ led, q ∈ (D, tupO [.int 2 t2, .int 1 t1] 0) :: led:=fun q hq=>.tail _ hq)
    (have hC1:CellsL L cd (some (.ref od)) ((D, tupO [.int 2 t2, .int 1 t1] 0) :: led):=⟨⟨oc, up _ mc, ec⟩, ⟨o1, up _ m1, e1⟩, (iE2 ot vt ⟨up _ mt, et⟩)⟩)
    (refine iter_tupTurns (vs:=[.int 2 t2, .int 1 t1]) rfl F1 N1 (.head _) rfl rfl fun I hI=>?_)
    (refine' law_step B T X hE (fun p hp=>Nat.ne_of_lt (hI p hp)) (.head _) (up _ hmd) (up _ hcd) hC1 him hic hlf hN hln (hnd 2 (.inl rfl)) hd hu ?r1)
    (case r1 =>
      intro b1 sd1 c1 hI1 k1 ht1 hmd1 hcd1 hC1 hb1
      (refine' law_step B T X hE hI1 ht1 hmd1 hcd1 hC1 him hic hlf hN hln (hnd 1 (.inr rfl)) hd hu ?r2)
      (case r2 =>
        intro b2 sd2 c2 hI2 k2 ht2 hmd2 hcd2 hC2 hb2
        intro h3 tk3 F3 N3
        exact next b2 _ h3 _ c2 F3 N3 (fun q hq hn=>k2 q (k1 q (up q hq) hn) hn) hC2 (by rw [hb2, hb1]; simp))))
end
section
open PySem PySem.W PyProof.Rows PySem.Challenge PySem.Spec PySem.Calls
noncomputable abbrev Rises (codes moved:List Int):Prop:=(sideL codes 2 moved).Pairwise (· < ·) ∧ (sideL codes 1 moved).Pairwise (· < ·)
theorem textF_inj {a b:Int} (ha:0 ≤ a ∧ a < 70) (hb:0 ≤ b ∧ b < 70) (h:textF a = textF b):a = b:=by
  (refine eE1 (fun m hR1=>?_) (Int.eq_ofNat_of_zero_le ha.1); subst hR1)
  (refine eE1 (fun n hR1=>?_) (Int.eq_ofNat_of_zero_le hb.1); subst hR1)
  have hp:=List.pairwise_iff_getElem.mp text_nodup
  have hm:m < 70:=by lia
  have hn:n < 70:=by lia
  rcases Nat.lt_trichotomy m n with q | q | q
  · exact absurd (by rw [List.getElem_map, List.getElem_map, List.getElem_range, List.getElem_range]; exact h) (hp m n (by simpa using hm) (by simpa using hn) q)
  · rw [q]
  · exact absurd (by rw [List.getElem_map, List.getElem_map, List.getElem_range, List.getElem_range]; exact h.symm) (hp n m (by simpa using hn) (by simpa using hm) q)
theorem datT_inj {l l':List Int} (h:datT l = datT l') (hl:∀ k ∈ l, 0 ≤ k ∧ k < 70) (hl':∀ k ∈ l', 0 ≤ k ∧ k < 70):l = l':=by
  have e:=Dat.list.inj h
  clear h
  induction l generalizing l' with
  | nil=>cases l' with
    | nil=>rfl
    | cons=>cases e
  | cons a r ih=>cases l' with
    | nil=>cases e
    | cons b r' =>
      rw [List.map_cons, List.map_cons] at e
      refine eA2 (fun e1 e2=>?_) (List.cons.inj e)
      rw [textF_inj (hl a (.head _)) (hl' b (.head _)) (Dat.str.inj e1), ih (fun k hk=>hl k (.tail _ hk)) (fun k hk=>hl' k (.tail _ hk)) e2]
theorem side_eq {codes moved:List Int} {o:Int} {n:Nat} (hp:moved.Perm (upto n)):sideL codes o moved = sideL codes o (upto n) ↔ (sideL codes o moved).Pairwise (· < ·):=by
  constructor
  · intro h
    rw [h]
    exact side_asc
  · intro h
    exact List.Perm.eq_of_pairwise (fun a b _ _ h1 h2=>by lia) h side_asc (hp.filter _)
theorem told_iff {codes moved:List Int} {n:Nat} (hp:moved.Perm (upto n)) (hn:n ≤ 69):[datT (sideL codes 2 moved), datT (sideL codes 1 moved)] = [datT (sideL codes 2 (upto n)), datT (sideL codes 1 (upto n))] ↔ Rises codes moved:=by
  have hb:∀ o, ∀ k ∈ sideL codes o moved, 0 ≤ k ∧ k < 70:=fun o k hk=>by
    have:=mem_upto.mp (hp.mem_iff.mp (mem_side.mp hk).1)
    lia
  have hb':∀ o, ∀ k ∈ sideL codes o (upto n), 0 ≤ k ∧ k < 70:=fun o k hk=>by
    have:=mem_upto.mp (mem_side.mp hk).1
    omega
  constructor
  · intro h
    refine eA2 (fun h1 h2=>?_) (List.cons.inj h)
    (refine eA2 (fun h2 hC1=>?_) (List.cons.inj h2); clear hC1)
    exact ⟨(side_eq hp).mp (datT_inj h1 (hb _) (hb' _)), (side_eq hp).mp (datT_inj h2 (hb _) (hb' _))⟩
  · ((refine eA2 fun h1 h2=>?_))
    rw [(side_eq hp).mpr h1, (side_eq hp).mpr h2]
theorem moved_perm {l:List Int} {a b:Nat} (hb:b < l.length):(movedF l a b).Perm l:=by
  unfold movedF
  have e:l.getD b 0 = l[b]:=by rw [List.getD_eq_getElem?_getD, List.getElem?_eq_getElem hb]; rfl
  rw [e]
  refine List.perm_middle.trans ?_
  rw [List.take_append_drop]
  have h:l = l.take b ++ l[b] :: l.drop (b + 1):=by rw [List.getElem_cons_drop, List.take_append_drop]
  conv=>rhs; rw [h]
  exact List.perm_middle.symm
theorem moved_disp {codes l:List Int} {a b:Nat} {o:Int} (hb:b < l.length) (hl:(sideL codes o l).Pairwise (· < ·)) (hnd:l.Nodup):Disp (sideL codes o (movedF l a b)) ∨ (sideL codes o (movedF l a b)).Pairwise (· < ·):=by
  have h:l = l.take b ++ l[b] :: l.drop (b + 1):=by rw [List.getElem_cons_drop, List.take_append_drop]
  have e:l.getD b 0 = l[b]:=by rw [List.getD_eq_getElem?_getD, List.getElem?_eq_getElem hb]; rfl
  unfold movedF
  rw [e]
  generalize l[b] = k at h ⊢
  generalize l.take b = p at h ⊢
  generalize l.drop (b + 1) = q at h ⊢
  subst h
  generalize hz:p ++ q = z
  have hk:k ∉ z:=by
    rw [← hz]
    have:=(List.perm_middle (a:=k) (l₁:=p) (l₂:=q)).nodup_iff.mp hnd
    exact (List.nodup_cons.mp this).1
  have hs:(sideL codes o z).Pairwise (· < ·):=by
    rw [← hz]
    refine hl.sublist (List.Sublist.filter _ ?_)
    exact (List.Sublist.refl p).append (List.sublist_cons_self k q)
  have ht:sideL codes o z = sideL codes o (z.take a) ++ sideL codes o (z.drop a):=by
    unfold sideL
    rw [← List.filter_append, List.take_append_drop]
  unfold sideL at ht hs ⊢
  rw [List.filter_append, List.filter_cons]
  split
  · left
    refine (iE3 _ k _ ⟨rfl, by rw [← ht]; exact hs, ?_⟩)
    rw [← ht]
    exact fun h=>hk (List.mem_filter.mp h).1
  · right
    rw [← ht]
    exact hs
theorem disp_asc {l:List Int} (h:l.Pairwise (· < ·)) (hn:l ≠ []):Disp l:=by
  cases l with
  | nil=>exact absurd rfl hn
  | cons k q =>
    refine (iE3 ([]) k q ⟨rfl, (List.pairwise_cons.mp h).2, fun hm=>?_⟩)
    have:=(List.pairwise_cons.mp h).1 k hm
    lia
end
section
open PySem PySem.W PyProof.Rows PySem.Challenge PySem.Spec PySem.Calls
theorem kqdEq {prog:Program} {w:World} {A:Around} {E:Value→Shared→Prop} {Q:Value→Shared→Prop} {s:Shared} {h₀:Heap} {L a b:Addr} {news:List (Addr × Obj)} {xs ys:List Value} {ds es:List Dat} {ka kb:Nat} (N:News h₀ L s.heap news) (ma:(a, listOf xs.toArray ka) ∈ news) (Da:DatAll news xs ds)
    (mb:(b, listOf ys.toArray kb) ∈ news) (Db:DatAll news ys es) (ha:∀ d ∈ ds, kqdOk 8 d = true) (hb:∀ d ∈ es, kqdOk 8 d = true) (hu:A.units + 64 < cLine) (h:∀ c:Bool, (c = true ↔ ds = es)→Q (.bool c) s):wpAny (model prog w) A (compareOp .Eq (.ref a) (.ref b)) Q E s :=
  kqd_eq N ma rfl rfl Da (fun _ h=>h) mb rfl rfl Db (fun _ h=>h) ha hb hu (h _ (by simp only [decide_eq_true_eq]))
local macro_rules | `(tactic| walk_at $s)=>Tab.rules s "compareOp Eq ref ref|halt
call ref|haltC|456
call ref|haltC|468"
theorem law_t3 {w:World} {dp un:Nat} {gd:Option (List Code)} {outer:List Env} {A₀:Around} {base g₀ h₀ hp:Heap} {L fa cd od md S TD s1 s2:Addr} {cdv:Value} {gs:Array GenState} {dr:Drawn} {tk0:Nat} {os:OsState} {Q:Flow→Shared→Prop} {E:Value→Shared→Prop}
    {mean:ExcName→Option Value} {mg mb:Str→Option Value} {led:List (Addr × Obj)} {mr:Str→Option Value} {moved codes:List Int} {vm vc v1 v2:List Value} {nm nc:Nat} {x n:Int} {tx tn:Tok} {b:Bool} {sv:Option Value}
    (G:Gr (K2 w.params) q2 (looseW q2 loose2) mean mg mb A₀ base outer g₀ h₀) (XB:(K2 w.params).In base) (TB:Top q2 (looseW q2 loose2) mean mg mb base) (F:Fr h₀ L hp (lawN b md sv (lawM x tx n tn S TD mr))) (Nw:News h₀ L hp led)
    (hE:PassesOwn (model rw_mu0013_01.row.prog w) (lawA dp un gd L fa cdv outer) (lawE L fa cdv) E)
    (hmd:(md, listOf vm.toArray nm) ∈ led) (hcd:(cd, listOf vc.toArray nc) ∈ led) (hC:CellsL L cd (some (.ref od)) led)
    (hS:(S, LCg.lst [.ref s1, .ref s2]) ∈ led) (hs1:(s1, LCg.lst v1) ∈ led) (hs2:(s2, LCg.lst v2) ∈ led) (hi1:IntsAre v1 (sideL codes 2 (upto codes.length))) (hi2:IntsAre v2 (sideL codes 1 (upto codes.length))) (hTD:ToldL codes (upto codes.length) TD led)
    (him:IntsAre vm moved) (hic:IntsAre vc codes) (hperm:moved.Perm (upto codes.length)) (hco:∀ c ∈ codes, c = 0 ∨ c = 1 ∨ c = 2) (hpos:0 < codes.length) (hN:codes.length ≤ 69) (hb:b = true ↔ Rises codes moved) (hgb:AllBare gs)
    (hd:dp + 400 < recursionLimit) (hu:un + 5000 < cLine)
    (next:∀ g' od' h' tk' gs' led', AllBare gs'→Gr (K2 w.params) q2 (looseW q2 loose2) mean mg mb A₀ base outer g₀ g'→Fr g' L h' (lawN b md sv (lawM x tx n tn S TD mr))→News g' L h' led'→(∀ q ∈ led, q.1 ≠ L + 2→q ∈ led')→CellsL L cd (some (.ref od')) led'→(Rises codes moved ∧ od' = md ∨ ¬ Rises codes moved ∧ od' = od)→Q .next ⟨h', gs', dr, tk', os⟩) :
    wpAny (model rw_mu0013_01.row.prog w) (lawA dp un gd L fa cdv outer) (execs ((forBody lawFor).drop 4) (lawE L fa cdv)) Q E ⟨hp, gs, dr, tk0, os⟩:=by
  obtain ⟨TT, B, X₀, T, DD⟩:=G
  revert X₀
  w_on
  k_fill
  intro X
  have hb9:=Eq.refl ((forBody lawFor).drop 4)
  conv at hb9=>rhs; whnf
  rw [hb9]
  clear hb9
  have hml:moved.length = codes.length:=by rw [hperm.length_eq]; simp [upto]
  have hmr:∀ j ∈ moved, 0 ≤ j ∧ j < (codes.length:Int):=fun j hj=>mem_upto.mp (hperm.mem_iff.mp hj)
  have hcv:∀ j:Int, 0 ≤ j→j < (codes.length:Int)→cAt codes j = 0 ∨ cAt codes j = 1 ∨ cAt codes j = 2:=fun j h0 h1=>by
    unfold cAt
    rw [List.getD_eq_getElem?_getD, List.getElem?_eq_getElem (show j.toNat < codes.length by lia)]
    exact hco _ (List.getElem_mem _)
  (revert hTD; refine eE7 fun T1 T2 u1 u2 n0 n1 n2=>?_; refine eA5 fun ta tb tc td te=>?_)
  obtain ⟨⟨oc, mc, ec⟩, ⟨o1, m1, e1⟩, ⟨ot, vt, mt, et⟩⟩:=hC
  w_strict (
    (have mk:=kstMark)
    k_steps
    (unfold Halt)
    (refine' worked_tells B F Nw T XB TB DD rfl hmd hcd hS hs1 hs2 him hic hi1 hi2 hcv hN hperm hgb ?d1 ?d2 ?r1 X)
    (case d1=>lia)
    (case d2=>lia)
    (case r1 =>
      intro b1 g1 h1 gs1 tk1 led1 hg1 T1' F1 N1 k1 B1 X1 P1 D1 hb1
      (have ebb:b1 = b:=by
        rw [Bool.eq_iff_iff, hb1, hb])
      subst ebb
      (have hmd1:=k1 _ hmd)
      (have hcd1:=k1 _ hcd)
      (have mc1:=k1 _ mc)
      (have m11:=k1 _ m1)
      (have mt1:=k1 _ mt)
      (have tt:=TT.trans T1')
      clear B F Nw T X DD
      (have eqb:(b1 != b1) = false:=bne_self_eq_false b1)
      k_steps
      (unfold Halt)
      (refine' told_tells B1 F1 N1 P1 rfl hmd1 hcd1 him hic hml hpos hmr hco hN hg1 ?d3 ?d4 ?r2 X1)
      (case d3=>lia)
      (case d4=>lia)
      (case r2 =>
        intro h2 tk2 gs2 led2 TD2 U1 U2 w1 w2 c0 c1 c2 hg2 F2 N2 k2 a1 a2 a3 a4 a5
        (have mc2:=k2 _ mc1)
        (have m12:=k2 _ m11)
        (have mt2:=k2 _ mt1)
        clear F1 N1
        k_steps
        (unfold Halt)
        (have up2:∀ q ∈ led, q ∈ led2:=fun q hq=>k2 _ (k1 _ hq))
        (have n3:∀ q ∈ led, q.1 ≠ L + 2→∀ o', q ∈ upL (L + 2) o' led2:=fun q hq hn o'=>mem_upL_ne (up2 q hq) hn)
        (have okM:∀ o:Int, kqdOk 8 (datT (sideL codes o moved)) = true:=fun o=>datT_ok fun k hk=>by
          have:=hmr k (List.mem_filter.mp hk).1
          lia)
        (have okU:∀ o:Int, kqdOk 8 (datT (sideL codes o (upto codes.length))) = true:=fun o=>datT_ok fun k hk=>by
          have:=mem_upto.mp (List.mem_filter.mp hk).1
          omega)
        (refine' kqdEq (xs:=[.ref U1, .ref U2]) (ys:=[.ref T1, .ref T2]) (ds:=[datT (sideL codes 2 moved), datT (sideL codes 1 moved)]) (es:=[datT (sideL codes 2 (upto codes.length)), datT (sideL codes 1 (upto codes.length))]) N2 a1 ?e1 (up2 _ ta) ?e2 (List.forall_mem_cons.mpr ⟨okM 2, List.forall_mem_cons.mpr ⟨okM 1, List.forall_mem_nil _⟩⟩) (List.forall_mem_cons.mpr ⟨okU 2, List.forall_mem_cons.mpr ⟨okU 1, List.forall_mem_nil _⟩⟩) ?d5 ?e3)
        (case e1=>exact DatAll.cons (DatIn.list a2 (datT_all a4)) (DatAll.cons (DatIn.list a3 (datT_all a5)) DatAll.nil))
        (case e2=>exact DatAll.cons (DatIn.list (up2 _ tb) (datT_all td)) (DatAll.cons (DatIn.list (up2 _ tc) (datT_all te)) DatAll.nil))
        (case d5=>ktr_units)
        (case e3 =>
          intro c9 hc9
          (replace hc9:=hc9.trans (told_iff hperm hN))
          by_cases hR:Rises codes moved
          · (obtain rfl:b1 = true:=hb.mpr hR)
            (obtain rfl:c9 = true:=hc9.mpr hR)
            k_steps
            (rename Fr _ _ _ _=>F3)
            (rename News _ _ _ _=>N3)
            (rename Obj=>o3)
            exact next g1 md _ _ _ _ hg2 ⟨tt, B1, X1, P1, D1⟩ F3 N3 (fun q hq hn=>n3 q hq hn _) ⟨⟨oc, n3 _ mc (by simp) _, ec⟩, ⟨o3, mem_upL_self m12, by assumption⟩, (iE2 ot vt ⟨n3 _ mt (by simp) _, et⟩)⟩ (.inl ⟨hR, rfl⟩)
          · (obtain rfl:b1 = false:=Bool.eq_false_iff.mpr fun h=>hR (hb.mp h))
            (obtain rfl:c9 = false:=Bool.eq_false_iff.mpr fun h=>hR (hc9.mp h))
            k_steps
            exact next g1 od _ _ _ led2 hg2 ⟨tt, B1, X1, P1, D1⟩ F2 N2 (fun q hq _=>up2 q hq) ⟨⟨oc, mc2, ec⟩, ⟨o1, m12, e1⟩, (iE2 ot vt ⟨mt2, et⟩)⟩ (.inr ⟨hR, rfl⟩)))))
end
section
open PySem PySem.W PyProof.Rows PySem.Challenge PySem.Spec PySem.Calls
structure CodesOk (codes:List Int):Prop where
  e:∃ cs, codes = cs ++ [1, 1, 2, 0, 0, 2] ∧ cs.length ≤ 63
  v:∀ c ∈ codes, c = 0 ∨ c = 1 ∨ c = 2
theorem CodesOk.pos {codes:List Int} (h:CodesOk codes):0 < codes.length:=by
  (refine eE1 (fun cs=>?_) h.e; refine eA2 fun hR1 _=>?_; subst hR1)
  simp
theorem CodesOk.le {codes:List Int} (h:CodesOk codes):codes.length ≤ 69:=by
  (refine eE1 (fun cs=>?_) h.e; refine eA2 fun hR1 _=>?_; subst hR1)
  simp
  lia
theorem map_upto (codes:List Int):(upto codes.length).map (cAt codes) = codes:=by
  unfold upto cAt
  rw [List.map_map]
  apply List.ext_getElem
  · simp
  · intro i h1 h2
    simp [List.getD_eq_getElem?_getD, h2]
theorem side_len (codes:List Int) (o:Int):(sideL codes o (upto codes.length)).length = (codes.filter fun c=>decide (c ≠ o)).length:=by
  conv=>rhs; rw [← map_upto codes]
  rw [List.filter_map, List.length_map]
  rfl
theorem CodesOk.side {codes:List Int} (h:CodesOk codes) {o:Int} (ho:o = 2 ∨ o = 1):0 < (sideL codes o (upto codes.length)).length ∧ (sideL codes o (upto codes.length)).length ≤ 67:=by
  rw [side_len]
  (refine eE1 (fun cs=>?_) h.e; refine eA2 fun hR1 hc=>?_; subst hR1)
  rw [List.filter_append, List.length_append]
  have h1:(cs.filter fun c=>decide (c ≠ o)).length ≤ 63:=Nat.le_trans (List.length_filter_le _ _) hc
  have h2:(([1, 1, 2, 0, 0, 2]:List Int).filter fun c=>decide (c ≠ o)).length = 4:=by
    rcases ho with rfl | rfl <;> decide
  lia
theorem moved_ok {codes order:List Int} {a b:Nat} (hc:CodesOk codes) (hp:order.Perm (upto codes.length)) (hr:Rises codes order) (hb:b < order.length) {o:Int} (ho:o = 2 ∨ o = 1) :
    (sideL codes o (movedF order a b)).Nodup ∧ Disp (sideL codes o (movedF order a b)) ∧ (sideL codes o (movedF order a b)).length ≤ 67:=by
  have hm:=(moved_perm (a:=a) hb).trans hp
  have hnd:(upto codes.length).Nodup:=upto_asc.imp fun h=>by exact Int.ne_of_lt h
  have hs:(sideL codes o (movedF order a b)).Perm (sideL codes o (upto codes.length)):=hm.filter _
  have hl:=hc.side ho
  refine ⟨(hm.nodup_iff.mpr hnd).sublist List.filter_sublist, ?_, by rw [hs.length_eq]; exact hl.2⟩
  have hro:(sideL codes o order).Pairwise (· < ·):=by
    rcases ho with rfl | rfl
    · exact hr.1
    · exact hr.2
  rcases moved_disp (a:=a) hb hro (hp.nodup_iff.mpr hnd) with h | h
  · exact h
  · exact disp_asc h fun e=>by rw [← hs.length_eq, e] at hl; exact absurd hl.1 (by decide)
structure LawJ (w:World) (mean:ExcName→Option Value) (mg mb:Str→Option Value) (A₀:Around) (base:Heap) (outer:List Env) (g₀:Heap) (L cd S TD:Addr) (codes:List Int) (tn:Tok) (led:List (Addr × Obj)) (g:Heap) (m:Str→Option Value) (c:List (Addr × Obj)):Prop where
  G:Gr (K2 w.params) q2 (looseW q2 loose2) mean mg mb A₀ base outer g₀ g
  mc:m (Str.ofString "count") = some (.int codes.length tn)
  ms:m (Str.ofString "sides") = some (.ref S)
  mt:m (Str.ofString "told") = some (.ref TD)
  keep:∀ q ∈ led, q ∈ c
  ord:∃ od order vo no, (od, listOf (List.toArray vo) no) ∈ c ∧ IntsAre vo order ∧ order.Perm (upto codes.length) ∧ Rises codes order ∧ CellsL L cd (some (.ref od)) c
theorem law_turn {w:World} {dp un:Nat} {gd:Option (List Code)} {outer:List Env} {A₀:Around} {base g₀ g h:Heap} {L fa cd S TD s1 s2 I:Addr} {cdv:Value} {gs:Array GenState} {dr:Drawn} {tk0:Nat} {os:OsState} {Q:Flow→Shared→Prop} {E:Value→Shared→Prop}
    {mean:ExcName→Option Value} {mg mb:Str→Option Value} {led c:List (Addr × Obj)} {m:Str→Option Value} {codes:List Int} {vc v1 v2:List Value} {nc:Nat} {x:Int} {tx tn:Tok} {oI:Obj}
    (XB:(K2 w.params).In base) (TB:Top q2 (looseW q2 loose2) mean mg mb base)
    (hE:PassesOwn (model rw_mu0013_01.row.prog w) (lawA dp un gd L fa cdv outer) (lawE L fa cdv) E)
    (hcd:(cd, listOf vc.toArray nc) ∈ led) (hS:(S, LCg.lst [.ref s1, .ref s2]) ∈ led) (hs1:(s1, LCg.lst v1) ∈ led) (hs2:(s2, LCg.lst v2) ∈ led) (hi1:IntsAre v1 (sideL codes 2 (upto codes.length))) (hi2:IntsAre v2 (sideL codes 1 (upto codes.length))) (hTD:ToldL codes (upto codes.length) TD led)
    (hic:IntsAre vc codes) (hc:CodesOk codes) (hoff:∀ q ∈ led, q.1 ≠ L + 2 ∧ q.1 ≠ L + 3) (hgb:AllBare gs)
    (hd:dp + 400 < recursionLimit) (hu:un + 5000 < cLine)
    (J:LawJ w mean mg mb A₀ base outer g₀ L cd S TD codes tn led g m c) (hI:∀ q ∈ c, q.1 ≠ I)
    (F:Fr g L h (fun y=>if y = Str.ofString "x" then some (.int x tx) else m y)) (N:News g L h ((I, oI) :: c)) :
    wpAny (model rw_mu0013_01.row.prog w) (lawA dp un gd L fa cdv outer) (execs (forBody lawFor) (lawE L fa cdv)) (KtgPost L (LawJ w mean mg mb A₀ base outer g₀ L cd S TD codes tn led) I oI dr os Q) E ⟨h, gs, dr, tk0, os⟩:=by
  obtain ⟨G, mc, ms, mt, keep, od, order, vo, no, hod, hio, hperm, hris, hC⟩:=J
  have F0:Fr g L h (lawM x tx codes.length tn S TD m):=fr_as F _ (by
    funext z
    unfold lawM
    by_cases h1:z = Str.ofString "x"
    · rw [if_pos h1, if_pos h1]
    rw [if_neg h1, if_neg h1]
    by_cases h2:z = Str.ofString "count"
    · rw [if_pos h2, h2, mc]
    rw [if_neg h2]
    by_cases h3:z = Str.ofString "sides"
    · rw [if_pos h3, h3, ms]
    rw [if_neg h3]
    by_cases h4:z = Str.ofString "told"
    · rw [if_pos h4, h4, mt]
    · rw [if_neg h4])
  clear F
  have hol:order.length = codes.length:=by rw [hperm.length_eq]; simp [upto]
  obtain ⟨⟨oc, c1, ec⟩, ⟨o1, c2, e1⟩, ⟨ot, vt, c3, et⟩⟩:=hC
  have hI2:I ≠ L + 2:=fun e=>hI _ c2 e.symm
  have hI3:I ≠ L + 3:=fun e=>hI _ c3 e.symm
  have hp:=hc.pos
  have hN:=hc.le
  have od3:od ≠ L + 3:=news_neo N (.tail _ hod) (.tail _ c3) fun e=>by dsimp only at e; rw [← e] at et; cases et
  refine law_t1 G.K F0 N G.P hE (.tail _ hod) (.tail _ c2) e1 hio (by rw [hol]) (by exact Nat.lt_of_lt_of_eq hp (id (Eq.symm hol))) (by exact le_of_eq_of_le hol hN) (by lia) (by lia) (fun md vm nm h1 tk1 led1 a b F1 N1 k1 hmd hvm ha hb hlt=>?_) G.X
  have up:∀ q ∈ led, q ∈ led1:=fun q hq=>k1 _ (.tail _ (keep q hq))
  have hmo:=fun (o:Int) (ho:o = 2 ∨ o = 1)=>moved_ok (a:=a) hc hperm hris hb ho
  have hmp:=(moved_perm (a:=a) hb).trans hperm
  have hml:(movedF order a b).length = codes.length:=by rw [hmp.length_eq]; simp [upto]
  have md3:md ≠ L + 3:=news_neo N1 hmd (k1 _ (.tail _ c3)) fun e=>by dsimp only at e; rw [← e] at et; cases et
  have md2:md ≠ L + 2:=news_neo N1 hmd (k1 _ (.tail _ c2)) fun e=>by dsimp only at e; rw [← e] at e1; cases e1
  generalize hmv:movedF order a b = moved at hvm hmo hmp hml
  refine law_t2 G.K F1 N1 G.P hE hmd (up _ hcd) ⟨⟨oc, k1 _ (.tail _ c1), ec⟩, ⟨o1, k1 _ (.tail _ c2), e1⟩, (iE2 ot vt ⟨k1 _ (.tail _ c3), et⟩)⟩ hvm hic (fun j hj=>mem_upto.mp (hmp.mem_iff.mp hj)) hN (by exact le_of_eq_of_le hml hN) hmo (by lia) (by lia) (fun b' sv h2 tk2 led2 F2 N2 k2 hC2 hb'=>?_) G.X
  have up2:∀ q ∈ led, q ∈ led2:=fun q hq=>k2 _ (up q hq) (hoff q hq).2
  have hTD2:ToldL codes (upto codes.length) TD led2:=by
    (revert hTD; refine eE7 fun T1 T2 u1 u2 n0 n1 n2=>?_; refine eA5 fun ta tb tc td te=>?_)
    exact (iE7 T1 T2 u1 u2 n0 n1 n2 ⟨up2 _ ta, up2 _ tb, up2 _ tc, td, te⟩)
  refine law_t3 G XB TB F2 N2 hE (k2 _ hmd md3) (up2 _ hcd) hC2 (up2 _ hS) (up2 _ hs1) (up2 _ hs2) hi1 hi2 hTD2 hvm hic hmp hc.v hp hN hb' hgb hd hu (fun g3 od3' h3 tk3 gs3 led3 hg3 G3 F3 N3 k3 hC3 hor=>?_)
  obtain ⟨⟨pc, d1, f1⟩, ⟨p1, d2, f2⟩, ⟨pt, ut, d3, f3⟩⟩:=hC3
  have fl:∀ q ∈ led3, q.1 ≠ I→q ∈ led3.filter fun p=>decide (p.1 ≠ I):=fun q hq hn=>mem_filt hq hn
  have back:∀ q ∈ (I, oI) :: c, q.1 ≠ L + 2→q.1 ≠ L + 3→q ∈ led3:=fun q hq n2 n3=>k3 _ (k2 _ (k1 _ hq) n3) n2
  have n1I:L + 1 ≠ I:=fun e=>hI _ c1 e
  refine (iE6 g3 _ (led3.filter fun p=>decide (p.1 ≠ I)) h3 gs3 tk3 ⟨rfl, hg3, F3, fun p hp=>?_, fun q hq=>of_decide_eq_true (List.mem_filter.mp hq).2, G3, by with_unfolding_all rfl, by with_unfolding_all rfl, by with_unfolding_all rfl, fun q hq=>fl _ (k3 _ (up2 q hq) (hoff q hq).1) (hI _ (keep q hq)), ?_⟩)
  · rcases List.mem_cons.mp hp with rfl | hp
    · exact N3 _ (back _ (.head _) hI2 hI3)
    · exact N3 _ (List.mem_filter.mp hp).1
  · have hC4:CellsL L cd (some (.ref od3')) (led3.filter fun p=>decide (p.1 ≠ I)):=⟨⟨pc, fl _ d1 n1I, f1⟩, ⟨p1, fl _ d2 (Ne.symm hI2), f2⟩, (iE2 pt ut ⟨fl _ d3 (Ne.symm hI3), f3⟩)⟩
    rcases hor with ⟨hR, rfl⟩ | ⟨hR, rfl⟩
    · refine (iE4 _ moved vm nm ⟨fl _ (k3 _ (k2 _ hmd md3) md2) (Nat.ne_of_gt (hlt _ (.head _))), hvm, hmp, hR, hC4⟩)
    · have od2:od3' ≠ L + 2:=news_neo N (.tail _ hod) (.tail _ c2) fun e=>by dsimp only at e; rw [← e] at e1; cases e1
      exact (iE4 _ order vo no ⟨fl _ (back _ (.tail _ hod) od2 od3) (hI _ hod), hio, hperm, hris, hC4⟩)
end
section
open PySem PySem.W PyProof.Rows PySem.Challenge PySem.Spec PySem.Calls
local macro_rules | `(tactic| walk_at $s)=>Tab.rules s "execs cons|execs|5
execs cons|execm|7|JMark"
local macro_rules | `(tactic| walk_at $s)=>Tab.rules s "none 9"
theorem law_p {w:World} {dp un:Nat} {gd:Option (List Code)} {outer:List Env} {A₀:Around} {base h₀ hp:Heap} {L fa l:Addr} {cdv:Value} {gs:Array GenState} {dr:Drawn} {tk0:Nat} {os:OsState} {Q:Flow→Shared→Prop} {E:Value→Shared→Prop}
    {mean:ExcName→Option Value} {mg mb:Str→Option Value} {m₀:Str→Option Value} {o1 o2 o3:Obj} {vs:List Value} {ns:List Int}
    (B:Below A₀ base outer h₀) (F:Fr h₀ L hp (fun y=>if y = Str.ofString "script" then some (.ref l) else m₀ y)) (N:News h₀ L hp [(L + 3, o3), (L + 2, o2), (L + 1, o1)]) (T:Top q2 (looseW q2 loose2) mean mg mb h₀)
    (hE:PassesOwn (model rw_mu0013_01.row.prog w) (lawA dp un gd L fa cdv outer) (lawE L fa cdv) E)
    (e1:o1.data = .cell none) (e2:o2.data = .cell none) (e3:o3.data = .cell none) (hl:h₀.IsList l vs.toArray) (hi:IntsAre vs ns) (hlen:ns.length ≤ 63) (hd:dp + 400 < recursionLimit) (hu:un + 5000 < cLine)
    (next:∀ sl ws cd vc (sc codes:List Int) h' tk' led' o1', Fr h₀ L h' (fun y=>if y = Str.ofString "script" then some (.ref sl) else m₀ y)→News h₀ L h' led'→(sl, listOf (List.toArray ws) 0) ∈ led'→IntsAre ws sc→sc.length ≤ 63→(cd, listOf (List.toArray vc) 0) ∈ led'→IntsAre vc codes→CodesOk codes→(L + 1, o1') ∈ led'→o1'.data = .cell (some (.ref cd))→(L + 2, o2) ∈ led'→(L + 3, o3) ∈ led' →
      wpAny (model rw_mu0013_01.row.prog w) (lawA dp un gd L fa cdv outer) (execs ((bodyOf (top 20)).drop 2) (lawE L fa cdv)) Q E ⟨h', gs, dr, tk', os⟩) :
    (K2 w.params).In h₀→wpAny (model rw_mu0013_01.row.prog w) (lawA dp un gd L fa cdv outer) (execs (bodyOf (top 20)) (lawE L fa cdv)) Q E ⟨hp, gs, dr, tk0, os⟩:=by
  w_on
  k_fill
  intro X
  have hb:=Eq.refl (bodyOf (top 20))
  conv at hb=>rhs; whnf
  rw [hb]
  clear hb
  have hvl:=IntsAre.length hi
  w_strict (
    (have mk:=kstMark)
    (have jm:=jMark)
    k_steps
    (unfold Halt)
    (rename_i ts8 ts7 D ws h5 hI5 hC5 hL5 l5 h6 F6 N6)
    (have hsc:(List.take 63 ns).length ≤ 63:=by lia)
    (clear hC5 hL5)
    (generalize List.take 63 ns = sc at hI5 hsc)
    (have hvw:=hI5.length)
    (refine' LCg.ListComp_U (cl:=[]) F6 ?z1 ?z2 ?z3 ?z4 ?z5 ?z6)
    (case z1=>with_unfolding_all rfl)
    (case z2=>decide)
    (case z3=>rfl)
    (case z4=>decide)
    (case z5=>rfl)
    (case z6 =>
      k_steps
      (unfold Halt)
      (refine' LCg.CompSrc.ledger rfl F6 N6 (.head _) (by rw [List.size_toArray, sizeLine_eq]; lia) (fun g0=>?q2))
      rw [List.size_toArray]
      (refine' compU_ind (fun i ys=>IntsAre ys ((sc.take i).map fun x=>x.fmod 3)) ws.length ?q3 ?q4 _ 0 [] (Nat.zero_add _) .nil)
      (case q4 =>
        intro k i ys hi9 hy hrest
        (refine' LCg.CompRest.succ ?q5)
        intro v I oI C oC D2 m2 h tk E2 hv hC hxm F7 N7 off ne
        (have hlt:i < sc.length:=by lia)
        (refine eE1 (fun tv ht=>?_) (hI5.get i sc[i] (by simp [hlt])))
        (obtain rfl:v = .int sc[i] tv:=by
          rw [List.getElem?_toArray, ht] at hv
          exact (Option.some.inj hv).symm)
        clear F6 N6
        k_steps
        (unfold Halt)
        (rename Fr _ _ _ _=>F8)
        (rename News _ _ _ _=>N8)
        exact LCg.CompEnd.intro F8 N8 _ (fun p hp=>hp) off (.inr ⟨_, .head _, rfl, _, rfl⟩) (hrest _ (by rw [List.take_add_one, List.getElem?_eq_getElem hlt, List.map_append]; exact ints_snoc hy)))
      (case q3 =>
        intro ys hy R h8 tk8 F8 N8 o8
        rw [hvw, List.take_length] at hy
        clear F6 N6
        dsimp only at F8 N8 ⊢
        (have hcs:(sc.map fun x=>x.fmod 3).length ≤ 63:=by rw [List.length_map]; exact hsc)
        (have hcv:∀ c ∈ sc.map (fun x=>x.fmod 3), c = 0 ∨ c = 1 ∨ c = 2:=fun c hc=>by
          (refine eE1 (fun x=>?_) (List.mem_map.mp hc); refine eA2 fun _ hR2=>?_; subst hR2)
          have h0:=Int.fmod_nonneg_of_pos x (show (0:Int) < 3 by decide)
          have h1:=Int.fmod_lt_of_pos x (show (0:Int) < 3 by decide)
          lia)
        (generalize sc.map (fun x=>x.fmod 3) = cs at hy hcs hcv)
        (have hyl:=hy.length)
        k_steps
        (unfold Halt)
        (rename_i l6 h9 l7 cd vc h10 F9 N9 hI9 l8 h11 o9 F10 N10 d10)
        (have n1:∀ a:Addr, L + 1 < a→a ≠ L + 1:=fun a h=>Nat.ne_of_gt h)
        (refine' next D ws cd vc sc (cs ++ [1, 1, 2, 0, 0, 2]) h11 _ _ o9 (fr_as F10 _ ?f1) N10 (mem_upL_ne (.tail _ (.tail _ (.tail _ (.head _)))) (n1 _ l5.2.2)) hI5 hsc (mem_upL_ne (.head _) (n1 _ l8.2.2.2.2.2)) hI9 ⟨⟨cs, rfl, hcs⟩, ?f2⟩ (mem_upL_self (.tail _ (.tail _ (.tail _ (.tail _ (.tail _ (.tail _ (.head _)))))))) d10 (mem_upL_ne (.tail _ (.tail _ (.tail _ (.tail _ (.tail _ (.head _)))))) (by simp)) (mem_upL_ne (.tail _ (.tail _ (.tail _ (.tail _ (.head _))))) (by simp)))
        (case f1 =>
          funext z
          by_cases hz:z = Str.ofString "script"
          · rw [if_pos hz, if_pos hz]
          · rw [if_neg hz, if_neg hz, if_neg hz])
        (case f2 =>
          intro c hc
          rcases List.mem_append.mp hc with hc | hc
          · exact hcv c hc
          · simp only [List.mem_cons, List.not_mem_nil, or_false] at hc
            lia))))
end
section
open PySem PySem.W PyProof.Rows PySem.Challenge PySem.Spec PySem.Calls
local macro_rules | `(tactic| walk_at $s)=>Tab.rules s "execs cons|execs|5
call builtin:len||kst_len|amsl?|w"
theorem law_q {w:World} {dp un:Nat} {gd:Option (List Code)} {outer:List Env} {A₀:Around} {base h₀ hp:Heap} {L fa cd:Addr} {cdv:Value} {gs:Array GenState} {dr:Drawn} {tk0:Nat} {os:OsState} {Q:Flow→Shared→Prop} {E:Value→Shared→Prop}
    {mean:ExcName→Option Value} {mg mb:Str→Option Value} {m:Str→Option Value} {o1 o2 o3:Obj} {led:List (Addr × Obj)} {vc:List Value} {codes:List Int}
    (B:Below A₀ base outer h₀) (F:Fr h₀ L hp m) (N:News h₀ L hp led) (T:Top q2 (looseW q2 loose2) mean mg mb h₀)
    (hE:PassesOwn (model rw_mu0013_01.row.prog w) (lawA dp un gd L fa cdv outer) (lawE L fa cdv) E)
    (hcd:(cd, listOf (List.toArray vc) 0) ∈ led) (hic:IntsAre vc codes) (hc:CodesOk codes) (m1:(L + 1, o1) ∈ led) (e1:o1.data = .cell (some (.ref cd))) (m2:(L + 2, o2) ∈ led) (e2:o2.data = .cell none) (m3:(L + 3, o3) ∈ led) (e3:o3.data = .cell none) (hd:dp + 400 < recursionLimit) (hu:un + 5000 < cLine)
    (next:∀ od vo no tn h' tk' led', Fr h₀ L h' (fun y=>if y = Str.ofString "count" then some (.int codes.length tn) else m y)→News h₀ L h' led'→(∀ q ∈ led, q.1 ≠ L + 2→q ∈ led')→(od, listOf (List.toArray vo) no) ∈ led'→IntsAre vo (upto codes.length)→CellsL L cd (some (.ref od)) led' →
      wpAny (model rw_mu0013_01.row.prog w) (lawA dp un gd L fa cdv outer) (execs ((bodyOf (top 20)).drop 4) (lawE L fa cdv)) Q E ⟨h', gs, dr, tk', os⟩) :
    (K2 w.params).In h₀→wpAny (model rw_mu0013_01.row.prog w) (lawA dp un gd L fa cdv outer) (execs ((bodyOf (top 20)).drop 2) (lawE L fa cdv)) Q E ⟨hp, gs, dr, tk0, os⟩:=by
  w_on
  k_fill
  intro X
  have hb:=Eq.refl ((bodyOf (top 20)).drop 2)
  conv at hb=>rhs; whnf
  rw [hb]
  clear hb
  have hvl:=IntsAre.length hic
  have hle:=hc.le
  w_strict (
    (have mk:=kstMark)
    k_steps
    (unfold Halt)
    (rename_i h5 e5 h6 tk6 t5 u5 v5 r5 k5 od vo no h7 tk7 F7 N7 l7 hI7 h8 o8 F8 N8 d8)
    (have hI8:IntsAre vo (upto codes.length):=by
      rw [range_upto] at hI7
      have e:leftOf codes.length [] = upto codes.length:=by
        unfold leftOf
        exact List.filter_eq_self.mpr fun a _=>by simp
      rwa [e] at hI7)
    (have n2:od ≠ L + 2:=fun e=>Nat.lt_irrefl _ (e ▸ l7 _ m2))
    exact next od vo no _ h8 _ _ F8 N8 (fun q hq hn=>mem_upL_ne (.tail _ hq) hn) (mem_upL_ne (.head _) n2) hI8 ⟨⟨o1, mem_upL_ne (.tail _ m1) (by simp), e1⟩, ⟨o8, mem_upL_self (.tail _ m2), d8⟩, (iE2 o3 _ ⟨mem_upL_ne (.tail _ m3) (by simp), e3⟩)⟩)
end
section
open PySem PySem.W PyProof.Rows PySem.Challenge PySem.Spec PySem.Calls
local macro_rules | `(tactic| walk_at $s)=>Tab.rules s "pyIter ref|halt
exec For Name BinOp cons nil||forX|?f|w"
local macro_rules | `(tactic| walk_at $s)=>Tab.rules s "none 10"
theorem law_r {w:World} {dp un:Nat} {gd:Option (List Code)} {outer:List Env} {A₀:Around} {base h₀ hp:Heap} {L fa cd sl od S TD s1 s2:Addr} {cdv:Value} {gs:Array GenState} {dr:Drawn} {tk0:Nat} {os:OsState} {Q:Flow→Shared→Prop} {E:Value→Shared→Prop}
    {mean:ExcName→Option Value} {mg mb:Str→Option Value} {led:List (Addr × Obj)} {m:Str→Option Value} {codes sc:List Int} {ws vo vc v1 v2:List Value} {n1 n2 n3:Nat} {tn:Tok}
    (G:Gr (K2 w.params) q2 (looseW q2 loose2) mean mg mb A₀ base outer h₀ h₀) (XB:(K2 w.params).In base) (TB:Top q2 (looseW q2 loose2) mean mg mb base) (F:Fr h₀ L hp (fun z=>if z = Str.ofString "told" then some (.ref TD) else if z = Str.ofString "sides" then some (.ref S) else if z = Str.ofString "count" then some (.int codes.length tn) else if z = Str.ofString "script" then some (.ref sl) else m z)) (N:News h₀ L hp led)
    (hE:PassesOwn (model rw_mu0013_01.row.prog w) (lawA dp un gd L fa cdv outer) (lawE L fa cdv) E)
    (hsl:(sl, listOf (List.toArray ws) n1) ∈ led) (hws:IntsAre ws sc) (hsc:sc.length ≤ 63) (hcd:(cd, listOf vc.toArray n2) ∈ led) (hod:(od, listOf vo.toArray n3) ∈ led) (hC:CellsL L cd (some (.ref od)) led)
    (hS:(S, LCg.lst [.ref s1, .ref s2]) ∈ led) (hs1:(s1, LCg.lst v1) ∈ led) (hs2:(s2, LCg.lst v2) ∈ led) (hi1:IntsAre v1 (sideL codes 2 (upto codes.length))) (hi2:IntsAre v2 (sideL codes 1 (upto codes.length))) (hTD:ToldL codes (upto codes.length) TD led)
    (hio:IntsAre vo (upto codes.length)) (hic:IntsAre vc codes) (hc:CodesOk codes) (hgb:AllBare gs)
    (hd:dp + 400 < recursionLimit) (hu:un + 5000 < cLine)
    (ret:∀ g' h' gs' tk' m' led', AllBare gs'→Gr (K2 w.params) q2 (looseW q2 loose2) mean mg mb A₀ base outer h₀ g'→Fr g' L h' m'→News g' L h' led'→Q (.ret (.bool true)) ⟨h', gs', dr, tk', os⟩) :
    wpAny (model rw_mu0013_01.row.prog w) (lawA dp un gd L fa cdv outer) (execs ((bodyOf (top 20)).drop 7) (lawE L fa cdv)) Q E ⟨hp, gs, dr, tk0, os⟩:=by
  have B:=G.K
  have T:=G.P
  have X₀:=G.X
  revert X₀
  w_on
  k_fill
  intro X
  have hb:=Eq.refl ((bodyOf (top 20)).drop 7)
  conv at hb=>rhs; whnf
  rw [hb]
  clear hb
  have hvl:=IntsAre.length hws
  w_strict (
    (have mk:=kstMark)
    k_steps
    (unfold Halt)
    (rename_i t5 tk5 lz h5 l5 D wd h6 F6 N6 hI6 l6)
    (obtain ⟨⟨oc, mc, ec⟩, ⟨o1, m1, e1⟩, ⟨ot, vt, mt, et⟩⟩:=id hC)
    (have lD:=fun q hq=>ktn_ltOf l6.2 q hq)
    (obtain ⟨led0, hled0⟩:∃ led0, led0 = (D, listOf (List.toArray wd) 0) :: led.filter fun p=>decide (p.1 ≠ L + 2 ∧ p.1 ≠ L + 3):=⟨_, rfl⟩)
    (have hin:∀ q ∈ led, q.2 ≠ o1→q.2 ≠ ot→q ∈ led0:=fun q hq x1 x2=>by
      rw [hled0]
      exact .tail _ (List.mem_filter.mpr ⟨hq, decide_eq_true ⟨news_neo N6 (.tail _ (.tail _ hq)) (.tail _ (.tail _ m1)) x1, news_neo N6 (.tail _ (.tail _ hq)) (.tail _ (.tail _ mt)) x2⟩⟩))
    (have hlst:∀ (a:Addr) (xs:Array Value) (k:Nat), (a, listOf xs k) ∈ led→(a, listOf xs k) ∈ led0:=fun a xs k h=>hin _ h (fun e=>by dsimp only at e; rw [← e] at e1; cases e1) (fun e=>by dsimp only at e; rw [← e] at et; cases et))
    (have hoff:∀ q ∈ led0, q.1 ≠ L + 2 ∧ q.1 ≠ L + 3:=fun q hq=>by
      rw [hled0] at hq
      rcases List.mem_cons.mp hq with rfl | hq
      · exact ⟨Nat.ne_of_gt (lD _ m1), Nat.ne_of_gt (lD _ mt)⟩
      · exact of_decide_eq_true (List.mem_filter.mp hq).2)
    (have up:∀ q ∈ led, q ∈ (D, listOf (List.toArray wd) 0) :: (lz, listOf #[.int 0 t5] 0) :: led:=fun q hq=>.tail _ (.tail _ hq))
    (have h0up:∀ q ∈ led0, q ∈ (D, listOf (List.toArray wd) 0) :: (lz, listOf #[.int 0 t5] 0) :: led:=fun q hq=>by
      rw [hled0] at hq
      rcases List.mem_cons.mp hq with rfl | hq
      · exact .head _
      · exact up _ (List.mem_filter.mp hq).1)
    (have hTD0:ToldL codes (upto codes.length) TD led0:=by
      (revert hTD; refine eE7 fun T1 T2 u1 u2 n0 n1 n2=>?_; refine eA5 fun ta tb tc td te=>?_)
      exact (iE7 T1 T2 u1 u2 n0 n1 n2 ⟨hlst _ _ _ ta, hlst _ _ _ tb, hlst _ _ _ tc, td, te⟩))
    (obtain ⟨mm, hmm, F6⟩:∃ mm, (mm (Str.ofString "count") = some (.int codes.length tn) ∧ mm (Str.ofString "sides") = some (.ref S) ∧ mm (Str.ofString "told") = some (.ref TD)) ∧ Fr h₀ L h6 mm:=⟨_, ⟨by with_unfolding_all rfl, by with_unfolding_all rfl, by with_unfolding_all rfl⟩, F6⟩)
    (have hJ:LawJ w mean mg mb A₀ base outer h₀ L cd S TD codes tn led0 h₀ mm ((D, listOf (List.toArray wd) 0) :: (lz, listOf #[.int 0 t5] 0) :: led):=⟨G, hmm.1, hmm.2.1, hmm.2.2, h0up, (iE4 od _ vo n3 ⟨up _ hod, hio, List.Perm.refl _, ⟨side_asc, side_asc⟩, ⟨⟨oc, up _ mc, ec⟩, ⟨o1, up _ m1, e1⟩, (iE2 ot vt ⟨up _ mt, et⟩)⟩⟩)⟩)
    (refine' kx_listT (fun _ g m c=>LawJ w mean mg mb A₀ base outer h₀ L cd S TD codes tn led0 g m c) rfl rfl hE hgb rfl (fun _ _ _ c hj=>hj.keep _ (by rw [hled0]; exact .head _)) F6 N6 hJ ?t1 ?t2)
    (case t1 =>
      intro i v g m9 c h gs9 tk9 I oI hg9 hv hj hI F9 N9
      (obtain ⟨x, hx⟩:∃ x, ([0] ++ sc)[i]? = some x:=by
        have:i < wd.length:=(List.getElem?_eq_some_iff.mp hv).1
        rw [hI6.length] at this
        exact ⟨_, List.getElem?_eq_getElem this⟩)
      (refine eE1 (fun tx hx=>?_) (hI6.get i x hx))
      (rw [hx] at hv)
      (obtain rfl:=Option.some.inj hv)
      change wpAny _ _ (execs (forBody lawFor) _) _ _ _
      (with_reducible refine' law_turn XB TB hE (hlst _ _ _ hcd) (hlst _ _ _ hS) (hlst _ _ _ hs1) (hlst _ _ _ hs2) hi1 hi2 hTD0 hic hc hoff hg9 hd hu hj hI F9 N9))
    (case t2 =>
      intro g m9 c h gs9 tk9 hg9 hj F9 N9
      (have X9:=hj.G.X)
      (have B9:=hj.G.K)
      (have T9:=hj.G.P)
      clear F6 N6 B T X
      k_steps
      exact ret g _ _ _ _ _ hg9 hj.G F9 N9))
end
end
end
end
end Mine.Internal
end
section
open PySem PySem.W PyProof.Rows PySem.Challenge PySem.Spec PySem.Calls
namespace Mine.Internal
theorem law_body {w:World} {dp un:Nat} {gd:Option (List Code)} {outer:List Env} {A₀:Around} {base h₀ hp:Heap} {L fa l:Addr} {cdv:Value} {gs:Array GenState} {dr:Drawn} {tk0:Nat} {os:OsState} {Q:Flow→Shared→Prop} {E:Value→Shared→Prop}
    {mean:ExcName→Option Value} {mg mb:Str→Option Value} {m₀:Str→Option Value} {o1 o2 o3:Obj} {vs:List Value} {ns:List Int}
    (G:Gr (K2 w.params) q2 (looseW q2 loose2) mean mg mb A₀ base outer h₀ h₀) (XB:(K2 w.params).In base) (TB:Top q2 (looseW q2 loose2) mean mg mb base) (F:Fr h₀ L hp (fun y=>if y = Str.ofString "script" then some (.ref l) else m₀ y)) (N:News h₀ L hp [(L + 3, o3), (L + 2, o2), (L + 1, o1)])
    (hE:PassesOwn (model rw_mu0013_01.row.prog w) (lawA dp un gd L fa cdv outer) (lawE L fa cdv) E)
    (e1:o1.data = .cell none) (e2:o2.data = .cell none) (e3:o3.data = .cell none) (hl:h₀.IsList l vs.toArray) (hi:IntsAre vs ns) (hlen:ns.length ≤ 63) (hgb:AllBare gs) (hd:dp + 400 < recursionLimit) (hu:un + 5000 < cLine)
    (ret:∀ g' h' gs' tk' m' led', AllBare gs'→Gr (K2 w.params) q2 (looseW q2 loose2) mean mg mb A₀ base outer h₀ g'→Fr g' L h' m'→News g' L h' led'→Q (.ret (.bool true)) ⟨h', gs', dr, tk', os⟩) :
    wpAny (model rw_mu0013_01.row.prog w) (lawA dp un gd L fa cdv outer) (execs (bodyOf (top 20)) (lawE L fa cdv)) Q E ⟨hp, gs, dr, tk0, os⟩:=by
  with_reducible refine law_p G.K F N G.P hE e1 e2 e3 hl hi hlen hd hu (fun sl ws cd vc sc codes h1 tk1 led1 p1 F1 N1 a1 a2 a3 a4 a5 hc b1 b2 b3 b4=>?_) G.X
  with_reducible refine law_q G.K F1 N1 G.P hE a4 a5 hc b1 b2 b3 e2 b4 e3 hd hu (fun od vo no tn h2 tk2 led2 F2 N2 k2 c1 c2 hC2=>?_) G.X
  have hlf:∀ j ∈ upto codes.length, 0 ≤ j ∧ j < (codes.length:Int):=fun j hj=>mem_upto.mp hj
  have hul:(upto codes.length).length = codes.length:=by simp [upto]
  have hcd2:=k2 _ a4 (news_neo N1 a4 b3 fun e=>by dsimp only at e; rw [← e] at e2; cases e2)
  have hsl2:=k2 _ a1 (news_neo N1 a1 b3 fun e=>by dsimp only at e; rw [← e] at e2; cases e2)
  have d1:dp + 150 < recursionLimit:=by lia
  have d2:un + 2000 < cLine:=by lia
  with_reducible refine law_sides G.K F2 N2 G.P hE c1 hcd2 hC2 c2 a5 hlf hc.le (by rw [hul]; exact hc.le) d1 d2 (fun S s1 s2 v1 v2 h3 tk3 led3 F3 N3 k3 f1 f2 f3 f4 f5=>?_) G.X
  have hC3:CellsL L cd (some (.ref od)) led3:=by
    obtain ⟨⟨oc, mc, ec⟩, ⟨o1, m1, e1⟩, ⟨ot, vt, mt, et⟩⟩:=hC2
    exact ⟨⟨oc, k3 _ mc, ec⟩, ⟨o1, k3 _ m1, e1⟩, (iE2 ot vt ⟨k3 _ mt, et⟩)⟩
  with_reducible refine law_told G.K F3 N3 G.P hE (k3 _ c1) (k3 _ hcd2) hC3 f1 f2 f3 f4 f5 c2 a5 hlf hc.v hc.pos hc.le hul hgb d1 d2 (fun TD h4 gs4 tk4 led4 hg4 F4 N4 k4 hT=>?_) G.X
  have hC4:CellsL L cd (some (.ref od)) led4:=by
    obtain ⟨⟨oc, mc, ec⟩, ⟨o1, m1, e1⟩, ⟨ot, vt, mt, et⟩⟩:=hC3
    exact ⟨⟨oc, k4 _ mc, ec⟩, ⟨o1, k4 _ m1, e1⟩, (iE2 ot vt ⟨k4 _ mt, et⟩)⟩
  exact law_r G XB TB F4 N4 hE (k4 _ (k3 _ hsl2)) a2 a3 (k4 _ (k3 _ hcd2)) (k4 _ (k3 _ c1)) hC4 (k4 _ f1) (k4 _ f2) (k4 _ f3) f4 f5 hT c2 a5 hc hg4 hd hu ret
end Mine.Internal
end
section
open PySem PySem.W PyProof.Rows PySem.Challenge PySem.Spec PySem.Calls
namespace Mine.Internal
theorem end_G {c:ClaimW} {cl:Str→Option Addr} {mean:ExcName→Option Value} {args:List WData} {s₁:Shared} {h:Heap} {g:Array GenState} {d:Drawn} {t:Nat} {b:Bool}
    (k:∀ b o, s₁.heap.get? b = some o→h.get? b = some o) (hr:∀ cls, c.raises args cls = false) (hp:c.post args (.bool b) args = true) (hb:AllBare g) :
    GoodWG c cl mean args s₁ (.ok (.ret (.bool b))) ⟨h, g, d, t, s₁.os⟩ :=
  ⟨.inl (iE3 _ _ ([]) ⟨rfl, hr, ReadsW.bool b, hp, fun _=>⟨List.nodup_nil, fun _ hm=>(nomatch hm)⟩⟩), OldK.of_keep k, rfl, hb⟩
theorem walk2:WalkO q2 loose2 (XL q2 []) (InK K2) rw_mu0013_01.row.toRowW d2 [] fun f vs=>call f vs:=by
  w_on
  have hd2:d2 = ⟨Str.ofString "law", argsOf (top 20), bodyOf (top 20), scopeOf (top 20), ⟨1007, 0, 1027, 15⟩⟩:=rfl
  have ha:=Eq.refl (argsOf (top 20))
  conv at ha=>rhs; whnf
  rw [ha] at hd2
  rw [hd2]
  clear hd2 ha
  k_fill
  intro w s₀ s₁ mg mb G Y fa o pm cd doc dV kV ho hd hcd hD hmg hg args vals as hpre hlay hrd hwl hlo
  have KX:(K2 w.params).In s₁.heap:=Y
  w_strict (
  (have XX:=(Ground.X G).1)
  (have VV:=(Ground.X G).2)
  (refine Ground.open G ?_)
  (intro T BB D TE TW)
  (have TA:=at_of_top T)
  clear hmg
  wrow_args hpre hlay hrd hwl hlo
  all_goals (
    refine enter_call ?_
    w_top on
    have K0:=below_caller (Top.heap T)
    w_call any ho hd hcd hD T F
    clear hd TA
    k_drop
    skip)
  (all_goals try k_fold)
  (rename Below callerA _ _ _=>K0)
  (rename Fr _ _ _ _=>F0)
  (rename News _ _ _ _=>N0)
  (rename Top _ _ _ _ _ _=>T0)
  (rename Heap.IsList _ _ _=>L0)
  (rename IntsAre _ _=>I0)
  (refine' law_body (ns:=_) ⟨KtsTurn.refl, K0, KX, T0, ?zd⟩ KX T0 (fr_as F0 (fun y=>if y = Str.ofString "script" then some _ else none) ?z1) N0 ?z2 ?z3 ?z3' ?z3'' L0 I0 ?z4 ?z8 ?z5 ?z6 ?z7)
  (case zd=>intro b hb; cases hb)
  (case z1=>with_unfolding_all rfl)
  (case z2=>exact PassesOwn.leaving)
  (case z3=>assumption)
  (case z3'=>assumption)
  (case z3''=>assumption)
  (case z4=>(simp only [Int.ofNat_lt] at *; lia))
  (case z8=>exact AllBare.of_eq hg)
  (case z5=>decide)
  (case z6=>decide)
  (case z7 =>
    intro g5 h5 gs5 tk5 m5 led5 hg5 G5 F5 N5
    (dsimp only [qk])
    (refine end_G (fun b o e=>F5.keep b o (G5.T.other b o e (fun hm=>by cases hm))) ?y1 ?y2 hg5)
    (case y1=>exact fun _=>rfl)
    (case y2=>first | rfl | wrow_post)))
end Mine.Internal
end
theorem PySem.Challenge.cw_mu0013_01_holds : PySem.Challenge.rw_mu0013_01.Holds :=
  Mine.Internal.head2 Mine.Internal.walk2
