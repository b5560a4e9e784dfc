import PyProof.Rows.All
import Wide.All
import OpenK.AllK
import Wide.FinOn
import Lean
import PySem.Challenge.RW_rt0071_01
open PySem PySem.Calls PyProof.Rows PySem.W
set_option Elab.async false
set_option maxRecDepth 100000
set_option linter.unusedVariables false
set_option compiler.extract_closed false
namespace Mine
theorem len_le {α : Type} {a : α} {l : List α} (h : Nat.ble (a :: l).length 1000000 = true) : (a :: l).length ≤ 1000000 := Nat.le_of_ble_eq_true h
def mN (k : Lean.Name) (l : List Lean.Syntax) : Lean.Syntax := .node .none k l.toArray
def mA (s : String) : Lean.Syntax := .atom .none s
def mT (k : String) (l : List Lean.Syntax) : Lean.Syntax := mN (`Lean.Parser.Tactic ++ k.toName) l
def mQ (l : List Lean.Syntax) : Lean.Syntax := mT "tacticSeq" [mT "tacticSeq1Indented" [mN `null l]]
def mW (s : String) : Lean.Syntax := mN `PySem.W.tacticWtm_at_ [mA "wtm_at", mN `str [mA ("\"" ++ s ++ "\"")]]
def mB (l : List Lean.Syntax) : Lean.Syntax := mN `Lean.Parser.Term.byTactic [mA "by", mQ l]
def mU : Lean.Syntax := mT "withUnfoldingAll" [mA "with_unfolding_all", mQ [mT "tacticRfl" [mA "rfl"]]]
def mG (c : Char) : Lean.Syntax :=
  if c == '?' then mN `Lean.Parser.Term.syntheticHole [mA "?", mA "_"]
  else mB (if c == 'd' then [mT "decide" [mA "decide", mT "optConfig" [mN `null [mT "configItem" [mT "posConfigItem" [mA "+", Lean.mkIdent `kernel]]]]]]
    else if c == 'k' then [mN `tacticKernel_rfl [mA "kernel_rfl"]]
    else if c == 'u' then [mT "intro" [mA "intro", mN `null [mN `Lean.Parser.Term.hole [mA "_"]]], mA ";", mU]
    else [mW (if c == 'l' then "lk" else if c == 'n' then "lkn" else "gl")])
def mL (s : String) : Lean.Syntax := match s.splitOn ":" with
  | [n, a] => mT "refine'" [mA "refine'", mN `Lean.Parser.Term.app [Lean.mkIdent n.toName, mN `null (a.toList.map mG)]]
  | _ => mT "refine'" [mA "refine'", Lean.mkIdent s.toName]
def mF (l : List Lean.Syntax) : Lean.Syntax := mT "first" [mA "first", mN `null (l.map fun t => mN `group [mA "|", mQ [t]])]
def mR (t : Lean.Syntax) : Lean.Syntax := mT "withReducible" [mA "with_reducible", mQ [t]]
def mac (l : List Lean.Syntax) (s : String) : Lean.Syntax := mR (mF (l ++ (s.splitOn " ").map mL))
def mAs : Lean.Syntax := mT "assumption" [mA "assumption"]
def mS (s : String) : Lean.Syntax := mT "show" [mA "show", match (s.splitOn " ").map fun n => (Lean.mkIdent n.toName : Lean.Syntax) with
  | [f, x] => mN `Lean.Parser.Term.app [f, mN `null [x]]
  | l => l.headD .missing]
local macro_rules
  | `(tactic| wtm_at "lk") => pure (mac [mAs] "lk_here lk_put lk_next:dl lk_putn:dl lk_del:dl lk_appl:l lk_own:nl")
local macro_rules
  | `(tactic| wtm_at "lkn") => pure (mac [mAs] "lkn_put:dn lkn_next:dn lkn_del lkn_dels:n lkn_nil")
local macro_rules
  | `(tactic| wtm_at "gl") => pure (mac [] "g_str g_bytes g_type g_isinstance g_issubclass g_len g_fspath g_get_sep")
local macro_rules
  | `(tactic| wtm_at "ev1") => pure (mQ [mT "failIfSuccess" [mA "fail_if_success", mQ [mR (mF (["V", "List V", "Int", "Option Int", "Bool"].map mS))]], mA ";", mac [] "ev_int ev_str ev_bool ev_none ev_bytes ev_name:ldd ev_glob:kgd ev_bin:??? ev_cmp:??? ev_slice:????? part_n part_s:? sl_str:? ev_not:?? ev_tup:?? ev_lst:?? evl_nil evl_cons:??u t_cmp:??? t_not:? t_op:? bin_add bin_sub bin_and bin_or cmp_lt cmp_gt cmp_le cmp_ge cmp_eqi cmp_nei cmp_eqs cmp_nes cmp_neb cmp_ney tr_bool tr_none tr_int len_le:k"])
theorem ob0_2 {P1 P2 : Prop} {G : Prop} (h : P1 ∧ P2) (k : P1 → P2 → G) : G := k h.1 h.2
theorem ob0_3 {P1 P2 P3 : Prop} {G : Prop} (h : P1 ∧ P2 ∧ P3) (k : P1 → P2 → P3 → G) : G := k h.1 h.2.1 h.2.2
theorem ob0_4 {P1 P2 P3 P4 : Prop} {G : Prop} (h : P1 ∧ P2 ∧ P3 ∧ P4) (k : P1 → P2 → P3 → P4 → G) : G := k h.1 h.2.1 h.2.2.1 h.2.2.2
theorem ob0_5 {P1 P2 P3 P4 P5 : Prop} {G : Prop} (h : P1 ∧ P2 ∧ P3 ∧ P4 ∧ P5) (k : P1 → P2 → P3 → P4 → P5 → G) : G := k h.1 h.2.1 h.2.2.1 h.2.2.2.1 h.2.2.2.2
theorem ob0_8 {P1 P2 P3 P4 P5 P6 P7 P8 : Prop} {G : Prop} (h : P1 ∧ P2 ∧ P3 ∧ P4 ∧ P5 ∧ P6 ∧ P7 ∧ P8) (k : P1 → P2 → P3 → P4 → P5 → P6 → P7 → P8 → G) : G := k h.1 h.2.1 h.2.2.1 h.2.2.2.1 h.2.2.2.2.1 h.2.2.2.2.2.1 h.2.2.2.2.2.2.1 h.2.2.2.2.2.2.2
theorem ob0_9 {P1 P2 P3 P4 P5 P6 P7 P8 P9 : Prop} {G : Prop} (h : P1 ∧ P2 ∧ P3 ∧ P4 ∧ P5 ∧ P6 ∧ P7 ∧ P8 ∧ P9) (k : P1 → P2 → P3 → P4 → P5 → P6 → P7 → P8 → P9 → G) : G := k h.1 h.2.1 h.2.2.1 h.2.2.2.1 h.2.2.2.2.1 h.2.2.2.2.2.1 h.2.2.2.2.2.2.1 h.2.2.2.2.2.2.2.1 h.2.2.2.2.2.2.2.2
theorem ob1_1.{u} {α1 : Sort u} {P1 : α1 → Prop} {G : Prop} (h : ∃ a1, P1 a1) (k : ∀ a1, P1 a1 → G) : G := h.elim fun a1 h => k a1 h
theorem ob1_2.{u} {α1 : Sort u} {P1 P2 : α1 → Prop} {G : Prop} (h : ∃ a1, P1 a1 ∧ P2 a1) (k : ∀ a1, P1 a1 → P2 a1 → G) : G := h.elim fun a1 h => k a1 h.1 h.2
theorem ob1_3.{u} {α1 : Sort u} {P1 P2 P3 : α1 → Prop} {G : Prop} (h : ∃ a1, P1 a1 ∧ P2 a1 ∧ P3 a1) (k : ∀ a1, P1 a1 → P2 a1 → P3 a1 → G) : G := h.elim fun a1 h => k a1 h.1 h.2.1 h.2.2
theorem ob1_4.{u} {α1 : Sort u} {P1 P2 P3 P4 : α1 → Prop} {G : Prop} (h : ∃ a1, P1 a1 ∧ P2 a1 ∧ P3 a1 ∧ P4 a1) (k : ∀ a1, P1 a1 → P2 a1 → P3 a1 → P4 a1 → G) : G := h.elim fun a1 h => k a1 h.1 h.2.1 h.2.2.1 h.2.2.2
theorem ob2_1.{u, v} {α1 : Sort u} {α2 : Sort v} {P1 : α1 → α2 → Prop} {G : Prop} (h : ∃ a1 a2, P1 a1 a2) (k : ∀ a1 a2, P1 a1 a2 → G) : G := h.elim fun a1 h => h.elim fun a2 h => k a1 a2 h
theorem ob2_2.{u, v} {α1 : Sort u} {α2 : Sort v} {P1 P2 : α1 → α2 → Prop} {G : Prop} (h : ∃ a1 a2, P1 a1 a2 ∧ P2 a1 a2) (k : ∀ a1 a2, P1 a1 a2 → P2 a1 a2 → G) : G := h.elim fun a1 h => h.elim fun a2 h => k a1 a2 h.1 h.2
theorem ob2_3.{u, v} {α1 : Sort u} {α2 : Sort v} {P1 P2 P3 : α1 → α2 → Prop} {G : Prop} (h : ∃ a1 a2, P1 a1 a2 ∧ P2 a1 a2 ∧ P3 a1 a2) (k : ∀ a1 a2, P1 a1 a2 → P2 a1 a2 → P3 a1 a2 → G) : G := h.elim fun a1 h => h.elim fun a2 h => k a1 a2 h.1 h.2.1 h.2.2
theorem ob2_4.{u, v} {α1 : Sort u} {α2 : Sort v} {P1 P2 P3 P4 : α1 → α2 → Prop} {G : Prop} (h : ∃ a1 a2, P1 a1 a2 ∧ P2 a1 a2 ∧ P3 a1 a2 ∧ P4 a1 a2) (k : ∀ a1 a2, P1 a1 a2 → P2 a1 a2 → P3 a1 a2 → P4 a1 a2 → G) : G := h.elim fun a1 h => h.elim fun a2 h => k a1 a2 h.1 h.2.1 h.2.2.1 h.2.2.2
theorem ob3_2.{u, v, w} {α1 : Sort u} {α2 : Sort v} {α3 : Sort w} {P1 P2 : α1 → α2 → α3 → Prop} {G : Prop} (h : ∃ a1 a2 a3, P1 a1 a2 a3 ∧ P2 a1 a2 a3) (k : ∀ a1 a2 a3, P1 a1 a2 a3 → P2 a1 a2 a3 → G) : G := h.elim fun a1 h => h.elim fun a2 h => h.elim fun a3 h => k a1 a2 a3 h.1 h.2
theorem ob3_3.{u, v, w} {α1 : Sort u} {α2 : Sort v} {α3 : Sort w} {P1 P2 P3 : α1 → α2 → α3 → Prop} {G : Prop} (h : ∃ a1 a2 a3, P1 a1 a2 a3 ∧ P2 a1 a2 a3 ∧ P3 a1 a2 a3) (k : ∀ a1 a2 a3, P1 a1 a2 a3 → P2 a1 a2 a3 → P3 a1 a2 a3 → G) : G := h.elim fun a1 h => h.elim fun a2 h => h.elim fun a3 h => k a1 a2 a3 h.1 h.2.1 h.2.2
theorem ob3_4.{u, v, w} {α1 : Sort u} {α2 : Sort v} {α3 : Sort w} {P1 P2 P3 P4 : α1 → α2 → α3 → Prop} {G : Prop} (h : ∃ a1 a2 a3, P1 a1 a2 a3 ∧ P2 a1 a2 a3 ∧ P3 a1 a2 a3 ∧ P4 a1 a2 a3) (k : ∀ a1 a2 a3, P1 a1 a2 a3 → P2 a1 a2 a3 → P3 a1 a2 a3 → P4 a1 a2 a3 → G) : G := h.elim fun a1 h => h.elim fun a2 h => h.elim fun a3 h => k a1 a2 a3 h.1 h.2.1 h.2.2.1 h.2.2.2
theorem ob3_5.{u, v, w} {α1 : Sort u} {α2 : Sort v} {α3 : Sort w} {P1 P2 P3 P4 P5 : α1 → α2 → α3 → Prop} {G : Prop} (h : ∃ a1 a2 a3, P1 a1 a2 a3 ∧ P2 a1 a2 a3 ∧ P3 a1 a2 a3 ∧ P4 a1 a2 a3 ∧ P5 a1 a2 a3) (k : ∀ a1 a2 a3, P1 a1 a2 a3 → P2 a1 a2 a3 → P3 a1 a2 a3 → P4 a1 a2 a3 → P5 a1 a2 a3 → G) : G := h.elim fun a1 h => h.elim fun a2 h => h.elim fun a3 h => k a1 a2 a3 h.1 h.2.1 h.2.2.1 h.2.2.2.1 h.2.2.2.2
theorem ob3_6.{u, v, w} {α1 : Sort u} {α2 : Sort v} {α3 : Sort w} {P1 P2 P3 P4 P5 P6 : α1 → α2 → α3 → Prop} {G : Prop} (h : ∃ a1 a2 a3, P1 a1 a2 a3 ∧ P2 a1 a2 a3 ∧ P3 a1 a2 a3 ∧ P4 a1 a2 a3 ∧ P5 a1 a2 a3 ∧ P6 a1 a2 a3) (k : ∀ a1 a2 a3, P1 a1 a2 a3 → P2 a1 a2 a3 → P3 a1 a2 a3 → P4 a1 a2 a3 → P5 a1 a2 a3 → P6 a1 a2 a3 → G) : G := h.elim fun a1 h => h.elim fun a2 h => h.elim fun a3 h => k a1 a2 a3 h.1 h.2.1 h.2.2.1 h.2.2.2.1 h.2.2.2.2.1 h.2.2.2.2.2
theorem ob4_2.{u, v, w, x} {α1 : Sort u} {α2 : Sort v} {α3 : Sort w} {α4 : Sort x} {P1 P2 : α1 → α2 → α3 → α4 → Prop} {G : Prop} (h : ∃ a1 a2 a3 a4, P1 a1 a2 a3 a4 ∧ P2 a1 a2 a3 a4) (k : ∀ a1 a2 a3 a4, P1 a1 a2 a3 a4 → P2 a1 a2 a3 a4 → G) : G := h.elim fun a1 h => h.elim fun a2 h => h.elim fun a3 h => h.elim fun a4 h => k a1 a2 a3 a4 h.1 h.2
theorem ob4_3.{u, v, w, x} {α1 : Sort u} {α2 : Sort v} {α3 : Sort w} {α4 : Sort x} {P1 P2 P3 : α1 → α2 → α3 → α4 → Prop} {G : Prop} (h : ∃ a1 a2 a3 a4, P1 a1 a2 a3 a4 ∧ P2 a1 a2 a3 a4 ∧ P3 a1 a2 a3 a4) (k : ∀ a1 a2 a3 a4, P1 a1 a2 a3 a4 → P2 a1 a2 a3 a4 → P3 a1 a2 a3 a4 → G) : G := h.elim fun a1 h => h.elim fun a2 h => h.elim fun a3 h => h.elim fun a4 h => k a1 a2 a3 a4 h.1 h.2.1 h.2.2
theorem ob4_4.{u, v, w, x} {α1 : Sort u} {α2 : Sort v} {α3 : Sort w} {α4 : Sort x} {P1 P2 P3 P4 : α1 → α2 → α3 → α4 → Prop} {G : Prop} (h : ∃ a1 a2 a3 a4, P1 a1 a2 a3 a4 ∧ P2 a1 a2 a3 a4 ∧ P3 a1 a2 a3 a4 ∧ P4 a1 a2 a3 a4) (k : ∀ a1 a2 a3 a4, P1 a1 a2 a3 a4 → P2 a1 a2 a3 a4 → P3 a1 a2 a3 a4 → P4 a1 a2 a3 a4 → G) : G := h.elim fun a1 h => h.elim fun a2 h => h.elim fun a3 h => h.elim fun a4 h => k a1 a2 a3 a4 h.1 h.2.1 h.2.2.1 h.2.2.2
theorem ob4_5.{u, v, w, x} {α1 : Sort u} {α2 : Sort v} {α3 : Sort w} {α4 : Sort x} {P1 P2 P3 P4 P5 : α1 → α2 → α3 → α4 → Prop} {G : Prop} (h : ∃ a1 a2 a3 a4, P1 a1 a2 a3 a4 ∧ P2 a1 a2 a3 a4 ∧ P3 a1 a2 a3 a4 ∧ P4 a1 a2 a3 a4 ∧ P5 a1 a2 a3 a4) (k : ∀ a1 a2 a3 a4, P1 a1 a2 a3 a4 → P2 a1 a2 a3 a4 → P3 a1 a2 a3 a4 → P4 a1 a2 a3 a4 → P5 a1 a2 a3 a4 → G) : G := h.elim fun a1 h => h.elim fun a2 h => h.elim fun a3 h => h.elim fun a4 h => k a1 a2 a3 a4 h.1 h.2.1 h.2.2.1 h.2.2.2.1 h.2.2.2.2
theorem ob4_7.{u, v, w, x} {α1 : Sort u} {α2 : Sort v} {α3 : Sort w} {α4 : Sort x} {P1 P2 P3 P4 P5 P6 P7 : α1 → α2 → α3 → α4 → Prop} {G : Prop} (h : ∃ a1 a2 a3 a4, P1 a1 a2 a3 a4 ∧ P2 a1 a2 a3 a4 ∧ P3 a1 a2 a3 a4 ∧ P4 a1 a2 a3 a4 ∧ P5 a1 a2 a3 a4 ∧ P6 a1 a2 a3 a4 ∧ P7 a1 a2 a3 a4) (k : ∀ a1 a2 a3 a4, P1 a1 a2 a3 a4 → P2 a1 a2 a3 a4 → P3 a1 a2 a3 a4 → P4 a1 a2 a3 a4 → P5 a1 a2 a3 a4 → P6 a1 a2 a3 a4 → P7 a1 a2 a3 a4 → G) : G := h.elim fun a1 h => h.elim fun a2 h => h.elim fun a3 h => h.elim fun a4 h => k a1 a2 a3 a4 h.1 h.2.1 h.2.2.1 h.2.2.2.1 h.2.2.2.2.1 h.2.2.2.2.2.1 h.2.2.2.2.2.2
structure World extends PySem.World where
  free : Bool
noncomputable abbrev model (p : Program) (w : World) : PySem.Model := PySem.model p w.toWorld
noncomputable def prg : Program := PySem.Challenge.pw_rt0071_01
noncomputable def defN (i : Nat) : Stmt := prg.main.body.getD i (.Pass ⟨0, 0, 0, 0⟩)
noncomputable def bodyN (i : Nat) : List Stmt := match defN i with | .FunctionDef _ _ b _ _ _ _ _ _ _ => b | _ => []
noncomputable def namesN (i : Nat) : List (Str × NameKind) := match defN i with | .FunctionDef _ _ _ _ _ _ sc _ _ _ => sc.names | _ => []
noncomputable def stN (l : List Stmt) (j : Nat) : Stmt := l.getD j (.Pass ⟨0, 0, 0, 0⟩)
inductive V where
  | non | bool (b : Bool) | int (i : Int) | str (s : Str) | byt (b : Array UInt8)
  | typ (n : String) | bi (id : String) | top (a : Addr)
  | tup (l : List V) | lst (l : List V) | rng (n : Nat)
  | rul (p : Str) (b : Bool) | ent (rs : List V)
  deriving Inhabited
noncomputable abbrev Fz := Addr → Option Obj
noncomputable def Fz.Le (f g : Fz) : Prop := ∀ a o, f a = some o → g a = some o
theorem Fz.Le.refl (f : Fz) : f.Le f := fun _ _ h => h
theorem Fz.Le.trans {f g h : Fz} (x : f.Le g) (y : g.Le h) : f.Le h := fun a o e => y a o (x a o e)
noncomputable def tupO (vs : List Value) : Obj := { cls := .type "tuple", data := .seq vs.toArray }
noncomputable def lstO (vs : List Value) (n : Nat) : Obj := { cls := .type "list", data := .seq vs.toArray n }
noncomputable def rngO (n : Nat) (t u v : Tok) : Obj := { cls := .type "range", data := .fields #[.int 0 t, .int n u, .int 1 v] }
noncomputable def lamE : Expr := match stN (bodyN 31) 3 with | .Assign _ e _ => e | _ => .Name "" ⟨0, 0, 0, 0⟩
noncomputable def lamArgs : Arguments := match lamE with | .Lambda a _ _ _ => a | _ => default
noncomputable def lamBody : Expr := match lamE with | .Lambda _ b _ _ => b | _ => .Name "" ⟨0, 0, 0, 0⟩
noncomputable def lamScope : Scope := match lamE with | .Lambda _ _ s _ => s | _ => default
noncomputable def lamQ : Str := "_law_rule.<locals>.<lambda>"
noncomputable def CodeF (f : Fz) (c : Addr) : Prop := ∃ o vs t, f c = some o ∧ o.data = .fields vs ∧ vs[1]? = some (.str lamQ t)
noncomputable def LamAt (f : Fz) (g : Addr) (p : Str) : Prop :=
  ∃ c c' pm ctv oc t, f g = some (kla_obj "<lambda>" lamQ lamArgs lamBody lamScope [("place", c)] pm c' ctv) ∧ CodeF f c' ∧ f c = some oc ∧ oc.data = .cell (some (.str p t))
noncomputable def DictAt (f : Fz) (d : Addr) (m : Str → Option Value) : Prop := ∃ o es ep, f d = some o ∧ o.data = .dict es ep ∧ StrKeys es ∧ UniqKeys es ∧ ∀ x, nsFind es x = m x
noncomputable def RulAt (f : Fz) (a : Addr) (p : Str) (b : Bool) : Prop :=
  ∃ fd sl d m g t, f a = some ⟨.type "function", some d, .func fd, sl⟩ ∧ d ≠ a ∧ DictAt f d m ∧ m "place" = some (.str p t) ∧ m "allowance" = some (.bool b) ∧ m "applies_to" = some (.ref g) ∧ LamAt f g p
noncomputable def EntAt (f : Fz) (a l : Addr) : Prop := ∃ d m, f a = some (instObj 59 d) ∧ d ≠ a ∧ DictAt f d m ∧ m "rulelines" = some (.ref l) ∧ m "allowance" = none
mutual
noncomputable def Rel (f : Fz) : V → Value → Prop
  | .non, v => v = .none
  | .bool b, v => v = .bool b
  | .int i, v => ∃ t, v = .int i t
  | .str x, v => ∃ t, v = .str x t
  | .byt x, v => ∃ t, v = .bytes x t
  | .typ n, v => v = .type n
  | .bi n, v => v = .builtin n
  | .top a, v => v = .ref a
  | .tup l, v => ∃ a vs, v = .ref a ∧ f a = some (tupO vs) ∧ RelL f l vs
  | .lst l, v => ∃ a vs n, v = .ref a ∧ f a = some (lstO vs n) ∧ RelL f l vs
  | .rng n, v => ∃ a t u t', v = .ref a ∧ f a = some (rngO n t u t')
  | .rul p b, v => ∃ a, v = .ref a ∧ RulAt f a p b
  | .ent rs, v => ∃ a l vs n, v = .ref a ∧ EntAt f a l ∧ f l = some (lstO vs n) ∧ RelL f rs vs
noncomputable def RelL (f : Fz) : List V → List Value → Prop
  | [], vs => vs = []
  | x :: l, vs => ∃ y r, vs = y :: r ∧ Rel f x y ∧ RelL f l r
end
theorem CodeF.mono {f g : Fz} (h : f.Le g) {c} (x : CodeF f c) : CodeF g c := by
  obtain ⟨o, vs, t, e, r⟩ := x; exact ⟨o, vs, t, h _ _ e, r⟩
theorem LamAt.mono {f g : Fz} (h : f.Le g) {a p} (x : LamAt f a p) : LamAt g a p := by
  obtain ⟨c, c', pm, ctv, oc, t, e1, e2, e3, e4⟩ := x; exact ⟨c, c', pm, ctv, oc, t, h _ _ e1, e2.mono h, h _ _ e3, e4⟩
theorem DictAt.mono {f g : Fz} (h : f.Le g) {d m} (x : DictAt f d m) : DictAt g d m := by
  obtain ⟨o, es, ep, e, r⟩ := x; exact ⟨o, es, ep, h _ _ e, r⟩
theorem RulAt.mono {f g : Fz} (h : f.Le g) {a p b} (x : RulAt f a p b) : RulAt g a p b := by
  obtain ⟨fd, sl, d, m, q, t, e1, e2, e3, e4, e5, e6, e7⟩ := x; exact ⟨fd, sl, d, m, q, t, h _ _ e1, e2, e3.mono h, e4, e5, e6, e7.mono h⟩
theorem EntAt.mono {f g : Fz} (h : f.Le g) {a l} (x : EntAt f a l) : EntAt g a l := by
  obtain ⟨d, m, e1, e2, e3, r⟩ := x; exact ⟨d, m, h _ _ e1, e2, e3.mono h, r⟩
mutual
theorem Rel.mono {f g : Fz} (h : f.Le g) : ∀ {x : V} {v : Value}, Rel f x v → Rel g x v
  | .non, _, r | .bool _, _, r | .int _, _, r | .str _, _, r | .byt _, _, r | .typ _, _, r | .bi _, _, r | .top _, _, r => by
    simpa only [Rel] using r
  | .tup l, v, r => by
    simp only [Rel] at r ⊢
    refine ob2_3 r fun a vs e ha rl => ?_; clear r
    exact ⟨a, vs, e, h _ _ ha, RelL.mono h rl⟩
  | .lst l, v, r => by
    simp only [Rel] at r ⊢
    refine ob3_3 r fun a vs n e ha rl => ?_; clear r
    exact ⟨a, vs, n, e, h _ _ ha, RelL.mono h rl⟩
  | .rng n, v, r => by
    simp only [Rel] at r ⊢
    refine ob4_2 r fun a t u t' e ha => ?_; clear r
    exact ⟨a, t, u, t', e, h _ _ ha⟩
  | .rul p b, v, r => by
    simp only [Rel] at r ⊢
    refine ob1_2 r fun a e ha => ?_; clear r
    exact ⟨a, e, ha.mono h⟩
  | .ent rs, v, r => by
    simp only [Rel] at r ⊢
    refine ob4_4 r fun a l vs n e ha hl rl => ?_; clear r
    exact ⟨a, l, vs, n, e, ha.mono h, h _ _ hl, RelL.mono h rl⟩
theorem RelL.mono {f g : Fz} (h : f.Le g) : ∀ {l : List V} {vs : List Value}, RelL f l vs → RelL g l vs
  | [], _, r => by simpa only [RelL] using r
  | x :: l, _, r => by
    simp only [RelL] at r ⊢
    refine ob2_3 r fun y r' e rx rl => ?_; clear r
    exact ⟨y, r', e, Rel.mono h rx, RelL.mono h rl⟩
end
theorem RelL.nil {f : Fz} : RelL f [] [] := by simp only [RelL]
theorem RelL.cons {f : Fz} {x : V} {l y r} (h : Rel f x y) (t : RelL f l r) : RelL f (x :: l) (y :: r) := by
  simp only [RelL]; exact ⟨y, r, rfl, h, t⟩
theorem RelL.length {f : Fz} : ∀ {l : List V} {vs : List Value}, RelL f l vs → vs.length = l.length
  | [], _, r => by simp only [RelL] at r; subst r; rfl
  | x :: l, _, r => by
    simp only [RelL] at r
    refine ob2_3 r fun y r' z0 _ rl => ?_; clear r; subst z0
    simp only [List.length_cons, RelL.length rl]
theorem RelL.get {f : Fz} : ∀ {l : List V} {vs : List Value}, RelL f l vs → ∀ {i : Nat} {x : V}, l[i]? = some x → ∃ y, vs[i]? = some y ∧ Rel f x y
  | [], _, _, i, x, e => by simp at e
  | x :: l, _, r, i, z, e => by
    simp only [RelL] at r
    refine ob2_3 r fun y r' z0 rx rl => ?_; clear r; subst z0
    cases i with
    | zero => simp at e; subst e; exact ⟨y, by simp, rx⟩
    | succ i => simp only [List.getElem?_cons_succ] at e ⊢; exact RelL.get rl e
theorem RelL.append {f : Fz} : ∀ {l : List V} {vs : List Value}, RelL f l vs → ∀ {l' : List V} {vs' : List Value}, RelL f l' vs' → RelL f (l ++ l') (vs ++ vs')
  | [], _, r, _, _, r2 => by simp only [RelL] at r; subst r; exact r2
  | x :: l, _, r, _, _, r2 => by
    simp only [RelL] at r
    refine ob2_3 r fun y r' z0 rx rl => ?_; clear r; subst z0
    exact RelL.cons rx (RelL.append rl r2)
noncomputable def tabA : Addr := 227
noncomputable def tabO (vs : Array Value) : Obj := { cls := .none, data := .fields vs }
noncomputable def Alike (b : Addr) (o o' : Obj) : Prop :=
  o' = o ∨ ((∃ es ep, o.data = .dict es ep) ∧ ∃ sl, o' = { o with slots := sl }) ∨ (b = tabA ∧ ∃ vs more, o = tabO vs ∧ o' = tabO (vs ++ more))
noncomputable def Solid (o : Obj) : Prop := (∀ es ep, o.data ≠ .dict es ep) ∧ (o.cls ≠ .none ∨ ∀ vs, o.data ≠ .fields vs)
theorem Alike.solid {b : Addr} {o o' : Obj} (h : Alike b o o') (hs : Solid o) : o' = o := by
  rcases h with h | ⟨⟨es, ep, h⟩, _⟩ | ⟨_, vs, more, h, _⟩
  · exact h
  · exact absurd h (hs.1 es ep)
  · subst h
    rcases hs.2 with q | q
    · exact absurd rfl q
    · exact absurd rfl (q vs)
theorem Alike.trans {b : Addr} {o o' o'' : Obj} (x : Alike b o o') (y : Alike b o' o'') : Alike b o o'' := by
  rcases x with rfl | ⟨⟨es, ep, h⟩, sl, rfl⟩ | ⟨hb, vs, more, rfl, rfl⟩
  · exact y
  · rcases y with rfl | ⟨_, sl', rfl⟩ | ⟨_, vs, more, h', _⟩
    · exact .inr (.inl ⟨⟨es, ep, h⟩, sl, rfl⟩)
    · exact .inr (.inl ⟨⟨es, ep, h⟩, sl', rfl⟩)
    · have h1 := congrArg Obj.data h'
      rw [show ({ o with slots := sl } : Obj).data = o.data from rfl, h] at h1
      cases h1
  · rcases y with rfl | ⟨⟨es, ep, h⟩, _⟩ | ⟨_, vs', more', h', rfl⟩
    · exact .inr (.inr ⟨hb, vs, more, rfl, rfl⟩)
    · cases h
    · have h1 := congrArg Obj.data h'
      have h2 : vs ++ more = vs' := by simpa [tabO] using h1
      subst h2
      exact .inr (.inr ⟨hb, vs, more ++ more', rfl, by rw [Array.append_assoc]⟩)
noncomputable def KeepsW (s s' : Shared) : Prop := ∃ h tk, s' = { s with heap := h, toks := tk } ∧ ∀ b o, s.heap.get? b = some o → ∃ o', h.get? b = some o' ∧ Alike b o o'
theorem keeps_toW {s s' : Shared} (x : Keeps s s') : KeepsW s s' := by
  obtain ⟨h, t, e, k⟩ := x; exact ⟨h, t, e, fun b o q => ⟨o, k b o q, .inl rfl⟩⟩
theorem keepsW_of {s : Shared} {h : Heap} {tk : Nat} (k : ∀ b o, s.heap.get? b = some o → h.get? b = some o) : KeepsW s { s with heap := h, toks := tk } :=
  ⟨h, tk, rfl, fun b o e => ⟨o, k b o e, .inl rfl⟩⟩
noncomputable def tr1 (c : Addr) : Array Value := #[rawInt 268, rawInt 11, .ref c]
noncomputable def tr2 (c : Addr) : Array Value := #[rawInt 271, rawInt 22, .ref c]
noncomputable def PsOk (f : Fz) (ps : Array Value) : Prop := ps = #[] ∨ ∃ c1, CodeF f c1 ∧ (ps = tr1 c1 ∨ ∃ c2, CodeF f c2 ∧ ps = tr1 c1 ++ tr2 c2)
noncomputable def TabOk (f : Fz) (s : Shared) : Prop := f tabA = none → ∃ ps, s.heap.get? tabA = some (tabO ps) ∧ PsOk f ps
theorem PsOk.mono {f g : Fz} (h : f.Le g) {ps} (x : PsOk f ps) : PsOk g ps := by
  rcases x with x | ⟨c1, h1, x | ⟨c2, h2, x⟩⟩
  · exact .inl x
  · exact .inr ⟨c1, h1.mono h, .inl x⟩
  · exact .inr ⟨c1, h1.mono h, .inr ⟨c2, h2.mono h, x⟩⟩
theorem TabOk.keep {f f' : Fz} {s s' : Shared} (h : TabOk f s) (le : f.Le f') (e : ∀ vs, s.heap.get? tabA = some (tabO vs) → s'.heap.get? tabA = some (tabO vs)) : TabOk f' s' := fun hn => by
  have hf : f tabA = none := by
    cases q : f tabA with
    | none => rfl
    | some o => rw [le _ _ q] at hn; cases hn
  refine ob1_2 (h hf) fun ps h1 h2 => ?_
  exact ⟨ps, e ps h1, h2.mono le⟩
theorem TabOk.ne {f : Fz} {s : Shared} (h : TabOk f s) {a : Addr} {o : Obj} (hf : f a = none) (e : s.heap.get? a = some o) (ho : ∀ vs, o ≠ tabO vs) : a ≠ tabA := fun q => by
  subst q
  refine ob1_2 (h hf) fun ps h1 _ => ?_
  rw [e] at h1; exact ho ps (Option.some.inj h1)
theorem TabOk.live {f : Fz} {s : Shared} (h : TabOk f s) {a : Addr} (hf : f a = none) (e : s.heap.get? a = none) : a ≠ tabA := fun q => by
  subst q
  refine ob1_2 (h hf) fun ps h1 _ => ?_
  rw [e] at h1; cases h1
theorem TabOk.poke {f₀ f : Fz} {s₀ s : Shared} (h : TabOk f₀ s₀ → TabOk f s) (le : f₀.Le f) {N : Addr → Prop} (hN : ∀ a, N a → s₀.heap.get? a = none) {h' : Heap} {tk : Nat}
    (kp : ∀ b o, ¬ N b → s.heap.get? b = some o → h'.get? b = some o) : TabOk f₀ s₀ → TabOk f { s with heap := h', toks := tk } := fun h0 hn => by
  have hf : f₀ tabA = none := by
    cases q : f₀ tabA with
    | none => rfl
    | some o => rw [le _ _ q] at hn; cases hn
  refine ob1_2 (h h0 hn) fun ps h1 h2 => ?_
  exact ⟨ps, kp _ _ (fun q => h0.live hf (hN _ q) rfl) h1, h2⟩
structure Grew (f : Fz) (s : Shared) (f' : Fz) (s' : Shared) : Prop where
  le : f.Le f'
  new : ∀ a o, f' a = some o → f a = some o ∨ s.heap.get? a = none
  sub : ∀ a o, f' a = some o → s'.heap.get? a = some o
  keeps : KeepsW s s'
  tab : TabOk f s → TabOk f' s'
theorem keeps_refl (s : Shared) : KeepsW s s := ⟨s.heap, s.toks, rfl, fun b o e => ⟨o, e, .inl rfl⟩⟩
theorem keeps_trans {s₁ s₂ s₃ : Shared} (x : KeepsW s₁ s₂) (y : KeepsW s₂ s₃) : KeepsW s₁ s₃ := by
  obtain ⟨h, t, rfl, k⟩ := x
  obtain ⟨h', t', rfl, k'⟩ := y
  refine ⟨h', t', rfl, fun b o e => ?_⟩
  refine ob1_2 (k b o e) fun o' e' a => ?_
  refine ob1_2 (k' b o' e') fun o'' e'' a' => ?_
  exact ⟨o'', e'', a.trans a'⟩
theorem keeps_live {s s' : Shared} (x : KeepsW s s') {a : Addr} {o : Obj} (e : s.heap.get? a = some o) : ∃ o', s'.heap.get? a = some o' ∧ Alike a o o' := by
  obtain ⟨h, t, rfl, k⟩ := x; exact k a o e
theorem keeps_dead {s s' : Shared} (x : KeepsW s s') {a : Addr} (e : s'.heap.get? a = none) : s.heap.get? a = none := by
  cases q : s.heap.get? a with
  | none => rfl
  | some o => refine ob1_2 (keeps_live x q) fun o' e' _ => ?_; rw [e] at e'; cases e'
theorem keeps_keep {s s' : Shared} (x : KeepsW s s') {a : Addr} {o : Obj} (e : s.heap.get? a = some o) (hs : Solid o) : s'.heap.get? a = some o := by
  refine ob1_2 (keeps_live x e) fun o' e' al => ?_
  rw [al.solid hs] at e'; exact e'
theorem keepX {s s' : Shared} (x : Keeps s s') {a : Addr} {o : Obj} (e : s.heap.get? a = some o) : s'.heap.get? a = some o := by
  obtain ⟨h, t, rfl, k⟩ := x; exact k a o e
theorem solid_lst (vs : List Value) (n : Nat) : Solid (lstO vs n) := ⟨(by intro es ep h; cases h), .inl (by intro h; cases h)⟩
theorem solid_cls {o : Obj} {T : String} (h : o.cls = .type T) (hd : ∀ es ep, o.data ≠ .dict es ep) : Solid o := ⟨hd, .inl (by rw [h]; intro h; cases h)⟩
theorem solid_cell {o : Obj} {vo : Option Value} (h : o.data = .cell vo) : Solid o := ⟨(by intro es ep q; rw [h] at q; cases q), .inr (by intro vs q; rw [h] at q; cases q)⟩
theorem Alike.ns {a : Addr} {h h' : Heap} (k : ∀ o, h.get? a = some o → ∃ o', h'.get? a = some o' ∧ Alike a o o') {m : Str → Option Value} (hn : h.Ns a m) : h'.Ns a m := by
  obtain ⟨o, es, ep, ho, hd, hk⟩ := hn
  refine ob1_2 (k o ho) fun o' ho' al => ?_
  rcases al with rfl | ⟨_, sl, rfl⟩ | ⟨_, vs, more, h1, _⟩
  · exact ⟨_, es, ep, ho', hd, hk⟩
  · exact ⟨_, es, ep, ho', hd, hk⟩
  · subst h1; cases hd
theorem ns_keeps {s s' : Shared} (x : KeepsW s s') {a : Addr} {m : Str → Option Value} (hn : s.heap.Ns a m) : s'.heap.Ns a m := Alike.ns (fun o e => keeps_live x e) hn
theorem cell_keeps {s s' : Shared} (x : KeepsW s s') {a : Addr} {vo : Option Value} (hn : s.heap.IsCell a vo) : s'.heap.IsCell a vo := by
  obtain ⟨o, ho, hd⟩ := hn
  exact ⟨o, keeps_keep x ho (solid_cell hd), hd⟩
theorem Grew.refl {f : Fz} {s : Shared} (h : ∀ a o, f a = some o → s.heap.get? a = some o) : Grew f s f s :=
  ⟨Fz.Le.refl f, fun _ _ e => .inl e, h, keeps_refl s, id⟩
theorem Grew.trans {f f₁ f₂ : Fz} {s s₁ s₂ : Shared} (x : Grew f s f₁ s₁) (y : Grew f₁ s₁ f₂ s₂) : Grew f s f₂ s₂ := by
  refine ⟨x.le.trans y.le, fun a o e => ?_, y.sub, keeps_trans x.keeps y.keeps, fun h => y.tab (x.tab h)⟩
  rcases y.new a o e with h | h
  · exact x.new a o h
  · exact .inr (keeps_dead x.keeps h)
theorem Grew.same {f : Fz} {s : Shared} (hf : ∀ a o, f a = some o → s.heap.get? a = some o) {h' : Heap} {tk : Nat} (k : ∀ b o, s.heap.get? b = some o → h'.get? b = some o) :
    Grew f s f { s with heap := h', toks := tk } :=
  ⟨Fz.Le.refl f, fun _ _ e => .inl e, fun a o e => k a o (hf a o e), keepsW_of k, fun h => h.keep (Fz.Le.refl f) fun _ e => k _ _ e⟩
noncomputable def Fz.add (f : Fz) (a : Addr) (o : Obj) : Fz := fun b => if b = a then some o else f b
theorem Fz.add_self (f : Fz) (a : Addr) (o : Obj) : f.add a o a = some o := by simp [Fz.add]
theorem Grew.add {f : Fz} {s : Shared} (hf : ∀ a o, f a = some o → s.heap.get? a = some o) {h' : Heap} {tk : Nat} (k : ∀ b o, s.heap.get? b = some o → h'.get? b = some o)
    {a : Addr} {o : Obj} (ha : s.heap.get? a = none) (ho : h'.get? a = some o) : Grew f s (f.add a o) { s with heap := h', toks := tk } := by
  have hle : f.Le (f.add a o) := fun b o' e => by
    by_cases hb : b = a
    · subst hb; rw [hf _ _ e] at ha; cases ha
    · simpa [Fz.add, hb] using e
  refine ⟨hle, fun b o' e => ?_, fun b o' e => ?_, keepsW_of k, fun h => h.keep hle fun _ e => k _ _ e⟩
  · by_cases hb : b = a
    · subst hb; exact .inr ha
    · left; simpa [Fz.add, hb] using e
  · by_cases hb : b = a
    · subst hb; simp [Fz.add] at e; subst e; exact ho
    · exact k _ _ (hf _ _ (by simpa [Fz.add, hb] using e))
theorem Grew.keep {f : Fz} {s s' : Shared} (hf : ∀ a o, f a = some o → s.heap.get? a = some o) (kp : Keeps s s') : Grew f s f s' :=
  ⟨Fz.Le.refl f, fun _ _ e => .inl e, fun a o e => keepX kp (hf a o e), keeps_toW kp, fun h => h.keep (Fz.Le.refl f) fun _ e => keepX kp e⟩
theorem get?_size (h : Heap) : h.get? h.objs.size = none := by
  cases q : h.get? h.objs.size with
  | none => rfl
  | some o => exact absurd (Heap.lt_size q) (Nat.lt_irrefl _)
structure Room (k : Nat) (A : Around) : Prop where
  handled : A.handled = none
  depth : A.depth + k + 30 < recursionLimit
  units : A.units + 10 * k + 100 < cLine
theorem Room.mono {k k' : Nat} (h : k' ≤ k) {A : Around} (r : Room k A) : Room k' A := ⟨r.handled, by have := r.depth; omega, by have := r.units; omega⟩
theorem Room.deeper {k : Nat} {A : Around} (env : Env) (r : Room (k + 1) A) : Room k (A.deeper env) :=
  ⟨r.handled, by have := r.depth; show A.depth + 1 + k + 30 < _; omega, by have := r.units; show A.units + 3 + 10 * k + 100 < _; omega⟩
theorem Room.in1 {k : Nat} {A : Around} (r : Room (k + 1) A) : Room k A.in1 :=
  ⟨r.handled, by have := r.depth; show A.depth + k + 30 < _; omega, by have := r.units; show A.units + 1 + 10 * k + 100 < _; omega⟩
noncomputable def clsB (i : Nat) : List Stmt := match defN i with | .ClassDef _ _ _ b _ _ _ _ _ _ _ => b | _ => []
noncomputable def codeO (n q : Str) (t line argc po kw fl r1 r2 : Nat) (x3 x4 : Value) (r5 t5 : Nat) : Obj :=
  { cls := .type "code", data := .fields #[.str n t, .str q (t + 1), .str "/claim/cut.py" (t + 2), .int line 0, .int argc 0, .int po 0, .int kw 0, .int fl 0, .ref r1, .bool true, .int 181 0, .ref r2, .none, x3, x4, .ref r5, .int t5 0, .int line 0, .str "/claim/cut.py" (t5 + 1)] }
noncomputable def funO (st : Stmt) (q md : Str) (t c : Nat) (dV kV : Value) : Obj := match st with
  | .FunctionDef n ps b _ _ _ sc _ _ _ => { cls := .type "function", data := .func { docDef n ps b sc (.str md t) (.ref c) .none with qualname := q, defaults := dV, kwdefaults := kV } }
  | _ => default
noncomputable def dicO (P : Params) (es : List (Str × Nat × Value)) (n : Nat) : Obj := { cls := .type "dict", data := .dict (es.map fun e => { hash := PyData.keyHash P e.1, key := .str e.1 e.2.1, val := e.2.2 }).toArray n }
noncomputable def bytes64 : Value := .bytes #[65, 66, 67, 68, 69, 70, 71, 72, 73, 74, 75, 76, 77, 78, 79, 80, 81, 82, 83, 84, 85, 86, 87, 88, 89, 90, 97, 98, 99, 100, 101, 102, 103, 104, 105, 106, 107, 108, 109, 110, 111, 112, 113, 114, 115, 116, 117, 118, 119, 120, 121, 122, 48, 49, 50, 51, 52, 53, 54, 55, 56, 57, 43, 47] 276
noncomputable def Kf (P : Params) : Frag :=
  (0, boot_o_0 P) ::
  (1, boot_o_1 P) ::
  (2, boot_o_2 P) ::
  (3, dicO P (("__name__", 165, .str "law_rt0071_01" 475) :: ("__doc__", 166, .none) :: ("__package__", 167, .none) :: ("__loader__", 168, .builtin "__main__.__loader__#opaque") :: ("__spec__", 169, .none) :: ("__annotations__", 170, .ref 6) :: ("__builtins__", 171, .ref 4) :: ("__file__", 173, .str "/claim/cut.py" 172) :: ("__cached__", 174, .none) :: ("_wall", 193, .ref 21) :: ("Entry", 257, .ref 59) :: ("_buffer", 267, .ref 70) :: ("_truth", 275, .ref 77) :: ("_B64", 277, bytes64) :: ("b2a_base64", 291, .ref 85) :: ("b64encode", 302, .ref 93) :: ("_plain_name", 313, .ref 100) :: ("ABCMeta", 339, .ref 117) :: ("_ABCLike", 382, .ref 150) :: ("_abc_plain_meta", 389, .ref 159) :: ("fspath", 401, .ref 166) :: ("_check_arg_types", 414, .ref 173) :: ("_get_sep", 423, .ref 180) :: ("join", 434, .ref 187) :: ("splitroot", 443, .ref 194) :: ("dirname", 453, .ref 201) :: ("normpath", 468, .ref 208) :: ("commonpath", 474, .ref 213) :: ("_law_row", 482, .ref 218) :: ("_law_state", 495, .ref 225) :: ("_law_rule", 505, .ref 232) :: ("_law_book", 515, .ref 239) :: ("_law_asked", 524, .ref 246) :: ("law", 530, .ref 251) :: []) 34) ::
  (4, boot_o_4 P) ::
  (5, boot_o_5 P) ::
  (34, codeO "__init__" "Entry.__init__" 208 7 1 0 0 3 29 30 (.ref 31) (.ref 32) 33 212) ::
  (35, funO (stN (clsB 2) 0) "Entry.__init__" "cpy313.urllib.robotparser" 194 34 .none .none) ::
  (55, codeO "allowance" "Entry.allowance" 234 41 2 0 0 3 50 51 (.ref 52) (.ref 53) 54 243) ::
  (56, funO (stN (clsB 2) 3) "Entry.allowance" "cpy313.urllib.robotparser" 194 55 .none .none) ::
  (57, { cls := .type "tuple", data := .seq #[.str "delay" 246, .str "req_rate" 247, .str "rulelines" 248, .str "useragents" 249] }) ::
  (58, dicO P (("__module__", 203, .str "cpy313.urllib.robotparser" 194) :: ("__firstlineno__", 207, .int 5 206) :: ("__init__", 214, .ref 35) :: ("__str__", 224, .ref 42) :: ("applies_to", 233, .ref 49) :: ("allowance", 245, .ref 56) :: ("__static_attributes__", 250, .ref 57) :: ("__dict__", 252, .ref 60) :: ("__weakref__", 254, .ref 61) :: ("__doc__", 255, .none) :: []) 4) ::
  (59, { cls := .type "type", data := .cls { name := "Entry", bases := [.type "object"], mro := [.ref 59, .type "object"], ns := 58, qualname := "Entry" }, slots := #[none, none, some (.str "Entry" 196), some (.str "Entry" 204), some (.builtin "object.__new__"), some (.bool true)] }) ::
  (60, { cls := .type "getset_descriptor", data := .fields #[.str "__dict__" 251, .ref 59, .builtin "function.__dict__", .builtin "function.__dict__#set"] }) ::
  (61, { cls := .type "getset_descriptor", data := .fields #[.str "__weakref__" 253, .ref 59, .builtin "ExceptionGroup.__weakref__", .none] }) ::
  (69, codeO "_buffer" "_buffer" 260 54 1 0 0 3 64 65 (.ref 66) (.ref 67) 68 265) ::
  (70, funO (defN 4) "_buffer" "binascii" 258 69 .none .none) ::
  (76, codeO "_truth" "_truth" 268 61 1 0 0 3 71 72 (.ref 73) (.ref 74) 75 273) ::
  (77, funO (defN 5) "_truth" "binascii" 258 76 .none .none) ::
  (78, dicO P [("newline", 278, .bool true)] 1) ::
  (84, codeO "b2a_base64" "b2a_base64" 279 67 1 1 1 3 79 80 (.ref 81) (.ref 82) 83 289) ::
  (85, funO (defN 7) "b2a_base64" "binascii" 258 84 .none (.ref 78)) ::
  (86, { cls := .type "tuple", data := .seq #[.none] }) ::
  (92, codeO "b64encode" "b64encode" 294 90 2 0 0 3 87 88 (.ref 89) (.ref 90) 91 300) ::
  (93, funO (defN 9) "b64encode" "cpy313.base64" 292 92 (.ref 86) .none) ::
  (165, codeO "fspath" "fspath" 392 127 1 0 0 3 160 161 (.ref 162) (.ref 163) 164 399) ::
  (166, funO (defN 18) "fspath" "os" 390 165 .none .none) ::
  (179, codeO "_get_sep" "_get_sep" 417 156 1 0 0 3 174 175 (.ref 176) (.ref 177) 178 421) ::
  (180, funO (defN 22) "_get_sep" "cpy313.posixpath" 415 179 .none .none) ::
  (186, codeO "join" "join" 424 161 1 0 0 7 181 182 (.ref 183) (.ref 184) 185 432) ::
  (187, funO (defN 23) "join" "cpy313.posixpath" 415 186 .none .none) ::
  (193, codeO "splitroot" "splitroot" 435 178 1 0 0 3 188 189 (.ref 190) (.ref 191) 192 441) ::
  (194, funO (defN 24) "splitroot" "cpy313.posixpath" 415 193 .none .none) ::
  (200, codeO "dirname" "dirname" 444 192 1 0 0 3 195 196 (.ref 197) (.ref 198) 199 451) ::
  (201, funO (defN 25) "dirname" "cpy313.posixpath" 415 200 .none .none) ::
  (207, codeO "normpath" "normpath" 454 200 1 0 0 3 202 203 (.ref 204) (.ref 205) 206 466) ::
  (208, funO (defN 26) "normpath" "cpy313.posixpath" 415 207 .none .none) ::
  (212, codeO "commonpath" "commonpath" 469 225 1 0 0 3 209 210 .none .none 211 472) ::
  (213, funO (defN 27) "commonpath" "cpy313.posixpath" 415 212 .none .none) ::
  (217, codeO "_law_row" "_law_row" 477 255 1 0 0 3 214 215 .none .none 216 480) ::
  (218, funO (defN 29) "_law_row" "law_rt0071_01" 475 217 .none .none) ::
  (224, codeO "_law_state" "_law_state" 483 261 3 0 0 3 219 220 (.ref 221) (.ref 222) 223 493) ::
  (225, funO (defN 30) "_law_state" "law_rt0071_01" 475 224 .none .none) ::
  (227, { cls := .none, data := .fields #[] }) ::
  (231, codeO "_law_rule" "_law_rule" 496 267 2 0 0 3 226 227 (.ref 228) (.ref 229) 230 503) ::
  (232, funO (defN 31) "_law_rule" "law_rt0071_01" 475 231 .none .none) ::
  (238, codeO "_law_book" "_law_book" 506 273 1 0 0 3 233 234 (.ref 235) (.ref 236) 237 513) ::
  (239, funO (defN 32) "_law_book" "law_rt0071_01" 475 238 .none .none) ::
  (245, codeO "_law_asked" "_law_asked" 516 278 2 0 0 3 240 241 (.ref 242) (.ref 243) 244 522) ::
  (246, funO (defN 33) "_law_asked" "law_rt0071_01" 475 245 .none .none) ::
  (250, codeO "law" "law" 525 283 1 0 0 3 247 248 .none .none 249 528) ::
  (251, funO (defN 34) "law" "law_rt0071_01" 475 250 .none .none) :: []
noncomputable def TopF (w : World) (f : Fz) : Prop := ∀ a o, (Kf w.params).lookup a = some o → a ≠ tabA → f a = some o
structure Okf (w : World) (f : Fz) (s : Shared) : Prop where
  sub : ∀ a o, f a = some o → s.heap.get? a = some o
  top : TopF w f
  tab : TabOk f s
  tabn : w.free = true → f tabA = none
theorem Okf.grew {w : World} {f f' : Fz} {s s' : Shared} (x : Okf w f s) (g : Grew f s f' s') : Okf w f' s' :=
  ⟨g.sub, fun a o e n => g.le a o (x.top a o e n), g.tab x.tab, fun hw => by
    cases q : f' tabA with
    | none => rfl
    | some o =>
      rcases g.new _ _ q with h | h
      · rw [x.tabn hw] at h; cases h
      · exact absurd rfl (x.tab.live (x.tabn hw) h)⟩
theorem Okf.tabLive {w : World} {f : Fz} {s : Shared} (x : Okf w f s) : ∃ o, s.heap.get? tabA = some o := by
  cases q : f tabA with
  | none => refine ob1_2 (x.tab q) fun ps h _ => ?_; exact ⟨_, h⟩
  | some o => exact ⟨o, x.sub _ _ q⟩
theorem Okf.refl {w : World} {f : Fz} {s : Shared} (x : Okf w f s) : Grew f s f s := Grew.refl x.sub
noncomputable abbrev Rho := List (Str × Bool × V)
noncomputable def Held (env : Env) (f : Fz) (h : Heap) (x : Str) (c : Bool) (v : V) : Prop := match c with
  | false => env.kindOf x = some .local ∧ ∃ m val, h.Ns env.locals m ∧ m x = some val ∧ Rel f v val
  | true => (env.kindOf x = some .cell ∨ env.kindOf x = some .free) ∧ ∃ a val, env.cells.lookup x = some a ∧ h.IsCell a (some val) ∧ Rel f v val
theorem Held.grew {env : Env} {f f' : Fz} {s s' : Shared} {x c v} (H : Held env f s.heap x c v) (g : Grew f s f' s') : Held env f' s'.heap x c v := by
  cases c with
  | false =>
    obtain ⟨hk, m, val, hn, hm, r⟩ := H
    exact ⟨hk, m, val, ns_keeps g.keeps hn, hm, r.mono g.le⟩
  | true =>
    obtain ⟨hk, a, val, hc, hn, r⟩ := H
    exact ⟨hk, a, val, hc, cell_keeps g.keeps hn, r.mono g.le⟩
structure Ok (w : World) (gs : List (Str × NameKind)) (env : Env) (ρ : Rho) (f : Fz) (s : Shared) : Prop where
  okf : Okf w f s
  kind : env.scope.kind = .function
  glob : env.globals = mainGlobals
  blt : env.builtins = builtinsNs
  gss : env.scope.names = gs
  clos : ∀ x, gs.lookup x = some .cell ∨ gs.lookup x = some .free → ∃ a, env.cells.lookup x = some a
  held : ∀ x c v, ρ.lookup x = some (c, v) → Held env f s.heap x c v
theorem Ok.grew {w : World} {gs : List (Str × NameKind)} {env : Env} {ρ : Rho} {f f' : Fz} {s s' : Shared} (x : Ok w gs env ρ f s) (g : Grew f s f' s') : Ok w gs env ρ f' s' :=
  ⟨x.okf.grew g, x.kind, x.glob, x.blt, x.gss, x.clos, fun y c v e => (x.held y c v e).grew g⟩
section
variable (w : World)
noncomputable def Run (A : Around) (f : Fz) (s : Shared) (t : Sem Value) (v : V) : Prop :=
  ∀ (Q : Value → Shared → Prop) (E : Value → Shared → Prop), (∀ val s' f', Grew f s f' s' → Rel f' v val → Q val s') → wpAny (model prg w) A t Q E s
noncomputable def RunL (A : Around) (f : Fz) (s : Shared) (t : Sem (List Value)) (l : List V) : Prop :=
  ∀ (Q : List Value → Shared → Prop) (E : Value → Shared → Prop), (∀ vs s' f', Grew f s f' s' → RelL f' l vs → Q vs s') → wpAny (model prg w) A t Q E s
noncomputable def RunB (A : Around) (f : Fz) (s : Shared) (t : Sem Bool) (b : Bool) : Prop :=
  ∀ (Q : Bool → Shared → Prop) (E : Value → Shared → Prop), (∀ s' f', Grew f s f' s' → Q b s') → wpAny (model prg w) A t Q E s
noncomputable def Evals (k : Nat) (gs : List (Str × NameKind)) (ρ : Rho) (e : Expr) (v : V) : Prop :=
  ∀ (env : Env) (A : Around) (f : Fz) (s : Shared), Room k A → Ok w gs env ρ f s → Run w A f s (eval e env) v
noncomputable def EvalsL (k : Nat) (gs : List (Str × NameKind)) (ρ : Rho) (es : List Expr) (l : List V) : Prop :=
  ∀ (env : Env) (A : Around) (f : Fz) (s : Shared) (pos : Pos), Room k A → Ok w gs env ρ f s → RunL w A f s (spliced (backTo pos (starEach es env))) l
noncomputable def Tests (k : Nat) (gs : List (Str × NameKind)) (ρ : Rho) (e : Expr) (b : Bool) : Prop :=
  ∀ (env : Env) (A : Around) (f : Fz) (s : Shared), Room k A → Ok w gs env ρ f s → RunB w A f s (isTrue e env (eval e env)) b
noncomputable def BinOk (k : Nat) (op : Operator) (a b v : V) : Prop :=
  ∀ (A : Around) (f : Fz) (s : Shared) (va vb : Value), Room k A → Okf w f s → Rel f a va → Rel f b vb → Run w A f s (binaryOp op va vb) v
noncomputable def CmpOk (k : Nat) (op : CmpOp) (a b : V) (c : Bool) : Prop :=
  ∀ (A : Around) (f : Fz) (s : Shared) (va vb : Value), Room k A → Okf w f s → Rel f a va → Rel f b vb → Run w A f s (compareOp op va vb) (.bool c)
noncomputable def TruthOk (k : Nat) (a : V) (c : Bool) : Prop :=
  ∀ (A : Around) (f : Fz) (s : Shared) (va : Value), Room k A → Okf w f s → Rel f a va → RunB w A f s (truthy va) c
noncomputable def CallOk (k : Nat) (fn : V) (args : List V) (v : V) : Prop :=
  ∀ (A : Around) (f : Fz) (s : Shared) (vf : Value) (vs : List Value), Room k A → Okf w f s → Rel f fn vf → RelL f args vs → Run w A f s (call vf vs) v
noncomputable def SubOk (k : Nat) (o i v : V) : Prop :=
  ∀ (A : Around) (f : Fz) (s : Shared) (vo vi : Value), Room k A → Okf w f s → Rel f o vo → Rel f i vi → Run w A f s (getItem vo vi) v
end
section
variable {w : World} {k : Nat} {gs : List (Str × NameKind)} {ρ : Rho} {A : Around} {f : Fz} {s : Shared}
theorem ev_int {i kk pos} : Evals w k gs ρ (.Constant (.int i) kk pos) (.int i) := fun env A f s _ ok Q E hQ =>
  wpAny_Constant_int (hQ _ _ _ (Grew.same (tk := s.toks + 1) ok.okf.sub fun _ _ e => e) (by simp only [Rel]; exact ⟨_, rfl⟩))
theorem ev_str {x kk pos} : Evals w k gs ρ (.Constant (.str x) kk pos) (.str x) := fun env A f s _ ok Q E hQ =>
  wpAny_Constant_str (hQ _ _ _ (Grew.same (tk := s.toks + 1) ok.okf.sub fun _ _ e => e) (by simp only [Rel]; exact ⟨_, rfl⟩))
theorem ev_bool {b kk pos} : Evals w k gs ρ (.Constant (.bool b) kk pos) (.bool b) := fun env A f s _ ok Q E hQ =>
  wpAny_Constant_bool (hQ _ _ _ ok.okf.refl (by simp only [Rel]))
theorem ev_none {kk pos} : Evals w k gs ρ (.Constant .none kk pos) .non := fun env A f s _ ok Q E hQ =>
  wpAny_Constant_none (hQ _ _ _ ok.okf.refl (by simp only [Rel]))
theorem ev_bytes {x kk pos} : Evals w k gs ρ (.Constant (.bytes x) kk pos) (.byt x.toArray) := fun env A f s _ ok Q E hQ => by
  have h := hQ (.bytes x.toArray s.toks) _ _ (Grew.same (tk := s.toks + 1) (h' := s.heap) ok.okf.sub fun _ _ e => e) (by simp only [Rel]; exact ⟨_, rfl⟩)
  exact fun _ _ _ => h
theorem ev_name {x pos c v} (hx : ρ.lookup x = some (c, v) := by wtm_at "lk") (hd : (x == ("__debug__" : Str)) = false := by decide) (hn : (x == ("__classdict__" : Str)) = false := by decide) :
    Evals w k gs ρ (.Name x pos) v := fun env A f s _ ok Q E hQ => by
  have H := ok.held x c v hx
  cases c with
  | false =>
    obtain ⟨hk, m, val, hns, hm, r⟩ := H
    exact wpAny_Name (wpAny_loadName_local ok.kind hk hns hm (hQ _ _ _ ok.okf.refl r)) hd
  | true =>
    obtain ⟨hk, a, val, hc, hns, r⟩ := H
    rcases hk with hk | hk
    · exact wpAny_Name (wpAny_loadName_cell ok.kind hk hc hns (hQ _ _ _ ok.okf.refl r)) hd
    · exact wpAny_Name (wpAny_loadName_free ok.kind hk hc hns (hQ _ _ _ ok.okf.refl r) hn) hd
noncomputable def gObj (P : Params) : Obj := ((Kf P).lookup mainGlobals).getD default
noncomputable def bObj (P : Params) : Obj := ((Kf P).lookup builtinsNs).getD default
noncomputable def entsOf (o : Obj) : Array DictEntry := match o.data with | .dict es _ => es | _ => #[]
noncomputable def strKeysB (es : Array DictEntry) : Bool := es.toList.all fun e => match e.key with | .str _ _ => true | _ => false
theorem strKeys_of {es : Array DictEntry} (h : strKeysB es = true) : StrKeys es := by
  intro e he
  have := List.all_eq_true.mp h e (by simpa using he)
  split at this
  · rename_i n t hk; exact ⟨n, t, hk⟩
  · cases this
theorem g_lookup (P : Params) : (Kf P).lookup mainGlobals = some (gObj P) := by unfold gObj; kernel_rfl
theorem b_lookup (P : Params) : (Kf P).lookup builtinsNs = some (bObj P) := by unfold bObj; kernel_rfl
theorem g_keys (P : Params) : strKeysB (entsOf (gObj P)) = true := by kernel_rfl
theorem b_keys (P : Params) : strKeysB (entsOf (bObj P)) = true := by kernel_rfl
theorem g_data (P : Params) : (gObj P).data = .dict (entsOf (gObj P)) (match (gObj P).data with | .dict _ n => n | _ => 0) := by kernel_rfl
theorem b_data (P : Params) : (bObj P).data = .dict (entsOf (bObj P)) (match (bObj P).data with | .dict _ n => n | _ => 0) := by kernel_rfl
noncomputable def mgF (P : Params) : Str → Option Value := nsFind (entsOf (gObj P))
noncomputable def mbF (P : Params) : Str → Option Value := nsFind (entsOf (bObj P))
theorem TopF.g {w : World} {f : Fz} (t : TopF w f) (h : ∀ a o, f a = some o → s.heap.get? a = some o) : s.heap.Ns mainGlobals (mgF w.params) :=
  ⟨_, _, _, h _ _ (t _ _ (g_lookup w.params) (by decide)), g_data w.params, strKeys_of (g_keys _), fun _ => rfl⟩
theorem TopF.b {w : World} {f : Fz} (t : TopF w f) (h : ∀ a o, f a = some o → s.heap.get? a = some o) : s.heap.Ns builtinsNs (mbF w.params) :=
  ⟨_, _, _, h _ _ (t _ _ (b_lookup w.params) (by decide)), b_data w.params, strKeys_of (b_keys _), fun _ => rfl⟩
noncomputable def GlobIs (x : Str) (v : V) : Prop := ∀ P, (∃ val, mgF P x = some val ∧ ∀ f, Rel f v val) ∨ (mgF P x = none ∧ ∃ val, mbF P x = some val ∧ ∀ f, Rel f v val)
theorem ev_glob {x pos v} (hx : gs.lookup x = some .globalImplicit) (hg : GlobIs x v) (hd : (x == ("__debug__" : Str)) = false := by decide) : Evals w k gs ρ (.Name x pos) v := fun env A f s _ ok Q E hQ => by
  have hG := ok.okf.top.g (s := s) ok.okf.sub
  have hB := ok.okf.top.b (s := s) ok.okf.sub
  refine Name_function_global ok.kind (by unfold Env.kindOf; rw [ok.gss]; exact hx) ?_ hd
  rcases hg w.params with ⟨val, h1, h2⟩ | ⟨h0, val, h1, h2⟩
  · exact loadGlobal_global (by rw [ok.glob]; exact hG) h1 (hQ _ _ _ ok.okf.refl (h2 f))
  · exact loadGlobal_builtin (by rw [ok.glob]; exact hG) h0 (by rw [ok.blt]; exact hB) h1 (hQ _ _ _ ok.okf.refl (h2 f))
theorem glob_top {x : Str} {a : Addr} (h : ∀ P, mgF P x = some (.ref a)) : GlobIs x (.top a) := fun P => .inl ⟨_, h P, fun f => by simp only [Rel]⟩
theorem glob_bi {x : Str} {n : String} (h0 : ∀ P, mgF P x = none) (h : ∀ P, mbF P x = some (.builtin n)) : GlobIs x (.bi n) := fun P => .inr ⟨h0 P, _, h P, fun f => by simp only [Rel]⟩
theorem glob_typ {x : Str} {n : String} (h0 : ∀ P, mgF P x = none) (h : ∀ P, mbF P x = some (.type n)) : GlobIs x (.typ n) := fun P => .inr ⟨h0 P, _, h P, fun f => by simp only [Rel]⟩
theorem ev_bin {op l r pos a b v} (hl : Evals w k gs ρ l a) (hr : Evals w k gs ρ r b) (ho : BinOk w k op a b v) : Evals w k gs ρ (.BinOp l op r pos) v :=
  fun env A f s rm ok Q E hQ => wpAny_BinOp (hl env A f s rm ok _ _ fun va s₁ f₁ g₁ r₁ => hr env A f₁ s₁ rm (ok.grew g₁) _ _ fun vb s₂ f₂ g₂ r₂ =>
    ho A f₂ s₂ va vb rm ((ok.grew g₁).grew g₂).okf (r₁.mono g₂.le) r₂ _ _ fun val s' f' g' r' => hQ val s' f' ((g₁.trans g₂).trans g') r')
theorem ev_cmp {op l r pos a b c} (hl : Evals w k gs ρ l a) (hr : Evals w k gs ρ r b) (ho : CmpOk w k op a b c) (hm : behindInMarks op r = false := by with_unfolding_all rfl) :
    Evals w k gs ρ (.Compare l [op] [r] pos) (.bool c) :=
  fun env A f s rm ok Q E hQ => wpAny_Compare1 (hl env A f s rm ok _ _ fun va s₁ f₁ g₁ r₁ => hr env A f₁ s₁ rm (ok.grew g₁) _ _ fun vb s₂ f₂ g₂ r₂ =>
    ho A f₂ s₂ va vb rm ((ok.grew g₁).grew g₂).okf (r₁.mono g₂.le) r₂ _ _ fun val s' f' g' r' => hQ val s' f' ((g₁.trans g₂).trans g') r') hm
theorem t_cmp {op l r pos a b c} (hl : Evals w k gs ρ l a) (hr : Evals w k gs ρ r b) (ho : CmpOk w k op a b c) (hm : behindInMarks op r = false := by with_unfolding_all rfl) :
    Tests w k gs ρ (.Compare l [op] [r] pos) c :=
  fun env A f s rm ok Q E hQ => wpAny_isTrue_Compare1 (hl env A f s rm ok _ _ fun va s₁ f₁ g₁ r₁ => hr env A f₁ s₁ rm (ok.grew g₁) _ _ fun vb s₂ f₂ g₂ r₂ =>
    ho A f₂ s₂ va vb rm ((ok.grew g₁).grew g₂).okf (r₁.mono g₂.le) r₂ _ _ fun val s' f' g' r' => by
      simp only [Rel] at r'; subst r'
      exact wpAny_truthy_bool (hQ s' f' ((g₁.trans g₂).trans g'))) hm
theorem t_val {e a c} (he : Evals w k gs ρ e a) (ht : TruthOk w k a c) (hs : ∀ env whole, isTrue e env whole = (do let v ← whole; standAt e.pos; holding [v] (truthy v)) := by intros; rfl) :
    Tests w k gs ρ e c :=
  fun env A f s rm ok Q E hQ => wpAny_isTrue_value (he env A f s rm ok _ _ fun va s₁ f₁ g₁ r₁ => ht A f₁ s₁ va rm (ok.grew g₁).okf r₁ _ _ fun s' f' g' => hQ s' f' (g₁.trans g')) (hs env _)
theorem t_not {x pos c} (hx : Tests w k gs ρ x c) : Tests w k gs ρ (.UnaryOp .Not x pos) (!c) :=
  fun env A f s rm ok Q E hQ => wpAny_isTrue_Not (hx env A f s rm ok _ _ fun s' f' g' => hQ s' f' g')
noncomputable def AllT (w : World) (k : Nat) (gs : List (Str × NameKind)) (ρ : Rho) (op : BoolOp) (es : List Expr) (b : Bool) : Prop :=
  ∀ (env : Env) (A : Around) (f : Fz) (s : Shared), Room k A → Ok w gs env ρ f s → RunB w A f s (allTrue op es env) b
theorem t_op {op es pos b} (h : AllT w k gs ρ op es b) : Tests w k gs ρ (.BoolOp op es pos) b :=
  fun env A f s rm ok Q E hQ => wpAny_isTrue_BoolOp (h env A f s rm ok _ _ hQ)
theorem and_nil : AllT w k gs ρ .And [] true := fun env A f s rm ok Q E hQ => wpAny_allTrue_And_nil (hQ _ _ ok.okf.refl)
theorem or_nil : AllT w k gs ρ .Or [] false := fun env A f s rm ok Q E hQ => wpAny_allTrue_Or_nil (hQ _ _ ok.okf.refl)
theorem and_stop {x rest} (h : Tests w k gs ρ x false) : AllT w k gs ρ .And (x :: rest) false :=
  fun env A f s rm ok Q E hQ => wpAny_allTrue_And_cons (h env A f s rm ok _ _ fun s' f' g' => by simpa using hQ s' f' g')
theorem and_go {x rest b} (h : Tests w k gs ρ x true) (h2 : AllT w k gs ρ .And rest b) : AllT w k gs ρ .And (x :: rest) b :=
  fun env A f s rm ok Q E hQ => wpAny_allTrue_And_cons (h env A f s rm ok _ _ fun s' f' g' => by
    simpa using h2 env A f' s' rm (ok.grew g') Q E fun s'' f'' g'' => hQ s'' f'' (g'.trans g''))
theorem or_stop {x rest} (h : Tests w k gs ρ x true) : AllT w k gs ρ .Or (x :: rest) true :=
  fun env A f s rm ok Q E hQ => wpAny_allTrue_Or_cons (h env A f s rm ok _ _ fun s' f' g' => by simpa using hQ s' f' g')
theorem or_go {x rest b} (h : Tests w k gs ρ x false) (h2 : AllT w k gs ρ .Or rest b) : AllT w k gs ρ .Or (x :: rest) b :=
  fun env A f s rm ok Q E hQ => wpAny_allTrue_Or_cons (h env A f s rm ok _ _ fun s' f' g' => by
    simpa using h2 env A f' s' rm (ok.grew g') Q E fun s'' f'' g'' => hQ s'' f'' (g'.trans g''))
theorem ev_if_t {test body orelse pos v} (ht : Tests w k gs ρ test true) (h : Evals w k gs ρ body v) : Evals w k gs ρ (.IfExp test body orelse pos) v :=
  fun env A f s rm ok Q E hQ => wpAny_IfExp (ht env A f s rm ok _ _ fun s' f' g' => by
    simpa using h env A f' s' rm (ok.grew g') Q E fun val s'' f'' g'' r => hQ val s'' f'' (g'.trans g'') r)
theorem ev_if_f {test body orelse pos v} (ht : Tests w k gs ρ test false) (h : Evals w k gs ρ orelse v) : Evals w k gs ρ (.IfExp test body orelse pos) v :=
  fun env A f s rm ok Q E hQ => wpAny_IfExp (ht env A f s rm ok _ _ fun s' f' g' => by
    simpa using h env A f' s' rm (ok.grew g') Q E fun val s'' f'' g'' r => hQ val s'' f'' (g'.trans g'') r)
theorem ev_not {x pos a c} (hx : Evals w k gs ρ x a) (ht : TruthOk w k a c) : Evals w k gs ρ (.UnaryOp .Not x pos) (.bool (!c)) :=
  fun env A f s rm ok Q E hQ => wpAny_UnaryOp (hx env A f s rm ok _ _ fun va s₁ f₁ g₁ r₁ => not_value (ht A f₁ s₁ va rm (ok.grew g₁).okf r₁ _ _ fun s' f' g' =>
    hQ _ s' f' (g₁.trans g') (by simp only [Rel])))
theorem ev_or_stop {x y pos a} (hx : Evals w k gs ρ x a) (ht : TruthOk w k a true) : Evals w k gs ρ (.BoolOp .Or [x, y] pos) a :=
  fun env A f s rm ok Q E hQ => wpAny_Or2 (hx env A f s rm ok _ _ fun va s₁ f₁ g₁ r₁ => ht A f₁ s₁ va rm (ok.grew g₁).okf r₁ _ _ fun s' f' g' => by
    simpa using hQ va s' f' (g₁.trans g') (r₁.mono g'.le))
theorem evl_nil : EvalsL w k gs ρ [] [] := fun env A f s pos rm ok Q E hQ => wpAny_items_nil (hQ _ _ _ ok.okf.refl RelL.nil)
theorem evl_cons {e rest v l} (he : Evals w k gs ρ e v) (hl : EvalsL w k gs ρ rest l) (hs : ∀ env, starEach (e :: rest) env = (false, eval e env) :: starEach rest env := by intro _; rfl) :
    EvalsL w k gs ρ (e :: rest) (v :: l) := fun env A f s pos rm ok Q E hQ =>
  wpAny_items_cons (he env A f s rm ok _ _ fun va s₁ f₁ g₁ r₁ => hl env A f₁ s₁ pos rm (ok.grew g₁) _ _ fun vs s₂ f₂ g₂ r₂ =>
    hQ _ s₂ f₂ (g₁.trans g₂) (RelL.cons (r₁.mono g₂.le) r₂)) (hs env)
theorem ev_tup {elts kk pos l} (h : EvalsL w k gs ρ elts l) (hsz : l.length ≤ 1000000 := by simp) : Evals w k gs ρ (.Tuple elts kk pos) (.tup l) :=
  fun env A f s rm ok Q E hQ => wpAny_Tuple (h env A f s pos rm ok _ _ fun vs s₁ f₁ g₁ r₁ => by
    refine ⟨by rw [r₁.length, sizeLine_eq]; omega, ?_⟩
    have g2 : Grew f₁ s₁ (f₁.add s₁.heap.objs.size (tupO vs)) { s₁ with heap := s₁.heap.push (tupO vs), toks := s₁.toks } :=
      Grew.add (g₁.sub) (fun b o e => Heap.get?_push_of_some _ e) (get?_size _) (Heap.get?_push_size _ rfl)
    exact hQ _ _ _ (g₁.trans g2) (by simp only [Rel]; exact ⟨_, vs, rfl, Fz.add_self .., RelL.mono g2.le r₁⟩))
theorem ev_lst {elts pos l} (h : EvalsL w k gs ρ elts l) (hsz : l.length ≤ 1000000 := by simp) : Evals w k gs ρ (.List elts pos) (.lst l) :=
  fun env A f s rm ok Q E hQ => wpAny_List (h env A f s pos rm ok _ _ fun vs s₁ f₁ g₁ r₁ => by
    refine ⟨by rw [r₁.length, sizeLine_eq]; omega, ?_⟩
    have g2 : Grew f₁ s₁ (f₁.add s₁.heap.objs.size (lstO vs 0)) { s₁ with heap := s₁.heap.push (lstO vs 0), toks := s₁.toks } :=
      Grew.add (g₁.sub) (fun b o e => Heap.get?_push_of_some _ e) (get?_size _) (Heap.get?_push_size _ rfl)
    exact hQ _ _ _ (g₁.trans g2) (by simp only [Rel]; exact ⟨_, vs, 0, rfl, Fz.add_self .., RelL.mono g2.le r₁⟩))
end
section
variable {f : Fz} {v : Value}
theorem rel_none : Rel f .non v ↔ v = .none := by simp only [Rel]
theorem rel_bool {b} : Rel f (.bool b) v ↔ v = .bool b := by simp only [Rel]
theorem rel_int {i} : Rel f (.int i) v ↔ ∃ t, v = .int i t := by simp only [Rel]
theorem rel_str {x} : Rel f (.str x) v ↔ ∃ t, v = .str x t := by simp only [Rel]
theorem rel_byt {x} : Rel f (.byt x) v ↔ ∃ t, v = .bytes x t := by simp only [Rel]
theorem rel_typ {x} : Rel f (.typ x) v ↔ v = .type x := by simp only [Rel]
theorem rel_bi {x} : Rel f (.bi x) v ↔ v = .builtin x := by simp only [Rel]
theorem rel_top {x} : Rel f (.top x) v ↔ v = .ref x := by simp only [Rel]
theorem rel_tup {l} : Rel f (.tup l) v ↔ ∃ a vs, v = .ref a ∧ f a = some (tupO vs) ∧ RelL f l vs := by simp only [Rel]
theorem rel_lst {l} : Rel f (.lst l) v ↔ ∃ a vs n, v = .ref a ∧ f a = some (lstO vs n) ∧ RelL f l vs := by simp only [Rel]
theorem relI {i t} : Rel f (.int i) (.int i t) := rel_int.mpr ⟨_, rfl⟩
theorem relS {i t} : Rel f (.str i) (.str i t) := rel_str.mpr ⟨_, rfl⟩
theorem relY {i t} : Rel f (.byt i) (.bytes i t) := rel_byt.mpr ⟨_, rfl⟩
theorem relB {b} : Rel f (.bool b) (.bool b) := rel_bool.mpr rfl
end
theorem isList_of {h : Heap} {a : Addr} {vs : List Value} {n : Nat} (e : h.get? a = some (lstO vs n)) : h.IsList a vs.toArray := ⟨_, e, rfl, n, rfl⟩
theorem isTup_of {h : Heap} {a : Addr} {vs : List Value} (e : h.get? a = some (tupO vs)) : IsTup h a vs.toArray := ⟨_, e, rfl, 0, rfl⟩
theorem isT_of {h : Heap} {a : Addr} {vs : List Value} (e : h.get? a = some (tupO vs)) : IsT h a vs.toArray 0 := e
theorem RelL.filterMap {f : Fz} {l : List V} {vs : List Value} (r : RelL f l vs) (idx : List Nat) : RelL f (idx.filterMap (l[·]?)) (idx.filterMap (vs[·]?)) := by
  induction idx with
  | nil => exact RelL.nil
  | cons i idx ih =>
    cases h : l[i]? with
    | none =>
      have hl := r.length
      have : vs[i]? = none := by
        rw [List.getElem?_eq_none_iff] at h ⊢; omega
      simp only [List.filterMap_cons, h, this]; exact ih
    | some x =>
      refine ob1_2 (r.get h) fun y hy rx => ?_
      simp only [List.filterMap_cons, h, hy]
      exact RelL.cons rx ih
section
variable {w : World} {k : Nat} {gs : List (Str × NameKind)} {ρ : Rho}
theorem bin_add {a b : Int} : BinOk w k .Add (.int a) (.int b) (.int (a + b)) := fun A f s va vb _ ok ra rb Q E hQ => by
  refine ob1_1 (rel_int.mp ra) fun t z0 => ?_; subst z0; refine ob1_1 (rel_int.mp rb) fun u z0 => ?_; subst z0
  with_reducible exact wpAny_add_int (hQ _ _ _ (Grew.same ok.sub fun _ _ e => e) relI)
theorem bin_sub {a b : Int} : BinOk w k .Sub (.int a) (.int b) (.int (a - b)) := fun A f s va vb _ ok ra rb Q E hQ => by
  refine ob1_1 (rel_int.mp ra) fun t z0 => ?_; subst z0; refine ob1_1 (rel_int.mp rb) fun u z0 => ?_; subst z0
  with_reducible exact PyProof.Rows.sub_int (hQ _ _ _ (Grew.same ok.sub fun _ _ e => e) relI)
theorem bin_mul {a b : Int} (h : IntMulOk a b) : BinOk w k .Mult (.int a) (.int b) (.int (a * b)) := fun A f s va vb _ ok ra rb Q E hQ => by
  refine ob1_1 (rel_int.mp ra) fun t z0 => ?_; subst z0; refine ob1_1 (rel_int.mp rb) fun u z0 => ?_; subst z0
  with_reducible exact PyProof.Rows.mul_int (hQ _ _ _ (Grew.same ok.sub fun _ _ e => e) relI) h
theorem bin_mod {a b : Int} (h : b ≠ 0) : BinOk w k .Mod (.int a) (.int b) (.int (a.fmod b)) := fun A f s va vb _ ok ra rb Q E hQ => by
  refine ob1_1 (rel_int.mp ra) fun t z0 => ?_; subst z0; refine ob1_1 (rel_int.mp rb) fun u z0 => ?_; subst z0
  with_reducible exact PyProof.Rows.mod_int' h (hQ _ _ _ (Grew.same ok.sub fun _ _ e => e) relI)
theorem bin_div {a b : Int} (h : b ≠ 0) (hp : Builtin.divisionGoesByPylong a b = false) : BinOk w k .FloorDiv (.int a) (.int b) (.int (a.fdiv b)) := fun A f s va vb _ ok ra rb Q E hQ => by
  refine ob1_1 (rel_int.mp ra) fun t z0 => ?_; subst z0; refine ob1_1 (rel_int.mp rb) fun u z0 => ?_; subst z0
  with_reducible exact PyProof.Rows.floordiv_int h (hQ _ _ _ (Grew.same ok.sub fun _ _ e => e) relI) (.inl hp)
theorem bin_shr {a b : Int} (h : 0 ≤ b) : BinOk w k .RShift (.int a) (.int b) (.int (a.fdiv (2 ^ b.toNat))) := fun A f s va vb _ ok ra rb Q E hQ => by
  refine ob1_1 (rel_int.mp ra) fun t z0 => ?_; subst z0; refine ob1_1 (rel_int.mp rb) fun u z0 => ?_; subst z0
  with_reducible exact PyProof.Rows.rshift_int h (hQ _ _ _ (Grew.same ok.sub fun _ _ e => e) relI)
theorem bin_shl {a b : Int} (h : 0 ≤ b) (h2 : b ≤ 1000000) (ha : a.natAbs < 2 ^ 64) : BinOk w k .LShift (.int a) (.int b) (.int (a * 2 ^ b.toNat)) := fun A f s va vb _ ok ra rb Q E hQ => by
  refine ob1_1 (rel_int.mp ra) fun t z0 => ?_; subst z0; refine ob1_1 (rel_int.mp rb) fun u z0 => ?_; subst z0
  with_reducible exact PyProof.Rows.lshift_int_small h h2 ha (hQ _ _ _ (Grew.same ok.sub fun _ _ e => e) relI)
theorem bin_and {a b : Int} : BinOk w k .BitAnd (.int a) (.int b) (.int (Builtin.bitAnd a b)) := fun A f s va vb _ ok ra rb Q E hQ => by
  refine ob1_1 (rel_int.mp ra) fun t z0 => ?_; subst z0; refine ob1_1 (rel_int.mp rb) fun u z0 => ?_; subst z0
  with_reducible exact PyProof.Rows.and_int (hQ _ _ _ (Grew.same ok.sub fun _ _ e => e) relI)
theorem bin_or {a b : Int} : BinOk w k .BitOr (.int a) (.int b) (.int (Builtin.bitOr a b)) := fun A f s va vb _ ok ra rb Q E hQ => by
  refine ob1_1 (rel_int.mp ra) fun t z0 => ?_; subst z0; refine ob1_1 (rel_int.mp rb) fun u z0 => ?_; subst z0
  with_reducible exact PyProof.Rows.or_int (hQ _ _ _ (Grew.same ok.sub fun _ _ e => e) relI)
theorem bin_pow {a b : Int} (h : 0 ≤ b) (hs : (Builtin.Int.intBits a : Int) * b ≤ 2 ^ 27) : BinOk w k .Pow (.int a) (.int b) (.int (a ^ b.toNat)) := fun A f s va vb _ ok ra rb Q E hQ => by
  refine ob1_1 (rel_int.mp ra) fun t z0 => ?_; subst z0; refine ob1_1 (rel_int.mp rb) fun u z0 => ?_; subst z0
  with_reducible exact PyProof.Rows.pow_int h hs (hQ _ _ _ (Grew.same ok.sub fun _ _ e => e) relI)
theorem bin_adds {a b : Str} (h : a.length + b.length ≤ 1000000) : BinOk w k .Add (.str a) (.str b) (.str (a ++ b)) := fun A f s va vb _ ok ra rb Q E hQ => by
  refine ob1_1 (rel_str.mp ra) fun t z0 => ?_; subst z0; refine ob1_1 (rel_str.mp rb) fun u z0 => ?_; subst z0
  with_reducible exact PyProof.Rows.add_str (fun t' tk => hQ _ _ _ (Grew.same ok.sub fun _ _ e => e) relS) (by rw [sizeLine_eq]; omega)
theorem cmp_lt {a b : Int} : CmpOk w k .Lt (.int a) (.int b) (decide (a < b)) := fun A f s va vb _ ok ra rb Q E hQ => by
  refine ob1_1 (rel_int.mp ra) fun t z0 => ?_; subst z0; refine ob1_1 (rel_int.mp rb) fun u z0 => ?_; subst z0
  with_reducible exact wpAny_lt_int (hQ _ _ _ ok.refl relB)
theorem cmp_gt {a b : Int} : CmpOk w k .Gt (.int a) (.int b) (decide (b < a)) := fun A f s va vb _ ok ra rb Q E hQ => by
  refine ob1_1 (rel_int.mp ra) fun t z0 => ?_; subst z0; refine ob1_1 (rel_int.mp rb) fun u z0 => ?_; subst z0
  with_reducible exact PyProof.Rows.gt_int (hQ _ _ _ ok.refl relB)
theorem cmp_le {a b : Int} : CmpOk w k .LtE (.int a) (.int b) (decide (a ≤ b)) := fun A f s va vb _ ok ra rb Q E hQ => by
  refine ob1_1 (rel_int.mp ra) fun t z0 => ?_; subst z0; refine ob1_1 (rel_int.mp rb) fun u z0 => ?_; subst z0
  with_reducible exact PyProof.Rows.le_int (hQ _ _ _ ok.refl relB)
theorem cmp_ge {a b : Int} : CmpOk w k .GtE (.int a) (.int b) (decide (b ≤ a)) := fun A f s va vb _ ok ra rb Q E hQ => by
  refine ob1_1 (rel_int.mp ra) fun t z0 => ?_; subst z0; refine ob1_1 (rel_int.mp rb) fun u z0 => ?_; subst z0
  with_reducible exact PyProof.Rows.ge_int (hQ _ _ _ ok.refl relB)
theorem cmp_eqi {a b : Int} : CmpOk w k .Eq (.int a) (.int b) (a == b) := fun A f s va vb _ ok ra rb Q E hQ => by
  refine ob1_1 (rel_int.mp ra) fun t z0 => ?_; subst z0; refine ob1_1 (rel_int.mp rb) fun u z0 => ?_; subst z0
  with_reducible exact PyProof.Rows.eq_int (hQ _ _ _ ok.refl relB)
theorem cmp_nei {a b : Int} : CmpOk w k .NotEq (.int a) (.int b) (a != b) := fun A f s va vb _ ok ra rb Q E hQ => by
  refine ob1_1 (rel_int.mp ra) fun t z0 => ?_; subst z0; refine ob1_1 (rel_int.mp rb) fun u z0 => ?_; subst z0
  with_reducible exact PyProof.Rows.ne_int (hQ _ _ _ ok.refl relB)
theorem cmp_eqs {a b : Str} : CmpOk w k .Eq (.str a) (.str b) (a == b) := fun A f s va vb _ ok ra rb Q E hQ => by
  refine ob1_1 (rel_str.mp ra) fun t z0 => ?_; subst z0; refine ob1_1 (rel_str.mp rb) fun u z0 => ?_; subst z0
  with_reducible exact PyProof.Rows.eq_str (hQ _ _ _ ok.refl relB)
theorem cmp_nes {a b : Str} : CmpOk w k .NotEq (.str a) (.str b) (a != b) := fun A f s va vb _ ok ra rb Q E hQ => by
  refine ob1_1 (rel_str.mp ra) fun t z0 => ?_; subst z0; refine ob1_1 (rel_str.mp rb) fun u z0 => ?_; subst z0
  with_reducible exact PyProof.Rows.ne_str (hQ _ _ _ ok.refl relB)
theorem cmp_ney {a b : Array UInt8} : CmpOk w k .NotEq (.byt a) (.byt b) (a.toList != b.toList) := fun A f s va vb _ ok ra rb Q E hQ => by
  refine ob1_1 (rel_byt.mp ra) fun t z0 => ?_; subst z0; refine ob1_1 (rel_byt.mp rb) fun u z0 => ?_; subst z0
  with_reducible exact ne_bytes (hQ _ _ _ ok.refl relB)
theorem cmp_neb {a b : Bool} : CmpOk w k .NotEq (.bool a) (.bool b) (a != b) := fun A f s va vb _ ok ra rb Q E hQ => by
  obtain rfl := rel_bool.mp ra; obtain rfl := rel_bool.mp rb
  with_reducible exact PyProof.Rows.ne_bool (hQ _ _ _ ok.refl relB)
theorem cmp_is_none {a : V} {c : Bool} (h : ∀ f v, Rel f a v → (v == .none) = c) : CmpOk w k .Is a .non c := fun A f s va vb _ ok ra rb Q E hQ => by
  obtain rfl := rel_none.mp rb
  with_reducible exact is_none (by rw [h f va ra]; exact hQ _ _ _ ok.refl relB)
theorem cmp_isnot_none {a : V} {c : Bool} (h : ∀ f v, Rel f a v → (!(v == .none)) = c) : CmpOk w k .IsNot a .non c := fun A f s va vb _ ok ra rb Q E hQ => by
  obtain rfl := rel_none.mp rb
  with_reducible exact isNot_none (by rw [h f va ra]; exact hQ _ _ _ ok.refl relB)
theorem tr_bool {b : Bool} : TruthOk w k (.bool b) b := fun A f s va _ ok ra Q E hQ => by
  obtain rfl := rel_bool.mp ra
  with_reducible exact wpAny_truthy_bool (hQ _ _ ok.refl)
theorem tr_none : TruthOk w k .non false := fun A f s va _ ok ra Q E hQ => by
  obtain rfl := rel_none.mp ra
  exact fun _ _ _ => hQ _ _ ok.refl
theorem tr_int {i : Int} : TruthOk w k (.int i) (i != 0) := fun A f s va _ ok ra Q E hQ => by
  refine ob1_1 (rel_int.mp ra) fun t z0 => ?_; subst z0
  with_reducible exact P.truthy_int (hQ _ _ ok.refl)
theorem tr_str {x : Str} (h : x.length ≤ 1000000) : TruthOk w k (.str x) ((x.length : Int) != 0) := fun A f s va _ ok ra Q E hQ => by
  refine ob1_1 (rel_str.mp ra) fun t z0 => ?_; subst z0
  with_reducible exact P.truthy_str (by omega) (hQ _ _ (Grew.same ok.sub fun _ _ e => e))
theorem tr_lst {l : List V} (h : l.length ≤ 1000000) : TruthOk w k (.lst l) ((l.length : Int) != 0) := fun A f s va _ ok ra Q E hQ => by
  refine ob3_3 (rel_lst.mp ra) fun a vs n z0 ha rl => ?_; subst z0
  have hlen := rl.length
  have e : (!vs.toArray.isEmpty) = ((l.length : Int) != 0) := by
    cases vs with
    | nil => cases l with
      | nil => rfl
      | cons => simp at hlen
    | cons => cases l with
      | nil => simp at hlen
      | cons => simp; omega
  refine wpAny_truthy_list (isList_of (ok.sub _ _ ha)) ?_ ?_
  · rw [List.size_toArray, hlen]; omega
  · rw [e]
    exact hQ _ _ (Grew.same ok.sub fun _ _ e => e)
noncomputable def ItemOk (w : World) (k : Nat) (o i v : V) : Prop :=
  ∀ (A : Around) (f : Fz) (s : Shared) (vo vi : Value), Room k A → Okf w f s → Rel f o vo → Rel f i vi → ∃ T id, typeLookup (.type T) "__getitem__" = pure (some (.builtin id)) ∧ s.TypeIs vo T ∧ Run w A f s (getItem vo vi) v
theorem ev_sub {value slice pos o i v} (hv : Evals w k gs ρ value o) (hi : Evals w k gs ρ slice i) (h : ItemOk w k o i v)
    (hs : ∀ a b, subscripted slice false a b = operate [a, b] (getItem a b) := by intros; rfl) : Evals w k gs ρ (.Subscript value slice pos) v :=
  fun env A f s rm ok Q E hQ => Subscript_ (hv env A f s rm ok _ _ fun va s₁ f₁ g₁ r₁ => hi env A f₁ s₁ rm (ok.grew g₁) _ _ fun vb s₂ f₂ g₂ r₂ => by
    refine ob2_3 (h A f₂ s₂ va vb rm ((ok.grew g₁).grew g₂).okf (r₁.mono g₂.le) r₂) fun T id hl hT hr => ?_
    exact tail_any hT hl (hr _ _ fun val s' f' g' r' => hQ val s' f' ((g₁.trans g₂).trans g') r') (hs va vb))
theorem it_lst {l : List V} {i : Int} {v : V} (h0 : 0 ≤ i) (hb : i < 1000000) (h : l[i.toNat]? = some v) : ItemOk w k (.lst l) (.int i) v := fun A f s vo vi _ ok ro ri => by
  refine ob3_3 (rel_lst.mp ro) fun a vs n z0 ha rl => ?_; subst z0
  refine ob1_1 (rel_int.mp ri) fun t z0 => ?_; subst z0
  refine ob1_2 (rl.get h) fun y hy ry => ?_
  have hl := isList_of (ok.sub _ _ ha)
  exact ⟨"list", _, list_getitem_lookup, hl.typeIs, fun Q E hQ => wpAny_getItem_list hl h0 (by omega) (by simpa using hy) (hQ _ _ _ ok.refl ry)⟩
theorem it_lst_neg {l : List V} {i : Int} {v : V} (h0 : i < 0) (h1 : -(l.length : Int) ≤ i) (hb : -1000000 ≤ i) (h : l[(i + l.length).toNat]? = some v) : ItemOk w k (.lst l) (.int i) v := fun A f s vo vi _ ok ro ri => by
  refine ob3_3 (rel_lst.mp ro) fun a vs n z0 ha rl => ?_; subst z0
  refine ob1_1 (rel_int.mp ri) fun t z0 => ?_; subst z0
  refine ob1_2 (rl.get h) fun y hy ry => ?_
  have hl := isList_of (ok.sub _ _ ha)
  have hlen : vs.toArray.size = l.length := by rw [List.size_toArray, rl.length]
  have h2 : -((vs.toArray.size : Nat) : Int) ≤ i := by rw [hlen]; exact h1
  have h3 : -(2 ^ 63 : Int) ≤ i := by
    have : -(2 ^ 63 : Int) ≤ -1000000 := by decide
    exact Int.le_trans this hb
  exact ⟨"list", _, list_getitem_lookup, hl.typeIs, fun Q E hQ => wpAny_getItem_list_neg hl h0 h2 h3 (by rw [hlen]; simpa using hy) (hQ _ _ _ ok.refl ry)⟩
theorem it_tup {l : List V} {i : Int} {v : V} (h0 : 0 ≤ i) (hb : i < 1000000) (h : l[i.toNat]? = some v) : ItemOk w k (.tup l) (.int i) v := fun A f s vo vi _ ok ro ri => by
  refine ob2_3 (rel_tup.mp ro) fun a vs z0 ha rl => ?_; subst z0
  refine ob1_1 (rel_int.mp ri) fun t z0 => ?_; subst z0
  refine ob1_2 (rl.get h) fun y hy ry => ?_
  have ht := isT_of (ok.sub _ _ ha)
  have hlt : i.toNat < vs.length := by
    rcases Nat.lt_or_ge i.toNat vs.length with q | q
    · exact q
    · rw [List.getElem?_eq_none_iff.mpr q] at hy; cases hy
  have hlo : -2 ^ 63 ≤ i := Int.le_trans (by decide) h0
  have hhi : i < 2 ^ 63 := Int.lt_trans hb (by decide)
  refine ⟨"tuple", _, F.slot_tuple_getitem.lookup, ⟨_, ht, rfl⟩, fun Q E hQ => P.getItem_tuple (n := 0) ht hlo hhi (k := i.toNat) ?_ (by rw [List.getElem?_toArray]; exact hy) (hQ _ _ _ ok.refl ry)⟩
  have hi0 : ¬ i < 0 := by omega
  have hi1 : i < (vs.length : Int) := by omega
  simp [seqIndex?, hi0, hi1, h0]
theorem it_str {x : Str} {i : Int} {c : Nat} (h0 : 0 ≤ i) (hb : i < 1000000) (h : x.cps[i.toNat]? = some c) : ItemOk w k (.str x) (.int i) (.str ⟨#[c]⟩) := fun A f s vo vi _ ok ro ri => by
  refine ob1_1 (rel_str.mp ro) fun u z0 => ?_; subst z0
  refine ob1_1 (rel_int.mp ri) fun t z0 => ?_; subst z0
  have hlt : i.toNat < x.cps.size := by
    rcases Nat.lt_or_ge i.toNat x.cps.size with q | q
    · exact q
    · rw [Array.getElem?_eq_none_iff.mpr q] at h; cases h
  refine ⟨"str", _, F.slot_str_getitem.lookup, typeIs_str _ _ _, fun Q E hQ => P.getItem_str ?_ ?_ (hQ _ _ _ (Grew.same ok.sub fun _ _ e => e) relS)⟩
  · have a : ¬ i < -9223372036854775808 := by omega
    have b : ¬ 9223372036854775808 ≤ i := by omega
    simp [a, b]
  · have hi0 : ¬ i < 0 := by omega
    have hi1 : i < (x.cps.size : Int) := by omega
    have e : seqIndex? i x.length = some i.toNat := by simp [seqIndex?, Str.length, hi0, hi1, h0]
    rw [e]
    exact h
theorem it_byt {l : List UInt8} {i : Int} (hl : l.length ≤ 1000000) (h0 : 0 ≤ i) (h1 : i < l.length) : ItemOk w k (.byt l.toArray) (.int i) (.int (l.getD i.toNat 0).toNat) := fun A f s vo vi _ ok ro ri => by
  refine ob1_1 (rel_byt.mp ro) fun u z0 => ?_; subst z0
  refine ob1_1 (rel_int.mp ri) fun t z0 => ?_; subst z0
  exact ⟨"bytes", _, FB.slot_bytes_getitem.lookup, typeIs_bytes _ _ _, fun Q E hQ => getItem_bytes (by omega) h0 h1 (hQ _ _ _ (Grew.same ok.sub fun _ _ e => e) relI)⟩
end
noncomputable def PartIs (f : Fz) (v : Value) (o : Option Int) : Prop := match o with | none => v = .none | some i => ∃ t, v = .int i t
theorem PartIs.part {f : Fz} {v : Value} {o : Option Int} (h : PartIs f v o) : IsPart v o := by
  cases o with
  | none => simp only [PartIs] at h; subst h; exact .none
  | some i => simp only [PartIs] at h; refine ob1_1 h fun t z0 => ?_; clear h; subst z0; exact .int i t
noncomputable def EvPart (w : World) (k : Nat) (gs : List (Str × NameKind)) (ρ : Rho) (e : Option Expr) (o : Option Int) : Prop := match e, o with
  | none, none => True
  | some e, some i => Evals w k gs ρ e (.int i)
  | _, _ => False
noncomputable def SliceOk (w : World) (k : Nat) (o : V) (lo hi st : Option Int) (v : V) : Prop :=
  ∀ (A : Around) (f : Fz) (s : Shared) (vo : Value) (a : Addr) (vl vh vs : Value), Room k A → Okf w f s → Rel f o vo → s.heap.get? a = some { cls := .type "slice", data := .fields #[vl, vh, vs] } →
    PartIs f vl lo → PartIs f vh hi → PartIs f vs st → ∃ T id, typeLookup (.type T) "__getitem__" = pure (some (.builtin id)) ∧ s.TypeIs vo T ∧ Run w A f s (getItem vo (.ref a)) v
section
variable {w : World} {k : Nat} {gs : List (Str × NameKind)} {ρ : Rho}
theorem part_run {e : Option Expr} {o : Option Int} (h : EvPart w k gs ρ e o) {env : Env} {A : Around} {f : Fz} {s : Shared} (rm : Room k A) (ok : Ok w gs env ρ f s) {Q : Value → Shared → Prop} {E : Value → Shared → Prop}
    (hQ : ∀ val s' f', Grew f s f' s' → PartIs f' val o → Q val s') : wpAny (model prg w) A (evalPart e env) Q E s := by
  cases e with
  | none =>
    cases o with
    | none => exact wpAny_pure (hQ _ _ _ ok.okf.refl rfl)
    | some i => cases h
  | some e =>
    cases o with
    | none => cases h
    | some i => exact h env A f s rm ok _ _ fun val s' f' g r => hQ val s' f' g (rel_int.mp r)
theorem PartIs.mono {f f' : Fz} {v : Value} {o : Option Int} (h : PartIs f v o) : PartIs f' v o := h
theorem ev_slice {value pos lo hi st p o l u t v} (hv : Evals w k gs ρ value o) (hl : EvPart w k gs ρ lo l) (hu : EvPart w k gs ρ hi u) (hs : EvPart w k gs ρ st t) (h : SliceOk w k o l u t v) :
    Evals w k gs ρ (.Subscript value (.Slice lo hi st p) pos) v :=
  fun env A f s rm ok Q E hQ => Subscript_ (hv env A f s rm ok _ _ fun va s₁ f₁ g₁ r₁ => wpAny_Slice (part_run hl rm (ok.grew g₁) fun vl s₂ f₂ g₂ r₂ => part_run hu rm ((ok.grew g₁).grew g₂) fun vu s₃ f₃ g₃ r₃ =>
    part_run hs rm (((ok.grew g₁).grew g₂).grew g₃) fun vt s₄ f₄ g₄ r₄ => by
      have ok4 := (((ok.grew g₁).grew g₂).grew g₃).grew g₄
      have g5 : Grew f₄ s₄ (f₄.add s₄.heap.objs.size { cls := .type "slice", data := .fields #[vl, vu, vt] }) { s₄ with heap := s₄.heap.push { cls := .type "slice", data := .fields #[vl, vu, vt] }, toks := s₄.toks } :=
        Grew.add ok4.okf.sub (fun b o e => Heap.get?_push_of_some _ e) (get?_size _) (Heap.get?_push_size _ rfl)
      have gall := ((g₂.trans g₃).trans g₄).trans g5
      refine ob2_3 (h A _ _ va s₄.heap.objs.size vl vu vt rm (ok4.grew g5).okf (r₁.mono gall.le) (Heap.get?_push_size _ rfl) r₂.mono r₃.mono r₄.mono) fun T id hl' hT hr => ?_
      have run := hr Q E fun val s' f' g' r' => hQ val s' f' ((g₁.trans gall).trans g') r'
      cases st with
      | none => exact tail_any hT hl' run rfl
      | some st => exact tail_any hT hl' run rfl))
noncomputable def sliceV (l : List V) (lo hi st : Option Int) : List V := (sliceRange (sliceBounds lo hi st l.length).1 (sliceBounds lo hi st l.length).2.1 (sliceBounds lo hi st l.length).2.2).filterMap (l[·]?)
theorem sl_lst {l : List V} {lo hi st : Option Int} (h0 : st ≠ some 0) (hb : l.length ≤ 1000000) : SliceOk w k (.lst l) lo hi st (.lst (sliceV l lo hi st)) := fun A f s vo a vl vh vs rm ok ro ha pl ph ps => by
  refine ob3_3 (rel_lst.mp ro) fun b xs n z0 hb' rl => ?_; subst z0
  have hl := isList_of (ok.sub _ _ hb')
  refine ⟨"list", _, list_getitem_lookup, hl.typeIs, fun Q E hQ => wpAny_getItem_list_slice hl ⟨_, ha, rfl, rfl⟩ pl.part ph.part ps.part h0 ?_ (by rw [List.size_toArray, rl.length, sizeLine_eq]; omega)⟩
  have e : slicePick xs.toArray lo hi st = (((sliceRange (sliceBounds lo hi st l.length).1 (sliceBounds lo hi st l.length).2.1 (sliceBounds lo hi st l.length).2.2).filterMap (xs[·]?)) : List Value).toArray := by
    unfold slicePick
    rw [List.size_toArray, rl.length]
    simp
  rw [e]
  have g : Grew f s (f.add s.heap.objs.size (lstO ((sliceRange (sliceBounds lo hi st l.length).1 (sliceBounds lo hi st l.length).2.1 (sliceBounds lo hi st l.length).2.2).filterMap (xs[·]?)) 0)) { s with heap := s.heap.push (lstO ((sliceRange (sliceBounds lo hi st l.length).1 (sliceBounds lo hi st l.length).2.1 (sliceBounds lo hi st l.length).2.2).filterMap (xs[·]?)) 0), toks := s.toks } :=
    Grew.add ok.sub (fun b o e => Heap.get?_push_of_some _ e) (get?_size _) (Heap.get?_push_size _ rfl)
  exact hQ _ _ _ g (rel_lst.mpr ⟨_, _, 0, rfl, Fz.add_self .., (rl.filterMap _).mono g.le⟩)
theorem sl_str {x : Str} {lo hi : Option Int} (hb : x.length ≤ 1000000) : SliceOk w k (.str x) lo hi none (.str (Txt.slice x lo hi)) := fun A f s vo a vl vh vs rm ok ro ha pl ph ps => by
  refine ob1_1 (rel_str.mp ro) fun u z0 => ?_; subst z0
  refine ⟨"str", _, F.slot_str_getitem.lookup, typeIs_str _ _ _, fun Q E hQ => ?_⟩
  have ⟨l, hl, el⟩ : ∃ l : Option (Int × Tok), vl = partValue l ∧ l.map (·.1) = lo := by
    cases lo with
    | none => exact ⟨none, pl, rfl⟩
    | some i => obtain ⟨t, rfl⟩ := pl; exact ⟨some (i, t), rfl, rfl⟩
  have ⟨r, hr, er⟩ : ∃ l : Option (Int × Tok), vh = partValue l ∧ l.map (·.1) = hi := by
    cases hi with
    | none => exact ⟨none, ph, rfl⟩
    | some i => obtain ⟨t, rfl⟩ := ph; exact ⟨some (i, t), rfl, rfl⟩
  have hs : vs = partValue none := ps
  refine wpAny_getItem_str_slice (l := l) (u := r) (st := none) ⟨_, ha, rfl, by rw [hl, hr, hs]⟩ rfl ?_
  subst el er
  have key : (sliceMade x u l r none).post Q s ↔ (if ((1 : Int) == 1 && (PySem.Builtin.Str.strSliceIndices (l.map (·.1)) (r.map (·.1)) 1 x.length).length == x.length) = true then Made.val (.str x u) else Made.str ⟨((PySem.Builtin.Str.strSliceIndices (l.map (·.1)) (r.map (·.1)) 1 x.length).filterMap (x.cps[·]?)).toArray⟩).post Q s := Iff.rfl
  rw [key]
  refine post_val_or_str ⟨Nat.le_trans (Txt.slice_le x _ _) (by rw [sizeLine_eq]; omega), fun t' k => hQ _ _ _ (Grew.same ok.sub fun _ _ e => e) relS⟩
theorem sl_byt {x : Array UInt8} {lo hi : Option Int} (hb : x.size ≤ 1000000) : SliceOk w k (.byt x) lo hi none (.byt (KBy.picked x lo hi)) := fun A f s vo a vl vh vs rm ok ro ha pl ph ps => by
  refine ob1_1 (rel_byt.mp ro) fun u z0 => ?_; subst z0
  have hs : vs = Value.none := ps
  subst hs
  refine ⟨"bytes", _, FB.slot_bytes_getitem.lookup, typeIs_bytes _ _ _, fun Q E hQ => getItem_meets (typeIs_bytes _ _ _) (by decide) FB.slot_bytes_getitem FB.entry_bytes_getitem (FB.args_bytes_getitem_2 _ _) (KBc.meets_slice2 x u _ pl.part ph.part)
    ⟨⟨_, ha, rfl, rfl⟩, Nat.le_trans (KBc.size_picked_le x lo hi) (by rw [sizeLine_eq]; omega), fun t' k => hQ _ _ _ (Grew.same ok.sub fun _ _ e => e) relY⟩⟩
end
noncomputable def del {β : Type} (x : Str) (l : List (Str × β)) : List (Str × β) := l.filter fun p => !(p.1 == x)
noncomputable def put {β : Type} (x : Str) (y : β) (l : List (Str × β)) : List (Str × β) := (x, y) :: del x l
theorem lookup_del {β : Type} (x z : Str) : ∀ (l : List (Str × β)), (del x l).lookup z = if z = x then none else l.lookup z
  | [] => by simp [del]
  | (k, v) :: r => by
    have ih := lookup_del x z r
    unfold del at ih ⊢
    rw [List.filter_cons]
    by_cases hk : k = x
    · subst hk
      simp only [beq_self_eq_true, Bool.not_true, Bool.false_eq_true, if_false]
      rw [ih]
      by_cases hz : z = k
      · simp [hz]
      · have : (z == k) = false := beq_eq_false_iff_ne.mpr hz
        simp [hz, List.lookup_cons, this]
    · have : (k == x) = false := beq_eq_false_iff_ne.mpr hk
      simp only [this, Bool.not_false, if_true, List.lookup_cons]
      rw [ih]
      by_cases hz : z = k
      · subst hz; simp [hk]
      · have hb : (z == k) = false := beq_eq_false_iff_ne.mpr hz
        simp [hb]
theorem lookup_put {β : Type} (x z : Str) (y : β) (l : List (Str × β)) : (put x y l).lookup z = if z = x then some y else l.lookup z := by
  unfold put
  rw [List.lookup_cons, lookup_del]
  by_cases hz : z = x
  · subst hz; simp
  · have : (z == x) = false := beq_eq_false_iff_ne.mpr hz
    simp [hz, this]
noncomputable abbrev Sig := List (Str × Bool × List V)
noncomputable def ownRho (σ : Sig) : Rho := σ.map fun p => (p.1, p.2.1, .lst p.2.2)
theorem lookup_own (σ : Sig) (x : Str) : (ownRho σ).lookup x = (σ.lookup x).map fun p => (p.1, .lst p.2) := by
  induction σ with
  | nil => rfl
  | cons p r ih =>
    obtain ⟨k, c, l⟩ := p
    simp only [ownRho, List.map_cons, List.lookup_cons] at ih ⊢
    cases x == k <;> simp [ih]
theorem lookup_app {β : Type} (x : Str) : ∀ (l r : List (Str × β)), (l ++ r).lookup x = (l.lookup x).or (r.lookup x)
  | [], r => by simp
  | (k, v) :: l, r => by
    simp only [List.cons_append, List.lookup_cons]
    cases x == k <;> simp [lookup_app x l r]
structure St (w : World) (nm : List (Str × NameKind)) (env : Env) (ρ : Rho) (σ : Sig) (α : Str → Addr) (M : Addr → Prop) (f : Fz) (s : Shared) : Prop where
  okf : Okf w f s
  kind : env.scope.kind = .function
  glob : env.globals = mainGlobals
  blt : env.builtins = builtinsNs
  nms : env.scope.names = nm
  nofree : ∀ x, nm.lookup x ≠ some .free
  free : ∀ a, M a → f a = none
  ML : M env.locals
  loc : ∃ m, s.heap.Ns env.locals m ∧ (∀ x v, ρ.lookup x = some (false, v) → nm.lookup x = some .local ∧ ∃ val, m x = some val ∧ Rel f v val) ∧
    (∀ x l, σ.lookup x = some (false, l) → nm.lookup x = some .local ∧ m x = some (.ref (α x)))
  cells : ∀ x, nm.lookup x = some .cell → ∃ a vo, env.cells.lookup x = some a ∧ M a ∧ s.heap.IsCell a vo
  inj : ∀ x y a, nm.lookup x = some .cell → nm.lookup y = some .cell → env.cells.lookup x = some a → env.cells.lookup y = some a → x = y
  cel : ∀ x v, ρ.lookup x = some (true, v) → nm.lookup x = some .cell ∧ ∃ a val, env.cells.lookup x = some a ∧ s.heap.IsCell a (some val) ∧ Rel f v val
  celO : ∀ x l, σ.lookup x = some (true, l) → nm.lookup x = some .cell ∧ ∃ a, env.cells.lookup x = some a ∧ s.heap.IsCell a (some (.ref (α x)))
  own : ∀ x c l, σ.lookup x = some (c, l) → M (α x) ∧ ∃ vs n, s.heap.get? (α x) = some (lstO vs n) ∧ RelL f l vs
  injO : ∀ x y p q, σ.lookup x = some p → σ.lookup y = some q → α x = α y → x = y
structure GrewS (M : Addr → Prop) (f : Fz) (s : Shared) (M' : Addr → Prop) (f' : Fz) (s' : Shared) : Prop where
  le : f.Le f'
  new : ∀ a o, f' a = some o → f a = some o ∨ s.heap.get? a = none ∨ M a
  keeps : ∃ h tk, s' = { s with heap := h, toks := tk } ∧ ∀ b o, ¬ M b → s.heap.get? b = some o → ∃ o', h.get? b = some o' ∧ Alike b o o'
  M' : ∀ a, M' a → M a ∨ s.heap.get? a = none
  tab : TabOk f s → TabOk f' s'
theorem GrewS.refl (M : Addr → Prop) (f : Fz) (s : Shared) : GrewS M f s M f s :=
  ⟨Fz.Le.refl f, fun _ _ e => .inl e, ⟨s.heap, s.toks, rfl, fun _ o _ e => ⟨o, e, .inl rfl⟩⟩, fun _ h => .inl h, id⟩
theorem GrewS.live {M f s M' f' s'} (g : GrewS M f s M' f' s') {b o} (hb : ¬ M b) (e : s.heap.get? b = some o) : ∃ o', s'.heap.get? b = some o' ∧ Alike b o o' := by
  refine ob2_2 g.keeps fun h tk z0 k => ?_; subst z0; exact k b o hb e
theorem GrewS.keep {M f s M' f' s'} (g : GrewS M f s M' f' s') {b o} (hb : ¬ M b) (e : s.heap.get? b = some o) (hs : Solid o) : s'.heap.get? b = some o := by
  refine ob1_2 (g.live hb e) fun o' e' al => ?_
  rw [al.solid hs] at e'; exact e'
theorem GrewS.ns {M f s M' f' s'} (g : GrewS M f s M' f' s') {b m} (hb : ¬ M b) (e : s.heap.Ns b m) : s'.heap.Ns b m := Alike.ns (fun o e => g.live hb e) e
theorem GrewS.dead {M f s M' f' s'} (g : GrewS M f s M' f' s') {a} (h : s'.heap.get? a = none) (hM : ¬ M a) : s.heap.get? a = none := by
  cases q : s.heap.get? a with
  | none => rfl
  | some o => refine ob1_2 (g.live hM q) fun o' e' _ => ?_; rw [e'] at h; cases h
theorem GrewS.trans {M f s M₁ f₁ s₁ M₂ f₂ s₂} (x : GrewS M f s M₁ f₁ s₁) (y : GrewS M₁ f₁ s₁ M₂ f₂ s₂) : GrewS M f s M₂ f₂ s₂ := by
  have dd : ∀ a, s₁.heap.get? a = none ∨ M₁ a → s.heap.get? a = none ∨ M a := fun a h => by
    by_cases hM : M a
    · exact .inr hM
    · rcases h with h | h
      · exact .inl (x.dead h hM)
      · exact (x.M' a h).symm
  refine ⟨x.le.trans y.le, fun a o e => ?_, ?_, fun a h => ?_, fun h => y.tab (x.tab h)⟩
  · rcases y.new a o e with h | h
    · exact x.new a o h
    · exact .inr (dd a h)
  · refine ob2_2 x.keeps fun h t z0 k => ?_; subst z0
    refine ob2_2 y.keeps fun h' t' z0 k' => ?_; subst z0
    refine ⟨h', t', rfl, fun b o hb e => ?_⟩
    refine ob1_2 (k b o hb e) fun o₁ e₁ al₁ => ?_
    refine ob1_2 (k' b o₁ (fun hM => by
      rcases x.M' b hM with h1 | h1
      · exact hb h1
      · rw [h1] at e; cases e) e₁) fun o₂ e₂ al₂ => ?_
    exact ⟨o₂, e₂, al₁.trans al₂⟩
  · rcases y.M' a h with h1 | h1
    · exact x.M' a h1
    · exact (dd a (.inl h1)).symm
theorem keepsM_of {M : Addr → Prop} {s : Shared} {h' : Heap} {tk : Nat} (k : ∀ b o, ¬ M b → s.heap.get? b = some o → h'.get? b = some o) :
    ∃ h t, ({ s with heap := h', toks := tk } : Shared) = { s with heap := h, toks := t } ∧ ∀ b o, ¬ M b → s.heap.get? b = some o → ∃ o', h.get? b = some o' ∧ Alike b o o' := ⟨h', tk, rfl, fun b o hb e => ⟨o, k b o hb e, .inl rfl⟩⟩
theorem Grew.toS {M f s f' s'} (g : Grew f s f' s') : GrewS M f s M f' s' :=
  ⟨g.le, fun a o e => (g.new a o e).imp id .inl, by obtain ⟨h, t, e, k⟩ := g.keeps; exact ⟨h, t, e, fun b o _ => k b o⟩, fun _ h => .inl h, g.tab⟩
section
variable {w : World} {nm : List (Str × NameKind)} {env : Env} {ρ : Rho} {σ : Sig} {α : Str → Addr} {M : Addr → Prop} {f : Fz} {s : Shared}
theorem St.clos (t : St w nm env ρ σ α M f s) : ∀ x, nm.lookup x = some .cell ∨ nm.lookup x = some .free → ∃ a, env.cells.lookup x = some a := fun x h => by
  rcases h with h | h
  · refine ob2_2 (t.cells x h) fun a _ e _ => ?_; exact ⟨a, e⟩
  · exact absurd h (t.nofree x)
theorem St.ok (t : St w nm env ρ σ α M f s) : Ok w nm env ρ f s := by
  refine ⟨t.okf, t.kind, t.glob, t.blt, t.nms, t.clos, fun x c v e => ?_⟩
  cases c with
  | false =>
    refine ob1_3 t.loc fun m hn h1 _ => ?_
    refine ob0_2 (h1 x v e) fun hk z0 => ?_; obtain ⟨val, hm, r⟩ := z0
    exact ⟨by unfold Env.kindOf; rw [t.nms]; exact hk, m, val, hn, hm, r⟩
  | true =>
    refine ob0_2 (t.cel x v e) fun hk z0 => ?_; obtain ⟨a, val, hc, hi, r⟩ := z0
    exact ⟨.inl (by unfold Env.kindOf; rw [t.nms]; exact hk), a, val, hc, hi, r⟩
noncomputable def Fz.with (f : Fz) (M : Addr → Prop) (h : Heap) : Fz := by
  classical exact fun a => if M a then h.get? a else f a
theorem with_M {f : Fz} {M : Addr → Prop} {h : Heap} {a : Addr} (hm : M a) : f.with M h a = h.get? a := by unfold Fz.with; simp [hm]
theorem with_not {f : Fz} {M : Addr → Prop} {h : Heap} {a : Addr} (hm : ¬ M a) : f.with M h a = f a := by unfold Fz.with; simp [hm]
theorem le_with (hf : ∀ a, M a → f a = none) {h : Heap} : f.Le (f.with M h) := fun a o e => by
  by_cases hm : M a
  · rw [hf a hm] at e; cases e
  · rw [with_not hm]; exact e
noncomputable def Fz.less (f : Fz) (M : Addr → Prop) : Fz := by
  classical exact fun a => if M a then none else f a
theorem less_M {f : Fz} {M : Addr → Prop} {a : Addr} (hm : M a) : f.less M a = none := by unfold Fz.less; simp [hm]
theorem less_not {f : Fz} {M : Addr → Prop} {a : Addr} (hm : ¬ M a) : f.less M a = f a := by unfold Fz.less; simp [hm]
theorem ns_ne_lst {h : Heap} {a b : Addr} {m vs n} (x : h.Ns a m) (y : h.get? b = some (lstO vs n)) : b ≠ a := by
  rintro rfl
  obtain ⟨o, es, ep, ho, hd, _⟩ := x
  rw [ho] at y; cases y; cases hd
theorem ns_ne_tab {h : Heap} {a b : Addr} {m vs} (x : h.Ns a m) (y : h.get? b = some (tabO vs)) : b ≠ a := by
  rintro rfl
  obtain ⟨o, es, ep, ho, hd, _⟩ := x
  rw [ho] at y; cases y; cases hd
theorem cell_ne_tab {h : Heap} {a b : Addr} {vo vs} (x : h.IsCell a vo) (y : h.get? b = some (tabO vs)) : b ≠ a := by
  rintro rfl
  obtain ⟨o', ho', hd'⟩ := x
  rw [ho'] at y; cases y; cases hd'
theorem lst_ne_tab {h : Heap} {a b : Addr} {vs n us} (x : h.get? a = some (lstO vs n)) (y : h.get? b = some (tabO us)) : b ≠ a := by
  rintro rfl
  rw [x] at y; cases y
noncomputable def OL (σ : Sig) (α : Str → Addr) : Addr → Prop := fun a => ∃ x p, σ.lookup x = some p ∧ α x = a
theorem St.OL_free (t : St w nm env ρ σ α M f s) : ∀ a, OL σ α a → f a = none := fun a ⟨x, (c, l), h, e⟩ => e ▸ t.free _ (t.own x c l h).1
theorem St.OL_lst (t : St w nm env ρ σ α M f s) : ∀ a, OL σ α a → ∃ vs n, s.heap.get? a = some (lstO vs n) := fun a ⟨x, (c, l), h, e⟩ => by
  refine ob0_2 (t.own x c l h) fun _ z0 => ?_; obtain ⟨vs, n, h1, _⟩ := z0
  exact ⟨vs, n, e ▸ h1⟩
theorem St.OL_tab (t : St w nm env ρ σ α M f s) : ∀ a, OL σ α a → a ≠ tabA := fun a h => by
  refine ob2_1 (t.OL_lst a h) fun vs n e => ?_
  exact t.okf.tab.ne (t.OL_free a h) e fun us q => by cases q
theorem St.okO (t : St w nm env ρ σ α M f s) : Ok w nm env (ρ ++ ownRho σ) (f.with (OL σ α) s.heap) s := by
  have hle := le_with t.OL_free (h := s.heap)
  refine ⟨⟨fun a o e => ?_, fun a o e n => hle a o (t.okf.top a o e n), t.okf.tab.keep hle fun _ e => e, fun hw => ?_⟩, t.kind, t.glob, t.blt, t.nms, t.clos, fun x c v e => ?_⟩
  · by_cases hm : OL σ α a
    · rw [with_M hm] at e; exact e
    · rw [with_not hm] at e; exact t.okf.sub a o e
  · rw [with_not fun h => t.OL_tab _ h rfl]; exact t.okf.tabn hw
  · rw [lookup_app, lookup_own] at e
    cases hr : ρ.lookup x with
    | some p =>
      rw [hr] at e
      simp only [Option.some_or, Option.some.injEq] at e
      subst e
      have H := t.ok.held x c v hr
      cases c with
      | false =>
        obtain ⟨hk, m, val, hn, hm, r⟩ := H
        exact ⟨hk, m, val, hn, hm, r.mono hle⟩
      | true =>
        obtain ⟨hk, a, val, hc, hi, r⟩ := H
        exact ⟨hk, a, val, hc, hi, r.mono hle⟩
    | none =>
      rw [hr] at e
      simp only [Option.none_or, Option.map_eq_some_iff] at e
      refine ob1_2 e fun z0 hs e2 => ?_; clear e; obtain ⟨c', l⟩ := z0
      simp only [Prod.mk.injEq] at e2
      refine ob0_2 e2 fun z0 z1 => ?_; clear e2; subst z0; subst z1
      refine ob0_2 (t.own x c' l hs) fun hMa z0 => ?_; obtain ⟨vs, n, hg, rl⟩ := z0
      have hrel : Rel (f.with (OL σ α) s.heap) (.lst l) (.ref (α x)) := rel_lst.mpr ⟨_, vs, n, rfl, by rw [with_M ⟨x, _, hs, rfl⟩]; exact hg, rl.mono hle⟩
      cases c' with
      | false =>
        refine ob1_3 t.loc fun m hn _ h2 => ?_
        refine ob0_2 (h2 x l hs) fun hk hm => ?_
        exact ⟨by unfold Env.kindOf; rw [t.nms]; exact hk, m, _, hn, hm, hrel⟩
      | true =>
        refine ob0_2 (t.celO x l hs) fun hk z0 => ?_; obtain ⟨a, hc, hi⟩ := z0
        exact ⟨.inl (by unfold Env.kindOf; rw [t.nms]; exact hk), a, _, hc, hi, hrel⟩
theorem St.back (t : St w nm env ρ σ α M f s) {f' : Fz} {s' : Shared} (g : Grew (f.with (OL σ α) s.heap) s f' s') : Grew f s (f'.less (OL σ α)) s' := by
  refine ⟨fun a o e => ?_, fun a o e => ?_, fun a o e => ?_, g.keeps, fun ht hn => ?_⟩
  · have hm : ¬ OL σ α a := fun hm => by rw [t.OL_free a hm] at e; cases e
    rw [less_not hm]
    exact g.le a o (le_with t.OL_free a o e)
  · by_cases hm : OL σ α a
    · rw [less_M hm] at e; cases e
    · rw [less_not hm] at e
      rcases g.new a o e with h | h
      · rw [with_not hm] at h; exact .inl h
      · exact .inr h
  · by_cases hm : OL σ α a
    · rw [less_M hm] at e; cases e
    · rw [less_not hm] at e; exact g.sub a o e
  · rw [less_not fun h => t.OL_tab _ h rfl] at hn
    refine ob1_2 (g.tab (ht.keep (le_with t.OL_free) fun _ e => e) hn) fun ps h1 h2 => ?_
    have key : ∀ c, CodeF f' c → CodeF (f'.less (OL σ α)) c := fun c hc => by
      obtain ⟨o, vs, u, e1, e2, e3⟩ := hc
      refine ⟨o, vs, u, ?_, e2, e3⟩
      rw [less_not fun hm => ?_]
      · exact e1
      · refine ob2_1 (t.OL_lst c hm) fun us n q => ?_
        have := g.le c (lstO us n) (by rw [with_M hm]; exact q)
        rw [e1] at this
        have h3 := congrArg Obj.data (Option.some.inj this)
        rw [e2] at h3; cases h3
    refine ⟨ps, h1, ?_⟩
    rcases h2 with x | ⟨c1, q1, x | ⟨c2, q2, x⟩⟩
    · exact .inl x
    · exact .inr ⟨c1, key _ q1, .inl x⟩
    · exact .inr ⟨c1, key _ q1, .inr ⟨c2, key _ q2, x⟩⟩
noncomputable def Live (M : Addr → Prop) (s : Shared) : Prop := ∀ a, M a → ∃ o, s.heap.get? a = some o
theorem St.grew (t : St w nm env ρ σ α M f s) (L : Live M s) {f' : Fz} {s' : Shared} (g : Grew f s f' s') : St w nm env ρ σ α M f' s' := by
  refine ⟨t.okf.grew g, t.kind, t.glob, t.blt, t.nms, t.nofree, fun a hm => ?_, t.ML, ?_, fun x hx => ?_, t.inj, fun x v e => ?_, fun x l e => ?_, fun x c l e => ?_, t.injO⟩
  · cases q : f' a with
    | none => rfl
    | some o =>
      rcases g.new a o q with h | h
      · rw [t.free a hm] at h; cases h
      · refine ob1_1 (L a hm) fun o' ho' => ?_; rw [h] at ho'; cases ho'
  · refine ob1_3 t.loc fun m hn h1 h2 => ?_
    refine ⟨m, ns_keeps g.keeps hn, fun x v e => ?_, h2⟩
    refine ob0_2 (h1 x v e) fun hk z0 => ?_; obtain ⟨val, hm, r⟩ := z0
    exact ⟨hk, val, hm, r.mono g.le⟩
  · refine ob2_3 (t.cells x hx) fun a vo h1 h2 h3 => ?_
    exact ⟨a, vo, h1, h2, cell_keeps g.keeps h3⟩
  · refine ob0_2 (t.cel x v e) fun hk z0 => ?_; obtain ⟨a, val, h1, h2, r⟩ := z0
    exact ⟨hk, a, val, h1, cell_keeps g.keeps h2, r.mono g.le⟩
  · refine ob0_2 (t.celO x l e) fun hk z0 => ?_; obtain ⟨a, h1, h2⟩ := z0
    exact ⟨hk, a, h1, cell_keeps g.keeps h2⟩
  · refine ob0_2 (t.own x c l e) fun hM z0 => ?_; obtain ⟨vs, n, h1, r⟩ := z0
    exact ⟨hM, vs, n, keeps_keep g.keeps h1 (solid_lst ..), r.mono g.le⟩
theorem Live.grew {s' : Shared} (L : Live M s) (k : KeepsW s s') : Live M s' := fun a hm => by
  refine ob1_1 (L a hm) fun o e => ?_; refine ob1_2 (keeps_live k e) fun o' e' _ => ?_; exact ⟨o', e'⟩
theorem ns_ne_cell {h : Heap} {a b : Addr} {m vo} (x : h.Ns a m) (y : h.IsCell b vo) : b ≠ a := by
  rintro rfl
  obtain ⟨o, es, ep, ho, hd, _⟩ := x
  obtain ⟨o', ho', hd'⟩ := y
  rw [ho] at ho'; cases ho'; rw [hd] at hd'; cases hd'
theorem cell_ne_lst {h : Heap} {a b : Addr} {vo vs n} (x : h.IsCell a vo) (y : h.get? b = some (lstO vs n)) : b ≠ a := by
  rintro rfl
  obtain ⟨o', ho', hd'⟩ := x
  rw [ho'] at y; cases y; cases hd'
theorem St.setL (t : St w nm env ρ σ α M f s) {x : Str} {v : V} {val : Value} (hx : nm.lookup x = some .local) (r : Rel f v val) {h' : Heap} {tk : Nat} {m : Str → Option Value}
    (hn : s.heap.Ns env.locals m) (hn' : h'.Ns env.locals (fun y => if y = x then some val else m y)) (hs : Heap.SameBut env.locals s.heap h')
    (h1 : ∀ y u, ρ.lookup y = some (false, u) → nm.lookup y = some .local ∧ ∃ val, m y = some val ∧ Rel f u val)
    (h2 : ∀ y l, σ.lookup y = some (false, l) → nm.lookup y = some .local ∧ m y = some (.ref (α y))) :
    St w nm env (put x (false, v) ρ) (del x σ) α M f { s with heap := h', toks := tk } := by
  have kp : ∀ b o, b ≠ env.locals → s.heap.get? b = some o → h'.get? b = some o := fun b o hb e => hs.extBut b o hb e
  have hloc : ∀ y, y ≠ x → ∀ c u, ρ.lookup y = some (c, u) ∨ True → True := fun _ _ _ _ _ => trivial
  refine ⟨⟨fun a o e => kp a o (fun q => by subst q; rw [t.free _ t.ML] at e; cases e) (t.okf.sub a o e), t.okf.top, t.okf.tab.keep (Fz.Le.refl f) fun _ e => kp _ _ (ns_ne_tab hn e) e, t.okf.tabn⟩, t.kind, t.glob, t.blt, t.nms, t.nofree, t.free, t.ML, ⟨_, hn', fun y u e => ?_, fun y l e => ?_⟩,
    fun y hy => ?_, t.inj, fun y u e => ?_, fun y l e => ?_, fun y c l e => ?_, fun y z p q e1 e2 => ?_⟩
  · rw [lookup_put] at e
    by_cases hy : y = x
    · subst hy; simp at e; subst e; exact ⟨hx, val, by simp, r⟩
    · rw [if_neg hy] at e
      refine ob0_2 (h1 y u e) fun hk z0 => ?_; obtain ⟨va, hm, rr⟩ := z0
      exact ⟨hk, va, by simp [hy, hm], rr⟩
  · rw [lookup_del] at e
    by_cases hy : y = x
    · rw [if_pos hy] at e; cases e
    · rw [if_neg hy] at e
      refine ob0_2 (h2 y l e) fun hk hm => ?_
      exact ⟨hk, by simp [hy, hm]⟩
  · refine ob2_3 (t.cells y hy) fun a vo e1 e2 e3 => ?_
    exact ⟨a, vo, e1, e2, e3.sameBut hs (ns_ne_cell hn e3)⟩
  · rw [lookup_put] at e
    by_cases hy : y = x
    · rw [if_pos hy] at e; simp at e
    · rw [if_neg hy] at e
      refine ob0_2 (t.cel y u e) fun hk z0 => ?_; obtain ⟨a, va, e1, e2, rr⟩ := z0
      exact ⟨hk, a, va, e1, e2.sameBut hs (ns_ne_cell hn e2), rr⟩
  · rw [lookup_del] at e
    by_cases hy : y = x
    · rw [if_pos hy] at e; cases e
    · rw [if_neg hy] at e
      refine ob0_2 (t.celO y l e) fun hk z0 => ?_; obtain ⟨a, e1, e2⟩ := z0
      exact ⟨hk, a, e1, e2.sameBut hs (ns_ne_cell hn e2)⟩
  · rw [lookup_del] at e
    by_cases hy : y = x
    · rw [if_pos hy] at e; cases e
    · rw [if_neg hy] at e
      refine ob0_2 (t.own y c l e) fun hM z0 => ?_; obtain ⟨vs, n, e1, rr⟩ := z0
      exact ⟨hM, vs, n, kp _ _ (ns_ne_lst hn e1) e1, rr⟩
  · rw [lookup_del] at e1 e2
    by_cases hy : y = x
    · rw [if_pos hy] at e1; cases e1
    · by_cases hz : z = x
      · rw [if_pos hz] at e2; cases e2
      · rw [if_neg hy] at e1; rw [if_neg hz] at e2; exact t.injO y z p q e1 e2
theorem St.setC (t : St w nm env ρ σ α M f s) {x : Str} {v : V} {val : Value} (hx : nm.lookup x = some .cell) (r : Rel f v val) {h' : Heap} {c : Addr} {vo : Option Value}
    (hc : env.cells.lookup x = some c) (hi : s.heap.IsCell c vo) (hM : M c) (hi' : h'.IsCell c (some val)) (hs : Heap.SameBut c s.heap h') :
    St w nm env (put x (true, v) ρ) (del x σ) α M f { s with heap := h' } := by
  have kp : ∀ b o, b ≠ c → s.heap.get? b = some o → h'.get? b = some o := fun b o hb e => hs.extBut b o hb e
  refine ob1_3 t.loc fun m hn h1 h2 => ?_
  have hLc := ns_ne_cell hn hi
  refine ⟨⟨fun a o e => kp a o (fun q => by subst q; rw [t.free _ hM] at e; cases e) (t.okf.sub a o e), t.okf.top, t.okf.tab.keep (Fz.Le.refl f) fun _ e => kp _ _ (cell_ne_tab hi e) e, t.okf.tabn⟩, t.kind, t.glob, t.blt, t.nms, t.nofree, t.free, t.ML, ⟨m, hn.sameBut hs (Ne.symm hLc), fun y u e => ?_, fun y l e => ?_⟩,
    fun y hy => ?_, t.inj, fun y u e => ?_, fun y l e => ?_, fun y c' l e => ?_, fun y z p q e1 e2 => ?_⟩
  · rw [lookup_put] at e
    by_cases hy : y = x
    · rw [if_pos hy] at e; simp at e
    · rw [if_neg hy] at e; exact h1 y u e
  · rw [lookup_del] at e
    by_cases hy : y = x
    · rw [if_pos hy] at e; cases e
    · rw [if_neg hy] at e; exact h2 y l e
  · refine ob2_3 (t.cells y hy) fun a vo' e1 e2 e3 => ?_
    by_cases hac : a = c
    · subst hac; exact ⟨a, _, e1, e2, hi'⟩
    · exact ⟨a, vo', e1, e2, e3.sameBut hs hac⟩
  · rw [lookup_put] at e
    by_cases hy : y = x
    · subst hy; simp at e; subst e; exact ⟨hx, c, val, hc, hi', r⟩
    · rw [if_neg hy] at e
      refine ob0_2 (t.cel y u e) fun hk z0 => ?_; obtain ⟨a, va, e1, e2, rr⟩ := z0
      exact ⟨hk, a, va, e1, e2.sameBut hs (fun q => hy (t.inj y x a hk hx e1 (q ▸ hc))), rr⟩
  · rw [lookup_del] at e
    by_cases hy : y = x
    · rw [if_pos hy] at e; cases e
    · rw [if_neg hy] at e
      refine ob0_2 (t.celO y l e) fun hk z0 => ?_; obtain ⟨a, e1, e2⟩ := z0
      exact ⟨hk, a, e1, e2.sameBut hs (fun q => hy (t.inj y x a hk hx e1 (q ▸ hc)))⟩
  · rw [lookup_del] at e
    by_cases hy : y = x
    · rw [if_pos hy] at e; cases e
    · rw [if_neg hy] at e
      refine ob0_2 (t.own y c' l e) fun hM' z0 => ?_; obtain ⟨vs, n, e1, rr⟩ := z0
      exact ⟨hM', vs, n, kp _ _ (cell_ne_lst hi e1) e1, rr⟩
  · rw [lookup_del] at e1 e2
    by_cases hy : y = x
    · rw [if_pos hy] at e1; cases e1
    · by_cases hz : z = x
      · rw [if_pos hz] at e2; cases e2
      · rw [if_neg hy] at e1; rw [if_neg hz] at e2; exact t.injO y z p q e1 e2
theorem St.freeze (t : St w nm env ρ σ α M f s) {x : Str} {c : Bool} {l : List V} (hx : σ.lookup x = some (c, l)) :
    ∃ f', f.Le f' ∧ (∀ a o, f' a = some o → f a = some o ∨ M a) ∧ St w nm env (put x (c, .lst l) ρ) (del x σ) α (fun a => M a ∧ a ≠ α x) f' s := by
  refine ob0_2 (t.own x c l hx) fun hM z0 => ?_; obtain ⟨vs, n, hg, rl⟩ := z0
  refine ob1_3 t.loc fun m hn h1 h2 => ?_
  have hle : f.Le (f.add (α x) (lstO vs n)) := fun a o e => by
    by_cases ha : a = α x
    · subst ha; rw [t.free _ hM] at e; cases e
    · simpa [Fz.add, ha] using e
  have hrel : Rel (f.add (α x) (lstO vs n)) (.lst l) (.ref (α x)) := rel_lst.mpr ⟨_, vs, n, rfl, Fz.add_self .., rl.mono hle⟩
  refine ⟨f.add (α x) (lstO vs n), hle, fun a o e => ?_, ⟨⟨fun a o e => ?_, fun a o e n => hle a o (t.okf.top a o e n), t.okf.tab.keep hle fun _ e => e, fun hw => by
      have hne : tabA ≠ α x := fun q => t.OL_tab _ ⟨x, _, hx, rfl⟩ q.symm
      simpa [Fz.add, hne] using t.okf.tabn hw⟩, t.kind, t.glob, t.blt, t.nms, t.nofree, fun a hm => ?_, ⟨t.ML, Ne.symm (ns_ne_lst hn hg)⟩,
    ⟨m, hn, fun y u e => ?_, fun y l' e => ?_⟩, fun y hy => ?_, t.inj, fun y u e => ?_, fun y l' e => ?_, fun y c' l' e => ?_, fun y z p q e1 e2 => ?_⟩⟩
  · by_cases ha : a = α x
    · subst ha; exact .inr hM
    · left; simpa [Fz.add, ha] using e
  · by_cases ha : a = α x
    · subst ha; simp [Fz.add] at e; subst e; exact hg
    · exact t.okf.sub a o (by simpa [Fz.add, ha] using e)
  · simp [Fz.add, hm.2, t.free a hm.1]
  · rw [lookup_put] at e
    by_cases hy : y = x
    · subst hy
      simp at e
      refine ob0_2 e fun z0 z1 => ?_; clear e; subst z0; subst z1
      refine ob0_2 (h2 y l hx) fun hk hm => ?_
      exact ⟨hk, _, hm, hrel⟩
    · rw [if_neg hy] at e
      refine ob0_2 (h1 y u e) fun hk z0 => ?_; obtain ⟨va, hm, rr⟩ := z0
      exact ⟨hk, va, hm, rr.mono hle⟩
  · rw [lookup_del] at e
    by_cases hy : y = x
    · rw [if_pos hy] at e; cases e
    · rw [if_neg hy] at e; exact h2 y l' e
  · refine ob2_3 (t.cells y hy) fun a vo e1 e2 e3 => ?_
    exact ⟨a, vo, e1, ⟨e2, Ne.symm (cell_ne_lst e3 hg)⟩, e3⟩
  · rw [lookup_put] at e
    by_cases hy : y = x
    · subst hy
      simp at e
      refine ob0_2 e fun z0 z1 => ?_; clear e; subst z0; subst z1
      refine ob0_2 (t.celO y l hx) fun hk z0 => ?_; obtain ⟨a, e1, e2⟩ := z0
      exact ⟨hk, a, _, e1, e2, hrel⟩
    · rw [if_neg hy] at e
      refine ob0_2 (t.cel y u e) fun hk z0 => ?_; obtain ⟨a, va, e1, e2, rr⟩ := z0
      exact ⟨hk, a, va, e1, e2, rr.mono hle⟩
  · rw [lookup_del] at e
    by_cases hy : y = x
    · rw [if_pos hy] at e; cases e
    · rw [if_neg hy] at e; exact t.celO y l' e
  · rw [lookup_del] at e
    by_cases hy : y = x
    · rw [if_pos hy] at e; cases e
    · rw [if_neg hy] at e
      refine ob0_2 (t.own y c' l' e) fun hM' z0 => ?_; obtain ⟨vs', n', e1, rr⟩ := z0
      exact ⟨⟨hM', fun q => hy (t.injO y x _ _ e hx q)⟩, vs', n', e1, rr.mono hle⟩
  · rw [lookup_del] at e1 e2
    by_cases hy : y = x
    · rw [if_pos hy] at e1; cases e1
    · by_cases hz : z = x
      · rw [if_pos hz] at e2; cases e2
      · rw [if_neg hy] at e1; rw [if_neg hz] at e2; exact t.injO y z p q e1 e2
theorem St.weak (t : St w nm env ρ σ α M f s) {ρ' : Rho} {σ' : Sig} (h : ∀ x p, ρ'.lookup x = some p → ρ.lookup x = some p) (h' : ∀ x p, σ'.lookup x = some p → σ.lookup x = some p) : St w nm env ρ' σ' α M f s := by
  refine ob1_3 t.loc fun m hn h1 h2 => ?_
  exact ⟨t.okf, t.kind, t.glob, t.blt, t.nms, t.nofree, t.free, t.ML, ⟨m, hn, fun x v e => h1 x v (h x _ e), fun x l e => h2 x l (h' x _ e)⟩, t.cells, t.inj, fun x v e => t.cel x v (h x _ e), fun x l e => t.celO x l (h' x _ e),
    fun x c l e => t.own x c l (h' x _ e), fun x y p q e1 e2 => t.injO x y p q (h' x _ e1) (h' y _ e2)⟩
theorem St.fill (t : St w nm env ρ σ α M f s) {x : Str} {c : Bool} {l l' : List V} (hx : σ.lookup x = some (c, l)) {vs' : List Value} {n' : Nat} {h' : Heap} {tk : Nat}
    (hg : h'.get? (α x) = some (lstO vs' n')) (hr : RelL f l' vs') (hs : ∀ b o, b ≠ α x → s.heap.get? b = some o → h'.get? b = some o) : St w nm env ρ (put x (c, l') σ) α M f { s with heap := h', toks := tk } := by
  refine ob0_2 (t.own x c l hx) fun hM z0 => ?_; obtain ⟨vs, n, hg0, rl⟩ := z0
  refine ob1_3 t.loc fun m hn h1 h2 => ?_
  refine ⟨⟨fun a o e => hs a o (fun q => by subst q; rw [t.free _ hM] at e; cases e) (t.okf.sub a o e), t.okf.top, t.okf.tab.keep (Fz.Le.refl f) fun _ e => hs _ _ (lst_ne_tab hg0 e) e, t.okf.tabn⟩, t.kind, t.glob, t.blt, t.nms, t.nofree, t.free, t.ML, ⟨m, ?_, h1, fun y l'' e => ?_⟩,
    fun y hy => ?_, t.inj, fun y u e => ?_, fun y l'' e => ?_, fun y c' l'' e => ?_, fun y z p q e1 e2 => ?_⟩
  · obtain ⟨o, es, ep, ho, hd, hk⟩ := id hn
    exact ⟨o, es, ep, hs _ _ (fun q => (ns_ne_lst hn hg0) q.symm) ho, hd, hk⟩
  · rw [lookup_put] at e
    by_cases hy : y = x
    · subst hy
      simp at e
      refine ob0_2 e fun z0 z1 => ?_; clear e; subst z0; subst z1
      exact h2 y l hx
    · rw [if_neg hy] at e; exact h2 y l'' e
  · refine ob2_3 (t.cells y hy) fun a vo e1 e2 z0 => ?_; obtain ⟨o, e3, e4⟩ := z0
    exact ⟨a, vo, e1, e2, o, hs _ _ (fun q => (cell_ne_lst ⟨o, e3, e4⟩ hg0) q.symm) e3, e4⟩
  · refine ob0_2 (t.cel y u e) fun hk z0 => ?_; obtain ⟨a, va, e1, ⟨o, e3, e4⟩, rr⟩ := z0
    exact ⟨hk, a, va, e1, ⟨o, hs _ _ (fun q => (cell_ne_lst ⟨o, e3, e4⟩ hg0) q.symm) e3, e4⟩, rr⟩
  · rw [lookup_put] at e
    have key : ∃ l₁, σ.lookup y = some (true, l₁) := by
      by_cases hy : y = x
      · subst hy
        simp at e
        refine ob0_2 e fun z0 z1 => ?_; clear e; subst z0; subst z1
        exact ⟨_, hx⟩
      · rw [if_neg hy] at e; exact ⟨_, e⟩
    refine ob1_1 key fun l₁ hl₁ => ?_; clear key
    refine ob0_2 (t.celO y l₁ hl₁) fun hk z0 => ?_; obtain ⟨a, e1, ⟨o, e3, e4⟩⟩ := z0
    exact ⟨hk, a, e1, o, hs _ _ (fun q => (cell_ne_lst ⟨o, e3, e4⟩ hg0) q.symm) e3, e4⟩
  · rw [lookup_put] at e
    by_cases hy : y = x
    · subst hy
      simp at e
      refine ob0_2 e fun z0 z1 => ?_; clear e; subst z0; subst z1
      exact ⟨hM, vs', n', hg, hr⟩
    · rw [if_neg hy] at e
      refine ob0_2 (t.own y c' l'' e) fun hM' z0 => ?_; obtain ⟨vs₁, n₁, e1, rr⟩ := z0
      exact ⟨hM', vs₁, n₁, hs _ _ (fun q => hy (t.injO y x _ _ e hx q)) e1, rr⟩
  · have key : ∀ y p, (put x (c, l') σ).lookup y = some p → ∃ p', σ.lookup y = some p' := fun y p e => by
      rw [lookup_put] at e
      by_cases hy : y = x
      · subst hy; exact ⟨_, hx⟩
      · rw [if_neg hy] at e; exact ⟨_, e⟩
    refine ob1_1 (key y p e1) fun p' hp' => ?_
    refine ob1_1 (key z q e2) fun q' hq' => ?_
    exact t.injO y z p' q' hp' hq'
end
inductive Fl where | next | brk | cont | ret (v : V)
noncomputable def FlRel (f : Fz) : Fl → Flow → Prop
  | .next, g => g = .next
  | .brk, g => g = .brk
  | .cont, g => g = .cont
  | .ret v, g => ∃ val, g = .ret val ∧ Rel f v val
noncomputable def EvS (w : World) (k : Nat) (nm : List (Str × NameKind)) (ρ : Rho) (σ : Sig) (e : Expr) (v : V) : Prop :=
  ∀ (env : Env) (A : Around) (α : Str → Addr) (f : Fz) (s : Shared) (M : Addr → Prop) (Q : Value → Shared → Prop) (E : Value → Shared → Prop), Room k A → Live M s → St w nm env ρ σ α M f s →
    (∀ val f' s', Grew f s f' s' → Rel f' v val → Q val s') → wpAny (model prg w) A (eval e env) Q E s
noncomputable def TeS (w : World) (k : Nat) (nm : List (Str × NameKind)) (ρ : Rho) (σ : Sig) (e : Expr) (b : Bool) : Prop :=
  ∀ (env : Env) (A : Around) (α : Str → Addr) (f : Fz) (s : Shared) (M : Addr → Prop) (Q : Bool → Shared → Prop) (E : Value → Shared → Prop), Room k A → Live M s → St w nm env ρ σ α M f s →
    (∀ f' s', Grew f s f' s' → Q b s') → wpAny (model prg w) A (isTrue e env (eval e env)) Q E s
noncomputable def scal : V → Bool
  | .non | .bool _ | .int _ | .str _ | .byt _ | .typ _ | .bi _ | .top _ => true
  | _ => false
theorem Rel.scal {f g : Fz} {v : V} {val : Value} (h : scal v = true) (r : Rel f v val) : Rel g v val := by
  cases v <;> first | (simpa only [Rel] using r) | cases h
noncomputable def StmtPost (w : World) (nm : List (Str × NameKind)) (env : Env) (f : Fz) (s : Shared) (M : Addr → Prop) (Φ : Rho → Sig → Fl → Prop) (Q : Flow → Shared → Prop) : Prop :=
  ∀ fl flow ρ' σ' α' M' f' s', Φ ρ' σ' fl → FlRel f' fl flow → St w nm env ρ' σ' α' M' f' s' → Live M' s' → GrewS M f s M' f' s' → Q flow s'
noncomputable def Ex (w : World) (k : Nat) (nm : List (Str × NameKind)) (ρ : Rho) (σ : Sig) (l : List Stmt) (Φ : Rho → Sig → Fl → Prop) : Prop :=
  ∀ (env : Env) (A : Around) (α : Str → Addr) (f : Fz) (s : Shared) (M : Addr → Prop) (Q : Flow → Shared → Prop) (E : Value → Shared → Prop), Room k A → Live M s → St w nm env ρ σ α M f s →
    StmtPost w nm env f s M Φ Q → wpAny (model prg w) A (execs l env) Q E s
noncomputable def Ex1 (w : World) (k : Nat) (nm : List (Str × NameKind)) (ρ : Rho) (σ : Sig) (st : Stmt) (Φ : Rho → Sig → Fl → Prop) : Prop :=
  ∀ (env : Env) (A : Around) (α : Str → Addr) (f : Fz) (s : Shared) (M : Addr → Prop) (Q : Flow → Shared → Prop) (E : Value → Shared → Prop), Room k A → Live M s → St w nm env ρ σ α M f s →
    StmtPost w nm env f s M Φ Q → wpAny (model prg w) A (exec st env) Q E s
section
variable {w : World} {k : Nat} {nm : List (Str × NameKind)} {ρ : Rho} {σ : Sig} {Φ : Rho → Sig → Fl → Prop}
theorem evs {e v} (h : Evals w k nm ρ e v) : EvS w k nm ρ σ e v := fun env A α f s M Q E rm L t hQ =>
  h env A f s rm t.ok Q E fun val s' f' g r => hQ val f' s' g r
theorem evs_own {e v} (hs : scal v = true) (h : Evals w k nm (ρ ++ ownRho σ) e v) : EvS w k nm ρ σ e v := fun env A α f s M Q E rm L t hQ =>
  h env A _ s rm t.okO Q E fun val s' f' g r => hQ val _ s' (t.back g) (r.scal hs)
theorem tes {e b} (h : Tests w k nm ρ e b) : TeS w k nm ρ σ e b := fun env A α f s M Q E rm L t hQ =>
  h env A f s rm t.ok Q E fun s' f' g => hQ f' s' g
theorem tes_own {e b} (h : Tests w k nm (ρ ++ ownRho σ) e b) : TeS w k nm ρ σ e b := fun env A α f s M Q E rm L t hQ =>
  h env A _ s rm t.okO Q E fun s' f' g => hQ _ s' (t.back g)
theorem ex_nil (h : Φ ρ σ .next) : Ex w k nm ρ σ [] Φ := fun env A α f s M Q E rm L t hQ =>
  wpAny_execs_nil (hQ .next .next ρ σ α M f s h rfl t L (GrewS.refl M f s))
theorem ex_cons {st rest} (h : Ex1 w k nm ρ σ st fun ρ' σ' fl => match fl with | .next => Ex w k nm ρ' σ' rest Φ | fl => Φ ρ' σ' fl) : Ex w k nm ρ σ (st :: rest) Φ := fun env A α f s M Q E rm L t hQ => by
  refine wpAny_execs_cons (h env A α f s M _ E rm L t ?_)
  intro fl flow ρ' σ' α' M' f' s' hΦ hr t' L' g
  cases fl with
  | next =>
    simp only [FlRel] at hr; subst hr
    exact hΦ env A α' f' s' M' Q E rm L' t' fun fl2 flow2 ρ2 σ2 α2 M2 f2 s2 h2 r2 t2 L2 g2 => hQ fl2 flow2 ρ2 σ2 α2 M2 f2 s2 h2 r2 t2 L2 (g.trans g2)
  | brk => simp only [FlRel] at hr; subst hr; exact hQ .brk .brk ρ' σ' α' M' f' s' hΦ rfl t' L' g
  | cont => simp only [FlRel] at hr; subst hr; exact hQ .cont .cont ρ' σ' α' M' f' s' hΦ rfl t' L' g
  | ret v =>
    obtain ⟨val, rfl, rv⟩ := hr
    exact hQ (.ret v) (.ret val) ρ' σ' α' M' f' s' hΦ ⟨val, rfl, rv⟩ t' L' g
theorem Ex.mono {l Φ'} (h : Ex w k nm ρ σ l Φ') (hΦ : ∀ ρ' σ' fl, Φ' ρ' σ' fl → Φ ρ' σ' fl) : Ex w k nm ρ σ l Φ := fun env A α f s M Q E rm L t hQ =>
  h env A α f s M Q E rm L t fun fl flow ρ' σ' α' M' f' s' hp => hQ fl flow ρ' σ' α' M' f' s' (hΦ _ _ _ hp)
theorem Ex1.mono {l Φ'} (h : Ex1 w k nm ρ σ l Φ') (hΦ : ∀ ρ' σ' fl, Φ' ρ' σ' fl → Φ ρ' σ' fl) : Ex1 w k nm ρ σ l Φ := fun env A α f s M Q E rm L t hQ =>
  h env A α f s M Q E rm L t fun fl flow ρ' σ' α' M' f' s' hp => hQ fl flow ρ' σ' α' M' f' s' (hΦ _ _ _ hp)
theorem Ex.freeze {x c lst l} (hx : σ.lookup x = some (c, lst)) (h : Ex w k nm (put x (c, .lst lst) ρ) (del x σ) l Φ) : Ex w k nm ρ σ l Φ := fun env A α f s M Q E rm L t hQ => by
  refine ob1_3 (t.freeze hx) fun f' hle hnew t' => ?_
  refine h env A α f' s _ Q E rm (fun a ha => L a ha.1) t' fun fl flow ρ' σ' α' M' f'' s' hp r t2 L2 g => hQ fl flow ρ' σ' α' M' f'' s' hp r t2 L2 ?_
  refine ⟨hle.trans g.le, fun a o e => ?_, ?_, fun a ha => ?_, fun _ => g.tab t'.okf.tab⟩
  · rcases g.new a o e with h1 | h1 | h1
    · exact (hnew a o h1).imp id .inr
    · exact .inr (.inl h1)
    · exact .inr (.inr h1.1)
  · refine ob2_2 g.keeps fun h' tk e kk => ?_
    exact ⟨h', tk, e, fun b o hb => kk b o fun q => hb q.1⟩
  · exact (g.M' a ha).imp (fun q => q.1) id
theorem x1_ret {e pos v} (he : EvS w k nm ρ σ e v) (h : Φ ρ σ (.ret v)) : Ex1 w k nm ρ σ (.Return (some e) pos) Φ := fun env A α f s M Q E rm L t hQ =>
  wpAny_Return_some (he env A α f s M _ E rm L t fun val f' s' g r => hQ (.ret v) (.ret val) ρ σ α M f' s' h ⟨val, rfl, r⟩ (t.grew L g) (L.grew g.keeps) g.toS)
theorem x1_if_t {test body orelse pos} (ht : TeS w k nm ρ σ test true) (h : Ex w k nm ρ σ body Φ) : Ex1 w k nm ρ σ (.If test body orelse pos) Φ := fun env A α f s M Q E rm L t hQ =>
  wpAny_If (ht env A α f s M _ E rm L t fun f' s' g => by
    simp only [if_true]
    exact h env A α f' s' M Q E rm (L.grew g.keeps) (t.grew L g) fun fl flow ρ2 σ2 α2 M2 f2 s2 h2 r2 t2 L2 g2 => hQ fl flow ρ2 σ2 α2 M2 f2 s2 h2 r2 t2 L2 (g.toS.trans g2))
theorem x1_if_f {test body orelse pos} (ht : TeS w k nm ρ σ test false) (h : Ex w k nm ρ σ orelse Φ) : Ex1 w k nm ρ σ (.If test body orelse pos) Φ := fun env A α f s M Q E rm L t hQ =>
  wpAny_If (ht env A α f s M _ E rm L t fun f' s' g => by
    simp only [Bool.false_eq_true, if_false]
    exact h env A α f' s' M Q E rm (L.grew g.keeps) (t.grew L g) fun fl flow ρ2 σ2 α2 M2 f2 s2 h2 r2 t2 L2 g2 => hQ fl flow ρ2 σ2 α2 M2 f2 s2 h2 r2 t2 L2 (g.toS.trans g2))
theorem x1_continue {pos} (h : Φ ρ σ .cont) : Ex1 w k nm ρ σ (.Continue pos) Φ := fun env A α f s M Q E rm L t hQ =>
  wpAny_Continue (hQ .cont .cont ρ σ α M f s h rfl t L (GrewS.refl M f s))
theorem x1_break {pos} (h : Φ ρ σ .brk) : Ex1 w k nm ρ σ (.Break pos) Φ := fun env A α f s M Q E rm L t hQ =>
  wpAny_Break (hQ .brk .brk ρ σ α M f s h rfl t L (GrewS.refl M f s))
theorem x1_try {body h₀ hs pos} (h : Ex w k nm ρ σ body Φ) : Ex1 w k nm ρ σ (.Try body (h₀ :: hs) [] [] pos) Φ := fun env A α f s M Q E rm L t hQ =>
  wpAny_Try_except (h env A α f s M _ _ rm L t fun fl flow ρ2 σ2 α2 M2 f2 s2 h2 r2 t2 L2 g2 => by
    have q := hQ fl flow ρ2 σ2 α2 M2 f2 s2 h2 r2 t2 L2 g2
    cases flow with
    | next => exact wpAny_execs_nil q
    | brk => exact q
    | cont => exact q
    | ret v => exact q)
noncomputable def Asg (w : World) (nm : List (Str × NameKind)) (tgt : Expr) (x : V) (ρ : Rho) (σ : Sig) (ρ' : Rho) (σ' : Sig) : Prop :=
  ∀ (env : Env) (A : Around) (α : Str → Addr) (f : Fz) (s : Shared) (M : Addr → Prop) (val : Value) (Q : Unit → Shared → Prop) (E : Value → Shared → Prop), A.handled = none → Live M s → St w nm env ρ σ α M f s → Rel f x val →
    (∀ s', St w nm env ρ' σ' α M f s' → Live M s' → GrewS M f s M f s' → Q () s') → wpAny (model prg w) A (assign tgt env val) Q E s
noncomputable def AsgN (w : World) (nm : List (Str × NameKind)) (n : Str) (x : V) (ρ : Rho) (σ : Sig) (ρ' : Rho) (σ' : Sig) : Prop :=
  ∀ (env : Env) (A : Around) (α : Str → Addr) (f : Fz) (s : Shared) (M : Addr → Prop) (val : Value) (Q : Unit → Shared → Prop) (E : Value → Shared → Prop), A.handled = none → Live M s → St w nm env ρ σ α M f s → Rel f x val →
    (∀ s', St w nm env ρ' σ' α M f s' → Live M s' → GrewS M f s M f s' → Q () s') → wpAny (model prg w) A (storeName env n val) Q E s
theorem Live.same {M : Addr → Prop} {s : Shared} (L : Live M s) {a : Addr} {h' : Heap} {tk : Nat} (hs : Heap.SameBut a s.heap h') (ha : ∃ o, h'.get? a = some o) : Live M { s with heap := h', toks := tk } := fun b hb => by
  by_cases q : b = a
  · subst q; exact ha
  · refine ob1_1 (L b hb) fun o e => ?_; exact ⟨o, hs.extBut b o q e⟩
theorem grewS_same {M : Addr → Prop} {f : Fz} {s : Shared} {a : Addr} {h' : Heap} {tk : Nat} (hM : M a) (hs : Heap.SameBut a s.heap h') (hT : ∀ vs, s.heap.get? tabA = some (tabO vs) → tabA ≠ a) : GrewS M f s M f { s with heap := h', toks := tk } :=
  ⟨Fz.Le.refl f, fun _ _ e => .inl e, keepsM_of fun b o hb e => hs.extBut b o (fun q => hb (q ▸ hM)) e, fun _ h => .inl h, fun h => h.keep (Fz.Le.refl f) fun vs e => hs.extBut _ _ (hT vs e) e⟩
theorem asgn_local {n x} (hn : nm.lookup n = some .local) : AsgN w nm n x ρ σ (put n (false, x) ρ) (del n σ) := fun env A α f s M val Q E hh L t r hQ => by
  refine ob1_3 t.loc fun m hns h1 h2 => ?_
  refine wpAny_storeName_local (by unfold Env.kindOf; rw [t.nms]; exact hn) hns (fun h' hn' hs => ?_) (by rw [t.kind]; rfl)
  refine hQ _ (t.setL hn r hns hn' hs h1 h2) (L.same hs ?_) (grewS_same t.ML hs fun _ e => ns_ne_tab hns e)
  obtain ⟨o, _, _, ho, _⟩ := hn'; exact ⟨o, ho⟩
theorem asgn_cell {n x} (hn : nm.lookup n = some .cell) : AsgN w nm n x ρ σ (put n (true, x) ρ) (del n σ) := fun env A α f s M val Q E hh L t r hQ => by
  refine ob2_3 (t.cells n hn) fun a vo hc hM hi => ?_
  refine wpAny_storeName_cell t.kind (by unfold Env.kindOf; rw [t.nms]; exact hn) hc hi fun h' hi' hs => ?_
  refine hQ _ (t.setC hn r hc hi hM hi' hs) ?_ (grewS_same (tk := s.toks) hM hs fun _ e => cell_ne_tab hi e)
  exact L.same (tk := s.toks) hs (let ⟨o, ho, _⟩ := hi'; ⟨o, ho⟩)
theorem asg_name {n pos x ρ' σ'} (h : AsgN w nm n x ρ σ ρ' σ') : Asg w nm (.Name n pos) x ρ σ ρ' σ' := fun env A α f s M val Q E hh L t r hQ =>
  wpAny_assign_Name (h env A α f s M val Q E hh L t r hQ)
inductive AsgL (w : World) (nm : List (Str × NameKind)) : List Str → List V → Rho → Sig → Rho → Sig → Prop
  | nil (ρ : Rho) (σ : Sig) : AsgL w nm [] [] ρ σ ρ σ
  | cons (n : Str) (ns : List Str) (x : V) (xs : List V) (ρ : Rho) (σ : Sig) (ρ' : Rho) (σ' : Sig) (ρ'' : Rho) (σ'' : Sig) (h : AsgN w nm n x ρ σ ρ' σ') (t : AsgL w nm ns xs ρ' σ' ρ'' σ'') : AsgL w nm (n :: ns) (x :: xs) ρ σ ρ'' σ''
theorem x1_set {n pos pos' e v ρ' σ'} (he : EvS w k nm ρ σ e v) (ha : AsgN w nm n v ρ σ ρ' σ') (h : Φ ρ' σ' .next) (hs : ∀ env, swapsWith e (some (.Name n pos')) pos.line env = pure false := by intro _; rfl) :
    Ex1 w k nm ρ σ (.Assign [.Name n pos'] e pos) Φ := fun env A α f s M Q E rm L t hQ =>
  wpAny_Assign_Name (he env A α f s M _ E rm L t fun val f' s' g r => ha env A α f' s' M val _ E rm.handled (L.grew g.keeps) (t.grew L g) r fun s'' t'' L'' g'' =>
    hQ .next .next ρ' σ' α M f' s'' h rfl t'' L'' (g.toS.trans g'')) (hs env)
end
section
variable {w : World} {k : Nat} {nm : List (Str × NameKind)} {ρ : Rho} {σ : Sig} {Φ : Rho → Sig → Fl → Prop} {env : Env} {α : Str → Addr} {M : Addr → Prop} {f : Fz} {s : Shared}
theorem St.ownNew (t : St w nm env ρ σ α M f s) {x : Str} {c : Bool} {l : List V} {a : Addr} {vs : List Value} {n : Nat} (hf : f a = none) (hM : ¬ M a)
    {h' : Heap} {tk : Nat} (hg : h'.get? a = some (lstO vs n)) (hr : RelL f l vs) (t' : St w nm env (del x ρ) (del x σ) α M f { s with heap := h', toks := tk })
    (hb : match c with
      | false => nm.lookup x = some .local ∧ ∃ m, h'.Ns env.locals m ∧ m x = some (.ref a) ∧ (∀ y, y ≠ x → (∀ u, ρ.lookup y = some (false, u) → ∃ val, m y = some val ∧ Rel f u val) ∧ (∀ l, σ.lookup y = some (false, l) → m y = some (.ref (α y))))
      | true => nm.lookup x = some .cell ∧ ∃ b, env.cells.lookup x = some b ∧ h'.IsCell b (some (.ref a))) :
    St w nm env (del x ρ) (put x (c, l) σ) (fun y => if y = x then a else α y) (fun b => M b ∨ b = a) f { s with heap := h', toks := tk } := by
  have hne : ∀ y p, y ≠ x → (put x (c, l) σ).lookup y = some p → (del x σ).lookup y = some p := fun y p hy e => by
    rw [lookup_put, if_neg hy] at e; rw [lookup_del, if_neg hy]; exact e
  refine ⟨t'.okf, t'.kind, t'.glob, t'.blt, t'.nms, t'.nofree, fun b hb' => ?_, .inl t'.ML, ?_, fun y hy => ?_, t'.inj, t'.cel, fun y l' e => ?_, fun y c' l' e => ?_, fun y z p q e1 e2 e3 => ?_⟩
  · rcases hb' with h1 | h1
    · exact t'.free b h1
    · subst h1; exact hf
  · refine ob1_3 t'.loc fun m hn h1 h2 => ?_
    cases c with
    | true =>
      refine ⟨m, hn, h1, fun y l' e => ?_⟩
      by_cases hy : y = x
      · subst hy; rw [lookup_put] at e; simp at e
      · refine ob0_2 (h2 y l' (hne y _ hy e)) fun hk hm => ?_
        exact ⟨hk, by simp [hy, hm]⟩
    | false =>
      refine ob0_2 hb fun hx z0 => ?_; clear hb; obtain ⟨m', hn', hmx, hrest⟩ := z0
      refine ⟨m', hn', fun y u e => ?_, fun y l' e => ?_⟩
      · have hy : y ≠ x := by rintro rfl; rw [lookup_del] at e; simp at e
        have e2 : ρ.lookup y = some (false, u) := by rw [lookup_del, if_neg hy] at e; exact e
        exact ⟨(h1 y u e).1, (hrest y hy).1 u e2⟩
      · by_cases hy : y = x
        · subst hy; exact ⟨hx, by simp [hmx]⟩
        · have e1 := hne y _ hy e
          have e2 : σ.lookup y = some (false, l') := by rw [lookup_del, if_neg hy] at e1; exact e1
          exact ⟨(h2 y l' e1).1, by simp [hy, (hrest y hy).2 l' e2]⟩
  · refine ob2_3 (t'.cells y hy) fun b vo e1 e2 e3 => ?_
    exact ⟨b, vo, e1, .inl e2, e3⟩
  · by_cases hy : y = x
    · subst hy
      rw [lookup_put] at e
      simp at e
      refine ob0_2 e fun z0 z1 => ?_; clear e; subst z0; subst z1
      refine ob0_2 hb fun hx z0 => ?_; clear hb; obtain ⟨b, h1, h2⟩ := z0
      exact ⟨hx, b, h1, by simpa using h2⟩
    · refine ob0_2 (t'.celO y l' (hne y _ hy e)) fun hk z0 => ?_; obtain ⟨b, h1, h2⟩ := z0
      exact ⟨hk, b, h1, by simpa [hy] using h2⟩
  · by_cases hy : y = x
    · subst hy
      rw [lookup_put] at e
      simp at e
      refine ob0_2 e fun z0 z1 => ?_; clear e; subst z0; subst z1
      exact ⟨.inr (by simp), vs, n, by simpa using hg, hr⟩
    · refine ob0_2 (t'.own y c' l' (hne y _ hy e)) fun hM' z0 => ?_; obtain ⟨vs', n', h1, h2⟩ := z0
      exact ⟨.inl (by simpa [hy] using hM'), vs', n', by simpa [hy] using h1, h2⟩
  · by_cases hy : y = x
    · by_cases hz : z = x
      · rw [hy, hz]
      · obtain ⟨c', l'⟩ := q
        refine ob0_2 (t'.own z c' l' (hne z _ hz e2)) fun hM' _ => ?_
        simp [hy, hz] at e3
        exact absurd (e3 ▸ hM') hM
    · by_cases hz : z = x
      · obtain ⟨c', l'⟩ := p
        refine ob0_2 (t'.own y c' l' (hne y _ hy e1)) fun hM' _ => ?_
        simp [hy, hz] at e3
        exact absurd (e3 ▸ hM') hM
      · simp [hy, hz] at e3
        exact t'.injO y z p q (hne y _ hy e1) (hne z _ hz e2) e3
theorem St.drop (t : St w nm env ρ σ α M f s) (x : Str) : St w nm env (del x ρ) (del x σ) α M f s := t.weak
  (fun y p e => by rw [lookup_del] at e; by_cases hy : y = x <;> simp [hy] at e; simpa [hy] using e)
  (fun y p e => by rw [lookup_del] at e; by_cases hy : y = x <;> simp [hy] at e; simpa [hy] using e)
noncomputable def cb (nm : List (Str × NameKind)) (x : Str) : Bool := nm.lookup x == some .cell
theorem own_store {x : Str} {c : Bool} (hx : nm.lookup x = some (if c then .cell else .local)) {A : Around} {Q : Unit → Shared → Prop} {E : Value → Shared → Prop} (L : Live M s) (t : St w nm env ρ σ α M f s)
    {a : Addr} {l : List V} {vs : List Value} {n : Nat} (hg : s.heap.get? a = some (lstO vs n)) (hr : RelL f l vs) (hf : f a = none) (hM : ¬ M a)
    (hQ : ∀ s', St w nm env (del x ρ) (put x (c, l) σ) (fun y => if y = x then a else α y) (fun b => M b ∨ b = a) f s' → Live (fun b => M b ∨ b = a) s' → GrewS M f s M f s' → Q () s') :
    wpAny (model prg w) A (storeName env x (.ref a)) Q E s := by
  cases c with
  | false =>
    simp only [Bool.false_eq_true, if_false] at hx
    refine ob1_3 t.loc fun m hns h1 h2 => ?_
    refine wpAny_storeName_local (by unfold Env.kindOf; rw [t.nms]; exact hx) hns (fun h' hn' hs => ?_) (by rw [t.kind]; rfl)
    have hg' : h'.get? a = some (lstO vs n) := hs.extBut a _ (ns_ne_lst hns hg) hg
    have t' : St w nm env (del x ρ) (del x σ) α M f { s with heap := h', toks := s.toks + 1 } := by
      have kp : ∀ b o, b ≠ env.locals → s.heap.get? b = some o → h'.get? b = some o := fun b o hb e => hs.extBut b o hb e
      have td := t.drop x
      refine ob1_3 td.loc fun m1 hn1 g1 g2 => ?_
      refine ⟨⟨fun a o e => kp a o (fun q => by subst q; rw [t.free _ t.ML] at e; cases e) (t.okf.sub a o e), t.okf.top, t.okf.tab.keep (Fz.Le.refl f) fun _ e => kp _ _ (ns_ne_tab hns e) e, t.okf.tabn⟩, t.kind, t.glob, t.blt, t.nms, t.nofree, t.free, t.ML, ⟨_, hn', fun y u e => ?_, fun y l' e => ?_⟩,
        fun y hy => ?_, t.inj, fun y u e => ?_, fun y l' e => ?_, fun y c' l' e => ?_, td.injO⟩
      · have hy : y ≠ x := by rintro rfl; rw [lookup_del] at e; simp at e
        have e2 : ρ.lookup y = some (false, u) := by rw [lookup_del, if_neg hy] at e; exact e
        refine ob0_2 (h1 y u e2) fun hk z0 => ?_; obtain ⟨va, hm, rr⟩ := z0
        exact ⟨hk, va, by simp [hy, hm], rr⟩
      · have hy : y ≠ x := by rintro rfl; rw [lookup_del] at e; simp at e
        have e2 : σ.lookup y = some (false, l') := by rw [lookup_del, if_neg hy] at e; exact e
        refine ob0_2 (h2 y l' e2) fun hk hm => ?_
        exact ⟨hk, by simp [hy, hm]⟩
      · refine ob2_3 (t.cells y hy) fun b vo e1 e2 e3 => ?_
        exact ⟨b, vo, e1, e2, e3.sameBut hs (ns_ne_cell hns e3)⟩
      · refine ob0_2 (td.cel y u e) fun hk z0 => ?_; obtain ⟨b, va, e1, e2, rr⟩ := z0
        exact ⟨hk, b, va, e1, e2.sameBut hs (ns_ne_cell hns e2), rr⟩
      · refine ob0_2 (td.celO y l' e) fun hk z0 => ?_; obtain ⟨b, e1, e2⟩ := z0
        exact ⟨hk, b, e1, e2.sameBut hs (ns_ne_cell hns e2)⟩
      · refine ob0_2 (td.own y c' l' e) fun hM' z0 => ?_; obtain ⟨vs', n', e1, rr⟩ := z0
        exact ⟨hM', vs', n', kp _ _ (ns_ne_lst hns e1) e1, rr⟩
    refine hQ _ (t.ownNew (c := false) hf hM hg' hr t' ⟨hx, _, hn', by simp, fun y hy => ⟨fun u e => ?_, fun l' e => ?_⟩⟩) ?_ (grewS_same t.ML hs fun _ e => ns_ne_tab hns e)
    · refine ob0_2 (h1 y u e) fun _ z0 => ?_; obtain ⟨va, hm, rr⟩ := z0
      exact ⟨va, by simp [hy, hm], rr⟩
    · refine ob0_2 (h2 y l' e) fun _ hm => ?_
      simp [hy, hm]
    · rintro b (hb | rfl)
      · exact (L.same hs (let ⟨o, _, _, ho, _⟩ := hn'; ⟨o, ho⟩)) b hb
      · exact ⟨_, hg'⟩
  | true =>
    simp only [if_true] at hx
    refine ob2_3 (t.cells x hx) fun b vo hc hMb hi => ?_
    refine wpAny_storeName_cell t.kind (by unfold Env.kindOf; rw [t.nms]; exact hx) hc hi fun h' hi' hs => ?_
    have hg' : h'.get? a = some (lstO vs n) := hs.extBut a _ (cell_ne_lst hi hg) hg
    have t' : St w nm env (del x ρ) (del x σ) α M f { s with heap := h', toks := s.toks } := by
      have kp : ∀ b' o, b' ≠ b → s.heap.get? b' = some o → h'.get? b' = some o := fun b' o hb e => hs.extBut b' o hb e
      have td := t.drop x
      refine ob1_3 td.loc fun m1 hn1 g1 g2 => ?_
      have hLc := ns_ne_cell hn1 hi
      refine ⟨⟨fun a o e => kp a o (fun q => by subst q; rw [t.free _ hMb] at e; cases e) (t.okf.sub a o e), t.okf.top, t.okf.tab.keep (Fz.Le.refl f) fun _ e => kp _ _ (cell_ne_tab hi e) e, t.okf.tabn⟩, t.kind, t.glob, t.blt, t.nms, t.nofree, t.free, t.ML, ⟨m1, hn1.sameBut hs (Ne.symm hLc), g1, g2⟩,
        fun y hy => ?_, t.inj, fun y u e => ?_, fun y l' e => ?_, fun y c' l' e => ?_, td.injO⟩
      · refine ob2_3 (t.cells y hy) fun b' vo' e1 e2 e3 => ?_
        by_cases hbb : b' = b
        · subst hbb; exact ⟨b', _, e1, e2, hi'⟩
        · exact ⟨b', vo', e1, e2, e3.sameBut hs hbb⟩
      · have hy : y ≠ x := by rintro rfl; rw [lookup_del] at e; simp at e
        refine ob0_2 (td.cel y u e) fun hk z0 => ?_; obtain ⟨b', va, e1, e2, rr⟩ := z0
        exact ⟨hk, b', va, e1, e2.sameBut hs (fun q => hy (t.inj y x b' hk hx e1 (q ▸ hc))), rr⟩
      · have hy : y ≠ x := by rintro rfl; rw [lookup_del] at e; simp at e
        refine ob0_2 (td.celO y l' e) fun hk z0 => ?_; obtain ⟨b', e1, e2⟩ := z0
        exact ⟨hk, b', e1, e2.sameBut hs (fun q => hy (t.inj y x b' hk hx e1 (q ▸ hc)))⟩
      · refine ob0_2 (td.own y c' l' e) fun hM' z0 => ?_; obtain ⟨vs', n', e1, rr⟩ := z0
        exact ⟨hM', vs', n', kp _ _ (cell_ne_lst hi e1) e1, rr⟩
    refine hQ _ (t.ownNew (c := true) (tk := s.toks) hf hM hg' hr t' ⟨hx, b, hc, hi'⟩) ?_ (grewS_same (tk := s.toks) hMb hs fun _ e => cell_ne_tab hi e)
    rintro b' (hb | rfl)
    · exact (L.same (tk := s.toks) hs (let ⟨o, ho, _⟩ := hi'; ⟨o, ho⟩)) b' hb
    · exact ⟨_, hg'⟩
theorem GrewS.more {M₁ : Addr → Prop} {f₁ : Fz} {s₁ : Shared} (g : GrewS M f s M₁ f₁ s₁) {a : Addr} (ha : s.heap.get? a = none) : GrewS M f s (fun b => M₁ b ∨ b = a) f₁ s₁ :=
  ⟨g.le, g.new, g.keeps, fun b hb => by
    rcases hb with h | rfl
    · exact g.M' b h
    · exact .inr ha, g.tab⟩
theorem x1_own {x pos pos' lpos c} (hx : nm.lookup x = some (if c then .cell else .local)) (h : Φ (del x ρ) (put x (c, []) σ) .next) : Ex1 w k nm ρ σ (.Assign [.Name x pos'] (.List [] lpos) pos) Φ :=
  fun env A α f s M Q E rm L t hQ => by
    refine wpAny_Assign_Name (wpAny_List (wpAny_items_nil ⟨by simp, ?_⟩)) (by rfl)
    have kp : ∀ b o, s.heap.get? b = some o → (s.heap.push (lstO [] 0)).get? b = some o := fun b o e => Heap.get?_push_of_some _ e
    have hd := get?_size s.heap
    have g : Grew f s f { s with heap := s.heap.push (lstO [] 0), toks := s.toks } := Grew.same t.okf.sub kp
    have hMn : ¬ M s.heap.objs.size := fun hm => by refine ob1_1 (L _ hm) fun o e => ?_; rw [hd] at e; cases e
    have hfn : f s.heap.objs.size = none := by
      cases q : f s.heap.objs.size with
      | none => rfl
      | some o => rw [t.okf.sub _ _ q] at hd; cases hd
    refine own_store (l := []) (vs := []) (n := 0) hx (L.grew g.keeps) (t.grew L g) (Heap.get?_push_size _ rfl) RelL.nil hfn hMn fun s' t' L' g' => ?_
    exact hQ .next .next _ _ _ _ f s' h rfl t' L' ((g.toS.trans g').more hd)
theorem app_door {a b : Array Value} (h : a.size + b.size ≤ sizeLine) : ¬(!a.isEmpty && Builtin.List.listTooLong (a.size + b.size)) = true := extend_door h
theorem St.filled (t : St w nm env ρ σ α M f s) (L : Live M s) {x : Str} {c : Bool} {l l' : List V} (hx : σ.lookup x = some (c, l)) {vs' : List Value} {n' : Nat} {h' : Heap} {tk : Nat}
    (hg : h'.get? (α x) = some (lstO vs' n')) (hr : RelL f l' vs') (hs : ∀ b o, b ≠ α x → s.heap.get? b = some o → h'.get? b = some o) :
    St w nm env ρ (put x (c, l') σ) α M f { s with heap := h', toks := tk } ∧ Live M { s with heap := h', toks := tk } ∧ GrewS M f s M f { s with heap := h', toks := tk } := by
  refine ob0_2 (t.own x c l hx) fun _ z0 => ?_; obtain ⟨vs0, n0, hg0, _⟩ := z0
  refine ⟨t.fill hx hg hr hs, fun b hb => ?_, Fz.Le.refl f, fun _ _ e => .inl e, keepsM_of fun b o hb e => hs b o (fun q => hb ?_) e, fun _ h => .inl h, fun h => h.keep (Fz.Le.refl f) fun _ e => hs _ _ (lst_ne_tab hg0 e) e⟩
  · by_cases q : b = α x
    · subst q; exact ⟨_, hg⟩
    · refine ob1_1 (L b hb) fun o e => ?_; exact ⟨o, hs b o q e⟩
  · subst q; exact (t.own x c l hx).1
theorem own_call {x : Str} {pos apos npos : Pos} {name : Str} {id : String} {es : List Expr} {c : Bool} {l : List V} (hσ : σ.lookup x = some (c, l)) (hline : (apos.endLine == pos.line) = true)
    (slot : Slot "list" name id) (ty : typeOf (.builtin id) = pure (.type "method_descriptor")) (hb : ∀ env, attributeBase (.Name x npos) name env (eval (.Name x npos) env) = eval (.Name x npos) env)
    (hfew : ∀ env, ((backTo pos (starEach es env)).all (fun x => !x.1) && (backToKw pos (keywordEach [] env)).all (fun x => x.1.isSome)
      && decide (es.length + ([] : List Keyword).length + (if ([] : List Keyword).isEmpty then 0 else 1) < 30)) = true)
    {A : Around} {Q : Value → Shared → Prop} {E : Value → Shared → Prop} (t : St w nm env ρ σ α M f s) (hd : (x == ("__debug__" : Str)) = false)
    (h : wpAny (model prg w) A (callWith pos (.builtin id) [.ref (α x)] (backTo pos (starEach es env)) []) Q E s) :
    wpAny (model prg w) A (eval (.Call (.Attribute (.Name x npos) name apos) es [] pos) env) Q E s := by
  refine ob0_2 (t.own x c l hσ) fun hM z0 => ?_; obtain ⟨vs, n, hg, rl⟩ := z0
  have done : MethodOnS prg w.toWorld A E name (.ref (α x)) pos (backTo pos (starEach es env)) Q s :=
    ⟨"list", id, F.plainAttrs_list, slot, ty, ⟨_, hg, rfl⟩, fun a e => by cases e; exact ⟨_, hg, rfl⟩, h⟩
  refine wpAny_Call_method_lateS (hb env) (hfew env) hline ?_
  cases c with
  | false =>
    refine ob1_3 t.loc fun m hn _ h2 => ?_
    refine ob0_2 (h2 x l hσ) fun hk hm => ?_
    exact wpAny_Name (wpAny_loadName_local t.kind (by unfold Env.kindOf; rw [t.nms]; exact hk) hn hm done) hd
  | true =>
    refine ob0_2 (t.celO x l hσ) fun hk z0 => ?_; obtain ⟨a, hc, hi⟩ := z0
    exact wpAny_Name (wpAny_loadName_cell t.kind (by unfold Env.kindOf; rw [t.nms]; exact hk) hc hi done) hd
theorem mapSeq_lst {vs : List Value} {n : Nat} {g : Array Value → Array Value} {vs' : List Value} (e : g vs.toArray = vs'.toArray) : ∃ n', (lstO vs n).mapSeq g = lstO vs' n' := by
  unfold lstO Obj.mapSeq
  simp only [e]
  exact ⟨_, rfl⟩
theorem x1_append {x e pos apos npos epos v c l} (hσ : σ.lookup x = some (c, l)) (he : EvS w k nm ρ σ e v) (hlen : l.length ≤ 1000000) (h : Φ ρ (put x (c, l ++ [v]) σ) .next)
    (hline : (apos.endLine == pos.line) = true := by rfl) (hp : ∀ env, starEach [e] env = [(false, eval e env)] := by intro _; rfl) (hd : (x == ("__debug__" : Str)) = false := by decide) :
    Ex1 w k nm ρ σ (.Expr (.Call (.Attribute (.Name x npos) "append" apos) [e] [] pos) epos) Φ := fun env A α f s M Q E rm L t hQ => by
  refine wpAny_Expr_any (own_call hσ hline F.slot_list_append F.type_list_append (fun _ => rfl) (fun env => by rw [hp]; rfl) t hd ?_) (by unfold interactive; rw [t.kind]; rfl) (by rfl)
  refine Calls.callWith_builtin (by rw [hp]; rfl) ?_
  rw [hp]
  refine Calls.evalArgs_plain (Calls.spliced_cons (he env A α f s M _ E rm L t fun val f' s' g r => Calls.spliced_nil ?_))
  have t1 := t.grew L g
  refine ob0_2 (t1.own x c l hσ) fun hM z0 => ?_; obtain ⟨vs, n, hg, rl⟩ := z0
  refine call_meets slot_list_append ⟨_, hg, rfl⟩ entry_list_append (args_list_append _ _) (S := fun _ R s => ∃ items n, s.heap.get? (α x) = some { cls := .type "list", data := .seq items n } ∧ items.size ≤ sizeLine ∧ R (.ok (.ret .none)) { s with heap := s.heap.update (α x) (Obj.mapSeq (·.push val)) }) ?_ ?_
  · refine .of_wp fun prog w A R s hS => ?_
    refine ob2_3 hS fun items n hl hz hR => ?_; clear hS
    show wpAny _ _ (updateSeq (α x) (·.push val) >>= fun _ => ret .none) _ _ s
    exact wpAny_bind (wpAny_updateSeq hl rfl (wpAny_pure ⟨.none, rfl, hR⟩))
  · refine ⟨vs.toArray, n, hg, by rw [List.size_toArray, rl.length, sizeLine_eq]; omega, ?_⟩
    refine ob1_1 (mapSeq_lst (vs := vs) (n := n) (g := (·.push val)) (vs' := vs ++ [val]) (by simp)) fun n' e' => ?_
    refine ob0_3 (t1.filled (L.grew g.keeps) (h' := s'.heap.update (α x) (Obj.mapSeq (·.push val))) (tk := s'.toks) hσ
      (by rw [Heap.get?_update_self _ hg (by rw [e']; rfl), e']) (RelL.append rl (RelL.cons r RelL.nil)) (fun b o hb e => (Heap.SameBut.update ..).extBut b o hb e)) fun t2 L2 g2 => ?_
    exact hQ .next .next _ _ _ _ _ _ h rfl t2 L2 (g.toS.trans g2)
theorem x1_pop {x pos apos npos epos c l} (hσ : σ.lookup x = some (c, l)) (hne : l ≠ []) (hlen : l.length ≤ 1000000) (h : Φ ρ (put x (c, l.dropLast) σ) .next)
    (hline : (apos.endLine == pos.line) = true := by rfl) (hd : (x == ("__debug__" : Str)) = false := by decide) :
    Ex1 w k nm ρ σ (.Expr (.Call (.Attribute (.Name x npos) "pop" apos) [] [] pos) epos) Φ := fun env A α f s M Q E rm L t hQ => by
  refine wpAny_Expr_any (own_call hσ hline F.slot_list_pop F.type_list_pop (fun _ => rfl) (fun env => by rfl) t hd ?_) (by unfold interactive; rw [t.kind]; rfl) (by rfl)
  refine Calls.callWith_builtin (by rfl) (_root_.PySem.evalArgs_none ?_)
  refine ob0_2 (t.own x c l hσ) fun hM z0 => ?_; obtain ⟨vs, n, hg, rl⟩ := z0
  have hl := rl.length
  have hpos : 0 < vs.length := by rw [hl]; exact List.length_pos_iff.mpr hne
  have hy : vs.toArray[vs.toArray.size - 1]? = some (vs[vs.length - 1]'(by omega)) := by simp [hpos]
  refine call_meets F.slot_list_pop ⟨_, hg, rfl⟩ F.entry_list_pop (F.args_list_pop_1 _) (MeetsSeq.list_pop_last (α x) vs.toArray n _ hy (by rw [List.size_toArray, hl, sizeLine_eq]; omega)) ⟨hg, ?_⟩
  have ev : (vs.toArray.eraseIdxIfInBounds (vs.toArray.size - 1)) = vs.dropLast.toArray := by
    have hlt : vs.toArray.size - 1 < vs.toArray.size := by rw [List.size_toArray]; omega
    rw [Array.eraseIdxIfInBounds, dif_pos hlt]
    apply Array.ext'
    rw [Array.toList_eraseIdx, List.size_toArray]
    exact List.eraseIdx_length_sub_one
  have rd : RelL f l.dropLast vs.dropLast := by
    clear hQ t L hg hM hy ev hpos h hlen hσ
    revert l
    induction vs with
    | nil => intro l _ rl hl; have : l = [] := List.eq_nil_of_length_eq_zero hl.symm; subst this; exact RelL.nil
    | cons y ys ih =>
      intro l hne rl hl
      cases l with
      | nil => simp at hl
      | cons a l =>
        simp only [RelL] at rl
        refine ob2_3 rl fun y' r' e ra rr => ?_; clear rl
        cases e
        cases l with
        | nil =>
          have : ys = [] := List.eq_nil_of_length_eq_zero (by simpa using hl)
          subst this; exact RelL.nil
        | cons b l =>
          cases ys with
          | nil => simp at hl
          | cons z zs => exact RelL.cons ra (ih (by simp) rr rr.length)
  refine ob1_1 (mapSeq_lst (vs := vs) (n := n) (g := fun xs => xs.eraseIdxIfInBounds (vs.toArray.size - 1)) (vs' := vs.dropLast) ev) fun n' e' => ?_
  refine ob0_3 (t.filled L (h' := s.heap.update (α x) (Obj.mapSeq fun xs => xs.eraseIdxIfInBounds (vs.toArray.size - 1))) (tk := s.toks) hσ
    (by rw [Heap.get?_update_self _ hg (by rw [e']; rfl), e']) rd (fun b o hb e => (Heap.SameBut.update ..).extBut b o hb e)) fun t2 L2 g2 => ?_
  exact hQ .next .next _ _ _ _ _ _ h rfl t2 L2 g2
theorem x1_extend {x e pos apos npos epos xs c l} (hσ : σ.lookup x = some (c, l)) (he : EvS w k nm ρ σ e (.lst xs)) (hlen : l.length + xs.length ≤ 1000000) (h : Φ ρ (put x (c, l ++ xs) σ) .next)
    (hline : (apos.endLine == pos.line) = true := by rfl) (hp : ∀ env, starEach [e] env = [(false, eval e env)] := by intro _; rfl) (hd : (x == ("__debug__" : Str)) = false := by decide) :
    Ex1 w k nm ρ σ (.Expr (.Call (.Attribute (.Name x npos) "extend" apos) [e] [] pos) epos) Φ := fun env A α f s M Q E rm L t hQ => by
  refine wpAny_Expr_any (own_call hσ hline F.slot_list_extend F.type_list_extend (fun _ => rfl) (fun env => by rw [hp]; rfl) t hd ?_) (by unfold interactive; rw [t.kind]; rfl) (by rfl)
  refine Calls.callWith_builtin (by rw [hp]; rfl) ?_
  rw [hp]
  refine Calls.evalArgs_plain (Calls.spliced_cons (he env A α f s M _ E rm L t fun val f' s' g r => Calls.spliced_nil ?_))
  have t1 := t.grew L g
  refine ob0_2 (t1.own x c l hσ) fun hM z0 => ?_; obtain ⟨vs, n, hg, rl⟩ := z0
  refine ob3_3 (rel_lst.mp r) fun b ys n2 z0 hb rx => ?_; subst z0
  have hsz : vs.toArray.size + ys.toArray.size ≤ sizeLine := by rw [List.size_toArray, List.size_toArray, rl.length, rx.length, sizeLine_eq]; omega
  refine call_meets F.slot_list_extend ⟨_, hg, rfl⟩ F.entry_list_extend (F.args_list_extend_2 _ _) (AutoSeq1.list_extend_list_list_0 (α x) vs.toArray n b ys.toArray n2 (app_door hsz) (Nat.le_trans (Nat.le_add_right _ _) hsz) (Nat.le_succ_of_le hsz)) ⟨hg, t1.okf.sub _ _ hb, ?_⟩
  refine ob1_1 (mapSeq_lst (vs := vs) (n := n) (g := fun x => x ++ ys.toArray) (vs' := vs ++ ys) (by simp)) fun n' e' => ?_
  refine ob0_3 (t1.filled (L.grew g.keeps) (h' := s'.heap.update (α x) (Obj.mapSeq fun x => x ++ ys.toArray)) (tk := s'.toks) hσ
    (by rw [Heap.get?_update_self _ hg (by rw [e']; rfl), e']) (RelL.append rl rx) (fun b o hb e => (Heap.SameBut.update ..).extBut b o hb e)) fun t2 L2 g2 => ?_
  exact hQ .next .next _ _ _ _ _ _ h rfl t2 L2 (g.toS.trans g2)
end
noncomputable def Iter (w : World) (A : Around) (f : Fz) (items : List V) (I : Addr) (h : Heap) : Prop :=
  ∃ (fp wr : List Addr) (P : Nat → Value → Prop) (Sti : Nat → Heap → Prop), Walks prg w.toWorld A I fp wr items.length P Sti ∧ Sti 0 h ∧ (∀ b ∈ wr, b = I) ∧ (∀ b ∈ fp, b = I ∨ ∃ o, f b = some o) ∧
    (∀ i u, P i u → ∃ x, items[i]? = some x ∧ Rel f x u) ∧
    (∀ i (s : Shared) tgt v (Q : Unit → Shared → Prop) (E : Value → Shared → Prop), Sti i s.heap → Q () s → wpAny (model prg w) A (letOwnedTupleGo tgt (.ref I) v) Q E s) ∧
    (∀ i h, Sti i h → ∃ o, h.get? I = some o ∧ Solid o)
noncomputable def IterOk (w : World) (k : Nat) (v : V) (items : List V) : Prop :=
  ∀ (A : Around) (f : Fz) (s : Shared) (va : Value) (Q : Value → Shared → Prop) (E : Value → Shared → Prop), Room k A → Okf w f s → Rel f v va →
    (∀ I s', Keeps s s' → s.heap.get? I = none → (∃ o, s'.heap.get? I = some o) → Iter w A f items I s'.heap → Q (.ref I) s') → wpAny (model prg w) A (pyIter va) Q E s
section
variable {w : World} {k : Nat}
theorem letgo_fields {A : Around} {s : Shared} {I : Addr} {o : Obj} {T : String} {vs : Array Value} (ho : s.heap.get? I = some o) (hc : o.cls = .type T) (hd : o.data = .fields vs)
    (hT : ["enumerate", "zip", "dict_itemiterator", "dict_reverseitemiterator", "odict_iterator", "itertools.zip_longest", "itertools.pairwise"].contains T = false) {tgt : Expr} {v : Value} {Q : Unit → Shared → Prop} {E : Value → Shared → Prop}
    (hQ : Q () s) : wpAny (model prg w) A (letOwnedTupleGo tgt (.ref I) v) Q E s := by
  unfold letOwnedTupleGo
  split
  · split
    · rename_i r a he
      cases he
      refine wpAny_bind (wpAny_load ho ?_)
      rw [hc, hd]
      dsimp only
      rw [hT]
      exact wpAny_pure hQ
    · exact wpAny_pure hQ
  · split
    · rename_i r a he
      cases he
      refine wpAny_bind (wpAny_load ho ?_)
      rw [hc, hd]
      dsimp only
      rw [hT]
      exact wpAny_pure hQ
    · exact wpAny_pure hQ
  · exact wpAny_pure hQ
theorem solid_fields {h : Heap} {I : Addr} {T : String} {vs : Array Value} (x : ∃ o, h.get? I = some o ∧ o.cls = .type T ∧ o.data = .fields vs) : ∃ o, h.get? I = some o ∧ Solid o := by
  refine ob1_3 x fun o ho hc hd => ?_; clear x
  exact ⟨o, ho, solid_cls hc (by rw [hd]; intro _ _ q; cases q)⟩
theorem iter_lst {l : List V} : IterOk w k (.lst l) l := fun A f s va Q E rm ok r hQ => by
  refine ob3_3 (rel_lst.mp r) fun a vs n z0 ha rl => ?_; subst z0
  have hl := isList_of (ok.sub _ _ ha)
  refine wpAny_pyIter_list hl (hQ s.heap.objs.size _ ⟨_, s.toks, rfl, fun b o e => Heap.get?_push_of_some _ e⟩ (get?_size _) ⟨_, Heap.get?_push_size _ rfl⟩ ?_)
  have hne : a ≠ s.heap.objs.size := fun q => by have := get?_size s.heap; rw [← q, ok.sub _ _ ha] at this; cases this
  have W := Walks.list (prog := prg) (w := w.toWorld) rm.handled s.heap.objs.size a hne vs.toArray
  have hlen : vs.toArray.size = l.length := by rw [List.size_toArray, rl.length]
  rw [hlen] at W
  refine ⟨_, _, _, _, W, ⟨⟨_, Heap.get?_push_size _ rfl, rfl, rfl⟩, hl.push _⟩, fun b hb => by simpa using hb, fun b hb => ?_, fun i u hu => ?_, fun i s' tgt v Q E hs hq => ?_, fun i h hs => let ⟨o, ho, hc, hd⟩ := hs.1; ⟨o, ho, solid_cls hc (by rw [hd]; intro _ _ q; cases q)⟩⟩
  · simp at hb
    rcases hb with rfl | rfl
    · exact .inl rfl
    · exact .inr ⟨_, ha⟩
  · have hi : i < l.length := by
      rcases Nat.lt_or_ge i l.length with q | q
      · exact q
      · have : vs.toArray[i]? = none := by simp [rl.length]; exact q
        rw [this] at hu; cases hu
    refine ob1_2 (rl.get (List.getElem?_eq_getElem hi)) fun y hy ry => ?_
    have : u = y := by
      have h1 : vs[i]? = some u := by simpa using hu
      rw [hy] at h1; exact (Option.some.inj h1).symm
    subst this
    exact ⟨_, List.getElem?_eq_getElem hi, ry⟩
  · obtain ⟨o, ho, hc, hd⟩ := hs.1
    exact letgo_fields ho hc hd (by decide) hq
end
section
variable {w : World} {k : Nat} {nm : List (Str × NameKind)} {ρ : Rho} {σ : Sig} {Φ : Rho → Sig → Fl → Prop} {env : Env} {α : Str → Addr} {M : Addr → Prop} {f : Fz} {s : Shared}
theorem St.other (t : St w nm env ρ σ α M f s) {I : Addr} (hI : ¬ M I) (hf : f I = none) (hIT : I ≠ tabA) {h' : Heap} {tk : Nat} (kp : ∀ b o, b ≠ I → s.heap.get? b = some o → h'.get? b = some o) :
    St w nm env ρ σ α M f { s with heap := h', toks := tk } := by
  have kM : ∀ b o, M b → s.heap.get? b = some o → h'.get? b = some o := fun b o hb e => kp b o (fun q => hI (q ▸ hb)) e
  refine ⟨⟨fun a o e => kp a o (fun q => by subst q; rw [hf] at e; cases e) (t.okf.sub a o e), t.okf.top, t.okf.tab.keep (Fz.Le.refl f) fun _ e => kp _ _ (Ne.symm hIT) e, t.okf.tabn⟩, t.kind, t.glob, t.blt, t.nms, t.nofree, t.free, t.ML, ?_, fun x hx => ?_, t.inj, fun x v e => ?_, fun x l e => ?_, fun x c l e => ?_, t.injO⟩
  · refine ob1_3 t.loc fun m z0 h1 h2 => ?_; obtain ⟨o, es, ep, ho, hd, hk⟩ := z0
    exact ⟨m, ⟨o, es, ep, kM _ _ t.ML ho, hd, hk⟩, h1, h2⟩
  · refine ob2_3 (t.cells x hx) fun a vo h1 h2 z0 => ?_; obtain ⟨o, h3, h4⟩ := z0
    exact ⟨a, vo, h1, h2, o, kM _ _ h2 h3, h4⟩
  · refine ob0_2 (t.cel x v e) fun hk z0 => ?_; obtain ⟨a, val, h1, ⟨o, h3, h4⟩, r⟩ := z0
    refine ob2_3 (t.cells x hk) fun a' vo e1 e2 _ => ?_
    rw [h1] at e1; cases e1
    exact ⟨hk, a, val, h1, ⟨o, kM _ _ e2 h3, h4⟩, r⟩
  · refine ob0_2 (t.celO x l e) fun hk z0 => ?_; obtain ⟨a, h1, ⟨o, h3, h4⟩⟩ := z0
    refine ob2_3 (t.cells x hk) fun a' vo e1 e2 _ => ?_
    rw [h1] at e1; cases e1
    exact ⟨hk, a, h1, o, kM _ _ e2 h3, h4⟩
  · refine ob0_2 (t.own x c l e) fun hM z0 => ?_; obtain ⟨vs, n, h1, r⟩ := z0
    exact ⟨hM, vs, n, kM _ _ hM h1, r⟩
theorem Live.other (L : Live M s) {I : Addr} (hI : ¬ M I) {h' : Heap} {tk : Nat} (kp : ∀ b o, b ≠ I → s.heap.get? b = some o → h'.get? b = some o) : Live M { s with heap := h', toks := tk } := fun a ha => by
  refine ob1_1 (L a ha) fun o e => ?_; exact ⟨o, kp a o (fun q => hI (q ▸ ha)) e⟩
theorem GrewS.other {M₀ : Addr → Prop} {f₀ : Fz} {s₀ : Shared} (g : GrewS M₀ f₀ s₀ M f s) {I : Addr} (hI : s₀.heap.get? I = none) {h' : Heap} {tk : Nat} (kp : ∀ b o, b ≠ I → s.heap.get? b = some o → h'.get? b = some o) :
    GrewS M₀ f₀ s₀ M f { s with heap := h', toks := tk } := by
  refine ⟨g.le, g.new, ?_, g.M', TabOk.poke g.tab g.le (N := fun a => a = I) (fun a h => h ▸ hI) kp⟩
  refine ob2_2 g.keeps fun h tk' z0 kk => ?_; subst z0
  refine ⟨h', tk, rfl, fun b o hb e => ?_⟩
  refine ob1_2 (kk b o hb e) fun o' e' al => ?_
  exact ⟨o', kp b o' (fun q => by subst q; rw [hI] at e; cases e) e', al⟩
noncomputable def Loop (w : World) (k : Nat) (nm : List (Str × NameKind)) (tgt : Expr) (body : List Stmt) : List V → Rho → Sig → (Rho → Sig → Fl → Prop) → Prop
  | [], ρ, σ, Φ => Φ ρ σ .next
  | x :: xs, ρ, σ, Φ => ∃ ρ₁ σ₁, Asg w nm tgt x ρ σ ρ₁ σ₁ ∧ Ex w k nm ρ₁ σ₁ body fun ρ' σ' fl => match fl with
    | .next => Loop w k nm tgt body xs ρ' σ' Φ
    | .cont => Loop w k nm tgt body xs ρ' σ' Φ
    | .brk => Φ ρ' σ' .next
    | .ret v => Φ ρ' σ' (.ret v)
theorem x1_for {tgt iter body pos v items} (he : EvS w k nm ρ σ iter v) (hi : IterOk w k v items) (hl : Loop w k nm tgt body items ρ σ Φ)
    (hs : ∀ env x, foldedSetIterable iter env x = pure x := by intros; rfl) : Ex1 w k nm ρ σ (.For tgt iter body [] pos) Φ := fun env A α f s M Q E rm L t hQ => by
  refine wpAny_For (he env A α f s M _ E rm L t fun val f' s' g r => hi A f' s' val _ E rm (t.grew L g).okf r fun I s'' kp hdead hlive it => ?_) (hs env)
  refine ob4_7 it fun fp wr P Sti W hst hwr hfp hP hlg hal => ?_; clear it
  have t' := t.grew L g
  have L' := L.grew g.keeps
  have g' : Grew f' s' f' s'' := Grew.keep t'.okf.sub kp
  have t'' := t'.grew L' g'
  have L'' := L'.grew (keeps_toW kp)
  have hI0 : s.heap.get? I = none := keeps_dead g.keeps hdead
  have hfI : f' I = none := by
    cases q : f' I with
    | none => rfl
    | some o => rw [t'.okf.sub _ _ q] at hdead; cases hdead
  have hIT : I ≠ tabA := t'.okf.tab.live hfI hdead
  have hMI : ¬ M I := fun hm => by refine ob1_1 (L' I hm) fun o e => ?_; rw [hdead] at e; cases e
  have hIwr : ∀ b, b ≠ I → b ∉ wr := fun b hb hm => hb (hwr b hm)
  refine ob1_1 (⟨_, rfl⟩ : ∃ Iv : Nat → Shared → Prop, Iv = fun n s₁ => ∀ C : Prop, (∀ (xs : List V) (ρ₁ : Rho) (σ₁ : Sig) (α₁ : Str → Addr) (M₁ : Addr → Prop) (f₁ : Fz), n = xs.length → items.drop (items.length - xs.length) = xs → xs.length ≤ items.length → St w nm env ρ₁ σ₁ α₁ M₁ f₁ s₁ → Live M₁ s₁ → GrewS M f s M₁ f₁ s₁ → ¬ M₁ I → f₁ I = none → (∃ o, s₁.heap.get? I = some o) → Sti (items.length - xs.length) s₁.heap → f'.Le f₁ → Loop w k nm tgt body xs ρ₁ σ₁ Φ → C) → C) fun Iv hIv => ?_
  refine codeAny_forLoop_any Iv ?_ items.length (by rw [hIv]; exact fun C kk => kk items ρ σ α M f' rfl (by simp) (Nat.le_refl _) t'' L'' ((g.trans g').toS) hMI hfI hlive (by simpa using hst) (Fz.Le.refl _) hl)
  intro n s₁ hh
  rw [hIv] at hh
  refine hh _ fun xs ρ₁ σ₁ α₁ M₁ f₁ hn hx hle t₁ L₁ g₁ hM₁ hf₁ hli hst₁ hf' hl₁ => ?_
  clear hh
  cases xs with
  | nil =>
    refine W.done s₁ _ _ (by simpa using hst₁) fun h' tk hk => ?_
    have kk : ∀ b o, b ≠ I → s₁.heap.get? b = some o → h'.get? b = some o := fun b o hb e => hk b o (hIwr b hb) e
    exact wpAny_execs_nil (hQ .next .next ρ₁ σ₁ α₁ M₁ f₁ _ hl₁ rfl (t₁.other hM₁ hf₁ hIT kk) (L₁.other hM₁ kk) (g₁.other hI0 kk))
  | cons x xs =>
    have hlt : items.length - (x :: xs).length < items.length := by simp only [List.length_cons] at hle ⊢; omega
    refine W.item _ s₁ _ _ hlt hst₁ fun v h' tk hPv hst' hk => ?_
    have kk : ∀ b o, b ≠ I → s₁.heap.get? b = some o → h'.get? b = some o := fun b o hb e => hk b o (hIwr b hb) e
    refine ob1_2 (hP _ _ hPv) fun x' hx' rx => ?_
    have hxx : x' = x := by
      have h1 : (items.drop (items.length - (x :: xs).length))[0]? = items[items.length - (x :: xs).length]? := by simp
      rw [hx, hx'] at h1
      simpa using h1.symm
    rw [hxx] at rx
    have t₂ := t₁.other hM₁ hf₁ hIT kk (tk := tk)
    have L₂ := L₁.other hM₁ kk (tk := tk)
    have g₂ := g₁.other hI0 kk (tk := tk)
    refine ob1_1 hli fun o₁ ho₁ => ?_; clear hli
    have hlen1 : items.length - (x :: xs).length + 1 = items.length - xs.length := by simp only [List.length_cons] at hle ⊢; omega
    refine hlg _ _ _ _ _ _ hst' ?_
    obtain ⟨ρ₃, σ₃, hasg, hex⟩ := hl₁
    refine hasg env A α₁ f₁ _ M₁ v _ _ rm.handled L₂ t₂ (rx.mono hf') fun s₃ t₃ L₃ g₃ => ?_
    refine hex env A α₁ f₁ s₃ M₁ _ _ rm L₃ t₃ fun fl flow ρ₄ σ₄ α₄ M₄ f₄ s₄ hΦ hr t₄ L₄ g₄ => ?_
    have gg := g₃.trans g₄
    have hsf : ∀ b ∈ fp, ∀ o, h'.get? b = some o → s₄.heap.get? b = some o := fun b hb o e => by
      rcases hfp b hb with rfl | ⟨o', e'⟩
      · refine ob1_2 (hal _ _ hst') fun o1 ho1 hso => ?_
        rw [ho1] at e; cases e
        exact gg.keep hM₁ ho1 hso
      · have h1 := t₂.okf.sub b o' (hf' b o' e')
        have h2 := t₄.okf.sub b o' (gg.le b o' (hf' b o' e'))
        have : o = o' := by rw [show h'.get? b = some o' from h1] at e; exact (Option.some.inj e).symm
        subst this; exact h2
    have hIlive : ∃ o, h'.get? I = some o ∧ Solid o := hal _ _ hst'
    have next : Loop w k nm tgt body xs ρ₄ σ₄ Φ → ∃ m, m < n ∧ Iv m s₄ := fun hl₄ => by
      refine ob1_2 hIlive fun oI hoI hsI => ?_; clear hIlive
      refine ⟨xs.length, hn ▸ Nat.lt_succ_self _, ?_⟩
      rw [hIv]
      refine fun C kk => kk xs ρ₄ σ₄ α₄ M₄ f₄ rfl ?_ (Nat.le_of_succ_le hle) t₄ L₄ (g₂.trans gg) (fun hm => ?_) ?_ ⟨oI, gg.keep hM₁ hoI hsI⟩ ?_ (hf'.trans gg.le) hl₄
      · have : items.drop (items.length - xs.length) = (items.drop (items.length - (x :: xs).length)).drop 1 := by rw [List.drop_drop, hlen1]
        rw [this, hx]; rfl
      · rcases gg.M' I hm with h1 | h1
        · exact hM₁ h1
        · rw [show h'.get? I = some oI from hoI] at h1; cases h1
      · cases q : f₄ I with
        | none => rfl
        | some o =>
          rcases gg.new I o q with h1 | h1 | h1
          · rw [hf₁] at h1; cases h1
          · rw [show h'.get? I = some oI from hoI] at h1; cases h1
          · exact absurd h1 hM₁
      · rw [← hlen1]; exact W.frame _ _ _ hst' hsf
    cases fl with
    | next => simp only [FlRel] at hr; subst hr; exact next hΦ
    | cont => simp only [FlRel] at hr; subst hr; exact next hΦ
    | brk => simp only [FlRel] at hr; subst hr; exact hQ .next .next ρ₄ σ₄ α₄ M₄ f₄ s₄ hΦ rfl t₄ L₄ (g₂.trans gg)
    | ret v =>
      obtain ⟨val, rfl, rv⟩ := hr
      exact hQ (.ret v) (.ret val) ρ₄ σ₄ α₄ M₄ f₄ s₄ hΦ ⟨val, rfl, rv⟩ t₄ L₄ (g₂.trans gg)
end
noncomputable def cObj (P : Params) : Obj := ((Kf P).lookup cStatics).getD default
theorem c_lookup (P : Params) : (Kf P).lookup cStatics = some (cObj P) := by unfold cObj; kernel_rfl
theorem c_keys (P : Params) : strKeysB (entsOf (cObj P)) = true := by kernel_rfl
theorem c_data (P : Params) : (cObj P).data = .dict (entsOf (cObj P)) (match (cObj P).data with | .dict _ n => n | _ => 0) := by kernel_rfl
theorem c_limit (P : Params) : nsFind (entsOf (cObj P)) "sys.recursionlimit" = none := by kernel_rfl
theorem TopF.limit {w : World} {f : Fz} {s : Shared} (t : TopF w f) (h : ∀ a o, f a = some o → s.heap.get? a = some o) : s.heap.NoLimit :=
  ⟨_, ⟨_, _, _, h _ _ (t _ _ (c_lookup w.params) (by decide)), c_data w.params, strKeys_of (c_keys _), fun _ => rfl⟩, c_limit _⟩
noncomputable def codeOk (K : Frag) (cd : Value) (q : Str) : Bool := match cd with
  | .ref c => c != tabA && (match K.lookup c with
    | some ⟨_, _, .fields vs, _⟩ => (match (vs[1]? : Option Value) with | some (.str q' _) => q' == q | _ => false)
    | _ => false)
  | _ => false
theorem TopF.code {w : World} {f : Fz} {s : Shared} (t : TopF w f) (h : ∀ a o, f a = some o → s.heap.get? a = some o) {cd : Value} {q : Str} (hc : codeOk (Kf w.params) cd q = true) : s.heap.CodeRec cd q := by
  unfold codeOk at hc
  split at hc
  · rename_i c
    rw [Bool.and_eq_true] at hc
    refine ob0_2 hc fun h1 h2 => ?_; clear hc
    split at h2
    · rename_i vs _ hl
      split at h2
      · rename_i q' t' hv
        have : q' = q := beq_iff_eq.mp h2
        subst this
        exact ⟨c, _, vs, t', rfl, h _ _ (t _ _ hl (by simpa using h1)), rfl, hv⟩
      · cases h2
    · cases h2
  · cases hc
noncomputable def Binds (w : World) (fd : FuncData) (args : List V) (kw : List (Str × V)) (pn : List Str) (pv : List V) : Prop :=
  ∀ (A : Around) (f : Fz) (s : Shared) (vals : List Value) (kvs : List Value) (Q : List (Str × Value) → Shared → Prop) (E : Value → Shared → Prop), Okf w f s → RelL f args vals → RelL f (kw.map (·.2)) kvs →
    (∀ binds f' s', Grew f s f' s' → binds.map (·.1) = pn → RelL f' pv (binds.map (·.2)) → Q binds s') → wpAny (model prg w) A (bindArgs fd ⟨vals, (kw.map (·.1)).zip kvs⟩) Q E s
noncomputable def rho0 (nm : List (Str × NameKind)) : List Str → List V → Rho
  | n :: ns, v :: vs => (n, nm.lookup n == some .cell, v) :: rho0 nm ns vs
  | _, _ => []
theorem bindL_other {K : Str → Option NameKind} {x : Str} : ∀ (binds : List (Str × Value)) (m : Str → Option Value), x ∉ binds.map (·.1) → bindL K binds m x = m x
  | [], _, _ => rfl
  | (n, v) :: r, m, h => by
    simp only [List.map_cons, List.mem_cons, not_or] at h
    unfold bindL
    rw [bindL_other r _ h.2]
    split
    · simp [h.1]
    · rfl
theorem bindC_other {K : Str → Option NameKind} {x : Str} : ∀ (binds : List (Str × Value)) (m : Str → Option Value), x ∉ binds.map (·.1) → bindC K binds m x = m x
  | [], _, _ => rfl
  | (n, v) :: r, m, h => by
    simp only [List.map_cons, List.mem_cons, not_or] at h
    unfold bindC
    rw [bindC_other r _ h.2]
    split
    · rfl
    · simp [h.1]
noncomputable def kn (nm : List (Str × NameKind)) : Str → Option NameKind := fun x => nm.lookup x
theorem rho0_get {nm : List (Str × NameKind)} {f : Fz} : ∀ (binds : List (Str × Value)) (pn : List Str) (pv : List V) (m cm : Str → Option Value), pn.Nodup → binds.map (·.1) = pn → RelL f pv (binds.map (·.2)) →
    (∀ n ∈ pn, nm.lookup n = some .local ∨ nm.lookup n = some .cell) →
    ∀ x c v, (rho0 nm pn pv).lookup x = some (c, v) → ∃ val, Rel f v val ∧ (c = false → nm.lookup x = some .local ∧ bindL (kn nm) binds m x = some val) ∧ (c = true → nm.lookup x = some .cell ∧ bindC (kn nm) binds cm x = some val)
  | [], pn, pv, m, cm, _, e, _, _, x, c, v, h => by
    simp at e; subst e
    unfold rho0 at h; simp at h
  | (n, u) :: r, pn, pv, m, cm, hnd, e, hr, hk, x, c, v, h => by
    simp only [List.map_cons] at e
    subst e
    cases pv with
    | nil => simp only [RelL, List.map_cons] at hr; cases hr
    | cons a pv =>
      simp only [RelL, List.map_cons] at hr
      refine ob2_3 hr fun y r' e ra rr => ?_; clear hr
      cases e
      unfold rho0 at h
      rw [List.lookup_cons] at h
      rw [List.nodup_cons] at hnd
      by_cases hx : x = n
      · subst hx
        simp only [beq_self_eq_true] at h
        cases h
        refine ⟨u, ra, fun hc => ?_, fun hc => ?_⟩
        · have hl : nm.lookup x = some .local := by
            rcases hk x (by simp) with q | q
            · exact q
            · rw [q] at hc; simp at hc
          refine ⟨hl, ?_⟩
          unfold bindL
          rw [bindL_other _ _ hnd.1]
          simp [kn, hl]
        · have hl : nm.lookup x = some .cell := by
            rcases hk x (by simp) with q | q
            · rw [q] at hc; simp at hc; 
            · exact q
          refine ⟨hl, ?_⟩
          unfold bindC
          rw [bindC_other _ _ hnd.1]
          simp [kn, hl]
      · have hb : (x == n) = false := beq_eq_false_iff_ne.mpr hx
        rw [hb] at h
        unfold bindL bindC
        exact rho0_get r (r.map (·.1)) pv _ _ hnd.2 rfl rr (fun z hz => hk z (List.mem_cons_of_mem _ hz)) x c v h
theorem cellsFrom_has {x : Str} : ∀ (names : List (Str × NameKind)) (n : Nat) (acc : List (Str × Addr)), (x, NameKind.cell) ∈ names ∨ (∃ a, acc.lookup x = some a) → ∃ a, (cellsFrom n names acc).lookup x = some a
  | [], _, acc, h => by
    rcases h with h | h
    · cases h
    · exact h
  | (y, kd) :: r, n, acc, h => by
    unfold cellsFrom
    split
    · rename_i hk
      refine cellsFrom_has r (n + 1) _ ?_
      rcases h with h | ⟨a, h⟩
      · rcases List.mem_cons.mp h with e | h
        · cases e; exact .inr ⟨n, by simp⟩
        · exact .inl h
      · by_cases hx : x = y
        · subst hx; exact .inr ⟨n, by simp⟩
        · have : (x == y) = false := beq_eq_false_iff_ne.mpr hx
          exact .inr ⟨a, by rw [List.lookup_cons, this]; exact h⟩
    · rename_i hk
      refine cellsFrom_has r n acc ?_
      rcases h with h | h
      · rcases List.mem_cons.mp h with e | h
        · cases e; simp at hk
        · exact .inl h
      · exact .inr h
structure FnIs (w : World) (a : Addr) (nm : List (Str × NameKind)) (body : List Stmt) (fd : FuncData) : Prop where
  at' : ∃ c d sl, (Kf w.params).lookup a = some ⟨c, d, .func fd, sl⟩ ∧ a ≠ tabA
  body : fd.body = .stmts body
  clo : fd.closure = []
  names : fd.scope.names = nm
  kind : fd.scope.kind = .function
  co : fd.scope.isCoroutine = false
  gen : fd.scope.isGenerator = false
  glob : fd.globals = mainGlobals
  blt : fd.builtins = builtinsNs
  code : codeOk (Kf w.params) fd.code fd.qualname = true
  nofree : ∀ x, nm.lookup x ≠ some .free
theorem lookup_none_free {nm : List (Str × NameKind)} (h : (nm.all fun p => p.2 != .free) = true) : ∀ x, nm.lookup x ≠ some .free := by
  intro x hx
  have hm := mem_of_lookup hx
  have := List.all_eq_true.mp h _ hm
  simp at this
structure EnvOf (fd : FuncData) (a : Addr) (env : Env) : Prop where
  code : env.code = fd.code
  qual : env.qual = fd.qualname ++ ".<locals>."
  frame : env.frame = some env.locals
  func : env.func = some a
theorem GrewS.toG {M M' : Addr → Prop} {f f₁ f' : Fz} {s s₂ s' : Shared} (g' : GrewS M f₁ s₂ M' f' s') (g : Grew f s f₁ s₂) (hM : ∀ b, M b → s.heap.get? b = none) (sub : ∀ a o, f' a = some o → s'.heap.get? a = some o) (tab : TabOk f' s') : Grew f s f' s' := by
  refine ⟨g.le.trans g'.le, fun b o e => ?_, sub, ?_, fun _ => tab⟩
  · rcases g'.new b o e with h | h | h
    · exact g.new b o h
    · exact .inr (keeps_dead g.keeps h)
    · exact .inr (hM b h)
  · obtain ⟨h, t, rfl, k⟩ := g.keeps
    refine ob2_2 g'.keeps fun h3 tk3 z0 k3 => ?_; subst z0
    refine ⟨h3, tk3, rfl, fun b o e => ?_⟩
    refine ob1_2 (k b o e) fun o1 e1 al1 => ?_
    refine ob1_2 (k3 b o1 (fun hm => by rw [hM b hm] at e; cases e) e1) fun o2 e2 al2 => ?_
    exact ⟨o2, e2, al1.trans al2⟩
theorem fn_codeG {w : World} {a : Addr} {nm : List (Str × NameKind)} {body : List Stmt} {fd : FuncData} {args : List V} {kw : List (Str × V)} {pn : List Str} {pv : List V} (F : FnIs w a nm body fd)
    (hb : Binds w fd args kw pn pv) (hnd : pn.Nodup) (hp : ∀ n ∈ pn, nm.lookup n = some .local ∨ nm.lookup n = some .cell)
    {A : Around} {f : Fz} {s : Shared} {vals kvs : List Value} (hroom : A.depth < recursionLimit) (ok : Okf w f s) (hr : RelL f args vals) (hkr : RelL f (kw.map (·.2)) kvs)
    {R : Result → Shared → Prop} (hex : ∀ env f₁ s₂ M, EnvOf fd a env → Grew f s f₁ s₂ → M = (fun b => b = env.locals ∨ ∃ n, env.cells.lookup n = some b) → (∀ b, M b → s.heap.get? b = none) → Live M s₂ →
      St w nm env (rho0 nm pn pv) [] (fun _ => 0) M f₁ s₂ → codeAny (model prg w) A (.func body env) R s₂) : codeAny (model prg w) A (.call (.ref a) ⟨vals, (kw.map (·.1)).zip kvs⟩) R s := by
  refine ob3_2 F.at' fun c d sl hK hat => ?_
  refine codeAny_call_function hroom (ok.sub _ _ (ok.top _ _ hK hat)) rfl F.co F.gen F.body (ok.top.code ok.sub F.code) (hb A.in1 f s vals kvs _ _ ok hr hkr fun binds f₁ s₁ g₁ hn hv => ?_)
  rw [F.clo]
  have ok₁ := ok.grew g₁
  refine wpAny_newFunctionEnv_cells F.kind (fun x hx => ?_) fun env he s₂ ic => ?_
  · have hx1 : x.1 ∈ pn := by rw [← hn]; exact List.mem_map_of_mem hx
    rw [F.names]
    rcases hp _ hx1 with h | h
    · exact .inl h
    · refine ob1_1 (cellsFrom_has (x := x.1) nm (s₁.heap.objs.size + 1) [] (.inl (mem_of_lookup h))) fun a' ha' => ?_
      exact .inr ⟨h, by rw [ha']; rfl⟩
  · have hlim := ok₁.top.limit ok₁.sub
    refine ⟨hlim.keeps ic.toInCall.keep, ?_⟩
    have hnames : env.scope.names = nm := by subst he; exact F.names
    have hcells : env.cells = cellsFrom (s₁.heap.objs.size + 1) nm [] := by subst he; rw [← F.names]; rfl
    have hkind : env.kindOf = kn nm := by funext x; unfold Env.kindOf kn; rw [hnames]
    refine ob2_1 ic.toInCall.same fun h₂ tk₂ hs₂ => ?_
    have dead : ∀ b, s₁.heap.objs.size ≤ b → s₁.heap.get? b = none := fun b hb' => Heap.get?_none_of_le hb'
    generalize hMM : (fun b => b = env.locals ∨ ∃ n, env.cells.lookup n = some b) = M
    have hMd : ∀ b, M b → s₁.heap.get? b = none := fun b hb' => by
      rw [← hMM] at hb'
      rcases hb' with rfl | ⟨n, hm⟩
      · exact dead _ ic.toInCall.fresh
      · exact dead _ (Nat.le_trans ic.toInCall.fresh (Nat.le_of_lt (ic.above n b (mem_of_lookup hm))))
    have hrho := rho0_get (nm := nm) (f := f₁) binds pn pv (fun _ => none) (fun _ => none) hnd hn hv hp
    have hfd : ∀ b, M b → f₁ b = none := fun b hb' => by
      cases q : f₁ b with
      | none => rfl
      | some o => have := ok₁.sub _ _ q; rw [hMd b hb'] at this; cases this
    have t : St w nm env (rho0 nm pn pv) [] (fun _ => 0) M f₁ s₂ := by
      refine ⟨⟨fun b o e => ic.toInCall.keep b o (ok₁.sub b o e), ok₁.top, ok₁.tab.keep (Fz.Le.refl _) fun _ e => ic.toInCall.keep _ _ e, ok₁.tabn⟩, by subst he; exact F.kind, by subst he; exact F.glob, by subst he; exact F.blt, hnames, F.nofree, hfd, by rw [← hMM]; exact .inl rfl,
        ⟨_, ic.toInCall.ns, fun x u e => ?_, fun x l e => by simp at e⟩, fun x hx => ?_, fun x y b hx hy h1 h2 => ?_, fun x u e => ?_, fun x l e => by simp at e, fun x c' l e => by simp at e, fun x y p q e => by simp at e⟩
      · refine ob1_3 (hrho x false u e) fun val r h1 _ => ?_
        refine ob0_2 (h1 rfl) fun hl hm => ?_
        exact ⟨hl, val, by rw [hkind]; exact hm, r⟩
      · refine ob1_1 (cellsFrom_has (x := x) nm (s₁.heap.objs.size + 1) [] (.inl (mem_of_lookup hx))) fun b hb' => ?_
        rw [← hcells] at hb'
        exact ⟨b, _, hb', by rw [← hMM]; exact .inr ⟨x, hb'⟩, ic.cell x b hb'⟩
      · exact name_of_addr ic.apart (mem_of_lookup h1) (mem_of_lookup h2)
      · refine ob1_3 (hrho x true u e) fun val r _ h2 => ?_
        refine ob0_2 (h2 rfl) fun hl hm => ?_
        refine ob1_1 (cellsFrom_has (x := x) nm (s₁.heap.objs.size + 1) [] (.inl (mem_of_lookup hl))) fun b hb' => ?_
        rw [← hcells] at hb'
        have hc' := ic.cell x b hb'
        rw [hkind, hm] at hc'
        exact ⟨hl, b, val, hb', hc', r⟩
    have L : Live M s₂ := fun b hb' => by
      rw [← hMM] at hb'
      rcases hb' with rfl | ⟨n, hm⟩
      · obtain ⟨o, _, _, ho, _⟩ := ic.toInCall.ns; exact ⟨o, ho⟩
      · obtain ⟨o, ho, _⟩ := ic.cell n b hm; exact ⟨o, ho⟩
    have gE : Grew f₁ s₁ f₁ s₂ := Grew.keep ok₁.sub ⟨h₂, tk₂, hs₂, fun b o e => by have := ic.toInCall.keep b o e; rw [hs₂] at this; exact this⟩
    exact hex env f₁ s₂ M ⟨by subst he; rfl, by subst he; rfl, by subst he; rfl, by subst he; rfl⟩ (g₁.trans gE) hMM.symm (fun b hb' => keeps_dead g₁.keeps (hMd b hb')) L t
theorem fn_code {w : World} {k : Nat} {a : Addr} {nm : List (Str × NameKind)} {body : List Stmt} {fd : FuncData} {args : List V} {kw : List (Str × V)} {pn : List Str} {pv : List V} {v : V} (F : FnIs w a nm body fd)
    (hb : Binds w fd args kw pn pv) (hnd : pn.Nodup) (hp : ∀ n ∈ pn, nm.lookup n = some .local ∨ nm.lookup n = some .cell)
    (hex : Ex w k nm (rho0 nm pn pv) [] body fun _ _ fl => fl = .ret v ∨ (fl = .next ∧ v = .non)) {A : Around} {f : Fz} {s : Shared} {vals kvs : List Value} (rm : Room (k + 1) A) (ok : Okf w f s) (hr : RelL f args vals) (hkr : RelL f (kw.map (·.2)) kvs)
    {R : Result → Shared → Prop} (hQ : ∀ val s' f', Grew f s f' s' → Rel f' v val → R (.ok (.ret val)) s') : codeAny (model prg w) A (.call (.ref a) ⟨vals, (kw.map (·.1)).zip kvs⟩) R s := by
  have hroom : A.depth < recursionLimit := by have := rm.depth; omega
  refine fn_codeG F hb hnd hp hroom ok hr hkr fun env f₁ s₂ M _ g _ hM L t => codeAny_func ?_
  refine hex env (A.deeper env) (fun _ => 0) f₁ s₂ M _ _ (rm.deeper env) L t fun fl flow ρ' σ' α' M' f' s' hΦ hfl t' L' g' => ?_
  have gg : Grew f s f' s' := g'.toG g hM t'.okf.sub t'.okf.tab
  rcases hΦ with rfl | ⟨rfl, rfl⟩
  · obtain ⟨val, rfl, rv⟩ := hfl
    exact hQ val s' f' gg rv
  · simp only [FlRel] at hfl; subst hfl
    exact hQ .none s' f' gg (rel_none.mpr rfl)
section
variable {w : World} {k : Nat} {nm : List (Str × NameKind)} {ρ : Rho} {σ : Sig} {Φ : Rho → Sig → Fl → Prop}
theorem fn_ok {a : Addr} {nm : List (Str × NameKind)} {body : List Stmt} {fd : FuncData} {args : List V} {pn : List Str} {pv : List V} {v : V} (F : FnIs w a nm body fd)
    (hb : Binds w fd args [] pn pv) (hnd : pn.Nodup) (hp : ∀ n ∈ pn, nm.lookup n = some .local ∨ nm.lookup n = some .cell)
    (hex : Ex w k nm (rho0 nm pn pv) [] body fun _ _ fl => fl = .ret v ∨ (fl = .next ∧ v = .non)) : CallOk w (k + 1) (.top a) args v := fun A f s vf vs rm ok rf rv Q E hQ => by
  obtain rfl := rel_top.mp rf
  have h := fn_code F hb hnd hp hex rm ok rv (kvs := []) (by simp only [List.map_nil]; exact RelL.nil) (R := fun r s' => match r with | .ok (.ret v) => Q v s' | .ok _ => False | .error e => E e s') fun val s' f' g r => hQ val s' f' g r
  exact wpAny_call h
theorem args_run {es : List Expr} {l : List V} (h : EvalsL w k nm ρ es l) {env : Env} {A : Around} {f : Fz} {s : Shared} {pos : Pos} {vf : Value} (rm : Room k A) (ok : Ok w nm env ρ f s)
    (hp : starEach es env = (evalEach es env).map fun t => (false, t))
    {Q : Args → Shared → Prop} {E : Value → Shared → Prop} (hQ : ∀ vs s' f', Grew f s f' s' → RelL f' l vs → Q ⟨vs, []⟩ s') : wpAny (model prg w) A (evalArgs vf true (backTo pos (starEach es env)) []) Q E s := by
  have hr := h env A f s pos rm ok
  have hb : backTo pos (starEach es env) = (evalEach es env).map fun t => (false, t) := by
    rw [hp]
    unfold backTo
    rw [List.map_map]
    rfl
  cases hq : backTo pos (starEach es env) with
  | nil =>
    rw [hq] at hr
    unfold evalArgs
    exact wpAny_bind (hr _ _ fun vs s' f' g r => wpAny_bind (wpAny_pure (wpAny_holding (wpAny_bind (wpAny_pure (wpAny_bind (wpAny_pure (wpAny_pure (hQ vs s' f' g r)))))))))
  | cons p rest =>
    obtain ⟨b, x⟩ := p
    have hb0 : b = false := by
      rw [hb] at hq
      cases he : evalEach es env with
      | nil => rw [he] at hq; cases hq
      | cons t ts => rw [he] at hq; simp only [List.map_cons, List.cons.injEq, Prod.mk.injEq] at hq; exact hq.1.1.symm
    subst hb0
    rw [hq] at hr
    refine Calls.evalArgs_plain ?_
    exact hr _ _ fun vs s' f' g r => hQ vs s' f' g r
theorem any_plain {es : List Expr} {env : Env} (hp : starEach es env = (evalEach es env).map fun t => (false, t)) (pos : Pos) : (backTo pos (starEach es env)).any (·.1) = false := by
  rw [hp]
  unfold backTo
  rw [List.map_map]
  induction evalEach es env with
  | nil => rfl
  | cons t ts ih => simpa using ih
noncomputable def IsFn (w : World) (a : Addr) : Prop := ∃ c d fd sl, (Kf w.params).lookup a = some ⟨c, d, .func fd, sl⟩ ∧ a ≠ tabA
theorem FnIs.isFn {a nm body fd} (F : FnIs w a nm body fd) : IsFn w a := by
  refine ob3_2 F.at' fun c d sl h n => ?_; exact ⟨c, d, fd, sl, h, n⟩
inductive Callee (w : World) : V → Prop
  | bi (n : String) : Callee w (.bi n)
  | typ (n : String) : Callee w (.typ n)
  | top (a : Addr) (h : IsFn w a) : Callee w (.top a)
theorem ev_call {func args pos fv l v} (hf : Evals w k nm ρ func fv) (hc : Callee w fv) (ha : EvalsL w k nm ρ args l) (h : CallOk w k fv l v)
    (hp : ∀ env, starEach args env = (evalEach args env).map fun t => (false, t) := by intro _; rfl)
    (he : ∀ env, eval (.Call func args [] pos) env = (do callWith pos (← eval func env) [] (backTo pos (starEach args env)) (backToKw pos (keywordEach [] env))) := by intro _; rfl) :
    Evals w k nm ρ (.Call func args [] pos) v := fun env A f s rm ok Q E hQ => by
  refine Call_ (hf env A f s rm ok _ _ fun vf s₁ f₁ g₁ r₁ => ?_) (he env)
  have ok₁ := ok.grew g₁
  have key : wpAny (model prg w) A (evalArgs vf true (backTo pos (starEach args env)) []) (fun a s₂ => (∃ f₂, Grew f₁ s₁ f₂ s₂) ∧ wpAny (model prg w) A (call vf ([] ++ a.pos) a.kw) Q E s₂) E s₁ :=
    args_run ha rm ok₁ (hp env) fun vs s₂ f₂ g₂ r₂ => ⟨⟨f₂, g₂⟩, h A f₂ s₂ vf vs rm (ok₁.grew g₂).okf (r₁.mono g₂.le) r₂ Q E fun val s' f' g' r' => hQ val s' f' ((g₁.trans g₂).trans g') r'⟩
  cases hc with
  | bi n =>
    obtain rfl := rel_bi.mp r₁
    exact Calls.callWith_builtin (any_plain (hp env) pos) (wpAny_mono key (fun a s h => h.2) fun _ _ x => x)
  | typ n =>
    obtain rfl := rel_typ.mp r₁
    exact _root_.PySem.callWith_type (any_plain (hp env) pos) (wpAny_mono key (fun a s h => h.2) fun _ _ x => x)
  | top a hfn =>
    obtain rfl := rel_top.mp r₁
    obtain ⟨c, d, fd, sl, hK, hne⟩ := hfn
    exact Calls.callWith_function (fd := fd) (wpAny_mono key (fun a s ⟨⟨f₂, g₂⟩, h⟩ => ⟨⟨(ok₁.grew g₂).okf.sub _ _ ((ok₁.grew g₂).okf.top _ _ hK hne), rfl⟩, h⟩) fun _ _ x => x)
noncomputable def Typed (v : V) (T : String) : Prop := ∀ (f : Fz) (s : Shared) (val : Value), (∀ a o, f a = some o → s.heap.get? a = some o) → Rel f v val → s.TypeIs val T ∧ ∀ a, val = .ref a → ∃ ob, s.heap.get? a = some ob ∧ ob.dict = none
theorem typed_str {x} : Typed (.str x) "str" := fun f s val _ r => by refine ob1_1 (rel_str.mp r) fun t z0 => ?_; subst z0; exact ⟨typeIs_str _ _ _, fun a e => by cases e⟩
theorem typed_byt {x} : Typed (.byt x) "bytes" := fun f s val _ r => by refine ob1_1 (rel_byt.mp r) fun t z0 => ?_; subst z0; exact ⟨typeIs_bytes _ _ _, fun a e => by cases e⟩
theorem ev_meth {o apos pos name args T id ov l v} (pa : PlainAttrs T) (slot : Slot T name id) (ty : typeOf (.builtin id) = pure (.type "method_descriptor"))
    (ho : Evals w k nm ρ o ov) (hT : Typed ov T) (ha : EvalsL w k nm ρ args l) (h : CallOk w k (.bi id) (ov :: l) v)
    (hline : (apos.endLine == pos.line) = true := by rfl) (hb : ∀ env, attributeBase o name env (eval o env) = eval o env := by intro _; rfl)
    (hp : ∀ env, starEach args env = (evalEach args env).map fun t => (false, t) := by intro _; rfl)
    (hfew : ∀ env, ((backTo pos (starEach args env)).all (fun x => !x.1) && (backToKw pos (keywordEach [] env)).all (fun x => x.1.isSome)
      && decide (args.length + ([] : List Keyword).length + (if ([] : List Keyword).isEmpty then 0 else 1) < 30)) = true := by intro _; rfl) :
    Evals w k nm ρ (.Call (.Attribute o name apos) args [] pos) v := fun env A f s rm ok Q E hQ => by
  refine wpAny_Call_method_lateS (hb env) (hfew env) hline (ho env A f s rm ok _ _ fun vo s₁ f₁ g₁ r₁ => ?_)
  have ok₁ := ok.grew g₁
  refine ob0_2 (hT f₁ s₁ vo ok₁.okf.sub r₁) fun h1 h2 => ?_
  refine ⟨T, id, pa, slot, ty, h1, h2, Calls.callWith_builtin (any_plain (hp env) pos) ?_⟩
  exact args_run ha rm ok₁ (hp env) fun vs s₂ f₂ g₂ r₂ => h A f₂ s₂ _ _ rm (ok₁.grew g₂).okf (rel_bi.mpr rfl) (RelL.cons (r₁.mono g₂.le) r₂) Q E fun val s' f' g' r' => hQ val s' f' ((g₁.trans g₂).trans g') r'
end
section
variable {w : World} {k : Nat}
theorem relL1 {f : Fz} {a : V} {vs : List Value} (h : RelL f [a] vs) : ∃ x, vs = [x] ∧ Rel f a x := by
  simp only [RelL] at h
  refine ob2_3 h fun y r z0 ra z1 => ?_; clear h; subst z0; subst z1
  exact ⟨y, rfl, ra⟩
theorem relL2 {f : Fz} {a b : V} {vs : List Value} (h : RelL f [a, b] vs) : ∃ x y, vs = [x, y] ∧ Rel f a x ∧ Rel f b y := by
  simp only [RelL] at h
  refine ob2_3 h fun y r z0 ra z1 => ?_; clear h; subst z0; obtain ⟨z, r', rfl, rb, rfl⟩ := z1
  exact ⟨y, z, rfl, ra, rb⟩
theorem relL3 {f : Fz} {a b c : V} {vs : List Value} (h : RelL f [a, b, c] vs) : ∃ x y z, vs = [x, y, z] ∧ Rel f a x ∧ Rel f b y ∧ Rel f c z := by
  simp only [RelL] at h
  refine ob2_3 h fun y r z0 ra z1 => ?_; clear h; subst z0; obtain ⟨z, r', rfl, rb, u, r'', rfl, rc, rfl⟩ := z1
  exact ⟨y, z, u, rfl, ra, rb, rc⟩
noncomputable def MadeIs (f : Fz) (m : Made) (v : V) : Prop := match m with
  | .val x => Rel f v x
  | .int i => v = .int i
  | .str x => v = .str x ∧ x.length ≤ 1000000
  | _ => False
theorem MadeIs.post {f : Fz} {m : Made} {v : V} (h : MadeIs f m v) {s : Shared} (hf : ∀ a o, f a = some o → s.heap.get? a = some o) {Q : Value → Shared → Prop}
    (hQ : ∀ val s' f', Grew f s f' s' → Rel f' v val → Q val s') : m.post Q s := by
  cases m with
  | val x => exact hQ x s f (Grew.refl hf) h
  | int i => obtain rfl := h; exact hQ _ _ f (Grew.same hf fun _ _ e => e) relI
  | str x => obtain ⟨rfl, hl⟩ := h; exact ⟨by rw [sizeLine_eq]; omega, hQ _ _ f (Grew.same hf fun _ _ e => e) relS⟩
  | float => cases h
  | bytes => cases h
  | either => cases h
theorem MadeIs.ite {f : Fz} {c : Prop} [Decidable c] {m n : Made} {v : V} (h1 : c → MadeIs f m v) (h2 : ¬ c → MadeIs f n v) : MadeIs f (if c then m else n) v := by
  by_cases h : c
  · rw [if_pos h]; exact h1 h
  · rw [if_neg h]; exact h2 h
theorem c_type {v : V} {T : String} (hT : Typed v T) (hb : (Value.type T == Value.type "builtin_function_or_method") = false) : CallOk w k (.typ "type") [v] (.typ T) := fun A f s vf vs rm ok rf ra Q E hQ => by
  obtain rfl := rel_typ.mp rf
  refine ob1_2 (relL1 ra) fun x z0 rx => ?_; subst z0
  exact PySem.call_type_of (hT f s x ok.sub rx).1 hb (hQ _ _ _ ok.refl (rel_typ.mpr rfl))
theorem typed_bool {b} : Typed (.bool b) "bool" := fun f s val _ r => by obtain rfl := rel_bool.mp r; exact ⟨PySem.typeIs_bool _ _, fun a e => by cases e⟩
theorem c_isinst_t {v : V} {T U : String} (hT : Typed v T) (hty : typeOf (.type U) = pure (.type "type")) (hsub : isSubtype (.type T) (.type U) = pure true) : CallOk w k (.bi "isinstance") [v, .typ U] (.bool true) := fun A f s vf vs rm ok rf ra Q E hQ => by
  obtain rfl := rel_bi.mp rf
  refine ob2_3 (relL2 ra) fun x y z0 rx ry => ?_; subst z0
  obtain rfl := rel_typ.mp ry
  exact PySem.call_isinstance (PySem.isinstance_true hty hsub) ⟨(hT f s x ok.sub rx).1, hQ _ _ _ ok.refl relB⟩
theorem c_isinst_f {x : Str} {U : String} (hne : (Value.type "str" == Value.type U) = false) (hty : typeOf (.type U) = pure (.type "type")) (hsub : isSubtype (.type "str") (.type U) = pure false) : CallOk w k (.bi "isinstance") [.str x, .typ U] (.bool false) := fun A f s vf vs rm ok rf ra Q E hQ => by
  obtain rfl := rel_bi.mp rf
  refine ob2_3 (relL2 ra) fun x y z0 rx ry => ?_; subst z0
  obtain rfl := rel_typ.mp ry
  refine ob1_1 (rel_str.mp rx) fun t z0 => ?_; subst z0
  exact PySem.call_isinstance (PySem.isinstance_false_str hne hty hsub) (hQ _ _ _ (Grew.same ok.sub fun _ _ e => e) relB)
theorem c_len_lst {l : List V} (h : l.length ≤ 1000000) : CallOk w k (.bi "len") [.lst l] (.int l.length) := fun A f s vf vs rm ok rf ra Q E hQ => by
  obtain rfl := rel_bi.mp rf
  refine ob1_2 (relL1 ra) fun x z0 rx => ?_; subst z0
  refine ob3_3 (rel_lst.mp rx) fun a xs n z0 ha rl => ?_; subst z0
  have e : (xs.toArray.size : Int) = l.length := by rw [List.size_toArray, rl.length]
  refine PySem.Calls.call_len_list (isList_of (ok.sub _ _ ha)) (by rw [e]; omega) ?_
  rw [e]
  exact hQ _ _ _ (Grew.same ok.sub fun _ _ e => e) relI
theorem c_len_str {x : Str} (h : x.length ≤ 1000000) : CallOk w k (.bi "len") [.str x] (.int x.length) := fun A f s vf vs rm ok rf ra Q E hQ => by
  obtain rfl := rel_bi.mp rf
  refine ob1_2 (relL1 ra) fun x z0 rx => ?_; subst z0
  refine ob1_1 (rel_str.mp rx) fun t z0 => ?_; subst z0
  exact PySem.call_len_gives (typeIs_str _ _ _) PySem.F.slot_str_len PySem.F.entry_str_len (PySem.F.args_str_len_1 _) (PySem.gives_str_len _ _) (by omega) (by omega) (hQ _ _ _ (Grew.same ok.sub fun _ _ e => e) relI)
theorem c_str1 {id : String} {name : Str} {B : Builtin} {x y : Str} {v : V} (slot : Slot "str" name id) (entry : entryFor table id = some B) (args : ∀ a b, argsOk id ⟨[a, b], []⟩)
    (g : ∀ f t u, ∃ m, Gives (B ⟨[.str x t, .str y u], []⟩) m ∧ MadeIs f m v) : CallOk w k (.bi id) [.str x, .str y] v := fun A f s vf vs rm ok rf ra Q E hQ => by
  obtain rfl := rel_bi.mp rf
  refine ob2_3 (relL2 ra) fun a b z0 rx ry => ?_; subst z0
  refine ob1_1 (rel_str.mp rx) fun t z0 => ?_; subst z0
  refine ob1_1 (rel_str.mp ry) fun u z0 => ?_; subst z0
  refine ob1_2 (g f t u) fun m hg hm => ?_
  exact call_gives slot (typeIs_str _ _ _) entry (args _ _) hg (hm.post ok.sub hQ)
theorem c_startswith {x y : Str} : CallOk w k (.bi "str.startswith") [.str x, .str y] (.bool (0 + y.length ≤ x.length && Builtin.Str.subAt x y 0)) :=
  c_str1 PySem.F.slot_str_startswith PySem.F.entry_str_startswith PySem.F.args_str_startswith_2 fun f t u => ⟨_, PySem.gives_str_startswith x y t u, relB (f := f)⟩
theorem c_endswith {x y : Str} : CallOk w k (.bi "str.endswith") [.str x, .str y] (.bool (0 + y.length ≤ x.length && Builtin.Str.subAt x y (x.length - y.length))) :=
  c_str1 PySem.F.slot_str_endswith PySem.F.entry_str_endswith PySem.F.args_str_endswith_2 fun f t u => ⟨_, PySem.gives_str_endswith x y t u, relB (f := f)⟩
noncomputable def rfindI (x y : Str) : Int := match Builtin.Str.lastOccurrence x y 0 x.length with | some i => (i : Int) | none => -1
theorem c_rfind {x y : Str} : CallOk w k (.bi "str.rfind") [.str x, .str y] (.int (rfindI x y)) :=
  c_str1 PySem.F.slot_str_rfind PySem.F.entry_str_rfind PySem.F.args_str_rfind_2 fun f t u => ⟨_, PySem.gives_str_rfind x y t u, rfl⟩
theorem c_rstrip {x y r : Str} (hx : x.length ≤ 1000000) (hs : PySem.stripSame y.cps.contains false true x = true → r = x) (hn : PySem.stripSame y.cps.contains false true x = false → r = PySem.stripped y.cps.contains false true x ∧ r.length ≤ 1000000) :
    CallOk w k (.bi "str.rstrip") [.str x, .str y] (.str r) :=
  c_str1 PySem.F.slot_str_rstrip PySem.F.entry_str_rstrip PySem.F.args_str_rstrip_2 fun f t u => ⟨_, PySem.gives_str_rstrip_chars x y t u, MadeIs.ite (fun h => by rw [hs h]; exact relS (f := f) (i := x) (t := t)) fun h => by
    refine ob0_2 (hn (by simpa using h)) fun e hl => ?_
    exact ⟨by rw [e], by rw [← e]; exact hl⟩⟩
theorem rel_strs {f : Fz} : ∀ (ps : List Str) (tk : Nat), RelL f (ps.map .str) (PySem.strsFrom tk ps)
  | [], _ => RelL.nil
  | p :: ps, tk => RelL.cons relS (rel_strs ps _)
theorem c_split {x y : Str} {ps : List Str} (h1 : (decide (x.length < y.length) || decide (Builtin.Str.strKind x < Builtin.Str.strKind y)) = false) (hy : (y.length == 0) = false)
    (hf : (Builtin.Str.occurrences x y 0 x.length (x.length + 1)).isEmpty = false) (hx : x.length ≤ 1000000) (hn : ps.length ≤ 1000000) (hp : Builtin.Str.partsBetween x (Builtin.Str.occurrences x y 0 x.length (x.length + 1)) y.length = ps) :
    CallOk w k (.bi "str.split") [.str x, .str y] (.lst (ps.map .str)) := fun A f s vf vs rm ok rf ra Q E hQ => by
  obtain rfl := rel_bi.mp rf
  refine ob2_3 (relL2 ra) fun a b z0 rx ry => ?_; subst z0
  refine ob1_1 (rel_str.mp rx) fun t z0 => ?_; subst z0
  refine ob1_1 (rel_str.mp ry) fun u z0 => ?_; subst z0
  refine call_meets PySem.F.slot_str_split (typeIs_str _ _ _) PySem.F.entry_str_split (PySem.F.args_str_split_2 _ _) (PySem.meets_str_split_sep x y t u h1 hy hf (by rw [sizeLine_eq]; omega) (by rw [hp, sizeLine_eq]; omega)) ?_
  rw [hp]
  have g : Grew f s (f.add s.heap.objs.size (lstO (PySem.strsFrom s.toks ps) 0)) { s with heap := s.heap.push (lstO (PySem.strsFrom s.toks ps) 0), toks := s.toks + ps.length } :=
    Grew.add ok.sub (fun b o e => Heap.get?_push_of_some _ e) (get?_size _) (Heap.get?_push_size _ rfl)
  exact hQ _ _ _ g (rel_lst.mpr ⟨_, _, 0, rfl, Fz.add_self .., rel_strs _ _⟩)
theorem strs_of {f : Fz} : ∀ {ps : List Str} {vs : List Value}, RelL f (ps.map .str) vs → ∃ l : List (Str × Tok), vs = PySem.strValues l ∧ l.map (·.1) = ps
  | [], vs, r => by simp only [List.map_nil, RelL] at r; subst r; exact ⟨[], rfl, rfl⟩
  | p :: ps, vs, r => by
    simp only [List.map_cons, RelL] at r
    refine ob2_3 r fun y r' z0 ry rr => ?_; clear r; subst z0
    refine ob1_1 (rel_str.mp ry) fun t z0 => ?_; subst z0
    refine ob1_2 (strs_of rr) fun l z0 hl => ?_; subst z0
    exact ⟨(p, t) :: l, rfl, by simp [hl]⟩
theorem c_join {sep : Str} {ps : List Str} (hl : Builtin.Str.tooLong (ps.toArray.foldl (· + ·.length + sep.length) 0) = false) (hr : (Builtin.Str.glued sep ps).length ≤ 1000000) (h1 : ∀ p, ps = [p] → Builtin.Str.glued sep ps = p) :
    CallOk w k (.bi "str.join") [.str sep, .lst (ps.map .str)] (.str (Builtin.Str.glued sep ps)) := fun A f s vf vs rm ok rf ra Q E hQ => by
  obtain rfl := rel_bi.mp rf
  refine ob2_3 (relL2 ra) fun a b z0 rx ry => ?_; subst z0
  refine ob1_1 (rel_str.mp rx) fun t z0 => ?_; subst z0
  refine ob3_3 (rel_lst.mp ry) fun l xs n z0 ha rl => ?_; subst z0
  refine ob1_2 (strs_of rl) fun l' z0 z1 => ?_; subst z0; subst z1
  refine call_meets PySem.F.slot_str_join (typeIs_str _ _ _) PySem.F.entry_str_join (PySem.F.args_str_join_2 _ _) (PySem.meets_str_join_list sep t l l' hl) ⟨isList_of (ok.sub _ _ ha), ?_⟩
  have hm : MadeIs f (PySem.joinMade sep l') (.str (Builtin.Str.glued sep (l'.map (·.1)))) := by
    unfold PySem.joinMade
    split
    · rename_i p
      have := h1 p.1 rfl
      simp only [List.map_cons, List.map_nil] at this ⊢
      rw [this]; exact relS (f := f) (i := p.1) (t := p.2)
    · exact ⟨rfl, hr⟩
  exact hm.post ok.sub hQ
end
noncomputable def cloOf (env : Env) : List (Str × NameKind) → List (Str × Addr) → List (Str × Addr)
  | [], cs => cs
  | p :: r, cs => if (p.2 == NameKind.free) = true then cloOf env r ((p.1, (env.cells.lookup p.1).getD 0) :: cs) else cloOf env r cs
theorem clo_eq {env : Env} {scope : Scope} (h : ∀ x, (x, NameKind.free) ∈ scope.names → ∃ a, env.cells.lookup x = some a) : closureFor scope env = pure (cloOf env scope.names []) := by
  unfold closureFor
  have key : ∀ (names : List (Str × NameKind)) (cs : List (Str × Addr)), (∀ x, (x, NameKind.free) ∈ names → ∃ a, env.cells.lookup x = some a) →
      (forIn names cs fun x r => if (x.2 == NameKind.free) = true then do let a ← cellOf env x.1; pure (ForInStep.yield ((x.1, a) :: r)) else pure (ForInStep.yield r) : Sem (List (Str × Addr))) = pure (cloOf env names cs) := by
    intro names
    induction names with
    | nil => intro cs _; rfl
    | cons p r ih =>
      intro cs hn
      obtain ⟨n, kd⟩ := p
      rw [List.forIn_cons]
      have hr : ∀ x, (x, NameKind.free) ∈ r → ∃ a, env.cells.lookup x = some a := fun x hx => hn x (List.mem_cons_of_mem _ hx)
      unfold cloOf
      by_cases hk : (kd == NameKind.free) = true
      · have : kd = .free := by simpa using hk
        subst this
        refine ob1_1 (hn n (by simp)) fun a ha => ?_
        have e : cellOf env n = pure a := by unfold cellOf; rw [ha]
        simp only [hk, if_true, e, pure_bind]
        rw [ih _ hr, ha]
        rfl
      · simp only [hk, if_false, pure_bind]
        exact ih _ hr
  exact (bind_pure _).trans (key scope.names [] h)
theorem clo_acc {env : Env} {x : Str} : ∀ (names : List (Str × NameKind)) (cs : List (Str × Addr)), (∀ p, cs.lookup x = some p → env.cells.lookup x = some p) → (∀ x, (x, NameKind.free) ∈ names → ∃ a, env.cells.lookup x = some a) →
    ((x, NameKind.free) ∈ names ∨ ∃ p, cs.lookup x = some p) → (cloOf env names cs).lookup x = env.cells.lookup x
  | [], cs, h, _, hx => by
    rcases hx with hx | ⟨p, hp⟩
    · cases hx
    · unfold cloOf; rw [hp, h p hp]
  | (n, kd) :: r, cs, h, hn, hx => by
    have hr : ∀ x, (x, NameKind.free) ∈ r → ∃ a, env.cells.lookup x = some a := fun x hx => hn x (List.mem_cons_of_mem _ hx)
    unfold cloOf
    by_cases hk : (kd == NameKind.free) = true
    · have : kd = .free := by simpa using hk
      subst this
      refine ob1_1 (hn n (by simp)) fun a ha => ?_
      rw [if_pos hk]
      by_cases hxn : x = n
      · subst hxn
        refine clo_acc r _ (fun p hp => ?_) hr (.inr ⟨a, by simp [ha]⟩)
        simp [ha] at hp; rw [ha, hp]
      · have hb : (x == n) = false := beq_eq_false_iff_ne.mpr hxn
        refine clo_acc r _ (fun p hp => ?_) hr ?_
        · rw [List.lookup_cons, hb] at hp; exact h p hp
        · rcases hx with hx | ⟨p, hp⟩
          · rcases List.mem_cons.mp hx with e | hx
            · cases e; exact absurd rfl hxn
            · exact .inl hx
          · exact .inr ⟨p, by rw [List.lookup_cons, hb]; exact hp⟩
    · rw [if_neg hk]
      refine clo_acc r _ h hr ?_
      rcases hx with hx | hx
      · rcases List.mem_cons.mp hx with e | hx
        · cases e; simp at hk
        · exact .inl hx
      · exact .inr hx
noncomputable def relabelN (names gs : List (Str × NameKind)) : List (Str × NameKind) := names.map fun p => if (p.2 == NameKind.free && gs.lookup p.1 == some NameKind.cell) = true then (p.1, NameKind.cell) else (p.1, p.2)
theorem relabel_names {w : World} {gs : List (Str × NameKind)} {env : Env} {ρ : Rho} {f : Fz} {s : Shared} (ok : Ok w gs env ρ f s) (scope : Scope) : (relabel scope env).names = relabelN scope.names gs := by
  unfold relabel relabelN
  have e : (env.scope.kind == ScopeKind.function) = true := by rw [ok.kind]; rfl
  have e2 : ∀ n, env.kindOf n = gs.lookup n := fun n => by unfold Env.kindOf; rw [ok.gss]
  simp only [e, Bool.and_true, e2]
theorem Grew.poke {f f₁ : Fz} {s₀ s₁ : Shared} (g : Grew f s₀ f₁ s₁) {a : Addr} (hd : s₀.heap.get? a = none) (hf : f₁ a = none) {h' : Heap} {tk : Nat} (kp : ∀ b o, b ≠ a → s₁.heap.get? b = some o → h'.get? b = some o) :
    Grew f s₀ f₁ { s₁ with heap := h', toks := tk } := by
  obtain ⟨h, t, rfl, kk⟩ := g.keeps
  refine ⟨g.le, g.new, fun b o e => kp b o (fun q => by subst q; rw [hf] at e; cases e) (g.sub b o e), ⟨h', tk, rfl, fun b o e => ?_⟩, TabOk.poke g.tab g.le (N := fun b => b = a) (fun b h => h ▸ hd) kp⟩
  refine ob1_2 (kk b o e) fun o' e' al => ?_
  exact ⟨o', kp b o' (fun q => by subst q; rw [hd] at e; cases e) e', al⟩
theorem append_run {w : World} {A : Around} {s : Shared} {D : Addr} {vs : List Value} {n : Nat} {x : Value} {Q : Value → Shared → Prop} {E : Value → Shared → Prop} (hg : s.heap.get? D = some (lstO vs n)) (hz : vs.length ≤ 1000000)
    (hQ : ∀ h' n', h'.get? D = some (lstO (vs ++ [x]) n') → (∀ b o, b ≠ D → s.heap.get? b = some o → h'.get? b = some o) → Q .none { s with heap := h' }) : wpAny (model prg w) A (call (.builtin "list.append") [.ref D, x]) Q E s := by
  refine call_meets slot_list_append ⟨_, hg, rfl⟩ entry_list_append (args_list_append _ _) (S := fun _ R s => ∃ items n, s.heap.get? D = some { cls := .type "list", data := .seq items n } ∧ items.size ≤ sizeLine ∧ R (.ok (.ret .none)) { s with heap := s.heap.update D (Obj.mapSeq (·.push x)) }) ?_ ?_
  · refine .of_wp fun prog w A R s hS => ?_
    refine ob2_3 hS fun items n hl hz hR => ?_; clear hS
    show wpAny _ _ (updateSeq D (·.push x) >>= fun _ => ret .none) _ _ s
    exact wpAny_bind (wpAny_updateSeq hl rfl (wpAny_pure ⟨.none, rfl, hR⟩))
  · refine ⟨vs.toArray, n, hg, by rw [List.size_toArray, sizeLine_eq]; omega, ?_⟩
    refine ob1_1 (mapSeq_lst (vs := vs) (n := n) (g := (·.push x)) (vs' := vs ++ [x]) (by simp)) fun n' e' => ?_
    exact hQ _ n' (by rw [Heap.get?_update_self _ hg (by rw [e']; rfl), e']) fun b o hb e => (Heap.SameBut.update ..).extBut b o hb e
noncomputable def IfsOk (w : World) (k : Nat) (gs : List (Str × NameKind)) (ρ : Rho) : List Expr → Bool → Prop
  | [], b => b = true
  | [c], b => Tests w k gs ρ c b
  | _, _ => False
theorem ifs_run {w : World} {k : Nat} {gs : List (Str × NameKind)} {ρ : Rho} {ifs : List Expr} {b : Bool} (h : IfsOk w k gs ρ ifs b) {env : Env} {A : Around} {f : Fz} {s : Shared} (rm : Room k A) (ok : Ok w gs env ρ f s)
    {Q : Bool → Shared → Prop} {E : Value → Shared → Prop} (hQ : ∀ s' f', Grew f s f' s' → Q b s') :
    wpAny (model prg w) A (forIn ifs true fun c r => if r = true then do let ok ← isTrue c env (eval c env); pure (ForInStep.yield ok) else pure (ForInStep.yield r)) Q E s := by
  match ifs, h with
  | [], h =>
    obtain rfl : b = true := h
    exact wpAny_tests_nil (hQ _ _ ok.okf.refl)
  | [c], h => exact wpAny_tests_one (h env A f s rm ok Q E hQ)
  | _ :: _ :: _, h => cases h
noncomputable def CompL (w : World) (k : Nat) (gs : List (Str × NameKind)) (ρ : Rho) (x : Str) (ifs : List Expr) (elt : Expr) : List V → List V → Prop
  | [], outs => outs = []
  | a :: r, outs => (IfsOk w k gs ((x, false, a) :: ρ) ifs false ∧ CompL w k gs ρ x ifs elt r outs) ∨
    ∃ o outs', outs = o :: outs' ∧ IfsOk w k gs ((x, false, a) :: ρ) ifs true ∧ Evals w k gs ((x, false, a) :: ρ) elt o ∧ CompL w k gs ρ x ifs elt r outs'
theorem CompL.le {w : World} {k : Nat} {gs : List (Str × NameKind)} {ρ : Rho} {x : Str} {ifs : List Expr} {elt : Expr} : ∀ {items outs : List V}, CompL w k gs ρ x ifs elt items outs → outs.length ≤ items.length
  | [], outs, h => by obtain rfl : outs = [] := h; simp
  | a :: r, outs, h => by
    rcases h with ⟨_, h⟩ | ⟨o, outs', rfl, _, _, h⟩
    · have := CompL.le h; simp; omega
    · have := CompL.le h; simp; omega
structure CompIs (w : World) (k : Nat) (gs : List (Str × NameKind)) (ρ : Rho) (elt iter : Expr) (x : Str) (ifs : List Expr) (scope : Scope) (outs : List V) : Prop where
  it : ∃ v items ρC, Evals w k gs ρ iter v ∧ IterOk w k v items ∧ items.length ≤ 1000000 ∧ CompL w k (relabelN scope.names gs) ρC x ifs elt items outs ∧
    (∀ y p, ρC.lookup y = some p → scope.names.lookup y = some .free ∧ p.1 = true ∧ ρ.lookup y = some p)
  free : ∀ y, (y, NameKind.free) ∈ scope.names → gs.lookup y = some .cell ∨ gs.lookup y = some .free
  nocell : ∀ y ∈ scope.names, y.2 ≠ .cell
  kind : scope.kind = .function
  loc : ∀ y ∈ scope.names, y.2 = .local → scope.names.lookup y.1 = some .local
  uniq : ∀ y, (y, NameKind.free) ∈ scope.names → scope.names.lookup y = some .free
  hx : scope.names.lookup x = some .local
theorem relabel_local {names gs : List (Str × NameKind)} {x : Str} (h : names.lookup x = some .local) : (relabelN names gs).lookup x = some .local := by
  induction names with
  | nil => simp at h
  | cons p r ih =>
    obtain ⟨n, kd⟩ := p
    unfold relabelN at ih ⊢
    simp only [List.map_cons]
    rw [List.lookup_cons] at h
    cases hx : x == n with
    | true =>
      rw [hx] at h; cases h
      simp [List.lookup_cons, hx]
    | false =>
      rw [hx] at h
      split <;> (rw [List.lookup_cons]; simp only [hx]; exact ih h)
theorem relabel_free {names gs : List (Str × NameKind)} {x : Str} (h : names.lookup x = some .free) : (relabelN names gs).lookup x = some .cell ∨ (relabelN names gs).lookup x = some .free := by
  induction names with
  | nil => simp at h
  | cons p r ih =>
    obtain ⟨n, kd⟩ := p
    unfold relabelN at ih ⊢
    simp only [List.map_cons]
    rw [List.lookup_cons] at h
    cases hx : x == n with
    | true =>
      rw [hx] at h; cases h
      split <;> simp [List.lookup_cons, hx]
    | false =>
      rw [hx] at h
      split <;> (rw [List.lookup_cons]; simp only [hx]; exact ih h)
theorem relabel_mem {names gs : List (Str × NameKind)} (hnc : ∀ y ∈ names, y.2 ≠ .cell) {x : Str} (h : (relabelN names gs).lookup x = some .cell ∨ (relabelN names gs).lookup x = some .free) : (x, NameKind.free) ∈ names := by
  induction names with
  | nil => simp [relabelN] at h
  | cons p r ih =>
    obtain ⟨n, kd⟩ := p
    unfold relabelN at ih h
    simp only [List.map_cons] at h
    cases hx : x == n with
    | true =>
      have hxn : x = n := by simpa using hx
      subst hxn
      have hk : kd = .free := by
        split at h
        · rename_i hc; simp at hc; exact hc.1
        · simp only [List.lookup_cons, beq_self_eq_true] at h
          rcases h with h | h
          · cases h; exact absurd rfl (hnc (x, .cell) (by simp))
          · cases h; rfl
      subst hk; simp
    | false =>
      refine List.mem_cons_of_mem _ (ih (fun y hy => hnc y (List.mem_cons_of_mem _ hy)) ?_)
      split at h <;> simpa only [List.lookup_cons, hx] using h
section
variable {w : World} {k : Nat} {gs : List (Str × NameKind)} {ρ : Rho}
theorem comp_core {elt iter : Expr} {x : Str} {px pos pos' : Pos} {ifs : List Expr} {scope : Scope} {outs : List V} (C : CompIs w k gs ρ elt iter x ifs scope outs) {env : Env} {A : Around} {f : Fz} {s : Shared} (rm : Room k A) (ok : Ok w gs env ρ f s)
    {use : Option (Value → Sem Unit)} {Q : Value → Shared → Prop} {E : Value → Shared → Prop}
    (hQ : ∀ s' f' D L m, Grew f s f' s' → Rel f' (.lst outs) (.ref D) → f' L = none → s.heap.get? L = none → s'.heap.Ns L m → PySem.compPost (model prg w) A E use Q (.ref D) L (.ok .next) s')
    (hs : ∀ env x, foldedSetIterable iter env x = pure x := by intros; rfl) :
    wpAny (model prg w) A (comprehension (.ListComp elt [⟨.Name x px, iter, ifs, 0⟩] scope pos) scope env pos' (newList []) false (eval iter env) use) Q E s := by
  refine ob3_5 C.it fun v items ρC he hi hlen hcl hρ => ?_
  have hfree : ∀ y, (y, NameKind.free) ∈ scope.names → ∃ a, env.cells.lookup y = some a := fun y hy => ok.clos y (C.free y hy)
  refine PySem.wpAny_comprehension_free (cl := cloOf env scope.names []) rfl (hs env) (clo_eq hfree) C.kind C.loc ?_
  refine he env A f s rm ok _ _ fun val s₁ f₁ g₁ r₁ => ?_
  have ok₁ := ok.grew g₁
  refine hi A f₁ s₁ val _ _ rm ok₁.okf r₁ fun I s₂ kp hdead hlive it => ?_
  refine ob4_7 it fun fp wr P Sti W hst hwr hfp hP hlg hal => ?_; clear it
  have g₂ : Grew f₁ s₁ f₁ s₂ := Grew.keep ok₁.okf.sub kp
  refine wpAny_newObj_type (wpAny_newFunctionEnv C.nocell (by intro y hy; simp at hy) (fun h₁ hns₁ hsb₁ => ?_) C.kind)
  dsimp only at hns₁ hsb₁ ⊢
  generalize hH2 : s₂.heap.push { cls := .type "list", dict := none, data := .seq ([] : List Value).toArray } = H2 at hns₁ hsb₁ ⊢
  have hC : H2.objs.size = s₂.heap.objs.size + 1 := by rw [← hH2, Heap.size_push]
  have hDC : s₂.heap.objs.size ≠ H2.objs.size := by rw [hC]; exact Nat.ne_of_lt (Nat.lt_succ_self _)
  have old : ∀ b o, s₂.heap.get? b = some o → h₁.get? b = some o := fun b o e =>
    hsb₁.extBut b o (by have := Heap.lt_size e; rw [hC]; exact Nat.ne_of_lt (Nat.lt_succ_of_lt this)) (Heap.get?_push_of_some _ (hH2 ▸ Heap.get?_push_of_some _ e))
  have hDo : h₁.get? s₂.heap.objs.size = some (lstO [] 0) := hsb₁.extBut _ _ hDC (Heap.get?_push_of_some _ (hH2 ▸ Heap.get?_push_size _ rfl))
  have dead2 : ∀ a, s₂.heap.objs.size ≤ a → s₂.heap.get? a = none := fun a ha => Heap.get?_none_of_le ha
  have down : ∀ a, s₂.heap.get? a = none → s₁.heap.get? a = none := fun a h => keeps_dead (keeps_toW kp) h
  generalize hD : s₂.heap.objs.size = D at *
  generalize hCC : H2.objs.size = L at *
  have hD1 := down D (dead2 D (Nat.le_refl _))
  have hL1 := down L (dead2 L (by omega))
  have hfn : ∀ a, s₁.heap.get? a = none → f₁ a = none := fun a h => by
    cases q : f₁ a with
    | none => rfl
    | some o => rw [ok₁.okf.sub _ _ q] at h; cases h
  have hID : I ≠ D := fun q => by refine ob1_1 hlive fun o e => ?_; clear hlive; rw [q, dead2 D (Nat.le_refl _)] at e; cases e
  have hIL : I ≠ L := fun q => by refine ob1_1 hlive fun o e => ?_; clear hlive; rw [q, dead2 L (by omega)] at e; cases e
  have hIwr : ∀ b, b ≠ I → b ∉ wr := fun b hb hm => hb (hwr b hm)
  have hlive1 : ∃ o, h₁.get? I = some o := by refine ob1_1 hlive fun o e => ?_; clear hlive; exact ⟨o, old _ _ e⟩
  have gstart : Grew f₁ s₁ f₁ { s₂ with heap := h₁, toks := s₂.toks + ([] : List (Str × Value)).length } := by
    obtain ⟨hh, tk, rfl, kk⟩ := kp
    exact Grew.keep ok₁.okf.sub ⟨h₁, _, rfl, fun b o e => old b o (kk b o e)⟩
  have hstart : Sti 0 h₁ := W.frame _ _ _ hst fun b _ o e => old b o e
  have hcells : ∀ y, (y, NameKind.free) ∈ scope.names → (cloOf env scope.names []).lookup y = env.cells.lookup y := fun y hy => clo_acc _ _ (fun p hp => by simp at hp) hfree (.inl hy)
  have hgs := relabel_names ok scope
  have loop : ∀ s₃ : Shared, s₃ = { s₂ with heap := h₁, toks := s₂.toks + ([] : List (Str × Value)).length } →
      codeAny (model prg w) A (.compLoop (.ListComp elt [⟨.Name x px, iter, ifs, 0⟩] scope pos) 0 (.ref I) (.ref D) (compEnvC scope (cloOf env scope.names []) L env)) (PySem.compPost (model prg w) A E use Q (.ref D) L) s₃ := by
    rintro s₃ rfl
    refine ob1_1 (⟨_, rfl⟩ : ∃ J : Nat → Shared → Prop, J = fun n s₄ => ∀ C : Prop, (∀ (xs : List V) (os os' : List V) (vs : List Value) (cap : Nat) (f₄ : Fz) (m : Str → Option Value), n = xs.length → items.drop (items.length - xs.length) = xs → xs.length ≤ items.length →
        Grew f₁ s₁ f₄ s₄ → f₄ D = none → f₄ L = none → f₄ I = none → s₄.heap.get? D = some (lstO vs cap) → RelL f₄ os vs → s₄.heap.Ns L m → (∃ o, s₄.heap.get? I = some o) → Sti (items.length - xs.length) s₄.heap → outs = os ++ os' → CompL w k (relabelN scope.names gs) ρC x ifs elt xs os' → C) → C) fun J hJ => ?_
    refine codeAny_compLoop_tests J ?_ items.length (by rw [hJ]; exact fun C kk => kk items [] outs [] 0 f₁ _ rfl (by simp) (Nat.le_refl _) gstart (hfn D hD1) (hfn L hL1) (hfn I hdead) hDo RelL.nil hns₁ hlive1 (by simpa using hstart) rfl hcl)
    intro n s₄ hh
    rw [hJ] at hh
    refine hh _ fun xs os os' vs cap f₄ m hn hx hle g₄ hfD hfL hfI hDs hrl hns hIl hSt hout hCL => ?_
    clear hh
    have ok₄ := ok₁.grew g₄
    cases xs with
    | nil =>
      refine W.done s₄ _ _ (by simpa using hSt) fun h' tk hk => ?_
      have kk : ∀ b o, b ≠ I → s₄.heap.get? b = some o → h'.get? b = some o := fun b o hb e => hk b o (hIwr b hb) e
      obtain rfl : os' = [] := hCL
      have g₅ : Grew f₁ s₁ f₄ { s₄ with heap := h', toks := tk } := g₄.poke hdead hfI kk
      have hD5 : h'.get? D = some (lstO vs cap) := kk D _ (Ne.symm hID) hDs
      have g₆ : Grew f₁ s₁ (f₄.add D (lstO vs cap)) { s₄ with heap := h', toks := tk } := by
        refine ⟨fun b o e => ?_, fun b o e => ?_, fun b o e => ?_, g₅.keeps, fun h => (g₅.tab h).keep (fun b o e => by
          by_cases hb : b = D
          · subst hb; rw [hfD] at e; cases e
          · simpa [Fz.add, hb] using e) fun _ e => e⟩
        · by_cases hb : b = D
          · subst hb; have := g₅.le b o e; rw [hfD] at this; cases this
          · simpa [Fz.add, hb] using g₅.le b o e
        · by_cases hb : b = D
          · subst hb; exact .inr hD1
          · exact g₅.new b o (by simpa [Fz.add, hb] using e)
        · by_cases hb : b = D
          · subst hb; simp [Fz.add] at e; subst e; exact hD5
          · exact g₅.sub b o (by simpa [Fz.add, hb] using e)
      refine hQ _ (f₄.add D (lstO vs cap)) D L m (g₁.trans g₆) ?_ ?_ ?_ ?_
      · rw [hout, List.append_nil]
        exact rel_lst.mpr ⟨D, vs, cap, rfl, Fz.add_self .., hrl.mono fun b o e => by
          by_cases hb : b = D
          · subst hb; rw [hfD] at e; cases e
          · simpa [Fz.add, hb] using e⟩
      · have : L ≠ D := fun q => hDC q.symm
        simpa [Fz.add, this] using hfL
      · exact keeps_dead g₁.keeps hL1
      · obtain ⟨o, es, ep, ho, hd, hk2⟩ := hns
        exact ⟨o, es, ep, kk _ _ (Ne.symm hIL) ho, hd, hk2⟩
    | cons a xs =>
      have hlt : items.length - (a :: xs).length < items.length := by simp only [List.length_cons] at hle ⊢; omega
      refine W.item _ s₄ _ _ hlt hSt fun u h' tk hPv hst' hk => ?_
      have kk : ∀ b o, b ≠ I → s₄.heap.get? b = some o → h'.get? b = some o := fun b o hb e => hk b o (hIwr b hb) e
      refine ob1_2 (hP _ _ hPv) fun a' ha' ra => ?_
      have haa : a' = a := by
        have h1 : (items.drop (items.length - (a :: xs).length))[0]? = items[items.length - (a :: xs).length]? := by simp
        rw [hx, ha'] at h1
        simpa using h1.symm
      rw [haa] at ra
      have hlen1 : items.length - (a :: xs).length + 1 = items.length - xs.length := by simp only [List.length_cons] at hle ⊢; omega
      have hdrop : items.drop (items.length - xs.length) = xs := by
        have : items.drop (items.length - xs.length) = (items.drop (items.length - (a :: xs).length)).drop 1 := by rw [List.drop_drop, hlen1]
        rw [this, hx]; rfl
      have g₅ : Grew f₁ s₁ f₄ { s₄ with heap := h', toks := tk } := g₄.poke hdead hfI kk
      have hD5 : h'.get? D = some (lstO vs cap) := kk D _ (Ne.symm hID) hDs
      have hns5 : h'.Ns L m := by
        obtain ⟨o, es, ep, ho, hd, hk2⟩ := hns
        exact ⟨o, es, ep, kk _ _ (Ne.symm hIL) ho, hd, hk2⟩
      refine wpAny_assign_Name (wpAny_storeName_local (show (compEnvC scope (cloOf env scope.names []) L env).kindOf x = some .local from lookup_relabel_local C.hx) hns5 (fun h₂ hn₂ hs₂ => ?_) (by simp [compEnvC, relabel, C.kind]))
      have kk2 : ∀ b o, b ≠ L → h'.get? b = some o → h₂.get? b = some o := fun b o hb e => hs₂.extBut b o hb e
      dsimp only
      have g₆ := g₅.poke (tk := tk + 1) hL1 hfL kk2
      have hI6 : ∃ o, h₂.get? I = some o ∧ Solid o := by refine ob1_2 (hal _ _ hst') fun o e hs => ?_; exact ⟨o, kk2 _ _ hIL e, hs⟩
      have hst6 : Sti (items.length - xs.length) h₂ := by
        rw [← hlen1]
        refine W.frame _ _ _ hst' fun b hb o e => kk2 b o (fun q => ?_) e
        rcases hfp b hb with h1 | ⟨o', h1⟩
        · exact hIL (h1 ▸ q)
        · rw [q, hfn L hL1] at h1; cases h1
      have okC : Ok w (relabelN scope.names gs) (compEnvC scope (cloOf env scope.names []) L env) ((x, false, a) :: ρC) f₄ { s₄ with heap := h₂, toks := tk + 1 } := by
        refine ⟨ok₁.okf.grew g₆, by simp [compEnvC, relabel, C.kind], ok.glob, ok.blt, hgs, fun y hy => ?_, fun y c v' e => ?_⟩
        · have hm := relabel_mem C.nocell hy
          refine ob1_1 (hfree y hm) fun a ha => ?_
          exact ⟨a, by show (cloOf env scope.names []).lookup y = _; rw [hcells y hm]; exact ha⟩
        · rw [List.lookup_cons] at e
          cases hyx : y == x with
          | true =>
            have : y = x := by simpa using hyx
            subst this
            rw [hyx] at e; cases e
            exact ⟨by show (relabel scope env).names.lookup y = _; rw [hgs]; exact relabel_local C.hx, _, u, hn₂, by simp, ra.mono g₄.le⟩
          | false =>
            rw [hyx] at e
            refine ob0_3 (hρ y _ e) fun h1 h2 h3 => ?_
            dsimp only at h2
            subst h2
            have hm := mem_of_lookup h1
            have H := (ok₁.grew g₆).held y true v' h3
            obtain ⟨_, cc, val', hc1, hc2, hc3⟩ := H
            refine ⟨?_, cc, val', by show (cloOf env scope.names []).lookup y = _; rw [hcells y hm]; exact hc1, hc2, hc3⟩
            have hkk : (compEnvC scope (cloOf env scope.names []) L env).kindOf y = (relabelN scope.names gs).lookup y := by show (relabel scope env).names.lookup y = _; rw [hgs]
            rw [hkk]; exact relabel_free h1
      have next : ∀ s₇ f₇, Grew f₄ { s₄ with heap := h₂, toks := tk + 1 } f₇ s₇ → Grew f₁ s₁ f₇ s₇ ∧ f₇ D = none ∧ f₇ L = none ∧ f₇ I = none ∧ s₇.heap.get? D = some (lstO vs cap) ∧ RelL f₇ os vs ∧ s₇.heap.Ns L (fun y => if y = x then some u else m y) ∧ (∃ o, s₇.heap.get? I = some o) ∧ Sti (items.length - xs.length) s₇.heap := fun s₇ f₇ g₇ => by
        have nn : ∀ a, f₄ a = none → (∃ o, h₂.get? a = some o) → f₇ a = none := fun a h1 ⟨o, h2⟩ => by
          cases q : f₇ a with
          | none => rfl
          | some o' =>
            rcases g₇.new a o' q with h | h
            · rw [h1] at h; cases h
            · rw [show h₂.get? a = none from h] at h2; cases h2
        have hD6 : h₂.get? D = some (lstO vs cap) := kk2 D _ hDC hD5
        refine ⟨g₆.trans g₇, nn D hfD ⟨_, hD6⟩, nn L hfL ?_, nn I hfI (let ⟨o, e, _⟩ := hI6; ⟨o, e⟩), keeps_keep g₇.keeps hD6 (solid_lst ..), hrl.mono g₇.le, ns_keeps g₇.keeps hn₂, ?_, W.frame _ _ _ hst6 fun b hb o e => ?_⟩
        · obtain ⟨o, _, _, ho, _⟩ := hn₂; exact ⟨o, ho⟩
        · refine ob1_2 hI6 fun o e hs => ?_; clear hI6; exact ⟨o, keeps_keep g₇.keeps e hs⟩
        · rcases hfp b hb with rfl | ⟨o', e'⟩
          · refine ob1_2 hI6 fun o1 e1 hs1 => ?_; clear hI6
            rw [e1] at e; cases e
            exact keeps_keep g₇.keeps e1 hs1
          · have e4 := g₄.le _ _ e'
            have h1 := g₆.sub b o' e4
            rw [show h₂.get? b = some o' from h1] at e; cases e
            exact g₇.sub b _ (g₇.le _ _ e4)
      rcases hCL with ⟨hif, hCL⟩ | ⟨o, outs', rfl, hif, hel, hCL⟩
      · refine ifs_run hif rm okC fun s₇ f₇ g₇ => ?_
        simp only [Bool.false_eq_true, if_false]
        refine ob0_9 (next s₇ f₇ g₇) fun n1 n2 n3 n4 n5 n6 n7 n8 n9 => ?_
        exact ⟨xs.length, hn ▸ Nat.lt_succ_self _, by rw [hJ]; exact fun C kk => kk xs os os' vs cap f₇ _ rfl hdrop (Nat.le_of_succ_le hle) n1 n2 n3 n4 n5 n6 n7 n8 n9 hout hCL⟩
      · refine ifs_run hif rm okC fun s₇ f₇ g₇ => ?_
        simp only [if_true]
        refine hel _ A f₇ s₇ rm (okC.grew g₇) _ _ fun y s₈ f₈ g₈ r₈ => ?_
        refine ob0_9 (next s₈ f₈ (g₇.trans g₈)) fun n1 n2 n3 n4 n5 n6 n7 n8 n9 => ?_
        have hvs : vs.length ≤ 1000000 := by
          have h1 := n6.length
          have h2 : outs.length ≤ items.length := hcl.le
          rw [hout, List.length_append] at h2
          omega
        refine append_run n5 hvs fun h₉ n' h9D h9k => ?_
        refine ⟨xs.length, hn ▸ Nat.lt_succ_self _, ?_⟩
        rw [hJ]
        refine fun C kk => kk xs (os ++ [o]) outs' (vs ++ [y]) n' f₈ (fun y => if y = x then some u else m y) rfl hdrop (Nat.le_of_succ_le hle) ?_ n2 n3 n4 h9D (RelL.append n6 (RelL.cons r₈ RelL.nil)) ?_ ?_ ?_ (by rw [hout, List.append_assoc]; rfl) hCL
        · have := n1.poke (tk := s₈.toks) hD1 n2 h9k
          exact this
        · obtain ⟨o1, es, ep, ho, hd, hk2⟩ := n7
          exact ⟨o1, es, ep, h9k _ _ (Ne.symm hDC) ho, hd, hk2⟩
        · refine ob1_1 n8 fun o1 e => ?_; clear n8; exact ⟨o1, h9k _ _ hID e⟩
        · refine W.frame _ _ _ n9 fun b hb o1 e => h9k b o1 (fun q => ?_) e
          rcases hfp b hb with h1 | ⟨o', h1⟩
          · exact hID (h1 ▸ q)
          · rw [q, hfn D hD1] at h1; cases h1
  exact codeAny_compStart_list (loop _ rfl) (W.self 0 _ _ _ hstart (loop _ rfl))
theorem ev_comp {elt iter : Expr} {x : Str} {px pos : Pos} {ifs : List Expr} {scope : Scope} {outs : List V} (C : CompIs w k gs ρ elt iter x ifs scope outs)
    (hs : ∀ env x, foldedSetIterable iter env x = pure x := by intros; rfl) : Evals w k gs ρ (.ListComp elt [⟨.Name x px, iter, ifs, 0⟩] scope pos) (.lst outs) := fun env A f s rm ok Q E hQ => by
  rw [eval_ListComp]
  refine comp_core C rm ok (use := none) (fun s' f' D L m g r hL hL0 hns => ?_) hs
  exact ⟨m, hns, fun h' hs' => hQ _ _ f' (g.poke hL0 hL fun b o hb e => hs'.extBut b o hb e) r⟩
theorem x1_comp {σ : Sig} {Φ : Rho → Sig → Fl → Prop} {y : Str} {py pos spos px : Pos} {elt iter : Expr} {x : Str} {ifs : List Expr} {scope : Scope} {outs : List V} (C : CompIs w k gs ρ elt iter x ifs scope outs)
    (hy : gs.lookup y = some .local) (h : Φ (put y (false, .lst outs) ρ) (del y σ) .next) (hline : (py.line == pos.line && !(scope.names.any fun p => p.1 == y && (p.2 == .local || p.2 == .cell))) = true)
    (hs : ∀ env x, foldedSetIterable iter env x = pure x := by intros; rfl) :
    Ex1 w k gs ρ σ (.Assign [.Name y py] (.ListComp elt [⟨.Name x px, iter, ifs, 0⟩] scope pos) spos) Φ := fun env A α f s M Q E rm L t hQ => by
  have hsw : swapsWith (.ListComp elt [⟨.Name x px, iter, ifs, 0⟩] scope pos) (some (.Name y py)) spos.line env = pure true := by
    have e : swapsWith (.ListComp elt [⟨.Name x px, iter, ifs, 0⟩] scope pos) (some (.Name y py)) spos.line env = pure (env.blockKind == .function && env.kindOf y == some .local && py.line == pos.line && !(scope.names.any fun p => p.1 == y && (p.2 == .local || p.2 == .cell))) := rfl
    rw [e]
    have e1 : env.kindOf y = some .local := by unfold Env.kindOf; rw [t.nms]; exact hy
    have e2 : (env.blockKind == ScopeKind.function) = true := by unfold Env.blockKind; rw [t.kind]; rfl
    rw [e1, e2, Bool.and_assoc, hline]; rfl
  rw [exec_Assign_Name_used _ _ _ _ hsw]
  refine wpAny_bind (wpAny_standAt (wpAny_bind ?_))
  show wpAny _ A (do let _ ← comprehension (.ListComp elt [⟨.Name x px, iter, ifs, 0⟩] scope pos) scope env _ (newList []) false (eval iter env) (some (assign (.Name y py) env))) _ _ s
  refine wpAny_bind (wpAny_mono (Q := fun _ s' => Q .next s') ?_ (fun _ s' hq => wpAny_pure (wpAny_pure hq)) fun _ _ e => e)
  refine comp_core C rm t.ok (use := some (assign (.Name y py) env)) (fun s' f' D C m g r hC hC0 hns => ?_) hs
  have t' := t.grew L g
  have L' := L.grew g.keeps
  have hMC : ¬ M C := fun hm => by refine ob1_1 (L _ hm) fun o e => ?_; rw [hC0] at e; cases e
  show wpAny _ A (assign (.Name y py) env (.ref D)) _ _ _
  refine asg_name (asgn_local hy) env A α f' s' M _ _ _ rm.handled L' t' r fun s'' t'' L'' g'' => ?_
  have hns'' : s''.heap.Ns C m := g''.ns hMC hns
  have hCT : C ≠ tabA := t.okf.tab.live (by
    cases q : f C with
    | none => rfl
    | some o => rw [g.le _ _ q] at hC; cases hC) hC0
  refine ⟨m, hns'', fun h' hs' => ?_⟩
  have kp : ∀ b o, b ≠ C → s''.heap.get? b = some o → h'.get? b = some o := fun b o hb e => hs'.extBut b o hb e
  exact hQ .next .next _ _ α M f' _ h rfl (t''.other (tk := s''.toks) hMC hC hCT kp) (L''.other (tk := s''.toks) hMC kp) ((g.toS.trans g'').other (tk := s''.toks) hC0 kp)
theorem compl_all {x : Str} {ifs : List Expr} {elt : Expr} {p : V → Bool} {g : V → V} : ∀ {items : List V}, (∀ a ∈ items, IfsOk w k gs ((x, false, a) :: ρ) ifs (p a)) → (∀ a ∈ items, p a = true → Evals w k gs ((x, false, a) :: ρ) elt (g a)) →
    CompL w k gs ρ x ifs elt items ((items.filter p).map g)
  | [], _, _ => rfl
  | a :: r, h1, h2 => by
    have ih := compl_all (items := r) (fun b hb => h1 b (List.mem_cons_of_mem _ hb)) (fun b hb => h2 b (List.mem_cons_of_mem _ hb))
    have ha := h1 a (by simp)
    cases hp : p a with
    | false =>
      rw [hp] at ha
      refine .inl ⟨ha, ?_⟩
      rw [List.filter_cons, hp]; exact ih
    | true =>
      rw [hp] at ha
      refine .inr ⟨g a, _, ?_, ha, h2 a (by simp) hp, ih⟩
      rw [List.filter_cons, hp]; rfl
theorem compl_map {x : Str} {elt : Expr} {g : V → V} {items : List V} (h : ∀ a ∈ items, Evals w k gs ((x, false, a) :: ρ) elt (g a)) : CompL w k gs ρ x [] elt items (items.map g) := by
  have := compl_all (p := fun _ => true) (g := g) (ifs := []) (items := items) (fun a _ => (rfl : IfsOk w k gs ((x, false, a) :: ρ) [] true)) (fun a ha _ => h a ha)
  rwa [List.filter_eq_self.mpr (by simp)] at this
end
noncomputable def fdAt (P : Params) (a : Addr) : FuncData := match (Kf P).lookup a with | some ⟨_, _, .func fd, _⟩ => fd | _ => default
theorem at_of {P : Params} {a : Addr} (h : (match (Kf P).lookup a with | some ⟨_, _, .func _, _⟩ => true | _ => false) = true) (hn : a ≠ tabA) : ∃ c d sl, (Kf P).lookup a = some ⟨c, d, .func (fdAt P a), sl⟩ ∧ a ≠ tabA := by
  unfold fdAt
  cases hl : (Kf P).lookup a with
  | none => rw [hl] at h; cases h
  | some o =>
    obtain ⟨c, d, dt, sl⟩ := o
    cases dt with
    | func fd => exact ⟨c, d, sl, rfl, hn⟩
    | _ => rw [hl] at h; cases h
theorem lk_here {β : Type} {x : Str} {p : β} {r : List (Str × β)} : ((x, p) :: r).lookup x = some p := by simp
theorem lk_next {β : Type} {x y : Str} {p q : β} {r : List (Str × β)} (h : (x == y) = false) (t : r.lookup x = some p) : ((y, q) :: r).lookup x = some p := by rw [List.lookup_cons, h]; exact t
theorem lk_put {β : Type} {x : Str} {p : β} {r : List (Str × β)} : (put x p r).lookup x = some p := by rw [lookup_put]; simp
theorem lk_putn {β : Type} {x y : Str} {p q : β} {r : List (Str × β)} (h : (x == y) = false) (t : r.lookup x = some p) : (put y q r).lookup x = some p := by
  rw [lookup_put, if_neg (by simpa using h)]; exact t
theorem lk_del {β : Type} {x y : Str} {p : β} {r : List (Str × β)} (h : (x == y) = false) (t : r.lookup x = some p) : (del y r).lookup x = some p := by
  rw [lookup_del, if_neg (by simpa using h)]; exact t
theorem lk_appl {β : Type} {x : Str} {p : β} {l r : List (Str × β)} (t : l.lookup x = some p) : (l ++ r).lookup x = some p := by rw [lookup_app, t]; rfl
theorem lk_own {x : Str} {c : Bool} {l : List V} {σ : Sig} {ρ : Rho} (h : ρ.lookup x = none) (t : σ.lookup x = some (c, l)) : (ρ ++ ownRho σ).lookup x = some (c, .lst l) := by rw [lookup_app, h, lookup_own, t]; rfl
theorem g_str : GlobIs "str" (.typ "str") := glob_typ (fun P => by kernel_rfl) (fun P => by kernel_rfl)
theorem g_bytes : GlobIs "bytes" (.typ "bytes") := glob_typ (fun P => by kernel_rfl) (fun P => by kernel_rfl)
theorem g_type : GlobIs "type" (.typ "type") := glob_typ (fun P => by kernel_rfl) (fun P => by kernel_rfl)
theorem g_isinstance : GlobIs "isinstance" (.bi "isinstance") := glob_bi (fun P => by kernel_rfl) (fun P => by kernel_rfl)
theorem g_issubclass : GlobIs "issubclass" (.bi "issubclass") := glob_bi (fun P => by kernel_rfl) (fun P => by kernel_rfl)
theorem g_len : GlobIs "len" (.bi "len") := glob_bi (fun P => by kernel_rfl) (fun P => by kernel_rfl)
theorem g_fspath : GlobIs "fspath" (.top 166) := glob_top fun P => by kernel_rfl
theorem g_get_sep : GlobIs "_get_sep" (.top 180) := glob_top fun P => by kernel_rfl
theorem fn_get_sep (w : World) : FnIs w 180 (namesN 22) (bodyN 22) (fdAt w.params 180) where
  at' := at_of (by kernel_rfl) (by decide)
  body := by kernel_rfl
  clo := by kernel_rfl
  names := by kernel_rfl
  kind := by kernel_rfl
  co := by kernel_rfl
  gen := by kernel_rfl
  glob := by kernel_rfl
  blt := by kernel_rfl
  code := by kernel_rfl
  nofree := lookup_none_free (by kernel_rfl)
theorem get_sep_body {w : World} {k : Nat} {x : Str} : Ex w k (namesN 22) [("path", false, .str x)] [] (bodyN 22) fun _ _ fl => fl = .ret (.str "/") := by
  refine ex_cons (x1_if_f (tes (t_val (ev_call (ev_glob (by kernel_rfl) g_isinstance) (.bi _) (evl_cons ev_name (evl_cons (ev_glob (by kernel_rfl) g_bytes) evl_nil)) (c_isinst_f (by decide) (by kernel_rfl) (by rw [isSubtype_type]; kernel_rfl))) tr_bool)) ?_)
  exact ex_cons (x1_ret (evs ev_str) rfl)
theorem binds1 {w : World} {fd : FuncData} {n : Str} {x : V} (h : ∀ v, bindArgs fd ⟨[v], []⟩ = pure [(n, v)]) : Binds w fd [x] [] [n] [x] := fun A f s vals kvs Q E ok r kr hQ => by
  refine ob1_2 (relL1 r) fun y z0 ry => ?_; subst z0
  rw [show (List.zip (([] : List (Str × V)).map (·.1)) kvs) = [] from rfl, h y]
  exact wpAny_pure (hQ _ _ _ ok.refl rfl (RelL.cons ry RelL.nil))
theorem binds2 {w : World} {fd : FuncData} {n m : Str} {x x' : V} (h : ∀ u v, bindArgs fd ⟨[u, v], []⟩ = pure [(n, u), (m, v)]) : Binds w fd [x, x'] [] [n, m] [x, x'] := fun A f s vals kvs Q E ok r kr hQ => by
  refine ob2_3 (relL2 r) fun y z z0 ry rz => ?_; subst z0
  rw [show (List.zip (([] : List (Str × V)).map (·.1)) kvs) = [] from rfl, h y z]
  exact wpAny_pure (hQ _ _ _ ok.refl rfl (RelL.cons ry (RelL.cons rz RelL.nil)))
theorem binds3 {w : World} {fd : FuncData} {n m l : Str} {x x' x'' : V} (h : ∀ u v t, bindArgs fd ⟨[u, v, t], []⟩ = pure [(n, u), (m, v), (l, t)]) : Binds w fd [x, x', x''] [] [n, m, l] [x, x', x''] := fun A f s vals kvs Q E ok r kr hQ => by
  refine ob3_4 (relL3 r) fun y z t z0 ry rz rt => ?_; subst z0
  rw [show (List.zip (([] : List (Str × V)).map (·.1)) kvs) = [] from rfl, h y z t]
  exact wpAny_pure (hQ _ _ _ ok.refl rfl (RelL.cons ry (RelL.cons rz (RelL.cons rt RelL.nil))))
theorem nodup_of {l : List Str} (h : (l.all fun x => (l.filter (· == x)).length == 1) = true) : l.Nodup := by
  rw [List.nodup_iff_count]
  intro a
  by_cases ha : a ∈ l
  · have := List.all_eq_true.mp h a ha
    rw [beq_iff_eq] at this
    rw [List.count_eq_countP, List.countP_eq_length_filter, this]; omega
  · rw [List.count_eq_zero_of_not_mem ha]; omega
theorem get_sep_ok {w : World} {k : Nat} {x : Str} : CallOk w (k + 1) (.top 180) [.str x] (.str "/") :=
  fn_ok (fn_get_sep w) (binds1 fun v => by kernel_rfl) (nodup_of (by decide +kernel)) (fun n hn => by
    obtain rfl : n = "path" := by simpa using hn
    exact .inl (by kernel_rfl)) (get_sep_body.mono fun _ _ _ h => .inl h)
theorem issub_nested' {prog : Program} {w : PySem.World} {A : Around} {s : Shared} {k : Value} {dep : Int} {tk : Tok} {Q : PySem.Fin → Shared → Prop} {E : Value → Shared → Prop} (hk : k = .int dep tk) (hq : Q (.done (.ret (.bool true))) s) :
    wpAny (PySem.model prog w) A (Builtin.«issubclass.nested» ⟨[.type "str", .type "str", k], []⟩) Q E s := by
  subst hk
  have hm : typeOf (.type "str") = pure (.type "type") := meta_str
  have hself : isSubtype (.type "str") (.type "str") = pure true := by rw [isSubtype_type]; kernel_rfl
  repeat (any_goals (first | assumption | (rw [if_pos hm]) | (rw [hself]) | wp_step))
theorem c_issub {w : World} {k : Nat} : CallOk w (k + 1) (.bi "issubclass") [.typ "str", .tup [.typ "str", .typ "bytes"]] (.bool true) := fun A f s vf vs rm ok rf ra Q E hQ => by
  obtain rfl := rel_bi.mp rf
  refine ob2_3 (relL2 ra) fun x y z0 rx ry => ?_; subst z0
  obtain rfl := rel_typ.mp rx
  refine ob2_3 (rel_tup.mp ry) fun a xs z0 ha rl => ?_; subst z0
  refine ob2_3 (relL2 rl) fun u v z0 ru rv => ?_; subst z0
  obtain rfl := rel_typ.mp ru
  obtain rfl := rel_typ.mp rv
  have hg := ok.sub _ _ ha
  have hT : s.TypeIs (.ref a) "tuple" := ⟨_, hg, rfl⟩
  refine call_issubclass (S := fun A R s => s.heap.get? a = some (tupO [.type "str", .type "bytes"]) ∧ R (.ok (.ret (.bool true))) s) (fun prog w A R s hs => ?_) ⟨hg, hQ _ _ _ ok.refl relB⟩
  refine ob0_2 hs fun hg hR => ?_; clear hs
  have hT : s.TypeIs (.ref a) "tuple" := ⟨_, hg, rfl⟩
  refine issubclass_outer ?_
  unfold Builtin.«issubclass.nested»
  refine wpAny_bind (wpAny_typeOf hT ?_)
  rw [if_neg (by decide)]
  unfold Builtin.Builtins.unionMembers
  refine wpAny_bind (wpAny_bind (wpAny_typeOf hT ?_))
  rw [if_neg (by decide)]
  refine wpAny_pure ?_
  refine wpAny_bind (wpAny_isInstance (b := true) hT (by rw [isSubtype_type]; kernel_rfl) ?_)
  rw [if_pos (by decide)]
  rw [if_neg (by decide)]
  refine wpAny_bind (wpAny_seqItems hg rfl ?_)
  rw [← Array.forIn_toList]
  show wpAny _ _ (forIn [Value.type "str", Value.type "bytes"] _ _ >>= _) _ _ _
  rw [List.forIn_cons]
  refine wpAny_bind (wpAny_bind (wpAny_bind (call_function_any (id := "issubclass.nested") (by decide +kernel) (by decide +kernel) F.entry_issubclass_nested (by unfold argsOk; kernel_rfl) ?_)))
  refine issub_nested' rfl ?_
  refine wpAny_bind (wpAny_truthy_bool ?_)
  rw [if_pos rfl]
  exact wpAny_bind (wpAny_pure (wpAny_pure (wpAny_pure (wpAny_pure hR))))
section
open PySem.StrLaws
noncomputable def S (l : List Nat) : Str := ⟨l.toArray⟩
theorem S_len (l : List Nat) : (S l).length = l.length := by simp [S, Str.length]
theorem S_cps (l : List Nat) : (S l).cps.toList = l := by simp [S]
theorem S_app (a b : List Nat) : S a ++ S b = S (a ++ b) := by
  show (⟨(S a).cps ++ (S b).cps⟩ : Str) = _
  simp [S]
theorem S_inj {a b : List Nat} (h : S a = S b) : a = b := by
  have := congrArg (fun x : Str => x.cps.toList) h
  simpa [S] using this
theorem S_of (x : Str) : S x.cps.toList = x := by cases x; simp [S]
theorem slash : (Str.ofString "/") = S [47] := by decide +kernel
theorem empt : (Str.ofString "") = S [] := by decide +kernel
theorem S_beq (a b : List Nat) : (S a == S b) = (a == b) := by
  by_cases h : a = b
  · subst h; simp
  · have h1 : (S a == S b) = false := beq_eq_false_iff_ne.mpr fun e => h (S_inj e)
    have h2 : (a == b) = false := beq_eq_false_iff_ne.mpr h
    rw [h1, h2]
theorem S_slice_to (l : List Nat) (i : Nat) (hi : i ≤ l.length) : Txt.slice (S l) none (some (i : Int)) = S (l.take i) := by
  have := slice_closes_toL (x := S l) (j := (i : Int)) (by omega) (by rw [S_len]; omega)
  rw [beq_iff_eq] at this
  rw [this, S_cps]
  simp [S]
theorem S_slice_from (l : List Nat) (i : Nat) (hi : i ≤ l.length) : Txt.slice (S l) (some (i : Int)) none = S (l.drop i) := by
  have := slice_closes_fromL (x := S l) (i := (i : Int)) (b := (l.length : Int)) (by omega) (by rw [S_len]; omega) (by rw [S_len])
  rw [beq_iff_eq] at this
  rw [this, S_cps]
  have e : ((l.length : Int) - (i : Int)).toNat = l.length - i := by omega
  rw [e]
  simp only [Int.toNat_natCast]
  rw [List.take_of_length_le (by simp)]
  rfl
theorem S_slice (l : List Nat) (i j : Nat) (hi : i ≤ j) (hj : j ≤ l.length) : Txt.slice (S l) (some (i : Int)) (some (j : Int)) = S ((l.drop i).take (j - i)) := by
  have := slice_closesL (x := S l) (i := (i : Int)) (j := (j : Int)) (by omega) (by omega) (by rw [S_len]; omega)
  rw [beq_iff_eq] at this
  rw [this, S_cps]
  have e : ((j : Int) - (i : Int)).toNat = j - i := by omega
  rw [e]
  simp [S]
theorem S_starts (l : List Nat) (c : Nat) : (decide (0 + (S [c]).length ≤ (S l).length) && Builtin.Str.subAt (S l) (S [c]) 0) = (l[0]? == some c) := by
  rw [Bool.eq_iff_iff]
  have h := subAt_one (S l) c 0
  rw [S_cps] at h
  simp only [Bool.and_eq_true, decide_eq_true_eq, beq_iff_eq]
  exact h
theorem S_ends (l : List Nat) (c : Nat) (hl : l ≠ []) : (decide (0 + (S [c]).length ≤ (S l).length) && Builtin.Str.subAt (S l) (S [c]) ((S l).length - (S [c]).length)) = (l[l.length - 1]? == some c) := by
  rw [Bool.eq_iff_iff]
  have hp : 0 < l.length := List.length_pos_iff.mpr hl
  have h := subAt_one (S l) c (l.length - 1)
  rw [S_cps] at h
  have e1 : (S l).length = l.length := S_len l
  have e2 : (S [c]).length = 1 := S_len [c]
  simp only [Bool.and_eq_true, decide_eq_true_eq, beq_iff_eq]
  rw [e1, e2]
  rw [e1] at h
  constructor
  · rintro ⟨_, h2⟩
    exact h.mp ⟨by show l.length - 1 + 1 ≤ l.length; omega, h2⟩
  · intro h2
    exact ⟨by omega, (h.mpr h2).2⟩
theorem S_last (a b : List Nat) (c : Nat) (hb : c ∉ b) : Builtin.Str.lastOccurrence (S (a ++ c :: b)) (S [c]) 0 (S (a ++ c :: b)).length = some a.length := by
  have key : ∀ i, At (S (a ++ c :: b)) (S [c]) (S (a ++ c :: b)).length i ↔ (a ++ c :: b)[i]? = some c := fun i => by
    have := subAt_one (S (a ++ c :: b)) c i
    rw [S_cps] at this
    exact this
  rcases last_spec (S (a ++ c :: b)) (S [c]) with ⟨_, h⟩ | ⟨i, hi, hA, hno⟩
  · exact absurd ((key a.length).mpr (by simp)) (h a.length)
  · rw [hi]
    have h1 := (key i).mp hA
    have h2 : ¬ i < a.length := fun hlt => hno a.length hlt ((key a.length).mpr (by simp))
    have h3 : ¬ a.length < i := fun hlt => by
      rw [List.getElem?_append_right (by omega)] at h1
      have e : i - a.length = (i - a.length - 1) + 1 := by omega
      rw [e, List.getElem?_cons_succ] at h1
      exact hb (List.mem_of_getElem? h1)
    have : i = a.length := by omega
    rw [this]
noncomputable def gl (c : Nat) : List (List Nat) → List Nat
  | [] => []
  | [p] => p
  | p :: r => p ++ c :: gl c r
theorem gl_cons (c : Nat) (p q : List Nat) (r : List (List Nat)) : gl c (p :: q :: r) = p ++ c :: gl c (q :: r) := rfl
theorem gl_inj {c : Nat} : ∀ {ps qs : List (List Nat)}, ps ≠ [] → qs ≠ [] → (∀ p ∈ ps, c ∉ p) → (∀ p ∈ qs, c ∉ p) → gl c ps = gl c qs → ps = qs
  | [], _, h, _, _, _, _ => absurd rfl h
  | _, [], _, h, _, _, _ => absurd rfl h
  | [p], [q], _, _, _, _, e => by
    have : p = q := e
    rw [this]
  | [p], q :: q' :: r, _, _, hp, _, e => by
    have hn := hp p (by simp)
    rw [gl_cons] at e
    have : p = q ++ c :: gl c (q' :: r) := e
    rw [this] at hn
    simp at hn
  | p :: p' :: r, [q], _, _, _, hq, e => by
    have hn := hq q (by simp)
    rw [gl_cons] at e
    have : p ++ c :: gl c (p' :: r) = q := e
    rw [← this] at hn
    simp at hn
  | p :: p' :: r, q :: q' :: r', _, _, hp, hq, e => by
    rw [gl_cons, gl_cons] at e
    have hpn := hp p (by simp)
    have hqn := hq q (by simp)
    have : p = q ∧ gl c (p' :: r) = gl c (q' :: r') := by
      clear hp hq
      induction p generalizing q with
      | nil =>
        cases q with
        | nil => simp at e; exact ⟨rfl, e⟩
        | cons b q => simp at e; exact absurd e.1.symm (by simp at hqn; intro h; exact hqn.1 h.symm)
      | cons a p ih =>
        cases q with
        | nil => simp at e; exact absurd e.1 (by simp at hpn; intro h; exact hpn.1 h.symm)
        | cons b q =>
          simp only [List.cons_append, List.cons.injEq] at e
          obtain ⟨rfl, e⟩ := e
          refine ob0_2 (ih q (by simp) (by simp) e (by simp at hpn; exact hpn.2) (by simp at hqn; exact hqn.2)) fun h1 h2 => ?_
          exact ⟨by rw [h1], h2⟩
    refine ob0_2 this fun z0 e2 => ?_; clear this; subst z0
    have := gl_inj (ps := p' :: r) (qs := q' :: r') (by simp) (by simp) (fun x hx => hp x (List.mem_cons_of_mem _ hx)) (fun x hx => hq x (List.mem_cons_of_mem _ hx)) e2
    rw [this]
theorem foldl_glue (sep : Str) : ∀ (r : List Str) (acc : Array Nat), (r.foldl (fun acc p => acc ++ sep.cps ++ p.cps) acc).toList = acc.toList ++ (r.map fun p => sep.cps.toList ++ p.cps.toList).flatten
  | [], acc => by simp
  | p :: r, acc => by
    rw [List.foldl_cons, foldl_glue sep r]
    simp
theorem gl_flat (c : Nat) (p : List Nat) (r : List (List Nat)) : gl c (p :: r) = p ++ (r.map fun q => [c] ++ q).flatten := by
  induction r generalizing p with
  | nil => simp [gl]
  | cons q r ih => rw [gl_cons, ih]; simp
theorem S_glued (c : Nat) (ps : List (List Nat)) : Builtin.Str.glued (S [c]) (ps.map S) = S (gl c ps) := by
  cases ps with
  | nil => rfl
  | cons p r =>
    have e := foldl_glue (S [c]) (r.map S) (S p).cps
    unfold Builtin.Str.glued
    simp only [List.map_cons, List.drop_succ_cons, List.drop_zero, List.headD_cons]
    rw [← S_of ⟨_⟩, gl_flat]
    congr 1
    rw [e, S_cps]
    congr 2
    rw [List.map_map]
    simp [S]
theorem S_glued0 (ps : List (List Nat)) : Builtin.Str.glued (S []) (ps.map S) = S ps.flatten := by
  cases ps with
  | nil => rfl
  | cons p r =>
    have e := foldl_glue (S []) (r.map S) (S p).cps
    unfold Builtin.Str.glued
    simp only [List.map_cons, List.drop_succ_cons, List.drop_zero, List.headD_cons]
    rw [← S_of ⟨_⟩]
    congr 1
    rw [e, S_cps]
    simp only [List.flatten_cons, List.map_map]
    congr 2
    have : (fun p : Str => (S []).cps.toList ++ p.cps.toList) ∘ S = id := by funext q; simp [S]
    rw [this, List.map_id]
theorem map_S_of : ∀ l : List Str, (l.map fun x => x.cps.toList).map S = l
  | [] => rfl
  | x :: l => by rw [List.map_cons, List.map_cons, map_S_of l, S_of]
theorem S_split {c : Nat} {ps : List (List Nat)} (hne : ps ≠ []) (hp : ∀ p ∈ ps, c ∉ p) : Txt.split (S (gl c ps)) (S [c]) = ps.map S := by
  have h1 := join_split (S (gl c ps)) (S [c])
  have h2 : ∀ p ∈ Txt.split (S (gl c ps)) (S [c]), c ∉ p.cps.toList := split_free (S (gl c ps)) c
  have h3 : Txt.split (S (gl c ps)) (S [c]) ≠ [] := by
    intro e
    have := PyProof.Rows.split_pos (S (gl c ps)) (S [c])
    rw [e] at this
    simp at this
  generalize Txt.split (S (gl c ps)) (S [c]) = qs at h1 h2 h3
  rw [← map_S_of qs] at h1
  have h4 : Str.join (S [c]) ((qs.map fun x => x.cps.toList).map S) = S (gl c (qs.map fun x => x.cps.toList)) := by
    rw [← glued_eq_join]; exact S_glued c _
  rw [h4] at h1
  have h5 := gl_inj (c := c) (by simpa using h3) hne (fun p hp => by
    refine ob1_2 (List.mem_map.mp hp) fun x hx z0 => ?_; subst z0
    exact h2 x hx) hp (S_inj h1)
  rw [← h5, map_S_of]
end
section
open PySem.StrLaws
theorem kind_one {c : Nat} (hc : c < 256) : Builtin.Str.strKind (S [c]) = 1 := by
  unfold Builtin.Str.strKind
  rw [if_pos (by simp [S, hc])]
theorem kind_pos (x : Str) : 1 ≤ Builtin.Str.strKind x := by
  unfold Builtin.Str.strKind
  split
  · omega
  · split <;> omega
theorem gl_pos {c : Nat} {ps : List (List Nat)} (h : 2 ≤ ps.length) : 1 ≤ (gl c ps).length := by
  match ps, h with
  | p :: q :: r, _ => rw [gl_cons]; simp; omega
theorem split_facts {c : Nat} {ps : List (List Nat)} (hc : c < 256) (h2 : 2 ≤ ps.length) (hp : ∀ p ∈ ps, c ∉ p) :
    (decide ((S (gl c ps)).length < (S [c]).length) || decide (Builtin.Str.strKind (S (gl c ps)) < Builtin.Str.strKind (S [c]))) = false ∧ ((S [c]).length == 0) = false ∧
    (Builtin.Str.occurrences (S (gl c ps)) (S [c]) 0 (S (gl c ps)).length ((S (gl c ps)).length + 1)).isEmpty = false ∧
    Builtin.Str.partsBetween (S (gl c ps)) (Builtin.Str.occurrences (S (gl c ps)) (S [c]) 0 (S (gl c ps)).length ((S (gl c ps)).length + 1)) (S [c]).length = ps.map S := by
  have hs := S_split (c := c) (ps := ps) (by intro e; rw [e] at h2; simp at h2) hp
  have h1 : (decide ((S (gl c ps)).length < (S [c]).length) || decide (Builtin.Str.strKind (S (gl c ps)) < Builtin.Str.strKind (S [c]))) = false := by
    have a := gl_pos (c := c) h2
    have b := kind_pos (S (gl c ps))
    rw [S_len, S_len, kind_one hc]
    simp only [List.length_cons, List.length_nil, Bool.or_eq_false_iff, decide_eq_false_iff_not]
    omega
  refine ⟨h1, by rw [S_len]; rfl, ?_⟩
  unfold Txt.split at hs
  rw [h1] at hs
  rw [if_neg (by decide)] at hs
  by_cases ho : (Builtin.Str.occurrences (S (gl c ps)) (S [c]) 0 (S (gl c ps)).length ((S (gl c ps)).length + 1)).isEmpty = true
  · rw [if_pos ho] at hs
    have := congrArg List.length hs
    simp at this
    omega
  · rw [if_neg ho] at hs
    exact ⟨by simpa using ho, hs⟩
noncomputable def one (cs : List Nat) : List (List Nat) := cs.map fun c => [c]
noncomputable def dirL : List Nat → List Nat
  | [] => [47]
  | c :: cs => gl 47 ([] :: one (c :: cs))
noncomputable def dirS (cs : List Nat) : Str := S (dirL cs)
noncomputable def Plain (cs : List Nat) : Prop := ∀ c ∈ cs, c ≠ 47 ∧ c ≠ 46
theorem Plain.of_app {a b : List Nat} (h : Plain (a ++ b)) : Plain a ∧ Plain b := ⟨fun c hc => h c (by simp [hc]), fun c hc => h c (by simp [hc])⟩
theorem Plain.take {a : List Nat} (h : Plain a) (n : Nat) : Plain (a.take n) := fun c hc => h c (List.mem_of_mem_take hc)
theorem gl_snoc (c : Nat) (ps : List (List Nat)) (q : List Nat) (h : ps ≠ []) : gl c (ps ++ [q]) = gl c ps ++ c :: q := by
  induction ps with
  | nil => exact absurd rfl h
  | cons p r ih =>
    cases r with
    | nil => rfl
    | cons p' r => rw [gl_cons, List.cons_append, List.cons_append, gl_cons, ← List.cons_append, ih (by simp)]; simp
theorem one_free {cs : List Nat} (h : Plain cs) : ∀ p ∈ ([] : List Nat) :: one cs, 47 ∉ p := by
  intro p hp
  rcases List.mem_cons.mp hp with rfl | hp
  · simp
  · refine ob1_2 (List.mem_map.mp hp) fun c hc z0 => ?_; subst z0
    have := (h c hc).1
    simp; omega
noncomputable def partsOf : List Nat → List (List Nat)
  | [] => [[], []]
  | c :: cs => [] :: one (c :: cs)
theorem dirL_parts (cs : List Nat) : dirL cs = gl 47 (partsOf cs) := by cases cs <;> rfl
theorem parts_free' {cs : List Nat} (h : Plain cs) : ∀ p ∈ partsOf cs, 47 ∉ p := by
  cases cs with
  | nil => intro p hp; simp [partsOf] at hp; subst hp; simp
  | cons c cs => exact one_free h
theorem parts_len (cs : List Nat) : 2 ≤ (partsOf cs).length := by cases cs <;> simp [partsOf, one]
theorem dirL_snoc (cs : List Nat) (c : Nat) (h : cs ≠ []) : dirL (cs ++ [c]) = dirL cs ++ [47, c] := by
  refine ob2_1 (List.exists_cons_of_ne_nil h) fun d ds z0 => ?_; subst z0
  show gl 47 ([] :: one (d :: (ds ++ [c]))) = gl 47 ([] :: one (d :: ds)) ++ [47, c]
  have e : ([] :: one (d :: (ds ++ [c])) : List (List Nat)) = ([] :: one (d :: ds)) ++ [[c]] := by simp [one]
  rw [e, gl_snoc _ _ _ (by simp)]
theorem dirL_len (cs : List Nat) : (dirL cs).length = if cs = [] then 1 else 2 * cs.length := by
  by_cases h : cs = []
  · subst h; rfl
  · rw [if_neg h]
    refine ob2_1 (List.exists_cons_of_ne_nil h) fun d ds z0 => ?_; subst z0
    have key : ∀ (cs : List Nat) (p : List Nat), (gl 47 (p :: one cs)).length = p.length + 2 * cs.length := fun cs => by
      induction cs with
      | nil => intro p; simp [one, gl]
      | cons c cs ih =>
        intro p
        have e : one (c :: cs) = [c] :: one cs := rfl
        rw [e, gl_cons, List.length_append, List.length_cons, ih]; simp; omega
    have := key (d :: ds) []
    show (gl 47 ([] :: one (d :: ds))).length = _
    simpa using this
theorem dirL_inj {a b : List Nat} (ha : Plain a) (hb : Plain b) (h : dirL a = dirL b) : a = b := by
  rw [dirL_parts, dirL_parts] at h
  have := gl_inj (by cases a <;> simp [partsOf]) (by cases b <;> simp [partsOf]) (parts_free' ha) (parts_free' hb) h
  have h1 : ∀ cs : List Nat, ((partsOf cs).drop 1).flatten = cs := fun cs => by
    cases cs with
    | nil => rfl
    | cons c cs =>
      show (one (c :: cs)).flatten = _
      unfold one
      induction (c :: cs) with
      | nil => rfl
      | cons x xs ih => simp only [List.map_cons, List.flatten_cons, ih]; rfl
  rw [← h1 a, ← h1 b, this]
theorem dirS_inj {a b : List Nat} (ha : Plain a) (hb : Plain b) (h : dirS a = dirS b) : a = b := dirL_inj ha hb (S_inj h)
noncomputable def pre (cs : List Nat) : List Nat := if cs = [] then [] else dirL cs
theorem dirL_last (cs : List Nat) (c : Nat) : dirL (cs ++ [c]) = pre cs ++ 47 :: [c] := by
  unfold pre
  by_cases h : cs = []
  · subst h; rfl
  · rw [if_neg h, dirL_snoc _ _ h]
theorem pre_len (cs : List Nat) : (pre cs).length = 2 * cs.length := by
  unfold pre
  by_cases h : cs = []
  · subst h; rfl
  · rw [if_neg h, dirL_len, if_neg h]
theorem rstrip_one (l : List Nat) (hl : l ≠ []) (hlast : l[l.length - 1]? ≠ some 47) : stripSame (S [47]).cps.contains false true (S (l ++ [47])) = false ∧ PySem.stripped (S [47]).cps.contains false true (S (l ++ [47])) = S l := by
  have hp : 0 < l.length := List.length_pos_iff.mpr hl
  have hhi : stripHi (S [47]).cps.contains true (S (l ++ [47])) 0 = l.length := by
    unfold stripHi
    rw [if_pos rfl, S_cps, S_len]
    refine ob2_1 (List.exists_cons_of_ne_nil (show l.reverse ≠ [] by simpa using hl)) fun x r hxr => ?_
    have hx : x ≠ 47 := by
      intro e
      apply hlast
      have h1 : l = r.reverse ++ [x] := by
        have := congrArg List.reverse hxr
        simpa using this
      rw [h1, e]; simp
    have e1 : ((l ++ [47]).drop 0).reverse = 47 :: x :: r := by simp [hxr]
    rw [e1, List.takeWhile_cons, List.takeWhile_cons]
    have c1 : (S [47]).cps.contains 47 = true := by simp [S]
    have c2 : (S [47]).cps.contains x = false := by
      rw [Bool.eq_false_iff]
      intro h
      have : x ∈ (S [47]).cps := by simpa using h
      simp [S] at this
      exact hx this
    rw [c1, c2]
    simp
  have hlo : stripLo (S [47]).cps.contains false (S (l ++ [47])) = 0 := by unfold stripLo; rfl
  refine ⟨?_, ?_⟩
  · unfold stripSame
    rw [hlo, hhi, S_len]
    simp
  · unfold PySem.stripped
    rw [hlo, hhi]
    unfold Builtin.Str.strSub S
    congr 1
    simp
theorem rep_slash (n : Nat) : (⟨(List.replicate n (Str.ofString "/").cps).foldl (· ++ ·) #[]⟩ : Str) = S (List.replicate n 47) := by
  rw [slash]
  have key : ∀ n (acc : List Nat), (List.replicate n (S [47]).cps).foldl (· ++ ·) acc.toArray = (acc ++ List.replicate n 47).toArray := fun n => by
    induction n with
    | zero => intro acc; simp
    | succ n ih =>
      intro acc
      rw [List.replicate_succ, List.foldl_cons, List.replicate_succ]
      have : acc.toArray ++ (S [47]).cps = (acc ++ [47]).toArray := by simp [S]
      rw [this, ih]
      simp
  have h := key n []
  rw [List.nil_append] at h
  show (⟨_⟩ : Str) = ⟨_⟩
  rw [← h]
end
theorem part_n {w : World} {k : Nat} {gs : List (Str × NameKind)} {ρ : Rho} : EvPart w k gs ρ none none := trivial
theorem part_s {w : World} {k : Nat} {gs : List (Str × NameKind)} {ρ : Rho} {e : Expr} {i : Int} (h : Evals w k gs ρ e (.int i)) : EvPart w k gs ρ (some e) (some i) := h
theorem Tests.to {w : World} {k : Nat} {gs : List (Str × NameKind)} {ρ : Rho} {e : Expr} {b b' : Bool} (h : Tests w k gs ρ e b) (q : b = b') : Tests w k gs ρ e b' := q ▸ h
theorem Evals.to {w : World} {k : Nat} {gs : List (Str × NameKind)} {ρ : Rho} {e : Expr} {b b' : V} (h : Evals w k gs ρ e b) (q : b = b') : Evals w k gs ρ e b' := q ▸ h
theorem fnIs {w : World} {a : Addr} (i : Nat) (h0 : (match (Kf w.params).lookup a with | some ⟨_, _, .func _, _⟩ => true | _ => false) = true) (hn : a ≠ tabA) (h1 : (fdAt w.params a).body = .stmts (bodyN i)) (h2 : (fdAt w.params a).closure = [])
    (h3 : (fdAt w.params a).scope.names = namesN i) (h4 : (fdAt w.params a).scope.kind = .function) (h5 : (fdAt w.params a).scope.isCoroutine = false) (h6 : (fdAt w.params a).scope.isGenerator = false) (h7 : (fdAt w.params a).globals = mainGlobals)
    (h8 : (fdAt w.params a).builtins = builtinsNs) (h9 : codeOk (Kf w.params) (fdAt w.params a).code (fdAt w.params a).qualname = true) (h10 : ((namesN i).all fun p => p.2 != .free) = true) : FnIs w a (namesN i) (bodyN i) (fdAt w.params a) :=
  ⟨at_of h0 hn, h1, h2, h3, h4, h5, h6, h7, h8, h9, lookup_none_free h10⟩
noncomputable def isLC (nm : List (Str × NameKind)) (n : Str) : Bool := nm.lookup n == some .local || nm.lookup n == some .cell
theorem isLC_of {nm : List (Str × NameKind)} {pn : List Str} (h : (pn.all (isLC nm)) = true) : ∀ n ∈ pn, nm.lookup n = some .local ∨ nm.lookup n = some .cell := fun n hn => by
  have := List.all_eq_true.mp h n hn
  unfold isLC at this
  simpa using this
theorem fn_fspath (w : World) : FnIs w 166 (namesN 18) (bodyN 18) (fdAt w.params 166) := ⟨at_of (by kernel_rfl) (by decide), by kernel_rfl, by kernel_rfl, by kernel_rfl, by kernel_rfl, by kernel_rfl, by kernel_rfl, by kernel_rfl, by kernel_rfl, by kernel_rfl, lookup_none_free (by kernel_rfl)⟩
theorem fspath_body {w : World} {k : Nat} {x : Str} : Ex w (k + 1) (namesN 18) [("path", false, .str x)] [] (bodyN 18) fun _ _ fl => fl = .ret (.str x) := by
  refine ex_cons (x1_set (evs (ev_call (ev_glob (by kernel_rfl) g_type) (.typ _) (evl_cons ev_name evl_nil) (c_type typed_str (by decide)))) (asgn_local (by kernel_rfl)) ?_)
  refine ex_cons (x1_if_t (tes (t_val (ev_call (ev_glob (by kernel_rfl) g_issubclass) (.bi _) ?_ c_issub) tr_bool)) ?_)
  · repeat' wtm_at "ev1"
  · exact ex_cons (x1_ret (evs ev_name) rfl)
theorem fspath_ok {w : World} {k : Nat} {x : Str} : CallOk w (k + 2) (.top 166) [.str x] (.str x) :=
  fn_ok (fn_fspath w) (binds1 fun v => by kernel_rfl) (nodup_of (by decide +kernel)) (isLC_of (by kernel_rfl)) (fspath_body.mono fun _ _ _ h => .inl h)
theorem fn_splitroot (w : World) : FnIs w 194 (namesN 24) (bodyN 24) (fdAt w.params 194) := fnIs 24 (by kernel_rfl) (by decide) (by kernel_rfl) (by kernel_rfl) (by kernel_rfl) (by kernel_rfl) (by kernel_rfl) (by kernel_rfl) (by kernel_rfl) (by kernel_rfl) (by kernel_rfl) (by kernel_rfl)
theorem c_isb {w : World} {k : Nat} {x : Str} : CallOk w k (.bi "isinstance") [.str x, .typ "bytes"] (.bool false) := c_isinst_f (by decide) (by kernel_rfl) (by rw [isSubtype_type]; kernel_rfl)
theorem isFn_fspath (w : World) : IsFn w 166 := (fn_fspath w).isFn
theorem isFn_get_sep (w : World) : IsFn w 180 := (fn_get_sep w).isFn
theorem splitroot_body {w : World} {k : Nat} {c : Nat} {r : List Nat} (hc : c ≠ 47) (hl : r.length ≤ 1000) : Ex w (k + 2) (namesN 24) [("p", false, .str (S (47 :: c :: r)))] [] (bodyN 24) fun _ _ fl => fl = .ret (.tup [.str "", .str "/", .str (S (c :: r))]) := by
  refine ex_cons (x1_set (evs (ev_call (ev_glob (by kernel_rfl) g_fspath) (.top _ (isFn_fspath w)) (by repeat' wtm_at "ev1") fspath_ok)) (asgn_local (by kernel_rfl)) ?_)
  refine ex_cons (x1_if_f (tes (t_val (ev_call (ev_glob (by kernel_rfl) g_isinstance) (.bi _) (by repeat' wtm_at "ev1") c_isb) tr_bool)) ?_)
  refine ex_cons (x1_set (evs (by repeat' wtm_at "ev1")) (asgn_local (by kernel_rfl)) ?_)
  refine ex_cons (x1_set (evs (by repeat' wtm_at "ev1")) (asgn_local (by kernel_rfl)) ?_)
  refine ex_nil ?_
  have sl0 : Txt.slice (S (47 :: c :: r)) none (some ((1 : Nat) : Int)) = S [47] := S_slice_to _ 1 (by simp)
  have sl1 : Txt.slice (S (47 :: c :: r)) (some ((1 : Nat) : Int)) (some ((2 : Nat) : Int)) = S [c] := S_slice _ 1 2 (by omega) (by simp)
  have sl2 : Txt.slice (S (47 :: c :: r)) (some ((1 : Nat) : Int)) none = S (c :: r) := S_slice_from _ 1 (by simp)
  have hlen : (S (47 :: c :: r)).length ≤ 1000000 := by rw [S_len]; simp; omega
  refine' ex_cons (x1_if_f (tes (Tests.to ?h ?e)) ?k)
  case h => repeat' first | exact hlen | wtm_at "ev1"
  case e => erw [sl0, slash]; simp
  refine' ex_cons (x1_if_t (tes (t_op (or_stop (Tests.to ?h2 ?e2)))) ?k2)
  case h2 => repeat' first | exact hlen | wtm_at "ev1"
  case e2 => erw [sl1, slash]; rw [bne, S_beq]; simp [hc]
  refine' ex_cons (x1_ret (evs (Evals.to ?h3 ?e3)) rfl)
  case h3 => repeat' first | exact hlen | wtm_at "ev1"
  case e3 => erw [sl2]
theorem splitroot_ok {w : World} {k : Nat} {c : Nat} {r : List Nat} (hc : c ≠ 47) (hl : r.length ≤ 1000) : CallOk w (k + 3) (.top 194) [.str (S (47 :: c :: r))] (.tup [.str "", .str "/", .str (S (c :: r))]) :=
  fn_ok (fn_splitroot w) (binds1 fun v => by kernel_rfl) (nodup_of (by decide +kernel)) (isLC_of (by kernel_rfl)) ((splitroot_body hc hl).mono fun _ _ _ h => .inl h)
section
variable {w : World} {k : Nat} {nm : List (Str × NameKind)} {ρ : Rho} {σ : Sig} {Φ : Rho → Sig → Fl → Prop}
theorem bin_muls {x : Str} {n : Nat} {r : Str} (h1 : x.length * n ≤ 1000000) (hx : n ≤ 1000000) (hr : (⟨(List.replicate n x.cps).foldl (· ++ ·) #[]⟩ : Str) = r) : BinOk w k .Mult (.str x) (.int n) (.str r) := fun A f s va vb _ ok ra rb Q E hQ => by
  refine ob1_1 (rel_str.mp ra) fun t z0 => ?_; subst z0; refine ob1_1 (rel_int.mp rb) fun u z0 => ?_; subst z0
  have hz : x.length = 0 → r = ⟨#[]⟩ := fun h0 => by
    rw [← hr]
    have : x.cps = #[] := Array.eq_empty_of_size_eq_zero h0
    rw [this]
    have key : ∀ n (acc : Array Nat), (List.replicate n (#[] : Array Nat)).foldl (· ++ ·) acc = acc := fun n => by
      induction n with
      | zero => intro acc; rfl
      | succ n ih => intro acc; rw [List.replicate_succ, List.foldl_cons, ih]; simp
    rw [key]
  have key : ∀ n (acc : Array Nat), ((List.replicate n x.cps).foldl (· ++ ·) acc).size = acc.size + n * x.cps.size := fun n => by
    induction n with
    | zero => intro acc; simp
    | succ n ih => intro acc; rw [List.replicate_succ, List.foldl_cons, ih, Array.size_append]; rw [Nat.succ_mul]; omega
  have hlen : r.length ≤ 1000000 := by
    rw [← hr]
    show ((List.replicate n x.cps).foldl (· ++ ·) #[]).size ≤ 1000000
    rw [key]
    show 0 + n * x.length ≤ _
    rw [Nat.mul_comm]; omega
  have hm : MadeIs f (if (n : Int) < 1 then Made.str Str.empty else if ((n : Int) == 1 || x.length == 0) = true then Made.val (.str x t) else Made.str ⟨(List.replicate (n : Int).toNat x.cps).foldl (· ++ ·) #[]⟩) (.str r) := by
    refine MadeIs.ite (fun h => ⟨?_, by decide⟩) fun h => MadeIs.ite (fun h2 => ?_) fun h2 => ⟨by rw [← hr]; rfl, ?_⟩
    · have : n = 0 := by omega
      subst this
      rw [← hr]; rfl
    · rw [Bool.or_eq_true] at h2
      rcases h2 with h2 | h2
      · have : n = 1 := by have := eq_of_beq h2; omega
        subst this
        rw [← hr]
        have : (⟨(List.replicate 1 x.cps).foldl (· ++ ·) #[]⟩ : Str) = x := by simp [List.replicate]
        rw [this]; exact relS (f := f)
      · have h3 : x.length = 0 := by simpa using h2
        rw [hz h3]
        have : x = ⟨#[]⟩ := by
          have : x.cps = #[] := Array.eq_empty_of_size_eq_zero h3
          cases x; simp at this; rw [this]
        rw [this]; exact relS (f := f)
    · have := hlen; rw [← hr] at this; exact this
  refine PySem.P.mul_str ?_ (fun h1' h2 => ?_) (fun h1' h2 => ?_) (hm.post ok.sub hQ)
  · have a : ¬ (n : Int) < -(2 ^ 63 : Int) := by
      have : -(2 ^ 63 : Int) ≤ 0 := by decide
      omega
    have b : ¬ (n : Int) ≥ 2 ^ 63 := by
      have : (1000000 : Int) < 2 ^ 63 := by decide
      omega
    rw [decide_eq_false a, decide_eq_false b]; rfl
  · have hn : (0 : Int) < n := by omega
    have e : ((x.length : Int) ≤ (2 ^ 63 - 1) / (n : Int)) := by
      rw [Int.le_ediv_iff_mul_le hn]
      have : (x.length : Int) * n = ((x.length * n : Nat) : Int) := by simp
      rw [this]
      have h : (1000000 : Int) ≤ 2 ^ 63 - 1 := by decide
      omega
    omega
  · unfold Builtin.Str.tooLong
    rw [decide_eq_false_iff_not, sizeLine_eq]
    have : (n : Int).toNat = n := by omega
    rw [this]; omega
theorem x1_augs {n pos' e pos} {c : Bool} {x y : Str} {ρ' σ'} (hx : ρ.lookup n = some (c, .str x)) (he : EvS w k nm ρ σ e (.str y)) (ha : AsgN w nm n (.str (x ++ y)) ρ σ ρ' σ') (hl : x.length + y.length ≤ 1000000) (h : Φ ρ' σ' .next) :
    Ex1 w k nm ρ σ (.AugAssign (.Name n pos') .Add e pos) Φ := fun env A α f s M Q E rm L t hQ => by
  refine wpAny_AugAssign_Name ?_
  have H := t.ok.held n c _ hx
  have key : ∀ (Q : Value → Shared → Prop), (∀ u, Q (.str x u) s) → wpAny (model prg w) A (loadName env n) Q E s := fun Q hq => by
    cases c with
    | false =>
      obtain ⟨hk, m, val, hns, hm, r⟩ := H
      refine ob1_1 (rel_str.mp r) fun u z0 => ?_; subst z0
      exact wpAny_loadName_local t.kind hk hns hm (hq u)
    | true =>
      obtain ⟨hk, a, val, hc, hns, r⟩ := H
      refine ob1_1 (rel_str.mp r) fun u z0 => ?_; subst z0
      rcases hk with hk | hk
      · exact wpAny_loadName_cell t.kind hk hc hns (hq u)
      · exact absurd (by have := hk; unfold Env.kindOf at this; rw [t.nms] at this; exact this) (t.nofree n)
  refine key _ fun u => ?_
  refine he env A α f s M _ E rm L t fun val f' s' g r => ?_
  refine ob1_1 (rel_str.mp r) fun u' z0 => ?_; subst z0
  have t' := t.grew L g
  refine PyProof.Rows.iadd_str (fun t2 tk => ?_) (by rw [sizeLine_eq]; omega)
  have g2 : Grew f' s' f' { s' with toks := tk } := Grew.same (h' := s'.heap) t'.okf.sub fun _ _ e => e
  have gg := g.trans g2
  refine ha env A α f' _ M _ _ E rm.handled (L.grew gg.keeps) (t.grew L gg) relS fun s'' t'' L'' g'' => ?_
  exact hQ .next .next ρ' σ' α M f' s'' h rfl t'' L'' (gg.toS.trans g'')
noncomputable def tgts (ns : List (Str × Pos)) : List Expr := ns.map fun p => .Name p.1 p.2
theorem each_names (env : Env) : ∀ ns : List (Str × Pos), assignEach (tgts ns) env = ns.map fun p => (false, assign (.Name p.1 p.2) env)
  | [] => rfl
  | p :: r => by
    show assignEach (.Name p.1 p.2 :: tgts r) env = _
    rw [List.map_cons, ← each_names env r]
    rfl
theorem in_order {β : Type} (nmf : β → Str) (go : β → Value → Sem Unit) {env : Env} {A : Around} {α : Str → Addr} {f : Fz} {M : Addr → Prop} {E : Value → Shared → Prop} (hgo : ∀ n v Q s, wpAny (model prg w) A (storeName env (nmf n) v) Q E s → wpAny (model prg w) A (go n v) Q E s)
    (hh : A.handled = none) : ∀ (bs : List β) {xs : List V} {ρ σ ρ' σ'} (h : AsgL w nm (bs.map nmf) xs ρ σ ρ' σ') {s : Shared} {vals : List Value} {Q : Unit → Shared → Prop}, Live M s → St w nm env ρ σ α M f s → RelL f xs vals →
    (∀ s', St w nm env ρ' σ' α M f s' → Live M s' → GrewS M f s M f s' → Q () s') → wpAny (model prg w) A (assignInOrder (bs.map go) vals) Q E s
  | [], xs, ρ, σ, ρ', σ', h, s, vals, Q, L, t, r, hQ => by
    cases h
    simp only [RelL] at r; subst r
    exact wpAny_pure (hQ s t L (GrewS.refl ..))
  | b :: bs, xs, ρ, σ, ρ', σ', h, s, vals, Q, L, t, r, hQ => by
    cases h with
    | cons _ _ x xs _ _ ρ₁ σ₁ _ _ h1 h2 =>
      simp only [RelL] at r
      refine ob2_3 r fun y r' z0 ry rr => ?_; clear r; subst z0
      show wpAny _ _ (do holding r' (go b y); assignInOrder (bs.map go) r') _ _ _
      refine wpAny_bind (wpAny_holding (hgo b y _ s ?_))
      refine h1 env A α f s M y _ E hh L t ry fun s' t' L' g' => ?_
      exact in_order nmf go hgo hh bs h2 L' t' rr fun s'' t'' L'' g'' => hQ s'' t'' L'' (g'.trans g'')
theorem asg_tup {ns : List (Str × Pos)} {kk pos} {l : List V} {ρ' σ'} (h : AsgL w nm (ns.map (·.1)) l ρ σ ρ' σ') (hlen : ns.length = l.length := by rfl) : Asg w nm (.Tuple (tgts ns) kk pos) (.tup l) ρ σ ρ' σ' := fun env A α f s M val Q E hh L t r hQ => by
  refine ob2_3 (rel_tup.mp r) fun a vs z0 ha rl => ?_; subst z0
  have hg := t.okf.sub _ _ ha
  refine wpAny_assign_Tuple (items := vs.toArray) hh ⟨_, hg, rfl, 0, rfl⟩ ?_ ?_ ?_
  · rw [each_names, List.length_map, hlen, List.size_toArray, rl.length]
  · rw [each_names, List.findIdx?_eq_none_iff]
    intro x hx
    refine ob1_2 (List.mem_map.mp hx) fun p _ z0 => ?_; subst z0
    rfl
  · intro h' hext
    have kp : ∀ b o, s.heap.get? b = some o → h'.get? b = some o := fun b o e => hext b o (Nat.ne_of_lt (Heap.lt_size e)) e
    have g : Grew f s f { s with heap := h', toks := s.toks } := Grew.same t.okf.sub kp
    rw [each_names]
    have e : ((ns.map fun p => (false, assign (.Name p.1 p.2) env)).map (·.2)) = ns.map fun p => assign (.Name p.1 p.2) env := by rw [List.map_map]; rfl
    rw [e]
    exact in_order (·.1) (fun p => assign (.Name p.1 p.2) env) (fun n v Q s h => wpAny_assign_Name h) hh ns h (L.grew g.keeps) (t.grew L g) rl fun s' t' L' g' => hQ s' t' L' (g.toS.trans g')
theorem x1_unpack {ns : List (Str × Pos)} {kk tpos e pos} {l : List V} {ρ' σ'} (he : EvS w k nm ρ σ e (.tup l)) (ha : AsgL w nm (ns.map (·.1)) l ρ σ ρ' σ') (hlen : ns.length = l.length) (h : Φ ρ' σ' .next)
    (hs : ∀ env, swapsWithSole [.Tuple (tgts ns) kk tpos] e pos.line env = pure false) (hw : ∀ env, env.scope.names = nm → env.scope.kind = .function → swappedStores [.Tuple (tgts ns) kk tpos] e env = pure none) :
    Ex1 w k nm ρ σ (.Assign [.Tuple (tgts ns) kk tpos] e pos) Φ := fun env A α f s M Q E rm L t hQ => by
  refine Assign_Tuple (he env A α f s M _ E rm L t fun val f' s' g r => ?_) (hs env) (hw env t.nms t.kind)
  exact asg_tup ha hlen env A α f' s' M val _ E rm.handled (L.grew g.keeps) (t.grew L g) r fun s'' t'' L'' g'' => hQ .next .next ρ' σ' α M f' s'' h rfl t'' L'' (g.toS.trans g'')
theorem x1_swap {ns : List Str} {kk tpos e pos elts} {l : List V} {ρ' σ'} (he : EvS w k nm ρ σ e (.tup l)) (ha : AsgL w nm ns.reverse l.reverse ρ σ ρ' σ') (hlen : ns.length = l.length) (h : Φ ρ' σ' .next)
    (hs : ∀ env, swapsWithSole [.Tuple elts kk tpos] e pos.line env = pure false) (hw : ∀ env, env.scope.names = nm → env.scope.kind = .function → swappedStores [.Tuple elts kk tpos] e env = pure (some ns)) :
    Ex1 w k nm ρ σ (.Assign [.Tuple elts kk tpos] e pos) Φ := fun env A α f s M Q E rm L t hQ => by
  refine Assign_Tuple_swapped (names := ns) (he env A α f s M _ E rm L t fun val f' s' g r => ?_) (hs env) (hw env t.nms t.kind)
  refine ob2_3 (rel_tup.mp r) fun a vs z0 ha' rl => ?_; subst z0
  have t' := t.grew L g
  have hg := t'.okf.sub _ _ ha'
  have hsz : ns.length = vs.toArray.size := by rw [hlen, List.size_toArray, rl.length]
  rw [hsz]
  refine unpackItems_tuple rm.handled ⟨_, hg, rfl, 0, rfl⟩ fun h' hext => ?_
  have kp : ∀ b o, s'.heap.get? b = some o → h'.get? b = some o := fun b o e => hext b o (Nat.ne_of_lt (Heap.lt_size e)) e
  have g2 : Grew f' s' f' { s' with heap := h', toks := s'.toks } := Grew.same t'.okf.sub kp
  have gg := g.trans g2
  have rr : RelL f' l.reverse vs.reverse := by
    clear ha hQ t' hg hsz kp g2 gg hlen ha' he r
    revert vs
    induction l with
    | nil => intro vs rl; simp only [RelL] at rl; subst rl; exact RelL.nil
    | cons x l ih =>
      intro vs rl
      simp only [RelL] at rl
      refine ob2_3 rl fun y r' z0 ry rr => ?_; clear rl; subst z0
      rw [List.reverse_cons, List.reverse_cons]
      exact RelL.append (ih r' rr) (RelL.cons ry RelL.nil)
  have e : vs.toArray.toList.reverse = vs.reverse := by simp
  rw [e]
  refine in_order (fun n => n) (fun n => bindName env n) (fun n v Q s h => bindName_ h) rm.handled ns.reverse (by simpa using ha) (L.grew gg.keeps) (t.grew L gg) rr fun s'' t'' L'' g'' => hQ .next .next ρ' σ' α M f' s'' h rfl t'' L'' (gg.toS.trans g'')
end
theorem fn_dirname (w : World) : FnIs w 201 (namesN 25) (bodyN 25) (fdAt w.params 201) := fnIs 25 (by kernel_rfl) (by decide) (by kernel_rfl) (by kernel_rfl) (by kernel_rfl) (by kernel_rfl) (by kernel_rfl) (by kernel_rfl) (by kernel_rfl) (by kernel_rfl) (by kernel_rfl) (by kernel_rfl)
theorem dirS_len (cs : List Nat) : (dirS cs).length ≤ 2 * cs.length + 1 := by
  unfold dirS; rw [S_len, dirL_len]; split <;> omega
theorem dirname_body {w : World} {k : Nat} {cs : List Nat} {c : Nat} (hp : Plain (cs ++ [c])) (hl : cs.length ≤ 1000) : Ex w (k + 2) (namesN 25) [("p", false, .str (dirS (cs ++ [c])))] [] (bodyN 25) fun _ _ fl => fl = .ret (.str (dirS cs)) := by
  have hlen : (dirS (cs ++ [c])).length ≤ 1000000 := Nat.le_trans (dirS_len _) (by simp; omega)
  have hc : c ≠ 47 := (hp c (by simp)).1
  have hrf : rfindI (dirS (cs ++ [c])) (Str.ofString "/") = ((pre cs).length : Int) := by
    unfold dirS rfindI
    rw [slash, dirL_last, S_last _ _ _ (by simp; omega)]
  have hsl : Txt.slice (dirS (cs ++ [c])) none (some ((pre cs).length + 1 : Int)) = S (pre cs ++ [47]) := by
    have := S_slice_to (dirL (cs ++ [c])) ((pre cs).length + 1) (by rw [dirL_last]; simp)
    unfold dirS
    have e : (((pre cs).length + 1 : Nat) : Int) = ((pre cs).length + 1 : Int) := by omega
    rw [e] at this
    rw [this, dirL_last]
    congr 1
    rw [List.take_append, List.take_of_length_le (by omega)]
    simp
  have hhl : (S (pre cs ++ [47])).length ≤ 1000000 := by rw [S_len]; simp [pre_len]; omega
  refine ex_cons (x1_set (evs (ev_call (ev_glob (by kernel_rfl) g_fspath) (.top _ (isFn_fspath w)) (by repeat' wtm_at "ev1") fspath_ok)) (asgn_local (by kernel_rfl)) ?_)
  refine ex_cons (x1_set (evs (ev_call (ev_glob (by kernel_rfl) g_get_sep) (.top _ (isFn_get_sep w)) (by repeat' wtm_at "ev1") get_sep_ok)) (asgn_local (by kernel_rfl)) ?_)
  refine ex_cons (x1_set (evs (v := .int ((pre cs).length + 1)) (Evals.to (ev_bin (ev_meth PySem.F.plainAttrs_str PySem.F.slot_str_rfind PySem.F.type_str_rfind ev_name typed_str (by repeat' wtm_at "ev1") c_rfind) ev_int bin_add) (by rw [hrf]))) (asgn_local (by kernel_rfl)) ?_)
  refine ex_cons (x1_set (evs (v := .str (S (pre cs ++ [47]))) (Evals.to (b := .str (Txt.slice (dirS (cs ++ [c])) none (some ((pre cs).length + 1 : Int)))) (by repeat' first | exact hlen | wtm_at "ev1") (by rw [hsl]))) (asgn_local (by kernel_rfl)) ?_)
  have tr : TruthOk w (k + 2) (.str (S (pre cs ++ [47]))) true := by
    have := tr_str (w := w) (k := k + 2) hhl
    have e : (((S (pre cs ++ [47])).length : Int) != 0) = true := by rw [S_len]; simp; omega
    rwa [e] at this
  have hn : (S (pre cs ++ [47])).length = (pre cs ++ [47]).length := S_len _
  have hsz : (Str.ofString "/").length * (S (pre cs ++ [47])).length ≤ 1000000 := by rw [slash, S_len, S_len]; simp [pre_len]; omega
  by_cases hcs : cs = []
  · subst hcs
    refine' ex_cons (x1_if_f (tes (t_op (and_go (t_val ev_name tr) (and_stop (Tests.to ?h1 ?e1))))) ?k1)
    case h1 =>
      refine t_cmp ev_name (ev_bin ev_name (ev_call (ev_glob (by kernel_rfl) g_len) (.bi _) (by repeat' wtm_at "ev1") (c_len_str hhl)) (bin_muls hsz hhl (rep_slash _))) cmp_nes
    case e1 =>
      rw [hn]; unfold bne; rw [S_beq]; rfl
    exact ex_nil (ex_cons (x1_ret (evs (Evals.to (b := .str (S (pre [] ++ [47]))) ev_name rfl)) rfl))
  · obtain ⟨ds, d, rfl⟩ : ∃ ds d, cs = ds ++ [d] := ⟨cs.dropLast, cs.getLast hcs, (List.dropLast_concat_getLast hcs).symm⟩
    have hd : d ≠ 47 := (hp d (by simp)).1
    refine' ex_cons (x1_if_t (tes (t_op (and_go (t_val ev_name tr) (and_go (Tests.to ?h2 ?e2) and_nil)))) ?k2)
    case h2 =>
      refine t_cmp ev_name (ev_bin ev_name (ev_call (ev_glob (by kernel_rfl) g_len) (.bi _) (by repeat' wtm_at "ev1") (c_len_str hhl)) (bin_muls hsz hhl (rep_slash _))) cmp_nes
    case e2 =>
      rw [hn]; unfold bne; rw [S_beq, Bool.not_eq_true', beq_eq_false_iff_ne]
      intro e
      have hm : d ∈ pre (ds ++ [d]) ++ [47] := by unfold pre; rw [if_neg (by simp), dirL_last]; simp
      rw [e] at hm
      exact hd (List.eq_of_mem_replicate hm)
    case k2 =>
      have hpc : pre (ds ++ [d]) = dirL (ds ++ [d]) := by unfold pre; rw [if_neg (by simp)]
      have hlast : (dirL (ds ++ [d]))[(dirL (ds ++ [d])).length - 1]? ≠ some 47 := by
        rw [dirL_last]; simp; omega
      refine ob0_2 (rstrip_one (dirL (ds ++ [d])) (by rw [dirL_last]; simp) hlast) fun r1 r2 => ?_
      refine ex_cons (x1_set (evs (ev_meth PySem.F.plainAttrs_str PySem.F.slot_str_rstrip PySem.F.type_str_rstrip ev_name typed_str (by repeat' wtm_at "ev1")
        (c_rstrip (r := dirS (ds ++ [d])) hhl (fun q => ?_) (fun _ => ⟨?_, ?_⟩)))) (asgn_local (by kernel_rfl)) ?_)
      · rw [slash, hpc, r1] at q; cases q
      · rw [slash, hpc, r2]; rfl
      · exact Nat.le_trans (dirS_len _) (by simp at hl ⊢; omega)
      exact ex_nil (ex_cons (x1_ret (evs ev_name) rfl))
theorem dirname_ok {w : World} {k : Nat} {cs : List Nat} {c : Nat} (hp : Plain (cs ++ [c])) (hl : cs.length ≤ 1000) : CallOk w (k + 3) (.top 201) [.str (dirS (cs ++ [c]))] (.str (dirS cs)) :=
  fn_ok (fn_dirname w) (binds1 fun v => by kernel_rfl) (nodup_of (by decide +kernel)) (isLC_of (by kernel_rfl)) ((dirname_body hp hl).mono fun _ _ _ h => .inl h)
section
variable {w : World} {k : Nat}
theorem iter_tup {l : List V} : IterOk w k (.tup l) l := fun A f s va Q E rm ok r hQ => by
  refine ob2_3 (rel_tup.mp r) fun a vs z0 ha rl => ?_; subst z0
  have hl := isTup_of (ok.sub _ _ ha)
  refine iter_tuple hl (hQ s.heap.objs.size _ ⟨_, s.toks, rfl, fun b o e => Heap.get?_push_of_some _ e⟩ (get?_size _) ⟨_, Heap.get?_push_size _ rfl⟩ ?_)
  have hne : a ≠ s.heap.objs.size := fun q => by have := get?_size s.heap; rw [← q, ok.sub _ _ ha] at this; cases this
  have W := Walks.tuple (prog := prg) (w := w.toWorld) rm.handled s.heap.objs.size a hne vs.toArray
  have hlen : vs.toArray.size = l.length := by rw [List.size_toArray, rl.length]
  rw [hlen] at W
  refine ⟨_, _, _, _, W, ⟨⟨_, Heap.get?_push_size _ rfl, rfl, rfl⟩, ⟨_, Heap.get?_push_of_some _ (ok.sub _ _ ha), rfl, 0, rfl⟩⟩, fun b hb => by simpa using hb, fun b hb => ?_, fun i u hu => ?_, fun i s' tgt v Q E hs hq => ?_, fun i h hs => solid_fields hs.1⟩
  · simp at hb
    rcases hb with rfl | rfl
    · exact .inl rfl
    · exact .inr ⟨_, ha⟩
  · have hi : i < l.length := by
      rcases Nat.lt_or_ge i l.length with q | q
      · exact q
      · have : vs.toArray[i]? = none := by simp [rl.length]; exact q
        rw [this] at hu; cases hu
    refine ob1_2 (rl.get (List.getElem?_eq_getElem hi)) fun y hy ry => ?_
    have : u = y := by
      have h1 : vs[i]? = some u := by simpa using hu
      rw [hy] at h1; exact (Option.some.inj h1).symm
    subst this
    exact ⟨_, List.getElem?_eq_getElem hi, ry⟩
  · obtain ⟨o, ho, hc, hd⟩ := hs.1
    exact letgo_fields ho hc hd (by decide) hq
theorem rel_rng {f : Fz} {v : Value} {n : Nat} : Rel f (.rng n) v ↔ ∃ a t u t', v = .ref a ∧ f a = some (rngO n t u t') := by simp only [Rel]
noncomputable def natsI (n : Nat) : List V := (List.range n).map fun (i : Nat) => V.int (Int.ofNat i)
theorem natsI_len (n : Nat) : (natsI n).length = n := by simp [natsI]
theorem natsI_get {n i : Nat} (h : i < n) : (natsI n)[i]? = some (.int (Int.ofNat i)) := by simp [natsI, h]
theorem iter_rng {n : Nat} (hn : n ≤ 1000000) : IterOk w k (.rng n) (natsI n) := fun A f s va Q E rm ok r hQ => by
  refine ob4_2 (rel_rng.mp r) fun a t u t' z0 ha => ?_; subst z0
  have hsz : Builtin.Range.rangeSize 0 (n : Int) 1 = n := by
    rw [rangeSize_nat]; omega
  have hsm : Builtin.Range.small 0 (n : Int) 1 = true := by
    have h1 : (n : Int) < 9223372036854775808 := by omega
    have h0 : (-9223372036854775808 : Int) ≤ 0 := by decide
    unfold Builtin.Range.small
    rw [hsz]
    have key : ∀ m : Int, 0 ≤ m → m ≤ 1000000 → Builtin.Range.rangeFitsLong m = true := fun m h2 h3 => by
      unfold Builtin.Range.rangeFitsLong
      simp only [Bool.and_eq_true, decide_eq_true_eq]
      have e : (2 : Int) ^ 63 = 9223372036854775808 := by decide
      constructor <;> omega
    rw [key 0 (by omega) (by omega), key n (by omega) (by omega), key 1 (by omega) (by omega), if_pos (by decide)]
    have := key (n + (1 - 1)) (by omega) (by omega)
    rw [this]; simp
  refine wpAny_pyIter_range (ok.sub _ _ ha) hsm (hQ s.heap.objs.size _ ⟨_, s.toks, rfl, fun b o e => Heap.get?_push_of_some _ e⟩ (get?_size _) ⟨_, Heap.get?_push_size _ rfl⟩ ?_)
  have W := (Walks.range (prog := prg) (w := w.toWorld) rm.handled s.heap.objs.size 0 1 n).bound
  rw [← natsI_len n] at W
  refine ⟨_, _, _, _, W, ?_, fun b hb => by simpa using hb, fun b hb => .inl (by simpa using hb), fun i u hu => ?_, fun i s' tgt v Q E hs hq => letgo_fields hs rfl rfl (by decide) hq, fun i h hs => ⟨_, hs, solid_cls rfl (by intro _ _ q; cases q)⟩⟩
  · rw [hsz, natsI_len]
    have := Heap.get?_push_size s.heap (o := { cls := .type "range_iterator", data := .fields #[rawInt 0, rawInt n, rawInt 1] }) rfl
    simpa using this
  · rw [natsI_len] at hu
    refine ob0_2 hu fun hi z0 => ?_; clear hu; obtain ⟨t2, rfl⟩ := z0
    refine ⟨_, natsI_get hi, rel_int.mpr ⟨t2, ?_⟩⟩
    have e : (0 : Int) + (i : Int) * 1 = Int.ofNat i := by simp
    rw [e]
theorem c_range {n : Nat} : CallOk w k (.typ "range") [.int (Int.ofNat n)] (.rng n) := fun A f s vf vs rm ok rf ra Q E hQ => by
  obtain rfl := rel_typ.mp rf
  refine ob1_2 (relL1 ra) fun x z0 rx => ?_; subst z0
  refine ob1_1 (rel_int.mp rx) fun t z0 => ?_; subst z0
  refine call_range_1 ?_
  have g : Grew f s (f.add s.heap.objs.size (rngO n s.toks t (s.toks + 1))) { s with heap := s.heap.push (rngO n s.toks t (s.toks + 1)), toks := s.toks + 1 + 1 } :=
    Grew.add ok.sub (fun b o e => Heap.get?_push_of_some _ e) (get?_size _) (Heap.get?_push_size _ rfl)
  exact hQ _ _ _ g (rel_rng.mpr ⟨_, s.toks, t, s.toks + 1, rfl, Fz.add_self ..⟩)
noncomputable def bytsI (b : List UInt8) : List V := b.map fun c => V.int (c.toNat : Int)
theorem iter_byt {b : List UInt8} : IterOk w k (.byt b.toArray) (bytsI b) := fun A f s va Q E rm ok r hQ => by
  refine ob1_1 (rel_byt.mp r) fun t z0 => ?_; subst z0
  refine KBw.pyIter_bytes (hQ s.heap.objs.size _ ⟨_, s.toks, rfl, fun b o e => Heap.get?_push_of_some _ e⟩ (get?_size _) ⟨_, Heap.get?_push_size _ rfl⟩ ?_)
  have W := KBw.walks (prog := prg) (w := w.toWorld) rm.handled s.heap.objs.size b.toArray t
  have hlen : b.toArray.size = (bytsI b).length := by simp [bytsI]
  rw [hlen] at W
  refine ⟨_, _, _, _, W, ⟨_, Heap.get?_push_size _ rfl, rfl, rfl⟩, fun b hb => by simpa using hb, fun b hb => .inl (by simpa using hb), fun i u hu => ?_, fun i s' tgt v Q E hs hq => ?_, fun i h hs => solid_fields hs⟩
  · refine ob2_2 hu fun c t2 hc z0 => ?_; clear hu; subst z0
    have : b[i]? = some c := by simpa using hc
    exact ⟨.int (c.toNat : Int), by simp [bytsI, this], rel_int.mpr ⟨t2, rfl⟩⟩
  · obtain ⟨o, ho, hc, hd⟩ := hs
    exact letgo_fields ho hc hd (by decide) hq
end
theorem fn_join (w : World) : FnIs w 187 (namesN 23) (bodyN 23) (fdAt w.params 187) := fnIs 23 (by kernel_rfl) (by decide) (by kernel_rfl) (by kernel_rfl) (by kernel_rfl) (by kernel_rfl) (by kernel_rfl) (by kernel_rfl) (by kernel_rfl) (by kernel_rfl) (by kernel_rfl) (by kernel_rfl)
theorem join_binds {w : World} {x y : V} : Binds w (fdAt w.params 187) [x, y] [] ["a", "p"] [x, .tup [y]] := fun A f s vals kvs Q E ok r kr hQ => by
  refine ob2_3 (relL2 r) fun u v z0 ru rv => ?_; subst z0
  have e : bindArgs (fdAt w.params 187) ⟨[u, v], []⟩ = (newTuple [v] >>= fun t => pure [(("a" : Str), u), (("p" : Str), t)]) := by kernel_rfl
  rw [show (List.zip (([] : List (Str × V)).map (·.1)) kvs) = [] from rfl, e]
  refine wpAny_bind (wpAny_newObj_type (wpAny_pure ?_))
  have g : Grew f s (f.add s.heap.objs.size (tupO [v])) { s with heap := s.heap.push (tupO [v]), toks := s.toks } :=
    Grew.add ok.sub (fun b o e => Heap.get?_push_of_some _ e) (get?_size _) (Heap.get?_push_size _ rfl)
  exact hQ _ _ _ g rfl (RelL.cons (ru.mono g.le) (RelL.cons (rel_tup.mpr ⟨_, [v], rfl, Fz.add_self .., RelL.cons (rv.mono g.le) RelL.nil⟩) RelL.nil))
noncomputable def joinL (l m : List Nat) : List Nat := if l[l.length - 1]? = some 47 then l ++ m else l ++ 47 :: m
theorem join_body {w : World} {k : Nat} {l m : List Nat} (hl : l ≠ []) (hm : m[0]? ≠ some 47) (h1 : l.length ≤ 1000) (h2 : m.length ≤ 1000) : Ex w (k + 2) (namesN 23) [("a", false, .str (S l)), ("p", false, .tup [.str (S m)])] [] (bodyN 23) fun _ _ fl => fl = .ret (.str (S (joinL l m))) := by
  have hlS : (S l).length ≤ 1000000 := by rw [S_len]; omega
  have tr : TruthOk w (k + 2) (.str (S l)) true := by
    have := tr_str (w := w) (k := k + 2) hlS
    have e : (((S l).length : Int) != 0) = true := by rw [S_len]; simp; exact hl
    rwa [e] at this
  refine ex_cons (x1_set (evs (ev_call (ev_glob (by kernel_rfl) g_fspath) (.top _ (isFn_fspath w)) (by repeat' wtm_at "ev1") fspath_ok)) (asgn_local (by kernel_rfl)) ?_)
  refine ex_cons (x1_set (evs (ev_call (ev_glob (by kernel_rfl) g_get_sep) (.top _ (isFn_get_sep w)) (by repeat' wtm_at "ev1") get_sep_ok)) (asgn_local (by kernel_rfl)) ?_)
  refine ex_cons (x1_set (evs (by repeat' wtm_at "ev1")) (asgn_local (by kernel_rfl)) ?_)
  refine ex_cons (x1_try ?_)
  refine ex_cons (x1_for (evs ev_name) iter_tup ?_)
  refine ⟨_, _, asg_name (asgn_local (by kernel_rfl)), ?_⟩
  refine ex_cons (x1_set (evs (ev_call (ev_glob (by kernel_rfl) g_fspath) (.top _ (isFn_fspath w)) (by repeat' wtm_at "ev1") fspath_ok)) (asgn_local (by kernel_rfl)) ?_)
  refine' ex_cons (x1_if_f (tes (t_op (or_go (Tests.to ?h1 ?e1) (or_go (t_not (t_val ev_name tr)) or_nil)))) ?k1)
  case h1 => exact t_val (ev_meth PySem.F.plainAttrs_str PySem.F.slot_str_startswith PySem.F.type_str_startswith ev_name typed_str (by repeat' wtm_at "ev1") c_startswith) tr_bool
  case e1 =>
    rw [slash, S_starts]
    simpa using hm
  have hmS : (S m).length ≤ 1000000 := by rw [S_len]; omega
  by_cases hq : l[l.length - 1]? = some 47
  · have hj : joinL l m = l ++ m := by unfold joinL; rw [if_pos hq]
    refine' ex_cons (x1_if_t (tes (Tests.to ?h3 ?e3)) ?k3)
    case h3 => exact t_val (ev_meth PySem.F.plainAttrs_str PySem.F.slot_str_endswith PySem.F.type_str_endswith ev_name typed_str (by repeat' wtm_at "ev1") c_endswith) tr_bool
    case e3 => rw [slash, S_ends _ _ hl, hq]; rfl
    refine ex_cons (x1_augs (c := false) (by wtm_at "lk") (evs ev_name) (asgn_local (by kernel_rfl)) (by rw [S_len, S_len]; omega) ?_)
    refine ex_nil (ex_nil (ex_nil (ex_nil (ex_cons (x1_ret (evs (Evals.to ev_name ?_)) rfl)))))
    rw [S_app, hj]
  · have hj : joinL l m = l ++ 47 :: m := by unfold joinL; rw [if_neg hq]
    refine' ex_cons (x1_if_f (tes (Tests.to ?h4 ?e4)) ?k4)
    case h4 => exact t_val (ev_meth PySem.F.plainAttrs_str PySem.F.slot_str_endswith PySem.F.type_str_endswith ev_name typed_str (by repeat' wtm_at "ev1") c_endswith) tr_bool
    case e4 => rw [slash, S_ends _ _ hl]; simpa using hq
    refine ex_cons (x1_augs (c := false) (by wtm_at "lk") (evs (ev_bin ev_name ev_name (bin_adds ?_))) (asgn_local (by kernel_rfl)) ?_ ?_)
    · rw [slash, S_len, S_len]; simp; omega
    · rw [slash, S_app, S_len, S_len]; simp; omega
    refine ex_nil (ex_nil (ex_nil (ex_nil (ex_cons (x1_ret (evs (Evals.to ev_name ?_)) rfl)))))
    rw [slash, S_app, S_app, hj]; rfl
theorem join_ok {w : World} {k : Nat} {l m : List Nat} (hl : l ≠ []) (hm : m[0]? ≠ some 47) (h1 : l.length ≤ 1000) (h2 : m.length ≤ 1000) : CallOk w (k + 3) (.top 187) [.str (S l), .str (S m)] (.str (S (joinL l m))) :=
  fn_ok (fn_join w) join_binds (nodup_of (by decide +kernel)) (isLC_of (by kernel_rfl)) ((join_body hl hm h1 h2).mono fun _ _ _ h => .inl h)
theorem lkn_put {β : Type} {x y : Str} {q : β} {r : List (Str × β)} (h : (x == y) = false) (t : r.lookup x = none) : (put y q r).lookup x = none := by
  rw [lookup_put, if_neg (by simpa using h)]; exact t
theorem lkn_next {β : Type} {x y : Str} {q : β} {r : List (Str × β)} (h : (x == y) = false) (t : r.lookup x = none) : ((y, q) :: r).lookup x = none := by rw [List.lookup_cons, h]; exact t
theorem lkn_del {β : Type} {x : Str} {r : List (Str × β)} : (del x r).lookup x = none := by rw [lookup_del]; simp
theorem lkn_dels {β : Type} {x y : Str} {r : List (Str × β)} (t : r.lookup x = none) : (del y r).lookup x = none := by rw [lookup_del, t]; simp
theorem lkn_nil {β : Type} {x : Str} : ([] : List (Str × β)).lookup x = none := rfl
noncomputable abbrev Has (ρ : Rho) (x : Str) (v : V) : Prop := ρ.lookup x = some (false, v)
noncomputable abbrev HasO (σ : Sig) (x : Str) (l : List V) : Prop := σ.lookup x = some (false, l)
noncomputable abbrev HasC (ρ : Rho) (x : Str) (v : V) : Prop := ρ.lookup x = some (true, v)
noncomputable abbrev HasN (ρ : Rho) (x : Str) : Prop := ρ.lookup x = none
noncomputable def forB : Stmt → List Stmt | .For _ _ b _ _ => b | _ => []
noncomputable def forT : Stmt → Expr | .For t _ _ _ _ => t | _ => .Name "" ⟨0, 0, 0, 0⟩
theorem ev_neg {w : World} {k : Nat} {gs : List (Str × NameKind)} {ρ : Rho} {x pos a} (hx : Evals w k gs ρ x (.int a)) : Evals w k gs ρ (.UnaryOp .USub x pos) (.int (-a)) := fun env A f s rm ok Q E hQ =>
  wpAny_UnaryOp (hx env A f s rm ok _ _ fun va s₁ f₁ g₁ r₁ => by
    refine ob1_1 (rel_int.mp r₁) fun t z0 => ?_; subst z0
    exact PyProof.Rows.neg_int (hQ _ _ _ (g₁.trans (Grew.same (tk := s₁.toks + 1) (ok.grew g₁).okf.sub fun _ _ e => e)) relI))
theorem c_joinS {w : World} {k : Nat} {c : Nat} {ps : List (List Nat)} (h : (ps.map List.length).sum + ps.length ≤ 1000000) : CallOk w k (.bi "str.join") [.str (S [c]), .lst ((ps.map S).map .str)] (.str (S (gl c ps))) := by
  have e1 : ((ps.map S).map (·.length)).sum = (ps.map List.length).sum := by
    rw [List.map_map]; congr 1
  have hj := PySem.StrLaws.joinTotal (S [c]) (ps.map S)
  have hg := size_glued (S [c]) (ps.map S)
  have := c_join (w := w) (k := k) (sep := S [c]) (ps := ps.map S) (by
    unfold Builtin.Str.tooLong
    rw [decide_eq_false_iff_not, sizeLine_eq]
    have e2 : (ps.map S).toArray.foldl (· + ·.length + (S [c]).length) 0 = (ps.map List.length).sum + ps.length := by
      rw [hj, e1, S_len] <;> simp
    rw [e2]; omega) (by
    rw [hg, e1, S_len]; simp only [List.length_map, List.length_cons, List.length_nil]; omega) (fun p hp => by rw [hp]; rfl)
  rwa [S_glued] at this
theorem fn_normpath (w : World) : FnIs w 208 (namesN 26) (bodyN 26) (fdAt w.params 208) := fnIs 26 (by kernel_rfl) (by decide) (by kernel_rfl) (by kernel_rfl) (by kernel_rfl) (by kernel_rfl) (by kernel_rfl) (by kernel_rfl) (by kernel_rfl) (by kernel_rfl) (by kernel_rfl) (by kernel_rfl)
noncomputable def stepP (os : List (List Nat)) (p : List Nat) : List (List Nat) := if p = [] then os else if p = [46, 46] then os.dropLast else os ++ [p]
noncomputable def OkP : List (List Nat) → List (List Nat) → Prop
  | _, [] => True
  | os, p :: ps => (p = [46, 46] → os ≠ [] ∧ os.getLast? ≠ some [46, 46]) ∧ OkP (stepP os p) ps
structure NInv (ρ : Rho) (σ : Sig) (os : List (List Nat)) : Prop where
  sep : Has ρ "sep" (.str "/")
  dot : Has ρ "dot" (.str ".")
  dotdot : Has ρ "dotdot" (.str "..")
  sl : Has ρ "initial_slashes" (.str "/")
  nc : HasN ρ "new_comps"
  own : HasO σ "new_comps" ((os.map S).map .str)
theorem dot_eq : (Str.ofString ".") = S [46] := by decide +kernel
theorem dotdot_eq : (Str.ofString "..") = S [46, 46] := by decide +kernel
theorem normpath_loop {w : World} {k : Nat} {Φ : Rho → Sig → Fl → Prop} : ∀ (ps : List (List Nat)) (os : List (List Nat)) (ρ : Rho) (σ : Sig), NInv ρ σ os → os.length + ps.length ≤ 1000 → (∀ p ∈ ps, p.length ≤ 1000 ∧ p ≠ [46]) →
    OkP os ps →
    (∀ ρ' σ', NInv ρ' σ' (ps.foldl stepP os) → Φ ρ' σ' .next) →
    Loop w (k + 2) (namesN 26) (forT (stN (bodyN 26) 6)) (forB (stN (bodyN 26) 6)) ((ps.map S).map .str) ρ σ Φ
  | [], os, ρ, σ, I, _, _, _, hΦ => hΦ ρ σ I
  | p :: ps, os, ρ, σ, I, hlen, hp, hdd, hΦ => by
    obtain ⟨i1, i2, i3, i4, i5, i6⟩ := id I
    have hpl := hp p (by simp)
    have hpS : (S p).length ≤ 1000000 := by rw [S_len]; omega
    have go : ∀ ρ' σ', NInv ρ' σ' (stepP os p) → Loop w (k + 2) (namesN 26) (forT (stN (bodyN 26) 6)) (forB (stN (bodyN 26) 6)) ((ps.map S).map .str) ρ' σ' Φ := fun ρ' σ' I' =>
      normpath_loop ps (stepP os p) ρ' σ' I' (by
        have : (stepP os p).length ≤ os.length + 1 := by unfold stepP; split <;> (try split) <;> simp <;> omega
        simp only [List.length_cons] at hlen; omega) (fun q hq => hp q (by simp [hq])) hdd.2 hΦ
    refine ⟨_, _, asg_name (asgn_local (by kernel_rfl)), ?_⟩
    have trp : TruthOk w (k + 2) (.str (S p)) (!p.isEmpty) := by
      have := tr_str (w := w) (k := k + 2) hpS
      have e : (((S p).length : Int) != 0) = !p.isEmpty := by rw [S_len]; cases p <;> simp; omega
      rwa [e] at this
    have trs : TruthOk w (k + 2) (.str "/") true := by
      have := tr_str (w := w) (k := k + 2) (x := "/") (by decide)
      exact this
    by_cases h0 : p = []
    · subst h0
      refine ex_cons (x1_if_t (tes (t_op (or_stop (t_not (t_val ev_name trp))))) (ex_cons (x1_continue ?_)))
      have st : stepP os [] = os := by unfold stepP; rw [if_pos rfl]
      rw [st] at go
      exact go _ _ ⟨by wtm_at "lk", by wtm_at "lk", by wtm_at "lk", by wtm_at "lk", by wtm_at "lkn", by wtm_at "lk"⟩
    · have hpe : (!p.isEmpty) = true := by cases p <;> simp at h0 ⊢
      rw [hpe] at trp
      refine' ex_cons (x1_if_f (tes (t_op (or_go (t_not (t_val ev_name trp)) (or_go (Tests.to ?h1 ?e1) or_nil)))) (ex_nil ?k1))
      case h1 => exact t_cmp ev_name ev_name cmp_eqs
      case e1 => rw [dot_eq, S_beq, beq_eq_false_iff_ne]; exact hpl.2
      by_cases hd : p = [46, 46]
      · subst hd
        have st : stepP os [46, 46] = os.dropLast := by unfold stepP; rw [if_neg (by simp), if_pos rfl]
        rw [st] at go
        refine ob0_2 (hdd.1 rfl) fun q1 q2 => ?_
        have hol : ((os.map S).map V.str).length ≤ 1000000 := by simp only [List.length_map]; simp only [List.length_cons] at hlen; omega
        have tro : TruthOk w (k + 2) (.lst ((os.map S).map .str)) true := by
          have := tr_lst (w := w) (k := k + 2) hol
          have e : ((((os.map S).map V.str).length : Int) != 0) = true := by
            have : 0 < os.length := List.length_pos_iff.mpr q1
            simp only [List.length_map]; simp; exact q1
          rwa [e] at this
        obtain ⟨ds, d, rfl⟩ : ∃ ds d, os = ds ++ [d] := ⟨os.dropLast, os.getLast q1, (List.dropLast_concat_getLast q1).symm⟩
        have hdn : d ≠ [46, 46] := by simpa using q2
        refine' ex_cons (x1_if_f (tes_own (t_op (or_go (Tests.to ?h2 ?e2) (or_go (t_op (and_stop (t_not (t_val ev_name trs)))) (or_go (t_op (and_go (t_val ev_name tro) (and_stop (Tests.to ?h3 ?e3)))) or_nil))))) ?k2)
        case h2 => exact t_cmp ev_name ev_name cmp_nes
        case e2 => rw [dotdot_eq]; unfold bne; rw [S_beq]; rfl
        case h3 => exact t_cmp (ev_sub ev_name (ev_neg ev_int) (it_lst_neg (v := .str (S d)) (by decide) (by simp; omega) (by decide) (by
          simp
          have e : ((-1 : Int) + ((ds.length : Int) + 1)).toNat = ds.length := by omega
          rw [e]; simp))) ev_name cmp_eqs
        case e3 => rw [dotdot_eq, S_beq, beq_eq_false_iff_ne]; exact hdn
        refine ex_cons (x1_if_t (tes_own (t_val ev_name tro)) (ex_cons (x1_pop (c := false) (by wtm_at "lk") (by simp) hol (ex_nil (ex_nil (ex_nil ?_))))))
        exact go _ _ ⟨by wtm_at "lk", by wtm_at "lk", by wtm_at "lk", by wtm_at "lk", by wtm_at "lkn", by
            have e : (((ds ++ [d]).dropLast).map S).map V.str = (((ds ++ [d]).map S).map V.str).dropLast := by simp
            rw [e]; wtm_at "lk"⟩
      · have st : stepP os p = os ++ [p] := by unfold stepP; rw [if_neg h0, if_neg hd]
        rw [st] at go
        refine' ex_cons (x1_if_t (tes (t_op (or_stop (Tests.to ?h5 ?e5)))) ?k5)
        case h5 => exact t_cmp ev_name ev_name cmp_nes
        case e5 => rw [dotdot_eq]; unfold bne; rw [S_beq, Bool.not_eq_true', beq_eq_false_iff_ne]; exact hd
        refine ex_cons (x1_append (c := false) (by wtm_at "lk") (evs ev_name) ?_ (ex_nil (ex_nil ?_)))
        · simp only [List.length_map]; simp only [List.length_cons] at hlen; omega
        · exact go _ _ ⟨by wtm_at "lk", by wtm_at "lk", by wtm_at "lk", by wtm_at "lk", by wtm_at "lkn", by
            have e : ((os ++ [p]).map S).map V.str = (os.map S).map V.str ++ [.str (S p)] := by simp
            rw [e]; wtm_at "lk"⟩
theorem gs_splitroot : GlobIs "splitroot" (.top 194) := glob_top fun P => by kernel_rfl
theorem isFn_splitroot (w : World) : IsFn w 194 := (fn_splitroot w).isFn
noncomputable def upsP (cs : List Nat) (n : Nat) : List (List Nat) := one cs ++ (List.replicate n [46, 46] ++ [[]])
theorem ups_one : ∀ (cs : List Nat) (os : List (List Nat)) (ps : List (List Nat)), (one cs ++ ps).foldl stepP os = ps.foldl stepP (os ++ one cs) ∧ (OkP (os ++ one cs) ps → OkP os (one cs ++ ps))
  | [], os, ps => by simp [one]
  | c :: cs, os, ps => by
    have st : stepP os [c] = os ++ [[c]] := by unfold stepP; rw [if_neg (by simp), if_neg (by simp)]
    refine ob0_2 (ups_one cs (os ++ [[c]]) ps) fun h1 h2 => ?_
    have e : one (c :: cs) = [c] :: one cs := rfl
    rw [e, List.cons_append, List.foldl_cons, st]
    have e2 : os ++ [c] :: one cs = os ++ [[c]] ++ one cs := by simp
    rw [e2]
    refine ⟨h1, fun h => ⟨fun q => by simp at q, ?_⟩⟩
    rw [st]; exact h2 h
theorem ups_up : ∀ (n : Nat) (cs : List Nat), n ≤ cs.length → (List.replicate n [46, 46] ++ [[]]).foldl stepP (one cs) = one (cs.take (cs.length - n)) ∧ OkP (one cs) (List.replicate n [46, 46] ++ [[]])
  | 0, cs, _ => by simp [stepP, OkP]
  | n + 1, cs, h => by
    have hne : cs ≠ [] := by intro e; rw [e] at h; simp at h
    obtain ⟨ds, d, rfl⟩ : ∃ ds d, cs = ds ++ [d] := ⟨cs.dropLast, cs.getLast hne, (List.dropLast_concat_getLast hne).symm⟩
    have st : stepP (one (ds ++ [d])) [46, 46] = one ds := by
      unfold stepP; rw [if_neg (by simp), if_pos rfl]; simp [one]
    refine ob0_2 (ups_up n ds (by simp at h; omega)) fun h1 h2 => ?_
    rw [List.replicate_succ, List.cons_append, List.foldl_cons, st, h1]
    refine ⟨?_, ⟨fun _ => ⟨by simp [one], by simp [one]⟩, ?_⟩⟩
    · have e : (ds ++ [d]).length - (n + 1) = ds.length - n := by simp
      rw [e, List.take_append_of_le_length (by omega)]
    · rw [st]; exact h2
theorem ups_all {cs : List Nat} {n : Nat} (h : n ≤ cs.length) : (upsP cs n).foldl stepP [] = one (cs.take (cs.length - n)) ∧ OkP [] (upsP cs n) := by
  refine ob0_2 (ups_one cs [] (List.replicate n [46, 46] ++ [[]])) fun h1 h2 => ?_
  refine ob0_2 (ups_up n cs h) fun h3 h4 => ?_
  unfold upsP
  rw [h1]
  simp only [List.nil_append] at h2 ⊢
  exact ⟨h3, h2 h4⟩
theorem ups_mem {cs : List Nat} {n : Nat} (hp : Plain cs) : ∀ p ∈ upsP cs n, 47 ∉ p ∧ p.length ≤ 1000 ∧ p ≠ [46] := by
  intro p h
  unfold upsP at h
  rw [List.mem_append, List.mem_append] at h
  rcases h with h | h | h
  · refine ob1_2 (List.mem_map.mp h) fun c hc z0 => ?_; subst z0
    refine ob0_2 (hp c hc) fun h1 h2 => ?_
    refine ⟨by simp; omega, by simp, by simp; exact h2⟩
  · obtain rfl := List.eq_of_mem_replicate h
    exact ⟨by decide, by simp, by decide⟩
  · have : p = [] := by simpa using h
    subst this; exact ⟨by simp, by simp, by simp⟩
theorem gl_le (c : Nat) : ∀ ps : List (List Nat), (gl c ps).length ≤ (ps.map List.length).sum + ps.length
  | [] => by simp [gl]
  | [p] => by simp [gl]
  | p :: q :: r => by
    have := gl_le c (q :: r)
    rw [gl_cons, List.length_append, List.length_cons]
    simp only [List.map_cons, List.sum_cons, List.length_cons] at this ⊢
    omega
theorem one_sum (cs : List Nat) : ((one cs).map List.length).sum = cs.length := by
  induction cs with
  | nil => rfl
  | cons c cs ih =>
    have e : one (c :: cs) = [c] :: one cs := rfl
    rw [e]; simp [ih]; omega
theorem one_len (cs : List Nat) : (one cs).length = cs.length := by simp [one]
theorem ups_len (cs : List Nat) (n : Nat) : (upsP cs n).length = cs.length + n + 1 := by simp [upsP, one]; omega
theorem ups_sum (cs : List Nat) (n : Nat) : ((upsP cs n).map List.length).sum = cs.length + 2 * n := by
  unfold upsP
  rw [List.map_append, List.sum_append, one_sum]
  simp
  omega
noncomputable def nsOf (l : List Expr) : List (Str × Pos) := l.filterMap fun e => match e with | .Name n p => some (n, p) | _ => none
theorem x1_unpack' {w : World} {k : Nat} {nm : List (Str × NameKind)} {ρ : Rho} {σ : Sig} {Φ : Rho → Sig → Fl → Prop} {elts : List Expr} {kk tpos e pos} {l : List V} {ρ' σ'} (he : EvS w k nm ρ σ e (.tup l)) (ha : AsgL w nm ((nsOf elts).map (·.1)) l ρ σ ρ' σ') (h : Φ ρ' σ' .next) (hel : tgts (nsOf elts) = elts := by rfl)
    (hlen : (nsOf elts).length = l.length := by rfl)
    (hs : ∀ env, swapsWithSole [.Tuple elts kk tpos] e pos.line env = pure false := by intro _; rfl) (hw : ∀ env, env.scope.names = nm → env.scope.kind = .function → swappedStores [.Tuple elts kk tpos] e env = pure none := by intros; rfl) :
    Ex1 w k nm ρ σ (.Assign [.Tuple elts kk tpos] e pos) Φ := by
  rw [← hel] at hs hw ⊢
  exact x1_unpack he ha hlen h hs hw
theorem asg_tup' {w : World} {nm : List (Str × NameKind)} {ρ : Rho} {σ : Sig} {elts : List Expr} {kk pos} {l : List V} {ρ' σ'} (h : AsgL w nm ((nsOf elts).map (·.1)) l ρ σ ρ' σ') (hel : tgts (nsOf elts) = elts := by rfl) (hlen : (nsOf elts).length = l.length := by rfl) : Asg w nm (.Tuple elts kk pos) (.tup l) ρ σ ρ' σ' := by
  rw [← hel]
  exact asg_tup h hlen
theorem normpath_body {w : World} {k : Nat} {c : Nat} {cs : List Nat} {n : Nat} (hp : Plain (c :: cs)) (hl : (c :: cs).length ≤ 100) (hn : n ≤ (c :: cs).length) :
    Ex w (k + 3) (namesN 26) [("path", false, .str (S (47 :: gl 47 (upsP (c :: cs) n))))] [] (bodyN 26) fun _ _ fl => fl = .ret (.str (dirS ((c :: cs).take ((c :: cs).length - n)))) := by
  have hgl := gl_le 47 (upsP (c :: cs) n)
  rw [ups_sum, ups_len] at hgl
  obtain ⟨r, hr⟩ : ∃ r, gl 47 (upsP (c :: cs) n) = c :: r := by
    refine ob2_1 (List.exists_cons_of_ne_nil (show one cs ++ (List.replicate n [46, 46] ++ [[]]) ≠ [] by simp)) fun q qs hq => ?_
    have e : upsP (c :: cs) n = [c] :: q :: qs := by
      show [c] :: (one cs ++ (List.replicate n [46, 46] ++ [[]])) = _
      rw [hq]
    rw [e, gl_cons]; exact ⟨_, rfl⟩
  have hmem := ups_mem (n := n) hp
  refine ob0_2 (ups_all hn) fun f1 f2 => ?_
  have h2 : 2 ≤ (upsP (c :: cs) n).length := by rw [ups_len]; simp; omega
  have hrl : r.length ≤ 1000 := by
    have := congrArg List.length hr
    simp only [List.length_cons] at this hgl hl hn
    omega
  have hc : c ≠ 47 := (hp c (by simp)).1
  refine ob0_4 (split_facts (c := 47) (ps := upsP (c :: cs) n) (by decide) h2 (fun p h => (hmem p h).1)) fun s1 s2 s3 s4 => ?_
  rw [hr] at s1 s3 s4 ⊢
  have tr : TruthOk w (k + 3) (.str (S (47 :: c :: r))) true := by
    have := tr_str (w := w) (k := k + 3) (x := S (47 :: c :: r)) (by rw [S_len]; simp; omega)
    have e : (((S (47 :: c :: r)).length : Int) != 0) = true := by rw [S_len]; simp; omega
    rwa [e] at this
  refine ex_cons (x1_set (evs (ev_call (ev_glob (by kernel_rfl) g_fspath) (.top _ (isFn_fspath w)) (by repeat' wtm_at "ev1") fspath_ok)) (asgn_local (by kernel_rfl)) ?_)
  refine ex_cons (x1_if_f (tes (t_val (ev_call (ev_glob (by kernel_rfl) g_isinstance) (.bi _) (by repeat' wtm_at "ev1") c_isb) tr_bool)) ?_)
  refine ex_cons (x1_set (evs (by repeat' wtm_at "ev1")) (asgn_local (by kernel_rfl)) ?_)
  refine ex_cons (x1_set (evs (by repeat' wtm_at "ev1")) (asgn_local (by kernel_rfl)) ?_)
  refine ex_cons (x1_set (evs (by repeat' wtm_at "ev1")) (asgn_local (by kernel_rfl)) ?_)
  refine ex_nil ?_
  refine ex_cons (x1_if_f (tes (t_not (t_val ev_name tr))) (ex_nil ?_))
  refine ex_cons (x1_unpack' (evs (ev_call (ev_glob (by kernel_rfl) gs_splitroot) (.top _ (isFn_splitroot w)) (by repeat' wtm_at "ev1") (splitroot_ok hc hrl)))
    (.cons _ _ _ _ _ _ _ _ _ _ (asgn_local (by kernel_rfl)) (.cons _ _ _ _ _ _ _ _ _ _ (asgn_local (by kernel_rfl)) (.cons _ _ _ _ _ _ _ _ _ _ (asgn_local (by kernel_rfl)) (.nil _ _)))) ?_)
  refine ex_cons (x1_set (evs (ev_meth PySem.F.plainAttrs_str PySem.F.slot_str_split PySem.F.type_str_split ev_name typed_str (by repeat' wtm_at "ev1")
    (c_split (ps := (upsP (c :: cs) n).map S) (by rw [slash]; exact s1) (by rw [slash]; exact s2) (by rw [slash]; exact s3) (by rw [S_len]; simp; omega) (by rw [List.length_map, ups_len]; omega) (by rw [slash]; exact s4)))) (asgn_local (by kernel_rfl)) ?_)
  refine ex_cons (x1_own (c := false) (by kernel_rfl) ?_)
  refine ex_cons (x1_for (evs ev_name) iter_lst ?_)
  refine normpath_loop _ [] _ _ ⟨by wtm_at "lk", by wtm_at "lk", by wtm_at "lk", by wtm_at "lk", by wtm_at "lkn", by simp only [List.map_nil]; wtm_at "lk"⟩ (by rw [ups_len]; simp only [List.length_nil]; omega) (fun p h => (hmem p h).2) f2 fun ρ' σ' I => ?_
  rw [f1] at I
  obtain ⟨i1, i2, i3, i4, i5, i6⟩ := I
  generalize hds : (c :: cs).take ((c :: cs).length - n) = ds at i6 ⊢
  have hdl : ds.length ≤ 100 := by rw [← hds]; simp only [List.length_take]; omega
  refine Ex.freeze i6 ?_
  refine ex_cons (x1_set (evs ev_name) (asgn_local (by kernel_rfl)) ?_)
  have hj : S [47] ++ S (gl 47 (one ds)) = dirS ds := by
    rw [S_app]
    cases ds with
    | nil => rfl
    | cons d ds => rfl
  have hjl : (dirS ds).length ≤ 1000 := Nat.le_trans (dirS_len ds) (by omega)
  refine ex_cons (x1_set (v := .str (dirS ds)) (evs (Evals.to (ev_bin ev_name (ev_meth PySem.F.plainAttrs_str PySem.F.slot_str_join PySem.F.type_str_join ev_name typed_str (evl_cons ev_name evl_nil)
    (by rw [slash]; exact c_joinS (c := 47) (ps := one ds) (by rw [one_sum, one_len]; omega))) (bin_adds (by
      have := gl_le 47 (one ds)
      rw [one_sum, one_len] at this
      rw [slash, S_len, S_len]; simp; omega))) (by rw [slash, hj]))) (asgn_local (by kernel_rfl)) ?_)
  have trd : TruthOk w (k + 3) (.str (dirS ds)) true := by
    have := tr_str (w := w) (k := k + 3) (x := dirS ds) (by omega)
    have e : (((dirS ds).length : Int) != 0) = true := by
      have : 1 ≤ (dirS ds).length := by unfold dirS; rw [S_len, dirL_len]; split <;> (try omega); rename_i h; have := List.length_pos_iff.mpr h; omega
      simp; omega
    rwa [e] at this
  exact ex_cons (x1_ret (evs (ev_or_stop ev_name trd)) rfl)
theorem normpath_ok {w : World} {k : Nat} {c : Nat} {cs : List Nat} {n : Nat} (hp : Plain (c :: cs)) (hl : (c :: cs).length ≤ 100) (hn : n ≤ (c :: cs).length) :
    CallOk w (k + 4) (.top 208) [.str (S (47 :: gl 47 (upsP (c :: cs) n)))] (.str (dirS ((c :: cs).take ((c :: cs).length - n)))) :=
  fn_ok (fn_normpath w) (binds1 fun v => by kernel_rfl) (nodup_of (by decide +kernel)) (isLC_of (by kernel_rfl)) ((normpath_body hp hl hn).mono fun _ _ _ h => .inl h)
theorem mp_next_slot : Slot "map" "__next__" "map.__next__" :=
  .of (owner := "map") (n := "__next__") (by rw [typeLookup_type, builtinLookup_eq_fast]; kernel_rfl) (by decide +kernel) (by decide +kernel) (by decide +kernel)
    (by first | exact .inl (by decide +kernel) | exact .inr (by decide +kernel)) (by rw [isSubtype_type]; kernel_rfl)
theorem mp_iter_slot : Slot "map" "__iter__" "map.__iter__" :=
  .of (owner := "map") (n := "__iter__") (by rw [typeLookup_type, builtinLookup_eq_fast]; kernel_rfl) (by decide +kernel) (by decide +kernel) (by decide +kernel)
    (by first | exact .inl (by decide +kernel) | exact .inr (by decide +kernel)) (by rw [isSubtype_type]; kernel_rfl)
theorem mp_init_slot : Slot "map" "__init__" "object.__init__" :=
  .of (owner := "object") (n := "__init__") (by rw [typeLookup_type, builtinLookup_eq_fast]; kernel_rfl) (by decide +kernel) (by decide +kernel) (by decide +kernel)
    (by first | exact .inl (by decide +kernel) | exact .inr (by decide +kernel)) (by rw [isSubtype_type]; kernel_rfl)
theorem mp_next_entry : entryFor table "map.__next__" = some Builtin.«map.__next__» := entryFor_of_tree (by kernel_rfl)
theorem mp_new_entry : entryFor table "map.__new__" = some Builtin.«map.__new__» := entryFor_of_tree (by kernel_rfl)
theorem mp_iter_entry : entryFor table "map.__iter__" = some Builtin.«dict_keyiterator.__iter__» := entryFor_alias (id' := "dict_keyiterator.__iter__") (by kernel_rfl) rfl (by decide +kernel) (by kernel_rfl)
theorem mp_next_args (a : Value) : argsOk "map.__next__" ⟨[a], []⟩ := by unfold argsOk; kernel_rfl
theorem mp_iter_args (a : Value) : argsOk "map.__iter__" ⟨[a], []⟩ := by unfold argsOk; kernel_rfl
theorem mp_mro : mroOf (.type "map") = pure [.type "map", .type "object"] := by rw [mroOf_type]; kernel_rfl
theorem mp_new_lookup : typeLookup (.type "map") "__new__" = pure (some (.builtin "map.__new__")) := by rw [typeLookup_type, builtinLookup_eq_fast]; kernel_rfl
theorem mp_sub : isSubtype (.type "map") (.type "map") = pure true := by rw [isSubtype_type]; kernel_rfl
theorem mp_called : TypeCalled "map" "map.__new__" "object.__init__" :=
  ⟨by decide +kernel, by decide +kernel, ⟨_, _, mp_mro⟩, madeBy_type mp_mro mp_new_lookup (by decide +kernel), by decide +kernel, mp_sub, mp_init_slot⟩
theorem mp_tcall (a b : Value) : checkTypeCall "map" ⟨[a, b], []⟩ = pure () := by kernel_rfl
theorem mp_ncall (a b : Value) : checkBuiltinCall "map.__new__" ⟨[.type "map", a, b], []⟩ = pure () := by kernel_rfl
theorem mp_iargs (o a b : Value) : argsOk "object.__init__" ⟨[o, a, b], []⟩ := by unfold argsOk; kernel_rfl
theorem mp_nolen : typeLookup (.type "map") "__len__" = pure none := by rw [typeLookup_type, builtinLookup_eq_fast]; kernel_rfl
theorem mp_nohint : typeLookup (.type "map") "__length_hint__" = pure none := by rw [typeLookup_type, builtinLookup_eq_fast]; kernel_rfl
section
variable {w : World} {A : Around} {E : Value → Shared → Prop} {s : Shared}
theorem nx_item {it l : Addr} {i : Nat} {items : Array Value} {x : Value} {Q : Value → Shared → Prop} (hit : s.heap.IsListIter it l i) (hl : s.heap.IsList l items) (hx : items[i]? = some x)
    (hQ : ∀ h', h'.IsListIter it l (i + 1) → Heap.SameBut it s.heap h' → Q x { s with heap := h' }) : wpAny (model prg w) A (Builtin.SmallTypes.nextOf (.ref it)) Q E s := by
  obtain ⟨o, ho, hc, hd⟩ := id hit
  obtain ⟨ol, hol, _, nl, hdl⟩ := hl
  unfold Builtin.SmallTypes.nextOf
  refine wpAny_bind (wpAny_callSpecial?_slot (name := Str.ofString "__next__") hit.typeIs slot_listiter_next (wpAny_call_entry slot_listiter_next hit.typeIs entry_listiter_next ?_ (args_listiter_next _)))
  show wpAny _ _ (field (.ref it) 0 >>= _) _ _ s
  refine wpAny_bind (wpAny_field ho hd (x := .ref l) rfl ?_)
  show wpAny _ _ (if (Value.ref l == Value.none) = true then _ else _) _ _ s
  rw [if_neg (show ¬ ((Value.ref l == Value.none) = true) from Bool.false_ne_true)]
  show wpAny _ _ (field (.ref it) 1 >>= _) _ _ s
  refine wpAny_bind (wpAny_field ho hd (x := .int i 0) rfl ?_)
  show wpAny _ _ (seqItems? (.ref l) >>= _) _ _ s
  refine wpAny_bind (wpAny_seqItems hol hdl ?_)
  simp only [Int.toNat_natCast, hx]
  refine wpAny_bind (wpAny_setField ho hd (by simp) (wpAny_pure ⟨_, rfl, wpAny_pure (hQ _ ?_ (Heap.SameBut.update ..))⟩))
  exact ⟨_, Heap.get?_update_self _ ho (Obj.isFreed_of_fields (Obj.data_mapFields hd _)), (Obj.cls_mapFields ..).trans hc, by rw [Obj.data_mapFields hd]; simp [rawInt]⟩
theorem nx_end {it l : Addr} {i : Nat} {items : Array Value} {Q : Value → Shared → Prop} (hh : A.handled = none) (hit : s.heap.IsListIter it l i) (hl : s.heap.IsList l items) (hx : items[i]? = none)
    (hE : ∀ h' e, Heap.ExtBut it s.heap h' → (∃ o, h'.get? e = some o ∧ o.cls = .type "StopIteration") → E (.ref e) { s with heap := h' }) : wpAny (model prg w) A (Builtin.SmallTypes.nextOf (.ref it)) Q E s := by
  obtain ⟨o, ho, hc, hd⟩ := id hit
  obtain ⟨ol, hol, _, nl, hdl⟩ := hl
  unfold Builtin.SmallTypes.nextOf
  refine wpAny_bind (wpAny_callSpecial?_slot (name := Str.ofString "__next__") hit.typeIs slot_listiter_next (wpAny_call_entry slot_listiter_next hit.typeIs entry_listiter_next ?_ (args_listiter_next _)))
  show wpAny _ _ (field (.ref it) 0 >>= _) _ _ s
  refine wpAny_bind (wpAny_field ho hd (x := .ref l) rfl ?_)
  show wpAny _ _ (if (Value.ref l == Value.none) = true then _ else _) _ _ s
  rw [if_neg (show ¬ ((Value.ref l == Value.none) = true) from Bool.false_ne_true)]
  show wpAny _ _ (field (.ref it) 1 >>= _) _ _ s
  refine wpAny_bind (wpAny_field ho hd (x := .int i 0) rfl ?_)
  show wpAny _ _ (seqItems? (.ref l) >>= _) _ _ s
  refine wpAny_bind (wpAny_seqItems hol hdl ?_)
  simp only [Int.toNat_natCast, hx]
  refine wpAny_bind (wpAny_rule (wpAny_bind (wpAny_setField ho hd (by simp) ?_)))
  show wpAny _ _ (newExc (.type "StopIteration") [] >>= _) _ _ _
  refine wpAny_bind ?_
  simp only [newExc, newTuple]
  refine wpAny_bind (wpAny_newObj_type ?_ (by size_fits))
  refine wpAny_bind (m := firstArgMember _ _) (wpAny_of_eq (a := Value.none) (by first | rfl | (simp only [firstArgMember]; rfl)) ?_)
  refine wpAny_newObj_type ?_ (by size_fits)
  simp only [raiseNew]
  refine wpAny_bind (wpAny_handled ?_)
  rw [show A.in1.handled = none from hh]
  exact wpAny_bind (wpAny_pure (wpAny_throw (hE _ _ (((Heap.SameBut.update ..).extBut.push _).push _) ⟨_, Heap.get?_push_size _ rfl, rfl⟩)))
structure MapAt (h : Heap) (I tp it l fa : Addr) (i : Nat) (items : Array Value) : Prop where
  map : h.get? I = some { cls := .type "map", data := .fields #[.ref tp, .ref fa] }
  tup : h.get? tp = some (tupO [.ref it])
  iter : h.IsListIter it l i
  lst : h.IsList l items
theorem mp_next {I tp it l fa : Addr} {i : Nat} {items : Array Value} {Q : Option Value → Shared → Prop} (hM : MapAt s.heap I tp it l fa i items) {x : Value} (hx : items[i]? = some x) (hh : A.handled = none)
    (hcall : ∀ h', h'.IsListIter it l (i + 1) → Heap.SameBut it s.heap h' → wpAny (model prg w) A.in1 (call (.ref fa) [x]) (fun y s' => (∃ X t, y = .str X t) ∧ Q (some y) s') (fun _ _ => False) { s with heap := h' }) :
    wpAny (model prg w) A (pyNext (.ref I)) Q E s := by
  have hT : s.TypeIs (.ref I) "map" := ⟨_, hM.map, rfl⟩
  unfold pyNext
  refine wpAny_bind (wpAny_attempt (wpAny_callSpecial?_slot (name := Str.ofString "__next__") hT mp_next_slot (wpAny_call_entry mp_next_slot hT mp_next_entry ?_ (mp_next_args _))))
  unfold Builtin.«map.__next__»
  show wpAny _ _ (field (.ref I) 0 >>= _) _ _ s
  refine wpAny_bind (wpAny_field hM.map rfl (x := .ref tp) rfl ?_)
  show wpAny _ _ (seqItems? (.ref tp) >>= _) _ _ s
  refine wpAny_bind (wpAny_seqItems hM.tup rfl ?_)
  show wpAny _ _ (forIn (#[Value.ref it] : Array Value) (#[] : Array Value) _ >>= _) _ _ s
  rw [← Array.forIn_toList]
  show wpAny _ _ (forIn [Value.ref it] (#[] : Array Value) _ >>= _) _ _ s
  rw [List.forIn_cons]
  refine wpAny_bind (wpAny_bind (wpAny_bind (wpAny_holding (nx_item hM.iter hM.lst hx fun h' hit' hs' => wpAny_pure ?_))))
  show wpAny _ _ (forIn ([] : List Value) _ _) _ _ _
  rw [List.forIn_nil]
  refine wpAny_pure ?_
  have hIit : I ≠ it := fun q => by
    obtain ⟨o, ho, hc, _⟩ := hM.iter
    rw [← q, hM.map] at ho; cases ho; simp at hc
  refine wpAny_bind (wpAny_field (hs'.extBut _ _ hIit hM.map) rfl (x := .ref fa) rfl ?_)
  refine wpAny_bind (wpAny_holding (wpAny_mono (hcall h' hit' hs') (fun y s' hy => ?_) fun _ _ q => q.elim))
  exact wpAny_bind (wpAny_letGo (wpAny_pure ⟨_, rfl, wpAny_pure hy.2⟩))
theorem mp_done {I tp it l fa : Addr} {i : Nat} {items : Array Value} {Q : Option Value → Shared → Prop} (hM : MapAt s.heap I tp it l fa i items) (hx : items[i]? = none) (hh : A.handled = none)
    (hQ : ∀ h', Heap.ExtBut it s.heap h' → Q none { s with heap := h' }) : wpAny (model prg w) A (pyNext (.ref I)) Q E s := by
  have hT : s.TypeIs (.ref I) "map" := ⟨_, hM.map, rfl⟩
  unfold pyNext
  refine wpAny_bind (wpAny_attempt (wpAny_callSpecial?_slot (name := Str.ofString "__next__") hT mp_next_slot (wpAny_call_entry mp_next_slot hT mp_next_entry ?_ (mp_next_args _))))
  unfold Builtin.«map.__next__»
  show wpAny _ _ (field (.ref I) 0 >>= _) _ _ s
  refine wpAny_bind (wpAny_field hM.map rfl (x := .ref tp) rfl ?_)
  show wpAny _ _ (seqItems? (.ref tp) >>= _) _ _ s
  refine wpAny_bind (wpAny_seqItems hM.tup rfl ?_)
  show wpAny _ _ (forIn (#[Value.ref it] : Array Value) (#[] : Array Value) _ >>= _) _ _ s
  rw [← Array.forIn_toList]
  show wpAny _ _ (forIn [Value.ref it] (#[] : Array Value) _ >>= _) _ _ s
  rw [List.forIn_cons]
  refine wpAny_bind (wpAny_bind (wpAny_bind (wpAny_holding (nx_end (A := A.in1) hh hM.iter hM.lst hx fun h' e he ⟨o, ho, hc⟩ => ?_))))
  exact wpAny_bind (wpAny_isInstance (T := "StopIteration") (b := true) ⟨o, ho, hc⟩ isSubtype_stop (wpAny_pure (hQ h' he)))
theorem mp_walks {k : Nat} {f : Fz} {xs : List Str} {vs : List Value} {I tp it l N : Addr} (hcall : ∀ w X, CallOk w k (.top 166) [.str X] (.str X)) (rm : Room (k + 1) A) (hf : ∀ a o, f a = some o → a < N) (htop : TopF w f) (hTN : tabA < N) (hTi : tabA ≠ it)
    (hb : I < N ∧ tp < N ∧ it < N ∧ l < N) (hfi : f it = none) (hr : RelL f (xs.map .str) vs) :
    Walks prg w.toWorld A I (List.range N) [it] vs.length (fun i v => ∃ X t, xs[i]? = some X ∧ v = .str X t) (fun i h => MapAt h I tp it l 166 i vs.toArray ∧ (∀ a o, f a = some o → h.get? a = some o) ∧ ∃ o, h.get? tabA = some o) where
  sub := fun b hb' => by
    obtain rfl : b = it := by simpa using hb'
    exact List.mem_range.mpr hb.2.2.1
  frame := fun i h h' ⟨st, sf, sT⟩ hk => by
    have kp : ∀ b o, b < N → h.get? b = some o → h'.get? b = some o := fun b o hb' e => hk b (List.mem_range.mpr hb') o e
    refine ⟨⟨kp _ _ hb.1 st.map, kp _ _ hb.2.1 st.tup, st.iter.at fun o e => kp _ o hb.2.2.1 e, st.lst.at fun o e => kp _ o hb.2.2.2 e⟩, fun a o e => kp a o (hf a o e) (sf a o e), let ⟨o, e⟩ := sT; ⟨o, kp _ _ hTN e⟩⟩
  item := fun i s Q E hi st hQ => by
    refine ob0_3 st fun st sf z0 => ?_; obtain ⟨oT, sT⟩ := z0
    have hx : vs.toArray[i]? = some vs[i] := by simp [hi]
    obtain ⟨X, hX⟩ : ∃ X, xs[i]? = some X := by
      have := hr.length
      simp only [List.length_map] at this
      exact ⟨xs[i]'(by omega), List.getElem?_eq_getElem (by omega)⟩
    refine ob1_2 (hr.get (i := i) (x := .str X) (by simp [hX])) fun y hy ry => ?_
    refine ob1_1 (rel_str.mp ry) fun t z0 => ?_; subst z0
    have hyv : vs[i] = .str X t := by
      have : vs[i]? = some vs[i] := List.getElem?_eq_getElem hi
      rw [hy] at this; exact (Option.some.inj this).symm
    refine mp_next st hx rm.handled fun h' hit' hs' => ?_
    have kp : ∀ b o, b ≠ it → s.heap.get? b = some o → h'.get? b = some o := fun b o hb' e => hs'.extBut b o hb' e
    have okS : ∀ a o, f a = some o → h'.get? a = some o := fun a o e => kp a o (fun q => by rw [q, hfi] at e; cases e) (sf a o e)
    have htab : h'.get? tabA = some oT := kp _ _ hTi sT
    have okA : Okf { w with free := false } (fun a => h'.get? a) { s with heap := h' } := ⟨fun a o e => e, fun a o e n => okS a o (htop a o e n), (fun hn => by
      have hn' : h'.get? tabA = none := hn
      rw [htab] at hn'; cases hn'), (fun h => by cases h)⟩
    refine hcall { w with free := false } X A.in1 (fun a => h'.get? a) _ (.ref 166) [vs[i]] rm.in1 okA (rel_top.mpr rfl) (RelL.cons (by rw [hyv]; exact relS) RelL.nil) _ _ fun val s' f' g r => ?_
    refine ob1_1 (rel_str.mp r) fun t' z0 => ?_; subst z0
    obtain ⟨h2, tk, rfl, _⟩ := g.keeps
    have kk : ∀ b o, h'.get? b = some o → h2.get? b = some o := fun b o e => g.sub b o (g.le b o e)
    have nI : ∀ b, (∃ o, s.heap.get? b = some o ∧ o.cls ≠ .type "list_iterator") → b ≠ it := fun b ⟨o, ho, hc⟩ q => by
      obtain ⟨o', ho', hc', _⟩ := st.iter
      rw [q] at ho; rw [ho] at ho'; cases ho'; exact hc hc'
    refine ⟨⟨X, t', rfl⟩, hQ _ h2 tk ⟨X, t', hX, rfl⟩ ⟨⟨?_, ?_, hit'.at fun o e => kk _ o e, ?_⟩, fun a o e => kk a o (okS a o e), _, kk _ _ htab⟩ fun b o hb' e => kk b o (kp b o (by simpa using hb') e)⟩
    · exact kk _ _ (kp _ _ (nI _ ⟨_, st.map, by simp⟩) st.map)
    · exact kk _ _ (kp _ _ (nI _ ⟨_, st.tup, by simp [tupO]⟩) st.tup)
    · refine st.lst.at fun o e => kk _ o (kp _ o (nI _ ?_) e)
      obtain ⟨o', ho', hc', _⟩ := st.lst
      exact ⟨o', ho', by rw [hc']; simp⟩
  done := fun s Q E st hQ => by
    refine mp_done st.1 (by simp) rm.handled fun h' he => hQ h' s.toks fun b o hb' e => he b o (by simpa using hb') e
  self := fun i s Q E st hQ => by
    have hT : s.TypeIs (.ref I) "map" := ⟨_, st.1.map, rfl⟩
    refine wpAny_pyIter_slot hT mp_iter_slot (wpAny_call_entry mp_iter_slot hT mp_iter_entry ?_ (mp_iter_args _))
    show wpAny _ _ (ret (.ref I)) _ _ s
    exact wpAny_pure ⟨_, rfl, "map", _, hT, mp_next_slot.lookup, hQ⟩
end
section
variable {w : World} {A : Around} {E : Value → Shared → Prop} {s : Shared} {I : Addr} {fp wr : List Addr} {G : Array GenState → Array GenState → Prop} {n : Nat} {P : Nat → Value → Prop} {Sti : Nat → Shared → Prop}
theorem mp_collect {Q : List Value → Shared → Prop} (W : WalksS prg w.toWorld A.in1 I fp wr G n P Sti) (hT : ∀ i s, Sti i s → s.TypeIs (.ref I) "map") (hst : Sti 0 s) (hfp : ∀ b ∈ fp, b < s.heap.objs.size) (hI : I ∈ fp) (hn : n ≤ sizeLine)
    (hQ : ∀ s' acc, Moved wr G s s' → ItemsOf P acc n → Q acc.toList s') : wpAny (model prg w) A (collect (.ref I)) Q E s := by
  have new : s.heap.objs.size ∉ fp := fun hm => Nat.lt_irrefl _ (hfp _ hm)
  have ne : s.heap.objs.size ≠ I := fun e => new (e ▸ hI)
  unfold collect
  refine wpAny_bind (wpAny_runValue (codeAny_builtin F.entry_proto_collect ?_))
  rw [Around.under_plainId F.plain_proto_collect _]
  show wpAny _ A.in1 (newList [] >>= fun l => again (.builtin "list.__iadd__" ⟨[l, .ref I], []⟩)) _ _ s
  refine wpAny_bind (wpAny_newObj_type (wpAny_pure ⟨plainId_quiet F.plain_list_iadd _, codeAny_builtin F.entry_list_iadd ?_⟩))
  rw [Around.under_plainId F.plain_list_iadd _]
  generalize hL : s.heap.objs.size = L at *
  have hl0 : (s.heap.push (lstO [] 0)).get? L = some (lstO [] 0) := by rw [← hL]; exact Heap.get?_push_size _ rfl
  have st1 := W.frame 0 s (s.heap.push (lstO [] 0)) s.toks hst (Nat.le_refl _) fun b _ o e => Heap.get?_push_of_some _ e
  show wpAny _ A.in1 (Builtin.List.listExtendWith (.ref L) (.ref I) (.ref L)) _ _ _
  unfold Builtin.List.listExtendWith
  refine wpAny_bind (wpAny_typeOf (hT 0 _ st1) ?_)
  have same : Builtin.List.listSameRef (.ref L) (.ref I) = false := by simp [Builtin.List.listSameRef, ne]
  rw [same]
  rw [if_neg (by decide)]
  refine wpAny_bind (W.self 0 _ _ _ st1 (wpAny_bind (wpAny_holding ?_)))
  unfold Builtin.List.listLengthHint
  refine wpAny_bind (wpAny_specialOf (hT 0 _ st1) mp_nolen ?_)
  show wpAny _ A.in1 (specialOf (Value.ref I) (Str.ofString "__length_hint__") >>= _) _ _ _
  refine wpAny_bind (wpAny_specialOf (hT 0 _ st1) mp_nohint (wpAny_pure ?_))
  show wpAny _ A.in1 (rule "list.extend.makes-room" >>= fun _ => Builtin.List.listTouch (.ref L) >>= fun _ => again (.builtin "list.extend.loop" ⟨[.ref L, .ref I, .ref L], []⟩)) _ _ _
  refine wpAny_bind (wpAny_rule (wpAny_bind ?_))
  show wpAny _ A.in1 (updateSeq L (·.push .none) >>= fun _ => updateSeq L (·.pop)) _ _ _
  refine wpAny_bind (wpAny_updateSeq hl0 rfl ?_)
  have hl1 := Heap.get?_update_self (Obj.mapSeq (·.push Value.none)) hl0 rfl
  refine wpAny_updateSeq hl1 rfl ?_
  have hl2 := Heap.get?_update_self (Obj.mapSeq (·.pop)) hl1 rfl
  have oth : ∀ b o, b ≠ L → (s.heap.push (lstO [] 0)).get? b = some o → (((s.heap.push (lstO [] 0)).update L (Obj.mapSeq (·.push Value.none))).update L (Obj.mapSeq (·.pop))).get? b = some o :=
    fun b o hb e => (Heap.get?_update_other _ _ (Ne.symm hb)).trans ((Heap.get?_update_other _ _ (Ne.symm hb)).trans e)
  have st2 := W.frame 0 _ _ s.toks st1 (Nat.le_refl _) fun b hb o e => oth b o (fun h => new (h ▸ hb)) e
  refine wpAny_pure ⟨plainId_quiet F.plain_extend_loop _, codeAny_extend_loopS W hn L new _ n 0 _ _ _ rfl (Nat.zero_le _) st2 hl2 (ItemsOf.nil P) fun s' acc' c' hm hS' hacc => ?_⟩
  show wpAny _ A (load L >>= _) _ _ s'
  refine wpAny_bind (wpAny_load hS' (wpAny_pure (hQ s' acc' ?_ hacc)))
  refine ⟨fun b o hb e => ?_, hm.gens, hm.drawn, hm.os, hm.toks⟩
  have hbL : b ≠ L := fun q => by
    have := Heap.lt_size e
    rw [q, hL] at this; exact Nat.lt_irrefl _ this
  exact hm.heap b o (by simp [hbL, hb]) (oth b o hbL (Heap.get?_push_of_some _ e))
theorem mp_tuple {Q : Value → Shared → Prop} (W : WalksS prg w.toWorld A.in1.in1.in1 I fp wr G n P Sti) (hT : ∀ i s, Sti i s → s.TypeIs (.ref I) "map") (hst : Sti 0 s) (hfp : ∀ b ∈ fp, b < s.heap.objs.size) (hI : I ∈ fp) (hn : n ≤ sizeLine)
    (hQ : ∀ s' acc, Moved wr G s s' → ItemsOf P acc n → Q (.ref s'.heap.objs.size) { s' with heap := s'.heap.push { cls := .type "tuple", data := .seq acc } }) : wpAny (model prg w) A (call (.type "tuple") [.ref I]) Q E s := by
  refine callType_codes (Q₁ := fun obj s₁ => s₁.TypeIs obj "tuple" ∧ Q obj s₁) F.called_tuple (F.typeCall_tuple_1 _) F.entry_object_init ?_ fun obj s₁ h₁ =>
    ⟨h₁.1, F.args_object_init_2 obj _, object_init_meets F.called_tuple.init.lookup F.called_tuple.made (by decide) prg w.toWorld A.in1 _ s₁ ⟨h₁.1, rfl, h₁.2⟩⟩
  refine codeAny_of_tree ?_
  show wpAny _ A.in1.in1 (do checkBuiltinCall "tuple.__new__" ⟨[.type "tuple", .ref I], []⟩; again (.builtin "tuple.__new__" ⟨[.type "tuple", .ref I], []⟩)) _ _ s
  refine wpAny_bind (wpAny_of_eq (F.newCall_tuple_1 _) (wpAny_pure ⟨plainId_quiet F.plain_tuple_new _, codeAny_builtin F.entry_tuple_new ?_⟩))
  rw [Around.under_plainId F.plain_tuple_new _]
  have hsub := sub_tuple_self
  have hinit := init_tuple_lookup
  have hmh := madeHere_tuple
  have hTI := hT 0 s hst
  wp_walk using wpAny_typeOf hTI, mp_collect (hn := hn) W hT hst hfp hI
  intro s' acc hm hacc
  show wpAny _ _ (Builtin.Tuple.tupleExact acc.toList.toArray >>= fun v => ret v) _ _ _
  unfold Builtin.Tuple.tupleExact
  have e : acc.toList.toArray = acc := by simp
  refine wpAny_bind (wpAny_newObj_type ?_ (by show acc.toList.toArray.size ≤ sizeLine; rw [e, hacc.1]; exact hn))
  rw [e]
  exact wpAny_pure ⟨⟨_, Heap.get?_push_size _ rfl, rfl⟩, hQ s' acc hm hacc⟩
end
noncomputable def itO (l : Addr) (i : Int) : Obj := { cls := .type "list_iterator", data := .fields #[.ref l, .int i 0] }
noncomputable def mpO (tp fa : Addr) : Obj := { cls := .type "map", data := .fields #[.ref tp, .ref fa] }
theorem mp_new (fa l : Addr) : Meets (Builtin.«map.__new__» ⟨[.type "map", .ref fa, .ref l], []⟩) (fun _ R s => ∃ items, s.heap.IsList l items ∧
    R (.ok (.ret (.ref (s.heap.objs.size + 2)))) { s with heap := ((s.heap.push (itO l 0)).push (tupO [.ref s.heap.objs.size])).push (mpO (s.heap.objs.size + 1) fa) }) := by
  refine .of_wp fun prog w A R s hS => ?_
  refine ob1_2 hS fun items hl hR => ?_; clear hS
  unfold Builtin.«map.__new__» Builtin.SmallTypes.newClass Builtin.SmallTypes.refuseKeywords
  have hty : isType (.type "map") = pure true := by kernel_rfl
  have hsub := mp_sub
  refine wpAny_bind (wpAny_bind (wpAny_of_eq hty ?_))
  rw [if_neg (by decide)]
  refine wpAny_bind (wpAny_of_eq hsub ?_)
  rw [if_neg (by decide)]
  refine wpAny_pure ?_
  refine wpAny_bind ?_
  rw [if_pos (by rfl)]
  refine wpAny_pure ?_
  rw [if_neg (by simp)]
  refine wpAny_bind ?_
  show wpAny _ _ (Builtin.SmallTypes.iterAll [.ref l]) _ _ s
  unfold Builtin.SmallTypes.iterAll
  show wpAny _ _ (forIn [Value.ref l] (#[] : Array Value) _ >>= _) _ _ s
  rw [List.forIn_cons]
  refine wpAny_bind (wpAny_bind (wpAny_bind (wpAny_holding (wpAny_pyIter_list hl (wpAny_pure ?_)))))
  show wpAny _ _ (forIn ([] : List Value) _ _) _ _ _
  rw [List.forIn_nil]
  refine wpAny_pure (wpAny_pure ?_)
  have e1 : (s.heap.push (itO l 0)).objs.size = s.heap.objs.size + 1 := Heap.size_push ..
  have e2 : ((s.heap.push (itO l 0)).push (tupO [.ref s.heap.objs.size])).objs.size = s.heap.objs.size + 2 := by rw [Heap.size_push, e1]
  refine wpAny_bind (wpAny_newObj_type ?_ (by show Array.size _ ≤ sizeLine; simp [sizeLine_eq]))
  refine wpAny_bind ?_
  unfold Builtin.SmallTypes.newRecord
  show wpAny _ _ (newObj (.type "map") (.fields #[.ref (s.heap.push (itO l 0)).objs.size, .ref fa])) _ _ { s with heap := (s.heap.push (itO l 0)).push (tupO [.ref s.heap.objs.size]) }
  refine wpAny_newObj_type ?_ (by size_fits)
  refine wpAny_pure ⟨_, rfl, ?_⟩
  rw [e1, e2]
  exact hR
theorem mp_make {w : World} {A : Around} {s : Shared} {fa l : Addr} {items : Array Value} {Q : Value → Shared → Prop} {E : Value → Shared → Prop} (hl : s.heap.IsList l items)
    (hQ : Q (.ref (s.heap.objs.size + 2)) { s with heap := ((s.heap.push (itO l 0)).push (tupO [.ref s.heap.objs.size])).push (mpO (s.heap.objs.size + 1) fa) }) : wpAny (model prg w) A (call (.type "map") [.ref fa, .ref l]) Q E s := by
  have e1 : (s.heap.push (itO l 0)).objs.size = s.heap.objs.size + 1 := Heap.size_push ..
  have e2 : ((s.heap.push (itO l 0)).push (tupO [.ref s.heap.objs.size])).objs.size = s.heap.objs.size + 2 := by rw [Heap.size_push, e1]
  refine callType_new mp_called (by decide) (mp_tcall _ _) (mp_ncall _ _) (fun obj => mp_iargs obj _ _) mp_new_entry (mp_new fa l) ⟨items, hl, ⟨mpO (s.heap.objs.size + 1) fa, ?_, rfl⟩, hQ⟩
  have := Heap.get?_push_size ((s.heap.push (itO l 0)).push (tupO [.ref s.heap.objs.size])) (o := mpO (s.heap.objs.size + 1) fa) rfl
  rw [e2] at this
  exact this
theorem relL_strs_of {f : Fz} : ∀ {xs : List Str} {l : List Value}, l.length = xs.length → (∀ (j : Nat) (v : Value), l[j]? = some v → ∃ X t, xs[j]? = some X ∧ v = Value.str X t) → RelL f (xs.map V.str) l
  | [], l, hl, _ => by
    have : l = [] := List.eq_nil_of_length_eq_zero hl
    subst this; exact RelL.nil
  | x :: xs, [], hl, _ => by simp at hl
  | x :: xs, v :: l, hl, h => by
    refine ob2_2 (h 0 v rfl) fun X t h1 z0 => ?_; subst z0
    simp at h1; subst h1
    exact RelL.cons relS (relL_strs_of (by simpa using hl) fun j u hu => by simpa using h (j + 1) u (by simpa using hu))
section
variable {w : World} {k : Nat} {gs : List (Str × NameKind)} {ρ : Rho}
theorem g_tuple : GlobIs "tuple" (.typ "tuple") := glob_typ (fun P => by kernel_rfl) (fun P => by kernel_rfl)
theorem g_map : GlobIs "map" (.typ "map") := glob_typ (fun P => by kernel_rfl) (fun P => by kernel_rfl)
theorem ev_tuplemap {tfn mfn ffn arg : Expr} {p1 p2 : Pos} {xs : List Str} (h1 : Evals w (k + 4) gs ρ tfn (.typ "tuple")) (h2 : Evals w (k + 4) gs ρ mfn (.typ "map")) (h3 : EvalsL w (k + 4) gs ρ [ffn, arg] [.top 166, .lst (xs.map .str)])
    (hcall : ∀ w X, CallOk w k (.top 166) [.str X] (.str X)) (hlen : xs.length ≤ 1000000)
    (hp1 : ∀ env, starEach [.Call mfn [ffn, arg] [] p2] env = [(false, eval (.Call mfn [ffn, arg] [] p2) env)] := by intro _; rfl)
    (hp2 : ∀ env, starEach [ffn, arg] env = (evalEach [ffn, arg] env).map fun t => (false, t) := by intro _; rfl)
    (he1 : ∀ env, eval (.Call tfn [.Call mfn [ffn, arg] [] p2] [] p1) env = (do callWith p1 (← eval tfn env) [] (backTo p1 (starEach [.Call mfn [ffn, arg] [] p2] env)) (backToKw p1 (keywordEach [] env))) := by intro _; rfl)
    (he2 : ∀ env, eval (.Call mfn [ffn, arg] [] p2) env = (do callWith p2 (← eval mfn env) [] (backTo p2 (starEach [ffn, arg] env)) (backToKw p2 (keywordEach [] env))) := by intro _; rfl) :
    Evals w (k + 4) gs ρ (.Call tfn [.Call mfn [ffn, arg] [] p2] [] p1) (.tup (xs.map .str)) := fun env A f s rm ok Q E hQ => by
  refine Call_ (h1 env A f s rm ok _ _ fun vf s₁ f₁ g₁ r₁ => ?_) (he1 env)
  obtain rfl := rel_typ.mp r₁
  have ok₁ := ok.grew g₁
  refine _root_.PySem.callWith_type (by rw [hp1]; rfl) ?_
  rw [hp1]
  refine Calls.evalArgs_plain (Calls.spliced_cons ?_)
  refine Call_ (h2 env A f₁ s₁ rm ok₁ _ _ fun vf2 s₂ f₂ g₂ r₂ => ?_) (he2 env)
  obtain rfl := rel_typ.mp r₂
  have ok₂ := ok₁.grew g₂
  refine _root_.PySem.callWith_type (any_plain (hp2 env) p2) ?_
  refine args_run h3 rm ok₂ (hp2 env) fun vs s₃ f₃ g₃ r₃ => ?_
  have ok₃ := ok₂.grew g₃
  refine ob2_3 (relL2 r₃) fun a b z0 ra rb => ?_; subst z0
  obtain rfl := rel_top.mp ra
  refine ob3_3 (rel_lst.mp rb) fun l vals n z0 hl rl => ?_; subst z0
  have hg := ok₃.okf.sub _ _ hl
  refine mp_make (isList_of hg) ?_
  refine Calls.spliced_nil ?_
  -- the walk of the map
  generalize hN : s₃.heap.objs.size = N
  have gN : Grew f₃ s₃ f₃ { s₃ with heap := ((s₃.heap.push (itO l 0)).push (tupO [.ref s₃.heap.objs.size])).push (mpO (s₃.heap.objs.size + 1) 166), toks := s₃.toks } :=
    Grew.same ok₃.okf.sub fun b o e => Heap.get?_push_of_some _ (Heap.get?_push_of_some _ (Heap.get?_push_of_some _ e))
  rw [hN] at gN
  have dead : ∀ a, N ≤ a → f₃ a = none := fun a ha => by
    cases q : f₃ a with
    | none => rfl
    | some o => exact absurd (Nat.lt_of_lt_of_le (hN ▸ Heap.lt_size (ok₃.okf.sub _ _ q)) ha) (Nat.lt_irrefl a)
  have e1 : (s₃.heap.push (itO l 0)).objs.size = N + 1 := by rw [Heap.size_push, hN]
  have e2 : ((s₃.heap.push (itO l 0)).push (tupO [.ref N])).objs.size = N + 2 := by rw [Heap.size_push, e1]
  have e3 : (((s₃.heap.push (itO l 0)).push (tupO [.ref N])).push (mpO (N + 1) 166)).objs.size = N + 3 := by rw [Heap.size_push, e2]
  have hlN : l < N := by rw [← hN]; exact Heap.lt_size hg
  have rm3 : Room (k + 1) A.in1.in1.in1 := ((rm.mono (k' := k + 4) (Nat.le_refl _)).in1 (k := k + 3)).in1.in1
  refine ob1_1 ok₃.okf.tabLive fun oT hoT => ?_
  have hTN : tabA < N := by rw [← hN]; exact Heap.lt_size hoT
  have W := mp_walks (w := w) (f := f₃) (I := N + 2) (tp := N + 1) (it := N) (l := l) (N := N + 3) hcall rm3 (fun a o e => Nat.lt_of_lt_of_le (hN ▸ Heap.lt_size (ok₃.okf.sub _ _ e)) (Nat.le_add_right N 3)) ok₃.okf.top (Nat.lt_of_lt_of_le hTN (Nat.le_add_right N 3)) (Nat.ne_of_lt hTN) ⟨Nat.lt_succ_self (N + 2), Nat.lt_add_of_pos_right (n := N + 1) (k := 2) (by decide), Nat.lt_add_of_pos_right (n := N) (k := 3) (by decide), Nat.lt_of_lt_of_le hlN (Nat.le_add_right N 3)⟩ (dead N (Nat.le_refl _)) rl
  refine mp_tuple W.toS (fun i s st => ⟨_, st.1.map, rfl⟩) ⟨⟨?_, ?_, ?_, ?_⟩, fun a o e => gN.sub a o e, oT, Heap.get?_push_of_some _ (Heap.get?_push_of_some _ (Heap.get?_push_of_some _ hoT))⟩ (fun b hb => by
    show b < (((s₃.heap.push (itO l 0)).push (tupO [.ref N])).push (mpO (N + 1) 166)).objs.size
    rw [e3]; exact List.mem_range.mp hb) (List.mem_range.mpr (Nat.lt_succ_self (N + 2))) ?_ fun s' acc hm hacc => ?_
  · have := Heap.get?_push_size ((s₃.heap.push (itO l 0)).push (tupO [.ref N])) (o := mpO (N + 1) 166) rfl
    rw [e2] at this; exact this
  · have := Heap.get?_push_size (s₃.heap.push (itO l 0)) (o := tupO [.ref N]) rfl
    rw [e1] at this
    exact Heap.get?_push_of_some _ this
  · have := Heap.get?_push_size s₃.heap (o := itO l 0) rfl
    rw [hN] at this
    exact ⟨_, Heap.get?_push_of_some _ (Heap.get?_push_of_some _ this), rfl, rfl⟩
  · exact isList_of (Heap.get?_push_of_some _ (Heap.get?_push_of_some _ (Heap.get?_push_of_some _ hg)))
  · rw [rl.length, List.length_map, sizeLine_eq]; omega
  · obtain ⟨hacc1, hacc2⟩ := hacc
    have kp : ∀ b o, s₃.heap.get? b = some o → s'.heap.get? b = some o := fun b o e => by
      have hb : b < N := by rw [← hN]; exact Heap.lt_size e
      refine hm.heap b o (by simp; exact Nat.ne_of_lt hb) ?_
      exact Heap.get?_push_of_some _ (Heap.get?_push_of_some _ (Heap.get?_push_of_some _ e))
    have hgens : s'.gens = s₃.gens := hm.gens
    have hs' : s' = { s₃ with heap := s'.heap, toks := s'.toks } := by
      have h1 := hm.drawn
      have h2 := hm.os
      cases s'
      simp only at hgens h1 h2 ⊢
      rw [hgens, h1, h2]
    have eacc : ({ cls := .type "tuple", data := .seq acc } : Obj) = tupO acc.toList := by simp [tupO]
    rw [eacc]
    have dN : s₃.heap.get? s'.heap.objs.size = none := by
      cases q : s₃.heap.get? s'.heap.objs.size with
      | none => rfl
      | some o => exact absurd (Heap.lt_size (kp _ _ q)) (Nat.lt_irrefl _)
    have g4 : Grew f₃ s₃ (f₃.add s'.heap.objs.size (tupO acc.toList)) { s₃ with heap := s'.heap.push (tupO acc.toList), toks := s'.toks } :=
      Grew.add ok₃.okf.sub (fun b o e => Heap.get?_push_of_some _ (kp b o e)) dN (Heap.get?_push_size _ rfl)
    have e5 : ({ s' with heap := s'.heap.push (tupO acc.toList) } : Shared) = { s₃ with heap := s'.heap.push (tupO acc.toList), toks := s'.toks } := by
      rw [hs']
    rw [e5]
    refine hQ _ _ _ (((g₁.trans g₂).trans g₃).trans g4) (rel_tup.mpr ⟨_, acc.toList, rfl, Fz.add_self .., ?_⟩)
    have hvl : vals.length = xs.length := by rw [rl.length, List.length_map]
    refine relL_strs_of (by rw [Array.length_toList, hacc1, hvl]) fun j v hv => ?_
    exact hacc2 j v (by simpa using hv)
end
noncomputable def sT (led : Bool) (place : Array Nat) : SetTable := { mask := 7, place, dummies := #[], finger := 0, led, moves := 0, plain := true }
noncomputable def sO (led : Bool) (es : Array (Int × Value)) (ep : Nat) (place : Array Nat) : Obj := { cls := .type "set", data := .set es ep (sT led place) }
noncomputable def s0 (led : Bool) : Obj := sO led #[] 0 #[]
noncomputable def s1 (led : Bool) : Obj := sO led #[(1, .bool true)] 1 #[1]
noncomputable def s2 (led : Bool) : Obj := sO led #[(0, .bool false), (1, .bool true)] 2 #[0, 1]
noncomputable def b2i : Bool → Int | true => 1 | false => 0
section
variable {w : World} {A : Around} {E : Value → Shared → Prop} {s : Shared}
theorem hash_bool {b : Bool} {Q : Int → Shared → Prop} (h : Q (b2i b) { s with toks := s.toks + 1 }) : wpAny (model prg w) A (pyHash (.bool b)) Q E s := by
  unfold pyHash
  have hv : [Value.bool b].any Value.onHeap = false := rfl
  refine wpAny_bind ?_
  rw [cRoomFor, if_neg (by rw [hv]; exact Bool.false_ne_true)]
  refine wpAny_pure ?_
  refine wpAny_bind (wpAny_specialOf (PySem.typeIs_bool s b) F.slot_bool_hash.lookup ?_)
  show wpAny _ _ (if (some (Value.builtin "int.__hash__") == some Value.none) = true then _ else _) Q E s
  rw [if_neg (by rw [beq_builtin_none]; exact Bool.false_ne_true)]
  refine wpAny_bind (wpAny_specialOf (PySem.typeIs_bool s b) F.slot_bool_hash.lookup ?_)
  show wpAny _ _ (callSpecialIfBoundUnlessNone? (.bool b) "__hash__" _ >>= _) Q E s
  have hb : rawHash (b2i b) = b2i b := by cases b <;> decide +kernel
  refine wpAny_bind (wpAny_callSpecialIfBoundUnlessNone?_slot (PySem.typeIs_bool s b) F.slot_bool_hash
    (wpAny_call_entry F.slot_bool_hash (PySem.typeIs_bool s b) PySem.entry_int_hash ?_ (args_int_hash _)))
  cases b
  · show wpAny _ _ (do ret (← mkInt 0)) _ _ s
    exact wpAny_ret_mkInt (by show wpAny _ _ (if (decide (-(2 : Int) ^ 63 ≤ 0) && decide ((0 : Int) < 2 ^ 63)) = true then _ else _) Q E _; rw [if_pos (by decide)]; exact wpAny_pure h)
  · show wpAny _ _ (do ret (← mkInt 1)) _ _ s
    exact wpAny_ret_mkInt (by show wpAny _ _ (if (decide (-(2 : Int) ^ 63 ≤ 1) && decide ((1 : Int) < 2 ^ 63)) = true then _ else _) Q E _; rw [if_pos (by decide)]; exact wpAny_pure h)
theorem state_at {a : Addr} {led : Bool} {es : Array (Int × Value)} {ep : Nat} {place : Array Nat} {Q : (Array (Int × Value) × Nat × SetTable) → Shared → Prop} (ho : s.heap.get? a = some (sO led es ep place)) (hf : (sT led place).fits es.size = true) (h : Q (es, ep, sT led place) s) :
    wpAny (model prg w) A (setState a) Q E s := wpAny_setState_of ho rfl hf h
theorem fits0 (led : Bool) : (sT led #[]).fits 0 = true := by cases led <;> decide +kernel
theorem fits1 (led : Bool) : (sT led #[1]).fits 1 = true := by cases led <;> decide +kernel
theorem fits2 (led : Bool) : (sT led #[0, 1]).fits 2 = true := by cases led <;> decide +kernel
theorem add_down {a : Addr} {led : Bool} {es : Array (Int × Value)} {ep : Nat} {place : Array Nat} {b : Bool} {Q : Value → Shared → Prop} (ho : s.heap.get? a = some (sO led es ep place)) (hf : (sT led place).fits es.size = true) (hb : byScan (.bool b) es = true)
    (h : wpAny (model prg w) A.in1 (setAddByScan a (.bool b) (b2i b) es (sT led place)) (fun r s' => r.isSome = true ∧ Q .none s') E { s with toks := s.toks + 1 }) : wpAny (model prg w) A (call (.builtin "set.add") [.ref a, .bool b]) Q E s := by
  have hT : s.TypeIs (.ref a) "set" := ⟨_, ho, rfl⟩
  refine wpAny_call_entry F.slot_set_add hT F.entry_set_add ?_ (F.args_set_add_2 _ _)
  unfold Builtin.«set.add» Builtin.Frozenset.oneOther
  simp only [List.isEmpty_nil, bind_assoc]
  unfold Builtin.Frozenset.addrOf setAdd
  refine wpAny_bind (wpAny_pure ?_)
  try dsimp only
  refine wpAny_bind (wpAny_pure ?_)
  try dsimp only
  refine wpAny_bind (wpAny_holding (wpAny_bind (hash_bool ?_)))
  unfold setAddHashed setAddHashedIn
  refine wpAny_holding (wpAny_bind (state_at (s := { s with toks := s.toks + 1 }) ho hf ?_))
  dsimp only
  rw [if_pos hb]
  refine wpAny_bind (wpAny_mono h (fun r s' hr => ?_) fun _ _ e => e)
  cases r with
  | none => simp at hr
  | some x => exact wpAny_pure (wpAny_pure ⟨_, rfl, hr.2⟩)
theorem add_t0 {a : Addr} {led : Bool} {Q : Value → Shared → Prop} (ho : s.heap.get? a = some (s0 led)) (hQ : ∀ h' tk, h'.get? a = some (s1 led) → (∀ c o, c ≠ a → s.heap.get? c = some o → h'.get? c = some o) → Q .none { s with heap := h', toks := tk }) :
    wpAny (model prg w) A (call (.builtin "set.add") [.ref a, .bool true]) Q E s := by
  refine add_down ho (fits0 led) (by decide +kernel) ?_
  unfold setAddByScan
  refine wpAny_bind (wpAny_rule (wpAny_bind ?_))
  show wpAny _ _ (pure ScanMet.absent) _ _ _
  refine wpAny_pure ?_
  have hl : layNew (sT led #[]) #[] (b2i true) (.bool true) = (#[(1, .bool true)], sT led #[1], false, false) := by cases led <;> rfl
  rw [hl]
  show wpAny _ _ (do storeSet a #[(1, .bool true)] (sT led #[1]); if (!false && (sT led #[1]).tooFull) = true then _ else pure (some true)) _ _ _
  refine wpAny_bind (wpAny_storeSet_of (s := { s with toks := s.toks + 1 }) ho rfl ?_ (by rw [sizeLine_eq]; decide))
  rw [if_neg (by cases led <;> decide +kernel)]
  refine wpAny_pure ⟨rfl, hQ _ _ ?_ fun c o hc e => (Heap.get?_update_other _ _ (Ne.symm hc)).trans e⟩
  rw [Heap.get?_update_self _ ho rfl]
  rfl
theorem eqb_tt {Q : Bool → Shared → Prop} (h : Q true s) : wpAny (model prg w) A (eqBool (.bool true) (.bool true)) Q E s := by
  unfold eqBool
  refine wpAny_holding ?_
  rw [if_pos (by decide)]
  exact wpAny_bind (wpAny_rule (wpAny_pure h))
theorem add_t1 {a : Addr} {led : Bool} {Q : Value → Shared → Prop} (ho : s.heap.get? a = some (s1 led)) (hQ : ∀ tk, Q .none { s with toks := tk }) :
    wpAny (model prg w) A (call (.builtin "set.add") [.ref a, .bool true]) Q E s := by
  refine add_down ho (fits1 led) (by decide +kernel) ?_
  unfold setAddByScan
  refine wpAny_bind (wpAny_rule (wpAny_bind ?_))
  show wpAny _ _ (setScanFrom a (.bool true) 1 true [(1, .bool true)] 0) _ _ _
  unfold setScanFrom
  rw [if_pos (by decide)]
  unfold setEpoch
  refine wpAny_bind (wpAny_bind (state_at (s := { s with toks := s.toks + 1 }) ho (fits1 led) (wpAny_pure ?_)))
  refine wpAny_bind (eqb_tt ?_)
  rw [if_pos (by decide)]
  exact wpAny_pure (wpAny_pure ⟨rfl, hQ _⟩)
theorem add_f1 {a : Addr} {led : Bool} {Q : Value → Shared → Prop} (ho : s.heap.get? a = some (s1 led)) (hQ : ∀ h' tk, h'.get? a = some (s2 led) → (∀ c o, c ≠ a → s.heap.get? c = some o → h'.get? c = some o) → Q .none { s with heap := h', toks := tk }) :
    wpAny (model prg w) A (call (.builtin "set.add") [.ref a, .bool false]) Q E s := by
  refine add_down ho (fits1 led) (by decide +kernel) ?_
  unfold setAddByScan
  refine wpAny_bind (wpAny_rule (wpAny_bind ?_))
  show wpAny _ _ (setScanFrom a (.bool false) 0 true [(1, .bool true)] 0) _ _ _
  unfold setScanFrom
  rw [if_neg (by decide)]
  unfold setScanFrom
  refine wpAny_pure ?_
  have hl : layNew (sT led #[1]) #[(1, .bool true)] (b2i false) (.bool false) = (#[(0, .bool false), (1, .bool true)], sT led #[0, 1], false, false) := by cases led <;> rfl
  rw [hl]
  show wpAny _ _ (do storeSet a #[(0, .bool false), (1, .bool true)] (sT led #[0, 1]); if (!false && (sT led #[0, 1]).tooFull) = true then _ else pure (some true)) _ _ _
  refine wpAny_bind (wpAny_storeSet_of (s := { s with toks := s.toks + 1 }) ho rfl ?_ (by rw [sizeLine_eq]; decide))
  rw [if_neg (by cases led <;> decide +kernel)]
  refine wpAny_pure ⟨rfl, hQ _ _ ?_ fun c o hc e => (Heap.get?_update_other _ _ (Ne.symm hc)).trans e⟩
  rw [Heap.get?_update_self _ ho rfl]
  rfl
theorem set_iter_entry : entryFor table "set.__iter__" = some Builtin.«frozenset.__iter__» := entryFor_alias (id' := "frozenset.__iter__") (by kernel_rfl) rfl (by decide +kernel) (by kernel_rfl)
theorem si_next_slot : Slot "set_iterator" "__next__" "set_iterator.__next__" :=
  .of (owner := "set_iterator") (n := "__next__") (by rw [typeLookup_type, builtinLookup_eq_fast]; kernel_rfl) (by decide +kernel) (by decide +kernel) (by decide +kernel)
    (by first | exact .inl (by decide +kernel) | exact .inr (by decide +kernel)) (by rw [isSubtype_type]; kernel_rfl)
theorem si_next_entry : entryFor table "set_iterator.__next__" = some Builtin.«set_iterator.__next__» := entryFor_of_tree (by kernel_rfl)
theorem si_next_args (a : Value) : argsOk "set_iterator.__next__" ⟨[a], []⟩ := by unfold argsOk; kernel_rfl
noncomputable def siO (slot i : Int) (a : Value) (n ep : Int) : Obj := { cls := .type "set_iterator", data := .fields #[.int slot 0, .int i 0, a, .int n 0, .int ep 0] }
theorem byText_run {Q : Bool → Shared → Prop} (h : Q (w.params.followText "set-order") s) : wpAny (model prg w) A setsByText Q E s := by
  unfold setsByText
  exact wpAny_bind (wpAny_askSetting (wpAny_pure h))
theorem set_iter {a : Addr} {led : Bool} {es : Array (Int × Value)} {ep : Nat} {place : Array Nat} {Q : Value → Shared → Prop} (ho : s.heap.get? a = some (sO led es ep place)) (hf : (sT led place).fits es.size = true)
    (hQ : Q (.ref s.heap.objs.size) { s with heap := s.heap.push (siO 0 0 (.ref a) es.size ep) }) : wpAny (model prg w) A (pyIter (.ref a)) Q E s := by
  have hT : s.TypeIs (.ref a) "set" := ⟨_, ho, rfl⟩
  refine wpAny_pyIter_slot hT F.slot_set_iter (wpAny_call_entry F.slot_set_iter hT set_iter_entry ?_ (F.args_set_iter_1 _))
  unfold Builtin.«frozenset.__iter__»
  show wpAny _ _ (Builtin.Frozenset.sizeOf a >>= _) _ _ s
  unfold Builtin.Frozenset.sizeOf setEntries
  refine wpAny_bind (wpAny_bind (wpAny_bind (state_at ho hf (wpAny_pure (wpAny_pure ?_)))))
  unfold setDrawn
  refine wpAny_bind (wpAny_bind (state_at ho hf (wpAny_bind (byText_run (wpAny_pure ?_)))))
  have hd : (!w.params.followText "set-order" && (!(sT led place).plain && decide (es.size > 1))) = false := by simp [sT]
  show wpAny _ _ (if (!w.params.followText "set-order" && (!(sT led place).plain && decide (es.size > 1))) = true then _ else _) _ _ _
  rw [hd, if_neg (by decide)]
  refine wpAny_bind (wpAny_pure ?_)
  unfold setEpoch
  refine wpAny_bind (wpAny_bind (state_at ho hf (wpAny_pure ?_)))
  refine wpAny_bind (wpAny_newObj_type (wpAny_pure ⟨_, rfl, "set_iterator", _, ⟨_, Heap.get?_push_size _ rfl, rfl⟩, si_next_slot.lookup, hQ⟩))
theorem set_next {I a : Addr} {led : Bool} {es : Array (Int × Value)} {ep : Nat} {place : Array Nat} {slot i : Nat} {Q : Option Value → Shared → Prop} (hI : s.heap.get? I = some (siO slot i (.ref a) es.size ep)) (ho : s.heap.get? a = some (sO led es ep place))
    (hf : (sT led place).fits es.size = true) {N : Nat → Value → Prop} (hn : ∀ (Q' : Option (Value × Nat) → Shared → Prop) (E' : Value → Shared → Prop), (∀ next x, N next x → Q' (some (x, next)) s) → wpAny (model prg w) A.in1 (setNext a slot i ep) Q' E' s)
    (hQ : ∀ (next : Nat) (x : Value), N next x → ∀ h', h'.get? I = some (siO next (i + 1 : Nat) (.ref a) es.size ep) → (∀ c o, c ≠ I → s.heap.get? c = some o → h'.get? c = some o) → Q (some x) { s with heap := h' }) : wpAny (model prg w) A (pyNext (.ref I)) Q E s := by
  have hT : s.TypeIs (.ref I) "set_iterator" := ⟨_, hI, rfl⟩
  unfold pyNext
  refine wpAny_bind (wpAny_attempt (wpAny_callSpecial?_slot (name := Str.ofString "__next__") hT si_next_slot (wpAny_call_entry si_next_slot hT si_next_entry ?_ (si_next_args _))))
  unfold Builtin.«set_iterator.__next__»
  refine wpAny_bind (wpAny_pure ?_)
  refine wpAny_bind (wpAny_fieldsOf hI rfl ?_)
  show wpAny _ _ (setEntries a >>= _) _ _ s
  unfold setEntries
  refine wpAny_bind (wpAny_bind (state_at ho hf (wpAny_pure ?_)))
  have e1 : (((es.size : Nat) : Int) != ((es.size : Nat) : Int)) = false := by simp
  dsimp only
  rw [e1, if_neg (by decide)]
  refine wpAny_bind ?_
  have e2 : ((slot : Nat) : Int).toNat = slot := by omega
  have e3 : ((i : Nat) : Int).toNat = i := by omega
  have e4 : ((ep : Nat) : Int).toNat = ep := by omega
  rw [e2, e3, e4]
  refine hn _ _ fun next x hN => ?_
  refine wpAny_bind (wpAny_setField hI rfl (by simp) ?_)
  have h1 := Heap.get?_update_self (Obj.mapFields (·.setIfInBounds 0 (rawInt next))) hI rfl
  refine wpAny_bind (wpAny_setField h1 rfl (by simp) ?_)
  have h2 := Heap.get?_update_self (Obj.mapFields (·.setIfInBounds 1 (rawInt ((i : Int) + 1)))) h1 rfl
  refine wpAny_pure ⟨_, rfl, wpAny_pure (hQ next x hN _ ?_ fun c o hc e => (Heap.get?_update_other _ _ (Ne.symm hc)).trans ((Heap.get?_update_other _ _ (Ne.symm hc)).trans e))⟩
  rw [h2]
  rfl
theorem set_stop {I a : Addr} {led : Bool} {es : Array (Int × Value)} {ep : Nat} {place : Array Nat} {slot i : Nat} {Q : Option Value → Shared → Prop} (hh : A.handled = none) (hI : s.heap.get? I = some (siO slot i (.ref a) es.size ep)) (ho : s.heap.get? a = some (sO led es ep place))
    (hf : (sT led place).fits es.size = true) (hn : ∀ (Q' : Option (Value × Nat) → Shared → Prop) (E' : Value → Shared → Prop), Q' none s → wpAny (model prg w) A.in1 (setNext a slot i ep) Q' E' s)
    (hQ : ∀ h', (∀ c o, c ≠ I → s.heap.get? c = some o → h'.get? c = some o) → Q none { s with heap := h' }) : wpAny (model prg w) A (pyNext (.ref I)) Q E s := by
  have hT : s.TypeIs (.ref I) "set_iterator" := ⟨_, hI, rfl⟩
  unfold pyNext
  refine wpAny_bind (wpAny_attempt (wpAny_callSpecial?_slot (name := Str.ofString "__next__") hT si_next_slot (wpAny_call_entry si_next_slot hT si_next_entry ?_ (si_next_args _))))
  unfold Builtin.«set_iterator.__next__»
  refine wpAny_bind (wpAny_pure ?_)
  refine wpAny_bind (wpAny_fieldsOf hI rfl ?_)
  show wpAny _ _ (setEntries a >>= _) _ _ s
  unfold setEntries
  refine wpAny_bind (wpAny_bind (state_at ho hf (wpAny_pure ?_)))
  have e1 : (((es.size : Nat) : Int) != ((es.size : Nat) : Int)) = false := by simp
  dsimp only
  rw [e1, if_neg (by decide)]
  refine wpAny_bind ?_
  have e2 : ((slot : Nat) : Int).toNat = slot := by omega
  have e3 : ((i : Nat) : Int).toNat = i := by omega
  have e4 : ((ep : Nat) : Int).toNat = ep := by omega
  rw [e2, e3, e4]
  refine hn _ _ ?_
  refine wpAny_bind (wpAny_setField hI rfl (by simp) ?_)
  refine wpAny_bind ?_
  simp only [newExc, newTuple]
  refine wpAny_bind (wpAny_newObj_type ?_ (by size_fits))
  refine wpAny_bind (m := firstArgMember _ _) (wpAny_of_eq (a := Value.none) (by first | rfl | (simp only [firstArgMember]; rfl)) ?_)
  refine wpAny_newObj_type ?_ (by size_fits)
  simp only [raiseNew]
  refine wpAny_bind (wpAny_handled ?_)
  rw [show A.in1.handled = none from hh]
  refine wpAny_bind (wpAny_pure (wpAny_throw ?_))
  refine wpAny_bind (wpAny_isInstance (T := "StopIteration") (b := true) ⟨_, Heap.get?_push_size _ rfl, rfl⟩ isSubtype_stop ?_)
  rw [if_pos rfl]
  exact wpAny_pure (hQ _ (((Heap.SameBut.update ..).extBut.push _).push _))
noncomputable def after (w : World) (n k : Nat) : Prop := w.params.followText "set-order" = false → n = k
theorem walk_run {a : Addr} {led : Bool} {es : Array (Int × Value)} {ep : Nat} {place : Array Nat} {Q : Array (Int × Value) → Shared → Prop} (hb : w.params.followText "set-order" = true) (ho : s.heap.get? a = some (sO led es ep place)) (hf : (sT led place).fits es.size = true)
    (h : Q (pickOrder (w.params.setOrder a ep) es) s) : wpAny (model prg w) A (setWalk a) Q E s := by
  unfold setWalk
  refine wpAny_bind (state_at ho hf (wpAny_bind (byText_run ?_)))
  rw [hb, if_pos rfl]
  exact wpAny_bind (wpAny_askSetting (wpAny_pure h))
theorem pick1 (f : Nat → Nat) (x : Int × Value) : pickOrder f #[x] = #[x] := by
  unfold pickOrder pickOrder.go pickOrder.go
  simp [Nat.mod_one]
theorem next_led {a : Addr} {led : Bool} {es : Array (Int × Value)} {ep : Nat} {place : Array Nat} {slot i : Nat} {Q : Option (Value × Nat) → Shared → Prop} (hled : led = !w.params.followText "set-order") (hb : w.params.followText "set-order" = false)
    (ho : s.heap.get? a = some (sO led es ep place)) (hf : (sT led place).fits es.size = true)
    (h : Q (match es[SetTable.below place slot]?, place[SetTable.below place slot]? with | some (_, x), some j => some (x, j + 1) | _, _ => none) s) : wpAny (model prg w) A (setNext a slot i ep) Q E s := by
  unfold setNext
  refine wpAny_bind (state_at ho hf (wpAny_bind (byText_run ?_)))
  rw [hb, if_neg (by decide)]
  have hd : (!(sT led place).plain && decide (es.size > 1)) = false := by simp [sT]
  show wpAny _ _ (if (!(sT led place).plain && decide (es.size > 1)) = true then _ else _) _ _ _
  rw [hd, if_neg (by decide)]
  have hl : (!(sT led place).led && !es.isEmpty) = false := by rw [hled, hb]; simp [sT]
  show wpAny _ _ ((if (!(sT led place).led && !es.isEmpty) = true then _ else pure ()) >>= _) _ _ _
  rw [hl, if_neg (by decide)]
  exact wpAny_bind (wpAny_pure (wpAny_pure h))
theorem next_text {a : Addr} {led : Bool} {es : Array (Int × Value)} {ep : Nat} {place : Array Nat} {slot i : Nat} {Q : Option (Value × Nat) → Shared → Prop} (hb : w.params.followText "set-order" = true)
    (ho : s.heap.get? a = some (sO led es ep place)) (hf : (sT led place).fits es.size = true)
    (h : Q (((pickOrder (w.params.setOrder a ep) es)[i]?).map fun e => (e.2, slot)) s) : wpAny (model prg w) A (setNext a slot i ep) Q E s := by
  unfold setNext
  refine wpAny_bind (state_at ho hf (wpAny_bind (byText_run ?_)))
  rw [hb, if_pos rfl]
  have he : (ep != ep) = false := by simp
  rw [he, if_neg (by decide)]
  exact wpAny_bind (walk_run hb ho hf (wpAny_pure h))
theorem next1 {a : Addr} {led : Bool} (hled : led = !w.params.followText "set-order") (ho : s.heap.get? a = some (s1 led)) (Q' : Option (Value × Nat) → Shared → Prop) (E' : Value → Shared → Prop) :
    ((∀ n, after w n 2 → Q' (some (.bool true, n)) s) → wpAny (model prg w) A (setNext a 0 0 1) Q' E' s) ∧ (∀ slot : Nat, after w slot 2 → Q' none s → wpAny (model prg w) A (setNext a slot 1 1) Q' E' s) := by
  cases hb : w.params.followText "set-order" with
  | true =>
    refine ⟨fun hQ => next_text hb ho (fits1 led) ?_, fun slot _ hQ => next_text hb ho (fits1 led) ?_⟩
    · rw [pick1]; exact hQ 0 fun h => by rw [hb] at h; cases h
    · rw [pick1]; exact hQ
  | false =>
    refine ⟨fun hQ => next_led hled hb ho (fits1 led) ?_, fun slot hs hQ => next_led hled hb ho (fits1 led) ?_⟩
    · exact hQ 2 fun _ => rfl
    · obtain rfl := hs hb
      exact hQ
theorem pick2 (f : Nat → Nat) (x y : Int × Value) : ∃ u v, pickOrder f #[x, y] = #[u, v] := by
  unfold pickOrder pickOrder.go pickOrder.go pickOrder.go
  have h : f 0 % 2 = 0 ∨ f 0 % 2 = 1 := by omega
  rcases h with h | h
  · refine ⟨x, y, ?_⟩
    simp [h, Nat.mod_one]
  · refine ⟨y, x, ?_⟩
    simp [h, Nat.mod_one]
theorem next2 {a : Addr} {led : Bool} (hled : led = !w.params.followText "set-order") (ho : s.heap.get? a = some (s2 led)) (Q' : Option (Value × Nat) → Shared → Prop) (E' : Value → Shared → Prop) :
    ((∀ n v, after w n 1 → Q' (some (v, n)) s) → wpAny (model prg w) A (setNext a 0 0 2) Q' E' s) ∧ (∀ slot : Nat, after w slot 1 → (∀ n v, Q' (some (v, n)) s) → wpAny (model prg w) A (setNext a slot 1 2) Q' E' s) := by
  cases hb : w.params.followText "set-order" with
  | true =>
    refine ob2_1 (pick2 (w.params.setOrder a 2) (0, .bool false) (1, .bool true)) fun u v e => ?_
    refine ⟨fun hQ => next_text hb ho (fits2 led) ?_, fun slot _ hQ => next_text hb ho (fits2 led) ?_⟩
    · rw [e]; exact hQ 0 _ fun h => by rw [hb] at h; cases h
    · rw [e]; exact hQ _ _
  | false =>
    refine ⟨fun hQ => next_led hled hb ho (fits2 led) ?_, fun slot hs hQ => next_led hled hb ho (fits2 led) ?_⟩
    · exact hQ 1 _ fun _ => rfl
    · obtain rfl := hs hb
      exact hQ _ _
theorem unpack1 {a : Addr} {led : Bool} (hled : led = !w.params.followText "set-order") (hh : A.handled = none) (ho : s.heap.get? a = some (s1 led)) {Q : List Value → Shared → Prop}
    (hQ : ∀ h', (∀ c o, s.heap.get? c = some o → h'.get? c = some o) → Q [.bool true] { s with heap := h' }) : wpAny (model prg w) A (unpackItems (.ref a) 1 none) Q E s := by
  have hT : s.TypeIs (.ref a) "set" := ⟨_, ho, rfl⟩
  unfold unpackItems
  refine wpAny_bind ?_
  unfold notIterableAtAll
  refine wpAny_bind (wpAny_specialOf hT F.slot_set_iter.lookup ?_)
  refine wpAny_pure ?_
  rw [if_neg (by decide)]
  refine wpAny_bind (wpAny_holding (set_iter ho (fits1 led) ?_))
  generalize hI : s.heap.objs.size = I
  have haI : a ≠ I := by rw [← hI]; exact Nat.ne_of_lt (Heap.lt_size ho)
  have hk0 : ∀ c o, s.heap.get? c = some o → c ≠ I := fun c o e => by rw [← hI]; exact Nat.ne_of_lt (Heap.lt_size e)
  have hi0 : (s.heap.push (siO 0 0 (.ref a) (1 : Nat) (1 : Nat))).get? I = some (siO (0 : Nat) (0 : Nat) (.ref a) (1 : Nat) (1 : Nat)) := by rw [← hI]; exact Heap.get?_push_size _ rfl
  have ho0 : (s.heap.push (siO 0 0 (.ref a) (1 : Nat) (1 : Nat))).get? a = some (s1 led) := Heap.get?_push_of_some _ ho
  refine wpAny_bind (wpAny_holding ?_)
  unfold draw
  refine wpAny_bind (set_next (s := { s with heap := s.heap.push (siO 0 0 (.ref a) (1 : Nat) (1 : Nat)) }) (N := fun n x => after w n 2 ∧ x = .bool true) (es := #[(1, .bool true)]) (ep := 1) (place := #[1]) (slot := 0) (i := 0) hi0 ho0 (fits1 led)
    (fun Q' E' h => (next1 hled ho0 Q' E').1 fun n hn => h n _ ⟨hn, rfl⟩) fun next x hx h1 hi1 hk1 => ?_)
  refine ob0_2 hx fun hx1 z0 => ?_; clear hx; subst z0
  refine wpAny_bind (wpAny_holding ?_)
  unfold draw
  refine wpAny_pure (wpAny_pure ?_)
  rw [if_neg (by simp)]
  have ho1 : h1.get? a = some (s1 led) := hk1 a _ haI ho0
  refine wpAny_bind (wpAny_holding (set_stop (s := { s with heap := h1 }) (es := #[(1, .bool true)]) (ep := 1) (place := #[1]) (slot := next) (i := 1) hh hi1 ho1 (fits1 led) (fun Q' E' h => (next1 hled ho1 Q' E').2 next hx1 h) fun h2 hk2 => ?_))
  rw [if_neg (by decide)]
  exact wpAny_pure (hQ h2 fun c o e => hk2 c o (hk0 c o e) (hk1 c o (hk0 c o e) (Heap.get?_push_of_some _ e)))
end
noncomputable def setOf (led : Bool) : List Bool → Option Obj
  | [] => some (s0 led)
  | [true] => some (s1 led)
  | [true, true] => some (s1 led)
  | [true, false] => some (s2 led)
  | _ => none
theorem solid_setOf {led : Bool} {os : List Bool} {o : Obj} (h : setOf led os = some o) : Solid o := by
  unfold setOf at h
  split at h <;> first | (cases h; exact solid_cls (T := "set") rfl (by intro _ _ q; cases q)) | cases h
section
variable {w : World} {k : Nat} {gs : List (Str × NameKind)} {ρ : Rho}
theorem setadd_run {A : Around} {s : Shared} {D : Addr} {led : Bool} {os : List Bool} {b : Bool} {o o' : Obj} {Q : Value → Shared → Prop} {E : Value → Shared → Prop} (h1 : setOf led os = some o) (ho : s.heap.get? D = some o) (h2 : setOf led (os ++ [b]) = some o')
    (hQ : ∀ h' tk, h'.get? D = some o' → (∀ c o, c ≠ D → s.heap.get? c = some o → h'.get? c = some o) → Q .none { s with heap := h', toks := tk }) : wpAny (model prg w) A (call (.builtin "set.add") [.ref D, .bool b]) Q E s := by
  match os, h1 with
  | [], h1 =>
    cases b with
    | true => cases h1; cases h2; exact add_t0 ho hQ
    | false => cases h2
  | [true], h1 =>
    cases b with
    | true => cases h1; cases h2; exact add_t1 ho fun tk => hQ s.heap tk ho fun _ _ _ e => e
    | false => cases h1; cases h2; exact add_f1 ho hQ
  | [true, true], h1 => cases b <;> cases h2
  | [true, false], h1 => cases b <;> cases h2
noncomputable def CompS (w : World) (k : Nat) (gs : List (Str × NameKind)) (ρ : Rho) (x : Str) (elt : Expr) : List V → List Bool → Prop
  | [], bs => bs = []
  | a :: r, bs => ∃ b bs', bs = b :: bs' ∧ Evals w k gs ((x, false, a) :: ρ) elt (.bool b) ∧ CompS w k gs ρ x elt r bs'
structure CompSIs (w : World) (k : Nat) (gs : List (Str × NameKind)) (ρ : Rho) (elt iter : Expr) (x : Str) (scope : Scope) (bs : List Bool) : Prop where
  it : ∃ v items ρC, Evals w k gs ρ iter v ∧ IterOk w k v items ∧ items.length ≤ 1000000 ∧ CompS w k (relabelN scope.names gs) ρC x elt items bs ∧
    (∀ y p, ρC.lookup y = some p → scope.names.lookup y = some .free ∧ p.1 = true ∧ ρ.lookup y = some p)
  free : ∀ y, (y, NameKind.free) ∈ scope.names → gs.lookup y = some .cell ∨ gs.lookup y = some .free
  nocell : ∀ y ∈ scope.names, y.2 ≠ .cell
  kind : scope.kind = .function
  loc : ∀ y ∈ scope.names, y.2 = .local → scope.names.lookup y.1 = some .local
  hx : scope.names.lookup x = some .local
  ok : ∀ led l r, bs = l ++ r → ∃ o, setOf led l = some o
theorem compTurn_set1 (elt target iter : Expr) (scope : Scope) (pos : Pos) (it acc : Value) (env : Env) :
    compTurn (.SetComp elt [⟨target, iter, [], 0⟩] scope pos) 0 it acc env = (standAt iter.pos >>= fun _ => pyNext it >>= fun r => match r with
      | none => pure (.done .next)
      | some v => letOwnedTupleGo target it v >>= fun _ => assign target env v >>= fun _ =>
        (eval elt env >>= fun x => standAt elt.pos >>= fun _ => call (.builtin "set.add") [acc, x] >>= fun _ => pure ()) >>= fun _ =>
          again (.compLoop (.SetComp elt [⟨target, iter, [], 0⟩] scope pos) 0 it acc env)) := by rfl
theorem loop_set {A : Around} {R : Result → Shared → Prop} {s : Shared} {elt target iter : Expr} {scope : Scope} {pos : Pos} {it acc : Value} {env : Env} (I : Nat → Shared → Prop)
    (turn : ∀ n s, I n s → wpAny (model prg w) A (pyNext it) (fun r s₁ => match r with
      | none => R (.ok .next) s₁
      | some v => wpAny (model prg w) A (assign target env v) (fun _ s₂ => wpAny (model prg w) A (eval elt env) (fun x s₄ =>
              wpAny (model prg w) A (call (.builtin "set.add") [acc, x]) (fun _ s₅ => ∃ m, m < n ∧ I m s₅) (notedBy (model prg w) A env fun e s' => R (.error e) s') s₄) (notedBy (model prg w) A env fun e s' => R (.error e) s') s₂) (notedBy (model prg w) A env fun e s' => R (.error e) s') s₁) (notedBy (model prg w) A env fun e s' => R (.error e) s') s)
    (n : Nat) (h : I n s) (ht : ∀ v, letOwnedTupleGo target it v = pure () := by intro _; rfl) : codeAny (model prg w) A (.compLoop (.SetComp elt [⟨target, iter, [], 0⟩] scope pos) 0 it acc env) R s := by
  refine codeAny_loop rfl I (fun n s hI => ?_) n h
  show wpAny _ A ((compTurn (.SetComp elt [⟨target, iter, [], 0⟩] scope pos) 0 it acc env).onRaise (fun x => do noteFrame x env; theTreesLotGoes x)) _ _ s
  refine wpAny_noted ?_
  rw [compTurn_set1]
  refine wpAny_bind (wpAny_standAt (wpAny_bind (wpAny_mono (turn n s hI) (fun r s₁ h₁ => ?_) fun _ _ h' => h')))
  cases r with
  | none => exact wpAny_pure h₁
  | some v =>
    refine wpAny_bind (wpAny_of_eq (ht v) ?_)
    refine wpAny_bind (wpAny_mono h₁ (fun _ s₂ h₂ => wpAny_bind (wpAny_bind (wpAny_mono h₂ (fun x s₃ h₃ => wpAny_bind (wpAny_standAt (wpAny_bind (wpAny_mono h₃ (fun _ s₄ h₄ => wpAny_pure (wpAny_pure ⟨rfl, h₄⟩)) fun _ _ h' => h')))) fun _ _ h' => h'))) fun _ _ h' => h')
theorem start_set {A : Around} {R : Result → Shared → Prop} {s : Shared} {elt target iter : Expr} {scope : Scope} {pos : Pos} {it acc : Value} {env : Env}
    (h0 : codeAny (model prg w) A (.compLoop (.SetComp elt [⟨target, iter, [], 0⟩] scope pos) 0 it acc env) R s)
    (h : wpAny (model prg w) A (pyIter it) (fun it' s' => codeAny (model prg w) A (.compLoop (.SetComp elt [⟨target, iter, [], 0⟩] scope pos) 0 it' acc env) R s') (notedBy (model prg w) A env fun x s' => R (.error x) s') s) :
    codeAny (model prg w) A (.compStart (.SetComp elt [⟨target, iter, [], 0⟩] scope pos) 0 it acc env) R s := by
  refine codeAny_of_tree ?_
  show wpAny _ _ ((compStart (.SetComp elt [⟨target, iter, [], 0⟩] scope pos) 0 it acc env).onRaise (fun x => do noteFrame x env; standAt theWindowsPlace)) _ _ s
  refine wpAny_notedAt ?_
  unfold compStart
  show wpAny _ _ (ask >>= _) _ _ s
  refine wpAny_bind (wpAny_askSetting (wpAny_ite ?_))
  split
  · exact wpAny_bind (wpAny_pure (wpAny_pure (And.intro rfl h0)))
  · refine wpAny_bind (wpAny_rule ?_)
    show wpAny _ _ (standAt iter.pos >>= _) _ _ s
    exact wpAny_bind (wpAny_standAt (wpAny_bind (wpAny_mono h (fun it' s' h' => wpAny_pure (And.intro rfl h')) fun _ _ x => x)))
theorem comps_core {elt iter : Expr} {x : Str} {px pos pos' : Pos} {scope : Scope} {outs : List Bool} (C : CompSIs w k gs ρ elt iter x scope outs) {env : Env} {A : Around} {f : Fz} {s : Shared} (rm : Room k A) (ok : Ok w gs env ρ f s)
    {Q : Value → Shared → Prop} {E : Value → Shared → Prop}
    (hQ : ∀ s' f' D L m o, Grew f s f' s' → setOf (!w.params.followText "set-order") outs = some o → s'.heap.get? D = some o → f' D = none → s.heap.get? D = none → D ≠ L → f' L = none → s.heap.get? L = none → s'.heap.Ns L m → PySem.compPost (model prg w) A E none Q (.ref D) L (.ok .next) s')
    (hs : ∀ env x, foldedSetIterable iter env x = pure x := by intros; rfl) :
    wpAny (model prg w) A (comprehension (.SetComp elt [⟨.Name x px, iter, [], 0⟩] scope pos) scope env pos' (newSet (.type "set")) false (eval iter env) none) Q E s := by
  refine ob3_5 C.it fun v items ρC he hi hlen hcl hρ => ?_
  have hfree : ∀ y, (y, NameKind.free) ∈ scope.names → ∃ a, env.cells.lookup y = some a := fun y hy => ok.clos y (C.free y hy)
  refine PySem.wpAny_comprehension_free (cl := cloOf env scope.names []) rfl (hs env) (clo_eq hfree) C.kind C.loc ?_
  refine he env A f s rm ok _ _ fun val s₁ f₁ g₁ r₁ => ?_
  have ok₁ := ok.grew g₁
  refine hi A f₁ s₁ val _ _ rm ok₁.okf r₁ fun I s₂ kp hdead hlive it => ?_
  refine ob4_7 it fun fp wr P Sti W hst hwr hfp hP hlg hal => ?_; clear it
  have g₂ : Grew f₁ s₁ f₁ s₂ := Grew.keep ok₁.okf.sub kp
  unfold newSet
  refine wpAny_bind (byText_run ?_)
  generalize hled : (!w.params.followText "set-order") = led at hQ ⊢
  refine wpAny_newObj_type (wpAny_newFunctionEnv C.nocell (by intro y hy; simp at hy) (fun h₁ hns₁ hsb₁ => ?_) C.kind)
  dsimp only at hns₁ hsb₁ ⊢
  generalize hH2 : s₂.heap.push { cls := .type "set", data := .set #[] 0 (SetTable.fresh 0 0 led) } = H2 at hns₁ hsb₁ ⊢
  have hC : H2.objs.size = s₂.heap.objs.size + 1 := by rw [← hH2, Heap.size_push]
  have hDC : s₂.heap.objs.size ≠ H2.objs.size := by rw [hC]; exact Nat.ne_of_lt (Nat.lt_succ_self _)
  have old : ∀ b o, s₂.heap.get? b = some o → h₁.get? b = some o := fun b o e =>
    hsb₁.extBut b o (by have := Heap.lt_size e; rw [hC]; exact Nat.ne_of_lt (Nat.lt_succ_of_lt this)) (Heap.get?_push_of_some _ (hH2 ▸ Heap.get?_push_of_some _ e))
  have hDo : h₁.get? s₂.heap.objs.size = some (s0 led) := hsb₁.extBut _ _ hDC (Heap.get?_push_of_some _ (hH2 ▸ Heap.get?_push_size _ rfl))
  have dead2 : ∀ a, s₂.heap.objs.size ≤ a → s₂.heap.get? a = none := fun a ha => Heap.get?_none_of_le ha
  have down : ∀ a, s₂.heap.get? a = none → s₁.heap.get? a = none := fun a h => keeps_dead (keeps_toW kp) h
  generalize hD : s₂.heap.objs.size = D at *
  generalize hCC : H2.objs.size = L at *
  have hD1 := down D (dead2 D (Nat.le_refl _))
  have hL1 := down L (dead2 L (by omega))
  have hfn : ∀ a, s₁.heap.get? a = none → f₁ a = none := fun a h => by
    cases q : f₁ a with
    | none => rfl
    | some o => rw [ok₁.okf.sub _ _ q] at h; cases h
  have hID : I ≠ D := fun q => by refine ob1_1 hlive fun o e => ?_; clear hlive; rw [q, dead2 D (Nat.le_refl _)] at e; cases e
  have hIL : I ≠ L := fun q => by refine ob1_1 hlive fun o e => ?_; clear hlive; rw [q, dead2 L (by omega)] at e; cases e
  have hIwr : ∀ b, b ≠ I → b ∉ wr := fun b hb hm => hb (hwr b hm)
  have hlive1 : ∃ o, h₁.get? I = some o := by refine ob1_1 hlive fun o e => ?_; clear hlive; exact ⟨o, old _ _ e⟩
  have gstart : Grew f₁ s₁ f₁ { s₂ with heap := h₁, toks := s₂.toks + ([] : List (Str × Value)).length } := by
    obtain ⟨hh, tk, rfl, kk⟩ := kp
    exact Grew.keep ok₁.okf.sub ⟨h₁, _, rfl, fun b o e => old b o (kk b o e)⟩
  have hstart : Sti 0 h₁ := W.frame _ _ _ hst fun b _ o e => old b o e
  have hcells : ∀ y, (y, NameKind.free) ∈ scope.names → (cloOf env scope.names []).lookup y = env.cells.lookup y := fun y hy => clo_acc _ _ (fun p hp => by simp at hp) hfree (.inl hy)
  have hgs := relabel_names ok scope
  have loop : ∀ s₃ : Shared, s₃ = { s₂ with heap := h₁, toks := s₂.toks + ([] : List (Str × Value)).length } →
      codeAny (model prg w) A (.compLoop (.SetComp elt [⟨.Name x px, iter, [], 0⟩] scope pos) 0 (.ref I) (.ref D) (compEnvC scope (cloOf env scope.names []) L env)) (PySem.compPost (model prg w) A E none Q (.ref D) L) s₃ := by
    rintro s₃ rfl
    refine ob1_1 (⟨_, rfl⟩ : ∃ J : Nat → Shared → Prop, J = fun n s₄ => ∀ C : Prop, (∀ (xs : List V) (os os' : List Bool) (o4 : Obj) (f₄ : Fz) (m : Str → Option Value), n = xs.length → items.drop (items.length - xs.length) = xs → xs.length ≤ items.length →
        Grew f₁ s₁ f₄ s₄ → f₄ D = none → f₄ L = none → f₄ I = none → s₄.heap.get? D = some o4 → setOf led os = some o4 → s₄.heap.Ns L m → (∃ o, s₄.heap.get? I = some o) → Sti (items.length - xs.length) s₄.heap → outs = os ++ os' → CompS w k (relabelN scope.names gs) ρC x elt xs os' → C) → C) fun J hJ => ?_
    refine loop_set J ?_ items.length (by rw [hJ]; exact fun C kk => kk items [] outs (s0 led) f₁ _ rfl (by simp) (Nat.le_refl _) gstart (hfn D hD1) (hfn L hL1) (hfn I hdead) hDo rfl hns₁ hlive1 (by simpa using hstart) rfl hcl)
    intro n s₄ hh
    rw [hJ] at hh
    refine hh _ fun xs os os' o4 f₄ m hn hx hle g₄ hfD hfL hfI hDs hrl hns hIl hSt hout hCL => ?_
    clear hh
    have ok₄ := ok₁.grew g₄
    cases xs with
    | nil =>
      refine W.done s₄ _ _ (by simpa using hSt) fun h' tk hk => ?_
      have kk : ∀ b o, b ≠ I → s₄.heap.get? b = some o → h'.get? b = some o := fun b o hb e => hk b o (hIwr b hb) e
      obtain rfl : os' = [] := hCL
      have g₅ : Grew f₁ s₁ f₄ { s₄ with heap := h', toks := tk } := g₄.poke hdead hfI kk
      have hD5 : h'.get? D = some o4 := kk D _ (Ne.symm hID) hDs
      refine hQ _ f₄ D L m o4 (g₁.trans g₅) (by rw [hout, List.append_nil]; exact hrl) hD5 hfD ?_ hDC hfL ?_ ?_
      · exact keeps_dead g₁.keeps hD1
      · exact keeps_dead g₁.keeps hL1
      · obtain ⟨o, es, ep, ho, hd, hk2⟩ := hns
        exact ⟨o, es, ep, kk _ _ (Ne.symm hIL) ho, hd, hk2⟩
    | cons a xs =>
      have hlt : items.length - (a :: xs).length < items.length := by simp only [List.length_cons] at hle ⊢; omega
      refine W.item _ s₄ _ _ hlt hSt fun u h' tk hPv hst' hk => ?_
      have kk : ∀ b o, b ≠ I → s₄.heap.get? b = some o → h'.get? b = some o := fun b o hb e => hk b o (hIwr b hb) e
      refine ob1_2 (hP _ _ hPv) fun a' ha' ra => ?_
      have haa : a' = a := by
        have h1 : (items.drop (items.length - (a :: xs).length))[0]? = items[items.length - (a :: xs).length]? := by simp
        rw [hx, ha'] at h1
        simpa using h1.symm
      rw [haa] at ra
      have hlen1 : items.length - (a :: xs).length + 1 = items.length - xs.length := by simp only [List.length_cons] at hle ⊢; omega
      have hdrop : items.drop (items.length - xs.length) = xs := by
        have : items.drop (items.length - xs.length) = (items.drop (items.length - (a :: xs).length)).drop 1 := by rw [List.drop_drop, hlen1]
        rw [this, hx]; rfl
      have g₅ : Grew f₁ s₁ f₄ { s₄ with heap := h', toks := tk } := g₄.poke hdead hfI kk
      have hD5 : h'.get? D = some o4 := kk D _ (Ne.symm hID) hDs
      have hns5 : h'.Ns L m := by
        obtain ⟨o, es, ep, ho, hd, hk2⟩ := hns
        exact ⟨o, es, ep, kk _ _ (Ne.symm hIL) ho, hd, hk2⟩
      refine wpAny_assign_Name (wpAny_storeName_local (show (compEnvC scope (cloOf env scope.names []) L env).kindOf x = some .local from lookup_relabel_local C.hx) hns5 (fun h₂ hn₂ hs₂ => ?_) (by simp [compEnvC, relabel, C.kind]))
      have kk2 : ∀ b o, b ≠ L → h'.get? b = some o → h₂.get? b = some o := fun b o hb e => hs₂.extBut b o hb e
      dsimp only
      have g₆ := g₅.poke (tk := tk + 1) hL1 hfL kk2
      have hI6 : ∃ o, h₂.get? I = some o ∧ Solid o := by refine ob1_2 (hal _ _ hst') fun o e hs => ?_; exact ⟨o, kk2 _ _ hIL e, hs⟩
      have hst6 : Sti (items.length - xs.length) h₂ := by
        rw [← hlen1]
        refine W.frame _ _ _ hst' fun b hb o e => kk2 b o (fun q => ?_) e
        rcases hfp b hb with h1 | ⟨o', h1⟩
        · exact hIL (h1 ▸ q)
        · rw [q, hfn L hL1] at h1; cases h1
      have okC : Ok w (relabelN scope.names gs) (compEnvC scope (cloOf env scope.names []) L env) ((x, false, a) :: ρC) f₄ { s₄ with heap := h₂, toks := tk + 1 } := by
        refine ⟨ok₁.okf.grew g₆, by simp [compEnvC, relabel, C.kind], ok.glob, ok.blt, hgs, fun y hy => ?_, fun y c v' e => ?_⟩
        · have hm := relabel_mem C.nocell hy
          refine ob1_1 (hfree y hm) fun a ha => ?_
          exact ⟨a, by show (cloOf env scope.names []).lookup y = _; rw [hcells y hm]; exact ha⟩
        · rw [List.lookup_cons] at e
          cases hyx : y == x with
          | true =>
            have : y = x := by simpa using hyx
            subst this
            rw [hyx] at e; cases e
            exact ⟨by show (relabel scope env).names.lookup y = _; rw [hgs]; exact relabel_local C.hx, _, u, hn₂, by simp, ra.mono g₄.le⟩
          | false =>
            rw [hyx] at e
            refine ob0_3 (hρ y _ e) fun h1 h2 h3 => ?_
            dsimp only at h2
            subst h2
            have hm := mem_of_lookup h1
            have H := (ok₁.grew g₆).held y true v' h3
            obtain ⟨_, cc, val', hc1, hc2, hc3⟩ := H
            refine ⟨?_, cc, val', by show (cloOf env scope.names []).lookup y = _; rw [hcells y hm]; exact hc1, hc2, hc3⟩
            have hkk : (compEnvC scope (cloOf env scope.names []) L env).kindOf y = (relabelN scope.names gs).lookup y := by show (relabel scope env).names.lookup y = _; rw [hgs]
            rw [hkk]; exact relabel_free h1
      have next : ∀ s₇ f₇, Grew f₄ { s₄ with heap := h₂, toks := tk + 1 } f₇ s₇ → Grew f₁ s₁ f₇ s₇ ∧ f₇ D = none ∧ f₇ L = none ∧ f₇ I = none ∧ s₇.heap.get? D = some o4 ∧ s₇.heap.Ns L (fun y => if y = x then some u else m y) ∧ (∃ o, s₇.heap.get? I = some o) ∧ Sti (items.length - xs.length) s₇.heap := fun s₇ f₇ g₇ => by
        have nn : ∀ a, f₄ a = none → (∃ o, h₂.get? a = some o) → f₇ a = none := fun a h1 ⟨o, h2⟩ => by
          cases q : f₇ a with
          | none => rfl
          | some o' =>
            rcases g₇.new a o' q with h | h
            · rw [h1] at h; cases h
            · rw [show h₂.get? a = none from h] at h2; cases h2
        have hD6 : h₂.get? D = some o4 := kk2 D _ hDC hD5
        refine ⟨g₆.trans g₇, nn D hfD ⟨_, hD6⟩, nn L hfL ?_, nn I hfI (let ⟨o, e, _⟩ := hI6; ⟨o, e⟩), keeps_keep g₇.keeps hD6 (solid_setOf hrl), ns_keeps g₇.keeps hn₂, ?_, W.frame _ _ _ hst6 fun b hb o e => ?_⟩
        · obtain ⟨o, _, _, ho, _⟩ := hn₂; exact ⟨o, ho⟩
        · refine ob1_2 hI6 fun o e hs => ?_; clear hI6; exact ⟨o, keeps_keep g₇.keeps e hs⟩
        · rcases hfp b hb with rfl | ⟨o', e'⟩
          · refine ob1_2 hI6 fun o1 e1 hs1 => ?_; clear hI6
            rw [e1] at e; cases e
            exact keeps_keep g₇.keeps e1 hs1
          · have e4 := g₄.le _ _ e'
            have h1 := g₆.sub b o' e4
            rw [show h₂.get? b = some o' from h1] at e; cases e
            exact g₇.sub b _ (g₇.le _ _ e4)
      obtain ⟨b, bs', rfl, hel, hCL⟩ := hCL
      refine hel _ A f₄ _ rm okC _ _ fun y s₈ f₈ g₈ r₈ => ?_
      obtain rfl := rel_bool.mp r₈
      refine ob0_8 (next s₈ f₈ g₈) fun n1 n2 n3 n4 n5 n7 n8 n9 => ?_
      refine ob1_1 (C.ok led (os ++ [b]) bs' (by rw [hout]; simp)) fun o5 ho5 => ?_
      refine setadd_run hrl n5 ho5 fun h₉ tk9 h9D h9k => ?_
      refine ⟨xs.length, hn ▸ Nat.lt_succ_self _, ?_⟩
      rw [hJ]
      refine fun C kk => kk xs (os ++ [b]) bs' o5 f₈ (fun y => if y = x then some u else m y) rfl hdrop (Nat.le_of_succ_le hle) (n1.poke (tk := tk9) hD1 n2 h9k) n2 n3 n4 h9D ho5 ?_ ?_ ?_ (by rw [hout, List.append_assoc]; rfl) hCL
      · obtain ⟨o1, es, ep, ho, hd, hk2⟩ := n7
        exact ⟨o1, es, ep, h9k _ _ (Ne.symm hDC) ho, hd, hk2⟩
      · refine ob1_1 n8 fun o1 e => ?_; clear n8; exact ⟨o1, h9k _ _ hID e⟩
      · refine W.frame _ _ _ n9 fun b hb o1 e => h9k b o1 (fun q => ?_) e
        rcases hfp b hb with h1 | ⟨o', h1⟩
        · exact hID (h1 ▸ q)
        · rw [q, hfn D hD1] at h1; cases h1
  exact start_set (loop _ rfl) (W.self 0 _ _ _ hstart (loop _ rfl))
end
section
variable {w : World} {k : Nat} {gs : List (Str × NameKind)} {ρ : Rho} {σ : Sig} {Φ : Rho → Sig → Fl → Prop}
theorem x1_one {y : Str} {py tpos pos spos px : Pos} {kk : Nat} {elt iter : Expr} {x : Str} {scope : Scope} {bs : List Bool} (C : CompSIs w k gs ρ elt iter x scope bs) (hb : ∀ led, setOf led bs = some (s1 led))
    (hy : gs.lookup y = some .local) (h : Φ (put y (false, .bool true) ρ) (del y σ) .next) (hs : ∀ env x, foldedSetIterable iter env x = pure x := by intros; rfl) :
    Ex1 w k gs ρ σ (.Assign [.Tuple [.Name y py] kk tpos] (.SetComp elt [⟨.Name x px, iter, [], 0⟩] scope pos) spos) Φ := fun env A α f s M Q E rm L t hQ => by
  refine Assign_Tuple ?_ (by rfl) (by rfl)
  rw [arm_eval_SetComp]
  refine comps_core C rm t.ok (fun s' f' D C' m o g ho hD hfD hdD hDL hL hL0 hns => ?_) hs
  rw [hb] at ho
  cases ho
  refine ⟨m, hns, fun h' hs' => ?_⟩
  have g1 : Grew f s f' { s' with heap := h', toks := s'.toks } := g.poke hL0 hL fun b o hb e => hs'.extBut b o hb e
  have hD1 : h'.get? D = some (s1 (!w.params.followText "set-order")) := hs'.extBut D _ hDL hD
  show wpAny _ _ (assign (.Tuple [.Name y py] kk tpos) env (.ref D)) _ _ _
  rw [arm_assign_Tuple]
  refine wpAny_bind (wpAny_standAt ?_)
  unfold unpack
  show wpAny _ _ (holding _ (unpackItems (.ref D) 1 none) >>= fun xs => assignInOrder [assign (.Name y py) env] xs) _ _ _
  refine wpAny_bind (wpAny_holding (unpack1 (s := { s' with heap := h' }) rfl rm.handled hD1 fun h2 hk2 => ?_))
  have g2 : Grew f s f' { s' with heap := h2, toks := s'.toks } := by
    have := g1.trans (Grew.same (tk := s'.toks) g1.sub hk2)
    exact this
  show wpAny _ _ (do holding [] (assign (.Name y py) env (.bool true)); assignInOrder [] []) _ _ _
  refine wpAny_bind (wpAny_holding ?_)
  refine asg_name (asgn_local hy) env A α f' _ M _ _ E rm.handled (L.grew g2.keeps) (t.grew L g2) relB fun s3 t3 L3 g3 => ?_
  exact wpAny_pure (hQ .next .next _ _ α M f' s3 h rfl t3 L3 (g2.toS.trans g3))
end
noncomputable def EqbOk (w : World) (k : Nat) (a b : V) (c : Bool) : Prop :=
  ∀ (A : Around) (f : Fz) (s : Shared) (va vb : Value), Room k A → Okf w f s → Rel f a va → Rel f b vb → RunB w A f s (eqBool va vb) c
noncomputable def RcOk (w : World) (k : Nat) (op : CmpOp) (a b : V) (c : Bool) : Prop :=
  ∀ (A : Around) (f : Fz) (s : Shared) (va vb : Value), Room k A → Okf w f s → Rel f a va → Rel f b vb → Run w A f s (richCompare op va vb) (.bool c)
noncomputable def szC : CmpOp → Nat → Nat → Bool
  | .Eq, m, n => m == n
  | .NotEq, m, n => m != n
  | .Lt, m, n => decide (m < n)
  | .Gt, m, n => decide (m > n)
  | _, _, _ => false
noncomputable def opC : CmpOp → Int | .Lt => 0 | .Eq => 2 | .NotEq => 3 | .Gt => 4 | _ => 99
noncomputable def LCmp (w : World) (k : Nat) (op : CmpOp) (m n : Nat) : List V → List V → Bool → Prop
  | x :: l, y :: r, c => (EqbOk w k x y true ∧ LCmp w k op m n l r c) ∨ (EqbOk w k x y false ∧ match op with
    | .Eq => c = false
    | .NotEq => c = true
    | op => RcOk w k op x y c)
  | _, _, c => c = szC op m n
section
variable {w : World} {k : Nat}
theorem items_run {A : Around} {s : Shared} {a : Addr} {vs : List Value} {n : Nat} {Q : Array Value → Shared → Prop} {E : Value → Shared → Prop} (ho : s.heap.get? a = some (lstO vs n)) (h : Q vs.toArray s) : wpAny (model prg w) A (Builtin.List.listItems (.ref a)) Q E s := by
  unfold Builtin.List.listItems
  exact wpAny_bind (wpAny_seqItems ho rfl (wpAny_pure h))
theorem eqloop_lt {a b : Addr} {n1 n2 : Nat} {L1 L2 : List V} : ∀ (l r : List V) (i : Nat) (c : Bool) {A : Around} {f : Fz} {s : Shared} {vs us : List Value} {R : Result → Shared → Prop}, l = L1.drop i → r = L2.drop i →
    Room (k + 1) A → Okf w f s → f a = some (lstO vs n1) → f b = some (lstO us n2) → RelL f L1 vs → RelL f L2 us → LCmp w k .Lt L1.length L2.length l r c →
    (∀ s' f', Grew f s f' s' → R (.ok (.ret (.bool c))) s') → codeAny (model prg w) A (.builtin "list.__eq__.loop" ⟨[.ref a, .ref b, .int i 0, .int 0 0], []⟩) R s := by
  intro l
  have stop : ∀ (i : Nat) (c : Bool) {A : Around} {f : Fz} {s : Shared} {vs us : List Value} {R : Result → Shared → Prop}, (L1.drop i = [] ∨ L2.drop i = []) → Room (k + 1) A → Okf w f s → f a = some (lstO vs n1) → f b = some (lstO us n2) → RelL f L1 vs → RelL f L2 us → c = szC .Lt L1.length L2.length →
      (∀ s' f', Grew f s f' s' → R (.ok (.ret (.bool c))) s') → codeAny (model prg w) A (.builtin "list.__eq__.loop" ⟨[.ref a, .ref b, .int i 0, .int 0 0], []⟩) R s := by
    intro i c A f s vs us R hd rm ok ha hb r1 r2 hc hQ
    refine codeAny_builtin MeetsSeq3.entry_eq_loop ?_
    rw [Around.under_plainId MeetsSeq3.plain_eq_loop _]
    unfold Builtin.«list.__eq__.loop»
    have hga := ok.sub _ _ ha
    have hgb := ok.sub _ _ hb
    refine wpAny_bind (items_run hga (wpAny_bind (items_run hgb ?_)))
    have e : ((i : Nat) : Int).toNat = i := by omega
    rw [e]
    have e1 : vs.toArray.size = L1.length := by rw [List.size_toArray, r1.length]
    have e2 : us.toArray.size = L2.length := by rw [List.size_toArray, r2.length]
    have fin : wpAny (model prg w) A.in1 (do let x ← Builtin.List.listItems (.ref a); let y ← Builtin.List.listItems (.ref b); ret (.bool (szC .Lt x.size y.size)))
        (fun fin s' => match fin with | .done f => R (.ok f) s' | .again c' => c'.quiet = true ∧ codeAny (model prg w) A c' R s') (fun e s' => R (.error e) s') s := by
      refine wpAny_bind (items_run hga (wpAny_bind (items_run hgb (wpAny_pure ?_))))
      rw [e1, e2, ← hc]
      exact hQ _ _ ok.refl
    rcases hd with hd | hd
    · have hn : vs.toArray[i]? = none := by
        have := List.drop_eq_nil_iff.mp hd
        simp [r1.length]; exact this
      rw [hn]
      exact fin
    · have hn : us.toArray[i]? = none := by
        have := List.drop_eq_nil_iff.mp hd
        simp [r2.length]; exact this
      rw [hn]
      cases vs.toArray[i]? <;> exact fin
  induction l with
  | nil =>
    intro r i c A f s vs us R hl hr rm ok ha hb r1 r2 hc hQ
    exact stop i c (.inl hl.symm) rm ok ha hb r1 r2 (by cases r <;> exact hc) hQ
  | cons x l ih =>
    intro r i c A f s vs us R hl hr rm ok ha hb r1 r2 hc hQ
    cases r with
    | nil => exact stop i c (.inr hr.symm) rm ok ha hb r1 r2 hc hQ
    | cons y r =>
      refine codeAny_builtin MeetsSeq3.entry_eq_loop ?_
      rw [Around.under_plainId MeetsSeq3.plain_eq_loop _]
      unfold Builtin.«list.__eq__.loop»
      have hga := ok.sub _ _ ha
      have hgb := ok.sub _ _ hb
      refine wpAny_bind (items_run hga (wpAny_bind (items_run hgb ?_)))
      have e : ((i : Nat) : Int).toNat = i := by omega
      rw [e]
      have hx : L1[i]? = some x := by
        have : (L1.drop i)[0]? = L1[i]? := by simp
        rw [← hl] at this; simpa using this.symm
      have hy : L2[i]? = some y := by
        have : (L2.drop i)[0]? = L2[i]? := by simp
        rw [← hr] at this; simpa using this.symm
      refine ob1_2 (r1.get hx) fun u hu ru => ?_
      refine ob1_2 (r2.get hy) fun v hv rv => ?_
      have hu' : vs.toArray[i]? = some u := by simpa using hu
      have hv' : us.toArray[i]? = some v := by simpa using hv
      rw [hu', hv']
      have hl' : l = L1.drop (i + 1) := by
        have : L1.drop (i + 1) = (L1.drop i).drop 1 := by rw [List.drop_drop]
        rw [this, ← hl]; rfl
      have hr' : r = L2.drop (i + 1) := by
        have : L2.drop (i + 1) = (L2.drop i).drop 1 := by rw [List.drop_drop]
        rw [this, ← hr]; rfl
      rcases hc with ⟨he, hc⟩ | ⟨he, hc⟩
      · refine wpAny_bind (he A.in1 f s u v rm.in1 ok ru rv _ _ fun s' f' g => ?_)
        rw [if_pos rfl]
        have ok' := ok.grew g
        refine wpAny_pure ⟨plainId_quiet MeetsSeq3.plain_eq_loop _, ?_⟩
        have e3 : ((i : Int) + 1) = ((i + 1 : Nat) : Int) := by omega
        show codeAny _ _ (.builtin "list.__eq__.loop" ⟨[.ref a, .ref b, .int ((i : Int) + 1) 0, .int 0 0], []⟩) _ _
        rw [e3]
        exact ih r (i + 1) c hl' hr' rm ok' (g.le _ _ ha) (g.le _ _ hb) (r1.mono g.le) (r2.mono g.le) hc fun s'' f'' g' => hQ s'' f'' (g.trans g')
      · refine wpAny_bind (he A.in1 f s u v rm.in1 ok ru rv _ _ fun s' f' g => ?_)
        rw [if_neg (by decide)]
        have ok' := ok.grew g
        refine wpAny_bind (items_run (ok'.sub _ _ (g.le _ _ ha)) (wpAny_bind (items_run (ok'.sub _ _ (g.le _ _ hb)) ?_)))
        rw [hu', hv']
        refine wpAny_bind (hc A.in1 f' s' u v rm.in1 ok' (ru.mono g.le) (rv.mono g.le) _ _ fun val s'' f'' g' r' => ?_)
        obtain rfl := rel_bool.mp r'
        exact wpAny_pure (hQ s'' f'' (g.trans g'))
theorem eqloop_gt {a b : Addr} {n1 n2 : Nat} {L1 L2 : List V} : ∀ (l r : List V) (i : Nat) (c : Bool) {A : Around} {f : Fz} {s : Shared} {vs us : List Value} {R : Result → Shared → Prop}, l = L1.drop i → r = L2.drop i →
    Room (k + 1) A → Okf w f s → f a = some (lstO vs n1) → f b = some (lstO us n2) → RelL f L1 vs → RelL f L2 us → LCmp w k .Gt L1.length L2.length l r c →
    (∀ s' f', Grew f s f' s' → R (.ok (.ret (.bool c))) s') → codeAny (model prg w) A (.builtin "list.__eq__.loop" ⟨[.ref a, .ref b, .int i 0, .int 4 0], []⟩) R s := by
  intro l
  have stop : ∀ (i : Nat) (c : Bool) {A : Around} {f : Fz} {s : Shared} {vs us : List Value} {R : Result → Shared → Prop}, (L1.drop i = [] ∨ L2.drop i = []) → Room (k + 1) A → Okf w f s → f a = some (lstO vs n1) → f b = some (lstO us n2) → RelL f L1 vs → RelL f L2 us → c = szC .Gt L1.length L2.length →
      (∀ s' f', Grew f s f' s' → R (.ok (.ret (.bool c))) s') → codeAny (model prg w) A (.builtin "list.__eq__.loop" ⟨[.ref a, .ref b, .int i 0, .int 4 0], []⟩) R s := by
    intro i c A f s vs us R hd rm ok ha hb r1 r2 hc hQ
    refine codeAny_builtin MeetsSeq3.entry_eq_loop ?_
    rw [Around.under_plainId MeetsSeq3.plain_eq_loop _]
    unfold Builtin.«list.__eq__.loop»
    have hga := ok.sub _ _ ha
    have hgb := ok.sub _ _ hb
    refine wpAny_bind (items_run hga (wpAny_bind (items_run hgb ?_)))
    have e : ((i : Nat) : Int).toNat = i := by omega
    rw [e]
    have e1 : vs.toArray.size = L1.length := by rw [List.size_toArray, r1.length]
    have e2 : us.toArray.size = L2.length := by rw [List.size_toArray, r2.length]
    have fin : wpAny (model prg w) A.in1 (do let x ← Builtin.List.listItems (.ref a); let y ← Builtin.List.listItems (.ref b); ret (.bool (szC .Gt x.size y.size)))
        (fun fin s' => match fin with | .done f => R (.ok f) s' | .again c' => c'.quiet = true ∧ codeAny (model prg w) A c' R s') (fun e s' => R (.error e) s') s := by
      refine wpAny_bind (items_run hga (wpAny_bind (items_run hgb (wpAny_pure ?_))))
      rw [e1, e2, ← hc]
      exact hQ _ _ ok.refl
    rcases hd with hd | hd
    · have hn : vs.toArray[i]? = none := by
        have := List.drop_eq_nil_iff.mp hd
        simp [r1.length]; exact this
      rw [hn]
      exact fin
    · have hn : us.toArray[i]? = none := by
        have := List.drop_eq_nil_iff.mp hd
        simp [r2.length]; exact this
      rw [hn]
      cases vs.toArray[i]? <;> exact fin
  induction l with
  | nil =>
    intro r i c A f s vs us R hl hr rm ok ha hb r1 r2 hc hQ
    exact stop i c (.inl hl.symm) rm ok ha hb r1 r2 (by cases r <;> exact hc) hQ
  | cons x l ih =>
    intro r i c A f s vs us R hl hr rm ok ha hb r1 r2 hc hQ
    cases r with
    | nil => exact stop i c (.inr hr.symm) rm ok ha hb r1 r2 hc hQ
    | cons y r =>
      refine codeAny_builtin MeetsSeq3.entry_eq_loop ?_
      rw [Around.under_plainId MeetsSeq3.plain_eq_loop _]
      unfold Builtin.«list.__eq__.loop»
      have hga := ok.sub _ _ ha
      have hgb := ok.sub _ _ hb
      refine wpAny_bind (items_run hga (wpAny_bind (items_run hgb ?_)))
      have e : ((i : Nat) : Int).toNat = i := by omega
      rw [e]
      have hx : L1[i]? = some x := by
        have : (L1.drop i)[0]? = L1[i]? := by simp
        rw [← hl] at this; simpa using this.symm
      have hy : L2[i]? = some y := by
        have : (L2.drop i)[0]? = L2[i]? := by simp
        rw [← hr] at this; simpa using this.symm
      refine ob1_2 (r1.get hx) fun u hu ru => ?_
      refine ob1_2 (r2.get hy) fun v hv rv => ?_
      have hu' : vs.toArray[i]? = some u := by simpa using hu
      have hv' : us.toArray[i]? = some v := by simpa using hv
      rw [hu', hv']
      have hl' : l = L1.drop (i + 1) := by
        have : L1.drop (i + 1) = (L1.drop i).drop 1 := by rw [List.drop_drop]
        rw [this, ← hl]; rfl
      have hr' : r = L2.drop (i + 1) := by
        have : L2.drop (i + 1) = (L2.drop i).drop 1 := by rw [List.drop_drop]
        rw [this, ← hr]; rfl
      rcases hc with ⟨he, hc⟩ | ⟨he, hc⟩
      · refine wpAny_bind (he A.in1 f s u v rm.in1 ok ru rv _ _ fun s' f' g => ?_)
        rw [if_pos rfl]
        have ok' := ok.grew g
        refine wpAny_pure ⟨plainId_quiet MeetsSeq3.plain_eq_loop _, ?_⟩
        have e3 : ((i : Int) + 1) = ((i + 1 : Nat) : Int) := by omega
        show codeAny _ _ (.builtin "list.__eq__.loop" ⟨[.ref a, .ref b, .int ((i : Int) + 1) 0, .int 4 0], []⟩) _ _
        rw [e3]
        exact ih r (i + 1) c hl' hr' rm ok' (g.le _ _ ha) (g.le _ _ hb) (r1.mono g.le) (r2.mono g.le) hc fun s'' f'' g' => hQ s'' f'' (g.trans g')
      · refine wpAny_bind (he A.in1 f s u v rm.in1 ok ru rv _ _ fun s' f' g => ?_)
        rw [if_neg (by decide)]
        have ok' := ok.grew g
        refine wpAny_bind (items_run (ok'.sub _ _ (g.le _ _ ha)) (wpAny_bind (items_run (ok'.sub _ _ (g.le _ _ hb)) ?_)))
        rw [hu', hv']
        refine wpAny_bind (hc A.in1 f' s' u v rm.in1 ok' (ru.mono g.le) (rv.mono g.le) _ _ fun val s'' f'' g' r' => ?_)
        obtain rfl := rel_bool.mp r'
        exact wpAny_pure (hQ s'' f'' (g.trans g'))
theorem rc_lst_lt {l r : List V} {c : Bool} (h : LCmp w k .Lt l.length r.length l r c) : RcOk w (k + 2) .Lt (.lst l) (.lst r) c := fun A f s va vb rm ok ra rb Q E hQ => by
  refine ob3_3 (rel_lst.mp ra) fun a vs n1 z0 ha r1 => ?_; subst z0
  refine ob3_3 (rel_lst.mp rb) fun b us n2 z0 hb r2 => ?_; subst z0
  have hga := ok.sub _ _ ha
  have hgb := ok.sub _ _ hb
  have hTa : s.TypeIs (.ref a) "list" := ⟨_, hga, rfl⟩
  have hTb : s.TypeIs (.ref b) "list" := ⟨_, hgb, rfl⟩
  have hu : A.units < cLine := by have := rm.units; omega
  refine wpAny_richCompare_same_room hTa hTb F.slot_list_lt ?_ hu
  refine wpAny_call (codeAny_call_builtin (F.slot_list_lt).plain F.entry_list_lt ((F.slot_list_lt).check _ _ _ _ _ _ _ _ hTa (F.args_list_lt_2 _ _) ?_))
  unfold Builtin.«list.__lt__»
  show wpAny _ _ (isInstance (.ref b) (.type "list") >>= _) _ _ s
  refine wpAny_bind (wpAny_isInstance (b := true) hTb AutoSeq1.sub_list_list ?_)
  rw [if_neg (by decide)]
  rw [if_neg (by decide)]
  refine wpAny_pure ⟨plainId_quiet MeetsSeq3.plain_eq_loop _, ?_⟩
  exact eqloop_lt l r 0 c rfl rfl (rm.mono (by omega)) ok ha hb r1 r2 h fun s' f' g => ⟨(by intro e; cases e), hQ _ s' f' g relB⟩
theorem rc_lst_gt {l r : List V} {c : Bool} (h : LCmp w k .Gt l.length r.length l r c) : RcOk w (k + 2) .Gt (.lst l) (.lst r) c := fun A f s va vb rm ok ra rb Q E hQ => by
  refine ob3_3 (rel_lst.mp ra) fun a vs n1 z0 ha r1 => ?_; subst z0
  refine ob3_3 (rel_lst.mp rb) fun b us n2 z0 hb r2 => ?_; subst z0
  have hga := ok.sub _ _ ha
  have hgb := ok.sub _ _ hb
  have hTa : s.TypeIs (.ref a) "list" := ⟨_, hga, rfl⟩
  have hTb : s.TypeIs (.ref b) "list" := ⟨_, hgb, rfl⟩
  have hu : A.units < cLine := by have := rm.units; omega
  refine wpAny_richCompare_same_room hTa hTb F.slot_list_gt ?_ hu
  refine wpAny_call (codeAny_call_builtin (F.slot_list_gt).plain F.entry_list_gt ((F.slot_list_gt).check _ _ _ _ _ _ _ _ hTa (F.args_list_gt_2 _ _) ?_))
  unfold Builtin.«list.__gt__»
  show wpAny _ _ (isInstance (.ref b) (.type "list") >>= _) _ _ s
  refine wpAny_bind (wpAny_isInstance (b := true) hTb AutoSeq1.sub_list_list ?_)
  rw [if_neg (by decide)]
  rw [if_neg (by decide)]
  refine wpAny_pure ⟨plainId_quiet MeetsSeq3.plain_eq_loop _, ?_⟩
  exact eqloop_gt l r 0 c rfl rfl (rm.mono (by omega)) ok ha hb r1 r2 h fun s' f' g => ⟨(by intro e; cases e), hQ _ s' f' g relB⟩
theorem eqb_str {x y : Str} : EqbOk w k (.str x) (.str y) (x == y) := fun A f s va vb rm ok ra rb Q E hQ => by
  refine ob1_1 (rel_str.mp ra) fun t z0 => ?_; subst z0
  refine ob1_1 (rel_str.mp rb) fun u z0 => ?_; subst z0
  with_reducible exact PyProof.Rows.eqBool_str (hQ _ _ ok.refl)
end
section
variable {w : World} {k : Nat}
theorem c_min2 {a b : V} {c : Bool} (h : RcOk w k .Lt b a c) : CallOk w (k + 4) (.bi "min") [.lst [a, b]] (if c then b else a) := fun A f s vf vs rm ok rf ra Q E hQ => by
  obtain rfl := rel_bi.mp rf
  refine ob1_2 (relL1 ra) fun x z0 rx => ?_; subst z0
  have hname : (toString "min" ++ toString ".loop" : String) = "min.loop" := by decide
  refine call_function_tree F.kind_min F.plain_min F.entry_min (F.args_min1 _) ?_
  show wpAny _ A.in1 (Builtin.Builtins.bindParams "min" ["key", "default"] 0 ⟨[], []⟩ >>= _) _ _ s
  refine wpAny_bind (wpAny_of_eq (show Builtin.Builtins.bindParams "min" ["key", "default"] 0 ⟨[], []⟩ = pure [none, none] from rfl) ?_)
  refine wpAny_bind (wpAny_pure ?_)
  refine wpAny_bind (iter_lst (k := k + 3) A.in1 f s x _ _ (rm.in1 (k := k + 3)) ok rx fun I s2 kp hdead hlive it => ?_)
  refine ob4_7 it fun fp wr P Sti W hst hwr hfp hP hlg hal => ?_; clear it
  refine wpAny_bind (wpAny_newObj_type ?_)
  rw [hname]
  generalize hN : s2.heap.objs.size = N
  have hNd : s2.heap.get? N = none := by rw [← hN]; exact get?_size _
  have hNI : N ≠ I := fun q => by refine ob1_1 hlive fun o e => ?_; clear hlive; rw [← q, hNd] at e; cases e
  have hfN : f N = none := by
    cases q : f N with
    | none => rfl
    | some o => rw [keepX kp (ok.sub _ _ q)] at hNd; cases hNd
  have hNf : ∀ b ∈ fp, b ≠ N := fun b hb q => by
    rcases hfp b hb with h1 | ⟨o, h1⟩
    · exact hNI (q ▸ h1)
    · rw [q, hfN] at h1; cases h1
  have hIwr : ∀ b, b ≠ I → b ∉ wr := fun b hb hm => hb (hwr b hm)
  have hsd : s.heap.get? N = none := by
    cases q : s.heap.get? N with
    | none => rfl
    | some o => rw [keepX kp q] at hNd; cases hNd
  have hfI : f I = none := by
    cases q : f I with
    | none => rfl
    | some o => rw [ok.sub _ _ q] at hdead; cases hdead
  have g0 : Grew f s f s2 := Grew.keep ok.sub kp
  have hS0 : (s2.heap.push (lstO [] 0)).get? N = some (lstO [] 0) := by rw [← hN]; exact Heap.get?_push_size _ rfl
  have g1 : Grew f s f { s2 with heap := s2.heap.push (lstO [] 0) } := g0.trans (Grew.same (tk := s2.toks) g0.sub fun b o e => Heap.get?_push_of_some _ e)
  have st1 : Sti 0 (s2.heap.push (lstO [] 0)) := W.frame _ _ _ hst fun b _ o e => Heap.get?_push_of_some _ e
  -- the first item
  refine wpAny_pure ⟨plainId_quiet F.plain_min_loop _, codeAny_builtin F.entry_min_loop ?_⟩
  rw [Around.under_plainId F.plain_min_loop _]
  show wpAny _ A.in1 (seqItems? (.ref N) >>= _) _ _ _
  refine wpAny_bind (wpAny_seqItems hS0 rfl ?_)
  show wpAny _ A.in1 (tryCatch (pyNext (.ref I)) _ >>= _) _ _ _
  refine wpAny_bind (wpAny_tryCatch (W.item 0 { s2 with heap := s2.heap.push (lstO [] 0) } _ _ (by simp) st1 fun u h1 t1 hP1 st2 hk1 => ?_))
  refine ob1_2 (hP 0 u hP1) fun a' ha' ru => ?_
  obtain rfl : a = a' := by simpa using ha'
  have kk1 : ∀ b o, b ≠ I → (s2.heap.push (lstO [] 0)).get? b = some o → h1.get? b = some o := fun b o hb e => hk1 b o (hIwr b hb) e
  have hS1 : h1.get? N = some (lstO [] 0) := kk1 N _ hNI hS0
  have g2 : Grew f s f { s2 with heap := h1, toks := t1 } := g1.poke hdead hfI kk1
  show wpAny _ A.in1 (updateSeq N (fun _ => #[u, u]) >>= _) _ _ _
  refine wpAny_bind (wpAny_updateSeq hS1 rfl ?_)
  have hS2 : (h1.update N (Obj.mapSeq fun _ => #[u, u])).get? N = some _ := Heap.get?_update_self _ hS1 rfl
  have kk2 : ∀ b o, b ≠ N → h1.get? b = some o → (h1.update N (Obj.mapSeq fun _ => #[u, u])).get? b = some o := fun b o hb e => (Heap.get?_update_other _ _ (Ne.symm hb)).trans e
  have g3 : Grew f s f { s2 with heap := h1.update N (Obj.mapSeq fun _ => #[u, u]), toks := t1 } := g2.poke hsd hfN kk2
  have st3 : Sti 1 (h1.update N (Obj.mapSeq fun _ => #[u, u])) := W.frame _ _ _ st2 fun b hb o e => kk2 b o (hNf b hb) e
  rw [hname]
  -- the second
  refine wpAny_pure ⟨plainId_quiet F.plain_min_loop _, codeAny_builtin F.entry_min_loop ?_⟩
  rw [Around.under_plainId F.plain_min_loop _]
  show wpAny _ A.in1 (seqItems? (.ref N) >>= _) _ _ _
  refine wpAny_bind (wpAny_seqItems hS2 rfl ?_)
  show wpAny _ A.in1 (tryCatch (pyNext (.ref I)) _ >>= _) _ _ _
  refine wpAny_bind (wpAny_tryCatch (W.item 1 { s2 with heap := h1.update N (Obj.mapSeq fun _ => #[u, u]), toks := t1 } _ _ (by simp) st3 fun v h4 t4 hP4 st4 hk4 => ?_))
  refine ob1_2 (hP 1 v hP4) fun b' hb' rv => ?_
  obtain rfl : b = b' := by simpa using hb'
  have kk4 : ∀ b o, b ≠ I → (h1.update N (Obj.mapSeq fun _ => #[u, u])).get? b = some o → h4.get? b = some o := fun b o hb e => hk4 b o (hIwr b hb) e
  have hS4 := kk4 N _ hNI hS2
  have g4 : Grew f s f { s2 with heap := h4, toks := t4 } := g3.poke hdead hfI kk4
  show wpAny _ A.in1 (tryCatch (holding [v, v] (richCompare .Lt v u >>= _)) _ >>= _) _ _ _
  refine wpAny_bind (wpAny_tryCatch (wpAny_holding (wpAny_bind (h A.in1 f _ v u ((rm.mono (k' := k + 1) (by omega)).in1) (ok.grew g4) rv ru _ _ fun val s5 f5 g5 r5 => ?_))))
  obtain rfl := rel_bool.mp r5
  refine wpAny_bind (wpAny_holding (wpAny_truthy_bool ?_))
  refine wpAny_bind (wpAny_letGo (wpAny_pure ?_))
  have hS5 := keeps_keep g5.keeps hS4 (solid_cls (T := "list") rfl (by intro _ _ q; cases q))
  have g45 := g4.trans g5
  have st5 : Sti 2 s5.heap := W.frame _ _ _ st4 fun b hb o e => by
    rcases hfp b hb with rfl | ⟨o', e'⟩
    · refine ob1_2 (hal _ _ st4) fun o1 e1 hs1 => ?_
      rw [e1] at e; cases e
      exact keeps_keep g5.keeps e1 hs1
    · have h1 := g4.sub b o' e'
      rw [show h4.get? b = some o' from h1] at e; cases e
      exact g5.sub b _ (g5.le _ _ e')
  have alive : ∀ b, (∃ o, h4.get? b = some o) → f b = none → f5 b = none := fun b ⟨o, ho⟩ hb => by
    cases q : f5 b with
    | none => rfl
    | some o' =>
      rcases g5.new b o' q with h1 | h1
      · rw [hb] at h1; cases h1
      · rw [show h4.get? b = none from h1] at ho; cases ho
  have hf5N : f5 N = none := alive N ⟨_, hS4⟩ hfN
  have hf5I : f5 I = none := alive I (let ⟨o, e, _⟩ := hal _ _ st4; ⟨o, e⟩) hfI
  have last : ∀ (h6 : Heap) (x : V) (y : Value) (cap : Nat), h6.get? N = some { cls := .type "list", dict := none, data := .seq #[y, y] cap, slots := #[] } → Grew f s f5 { s5 with heap := h6 } → Sti 2 h6 → Rel f5 x y → (∀ val s' f', Grew f s f' s' → Rel f' x val → Q val s') →
      codeAny (model prg w) A (.builtin "min.loop" ⟨[.ref I, .none, .ref N], []⟩) (fun r s' => match r with | .ok (.ret v) => Q v s' | .ok _ => False | .error e => E e s') { s5 with heap := h6 } := fun h6 x y cap hS6 g6 st6 rxy hQ' => by
    refine codeAny_builtin F.entry_min_loop ?_
    rw [Around.under_plainId F.plain_min_loop _]
    show wpAny _ A.in1 (seqItems? (.ref N) >>= _) _ _ _
    refine wpAny_bind (wpAny_seqItems hS6 rfl ?_)
    show wpAny _ A.in1 (tryCatch (pyNext (.ref I)) _ >>= _) _ _ _
    refine wpAny_bind (wpAny_tryCatch (W.done { s5 with heap := h6 } _ _ st6 fun h7 t7 hk7 => ?_))
    have kk7 : ∀ b o, b ≠ I → h6.get? b = some o → h7.get? b = some o := fun b o hb e => hk7 b o (hIwr b hb) e
    have hS7 := kk7 N _ hNI hS6
    have g7 : Grew f s f5 { s5 with heap := h7, toks := t7 } := g6.poke hdead hf5I kk7
    show wpAny _ A.in1 (updateSeq N (fun _ => #[]) >>= _) _ _ _
    refine wpAny_bind (wpAny_updateSeq hS7 rfl (wpAny_bind (wpAny_letGo (wpAny_pure ?_))))
    exact hQ' y _ f5 (g7.poke (tk := t7) hsd hf5N fun b o hb e => (Heap.get?_update_other _ _ (Ne.symm hb)).trans e) rxy
  cases c with
  | true =>
    rw [if_pos rfl]
    refine wpAny_bind (wpAny_updateSeq hS5 rfl (wpAny_bind (wpAny_letGo ?_)))
    rw [hname]
    have kk6 : ∀ b o, b ≠ N → s5.heap.get? b = some o → (s5.heap.update N (Obj.mapSeq fun _ => #[v, v])).get? b = some o := fun b o hb e => (Heap.get?_update_other _ _ (Ne.symm hb)).trans e
    refine wpAny_pure ⟨plainId_quiet F.plain_min_loop _, last _ b v _ (Heap.get?_update_self _ hS5 rfl) (g45.poke (tk := s5.toks) hsd hf5N kk6) (W.frame _ _ _ st5 fun b hb o e => kk6 b o (hNf b hb) e) (rv.mono g5.le) hQ⟩
  | false =>
    rw [if_neg (by decide)]
    refine wpAny_bind (wpAny_letGo ?_)
    rw [hname]
    refine wpAny_pure ⟨plainId_quiet F.plain_min_loop _, last s5.heap a u _ hS5 g45 st5 (ru.mono g5.le) hQ⟩
theorem c_max2 {a b : V} {c : Bool} (h : RcOk w k .Gt b a c) : CallOk w (k + 4) (.bi "max") [.lst [a, b]] (if c then b else a) := fun A f s vf vs rm ok rf ra Q E hQ => by
  obtain rfl := rel_bi.mp rf
  refine ob1_2 (relL1 ra) fun x z0 rx => ?_; subst z0
  have hname : (toString "max" ++ toString ".loop" : String) = "max.loop" := by decide
  refine call_function_tree F.kind_max F.plain_max F.entry_max (F.args_max1 _) ?_
  show wpAny _ A.in1 (Builtin.Builtins.bindParams "max" ["key", "default"] 0 ⟨[], []⟩ >>= _) _ _ s
  refine wpAny_bind (wpAny_of_eq (show Builtin.Builtins.bindParams "max" ["key", "default"] 0 ⟨[], []⟩ = pure [none, none] from rfl) ?_)
  refine wpAny_bind (wpAny_pure ?_)
  refine wpAny_bind (iter_lst (k := k + 3) A.in1 f s x _ _ (rm.in1 (k := k + 3)) ok rx fun I s2 kp hdead hlive it => ?_)
  refine ob4_7 it fun fp wr P Sti W hst hwr hfp hP hlg hal => ?_; clear it
  refine wpAny_bind (wpAny_newObj_type ?_)
  rw [hname]
  generalize hN : s2.heap.objs.size = N
  have hNd : s2.heap.get? N = none := by rw [← hN]; exact get?_size _
  have hNI : N ≠ I := fun q => by refine ob1_1 hlive fun o e => ?_; clear hlive; rw [← q, hNd] at e; cases e
  have hfN : f N = none := by
    cases q : f N with
    | none => rfl
    | some o => rw [keepX kp (ok.sub _ _ q)] at hNd; cases hNd
  have hNf : ∀ b ∈ fp, b ≠ N := fun b hb q => by
    rcases hfp b hb with h1 | ⟨o, h1⟩
    · exact hNI (q ▸ h1)
    · rw [q, hfN] at h1; cases h1
  have hIwr : ∀ b, b ≠ I → b ∉ wr := fun b hb hm => hb (hwr b hm)
  have hsd : s.heap.get? N = none := by
    cases q : s.heap.get? N with
    | none => rfl
    | some o => rw [keepX kp q] at hNd; cases hNd
  have hfI : f I = none := by
    cases q : f I with
    | none => rfl
    | some o => rw [ok.sub _ _ q] at hdead; cases hdead
  have g0 : Grew f s f s2 := Grew.keep ok.sub kp
  have hS0 : (s2.heap.push (lstO [] 0)).get? N = some (lstO [] 0) := by rw [← hN]; exact Heap.get?_push_size _ rfl
  have g1 : Grew f s f { s2 with heap := s2.heap.push (lstO [] 0) } := g0.trans (Grew.same (tk := s2.toks) g0.sub fun b o e => Heap.get?_push_of_some _ e)
  have st1 : Sti 0 (s2.heap.push (lstO [] 0)) := W.frame _ _ _ hst fun b _ o e => Heap.get?_push_of_some _ e
  -- the first item
  refine wpAny_pure ⟨plainId_quiet F.plain_max_loop _, codeAny_builtin F.entry_max_loop ?_⟩
  rw [Around.under_plainId F.plain_max_loop _]
  show wpAny _ A.in1 (seqItems? (.ref N) >>= _) _ _ _
  refine wpAny_bind (wpAny_seqItems hS0 rfl ?_)
  show wpAny _ A.in1 (tryCatch (pyNext (.ref I)) _ >>= _) _ _ _
  refine wpAny_bind (wpAny_tryCatch (W.item 0 { s2 with heap := s2.heap.push (lstO [] 0) } _ _ (by simp) st1 fun u h1 t1 hP1 st2 hk1 => ?_))
  refine ob1_2 (hP 0 u hP1) fun a' ha' ru => ?_
  obtain rfl : a = a' := by simpa using ha'
  have kk1 : ∀ b o, b ≠ I → (s2.heap.push (lstO [] 0)).get? b = some o → h1.get? b = some o := fun b o hb e => hk1 b o (hIwr b hb) e
  have hS1 : h1.get? N = some (lstO [] 0) := kk1 N _ hNI hS0
  have g2 : Grew f s f { s2 with heap := h1, toks := t1 } := g1.poke hdead hfI kk1
  show wpAny _ A.in1 (updateSeq N (fun _ => #[u, u]) >>= _) _ _ _
  refine wpAny_bind (wpAny_updateSeq hS1 rfl ?_)
  have hS2 : (h1.update N (Obj.mapSeq fun _ => #[u, u])).get? N = some _ := Heap.get?_update_self _ hS1 rfl
  have kk2 : ∀ b o, b ≠ N → h1.get? b = some o → (h1.update N (Obj.mapSeq fun _ => #[u, u])).get? b = some o := fun b o hb e => (Heap.get?_update_other _ _ (Ne.symm hb)).trans e
  have g3 : Grew f s f { s2 with heap := h1.update N (Obj.mapSeq fun _ => #[u, u]), toks := t1 } := g2.poke hsd hfN kk2
  have st3 : Sti 1 (h1.update N (Obj.mapSeq fun _ => #[u, u])) := W.frame _ _ _ st2 fun b hb o e => kk2 b o (hNf b hb) e
  rw [hname]
  -- the second
  refine wpAny_pure ⟨plainId_quiet F.plain_max_loop _, codeAny_builtin F.entry_max_loop ?_⟩
  rw [Around.under_plainId F.plain_max_loop _]
  show wpAny _ A.in1 (seqItems? (.ref N) >>= _) _ _ _
  refine wpAny_bind (wpAny_seqItems hS2 rfl ?_)
  show wpAny _ A.in1 (tryCatch (pyNext (.ref I)) _ >>= _) _ _ _
  refine wpAny_bind (wpAny_tryCatch (W.item 1 { s2 with heap := h1.update N (Obj.mapSeq fun _ => #[u, u]), toks := t1 } _ _ (by simp) st3 fun v h4 t4 hP4 st4 hk4 => ?_))
  refine ob1_2 (hP 1 v hP4) fun b' hb' rv => ?_
  obtain rfl : b = b' := by simpa using hb'
  have kk4 : ∀ b o, b ≠ I → (h1.update N (Obj.mapSeq fun _ => #[u, u])).get? b = some o → h4.get? b = some o := fun b o hb e => hk4 b o (hIwr b hb) e
  have hS4 := kk4 N _ hNI hS2
  have g4 : Grew f s f { s2 with heap := h4, toks := t4 } := g3.poke hdead hfI kk4
  show wpAny _ A.in1 (tryCatch (holding [v, v] (richCompare .Gt v u >>= _)) _ >>= _) _ _ _
  refine wpAny_bind (wpAny_tryCatch (wpAny_holding (wpAny_bind (h A.in1 f _ v u ((rm.mono (k' := k + 1) (by omega)).in1) (ok.grew g4) rv ru _ _ fun val s5 f5 g5 r5 => ?_))))
  obtain rfl := rel_bool.mp r5
  refine wpAny_bind (wpAny_holding (wpAny_truthy_bool ?_))
  refine wpAny_bind (wpAny_letGo (wpAny_pure ?_))
  have hS5 := keeps_keep g5.keeps hS4 (solid_cls (T := "list") rfl (by intro _ _ q; cases q))
  have g45 := g4.trans g5
  have st5 : Sti 2 s5.heap := W.frame _ _ _ st4 fun b hb o e => by
    rcases hfp b hb with rfl | ⟨o', e'⟩
    · refine ob1_2 (hal _ _ st4) fun o1 e1 hs1 => ?_
      rw [e1] at e; cases e
      exact keeps_keep g5.keeps e1 hs1
    · have h1 := g4.sub b o' e'
      rw [show h4.get? b = some o' from h1] at e; cases e
      exact g5.sub b _ (g5.le _ _ e')
  have alive : ∀ b, (∃ o, h4.get? b = some o) → f b = none → f5 b = none := fun b ⟨o, ho⟩ hb => by
    cases q : f5 b with
    | none => rfl
    | some o' =>
      rcases g5.new b o' q with h1 | h1
      · rw [hb] at h1; cases h1
      · rw [show h4.get? b = none from h1] at ho; cases ho
  have hf5N : f5 N = none := alive N ⟨_, hS4⟩ hfN
  have hf5I : f5 I = none := alive I (let ⟨o, e, _⟩ := hal _ _ st4; ⟨o, e⟩) hfI
  have last : ∀ (h6 : Heap) (x : V) (y : Value) (cap : Nat), h6.get? N = some { cls := .type "list", dict := none, data := .seq #[y, y] cap, slots := #[] } → Grew f s f5 { s5 with heap := h6 } → Sti 2 h6 → Rel f5 x y → (∀ val s' f', Grew f s f' s' → Rel f' x val → Q val s') →
      codeAny (model prg w) A (.builtin "max.loop" ⟨[.ref I, .none, .ref N], []⟩) (fun r s' => match r with | .ok (.ret v) => Q v s' | .ok _ => False | .error e => E e s') { s5 with heap := h6 } := fun h6 x y cap hS6 g6 st6 rxy hQ' => by
    refine codeAny_builtin F.entry_max_loop ?_
    rw [Around.under_plainId F.plain_max_loop _]
    show wpAny _ A.in1 (seqItems? (.ref N) >>= _) _ _ _
    refine wpAny_bind (wpAny_seqItems hS6 rfl ?_)
    show wpAny _ A.in1 (tryCatch (pyNext (.ref I)) _ >>= _) _ _ _
    refine wpAny_bind (wpAny_tryCatch (W.done { s5 with heap := h6 } _ _ st6 fun h7 t7 hk7 => ?_))
    have kk7 : ∀ b o, b ≠ I → h6.get? b = some o → h7.get? b = some o := fun b o hb e => hk7 b o (hIwr b hb) e
    have hS7 := kk7 N _ hNI hS6
    have g7 : Grew f s f5 { s5 with heap := h7, toks := t7 } := g6.poke hdead hf5I kk7
    show wpAny _ A.in1 (updateSeq N (fun _ => #[]) >>= _) _ _ _
    refine wpAny_bind (wpAny_updateSeq hS7 rfl (wpAny_bind (wpAny_letGo (wpAny_pure ?_))))
    exact hQ' y _ f5 (g7.poke (tk := t7) hsd hf5N fun b o hb e => (Heap.get?_update_other _ _ (Ne.symm hb)).trans e) rxy
  cases c with
  | true =>
    rw [if_pos rfl]
    refine wpAny_bind (wpAny_updateSeq hS5 rfl (wpAny_bind (wpAny_letGo ?_)))
    rw [hname]
    have kk6 : ∀ b o, b ≠ N → s5.heap.get? b = some o → (s5.heap.update N (Obj.mapSeq fun _ => #[v, v])).get? b = some o := fun b o hb e => (Heap.get?_update_other _ _ (Ne.symm hb)).trans e
    refine wpAny_pure ⟨plainId_quiet F.plain_max_loop _, last _ b v _ (Heap.get?_update_self _ hS5 rfl) (g45.poke (tk := s5.toks) hsd hf5N kk6) (W.frame _ _ _ st5 fun b hb o e => kk6 b o (hNf b hb) e) (rv.mono g5.le) hQ⟩
  | false =>
    rw [if_neg (by decide)]
    refine wpAny_bind (wpAny_letGo ?_)
    rw [hname]
    refine wpAny_pure ⟨plainId_quiet F.plain_max_loop _, last s5.heap a u _ hS5 g45 st5 (ru.mono g5.le) hQ⟩
end
section
variable {w : World} {k : Nat} {nm : List (Str × NameKind)} {ρ : Rho} {σ : Sig} {Φ : Rho → Sig → Fl → Prop} {env : Env} {α : Str → Addr} {M : Addr → Prop} {f : Fz} {s : Shared}
theorem St.otherN (t : St w nm env ρ σ α M f s) {N : Addr → Prop} (hI : ∀ a, N a → ¬ M a) (hf : ∀ a, N a → f a = none) (hT : ∀ a, N a → a ≠ tabA) {h' : Heap} {tk : Nat} (kp : ∀ b o, ¬ N b → s.heap.get? b = some o → h'.get? b = some o) :
    St w nm env ρ σ α M f { s with heap := h', toks := tk } := by
  have kM : ∀ b o, M b → s.heap.get? b = some o → h'.get? b = some o := fun b o hb e => kp b o (fun q => hI b q hb) e
  refine ⟨⟨fun a o e => kp a o (fun q => by rw [hf a q] at e; cases e) (t.okf.sub a o e), t.okf.top, t.okf.tab.keep (Fz.Le.refl f) fun _ e => kp _ _ (fun q => hT _ q rfl) e, t.okf.tabn⟩, t.kind, t.glob, t.blt, t.nms, t.nofree, t.free, t.ML, ?_, fun x hx => ?_, t.inj, fun x v e => ?_, fun x l e => ?_, fun x c l e => ?_, t.injO⟩
  · refine ob1_3 t.loc fun m z0 h1 h2 => ?_; obtain ⟨o, es, ep, ho, hd, hk⟩ := z0
    exact ⟨m, ⟨o, es, ep, kM _ _ t.ML ho, hd, hk⟩, h1, h2⟩
  · refine ob2_3 (t.cells x hx) fun a vo h1 h2 z0 => ?_; obtain ⟨o, h3, h4⟩ := z0
    exact ⟨a, vo, h1, h2, o, kM _ _ h2 h3, h4⟩
  · refine ob0_2 (t.cel x v e) fun hk z0 => ?_; obtain ⟨a, val, h1, ⟨o, h3, h4⟩, r⟩ := z0
    refine ob2_3 (t.cells x hk) fun a' vo e1 e2 _ => ?_
    rw [h1] at e1; cases e1
    exact ⟨hk, a, val, h1, ⟨o, kM _ _ e2 h3, h4⟩, r⟩
  · refine ob0_2 (t.celO x l e) fun hk z0 => ?_; obtain ⟨a, h1, ⟨o, h3, h4⟩⟩ := z0
    refine ob2_3 (t.cells x hk) fun a' vo e1 e2 _ => ?_
    rw [h1] at e1; cases e1
    exact ⟨hk, a, h1, o, kM _ _ e2 h3, h4⟩
  · refine ob0_2 (t.own x c l e) fun hM z0 => ?_; obtain ⟨vs, n, h1, r⟩ := z0
    exact ⟨hM, vs, n, kM _ _ hM h1, r⟩
theorem Live.otherN (L : Live M s) {N : Addr → Prop} (hI : ∀ a, N a → ¬ M a) {h' : Heap} {tk : Nat} (kp : ∀ b o, ¬ N b → s.heap.get? b = some o → h'.get? b = some o) : Live M { s with heap := h', toks := tk } := fun a ha => by
  refine ob1_1 (L a ha) fun o e => ?_; exact ⟨o, kp a o (fun q => hI a q ha) e⟩
theorem GrewS.otherN {M₀ : Addr → Prop} {f₀ : Fz} {s₀ : Shared} (g : GrewS M₀ f₀ s₀ M f s) {N : Addr → Prop} (hI : ∀ a, N a → s₀.heap.get? a = none) {h' : Heap} {tk : Nat} (kp : ∀ b o, ¬ N b → s.heap.get? b = some o → h'.get? b = some o) :
    GrewS M₀ f₀ s₀ M f { s with heap := h', toks := tk } := by
  refine ⟨g.le, g.new, ?_, g.M', TabOk.poke g.tab g.le hI kp⟩
  refine ob2_2 g.keeps fun h tk' z0 kk => ?_; subst z0
  refine ⟨h', tk, rfl, fun b o hb e => ?_⟩
  refine ob1_2 (kk b o hb e) fun o' e' al => ?_
  exact ⟨o', kp b o' (fun q => by rw [hI b q] at e; cases e) e', al⟩
theorem asg_tupT {elts : List Expr} {kk : Nat} {pos : Pos} {l : List V} {ρ' σ'} (h : AsgL w nm ((nsOf elts).map (·.1)) l ρ σ ρ' σ') (hel : tgts (nsOf elts) = elts) (hlen : (nsOf elts).length = l.length) {A : Around} {T : Addr} {vals : Array Value} {Q : Unit → Shared → Prop} {E : Value → Shared → Prop}
    (hh : A.handled = none) (L : Live M s) (t : St w nm env ρ σ α M f s) (hT : s.heap.IsTuple T vals) (rl : RelL f l vals.toList) (hQ : ∀ s', St w nm env ρ' σ' α M f s' → Live M s' → GrewS M f s M f s' → Q () s') : wpAny (model prg w) A (assign (.Tuple elts kk pos) env (.ref T)) Q E s := by
  rw [← hel]
  refine wpAny_assign_Tuple (items := vals) hh hT ?_ ?_ ?_
  · rw [each_names, List.length_map, hlen, ← rl.length]; simp
  · rw [each_names, List.findIdx?_eq_none_iff]
    intro x hx
    refine ob1_2 (List.mem_map.mp hx) fun p _ z0 => ?_; subst z0
    rfl
  · intro h' hext
    have kp : ∀ b o, s.heap.get? b = some o → h'.get? b = some o := fun b o e => hext b o (Nat.ne_of_lt (Heap.lt_size e)) e
    have g : Grew f s f { s with heap := h', toks := s.toks } := Grew.same t.okf.sub kp
    rw [each_names]
    have e : (((nsOf elts).map fun p => (false, assign (.Name p.1 p.2) env)).map (·.2)) = (nsOf elts).map fun p => assign (.Name p.1 p.2) env := by rw [List.map_map]; rfl
    rw [e]
    exact in_order (·.1) (fun p => assign (.Name p.1 p.2) env) (fun n v Q s h => wpAny_assign_Name h) hh (nsOf elts) h (L.grew g.keeps) (t.grew L g) rl fun s' t' L' g' => hQ s' t' L' (g.toS.trans g')
noncomputable def LoopE (w : World) (k : Nat) (nm : List (Str × NameKind)) (ns : List Str) (body : List Stmt) : List V → Nat → Rho → Sig → (Rho → Sig → Fl → Prop) → Prop
  | [], _, ρ, σ, Φ => Φ ρ σ .next
  | x :: xs, i, ρ, σ, Φ => ∃ ρ₁ σ₁, AsgL w nm ns [.int (Int.ofNat i), x] ρ σ ρ₁ σ₁ ∧ Ex w k nm ρ₁ σ₁ body fun ρ' σ' fl => match fl with
    | .next => LoopE w k nm ns body xs (i + 1) ρ' σ' Φ
    | .cont => LoopE w k nm ns body xs (i + 1) ρ' σ' Φ
    | .brk => Φ ρ' σ' .next
    | .ret v => Φ ρ' σ' (.ret v)
theorem enum_run {items : List V} {fn e : Expr} {p : Pos} {env : Env} {A : Around} {f : Fz} {s : Shared} {Q : Value → Shared → Prop} {E : Value → Shared → Prop} (hfn : Evals w k nm ρ fn (.typ "enumerate")) (he : Evals w k nm ρ e (.lst items))
    (hp : ∀ env, starEach [e] env = (evalEach [e] env).map fun t => (false, t)) (hc : ∀ env, eval (.Call fn [e] [] p) env = (do callWith p (← eval fn env) [] (backTo p (starEach [e] env)) (backToKw p (keywordEach [] env)))) (rm : Room k A) (ok : Ok w nm env ρ f s)
    (hQ : ∀ (s2 : Shared) (f2 : Fz) (l : Addr) (us : List Value) (n : Nat) (h3 : Heap), Grew f s f2 s2 → f2 l = some (lstO us n) → RelL f2 items us → IsEnum h3 (s2.heap.objs.size + 1) s2.heap.objs.size 0 .none → h3.IsListIter s2.heap.objs.size l 0 → (∀ b o, s2.heap.get? b = some o → h3.get? b = some o) → Q (.ref (s2.heap.objs.size + 1)) { s2 with heap := h3, toks := s2.toks }) :
    wpAny (model prg w) A (eval (.Call fn [e] [] p) env) (fun x s₁ => wpAny (model prg w) A (pyIter x) Q E s₁) E s := by
  refine Call_ (hfn env A f s rm ok _ _ fun vf s1 f1 g1 r1 => ?_) (hc env)
  obtain rfl := rel_typ.mp r1
  have ok1 := ok.grew g1
  refine _root_.PySem.callWith_type (any_plain (hp env) p) ?_
  refine args_run (evl_cons he evl_nil (fun env => by rw [hp env]; rfl)) rm ok1 (hp env) fun vs s2 f2 g2 r2 => ?_
  refine ob1_2 (relL1 r2) fun x z0 rx => ?_; subst z0
  refine ob3_3 (rel_lst.mp rx) fun l us n z0 hl0 rl => ?_; subst z0
  refine call_enumerate_list (isList_of ((ok1.grew g2).okf.sub _ _ hl0)) fun h3 hE hI hsz hk3 => ?_
  exact wpAny_pyIter_enum hE (hQ s2 f2 l us n h3 (g1.trans g2) hl0 rl hE hI hk3)
theorem x1_enum {elts : List Expr} {kk : Nat} {tp p pos : Pos} {fn e : Expr} {body : List Stmt} {items : List V} (hfn : Evals w k nm ρ fn (.typ "enumerate")) (he : Evals w k nm ρ e (.lst items)) (hel : tgts (nsOf elts) = elts) (hln : (nsOf elts).length = 2)
    (hl : LoopE w k nm ((nsOf elts).map (·.1)) body items 0 ρ σ Φ) (hlen : items.length ≤ 1000000)
    (hs : ∀ env x, foldedSetIterable (.Call fn [e] [] p) env x = pure x := by intros; rfl)
    (hp : ∀ env, starEach [e] env = (evalEach [e] env).map fun t => (false, t) := by intro _; rfl)
    (hc : ∀ env, eval (.Call fn [e] [] p) env = (do callWith p (← eval fn env) [] (backTo p (starEach [e] env)) (backToKw p (keywordEach [] env))) := by intro _; rfl) :
    Ex1 w k nm ρ σ (.For (.Tuple elts kk tp) (.Call fn [e] [] p) body [] pos) Φ := fun env A α f s M Q E rm L t hQ => by
  refine wpAny_For (enum_run hfn he hp hc rm t.ok fun s2 f2 l us nn h3 g12 hl0 rl hE hI hk3 => ?_) (hs env)
  have t2 := t.grew L g12
  have L2 := L.grew g12.keeps
  have hg := t2.okf.sub _ _ hl0
  generalize hN : s2.heap.objs.size = N at *
  have hd0 : s2.heap.get? N = none := by rw [← hN]; exact get?_size _
  have hd1 : s2.heap.get? (N + 1) = none := Heap.get?_none_of_le (by rw [hN]; exact Nat.le_succ _)
  have down : ∀ a, s2.heap.get? a = none → s.heap.get? a = none := fun a h => keeps_dead g12.keeps h
  have hlN : l ≠ N := fun q => by rw [q, hd0] at hg; cases hg
  have hlN1 : l ≠ N + 1 := fun q => by rw [q, hd1] at hg; cases hg
  have hNN : N + 1 ≠ N := Nat.succ_ne_self _
  have W := WalksT.enumerate (prog := prg) (w := w.toWorld) (A := A) rm.handled (N + 1) N l hNN hlN1 hlN us.toArray
  have g3 : Grew f2 s2 f2 { s2 with heap := h3, toks := s2.toks } := Grew.same t2.okf.sub hk3
  have t3 := t2.grew L2 g3
  have L3 := L2.grew g3.keeps
  let Nw : Addr → Prop := fun a => a = N + 1 ∨ a = N
  have hNs : ∀ a, Nw a → s.heap.get? a = none := fun a h => by
    rcases h with h | h <;> rw [h]
    · exact down _ hd1
    · exact down _ hd0
  have hNf : ∀ a, Nw a → f2 a = none := fun a h => by
    cases q : f2 a with
    | none => rfl
    | some o =>
      have := t2.okf.sub _ _ q
      rcases h with h | h <;> rw [h] at this
      · rw [hd1] at this; cases this
      · rw [hd0] at this; cases this
  have hNT : ∀ a, Nw a → a ≠ tabA := fun a h => t2.okf.tab.live (hNf a h) (by
    rcases h with h | h <;> rw [h]
    · exact hd1
    · exact hd0)
  have hNM : ∀ a, Nw a → ¬ M a := fun a h hm => by
    refine ob1_1 (L a hm) fun o e => ?_
    rw [hNs a h] at e; cases e
  have hwr : ∀ b, ¬ Nw b → b ∉ [N + 1, N] := fun b hb hm => hb (by
    rcases List.mem_cons.mp hm with h | h
    · exact .inl h
    · exact .inr (by simpa using h))
  have hul : us.toArray.size = items.length := by rw [List.size_toArray, rl.length]
  rw [hul] at W
  have hIlive : ∃ o, h3.get? N = some o := by obtain ⟨o, ho, _⟩ := hI; exact ⟨o, ho⟩
  have hElive : ∃ o, h3.get? (N + 1) = some o := ⟨_, hE⟩
  refine ob1_1 (⟨_, rfl⟩ : ∃ Iv : Nat → Shared → Prop, Iv = fun n s₁ => ∀ C : Prop, (∀ (xs : List V) (ρ₁ : Rho) (σ₁ : Sig) (α₁ : Str → Addr) (M₁ : Addr → Prop) (f₁ : Fz), n = xs.length → items.drop (items.length - xs.length) = xs → xs.length ≤ items.length → St w nm env ρ₁ σ₁ α₁ M₁ f₁ s₁ → Live M₁ s₁ → GrewS M f s M₁ f₁ s₁ → (∀ a, Nw a → ¬ M₁ a) → (∀ a, Nw a → f₁ a = none) → (∀ a, Nw a → ∃ o, s₁.heap.get? a = some o) → ((∃ old, IsEnum s₁.heap (N + 1) N ((items.length - xs.length : Nat) : Int) old) ∧ s₁.heap.IsListIter N l (items.length - xs.length) ∧ s₁.heap.IsList l us.toArray) → f2.Le f₁ → LoopE w k nm ((nsOf elts).map (·.1)) body xs (items.length - xs.length) ρ₁ σ₁ Φ → C) → C) fun Iv hIv => ?_
  refine codeAny_forLoop_any Iv ?_ items.length ?_
  rotate_left
  · rw [hIv]
    refine fun C kk => kk items ρ σ α M f2 rfl (by simp) (Nat.le_refl _) t3 L3 ((g12.trans g3).toS) hNM hNf ?_ ?_ (Fz.Le.refl _) (by simpa using hl)
    · intro a h
      rcases h with h | h <;> rw [h]
      · exact hElive
      · exact hIlive
    · exact ⟨⟨.none, by simpa using hE⟩, by simpa using hI, isList_of (hk3 _ _ hg)⟩
  intro n s₁ hh
  rw [hIv] at hh
  refine hh _ fun xs ρ₁ σ₁ α₁ M₁ f₁ hn hx hle t₁ L₁ g₁ hM₁ hf₁ hli hst₁ hf' hl₁ => ?_
  clear hh
  cases xs with
  | nil =>
    refine W.done s₁ _ _ (by simpa using hst₁) fun h' tk hk => ?_
    have kk : ∀ b o, ¬ Nw b → s₁.heap.get? b = some o → h'.get? b = some o := fun b o hb e => hk b o (hwr b hb) e
    exact wpAny_execs_nil (hQ .next .next ρ₁ σ₁ α₁ M₁ f₁ _ hl₁ rfl (t₁.otherN hM₁ hf₁ hNT kk) (L₁.otherN hM₁ kk) (g₁.otherN hNs kk))
  | cons x xs =>
    have hlt : items.length - (x :: xs).length < items.length := by simp only [List.length_cons] at hle ⊢; omega
    refine W.item _ s₁ _ _ hlt hst₁ fun T vals h' tk hPt hTn hTup hMid hk => ?_
    have kv : ∀ b o, ¬ Nw b → s₁.heap.get? b = some o → h'.get? b = some o := fun b o hb e => hk b o (hwr b hb) e
    refine W.go elts kk tp _ T _ _ _ hMid fun h4 hst4 hk4 => ?_
    have kk4 : ∀ b o, ¬ Nw b → h'.get? b = some o → h4.get? b = some o := fun b o hb e => hk4 b o (hwr b hb) e
    have kkk : ∀ b o, ¬ Nw b → s₁.heap.get? b = some o → h4.get? b = some o := fun b o hb e => kk4 b o hb (kv b o hb e)
    have hTw : ¬ Nw T := fun h => W.apart _ _ _ hMid (by
      rcases h with h | h <;> rw [h]
      · simp
      · simp)
    have hTup4 : h4.IsTuple T vals := by
      obtain ⟨o, ho, r⟩ := hTup
      exact ⟨o, kk4 _ _ hTw ho, r⟩
    refine ob2_2 hPt fun ti u hu hv => ?_; clear hPt; rw [hv] at hTup4
    have hxi : items[items.length - (x :: xs).length]? = some x := by
      have h1 : (items.drop (items.length - (x :: xs).length))[0]? = items[items.length - (x :: xs).length]? := by simp
      rw [hx] at h1; simpa using h1.symm
    refine ob1_2 (rl.get hxi) fun u' hu' ru => ?_
    have huu : u = u' := by
      have h1 : us[items.length - (x :: xs).length]? = some u := by simpa using hu
      rw [hu'] at h1; exact (Option.some.inj h1).symm
    have t₂ := t₁.otherN hM₁ hf₁ hNT kkk (tk := tk)
    have L₂ := L₁.otherN hM₁ kkk (tk := tk)
    have g₂ := g₁.otherN hNs kkk (tk := tk)
    have hlen1 : items.length - (x :: xs).length + 1 = items.length - xs.length := by simp only [List.length_cons] at hle ⊢; omega
    obtain ⟨ρ₃, σ₃, hasg, hex⟩ := hl₁
    refine asg_tupT hasg hel (by rw [hln]; rfl) rm.handled L₂ t₂ hTup4 (RelL.cons (rel_int.mpr ⟨ti, rfl⟩) (RelL.cons ((huu ▸ ru).mono hf') RelL.nil)) fun s₃ t₃ L₃ g₃ => ?_
    refine hex env A α₁ f₁ s₃ M₁ _ _ rm L₃ t₃ fun fl flow ρ₄ σ₄ α₄ M₄ f₄ s₄ hΦ hr t₄ L₄ g₄ => ?_
    have gg := g₃.trans g₄
    have live4S : ∀ a, Nw a → ∃ o, h4.get? a = some o ∧ Solid o := fun a h => by
      rcases h with h | h <;> rw [h]
      · refine ob0_2 hst4 fun z0 _ => ?_; clear hst4; obtain ⟨old, ho⟩ := z0; exact ⟨_, ho, solid_cls rfl (by intro _ _ q; cases q)⟩
      · exact solid_fields hst4.2.1
    have live4 : ∀ a, Nw a → ∃ o, h4.get? a = some o := fun a h => by
      refine ob1_2 (live4S a h) fun o ho _ => ?_; exact ⟨o, ho⟩
    have next : LoopE w k nm ((nsOf elts).map (·.1)) body xs (items.length - (x :: xs).length + 1) ρ₄ σ₄ Φ → ∃ m, m < n ∧ Iv m s₄ := fun hl₄ => by
      refine ⟨xs.length, hn ▸ Nat.lt_succ_self _, ?_⟩
      rw [hIv]
      refine fun C kk => kk xs ρ₄ σ₄ α₄ M₄ f₄ rfl ?_ (Nat.le_of_succ_le hle) t₄ L₄ (g₂.trans gg) (fun a ha hm => ?_) (fun a ha => ?_) (fun a ha => ?_) ?_ (hf'.trans gg.le) (by rw [← hlen1]; exact hl₄)
      · have : items.drop (items.length - xs.length) = (items.drop (items.length - (x :: xs).length)).drop 1 := by rw [List.drop_drop, hlen1]
        rw [this, hx]; rfl
      · refine ob1_1 (live4 a ha) fun o ho => ?_
        rcases gg.M' a hm with h1 | h1
        · exact hM₁ a ha h1
        · rw [show h4.get? a = some o from ho] at h1; cases h1
      · refine ob1_1 (live4 a ha) fun o ho => ?_
        cases q : f₄ a with
        | none => rfl
        | some o' =>
          rcases gg.new a o' q with h1 | h1 | h1
          · rw [hf₁ a ha] at h1; cases h1
          · rw [show h4.get? a = some o from ho] at h1; cases h1
          · exact absurd h1 (hM₁ a ha)
      · refine ob1_2 (live4S a ha) fun o ho hs => ?_
        exact ⟨o, gg.keep (hM₁ a ha) ho hs⟩
      · rw [← hlen1]
        refine W.frame _ _ _ hst4 fun b hb o e => ?_
        by_cases hNb : Nw b
        · refine ob1_2 (live4S b hNb) fun o1 ho1 hs1 => ?_
          rw [ho1] at e; cases e
          exact gg.keep (hM₁ b hNb) ho1 hs1
        · have hbl : b = l := by
            simp only [List.mem_cons, List.not_mem_nil, or_false] at hb
            rcases hb with h | h | h
            · exact absurd (.inl h) hNb
            · exact absurd (.inr h) hNb
            · exact h
          subst hbl
          have h1 := t₂.okf.sub _ _ (hf' _ _ hl0)
          have h2 := t₄.okf.sub _ _ (gg.le _ _ (hf' _ _ hl0))
          rw [show h4.get? b = some (lstO us nn) from h1] at e
          cases e; exact h2
    cases fl with
    | next => simp only [FlRel] at hr; subst hr; exact next hΦ
    | cont => simp only [FlRel] at hr; subst hr; exact next hΦ
    | brk => simp only [FlRel] at hr; subst hr; exact hQ .next .next ρ₄ σ₄ α₄ M₄ f₄ s₄ hΦ rfl t₄ L₄ (g₂.trans gg)
    | ret v =>
      obtain ⟨val, rfl, rv⟩ := hr
      exact hQ (.ret v) (.ret val) ρ₄ σ₄ α₄ M₄ f₄ s₄ hΦ ⟨val, rfl, rv⟩ t₄ L₄ (g₂.trans gg)
end
theorem compIs {w : World} {k : Nat} {gs : List (Str × NameKind)} {ρ : Rho} {elt iter : Expr} {x : Str} {ifs : List Expr} {scope : Scope} {v : V} {items outs : List V} (ρC : Rho)
    (h1 : Evals w k gs ρ iter v) (h2 : IterOk w k v items) (h3 : items.length ≤ 1000000) (h4 : CompL w k (relabelN scope.names gs) ρC x ifs elt items outs)
    (h5 : ∀ y p, ρC.lookup y = some p → scope.names.lookup y = some .free ∧ p.1 = true ∧ ρ.lookup y = some p)
    (h6 : (scope.names.all fun p => p.2 != .free || gs.lookup p.1 == some .cell || gs.lookup p.1 == some .free) = true := by kernel_rfl) (h7 : (scope.names.all fun p => p.2 != .cell) = true := by kernel_rfl) (h8 : scope.kind = .function := by rfl)
    (h9 : (scope.names.all fun p => p.2 != .local || scope.names.lookup p.1 == some .local) = true := by kernel_rfl) (h10 : (scope.names.all fun p => p.2 != .free || scope.names.lookup p.1 == some .free) = true := by kernel_rfl)
    (h11 : scope.names.lookup x = some .local := by kernel_rfl) : CompIs w k gs ρ elt iter x ifs scope outs where
  it := ⟨v, items, ρC, h1, h2, h3, h4, h5⟩
  free := fun y hy => by
    have := List.all_eq_true.mp h6 _ hy
    simpa using this
  nocell := fun y hy => by
    have := List.all_eq_true.mp h7 _ hy
    simpa using this
  kind := h8
  loc := fun y hy hl => by
    have := List.all_eq_true.mp h9 _ hy
    rw [hl] at this
    simpa using this
  uniq := fun y hy => by
    have := List.all_eq_true.mp h10 _ hy
    simpa using this
  hx := h11
theorem compSIs {w : World} {k : Nat} {gs : List (Str × NameKind)} {ρ : Rho} {elt iter : Expr} {x : Str} {scope : Scope} {v : V} {items : List V} {bs : List Bool} (ρC : Rho)
    (h1 : Evals w k gs ρ iter v) (h2 : IterOk w k v items) (h3 : items.length ≤ 1000000) (h4 : CompS w k (relabelN scope.names gs) ρC x elt items bs)
    (h5 : ∀ y p, ρC.lookup y = some p → scope.names.lookup y = some .free ∧ p.1 = true ∧ ρ.lookup y = some p) (hok : ∀ led l r, bs = l ++ r → ∃ o, setOf led l = some o)
    (h6 : (scope.names.all fun p => p.2 != .free || gs.lookup p.1 == some .cell || gs.lookup p.1 == some .free) = true := by kernel_rfl) (h7 : (scope.names.all fun p => p.2 != .cell) = true := by kernel_rfl) (h8 : scope.kind = .function := by rfl)
    (h9 : (scope.names.all fun p => p.2 != .local || scope.names.lookup p.1 == some .local) = true := by kernel_rfl)
    (h11 : scope.names.lookup x = some .local := by kernel_rfl) : CompSIs w k gs ρ elt iter x scope bs where
  it := ⟨v, items, ρC, h1, h2, h3, h4, h5⟩
  free := fun y hy => by
    have := List.all_eq_true.mp h6 _ hy
    simpa using this
  nocell := fun y hy => by
    have := List.all_eq_true.mp h7 _ hy
    simpa using this
  kind := h8
  loc := fun y hy hl => by
    have := List.all_eq_true.mp h9 _ hy
    rw [hl] at this
    simpa using this
  hx := h11
  ok := hok
section
variable {w : World} {k : Nat} {gs : List (Str × NameKind)} {ρ : Rho} {x : Str} {ifs : List Expr} {elt : Expr} {a o : V} {r outs : List V} {b : Bool} {bs : List Bool}
theorem cl_nil : CompL w k gs ρ x ifs elt [] [] := rfl
theorem cl_cons (h1 : IfsOk w k gs ((x, false, a) :: ρ) ifs true) (h2 : Evals w k gs ((x, false, a) :: ρ) elt o) (h3 : CompL w k gs ρ x ifs elt r outs) : CompL w k gs ρ x ifs elt (a :: r) (o :: outs) := .inr ⟨o, outs, rfl, h1, h2, h3⟩
theorem cl_skip (h1 : IfsOk w k gs ((x, false, a) :: ρ) ifs false) (h3 : CompL w k gs ρ x ifs elt r outs) : CompL w k gs ρ x ifs elt (a :: r) outs := .inl ⟨h1, h3⟩
theorem ifs_nil : IfsOk w k gs ρ [] true := rfl
theorem ifs_one {c : Expr} (h : Tests w k gs ρ c b) : IfsOk w k gs ρ [c] b := h
theorem cs_nil : CompS w k gs ρ x elt [] [] := rfl
theorem cs_cons (h2 : Evals w k gs ((x, false, a) :: ρ) elt (.bool b)) (h3 : CompS w k gs ρ x elt r bs) : CompS w k gs ρ x elt (a :: r) (b :: bs) := ⟨b, bs, rfl, h2, h3⟩
end
theorem rho1 {ρ : Rho} {names : List (Str × NameKind)} {y : Str} {v : V} (hn : names.lookup y = some .free) (h : ρ.lookup y = some (true, v)) : ∀ z p, ([(y, true, v)] : Rho).lookup z = some p → names.lookup z = some .free ∧ p.1 = true ∧ ρ.lookup z = some p := fun z p hp => by
  by_cases hz : z = y
  · subst hz; simp at hp; subst hp; exact ⟨hn, rfl, h⟩
  · have : (z == y) = false := beq_eq_false_iff_ne.mpr hz
    simp [List.lookup_cons, this] at hp
theorem fn_commonpath (w : World) : FnIs w 213 (namesN 27) (bodyN 27) (fdAt w.params 213) := fnIs 27 (by kernel_rfl) (by decide) (by kernel_rfl) (by kernel_rfl) (by kernel_rfl) (by kernel_rfl) (by kernel_rfl) (by kernel_rfl) (by kernel_rfl) (by kernel_rfl) (by kernel_rfl) (by kernel_rfl)
theorem g_min : GlobIs "min" (.bi "min") := glob_bi (fun P => by kernel_rfl) (fun P => by kernel_rfl)
theorem g_max : GlobIs "max" (.bi "max") := glob_bi (fun P => by kernel_rfl) (fun P => by kernel_rfl)
theorem g_enumerate : GlobIs "enumerate" (.typ "enumerate") := glob_typ (fun P => by kernel_rfl) (fun P => by kernel_rfl)
noncomputable def com : List Nat → List Nat → List Nat
  | a :: as, b :: bs => if a = b then a :: com as bs else []
  | _, _ => []
theorem tr_tup1 {w : World} {k : Nat} {x : V} {l : List V} (h : (x :: l).length ≤ 1000000) : TruthOk w k (.tup (x :: l)) true := fun A f s va _ ok ra Q E hQ => by
  refine ob2_3 (rel_tup.mp ra) fun a vs z0 ha rl => ?_; subst z0
  have hlen := rl.length
  have hg := ok.sub _ _ ha
  refine PyProof.Rows.truthy_tuple (isTup_of hg) (by rw [List.size_toArray, hlen]; omega) ?_
  have e : (!vs.toArray.isEmpty) = true := by cases vs with
    | nil => simp at hlen
    | cons => simp
  first
    | (rw [e]; exact hQ _ _ (Grew.same ok.sub fun _ _ e => e))
    | exact hQ _ _ (Grew.same ok.sub fun _ _ e => e)
theorem names_run {w : World} {k : Nat} {gs : List (Str × NameKind)} {p1 p2 p3 p4 p5 p6 : Pos} : ∀ ps : List (List Nat), (∀ p ∈ ps, p.length ≤ 1000) →
    CompL w k gs [("curdir", true, .str ".")] "c" [.BoolOp .And [.Name "c" p1, .Compare (.Name "c" p2) [.NotEq] [.Name "curdir" p3] p4] p5] (.Name "c" p6) ((ps.map S).map .str) (((ps.filter fun p => !p.isEmpty && p != [46]).map S).map .str)
  | [], _ => cl_nil
  | p :: ps, h => by
    have ih := names_run (w := w) (k := k) (gs := gs) (p1 := p1) (p2 := p2) (p3 := p3) (p4 := p4) (p5 := p5) (p6 := p6) ps fun q hq => h q (by simp [hq])
    have hpl := h p (by simp)
    have tr : TruthOk w k (.str (S p)) (!p.isEmpty) := by
      have := tr_str (w := w) (k := k) (x := S p) (by rw [S_len]; omega)
      have e : (((S p).length : Int) != 0) = !p.isEmpty := by rw [S_len]; cases p <;> simp; omega
      rwa [e] at this
    rw [List.filter_cons]
    by_cases h0 : p = []
    · subst h0
      rw [if_neg (by simp)]
      exact cl_skip (ifs_one (t_op (and_stop (t_val ev_name tr)))) ih
    · have he : (!p.isEmpty) = true := by cases p <;> simp at h0 ⊢
      rw [he] at tr ⊢
      have cmp : ∀ {c}, (p != [46]) = c → Tests w k gs (("c", false, V.str (S p)) :: [("curdir", true, .str ".")]) (.Compare (.Name "c" p2) [.NotEq] [.Name "curdir" p3] p4) c := fun {c} hc =>
        Tests.to (t_cmp ev_name ev_name cmp_nes) (by rw [dot_eq]; unfold bne; rw [S_beq]; exact hc)
      by_cases h1 : p = [46]
      · rw [if_neg (by simp [h1])]
        exact cl_skip (ifs_one (t_op (and_go (t_val ev_name tr) (and_stop (cmp (by simp [h1])))))) ih
      · rw [if_pos (by simp [h1])]
        exact cl_cons (ifs_one (t_op (and_go (t_val ev_name tr) (and_go (cmp (by simp [h1])) and_nil)))) ev_name ih
theorem names_only {w : World} {k : Nat} {gs : List (Str × NameKind)} {p1 p2 p3 p4 p5 p6 : Pos} {es : List Nat} (hp : Plain es) :
    CompL w k gs [("curdir", true, .str ".")] "c" [.BoolOp .And [.Name "c" p1, .Compare (.Name "c" p2) [.NotEq] [.Name "curdir" p3] p4] p5] (.Name "c" p6) (((partsOf es).map S).map .str) (((one es).map S).map .str) := by
  have h := names_run (w := w) (k := k) (gs := gs) (p1 := p1) (p2 := p2) (p3 := p3) (p4 := p4) (p5 := p5) (p6 := p6) (partsOf es) fun p hq => by
    cases es with
    | nil => simp [partsOf] at hq; subst hq; simp
    | cons e es =>
      rcases List.mem_cons.mp hq with rfl | hq
      · simp
      · refine ob1_2 (List.mem_map.mp hq) fun c _ z0 => ?_; subst z0
        simp
  have e : (partsOf es).filter (fun p => !p.isEmpty && p != [46]) = one es := by
    have key : ∀ xs : List Nat, Plain xs → (one xs).filter (fun p => !p.isEmpty && p != [46]) = one xs := fun xs hx => by
      rw [List.filter_eq_self]
      intro p hq
      refine ob1_2 (List.mem_map.mp hq) fun c hc z0 => ?_; subst z0
      have := (hx c hc).2
      simp [this]
    cases es with
    | nil => rfl
    | cons a es =>
      show List.filter _ ([] :: one (a :: es)) = _
      rw [List.filter_cons, if_neg (by simp)]
      exact key _ hp
  rwa [e] at h
noncomputable def ltN : List Nat → List Nat → Bool
  | [], [] => false
  | [], _ :: _ => true
  | _ :: _, [] => false
  | a :: as, b :: bs => if a = b then ltN as bs else decide (a < b)
theorem cmp_lts {w : World} {k : Nat} {a b : Str} : CmpOk w k .Lt (.str a) (.str b) (decide (a.cps.toList < b.cps.toList)) := fun A f s va vb _ ok ra rb Q E hQ => by
  refine ob1_1 (rel_str.mp ra) fun t z0 => ?_; subst z0; refine ob1_1 (rel_str.mp rb) fun u z0 => ?_; subst z0
  with_reducible exact PyProof.Rows.lt_str (hQ _ _ _ ok.refl relB)
theorem cmp_gts {w : World} {k : Nat} {a b : Str} : CmpOk w k .Gt (.str a) (.str b) (decide (b.cps.toList < a.cps.toList)) := fun A f s va vb _ ok ra rb Q E hQ => by
  refine ob1_1 (rel_str.mp ra) fun t z0 => ?_; subst z0; refine ob1_1 (rel_str.mp rb) fun u z0 => ?_; subst z0
  with_reducible exact PySem.P.gt_str (hQ _ _ _ ok.refl relB)
theorem lt_one (a b : Nat) : decide ((S [a]).cps.toList < (S [b]).cps.toList) = decide (a < b) := by
  rw [S_cps, S_cps, decide_eq_decide, List.cons_lt_cons_iff]; simp
noncomputable def oneV (es : List Nat) : List V := ((one es).map S).map .str
theorem lcmp_lt {w : World} {k : Nat} : ∀ (as bs : List Nat) (m n i : Nat), m = i + as.length → n = i + bs.length → LCmp w k .Lt m n (oneV as) (oneV bs) (ltN as bs)
  | [], [], m, n, i, hm, hn => by show false = decide (m < n); simp at hm hn; simp [hm, hn]
  | [], b :: bs, m, n, i, hm, hn => by show true = decide (m < n); simp at hm hn; simp [hm, hn] <;> omega
  | a :: as, [], m, n, i, hm, hn => by show false = decide (m < n); simp at hm hn; simp [hm, hn] <;> omega
  | a :: as, b :: bs, m, n, i, hm, hn => by
    unfold ltN
    by_cases h : a = b
    · subst h
      rw [if_pos rfl]
      refine .inl ⟨?_, lcmp_lt as bs m n (i + 1) (by simp at hm; omega) (by simp at hn; omega)⟩
      have := eqb_str (w := w) (k := k) (x := S [a]) (y := S [a])
      simpa using this
    · rw [if_neg h]
      refine .inr ⟨?_, ?_⟩
      · have := eqb_str (w := w) (k := k) (x := S [a]) (y := S [b])
        rw [S_beq] at this
        have e : ([a] == [b]) = false := by simp [h]
        rwa [e] at this
      · have := cmp_lts (w := w) (k := k) (a := S [a]) (b := S [b])
        rw [lt_one] at this
        exact this
theorem lcmp_gt {w : World} {k : Nat} : ∀ (as bs : List Nat) (m n i : Nat), m = i + as.length → n = i + bs.length → LCmp w k .Gt m n (oneV as) (oneV bs) (ltN bs as)
  | [], [], m, n, i, hm, hn => by show false = decide (m > n); simp at hm hn; simp [hm, hn]
  | [], b :: bs, m, n, i, hm, hn => by show false = decide (m > n); simp at hm hn; simp [hm, hn] <;> omega
  | a :: as, [], m, n, i, hm, hn => by show true = decide (m > n); simp at hm hn; simp [hm, hn] <;> omega
  | a :: as, b :: bs, m, n, i, hm, hn => by
    unfold ltN
    by_cases h : a = b
    · subst h
      rw [if_pos rfl]
      refine .inl ⟨?_, lcmp_gt as bs m n (i + 1) (by simp at hm; omega) (by simp at hn; omega)⟩
      have := eqb_str (w := w) (k := k) (x := S [a]) (y := S [a])
      simpa using this
    · rw [if_neg (fun e => h e.symm)]
      refine .inr ⟨?_, ?_⟩
      · have := eqb_str (w := w) (k := k) (x := S [a]) (y := S [b])
        rw [S_beq] at this
        have e : ([a] == [b]) = false := by simp [h]
        rwa [e] at this
      · have := cmp_gts (w := w) (k := k) (a := S [a]) (b := S [b])
        rw [lt_one] at this
        exact this
theorem ltN_asym : ∀ (as bs : List Nat), ltN as bs = true → ltN bs as = false
  | [], [], h => by simp [ltN] at h
  | [], b :: bs, _ => rfl
  | a :: as, [], h => by simp [ltN] at h
  | a :: as, b :: bs, h => by
    unfold ltN at h ⊢
    by_cases e : a = b
    · subst e; rw [if_pos rfl] at h ⊢; exact ltN_asym as bs h
    · rw [if_neg e] at h
      rw [if_neg (fun q => e q.symm)]
      simp at h ⊢; omega
theorem ltN_tot : ∀ (as bs : List Nat), ltN as bs = false → ltN bs as = false → as = bs
  | [], [], _, _ => rfl
  | [], b :: bs, h, _ => by simp [ltN] at h
  | a :: as, [], _, h => by simp [ltN] at h
  | a :: as, b :: bs, h, h' => by
    unfold ltN at h h'
    by_cases e : a = b
    · subst e; rw [if_pos rfl] at h h'; rw [ltN_tot as bs h h']
    · rw [if_neg e] at h
      rw [if_neg (fun q => e q.symm)] at h'
      simp at h h'; omega
theorem com_comm : ∀ as bs : List Nat, com as bs = com bs as
  | [], [] => rfl
  | [], _ :: _ => rfl
  | _ :: _, [] => rfl
  | a :: as, b :: bs => by
    unfold com
    by_cases e : a = b
    · subst e; rw [if_pos rfl, if_pos rfl, com_comm as bs]
    · rw [if_neg e, if_neg (fun q => e q.symm)]
noncomputable def tryB : Stmt → List Stmt | .Try b _ _ _ _ => b | _ => []
structure CInv (ρ : Rho) (x y : List Nat) (r : List Nat) : Prop where
  s1 : Has ρ "s1" (.lst (oneV x))
  s2 : Has ρ "s2" (.lst (oneV y))
  common : Has ρ "common" (.lst (oneV r))
  sep : HasC ρ "sep" (.str "/")
  isabs : Has ρ "isabs" (.bool true)
theorem oneV_len (es : List Nat) : (oneV es).length = es.length := by simp [oneV, one]
theorem oneV_get {es : List Nat} {i c : Nat} (h : es[i]? = some c) : (oneV es)[i]? = some (.str (S [c])) := by simp [oneV, one, h]
theorem sliceV_to (l : List V) (n : Nat) : sliceV l none (some (Int.ofNat n)) none = l.take n := by
  unfold sliceV
  rw [sliceBounds_plain]
  simp only [Option.elim, Int.ofNat_eq_natCast, clipAt_nat, sliceRange_one]
  have h := PySem.pick_run l.toArray 0 (min n l.length - 0)
  simp only [List.getElem?_toArray, Nat.sub_zero, List.drop_zero] at h
  rw [Nat.sub_zero, h]
  rcases Nat.le_total n l.length with q | q
  · rw [Nat.min_eq_left q]
  · rw [Nat.min_eq_right q, List.take_of_length_le (Nat.le_refl _), List.take_of_length_le q]
theorem cp_loop {w : World} {k : Nat} {Φ : Rho → Sig → Fl → Prop} : ∀ (xs ys p : List Nat) (ρ : Rho) (σ : Sig), CInv ρ (p ++ xs) (p ++ ys) (p ++ xs) → (p ++ xs).length ≤ 1000 → (p ++ ys).length ≤ 1000 → ltN ys xs = false →
    (∀ ρ' σ', CInv ρ' (p ++ xs) (p ++ ys) (p ++ com xs ys) → Φ ρ' σ' .next) →
    LoopE w k (namesN 27) ["i", "c"] (forB (stN (tryB (stN (bodyN 27) 3)) 6)) (oneV xs) p.length ρ σ Φ
  | [], ys, p, ρ, σ, I, _, _, _, hΦ => hΦ ρ σ (by
    have : com [] ys = [] := by cases ys <;> rfl
    rw [this]; exact I)
  | a :: xs, [], p, ρ, σ, I, _, _, h, hΦ => by simp [ltN] at h
  | a :: xs, b :: ys, p, ρ, σ, I, hl1, hl2, h, hΦ => by
    obtain ⟨i1, i2, i3, i4, i5⟩ := id I
    refine ⟨_, _, .cons _ _ _ _ _ _ _ _ _ _ (asgn_local (by kernel_rfl)) (.cons _ _ _ _ _ _ _ _ _ _ (asgn_local (by kernel_rfl)) (.nil _ _)), ?_⟩
    have hg : (oneV (p ++ b :: ys))[(Int.ofNat p.length).toNat]? = some (.str (S [b])) := oneV_get (by simp)
    have hpl : (Int.ofNat p.length) < 1000000 := by simp at hl1 ⊢; omega
    by_cases e : a = b
    · subst e
      refine' ex_cons (x1_if_f (tes (Tests.to ?h1 ?e1)) (ex_nil (ex_nil ?k1)))
      case h1 => exact t_cmp ev_name (ev_sub ev_name ev_name (it_lst (by simp) hpl hg)) cmp_nes
      case e1 => unfold bne; rw [S_beq]; simp
      have h' : ltN ys xs = false := by unfold ltN at h; rwa [if_pos rfl] at h
      have ep : ∀ l : List Nat, p ++ a :: l = (p ++ [a]) ++ l := fun l => by simp
      have ec : p ++ com (a :: xs) (a :: ys) = (p ++ [a]) ++ com xs ys := by
        show p ++ (if a = a then a :: com xs ys else []) = _
        rw [if_pos rfl]; simp
      have ex := ep xs
      have ey := ep ys
      have el : p.length + 1 = (p ++ [a]).length := by simp
      rw [ex] at hl1 i1 i3 hΦ
      rw [ey] at hl2 i2 hΦ
      rw [ec] at hΦ
      show LoopE _ _ _ _ _ (oneV xs) (p.length + 1) _ _ _
      rw [el]
      refine cp_loop xs ys (p ++ [a]) _ _ ⟨?_, ?_, ?_, ?_, ?_⟩ hl1 hl2 h' hΦ
      · show List.lookup _ _ = _; wtm_at "lk"
      · show List.lookup _ _ = _; wtm_at "lk"
      · show List.lookup _ _ = _; wtm_at "lk"
      · show List.lookup _ _ = _; wtm_at "lk"
      · show List.lookup _ _ = _; wtm_at "lk"
    · refine' ex_cons (x1_if_t (tes (Tests.to ?h2 ?e2)) ?k2)
      case h2 => exact t_cmp ev_name (ev_sub ev_name ev_name (it_lst (by simp) hpl hg)) cmp_nes
      case e2 => unfold bne; rw [S_beq]; simp [e]
      have ec : com (a :: xs) (b :: ys) = [] := by
        show (if a = b then a :: com xs ys else []) = []
        rw [if_neg e]
      have esl : sliceV (oneV (p ++ a :: xs)) none (some (Int.ofNat p.length)) none = oneV (p ++ com (a :: xs) (b :: ys)) := by
        rw [sliceV_to, ec]
        simp [oneV, one]
      refine ex_cons (x1_set (v := .lst (oneV (p ++ com (a :: xs) (b :: ys)))) (evs (Evals.to (ev_slice ev_name part_n (part_s ev_name) part_n (sl_lst (by simp) (by rw [oneV_len]; omega))) (by rw [esl]))) (asgn_local (by kernel_rfl)) ?_)
      refine ex_cons (x1_break ?_)
      exact hΦ _ _ ⟨by show List.lookup _ _ = _; wtm_at "lk", by show List.lookup _ _ = _; wtm_at "lk", by show List.lookup _ _ = _; wtm_at "lk", by show List.lookup _ _ = _; wtm_at "lk", by show List.lookup _ _ = _; wtm_at "lk"⟩
theorem commonpath_body {w : World} {k : Nat} {cs ds : List Nat} (hc : Plain cs) (hd : Plain ds) (hl1 : cs.length ≤ 100) (hl2 : ds.length ≤ 100) :
    Ex w (k + 12) (namesN 27) [("paths", false, .lst [.str (dirS cs), .str (dirS ds)])] [] (bodyN 27) fun _ _ fl => fl = .ret (.str (dirS (com cs ds))) := by
  refine ex_cons (x1_set (v := .tup [.str (dirS cs), .str (dirS ds)]) (evs (ev_tuplemap (xs := [dirS cs, dirS ds]) (ev_glob (by kernel_rfl) g_tuple) (ev_glob (by kernel_rfl) g_map) (evl_cons (ev_glob (by kernel_rfl) g_fspath) (evl_cons (ev_name lk_here) evl_nil)) (fun w X => fspath_ok) (by simp))) (asgn_local (by kernel_rfl)) ?_)
  refine ex_cons (x1_if_f (tes (t_not (t_val ev_name (tr_tup1 (x := .str (dirS cs)) (l := [.str (dirS ds)]) (by simp))))) (ex_nil ?_))
  refine ex_cons (x1_if_f (tes (t_val (ev_call (ev_glob (by kernel_rfl) g_isinstance) (.bi _) (evl_cons (ev_sub ev_name ev_int (it_tup (v := .str (dirS cs)) (by decide) (by decide) rfl)) (evl_cons (ev_glob (by kernel_rfl) g_bytes) evl_nil)) c_isb) tr_bool)) ?_)
  refine ex_cons (x1_set (evs ev_str) (asgn_cell (by kernel_rfl)) ?_)
  refine ex_cons (x1_set (evs ev_str) (asgn_cell (by kernel_rfl)) (ex_nil ?_))
  refine ex_cons (x1_try ?_)
  have sp : ∀ {es : List Nat}, Plain es → es.length ≤ 100 → CallOk w (k + 12) (.bi "str.split") [.str (dirS es), .str "/"] (.lst (((partsOf es).map S).map .str)) := fun {es} hp hl => by
    refine ob0_4 (split_facts (c := 47) (ps := partsOf es) (by decide) (parts_len es) (parts_free' hp)) fun a1 a2 a3 a4 => ?_
    have hL : (dirS es).length ≤ 1000000 := Nat.le_trans (dirS_len es) (by omega)
    unfold dirS at hL ⊢
    rw [dirL_parts] at hL ⊢
    refine c_split (by rw [slash]; exact a1) (by rw [slash]; exact a2) (by rw [slash]; exact a3) hL ?_ (by rw [slash]; exact a4)
    rw [List.length_map]
    cases es <;> simp [partsOf, one] at hl ⊢ <;> omega
  refine ex_cons (x1_comp (outs := [.lst (((partsOf cs).map S).map .str), .lst (((partsOf ds).map S).map .str)]) (compIs [("sep", true, .str "/")] ev_name iter_tup (by simp)
    (cl_cons ifs_nil (ev_meth PySem.F.plainAttrs_str PySem.F.slot_str_split PySem.F.type_str_split ev_name typed_str (evl_cons ev_name evl_nil) (sp hc hl1))
      (cl_cons ifs_nil (ev_meth PySem.F.plainAttrs_str PySem.F.slot_str_split PySem.F.type_str_split ev_name typed_str (evl_cons ev_name evl_nil) (sp hd hl2)) cl_nil))
    (rho1 (by kernel_rfl) (by wtm_at "lk"))) (by kernel_rfl) ?_ (by kernel_rfl))
  have st : ∀ es : List Nat, (decide (0 + (Str.ofString "/").length ≤ (dirS es).length) && Builtin.Str.subAt (dirS es) (Str.ofString "/") 0) = true := fun es => by
    unfold dirS
    rw [slash, S_starts]
    cases es with
    | nil => rfl
    | cons e es => cases es <;> rfl
  have stw : ∀ es : List Nat, CallOk w (k + 12) (.bi "str.startswith") [.str (dirS es), .str "/"] (.bool true) := fun es => by
    have := c_startswith (w := w) (k := k + 12) (x := dirS es) (y := "/")
    rwa [st es] at this
  refine ex_cons (x1_try (ex_cons (x1_one (bs := [true, true]) (compSIs [("sep", true, .str "/")] ev_name iter_tup (by simp)
    (cs_cons (ev_meth PySem.F.plainAttrs_str PySem.F.slot_str_startswith PySem.F.type_str_startswith ev_name typed_str (evl_cons ev_name evl_nil) (stw cs))
      (cs_cons (ev_meth PySem.F.plainAttrs_str PySem.F.slot_str_startswith PySem.F.type_str_startswith ev_name typed_str (evl_cons ev_name evl_nil) (stw ds)) cs_nil))
    (rho1 (by kernel_rfl) (by wtm_at "lk")) ?_) (fun led => rfl) (by kernel_rfl) (ex_nil ?_))))
  · intro led l r e
    match l, e with
    | [], _ => exact ⟨_, rfl⟩
    | [a], e => cases e; exact ⟨_, rfl⟩
    | [a, b], e => cases e; exact ⟨_, rfl⟩
    | a :: b :: c :: l, e => simp at e
  refine ex_cons (x1_comp (outs := [.lst (((one cs).map S).map .str), .lst (((one ds).map S).map .str)]) (compIs [("curdir", true, .str ".")] ev_name iter_lst (by simp)
    (cl_cons ifs_nil (ev_comp (compIs [("curdir", true, .str ".")] ev_name iter_lst ?_ (names_only hc) (rho1 (by kernel_rfl) (by wtm_at "lk"))))
      (cl_cons ifs_nil (ev_comp (compIs [("curdir", true, .str ".")] ev_name iter_lst ?_ (names_only hd) (rho1 (by kernel_rfl) (by wtm_at "lk")))) cl_nil))
    (rho1 (by kernel_rfl) (by wtm_at "lk"))) (by kernel_rfl) ?_ (by kernel_rfl))
  · rw [List.length_map, List.length_map]; cases cs <;> simp [partsOf, one] at hl1 ⊢; omega
  · rw [List.length_map, List.length_map]; cases ds <;> simp [partsOf, one] at hl2 ⊢; omega
  have mn := c_min2 (w := w) (k := k + 8) (a := .lst (oneV cs)) (b := .lst (oneV ds)) (rc_lst_lt (k := k + 6) (lcmp_lt ds cs (oneV ds).length (oneV cs).length 0 (by rw [oneV_len]; omega) (by rw [oneV_len]; omega)))
  have mx := c_max2 (w := w) (k := k + 8) (a := .lst (oneV cs)) (b := .lst (oneV ds)) (rc_lst_gt (k := k + 6) (lcmp_gt ds cs (oneV ds).length (oneV cs).length 0 (by rw [oneV_len]; omega) (by rw [oneV_len]; omega)))
  obtain ⟨x, y, hx, hy, hxy, hcom, hxl, hyl⟩ : ∃ x y, (if ltN ds cs then V.lst (oneV ds) else .lst (oneV cs)) = .lst (oneV x) ∧ (if ltN cs ds then V.lst (oneV ds) else .lst (oneV cs)) = .lst (oneV y) ∧ ltN y x = false ∧ com x y = com cs ds ∧ x.length ≤ 100 ∧ y.length ≤ 100 := by
    cases h1 : ltN ds cs with
    | true =>
      have h2 := ltN_asym ds cs h1
      rw [h2]
      exact ⟨ds, cs, rfl, rfl, h2, com_comm ds cs, hl2, hl1⟩
    | false =>
      cases h2 : ltN cs ds with
      | true => exact ⟨cs, ds, rfl, rfl, h1, rfl, hl1, hl2⟩
      | false =>
        have := ltN_tot cs ds h2 h1
        subst this
        exact ⟨cs, cs, rfl, rfl, h1, rfl, hl1, hl1⟩
  rw [hx] at mn
  rw [hy] at mx
  refine ex_cons (x1_set (evs (ev_call (ev_glob (by kernel_rfl) g_min) (.bi _) (evl_cons (ev_name lk_put) evl_nil) mn)) (asgn_local (by kernel_rfl)) ?_)
  refine ex_cons (x1_set (evs (ev_call (ev_glob (by kernel_rfl) g_max) (.bi _) (evl_cons (ev_name (lk_putn (by decide +kernel) lk_put)) evl_nil) mx)) (asgn_local (by kernel_rfl)) ?_)
  refine ex_cons (x1_set (evs ev_name) (asgn_local (by kernel_rfl)) ?_)
  refine ex_cons (x1_enum (items := oneV x) (ev_glob (by kernel_rfl) g_enumerate) ev_name rfl rfl (cp_loop x y [] _ _ ⟨?_, ?_, ?_, ?_, ?_⟩ ?_ ?_ hxy fun ρ' σ' I => ?_) (by rw [oneV_len]; omega))
  · show List.lookup _ _ = _; rw [List.nil_append]; wtm_at "lk"
  · show List.lookup _ _ = _; rw [List.nil_append]; wtm_at "lk"
  · show List.lookup _ _ = _; rw [List.nil_append]; wtm_at "lk"
  · show List.lookup _ _ = _; wtm_at "lk"
  · show List.lookup _ _ = _; wtm_at "lk"
  · rw [List.nil_append]; omega
  · rw [List.nil_append]; omega
  rw [List.nil_append, List.nil_append, List.nil_append, hcom] at I
  obtain ⟨i1, i2, i3, i4, i5⟩ := I
  have hcl : (com cs ds).length ≤ 100 := by
    have key : ∀ as bs : List Nat, (com as bs).length ≤ as.length := fun as => by
      induction as with
      | nil => intro bs; cases bs <;> simp [com]
      | cons a as ih =>
        intro bs
        cases bs with
        | nil => simp [com]
        | cons b bs =>
          show (if a = b then a :: com as bs else []).length ≤ _
          split
          · have := ih bs; simp; omega
          · simp
    have := key cs ds; omega
  refine ex_cons (x1_set (evs (ev_if_t (t_val ev_name tr_bool) ev_name)) (asgn_local (by kernel_rfl)) ?_)
  have hj : S [47] ++ S (gl 47 (one (com cs ds))) = dirS (com cs ds) := by
    rw [S_app]
    cases com cs ds <;> rfl
  refine ex_cons (x1_ret (evs (Evals.to (ev_bin ev_name (ev_meth PySem.F.plainAttrs_str PySem.F.slot_str_join PySem.F.type_str_join ev_name typed_str (evl_cons ev_name evl_nil)
    (by rw [slash]; exact c_joinS (c := 47) (ps := one (com cs ds)) (by rw [one_sum, one_len]; omega))) (bin_adds (by
      have := gl_le 47 (one (com cs ds))
      rw [one_sum, one_len] at this
      rw [slash, S_len, S_len]; simp; omega))) (by rw [slash, hj]))) rfl)
theorem commonpath_ok {w : World} {k : Nat} {cs ds : List Nat} (hc : Plain cs) (hd : Plain ds) (hl1 : cs.length ≤ 100) (hl2 : ds.length ≤ 100) :
    CallOk w (k + 13) (.top 213) [.lst [.str (dirS cs), .str (dirS ds)]] (.str (dirS (com cs ds))) :=
  fn_ok (fn_commonpath w) (binds1 fun v => by kernel_rfl) (nodup_of (by decide +kernel)) (isLC_of (by kernel_rfl)) ((commonpath_body hc hd hl1 hl2).mono fun _ _ _ h => .inl h)
section
open PySem.Builtin PySem.Builtin.ObjectAttr
theorem fa_mro : mroOf (.type "function") = pure [.type "function", .type "object"] := by rw [mroOf_type]; kernel_rfl
theorem fa_set_slot : Slot "function" "__setattr__" "object.__setattr__" :=
  .of (owner := "object") (n := "__setattr__") (by rw [typeLookup_type, builtinLookup_eq_fast]; kernel_rfl) (by decide +kernel) (by decide +kernel) (by decide +kernel)
    (by first | exact .inl (by decide +kernel) | exact .inr (by decide +kernel)) (by rw [isSubtype_type]; kernel_rfl)
theorem fa_set_args (a b c : Value) : argsOk "object.__setattr__" ⟨[a, b, c], []⟩ := by unfold argsOk; kernel_rfl
theorem fa_passes (self : Value) : refuseLoop self "__setattr__" [.type "function", .type "object"] = pure () := by kernel_rfl
theorem fa_ga : typeLookup (.type "function") "__getattribute__" = pure (some (.builtin "object.__getattribute__")) := by rw [typeLookup_type, builtinLookup_eq_fast]; kernel_rfl
theorem fa_ga_slot : Slot "function" "__getattribute__" "object.__getattribute__" :=
  .of (owner := "object") (n := "__getattribute__") fa_ga (by decide +kernel) (by decide +kernel) (by decide +kernel)
    (by first | exact .inl (by decide +kernel) | exact .inr (by decide +kernel)) (by rw [isSubtype_type]; kernel_rfl)
theorem fa_ga_entry : entryFor table "object.__getattribute__" = some Builtin.«object.__getattribute__» := entryFor_of_tree (by kernel_rfl)
theorem fa_ga_args (a b : Value) : argsOk "object.__getattribute__" ⟨[a, b], []⟩ := by unfold argsOk; kernel_rfl
theorem fa_no_place : typeLookup (.type "function") "place" = pure none := by rw [typeLookup_type, builtinLookup_eq_fast]; kernel_rfl
theorem fa_no_allowance : typeLookup (.type "function") "allowance" = pure none := by rw [typeLookup_type, builtinLookup_eq_fast]; kernel_rfl
theorem fa_no_applies : typeLookup (.type "function") "applies_to" = pure none := by rw [typeLookup_type, builtinLookup_eq_fast]; kernel_rfl
noncomputable def FA (h : Heap) (x : Addr) (fd : FuncData) (m : Str → Option Value) : Prop :=
  ∃ o, h.get? x = some o ∧ o.cls = .type "function" ∧ o.data = .func fd ∧ ((o.dict = none ∧ ∀ n, m n = none) ∨ ∃ d, o.dict = some d ∧ d ≠ x ∧ h.Ns1 d m)
section
variable {w : World} {A : Around} {E : Value → Shared → Prop} {s : Shared} {x : Addr} {fd : FuncData} {m : Str → Option Value} {name : Str} {v : Value}
theorem fa_set {Q : Unit → Shared → Prop} {ns : List Str} (hF : FA s.heap x fd m) (hB : typeLookup (.type "function") name = pure none) (hw : Within m ns) (hsz : ns.length ≤ 1000)
    (hq : ∀ h' tk', FA h' x fd (fun y => if y = name then some v else m y) → (∀ b o, b ≠ x → (∀ o₀ dx, s.heap.get? x = some o₀ → o₀.dict = some dx → b ≠ dx) → s.heap.get? b = some o → h'.get? b = some o) →
      (∀ o₁ d₁, h'.get? x = some o₁ → o₁.dict = some d₁ → (∃ o₀, s.heap.get? x = some o₀ ∧ o₀.dict = some d₁) ∨ s.heap.get? d₁ = none) → Q () { s with heap := h', toks := tk' }) : wpAny (model prg w) A (setAttr (.ref x) name v) Q E s := by
  obtain ⟨o, hx, hc, hd, hdict⟩ := hF
  have hT : s.TypeIs (.ref x) "function" := ⟨_, hx, hc⟩
  unfold setAttr
  have key : wpAny (model prg w) A (callSpecial? (.ref x) (Str.ofString "__setattr__") [.str name s.toks, v]) (fun r s' => r.isSome = true ∧ Q () s') E { s with toks := s.toks + 1 } := by
    refine wpAny_callSpecial?_slot (s := { s with toks := s.toks + 1 }) hT fa_set_slot (wpAny_call_entry fa_set_slot hT F.entry_object_setattr ?_ (fa_set_args _ _ _))
    unfold Builtin.«object.__setattr__»
    have hpass := fa_passes (.ref x)
    have hmro := fa_mro
    show wpAny _ A.in1 (refuseIfOverridden (.ref x) "__setattr__" >>= fun _ => (do
      let name_1 ← attrName (Value.str name s.toks)
      let tp ← typeOf (Value.ref x)
      let attr ← typeLookup tp name_1
      match ← storeTaker? attr with
        | some a => setByDescriptor a (Value.ref x) v
        | none => storeInOwnDict (Value.ref x) tp (Value.str name s.toks) name_1 v attr.isSome)) _ _ _
    rw [refuse_eq]
    refine wpAny_bind (wpAny_bind (wpAny_typeOf hT ?_))
    rw [hmro]
    refine wpAny_bind (wpAny_pure ?_)
    rw [hpass]
    refine wpAny_pure ?_
    show wpAny _ A.in1 (pure name >>= _) _ _ _
    refine wpAny_bind (wpAny_pure (wpAny_bind (wpAny_typeOf hT ?_)))
    rw [hB]
    refine wpAny_bind (wpAny_pure (wpAny_bind (wpAny_pure ?_)))
    show wpAny _ A.in1 (storeInOwnDict (.ref x) (.type "function") (.str name s.toks) name v false) _ _ _
    unfold storeInOwnDict
    have hst : ownStreamTells (.ref x) (.type "function") = pure () := by kernel_rfl
    rw [hst]
    refine wpAny_bind (wpAny_pure ?_)
    rw [if_neg (by decide)]
    show wpAny _ A.in1 (instanceDict x true >>= fun r => match r with
      | some d => storeInDict d (Value.str name s.toks) name v
      | none => noDictFor (Value.ref x) (Value.type "function") name false) _ _ _
    unfold instanceDict
    refine wpAny_bind (wpAny_bind (wpAny_loadPart_at hx ?_))
    rw [hc]
    dsimp only
    rcases hdict with ⟨hdn, hmA⟩ | ⟨dx, hdx, hne, hns⟩
    · rw [hdn, if_neg (by decide +kernel)]
      rw [hd]
      have hx₁ : (s.heap.push { cls := .type "dict", data := .dict #[] }).get? x = some o := Heap.get?_push_of_some _ hx
      have hxs : x ≠ s.heap.objs.size := Nat.ne_of_lt (Heap.lt_size hx)
      dsimp only
      refine wpAny_bind (wpAny_alloc' ?_)
      refine wpAny_bind (wpAny_update' hx₁ ?_)
      have hdm : dictMade (.type "function") x s.heap.objs.size = pure (some s.heap.objs.size) := by kernel_rfl
      rw [hdm]
      refine wpAny_pure ?_
      have hgd : ((s.heap.push { cls := .type "dict", data := .dict #[] }).update x fun o => { cls := o.cls, dict := some s.heap.objs.size, data := o.data, slots := o.slots }).get? s.heap.objs.size
          = some { cls := .type "dict", data := .dict #[] } :=
        (Heap.get?_update_ne _ _ _ _ hxs.symm).trans (Heap.get?_push_at rfl rfl)
      have hnd : ((s.heap.push { cls := .type "dict", data := .dict #[] }).update x fun o => { cls := o.cls, dict := some s.heap.objs.size, data := o.data, slots := o.slots }).Ns s.heap.objs.size (fun _ => none) :=
        ⟨_, #[], _, hgd, rfl, fun e he => absurd he (by simp), fun _ => rfl⟩
      show wpAny _ _ (storeInDict s.heap.objs.size (.str name _) name v) _ _ _
      unfold storeInDict newKeyGuard
      refine wpAny_bind (wpAny_pure (wpAny_bind (wpAny_nsSet1 (Heap.Ns1.of_empty hnd) fun h' hn' hs => ?_)))
      refine ob3_3 (hn'.count (Within.cons name v Within.nil)) fun oD esD epD hoD hdD hcD => ?_
      refine wpAny_bind (wpAny_lookBehind hoD (by rw [hdD]; exact pastItsLine_dict (Nat.le_trans hcD (by rw [List.length_cons, List.length_nil, sizeLine_eq]; omega))) ?_)
      have hx' : h'.get? x = some { cls := o.cls, dict := some s.heap.objs.size, data := o.data, slots := o.slots } := by
        refine (hs.2 x hxs).trans (Heap.get?_update_self _ hx₁ ?_)
        have hfr := (Heap.get?_some_iff.mp hx).2
        obtain ⟨oc, od, odt, osl⟩ := o
        cases odt <;> first | rfl | exact hfr
      refine wpAny_pure ⟨_, rfl, rfl, hq h' _ ⟨_, hx', hc, hd, .inr ⟨s.heap.objs.size, rfl, hxs.symm, ?_⟩⟩ (fun b ob hbx _ hb => ?_) fun o₁ d₁ e1 e2 => ?_⟩
      · obtain ⟨o', es, ep, e1, e2, e3, eu, e4⟩ := hn'
        exact ⟨o', es, ep, e1, e2, e3, eu, fun y => by rw [e4 y]; by_cases hy : y = name <;> simp [hy, hmA]⟩
      · exact (hs.2 b (Nat.ne_of_lt (Heap.lt_size hb))).trans ((Heap.get?_update_ne _ _ _ _ hbx).trans (Heap.get?_push_of_some _ hb))
      · rw [hx'] at e1; cases e1
        cases e2
        exact .inr (get?_size _)
    · rw [hdx]
      refine wpAny_pure ?_
      show wpAny _ _ (storeInDict dx (.str name _) name v) _ _ _
      unfold storeInDict newKeyGuard
      refine wpAny_bind (wpAny_pure (wpAny_bind (wpAny_nsSet1 hns fun h' hn' hs => ?_)))
      refine ob3_3 (hn'.count (Within.cons name v hw)) fun oD esD epD hoD hdD hcD => ?_
      refine wpAny_bind (wpAny_lookBehind hoD (by rw [hdD]; exact pastItsLine_dict (Nat.le_trans hcD (by rw [List.length_cons, sizeLine_eq]; omega))) ?_)
      have hx2 := (hs.2 x hne.symm).trans hx
      refine wpAny_pure ⟨_, rfl, rfl, hq h' _ ⟨o, hx2, hc, hd, .inr ⟨dx, hdx, hne, hn'⟩⟩ (fun b ob _ hbd hb => ?_) fun o₁ d₁ e1 e2 => ?_⟩
      · exact (hs.2 b (hbd o dx hx hdx)).trans hb
      · rw [hx2] at e1; cases e1
        exact .inl ⟨o, hx, e2⟩
  refine wpAny_bind (wpAny_mkText (wpAny_bind (wpAny_mono key (fun r s' h => ?_) fun _ _ e => e)))
  cases r with
  | none => cases h.1
  | some r => exact wpAny_pure h.2
theorem fa_get {Q : Value → Shared → Prop} {b : Bool} (hF : FA s.heap x fd m) (hB : typeLookup (.type "function") name = pure none) (hv : m name = some v) (hh : handedOut v = pure v)
    (hq : Q v { s with toks := s.toks + 1 }) : wpAny (model prg w) A (getAttr (.ref x) name b) Q E s := by
  obtain ⟨o, hx, hc, hd, hdict⟩ := hF
  have hT : s.TypeIs (.ref x) "function" := ⟨_, hx, hc⟩
  unfold getAttr getAttrBy
  show wpAny _ A (mkText name >>= fun t => holding [.ref x, t] (typeOf (.ref x) >>= fun tp => typeLookup tp "__getattribute__" >>= fun r => match r with
    | none => unsupported "internal:no-__getattribute__"
    | some ga => if (onTheHeap tp && ga == .builtin "object.__getattribute__") = true then getAttrEveryday (.ref x) t true else getAttrByItsOwn (.ref x) t tp ga true b)) Q E s
  refine wpAny_bind (wpAny_mkText (wpAny_holding (wpAny_bind (wpAny_typeOf (s := { s with toks := s.toks + 1 }) hT ?_))))
  rw [fa_ga]
  refine wpAny_bind (wpAny_pure ?_)
  dsimp only
  rw [if_neg (by decide)]
  unfold getAttrByItsOwn
  have hb : hookBefore (.type "function") = pure none := rfl
  rw [hb]
  refine wpAny_bind (wpAny_pure (wpAny_bind (wpAny_attempt (wpAny_holding ?_))))
  have hcg : callGetattribute (.ref x) (.str name s.toks) (.builtin "object.__getattribute__") b = boundAndCalled (.builtin "object.__getattribute__") (.ref x) (.str name s.toks) := by
    unfold callGetattribute
    cases b <;> rfl
  rw [hcg]
  unfold boundAndCalled
  rw [fa_ga_slot.bind]
  refine wpAny_bind (wpAny_pure ?_)
  refine wpAny_call_entry (s := { s with toks := s.toks + 1 }) fa_ga_slot hT fa_ga_entry ?_ (fa_ga_args _ _)
  have hsl : slotArgs "__getattribute__" 1 ⟨[.ref x, .str name s.toks], []⟩ = pure (.ref x, [.str name s.toks]) := by rfl
  have hfind : wpAny (model prg w) A.in1 (find (.ref x) (.type "function") name) (fun r s' => r = .value v ∧ s' = { s with toks := s.toks + 1 }) (fun _ _ => False) { s with toks := s.toks + 1 } := by
    unfold find
    rw [hB]
    refine wpAny_bind (wpAny_pure (wpAny_bind (wpAny_pure (wpAny_bind (wpAny_pure ?_)))))
    show wpAny _ _ (ownThenClass (.ref x) name none none) _ _ _
    unfold ownThenClass
    refine wpAny_bind ?_
    show wpAny _ _ (ObjectAttr.ownDict x >>= fun d => inDict name d) _ _ _
    unfold ObjectAttr.ownDict
    refine wpAny_bind (wpAny_bind ?_)
    show wpAny _ _ (loadPart x (some headPart)) _ _ _
    refine wpAny_loadPart_at hx ?_
    rw [hd]
    show wpAny _ _ (instanceDict x false) _ _ _
    unfold instanceDict
    refine wpAny_bind (wpAny_loadPart_at hx ?_)
    rw [hc]
    dsimp only
    rcases hdict with ⟨hdn, hmA⟩ | ⟨dx, hdx, hne, hns⟩
    · rw [hmA] at hv; cases hv
    · rw [hdx]
      refine wpAny_pure ?_
      show wpAny _ _ (nsGet dx name) _ _ _
      refine wpAny_nsGet hns.ns ?_
      rw [hv]
      exact wpAny_bind (wpAny_rule (wpAny_pure ⟨rfl, rfl⟩))
  unfold Builtin.«object.__getattribute__»
  show wpAny _ A.in1 (slotArgs "__getattribute__" 1 ⟨[.ref x, .str name s.toks], []⟩ >>= _) _ _ _
  rw [hsl]
  refine wpAny_bind (wpAny_pure ?_)
  show wpAny _ A.in1 (pure name >>= _) _ _ _
  refine wpAny_bind (wpAny_pure (wpAny_bind (wpAny_typeOf (s := { s with toks := s.toks + 1 }) hT (wpAny_bind (wpAny_mono hfind (fun r s' h => ?_) fun _ _ h => h.elim)))))
  refine ob0_2 h fun z0 z1 => ?_; clear h; subst z0; subst z1
  refine wpAny_pure ⟨_, rfl, ?_⟩
  show wpAny _ A (handedOut v) _ _ _
  rw [hh]
  exact wpAny_pure hq
end
end
noncomputable def codeHdB (K : Frag) (c P : Addr) : Bool := match K.lookup c with
  | some ⟨cl, _, .fields vs, _⟩ => cl == .type "code" && (vs[11]? == some (.ref P)) && (vs.getD 11 .none == .ref P) && (match vs.getD 18 .none, vs.getD 7 .none, vs.getD 9 .none, vs.getD 10 .none with | .str _ _, .int _ _, .bool _, .int _ _ => true | _, _, _, _ => false)
  | _ => false
theorem codeHd_of {K : Frag} {h : Heap} {c P : Addr} (hb : codeHdB K c P = true) (hc : ∀ o, K.lookup c = some o → h.get? c = some o) (hn : c ≠ P) : CodeHd h c P := by
  unfold codeHdB at hb
  split at hb
  · rename_i cl d vs sl hl
    simp only [Bool.and_eq_true, beq_iff_eq] at hb
    refine ob0_2 hb fun z0 h4 => ?_; clear hb; obtain ⟨⟨h1, h2⟩, h3⟩ := z0
    split at h4
    · rename_i q1 q2 q3 q4
      exact ⟨_, vs, _, _, _, _, _, _, _, hc _ hl, h1, rfl, h2, h3, q1, q2, q3, q4, hn⟩
    · cases h4
  · cases hb
noncomputable def bmOf (P : Params) : Addr := match mgF P "__builtins__" with | some (.ref b) => b | _ => 0
noncomputable def builtB (P : Params) : Bool := (match mgF P "__builtins__" with | some (.ref _) => true | _ => false) && bmOf P != builtinsNs && bmOf P != mainGlobals && bmOf P != tabA &&
  (match (Kf P).lookup (bmOf P) with | some ⟨cl, d, .plain, _⟩ => cl == .type "module" && d == some builtinsNs | _ => false)
theorem built_of {w : World} {f : Fz} {s : Shared} (ok : Okf w f s) (hb : builtB w.params = true) : s.heap.BuiltinsAt (mgF w.params) tabA := by
  unfold builtB at hb
  simp only [Bool.and_eq_true, bne_iff_ne, ne_eq] at hb
  refine ob0_2 hb fun z0 h5 => ?_; clear hb; obtain ⟨⟨⟨h1, h2⟩, h3⟩, h4⟩ := z0
  split at h5
  · rename_i cl d sl hl
    simp only [Bool.and_eq_true, beq_iff_eq] at h5
    refine ⟨bmOf w.params, _, ?_, h2, h3, h4, ok.sub _ _ (ok.top _ _ hl h4), h5.1, h5.2, rfl⟩
    unfold bmOf
    split at h1
    · rename_i b hq; rw [hq]
    · cases h1
  · cases h5
theorem built_ok (P : Params) : builtB P = true := by kernel_rfl
theorem hd231 (P : Params) : codeHdB (Kf P) 231 tabA = true := by kernel_rfl
structure Made1 (f : Fz) (s : Shared) (f' : Fz) (s' : Shared) (g : Addr) (args : Arguments) (body : Expr) (scope : Scope) (clos : List (Str × Addr)) : Prop where
  grew : Grew f s f' s'
  keep : ∀ b o, b ≠ tabA → s.heap.get? b = some o → s'.heap.get? b = some o
  fresh : s.heap.get? g = none
  fnone : f' g = none
  ftab : f' tabA = none
  obj : ∃ pm c' ctv, s'.heap.get? g = some (kla_obj "<lambda>" lamQ args body scope clos pm c' ctv) ∧ CodeF f' c'
theorem triples1 (c : Addr) : TriplesOk (tr1 c).toList := trivial
theorem triples12 (c d : Addr) : TriplesOk (tr1 c ++ tr2 d).toList := by simp [tr1, tr2, rawInt, TriplesOk]
section
variable {w : World} {A : Around} {E : Value → Shared → Prop} {s : Shared} {f : Fz} {env : Env} {args : Arguments} {body : Expr} {scope : Scope} {clos : List (Str × Addr)} {pos : Pos}
theorem lam_miss {Q : Value → Shared → Prop} {ps : Array Value} (ok : Okf w f s) (hfT : f tabA = none) (hcode : env.code = .ref 231) (hq : env.qual ++ "<lambda>" = lamQ) (hgl : env.globals = mainGlobals) (hdef : defaultsOf args env = ([], []))
    (hcl : closureFor scope env = pure clos) (hps : s.heap.get? tabA = some (tabO ps)) (htr : TriplesOk ps.toList) (hnf : codeAmong pos ps.toList = none)
    (hP : ∀ f' c', f.Le f' → CodeF f' c' → PsOk f' (ps ++ #[rawInt pos.line, rawInt pos.col, .ref c']))
    (hQ : ∀ g s' f' c', Made1 f s f' s' g args body scope clos → CodeF f' c' → s'.heap.get? tabA = some (tabO (ps ++ #[rawInt pos.line, rawInt pos.col, .ref c'])) → Q (.ref g) s') : wpAny (model prg w) A (eval (.Lambda args body scope pos) env) Q E s := by
  refine kla_eval hdef ?_
  rw [hq]
  have C : CodeHd s.heap 231 tabA := codeHd_of (hd231 w.params) (fun o e => ok.sub _ _ (ok.top _ _ e (by decide))) (by decide)
  refine kla_makeFunction hcl hgl (ok.top.g ok.sub) hcode C hps htr hnf (by decide) (built_of ok (built_ok _)) fun c' ctv h' tk hx hge hlt hrec htb => ?_
  obtain ⟨c₂, oc, vs, t, e2, hoc, hd, hv⟩ := hrec
  cases e2
  have dead : ∀ b, s.heap.objs.size ≤ b → s.heap.get? b = none := fun b hb => Heap.get?_none_of_le hb
  have fdead : ∀ b, s.heap.objs.size ≤ b → f b = none := fun b hb => by
    cases q : f b with
    | none => rfl
    | some o => have := ok.sub _ _ q; rw [dead b hb] at this; cases this
  have hTs : tabA < s.heap.objs.size := Heap.lt_size hps
  have hcT : c' ≠ tabA := Nat.ne_of_gt (Nat.lt_of_lt_of_le hTs hge)
  have hle : f.Le (f.add c' oc) := fun b o e => by
    by_cases hb : b = c'
    · subst hb; rw [fdead b hge] at e; cases e
    · simpa [Fz.add, hb] using e
  have hC : CodeF (f.add c' oc) c' := ⟨oc, vs, t, Fz.add_self .., hd, hv⟩
  have kp : ∀ b o, b ≠ tabA → s.heap.get? b = some o → (h'.push (kla_obj "<lambda>" lamQ args body scope clos ((mgF w.params "__name__").getD .none) c' ctv)).get? b = some o := fun b o hb e => Heap.get?_push_of_some _ (hx b o hb e)
  have hT' : (h'.push (kla_obj "<lambda>" lamQ args body scope clos ((mgF w.params "__name__").getD .none) c' ctv)).get? tabA = some (tabO (ps ++ #[rawInt pos.line, rawInt pos.col, .ref c'])) := Heap.get?_push_of_some _ htb
  have hgs : s.heap.objs.size ≤ h'.objs.size := Nat.le_trans hge (Nat.le_of_lt hlt)
  refine hQ h'.objs.size _ (f.add c' oc) c' ⟨⟨hle, fun b o e => ?_, fun b o e => ?_, ⟨_, tk, rfl, fun b o e => ?_⟩, fun _ _ => ⟨_, hT', hP _ c' hle hC⟩⟩, kp, dead _ hgs, ?_, ?_, _, c', ctv, Heap.get?_push_size _ rfl, hC⟩ hC hT'
  · by_cases hb : b = c'
    · subst hb; exact .inr (dead _ hge)
    · left; simpa [Fz.add, hb] using e
  · by_cases hb : b = c'
    · subst hb; simp [Fz.add] at e; subst e
      exact Heap.get?_push_of_some _ hoc
    · have e' : f b = some o := by simpa [Fz.add, hb] using e
      exact kp b o (fun q => by rw [q, hfT] at e'; cases e') (ok.sub _ _ e')
  · by_cases hb : b = tabA
    · subst hb
      rw [hps] at e; cases e
      exact ⟨_, hT', .inr (.inr ⟨rfl, ps, _, rfl, rfl⟩)⟩
    · exact ⟨o, kp b o hb e, .inl rfl⟩
  · have : h'.objs.size ≠ c' := Nat.ne_of_gt hlt
    simp [Fz.add, this, fdead _ hgs]
  · simp [Fz.add, Ne.symm hcT, hfT]
theorem lam_hit {Q : Value → Shared → Prop} {ps : Array Value} {c' : Addr} (ok : Okf w f s) (hfT : f tabA = none) (hcode : env.code = .ref 231) (hq : env.qual ++ "<lambda>" = lamQ) (hgl : env.globals = mainGlobals) (hdef : defaultsOf args env = ([], []))
    (hcl : closureFor scope env = pure clos) (hps : s.heap.get? tabA = some (tabO ps)) (htr : TriplesOk ps.toList) (hf : codeAmong pos ps.toList = some (.ref c')) (hc : CodeF f c')
    (hQ : ∀ g s', Made1 f s f s' g args body scope clos → s'.heap.get? tabA = some (tabO ps) → Q (.ref g) s') : wpAny (model prg w) A (eval (.Lambda args body scope pos) env) Q E s := by
  refine kla_eval hdef ?_
  rw [hq]
  have C : CodeHd s.heap 231 tabA := codeHd_of (hd231 w.params) (fun o e => ok.sub _ _ (ok.top _ _ e (by decide))) (by decide)
  refine kla_makeFunctionHit hcl hgl (ok.top.g ok.sub) hcode C hps htr hf (built_of ok (built_ok _)) fun ctv h' tk hk hsz => ?_
  have dead : s.heap.get? h'.objs.size = none := Heap.get?_none_of_le hsz
  have kp : ∀ b o, s.heap.get? b = some o → (h'.push (kla_obj "<lambda>" lamQ args body scope clos ((mgF w.params "__name__").getD .none) c' ctv)).get? b = some o := fun b o e => Heap.get?_push_of_some _ (hk b o e)
  refine hQ h'.objs.size _ ⟨Grew.same ok.sub kp, fun b o _ e => kp b o e, dead, ?_, hfT, _, c', ctv, Heap.get?_push_size _ rfl, hc⟩ (kp _ _ hps)
  cases q : f h'.objs.size with
  | none => rfl
  | some o => have := ok.sub _ _ q; rw [dead] at this; cases this
noncomputable def Tab1 (f : Fz) (s : Shared) : Prop := ∃ ps, s.heap.get? tabA = some (tabO ps) ∧ ps ≠ #[] ∧ PsOk f ps
theorem Tab1.step {f f' : Fz} {s s' : Shared} (x : Tab1 f s) (hT : TabOk f' s') (hf : f' tabA = none) (al : ∀ o, s.heap.get? tabA = some o → ∃ o', s'.heap.get? tabA = some o' ∧ Alike tabA o o') : Tab1 f' s' := by
  obtain ⟨ps, h1, h2, _⟩ := x
  refine ob1_2 (hT hf) fun qs h4 h5 => ?_
  refine ob1_2 (al _ h1) fun o' e al => ?_
  rw [h4] at e
  have e := Option.some.inj e
  subst e
  refine ⟨qs, h4, ?_, h5⟩
  rintro rfl
  rcases al with q | ⟨⟨es, ep, q⟩, _⟩ | ⟨_, vs, more, q1, q2⟩
  · have := congrArg Obj.data q; simp [tabO] at this; exact h2 this
  · cases q
  · have e1 := congrArg Obj.data q1
    have e2 := congrArg Obj.data q2
    simp [tabO] at e1 e2
    exact h2 (by rw [e1]; exact e2.1)
theorem lam1 {Q : Value → Shared → Prop} (ok : Okf w f s) (hfT : f tabA = none) (hcode : env.code = .ref 231) (hq : env.qual ++ "<lambda>" = lamQ) (hgl : env.globals = mainGlobals) (hdef : defaultsOf args env = ([], []))
    (hcl : closureFor scope env = pure clos) (hp : pos.line = 268 ∧ pos.col = 11)
    (hQ : ∀ g s' f', Made1 f s f' s' g args body scope clos → Tab1 f' s' → Q (.ref g) s') : wpAny (model prg w) A (eval (.Lambda args body scope pos) env) Q E s := by
  refine ob0_2 hp fun hp1 hp2 => ?_; clear hp
  refine ob1_2 (ok.tab hfT) fun ps hps hP => ?_
  rcases hP with rfl | ⟨c1, h1, rfl | ⟨c2, h2, rfl⟩⟩
  · refine lam_miss ok hfT hcode hq hgl hdef hcl hps trivial rfl (fun f' c' _ hc => .inr ⟨c', hc, .inl ?_⟩) fun g s' f' c' m hc ht => hQ g s' f' m ⟨_, ht, ?_, .inr ⟨c', hc, .inl ?_⟩⟩
    · rw [hp1, hp2]; rfl
    · simp
    · rw [hp1, hp2]; rfl
  · refine lam_hit ok hfT hcode hq hgl hdef hcl hps (triples1 _) (c' := c1) ?_ h1 fun g s' m ht => hQ g s' f m ⟨_, ht, by simp [tr1], .inr ⟨c1, h1, .inl rfl⟩⟩
    simp [tr1, rawInt, codeAmong, hp1, hp2]
  · refine lam_hit ok hfT hcode hq hgl hdef hcl hps (triples12 _ _) (c' := c1) ?_ h1 fun g s' m ht => hQ g s' f m ⟨_, ht, by simp [tr1], .inr ⟨c1, h1, .inr ⟨c2, h2, rfl⟩⟩⟩
    simp [tr1, tr2, rawInt, codeAmong, hp1, hp2]
theorem lam2 {Q : Value → Shared → Prop} (ok : Okf w f s) (hfT : f tabA = none) (hT1 : Tab1 f s) (hcode : env.code = .ref 231) (hq : env.qual ++ "<lambda>" = lamQ) (hgl : env.globals = mainGlobals) (hdef : defaultsOf args env = ([], []))
    (hcl : closureFor scope env = pure clos) (hp : pos.line = 271 ∧ pos.col = 22)
    (hQ : ∀ g s' f', Made1 f s f' s' g args body scope clos → Q (.ref g) s') : wpAny (model prg w) A (eval (.Lambda args body scope pos) env) Q E s := by
  refine ob0_2 hp fun hp1 hp2 => ?_; clear hp
  obtain ⟨ps, hps, hne, hP⟩ := hT1
  rcases hP with rfl | ⟨c1, h1, rfl | ⟨c2, h2, rfl⟩⟩
  · exact absurd rfl hne
  · refine lam_miss ok hfT hcode hq hgl hdef hcl hps (triples1 _) ?_ (fun f' c' hle hc => .inr ⟨c1, h1.mono hle, .inr ⟨c', hc, ?_⟩⟩) fun g s' f' c' m hc ht => hQ g s' f' m
    · simp [tr1, rawInt, codeAmong, hp1, hp2]
    · rw [hp1, hp2]; rfl
  · refine lam_hit ok hfT hcode hq hgl hdef hcl hps (triples12 _ _) (c' := c2) ?_ h2 fun g s' m ht => hQ g s' f m
    simp [tr1, tr2, rawInt, codeAmong, hp1, hp2]
end
section
variable {w : World} {A : Around} {E : Value → Shared → Prop} {s : Shared} {f : Fz} {nm : List (Str × NameKind)} {env : Env} {ρ : Rho} {σ : Sig} {α : Str → Addr} {M : Addr → Prop}
theorem name_same {x : Str} {c : Bool} {v : V} {p : Pos} {Q : Value → Shared → Prop} (t : St w nm env ρ σ α M f s) (hx : ρ.lookup x = some (c, v)) (hd : (x == ("__debug__" : Str)) = false) (hQ : ∀ val, Rel f v val → Q val s) : wpAny (model prg w) A (eval (.Name x p) env) Q E s := by
  have H := t.ok.held x c v hx
  cases c with
  | false =>
    obtain ⟨hk, m, val, hns, hm, r⟩ := H
    exact wpAny_Name (wpAny_loadName_local t.kind hk hns hm (hQ _ r)) hd
  | true =>
    obtain ⟨hk, a, val, hc, hns, r⟩ := H
    rcases hk with hk | hk
    · exact wpAny_Name (wpAny_loadName_cell t.kind hk hc hns (hQ _ r)) hd
    · exact absurd (by have := hk; unfold Env.kindOf at this; rw [t.nms] at this; exact this) (t.nofree x)
structure RS (f : Fz) (M : Addr → Prop) (s0 s : Shared) (g : Addr) (fd : FuncData) (m : Str → Option Value) : Prop where
  fa : FA s.heap g fd m
  out : ∀ b, (b = g ∨ ∃ o, s.heap.get? g = some o ∧ o.dict = some b) → ¬ M b ∧ f b = none ∧ b ≠ tabA ∧ s0.heap.get? b = none
theorem FA.keep {h h' : Heap} {g : Addr} {fd : FuncData} {m : Str → Option Value} (x : FA h g fd m) (k1 : ∀ o, h.get? g = some o → h'.get? g = some o) (k2 : ∀ o d od, h.get? g = some o → o.dict = some d → h.get? d = some od → h'.get? d = some od) : FA h' g fd m := by
  obtain ⟨o, e1, e2, e3, e4⟩ := x
  refine ⟨o, k1 _ e1, e2, e3, e4.imp id ?_⟩
  rintro ⟨d, q1, q2, q3⟩
  exact ⟨d, q1, q2, q3.at fun od e => k2 o d od e1 q1 e⟩
theorem RS.set {s0 : Shared} {f₀ : Fz} {g : Addr} {fd : FuncData} {m : Str → Option Value} {name : Str} {v : Value} {ns : List Str} {Q : Unit → Shared → Prop} (r : RS f M s0 s g fd m) (t : St w nm env ρ σ α M f s) (L : Live M s) (gs : GrewS M f₀ s0 M f s)
    (hB : typeLookup (.type "function") name = pure none) (hw : PySem.Within m ns) (hsz : ns.length ≤ 1000)
    (hQ : ∀ s', RS f M s0 s' g fd (fun y => if y = name then some v else m y) → St w nm env ρ σ α M f s' → Live M s' → GrewS M f₀ s0 M f s' → (∀ o, s.heap.get? tabA = some o → s'.heap.get? tabA = some o) → (∀ b o, f b = some o → s'.heap.get? b = some o) → Q () s') :
    wpAny (model prg w) A (setAttr (.ref g) name v) Q E s := by
  refine fa_set r.fa hB hw hsz fun h' tk' hF hk hd => ?_
  have kp : ∀ b o, ¬ (b = g ∨ ∃ o, s.heap.get? g = some o ∧ o.dict = some b) → s.heap.get? b = some o → h'.get? b = some o := fun b o hb e =>
    hk b o (fun q => hb (.inl q)) (fun o₀ dx e1 e2 q => hb (.inr ⟨o₀, e1, q ▸ e2⟩)) e
  have t' := t.otherN (N := fun b => b = g ∨ ∃ o, s.heap.get? g = some o ∧ o.dict = some b) (fun b hb => (r.out b hb).1) (fun b hb => (r.out b hb).2.1) (fun b hb => (r.out b hb).2.2.1) (tk := tk') kp
  have L' := L.otherN (N := fun b => b = g ∨ ∃ o, s.heap.get? g = some o ∧ o.dict = some b) (fun b hb => (r.out b hb).1) (tk := tk') kp
  have g' := gs.otherN (N := fun b => b = g ∨ ∃ o, s.heap.get? g = some o ∧ o.dict = some b) (fun b hb => (r.out b hb).2.2.2) (tk := tk') kp
  refine hQ _ ⟨hF, fun b hb => ?_⟩ t' L' g' (fun o e => kp _ _ (fun q => (r.out _ q).2.2.1 rfl) e) t'.okf.sub
  rcases hb with rfl | ⟨o, e1, e2⟩
  · exact r.out _ (.inl rfl)
  · rcases hd o b e1 e2 with h | h
    · exact r.out _ (.inr h)
    · have hM : ¬ M b := fun hm => by refine ob1_1 (L b hm) fun o' e => ?_; rw [h] at e; cases e
      have hf : f b = none := by
        cases q : f b with
        | none => rfl
        | some o' => have := t.okf.sub _ _ q; rw [h] at this; cases this
      refine ⟨hM, hf, ?_, ?_⟩
      · intro q
        subst q
        refine ob1_1 t.okf.tabLive fun o' ho' => ?_
        rw [h] at ho'; cases ho'
      · exact gs.dead h hM
end
theorem obj_solid {o : Obj} (h : o.cls = .type "function") {fd : FuncData} (hd : o.data = .func fd) : Solid o := solid_cls h (by intro es ep q; rw [hd] at q; cases q)
theorem RS.exact {f f' : Fz} {M : Addr → Prop} {s0 s s' : Shared} {g : Addr} {fd : FuncData} {m : Str → Option Value} (r : RS f M s0 s g fd m) (kp : ∀ b o, b ≠ tabA → s.heap.get? b = some o → s'.heap.get? b = some o)
    (hf : ∀ a o, f' a = some o → f a = some o ∨ s.heap.get? a = none) : RS f' M s0 s' g fd m := by
  obtain ⟨o, e1, e2, e3, e4⟩ := id r.fa
  have live : ∀ b, (b = g ∨ ∃ o, s.heap.get? g = some o ∧ o.dict = some b) → ∃ o, s.heap.get? b = some o := fun b hb => by
    rcases hb with rfl | ⟨o', q1, q2⟩
    · exact ⟨o, e1⟩
    · rw [e1] at q1; cases q1
      rcases e4 with ⟨q, _⟩ | ⟨d, q, _, q3⟩
      · rw [q] at q2; cases q2
      · rw [q] at q2; cases q2
        obtain ⟨od, _, _, h, _⟩ := q3; exact ⟨od, h⟩
  refine ⟨r.fa.keep (fun o h => kp _ _ (r.out g (.inl rfl)).2.2.1 h) (fun o d od h1 h2 h3 => kp _ _ (r.out d (.inr ⟨o, h1, h2⟩)).2.2.1 h3), fun b hb => ?_⟩
  have hb' : b = g ∨ ∃ o, s.heap.get? g = some o ∧ o.dict = some b := by
    rcases hb with h | ⟨o', q1, q2⟩
    · exact .inl h
    · have := kp _ _ (r.out g (.inl rfl)).2.2.1 e1
      rw [this] at q1; cases q1
      exact .inr ⟨o, e1, q2⟩
  refine ob0_4 (r.out b hb') fun x1 x2 x3 x4 => ?_
  refine ⟨x1, ?_, x3, x4⟩
  cases q : f' b with
  | none => rfl
  | some o' =>
    refine ob1_1 (live b hb') fun o1 h1 => ?_
    rcases hf b o' q with h | h
    · rw [x2] at h; cases h
    · rw [h1] at h; cases h
structure Res (M : Addr → Prop) (f₁ : Fz) (s₂ : Shared) (f : Fz) (s : Shared) : Prop where
  grew : GrewS M f₁ s₂ (fun _ => False) f s
  sub : ∀ a o, f a = some o → s.heap.get? a = some o
  tab : TabOk f s
theorem Res.add {M : Addr → Prop} {f₁ f : Fz} {s₂ s : Shared} (x : Res M f₁ s₂ f s) {a : Addr} {o : Obj} (ha : f a = none) (ho : s.heap.get? a = some o) (hd : s₂.heap.get? a = none ∨ M a) : Res M f₁ s₂ (f.add a o) s := by
  have hle : f.Le (f.add a o) := fun b o' e => by
    by_cases hb : b = a
    · subst hb; rw [ha] at e; cases e
    · simpa [Fz.add, hb] using e
  refine ⟨⟨x.grew.le.trans hle, fun b o' e => ?_, x.grew.keeps, fun _ h => h.elim, fun _ => x.tab.keep hle fun _ e => e⟩, fun b o' e => ?_, x.tab.keep hle fun _ e => e⟩
  · by_cases hb : b = a
    · subst hb; exact .inr hd
    · exact x.grew.new b o' (by simpa [Fz.add, hb] using e)
  · by_cases hb : b = a
    · subst hb; simp [Fz.add] at e; subst e; exact ho
    · exact x.sub b o' (by simpa [Fz.add, hb] using e)
theorem Fz.add_other {f : Fz} {a b : Addr} {o : Obj} (h : b ≠ a) : f.add a o b = f b := by simp [Fz.add, h]
theorem Made1.freeze {f f' : Fz} {s s' : Shared} {g : Addr} {args : Arguments} {body : Expr} {scope : Scope} {clos : List (Str × Addr)} (m : Made1 f s f' s' g args body scope clos) :
    ∃ f'' pm c' ctv, Grew f s f'' s' ∧ f'' g = some (kla_obj "<lambda>" lamQ args body scope clos pm c' ctv) ∧ CodeF f'' c' := by
  refine ob3_2 m.obj fun pm c' ctv ho hc => ?_
  have hle : f'.Le (f'.add g (kla_obj "<lambda>" lamQ args body scope clos pm c' ctv)) := fun b o' e => by
    by_cases hb : b = g
    · subst hb; rw [m.fnone] at e; cases e
    · simpa [Fz.add, hb] using e
  refine ⟨_, pm, c', ctv, ⟨m.grew.le.trans hle, fun b o e => ?_, fun b o e => ?_, m.grew.keeps, fun h => (m.grew.tab h).keep hle fun _ e => e⟩, Fz.add_self .., hc.mono hle⟩
  · by_cases hb : b = g
    · subst hb; exact .inr m.fresh
    · exact m.grew.new b o (by simpa [Fz.add, hb] using e)
  · by_cases hb : b = g
    · subst hb; simp [Fz.add] at e; subst e; exact ho
    · exact m.grew.sub b o (by simpa [Fz.add, hb] using e)
theorem fn_law_rule (w : World) : FnIs w 232 (namesN 31) (bodyN 31) (fdAt w.params 232) := fnIs 31 (by kernel_rfl) (by decide) (by kernel_rfl) (by kernel_rfl) (by kernel_rfl) (by kernel_rfl) (by kernel_rfl) (by kernel_rfl) (by kernel_rfl) (by kernel_rfl) (by kernel_rfl) (by kernel_rfl)
theorem lr_code (P : Params) : (fdAt P 232).code = .ref 231 := by kernel_rfl
theorem lr_qual (P : Params) : (fdAt P 232).qualname ++ ".<locals>." ++ "<lambda>" = lamQ := by kernel_rfl
theorem law_rule_body {w : World} {A : Around} {env : Env} {f₁ : Fz} {s₂ : Shared} {M : Addr → Prop} {p : Str} {b : Bool} {R : Result → Shared → Prop} (hw : w.free = true) (hA : A.handled = none) (hMT : ¬ M tabA) (he : EnvOf (fdAt w.params 232) 232 env)
    (L : Live M s₂) (t : St w (namesN 31) env [("place", true, .str p), ("verdict", false, .bool b)] [] (fun _ => 0) M f₁ s₂)
    (hQ : ∀ g s' f' M', GrewS M f₁ s₂ M' f' s' → (∀ a o, f' a = some o → s'.heap.get? a = some o) → TabOk f' s' → RulAt f' g p b → R (.ok (.ret (.ref g))) s') : codeAny (model prg w) A (.func (bodyN 31) env) R s₂ := by
  have hcode : env.code = .ref 231 := by rw [he.code, lr_code]
  have hqual : env.qual ++ "<lambda>" = lamQ := by rw [he.qual, lr_qual]
  refine codeAny_func ?_
  refine wpAny_execs_cons ?_
  refine wpAny_Assign_Name (lam1 t.okf (t.okf.tabn hw) hcode hqual t.glob rfl (clos := []) rfl ⟨rfl, rfl⟩ fun g s1 f1 m T1 => ?_) (by rfl)
  have t1 := t.grew L m.grew
  have L1 := L.grew m.grew.keeps
  have hMg : ¬ M g := fun hm => by refine ob1_1 (L g hm) fun o e => ?_; rw [m.fresh] at e; cases e
  have hf1g : f₁ g = none := by
    cases q : f₁ g with
    | none => rfl
    | some o => have := m.grew.le _ _ q; rw [m.fnone] at this; cases this
  have hgT : g ≠ tabA := t.okf.tab.live hf1g m.fresh
  refine ob3_2 m.obj fun pm c1 ctv ho hc1 => ?_
  refine asgn_local (n := "rule") (x := .top g) (by kernel_rfl) env (A.deeper env) _ f1 s1 M (.ref g) _ _ hA L1 t1 (rel_top.mpr rfl) fun s2 t2 L2 g2 => ?_
  have g02 := m.grew.toS.trans g2
  obtain ⟨fd, r2⟩ : ∃ fd, RS f1 M s₂ s2 g fd (fun _ => none) := by
    refine ⟨_, ⟨_, g2.keep hMg ho (obj_solid rfl rfl), rfl, rfl, .inl ⟨rfl, fun _ => rfl⟩⟩, fun b hb => ?_⟩
    rcases hb with rfl | ⟨o, e1, e2⟩
    · exact ⟨hMg, m.fnone, hgT, m.fresh⟩
    · rw [g2.keep hMg ho (obj_solid rfl rfl)] at e1; cases e1; cases e2
  have T2 : Tab1 f1 s2 := T1.step t2.okf.tab (t2.okf.tabn hw) fun o e => g2.live hMT e
  -- rule.place = place
  refine wpAny_execs_cons (plainObj_wpAny_Assign_Attribute (name_same t2 (c := true) (v := .str p) (by wtm_at "lk") (by decide +kernel) fun v1 rv1 => name_same t2 (c := false) (v := .top g) (by wtm_at "lk") (by decide +kernel) fun o1 ro1 => ?_) (by rfl))
  obtain rfl := rel_top.mp ro1
  refine ob1_1 (rel_str.mp rv1) fun tk1 z0 => ?_; subst z0
  refine r2.set t2 L2 g02 fa_no_place PySem.Within.nil (by simp) fun s3 r3 t3 L3 g03 k3 _ => ?_
  have T3 : Tab1 f1 s3 := T2.step t3.okf.tab (t3.okf.tabn hw) fun o e => ⟨o, k3 o e, .inl rfl⟩
  -- rule.allowance = verdict
  refine wpAny_execs_cons (plainObj_wpAny_Assign_Attribute (name_same t3 (c := false) (v := .bool b) (by wtm_at "lk") (by decide +kernel) fun v2 rv2 => name_same t3 (c := false) (v := .top g) (by wtm_at "lk") (by decide +kernel) fun o2 ro2 => ?_) (by rfl))
  obtain rfl := rel_top.mp ro2
  obtain rfl := rel_bool.mp rv2
  refine r3.set t3 L3 g03 fa_no_allowance (PySem.Within.cons _ _ PySem.Within.nil) (by simp) fun s4 r4 t4 L4 g04 k4 _ => ?_
  have T4 : Tab1 f1 s4 := T3.step t4.okf.tab (t4.okf.tabn hw) fun o e => ⟨o, k4 o e, .inl rfl⟩
  -- rule.applies_to = lambda page: ..
  refine ob0_2 (t4.cel "place" (.str p) (by wtm_at "lk")) fun hk z0 => ?_; obtain ⟨pc, pv, hc1', hc2', hc3'⟩ := z0
  have hcl : closureFor lamScope env = pure [(Str.ofString "place", pc)] := by
    rw [clo_eq (scope := lamScope) (env := env) fun x hx => ?_]
    · have e : cloOf env lamScope.names [] = [(Str.ofString "place", (env.cells.lookup (Str.ofString "place")).getD 0)] := by rfl
      rw [e, hc1']; rfl
    · have : x = Str.ofString "place" := by
        have h : x ∈ (lamScope.names.filter fun p => p.2 == .free).map (·.1) := List.mem_map_of_mem (f := (·.1)) (List.mem_filter.mpr ⟨hx, rfl⟩)
        have e : (lamScope.names.filter fun p => p.2 == .free).map (·.1) = [Str.ofString "place"] := by kernel_rfl
        rw [e] at h; simpa using h
      subst this; exact ⟨pc, hc1'⟩
  refine wpAny_execs_cons (plainObj_wpAny_Assign_Attribute (lam2 (scope := lamScope) (args := lamArgs) (body := lamBody) t4.okf (t4.okf.tabn hw) T4 hcode hqual t4.glob rfl hcl ⟨rfl, rfl⟩ fun g2' s5 f5 m5 => ?_) (by rfl))
  refine ob4_3 m5.freeze fun f6 pm6 c6 ctv6 gr6 hg6 hc6 => ?_
  have t5 := t4.grew L4 gr6
  have L5 := L4.grew gr6.keeps
  have r5 := r4.exact m5.keep gr6.new
  have g05 := g04.trans gr6.toS
  refine name_same t5 (c := false) (v := .top g) (by wtm_at "lk") (by decide +kernel) fun o3 ro3 => ?_
  obtain rfl := rel_top.mp ro3
  refine r5.set t5 L5 g05 fa_no_applies (PySem.Within.cons _ _ (PySem.Within.cons _ _ PySem.Within.nil)) (by simp) fun s6 r6 t6 L6 g06 k6 kf6 => ?_
  refine wpAny_execs_cons (wpAny_Return_some (name_same t6 (c := false) (v := .top g) (by wtm_at "lk") (by decide +kernel) fun o4 ro4 => ?_))
  obtain rfl := rel_top.mp ro4
  refine ob0_2 (t6.cel "place" (.str p) (by wtm_at "lk")) fun _ z0 => ?_; obtain ⟨pc', val6, hc1'', ⟨oc, hoc, hocd⟩, rv6⟩ := z0
  rw [hc1'] at hc1''; cases hc1''
  refine ob1_1 (rel_str.mp rv6) fun tk6 z0 => ?_; subst z0
  refine ob2_3 (t6.cells "place" hk) fun _ vo q1 hMpc _ => ?_
  rw [hc1'] at q1; cases q1
  obtain ⟨og, hog, hogc, hogd, hdd⟩ := r6.fa
  rcases hdd with ⟨_, hbad⟩ | ⟨d, hd1, hd2, od, es, ep, d1, d2, d3, d4, d5⟩
  · have := hbad (Str.ofString "applies_to")
    simp at this
  have R0 : Res M f₁ s₂ f6 s6 := ⟨⟨g06.le, g06.new, g06.keeps, fun _ h => h.elim, g06.tab⟩, t6.okf.sub, t6.okf.tab⟩
  refine ob0_4 (r6.out g (.inl rfl)) fun x1 x2 x3 x4 => ?_
  refine ob0_4 (r6.out d (.inr ⟨og, hog, hd1⟩)) fun y1 y2 y3 y4 => ?_
  have hgp : g ≠ pc := fun q => x1 (q ▸ hMpc)
  have hdp : d ≠ pc := fun q => y1 (q ▸ hMpc)
  have R1 := R0.add (t6.free _ hMpc) hoc (.inr hMpc)
  have R2 := R1.add (a := g) (by rw [Fz.add_other hgp]; exact x2) hog (.inl x4)
  have R3 := R2.add (a := d) (by rw [Fz.add_other hd2, Fz.add_other hdp]; exact y2) d1 (.inl y4)
  have l1 : f6.Le (f6.add pc oc) := fun b o e => by
    by_cases hb : b = pc
    · subst hb; rw [t6.free _ hMpc] at e; cases e
    · rw [Fz.add_other hb]; exact e
  have l3 : f6.Le (((f6.add pc oc).add g og).add d od) := fun b o e => by
    have h1 : b ≠ g := fun q => by rw [q, x2] at e; cases e
    have h2 : b ≠ d := fun q => by rw [q, y2] at e; cases e
    rw [Fz.add_other h2, Fz.add_other h1]; exact l1 _ _ e
  obtain ⟨ocl, odi, oda, osl⟩ := og
  dsimp only at hogc hogd hd1
  subst hogc hogd hd1
  refine hQ g s6 _ _ R3.grew R3.sub R3.tab ⟨fd, osl, d, _, g2', tk1, ?_, hd2, ⟨od, es, ep, Fz.add_self .., d2, d3, d4, d5⟩, ?_, ?_, ?_, pc, c6, pm6, ctv6, oc, tk6, l3 _ _ hg6, hc6.mono l3, ?_, hocd⟩
  · rw [Fz.add_other hd2.symm, Fz.add_self]
  · show (if _ then _ else _) = _
    rw [if_neg (by decide +kernel), if_neg (by decide +kernel), if_pos rfl]
  · show (if _ then _ else _) = _
    rw [if_neg (by decide +kernel), if_pos rfl]
  · show (if _ then _ else _) = _
    rw [if_pos rfl]
  · rw [Fz.add_other hdp.symm, Fz.add_other hgp.symm, Fz.add_self]
theorem law_rule_ok {w : World} {k : Nat} {p : Str} {b : Bool} (hw : w.free = true) : CallOk w (k + 1) (.top 232) [.str p, .bool b] (.rul p b) := fun A f s vf vs rm ok rf rv Q E hQ => by
  obtain rfl := rel_top.mp rf
  have hroom : A.depth < recursionLimit := by have := rm.depth; omega
  have h := fn_codeG (R := fun r s' => match r with | .ok (.ret v) => Q v s' | .ok _ => False | .error e => E e s') (fn_law_rule w) (args := [.str p, .bool b]) (kw := []) (pn := ["place", "verdict"]) (pv := [.str p, .bool b]) (binds2 fun u v => by kernel_rfl) (nodup_of (by decide +kernel)) (isLC_of (by kernel_rfl)) hroom ok rv (kvs := []) (by simp only [List.map_nil]; exact RelL.nil)
    fun env f₁ s₂ M he g hM hMd L t => law_rule_body hw rm.handled (fun hm => by
      refine ob1_1 ok.tabLive fun o e => ?_
      rw [hMd _ hm] at e; cases e) he L t fun g' s' f' M' gs sub tab r => hQ (.ref g') s' f' (gs.toG g hMd sub tab) (by simp only [Rel]; exact ⟨g', rfl, r⟩)
  exact wpAny_call h
theorem fa_no_getattr : typeLookup (.type "function") "__getattr__" = pure none := by rw [typeLookup_type, builtinLookup_eq_fast]; kernel_rfl
section
variable {w : World} {A : Around} {E : Value → Shared → Prop} {s : Shared} {env : Env}
theorem meth_any {o : Expr} {name : Str} {apos pos : Pos} {args : List Expr} {Q : Value → Shared → Prop} (hbase : attributeBase o name env (eval o env) = eval o env)
    (hfew : ((backTo pos (starEach args env)).all (fun x => !x.1) && (backToKw pos (keywordEach [] env)).all (fun x => x.1.isSome)
      && decide (args.length + ([] : List Keyword).length + (if ([] : List Keyword).isEmpty then 0 else 1) < 30)) = true) (hline : (apos.endLine == pos.line) = true)
    (h : ∀ pl, wpAny (model prg w) A (eval o env) (fun ov s₁ => wpAny (model prg w) A (getMethod ov name pl) (fun r s₂ => wpAny (model prg w) A (callWith pos r.1 r.2 (backTo pos (starEach args env)) []) Q E s₂) E s₁) E s) :
    wpAny (model prg w) A (eval (.Call (.Attribute o name apos) args [] pos) env) Q E s := by
  rw [arm_eval_Call, hbase]
  refine wpAny_bind (wpAny_mono (h (do return (← importBound o env).getD true)) (fun ov s₁ h₁ => ?_) fun _ _ e => e)
  refine wpAny_bind (wpAny_standAt ?_)
  have hform : methodCallForm (args.length + ([] : List Keyword).length) (backTo pos (starEach args env)) (backToKw pos (keywordEach [] env)) = true := hfew
  have hpos : methodCallPos true o env apos pos = pure pos := by unfold methodCallPos; simp [hline]
  unfold methodCall
  rw [hform]
  refine wpAny_bind (wpAny_holding (wpAny_mono h₁ (fun r s₂ h₂ => ?_) fun _ _ e => e))
  exact wpAny_bind (wpAny_of_eq hpos h₂)
theorem gm_fn {x : Addr} {fd : FuncData} {m : Str → Option Value} {name : Str} {v : Value} {pl : Sem Bool} {Q : Value × List Value → Shared → Prop} (hF : FA s.heap x fd m) (hB : typeLookup (.type "function") name = pure none) (hv : m name = some v) (hh : handedOut v = pure v)
    (hq : Q (v, []) { s with toks := s.toks + 1 }) : wpAny (model prg w) A (getMethod (.ref x) name pl) Q E s := by
  obtain ⟨o, hx, hc, hd, hdict⟩ := id hF
  have hT : s.TypeIs (.ref x) "function" := ⟨_, hx, hc⟩
  have hcan := PySem.F.canon_object_ga
  have u : wpAny (model prg w) A (do return (← getAttr (.ref x) name, ([] : List Value))) Q E s := wpAny_bind (fa_get hF hB hv hh (wpAny_pure hq))
  unfold getMethod
  refine wpAny_bind (wpAny_specialOf hT fa_ga ?_)
  dsimp only
  rw [hcan, if_neg (by decide)]
  refine wpAny_bind (wpAny_specialOf hT fa_no_getattr ?_)
  rw [if_neg (by decide)]
  refine wpAny_bind (wpAny_specialOf hT hB ?_)
  exact u
theorem DictAt.ns1 {f : Fz} {d : Addr} {m : Str → Option Value} (x : DictAt f d m) (hs : ∀ a o, f a = some o → s.heap.get? a = some o) : s.heap.Ns1 d m := by
  obtain ⟨o, es, ep, e, r⟩ := x; exact ⟨o, es, ep, hs _ _ e, r⟩
theorem RulAt.fa {f : Fz} {a : Addr} {p : Str} {b : Bool} (x : RulAt f a p b) (hs : ∀ a o, f a = some o → s.heap.get? a = some o) :
    ∃ fd m g t, FA s.heap a fd m ∧ m "place" = some (.str p t) ∧ m "allowance" = some (.bool b) ∧ m "applies_to" = some (.ref g) ∧ LamAt f g p := by
  obtain ⟨fd, sl, d, m, g, t, e1, e2, e3, e4, e5, e6, e7⟩ := x
  exact ⟨fd, m, g, t, ⟨_, hs _ _ e1, rfl, rfl, .inr ⟨d, rfl, e2, e3.ns1 hs⟩⟩, e4, e5, e6, e7⟩
end
theorem rel_rul {f : Fz} {v : Value} {p b} : Rel f (.rul p b) v ↔ ∃ a, v = .ref a ∧ RulAt f a p b := by simp only [Rel]
theorem rel_ent {f : Fz} {v : Value} {rs} : Rel f (.ent rs) v ↔ ∃ a l vs n, v = .ref a ∧ EntAt f a l ∧ f l = some (lstO vs n) ∧ RelL f rs vs := by simp only [Rel]
section
variable {w : World} {k : Nat} {gs : List (Str × NameKind)} {ρ : Rho}
theorem ev_place {e : Expr} {pos : Pos} {p : Str} {b : Bool} (he : Evals w k gs ρ e (.rul p b)) (hb : ∀ env, eval (.Attribute e "place" pos) env = (do
      let o ← eval e env
      standAt pos.atName
      let r ← holding [o] (getAttr o "place" true)
      letTemporaryGo e o r
      pure r) := by intro _; with_unfolding_all rfl) : Evals w k gs ρ (.Attribute e "place" pos) (.str p) := fun env A f s rm ok Q E hQ =>
  Attribute_any_ (he env A f s rm ok _ _ fun val s' f' g r => by
    refine ob1_2 (rel_rul.mp r) fun a z0 ra => ?_; subst z0
    refine ob4_3 (ra.fa (s := s') g.sub) fun fd m q t F h1 _ => ?_
    exact fa_get F fa_no_place h1 rfl (hQ _ _ _ (g.trans (Grew.same (tk := s'.toks + 1) g.sub fun _ _ e => e)) relS)) (hb env)
theorem ev_allow {e : Expr} {pos : Pos} {p : Str} {b : Bool} (he : Evals w k gs ρ e (.rul p b)) (hb : ∀ env, eval (.Attribute e "allowance" pos) env = (do
      let o ← eval e env
      standAt pos.atName
      let r ← holding [o] (getAttr o "allowance" true)
      letTemporaryGo e o r
      pure r) := by intro _; with_unfolding_all rfl) : Evals w k gs ρ (.Attribute e "allowance" pos) (.bool b) := fun env A f s rm ok Q E hQ =>
  Attribute_any_ (he env A f s rm ok _ _ fun val s' f' g r => by
    refine ob1_2 (rel_rul.mp r) fun a z0 ra => ?_; subst z0
    refine ob4_4 (ra.fa (s := s') g.sub) fun fd m q t F _ h2 _ => ?_
    exact fa_get F fa_no_allowance h2 rfl (hQ _ _ _ (g.trans (Grew.same (tk := s'.toks + 1) g.sub fun _ _ e => e)) relB)) (hb env)
theorem lam_code {A : Around} {f : Fz} {s : Shared} {g : Addr} {p : Str} {x : V} {xv : Value} {R : Result → Shared → Prop} (hl : LamAt f g p) (ok : Okf w f s) (hroom : A.depth < recursionLimit) (rx : Rel f x xv)
    (h : ∀ env f' s', EnvOf { (default : FuncData) with qualname := lamQ, code := env.code } g env → Grew f s f' s' → s'.heap.Ns env.locals (fun y => if y = "page" then some xv else none) → f' env.locals = none → s.heap.get? env.locals = none →
      Ok w lamScope.names env [("page", false, x), ("place", true, .str p)] f' s' → codeAny (model prg w) A (.expr lamBody env) R s') : codeAny (model prg w) A (.call (.ref g) ⟨[xv], []⟩) R s := by
  obtain ⟨c, c', pm, ctv, oc, t, e1, ⟨o2, vs, t2, e2, e3, e4⟩, e5, e6⟩ := hl
  refine kla_callFunE hroom (ok.sub _ _ e1) rfl rfl rfl rfl ⟨c', o2, vs, t2, rfl, ok.sub _ _ e2, e3, e4⟩ ?_
  have hb : bindArgs (kla_fn "<lambda>" lamQ lamArgs lamBody lamScope [("place", c)] pm (.ref c') ctv) ⟨[xv], []⟩ = pure [(Str.ofString "page", xv)] := by kernel_rfl
  rw [hb]
  refine wpAny_pure (wpAny_newFunctionEnv ?_ ?_ (fun h' hns hsb => ?_) (by rfl))
  · intro y hy
    have := List.all_eq_true.mp (show (lamScope.names.all fun p => p.2 != .cell) = true by kernel_rfl) y hy
    simpa using this
  · intro y hy
    obtain rfl : y = (Str.ofString "page", xv) := by simpa using hy
    kernel_rfl
  have hk : ∀ b o, s.heap.get? b = some o → h'.get? b = some o := fun b o e => hsb.extBut b o (Nat.ne_of_lt (Heap.lt_size e)) (Heap.get?_push_of_some _ e)
  have gr : Grew f s f { s with heap := h', toks := s.toks + [(Str.ofString "page", xv)].length } := Grew.same ok.sub hk
  refine ⟨(ok.top.limit ok.sub).keeps hk, h (newEnv lamScope s.heap.objs.size mainGlobals [("place", c)] (lamQ ++ ".<locals>.") (some g) (.ref c') none builtinsNs) f _ ⟨rfl, rfl, rfl, rfl⟩ gr ?_ ?_ (get?_size _) ⟨ok.grew gr, rfl, rfl, rfl, rfl, fun y hy => ?_, fun y cc v e => ?_⟩⟩
  · obtain ⟨o, es, ep, q1, q2, q3, q4⟩ := hns
    refine ⟨o, es, ep, q1, q2, q3, fun y => ?_⟩
    rw [q4]
    by_cases hy : y = "page"
    · subst hy; simp
    · have : (y == Str.ofString "page") = false := beq_eq_false_iff_ne.mpr hy
      simp [List.lookup_cons, this, hy]
  · cases q : f s.heap.objs.size with
    | none => exact q
    | some o => have := ok.sub _ _ q; rw [get?_size] at this; cases this
  · have hy' : y = "place" := by
      have hm : ∃ kd, lamScope.names.lookup y = some kd ∧ (kd = .cell ∨ kd = .free) := by
        rcases hy with h | h
        · exact ⟨_, h, .inl rfl⟩
        · exact ⟨_, h, .inr rfl⟩
      refine ob1_2 hm fun kd h1 h2 => ?_; clear hm
      have hmem := mem_of_lookup h1
      have := List.all_eq_true.mp (show (lamScope.names.all fun p => (p.2 != .cell && p.2 != .free) || p.1 == "place") = true by kernel_rfl) _ hmem
      rcases h2 with rfl | rfl <;> simpa using this
    subst hy'
    exact ⟨c, by simp [newEnv]⟩
  · by_cases h1 : y = "page"
    · subst h1
      simp at e
      refine ob0_2 e fun z0 z1 => ?_; clear e; subst z0; subst z1
      exact ⟨by kernel_rfl, _, xv, hns, by simp, rx.mono gr.le⟩
    · have n1 : (y == ("page" : Str)) = false := beq_eq_false_iff_ne.mpr h1
      by_cases h2 : y = "place"
      · subst h2
        simp [List.lookup_cons] at e
        obtain ⟨rfl, rfl⟩ := e
        refine ⟨.inr (by kernel_rfl), c, .str p t, by simp [newEnv], ⟨oc, hk _ _ (ok.sub _ _ e5), e6⟩, relS⟩
      · have n2 : (y == ("place" : Str)) = false := beq_eq_false_iff_ne.mpr h2
        simp [List.lookup_cons, n1, n2] at e
theorem g_commonpath : GlobIs "commonpath" (.top 213) := glob_top fun P => by kernel_rfl
theorem isFn_commonpath (w : World) : IsFn w 213 := (fn_commonpath w).isFn
noncomputable def app (cs ds : List Nat) : Nat := if com cs ds = cs then (dirS cs).length else 0
theorem com_plain_l : ∀ {cs ds : List Nat}, Plain cs → Plain (com cs ds)
  | [], ds, h => by cases ds <;> simpa [com] using h
  | a :: as, [], h => by intro x hx; simp [com] at hx
  | a :: as, b :: bs, h => by
    have ih := com_plain_l (cs := as) (ds := bs) (fun x hx => h x (by simp [hx]))
    unfold com
    split
    · intro x hx
      rcases List.mem_cons.mp hx with rfl | hx
      · exact h x (by simp)
      · exact ih x hx
    · intro x hx; cases hx
theorem dirS_beq {a b : List Nat} (ha : Plain a) (hb : Plain b) : (dirS a == dirS b) = decide (a = b) := by
  by_cases h : a = b
  · subst h; simp
  · have : dirS a ≠ dirS b := fun q => h (dirS_inj ha hb q)
    rw [beq_eq_false_iff_ne.mpr this]; simp [h]
theorem lam_body {cs ds : List Nat} (hc : Plain cs) (hd : Plain ds) (h1 : cs.length ≤ 100) (h2 : ds.length ≤ 100) : Evals w (k + 13) lamScope.names [("page", false, .str (dirS ds)), ("place", true, .str (dirS cs))] lamBody (.int (app cs ds)) := by
  have hcp : Evals w (k + 13) lamScope.names [("page", false, .str (dirS ds)), ("place", true, .str (dirS cs))] (match lamBody with | .IfExp (.Compare l _ _ _) _ _ _ => l | e => e) (.str (dirS (com cs ds))) :=
    ev_call (ev_glob (by kernel_rfl) g_commonpath) (.top _ (isFn_commonpath w)) (evl_cons (ev_lst (evl_cons ev_name (evl_cons ev_name evl_nil))) evl_nil) (commonpath_ok hc hd h1 h2)
  have ht : ∀ c, decide (com cs ds = cs) = c → Tests w (k + 13) lamScope.names [("page", false, .str (dirS ds)), ("place", true, .str (dirS cs))] (match lamBody with | .IfExp t _ _ _ => t | e => e) c := fun c hcc =>
    Tests.to (t_cmp hcp ev_name cmp_eqs) (by rw [dirS_beq (com_plain_l hc) hc, hcc])
  have hl : (dirS cs).length ≤ 1000000 := Nat.le_trans (dirS_len cs) (by omega)
  by_cases h : com cs ds = cs
  · unfold app; rw [if_pos h]
    exact ev_if_t (ht true (by simp [h])) (ev_call (ev_glob (by kernel_rfl) g_len) (.bi _) (evl_cons ev_name evl_nil) (c_len_str hl))
  · unfold app; rw [if_neg h]
    exact ev_if_f (ht false (by simp [h])) ev_int
theorem lam_call {cs ds : List Nat} (hc : Plain cs) (hd : Plain ds) (h1 : cs.length ≤ 100) (h2 : ds.length ≤ 100) {A : Around} {f : Fz} {s : Shared} {g : Addr} {xv : Value} (hl : LamAt f g (dirS cs)) (rm : Room (k + 14) A) (ok : Okf w f s) (rx : Rel f (.str (dirS ds)) xv) : Run w A f s (call (.ref g) [xv]) (.int (app cs ds)) := fun Q E hQ => by
  have hroom : A.depth < recursionLimit := by have := rm.depth; omega
  refine wpAny_call (lam_code (x := .str (dirS ds)) hl ok hroom rx fun env f' s' _ gr hns hfn hdd okE => kla_codeExpr ?_)
  exact lam_body hc hd h1 h2 env (A.deeper env) f' s' (rm.deeper env) okE _ _ fun val s'' f'' g' r => hQ val s'' f'' (gr.trans g') r
theorem ev_rulecall {o e : Expr} {apos pos : Pos} {cs ds : List Nat} {b : Bool} (hc : Plain cs) (hd : Plain ds) (h1 : cs.length ≤ 100) (h2 : ds.length ≤ 100)
    (ho : Evals w (k + 14) gs ρ o (.rul (dirS cs) b)) (he : Evals w (k + 14) gs ρ e (.str (dirS ds)))
    (hline : (apos.endLine == pos.line) = true := by rfl) (hb : ∀ env, attributeBase o "applies_to" env (eval o env) = eval o env := by intro _; rfl)
    (hp : ∀ env, starEach [e] env = (evalEach [e] env).map fun t => (false, t) := by intro _; rfl)
    (hfew : ∀ env, ((backTo pos (starEach [e] env)).all (fun x => !x.1) && (backToKw pos (keywordEach [] env)).all (fun x => x.1.isSome)
      && decide ([e].length + ([] : List Keyword).length + (if ([] : List Keyword).isEmpty then 0 else 1) < 30)) = true := by intro _; rfl) :
    Evals w (k + 14) gs ρ (.Call (.Attribute o "applies_to" apos) [e] [] pos) (.int (app cs ds)) := fun env A f s rm ok Q E hQ => by
  refine meth_any (hb env) (hfew env) hline fun pl => ho env A f s rm ok _ _ fun vo s₁ f₁ g₁ r₁ => ?_
  have ok₁ := ok.grew g₁
  refine ob1_2 (rel_rul.mp r₁) fun a z0 ra => ?_; subst z0
  refine ob4_5 (ra.fa (s := s₁) g₁.sub) fun fd m q t F h1' h2' h3 hl => ?_
  refine gm_fn F fa_no_applies h3 rfl ?_
  have gt : Grew f₁ s₁ f₁ { s₁ with toks := s₁.toks + 1 } := Grew.same (h' := s₁.heap) g₁.sub fun _ _ e => e
  obtain ⟨c, c', pm, ctv, oc, t', e1, _⟩ := id hl
  refine Calls.callWith_function (fd := kla_fn "<lambda>" lamQ lamArgs lamBody lamScope [("place", c)] pm (.ref c') ctv) (args_run (evl_cons he evl_nil (fun env => by rw [hp env]; rfl)) rm (ok₁.grew gt) (hp env) fun vs s₂ f₂ g₂ r₂ => ⟨⟨g₂.sub _ _ (g₂.le _ _ e1), rfl⟩, ?_⟩)
  refine ob1_2 (relL1 r₂) fun x z0 rx => ?_; subst z0
  have g12 := (g₁.trans gt).trans g₂
  exact lam_call hc hd h1 h2 (hl.mono g₂.le) rm (ok.grew g12).okf rx Q E fun val s' f' g' r' => hQ val s' f' (g12.trans g') r'
end
noncomputable def K2 (P : Params) : Frag := (Kf P).filter fun p => p.1 != tabA
theorem lookup_filter {a : Addr} {o : Obj} : ∀ {l : Frag}, (l.filter fun p => p.1 != tabA).lookup a = some o → l.lookup a = some o ∧ a ≠ tabA
  | [], h => by simp at h
  | (b, u) :: r, h => by
    rw [List.filter_cons] at h
    by_cases hb : b = tabA
    · rw [if_neg (by simp [hb])] at h
      refine ob0_2 (lookup_filter h) fun h1 h2 => ?_
      have : (a == b) = false := beq_eq_false_iff_ne.mpr (by rw [hb]; exact h2)
      exact ⟨by rw [List.lookup_cons, this]; exact h1, h2⟩
    · rw [if_pos (by simp [hb])] at h
      by_cases hab : a = b
      · subst hab
        simp at h; subst h
        exact ⟨by simp, hb⟩
      · have : (a == b) = false := beq_eq_false_iff_ne.mpr hab
        rw [List.lookup_cons, this] at h ⊢
        exact lookup_filter h
theorem K2_in {w : World} {f : Fz} {s : Shared} (ok : Okf w f s) : (K2 w.params).In s.heap := fun a o e => by
  refine ob0_2 (lookup_filter e) fun h1 h2 => ?_
  exact ok.sub _ _ (ok.top _ _ h1 h2)
theorem k_ga (P : Params) : findIn (K2 P) (.ref 59) "__getattribute__" = some (some (.builtin "object.__getattribute__")) := by kernel_rfl
theorem k_gt (P : Params) : findIn (K2 P) (.ref 59) "__getattr__" = some none := by kernel_rfl
theorem k_sa (P : Params) : findIn (K2 P) (.ref 59) "__setattr__" = some (some (.builtin "object.__setattr__")) := by kernel_rfl
theorem k_al (P : Params) : findIn (K2 P) (.ref 59) "allowance" = some (some (.ref 56)) := by kernel_rfl
theorem k_rl (P : Params) : findIn (K2 P) (.ref 59) "rulelines" = some none := by kernel_rfl
theorem k_init (P : Params) : findIn (K2 P) (.ref 59) "__init__" = some (some (.ref 35)) := by kernel_rfl
theorem k_t56 (P : Params) : typeIn (K2 P) (.ref 56) = some (.type "function") := by kernel_rfl
theorem k_t35 (P : Params) : typeIn (K2 P) (.ref 35) = some (.type "function") := by kernel_rfl
theorem k_mk (P : Params) : makesIn (K2 P) 59 = true := by kernel_rfl
theorem k_po (P : Params) : plainOver (K2 P) 59 = true := by kernel_rfl
theorem k_hd (P : Params) : (clsIn (K2 P) 59).any (·.hasDict) = true := by kernel_rfl
theorem lookIn_of {o : Obj} {es : Array DictEntry} {ep : Nat} {m : Str → Option Value} (hd : o.data = .dict es ep) (hk : StrKeys es) (hf : ∀ x, nsFind es x = m x) (x : Str) : lookIn x o = some (m x) := by
  unfold lookIn
  rw [hd]
  dsimp only
  have h := hf x
  unfold nsFind findBy at h
  rw [← Array.find?_toList] at h
  cases q : es.toList.find? (fun e => e.key.isStr x) with
  | some e => rw [q] at h; dsimp only; rw [← h]; rfl
  | none =>
    rw [q] at h
    dsimp only
    rw [← h, if_neg]
    · rfl
    · rw [Bool.not_eq_true, List.any_eq_false]
      intro e he
      refine ob2_1 (hk e (by simpa using he)) fun n t hn => ?_
      unfold DictEntry.refKey
      rw [hn]; simp
theorem EntAt.inst {f : Fz} {s : Shared} {a l : Addr} (x : EntAt f a l) (hs : ∀ a o, f a = some o → s.heap.get? a = some o) :
    ∃ (d : Addr) (od : Obj) (m : Str → Option Value), InstAt s.heap a (instObj 59 d) 59 (some od) ∧ (∀ x, lookIn x od = some (m x)) ∧ m "rulelines" = some (.ref l) ∧ m "allowance" = none := by
  obtain ⟨d, m, e1, e2, ⟨od, es, ep, e3, e4, e5, e6, e7⟩, e8, e9⟩ := x
  exact ⟨d, od, m, ⟨hs _ _ e1, rfl, rfl, hs _ _ e3⟩, lookIn_of e4 e5 e7, e8, e9⟩
theorem find_val {P : Params} {od : Obj} {name : Str} {v : Value} (hA : findIn (K2 P) (.ref 59) name = some none) (h : lookIn name od = some (some v)) : findObj (K2 P) 59 (some od) name = some (.value v) := by
  refine ob1_2 (any_some (k_hd P)) fun cd hc hd => ?_
  unfold findObj
  rw [hc, hA]
  simp [PySem.W.ownOf, hd, h]
section
variable {w : World} {k : Nat} {gs : List (Str × NameKind)} {ρ : Rho}
theorem ent_get {A : Around} {f : Fz} {s : Shared} {a l : Addr} {Q : Value → Shared → Prop} {E : Value → Shared → Prop} {b : Bool} (ok : Okf w f s) (x : EntAt f a l) (hQ : Q (.ref l) { s with toks := s.toks + 1 }) : wpAny (model prg w) A (getAttr (.ref a) "rulelines" b) Q E s := by
  refine ob3_4 (x.inst ok.sub) fun d od m I hl h1 h2 => ?_
  exact get_value (K2_in ok) I (k_ga _) (find_val (k_rl _) (by rw [hl, h1])) rfl hQ
theorem ev_rulelines {e : Expr} {pos : Pos} {rs : List V} (he : Evals w k gs ρ e (.ent rs)) (hb : ∀ env, eval (.Attribute e "rulelines" pos) env = (do
      let o ← eval e env
      standAt pos.atName
      let r ← holding [o] (getAttr o "rulelines" true)
      letTemporaryGo e o r
      pure r) := by intro _; with_unfolding_all rfl) : Evals w k gs ρ (.Attribute e "rulelines" pos) (.lst rs) := fun env A f s rm ok Q E hQ =>
  Attribute_any_ (he env A f s rm ok _ _ fun val s' f' g r => by
    refine ob4_4 (rel_ent.mp r) fun a l vs n z0 ea hl rl => ?_; subst z0
    exact ent_get (ok.grew g).okf ea (hQ _ _ _ (g.trans (Grew.same (tk := s'.toks + 1) g.sub fun _ _ e => e)) (rel_lst.mpr ⟨l, vs, n, rfl, hl, rl⟩))) (hb env)
end
noncomputable def bodyS (st : Stmt) : List Stmt := match st with | .FunctionDef _ _ b _ _ _ _ _ _ _ => b | _ => []
noncomputable def namesS (st : Stmt) : List (Str × NameKind) := match st with | .FunctionDef _ _ _ _ _ _ sc _ _ _ => sc.names | _ => []
noncomputable def alS : Stmt := stN (clsB 2) 3
theorem fn_allowance (w : World) : FnIs w 56 (namesS alS) (bodyS alS) (fdAt w.params 56) := ⟨at_of (by kernel_rfl) (by decide), by kernel_rfl, by kernel_rfl, by kernel_rfl, by kernel_rfl, by kernel_rfl, by kernel_rfl, by kernel_rfl, by kernel_rfl, by kernel_rfl, lookup_none_free (by kernel_rfl)⟩
noncomputable abbrev Row := List Nat × Bool
noncomputable abbrev rowV (r : Row) : V := .rul (dirS r.1) r.2
noncomputable def stepA (ds : List Nat) (st : Int × Bool) (r : Row) : Int × Bool :=
  if app r.1 ds = 0 then st else if st.1 < (app r.1 ds : Int) then ((app r.1 ds : Int), r.2) else if (app r.1 ds : Int) = st.1 ∧ st.2 = false then (st.1, r.2) else st
noncomputable def allowF (rows : List Row) (ds : List Nat) : Bool := (rows.foldl (stepA ds) (-1, true)).2
structure AInv (ρ : Rho) (ds : List Nat) (st : Int × Bool) : Prop where
  fn : Has ρ "filename" (.str (dirS ds))
  bm : Has ρ "best_match" (.int st.1)
  al : Has ρ "allowance" (.bool st.2)
theorem allowance_loop {w : World} {k : Nat} {Φ : Rho → Sig → Fl → Prop} {ds : List Nat} (hd : Plain ds) (h2 : ds.length ≤ 100) : ∀ (rows : List Row) (st : Int × Bool) (ρ : Rho) (σ : Sig), AInv ρ ds st → (∀ r ∈ rows, Plain r.1 ∧ r.1.length ≤ 100) →
    (∀ ρ' σ', AInv ρ' ds (rows.foldl (stepA ds) st) → Φ ρ' σ' .next) →
    Loop w (k + 14) (namesS alS) (forT (stN (bodyS alS) 2)) (forB (stN (bodyS alS) 2)) (rows.map rowV) ρ σ Φ
  | [], st, ρ, σ, I, _, hΦ => hΦ ρ σ I
  | r :: rows, st, ρ, σ, I, hp, hΦ => by
    obtain ⟨i1, i2, i3⟩ := id I
    refine ob0_2 (hp r (by simp)) fun hc h1 => ?_
    have go : ∀ ρ' σ', AInv ρ' ds (stepA ds st r) → Loop w (k + 14) (namesS alS) (forT (stN (bodyS alS) 2)) (forB (stN (bodyS alS) 2)) (rows.map rowV) ρ' σ' Φ := fun ρ' σ' I' =>
      allowance_loop hd h2 rows (stepA ds st r) ρ' σ' I' (fun q hq => hp q (by simp [hq])) hΦ
    refine ⟨_, _, asg_name (asgn_local (by kernel_rfl)), ?_⟩
    refine ex_cons (x1_set (evs (ev_rulecall hc hd h1 h2 ev_name ev_name)) (asgn_local (by kernel_rfl)) ?_)
    have tm := tr_int (w := w) (k := k + 14) (i := (app r.1 ds : Int))
    by_cases q0 : app r.1 ds = 0
    · have e : (((app r.1 ds : Nat) : Int) != 0) = false := by simp [q0]
      rw [e] at tm
      refine ex_cons (x1_if_f (tes (t_val ev_name tm)) (ex_nil (ex_nil ?_)))
      have st' : stepA ds st r = st := by unfold stepA; rw [if_pos q0]
      rw [st'] at go
      exact go _ _ ⟨by wtm_at "lk", by wtm_at "lk", by wtm_at "lk"⟩
    · have e : (((app r.1 ds : Nat) : Int) != 0) = true := by simp [q0]
      rw [e] at tm
      refine ex_cons (x1_if_t (tes (t_val ev_name tm)) ?_)
      by_cases q1 : st.1 < (app r.1 ds : Int)
      · have st' : stepA ds st r = ((app r.1 ds : Int), r.2) := by unfold stepA; rw [if_neg q0, if_pos q1]
        rw [st'] at go
        refine' ex_cons (x1_if_t (tes (Tests.to ?h1 ?e1)) ?k1)
        case h1 => exact t_cmp ev_name ev_name cmp_gt
        case e1 => simp [q1]
        refine ex_cons (x1_set (evs ev_name) (asgn_local (by kernel_rfl)) ?_)
        refine ex_cons (x1_set (evs (ev_allow ev_name)) (asgn_local (by kernel_rfl)) (ex_nil (ex_nil (ex_nil ?_))))
        exact go _ _ ⟨by wtm_at "lk", by wtm_at "lk", by wtm_at "lk"⟩
      · refine' ex_cons (x1_if_f (tes (Tests.to ?h2 ?e2)) ?k2)
        case h2 => exact t_cmp ev_name ev_name cmp_gt
        case e2 => simpa using q1
        by_cases q2 : (app r.1 ds : Int) = st.1 ∧ st.2 = false
        · have st' : stepA ds st r = (st.1, r.2) := by unfold stepA; rw [if_neg q0, if_neg q1, if_pos q2]
          rw [st'] at go
          refine' ex_cons (x1_if_t (tes (t_op (and_go (Tests.to ?h3 ?e3) (and_go (Tests.to ?h4 ?e4) and_nil)))) ?k3)
          case h3 => exact t_cmp ev_name ev_name cmp_eqi
          case e3 => simp [q2.1]
          case h4 => exact t_not (t_val ev_name tr_bool)
          case e4 => simp [q2.2]
          refine ex_cons (x1_set (evs (ev_allow ev_name)) (asgn_local (by kernel_rfl)) (ex_nil (ex_nil (ex_nil (ex_nil ?_)))))
          exact go _ _ ⟨by wtm_at "lk", by wtm_at "lk", by wtm_at "lk"⟩
        · have st' : stepA ds st r = st := by unfold stepA; rw [if_neg q0, if_neg q1, if_neg q2]
          rw [st'] at go
          by_cases q3 : (app r.1 ds : Int) = st.1
          · have q4 : st.2 = true := by
              cases h : st.2 with
              | true => rfl
              | false => exact absurd ⟨q3, h⟩ q2
            refine ex_cons (x1_if_f (tes (t_op (and_go (Tests.to (t_cmp ev_name ev_name cmp_eqi) (by simp [q3])) (and_stop (Tests.to (t_not (t_val ev_name tr_bool)) (by simp [q4])))))) (ex_nil (ex_nil (ex_nil (ex_nil ?_)))))
            exact go _ _ ⟨by wtm_at "lk", by wtm_at "lk", by wtm_at "lk"⟩
          · refine ex_cons (x1_if_f (tes (t_op (and_stop (Tests.to (t_cmp ev_name ev_name cmp_eqi) (by simp [q3]))))) (ex_nil (ex_nil (ex_nil (ex_nil ?_)))))
            exact go _ _ ⟨by wtm_at "lk", by wtm_at "lk", by wtm_at "lk"⟩
theorem allowance_body {w : World} {k : Nat} {ds : List Nat} {rows : List Row} (hd : Plain ds) (h2 : ds.length ≤ 100) (hr : ∀ r ∈ rows, Plain r.1 ∧ r.1.length ≤ 100) :
    Ex w (k + 14) (namesS alS) [("self", false, .ent (rows.map rowV)), ("filename", false, .str (dirS ds))] [] (bodyS alS) fun _ _ fl => fl = .ret (.bool (allowF rows ds)) := by
  refine ex_cons (x1_set (evs (ev_neg ev_int)) (asgn_local (by kernel_rfl)) ?_)
  refine ex_cons (x1_set (evs ev_bool) (asgn_local (by kernel_rfl)) ?_)
  refine ex_cons (x1_for (evs (ev_rulelines ev_name)) iter_lst ?_)
  refine allowance_loop hd h2 rows (-1, true) _ _ ⟨?_, ?_, ?_⟩ hr fun ρ' σ' I => ?_
  · show List.lookup _ _ = _; wtm_at "lk"
  · show List.lookup _ _ = _; wtm_at "lk"
  · show List.lookup _ _ = _; wtm_at "lk"
  obtain ⟨i1, i2, i3⟩ := I
  have i3' : Has ρ' "allowance" (.bool (allowF rows ds)) := i3
  exact ex_cons (x1_ret (evs ev_name) rfl)
theorem allowance_ok {w : World} {k : Nat} {ds : List Nat} {rows : List Row} (hd : Plain ds) (h2 : ds.length ≤ 100) (hr : ∀ r ∈ rows, Plain r.1 ∧ r.1.length ≤ 100) :
    CallOk w (k + 15) (.top 56) [.ent (rows.map rowV), .str (dirS ds)] (.bool (allowF rows ds)) :=
  fn_ok (fn_allowance w) (binds2 fun u v => by kernel_rfl) (nodup_of (by decide +kernel)) (isLC_of (by kernel_rfl)) ((allowance_body hd h2 hr).mono fun _ _ _ h => .inl h)
theorem ev_entcall {w : World} {k : Nat} {gs : List (Str × NameKind)} {ρ : Rho} {o e : Expr} {apos pos : Pos} {rs : List V} {x v : V}
    (ho : Evals w k gs ρ o (.ent rs)) (he : Evals w k gs ρ e x) (hc : CallOk w k (.top 56) [.ent rs, x] v)
    (hline : (apos.endLine == pos.line) = true := by rfl) (hb : ∀ env, attributeBase o "allowance" env (eval o env) = eval o env := by intro _; rfl)
    (hp : ∀ env, starEach [e] env = (evalEach [e] env).map fun t => (false, t) := by intro _; rfl)
    (hfew : ∀ env, ((backTo pos (starEach [e] env)).all (fun x => !x.1) && (backToKw pos (keywordEach [] env)).all (fun x => x.1.isSome)
      && decide ([e].length + ([] : List Keyword).length + (if ([] : List Keyword).isEmpty then 0 else 1) < 30)) = true := by intro _; rfl) :
    Evals w k gs ρ (.Call (.Attribute o "allowance" apos) [e] [] pos) v := fun env A f s rm ok Q E hQ => by
  refine meth_any (hb env) (hfew env) hline fun pl => ho env A f s rm ok _ _ fun vo s₁ f₁ g₁ r₁ => ?_
  have ok₁ := ok.grew g₁
  refine ob4_4 (rel_ent.mp r₁) fun a l vs n z0 ea hl rl => ?_; subst z0
  refine ob3_4 (ea.inst ok₁.okf.sub) fun d od m I hlk h1 h2 => ?_
  refine method_fn (K2_in ok₁.okf) I (k_ga _) (k_gt _) (k_al _) (k_t56 _) (by show (lookIn (Str.ofString "allowance") od).map (·.isSome) = some false; rw [hlk, h2]; rfl) ?_
  obtain ⟨c, dd, fd, sl, hK, hne⟩ := (fn_allowance w).isFn
  refine Calls.callWith_function (fd := fd) (args_run (evl_cons he evl_nil (fun env => by rw [hp env]; rfl)) rm ok₁ (hp env) fun us s₂ f₂ g₂ r₂ => ⟨⟨(ok₁.grew g₂).okf.sub _ _ ((ok₁.grew g₂).okf.top _ _ hK hne), rfl⟩, ?_⟩)
  refine ob1_2 (relL1 r₂) fun y z0 ry => ?_; subst z0
  have g12 := g₁.trans g₂
  exact hc A f₂ s₂ (.ref 56) [.ref a, y] rm (ok.grew g12).okf (rel_top.mpr rfl) (RelL.cons (r₁.mono g₂.le) (RelL.cons ry RelL.nil)) Q E fun val s' f' g' r' => hQ val s' f' (g12.trans g') r'
section
variable {w : World} {k : Nat} {nm : List (Str × NameKind)} {ρ : Rho} {σ : Sig} {env : Env} {α : Str → Addr} {M : Addr → Prop} {f : Fz} {s : Shared} {A : Around}
noncomputable abbrev Or2 (M N : Addr → Prop) : Addr → Prop := fun b => M b ∨ N b
noncomputable abbrev JT := List V → Rho → Sig → (Str → Addr) → (Addr → Prop) → Fz → Shared → Prop
theorem for_core {tgt iter : Expr} {body : List Stmt} {pos : Pos} {v : V} {items : List V} {Q : Flow → Shared → Prop} {E : Value → Shared → Prop} (N : Addr → Prop) (J : JT)
    (he : EvS w k nm ρ σ iter v) (hi : IterOk w k v items) (rm : Room k A) (L : Live M s) (t : St w nm env ρ σ α M f s) (LN : Live N s)
    (hJ0 : ∀ f' s', Grew f s f' s' → J items ρ σ α M f' s')
    (hJI : ∀ xs ρ σ α M f s I h' tk, J xs ρ σ α M f s → ¬ M I → ¬ N I → f I = none → (∀ b o, b ≠ I → s.heap.get? b = some o → h'.get? b = some o) → J xs ρ σ α M f { s with heap := h', toks := tk })
    (turn : ∀ x xs ρ₁ σ₁ α₁ M₁ f₁ s₁ vx, J (x :: xs) ρ₁ σ₁ α₁ M₁ f₁ s₁ → St w nm env ρ₁ σ₁ α₁ M₁ f₁ s₁ → Live M₁ s₁ → Rel f₁ x vx → ∀ (Q' : Flow → Shared → Prop) (E' : Value → Shared → Prop),
      (∀ ρ₂ σ₂ α₂ M₂ f₂ s₂, St w nm env ρ₂ σ₂ α₂ M₂ f₂ s₂ → Live M₂ s₂ → GrewS (Or2 M₁ N) f₁ s₁ (Or2 M₂ N) f₂ s₂ → J xs ρ₂ σ₂ α₂ M₂ f₂ s₂ → Q' .next s₂) →
      wpAny (model prg w) A (assign tgt env vx) (fun _ s₂ => wpAny (model prg w) A (execs body env) Q' E' s₂) E' s₁)
    (hQ : ∀ ρ₂ σ₂ α₂ M₂ f₂ s₂, St w nm env ρ₂ σ₂ α₂ M₂ f₂ s₂ → Live M₂ s₂ → GrewS (Or2 M N) f s (Or2 M₂ N) f₂ s₂ → J [] ρ₂ σ₂ α₂ M₂ f₂ s₂ → Q .next s₂)
    (hs : ∀ env x, foldedSetIterable iter env x = pure x := by intros; rfl) : wpAny (model prg w) A (exec (.For tgt iter body [] pos) env) Q E s := by
  refine wpAny_For (he env A α f s M _ E rm L t fun val f' s' g r => hi A f' s' val _ E rm (t.grew L g).okf r fun I s'' kp hdead hlive it => ?_) (hs env)
  refine ob4_7 it fun fp wr P Sti W hst hwr hfp hP hlg hal => ?_; clear it
  have t' := t.grew L g
  have L' := L.grew g.keeps
  have g' : Grew f' s' f' s'' := Grew.keep t'.okf.sub kp
  have t'' := t'.grew L' g'
  have L'' := L'.grew (keeps_toW kp)
  have hI0 : s.heap.get? I = none := keeps_dead g.keeps hdead
  have hfI : f' I = none := by
    cases q : f' I with
    | none => rfl
    | some o => rw [t'.okf.sub _ _ q] at hdead; cases hdead
  have hIT : I ≠ tabA := t'.okf.tab.live hfI hdead
  have hMI : ¬ M I := fun hm => by refine ob1_1 (L' I hm) fun o e => ?_; rw [hdead] at e; cases e
  have hNI : ¬ N I := fun hm => by refine ob1_1 (LN I hm) fun o e => ?_; rw [hI0] at e; cases e
  have hIwr : ∀ b, b ≠ I → b ∉ wr := fun b hb hm => hb (hwr b hm)
  have hlt0 : ∀ b, Or2 M N b → s.heap.get? b = none → False := fun b hb e => by
    rcases hb with h | h
    · refine ob1_1 (L b h) fun o q => ?_; rw [e] at q; cases q
    · refine ob1_1 (LN b h) fun o q => ?_; rw [e] at q; cases q
  refine ob1_1 (⟨_, rfl⟩ : ∃ Iv : Nat → Shared → Prop, Iv = fun n s₁ => ∀ C : Prop, (∀ (xs : List V) (ρ₁ : Rho) (σ₁ : Sig) (α₁ : Str → Addr) (M₁ : Addr → Prop) (f₁ : Fz), n = xs.length → items.drop (items.length - xs.length) = xs → xs.length ≤ items.length → St w nm env ρ₁ σ₁ α₁ M₁ f₁ s₁ → Live M₁ s₁ → GrewS (Or2 M N) f s (Or2 M₁ N) f₁ s₁ → ¬ M₁ I → f₁ I = none → (∃ o, s₁.heap.get? I = some o) → Sti (items.length - xs.length) s₁.heap → f'.Le f₁ → J xs ρ₁ σ₁ α₁ M₁ f₁ s₁ → C) → C) fun Iv hIv => ?_
  refine codeAny_forLoop_any Iv ?_ items.length (by rw [hIv]; exact fun C kk => kk items ρ σ α M f' rfl (by simp) (Nat.le_refl _) t'' L'' ((g.trans g').toS) hMI hfI hlive (by simpa using hst) (Fz.Le.refl _) (hJ0 _ _ (g.trans g')))
  intro n s₁ hh
  rw [hIv] at hh
  refine hh _ fun xs ρ₁ σ₁ α₁ M₁ f₁ hn hx hle t₁ L₁ g₁ hM₁ hf₁ hli hst₁ hf' hj₁ => ?_
  clear hh
  cases xs with
  | nil =>
    refine W.done s₁ _ _ (by simpa using hst₁) fun h' tk hk => ?_
    have kk : ∀ b o, b ≠ I → s₁.heap.get? b = some o → h'.get? b = some o := fun b o hb e => hk b o (hIwr b hb) e
    exact wpAny_execs_nil (hQ ρ₁ σ₁ α₁ M₁ f₁ _ (t₁.other hM₁ hf₁ hIT kk) (L₁.other hM₁ kk) (g₁.other hI0 kk) (hJI _ _ _ _ _ _ _ _ _ _ hj₁ hM₁ hNI hf₁ kk))
  | cons x xs =>
    have hlt : items.length - (x :: xs).length < items.length := by simp only [List.length_cons] at hle ⊢; omega
    refine W.item _ s₁ _ _ hlt hst₁ fun v h' tk hPv hst' hk => ?_
    have kk : ∀ b o, b ≠ I → s₁.heap.get? b = some o → h'.get? b = some o := fun b o hb e => hk b o (hIwr b hb) e
    refine ob1_2 (hP _ _ hPv) fun x' hx' rx => ?_
    have hxx : x' = x := by
      have h1 : (items.drop (items.length - (x :: xs).length))[0]? = items[items.length - (x :: xs).length]? := by simp
      rw [hx, hx'] at h1
      simpa using h1.symm
    rw [hxx] at rx
    have t₂ := t₁.other hM₁ hf₁ hIT kk (tk := tk)
    have L₂ := L₁.other hM₁ kk (tk := tk)
    have g₂ := g₁.other hI0 kk (tk := tk)
    have j₂ := hJI _ _ _ _ _ _ _ _ _ tk hj₁ hM₁ hNI hf₁ kk
    have hlen1 : items.length - (x :: xs).length + 1 = items.length - xs.length := by simp only [List.length_cons] at hle ⊢; omega
    refine hlg _ _ _ _ _ _ hst' ?_
    refine turn x xs ρ₁ σ₁ α₁ M₁ f₁ _ v j₂ t₂ L₂ (rx.mono hf') _ _ fun ρ₄ σ₄ α₄ M₄ f₄ s₄ t₄ L₄ gg j₄ => ?_
    have hMN : ¬ Or2 M₁ N I := fun h => h.elim hM₁ hNI
    have hsf : ∀ b ∈ fp, ∀ o, h'.get? b = some o → s₄.heap.get? b = some o := fun b hb o e => by
      rcases hfp b hb with rfl | ⟨o', e'⟩
      · refine ob1_2 (hal _ _ hst') fun o1 ho1 hso => ?_
        rw [ho1] at e; cases e
        exact gg.keep hMN ho1 hso
      · have h1 := t₂.okf.sub b o' (hf' b o' e')
        have h2 := t₄.okf.sub b o' (gg.le b o' (hf' b o' e'))
        have : o = o' := by rw [show h'.get? b = some o' from h1] at e; exact (Option.some.inj e).symm
        subst this; exact h2
    refine ob1_2 (hal _ _ hst') fun oI hoI hsI => ?_
    refine ⟨xs.length, hn ▸ Nat.lt_succ_self _, ?_⟩
    rw [hIv]
    refine fun C kk => kk xs ρ₄ σ₄ α₄ M₄ f₄ rfl ?_ (Nat.le_of_succ_le hle) t₄ L₄ (g₂.trans gg) (fun hm => ?_) ?_ ⟨oI, gg.keep hMN hoI hsI⟩ ?_ (hf'.trans gg.le) j₄
    · have : items.drop (items.length - xs.length) = (items.drop (items.length - (x :: xs).length)).drop 1 := by rw [List.drop_drop, hlen1]
      rw [this, hx]; rfl
    · rcases gg.M' I (.inl hm) with h1 | h1
      · exact hMN h1
      · rw [show h'.get? I = some oI from hoI] at h1; cases h1
    · cases q : f₄ I with
      | none => rfl
      | some o =>
        rcases gg.new I o q with h1 | h1 | h1
        · rw [hf₁] at h1; cases h1
        · rw [show h'.get? I = some oI from hoI] at h1; cases h1
        · exact absurd h1 hMN
    · rw [← hlen1]; exact W.frame _ _ _ hst' hsf
end
section
open PySem.Builtin PySem.Builtin.ObjectAttr
noncomputable def IA (h : Heap) (x d : Addr) (m : Str → Option Value) : Prop := h.get? x = some (instObj 59 d) ∧ d ≠ x ∧ h.Ns1 d m
section
variable {w : World} {A : Around} {E : Value → Shared → Prop} {s : Shared} {x d : Addr} {m : Str → Option Value} {name : Str} {v : Value} {f : Fz}
theorem in_set {Q : Unit → Shared → Prop} {ns : List Str} (ok : Okf w f s) (hI : IA s.heap x d m) (ht : takerIn (K2 w.params) 59 name = some none) (hw : PySem.Within m ns) (hsz : ns.length ≤ 1000)
    (hq : ∀ h' tk', IA h' x d (fun y => if y = name then some v else m y) → (∀ b o, b ≠ d → s.heap.get? b = some o → h'.get? b = some o) → Q () { s with heap := h', toks := tk' }) : wpAny (model prg w) A (setAttr (.ref x) name v) Q E s := by
  obtain ⟨hx, hne, hns⟩ := hI
  have X := K2_in ok
  obtain ⟨od, es, ep, e1, e2, e3, e4, e5⟩ := id hns
  have I : InstAt s.heap x (instObj 59 d) 59 (some od) := ⟨hx, rfl, rfl, e1⟩
  refine set_plain X I (k_sa _) ?_
  refine osa_open (s := { s with toks := s.toks + 1 }) X I (k_po _) ht fun b => ?_
  show wpAny _ _ (storeInOwnDict (.ref x) (.ref 59) (.str name s.toks) name v b) _ _ _
  refine ob1_2 (any_some (k_hd w.params)) fun cd hc hd' => ?_
  refine wpAny_bind (wpAny_pure (wpAny_bind (wpAny_bind (wpAny_loadPart hx (wpAny_bind (looks_clsIn X hc _ _ _ _ (fun _ _ e => e) ?_))))))
  rw [hd']
  refine wpAny_pure (a := some d) ?_
  show wpAny _ _ (storeInDict d (.str name _) name v) _ _ _
  unfold storeInDict newKeyGuard
  refine wpAny_bind (wpAny_pure (wpAny_bind (wpAny_nsSet1 hns fun h' hn' hs => ?_)))
  refine ob3_3 (hn'.count (Within.cons name v hw)) fun oD esD epD hoD hdD hcD => ?_
  refine wpAny_bind (wpAny_lookBehind hoD (by rw [hdD]; exact pastItsLine_dict (Nat.le_trans hcD (by rw [List.length_cons, sizeLine_eq]; omega))) ?_)
  exact wpAny_pure (hq h' _ ⟨(hs.2 x hne.symm).trans hx, hne, hn'⟩ fun b o hb e => (hs.2 b hb).trans e)
end
theorem k_tu (P : Params) : takerIn (K2 P) 59 "useragents" = some none := by kernel_rfl
theorem k_tr (P : Params) : takerIn (K2 P) 59 "rulelines" = some none := by kernel_rfl
theorem k_td (P : Params) : takerIn (K2 P) 59 "delay" = some none := by kernel_rfl
theorem k_tq (P : Params) : takerIn (K2 P) 59 "req_rate" = some none := by kernel_rfl
theorem k_keep (P : Params) : keepIn (K2 P) (.ref 59) = true := by kernel_rfl
noncomputable def initS : Stmt := stN (clsB 2) 0
theorem fn_init (w : World) : FnIs w 35 (namesS initS) (bodyS initS) (fdAt w.params 35) := ⟨at_of (by kernel_rfl) (by decide), by kernel_rfl, by kernel_rfl, by kernel_rfl, by kernel_rfl, by kernel_rfl, by kernel_rfl, by kernel_rfl, by kernel_rfl, by kernel_rfl, lookup_none_free (by kernel_rfl)⟩
theorem ns1_keeps {s s' : Shared} (x : KeepsW s s') {a : Addr} {m : Str → Option Value} (hn : s.heap.Ns1 a m) : s'.heap.Ns1 a m := by
  obtain ⟨o, es, ep, ho, hd, hk⟩ := hn
  refine ob1_2 (keeps_live x ho) fun o' ho' al => ?_
  rcases al with rfl | ⟨_, sl, rfl⟩ | ⟨_, vs, more, h1, _⟩
  · exact ⟨_, es, ep, ho', hd, hk⟩
  · exact ⟨_, es, ep, ho', hd, hk⟩
  · subst h1; cases hd
theorem solid_inst (d : Addr) : Solid (instObj 59 d) := ⟨(by intro es ep h; cases h), .inl (by intro h; cases h)⟩
theorem IA.keeps {s s' : Shared} {x d : Addr} {m : Str → Option Value} (k : KeepsW s s') (h : IA s.heap x d m) : IA s'.heap x d m := ⟨keeps_keep k h.1 (solid_inst d), h.2.1, ns1_keeps k h.2.2⟩
theorem GrewS.weak {M N : Addr → Prop} {f f' : Fz} {s s' : Shared} {M' : Addr → Prop} (g : GrewS M f s M' f' s') : GrewS (Or2 M N) f s M' f' s' :=
  ⟨g.le, fun a o e => (g.new a o e).imp id fun h => h.imp id .inl, by refine ob2_2 g.keeps fun h t e k => ?_; exact ⟨h, t, e, fun b o hb => k b o fun q => hb (.inl q)⟩, fun a h => (g.M' a h).imp .inl id, g.tab⟩
theorem GrewS.own {M₀ N M : Addr → Prop} {f₀ f : Fz} {s₀ s : Shared} (g : GrewS (Or2 M₀ N) f₀ s₀ M f s) (hN : ∀ a, N a → a ≠ tabA) {h' : Heap} {tk : Nat} (kp : ∀ b o, ¬ N b → s.heap.get? b = some o → h'.get? b = some o) :
    GrewS (Or2 M₀ N) f₀ s₀ M f { s with heap := h', toks := tk } := by
  refine ⟨g.le, g.new, ?_, g.M', fun h => (g.tab h).keep (Fz.Le.refl f) fun vs e => kp _ _ (fun q => hN _ q rfl) e⟩
  refine ob2_2 g.keeps fun h tk' z0 kk => ?_; subst z0
  refine ⟨h', tk, rfl, fun b o hb e => ?_⟩
  refine ob1_2 (kk b o hb e) fun o' e' al => ?_
  exact ⟨o', kp b o' (fun q => hb (.inr q)) e', al⟩
section
variable {w : World} {A : Around} {E : Value → Shared → Prop} {s : Shared} {f : Fz} {nm : List (Str × NameKind)} {env : Env} {ρ : Rho} {σ : Sig} {α : Str → Addr} {M : Addr → Prop}
theorem init_step {M₀ : Addr → Prop} {f₀ : Fz} {s₀ : Shared} {x d : Addr} {m : Str → Option Value} {name : Str} {v : Value} {ns : List Str} {Q : Unit → Shared → Prop} (t : St w nm env ρ σ α M f s) (L : Live M s) (gs : GrewS (Or2 M₀ fun b => b = d) f₀ s₀ M f s)
    (hI : IA s.heap x d m) (hMd : ¬ M d) (hfd : f d = none) (hdT : d ≠ tabA) (ht : takerIn (K2 w.params) 59 name = some none) (hw : PySem.Within m ns) (hsz : ns.length ≤ 1000)
    (hQ : ∀ s', IA s'.heap x d (fun y => if y = name then some v else m y) → St w nm env ρ σ α M f s' → Live M s' → GrewS (Or2 M₀ fun b => b = d) f₀ s₀ M f s' → (∀ b o, b ≠ d → s.heap.get? b = some o → s'.heap.get? b = some o) → Q () s') :
    wpAny (model prg w) A (setAttr (.ref x) name v) Q E s := by
  refine in_set t.okf hI ht hw hsz fun h' tk' hI' kp => ?_
  exact hQ _ hI' (t.other hMd hfd hdT kp) (L.other hMd kp) (gs.own (fun a h => h ▸ hdT) kp) kp
end
theorem init_body {w : World} {A : Around} {env : Env} {f₁ : Fz} {s₂ : Shared} {M : Addr → Prop} {x d : Addr} {R : Result → Shared → Prop} (L : Live M s₂) (t : St w (namesS initS) env [("self", false, .top x)] [] (fun _ => 0) M f₁ s₂)
    (hI : IA s₂.heap x d (fun _ => none)) (hMd : ¬ M d) (hfd : f₁ d = none) (hdT : d ≠ tabA)
    (hQ : ∀ s' l m, GrewS (Or2 M fun b => b = d) f₁ s₂ M f₁ s' → IA s'.heap x d m → m "rulelines" = some (.ref l) → m "allowance" = none → s'.heap.get? l = some (lstO [] 0) → s₂.heap.get? l = none → f₁ l = none → Okf w f₁ s' → R (.ok (.ret .none)) s') :
    codeAny (model prg w) A (.func (bodyS initS) env) R s₂ := by
  refine codeAny_func ?_
  have dead : ∀ {s : Shared}, Live M s → ¬ M s.heap.objs.size := fun L hm => by refine ob1_1 (L _ hm) fun o e => ?_; rw [get?_size] at e; cases e
  have g0 : GrewS (Or2 M fun b => b = d) f₁ s₂ M f₁ s₂ := (GrewS.refl M f₁ s₂).weak
  have lst : ∀ (s : Shared) (Q : Value → Shared → Prop) (E : Value → Shared → Prop) (pos : Pos), Q (.ref s.heap.objs.size) { s with heap := s.heap.push (lstO [] 0), toks := s.toks } → wpAny (model prg w) (A.deeper env) (eval (.List [] pos) env) Q E s := fun s Q E pos h =>
    wpAny_List (wpAny_items_nil ⟨by simp, h⟩)
  have push : ∀ (s : Shared) b o, s.heap.get? b = some o → (s.heap.push (lstO [] 0)).get? b = some o := fun s b o e => Heap.get?_push_of_some _ e
  -- self.useragents = []
  refine wpAny_execs_cons (plainObj_wpAny_Assign_Attribute (lst _ _ _ _ ?_) (by rfl))
  have gr1 : Grew f₁ s₂ f₁ { s₂ with heap := s₂.heap.push (lstO [] 0), toks := s₂.toks } := Grew.same t.okf.sub (push _)
  have t1 := t.grew L gr1
  have L1 := L.grew gr1.keeps
  refine name_same t1 (c := false) (v := .top x) (by wtm_at "lk") (by decide +kernel) fun o1 ro1 => ?_
  obtain rfl := rel_top.mp ro1
  refine init_step t1 L1 (g0.trans gr1.toS) (hI.keeps gr1.keeps) hMd hfd hdT (k_tu _) PySem.Within.nil (by simp) fun s3 I3 t3 L3 g3 _ => ?_
  -- self.rulelines = []
  refine wpAny_execs_cons (plainObj_wpAny_Assign_Attribute (lst _ _ _ _ ?_) (by rfl))
  have gr4 : Grew f₁ s3 f₁ { s3 with heap := s3.heap.push (lstO [] 0), toks := s3.toks } := Grew.same t3.okf.sub (push _)
  have t4 := t3.grew L3 gr4
  have L4 := L3.grew gr4.keeps
  have hl : (s3.heap.push (lstO [] 0)).get? s3.heap.objs.size = some (lstO [] 0) := Heap.get?_push_size _ rfl
  have hls := get?_size s3.heap
  generalize hlE : s3.heap.objs.size = l at hl hls ⊢
  have hld : l ≠ d := fun q => by
    obtain ⟨_, _, od, _, _, h, _⟩ := I3
    rw [← q, hls] at h; cases h
  have hMl : ¬ M l := fun hm => by refine ob1_1 (L3 _ hm) fun o e => ?_; rw [hls] at e; cases e
  have hl2 : s₂.heap.get? l = none := g3.dead hls (fun h => h.elim hMl hld)
  have hfl : f₁ l = none := by
    cases q : f₁ l with
    | none => rfl
    | some o => have := t3.okf.sub _ _ q; rw [hls] at this; cases this
  refine name_same t4 (c := false) (v := .top x) (by wtm_at "lk") (by decide +kernel) fun o2 ro2 => ?_
  obtain rfl := rel_top.mp ro2
  refine init_step t4 L4 (g3.trans (gr4.toS (M := M))) (I3.keeps gr4.keeps) hMd hfd hdT (k_tr _) (PySem.Within.cons _ _ PySem.Within.nil) (by simp) fun s5 I5 t5 L5 g5 k5 => ?_
  have hl5 := k5 _ _ hld hl
  -- self.delay = None
  refine wpAny_execs_cons (plainObj_wpAny_Assign_Attribute (wpAny_Constant_none (name_same t5 (c := false) (v := .top x) (by wtm_at "lk") (by decide +kernel) fun o3 ro3 => ?_)) (by rfl))
  obtain rfl := rel_top.mp ro3
  refine init_step t5 L5 g5 I5 hMd hfd hdT (k_td _) (PySem.Within.cons _ _ (PySem.Within.cons _ _ PySem.Within.nil)) (by simp) fun s6 I6 t6 L6 g6 k6 => ?_
  have hl6 := k6 _ _ hld hl5
  -- self.req_rate = None
  refine wpAny_execs_cons (plainObj_wpAny_Assign_Attribute (wpAny_Constant_none (name_same t6 (c := false) (v := .top x) (by wtm_at "lk") (by decide +kernel) fun o4 ro4 => ?_)) (by rfl))
  obtain rfl := rel_top.mp ro4
  refine init_step t6 L6 g6 I6 hMd hfd hdT (k_tq _) (PySem.Within.cons _ _ (PySem.Within.cons _ _ (PySem.Within.cons _ _ PySem.Within.nil))) (by simp) fun s7 I7 t7 L7 g7 k7 => ?_
  refine wpAny_execs_nil (hQ s7 l _ g7 I7 ?_ ?_ (k7 _ _ hld hl6) hl2 hfl t7.okf)
  · show (if _ then _ else _) = _
    rw [if_neg (by decide +kernel), if_neg (by decide +kernel), if_pos rfl]
  · show (if _ then _ else _) = _
    rw [if_neg (by decide +kernel), if_neg (by decide +kernel), if_neg (by decide +kernel), if_neg (by decide +kernel)]
end
theorem add_le {f : Fz} {a : Addr} {o : Obj} (h : f a = none) : f.Le (f.add a o) := fun b o' e => by
  by_cases hb : b = a
  · subst hb; rw [h] at e; cases e
  · rw [Fz.add_other hb]; exact e
theorem Grew.more {f f' : Fz} {s s' : Shared} (g : Grew f s f' s') {a : Addr} {o : Obj} (ha : f' a = none) (ho : s'.heap.get? a = some o) (hd : s.heap.get? a = none) : Grew f s (f'.add a o) s' := by
  have hle := add_le (o := o) ha
  refine ⟨g.le.trans hle, fun b o' e => ?_, fun b o' e => ?_, g.keeps, fun h => (g.tab h).keep hle fun _ e => e⟩
  · by_cases hb : b = a
    · subst hb; exact .inr hd
    · exact g.new b o' (by rw [Fz.add_other hb] at e; exact e)
  · by_cases hb : b = a
    · subst hb; rw [Fz.add_self] at e; cases e; exact ho
    · exact g.sub b o' (by rw [Fz.add_other hb] at e; exact e)
theorem entry_call {w : World} {k : Nat} {A : Around} {f : Fz} {s : Shared} (rm : Room k A) (ok : Okf w f s) {Q : Value → Shared → Prop} {E : Value → Shared → Prop}
    (hQ : ∀ s' f'' x l, Grew f s f'' s' → EntAt f'' x l → s'.heap.get? l = some (lstO [] 0) → f'' l = none → s.heap.get? l = none → Q (.ref x) s') : wpAny (model prg w) A (call (.ref 59) []) Q E s := by
  have X := K2_in ok
  have hdead : ∀ b, s.heap.objs.size ≤ b → s.heap.get? b = none := fun b hb => Heap.get?_none_of_le hb
  have fdead : ∀ b, s.heap.objs.size ≤ b → f b = none := fun b hb => by
    cases q : f b with
    | none => rfl
    | some o => have := ok.sub _ _ q; rw [hdead b hb] at this; cases this
  have hp : ∀ b o, s.heap.get? b = some o → ((s.heap.push emptyDict).push (instObj 59 s.heap.objs.size)).get? b = some o := fun b o e => Heap.get?_push_of_some _ (Heap.get?_push_of_some _ e)
  have grp : Grew f s f { s with heap := (s.heap.push emptyDict).push (instObj 59 s.heap.objs.size), toks := s.toks } := Grew.same ok.sub hp
  have okp := ok.grew grp
  have hx : ((s.heap.push emptyDict).push (instObj 59 s.heap.objs.size)).get? (s.heap.objs.size + 1) = some (instObj 59 s.heap.objs.size) := by
    have := Heap.get?_push_size (s.heap.push emptyDict) (o := instObj 59 s.heap.objs.size) rfl
    rw [Heap.size_push] at this; exact this
  have hd : ((s.heap.push emptyDict).push (instObj 59 s.heap.objs.size)).get? s.heap.objs.size = some emptyDict := Heap.get?_push_of_some _ (Heap.get?_push_size _ rfl)
  have hI : IA ((s.heap.push emptyDict).push (instObj 59 s.heap.objs.size)) (s.heap.objs.size + 1) s.heap.objs.size (fun _ => none) := by
    refine ⟨hx, Nat.ne_of_lt (Nat.lt_succ_self _), Heap.Ns1.of_empty ⟨_, #[], _, hd, rfl, fun e he => absurd he (by simp), fun _ => rfl⟩⟩
  refine wpAny_call ?_
  have key := make_core (A := A) (prog := prg) (w := w.toWorld) (rest := []) (kw := []) (R := fun r s' => match r with | .ok (.ret v) => Q v s' | .ok _ => False | .error e => E e s') (h := s.heap) (g := s.gens) (d := s.drawn) (t := s.toks) (os := s.os) (makes_of X (k_mk _)) (looks_findIn X (k_init _)) (fun self => bind_fn X self (k_t35 _)) (.inl rfl) ?_
  · exact key
  have hroom : (A.under (.builtin "type.__call__" ⟨[.ref 59], []⟩)).depth < recursionLimit := by
    have := rm.depth
    show A.depth + _ < _
    have e : (Code.builtin "type.__call__" ⟨[Value.ref 59], []⟩).weight ≤ 1 := by decide +kernel
    omega
  refine fn_codeG (A := A.under _) (f := f) (s := { s with heap := (s.heap.push emptyDict).push (instObj 59 s.heap.objs.size), toks := s.toks }) (fn_init w) (args := [.top (s.heap.objs.size + 1)]) (kw := []) (pn := ["self"]) (pv := [.top (s.heap.objs.size + 1)]) (binds1 fun v => by kernel_rfl) (nodup_of (by decide +kernel)) (isLC_of (by kernel_rfl)) hroom okp (RelL.cons (rel_top.mpr rfl) RelL.nil) (kvs := []) (by simp only [List.map_nil]; exact RelL.nil) fun env f₁ s₂ M he g hMM hMd L t => ?_
  have g1 := grp.trans g
  have hf1 : ∀ b o, s.heap.get? b = none → ((s.heap.push emptyDict).push (instObj 59 s.heap.objs.size)).get? b = some o → f₁ b = none := fun b o e1 e2 => by
    cases q : f₁ b with
    | none => rfl
    | some o' =>
      rcases g.new b o' q with h | h
      · have := ok.sub _ _ h; rw [e1] at this; cases this
      · rw [show ((s.heap.push emptyDict).push (instObj 59 s.heap.objs.size)).get? b = none from h] at e2; cases e2
  have hMdd : ¬ M s.heap.objs.size := fun hm => by have := hMd _ hm; rw [show ((s.heap.push emptyDict).push (instObj 59 s.heap.objs.size)).get? s.heap.objs.size = none from this] at hd; cases hd
  have hdT : s.heap.objs.size ≠ tabA := fun q => by
    refine ob1_1 ok.tabLive fun o e => ?_
    rw [← q, get?_size] at e; cases e
  refine init_body L t (hI.keeps (s := { s with heap := (s.heap.push emptyDict).push (instObj 59 s.heap.objs.size), toks := s.toks }) g.keeps) hMdd (hf1 _ _ (get?_size _) hd) hdT fun s' l m gs hI' m1 m2 hl hl2 hfl ok' => ?_
  refine ⟨rfl, ?_⟩
  have gg : Grew f s f₁ s' := gs.toG g1 (fun b hb => by
    rcases hb with h | h
    · exact keeps_dead grp.keeps (hMd b h)
    · subst h; exact get?_size _) ok'.sub ok'.tab
  obtain ⟨i1, i2, od, es, ep, j1, j2, j3, j4, j5⟩ := hI'
  have g2 := gg.more (hf1 _ _ (hdead _ (Nat.le_succ _)) hx) i1 (hdead _ (Nat.le_succ _))
  have g3 := g2.more (a := s.heap.objs.size) (by rw [Fz.add_other i2]; exact hf1 _ _ (get?_size _) hd) j1 (get?_size _)
  have hls : s.heap.get? l = none := keeps_dead g1.keeps hl2
  have hlx : l ≠ s.heap.objs.size + 1 := fun q => by rw [q, i1] at hl; cases hl
  have hld : l ≠ s.heap.objs.size := fun q => by
    rw [q, j1] at hl; cases hl; cases j2
  refine hQ s' _ (s.heap.objs.size + 1) l g3 ⟨s.heap.objs.size, m, ?_, i2, ⟨od, es, ep, Fz.add_self .., j2, j3, j4, j5⟩, m1, m2⟩ hl ?_ hls
  · rw [Fz.add_other i2.symm, Fz.add_self]
  · rw [Fz.add_other hld, Fz.add_other hlx]; exact hfl
theorem g_Entry : GlobIs "Entry" (.top 59) := glob_top fun P => by kernel_rfl
theorem g_law_rule : GlobIs "_law_rule" (.top 232) := glob_top fun P => by kernel_rfl
theorem fn_law_book (w : World) : FnIs w 239 (namesN 32) (bodyN 32) (fdAt w.params 239) := fnIs 32 (by kernel_rfl) (by decide) (by kernel_rfl) (by kernel_rfl) (by kernel_rfl) (by kernel_rfl) (by kernel_rfl) (by kernel_rfl) (by kernel_rfl) (by kernel_rfl) (by kernel_rfl) (by kernel_rfl)
noncomputable abbrev rowT (r : Row) : V := .tup [.str (dirS r.1), .bool r.2]
theorem law_book_turn {w : World} {k : Nat} {A : Around} {env : Env} {ρ : Rho} {σ : Sig} {α : Str → Addr} {M : Addr → Prop} {f : Fz} {s : Shared} {x l : Addr} {r : Row} {done : List Row} {vs : List Value} {n : Nat} (hw : w.free = true) (rm : Room (k + 2) A) (L : Live M s) (t : St w (namesN 32) env ρ σ α M f s)
    (h1 : Has ρ "made" (.top x)) (h2 : Has ρ "place" (.str (dirS r.1))) (h3 : Has ρ "verdict" (.bool r.2)) (he : EntAt f x l) (hMl : ¬ M l) (hfl : f l = none) (hl : s.heap.get? l = some (lstO vs n)) (hr : RelL f (done.map rowV) vs) (hsz : done.length ≤ 1000)
    {Q : Flow → Shared → Prop} {E : Value → Shared → Prop} (hQ : ∀ f' s' vs' n', St w (namesN 32) env ρ σ α M f' s' → Live M s' → GrewS (Or2 M fun b => b = l) f s (Or2 M fun b => b = l) f' s' → EntAt f' x l → f' l = none → s'.heap.get? l = some (lstO vs' n') → RelL f' ((done ++ [r]).map rowV) vs' → Q .next s') :
    wpAny (model prg w) A (execs (forB (stN (bodyN 32) 1)) env) Q E s := by
  have hlT : l ≠ tabA := t.okf.tab.ne hfl hl fun us q => by cases q
  refine wpAny_execs_cons (wpAny_Expr_any ?_ (by unfold interactive; rw [t.kind]; rfl) (by rfl))
  refine wpAny_Call_method_lateS rfl (by rfl) (by rfl) ?_
  refine Attribute_any_ (name_same t h1 (by decide +kernel) fun o1 ro1 => ?_) (by with_unfolding_all rfl)
  obtain rfl := rel_top.mp ro1
  refine ent_get t.okf he ?_
  have g1 : Grew f s f { s with heap := s.heap, toks := s.toks + 1 } := Grew.same t.okf.sub fun _ _ e => e
  have t1 := t.grew L g1
  have L1 := L.grew g1.keeps
  refine ⟨"list", "list.append", PySem.F.plainAttrs_list, PySem.F.slot_list_append, PySem.F.type_list_append, ⟨_, hl, rfl⟩, fun a e => by cases e; exact ⟨_, hl, rfl⟩, ?_⟩
  refine Calls.callWith_builtin (by rfl) ?_
  refine args_run (nm := namesN 32) (evl_cons (ev_call (ev_glob (by kernel_rfl) g_law_rule) (.top _ (fn_law_rule w).isFn) (evl_cons (ev_name h2 (by decide +kernel) (by decide +kernel)) (evl_cons (ev_name h3 (by decide +kernel) (by decide +kernel)) evl_nil)) (law_rule_ok (k := k + 1) hw)) evl_nil) rm t1.ok (by rfl) fun us s2 f2 g2 r2 => ?_
  refine ob1_2 (relL1 r2) fun y z0 ry => ?_; subst z0
  have g12 := g1.trans g2
  have t2 := t.grew L g12
  have L2 := L.grew g12.keeps
  have hl2 := keeps_keep g12.keeps hl (solid_lst ..)
  have hf2l : f2 l = none := by
    cases q : f2 l with
    | none => rfl
    | some o =>
      rcases g12.new l o q with h | h
      · rw [hfl] at h; cases h
      · rw [hl] at h; cases h
  have hvl : vs.length ≤ 1000000 := by rw [hr.length, List.length_map]; omega
  refine append_run hl2 hvl fun h' n' hD kp => ?_
  have t3 := t2.other (tk := s2.toks) hMl hf2l hlT kp
  have L3 := L2.other (tk := s2.toks) hMl kp
  have g3 : GrewS (Or2 M fun b => b = l) f s (Or2 M fun b => b = l) f2 { s2 with heap := h', toks := s2.toks } := by
    have := ((g12.toS (M := M)).weak (N := fun b => b = l)).own (tk := s2.toks) (fun a h => h ▸ hlT) kp
    exact ⟨this.le, this.new, this.keeps, fun a h => h.elim (fun h => this.M' a h) fun h => .inl (.inr h), this.tab⟩
  refine wpAny_execs_nil (hQ f2 _ _ n' t3 L3 g3 (he.mono g12.le) hf2l hD ?_)
  rw [List.map_append]
  exact RelL.append (hr.mono g12.le) (RelL.cons ry RelL.nil)
noncomputable def JB (rows : List Row) (x l : Addr) : JT := fun xs ρ σ α M f s => ∃ done todo vs n, rows = done ++ todo ∧ xs = todo.map rowT ∧ Has ρ "made" (.top x) ∧ EntAt f x l ∧ ¬ M l ∧ f l = none ∧ s.heap.get? l = some (lstO vs n) ∧ RelL f (done.map rowV) vs
theorem law_book_ok {w : World} {k : Nat} {rows : List Row} (hw : w.free = true) (hlen : rows.length ≤ 1000) : CallOk w (k + 3) (.top 239) [.lst (rows.map rowT)] (.ent (rows.map rowV)) := fun A f s vf vs rm ok rf rv Q E hQ => by
  obtain rfl := rel_top.mp rf
  have hroom : A.depth < recursionLimit := by have := rm.depth; omega
  refine wpAny_call (fn_codeG (R := fun r s' => match r with | .ok (.ret v) => Q v s' | .ok _ => False | .error e => E e s') (fn_law_book w) (args := [.lst (rows.map rowT)]) (kw := []) (pn := ["rows"]) (pv := [.lst (rows.map rowT)]) (binds1 fun v => by kernel_rfl) (nodup_of (by decide +kernel)) (isLC_of (by kernel_rfl)) hroom ok rv (kvs := []) (by simp only [List.map_nil]; exact RelL.nil)
    fun env f₁ s₂ M he g hMM hMd L t => codeAny_func ?_)
  have rmD : Room (k + 2) (A.deeper env) := rm.deeper env
  have t : St w (namesN 32) env [("rows", false, .lst (rows.map rowT))] [] (fun _ => 0) M f₁ s₂ := t
  -- made = Entry()
  refine wpAny_execs_cons (wpAny_Assign_Name (Call_ (ev_glob (k := k + 2) (gs := namesN 32) (ρ := [("rows", false, .lst (rows.map rowT))]) (by kernel_rfl) g_Entry (by decide +kernel) env (A.deeper env) f₁ s₂ rmD t.ok _ _ fun v1 s1 f1 g1 r1 => ?_) (by with_unfolding_all rfl)) (by rfl))
  obtain rfl := rel_top.mp r1
  have t1 := t.grew L g1
  have L1 := L.grew g1.keeps
  refine callWith_K0 (K2_in t1.okf) (k_keep _) (entry_call rmD t1.okf fun s3 f3 x l g3 hE hl hfl hld => ?_)
  have g13 := g1.trans g3
  have t3 := t.grew L g13
  have L3 := L.grew g13.keeps
  have hl2 : s₂.heap.get? l = none := keeps_dead g1.keeps hld
  have hMl : ¬ M l := fun hm => by refine ob1_1 (L l hm) fun o e => ?_; rw [hl2] at e; cases e
  refine asgn_local (n := "made") (x := .top x) (by kernel_rfl) env (A.deeper env) _ f3 s3 M (.ref x) _ _ rm.handled L3 t3 (rel_top.mpr rfl) fun s4 t4 L4 g4 => ?_
  have hl4 := g4.keep hMl hl (solid_lst ..)
  have base : GrewS M f₁ s₂ (Or2 M fun b => b = l) f3 s4 := (g13.toS.trans g4).more hl2
  -- the loop
  refine wpAny_execs_cons (for_core (k := k + 2) (fun b => b = l) (JB rows x l) (evs (v := .lst (rows.map rowT)) (ev_name (by wtm_at "lk") (by decide +kernel) (by decide +kernel))) iter_lst rmD L4 t4 (fun b hb => by subst hb; exact ⟨_, hl4⟩) (fun f' s' gr => ?_) ?_ ?_ ?_ (by intros; rfl))
  · refine ⟨[], rows, [], 0, rfl, rfl, by show List.lookup _ _ = _; wtm_at "lk", hE.mono gr.le, hMl, ?_, keeps_keep gr.keeps hl4 (solid_lst ..), RelL.nil⟩
    cases q : f' l with
    | none => rfl
    | some o =>
      rcases gr.new l o q with h | h
      · rw [hfl] at h; cases h
      · rw [hl4] at h; cases h
  · rintro xs ρ σ α M' f' s' I h' tk ⟨done, todo, us, n, e1, e2, e3, e4, e5, e6, e7, e8⟩ hMI hNI hfI kp
    exact ⟨done, todo, us, n, e1, e2, e3, e4, e5, e6, kp _ _ (fun q => hNI q.symm) e7, e8⟩
  · rintro y xs ρ₁ σ₁ α₁ M₁ f₁' s₁' vy ⟨done, todo, us, n, e1, e2, e3, e4, e5, e6, e7, e8⟩ t5 L5 ry Q' E' hQ'
    cases todo with
    | nil => cases e2
    | cons r todo =>
      simp only [List.map_cons, List.cons.injEq] at e2
      refine ob0_2 e2 fun z0 z1 => ?_; clear e2; subst z0; subst z1
      refine asg_tup' (.cons _ _ _ _ _ _ _ _ _ _ (asgn_local (by kernel_rfl)) (.cons _ _ _ _ _ _ _ _ _ _ (asgn_local (by kernel_rfl)) (.nil _ _))) rfl rfl env (A.deeper env) α₁ f₁' s₁' M₁ vy _ _ rm.handled L5 t5 ry fun s6 t6 L6 g6 => ?_
      have hl6 := g6.keep e5 e7 (solid_lst ..)
      have hd : done.length ≤ 1000 := by rw [e1] at hlen; simp at hlen; omega
      refine law_book_turn (done := done) (r := r) hw rmD L6 t6 (by wtm_at "lk") (by wtm_at "lk") (by wtm_at "lk") e4 e5 e6 hl6 e8 hd fun f7 s7 us' n' t7 L7 g7 h1 h2 h3 h4 => ?_
      refine hQ' _ _ _ _ f7 s7 t7 L7 ?_ ⟨done ++ [r], todo, us', n', by rw [e1]; simp, rfl, by wtm_at "lk", h1, e5, h2, h3, h4⟩
      have q : GrewS (Or2 M₁ fun b => b = l) f₁' s₁' (Or2 M₁ fun b => b = l) f₁' s6 := by
        have := g6.weak (N := fun b => b = l)
        exact ⟨this.le, this.new, this.keeps, fun a h => .inl h, this.tab⟩
      exact q.trans g7
  · rintro ρ₂ σ₂ α₂ M₂ f₂ s5 t5 L5 g5 ⟨done, todo, us, n, e1, e2, e3, e4, e5, e6, e7, e8⟩
    have : todo = [] := by cases todo with
      | nil => rfl
      | cons => cases e2
    subst this
    rw [List.append_nil] at e1
    subst e1
    refine wpAny_execs_cons (wpAny_Return_some (name_same t5 (c := false) (v := .top x) (by wtm_at "lk") (by decide +kernel) fun o4 ro4 => ?_))
    obtain rfl := rel_top.mp ro4
    have gg : Grew f s f₂ s5 := (base.trans g5).toG g hMd t5.okf.sub t5.okf.tab
    have hls : s.heap.get? l = none := keeps_dead g.keeps hl2
    have gf := gg.more e6 e7 hls
    have hle := add_le (f := f₂) (a := l) (o := lstO us n) e6
    exact hQ (.ref x) s5 _ gf (rel_ent.mpr ⟨x, l, us, n, rfl, e4.mono hle, Fz.add_self .., e8.mono hle⟩)
section
variable {w : World} {k : Nat} {nm : List (Str × NameKind)}
noncomputable def Whl (w : World) (k : Nat) (nm : List (Str × NameKind)) (test : Expr) (body : List Stmt) (Φ : Rho → Sig → Fl → Prop) : Nat → Rho → Sig → Prop
  | 0, _, _ => False
  | n + 1, ρ, σ => (TeS w k nm ρ σ test false ∧ Φ ρ σ .next) ∨ (TeS w k nm ρ σ test true ∧ Ex w k nm ρ σ body fun ρ' σ' fl => match fl with
    | .next => Whl w k nm test body Φ n ρ' σ'
    | .cont => Whl w k nm test body Φ n ρ' σ'
    | .brk => Φ ρ' σ' .next
    | .ret v => Φ ρ' σ' (.ret v))
theorem x1_while {ρ : Rho} {σ : Sig} {Φ : Rho → Sig → Fl → Prop} {test : Expr} {body : List Stmt} {pos : Pos} (n : Nat) (h : Whl w k nm test body Φ n ρ σ) : Ex1 w k nm ρ σ (.While test body [] pos) Φ := fun env A α f s M Q E rm L t hQ => by
  refine wpAny_While (codeAny_whileLoop (fun n s₁ => ∃ (ρ₁ : Rho) (σ₁ : Sig) (α₁ : Str → Addr) (M₁ : Addr → Prop) (f₁ : Fz), St w nm env ρ₁ σ₁ α₁ M₁ f₁ s₁ ∧ Live M₁ s₁ ∧ GrewS M f s M₁ f₁ s₁ ∧ Whl w k nm test body Φ n ρ₁ σ₁)
    ?_ n ⟨ρ, σ, α, M, f, t, L, GrewS.refl .., h⟩)
  rintro n s₁ ⟨ρ₁, σ₁, α₁, M₁, f₁, t₁, L₁, g₁, h₁⟩
  cases n with
  | zero => exact h₁.elim
  | succ n =>
    rcases h₁ with ⟨ht, hΦ⟩ | ⟨ht, hb⟩
    · refine ht env A α₁ f₁ s₁ M₁ _ _ rm L₁ t₁ fun f' s' g => ?_
      simp only [Bool.false_eq_true, if_false]
      exact wpAny_execs_nil (hQ .next .next ρ₁ σ₁ α₁ M₁ f' s' hΦ rfl (t₁.grew L₁ g) (L₁.grew g.keeps) (g₁.trans g.toS))
    · refine ht env A α₁ f₁ s₁ M₁ _ _ rm L₁ t₁ fun f' s' g => ?_
      simp only [if_true]
      refine hb env A α₁ f' s' M₁ _ _ rm (L₁.grew g.keeps) (t₁.grew L₁ g) fun fl flow ρ₂ σ₂ α₂ M₂ f₂ s₂ hΦ hr t₂ L₂ g₂ => ?_
      have gg := (g₁.trans g.toS).trans g₂
      cases fl with
      | next => simp only [FlRel] at hr; subst hr; exact ⟨n, Nat.lt_succ_self n, ρ₂, σ₂, α₂, M₂, f₂, t₂, L₂, gg, hΦ⟩
      | cont => simp only [FlRel] at hr; subst hr; exact ⟨n, Nat.lt_succ_self n, ρ₂, σ₂, α₂, M₂, f₂, t₂, L₂, gg, hΦ⟩
      | brk => simp only [FlRel] at hr; subst hr; exact hQ .next .next ρ₂ σ₂ α₂ M₂ f₂ s₂ hΦ rfl t₂ L₂ gg
      | ret v =>
        obtain ⟨val, rfl, rv⟩ := hr
        exact hQ (.ret v) (.ret val) ρ₂ σ₂ α₂ M₂ f₂ s₂ hΦ ⟨val, rfl, rv⟩ t₂ L₂ gg
theorem ints_are {f : Fz} : ∀ {ns : List Int} {vs : List Value}, RelL f (ns.map .int) vs → IntsAre vs ns
  | [], vs, r => by simp only [List.map_nil, RelL] at r; subst r; exact .nil
  | n :: ns, vs, r => by
    simp only [List.map_cons, RelL] at r
    refine ob2_3 r fun y r' z0 ry rr => ?_; clear r; subst z0
    refine ob1_1 (rel_int.mp ry) fun t z0 => ?_; subst z0
    exact .cons n t (ints_are rr)
theorem c_bytes {ns : List Int} (hr : ∀ n ∈ ns, 0 ≤ n ∧ n < 256) (hz : ns.length ≤ 1000000) : CallOk w k (.typ "bytes") [.lst (ns.map .int)] (.byt (byteArr ns)) := fun A f s vf vs rm ok rf ra Q E hQ => by
  obtain rfl := rel_typ.mp rf
  refine ob1_2 (relL1 ra) fun x z0 rx => ?_; subst z0
  refine ob3_3 (rel_lst.mp rx) fun l us n z0 hl rl => ?_; subst z0
  have hi := ints_are rl
  refine call_bytes_ints (isList_of (ok.sub _ _ hl)) hi hr (by rw [rl.length, List.length_map, sizeLine_eq]; omega) rm.handled fun h' t kk hk => ?_
  exact hQ _ _ _ (Grew.same ok.sub hk) relY
theorem cmp_is_typ {a b : String} : CmpOk w k .Is (.typ a) (.typ b) (Value.type a == Value.type b) := fun A f s va vb _ ok ra rb Q E hQ => by
  obtain rfl := rel_typ.mp ra
  obtain rfl := rel_typ.mp rb
  exact wpAny_pure (a := Value.bool (Value.type a == Value.type b)) (hQ _ _ _ ok.refl relB)
end
theorem fn_buffer (w : World) : FnIs w 70 (namesN 4) (bodyN 4) (fdAt w.params 70) := fnIs 4 (by kernel_rfl) (by decide) (by kernel_rfl) (by kernel_rfl) (by kernel_rfl) (by kernel_rfl) (by kernel_rfl) (by kernel_rfl) (by kernel_rfl) (by kernel_rfl) (by kernel_rfl) (by kernel_rfl)
theorem buffer_body {w : World} {k : Nat} {x : Array UInt8} : Ex w k (namesN 4) [("data", false, .byt x)] [] (bodyN 4) fun _ _ fl => fl = .ret (.byt x) := by
  refine ex_cons (x1_set (evs (ev_call (ev_glob (by kernel_rfl) g_type) (.typ _) (evl_cons ev_name evl_nil) (c_type typed_byt (by decide)))) (asgn_local (by kernel_rfl)) ?_)
  refine ex_cons (x1_if_t (tes (Tests.to (t_cmp ev_name (ev_glob (by kernel_rfl) g_bytes) cmp_is_typ) (by decide))) ?_)
  exact ex_cons (x1_ret (evs ev_name) rfl)
theorem buffer_ok {w : World} {k : Nat} {x : Array UInt8} : CallOk w (k + 1) (.top 70) [.byt x] (.byt x) :=
  fn_ok (fn_buffer w) (binds1 fun v => by kernel_rfl) (nodup_of (by decide +kernel)) (isLC_of (by kernel_rfl)) (buffer_body.mono fun _ _ _ h => .inl h)
theorem fn_truth (w : World) : FnIs w 77 (namesN 5) (bodyN 5) (fdAt w.params 77) := fnIs 5 (by kernel_rfl) (by decide) (by kernel_rfl) (by kernel_rfl) (by kernel_rfl) (by kernel_rfl) (by kernel_rfl) (by kernel_rfl) (by kernel_rfl) (by kernel_rfl) (by kernel_rfl) (by kernel_rfl)
theorem g_bool : GlobIs "bool" (.typ "bool") := glob_typ (fun P => by kernel_rfl) (fun P => by kernel_rfl)
theorem truth_body {w : World} {k : Nat} {b : Bool} : Ex w k (namesN 5) [("x", false, .bool b)] [] (bodyN 5) fun _ _ fl => fl = .ret (.bool b) := by
  refine ex_cons (x1_set (evs (ev_call (ev_glob (by kernel_rfl) g_type) (.typ _) (evl_cons ev_name evl_nil) (c_type typed_bool (by decide)))) (asgn_local (by kernel_rfl)) ?_)
  refine ex_cons (x1_if_t (tes (t_op (or_go (t_cmp ev_name ev_none (cmp_is_none fun f v r => by rw [rel_bool.mp r]; cases b <;> rfl)) (or_stop (Tests.to (t_cmp ev_name (ev_glob (by kernel_rfl) g_bool) cmp_is_typ) (by decide)))))) ?_)
  cases b with
  | true => exact ex_cons (x1_ret (evs (ev_if_t (t_val ev_name tr_bool) ev_bool)) rfl)
  | false => exact ex_cons (x1_ret (evs (ev_if_f (t_val ev_name tr_bool) ev_bool)) rfl)
theorem truth_ok {w : World} {k : Nat} {b : Bool} : CallOk w (k + 1) (.top 77) [.bool b] (.bool b) :=
  fn_ok (fn_truth w) (binds1 fun v => by kernel_rfl) (nodup_of (by decide +kernel)) (isLC_of (by kernel_rfl)) (truth_body.mono fun _ _ _ h => .inl h)
noncomputable def b64L : List UInt8 := ("ABCDEFGHIJKLMNOPQRSTUVWXYZabcdefghijklmnopqrstuvwxyz0123456789+/".toList).map fun c => c.toNat.toUInt8
theorem b64L_len : b64L.length = 64 := by decide +kernel
theorem glob_byt {x : Str} {b : Array UInt8} (h : ∀ P, (match mgF P x with | some (.bytes y _) => y == b | _ => false) = true) : GlobIs x (.byt b) := fun P => by
  have := h P
  split at this
  · rename_i y t hq
    have e : y = b := by simpa using this
    subst e
    exact .inl ⟨_, hq, fun f => relY⟩
  · cases this
theorem g_B64 : GlobIs "_B64" (.byt b64L.toArray) := glob_byt fun P => by kernel_rfl
theorem g_buffer : GlobIs "_buffer" (.top 70) := glob_top fun P => by kernel_rfl
theorem g_truth : GlobIs "_truth" (.top 77) := glob_top fun P => by kernel_rfl
theorem nat_shl_or (c b : Nat) (hb : b < 256) : (c * 256) &&& b = 0 := by
  apply Nat.eq_of_testBit_eq
  intro j
  rw [Nat.testBit_and, Nat.zero_testBit]
  have e : c * 256 = 2 ^ 8 * c := by omega
  rw [e, Nat.testBit_two_pow_mul]
  by_cases hj : 8 ≤ j
  · have : b.testBit j = false := Nat.testBit_lt_two_pow (Nat.lt_of_lt_of_le hb (by have := Nat.pow_le_pow_right (n := 2) (by decide) hj; exact this))
    rw [this]; simp
  · simp [hj]
theorem bits_in {c b : Int} (hc : 0 ≤ c) (hb : 0 ≤ b) (hb2 : b < 256) : Builtin.bitAnd (Builtin.bitOr (c * 2 ^ (8 : Int).toNat) b) 65535 = (c * 256 + b) % 65536 := by
  have e : Builtin.bitOr (c * 2 ^ (8 : Int).toNat) b = c * 256 + b := by
    have h1 : (2 : Int) ^ (8 : Int).toNat = 256 := by decide
    rw [h1, bitOr_and, bitAnd_pp (by omega) hb]
    have h2 : (c * 256).toNat = c.toNat * 256 := by omega
    rw [h2, nat_shl_or _ _ (by omega)]
    omega
  rw [e, bitAnd_m16]
noncomputable def sgn (i : Int) : Int := ((b64L.getD i.toNat 0).toNat : Int)
structure EInv (ρ : Rho) (σ : Sig) (outs : List Int) (lb c : Int) : Prop where
  lb : Has ρ "leftbits" (.int lb)
  lc : Has ρ "leftchar" (.int c)
  nl : Has ρ "newline" (.bool false)
  no : HasN ρ "out"
  out : HasO σ "out" (outs.map .int)
noncomputable def lpB : List Stmt := forB (stN (bodyN 7) 5)
noncomputable def whT : Expr := match stN lpB 2 with | .While t _ _ _ => t | _ => .Name "" ⟨0, 0, 0, 0⟩
noncomputable def whB : List Stmt := match stN lpB 2 with | .While _ b _ _ => b | _ => []
section
variable {w : World} {k : Nat}
theorem wh_turn {ρ : Rho} {σ : Sig} {outs : List Int} {lb c : Int} {Φ : Rho → Sig → Fl → Prop} (I : EInv ρ σ outs lb c) (h6 : 6 ≤ lb) (hl : lb ≤ 12) (hc : 0 ≤ c) (hlen : outs.length ≤ 1000)
    (h : ∀ ρ' σ', EInv ρ' σ' (outs ++ [sgn (c.fdiv (2 ^ (lb - 6).toNat) % 64)]) (lb - 6) c → Φ ρ' σ' .next) : Ex w k (namesN 7) ρ σ whB Φ := by
  obtain ⟨i1, i2, i3, i4, i5⟩ := I
  have hx0 : 0 ≤ c.fdiv (2 ^ (lb - 6).toNat) % 64 := Int.emod_nonneg _ (by decide)
  have hx1 : c.fdiv (2 ^ (lb - 6).toNat) % 64 < 64 := Int.emod_lt_of_pos _ (by decide)
  have idx : Evals w k (namesN 7) ρ (match stN whB 0 with | .Expr (.Call _ [.Subscript _ i _] _ _) _ => i | _ => .Name "" ⟨0, 0, 0, 0⟩) (.int (c.fdiv (2 ^ (lb - 6).toNat) % 64)) :=
    Evals.to (ev_bin (ev_bin ev_name (ev_bin ev_name ev_int bin_sub) (bin_shr (by omega))) ev_int bin_and) (by rw [bitAnd_m6])
  refine ex_cons (x1_append (c := false) i5 (evs (v := .int (sgn (c.fdiv (2 ^ (lb - 6).toNat) % 64))) (ev_sub (ev_glob (by kernel_rfl) g_B64) idx (it_byt (by rw [b64L_len]; omega) hx0 (by rw [b64L_len]; exact hx1)))) (by simp only [List.length_map]; omega) ?_)
  refine ex_cons (x1_set (evs (ev_bin ev_name ev_int bin_sub)) (asgn_local (by kernel_rfl)) (ex_nil ?_))
  refine h _ _ ⟨by wtm_at "lk", by wtm_at "lk", by wtm_at "lk", by wtm_at "lkn", ?_⟩
  show List.lookup _ _ = _
  simp only [List.map_append, List.map_cons, List.map_nil]
  wtm_at "lk"
theorem wh_test {ρ : Rho} {σ : Sig} {outs : List Int} {lb c : Int} (I : EInv ρ σ outs lb c) : TeS w k (namesN 7) ρ σ whT (decide (6 ≤ lb)) := by
  obtain ⟨i1, i2, i3, i4, i5⟩ := I
  exact tes (t_cmp ev_name ev_int cmp_ge)
theorem lp_head {ρ : Rho} {σ : Sig} {outs : List Int} {lb c : Int} {b : UInt8} {Φ : Rho → Sig → Fl → Prop} (I : EInv ρ σ outs lb c) (hc : 0 ≤ c) (hc2 : c < 65536)
    (h : ∀ ρ' σ', EInv ρ' σ' outs (lb + 8) ((c * 256 + (b.toNat : Int)) % 65536) → Ex1 w k (namesN 7) ρ' σ' (stN lpB 2) Φ) (hΦ : ∀ ρ' σ' fl, Φ ρ' σ' fl → fl = .next) :
    ∃ ρ₁ σ₁, Asg w (namesN 7) (forT (stN (bodyN 7) 5)) (.int (b.toNat : Int)) ρ σ ρ₁ σ₁ ∧ Ex w k (namesN 7) ρ₁ σ₁ lpB Φ := by
  obtain ⟨i1, i2, i3, i4, i5⟩ := I
  have hb : (0 : Int) ≤ (b.toNat : Int) := by omega
  have hb2 : (b.toNat : Int) < 256 := by have := b.toNat_lt; omega
  refine ⟨_, _, asg_name (asgn_local (by kernel_rfl)), ?_⟩
  refine ex_cons (x1_set (evs (v := .int ((c * 256 + (b.toNat : Int)) % 65536)) (Evals.to (ev_bin (ev_bin (ev_bin ev_name ev_int (bin_shl (by decide) (by decide) (by omega))) ev_name bin_or) ev_int bin_and) (by rw [bits_in hc hb hb2]))) (asgn_local (by kernel_rfl)) ?_)
  refine ex_cons (x1_set (evs (ev_bin ev_name ev_int bin_add)) (asgn_local (by kernel_rfl)) ?_)
  refine ex_cons ((h _ _ ⟨by wtm_at "lk", by wtm_at "lk", by wtm_at "lk", by wtm_at "lkn", by wtm_at "lk"⟩).mono fun ρ' σ' fl hf => ?_)
  obtain rfl := hΦ _ _ _ hf
  exact ex_nil hf
end
section
variable {w : World} {k : Nat} {Φ : Rho → Sig → Fl → Prop}
noncomputable def nx (c : Int) (b : UInt8) : Int := (c * 256 + (b.toNat : Int)) % 65536
theorem nx0 (c : Int) (b : UInt8) : 0 ≤ nx c b := Int.emod_nonneg _ (by decide)
theorem nx1 (c : Int) (b : UInt8) : nx c b < 65536 := Int.emod_lt_of_pos _ (by decide)
theorem wh_end {ρ : Rho} {σ : Sig} {outs : List Int} {lb c : Int} (I : EInv ρ σ outs lb c) (h : ¬ 6 ≤ lb) : TeS w k (namesN 7) ρ σ whT false := by
  have := wh_test (w := w) (k := k) I; rw [decide_eq_false h] at this; exact this
theorem wh_go {ρ : Rho} {σ : Sig} {outs : List Int} {lb c : Int} (I : EInv ρ σ outs lb c) (h : 6 ≤ lb) : TeS w k (namesN 7) ρ σ whT true := by
  have := wh_test (w := w) (k := k) I; rw [decide_eq_true h] at this; exact this
theorem t0 {ρ : Rho} {σ : Sig} {outs : List Int} {c : Int} {b : UInt8} (I : EInv ρ σ outs 0 c) (hc : 0 ≤ c) (hc2 : c < 65536) (hlen : outs.length ≤ 900) :
    ∃ ρ₁ σ₁, Asg w (namesN 7) (forT (stN (bodyN 7) 5)) (.int (b.toNat : Int)) ρ σ ρ₁ σ₁ ∧ Ex w k (namesN 7) ρ₁ σ₁ lpB fun ρ' σ' fl => fl = .next ∧ EInv ρ' σ' (outs ++ [sgn ((nx c b).fdiv 4 % 64)]) 2 (nx c b) := by
  refine lp_head (k := k) I hc hc2 (fun ρ' σ' I' => ?_) fun ρ' σ' fl h => h.1
  refine x1_while 2 (.inr ⟨wh_go I' (by omega), wh_turn I' (by omega) (by omega) (nx0 c b) (by omega) fun ρ2 σ2 I2 => .inl ⟨wh_end I2 (by omega), rfl, I2⟩⟩)
theorem t2 {ρ : Rho} {σ : Sig} {outs : List Int} {c : Int} {b : UInt8} (I : EInv ρ σ outs 2 c) (hc : 0 ≤ c) (hc2 : c < 65536) (hlen : outs.length ≤ 900) :
    ∃ ρ₁ σ₁, Asg w (namesN 7) (forT (stN (bodyN 7) 5)) (.int (b.toNat : Int)) ρ σ ρ₁ σ₁ ∧ Ex w k (namesN 7) ρ₁ σ₁ lpB fun ρ' σ' fl => fl = .next ∧ EInv ρ' σ' (outs ++ [sgn ((nx c b).fdiv 16 % 64)]) 4 (nx c b) := by
  refine lp_head (k := k) I hc hc2 (fun ρ' σ' I' => ?_) fun ρ' σ' fl h => h.1
  refine x1_while 2 (.inr ⟨wh_go I' (by omega), wh_turn I' (by omega) (by omega) (nx0 c b) (by omega) fun ρ2 σ2 I2 => .inl ⟨wh_end I2 (by omega), rfl, I2⟩⟩)
theorem t4 {ρ : Rho} {σ : Sig} {outs : List Int} {c : Int} {b : UInt8} (I : EInv ρ σ outs 4 c) (hc : 0 ≤ c) (hc2 : c < 65536) (hlen : outs.length ≤ 900) :
    ∃ ρ₁ σ₁, Asg w (namesN 7) (forT (stN (bodyN 7) 5)) (.int (b.toNat : Int)) ρ σ ρ₁ σ₁ ∧ Ex w k (namesN 7) ρ₁ σ₁ lpB fun ρ' σ' fl => fl = .next ∧ EInv ρ' σ' (outs ++ [sgn ((nx c b).fdiv 64 % 64)] ++ [sgn ((nx c b).fdiv 1 % 64)]) 0 (nx c b) := by
  refine lp_head (k := k) I hc hc2 (fun ρ' σ' I' => ?_) fun ρ' σ' fl h => h.1
  refine x1_while 3 (.inr ⟨wh_go I' (by omega), wh_turn I' (by omega) (by omega) (nx0 c b) (by omega) fun ρ2 σ2 I2 => .inr ⟨wh_go I2 (by omega), wh_turn I2 (by omega) (by omega) (nx0 c b) (by simp; omega) fun ρ3 σ3 I3 => .inl ⟨wh_end I3 (by omega), rfl, I3⟩⟩⟩)
noncomputable def encI : List UInt8 → List Int
  | [a] => [sgn ((nx 0 a).fdiv 4 % 64), sgn (nx 0 a % 4 * 16), 61, 61]
  | [a, b] => [sgn ((nx 0 a).fdiv 4 % 64), sgn ((nx (nx 0 a) b).fdiv 16 % 64), sgn (nx (nx 0 a) b % 16 * 4), 61]
  | [a, b, c] => [sgn ((nx 0 a).fdiv 4 % 64), sgn ((nx (nx 0 a) b).fdiv 16 % 64), sgn ((nx (nx (nx 0 a) b) c).fdiv 64 % 64), sgn ((nx (nx (nx 0 a) b) c).fdiv 1 % 64)]
  | _ => []
theorem sgn_rng (i : Int) : 0 ≤ sgn i ∧ sgn i < 256 := by
  unfold sgn
  have := (b64L.getD i.toNat 0).toNat_lt
  omega
theorem encI_rng (l : List UInt8) : ∀ n ∈ encI l, 0 ≤ n ∧ n < 256 := by
  intro n h
  match l, h with
  | [a], h => simp [encI] at h; rcases h with rfl | rfl | rfl <;> first | exact sgn_rng _ | decide
  | [a, b], h => simp [encI] at h; rcases h with rfl | rfl | rfl | rfl <;> first | exact sgn_rng _ | decide
  | [a, b, c], h => simp [encI] at h; rcases h with rfl | rfl | rfl | rfl <;> first | exact sgn_rng _ | decide
theorem b2a_tail {ρ : Rho} {σ : Sig} {outs : List Int} {lb c : Int} {res : List Int} (I : EInv ρ σ outs lb c) (hc : 0 ≤ c) (hlen : outs.length ≤ 900)
    (h : (lb = 0 ∧ res = outs) ∨ (lb = 2 ∧ res = outs ++ [sgn (c % 4 * 16), 61, 61]) ∨ (lb = 4 ∧ res = outs ++ [sgn (c % 16 * 4), 61])) (hr : ∀ n ∈ res, 0 ≤ n ∧ n < 256) :
    Ex w k (namesN 7) ρ σ ((bodyN 7).drop 6) fun _ _ fl => fl = .ret (.byt (byteArr res)) := by
  have fin : ∀ ρ' σ', EInv ρ' σ' res lb c → res.length ≤ 1000 → Ex w k (namesN 7) ρ' σ' ((bodyN 7).drop 7) fun _ _ fl => fl = .ret (.byt (byteArr res)) := fun ρ' σ' I' hl => by
    obtain ⟨i1, i2, i3, i4, i5⟩ := I'
    refine ex_cons (x1_if_f (tes (t_val ev_name tr_bool)) (ex_nil ?_))
    refine Ex.freeze i5 ?_
    exact ex_cons (x1_ret (evs (ev_call (ev_glob (by kernel_rfl) g_bytes) (.typ _) (evl_cons ev_name evl_nil) (c_bytes hr (by omega)))) rfl)
  obtain ⟨i1, i2, i3, i4, i5⟩ := id I
  have app : ∀ {ρ : Rho} {σ : Sig} {outs : List Int} {n : Int} {e : Expr} {p1 p2 p3 p4 : Pos} {Ψ : Rho → Sig → Fl → Prop}, EInv ρ σ outs lb c → Evals w k (namesN 7) ρ e (.int n) → outs.length ≤ 1000 → (∀ σ', EInv ρ σ' (outs ++ [n]) lb c → Ψ ρ σ' .next) → (p1.endLine == p2.line) = true →
      (∀ env, starEach [e] env = [(false, eval e env)]) → Ex1 w k (namesN 7) ρ σ (.Expr (.Call (.Attribute (.Name "out" p4) "append" p1) [e] [] p2) p3) Ψ := fun {ρ σ outs n e p1 p2 p3 p4 Ψ} I he hl hΨ hline hp => by
    obtain ⟨i1, i2, i3, i4, i5⟩ := I
    refine x1_append (c := false) i5 (evs he) (by simp only [List.length_map]; omega) (hΨ _ ⟨i1, i2, i3, i4, ?_⟩) hline hp (by decide +kernel)
    show List.lookup _ _ = _
    simp only [List.map_append, List.map_cons, List.map_nil]
    wtm_at "lk"
  rcases h with ⟨rfl, rfl⟩ | ⟨rfl, rfl⟩ | ⟨rfl, rfl⟩
  · refine ex_cons (x1_if_f (tes (Tests.to (t_cmp ev_name ev_int cmp_eqi) (by decide))) ?_)
    refine ex_cons (x1_if_f (tes (Tests.to (t_cmp ev_name ev_int cmp_eqi) (by decide))) (ex_nil (ex_nil ?_)))
    exact fin _ _ I (by omega)
  · have hi : Evals w k (namesN 7) ρ (match stN (match stN (bodyN 7) 6 with | .If _ b _ _ => b | _ => []) 0 with | .Expr (.Call _ [.Subscript _ i _] _ _) _ => i | _ => .Name "" ⟨0, 0, 0, 0⟩) (.int (c % 4 * 16)) :=
      Evals.to (ev_bin (ev_bin ev_name ev_int bin_and) ev_int (bin_shl (by decide) (by decide) (by rw [bitAnd_m2]; omega))) (by rw [bitAnd_m2]; rfl)
    refine ex_cons (x1_if_t (tes (Tests.to (t_cmp ev_name ev_int cmp_eqi) (by decide))) ?_)
    refine ex_cons (app I (ev_sub (ev_glob (by kernel_rfl) g_B64) hi (it_byt (by rw [b64L_len]; omega) (by omega) (by rw [b64L_len]; omega))) (by omega) (fun σ1 I1 => ?_) (by rfl) (by intro _; rfl))
    refine ex_cons (app I1 ev_int (by simp; omega) (fun σ2 I2 => ?_) (by rfl) (by intro _; rfl))
    refine ex_cons (app I2 ev_int (by simp; omega) (fun σ3 I3 => ?_) (by rfl) (by intro _; rfl))
    refine ex_nil (fin _ _ ?_ (by simp; omega))
    simpa [List.append_assoc, sgn] using I3
  · have hi : Evals w k (namesN 7) ρ (match stN (match stN (match stN (bodyN 7) 6 with | .If _ _ b _ => b | _ => []) 0 with | .If _ b _ _ => b | _ => []) 0 with | .Expr (.Call _ [.Subscript _ i _] _ _) _ => i | _ => .Name "" ⟨0, 0, 0, 0⟩) (.int (c % 16 * 4)) :=
      Evals.to (ev_bin (ev_bin ev_name ev_int bin_and) ev_int (bin_shl (by decide) (by decide) (by rw [bitAnd_m4]; omega))) (by rw [bitAnd_m4]; rfl)
    refine ex_cons (x1_if_f (tes (Tests.to (t_cmp ev_name ev_int cmp_eqi) (by decide))) ?_)
    refine ex_cons (x1_if_t (tes (Tests.to (t_cmp ev_name ev_int cmp_eqi) (by decide))) ?_)
    refine ex_cons (app I (ev_sub (ev_glob (by kernel_rfl) g_B64) hi (it_byt (by rw [b64L_len]; omega) (by omega) (by rw [b64L_len]; omega))) (by omega) (fun σ1 I1 => ?_) (by rfl) (by intro _; rfl))
    refine ex_cons (app I1 ev_int (by simp; omega) (fun σ2 I2 => ?_) (by rfl) (by intro _; rfl))
    refine ex_nil (ex_nil (fin _ _ ?_ (by simp; omega)))
    simpa [List.append_assoc, sgn] using I2
end
theorem fn_b2a (w : World) : FnIs w 85 (namesN 7) (bodyN 7) (fdAt w.params 85) := fnIs 7 (by kernel_rfl) (by decide) (by kernel_rfl) (by kernel_rfl) (by kernel_rfl) (by kernel_rfl) (by kernel_rfl) (by kernel_rfl) (by kernel_rfl) (by kernel_rfl) (by kernel_rfl) (by kernel_rfl)
theorem fn_b64 (w : World) : FnIs w 93 (namesN 9) (bodyN 9) (fdAt w.params 93) := fnIs 9 (by kernel_rfl) (by decide) (by kernel_rfl) (by kernel_rfl) (by kernel_rfl) (by kernel_rfl) (by kernel_rfl) (by kernel_rfl) (by kernel_rfl) (by kernel_rfl) (by kernel_rfl) (by kernel_rfl)
theorem b2a_bind (P : Params) (u v : Value) : bindArgs (fdAt P 85) ⟨[u], [(("newline" : Str), v)]⟩ = pure [(("data" : Str), u), (("newline" : Str), v)] := by kernel_rfl
theorem b64_bind (P : Params) (u : Value) (S) : peek (K2 P) S (bindArgs (fdAt P 93) ⟨[u], []⟩) = some [(("s" : Str), u), (("altchars" : Str), .none)] := by kernel_rfl
theorem g_b2a : GlobIs "b2a_base64" (.top 85) := glob_top fun P => by kernel_rfl
theorem g_b64encode : GlobIs "b64encode" (.top 93) := glob_top fun P => by kernel_rfl
section
variable {w : World} {k : Nat}
theorem b2a_loop {l : List UInt8} {ρ : Rho} {σ : Sig} (h1 : 1 ≤ l.length) (h3 : l.length ≤ 3) (I0 : EInv ρ σ [] 0 0) (hd : Has ρ "bin_data" (.byt l.toArray)) :
    Ex w (k + 1) (namesN 7) ρ σ ((bodyN 7).drop 5) fun _ _ fl => fl = .ret (.byt (byteArr (encI l))) := by
  have len : l.length = 1 ∨ l.length = 2 ∨ l.length = 3 := by omega
  match l, len with
  | [a], _ =>
    refine ex_cons (x1_for (items := bytsI [a]) (evs ev_name) iter_byt ?_)
    refine ob2_2 (t0 (w := w) (k := k + 1) (b := a) I0 (by decide) (by decide) (by simp)) fun ρ1 σ1 q1 q2 => ?_
    refine ⟨ρ1, σ1, q1, q2.mono fun ρ2 σ2 fl ⟨hf, I⟩ => ?_⟩
    subst hf
    exact b2a_tail (res := encI [a]) I (nx0 _ _) (by simp) (.inr (.inl ⟨rfl, rfl⟩)) (encI_rng _)
  | [a, b], _ =>
    refine ex_cons (x1_for (items := bytsI [a, b]) (evs ev_name) iter_byt ?_)
    refine ob2_2 (t0 (w := w) (k := k + 1) (b := a) I0 (by decide) (by decide) (by simp)) fun ρ1 σ1 q1 q2 => ?_
    refine ⟨ρ1, σ1, q1, q2.mono fun ρ2 σ2 fl ⟨hf, I⟩ => ?_⟩
    subst hf
    refine ob2_2 (t2 (w := w) (k := k + 1) (b := b) I (nx0 _ _) (nx1 _ _) (by simp)) fun ρ3 σ3 q3 q4 => ?_
    refine ⟨ρ3, σ3, q3, q4.mono fun ρ4 σ4 fl ⟨hf, I⟩ => ?_⟩
    subst hf
    exact b2a_tail (res := encI [a, b]) I (nx0 _ _) (by simp) (.inr (.inr ⟨rfl, rfl⟩)) (encI_rng _)
  | [a, b, c], _ =>
    refine ex_cons (x1_for (items := bytsI [a, b, c]) (evs ev_name) iter_byt ?_)
    refine ob2_2 (t0 (w := w) (k := k + 1) (b := a) I0 (by decide) (by decide) (by simp)) fun ρ1 σ1 q1 q2 => ?_
    refine ⟨ρ1, σ1, q1, q2.mono fun ρ2 σ2 fl ⟨hf, I⟩ => ?_⟩
    subst hf
    refine ob2_2 (t2 (w := w) (k := k + 1) (b := b) I (nx0 _ _) (nx1 _ _) (by simp)) fun ρ3 σ3 q3 q4 => ?_
    refine ⟨ρ3, σ3, q3, q4.mono fun ρ4 σ4 fl ⟨hf, I⟩ => ?_⟩
    subst hf
    refine ob2_2 (t4 (w := w) (k := k + 1) (b := c) I (nx0 _ _) (nx1 _ _) (by simp)) fun ρ5 σ5 q5 q6 => ?_
    refine ⟨ρ5, σ5, q5, q6.mono fun ρ6 σ6 fl ⟨hf, I⟩ => ?_⟩
    subst hf
    exact b2a_tail (res := encI [a, b, c]) I (nx0 _ _) (by simp) (.inl ⟨rfl, rfl⟩) (encI_rng _)
theorem b2a_body {l : List UInt8} (h1 : 1 ≤ l.length) (h3 : l.length ≤ 3) : Ex w (k + 1) (namesN 7) [("data", false, .byt l.toArray), ("newline", false, .bool false)] [] (bodyN 7) fun _ _ fl => fl = .ret (.byt (byteArr (encI l))) := by
  refine ex_cons (x1_set (evs (ev_call (ev_glob (by kernel_rfl) g_buffer) (.top _ (fn_buffer w).isFn) (evl_cons ev_name evl_nil) buffer_ok)) (asgn_local (by kernel_rfl)) ?_)
  refine ex_cons (x1_set (evs (ev_call (ev_glob (by kernel_rfl) g_truth) (.top _ (fn_truth w).isFn) (evl_cons ev_name evl_nil) truth_ok)) (asgn_local (by kernel_rfl)) ?_)
  refine ex_cons (x1_own (c := false) (by kernel_rfl) ?_)
  refine ex_cons (x1_set (evs ev_int) (asgn_local (by kernel_rfl)) ?_)
  refine ex_cons (x1_set (evs ev_int) (asgn_local (by kernel_rfl)) ?_)
  refine b2a_loop h1 h3 ⟨by wtm_at "lk", by wtm_at "lk", by wtm_at "lk", by wtm_at "lkn", ?_⟩ (by wtm_at "lk")
  show List.lookup _ _ = _
  simp only [List.map_nil]
  wtm_at "lk"
theorem b2a_binds {x y : V} : Binds w (fdAt w.params 85) [x] [("newline", y)] ["data", "newline"] [x, y] := fun A f s vals kvs Q E ok r kr hQ => by
  refine ob1_2 (relL1 r) fun u z0 ru => ?_; subst z0
  refine ob1_2 (relL1 kr) fun v z0 rv => ?_; subst z0
  show wpAny _ _ (bindArgs (fdAt w.params 85) ⟨[u], [((Str.ofString "newline"), v)]⟩) _ _ _
  rw [b2a_bind]
  exact wpAny_pure (hQ _ _ _ ok.refl rfl (RelL.cons ru (RelL.cons rv RelL.nil)))
theorem b64_binds {x : V} : Binds w (fdAt w.params 93) [x] [] ["s", "altchars"] [x, .non] := fun A f s vals kvs Q E ok r kr hQ => by
  refine ob1_2 (relL1 r) fun u z0 ru => ?_; subst z0
  rw [show (List.zip (([] : List (Str × V)).map (·.1)) kvs) = [] from rfl]
  exact kp_binds (K2_in ok) (b64_bind w.params u) (model prg w) A E _ (hQ _ _ _ ok.refl rfl (RelL.cons ru (RelL.cons (rel_none.mpr rfl) RelL.nil)))
theorem ev_b2a {gs : List (Str × NameKind)} {ρ : Rho} {fn e e2 : Expr} {kp pos : Pos} {l : List UInt8} (h1 : 1 ≤ l.length) (h3 : l.length ≤ 3) (hf : Evals w (k + 2) gs ρ fn (.top 85)) (he : Evals w (k + 2) gs ρ e (.byt l.toArray)) (he2 : Evals w (k + 2) gs ρ e2 (.bool false))
    (ha : ∀ env, eval (.Call fn [e] [⟨some "newline", e2, kp⟩] pos) env = (do callWith pos (← eval fn env) [] (backTo pos (starEach [e] env)) (backToKw pos (keywordEach [⟨some "newline", e2, kp⟩] env))) := by intro _; with_unfolding_all rfl)
    (hp : ∀ env, starEach [e] env = (evalEach [e] env).map fun t => (false, t) := by intro _; rfl) :
    Evals w (k + 2) gs ρ (.Call fn [e] [⟨some "newline", e2, kp⟩] pos) (.byt (byteArr (encI l))) := fun env A f s rm ok Q E hQ => by
  rw [ha]
  refine wpAny_bind (hf env A f s rm ok _ _ fun vf s₁ f₁ g₁ r₁ => ?_)
  obtain rfl := rel_top.mp r₁
  have ok₁ := ok.grew g₁
  obtain ⟨c, d, fd, sl, hK, hne⟩ := (fn_b2a w).isFn
  refine callWith_function_kw (fd := fd) (o := ⟨c, d, .func fd, sl⟩) ?_
  refine evalArgs_kw2 (by rfl) ?_ (by rw [hp]; rfl)
  have hel := evl_cons he evl_nil (fun env => by rw [hp env]; rfl)
  refine hel env A f₁ s₁ pos rm ok₁ _ _ fun vs s₂ f₂ g₂ r₂ => ?_
  refine wpAny_evalAll_cons ?_
  show wpAny _ _ (do let v ← eval e2 env; standAt pos; pure v) _ _ _
  refine wpAny_bind (he2 env A f₂ s₂ rm (ok₁.grew g₂) _ _ fun v2 s₃ f₃ g₃ r₃ => wpAny_bind (wpAny_standAt (wpAny_pure (wpAny_evalAll_nil ?_))))
  have ok₃ := (ok₁.grew g₂).grew g₃
  refine ⟨⟨ok₃.okf.sub _ _ (ok₃.okf.top _ _ hK hne), rfl⟩, ?_⟩
  refine ob1_2 (relL1 r₂) fun x z0 rx => ?_; subst z0
  have g13 := (g₁.trans g₂).trans g₃
  have h := fn_code (kw := [("newline", .bool false)]) (pv := [.byt l.toArray, .bool false]) (fn_b2a w) b2a_binds (nodup_of (by decide +kernel)) (isLC_of (by kernel_rfl)) ((b2a_body h1 h3).mono fun _ _ _ h => .inl h) rm ok₃.okf (RelL.cons (rx.mono g₃.le) RelL.nil) (kvs := [v2]) (RelL.cons r₃ RelL.nil) (R := fun r s' => match r with | .ok (.ret v) => Q v s' | .ok _ => False | .error e => E e s') fun val s' f' g r => hQ val s' f' (g13.trans g) r
  exact wpAny_call h
theorem b64_body {l : List UInt8} (h1 : 1 ≤ l.length) (h3 : l.length ≤ 3) : Ex w (k + 2) (namesN 9) [("s", false, .byt l.toArray), ("altchars", false, .non)] [] (bodyN 9) fun _ _ fl => fl = .ret (.byt (byteArr (encI l))) := by
  refine ex_cons (x1_set (evs (ev_b2a h1 h3 (ev_glob (by kernel_rfl) g_b2a) ev_name ev_bool)) (asgn_local (by kernel_rfl)) ?_)
  refine ex_cons (x1_if_f (tes (t_cmp ev_name ev_none (cmp_isnot_none fun f v r => by rw [rel_none.mp r]; rfl))) (ex_nil ?_))
  exact ex_cons (x1_ret (evs ev_name) rfl)
theorem b64_ok {l : List UInt8} (h1 : 1 ≤ l.length) (h3 : l.length ≤ 3) : CallOk w (k + 3) (.top 93) [.byt l.toArray] (.byt (byteArr (encI l))) :=
  fn_ok (fn_b64 w) b64_binds (nodup_of (by decide +kernel)) (isLC_of (by kernel_rfl)) ((b64_body h1 h3).mono fun _ _ _ h => .inl h)
end
noncomputable abbrev Deed := Int × Nat × Int
noncomputable abbrev deedV (d : Deed) : V := .tup [.int d.1, .int (d.2.1 : Int), .int d.2.2]
noncomputable def hits (d : Deed) (code depth : Int) : Bool := decide ((d.2.1 : Int) ≤ depth) && decide (d.1.fdiv (2 ^ (7 * (4 - (d.2.1 : Int))).toNat) = code.fdiv (2 ^ (7 * (4 - (d.2.1 : Int))).toNat))
noncomputable def stepS (code depth : Int) (st : Bool) (d : Deed) : Bool := if hits d code depth then (if d.2.2 = 2 then !st else decide (d.2.2 = 1)) else st
noncomputable def stateF (deeds : List Deed) (code depth : Int) : Bool := deeds.foldl (stepS code depth) true
structure SInv (ρ : Rho) (code depth : Int) (st : Bool) : Prop where
  code : Has ρ "code" (.int code)
  depth : Has ρ "depth" (.int depth)
  state : Has ρ "state" (.bool st)
theorem law_state_loop {w : World} {k : Nat} {Φ : Rho → Sig → Fl → Prop} {code depth : Int} : ∀ (deeds : List Deed) (st : Bool) (ρ : Rho) (σ : Sig), SInv ρ code depth st → (∀ d ∈ deeds, d.2.1 ≤ 4) →
    (∀ ρ' σ', SInv ρ' code depth (deeds.foldl (stepS code depth) st) → Φ ρ' σ' .next) →
    Loop w k (namesN 30) (forT (stN (bodyN 30) 1)) (forB (stN (bodyN 30) 1)) (deeds.map deedV) ρ σ Φ
  | [], st, ρ, σ, I, _, hΦ => hΦ ρ σ I
  | d :: deeds, st, ρ, σ, I, hp, hΦ => by
    obtain ⟨i1, i2, i3⟩ := id I
    have hd := hp d (by simp)
    have go : ∀ ρ' σ', SInv ρ' code depth (stepS code depth st d) → Loop w k (namesN 30) (forT (stN (bodyN 30) 1)) (forB (stN (bodyN 30) 1)) (deeds.map deedV) ρ' σ' Φ := fun ρ' σ' I' =>
      law_state_loop deeds (stepS code depth st d) ρ' σ' I' (fun q hq => hp q (by simp [hq])) hΦ
    refine ⟨_, _, asg_tup' (.cons _ _ _ _ _ _ _ _ _ _ (asgn_local (by kernel_rfl)) (.cons _ _ _ _ _ _ _ _ _ _ (asgn_local (by kernel_rfl)) (.cons _ _ _ _ _ _ _ _ _ _ (asgn_local (by kernel_rfl)) (.nil _ _)))) rfl rfl, ?_⟩
    have hn : 0 ≤ 7 * (4 - (d.2.1 : Int)) := by omega
    have mul : IntMulOk 7 (4 - (d.2.1 : Int)) := IntMulOk.of_left (by decide +kernel)
    by_cases h1 : (d.2.1 : Int) ≤ depth
    · by_cases h2 : d.1.fdiv (2 ^ (7 * (4 - (d.2.1 : Int))).toNat) = code.fdiv (2 ^ (7 * (4 - (d.2.1 : Int))).toNat)
      · have hh : hits d code depth = true := by unfold hits; simp [h1, h2]
        refine ex_cons (x1_if_t (tes (t_op (and_go (Tests.to (t_cmp ev_name ev_name cmp_le) (by simp [h1])) (and_go (Tests.to (t_cmp (ev_bin ev_name (ev_bin ev_int (ev_bin ev_int ev_name bin_sub) (bin_mul mul)) (bin_shr hn)) (ev_bin ev_name (ev_bin ev_int (ev_bin ev_int ev_name bin_sub) (bin_mul mul)) (bin_shr hn)) cmp_eqi) (by simp [h2])) and_nil)))) ?_)
        have ev : ∀ ρ, Has ρ "state" (.bool st) → Has ρ "kind" (.int d.2.2) → Evals w k (namesN 30) ρ (match stN (match stN (forB (stN (bodyN 30) 1)) 0 with | .If _ b _ _ => b | _ => []) 0 with | .Assign _ e _ => e | _ => .Name "" ⟨0, 0, 0, 0⟩) (.bool (stepS code depth st d)) := fun ρ q1 q2 => by
          unfold stepS; rw [if_pos hh]
          by_cases h3 : d.2.2 = 2
          · rw [if_pos h3]
            exact ev_if_t (Tests.to (t_cmp ev_name ev_int cmp_eqi) (by simp [h3])) (ev_not ev_name tr_bool)
          · rw [if_neg h3]
            exact ev_if_f (Tests.to (t_cmp ev_name ev_int cmp_eqi) (by simp [h3])) (Evals.to (ev_cmp ev_name ev_int cmp_eqi) (by congr 1))
        refine ex_cons (x1_set (evs (ev _ (by wtm_at "lk") (by wtm_at "lk"))) (asgn_local (by kernel_rfl)) (ex_nil (ex_nil ?_)))
        exact go _ _ ⟨by wtm_at "lk", by wtm_at "lk", by wtm_at "lk"⟩
      · have hh : hits d code depth = false := by unfold hits; simp [h2]
        have st' : stepS code depth st d = st := by unfold stepS; rw [hh]; rfl
        rw [st'] at go
        refine ex_cons (x1_if_f (tes (t_op (and_go (Tests.to (t_cmp ev_name ev_name cmp_le) (by simp [h1])) (and_stop (Tests.to (t_cmp (ev_bin ev_name (ev_bin ev_int (ev_bin ev_int ev_name bin_sub) (bin_mul mul)) (bin_shr hn)) (ev_bin ev_name (ev_bin ev_int (ev_bin ev_int ev_name bin_sub) (bin_mul mul)) (bin_shr hn)) cmp_eqi) (by simp [h2])))))) (ex_nil (ex_nil ?_)))
        exact go _ _ ⟨by wtm_at "lk", by wtm_at "lk", by wtm_at "lk"⟩
    · have hh : hits d code depth = false := by unfold hits; simp [h1]
      have st' : stepS code depth st d = st := by unfold stepS; rw [hh]; rfl
      rw [st'] at go
      refine ex_cons (x1_if_f (tes (t_op (and_stop (Tests.to (t_cmp ev_name ev_name cmp_le) (by simp [h1]))))) (ex_nil (ex_nil ?_)))
      exact go _ _ ⟨by wtm_at "lk", by wtm_at "lk", by wtm_at "lk"⟩
theorem fn_law_state (w : World) : FnIs w 225 (namesN 30) (bodyN 30) (fdAt w.params 225) := fnIs 30 (by kernel_rfl) (by decide) (by kernel_rfl) (by kernel_rfl) (by kernel_rfl) (by kernel_rfl) (by kernel_rfl) (by kernel_rfl) (by kernel_rfl) (by kernel_rfl) (by kernel_rfl) (by kernel_rfl)
theorem law_state_ok {w : World} {k : Nat} {deeds : List Deed} {code depth : Int} (hp : ∀ d ∈ deeds, d.2.1 ≤ 4) : CallOk w (k + 1) (.top 225) [.lst (deeds.map deedV), .int code, .int depth] (.bool (stateF deeds code depth)) := by
  have body : Ex w k (namesN 30) [("deeds", false, .lst (deeds.map deedV)), ("code", false, .int code), ("depth", false, .int depth)] [] (bodyN 30) fun _ _ fl => fl = .ret (.bool (stateF deeds code depth)) := by
    refine ex_cons (x1_set (evs ev_bool) (asgn_local (by kernel_rfl)) ?_)
    refine ex_cons (x1_for (evs ev_name) iter_lst ?_)
    refine law_state_loop (code := code) (depth := depth) deeds true _ _ ⟨?_, ?_, ?_⟩ hp fun ρ' σ' I => ?_
    · show List.lookup _ _ = _; wtm_at "lk"
    · show List.lookup _ _ = _; wtm_at "lk"
    · show List.lookup _ _ = _; wtm_at "lk"
    obtain ⟨i1, i2, i3⟩ := I
    have i3' : Has ρ' "state" (.bool (stateF deeds code depth)) := i3
    exact ex_cons (x1_ret (evs ev_name) rfl)
  exact fn_ok (fn_law_state w) (binds3 fun u v t => by kernel_rfl) (nodup_of (by decide +kernel)) (isLC_of (by kernel_rfl)) (body.mono fun _ _ _ h => .inl h)
noncomputable def szN (cell : Nat) : Nat := cell % 3 + 1
noncomputable def numN (cell : Nat) : Nat := cell / 3 % 16777216
noncomputable def octsN (cell : Nat) : List UInt8 := ([numN cell / 65536, numN cell / 256 % 256, numN cell % 256].take (szN cell)).map Nat.toUInt8
noncomputable def keptN (cell : Nat) : Nat := numN cell - numN cell % 256 ^ (3 - szN cell)
noncomputable def valN (cell i : Nat) : Nat := if i ≤ szN cell then keptN cell / 2 ^ (18 - 6 * i) % 64 else 64
noncomputable def valsN (cell : Nat) : List Nat := [valN cell 0, valN cell 1, valN cell 2, valN cell 3]
theorem rho_nil {ρ : Rho} {names : List (Str × NameKind)} : ∀ z p, ([] : Rho).lookup z = some p → names.lookup z = some .free ∧ p.1 = true ∧ ρ.lookup z = some p := fun z p h => by simp at h
theorem rho_cons {ρ : Rho} {names : List (Str × NameKind)} {y : Str} {v : V} {r : Rho} (hn : names.lookup y = some .free) (h : ρ.lookup y = some (true, v)) (hr : ∀ z p, r.lookup z = some p → names.lookup z = some .free ∧ p.1 = true ∧ ρ.lookup z = some p) :
    ∀ z p, ((y, true, v) :: r).lookup z = some p → names.lookup z = some .free ∧ p.1 = true ∧ ρ.lookup z = some p := fun z p hp => by
  by_cases hz : z = y
  · subst hz; simp at hp; subst hp; exact ⟨hn, rfl, h⟩
  · have : (z == y) = false := beq_eq_false_iff_ne.mpr hz
    rw [List.lookup_cons, this] at hp
    exact hr z p hp
theorem g_range : GlobIs "range" (.typ "range") := glob_typ (fun P => by kernel_rfl) (fun P => by kernel_rfl)
theorem szN_cases (cell : Nat) : szN cell = 1 ∨ szN cell = 2 ∨ szN cell = 3 := by unfold szN; omega
theorem fmodN (a b : Nat) : Int.fmod (a : Int) (b : Int) = ((a % b : Nat) : Int) := by rw [Int.fmod_eq_emod_of_nonneg _ (by omega)]; omega
theorem fdivN (a b : Nat) : Int.fdiv (a : Int) (b : Int) = ((a / b : Nat) : Int) := by rw [Int.fdiv_eq_ediv_of_nonneg _ (by omega)]; omega
theorem picked3 (a b c : UInt8) : KBy.picked #[a, b, c] none (some 1) = #[a] ∧ KBy.picked #[a, b, c] none (some 2) = #[a, b] ∧ KBy.picked #[a, b, c] none (some 3) = #[a, b, c] := ⟨rfl, rfl, rfl⟩
theorem numN_lt (cell : Nat) : numN cell < 16777216 := Nat.mod_lt _ (by decide)
theorem keptN_eq (cell : Nat) : ((numN cell : Nat) : Int) - ((numN cell % 256 ^ (3 - szN cell) : Nat) : Int) = ((keptN cell : Nat) : Int) := by
  unfold keptN
  have : numN cell % 256 ^ (3 - szN cell) ≤ numN cell := Nat.mod_le _ _
  omega
theorem octsN_len (cell : Nat) : (octsN cell).length = szN cell := by
  unfold octsN
  rcases szN_cases cell with h | h | h <;> simp [h]
theorem octs_picked (cell : Nat) : KBy.picked (byteArr [((numN cell / 65536 : Nat) : Int), ((numN cell / 256 % 256 : Nat) : Int), ((numN cell % 256 : Nat) : Int)]) none (some ((szN cell : Nat) : Int)) = (octsN cell).toArray := by
  have e : byteArr [((numN cell / 65536 : Nat) : Int), ((numN cell / 256 % 256 : Nat) : Int), ((numN cell % 256 : Nat) : Int)] = #[(numN cell / 65536).toUInt8, (numN cell / 256 % 256).toUInt8, (numN cell % 256).toUInt8] := by
    have q : ∀ n : Nat, ((n : Nat) : Int).toNat.toUInt8 = n.toUInt8 := fun n => by rw [Int.toNat_natCast]
    unfold byteArr
    simp only [List.map_cons, List.map_nil, q]
  rw [e]
  refine ob0_3 (picked3 (numN cell / 65536).toUInt8 (numN cell / 256 % 256).toUInt8 (numN cell % 256).toUInt8) fun p1 p2 p3 => ?_
  unfold octsN
  rcases szN_cases cell with h | h | h <;> rw [h] <;> simp only [List.take, List.map]
  · exact p1
  · exact p2
  · exact p3
theorem fn_law_row (w : World) : FnIs w 218 (namesN 29) (bodyN 29) (fdAt w.params 218) := fnIs 29 (by kernel_rfl) (by decide) (by kernel_rfl) (by kernel_rfl) (by kernel_rfl) (by kernel_rfl) (by kernel_rfl) (by kernel_rfl) (by kernel_rfl) (by kernel_rfl) (by kernel_rfl) (by kernel_rfl)
noncomputable abbrev rowVals (cell : Nat) : V := .lst ((valsN cell).map fun v => .int ((v : Nat) : Int))
section
variable {w : World} {k : Nat}
theorem row_elt {gs : List (Str × NameKind)} {cell i : Nat} (hi : i ≤ 3) {p1 p2 p3 p4 p5 p6 p7 p8 p9 p10 p11 p12 p13 p14 : Pos} {k1 k2 k3 k4 : Nat} :
    Evals w k gs [("k", false, .int ((i : Nat) : Int)), ("kept", true, .int ((keptN cell : Nat) : Int)), ("size", true, .int ((szN cell : Nat) : Int))]
      (.IfExp (.Compare (.Name "k" p1) [.LtE] [.Name "size" p2] p3) (.BinOp (.BinOp (.Name "kept" p4) .RShift (.BinOp (.Constant (.int 18) k1 p5) .Sub (.BinOp (.Constant (.int 6) k2 p6) .Mult (.Name "k" p7) p8) p9) p10) .Mod (.Constant (.int 64) k3 p11) p12) (.Constant (.int 64) k4 p13) p14)
      (.int ((valN cell i : Nat) : Int)) := by
  have mul : IntMulOk 6 ((i : Nat) : Int) := IntMulOk.of_left (by decide +kernel)
  unfold valN
  by_cases h : i ≤ szN cell
  · rw [if_pos h]
    refine ev_if_t (Tests.to (t_cmp ev_name ev_name cmp_le) (by simp; omega)) ?_
    refine Evals.to (ev_bin (ev_bin ev_name (ev_bin ev_int (ev_bin ev_int ev_name (bin_mul mul)) bin_sub) (bin_shr (by omega))) ev_int (bin_mod (by decide))) ?_
    have e : (18 - 6 * ((i : Nat) : Int)).toNat = 18 - 6 * i := by omega
    have e2 : ((2 : Int) ^ (18 - 6 * i)) = ((2 ^ (18 - 6 * i) : Nat) : Int) := by simp
    rw [e, e2, fdivN]
    have e3 : (64 : Int) = ((64 : Nat) : Int) := rfl
    rw [e3, fmodN]
  · rw [if_neg h]
    exact ev_if_f (Tests.to (t_cmp ev_name ev_name cmp_le) (by simp; omega)) ev_int
theorem law_row_body {cell : Nat} : Ex w k (namesN 29) [("cell", false, .int ((cell : Nat) : Int))] [] (bodyN 29) fun _ _ fl => fl = .ret (.tup [.byt (octsN cell).toArray, rowVals cell]) := by
  refine ex_cons (x1_set (v := .int ((szN cell : Nat) : Int)) (evs (Evals.to (ev_bin (ev_bin ev_name ev_int (bin_mod (by decide))) ev_int bin_add) ?_)) (asgn_cell (by kernel_rfl)) ?_)
  · have e3 : (3 : Int) = ((3 : Nat) : Int) := rfl
    rw [e3, fmodN]; unfold szN; simp
  refine ex_cons (x1_set (v := .int ((numN cell : Nat) : Int)) (evs (Evals.to (ev_bin (ev_bin ev_name ev_int (bin_div (by decide) (PyProof.noPylong_small (by decide)))) ev_int (bin_mod (by decide))) ?_)) (asgn_local (by kernel_rfl)) ?_)
  · have e3 : (3 : Int) = ((3 : Nat) : Int) := rfl
    have e4 : (16777216 : Int) = ((16777216 : Nat) : Int) := rfl
    rw [e3, fdivN, e4, fmodN]; rfl
  have hn := numN_lt cell
  have hlst : ∀ ρ, Has ρ "number" (.int ((numN cell : Nat) : Int)) → Evals w k (namesN 29) ρ (match stN (bodyN 29) 2 with | .Assign _ (.Subscript (.Call _ [e] _ _) _ _) _ => e | _ => .Name "" ⟨0, 0, 0, 0⟩)
      (.lst ([((numN cell / 65536 : Nat) : Int), ((numN cell / 256 % 256 : Nat) : Int), ((numN cell % 256 : Nat) : Int)].map .int)) := fun ρ q => by
    refine ev_lst (evl_cons (Evals.to (ev_bin ev_name ev_int (bin_shr (by decide))) ?_) (evl_cons (Evals.to (ev_bin (ev_bin ev_name ev_int (bin_shr (by decide))) ev_int (bin_mod (by decide))) ?_) (evl_cons (Evals.to (ev_bin ev_name ev_int (bin_mod (by decide))) ?_) evl_nil))) (by simp)
    · have e : ((2 : Int) ^ (16 : Int).toNat) = ((65536 : Nat) : Int) := by decide
      rw [e, fdivN]
    · have e : ((2 : Int) ^ (8 : Int).toNat) = ((256 : Nat) : Int) := by decide
      have e2 : (256 : Int) = ((256 : Nat) : Int) := rfl
      rw [e, fdivN, e2, fmodN]
    · have e2 : (256 : Int) = ((256 : Nat) : Int) := rfl
      rw [e2, fmodN]
  refine ex_cons (x1_set (v := .byt (octsN cell).toArray) (evs (Evals.to (ev_slice (ev_call (ev_glob (by kernel_rfl) g_bytes) (.typ _) (evl_cons (hlst _ (by wtm_at "lk")) evl_nil) (c_bytes ?_ (by simp))) part_n (part_s ev_name) part_n (sl_byt (by simp [byteArr]))) (by rw [octs_picked]))) (asgn_local (by kernel_rfl)) ?_)
  · intro n h
    simp at h
    omega
  refine ex_cons (x1_set (v := .int ((keptN cell : Nat) : Int)) (evs (Evals.to (ev_bin ev_name (ev_bin ev_name (ev_bin ev_int (ev_bin ev_int ev_name bin_sub) (bin_pow ?_ ?_)) (bin_mod ?_)) bin_sub) ?_)) (asgn_cell (by kernel_rfl)) ?_)
  · have := szN_cases cell; omega
  · have h : (Builtin.Int.intBits 256 : Int) = 9 := by decide +kernel
    rw [h]
    have := szN_cases cell; omega
  · have : (0 : Int) < 256 ^ (3 - ((szN cell : Nat) : Int)).toNat := Int.pow_pos (by decide)
    omega
  · have e : (3 - ((szN cell : Nat) : Int)).toNat = 3 - szN cell := by omega
    have e2 : ((256 : Int) ^ (3 - szN cell)) = ((256 ^ (3 - szN cell) : Nat) : Int) := by simp
    rw [e, e2, fmodN, keptN_eq]
  refine ex_cons (x1_ret (evs (ev_tup (evl_cons ev_name (evl_cons (ev_comp (compIs [("kept", true, .int ((keptN cell : Nat) : Int)), ("size", true, .int ((szN cell : Nat) : Int))]
    (ev_call (l := [.int (Int.ofNat 4)]) (ev_glob (by kernel_rfl) g_range) (.typ _) (evl_cons ev_int evl_nil) c_range) (iter_rng (by decide)) (by simp [natsI]) ?_ (rho_cons (by kernel_rfl) (by wtm_at "lk") (rho_cons (by kernel_rfl) (by wtm_at "lk") rho_nil)))) evl_nil)) (by simp))) rfl)
  exact cl_cons ifs_nil (row_elt (i := 0) (by decide)) (cl_cons ifs_nil (row_elt (i := 1) (by decide)) (cl_cons ifs_nil (row_elt (i := 2) (by decide)) (cl_cons ifs_nil (row_elt (i := 3) (by decide)) cl_nil)))
theorem law_row_ok {cell : Nat} : CallOk w (k + 1) (.top 218) [.int ((cell : Nat) : Int)] (.tup [.byt (octsN cell).toArray, rowVals cell]) :=
  fn_ok (fn_law_row w) (binds1 fun v => by kernel_rfl) (nodup_of (by decide +kernel)) (isLC_of (by kernel_rfl)) (law_row_body.mono fun _ _ _ h => .inl h)
end
section
variable {w : World} {k : Nat}
theorem ints_of {f : Fz} : ∀ {ns : List Int} {vs : List Value}, RelL f (ns.map .int) vs → ∃ l : List (Int × Tok), vs = l.map (fun p => .int p.1 p.2) ∧ l.map (·.1) = ns
  | [], vs, r => by simp only [List.map_nil, RelL] at r; subst r; exact ⟨[], rfl, rfl⟩
  | p :: ps, vs, r => by
    simp only [List.map_cons, RelL] at r
    refine ob2_3 r fun y r' z0 ry rr => ?_; clear r; subst z0
    refine ob1_1 (rel_int.mp ry) fun t z0 => ?_; subst z0
    refine ob1_2 (ints_of rr) fun l z0 hl => ?_; subst z0
    exact ⟨(p, t) :: l, rfl, by simp [hl]⟩
theorem preSum_take (l : List (Int × Tok)) : ∀ j, preSum (PySem.numAt l.toArray) j = ((l.map (·.1)).take j).sum
  | 0 => by simp [preSum]
  | j + 1 => by
    rw [preSum, preSum_take l j]
    by_cases hj : j < l.length
    · have hj' : j < (l.map (·.1)).length := by simpa using hj
      rw [List.take_add_one, List.sum_append]
      congr 1
      simp [PySem.numAt, hj]
    · have h1 : PySem.numAt l.toArray j = 0 := by simp [PySem.numAt, Nat.not_lt.mp hj]
      rw [h1, List.take_of_length_le (by simp; omega), List.take_of_length_le (by simp; omega), Int.add_zero]
theorem sum_bound {ns : List Int} (B : Int) (hB : 0 ≤ B) (h : ∀ x ∈ ns, 0 ≤ x ∧ x ≤ B) : ∀ j, 0 ≤ (ns.take j).sum ∧ (ns.take j).sum ≤ B * ns.length := by
  induction ns with
  | nil => intro j; simp
  | cons x ns ih =>
    intro j
    have hx := h x (by simp)
    have hl : (0 : Int) ≤ B * ns.length := Int.mul_nonneg hB (by omega)
    cases j with
    | zero =>
      simp only [List.take_zero, List.sum_nil, List.length_cons]
      refine ⟨by omega, ?_⟩
      rw [Int.natCast_add, Int.mul_add]; omega
    | succ j =>
      have h2 := ih (fun y hy => h y (by simp [hy])) j
      simp only [List.take_succ_cons, List.sum_cons, List.length_cons]
      refine ⟨by omega, ?_⟩
      rw [Int.natCast_add, Int.mul_add]; omega
theorem c_sum {ns : List Int} (h : ∀ x ∈ ns, 0 ≤ x ∧ x ≤ 2 ^ 40) (hl : ns.length ≤ 1000) : CallOk w (k + 1) (.bi "sum") [.lst (ns.map .int)] (.int ns.sum) := fun A f s vf vs rm ok rf ra Q E hQ => by
  obtain rfl := rel_bi.mp rf
  refine ob1_2 (relL1 ra) fun x z0 rx => ?_; subst z0
  refine ob3_3 (rel_lst.mp rx) fun a xs n z0 ha rl => ?_; subst z0
  refine ob1_2 (ints_of rl) fun l z0 z1 => ?_; subst z0; subst z1
  have hsz : l.length ≤ 1000 := by simpa using hl
  have e : (l.map fun p => Value.int p.1 p.2).toArray = PySem.intItems l.toArray := by simp [PySem.intItems]
  have hil := isList_of (ok.sub _ _ ha)
  rw [e] at hil
  refine PySem.sum_intList rm.handled hil (fun j hj => ?_) fun h' tk t' hk => ?_
  · have hb := sum_bound (2 ^ 40) (by decide) h (j + 1)
    rw [preSum_take]
    have hj' : j < l.length := by simpa using hj
    have hx := h (l[j].1) (by simp only [List.mem_map]; exact ⟨_, List.getElem_mem hj', rfl⟩)
    have hn : PySem.numAt l.toArray j = l[j].1 := by simp [PySem.numAt, hj']
    rw [hn]
    have hlen : ((l.map (·.1)).length : Int) ≤ 1000 := by simpa using (by exact_mod_cast hsz : (l.length : Int) ≤ 1000)
    have hq : (2 ^ 40 : Int) * ((l.map (·.1)).length : Int) ≤ 2 ^ 40 * 1000 := Int.mul_le_mul_of_nonneg_left hlen (by decide)
    refine ⟨⟨by omega, by omega⟩, by omega, by omega⟩
  · rw [preSum_take, List.take_of_length_le (by simp)]
    exact hQ _ _ _ (Grew.same ok.sub hk) relI
theorem bin_addl {a b : List V} (h : a.length + b.length ≤ 1000000) : BinOk w k .Add (.lst a) (.lst b) (.lst (a ++ b)) := fun A f s va vb rm ok ra rb Q E hQ => by
  refine ob3_3 (rel_lst.mp ra) fun a xs n z0 ha rl => ?_; subst z0
  refine ob3_3 (rel_lst.mp rb) fun b ys n' z0 hb rl' => ?_; subst z0
  refine PySem.P.add_list (ok.sub _ _ ha) (ok.sub _ _ hb) ?_ (by simp only [List.size_toArray, rl.length, rl'.length, sizeLine_eq]; omega)
  have g : Grew f s (f.add s.heap.objs.size (lstO (xs ++ ys) 0)) { s with heap := s.heap.push (lstO (xs ++ ys) 0), toks := s.toks } :=
    Grew.add ok.sub (fun b o e => Heap.get?_push_of_some _ e) (get?_size _) (Heap.get?_push_size _ rfl)
  have e : ({ cls := .type "list", data := .seq (xs.toArray ++ ys.toArray) } : Obj) = lstO (xs ++ ys) 0 := by simp [lstO]
  rw [e]
  exact hQ _ _ _ g (rel_lst.mpr ⟨_, _, 0, rfl, Fz.add_self .., (rl.append rl').mono g.le⟩)
mutual
noncomputable def toPD : V → PyData
  | .bool b => .bool b | .int i => .int i | .str x => .str x
  | .tup l => .tuple (toPDs l) | .lst l => .list (toPDs l)
  | _ => .none
noncomputable def toPDs : List V → List PyData
  | [] => []
  | x :: l => toPD x :: toPDs l
end
mutual
noncomputable def datB : V → Bool
  | .bool _ => true | .int _ => true | .str x => PyData.strOk x
  | .tup l => datBs l | .lst l => datBs l
  | .non => true
  | _ => false
noncomputable def datBs : List V → Bool
  | [] => true
  | x :: l => datB x && datBs l
end
mutual
theorem lay_of : ∀ x : V, datB x = true → (toPD x).canLay0 = true
  | .bool _, _ | .int _, _ | .non, _ => by simp only [toPD, PyData.canLay0]
  | .str x, h => by simpa only [toPD, PyData.canLay0, datB] using h
  | .tup l, h | .lst l, h => by simp only [toPD, PyData.canLay0]; exact lay_ofs l (by simpa only [datB] using h)
  | .byt _, h | .typ _, h | .bi _, h | .top _, h | .rng _, h | .rul _ _, h | .ent _, h => by simp [datB] at h
theorem lay_ofs : ∀ l : List V, datBs l = true → PyData.canLayAll0 (toPDs l) = true
  | [], _ => by simp only [toPDs, PyData.canLayAll0]
  | x :: l, h => by
    simp only [datBs, Bool.and_eq_true] at h
    simp only [toPDs, PyData.canLayAll0, lay_of x h.1, lay_ofs l h.2, Bool.and_self]
end
mutual
theorem reads_of {f : Fz} {h : Heap} (hf : ∀ a o, f a = some o → h.get? a = some o) : ∀ (x : V) (v : Value), datB x = true → Rel f x v → ∃ as, Reads h v (toPD x) as
  | .non, v, _, r => by obtain rfl := rel_none.mp r; exact ⟨_, by simpa only [toPD] using Reads.none⟩
  | .bool b, v, _, r => by obtain rfl := rel_bool.mp r; exact ⟨_, by simpa only [toPD] using Reads.bool b⟩
  | .int b, v, _, r => by refine ob1_1 (rel_int.mp r) fun t z0 => ?_; subst z0; exact ⟨_, by simpa only [toPD] using Reads.int b t⟩
  | .str b, v, _, r => by refine ob1_1 (rel_str.mp r) fun t z0 => ?_; subst z0; exact ⟨_, by simpa only [toPD] using Reads.str b t⟩
  | .tup l, v, hd, r => by
    refine ob2_3 (rel_tup.mp r) fun a vs z0 ha rl => ?_; subst z0
    refine ob1_1 (reads_ofs hf l vs (by simpa only [datB] using hd) rl) fun as q => ?_
    exact ⟨_, by simpa only [toPD] using Reads.tuple (hf _ _ ha) rfl rfl q⟩
  | .lst l, v, hd, r => by
    refine ob3_3 (rel_lst.mp r) fun a vs n z0 ha rl => ?_; subst z0
    refine ob1_1 (reads_ofs hf l vs (by simpa only [datB] using hd) rl) fun as q => ?_
    exact ⟨_, by simpa only [toPD] using Reads.list (hf _ _ ha) rfl rfl q⟩
  | .byt _, _, h, _ | .typ _, _, h, _ | .bi _, _, h, _ | .top _, _, h, _ | .rng _, _, h, _ | .rul _ _, _, h, _ | .ent _, _, h, _ => by simp [datB] at h
theorem reads_ofs {f : Fz} {h : Heap} (hf : ∀ a o, f a = some o → h.get? a = some o) : ∀ (l : List V) (vs : List Value), datBs l = true → RelL f l vs → ∃ as, ReadsAll h vs (toPDs l) as
  | [], vs, _, r => by simp only [RelL] at r; subst r; exact ⟨_, by simpa only [toPDs] using ReadsAll.nil⟩
  | x :: l, vs, hd, r => by
    simp only [datBs, Bool.and_eq_true] at hd
    simp only [RelL] at r
    refine ob2_3 r fun y r' z0 rx rl => ?_; clear r; subst z0
    refine ob1_1 (reads_of hf x y hd.1 rx) fun as q => ?_
    refine ob1_1 (reads_ofs hf l r' hd.2 rl) fun bs q' => ?_
    exact ⟨_, by simpa only [toPDs] using ReadsAll.cons q q'⟩
end
theorem cmp_eqd {a b : V} (ha : datB a = true) (hb : datB b = true) (hd : (toPD a).depth ≤ 50) : CmpOk w k .Eq a b (PyData.eqv (toPD a) (toPD b)) := fun A f s va vb rm ok ra rb Q E hQ => by
  refine ob1_1 (reads_of ok.sub a va ha ra) fun as q => ?_
  refine ob1_1 (reads_of ok.sub b vb hb rb) fun bs q' => ?_
  have := rm.units
  refine PySem.SeqAt.compareEq_reads q q' (lay_of a ha) (lay_of b hb) ?_ (hQ _ _ _ ok.refl relB)
  have h1 := Nat.min_le_left (toPD a).depth (toPD b).depth
  omega
theorem cmp_ned {a b : V} (ha : datB a = true) (hb : datB b = true) (hd : (toPD a).depth ≤ 50) : CmpOk w k .NotEq a b (!PyData.eqv (toPD a) (toPD b)) := fun A f s va vb rm ok ra rb Q E hQ => by
  refine ob1_1 (reads_of ok.sub a va ha ra) fun as q => ?_
  refine ob1_1 (reads_of ok.sub b vb hb rb) fun bs q' => ?_
  have := rm.units
  refine PySem.SeqAt.compareNe_reads q q' (lay_of a ha) (lay_of b hb) ?_ (hQ _ _ _ ok.refl relB)
  have h1 := Nat.min_le_left (toPD a).depth (toPD b).depth
  omega
theorem cmp_notind {x : V} {l : List V} (hx : datB x = true) (hl : datBs l = true) (hd : (toPD x).depth ≤ 50) : CmpOk w k .NotIn x (.lst l) (!(toPDs l).any fun y => PyData.eqv y (toPD x)) := fun A f s va vb rm ok ra rb Q E hQ => by
  refine ob1_1 (reads_of ok.sub x va hx ra) fun as q => ?_
  refine ob1_1 (reads_of ok.sub (.lst l) vb (by simpa only [datB] using hl) rb) fun bs q' => ?_
  have := rm.units
  simp only [toPD] at q'
  refine PySem.SeqAt.notIn_list_reads q' q (lay_ofs l hl) (lay_of x hx) ?_ (hQ _ _ _ ok.refl relB)
  have h1 := Nat.min_le_right (PyData.depthAll (toPDs l)) (toPD x).depth
  omega
end
section
open Builtin
theorem dec_entry {c : UInt8} {cs : List UInt8} {t u : Tok} : «bytes.decode» ⟨[.bytes (c :: cs).toArray t, .str (PySem.Str.ofString "ascii") u], []⟩ = (mkStr (PySem.Str.ofString "utf-8") >>= fun _ => mkStr (PySem.Str.ofString "ascii") >>= fun e => mkStr (PySem.Str.ofString "bytes.decode") >>= fun d =>
    call (.builtin "_codecs.decode.text") [.bytes (c :: cs).toArray t, e, .none, d] >>= fun v => ret v) := by kernel_rfl
theorem road_ascii {id : String} {b : Array UInt8} : _codecs.decodeRoad id b (PySem.Str.ofString "ascii") none [] = (_codecs.runDecoder id _codecs.asciiDecoder none true b 0 [] >>= fun r => mkStr ⟨r.1⟩) := by kernel_rfl
theorem enc_entry {x : PySem.Str} {t u : Tok} : «str.encode» ⟨[.str x t, .str (PySem.Str.ofString "ascii") u], []⟩ = ((_codecs.encodeNarrow "str.encode" _codecs.asciiCodec none (.str x t) x >>= fun b => mkBytes b) >>= fun v => ret v) := by kernel_rfl
theorem forIn_2 {β : Type} {f : Nat → β → Sem (ForInStep β)} {x y : Nat} {l : List Nat} {b b1 b2 : β} (h1 : f x b = pure (.yield b1)) (h2 : f y b1 = pure (.done b2)) : forIn (x :: y :: l) b f = pure b2 := by
  rw [List.forIn_cons, h1, pure_bind]
  show forIn (y :: l) b1 f = _
  rw [List.forIn_cons, h2, pure_bind]
theorem forIn_r {β : Type} {f : Nat → β → Sem (ForInStep β)} {n : Nat} {b b1 b2 : β} (h1 : f 0 b = pure (.yield b1)) (h2 : f 1 b1 = pure (.done b2)) : forIn [:n + 2] b f = pure b2 := by
  rw [Std.Legacy.Range.forIn_eq_forIn_range', show List.range' [:n + 2].start [:n + 2].size [:n + 2].step = 0 :: 1 :: List.range' 2 n from by simp [Std.Legacy.Range.size, List.range']]
  exact forIn_2 h1 h2
theorem bind_of {β γ : Type} {x : Sem β} {b : β} {k : β → Sem γ} {y : Sem γ} (h : x = pure b) (hk : k b = y) : (x >>= k) = y := by rw [h, pure_bind, hk]
theorem notbad {a : Nat} (ha : a < 128) : _codecs.asciiCodec.bad a = false := decide_eq_false (Nat.not_le.mpr ha)
theorem none_bad {a b c d : Nat} (ha : a < 128) (hb : b < 128) (hc : c < 128) (hd : d < 128) : Array.findIdx? _codecs.asciiCodec.bad #[a, b, c, d] = none := by
  rw [Array.findIdx?_eq_none_iff]
  intro x hx
  simp only [List.mem_toArray, List.mem_cons, List.not_mem_nil, or_false] at hx
  rcases hx with rfl | rfl | rfl | rfl <;> exact notbad ‹_›
theorem narrow {id : String} {v : Value} {a b c d : Nat} (ha : a < 128) (hb : b < 128) (hc : c < 128) (hd : d < 128) :
    _codecs.encodeNarrow id _codecs.asciiCodec none v ⟨#[a, b, c, d]⟩ = pure #[a.toUInt8, b.toUInt8, c.toUInt8, d.toUInt8] := by
  have h0 : ¬ (#[] : Array UInt8).size > sizeLine := by rw [sizeLine_eq]; decide
  have h4 : ¬ (#[a.toUInt8, b.toUInt8, c.toUInt8, d.toUInt8] : Array UInt8).size > sizeLine := by rw [sizeLine_eq]; simp
  have hb0 : (!_codecs.asciiCodec.bad a) = true := by rw [notbad ha]; rfl
  have hn := none_bad ha hb hc hd
  unfold _codecs.encodeNarrow
  refine bind_of (forIn_r (n := 2) (b1 := (4, #[a.toUInt8, b.toUInt8, c.toUInt8, d.toUInt8], {})) (b2 := (4, #[a.toUInt8, b.toUInt8, c.toUInt8, d.toUInt8], {})) ?_ ?_) ?_
  · refine (if_neg h0).trans ((if_pos hb0).trans ?_)
    dsimp only
    rw [show (⟨#[a, b, c, d]⟩ : PySem.Str).cps.extract 0 = #[a, b, c, d] from rfl, hn]
    rfl
  · refine (if_neg h4).trans ?_
    rfl
  · rfl
theorem decd {id : String} {a b c d : UInt8} (ha : a.toNat < 128) (hb : b.toNat < 128) (hc : c.toNat < 128) (hd : d.toNat < 128) :
    _codecs.runDecoder id _codecs.asciiDecoder none true #[a, b, c, d] 0 [] = pure (#[a.toNat, b.toNat, c.toNat, d.toNat], 4) := by
  have hs : ∀ n, n ≤ 4 → (sizeLine < n) = False := fun n hn => by rw [sizeLine_eq]; simp; omega
  unfold _codecs.runDecoder
  simp only [List.size_toArray, List.length_cons, List.length_nil, Std.Legacy.Range.forIn_eq_forIn_range', Std.Legacy.Range.size]
  simp [List.range', _codecs.asciiDecoder, _codecs.Found.char, ha, hb, hc, hd, hs]
theorem args_decode2 (a b : Value) : argsOk "bytes.decode" ⟨[a, b], []⟩ := by unfold argsOk; kernel_rfl
theorem meets_textA {b : Array UInt8} {t t1 t2 : Tok} {x d : PySem.Str} {n : Nat} (hd : ∀ id, _codecs.runDecoder id _codecs.asciiDecoder none true b 0 [] = pure (x.cps, n)) :
    Meets («_codecs.decode.text» ⟨[.bytes b t, .str (PySem.Str.ofString "ascii") t1, .none, .str d t2], []⟩) (fun _ R s => x.length ≤ sizeLine ∧ R (.ok (.ret (.str x s.toks))) { s with toks := s.toks + 1 }) := by
  refine .of_wp fun prog w A R s hS => ?_
  refine ob0_2 hS fun hsz h => ?_; clear hS
  show wpAny _ _ (Bytes.bytesLike _ (.bytes b t) >>= fun r => _) _ _ s
  refine wpAny_bind (wpAny_of_eq KBd.like_eq ?_)
  refine wpAny_bind (wpAny_of_eq KBd.held_eq ?_)
  show wpAny _ _ (_codecs.decodeRoad _ b (PySem.Str.ofString "ascii") none [] >>= fun v => _) _ _ s
  rw [road_ascii, hd]
  refine wpAny_bind (wpAny_bind (wpAny_pure ?_))
  exact wpAny_mkStr (wpAny_pure ⟨_, rfl, h⟩) hsz
end
noncomputable def byt4 (a b c d : Nat) : Array UInt8 := #[a.toUInt8, b.toUInt8, c.toUInt8, d.toUInt8]
theorem toU8 {a : Nat} (h : a < 128) : a.toUInt8.toNat = a := by simp; omega
section
variable {w : World} {k : Nat} {nm : List (Str × NameKind)} {ρ : Rho}
theorem c_encode {a b c d : Nat} (ha : a < 128) (hb : b < 128) (hc : c < 128) (hd : d < 128) : CallOk w k (.bi "str.encode") [.str (S [a, b, c, d]), .str (Str.ofString "ascii")] (.byt (byt4 a b c d)) := fun A f s vf vs rm ok rf ra Q E hQ => by
  obtain rfl := rel_bi.mp rf
  refine ob2_3 (relL2 ra) fun x y z0 rx ry => ?_; subst z0
  refine ob1_1 (rel_str.mp rx) fun t z0 => ?_; subst z0
  refine ob1_1 (rel_str.mp ry) fun u z0 => ?_; subst z0
  refine wpAny_call_entry PySem.F.slot_str_encode (typeIs_str _ _ _) PySem.F.entry_str_encode ?_ (PySem.F.args_str_encode_2 _ _)
  rw [enc_entry, show S [a, b, c, d] = ⟨#[a, b, c, d]⟩ from rfl, narrow ha hb hc hd]
  refine wpAny_bind (wpAny_bind (wpAny_pure ?_))
  refine wpAny_mkBytes (wpAny_pure ⟨_, rfl, ?_⟩) (by simp [sizeLine_eq])
  exact hQ _ _ _ (Grew.same ok.sub fun _ _ e => e) relY
noncomputable def EvalsT (w : World) (k : Nat) (gs : List (Str × NameKind)) (ρ : Rho) (e : Expr) (v : V) : Prop :=
  ∀ (env : Env) (A : Around) (f : Fz) (s : Shared), Room k A → Ok w gs env ρ f s → ∀ (Q : Value → Shared → Prop) (E : Value → Shared → Prop),
    (∀ val s' f', Grew f s f' s' → Rel f' v val → 1 ≤ s'.toks → Q val s') → wpAny (model prg w) A (eval e env) Q E s
noncomputable def CallT (w : World) (k : Nat) (fn : V) (args : List V) (v : V) : Prop :=
  ∀ (A : Around) (f : Fz) (s : Shared) (vf : Value) (vs : List Value), Room k A → Okf w f s → Rel f fn vf → RelL f args vs → ∀ (Q : Value → Shared → Prop) (E : Value → Shared → Prop),
    (∀ val s' f', Grew f s f' s' → Rel f' v val → 1 ≤ s'.toks → Q val s') → wpAny (model prg w) A (call vf vs) Q E s
theorem ev_methT {o apos pos name args T id ov l v} (pa : PlainAttrs T) (slot : Slot T name id) (ty : typeOf (.builtin id) = pure (.type "method_descriptor"))
    (ho : Evals w k nm ρ o ov) (hT : Typed ov T) (ha : EvalsL w k nm ρ args l) (h : CallT w k (.bi id) (ov :: l) v)
    (hline : (apos.endLine == pos.line) = true := by rfl) (hb : ∀ env, attributeBase o name env (eval o env) = eval o env := by intro _; rfl)
    (hp : ∀ env, starEach args env = (evalEach args env).map fun t => (false, t) := by intro _; rfl)
    (hfew : ∀ env, ((backTo pos (starEach args env)).all (fun x => !x.1) && (backToKw pos (keywordEach [] env)).all (fun x => x.1.isSome)
      && decide (args.length + ([] : List Keyword).length + (if ([] : List Keyword).isEmpty then 0 else 1) < 30)) = true := by intro _; rfl) :
    EvalsT w k nm ρ (.Call (.Attribute o name apos) args [] pos) v := fun env A f s rm ok Q E hQ => by
  refine wpAny_Call_method_lateS (hb env) (hfew env) hline (ho env A f s rm ok _ _ fun vo s₁ f₁ g₁ r₁ => ?_)
  have ok₁ := ok.grew g₁
  refine ob0_2 (hT f₁ s₁ vo ok₁.okf.sub r₁) fun h1 h2 => ?_
  refine ⟨T, id, pa, slot, ty, h1, h2, Calls.callWith_builtin (any_plain (hp env) pos) ?_⟩
  exact args_run ha rm ok₁ (hp env) fun vs s₂ f₂ g₂ r₂ => h A f₂ s₂ _ _ rm (ok₁.grew g₂).okf (rel_bi.mpr rfl) (RelL.cons (r₁.mono g₂.le) r₂) Q E fun val s' f' g' r' ht => hQ val s' f' ((g₁.trans g₂).trans g') r' ht
theorem c_decode {a b c d : UInt8} (ha : a.toNat < 128) (hb : b.toNat < 128) (hc : c.toNat < 128) (hd : d.toNat < 128) :
    CallT w k (.bi "bytes.decode") [.byt #[a, b, c, d], .str (Str.ofString "ascii")] (.str (S [a.toNat, b.toNat, c.toNat, d.toNat])) := fun A f s vf vs rm ok rf ra Q E hQ => by
  obtain rfl := rel_bi.mp rf
  refine ob2_3 (relL2 ra) fun x y z0 rx ry => ?_; subst z0
  refine ob1_1 (rel_byt.mp rx) fun t z0 => ?_; subst z0
  refine ob1_1 (rel_str.mp ry) fun u z0 => ?_; subst z0
  refine wpAny_call_entry FB.slot_bytes_decode (typeIs_bytes _ _ _) FB.entry_bytes_decode ?_ (args_decode2 _ _)
  rw [show (#[a, b, c, d] : Array UInt8) = (a :: [b, c, d]).toArray from rfl, dec_entry]
  refine wpAny_bind (wpAny_mkStr ?_ (by decide))
  refine wpAny_bind (wpAny_mkStr ?_ (by decide))
  refine wpAny_bind (wpAny_mkStr ?_ (by decide))
  refine wpAny_bind (call_function_meets KBd.kind_text KBd.plain_text KBd.entry_text (KBd.args_text _ _ _ _) (meets_textA (x := S [a.toNat, b.toNat, c.toNat, d.toNat]) (n := 4) fun id => decd ha hb hc hd) ⟨by simp [S_len, sizeLine_eq], wpAny_pure ⟨_, rfl, ?_⟩⟩)
  exact hQ _ _ _ (Grew.same ok.sub fun _ _ e => e) relS (Nat.succ_le_succ (Nat.zero_le _))
theorem parts_ex : ∀ l : List Nat, ∃ ps : List (List Nat), ps ≠ [] ∧ (∀ p ∈ ps, 47 ∉ p) ∧ l = gl 47 ps ∧ l.map (fun c => if c = 47 then 95 else c) = gl 95 ps
  | [] => ⟨[[]], by simp, by simp, rfl, rfl⟩
  | c :: l => by
    refine ob1_4 (parts_ex l) fun ps hne hf e1 e2 => ?_
    refine ob2_1 (List.exists_cons_of_ne_nil hne) fun p r z0 => ?_; subst z0
    by_cases hc : c = 47
    · subst hc
      refine ⟨[] :: p :: r, by simp, fun q hq => ?_, ?_, ?_⟩
      · rcases List.mem_cons.mp hq with rfl | hq
        · simp
        · exact hf q hq
      · rw [gl_cons, ← e1]; rfl
      · rw [gl_cons, ← e2]; simp
    · refine ⟨(c :: p) :: r, by simp, fun q hq => ?_, ?_, ?_⟩
      · rcases List.mem_cons.mp hq with rfl | hq
        · intro h
          rcases List.mem_cons.mp h with h | h
          · exact hc h.symm
          · exact hf p (by simp) h
        · exact hf q (by simp [hq])
      · rw [e1]; cases r <;> rfl
      · simp only [List.map_cons, if_neg hc, e2]; cases r <;> rfl
theorem rep_text (l : List Nat) : Txt.replace (S l) (S [47]) (S [95]) = S (l.map fun c => if c = 47 then 95 else c) := by
  refine ob1_4 (parts_ex l) fun ps hne hf e1 e2 => ?_
  rw [e2, e1]
  have h := PySem.StrLaws.replace_one (S (gl 47 ps)) (S [95]) 47
  rw [show (⟨#[47]⟩ : Str) = S [47] from rfl, S_split hne hf, ← PySem.StrLaws.glued_eq_join, S_glued] at h
  exact h
theorem ev_replace {o apos pos kk kk' cp cp'} {l : List Nat} (ho : EvalsT w k nm ρ o (.str (S l))) (hl : l.length ≤ 1000)
    (hline : (apos.endLine == pos.line) = true := by rfl) (hb : ∀ env, attributeBase o "replace" env (eval o env) = eval o env := by intro _; rfl) :
    Evals w k nm ρ (.Call (.Attribute o "replace" apos) [.Constant (.str "/") kk cp, .Constant (.str "_") kk' cp'] [] pos) (.str (S (l.map fun c => if c = 47 then 95 else c))) := fun env A f s rm ok Q E hQ => by
  refine wpAny_Call_method_lateS (hb env) (by rfl) hline (ho env A f s rm ok _ _ fun vo s₁ f₁ g₁ r₁ ht => ?_)
  have ok₁ := ok.grew g₁
  refine ob0_2 (typed_str f₁ s₁ vo ok₁.okf.sub r₁) fun h1 h2 => ?_
  refine ob1_1 (rel_str.mp r₁) fun t z0 => ?_; subst z0
  refine ⟨"str", "str.replace", PySem.F.plainAttrs_str, PySem.F.slot_str_replace, PySem.F.type_str_replace, h1, h2, Calls.callWith_builtin rfl ?_⟩
  refine Calls.evalArgs_plain (wpAny_items_cons (wpAny_Constant_str (wpAny_items_cons (wpAny_Constant_str (wpAny_items_nil ?_)) (by rfl))) (by rfl))
  refine PySem.SC.replaceW (by show s₁.toks ≠ 0; omega) (by show s₁.toks + 1 ≠ 0; omega) (by show s₁.toks ≠ s₁.toks + 1; omega) (by decide +kernel) (by rw [S_len]; omega) (by decide +kernel) fun t' k' => ?_
  rw [show Txt.replace (S l) "/" "_" = Txt.replace (S l) (S [47]) (S [95]) from rfl, rep_text]
  exact hQ _ _ _ (g₁.trans (Grew.same (s := s₁) (tk := k') g₁.sub fun _ _ e => e)) relS
theorem c_list_str {l : List Nat} (hl : l.length ≤ 1000) : CallOk w (k + 1) (.typ "list") [.str (S l)] (.lst (l.map fun c => .str (S [c]))) := fun A f s vf vs rm ok rf ra Q E hQ => by
  obtain rfl := rel_typ.mp rf
  refine ob1_2 (relL1 ra) fun x z0 rx => ?_; subst z0
  refine ob1_1 (rel_str.mp rx) fun t z0 => ?_; subst z0
  refine PySem.call_list_str rm.handled (S l) t (hn := by rw [show (S l).cps.size = l.length from S_len l, sizeLine_eq]; omega) fun h' tk acc' c' hk hS' hacc => ?_
  have hS : h'.get? s.heap.objs.size = some (lstO acc'.toList c') := by simpa [lstO] using hS'
  have g : Grew f s (f.add s.heap.objs.size (lstO acc'.toList c')) { s with heap := h', toks := tk } := Grew.add ok.sub hk (get?_size _) hS
  have key : ∀ (l : List Nat) (ys : List Value), ys.length = l.length → (∀ (j : Nat) (v : Value), ys[j]? = some v → ∃ (c : Nat) (u : Tok), l[j]? = some c ∧ v = Value.str ⟨#[c]⟩ u) → RelL f (l.map fun c => V.str (S [c])) ys := by
    intro l
    induction l with
    | nil => intro ys he _; obtain rfl := List.eq_nil_of_length_eq_zero he; exact RelL.nil
    | cons c l ih =>
      intro ys he hv
      cases ys with
      | nil => simp at he
      | cons y ys =>
        refine ob2_2 (hv 0 y rfl) fun c' u h1 z0 => ?_; subst z0
        obtain rfl := Option.some.inj h1
        exact RelL.cons relS (ih ys (by simpa using he) fun j v hj => hv (j + 1) v hj)
  refine hQ _ _ _ g (rel_lst.mpr ⟨_, _, c', rfl, Fz.add_self .., (key l acc'.toList ?_ ?_).mono g.le⟩)
  · have := hacc.1; simpa [S] using this
  · intro j v hj
    obtain ⟨c, u, h1, h2⟩ := hacc.2 j v (by simpa using hj)
    exact ⟨c, u, by simpa [S] using h1, h2⟩
end
noncomputable def goT {α : Type} (lt : Nat → Nat → Bool) (n : Nat) : KasT α → Option α
  | .ret a => some a
  | .ask i j k => if (i != j && decide (i < n) && decide (j < n)) = true then goT lt n (k (lt i j)) else none
theorem kasWp_go {α : Type} {cmp : Nat → Nat → (Bool → Shared → Prop) → Shared → Prop} {lt : Nat → Nat → Bool} {n : Nat} {s : Shared}
    (hc : ∀ i j (C : Bool → Shared → Prop), i ≠ j → i < n → j < n → C (lt i j) s → cmp i j C s) {Q : α → Shared → Prop} : ∀ (t : KasT α) (a : α), goT lt n t = some a → Q a s → t.kasWp cmp Q s
  | .ret a, b, e, h => by simp only [goT, Option.some.injEq] at e; subst e; exact h
  | .ask i j k, b, e, h => by
    simp only [goT] at e
    split at e
    · rename_i hq
      simp only [Bool.and_eq_true, bne_iff_ne, ne_eq, decide_eq_true_eq] at hq
      exact hc i j _ hq.1.1 hq.1.2 hq.2 (kasWp_go hc (k (lt i j)) b e h)
    · cases e
noncomputable def ins (x : Nat) : List Nat → List (List Nat)
  | [] => [[x]]
  | y :: l => (x :: y :: l) :: (ins x l).map (y :: ·)
noncomputable def perms : Nat → List (List Nat)
  | 0 => [[]]
  | n + 1 => (perms n).flatMap (ins n)
theorem mem_ins (x : Nat) : ∀ a b : List Nat, a ++ x :: b ∈ ins x (a ++ b)
  | [], [] => by simp [ins]
  | [], y :: b => by simp [ins]
  | y :: a, b => by simp only [List.cons_append, ins, List.mem_cons, List.mem_map]; exact .inr ⟨_, mem_ins x a b, rfl⟩
theorem mem_perms : ∀ (n : Nat) (l : List Nat), l.Perm (List.range n) → l ∈ perms n
  | 0, l, h => by rw [List.range_zero] at h; rw [h.eq_nil]; simp [perms]
  | n + 1, l, h => by
    have hn : n ∈ l := h.mem_iff.mpr (by simp)
    refine ob2_1 (List.append_of_mem hn) fun a b z0 => ?_; subst z0
    have h2 : (a ++ b).Perm (List.range n) := by
      have h3 : (n :: (a ++ b)).Perm (n :: List.range n) := by
        refine (List.perm_middle.symm.trans h).trans ?_
        rw [List.range_succ]
        exact List.perm_append_comm
      exact List.Perm.cons_inv h3
    simp only [perms, List.mem_flatMap]
    exact ⟨_, mem_perms n _ h2, mem_ins n a b⟩
noncomputable def ltR (r : List Nat) (i j : Nat) : Bool := decide (r.getD i 0 < r.getD j 0)
noncomputable def endR (n : Nat) (p : List Nat) (r : List Nat) : Bool := p.all (fun i => Nat.blt i n) && (p.map fun i => r.getD i 0) == List.range n
noncomputable def chkT (n : Nat) : KasT (Array Nat) → List (List Nat) → Bool
  | .ret p, cs => cs.all (endR n p.toList)
  | .ask i j k, cs => match cs with
    | [] => true
    | c :: cs => (i != j && Nat.blt i n && Nat.blt j n) && (chkT n (k true) ((c :: cs).filter fun r => ltR r i j) && chkT n (k false) ((c :: cs).filter fun r => !ltR r i j))
theorem chkT_ok {n : Nat} {r : List Nat} : ∀ (t : KasT (Array Nat)) (cs : List (List Nat)), chkT n t cs = true → r ∈ cs → ∃ p, goT (ltR r) n t = some p ∧ endR n p.toList r = true
  | .ret p, cs, h, hr => ⟨p, rfl, List.all_eq_true.mp (by simpa only [chkT] using h) r hr⟩
  | .ask i j k, [], _, hr => by cases hr
  | .ask i j k, c :: cs, h, hr => by
    simp only [chkT, Bool.and_eq_true, Nat.blt_eq] at h
    have hq : (i != j && decide (i < n) && decide (j < n)) = true := by simp only [Bool.and_eq_true, decide_eq_true_eq]; exact h.1
    simp only [goT, hq, if_true]
    cases hb : ltR r i j
    · exact chkT_ok (k false) _ h.2.2 (List.mem_filter.mpr ⟨hr, by rw [hb]; rfl⟩)
    · exact chkT_ok (k true) _ h.2.1 (List.mem_filter.mpr ⟨hr, hb⟩)
theorem chk2 : chkT 2 (kas_sort 2) (perms 2) = true := by decide +kernel
theorem chk3 : chkT 3 (kas_sort 3) (perms 3) = true := by decide +kernel
theorem chk4 : chkT 4 (kas_sort 4) (perms 4) = true := by decide +kernel
theorem chk5 : chkT 5 (kas_sort 5) (perms 5) = true := by decide +kernel
theorem chk6 : chkT 6 (kas_sort 6) (perms 6) = true := by decide +kernel
theorem chk_of {r : List Nat} (h : r.Perm (List.range r.length)) (h2 : 2 ≤ r.length) (h6 : r.length ≤ 6) : ∃ p, goT (ltR r) r.length (kas_sort r.length) = some p ∧ (∀ i ∈ p.toList, i < r.length) ∧ p.toList.map (fun i => r.getD i 0) = List.range r.length := by
  have hm := mem_perms _ _ h
  have hc : chkT r.length (kas_sort r.length) (perms r.length) = true := by
    generalize r.length = n at hm h2 h6
    obtain rfl | rfl | rfl | rfl | rfl : n = 2 ∨ n = 3 ∨ n = 4 ∨ n = 5 ∨ n = 6 := by omega
    · exact chk2
    · exact chk3
    · exact chk4
    · exact chk5
    · exact chk6
  refine ob1_2 (chkT_ok _ _ hc hm) fun p h1 h2 => ?_
  simp only [endR, Bool.and_eq_true, List.all_eq_true, Nat.blt_eq, beq_iff_eq] at h2
  exact ⟨p, h1, h2.1, h2.2⟩
theorem nodup_len : ∀ (l m : List Nat), l.Nodup → (∀ x ∈ l, x ∈ m) → l.length ≤ m.length
  | [], m, _, _ => by simp
  | x :: l, m, h, hs => by
    have hx := hs x (by simp)
    have h1 := nodup_len l (m.erase x) (List.nodup_cons.mp h).2 fun y hy => by
      have hne : y ≠ x := fun e => (List.nodup_cons.mp h).1 (e ▸ hy)
      exact (List.mem_erase_of_ne hne).mpr (hs y (by simp [hy]))
    rw [List.length_erase_of_mem hx] at h1
    have := List.length_pos_of_mem hx
    simp only [List.length_cons]; omega
theorem perm_range {l : List Nat} (h : l.Nodup) (hb : ∀ x ∈ l, x < l.length) : l.Perm (List.range l.length) := by
  refine (List.perm_ext_iff_of_nodup h List.nodup_range).mpr fun k => ⟨fun hk => List.mem_range.mpr (hb k hk), fun hk => ?_⟩
  have hk := List.mem_range.mp hk
  apply Classical.byContradiction
  intro hn
  have h1 := nodup_len (k :: l) (List.range l.length) (List.nodup_cons.mpr ⟨hn, h⟩) fun x hx => by
    rcases List.mem_cons.mp hx with rfl | hx
    · exact List.mem_range.mpr hk
    · exact List.mem_range.mpr (hb x hx)
  simp only [List.length_cons, List.length_range] at h1
  omega
noncomputable def rk (ks : List (List Nat)) (x : List Nat) : Nat := ks.countP fun z => decide (z < x)
theorem rk_le {x y : List Nat} (hxy : x < y) : ∀ ks : List (List Nat), rk ks x ≤ rk ks y := fun ks =>
  List.countP_mono_left fun z _ hz => by simp only [decide_eq_true_eq] at hz ⊢; exact List.lt_trans hz hxy
theorem rk_lt {x y : List Nat} (hxy : x < y) : ∀ ks : List (List Nat), x ∈ ks → rk ks x < rk ks y
  | [], h => by cases h
  | z :: ks, h => by
    unfold rk
    rw [List.countP_cons, List.countP_cons]
    have hle := rk_le hxy ks
    unfold rk at hle
    by_cases hz : z = x
    · subst hz
      simp only [List.lt_irrefl, decide_false, hxy, decide_true, if_true, Bool.false_eq_true, if_false]
      omega
    · have hx : x ∈ ks := by
        rcases List.mem_cons.mp h with h | h
        · exact absurd h.symm hz
        · exact h
      have hlt := rk_lt hxy ks hx
      unfold rk at hlt
      by_cases hzx : z < x
      · have hzy := List.lt_trans hzx hxy
        simp only [hzx, hzy, decide_true, if_true]; omega
      · simp only [hzx, decide_false, Bool.false_eq_true, if_false]
        split <;> omega
theorem lt_or {x y : List Nat} (h : x ≠ y) : x < y ∨ y < x := by
  by_cases h1 : x < y
  · exact .inl h1
  by_cases h2 : y < x
  · exact .inr h2
  · exact absurd (List.le_antisymm (List.not_lt.mp h2) (List.not_lt.mp h1)) h
theorem rk_iff {ks : List (List Nat)} {x y : List Nat} (hx : x ∈ ks) (hy : y ∈ ks) (h : x ≠ y) : (rk ks x < rk ks y) ↔ x < y := by
  constructor
  · intro hl
    rcases lt_or h with h | h
    · exact h
    · have := rk_lt h ks hy; omega
  · exact fun h => rk_lt h ks hx
theorem rk_inj {ks : List (List Nat)} {x y : List Nat} (hx : x ∈ ks) (hy : y ∈ ks) (h : rk ks x = rk ks y) : x = y := by
  apply Classical.byContradiction
  intro hn
  rcases lt_or hn with q | q
  · have := rk_lt q ks hx; omega
  · have := rk_lt q ks hy; omega
theorem rk_bound {ks : List (List Nat)} {x : List Nat} (hx : x ∈ ks) : rk ks x < ks.length := by
  have h1 : rk ks x ≤ ks.length := List.countP_le_length
  have h2 : rk ks x ≠ ks.length := fun e => by
    have := (List.countP_eq_length.mp e) x hx
    simp [List.lt_irrefl] at this
  omega
theorem ranks_perm {ks : List (List Nat)} (h : ks.Nodup) : (ks.map (rk ks)).Perm (List.range ks.length) := by
  have h1 : (ks.map (rk ks)).Nodup := by
    rw [List.Nodup, List.pairwise_map]
    refine List.Pairwise.imp_of_mem ?_ h
    intro x y hx hy hn e
    exact hn (rk_inj hx hy e)
  have := perm_range h1 (by
    intro x hx
    refine ob1_2 (List.mem_map.mp hx) fun y hy z0 => ?_; subst z0
    simpa using rk_bound hy)
  simpa using this
noncomputable abbrev keyR (r : Row) : List Nat := dirL r.1
noncomputable def sortR (rows : List Row) : List Row := (List.range rows.length).map fun i => (rows.find? fun r => rk (rows.map keyR) (keyR r) == i).getD default
theorem getD_idx {rows : List Row} {i : Nat} (h : i < rows.length) : rows.getD i default = rows[i] := by simp [h]
theorem sortR_of {rows : List Row} (hd : (rows.map keyR).Nodup) {p : List Nat} (hp : ∀ i ∈ p, i < rows.length) (e : p.map (fun i => ((rows.map keyR).map (rk (rows.map keyR))).getD i 0) = List.range rows.length) :
    sortR rows = p.map fun i => rows.getD i default := by
  unfold sortR
  rw [← e, List.map_map]
  refine List.map_congr_left fun i hi => ?_
  have hlt := hp i hi
  have h1 : ((rows.map keyR).map (rk (rows.map keyR))).getD i 0 = rk (rows.map keyR) (keyR rows[i]) := by simp [hlt]
  simp only [Function.comp_apply, h1, getD_idx hlt]
  cases hf : rows.find? fun r => rk (rows.map keyR) (keyR r) == rk (rows.map keyR) (keyR rows[i]) with
  | none =>
    have := List.find?_eq_none.mp hf rows[i] (List.getElem_mem hlt)
    simp at this
  | some r =>
    have hr := List.find?_some hf
    have hm := List.mem_of_find?_eq_some hf
    simp only [beq_iff_eq] at hr
    have hk : keyR r = keyR rows[i] := rk_inj (List.mem_map_of_mem hm) (List.mem_map_of_mem (List.getElem_mem hlt)) hr
    obtain ⟨j, hj, rfl⟩ := List.getElem_of_mem hm
    have hij : j = i := by
      have h3 := (List.getElem_inj (xs := rows.map keyR) (h₀ := by simpa using hj) (h₁ := by simpa using hlt) hd).mp (by simpa using hk)
      exact h3
    subst hij; rfl
section
variable {w : World} {k : Nat}
theorem sort_body {A : Around} {s : Shared} {a : Addr} {vs out : List Value} {n : Nat} {P : PySem.Fin → Shared → Prop} {E : Value → Shared → Prop} (ho : s.heap.get? a = some (seqObj "list" vs.toArray n)) (h6 : vs.length ≤ 6)
    (h1 : vs.length < 2 → out = vs)
    (h2 : 2 ≤ vs.length → ∀ s' : Shared, (∀ b o, b ≠ a → s.heap.get? b = some o → s'.heap.get? b = some o) →
      wpAny (model prg w) A (keyKind' vs.toArray) (fun κ s'' => (kas_sort vs.length).kasWp (kas_ask prg w.toWorld A κ vs) (fun p s3 => s3 = s' ∧ p.toList.map (fun i => vs.getD i Value.none) = out) s'') (fun _ _ => False) s')
    (h : ∀ h' c, (∀ b o, b ≠ a → s.heap.get? b = some o → h'.get? b = some o) → h'.get? a = some (lstO out c) → P (.done (.ret .none)) { s with heap := h' }) :
    wpAny (model prg w) A (Builtin.«list.sort» ⟨[.ref a], []⟩) P E s := by
  rw [list_sort_plain]
  have ha : a < s.heap.objs.size := Heap.lt_size ho
  refine wpAny_bind (listItems_at ho rfl ?_)
  refine wpAny_bind (listUpdate_at ho rfl ?_ (by rw [List.size_toArray, sizeLine_eq]; omega) (Nat.zero_le _))
  obtain ⟨e1, ho1⟩ : ∃ e1, (s.heap.update a (Obj.mapSeq fun _ => (#[] : Array Value))).get? a = some (seqObj "list" #[] e1) := ⟨_, get?_update_seq ho (fun _ => #[])⟩
  refine wpAny_bind (seqEpoch_at ho1 rfl ?_)
  refine wpAny_bind (wpAny_newTuple ?_ (by show vs.length ≤ _; rw [sizeLine_eq]; omega))
  refine wpAny_bind (wpAny_newList ?_ (Nat.zero_le _))
  refine wpAny_holding ?_
  have keep : ∀ b o, b ≠ a → s.heap.get? b = some o → (((s.heap.update a (Obj.mapSeq fun _ => (#[] : Array Value))).push (seqObj "tuple" vs.toArray 0)).push (seqObj "list" #[] 0)).get? b = some o := fun b o hb q =>
    Heap.get?_push_of_some _ (Heap.get?_push_of_some _ (by rw [Heap.get?_update_ne _ _ _ _ hb]; exact q))
  have ho6 : (((s.heap.update a (Obj.mapSeq fun _ => (#[] : Array Value))).push (seqObj "tuple" vs.toArray 0)).push (seqObj "list" #[] 0)).get? a = some (seqObj "list" #[] e1) :=
    Heap.get?_push_of_some _ (Heap.get?_push_of_some _ ho1)
  show wpAny (model prg w) A _ P E { s with heap := ((s.heap.update a (Obj.mapSeq fun _ => (#[] : Array Value))).push (seqObj "tuple" vs.toArray 0)).push (seqObj "list" #[] 0) }
  dsimp only
  have fin : P (.done (.ret .none)) { s with heap := (((s.heap.update a (Obj.mapSeq fun _ => (#[] : Array Value))).push (seqObj "tuple" vs.toArray 0)).push (seqObj "list" #[] 0)).update a (Obj.mapSeq fun _ => out.toArray) } :=
    h _ _ (fun b o hb q => by rw [Heap.get?_update_ne _ _ _ _ hb]; exact keep b o hb q) (get?_update_seq ho6 fun _ => out.toArray)
  by_cases hlt : vs.toArray.size < 2
  · rw [if_pos hlt, if_pos hlt]
    refine wpAny_bind (wpAny_pure ?_)
    rw [StateT.run_pure]
    refine wpAny_bind (wpAny_pure ?_)
    dsimp only
    have e : (arrOf (SortSt.mk' general' (vs.toArray.zip vs.toArray) #[] 7 none)).map (·.2) = out.toArray := by
      rw [h1 (by simpa using hlt)]
      show (vs.toArray.zip vs.toArray).map (·.2) = _
      apply Array.toList_inj.mp
      simp [List.map_snd_zip]
    rw [e]
    refine wpAny_bind (seqEpoch_at ho6 rfl ?_)
    refine wpAny_bind (listUpdate_at ho6 rfl ?_ (Nat.zero_le _) (by rw [h1 (by simpa using hlt), List.size_toArray, sizeLine_eq]; omega))
    simp only [bne_self_eq_false, Bool.false_eq_true, if_false]
    exact wpAny_pure fin
  · rw [if_neg hlt, if_neg hlt]
    have hl2 : 2 ≤ vs.length := by simpa using hlt
    refine wpAny_bind (wpAny_mono (h2 hl2 _ keep) (fun κ s0 hk => ?_) fun _ _ x => x.elim)
    refine wpAny_bind (wpAny_mono (kat_run (Q := fun st' s' => ∃ p : Array Nat, p.size = vs.length ∧ arrOf st' = p.map (kas_item (vs.toArray.zip vs.toArray)) ∧ failedOf st' = none ∧
      s' = { s with heap := ((s.heap.update a (Obj.mapSeq fun _ => (#[] : Array Value))).push (seqObj "tuple" vs.toArray 0)).push (seqObj "list" #[] 0) } ∧ p.toList.map (fun i => vs.getD i Value.none) = out)
      rfl hl2 (by omega) (fun p' st' s' a1 a2 a3 a4 => ⟨p', a1, a2, a3, a4.1, a4.2⟩) hk) ?_ fun _ _ e => e)
    rintro ⟨⟨⟩, st'⟩ s' ⟨p, hp, har, hf, rfl, ho'⟩
    dsimp only
    have hout := kat_snds rfl har
    rw [hout, ho']
    have hsz : out.length = vs.length := by rw [← ho', List.length_map, Array.length_toList, hp]
    refine wpAny_bind (seqEpoch_at ho6 rfl ?_)
    refine wpAny_bind (listUpdate_at ho6 rfl ?_ (Nat.zero_le _) (by rw [List.size_toArray, hsz, sizeLine_eq]; omega))
    rw [hf]
    simp only [bne_self_eq_false, Bool.false_eq_true, if_false]
    exact wpAny_pure fin
theorem sorted_body {A : Around} {s : Shared} {l : Addr} {vs out : List Value} {Q : Value → Shared → Prop} {E : Value → Shared → Prop} (hl : s.heap.IsList l vs.toArray) (h6 : vs.length ≤ 6)
    (h1 : vs.length < 2 → out = vs)
    (h2 : 2 ≤ vs.length → ∀ s' : Shared, (∀ b o, s.heap.get? b = some o → s'.heap.get? b = some o) →
      wpAny (model prg w) A.in1.in1 (keyKind' vs.toArray) (fun κ s'' => (kas_sort vs.length).kasWp (kas_ask prg w.toWorld A.in1.in1 κ vs) (fun p s3 => s3 = s' ∧ p.toList.map (fun i => vs.getD i Value.none) = out) s'') (fun _ _ => False) s')
    (h : ∀ D h' c, s.heap.get? D = none → (∀ b o, s.heap.get? b = some o → h'.get? b = some o) → h'.get? D = some (lstO out c) → Q (.ref D) { s with heap := h' }) :
    wpAny (model prg w) A (call (.builtin "sorted") [.ref l]) Q E s := by
  refine Calls.call_function_entry kind_sorted plain_sorted entry_sorted (args_sorted1 _) ?_
  unfold Builtin.«sorted»
  refine wpAny_bind (m := checkCount "sorted" 1 1 _) (wpAny_pure ?_)
  refine wpAny_bind (collect_list hl ?_ (by rw [sizeLine_eq]; omega))
  refine wpAny_bind (wpAny_newList ?_ (by rw [sizeLine_eq]; omega))
  have hsz : ((s.heap.push (seqObj "list" #[] 0)).update s.heap.objs.size (Obj.mapSeq (· ++ vs.toArray))).objs.size = s.heap.objs.size + 1 := by
    rw [Heap.size_update, size_push']
  have hoL : (((s.heap.push (seqObj "list" #[] 0)).update s.heap.objs.size (Obj.mapSeq (· ++ vs.toArray))).push (seqObj "list" vs.toArray 0)).get? (s.heap.objs.size + 1) = some (seqObj "list" vs.toArray 0) := by
    rw [← hsz]; exact Heap.get?_push_size _ rfl
  have keep : ∀ b o, s.heap.get? b = some o → (((s.heap.push (seqObj "list" #[] 0)).update s.heap.objs.size (Obj.mapSeq (· ++ vs.toArray))).push (seqObj "list" vs.toArray 0)).get? b = some o := fun b o q => by
    have hlt : b < s.heap.objs.size := Heap.lt_size q
    rw [Heap.get?_push_ne _ _ _ (by rw [hsz]; exact Nat.ne_of_lt (Nat.lt_succ_of_lt hlt)), Heap.get?_update_ne _ _ _ _ (Nat.ne_of_lt hlt), Heap.get?_push_ne _ _ _ (Nat.ne_of_lt hlt)]
    exact q
  show wpAny _ _ _ _ _ { s with heap := ((s.heap.push (seqObj "list" #[] 0)).update s.heap.objs.size (Obj.mapSeq (· ++ vs.toArray))).push (seqObj "list" vs.toArray 0) }
  rw [hsz]
  refine wpAny_bind (wpAny_holding (wpAny_call_entry slot_list_sort ⟨_, hoL, rfl⟩ entry_list_sort ?body (args_list_sort _)))
  case body =>
    refine sort_body (out := out) (s := { s with heap := ((s.heap.push (seqObj "list" #[] 0)).update s.heap.objs.size (Obj.mapSeq (· ++ vs.toArray))).push (seqObj "list" vs.toArray 0) }) hoL h6 h1
      (fun hl2 s' k' => h2 hl2 s' fun b o q => k' b o (Nat.ne_of_lt (Nat.lt_succ_of_lt (Heap.lt_size q))) (keep b o q)) fun h' c k' hD => ?_
    refine ⟨_, rfl, wpAny_pure ⟨_, rfl, ?_⟩⟩
    exact h _ h' c (Heap.get?_none_of_le (Nat.le_succ _)) (fun b o q => k' b o (Nat.ne_of_lt (Nat.lt_succ_of_lt (Heap.lt_size q))) (keep b o q)) hD
theorem rows_of {f : Fz} : ∀ {rows : List Row} {vs : List Value}, RelL f (rows.map rowT) vs → ∀ i, (hi : i < rows.length) → ∃ a t, vs.getD i Value.none = .ref a ∧ f a = some (tupO [.str (dirS rows[i].1) t, .bool rows[i].2])
  | [], vs, r, i, hi => by simp at hi
  | row :: rows, vs, r, i, hi => by
    simp only [List.map_cons, RelL] at r
    refine ob2_3 r fun y r' z0 ry rr => ?_; clear r; subst z0
    cases i with
    | zero =>
      refine ob2_3 (rel_tup.mp ry) fun a us z0 ha rl => ?_; subst z0
      refine ob2_3 (relL2 rl) fun x z z0 rx rz => ?_; subst z0
      refine ob1_1 (rel_str.mp rx) fun t z0 => ?_; subst z0
      obtain rfl := rel_bool.mp rz
      exact ⟨a, t, rfl, ha⟩
    | succ i => exact rows_of rr i (by simpa using hi)
theorem tups_of {f : Fz} {h : Heap} (hf : ∀ a o, f a = some o → h.get? a = some o) : ∀ {rows : List Row} {vs : List Value}, RelL f (rows.map rowT) vs →
    ∃ fs, fs.length = rows.length ∧ KatTups h vs fs ∧ ∀ v ∈ fs, ∃ x t, v = .str x t
  | [], vs, r => by simp only [List.map_nil, RelL] at r; subst r; exact ⟨[], rfl, trivial, by simp⟩
  | row :: rows, vs, r => by
    simp only [List.map_cons, RelL] at r
    refine ob2_3 r fun y r' z0 ry rr => ?_; clear r; subst z0
    refine ob2_3 (rel_tup.mp ry) fun a us z0 ha rl => ?_; subst z0
    refine ob2_3 (relL2 rl) fun x z z0 rx rz => ?_; subst z0
    refine ob1_1 (rel_str.mp rx) fun t z0 => ?_; subst z0
    refine ob1_3 (tups_of hf rr) fun fs h1 h2 h3 => ?_
    refine ⟨.str _ t :: fs, by simp [h1], KatTups.cons (hf _ _ ha) rfl rfl rfl h2, fun v hv => ?_⟩
    rcases List.mem_cons.mp hv with rfl | hv
    · exact ⟨_, t, rfl⟩
    · exact h3 v hv
theorem relL_pick {f : Fz} {rows : List Row} {vs : List Value} (r : RelL f (rows.map rowT) vs) : ∀ (p : List Nat), (∀ i ∈ p, i < rows.length) → RelL f ((p.map fun i => rows.getD i default).map rowT) (p.map fun i => vs.getD i Value.none)
  | [], _ => RelL.nil
  | i :: p, hp => by
    have hi := hp i (by simp)
    refine ob2_2 (rows_of r i hi) fun a t e ha => ?_
    refine RelL.cons ?_ (relL_pick r p fun j hj => hp j (by simp [hj]))
    show Rel f (rowT (rows.getD i default)) (vs.getD i Value.none)
    rw [e, getD_idx hi]
    exact rel_tup.mpr ⟨a, _, rfl, ha, RelL.cons relS (RelL.cons relB RelL.nil)⟩
theorem sortR_few {rows : List Row} (h : rows.length < 2) : sortR rows = rows := by
  match rows, h with
  | [], _ => rfl
  | [r], _ => simp [sortR, rk, List.lt_irrefl, List.range_succ]
theorem c_sorted {rows : List Row} (hd : (rows.map keyR).Nodup) (hn : rows.length ≤ 6) : CallOk w (k + 2) (.bi "sorted") [.lst (rows.map rowT)] (.lst ((sortR rows).map rowT)) := fun A f s vf vs rm ok rf ra Q E hQ => by
  obtain rfl := rel_bi.mp rf
  refine ob1_2 (relL1 ra) fun x z0 rx => ?_; subst z0
  refine ob3_3 (rel_lst.mp rx) fun l xs n z0 ha rl => ?_; subst z0
  have hlen : xs.length = rows.length := by rw [rl.length, List.length_map]
  have fin : ∀ {out : List Value}, RelL f ((sortR rows).map rowT) out → ∀ D h' c, s.heap.get? D = none → (∀ b o, s.heap.get? b = some o → h'.get? b = some o) → h'.get? D = some (lstO out c) → Q (.ref D) { s with heap := h' } := fun hr D h' c hD hk hO => by
    have g : Grew f s (f.add D (lstO _ c)) { s with heap := h', toks := s.toks } := Grew.add ok.sub hk hD hO
    exact hQ _ _ _ g (rel_lst.mpr ⟨_, _, c, rfl, Fz.add_self .., hr.mono g.le⟩)
  by_cases h2 : rows.length < 2
  · refine sorted_body (out := xs) (isList_of (ok.sub _ _ ha)) (by omega) (fun _ => rfl) (fun h => by omega) (fin ?_)
    rw [sortR_few h2]; exact rl
  · have hL : ((rows.map keyR).map (rk (rows.map keyR))).length = rows.length := by simp
    refine ob1_3 (chk_of (r := (rows.map keyR).map (rk (rows.map keyR))) (by rw [hL]; simpa using ranks_perm hd) (by rw [hL]; omega) (by rw [hL]; omega)) fun p hp1 hp2 hp3 => ?_
    rw [hL] at hp1 hp2 hp3
    refine sorted_body (out := p.toList.map fun i => xs.getD i Value.none) (isList_of (ok.sub _ _ ha)) (by omega) (fun h => by omega) (fun hl2 s' k' => ?_) (fin (by rw [sortR_of hd hp2 hp3]; exact relL_pick rl _ hp2))
    have hsub : ∀ a o, f a = some o → s'.heap.get? a = some o := fun a o e => k' _ _ (ok.sub _ _ e)
    refine ob1_3 (tups_of hsub rl) fun fs hf1 hf2 hf3 => ?_
    refine kat_kind hf2 (by omega) (T := .type "str") (fun v hv => ?_) rfl ?_
    · refine ob2_1 (hf3 v hv) fun x t z0 => ?_; subst z0
      exact Looks.of_pure rfl
    rw [hlen]
    refine kasWp_go (lt := ltR ((rows.map keyR).map (rk (rows.map keyR)))) (n := rows.length) (fun i j C hij hi hj hC => ?_) _ p hp1 ⟨rfl, rfl⟩
    refine ob2_2 (rows_of rl i hi) fun x t ex hx => ?_
    refine ob2_2 (rows_of rl j hj) fun y u ey hy => ?_
    unfold kas_ask
    rw [ex, ey]
    have hne : keyR rows[i] ≠ keyR rows[j] := fun e => hij ((List.getElem_inj (xs := rows.map keyR) (h₀ := by simpa using hi) (h₁ := by simpa using hj) hd).mp (by simpa using e))
    refine kat_lt (hsub _ _ hx) rfl (hsub _ _ hy) rfl (kat_cons (wpAny_eqBool_str ?_))
    have hd0 : decide (dirS rows[i].1 = dirS rows[j].1) = false := by
      rw [decide_eq_false_iff_not]; exact fun e => hne (S_inj e)
    rw [hd0]
    refine kat_no (oneLt_str ?_)
    have hlt : ltR ((rows.map keyR).map (rk (rows.map keyR))) i j = decide ((dirS rows[i].1).cps.toList < (dirS rows[j].1).cps.toList) := by
      unfold ltR
      have h1 : ((rows.map keyR).map (rk (rows.map keyR))).getD i 0 = rk (rows.map keyR) (keyR rows[i]) := by simp [hi]
      have h2 : ((rows.map keyR).map (rk (rows.map keyR))).getD j 0 = rk (rows.map keyR) (keyR rows[j]) := by simp [hj]
      rw [h1, h2]
      refine decide_eq_decide.mpr ?_
      rw [rk_iff (List.mem_map_of_mem (List.getElem_mem hi)) (List.mem_map_of_mem (List.getElem_mem hj)) hne]
      simp [dirS, S, keyR]
    rw [← hlt]; exact hC
end
noncomputable def sg (v : Nat) : Nat := (b64L.getD v 61).toNat
noncomputable def nmv (v : Nat) : Nat := if sg v = 47 then 95 else sg v
noncomputable def writN (c : Nat) : List Nat := [sg (valN c 0), sg (valN c 1), sg (valN c 2), sg (valN c 3)]
noncomputable def nameN (c : Nat) : List Nat := [nmv (valN c 0), nmv (valN c 1), nmv (valN c 2), nmv (valN c 3)]
noncomputable def codeN (c : Nat) : Nat := valN c 0 * 2097152 + valN c 1 * 16384 + valN c 2 * 128 + valN c 3
noncomputable def signsL : Str := "ABCDEFGHIJKLMNOPQRSTUVWXYZabcdefghijklmnopqrstuvwxyz0123456789+/="
theorem all_lt {n : Nat} {P : Nat → Bool} (h : (List.range n).all P = true) {v : Nat} (hv : v < n) : P v = true := List.all_eq_true.mp h v (List.mem_range.mpr hv)
theorem signs_at {v : Nat} (h : v < 65) : signsL.cps[v]? = some (sg v) := by
  have := all_lt (P := fun v => signsL.cps[v]? == some (sg v)) (n := 65) (by decide +kernel) h
  simpa using this
theorem sg_lt {v : Nat} (h : v < 65) : sg v < 128 := by
  have := all_lt (P := fun v => decide (sg v < 128)) (n := 65) (by decide +kernel) h
  simpa using this
theorem nmv_plain {v : Nat} (h : v < 65) : nmv v ≠ 47 ∧ nmv v ≠ 46 := by
  have := all_lt (P := fun v => nmv v != 47 && nmv v != 46) (n := 65) (by decide +kernel) h
  simpa using this
theorem nmv_inj {v u : Nat} (h : v < 65) (h' : u < 65) (e : nmv v = nmv u) : v = u := by
  have h1 := all_lt (P := fun v => (List.range 65).all fun u => nmv v != nmv u || v == u) (n := 65) (by decide +kernel) h
  have := all_lt h1 h'
  simp only [Bool.or_eq_true, bne_iff_ne, ne_eq, beq_iff_eq] at this
  rcases this with q | q
  · exact absurd e q
  · exact q
theorem val_lt (c i : Nat) : valN c i < 65 := by
  unfold valN; split
  · have := Nat.mod_lt (keptN c / 2 ^ (18 - 6 * i)) (show 64 > 0 by decide); omega
  · decide
theorem sgn_nat {v : Nat} (h : v < 64) : sgn ((v : Nat) : Int) = ((sg v : Nat) : Int) := by
  unfold sgn sg
  have hl := b64L_len
  rw [Int.toNat_natCast]
  congr 2
  have hv : v < b64L.length := by omega
  simp [hv]
theorem sg64 : sg 64 = 61 := by decide +kernel
theorem nx_nat (c : Nat) (b : UInt8) : nx ((c : Nat) : Int) b = (((c * 256 + b.toNat) % 65536 : Nat) : Int) := by unfold nx; omega
theorem s_of {i : Int} {v : Nat} (e : i = ((v : Nat) : Int)) (h : v < 64) : sgn i = ((sg v : Nat) : Int) := by rw [e]; exact sgn_nat h
theorem u8 {n : Nat} (h : n < 256) : n.toUInt8.toNat = n := by simp; omega
theorem dm (x p q : Nat) : Int.fdiv (x : Int) (p : Int) % (q : Int) = ((x / p % q : Nat) : Int) := by rw [fdivN]; rfl
theorem nxA {a : Nat} (h : a < 256) : nx 0 a.toUInt8 = ((a : Nat) : Int) := by
  have := nx_nat 0 a.toUInt8
  rw [u8 h, Nat.zero_mul, Nat.zero_add, Nat.mod_eq_of_lt (Nat.lt_trans h (by decide))] at this
  exact this
theorem nxB {b : Nat} (h : b < 65536) : nx ((b / 256 : Nat) : Int) (b % 256).toUInt8 = ((b : Nat) : Int) := by
  rw [nx_nat, u8 (Nat.mod_lt _ (by decide)), Nat.div_add_mod', Nat.mod_eq_of_lt h]
theorem nxC (m : Nat) : nx ((m / 256 : Nat) : Int) (m % 256).toUInt8 = ((m % 65536 : Nat) : Int) := by
  rw [nx_nat, u8 (Nat.mod_lt _ (by decide)), Nat.div_add_mod']
theorem list4 {α : Type} {a b c d a' b' c' d' : α} (h1 : a = a') (h2 : b = b') (h3 : c = c') (h4 : d = d') : [a, b, c, d] = [a', b', c', d'] := h1 ▸ h2 ▸ h3 ▸ h4 ▸ rfl
theorem kept_of {c p : Nat} (h : 256 ^ (3 - szN c) = p) : keptN c = numN c / p * p := by unfold keptN; rw [h]; exact (Nat.div_mul_self_eq_mod_sub_self).symm
theorem val_of {c i k p : Nat} (h : i ≤ szN c) (hk : keptN c = k) (hp : 2 ^ (18 - 6 * i) = p) : valN c i = k / p % 64 := by unfold valN; rw [if_pos h, hk, hp]
theorem val_no {c i : Nat} (h : ¬ i ≤ szN c) : valN c i = 64 := if_neg h
theorem enc_vals (c : Nat) : encI (octsN c) = (writN c).map fun v => ((v : Nat) : Int) := by
  have hN := numN_lt c
  have hA : numN c / 65536 < 256 := Nat.div_lt_of_lt_mul hN
  have hB : numN c / 256 < 65536 := Nat.div_lt_of_lt_mul hN
  have eA : numN c / 65536 = numN c / 256 / 256 := (Nat.div_div_eq_div_mul _ 256 256).symm
  have m64 : ∀ x : Nat, x % 64 < 64 := fun x => Nat.mod_lt _ (by decide)
  have q64 : ((sg 64 : Nat) : Int) = 61 := by rw [sg64]; rfl
  have n1 := nxA hA
  have n2 : nx ((numN c / 65536 : Nat) : Int) (numN c / 256 % 256).toUInt8 = ((numN c / 256 : Nat) : Int) := by rw [eA]; exact nxB hB
  rcases szN_cases c with h | h | h
  · have ho : octsN c = [(numN c / 65536).toUInt8] := by unfold octsN; rw [h]; rfl
    have kp := kept_of (c := c) (p := 65536) (by rw [h])
    have v0 : valN c 0 = numN c / 65536 / 4 % 64 := by rw [val_of (Nat.zero_le _) kp (p := 4 * 65536) rfl, Nat.mul_div_mul_right _ _ (by decide)]
    have v1 : valN c 1 = numN c / 65536 % 4 * 16 := by
      rw [val_of (by rw [h]; exact Nat.le_refl _) kp (p := 4096) rfl, show (65536 : Nat) = 16 * 4096 from rfl, ← Nat.mul_assoc, Nat.mul_div_cancel _ (by decide)]
      exact Nat.mul_mod_mul_right 16 (numN c / (16 * 4096)) 4
    rw [ho]
    refine list4 (s_of (v := valN c 0) ?_ (v0 ▸ m64 _)) (s_of (v := valN c 1) ?_ ?_) ?_ ?_
    · rw [n1, v0]; exact dm _ 4 64
    · rw [n1, v1]; rfl
    · rw [v1]; exact Nat.mul_lt_mul_of_pos_right (Nat.mod_lt _ (by decide) : _ < 4) (by decide : 0 < 16)
    · rw [val_no (by rw [h]; decide)]; exact q64.symm
    · rw [val_no (by rw [h]; decide)]; exact q64.symm
  · have ho : octsN c = [(numN c / 65536).toUInt8, (numN c / 256 % 256).toUInt8] := by unfold octsN; rw [h]; rfl
    have kp := kept_of (c := c) (p := 256) (by rw [h])
    have v0 : valN c 0 = numN c / 65536 / 4 % 64 := by rw [val_of (Nat.zero_le _) kp (p := 1024 * 256) rfl, Nat.mul_div_mul_right _ _ (by decide), Nat.div_div_eq_div_mul, Nat.div_div_eq_div_mul]
    have v1 : valN c 1 = numN c / 256 / 16 % 64 := by rw [val_of (by rw [h]; decide) kp (p := 16 * 256) rfl, Nat.mul_div_mul_right _ _ (by decide)]
    have v2 : valN c 2 = numN c / 256 % 16 * 4 := by
      rw [val_of (by rw [h]; exact Nat.le_refl _) kp (p := 64) rfl, show (256 : Nat) = 4 * 64 from rfl, ← Nat.mul_assoc, Nat.mul_div_cancel _ (by decide)]
      exact Nat.mul_mod_mul_right 4 (numN c / (4 * 64)) 16
    rw [ho]
    refine list4 (s_of (v := valN c 0) ?_ (v0 ▸ m64 _)) (s_of (v := valN c 1) ?_ (v1 ▸ m64 _)) (s_of (v := valN c 2) ?_ ?_) ?_
    · rw [n1, v0]; exact dm _ 4 64
    · rw [n1, n2, v1]; exact dm _ 16 64
    · rw [n1, n2, v2]; rfl
    · rw [v2]; exact Nat.mul_lt_mul_of_pos_right (Nat.mod_lt _ (by decide) : _ < 16) (by decide : 0 < 4)
    · rw [val_no (by rw [h]; decide)]; exact q64.symm
  · have ho : octsN c = [(numN c / 65536).toUInt8, (numN c / 256 % 256).toUInt8, (numN c % 256).toUInt8] := by unfold octsN; rw [h]; rfl
    have kp := kept_of (c := c) (p := 1) (by rw [h])
    rw [Nat.div_one, Nat.mul_one] at kp
    have v0 : valN c 0 = numN c / 65536 / 4 % 64 := by rw [val_of (Nat.zero_le _) kp (p := 65536 * 4) rfl, Nat.div_div_eq_div_mul]
    have v1 : valN c 1 = numN c / 256 / 16 % 64 := by rw [val_of (by rw [h]; decide) kp (p := 256 * 16) rfl, Nat.div_div_eq_div_mul]
    have v2 : valN c 2 = numN c / 64 % 64 := val_of (by rw [h]; decide) kp rfl
    have v3 : valN c 3 = numN c % 64 := by rw [val_of (by rw [h]; exact Nat.le_refl _) kp (p := 1) rfl, Nat.div_one]
    rw [ho]
    refine list4 (s_of (v := valN c 0) ?_ (v0 ▸ m64 _)) (s_of (v := valN c 1) ?_ (v1 ▸ m64 _)) (s_of (v := valN c 2) ?_ (v2 ▸ m64 _)) (s_of (v := valN c 3) ?_ (v3 ▸ m64 _))
    · rw [n1, v0]; exact dm _ 4 64
    · rw [n1, n2, v1]; exact dm _ 16 64
    · rw [n1, n2, nxC, v2]; refine (dm _ 64 64).trans ?_
      rw [Nat.mod_mul_right_div_self (numN c) 64 1024, Nat.mod_mod_of_dvd _ (by decide)]
    · rw [n1, n2, nxC, v3]; refine (dm _ 1 64).trans ?_
      rw [Nat.div_one, Nat.mod_mod_of_dvd _ (by decide)]
theorem enc_byt (c : Nat) : byteArr (encI (octsN c)) = byt4 (sg (valN c 0)) (sg (valN c 1)) (sg (valN c 2)) (sg (valN c 3)) := by
  rw [enc_vals]
  unfold byteArr writN byt4
  simp only [List.map_cons, List.map_nil, Int.toNat_natCast]
theorem name_plain (c : Nat) : Plain (nameN c) := fun x hx => by
  simp only [nameN, List.mem_cons, List.not_mem_nil, or_false] at hx
  rcases hx with rfl | rfl | rfl | rfl <;> exact nmv_plain (val_lt _ _)
theorem name_of_writ (c : Nat) : (writN c).map (fun c => if c = 47 then 95 else c) = nameN c := rfl
theorem name_len (c : Nat) : (nameN c).length = 4 := rfl
theorem dg {x y : Nat} (h : y < 65) : (x * 128 + y) / 128 = x := by omega
theorem dq {x y x' y' : Nat} (h : y < 65) (h' : y' < 65) : x * 128 + y = x' * 128 + y' ↔ x = x' ∧ y = y' := by omega
theorem hq1 (c : Nat) : codeN c = ((valN c 0 * 128 + valN c 1) * 128 + valN c 2) * 128 + valN c 3 := by
  unfold codeN
  rw [Nat.add_mul, Nat.add_mul, Nat.add_mul, Nat.mul_assoc, Nat.mul_assoc, Nat.mul_assoc]
theorem hq2 (c : Nat) : codeN c / 128 = (valN c 0 * 128 + valN c 1) * 128 + valN c 2 := by rw [hq1, dg (val_lt c 3)]
theorem hq3 (c : Nat) : codeN c / 16384 = valN c 0 * 128 + valN c 1 := by rw [show (16384 : Nat) = 128 * 128 from rfl, ← Nat.div_div_eq_div_mul, hq2, dg (val_lt c 2)]
theorem hq4 (c : Nat) : codeN c / 2097152 = valN c 0 := by rw [show (2097152 : Nat) = 16384 * 128 from rfl, ← Nat.div_div_eq_div_mul, hq3, dg (val_lt c 1)]
theorem hq5 (c : Nat) : codeN c / 268435456 = 0 := by rw [show (268435456 : Nat) = 2097152 * 128 from rfl, ← Nat.div_div_eq_div_mul, hq4]; exact Nat.div_eq_of_lt (Nat.lt_trans (val_lt c 0) (by decide))
theorem nm_iff (c d i : Nat) : nmv (valN c i) = nmv (valN d i) ↔ valN c i = valN d i := ⟨nmv_inj (val_lt c i) (val_lt d i), fun e => by rw [e]⟩
theorem cons_iff {a b : Nat} {l m : List Nat} {p q : Prop} (h1 : a = b ↔ p) (h2 : l = m ↔ q) : a :: l = b :: m ↔ p ∧ q := ⟨fun e => ⟨h1.mp (List.cons.inj e).1, h2.mp (List.cons.inj e).2⟩, fun h => by rw [h1.mpr h.1, h2.mpr h.2]⟩
theorem nil_iff {l : List Nat} : l = l ↔ True := ⟨fun _ => trivial, fun _ => rfl⟩
theorem pre_iff (c d n : Nat) (hn : n ≤ 4) : codeN c / 2 ^ (7 * (4 - n)) = codeN d / 2 ^ (7 * (4 - n)) ↔ (nameN c).take n = (nameN d).take n := by
  have n0 := nm_iff c d 0; have n1 := nm_iff c d 1; have n2 := nm_iff c d 2; have n3 := nm_iff c d 3
  have b1 := val_lt c 1; have b2 := val_lt c 2; have b3 := val_lt c 3
  have d1 := val_lt d 1; have d2 := val_lt d 2; have d3 := val_lt d 3
  match n, hn with
  | 0, _ => exact ⟨fun _ => rfl, fun _ => (hq5 c).trans (hq5 d).symm⟩
  | 1, _ =>
    refine Iff.trans ?_ (cons_iff n0 nil_iff).symm
    show codeN c / 2097152 = codeN d / 2097152 ↔ _
    rw [hq4, hq4, and_true]
  | 2, _ =>
    refine Iff.trans ?_ (cons_iff n0 (cons_iff n1 nil_iff)).symm
    show codeN c / 16384 = codeN d / 16384 ↔ _
    rw [hq3, hq3, dq b1 d1, and_true]
  | 3, _ =>
    refine Iff.trans ?_ (cons_iff n0 (cons_iff n1 (cons_iff n2 nil_iff))).symm
    show codeN c / 128 = codeN d / 128 ↔ _
    rw [hq2, hq2, dq b2 d2, dq b1 d1, and_true, and_assoc]
  | 4, _ =>
    refine Iff.trans ?_ (cons_iff n0 (cons_iff n1 (cons_iff n2 (cons_iff n3 nil_iff)))).symm
    show codeN c / 1 = codeN d / 1 ↔ _
    rw [Nat.div_one, Nat.div_one, hq1, hq1, dq b3 d3, dq b2 d2, dq b1 d1, and_true, and_assoc, and_assoc]
theorem com_take : ∀ (a b : List Nat) (n : Nat), n ≤ a.length → n ≤ b.length → a.take n = b.take n → (n = a.length ∨ n = b.length ∨ a.take (n + 1) ≠ b.take (n + 1)) → com a b = a.take n
  | [], b, n, h, _, _, _ => by simp at h; subst h; cases b <;> rfl
  | a :: as, [], n, _, h, _, _ => by simp at h; subst h; rfl
  | a :: as, b :: bs, 0, _, _, _, h => by
    have hab : a ≠ b := by
      rcases h with h | h | h
      · cases h
      · cases h
      · intro e; subst e; exact h rfl
    simp only [com, if_neg hab, List.take_zero]
  | a :: as, b :: bs, n + 1, h1, h2, h3, h4 => by
    simp only [List.take_succ_cons, List.cons.injEq] at h3
    obtain ⟨rfl, h3⟩ := h3
    have ih := com_take as bs n (by simpa using h1) (by simpa using h2) h3 (by
      rcases h4 with h | h | h
      · left; simpa using h
      · right; left; simpa using h
      · right; right; intro e; exact h (by rw [List.take_succ_cons, List.take_succ_cons, e]))
    simp only [com, if_true, ih, List.take_succ_cons]
noncomputable def sharedN (c d : Nat) : Nat := ((List.range 4).filter fun i => codeN c / 2 ^ (7 * i) == codeN d / 2 ^ (7 * i)).length
theorem take_mono {a b : List Nat} {n m : Nat} (h : a.take n = b.take n) (hm : m ≤ n) : a.take m = b.take m := by
  have := congrArg (List.take m) h
  simpa [List.take_take, Nat.min_eq_left hm] using this
theorem com_names (c d : Nat) : com (nameN c) (nameN d) = (nameN c).take (sharedN c d) := by
  have p : ∀ n, n ≤ 4 → (codeN c / 2 ^ (7 * (4 - n)) == codeN d / 2 ^ (7 * (4 - n))) = decide ((nameN c).take n = (nameN d).take n) := fun n hn => by
    rw [Bool.eq_iff_iff]; simp only [beq_iff_eq, decide_eq_true_eq]; exact pre_iff c d n hn
  have p0 := p 4 (by decide); have p1 := p 3 (by decide); have p2 := p 2 (by decide); have p3 := p 1 (by decide)
  simp only [Nat.sub_self] at p0
  have e : sharedN c d = (if (nameN c).take 4 = (nameN d).take 4 then 1 else 0) + (if (nameN c).take 3 = (nameN d).take 3 then 1 else 0) + (if (nameN c).take 2 = (nameN d).take 2 then 1 else 0) + (if (nameN c).take 1 = (nameN d).take 1 then 1 else 0) := by
    unfold sharedN
    rw [← List.countP_eq_length_filter]
    simp only [show List.range 4 = [0, 1, 2, 3] from rfl, List.countP_cons, List.countP_nil]
    simp only [show (7 * (4 - 3)) = 7 * 1 from rfl, show (7 * (4 - 2)) = 7 * 2 from rfl, show (7 * (4 - 1)) = 7 * 3 from rfl] at p1 p2 p3
    rw [p0, p1, p2, p3]
    simp only [decide_eq_true_eq]
    omega
  rw [e]
  have t : ∀ n m, (nameN c).take n = (nameN d).take n → m ≤ n → (nameN c).take m = (nameN d).take m := fun n m h hm => take_mono h hm
  by_cases h1 : (nameN c).take 1 = (nameN d).take 1
  · by_cases h2 : (nameN c).take 2 = (nameN d).take 2
    · by_cases h3 : (nameN c).take 3 = (nameN d).take 3
      · by_cases h4 : (nameN c).take 4 = (nameN d).take 4
        · rw [if_pos h1, if_pos h2, if_pos h3, if_pos h4]
          exact com_take _ _ 4 (by rw [name_len]; omega) (by rw [name_len]; omega) h4 (.inl rfl)
        · rw [if_pos h1, if_pos h2, if_pos h3, if_neg h4]
          exact com_take _ _ 3 (by rw [name_len]; omega) (by rw [name_len]; omega) h3 (.inr (.inr h4))
      · have h4 : ¬ (nameN c).take 4 = (nameN d).take 4 := fun e => h3 (t 4 3 e (by decide))
        rw [if_pos h1, if_pos h2, if_neg h3, if_neg h4]
        exact com_take _ _ 2 (by rw [name_len]; omega) (by rw [name_len]; omega) h2 (.inr (.inr h3))
    · have h3 : ¬ (nameN c).take 3 = (nameN d).take 3 := fun e => h2 (t 3 2 e (by decide))
      have h4 : ¬ (nameN c).take 4 = (nameN d).take 4 := fun e => h2 (t 4 2 e (by decide))
      rw [if_pos h1, if_neg h2, if_neg h3, if_neg h4]
      exact com_take _ _ 1 (by rw [name_len]; omega) (by rw [name_len]; omega) h1 (.inr (.inr h2))
  · have h2 : ¬ (nameN c).take 2 = (nameN d).take 2 := fun e => h1 (t 2 1 e (by decide))
    have h3 : ¬ (nameN c).take 3 = (nameN d).take 3 := fun e => h1 (t 3 1 e (by decide))
    have h4 : ¬ (nameN c).take 4 = (nameN d).take 4 := fun e => h1 (t 4 1 e (by decide))
    rw [if_neg h1, if_neg h2, if_neg h3, if_neg h4]
    exact com_take _ _ 0 (by rw [name_len]; omega) (by rw [name_len]; omega) rfl (.inr (.inr h1))
noncomputable def envN (nm : List (Str × NameKind)) : Env := { scope := { kind := .function, names := nm, isGenerator := false, isCoroutine := false }, locals := 0, globals := 0, cells := [] }
theorem swap_env {ts : List Expr} {v : Expr} {env : Env} {nm : List (Str × NameKind)} (h1 : env.scope.names = nm) (h2 : env.scope.kind = .function) : swappedStores ts v env = swappedStores ts v (envN nm) := by
  obtain ⟨⟨_, _⟩⟩ := env
  dsimp only at h1 h2
  subst h1 h2
  rfl
section
variable {w : World} {k : Nat} {nm : List (Str × NameKind)} {ρ : Rho} {σ : Sig} {Φ : Rho → Sig → Fl → Prop}
theorem x1_own3 {x y z : Str} {px py pz tpos lx ly lz vpos pos : Pos} {kk k2 : Nat} {cx cy cz : Bool} (hx : nm.lookup x = some (if cx then .cell else .local)) (hy : nm.lookup y = some (if cy then .cell else .local)) (hz : nm.lookup z = some (if cz then .cell else .local))
    (h : Φ (del z (del y (del x ρ))) (put z (cz, []) (put y (cy, []) (put x (cx, []) σ))) .next)
    (hs : ∀ env, swapsWithSole [.Tuple [.Name x px, .Name y py, .Name z pz] kk tpos] (.Tuple [.List [] lx, .List [] ly, .List [] lz] k2 vpos) pos.line env = pure false)
    (hw : ∀ env, env.scope.names = nm → env.scope.kind = .function → swappedStores [.Tuple [.Name x px, .Name y py, .Name z pz] kk tpos] (.Tuple [.List [] lx, .List [] ly, .List [] lz] k2 vpos) env = pure none) :
    Ex1 w k nm ρ σ (.Assign [.Tuple [.Name x px, .Name y py, .Name z pz] kk tpos] (.Tuple [.List [] lx, .List [] ly, .List [] lz] k2 vpos) pos) Φ := fun env A α f s M Q E rm L t hQ => by
  refine Assign_Tuple ?_ (hs env) (hw env t.nms t.kind)
  refine wpAny_Tuple (wpAny_items_cons (wpAny_List (wpAny_items_nil ⟨by simp, ?_⟩)) (by rfl))
  refine wpAny_items_cons (wpAny_List (wpAny_items_nil ⟨by simp, ?_⟩)) (by rfl)
  refine wpAny_items_cons (wpAny_List (wpAny_items_nil ⟨by simp, ?_⟩)) (by rfl)
  refine wpAny_items_nil ⟨by rw [sizeLine_eq]; simp, ?_⟩
  have e1 : ∀ h : Heap, (h.push (lstO [] 0)).get? h.objs.size = some (lstO [] 0) := fun h => Heap.get?_push_size _ rfl
  have kp : ∀ (h : Heap) (o' : Obj) b o, h.get? b = some o → (h.push o').get? b = some o := fun h o' b o e => Heap.get?_push_of_some _ e
  show wpAny _ _ (assign _ env (.ref (((s.heap.push (lstO [] 0)).push (lstO [] 0)).push (lstO [] 0)).objs.size)) _ _ { s with heap := (((s.heap.push (lstO [] 0)).push (lstO [] 0)).push (lstO [] 0)).push (tupO [.ref s.heap.objs.size, .ref (s.heap.push (lstO [] 0)).objs.size, .ref ((s.heap.push (lstO [] 0)).push (lstO [] 0)).objs.size]) }
  have d1 : s.heap.get? s.heap.objs.size = none := get?_size _
  have d2 : s.heap.get? (s.heap.push (lstO [] 0)).objs.size = none := Heap.get?_none_of_le (by rw [Heap.size_push]; omega)
  have d3 : s.heap.get? ((s.heap.push (lstO [] 0)).push (lstO [] 0)).objs.size = none := Heap.get?_none_of_le (by rw [Heap.size_push, Heap.size_push]; omega)
  have n12 : (s.heap.push (lstO [] 0)).objs.size ≠ s.heap.objs.size := by rw [Heap.size_push]; omega
  have n13 : ((s.heap.push (lstO [] 0)).push (lstO [] 0)).objs.size ≠ s.heap.objs.size := by rw [Heap.size_push, Heap.size_push]; omega
  have n23 : ((s.heap.push (lstO [] 0)).push (lstO [] 0)).objs.size ≠ (s.heap.push (lstO [] 0)).objs.size := by rw [Heap.size_push (s.heap.push _)]; omega
  have g1 := kp _ (tupO [.ref s.heap.objs.size, .ref (s.heap.push (lstO [] 0)).objs.size, .ref ((s.heap.push (lstO [] 0)).push (lstO [] 0)).objs.size]) _ _ (kp _ (lstO [] 0) _ _ (kp _ (lstO [] 0) _ _ (e1 s.heap)))
  have g2 := kp _ (tupO [.ref s.heap.objs.size, .ref (s.heap.push (lstO [] 0)).objs.size, .ref ((s.heap.push (lstO [] 0)).push (lstO [] 0)).objs.size]) _ _ (kp _ (lstO [] 0) _ _ (e1 (s.heap.push (lstO [] 0))))
  have g3 := kp _ (tupO [.ref s.heap.objs.size, .ref (s.heap.push (lstO [] 0)).objs.size, .ref ((s.heap.push (lstO [] 0)).push (lstO [] 0)).objs.size]) _ _ (e1 ((s.heap.push (lstO [] 0)).push (lstO [] 0)))
  have gt : ((((s.heap.push (lstO [] 0)).push (lstO [] 0)).push (lstO [] 0)).push (tupO [.ref s.heap.objs.size, .ref (s.heap.push (lstO [] 0)).objs.size, .ref ((s.heap.push (lstO [] 0)).push (lstO [] 0)).objs.size])).get? (((s.heap.push (lstO [] 0)).push (lstO [] 0)).push (lstO [] 0)).objs.size = some (tupO [.ref s.heap.objs.size, .ref (s.heap.push (lstO [] 0)).objs.size, .ref ((s.heap.push (lstO [] 0)).push (lstO [] 0)).objs.size]) := Heap.get?_push_size _ rfl
  have kk0 : ∀ b o, s.heap.get? b = some o → ((((s.heap.push (lstO [] 0)).push (lstO [] 0)).push (lstO [] 0)).push (tupO [.ref s.heap.objs.size, .ref (s.heap.push (lstO [] 0)).objs.size, .ref ((s.heap.push (lstO [] 0)).push (lstO [] 0)).objs.size])).get? b = some o := fun b o e => kp _ _ _ _ (kp _ _ _ _ (kp _ _ _ _ (kp _ _ _ _ e)))
  revert d1 d2 d3 n12 n13 n23 g1 g2 g3 gt kk0
  generalize s.heap.objs.size = a1
  generalize (s.heap.push (lstO [] 0)).objs.size = a2
  generalize ((s.heap.push (lstO [] 0)).push (lstO [] 0)).objs.size = a3
  generalize (((s.heap.push (lstO [] 0)).push (lstO [] 0)).push (lstO [] 0)).objs.size = a4
  generalize (((s.heap.push (lstO [] 0)).push (lstO [] 0)).push (lstO [] 0)).push (tupO [.ref a1, .ref a2, .ref a3]) = H
  intro d1 d2 d3 n12 n13 n23 g1 g2 g3 gt kk0
  refine wpAny_assign_Tuple (items := ([.ref a1, .ref a2, .ref a3] : List Value).toArray) rm.handled ⟨_, gt, rfl, 0, rfl⟩ (by rfl) (by rfl) fun h' hext => ?_
  have kp' : ∀ b o, H.get? b = some o → h'.get? b = some o := fun b o e => hext b o (Nat.ne_of_lt (Heap.lt_size e)) e
  have g : Grew f s f { s with heap := h', toks := s.toks } := Grew.same t.okf.sub fun b o e => kp' _ _ (kk0 _ _ e)
  have fn : ∀ a, s.heap.get? a = none → f a = none := fun a e => by
    cases q : f a with
    | none => rfl
    | some o => rw [t.okf.sub _ _ q] at e; cases e
  have Mn : ∀ a, s.heap.get? a = none → ¬ M a := fun a e hm => by refine ob1_1 (L _ hm) fun o q => ?_; rw [e] at q; cases q
  have as : ∀ (x : Str) (p : Pos) (v : Value) {Q' : Unit → Shared → Prop} {s' : Shared}, wpAny (model prg w) A (storeName env x v) Q' E s' → wpAny (model prg w) A (holding [] (assign (.Name x p) env v)) Q' E s' := fun x p v Q' s' h => wpAny_holding (wpAny_assign_Name h)
  show wpAny _ _ (do holding [.ref a2, .ref a3] (assign (.Name x px) env (.ref a1)); assignInOrder [assign (.Name y py) env, assign (.Name z pz) env] [.ref a2, .ref a3]) _ _ _
  refine wpAny_bind (wpAny_holding (wpAny_assign_Name ?_))
  refine own_store (l := []) (vs := []) (n := 0) hx (L.grew g.keeps) (t.grew L g) (kp' _ _ g1) RelL.nil (fn _ d1) (Mn _ d1) fun s1 t1 L1 q1 => ?_
  have G1 := (g.toS.trans q1).more d1
  show wpAny _ _ (do holding [.ref a3] (assign (.Name y py) env (.ref a2)); assignInOrder [assign (.Name z pz) env] [.ref a3]) _ _ _
  refine wpAny_bind (wpAny_holding (wpAny_assign_Name ?_))
  refine own_store (l := []) (vs := []) (n := 0) hy L1 t1 (q1.keep (Mn _ d2) (kp' _ _ g2) (solid_lst _ _)) RelL.nil (fn _ d2) (fun hm => hm.elim (Mn _ d2) n12) fun s2 t2 L2 q2 => ?_
  have G2 := (G1.trans q2).more d2
  show wpAny _ _ (do holding [] (assign (.Name z pz) env (.ref a3)); assignInOrder [] []) _ _ _
  refine wpAny_bind (wpAny_holding (wpAny_assign_Name ?_))
  refine own_store (l := []) (vs := []) (n := 0) hz L2 t2 (q2.keep (fun hm => hm.elim (Mn _ d3) n13) (q1.keep (Mn _ d3) (kp' _ _ g3) (solid_lst _ _)) (solid_lst _ _)) RelL.nil (fn _ d3) (fun hm => hm.elim (fun hm => hm.elim (Mn _ d3) n13) n23) fun s3 t3 L3 q3 => ?_
  have G3 := (G2.trans q3).more d3
  exact wpAny_pure (hQ .next .next _ _ _ _ f s3 h rfl t3 L3 G3)
theorem x1_compC {n pos pos' e v ρ' σ'} (he : EvS w k nm ρ σ e v) (ha : AsgN w nm n v ρ σ ρ' σ') (h : Φ ρ' σ' .next) (hs : ∀ env, env.kindOf n = nm.lookup n → swapsWith e (some (.Name n pos')) pos.line env = pure false) :
    Ex1 w k nm ρ σ (.Assign [.Name n pos'] e pos) Φ := fun env A α f s M Q E rm L t hQ =>
  wpAny_Assign_Name (he env A α f s M _ E rm L t fun val f' s' g r => ha env A α f' s' M val _ E rm.handled (L.grew g.keeps) (t.grew L g) r fun s'' t'' L'' g'' =>
    hQ .next .next ρ' σ' α M f' s'' h rfl t'' L'' (g.toS.trans g'')) (hs env (by unfold Env.kindOf; rw [t.nms]))
end
noncomputable def sliceG {β : Type} (l : List β) (lo hi st : Option Int) : List β := (sliceRange (sliceBounds lo hi st l.length).1 (sliceBounds lo hi st l.length).2.1 (sliceBounds lo hi st l.length).2.2).filterMap (l[·]?)
theorem sliceV_map {β : Type} (g : β → V) (l : List β) (lo hi st : Option Int) : sliceV (l.map g) lo hi st = (sliceG l lo hi st).map g := by
  unfold sliceV sliceG
  rw [List.length_map, List.map_filterMap]
  congr 1
  funext i
  simp
theorem sliceG_mem {β : Type} {l : List β} {lo hi st : Option Int} {x : β} (h : x ∈ sliceG l lo hi st) : x ∈ l := by
  unfold sliceG at h
  refine ob1_2 (List.mem_filterMap.mp h) fun i _ e => ?_
  exact List.mem_of_getElem? e
theorem slice60 (n : Nat) (h : n ≤ 63) : (sliceRange (sliceBounds none (some 60) none n).1 (sliceBounds none (some 60) none n).2.1 (sliceBounds none (some 60) none n).2.2).length ≤ 60 := by
  have := all_lt (n := 64) (P := fun n => decide ((sliceRange (sliceBounds none (some 60) none n).1 (sliceBounds none (some 60) none n).2.1 (sliceBounds none (some 60) none n).2.2).length ≤ 60)) (by decide +kernel) (Nat.lt_succ_of_le h)
  simpa using this
theorem slice10 (n i : Nat) (h : n ≤ 60) (hi : i < 10) : (sliceRange (sliceBounds (some ((i : Nat) : Int)) none (some 10) n).1 (sliceBounds (some ((i : Nat) : Int)) none (some 10) n).2.1 (sliceBounds (some ((i : Nat) : Int)) none (some 10) n).2.2).length ≤ 60 := by
  have := all_lt (n := 61) (P := fun n => (List.range 10).all fun i => decide ((sliceRange (sliceBounds (some ((i : Nat) : Int)) none (some 10) n).1 (sliceBounds (some ((i : Nat) : Int)) none (some 10) n).2.1 (sliceBounds (some ((i : Nat) : Int)) none (some 10) n).2.2).length ≤ 60)) (by decide +kernel) (Nat.lt_succ_of_le h)
  have := all_lt this hi
  simpa using this
noncomputable def numsI (xs : List Int) : List Int := (sliceG xs none (some 60) none).map fun x => x.fmod 50331648
theorem nums_len {xs : List Int} (h : xs.length ≤ 63) : (numsI xs).length ≤ 60 := by
  unfold numsI
  rw [List.length_map]
  exact Nat.le_trans (List.length_filterMap_le _ _) (slice60 _ h)
theorem nums_bound {xs : List Int} : ∀ x ∈ numsI xs, 0 ≤ x ∧ x ≤ 2 ^ 40 := fun x hx => by
  unfold numsI at hx
  refine ob1_2 (List.mem_map.mp hx) fun y _ z0 => ?_; subst z0
  have h1 := Int.emod_nonneg y (show (50331648 : Int) ≠ 0 by decide)
  have h2 := Int.emod_lt_of_pos y (show (0 : Int) < 50331648 by decide)
  rw [Int.fmod_eq_emod_of_nonneg _ (show (0 : Int) ≤ 50331648 by decide)]
  exact ⟨h1, by omega⟩
noncomputable def startsL : List Int := [15213644, 15213313, 15728396, 0, 4, 28, 41, 56, 10, 49]
noncomputable def cellI (xs : List Int) (i : Nat) : Int := startsL.getD i 0 + (sliceG (numsI xs) (some ((i : Nat) : Int)) none (some 10)).sum
noncomputable def cellN (xs : List Int) (i : Nat) : Nat := (cellI xs i).toNat
theorem sum_nonneg : ∀ {l : List Int}, (∀ x ∈ l, 0 ≤ x) → 0 ≤ l.sum
  | [], _ => by simp
  | x :: l, h => by
    have h1 := h x (by simp)
    have h2 := sum_nonneg (l := l) fun y hy => h y (by simp [hy])
    simp only [List.sum_cons]; omega
theorem cellI_eq {xs : List Int} {i : Nat} (hi : i < 10) : cellI xs i = ((cellN xs i : Nat) : Int) := by
  have h1 : 0 ≤ startsL.getD i 0 := by
    have := all_lt (n := 10) (P := fun i => decide (0 ≤ startsL.getD i 0)) (by decide +kernel) hi
    simpa using this
  have h2 : 0 ≤ (sliceG (numsI xs) (some ((i : Nat) : Int)) none (some 10)).sum := sum_nonneg fun x hx => (nums_bound x (sliceG_mem hx)).1
  unfold cellN
  have : 0 ≤ cellI xs i := by unfold cellI; omega
  omega
noncomputable def cellsN (xs : List Int) : List Nat := (List.range 10).map (cellN xs)
theorem g_sum : GlobIs "sum" (.bi "sum") := glob_bi (fun P => by kernel_rfl) (fun P => by kernel_rfl)
section
variable {w : World} {k : Nat}
theorem cell_elt {gs : List (Str × NameKind)} {xs : List Int} {i : Nat} (hx : xs.length ≤ 63) (hi : i < 10) (hg : gs.lookup ("sum" : Str) = some NameKind.globalImplicit) {p1 p2 p3 p4 p5 p6 p7 p8 p9 p10 p11 : Pos} {k1 : Nat} :
    Evals w (k + 1) gs [("k", false, .int ((i : Nat) : Int)), ("starts", true, .tup (startsL.map .int)), ("numbers", true, .lst ((numsI xs).map .int))]
      (.BinOp (.Subscript (.Name "starts" p1) (.Name "k" p2) p3) .Add (.Call (.Name "sum" p4) [.Subscript (.Name "numbers" p5) (.Slice (some (.Name "k" p6)) none (some (.Constant (.int 10) k1 p7)) p8) p9] [] p10) p11)
      (.int ((cellN xs i : Nat) : Int)) := by
  rw [← cellI_eq hi]
  have hs : startsL[i]? = some (startsL.getD i 0) := by
    have : i < startsL.length := hi
    simp [this]
  refine ev_bin (ev_sub ev_name ev_name (it_tup (v := .int (startsL.getD i 0)) (Int.natCast_nonneg i) (by show ((i : Nat) : Int) < 1000000; omega) (by show (startsL.map V.int)[i]? = _; rw [List.getElem?_map, hs]; rfl))) ?_ bin_add
  refine ev_call (ev_glob hg g_sum) (.bi _) (evl_cons (ev_slice ev_name (part_s ev_name) part_n (part_s ev_int) (sl_lst (by decide) (by have := nums_len hx; simp; omega))) evl_nil) ?_
  rw [sliceV_map]
  refine c_sum (fun x hx => nums_bound x (sliceG_mem hx)) ?_
  exact Nat.le_trans (Nat.le_trans (List.length_filterMap_le _ _) (slice10 _ i (nums_len hx) hi)) (by decide)
theorem CompL.to {gs : List (Str × NameKind)} {ρ : Rho} {x : Str} {ifs : List Expr} {elt : Expr} {items outs outs' : List V} (h : CompL w k gs ρ x ifs elt items outs) (q : outs = outs') : CompL w k gs ρ x ifs elt items outs' := q ▸ h
theorem evl_int {gs : List (Str × NameKind)} {ρ : Rho} {i : Int} {kk : Nat} {pos : Pos} {rest : List Expr} {l : List V} (h : EvalsL w k gs ρ rest l) : EvalsL w k gs ρ (.Constant (.int i) kk pos :: rest) (.int i :: l) := evl_cons ev_int h
noncomputable def ls (j : Nat) : Stmt := stN (bodyN 34) j
theorem body34 : bodyN 34 = [ls 0, ls 1, ls 2, ls 3, ls 4, ls 5, ls 6, ls 7, ls 8, ls 9, ls 10, ls 11, ls 12, ls 13, ls 14, ls 15, ls 16, ls 17, ls 18] := by kernel_rfl
theorem law0 {ρ : Rho} {σ : Sig} {Φ : Rho → Sig → Fl → Prop} (h : Φ (put "signs" (true, .str signsL) ρ) (del "signs" σ) .next) : Ex1 w k (namesN 34) ρ σ (ls 0) Φ :=
  x1_set (evs ev_str) (asgn_cell (by kernel_rfl)) h
noncomputable def asgP : Stmt → Pos | .Assign [.Name _ p] _ _ => p | _ => ⟨0, 0, 0, 0⟩
noncomputable def asgQ : Stmt → Pos | .Assign _ _ p => p | _ => ⟨0, 0, 0, 0⟩
noncomputable def tupE : Stmt → List Expr | .Assign _ (.Tuple es _ _) _ => es | _ => []
noncomputable def tupK : Stmt → Nat | .Assign _ (.Tuple _ k _) _ => k | _ => 0
noncomputable def tupP : Stmt → Pos | .Assign _ (.Tuple _ _ p) _ => p | _ => ⟨0, 0, 0, 0⟩
noncomputable def asI : Expr → List (Int × Nat × Pos) | .Constant (.int i) k p => [(i, k, p)] | _ => []
noncomputable def mkI (t : Int × Nat × Pos) : Expr := .Constant (.int t.1) t.2.1 t.2.2
theorem evl_ints {gs : List (Str × NameKind)} {ρ : Rho} : ∀ l : List (Int × Nat × Pos), EvalsL w k gs ρ (l.map mkI) (l.map fun t => .int t.1)
  | [] => evl_nil
  | _ :: l => evl_int (evl_ints l)
noncomputable def ls1_l : List (Int × Nat × Pos) := (tupE (ls 1)).flatMap asI
theorem ls1_eq : ls 1 = .Assign [.Name "starts" (asgP (ls 1))] (.Tuple (tupE (ls 1)) (tupK (ls 1)) (tupP (ls 1))) (asgQ (ls 1)) := by kernel_rfl
theorem ls1_vals : (ls1_l.map fun t => V.int t.1) = startsL.map .int := by kernel_rfl
theorem ls1_ints : tupE (ls 1) = ls1_l.map mkI := by kernel_rfl
theorem x1_ints {nm : List (Str × NameKind)} {ρ ρ' : Rho} {σ σ' : Sig} {Φ : Rho → Sig → Fl → Prop} {n : Str} {p q tp : Pos} {es : List Expr} {kk : Nat} {vs : List V} {st : Stmt} {l : List (Int × Nat × Pos)} (e : st = .Assign [.Name n p] (.Tuple es kk tp) q) (h1 : es = l.map mkI) (h2 : (l.map fun t => V.int t.1) = vs)
    (hl : vs.length ≤ 1000000) (ha : AsgN w nm n (.tup vs) ρ σ ρ' σ') (h : Φ ρ' σ' .next) : Ex1 w k nm ρ σ st Φ := by
  subst e h1 h2
  exact x1_set (evs (ev_tup (evl_ints _) hl)) ha h
theorem law1 {ρ : Rho} {σ : Sig} {Φ : Rho → Sig → Fl → Prop} (h : Φ (put "starts" (true, .tup (startsL.map .int)) ρ) (del "starts" σ) .next) : Ex1 w k (namesN 34) ρ σ (ls 1) Φ := by
  have h1 : (startsL.map V.int).length ≤ 1000000 := Nat.le_of_ble_eq_true (by kernel_rfl)
  have h2 : (namesN 34).lookup ("starts" : Str) = some .cell := by kernel_rfl
  with_reducible exact x1_ints ls1_eq ls1_ints ls1_vals h1 (asgn_cell h2) h
theorem law2 {xs : List Int} {ρ : Rho} {σ : Sig} {Φ : Rho → Sig → Fl → Prop} (hx : xs.length ≤ 63) (hs : Has ρ "script" (.lst (xs.map .int)))
    (h : Φ (put "numbers" (true, .lst ((numsI xs).map .int)) ρ) (del "numbers" σ) .next) : Ex1 w k (namesN 34) ρ σ (ls 2) Φ := by
  refine x1_compC (v := .lst ((numsI xs).map .int)) (evs (ev_comp (compIs [] (ev_slice (ev_name hs) part_n (part_s ev_int) part_n (sl_lst (by decide) (by simp; omega))) iter_lst ?_ ?_ rho_nil))) (asgn_cell (by kernel_rfl)) h ?_
  · exact Nat.le_trans (Nat.le_trans (List.length_filterMap_le _ _) (by rw [List.length_map]; exact slice60 _ hx)) (by decide)
  · rw [sliceV_map, numsI]
    refine CompL.to (compl_map (g := fun v => match v with | .int x => .int (x.fmod 50331648) | v => v) fun a ha => ?_) (by rw [List.map_map, List.map_map]; rfl)
    refine ob1_2 (List.mem_map.mp ha) fun x _ z0 => ?_; subst z0
    exact ev_bin ev_name ev_int (bin_mod (by decide))
  · intro env he
    show (pure (env.blockKind == .function && env.kindOf "numbers" == some .local && _ && _) : Sem Bool) = _
    rw [he]
    have : ((namesN 34).lookup ("numbers" : Str) == some NameKind.local) = false := by kernel_rfl
    rw [this, Bool.and_false]; rfl
theorem law3 {xs : List Int} {ρ : Rho} {σ : Sig} {Φ : Rho → Sig → Fl → Prop} (hx : xs.length ≤ 63) (h1 : HasC ρ "starts" (.tup (startsL.map .int))) (h2 : HasC ρ "numbers" (.lst ((numsI xs).map .int)))
    (h : Φ (put "cells" (false, .lst ((cellsN xs).map fun c => .int ((c : Nat) : Int))) ρ) (del "cells" σ) .next) : Ex1 w (k + 1) (namesN 34) ρ σ (ls 3) Φ := by
  refine x1_comp (outs := (cellsN xs).map fun c => .int ((c : Nat) : Int)) (compIs [("starts", true, .tup (startsL.map .int)), ("numbers", true, .lst ((numsI xs).map .int))]
      (ev_call (l := [.int (Int.ofNat 10)]) (ev_glob (by kernel_rfl) g_range) (.typ _) (evl_cons ev_int evl_nil) c_range) (iter_rng (by decide)) (by simp [natsI]) ?_ (rho_cons (by kernel_rfl) h1 (rho_cons (by kernel_rfl) h2 rho_nil))) (by kernel_rfl) h (by kernel_rfl)
  rw [natsI, cellsN]
  refine CompL.to (compl_map (g := fun v => match v with | .int x => .int ((cellN xs x.toNat : Nat) : Int) | v => v) fun a ha => ?_) (by rw [List.map_map, List.map_map]; rfl)
  refine ob1_2 (List.mem_map.mp ha) fun i hi z0 => ?_; subst z0
  exact cell_elt hx (List.mem_range.mp hi) (by kernel_rfl)
end
noncomputable abbrev codeV (c : Nat) : V := .int ((codeN c : Nat) : Int)
noncomputable abbrev nameV (c : Nat) : V := .lst ((nameN c).map fun x => .str (S [x]))
noncomputable abbrev pageV (c : Nat) : V := .str (dirS (nameN c))
theorem g_law_row : GlobIs "_law_row" (.top 218) := glob_top fun P => by kernel_rfl
theorem g_list : GlobIs "list" (.typ "list") := glob_typ (fun P => by kernel_rfl) (fun P => by kernel_rfl)
theorem g_join : GlobIs "join" (.top 187) := glob_top fun P => by kernel_rfl
theorem isFn_join (w : World) : IsFn w 187 := (fn_join w).isFn
theorem isFn_b64 (w : World) : IsFn w 93 := (fn_b64 w).isFn
theorem isFn_law_row (w : World) : IsFn w 218 := (fn_law_row w).isFn
section
variable {w : World} {k : Nat}
theorem c_join0 {l : List Nat} (h : l.length ≤ 1000) : CallOk w k (.bi "str.join") [.str (S []), .lst (l.map fun x => .str (S [x]))] (.str (S l)) := by
  have hg := S_glued0 (one l)
  have e1 : ∀ (l : List Nat) (n : Nat), ((one l).map S).foldl (fun a p => a + p.length + (S []).length) n = n + l.length := by
    intro l
    induction l with
    | nil => intro n; rfl
    | cons x l ih =>
      intro n
      show List.foldl _ (n + (S [x]).length + (S []).length) ((one l).map S) = _
      rw [ih, S_len, S_len]; simp only [List.length_cons, List.length_nil]; omega
  have e2 : (one l).flatten = l := by
    unfold one
    induction l with
    | nil => rfl
    | cons x l ih => rw [List.map_cons, List.flatten_cons, ih (by simp at h; omega) (by
        have := S_glued0 (one l); exact this)]; rfl
  have := c_join (w := w) (k := k) (sep := S []) (ps := (one l).map S) (by
    unfold Builtin.Str.tooLong
    rw [decide_eq_false_iff_not, sizeLine_eq, List.foldl_toArray, e1]; omega) (by rw [hg, S_len, e2]; omega) (fun p hp => by rw [hp]; rfl)
  rw [hg, e2] at this
  have e3 : ((one l).map S).map V.str = l.map fun x => V.str (S [x]) := by unfold one; rw [List.map_map, List.map_map]; rfl
  rw [e3] at this
  exact this
theorem law4 {ρ : Rho} {σ : Sig} {Φ : Rho → Sig → Fl → Prop} (h : Φ (del "pages" (del "names" (del "codes" ρ))) (put "pages" (false, []) (put "names" (false, []) (put "codes" (true, []) σ))) .next) : Ex1 w k (namesN 34) ρ σ (ls 4) Φ :=
  x1_own3 (cx := true) (cy := false) (cz := false) (by kernel_rfl) (by kernel_rfl) (by kernel_rfl) h (by intro _; rfl) fun env h1 h2 => (swap_env h1 h2).trans (by kernel_rfl)
noncomputable def l5 (j : Nat) : Stmt := stN (forB (ls 5)) j
theorem body5 : forB (ls 5) = [l5 0, l5 1, l5 2, l5 3, l5 4, l5 5] := by kernel_rfl
theorem law5_0 {c : Nat} {ρ : Rho} {σ : Sig} {Φ : Rho → Sig → Fl → Prop} (hc : Has ρ "cell" (.int ((c : Nat) : Int)))
    (h : Φ (put "values" (true, rowVals c) (put "data" (false, .byt (octsN c).toArray) ρ)) (del "values" (del "data" σ)) .next) : Ex1 w (k + 1) (namesN 34) ρ σ (l5 0) Φ :=
  x1_unpack' (evs (ev_call (ev_glob (by kernel_rfl) g_law_row) (.top _ (isFn_law_row w)) (evl_cons (ev_name hc) evl_nil) law_row_ok))
    (.cons _ _ _ _ _ _ _ _ _ _ (asgn_local (by kernel_rfl)) (.cons _ _ _ _ _ _ _ _ _ _ (asgn_cell (by kernel_rfl)) (.nil _ _))) h rfl rfl
theorem law5_1 {c : Nat} {ρ : Rho} {σ : Sig} {Φ : Rho → Sig → Fl → Prop} (hc : Has ρ "data" (.byt (octsN c).toArray))
    (h : Φ (put "written" (false, .byt (byteArr (encI (octsN c)))) ρ) (del "written" σ) .next) : Ex1 w (k + 3) (namesN 34) ρ σ (l5 1) Φ :=
  x1_set (evs (ev_call (ev_glob (by kernel_rfl) g_b64encode) (.top _ (isFn_b64 w)) (evl_cons (ev_name hc) evl_nil) (b64_ok (by rw [octsN_len]; rcases szN_cases c with h | h | h <;> omega) (by rw [octsN_len]; rcases szN_cases c with h | h | h <;> omega)))) (asgn_local (by kernel_rfl)) h
theorem c_isb_t {b : Array UInt8} : CallOk w k (.bi "isinstance") [.byt b, .typ "bytes"] (.bool true) := c_isinst_t typed_byt (by kernel_rfl) (by rw [isSubtype_type]; kernel_rfl)
theorem signs_elt {gs : List (Str × NameKind)} {v : Nat} (hv : v < 65) {p1 p2 p3 : Pos} : Evals w k gs [("v", false, .int ((v : Nat) : Int)), ("signs", true, .str signsL)] (.Subscript (.Name "signs" p1) (.Name "v" p2) p3) (.str (S [sg v])) :=
  ev_sub ev_name ev_name (it_str (Int.natCast_nonneg _) (by omega) (by rw [Int.toNat_natCast]; exact signs_at hv))
theorem law5_2 {c : Nat} {ρ : Rho} {σ : Sig} {Φ : Rho → Sig → Fl → Prop} (h1 : Has ρ "written" (.byt (byteArr (encI (octsN c))))) (h2 : HasC ρ "signs" (.str signsL)) (h3 : HasC ρ "values" (rowVals c))
    (h : Φ ρ σ .next) : Ex1 w k (namesN 34) ρ σ (l5 2) Φ := by
  refine x1_if_f (tes (t_op (or_go (Tests.to (t_not (t_val (ev_call (ev_glob (by kernel_rfl) g_isinstance) (.bi _) (evl_cons (ev_name h1) (evl_cons (ev_glob (by kernel_rfl) g_bytes) evl_nil)) c_isb_t) tr_bool)) rfl) (or_go (Tests.to (t_cmp (ev_name h1)
    (ev_meth PySem.F.plainAttrs_str PySem.F.slot_str_encode PySem.F.type_str_encode (ev_meth PySem.F.plainAttrs_str PySem.F.slot_str_join PySem.F.type_str_join ev_str typed_str (evl_cons (ev_comp
      (compIs [("signs", true, .str signsL)] (ev_name h3) iter_lst (by simp [valsN]) (outs := (writN c).map fun x => .str (S [x])) ?_ (rho_cons (by kernel_rfl) h2 rho_nil))) evl_nil) (by rw [empt]; exact c_join0 (l := writN c) (Nat.le_of_ble_eq_true rfl))) typed_str (evl_cons ev_str evl_nil)
        (c_encode (sg_lt (val_lt c 0)) (sg_lt (val_lt c 1)) (sg_lt (val_lt c 2)) (sg_lt (val_lt c 3)))) cmp_ney) (by rw [enc_byt]; simp)) or_nil)))) (ex_nil h)
  exact cl_cons ifs_nil (signs_elt (val_lt c 0)) (cl_cons ifs_nil (signs_elt (val_lt c 1)) (cl_cons ifs_nil (signs_elt (val_lt c 2)) (cl_cons ifs_nil (signs_elt (val_lt c 3)) cl_nil)))
end
section
variable {w : World} {k : Nat}
theorem shl7 {v i : Nat} (hi : i ≤ 3) : ((v : Nat) : Int) * 2 ^ (21 - 7 * ((i : Nat) : Int)).toNat = ((v * 2 ^ (21 - 7 * i) : Nat) : Int) := by
  have e : (21 - 7 * ((i : Nat) : Int)).toNat = 21 - 7 * i := by omega
  rw [e]; simp
theorem code_elt {gs : List (Str × NameKind)} {c i : Nat} (hi : i ≤ 3) {p1 p2 p3 p4 p5 p6 p7 p8 p9 : Pos} {k1 k2 : Nat} :
    Evals w k gs [("i", false, .int ((i : Nat) : Int)), ("values", true, rowVals c)]
      (.BinOp (.Subscript (.Name "values" p1) (.Name "i" p2) p3) .LShift (.BinOp (.Constant (.int 21) k1 p4) .Sub (.BinOp (.Constant (.int 7) k2 p5) .Mult (.Name "i" p6) p7) p8) p9) (.int ((valN c i * 2 ^ (21 - 7 * i) : Nat) : Int)) := by
  have mul : IntMulOk 7 ((i : Nat) : Int) := IntMulOk.of_left (by decide +kernel)
  have hv : ((valsN c).map fun v => V.int ((v : Nat) : Int))[i]? = some (.int ((valN c i : Nat) : Int)) := by
    obtain rfl | rfl | rfl | rfl : i = 0 ∨ i = 1 ∨ i = 2 ∨ i = 3 := by omega
    all_goals rfl
  have hlt := val_lt c i
  refine Evals.to (ev_bin (ev_sub ev_name ev_name (it_lst (Int.natCast_nonneg _) (by omega) (by rw [Int.toNat_natCast]; exact hv))) (ev_bin ev_int (ev_bin ev_int ev_name (bin_mul mul)) bin_sub) (bin_shl (by omega) (by omega) (by omega))) ?_
  rw [shl7 hi]
noncomputable def codeL (c : Nat) : List Int := [((valN c 0 * 2 ^ (21 - 7 * 0) : Nat) : Int), ((valN c 1 * 2 ^ (21 - 7 * 1) : Nat) : Int), ((valN c 2 * 2 ^ (21 - 7 * 2) : Nat) : Int), ((valN c 3 * 2 ^ (21 - 7 * 3) : Nat) : Int)]
theorem codeL_sum (c : Nat) : (codeL c).sum = ((codeN c : Nat) : Int) := by
  unfold codeL codeN
  simp only [List.sum_cons, List.sum_nil, Nat.reduceMul, Nat.reduceSub, Nat.reducePow]
  omega
theorem codeL_bound (c : Nat) : ∀ x ∈ codeL c, 0 ≤ x ∧ x ≤ 2 ^ 40 := fun x hx => by
  have h0 := val_lt c 0; have h1 := val_lt c 1; have h2 := val_lt c 2; have h3 := val_lt c 3
  unfold codeL at hx
  simp only [List.mem_cons, List.not_mem_nil, or_false, Nat.reduceMul, Nat.reduceSub, Nat.reducePow] at hx
  rcases hx with rfl | rfl | rfl | rfl <;> omega
theorem law5_3 {c : Nat} {ρ : Rho} {σ : Sig} {l : List V} {Φ : Rho → Sig → Fl → Prop} (h1 : HasC ρ "values" (rowVals c)) (h2 : σ.lookup ("codes" : Str) = some (true, l)) (hl : l.length ≤ 1000)
    (h : Φ ρ (put "codes" (true, l ++ [codeV c]) σ) .next) : Ex1 w (k + 1) (namesN 34) ρ σ (l5 3) Φ := by
  refine x1_append h2 (evs (Evals.to (ev_call (l := [.lst ((codeL c).map .int)]) (ev_glob (by kernel_rfl) g_sum) (.bi _) (evl_cons (ev_comp (compIs [("values", true, rowVals c)]
    (ev_call (l := [.int (Int.ofNat 4)]) (ev_glob (by kernel_rfl) g_range) (.typ _) (evl_cons ev_int evl_nil) c_range) (iter_rng (by decide)) (by simp [natsI]) ?_ (rho_cons (by kernel_rfl) h1 rho_nil))) evl_nil) (c_sum (codeL_bound c) (Nat.le_of_ble_eq_true rfl))) (by rw [codeL_sum]))) (by omega) h
  exact cl_cons ifs_nil (code_elt (i := 0) (by decide)) (cl_cons ifs_nil (code_elt (i := 1) (by decide)) (cl_cons ifs_nil (code_elt (i := 2) (by decide)) (cl_cons ifs_nil (code_elt (i := 3) (by decide)) cl_nil)))
theorem law5_4 {c : Nat} {ρ : Rho} {σ : Sig} {l : List V} {Φ : Rho → Sig → Fl → Prop} (h1 : Has ρ "written" (.byt (byteArr (encI (octsN c))))) (h2 : σ.lookup ("names" : Str) = some (false, l)) (hl : l.length ≤ 1000)
    (h : Φ ρ (put "names" (false, l ++ [nameV c]) σ) .next) : Ex1 w (k + 1) (namesN 34) ρ σ (l5 4) Φ := by
  have e : byteArr (encI (octsN c)) = #[(sg (valN c 0)).toUInt8, (sg (valN c 1)).toUInt8, (sg (valN c 2)).toUInt8, (sg (valN c 3)).toUInt8] := enc_byt c
  have u0 := toU8 (sg_lt (val_lt c 0)); have u1 := toU8 (sg_lt (val_lt c 1)); have u2 := toU8 (sg_lt (val_lt c 2)); have u3 := toU8 (sg_lt (val_lt c 3))
  have s0 := sg_lt (val_lt c 0); have s1 := sg_lt (val_lt c 1); have s2 := sg_lt (val_lt c 2); have s3 := sg_lt (val_lt c 3)
  rw [e] at h1
  have hd := c_decode (w := w) (k := k + 1) (a := (sg (valN c 0)).toUInt8) (b := (sg (valN c 1)).toUInt8) (c := (sg (valN c 2)).toUInt8) (d := (sg (valN c 3)).toUInt8) (by rw [u0]; exact s0) (by rw [u1]; exact s1) (by rw [u2]; exact s2) (by rw [u3]; exact s3)
  rw [u0, u1, u2, u3] at hd
  refine x1_append h2 (evs (ev_call (ev_glob (by kernel_rfl) g_list) (.typ _) (evl_cons (ev_replace (l := writN c) (ev_methT FB.plainAttrs_bytes FB.slot_bytes_decode FB.type_bytes_decode (ev_name h1) typed_byt (evl_cons ev_str evl_nil) hd) (Nat.le_of_ble_eq_true rfl)) evl_nil) ?_)) (by omega) h
  rw [name_of_writ]
  exact c_list_str (l := nameN c) (Nat.le_of_ble_eq_true rfl)
theorem name_one (l : List Nat) : ((one l).map S).map V.str = l.map fun x => V.str (S [x]) := by unfold one; rw [List.map_map, List.map_map]; rfl
theorem join_page {c : Nat} : joinL [47] (gl 47 (one (nameN c))) = dirL (nameN c) := rfl
theorem law5_5 {c : Nat} {ρ : Rho} {σ : Sig} {l ns : List V} {Φ : Rho → Sig → Fl → Prop} (h1 : σ.lookup ("names" : Str) = some (false, ns ++ [nameV c])) (hns : ns.length ≤ 1000) (hN : HasN ρ "names") (h2 : σ.lookup ("pages" : Str) = some (false, l)) (hl : l.length ≤ 1000)
    (h : Φ ρ (put "pages" (false, l ++ [pageV c]) σ) .next) : Ex1 w (k + 3) (namesN 34) ρ σ (l5 5) Φ := by
  have hn : (ρ ++ ownRho σ).lookup ("names" : Str) = some (false, .lst (ns ++ [nameV c])) := by rw [lookup_app, hN, lookup_own, h1]; rfl
  have hj := join_ok (w := w) (k := k) (l := [47]) (m := gl 47 (one (nameN c))) (by simp) (by
    have := name_plain c (nmv (valN c 0)) (by simp [nameN])
    show some (nmv (valN c 0)) ≠ some 47
    intro e; exact this.1 (Option.some.inj e)) (by decide) (Nat.le_of_ble_eq_true rfl)
  rw [join_page] at hj
  have hc := c_joinS (w := w) (k := k + 3) (c := 47) (ps := one (nameN c)) (Nat.le_of_ble_eq_true rfl)
  rw [name_one] at hc
  refine x1_append h2 (evs_own rfl (ev_call (l := [.str (Str.ofString "/"), .str (S (gl 47 (one (nameN c))))]) (ev_glob (by kernel_rfl) g_join) (.top _ (isFn_join w)) (evl_cons ev_str (evl_cons (ev_meth PySem.F.plainAttrs_str PySem.F.slot_str_join PySem.F.type_str_join ev_str typed_str
    (evl_cons (ev_sub (ev_name hn) (ev_neg (a := 1) ev_int) (it_lst_neg (v := nameV c) (by decide) (by simp only [List.length_append, List.length_cons, List.length_nil]; omega) (by decide) ?_)) evl_nil) ?_) evl_nil)) ?_)) (by omega) h
  · have : (-1 + (((ns ++ [nameV c]).length : Nat) : Int)).toNat = ns.length := by simp; omega
    rw [this]; simp
  · rw [slash]; exact hc
  · rw [slash]; exact hj
structure L5 (ρ : Rho) (σ : Sig) (cs done : List Nat) : Prop where
  signs : HasC ρ "signs" (.str signsL)
  cells : Has ρ "cells" (.lst (cs.map fun c => .int ((c : Nat) : Int)))
  nn : HasN ρ "names"
  codes : σ.lookup ("codes" : Str) = some (true, done.map codeV)
  names : σ.lookup ("names" : Str) = some (false, done.map nameV)
  pages : σ.lookup ("pages" : Str) = some (false, done.map pageV)
theorem law5_loop {Φ : Rho → Sig → Fl → Prop} {cs : List Nat} : ∀ (todo done : List Nat) (ρ : Rho) (σ : Sig), L5 ρ σ cs done → done.length + todo.length ≤ 1000 →
    (∀ ρ' σ', L5 ρ' σ' cs (done ++ todo) → Φ ρ' σ' .next) → Loop w (k + 3) (namesN 34) (forT (ls 5)) (forB (ls 5)) (todo.map fun c => .int ((c : Nat) : Int)) ρ σ Φ
  | [], done, ρ, σ, I, _, hΦ => hΦ ρ σ (by rwa [List.append_nil])
  | c :: todo, done, ρ, σ, I, hl, hΦ => by
    obtain ⟨i1, i2, i3, i4, i5, i6⟩ := id I
    simp only [List.length_cons] at hl
    have hd1 : (done.map codeV).length ≤ 1000 := by rw [List.length_map]; omega
    have hd2 : (done.map nameV).length ≤ 1000 := by rw [List.length_map]; omega
    have hd3 : (done.map pageV).length ≤ 1000 := by rw [List.length_map]; omega
    refine ⟨_, _, asg_name (asgn_local (by kernel_rfl)), ?_⟩
    rw [body5]
    refine ex_cons (law5_0 (c := c) (by wtm_at "lk") ?_)
    refine ex_cons (law5_1 (k := k) (c := c) (by wtm_at "lk") ?_)
    refine ex_cons (law5_2 (c := c) (by wtm_at "lk") (by wtm_at "lk") (by wtm_at "lk") ?_)
    refine ex_cons (law5_3 (c := c) (l := done.map codeV) (by wtm_at "lk") (by wtm_at "lk") hd1 ?_)
    refine ex_cons (law5_4 (c := c) (l := done.map nameV) (by wtm_at "lk") (by wtm_at "lk") hd2 ?_)
    refine ex_cons (law5_5 (k := k) (c := c) (ns := done.map nameV) (l := done.map pageV) (by wtm_at "lk") hd2 (by wtm_at "lkn") (by wtm_at "lk") hd3 (ex_nil ?_))
    refine law5_loop todo (done ++ [c]) _ _ ⟨by wtm_at "lk", by wtm_at "lk", by wtm_at "lkn", ?_, ?_, ?_⟩ (by simp only [List.length_append, List.length_cons, List.length_nil]; omega) fun ρ' σ' I' => hΦ ρ' σ' (by rwa [List.append_assoc] at I')
    · simp only [List.map_append, List.map_cons, List.map_nil]; wtm_at "lk"
    · simp only [List.map_append, List.map_cons, List.map_nil]; wtm_at "lk"
    · simp only [List.map_append, List.map_cons, List.map_nil]; wtm_at "lk"
theorem law5 {Φ : Rho → Sig → Fl → Prop} {cs : List Nat} {ρ : Rho} {σ : Sig} (I : L5 ρ σ cs []) (hc : cs.length = 10) (hΦ : ∀ ρ' σ', L5 ρ' σ' cs (cs.take 4) → Φ ρ' σ' .next) : Ex1 w (k + 3) (namesN 34) ρ σ (ls 5) Φ := by
  have hs : sliceV (cs.map fun c => .int ((c : Nat) : Int)) none (some 4) none = (cs.take 4).map fun c => .int ((c : Nat) : Int) := by
    rw [sliceV_map]
    match cs, hc with
    | [a0, a1, a2, a3, a4, a5, a6, a7, a8, a9], _ => rfl
  refine x1_for (evs (ev_slice (ev_name I.cells) part_n (part_s ev_int) part_n (sl_lst (by decide) (by rw [List.length_map, hc]; decide)))) iter_lst ?_
  rw [hs]
  exact law5_loop (cs.take 4) [] ρ σ I (by rw [List.length_take, hc]; decide) hΦ
end
section
variable {w : World} {k : Nat}
theorem gl_len (l : List Nat) : (gl 47 (one l)).length ≤ 2 * l.length := by
  have := gl_le 47 (one l)
  rw [one_sum, one_len] at this
  omega
theorem ev_spot {gs : List (Str × NameKind)} {ρ : Rho} {ps : List Nat} {p i n : Nat} {nx ni nn : Str} {cx ci cn : Bool} {p1 p2 p3 p4 p5 p6 p7 p8 p9 p10 p11 : Pos} {k1 k2 : Nat}
    (hN : ρ.lookup nx = some (cx, .lst (ps.map nameV))) (hI : ρ.lookup ni = some (ci, .int ((i : Nat) : Int))) (hH : ρ.lookup nn = some (cn, .int ((n : Nat) : Int))) (hp : ps[i]? = some p) (hi : i < 1000)
    (d1 : (nx == ("__debug__" : Str)) = false) (e1 : (nx == ("__classdict__" : Str)) = false) (d2 : (ni == ("__debug__" : Str)) = false) (e2 : (ni == ("__classdict__" : Str)) = false) (d3 : (nn == ("__debug__" : Str)) = false) (e3 : (nn == ("__classdict__" : Str)) = false)
    (hline : (p2.endLine == p9.line) = true) :
    Evals w k gs ρ (.BinOp (.Constant (.str "/") k1 p1) .Add (.Call (.Attribute (.Constant (.str "/") k2 p3) "join" p2) [.Subscript (.Subscript (.Name nx p4) (.Name ni p5) p6) (.Slice none (some (.Name nn p7)) none p8) p10] [] p9) p11) (.str (dirS ((nameN p).take n))) := by
  have hj : S [47] ++ S (gl 47 (one ((nameN p).take n))) = dirS ((nameN p).take n) := by
    rw [S_app]
    cases (nameN p).take n <;> rfl
  have hl : ((nameN p).take n).length ≤ 4 := by rw [List.length_take, name_len]; omega
  have hg := gl_len ((nameN p).take n)
  have hc := c_joinS (w := w) (k := k) (c := 47) (ps := one ((nameN p).take n)) (by rw [one_sum, one_len]; omega)
  rw [name_one] at hc
  have hn : (ps.map nameV)[i]? = some (nameV p) := by rw [List.getElem?_map, hp]; rfl
  refine Evals.to (ev_bin ev_str (ev_meth PySem.F.plainAttrs_str PySem.F.slot_str_join PySem.F.type_str_join ev_str typed_str (evl_cons (Evals.to (ev_slice (ev_sub (ev_name hN d1 e1) (ev_name hI d2 e2) (it_lst (v := nameV p) (Int.natCast_nonneg _) (by omega) (by rw [Int.toNat_natCast]; exact hn))) part_n (part_s (ev_name hH d3 e3)) part_n (sl_lst (by simp) (by simp [nameN])))
    (by rw [show (((n : Nat) : Int)) = Int.ofNat n from rfl, sliceV_to, ← List.map_take])) evl_nil) (by rw [slash]; exact hc) hline) (bin_adds (by rw [slash, S_len, S_len]; simp only [List.length_cons, List.length_nil]; omega))) (by rw [slash, hj])
structure J6 (ρ : Rho) (cs : List Nat) : Prop where
  cells : Has ρ "cells" (.lst (cs.map fun c => .int ((c : Nat) : Int)))
  codes : HasC ρ "codes" (.lst ((cs.take 4).map codeV))
  names : Has ρ "names" (.lst ((cs.take 4).map nameV))
  pages : Has ρ "pages" (.lst ((cs.take 4).map pageV))
noncomputable def l6 (j : Nat) : Stmt := stN (forB (ls 6)) j
theorem body6 : forB (ls 6) = [l6 0, l6 1] := by kernel_rfl
theorem shr7 {a i : Nat} : Int.fdiv ((a : Nat) : Int) (2 ^ (7 * ((i : Nat) : Int)).toNat) = ((a / 2 ^ (7 * i) : Nat) : Int) := by
  have e : (7 * ((i : Nat) : Int)).toNat = 7 * i := by omega
  have e2 : ((2 : Int) ^ (7 * i)) = ((2 ^ (7 * i) : Nat) : Int) := by simp
  rw [e, e2, fdivN]
theorem shared_test {gs : List (Str × NameKind)} {ps : List Nat} {p q i j : Nat} (hp : ps[j]? = some p) (hq : ps[j + 1]? = some q) (hj : j < 1000) {p1 p2 p3 p4 p5 p6 p7 p8 p9 p10 p11 p12 p13 p14 p15 p16 p17 : Pos} {k1 k2 k3 : Nat} :
    Tests w k gs [("i", false, .int ((i : Nat) : Int)), ("codes", true, .lst (ps.map codeV)), ("k", true, .int ((j : Nat) : Int))]
      (.Compare (.BinOp (.Subscript (.Name "codes" p1) (.Name "k" p2) p3) .RShift (.BinOp (.Constant (.int 7) k1 p4) .Mult (.Name "i" p5) p6) p7) [.Eq]
        [.BinOp (.Subscript (.Name "codes" p8) (.BinOp (.Name "k" p9) .Add (.Constant (.int 1) k2 p10) p11) p12) .RShift (.BinOp (.Constant (.int 7) k3 p13) .Mult (.Name "i" p14) p15) p16] p17)
      (codeN p / 2 ^ (7 * i) == codeN q / 2 ^ (7 * i)) := by
  have mul : IntMulOk 7 ((i : Nat) : Int) := IntMulOk.of_left (by decide +kernel)
  have h1 : (ps.map codeV)[j]? = some (codeV p) := by rw [List.getElem?_map, hp]; rfl
  have h2 : (ps.map codeV)[j + 1]? = some (codeV q) := by rw [List.getElem?_map, hq]; rfl
  refine Tests.to (t_cmp (ev_bin (ev_sub ev_name ev_name (it_lst (v := codeV p) (Int.natCast_nonneg _) (by omega) (by rw [Int.toNat_natCast]; exact h1))) (ev_bin ev_int ev_name (bin_mul mul)) (bin_shr (by omega)))
    (ev_bin (ev_sub ev_name (ev_bin ev_name ev_int bin_add) (it_lst (v := codeV q) (by omega) (by omega) (by rw [show (((j : Nat) : Int) + 1).toNat = j + 1 from by omega]; exact h2))) (ev_bin ev_int ev_name (bin_mul mul)) (bin_shr (by omega))) cmp_eqi) ?_
  rw [shr7, shr7, Bool.eq_iff_iff]
  simp only [beq_iff_eq]
  omega
theorem law6_0 {cs : List Nat} {p q j : Nat} {ρ : Rho} {σ : Sig} {Φ : Rho → Sig → Fl → Prop} (I : J6 ρ cs) (hk : HasC ρ "k" (.int ((j : Nat) : Int))) (hp : (cs.take 4)[j]? = some p) (hq : (cs.take 4)[j + 1]? = some q) (hj : j < 1000)
    (h : Φ (put "shared" (false, .int ((sharedN p q : Nat) : Int)) ρ) (del "shared" σ) .next) : Ex1 w k (namesN 34) ρ σ (l6 0) Φ := by
  have e : ((natsI 4).filter fun v => match v with | .int x => codeN p / 2 ^ (7 * x.toNat) == codeN q / 2 ^ (7 * x.toNat) | _ => false).length = sharedN p q := by
    unfold natsI sharedN
    rw [List.filter_map, List.length_map]; rfl
  refine x1_set (v := .int ((sharedN p q : Nat) : Int)) (evs (Evals.to (ev_call (l := [.lst (((natsI 4).filter fun v => match v with | .int x => codeN p / 2 ^ (7 * x.toNat) == codeN q / 2 ^ (7 * x.toNat) | _ => false).map fun v => v)]) (ev_glob (by kernel_rfl) g_len) (.bi _) (evl_cons (ev_comp (compIs [("codes", true, .lst ((cs.take 4).map codeV)), ("k", true, .int ((j : Nat) : Int))]
    (ev_call (l := [.int (Int.ofNat 4)]) (ev_glob (by kernel_rfl) g_range) (.typ _) (evl_cons ev_int evl_nil) c_range) (iter_rng (by decide)) (by simp [natsI]) (compl_all (fun a ha => ?_) (fun a ha _ => ev_name (by wtm_at "lk"))) (rho_cons (by kernel_rfl) I.codes (rho_cons (by kernel_rfl) hk rho_nil)))) evl_nil) (c_len_lst ?_)) (by rw [List.length_map, e]))) (asgn_local (by kernel_rfl)) h
  · unfold natsI at ha
    refine ob1_2 (List.mem_map.mp ha) fun i hi z0 => ?_; subst z0
    exact ifs_one (shared_test hp hq hj)
  · rw [List.length_map, e]
    unfold sharedN
    exact Nat.le_trans (List.length_filter_le _ _) (by simp)
theorem law6_1 {cs : List Nat} {p q j : Nat} {ρ : Rho} {σ : Sig} {Φ : Rho → Sig → Fl → Prop} (I : J6 ρ cs) (hk : HasC ρ "k" (.int ((j : Nat) : Int))) (hs : Has ρ "shared" (.int ((sharedN p q : Nat) : Int))) (hp : (cs.take 4)[j]? = some p) (hq : (cs.take 4)[j + 1]? = some q) (hj : j < 1000)
    (h : Φ ρ σ .next) : Ex1 w (k + 13) (namesN 34) ρ σ (l6 1) Φ := by
  have h1 : ((cs.take 4).map pageV)[j]? = some (pageV p) := by rw [List.getElem?_map, hp]; rfl
  have h2 : ((cs.take 4).map pageV)[j + 1]? = some (pageV q) := by rw [List.getElem?_map, hq]; rfl
  refine x1_if_f (tes (Tests.to (t_cmp (ev_call (l := [.lst [.str (dirS (nameN p)), .str (dirS (nameN q))]]) (ev_glob (by kernel_rfl) g_commonpath) (.top _ (isFn_commonpath w)) (evl_cons (ev_lst (evl_cons (ev_sub (ev_name I.pages) (ev_name hk) (it_lst (v := pageV p) (Int.natCast_nonneg _) (by omega) (by rw [Int.toNat_natCast]; exact h1)))
    (evl_cons (ev_sub (ev_name I.pages) (ev_bin (ev_name hk) ev_int bin_add) (it_lst (v := pageV q) (by omega) (by omega) (by rw [show (((j : Nat) : Int) + 1).toNat = j + 1 from by omega]; exact h2))) evl_nil)) (by simp)) evl_nil) (commonpath_ok (name_plain p) (name_plain q) (by rw [name_len]; decide) (by rw [name_len]; decide)))
    (ev_spot I.names hk hs hp hj (by decide +kernel) (by decide +kernel) (by decide +kernel) (by decide +kernel) (by decide +kernel) (by decide +kernel) (by rfl)) cmp_nes) ?_)) (ex_nil h)
  rw [com_names]; simp
theorem law6_loop {Φ : Rho → Sig → Fl → Prop} {cs : List Nat} (hc : cs.length = 10) : ∀ (todo : List Nat) (ρ : Rho) (σ : Sig), J6 ρ cs → (∀ j ∈ todo, j < 3) →
    (∀ ρ' σ', J6 ρ' cs → Φ ρ' σ' .next) → Loop w (k + 13) (namesN 34) (forT (ls 6)) (forB (ls 6)) (todo.map fun i => .int (Int.ofNat i)) ρ σ Φ
  | [], ρ, σ, I, _, hΦ => hΦ ρ σ I
  | j :: todo, ρ, σ, I, hl, hΦ => by
    have hj := hl j (by simp)
    have hlen : (cs.take 4).length = 4 := by rw [List.length_take, hc]; decide
    obtain ⟨p, hp⟩ : ∃ p, (cs.take 4)[j]? = some p := ⟨_, List.getElem?_eq_getElem (by omega)⟩
    obtain ⟨q, hq⟩ : ∃ q, (cs.take 4)[j + 1]? = some q := ⟨_, List.getElem?_eq_getElem (by omega)⟩
    obtain ⟨i1, i2, i3, i4⟩ := id I
    refine ⟨put "k" (true, .int ((j : Nat) : Int)) ρ, _, asg_name (asgn_cell (by kernel_rfl)), ?_⟩
    rw [body6]
    refine ex_cons (law6_0 (cs := cs) (p := p) (q := q) (j := j) ⟨by wtm_at "lk", by wtm_at "lk", by wtm_at "lk", by wtm_at "lk"⟩ (by wtm_at "lk") hp hq (by omega) ?_)
    refine ex_cons (law6_1 (cs := cs) (p := p) (q := q) (j := j) ⟨by wtm_at "lk", by wtm_at "lk", by wtm_at "lk", by wtm_at "lk"⟩ (by wtm_at "lk") (by wtm_at "lk") hp hq (by omega) (ex_nil ?_))
    exact law6_loop hc todo _ _ ⟨by wtm_at "lk", by wtm_at "lk", by wtm_at "lk", by wtm_at "lk"⟩ (fun i hi => hl i (by simp [hi])) hΦ
theorem law6 {Φ : Rho → Sig → Fl → Prop} {cs : List Nat} {ρ : Rho} {σ : Sig} (I : J6 ρ cs) (hc : cs.length = 10) (hΦ : ∀ ρ' σ', J6 ρ' cs → Φ ρ' σ' .next) : Ex1 w (k + 13) (namesN 34) ρ σ (ls 6) Φ := by
  refine x1_for (evs (ev_call (l := [.int (Int.ofNat 3)]) (ev_glob (by kernel_rfl) g_range) (.typ _) (evl_cons ev_int evl_nil) c_range)) (iter_rng (by decide)) ?_
  exact law6_loop hc (List.range 3) ρ σ I (fun j hj => List.mem_range.mp hj) hΦ
end
noncomputable def pickC (cs : List Nat) (c : Nat) : Nat := (cs.take 4).getD (c % 4) 0
noncomputable abbrev whN (c : Nat) : Nat := c % 4
noncomputable abbrev dpN (c : Nat) : Nat := c / 4 % 5
noncomputable abbrev kdN (c : Nat) : Nat := c / 20 % 3
noncomputable def spotN (cs : List Nat) (c : Nat) : List Nat := (nameN (pickC cs c)).take (dpN c)
noncomputable def deedC (cs : List Nat) (c : Nat) : Deed := (((codeN (pickC cs c) : Nat) : Int), dpN c, ((kdN c : Nat) : Int))
noncomputable abbrev spotV (c : Nat) : V := .tup [.int ((whN c : Nat) : Int), .int ((dpN c : Nat) : Int)]
theorem pick_at {cs : List Nat} (hc : cs.length = 10) (c : Nat) : (cs.take 4)[whN c]? = some (pickC cs c) := by
  have h : whN c < (cs.take 4).length := by rw [List.length_take, hc]; have := Nat.mod_lt c (show 4 > 0 by decide); show c % 4 < min 4 10; omega
  unfold pickC
  rw [List.getD_eq_getElem?_getD]
  show _ = some ((cs.take 4)[whN c]?.getD 0)
  rw [List.getElem?_eq_getElem h]; rfl
theorem spot_plain (cs : List Nat) (c : Nat) : Plain (spotN cs c) := (name_plain _).take _
theorem spot_len (cs : List Nat) (c : Nat) : (spotN cs c).length = dpN c := by
  unfold spotN; rw [List.length_take, name_len]
  have := Nat.mod_lt (c / 4) (show 5 > 0 by decide); show min (c / 4 % 5) 4 = c / 4 % 5; omega
structure J8 (ρ : Rho) (σ : Sig) (cs : List Nat) (rows : List Row) (dn : List Nat) : Prop where
  j : J6 ρ cs
  held : Has ρ "held" (.lst (rows.map rowT))
  done : σ.lookup ("done" : Str) = some (true, dn.map fun c => deedV (deedC cs c))
  spots : σ.lookup ("spots" : Str) = some (false, dn.map spotV)
structure K8 (ρ : Rho) (c : Nat) : Prop where
  which : Has ρ "which" (.int ((whN c : Nat) : Int))
  depth : Has ρ "depth" (.int ((dpN c : Nat) : Int))
  kind : Has ρ "kind" (.int ((kdN c : Nat) : Int))
theorem g_dirname : GlobIs "dirname" (.top 201) := glob_top fun P => by kernel_rfl
theorem g_normpath : GlobIs "normpath" (.top 208) := glob_top fun P => by kernel_rfl
theorem isFn_dirname (w : World) : IsFn w 201 := (fn_dirname w).isFn
theorem isFn_normpath (w : World) : IsFn w 208 := (fn_normpath w).isFn
noncomputable def repUp (n : Nat) : List Nat := (List.replicate n [46, 46, 47]).flatten
section
variable {w : World} {k : Nat}
theorem law7 {ρ : Rho} {σ : Sig} {Φ : Rho → Sig → Fl → Prop} (h : Φ (del "spots" (del "done" (del "held" ρ))) (put "spots" (false, []) (put "done" (true, []) (put "held" (false, []) σ))) .next) : Ex1 w k (namesN 34) ρ σ (ls 7) Φ :=
  x1_own3 (cx := false) (cy := true) (cz := false) (by kernel_rfl) (by kernel_rfl) (by kernel_rfl) h (by intro _; rfl) fun env h1 h2 => (swap_env h1 h2).trans (by kernel_rfl)
noncomputable def l8 (j : Nat) : Stmt := stN (forB (ls 8)) j
theorem body8 : forB (ls 8) = [l8 0, l8 1, l8 2, l8 3, l8 4, l8 5, l8 6, l8 7, l8 8, l8 9] := by kernel_rfl
theorem law8_0 {c : Nat} {ρ : Rho} {σ : Sig} {Φ : Rho → Sig → Fl → Prop} (hc : Has ρ "cell" (.int ((c : Nat) : Int)))
    (h : Φ (put "which" (false, .int ((whN c : Nat) : Int)) (put "depth" (false, .int ((dpN c : Nat) : Int)) (put "kind" (false, .int ((kdN c : Nat) : Int)) ρ))) (del "which" (del "depth" (del "kind" σ))) .next) : Ex1 w k (namesN 34) ρ σ (l8 0) Φ := by
  have f4 : ∀ a : Nat, Int.fmod (a : Int) 4 = ((a % 4 : Nat) : Int) := fun a => fmodN a 4
  have f5 : ∀ a : Nat, Int.fmod (a : Int) 5 = ((a % 5 : Nat) : Int) := fun a => fmodN a 5
  have f3 : ∀ a : Nat, Int.fmod (a : Int) 3 = ((a % 3 : Nat) : Int) := fun a => fmodN a 3
  have d4 : ∀ a : Nat, Int.fdiv (a : Int) 4 = ((a / 4 : Nat) : Int) := fun a => fdivN a 4
  have d20 : ∀ a : Nat, Int.fdiv (a : Int) 20 = ((a / 20 : Nat) : Int) := fun a => fdivN a 20
  refine x1_swap (ns := ["which", "depth", "kind"]) (l := [.int ((whN c : Nat) : Int), .int ((dpN c : Nat) : Int), .int ((kdN c : Nat) : Int)]) (evs (ev_tup (evl_cons (Evals.to (ev_bin (ev_name hc) ev_int (bin_mod (by decide))) (by rw [f4]))
    (evl_cons (Evals.to (ev_bin (ev_bin (ev_name hc) ev_int (bin_div (by decide) (PyProof.noPylong_small (by decide)))) ev_int (bin_mod (by decide))) (by rw [d4, f5]))
    (evl_cons (Evals.to (ev_bin (ev_bin (ev_name hc) ev_int (bin_div (by decide) (PyProof.noPylong_small (by decide)))) ev_int (bin_mod (by decide))) (by rw [d20, f3])) evl_nil))) (by simp)))
    (.cons _ _ _ _ _ _ _ _ _ _ (asgn_local (by kernel_rfl)) (.cons _ _ _ _ _ _ _ _ _ _ (asgn_local (by kernel_rfl)) (.cons _ _ _ _ _ _ _ _ _ _ (asgn_local (by kernel_rfl)) (.nil _ _)))) rfl h (by intro _; rfl) ?_
  exact fun env h1 h2 => (swap_env h1 h2).trans (by kernel_rfl)
theorem law8_1 {cs : List Nat} {c : Nat} {ρ : Rho} {σ : Sig} {Φ : Rho → Sig → Fl → Prop} (hc : cs.length = 10) (I : J6 ρ cs) (K : K8 ρ c)
    (h : Φ (put "spot" (true, .str (dirS (nameN (pickC cs c)))) ρ) (del "spot" σ) .next) : Ex1 w k (namesN 34) ρ σ (l8 1) Φ := by
  have h1 : ((cs.take 4).map pageV)[whN c]? = some (pageV (pickC cs c)) := by rw [List.getElem?_map, pick_at hc]; rfl
  have hlt : whN c < 4 := Nat.mod_lt _ (by decide)
  exact x1_set (evs (ev_sub (ev_name I.pages) (ev_name K.which) (it_lst (v := pageV (pickC cs c)) (Int.natCast_nonneg _) (by omega) (by rw [Int.toNat_natCast]; exact h1)))) (asgn_cell (by kernel_rfl)) h
structure J82 (ρ : Rho) (σ : Sig) (cs : List Nat) (rows : List Row) (dn : List Nat) (c : Nat) (sp : List Nat) : Prop where
  j : J6 ρ cs
  held : Has ρ "held" (.lst (rows.map rowT))
  done : σ.lookup ("done" : Str) = some (true, dn.map fun c => deedV (deedC cs c))
  spots : σ.lookup ("spots" : Str) = some (false, dn.map spotV)
  kk : K8 ρ c
  spot : HasC ρ "spot" (.str (dirS sp))
noncomputable def l82 (j : Nat) : Stmt := stN (forB (l8 2)) j
theorem body82 : forB (l8 2) = [l82 0] := by kernel_rfl
theorem law82_0 {sp : List Nat} {x : Nat} {ρ : Rho} {σ : Sig} {Φ : Rho → Sig → Fl → Prop} (hp : Plain (sp ++ [x])) (hl : sp.length ≤ 1000) (hs : HasC ρ "spot" (.str (dirS (sp ++ [x]))))
    (h : Φ (put "spot" (true, .str (dirS sp)) ρ) (del "spot" σ) .next) : Ex1 w (k + 3) (namesN 34) ρ σ (l82 0) Φ :=
  x1_set (evs (ev_call (ev_glob (by kernel_rfl) g_dirname) (.top _ (isFn_dirname w)) (evl_cons (ev_name hs) evl_nil) (dirname_ok hp hl))) (asgn_cell (by kernel_rfl)) h
theorem law82_loop {Φ : Rho → Sig → Fl → Prop} {cs : List Nat} {rows : List Row} {dn : List Nat} {c : Nat} : ∀ (todo : List V) (sp : List Nat) (ρ : Rho) (σ : Sig), J82 ρ σ cs rows dn c sp → Plain sp → todo.length ≤ sp.length → sp.length ≤ 4 →
    (∀ ρ' σ', J82 ρ' σ' cs rows dn c (sp.take (sp.length - todo.length)) → Φ ρ' σ' .next) → Loop w (k + 3) (namesN 34) (forT (l8 2)) (forB (l8 2)) todo ρ σ Φ
  | [], sp, ρ, σ, I, _, _, _, hΦ => hΦ ρ σ (by simpa using I)
  | v :: todo, sp, ρ, σ, I, hp, hl, h4, hΦ => by
    have hne : sp ≠ [] := by intro e; rw [e] at hl; simp at hl
    obtain ⟨ds, d, rfl⟩ : ∃ ds d, sp = ds ++ [d] := ⟨sp.dropLast, sp.getLast hne, (List.dropLast_concat_getLast hne).symm⟩
    simp only [List.length_cons, List.length_append, List.length_nil] at hl h4
    obtain ⟨⟨i1, i2, i3, i4⟩, i5, i6, i7, ⟨i8, i9, i10⟩, i11⟩ := id I
    refine ⟨_, _, asg_name (asgn_local (by kernel_rfl)), ?_⟩
    rw [body82]
    refine ex_cons (law82_0 (k := k) (sp := ds) (x := d) hp (by omega) (by wtm_at "lk") (ex_nil ?_))
    refine law82_loop todo ds _ _ ⟨⟨by wtm_at "lk", by wtm_at "lk", by wtm_at "lk", by wtm_at "lk"⟩, by wtm_at "lk", by wtm_at "lk", by wtm_at "lk", ⟨by wtm_at "lk", by wtm_at "lk", by wtm_at "lk"⟩, by wtm_at "lk"⟩ hp.of_app.1 (by omega) (by omega) fun ρ' σ' I' => hΦ ρ' σ' ?_
    have e : (ds ++ [d]).take ((ds ++ [d]).length - (v :: todo).length) = ds.take (ds.length - todo.length) := by
      simp only [List.length_append, List.length_cons, List.length_nil]
      rw [List.take_append_of_le_length (by omega)]
      congr 1; omega
    rw [e]; exact I'
theorem dp_lt (c : Nat) : dpN c < 5 := Nat.mod_lt _ (by decide)
theorem sub4 (c : Nat) : (4 : Int) - ((dpN c : Nat) : Int) = Int.ofNat (4 - dpN c) := by
  have := dp_lt c
  show (4 : Int) - ((c / 4 % 5 : Nat) : Int) = ((4 - c / 4 % 5 : Nat) : Int)
  have h : c / 4 % 5 < 5 := this
  omega
theorem law8_2 {Φ : Rho → Sig → Fl → Prop} {cs : List Nat} {rows : List Row} {dn : List Nat} {c : Nat} {ρ : Rho} {σ : Sig} (I : J82 ρ σ cs rows dn c (nameN (pickC cs c)))
    (hΦ : ∀ ρ' σ', J82 ρ' σ' cs rows dn c (spotN cs c) → Φ ρ' σ' .next) : Ex1 w (k + 3) (namesN 34) ρ σ (l8 2) Φ := by
  have h5 := dp_lt c
  refine x1_for (evs (ev_call (l := [.int (Int.ofNat (4 - dpN c))]) (ev_glob (by kernel_rfl) g_range) (.typ _) (evl_cons (Evals.to (ev_bin ev_int (ev_name I.kk.depth) bin_sub) (by rw [sub4])) evl_nil) c_range)) (iter_rng (by omega)) ?_
  refine law82_loop (natsI (4 - dpN c)) (nameN (pickC cs c)) ρ σ I (name_plain _) (by rw [natsI_len, name_len]; omega) (Nat.le_of_ble_eq_true rfl) fun ρ' σ' I' => hΦ ρ' σ' ?_
  rw [natsI_len, name_len] at I'
  have e : 4 - (4 - dpN c) = dpN c := by omega
  rw [e] at I'
  exact I'
end
theorem up_page {a b c d n : Nat} (hd : d ≠ 47) (hn : n ≤ 4) : joinL (dirL [a, b, c, d]) (repUp n) = 47 :: gl 47 (upsP [a, b, c, d] n) := by
  have h : joinL (dirL [a, b, c, d]) (repUp n) = dirL [a, b, c, d] ++ 47 :: repUp n := by
    unfold joinL
    rw [if_neg]
    show ¬ (some d = some 47)
    intro e; exact hd (Option.some.inj e)
  rw [h]
  obtain rfl | rfl | rfl | rfl | rfl : n = 0 ∨ n = 1 ∨ n = 2 ∨ n = 3 ∨ n = 4 := by omega
  all_goals rfl
theorem repUp_str {n : Nat} (hn : n ≤ 4) : (⟨(List.replicate n (Str.ofString "../").cps).foldl (· ++ ·) #[]⟩ : Str) = S (repUp n) := by
  obtain rfl | rfl | rfl | rfl | rfl : n = 0 ∨ n = 1 ∨ n = 2 ∨ n = 3 ∨ n = 4 := by omega
  all_goals decide +kernel
theorem repUp_len (n : Nat) : (repUp n).length = 3 * n := by
  unfold repUp
  rw [List.length_flatten, List.map_replicate, List.sum_replicate_nat]; simp; omega
theorem repUp_0 (n : Nat) : (repUp n)[0]? ≠ some 47 := by
  cases n with
  | zero => simp [repUp]
  | succ n => simp [repUp, List.replicate_succ]
section
variable {w : World} {k : Nat}
theorem law8_3 {Φ : Rho → Sig → Fl → Prop} {cs : List Nat} {rows : List Row} {dn : List Nat} {c : Nat} {ρ : Rho} {σ : Sig} (hc : cs.length = 10) (I : J82 ρ σ cs rows dn c (spotN cs c)) (h : Φ ρ σ .next) : Ex1 w (k + 4) (namesN 34) ρ σ (l8 3) Φ := by
  have h5 := dp_lt c
  have hlt : whN c < 4 := Nat.mod_lt _ (by decide)
  have h1 : ((cs.take 4).map pageV)[whN c]? = some (pageV (pickC cs c)) := by rw [List.getElem?_map, pick_at hc]; rfl
  have hpl := name_plain (pickC cs c)
  have hj := join_ok (w := w) (k := k + 1) (l := dirL (nameN (pickC cs c))) (m := repUp (4 - dpN c)) (by simp [nameN, dirL, one, gl]) (repUp_0 _) (by simp [nameN, dirL, one, gl]) (by rw [repUp_len]; omega)
  have hu : joinL (dirL (nameN (pickC cs c))) (repUp (4 - dpN c)) = 47 :: gl 47 (upsP (nameN (pickC cs c)) (4 - dpN c)) := up_page (hpl _ (by simp [nameN])).1 (by omega)
  rw [hu] at hj
  have hn := normpath_ok (w := w) (k := k) (c := nmv (valN (pickC cs c) 0)) (cs := [nmv (valN (pickC cs c) 1), nmv (valN (pickC cs c) 2), nmv (valN (pickC cs c) 3)]) (n := 4 - dpN c) hpl (by simp) (by simp only [List.length_cons, List.length_nil]; omega)
  have e4 : 4 - (4 - dpN c) = dpN c := by omega
  have hn' : CallOk w (k + 4) (.top 208) [.str (S (47 :: gl 47 (upsP (nameN (pickC cs c)) (4 - dpN c))))] (.str (dirS (spotN cs c))) := by
    have : spotN cs c = (nameN (pickC cs c)).take ([nmv (valN (pickC cs c) 0), nmv (valN (pickC cs c) 1), nmv (valN (pickC cs c) 2), nmv (valN (pickC cs c) 3)].length - (4 - dpN c)) := by
      unfold spotN; congr 1; simp only [List.length_cons, List.length_nil]; omega
    rw [this]; exact hn
  refine x1_if_f (tes (t_op (or_go (Tests.to (t_cmp (ev_name I.spot) (ev_spot I.j.names I.kk.which I.kk.depth (pick_at hc c) (by omega) (by decide +kernel) (by decide +kernel) (by decide +kernel) (by decide +kernel) (by decide +kernel) (by decide +kernel) (by rfl)) cmp_nes) ?_)
    (or_go (Tests.to (t_cmp (ev_name I.spot) (ev_call (l := [.str (S (47 :: gl 47 (upsP (nameN (pickC cs c)) (4 - dpN c))))]) (ev_glob (by kernel_rfl) g_normpath) (.top _ (isFn_normpath w)) (evl_cons (ev_call (l := [pageV (pickC cs c), .str (S (repUp (4 - dpN c)))]) (ev_glob (by kernel_rfl) g_join) (.top _ (isFn_join w))
      (evl_cons (ev_sub (ev_name I.j.pages) (ev_name I.kk.which) (it_lst (v := pageV (pickC cs c)) (Int.natCast_nonneg _) (by omega) (by rw [Int.toNat_natCast]; exact h1)))
      (evl_cons (ev_bin ev_str (Evals.to (ev_bin ev_int (ev_name I.kk.depth) bin_sub) (by rw [sub4]; rfl)) (bin_muls (n := 4 - dpN c) (by show 3 * (4 - dpN c) ≤ 1000000; omega) (by omega) (repUp_str (by omega)))) evl_nil)) hj) evl_nil) hn') cmp_nes) ?_) or_nil)))) (ex_nil h)
  · unfold spotN; simp
  · simp
theorem g_law_book : GlobIs "_law_book" (.top 239) := glob_top fun P => by kernel_rfl
theorem law8_4 {rows : List Row} {ρ : Rho} {σ : Sig} {Φ : Rho → Sig → Fl → Prop} (hw : w.free = true) (hl : rows.length ≤ 1000) (hh : Has ρ "held" (.lst (rows.map rowT)))
    (h : Φ (put "book" (true, .ent (rows.map rowV)) ρ) (del "book" σ) .next) : Ex1 w (k + 3) (namesN 34) ρ σ (l8 4) Φ :=
  x1_set (evs (ev_call (ev_glob (by kernel_rfl) g_law_book) (.top _ (fn_law_book w).isFn) (evl_cons (ev_name hh) evl_nil) (law_book_ok hw hl))) (asgn_cell (by kernel_rfl)) h
theorem compl_gen {β : Type} {gs : List (Str × NameKind)} {ρ : Rho} {x : Str} {ifs : List Expr} {elt : Expr} {t g : β → V} {P : β → Bool} : ∀ {items : List β}, (∀ a ∈ items, IfsOk w k gs ((x, false, t a) :: ρ) ifs (P a)) → (∀ a ∈ items, P a = true → Evals w k gs ((x, false, t a) :: ρ) elt (g a)) →
    CompL w k gs ρ x ifs elt (items.map t) ((items.filter P).map g)
  | [], _, _ => rfl
  | a :: r, h1, h2 => by
    have ih := compl_gen (items := r) (fun b hb => h1 b (List.mem_cons_of_mem _ hb)) (fun b hb => h2 b (List.mem_cons_of_mem _ hb))
    have ha := h1 a (by simp)
    cases hp : P a with
    | false =>
      rw [hp] at ha
      rw [List.filter_cons, hp]
      exact cl_skip ha ih
    | true =>
      rw [hp] at ha
      rw [List.filter_cons, hp]
      exact cl_cons ha (h2 a (by simp) hp) ih
structure RowOk (r : Row) : Prop where
  plain : Plain r.1
  len : r.1.length ≤ 4
  small : ∀ c ∈ r.1, c < 1114112
theorem dirL_mem {cs : List Nat} : ∀ x ∈ dirL cs, x = 47 ∨ x ∈ cs := by
  have key : ∀ (cs : List Nat), ∀ x ∈ gl 47 (one cs), x = 47 ∨ x ∈ cs := by
    intro cs
    induction cs with
    | nil => intro x hx; simp [one, gl] at hx
    | cons c cs ih =>
      intro x hx
      cases cs with
      | nil => simp [one, gl] at hx; simp [hx]
      | cons d ds =>
        have e : gl 47 (one (c :: d :: ds)) = c :: 47 :: gl 47 (one (d :: ds)) := rfl
        rw [e] at hx
        rcases List.mem_cons.mp hx with rfl | hx
        · simp
        rcases List.mem_cons.mp hx with rfl | hx
        · simp
        · rcases ih x hx with h | h
          · exact .inl h
          · exact .inr (List.mem_cons_of_mem _ h)
  intro x hx
  cases cs with
  | nil => left; simpa [dirL] using hx
  | cons c cs =>
    have e : dirL (c :: cs) = 47 :: gl 47 (one (c :: cs)) := rfl
    rw [e] at hx
    rcases List.mem_cons.mp hx with rfl | hx
    · exact .inl rfl
    · exact key _ x hx
theorem rowOk_dat {r : Row} (h : RowOk r) : datB (rowT r) = true := by
  simp only [rowT, datB, datBs, Bool.and_true]
  unfold PyData.strOk
  rw [Array.all_eq_true']
  intro x hx
  have : x ∈ dirL r.1 := by simpa [dirS, S] using hx
  rcases dirL_mem x this with rfl | h'
  · decide
  · simpa using h.small x h'
theorem rows_dat : ∀ {rows : List Row}, (∀ r ∈ rows, RowOk r) → datBs (rows.map rowT) = true
  | [], _ => rfl
  | r :: rows, h => by
    have ih := rows_dat (rows := rows) fun q hq => h q (List.mem_cons_of_mem _ hq)
    have h1 := rowOk_dat (h r (List.mem_cons_self ..))
    simp only [List.map_cons, datBs]
    rw [h1, ih]; rfl
theorem row_eqv {r q : Row} (hr : RowOk r) (hq : RowOk q) : PyData.eqv (toPD (rowT r)) (toPD (rowT q)) = (r == q) := by
  simp only [rowT, toPD, toPDs, PyData.eqv, PyData.eqvAll, Bool.and_true]
  obtain ⟨a, b⟩ := r
  obtain ⟨c, d⟩ := q
  rw [Bool.eq_iff_iff]
  simp only [Bool.and_eq_true, beq_iff_eq, Prod.mk.injEq]
  constructor
  · rintro ⟨h1, h2⟩; exact ⟨dirS_inj hr.plain hq.plain h1, h2⟩
  · rintro ⟨rfl, rfl⟩; exact ⟨rfl, rfl⟩
theorem toPDs_map : ∀ l : List V, toPDs l = l.map toPD
  | [] => rfl
  | x :: l => by simp only [toPDs, List.map_cons, toPDs_map l]
theorem depth_row (r : Row) : (toPD (rowT r)).depth ≤ 50 := by
  have : (toPD (rowT r)).depth = 1 := by simp only [rowT, toPD, toPDs, PyData.depth, PyData.depthAll]; rfl
  omega
noncomputable def insideF (held : List Row) (sp : List Nat) : List Row := held.filter fun r => com sp r.1 == sp
noncomputable def restF (held : List Row) (sp : List Nat) : List Row := held.filter fun r => !(com sp r.1 == sp)
theorem law8_5 {rows : List Row} {sp : List Nat} {ρ : Rho} {σ : Sig} {Φ : Rho → Sig → Fl → Prop} (hl : rows.length ≤ 1000) (ho : ∀ r ∈ rows, RowOk r) (hsp : Plain sp) (hsl : sp.length ≤ 4) (hh : Has ρ "held" (.lst (rows.map rowT))) (hs : HasC ρ "spot" (.str (dirS sp)))
    (h : Φ (put "inside" (true, .lst ((insideF rows sp).map rowT)) ρ) (del "inside" σ) .next) : Ex1 w (k + 13) (namesN 34) ρ σ (l8 5) Φ := by
  refine x1_compC (v := .lst ((insideF rows sp).map rowT)) (evs (ev_comp (compIs [("spot", true, .str (dirS sp))] (ev_name hh) iter_lst (by simp; omega) (compl_gen (fun r hr => ?_) (fun r hr _ => ev_name (by wtm_at "lk"))) (rho_cons (by kernel_rfl) hs rho_nil)))) (asgn_cell (by kernel_rfl)) h ?_
  · have o := ho r hr
    refine ifs_one (Tests.to (t_cmp (ev_call (l := [.lst [.str (dirS sp), .str (dirS r.1)]]) (ev_glob (by kernel_rfl) g_commonpath) (.top _ (isFn_commonpath w)) (evl_cons (ev_lst (evl_cons ev_name (evl_cons (ev_sub ev_name ev_int (it_tup (v := .str (dirS r.1)) (by decide) (by decide) rfl)) evl_nil)) (by simp)) evl_nil)
      (commonpath_ok hsp o.plain (by omega) (by have := o.len; omega))) ev_name cmp_eqs) (by rw [dirS_beq (com_plain_l hsp) hsp, Bool.eq_iff_iff]; simp))
  · intro env he
    show (pure (env.blockKind == .function && env.kindOf "inside" == some .local && _ && _) : Sem Bool) = _
    rw [he]
    have : ((namesN 34).lookup ("inside" : Str) == some NameKind.local) = false := by kernel_rfl
    rw [this, Bool.and_false]; rfl
theorem law8_6 {rows : List Row} {sp : List Nat} {ρ : Rho} {σ : Sig} {Φ : Rho → Sig → Fl → Prop} (hl : rows.length ≤ 1000) (ho : ∀ r ∈ rows, RowOk r) (hh : Has ρ "held" (.lst (rows.map rowT))) (hs : HasC ρ "inside" (.lst ((insideF rows sp).map rowT)))
    (h : Φ (put "rest" (false, .lst ((restF rows sp).map rowT)) ρ) (del "rest" σ) .next) : Ex1 w (k + 13) (namesN 34) ρ σ (l8 6) Φ := by
  have hin : ∀ r ∈ insideF rows sp, RowOk r := fun r hr => ho r (List.mem_filter.mp hr).1
  refine x1_comp (outs := (restF rows sp).map rowT) (compIs [("inside", true, .lst ((insideF rows sp).map rowT))] (ev_name hh) iter_lst (by simp; omega) (compl_gen (fun r hr => ?_) (fun r hr _ => ev_name (by wtm_at "lk"))) (rho_cons (by kernel_rfl) hs rho_nil)) (by kernel_rfl) h (by kernel_rfl)
  refine ifs_one (Tests.to (t_cmp ev_name ev_name (cmp_notind (rowOk_dat (ho r hr)) (rows_dat hin) (depth_row r))) ?_)
  rw [toPDs_map, List.map_map, List.any_map]
  congr 1
  rw [Bool.eq_iff_iff, List.any_eq_true]
  constructor
  · rintro ⟨q, hq, hqe⟩
    have hqe' : PyData.eqv (toPD (rowT q)) (toPD (rowT r)) = true := hqe
    rw [row_eqv (hin q hq) (ho r hr), beq_iff_eq] at hqe'
    subst hqe'
    exact (List.mem_filter.mp hq).2
  · intro hc
    refine ⟨r, List.mem_filter.mpr ⟨hr, hc⟩, ?_⟩
    show PyData.eqv (toPD (rowT r)) (toPD (rowT r)) = true
    rw [row_eqv (ho r hr) (ho r hr), beq_iff_eq]
end
noncomputable def turnedF (held : List Row) (sp : List Nat) : List Row := ((insideF held sp).filter fun r => r.1 != sp).map fun r => (r.1, !r.2)
noncomputable def aboveF (held : List Row) (sp : List Nat) : Bool := if 0 < sp.length then allowF held sp.dropLast else true
noncomputable def stepH (held : List Row) (sp : List Nat) (kd : Nat) : List Row :=
  if kd = 2 then restF held sp ++ turnedF held sp ++ (if (turnedF held sp).length = (insideF held sp).length then [(sp, !allowF held sp)] else [])
  else restF held sp ++ (if aboveF held sp != decide (kd = 1) then [(sp, decide (kd = 1))] else [])
noncomputable def ifB : Stmt → List Stmt | .If _ b _ _ => b | _ => []
noncomputable def ifE : Stmt → List Stmt | .If _ _ b _ => b | _ => []
noncomputable def l87b (j : Nat) : Stmt := stN (ifB (l8 7)) j
noncomputable def l87e (j : Nat) : Stmt := stN (ifE (l8 7)) j
theorem body87b : ifB (l8 7) = [l87b 0, l87b 1] := by kernel_rfl
theorem body87e : ifE (l8 7) = [l87e 0, l87e 1] := by kernel_rfl
theorem inside_le (held : List Row) (sp : List Nat) : (insideF held sp).length ≤ held.length := List.length_filter_le _ _
theorem rest_le (held : List Row) (sp : List Nat) : (restF held sp).length ≤ held.length := List.length_filter_le _ _
theorem turned_le (held : List Row) (sp : List Nat) : (turnedF held sp).length ≤ held.length := by
  unfold turnedF; rw [List.length_map]; exact Nat.le_trans (List.length_filter_le _ _) (inside_le _ _)
section
variable {w : World} {k : Nat}
theorem law87_0 {rows : List Row} {sp : List Nat} {ρ : Rho} {σ : Sig} {Φ : Rho → Sig → Fl → Prop} (hl : rows.length ≤ 1000) (ho : ∀ r ∈ rows, RowOk r) (hsp : Plain sp) (hi : HasC ρ "inside" (.lst ((insideF rows sp).map rowT))) (hs : HasC ρ "spot" (.str (dirS sp)))
    (h : Φ (put "turned" (false, .lst ((turnedF rows sp).map rowT)) ρ) (del "turned" σ) .next) : Ex1 w k (namesN 34) ρ σ (l87b 0) Φ := by
  have hle := inside_le rows sp
  refine x1_comp (outs := (turnedF rows sp).map rowT) (compIs [("spot", true, .str (dirS sp))] (ev_name hi) iter_lst (by simp; omega) (CompL.to (compl_gen (P := fun r => r.1 != sp) (g := fun r => rowT (r.1, !r.2)) (fun r hr => ?_) (fun r hr _ => ?_)) ?_) (rho_cons (by kernel_rfl) hs rho_nil)) (by kernel_rfl) h (by kernel_rfl)
  · have o := ho r (List.mem_filter.mp hr).1
    refine ifs_one (Tests.to (t_cmp (ev_sub ev_name ev_int (it_tup (v := .str (dirS r.1)) (by decide) (by decide) rfl)) ev_name cmp_nes) ?_)
    have := dirS_beq o.plain hsp
    simp only [bne, this]
    congr 1
    rw [Bool.eq_iff_iff]; simp
  · exact ev_tup (evl_cons (ev_sub ev_name ev_int (it_tup (v := .str (dirS r.1)) (by decide) (by decide) rfl)) (evl_cons (ev_not (ev_sub ev_name ev_int (it_tup (v := .bool r.2) (by decide) (by decide) rfl)) tr_bool) evl_nil)) (by simp)
  · unfold turnedF; rw [List.map_map]; rfl
theorem law87_1 {rows : List Row} {sp : List Nat} {ρ : Rho} {σ : Sig} {Φ : Rho → Sig → Fl → Prop} (hl : rows.length ≤ 1000) (ho : ∀ r ∈ rows, RowOk r) (hsp : Plain sp) (hsl : sp.length ≤ 4) (hi : HasC ρ "inside" (.lst ((insideF rows sp).map rowT))) (hs : HasC ρ "spot" (.str (dirS sp)))
    (ht : Has ρ "turned" (.lst ((turnedF rows sp).map rowT))) (hr : Has ρ "rest" (.lst ((restF rows sp).map rowT))) (hb : HasC ρ "book" (.ent (rows.map rowV)))
    (h : Φ (put "held" (false, .lst ((stepH rows sp 2).map rowT)) ρ) (del "held" σ) .next) : Ex1 w (k + 15) (namesN 34) ρ σ (l87b 1) Φ := by
  have h1 := inside_le rows sp; have h2 := rest_le rows sp; have h3 := turned_le rows sp
  have e : stepH rows sp 2 = restF rows sp ++ turnedF rows sp ++ (if (turnedF rows sp).length = (insideF rows sp).length then [(sp, !allowF rows sp)] else []) := by unfold stepH; rw [if_pos rfl]
  rw [e] at h
  refine x1_set (evs (Evals.to (ev_bin (b := .lst ((if (turnedF rows sp).length = (insideF rows sp).length then [((sp, !allowF rows sp) : Row)] else []).map rowT)) (ev_bin (ev_name hr) (ev_name ht) (bin_addl (by simp; omega))) ?_ (bin_addl (by
    simp only [List.length_append, List.length_map]; split <;> simp <;> omega))) (by rw [List.map_append, List.map_append]))) (asgn_local (by kernel_rfl)) h
  by_cases hq : (turnedF rows sp).length = (insideF rows sp).length
  · rw [if_pos hq]
    refine ev_if_t (Tests.to (t_cmp (ev_call (ev_glob (by kernel_rfl) g_len) (.bi _) (evl_cons (ev_name ht) evl_nil) (c_len_lst (by rw [List.length_map]; omega))) (ev_call (ev_glob (by kernel_rfl) g_len) (.bi _) (evl_cons (ev_name hi) evl_nil) (c_len_lst (by rw [List.length_map]; omega))) cmp_eqi) (by simp [hq])) ?_
    exact ev_lst (evl_cons (ev_tup (evl_cons (ev_name hs) (evl_cons (ev_not (ev_entcall (ev_name hb) (ev_name hs) (allowance_ok hsp (by omega) fun r hr => ⟨(ho r hr).plain, by have := (ho r hr).len; omega⟩)) tr_bool) evl_nil)) (by simp)) evl_nil) (by simp)
  · rw [if_neg hq]
    refine ev_if_f (Tests.to (t_cmp (ev_call (ev_glob (by kernel_rfl) g_len) (.bi _) (evl_cons (ev_name ht) evl_nil) (c_len_lst (by rw [List.length_map]; omega))) (ev_call (ev_glob (by kernel_rfl) g_len) (.bi _) (evl_cons (ev_name hi) evl_nil) (c_len_lst (by rw [List.length_map]; omega))) cmp_eqi) ?_) ?_
    · rw [List.length_map, List.length_map]; simp; omega
    · exact ev_lst evl_nil (by simp)
theorem law87_2 {rows : List Row} {sp : List Nat} {c : Nat} {ρ : Rho} {σ : Sig} {Φ : Rho → Sig → Fl → Prop} (ho : ∀ r ∈ rows, RowOk r) (hsp : Plain sp) (hsl : sp.length ≤ 4) (hd : Has ρ "depth" (.int ((sp.length : Nat) : Int))) (hs : HasC ρ "spot" (.str (dirS sp))) (hb : HasC ρ "book" (.ent (rows.map rowV)))
    (h : Φ (put "above" (false, .bool (aboveF rows sp)) ρ) (del "above" σ) .next) : Ex1 w (k + 15) (namesN 34) ρ σ (l87e 0) Φ := by
  refine x1_set (v := .bool (aboveF rows sp)) (evs ?_) (asgn_local (by kernel_rfl)) h
  unfold aboveF
  by_cases hq : 0 < sp.length
  · rw [if_pos hq]
    have hne : sp ≠ [] := by intro e; rw [e] at hq; simp at hq
    obtain ⟨ds, d, rfl⟩ : ∃ ds d, sp = ds ++ [d] := ⟨sp.dropLast, sp.getLast hne, (List.dropLast_concat_getLast hne).symm⟩
    rw [List.dropLast_concat]
    simp only [List.length_append, List.length_cons, List.length_nil] at hsl
    refine ev_if_t (Tests.to (t_cmp (ev_name hd) ev_int cmp_gt) (by simp)) ?_
    exact ev_entcall (ev_name hb) (ev_call (ev_glob (by kernel_rfl) g_dirname) (.top _ (isFn_dirname w)) (evl_cons (ev_name hs) evl_nil) (dirname_ok (k := k + 12) hsp (by omega))) (allowance_ok hsp.of_app.1 (by omega) fun r hr => ⟨(ho r hr).plain, by have := (ho r hr).len; omega⟩)
  · rw [if_neg hq]
    exact ev_if_f (Tests.to (t_cmp (ev_name hd) ev_int cmp_gt) (decide_eq_false (by omega))) ev_bool
theorem law87_3 {rows : List Row} {sp : List Nat} {kd : Nat} {ρ : Rho} {σ : Sig} {Φ : Rho → Sig → Fl → Prop} (hl : rows.length ≤ 1000) (hk2 : kd ≠ 2) (hs : HasC ρ "spot" (.str (dirS sp)))
    (ha : Has ρ "above" (.bool (aboveF rows sp))) (hr : Has ρ "rest" (.lst ((restF rows sp).map rowT))) (hk : Has ρ "kind" (.int ((kd : Nat) : Int)))
    (h : Φ (put "held" (false, .lst ((stepH rows sp kd).map rowT)) ρ) (del "held" σ) .next) : Ex1 w k (namesN 34) ρ σ (l87e 1) Φ := by
  have h2 := rest_le rows sp
  have e : stepH rows sp kd = restF rows sp ++ (if aboveF rows sp != decide (kd = 1) then [(sp, decide (kd = 1))] else []) := by unfold stepH; rw [if_neg hk2]
  rw [e] at h
  have kk : ∀ {gs : List (Str × NameKind)} {p1 p2 p3 : Pos} {k1 : Nat}, Evals w k gs ρ (.Compare (.Name "kind" p1) [.Eq] [.Constant (.int 1) k1 p2] p3) (.bool (decide (kd = 1))) := fun {gs p1 p2 p3 k1} => by
    refine Evals.to (ev_cmp (ev_name hk) ev_int cmp_eqi) ?_
    have q : (((kd : Nat) : Int) == 1) = decide (kd = 1) := by
      by_cases h1 : kd = 1
      · subst h1; rfl
      · have h2 : ((kd : Nat) : Int) ≠ 1 := by omega
        simp [h1, h2]
    rw [q]
  refine x1_set (evs (Evals.to (ev_bin (b := .lst ((if aboveF rows sp != decide (kd = 1) then [((sp, decide (kd = 1)) : Row)] else []).map rowT)) (ev_name hr) ?_ (bin_addl (by
    have hx : (if (aboveF rows sp != decide (kd = 1)) = true then [((sp, decide (kd = 1)) : Row)] else []).length ≤ 1 := by split <;> simp
    simp only [List.length_map]; omega))) (by rw [List.map_append]))) (asgn_local (by kernel_rfl)) h
  cases hq : aboveF rows sp != decide (kd = 1)
  · rw [if_neg (by simp)]
    exact ev_if_f (Tests.to (t_cmp (ev_name ha) kk cmp_neb) hq) (ev_lst evl_nil (by simp))
  · rw [if_pos rfl]
    exact ev_if_t (Tests.to (t_cmp (ev_name ha) kk cmp_neb) hq) (ev_lst (evl_cons (ev_tup (evl_cons (ev_name hs) (evl_cons kk evl_nil)) (by simp)) evl_nil) (by simp))
structure J87 (ρ : Rho) (σ : Sig) (cs : List Nat) (rows : List Row) (dn : List Nat) (c : Nat) : Prop where
  j : J6 ρ cs
  held : Has ρ "held" (.lst (rows.map rowT))
  done : σ.lookup ("done" : Str) = some (true, dn.map fun c => deedV (deedC cs c))
  spots : σ.lookup ("spots" : Str) = some (false, dn.map spotV)
  kk : K8 ρ c
theorem kd_lt (c : Nat) : kdN c < 3 := Nat.mod_lt _ (by decide)
theorem law8_7 {Φ : Rho → Sig → Fl → Prop} {cs : List Nat} {rows : List Row} {dn : List Nat} {c : Nat} {ρ : Rho} {σ : Sig} (hl : rows.length ≤ 1000) (ho : ∀ r ∈ rows, RowOk r) (I : J82 ρ σ cs rows dn c (spotN cs c))
    (hi : HasC ρ "inside" (.lst ((insideF rows (spotN cs c)).map rowT))) (hr : Has ρ "rest" (.lst ((restF rows (spotN cs c)).map rowT))) (hb : HasC ρ "book" (.ent (rows.map rowV)))
    (hΦ : ∀ ρ' σ', J87 ρ' σ' cs (stepH rows (spotN cs c) (kdN c)) dn c → Φ ρ' σ' .next) : Ex1 w (k + 15) (namesN 34) ρ σ (l8 7) Φ := by
  obtain ⟨⟨i1, i2, i3, i4⟩, i5, i6, i7, ⟨i8, i9, i10⟩, i11⟩ := id I
  have hsp := spot_plain cs c
  have hsl : (spotN cs c).length ≤ 4 := by rw [spot_len]; have := dp_lt c; omega
  by_cases hk : kdN c = 2
  · rw [hk] at hΦ
    refine x1_if_t (tes (Tests.to (t_cmp (ev_name i10) ev_int cmp_eqi) (by rw [hk]; rfl))) ?_
    show Ex _ _ _ _ _ (ifB (l8 7)) _
    rw [body87b]
    refine ex_cons (law87_0 (rows := rows) (sp := spotN cs c) hl ho hsp (by wtm_at "lk") (by wtm_at "lk") ?_)
    refine ex_cons (law87_1 (k := k) (rows := rows) (sp := spotN cs c) hl ho hsp hsl (by wtm_at "lk") (by wtm_at "lk") (by wtm_at "lk") (by wtm_at "lk") (by wtm_at "lk") (ex_nil ?_))
    exact hΦ _ _ ⟨⟨by wtm_at "lk", by wtm_at "lk", by wtm_at "lk", by wtm_at "lk"⟩, by wtm_at "lk", by wtm_at "lk", by wtm_at "lk", ⟨by wtm_at "lk", by wtm_at "lk", by wtm_at "lk"⟩⟩
  · have h2 : (((kdN c : Nat) : Int) == 2) = false := by
      rw [beq_eq_false_iff_ne]; intro e; apply hk
      have : ((kdN c : Nat) : Int) = ((2 : Nat) : Int) := e
      exact Int.ofNat.inj this
    refine x1_if_f (tes (Tests.to (t_cmp (ev_name i10) ev_int cmp_eqi) h2)) ?_
    show Ex _ _ _ _ _ (ifE (l8 7)) _
    rw [body87e]
    refine ex_cons (law87_2 (k := k) (rows := rows) (sp := spotN cs c) (c := c) ho hsp hsl (by rw [spot_len]; wtm_at "lk") (by wtm_at "lk") (by wtm_at "lk") ?_)
    refine ex_cons (law87_3 (rows := rows) (sp := spotN cs c) (kd := kdN c) hl hk (by wtm_at "lk") (by wtm_at "lk") (by wtm_at "lk") (by wtm_at "lk") (ex_nil ?_))
    exact hΦ _ _ ⟨⟨by wtm_at "lk", by wtm_at "lk", by wtm_at "lk", by wtm_at "lk"⟩, by wtm_at "lk", by wtm_at "lk", by wtm_at "lk", ⟨by wtm_at "lk", by wtm_at "lk", by wtm_at "lk"⟩⟩
end
theorem spot_row (cs : List Nat) (c : Nat) (b : Bool) : RowOk (spotN cs c, b) := by
  refine ⟨spot_plain cs c, ?_, fun x hx => ?_⟩
  · show (spotN cs c).length ≤ 4
    rw [spot_len]; have := dp_lt c; omega
  · have hm : x ∈ nameN (pickC cs c) := List.mem_of_mem_take hx
    have key : ∀ v, v < 65 → nmv v < 1114112 := fun v hv => by
      have := all_lt (n := 65) (P := fun v => decide (nmv v < 1114112)) (by decide +kernel) hv
      simpa using this
    simp only [nameN, List.mem_cons, List.not_mem_nil, or_false] at hm
    rcases hm with rfl | rfl | rfl | rfl <;> exact key _ (val_lt _ _)
theorem filter_two (p : Row → Bool) : ∀ l : List Row, (l.filter fun r => !p r).length + (l.filter p).length = l.length
  | [] => rfl
  | r :: l => by
    have ih := filter_two p l
    cases hp : p r <;> simp [List.filter_cons, hp] <;> omega
theorem stepH_len (held : List Row) (sp : List Nat) (kd : Nat) : (stepH held sp kd).length ≤ held.length + 1 := by
  have h1 : (restF held sp).length + (insideF held sp).length = held.length := filter_two (fun r => com sp r.1 == sp) held
  have h2 : (turnedF held sp).length ≤ (insideF held sp).length := by unfold turnedF; rw [List.length_map]; exact List.length_filter_le _ _
  unfold stepH
  split
  · rw [List.length_append, List.length_append]
    have h3 : (if (turnedF held sp).length = (insideF held sp).length then [((sp, !allowF held sp) : Row)] else []).length ≤ 1 := by split <;> simp
    omega
  · rw [List.length_append]
    have h3 : (if (aboveF held sp != decide (kd = 1)) = true then [((sp, decide (kd = 1)) : Row)] else []).length ≤ 1 := by split <;> simp
    omega
theorem stepH_ok {held : List Row} {sp : List Nat} {kd : Nat} (h : ∀ r ∈ held, RowOk r) (hs : ∀ b, RowOk (sp, b)) : ∀ r ∈ stepH held sp kd, RowOk r := by
  have h1 : ∀ r ∈ restF held sp, RowOk r := fun r hr => h r (List.mem_filter.mp hr).1
  have h2 : ∀ r ∈ turnedF held sp, RowOk r := fun r hr => by
    refine ob1_2 (List.mem_map.mp hr) fun q hq z0 => ?_; subst z0
    have o := h q (List.mem_filter.mp (List.mem_filter.mp hq).1).1
    exact ⟨o.plain, o.len, o.small⟩
  intro r hr
  unfold stepH at hr
  split at hr
  · rcases List.mem_append.mp hr with hr | hr
    · rcases List.mem_append.mp hr with hr | hr
      · exact h1 r hr
      · exact h2 r hr
    · split at hr
      · obtain rfl := List.mem_singleton.mp hr; exact hs _
      · cases hr
  · rcases List.mem_append.mp hr with hr | hr
    · exact h1 r hr
    · split at hr
      · obtain rfl := List.mem_singleton.mp hr; exact hs _
      · cases hr
noncomputable def heldF (cs : List Nat) (todo : List Nat) (rows : List Row) : List Row := todo.foldl (fun rows c => stepH rows (spotN cs c) (kdN c)) rows
section
variable {w : World} {k : Nat}
theorem law8_8 {Φ : Rho → Sig → Fl → Prop} {cs : List Nat} {c : Nat} {l : List V} {ρ : Rho} {σ : Sig} (hc : cs.length = 10) (I : J6 ρ cs) (K : K8 ρ c) (hd : σ.lookup ("done" : Str) = some (true, l)) (hl : l.length ≤ 1000)
    (h : Φ ρ (put "done" (true, l ++ [deedV (deedC cs c)]) σ) .next) : Ex1 w k (namesN 34) ρ σ (l8 8) Φ := by
  have h1 : ((cs.take 4).map codeV)[whN c]? = some (codeV (pickC cs c)) := by rw [List.getElem?_map, pick_at hc]; rfl
  have hlt : whN c < 4 := Nat.mod_lt _ (by decide)
  exact x1_append hd (evs (ev_tup (l := [.int ((codeN (pickC cs c) : Nat) : Int), .int ((dpN c : Nat) : Int), .int ((kdN c : Nat) : Int)]) (evl_cons (ev_sub (ev_name I.codes) (ev_name K.which) (it_lst (v := codeV (pickC cs c)) (Int.natCast_nonneg _) (by omega) (by rw [Int.toNat_natCast]; exact h1))) (evl_cons (ev_name K.depth) (evl_cons (ev_name K.kind) evl_nil))) (by simp))) (by omega) h
theorem law8_9 {Φ : Rho → Sig → Fl → Prop} {c : Nat} {l : List V} {ρ : Rho} {σ : Sig} (K : K8 ρ c) (hd : σ.lookup ("spots" : Str) = some (false, l)) (hl : l.length ≤ 1000)
    (h : Φ ρ (put "spots" (false, l ++ [spotV c]) σ) .next) : Ex1 w k (namesN 34) ρ σ (l8 9) Φ :=
  x1_append hd (evs (ev_tup (evl_cons (ev_name K.which) (evl_cons (ev_name K.depth) evl_nil)) (by simp))) (by omega) h
theorem law8_loop {Φ : Rho → Sig → Fl → Prop} {cs : List Nat} (hw : w.free = true) (hc : cs.length = 10) : ∀ (todo dn : List Nat) (rows : List Row) (ρ : Rho) (σ : Sig), J8 ρ σ cs rows dn → (∀ r ∈ rows, RowOk r) → rows.length ≤ dn.length → dn.length + todo.length ≤ 6 →
    (∀ ρ' σ', J8 ρ' σ' cs (heldF cs todo rows) (dn ++ todo) → (∀ r ∈ heldF cs todo rows, RowOk r) → (heldF cs todo rows).length ≤ 6 → Φ ρ' σ' .next) →
    Loop w (k + 15) (namesN 34) (forT (ls 8)) (forB (ls 8)) (todo.map fun c => .int ((c : Nat) : Int)) ρ σ Φ
  | [], dn, rows, ρ, σ, I, ho, h1, h2, hΦ => hΦ ρ σ (by rwa [List.append_nil]) ho (by simp at h2; show rows.length ≤ 6; omega)
  | c :: todo, dn, rows, ρ, σ, I, ho, h1, h2, hΦ => by
    obtain ⟨⟨i1, i2, i3, i4⟩, i5, i6, i7⟩ := id I
    simp only [List.length_cons] at h2
    have hsp := spot_plain cs c
    have hsl : (spotN cs c).length ≤ 4 := by rw [spot_len]; have := dp_lt c; omega
    have hd1 : (dn.map fun c => deedV (deedC cs c)).length ≤ 1000 := by rw [List.length_map]; omega
    have hd2 : (dn.map spotV).length ≤ 1000 := by rw [List.length_map]; omega
    refine ⟨_, _, asg_name (asgn_local (by kernel_rfl)), ?_⟩
    rw [body8]
    refine ex_cons (law8_0 (c := c) (by wtm_at "lk") ?_)
    refine ex_cons (law8_1 (cs := cs) (c := c) hc ⟨by wtm_at "lk", by wtm_at "lk", by wtm_at "lk", by wtm_at "lk"⟩ ⟨by wtm_at "lk", by wtm_at "lk", by wtm_at "lk"⟩ ?_)
    refine ex_cons (law8_2 (k := k + 12) (cs := cs) (rows := rows) (dn := dn) (c := c) ⟨⟨by wtm_at "lk", by wtm_at "lk", by wtm_at "lk", by wtm_at "lk"⟩, by wtm_at "lk", by wtm_at "lk", by wtm_at "lk", ⟨by wtm_at "lk", by wtm_at "lk", by wtm_at "lk"⟩, by wtm_at "lk"⟩ fun ρ₂ σ₂ I₂ => ?_)
    refine ex_cons (law8_3 (k := k + 11) hc I₂ ?_)
    obtain ⟨⟨j1, j2, j3, j4⟩, j5, j6, j7, ⟨j8, j9, j10⟩, j11⟩ := id I₂
    refine ex_cons (law8_4 (k := k + 12) (rows := rows) hw (by omega) (by wtm_at "lk") ?_)
    refine ex_cons (law8_5 (k := k + 2) (rows := rows) (sp := spotN cs c) (by omega) ho hsp hsl (by wtm_at "lk") (by wtm_at "lk") ?_)
    refine ex_cons (law8_6 (k := k + 2) (rows := rows) (sp := spotN cs c) (by omega) ho (by wtm_at "lk") (by wtm_at "lk") ?_)
    refine ex_cons (law8_7 (k := k) (cs := cs) (rows := rows) (dn := dn) (c := c) (by omega) ho ⟨⟨by wtm_at "lk", by wtm_at "lk", by wtm_at "lk", by wtm_at "lk"⟩, by wtm_at "lk", by wtm_at "lk", by wtm_at "lk", ⟨by wtm_at "lk", by wtm_at "lk", by wtm_at "lk"⟩, by wtm_at "lk"⟩ (by wtm_at "lk") (by wtm_at "lk") (by wtm_at "lk") fun ρ₃ σ₃ I₃ => ?_)
    obtain ⟨⟨m1, m2, m3, m4⟩, m5, m6, m7, ⟨m8, m9, m10⟩⟩ := id I₃
    refine ex_cons (law8_8 (cs := cs) (c := c) hc I₃.j I₃.kk m6 hd1 ?_)
    refine ex_cons (law8_9 (c := c) I₃.kk (by wtm_at "lk") hd2 (ex_nil ?_))
    have hlen := stepH_len rows (spotN cs c) (kdN c)
    refine law8_loop hw hc todo (dn ++ [c]) (stepH rows (spotN cs c) (kdN c)) _ _ ⟨I₃.j, m5, ?_, ?_⟩ (stepH_ok ho (spot_row cs c)) (by simp only [List.length_append, List.length_cons, List.length_nil]; omega) (by simp only [List.length_append, List.length_cons, List.length_nil]; omega) fun ρ' σ' I' => hΦ ρ' σ' (by rwa [List.append_assoc] at I')
    · simp only [List.map_append, List.map_cons, List.map_nil]; wtm_at "lk"
    · simp only [List.map_append, List.map_cons, List.map_nil]; wtm_at "lk"
theorem law8 {Φ : Rho → Sig → Fl → Prop} {cs : List Nat} {ρ : Rho} {σ : Sig} (hw : w.free = true) (hc : cs.length = 10) (I : J8 ρ σ cs [] [])
    (hΦ : ∀ ρ' σ', J8 ρ' σ' cs (heldF cs (cs.drop 4) []) (cs.drop 4) → (∀ r ∈ heldF cs (cs.drop 4) [], RowOk r) → (heldF cs (cs.drop 4) []).length ≤ 6 → Φ ρ' σ' .next) : Ex1 w (k + 15) (namesN 34) ρ σ (ls 8) Φ := by
  have hs : sliceV (cs.map fun c => .int ((c : Nat) : Int)) (some 4) none none = (cs.drop 4).map fun c => .int ((c : Nat) : Int) := by
    rw [sliceV_map]
    match cs, hc with
    | [a0, a1, a2, a3, a4, a5, a6, a7, a8, a9], _ =>
      have e : sliceRange (sliceBounds (some 4) none none 10).1 (sliceBounds (some 4) none none 10).2.1 (sliceBounds (some 4) none none 10).2.2 = [4, 5, 6, 7, 8, 9] := by decide +kernel
      show ((sliceRange (sliceBounds (some 4) none none 10).1 (sliceBounds (some 4) none none 10).2.1 (sliceBounds (some 4) none none 10).2.2).filterMap _).map _ = _
      rw [e]; rfl
  refine x1_for (evs (ev_slice (ev_name I.j.cells) (part_s ev_int) part_n part_n (sl_lst (by decide) (by rw [List.length_map, hc]; decide)))) iter_lst ?_
  rw [hs]
  exact law8_loop hw hc (cs.drop 4) [] [] ρ σ I (by simp) (Nat.le_refl _) (by rw [List.length_drop, hc]; decide) hΦ
end
noncomputable def laidR (i : Nat) (r : Row) : List Row := if i % 2 = 0 then [r, (r.1, false)] else [(r.1, false), r]
noncomputable def laidF : Nat → List Row → List Row
  | _, [] => []
  | i, r :: rs => laidR i r ++ laidF (i + 1) rs
theorem laidF_len : ∀ (i : Nat) (rows : List Row), (laidF i rows).length = 2 * rows.length
  | _, [] => rfl
  | i, r :: rs => by
    have h := laidF_len (i + 1) rs
    have h2 : (laidR i r).length = 2 := by unfold laidR; split <;> rfl
    simp only [laidF, List.length_append, List.length_cons, h, h2]; omega
theorem laidF_mem : ∀ (i : Nat) (rows : List Row) (q : Row), q ∈ laidF i rows → ∃ r ∈ rows, q.1 = r.1
  | _, [], q, h => by cases h
  | i, r :: rs, q, h => by
    simp only [laidF] at h
    rcases List.mem_append.mp h with h | h
    · refine ⟨r, by simp, ?_⟩
      unfold laidR at h
      split at h
      · rcases List.mem_cons.mp h with rfl | h
        · rfl
        · obtain rfl := List.mem_singleton.mp h; rfl
      · rcases List.mem_cons.mp h with rfl | h
        · rfl
        · obtain rfl := List.mem_singleton.mp h; rfl
    · refine ob1_2 (laidF_mem (i + 1) rs q h) fun r' h1 h2 => ?_
      exact ⟨r', by simp [h1], h2⟩
theorem laidF_ok {i : Nat} {rows : List Row} (h : ∀ r ∈ rows, RowOk r) : ∀ r ∈ laidF i rows, RowOk r := fun q hq => by
  refine ob1_2 (laidF_mem i rows q hq) fun r h1 h2 => ?_
  have o := h r h1
  exact ⟨by rw [h2]; exact o.plain, by rw [h2]; exact o.len, by rw [h2]; exact o.small⟩
structure P9 (ρ : Rho) (cs : List Nat) (rows : List Row) (dn : List Nat) : Prop where
  j : J6 ρ cs
  held : Has ρ "held" (.lst (rows.map rowT))
  done : HasC ρ "done" (.lst (dn.map fun c => deedV (deedC cs c)))
  spots : Has ρ "spots" (.lst (dn.map spotV))
section
variable {w : World} {k : Nat}
theorem law9 {ρ : Rho} {σ : Sig} {Φ : Rho → Sig → Fl → Prop} (h : Φ (del "laid" ρ) (put "laid" (false, []) σ) .next) : Ex1 w k (namesN 34) ρ σ (ls 9) Φ := x1_own (c := false) (by kernel_rfl) h
noncomputable def l10 (j : Nat) : Stmt := stN (forB (ls 10)) j
theorem body10 : forB (ls 10) = [l10 0, l10 1] := by kernel_rfl
theorem law10_0 {rows : List Row} {r : Row} {i : Nat} {ρ : Rho} {σ : Sig} {Φ : Rho → Sig → Fl → Prop} (hh : Has ρ "held" (.lst (rows.map rowT))) (hk : HasC ρ "k" (.int ((i : Nat) : Int))) (hi : i < 1000) (hr : rows[i]? = some r)
    (h : Φ (put "more" (false, rowT (r.1, false)) ρ) (del "more" σ) .next) : Ex1 w k (namesN 34) ρ σ (l10 0) Φ := by
  have h1 : (rows.map rowT)[i]? = some (rowT r) := by rw [List.getElem?_map, hr]; rfl
  exact x1_set (v := rowT (r.1, false)) (evs (ev_tup (evl_cons (ev_sub (ev_sub (ev_name hh) (ev_name hk) (it_lst (v := rowT r) (Int.natCast_nonneg _) (by omega) (by rw [Int.toNat_natCast]; exact h1))) ev_int (it_tup (v := .str (dirS r.1)) (by decide) (by decide) rfl)) (evl_cons ev_bool evl_nil)) (by simp))) (asgn_local (by kernel_rfl)) h
theorem law10_1 {rows : List Row} {r : Row} {i : Nat} {l : List V} {ρ : Rho} {σ : Sig} {Φ : Rho → Sig → Fl → Prop} (hh : Has ρ "held" (.lst (rows.map rowT))) (hk : HasC ρ "k" (.int ((i : Nat) : Int))) (hm : Has ρ "more" (rowT (r.1, false))) (hi : i < 1000) (hr : rows[i]? = some r)
    (hl : σ.lookup ("laid" : Str) = some (false, l)) (hlen : l.length ≤ 1000) (h : Φ ρ (put "laid" (false, l ++ (laidR i r).map rowT) σ) .next) : Ex1 w k (namesN 34) ρ σ (l10 1) Φ := by
  have h1 : (rows.map rowT)[i]? = some (rowT r) := by rw [List.getElem?_map, hr]; rfl
  have hsz : ((laidR i r).map rowT).length = 2 := by rw [List.length_map]; unfold laidR; split <;> rfl
  have f2 : Int.fmod ((i : Nat) : Int) 2 = ((i % 2 : Nat) : Int) := fmodN i 2
  refine x1_extend hl (evs ?_) (by omega) h
  by_cases hq : i % 2 = 0
  · have e : (laidR i r).map rowT = [rowT r, rowT (r.1, false)] := by unfold laidR; rw [if_pos hq]; rfl
    rw [e]
    refine ev_if_t (Tests.to (t_cmp (ev_bin (ev_name hk) ev_int (bin_mod (by decide))) ev_int cmp_eqi) (by rw [f2, hq]; rfl)) ?_
    exact ev_lst (evl_cons (ev_sub (ev_name hh) (ev_name hk) (it_lst (v := rowT r) (Int.natCast_nonneg _) (by omega) (by rw [Int.toNat_natCast]; exact h1))) (evl_cons (ev_name hm) evl_nil)) (by simp)
  · have e : (laidR i r).map rowT = [rowT (r.1, false), rowT r] := by unfold laidR; rw [if_neg hq]; rfl
    rw [e]
    have h1' : i % 2 = 1 := by omega
    refine ev_if_f (Tests.to (t_cmp (ev_bin (ev_name hk) ev_int (bin_mod (by decide))) ev_int cmp_eqi) (by rw [f2, h1']; rfl)) ?_
    exact ev_lst (evl_cons (ev_name hm) (evl_cons (ev_sub (ev_name hh) (ev_name hk) (it_lst (v := rowT r) (Int.natCast_nonneg _) (by omega) (by rw [Int.toNat_natCast]; exact h1))) evl_nil)) (by simp)
theorem law10_loop {Φ : Rho → Sig → Fl → Prop} {cs dn : List Nat} {rows : List Row} (hn : rows.length ≤ 6) : ∀ (todo : List Row) (i : Nat) (acc : List Row) (ρ : Rho) (σ : Sig), P9 ρ cs rows dn → σ.lookup ("laid" : Str) = some (false, acc.map rowT) → rows.drop i = todo → acc.length + 2 * todo.length ≤ 12 →
    (∀ ρ' σ', P9 ρ' cs rows dn → σ'.lookup ("laid" : Str) = some (false, (acc ++ laidF i todo).map rowT) → Φ ρ' σ' .next) →
    Loop w k (namesN 34) (forT (ls 10)) (forB (ls 10)) ((List.range' i todo.length).map fun (j : Nat) => .int (Int.ofNat j)) ρ σ Φ
  | [], i, acc, ρ, σ, I, ha, _, _, hΦ => hΦ ρ σ I (by simpa [laidF] using ha)
  | r :: todo, i, acc, ρ, σ, I, ha, hd, hz, hΦ => by
    obtain ⟨⟨i1, i2, i3, i4⟩, i5, i6, i7⟩ := id I
    simp only [List.length_cons] at hz ⊢
    have hr : rows[i]? = some r := by
      have := congrArg (fun l => l[0]?) hd
      simpa using this
    have hi : i < rows.length := by
      refine ob1_1 (List.getElem?_eq_some_iff.mp hr) fun h _ => ?_; exact h
    have hd' : rows.drop (i + 1) = todo := by
      have := congrArg (List.drop 1) hd
      rwa [List.drop_drop] at this
    rw [List.range'_succ]
    refine ⟨put "k" (true, .int ((i : Nat) : Int)) ρ, _, asg_name (asgn_cell (by kernel_rfl)), ?_⟩
    rw [body10]
    refine ex_cons (law10_0 (rows := rows) (r := r) (i := i) (by wtm_at "lk") (by wtm_at "lk") (by omega) hr ?_)
    refine ex_cons (law10_1 (rows := rows) (r := r) (i := i) (l := acc.map rowT) (by wtm_at "lk") (by wtm_at "lk") (by wtm_at "lk") (by omega) hr (by wtm_at "lk") (by rw [List.length_map]; omega) (ex_nil ?_))
    have h2 : (laidR i r).length = 2 := by unfold laidR; split <;> rfl
    refine law10_loop hn todo (i + 1) (acc ++ laidR i r) _ _ ⟨⟨by wtm_at "lk", by wtm_at "lk", by wtm_at "lk", by wtm_at "lk"⟩, by wtm_at "lk", by wtm_at "lk", by wtm_at "lk"⟩ ?_ hd' (by rw [List.length_append, h2]; omega) fun ρ' σ' I' h' => hΦ ρ' σ' I' (by rw [List.append_assoc] at h'; exact h')
    rw [List.map_append]; wtm_at "lk"
theorem law10 {Φ : Rho → Sig → Fl → Prop} {cs dn : List Nat} {rows : List Row} {ρ : Rho} {σ : Sig} (hn : rows.length ≤ 6) (I : P9 ρ cs rows dn) (ha : σ.lookup ("laid" : Str) = some (false, []))
    (hΦ : ∀ ρ' σ', P9 ρ' cs rows dn → σ'.lookup ("laid" : Str) = some (false, (laidF 0 rows).map rowT) → Φ ρ' σ' .next) : Ex1 w k (namesN 34) ρ σ (ls 10) Φ := by
  refine x1_for (evs (ev_call (l := [.int (Int.ofNat rows.length)]) (ev_glob (by kernel_rfl) g_range) (.typ _) (evl_cons (Evals.to (ev_call (ev_glob (by kernel_rfl) g_len) (.bi _) (evl_cons (ev_name I.held) evl_nil) (c_len_lst (by rw [List.length_map]; omega))) (by rw [List.length_map]; rfl)) evl_nil) c_range)) (iter_rng (by omega)) ?_
  have := law10_loop (w := w) (k := k) (Φ := Φ) (cs := cs) (dn := dn) hn rows 0 [] ρ σ I ha rfl (by simp; omega) (fun ρ' σ' I' h' => hΦ ρ' σ' I' h')
  rw [← List.range_eq_range'] at this
  exact this
theorem law11 {rows : List Row} {ρ : Rho} {σ : Sig} {Φ : Rho → Sig → Fl → Prop} (hw : w.free = true) (hl : rows.length ≤ 1000) (hh : Has ρ "laid" (.lst (rows.map rowT)))
    (h : Φ (put "book" (true, .ent (rows.map rowV)) ρ) (del "book" σ) .next) : Ex1 w (k + 3) (namesN 34) ρ σ (ls 11) Φ :=
  x1_set (evs (ev_call (ev_glob (by kernel_rfl) g_law_book) (.top _ (fn_law_book w).isFn) (evl_cons (ev_name hh) evl_nil) (law_book_ok hw hl))) (asgn_cell (by kernel_rfl)) h
theorem law13 {cs : List Nat} {rows : List Row} {ρ : Rho} {σ : Sig} {Φ : Rho → Sig → Fl → Prop} (hc : cs.length = 10) (ho : ∀ r ∈ rows, RowOk r) (hp : Has ρ "pages" (.lst ((cs.take 4).map pageV))) (hb : HasC ρ "book" (.ent (rows.map rowV)))
    (h : Φ (put "told" (false, .lst ((cs.take 4).map fun c => .bool (allowF rows (nameN c)))) ρ) (del "told" σ) .next) : Ex1 w (k + 15) (namesN 34) ρ σ (ls 13) Φ := by
  refine x1_comp (outs := (cs.take 4).map fun c => .bool (allowF rows (nameN c))) (compIs [("book", true, .ent (rows.map rowV))] (ev_name hp) iter_lst (by rw [List.length_map, List.length_take, hc]; decide) (CompL.to (compl_gen (P := fun _ => true) (g := fun c => .bool (allowF rows (nameN c))) (fun c hc => ifs_nil) (fun c hc _ => ?_)) ?_) (rho_cons (by kernel_rfl) hb rho_nil)) (by kernel_rfl) h (by kernel_rfl)
  · exact ev_entcall ev_name ev_name (allowance_ok (name_plain c) (by rw [name_len]; decide) fun r hr => ⟨(ho r hr).plain, by have := (ho r hr).len; omega⟩)
  · rw [List.filter_eq_self.mpr (by simp)]
end
mutual
theorem eqv_refl : ∀ x : V, PyData.eqv (toPD x) (toPD x) = true
  | .bool _ | .int _ | .str _ => by simp [toPD, PyData.eqv]
  | .tup l | .lst l => by simp only [toPD, PyData.eqv]; exact eqvs_refl l
  | .non | .byt _ | .typ _ | .bi _ | .top _ | .rng _ | .rul _ _ | .ent _ => by simp only [toPD, PyData.eqv]
theorem eqvs_refl : ∀ l : List V, PyData.eqvAll (toPDs l) (toPDs l) = true
  | [] => by simp only [toPDs, PyData.eqvAll]
  | x :: l => by simp only [toPDs, PyData.eqvAll, eqv_refl x, eqvs_refl l, Bool.and_self]
end
theorem bools_dat : ∀ l : List Bool, datBs (l.map V.bool) = true
  | [] => rfl
  | b :: l => by simp only [List.map_cons, datBs, datB, bools_dat l, Bool.and_self]
theorem depth_bools (l : List Bool) : PyData.depthAll (toPDs (l.map V.bool)) = 0 := by
  induction l with
  | nil => rfl
  | cons b l ih => simp only [List.map_cons, toPDs, toPD, PyData.depthAll, PyData.depth, ih]; rfl
theorem depth_rows : ∀ l : List Row, PyData.depthAll (toPDs (l.map rowT)) ≤ 1
  | [] => by simp [toPDs, PyData.depthAll]
  | r :: l => by
    have ih := depth_rows l
    have h1 : (toPD (rowT r)).depth = 1 := by simp only [rowT, toPD, toPDs, PyData.depth, PyData.depthAll]; rfl
    simp only [List.map_cons, toPDs, PyData.depthAll, h1]; omega
theorem g_law_state : GlobIs "_law_state" (.top 225) := glob_top fun P => by kernel_rfl
theorem g_sorted : GlobIs "sorted" (.bi "sorted") := glob_bi (fun P => by kernel_rfl) (fun P => by kernel_rfl)
theorem g_bool' : GlobIs "bool" (.typ "bool") := glob_typ (fun P => by kernel_rfl) (fun P => by kernel_rfl)
noncomputable def toldF (cs : List Nat) (rows : List Row) : List Bool := (cs.take 4).map fun c => allowF rows (nameN c)
section
variable {w : World} {k : Nat}
theorem c_isbool {b : Bool} : CallOk w k (.bi "isinstance") [.bool b, .typ "bool"] (.bool true) := c_isinst_t typed_bool (by kernel_rfl) (by rw [isSubtype_type]; kernel_rfl)
theorem law14 {cs dn : List Nat} {told : List Bool} {ρ : Rho} {σ : Sig} {Φ : Rho → Sig → Fl → Prop} (hc : cs.length = 10) (ht : Has ρ "told" (.lst (told.map V.bool))) (hd : HasC ρ "done" (.lst (dn.map fun c => deedV (deedC cs c)))) (hcd : HasC ρ "codes" (.lst ((cs.take 4).map codeV)))
    (hlen : told.length ≤ 1000) (hT : told = (cs.take 4).map fun c => stateF (dn.map (deedC cs)) ((codeN c : Nat) : Int) 4) (h : Φ ρ σ .next) : Ex1 w (k + 1) (namesN 34) ρ σ (ls 14) Φ := by
  have hdp : ∀ d ∈ dn.map (deedC cs), d.2.1 ≤ 4 := fun d hd => by
    refine ob1_2 (List.mem_map.mp hd) fun c _ z0 => ?_; subst z0
    have := dp_lt c
    show dpN c ≤ 4
    omega
  refine x1_if_f (tes (t_op (or_go (b := false) (Tests.to (t_cmp (ev_name ht) (ev_comp (compIs (outs := told.map V.bool) [("done", true, .lst (dn.map fun c => deedV (deedC cs c)))] (ev_name hcd) iter_lst (by rw [List.length_map, List.length_take, hc]; decide)
    (CompL.to (compl_gen (P := fun _ => true) (g := fun c => .bool (stateF (dn.map (deedC cs)) ((codeN c : Nat) : Int) 4)) (fun c hc => ifs_nil) (fun c hc _ => ?_)) ?_) (rho_cons (by kernel_rfl) hd rho_nil))) (cmp_ned (by simp only [datB]; exact bools_dat _) (by simp only [datB]; exact bools_dat _) (by simp only [toPD, PyData.depth]; rw [depth_bools]; decide))) ?_)
    (or_go (b := false) (Tests.to (t_cmp (ev_comp (compIs (outs := []) [] (ev_name ht) iter_lst (by rw [List.length_map]; omega) (CompL.to (compl_gen (t := V.bool) (P := fun _ => false) (g := fun b => .bool b) (fun b hb => ?_) (fun b hb hf => by cases hf)) ?_) rho_nil)) (ev_lst evl_nil (by simp)) (cmp_ned rfl rfl (by simp only [toPD, toPDs, PyData.depth, PyData.depthAll]; decide))) ?_) or_nil)))) (ex_nil h)
  · have := law_state_ok (w := w) (k := k) (deeds := dn.map (deedC cs)) (code := ((codeN c : Nat) : Int)) (depth := 4) hdp
    rw [List.map_map] at this
    have this : CallOk w (k + 1) (.top 225) [.lst (dn.map fun c => deedV (deedC cs c)), .int ((codeN c : Nat) : Int), .int 4] (.bool (stateF (dn.map (deedC cs)) ((codeN c : Nat) : Int) 4)) := this
    exact ev_call (ev_glob (by kernel_rfl) g_law_state) (.top _ (fn_law_state w).isFn) (evl_cons ev_name (evl_cons ev_name (evl_cons ev_int evl_nil))) this
  · rw [List.filter_eq_self.mpr (by simp), hT, List.map_map]; rfl
  · rw [eqv_refl]; rfl
  · exact ifs_one (Tests.to (t_not (t_val (ev_call (ev_glob (by kernel_rfl) g_isinstance) (.bi _) (evl_cons ev_name (evl_cons (ev_glob (by kernel_rfl) g_bool') evl_nil)) c_isbool) tr_bool)) rfl)
  · rw [List.filter_eq_nil_iff.mpr (by simp)]; rfl
  · simp [toPD, toPDs, PyData.eqv, PyData.eqvAll]
theorem law15 {rows : List Row} {ρ : Rho} {σ : Sig} {Φ : Rho → Sig → Fl → Prop} (ho : ∀ r ∈ rows, RowOk r) (hl : rows.length ≤ 1000) (hb : HasC ρ "book" (.ent (rows.map rowV))) (hd : Has ρ "laid" (.lst (rows.map rowT))) (h : Φ ρ σ .next) : Ex1 w k (namesN 34) ρ σ (ls 15) Φ := by
  refine x1_if_f (tes (Tests.to (t_cmp (ev_comp (compIs (outs := rows.map rowT) [] (ev_rulelines (ev_name hb) (by intro _; rfl)) iter_lst (by rw [List.length_map]; omega) (CompL.to (compl_gen (t := rowV) (P := fun _ => true) (g := rowT) (fun c hc => ifs_nil) (fun r hr _ => ?_)) ?_) rho_nil)) (ev_name hd)
    (cmp_ned (by simp only [datB]; exact rows_dat ho) (by simp only [datB]; exact rows_dat ho) (by simp only [toPD, PyData.depth]; have := depth_rows rows; omega))) ?_)) (ex_nil h)
  · exact ev_tup (evl_cons (ev_place ev_name (by intro _; rfl)) (evl_cons (ev_allow ev_name (by intro _; rfl)) evl_nil)) (by simp)
  · rw [List.filter_eq_self.mpr (by simp)]
  · rw [eqv_refl]; rfl
theorem law16 {ρ : Rho} {σ : Sig} {Φ : Rho → Sig → Fl → Prop} (h : Φ (del "due" ρ) (put "due" (false, []) σ) .next) : Ex1 w k (namesN 34) ρ σ (ls 16) Φ := x1_own (c := false) (by kernel_rfl) h
theorem law18 {rows due : List Row} {ρ : Rho} {σ : Sig} {Φ : Rho → Sig → Fl → Prop} (hh : Has ρ "held" (.lst (rows.map rowT))) (hd : Has ρ "due" (.lst (due.map rowT))) (h1 : (rows.map keyR).Nodup) (h2 : (due.map keyR).Nodup) (l1 : rows.length ≤ 6) (l2 : due.length ≤ 6)
    (e : sortR rows = sortR due) (ho : ∀ r ∈ sortR rows, RowOk r) (h : Φ ρ σ (.ret (.bool true))) : Ex1 w (k + 2) (namesN 34) ρ σ (ls 18) Φ := by
  refine x1_ret (evs (Evals.to (ev_cmp (ev_call (ev_glob (by kernel_rfl) g_sorted) (.bi _) (evl_cons (ev_name hh) evl_nil) (c_sorted h1 l1)) (ev_call (ev_glob (by kernel_rfl) g_sorted) (.bi _) (evl_cons (ev_name hd) evl_nil) (c_sorted h2 l2))
    (cmp_eqd (by simp only [datB]; exact rows_dat ho) (by simp only [datB]; rw [← e]; exact rows_dat ho) (by simp only [toPD, PyData.depth]; have := depth_rows (sortR rows); omega))) ?_)) h
  rw [e, eqv_refl]
end
noncomputable def oneR (cs : List Nat) (deeds : List Deed) (c : Nat) : Row := (spotN cs c, stateF deeds ((codeN (pickC cs c) : Nat) : Int) ((dpN c : Nat) : Int))
noncomputable def stepD (cs : List Nat) (deeds : List Deed) (acc : List Row) (c : Nat) : List Row :=
  if ((oneR cs deeds c).2 != stateF deeds ((codeN (pickC cs c) : Nat) : Int) (((dpN c : Nat) : Int) - 1)) && !(acc.any fun r => r == oneR cs deeds c) then acc ++ [oneR cs deeds c] else acc
noncomputable def dueF (cs : List Nat) (deeds : List Deed) (dn : List Nat) : List Row := dn.foldl (stepD cs deeds) []
theorem oneR_ok (cs : List Nat) (deeds : List Deed) (c : Nat) : RowOk (oneR cs deeds c) := spot_row cs c _
structure J17 (ρ : Rho) (σ : Sig) (cs : List Nat) (rows : List Row) (dn : List Nat) (acc : List Row) : Prop where
  p : P9 ρ cs rows dn
  nd : HasN ρ "due"
  due : σ.lookup ("due" : Str) = some (false, acc.map rowT)
section
variable {w : World} {k : Nat}
noncomputable def l17 (j : Nat) : Stmt := stN (forB (ls 17)) j
theorem body17 : forB (ls 17) = [l17 0, l17 1] := by kernel_rfl
theorem law17_0 {cs dn : List Nat} {rows : List Row} {c : Nat} {ρ : Rho} {σ : Sig} {Φ : Rho → Sig → Fl → Prop} (hc : cs.length = 10) (I : P9 ρ cs rows dn) (hw : Has ρ "which" (.int ((whN c : Nat) : Int))) (hd : Has ρ "depth" (.int ((dpN c : Nat) : Int)))
    (h : Φ (put "one" (false, rowT (oneR cs (dn.map (deedC cs)) c)) ρ) (del "one" σ) .next) : Ex1 w (k + 1) (namesN 34) ρ σ (l17 0) Φ := by
  have hlt : whN c < 4 := Nat.mod_lt _ (by decide)
  have hdp : ∀ d ∈ dn.map (deedC cs), d.2.1 ≤ 4 := fun d hd => by
    refine ob1_2 (List.mem_map.mp hd) fun c _ z0 => ?_; subst z0
    have := dp_lt c
    show dpN c ≤ 4
    omega
  have hst := law_state_ok (w := w) (k := k) (deeds := dn.map (deedC cs)) (code := ((codeN (pickC cs c) : Nat) : Int)) (depth := ((dpN c : Nat) : Int)) hdp
  rw [List.map_map] at hst
  have hst : CallOk w (k + 1) (.top 225) [.lst (dn.map fun c => deedV (deedC cs c)), .int ((codeN (pickC cs c) : Nat) : Int), .int ((dpN c : Nat) : Int)] (.bool (stateF (dn.map (deedC cs)) ((codeN (pickC cs c) : Nat) : Int) ((dpN c : Nat) : Int))) := hst
  have h1 : ((cs.take 4).map codeV)[whN c]? = some (codeV (pickC cs c)) := by rw [List.getElem?_map, pick_at hc]; rfl
  refine x1_set (v := rowT (oneR cs (dn.map (deedC cs)) c)) (evs (ev_tup (evl_cons (ev_spot I.j.names hw hd (pick_at hc c) (by omega) (by decide +kernel) (by decide +kernel) (by decide +kernel) (by decide +kernel) (by decide +kernel) (by decide +kernel) (by rfl))
    (evl_cons (ev_call (ev_glob (by kernel_rfl) g_law_state) (.top _ (fn_law_state w).isFn) (evl_cons (ev_name I.done) (evl_cons (ev_sub (ev_name I.j.codes) (ev_name hw) (it_lst (v := codeV (pickC cs c)) (Int.natCast_nonneg _) (by omega) (by rw [Int.toNat_natCast]; exact h1))) (evl_cons (ev_name hd) evl_nil))) hst) evl_nil)) (by simp))) (asgn_local (by kernel_rfl)) h
theorem law17_1 {cs dn : List Nat} {rows acc : List Row} {c : Nat} {ρ : Rho} {σ : Sig} {Φ : Rho → Sig → Fl → Prop} (hc : cs.length = 10) (I : J17 ρ σ cs rows dn acc) (hw : Has ρ "which" (.int ((whN c : Nat) : Int))) (hd : Has ρ "depth" (.int ((dpN c : Nat) : Int)))
    (hone : Has ρ "one" (rowT (oneR cs (dn.map (deedC cs)) c))) (hl : acc.length ≤ 1000) (ho : ∀ r ∈ acc, RowOk r)
    (h : ∀ σ', J17 ρ σ' cs rows dn (stepD cs (dn.map (deedC cs)) acc c) → Φ ρ σ' .next) : Ex1 w (k + 1) (namesN 34) ρ σ (l17 1) Φ := by
  have hlt : whN c < 4 := Nat.mod_lt _ (by decide)
  have hdp : ∀ d ∈ dn.map (deedC cs), d.2.1 ≤ 4 := fun d hd => by
    refine ob1_2 (List.mem_map.mp hd) fun c _ z0 => ?_; subst z0
    have := dp_lt c
    show dpN c ≤ 4
    omega
  have hst := law_state_ok (w := w) (k := k) (deeds := dn.map (deedC cs)) (code := ((codeN (pickC cs c) : Nat) : Int)) (depth := ((dpN c : Nat) : Int) - 1) hdp
  rw [List.map_map] at hst
  have hst : CallOk w (k + 1) (.top 225) [.lst (dn.map fun c => deedV (deedC cs c)), .int ((codeN (pickC cs c) : Nat) : Int), .int (((dpN c : Nat) : Int) - 1)] (.bool (stateF (dn.map (deedC cs)) ((codeN (pickC cs c) : Nat) : Int) (((dpN c : Nat) : Int) - 1))) := hst
  have h1 : ((cs.take 4).map codeV)[whN c]? = some (codeV (pickC cs c)) := by rw [List.getElem?_map, pick_at hc]; rfl
  have hin : (!(toPDs (acc.map rowT)).any fun y => PyData.eqv y (toPD (rowT (oneR cs (dn.map (deedC cs)) c)))) = !(acc.any fun r => r == oneR cs (dn.map (deedC cs)) c) := by
    rw [toPDs_map, List.map_map, List.any_map]
    congr 1
    rw [Bool.eq_iff_iff, List.any_eq_true, List.any_eq_true]
    constructor
    · rintro ⟨q, hq, e⟩
      exact ⟨q, hq, by rw [← row_eqv (ho q hq) (oneR_ok ..)]; exact e⟩
    · rintro ⟨q, hq, e⟩
      exact ⟨q, hq, by rw [← row_eqv (ho q hq) (oneR_ok ..)] at e; exact e⟩
  have a1 : (ρ ++ ownRho σ).lookup ("one" : Str) = some (false, rowT (oneR cs (dn.map (deedC cs)) c)) := lk_appl hone
  have a2 : (ρ ++ ownRho σ).lookup ("done" : Str) = some (true, .lst (dn.map fun c => deedV (deedC cs c))) := lk_appl I.p.done
  have a3 : (ρ ++ ownRho σ).lookup ("codes" : Str) = some (true, .lst ((cs.take 4).map codeV)) := lk_appl I.p.j.codes
  have a4 : (ρ ++ ownRho σ).lookup ("which" : Str) = some (false, .int ((whN c : Nat) : Int)) := lk_appl hw
  have a5 : (ρ ++ ownRho σ).lookup ("depth" : Str) = some (false, .int ((dpN c : Nat) : Int)) := lk_appl hd
  have a6 : (ρ ++ ownRho σ).lookup ("due" : Str) = some (false, .lst (acc.map rowT)) := by rw [lookup_app, I.nd, lookup_own, I.due]; rfl
  cases hb : (oneR cs (dn.map (deedC cs)) c).2 != stateF (dn.map (deedC cs)) ((codeN (pickC cs c) : Nat) : Int) (((dpN c : Nat) : Int) - 1)
  · refine x1_if_f (tes_own (t_op (and_stop (Tests.to (t_cmp (ev_sub (ev_name a1) ev_int (it_tup (v := .bool (oneR cs (dn.map (deedC cs)) c).2) (by decide) (by decide) rfl)) (ev_call (ev_glob (by kernel_rfl) g_law_state) (.top _ (fn_law_state w).isFn) (evl_cons (ev_name a2) (evl_cons (ev_sub (ev_name a3) (ev_name a4) (it_lst (v := codeV (pickC cs c)) (Int.natCast_nonneg _) (by omega) (by rw [Int.toNat_natCast]; exact h1))) (evl_cons (ev_bin (ev_name a5) ev_int bin_sub) evl_nil))) hst) cmp_neb) hb)))) (ex_nil (h _ ?_))
    unfold stepD; rw [hb]; exact I
  · cases hq : !(acc.any fun r => r == oneR cs (dn.map (deedC cs)) c)
    · refine x1_if_f (tes_own (t_op (and_go (Tests.to (t_cmp (ev_sub (ev_name a1) ev_int (it_tup (v := .bool (oneR cs (dn.map (deedC cs)) c).2) (by decide) (by decide) rfl)) (ev_call (ev_glob (by kernel_rfl) g_law_state) (.top _ (fn_law_state w).isFn) (evl_cons (ev_name a2) (evl_cons (ev_sub (ev_name a3) (ev_name a4) (it_lst (v := codeV (pickC cs c)) (Int.natCast_nonneg _) (by omega) (by rw [Int.toNat_natCast]; exact h1))) (evl_cons (ev_bin (ev_name a5) ev_int bin_sub) evl_nil))) hst) cmp_neb) hb)
        (and_stop (Tests.to (t_cmp (ev_name a1) (ev_name a6) (cmp_notind (rowOk_dat (oneR_ok ..)) (rows_dat ho) (depth_row _))) (hin.trans hq)))))) (ex_nil (h _ ?_))
      unfold stepD; rw [hb, hq]; exact I
    · refine x1_if_t (tes_own (t_op (and_go (Tests.to (t_cmp (ev_sub (ev_name a1) ev_int (it_tup (v := .bool (oneR cs (dn.map (deedC cs)) c).2) (by decide) (by decide) rfl)) (ev_call (ev_glob (by kernel_rfl) g_law_state) (.top _ (fn_law_state w).isFn) (evl_cons (ev_name a2) (evl_cons (ev_sub (ev_name a3) (ev_name a4) (it_lst (v := codeV (pickC cs c)) (Int.natCast_nonneg _) (by omega) (by rw [Int.toNat_natCast]; exact h1))) (evl_cons (ev_bin (ev_name a5) ev_int bin_sub) evl_nil))) hst) cmp_neb) hb)
        (and_go (Tests.to (t_cmp (ev_name a1) (ev_name a6) (cmp_notind (rowOk_dat (oneR_ok ..)) (rows_dat ho) (depth_row _))) (hin.trans hq)) and_nil)))) ?_
      refine ex_cons (x1_append I.due (evs (ev_name hone)) (by rw [List.length_map]; omega) (ex_nil (h _ ⟨I.p, I.nd, ?_⟩)))
      unfold stepD; rw [hb, hq]
      simp only [Bool.and_self, if_true, List.map_append, List.map_cons, List.map_nil]
      wtm_at "lk"
end
theorem stepD_ok {cs : List Nat} {deeds : List Deed} {acc : List Row} {c : Nat} (h : ∀ r ∈ acc, RowOk r) : ∀ r ∈ stepD cs deeds acc c, RowOk r := fun r hr => by
  unfold stepD at hr
  split at hr
  · rcases List.mem_append.mp hr with hr | hr
    · exact h r hr
    · obtain rfl := List.mem_singleton.mp hr; exact oneR_ok ..
  · exact h r hr
theorem stepD_len (cs : List Nat) (deeds : List Deed) (acc : List Row) (c : Nat) : (stepD cs deeds acc c).length ≤ acc.length + 1 := by
  unfold stepD
  split
  · simp
  · omega
section
variable {w : World} {k : Nat}
theorem law17_loop {Φ : Rho → Sig → Fl → Prop} {cs dn : List Nat} {rows : List Row} (hc : cs.length = 10) : ∀ (todo : List Nat) (acc : List Row) (ρ : Rho) (σ : Sig), J17 ρ σ cs rows dn acc → (∀ r ∈ acc, RowOk r) → acc.length + todo.length ≤ 6 →
    (∀ ρ' σ', J17 ρ' σ' cs rows dn (todo.foldl (stepD cs (dn.map (deedC cs))) acc) → (∀ r ∈ todo.foldl (stepD cs (dn.map (deedC cs))) acc, RowOk r) → (todo.foldl (stepD cs (dn.map (deedC cs))) acc).length ≤ 6 → Φ ρ' σ' .next) →
    Loop w (k + 1) (namesN 34) (forT (ls 17)) (forB (ls 17)) (todo.map spotV) ρ σ Φ
  | [], acc, ρ, σ, I, ho, hl, hΦ => hΦ ρ σ I ho (by simpa using hl)
  | c :: todo, acc, ρ, σ, I, ho, hl, hΦ => by
    obtain ⟨⟨⟨i1, i2, i3, i4⟩, i5, i6, i7⟩, i8, i9⟩ := id I
    simp only [List.length_cons] at hl
    refine ⟨_, _, asg_tup' (.cons _ _ _ _ _ _ _ _ _ _ (asgn_local (by kernel_rfl)) (.cons _ _ _ _ _ _ _ _ _ _ (asgn_local (by kernel_rfl)) (.nil _ _))) rfl rfl, ?_⟩
    rw [body17]
    refine ex_cons (law17_0 (cs := cs) (dn := dn) (rows := rows) (c := c) hc ⟨⟨by wtm_at "lk", by wtm_at "lk", by wtm_at "lk", by wtm_at "lk"⟩, by wtm_at "lk", by wtm_at "lk", by wtm_at "lk"⟩ (by wtm_at "lk") (by wtm_at "lk") ?_)
    refine ex_cons (law17_1 (cs := cs) (dn := dn) (rows := rows) (acc := acc) (c := c) hc ⟨⟨⟨by wtm_at "lk", by wtm_at "lk", by wtm_at "lk", by wtm_at "lk"⟩, by wtm_at "lk", by wtm_at "lk", by wtm_at "lk"⟩, by wtm_at "lkn", by wtm_at "lk"⟩ (by wtm_at "lk") (by wtm_at "lk") (by wtm_at "lk") (by omega) ho fun σ' I' => ex_nil ?_)
    have hlen := stepD_len cs (dn.map (deedC cs)) acc c
    exact law17_loop hc todo _ _ _ I' (stepD_ok ho) (by omega) hΦ
theorem law17 {Φ : Rho → Sig → Fl → Prop} {cs dn : List Nat} {rows : List Row} {ρ : Rho} {σ : Sig} (hc : cs.length = 10) (hd : dn.length = 6) (I : J17 ρ σ cs rows dn [])
    (hΦ : ∀ ρ' σ', J17 ρ' σ' cs rows dn (dueF cs (dn.map (deedC cs)) dn) → (∀ r ∈ dueF cs (dn.map (deedC cs)) dn, RowOk r) → (dueF cs (dn.map (deedC cs)) dn).length ≤ 6 → Φ ρ' σ' .next) : Ex1 w (k + 1) (namesN 34) ρ σ (ls 17) Φ :=
  x1_for (evs (ev_name I.p.spots)) iter_lst (law17_loop hc dn [] ρ σ I (by simp) (by rw [hd]; decide) hΦ)
end
noncomputable def opK (kd : Nat) (st : Bool) : Bool := if kd = 2 then !st else decide (kd = 1)
noncomputable def preB (s t : List Nat) : Bool := t.take s.length == s
noncomputable def stP (cs dn : List Nat) (t : List Nat) : Bool := dn.foldl (fun st c => if preB (spotN cs c) t then opK (kdN c) st else st) true
theorem step_eq (cs : List Nat) (q n c : Nat) (hn : n ≤ 4) (st : Bool) :
    stepS ((codeN q : Nat) : Int) ((n : Nat) : Int) st (deedC cs c) = if preB (spotN cs c) ((nameN q).take n) then opK (kdN c) st else st := by
  have h5 := dp_lt c
  have hop : (if ((kdN c : Nat) : Int) = 2 then !st else decide (((kdN c : Nat) : Int) = 1)) = opK (kdN c) st := by
    unfold opK
    have h3 := kd_lt c
    obtain h | h | h : kdN c = 0 ∨ kdN c = 1 ∨ kdN c = 2 := by omega
    all_goals rw [h]; rfl
  have hh : hits (deedC cs c) ((codeN q : Nat) : Int) ((n : Nat) : Int) = preB (spotN cs c) ((nameN q).take n) := by
    unfold hits preB
    rw [spot_len, List.take_take]
    show (decide (((dpN c : Nat) : Int) ≤ ((n : Nat) : Int)) && decide (Int.fdiv ((codeN (pickC cs c) : Nat) : Int) (2 ^ (7 * (4 - ((dpN c : Nat) : Int))).toNat) = Int.fdiv ((codeN q : Nat) : Int) (2 ^ (7 * (4 - ((dpN c : Nat) : Int))).toNat))) = _
    have e4 : (4 : Int) - ((dpN c : Nat) : Int) = ((4 - dpN c : Nat) : Int) := by
      have := sub4 c; exact this
    rw [e4, shr7, shr7]
    have hp := pre_iff (pickC cs c) q (dpN c) (by omega)
    by_cases h1 : dpN c ≤ n
    · have h1' : (((dpN c : Nat) : Int) ≤ ((n : Nat) : Int)) := by omega
      rw [Nat.min_eq_left h1]
      rw [Bool.eq_iff_iff]
      simp only [Bool.and_eq_true, decide_eq_true_eq, beq_iff_eq, h1', true_and]
      unfold spotN
      constructor
      · intro e; exact ((hp.mp (by exact_mod_cast e))).symm
      · intro e; exact_mod_cast hp.mpr e.symm
    · have h1' : ¬ (((dpN c : Nat) : Int) ≤ ((n : Nat) : Int)) := by omega
      rw [decide_eq_false h1', Bool.false_and]
      symm
      rw [beq_eq_false_iff_ne]
      intro e
      have := congrArg List.length e
      rw [List.length_take, name_len, spot_len] at this
      omega
  unfold stepS
  rw [hh]
  show (if preB (spotN cs c) ((nameN q).take n) = true then (if ((kdN c : Nat) : Int) = 2 then !st else decide (((kdN c : Nat) : Int) = 1)) else st) = _
  rw [hop]
theorem state_eq (cs dn : List Nat) (q n : Nat) (hn : n ≤ 4) : stateF (dn.map (deedC cs)) ((codeN q : Nat) : Int) ((n : Nat) : Int) = stP cs dn ((nameN q).take n) := by
  unfold stateF stP
  rw [List.foldl_map]
  congr 1
  funext st c
  exact step_eq cs q n c hn st
theorem state_neg (cs dn : List Nat) (q : Nat) : stateF (dn.map (deedC cs)) ((codeN q : Nat) : Int) (-1) = true := by
  unfold stateF
  rw [List.foldl_map]
  induction dn with
  | nil => rfl
  | cons c dn ih =>
    rw [List.foldl_cons]
    have : stepS ((codeN q : Nat) : Int) (-1) true (deedC cs c) = true := by
      have hh : hits (deedC cs c) ((codeN q : Nat) : Int) (-1) = false := by
        unfold hits
        have : ¬ (((deedC cs c).2.1 : Int) ≤ -1) := by omega
        rw [decide_eq_false this, Bool.false_and]
      unfold stepS; rw [hh]; rfl
    rw [this]; exact ih
theorem com_pre : ∀ (s t : List Nat), com s t = s ↔ preB s t = true
  | [], t => by cases t <;> simp [com, preB]
  | a :: s, [] => by simp [com, preB]
  | a :: s, b :: t => by
    have ih := com_pre s t
    simp only [preB, List.length_cons, List.take_succ_cons, beq_iff_eq, List.cons.injEq] at ih ⊢
    by_cases h : a = b
    · subst h; simp only [com, if_true, List.cons.injEq, true_and]; exact ih
    · simp only [com, if_neg h]
      constructor
      · intro e; cases e
      · intro e; exact absurd e.1.symm h
noncomputable def hasAt (rows : List Row) (s : List Nat) : Bool := rows.any fun r => r.1 == s
noncomputable def orAt (rows : List Row) (s : List Nat) : Bool := rows.any fun r => r.1 == s && r.2
noncomputable def VrN (rows : List Row) (t : List Nat) : Nat → Bool
  | 0 => if hasAt rows [] then orAt rows [] else true
  | n + 1 => if hasAt rows (t.take (n + 1)) then orAt rows (t.take (n + 1)) else VrN rows t n
noncomputable def Vr (rows : List Row) (t : List Nat) : Bool := VrN rows t t.length
noncomputable def lenD (n : Nat) : Nat := if n = 0 then 1 else 2 * n
theorem lenD_mono {n m : Nat} (h : n < m) : lenD n < lenD m := by unfold lenD; split <;> split <;> omega
theorem dirS_lenD (s : List Nat) : (dirS s).length = lenD s.length := by
  unfold dirS lenD
  rw [S_len, dirL_len]
  cases s <;> simp
theorem app_eq (s t : List Nat) : app s t = if preB s t then lenD s.length else 0 := by
  unfold app
  by_cases h : preB s t = true
  · rw [if_pos ((com_pre s t).mpr h), if_pos h, dirS_lenD]
  · rw [if_neg (fun e => h ((com_pre s t).mp e)), if_neg h]
theorem has_app (a : List Row) (r : Row) (s : List Nat) : hasAt (a ++ [r]) s = (hasAt a s || r.1 == s) := by simp [hasAt]
theorem or_app (a : List Row) (r : Row) (s : List Nat) : orAt (a ++ [r]) s = (orAt a s || (r.1 == s && r.2)) := by simp [orAt]
theorem or_has {a : List Row} {s : List Nat} (h : hasAt a s = false) : orAt a s = false := by
  unfold hasAt at h
  unfold orAt
  rw [List.any_eq_false] at h ⊢
  intro r hr
  have := h r hr
  simp only [Bool.and_eq_true, not_and]
  intro e; exact absurd e this
noncomputable def AI (done : List Row) (t : List Nat) (st : Int × Bool) : Prop :=
  ((∀ k, k ≤ t.length → hasAt done (t.take k) = false) ∧ st = (-1, true)) ∨
  ∃ n, n ≤ t.length ∧ hasAt done (t.take n) = true ∧ st = ((lenD n : Int), orAt done (t.take n)) ∧ ∀ k, n < k → k ≤ t.length → hasAt done (t.take k) = false
theorem lenD_pos (n : Nat) : 1 ≤ lenD n := by unfold lenD; split <;> omega
theorem take_ne {t : List Nat} {m n : Nat} (hm : m ≤ t.length) (hn : n ≤ t.length) (h : m ≠ n) : t.take m ≠ t.take n := fun e => h (by
  have := congrArg List.length e
  rw [List.length_take, List.length_take] at this
  omega)
theorem AI_step {done : List Row} {t : List Nat} {st : Int × Bool} (I : AI done t st) (r : Row) : AI (done ++ [r]) t (stepA t st r) := by
  unfold stepA
  rw [app_eq]
  by_cases hp : preB r.1 t = true
  · rw [if_pos hp]
    have hm : t.take r.1.length = r.1 := by simpa [preB] using hp
    have hml : r.1.length ≤ t.length := by
      have := congrArg List.length hm
      rw [List.length_take] at this; omega
    have hpos := lenD_pos r.1.length
    rw [if_neg (by omega)]
    have hr : ∀ k, k ≤ t.length → (r.1 == t.take k) = decide (k = r.1.length) := fun k hk => by
      by_cases e : k = r.1.length
      · rw [e, hm]; simp
      · rw [decide_eq_false e, beq_eq_false_iff_ne]
        intro q; rw [← hm] at q
        exact take_ne hml hk (fun x => e x.symm) q
    rcases I with ⟨h1, rfl⟩ | ⟨n, hn, h1, rfl, h2⟩
    · rw [if_pos (by show (-1 : Int) < _; omega)]
      refine .inr ⟨r.1.length, hml, ?_, ?_, fun k hk hk' => ?_⟩
      · rw [has_app, hr _ hml]; simp
      · rw [or_app, or_has (h1 _ hml), hr _ hml]; simp
      · rw [has_app, h1 k hk', hr k hk', decide_eq_false (by omega)]; rfl
    · rcases Nat.lt_trichotomy r.1.length n with hlt | heq | hgt
      · have := lenD_mono hlt
        rw [if_neg (by show ¬ ((lenD n : Int) < (lenD r.1.length : Int)); omega), if_neg (by rintro ⟨h, _⟩; have : (lenD r.1.length : Int) = (lenD n : Int) := h; omega)]
        refine .inr ⟨n, hn, ?_, ?_, fun k hk hk' => ?_⟩
        · rw [has_app, h1]; rfl
        · rw [or_app, hr n hn, decide_eq_false (by omega)]; simp
        · rw [has_app, h2 k hk hk', hr k hk', decide_eq_false (by omega)]; rfl
      · subst heq
        rw [if_neg (by show ¬ ((lenD r.1.length : Int) < (lenD r.1.length : Int)); omega)]
        refine .inr ⟨r.1.length, hn, ?_, ?_, fun k hk hk' => ?_⟩
        · rw [has_app, h1]; rfl
        · rw [or_app, hr _ hn]
          cases ho : orAt done (t.take r.1.length)
          · rw [if_pos ⟨rfl, rfl⟩]; simp
          · rw [if_neg (by rintro ⟨_, h⟩; cases h)]; simp
        · rw [has_app, h2 k hk hk', hr k hk', decide_eq_false (by omega)]; rfl
      · have := lenD_mono hgt
        rw [if_pos (by show ((lenD n : Int) < (lenD r.1.length : Int)); omega)]
        refine .inr ⟨r.1.length, hml, ?_, ?_, fun k hk hk' => ?_⟩
        · rw [has_app, hr _ hml]; simp
        · rw [or_app, or_has (h2 _ hgt hml), hr _ hml]; simp
        · rw [has_app, h2 k (by omega) hk', hr k hk', decide_eq_false (by omega)]; rfl
  · rw [if_neg hp, if_pos rfl]
    have hr : ∀ k, k ≤ t.length → (r.1 == t.take k) = false := fun k hk => by
      rw [beq_eq_false_iff_ne]
      intro e
      apply hp
      have hl : r.1.length = k := by rw [e, List.length_take]; omega
      simp [preB, hl, ← e]
    rcases I with ⟨h1, rfl⟩ | ⟨n, hn, h1, rfl, h2⟩
    · exact .inl ⟨fun k hk => by rw [has_app, h1 k hk, hr k hk]; rfl, rfl⟩
    · refine .inr ⟨n, hn, by rw [has_app, h1]; rfl, by rw [or_app, hr n hn]; simp, fun k hk hk' => by rw [has_app, h2 k hk hk', hr k hk']; rfl⟩
theorem AI_fold (t : List Nat) : ∀ (todo done : List Row) (st : Int × Bool), AI done t st → AI (done ++ todo) t (todo.foldl (stepA t) st)
  | [], done, st, I => by simpa using I
  | r :: todo, done, st, I => by
    have := AI_fold t todo (done ++ [r]) (stepA t st r) (AI_step I r)
    rwa [List.append_assoc] at this
theorem VrN_none {rows : List Row} {t : List Nat} : ∀ n, n ≤ t.length → (∀ k, k ≤ n → hasAt rows (t.take k) = false) → VrN rows t n = true
  | 0, _, h => by
    have := h 0 (Nat.le_refl 0)
    rw [List.take_zero] at this
    simp [VrN, this]
  | n + 1, hn, h => by
    have ih := VrN_none (rows := rows) (t := t) n (by omega) fun k hk => h k (by omega)
    simp only [VrN, h (n + 1) (Nat.le_refl _), Bool.false_eq_true, if_false]
    exact ih
theorem VrN_at {rows : List Row} {t : List Nat} {n : Nat} (h : hasAt rows (t.take n) = true) : VrN rows t n = orAt rows (t.take n) := by
  cases n with
  | zero => rw [List.take_zero] at h ⊢; simp [VrN, h]
  | succ n => simp [VrN, h]
theorem VrN_up {rows : List Row} {t : List Nat} {n : Nat} : ∀ m, n ≤ m → (∀ k, n < k → k ≤ m → hasAt rows (t.take k) = false) → VrN rows t m = VrN rows t n
  | 0, h, _ => by obtain rfl : n = 0 := by omega
                  rfl
  | m + 1, h, hk => by
    by_cases e : n = m + 1
    · rw [e]
    · have ih := VrN_up (rows := rows) (t := t) (n := n) m (by omega) fun k h1 h2 => hk k h1 (by omega)
      simp only [VrN, hk (m + 1) (by omega) (Nat.le_refl _), Bool.false_eq_true, if_false]
      exact ih
theorem allow_eq (rows : List Row) (t : List Nat) : allowF rows t = Vr rows t := by
  unfold allowF Vr
  have I := AI_fold t rows [] (-1, true) (.inl ⟨fun k _ => rfl, rfl⟩)
  rw [List.nil_append] at I
  rcases I with ⟨h1, e⟩ | ⟨n, hn, h1, e, h2⟩
  · rw [e, VrN_none _ (Nat.le_refl _) h1]
  · rw [e, VrN_up _ hn h2, VrN_at h1]
noncomputable def pF (F : List Nat → Bool) (s : List Nat) : Bool := if s = [] then true else F s.dropLast
structure Inv (F : List Nat → Bool) (rows : List Row) : Prop where
  nd : (rows.map Prod.fst).Nodup
  ex : ∀ s b, (s, b) ∈ rows ↔ (b = F s ∧ F s ≠ pF F s)
theorem preB_iff {s t : List Nat} : preB s t = true ↔ ∃ u, t = s ++ u := by
  unfold preB
  rw [beq_iff_eq]
  constructor
  · intro h; exact ⟨t.drop s.length, by conv => { lhs; rw [← List.take_append_drop s.length t, h] }⟩
  · rintro ⟨u, rfl⟩; simp
theorem preB_self (s : List Nat) : preB s s = true := preB_iff.mpr ⟨[], by simp⟩
theorem preB_up {s t : List Nat} (h : preB s t = false) : preB s t.dropLast = false := by
  cases h' : preB s t.dropLast
  · rfl
  · refine ob1_1 (preB_iff.mp h') fun u hu => ?_
    by_cases ht : t = []
    · subst ht; rw [List.dropLast_nil] at h'; rw [h'] at h; cases h
    · have := List.dropLast_concat_getLast ht
      rw [hu] at this
      have : preB s t = true := preB_iff.mpr ⟨u ++ [t.getLast ht], by rw [← List.append_assoc]; exact this.symm⟩
      rw [this] at h; cases h
theorem preB_down {s t : List Nat} (h : preB s t = true) (hne : t ≠ s) : t ≠ [] ∧ preB s t.dropLast = true := by
  refine ob1_1 (preB_iff.mp h) fun u z0 => ?_; subst z0
  have hu : u ≠ [] := by rintro rfl; exact hne (by simp)
  refine ⟨by simp [hu], preB_iff.mpr ⟨u.dropLast, by rw [List.dropLast_append_of_ne_nil hu]⟩⟩
theorem preB_dl {s : List Nat} (h : s ≠ []) : preB s s.dropLast = false := by
  cases h' : preB s s.dropLast
  · rfl
  · refine ob1_1 (preB_iff.mp h') fun u hu => ?_
    have := congrArg List.length hu
    rw [List.length_append, List.length_dropLast] at this
    have := List.length_pos_iff.mpr h
    omega
noncomputable def newF (F : List Nat → Bool) (sp : List Nat) (kd : Nat) (t : List Nat) : Bool := if preB sp t then opK kd (F t) else F t
theorem pF_new_out {F : List Nat → Bool} {sp s : List Nat} {kd : Nat} (h : preB sp s = false) : pF (newF F sp kd) s = pF F s := by
  unfold pF
  split
  · rfl
  · unfold newF; rw [preB_up h]; rfl
theorem pF_new_at {F : List Nat → Bool} {sp : List Nat} {kd : Nat} : pF (newF F sp kd) sp = pF F sp := by
  unfold pF
  split
  · rfl
  · rename_i h
    unfold newF; rw [preB_dl h]; rfl
theorem pF_new_in {F : List Nat → Bool} {sp s : List Nat} {kd : Nat} (h : preB sp s = true) (hne : s ≠ sp) : pF (newF F sp kd) s = opK kd (pF F s) := by
  refine ob0_2 (preB_down h hne) fun h1 h2 => ?_
  unfold pF
  rw [if_neg h1, if_neg h1]
  unfold newF; rw [h2]; rfl
theorem VrN_take (rows : List Row) (t u : List Nat) : ∀ n, n ≤ t.length → VrN rows (t ++ u) n = VrN rows t n
  | 0, _ => rfl
  | n + 1, h => by
    have ih := VrN_take rows t u n (by omega)
    unfold VrN
    rw [ih, List.take_append_of_le_length h]
theorem Vr_rec (rows : List Row) (t : List Nat) : Vr rows t = if hasAt rows t then orAt rows t else if t = [] then true else Vr rows t.dropLast := by
  by_cases ht : t = []
  · subst ht
    show VrN rows [] 0 = _
    unfold VrN; rw [if_pos rfl]
  · obtain ⟨u, x, rfl⟩ : ∃ u x, t = u ++ [x] := ⟨t.dropLast, t.getLast ht, (List.dropLast_concat_getLast ht).symm⟩
    rw [if_neg ht, List.dropLast_concat]
    unfold Vr
    have hl : (u ++ [x]).length = u.length + 1 := by simp
    rw [hl]
    have e : (u ++ [x]).take (u.length + 1) = u ++ [x] := by rw [← hl, List.take_length]
    have e2 := VrN_take rows u [x] u.length (Nat.le_refl _)
    conv => { lhs; unfold VrN }
    rw [e, e2]
theorem Vr_inv {F : List Nat → Bool} {rows : List Row} (I : Inv F rows) : ∀ (n : Nat) (t : List Nat), t.length = n → Vr rows t = F t := by
  intro n
  induction n with
  | zero =>
    intro t ht
    obtain rfl := List.length_eq_zero_iff.mp ht
    rw [Vr_rec, if_pos rfl]
    cases hh : hasAt rows []
    · rw [if_neg (by simp)]
      cases hF : F []
      · have := (I.ex [] false).mpr ⟨hF.symm, by rw [hF]; unfold pF; rw [if_pos rfl]; decide⟩
        unfold hasAt at hh
        rw [List.any_eq_false] at hh
        exact absurd (by simp) (hh _ this)
      · rfl
    · rw [if_pos rfl]
      unfold hasAt at hh
      refine ob1_2 (List.any_eq_true.mp hh) fun z0 hm hs => ?_; obtain ⟨s, b⟩ := z0
      simp only [beq_iff_eq] at hs
      subst hs
      have h2 := ((I.ex _ b).mp hm).1
      have ho : orAt rows [] = b := by
        rw [Bool.eq_iff_iff]
        unfold orAt
        rw [List.any_eq_true]
        constructor
        · rintro ⟨⟨s', b'⟩, hm', hs'⟩
          simp only [Bool.and_eq_true, beq_iff_eq] at hs'
          refine ob0_2 hs' fun z0 z1 => ?_; clear hs'; subst z0; subst z1
          have := ((I.ex _ _).mp hm').1
          rw [h2, ← this]
        · rintro rfl; exact ⟨_, hm, by simp⟩
      rw [ho, h2]
  | succ n ih =>
    intro t ht
    have hne : t ≠ [] := by rintro rfl; cases ht
    rw [Vr_rec, if_neg hne]
    have hp : Vr rows t.dropLast = pF F t := by
      unfold pF
      rw [if_neg hne]; exact ih _ (by rw [List.length_dropLast, ht]; rfl)
    cases hh : hasAt rows t
    · rw [if_neg (by simp), hp]
      apply Classical.byContradiction
      intro hc
      have := (I.ex t (F t)).mpr ⟨rfl, fun e => hc e.symm⟩
      unfold hasAt at hh
      rw [List.any_eq_false] at hh
      exact absurd (by simp) (hh _ this)
    · rw [if_pos rfl]
      unfold hasAt at hh
      refine ob1_2 (List.any_eq_true.mp hh) fun z0 hm hs => ?_; obtain ⟨s, b⟩ := z0
      simp only [beq_iff_eq] at hs
      subst hs
      have h2 := ((I.ex _ b).mp hm).1
      have ho : orAt rows s = b := by
        rw [Bool.eq_iff_iff]
        unfold orAt
        rw [List.any_eq_true]
        constructor
        · rintro ⟨⟨s', b'⟩, hm', hs'⟩
          simp only [Bool.and_eq_true, beq_iff_eq] at hs'
          refine ob0_2 hs' fun z0 z1 => ?_; clear hs'; subst z0; subst z1
          have := ((I.ex _ _).mp hm').1
          rw [h2, ← this]
        · rintro rfl; exact ⟨_, hm, by simp⟩
      rw [ho, h2]
theorem allow_inv {F : List Nat → Bool} {rows : List Row} (I : Inv F rows) (t : List Nat) : allowF rows t = F t := by rw [allow_eq]; exact Vr_inv I _ t rfl
theorem com_beq (s t : List Nat) : (com s t == s) = preB s t := by
  rw [Bool.eq_iff_iff, beq_iff_eq]; exact com_pre s t
theorem inside_eq (held : List Row) (sp : List Nat) : insideF held sp = held.filter fun r => preB sp r.1 := by
  unfold insideF; congr 1; funext r; exact com_beq _ _
theorem rest_eq (held : List Row) (sp : List Nat) : restF held sp = held.filter fun r => !preB sp r.1 := by
  unfold restF; congr 1; funext r; rw [com_beq]
theorem mem_rest {held : List Row} {sp s : List Nat} {b : Bool} : (s, b) ∈ restF held sp ↔ ((s, b) ∈ held ∧ preB sp s = false) := by
  rw [rest_eq, List.mem_filter]; simp
theorem mem_turned {held : List Row} {sp s : List Nat} {b : Bool} : (s, b) ∈ turnedF held sp ↔ ((s, !b) ∈ held ∧ preB sp s = true ∧ s ≠ sp) := by
  unfold turnedF
  rw [inside_eq, List.mem_map]
  constructor
  · rintro ⟨⟨s', b'⟩, h, e⟩
    simp only [Prod.mk.injEq] at e
    refine ob0_2 e fun z0 z1 => ?_; clear e; subst z0; subst z1
    simp only [List.mem_filter, bne_iff_ne, ne_eq] at h
    rw [Bool.not_not]
    exact ⟨h.1.1, h.1.2, h.2⟩
  · rintro ⟨h1, h2, h3⟩
    refine ⟨(s, !b), ?_, by simp⟩
    simp only [List.mem_filter, bne_iff_ne, ne_eq]
    exact ⟨⟨h1, h2⟩, h3⟩
theorem turned_all {held : List Row} {sp : List Nat} : (turnedF held sp).length = (insideF held sp).length ↔ ∀ b, (sp, b) ∉ held := by
  unfold turnedF
  rw [List.length_map, List.length_filter_eq_length_iff, inside_eq]
  constructor
  · intro h b hm
    have := h (sp, b) (List.mem_filter.mpr ⟨hm, preB_self sp⟩)
    simp at this
  · rintro h ⟨s, b⟩ hm
    simp only [bne_iff_ne, ne_eq]
    intro e
    have hm := (List.mem_filter.mp hm).1
    rw [e] at hm
    exact h b hm
theorem above_eq {F : List Nat → Bool} {rows : List Row} (I : Inv F rows) (sp : List Nat) : aboveF rows sp = pF F sp := by
  unfold aboveF pF
  by_cases h : sp = []
  · subst h; rfl
  · rw [if_neg h, if_pos (List.length_pos_iff.mpr h), allow_inv I]
theorem fst_sub {rows rows' : List Row} (h : rows'.Sublist rows) : (rows'.map Prod.fst).Sublist (rows.map Prod.fst) := h.map _
theorem stepH_inv {F : List Nat → Bool} {rows : List Row} (I : Inv F rows) (sp : List Nat) (kd : Nat) : Inv (newF F sp kd) (stepH rows sp kd) := by
  have ndr : ((restF rows sp).map Prod.fst).Nodup := I.nd.sublist (fst_sub (by rw [rest_eq]; exact List.filter_sublist))
  have restIn : ∀ s, s ∈ (restF rows sp).map Prod.fst → preB sp s = false := fun s hs => by
    refine ob1_2 (List.mem_map.mp hs) fun z0 h z1 => ?_; obtain ⟨s', b⟩ := z0; subst z1
    exact (mem_rest.mp h).2
  by_cases hk : kd = 2
  · subst hk
    have e : stepH rows sp 2 = restF rows sp ++ turnedF rows sp ++ (if (turnedF rows sp).length = (insideF rows sp).length then [(sp, !allowF rows sp)] else []) := by unfold stepH; rw [if_pos rfl]
    have o2 : ∀ b, opK 2 b = !b := fun b => rfl
    rw [e]
    constructor
    · have hl : ∀ s, s ∈ ((if (turnedF rows sp).length = (insideF rows sp).length then [((sp, !allowF rows sp) : Row)] else []).map Prod.fst) → s = sp := fun s hs => by
        split at hs
        · simpa using hs
        · simp at hs
      have hl1 : ((if (turnedF rows sp).length = (insideF rows sp).length then [((sp, !allowF rows sp) : Row)] else []).map Prod.fst).Nodup := by split <;> simp
      have ndt : ((turnedF rows sp).map Prod.fst).Nodup := by
        unfold turnedF
        rw [List.map_map]
        exact I.nd.sublist (fst_sub (by rw [inside_eq]; exact (List.filter_sublist).trans List.filter_sublist))
      have tIn : ∀ s, s ∈ (turnedF rows sp).map Prod.fst → preB sp s = true ∧ s ≠ sp := fun s hs => by
        refine ob1_2 (List.mem_map.mp hs) fun z0 h z1 => ?_; obtain ⟨s', b⟩ := z0; subst z1
        exact (mem_turned.mp h).2
      rw [List.map_append, List.map_append]
      refine List.nodup_append.mpr ⟨List.nodup_append.mpr ⟨ndr, ndt, fun a ha b hb => ?_⟩, hl1, fun a ha b hb => ?_⟩
      · rintro rfl
        have := restIn _ ha
        rw [(tIn _ hb).1] at this; cases this
      · obtain rfl := hl b hb
        rintro rfl
        rcases List.mem_append.mp ha with ha | ha
        · have := restIn _ ha
          rw [preB_self] at this; cases this
        · exact (tIn _ ha).2 rfl
    · intro s b
      rw [List.mem_append, List.mem_append, mem_rest, mem_turned]
      have hlast : (s, b) ∈ (if (turnedF rows sp).length = (insideF rows sp).length then [((sp, !allowF rows sp) : Row)] else []) ↔ ((∀ b, (sp, b) ∉ rows) ∧ s = sp ∧ b = !F sp) := by
        by_cases hq : (turnedF rows sp).length = (insideF rows sp).length
        · rw [if_pos hq, allow_inv I]; simp [turned_all.mp hq]
        · rw [if_neg hq]
          constructor
          · intro h; cases h
          · rintro ⟨h, _⟩; exact absurd (turned_all.mpr h) hq
      rw [hlast]
      have hno : (∀ b, (sp, b) ∉ rows) ↔ F sp = pF F sp := by
        constructor
        · intro h
          apply Classical.byContradiction
          intro hc
          exact h (F sp) ((I.ex _ _).mpr ⟨rfl, hc⟩)
        · intro h b hm
          exact ((I.ex _ _).mp hm).2 h
      rw [hno]
      cases hp : preB sp s
      · have hne : s ≠ sp := by rintro rfl; rw [preB_self] at hp; cases hp
        rw [pF_new_out hp]
        have hn : newF F sp 2 s = F s := by unfold newF; rw [hp]; rfl
        rw [hn, I.ex]
        simp [hne]
      · by_cases hs : s = sp
        · subst hs
          rw [pF_new_at]
          have hn : newF F s 2 s = !F s := by unfold newF; rw [hp]; rfl
          rw [hn]
          simp only [Bool.true_eq_false, and_false, ne_eq, not_true_eq_false, false_or, true_and]
          constructor
          · rintro ⟨h1, h2⟩; exact ⟨h2, by rw [← h1]; cases F s <;> decide⟩
          · rintro ⟨h1, h2⟩; refine ⟨?_, h1⟩; revert h2; cases F s <;> cases pF F s <;> decide
        · rw [pF_new_in hp hs]
          have hn : newF F sp 2 s = !F s := by unfold newF; rw [hp]; rfl
          rw [hn, o2]
          simp only [I.ex, hs, ne_eq, not_false_eq_true, and_true, false_and, and_false, or_false, Bool.true_eq_false, false_or]
          cases b <;> cases F s <;> cases pF F s <;> decide
  · have e : stepH rows sp kd = restF rows sp ++ (if aboveF rows sp != decide (kd = 1) then [(sp, decide (kd = 1))] else []) := by unfold stepH; rw [if_neg hk]
    have o2 : ∀ b, opK kd b = decide (kd = 1) := fun b => by unfold opK; rw [if_neg hk]
    rw [e, above_eq I]
    generalize decide (kd = 1) = v at o2 ⊢
    constructor
    · have hl : ∀ s, s ∈ ((if (pF F sp != v) = true then [((sp, v) : Row)] else []).map Prod.fst) → s = sp := fun s hs => by
        split at hs
        · simpa using hs
        · simp at hs
      have hl1 : ((if (pF F sp != v) = true then [((sp, v) : Row)] else []).map Prod.fst).Nodup := by split <;> simp
      rw [List.map_append]
      refine List.nodup_append.mpr ⟨ndr, hl1, fun a ha b hb => ?_⟩
      obtain rfl := hl b hb
      rintro rfl
      have := restIn _ ha
      rw [preB_self] at this; cases this
    · intro s b
      rw [List.mem_append, mem_rest]
      have hlast : (s, b) ∈ (if (pF F sp != v) = true then [((sp, v) : Row)] else []) ↔ (pF F sp ≠ v ∧ s = sp ∧ b = v) := by
        by_cases hq : pF F sp = v
        · simp [hq]
        · simp [hq]
      rw [hlast]
      cases hp : preB sp s
      · have hne : s ≠ sp := by rintro rfl; rw [preB_self] at hp; cases hp
        rw [pF_new_out hp]
        have hn : newF F sp kd s = F s := by unfold newF; rw [hp]; rfl
        rw [hn, I.ex]
        simp [hne]
      · have hn : newF F sp kd s = v := by unfold newF; rw [hp, if_pos rfl, o2]
        rw [hn]
        by_cases hs : s = sp
        · subst hs
          rw [pF_new_at]
          simp only [Bool.true_eq_false, and_false, ne_eq, false_or, true_and]
          constructor
          · rintro ⟨h1, h2⟩; exact ⟨h2, fun e => h1 e.symm⟩
          · rintro ⟨h1, h2⟩; exact ⟨fun e => h2 e.symm, h1⟩
        · rw [pF_new_in hp hs, o2]
          simp [hs]
theorem inv_nil : Inv (fun _ => true) [] := ⟨by simp, fun s b => by unfold pF; simp⟩
theorem stP_snoc (cs dn : List Nat) (c : Nat) : stP cs (dn ++ [c]) = newF (stP cs dn) (spotN cs c) (kdN c) := by
  funext t
  unfold stP newF
  rw [List.foldl_append]; rfl
theorem held_inv (cs : List Nat) : ∀ (todo dn : List Nat) (rows : List Row), Inv (stP cs dn) rows → Inv (stP cs (dn ++ todo)) (heldF cs todo rows)
  | [], dn, rows, I => by simpa [heldF] using I
  | c :: todo, dn, rows, I => by
    have h := held_inv cs todo (dn ++ [c]) (stepH rows (spotN cs c) (kdN c)) (by rw [stP_snoc]; exact stepH_inv I _ _)
    rwa [List.append_assoc] at h
theorem held_ok (cs dn : List Nat) : Inv (stP cs dn) (heldF cs dn []) := held_inv cs dn [] [] inv_nil
theorem has_laid : ∀ (i : Nat) (rows : List Row) (s : List Nat), hasAt (laidF i rows) s = hasAt rows s ∧ orAt (laidF i rows) s = orAt rows s
  | _, [], _ => ⟨rfl, rfl⟩
  | i, r :: rows, s => by
    refine ob0_2 (has_laid (i + 1) rows s) fun h1 h2 => ?_
    have a1 : ∀ a b : List Row, hasAt (a ++ b) s = (hasAt a s || hasAt b s) := fun a b => by simp [hasAt]
    have a2 : ∀ a b : List Row, orAt (a ++ b) s = (orAt a s || orAt b s) := fun a b => by simp [orAt]
    have e1 : hasAt (laidR i r) s = (r.1 == s) := by
      unfold laidR hasAt
      split <;> simp
    have e2 : orAt (laidR i r) s = (r.1 == s && r.2) := by
      unfold laidR orAt
      split <;> simp
    have c1 : hasAt (r :: rows) s = ((r.1 == s) || hasAt rows s) := rfl
    have c2 : orAt (r :: rows) s = ((r.1 == s && r.2) || orAt rows s) := rfl
    show hasAt (laidR i r ++ laidF (i + 1) rows) s = _ ∧ orAt (laidR i r ++ laidF (i + 1) rows) s = _
    rw [a1, a2, h1, h2, e1, e2, c1, c2]
    exact ⟨rfl, rfl⟩
theorem VrN_laid (rows : List Row) (t : List Nat) : ∀ n, VrN (laidF 0 rows) t n = VrN rows t n
  | 0 => by unfold VrN; rw [(has_laid 0 rows []).1, (has_laid 0 rows []).2]
  | n + 1 => by
    have ih := VrN_laid rows t n
    unfold VrN
    rw [(has_laid 0 rows _).1, (has_laid 0 rows _).2, ih]
theorem allow_laid (cs dn t : List Nat) : allowF (laidF 0 (heldF cs dn [])) t = stP cs dn t := by
  rw [← allow_inv (held_ok cs dn) t, allow_eq, allow_eq]
  exact VrN_laid _ _ _
theorem differs_spot (cs : List Nat) (s : List Nat) : ∀ (todo dn : List Nat), (stP cs dn s ≠ pF (stP cs dn) s → ∃ c ∈ dn, s = spotN cs c) → stP cs (dn ++ todo) s ≠ pF (stP cs (dn ++ todo)) s → ∃ c ∈ dn ++ todo, s = spotN cs c
  | [], dn, h, hn => by rw [List.append_nil] at hn ⊢; exact h hn
  | c :: todo, dn, h, hn => by
    have := differs_spot cs s todo (dn ++ [c]) (fun hq => by
      rw [stP_snoc] at hq
      by_cases hs : s = spotN cs c
      · exact ⟨c, by simp, hs⟩
      · have hF : stP cs dn s ≠ pF (stP cs dn) s := by
          cases hp : preB (spotN cs c) s
          · rw [pF_new_out hp] at hq
            have hn : newF (stP cs dn) (spotN cs c) (kdN c) s = stP cs dn s := by unfold newF; rw [hp]; rfl
            rwa [hn] at hq
          · rw [pF_new_in hp hs] at hq
            have hn : newF (stP cs dn) (spotN cs c) (kdN c) s = opK (kdN c) (stP cs dn s) := by unfold newF; rw [hp]; rfl
            rw [hn] at hq
            exact fun e => hq (by rw [e])
        refine ob1_2 (h hF) fun d h1 h2 => ?_
        exact ⟨d, by simp [h1], h2⟩) (by rwa [List.append_assoc])
    rwa [List.append_assoc] at this
theorem spot_up (cs : List Nat) (c : Nat) : (spotN cs c).dropLast = (nameN (pickC cs c)).take (dpN c - 1) := by
  have h := dp_lt c
  rw [List.dropLast_eq_take, spot_len]
  unfold spotN
  rw [List.take_take, Nat.min_eq_left (by omega)]
theorem one_eq (cs dn : List Nat) (c : Nat) : oneR cs (dn.map (deedC cs)) c = (spotN cs c, stP cs dn (spotN cs c)) := by
  have h := dp_lt c
  unfold oneR
  rw [state_eq cs dn (pickC cs c) (dpN c) (by omega)]; rfl
theorem par_eq (cs dn : List Nat) (c : Nat) : stateF (dn.map (deedC cs)) ((codeN (pickC cs c) : Nat) : Int) (((dpN c : Nat) : Int) - 1) = pF (stP cs dn) (spotN cs c) := by
  have h := dp_lt c
  have hl := spot_len cs c
  unfold pF
  by_cases h0 : dpN c = 0
  · rw [h0] at hl ⊢
    rw [if_pos (List.length_eq_zero_iff.mp hl)]
    exact state_neg cs dn (pickC cs c)
  · rw [if_neg (fun e => h0 (by rw [e] at hl; exact hl.symm))]
    have e : ((dpN c : Nat) : Int) - 1 = ((dpN c - 1 : Nat) : Int) := by omega
    rw [e, state_eq cs dn (pickC cs c) (dpN c - 1) (by omega), spot_up]
noncomputable def qual (cs dn : List Nat) (c : Nat) : Bool := stP cs dn (spotN cs c) != pF (stP cs dn) (spotN cs c)
theorem stepD_eq (cs dn : List Nat) (acc : List Row) (c : Nat) : stepD cs (dn.map (deedC cs)) acc c = if (qual cs dn c && !(acc.any fun r => r == (spotN cs c, stP cs dn (spotN cs c)))) = true then acc ++ [(spotN cs c, stP cs dn (spotN cs c))] else acc := by
  unfold stepD qual
  rw [one_eq, par_eq]
theorem stepD_mem (cs dn : List Nat) (acc : List Row) (c : Nat) (r : Row) : r ∈ stepD cs (dn.map (deedC cs)) acc c ↔ (r ∈ acc ∨ (qual cs dn c = true ∧ r = (spotN cs c, stP cs dn (spotN cs c)))) := by
  rw [stepD_eq]
  generalize (spotN cs c, stP cs dn (spotN cs c)) = q
  cases hq : qual cs dn c
  · simp
  · cases ha : acc.any fun r => r == q
    · simp
    · have : q ∈ acc := by
        refine ob1_2 (List.any_eq_true.mp ha) fun x h1 h2 => ?_
        rw [beq_iff_eq] at h2; rwa [← h2]
      simp only [Bool.not_true, Bool.and_false, Bool.false_eq_true, if_false, true_and]
      exact ⟨.inl, fun h => h.elim id fun e => by rw [e]; exact this⟩
theorem stepD_nd (cs dn : List Nat) (acc : List Row) (c : Nat) (h : acc.Nodup) : (stepD cs (dn.map (deedC cs)) acc c).Nodup := by
  rw [stepD_eq]
  generalize (spotN cs c, stP cs dn (spotN cs c)) = q
  split
  · rename_i hq
    simp only [Bool.and_eq_true, Bool.not_eq_true'] at hq
    have hn : q ∉ acc := fun hm => by
      have : acc.any (fun r => r == q) = true := List.any_eq_true.mpr ⟨q, hm, by simp⟩
      rw [hq.2] at this; cases this
    refine List.nodup_append.mpr ⟨h, by simp, fun a ha b hb => ?_⟩
    rw [List.mem_singleton] at hb
    subst hb
    rintro rfl; exact hn ha
  · exact h
theorem due_fold (cs dn : List Nat) : ∀ (todo : List Nat) (acc : List Row), acc.Nodup → (todo.foldl (stepD cs (dn.map (deedC cs))) acc).Nodup ∧ ∀ r, r ∈ todo.foldl (stepD cs (dn.map (deedC cs))) acc ↔ (r ∈ acc ∨ ∃ c ∈ todo, qual cs dn c = true ∧ r = (spotN cs c, stP cs dn (spotN cs c)))
  | [], acc, h => ⟨h, fun r => by simp⟩
  | c :: todo, acc, h => by
    refine ob0_2 (due_fold cs dn todo _ (stepD_nd cs dn acc c h)) fun h1 h2 => ?_
    refine ⟨h1, fun r => ?_⟩
    rw [List.foldl_cons, h2 r, stepD_mem]
    constructor
    · rintro ((h | h) | ⟨d, hd, h⟩)
      · exact .inl h
      · exact .inr ⟨c, by simp, h⟩
      · exact .inr ⟨d, by simp [hd], h⟩
    · rintro (h | ⟨d, hd, h⟩)
      · exact .inl (.inl h)
      · rcases List.mem_cons.mp hd with rfl | hd
        · exact .inl (.inr h)
        · exact .inr ⟨d, hd, h⟩
theorem due_mem (cs dn : List Nat) (s : List Nat) (b : Bool) : (s, b) ∈ dueF cs (dn.map (deedC cs)) dn ↔ (b = stP cs dn s ∧ stP cs dn s ≠ pF (stP cs dn) s) := by
  unfold dueF
  rw [(due_fold cs dn dn [] List.nodup_nil).2]
  constructor
  · rintro (h | ⟨c, hc, hq, e⟩)
    · cases h
    · simp only [Prod.mk.injEq] at e
      refine ob0_2 e fun z0 z1 => ?_; clear e; subst z0; subst z1
      exact ⟨rfl, by simpa [qual] using hq⟩
  · rintro ⟨rfl, h⟩
    refine ob1_2 (differs_spot cs s dn [] (fun h => False.elim (by unfold pF stP at h; simp at h)) h) fun c hc z0 => ?_; subst z0
    exact .inr ⟨c, hc, by simpa [qual] using h, rfl⟩
theorem key_nd {rows : List Row} (h : (rows.map Prod.fst).Nodup) (ho : ∀ r ∈ rows, RowOk r) : (rows.map keyR).Nodup := by
  unfold List.Nodup at h ⊢
  rw [List.pairwise_map] at h ⊢
  exact h.imp_of_mem fun ha hb hn e => hn (dirL_inj (ho _ ha).plain (ho _ hb).plain e)
theorem due_inv (cs dn : List Nat) : Inv (stP cs dn) (dueF cs (dn.map (deedC cs)) dn) := by
  refine ⟨?_, due_mem cs dn⟩
  have h := (due_fold cs dn dn [] List.nodup_nil).1
  have hm := due_mem cs dn
  unfold dueF at hm ⊢
  unfold List.Nodup at h ⊢
  rw [List.pairwise_map]
  refine h.imp_of_mem fun {a b} ha hb hn e => hn ?_
  obtain ⟨s, x⟩ := a
  obtain ⟨t, y⟩ := b
  simp only at e
  subst e
  rw [((hm _ _).mp ha).1, ((hm _ _).mp hb).1]
theorem inv_nodup {F : List Nat → Bool} {rows : List Row} (I : Inv F rows) : rows.Nodup := by
  have h := I.nd
  unfold List.Nodup at h ⊢
  rw [List.pairwise_map] at h
  exact h.imp fun hn e => hn (by rw [e])
theorem inv_perm {F : List Nat → Bool} {a b : List Row} (I : Inv F a) (J : Inv F b) : a.Perm b :=
  (List.perm_ext_iff_of_nodup (inv_nodup I) (inv_nodup J)).mpr fun ⟨s, x⟩ => (I.ex s x).trans (J.ex s x).symm
theorem find_same {β : Type} {P : β → Bool} {l m : List β} (h : ∀ x, x ∈ l ↔ x ∈ m) (u : ∀ x ∈ l, ∀ y ∈ l, P x = true → P y = true → x = y) : l.find? P = m.find? P := by
  cases hl : l.find? P with
  | none =>
    rw [List.find?_eq_none] at hl
    symm
    rw [List.find?_eq_none]
    exact fun x hx => hl x ((h x).mpr hx)
  | some x =>
    have h1 := List.find?_some hl
    have h2 := List.mem_of_find?_eq_some hl
    cases hm : m.find? P with
    | none => exact absurd h1 (List.find?_eq_none.mp hm x ((h x).mp h2))
    | some y => rw [u x h2 y ((h y).mpr (List.mem_of_find?_eq_some hm)) h1 (List.find?_some hm)]
theorem sort_same {F : List Nat → Bool} {a b : List Row} (I : Inv F a) (J : Inv F b) (ho : ∀ r ∈ a, RowOk r) : sortR a = sortR b := by
  have hp := inv_perm I J
  have hk : ∀ x, rk (a.map keyR) x = rk (b.map keyR) x := fun x => (hp.map keyR).countP_eq _
  unfold sortR
  rw [hp.length_eq]
  refine List.map_congr_left fun i _ => ?_
  have e : (fun r => rk (b.map keyR) (keyR r) == i) = fun r => rk (a.map keyR) (keyR r) == i := by funext r; rw [hk]
  rw [e]
  congr 1
  refine find_same (fun x => hp.mem_iff) fun x hx y hy h1 h2 => ?_
  rw [beq_iff_eq] at h1 h2
  have h3 := rk_inj (List.mem_map_of_mem hx) (List.mem_map_of_mem hy) (h1.trans h2.symm)
  have h4 : x.1 = y.1 := dirL_inj (ho x hx).plain (ho y hy).plain h3
  obtain ⟨s, p⟩ := x
  obtain ⟨t, q⟩ := y
  simp only at h4
  subst h4
  rw [((I.ex _ _).mp hx).1, ((I.ex _ _).mp hy).1]
theorem sortR_mem {a : List Row} {r : Row} (h : r ∈ sortR a) : r ∈ a ∨ r = default := by
  unfold sortR at h
  refine ob1_2 (List.mem_map.mp h) fun i _ z0 => ?_; subst z0
  cases hf : a.find? fun r => rk (a.map keyR) (keyR r) == i with
  | none => exact .inr rfl
  | some r => exact .inl (List.mem_of_find?_eq_some hf)
theorem sortR_ok {a : List Row} (ho : ∀ r ∈ a, RowOk r) : ∀ r ∈ sortR a, RowOk r := fun r hr => by
  rcases sortR_mem hr with h | rfl
  · exact ho r h
  · have e : ((default : Row).1) = [] := rfl
    exact ⟨fun c hc => (by rw [e] at hc; cases hc), (by rw [e]; exact Nat.zero_le _), fun c hc => (by rw [e] at hc; cases hc)⟩
theorem told_eq (cs dn : List Nat) : toldF cs (laidF 0 (heldF cs dn [])) = (cs.take 4).map fun c => stateF (dn.map (deedC cs)) ((codeN c : Nat) : Int) 4 := by
  unfold toldF
  refine List.map_congr_left fun c _ => ?_
  have := state_eq cs dn c 4 (Nat.le_refl _)
  rw [show (4 : Int) = ((4 : Nat) : Int) from rfl, this, allow_laid, List.take_of_length_le (by rw [name_len]; decide)]
section
variable {w : World} {A : Around} {E : Value → Shared → Prop} {s : Shared} {env : Env}
noncomputable def excO (X : String) (t : Addr) (tb cx cs : Value) (sup : Bool) : Obj := { cls := .type X, data := .fields #[.ref t, tb, cx, cs, .bool sup, .none] }
theorem unpack2 {a : Addr} {led : Bool} (hled : led = !w.params.followText "set-order") (hh : A.handled = none) (ho : s.heap.get? a = some (s2 led)) {Q : List Value → Shared → Prop}
    (hE : ∀ h' tk e t, (∀ c o, s.heap.get? c = some o → h'.get? c = some o) → s.heap.get? e = none → h'.get? e = some (excO "ValueError" t .none .none .none false) → E (.ref e) { s with heap := h', toks := tk }) : wpAny (model prg w) A (unpackItems (.ref a) 1 none) Q E s := by
  have hT : s.TypeIs (.ref a) "set" := ⟨_, ho, rfl⟩
  unfold unpackItems
  refine wpAny_bind ?_
  unfold notIterableAtAll
  refine wpAny_bind (wpAny_specialOf hT F.slot_set_iter.lookup ?_)
  refine wpAny_pure ?_
  rw [if_neg (by decide)]
  refine wpAny_bind (wpAny_holding (set_iter ho (fits2 led) ?_))
  generalize hI : s.heap.objs.size = I
  have haI : a ≠ I := by rw [← hI]; exact Nat.ne_of_lt (Heap.lt_size ho)
  have hk0 : ∀ c o, s.heap.get? c = some o → c ≠ I := fun c o e => by rw [← hI]; exact Nat.ne_of_lt (Heap.lt_size e)
  have hi0 : (s.heap.push (siO 0 0 (.ref a) (2 : Nat) (2 : Nat))).get? I = some (siO (0 : Nat) (0 : Nat) (.ref a) (2 : Nat) (2 : Nat)) := by rw [← hI]; exact Heap.get?_push_size _ rfl
  have ho0 : (s.heap.push (siO 0 0 (.ref a) (2 : Nat) (2 : Nat))).get? a = some (s2 led) := Heap.get?_push_of_some _ ho
  refine wpAny_bind (wpAny_holding ?_)
  unfold draw
  refine wpAny_bind (set_next (s := { s with heap := s.heap.push (siO 0 0 (.ref a) (2 : Nat) (2 : Nat)) }) (N := fun n x => after w n 1) (es := #[(0, .bool false), (1, .bool true)]) (ep := 2) (place := #[0, 1]) (slot := 0) (i := 0) hi0 ho0 (fits2 led)
    (fun Q' E' h => (next2 hled ho0 Q' E').1 fun n v hn => h n v hn) fun next x hx1 h1 hi1 hk1 => ?_)
  refine wpAny_bind (wpAny_holding ?_)
  unfold draw
  refine wpAny_pure (wpAny_pure ?_)
  rw [if_neg (by simp)]
  have ho1 : h1.get? a = some (s2 led) := hk1 a _ haI ho0
  refine wpAny_bind (wpAny_holding (set_next (s := { s with heap := h1 }) (N := fun _ _ => True) (es := #[(0, .bool false), (1, .bool true)]) (ep := 2) (place := #[0, 1]) (slot := next) (i := 1) hi1 ho1 (fits2 led)
    (fun Q' E' h => (next2 hled ho1 Q' E').2 next hx1 fun n v => h n v trivial) fun nn xx _ h2 hi2 hk2 => ?_))
  refine wpAny_ite ?_
  rw [if_pos (show (some xx).isSome = true from rfl)]
  refine wpAny_bind (wpAny_rule (wpAny_bind ?_))
  unfold raiseErrorMade
  refine wpAny_bind (wpAny_mkStr (wpAny_bind (wpAny_newExc_plain plainExc_ValueError fun h' e hm => wpAny_raiseNew_none hh ?_)) (by first | decide | decide +kernel | size_fits))
  refine ob1_3 hm.there fun t ht _ _ => ?_
  have kk : ∀ c o, s.heap.get? c = some o → h2.get? c = some o := fun c o e => hk2 c o (hk0 c o e) (hk1 c o (hk0 c o e) (Heap.get?_push_of_some _ e))
  refine hE h' _ e t (fun c o q => hm.keeps c o (kk c o q)) ?_ ht
  cases q : s.heap.get? e with
  | none => rfl
  | some o => have := hm.new; rw [kk e o q] at this; cases this
end
structure UpF (H h : Heap) (fr : List Addr) (e : Addr) : Prop where
  up : ∀ b o, H.get? b = some o → (b ∉ fr → h.get? b = some o) ∧ (b ∈ fr → ∃ sl, h.get? b = some { o with slots := sl })
  dic : ∀ b ∈ fr, ∃ o es ep, H.get? b = some o ∧ o.data = .dict es ep
  new : H.get? e = none
structure Exc (H h : Heap) (fr : List Addr) (e t : Addr) (cx cs : Value) (sup : Bool) (fl : Value) : Prop extends UpF H h fr e where
  at' : ∃ T oT ts, h.get? e = some (excO "ValueError" t (.ref T) cx cs sup) ∧ H.get? T = none ∧ T ≠ e ∧ h.get? T = some oT ∧ oT.data = .fields ts ∧ ts[3]? = some fl
noncomputable def InFr (l : List Env) (fr : List Addr) : Prop := ∀ env ∈ l, env.scope.kind ≠ .module ∧ ∃ L, env.frame = some L ∧ L ∈ fr
theorem UpF.dict {H h : Heap} {fr : List Addr} {e : Addr} (x : UpF H h fr e) {b : Addr} (hb : b ∈ fr) : ∃ o es ep, h.get? b = some o ∧ o.data = .dict es ep := by
  refine ob3_2 (x.dic b hb) fun o es ep ho hd => ?_
  refine ob1_1 ((x.up b o ho).2 hb) fun sl hs => ?_
  exact ⟨_, es, ep, hs, hd⟩
theorem UpF.live {H h : Heap} {fr : List Addr} {e : Addr} (x : UpF H h fr e) {b : Addr} {o : Obj} (hb : H.get? b = some o) : ∃ o', h.get? b = some o' := by
  by_cases q : b ∈ fr
  · refine ob1_1 ((x.up b o hb).2 q) fun sl hs => ?_; exact ⟨_, hs⟩
  · exact ⟨o, (x.up b o hb).1 q⟩
noncomputable def noHeap : Heap := { objs := #[] }
theorem noHeap_get (b : Addr) : noHeap.get? b = none := Heap.get?_none_of_le (Nat.zero_le _)
theorem InFr.fun {H h : Heap} {fr : List Addr} {e : Addr} (x : UpF H h fr e) : ∀ {l : List Env}, InFr l fr → h.FunFrames noHeap l
  | [], _ => trivial
  | env :: l, hi => by
    refine ob0_2 (hi env (List.mem_cons_self ..)) fun hk z0 => ?_; obtain ⟨L, hf, hL⟩ := z0
    refine ob3_2 (x.dict hL) fun o es ep ho hd => ?_
    exact ⟨hk, ⟨L, o, hf, noHeap_get L, ho, fun vs q => by rw [hd] at q; cases q⟩, InFr.fun x fun env' he => hi env' (List.mem_cons_of_mem _ he)⟩
section
variable {M : Model} {A : Around} {E : Value → Shared → Prop} {s : Shared} {env : Env} {outer : List Env} {H : Heap} {fr : List Addr} {e t L : Addr} {cx cs fl : Value} {sup : Bool}
theorem entry_run {tb head : Value} {hadNext : Bool} {Q : Unit → Shared → Prop} (hfr : A.frames = some (env :: outer)) (hi : InFr (env :: outer) fr) (hf : env.frame = some L) (x : UpF H s.heap fr e) (he : s.heap.get? e = some (excO "ValueError" t tb cx cs sup))
    (h : ∀ h', Exc H h' fr e t cx cs sup (rawInt L) → Q () { s with heap := h' }) :
    wpAny M A (do let a ← frameOf env; let pl ← entryPlaceOf L hadNext; let b ← EntryCells.newEntry head a .none (rawInt L) .none pl; setField (.ref e) 1 b) Q E s := by
  have hmem : ∀ b, b ∈ (env :: outer).filterMap (·.frame) → b ∈ fr := fun b hb => by
    refine ob1_2 (List.mem_filterMap.mp hb) fun env' h1 h2 => ?_
    refine ob0_2 (hi env' h1) fun _ z0 => ?_; obtain ⟨L', h3, h4⟩ := z0
    rw [h3] at h2; cases h2; exact h4
  have hefr : e ∉ fr := fun q => by
    refine ob3_2 (x.dict q) fun o es ep ho hd => ?_
    rw [he] at ho; cases ho; cases hd
  refine wpAny_bind (wpAny_frameOf_fun hfr (hi.fun x) hf fun h₁ hs₁ => ?_)
  refine wpAny_bind (wpAny_entryPlaceOf fun pl hpl => ?_)
  unfold EntryCells.newEntry newFields
  refine wpAny_bind (wpAny_newObj_type ?_ (hpl.sizeOk5 _ _ _ _ _))
  have he₁ : h₁.get? e = some (excO "ValueError" t tb cx cs sup) := (hs₁.2.1 e fun q => hefr (hmem e q)).trans he
  generalize hto : ({ cls := .type "traceback", dict := none, data := .fields ([head, .ref L, .none, rawInt L, .none] ++ (if pl.isEmpty then List.replicate 6 Value.none else pl)).toArray } : Obj) = tO
  have hT₂ : (h₁.push tO).get? h₁.objs.size = some tO := Heap.get?_push_size h₁ (by rw [← hto]; rfl)
  have he₂ : (h₁.push tO).get? e = some (excO "ValueError" t tb cx cs sup) := Heap.get?_push_of_some _ he₁
  refine wpAny_setField he₂ rfl (by simp) (h _ ?_)
  have hTe : h₁.objs.size ≠ e := Nat.ne_of_gt (Heap.lt_size he₁)
  have he₃ := Heap.get?_update_self (Obj.mapFields (·.setIfInBounds 1 (Value.ref h₁.objs.size))) he₂ rfl
  have hT₃ := (Heap.get?_update_other (h₁.push tO) (Obj.mapFields (·.setIfInBounds 1 (Value.ref h₁.objs.size))) (Ne.symm hTe)).trans hT₂
  have old : ∀ b o, b ≠ e → h₁.get? b = some o → ((h₁.push tO).update e (Obj.mapFields (·.setIfInBounds 1 (Value.ref h₁.objs.size)))).get? b = some o := fun b o hb hq => by
    rw [Heap.get?_update_other _ _ (Ne.symm hb)]
    exact Heap.get?_push_of_some _ hq
  have hne : ∀ b o, H.get? b = some o → b ≠ e := fun b o hb q => by rw [q, x.new] at hb; cases hb
  refine ⟨⟨fun b o hb => ⟨fun hn => ?_, fun hm => ?_⟩, x.dic, x.new⟩, h₁.objs.size, tO, _, he₃, ?_, hTe, hT₃, by rw [← hto], ?_⟩
  · exact old b o (hne b o hb) ((hs₁.2.1 b fun q => hn (hmem b q)).trans ((x.up b o hb).1 hn))
  · refine ob1_1 ((x.up b o hb).2 hm) fun sl hsl => ?_
    refine ob1_1 (hs₁.2.2 b _ hsl) fun sl' hsl' => ?_
    exact ⟨sl', old b _ (hne b o hb) hsl'⟩
  · cases q : H.get? h₁.objs.size with
    | none => rfl
    | some o =>
      refine ob1_1 (x.live q) fun o' ho' => ?_
      have := Heap.lt_size ho'
      rw [hs₁.1] at this
      exact absurd this (Nat.lt_irrefl _)
  · first | (simp; done) | (rcases hpl with rfl | ⟨_, _, _, _, _, _, _, rfl⟩ <;> simp)
theorem note_first {Q : Unit → Shared → Prop} (hfr : A.frames = some (env :: outer)) (hi : InFr (env :: outer) fr) (hf : env.frame = some L) (x : UpF H s.heap fr e) (he : s.heap.get? e = some (excO "ValueError" t .none cx cs sup))
    (h : ∀ h', Exc H h' fr e t cx cs sup (rawInt L) → Q () { s with heap := h' }) : wpAny M A (noteFrame (.ref e) env) Q E s := by
  unfold noteFrame
  simp only [hf]
  refine wpAny_bind (wpAny_field he rfl (i := 1) (x := .none) rfl ?_)
  rw [if_neg (by decide)]
  exact entry_run hfr hi hf x he h
theorem rawInt_ne (L : Addr) : (Value.none == rawInt L) = false := by simp [rawInt]
theorem exc_set {h : Heap} (x : Exc H h fr e t cx cs sup fl) (v : Value) : ∃ T oT ts, h.get? e = some (excO "ValueError" t (.ref T) cx cs sup) ∧ h.get? T = some oT ∧ oT.data = .fields ts ∧ ts[3]? = some fl ∧ 3 < ts.size ∧ Exc H (h.update T (Obj.mapFields (·.setIfInBounds 3 v))) fr e t cx cs sup v := by
  obtain ⟨u, T, oT, ts, he, hn, hTe, hT, hd, h3⟩ := x
  have hsz : 3 < ts.size := (Array.getElem?_eq_some_iff.mp h3).1
  have hTf : T ∉ fr := fun q => by refine ob3_2 (u.dic T q) fun o es ep ho _ => ?_; rw [hn] at ho; cases ho
  have other : ∀ b, b ≠ T → (h.update T (Obj.mapFields (·.setIfInBounds 3 v))).get? b = h.get? b := fun b hb => Heap.get?_update_other _ _ (Ne.symm hb)
  have hne : ∀ b o, H.get? b = some o → b ≠ T := fun b o hb q => by rw [q, hn] at hb; cases hb
  refine ⟨T, oT, ts, he, hT, hd, h3, hsz, ⟨⟨fun b o hb => ⟨fun q => (other b (hne b o hb)).trans ((u.up b o hb).1 q), fun q => ?_⟩, u.dic, u.new⟩, T, _, _, (other e (Ne.symm hTe)).trans he, hn, hTe,
    Heap.get?_update_self _ hT (Obj.isFreed_of_fields (Obj.data_mapFields hd _)), Obj.data_mapFields hd _, by simp [hsz]⟩⟩
  refine ob1_1 ((u.up b o hb).2 q) fun sl hs => ?_
  exact ⟨sl, (other b (hne b o hb)).trans hs⟩
theorem flight {f : Option Addr} {Q : Unit → Shared → Prop} (x : Exc H s.heap fr e t cx cs sup fl) (h : ∀ h', Exc H h' fr e t cx cs sup (f.elim .none fun f => rawInt f) → Q () { s with heap := h' }) : wpAny M A (setFlight (.ref e) f) Q E s := by
  refine ob3_6 (exc_set x (f.elim .none fun f => rawInt f)) fun T oT ts he hT hd _ hsz x' => ?_
  unfold setFlight
  refine wpAny_bind (wpAny_field he rfl (i := 1) (x := .ref T) rfl ?_)
  rw [if_pos (show (Value.ref T != Value.none) = true from by simp)]
  exact wpAny_setField hT hd hsz (h _ x')
theorem note {Q : Unit → Shared → Prop} (hfr : A.frames = some (env :: outer)) (hi : InFr (env :: outer) fr) (hf : env.frame = some L) (x : Exc H s.heap fr e t cx cs sup fl) (hfl : fl = .none ∨ fl = rawInt L)
    (h : ∀ h', Exc H h' fr e t cx cs sup (rawInt L) → Q () { s with heap := h' }) : wpAny M A (noteFrame (.ref e) env) Q E s := by
  refine ob3_6 (exc_set x .none) fun T oT ts he hT hd h3 hsz x' => ?_
  unfold noteFrame
  simp only [hf]
  refine wpAny_bind (wpAny_field he rfl (i := 1) (x := .ref T) rfl ?_)
  rw [if_pos (show (Value.ref T != Value.none) = true from by simp)]
  refine wpAny_bind (wpAny_field hT hd h3 ?_)
  rcases hfl with rfl | rfl
  · rw [if_neg (by rw [rawInt_ne]; decide)]
    refine wpAny_bind (wpAny_setField hT hd hsz ?_)
    have hTe : T ≠ e := by
      rintro rfl
      rw [he] at hT; cases hT
      have hd' : (excO "ValueError" t (.ref T) cx cs sup).data = .fields #[.ref t, .ref T, cx, cs, .bool sup, .none] := rfl
      rw [hd'] at hd
      obtain ⟨_, T', oT', ts', he', hn', hTe', hT', _⟩ := x
      rw [he] at he'
      have := congrArg (fun o : Option Obj => o.map (·.data)) he'
      simp [excO] at this
      exact hTe' this.symm
    exact entry_run hfr hi hf x'.toUpF ((Heap.get?_update_other _ _ hTe).trans he) h
  · rw [if_pos (show (rawInt L == rawInt L) = true from by simp)]
    exact wpAny_pure (h _ x)
theorem leave_exc {Q : Unit → Shared → Prop} (hfr : A.frames = some (env :: outer)) (hi : InFr (env :: outer) fr) (hf : env.frame = some L) (x : Exc H s.heap fr e t cx cs sup fl) (hfl : fl = .none ∨ fl = rawInt L)
    (h : ∀ h', Exc H h' fr e t cx cs sup .none → Q () { s with heap := h' }) : wpAny M A (leaving env (.ref e)) Q E s := by
  unfold leaving
  exact wpAny_bind (note hfr hi hf x hfl fun h₁ x₁ => flight (s := { s with heap := h₁ }) (f := none) x₁ fun h₂ x₂ => h h₂ x₂)
theorem cameBack_exc {E : Value → Shared → Prop} (hf : env.frame = some L) (x : Exc H s.heap fr e t cx cs sup fl) (h : ∀ h', Exc H h' fr e t cx cs sup (rawInt L) → E (.ref e) { s with heap := h' }) : cameBackBy M A env E (.ref e) s := by
  refine ob3_6 (exc_set x .none) fun T oT ts he hT hd h3 hsz x' => ?_
  unfold cameBackBy
  refine wpAny_bind (wpAny_field he rfl (i := 1) (x := .ref T) rfl ?_)
  rw [if_neg (by simp)]
  rw [hf]
  exact flight (f := some L) x h
theorem passOn_exc {α : Type} {what : String} {Q : α → Shared → Prop} (hf : env.frame = some L) (x : Exc H s.heap fr e t cx cs sup fl) (h : ∀ h', Exc H h' fr e t cx cs sup (rawInt L) → E (.ref e) { s with heap := h' }) : wpAny M A (PySem.passOn what (.ref e) env : Sem α) Q E s := by
  refine ob3_6 (exc_set x .none) fun T oT ts he hT hd h3 hsz x' => ?_
  unfold PySem.passOn
  refine wpAny_bind (wpAny_field he rfl (i := 1) (x := .ref T) rfl ?_)
  rw [if_neg (by simp)]
  rw [hf]
  exact wpAny_bind (flight (f := some L) x fun h' x' => wpAny_throw (h h' x'))
end
section
variable {w : World} {A : Around} {E : Value → Shared → Prop} {s : Shared} {env : Env}
theorem unchain_entry : entryFor table "proto.unchain" = some Builtin.«proto.unchain» := entryFor_of_tree (by kernel_rfl)
theorem raise_from {x c : Sem Value} {e1 t1 : Addr} {tb1 cs1 : Value} {sup1 : Bool} {Q : Flow → Shared → Prop} (hh : A.handled = some (.ref e1)) 
    (h : wpAny (model prg w) A x (fun v s₁ => ∃ e t, v = .ref e ∧ wpAny (model prg w) A c (fun cv s₂ => cv = .none ∧ s₂.heap.get? e = some (excO "ValueError" t .none .none .none false) ∧ e ≠ e1 ∧ s₂.heap.get? e1 = some (excO "ValueError" t1 tb1 .none cs1 sup1) ∧
      ∀ h', h'.get? e = some (excO "ValueError" t .none (.ref e1) .none true) → (∀ b o, b ≠ e → s₂.heap.get? b = some o → h'.get? b = some o) → E (.ref e) { s₂ with heap := h' }) E s₁) E s) :
    wpAny (model prg w) A (raiseStmt env (some x) (some c)) Q E s := by
  unfold raiseStmt
  refine wpAny_bind (wpAny_mono h (fun v s₁ h₁ => ?_) fun _ _ x => x)
  obtain ⟨e, t, rfl, h₁⟩ := h₁
  refine wpAny_bind (wpAny_holding (wpAny_mono h₁ (fun cv s₂ h₂ => ?_) fun _ _ x => x))
  refine ob0_5 h₂ fun z0 he hne he1 hE => ?_; clear h₂; subst z0
  obtain ⟨hp, g, d, tk, os⟩ := s₂
  have hsub := F.excRaise_ValueError.isExc
  have hmeta := F.excRaise_ValueError.plainMeta
  refine wpAny_bind (wpAny_pure ?_)
  repeat (first | refine wpAny_loadPart he ?_ | wp_step)
  show wpAny (model prg w) A (isSubtype (.type "ValueError") (.type "BaseException")) _ E _
  rw [hsub]
  refine wpAny_pure ?_
  rw [if_pos rfl]
  refine wpAny_pure ?_
  dsimp only
  refine wpAny_ite ?_
  rw [if_pos (show (Value.none == Value.none) = true from by decide)]
  refine wpAny_bind (wpAny_pure ?_)
  refine wpAny_bind (wpAny_setField he rfl (by simp) ?_)
  have he3 := Heap.get?_update_self (Obj.mapFields (·.setIfInBounds 3 Value.none)) he rfl
  refine wpAny_bind (wpAny_setField he3 rfl (by simp) ?_)
  have he4 := Heap.get?_update_self (Obj.mapFields (·.setIfInBounds 4 (Value.bool true))) he3 rfl
  have k4 : ∀ b o, b ≠ e → hp.get? b = some o → ((hp.update e (Obj.mapFields (·.setIfInBounds 3 Value.none))).update e (Obj.mapFields (·.setIfInBounds 4 (Value.bool true)))).get? b = some o := fun b o hb hq => by
    rw [Heap.get?_update_other _ _ (Ne.symm hb), Heap.get?_update_other _ _ (Ne.symm hb)]; exact hq
  have he5 : ((hp.update e (Obj.mapFields (·.setIfInBounds 3 Value.none))).update e (Obj.mapFields (·.setIfInBounds 4 (Value.bool true)))).get? e = some (excO "ValueError" t .none .none .none true) := he4
  have he15 := k4 e1 _ (Ne.symm hne) he1
  generalize hH : (hp.update e (Obj.mapFields (·.setIfInBounds 3 Value.none))).update e (Obj.mapFields (·.setIfInBounds 4 (Value.bool true))) = H at *
  clear he3 he4
  refine wpAny_bind ?_
  unfold isType loadHead
  refine wpAny_bind (wpAny_loadPart he5 (wpAny_pure ?_))
  dsimp only [excO]
  refine wpAny_ite ?_
  rw [if_neg (by decide)]
  refine wpAny_bind ?_
  unfold raisedInstance
  repeat (first | refine wpAny_loadPart he5 ?_ | wp_step)
  have he15' : ({ heap := H, gens := g, drawn := d, toks := tk, os := os } : Shared).heap.get? e1 = some (excO "ValueError" t1 tb1 .none cs1 sup1) := he15
  unfold raiseNew
  refine wpAny_bind (wpAny_handled ?_)
  rw [hh]
  dsimp only
  have hne1 : (Value.ref e1 != Value.ref e) = true := by simp; exact fun q => hne q.symm
  refine wpAny_ite ?_
  rw [if_pos hne1]
  refine wpAny_bind (wpAny_holding (wpAny_runValue (codeAny_builtin unchain_entry ?_)))
  unfold Builtin.«proto.unchain»
  dsimp only
  refine wpAny_bind (wpAny_field he15' rfl (i := 2) (x := .none) rfl ?_)
  refine wpAny_ite ?_
  rw [if_pos (show (Value.none == Value.none) = true from by decide)]
  refine wpAny_pure ?_
  refine wpAny_bind ?_
  unfold updateField
  refine wpAny_bind (wpAny_load he5 ?_)
  dsimp only [excO]
  refine wpAny_ite ?_
  rw [if_pos (by simp)]
  refine wpAny_update he5 (wpAny_throw ?_)
  have he6 := Heap.get?_update_self (Obj.mapFields (·.setIfInBounds 2 (Value.ref e1))) he5 rfl
  refine hE _ he6 fun b o hb hq => ?_
  rw [Heap.get?_update_other _ _ (Ne.symm hb)]
  exact k4 b o hb hq
end
noncomputable def OutS (l : List Env) (M : Addr → Prop) (f : Fz) (s : Shared) : Prop :=
  ∀ env ∈ l, env.scope.kind ≠ .module ∧ ∃ L o es ep, env.frame = some L ∧ f L = none ∧ ¬ M L ∧ s.heap.get? L = some o ∧ o.data = .dict es ep
theorem alike_dict {b : Addr} {o o' : Obj} {es : Array DictEntry} {ep : Nat} (al : Alike b o o') (hd : o.data = .dict es ep) : o'.data = .dict es ep := by
  rcases al with rfl | ⟨_, sl, rfl⟩ | ⟨_, vs, more, rfl, _⟩
  · exact hd
  · exact hd
  · cases hd
theorem OutS.grew {l : List Env} {M M' : Addr → Prop} {f f' : Fz} {s s' : Shared} (x : OutS l M f s) (g : GrewS M f s M' f' s') : OutS l M' f' s' := fun env he => by
  refine ob0_2 (x env he) fun hk z0 => ?_; obtain ⟨L, o, es, ep, h1, h2, h3, h4, h5⟩ := z0
  refine ob1_2 (g.live h3 h4) fun o' ho' al => ?_
  refine ⟨hk, L, o', es, ep, h1, ?_, fun hm => ?_, ho', alike_dict al h5⟩
  · cases q : f' L with
    | none => rfl
    | some oo =>
      rcases g.new L oo q with h | h | h
      · rw [h2] at h; cases h
      · rw [h4] at h; cases h
      · exact absurd h h3
  · rcases g.M' L hm with h | h
    · exact h3 h
    · rw [h4] at h; cases h
noncomputable def noM : Addr → Prop := fun _ => False
theorem OutS.grewE {l : List Env} {f f' : Fz} {s s' : Shared} (x : OutS l noM f s) (g : Grew f s f' s') : OutS l noM f' s' := x.grew g.toS
theorem OutS.infr {l : List Env} {M : Addr → Prop} {f : Fz} {s : Shared} (x : OutS l M f s) : InFr l (l.filterMap (·.frame)) := fun env he => by
  refine ob0_2 (x env he) fun hk z0 => ?_; obtain ⟨L, o, es, ep, h1, _⟩ := z0
  exact ⟨hk, L, h1, List.mem_filterMap.mpr ⟨env, he, h1⟩⟩
theorem OutS.mem {l : List Env} {M : Addr → Prop} {f : Fz} {s : Shared} (x : OutS l M f s) {b : Addr} (hb : b ∈ l.filterMap (·.frame)) : f b = none ∧ ¬ M b ∧ ∃ o es ep, s.heap.get? b = some o ∧ o.data = .dict es ep := by
  refine ob1_2 (List.mem_filterMap.mp hb) fun env h1 h2 => ?_
  refine ob0_2 (x env h1) fun _ z0 => ?_; obtain ⟨L, o, es, ep, h3, h4, h5, h6, h7⟩ := z0
  rw [h3] at h2; cases h2
  exact ⟨h4, h5, o, es, ep, h6, h7⟩
structure Flew (l : List Env) (f' : Fz) (s' : Shared) (H : Heap) (e : Addr) (x : Str) (fl : Value) : Prop where
  ex : ∃ fr t cx cs sup tk, Exc H s'.heap fr e t cx cs sup fl ∧ H.TupAt t [.str x tk] ∧ InFr l fr ∧ (∀ b ∈ fr, f' b = none)
  sub : ∀ a o, f' a = some o → H.get? a = some o
  tab : TabOk f' { s' with heap := H }
noncomputable def ThrownE (l : List Env) (f : Fz) (s : Shared) (e : Addr) (x : Str) (s' : Shared) : Prop := ∃ f' H, Grew f s f' { s' with heap := H } ∧ Flew l f' s' H e x .none
noncomputable def ThrownS (env : Env) (l : List Env) (M : Addr → Prop) (f : Fz) (s : Shared) (e : Addr) (x : Str) (s' : Shared) : Prop :=
  ∃ M' f' H fl, GrewS M f s M' f' { s' with heap := H } ∧ (fl = .none ∨ fl = rawInt env.locals) ∧ Flew (env :: l) f' s' H e x fl
noncomputable def CallX (w : World) (k : Nat) (fn : V) (args : List V) (x : Str) : Prop :=
  ∀ (A : Around) (l : List Env) (f : Fz) (s : Shared) (vf : Value) (vs : List Value), Room k A → Okf w f s → A.frames = some l → OutS l noM f s → Rel f fn vf → RelL f args vs →
    ∀ (Q : Value → Shared → Prop) (E : Value → Shared → Prop), (∀ e s', ThrownE l f s e x s' → E (.ref e) s') → wpAny (model prg w) A (call vf vs) Q E s
noncomputable def EvX (w : World) (k : Nat) (gs : List (Str × NameKind)) (ρ : Rho) (ex : Expr) (x : Str) : Prop :=
  ∀ (env : Env) (A : Around) (l : List Env) (f : Fz) (s : Shared), Room k A → Ok w gs env ρ f s → A.frames = some l → OutS l noM f s →
    ∀ (Q : Value → Shared → Prop) (E : Value → Shared → Prop), (∀ e s', ThrownE l f s e x s' → E (.ref e) s') → wpAny (model prg w) A (eval ex env) Q E s
noncomputable def TeX (w : World) (k : Nat) (gs : List (Str × NameKind)) (ρ : Rho) (ex : Expr) (x : Str) : Prop :=
  ∀ (env : Env) (A : Around) (l : List Env) (f : Fz) (s : Shared), Room k A → Ok w gs env ρ f s → A.frames = some l → OutS l noM f s →
    ∀ (Q : Bool → Shared → Prop) (E : Value → Shared → Prop), (∀ e s', ThrownE l f s e x s' → E (.ref e) s') → wpAny (model prg w) A (isTrue ex env (eval ex env)) Q E s
noncomputable def Ex1X (w : World) (k : Nat) (nm : List (Str × NameKind)) (ρ : Rho) (σ : Sig) (st : Stmt) (x : Str) : Prop :=
  ∀ (env : Env) (A : Around) (α : Str → Addr) (l : List Env) (f : Fz) (s : Shared) (M : Addr → Prop), Room k A → Live M s → St w nm env ρ σ α M f s → A.frames = some (env :: l) → env.frame = some env.locals → OutS l M f s →
    ∀ (Q : Flow → Shared → Prop) (E : Value → Shared → Prop), (∀ e s', ThrownS env l M f s e x s' → E (.ref e) s') → wpAny (model prg w) A (exec st env) Q E s
noncomputable def ExX (w : World) (k : Nat) (nm : List (Str × NameKind)) (ρ : Rho) (σ : Sig) (st : List Stmt) (x : Str) : Prop :=
  ∀ (env : Env) (A : Around) (α : Str → Addr) (l : List Env) (f : Fz) (s : Shared) (M : Addr → Prop), Room k A → Live M s → St w nm env ρ σ α M f s → A.frames = some (env :: l) → env.frame = some env.locals → OutS l M f s →
    ∀ (Q : Flow → Shared → Prop) (E : Value → Shared → Prop), (∀ e s', ThrownS env l M f s e x s' → E (.ref e) s') → wpAny (model prg w) A (execs st env) Q E s
theorem ThrownE.pre {l : List Env} {f f₁ : Fz} {s s₁ s' : Shared} {e : Addr} {x : Str} (g : Grew f s f₁ s₁) (h : ThrownE l f₁ s₁ e x s') : ThrownE l f s e x s' := by
  obtain ⟨f', H, g', fl⟩ := h; exact ⟨f', H, g.trans g', fl⟩
theorem ThrownS.pre {env : Env} {l : List Env} {M M₁ : Addr → Prop} {f f₁ : Fz} {s s₁ s' : Shared} {e : Addr} {x : Str} (g : GrewS M f s M₁ f₁ s₁) (h : ThrownS env l M₁ f₁ s₁ e x s') : ThrownS env l M f s e x s' := by
  obtain ⟨M', f', H, fl, g', hfl, F⟩ := h; exact ⟨M', f', H, fl, g.trans g', hfl, F⟩
theorem Flew.grew {l : List Env} {M M' : Addr → Prop} {f f' : Fz} {s s' : Shared} {H : Heap} {e : Addr} {x : Str} {fl : Value} (g : GrewS M f s M' f' { s' with heap := H }) (F : Flew l f' s' H e x fl) : GrewS M f s M' f' s' := by
  obtain ⟨⟨fr, t, cx, cs, sup, tk, ex, _, _, hfr⟩, sub, tab⟩ := F
  refine ⟨g.le, g.new, ?_, g.M', fun h0 hn => ?_⟩
  · refine ob2_2 g.keeps fun h tk' hs k => ?_
    have h1 : H = h := congrArg Shared.heap hs
    subst h1
    have h2 : s' = { s with heap := s'.heap, toks := s'.toks } := by
      have a1 : ({ s' with heap := H } : Shared).gens = _ := congrArg Shared.gens hs
      have a2 : ({ s' with heap := H } : Shared).drawn = _ := congrArg Shared.drawn hs
      have a3 : ({ s' with heap := H } : Shared).os = _ := congrArg Shared.os hs
      dsimp only at a1 a2 a3
      rw [← a1, ← a2, ← a3]
    refine ⟨s'.heap, s'.toks, h2, fun b o hb e => ?_⟩
    refine ob1_2 (k b o hb e) fun o' ho' al => ?_
    by_cases q : b ∈ fr
    · refine ob1_1 ((ex.up b o' ho').2 q) fun sl hs => ?_
      refine ob3_2 (ex.dic b q) fun od es ep hod hdd => ?_
      rw [ho'] at hod; cases hod
      exact ⟨_, hs, al.trans (.inr (.inl ⟨⟨es, ep, hdd⟩, sl, rfl⟩))⟩
    · exact ⟨o', (ex.up b o' ho').1 q, al⟩
  · refine ob1_2 (tab hn) fun ps h1 h2 => ?_
    refine ⟨ps, (ex.up _ _ h1).1 (fun q => ?_), h2⟩
    refine ob3_2 (ex.dic _ q) fun od es ep hod hdd => ?_
    rw [show H.get? tabA = some (tabO ps) from h1] at hod; cases hod; cases hdd
theorem Flew.sub' {l : List Env} {f' : Fz} {s' : Shared} {H : Heap} {e : Addr} {x : Str} {fl : Value} (F : Flew l f' s' H e x fl) : ∀ a o, f' a = some o → s'.heap.get? a = some o := fun a o h => by
  obtain ⟨⟨fr, t, cx, cs, sup, tk, ex, _, _, hfr⟩, sub, tab⟩ := F
  exact (ex.up a o (sub a o h)).1 fun q => by rw [hfr a q] at h; cases h
section
variable {w : World} {k : Nat} {nm gs : List (Str × NameKind)} {ρ : Rho} {σ : Sig} {x : Str}
theorem exX_cons {st : Stmt} {rest : List Stmt} (h : Ex1 w k nm ρ σ st fun ρ' σ' fl => fl = .next ∧ ExX w k nm ρ' σ' rest x) : ExX w k nm ρ σ (st :: rest) x := fun env A α l f s M rm L t hA hf O Q E hE =>
  wpAny_execs_cons (h env A α f s M _ E rm L t fun fl flow ρ' σ' α' M' f' s' hΦ hr t' L' g => by
    obtain ⟨rfl, hΦ⟩ := hΦ
    simp only [FlRel] at hr; subst hr
    exact hΦ env A α' l f' s' M' rm L' t' hA hf (O.grew g) Q E fun e s'' hT => hE e s'' (hT.pre g))
theorem exX_head {st : Stmt} {rest : List Stmt} (h : Ex1X w k nm ρ σ st x) : ExX w k nm ρ σ (st :: rest) x := fun env A α l f s M rm L t hA hf O Q E hE =>
  wpAny_execs_cons (h env A α l f s M rm L t hA hf O _ E hE)
theorem OutS.push {env : Env} {α : Str → Addr} {l : List Env} {M : Addr → Prop} {f : Fz} {s : Shared} (O : OutS l M f s) (t : St w nm env ρ σ α M f s) (hf : env.frame = some env.locals) : OutS (env :: l) noM f s := fun env' he => by
  rcases List.mem_cons.mp he with rfl | he
  · refine ob1_2 t.loc fun m z0 _ => ?_; obtain ⟨o, es, ep, ho, hd, _⟩ := z0
    exact ⟨by rw [t.kind]; decide, _, o, es, ep, hf, t.free _ t.ML, fun h => h, ho, hd⟩
  · refine ob0_2 (O env' he) fun h1 z0 => ?_; obtain ⟨L, o, es, ep, h2, h3, _, h4, h5⟩ := z0
    exact ⟨h1, L, o, es, ep, h2, h3, fun h => h, h4, h5⟩
theorem ThrownE.toS {env : Env} {l : List Env} {M : Addr → Prop} {f : Fz} {s s' : Shared} {e : Addr} (h : ThrownE (env :: l) f s e x s') : ThrownS env l M f s e x s' := by
  obtain ⟨f', H, g, F⟩ := h
  exact ⟨M, f', H, .none, g.toS, .inl rfl, F⟩
theorem x1_setX {n pos pos' e} (he : EvX w k nm ρ e x) (hs : ∀ env, swapsWith e (some (.Name n pos')) pos.line env = pure false := by intro _; rfl) : Ex1X w k nm ρ σ (.Assign [.Name n pos'] e pos) x := fun env A α l f s M rm L t hA hf O Q E hE =>
  wpAny_Assign_Name (he env A (env :: l) f s rm t.ok hA (O.push t hf) _ E fun e s' h => hE e s' h.toS) (hs env)
theorem te_cmpX {op l' r pos} (hl : EvX w k gs ρ l' x) (hm : behindInMarks op r = false := by with_unfolding_all rfl) : TeX w k gs ρ (.Compare l' [op] [r] pos) x := fun env A l f s rm ok hA O Q E hE =>
  wpAny_isTrue_Compare1 (hl env A l f s rm ok hA O _ E hE) hm
theorem ev_ifX {test body orelse pos} (ht : TeX w k gs ρ test x) : EvX w k gs ρ (.IfExp test body orelse pos) x := fun env A l f s rm ok hA O Q E hE =>
  wpAny_IfExp (ht env A l f s rm ok hA O _ E hE)
theorem ev_callX {func args pos fv l} (hf : Evals w k gs ρ func fv) (hc : Callee w fv) (ha : EvalsL w k gs ρ args l) (h : CallX w k fv l x)
    (hp : ∀ env, starEach args env = (evalEach args env).map fun t => (false, t) := by intro _; rfl)
    (he : ∀ env, eval (.Call func args [] pos) env = (do callWith pos (← eval func env) [] (backTo pos (starEach args env)) (backToKw pos (keywordEach [] env))) := by intro _; rfl) :
    EvX w k gs ρ (.Call func args [] pos) x := fun env A fl f s rm ok hA O Q E hE => by
  refine Call_ (hf env A f s rm ok _ _ fun vf s₁ f₁ g₁ r₁ => ?_) (he env)
  have ok₁ := ok.grew g₁
  have key : wpAny (model prg w) A (evalArgs vf true (backTo pos (starEach args env)) []) (fun a s₂ => (∃ f₂, Grew f₁ s₁ f₂ s₂) ∧ wpAny (model prg w) A (call vf ([] ++ a.pos) a.kw) Q E s₂) E s₁ :=
    args_run ha rm ok₁ (hp env) fun vs s₂ f₂ g₂ r₂ => ⟨⟨f₂, g₂⟩, h A fl f₂ s₂ vf vs rm (ok₁.grew g₂).okf hA ((O.grewE g₁).grewE g₂) (r₁.mono g₂.le) r₂ Q E fun e s' hT => hE e s' ((hT.pre g₂).pre g₁)⟩
  cases hc with
  | bi n =>
    obtain rfl := rel_bi.mp r₁
    exact Calls.callWith_builtin (any_plain (hp env) pos) (wpAny_mono key (fun a s h => h.2) fun _ _ x => x)
  | typ n =>
    obtain rfl := rel_typ.mp r₁
    exact _root_.PySem.callWith_type (any_plain (hp env) pos) (wpAny_mono key (fun a s h => h.2) fun _ _ x => x)
  | top a hfn =>
    obtain rfl := rel_top.mp r₁
    obtain ⟨c, d, fd, sl, hK, hne⟩ := hfn
    exact Calls.callWith_function (fd := fd) (wpAny_mono key (fun a s ⟨⟨f₂, g₂⟩, h⟩ => ⟨⟨(ok₁.grew g₂).okf.sub _ _ ((ok₁.grew g₂).okf.top _ _ hK hne), rfl⟩, h⟩) fun _ _ x => x)
theorem left {A : Around} {env : Env} {l : List Env} {M : Addr → Prop} {f f₁ : Fz} {s s₂ s' : Shared} {e : Addr} {Q : Unit → Shared → Prop} {E : Value → Shared → Prop} (hA : A.frames = some l) (hf : env.frame = some env.locals) (g : Grew f s f₁ s₂) (hM : ∀ b, M b → s.heap.get? b = none)
    (h : ThrownS env l M f₁ s₂ e x s') (hQ : ∀ s'', ThrownE l f s e x s'' → Q () s'') : wpAny (model prg w) (A.deeper env) (leaving env (.ref e)) Q E s' := by
  obtain ⟨M', f', H, fl, g', hfl, ⟨fr, t, cx, cs, sup, tk, ex, htup, hin, hfr⟩, sub, tab⟩ := h
  have G : Grew f s f' { s' with heap := H } := g'.toG g hM sub tab
  refine leave_exc (Around.frames_deeper hA) hin hf ex hfl fun h' ex' => hQ _ ⟨f', H, G, ⟨fr, t, cx, cs, sup, tk, ex', htup, fun env' he => hin env' (List.mem_cons_of_mem _ he), hfr⟩, sub, tab⟩
theorem fn_X {a : Addr} {body : List Stmt} {fd : FuncData} {args : List V} {pn : List Str} {pv : List V} (F : FnIs w a nm body fd)
    (hb : Binds w fd args [] pn pv) (hnd : pn.Nodup) (hp : ∀ n ∈ pn, nm.lookup n = some .local ∨ nm.lookup n = some .cell)
    (hex : ExX w k nm (rho0 nm pn pv) [] body x) : CallX w (k + 1) (.top a) args x := fun A l f s vf vs rm ok hA O rf rv Q E hE => by
  obtain rfl := rel_top.mp rf
  have hroom : A.depth < recursionLimit := by have := rm.depth; omega
  refine wpAny_call (fn_codeG F hb hnd hp hroom ok rv (kvs := []) (by simp only [List.map_nil]; exact RelL.nil) fun env f₁ s₂ M X g hMM hM L t => codeAny_func ?_)
  have O' : OutS l M f₁ s₂ := fun env' he => by
    refine ob0_2 (O env' he) fun h1 z0 => ?_; obtain ⟨L', o, es, ep, h2, h3, _, h4, h5⟩ := z0
    refine ob0_2 ((O.grewE g) env' he) fun h1' z0 => ?_; obtain ⟨L'', o', es', ep', h2', h3', _, h4', h5'⟩ := z0
    rw [h2] at h2'; cases h2'
    exact ⟨h1, L', o', es', ep', h2, h3', fun hm => (by rw [hM _ hm] at h4; cases h4), h4', h5'⟩
  refine hex env (A.deeper env) (fun _ => 0) l f₁ s₂ M (rm.deeper env) L t (Around.frames_deeper hA) X.frame O' _ _ fun e s' hT => ?_
  exact left hA X.frame g hM hT fun s'' h => hE e s'' h
end
section
variable {w : World} {k : Nat} {nm gs : List (Str × NameKind)} {ρ : Rho} {σ : Sig} {x : Str}
theorem noteS {A : Around} {env : Env} {l : List Env} {M : Addr → Prop} {f : Fz} {s s' : Shared} {e : Addr} {Q : Unit → Shared → Prop} {E : Value → Shared → Prop} (hA : A.frames = some (env :: l)) (hf : env.frame = some env.locals) (h : ThrownS env l M f s e x s')
    (hQ : ∀ s'', ThrownS env l M f s e x s'' → Q () s'') : wpAny (model prg w) A (noteFrame (.ref e) env) Q E s' := by
  obtain ⟨M', f', H, fl, g, hfl, ⟨fr, t, cx, cs, sup, tk, ex, htup, hin, hfr⟩, sub, tab⟩ := h
  exact note hA hin hf ex hfl fun h' ex' => hQ _ ⟨M', f', H, rawInt env.locals, g, .inr rfl, ⟨fr, t, cx, cs, sup, tk, ex', htup, hin, hfr⟩, sub, tab⟩
theorem landS {A : Around} {env : Env} {l : List Env} {M : Addr → Prop} {f : Fz} {s s' : Shared} {e : Addr} {Q : Unit → Shared → Prop} {E : Value → Shared → Prop} (h : ThrownS env l M f s e x s')
    (hQ : ∀ s'', ThrownS env l M f s e x s'' → Q () s'') : wpAny (model prg w) A (setFlight (.ref e) none) Q E s' := by
  obtain ⟨M', f', H, fl, g, hfl, ⟨fr, t, cx, cs, sup, tk, ex, htup, hin, hfr⟩, sub, tab⟩ := h
  exact flight (f := none) ex fun h' ex' => hQ _ ⟨M', f', H, .none, g, .inl rfl, ⟨fr, t, cx, cs, sup, tk, ex', htup, hin, hfr⟩, sub, tab⟩
theorem backS {A : Around} {env : Env} {l : List Env} {M : Addr → Prop} {f : Fz} {s s' : Shared} {e : Addr} {E : Value → Shared → Prop} (hf : env.frame = some env.locals) (h : ThrownS env l M f s e x s')
    (hE : ∀ s'', ThrownS env l M f s e x s'' → E (.ref e) s'') : cameBackBy (model prg w) A env E (.ref e) s' := by
  obtain ⟨M', f', H, fl, g, hfl, ⟨fr, t, cx, cs, sup, tk, ex, htup, hin, hfr⟩, sub, tab⟩ := h
  exact cameBack_exc hf ex fun h' ex' => hE _ ⟨M', f', H, rawInt env.locals, g, .inr rfl, ⟨fr, t, cx, cs, sup, tk, ex', htup, hin, hfr⟩, sub, tab⟩
theorem passS {α : Type} {A : Around} {env : Env} {l : List Env} {M : Addr → Prop} {f : Fz} {s s' : Shared} {e : Addr} {what : String} {Q : α → Shared → Prop} {E : Value → Shared → Prop} (hf : env.frame = some env.locals) (h : ThrownS env l M f s e x s')
    (hE : ∀ s'', ThrownS env l M f s e x s'' → E (.ref e) s'') : wpAny (model prg w) A (PySem.passOn what (.ref e) env : Sem α) Q E s' := by
  obtain ⟨M', f', H, fl, g, hfl, ⟨fr, t, cx, cs, sup, tk, ex, htup, hin, hfr⟩, sub, tab⟩ := h
  exact passOn_exc hf ex fun h' ex' => hE _ ⟨M', f', H, rawInt env.locals, g, .inr rfl, ⟨fr, t, cx, cs, sup, tk, ex', htup, hin, hfr⟩, sub, tab⟩
theorem x1_forX {tgt iter : Expr} {body : List Stmt} {pos : Pos} {v : V} {x₀ : V} {xs : List V} {ρ₁ : Rho} {σ₁ : Sig} (he : EvS w k nm ρ σ iter v) (hi : IterOk w k v (x₀ :: xs)) (hasg : Asg w nm tgt x₀ ρ σ ρ₁ σ₁) (hex : ExX w k nm ρ₁ σ₁ body x)
    (hs : ∀ env x, foldedSetIterable iter env x = pure x := by intros; rfl) : Ex1X w k nm ρ σ (.For tgt iter body [] pos) x := fun env A α l f s M rm L t hA hf O Q E hE => by
  refine wpAny_For (he env A α f s M _ E rm L t fun val f' s' g r => hi A f' s' val _ E rm (t.grew L g).okf r fun I s'' kp hdead hlive it => ?_) (hs env)
  refine ob4_7 it fun fp wr P Sti W hst hwr hfp hP hlg hal => ?_; clear it
  have t' := t.grew L g
  have L' := L.grew g.keeps
  have g' : Grew f' s' f' s'' := Grew.keep t'.okf.sub kp
  have t'' := t'.grew L' g'
  have L'' := L'.grew (keeps_toW kp)
  have hI0 : s.heap.get? I = none := keeps_dead g.keeps hdead
  have hfI : f' I = none := by
    cases q : f' I with
    | none => rfl
    | some o => rw [t'.okf.sub _ _ q] at hdead; cases hdead
  have hIT : I ≠ tabA := t'.okf.tab.live hfI hdead
  have hMI : ¬ M I := fun hm => by refine ob1_1 (L' I hm) fun o e => ?_; rw [hdead] at e; cases e
  have hIwr : ∀ b, b ≠ I → b ∉ wr := fun b hb hm => hb (hwr b hm)
  have gs : GrewS M f s M f' s'' := (g.trans g').toS
  refine codeAny_forLoop_any (fun n s₁ => s₁ = s'') ?_ 0 rfl
  rintro n s₁ rfl
  refine W.item 0 s₁ _ _ (by simp) hst fun u h' tk hPu hst' hk => ?_
  have kk : ∀ b o, b ≠ I → s₁.heap.get? b = some o → h'.get? b = some o := fun b o hb e => hk b o (hIwr b hb) e
  refine ob1_2 (hP _ _ hPu) fun x' hx' rx => ?_
  have hxx : x' = x₀ := by simpa using hx'.symm
  subst hxx
  have t₂ := t''.other hMI hfI hIT kk (tk := tk)
  have L₂ := L''.other hMI kk (tk := tk)
  have g₂ := gs.other hI0 kk (tk := tk)
  refine hlg _ _ _ _ _ _ hst' ?_
  refine hasg env A α f' _ M u _ _ rm.handled L₂ t₂ rx fun s₃ t₃ L₃ g₃ => ?_
  have g₄ := g₂.trans g₃
  refine hex env A α l f' s₃ M rm L₃ t₃ hA hf (O.grew g₄) _ _ fun e s₅ hT => ?_
  exact noteS hA hf (hT.pre g₄) fun s₆ hT => backS hf hT fun s₇ hT => hE e s₇ hT
theorem lam_callX {p pg : Str} (hb : EvX w k lamScope.names [("page", false, .str pg), ("place", true, .str p)] lamBody x) {A : Around} {l : List Env} {f : Fz} {s : Shared} {g : Addr} {xv : Value} (hl : LamAt f g p) (rm : Room (k + 1) A) (ok : Okf w f s) (hA : A.frames = some l) (O : OutS l noM f s) (rx : Rel f (.str pg) xv)
    {Q : Value → Shared → Prop} {E : Value → Shared → Prop} (hE : ∀ e s', ThrownE l f s e x s' → E (.ref e) s') : wpAny (model prg w) A (call (.ref g) [xv]) Q E s := by
  have hroom : A.depth < recursionLimit := by have := rm.depth; omega
  refine wpAny_call (lam_code (x := .str pg) hl ok hroom rx fun env f' s' EV gr hns hfn hdd okE => kla_codeExpr ?_)
  have O' : OutS (env :: l) noM f' s' := fun env' he => by
    rcases List.mem_cons.mp he with rfl | he
    · obtain ⟨o, es, ep, ho, hd, _⟩ := hns
      exact ⟨by rw [okE.kind]; decide, _, o, es, ep, EV.frame, hfn, fun h => h, ho, hd⟩
    · exact (O.grewE gr) env' he
  refine hb env (A.deeper env) (env :: l) f' s' (rm.deeper env) okE (Around.frames_deeper hA) O' _ _ fun e s'' hT => ?_
  exact left hA EV.frame gr (M := noM) (fun _ h => h.elim) hT.toS fun s3 h => hE e s3 h
theorem ev_rulecallX {o e : Expr} {apos pos : Pos} {p pg : Str} {b : Bool} (hb' : EvX w k lamScope.names [("page", false, .str pg), ("place", true, .str p)] lamBody x)
    (ho : Evals w (k + 1) gs ρ o (.rul p b)) (he : Evals w (k + 1) gs ρ e (.str pg))
    (hline : (apos.endLine == pos.line) = true := by rfl) (hb : ∀ env, attributeBase o "applies_to" env (eval o env) = eval o env := by intro _; rfl)
    (hp : ∀ env, starEach [e] env = (evalEach [e] env).map fun t => (false, t) := by intro _; rfl)
    (hfew : ∀ env, ((backTo pos (starEach [e] env)).all (fun x => !x.1) && (backToKw pos (keywordEach [] env)).all (fun x => x.1.isSome)
      && decide ([e].length + ([] : List Keyword).length + (if ([] : List Keyword).isEmpty then 0 else 1) < 30)) = true := by intro _; rfl) :
    EvX w (k + 1) gs ρ (.Call (.Attribute o "applies_to" apos) [e] [] pos) x := fun env A l f s rm ok hA O Q E hE => by
  refine meth_any (hb env) (hfew env) hline fun pl => ho env A f s rm ok _ _ fun vo s₁ f₁ g₁ r₁ => ?_
  have ok₁ := ok.grew g₁
  refine ob1_2 (rel_rul.mp r₁) fun a z0 ra => ?_; subst z0
  refine ob4_5 (ra.fa (s := s₁) g₁.sub) fun fd m q t F h1' h2' h3 hl => ?_
  refine gm_fn F fa_no_applies h3 rfl ?_
  have gt : Grew f₁ s₁ f₁ { s₁ with toks := s₁.toks + 1 } := Grew.same (h' := s₁.heap) g₁.sub fun _ _ e => e
  obtain ⟨c, c', pm, ctv, oc, t', e1, _⟩ := id hl
  refine Calls.callWith_function (fd := kla_fn "<lambda>" lamQ lamArgs lamBody lamScope [("place", c)] pm (.ref c') ctv) (args_run (evl_cons he evl_nil (fun env => by rw [hp env]; rfl)) rm (ok₁.grew gt) (hp env) fun vs s₂ f₂ g₂ r₂ => ⟨⟨g₂.sub _ _ (g₂.le _ _ e1), rfl⟩, ?_⟩)
  refine ob1_2 (relL1 r₂) fun xv z0 rx => ?_; subst z0
  have g12 := (g₁.trans gt).trans g₂
  exact lam_callX hb' (hl.mono g₂.le) rm (ok.grew g12).okf hA (O.grewE g12) rx fun e s' h => hE e s' (h.pre g12)
theorem ev_entcallX {o e : Expr} {apos pos : Pos} {rs : List V} {y : V}
    (ho : Evals w k gs ρ o (.ent rs)) (he : Evals w k gs ρ e y) (hc : CallX w k (.top 56) [.ent rs, y] x)
    (hline : (apos.endLine == pos.line) = true := by rfl) (hb : ∀ env, attributeBase o "allowance" env (eval o env) = eval o env := by intro _; rfl)
    (hp : ∀ env, starEach [e] env = (evalEach [e] env).map fun t => (false, t) := by intro _; rfl)
    (hfew : ∀ env, ((backTo pos (starEach [e] env)).all (fun x => !x.1) && (backToKw pos (keywordEach [] env)).all (fun x => x.1.isSome)
      && decide ([e].length + ([] : List Keyword).length + (if ([] : List Keyword).isEmpty then 0 else 1) < 30)) = true := by intro _; rfl) :
    EvX w k gs ρ (.Call (.Attribute o "allowance" apos) [e] [] pos) x := fun env A fl f s rm ok hA O Q E hE => by
  refine meth_any (hb env) (hfew env) hline fun pl => ho env A f s rm ok _ _ fun vo s₁ f₁ g₁ r₁ => ?_
  have ok₁ := ok.grew g₁
  refine ob4_4 (rel_ent.mp r₁) fun a l vs n z0 ea hl rl => ?_; subst z0
  refine ob3_4 (ea.inst ok₁.okf.sub) fun d od m I hlk h1 h2 => ?_
  refine method_fn (K2_in ok₁.okf) I (k_ga _) (k_gt _) (k_al _) (k_t56 _) (by show (lookIn (Str.ofString "allowance") od).map (·.isSome) = some false; rw [hlk, h2]; rfl) ?_
  obtain ⟨c, dd, fd, sl, hK, hne⟩ := (fn_allowance w).isFn
  refine Calls.callWith_function (fd := fd) (args_run (evl_cons he evl_nil (fun env => by rw [hp env]; rfl)) rm ok₁ (hp env) fun us s₂ f₂ g₂ r₂ => ⟨⟨(ok₁.grew g₂).okf.sub _ _ ((ok₁.grew g₂).okf.top _ _ hK hne), rfl⟩, ?_⟩)
  refine ob1_2 (relL1 r₂) fun y z0 ry => ?_; subst z0
  have g12 := g₁.trans g₂
  exact hc A fl f₂ s₂ (.ref 56) [.ref a, y] rm (ok.grew g12).okf hA (O.grewE g12) (rel_top.mpr rfl) (RelL.cons (r₁.mono g₂.le) (RelL.cons ry RelL.nil)) Q E fun e s' h => hE e s' (h.pre g12)
end
theorem Exc.keep {H h h' : Heap} {fr : List Addr} {e t : Addr} {cx cs fl : Value} {sup : Bool} (x : Exc H h fr e t cx cs sup fl) (k : ∀ b o, h.get? b = some o → h'.get? b = some o) : Exc H h' fr e t cx cs sup fl := by
  obtain ⟨⟨up, dic, new⟩, T, oT, ts, he, hn, hTe, hT, hd, h3⟩ := x
  refine ⟨⟨fun b o hb => ⟨fun q => k b o ((up b o hb).1 q), fun q => ?_⟩, dic, new⟩, T, oT, ts, k _ _ he, hn, hTe, k _ _ hT, hd, h3⟩
  refine ob1_1 ((up b o hb).2 q) fun sl hs => ?_
  exact ⟨sl, k _ _ hs⟩
section
variable {w : World} {A : Around} {E : Value → Shared → Prop} {s : Shared} {env : Env} {f : Fz}
theorem glob_run {x : Str} {pos : Pos} {n : String} {Q : Value → Shared → Prop} (hk : env.scope.kind = .function) (hg : env.globals = mainGlobals) (hb : env.builtins = builtinsNs) (hx : env.scope.names.lookup x = some .globalImplicit)
    (ht : TopF w f) (hs : ∀ a o, f a = some o → s.heap.get? a = some o) (hG : GlobIs x (.typ n)) (hQ : Q (.type n) s) (hd : (x == ("__debug__" : Str)) = false := by decide) : wpAny (model prg w) A (eval (.Name x pos) env) Q E s := by
  have hGG := ht.g (s := s) hs
  have hB := ht.b (s := s) hs
  refine Name_function_global hk hx ?_ hd
  rcases hG w.params with ⟨val, h1, h2⟩ | ⟨h0, val, h1, h2⟩
  · obtain rfl := rel_typ.mp (h2 f)
    exact loadGlobal_global (by rw [hg]; exact hGG) h1 hQ
  · obtain rfl := rel_typ.mp (h2 f)
    exact loadGlobal_builtin (by rw [hg]; exact hGG) h0 (by rw [hb]; exact hB) h1 hQ
end
theorem exc_sub {H h : Heap} {fr : List Addr} {e : Addr} {f : Fz} (x : UpF H h fr e) (hs : ∀ a o, f a = some o → H.get? a = some o) (hfr : ∀ b ∈ fr, f b = none) : ∀ a o, f a = some o → h.get? a = some o := fun a o hq =>
  (x.up a o (hs a o hq)).1 fun q => by rw [hfr a q] at hq; cases hq
section
variable {w : World} {k : Nat} {nm : List (Str × NameKind)} {ρ : Rho} {σ : Sig} {x : Str}
theorem ThrownS.make {env : Env} {l : List Env} {M : Addr → Prop} {f f' : Fz} {s sa s' : Shared} {H h : Heap} {tk : Nat} {tt : Tok} {e t : Addr} {cx cs fl : Value} {sup : Bool} (g : Grew f s f' sa) (O : OutS (env :: l) noM f' sa)
    (kk : ∀ b o, sa.heap.get? b = some o → (b ∉ (env :: l).filterMap (·.frame) → H.get? b = some o) ∧ (b ∈ (env :: l).filterMap (·.frame) → ∃ sl, H.get? b = some { o with slots := sl })) (hs : s' = { sa with heap := h, toks := tk })
    (ex : Exc H h ((env :: l).filterMap (·.frame)) e t cx cs sup fl) (htup : H.TupAt t [.str x tt]) (hfl : fl = .none ∨ fl = rawInt env.locals) (htab : TabOk f' sa) : ThrownS env l M f s e x s' := by
  have hsub : ∀ a o, f' a = some o → H.get? a = some o := fun a o hq => (kk a o (g.sub a o hq)).1 fun q => by rw [(O.mem q).1] at hq; cases hq
  have tab : TabOk f' sa → TabOk f' { sa with heap := H, toks := tk } := fun h0 hn => by
    refine ob1_2 (h0 hn) fun ps h1 h2 => ?_
    refine ⟨ps, (kk _ _ h1).1 (fun q => ?_), h2⟩
    refine ob0_3 (O.mem q) fun _ _ z0 => ?_; obtain ⟨od, es, ep, hod, hdd⟩ := z0
    rw [h1] at hod; cases hod; cases hdd
  have G : Grew f s f' { sa with heap := H, toks := tk } := by
    refine ⟨g.le, g.new, hsub, ?_, fun h0 => tab (g.tab h0)⟩
    obtain ⟨h1, tk1, e1, k1⟩ := g.keeps
    refine ⟨H, tk, by rw [e1], fun b o hb => ?_⟩
    refine ob1_2 (k1 b o hb) fun o' ho' al => ?_
    have ho'' : sa.heap.get? b = some o' := by rw [e1]; exact ho'
    by_cases q : b ∈ (env :: l).filterMap (·.frame)
    · refine ob1_1 ((kk b o' ho'').2 q) fun sl hsl => ?_
      refine ob0_3 (O.mem q) fun _ _ z0 => ?_; obtain ⟨od, es, ep, hod, hdd⟩ := z0
      rw [ho''] at hod; cases hod
      exact ⟨_, hsl, al.trans (.inr (.inl ⟨⟨es, ep, hdd⟩, sl, rfl⟩))⟩
    · exact ⟨o', (kk b o' ho'').1 q, al⟩
  subst hs
  refine ⟨M, f', H, fl, G.toS, hfl, ⟨_, t, cx, cs, sup, tt, ex, htup, O.infr, fun b hb => (O.mem hb).1⟩, hsub, tab htab⟩
theorem x1_tryX1 {y msg : Str} {py tpos pos spos px np np2 ccp cpos npp rpos hpos tpos2 : Pos} {kk ck nk : Nat} {elt iter : Expr} {z : Str} {scope : Scope} {bs : List Bool} (C : CompSIs w k nm ρ elt iter z scope bs) (hb : ∀ led, setOf led bs = some (s2 led))
    (hv : nm.lookup ("ValueError" : Str) = some .globalImplicit) (hG : GlobIs "ValueError" (.typ "ValueError")) (hs : ∀ env x, foldedSetIterable iter env x = pure x := by intros; rfl) :
    Ex1X w k nm ρ σ (.Try [.Assign [.Tuple [.Name y py] kk tpos] (.SetComp elt [⟨.Name z px, iter, [], 0⟩] scope pos) spos]
      [.ExceptHandler (some (.Name "ValueError" np)) none [.Raise (some (.Call (.Name "ValueError" np2) [.Constant (.str msg) ck ccp] [] cpos)) (some (.Constant .none nk npp)) rpos] hpos] [] [] tpos2) msg := fun env A α l f s M rm L t hA hf O Q E hE => by
  refine wpAny_Try_except (wpAny_execs_cons (Assign_Tuple ?_ (by rfl) (by rfl)))
  rw [arm_eval_SetComp]
  refine comps_core C rm t.ok (fun s' f' D C' m o g ho hD hfD hdD hDL hL hL0 hns => ?_) hs
  rw [hb] at ho
  cases ho
  refine ⟨m, hns, fun h' hs' => ?_⟩
  have g1 : Grew f s f' { s' with heap := h', toks := s'.toks } := g.poke hL0 hL fun b o hb e => hs'.extBut b o hb e
  have hD1 : h'.get? D = some (s2 (!w.params.followText "set-order")) := hs'.extBut D _ hDL hD
  show wpAny _ _ (assign (.Tuple [.Name y py] kk tpos) env (.ref D)) _ _ _
  rw [arm_assign_Tuple]
  refine wpAny_bind (wpAny_standAt ?_)
  unfold unpack
  show wpAny _ _ (holding _ (unpackItems (.ref D) 1 none) >>= fun xs => assignInOrder [assign (.Name y py) env] xs) _ _ _
  have okA := t.okf.grew g1
  have O1 : OutS (env :: l) noM f' { s' with heap := h', toks := s'.toks } := (O.push t hf).grewE g1
  generalize hfr : (env :: l).filterMap (·.frame) = fr at *
  have hin : InFr (env :: l) fr := hfr ▸ O1.infr
  refine wpAny_bind (wpAny_holding (unpack2 (s := { s' with heap := h' }) rfl rm.handled hD1 fun h2 tk2 e1 t1 hk2 hn1 he1 => ?_))
  have U1 : UpF h' h2 fr e1 := ⟨fun b o hb => ⟨fun _ => hk2 b o hb, fun _ => ⟨o.slots, hk2 b o hb⟩⟩, fun b hb => (O1.mem (hfr ▸ hb)).2.2, hn1⟩
  have hfn : ∀ b ∈ fr, f' b = none := fun b hb => (O1.mem (hfr ▸ hb)).1
  refine note_first hA hin hf (s := { s' with heap := h2, toks := tk2 }) U1 he1 fun h3 X3 => ?_
  show wpAny _ _ _ _ _ { s' with heap := h3, toks := tk2 }
  refine flight (f := none) X3 fun h4 X4 => ?_
  show wpAny _ _ _ _ _ { s' with heap := h4, toks := tk2 }
  refine wpAny_handleBy_builtin (X := "ValueError") (T := "ValueError") (b := true) F.excRaise_ValueError.isExc (isSubtype_of_subB (by decide +kernel)) (isSubtype_of_subB (by decide +kernel)) ?_
  refine ob3_2 (id X4.at') fun T4 oT4 ts4 he4 _ => ?_
  refine glob_run t.kind t.glob t.blt (by rw [t.nms]; exact hv) okA.top (exc_sub X4.toUpF g1.sub hfn) hG ⟨rfl, ⟨_, he4, rfl⟩, ?_⟩
  rw [if_pos rfl]
  refine flight (f := none) X4 fun h5 X5 => ?_
  show wpAny _ _ _ _ _ { s' with heap := h5, toks := tk2 }
  refine ob3_2 (id X5.at') fun T5 oT5 ts5 he5 _ => ?_
  refine wpAny_execs_cons ?_
  rw [arm_exec_Raise]
  refine wpAny_bind (wpAny_standAt ?_)
  have hmk : (A.mark (some (.ref e1))).handled = some (.ref e1) := rfl
  have hmf : (A.mark (some (.ref e1))).frames = some (env :: l) := hA
  refine raise_from (e1 := e1) (t1 := t1) (tb1 := .ref T5) (cs1 := .none) (sup1 := false) hmk (x := do let v ← eval _ env; standAt rpos; pure v) (c := do let v ← eval _ env; standAt rpos; pure v) ?_
  refine wpAny_bind (wpAny_Call_ofName (glob_run t.kind t.glob t.blt (by rw [t.nms]; exact hv) okA.top (exc_sub X5.toUpF g1.sub hfn) hG ?_))
  refine callWith_excType (by rfl) (Calls.evalArgs_plain (spliced_more (Constant_str (spliced_none ?_))))
  refine wpAny_call_exc F.excCall_ValueError (fun h6 e2 hm => ?_) (by first | decide | decide +kernel | size_fits)
  refine ob1_3 hm.there fun t2 he2 ht2n ht2 => ?_
  refine wpAny_bind (wpAny_standAt (wpAny_pure ?_))
  refine ⟨e2, t2, rfl, ?_⟩
  refine wpAny_bind (wpAny_Constant_none ?_)
  refine wpAny_bind (wpAny_standAt (wpAny_pure ?_))
  refine ⟨rfl, he2, ?_, hm.keeps _ _ he5, fun h7 he7 hk7 => ?_⟩
  · rintro rfl
    have := hm.new
    rw [show h5.get? e2 = none from this] at he5; cases he5
  show notedBy (model prg w) (A.mark (some (.ref e1))) env (cameBackBy (model prg w) A env E) (.ref e2) { s' with heap := h7, toks := tk2 + 1 }
  have hm5 : ∀ b o, h5.get? b = some o → h6.get? b = some o := hm.keeps
  have hn5 : h5.get? e2 = none := hm.new
  have hk7' : ∀ b o, b ≠ e2 → h6.get? b = some o → h7.get? b = some o := hk7
  have ne2 : ∀ b o, h5.get? b = some o → b ≠ e2 := fun b o hb q => by rw [q, hn5] at hb; cases hb
  have ht2' : h6.get? t2 = some { cls := .type "tuple", data := .seq [Value.str msg tk2].toArray } := ht2
  have U2 : UpF (h6.hide e2) h7 fr e2 := by
    refine ⟨fun b o hb => ?_, fun b hb => ?_, Heap.hide_self ..⟩
    · have hbe : b ≠ e2 := fun q => by rw [q, Heap.hide_self] at hb; cases hb
      have h6b := Heap.of_hide hb
      exact ⟨fun _ => hk7' b o hbe h6b, fun _ => ⟨o.slots, hk7' b o hbe h6b⟩⟩
    · refine ob3_2 (X5.dict hb) fun o es ep ho hd => ?_
      exact ⟨o, es, ep, (Heap.hide_ne _ (ne2 b o ho)).trans (hm5 b o ho), hd⟩
  refine note_first hmf hin hf (s := { s' with heap := h7, toks := tk2 + 1 }) U2 he7 fun h8 X8 => ?_
  refine cameBack_exc (s := { s' with heap := h8, toks := tk2 + 1 }) hf X8 fun h9 X9 => hE e2 _ ?_
  subst hfr
  refine ThrownS.make (H := h6.hide e2) (h := h9) (tk := tk2 + 1) (tt := tk2) (t := t2) g1 O1 (fun b o hb => ?_) rfl X9 ?_ (.inr rfl) okA.tab
  · have up5 := X5.up b o hb
    refine ⟨fun q => ?_, fun q => ?_⟩
    · have := up5.1 q
      exact (Heap.hide_ne _ (ne2 b o this)).trans (hm5 b o this)
    · refine ob1_1 (up5.2 q) fun sl hs => ?_
      exact ⟨sl, (Heap.hide_ne _ (ne2 b _ hs)).trans (hm5 b _ hs)⟩
  · refine ⟨_, _, (Heap.hide_ne _ ?_).trans ht2', rfl, rfl⟩
    rintro rfl
    rw [ht2'] at he2; simp at he2
end
theorem UpF.ns {H h : Heap} {fr : List Addr} {e : Addr} (x : UpF H h fr e) {a : Addr} {m : Str → Option Value} (hn : H.Ns a m) : h.Ns a m := by
  obtain ⟨o, es, ep, ho, hd, hk⟩ := hn
  by_cases q : a ∈ fr
  · refine ob1_1 ((x.up a o ho).2 q) fun sl hs => ?_; exact ⟨_, es, ep, hs, hd, hk⟩
  · exact ⟨o, es, ep, (x.up a o ho).1 q, hd, hk⟩
section
variable {w : World} {k : Nat} {nm : List (Str × NameKind)} {ρ : Rho} {σ : Sig} {x : Str}
theorem x1_tryNo {body suite : List Stmt} {b₀ : Stmt} {p1 p2 tp hpos tpos : Pos} {kk : Nat} (hbody : ExX w k nm ρ σ body x) (h1 : nm.lookup ("TypeError" : Str) = some .globalImplicit) (h2 : nm.lookup ("AttributeError" : Str) = some .globalImplicit)
    (G1 : GlobIs "TypeError" (.typ "TypeError")) (G2 : GlobIs "AttributeError" (.typ "AttributeError")) :
    Ex1X w k nm ρ σ (.Try body [.ExceptHandler (some (.Tuple [.Name "TypeError" p1, .Name "AttributeError" p2] kk tp)) none (b₀ :: suite) hpos] [] [] tpos) x := fun env A α l f s M rm L t hA hf O Q E hE => by
  refine wpAny_Try_except (hbody env A α l f s M rm L t hA hf O _ _ fun e s₁ hT => noteS hA hf hT fun s₂ hT => landS hT fun s₃ hT => ?_)
  obtain ⟨M', f', H, fl, g, hfl, F⟩ := hT
  have hsub := F.sub'
  have htop : TopF w f' := fun a o h n => g.le a o (t.okf.top a o h n)
  obtain ⟨⟨fr, t2, cx, cs, sup, tk, ex, htup, hin, hfr⟩, sub, tab⟩ := F
  refine wpAny_handleBy_tup2 (X := "ValueError") (T1 := "TypeError") (T2 := "AttributeError") (b1 := false) (b2 := false) (isSubtype_of_subB (by decide +kernel)) (isSubtype_of_subB (by decide +kernel)) (isSubtype_of_subB (by decide +kernel)) (isSubtype_of_subB (by decide +kernel))
    (isSubtype_of_subB (by decide +kernel)) (isSubtype_of_subB (by decide +kernel)) ?_
  refine Tuple_ (spliced_more (glob_run t.kind t.glob t.blt (by rw [t.nms]; exact h1) htop hsub G1 (spliced_more (glob_run t.kind t.glob t.blt (by rw [t.nms]; exact h2) htop hsub G2 (spliced_none ?_)))))
  refine ob3_2 (id ex.at') fun T oT ts he _ => ?_
  refine wpAny_newObj_type ?_
  refine ⟨_, rfl, IsTup.new _ _, ⟨_, Heap.get?_push_of_some _ he, rfl⟩, ?_⟩
  rw [if_neg (by decide)]
  refine wpAny_handleBy_nil (passS (l := l) (M := M) (f := f) (s := s) (x := x) hf ?_ fun s₅ hT => hE e s₅ hT)
  exact ⟨M', f', H, fl, g, hfl, ⟨fr, t2, cx, cs, sup, tk, ex.keep fun b o hb => Heap.get?_push_of_some _ hb, htup, hin, hfr⟩, sub, tab⟩
noncomputable def CallF (w : World) (k : Nat) (fn : V) (args : List V) (v : V) : Prop :=
  ∀ (A : Around) (l : List Env) (f : Fz) (s : Shared) (vf : Value) (vs : List Value), Room k A → Okf w f s → A.frames = some l → OutS l noM f s → Rel f fn vf → RelL f args vs → Run w A f s (call vf vs) v
theorem fn_law_asked (w : World) : FnIs w 246 (namesN 33) (bodyN 33) (fdAt w.params 246) := fnIs 33 (by kernel_rfl) (by decide) (by kernel_rfl) (by kernel_rfl) (by kernel_rfl) (by kernel_rfl) (by kernel_rfl) (by kernel_rfl) (by kernel_rfl) (by kernel_rfl) (by kernel_rfl) (by kernel_rfl)
theorem g_ValueError : GlobIs "ValueError" (.typ "ValueError") := glob_typ (fun P => by kernel_rfl) (fun P => by kernel_rfl)
theorem g_TypeError : GlobIs "TypeError" (.typ "TypeError") := glob_typ (fun P => by kernel_rfl) (fun P => by kernel_rfl)
theorem g_AttributeError : GlobIs "AttributeError" (.typ "AttributeError") := glob_typ (fun P => by kernel_rfl) (fun P => by kernel_rfl)
theorem askedX {rs : List V} {pg : Str} (hc : CallX w k (.top 56) [.ent rs, .str pg] x) : CallF w (k + 1) (.top 246) [.ent rs, .str pg] (.str x) := fun A l f s vf vs rm ok hA O rf rv Q E hQ => by
  obtain rfl := rel_top.mp rf
  have hroom : A.depth < recursionLimit := by have := rm.depth; omega
  refine wpAny_call (fn_codeG (args := [.ent rs, .str pg]) (kw := []) (pn := [Str.ofString "made", Str.ofString "page"]) (pv := [.ent rs, .str pg]) (fn_law_asked w) (binds2 fun u v => by kernel_rfl) (nodup_of (by decide +kernel)) (isLC_of (by kernel_rfl)) hroom ok rv (kvs := []) (by simp only [List.map_nil]; exact RelL.nil) fun env f₁ s₂ M X g hMM hM L t => codeAny_func ?_)
  have O' : OutS l M f₁ s₂ := fun env' he => by
    refine ob0_2 (O env' he) fun h1 z0 => ?_; obtain ⟨L', o, es, ep, h2, h3, _, h4, h5⟩ := z0
    refine ob0_2 ((O.grewE g) env' he) fun h1' z0 => ?_; obtain ⟨L'', o', es', ep', h2', h3', _, h4', h5'⟩ := z0
    rw [h2] at h2'; cases h2'
    exact ⟨h1, L', o', es', ep', h2, h3', fun hm => (by rw [hM _ hm] at h4; cases h4), h4', h5'⟩
  have hfA : (A.deeper env).frames = some (env :: l) := Around.frames_deeper hA
  have hf := X.frame
  have hev : EvX w k (namesN 33) [("made", false, .ent rs), ("page", false, .str pg)] (match stN (bodyN 33) 0 with | .Try [.Return (some e) _] _ _ _ _ => e | _ => .Name "" ⟨0, 0, 0, 0⟩) x := ev_entcallX (ev_name lk_here) (ev_name (lk_next (by decide +kernel) lk_here)) hc
  refine wpAny_execs_cons (wpAny_Try_except (wpAny_execs_cons (wpAny_Return_some (hev env (A.deeper env) (env :: l) f₁ s₂ (rm.deeper env) t.ok hfA (O'.push t hf) _ _ fun e s' hT => ?_))))
  obtain ⟨f', H, G, ⟨fr, t2, cx, cs, sup, tk, x0, htup, hin, hfr⟩, sub, tab⟩ := hT
  refine note hfA hin hf x0 (.inl rfl) fun h1 x1 => ?_
  show wpAny _ _ _ _ _ { s' with heap := h1 }
  refine flight (f := none) x1 fun h2 x2 => ?_
  show wpAny _ _ _ _ _ { s' with heap := h2 }
  have htop : TopF w f' := fun a o h n => G.le a o (t.okf.top a o h n)
  refine wpAny_handleBy_builtin_as (X := "ValueError") (T := "ValueError") (b := true) F.excRaise_ValueError.isExc (isSubtype_of_subB (by decide +kernel)) (isSubtype_of_subB (by decide +kernel)) ?_
  refine ob3_2 (id x2.at') fun T2 oT2 ts2 he2 _ => ?_
  refine glob_run t.kind t.glob t.blt (by rw [t.nms]; kernel_rfl) htop (exc_sub x2.toUpF sub hfr) g_ValueError ⟨rfl, ⟨_, he2, rfl⟩, ?_⟩
  rw [if_pos rfl]
  refine flight (f := none) x2 fun h3 x3 => ?_
  show wpAny _ _ _ _ _ { s' with heap := h3 }
  refine ob3_2 (id x3.at') fun T3 oT3 ts3 he3 _ => ?_
  have hLfr : env.locals ∈ fr := by
    refine ob0_2 (hin env (List.mem_cons_self ..)) fun _ z0 => ?_; obtain ⟨L', hL', hm⟩ := z0
    rw [hf] at hL'; cases hL'; exact hm
  refine ob1_3 t.loc fun m hns0 _ _ => ?_
  have hnsH : H.Ns env.locals m := Alike.ns (fun o e => keeps_live G.keeps e) hns0
  have hns3 := x3.toUpF.ns hnsH
  have hkb : env.kindOf "bad" = some .local := by unfold Env.kindOf; rw [t.nms]; kernel_rfl
  refine wpAny_storeName_local hkb hns3 (fun h4 hns4 hs4 => ?_) (by rw [t.kind]; rfl)
  show wpAny _ _ _ _ _ { s' with heap := h4, toks := s'.toks + 1 }
  have heL : e ≠ env.locals := fun q => by
    refine ob3_2 (x3.toUpF.dict hLfr) fun o es ep ho hd => ?_
    rw [← q, he3] at ho; cases ho; cases hd
  have hu : ((A.deeper env).mark (some (.ref e))).units + 2 < cLine := by
    have := rm.units
    show A.units + 3 + 2 < cLine
    omega
  have hfL : f' env.locals = none := hfr _ hLfr
  have k4 : ∀ b o, b ≠ env.locals → h3.get? b = some o → h4.get? b = some o := fun b o hb hq => hs4.extBut b o hb hq
  have sub4 : ∀ a o, f' a = some o → h4.get? a = some o := fun a o hq => k4 a o (fun q => by rw [q, hfL] at hq; cases hq) (exc_sub x3.toUpF sub hfr a o hq)
  have he4 := k4 e _ heL he3
  obtain ⟨ot, nt, hot, hotc, hotd⟩ := htup
  have ht2L : t2 ∉ fr := fun q => by
    refine ob3_2 (x3.dic _ q) fun o es ep ho hd => ?_
    rw [hot] at ho; cases ho; rw [hotd] at hd; cases hd
  have htup4 : h4.TupAt t2 [.str x tk] := ⟨ot, nt, k4 _ _ (fun q => ht2L (q ▸ hLfr)) ((x3.up _ _ hot).1 ht2L), hotc, hotd⟩
  refine wpAny_execs_cons (wpAny_Return_some ?_)
  refine wpAny_Call_ofName (glob_run t.kind t.glob t.blt (by rw [t.nms]; kernel_rfl) htop sub4 g_str ?_)
  refine PySem.callWith_type (by rfl) (Calls.evalArgs_plain (spliced_more (wpAny_Name (wpAny_loadName_local t.kind hkb hns4 (by simp; rfl) (spliced_none ?_)))))
  refine P.str_of_exc_one (t0 := t2) (m := x) (tk := tk) F.excStr_ValueError hu ⟨_, _, he4, rfl, rfl, rfl⟩ htup4 ?_
  refine wpAny_nameGoes_keeps (s := { s' with heap := h4, toks := s'.toks + 1 }) hkb hns4 (by rw [t.kind]; rfl) fun h5 v hns5 hs5 => ?_
  have k5 : ∀ b o, b ≠ env.locals → h3.get? b = some o → h5.get? b = some o := fun b o hb hq => hs5.extBut b o hb (k4 b o hb hq)
  have g1 : GrewS M f₁ s₂ M f' { s' with heap := h3 } := Flew.grew (s' := { s' with heap := h3 }) (H := H) (G.toS) ⟨⟨fr, t2, cx, cs, sup, tk, x3, ⟨ot, nt, hot, hotc, hotd⟩, hin, hfr⟩, sub, tab⟩
  have hL0 : s.heap.get? env.locals = none := hM _ t.ML
  have g2 : GrewS M f₁ s₂ M f' { s' with heap := h5, toks := s'.toks + 1 + 1 } := by
    refine ⟨g1.le, g1.new, ?_, g1.M', fun h0 hn => ?_⟩
    · refine ob2_2 g1.keeps fun hh tk' e1 kk => ?_
      have eh : h3 = hh := congrArg Shared.heap e1
      subst eh
      have a1 : ({ s' with heap := h3 } : Shared).gens = _ := congrArg Shared.gens e1
      have a2 : ({ s' with heap := h3 } : Shared).drawn = _ := congrArg Shared.drawn e1
      have a3 : ({ s' with heap := h3 } : Shared).os = _ := congrArg Shared.os e1
      dsimp only at a1 a2 a3
      refine ⟨h5, s'.toks + 1 + 1, by rw [← a1, ← a2, ← a3], fun b o hb hq => ?_⟩
      refine ob1_2 (kk b o hb hq) fun o' ho' al => ?_
      exact ⟨o', k5 b o' (fun q => hb (q ▸ t.ML)) ho', al⟩
    · refine ob1_2 (g1.tab h0 hn) fun ps h1 h2 => ?_
      refine ⟨ps, k5 _ _ (fun q => ?_) h1, h2⟩
      exact ns_ne_tab (h := h3) hns3 h1 q
  have sub5 : ∀ a o, f' a = some o → h5.get? a = some o := fun a o hq => k5 a o (fun q => by rw [q, hfL] at hq; cases hq) (exc_sub x3.toUpF sub hfr a o hq)
  exact hQ (.str x tk) { s' with heap := h5, toks := s'.toks + 1 + 1 } f' (g2.toG g hM sub5 (g2.tab t.okf.tab)) relS
end
noncomputable def mixS : Str := "Can't mix absolute and relative paths"
noncomputable def relS' (ds : List Nat) : Str := S (gl 47 (one ds))
section
variable {w : World} {k : Nat}
theorem relS_len (ds : List Nat) : (relS' ds).length ≤ 2 * ds.length := by
  unfold relS'
  have := gl_le 47 (one ds)
  rw [one_sum, one_len] at this
  rw [S_len]; omega
theorem commonpathX {cs ds : List Nat} (hc : Plain cs) (hd : Plain ds) (hl1 : cs.length ≤ 100) (hl2 : ds.length ≤ 100) (h2 : 2 ≤ ds.length) :
    ExX w (k + 12) (namesN 27) [("paths", false, .lst [.str (dirS cs), .str (relS' ds)])] [] (bodyN 27) mixS := by
  refine exX_cons (x1_set (v := .tup [.str (dirS cs), .str (relS' ds)]) (evs (ev_tuplemap (xs := [dirS cs, relS' ds]) (ev_glob (by kernel_rfl) g_tuple) (ev_glob (by kernel_rfl) g_map) (evl_cons (ev_glob (by kernel_rfl) g_fspath) (evl_cons (ev_name lk_here) evl_nil)) (fun w X => fspath_ok) (by simp))) (asgn_local (by kernel_rfl)) ⟨rfl, ?_⟩)
  refine exX_cons (x1_if_f (tes (t_not (t_val ev_name (tr_tup1 (x := .str (dirS cs)) (l := [.str (relS' ds)]) (by simp))))) (ex_nil ⟨rfl, ?_⟩))
  refine exX_cons (x1_if_f (tes (t_val (ev_call (ev_glob (by kernel_rfl) g_isinstance) (.bi _) (evl_cons (ev_sub ev_name ev_int (it_tup (v := .str (dirS cs)) (by decide) (by decide) rfl)) (evl_cons (ev_glob (by kernel_rfl) g_bytes) evl_nil)) c_isb) tr_bool)) ?_)
  refine ex_cons (x1_set (evs ev_str) (asgn_cell (by kernel_rfl)) ?_)
  refine ex_cons (x1_set (evs ev_str) (asgn_cell (by kernel_rfl)) (ex_nil ⟨rfl, ?_⟩))
  refine exX_head (x1_tryNo ?_ (by kernel_rfl) (by kernel_rfl) g_TypeError g_AttributeError)
  have sp : ∀ {es : List Nat}, Plain es → es.length ≤ 100 → CallOk w (k + 12) (.bi "str.split") [.str (dirS es), .str "/"] (.lst (((partsOf es).map S).map .str)) := fun {es} hp hl => by
    refine ob0_4 (split_facts (c := 47) (ps := partsOf es) (by decide) (parts_len es) (parts_free' hp)) fun a1 a2 a3 a4 => ?_
    have hL : (dirS es).length ≤ 1000000 := Nat.le_trans (dirS_len es) (by omega)
    unfold dirS at hL ⊢
    rw [dirL_parts] at hL ⊢
    refine c_split (by rw [slash]; exact a1) (by rw [slash]; exact a2) (by rw [slash]; exact a3) hL ?_ (by rw [slash]; exact a4)
    rw [List.length_map]
    cases es <;> simp [partsOf, one] at hl ⊢ <;> omega
  have sp2 : CallOk w (k + 12) (.bi "str.split") [.str (relS' ds), .str "/"] (.lst (((one ds).map S).map .str)) := by
    refine ob0_4 (split_facts (c := 47) (ps := one ds) (by decide) (by rw [one_len]; exact h2) (fun p hp => one_free hd p (List.mem_cons_of_mem _ hp))) fun a1 a2 a3 a4 => ?_
    have hL : (relS' ds).length ≤ 1000000 := Nat.le_trans (relS_len ds) (by omega)
    unfold relS' at hL ⊢
    refine c_split (by rw [slash]; exact a1) (by rw [slash]; exact a2) (by rw [slash]; exact a3) hL ?_ (by rw [slash]; exact a4)
    rw [List.length_map, one_len]; omega
  refine exX_cons (x1_comp (outs := [.lst (((partsOf cs).map S).map .str), .lst (((one ds).map S).map .str)]) (compIs [("sep", true, .str "/")] ev_name iter_tup (by simp)
    (cl_cons ifs_nil (ev_meth PySem.F.plainAttrs_str PySem.F.slot_str_split PySem.F.type_str_split ev_name typed_str (evl_cons ev_name evl_nil) (sp hc hl1))
      (cl_cons ifs_nil (ev_meth PySem.F.plainAttrs_str PySem.F.slot_str_split PySem.F.type_str_split ev_name typed_str (evl_cons ev_name evl_nil) sp2) cl_nil))
    (rho1 (by kernel_rfl) (by wtm_at "lk"))) (by kernel_rfl) ⟨rfl, ?_⟩ (by kernel_rfl))
  have st : (decide (0 + (Str.ofString "/").length ≤ (dirS cs).length) && Builtin.Str.subAt (dirS cs) (Str.ofString "/") 0) = true := by
    unfold dirS
    rw [slash, S_starts]
    cases cs with
    | nil => rfl
    | cons e es => cases es <;> rfl
  have st2 : (decide (0 + (Str.ofString "/").length ≤ (relS' ds).length) && Builtin.Str.subAt (relS' ds) (Str.ofString "/") 0) = false := by
    unfold relS'
    rw [slash, S_starts]
    match ds, h2 with
    | d :: d' :: ds, _ =>
      have hd47 := (hd d (by simp)).1
      have e : (gl 47 (one (d :: d' :: ds)))[0]? = some d := rfl
      rw [e]
      simpa using hd47
  have stw : CallOk w (k + 12) (.bi "str.startswith") [.str (dirS cs), .str "/"] (.bool true) := by
    have := c_startswith (w := w) (k := k + 12) (x := dirS cs) (y := "/")
    rwa [st] at this
  have stw2 : CallOk w (k + 12) (.bi "str.startswith") [.str (relS' ds), .str "/"] (.bool false) := by
    have := c_startswith (w := w) (k := k + 12) (x := relS' ds) (y := "/")
    rwa [st2] at this
  refine exX_head (x1_tryX1 (bs := [true, false]) (compSIs [("sep", true, .str "/")] ev_name iter_tup (by simp)
    (cs_cons (ev_meth PySem.F.plainAttrs_str PySem.F.slot_str_startswith PySem.F.type_str_startswith ev_name typed_str (evl_cons ev_name evl_nil) stw)
      (cs_cons (ev_meth PySem.F.plainAttrs_str PySem.F.slot_str_startswith PySem.F.type_str_startswith ev_name typed_str (evl_cons ev_name evl_nil) stw2) cs_nil))
    (rho1 (by kernel_rfl) (by wtm_at "lk")) ?_) (fun led => rfl) (by kernel_rfl) g_ValueError)
  intro led l r e
  match l, e with
  | [], _ => exact ⟨_, rfl⟩
  | [a], e => cases e; exact ⟨_, rfl⟩
  | [a, b], e => cases e; exact ⟨_, rfl⟩
  | a :: b :: c :: l, e => simp at e
theorem commonpath_X {cs ds : List Nat} (hc : Plain cs) (hd : Plain ds) (hl1 : cs.length ≤ 100) (hl2 : ds.length ≤ 100) (h2 : 2 ≤ ds.length) : CallX w (k + 13) (.top 213) [.lst [.str (dirS cs), .str (relS' ds)]] mixS :=
  fn_X (fn_commonpath w) (binds1 fun v => by kernel_rfl) (nodup_of (by decide +kernel)) (isLC_of (by kernel_rfl)) (commonpathX hc hd hl1 hl2 h2)
theorem lam_bodyX {cs ds : List Nat} (hc : Plain cs) (hd : Plain ds) (h1 : cs.length ≤ 100) (h2 : ds.length ≤ 100) (h3 : 2 ≤ ds.length) : EvX w (k + 13) lamScope.names [("page", false, .str (relS' ds)), ("place", true, .str (dirS cs))] lamBody mixS :=
  ev_ifX (te_cmpX (ev_callX (ev_glob (by kernel_rfl) g_commonpath) (.top _ (isFn_commonpath w)) (evl_cons (ev_lst (evl_cons ev_name (evl_cons ev_name evl_nil))) evl_nil) (commonpath_X hc hd h1 h2 h3)))
theorem allowanceX {ds : List Nat} {r : Row} {rows : List Row} (hd : Plain ds) (h2 : ds.length ≤ 100) (h3 : 2 ≤ ds.length) (hc : Plain r.1) (h1 : r.1.length ≤ 100) : CallX w (k + 15) (.top 56) [.ent ((r :: rows).map rowV), .str (relS' ds)] mixS := by
  refine fn_X (pn := [Str.ofString "self", Str.ofString "filename"]) (pv := [.ent ((r :: rows).map rowV), .str (relS' ds)]) (fn_allowance w) (binds2 fun u v => by kernel_rfl) (nodup_of (by decide +kernel)) (isLC_of (by kernel_rfl)) ?_
  show ExX w (k + 14) (namesS alS) [("self", false, .ent ((r :: rows).map rowV)), ("filename", false, .str (relS' ds))] [] (bodyS alS) mixS
  refine exX_cons (x1_set (evs (ev_neg ev_int)) (asgn_local (by kernel_rfl)) ⟨rfl, ?_⟩)
  refine exX_cons (x1_set (evs ev_bool) (asgn_local (by kernel_rfl)) ⟨rfl, ?_⟩)
  refine exX_head (x1_forX (evs (ev_rulelines ev_name)) (iter_lst (l := (r :: rows).map rowV)) (asg_name (asgn_local (by kernel_rfl))) ?_)
  exact exX_head (x1_setX (ev_rulecallX (lam_bodyX hc hd h1 h2 h3) ev_name ev_name))
theorem asked_X {ds : List Nat} {r : Row} {rows : List Row} (hd : Plain ds) (h2 : ds.length ≤ 100) (h3 : 2 ≤ ds.length) (hc : Plain r.1) (h1 : r.1.length ≤ 100) : CallF w (k + 16) (.top 246) [.ent ((r :: rows).map rowV), .str (relS' ds)] (.str mixS) :=
  askedX (allowanceX hd h2 h3 hc h1)
end
section
variable {w : World} {k : Nat} {nm gs : List (Str × NameKind)} {ρ : Rho} {σ : Sig} {Φ : Rho → Sig → Fl → Prop}
noncomputable def EvF (w : World) (k : Nat) (gs : List (Str × NameKind)) (ρ : Rho) (ex : Expr) (v : V) : Prop :=
  ∀ (env : Env) (A : Around) (l : List Env) (f : Fz) (s : Shared), Room k A → Ok w gs env ρ f s → A.frames = some l → OutS l noM f s → Run w A f s (eval ex env) v
noncomputable def TeF (w : World) (k : Nat) (gs : List (Str × NameKind)) (ρ : Rho) (ex : Expr) (b : Bool) : Prop :=
  ∀ (env : Env) (A : Around) (l : List Env) (f : Fz) (s : Shared), Room k A → Ok w gs env ρ f s → A.frames = some l → OutS l noM f s → RunB w A f s (isTrue ex env (eval ex env)) b
noncomputable def ExF (w : World) (k : Nat) (nm : List (Str × NameKind)) (ρ : Rho) (σ : Sig) (l : List Stmt) (Φ : Rho → Sig → Fl → Prop) : Prop :=
  ∀ (env : Env) (A : Around) (α : Str → Addr) (f : Fz) (s : Shared) (M : Addr → Prop) (Q : Flow → Shared → Prop) (E : Value → Shared → Prop), Room k A → Live M s → St w nm env ρ σ α M f s → A.frames = some [env] → env.frame = some env.locals →
    StmtPost w nm env f s M Φ Q → wpAny (model prg w) A (execs l env) Q E s
theorem exF_of {l : List Stmt} (h : Ex w k nm ρ σ l Φ) : ExF w k nm ρ σ l Φ := fun env A α f s M Q E rm L t _ _ hQ => h env A α f s M Q E rm L t hQ
theorem exF_cons {st rest} (h : Ex1 w k nm ρ σ st fun ρ' σ' fl => match fl with | .next => ExF w k nm ρ' σ' rest Φ | fl => Φ ρ' σ' fl) : ExF w k nm ρ σ (st :: rest) Φ := fun env A α f s M Q E rm L t hA hf hQ => by
  refine wpAny_execs_cons (h env A α f s M _ E rm L t ?_)
  intro fl flow ρ' σ' α' M' f' s' hΦ hr t' L' g
  cases fl with
  | next =>
    simp only [FlRel] at hr; subst hr
    exact hΦ env A α' f' s' M' Q E rm L' t' hA hf fun fl2 flow2 ρ2 σ2 α2 M2 f2 s2 h2 r2 t2 L2 g2 => hQ fl2 flow2 ρ2 σ2 α2 M2 f2 s2 h2 r2 t2 L2 (g.trans g2)
  | brk => simp only [FlRel] at hr; subst hr; exact hQ .brk .brk ρ' σ' α' M' f' s' hΦ rfl t' L' g
  | cont => simp only [FlRel] at hr; subst hr; exact hQ .cont .cont ρ' σ' α' M' f' s' hΦ rfl t' L' g
  | ret v =>
    obtain ⟨val, rfl, rv⟩ := hr
    exact hQ (.ret v) (.ret val) ρ' σ' α' M' f' s' hΦ ⟨val, rfl, rv⟩ t' L' g
theorem ExF.freeze {x c lst l} (hx : σ.lookup x = some (c, lst)) (h : ExF w k nm (put x (c, .lst lst) ρ) (del x σ) l Φ) : ExF w k nm ρ σ l Φ := fun env A α f s M Q E rm L t hA hf hQ => by
  refine ob1_3 (t.freeze hx) fun f' hle hnew t' => ?_
  refine h env A α f' s _ Q E rm (fun a ha => L a ha.1) t' hA hf fun fl flow ρ' σ' α' M' f'' s' hp r t2 L2 g => hQ fl flow ρ' σ' α' M' f'' s' hp r t2 L2 ?_
  refine ⟨hle.trans g.le, fun a o e => ?_, ?_, fun a ha => ?_, fun _ => g.tab t'.okf.tab⟩
  · rcases g.new a o e with h1 | h1 | h1
    · exact (hnew a o h1).imp id .inr
    · exact .inr (.inl h1)
    · exact .inr (.inr h1.1)
  · refine ob2_2 g.keeps fun h' tk e kk => ?_
    exact ⟨h', tk, e, fun b o hb => kk b o fun q => hb q.1⟩
  · exact (g.M' a ha).imp (fun q => q.1) id
theorem exF_if_f {test : Expr} {body rest : List Stmt} {pos : Pos} (ht : TeF w k nm ρ test false) (h : ExF w k nm ρ σ rest Φ) : ExF w k nm ρ σ (.If test body [] pos :: rest) Φ := fun env A α f s M Q E rm L t hA hf hQ =>
  wpAny_execs_cons (wpAny_If (ht env A [env] f s rm t.ok hA (OutS.push (l := []) (M := M) (fun _ he => by cases he) t hf) _ E fun s' f' g => by
    simp only [Bool.false_eq_true, if_false]
    exact wpAny_execs_nil (h env A α f' s' M Q E rm (L.grew g.keeps) (t.grew L g) hA hf fun fl flow ρ2 σ2 α2 M2 f2 s2 h2 r2 t2 L2 g2 => hQ fl flow ρ2 σ2 α2 M2 f2 s2 h2 r2 t2 L2 (g.toS.trans g2))))
theorem te_cmpF {op l' r pos a b c} (hl : EvF w k gs ρ l' a) (hr : Evals w k gs ρ r b) (ho : CmpOk w k op a b c) (hm : behindInMarks op r = false := by with_unfolding_all rfl) : TeF w k gs ρ (.Compare l' [op] [r] pos) c := fun env A l f s rm ok hA O Q E hQ =>
  wpAny_isTrue_Compare1 (hl env A l f s rm ok hA O _ _ fun va s₁ f₁ g₁ r₁ => hr env A f₁ s₁ rm (ok.grew g₁) _ _ fun vb s₂ f₂ g₂ r₂ =>
    ho A f₂ s₂ va vb rm ((ok.grew g₁).grew g₂).okf (r₁.mono g₂.le) r₂ _ _ fun val s' f' g' r' => by
      simp only [Rel] at r'; subst r'
      exact wpAny_truthy_bool (hQ s' f' ((g₁.trans g₂).trans g'))) hm
theorem TeF.to {e : Expr} {b c : Bool} (h : TeF w k gs ρ e b) (q : b = c) : TeF w k gs ρ e c := q ▸ h
theorem ev_callF {func args pos a l v} (hf : Evals w k gs ρ func (.top a)) (hfn : IsFn w a) (ha : EvalsL w k gs ρ args l) (h : CallF w k (.top a) l v)
    (hp : ∀ env, starEach args env = (evalEach args env).map fun t => (false, t) := by intro _; rfl)
    (he : ∀ env, eval (.Call func args [] pos) env = (do callWith pos (← eval func env) [] (backTo pos (starEach args env)) (backToKw pos (keywordEach [] env))) := by intro _; rfl) :
    EvF w k gs ρ (.Call func args [] pos) v := fun env A fl f s rm ok hA O Q E hQ => by
  refine Call_ (hf env A f s rm ok _ _ fun vf s₁ f₁ g₁ r₁ => ?_) (he env)
  have ok₁ := ok.grew g₁
  have key : wpAny (model prg w) A (evalArgs vf true (backTo pos (starEach args env)) []) (fun a s₂ => (∃ f₂, Grew f₁ s₁ f₂ s₂) ∧ wpAny (model prg w) A (call vf ([] ++ a.pos) a.kw) Q E s₂) E s₁ :=
    args_run ha rm ok₁ (hp env) fun vs s₂ f₂ g₂ r₂ => ⟨⟨f₂, g₂⟩, h A fl f₂ s₂ vf vs rm (ok₁.grew g₂).okf hA ((O.grewE g₁).grewE g₂) (r₁.mono g₂.le) r₂ Q E fun val s' f' g' r' => hQ val s' f' ((g₁.trans g₂).trans g') r'⟩
  obtain rfl := rel_top.mp r₁
  obtain ⟨c, d, fd, sl, hK, hne⟩ := hfn
  exact Calls.callWith_function (fd := fd) (wpAny_mono key (fun a s ⟨⟨f₂, g₂⟩, h⟩ => ⟨⟨(ok₁.grew g₂).okf.sub _ _ ((ok₁.grew g₂).okf.top _ _ hK hne), rfl⟩, h⟩) fun _ _ x => x)
end
section
variable {w : World} {k : Nat}
theorem g_law_asked : GlobIs "_law_asked" (.top 246) := glob_top fun P => by kernel_rfl
theorem allow_none {pg : Str} : CallOk w (k + 1) (.top 56) [.ent [], .str pg] (.bool true) := by
  refine fn_ok (pn := [Str.ofString "self", Str.ofString "filename"]) (pv := [.ent [], .str pg]) (fn_allowance w) (binds2 fun u v => by kernel_rfl) (nodup_of (by decide +kernel)) (isLC_of (by kernel_rfl)) ?_
  show Ex w k (namesS alS) [("self", false, .ent []), ("filename", false, .str pg)] [] (bodyS alS) _
  refine ex_cons (x1_set (evs (ev_neg ev_int)) (asgn_local (by kernel_rfl)) ?_)
  refine ex_cons (x1_set (evs ev_bool) (asgn_local (by kernel_rfl)) ?_)
  refine ex_cons (x1_for (evs (ev_rulelines ev_name)) (iter_lst (l := [])) ?_)
  exact ex_cons (x1_ret (evs ev_name) (.inl rfl))
theorem asked_none {pg : Str} : CallOk w (k + 2) (.top 246) [.ent [], .str pg] (.bool true) := by
  refine fn_ok (pn := [Str.ofString "made", Str.ofString "page"]) (pv := [.ent [], .str pg]) (fn_law_asked w) (binds2 fun u v => by kernel_rfl) (nodup_of (by decide +kernel)) (isLC_of (by kernel_rfl)) ?_
  show Ex w (k + 1) (namesN 33) [("made", false, .ent []), ("page", false, .str pg)] [] (bodyN 33) _
  exact ex_cons (x1_try (ex_cons (x1_ret (evs (ev_entcall ev_name ev_name allow_none)) (.inl rfl))))
theorem CallOk.toF {fn : V} {args : List V} {v : V} (h : CallOk w k fn args v) : CallF w k fn args v := fun A _ f s vf vs rm ok _ _ rf rv => h A f s vf vs rm ok rf rv
theorem page_cut (c : Nat) : Txt.slice (dirS (nameN c)) (some ((1 : Nat) : Int)) none = relS' (nameN c) := by
  have e : dirL (nameN c) = 47 :: gl 47 (one (nameN c)) := rfl
  unfold dirS relS'
  rw [e]
  exact S_slice_from _ 1 (by simp)
end
section
variable {w : World} {k : Nat}
theorem law12 {cs : List Nat} {rows : List Row} {ρ : Rho} {σ : Sig} {rest : List Stmt} {Φ : Rho → Sig → Fl → Prop} (hc : cs.length = 10) (ho : ∀ r ∈ rows, RowOk r) (hl : rows.length ≤ 6) (hp : Has ρ "pages" (.lst ((cs.take 4).map pageV)))
    (hh : Has ρ "held" (.lst (rows.map rowT))) (hb : HasC ρ "book" (.ent ((laidF 0 rows).map rowV))) (h : ExF w (k + 16) (namesN 34) ρ σ rest Φ) : ExF w (k + 16) (namesN 34) ρ σ (ls 12 :: rest) Φ := by
  obtain ⟨c, hc0⟩ : ∃ c, (cs.take 4)[0]? = some c := by
    match cs, hc with
    | c :: cs, _ => exact ⟨c, rfl⟩
  have hpg : ((cs.take 4).map pageV)[0]? = some (pageV c) := by rw [List.getElem?_map, hc0]; rfl
  have hpl : (dirS (nameN c)).length ≤ 1000000 := Nat.le_trans (dirS_len _) (by rw [name_len]; decide)
  have ep : Evals w (k + 16) (namesN 34) ρ (match ls 12 with | .If (.Compare (.Call _ [_, e] _ _) _ _ _) _ _ _ => e | _ => .Name "" ⟨0, 0, 0, 0⟩) (.str (relS' (nameN c))) :=
    Evals.to (ev_slice (ev_sub (ev_name hp) ev_int (it_lst (v := pageV c) (by decide) (by decide) hpg)) (part_s ev_int) part_n part_n (sl_str hpl)) (by rw [← page_cut]; rfl)
  have htr : Tests w (k + 16) (namesN 34) ρ (match ls 12 with | .If (.Compare _ _ [.IfExp t _ _ _] _) _ _ _ => t | _ => .Name "" ⟨0, 0, 0, 0⟩) (((rows.map rowT).length : Int) != 0) :=
    t_val (ev_name hh) (tr_lst (by rw [List.length_map]; omega))
  cases rows with
  | nil =>
    have ea : EvF w (k + 16) (namesN 34) ρ (match ls 12 with | .If (.Compare e _ _ _) _ _ _ => e | _ => .Name "" ⟨0, 0, 0, 0⟩) (.bool true) :=
      ev_callF (ev_glob (by kernel_rfl) g_law_asked) (fn_law_asked w).isFn (evl_cons (ev_name hb) (evl_cons ep evl_nil)) (CallOk.toF (asked_none (k := k + 14)))
    have et : TeF w (k + 16) (namesN 34) ρ (match ls 12 with | .If e _ _ _ => e | _ => .Name "" ⟨0, 0, 0, 0⟩) false :=
      TeF.to (te_cmpF ea (ev_if_f htr ev_bool) cmp_neb) rfl
    exact exF_if_f et h
  | cons r rows =>
    have hr := ho r (by simp)
    have ea : EvF w (k + 16) (namesN 34) ρ (match ls 12 with | .If (.Compare e _ _ _) _ _ _ => e | _ => .Name "" ⟨0, 0, 0, 0⟩) (.str mixS) := by
      have hcall := asked_X (w := w) (k := k) (ds := nameN c) (r := r) (rows := (r.1, false) :: laidF 1 rows) (name_plain c) (by rw [name_len]; decide) (by rw [name_len]; decide) hr.plain (by have := hr.len; omega)
      exact ev_callF (ev_glob (by kernel_rfl) g_law_asked) (fn_law_asked w).isFn (evl_cons (ev_name hb) (evl_cons ep evl_nil)) hcall
    have et : TeF w (k + 16) (namesN 34) ρ (match ls 12 with | .If e _ _ _ => e | _ => .Name "" ⟨0, 0, 0, 0⟩) false :=
      TeF.to (te_cmpF ea (ev_if_t (htr.to (by simp; omega)) ev_str) cmp_nes) (by simp [mixS])
    exact exF_if_f et h
end
section
variable {w : World}
noncomputable def retT : Rho → Sig → Fl → Prop := fun _ _ fl => fl = .ret (.bool true)
theorem tail13 {cs : List Nat} {ρ : Rho} {σ : Sig} (hc : cs.length = 10) (ho : ∀ r ∈ heldF cs (cs.drop 4) [], RowOk r) (hl : (heldF cs (cs.drop 4) []).length ≤ 6) (P : P9 ρ cs (heldF cs (cs.drop 4) []) (cs.drop 4))
    (hd : Has ρ "laid" (.lst ((laidF 0 (heldF cs (cs.drop 4) [])).map rowT))) (hb : HasC ρ "book" (.ent ((laidF 0 (heldF cs (cs.drop 4) [])).map rowV))) : Ex w 16 (namesN 34) ρ σ [ls 13, ls 14, ls 15, ls 16, ls 17, ls 18] retT := by
  have hI := held_ok cs (cs.drop 4)
  have hJ := due_inv cs (cs.drop 4)
  have hT := told_eq cs (cs.drop 4)
  have hdl : (cs.drop 4).length = 6 := by rw [List.length_drop, hc]
  generalize heldF cs (cs.drop 4) [] = rows at *
  have hlo := laidF_ok (i := 0) ho
  have hll : (laidF 0 rows).length ≤ 1000 := by rw [laidF_len]; omega
  obtain ⟨⟨i1, i2, i3, i4⟩, i5, i6, i7⟩ := id P
  refine ex_cons (law13 (k := 1) (cs := cs) (rows := laidF 0 rows) hc hlo i4 hb ?_)
  have e13 : ((cs.take 4).map fun c => V.bool (allowF (laidF 0 rows) (nameN c))) = (toldF cs (laidF 0 rows)).map V.bool := by unfold toldF; rw [List.map_map]; rfl
  rw [e13]
  refine ex_cons (law14 (k := 15) (cs := cs) (dn := cs.drop 4) (told := toldF cs (laidF 0 rows)) hc (by wtm_at "lk") (by wtm_at "lk") (by wtm_at "lk") (by unfold toldF; rw [List.length_map, List.length_take]; omega) hT ?_)
  refine ex_cons (law15 (k := 16) (rows := laidF 0 rows) hlo hll (by wtm_at "lk") (by wtm_at "lk") ?_)
  refine ex_cons (law16 (k := 16) ?_)
  refine ex_cons (law17 (k := 15) (cs := cs) (dn := cs.drop 4) (rows := rows) hc hdl ⟨⟨⟨by wtm_at "lk", by wtm_at "lk", by wtm_at "lk", by wtm_at "lk"⟩, by wtm_at "lk", by wtm_at "lk", by wtm_at "lk"⟩, by wtm_at "lkn", (by show List.lookup _ _ = some (false, []); wtm_at "lk")⟩ fun ρ' σ' J hdo hdl' => ?_)
  refine Ex.freeze J.due ?_
  have hh := J.p.held
  refine ex_cons (law18 (k := 14) (rows := rows) (due := dueF cs ((cs.drop 4).map (deedC cs)) (cs.drop 4)) (by wtm_at "lk") (by wtm_at "lk") (key_nd hI.nd ho) (key_nd hJ.nd hdo) hl hdl' (sort_same hI hJ ho) (sortR_ok ho) ?_)
  exact rfl
theorem tail8 {cs : List Nat} {ρ : Rho} {σ : Sig} (hw : w.free = true) (hc : cs.length = 10) (I : J8 ρ σ cs [] []) : ExF w 16 (namesN 34) ρ σ [ls 8, ls 9, ls 10, ls 11, ls 12, ls 13, ls 14, ls 15, ls 16, ls 17, ls 18] retT := by
  refine exF_cons (law8 (k := 1) (cs := cs) hw hc I fun ρ' σ' J ho hl => ?_)
  have go := fun ρ σ => tail13 (w := w) (cs := cs) (ρ := ρ) (σ := σ) hc ho hl
  generalize heldF cs (cs.drop 4) [] = rows at *
  obtain ⟨⟨i1, i2, i3, i4⟩, i5, i6, i7⟩ := id J
  refine ExF.freeze i6 ?_
  refine ExF.freeze (x := "spots") (c := false) (lst := (cs.drop 4).map spotV) (by wtm_at "lk") ?_
  refine exF_cons (law9 (k := 16) ?_)
  refine exF_cons (law10 (k := 16) (cs := cs) (dn := cs.drop 4) (rows := rows) hl ⟨⟨by wtm_at "lk", by wtm_at "lk", by wtm_at "lk", by wtm_at "lk"⟩, by wtm_at "lk", by wtm_at "lk", by wtm_at "lk"⟩ (by wtm_at "lk") fun ρ₂ σ₂ P hla => ?_)
  obtain ⟨⟨j1, j2, j3, j4⟩, j5, j6, j7⟩ := id P
  refine ExF.freeze hla ?_
  have hll : (laidF 0 rows).length ≤ 1000 := by rw [laidF_len]; omega
  refine exF_cons (law11 (k := 13) (rows := laidF 0 rows) hw hll (by wtm_at "lk") ?_)
  refine law12 (k := 0) (cs := cs) (rows := rows) hc ho hl (by wtm_at "lk") (by wtm_at "lk") (by wtm_at "lk") ?_
  exact exF_of (go _ _ ⟨⟨by wtm_at "lk", by wtm_at "lk", by wtm_at "lk", by wtm_at "lk"⟩, by wtm_at "lk", by wtm_at "lk", by wtm_at "lk"⟩ (by wtm_at "lk") (by wtm_at "lk"))
theorem law_body {xs : List Int} {ρ : Rho} (hw : w.free = true) (hx : xs.length ≤ 63) (hs : Has ρ "script" (.lst (xs.map .int))) : ExF w 16 (namesN 34) ρ [] (bodyN 34) retT := by
  rw [body34]
  with_reducible refine exF_cons (law0 (k := 16) ?_)
  with_reducible refine exF_cons (law1 (k := 16) ?_)
  refine exF_cons (law2 (k := 16) (xs := xs) hx (by wtm_at "lk") ?_)
  refine exF_cons (law3 (k := 15) (xs := xs) hx (by wtm_at "lk") (by wtm_at "lk") ?_)
  have hc : (cellsN xs).length = 10 := by unfold cellsN; rw [List.length_map]; rfl
  generalize cellsN xs = cs at *
  refine exF_cons (law4 (k := 16) ?_)
  refine exF_cons (law5 (k := 13) (cs := cs) ⟨by wtm_at "lk", by wtm_at "lk", by wtm_at "lkn", (by show List.lookup _ _ = some (true, []); wtm_at "lk"), (by show List.lookup _ _ = some (false, []); wtm_at "lk"), (by show List.lookup _ _ = some (false, []); wtm_at "lk")⟩ hc fun ρ₁ σ₁ I => ?_)
  obtain ⟨i1, i2, i3, i4, i5, i6⟩ := id I
  refine ExF.freeze i4 ?_
  refine ExF.freeze (x := "names") (c := false) (lst := (cs.take 4).map nameV) (by wtm_at "lk") ?_
  refine ExF.freeze (x := "pages") (c := false) (lst := (cs.take 4).map pageV) (by wtm_at "lk") ?_
  refine exF_cons (law6 (k := 3) (cs := cs) ⟨by wtm_at "lk", by wtm_at "lk", by wtm_at "lk", by wtm_at "lk"⟩ hc fun ρ₂ σ₂ J => ?_)
  obtain ⟨j1, j2, j3, j4⟩ := id J
  refine exF_cons (law7 (k := 16) ?_)
  refine ExF.freeze (x := "held") (c := false) (lst := []) (by wtm_at "lk") ?_
  exact tail8 hw hc ⟨⟨by wtm_at "lk", by wtm_at "lk", by wtm_at "lk", by wtm_at "lk"⟩, (by show List.lookup _ _ = some (false, V.lst []); wtm_at "lk"), (by show List.lookup _ _ = some (true, []); wtm_at "lk"), (by show List.lookup _ _ = some (false, []); wtm_at "lk")⟩
end
theorem fn_law (w : World) : FnIs w 251 (namesN 34) (bodyN 34) (fdAt w.params 251) := fnIs 34 (by kernel_rfl) (by decide) (by kernel_rfl) (by kernel_rfl) (by kernel_rfl) (by kernel_rfl) (by kernel_rfl) (by kernel_rfl) (by kernel_rfl) (by kernel_rfl) (by kernel_rfl) (by kernel_rfl)
theorem tab_lookup (P : Params) : (Kf P).lookup tabA = some (tabO #[]) := by kernel_rfl
noncomputable def codeB (o : Option Obj) : Bool := match o with
  | some ⟨.type "code", _, .fields vs, _⟩ => (match (vs[11]? : Option Value) with | some (.ref b) => b == tabA | _ => false)
  | _ => false
theorem code_tab (P : Params) : codeB ((Kf P).lookup 231) = true := by kernel_rfl
theorem codeB_of {o : Option Obj} (h : codeB o = true) : ∃ ob vs, o = some ob ∧ ob.cls = .type "code" ∧ ob.data = .fields vs ∧ vs[11]? = some (.ref tabA) := by
  unfold codeB at h
  split at h
  · rename_i d vs sl
    split at h
    · rename_i b hb
      rw [beq_iff_eq] at h
      subst h
      exact ⟨_, vs, rfl, rfl, rfl, hb⟩
    · cases h
  · cases h
theorem relL_ints {f : Fz} : ∀ {vs : List Value} {xs : List Int}, IntsAre vs xs → RelL f (xs.map V.int) vs
  | _, _, .nil => RelL.nil
  | _, _, .cons n t h => RelL.cons (rel_int.mpr ⟨t, rfl⟩) (relL_ints h)
theorem law_call {w : PySem.World} {s₁ : Shared} {xs : List Int} {vs : List Value} {a : Addr} (KX : (Kf w.params).In s₁.heap) (ha : s₁.heap.get? a = some { cls := .type "list", data := .seq vs.toArray }) (hI : IntsAre vs xs) (hx : xs.length ≤ 63)
    (hat : a ≠ tabA) {Q : Value → Shared → Prop} {E : Value → Shared → Prop} (hQ : ∀ s', OldK s₁.heap s'.heap → s'.os = s₁.os → s'.gens = s₁.gens → Q (.bool true) s') : wpAny (PySem.model prg w) callerA (call (.ref 251) [.ref a]) Q E s₁ := by
  generalize hw : ({ toWorld := w, free := true } : World) = w'
  have hw1 : w = w'.toWorld := by rw [← hw]
  have hfree : w'.free = true := by rw [← hw]
  clear hw
  subst hw1
  have htab := KX _ _ (tab_lookup w'.params)
  generalize hf : (fun b => if b = tabA then none else s₁.heap.get? b : Fz) = f
  have hf1 : ∀ b o, f b = some o → s₁.heap.get? b = some o := fun b o e => by
    rw [← hf] at e
    dsimp only at e
    split at e
    · cases e
    · exact e
  have hf2 : f tabA = none := by rw [← hf]; exact if_pos rfl
  have hf3 : ∀ b o, b ≠ tabA → s₁.heap.get? b = some o → f b = some o := fun b o hb e => by rw [← hf]; exact (if_neg hb).trans e
  clear hf
  have ok : Okf w' f s₁ := ⟨hf1, fun b o e n => hf3 b o n (KX b o e), fun _ => ⟨#[], htab, .inl rfl⟩, fun _ => hf2⟩
  have hra : RelL f [V.lst (xs.map V.int)] [.ref a] := RelL.cons (rel_lst.mpr ⟨a, vs, 0, rfl, hf3 _ _ hat ha, relL_ints hI⟩) RelL.nil
  have rm : Room 17 callerA := ⟨rfl, by show 1 + 300 + 17 + 30 < 1000; decide, by show 4 + 10 * 17 + 100 < 9900; decide⟩
  show wpAny (model prg w') callerA (call (.ref 251) [.ref a]) Q E s₁
  refine wpAny_call (fn_codeG (args := [V.lst (xs.map V.int)]) (kw := []) (pn := [Str.ofString "script"]) (pv := [V.lst (xs.map V.int)]) (fn_law w') (binds1 fun v => by kernel_rfl) (nodup_of (by decide +kernel)) (isLC_of (by kernel_rfl)) (by show 1 + 300 < 1000; decide) ok hra (kvs := [])
    (by simp only [List.map_nil]; exact RelL.nil) fun env f₁ s₂ M X g hMM hM L t => codeAny_func ?_)
  have hs : Has (rho0 (namesN 34) [Str.ofString "script"] [V.lst (xs.map V.int)]) "script" (.lst (xs.map .int)) := lk_here
  refine law_body (w := w') (xs := xs) hfree hx hs env (callerA.deeper env) (fun _ => 0) f₁ s₂ M _ _ (rm.deeper env) L t rfl X.frame fun fl flow ρ' σ' α' M' f' s' hΦ hfl t' L' g' => ?_
  have hΦ : fl = .ret (.bool true) := hΦ
  subst hΦ
  obtain ⟨val, rfl, rv⟩ := hfl
  obtain rfl := rel_bool.mp rv
  have G : Grew f s₁ f' s' := g'.toG g hM t'.okf.sub t'.okf.tab
  obtain ⟨h, tk, rfl, kk⟩ := G.keeps
  refine hQ _ ⟨fun b o e => ?_, fun b o e => ?_⟩ rfl rfl
  · by_cases hb : b = tabA
    · subst hb
      rw [htab] at e
      cases e
      refine ob1_2 (kk _ _ htab) fun o' ho' al => ?_
      rcases al with rfl | ⟨⟨es, ep, hd⟩, _⟩ | ⟨_, us, more, h1, rfl⟩
      · exact .inl ho'
      · cases hd
      · refine ob2_4 (codeB_of (code_tab w'.params)) fun ob ws q1 q2 q3 q4 => ?_
        refine .inr (.inl ⟨⟨_, ob, ws, KX _ _ q1, q2, q3, q4⟩, rfl, us, more, congrArg Obj.data h1, ho'⟩)
    · exact .inl (G.sub b o (G.le b o (hf3 b o hb e)))
  · refine ob1_2 (kk b o e) fun o' ho' _ => ?_
    exact ⟨o', ho'⟩
section
open PySem.W.X
set_option maxHeartbeats 0
noncomputable def qv : Program := PySem.W.view PySem.Challenge.pw_rt0071_01 [0, 2, 4, 5, 6, 11, 13, 15, 16, 18, 20, 22, 23, 24, 25, 26, 27, 29, 30, 31, 32, 33, 34]
noncomputable def lo : List Str := [Str.ofString "b2a_base64", Str.ofString "b64encode"]
noncomputable abbrev rw1 : RowW := PySem.Challenge.rw_rt0071_01.row.toRowW
noncomputable def asK : List Addr := [0, 1, 2, 3, 4, 5, 34, 35, 55, 56, 57, 58, 59, 60, 61, 69, 70, 76, 77, 78, 84, 85, 86, 92, 93, 165, 166, 179, 180, 186, 187, 193, 194, 200, 201, 207, 208, 212, 213, 217, 218, 224, 225, 227, 231, 232, 238, 239, 245, 246, 250, 251]
theorem asK_eq (P : Params) : asK = (Kf P).map (·.1) := by kernel_rfl
noncomputable abbrev xt : Shared → Bool := fun s => xlAt qv [] s && recOk (RowW.records rw1) s
theorem top_run : ∀ (w : PySem.World) (os : OsState), (topFrom treeTable PySem.Challenge.pw_rt0071_01 w 3326 ⟨boot_heap w.params, Array.mk [], boot_drawn, boot_toks, os⟩).map (fun s => (openSeen qv lo (importedModules PySem.Challenge.pw_rt0071_01.main.body) xt true s, obsZ asK s)) = some (openGood qv lo, valZ Kf 252 531 w) := by
  intro w os
  unfold topFrom
  rw [PySem.W.Fast.te14082659384304107361, PySem.W.Fast.te4187177175401517315, PySem.W.Fast.te14364793385576792824]
  kernel_rfl
theorem leftO : LeftO PySem.Challenge.pw_rt0071_01 qv lo xt (obsZ asK) (valZ Kf 252 531) 3326 := by
  intro w
  refine ob1_2 (Option.map_eq_some_iff.mp (boot_open (p := PySem.Challenge.pw_rt0071_01) (N := 3326) (by kernel_rfl) (by kernel_rfl) (fun s => by kernel_rfl) w)) fun s hs hv => ?_
  obtain ⟨h, g, d, t, os⟩ := s
  simp only [Prod.mk.injEq] at hv
  refine ob0_4 hv fun z0 z1 z2 z3 => ?_; clear hv; subst z0; subst z1; subst z2; subst z3
  have e : openEnds treeTable PySem.Challenge.pw_rt0071_01 w 3326 = topFrom treeTable PySem.Challenge.pw_rt0071_01 w 3326 ⟨boot_heap w.params, Array.mk [], boot_drawn, boot_toks, os⟩ := by
    unfold openEnds
    rw [hs, Option.bind_some]
  rw [e]
  exact top_run w os
end
section
open PySem.W.X
set_option maxHeartbeats 0
noncomputable def dL : DefRec := match defN 34 with | .FunctionDef n ps b _ _ _ sc _ _ p => ⟨n, ps, b, sc, p⟩ | _ => ⟨"", default, [], default, ⟨0, 0, 0, 0⟩⟩
noncomputable abbrev lw : OpenLaw := PySem.Challenge.rw_rt0071_01
noncomputable abbrev pL : Program := lw.row.prog
theorem sd1 : namesResolve pL = true := by rw [PySem.W.Fast.te8377067652309620493]; kernel_rfl
theorem sd2 {n : Str} (h : readsOut pL pL.main.body n = false) {l : List Str} (hl : l.filter (readsOut pL pL.main.body) = []) : (n :: l).filter (readsOut pL pL.main.body) = [] := by rw [List.filter_cons, h]; exact hl
theorem sd3 : readsOut pL pL.main.body "vars" = false := by rw [PySem.W.Fast.te13343964577679436407]; kernel_rfl
theorem sd4 : readsOut pL pL.main.body "dir" = false := by rw [PySem.W.Fast.te13343964577679436407]; kernel_rfl
theorem sd5 : readsOut pL pL.main.body "locals" = false := by rw [PySem.W.Fast.te13343964577679436407]; kernel_rfl
theorem sd6 : (!(importedModules pL.main.body).all cThrough.contains) = false := by kernel_rfl
theorem sd7 : noRoadLSs { strict := false, foot := none, bare := [] } pL.main.body = true := by rw [PySem.W.Fast.te8326940854005059898]; kernel_rfl
theorem sd8 : noRoadLSs { strict := !(importedModules pL.main.body).all cThrough.contains, foot := none, bare := (["vars", "dir", "locals"] : List Str).filter (readsOut pL pL.main.body) } pL.main.body = true := by
  rw [sd6, sd2 sd3 (sd2 sd4 (sd2 sd5 rfl))]; exact sd7
theorem sd9 : (namesMeet pL pL.main.body fun _ n => attrL n) = true := by rw [PySem.W.Fast.te17119622794617984870, PySem.W.Fast.te17868728402115742887]; kernel_rfl
theorem sd10 : pL.boundNames.all (fun n => !worldNames.contains n) = true := by kernel_rfl
theorem sd11 : looksOpen pL = true := look_both (look_both (look_both (look_both (look_both (by kernel_rfl) (by kernel_rfl)) sd1) sd10) sd8) sd9
theorem sd12 : lw.bound'.all (fun n => !builtinNamed n || lw.about == [n] || !lw.reads n) = true := by rw [PySem.W.Fast.te6984425678791042302]; kernel_rfl
theorem sd13 : noRoadLSs { strict := true, foot := some lw.bound', writes := lw.writes, may := lw.may } lw.footing = true := by rw [PySem.W.Fast.te8326940854005059898]; kernel_rfl
theorem sd14 : namesMeet lw.prog lw.above (fun _ n => !lw.own.contains n) = true := by rw [PySem.W.Fast.te17119622794617984870]; kernel_rfl
theorem sd15 : (namesMeet lw.prog lw.footing fun sc n => sc.kind == .module || sc.names.lookup n != some .globalExplicit) = true := by rw [PySem.W.Fast.te17119622794617984870]; kernel_rfl
theorem sd16 : noClassBlock lw.prog lw.footing = true := by rw [PySem.W.Fast.te8179353310426384613]; kernel_rfl
theorem sd17 : namesMeet lw.prog lw.footing (fun sc n => (!(["type", "isinstance", "issubclass", "getattr", "hasattr"] : List Str).contains n || sc.names.lookup n == some .globalImplicit) &&
    (lw.may != some n || sc.kind == .module || sc.names.lookup n == some .globalImplicit)) = true := by rw [PySem.W.Fast.te17119622794617984870]; kernel_rfl
theorem sd18 : lw.own.all (fun n => !builtinNamed n) = true := by kernel_rfl
theorem sd19 : lw.row.partSaid = true := by
  delta OpenRow.partSaid
  repeat' with_reducible refine look_both ?_ ?_
  exact sd11
  all_goals kernel_rfl
theorem sd20 : lw.row.wellSaid = true := look_both (look_both sd19 (by kernel_rfl)) (by kernel_rfl)
theorem said : PySem.Challenge.rw_rt0071_01.wellSaid = true := by
  delta OpenLaw.wellSaid
  repeat' with_reducible refine look_both ?_ ?_
  any_goals with_reducible first | exact sd20 | exact sd16 | exact sd13 | exact sd12 | exact sd17 | exact sd18 | exact sd14 | exact sd15
  all_goals kernel_rfl
theorem rh1 : defOf qv lw.row.name = some (dL, []) := by kernel_rfl
theorem rh2 : pL.theDef lw.row.name = some (dL.params, dL.body, dL.scope) := by kernel_rfl
theorem rh3 : chainsOk qv = true := by kernel_rfl
theorem rh4 : opensWell pL = true := by kernel_rfl
theorem rh5 : (frees lw.row.toRowW && lw.row.within.isEmpty) = true := by kernel_rfl
theorem rh6 : pL.bare := ⟨by kernel_rfl, by kernel_rfl, by kernel_rfl, by kernel_rfl, by kernel_rfl, by kernel_rfl⟩
theorem row_holds (call : WalkX qv lo (XL qv []) (obsZ asK) (valZ Kf 252 531) rw1 dL [] fun f vs => PySem.call f vs) : PySem.Challenge.rw_rt0071_01.Holds := by
  refine holds_law said fun hs => ?_
  refine holds_openX (r := PySem.Challenge.rw_rt0071_01.row) (q := qv) (loose := lo) (Xt := xt) (XP := XL qv []) (Yf := obsZ asK) (Ya := valZ Kf 252 531) (d := dL) (kwd := []) (N := 3326) leftO (fun s e => xl_of s (Bool.and_eq_true_iff.mp e).1) XL.keeps rh1 rh2 (by kernel_rfl) (fun s e => recFacts_of (Bool.and_eq_true_iff.mp e).2) (by kernel_rfl) hs (look_both (look_both rh3 rh4) rh5) rh6 ?hw call
  case hw => w_witness2
end
end Mine
open PySem.W.X
set_option maxHeartbeats 0 in
theorem PySem.Challenge.cw_rt0071_01_holds : PySem.Challenge.rw_rt0071_01.Holds := by
  refine Mine.row_holds ?_
  intro w s₀ s₁ mg mb G y fa o pm cd doc dV kV ho hd hcd hD hmg hg args vals as L hpre hlay hrd hwl hlo
  obtain ⟨_, ZI, ZN, ZT⟩ := z_facts Mine.asK_eq y
  have KX : (Mine.Kf w.params).In s₁.heap := Frag.In.keeps ZI L.keeps
  refine Ground.open G ?_
  intro T B D TE TW
  have hfa := mg_of KX (Top.g T) (n := "law") (v := .ref 251) (by kernel_rfl)
  have hmg' : mg "law" = some (.ref fa) := hmg
  rw [hmg'] at hfa
  obtain rfl : fa = 251 := Value.ref.inj (Option.some.inj hfa)
  clear hd hcd hD hmg hmg' hfa y G T B D TE TW
  wrow_args hpre hlay hrd hwl hlo
  rename_i xs _ _ _ _ _ _ _ a vs _ hL _ _ _ hI _ hc _
  have hx : xs.length ≤ 63 := by omega
  obtain ⟨hat, _⟩ := script_at L
  have ho2 := script_obj L hL
  have hne : a ≠ Mine.tabA := by rw [hat, ZN]; decide
  clear ho ZI ZN ZT
  show wpAny (PySem.model Mine.prg w) callerA (call (.ref 251) [.ref a]) _ _ s₁
  refine Mine.law_call KX ho2 hI hx hne fun s' hK hos hgs => ?_
  exact ⟨.inl ⟨_, _, [], rfl, fun _ => rfl, ReadsW.bool true, (by first | rfl | wrow_post), fun _ => ⟨List.nodup_nil, fun _ hm => (nomatch hm)⟩⟩, hK, hos, AllBare.of_eq (hgs.trans hg)⟩
