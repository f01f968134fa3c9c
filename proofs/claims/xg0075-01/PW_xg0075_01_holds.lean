import PyProof.Rows.All
import Wide.All
import OpenK.AllK
import Wide.FinOn
import PySem.Challenge.RW_xg0075_01
set_option Elab.async false
set_option linter.unusedVariables false
/-! part Hd -/
section
open PySem PySem.W PyProof.Rows
namespace Mine.hd
set_option maxRecDepth 100000
set_option maxHeartbeats 8000000
def nthS (l : List Stmt) (i : Nat) : Stmt := l.getD i (.Pass default)
def inC : Stmt → List Stmt
  | .ClassDef _ _ _ b _ _ _ _ _ _ _ => b
  | _ => []
def paF : Stmt → Arguments
  | .FunctionDef _ a _ _ _ _ _ _ _ _ => a
  | _ => ⟨[], [], none, [], [], none, []⟩
def boF : Stmt → List Stmt
  | .FunctionDef _ _ b _ _ _ _ _ _ _ => b
  | _ => []
def scF : Stmt → Scope
  | .FunctionDef _ _ _ _ _ _ s _ _ _ => s
  | _ => ⟨.function, [], false, false, []⟩
def E (P : Params) (s : Str) (t : Nat) (v : Value) : DictEntry := ⟨PyData.keyHash P s, .str s t, v⟩
noncomputable def pa_0 : Arguments := by
  refine (?F : (x : Arguments) → paF (nthS PySem.Challenge.pw_xg0075_01.main.body 0) = x → Arguments) ?a ?b
  case F => exact fun x _ => x
  case b => conv => lhs; whnf
noncomputable def bo_0 : List Stmt := by
  refine (?F : (x : List Stmt) → boF (nthS PySem.Challenge.pw_xg0075_01.main.body 0) = x → List Stmt) ?a ?b
  case F => exact fun x _ => x
  case b => conv => lhs; whnf
noncomputable def sc_0 : Scope := by
  refine (?F : (x : Scope) → scF (nthS PySem.Challenge.pw_xg0075_01.main.body 0) = x → Scope) ?a ?b
  case F => exact fun x _ => x
  case b => conv => lhs; whnf
noncomputable def pa_2_0 : Arguments := by
  refine (?F : (x : Arguments) → paF (nthS (inC (nthS PySem.Challenge.pw_xg0075_01.main.body 2)) 0) = x → Arguments) ?a ?b
  case F => exact fun x _ => x
  case b => conv => lhs; whnf
noncomputable def bo_2_0 : List Stmt := by
  refine (?F : (x : List Stmt) → boF (nthS (inC (nthS PySem.Challenge.pw_xg0075_01.main.body 2)) 0) = x → List Stmt) ?a ?b
  case F => exact fun x _ => x
  case b => conv => lhs; whnf
noncomputable def sc_2_0 : Scope := by
  refine (?F : (x : Scope) → scF (nthS (inC (nthS PySem.Challenge.pw_xg0075_01.main.body 2)) 0) = x → Scope) ?a ?b
  case F => exact fun x _ => x
  case b => conv => lhs; whnf
noncomputable def pa_2_1 : Arguments := by
  refine (?F : (x : Arguments) → paF (nthS (inC (nthS PySem.Challenge.pw_xg0075_01.main.body 2)) 1) = x → Arguments) ?a ?b
  case F => exact fun x _ => x
  case b => conv => lhs; whnf
noncomputable def bo_2_1 : List Stmt := by
  refine (?F : (x : List Stmt) → boF (nthS (inC (nthS PySem.Challenge.pw_xg0075_01.main.body 2)) 1) = x → List Stmt) ?a ?b
  case F => exact fun x _ => x
  case b => conv => lhs; whnf
noncomputable def sc_2_1 : Scope := by
  refine (?F : (x : Scope) → scF (nthS (inC (nthS PySem.Challenge.pw_xg0075_01.main.body 2)) 1) = x → Scope) ?a ?b
  case F => exact fun x _ => x
  case b => conv => lhs; whnf
noncomputable def pa_3 : Arguments := by
  refine (?F : (x : Arguments) → paF (nthS PySem.Challenge.pw_xg0075_01.main.body 3) = x → Arguments) ?a ?b
  case F => exact fun x _ => x
  case b => conv => lhs; whnf
noncomputable def bo_3 : List Stmt := by
  refine (?F : (x : List Stmt) → boF (nthS PySem.Challenge.pw_xg0075_01.main.body 3) = x → List Stmt) ?a ?b
  case F => exact fun x _ => x
  case b => conv => lhs; whnf
noncomputable def sc_3 : Scope := by
  refine (?F : (x : Scope) → scF (nthS PySem.Challenge.pw_xg0075_01.main.body 3) = x → Scope) ?a ?b
  case F => exact fun x _ => x
  case b => conv => lhs; whnf
noncomputable def pa_4 : Arguments := by
  refine (?F : (x : Arguments) → paF (nthS PySem.Challenge.pw_xg0075_01.main.body 4) = x → Arguments) ?a ?b
  case F => exact fun x _ => x
  case b => conv => lhs; whnf
noncomputable def bo_4 : List Stmt := by
  refine (?F : (x : List Stmt) → boF (nthS PySem.Challenge.pw_xg0075_01.main.body 4) = x → List Stmt) ?a ?b
  case F => exact fun x _ => x
  case b => conv => lhs; whnf
noncomputable def sc_4 : Scope := by
  refine (?F : (x : Scope) → scF (nthS PySem.Challenge.pw_xg0075_01.main.body 4) = x → Scope) ?a ?b
  case F => exact fun x _ => x
  case b => conv => lhs; whnf
noncomputable def pa_8_0 : Arguments := by
  refine (?F : (x : Arguments) → paF (nthS (inC (nthS PySem.Challenge.pw_xg0075_01.main.body 8)) 0) = x → Arguments) ?a ?b
  case F => exact fun x _ => x
  case b => conv => lhs; whnf
noncomputable def bo_8_0 : List Stmt := by
  refine (?F : (x : List Stmt) → boF (nthS (inC (nthS PySem.Challenge.pw_xg0075_01.main.body 8)) 0) = x → List Stmt) ?a ?b
  case F => exact fun x _ => x
  case b => conv => lhs; whnf
noncomputable def sc_8_0 : Scope := by
  refine (?F : (x : Scope) → scF (nthS (inC (nthS PySem.Challenge.pw_xg0075_01.main.body 8)) 0) = x → Scope) ?a ?b
  case F => exact fun x _ => x
  case b => conv => lhs; whnf
noncomputable def pa_8_1 : Arguments := by
  refine (?F : (x : Arguments) → paF (nthS (inC (nthS PySem.Challenge.pw_xg0075_01.main.body 8)) 1) = x → Arguments) ?a ?b
  case F => exact fun x _ => x
  case b => conv => lhs; whnf
noncomputable def bo_8_1 : List Stmt := by
  refine (?F : (x : List Stmt) → boF (nthS (inC (nthS PySem.Challenge.pw_xg0075_01.main.body 8)) 1) = x → List Stmt) ?a ?b
  case F => exact fun x _ => x
  case b => conv => lhs; whnf
noncomputable def sc_8_1 : Scope := by
  refine (?F : (x : Scope) → scF (nthS (inC (nthS PySem.Challenge.pw_xg0075_01.main.body 8)) 1) = x → Scope) ?a ?b
  case F => exact fun x _ => x
  case b => conv => lhs; whnf
noncomputable def pa_8_2 : Arguments := by
  refine (?F : (x : Arguments) → paF (nthS (inC (nthS PySem.Challenge.pw_xg0075_01.main.body 8)) 2) = x → Arguments) ?a ?b
  case F => exact fun x _ => x
  case b => conv => lhs; whnf
noncomputable def bo_8_2 : List Stmt := by
  refine (?F : (x : List Stmt) → boF (nthS (inC (nthS PySem.Challenge.pw_xg0075_01.main.body 8)) 2) = x → List Stmt) ?a ?b
  case F => exact fun x _ => x
  case b => conv => lhs; whnf
noncomputable def sc_8_2 : Scope := by
  refine (?F : (x : Scope) → scF (nthS (inC (nthS PySem.Challenge.pw_xg0075_01.main.body 8)) 2) = x → Scope) ?a ?b
  case F => exact fun x _ => x
  case b => conv => lhs; whnf
noncomputable def pa_8_3 : Arguments := by
  refine (?F : (x : Arguments) → paF (nthS (inC (nthS PySem.Challenge.pw_xg0075_01.main.body 8)) 3) = x → Arguments) ?a ?b
  case F => exact fun x _ => x
  case b => conv => lhs; whnf
noncomputable def bo_8_3 : List Stmt := by
  refine (?F : (x : List Stmt) → boF (nthS (inC (nthS PySem.Challenge.pw_xg0075_01.main.body 8)) 3) = x → List Stmt) ?a ?b
  case F => exact fun x _ => x
  case b => conv => lhs; whnf
noncomputable def sc_8_3 : Scope := by
  refine (?F : (x : Scope) → scF (nthS (inC (nthS PySem.Challenge.pw_xg0075_01.main.body 8)) 3) = x → Scope) ?a ?b
  case F => exact fun x _ => x
  case b => conv => lhs; whnf
noncomputable def pa_8_4 : Arguments := by
  refine (?F : (x : Arguments) → paF (nthS (inC (nthS PySem.Challenge.pw_xg0075_01.main.body 8)) 4) = x → Arguments) ?a ?b
  case F => exact fun x _ => x
  case b => conv => lhs; whnf
noncomputable def bo_8_4 : List Stmt := by
  refine (?F : (x : List Stmt) → boF (nthS (inC (nthS PySem.Challenge.pw_xg0075_01.main.body 8)) 4) = x → List Stmt) ?a ?b
  case F => exact fun x _ => x
  case b => conv => lhs; whnf
noncomputable def sc_8_4 : Scope := by
  refine (?F : (x : Scope) → scF (nthS (inC (nthS PySem.Challenge.pw_xg0075_01.main.body 8)) 4) = x → Scope) ?a ?b
  case F => exact fun x _ => x
  case b => conv => lhs; whnf
noncomputable def pa_8_5 : Arguments := by
  refine (?F : (x : Arguments) → paF (nthS (inC (nthS PySem.Challenge.pw_xg0075_01.main.body 8)) 5) = x → Arguments) ?a ?b
  case F => exact fun x _ => x
  case b => conv => lhs; whnf
noncomputable def bo_8_5 : List Stmt := by
  refine (?F : (x : List Stmt) → boF (nthS (inC (nthS PySem.Challenge.pw_xg0075_01.main.body 8)) 5) = x → List Stmt) ?a ?b
  case F => exact fun x _ => x
  case b => conv => lhs; whnf
noncomputable def sc_8_5 : Scope := by
  refine (?F : (x : Scope) → scF (nthS (inC (nthS PySem.Challenge.pw_xg0075_01.main.body 8)) 5) = x → Scope) ?a ?b
  case F => exact fun x _ => x
  case b => conv => lhs; whnf
noncomputable def pa_8_6 : Arguments := by
  refine (?F : (x : Arguments) → paF (nthS (inC (nthS PySem.Challenge.pw_xg0075_01.main.body 8)) 6) = x → Arguments) ?a ?b
  case F => exact fun x _ => x
  case b => conv => lhs; whnf
noncomputable def bo_8_6 : List Stmt := by
  refine (?F : (x : List Stmt) → boF (nthS (inC (nthS PySem.Challenge.pw_xg0075_01.main.body 8)) 6) = x → List Stmt) ?a ?b
  case F => exact fun x _ => x
  case b => conv => lhs; whnf
noncomputable def sc_8_6 : Scope := by
  refine (?F : (x : Scope) → scF (nthS (inC (nthS PySem.Challenge.pw_xg0075_01.main.body 8)) 6) = x → Scope) ?a ?b
  case F => exact fun x _ => x
  case b => conv => lhs; whnf
noncomputable def pa_8_7 : Arguments := by
  refine (?F : (x : Arguments) → paF (nthS (inC (nthS PySem.Challenge.pw_xg0075_01.main.body 8)) 7) = x → Arguments) ?a ?b
  case F => exact fun x _ => x
  case b => conv => lhs; whnf
noncomputable def bo_8_7 : List Stmt := by
  refine (?F : (x : List Stmt) → boF (nthS (inC (nthS PySem.Challenge.pw_xg0075_01.main.body 8)) 7) = x → List Stmt) ?a ?b
  case F => exact fun x _ => x
  case b => conv => lhs; whnf
noncomputable def sc_8_7 : Scope := by
  refine (?F : (x : Scope) → scF (nthS (inC (nthS PySem.Challenge.pw_xg0075_01.main.body 8)) 7) = x → Scope) ?a ?b
  case F => exact fun x _ => x
  case b => conv => lhs; whnf
noncomputable def pa_8_8 : Arguments := by
  refine (?F : (x : Arguments) → paF (nthS (inC (nthS PySem.Challenge.pw_xg0075_01.main.body 8)) 8) = x → Arguments) ?a ?b
  case F => exact fun x _ => x
  case b => conv => lhs; whnf
noncomputable def bo_8_8 : List Stmt := by
  refine (?F : (x : List Stmt) → boF (nthS (inC (nthS PySem.Challenge.pw_xg0075_01.main.body 8)) 8) = x → List Stmt) ?a ?b
  case F => exact fun x _ => x
  case b => conv => lhs; whnf
noncomputable def sc_8_8 : Scope := by
  refine (?F : (x : Scope) → scF (nthS (inC (nthS PySem.Challenge.pw_xg0075_01.main.body 8)) 8) = x → Scope) ?a ?b
  case F => exact fun x _ => x
  case b => conv => lhs; whnf
noncomputable def pa_10 : Arguments := by
  refine (?F : (x : Arguments) → paF (nthS PySem.Challenge.pw_xg0075_01.main.body 10) = x → Arguments) ?a ?b
  case F => exact fun x _ => x
  case b => conv => lhs; whnf
noncomputable def bo_10 : List Stmt := by
  refine (?F : (x : List Stmt) → boF (nthS PySem.Challenge.pw_xg0075_01.main.body 10) = x → List Stmt) ?a ?b
  case F => exact fun x _ => x
  case b => conv => lhs; whnf
noncomputable def sc_10 : Scope := by
  refine (?F : (x : Scope) → scF (nthS PySem.Challenge.pw_xg0075_01.main.body 10) = x → Scope) ?a ?b
  case F => exact fun x _ => x
  case b => conv => lhs; whnf
noncomputable def pa_12_0 : Arguments := by
  refine (?F : (x : Arguments) → paF (nthS (inC (nthS PySem.Challenge.pw_xg0075_01.main.body 12)) 0) = x → Arguments) ?a ?b
  case F => exact fun x _ => x
  case b => conv => lhs; whnf
noncomputable def bo_12_0 : List Stmt := by
  refine (?F : (x : List Stmt) → boF (nthS (inC (nthS PySem.Challenge.pw_xg0075_01.main.body 12)) 0) = x → List Stmt) ?a ?b
  case F => exact fun x _ => x
  case b => conv => lhs; whnf
noncomputable def sc_12_0 : Scope := by
  refine (?F : (x : Scope) → scF (nthS (inC (nthS PySem.Challenge.pw_xg0075_01.main.body 12)) 0) = x → Scope) ?a ?b
  case F => exact fun x _ => x
  case b => conv => lhs; whnf
noncomputable def pa_12_1 : Arguments := by
  refine (?F : (x : Arguments) → paF (nthS (inC (nthS PySem.Challenge.pw_xg0075_01.main.body 12)) 1) = x → Arguments) ?a ?b
  case F => exact fun x _ => x
  case b => conv => lhs; whnf
noncomputable def bo_12_1 : List Stmt := by
  refine (?F : (x : List Stmt) → boF (nthS (inC (nthS PySem.Challenge.pw_xg0075_01.main.body 12)) 1) = x → List Stmt) ?a ?b
  case F => exact fun x _ => x
  case b => conv => lhs; whnf
noncomputable def sc_12_1 : Scope := by
  refine (?F : (x : Scope) → scF (nthS (inC (nthS PySem.Challenge.pw_xg0075_01.main.body 12)) 1) = x → Scope) ?a ?b
  case F => exact fun x _ => x
  case b => conv => lhs; whnf
noncomputable def pa_12_2 : Arguments := by
  refine (?F : (x : Arguments) → paF (nthS (inC (nthS PySem.Challenge.pw_xg0075_01.main.body 12)) 2) = x → Arguments) ?a ?b
  case F => exact fun x _ => x
  case b => conv => lhs; whnf
noncomputable def bo_12_2 : List Stmt := by
  refine (?F : (x : List Stmt) → boF (nthS (inC (nthS PySem.Challenge.pw_xg0075_01.main.body 12)) 2) = x → List Stmt) ?a ?b
  case F => exact fun x _ => x
  case b => conv => lhs; whnf
noncomputable def sc_12_2 : Scope := by
  refine (?F : (x : Scope) → scF (nthS (inC (nthS PySem.Challenge.pw_xg0075_01.main.body 12)) 2) = x → Scope) ?a ?b
  case F => exact fun x _ => x
  case b => conv => lhs; whnf
noncomputable def pa_12_3 : Arguments := by
  refine (?F : (x : Arguments) → paF (nthS (inC (nthS PySem.Challenge.pw_xg0075_01.main.body 12)) 3) = x → Arguments) ?a ?b
  case F => exact fun x _ => x
  case b => conv => lhs; whnf
noncomputable def bo_12_3 : List Stmt := by
  refine (?F : (x : List Stmt) → boF (nthS (inC (nthS PySem.Challenge.pw_xg0075_01.main.body 12)) 3) = x → List Stmt) ?a ?b
  case F => exact fun x _ => x
  case b => conv => lhs; whnf
noncomputable def sc_12_3 : Scope := by
  refine (?F : (x : Scope) → scF (nthS (inC (nthS PySem.Challenge.pw_xg0075_01.main.body 12)) 3) = x → Scope) ?a ?b
  case F => exact fun x _ => x
  case b => conv => lhs; whnf
noncomputable def pa_13_1 : Arguments := by
  refine (?F : (x : Arguments) → paF (nthS (inC (nthS PySem.Challenge.pw_xg0075_01.main.body 13)) 1) = x → Arguments) ?a ?b
  case F => exact fun x _ => x
  case b => conv => lhs; whnf
noncomputable def bo_13_1 : List Stmt := by
  refine (?F : (x : List Stmt) → boF (nthS (inC (nthS PySem.Challenge.pw_xg0075_01.main.body 13)) 1) = x → List Stmt) ?a ?b
  case F => exact fun x _ => x
  case b => conv => lhs; whnf
noncomputable def sc_13_1 : Scope := by
  refine (?F : (x : Scope) → scF (nthS (inC (nthS PySem.Challenge.pw_xg0075_01.main.body 13)) 1) = x → Scope) ?a ?b
  case F => exact fun x _ => x
  case b => conv => lhs; whnf
noncomputable def pa_13_2 : Arguments := by
  refine (?F : (x : Arguments) → paF (nthS (inC (nthS PySem.Challenge.pw_xg0075_01.main.body 13)) 2) = x → Arguments) ?a ?b
  case F => exact fun x _ => x
  case b => conv => lhs; whnf
noncomputable def bo_13_2 : List Stmt := by
  refine (?F : (x : List Stmt) → boF (nthS (inC (nthS PySem.Challenge.pw_xg0075_01.main.body 13)) 2) = x → List Stmt) ?a ?b
  case F => exact fun x _ => x
  case b => conv => lhs; whnf
noncomputable def sc_13_2 : Scope := by
  refine (?F : (x : Scope) → scF (nthS (inC (nthS PySem.Challenge.pw_xg0075_01.main.body 13)) 2) = x → Scope) ?a ?b
  case F => exact fun x _ => x
  case b => conv => lhs; whnf
noncomputable def pa_13_3 : Arguments := by
  refine (?F : (x : Arguments) → paF (nthS (inC (nthS PySem.Challenge.pw_xg0075_01.main.body 13)) 3) = x → Arguments) ?a ?b
  case F => exact fun x _ => x
  case b => conv => lhs; whnf
noncomputable def bo_13_3 : List Stmt := by
  refine (?F : (x : List Stmt) → boF (nthS (inC (nthS PySem.Challenge.pw_xg0075_01.main.body 13)) 3) = x → List Stmt) ?a ?b
  case F => exact fun x _ => x
  case b => conv => lhs; whnf
noncomputable def sc_13_3 : Scope := by
  refine (?F : (x : Scope) → scF (nthS (inC (nthS PySem.Challenge.pw_xg0075_01.main.body 13)) 3) = x → Scope) ?a ?b
  case F => exact fun x _ => x
  case b => conv => lhs; whnf
noncomputable def pa_13_4 : Arguments := by
  refine (?F : (x : Arguments) → paF (nthS (inC (nthS PySem.Challenge.pw_xg0075_01.main.body 13)) 4) = x → Arguments) ?a ?b
  case F => exact fun x _ => x
  case b => conv => lhs; whnf
noncomputable def bo_13_4 : List Stmt := by
  refine (?F : (x : List Stmt) → boF (nthS (inC (nthS PySem.Challenge.pw_xg0075_01.main.body 13)) 4) = x → List Stmt) ?a ?b
  case F => exact fun x _ => x
  case b => conv => lhs; whnf
noncomputable def sc_13_4 : Scope := by
  refine (?F : (x : Scope) → scF (nthS (inC (nthS PySem.Challenge.pw_xg0075_01.main.body 13)) 4) = x → Scope) ?a ?b
  case F => exact fun x _ => x
  case b => conv => lhs; whnf
noncomputable def pa_13_5 : Arguments := by
  refine (?F : (x : Arguments) → paF (nthS (inC (nthS PySem.Challenge.pw_xg0075_01.main.body 13)) 5) = x → Arguments) ?a ?b
  case F => exact fun x _ => x
  case b => conv => lhs; whnf
noncomputable def bo_13_5 : List Stmt := by
  refine (?F : (x : List Stmt) → boF (nthS (inC (nthS PySem.Challenge.pw_xg0075_01.main.body 13)) 5) = x → List Stmt) ?a ?b
  case F => exact fun x _ => x
  case b => conv => lhs; whnf
noncomputable def sc_13_5 : Scope := by
  refine (?F : (x : Scope) → scF (nthS (inC (nthS PySem.Challenge.pw_xg0075_01.main.body 13)) 5) = x → Scope) ?a ?b
  case F => exact fun x _ => x
  case b => conv => lhs; whnf
noncomputable def pa_13_6 : Arguments := by
  refine (?F : (x : Arguments) → paF (nthS (inC (nthS PySem.Challenge.pw_xg0075_01.main.body 13)) 6) = x → Arguments) ?a ?b
  case F => exact fun x _ => x
  case b => conv => lhs; whnf
noncomputable def bo_13_6 : List Stmt := by
  refine (?F : (x : List Stmt) → boF (nthS (inC (nthS PySem.Challenge.pw_xg0075_01.main.body 13)) 6) = x → List Stmt) ?a ?b
  case F => exact fun x _ => x
  case b => conv => lhs; whnf
noncomputable def sc_13_6 : Scope := by
  refine (?F : (x : Scope) → scF (nthS (inC (nthS PySem.Challenge.pw_xg0075_01.main.body 13)) 6) = x → Scope) ?a ?b
  case F => exact fun x _ => x
  case b => conv => lhs; whnf
noncomputable def pa_13_7 : Arguments := by
  refine (?F : (x : Arguments) → paF (nthS (inC (nthS PySem.Challenge.pw_xg0075_01.main.body 13)) 7) = x → Arguments) ?a ?b
  case F => exact fun x _ => x
  case b => conv => lhs; whnf
noncomputable def bo_13_7 : List Stmt := by
  refine (?F : (x : List Stmt) → boF (nthS (inC (nthS PySem.Challenge.pw_xg0075_01.main.body 13)) 7) = x → List Stmt) ?a ?b
  case F => exact fun x _ => x
  case b => conv => lhs; whnf
noncomputable def sc_13_7 : Scope := by
  refine (?F : (x : Scope) → scF (nthS (inC (nthS PySem.Challenge.pw_xg0075_01.main.body 13)) 7) = x → Scope) ?a ?b
  case F => exact fun x _ => x
  case b => conv => lhs; whnf
noncomputable def pa_15 : Arguments := by
  refine (?F : (x : Arguments) → paF (nthS PySem.Challenge.pw_xg0075_01.main.body 15) = x → Arguments) ?a ?b
  case F => exact fun x _ => x
  case b => conv => lhs; whnf
noncomputable def bo_15 : List Stmt := by
  refine (?F : (x : List Stmt) → boF (nthS PySem.Challenge.pw_xg0075_01.main.body 15) = x → List Stmt) ?a ?b
  case F => exact fun x _ => x
  case b => conv => lhs; whnf
noncomputable def sc_15 : Scope := by
  refine (?F : (x : Scope) → scF (nthS PySem.Challenge.pw_xg0075_01.main.body 15) = x → Scope) ?a ?b
  case F => exact fun x _ => x
  case b => conv => lhs; whnf
noncomputable def pa_16 : Arguments := by
  refine (?F : (x : Arguments) → paF (nthS PySem.Challenge.pw_xg0075_01.main.body 16) = x → Arguments) ?a ?b
  case F => exact fun x _ => x
  case b => conv => lhs; whnf
noncomputable def bo_16 : List Stmt := by
  refine (?F : (x : List Stmt) → boF (nthS PySem.Challenge.pw_xg0075_01.main.body 16) = x → List Stmt) ?a ?b
  case F => exact fun x _ => x
  case b => conv => lhs; whnf
noncomputable def sc_16 : Scope := by
  refine (?F : (x : Scope) → scF (nthS PySem.Challenge.pw_xg0075_01.main.body 16) = x → Scope) ?a ?b
  case F => exact fun x _ => x
  case b => conv => lhs; whnf
noncomputable def pa_17 : Arguments := by
  refine (?F : (x : Arguments) → paF (nthS PySem.Challenge.pw_xg0075_01.main.body 17) = x → Arguments) ?a ?b
  case F => exact fun x _ => x
  case b => conv => lhs; whnf
noncomputable def bo_17 : List Stmt := by
  refine (?F : (x : List Stmt) → boF (nthS PySem.Challenge.pw_xg0075_01.main.body 17) = x → List Stmt) ?a ?b
  case F => exact fun x _ => x
  case b => conv => lhs; whnf
noncomputable def sc_17 : Scope := by
  refine (?F : (x : Scope) → scF (nthS PySem.Challenge.pw_xg0075_01.main.body 17) = x → Scope) ?a ?b
  case F => exact fun x _ => x
  case b => conv => lhs; whnf
noncomputable def pa_18 : Arguments := by
  refine (?F : (x : Arguments) → paF (nthS PySem.Challenge.pw_xg0075_01.main.body 18) = x → Arguments) ?a ?b
  case F => exact fun x _ => x
  case b => conv => lhs; whnf
noncomputable def bo_18 : List Stmt := by
  refine (?F : (x : List Stmt) → boF (nthS PySem.Challenge.pw_xg0075_01.main.body 18) = x → List Stmt) ?a ?b
  case F => exact fun x _ => x
  case b => conv => lhs; whnf
noncomputable def sc_18 : Scope := by
  refine (?F : (x : Scope) → scF (nthS PySem.Challenge.pw_xg0075_01.main.body 18) = x → Scope) ?a ?b
  case F => exact fun x _ => x
  case b => conv => lhs; whnf
noncomputable def pa_19 : Arguments := by
  refine (?F : (x : Arguments) → paF (nthS PySem.Challenge.pw_xg0075_01.main.body 19) = x → Arguments) ?a ?b
  case F => exact fun x _ => x
  case b => conv => lhs; whnf
noncomputable def bo_19 : List Stmt := by
  refine (?F : (x : List Stmt) → boF (nthS PySem.Challenge.pw_xg0075_01.main.body 19) = x → List Stmt) ?a ?b
  case F => exact fun x _ => x
  case b => conv => lhs; whnf
noncomputable def sc_19 : Scope := by
  refine (?F : (x : Scope) → scF (nthS PySem.Challenge.pw_xg0075_01.main.body 19) = x → Scope) ?a ?b
  case F => exact fun x _ => x
  case b => conv => lhs; whnf
noncomputable def pa_20 : Arguments := by
  refine (?F : (x : Arguments) → paF (nthS PySem.Challenge.pw_xg0075_01.main.body 20) = x → Arguments) ?a ?b
  case F => exact fun x _ => x
  case b => conv => lhs; whnf
noncomputable def bo_20 : List Stmt := by
  refine (?F : (x : List Stmt) → boF (nthS PySem.Challenge.pw_xg0075_01.main.body 20) = x → List Stmt) ?a ?b
  case F => exact fun x _ => x
  case b => conv => lhs; whnf
noncomputable def sc_20 : Scope := by
  refine (?F : (x : Scope) → scF (nthS PySem.Challenge.pw_xg0075_01.main.body 20) = x → Scope) ?a ?b
  case F => exact fun x _ => x
  case b => conv => lhs; whnf
noncomputable def bs_0 : Stmt := by
  refine (?F : (x : Stmt) → nthS PySem.Challenge.pw_xg0075_01.main.body 0 = x → Stmt) ?a ?b
  case F => exact fun x _ => x
  case b => conv => lhs; whnf
noncomputable def bs_2 : Stmt := by
  refine (?F : (x : Stmt) → nthS PySem.Challenge.pw_xg0075_01.main.body 2 = x → Stmt) ?a ?b
  case F => exact fun x _ => x
  case b => conv => lhs; whnf
noncomputable def bs_3 : Stmt := by
  refine (?F : (x : Stmt) → nthS PySem.Challenge.pw_xg0075_01.main.body 3 = x → Stmt) ?a ?b
  case F => exact fun x _ => x
  case b => conv => lhs; whnf
noncomputable def bs_4 : Stmt := by
  refine (?F : (x : Stmt) → nthS PySem.Challenge.pw_xg0075_01.main.body 4 = x → Stmt) ?a ?b
  case F => exact fun x _ => x
  case b => conv => lhs; whnf
noncomputable def bs_6 : Stmt := by
  refine (?F : (x : Stmt) → nthS PySem.Challenge.pw_xg0075_01.main.body 6 = x → Stmt) ?a ?b
  case F => exact fun x _ => x
  case b => conv => lhs; whnf
noncomputable def bs_7 : Stmt := by
  refine (?F : (x : Stmt) → nthS PySem.Challenge.pw_xg0075_01.main.body 7 = x → Stmt) ?a ?b
  case F => exact fun x _ => x
  case b => conv => lhs; whnf
noncomputable def bs_8 : Stmt := by
  refine (?F : (x : Stmt) → nthS PySem.Challenge.pw_xg0075_01.main.body 8 = x → Stmt) ?a ?b
  case F => exact fun x _ => x
  case b => conv => lhs; whnf
noncomputable def bs_10 : Stmt := by
  refine (?F : (x : Stmt) → nthS PySem.Challenge.pw_xg0075_01.main.body 10 = x → Stmt) ?a ?b
  case F => exact fun x _ => x
  case b => conv => lhs; whnf
noncomputable def bs_12 : Stmt := by
  refine (?F : (x : Stmt) → nthS PySem.Challenge.pw_xg0075_01.main.body 12 = x → Stmt) ?a ?b
  case F => exact fun x _ => x
  case b => conv => lhs; whnf
noncomputable def bs_13 : Stmt := by
  refine (?F : (x : Stmt) → nthS PySem.Challenge.pw_xg0075_01.main.body 13 = x → Stmt) ?a ?b
  case F => exact fun x _ => x
  case b => conv => lhs; whnf
noncomputable def bs_15 : Stmt := by
  refine (?F : (x : Stmt) → nthS PySem.Challenge.pw_xg0075_01.main.body 15 = x → Stmt) ?a ?b
  case F => exact fun x _ => x
  case b => conv => lhs; whnf
noncomputable def bs_16 : Stmt := by
  refine (?F : (x : Stmt) → nthS PySem.Challenge.pw_xg0075_01.main.body 16 = x → Stmt) ?a ?b
  case F => exact fun x _ => x
  case b => conv => lhs; whnf
noncomputable def bs_17 : Stmt := by
  refine (?F : (x : Stmt) → nthS PySem.Challenge.pw_xg0075_01.main.body 17 = x → Stmt) ?a ?b
  case F => exact fun x _ => x
  case b => conv => lhs; whnf
noncomputable def bs_18 : Stmt := by
  refine (?F : (x : Stmt) → nthS PySem.Challenge.pw_xg0075_01.main.body 18 = x → Stmt) ?a ?b
  case F => exact fun x _ => x
  case b => conv => lhs; whnf
noncomputable def bs_19 : Stmt := by
  refine (?F : (x : Stmt) → nthS PySem.Challenge.pw_xg0075_01.main.body 19 = x → Stmt) ?a ?b
  case F => exact fun x _ => x
  case b => conv => lhs; whnf
noncomputable def bs_20 : Stmt := by
  refine (?F : (x : Stmt) → nthS PySem.Challenge.pw_xg0075_01.main.body 20 = x → Stmt) ?a ?b
  case F => exact fun x _ => x
  case b => conv => lhs; whnf
section
open PySem.W.BT
noncomputable def o_43 (P : Params) : Obj := ⟨(.type "tuple"), none, (.seq #[] (0:Nat)), #[]⟩
noncomputable def o_44 (P : Params) : Obj := ⟨.none, none, (.fields #[]), #[]⟩
noncomputable def o_45 (P : Params) : Obj := ⟨(.type "code"), none, (.fields #[(.str "<module>" (182:Nat)), (.str "<module>" (183:Nat)), (.str "/claim/cut.py" (184:Nat)), (.int 1 (0:Nat)), (.int 0 (0:Nat)), (.int 0 (0:Nat)), (.int 0 (0:Nat)), (.int 0 (0:Nat)), (.ref (11:Nat)), (.bool false), (.int 181 (0:Nat)), (.ref (12:Nat)), .none, .none, .none, .none, (.int 185 (0:Nat)), (.int 1 (0:Nat)), (.str "/claim/cut.py" (186:Nat))]), #[]⟩
noncomputable def o_46 (P : Params) : Obj := ⟨(.type "frame"), none, .plain, #[(some (.ref (13:Nat))), (some (.ref (3:Nat))), (some (.ref (3:Nat))), none, (some (.str "__main__" (164:Nat))), none, (some (.ref (0:Nat)))]⟩
noncomputable def o_49 (P : Params) : Obj := ⟨(.type "dict"), none, (.dict #[(E P "__name__" (165:Nat) (.str "cpy313.email.header" (258:Nat))), (E P "__doc__" (166:Nat) .none), (E P "__package__" (167:Nat) .none), (E P "__loader__" (168:Nat) (.builtin "__main__.__loader__#opaque")), (E P "__spec__" (169:Nat) .none), (E P "__annotations__" (170:Nat) (.ref (6:Nat))), (E P "__builtins__" (171:Nat) (.ref (4:Nat))), (E P "__file__" (173:Nat) (.str "/claim/cut.py" (172:Nat))), (E P "__cached__" (174:Nat) .none), (E P "_wall" (193:Nat) (.ref (21:Nat))), (E P "TupleComp" (237:Nat) (.ref (45:Nat))), (E P "add_callers" (248:Nat) (.ref (56:Nat))), (E P "count_calls" (257:Nat) (.ref (63:Nat))), (E P "SPACE" (261:Nat) (.str " " (260:Nat))), (E P "EMPTYSTRING" (263:Nat) (.str "" (262:Nat)))] (15:Nat)), #[]⟩
noncomputable def o_50 (P : Params) : Obj := ⟨.none, none, (.fields #[(.int 1 (0:Nat)), (.int 0 (0:Nat)), (.ref (20:Nat)), (.int 5 (0:Nat)), (.int 0 (0:Nat)), (.ref (27:Nat)), (.int 19 (0:Nat)), (.int 0 (0:Nat)), (.ref (55:Nat)), (.int 32 (0:Nat)), (.int 0 (0:Nat)), (.ref (62:Nat))]), #[]⟩
noncomputable def o_51 (P : Params) : Obj := ⟨(.type "tuple"), none, (.seq #[] (0:Nat)), #[]⟩
noncomputable def o_52 (P : Params) : Obj := ⟨.none, none, (.fields #[]), #[]⟩
noncomputable def o_53 (P : Params) : Obj := ⟨(.type "tuple"), none, (.seq #[(.str "k" (190:Nat))] (0:Nat)), #[]⟩
noncomputable def o_54 (P : Params) : Obj := ⟨(.type "tuple"), none, (.seq #[] (0:Nat)), #[]⟩
noncomputable def o_55 (P : Params) : Obj := ⟨.none, none, (.func ⟨"_wall", "_wall", pa_0, .stmts bo_0, sc_0, (0:Nat), ([] : List (Str × Nat)), .none, .none, .none, .none, none, .none, .none, (0:Nat)⟩), #[]⟩
noncomputable def o_56 (P : Params) : Obj := ⟨(.type "code"), none, (.fields #[(.str "_wall" (187:Nat)), (.str "_wall" (188:Nat)), (.str "/claim/cut.py" (189:Nat)), (.int 1 (0:Nat)), (.int 1 (0:Nat)), (.int 0 (0:Nat)), (.int 0 (0:Nat)), (.int 3 (0:Nat)), (.ref (15:Nat)), (.bool true), (.int 181 (0:Nat)), (.ref (16:Nat)), .none, (.ref (17:Nat)), (.ref (18:Nat)), (.ref (19:Nat)), (.int 191 (0:Nat)), (.int 1 (0:Nat)), (.str "/claim/cut.py" (192:Nat))]), #[]⟩
noncomputable def o_57 (P : Params) : Obj := ⟨(.type "function"), none, (.func ⟨"_wall", "_wall", pa_0, .stmts bo_0, sc_0, (3:Nat), ([] : List (Str × Nat)), .none, .none, .none, (.str "__main__" (164:Nat)), none, (.ref (20:Nat)), .none, (0:Nat)⟩), #[]⟩
noncomputable def o_58 (P : Params) : Obj := ⟨(.type "tuple"), none, (.seq #[] (0:Nat)), #[]⟩
noncomputable def o_59 (P : Params) : Obj := ⟨(.type "builtin_function_or_method"), none, (.fields #[(.builtin "type.__prepare__"), (.type "type")]), #[]⟩
noncomputable def o_60 (P : Params) : Obj := ⟨(.type "dict"), none, (.dict #[(E P "__module__" (203:Nat) (.str "cpy313.pstats" (194:Nat))), (E P "__qualname__" (205:Nat) (.str "TupleComp" (204:Nat))), (E P "__firstlineno__" (207:Nat) (.int 5 (206:Nat))), (E P "__init__" (215:Nat) (.ref (35:Nat))), (E P "compare" (228:Nat) (.ref (42:Nat))), (E P "__static_attributes__" (230:Nat) (.ref (43:Nat)))] (6:Nat)), #[]⟩
noncomputable def o_61 (P : Params) : Obj := ⟨(.type "tuple"), none, (.seq #[] (0:Nat)), #[]⟩
noncomputable def o_62 (P : Params) : Obj := ⟨.none, none, (.fields #[(.int 7 (0:Nat)), (.int 4 (0:Nat)), (.ref (34:Nat)), (.int 10 (0:Nat)), (.int 4 (0:Nat)), (.ref (41:Nat))]), #[]⟩
noncomputable def o_63 (P : Params) : Obj := ⟨(.type "code"), none, (.fields #[(.str "TupleComp" (198:Nat)), (.str "TupleComp" (199:Nat)), (.str "/claim/cut.py" (200:Nat)), (.int 5 (0:Nat)), (.int 0 (0:Nat)), (.int 0 (0:Nat)), (.int 0 (0:Nat)), (.int 0 (0:Nat)), (.ref (25:Nat)), (.bool false), (.int 181 (0:Nat)), (.ref (26:Nat)), .none, .none, .none, .none, (.int 201 (0:Nat)), (.int 5 (0:Nat)), (.str "/claim/cut.py" (202:Nat))]), #[]⟩
noncomputable def o_64 (P : Params) : Obj := ⟨(.type "frame"), none, .plain, #[(some (.ref (27:Nat))), (some (.ref (3:Nat))), (some (.ref (24:Nat))), none, (some (.str "cpy313.pstats" (194:Nat))), none, (some (.ref (0:Nat)))]⟩
noncomputable def o_65 (P : Params) : Obj := ⟨(.type "tuple"), none, (.seq #[] (0:Nat)), #[]⟩
noncomputable def o_66 (P : Params) : Obj := ⟨.none, none, (.fields #[]), #[]⟩
noncomputable def o_67 (P : Params) : Obj := ⟨(.type "tuple"), none, (.seq #[(.str "self" (211:Nat)), (.str "comp_select_list" (212:Nat))] (0:Nat)), #[]⟩
noncomputable def o_68 (P : Params) : Obj := ⟨(.type "tuple"), none, (.seq #[] (0:Nat)), #[]⟩
noncomputable def o_69 (P : Params) : Obj := ⟨.none, none, (.func ⟨"__init__", "TupleComp.__init__", pa_2_0, .stmts bo_2_0, sc_2_0, (0:Nat), ([] : List (Str × Nat)), .none, .none, .none, .none, none, .none, .none, (0:Nat)⟩), #[]⟩
noncomputable def o_70 (P : Params) : Obj := ⟨(.type "code"), none, (.fields #[(.str "__init__" (208:Nat)), (.str "TupleComp.__init__" (209:Nat)), (.str "/claim/cut.py" (210:Nat)), (.int 7 (0:Nat)), (.int 2 (0:Nat)), (.int 0 (0:Nat)), (.int 0 (0:Nat)), (.int 3 (0:Nat)), (.ref (29:Nat)), (.bool true), (.int 181 (0:Nat)), (.ref (30:Nat)), .none, (.ref (31:Nat)), (.ref (32:Nat)), (.ref (33:Nat)), (.int 213 (0:Nat)), (.int 7 (0:Nat)), (.str "/claim/cut.py" (214:Nat))]), #[]⟩
noncomputable def o_71 (P : Params) : Obj := ⟨(.type "function"), none, (.func ⟨"__init__", "TupleComp.__init__", pa_2_0, .stmts bo_2_0, sc_2_0, (3:Nat), ([] : List (Str × Nat)), .none, .none, .none, (.str "cpy313.pstats" (194:Nat)), none, (.ref (34:Nat)), .none, (0:Nat)⟩), #[]⟩
noncomputable def o_72 (P : Params) : Obj := ⟨(.type "tuple"), none, (.seq #[] (0:Nat)), #[]⟩
noncomputable def o_73 (P : Params) : Obj := ⟨.none, none, (.fields #[]), #[]⟩
noncomputable def o_74 (P : Params) : Obj := ⟨(.type "tuple"), none, (.seq #[(.str "self" (219:Nat)), (.str "left" (220:Nat)), (.str "right" (221:Nat)), (.str "index" (222:Nat)), (.str "direction" (223:Nat)), (.str "l" (224:Nat)), (.str "r" (225:Nat))] (0:Nat)), #[]⟩
noncomputable def o_75 (P : Params) : Obj := ⟨(.type "tuple"), none, (.seq #[] (0:Nat)), #[]⟩
noncomputable def o_76 (P : Params) : Obj := ⟨.none, none, (.func ⟨"compare", "TupleComp.compare", pa_2_1, .stmts bo_2_1, sc_2_1, (0:Nat), ([] : List (Str × Nat)), .none, .none, .none, .none, none, .none, .none, (0:Nat)⟩), #[]⟩
noncomputable def o_77 (P : Params) : Obj := ⟨(.type "code"), none, (.fields #[(.str "compare" (216:Nat)), (.str "TupleComp.compare" (217:Nat)), (.str "/claim/cut.py" (218:Nat)), (.int 10 (0:Nat)), (.int 3 (0:Nat)), (.int 0 (0:Nat)), (.int 0 (0:Nat)), (.int 3 (0:Nat)), (.ref (36:Nat)), (.bool true), (.int 181 (0:Nat)), (.ref (37:Nat)), .none, (.ref (38:Nat)), (.ref (39:Nat)), (.ref (40:Nat)), (.int 226 (0:Nat)), (.int 10 (0:Nat)), (.str "/claim/cut.py" (227:Nat))]), #[]⟩
noncomputable def o_78 (P : Params) : Obj := ⟨(.type "function"), none, (.func ⟨"compare", "TupleComp.compare", pa_2_1, .stmts bo_2_1, sc_2_1, (3:Nat), ([] : List (Str × Nat)), .none, .none, .none, (.str "cpy313.pstats" (194:Nat)), none, (.ref (41:Nat)), .none, (0:Nat)⟩), #[]⟩
noncomputable def o_79 (P : Params) : Obj := ⟨(.type "tuple"), none, (.seq #[(.str "comp_select_list" (229:Nat))] (0:Nat)), #[]⟩
noncomputable def o_80 (P : Params) : Obj := ⟨(.type "dict"), none, (.dict #[(E P "__module__" (203:Nat) (.str "cpy313.pstats" (194:Nat))), (E P "__firstlineno__" (207:Nat) (.int 5 (206:Nat))), (E P "__init__" (215:Nat) (.ref (35:Nat))), (E P "compare" (228:Nat) (.ref (42:Nat))), (E P "__static_attributes__" (230:Nat) (.ref (43:Nat))), (E P "__dict__" (232:Nat) (.ref (46:Nat))), (E P "__weakref__" (234:Nat) (.ref (47:Nat))), (E P "__doc__" (235:Nat) .none)] (4:Nat)), #[]⟩
noncomputable def o_81 (P : Params) : Obj := ⟨(.type "type"), none, (.cls ⟨"TupleComp", [(.type "object")], [(.ref (45:Nat)), (.type "object")], (44:Nat), "TupleComp", true, [], [], false, none, false⟩), #[none, none, (some (.str "TupleComp" (196:Nat))), (some (.str "TupleComp" (204:Nat))), (some (.builtin "object.__new__")), (some (.bool true))]⟩
noncomputable def o_82 (P : Params) : Obj := ⟨(.type "getset_descriptor"), none, (.fields #[(.str "__dict__" (231:Nat)), (.ref (45:Nat)), (.builtin "function.__dict__"), (.builtin "function.__dict__#set")]), #[]⟩
noncomputable def o_83 (P : Params) : Obj := ⟨(.type "getset_descriptor"), none, (.fields #[(.str "__weakref__" (233:Nat)), (.ref (45:Nat)), (.builtin "ExceptionGroup.__weakref__"), .none]), #[]⟩
noncomputable def o_84 (P : Params) : Obj := ⟨(.type "super"), none, (.fields #[(.ref (45:Nat)), (.ref (45:Nat)), (.ref (45:Nat))]), #[]⟩
noncomputable def o_85 (P : Params) : Obj := ⟨(.type "builtin_function_or_method"), none, (.fields #[(.builtin "object.__init_subclass__"), (.ref (45:Nat))]), #[]⟩
noncomputable def o_86 (P : Params) : Obj := ⟨(.type "tuple"), none, (.seq #[] (0:Nat)), #[]⟩
noncomputable def o_87 (P : Params) : Obj := ⟨.none, none, (.fields #[]), #[]⟩
noncomputable def o_88 (P : Params) : Obj := ⟨(.type "tuple"), none, (.seq #[(.str "target" (241:Nat)), (.str "source" (242:Nat)), (.str "new_callers" (243:Nat)), (.str "func" (244:Nat)), (.str "caller" (245:Nat))] (0:Nat)), #[]⟩
noncomputable def o_89 (P : Params) : Obj := ⟨(.type "tuple"), none, (.seq #[] (0:Nat)), #[]⟩
noncomputable def o_90 (P : Params) : Obj := ⟨.none, none, (.func ⟨"add_callers", "add_callers", pa_3, .stmts bo_3, sc_3, (0:Nat), ([] : List (Str × Nat)), .none, .none, .none, .none, none, .none, .none, (0:Nat)⟩), #[]⟩
noncomputable def o_91 (P : Params) : Obj := ⟨(.type "code"), none, (.fields #[(.str "add_callers" (238:Nat)), (.str "add_callers" (239:Nat)), (.str "/claim/cut.py" (240:Nat)), (.int 19 (0:Nat)), (.int 2 (0:Nat)), (.int 0 (0:Nat)), (.int 0 (0:Nat)), (.int 3 (0:Nat)), (.ref (50:Nat)), (.bool true), (.int 181 (0:Nat)), (.ref (51:Nat)), .none, (.ref (52:Nat)), (.ref (53:Nat)), (.ref (54:Nat)), (.int 246 (0:Nat)), (.int 19 (0:Nat)), (.str "/claim/cut.py" (247:Nat))]), #[]⟩
noncomputable def o_92 (P : Params) : Obj := ⟨(.type "function"), none, (.func ⟨"add_callers", "add_callers", pa_3, .stmts bo_3, sc_3, (3:Nat), ([] : List (Str × Nat)), .none, .none, .none, (.str "cpy313.pstats" (194:Nat)), none, (.ref (55:Nat)), .none, (0:Nat)⟩), #[]⟩
noncomputable def o_93 (P : Params) : Obj := ⟨(.type "tuple"), none, (.seq #[] (0:Nat)), #[]⟩
noncomputable def o_94 (P : Params) : Obj := ⟨.none, none, (.fields #[]), #[]⟩
noncomputable def o_95 (P : Params) : Obj := ⟨(.type "tuple"), none, (.seq #[(.str "callers" (252:Nat)), (.str "nc" (253:Nat)), (.str "calls" (254:Nat))] (0:Nat)), #[]⟩
noncomputable def o_96 (P : Params) : Obj := ⟨(.type "tuple"), none, (.seq #[] (0:Nat)), #[]⟩
noncomputable def o_97 (P : Params) : Obj := ⟨.none, none, (.func ⟨"count_calls", "count_calls", pa_4, .stmts bo_4, sc_4, (0:Nat), ([] : List (Str × Nat)), .none, .none, .none, .none, none, .none, .none, (0:Nat)⟩), #[]⟩
noncomputable def o_98 (P : Params) : Obj := ⟨(.type "code"), none, (.fields #[(.str "count_calls" (249:Nat)), (.str "count_calls" (250:Nat)), (.str "/claim/cut.py" (251:Nat)), (.int 32 (0:Nat)), (.int 1 (0:Nat)), (.int 0 (0:Nat)), (.int 0 (0:Nat)), (.int 3 (0:Nat)), (.ref (57:Nat)), (.bool true), (.int 181 (0:Nat)), (.ref (58:Nat)), .none, (.ref (59:Nat)), (.ref (60:Nat)), (.ref (61:Nat)), (.int 255 (0:Nat)), (.int 32 (0:Nat)), (.str "/claim/cut.py" (256:Nat))]), #[]⟩
noncomputable def o_99 (P : Params) : Obj := ⟨(.type "function"), none, (.func ⟨"count_calls", "count_calls", pa_4, .stmts bo_4, sc_4, (3:Nat), ([] : List (Str × Nat)), .none, .none, .none, (.str "cpy313.pstats" (194:Nat)), none, (.ref (62:Nat)), .none, (0:Nat)⟩), #[]⟩
noncomputable def o_100 (P : Params) : Obj := ⟨(.type "dict"), none, (.dict #[(E P "__name__" (165:Nat) (.str "cpy313.email.header" (258:Nat))), (E P "__doc__" (166:Nat) .none), (E P "__package__" (167:Nat) .none), (E P "__loader__" (168:Nat) (.builtin "__main__.__loader__#opaque")), (E P "__spec__" (169:Nat) .none), (E P "__annotations__" (170:Nat) (.ref (6:Nat))), (E P "__builtins__" (171:Nat) (.ref (4:Nat))), (E P "__file__" (173:Nat) (.str "/claim/cut.py" (172:Nat))), (E P "__cached__" (174:Nat) .none), (E P "_wall" (193:Nat) (.ref (21:Nat))), (E P "TupleComp" (237:Nat) (.ref (45:Nat))), (E P "add_callers" (248:Nat) (.ref (56:Nat))), (E P "count_calls" (257:Nat) (.ref (63:Nat))), (E P "SPACE" (261:Nat) (.str " " (260:Nat))), (E P "EMPTYSTRING" (263:Nat) (.str "" (262:Nat))), (E P "_Accumulator" (359:Nat) (.ref (143:Nat)))] (16:Nat)), #[]⟩
noncomputable def o_101 (P : Params) : Obj := ⟨.none, none, (.fields #[(.int 1 (0:Nat)), (.int 0 (0:Nat)), (.ref (20:Nat)), (.int 5 (0:Nat)), (.int 0 (0:Nat)), (.ref (27:Nat)), (.int 19 (0:Nat)), (.int 0 (0:Nat)), (.ref (55:Nat)), (.int 32 (0:Nat)), (.int 0 (0:Nat)), (.ref (62:Nat)), (.int 40 (0:Nat)), (.int 0 (0:Nat)), (.ref (70:Nat))]), #[]⟩
noncomputable def o_102 (P : Params) : Obj := ⟨(.type "tuple"), none, (.seq #[(.type "list")] (0:Nat)), #[]⟩
noncomputable def o_103 (P : Params) : Obj := ⟨(.type "builtin_function_or_method"), none, (.fields #[(.builtin "type.__prepare__"), (.type "type")]), #[]⟩
noncomputable def o_104 (P : Params) : Obj := ⟨(.type "dict"), none, (.dict #[(E P "__module__" (271:Nat) (.str "cpy313.email.header" (258:Nat))), (E P "__qualname__" (273:Nat) (.str "_Accumulator" (272:Nat))), (E P "__firstlineno__" (275:Nat) (.int 40 (274:Nat))), (E P "__init__" (285:Nat) (.ref (80:Nat))), (E P "push" (294:Nat) (.ref (87:Nat))), (E P "pop_from" (304:Nat) (.ref (95:Nat))), (E P "pop" (312:Nat) (.ref (103:Nat))), (E P "__len__" (319:Nat) (.ref (110:Nat))), (E P "__str__" (326:Nat) (.ref (117:Nat))), (E P "reset" (334:Nat) (.ref (125:Nat))), (E P "is_onlyws" (341:Nat) (.ref (132:Nat))), (E P "part_count" (349:Nat) (.ref (140:Nat))), (E P "__static_attributes__" (351:Nat) (.ref (141:Nat))), (E P "__classcell__" (352:Nat) (.ref (67:Nat)))] (14:Nat)), #[]⟩
noncomputable def o_105 (P : Params) : Obj := ⟨(.type "cell"), none, (.cell (some (.ref (143:Nat)))), #[]⟩
noncomputable def o_106 (P : Params) : Obj := ⟨(.type "tuple"), none, (.seq #[] (0:Nat)), #[]⟩
noncomputable def o_107 (P : Params) : Obj := ⟨.none, none, (.fields #[(.int 42 (0:Nat)), (.int 4 (0:Nat)), (.ref (79:Nat)), (.int 46 (0:Nat)), (.int 4 (0:Nat)), (.ref (86:Nat)), (.int 49 (0:Nat)), (.int 4 (0:Nat)), (.ref (94:Nat)), (.int 54 (0:Nat)), (.int 4 (0:Nat)), (.ref (102:Nat)), (.int 59 (0:Nat)), (.int 4 (0:Nat)), (.ref (109:Nat)), (.int 62 (0:Nat)), (.int 4 (0:Nat)), (.ref (116:Nat)), (.int 65 (0:Nat)), (.int 4 (0:Nat)), (.ref (124:Nat)), (.int 68 (0:Nat)), (.int 4 (0:Nat)), (.ref (131:Nat)), (.int 71 (0:Nat)), (.int 4 (0:Nat)), (.ref (139:Nat))]), #[]⟩
noncomputable def o_108 (P : Params) : Obj := ⟨(.type "code"), none, (.fields #[(.str "_Accumulator" (266:Nat)), (.str "_Accumulator" (267:Nat)), (.str "/claim/cut.py" (268:Nat)), (.int 40 (0:Nat)), (.int 0 (0:Nat)), (.int 0 (0:Nat)), (.int 0 (0:Nat)), (.int 0 (0:Nat)), (.ref (68:Nat)), (.bool false), (.int 181 (0:Nat)), (.ref (69:Nat)), .none, .none, .none, .none, (.int 269 (0:Nat)), (.int 40 (0:Nat)), (.str "/claim/cut.py" (270:Nat))]), #[]⟩
noncomputable def o_109 (P : Params) : Obj := ⟨(.type "frame"), none, .plain, #[(some (.ref (70:Nat))), (some (.ref (3:Nat))), (some (.ref (66:Nat))), none, (some (.str "cpy313.email.header" (258:Nat))), none, (some (.ref (0:Nat)))]⟩
noncomputable def o_110 (P : Params) : Obj := ⟨(.type "tuple"), none, (.seq #[(.int 0 (276:Nat))] (0:Nat)), #[]⟩
noncomputable def o_111 (P : Params) : Obj := ⟨(.type "tuple"), none, (.seq #[(.ref (67:Nat))] (0:Nat)), #[]⟩
noncomputable def o_112 (P : Params) : Obj := ⟨(.type "tuple"), none, (.seq #[(.str "__class__" (280:Nat))] (0:Nat)), #[]⟩
noncomputable def o_113 (P : Params) : Obj := ⟨.none, none, (.fields #[]), #[]⟩
noncomputable def o_114 (P : Params) : Obj := ⟨(.type "tuple"), none, (.seq #[(.str "self" (281:Nat)), (.str "initial_size" (282:Nat))] (0:Nat)), #[]⟩
noncomputable def o_115 (P : Params) : Obj := ⟨(.type "tuple"), none, (.seq #[] (0:Nat)), #[]⟩
noncomputable def o_116 (P : Params) : Obj := ⟨.none, none, (.func ⟨"__init__", "_Accumulator.__init__", pa_8_0, .stmts bo_8_0, sc_8_0, (0:Nat), ([] : List (Str × Nat)), .none, .none, .none, .none, none, .none, .none, (0:Nat)⟩), #[]⟩
noncomputable def o_117 (P : Params) : Obj := ⟨(.type "code"), none, (.fields #[(.str "__init__" (277:Nat)), (.str "_Accumulator.__init__" (278:Nat)), (.str "/claim/cut.py" (279:Nat)), (.int 42 (0:Nat)), (.int 2 (0:Nat)), (.int 0 (0:Nat)), (.int 0 (0:Nat)), (.int 3 (0:Nat)), (.ref (74:Nat)), (.bool true), (.int 181 (0:Nat)), (.ref (75:Nat)), .none, (.ref (76:Nat)), (.ref (77:Nat)), (.ref (78:Nat)), (.int 283 (0:Nat)), (.int 42 (0:Nat)), (.str "/claim/cut.py" (284:Nat))]), #[]⟩
noncomputable def o_118 (P : Params) : Obj := ⟨(.type "function"), none, (.func ⟨"__init__", "_Accumulator.__init__", pa_8_0, .stmts bo_8_0, sc_8_0, (3:Nat), ([("__class__", (67:Nat))] : List (Str × Nat)), (.ref (72:Nat)), .none, .none, (.str "cpy313.email.header" (258:Nat)), none, (.ref (79:Nat)), (.ref (73:Nat)), (0:Nat)⟩), #[]⟩
noncomputable def o_119 (P : Params) : Obj := ⟨(.type "tuple"), none, (.seq #[] (0:Nat)), #[]⟩
noncomputable def o_120 (P : Params) : Obj := ⟨.none, none, (.fields #[]), #[]⟩
noncomputable def o_121 (P : Params) : Obj := ⟨(.type "tuple"), none, (.seq #[(.str "self" (289:Nat)), (.str "fws" (290:Nat)), (.str "string" (291:Nat))] (0:Nat)), #[]⟩
noncomputable def o_122 (P : Params) : Obj := ⟨(.type "tuple"), none, (.seq #[] (0:Nat)), #[]⟩
noncomputable def o_123 (P : Params) : Obj := ⟨.none, none, (.func ⟨"push", "_Accumulator.push", pa_8_1, .stmts bo_8_1, sc_8_1, (0:Nat), ([] : List (Str × Nat)), .none, .none, .none, .none, none, .none, .none, (0:Nat)⟩), #[]⟩
noncomputable def o_124 (P : Params) : Obj := ⟨(.type "code"), none, (.fields #[(.str "push" (286:Nat)), (.str "_Accumulator.push" (287:Nat)), (.str "/claim/cut.py" (288:Nat)), (.int 46 (0:Nat)), (.int 3 (0:Nat)), (.int 0 (0:Nat)), (.int 0 (0:Nat)), (.int 3 (0:Nat)), (.ref (81:Nat)), (.bool true), (.int 181 (0:Nat)), (.ref (82:Nat)), .none, (.ref (83:Nat)), (.ref (84:Nat)), (.ref (85:Nat)), (.int 292 (0:Nat)), (.int 46 (0:Nat)), (.str "/claim/cut.py" (293:Nat))]), #[]⟩
noncomputable def o_125 (P : Params) : Obj := ⟨(.type "function"), none, (.func ⟨"push", "_Accumulator.push", pa_8_1, .stmts bo_8_1, sc_8_1, (3:Nat), ([] : List (Str × Nat)), .none, .none, .none, (.str "cpy313.email.header" (258:Nat)), none, (.ref (86:Nat)), .none, (0:Nat)⟩), #[]⟩
noncomputable def o_126 (P : Params) : Obj := ⟨(.type "tuple"), none, (.seq #[(.int 0 (295:Nat))] (0:Nat)), #[]⟩
noncomputable def o_127 (P : Params) : Obj := ⟨(.type "tuple"), none, (.seq #[] (0:Nat)), #[]⟩
noncomputable def o_128 (P : Params) : Obj := ⟨.none, none, (.fields #[]), #[]⟩
noncomputable def o_129 (P : Params) : Obj := ⟨(.type "tuple"), none, (.seq #[(.str "self" (299:Nat)), (.str "i" (300:Nat)), (.str "popped" (301:Nat))] (0:Nat)), #[]⟩
noncomputable def o_130 (P : Params) : Obj := ⟨(.type "tuple"), none, (.seq #[] (0:Nat)), #[]⟩
noncomputable def o_131 (P : Params) : Obj := ⟨.none, none, (.func ⟨"pop_from", "_Accumulator.pop_from", pa_8_2, .stmts bo_8_2, sc_8_2, (0:Nat), ([] : List (Str × Nat)), .none, .none, .none, .none, none, .none, .none, (0:Nat)⟩), #[]⟩
noncomputable def o_132 (P : Params) : Obj := ⟨(.type "code"), none, (.fields #[(.str "pop_from" (296:Nat)), (.str "_Accumulator.pop_from" (297:Nat)), (.str "/claim/cut.py" (298:Nat)), (.int 49 (0:Nat)), (.int 2 (0:Nat)), (.int 0 (0:Nat)), (.int 0 (0:Nat)), (.int 3 (0:Nat)), (.ref (89:Nat)), (.bool true), (.int 181 (0:Nat)), (.ref (90:Nat)), .none, (.ref (91:Nat)), (.ref (92:Nat)), (.ref (93:Nat)), (.int 302 (0:Nat)), (.int 49 (0:Nat)), (.str "/claim/cut.py" (303:Nat))]), #[]⟩
noncomputable def o_133 (P : Params) : Obj := ⟨(.type "function"), none, (.func ⟨"pop_from", "_Accumulator.pop_from", pa_8_2, .stmts bo_8_2, sc_8_2, (3:Nat), ([] : List (Str × Nat)), (.ref (88:Nat)), .none, .none, (.str "cpy313.email.header" (258:Nat)), none, (.ref (94:Nat)), .none, (0:Nat)⟩), #[]⟩
noncomputable def o_134 (P : Params) : Obj := ⟨(.type "tuple"), none, (.seq #[(.ref (67:Nat))] (0:Nat)), #[]⟩
noncomputable def o_135 (P : Params) : Obj := ⟨(.type "tuple"), none, (.seq #[(.str "__class__" (308:Nat))] (0:Nat)), #[]⟩
noncomputable def o_136 (P : Params) : Obj := ⟨.none, none, (.fields #[]), #[]⟩
noncomputable def o_137 (P : Params) : Obj := ⟨(.type "tuple"), none, (.seq #[(.str "self" (309:Nat))] (0:Nat)), #[]⟩
noncomputable def o_138 (P : Params) : Obj := ⟨(.type "tuple"), none, (.seq #[] (0:Nat)), #[]⟩
noncomputable def o_139 (P : Params) : Obj := ⟨.none, none, (.func ⟨"pop", "_Accumulator.pop", pa_8_3, .stmts bo_8_3, sc_8_3, (0:Nat), ([] : List (Str × Nat)), .none, .none, .none, .none, none, .none, .none, (0:Nat)⟩), #[]⟩
noncomputable def o_140 (P : Params) : Obj := ⟨(.type "code"), none, (.fields #[(.str "pop" (305:Nat)), (.str "_Accumulator.pop" (306:Nat)), (.str "/claim/cut.py" (307:Nat)), (.int 54 (0:Nat)), (.int 1 (0:Nat)), (.int 0 (0:Nat)), (.int 0 (0:Nat)), (.int 3 (0:Nat)), (.ref (97:Nat)), (.bool true), (.int 181 (0:Nat)), (.ref (98:Nat)), .none, (.ref (99:Nat)), (.ref (100:Nat)), (.ref (101:Nat)), (.int 310 (0:Nat)), (.int 54 (0:Nat)), (.str "/claim/cut.py" (311:Nat))]), #[]⟩
noncomputable def o_141 (P : Params) : Obj := ⟨(.type "function"), none, (.func ⟨"pop", "_Accumulator.pop", pa_8_3, .stmts bo_8_3, sc_8_3, (3:Nat), ([("__class__", (67:Nat))] : List (Str × Nat)), .none, .none, .none, (.str "cpy313.email.header" (258:Nat)), none, (.ref (102:Nat)), (.ref (96:Nat)), (0:Nat)⟩), #[]⟩
noncomputable def o_142 (P : Params) : Obj := ⟨(.type "tuple"), none, (.seq #[] (0:Nat)), #[]⟩
noncomputable def o_143 (P : Params) : Obj := ⟨.none, none, (.fields #[]), #[]⟩
noncomputable def o_144 (P : Params) : Obj := ⟨(.type "tuple"), none, (.seq #[(.str "self" (316:Nat))] (0:Nat)), #[]⟩
noncomputable def o_145 (P : Params) : Obj := ⟨(.type "tuple"), none, (.seq #[] (0:Nat)), #[]⟩
noncomputable def o_146 (P : Params) : Obj := ⟨.none, none, (.func ⟨"__len__", "_Accumulator.__len__", pa_8_4, .stmts bo_8_4, sc_8_4, (0:Nat), ([] : List (Str × Nat)), .none, .none, .none, .none, none, .none, .none, (0:Nat)⟩), #[]⟩
noncomputable def o_147 (P : Params) : Obj := ⟨(.type "code"), none, (.fields #[(.str "__len__" (313:Nat)), (.str "_Accumulator.__len__" (314:Nat)), (.str "/claim/cut.py" (315:Nat)), (.int 59 (0:Nat)), (.int 1 (0:Nat)), (.int 0 (0:Nat)), (.int 0 (0:Nat)), (.int 3 (0:Nat)), (.ref (104:Nat)), (.bool true), (.int 181 (0:Nat)), (.ref (105:Nat)), .none, (.ref (106:Nat)), (.ref (107:Nat)), (.ref (108:Nat)), (.int 317 (0:Nat)), (.int 59 (0:Nat)), (.str "/claim/cut.py" (318:Nat))]), #[]⟩
noncomputable def o_148 (P : Params) : Obj := ⟨(.type "function"), none, (.func ⟨"__len__", "_Accumulator.__len__", pa_8_4, .stmts bo_8_4, sc_8_4, (3:Nat), ([] : List (Str × Nat)), .none, .none, .none, (.str "cpy313.email.header" (258:Nat)), none, (.ref (109:Nat)), .none, (0:Nat)⟩), #[]⟩
noncomputable def o_149 (P : Params) : Obj := ⟨(.type "tuple"), none, (.seq #[] (0:Nat)), #[]⟩
noncomputable def o_150 (P : Params) : Obj := ⟨.none, none, (.fields #[]), #[]⟩
noncomputable def o_151 (P : Params) : Obj := ⟨(.type "tuple"), none, (.seq #[(.str "self" (323:Nat))] (0:Nat)), #[]⟩
noncomputable def o_152 (P : Params) : Obj := ⟨(.type "tuple"), none, (.seq #[] (0:Nat)), #[]⟩
noncomputable def o_153 (P : Params) : Obj := ⟨.none, none, (.func ⟨"__str__", "_Accumulator.__str__", pa_8_5, .stmts bo_8_5, sc_8_5, (0:Nat), ([] : List (Str × Nat)), .none, .none, .none, .none, none, .none, .none, (0:Nat)⟩), #[]⟩
noncomputable def o_154 (P : Params) : Obj := ⟨(.type "code"), none, (.fields #[(.str "__str__" (320:Nat)), (.str "_Accumulator.__str__" (321:Nat)), (.str "/claim/cut.py" (322:Nat)), (.int 62 (0:Nat)), (.int 1 (0:Nat)), (.int 0 (0:Nat)), (.int 0 (0:Nat)), (.int 3 (0:Nat)), (.ref (111:Nat)), (.bool true), (.int 181 (0:Nat)), (.ref (112:Nat)), .none, (.ref (113:Nat)), (.ref (114:Nat)), (.ref (115:Nat)), (.int 324 (0:Nat)), (.int 62 (0:Nat)), (.str "/claim/cut.py" (325:Nat))]), #[]⟩
noncomputable def o_155 (P : Params) : Obj := ⟨(.type "function"), none, (.func ⟨"__str__", "_Accumulator.__str__", pa_8_5, .stmts bo_8_5, sc_8_5, (3:Nat), ([] : List (Str × Nat)), .none, .none, .none, (.str "cpy313.email.header" (258:Nat)), none, (.ref (116:Nat)), .none, (0:Nat)⟩), #[]⟩
noncomputable def o_156 (P : Params) : Obj := ⟨(.type "tuple"), none, (.seq #[.none] (0:Nat)), #[]⟩
noncomputable def o_157 (P : Params) : Obj := ⟨(.type "tuple"), none, (.seq #[] (0:Nat)), #[]⟩
noncomputable def o_158 (P : Params) : Obj := ⟨.none, none, (.fields #[]), #[]⟩
noncomputable def o_159 (P : Params) : Obj := ⟨(.type "tuple"), none, (.seq #[(.str "self" (330:Nat)), (.str "startval" (331:Nat))] (0:Nat)), #[]⟩
noncomputable def o_160 (P : Params) : Obj := ⟨(.type "tuple"), none, (.seq #[] (0:Nat)), #[]⟩
noncomputable def o_161 (P : Params) : Obj := ⟨.none, none, (.func ⟨"reset", "_Accumulator.reset", pa_8_6, .stmts bo_8_6, sc_8_6, (0:Nat), ([] : List (Str × Nat)), .none, .none, .none, .none, none, .none, .none, (0:Nat)⟩), #[]⟩
noncomputable def o_162 (P : Params) : Obj := ⟨(.type "code"), none, (.fields #[(.str "reset" (327:Nat)), (.str "_Accumulator.reset" (328:Nat)), (.str "/claim/cut.py" (329:Nat)), (.int 65 (0:Nat)), (.int 2 (0:Nat)), (.int 0 (0:Nat)), (.int 0 (0:Nat)), (.int 3 (0:Nat)), (.ref (119:Nat)), (.bool true), (.int 181 (0:Nat)), (.ref (120:Nat)), .none, (.ref (121:Nat)), (.ref (122:Nat)), (.ref (123:Nat)), (.int 332 (0:Nat)), (.int 65 (0:Nat)), (.str "/claim/cut.py" (333:Nat))]), #[]⟩
noncomputable def o_163 (P : Params) : Obj := ⟨(.type "function"), none, (.func ⟨"reset", "_Accumulator.reset", pa_8_6, .stmts bo_8_6, sc_8_6, (3:Nat), ([] : List (Str × Nat)), (.ref (118:Nat)), .none, .none, (.str "cpy313.email.header" (258:Nat)), none, (.ref (124:Nat)), .none, (0:Nat)⟩), #[]⟩
noncomputable def o_164 (P : Params) : Obj := ⟨(.type "tuple"), none, (.seq #[] (0:Nat)), #[]⟩
noncomputable def o_165 (P : Params) : Obj := ⟨.none, none, (.fields #[]), #[]⟩
noncomputable def o_166 (P : Params) : Obj := ⟨(.type "tuple"), none, (.seq #[(.str "self" (338:Nat))] (0:Nat)), #[]⟩
noncomputable def o_167 (P : Params) : Obj := ⟨(.type "tuple"), none, (.seq #[] (0:Nat)), #[]⟩
noncomputable def o_168 (P : Params) : Obj := ⟨.none, none, (.func ⟨"is_onlyws", "_Accumulator.is_onlyws", pa_8_7, .stmts bo_8_7, sc_8_7, (0:Nat), ([] : List (Str × Nat)), .none, .none, .none, .none, none, .none, .none, (0:Nat)⟩), #[]⟩
noncomputable def o_169 (P : Params) : Obj := ⟨(.type "code"), none, (.fields #[(.str "is_onlyws" (335:Nat)), (.str "_Accumulator.is_onlyws" (336:Nat)), (.str "/claim/cut.py" (337:Nat)), (.int 68 (0:Nat)), (.int 1 (0:Nat)), (.int 0 (0:Nat)), (.int 0 (0:Nat)), (.int 3 (0:Nat)), (.ref (126:Nat)), (.bool true), (.int 181 (0:Nat)), (.ref (127:Nat)), .none, (.ref (128:Nat)), (.ref (129:Nat)), (.ref (130:Nat)), (.int 339 (0:Nat)), (.int 68 (0:Nat)), (.str "/claim/cut.py" (340:Nat))]), #[]⟩
noncomputable def o_170 (P : Params) : Obj := ⟨(.type "function"), none, (.func ⟨"is_onlyws", "_Accumulator.is_onlyws", pa_8_7, .stmts bo_8_7, sc_8_7, (3:Nat), ([] : List (Str × Nat)), .none, .none, .none, (.str "cpy313.email.header" (258:Nat)), none, (.ref (131:Nat)), .none, (0:Nat)⟩), #[]⟩
noncomputable def o_171 (P : Params) : Obj := ⟨(.type "tuple"), none, (.seq #[(.ref (67:Nat))] (0:Nat)), #[]⟩
noncomputable def o_172 (P : Params) : Obj := ⟨(.type "tuple"), none, (.seq #[(.str "__class__" (345:Nat))] (0:Nat)), #[]⟩
noncomputable def o_173 (P : Params) : Obj := ⟨.none, none, (.fields #[]), #[]⟩
noncomputable def o_174 (P : Params) : Obj := ⟨(.type "tuple"), none, (.seq #[(.str "self" (346:Nat))] (0:Nat)), #[]⟩
noncomputable def o_175 (P : Params) : Obj := ⟨(.type "tuple"), none, (.seq #[] (0:Nat)), #[]⟩
noncomputable def o_176 (P : Params) : Obj := ⟨.none, none, (.func ⟨"part_count", "_Accumulator.part_count", pa_8_8, .stmts bo_8_8, sc_8_8, (0:Nat), ([] : List (Str × Nat)), .none, .none, .none, .none, none, .none, .none, (0:Nat)⟩), #[]⟩
noncomputable def o_177 (P : Params) : Obj := ⟨(.type "code"), none, (.fields #[(.str "part_count" (342:Nat)), (.str "_Accumulator.part_count" (343:Nat)), (.str "/claim/cut.py" (344:Nat)), (.int 71 (0:Nat)), (.int 1 (0:Nat)), (.int 0 (0:Nat)), (.int 0 (0:Nat)), (.int 3 (0:Nat)), (.ref (134:Nat)), (.bool true), (.int 181 (0:Nat)), (.ref (135:Nat)), .none, (.ref (136:Nat)), (.ref (137:Nat)), (.ref (138:Nat)), (.int 347 (0:Nat)), (.int 71 (0:Nat)), (.str "/claim/cut.py" (348:Nat))]), #[]⟩
noncomputable def o_178 (P : Params) : Obj := ⟨(.type "function"), none, (.func ⟨"part_count", "_Accumulator.part_count", pa_8_8, .stmts bo_8_8, sc_8_8, (3:Nat), ([("__class__", (67:Nat))] : List (Str × Nat)), .none, .none, .none, (.str "cpy313.email.header" (258:Nat)), none, (.ref (139:Nat)), (.ref (133:Nat)), (0:Nat)⟩), #[]⟩
noncomputable def o_179 (P : Params) : Obj := ⟨(.type "tuple"), none, (.seq #[(.str "_initial_size" (350:Nat))] (0:Nat)), #[]⟩
noncomputable def o_180 (P : Params) : Obj := ⟨(.type "dict"), none, (.dict #[(E P "__module__" (271:Nat) (.str "cpy313.email.header" (258:Nat))), (E P "__firstlineno__" (275:Nat) (.int 40 (274:Nat))), (E P "__init__" (285:Nat) (.ref (80:Nat))), (E P "push" (294:Nat) (.ref (87:Nat))), (E P "pop_from" (304:Nat) (.ref (95:Nat))), (E P "pop" (312:Nat) (.ref (103:Nat))), (E P "__len__" (319:Nat) (.ref (110:Nat))), (E P "__str__" (326:Nat) (.ref (117:Nat))), (E P "reset" (334:Nat) (.ref (125:Nat))), (E P "is_onlyws" (341:Nat) (.ref (132:Nat))), (E P "part_count" (349:Nat) (.ref (140:Nat))), (E P "__static_attributes__" (351:Nat) (.ref (141:Nat))), (E P "__dict__" (354:Nat) (.ref (144:Nat))), (E P "__weakref__" (356:Nat) (.ref (145:Nat))), (E P "__doc__" (357:Nat) .none)] (5:Nat)), #[]⟩
noncomputable def o_181 (P : Params) : Obj := ⟨(.type "type"), none, (.cls ⟨"_Accumulator", [(.type "list")], [(.ref (143:Nat)), (.type "list"), (.type "object")], (142:Nat), "_Accumulator", true, [], [], false, none, false⟩), #[(some (.ref (64:Nat))), none, (some (.str "_Accumulator" (264:Nat))), (some (.str "_Accumulator" (272:Nat))), (some (.builtin "list.__new__")), (some (.bool true))]⟩
noncomputable def o_182 (P : Params) : Obj := ⟨(.type "getset_descriptor"), none, (.fields #[(.str "__dict__" (353:Nat)), (.ref (143:Nat)), (.builtin "function.__dict__"), (.builtin "function.__dict__#set")]), #[]⟩
noncomputable def o_183 (P : Params) : Obj := ⟨(.type "getset_descriptor"), none, (.fields #[(.str "__weakref__" (355:Nat)), (.ref (143:Nat)), (.builtin "ExceptionGroup.__weakref__"), .none]), #[]⟩
noncomputable def o_184 (P : Params) : Obj := ⟨(.type "super"), none, (.fields #[(.ref (143:Nat)), (.ref (143:Nat)), (.ref (143:Nat))]), #[]⟩
noncomputable def o_185 (P : Params) : Obj := ⟨(.type "builtin_function_or_method"), none, (.fields #[(.builtin "object.__init_subclass__"), (.ref (143:Nat))]), #[]⟩
noncomputable def o_186 (P : Params) : Obj := ⟨.none, none, (.dict #[(E P "type.__subclasses__.Exception.0" (424:Nat) (.int 192 (0:Nat))), (E P "type.__subclasses__.Exception.n" (425:Nat) (.int 1 (0:Nat)))] (2:Nat)), #[]⟩
noncomputable def o_187 (P : Params) : Obj := ⟨(.type "dict"), none, (.dict #[(E P "__name__" (165:Nat) (.str "cpy313.tabnanny" (372:Nat))), (E P "__doc__" (166:Nat) .none), (E P "__package__" (167:Nat) .none), (E P "__loader__" (168:Nat) (.builtin "__main__.__loader__#opaque")), (E P "__spec__" (169:Nat) .none), (E P "__annotations__" (170:Nat) (.ref (6:Nat))), (E P "__builtins__" (171:Nat) (.ref (4:Nat))), (E P "__file__" (173:Nat) (.str "/claim/cut.py" (172:Nat))), (E P "__cached__" (174:Nat) .none), (E P "_wall" (193:Nat) (.ref (21:Nat))), (E P "TupleComp" (237:Nat) (.ref (45:Nat))), (E P "add_callers" (248:Nat) (.ref (56:Nat))), (E P "count_calls" (257:Nat) (.ref (63:Nat))), (E P "SPACE" (261:Nat) (.str " " (260:Nat))), (E P "EMPTYSTRING" (263:Nat) (.str "" (262:Nat))), (E P "_Accumulator" (359:Nat) (.ref (143:Nat))), (E P "_strip_padding" (371:Nat) (.ref (154:Nat))), (E P "NannyNag" (427:Nat) (.ref (192:Nat)))] (18:Nat)), #[]⟩
noncomputable def o_188 (P : Params) : Obj := ⟨.none, none, (.fields #[(.int 1 (0:Nat)), (.int 0 (0:Nat)), (.ref (20:Nat)), (.int 5 (0:Nat)), (.int 0 (0:Nat)), (.ref (27:Nat)), (.int 19 (0:Nat)), (.int 0 (0:Nat)), (.ref (55:Nat)), (.int 32 (0:Nat)), (.int 0 (0:Nat)), (.ref (62:Nat)), (.int 40 (0:Nat)), (.int 0 (0:Nat)), (.ref (70:Nat)), (.int 74 (0:Nat)), (.int 0 (0:Nat)), (.ref (153:Nat)), (.int 85 (0:Nat)), (.int 0 (0:Nat)), (.ref (160:Nat))]), #[]⟩
noncomputable def o_189 (P : Params) : Obj := ⟨(.type "tuple"), none, (.seq #[] (0:Nat)), #[]⟩
noncomputable def o_190 (P : Params) : Obj := ⟨.none, none, (.fields #[]), #[]⟩
noncomputable def o_191 (P : Params) : Obj := ⟨(.type "tuple"), none, (.seq #[(.str "s" (365:Nat)), (.str "amount" (366:Nat)), (.str "lpos" (367:Nat)), (.str "rpos" (368:Nat))] (0:Nat)), #[]⟩
noncomputable def o_192 (P : Params) : Obj := ⟨(.type "tuple"), none, (.seq #[] (0:Nat)), #[]⟩
noncomputable def o_193 (P : Params) : Obj := ⟨.none, none, (.func ⟨"_strip_padding", "_strip_padding", pa_10, .stmts bo_10, sc_10, (0:Nat), ([] : List (Str × Nat)), .none, .none, .none, .none, none, .none, .none, (0:Nat)⟩), #[]⟩
noncomputable def o_194 (P : Params) : Obj := ⟨(.type "code"), none, (.fields #[(.str "_strip_padding" (362:Nat)), (.str "_strip_padding" (363:Nat)), (.str "/claim/cut.py" (364:Nat)), (.int 74 (0:Nat)), (.int 2 (0:Nat)), (.int 0 (0:Nat)), (.int 0 (0:Nat)), (.int 3 (0:Nat)), (.ref (148:Nat)), (.bool true), (.int 181 (0:Nat)), (.ref (149:Nat)), .none, (.ref (150:Nat)), (.ref (151:Nat)), (.ref (152:Nat)), (.int 369 (0:Nat)), (.int 74 (0:Nat)), (.str "/claim/cut.py" (370:Nat))]), #[]⟩
noncomputable def o_195 (P : Params) : Obj := ⟨(.type "function"), none, (.func ⟨"_strip_padding", "_strip_padding", pa_10, .stmts bo_10, sc_10, (3:Nat), ([] : List (Str × Nat)), .none, .none, .none, (.str "cpy313.locale" (360:Nat)), none, (.ref (153:Nat)), .none, (0:Nat)⟩), #[]⟩
noncomputable def o_196 (P : Params) : Obj := ⟨(.type "tuple"), none, (.seq #[(.type "Exception")] (0:Nat)), #[]⟩
noncomputable def o_197 (P : Params) : Obj := ⟨(.type "builtin_function_or_method"), none, (.fields #[(.builtin "type.__prepare__"), (.type "type")]), #[]⟩
noncomputable def o_198 (P : Params) : Obj := ⟨(.type "dict"), none, (.dict #[(E P "__module__" (381:Nat) (.str "cpy313.tabnanny" (372:Nat))), (E P "__qualname__" (383:Nat) (.str "NannyNag" (382:Nat))), (E P "__firstlineno__" (385:Nat) (.int 85 (384:Nat))), (E P "__init__" (395:Nat) (.ref (168:Nat))), (E P "get_lineno" (402:Nat) (.ref (175:Nat))), (E P "get_msg" (409:Nat) (.ref (182:Nat))), (E P "get_line" (416:Nat) (.ref (189:Nat))), (E P "__static_attributes__" (420:Nat) (.ref (190:Nat)))] (8:Nat)), #[]⟩
noncomputable def o_199 (P : Params) : Obj := ⟨(.type "tuple"), none, (.seq #[] (0:Nat)), #[]⟩
noncomputable def o_200 (P : Params) : Obj := ⟨.none, none, (.fields #[(.int 87 (0:Nat)), (.int 4 (0:Nat)), (.ref (167:Nat)), (.int 90 (0:Nat)), (.int 4 (0:Nat)), (.ref (174:Nat)), (.int 93 (0:Nat)), (.int 4 (0:Nat)), (.ref (181:Nat)), (.int 96 (0:Nat)), (.int 4 (0:Nat)), (.ref (188:Nat))]), #[]⟩
noncomputable def o_201 (P : Params) : Obj := ⟨(.type "code"), none, (.fields #[(.str "NannyNag" (376:Nat)), (.str "NannyNag" (377:Nat)), (.str "/claim/cut.py" (378:Nat)), (.int 85 (0:Nat)), (.int 0 (0:Nat)), (.int 0 (0:Nat)), (.int 0 (0:Nat)), (.int 0 (0:Nat)), (.ref (158:Nat)), (.bool false), (.int 181 (0:Nat)), (.ref (159:Nat)), .none, .none, .none, .none, (.int 379 (0:Nat)), (.int 85 (0:Nat)), (.str "/claim/cut.py" (380:Nat))]), #[]⟩
noncomputable def o_202 (P : Params) : Obj := ⟨(.type "frame"), none, .plain, #[(some (.ref (160:Nat))), (some (.ref (3:Nat))), (some (.ref (157:Nat))), none, (some (.str "cpy313.tabnanny" (372:Nat))), none, (some (.ref (0:Nat)))]⟩
noncomputable def o_203 (P : Params) : Obj := ⟨(.type "tuple"), none, (.seq #[] (0:Nat)), #[]⟩
noncomputable def o_204 (P : Params) : Obj := ⟨.none, none, (.fields #[]), #[]⟩
noncomputable def o_205 (P : Params) : Obj := ⟨(.type "tuple"), none, (.seq #[(.str "self" (389:Nat)), (.str "lineno" (390:Nat)), (.str "msg" (391:Nat)), (.str "line" (392:Nat))] (0:Nat)), #[]⟩
noncomputable def o_206 (P : Params) : Obj := ⟨(.type "tuple"), none, (.seq #[] (0:Nat)), #[]⟩
noncomputable def o_207 (P : Params) : Obj := ⟨.none, none, (.func ⟨"__init__", "NannyNag.__init__", pa_12_0, .stmts bo_12_0, sc_12_0, (0:Nat), ([] : List (Str × Nat)), .none, .none, .none, .none, none, .none, .none, (0:Nat)⟩), #[]⟩
noncomputable def o_208 (P : Params) : Obj := ⟨(.type "code"), none, (.fields #[(.str "__init__" (386:Nat)), (.str "NannyNag.__init__" (387:Nat)), (.str "/claim/cut.py" (388:Nat)), (.int 87 (0:Nat)), (.int 4 (0:Nat)), (.int 0 (0:Nat)), (.int 0 (0:Nat)), (.int 3 (0:Nat)), (.ref (162:Nat)), (.bool true), (.int 181 (0:Nat)), (.ref (163:Nat)), .none, (.ref (164:Nat)), (.ref (165:Nat)), (.ref (166:Nat)), (.int 393 (0:Nat)), (.int 87 (0:Nat)), (.str "/claim/cut.py" (394:Nat))]), #[]⟩
noncomputable def o_209 (P : Params) : Obj := ⟨(.type "function"), none, (.func ⟨"__init__", "NannyNag.__init__", pa_12_0, .stmts bo_12_0, sc_12_0, (3:Nat), ([] : List (Str × Nat)), .none, .none, .none, (.str "cpy313.tabnanny" (372:Nat)), none, (.ref (167:Nat)), .none, (0:Nat)⟩), #[]⟩
noncomputable def o_210 (P : Params) : Obj := ⟨(.type "tuple"), none, (.seq #[] (0:Nat)), #[]⟩
noncomputable def o_211 (P : Params) : Obj := ⟨.none, none, (.fields #[]), #[]⟩
noncomputable def o_212 (P : Params) : Obj := ⟨(.type "tuple"), none, (.seq #[(.str "self" (399:Nat))] (0:Nat)), #[]⟩
noncomputable def o_213 (P : Params) : Obj := ⟨(.type "tuple"), none, (.seq #[] (0:Nat)), #[]⟩
noncomputable def o_214 (P : Params) : Obj := ⟨.none, none, (.func ⟨"get_lineno", "NannyNag.get_lineno", pa_12_1, .stmts bo_12_1, sc_12_1, (0:Nat), ([] : List (Str × Nat)), .none, .none, .none, .none, none, .none, .none, (0:Nat)⟩), #[]⟩
noncomputable def o_215 (P : Params) : Obj := ⟨(.type "code"), none, (.fields #[(.str "get_lineno" (396:Nat)), (.str "NannyNag.get_lineno" (397:Nat)), (.str "/claim/cut.py" (398:Nat)), (.int 90 (0:Nat)), (.int 1 (0:Nat)), (.int 0 (0:Nat)), (.int 0 (0:Nat)), (.int 3 (0:Nat)), (.ref (169:Nat)), (.bool true), (.int 181 (0:Nat)), (.ref (170:Nat)), .none, (.ref (171:Nat)), (.ref (172:Nat)), (.ref (173:Nat)), (.int 400 (0:Nat)), (.int 90 (0:Nat)), (.str "/claim/cut.py" (401:Nat))]), #[]⟩
noncomputable def o_216 (P : Params) : Obj := ⟨(.type "function"), none, (.func ⟨"get_lineno", "NannyNag.get_lineno", pa_12_1, .stmts bo_12_1, sc_12_1, (3:Nat), ([] : List (Str × Nat)), .none, .none, .none, (.str "cpy313.tabnanny" (372:Nat)), none, (.ref (174:Nat)), .none, (0:Nat)⟩), #[]⟩
noncomputable def o_217 (P : Params) : Obj := ⟨(.type "tuple"), none, (.seq #[] (0:Nat)), #[]⟩
noncomputable def o_218 (P : Params) : Obj := ⟨.none, none, (.fields #[]), #[]⟩
noncomputable def o_219 (P : Params) : Obj := ⟨(.type "tuple"), none, (.seq #[(.str "self" (406:Nat))] (0:Nat)), #[]⟩
noncomputable def o_220 (P : Params) : Obj := ⟨(.type "tuple"), none, (.seq #[] (0:Nat)), #[]⟩
noncomputable def o_221 (P : Params) : Obj := ⟨.none, none, (.func ⟨"get_msg", "NannyNag.get_msg", pa_12_2, .stmts bo_12_2, sc_12_2, (0:Nat), ([] : List (Str × Nat)), .none, .none, .none, .none, none, .none, .none, (0:Nat)⟩), #[]⟩
noncomputable def o_222 (P : Params) : Obj := ⟨(.type "code"), none, (.fields #[(.str "get_msg" (403:Nat)), (.str "NannyNag.get_msg" (404:Nat)), (.str "/claim/cut.py" (405:Nat)), (.int 93 (0:Nat)), (.int 1 (0:Nat)), (.int 0 (0:Nat)), (.int 0 (0:Nat)), (.int 3 (0:Nat)), (.ref (176:Nat)), (.bool true), (.int 181 (0:Nat)), (.ref (177:Nat)), .none, (.ref (178:Nat)), (.ref (179:Nat)), (.ref (180:Nat)), (.int 407 (0:Nat)), (.int 93 (0:Nat)), (.str "/claim/cut.py" (408:Nat))]), #[]⟩
noncomputable def o_223 (P : Params) : Obj := ⟨(.type "function"), none, (.func ⟨"get_msg", "NannyNag.get_msg", pa_12_2, .stmts bo_12_2, sc_12_2, (3:Nat), ([] : List (Str × Nat)), .none, .none, .none, (.str "cpy313.tabnanny" (372:Nat)), none, (.ref (181:Nat)), .none, (0:Nat)⟩), #[]⟩
noncomputable def o_224 (P : Params) : Obj := ⟨(.type "tuple"), none, (.seq #[] (0:Nat)), #[]⟩
noncomputable def o_225 (P : Params) : Obj := ⟨.none, none, (.fields #[]), #[]⟩
noncomputable def o_226 (P : Params) : Obj := ⟨(.type "tuple"), none, (.seq #[(.str "self" (413:Nat))] (0:Nat)), #[]⟩
noncomputable def o_227 (P : Params) : Obj := ⟨(.type "tuple"), none, (.seq #[] (0:Nat)), #[]⟩
noncomputable def o_228 (P : Params) : Obj := ⟨.none, none, (.func ⟨"get_line", "NannyNag.get_line", pa_12_3, .stmts bo_12_3, sc_12_3, (0:Nat), ([] : List (Str × Nat)), .none, .none, .none, .none, none, .none, .none, (0:Nat)⟩), #[]⟩
noncomputable def o_229 (P : Params) : Obj := ⟨(.type "code"), none, (.fields #[(.str "get_line" (410:Nat)), (.str "NannyNag.get_line" (411:Nat)), (.str "/claim/cut.py" (412:Nat)), (.int 96 (0:Nat)), (.int 1 (0:Nat)), (.int 0 (0:Nat)), (.int 0 (0:Nat)), (.int 3 (0:Nat)), (.ref (183:Nat)), (.bool true), (.int 181 (0:Nat)), (.ref (184:Nat)), .none, (.ref (185:Nat)), (.ref (186:Nat)), (.ref (187:Nat)), (.int 414 (0:Nat)), (.int 96 (0:Nat)), (.str "/claim/cut.py" (415:Nat))]), #[]⟩
noncomputable def o_230 (P : Params) : Obj := ⟨(.type "function"), none, (.func ⟨"get_line", "NannyNag.get_line", pa_12_3, .stmts bo_12_3, sc_12_3, (3:Nat), ([] : List (Str × Nat)), .none, .none, .none, (.str "cpy313.tabnanny" (372:Nat)), none, (.ref (188:Nat)), .none, (0:Nat)⟩), #[]⟩
noncomputable def o_231 (P : Params) : Obj := ⟨(.type "tuple"), none, (.seq #[(.str "line" (417:Nat)), (.str "lineno" (418:Nat)), (.str "msg" (419:Nat))] (0:Nat)), #[]⟩
noncomputable def o_232 (P : Params) : Obj := ⟨(.type "dict"), none, (.dict #[(E P "__module__" (381:Nat) (.str "cpy313.tabnanny" (372:Nat))), (E P "__firstlineno__" (385:Nat) (.int 85 (384:Nat))), (E P "__init__" (395:Nat) (.ref (168:Nat))), (E P "get_lineno" (402:Nat) (.ref (175:Nat))), (E P "get_msg" (409:Nat) (.ref (182:Nat))), (E P "get_line" (416:Nat) (.ref (189:Nat))), (E P "__static_attributes__" (420:Nat) (.ref (190:Nat))), (E P "__weakref__" (422:Nat) (.ref (193:Nat))), (E P "__doc__" (423:Nat) .none)] (3:Nat)), #[]⟩
noncomputable def o_233 (P : Params) : Obj := ⟨(.type "type"), none, (.cls ⟨"NannyNag", [(.type "Exception")], [(.ref (192:Nat)), (.type "Exception"), (.type "BaseException"), (.type "object")], (191:Nat), "NannyNag", true, [], [], false, none, false⟩), #[(some (.ref (155:Nat))), none, (some (.str "NannyNag" (374:Nat))), (some (.str "NannyNag" (382:Nat))), (some (.builtin "Exception.__new__")), (some (.bool true))]⟩
noncomputable def o_234 (P : Params) : Obj := ⟨(.type "getset_descriptor"), none, (.fields #[(.str "__weakref__" (421:Nat)), (.ref (192:Nat)), (.builtin "ExceptionGroup.__weakref__"), .none]), #[]⟩
noncomputable def o_235 (P : Params) : Obj := ⟨(.type "super"), none, (.fields #[(.ref (192:Nat)), (.ref (192:Nat)), (.ref (192:Nat))]), #[]⟩
noncomputable def o_236 (P : Params) : Obj := ⟨(.type "builtin_function_or_method"), none, (.fields #[(.builtin "object.__init_subclass__"), (.ref (192:Nat))]), #[]⟩
noncomputable def o_237 (P : Params) : Obj := ⟨(.type "dict"), none, (.dict #[(E P "__name__" (165:Nat) (.str "cpy313.tabnanny" (372:Nat))), (E P "__doc__" (166:Nat) .none), (E P "__package__" (167:Nat) .none), (E P "__loader__" (168:Nat) (.builtin "__main__.__loader__#opaque")), (E P "__spec__" (169:Nat) .none), (E P "__annotations__" (170:Nat) (.ref (6:Nat))), (E P "__builtins__" (171:Nat) (.ref (4:Nat))), (E P "__file__" (173:Nat) (.str "/claim/cut.py" (172:Nat))), (E P "__cached__" (174:Nat) .none), (E P "_wall" (193:Nat) (.ref (21:Nat))), (E P "TupleComp" (237:Nat) (.ref (45:Nat))), (E P "add_callers" (248:Nat) (.ref (56:Nat))), (E P "count_calls" (257:Nat) (.ref (63:Nat))), (E P "SPACE" (261:Nat) (.str " " (260:Nat))), (E P "EMPTYSTRING" (263:Nat) (.str "" (262:Nat))), (E P "_Accumulator" (359:Nat) (.ref (143:Nat))), (E P "_strip_padding" (371:Nat) (.ref (154:Nat))), (E P "NannyNag" (427:Nat) (.ref (192:Nat))), (E P "Whitespace" (519:Nat) (.ref (257:Nat)))] (19:Nat)), #[]⟩
noncomputable def o_238 (P : Params) : Obj := ⟨.none, none, (.fields #[(.int 1 (0:Nat)), (.int 0 (0:Nat)), (.ref (20:Nat)), (.int 5 (0:Nat)), (.int 0 (0:Nat)), (.ref (27:Nat)), (.int 19 (0:Nat)), (.int 0 (0:Nat)), (.ref (55:Nat)), (.int 32 (0:Nat)), (.int 0 (0:Nat)), (.ref (62:Nat)), (.int 40 (0:Nat)), (.int 0 (0:Nat)), (.ref (70:Nat)), (.int 74 (0:Nat)), (.int 0 (0:Nat)), (.ref (153:Nat)), (.int 85 (0:Nat)), (.int 0 (0:Nat)), (.ref (160:Nat)), (.int 98 (0:Nat)), (.int 0 (0:Nat)), (.ref (201:Nat))]), #[]⟩
noncomputable def o_239 (P : Params) : Obj := ⟨(.type "tuple"), none, (.seq #[] (0:Nat)), #[]⟩
noncomputable def o_240 (P : Params) : Obj := ⟨(.type "builtin_function_or_method"), none, (.fields #[(.builtin "type.__prepare__"), (.type "type")]), #[]⟩
noncomputable def o_241 (P : Params) : Obj := ⟨(.type "dict"), none, (.dict #[(E P "__module__" (435:Nat) (.str "cpy313.tabnanny" (372:Nat))), (E P "__qualname__" (437:Nat) (.str "Whitespace" (436:Nat))), (E P "__firstlineno__" (439:Nat) (.int 98 (438:Nat))), (E P "S" (443:Nat) (.str " " (441:Nat))), (E P "T" (444:Nat) (.str "\t" (442:Nat))), (E P "__init__" (459:Nat) (.ref (212:Nat))), (E P "longest_run_of_spaces" (466:Nat) (.ref (219:Nat))), (E P "indent_level" (474:Nat) (.ref (226:Nat))), (E P "equal" (482:Nat) (.ref (233:Nat))), (E P "not_equal_witness" (490:Nat) (.ref (240:Nat))), (E P "less" (498:Nat) (.ref (247:Nat))), (E P "not_less_witness" (506:Nat) (.ref (254:Nat))), (E P "__static_attributes__" (512:Nat) (.ref (255:Nat)))] (13:Nat)), #[]⟩
noncomputable def o_242 (P : Params) : Obj := ⟨(.type "tuple"), none, (.seq #[] (0:Nat)), #[]⟩
noncomputable def o_243 (P : Params) : Obj := ⟨.none, none, (.fields #[(.int 101 (0:Nat)), (.int 4 (0:Nat)), (.ref (211:Nat)), (.int 124 (0:Nat)), (.int 4 (0:Nat)), (.ref (218:Nat)), (.int 127 (0:Nat)), (.int 4 (0:Nat)), (.ref (225:Nat)), (.int 130 (0:Nat)), (.int 4 (0:Nat)), (.ref (232:Nat)), (.int 133 (0:Nat)), (.int 4 (0:Nat)), (.ref (239:Nat)), (.int 136 (0:Nat)), (.int 4 (0:Nat)), (.ref (246:Nat)), (.int 139 (0:Nat)), (.int 4 (0:Nat)), (.ref (253:Nat))]), #[]⟩
noncomputable def o_244 (P : Params) : Obj := ⟨(.type "code"), none, (.fields #[(.str "Whitespace" (430:Nat)), (.str "Whitespace" (431:Nat)), (.str "/claim/cut.py" (432:Nat)), (.int 98 (0:Nat)), (.int 0 (0:Nat)), (.int 0 (0:Nat)), (.int 0 (0:Nat)), (.int 0 (0:Nat)), (.ref (199:Nat)), (.bool false), (.int 181 (0:Nat)), (.ref (200:Nat)), .none, .none, .none, .none, (.int 433 (0:Nat)), (.int 98 (0:Nat)), (.str "/claim/cut.py" (434:Nat))]), #[]⟩
noncomputable def o_245 (P : Params) : Obj := ⟨(.type "frame"), none, .plain, #[(some (.ref (201:Nat))), (some (.ref (3:Nat))), (some (.ref (198:Nat))), none, (some (.str "cpy313.tabnanny" (372:Nat))), none, (some (.ref (0:Nat)))]⟩
noncomputable def o_246 (P : Params) : Obj := ⟨(.type "str_ascii_iterator"), none, (.fields #[.none, (.int 2 (0:Nat))]), #[]⟩
noncomputable def o_247 (P : Params) : Obj := ⟨(.type "tuple"), none, (.seq #[] (0:Nat)), #[]⟩
noncomputable def o_248 (P : Params) : Obj := ⟨(.type "StopIteration"), none, (.fields #[(.ref (204:Nat)), .none, .none, .none, (.bool false), .none]), #[]⟩
noncomputable def o_249 (P : Params) : Obj := ⟨(.type "tuple"), none, (.seq #[] (0:Nat)), #[]⟩
noncomputable def o_250 (P : Params) : Obj := ⟨.none, none, (.fields #[]), #[]⟩
noncomputable def o_251 (P : Params) : Obj := ⟨(.type "tuple"), none, (.seq #[(.str "self" (448:Nat)), (.str "ws" (449:Nat)), (.str "S" (450:Nat)), (.str "T" (451:Nat)), (.str "count" (452:Nat)), (.str "b" (453:Nat)), (.str "n" (454:Nat)), (.str "nt" (455:Nat)), (.str "ch" (456:Nat))] (0:Nat)), #[]⟩
noncomputable def o_252 (P : Params) : Obj := ⟨(.type "tuple"), none, (.seq #[] (0:Nat)), #[]⟩
noncomputable def o_253 (P : Params) : Obj := ⟨.none, none, (.func ⟨"__init__", "Whitespace.__init__", pa_13_1, .stmts bo_13_1, sc_13_1, (0:Nat), ([] : List (Str × Nat)), .none, .none, .none, .none, none, .none, .none, (0:Nat)⟩), #[]⟩
noncomputable def o_254 (P : Params) : Obj := ⟨(.type "code"), none, (.fields #[(.str "__init__" (445:Nat)), (.str "Whitespace.__init__" (446:Nat)), (.str "/claim/cut.py" (447:Nat)), (.int 101 (0:Nat)), (.int 2 (0:Nat)), (.int 0 (0:Nat)), (.int 0 (0:Nat)), (.int 3 (0:Nat)), (.ref (206:Nat)), (.bool true), (.int 181 (0:Nat)), (.ref (207:Nat)), .none, (.ref (208:Nat)), (.ref (209:Nat)), (.ref (210:Nat)), (.int 457 (0:Nat)), (.int 101 (0:Nat)), (.str "/claim/cut.py" (458:Nat))]), #[]⟩
noncomputable def o_255 (P : Params) : Obj := ⟨(.type "function"), none, (.func ⟨"__init__", "Whitespace.__init__", pa_13_1, .stmts bo_13_1, sc_13_1, (3:Nat), ([] : List (Str × Nat)), .none, .none, .none, (.str "cpy313.tabnanny" (372:Nat)), none, (.ref (211:Nat)), .none, (0:Nat)⟩), #[]⟩
noncomputable def o_256 (P : Params) : Obj := ⟨(.type "tuple"), none, (.seq #[] (0:Nat)), #[]⟩
noncomputable def o_257 (P : Params) : Obj := ⟨.none, none, (.fields #[]), #[]⟩
noncomputable def o_258 (P : Params) : Obj := ⟨(.type "tuple"), none, (.seq #[(.str "self" (463:Nat))] (0:Nat)), #[]⟩
noncomputable def o_259 (P : Params) : Obj := ⟨(.type "tuple"), none, (.seq #[] (0:Nat)), #[]⟩
noncomputable def o_260 (P : Params) : Obj := ⟨.none, none, (.func ⟨"longest_run_of_spaces", "Whitespace.longest_run_of_spaces", pa_13_2, .stmts bo_13_2, sc_13_2, (0:Nat), ([] : List (Str × Nat)), .none, .none, .none, .none, none, .none, .none, (0:Nat)⟩), #[]⟩
noncomputable def o_261 (P : Params) : Obj := ⟨(.type "code"), none, (.fields #[(.str "longest_run_of_spaces" (460:Nat)), (.str "Whitespace.longest_run_of_spaces" (461:Nat)), (.str "/claim/cut.py" (462:Nat)), (.int 124 (0:Nat)), (.int 1 (0:Nat)), (.int 0 (0:Nat)), (.int 0 (0:Nat)), (.int 3 (0:Nat)), (.ref (213:Nat)), (.bool true), (.int 181 (0:Nat)), (.ref (214:Nat)), .none, (.ref (215:Nat)), (.ref (216:Nat)), (.ref (217:Nat)), (.int 464 (0:Nat)), (.int 124 (0:Nat)), (.str "/claim/cut.py" (465:Nat))]), #[]⟩
noncomputable def o_262 (P : Params) : Obj := ⟨(.type "function"), none, (.func ⟨"longest_run_of_spaces", "Whitespace.longest_run_of_spaces", pa_13_2, .stmts bo_13_2, sc_13_2, (3:Nat), ([] : List (Str × Nat)), .none, .none, .none, (.str "cpy313.tabnanny" (372:Nat)), none, (.ref (218:Nat)), .none, (0:Nat)⟩), #[]⟩
noncomputable def o_263 (P : Params) : Obj := ⟨(.type "tuple"), none, (.seq #[] (0:Nat)), #[]⟩
noncomputable def o_264 (P : Params) : Obj := ⟨.none, none, (.fields #[]), #[]⟩
noncomputable def o_265 (P : Params) : Obj := ⟨(.type "tuple"), none, (.seq #[(.str "self" (470:Nat)), (.str "tabsize" (471:Nat))] (0:Nat)), #[]⟩
noncomputable def o_266 (P : Params) : Obj := ⟨(.type "tuple"), none, (.seq #[] (0:Nat)), #[]⟩
noncomputable def o_267 (P : Params) : Obj := ⟨.none, none, (.func ⟨"indent_level", "Whitespace.indent_level", pa_13_3, .stmts bo_13_3, sc_13_3, (0:Nat), ([] : List (Str × Nat)), .none, .none, .none, .none, none, .none, .none, (0:Nat)⟩), #[]⟩
noncomputable def o_268 (P : Params) : Obj := ⟨(.type "code"), none, (.fields #[(.str "indent_level" (467:Nat)), (.str "Whitespace.indent_level" (468:Nat)), (.str "/claim/cut.py" (469:Nat)), (.int 127 (0:Nat)), (.int 2 (0:Nat)), (.int 0 (0:Nat)), (.int 0 (0:Nat)), (.int 3 (0:Nat)), (.ref (220:Nat)), (.bool true), (.int 181 (0:Nat)), (.ref (221:Nat)), .none, (.ref (222:Nat)), (.ref (223:Nat)), (.ref (224:Nat)), (.int 472 (0:Nat)), (.int 127 (0:Nat)), (.str "/claim/cut.py" (473:Nat))]), #[]⟩
noncomputable def o_269 (P : Params) : Obj := ⟨(.type "function"), none, (.func ⟨"indent_level", "Whitespace.indent_level", pa_13_3, .stmts bo_13_3, sc_13_3, (3:Nat), ([] : List (Str × Nat)), .none, .none, .none, (.str "cpy313.tabnanny" (372:Nat)), none, (.ref (225:Nat)), .none, (0:Nat)⟩), #[]⟩
noncomputable def o_270 (P : Params) : Obj := ⟨(.type "tuple"), none, (.seq #[] (0:Nat)), #[]⟩
noncomputable def o_271 (P : Params) : Obj := ⟨.none, none, (.fields #[]), #[]⟩
noncomputable def o_272 (P : Params) : Obj := ⟨(.type "tuple"), none, (.seq #[(.str "self" (478:Nat)), (.str "other" (479:Nat))] (0:Nat)), #[]⟩
noncomputable def o_273 (P : Params) : Obj := ⟨(.type "tuple"), none, (.seq #[] (0:Nat)), #[]⟩
noncomputable def o_274 (P : Params) : Obj := ⟨.none, none, (.func ⟨"equal", "Whitespace.equal", pa_13_4, .stmts bo_13_4, sc_13_4, (0:Nat), ([] : List (Str × Nat)), .none, .none, .none, .none, none, .none, .none, (0:Nat)⟩), #[]⟩
noncomputable def o_275 (P : Params) : Obj := ⟨(.type "code"), none, (.fields #[(.str "equal" (475:Nat)), (.str "Whitespace.equal" (476:Nat)), (.str "/claim/cut.py" (477:Nat)), (.int 130 (0:Nat)), (.int 2 (0:Nat)), (.int 0 (0:Nat)), (.int 0 (0:Nat)), (.int 3 (0:Nat)), (.ref (227:Nat)), (.bool true), (.int 181 (0:Nat)), (.ref (228:Nat)), .none, (.ref (229:Nat)), (.ref (230:Nat)), (.ref (231:Nat)), (.int 480 (0:Nat)), (.int 130 (0:Nat)), (.str "/claim/cut.py" (481:Nat))]), #[]⟩
noncomputable def o_276 (P : Params) : Obj := ⟨(.type "function"), none, (.func ⟨"equal", "Whitespace.equal", pa_13_4, .stmts bo_13_4, sc_13_4, (3:Nat), ([] : List (Str × Nat)), .none, .none, .none, (.str "cpy313.tabnanny" (372:Nat)), none, (.ref (232:Nat)), .none, (0:Nat)⟩), #[]⟩
noncomputable def o_277 (P : Params) : Obj := ⟨(.type "tuple"), none, (.seq #[] (0:Nat)), #[]⟩
noncomputable def o_278 (P : Params) : Obj := ⟨.none, none, (.fields #[]), #[]⟩
noncomputable def o_279 (P : Params) : Obj := ⟨(.type "tuple"), none, (.seq #[(.str "self" (486:Nat)), (.str "other" (487:Nat))] (0:Nat)), #[]⟩
noncomputable def o_280 (P : Params) : Obj := ⟨(.type "tuple"), none, (.seq #[] (0:Nat)), #[]⟩
noncomputable def o_281 (P : Params) : Obj := ⟨.none, none, (.func ⟨"not_equal_witness", "Whitespace.not_equal_witness", pa_13_5, .stmts bo_13_5, sc_13_5, (0:Nat), ([] : List (Str × Nat)), .none, .none, .none, .none, none, .none, .none, (0:Nat)⟩), #[]⟩
noncomputable def o_282 (P : Params) : Obj := ⟨(.type "code"), none, (.fields #[(.str "not_equal_witness" (483:Nat)), (.str "Whitespace.not_equal_witness" (484:Nat)), (.str "/claim/cut.py" (485:Nat)), (.int 133 (0:Nat)), (.int 2 (0:Nat)), (.int 0 (0:Nat)), (.int 0 (0:Nat)), (.int 3 (0:Nat)), (.ref (234:Nat)), (.bool true), (.int 181 (0:Nat)), (.ref (235:Nat)), .none, (.ref (236:Nat)), (.ref (237:Nat)), (.ref (238:Nat)), (.int 488 (0:Nat)), (.int 133 (0:Nat)), (.str "/claim/cut.py" (489:Nat))]), #[]⟩
noncomputable def o_283 (P : Params) : Obj := ⟨(.type "function"), none, (.func ⟨"not_equal_witness", "Whitespace.not_equal_witness", pa_13_5, .stmts bo_13_5, sc_13_5, (3:Nat), ([] : List (Str × Nat)), .none, .none, .none, (.str "cpy313.tabnanny" (372:Nat)), none, (.ref (239:Nat)), .none, (0:Nat)⟩), #[]⟩
noncomputable def o_284 (P : Params) : Obj := ⟨(.type "tuple"), none, (.seq #[] (0:Nat)), #[]⟩
noncomputable def o_285 (P : Params) : Obj := ⟨.none, none, (.fields #[]), #[]⟩
noncomputable def o_286 (P : Params) : Obj := ⟨(.type "tuple"), none, (.seq #[(.str "self" (494:Nat)), (.str "other" (495:Nat))] (0:Nat)), #[]⟩
noncomputable def o_287 (P : Params) : Obj := ⟨(.type "tuple"), none, (.seq #[] (0:Nat)), #[]⟩
noncomputable def o_288 (P : Params) : Obj := ⟨.none, none, (.func ⟨"less", "Whitespace.less", pa_13_6, .stmts bo_13_6, sc_13_6, (0:Nat), ([] : List (Str × Nat)), .none, .none, .none, .none, none, .none, .none, (0:Nat)⟩), #[]⟩
noncomputable def o_289 (P : Params) : Obj := ⟨(.type "code"), none, (.fields #[(.str "less" (491:Nat)), (.str "Whitespace.less" (492:Nat)), (.str "/claim/cut.py" (493:Nat)), (.int 136 (0:Nat)), (.int 2 (0:Nat)), (.int 0 (0:Nat)), (.int 0 (0:Nat)), (.int 3 (0:Nat)), (.ref (241:Nat)), (.bool true), (.int 181 (0:Nat)), (.ref (242:Nat)), .none, (.ref (243:Nat)), (.ref (244:Nat)), (.ref (245:Nat)), (.int 496 (0:Nat)), (.int 136 (0:Nat)), (.str "/claim/cut.py" (497:Nat))]), #[]⟩
noncomputable def o_290 (P : Params) : Obj := ⟨(.type "function"), none, (.func ⟨"less", "Whitespace.less", pa_13_6, .stmts bo_13_6, sc_13_6, (3:Nat), ([] : List (Str × Nat)), .none, .none, .none, (.str "cpy313.tabnanny" (372:Nat)), none, (.ref (246:Nat)), .none, (0:Nat)⟩), #[]⟩
noncomputable def o_291 (P : Params) : Obj := ⟨(.type "tuple"), none, (.seq #[] (0:Nat)), #[]⟩
noncomputable def o_292 (P : Params) : Obj := ⟨.none, none, (.fields #[]), #[]⟩
noncomputable def o_293 (P : Params) : Obj := ⟨(.type "tuple"), none, (.seq #[(.str "self" (502:Nat)), (.str "other" (503:Nat))] (0:Nat)), #[]⟩
noncomputable def o_294 (P : Params) : Obj := ⟨(.type "tuple"), none, (.seq #[] (0:Nat)), #[]⟩
noncomputable def o_295 (P : Params) : Obj := ⟨.none, none, (.func ⟨"not_less_witness", "Whitespace.not_less_witness", pa_13_7, .stmts bo_13_7, sc_13_7, (0:Nat), ([] : List (Str × Nat)), .none, .none, .none, .none, none, .none, .none, (0:Nat)⟩), #[]⟩
noncomputable def o_296 (P : Params) : Obj := ⟨(.type "code"), none, (.fields #[(.str "not_less_witness" (499:Nat)), (.str "Whitespace.not_less_witness" (500:Nat)), (.str "/claim/cut.py" (501:Nat)), (.int 139 (0:Nat)), (.int 2 (0:Nat)), (.int 0 (0:Nat)), (.int 0 (0:Nat)), (.int 3 (0:Nat)), (.ref (248:Nat)), (.bool true), (.int 181 (0:Nat)), (.ref (249:Nat)), .none, (.ref (250:Nat)), (.ref (251:Nat)), (.ref (252:Nat)), (.int 504 (0:Nat)), (.int 139 (0:Nat)), (.str "/claim/cut.py" (505:Nat))]), #[]⟩
noncomputable def o_297 (P : Params) : Obj := ⟨(.type "function"), none, (.func ⟨"not_less_witness", "Whitespace.not_less_witness", pa_13_7, .stmts bo_13_7, sc_13_7, (3:Nat), ([] : List (Str × Nat)), .none, .none, .none, (.str "cpy313.tabnanny" (372:Nat)), none, (.ref (253:Nat)), .none, (0:Nat)⟩), #[]⟩
noncomputable def o_298 (P : Params) : Obj := ⟨(.type "tuple"), none, (.seq #[(.str "is_simple" (507:Nat)), (.str "n" (508:Nat)), (.str "norm" (509:Nat)), (.str "nt" (510:Nat)), (.str "raw" (511:Nat))] (0:Nat)), #[]⟩
noncomputable def o_299 (P : Params) : Obj := ⟨(.type "dict"), none, (.dict #[(E P "__module__" (435:Nat) (.str "cpy313.tabnanny" (372:Nat))), (E P "__firstlineno__" (439:Nat) (.int 98 (438:Nat))), (E P "S" (443:Nat) (.str " " (441:Nat))), (E P "T" (444:Nat) (.str "\t" (442:Nat))), (E P "__init__" (459:Nat) (.ref (212:Nat))), (E P "longest_run_of_spaces" (466:Nat) (.ref (219:Nat))), (E P "indent_level" (474:Nat) (.ref (226:Nat))), (E P "equal" (482:Nat) (.ref (233:Nat))), (E P "not_equal_witness" (490:Nat) (.ref (240:Nat))), (E P "less" (498:Nat) (.ref (247:Nat))), (E P "not_less_witness" (506:Nat) (.ref (254:Nat))), (E P "__static_attributes__" (512:Nat) (.ref (255:Nat))), (E P "__dict__" (514:Nat) (.ref (258:Nat))), (E P "__weakref__" (516:Nat) (.ref (259:Nat))), (E P "__doc__" (517:Nat) .none)] (4:Nat)), #[]⟩
noncomputable def o_300 (P : Params) : Obj := ⟨(.type "type"), none, (.cls ⟨"Whitespace", [(.type "object")], [(.ref (257:Nat)), (.type "object")], (256:Nat), "Whitespace", true, [], [], false, none, false⟩), #[none, none, (some (.str "Whitespace" (428:Nat))), (some (.str "Whitespace" (436:Nat))), (some (.builtin "object.__new__")), (some (.bool true))]⟩
noncomputable def o_301 (P : Params) : Obj := ⟨(.type "getset_descriptor"), none, (.fields #[(.str "__dict__" (513:Nat)), (.ref (257:Nat)), (.builtin "function.__dict__"), (.builtin "function.__dict__#set")]), #[]⟩
noncomputable def o_302 (P : Params) : Obj := ⟨(.type "getset_descriptor"), none, (.fields #[(.str "__weakref__" (515:Nat)), (.ref (257:Nat)), (.builtin "ExceptionGroup.__weakref__"), .none]), #[]⟩
noncomputable def o_303 (P : Params) : Obj := ⟨(.type "super"), none, (.fields #[(.ref (257:Nat)), (.ref (257:Nat)), (.ref (257:Nat))]), #[]⟩
noncomputable def o_304 (P : Params) : Obj := ⟨(.type "builtin_function_or_method"), none, (.fields #[(.builtin "object.__init_subclass__"), (.ref (257:Nat))]), #[]⟩
noncomputable def o_307 (P : Params) : Obj := ⟨(.type "dict"), none, (.dict #[(E P "__name__" (165:Nat) (.str "law_xg0075_01" (520:Nat))), (E P "__doc__" (166:Nat) .none), (E P "__package__" (167:Nat) .none), (E P "__loader__" (168:Nat) (.builtin "__main__.__loader__#opaque")), (E P "__spec__" (169:Nat) .none), (E P "__annotations__" (170:Nat) (.ref (6:Nat))), (E P "__builtins__" (171:Nat) (.ref (4:Nat))), (E P "__file__" (173:Nat) (.str "/claim/cut.py" (172:Nat))), (E P "__cached__" (174:Nat) .none), (E P "_wall" (193:Nat) (.ref (21:Nat))), (E P "TupleComp" (237:Nat) (.ref (45:Nat))), (E P "add_callers" (248:Nat) (.ref (56:Nat))), (E P "count_calls" (257:Nat) (.ref (63:Nat))), (E P "SPACE" (261:Nat) (.str " " (260:Nat))), (E P "EMPTYSTRING" (263:Nat) (.str "" (262:Nat))), (E P "_Accumulator" (359:Nat) (.ref (143:Nat))), (E P "_strip_padding" (371:Nat) (.ref (154:Nat))), (E P "NannyNag" (427:Nat) (.ref (192:Nat))), (E P "Whitespace" (519:Nat) (.ref (257:Nat))), (E P "_law_wishes" (527:Nat) (.ref (266:Nat))), (E P "_law_run" (533:Nat) (.ref (271:Nat))), (E P "_law_book" (542:Nat) (.ref (278:Nat))), (E P "_law_bounds" (548:Nat) (.ref (283:Nat))), (E P "_law_right_ones" (554:Nat) (.ref (288:Nat))), (E P "law" (560:Nat) (.ref (293:Nat)))] (25:Nat)), #[]⟩
noncomputable def o_308 (P : Params) : Obj := ⟨.none, none, (.fields #[(.int 1 (0:Nat)), (.int 0 (0:Nat)), (.ref (20:Nat)), (.int 5 (0:Nat)), (.int 0 (0:Nat)), (.ref (27:Nat)), (.int 19 (0:Nat)), (.int 0 (0:Nat)), (.ref (55:Nat)), (.int 32 (0:Nat)), (.int 0 (0:Nat)), (.ref (62:Nat)), (.int 40 (0:Nat)), (.int 0 (0:Nat)), (.ref (70:Nat)), (.int 74 (0:Nat)), (.int 0 (0:Nat)), (.ref (153:Nat)), (.int 85 (0:Nat)), (.int 0 (0:Nat)), (.ref (160:Nat)), (.int 98 (0:Nat)), (.int 0 (0:Nat)), (.ref (201:Nat)), (.int 142 (0:Nat)), (.int 0 (0:Nat)), (.ref (265:Nat)), (.int 146 (0:Nat)), (.int 0 (0:Nat)), (.ref (270:Nat)), (.int 175 (0:Nat)), (.int 0 (0:Nat)), (.ref (277:Nat)), (.int 180 (0:Nat)), (.int 0 (0:Nat)), (.ref (282:Nat)), (.int 186 (0:Nat)), (.int 0 (0:Nat)), (.ref (287:Nat)), (.int 195 (0:Nat)), (.int 0 (0:Nat)), (.ref (292:Nat))]), #[]⟩
noncomputable def o_309 (P : Params) : Obj := ⟨(.type "tuple"), none, (.seq #[] (0:Nat)), #[]⟩
noncomputable def o_310 (P : Params) : Obj := ⟨.none, none, (.fields #[]), #[]⟩
noncomputable def o_311 (P : Params) : Obj := ⟨.none, none, (.func ⟨"_law_wishes", "_law_wishes", pa_15, .stmts bo_15, sc_15, (0:Nat), ([] : List (Str × Nat)), .none, .none, .none, .none, none, .none, .none, (0:Nat)⟩), #[]⟩
noncomputable def o_312 (P : Params) : Obj := ⟨(.type "code"), none, (.fields #[(.str "_law_wishes" (522:Nat)), (.str "_law_wishes" (523:Nat)), (.str "/claim/cut.py" (524:Nat)), (.int 142 (0:Nat)), (.int 1 (0:Nat)), (.int 0 (0:Nat)), (.int 0 (0:Nat)), (.int 3 (0:Nat)), (.ref (262:Nat)), (.bool true), (.int 181 (0:Nat)), (.ref (263:Nat)), .none, .none, .none, (.ref (264:Nat)), (.int 525 (0:Nat)), (.int 142 (0:Nat)), (.str "/claim/cut.py" (526:Nat))]), #[]⟩
noncomputable def o_313 (P : Params) : Obj := ⟨(.type "function"), none, (.func ⟨"_law_wishes", "_law_wishes", pa_15, .stmts bo_15, sc_15, (3:Nat), ([] : List (Str × Nat)), .none, .none, .none, (.str "law_xg0075_01" (520:Nat)), none, (.ref (265:Nat)), .none, (0:Nat)⟩), #[]⟩
noncomputable def o_314 (P : Params) : Obj := ⟨(.type "tuple"), none, (.seq #[] (0:Nat)), #[]⟩
noncomputable def o_315 (P : Params) : Obj := ⟨.none, none, (.fields #[]), #[]⟩
noncomputable def o_316 (P : Params) : Obj := ⟨.none, none, (.func ⟨"_law_run", "_law_run", pa_16, .stmts bo_16, sc_16, (0:Nat), ([] : List (Str × Nat)), .none, .none, .none, .none, none, .none, .none, (0:Nat)⟩), #[]⟩
noncomputable def o_317 (P : Params) : Obj := ⟨(.type "code"), none, (.fields #[(.str "_law_run" (528:Nat)), (.str "_law_run" (529:Nat)), (.str "/claim/cut.py" (530:Nat)), (.int 146 (0:Nat)), (.int 3 (0:Nat)), (.int 0 (0:Nat)), (.int 0 (0:Nat)), (.int 3 (0:Nat)), (.ref (267:Nat)), (.bool true), (.int 181 (0:Nat)), (.ref (268:Nat)), .none, .none, .none, (.ref (269:Nat)), (.int 531 (0:Nat)), (.int 146 (0:Nat)), (.str "/claim/cut.py" (532:Nat))]), #[]⟩
noncomputable def o_318 (P : Params) : Obj := ⟨(.type "function"), none, (.func ⟨"_law_run", "_law_run", pa_16, .stmts bo_16, sc_16, (3:Nat), ([] : List (Str × Nat)), .none, .none, .none, (.str "law_xg0075_01" (520:Nat)), none, (.ref (270:Nat)), .none, (0:Nat)⟩), #[]⟩
noncomputable def o_319 (P : Params) : Obj := ⟨(.type "tuple"), none, (.seq #[] (0:Nat)), #[]⟩
noncomputable def o_320 (P : Params) : Obj := ⟨.none, none, (.fields #[]), #[]⟩
noncomputable def o_321 (P : Params) : Obj := ⟨(.type "tuple"), none, (.seq #[(.str "wishes" (537:Nat)), (.str "place" (538:Nat)), (.str "side" (539:Nat))] (0:Nat)), #[]⟩
noncomputable def o_322 (P : Params) : Obj := ⟨(.type "tuple"), none, (.seq #[] (0:Nat)), #[]⟩
noncomputable def o_323 (P : Params) : Obj := ⟨.none, none, (.func ⟨"_law_book", "_law_book", pa_17, .stmts bo_17, sc_17, (0:Nat), ([] : List (Str × Nat)), .none, .none, .none, .none, none, .none, .none, (0:Nat)⟩), #[]⟩
noncomputable def o_324 (P : Params) : Obj := ⟨(.type "code"), none, (.fields #[(.str "_law_book" (534:Nat)), (.str "_law_book" (535:Nat)), (.str "/claim/cut.py" (536:Nat)), (.int 175 (0:Nat)), (.int 3 (0:Nat)), (.int 0 (0:Nat)), (.int 0 (0:Nat)), (.int 3 (0:Nat)), (.ref (272:Nat)), (.bool true), (.int 181 (0:Nat)), (.ref (273:Nat)), .none, (.ref (274:Nat)), (.ref (275:Nat)), (.ref (276:Nat)), (.int 540 (0:Nat)), (.int 175 (0:Nat)), (.str "/claim/cut.py" (541:Nat))]), #[]⟩
noncomputable def o_325 (P : Params) : Obj := ⟨(.type "function"), none, (.func ⟨"_law_book", "_law_book", pa_17, .stmts bo_17, sc_17, (3:Nat), ([] : List (Str × Nat)), .none, .none, .none, (.str "law_xg0075_01" (520:Nat)), none, (.ref (277:Nat)), .none, (0:Nat)⟩), #[]⟩
noncomputable def o_326 (P : Params) : Obj := ⟨(.type "tuple"), none, (.seq #[] (0:Nat)), #[]⟩
noncomputable def o_327 (P : Params) : Obj := ⟨.none, none, (.fields #[]), #[]⟩
noncomputable def o_328 (P : Params) : Obj := ⟨.none, none, (.func ⟨"_law_bounds", "_law_bounds", pa_18, .stmts bo_18, sc_18, (0:Nat), ([] : List (Str × Nat)), .none, .none, .none, .none, none, .none, .none, (0:Nat)⟩), #[]⟩
noncomputable def o_329 (P : Params) : Obj := ⟨(.type "code"), none, (.fields #[(.str "_law_bounds" (543:Nat)), (.str "_law_bounds" (544:Nat)), (.str "/claim/cut.py" (545:Nat)), (.int 180 (0:Nat)), (.int 1 (0:Nat)), (.int 0 (0:Nat)), (.int 0 (0:Nat)), (.int 3 (0:Nat)), (.ref (279:Nat)), (.bool true), (.int 181 (0:Nat)), (.ref (280:Nat)), .none, .none, .none, (.ref (281:Nat)), (.int 546 (0:Nat)), (.int 180 (0:Nat)), (.str "/claim/cut.py" (547:Nat))]), #[]⟩
noncomputable def o_330 (P : Params) : Obj := ⟨(.type "function"), none, (.func ⟨"_law_bounds", "_law_bounds", pa_18, .stmts bo_18, sc_18, (3:Nat), ([] : List (Str × Nat)), .none, .none, .none, (.str "law_xg0075_01" (520:Nat)), none, (.ref (282:Nat)), .none, (0:Nat)⟩), #[]⟩
noncomputable def o_331 (P : Params) : Obj := ⟨(.type "tuple"), none, (.seq #[] (0:Nat)), #[]⟩
noncomputable def o_332 (P : Params) : Obj := ⟨.none, none, (.fields #[]), #[]⟩
noncomputable def o_333 (P : Params) : Obj := ⟨.none, none, (.func ⟨"_law_right_ones", "_law_right_ones", pa_19, .stmts bo_19, sc_19, (0:Nat), ([] : List (Str × Nat)), .none, .none, .none, .none, none, .none, .none, (0:Nat)⟩), #[]⟩
noncomputable def o_334 (P : Params) : Obj := ⟨(.type "code"), none, (.fields #[(.str "_law_right_ones" (549:Nat)), (.str "_law_right_ones" (550:Nat)), (.str "/claim/cut.py" (551:Nat)), (.int 186 (0:Nat)), (.int 2 (0:Nat)), (.int 0 (0:Nat)), (.int 0 (0:Nat)), (.int 3 (0:Nat)), (.ref (284:Nat)), (.bool true), (.int 181 (0:Nat)), (.ref (285:Nat)), .none, .none, .none, (.ref (286:Nat)), (.int 552 (0:Nat)), (.int 186 (0:Nat)), (.str "/claim/cut.py" (553:Nat))]), #[]⟩
noncomputable def o_335 (P : Params) : Obj := ⟨(.type "function"), none, (.func ⟨"_law_right_ones", "_law_right_ones", pa_19, .stmts bo_19, sc_19, (3:Nat), ([] : List (Str × Nat)), .none, .none, .none, (.str "law_xg0075_01" (520:Nat)), none, (.ref (287:Nat)), .none, (0:Nat)⟩), #[]⟩
noncomputable def o_336 (P : Params) : Obj := ⟨(.type "tuple"), none, (.seq #[] (0:Nat)), #[]⟩
noncomputable def o_337 (P : Params) : Obj := ⟨.none, none, (.fields #[]), #[]⟩
noncomputable def o_338 (P : Params) : Obj := ⟨.none, none, (.func ⟨"law", "law", pa_20, .stmts bo_20, sc_20, (0:Nat), ([] : List (Str × Nat)), .none, .none, .none, .none, none, .none, .none, (0:Nat)⟩), #[]⟩
noncomputable def o_339 (P : Params) : Obj := ⟨(.type "code"), none, (.fields #[(.str "law" (555:Nat)), (.str "law" (556:Nat)), (.str "/claim/cut.py" (557:Nat)), (.int 195 (0:Nat)), (.int 1 (0:Nat)), (.int 0 (0:Nat)), (.int 0 (0:Nat)), (.int 3 (0:Nat)), (.ref (289:Nat)), (.bool true), (.int 181 (0:Nat)), (.ref (290:Nat)), .none, .none, .none, (.ref (291:Nat)), (.int 558 (0:Nat)), (.int 195 (0:Nat)), (.str "/claim/cut.py" (559:Nat))]), #[]⟩
noncomputable def o_340 (P : Params) : Obj := ⟨(.type "function"), none, (.func ⟨"law", "law", pa_20, .stmts bo_20, sc_20, (3:Nat), ([] : List (Str × Nat)), .none, .none, .none, (.str "law_xg0075_01" (520:Nat)), none, (.ref (292:Nat)), .none, (0:Nat)⟩), #[]⟩
noncomputable def tree_47 (P : Params) : BT := (node (boot_o_0 P) (node (boot_o_1 P) (node (boot_o_3 P) (node (boot_o_7 P) nil nil) (node (o_43 P) nil nil)) (node (boot_o_5 P) (node (boot_o_9 P) nil nil) (node (o_45 P) nil nil))) (node (boot_o_2 P) (node (boot_o_4 P) (node (boot_o_8 P) nil nil) (node (o_44 P) nil nil)) (node (boot_o_6 P) (node (boot_o_10 P) nil nil) (node (o_46 P) nil nil))))
noncomputable def tree_99 (P : Params) : BT := (node (boot_o_0 P) (node (boot_o_1 P) (node (o_49 P) (node (boot_o_7 P) (node (o_51 P) (node (o_67 P) (node (o_99 P) nil nil) nil) (node (o_83 P) nil nil)) (node (o_59 P) (node (o_75 P) nil nil) (node (o_91 P) nil nil))) (node (o_43 P) (node (o_55 P) (node (o_71 P) nil nil) (node (o_87 P) nil nil)) (node (o_63 P) (node (o_79 P) nil nil) (node (o_95 P) nil nil)))) (node (boot_o_5 P) (node (boot_o_9 P) (node (o_53 P) (node (o_69 P) nil nil) (node (o_85 P) nil nil)) (node (o_61 P) (node (o_77 P) nil nil) (node (o_93 P) nil nil))) (node (o_45 P) (node (o_57 P) (node (o_73 P) nil nil) (node (o_89 P) nil nil)) (node (o_65 P) (node (o_81 P) nil nil) (node (o_97 P) nil nil))))) (node (boot_o_2 P) (node (boot_o_4 P) (node (boot_o_8 P) (node (o_52 P) (node (o_68 P) nil nil) (node (o_84 P) nil nil)) (node (o_60 P) (node (o_76 P) nil nil) (node (o_92 P) nil nil))) (node (o_50 P) (node (o_56 P) (node (o_72 P) nil nil) (node (o_88 P) nil nil)) (node (o_64 P) (node (o_80 P) nil nil) (node (o_96 P) nil nil)))) (node (boot_o_6 P) (node (boot_o_10 P) (node (o_54 P) (node (o_70 P) nil nil) (node (o_86 P) nil nil)) (node (o_62 P) (node (o_78 P) nil nil) (node (o_94 P) nil nil))) (node (o_46 P) (node (o_58 P) (node (o_74 P) nil nil) (node (o_90 P) nil nil)) (node (o_66 P) (node (o_82 P) nil nil) (node (o_98 P) nil nil))))))
noncomputable def tree_185 (P : Params) : BT := (node (boot_o_0 P) (node (boot_o_1 P) (node (o_100 P) (node (boot_o_7 P) (node (o_51 P) (node (o_67 P) (node (o_99 P) (node (o_165 P) nil nil) nil) (node (o_133 P) nil nil)) (node (o_83 P) (node (o_117 P) (node (o_181 P) nil nil) nil) (node (o_149 P) nil nil))) (node (o_59 P) (node (o_75 P) (node (o_109 P) (node (o_173 P) nil nil) nil) (node (o_141 P) nil nil)) (node (o_91 P) (node (o_125 P) nil nil) (node (o_157 P) nil nil)))) (node (o_43 P) (node (o_55 P) (node (o_71 P) (node (o_105 P) (node (o_169 P) nil nil) nil) (node (o_137 P) nil nil)) (node (o_87 P) (node (o_121 P) (node (o_185 P) nil nil) nil) (node (o_153 P) nil nil))) (node (o_63 P) (node (o_79 P) (node (o_113 P) (node (o_177 P) nil nil) nil) (node (o_145 P) nil nil)) (node (o_95 P) (node (o_129 P) nil nil) (node (o_161 P) nil nil))))) (node (boot_o_5 P) (node (boot_o_9 P) (node (o_53 P) (node (o_69 P) (node (o_103 P) (node (o_167 P) nil nil) nil) (node (o_135 P) nil nil)) (node (o_85 P) (node (o_119 P) (node (o_183 P) nil nil) nil) (node (o_151 P) nil nil))) (node (o_61 P) (node (o_77 P) (node (o_111 P) (node (o_175 P) nil nil) nil) (node (o_143 P) nil nil)) (node (o_93 P) (node (o_127 P) nil nil) (node (o_159 P) nil nil)))) (node (o_45 P) (node (o_57 P) (node (o_73 P) (node (o_107 P) (node (o_171 P) nil nil) nil) (node (o_139 P) nil nil)) (node (o_89 P) (node (o_123 P) nil nil) (node (o_155 P) nil nil))) (node (o_65 P) (node (o_81 P) (node (o_115 P) (node (o_179 P) nil nil) nil) (node (o_147 P) nil nil)) (node (o_97 P) (node (o_131 P) nil nil) (node (o_163 P) nil nil)))))) (node (boot_o_2 P) (node (boot_o_4 P) (node (boot_o_8 P) (node (o_52 P) (node (o_68 P) (node (o_102 P) (node (o_166 P) nil nil) nil) (node (o_134 P) nil nil)) (node (o_84 P) (node (o_118 P) (node (o_182 P) nil nil) nil) (node (o_150 P) nil nil))) (node (o_60 P) (node (o_76 P) (node (o_110 P) (node (o_174 P) nil nil) nil) (node (o_142 P) nil nil)) (node (o_92 P) (node (o_126 P) nil nil) (node (o_158 P) nil nil)))) (node (o_101 P) (node (o_56 P) (node (o_72 P) (node (o_106 P) (node (o_170 P) nil nil) nil) (node (o_138 P) nil nil)) (node (o_88 P) (node (o_122 P) nil nil) (node (o_154 P) nil nil))) (node (o_64 P) (node (o_80 P) (node (o_114 P) (node (o_178 P) nil nil) nil) (node (o_146 P) nil nil)) (node (o_96 P) (node (o_130 P) nil nil) (node (o_162 P) nil nil))))) (node (boot_o_6 P) (node (boot_o_10 P) (node (o_54 P) (node (o_70 P) (node (o_104 P) (node (o_168 P) nil nil) nil) (node (o_136 P) nil nil)) (node (o_86 P) (node (o_120 P) (node (o_184 P) nil nil) nil) (node (o_152 P) nil nil))) (node (o_62 P) (node (o_78 P) (node (o_112 P) (node (o_176 P) nil nil) nil) (node (o_144 P) nil nil)) (node (o_94 P) (node (o_128 P) nil nil) (node (o_160 P) nil nil)))) (node (o_46 P) (node (o_58 P) (node (o_74 P) (node (o_108 P) (node (o_172 P) nil nil) nil) (node (o_140 P) nil nil)) (node (o_90 P) (node (o_124 P) nil nil) (node (o_156 P) nil nil))) (node (o_66 P) (node (o_82 P) (node (o_116 P) (node (o_180 P) nil nil) nil) (node (o_148 P) nil nil)) (node (o_98 P) (node (o_132 P) nil nil) (node (o_164 P) nil nil)))))))
noncomputable def tree_236 (P : Params) : BT := (node (boot_o_0 P) (node (boot_o_1 P) (node (o_187 P) (node (boot_o_7 P) (node (o_51 P) (node (o_67 P) (node (o_99 P) (node (o_165 P) nil nil) (node (o_232 P) nil nil)) (node (o_133 P) (node (o_200 P) nil nil) nil)) (node (o_83 P) (node (o_117 P) (node (o_181 P) nil nil) nil) (node (o_149 P) (node (o_216 P) nil nil) nil))) (node (o_59 P) (node (o_75 P) (node (o_109 P) (node (o_173 P) nil nil) nil) (node (o_141 P) (node (o_208 P) nil nil) nil)) (node (o_91 P) (node (o_125 P) (node (o_192 P) nil nil) nil) (node (o_157 P) (node (o_224 P) nil nil) nil)))) (node (o_43 P) (node (o_55 P) (node (o_71 P) (node (o_105 P) (node (o_169 P) nil nil) (node (o_236 P) nil nil)) (node (o_137 P) (node (o_204 P) nil nil) nil)) (node (o_87 P) (node (o_121 P) (node (o_185 P) nil nil) nil) (node (o_153 P) (node (o_220 P) nil nil) nil))) (node (o_63 P) (node (o_79 P) (node (o_113 P) (node (o_177 P) nil nil) nil) (node (o_145 P) (node (o_212 P) nil nil) nil)) (node (o_95 P) (node (o_129 P) (node (o_196 P) nil nil) nil) (node (o_161 P) (node (o_228 P) nil nil) nil))))) (node (boot_o_5 P) (node (boot_o_9 P) (node (o_53 P) (node (o_69 P) (node (o_103 P) (node (o_167 P) nil nil) (node (o_234 P) nil nil)) (node (o_135 P) (node (o_202 P) nil nil) nil)) (node (o_85 P) (node (o_119 P) (node (o_183 P) nil nil) nil) (node (o_151 P) (node (o_218 P) nil nil) nil))) (node (o_61 P) (node (o_77 P) (node (o_111 P) (node (o_175 P) nil nil) nil) (node (o_143 P) (node (o_210 P) nil nil) nil)) (node (o_93 P) (node (o_127 P) (node (o_194 P) nil nil) nil) (node (o_159 P) (node (o_226 P) nil nil) nil)))) (node (o_45 P) (node (o_57 P) (node (o_73 P) (node (o_107 P) (node (o_171 P) nil nil) nil) (node (o_139 P) (node (o_206 P) nil nil) nil)) (node (o_89 P) (node (o_123 P) (node (o_190 P) nil nil) nil) (node (o_155 P) (node (o_222 P) nil nil) nil))) (node (o_65 P) (node (o_81 P) (node (o_115 P) (node (o_179 P) nil nil) nil) (node (o_147 P) (node (o_214 P) nil nil) nil)) (node (o_97 P) (node (o_131 P) (node (o_198 P) nil nil) nil) (node (o_163 P) (node (o_230 P) nil nil) nil)))))) (node (o_186 P) (node (boot_o_4 P) (node (boot_o_8 P) (node (o_52 P) (node (o_68 P) (node (o_102 P) (node (o_166 P) nil nil) (node (o_233 P) nil nil)) (node (o_134 P) (node (o_201 P) nil nil) nil)) (node (o_84 P) (node (o_118 P) (node (o_182 P) nil nil) nil) (node (o_150 P) (node (o_217 P) nil nil) nil))) (node (o_60 P) (node (o_76 P) (node (o_110 P) (node (o_174 P) nil nil) nil) (node (o_142 P) (node (o_209 P) nil nil) nil)) (node (o_92 P) (node (o_126 P) (node (o_193 P) nil nil) nil) (node (o_158 P) (node (o_225 P) nil nil) nil)))) (node (o_188 P) (node (o_56 P) (node (o_72 P) (node (o_106 P) (node (o_170 P) nil nil) nil) (node (o_138 P) (node (o_205 P) nil nil) nil)) (node (o_88 P) (node (o_122 P) (node (o_189 P) nil nil) nil) (node (o_154 P) (node (o_221 P) nil nil) nil))) (node (o_64 P) (node (o_80 P) (node (o_114 P) (node (o_178 P) nil nil) nil) (node (o_146 P) (node (o_213 P) nil nil) nil)) (node (o_96 P) (node (o_130 P) (node (o_197 P) nil nil) nil) (node (o_162 P) (node (o_229 P) nil nil) nil))))) (node (boot_o_6 P) (node (boot_o_10 P) (node (o_54 P) (node (o_70 P) (node (o_104 P) (node (o_168 P) nil nil) (node (o_235 P) nil nil)) (node (o_136 P) (node (o_203 P) nil nil) nil)) (node (o_86 P) (node (o_120 P) (node (o_184 P) nil nil) nil) (node (o_152 P) (node (o_219 P) nil nil) nil))) (node (o_62 P) (node (o_78 P) (node (o_112 P) (node (o_176 P) nil nil) nil) (node (o_144 P) (node (o_211 P) nil nil) nil)) (node (o_94 P) (node (o_128 P) (node (o_195 P) nil nil) nil) (node (o_160 P) (node (o_227 P) nil nil) nil)))) (node (o_46 P) (node (o_58 P) (node (o_74 P) (node (o_108 P) (node (o_172 P) nil nil) nil) (node (o_140 P) (node (o_207 P) nil nil) nil)) (node (o_90 P) (node (o_124 P) (node (o_191 P) nil nil) nil) (node (o_156 P) (node (o_223 P) nil nil) nil))) (node (o_66 P) (node (o_82 P) (node (o_116 P) (node (o_180 P) nil nil) nil) (node (o_148 P) (node (o_215 P) nil nil) nil)) (node (o_98 P) (node (o_132 P) (node (o_199 P) nil nil) nil) (node (o_164 P) (node (o_231 P) nil nil) nil)))))))
noncomputable def tree_304 (P : Params) : BT := (node (boot_o_0 P) (node (boot_o_1 P) (node (o_237 P) (node (boot_o_7 P) (node (o_51 P) (node (o_67 P) (node (o_99 P) (node (o_165 P) (node (o_298 P) nil nil) nil) (node (o_232 P) nil nil)) (node (o_133 P) (node (o_200 P) nil nil) (node (o_266 P) nil nil))) (node (o_83 P) (node (o_117 P) (node (o_181 P) nil nil) (node (o_250 P) nil nil)) (node (o_149 P) (node (o_216 P) nil nil) (node (o_282 P) nil nil)))) (node (o_59 P) (node (o_75 P) (node (o_109 P) (node (o_173 P) nil nil) (node (o_242 P) nil nil)) (node (o_141 P) (node (o_208 P) nil nil) (node (o_274 P) nil nil))) (node (o_91 P) (node (o_125 P) (node (o_192 P) nil nil) (node (o_258 P) nil nil)) (node (o_157 P) (node (o_224 P) nil nil) (node (o_290 P) nil nil))))) (node (o_43 P) (node (o_55 P) (node (o_71 P) (node (o_105 P) (node (o_169 P) (node (o_302 P) nil nil) nil) (node (o_236 P) nil nil)) (node (o_137 P) (node (o_204 P) nil nil) (node (o_270 P) nil nil))) (node (o_87 P) (node (o_121 P) (node (o_185 P) nil nil) (node (o_254 P) nil nil)) (node (o_153 P) (node (o_220 P) nil nil) (node (o_286 P) nil nil)))) (node (o_63 P) (node (o_79 P) (node (o_113 P) (node (o_177 P) nil nil) (node (o_246 P) nil nil)) (node (o_145 P) (node (o_212 P) nil nil) (node (o_278 P) nil nil))) (node (o_95 P) (node (o_129 P) (node (o_196 P) nil nil) (node (o_262 P) nil nil)) (node (o_161 P) (node (o_228 P) nil nil) (node (o_294 P) nil nil)))))) (node (boot_o_5 P) (node (boot_o_9 P) (node (o_53 P) (node (o_69 P) (node (o_103 P) (node (o_167 P) (node (o_300 P) nil nil) nil) (node (o_234 P) nil nil)) (node (o_135 P) (node (o_202 P) nil nil) (node (o_268 P) nil nil))) (node (o_85 P) (node (o_119 P) (node (o_183 P) nil nil) (node (o_252 P) nil nil)) (node (o_151 P) (node (o_218 P) nil nil) (node (o_284 P) nil nil)))) (node (o_61 P) (node (o_77 P) (node (o_111 P) (node (o_175 P) nil nil) (node (o_244 P) nil nil)) (node (o_143 P) (node (o_210 P) nil nil) (node (o_276 P) nil nil))) (node (o_93 P) (node (o_127 P) (node (o_194 P) nil nil) (node (o_260 P) nil nil)) (node (o_159 P) (node (o_226 P) nil nil) (node (o_292 P) nil nil))))) (node (o_45 P) (node (o_57 P) (node (o_73 P) (node (o_107 P) (node (o_171 P) (node (o_304 P) nil nil) nil) (node (o_240 P) nil nil)) (node (o_139 P) (node (o_206 P) nil nil) (node (o_272 P) nil nil))) (node (o_89 P) (node (o_123 P) (node (o_190 P) nil nil) (node (o_256 P) nil nil)) (node (o_155 P) (node (o_222 P) nil nil) (node (o_288 P) nil nil)))) (node (o_65 P) (node (o_81 P) (node (o_115 P) (node (o_179 P) nil nil) (node (o_248 P) nil nil)) (node (o_147 P) (node (o_214 P) nil nil) (node (o_280 P) nil nil))) (node (o_97 P) (node (o_131 P) (node (o_198 P) nil nil) (node (o_264 P) nil nil)) (node (o_163 P) (node (o_230 P) nil nil) (node (o_296 P) nil nil))))))) (node (o_186 P) (node (boot_o_4 P) (node (boot_o_8 P) (node (o_52 P) (node (o_68 P) (node (o_102 P) (node (o_166 P) (node (o_299 P) nil nil) nil) (node (o_233 P) nil nil)) (node (o_134 P) (node (o_201 P) nil nil) (node (o_267 P) nil nil))) (node (o_84 P) (node (o_118 P) (node (o_182 P) nil nil) (node (o_251 P) nil nil)) (node (o_150 P) (node (o_217 P) nil nil) (node (o_283 P) nil nil)))) (node (o_60 P) (node (o_76 P) (node (o_110 P) (node (o_174 P) nil nil) (node (o_243 P) nil nil)) (node (o_142 P) (node (o_209 P) nil nil) (node (o_275 P) nil nil))) (node (o_92 P) (node (o_126 P) (node (o_193 P) nil nil) (node (o_259 P) nil nil)) (node (o_158 P) (node (o_225 P) nil nil) (node (o_291 P) nil nil))))) (node (o_238 P) (node (o_56 P) (node (o_72 P) (node (o_106 P) (node (o_170 P) (node (o_303 P) nil nil) nil) (node (o_239 P) nil nil)) (node (o_138 P) (node (o_205 P) nil nil) (node (o_271 P) nil nil))) (node (o_88 P) (node (o_122 P) (node (o_189 P) nil nil) (node (o_255 P) nil nil)) (node (o_154 P) (node (o_221 P) nil nil) (node (o_287 P) nil nil)))) (node (o_64 P) (node (o_80 P) (node (o_114 P) (node (o_178 P) nil nil) (node (o_247 P) nil nil)) (node (o_146 P) (node (o_213 P) nil nil) (node (o_279 P) nil nil))) (node (o_96 P) (node (o_130 P) (node (o_197 P) nil nil) (node (o_263 P) nil nil)) (node (o_162 P) (node (o_229 P) nil nil) (node (o_295 P) nil nil)))))) (node (boot_o_6 P) (node (boot_o_10 P) (node (o_54 P) (node (o_70 P) (node (o_104 P) (node (o_168 P) (node (o_301 P) nil nil) nil) (node (o_235 P) nil nil)) (node (o_136 P) (node (o_203 P) nil nil) (node (o_269 P) nil nil))) (node (o_86 P) (node (o_120 P) (node (o_184 P) nil nil) (node (o_253 P) nil nil)) (node (o_152 P) (node (o_219 P) nil nil) (node (o_285 P) nil nil)))) (node (o_62 P) (node (o_78 P) (node (o_112 P) (node (o_176 P) nil nil) (node (o_245 P) nil nil)) (node (o_144 P) (node (o_211 P) nil nil) (node (o_277 P) nil nil))) (node (o_94 P) (node (o_128 P) (node (o_195 P) nil nil) (node (o_261 P) nil nil)) (node (o_160 P) (node (o_227 P) nil nil) (node (o_293 P) nil nil))))) (node (o_46 P) (node (o_58 P) (node (o_74 P) (node (o_108 P) (node (o_172 P) nil nil) (node (o_241 P) nil nil)) (node (o_140 P) (node (o_207 P) nil nil) (node (o_273 P) nil nil))) (node (o_90 P) (node (o_124 P) (node (o_191 P) nil nil) (node (o_257 P) nil nil)) (node (o_156 P) (node (o_223 P) nil nil) (node (o_289 P) nil nil)))) (node (o_66 P) (node (o_82 P) (node (o_116 P) (node (o_180 P) nil nil) (node (o_249 P) nil nil)) (node (o_148 P) (node (o_215 P) nil nil) (node (o_281 P) nil nil))) (node (o_98 P) (node (o_132 P) (node (o_199 P) nil nil) (node (o_265 P) nil nil)) (node (o_164 P) (node (o_231 P) nil nil) (node (o_297 P) nil nil))))))))
noncomputable def tree_340 (P : Params) : BT := (node (boot_o_0 P) (node (boot_o_1 P) (node (o_307 P) (node (boot_o_7 P) (node (o_51 P) (node (o_67 P) (node (o_99 P) (node (o_165 P) (node (o_298 P) nil nil) nil) (node (o_232 P) nil nil)) (node (o_133 P) (node (o_200 P) (node (o_334 P) nil nil) nil) (node (o_266 P) nil nil))) (node (o_83 P) (node (o_117 P) (node (o_181 P) (node (o_318 P) nil nil) nil) (node (o_250 P) nil nil)) (node (o_149 P) (node (o_216 P) nil nil) (node (o_282 P) nil nil)))) (node (o_59 P) (node (o_75 P) (node (o_109 P) (node (o_173 P) (node (o_310 P) nil nil) nil) (node (o_242 P) nil nil)) (node (o_141 P) (node (o_208 P) nil nil) (node (o_274 P) nil nil))) (node (o_91 P) (node (o_125 P) (node (o_192 P) (node (o_326 P) nil nil) nil) (node (o_258 P) nil nil)) (node (o_157 P) (node (o_224 P) nil nil) (node (o_290 P) nil nil))))) (node (o_43 P) (node (o_55 P) (node (o_71 P) (node (o_105 P) (node (o_169 P) (node (o_302 P) nil nil) nil) (node (o_236 P) nil nil)) (node (o_137 P) (node (o_204 P) (node (o_338 P) nil nil) nil) (node (o_270 P) nil nil))) (node (o_87 P) (node (o_121 P) (node (o_185 P) (node (o_322 P) nil nil) nil) (node (o_254 P) nil nil)) (node (o_153 P) (node (o_220 P) nil nil) (node (o_286 P) nil nil)))) (node (o_63 P) (node (o_79 P) (node (o_113 P) (node (o_177 P) (node (o_314 P) nil nil) nil) (node (o_246 P) nil nil)) (node (o_145 P) (node (o_212 P) nil nil) (node (o_278 P) nil nil))) (node (o_95 P) (node (o_129 P) (node (o_196 P) (node (o_330 P) nil nil) nil) (node (o_262 P) nil nil)) (node (o_161 P) (node (o_228 P) nil nil) (node (o_294 P) nil nil)))))) (node (boot_o_5 P) (node (boot_o_9 P) (node (o_53 P) (node (o_69 P) (node (o_103 P) (node (o_167 P) (node (o_300 P) nil nil) nil) (node (o_234 P) nil nil)) (node (o_135 P) (node (o_202 P) (node (o_336 P) nil nil) nil) (node (o_268 P) nil nil))) (node (o_85 P) (node (o_119 P) (node (o_183 P) (node (o_320 P) nil nil) nil) (node (o_252 P) nil nil)) (node (o_151 P) (node (o_218 P) nil nil) (node (o_284 P) nil nil)))) (node (o_61 P) (node (o_77 P) (node (o_111 P) (node (o_175 P) (node (o_312 P) nil nil) nil) (node (o_244 P) nil nil)) (node (o_143 P) (node (o_210 P) nil nil) (node (o_276 P) nil nil))) (node (o_93 P) (node (o_127 P) (node (o_194 P) (node (o_328 P) nil nil) nil) (node (o_260 P) nil nil)) (node (o_159 P) (node (o_226 P) nil nil) (node (o_292 P) nil nil))))) (node (o_45 P) (node (o_57 P) (node (o_73 P) (node (o_107 P) (node (o_171 P) (node (o_304 P) nil nil) nil) (node (o_240 P) nil nil)) (node (o_139 P) (node (o_206 P) (node (o_340 P) nil nil) nil) (node (o_272 P) nil nil))) (node (o_89 P) (node (o_123 P) (node (o_190 P) (node (o_324 P) nil nil) nil) (node (o_256 P) nil nil)) (node (o_155 P) (node (o_222 P) nil nil) (node (o_288 P) nil nil)))) (node (o_65 P) (node (o_81 P) (node (o_115 P) (node (o_179 P) (node (o_316 P) nil nil) nil) (node (o_248 P) nil nil)) (node (o_147 P) (node (o_214 P) nil nil) (node (o_280 P) nil nil))) (node (o_97 P) (node (o_131 P) (node (o_198 P) (node (o_332 P) nil nil) nil) (node (o_264 P) nil nil)) (node (o_163 P) (node (o_230 P) nil nil) (node (o_296 P) nil nil))))))) (node (o_186 P) (node (boot_o_4 P) (node (boot_o_8 P) (node (o_52 P) (node (o_68 P) (node (o_102 P) (node (o_166 P) (node (o_299 P) nil nil) nil) (node (o_233 P) nil nil)) (node (o_134 P) (node (o_201 P) (node (o_335 P) nil nil) nil) (node (o_267 P) nil nil))) (node (o_84 P) (node (o_118 P) (node (o_182 P) (node (o_319 P) nil nil) nil) (node (o_251 P) nil nil)) (node (o_150 P) (node (o_217 P) nil nil) (node (o_283 P) nil nil)))) (node (o_60 P) (node (o_76 P) (node (o_110 P) (node (o_174 P) (node (o_311 P) nil nil) nil) (node (o_243 P) nil nil)) (node (o_142 P) (node (o_209 P) nil nil) (node (o_275 P) nil nil))) (node (o_92 P) (node (o_126 P) (node (o_193 P) (node (o_327 P) nil nil) nil) (node (o_259 P) nil nil)) (node (o_158 P) (node (o_225 P) nil nil) (node (o_291 P) nil nil))))) (node (o_308 P) (node (o_56 P) (node (o_72 P) (node (o_106 P) (node (o_170 P) (node (o_303 P) nil nil) nil) (node (o_239 P) nil nil)) (node (o_138 P) (node (o_205 P) (node (o_339 P) nil nil) nil) (node (o_271 P) nil nil))) (node (o_88 P) (node (o_122 P) (node (o_189 P) (node (o_323 P) nil nil) nil) (node (o_255 P) nil nil)) (node (o_154 P) (node (o_221 P) nil nil) (node (o_287 P) nil nil)))) (node (o_64 P) (node (o_80 P) (node (o_114 P) (node (o_178 P) (node (o_315 P) nil nil) nil) (node (o_247 P) nil nil)) (node (o_146 P) (node (o_213 P) nil nil) (node (o_279 P) nil nil))) (node (o_96 P) (node (o_130 P) (node (o_197 P) (node (o_331 P) nil nil) nil) (node (o_263 P) nil nil)) (node (o_162 P) (node (o_229 P) nil nil) (node (o_295 P) nil nil)))))) (node (boot_o_6 P) (node (boot_o_10 P) (node (o_54 P) (node (o_70 P) (node (o_104 P) (node (o_168 P) (node (o_301 P) nil nil) nil) (node (o_235 P) nil nil)) (node (o_136 P) (node (o_203 P) (node (o_337 P) nil nil) nil) (node (o_269 P) nil nil))) (node (o_86 P) (node (o_120 P) (node (o_184 P) (node (o_321 P) nil nil) nil) (node (o_253 P) nil nil)) (node (o_152 P) (node (o_219 P) nil nil) (node (o_285 P) nil nil)))) (node (o_62 P) (node (o_78 P) (node (o_112 P) (node (o_176 P) (node (o_313 P) nil nil) nil) (node (o_245 P) nil nil)) (node (o_144 P) (node (o_211 P) nil nil) (node (o_277 P) nil nil))) (node (o_94 P) (node (o_128 P) (node (o_195 P) (node (o_329 P) nil nil) nil) (node (o_261 P) nil nil)) (node (o_160 P) (node (o_227 P) nil nil) (node (o_293 P) nil nil))))) (node (o_46 P) (node (o_58 P) (node (o_74 P) (node (o_108 P) (node (o_172 P) (node (o_309 P) nil nil) nil) (node (o_241 P) nil nil)) (node (o_140 P) (node (o_207 P) nil nil) (node (o_273 P) nil nil))) (node (o_90 P) (node (o_124 P) (node (o_191 P) (node (o_325 P) nil nil) nil) (node (o_257 P) nil nil)) (node (o_156 P) (node (o_223 P) nil nil) (node (o_289 P) nil nil)))) (node (o_66 P) (node (o_82 P) (node (o_116 P) (node (o_180 P) (node (o_317 P) nil nil) nil) (node (o_249 P) nil nil)) (node (o_148 P) (node (o_215 P) nil nil) (node (o_281 P) nil nil))) (node (o_98 P) (node (o_132 P) (node (o_199 P) (node (o_333 P) nil nil) nil) (node (o_265 P) nil nil)) (node (o_164 P) (node (o_231 P) nil nil) (node (o_297 P) nil nil))))))))
noncomputable def heap_46 (P : Params) : Heap := ⟨⟨[boot_o_0 P, boot_o_1 P, boot_o_2 P, boot_o_3 P, boot_o_4 P, boot_o_5 P, boot_o_6 P, boot_o_7 P, boot_o_8 P, boot_o_9 P, boot_o_10 P, o_43 P, o_44 P, o_45 P, o_46 P]⟩, {}⟩
noncomputable def heap_341 (P : Params) : Heap := ⟨⟨[boot_o_0 P, boot_o_1 P, o_186 P, o_307 P, boot_o_4 P, boot_o_5 P, boot_o_6 P, boot_o_7 P, boot_o_8 P, boot_o_9 P, boot_o_10 P, o_43 P, o_308 P, o_45 P, o_46 P, o_51 P, o_52 P, o_53 P, o_54 P, o_55 P, o_56 P, o_57 P, o_58 P, o_59 P, o_60 P, o_61 P, o_62 P, o_63 P, o_64 P, o_65 P, o_66 P, o_67 P, o_68 P, o_69 P, o_70 P, o_71 P, o_72 P, o_73 P, o_74 P, o_75 P, o_76 P, o_77 P, o_78 P, o_79 P, o_80 P, o_81 P, o_82 P, o_83 P, o_84 P, o_85 P, o_86 P, o_87 P, o_88 P, o_89 P, o_90 P, o_91 P, o_92 P, o_93 P, o_94 P, o_95 P, o_96 P, o_97 P, o_98 P, o_99 P, o_102 P, o_103 P, o_104 P, o_105 P, o_106 P, o_107 P, o_108 P, o_109 P, o_110 P, o_111 P, o_112 P, o_113 P, o_114 P, o_115 P, o_116 P, o_117 P, o_118 P, o_119 P, o_120 P, o_121 P, o_122 P, o_123 P, o_124 P, o_125 P, o_126 P, o_127 P, o_128 P, o_129 P, o_130 P, o_131 P, o_132 P, o_133 P, o_134 P, o_135 P, o_136 P, o_137 P, o_138 P, o_139 P, o_140 P, o_141 P, o_142 P, o_143 P, o_144 P, o_145 P, o_146 P, o_147 P, o_148 P, o_149 P, o_150 P, o_151 P, o_152 P, o_153 P, o_154 P, o_155 P, o_156 P, o_157 P, o_158 P, o_159 P, o_160 P, o_161 P, o_162 P, o_163 P, o_164 P, o_165 P, o_166 P, o_167 P, o_168 P, o_169 P, o_170 P, o_171 P, o_172 P, o_173 P, o_174 P, o_175 P, o_176 P, o_177 P, o_178 P, o_179 P, o_180 P, o_181 P, o_182 P, o_183 P, o_184 P, o_185 P, o_189 P, o_190 P, o_191 P, o_192 P, o_193 P, o_194 P, o_195 P, o_196 P, o_197 P, o_198 P, o_199 P, o_200 P, o_201 P, o_202 P, o_203 P, o_204 P, o_205 P, o_206 P, o_207 P, o_208 P, o_209 P, o_210 P, o_211 P, o_212 P, o_213 P, o_214 P, o_215 P, o_216 P, o_217 P, o_218 P, o_219 P, o_220 P, o_221 P, o_222 P, o_223 P, o_224 P, o_225 P, o_226 P, o_227 P, o_228 P, o_229 P, o_230 P, o_231 P, o_232 P, o_233 P, o_234 P, o_235 P, o_236 P, o_239 P, o_240 P, o_241 P, o_242 P, o_243 P, o_244 P, o_245 P, o_246 P, o_247 P, o_248 P, o_249 P, o_250 P, o_251 P, o_252 P, o_253 P, o_254 P, o_255 P, o_256 P, o_257 P, o_258 P, o_259 P, o_260 P, o_261 P, o_262 P, o_263 P, o_264 P, o_265 P, o_266 P, o_267 P, o_268 P, o_269 P, o_270 P, o_271 P, o_272 P, o_273 P, o_274 P, o_275 P, o_276 P, o_277 P, o_278 P, o_279 P, o_280 P, o_281 P, o_282 P, o_283 P, o_284 P, o_285 P, o_286 P, o_287 P, o_288 P, o_289 P, o_290 P, o_291 P, o_292 P, o_293 P, o_294 P, o_295 P, o_296 P, o_297 P, o_298 P, o_299 P, o_300 P, o_301 P, o_302 P, o_303 P, o_304 P, o_309 P, o_310 P, o_311 P, o_312 P, o_313 P, o_314 P, o_315 P, o_316 P, o_317 P, o_318 P, o_319 P, o_320 P, o_321 P, o_322 P, o_323 P, o_324 P, o_325 P, o_326 P, o_327 P, o_328 P, o_329 P, o_330 P, o_331 P, o_332 P, o_333 P, o_334 P, o_335 P, o_336 P, o_337 P, o_338 P, o_339 P, o_340 P]⟩, {}⟩
end
noncomputable def heap_39 (P : Params) : Frag := by
  refine (?F : (x : Frag) → ([(nat_lit 2, o_186 P), (nat_lit 3, o_307 P), (nat_lit 15, o_51 P), (nat_lit 17, o_53 P), (nat_lit 18, o_54 P), (nat_lit 20, o_56 P), (nat_lit 21, o_57 P), (nat_lit 29, o_65 P), (nat_lit 31, o_67 P), (nat_lit 32, o_68 P), (nat_lit 34, o_70 P), (nat_lit 35, o_71 P), (nat_lit 36, o_72 P), (nat_lit 38, o_74 P), (nat_lit 39, o_75 P), (nat_lit 41, o_77 P), (nat_lit 42, o_78 P), (nat_lit 43, o_79 P), (nat_lit 44, o_80 P), (nat_lit 45, o_81 P), (nat_lit 46, o_82 P), (nat_lit 47, o_83 P), (nat_lit 50, o_86 P), (nat_lit 52, o_88 P), (nat_lit 53, o_89 P), (nat_lit 55, o_91 P), (nat_lit 56, o_92 P), (nat_lit 57, o_93 P), (nat_lit 59, o_95 P), (nat_lit 60, o_96 P), (nat_lit 62, o_98 P), (nat_lit 63, o_99 P), (nat_lit 64, o_102 P), (nat_lit 67, o_105 P), (nat_lit 72, o_110 P), (nat_lit 73, o_111 P), (nat_lit 74, o_112 P), (nat_lit 76, o_114 P), (nat_lit 77, o_115 P), (nat_lit 79, o_117 P), (nat_lit 80, o_118 P), (nat_lit 81, o_119 P), (nat_lit 83, o_121 P), (nat_lit 84, o_122 P), (nat_lit 86, o_124 P), (nat_lit 87, o_125 P), (nat_lit 88, o_126 P), (nat_lit 89, o_127 P), (nat_lit 91, o_129 P), (nat_lit 92, o_130 P), (nat_lit 94, o_132 P), (nat_lit 95, o_133 P), (nat_lit 96, o_134 P), (nat_lit 97, o_135 P), (nat_lit 99, o_137 P), (nat_lit 100, o_138 P), (nat_lit 102, o_140 P), (nat_lit 103, o_141 P), (nat_lit 104, o_142 P), (nat_lit 106, o_144 P), (nat_lit 107, o_145 P), (nat_lit 109, o_147 P), (nat_lit 110, o_148 P), (nat_lit 111, o_149 P), (nat_lit 113, o_151 P), (nat_lit 114, o_152 P), (nat_lit 116, o_154 P), (nat_lit 117, o_155 P), (nat_lit 118, o_156 P), (nat_lit 119, o_157 P), (nat_lit 121, o_159 P), (nat_lit 122, o_160 P), (nat_lit 124, o_162 P), (nat_lit 125, o_163 P), (nat_lit 126, o_164 P), (nat_lit 128, o_166 P), (nat_lit 129, o_167 P), (nat_lit 131, o_169 P), (nat_lit 132, o_170 P), (nat_lit 133, o_171 P), (nat_lit 134, o_172 P), (nat_lit 136, o_174 P), (nat_lit 137, o_175 P), (nat_lit 139, o_177 P), (nat_lit 140, o_178 P), (nat_lit 141, o_179 P), (nat_lit 142, o_180 P), (nat_lit 143, o_181 P), (nat_lit 144, o_182 P), (nat_lit 145, o_183 P), (nat_lit 148, o_189 P), (nat_lit 150, o_191 P), (nat_lit 151, o_192 P), (nat_lit 153, o_194 P), (nat_lit 154, o_195 P), (nat_lit 155, o_196 P), (nat_lit 162, o_203 P), (nat_lit 164, o_205 P), (nat_lit 165, o_206 P), (nat_lit 167, o_208 P), (nat_lit 168, o_209 P), (nat_lit 169, o_210 P), (nat_lit 171, o_212 P), (nat_lit 172, o_213 P), (nat_lit 174, o_215 P), (nat_lit 175, o_216 P), (nat_lit 176, o_217 P), (nat_lit 178, o_219 P), (nat_lit 179, o_220 P), (nat_lit 181, o_222 P), (nat_lit 182, o_223 P), (nat_lit 183, o_224 P), (nat_lit 185, o_226 P), (nat_lit 186, o_227 P), (nat_lit 188, o_229 P), (nat_lit 189, o_230 P), (nat_lit 190, o_231 P), (nat_lit 191, o_232 P), (nat_lit 192, o_233 P), (nat_lit 193, o_234 P), (nat_lit 206, o_249 P), (nat_lit 208, o_251 P), (nat_lit 209, o_252 P), (nat_lit 211, o_254 P), (nat_lit 212, o_255 P), (nat_lit 213, o_256 P), (nat_lit 215, o_258 P), (nat_lit 216, o_259 P), (nat_lit 218, o_261 P), (nat_lit 219, o_262 P), (nat_lit 220, o_263 P), (nat_lit 222, o_265 P), (nat_lit 223, o_266 P), (nat_lit 225, o_268 P), (nat_lit 226, o_269 P), (nat_lit 227, o_270 P), (nat_lit 229, o_272 P), (nat_lit 230, o_273 P), (nat_lit 232, o_275 P), (nat_lit 233, o_276 P), (nat_lit 234, o_277 P), (nat_lit 236, o_279 P), (nat_lit 237, o_280 P), (nat_lit 239, o_282 P), (nat_lit 240, o_283 P), (nat_lit 241, o_284 P), (nat_lit 243, o_286 P), (nat_lit 244, o_287 P), (nat_lit 246, o_289 P), (nat_lit 247, o_290 P), (nat_lit 248, o_291 P), (nat_lit 250, o_293 P), (nat_lit 251, o_294 P), (nat_lit 253, o_296 P), (nat_lit 254, o_297 P), (nat_lit 255, o_298 P), (nat_lit 256, o_299 P), (nat_lit 257, o_300 P), (nat_lit 258, o_301 P), (nat_lit 259, o_302 P), (nat_lit 262, o_309 P), (nat_lit 265, o_312 P), (nat_lit 266, o_313 P), (nat_lit 267, o_314 P), (nat_lit 270, o_317 P), (nat_lit 271, o_318 P), (nat_lit 272, o_319 P), (nat_lit 274, o_321 P), (nat_lit 275, o_322 P), (nat_lit 277, o_324 P), (nat_lit 278, o_325 P), (nat_lit 279, o_326 P), (nat_lit 282, o_329 P), (nat_lit 283, o_330 P), (nat_lit 284, o_331 P), (nat_lit 287, o_334 P), (nat_lit 288, o_335 P), (nat_lit 289, o_336 P), (nat_lit 292, o_339 P), (nat_lit 293, o_340 P)] : List (Nat × Obj)) = x → Frag) ?a ?b
  case F => exact fun x _ => x
  case b => conv => lhs; zeta; delta o_51 o_53 o_54 o_56 o_57 o_65 o_67 o_68 o_70 o_71 o_72 o_74 o_75 o_77 o_78 o_79 o_80 o_81 o_82 o_83 o_86 o_88 o_89 o_91 o_92 o_93 o_95 o_96 o_98 o_99 o_102 o_105 o_110 o_111 o_112 o_114 o_115 o_117 o_118 o_119 o_121 o_122 o_124 o_125 o_126 o_127 o_129 o_130 o_132 o_133 o_134 o_135 o_137 o_138 o_140 o_141 o_142 o_144 o_145 o_147 o_148 o_149 o_151 o_152 o_154 o_155 o_156 o_157 o_159 o_160 o_162 o_163 o_164 o_166 o_167 o_169 o_170 o_171 o_172 o_174 o_175 o_177 o_178 o_179 o_180 o_181 o_182 o_183 o_186 o_189 o_191 o_192 o_194 o_195 o_196 o_203 o_205 o_206 o_208 o_209 o_210 o_212 o_213 o_215 o_216 o_217 o_219 o_220 o_222 o_223 o_224 o_226 o_227 o_229 o_230 o_231 o_232 o_233 o_234 o_249 o_251 o_252 o_254 o_255 o_256 o_258 o_259 o_261 o_262 o_263 o_265 o_266 o_268 o_269 o_270 o_272 o_273 o_275 o_276 o_277 o_279 o_280 o_282 o_283 o_284 o_286 o_287 o_289 o_290 o_291 o_293 o_294 o_296 o_297 o_298 o_299 o_300 o_301 o_302 o_307 o_309 o_312 o_313 o_314 o_317 o_318 o_319 o_321 o_322 o_324 o_325 o_326 o_329 o_330 o_331 o_334 o_335 o_336 o_339 o_340 E pa_0 bo_0 sc_0 pa_2_0 bo_2_0 sc_2_0 pa_2_1 bo_2_1 sc_2_1 pa_3 bo_3 sc_3 pa_4 bo_4 sc_4 pa_8_0 bo_8_0 sc_8_0 pa_8_1 bo_8_1 sc_8_1 pa_8_2 bo_8_2 sc_8_2 pa_8_3 bo_8_3 sc_8_3 pa_8_4 bo_8_4 sc_8_4 pa_8_5 bo_8_5 sc_8_5 pa_8_6 bo_8_6 sc_8_6 pa_8_7 bo_8_7 sc_8_7 pa_8_8 bo_8_8 sc_8_8 pa_10 bo_10 sc_10 pa_12_0 bo_12_0 sc_12_0 pa_12_1 bo_12_1 sc_12_1 pa_12_2 bo_12_2 sc_12_2 pa_12_3 bo_12_3 sc_12_3 pa_13_1 bo_13_1 sc_13_1 pa_13_2 bo_13_2 sc_13_2 pa_13_3 bo_13_3 sc_13_3 pa_13_4 bo_13_4 sc_13_4 pa_13_5 bo_13_5 sc_13_5 pa_13_6 bo_13_6 sc_13_6 pa_13_7 bo_13_7 sc_13_7 pa_15 bo_15 sc_15 pa_16 bo_16 sc_16 pa_17 bo_17 sc_17 pa_18 bo_18 sc_18 pa_19 bo_19 sc_19 pa_20 bo_20 sc_20
noncomputable def view_39 : Program := by
  refine (?F : (x : List Stmt) → [bs_0, bs_2, bs_3, bs_4, bs_6, bs_7, bs_8, bs_10, bs_12, bs_13, bs_15, bs_16, bs_17, bs_18, bs_19, bs_20] = x → Program) ?a ?b
  case F => exact fun x _ => { PySem.Challenge.rw_xg0075_01.row.toRowW.prog with main := { (PySem.Challenge.rw_xg0075_01.row.toRowW.prog).main with body := x } }
  case b => conv => lhs; delta bs_0 bs_2 bs_3 bs_4 bs_6 bs_7 bs_8 bs_10 bs_12 bs_13 bs_15 bs_16 bs_17 bs_18 bs_19 bs_20
noncomputable def env_41 : Env := { scope := (PySem.Challenge.rw_xg0075_01.row.toRowW.prog).main.scope, locals := mainNs, globals := mainNs, cells := [], code := .ref 13, frame := some 14 }
noncomputable def sts_49 : List Stmt := ((PySem.Challenge.rw_xg0075_01.row.toRowW.prog).main.body.drop 0).take 8
noncomputable def sts_100 : List Stmt := ((PySem.Challenge.rw_xg0075_01.row.toRowW.prog).main.body.drop 8).take 1
noncomputable def sts_186 : List Stmt := ((PySem.Challenge.rw_xg0075_01.row.toRowW.prog).main.body.drop 9).take 4
noncomputable def sts_237 : List Stmt := ((PySem.Challenge.rw_xg0075_01.row.toRowW.prog).main.body.drop 13).take 1
noncomputable def sts_307 : List Stmt := ((PySem.Challenge.rw_xg0075_01.row.toRowW.prog).main.body.drop 14).take 7
theorem p47 (w : World) : (fun os => topGo treeTable PySem.Challenge.rw_xg0075_01.row.toRowW.prog w 11 (some (Value.ref 6)) 12 (⟨boot_heap w.params, ⟨[]⟩, boot_drawn, boot_toks, os⟩ : Shared) (topStub PySem.Challenge.rw_xg0075_01.row.toRowW.prog)) =
    fun os => some ((⟨heap_46 w.params, ⟨[]⟩, {}, 187, os⟩ : Shared), (⟨denote treeTable (Code.body (behindTheImports PySem.Challenge.rw_xg0075_01.row.toRowW.prog) env_41), (Code.body (behindTheImports PySem.Challenge.rw_xg0075_01.row.toRowW.prog) env_41), ⟨0, 0, 0, 0⟩, [topFrame ⟨0, 0, 0, 0⟩]⟩ : Thread)) := by
  rw [PySem.W.Fast.te15667345088766844465, PySem.W.Fast.te14364793385576792824, PySem.W.Fast.te2368527892694137696, PySem.W.Fast.te11892475500146522536]; kernel_rfl
theorem p49 (w : World) : (fun os => segRun treeTable PySem.Challenge.rw_xg0075_01.row.toRowW.prog w 11 (some (Value.ref 6)) 1 1 (⟨heap_46 w.params, ⟨[]⟩, {}, 187, os⟩ : Shared) (blockOf (behindTheImports PySem.Challenge.rw_xg0075_01.row.toRowW.prog) env_41 (Code.body (behindTheImports PySem.Challenge.rw_xg0075_01.row.toRowW.prog) env_41) ⟨0, 0, 0, 0⟩ [topFrame ⟨0, 0, 0, 0⟩])) =
    fun os => some (Flow.next, (⟨tree_47 w.params, 15, {}, ⟨[]⟩, {}, 187, os⟩ : SharedT).abs, (Code.body (behindTheImports PySem.Challenge.rw_xg0075_01.row.toRowW.prog) env_41), ⟨0, 0, 0, 0⟩) := by
  rw [PySem.W.Fast.te14374325043358763698, PySem.W.Fast.te14364793385576792824, PySem.W.Fast.te2368527892694137696]; kernel_rfl
theorem p100 (w : World) : (fun os => segRunT treeTable PySem.Challenge.rw_xg0075_01.row.toRowW.prog w 11 (some (Value.ref 6)) 1 389 (⟨tree_47 w.params, 15, {}, ⟨[]⟩, {}, 187, os⟩ : SharedT) (piecesOf sts_49 env_41 (Code.body (behindTheImports PySem.Challenge.rw_xg0075_01.row.toRowW.prog) env_41) ⟨0, 0, 0, 0⟩ [topFrame ⟨0, 0, 0, 0⟩])) =
    fun os => some (Flow.next, (⟨tree_99 w.params, 64, {}, ⟨[]⟩, {}, 264, os⟩ : SharedT), (Code.body (behindTheImports PySem.Challenge.rw_xg0075_01.row.toRowW.prog) env_41), ⟨39, 0, 39, 11⟩) := by
  rw [PySem.W.Fast.te10110043849684766642, PySem.W.Fast.te14364793385576792824, PySem.W.Fast.te2368527892694137696]; kernel_rfl
theorem p186 (w : World) : (fun os => segRunT treeTable PySem.Challenge.rw_xg0075_01.row.toRowW.prog w 11 (some (Value.ref 6)) 1 505 (⟨tree_99 w.params, 64, {}, ⟨[]⟩, {}, 264, os⟩ : SharedT) (piecesOf sts_100 env_41 (Code.body (behindTheImports PySem.Challenge.rw_xg0075_01.row.toRowW.prog) env_41) ⟨39, 0, 39, 11⟩ [topFrame ⟨0, 0, 0, 0⟩])) =
    fun os => some (Flow.next, (⟨tree_185 w.params, 148, {}, ⟨[]⟩, {}, 360, os⟩ : SharedT), (Code.body (behindTheImports PySem.Challenge.rw_xg0075_01.row.toRowW.prog) env_41), ⟨40, 0, 72, 32⟩) := by
  rw [PySem.W.Fast.te10110043849684766642, PySem.W.Fast.te14364793385576792824, PySem.W.Fast.te2368527892694137696]; kernel_rfl
theorem p237 (w : World) : (fun os => segRunT treeTable PySem.Challenge.rw_xg0075_01.row.toRowW.prog w 11 (some (Value.ref 6)) 1 376 (⟨tree_185 w.params, 148, {}, ⟨[]⟩, {}, 360, os⟩ : SharedT) (piecesOf sts_186 env_41 (Code.body (behindTheImports PySem.Challenge.rw_xg0075_01.row.toRowW.prog) env_41) ⟨40, 0, 72, 32⟩ [topFrame ⟨0, 0, 0, 0⟩])) =
    fun os => some (Flow.next, (⟨tree_236 w.params, 196, {}, ⟨[]⟩, {}, 428, os⟩ : SharedT), (Code.body (behindTheImports PySem.Challenge.rw_xg0075_01.row.toRowW.prog) env_41), ⟨85, 0, 97, 16⟩) := by
  rw [PySem.W.Fast.te10110043849684766642, PySem.W.Fast.te14364793385576792824, PySem.W.Fast.te2368527892694137696]; kernel_rfl
theorem p305 (w : World) : (fun os => segRunT treeTable PySem.Challenge.rw_xg0075_01.row.toRowW.prog (w.withFollow "special-get-raises" false) 11 (some (Value.ref 6)) 1 485 (⟨tree_236 (w.withFollow "special-get-raises" false).params, 196, {}, ⟨[]⟩, {}, 428, os⟩ : SharedT) (piecesOf sts_237 env_41 (Code.body (behindTheImports PySem.Challenge.rw_xg0075_01.row.toRowW.prog) env_41) ⟨85, 0, 97, 16⟩ [topFrame ⟨0, 0, 0, 0⟩])) =
    fun os => some (Flow.next, (⟨tree_304 (w.withFollow "special-get-raises" false).params, 262, {}, ⟨[]⟩, {}, 520, os⟩ : SharedT), (Code.body (behindTheImports PySem.Challenge.rw_xg0075_01.row.toRowW.prog) env_41), ⟨98, 0, 140, 17⟩) := by
  rw [PySem.W.Fast.te10110043849684766642, PySem.W.Fast.te14364793385576792824, PySem.W.Fast.te2368527892694137696]; kernel_rfl
theorem p307 (w : World) : (fun os => segRunT treeTable PySem.Challenge.rw_xg0075_01.row.toRowW.prog (w.withFollow "special-get-raises" true) 11 (some (Value.ref 6)) 1 485 (⟨tree_236 (w.withFollow "special-get-raises" true).params, 196, {}, ⟨[]⟩, {}, 428, os⟩ : SharedT) (piecesOf sts_237 env_41 (Code.body (behindTheImports PySem.Challenge.rw_xg0075_01.row.toRowW.prog) env_41) ⟨85, 0, 97, 16⟩ [topFrame ⟨0, 0, 0, 0⟩])) =
    fun os => some (Flow.next, (⟨tree_304 (w.withFollow "special-get-raises" true).params, 262, {}, ⟨[]⟩, {}, 520, os⟩ : SharedT), (Code.body (behindTheImports PySem.Challenge.rw_xg0075_01.row.toRowW.prog) env_41), ⟨98, 0, 140, 17⟩) := by
  rw [PySem.W.Fast.te10110043849684766642, PySem.W.Fast.te14364793385576792824, PySem.W.Fast.te2368527892694137696]; kernel_rfl
theorem p341 (w : World) : (fun os => segRunT treeTable PySem.Challenge.rw_xg0075_01.row.toRowW.prog w 11 (some (Value.ref 6)) 1 171 (⟨tree_304 w.params, 262, {}, ⟨[]⟩, {}, 520, os⟩ : SharedT) (piecesOf sts_307 env_41 (Code.body (behindTheImports PySem.Challenge.rw_xg0075_01.row.toRowW.prog) env_41) ⟨98, 0, 140, 17⟩ [topFrame ⟨0, 0, 0, 0⟩])) =
    fun os => some (Flow.next, (⟨tree_340 w.params, 294, {}, ⟨[]⟩, {}, 561, os⟩ : SharedT), (Code.body (behindTheImports PySem.Challenge.rw_xg0075_01.row.toRowW.prog) env_41), ⟨195, 0, 211, 76⟩) := by
  rw [PySem.W.Fast.te10110043849684766642, PySem.W.Fast.te14364793385576792824, PySem.W.Fast.te2368527892694137696]; kernel_rfl
theorem p308 (w : World) : (fun os => segRunT treeTable PySem.Challenge.rw_xg0075_01.row.toRowW.prog w 11 (some (Value.ref 6)) 1 485 (⟨tree_236 w.params, 196, {}, ⟨[]⟩, {}, 428, os⟩ : SharedT) (piecesOf sts_237 env_41 (Code.body (behindTheImports PySem.Challenge.rw_xg0075_01.row.toRowW.prog) env_41) ⟨85, 0, 97, 16⟩ [topFrame ⟨0, 0, 0, 0⟩])) =
    fun os => some (Flow.next, (⟨tree_304 w.params, 262, {}, ⟨[]⟩, {}, 520, os⟩ : SharedT), (Code.body (behindTheImports PySem.Challenge.rw_xg0075_01.row.toRowW.prog) env_41), ⟨98, 0, 140, 17⟩) :=
  byRow2 "special-get-raises" (P := fun w => (fun os => segRunT treeTable PySem.Challenge.rw_xg0075_01.row.toRowW.prog w 11 (some (Value.ref 6)) 1 485 (⟨tree_236 w.params, 196, {}, ⟨[]⟩, {}, 428, os⟩ : SharedT) (piecesOf sts_237 env_41 (Code.body (behindTheImports PySem.Challenge.rw_xg0075_01.row.toRowW.prog) env_41) ⟨85, 0, 97, 16⟩ [topFrame ⟨0, 0, 0, 0⟩])) =
    fun os => some (Flow.next, (⟨tree_304 w.params, 262, {}, ⟨[]⟩, {}, 520, os⟩ : SharedT), (Code.body (behindTheImports PySem.Challenge.rw_xg0075_01.row.toRowW.prog) env_41), ⟨98, 0, 140, 17⟩)) p305 p307 w
theorem p343 (w : World) : (fun os => topRun treeTable PySem.Challenge.rw_xg0075_01.row.toRowW.prog w 11 (some (Value.ref 6)) 2 (⟨tree_340 w.params, 294, {}, ⟨[]⟩, {}, 561, os⟩ : SharedT).abs (⟨doneF Flow.next, (Code.body (behindTheImports PySem.Challenge.rw_xg0075_01.row.toRowW.prog) env_41), ⟨195, 0, 211, 76⟩, [topFrame ⟨0, 0, 0, 0⟩]⟩ : Thread)) = fun os => some (⟨heap_341 w.params, ⟨[]⟩, {}, 561, os⟩ : Shared) := by
  rw [PySem.W.Fast.te14082659384304107361, PySem.W.Fast.te14364793385576792824, PySem.W.Fast.te2368527892694137696]; kernel_rfl
theorem body_is : (behindTheImports PySem.Challenge.rw_xg0075_01.row.toRowW.prog) = sts_49 ++ (sts_100 ++ (sts_186 ++ (sts_237 ++ (sts_307 ++ [])))) := by kernel_rfl
theorem run (w : World) (os : OsState) : topRun treeTable PySem.Challenge.rw_xg0075_01.row.toRowW.prog w 11 (some (Value.ref 6)) (12 + (1 + (389 + (505 + (376 + (485 + (171 + 2))))))) (⟨boot_heap w.params, ⟨[]⟩, boot_drawn, boot_toks, os⟩ : Shared) (topStub PySem.Challenge.rw_xg0075_01.row.toRowW.prog) = some (⟨heap_341 w.params, ⟨[]⟩, {}, 561, os⟩ : Shared) := by
  refine go_top (congrFun (p47 w) os) (piece_block (congrFun (p49 w) os) ?_)
  rw [show restOf (behindTheImports PySem.Challenge.rw_xg0075_01.row.toRowW.prog) env_41 = restOf (sts_49 ++ (sts_100 ++ (sts_186 ++ (sts_237 ++ (sts_307 ++ []))))) env_41 from congrArg (fun b => restOf b env_41) body_is]
  exact piece_app (segRun_of (congrFun (p100 w) os)) (piece_app (segRun_of (congrFun (p186 w) os)) (piece_app (segRun_of (congrFun (p237 w) os)) (piece_app (segRun_of (congrFun (p308 w) os)) (piece_app (segRun_of (congrFun (p341 w) os)) (congrFun (p343 w) os)))))
theorem open_ : ∀ w : World, (fencedOpening treeTable PySem.Challenge.rw_xg0075_01.row.toRowW.prog w 3968).map (fun s => (s.heap, s.gens, s.drawn, s.toks)) = some (boot_heap w.params, Array.mk [], boot_drawn, boot_toks) :=
  boot_open (by kernel_rfl) (by decide) (fun s => by kernel_rfl)
theorem size (w : World) : ((boot_heap w.params).isNs mainGlobals && (Array.mk ([] : List GenState)).size == 0, (boot_heap w.params).objs.size, (boot_heap w.params).nsMap mainGlobals "__annotations__") = (true, 11, (some (Value.ref 6))) := by
  rw [PySem.W.Fast.te8920871248978507458]; kernel_rfl
theorem k1 (w : World) : (fun os : OsState => staticsOk (importedModules PySem.Challenge.rw_xg0075_01.row.toRowW.prog.main.body) (boot_heap w.params) (heap_341 w.params) && namesBound PySem.Challenge.rw_xg0075_01.row.toRowW.prog (heap_341 w.params) && gensDone (⟨heap_341 w.params, ⟨[]⟩, {}, 561, os⟩ : Shared) && laidKept (boot_heap w.params) (heap_341 w.params)) = fun os => true := by
  rw [PySem.W.Fast.te5923862056798008813, PySem.W.Fast.te2368527892694137696]; kernel_rfl
theorem k2 (w : World) : (fun os : OsState => seen ((recsOf view_39).map fun x => x.name) (ownsOf view_39) [] { (⟨heap_341 w.params, ⟨[]⟩, {}, 561, os⟩ : Shared) with gens := #[] }) = fun os => expectedOf view_39 := by
  rw [PySem.W.Fast.te5160383126252970620, PySem.W.Fast.te3399658132070893891, PySem.W.Fast.te5991557255702980513]; kernel_rfl
theorem k3 (w : World) : (fun os : OsState => (⟨heap_341 w.params, ⟨[]⟩, {}, 561, os⟩ : Shared).heap.bltView) = fun os => bltViewBooted := by
  kernel_rfl
theorem k4 (w : World) : (fun os : OsState => (⟨heap_341 w.params, ⟨[]⟩, {}, 561, os⟩ : Shared).heap.keysOk (looseW view_39 ["_Accumulator", "Whitespace"]) ((recsOf view_39).map fun x => x.name) ((litsOf view_39).map fun x => x.1) ((clssOf view_39 (looseW view_39 ["_Accumulator", "Whitespace"])).map fun x => x.name) && (⟨heap_341 w.params, ⟨[]⟩, {}, 561, os⟩ : Shared).heap.accountedOkI (importedModules PySem.Challenge.rw_xg0075_01.row.toRowW.prog.main.body) && (⟨heap_341 w.params, ⟨[]⟩, {}, 561, os⟩ : Shared).heap.isNs mainGlobals && (⟨heap_341 w.params, ⟨[]⟩, {}, 561, os⟩ : Shared).heap.isNs builtinsNs && tablesOk view_39 (⟨heap_341 w.params, ⟨[]⟩, {}, 561, os⟩ : Shared).heap && (fun s : Shared => xlAt view_39 [] s && recOk PySem.Challenge.rw_xg0075_01.row.records s) (⟨heap_341 w.params, ⟨[]⟩, {}, 561, os⟩ : Shared) && (if true = true then (⟨heap_341 w.params, ⟨[]⟩, {}, 561, os⟩ : Shared).gens.size == 0 else !leftWithCleanup (⟨heap_341 w.params, ⟨[]⟩, {}, 561, os⟩ : Shared).gens)) = fun os => true := by
  rw [PySem.W.Fast.te10880121769531294198, PySem.W.Fast.te821141287760084731, PySem.W.Fast.te3399658132070893891, PySem.W.Fast.te7409074990110511671, PySem.W.Fast.te13664370479719496447, PySem.W.Fast.te14722251495701143533, PySem.W.Fast.te5923862056798008813, PySem.W.Fast.te2368527892694137696, PySem.W.Fast.te10994771534591457954]; kernel_rfl
theorem k5 (w : World) : (fun os : OsState => tabsOk view_39 (⟨heap_341 w.params, ⟨[]⟩, {}, 561, os⟩ : Shared)) = fun os => true := by
  rw [PySem.W.Fast.te479339242167458305]; kernel_rfl
theorem k6 (w : World) : (fun os : OsState => pinSeenD view_39 (drecsOf view_39) (⟨heap_341 w.params, ⟨[]⟩, {}, 561, os⟩ : Shared)) = fun os => pinGoodD (drecsOf view_39) := by
  rw [PySem.W.Fast.te16090120013241838585, PySem.W.Fast.te3247288618530077131]; kernel_rfl
theorem k7 (w : World) : (fun os : OsState => plainSeenE view_39 (looseW view_39 ["_Accumulator", "Whitespace"]) (⟨heap_341 w.params, ⟨[]⟩, {}, 561, os⟩ : Shared)) = fun os => plainGoodE view_39 (looseW view_39 ["_Accumulator", "Whitespace"]) := by
  rw [PySem.W.Fast.te2386780881361962483, PySem.W.Fast.te821141287760084731]; kernel_rfl
theorem k8 (w : World) : (fun os : OsState => plainSeenD view_39 ["_Accumulator", "Whitespace"] (⟨heap_341 w.params, ⟨[]⟩, {}, 561, os⟩ : Shared)) = fun os => plainGoodD view_39 ["_Accumulator", "Whitespace"] := by
  rw [PySem.W.Fast.te11698064438423848299]; kernel_rfl
theorem k9 (w : World) : (fun os : OsState => wideSeen view_39 (⟨heap_341 w.params, ⟨[]⟩, {}, 561, os⟩ : Shared)) = fun os => wideGood view_39 := by
  rw [PySem.W.Fast.te7317090234206586261]; kernel_rfl
theorem k10 (w : World) : (fun os : OsState => clsSeenW view_39 ["_Accumulator", "Whitespace"] (⟨heap_341 w.params, ⟨[]⟩, {}, 561, os⟩ : Shared)) = fun os => clsGoodW view_39 ["_Accumulator", "Whitespace"] := by
  rw [PySem.W.Fast.te7369524293546568484]; kernel_rfl
def asL : List Addr := [2, 3, 15, 17, 18, 20, 21, 29, 31, 32, 34, 35, 36, 38, 39, 41, 42, 43, 44, 45, 46, 47, 50, 52, 53, 55, 56, 57, 59, 60, 62, 63, 64, 67, 72, 73, 74, 76, 77, 79, 80, 81, 83, 84, 86, 87, 88, 89, 91, 92, 94, 95, 96, 97, 99, 100, 102, 103, 104, 106, 107, 109, 110, 111, 113, 114, 116, 117, 118, 119, 121, 122, 124, 125, 126, 128, 129, 131, 132, 133, 134, 136, 137, 139, 140, 141, 142, 143, 144, 145, 148, 150, 151, 153, 154, 155, 162, 164, 165, 167, 168, 169, 171, 172, 174, 175, 176, 178, 179, 181, 182, 183, 185, 186, 188, 189, 190, 191, 192, 193, 206, 208, 209, 211, 212, 213, 215, 216, 218, 219, 220, 222, 223, 225, 226, 227, 229, 230, 232, 233, 234, 236, 237, 239, 240, 241, 243, 244, 246, 247, 248, 250, 251, 253, 254, 255, 256, 257, 258, 259, 262, 265, 266, 267, 270, 271, 272, 274, 275, 277, 278, 279, 282, 283, 284, 287, 288, 289, 292, 293]
theorem keys (P : Params) : asL = (heap_39 P).map (·.1) := by kernel_rfl
noncomputable def hook : Hook := kHook heap_39 asL keys
theorem k11 (w : World) : (fun os => hook.obs (⟨heap_341 w.params, ⟨[]⟩, {}, 561, os⟩ : Shared)) = fun os => hook.val w := by kernel_rfl
theorem left : LeftO PySem.Challenge.rw_xg0075_01.row.toRowW.prog view_39 ["_Accumulator", "Whitespace"] (fun s : Shared => xlAt view_39 [] s && recOk PySem.Challenge.rw_xg0075_01.row.records s) hook.obs hook.val 3968 :=
  LeftO.of_pieces (H₀ := boot_heap) (H₁ := heap_341) open_ size run (by decide) fun w => by
    funext os
    exact looks_pair (congrFun (k1 w) os) (looks_pair (looks_pair (congrFun (k2 w) os) (looks_pair (congrFun (k3 w) os) (looks_pair (congrFun (k4 w) os) (looks_pair (congrFun (k5 w) os) (looks_pair (congrFun (k6 w) os) (looks_pair (congrFun (k7 w) os)
      (looks_pair (congrFun (k8 w) os) (looks_pair (congrFun (k9 w) os) (congrFun (k10 w) os))))))))) (congrFun (k11 w) os))
end Mine.hd
end
/-! part Base -/
section
theorem Mine.rstBase : True := by
  w_top off
  trivial
open PySem PySem.Spec PySem.Calls PySem.W PyProof.Rows
set_option maxRecDepth 100000
set_option maxHeartbeats 4000000
namespace Mine

abbrev tupO (vs : List Value) (n : Nat) : Obj := { cls := .type "tuple", data := .seq vs.toArray n }
abbrev rowO (rd : Addr) (vs : List Value) (n : Nat) : Obj := { cls := .ref 143, dict := some rd, data := .seq vs.toArray n }
abbrev lstO (vs : List Value) (n : Nat) : Obj := { cls := .type "list", data := .seq vs.toArray n }
theorem ne_all_of_lt {l : List (Addr × Obj)} {d : Addr} (h : ∀ p ∈ l, p.1 < d) : ∀ p ∈ l, p.1 ≠ d := fun p hp => Nat.ne_of_lt (h p hp)
theorem name_map {h₀ h : Heap} {L : Addr} {m : Str → Option Value} {P : Prop} (F : Fr h₀ L h m) (k : ∀ m0, m0 = m → Fr h₀ L h m0 → P) : P := k m rfl F
theorem sub_cons {a : Addr × Obj} {l all : List (Addr × Obj)} (h : a ∈ all) (hl : ∀ p ∈ l, p ∈ all) : ∀ p ∈ a :: l, p ∈ all := fun p hp => by
  rcases List.mem_cons.mp hp with rfl | hp
  · exact h
  · exact hl p hp
theorem unrEndA {h₀ : Heap} {L : Addr} {its : List (Addr × Obj)} {rest : (Str → Option Value) → List (Addr × Obj) → Prop} {s₁ : Shared} {h' : Heap} {tk : Nat} {m' : Str → Option Value} {all : List (Addr × Obj)} (F : Fr h₀ L h' m') (N : News h₀ L h' all) (news' : List (Addr × Obj))
    (hI : ∀ p ∈ its, p ∈ all) (hs : ∀ p ∈ news', p ∈ all) (off : ∀ p ∈ news', ∀ q ∈ its, p.1 ≠ q.1) (r : rest m' news') : UnrEndW h₀ L s₁ its rest { s₁ with heap := h', toks := tk } :=
  ⟨h', tk, m', news', rfl, F, fun p hp => (List.mem_append.mp hp).elim (fun h => N p (hI p h)) (fun h => N p (hs p h)), off, r⟩
section
variable {prog : Program} {w : World} {A : Around} {E : Value → Shared → Prop} {s : Shared} {K : Frag} {x C : Addr} {ox : Obj} {od : Option Obj} {name : Str} {pl : Sem Bool} {Q : Value × List Value → Shared → Prop}
theorem method_bi {i ga : String} (X : K.In s.heap) (I : InstAt s.heap x ox C od) (hga : findIn K (.ref C) "__getattribute__" = some (some (.builtin ga))) (hcan : Manifest.canonical ga = "object.__getattribute__") (hk : findIn K (.ref C) "__getattr__" = some none)
    (hf : findIn K (.ref C) name = some (some (.builtin i))) (ht : typeOf (.builtin i) = pure (.type "method_descriptor")) (hs : shadowIn od name = some false) (h : Q (.builtin i, [.ref x]) s) :
    wpAny (model prog w) A (getMethod (.ref x) name pl) Q E s := by
  unfold getMethod specialOf
  refine wpAny_bind (wpAny_bind (I.type.here ((looks_findIn X hga).here ?_)))
  dsimp only
  rw [hcan, if_neg (by decide)]
  refine wpAny_bind (wpAny_bind (I.type.here ((looks_findIn X hk).here ?_)))
  refine wpAny_bind (wpAny_bind (I.type.here ((looks_findIn X hf).here (wpAny_bind ((Looks.of_pure ht).here ?_)))))
  rw [if_neg (by decide +kernel)]
  refine wpAny_bind (wpAny_loadPart I.at_ ?_)
  have hd := I.dict
  cases e : ox.dict with
  | none => exact wpAny_bind (wpAny_rule (wpAny_pure h))
  | some dx =>
    cases od with
    | none => rw [e] at hd; exact hd.elim
    | some o =>
      rw [e] at hd
      obtain ⟨r, a, b⟩ := Option.map_eq_some_iff.mp hs
      refine wpAny_bind (wpAny_bind (wpAny_loadPart hd ?_))
      rw [nsLook_of a]
      refine wpAny_pure ?_
      rw [b]
      exact wpAny_bind (wpAny_rule (wpAny_pure h))
theorem method_fnG {f : Addr} {ga : String} (X : K.In s.heap) (I : InstAt s.heap x ox C od) (hga : findIn K (.ref C) "__getattribute__" = some (some (.builtin ga))) (hcan : Manifest.canonical ga = "object.__getattribute__") (hk : findIn K (.ref C) "__getattr__" = some none)
    (hf : findIn K (.ref C) name = some (some (.ref f))) (ht : typeIn K (.ref f) = some (.type "function")) (hs : shadowIn od name = some false) (h : Q (.ref f, [.ref x]) s) :
    wpAny (model prog w) A (getMethod (.ref x) name pl) Q E s := by
  unfold getMethod specialOf
  refine wpAny_bind (wpAny_bind (I.type.here ((looks_findIn X hga).here ?_)))
  dsimp only
  rw [hcan, if_neg (by decide)]
  refine wpAny_bind (wpAny_bind (I.type.here ((looks_findIn X hk).here ?_)))
  refine wpAny_bind (wpAny_bind (I.type.here ((looks_findIn X hf).here (wpAny_bind ((looks_typeIn X ht).here ?_)))))
  rw [if_neg (by decide +kernel)]
  refine wpAny_bind (wpAny_loadPart I.at_ ?_)
  have hd := I.dict
  cases e : ox.dict with
  | none => exact wpAny_bind (wpAny_rule (wpAny_pure h))
  | some dx =>
    cases od with
    | none => rw [e] at hd; exact hd.elim
    | some o =>
      rw [e] at hd
      obtain ⟨r, a, b⟩ := Option.map_eq_some_iff.mp hs
      refine wpAny_bind (wpAny_bind (wpAny_loadPart hd ?_))
      rw [nsLook_of a]
      refine wpAny_pure ?_
      rw [b]
      exact wpAny_bind (wpAny_rule (wpAny_pure h))
end
theorem canon_list_ga : Manifest.canonical "list.__getattribute__" = "object.__getattribute__" := by decide +kernel
section
variable {prog : Program} {w : World} {A : Around} {E : Value → Shared → Prop} {s : Shared}
theorem check_sub {M : Model} {i owner n : String} {self : Value} {rest : List Value} {kw : List (Str × Value)} {Q : Unit → Shared → Prop}
    (hk : builtinKind i = some .slot ∨ builtinKind i = some .method) (hs : splitId i = some (owner, n)) (hi : Looks M s.heap (isInstance self (.type owner)) true) (ha : argsOk i ⟨self :: rest, kw⟩) (q : Q () s) :
    wpAny M A (checkBuiltinCall i ⟨self :: rest, kw⟩) Q E s := by
  rcases hk with hk | hk <;> simp only [checkBuiltinCall, hk, hs]
  all_goals (
    refine wpAny_bind (hi.here ?_)
    simp only [Bool.not_true, Bool.false_eq_true, if_false]
    cases hsig : Manifest.signature? i with
    | none => exact wpAny_pure q
    | some sig =>
      simp only [argsOk, hsig] at ha
      have h2 : Bind.checkArgs i sig ⟨self :: rest, kw⟩ = pure () := ha
      show wpAny M A (Bind.checkArgs i sig ⟨self :: rest, kw⟩) Q E s
      rw [h2]; exact wpAny_pure q)
theorem call_sub {id owner n : String} {b : Builtin} {self : Value} {rest : List Value} {Q : Value → Shared → Prop} (hp : plainId id = true) (hb : entryFor table id = some b)
    (hk : builtinKind id = some .slot ∨ builtinKind id = some .method) (hs : splitId id = some (owner, n)) (hi : Looks (model prog w) s.heap (isInstance self (.type owner)) true) (ha : argsOk id ⟨self :: rest, []⟩)
    (hc : wpAny (model prog w) A.in1 (b ⟨self :: rest, []⟩) (fun fin s' => ∃ v, fin = .done (.ret v) ∧ Q v s') E s) : wpAny (model prog w) A (call (.builtin id) (self :: rest)) Q E s := by
  refine wpAny_call (codeAny_call_builtin hp hb (check_sub hk hs hi ha (wpAny_mono hc (fun fin s' h' => ?_) fun _ _ h' => h')))
  obtain ⟨v, rfl, hv⟩ := h'; exact hv
theorem inst_row {h₀ h : Heap} {L r rd : Addr} {vs : List Value} {n : Nat} {od : Obj} {news : List (Addr × Obj)} (N : News h₀ L h news) (h1 : (r, rowO rd vs n) ∈ news) (h2 : (rd, od) ∈ news) :
    InstAt h r (rowO rd vs n) 143 (some od) := ⟨(N _ h1).1, rfl, rfl, (N _ h2).1⟩
theorem isi_row {K : Frag} {M : Model} {h : Heap} {r : Addr} {ox : Obj} {od : Option Obj} (X : K.In h) (I : InstAt h r ox 143 od) (e : mroIn K 143 (.type "list") = some true) : Looks M h (isInstance (.ref r) (.type "list")) true :=
  I.type.andThen (looks_mroIn X e)
end
section
variable {prog : Program} {w : World} {A : Around} {E : Value → Shared → Prop} {s : Shared} {env : Env} {h₀ : Heap} {x : Str} {body : List Stmt} {Q : Flow → Shared → Prop}
theorem unrPost_mono {L : Addr} {s₁ : Shared} {I : Addr} {it : Obj} {r r' : (Str → Option Value) → List (Addr × Obj) → Prop} (hr : ∀ m n, r m n → r' m n) : ∀ f s₂, UnrPost h₀ L s₁ I it r Q f s₂ → UnrPost h₀ L s₁ I it r' Q f s₂ := by
  intro f s₂ h
  have go : UnrEnd h₀ L s₁ I it r s₂ → UnrEnd h₀ L s₁ I it r' s₂ := fun ⟨h', tk, m', n', e, F, N, o, q⟩ => ⟨h', tk, m', n', e, F, N, o, hr _ _ q⟩
  cases f <;> first | exact h | exact go h
theorem strRest_inv {I : Addr} {c : Str} {news : List (Addr × Obj)} (J : Nat → (Str → Option Value) → Prop)
    (step : ∀ i m (u : Tok) (it : Obj) h tk, J i m → Fr h₀ env.locals h (fun y => if y = x then some (.str c u) else m y) → News h₀ env.locals h ((I, it) :: news) →
      wpAny (model prog w) A (execs body env) (UnrPost h₀ env.locals { s with heap := h, toks := tk } I it (fun m' n' => J (i + 1) m' ∧ n' = news) Q) E { s with heap := h, toks := tk })
    (N : Nat) (done : ∀ m h tk, J N m → Fr h₀ env.locals h m → News h₀ env.locals h news → Q .next { s with heap := h, toks := tk }) :
    ∀ k i m, i + k = N → J i m → StrRest prog w A E h₀ env x body Q s I (List.replicate k c) m news
  | 0, i, m, e, hj => fun h tk F Nn => done m h tk (by have : i = N := by omega
                                                       rw [← this]; exact hj) F Nn
  | k + 1, i, m, e, hj => by
    rw [List.replicate_succ]
    intro u it h tk F Nn
    refine wpAny_mono (step i m u it h tk hj F Nn) (unrPost_mono fun m' n' => ?_) fun _ _ z => z
    rintro ⟨hj', rfl⟩
    exact strRest_inv J step N done k (i + 1) m' (by omega) hj'
end
section
open PyProof Builtin Builtin.Str
theorem slice_text (x : Str) (a b : Nat) (hab : a ≤ b) (hb : b ≤ x.length) : Txt.slice x (some (a : Int)) (some (b : Int)) = ⟨((x.cps.toList.drop a).take (b - a)).toArray⟩ := by
  have e : PySem.Builtin.Str.strSliceIndices (some (a : Int)) (some (b : Int)) 1 x.length = (List.range (b - a)).map (a + ·) := by
    unfold PySem.Builtin.Str.strSliceIndices
    simp only [show (1 : Int) > 0 by decide, if_true]
    rw [← sliceRange_one]
    congr 1
    · omega
    · omega
  unfold Txt.slice
  rw [e, pick_run]
  split
  · rename_i h
    simp only [List.length_map, List.length_range, Bool.and_eq_true, beq_iff_eq] at h
    have h2 : b - a = x.length := h.2
    have ha : a = 0 := by omega
    subst ha
    rw [List.drop_zero, h2]
    have hx : x.cps.toList.take x.length = x.cps.toList := List.take_of_length_le (by rw [Array.length_toList]; exact Nat.le_refl _)
    rw [hx]
  · rfl
end
section
variable {prog : Program} {w : World} {A : Around} {E : Value → Shared → Prop} {s : Shared} {env : Env} {h₀ : Heap} {target : Expr} {body : List Stmt} {Q : Flow → Shared → Prop}
theorem unrPostW_mono {L : Addr} {s₁ : Shared} {its : List (Addr × Obj)} {r r' : (Str → Option Value) → List (Addr × Obj) → Prop} (hr : ∀ m n, r m n → r' m n) : ∀ f s₂, UnrPostW h₀ L s₁ its r Q f s₂ → UnrPostW h₀ L s₁ its r' Q f s₂ := by
  intro f s₂ h
  have go : UnrEndW h₀ L s₁ its r s₂ → UnrEndW h₀ L s₁ its r' s₂ := fun ⟨h', tk, m', n', e, F, N, o, q⟩ => ⟨h', tk, m', n', e, F, N, o, hr _ _ q⟩
  cases f <;> first | exact h | exact go h
theorem items_inv {α : Type} {I : Addr} {c : String} {keep : List (Addr × Obj)} (mk : α → Itm) (J : List α → (Str → Option Value) → List (Addr × Obj) → Prop)
    (step : ∀ x r m news (v : Value) (h : Heap) (tk : Nat) (io : Obj), J (x :: r) m news → (mk x).Is v h → io.cls = .type c → Fr h₀ env.locals h m → News h₀ env.locals h ((I, io) :: news) →
      wpAny (model prog w) A (assign target env v) (fun _ s₂ => wpAny (model prog w) A (execs body env) (UnrPostW h₀ env.locals { s with heap := h, toks := tk } [(I, io)] (fun m' n' => SubL keep n' ∧ J r m' n') Q) E s₂) E { s with heap := h, toks := tk })
    (done : ∀ m news h tk, J [] m news → Fr h₀ env.locals h m → News h₀ env.locals h news → Q .next { s with heap := h, toks := tk }) :
    ∀ (l : List α) m news, J l m news → ItemsRest prog w A E h₀ env target body Q s [(I, c)] keep (l.map mk) m news
  | [], m, news, hj => fun h tk F N => done m news h tk hj F N
  | x :: r, m, news, hj => by
    intro v h tk hv F
    refine AllObj.cons fun io hio => AllObj.nil fun N => ?_
    refine wpAny_mono (step x r m news v h tk io hj hv hio F N) (fun _ s₂ h₂ => wpAny_mono h₂ (unrPostW_mono fun m' n' => ?_) fun _ _ e => e) fun _ _ e => e
    rintro ⟨hs, hj'⟩
    exact ⟨hs, items_inv mk J step done r m' n' hj'⟩
end
end Mine
end
/-! part Acc -/
section
theorem Mine.rstAcc : True := by
  w_top off
  trivial
open PySem PySem.Spec PySem.Calls PySem.W PyProof.Rows
set_option maxRecDepth 100000
set_option maxHeartbeats 4000000
namespace Mine

theorem allLt_all {d : Addr} : ∀ {l : List (Addr × Obj)}, AllLt d l → ∀ p ∈ l, p.1 < d
  | [], _, _, h => nomatch h
  | _ :: _, h, p, hp => by
    rcases List.mem_cons.mp hp with rfl | hp
    · exact h.1
    · exact allLt_all h.2 p hp
theorem UpdF.mem {d : Addr} {o : Obj} {l : List (Addr × Obj)} {g : Obj → List (Addr × Obj)} (U : UpdF d o l g) : (d, o) ∈ l := by
  obtain ⟨pre, post, rfl, _⟩ := U.split
  exact List.mem_append.mpr (.inr (.head _))
theorem UpdF.mem' {d : Addr} {o : Obj} {l : List (Addr × Obj)} {g : Obj → List (Addr × Obj)} (U : UpdF d o l g) (o' : Obj) : (d, o') ∈ g o' := by
  obtain ⟨pre, post, _, e, _⟩ := U.split
  rw [e]; exact List.mem_append.mpr (.inr (.head _))
theorem UpdF.keep {d : Addr} {o : Obj} {l : List (Addr × Obj)} {g : Obj → List (Addr × Obj)} (U : UpdF d o l g) {p : Addr × Obj} (h : p ∈ l) (hn : p.1 ≠ d) (o' : Obj) : p ∈ g o' := by
  obtain ⟨pre, post, rfl, e, _⟩ := U.split
  rw [e]
  rcases List.mem_append.mp h with h | h
  · exact List.mem_append.mpr (.inl h)
  · rcases List.mem_cons.mp h with rfl | h
    · exact absurd rfl hn
    · exact List.mem_append.mpr (.inr (.tail _ h))
theorem UpdF.back {d : Addr} {o : Obj} {l : List (Addr × Obj)} {g : Obj → List (Addr × Obj)} (U : UpdF d o l g) {p : Addr × Obj} {o' : Obj} (h : p ∈ g o') : p = (d, o') ∨ (p ∈ l ∧ p.1 ≠ d) := by
  obtain ⟨pre, post, rfl, e, h1, h2⟩ := U.split
  rw [e] at h
  rcases List.mem_append.mp h with h | h
  · exact .inr ⟨List.mem_append.mpr (.inl h), h1 _ h⟩
  · rcases List.mem_cons.mp h with rfl | h
    · exact .inl rfl
    · exact .inr ⟨List.mem_append.mpr (.inr (.tail _ h)), h2 _ h⟩
theorem updF_news {h₀ h : Heap} {L d : Addr} {m : Str → Option Value} {news : List (Addr × Obj)} {g : Obj → List (Addr × Obj)} {o o' : Obj} {f : Obj → Obj} (F : Fr h₀ L h m) (N : News h₀ L h news) (U : UpdF d o news g)
    (e : f o = o') (hf : o'.isFreed = false) : Fr h₀ L (h.update d f) m ∧ News h₀ L (h.update d f) (g o') := by
  obtain ⟨pre, post, rfl, eg, a, b⟩ := U.split
  rw [eg]
  exact news_upd F N a b e hf
theorem ne_of_obj {h₀ h : Heap} {L a b : Addr} {o o' : Obj} {news : List (Addr × Obj)} (N : News h₀ L h news) (ha : (a, o) ∈ news) (hb : (b, o') ∈ news) (hn : o ≠ o') : a ≠ b := by
  rintro rfl
  exact hn (Option.some.inj ((N _ ha).1.symm.trans (N _ hb).1))
theorem ne_of_cls {h₀ h : Heap} {L a b : Addr} {o o' : Obj} {news : List (Addr × Obj)} (N : News h₀ L h news) (ha : (a, o) ∈ news) (hb : (b, o') ∈ news) (hn : o.cls ≠ o'.cls) : a ≠ b :=
  ne_of_obj N ha hb fun e => hn (by rw [e])

theorem mapSeq_row {rd : Addr} {n : Nat} (f : Array Value → Array Value) (vs ws : List Value) (hf : f vs.toArray = ws.toArray) : ∃ n', Obj.mapSeq f (rowO rd vs n) = rowO rd ws n' := by
  refine ⟨if ws.toArray.size == vs.toArray.size then n else n + 1, ?_⟩
  simp only [Obj.mapSeq, hf]
section
variable {prog : Program} {w : World} {A : Around} {E : Value → Shared → Prop} {s : Shared} {K : Frag} {x C : Addr} {ox : Obj} {od : Option Obj} {h₀ : Heap} {L : Addr} {m : Str → Option Value} {news : List (Addr × Obj)} {g : Obj → List (Addr × Obj)}
theorem special_bi {M : Model} {name : Str} {id : String} {args : List Value} {Q : Option Value → Shared → Prop} (X : K.In s.heap) (I : InstAt s.heap x ox C od)
    (hs : findIn K (.ref C) name = some (some (.builtin id))) (hb : bindSpecial (.builtin id) (.ref x) = pure (.builtin id, [.ref x])) (h : wpAny M A (call (.builtin id) (.ref x :: args)) (fun v => Q (some v)) E s) :
    wpAny M A (callSpecial? (.ref x) name args) Q E s :=
  wpAny_bind (wpAny_bind (I.type.here ((looks_findIn X hs).here (wpAny_holding (wpAny_bind ((Looks.of_pure hb).here (wpAny_bind (wpAny_mono h (fun _ _ z => wpAny_pure z) fun _ _ z => z))))))))

theorem append_row {r rd : Addr} {vs : List Value} {n : Nat} {v : Value} {Q : Value → Shared → Prop} (F : Fr h₀ L s.heap m) (N : News h₀ L s.heap news) (U : UpdF r (rowO rd vs n) news g)
    (hi : Looks (model prog w) s.heap (isInstance (.ref r) (.type "list")) true)
    (h : ∀ h', Fr h₀ L h' m → News h₀ L h' (g (rowO rd (vs ++ [v]) (n + 1))) → Q .none { s with heap := h' }) (hsz : vs.length ≤ sizeLine) : wpAny (model prog w) A (call (.builtin "list.append") [.ref r, v]) Q E s := by
  have z := N _ (UpdF.mem U)
  refine call_sub (n := "append") (by decide +kernel) PySem.entry_list_append (.inr (by decide +kernel)) (by decide +kernel) hi (PySem.args_list_append _ _) ?_
  show wpAny _ _ (updateSeq r (·.push v) >>= fun _ => ret .none) _ _ s
  refine wpAny_bind (wpAny_updateSeq z.1 rfl (wpAny_pure ⟨.none, rfl, ?_⟩) (by rw [List.size_toArray]; exact hsz))
  have := updF_news (f := Obj.mapSeq (·.push v)) (o' := rowO rd (vs ++ [v]) (n + 1)) F N U (by simp [Obj.mapSeq]) rfl
  exact h _ this.1 this.2

theorem no_seq {M : Model} {Q : Value → Shared → Prop} {v : Value} {name : Str} (X : K.In s.heap) (I : InstAt s.heap x ox C od) (hq : noSeq K C = true) (h : Q v s) : wpAny M A (sequenceKey (.ref x) v name) Q E s := by
  unfold sequenceKey
  refine wpAny_bind (I.type.here ?_)
  refine wpAny_bind ((anyM_none X hq).here ?_)
  rw [if_pos (show (!false) = true from rfl)]
  exact wpAny_pure h

theorem slice_row {r rd sl : Addr} {vs : List Value} {n : Nat} {vl vu : Value} {lo hi : Option Int} {Q : Value → Shared → Prop} (X : K.In s.heap) (I : InstAt s.heap r (rowO rd vs n) 143 od) (hq : noSeq K 143 = true)
    (hg : findIn K (.ref 143) "__getitem__" = some (some (.builtin "list.__getitem__"))) (he : mroIn K 143 (.type "list") = some true)
    (hs : s.heap.IsSliceOf sl vl vu .none) (pl : IsPart vl lo) (pu : IsPart vu hi)
    (h : Q (.ref s.heap.objs.size) { s with heap := s.heap.push (lstO (slicePick vs.toArray lo hi none).toList 0) }) (hsz : vs.length ≤ sizeLine) :
    wpAny (model prog w) A (getItem (.ref r) (.ref sl)) Q E s := by
  obtain ⟨os, hos, hcs, hds⟩ := id hs
  have hTs : s.TypeIs (.ref sl) "slice" := ⟨os, hos, hcs⟩
  unfold getItem
  refine wpAny_holding (wpAny_bind (no_seq X I hq ?_))
  refine wpAny_bind (special_bi X I hg (PySem.slot_list_getitem.bind _) ?_)
  refine call_sub (n := "__getitem__") (by decide +kernel) PySem.entry_list_getitem (by first | exact .inl (by decide +kernel) | exact .inr (by decide +kernel)) (by decide +kernel) (isi_row X I he) (PySem.args_list_getitem _ _) ?_
  show wpAny _ _ (Builtin.List.listSubscript? (.ref sl) >>= _) _ _ s
  refine wpAny_bind ?_
  unfold Builtin.List.listSubscript?
  refine wpAny_bind (wpAny_specialOf hTs slice_no_index ?_)
  simp only [Option.isNone_none, if_true]
  refine wpAny_pure ?_
  show wpAny _ _ (typeOf (.ref sl) >>= _) _ _ s
  refine wpAny_bind (wpAny_typeOf hTs ?_)
  rw [if_neg (by decide)]
  rw [listSliceParts_eq]
  refine wpAny_bind (wpAny_bind (wpAny_field hos hds (x := .none) rfl (wpAny_bind (wpAny_listPart .none ?_))))
  rw [if_neg (by decide)]
  refine wpAny_bind (wpAny_field hos hds (x := vl) rfl (wpAny_bind (wpAny_listPart pl ?_)))
  refine wpAny_bind (wpAny_field hos hds (x := vu) rfl (wpAny_bind (wpAny_listPart pu (wpAny_pure ?_))))
  refine wpAny_bind (m := Builtin.List.listItems (.ref r)) ?_
  unfold Builtin.List.listItems
  refine wpAny_bind (wpAny_seqItems I.at_ rfl (wpAny_pure ?_))
  refine wpAny_bind (wpAny_of_eq (sliceIndices_raw lo hi none vs.toArray.size (by simp)) ?_)
  refine wpAny_bind (wpAny_newObj_type (wpAny_pure ⟨_, rfl, wpAny_pure ?_⟩) (Nat.le_trans (slicePick_size_le vs.toArray lo hi none) (by rw [List.size_toArray]; exact hsz)))
  rw [lstO, Array.toArray_toList] at h
  exact h

theorem setslice_row {r rd sl e : Addr} {vs : List Value} {n ne : Nat} {i : Nat} {t : Tok} {Q : Unit → Shared → Prop} (F : Fr h₀ L s.heap m) (N : News h₀ L s.heap news) (U : UpdF r (rowO rd vs n) news g) (X : K.In s.heap) (I : InstAt s.heap r (rowO rd vs n) 143 od) (hq : noSeq K 143 = true)
    (hg : findIn K (.ref 143) "__setitem__" = some (some (.builtin "list.__setitem__"))) (he : mroIn K 143 (.type "list") = some true)
    (hs : s.heap.IsSliceOf sl (.int i t) .none .none) (hl : s.heap.get? e = some (lstO [] ne)) (hr : r ≠ e) (hin : i ≤ vs.length)
    (h : ∀ h' n', Fr h₀ L h' m → News h₀ L h' (g (rowO rd (vs.take i) n')) → Q () { s with heap := h' }) (hsz : vs.length ≤ sizeLine) :
    wpAny (model prog w) A (setItem (.ref r) (.ref sl) (.ref e)) Q E s := by
  obtain ⟨os, hos, hcs, hds⟩ := id hs
  have hTs : s.TypeIs (.ref sl) "slice" := ⟨os, hos, hcs⟩
  have hTe : s.TypeIs (.ref e) "list" := ⟨_, hl, rfl⟩
  unfold setItem
  refine wpAny_holding (wpAny_bind (no_seq X I hq ?_))
  refine wpAny_bind (special_bi X I hg (PySem.slot_list_setitem.bind _) ?_)
  refine call_sub (n := "__setitem__") (by decide +kernel) PySem.entry_list_setitem (by first | exact .inl (by decide +kernel) | exact .inr (by decide +kernel)) (by decide +kernel) (isi_row X I he) (PySem.args_list_setitem _ _ _) ?_
  show wpAny _ _ (Builtin.List.listSubscript? (.ref sl) >>= _) _ _ s
  refine wpAny_bind ?_
  unfold Builtin.List.listSubscript?
  refine wpAny_bind (wpAny_specialOf hTs slice_no_index ?_)
  simp only [Option.isNone_none, if_true]
  refine wpAny_pure ?_
  show wpAny _ _ (typeOf (.ref sl) >>= _) _ _ s
  refine wpAny_bind (wpAny_typeOf hTs ?_)
  rw [if_neg (by decide)]
  rw [listSliceParts_eq]
  refine wpAny_bind (wpAny_bind (wpAny_field hos hds (x := .none) rfl (wpAny_bind (wpAny_listPart .none ?_))))
  rw [if_neg (by decide)]
  refine wpAny_bind (wpAny_field hos hds (x := .int i t) rfl (wpAny_bind (wpAny_listPart (.int i t) ?_)))
  refine wpAny_bind (wpAny_field hos hds (x := .none) rfl (wpAny_bind (wpAny_listPart .none (wpAny_pure ?_))))
  have hsame : Builtin.List.listSameRef (.ref r) (.ref e) = false := by simp [Builtin.List.listSameRef, hr]
  dsimp only
  rw [hsame]
  simp only [Bool.false_eq_true, if_false]
  unfold Builtin.List.listAllItems
  refine wpAny_bind (wpAny_bind (wpAny_typeOf hTe ?_))
  rw [if_pos (by decide)]
  unfold Builtin.List.listItems
  refine wpAny_bind (wpAny_seqItems hl rfl (wpAny_pure ?_))
  refine wpAny_bind (wpAny_bind (wpAny_seqItems I.at_ rfl (wpAny_pure ?_)))
  refine wpAny_bind (wpAny_of_eq (sliceIndices_raw (some (i : Int)) none none vs.toArray.size (by simp)) ?_)
  have hb : sliceBounds (some (i : Int)) none none vs.toArray.size = ((i : Int), (vs.length : Int), 1) := by
    simp only [sliceBounds, Option.getD_none, List.size_toArray]
    have h1 : ¬ ((i : Int) < 0) := by omega
    simp only [h1, if_false, show (1 : Int) > 0 by decide, if_true]
    congr 1
    omega
  rw [hb]
  dsimp only
  rw [if_pos (by decide)]
  refine wpAny_bind (wpAny_rule ?_)
  have htl : Builtin.List.listTooLong (vs.toArray.size + (#[] : Array Value).size) = false := by
    simp only [Builtin.List.listTooLong, List.size_toArray]
    exact decide_eq_false (by show ¬ (vs.length + 0 > sizeLine); omega)
  rw [htl]
  simp only [Bool.false_eq_true, if_false]
  have hf : (fun xs : Array Value => xs.extract 0 (i : Int).toNat ++ #[] ++ xs.extract (max (i : Int) (vs.length : Int)).toNat) vs.toArray = (vs.take i).toArray := by
    apply Array.ext'
    have e : max (i : Int) (vs.length : Int) = (vs.length : Int) := by omega
    simp [e]
  refine wpAny_bind (m := Builtin.List.listUpdate (.ref r) _) ?_
  refine wpAny_updateSeq I.at_ rfl ?_ (by rw [List.size_toArray]; exact hsz) (by dsimp only at hf; rw [hf, List.size_toArray, List.length_take]; omega)
  refine wpAny_bind (wpAny_letGo (wpAny_pure ⟨.none, rfl, ?_⟩))
  obtain ⟨n', hn'⟩ := mapSeq_row (rd := rd) (n := n) (fun xs : Array Value => xs.extract 0 (i : Int).toNat ++ #[] ++ xs.extract (max (i : Int) (vs.length : Int)).toNat) vs (vs.take i) hf
  have := updF_news (f := Obj.mapSeq (fun xs : Array Value => xs.extract 0 (i : Int).toNat ++ #[] ++ xs.extract (max (i : Int) (vs.length : Int)).toNat)) (o' := rowO rd (vs.take i) n') F N U hn' rfl
  exact wpAny_pure (h _ _ this.1 this.2)

theorem sub_tail_row {value slice : Expr} {r rd sl : Addr} {vs : List Value} {n : Nat} {ops : List Value} {Q : Value → Shared → Prop} (X : K.In s.heap) (I : InstAt s.heap r (rowO rd vs n) 143 od)
    (hg : findIn K (.ref 143) "__getitem__" = some (some (.builtin "list.__getitem__"))) (h : wpAny (model prog w) A (getItem (.ref r) (.ref sl)) Q E s)
    (hs : subscripted slice false (.ref r) (.ref sl) = operate ops (getItem (.ref r) (.ref sl))) (ht : ∀ v, letTemporaryGo value (.ref r) v = pure ()) :
    wpAny (model prog w) A (subscriptTail value slice (.ref r) (.ref sl)) Q E s := by
  unfold subscriptTail getitemInPython
  refine wpAny_bind (wpAny_bind (wpAny_bind (I.type.here ((looks_findIn X hg).here ?_))))
  refine wpAny_pure ?_
  rw [hs]
  exact wpAny_bind (wpAny_operating (wpAny_mono h (fun v s₃ h₃ => wpAny_bind (wpAny_of_eq (ht v) (wpAny_pure h₃))) fun _ _ x => x))
theorem row_slice {value slice : Expr} {r rd : Addr} {ro : Obj} {vs : List Value} {n : Nat} {vl vu : Value} {lo hi : Option Int} {Q : Value → Shared → Prop} (F : Fr h₀ L s.heap m) (N : News h₀ L s.heap news) (X₀ : K.In h₀)
    (m0 : (r, rowO rd vs n) ∈ news) (m1 : (rd, ro) ∈ news) (hq : noSeq K 143 = true) (hg : findIn K (.ref 143) "__getitem__" = some (some (.builtin "list.__getitem__"))) (he : mroIn K 143 (.type "list") = some true)
    (pl : IsPart vl lo) (pu : IsPart vu hi)
    (h : ∀ D h', Fr h₀ L h' m → News h₀ L h' ((D, lstO (slicePick vs.toArray lo hi none).toList 0) :: news) → (∀ p ∈ news, p.1 < D) → Q (.ref D) { s with heap := h' })
    (hs : subscripted slice false (.ref r) (.ref s.heap.objs.size) = operate [.ref s.heap.objs.size, .ref r] (getItem (.ref r) (.ref s.heap.objs.size))) (ht : ∀ v, letTemporaryGo value (.ref r) v = pure ()) (hsz : vs.length ≤ sizeLine) :
    wpAny (model prog w) A (subscriptTail value slice (.ref r) (.ref s.heap.objs.size)) Q E { s with heap := s.heap.push { cls := .type "slice", data := .fields #[vl, vu, .none] } } := by
  have F1 := F.push { cls := .type "slice", data := .fields #[vl, vu, .none] }
  have N1 : News h₀ L (s.heap.push { cls := .type "slice", data := .fields #[vl, vu, .none] }) news := N.grown fun _ _ e => Heap.get?_push_of_some _ e
  have X : K.In (s.heap.push { cls := .type "slice", data := .fields #[vl, vu, .none] }) := X₀.keeps F1.keep
  have I := inst_row N1 m0 m1
  refine sub_tail_row (s := { s with heap := s.heap.push { cls := .type "slice", data := .fields #[vl, vu, .none] } }) X I hg (slice_row (s := { s with heap := s.heap.push { cls := .type "slice", data := .fields #[vl, vu, .none] } }) X I hq hg he (Heap.IsSliceOf.new ..) pl pu ?_ hsz) hs ht
  have N2 := News.push F1 N1 (lstO (slicePick vs.toArray lo hi none).toList 0)
  refine h _ _ (F1.push _) N2 fun p hp => ?_
  have := Heap.lt_size (N p hp).1
  dsimp only
  rw [Heap.size_push]
  exact Nat.lt_succ_of_lt this
theorem slice_from (vs : List Value) (i : Nat) (h : i ≤ vs.length) : (slicePick vs.toArray (some (i : Int)) none none).toList = vs.drop i := by
  rw [slicePick_from _ _ (by rw [List.size_toArray]; exact h)]
end
end Mine
end
/-! part C0 -/
section
theorem Mine.rstC0 : True := by
  w_top off
  trivial
open PySem PySem.Spec PySem.Calls PySem.W PyProof.Rows
set_option maxRecDepth 100000
set_option maxHeartbeats 4000000
namespace Mine
theorem fillz : (PySem.Challenge.rw_xg0075_01 = PySem.Challenge.rw_xg0075_01) ∧ (Mine.hd.heap_39 = Mine.hd.heap_39) := by
  k_fill
  exact ⟨rfl, rfl⟩
local macro_rules | `(tactic| k_mem) => `(tactic| assumption)
local macro_rules | `(tactic| k_all) => `(tactic| first | assumption | exact ne_all_of_lt (by assumption))
section
variable {w : World} {loose : List Str} {mean : ExcName → Option Value} {mg mb : Str → Option Value}
  {dp un : Nat} {gd : Option (List Code)} {cn : Str} {cs : Scope} {a : Addr} {ccd : Value} {cl : List (Str × Addr)} {outer : List Env} {A₀ : Around} {base h₀ : Heap} {L : Addr} {m : Str → Option Value} {s : Shared} {Q E : Value → Shared → Prop} {news : List (Addr × Obj)}

theorem tc_spec {sel : Addr}
    (B : Below A₀ base outer h₀) (F : Fr h₀ L s.heap m) (X : (Mine.hd.heap_39 w.params).In h₀) (N : News h₀ L s.heap news) (T : Top Mine.hd.view_39 loose mean mg mb h₀) (hK : cs.kind = .function)
    (hd : dp + 8 < recursionLimit) (hu : un + 64 < cLine)
    (hret : ∀ (q dq : Addr) (hk : Int) (i0 : Tok) (n : Nat) (h' : Heap) (tk' : Nat), Fr h₀ L h' m → News h₀ L h' ((q, instObj 45 dq) :: (dq, dictOf [⟨hk, .str (Str.ofString "comp_select_list") i0, .ref sel⟩] n) :: news) → (∀ p ∈ news, p.1 < dq) → dq < q → Q (.ref q) { s with heap := h', toks := tk' }) :
    wpAny (model Challenge.rw_xg0075_01.row.prog w) (ktrTop dp un gd cn cs L a ccd cl outer) (call (.ref 45) [.ref sel]) Q E s := by
  refine wpAny_call ?_
  k_dflt (refine' make_K F N (X.keeps F.keep) ?km ?ki ?kf ?_)
  case km => k_is
  case ki => k_is
  case kf => k_is
  intro q dq h1 F1 N1 lq lq2
  have lq3 := ltN lq2
  refine' code_def (binds := [(Str.ofString "self", .ref q), (Str.ofString "comp_select_list", .ref sel)]) B F1 X N1 T (by exact rfl) (by exact rfl) hK ?k6 ?k7 ?k8 ?k9 ?kB ?_ ?c2 ?c3 ?c4 ?c5
  case k6 => k_is
  case k7 => k_is
  case k8 => ktr_room
  case k9 => exact BindsTo.of_eq rfl
  case c5 => decide
  case kB => exact locs rfl
  case c2 => exact rfl
  case c3 => exact rfl
  case c4 => exact rfl
  intro g' L' h' FG' F' N' B' X' T'
  try dsimp only
  try k_fold
  repeat' walk1
  exact hret q dq _ _ _ _ _ (by assumption) (by assumption) lq lq2
end
end Mine
end
/-! part C1 -/
section
local macro_rules | `(tactic| walk_at "pad") => `(tactic| skip)
theorem Mine.rstC1 : True := by
  w_top off
  trivial
open PySem PySem.Spec PySem.Calls PySem.W PyProof.Rows
set_option maxRecDepth 100000
set_option maxHeartbeats 4000000
namespace Mine

section
variable {w : World} {loose : List Str} {mean : ExcName → Option Value} {mg mb : Str → Option Value}
  {dp un : Nat} {gd : Option (List Code)} {cn : Str} {cs : Scope} {a : Addr} {ccd : Value} {cl : List (Str × Addr)} {outer : List Env} {A₀ : Around} {base h₀ : Heap} {L : Addr} {m : Str → Option Value} {s : Shared} {Q E : Value → Shared → Prop} {news : List (Addr × Obj)}

local macro_rules | `(tactic| k_mem) => `(tactic| assumption)
def cmpS (side p q : Int) (x y : Str) : Int := if p < q then side else if q < p then -side else if x.cps.toList < y.cps.toList then -side else if y.cps.toList < x.cps.toList then side else 0

theorem compare_spec {so dso sel t0 t1 lt rt : Addr} {side p q : Int} {x y : Str} {i0 k0 k1 k2 k3 k4 tp tx tq ty : Tok} {hk : Int} {n n0 n1 n2 n3 n4 : Nat}
    (B : Below A₀ base outer h₀) (F : Fr h₀ L s.heap m) (X : (Mine.hd.heap_39 w.params).In h₀) (N : News h₀ L s.heap news) (T : Top Mine.hd.view_39 loose mean mg mb h₀) (hK : cs.kind = .function)
    (m0 : (so, instObj 45 dso) ∈ news) (m1 : (dso, dictOf [⟨hk, .str (Str.ofString "comp_select_list") i0, .ref sel⟩] n) ∈ news)
    (m2 : (sel, tupO [.ref t0, .ref t1] n0) ∈ news) (m3 : (t0, tupO [.int 0 k1, .int (-side) k2] n1) ∈ news) (m4 : (t1, tupO [.int 1 k3, .int side k4] n2) ∈ news)
    (m5 : (lt, tupO [.int p tp, .str x tx] n3) ∈ news) (m6 : (rt, tupO [.int q tq, .str y ty] n4) ∈ news)
    (hd : dp + 1 < recursionLimit) (hu : un + 8 < cLine)
    (hret : ∀ (t : Tok) (h' : Heap) (tk' : Nat), Fr h₀ L h' m → News h₀ L h' news → Q (.int (cmpS side p q x y) t) { s with heap := h', toks := tk' }) :
    wpAny (model Challenge.rw_xg0075_01.row.prog w) (ktrTop dp un gd cn cs L a ccd cl outer) (call (.ref 42) [.ref so, .ref lt, .ref rt]) Q E s := by
  refine wpAny_call ?_
  refine' code_def (binds := [(Str.ofString "self", .ref so), (Str.ofString "left", .ref lt), (Str.ofString "right", .ref rt)]) B F X N T (by exact rfl) (by exact rfl) hK ?k6 ?k7 ?k8 ?k9 ?kB ?_ ?c2 ?c3 ?c4 ?c5
  case k6 => k_is
  case k7 => k_is
  case k8 => ktr_room
  case k9 => exact BindsTo.of_eq rfl
  case c5 => decide
  case kB => exact locs rfl
  case c2 => exact rfl
  case c3 => exact rfl
  case c4 => exact rfl
  intro g' L' h' FG' F' N' B' X' T'
  try dsimp only
  try k_fold
  repeat' walk1
  (rename Fr _ _ _ _ => lF'); (with_unfolding_all refine' For_turns lF' ?_)
  repeat' walk1
  refine iter_tupTurns (lo := tupO [.ref t0, .ref t1] n0) (vs := [.ref t0, .ref t1]) (by rfl) lF' N' m2 rfl rfl ?_
  intro I l1
  repeat' walk1
  rotate_left 2
  refine unrEndA (by assumption) (by assumption) news ?_ ?_ ?_ ⟨⟨m2, trivial⟩, ?_⟩
  · intro p hp; rw [List.mem_singleton.mp hp]; exact .head _
  · intro p hp; exact .tail _ hp
  · intro p hp q hq; rw [List.mem_singleton.mp hq]; exact Nat.ne_of_lt (l1 p hp)
  repeat' walk1
  rotate_left 2
  refine unrEndA (by assumption) (by assumption) news ?_ ?_ ?_ ⟨⟨m2, trivial⟩, ?_⟩
  · intro p hp; rw [List.mem_singleton.mp hp]; exact .head _
  · intro p hp; exact .tail _ hp
  · intro p hp q hq; rw [List.mem_singleton.mp hq]; exact Nat.ne_of_lt (l1 p hp)
  repeat' walk1
  all_goals (refine cb_retI hret ?_ (by assumption) (by first | assumption | exact cb_drop (by assumption) (fun _ hp => .tail _ hp)))
  all_goals (unfold cmpS; (repeat' split) <;> first | rfl | contradiction | omega)

end
end Mine
end
/-! part C2 -/
section
theorem Mine.rstC2 : True := by
  w_top off
  trivial
open PySem PySem.Spec PySem.Calls PySem.W PyProof.Rows
set_option maxRecDepth 100000
set_option maxHeartbeats 4000000
namespace Mine
local macro_rules | `(tactic| k_mem) => `(tactic| assumption)
section
variable {w : World} {loose : List Str} {mean : ExcName → Option Value} {mg mb : Str → Option Value}
  {dp un : Nat} {gd : Option (List Code)} {cn : Str} {cs : Scope} {a : Addr} {ccd : Value} {cl : List (Str × Addr)} {outer : List Env} {A₀ : Around} {base h₀ : Heap} {L : Addr} {m : Str → Option Value} {s : Shared} {Q E : Value → Shared → Prop} {news : List (Addr × Obj)}

theorem push_spec {r rd : Addr} {hk : Int} {i0 i1 : Tok} {nd : Nat} {vs : List Value} {n : Nat} {g : Obj → List (Addr × Obj)} {fv sv : Value}
    (B : Below A₀ base outer h₀) (F : Fr h₀ L s.heap m) (X : (Mine.hd.heap_39 w.params).In h₀) (N : News h₀ L s.heap news) (T : Top Mine.hd.view_39 loose mean mg mb h₀) (hK : cs.kind = .function)
    (U : UpdF r (rowO rd vs n) news g) (m1 : (rd, dictOf [⟨hk, .str (Str.ofString "_initial_size") i0, .int 0 i1⟩] nd) ∈ news) (hz : vs.length < 1000)
    (hd : dp + 8 < recursionLimit) (hu : un + 64 < cLine)
    (hret : ∀ (t : Addr) (h' : Heap) (tk' : Nat), Fr h₀ L h' m → News h₀ L h' ((t, tupO [fv, sv] 0) :: g (rowO rd (vs ++ [.ref t]) (n + 1))) → (∀ p ∈ news, p.1 < t) → Q .none { s with heap := h', toks := tk' }) :
    wpAny (model Challenge.rw_xg0075_01.row.prog w) (ktrTop dp un gd cn cs L a ccd cl outer) (call (.ref 87) [.ref r, fv, sv]) Q E s := by
  have m0 := UpdF.mem U
  refine wpAny_call ?_
  refine' code_def (binds := [(Str.ofString "self", .ref r), (Str.ofString "fws", fv), (Str.ofString "string", sv)]) B F X N T (by exact rfl) (by exact rfl) hK ?k6 ?k7 ?k8 ?k9 ?kB ?_ ?c2 ?c3 ?c4 ?c5
  case k6 => k_is
  case k7 => k_is
  case k8 => ktr_room
  case k9 => exact BindsTo.of_eq rfl
  case c5 => decide
  case kB => exact locs rfl
  case c2 => exact rfl
  case c3 => exact rfl
  case c4 => exact rfl
  intro g' L' h' FG' F' N' B' X' T'
  try dsimp only
  try k_fold
  repeat' walk1
  k_dflt (refine' method_bi ?X ?I ?a canon_list_ga ?b ?c ?d ?e ?_)
  case X => exact X'.keeps F'.keep
  case I => exact inst_row N' m0 m1
  case a => k_is
  case b => k_is
  case c => k_is
  case d => exact PySem.type_list_append
  case e => with_unfolding_all rfl
  repeat' walk1
  rename Fr _ _ _ _ => F1
  rename News _ _ _ _ => N1
  rename (∀ _ ∈ _, _ < _) => l1
  k_dflt (refine' append_row F1 N1 (UpdF.tail (Nat.ne_of_gt (l1 _ m0)) U) ?i ?_ ?z)
  case i => exact isi_row (X'.keeps F1.keep) (inst_row N1 (.tail _ m0) (.tail _ m1)) (by k_is)
  case z => rw [sizeLine_eq]; omega
  clear F1 N1
  intro h1 F1 N1
  repeat' walk1
  exact hret _ _ _ (by assumption) (by assumption) l1

theorem pop_from_spec {r rd : Addr} {hk : Int} {i0 i1 : Tok} {nd : Nat} {vs : List Value} {n : Nat} {g : Obj → List (Addr × Obj)} {i : Nat} {ti : Tok}
    (B : Below A₀ base outer h₀) (F : Fr h₀ L s.heap m) (X : (Mine.hd.heap_39 w.params).In h₀) (N : News h₀ L s.heap news) (T : Top Mine.hd.view_39 loose mean mg mb h₀) (hK : cs.kind = .function)
    (U : UpdF r (rowO rd vs n) news g) (m1 : (rd, dictOf [⟨hk, .str (Str.ofString "_initial_size") i0, .int 0 i1⟩] nd) ∈ news) (hz : vs.length < 1000)
    (hin : i ≤ vs.length)
    (hd : dp + 8 < recursionLimit) (hu : un + 64 < cLine)
    (hret : ∀ (c : Addr) (h' : Heap) (tk' n' : Nat), Fr h₀ L h' m → News h₀ L h' ((c, lstO (vs.drop i) 0) :: g (rowO rd (vs.take i) n')) → (∀ p ∈ news, p.1 < c) → Q (.ref c) { s with heap := h', toks := tk' }) :
    wpAny (model Challenge.rw_xg0075_01.row.prog w) (ktrTop dp un gd cn cs L a ccd cl outer) (call (.ref 95) [.ref r, .int i ti]) Q E s := by
  have m0 := UpdF.mem U
  refine wpAny_call ?_
  refine' code_def (binds := [(Str.ofString "self", .ref r), (Str.ofString "i", .int i ti)]) B F X N T (by exact rfl) (by exact rfl) hK ?k6 ?k7 ?k8 ?k9 ?kB ?_ ?c2 ?c3 ?c4 ?c5
  case k6 => k_is
  case k7 => k_is
  case k8 => ktr_room
  case k9 => exact binds_K (X.keeps F.keep) rfl (by k_is) rfl rfl rfl
  case c5 => decide
  case kB => exact locs rfl
  case c2 => exact rfl
  case c3 => exact rfl
  case c4 => exact rfl
  intro g' L' h' FG' F' N' B' X' T'
  try dsimp only
  try k_fold
  repeat' walk1
  k_dflt (refine' row_slice F' N' X' m0 m1 ?q ?g ?e (.int _ _) .none ?_ ?s ?t ?z)
  case q => k_is
  case g => k_is
  case e => k_is
  case s => with_unfolding_all rfl
  case t => intro _; with_unfolding_all rfl
  case z => rw [sizeLine_eq]; omega
  intro D h1 F1 N1 l1
  repeat' walk1
  rename Fr _ _ _ _ => F2
  rename News _ _ _ _ => N2
  rename (_ ∧ AllLt _ _) => l2
  have F3 := F2.push { cls := Value.type "slice", data := Data.fields #[Value.int (↑i) ti, Value.none, Value.none] }
  have N3 := N2.grown fun _ _ e => Heap.get?_push_of_some { cls := Value.type "slice", data := Data.fields #[Value.int (↑i) ti, Value.none, Value.none] } e
  have hnr := Nat.ne_of_gt (allLt_all l2.2 _ m0)
  k_dflt (refine' setslice_row F3 N3 (UpdF.tail hnr (UpdF.tail (Nat.ne_of_gt (l1 _ m0)) U)) (X'.keeps F3.keep) (inst_row N3 (.tail _ (.tail _ m0)) (.tail _ (.tail _ m1))) ?q ?g ?e (Heap.IsSliceOf.new ..) (N3 _ (.head _)).1 (Ne.symm hnr) hin ?_ ?z)
  case q => k_is
  case g => k_is
  case e => k_is
  case z => rw [sizeLine_eq]; omega
  intro h4 n4 F4 N4
  rw [slice_from vs i hin] at N4
  clear F2 N2 F3 N3
  repeat' walk1
  exact hret _ _ _ _ (by assumption) (cb_drop (by assumption) (fun _ hp => .tail _ hp)) l1
end
end Mine
end
/-! part Sup -/
section
theorem Mine.rstSup : True := by
  w_top off
  trivial
open PySem PySem.Spec PySem.Calls PySem.W PyProof.Rows
set_option maxRecDepth 100000
set_option maxHeartbeats 4000000
namespace Mine

abbrev mwO (id : String) (x : Addr) : Obj := { cls := .type "method-wrapper", data := .fields #[.builtin id, .ref x] }
section
variable {prog : Program} {w : World} {A : Around} {E : Value → Shared → Prop} {s : Shared} {K : Frag} {x C : Addr} {ox : Obj} {od : Option Obj} {h₀ : Heap} {L : Addr} {m : Str → Option Value} {news : List (Addr × Obj)}
theorem wd_get_len {r C : Addr} {Q : Fin → Shared → Prop} (hi : Looks (model prog w) s.heap (isInstance (.ref r) (.type "list")) true)
    (h : Q (.done (.ret (.ref s.heap.objs.size))) { s with heap := s.heap.push (mwO "list.__len__" r) }) :
    wpAny (model prog w) A (Builtin.«wrapper_descriptor.__get__» ⟨[.builtin "list.__len__", .ref r, .ref C], []⟩) Q E s := by
  have h1 : ("list.__len__" : String).cutAt '.' = ["list", "__len__"] := by decide +kernel
  have h2 : ".".intercalate ["list", "__len__"].dropLast = "list" := by decide +kernel
  unfold Builtin.«wrapper_descriptor.__get__»
  k_delta "getArgs"
  k_delta "bindBuiltin"
  k_delta "checkInstance"
  k_delta "nameAndClass"
  k_delta "ownerAndName"

  repeat (first | (rw [h1, h2]) | (with_reducible refine hi.here ?_) | (simp only [Bool.not_true, Bool.false_eq_true, if_false]; done) | wp_step | dsimp only)
  exact h
theorem wd_get_init {r C : Addr} {Q : Fin → Shared → Prop} (hi : Looks (model prog w) s.heap (isInstance (.ref r) (.type "list")) true)
    (h : Q (.done (.ret (.ref s.heap.objs.size))) { s with heap := s.heap.push (mwO "list.__init__" r) }) :
    wpAny (model prog w) A (Builtin.«wrapper_descriptor.__get__» ⟨[.builtin "list.__init__", .ref r, .ref C], []⟩) Q E s := by
  have h1 : ("list.__init__" : String).cutAt '.' = ["list", "__init__"] := by decide +kernel
  have h2 : ".".intercalate ["list", "__init__"].dropLast = "list" := by decide +kernel
  unfold Builtin.«wrapper_descriptor.__get__»
  k_delta "getArgs"
  k_delta "bindBuiltin"
  k_delta "checkInstance"
  k_delta "nameAndClass"
  k_delta "ownerAndName"

  repeat (first | (rw [h1, h2]) | (with_reducible refine hi.here ?_) | (simp only [Bool.not_true, Bool.false_eq_true, if_false]; done) | wp_step | dsimp only)
  exact h
theorem slot_wd_get : Slot "wrapper_descriptor" "__get__" "wrapper_descriptor.__get__" := .of (owner := "wrapper_descriptor") (n := "__get__") (by rw [typeLookup_type, builtinLookup_eq_fast]; kernel_rfl) (by decide +kernel) (by decide +kernel) (by decide +kernel)
  (by first | exact .inl (by decide +kernel) | exact .inr (by decide +kernel)) (by rw [isSubtype_type]; kernel_rfl)
theorem entry_wd_get : entryFor table "wrapper_descriptor.__get__" = some Builtin.«wrapper_descriptor.__get__» := entryFor_of_tree (by kernel_rfl)
theorem args_wd_get (a b c : Value) : argsOk "wrapper_descriptor.__get__" ⟨[a, b, c], []⟩ := by unfold argsOk; kernel_rfl
theorem type_list_len : typeOf (.builtin "list.__len__") = pure (.type "wrapper_descriptor") := by show builtinType _ = _; rw [builtinType_eq_fast]; kernel_rfl
theorem type_list_init : typeOf (.builtin "list.__init__") = pure (.type "wrapper_descriptor") := by show builtinType _ = _; rw [builtinType_eq_fast]; kernel_rfl
theorem sub_wd : isSubtype (.type "wrapper_descriptor") (.type "wrapper_descriptor") = pure true := by rw [isSubtype_type]; kernel_rfl
end
section
variable {prog : Program} {w : World} {M : Model} {A : Around} {E : Value → Shared → Prop} {h : Heap} {g : Array GenState} {d : Drawn} {t : Nat} {os : OsState}
theorem super_ga_bi {so D x C : Addr} {id : String} {l₀ l : List Value} {K : Frag} {name : Str} {tk : Tok} {Q : Fin → Shared → Prop}
    (hso : h.get? so = some { cls := .type "super", dict := none, data := .fields #[.ref D, .ref x, .ref C], slots := #[] }) (hno : Looks (model prog w) h (opaqueClassAbove (.ref C)) none)
    (hC : Looks (model prog w) h (mroOf (.ref C)) l₀) (hl : (l₀.dropWhile (· != .ref D)).drop 1 = l) (X : K.In h)
    (hf : alongIn K name l = some (some (.builtin id))) (hty : typeOf (.builtin id) = pure (.type "wrapper_descriptor")) (hxC : x ≠ C) (hn : (name == ("__class__" : Str)) = false)
    (hwd : wpAny (model prog w) A.in1 (Builtin.«wrapper_descriptor.__get__» ⟨[.builtin id, .ref x, .ref C], []⟩) (fun fin s' => fin = .done (.ret (.ref h.objs.size)) ∧ s' = ⟨h.push (mwO id x), g, d, t, os⟩) E ⟨h, g, d, t, os⟩)
    (hq : Q (.done (.ret (.ref h.objs.size))) ⟨h.push (mwO id x), g, d, t, os⟩) :
    wpAny (model prog w) A (Builtin.«super.__getattribute__» ⟨[.ref so, .str name tk], []⟩) Q E ⟨h, g, d, t, os⟩ := by
  have hlk := slot_wd_get.lookup
  have hne : (Value.ref x == Value.ref C) = false := by simp [hxC]
  have hdt : ({ cls := .type "super", dict := none, data := .fields #[.ref D, .ref x, .ref C], slots := #[] } : Obj).data = .fields #[.ref D, .ref x, .ref C] := rfl
  have f0 : (#[.ref D, .ref x, .ref C] : Array Value)[0]? = some (.ref D) := rfl
  have f1 : (#[.ref D, .ref x, .ref C] : Array Value)[1]? = some (.ref x) := rfl
  have f2 : (#[.ref D, .ref x, .ref C] : Array Value)[2]? = some (.ref C) := rfl
  have hins : Looks (model prog w) h (isInstance (.builtin id) (.type "wrapper_descriptor")) true := (Looks.of_pure hty).andThen (Looks.of_pure sub_wd)
  unfold Builtin.«super.__getattribute__»
  repeat (first
    | (with_reducible refine wpAny_field hso hdt f0 ?_) | (with_reducible refine wpAny_field hso hdt f1 ?_) | (with_reducible refine wpAny_field hso hdt f2 ?_)
    | (with_reducible refine ks_wpAny_notOpaque hno ?_)
    | (with_reducible refine Looks.at hC ?_; rw [hl])
    | (refine ks_forIn_along X (fun _ _ => rfl) rfl ?_ hf)
    | (with_reducible refine wpAny_of_eq hty ?_)
    | (with_reducible refine call_sub (n := "__get__") (by decide +kernel) entry_wd_get (by first | exact .inl (by decide +kernel) | exact .inr (by decide +kernel)) (by decide +kernel) hins (args_wd_get _ _ _) ?_)
    | (refine wpAny_mono hwd ?_ (fun _ _ z => z); rintro fin s' ⟨rfl, rfl⟩; refine ⟨_, rfl, ?_⟩)
    | (simp only [hn, hne, Bool.or_false, Bool.false_eq_true, if_false])
    | wp_step
    | dsimp only)
  all_goals exact hq
theorem getMethod_super_bi {so D x C : Addr} {id : String} {l₀ l : List Value} {K : Frag} {name : Str} {pl : Sem Bool} {Q : Value × List Value → Shared → Prop}
    (hso : h.get? so = some { cls := .type "super", dict := none, data := .fields #[.ref D, .ref x, .ref C], slots := #[] }) (hno : Looks (model prog w) h (opaqueClassAbove (.ref C)) none)
    (hC : Looks (model prog w) h (mroOf (.ref C)) l₀) (hl : (l₀.dropWhile (· != .ref D)).drop 1 = l) (X : K.In h)
    (hf : alongIn K name l = some (some (.builtin id))) (hty : typeOf (.builtin id) = pure (.type "wrapper_descriptor")) (hxC : x ≠ C) (hn : (name == ("__class__" : Str)) = false)
    (hwd : ∀ A E, wpAny (model prog w) A (Builtin.«wrapper_descriptor.__get__» ⟨[.builtin id, .ref x, .ref C], []⟩) (fun fin s' => fin = .done (.ret (.ref h.objs.size)) ∧ s' = ⟨h.push (mwO id x), g, d, t + 1, os⟩) E ⟨h, g, d, t + 1, os⟩)
    (hq : Q (.ref h.objs.size, []) ⟨h.push (mwO id x), g, d, t + 1, os⟩) :
    wpAny (model prog w) A (getMethod (.ref so) name pl) Q E ⟨h, g, d, t, os⟩ := by
  have hlk := F.ks_slot_super_ga.lookup
  have hcan := F.ks_canon_super_ga
  have hT : ∀ t', (⟨h, g, d, t', os⟩ : Shared).TypeIs (.ref so) "super" := fun _ => ⟨_, hso, rfl⟩
  unfold getMethod
  refine wpAny_bind (wpAny_specialOf (hT _) hlk ?_)
  show wpAny _ _ (if (Manifest.canonical "super.__getattribute__" != "object.__getattribute__") = true then _ else _) _ _ _
  rw [if_pos hcan]
  unfold getAttr getAttrBy
  refine wpAny_bind (wpAny_bind (wpAny_mkText (wpAny_holding (wpAny_bind (wpAny_typeOf (hT _) (wpAny_bind (wpAny_of_eq hlk ?_)))))))
  show wpAny _ _ (getAttrByItsOwn (.ref so) (.str name t) (.type "super") (.builtin "super.__getattribute__") true false) _ _ _
  unfold getAttrByItsOwn hookBefore callGetattribute boundAndCalled
  refine wpAny_bind (wpAny_of_eq (show (if onTheHeap (.type "super") then typeLookup (.type "super") "__getattr__" else pure none) = pure none from rfl) ?_)
  refine wpAny_bind (wpAny_attempt (wpAny_holding ?_))
  show wpAny _ _ (bindSpecial (.builtin "super.__getattribute__") (.ref so) >>= _) _ _ _
  refine wpAny_bind (wpAny_of_eq (F.ks_slot_super_ga.bind _) ?_)
  refine wpAny_mono (Q := fun v s' => v = .ref h.objs.size ∧ s' = ⟨h.push (mwO id x), g, d, t + 1, os⟩) (E := fun _ _ => False)
    (wpAny_call_entry F.ks_slot_super_ga (hT _) F.ks_entry_super_ga (super_ga_bi hso hno hC hl X hf hty hxC hn (hwd _ _) ⟨_, rfl, rfl, rfl⟩) (F.ks_gaArgs_super _ _)) (fun v s' hv => ?_) fun _ _ z => z.elim
  obtain ⟨rfl, rfl⟩ := hv
  exact wpAny_pure (wpAny_pure hq)
end
section
variable {prog : Program} {w : World} {A : Around} {E : Value → Shared → Prop} {s : Shared} {K : Frag} {x C D so : Addr} {ox : Obj} {odx : Option Obj} {h₀ : Heap} {L : Addr} {m : Str → Option Value} {news : List (Addr × Obj)}
/-- super().name, a built-in's slot: onto the ledger as a method-wrapper -/
theorem method_super {id : String} {name : Str} {pl : Sem Bool} {Q : Value × List Value → Shared → Prop} (F : Fr h₀ L s.heap m) (X₀ : K.In h₀) (N : News h₀ L s.heap news) (hso : (so, ks_superObj D x C) ∈ news) (I : InstAt s.heap x ox C odx) (ho : nsIn K cStatics "thirdparty.any" = some none)
    (hm : ks_superIn K C D name = some (some (.builtin id))) (hty : typeOf (.builtin id) = pure (.type "wrapper_descriptor")) (hn : (name == ("__class__" : Str)) = false)
    (hwd : ∀ (s : Shared) (A : Around) (E : Value → Shared → Prop) (Q : Fin → Shared → Prop), Looks (model prog w) s.heap (isInstance (.ref x) (.type "list")) true → Q (.done (.ret (.ref s.heap.objs.size))) { s with heap := s.heap.push (mwO id x) } → wpAny (model prog w) A (Builtin.«wrapper_descriptor.__get__» ⟨[.builtin id, .ref x, .ref C], []⟩) Q E s)
    (hi : Looks (model prog w) s.heap (isInstance (.ref x) (.type "list")) true)
    (h : ∀ q h', Fr h₀ L h' m → News h₀ L h' ((q, mwO id x) :: news) → (∀ p ∈ news, p.1 < q) → Q (.ref q, []) { s with heap := h', toks := s.toks + 1 }) : wpAny (model prog w) A (getMethod (.ref so) name pl) Q E s := by
  have X : K.In s.heap := X₀.keeps F.keep
  obtain ⟨hh, g, d, t, os⟩ := s
  cases hc : clsIn K C with
  | none => unfold ks_superIn at hm; rw [hc] at hm; cases hm
  | some cd =>
    unfold ks_superIn at hm
    rw [hc] at hm
    refine getMethod_super_bi (N _ hso).1 (looks_opaque X ho) (l₀ := cd.mro) ?_ rfl X hm hty (ks_ne X I hc) hn (fun A E => hwd ⟨hh, g, d, t + 1, os⟩ A E _ hi ⟨rfl, rfl⟩) ?_
    · exact fun A Q E s k q => wpAny_bind ((looks_clsIn X hc) A _ E s k (wpAny_pure q))
    · obtain ⟨F', N', l'⟩ := ks_newsPush (s := ⟨hh, g, d, t, os⟩) (o := mwO id x) F N rfl (Heap.get?_push_at rfl rfl) (fun b o e => Heap.get?_push_of_some _ e)
      exact h _ _ F' N' l'
theorem callWith_mw0 {M : Model} {env : Env} {pos : Pos} {q : Addr} {id : String} {first : List Value} {Q : Value → Shared → Prop} (ho : s.heap.get? q = some (mwO id x)) (h : wpAny M A (call (.ref q) (first ++ [])) Q E s) : wpAny M A (callWith pos (.ref q) first (backTo pos (starEach [] env)) []) Q E s :=
  callWith_of (P := fun h => h.get? q = some (mwO id x)) rfl (fun _ e => ⟨.machine, .inr (.inl rfl), (Looks.ld (part := none) e).andThen .now⟩) (evalArgs_nil3 ⟨ho, h⟩)
theorem call_mw {q : Addr} {id : String} {b : Builtin} {Q : Value → Shared → Prop} (ho : s.heap.get? q = some (mwO id x)) (hb : entryFor table id = some b) (hp : plainId id = true) (hk : builtinKind id = some .slot) (ha : argsOk id ⟨[.ref x], []⟩)
    (hc : wpAny (model prog w) A.in1 (b ⟨[.ref x], []⟩) (fun fin s' => ∃ v, fin = .done (.ret v) ∧ Q v s') E s) : wpAny (model prog w) A (call (.ref q) []) Q E s := by
  refine wpAny_call ?_
  obtain ⟨hh, g, dr, t, os⟩ := s
  refine codeAny_of_tree ?_
  show wpAny _ _ (callAny (.ref q) _) _ _ _
  dsimp only at ho
  refine nd_load ho ?_
  show wpAny _ _ (checkBoundCall id ⟨[.ref x], []⟩ >>= fun _ => again (Code.builtin id ⟨[.ref x], []⟩)) _ _ _
  have hq : wpAny (model prog w) (A.under (Code.call (Value.ref q) {})) (again (Code.builtin id ⟨[.ref x], []⟩)) (fun fin s' =>
      match fin with
      | Fin.done f =>
        match Except.ok f with
        | Except.ok (Flow.ret v) => Q v s'
        | Except.ok a => False
        | Except.error e => E e s'
      | Fin.again c' =>
        c'.quiet = true ∧
          codeAny (model prog w) A c'
            (fun r s' =>
              match r with
              | Except.ok (Flow.ret v) => Q v s'
              | Except.ok a => False
              | Except.error e => E e s')
            s') (fun e s' => E e s') ⟨hh, g, dr, t, os⟩ := by
    refine wpAny_pure ⟨plainId_quiet hp _, codeAny_builtin hb ?_⟩
    rw [Around.under_plainId hp]
    refine wpAny_mono hc (fun fin s' h' => ?_) fun _ _ z => z
    obtain ⟨v, rfl, hv⟩ := h'; exact hv
  unfold checkBoundCall
  cases hsig : Manifest.signature? id with
  | none => first | exact wpAny_bind (wpAny_pure hq) | exact wpAny_bind (wpAny_bind (wpAny_pure hq))
  | some sig =>
    simp only [argsOk, hsig] at ha
    simp only [hk]
    rw [if_pos (by decide)]
    refine wpAny_bind ?_
    rw [ha]
    exact wpAny_pure hq
end
end Mine
end
/-! part C3 -/
section
local macro_rules | `(tactic| walk_at "pad") => `(tactic| skip)
theorem Mine.rstC3 : True := by
  w_top off
  trivial
open PySem PySem.Spec PySem.Calls PySem.W PyProof.Rows
set_option maxRecDepth 100000
set_option maxHeartbeats 4000000
namespace Mine
local macro_rules | `(tactic| k_mem) => `(tactic| assumption)
section
variable {w : World} {loose : List Str} {mean : ExcName → Option Value} {mg mb : Str → Option Value}
  {dp un : Nat} {gd : Option (List Code)} {cn : Str} {cs : Scope} {a : Addr} {ccd : Value} {cl : List (Str × Addr)} {outer : List Env} {A₀ : Around} {base h₀ : Heap} {L : Addr} {m : Str → Option Value} {s : Shared} {Q E : Value → Shared → Prop} {news : List (Addr × Obj)}

theorem part_count_spec {r rd : Addr} {hk : Int} {i0 i1 : Tok} {nd : Nat} {vs : List Value} {n : Nat}
    (B : Below A₀ base outer h₀) (F : Fr h₀ L s.heap m) (X : (Mine.hd.heap_39 w.params).In h₀) (N : News h₀ L s.heap news) (T : Top Mine.hd.view_39 loose mean mg mb h₀) (hK : cs.kind = .function)
    (m0 : (r, rowO rd vs n) ∈ news) (m1 : (rd, dictOf [⟨hk, .str (Str.ofString "_initial_size") i0, .int 0 i1⟩] nd) ∈ news) (hz : vs.length < 1000)
    (hd : dp + 8 < recursionLimit) (hu : un + 64 < cLine)
    (hret : ∀ (t : Tok) (h' : Heap) (tk' : Nat), Fr h₀ L h' m → News h₀ L h' news → Q (.int vs.length t) { s with heap := h', toks := tk' }) :
    wpAny (model Challenge.rw_xg0075_01.row.prog w) (ktrTop dp un gd cn cs L a ccd cl outer) (call (.ref 140) [.ref r]) Q E s := by
  refine wpAny_call ?_
  refine' ks_code_super (binds := [(Str.ofString "self", .ref r)]) B F X N T (by exact rfl) (by exact rfl) hK ?k6 ?k7 ?k8 ?k9 ?kB ?_ ?c1 ?c2 ?c3 ?c4
  case k6 => k_is
  case k7 => k_is
  case k8 => ktr_room
  case k9 => exact BindsTo.of_eq rfl
  case kB => exact locs rfl
  case c1 => decide
  case c2 => exact rfl
  case c3 => exact rfl
  case c4 => exact rfl
  intro g' L' h' FG' F' N' B' X' T' l1
  try dsimp only
  repeat' walk1
  k_dflt (refine ks_node F' X' N' T' (by k_is) (by rfl) (by rfl) (inst_row N' m0 m1) (by k_is) (by rfl) (by first | rfl | decide +kernel) (by k_is) (by k_is) (by k_is) (by k_is) (by decide) (by rfl) (by rfl) (by rfl) (by rfl) (by decide +kernel) (by first | boot_by_name | rfl | kernel_rfl) ?_)
  intro so h1 F1 N1 l2
  have hi := isi_row (M := model Challenge.rw_xg0075_01.row.prog w) (X'.keeps F1.keep) (inst_row N1 (.tail _ m0) (.tail _ m1)) (by k_is)
  k_dflt (refine' method_super F1 X' N1 (.head _) (inst_row N1 (.tail _ m0) (.tail _ m1)) ?a ?b type_list_len ?c ?d hi ?_)
  case a => k_is
  case b => ks_is
  case c => decide
  case d => intro s A E Q hi hq; exact wd_get_len hi hq
  intro q h2 F2 N2 l3
  refine callWith_mw0 (N2 _ (.head _)).1 ?_
  refine call_mw (N2 _ (.head _)).1 PySem.entry_list_len (by decide +kernel) (by decide +kernel) (PySem.args_list_len _) ?_
  show wpAny _ _ (seqSize r >>= fun k => retInt k) _ _ _
  unfold seqSize
  refine wpAny_bind (wpAny_bind (wpAny_load (N2 _ (.tail _ (.tail _ m0))).1 (wpAny_pure ?_)))
  unfold retInt
  refine wpAny_bind (wpAny_mkInt ?_)
  refine wpAny_pure ⟨_, rfl, ?_⟩
  refine leaveK_ F2 N2 fun F5 N5 => ?_
  rw [show ((vs.toArray.size : Nat) : Int) = (vs.length : Int) by rw [List.size_toArray]]
  exact hret _ _ _ F5 (cb_drop N5 (fun _ hp => .tail _ (.tail _ hp)))
end
end Mine
end
/-! part Mk -/
section
theorem Mine.rstMk : True := by
  w_top off
  trivial
open PySem PySem.Spec PySem.Calls PySem.W PyProof.Rows
set_option maxRecDepth 100000
set_option maxHeartbeats 4000000
namespace Mine

structure MakesL (M : Model) (h : Heap) (C : Addr) : Prop where
  obj : ∃ oc od cd sl, h.get? C = some ⟨oc, od, .cls cd, sl⟩ ∧ cd.abstract = false ∧ cd.hasDel = false ∧ cd.mro.isEmpty = false
  made : Looks M h (Bind.madeBy (.ref C)) (some "list.__new__")
  base : Looks M h (Bind.staticBase (.ref C)) (.ref C)
  self : Looks M h (isSubtype (.ref C) (.ref C)) true
  top : Looks M h (isSubtype (.ref C) (.type "list")) true
  call : Looks M h (specialOf (.ref C) "__call__") (some (.builtin "type.__call__"))
  typ : Looks M h (isInstance (.ref C) (.type "type")) true
def makesInL (K : Frag) (C : Addr) : Bool := match K.lookup C with
  | some ⟨_, _, .cls cd, sl⟩ => !cd.abstract && !cd.hasDel && (sl.toList[4]?).join == some (.builtin "list.__new__") && !cd.mro.isEmpty && cd.mro.contains (.ref C) && cd.mro.contains (.type "list") &&
      specialIn K (.ref C) "__call__" == some (some (.builtin "type.__call__")) && instIn K (.ref C) (.type "type") == some true
  | _ => false
theorem makesL_of {K : Frag} {M : Model} {h : Heap} (X : K.In h) {C : Addr} (e : makesInL K C = true) : MakesL M h C := by
  unfold makesInL at e
  split at e
  · rename_i oc od cd sl ho
    simp only [Bool.and_eq_true, Bool.not_eq_true', beq_iff_eq] at e
    obtain ⟨⟨⟨⟨⟨⟨⟨e1, e2⟩, e3⟩, e4⟩, e5⟩, e6⟩, e7⟩, e8⟩ := e
    have hc : clsIn K C = some cd := by unfold clsIn; rw [ho]
    have hm : Looks M h (mroOf (.ref C)) cd.mro := (looks_clsIn X hc).andThen .now
    obtain ⟨c, l, hl⟩ : ∃ c l, cd.mro = c :: l := by cases q : cd.mro with | nil => rw [q] at e4; cases e4 | cons c l => exact ⟨c, l, rfl⟩
    have made : Looks M h (Bind.madeBy (.ref C)) (some "list.__new__") := by
      intro A Q E s k q
      unfold Bind.madeBy
      refine wpAny_bind (hm A _ E s k ?_)
      rw [hl, List.forIn_cons]
      refine wpAny_bind (wpAny_bind (wpAny_bind (wpAny_bind (wpAny_loadPart (k _ _ (X _ _ ho)) (wpAny_pure ?_)))))
      dsimp only
      rw [← Array.getElem?_toList, e3]
      exact wpAny_pure (wpAny_pure (wpAny_pure q))
    refine ⟨⟨oc, od, cd, sl, X _ _ ho, e1, e2, e4⟩, made, ?_, looks_mroIn X ?_, looks_mroIn X ?_, looks_specialIn X e7, looks_instIn X e8⟩
    · intro A Q E s k q
      unfold Bind.staticBase
      refine wpAny_bind (hm A _ E s k ?_)
      rw [hl, List.forIn_cons]
      exact wpAny_bind (wpAny_bind (wpAny_bind (made A _ E s k (wpAny_pure (wpAny_pure (wpAny_pure q))))))
    · unfold mroIn; rw [hc, Option.bind_some, if_neg (by rw [e4]; decide), e5]
    · unfold mroIn; rw [hc, Option.bind_some, if_neg (by rw [e4]; decide), e6]
  · cases e

section
variable {prog : Program} {w : World} {A : Around} {K : Frag} {C : Addr} {R : Result → Shared → Prop} {h : Heap} {g : Array GenState} {d : Drawn} {t : Nat} {os : OsState}
theorem kind_list_new : builtinKind "list.__new__" = some .builtinFn := by decide +kernel
theorem split_list_new : splitId "list.__new__" = some ("list", "__new__") := by decide +kernel
theorem newCall_listC (C : Addr) : (match Manifest.signature? "list.__new__" with | some sig => Bind.checkArgs "list.__new__" sig ⟨[.ref C], []⟩ | none => pure ()) = pure () := by kernel_rfl
theorem new_row (Y : MakesL (model prog w) h C)
    (hq : R (.ok (.ret (.ref (h.objs.size + 1)))) ⟨(h.push emptyDict).push { cls := .ref C, dict := some h.objs.size, data := .seq #[] }, g, d, t, os⟩) :
    codeAny (model prog w) A (.call (.builtin "list.__new__") ⟨[.ref C], []⟩) R ⟨h, g, d, t, os⟩ := by
  obtain ⟨⟨oc, od, cd, sl, hC, e1, e2, e4⟩, made, base, self, top, call, typ⟩ := Y
  refine codeAny_of_tree ?_
  show wpAny _ A.in1 (do checkBuiltinCall "list.__new__" ⟨[.ref C], []⟩; again (.builtin "list.__new__" ⟨[.ref C], []⟩)) _ _ _
  have rest : (Code.builtin "list.__new__" ⟨[.ref C], []⟩).quiet = true ∧ codeAny (model prog w) A (Code.builtin "list.__new__" ⟨[.ref C], []⟩) R ⟨h, g, d, t, os⟩ := by
    refine ⟨plainId_quiet F.plain_list_new _, codeAny_builtin_stack F.entry_list_new rfl fun p st => ?_⟩
    rw [Around.under_plainId F.plain_list_new _]
    have hown := owner_list_new
    simp only [hown]
    repeat (first | lk | (with_reducible refine ks_wpAny_isType_cls hC rfl ?_) | simp only [Bool.not_true, Bool.false_eq_true, if_false])
    refine wpAny_load (Heap.get?_push_of_some _ (Heap.get?_push_of_some _ hC)) (wpAny_pure ?_)
    simp only [e2, Bool.false_eq_true, if_false]
    refine wpAny_pure (wpAny_pure ?_)
    rw [Heap.size_push]
    exact hq
  refine wpAny_bind ?_
  simp only [checkBuiltinCall, kind_list_new, split_list_new]
  rw [if_pos (by decide)]
  repeat (first | exact rest | lk | (with_reducible refine ks_wpAny_isType_cls hC rfl ?_) | simp only [Bool.not_true, bne_self_eq_false, Bool.false_eq_true, if_false])

theorem make_row {fI : Value} (Y : MakesL (model prog w) h C) (hi : Looks (model prog w) h (typeLookup (.ref C) "__init__") (some fI))
    (hb : ∀ self, Looks (model prog w) h (bindSpecial fI self) (fI, [self]))
    (hq : codeAny (model prog w) (A.under (.builtin "type.__call__" ⟨[.ref C], []⟩)) (.call fI ⟨[.ref (h.objs.size + 1)], []⟩) (InitBack (h.objs.size + 1) R) ⟨(h.push emptyDict).push { cls := .ref C, dict := some h.objs.size, data := .seq #[] }, g, d, t, os⟩) :
    codeAny (model prog w) A (.call (.ref C) ⟨[], []⟩) R ⟨h, g, d, t, os⟩ := by
  have Y' := Y
  obtain ⟨⟨oc, od, cd, sl, hC, e1, e2, e4⟩, made, base, self, top, call, typ⟩ := Y
  refine codeAny_of_tree ?_
  show wpAny _ _ (callAny (.ref C) _) _ _ _
  refine nd_load hC ?_
  show wpAny _ _ (callAny.viaDunder (.ref C) _) _ _ _
  unfold callAny.viaDunder
  refine wpAny_bind (call.at ?_)
  dsimp only
  rw [tc_bind]
  refine wpAny_bind (wpAny_pure (wpAny_bind (wpAny_pure ?_)))
  refine wpAny_pure (a := Fin.again (.call (.builtin "type.__call__") ⟨[.ref C], []⟩)) (And.intro rfl ?_)
  refine codeAny_call_builtin_at (Code.quiet_builtin _ (by decide +kernel)) entry_typeCall (check_slot tc_kind tc_split typ (tc_args _ _ _) ?_)
  unfold Builtin.«type.__call__»
  have hm : Looks (model prog w) h (mroOf (.ref C)) cd.mro := ((Looks.ld (part := none) hC).andThen .now).andThen .now
  repeat (first | simp only [e4, Bool.false_eq_true, if_false] | with_reducible refine wpAny_call ?_ | lk)
  refine new_row Y' ?_
  have k : ∀ b o, h.get? b = some o → ((h.push emptyDict).push { cls := .ref C, dict := some h.objs.size, data := .seq #[] }).get? b = some o := fun b o e => Heap.get?_push_of_some _ (Heap.get?_push_of_some _ e)
  have hx : ((h.push emptyDict).push { cls := .ref C, dict := some h.objs.size, data := .seq #[] }).get? (h.objs.size + 1) = some { cls := .ref C, dict := some h.objs.size, data := .seq #[] } := by heap_get
  have t1 : Looks (model prog w) ((h.push emptyDict).push { cls := .ref C, dict := some h.objs.size, data := .seq #[] }) (typeOf (.ref (h.objs.size + 1))) (.ref C) := (Looks.ld hx).andThen .now
  have s1 := self.keeps k
  have i1 := hi.keeps k
  have b1 := (hb (.ref (h.objs.size + 1))).keeps k
  unfold isInstance callSpecial? specialOf
  repeat (first | with_reducible refine wpAny_call ?_ | lk)
  refine codeAny_mono hq fun r s' z => ?_
  rcases r with e | (v | _ | _ | _) <;> first | exact z | exact z.elim | skip
  obtain ⟨rfl, z⟩ := z
  exact wpAny_pure (wpAny_pure z)
end
end Mine
end
/-! part Sa -/
section
theorem Mine.rstSa : True := by
  w_top off
  trivial
open PySem PySem.Spec PySem.Calls PySem.W PyProof.Rows Builtin Builtin.ObjectAttr
set_option maxRecDepth 100000
set_option maxHeartbeats 4000000
namespace Mine

theorem pass_list (self : Value) (c : Addr) : refuseLoop self "__setattr__" [.ref c, .type "list", .type "object"] = pure () := by kernel_rfl
theorem pass_exc (self : Value) (c : Addr) : refuseLoop self "__setattr__" [.ref c, .type "Exception", .type "BaseException", .type "object"] = pure () := by kernel_rfl
section
variable {prog : Program} {w : World} {A : Around} {E : Value → Shared → Prop} {s : Shared} {K : Frag} {x C : Addr} {ox : Obj} {od : Option Obj} {h₀ : Heap} {L : Addr} {m : Str → Option Value} {news : List (Addr × Obj)} {g : Obj → List (Addr × Obj)} {R : Result → Shared → Prop}
theorem osa_openG {name : Str} {tk : Tok} {v : Value} {r : Option Value} {cd : ClassData} (X : K.In s.heap) (I : InstAt s.heap x ox C od) (hc : clsIn K C = some cd) (ne : cd.mro.isEmpty = false) (hob : cd.mro.contains (.type "object") = true) (hrf : ∀ self, refuseLoop self "__setattr__" cd.mro = pure ()) (ht : takerIn K C name = some r)
    (h : ∀ b, wpAny (model prog w) A.in1 (match r with | some a => setByDescriptor a (.ref x) v | none => storeInOwnDict (.ref x) (.ref C) (.str name tk) name v b)
      (fun fin s' => match fin with | .done f => R (.ok f) s' | .again c' => c'.quiet = true ∧ codeAny (model prog w) A c' R s') (fun e s' => R (.error e) s') s) :
    codeAny (model prog w) A (.call (.builtin "object.__setattr__") ⟨[.ref x, .str name tk, v], []⟩) R s := by
  have SF := PySem.F.store_object
  have sub : Looks (model prog w) s.heap (isInstance (.ref x) (.type "object")) true := I.type.andThen (looks_mroIn X (by unfold mroIn; rw [hc, Option.bind_some, if_neg (by rw [ne]; decide), hob]))
  refine codeAny_call_builtin SF.slot.plain SF.entry (@check_slot (model prog w) _ _ s "object.__setattr__" "object" "__setattr__" (.ref x) [.str name tk, v] [] _ SF.kind SF.split sub (SF.args (.ref x) (.str name tk) v) ?_)
  obtain ⟨attr, ha, hr⟩ := Option.bind_eq_some_iff.mp ht
  have hm : Looks (model prog w) s.heap (mroOf (.ref C)) cd.mro := (looks_clsIn X hc).andThen .now
  have L3 : Looks (model prog w) s.heap (storeTaker? attr) r := by
    cases attr with
    | none => cases hr; exact .now
    | some a =>
      obtain ⟨b, hb, rfl⟩ := Option.map_eq_some_iff.mp hr
      refine (looks_takesIn X hb).andThen ?_
      cases b <;> exact .now
  rw [osa_eq, refuse_eq]
  refine wpAny_bind (wpAny_bind (I.type.here (wpAny_bind (hm.here ?_))))
  rw [hrf]
  refine wpAny_pure (wpAny_bind (I.type.here (wpAny_bind ((looks_findIn X ha).here (wpAny_bind (L3.here ?_))))))
  exact h _
theorem osa_dictG {dx : Addr} {od od' : Obj} {name : Str} {tk : Tok} {v : Value} {es : List DictEntry} {n : Nat} {cd : ClassData} (F : Fr h₀ L s.heap m) (N : News h₀ L s.heap news) (X : K.In s.heap) (U : UpdF dx od news g)
    (I : InstAt s.heap x ox C (some od)) (hd : ox.dict = some dx) (hc : clsIn K C = some cd) (ne : cd.mro.isEmpty = false) (hob : cd.mro.contains (.type "object") = true) (hrf : ∀ self, refuseLoop self "__setattr__" cd.mro = pure ())
    (ht : takerIn K C name = some none) (hh : cd.hasDict = true) (hl : (lookIn name od).isSome = true) (e : Obj.putName name (PyData.keyHash w.params name) (.str name s.toks) v od = od') (e' : od'.data = .dict es.toArray n) (hz : es.length ≤ 1000)
    (h : ∀ h', Fr h₀ L h' m → News h₀ L h' (g od') → R (.ok (.ret .none)) { s with heap := h', toks := s.toks + 1 }) :
    codeAny (model prog w) A (.call (.builtin "object.__setattr__") ⟨[.ref x, .str name tk, v], []⟩) R s := by
  refine osa_openG X I hc ne hob hrf ht fun b => ?_
  obtain ⟨U1, U2⟩ := updF_news (f := Obj.putName name (PyData.keyHash w.params name) (.str name s.toks) v) F N U e (by obtain ⟨_, _, dd, _⟩ := od'; cases e'; rfl)
  have D := (N _ (UpdF.mem U)).1
  have D' := (U2 _ (UpdF.mem' U od')).1
  obtain ⟨hx, hcl, hn, -⟩ := I
  obtain ⟨oc, odi, oda, osl⟩ := ox
  dsimp only at hcl hd
  subst hcl hd
  refine wpAny_bind (wpAny_pure (wpAny_bind (wpAny_bind (wpAny_loadPart hx (wpAny_bind ((looks_clsIn X hc).here ?_))))))
  rw [hh]
  refine wpAny_pure (a := some dx) (wpAny_bind (wpAny_pure (wpAny_bind ?_)))
  unfold nsSet
  refine wpAny_bind (wpAny_bind (wpAny_askSetting (wpAny_pure (wpAny_bind (wpAny_mkText (wpAny_bind (wpAny_loadPart D ?_)))))))
  unfold lookIn at hl
  split at hl
  · rename_i es₀ n₀ q
    rw [q]
    dsimp only
    have c : (!es₀.any (·.key.isStr name) && es₀.any (·.refKey)) = false := by
      rw [← Array.any_toList, ← Array.any_toList]
      split at hl
      · rename_i en he
        rw [List.any_eq_true.mpr ⟨en, List.mem_of_find?_eq_some he, List.find?_some he⟩]; rfl
      · split at hl
        · cases hl
        · rename_i z; rw [Bool.not_eq_true] at z; rw [z, Bool.and_false]
    rw [aRefKeyMayBeTheName_at, c]
    refine wpAny_updatePart D ?_
    refine wpAny_bind (wpAny_lookBehind D' (by rw [e']; exact pastItsLine_dict (by rw [List.size_toArray, sizeLine_eq]; omega)) ?_)
    exact wpAny_pure (h _ U1 U2)
  · cases hl
theorem set_dictG {dx : Addr} {od od' : Obj} {name : Str} {v : Value} {es : List DictEntry} {n : Nat} {cd : ClassData} {Q : Unit → Shared → Prop} (F : Fr h₀ L s.heap m) (N : News h₀ L s.heap news) (X : K.In s.heap) (U : UpdF dx od news g)
    (I : InstAt s.heap x ox C (some od)) (hd : ox.dict = some dx) (hc : clsIn K C = some cd) (ne : cd.mro.isEmpty = false) (hob : cd.mro.contains (.type "object") = true) (hrf : ∀ self, refuseLoop self "__setattr__" cd.mro = pure ())
    (ht : takerIn K C name = some none) (hh : cd.hasDict = true) (hl : (lookIn name od).isSome = true) (hs : findIn K (.ref C) "__setattr__" = some (some (.builtin "object.__setattr__")))
    (e : Obj.putName name (PyData.keyHash w.params name) (.str name (s.toks + 1)) v od = od') (e' : od'.data = .dict es.toArray n) (hz : es.length ≤ 1000)
    (h : ∀ h', Fr h₀ L h' m → News h₀ L h' (g od') → Q () { s with heap := h', toks := s.toks + 1 + 1 }) : wpAny (model prog w) A (setAttr (.ref x) name v) Q E s :=
  set_plain X I hs (osa_dictG (s := { s with toks := s.toks + 1 }) F N X U I hd hc ne hob hrf ht hh hl e e' hz h)
end
end Mine
end
/-! part C4 -/
section
theorem Mine.rstC4 : True := by
  w_top off
  trivial
open PySem PySem.Spec PySem.Calls PySem.W PyProof.Rows
set_option maxRecDepth 100000
set_option maxHeartbeats 4000000
namespace Mine
local macro_rules | `(tactic| k_mem) => `(tactic| assumption)
section
variable {w : World} {loose : List Str} {mean : ExcName → Option Value} {mg mb : Str → Option Value}
  {dp un : Nat} {gd : Option (List Code)} {cn : Str} {cs : Scope} {a : Addr} {ccd : Value} {cl : List (Str × Addr)} {outer : List Env} {A₀ : Around} {base h₀ : Heap} {L : Addr} {m : Str → Option Value} {s : Shared} {Q E : Value → Shared → Prop} {news : List (Addr × Obj)}

theorem kis_makes (w : World) : makesInL (Mine.hd.heap_39 w.params) 143 = true := by kernel_rfl
theorem entry_li : entryFor table "list.__init__" = some Builtin.«list.__init__» := entryFor_of_tree (by kernel_rfl)
theorem args_li (a : Value) : argsOk "list.__init__" ⟨[a], []⟩ := by unfold argsOk; kernel_rfl
theorem acc_spec
    (B : Below A₀ base outer h₀) (F : Fr h₀ L s.heap m) (X : (Mine.hd.heap_39 w.params).In h₀) (N : News h₀ L s.heap news) (T : Top Mine.hd.view_39 loose mean mg mb h₀) (hK : cs.kind = .function)
    (hd : dp + 8 < recursionLimit) (hu : un + 64 < cLine)
    (hret : ∀ (r rd : Addr) (hk : Int) (i0 i1 : Tok) (n nd : Nat) (h' : Heap) (tk' : Nat), Fr h₀ L h' m → News h₀ L h' ((r, rowO rd [] n) :: (rd, dictOf [⟨hk, .str (Str.ofString "_initial_size") i0, .int 0 i1⟩] nd) :: news) → (∀ p ∈ news, p.1 < rd) → rd < r → Q (.ref r) { s with heap := h', toks := tk' }) :
    wpAny (model Challenge.rw_xg0075_01.row.prog w) (ktrTop dp un gd cn cs L a ccd cl outer) (call (.ref 143) [] []) Q E s := by
  refine wpAny_call ?_
  obtain ⟨hh, g, d, t, os⟩ := s
  have Y := makesL_of (M := model Challenge.rw_xg0075_01.row.prog w) (X.keeps F.keep) (kis_makes w)
  have F1 := (F.push emptyDict).push { cls := .ref 143, dict := some hh.objs.size, data := .seq #[] }
  have N1 := (N.push F emptyDict).push (F.push _) (rowO hh.objs.size [] 0)
  have la : ∀ p ∈ news, p.1 < hh.objs.size := fun p hp => Heap.lt_size (N p hp).1
  k_dflt (refine' make_row Y (looks_findIn (X.keeps F.keep) ?a) (fun self => bind_fn (X.keeps F.keep) self ?b) ?_)
  case a => k_is
  case b => k_is
  rw [Heap.size_push] at N1
  generalize hr : hh.objs.size + 1 = r at *
  generalize hrd : hh.objs.size = rd at *
  refine' ks_code_super (binds := [(Str.ofString "self", .ref r), (Str.ofString "initial_size", .int 0 276)]) B F1 X N1 T (by exact rfl) (by exact rfl) hK ?k6 ?k7 ?k8 ?k9 ?kB ?_ ?c1 ?c2 ?c3 ?c4
  case k6 => k_is
  case k7 => k_is
  case k8 => ktr_room
  case k9 => exact binds_K (X.keeps F1.keep) rfl (by k_is) rfl rfl rfl
  case kB => exact locs rfl
  case c1 => decide
  case c2 => exact rfl
  case c3 => exact rfl
  case c4 => exact rfl
  intro g' L' h' FG' F' N' B' X' T' l1
  try dsimp only
  repeat' walk1
  have hne : r ≠ rd := by omega
  have hnl : ∀ p ∈ news, p.1 ≠ rd := fun p hp => Nat.ne_of_lt (la p hp)
  k_dflt (refine' set_dictG (es := [⟨PyData.keyHash w.params (Str.ofString "_initial_size"), .str (Str.ofString "_initial_size") _, .int 0 276⟩]) F' N' (X'.keeps F'.keep) (UpdF.tail hne (UpdF.head hnl)) (inst_row N' (.head _) (.tail _ (.head _))) rfl ?hc ?ne ?hob ?hrf ?ht ?hh ?hl ?hs ?e ?e' ?hz ?_)
  case hc => k_is
  case ne => rfl
  case hob => decide
  case hrf => exact fun self => pass_list self _
  case ht => k_is
  case hh => rfl
  case hl => rfl
  case hs => k_is
  case e => with_unfolding_all rfl
  case e' => rfl
  case hz => exact Nat.le_of_ble_eq_true rfl
  intro h1 F1 N1
  have I1 := inst_row N1 (.head _) (.tail _ (.head _))
  refine ks_wpAt_execs_cons ?_
  refine ks_wpAt_Expr_any ?_
  refine ks_wpAt_MethodCall ?_
  k_dflt (refine ks_node F1 X' N1 T' (by k_is) (by rfl) (by rfl) I1 (by k_is) (by rfl) (by first | rfl | decide +kernel) (by k_is) (by k_is) (by k_is) (by k_is) (by decide) (by rfl) (by rfl) (by rfl) (by rfl) (by decide +kernel) (by first | boot_by_name | rfl | kernel_rfl) ?_)
  intro so h2 F2 N2 l2
  have I2 := inst_row N2 (.tail _ (.head _)) (.tail _ (.tail _ (.head _)))
  have hi := isi_row (M := model Challenge.rw_xg0075_01.row.prog w) (X'.keeps F2.keep) I2 (by k_is)
  k_dflt (refine' method_super F2 X' N2 (.head _) I2 ?a ?b type_list_init ?c ?d hi ?_)
  case a => k_is
  case b => ks_is
  case c => decide
  case d => intro s A E Q hi hq; exact wd_get_init hi hq
  intro q h3 F3 N3 l3
  refine callWith_mw0 (N3 _ (.head _)).1 ?_
  refine call_mw (N3 _ (.head _)).1 entry_li (by decide +kernel) (by decide +kernel) (args_li _) ?_
  have hr3 := (N3 _ (.tail _ (.tail _ (.head _)))).1
  unfold Builtin.«list.__init__»
  show wpAny _ _ (Builtin.List.listItems (.ref r) >>= fun old => Builtin.List.listUpdate (.ref r) (fun _ => #[]) >>= fun _ => letGo old.toList.reverse >>= fun _ => ret .none) _ _ _
  unfold Builtin.List.listItems
  refine wpAny_bind (wpAny_bind (wpAny_seqItems hr3 rfl (wpAny_pure ?_)))
  refine wpAny_bind (m := Builtin.List.listUpdate (.ref r) _) ?_
  refine wpAny_updateSeq hr3 rfl ?_ (by decide) (by decide)
  have hne2 : q ≠ r := ne_of_cls N3 (.head _) (.tail _ (.tail _ (.head _))) (by intro e; cases e)
  have hne3 : so ≠ r := ne_of_cls N3 (.tail _ (.head _)) (.tail _ (.tail _ (.head _))) (by intro e; cases e)
  have hnr : ∀ (o : Obj), ∀ p ∈ (rd, o) :: news, p.1 ≠ r := fun o p hp => by
    rcases List.mem_cons.mp hp with e | hp
    · rw [e]; exact Ne.symm hne
    · exact Nat.ne_of_lt (Nat.lt_of_lt_of_le (la p hp) (by rw [← hr]; exact Nat.le_succ _))
  obtain ⟨n', hn'⟩ := mapSeq_row (rd := rd) (n := 0) (fun _ => #[]) [] [] rfl
  obtain ⟨F4, N4⟩ := updF_news (o' := rowO rd [] n') F3 N3 (UpdF.tail hne2 (UpdF.tail hne3 (UpdF.head (hnr _)))) hn' rfl
  refine wpAny_bind (wpAny_letGo (wpAny_pure ⟨_, rfl, ?_⟩))
  repeat' walk1
  exact hret r rd _ _ _ _ _ _ _ (by assumption) (cb_drop (by assumption) (fun _ hp => .tail _ (.tail _ hp))) la (by rw [← hr]; exact Nat.lt_succ_self _)
end
end Mine
end
/-! part C5 -/
section
local macro_rules | `(tactic| walk_at "pad") => `(tactic| skip)
theorem Mine.rstC5 : True := by
  w_top off
  trivial
open PySem PySem.Spec PySem.Calls PySem.W PyProof.Rows
set_option maxRecDepth 100000
set_option maxHeartbeats 4000000
namespace Mine
local macro_rules | `(tactic| k_mem) => `(tactic| assumption)

local macro_rules | `(tactic| k_all) => `(tactic| first | assumption | exact ne_all_of_lt (by assumption))
def blk (b : Nat) : Str := ⟨(List.replicate b 32).toArray⟩
section
variable {w : World} {loose : List Str} {mean : ExcName → Option Value} {mg mb : Str → Option Value}
  {dp un : Nat} {gd : Option (List Code)} {cn : Str} {cs : Scope} {a : Addr} {ccd : Value} {cl : List (Str × Addr)} {outer : List Env} {A₀ : Around} {base h₀ : Heap} {L : Addr} {m : Str → Option Value} {s : Shared} {Q E : Value → Shared → Prop} {news : List (Addr × Obj)}

theorem ws_spec {b : Nat} {tb : Tok}
    (B : Below A₀ base outer h₀) (F : Fr h₀ L s.heap m) (X : (Mine.hd.heap_39 w.params).In h₀) (N : News h₀ L s.heap news) (T : Top Mine.hd.view_39 loose mean mg mb h₀) (hK : cs.kind = .function)
    (hb : b < 100)
    (hd : dp + 8 < recursionLimit) (hu : un + 64 < cLine)
    (hret : ∀ (q dq : Addr) (es : List DictEntry) (n : Nat) (t : Tok) (h' : Heap) (tk' : Nat), Fr h₀ L h' m → News h₀ L h' ((q, instObj 257 dq) :: (dq, dictOf es n) :: news) → getL (Str.ofString "n") es = some (some (.int b t)) → (∀ p ∈ news, p.1 < dq) → dq < q → Q (.ref q) { s with heap := h', toks := tk' }) :
    wpAny (model Challenge.rw_xg0075_01.row.prog w) (ktrTop dp un gd cn cs L a ccd cl outer) (call (.ref 257) [.str (blk b) tb]) Q E s := by
  refine wpAny_call ?_
  k_dflt (refine' make_K F N (X.keeps F.keep) ?km ?ki ?kf ?_)
  case km => k_is
  case ki => k_is
  case kf => k_is
  intro q dq h1 F1 N1 lq lq2
  have lq3 := ltN lq2
  refine' code_def (binds := [(Str.ofString "self", .ref q), (Str.ofString "ws", .str (blk b) tb)]) B F1 X N1 T (by exact rfl) (by exact rfl) hK ?k6 ?k7 ?k8 ?k9 ?kB ?_ ?c2 ?c3 ?c4 ?c5
  case k6 => k_is
  case k7 => k_is
  case k8 => ktr_room
  case k9 => exact BindsTo.of_eq rfl
  case c5 => decide
  case kB => exact locs rfl
  case c2 => exact rfl
  case c3 => exact rfl
  case c4 => exact rfl
  intro g' L' h' FG' F' N' B' X' T'
  try dsimp only
  try k_fold
  repeat' walk1
  rename Fr _ _ _ _ => F2
  rename News _ _ _ _ => N2
  refine name_map F2 fun m0 hm0 F2 => ?_
  refine iter_strUnr (l := List.replicate b ⟨#[32]⟩) (by rfl) F2 N2 (by simp [blk, Function.comp]) ?_
  intro I lI
  refine strRest_inv (fun i m => ∃ (k : Int) (tn tb : Tok) (uch : Option Value), k = i ∧ m = fun y => if y = Str.ofString "ch" then uch else if y = Str.ofString "b" then some (.int k tb) else if y = Str.ofString "n" then some (.int k tn) else m0 y) ?_ b ?_ b 0 _ (by omega) ?_
  rotate_left 2
  · refine' ⟨0, ?tn, ?tb, none, rfl, ?_⟩
    rotate_left 2
    subst hm0
    funext y
    by_cases e1 : y = Str.ofString "ch"
    · subst e1; exact rfl
    by_cases e2 : y = Str.ofString "b"
    · subst e2; exact rfl
    by_cases e3 : y = Str.ofString "n"
    · subst e3; exact rfl
    simp only [e1, e2, e3, if_false]
  · rintro i m u it h tk ⟨k, tn, tb, uch, hk, rfl⟩ F3 N3
    subst hm0
    clear F2 N2
    repeat' walk1
    refine UnrEnd.intro (by assumption) (by assumption) _ (fun p hp => hp) (ne_all_of_lt lI) ⟨?_, rfl⟩
    refine' ⟨k + 1, ?tn2, ?tb2, ?uch2, by omega, ?_⟩
    rotate_left 3
    funext y
    by_cases e1 : y = Str.ofString "ch"
    · subst e1
      rw [if_neg (by decide), if_neg (by decide), if_pos rfl, if_pos rfl]
    by_cases e2 : y = Str.ofString "b"
    · subst e2
      rw [if_pos rfl, if_neg (by decide), if_pos rfl]
    by_cases e3 : y = Str.ofString "n"
    · subst e3
      rw [if_neg (by decide), if_pos rfl, if_neg (by decide), if_neg (by decide), if_pos rfl]
    simp only [e1, e2, e3, if_false]
  · rintro m h tk ⟨k, tn, tb, uch, hk, rfl⟩ F3 N3
    subst hm0
    clear F2 N2
    repeat' walk1
    subst hk
    exact hret q dq _ _ _ _ _ (by assumption) (cb_drop (by assumption) (sub_cons (by k_mem) (sub_cons (by k_mem) (by intro p hp; repeat (first | exact hp | apply List.Mem.tail))))) rfl lq lq2
end
end Mine
end
/-! part C6 -/
section
theorem Mine.rstC6 : True := by
  w_top off
  trivial
open PySem PySem.Spec PySem.Calls PySem.W PyProof.Rows PyProof
set_option maxRecDepth 100000
set_option maxHeartbeats 4000000
namespace Mine
local macro_rules | `(tactic| k_mem) => `(tactic| assumption)
local macro_rules | `(tactic| walk_at "exec While") => `(tactic| (k_here; refine whl_start 9 ?_))
local macro_rules | `(tactic| walk_at "subscriptTail Name Name str int") => `(tactic| (k_here; k_dflt (refine' item_str ?a ?b ?c ?_ ?d ?e; (case d => with_unfolding_all rfl); (case e => intro _; with_unfolding_all rfl); (case a => rfl); (case b => omega); (case c => first | assumption | omega); k_whole); intro _))


theorem cb_retS2 {h₀ h' : Heap} {L : Addr} {m : Str → Option Value} {news : List (Addr × Obj)} {s : Shared} {Q : Value → Shared → Prop} {t : Tok} {tk' : Nat} {x y : Str} (hret : ∀ (t : Tok) (h' : Heap) (tk' : Nat), Fr h₀ L h' m → News h₀ L h' news → Q (.str x t) { s with heap := h', toks := tk' }) (e : y = x) (F : Fr h₀ L h' m) (N : News h₀ L h' news) : Q (.str y t) { s with heap := h', toks := tk' } := by
  subst e
  exact hret t h' tk' F N
section
variable {w : World} {loose : List Str} {mean : ExcName → Option Value} {mg mb : Str → Option Value}
  {dp un : Nat} {gd : Option (List Code)} {cn : Str} {cs : Scope} {a : Addr} {ccd : Value} {cl : List (Str × Addr)} {outer : List Env} {A₀ : Around} {base h₀ : Heap} {L : Addr} {m : Str → Option Value} {s : Shared} {Q E : Value → Shared → Prop} {news : List (Addr × Obj)}

theorem strip_some {l : List Nat} {tx ta : Tok}
    (B : Below A₀ base outer h₀) (F : Fr h₀ L s.heap m) (X : (Mine.hd.heap_39 w.params).In h₀) (N : News h₀ L s.heap news) (T : Top Mine.hd.view_39 loose mean mg mb h₀) (hK : cs.kind = .function)
    (hl : l.length < 100)
    (hd : dp + 8 < recursionLimit) (hu : un + 64 < cLine)
    (hret : ∀ (t : Tok) (h' : Heap) (tk' : Nat), Fr h₀ L h' m → News h₀ L h' news → Q (.str ⟨l.toArray⟩ t) { s with heap := h', toks := tk' }) :
    wpAny (model Challenge.rw_xg0075_01.row.prog w) (ktrTop dp un gd cn cs L a ccd cl outer) (call (.ref 154) [.str ⟨(32 :: l).toArray⟩ tx, .int 1 ta]) Q E s := by
  have hx0 : (0 : Int) < ((⟨(32 :: l).toArray⟩ : Str).length : Int) := by simp [Str.length]
  have hx1 : ((⟨(32 :: l).toArray⟩ : Str).length : Int) = (l.length : Int) + 1 := by simp [Str.length]
  have i0 : (Txt.item (⟨(32 :: l).toArray⟩ : Str) 0 == Str.ofString " ") = true := by
    have e1 := item_zero_left 32 l ⟨#[]⟩
    have e2 : (⟨(32 :: l).toArray⟩ : Str) ++ ⟨#[]⟩ = ⟨(32 :: l).toArray⟩ := by
      show (⟨(32 :: l).toArray ++ #[]⟩ : Str) = _
      simp
    rw [e2] at e1
    rw [e1]; decide
  refine wpAny_call ?_
  refine' code_def (binds := [(Str.ofString "s", .str ⟨(32 :: l).toArray⟩ tx), (Str.ofString "amount", .int 1 ta)]) B F X N T (by exact rfl) (by exact rfl) hK ?k6 ?k7 ?k8 ?k9 ?kB ?_ ?c2 ?c3 ?c4 ?c5
  case k6 => k_is
  case k7 => k_is
  case k8 => ktr_room
  case k9 => exact BindsTo.of_eq rfl
  case c5 => decide
  case kB => exact locs rfl
  case c2 => exact rfl
  case c3 => exact rfl
  case c4 => exact rfl
  intro g' L' h' FG' F' N' B' X' T'
  try dsimp only
  try k_fold
  repeat' walk1
  all_goals try (exfalso; have e9 := i0.symm.trans (show (Txt.item (⟨(32 :: l).toArray⟩ : Str) 0 == Str.ofString " ") = false from by assumption); cases e9)
  refine cb_retS2 hret ?_ (by assumption) (by assumption)
  rw [hx1]
  have e := slice_text ⟨(32 :: l).toArray⟩ 1 (l.length + 1) (by omega) (by simp [Str.length])
  rw [show ((0 : Int) + 1) = ((1 : Nat) : Int) by rfl, show (((l.length : Int) + 1) - 1 + 1) = ((l.length + 1 : Nat) : Int) by omega, e]
  simp
theorem strip_none {c : Nat} {tx ta : Tok}
    (B : Below A₀ base outer h₀) (F : Fr h₀ L s.heap m) (X : (Mine.hd.heap_39 w.params).In h₀) (N : News h₀ L s.heap news) (T : Top Mine.hd.view_39 loose mean mg mb h₀) (hK : cs.kind = .function)
    (hc : c ≠ 32)
    (hd : dp + 8 < recursionLimit) (hu : un + 64 < cLine)
    (hret : ∀ (t : Tok) (h' : Heap) (tk' : Nat), Fr h₀ L h' m → News h₀ L h' news → Q (.str ⟨#[c]⟩ t) { s with heap := h', toks := tk' }) :
    wpAny (model Challenge.rw_xg0075_01.row.prog w) (ktrTop dp un gd cn cs L a ccd cl outer) (call (.ref 154) [.str ⟨#[c]⟩ tx, .int 1 ta]) Q E s := by
  have hx0 : (0 : Int) < ((⟨#[c]⟩ : Str).length : Int) := by simp [Str.length]
  have hx1 : ((⟨#[c]⟩ : Str).length : Int) = 1 := by simp [Str.length]
  have i0 : (Txt.item (⟨#[c]⟩ : Str) 0 == Str.ofString " ") = false := by
    have e : Txt.item (⟨#[c]⟩ : Str) 0 = ⟨#[c]⟩ := by rfl
    rw [e]
    have : Str.ofString " " = ⟨#[32]⟩ := by decide
    rw [this]
    simp [hc]
  refine wpAny_call ?_
  refine' code_def (binds := [(Str.ofString "s", .str ⟨#[c]⟩ tx), (Str.ofString "amount", .int 1 ta)]) B F X N T (by exact rfl) (by exact rfl) hK ?k6 ?k7 ?k8 ?k9 ?kB ?_ ?c2 ?c3 ?c4 ?c5
  case k6 => k_is
  case k7 => k_is
  case k8 => ktr_room
  case k9 => exact BindsTo.of_eq rfl
  case c5 => decide
  case kB => exact locs rfl
  case c2 => exact rfl
  case c3 => exact rfl
  case c4 => exact rfl
  intro g' L' h' FG' F' N' B' X' T'
  try dsimp only
  try k_fold
  repeat' walk1
  all_goals try (exfalso; have e9 := i0.symm.trans (show (Txt.item (⟨#[c]⟩ : Str) 0 == Str.ofString " ") = true from by assumption); cases e9)
  all_goals try (exfalso; have e8 : Txt.item (⟨#[c]⟩ : Str) (((⟨#[c]⟩ : Str).length : Int) - 1) = Txt.item (⟨#[c]⟩ : Str) 0 := by rw [hx1]; rfl
                 have e9 := i0.symm.trans (show (Txt.item (⟨#[c]⟩ : Str) 0 == Str.ofString " ") = true from by rw [← e8]; assumption)
                 cases e9)
  refine cb_retS2 hret ?_ (by assumption) (by assumption)
  rw [hx1]
  have e := slice_text ⟨#[c]⟩ 0 1 (by omega) (by simp [Str.length])
  exact e
end
end Mine
end
/-! part C7 -/
section
theorem Mine.rstC7 : True := by
  w_top off
  trivial
open PySem PySem.Spec PySem.Calls PySem.W PyProof.Rows PyProof.V
set_option maxRecDepth 100000
set_option maxHeartbeats 4000000
namespace Mine
local macro_rules | `(tactic| k_mem) => `(tactic| assumption)
local macro_rules | `(tactic| k_all) => `(tactic| first | assumption | exact ne_all_of_lt (by assumption))
/-- a table of names, each with a 1 -/
def Ones (kvs : List (Str × Value)) (ns : List Str) : Prop := kvs.map (·.1) = ns ∧ ∀ p ∈ kvs, ∃ t, p.2 = .int 1 t
theorem Ones.nil : Ones [] [] := ⟨rfl, fun _ h => nomatch h⟩
theorem stored_new {kvs : List (Str × Value)} {x : Str} {v : Value} (h : x ∉ kvs.map (·.1)) : stored kvs x v = kvs ++ [(x, v)] := by
  unfold stored
  rw [if_neg]
  simp only [List.any_eq_true, decide_eq_true_eq]
  rintro ⟨p, hp, e⟩
  exact h (List.mem_map.mpr ⟨p, hp, e⟩)
theorem Ones.snoc {kvs : List (Str × Value)} {ns : List Str} {x : Str} {t : Tok} (h : Ones kvs ns) : Ones (kvs ++ [(x, .int 1 t)]) (ns ++ [x]) := by
  refine ⟨by rw [List.map_append, h.1]; rfl, fun p hp => ?_⟩
  rcases List.mem_append.mp hp with hp | hp
  · exact h.2 p hp
  · rw [List.mem_singleton.mp hp]; exact ⟨t, rfl⟩
section
variable {w : World} {loose : List Str} {mean : ExcName → Option Value} {mg mb : Str → Option Value}
  {dp un : Nat} {gd : Option (List Code)} {cn : Str} {cs : Scope} {a : Addr} {ccd : Value} {cl : List (Str × Addr)} {outer : List Env} {A₀ : Around} {base h₀ : Heap} {L : Addr} {m : Str → Option Value} {s : Shared} {Q E : Value → Shared → Prop} {news : List (Addr × Obj)}

theorem add_spec {dt ds : Addr} {ot os : Obj} {kt : List (Str × Value)} {k : Str} {tko : Tok} {ns : List Str}
    (B : Below A₀ base outer h₀) (F : Fr h₀ L s.heap m) (X : (Mine.hd.heap_39 w.params).In h₀) (N : News h₀ L s.heap news) (T : Top Mine.hd.view_39 loose mean mg mb h₀) (hK : cs.kind = .function)
    (m0 : (dt, ot) ∈ news) (m1 : (ds, os) ∈ news) (d0 : ot.IsDictOf (PySem.strKind Challenge.rw_xg0075_01.row.prog w) kt) (d1 : os.IsDictOf (PySem.strKind Challenge.rw_xg0075_01.row.prog w) [(k, .int 1 tko)])
    (l0 : (dt == sysModules) = false) (l1 : (ds == sysModules) = false) (o0 : Ones kt ns) (hn : k ∉ ns) (hsz : ns.length < 100) 
    (hd : dp + 8 < recursionLimit) (hu : un + 64 < cLine)
    (hret : ∀ (D : Addr) (o : Obj) (kvs : List (Str × Value)) (h' : Heap) (tk' : Nat), Fr h₀ L h' m → News h₀ L h' ((D, o) :: news) → (∀ p ∈ news, p.1 < D) → (D == sysModules) = false → o.IsDictOf (PySem.strKind Challenge.rw_xg0075_01.row.prog w) kvs → Ones kvs (ns ++ [k]) → Q (.ref D) { s with heap := h', toks := tk' }) :
    wpAny (model Challenge.rw_xg0075_01.row.prog w) (ktrTop dp un gd cn cs L a ccd cl outer) (call (.ref 56) [.ref dt, .ref ds]) Q E s := by
  refine wpAny_call ?_
  refine' code_def (binds := [(Str.ofString "target", .ref dt), (Str.ofString "source", .ref ds)]) B F X N T (by exact rfl) (by exact rfl) hK ?k6 ?k7 ?k8 ?k9 ?kB ?_ ?c2 ?c3 ?c4 ?c5
  case k6 => k_is
  case k7 => k_is
  case k8 => ktr_room
  case k9 => exact BindsTo.of_eq rfl
  case c5 => decide
  case kB => exact locs rfl
  case c2 => exact rfl
  case c3 => exact rfl
  case c4 => exact rfl
  intro g' L' h' FG' F' N' B' X' T'
  try dsimp only
  try k_fold
  repeat' walk1
  rename (∀ p ∈ news, p.1 < _) => lD
  rename (_ == sysModules) = false => loD
  rename Obj.IsDictOf (PySem.strKind _ _) _ [] => dD
  rename Fr _ _ _ _ => lF'
  rename News _ _ _ (_ :: news) => lN'
  refine name_map lF' fun mm hmm lF' => ?_
  with_unfolding_all ((refine' For_turns lF' ?_); k_whole; (refine MethodCall_ ?_); (refine ld lF' (by subst hmm; rfl) ?_); (refine kdl_method (knd := PySem.strKind _ _) PySem.F.slot_dict_items PySem.F.type_dict_items lN' (.tail _ m0) d0 ?_); (refine callWith_method0 ?_))
  refine kta_callItems (knd := PySem.strKind _ _) lF' lN' (.tail _ m0) d0 l0 ?_
  intro hv hv' F1 N1
  refine kta_items (knd := PySem.strKind _ _) (enc := PyData.str) (by with_unfolding_all rfl) F1 N1 hv' (.tail _ m0) d0 (fun _ _ h => Value.isStrOf_shape h) rfl ?_
  intro I lI
  have lDI := lI _ (.head _)
  refine items_inv (fun (p : Str × Value) => Itm.pair (kyVal (PyData.str p.1)) p.2) (fun rem m2 nw => ∃ (pre : List (Str × Value)) (o : Obj) (u1 u2 : Option Value), kt = pre ++ rem ∧ nw = (_, o) :: news ∧ o.IsDictOf (PySem.strKind Challenge.rw_xg0075_01.row.prog w) pre ∧ m2 = fun y => if y = Str.ofString "func" then u1 else if y = Str.ofString "caller" then u2 else mm y) ?_ ?_ kt _ _ ⟨[], _, none, none, rfl, rfl, dD, ?_⟩
  · rintro ⟨x, v1⟩ r m2 nw v hh tk2 io ⟨pre, o, u1, u2, hk, rfl, hdo, rfl⟩ hv2 hio F2 N2
    obtain ⟨T1, tt, rfl, hT1⟩ := hv2
    have hT1' : IsTup hh T1 #[.str x tt, v1] := hT1
    clear hT1
    subst hmm
    clear F1 N1 lF' lN'
    repeat' walk1
    have nd : x ∉ pre.map (·.1) := by
      obtain ⟨_, _, _, _, _, _, nd⟩ := d0
      rw [hk, List.map_append] at nd
      intro hx
      exact (List.nodup_append.mp nd).2.2 x hx x (.head _) rfl
    k_dflt (refine' kda_set (knd := PySem.strKind _ _) (by assumption) (by assumption) ?U hdo (strKind_is _ _ _ _) ?z ?_)
    case U => exact .tail (Ne.symm (Nat.ne_of_lt lDI)) (.head (ne_all_of_lt lD))
    case z =>
      have e1 : kt.length = ns.length := by rw [← o0.1, List.length_map]
      have e2 := congrArg List.length hk
      rw [List.length_append] at e2
      rw [sizeLine_eq]; omega
    rw [stored_new nd]
    intro h3 o3 F3 N3 hd3
    repeat' walk1
    refine unrEndA F3 N3 (_ :: news) (fun p hp => by rw [List.mem_singleton.mp hp]; exact .head _) (fun p hp => .tail _ hp) (fun p hp q hq => by rw [List.mem_singleton.mp hq]; exact Nat.ne_of_lt (by rcases List.mem_cons.mp hp with rfl | hp; exact lDI; exact lI _ (.tail _ hp))) ⟨⟨.tail _ m0, trivial⟩, pre ++ [(x, v1)], o3, some (.str x tt), some v1, ?_, rfl, hd3, ?_⟩
    · rw [List.append_assoc]; exact hk
    funext y
    by_cases e0 : y = Str.ofString "func"
    · subst e0; with_unfolding_all rfl
    by_cases e1 : y = Str.ofString "caller"
    · subst e1; with_unfolding_all rfl
    simp only [e0, e1, if_false]
  · rintro m2 nw hh tk2 ⟨pre, o, u1, u2, hk, rfl, hdo, rfl⟩ F2 N2
    subst hmm
    clear F1 N1 lF' lN'
    repeat' walk1
    with_unfolding_all ((refine' For_turns F2 ?_); k_whole; (refine MethodCall_ ?_); (refine ld F2 (by rfl) ?_); (refine kdl_method (knd := PySem.strKind _ _) PySem.F.slot_dict_items PySem.F.type_dict_items N2 (.tail _ m1) d1 ?_); (refine callWith_method0 ?_))
    refine kta_callItems (knd := PySem.strKind _ _) F2 N2 (.tail _ m1) d1 l1 ?_
    intro hv hv' F1 N1
    refine kta_items (knd := PySem.strKind _ _) (enc := PyData.str) (xs := [Itm.pair (fun t => .str k t) (.int 1 tko)]) (by with_unfolding_all rfl) F1 N1 hv' (.tail _ m1) d1 (fun _ _ h => Value.isStrOf_shape h) rfl ?_
    clear F2 N2
    intro I2 lI2
    repeat' walk1
    k_dflt (refine kda_in (knd := PySem.strKind _ _) (by assumption) (.tail _ (.head _)) hdo loD (strKind_is _ _ _ _) false ?_ ?_)
    · rw [List.append_nil] at hk
      subst hk
      unfold valueAt
      rw [Option.isSome_map, Option.isSome_eq_false_iff, Option.isNone_iff_eq_none, List.find?_eq_none]
      intro p hp e
      refine hn ?_
      rw [← o0.1]
      exact List.mem_map.mpr ⟨p, hp, by simpa using e⟩
    repeat' walk1
    have lDI2 := lI2 _ (.head _)
    have o1 : Ones pre ns := by rw [List.append_nil] at hk; subst hk; exact o0
    k_dflt (refine' kda_set (knd := PySem.strKind _ _) (by assumption) (by assumption) ?U hdo (strKind_is _ _ _ _) ?z ?_)
    case U => exact .tail (Ne.symm (Nat.ne_of_lt lDI2)) (.head (ne_all_of_lt lD))
    case z =>
      have e1 : pre.length = ns.length := by rw [← o1.1, List.length_map]
      rw [sizeLine_eq]; omega
    rw [stored_new (by rw [o1.1]; exact hn)]
    intro h3 o3 F3 N3 hd3
    repeat' walk1
    refine unrEndA F3 N3 (_ :: news) (fun p hp => by rw [List.mem_singleton.mp hp]; exact .head _) (fun p hp => .tail _ hp) (fun p hp q hq => by rw [List.mem_singleton.mp hq]; exact Nat.ne_of_lt (by rcases List.mem_cons.mp hp with rfl | hp; exact lDI2; exact lI2 _ (.tail _ hp))) ⟨⟨.tail _ m1, trivial⟩, ?_⟩
    repeat' walk1
    exact hret _ _ _ _ _ (by assumption) (by assumption) lD loD hd3 o1.snoc
  · subst hmm
    funext y
    by_cases e0 : y = Str.ofString "func"
    · subst e0; with_unfolding_all rfl
    by_cases e1 : y = Str.ofString "caller"
    · subst e1; with_unfolding_all rfl
    simp only [e0, e1, if_false]
end
end Mine
end
/-! part Exc -/
section
theorem Mine.rstExc : True := by
  w_top off
  trivial
open PySem PySem.Spec PySem.Calls PySem.W PyProof.Rows
set_option maxRecDepth 100000
set_option maxHeartbeats 4000000
namespace Mine
abbrev excO (C t : Addr) (d : Option Addr) : Obj := { cls := .ref C, dict := d, data := .fields #[.ref t, .none, .none, .none, .bool false, .none] }
structure MakesE (M : Model) (h : Heap) (C : Addr) : Prop where
  obj : ∃ oc od cd sl, h.get? C = some ⟨oc, od, .cls cd, sl⟩ ∧ cd.abstract = false ∧ cd.hasDel = false ∧ cd.mro.isEmpty = false
  made : Looks M h (Bind.madeBy (.ref C)) (some "Exception.__new__")
  base : Looks M h (Bind.staticBase (.ref C)) (.ref C)
  self : Looks M h (isSubtype (.ref C) (.ref C)) true
  top : Looks M h (isSubtype (.ref C) (.type "Exception")) true
  noA : Looks M h (isSubtype (.ref C) (.type "AttributeError")) false
  noN : Looks M h (isSubtype (.ref C) (.type "NameError")) false
  call : Looks M h (specialOf (.ref C) "__call__") (some (.builtin "type.__call__"))
  typ : Looks M h (isInstance (.ref C) (.type "type")) true
def makesInE (K : Frag) (C : Addr) : Bool := match K.lookup C with
  | some ⟨_, _, .cls cd, sl⟩ => !cd.abstract && !cd.hasDel && (sl.toList[4]?).join == some (.builtin "Exception.__new__") && !cd.mro.isEmpty && cd.mro.contains (.ref C) && cd.mro.contains (.type "Exception") &&
      !cd.mro.contains (.type "AttributeError") && !cd.mro.contains (.type "NameError") && specialIn K (.ref C) "__call__" == some (some (.builtin "type.__call__")) && instIn K (.ref C) (.type "type") == some true
  | _ => false
theorem makesE_of {K : Frag} {M : Model} {h : Heap} (X : K.In h) {C : Addr} (e : makesInE K C = true) : MakesE M h C := by
  unfold makesInE at e
  split at e
  · rename_i oc od cd sl ho
    simp only [Bool.and_eq_true, Bool.not_eq_true', beq_iff_eq] at e
    obtain ⟨⟨⟨⟨⟨⟨⟨⟨⟨e1, e2⟩, e3⟩, e4⟩, e5⟩, e6⟩, eA⟩, eN⟩, e7⟩, e8⟩ := e
    have hc : clsIn K C = some cd := by unfold clsIn; rw [ho]
    have hm : Looks M h (mroOf (.ref C)) cd.mro := (looks_clsIn X hc).andThen .now
    obtain ⟨c, l, hl⟩ : ∃ c l, cd.mro = c :: l := by cases q : cd.mro with | nil => rw [q] at e4; cases e4 | cons c l => exact ⟨c, l, rfl⟩
    have made : Looks M h (Bind.madeBy (.ref C)) (some "Exception.__new__") := by
      intro A Q E s k q
      unfold Bind.madeBy
      refine wpAny_bind (hm A _ E s k ?_)
      rw [hl, List.forIn_cons]
      refine wpAny_bind (wpAny_bind (wpAny_bind (wpAny_bind (wpAny_loadPart (k _ _ (X _ _ ho)) (wpAny_pure ?_)))))
      dsimp only
      rw [← Array.getElem?_toList, e3]
      exact wpAny_pure (wpAny_pure (wpAny_pure q))
    refine ⟨⟨oc, od, cd, sl, X _ _ ho, e1, e2, e4⟩, made, ?_, looks_mroIn X ?_, looks_mroIn X ?_, looks_mroIn X ?_, looks_mroIn X ?_, looks_specialIn X e7, looks_instIn X e8⟩
    · intro A Q E s k q
      unfold Bind.staticBase
      refine wpAny_bind (hm A _ E s k ?_)
      rw [hl, List.forIn_cons]
      exact wpAny_bind (wpAny_bind (wpAny_bind (made A _ E s k (wpAny_pure (wpAny_pure (wpAny_pure q))))))
    · unfold mroIn; rw [hc, Option.bind_some, if_neg (by rw [e4]; decide), e5]
    · unfold mroIn; rw [hc, Option.bind_some, if_neg (by rw [e4]; decide), e6]
    · unfold mroIn; rw [hc, Option.bind_some, if_neg (by rw [e4]; decide), eA]
    · unfold mroIn; rw [hc, Option.bind_some, if_neg (by rw [e4]; decide), eN]
  · cases e
theorem newCall_exc (C : Addr) (rest : List Value) : (match Manifest.signature? "Exception.__new__" with | some sig => Bind.checkArgs "Exception.__new__" sig ⟨.ref C :: rest, []⟩ | none => pure ()) = pure () := by kernel_rfl
section
variable {prog : Program} {w : World} {A : Around} {K : Frag} {C : Addr} {R : Result → Shared → Prop} {h : Heap} {g : Array GenState} {d : Drawn} {t : Nat} {os : OsState}
theorem madeHere_E {M : Model} {A : Around} {E : Value → Shared → Prop} {s : Shared} {Q : Unit → Shared → Prop} (Y : MakesE M s.heap C) (q : Q () s) : wpAny M A (Bind.madeHere "BaseException.__new__" (.ref C)) Q E s := by
  unfold Bind.madeHere
  refine wpAny_bind (Y.base.here (wpAny_bind (Y.made.here ?_)))
  have hc := PySem.F.excBase_Exception.canon
  simp only [Option.map_some, hc, bne_self_eq_false, Bool.false_eq_true, if_false]
  exact wpAny_pure q
theorem new_exc {rest : List Value} (Y : MakesE (model prog w) h C) (hrest : rest.length ≤ sizeLine)
    (hq : R (.ok (.ret (.ref (h.objs.size + 1)))) ⟨(h.push (tupO rest 0)).push (excO C h.objs.size none), g, d, t, os⟩) :
    codeAny (model prog w) A (.call (.builtin "Exception.__new__") ⟨.ref C :: rest, []⟩) R ⟨h, g, d, t, os⟩ := by
  have Y' := Y
  obtain ⟨⟨oc, od, cd, sl, hC, e1, e2, e4⟩, made, base, self, top, noA, noN, call, typ⟩ := Y
  have FB := PySem.F.excBase_Exception
  refine codeAny_of_tree ?_
  show wpAny _ A.in1 (do checkBuiltinCall "Exception.__new__" ⟨.ref C :: rest, []⟩; again (.builtin "Exception.__new__" ⟨.ref C :: rest, []⟩)) _ _ _
  have fin : (Code.builtin "Exception.__new__" ⟨.ref C :: rest, []⟩).quiet = true ∧ codeAny (model prog w) A (Code.builtin "Exception.__new__" ⟨.ref C :: rest, []⟩) R ⟨h, g, d, t, os⟩ := by
    refine ⟨Code.quiet_builtin _ FB.quiet, ?_⟩
    have hends := FB.ends
    refine codeAny_builtinAt FB.entry ?_
    unfold Builtin.«BaseException.__new__»
    refine PySem.wpAt_bind ?_
    show PySem.wpAt _ _ _ (stack >>= _) _ _ _
    refine PySem.wpAt_bind (PySem.wpAt_stack fun p below => PySem.wpAt_of_wpAny ?_)
    wp_walk
    refine PySem.wpAt_of_wpAny ?_
    rw [FB.owner]
    repeat (first | lk | (with_reducible refine ks_wpAny_isType_cls hC rfl ?_) | (with_reducible refine wpAny_bind (madeHere_E Y' ?_)) | simp only [Bool.not_true, Bool.false_eq_true, if_false])
    rw [if_neg (by rw [List.size_toArray]; omega)]
    repeat (first | lk | simp only [Bool.not_true, Bool.false_eq_true, if_false])
    refine wpAny_load (Heap.get?_push_of_some _ (Heap.get?_push_of_some _ hC)) (wpAny_pure ?_)
    simp only [e2, Bool.false_eq_true, if_false]
    refine wpAny_pure (wpAny_pure ?_)
    rw [Heap.size_push]
    exact hq
  refine wpAny_bind ?_
  simp only [checkBuiltinCall, FB.newKind, FB.newSplit]
  repeat (first | exact fin | lk | (with_reducible refine ks_wpAny_isType_cls hC rfl ?_) | simp only [Bool.not_true, bne_self_eq_false, Bool.false_eq_true, if_false])

theorem make_exc {fI : Value} {rest : List Value} (Y : MakesE (model prog w) h C) (hi : Looks (model prog w) h (typeLookup (.ref C) "__init__") (some fI))
    (hb : ∀ self, Looks (model prog w) h (bindSpecial fI self) (fI, [self])) (hrest : rest.length ≤ sizeLine)
    (hq : codeAny (model prog w) (A.under (.builtin "type.__call__" ⟨.ref C :: rest, []⟩)) (.call fI ⟨.ref (h.objs.size + 1) :: rest, []⟩) (InitBack (h.objs.size + 1) R) ⟨(h.push (tupO rest 0)).push (excO C h.objs.size none), g, d, t, os⟩) :
    codeAny (model prog w) A (.call (.ref C) ⟨rest, []⟩) R ⟨h, g, d, t, os⟩ := by
  have Y' := Y
  obtain ⟨⟨oc, od, cd, sl, hC, e1, e2, e4⟩, made, base, self, top, noA, noN, call, typ⟩ := Y
  refine codeAny_of_tree ?_
  show wpAny _ _ (callAny (.ref C) _) _ _ _
  refine nd_load hC ?_
  show wpAny _ _ (callAny.viaDunder (.ref C) _) _ _ _
  unfold callAny.viaDunder
  refine wpAny_bind (call.at ?_)
  dsimp only
  rw [tc_bind]
  refine wpAny_bind (wpAny_pure (wpAny_bind (wpAny_pure ?_)))
  refine wpAny_pure (a := Fin.again (.call (.builtin "type.__call__") ⟨.ref C :: rest, []⟩)) (And.intro rfl ?_)
  refine codeAny_call_builtin_at (Code.quiet_builtin _ (by decide +kernel)) entry_typeCall (check_slot tc_kind tc_split typ (tc_args _ _ _) ?_)
  unfold Builtin.«type.__call__»
  have hm : Looks (model prog w) h (mroOf (.ref C)) cd.mro := ((Looks.ld (part := none) hC).andThen .now).andThen .now
  repeat (first | simp only [e4, Bool.false_eq_true, if_false] | with_reducible refine wpAny_call ?_ | lk)
  refine new_exc Y' hrest ?_
  have k : ∀ b o, h.get? b = some o → ((h.push (tupO rest 0)).push (excO C h.objs.size none)).get? b = some o := fun b o e => Heap.get?_push_of_some _ (Heap.get?_push_of_some _ e)
  have hx : ((h.push (tupO rest 0)).push (excO C h.objs.size none)).get? (h.objs.size + 1) = some (excO C h.objs.size none) := by heap_get
  have t1 : Looks (model prog w) ((h.push (tupO rest 0)).push (excO C h.objs.size none)) (typeOf (.ref (h.objs.size + 1))) (.ref C) := (Looks.ld hx).andThen .now
  have s1 := self.keeps k
  have i1 := hi.keeps k
  have b1 := (hb (.ref (h.objs.size + 1))).keeps k
  unfold isInstance callSpecial? specialOf
  repeat (first | with_reducible refine wpAny_call ?_ | lk)
  refine codeAny_mono hq fun r s' z => ?_
  rcases r with e | (v | _ | _ | _) <;> first | exact z | exact z.elim | skip
  obtain ⟨rfl, z⟩ := z
  exact wpAny_pure (wpAny_pure z)
end
section
variable {prog : Program} {w : World} {A : Around} {E : Value → Shared → Prop} {s : Shared} {K : Frag} {x C : Addr} {ox : Obj} {od : Option Obj} {h₀ : Heap} {L : Addr} {m : Str → Option Value} {news : List (Addr × Obj)} {g : Obj → List (Addr × Obj)} {R : Result → Shared → Prop}
theorem osa_first {t : Addr} {name : Str} {tk : Tok} {v : Value} {od' : Obj} {es : List DictEntry} {n : Nat} {cd : ClassData} (F : Fr h₀ L s.heap m) (N : News h₀ L s.heap news) (X : K.In s.heap) (U : UpdF x (excO C t none) news g)
    (hc : clsIn K C = some cd) (ne : cd.mro.isEmpty = false) (hob : cd.mro.contains (.type "object") = true) (hrf : ∀ self, refuseLoop self "__setattr__" cd.mro = pure ())
    (ht : takerIn K C name = some none) (hh : cd.hasDict = true) (e : Obj.putName name (PyData.keyHash w.params name) (.str name s.toks) v emptyDict = od') (e' : od'.data = .dict es.toArray n) (hz : es.length ≤ 1000)
    (h : ∀ (d : Addr) (h' : Heap), Fr h₀ L h' m → News h₀ L h' ((d, od') :: g (excO C t (some d))) → (∀ p ∈ news, p.1 < d) → R (.ok (.ret .none)) { s with heap := h', toks := s.toks + 1 }) :
    codeAny (model prog w) A (.call (.builtin "object.__setattr__") ⟨[.ref x, .str name tk, v], []⟩) R s := by
  have hx := (N _ (UpdF.mem U)).1
  refine osa_openG (od := none) X ⟨hx, rfl, rfl, trivial⟩ hc ne hob hrf ht fun b => ?_
  have lt : ∀ p ∈ news, p.1 < s.heap.objs.size := fun p hp => Heap.lt_size (N p hp).1
  have F1 := F.push emptyDict
  have N1 : News h₀ L (s.heap.push emptyDict) ((s.heap.objs.size, emptyDict) :: news) := news_pushed F N (fun b x e => Heap.get?_push_of_some _ e) (Heap.get?_push_size _ rfl) rfl
  have U1 : UpdF x (excO C t none) ((s.heap.objs.size, emptyDict) :: news) (fun o => (s.heap.objs.size, emptyDict) :: g o) := .tail (Nat.ne_of_gt (lt _ (UpdF.mem U))) U
  obtain ⟨F2, N2⟩ := updF_news (f := fun o => { o with dict := some s.heap.objs.size }) (o' := excO C t (some s.heap.objs.size)) F1 N1 U1 rfl rfl
  have offd : ∀ p ∈ g (excO C t (some s.heap.objs.size)), p.1 ≠ s.heap.objs.size := fun p hp => by
    rcases UpdF.back U hp with rfl | ⟨hp, _⟩
    · have q := lt _ (UpdF.mem U)
      exact Nat.ne_of_lt q
    · exact Nat.ne_of_lt (lt _ hp)
  have U2 : UpdF s.heap.objs.size emptyDict ((s.heap.objs.size, emptyDict) :: g (excO C t (some s.heap.objs.size))) (fun o => (s.heap.objs.size, o) :: g (excO C t (some s.heap.objs.size))) := .head offd
  obtain ⟨F3, N3⟩ := updF_news (f := Obj.putName name (PyData.keyHash w.params name) (.str name s.toks) v) F2 N2 U2 e (by obtain ⟨_, _, dd, _⟩ := od'; cases e'; rfl)
  have D := (N2 _ (.head _)).1
  have D' := (N3 _ (.head _)).1
  refine wpAny_bind (wpAny_pure (wpAny_bind (wpAny_bind (wpAny_loadPart hx (wpAny_bind ((looks_clsIn X hc).here ?_))))))
  rw [hh]
  repeat (first | lk | simp only [Bool.not_true, Bool.or_false, Bool.false_eq_true, if_false])
  have hx1 := (N1 _ (UpdF.mem U1)).1
  refine wpAny_updatePart hx1 ?_
  unfold dictMade
  refine wpAny_bind (wpAny_pure (wpAny_pure ?_))
  dsimp only
  unfold Builtin.ObjectAttr.storeInDict
  refine wpAny_bind (wpAny_pure (wpAny_bind ?_))
  unfold nsSet
  refine wpAny_bind (wpAny_bind (wpAny_askSetting (wpAny_pure (wpAny_bind (wpAny_mkText (wpAny_bind (wpAny_loadPart D ?_)))))))
  dsimp only
  have c : (!(#[] : Array DictEntry).any (·.key.isStr name) && (#[] : Array DictEntry).any (·.refKey)) = false := by simp
  rw [aRefKeyMayBeTheName_at, c]
  refine wpAny_updatePart D ?_
  refine wpAny_bind (wpAny_lookBehind D' (by rw [e']; exact pastItsLine_dict (by rw [List.size_toArray, sizeLine_eq]; omega)) ?_)
  exact wpAny_pure (h _ _ F3 N3 lt)
theorem set_first {t : Addr} {name : Str} {v : Value} {od' : Obj} {es : List DictEntry} {n : Nat} {cd : ClassData} {Q : Unit → Shared → Prop} (F : Fr h₀ L s.heap m) (N : News h₀ L s.heap news) (X : K.In s.heap) (U : UpdF x (excO C t none) news g)
    (hc : clsIn K C = some cd) (ne : cd.mro.isEmpty = false) (hob : cd.mro.contains (.type "object") = true) (hrf : ∀ self, refuseLoop self "__setattr__" cd.mro = pure ())
    (ht : takerIn K C name = some none) (hh : cd.hasDict = true) (hs : findIn K (.ref C) "__setattr__" = some (some (.builtin "object.__setattr__")))
    (e : Obj.putName name (PyData.keyHash w.params name) (.str name (s.toks + 1)) v emptyDict = od') (e' : od'.data = .dict es.toArray n) (hz : es.length ≤ 1000)
    (h : ∀ (d : Addr) (h' : Heap), Fr h₀ L h' m → News h₀ L h' ((d, od') :: g (excO C t (some d))) → (∀ p ∈ news, p.1 < d) → Q () { s with heap := h', toks := s.toks + 1 + 1 }) : wpAny (model prog w) A (setAttr (.ref x) name v) Q E s :=
  set_plain X (od := none) ⟨(N _ (UpdF.mem U)).1, rfl, rfl, trivial⟩ hs (osa_first (s := { s with toks := s.toks + 1 }) F N X U hc ne hob hrf ht hh e e' hz h)
end
end Mine
end
/-! part C8 -/
section
local macro_rules | `(tactic| walk_at "pad") => `(tactic| skip)
theorem Mine.rstC8 : True := by
  w_top off
  trivial
open PySem PySem.Spec PySem.Calls PySem.W PyProof.Rows PyProof.V
set_option maxRecDepth 100000
set_option maxHeartbeats 4000000
namespace Mine
local macro_rules | `(tactic| k_mem) => `(tactic| assumption)
local macro_rules | `(tactic| k_all) => `(tactic| first | assumption | exact ne_all_of_lt (by assumption))
theorem off_upd {D r d1 : Addr} {oD o1 o2 : Obj} {rest : List (Addr × Obj)} (l3 : ∀ p ∈ (D, oD) :: (r, o1) :: rest, p.1 < d1) : ∀ p ∈ (D, oD) :: (r, o2) :: rest, p.1 ≠ d1 := by
  intro p hp
  rcases List.mem_cons.mp hp with rfl | hp
  · have q := l3 _ (.head _); exact Nat.ne_of_lt q
  rcases List.mem_cons.mp hp with rfl | hp
  · have q := l3 _ (.tail _ (.head _)); exact Nat.ne_of_lt q
  · exact Nat.ne_of_lt (l3 _ (.tail _ (.tail _ hp)))
section
variable {w : World} {loose : List Str} {mean : ExcName → Option Value} {mg mb : Str → Option Value}
  {dp un : Nat} {gd : Option (List Code)} {cn : Str} {cs : Scope} {a : Addr} {ccd : Value} {cl : List (Str × Addr)} {outer : List Env} {A₀ : Around} {base h₀ : Heap} {L : Addr} {m : Str → Option Value} {s : Shared} {Q E : Value → Shared → Prop} {news : List (Addr × Obj)}

theorem kis_makesE (w : World) : makesInE (Mine.hd.heap_39 w.params) 192 = true := by kernel_rfl
theorem nag_spec {v1 v2 v3 : Value}
    (B : Below A₀ base outer h₀) (F : Fr h₀ L s.heap m) (X : (Mine.hd.heap_39 w.params).In h₀) (N : News h₀ L s.heap news) (T : Top Mine.hd.view_39 loose mean mg mb h₀) (hK : cs.kind = .function)
    (hd : dp + 8 < recursionLimit) (hu : un + 64 < cLine)
    (hret : ∀ (q t d : Addr) (od : Obj) (h' : Heap) (tk' : Nat), Fr h₀ L h' m → News h₀ L h' ((d, od) :: (q, excO 192 t (some d)) :: (t, tupO [v1, v2, v3] 0) :: news) → (∀ p ∈ news, p.1 < t) → t < q → q < d → Q (.ref q) { s with heap := h', toks := tk' }) :
    wpAny (model Challenge.rw_xg0075_01.row.prog w) (ktrTop dp un gd cn cs L a ccd cl outer) (call (.ref 192) [v1, v2, v3]) Q E s := by
  refine wpAny_call ?_
  obtain ⟨hh, g, d, t, os⟩ := s
  have Y := makesE_of (M := model Challenge.rw_xg0075_01.row.prog w) (X.keeps F.keep) (kis_makesE w)
  have F1 := (F.push (tupO [v1, v2, v3] 0)).push (excO 192 hh.objs.size none)
  have N1 := (N.push F (tupO [v1, v2, v3] 0)).push (F.push _) (excO 192 hh.objs.size none)
  have la : ∀ p ∈ news, p.1 < hh.objs.size := fun p hp => Heap.lt_size (N p hp).1
  k_dflt (refine' make_exc Y (looks_findIn (X.keeps F.keep) ?a) (fun self => bind_fn (X.keeps F.keep) self ?b) ?z ?_)
  case a => k_is
  case b => k_is
  case z => rw [sizeLine_eq]; exact Nat.le_of_ble_eq_true (by rfl)
  rw [Heap.size_push] at N1
  have hq0 : hh.objs.size < hh.objs.size + 1 := Nat.lt_succ_self _
  generalize hr : hh.objs.size + 1 = r at *
  generalize hrd : hh.objs.size = rt at *
  refine' code_def (binds := [(Str.ofString "self", .ref r), (Str.ofString "lineno", v1), (Str.ofString "msg", v2), (Str.ofString "line", v3)]) B F1 X N1 T (by exact rfl) (by exact rfl) hK ?k6 ?k7 ?k8 ?k9 ?kB ?_ ?c2 ?c3 ?c4 ?c5
  case k6 => k_is
  case k7 => k_is
  case k8 => ktr_room
  case k9 => exact BindsTo.of_eq rfl
  case c5 => decide
  case kB => exact locs rfl
  case c2 => exact rfl
  case c3 => exact rfl
  case c4 => exact rfl
  intro g' L' h' FG' F' N' B' X' T'
  try dsimp only
  try k_fold
  repeat' walk1
  rename Fr _ _ _ _ => F2
  rename News _ _ _ _ => N2
  have hDr := ne_of_cls N2 (.head _) (.tail _ (.head _)) (by intro e; cases e)
  have hrr : ∀ p ∈ (rt, tupO [v1, v2, v3] 0) :: news, p.1 ≠ r := fun p hp => by
    rcases List.mem_cons.mp hp with rfl | hp
    · exact Nat.ne_of_lt hq0
    · exact Nat.ne_of_lt (Nat.lt_trans (la _ hp) hq0)
  k_dflt (refine' set_first (es := [⟨PyData.keyHash w.params (Str.ofString "lineno"), .str (Str.ofString "lineno") _, v1⟩]) F2 N2 (X'.keeps F2.keep) (UpdF.tail hDr (UpdF.head hrr)) ?hc ?ne ?hob ?hrf ?ht ?hh ?hs ?e ?e' ?hz ?_)
  case hc => k_is
  case ne => rfl
  case hob => decide
  case hrf => exact fun self => pass_exc self _
  case ht => k_is
  case hh => rfl
  case hs => k_is
  case e => with_unfolding_all rfl
  case e' => rfl
  case hz => exact Nat.le_of_ble_eq_true rfl
  intro d1 h3 F3 N3 l3
  dsimp only at F3 N3 ⊢
  clear F2 N2
  have lr1 : r < d1 := l3 _ (.tail _ (.head _))
  have offd := off_upd (o2 := excO 192 rt (some d1)) l3
  repeat' walk1
  k_dflt (refine' set_dictG (es := [⟨PyData.keyHash w.params (Str.ofString "lineno"), .str (Str.ofString "lineno") _, v1⟩, ⟨PyData.keyHash w.params (Str.ofString "msg"), .str (Str.ofString "msg") _, v2⟩]) F3 N3 (X'.keeps F3.keep) (UpdF.head offd) ⟨(N3 _ (.tail _ (.tail _ (.head _)))).1, rfl, rfl, (N3 _ (.head _)).1⟩ rfl ?hca ?nea ?hoba ?hrfa ?hta ?hha ?hla ?hsa ?ea ?e'a ?hza ?_)
  case hca => k_is
  case nea => rfl
  case hoba => decide
  case hrfa => exact fun self => pass_exc self _
  case hta => k_is
  case hha => rfl
  case hla => rfl
  case hsa => k_is
  case ea => with_unfolding_all rfl
  case e'a => rfl
  case hza => exact Nat.le_of_ble_eq_true rfl
  intro h4 F4 N4
  dsimp only at F4 N4 ⊢
  clear F3 N3
  repeat' walk1
  k_dflt (refine' set_dictG (es := [⟨PyData.keyHash w.params (Str.ofString "lineno"), .str (Str.ofString "lineno") _, v1⟩, ⟨PyData.keyHash w.params (Str.ofString "msg"), .str (Str.ofString "msg") _, v2⟩, ⟨PyData.keyHash w.params (Str.ofString "line"), .str (Str.ofString "line") _, v3⟩]) F4 N4 (X'.keeps F4.keep) (UpdF.head offd) ⟨(N4 _ (.tail _ (.tail _ (.head _)))).1, rfl, rfl, (N4 _ (.head _)).1⟩ rfl ?hcb ?neb ?hobb ?hrfb ?htb ?hhb ?hlb ?hsb ?eb ?e'b ?hzb ?_)
  case hcb => k_is
  case neb => rfl
  case hobb => decide
  case hrfb => exact fun self => pass_exc self _
  case htb => k_is
  case hhb => rfl
  case hlb => rfl
  case hsb => k_is
  case eb => with_unfolding_all rfl
  case e'b => rfl
  case hzb => exact Nat.le_of_ble_eq_true rfl
  intro h5 F5 N5
  dsimp only at F5 N5 ⊢
  clear F4 N4
  repeat' walk1
  exact hret r rt d1 _ _ _ (by assumption) (cb_drop (by assumption) (sub_cons (.head _) (fun p hp => .tail _ (.tail _ hp)))) la hq0 lr1
end
end Mine
end
/-! part Rz -/
section
theorem Mine.rstRz : True := by
  w_top off
  trivial
open PySem PySem.Spec PySem.Calls PySem.W PyProof.Rows PyProof.V
set_option maxRecDepth 100000
set_option maxHeartbeats 4000000
namespace Mine
section
variable {M : Model} {A : Around} {E : Value → Shared → Prop} {s s' : Shared} {base g h : Heap} {outer : List Env} {L q t C : Addr} {d : Option Addr} {m : Str → Option Value} {env : Env} {news all : List (Addr × Obj)} {vs : List Value}
theorem leave_nag {Q : Unit → Shared → Prop} (K : Below A base outer g) (hf : env.frame = some L) (hk : env.scope.kind = .function) (F : Fr g L s'.heap m) (N : News g L s'.heap all)
    (hq : (q, excO C t d) ∈ all) (ht : (t, tupO vs 0) ∈ all) (hsub : ∀ p ∈ news, p ∈ all) (hne : ∀ p ∈ news, p.1 ≠ q ∧ p.1 ≠ t) (hqt : t ≠ q)
    (hQ : ∀ h', RaisedK base outer q (.ref C) t vs news h' → g.UpToSlots h' → Q () { s' with heap := h' }) :
    wpAny M (A.deeper env) (leaving env (.ref q)) Q E s' := by
  have K' := pushX K F hf hk
  have nin : ∀ p ∈ all, p.1 ∉ (env :: outer).filterMap (·.frame) := fun p hp hm => by
    obtain ⟨env', he, hf'⟩ := List.mem_filterMap.mp hm
    rcases List.mem_cons.mp he with rfl | he
    · exact (N p hp).2.1 (Option.some.inj (hf'.symm.trans hf))
    · obtain ⟨o, ho, _⟩ := (K.frames.mem (List.mem_filterMap.mpr ⟨env', he, hf'⟩)).2
      rw [(N p hp).2.2] at ho; cases ho
  have bn : ∀ p ∈ all, base.get? p.1 = none := fun p hp => fresh_of_stays K.stays (N p hp).2.2
  have hin : ∀ env' ∈ (env :: outer), ∀ b, env'.frame = some b → b ∈ (env :: outer).filterMap (·.frame) ++ [q, t] := fun env' he b hb => List.mem_append_left _ (List.mem_filterMap.mpr ⟨env', he, hb⟩)
  have qin : q ∈ (env :: outer).filterMap (·.frame) ++ [q, t] := List.mem_append_right _ (.head _)
  have tin : t ∈ (env :: outer).filterMap (·.frame) ++ [q, t] := List.mem_append_right _ (.tail _ (.head _))
  have st : base.StaysIn (hideAll s'.heap ((env :: outer).filterMap (·.frame) ++ [q, t])) := fun b o e => hideAll_get _ (K'.stays b o e) fun hm => by
    rcases List.mem_append.mp hm with hm | hm
    · rw [(K'.frames.mem hm).1] at e; cases e
    · rcases List.mem_cons.mp hm with rfl | hm
      · rw [bn _ hq] at e; cases e
      · rw [List.mem_singleton.mp hm, bn _ ht] at e; cases e
  have hl : ∀ p ∈ news, (hideAll s'.heap ((env :: outer).filterMap (·.frame) ++ [q, t])).get? p.1 = some p.2 ∧ base.get? p.1 = none := fun p hp => by
    refine ⟨hideAll_get _ (N p (hsub p hp)).1 fun hm => ?_, bn _ (hsub p hp)⟩
    rcases List.mem_append.mp hm with hm | hm
    · exact nin p (hsub p hp) hm
    · rcases List.mem_cons.mp hm with e | hm
      · exact (hne p hp).1 e
      · exact (hne p hp).2 (List.mem_singleton.mp hm)
  refine wpAny_leaving_firstW (a0 := .ref t) (Around.frames_deeper K.stack) (funFrames_hide K'.frames hin) hf (N _ hq).1 (fun b o e => of_hideAll _ e) (hideAll_none _ qin) rfl rfl rfl fun h' hL => ?_
  obtain ⟨k1, ⟨_, _, k2⟩, k3, k4⟩ := hL
  refine hQ h' ⟨⟨_, st, hl, ⟨k1, hideAll_none _ qin, k2, k3⟩, hideAll_none _ tin⟩, Heap.TupAt.of_slots ⟨_, _, (N _ ht).1, rfl, rfl⟩ k4⟩ ((Heap.UpToSlots.of_keeps F.keep).trans k4)
end
section
variable {prog : Program} {w : World} {A : Around} {E : Value → Shared → Prop} {s : Shared} {env : Env} {KF : Frag} {C : Addr}
theorem raise_nag {e : Expr} {pos : Pos} {Q : Flow → Shared → Prop} (hh : A.handled = none)
    (h : wpAny (model prog w) A (eval e env) (fun v s₁ => ∃ q t d, v = .ref q ∧ s₁.heap.get? q = some (excO C t d) ∧ MakesE (model prog w) s₁.heap C ∧ Looks (model prog w) s₁.heap (isSubtype (.ref C) (.type "BaseException")) true ∧ Looks (model prog w) s₁.heap (isSubtype (.ref C) (.type "type")) false ∧ Looks (model prog w) s₁.heap (typeOf (.ref C)) (.type "type") ∧ E (.ref q) s₁) E s) :
    wpAny (model prog w) A (exec (.Raise (some e) none pos) env) Q E s := by
  rw [arm_exec_Raise]
  simp only [evalOpt, Option.map]
  refine wpAny_bind (wpAny_standAt ?_)
  unfold raiseStmt
  refine wpAny_bind (wpAny_bind (wpAny_mono h (fun v s₁ h₁ => ?_) fun _ _ x => x))
  obtain ⟨q, t, d, rfl, hq, Y, hb, hn, t2, hE⟩ := h₁
  have t1 : Looks (model prog w) s₁.heap (typeOf (.ref q)) (.ref C) := (Looks.ld hq).andThen .now
  have self := Y.self
  obtain ⟨hp, g, dr, tk, os⟩ := s₁
  refine wpAny_bind (wpAny_standAt (wpAny_pure ?_))
  unfold excFromValue isExcClass isType isInstance
  repeat (first | exact wpAny_raiseNew_none hh hE | lk | wp_step)

theorem excMatches_nag {M : Model} {A : Around} {E : Value → Shared → Prop} {s : Shared} {Q : Bool → Shared → Prop} {q C : Addr} {oe : Obj} (he : s.heap.get? q = some oe) (hcls : oe.cls = .ref C) (Y : MakesE M s.heap C)
    (hb : Looks M s.heap (isSubtype (.ref C) (.type "BaseException")) true) (tC : Looks M s.heap (typeOf (.ref C)) (.type "type")) (hq : Q true s) : wpAny M A (excMatches (.ref q) (.ref C)) Q E s := by
  have t1 : Looks M s.heap (typeOf (.ref q)) (.ref C) := by
    obtain ⟨c, d, dt, sl⟩ := oe
    cases hcls
    exact (Looks.ld he).andThen .now
  have t2 : Looks M s.heap (isInstance (.ref C) (.type "type")) true := Y.typ
  have self := Y.self
  have nt := tc_notTuple
  obtain ⟨⟨oc, od, cd, sl, hC, e1, e2, e4⟩, made, base, self', top, noA, noN, call, typ⟩ := Y
  have ie : Looks M s.heap (isExcClass (.ref C)) true := fun A' Q' E' s' k q' => by
    unfold isExcClass
    refine wpAny_bind (ks_wpAny_isType_cls (k _ _ hC) rfl ?_)
    rw [if_pos rfl]
    exact hb A' Q' E' s' k q'
  unfold excMatches isInstance
  refine wpAny_bind (wpAny_bind (tC.here ?_))
  rw [tc_notTuple]
  refine wpAny_pure ?_
  simp only [Bool.false_eq_true, if_false]
  refine wpAny_bind (wpAny_pure (wpAny_bind ?_))
  rw [List.forIn_cons]
  refine wpAny_bind (wpAny_bind (ie.here ?_))
  simp only [Bool.not_true, Bool.false_eq_true, if_false]
  refine wpAny_pure ?_
  dsimp only
  rw [List.forIn_nil]
  refine wpAny_pure (wpAny_bind (t1.here (wpAny_bind ?_)))
  rw [List.forIn_cons]
  refine wpAny_bind (wpAny_bind (self.here ?_))
  simp only [if_true]
  exact wpAny_pure (wpAny_pure (wpAny_pure hq))
end
section
variable {prog : Program} {w : World} {A₀ : Around} {E : Value → Shared → Prop} {s' : Shared} {h₀ h : Heap} {outer : List Env} {L a e t : Addr} {m : Str → Option Value} {name : Str} {scope : Scope} {cd : Value}
  {vs : List Value} {b₀ : Stmt} {suite : List Stmt} {pos np : Pos} {rest : List ExceptHandler} {Q : Flow → Shared → Prop} {news : List (Addr × Obj)} {KF : Frag} {C : Addr}
  {p : Program} {loose : List Str} {mg mb : Str → Option Value} {x : Str}
theorem caught_nag (K : Below A₀ h₀ outer h₀) (F : Fr h₀ L h m) (hsm : h.UpToSlots s'.heap) (R : RaisedK h₀ (envOf name scope L a cd :: outer) e (.ref C) t vs news s'.heap)
    (X : KF.In h₀) (T : TopRead p loose mg mb h₀) (ex : nsIn KF mainGlobals x = some (some (.ref C))) (q : makesInE KF C = true) (hbase : mroIn KF C (.type "BaseException") = some true) (htype : typeIn KF (.ref C) = some (.type "type"))
    (k : ∀ h', Fr h₀ L h' m → News h₀ L h' news →
      wpAny (model prog w) ((A₀.deeper (envOf name scope L a cd)).mark (some (.ref e))) (execs (b₀ :: suite) (envOf name scope L a cd)) Q E { s' with heap := h' })
    (hk : scope.kind = .function := by rfl) (hx : (envOf name scope L a cd).kindOf x = some .globalImplicit := by rfl) (hd : (x == ("__debug__" : Str)) = false := by decide)
    (hE : PassesOwnAt (model prog w) ((A₀.deeper (envOf name scope L a cd)).mark (some (.ref e))) (A₀.deeper (envOf name scope L a cd)) (envOf name scope L a cd) E := by passes_own) :
    wpAny (model prog w) (A₀.deeper (envOf name scope L a cd)) (noteFrame (.ref e) (envOf name scope L a cd))
      (fun _ s₂ => wpAny (model prog w) (A₀.deeper (envOf name scope L a cd)) (setFlight (.ref e) none) (fun _ s₃ =>
        wpAny (model prog w) (A₀.deeper (envOf name scope L a cd)) (handleBy (.ref e) (envOf name scope L a cd) (.ExceptHandler (some (.Name x np)) none (b₀ :: suite) pos :: rest)) Q E s₃) E s₂) E s' := by
  obtain ⟨⟨B, hB, hl, hfl, hnew⟩, htup⟩ := R
  have hL : B.get? L = none := by
    obtain ⟨_, ⟨L', _, hf, hn', _⟩, _⟩ := hfl.2.2.1
    obtain rfl : L = L' := Option.some.inj hf
    exact hn'
  refine wpAny_looks_onW (Around.frames_deeper K.stack) rfl hfl fun h₄ hheld₄ hsm₄ => ?_
  refine wpAny_landsW hheld₄ fun h₅ hheld hsm₅' => ?_
  have hsm₅ := hsm₄.trans hsm₅'
  have hheld' := flyingW_base hB hheld
  have F₅ := F.of_stays hheld'.1 (hsm.trans hsm₅)
  obtain ⟨ob, hob, hobc⟩ := hheld'.there
  have X₅ := X.keeps F₅.keep
  refine wpAny_handleBy_cons (codeAny_handlers_test (name_K F₅ X T ex ?_ hk hx hd)) (by intro q; cases q)
  refine excMatches_nag (s := { s' with heap := h₅ }) hob hobc (makesE_of X₅ q) (looks_mroIn X₅ hbase) (looks_typeIn X₅ htype) (codeAny_handlers_suite ?_)
  refine lands_againW hheld fun h₆ hfl₆ hsm₆ => ?_
  have hfl₆' := flyingW_base hB hfl₆
  have F₆ := F.of_stays hfl₆'.1 ((hsm.trans hsm₅).trans hsm₆)
  exact wpAny_passesOwnAt hE (k h₆ F₆ fun q hq => ⟨hfl₆.1 _ _ (hl q hq).1, (fun z => by have := (hl q hq).1; rw [z, hL] at this; cases this), (hl q hq).2⟩)
end
end Mine
end
/-! part P0 -/
section
theorem Mine.rstP0 : True := by
  w_top off
  trivial
namespace Mine
/-! the plain runs: a row is a list of (blanks, name), a table a list of names for each name -/
def cmpN (side p q : Int) (x y : Nat) : Int := if p < q then side else if q < p then -side else if x < y then -side else if y < x then side else 0
def score (side : Int) (l : List (Nat × Nat)) (p : Nat × Nat) : Int := (l.map fun q => cmpN side p.1 q.1 p.2 q.2).sum
def takes (side : Int) (w : Nat) (l : List (Nat × Nat)) (p : Nat × Nat) : Bool := decide (side * score side l p < 2 * (w : Int) - (l.length : Int))
def taken (side : Int) (w : Nat) (l : List (Nat × Nat)) : List Nat := (l.filter (takes side w l)).map (·.2)
def tie (c k : Nat) (bk : Nat → List Nat) : Nat → List Nat := fun j => if j = k then bk k ++ [c] else if j = c then bk c ++ [k] else bk j
def loopF (c : Nat) (tk : List Nat) : List (Nat × Nat) → List (Nat × Nat) → (Nat → List Nat) → Option (List (Nat × Nat) × (Nat → List Nat))
  | [], acc, bk => some (acc, bk)
  | p :: r, acc, bk => if p.2 ∈ tk then (if p.1 = 0 then none else loopF c tk r (acc ++ [(p.1 - 1, p.2)]) (tie c p.2 bk)) else loopF c tk r (acc ++ [p]) bk
def turnF (side : Int) (place : Nat) (items : List (Nat × Nat)) (bk : Nat → List Nat) : Option (List (Nat × Nat) × (Nat → List Nat)) :=
  match items[place % items.length]? with
  | none => none
  | some wc => if (items.eraseIdx (place % items.length)).length < wc.1 then none else loopF wc.2 (taken side wc.1 (items.eraseIdx (place % items.length))) (items.eraseIdx (place % items.length)) [] bk
def runF (side : Int) (place : Nat) : Nat → List (Nat × Nat) → (Nat → List Nat) → Option (Nat → List Nat)
  | 0, _, bk => some bk
  | n + 1, items, bk => match turnF side place items bk with
    | none => none
    | some r => runF side place n r.1 r.2
end Mine
end
/-! part R0 -/
section
theorem Mine.rstR0 : True := by
  w_top off
  trivial
open PySem PySem.Spec PySem.Calls PySem.W PyProof.Rows PyProof.V
set_option maxRecDepth 100000
set_option maxHeartbeats 4000000
namespace Mine
noncomputable def fnAt (p : Params) (f : Nat) : Option FuncData := match (Mine.hd.heap_39 p).lookup f with
  | some ⟨_, _, .func fd, _⟩ => some fd
  | _ => none
noncomputable def bodyAt (p : Params) (f : Nat) : List Stmt := match fnAt p f with
  | some fd => (match fd.body with | .stmts b => b | _ => [])
  | none => []
noncomputable def scopeAt (p : Params) (f : Nat) : Scope := match fnAt p f with
  | some fd => fd.scope
  | none => ⟨.function, [], false, false, []⟩
def inner : Stmt → List Stmt
  | .While _ b _ _ => b
  | .For _ _ b _ _ => b
  | .If _ b _ _ => b
  | _ => []
def nth (l : List Stmt) (i : Nat) : Stmt := l.getD i (.Pass default)
noncomputable def sc271 (p : Params) : { x : Scope // scopeAt p 271 = x } := by
  refine ⟨?a, ?b⟩
  rotate_left
  conv => lhs; whnf
noncomputable def stWhile (p : Params) : { x : Stmt // nth (bodyAt p 271) 4 = x } := by
  refine ⟨?a, ?b⟩
  rotate_left
  conv => lhs; whnf
noncomputable def stW2 (p : Params) : { x : Stmt // nth (inner (nth (bodyAt p 271) 4)) 2 = x } := by
  refine ⟨?a, ?b⟩
  rotate_left
  conv => lhs; whnf
noncomputable def stW4 (p : Params) : { x : Stmt // nth (inner (nth (bodyAt p 271) 4)) 4 = x } := by
  refine ⟨?a, ?b⟩
  rotate_left
  conv => lhs; whnf
noncomputable def stW7 (p : Params) : { x : Stmt // nth (inner (nth (bodyAt p 271) 4)) 7 = x } := by
  refine ⟨?a, ?b⟩
  rotate_left
  conv => lhs; whnf
noncomputable def stW8 (p : Params) : { x : Stmt // nth (inner (nth (bodyAt p 271) 4)) 8 = x } := by
  refine ⟨?a, ?b⟩
  rotate_left
  conv => lhs; whnf
/-- the names of _law_run: those that the loop stores, and those that stay -/
abbrev mm (cut blanks name lead other wish ones taken left : Option Value) (m0 : Str → Option Value) : Str → Option Value := fun y =>
  if y = Str.ofString "cut" then cut else if y = Str.ofString "blanks" then blanks else if y = Str.ofString "name" then name else if y = Str.ofString "lead" then lead else
  if y = Str.ofString "other" then other else if y = Str.ofString "wish" then wish else if y = Str.ofString "ones" then ones else if y = Str.ofString "taken" then taken else
  if y = Str.ofString "left" then left else m0 y
abbrev mfix (row book place side : Value) (mz : Str → Option Value) : Str → Option Value := fun y =>
  if y = Str.ofString "row" then some row else if y = Str.ofString "book" then some book else if y = Str.ofString "place" then some place else if y = Str.ofString "side" then some side else mz y
def nm (k : Nat) : Str := ⟨#[97 + k]⟩
def RowIs (all : List (Addr × Obj)) : List Value → List (Nat × Nat) → Prop
  | [], [] => True
  | v :: vs, p :: ps => (∃ t tb tn, v = .ref t ∧ (t, tupO [.str (blk p.1) tb, .str (nm p.2) tn] 0) ∈ all) ∧ RowIs all vs ps
  | _, _ => False
theorem RowIs.length {all : List (Addr × Obj)} : ∀ {vs : List Value} {ps : List (Nat × Nat)}, RowIs all vs ps → vs.length = ps.length
  | [], [], _ => rfl
  | _ :: _, _ :: _, h => by rw [List.length_cons, List.length_cons, RowIs.length h.2]
  | [], _ :: _, h => h.elim
  | _ :: _, [], h => h.elim
theorem RowIs.mono {all all' : List (Addr × Obj)} (hs : ∀ p ∈ all, p ∈ all') : ∀ {vs : List Value} {ps : List (Nat × Nat)}, RowIs all vs ps → RowIs all' vs ps
  | [], [], _ => trivial
  | _ :: _, _ :: _, h => ⟨let ⟨t, tb, tn, e, hm⟩ := h.1; ⟨t, tb, tn, e, hs _ hm⟩, RowIs.mono hs h.2⟩
  | [], _ :: _, h => h.elim
  | _ :: _, [], h => h.elim
theorem RowIs.snoc {all : List (Addr × Obj)} {t : Addr} {tb tn : Tok} {p : Nat × Nat} (hm : (t, tupO [.str (blk p.1) tb, .str (nm p.2) tn] 0) ∈ all) : ∀ {vs : List Value} {ps : List (Nat × Nat)}, RowIs all vs ps → RowIs all (vs ++ [.ref t]) (ps ++ [p])
  | [], [], _ => ⟨⟨t, tb, tn, rfl, hm⟩, trivial⟩
  | _ :: _, _ :: _, h => ⟨h.1, RowIs.snoc hm h.2⟩
  | [], _ :: _, h => h.elim
  | _ :: _, [], h => h.elim
theorem RowIs.take {all : List (Addr × Obj)} : ∀ {vs : List Value} {ps : List (Nat × Nat)} (i : Nat), RowIs all vs ps → RowIs all (vs.take i) (ps.take i)
  | _, _, 0, _ => trivial
  | [], [], _ + 1, _ => trivial
  | _ :: _, _ :: _, i + 1, h => ⟨h.1, RowIs.take i h.2⟩
  | [], _ :: _, _, h => h.elim
  | _ :: _, [], _, h => h.elim
theorem RowIs.drop {all : List (Addr × Obj)} : ∀ {vs : List Value} {ps : List (Nat × Nat)} (i : Nat), RowIs all vs ps → RowIs all (vs.drop i) (ps.drop i)
  | _, _, 0, h => h
  | [], [], _ + 1, _ => trivial
  | _ :: _, _ :: _, i + 1, h => RowIs.drop i h.2
  | [], _ :: _, _, h => h.elim
  | _ :: _, [], _, h => h.elim
end Mine
end
/-! part R1 -/
section
local macro_rules | `(tactic| walk_at "pad") => `(tactic| skip)
theorem Mine.rstR1 : True := by
  w_top off
  trivial
open PySem PySem.Spec PySem.Calls PySem.W PyProof.Rows PyProof.V
set_option maxRecDepth 100000
set_option maxHeartbeats 4000000
namespace Mine
local macro_rules | `(tactic| k_mem) => `(tactic| assumption)
local macro_rules | `(tactic| k_all) => `(tactic| assumption)
local macro_rules | `(tactic| walk_at "getMethod ref") => `(tactic| (k_here; k_dflt (refine' method_fnG ?X ?I ?a canon_list_ga ?b ?c ?d ?e ?_; (case X => k_in); (case I => exact inst_row (by k_asm) (by k_mem) (by k_mem)); (case a => k_is); (case b => k_is); (case c => k_is); (case d => k_is); (case e => with_unfolding_all rfl); k_whole)))
theorem slice_tail (v : Value) (vs : List Value) : (slicePick (v :: vs).toArray (some 1) none none).toList = vs := by
  have e : sliceBounds (some 1) none none (v :: vs).toArray.size = (((1 : Nat) : Int), ((vs.length + 1 : Nat) : Int), 1) := by
    simp only [sliceBounds, Option.getD_none, show (1 : Int) > 0 by decide, if_true, List.size_toArray, List.length_cons]
    congr 1
    omega
  rw [kmk_pick_nat _ e]
  simp
section
variable {w : World} {loose : List Str} {mean : ExcName → Option Value} {mg mb : Str → Option Value}
  {dp un : Nat} {gd : Option (List Code)} {outer : List Env} {A₀ : Around} {base h₀ : Heap} {L : Addr} {s : Shared} {Q : Flow → Shared → Prop} {E : Value → Shared → Prop} {mz : Str → Option Value}
  {r rd B c1 so dso sel p0 p1 ca : Addr} {bo co oa : Obj} {cst : List (Addr × Obj)} {side : Int} {place : Nat} {tp ts i0 i1 : Tok} {hk : Int} {nd n : Nat} {vs : List Value} {items : List (Nat × Nat)}
  {cut blanks name lead other wish ones taken left : Option Value}

theorem seg1 {c : Addr} {nc : Nat} {vc : Value} {vs2 : List Value} {items2 : List (Nat × Nat)}
    (F : Fr h₀ L s.heap (mm (some (.ref c)) blanks name lead other wish ones taken left (mfix (.ref r) (.ref B) (.int place tp) (.int side ts) mz)))
    (BB : Below A₀ base outer h₀) (X : (Mine.hd.heap_39 w.params).In h₀) (T : Top Mine.hd.view_39 loose mean mg mb h₀) (hE : PassesOwn (model Challenge.rw_xg0075_01.row.prog w) (ktrTop dp un gd (Str.ofString "_law_run") (sc271 w.params).1 L 271 (.ref 270) (cellsFrom (L + 1) (sc271 w.params).1.names []) outer) (envX (Str.ofString "_law_run") (sc271 w.params).1 L 271 (.ref 270) (cellsFrom (L + 1) (sc271 w.params).1.names [])) E)
    (N : News h₀ L s.heap ((r, rowO rd vs n) :: (B, bo) :: (c1, co) :: cst)) (rB : @Ne Nat r B) (rc : @Ne Nat r c1) (Bc : @Ne Nat B c1) (offr : ∀ p ∈ cst, p.1 ≠ r) (offB : ∀ p ∈ cst, p.1 ≠ B) (offc : ∀ p ∈ cst, p.1 ≠ c1)
    (mrd : (rd, dictOf [⟨hk, .str (Str.ofString "_initial_size") i0, .int 0 i1⟩] nd) ∈ cst)
    (hd : dp + 10 < recursionLimit) (hu : un + 128 < cLine)
    (mc : (c, lstO (vc :: vs2) nc) ∈ cst) (R1 : RowIs cst vs items) (R2 : RowIs cst vs2 items2) (hz : vs.length + vs2.length < 50)
    (hret : ∀ (lead other : Option Value) (vs' : List Value) (n' : Nat) (cst' : List (Addr × Obj)) (h' : Heap) (tk' : Nat), Fr h₀ L h' (mm (some (.ref c)) blanks name lead other wish ones taken left (mfix (.ref r) (.ref B) (.int place tp) (.int side ts) mz)) → News h₀ L h' ((r, rowO rd vs' n') :: (B, bo) :: (c1, co) :: cst') →
      (∀ p ∈ cst', p.1 ≠ r) → (∀ p ∈ cst', p.1 ≠ B) → (∀ p ∈ cst', p.1 ≠ c1) → (∀ p ∈ cst, p ∈ cst') → RowIs cst' vs' (items ++ items2) → Q .next { s with heap := h', toks := tk' }) :
    wpAny (model Challenge.rw_xg0075_01.row.prog w) (ktrTop dp un gd (Str.ofString "_law_run") (sc271 w.params).1 L 271 (.ref 270) (cellsFrom (L + 1) (sc271 w.params).1.names []) outer) (exec (stW2 w.params).1 (envX (Str.ofString "_law_run") (sc271 w.params).1 L 271 (.ref 270) (cellsFrom (L + 1) (sc271 w.params).1.names []))) Q E s := by
  dsimp only [stW2, sc271] at hE ⊢
  with_unfolding_all (refine' For_turns F ?_)
  k_whole
  repeat' walk1
  k_dflt (refine' kmk_slice_lit (zs := vs2) (s := { s with toks := s.toks + 1 }) F N ?hl (.int _ _) .none ?e ?_ ?s ?t ?z)
  case hl => exact ⟨_, (N _ (.tail _ (.tail _ (.tail _ mc)))).1, rfl, _, rfl⟩
  case e => exact slice_tail vc vs2
  case s => with_unfolding_all rfl
  case t => intro _; with_unfolding_all rfl
  case z => rw [sizeLine_eq, List.size_toArray, List.length_cons]; omega
  intro D h1 F1 N1 lD
  have N2 : News h₀ L h1 ((r, rowO rd vs n) :: (B, bo) :: (c1, co) :: (D, lstO vs2 0) :: cst) := cb_drop N1 (sub_cons (.tail _ (.head _)) (sub_cons (.tail _ (.tail _ (.head _))) (sub_cons (.tail _ (.tail _ (.tail _ (.head _)))) (sub_cons (.head _) fun p hp => .tail _ (.tail _ (.tail _ (.tail _ hp)))))))
  refine iter_listTurns (by with_unfolding_all rfl) F1 N2 (.tail _ (.tail _ (.tail _ (.head _)))) rfl rfl ?_
  intro I lI
  have lDr := ltN (lD _ (.head _))
  have lDB := ltN (lD _ (.tail _ (.head _)))
  have lDc := ltN (lD _ (.tail _ (.tail _ (.head _))))
  obtain ⟨J, hJ⟩ : ∃ J : List Value → (Str → Option Value) → List (Addr × Obj) → Prop, ∀ rem m2 nw, J rem m2 nw ↔ (∃ (lead other : Option Value) (vs' : List Value) (n' : Nat) (cst' : List (Addr × Obj)) (it1 it2 : List (Nat × Nat)),
    nw = ((r, rowO rd vs' n') :: (B, bo) :: (c1, co) :: cst') ∧ m2 = mm (some (.ref c)) blanks name lead other wish ones taken left (mfix (.ref r) (.ref B) (.int place tp) (.int side ts) mz) ∧ (∀ p ∈ cst', p.1 ≠ r) ∧ (∀ p ∈ cst', p.1 ≠ B) ∧ (∀ p ∈ cst', p.1 ≠ c1) ∧ (∀ p ∈ nw, p.1 ≠ I) ∧ (∀ p ∈ cst, p ∈ cst') ∧ (D, lstO vs2 0) ∈ cst' ∧
    RowIs cst' vs' it1 ∧ RowIs cst' rem it2 ∧ it1 ++ it2 = items ++ items2 ∧ vs'.length + rem.length = vs.length + vs2.length) := ⟨_, fun _ _ _ => Iff.rfl⟩
  refine items_inv Itm.val J ?_ ?_ vs2 _ _ ?_
  · rintro x rem m2 nw v h tk io hj rfl hio F2 N3
    obtain ⟨lead, other, vs', n', cst', it1, it2, rfl, rfl, o1, o2, o3, oI, hs, hD, RA, RB, he, hl⟩ := (hJ _ _ _).mp hj
    clear hj
    cases it2 with
    | nil => exact RB.elim
    | cons q it2 =>
    obtain ⟨⟨t, tb, tn, rfl, mt⟩, RB⟩ := RB
    clear F1 N1 N2 F N
    have mrd' := hs _ mrd
    repeat' walk1
    have hl' : vs'.length < 1000 := by omega
    have oIr : @Ne Nat r I := oI _ (.head _)
    have oIB : @Ne Nat B I := oI _ (.tail _ (.head _))
    have oIc : @Ne Nat c1 I := oI _ (.tail _ (.tail _ (.head _)))
    have oIt : ∀ p ∈ cst', p.1 ≠ I := fun p hp => oI p (.tail _ (.tail _ (.tail _ hp)))
    k_dflt (refine' push_spec ?B ?F ?X ?N ?T ?K ?U ?m1 hl' ?d ?u ?_)
    case B => k_asm
    case F => k_asm
    case X => k_asm
    case N => k_asm
    case T => k_asm
    case K => rfl
    case U => exact .tail (Ne.symm oIr) (.head (List.forall_mem_cons.mpr ⟨Ne.symm rB, List.forall_mem_cons.mpr ⟨Ne.symm rc, o1⟩⟩))
    case m1 => k_mem
    case d => ktr_room
    case u => ktr_room
    intro t' h3 tk3 F4 N4 lt
    k_whole
    have lIt := ltN (lt _ (.head _))
    have lrt := ltN (lt _ (.tail _ (.head _)))
    have lBt := ltN (lt _ (.tail _ (.tail _ (.head _))))
    have lct := ltN (lt _ (.tail _ (.tail _ (.tail _ (.head _)))))
    repeat' walk1
    have off4 : ∀ p ∈ (r, rowO rd (vs' ++ [.ref t']) (n' + 1)) :: (B, bo) :: (c1, co) :: (t', tupO [.str (blk q.1) tb, .str (nm q.2) tn] 0) :: cst', p.1 ≠ I :=
      List.forall_mem_cons.mpr ⟨oIr, List.forall_mem_cons.mpr ⟨oIB, List.forall_mem_cons.mpr ⟨oIc, List.forall_mem_cons.mpr ⟨Nat.ne_of_gt lIt, oIt⟩⟩⟩⟩
    refine unrEndA (by assumption) (by assumption) ((r, rowO rd (vs' ++ [.ref t']) (n' + 1)) :: (B, bo) :: (c1, co) :: (t', tupO [.str (blk q.1) tb, .str (nm q.2) tn] 0) :: cst') (fun p hp => by rw [List.mem_singleton.mp hp]; exact .tail _ (.head _))
      (sub_cons (.tail _ (.tail _ (.head _))) (sub_cons (.tail _ (.tail _ (.tail _ (.head _)))) (sub_cons (.tail _ (.tail _ (.tail _ (.tail _ (.head _))))) (sub_cons (.head _) fun p hp => .tail _ (.tail _ (.tail _ (.tail _ (.tail _ hp))))))))
      (fun p hp i hi => by rw [List.mem_singleton.mp hi]; exact off4 p hp)
      ⟨⟨.tail _ (.tail _ (.tail _ (.tail _ hD))), trivial⟩, (hJ _ _ _).mpr ⟨some (.str (blk q.1) tb), some (.str (nm q.2) tn), vs' ++ [.ref t'], n' + 1, (t', tupO [.str (blk q.1) tb, .str (nm q.2) tn] 0) :: cst', it1 ++ [q], it2, rfl, ?_, List.forall_mem_cons.mpr ⟨Nat.ne_of_gt lrt, o1⟩, List.forall_mem_cons.mpr ⟨Nat.ne_of_gt lBt, o2⟩, List.forall_mem_cons.mpr ⟨Nat.ne_of_gt lct, o3⟩, ?_, fun p hp => .tail _ (hs p hp), .tail _ hD, ?_, ?_, ?_, ?_⟩⟩
    rotate_left
    · exact off4
    · exact RowIs.snoc (.head _) (RowIs.mono (fun p hp => .tail _ hp) RA)
    · exact RowIs.mono (fun p hp => .tail _ hp) RB
    · rw [List.append_assoc]; exact he
    · simp only [List.length_append, List.length_cons, List.length_nil] at hl ⊢; omega
    · funext y
      by_cases e1 : y = Str.ofString "other"
      · subst e1; with_unfolding_all rfl
      by_cases e2 : y = Str.ofString "lead"
      · subst e2; with_unfolding_all rfl
      simp only [mm, e1, e2, if_false]
  · rintro m2 nw h tk hj F2 N3
    obtain ⟨lead, other, vs', n', cst', it1, it2, rfl, rfl, o1, o2, o3, oI, hs, hD, RA, RB, he, hl⟩ := (hJ _ _ _).mp hj
    cases it2 with
    | cons q it2 => exact RB.elim
    | nil =>
    rw [List.append_nil] at he
    subst he
    exact hret lead other vs' n' cst' h tk F2 N3 o1 o2 o3 hs RA
  · refine (hJ _ _ _).mpr ⟨lead, other, vs, n, _, items, items2, rfl, rfl, ?_, ?_, ?_, ne_all_of_lt lI, fun p hp => .tail _ hp, .head _, RowIs.mono (fun p hp => .tail _ hp) R1, RowIs.mono (fun p hp => .tail _ hp) R2, rfl, rfl⟩
    · exact List.forall_mem_cons.mpr ⟨Nat.ne_of_gt lDr, offr⟩
    · exact List.forall_mem_cons.mpr ⟨Nat.ne_of_gt lDB, offB⟩
    · exact List.forall_mem_cons.mpr ⟨Nat.ne_of_gt lDc, offc⟩
end
end Mine
end
/-! part Lc -/
section
theorem Mine.rstLc : True := by
  w_top off
  trivial
open PySem PySem.Spec PySem.Calls PySem.W PyProof.Rows PyProof.V
set_option maxRecDepth 100000
set_option maxHeartbeats 4000000
namespace Mine
def IsSeqD (h : Heap) (a : Addr) (items : Array Value) : Prop := ∃ o n, h.get? a = some o ∧ o.data = .seq items n
theorem IsSeqD.at {h h' : Heap} {a : Addr} {items : Array Value} (x : IsSeqD h a items) (k : ∀ o, h.get? a = some o → h'.get? a = some o) : IsSeqD h' a items := let ⟨o, n, e, d⟩ := x; ⟨o, n, k o e, d⟩
section
variable {prog : Program} {w : World} {A : Around} {E : Value → Shared → Prop} {s : Shared}
theorem next_item_seq {it l : Addr} {i : Nat} {items : Array Value} {x : Value} {Q : Option Value → Shared → Prop} (hit : s.heap.IsListIter it l i) (hl : IsSeqD s.heap l items) (hx : items[i]? = some x)
    (hQ : ∀ h', h'.IsListIter it l (i + 1) → Heap.SameBut it s.heap h' → Q (some x) { s with heap := h' }) : wpAny (model prog w) A (pyNext (.ref it)) Q E s := by
  obtain ⟨o, ho, hc, hd⟩ := id hit
  obtain ⟨ol, nl, hol, hdl⟩ := hl
  unfold pyNext
  refine wpAny_bind (wpAny_attempt (wpAny_callSpecial?_slot (name := Str.ofString "__next__") hit.typeIs slot_listiter_next (wpAny_call_entry slot_listiter_next hit.typeIs entry_listiter_next ?_ (args_listiter_next _))))
  show wpAny _ _ (field (.ref it) 0 >>= _) _ _ s
  refine wpAny_bind (wpAny_field ho hd (x := .ref l) rfl ?_)
  show wpAny _ _ (if (Value.ref l == Value.none) = true then _ else _) _ _ s
  rw [if_neg (show ¬ ((Value.ref l == Value.none) = true) from Bool.false_ne_true)]
  show wpAny _ _ (field (.ref it) 1 >>= _) _ _ s
  refine wpAny_bind (wpAny_field ho hd (x := .int i 0) rfl ?_)
  show wpAny _ _ (seqItems? (.ref l) >>= _) _ _ s
  refine wpAny_bind (wpAny_seqItems hol hdl ?_)
  simp only [Int.toNat_natCast, hx]
  refine wpAny_bind (wpAny_setField ho hd (by simp) (wpAny_pure ⟨x, rfl, wpAny_pure (hQ _ ?_ (Heap.SameBut.update ..))⟩))
  exact ⟨_, Heap.get?_update_self _ ho (Obj.isFreed_of_fields (Obj.data_mapFields hd _)), (Obj.cls_mapFields ..).trans hc, by rw [Obj.data_mapFields hd]; simp [rawInt]⟩
theorem next_end_seq {it l : Addr} {i : Nat} {items : Array Value} {Q : Option Value → Shared → Prop} (hh : A.handled = none) (hit : s.heap.IsListIter it l i) (hl : IsSeqD s.heap l items) (hx : items[i]? = none)
    (hQ : ∀ h', Heap.ExtBut it s.heap h' → Q none { s with heap := h' }) : wpAny (model prog w) A (pyNext (.ref it)) Q E s := by
  obtain ⟨o, ho, hc, hd⟩ := id hit
  obtain ⟨ol, nl, hol, hdl⟩ := hl
  unfold pyNext
  refine wpAny_bind (wpAny_attempt (wpAny_callSpecial?_slot (name := Str.ofString "__next__") hit.typeIs slot_listiter_next (wpAny_call_entry slot_listiter_next hit.typeIs entry_listiter_next ?_ (args_listiter_next _))))
  show wpAny _ _ (field (.ref it) 0 >>= _) _ _ s
  refine wpAny_bind (wpAny_field ho hd (x := .ref l) rfl ?_)
  show wpAny _ _ (if (Value.ref l == Value.none) = true then _ else _) _ _ s
  rw [if_neg (show ¬ ((Value.ref l == Value.none) = true) from Bool.false_ne_true)]
  show wpAny _ _ (field (.ref it) 1 >>= _) _ _ s
  refine wpAny_bind (wpAny_field ho hd (x := .int i 0) rfl ?_)
  show wpAny _ _ (seqItems? (.ref l) >>= _) _ _ s
  refine wpAny_bind (wpAny_seqItems hol hdl ?_)
  simp only [Int.toNat_natCast, hx]
  refine wpAny_bind (wpAny_rule (wpAny_bind (wpAny_setField ho hd (by simp) ?_)))
  show wpAny _ _ (newExc (.type "StopIteration") [] >>= _) _ _ _
  refine wpAny_bind ?_
  simp only [newExc, newTuple]
  refine wpAny_bind (wpAny_newObj_type ?_ (by size_fits))
  refine wpAny_bind (m := firstArgMember _ _) (wpAny_of_eq (a := Value.none) (by first | rfl | (simp only [firstArgMember]; rfl)) ?_)
  refine wpAny_newObj_type ?_ (by size_fits)
  simp only [raiseNew]
  refine wpAny_bind (wpAny_handled ?_)
  rw [show A.in1.handled = none from hh]
  refine wpAny_bind (wpAny_pure (wpAny_throw ?_))
  refine wpAny_bind (wpAny_isInstance (T := "StopIteration") (b := true) ⟨_, Heap.get?_push_size _ rfl, rfl⟩ isSubtype_stop ?_)
  exact wpAny_pure (hQ _ (((Heap.SameBut.update ..).extBut.push _).push _))
theorem Walks.seqD (hh : A.handled = none) (I ax : Addr) (hne : ax ≠ I) (items : Array Value) :
    Walks prog w A I [I, ax] [I] items.size (fun i v => items[i]? = some v) (fun i h => h.IsListIter I ax i ∧ IsSeqD h ax items) where
  sub := fun b hb => by simp at hb; simp [hb]
  frame := fun _ _ _ st hk => ⟨st.1.at fun o e => hk I (by simp) o e, st.2.at fun o e => hk ax (by simp) o e⟩
  item := fun i s Q E hi st hQ => by
    refine next_item_seq st.1 st.2 (x := items[i]) (by simp [hi]) fun h' hit' hs' => ?_
    exact hQ _ h' s.toks (by simp [hi]) ⟨hit', st.2.at fun o e => hs'.extBut ax o hne e⟩ fun b o hb e => hs'.extBut b o (fun h => hb (by simp [h])) e
  done := fun s Q E st hQ => next_end_seq hh st.1 st.2 (by simp) fun h' hx => hQ h' s.toks fun b o hb e => hx b o (fun h => hb (by simp [h])) e
  self := fun _ _ _ _ st hQ => wpAny_pyIter_listiter st.1 hQ
theorem iter_row {K : Frag} {r : Addr} {ox : Obj} {od : Option Obj} {Q : Value → Shared → Prop} (X : K.In s.heap) (I : InstAt s.heap r ox 143 od) (hi : findIn K (.ref 143) "__iter__" = some (some (.builtin "list.__iter__"))) (he : mroIn K 143 (.type "list") = some true)
    (hQ : Q (.ref s.heap.objs.size) { s with heap := s.heap.push { cls := .type "list_iterator", data := .fields #[.ref r, .int 0 0] } }) :
    wpAny (model prog w) A (pyIter (.ref r)) Q E s := by
  unfold pyIter specialOf
  refine wpAny_bind (wpAny_bind (I.type.here ((looks_findIn X hi).here ?_)))
  dsimp only
  refine wpAny_bind ?_
  simp only [callSpecialIfBoundUnlessNone?, bindSpecialIfBound?]
  unfold specialOf
  refine wpAny_holding (wpAny_bind (wpAny_bind (wpAny_bind (I.type.here ((looks_findIn X hi).here ?_)))))
  simp only [PySem.slot_list_iter.bind]
  refine wpAny_bind (wpAny_askSetting (wpAny_ite ?_))
  have hT : ({ s with heap := s.heap.push { cls := .type "list_iterator", data := .fields #[.ref r, .int 0 0] } } : Shared).TypeIs (.ref s.heap.objs.size) "list_iterator" := ⟨_, Heap.get?_push_size _ rfl, rfl⟩
  have hc : wpAny (model prog w) A (call (.builtin "list.__iter__") [.ref r]) (fun v s' => v = .ref s.heap.objs.size ∧ s' = { s with heap := s.heap.push { cls := .type "list_iterator", data := .fields #[.ref r, .int 0 0] } }) E s := by
    refine call_sub (n := "__iter__") (by decide +kernel) PySem.entry_list_iter (by first | exact .inl (by decide +kernel) | exact .inr (by decide +kernel)) (by decide +kernel) (isi_row X I he) (PySem.args_list_iter _) ?_
    show wpAny _ _ (do ret (← newFields "list_iterator" [.ref r, rawInt 0])) _ _ s
    exact wpAny_bind (wpAny_newObj_type (wpAny_pure ⟨_, rfl, rfl, rfl⟩))
  have fin : wpAny (model prog w) A (if (Value.builtin "list.__iter__" == Value.none) = true then ((do rule "iter.none"; raiseError "TypeError" s!"'{← typeNameOf (.ref r)}' object is not iterable") >>= fun v => pure (some v)) else (call (.builtin "list.__iter__") [.ref r] >>= fun v => pure (some v)))
      (fun v s' => v = some (.ref s.heap.objs.size) ∧ s' = { s with heap := s.heap.push { cls := .type "list_iterator", data := .fields #[.ref r, .int 0 0] } }) E s := by
    rw [if_neg (by decide)]
    exact wpAny_bind (wpAny_mono hc (fun v s' h' => wpAny_pure ⟨by rw [h'.1], h'.2⟩) fun _ _ h' => h')
  have done : ∀ (v : Option Value) (s' : Shared), v = some (.ref s.heap.objs.size) ∧ s' = { s with heap := s.heap.push { cls := .type "list_iterator", data := .fields #[.ref r, .int 0 0] } } →
      wpAny (model prog w) A (match v with
        | some it => (do match ← specialOf it "__next__" with
          | none => rule "iter.non-iterator"; raiseError "TypeError" s!"iter() returned non-iterator of type '{← typeNameOf it}'"
          | some _ => pure it)
        | none => (do match ← bindSpecialIfBound? (.ref r) "__getitem__" with
          | none => rule "iter.not-iterable"; raiseError "TypeError" s!"'{← typeNameOf (.ref r)}' object is not iterable"
          | some _ => rule "iter.getitem-fallback"; newFields "iterator" [.ref r, ← mkInt 0])) Q E s' := by
    rintro v s' ⟨rfl, rfl⟩
    exact wpAny_bind (wpAny_specialOf hT slot_listiter_next.lookup (wpAny_pure hQ))
  split
  · exact wpAny_bind (wpAny_pure (wpAny_pure (wpAny_mono fin done fun _ _ z => z)))
  · exact wpAny_tryCatch (wpAny_bind (wpAny_pure (wpAny_pure (wpAny_mono fin done fun _ _ z => z))))
end
section
open PyProof.Rows.LCg PyProof.Rows.LCp
variable {prog : Program} {w : World} {A : Around} {E : Value → Shared → Prop} {s : Shared} {h₀ : Heap} {L : Addr} {m : Str → Option Value} {env : Env} {news : List (Addr × Obj)} {K : Frag}
def SrcR (r : Addr) (vs : List Value) (nw : List (Addr × Obj)) : Prop := ∃ o n, (r, o) ∈ nw ∧ o.data = .seq vs.toArray n
theorem assign_comp_row {elt iter : Expr} {x x₂ y : Str} {px px₂ tp py : Pos} {tk} {scope : Scope} {cl : List (Str × Addr)} {pos spos : Pos} {Q : Flow → Shared → Prop} {r rd : Addr} {od : Obj} {vs : List Value} {n : Nat}
    (F : Fr h₀ L s.heap m) (N : News h₀ L s.heap news) (X : K.In h₀) (hm : (r, rowO rd vs n) ∈ news) (hd : (rd, od) ∈ news) (hi : findIn K (.ref 143) "__iter__" = some (some (.builtin "list.__iter__"))) (he : mroIn K 143 (.type "list") = some true) (hLe : env.locals = L)
    (hsw : swapsWith (.ListComp elt [⟨.Tuple [.Name x px, .Name x₂ px₂] tk tp, iter, [], 0⟩] scope pos) (some (.Name y py)) spos.line env = pure true)
    (hclos : closureFor scope env = pure cl) (hcell : ∀ z ∈ scope.names, z.2 ≠ .cell) (hkind : scope.kind = .function)
    (hnames : ∀ z ∈ scope.names, z.2 = .local → scope.names.lookup z.1 = some .local) (hx : scope.names.lookup x = some .local) (hx₂ : scope.names.lookup x₂ = some .local) (hxx : x ≠ x₂)
    (hy : env.kindOf y = some .local) (hp : (env.scope.kind == .class || (env.scope.kind == .module && env.locals != env.globals)) = false) (hh : A.handled = none) (hsz : vs.length ≤ sizeLine)
    (hev : ∀ Q : Value → Shared → Prop, Q (.ref r) s → wpAny (model prog w) A (eval iter env) Q E s)
    (R : ∀ g, CompRestP prog w A h₀ L m env elt x x₂ scope cl { s with heap := g } (SrcR r vs) (fun i v => vs.toArray[i]? = some v) (FinA h₀ L m { s with heap := g } y Q) vs.toArray.size 0 [] news)
    (hs : ∀ x, foldedSetIterable iter env x = pure x := by intro _; rfl) :
    wpAny (model prog w) A (exec (.Assign [.Name y py] (.ListComp elt [⟨.Tuple [.Name x px, .Name x₂ px₂] tk tp, iter, [], 0⟩] scope pos) spos) env) Q E s := by
  subst hLe
  rw [exec_Assign_Name_used _ _ _ _ hsw]
  refine wpAny_bind (wpAny_standAt (wpAny_bind ?_))
  show wpAny _ A (do let _ ← comprehension (.ListComp elt [⟨.Tuple [.Name x px, .Name x₂ px₂] tk tp, iter, [], 0⟩] scope pos) scope env _ (newList []) false (eval iter env) (some (assign (.Name y py) env))) _ _ s
  refine wpAny_bind (wpAny_mono (wpAny_comprehension_free (use := some (assign (.Name y py) env)) (Q := fun _ s' => Q .next s') rfl hs hclos hkind hnames
    (hev _ ?_)) (fun _ s' hq => wpAny_pure (wpAny_pure hq)) fun _ _ e => e)
  have hlt : r < s.heap.objs.size := Heap.lt_size (N _ hm).1
  refine iter_row (X.keeps F.keep) (inst_row N hm hd) hi he ?_
  have up : ∀ b o, s.heap.get? b = some o → (s.heap.push { cls := .type "list_iterator", data := .fields #[.ref r, .int 0 0] }).get? b = some o := fun b o e => Heap.get?_push_of_some _ e
  refine block_P (Walks.seqD hh s.heap.objs.size r (Nat.ne_of_lt hlt) vs.toArray) (by rw [List.size_toArray]; exact hsz) (fun i h st => by obtain ⟨o, e, _⟩ := st.1; exact ⟨o, e⟩) (fun i h h' o nw st e1 e2 hk Nn S => ?_) hcell hkind hx hx₂ hxx hh (fun i h st => ⟨_, _, st.1⟩)
    ⟨⟨_, Heap.get?_push_size _ rfl, rfl, rfl⟩, ⟨_, _, up _ _ (N _ hm).1, rfl⟩⟩ (fun b hb => ?_)
    (F.keeps up) (N.grown up) (Nat.ne_of_lt F.ns.lt) (next_is_new F) (fun p hp => Nat.ne_of_lt (Heap.lt_size (N p hp).1)) ⟨_, _, hm, rfl⟩ (R _) ?_
  · obtain ⟨ob, n', hm', hd'⟩ := S
    exact ⟨st.1.at fun o' e => by rw [e1] at e; cases e; exact e2, ⟨ob, n', (Nn _ hm').1, hd'⟩⟩
  · show b < (s.heap.push _).objs.size
    rw [Heap.size_push]
    rcases List.mem_cons.mp hb with rfl | hb
    · exact Nat.lt_succ_self _
    · rw [List.mem_singleton.mp hb]; exact Nat.lt_succ_of_lt hlt
  · intro D C h' tk m' ys news' F' N' o1 hn hC₀ hD₀ hCL hDL hCD offC fin
    show wpAny _ A (assign (.Name y py) env (.ref D)) _ _ _
    refine wpAny_assign_Name (wpAny_storeName_local hy F'.ns (fun h₂ hn₂ hs₂ => ?_) hp)
    have hL₀ : h₀.get? env.locals = none := Heap.get?_none_of_le F'.above
    have F₂ : Fr h₀ env.locals h₂ (fun z => if z = y then some (.ref D) else m z) := ⟨hn₂, fun b o e => hs₂.extBut b o (fun q => by rw [q, hL₀] at e; cases e) (F'.keep b o e), F'.above⟩
    refine ⟨m', hn.sameBut hs₂ hCL, fun h'' hs'' => fin D h'' _ (F₂.change hs'' hCL hC₀) (fun p hp => ?_) o1⟩
    have z : h₂.get? p.1 = some p.2 := hs₂.extBut _ _ (N' p hp).2.1 (N' p hp).1
    refine ⟨hs''.extBut _ _ ?_ z, (N' p hp).2⟩
    rcases List.mem_cons.mp hp with rfl | hp
    · exact Ne.symm hCD
    · exact offC p hp
/-- the turns of a comprehension over pairs, by an invariant of what is made and what is left -/
theorem compP_inv {elt : Expr} {x x₂ : Str} {scope : Scope} {cl : List (Str × Addr)} {S : List (Addr × Obj) → Prop} {Fin : List Value → List (Addr × Obj) → Prop} {vs : List Value} (J : List Value → List Value → List (Addr × Obj) → Prop)
    (step : ∀ v rem ys nw, J (v :: rem) ys nw → ∃ (t : Addr) (v₁ v₂ : Value) (nt : Nat), v = .ref t ∧ (t, tupO [v₁, v₂] nt) ∈ nw ∧
      ∀ I oI C oC D m₂ h tk (E' : Value → Shared → Prop), NsObj oC m₂ → m₂ x = some v₁ → m₂ x₂ = some v₂ → Fr h₀ L h m → News h₀ L h ((I, oI) :: (C, oC) :: (D, lst ys) :: nw) → (∀ p ∈ nw, p.1 ≠ I ∧ p.1 ≠ C ∧ p.1 ≠ D) → ((@Ne Nat I C) ∧ (@Ne Nat I D) ∧ (@Ne Nat C D)) →
      wpAny (model prog w) A (eval elt (compEnvC scope cl C env)) (CompEnd h₀ L m { s with heap := h, toks := tk } I oI C oC D (lst ys) S (fun y nw' => J rem (ys ++ [y]) nw')) E' { s with heap := h, toks := tk })
    (fin : ∀ ys nw, J [] ys nw → Fin ys nw) :
    ∀ (rem : List Value) (i : Nat) (ys : List Value) (nw : List (Addr × Obj)), vs.drop i = rem → J rem ys nw → CompRestP prog w A h₀ L m env elt x x₂ scope cl s S (fun i v => vs.toArray[i]? = some v) Fin rem.length i ys nw
  | [], i, ys, nw, _, hj => fin ys nw hj
  | v :: rem, i, ys, nw, e, hj => by
    refine CompRestP.succ fun v' hv' => ?_
    have hv : vs[i]? = some v := by
      have := congrArg (·[0]?) e
      simpa using this
    have hv2 : v' = v := by
      have : vs[i]? = some v' := by simpa using hv'
      rw [hv] at this
      exact (Option.some.inj this).symm
    subst hv2
    obtain ⟨t, v₁, v₂, nt, hvt, hmem, h⟩ := step v' rem ys nw hj
    refine ⟨t, _, v₁, v₂, nt, hvt, hmem, rfl, rfl, fun I oI C oC D m₂ hh tk E' a b c F N off ne => ?_⟩
    refine wpAny_mono (h I oI C oC D m₂ hh tk E' a b c F N (fun p hp => Off3.mem off p hp) ne) (fun y s₂ z => ?_) fun _ _ z => z
    obtain ⟨h', tk', nw', e', F', N', o', hS, hj'⟩ := z
    refine ⟨h', tk', nw', e', F', N', o', hS, compP_inv J step fin rem (i + 1) _ nw' ?_ hj'⟩
    have := congrArg (List.drop 1) e
    rw [List.drop_drop] at this
    simpa using this
theorem compU_inv {elt : Expr} {x : Str} {scope : Scope} {cl : List (Str × Addr)} {S : List (Addr × Obj) → Prop} {Fin : List Value → List (Addr × Obj) → Prop} {vs : List Value} (J : List Value → List Value → List (Addr × Obj) → Prop)
    (step : ∀ v rem ys nw, J (v :: rem) ys nw →
      ∀ I oI C oC D m₂ h tk (E' : Value → Shared → Prop), NsObj oC m₂ → m₂ x = some v → Fr h₀ L h m → News h₀ L h ((I, oI) :: (C, oC) :: (D, lst ys) :: nw) → (∀ p ∈ nw, p.1 ≠ I ∧ p.1 ≠ C ∧ p.1 ≠ D) → ((@Ne Nat I C) ∧ (@Ne Nat I D) ∧ (@Ne Nat C D)) →
      wpAny (model prog w) A (eval elt (compEnvC scope cl C env)) (CompEnd h₀ L m { s with heap := h, toks := tk } I oI C oC D (lst ys) S (fun y nw' => J rem (ys ++ [y]) nw')) E' { s with heap := h, toks := tk })
    (fin : ∀ ys nw, J [] ys nw → Fin ys nw) :
    ∀ (rem : List Value) (i : Nat) (ys : List Value) (nw : List (Addr × Obj)), vs.drop i = rem → J rem ys nw → CompRest prog w A h₀ L m env elt x scope cl s S (fun i v => vs.toArray[i]? = some v) Fin rem.length i ys nw
  | [], i, ys, nw, _, hj => fin ys nw hj
  | v :: rem, i, ys, nw, e, hj => by
    refine CompRest.succ fun v' I oI C oC D m₂ hh tk E' hv' a b F N off ne => ?_
    have hv : vs[i]? = some v := by
      have := congrArg (·[0]?) e
      simpa using this
    have hv2 : v' = v := by
      have : vs[i]? = some v' := by simpa using hv'
      rw [hv] at this
      exact (Option.some.inj this).symm
    subst hv2
    refine wpAny_mono (step v' rem ys nw hj I oI C oC D m₂ hh tk E' a b F N (fun p hp => Off3.mem off p hp) ne) (fun y s₂ z => ?_) fun _ _ z => z
    obtain ⟨h', tk', nw', e', F', N', o', hS, hj'⟩ := z
    refine ⟨h', tk', nw', e', F', N', o', hS, compU_inv J step fin rem (i + 1) _ nw' ?_ hj'⟩
    have := congrArg (List.drop 1) e
    rw [List.drop_drop] at this
    simpa using this
end
end Mine
end
/-! part R2 -/
section
theorem Mine.rstR2 : True := by
  w_top off
  trivial
open PySem PySem.Spec PySem.Calls PySem.W PyProof.Rows PyProof.V
set_option maxRecDepth 100000
set_option maxHeartbeats 4000000
namespace Mine
local macro_rules | `(tactic| k_mem) => `(tactic| assumption)
local macro_rules | `(tactic| k_all) => `(tactic| assumption)
local macro_rules | `(tactic| walk_at "getMethod ref") => `(tactic| (k_here; k_dflt (refine' method_fnG ?X ?I ?a canon_list_ga ?b ?c ?d ?e ?_; (case X => k_in); (case I => exact inst_row (by k_asm) (by k_mem) (by k_mem)); (case a => k_is); (case b => k_is); (case c => k_is); (case d => k_is); (case e => with_unfolding_all rfl); k_whole)))

def OnesIs (all : List (Addr × Obj)) : List Value → List (Nat × Nat) → Prop
  | [], [] => True
  | v :: vs, p :: ps => (∃ t tb tn, v = .ref t ∧ (t, tupO [.int (p.1 : Nat) tb, .str (nm p.2) tn] 0) ∈ all) ∧ OnesIs all vs ps
  | _, _ => False
theorem OnesIs.length {all : List (Addr × Obj)} : ∀ {vs : List Value} {ps : List (Nat × Nat)}, OnesIs all vs ps → vs.length = ps.length
  | [], [], _ => rfl
  | _ :: _, _ :: _, h => by rw [List.length_cons, List.length_cons, OnesIs.length h.2]
  | [], _ :: _, h => h.elim
  | _ :: _, [], h => h.elim
theorem OnesIs.mono {all all' : List (Addr × Obj)} (hs : ∀ p ∈ all, p ∈ all') : ∀ {vs : List Value} {ps : List (Nat × Nat)}, OnesIs all vs ps → OnesIs all' vs ps
  | [], [], _ => trivial
  | _ :: _, _ :: _, h => ⟨let ⟨t, tb, tn, e, hm⟩ := h.1; ⟨t, tb, tn, e, hs _ hm⟩, OnesIs.mono hs h.2⟩
  | [], _ :: _, h => h.elim
  | _ :: _, [], h => h.elim
theorem OnesIs.snoc {all : List (Addr × Obj)} {t : Addr} {tb tn : Tok} {p : Nat × Nat} (hm : (t, tupO [.int (p.1 : Nat) tb, .str (nm p.2) tn] 0) ∈ all) : ∀ {vs : List Value} {ps : List (Nat × Nat)}, OnesIs all vs ps → OnesIs all (vs ++ [.ref t]) (ps ++ [p])
  | [], [], _ => ⟨⟨t, tb, tn, rfl, hm⟩, trivial⟩
  | _ :: _, _ :: _, h => ⟨h.1, OnesIs.snoc hm h.2⟩
  | [], _ :: _, h => h.elim
  | _ :: _, [], h => h.elim
section
open PyProof.Rows.LCg PyProof.Rows.LCp
variable {w : World} {loose : List Str} {mean : ExcName → Option Value} {mg mb : Str → Option Value}
  {dp un : Nat} {gd : Option (List Code)} {outer : List Env} {A₀ : Around} {base h₀ : Heap} {L : Addr} {s : Shared} {Q : Flow → Shared → Prop} {E : Value → Shared → Prop} {mz : Str → Option Value}
  {r rd B c1 so dso sel p0 p1 ca : Addr} {bo co oa : Obj} {cst : List (Addr × Obj)} {side : Int} {place : Nat} {tp ts i0 i1 : Tok} {hk : Int} {nd n : Nat} {vs : List Value} {items : List (Nat × Nat)}
  {cut blanks name lead other wish ones taken left : Option Value}

theorem seg2
    (F : Fr h₀ L s.heap (mm cut blanks name lead other wish ones taken left (mfix (.ref r) (.ref B) (.int place tp) (.int side ts) mz)))
    (BB : Below A₀ base outer h₀) (X : (Mine.hd.heap_39 w.params).In h₀) (T : Top Mine.hd.view_39 loose mean mg mb h₀) (hE : PassesOwn (model Challenge.rw_xg0075_01.row.prog w) (ktrTop dp un gd (Str.ofString "_law_run") (sc271 w.params).1 L 271 (.ref 270) (cellsFrom (L + 1) (sc271 w.params).1.names []) outer) (envX (Str.ofString "_law_run") (sc271 w.params).1 L 271 (.ref 270) (cellsFrom (L + 1) (sc271 w.params).1.names [])) E)
    (N : News h₀ L s.heap ((r, rowO rd vs n) :: (B, bo) :: (c1, co) :: cst)) (rB : @Ne Nat r B) (rc : @Ne Nat r c1) (Bc : @Ne Nat B c1) (offr : ∀ p ∈ cst, p.1 ≠ r) (offB : ∀ p ∈ cst, p.1 ≠ B) (offc : ∀ p ∈ cst, p.1 ≠ c1)
    (mrd : (rd, dictOf [⟨hk, .str (Str.ofString "_initial_size") i0, .int 0 i1⟩] nd) ∈ cst)
    (hd : dp + 10 < recursionLimit) (hu : un + 128 < cLine)
    (R1 : RowIs cst vs items) (hz : items.length < 50) (hb : ∀ p ∈ items, p.1 < 100)
    (hret : ∀ (D : Addr) (ys : List Value) (cst' : List (Addr × Obj)) (h' : Heap) (tk' : Nat), Fr h₀ L h' (mm cut blanks name lead other wish (some (.ref D)) taken left (mfix (.ref r) (.ref B) (.int place tp) (.int side ts) mz)) → News h₀ L h' ((r, rowO rd vs n) :: (B, bo) :: (c1, co) :: cst') →
      (∀ p ∈ cst', p.1 ≠ r) → (∀ p ∈ cst', p.1 ≠ B) → (∀ p ∈ cst', p.1 ≠ c1) → (∀ p ∈ cst, p ∈ cst') → (D, lstO ys ys.length) ∈ cst' → OnesIs cst' ys items → Q .next { s with heap := h', toks := tk' }) :
    wpAny (model Challenge.rw_xg0075_01.row.prog w) (ktrTop dp un gd (Str.ofString "_law_run") (sc271 w.params).1 L 271 (.ref 270) (cellsFrom (L + 1) (sc271 w.params).1.names []) outer) (exec (stW4 w.params).1 (envX (Str.ofString "_law_run") (sc271 w.params).1 L 271 (.ref 270) (cellsFrom (L + 1) (sc271 w.params).1.names []))) Q E s := by
  dsimp only [stW4, sc271] at hE ⊢
  have hl := R1.length
  k_dflt (refine' assign_comp_row F N X (.head _) (.tail _ (.tail _ (.tail _ mrd))) ?hi ?he (by rfl) (by with_unfolding_all rfl) (by with_unfolding_all rfl) (by decide) (by rfl) (by decide) (by rfl) (by rfl) (by decide) (by rfl) (by rfl) (by rfl) ?hz ?hev ?_)
  case hi => k_is
  case he => k_is
  case hz => rw [sizeLine_eq]; omega
  case hev => intro Q' q; exact nameX_L F (by rfl) q (by rfl) (by rfl)
  intro g
  rw [List.size_toArray]
  refine compP_inv (fun rem ys nw => ∃ (cst' : List (Addr × Obj)) (it1 it2 : List (Nat × Nat)), nw = ((r, rowO rd vs n) :: (B, bo) :: (c1, co) :: cst') ∧ (∀ p ∈ cst', p.1 ≠ r) ∧ (∀ p ∈ cst', p.1 ≠ B) ∧ (∀ p ∈ cst', p.1 ≠ c1) ∧ (∀ p ∈ cst, p ∈ cst') ∧
    RowIs cst' rem it2 ∧ OnesIs cst' ys it1 ∧ it1 ++ it2 = items) ?_ ?_ vs 0 [] _ rfl ⟨cst, [], items, rfl, offr, offB, offc, fun _ h => h, R1, trivial, rfl⟩
  · rintro v rem ys nw ⟨cst', it1, it2, rfl, o1, o2, o3, hs, RA, RB, he⟩
    cases it2 with
    | nil => exact RA.elim
    | cons q it2 =>
    obtain ⟨⟨t, tb, tn, rfl, mt⟩, RA⟩ := RA
    refine ⟨t, _, _, 0, rfl, .tail _ (.tail _ (.tail _ mt)), ?_⟩
    intro I oI C oC D m₂ h tk E' hC hx hx2 F2 N2 off ne
    clear F N
    repeat' walk1
    have hq : q.1 < 100 := hb q (by rw [← he]; exact List.mem_append_right _ (.head _))
    k_dflt (refine' ws_spec BB F2 X N2 T rfl hq ?d ?u ?_)
    case d => ktr_room
    case u => ktr_room
    intro qq dq es n5 t5 h3 tk3 F3 N3 hg l1 l2
    k_whole
    repeat' walk1
    k_dflt (refine' get_own ?k1 ?k2 ?k3 ?k4 ?k5 ?k6 ?k7 ?k8 ?k9 ?_)
    case k1 => k_asm
    case k2 => k_asm
    case k3 => k_inst
    case k4 => k_is
    case k5 => k_is
    case k6 => k_is
    case k7 => k_is
    case k8 => with_unfolding_all exact hg
    case k9 => k_handed
    k_whole
    repeat' walk1
    rename (_ ∧ _ ∧ _ ∧ _ ∧ _ ∧ _ ∧ _ ∧ _ ∧ AllLt _ _) => lD'
    obtain ⟨-, -, a1, a2, a3, a4, a5, a6, a7⟩ := lD'
    rename Fr _ _ _ _ => F4
    rename News _ _ _ _ => N4
    refine CompEnd.intro F4 N4 ((r, rowO rd vs n) :: (B, bo) :: (c1, co) :: (_, tupO [.int (q.1 : Nat) t5, .str (nm q.2) tn] 0) :: cst') (fun p hp => ?_) (Off3.of fun p hp => ?_) ⟨_, _, .head _, rfl⟩ ⟨_, it1 ++ [q], it2, rfl, ?_, ?_, ?_, fun p hp => .tail _ (hs p hp), RowIs.mono (fun p hp => .tail _ hp) RA, OnesIs.snoc (.head _) (OnesIs.mono (fun p hp => .tail _ hp) RB), by rw [List.append_assoc]; exact he⟩
    · rcases List.mem_cons.mp hp with rfl | hp
      · exact .tail _ (.tail _ (.tail _ (.head _)))
      rcases List.mem_cons.mp hp with rfl | hp
      · exact .tail _ (.tail _ (.tail _ (.tail _ (.head _))))
      rcases List.mem_cons.mp hp with rfl | hp
      · exact .tail _ (.tail _ (.tail _ (.tail _ (.tail _ (.head _)))))
      rcases List.mem_cons.mp hp with rfl | hp
      · exact .tail _ (.tail _ (.tail _ (.tail _ (.tail _ (.tail _ (.head _))))))
      rcases List.mem_cons.mp hp with rfl | hp
      · exact .tail _ (.tail _ (.tail _ (.tail _ (.tail _ (.tail _ (.tail _ (.head _)))))))
      rcases List.mem_cons.mp hp with rfl | hp
      · exact .tail _ (.tail _ (.tail _ (.tail _ (.tail _ (.tail _ (.tail _ (.tail _ (.head _))))))))
      rcases List.mem_cons.mp hp with rfl | hp
      · exact .head _
      · exact .tail _ (.tail _ (.tail _ (.tail _ (.tail _ (.tail _ (.tail _ (.tail _ (.tail _ hp))))))))
    · rcases List.mem_cons.mp hp with rfl | hp
      · exact off _ (.head _)
      rcases List.mem_cons.mp hp with rfl | hp
      · exact off _ (.tail _ (.head _))
      rcases List.mem_cons.mp hp with rfl | hp
      · exact off _ (.tail _ (.tail _ (.head _)))
      rcases List.mem_cons.mp hp with rfl | hp
      · exact ⟨Nat.ne_of_gt a1, Nat.ne_of_gt a2, Nat.ne_of_gt a3⟩
      · exact off _ (.tail _ (.tail _ (.tail _ hp)))
    · exact List.forall_mem_cons.mpr ⟨Nat.ne_of_gt a4, o1⟩
    · exact List.forall_mem_cons.mpr ⟨Nat.ne_of_gt a5, o2⟩
    · exact List.forall_mem_cons.mpr ⟨Nat.ne_of_gt a6, o3⟩
  · rintro ys nw ⟨cst', it1, it2, rfl, o1, o2, o3, hs, RA, RB, he⟩
    cases it2 with
    | cons q it2 => exact RA.elim
    | nil =>
    rw [List.append_nil] at he
    subst he
    intro D h tk F2 N2 off
    have N3 : News h₀ L h ((r, rowO rd vs n) :: (B, bo) :: (c1, co) :: (D, lst ys) :: cst') := cb_drop N2 (sub_cons (.tail _ (.head _)) (sub_cons (.tail _ (.tail _ (.head _))) (sub_cons (.tail _ (.tail _ (.tail _ (.head _)))) (sub_cons (.head _) fun p hp => .tail _ (.tail _ (.tail _ (.tail _ hp)))))))
    obtain ⟨d1, d2, d3, -⟩ := off
    refine hret D ys _ h tk ?_ N3 (List.forall_mem_cons.mpr ⟨Ne.symm d1, o1⟩) (List.forall_mem_cons.mpr ⟨Ne.symm d2, o2⟩) (List.forall_mem_cons.mpr ⟨Ne.symm d3, o3⟩) (fun p hp => .tail _ (hs p hp)) (.head _) (OnesIs.mono (fun p hp => .tail _ hp) RB)
    refine Eq.mp (congrArg (Fr h₀ L h) ?_) F2
    funext y
    by_cases e1 : y = Str.ofString "ones"
    · subst e1; with_unfolding_all rfl
    simp only [mm, e1, if_false]
end
end Mine
end
/-! part R3 -/
section
local macro_rules | `(tactic| walk_at "pad") => `(tactic| skip)
theorem Mine.rstR3 : True := by
  w_top off
  trivial
open PySem PySem.Spec PySem.Calls PySem.W PyProof.Rows PyProof.V
set_option maxRecDepth 100000
set_option maxHeartbeats 4000000
namespace Mine
local macro_rules | `(tactic| k_mem) => `(tactic| assumption)
local macro_rules | `(tactic| k_all) => `(tactic| assumption)
local macro_rules | `(tactic| walk_at "getMethod ref") => `(tactic| (k_here; k_dflt (refine' method_fnG ?X ?I ?a canon_list_ga ?b ?c ?d ?e ?_; (case X => k_in); (case I => exact inst_row (by k_asm) (by k_mem) (by k_mem)); (case a => k_is); (case b => k_is); (case c => k_is); (case d => k_is); (case e => with_unfolding_all rfl); k_whole)))

def StrsNm : List Value → List Nat → Prop
  | [], [] => True
  | v :: vs, k :: ks => (∃ t, v = .str (nm k) t) ∧ StrsNm vs ks
  | _, _ => False
theorem StrsNm.snoc {t : Tok} {k : Nat} : ∀ {vs : List Value} {ks : List Nat}, StrsNm vs ks → StrsNm (vs ++ [.str (nm k) t]) (ks ++ [k])
  | [], [], _ => ⟨⟨t, rfl⟩, trivial⟩
  | _ :: _, _ :: _, h => ⟨h.1, StrsNm.snoc h.2⟩
  | [], _ :: _, h => h.elim
  | _ :: _, [], h => h.elim
theorem cmpS_nm (side p q : Int) (x y : Nat) : cmpS side p q (nm x) (nm y) = cmpN side p q x y := by
  have e : ∀ a b : Nat, ((nm a).cps.toList < (nm b).cps.toList) ↔ a < b := fun a b => by
    show [97 + a] < [97 + b] ↔ _
    rw [List.cons_lt_cons_iff]
    simp
  unfold cmpS cmpN
  simp only [e]
theorem ints_snoc {n : Int} {t : Tok} : ∀ {vs : List Value} {ns : List Int}, IntsAre vs ns → IntsAre (vs ++ [.int n t]) (ns ++ [n])
  | _, _, .nil => .cons _ _ .nil
  | _, _, .cons _ _ h => .cons _ _ (ints_snoc h)
section
open PyProof.Rows.LCg PyProof.Rows.LCp
variable {w : World} {loose : List Str} {mean : ExcName → Option Value} {mg mb : Str → Option Value}
  {dp un : Nat} {gd : Option (List Code)} {outer : List Env} {A₀ : Around} {base h₀ : Heap} {L : Addr} {s : Shared} {Q : Flow → Shared → Prop} {E : Value → Shared → Prop} {mz : Str → Option Value}
  {r rd B c1 so dso sel p0 p1 ca : Addr} {bo co oa : Obj} {cst : List (Addr × Obj)} {side : Int} {place : Nat} {tp ts i0 i1 : Tok} {hk : Int} {nd n : Nat} {vs : List Value} {items : List (Nat × Nat)}
  {cut blanks name lead other wish ones taken left : Option Value}

variable {hk2 : Int} {i2 k1 k2 k3 k4 tw : Tok} {n2 n3 n4 n5 : Nat} {tl D : Addr} {ys : List Value} {nt : Nat} {wn : Nat} {v0 : Option Value}
theorem seg3
    (F : Fr h₀ L s.heap (mm cut blanks name lead other (some (.int (wn : Nat) tw)) (some (.ref D)) (some (.ref tl)) left (mfix (.ref r) (.ref B) (.int place tp) (.int side ts) mz)))
    (BB : Below A₀ base outer h₀) (X : (Mine.hd.heap_39 w.params).In h₀) (T : Top Mine.hd.view_39 loose mean mg mb h₀) (hE : PassesOwn (model Challenge.rw_xg0075_01.row.prog w) (ktrTop dp un gd (Str.ofString "_law_run") (sc271 w.params).1 L 271 (.ref 270) (cellsFrom (L + 1) (sc271 w.params).1.names []) outer) (envX (Str.ofString "_law_run") (sc271 w.params).1 L 271 (.ref 270) (cellsFrom (L + 1) (sc271 w.params).1.names [])) E)
    (N : News h₀ L s.heap ((tl, lstO [] nt) :: (r, rowO rd vs n) :: (B, bo) :: (c1, co) :: cst)) (rB : @Ne Nat r B) (rc : @Ne Nat r c1) (Bc : @Ne Nat B c1) (offr : ∀ p ∈ cst, p.1 ≠ r) (offB : ∀ p ∈ cst, p.1 ≠ B) (offc : ∀ p ∈ cst, p.1 ≠ c1)
    (mrd : (rd, dictOf [⟨hk, .str (Str.ofString "_initial_size") i0, .int 0 i1⟩] nd) ∈ cst)
    (hd : dp + 10 < recursionLimit) (hu : un + 128 < cLine)
    (tr : @Ne Nat tl r) (tB : @Ne Nat tl B) (tc : @Ne Nat tl c1) (offt : ∀ p ∈ cst, p.1 ≠ tl) (dc : co.data = .cell v0)
    (ma : (ca, oa) ∈ cst) (da : oa.data = .cell (some (.ref so))) (hca : (cellsFrom (L + 1) (sc271 w.params).1.names []).lookup (Str.ofString "ahead") = some ca) (hc1 : (cellsFrom (L + 1) (sc271 w.params).1.names []).lookup (Str.ofString "one") = some c1)
    (ms0 : (so, instObj 45 dso) ∈ cst) (ms1 : (dso, dictOf [⟨hk2, .str (Str.ofString "comp_select_list") i2, .ref sel⟩] n2) ∈ cst)
    (ms2 : (sel, tupO [.ref p0, .ref p1] n3) ∈ cst) (ms3 : (p0, tupO [.int 0 k1, .int (-side) k2] n4) ∈ cst) (ms4 : (p1, tupO [.int 1 k3, .int side k4] n5) ∈ cst)
    (mD : (D, lstO ys ys.length) ∈ cst) (R1 : OnesIs cst ys items) (hz : items.length < 50) (hsl : -1 ≤ side) (hsu : side ≤ 1) (hwn : wn < 100)
    (hret : ∀ (tvs : List Value) (nt' : Nat) (co' : Obj) (v1 : Option Value) (cst' : List (Addr × Obj)) (h' : Heap) (tk' : Nat), Fr h₀ L h' (mm cut blanks name lead other (some (.int (wn : Nat) tw)) (some (.ref D)) (some (.ref tl)) left (mfix (.ref r) (.ref B) (.int place tp) (.int side ts) mz)) → News h₀ L h' ((tl, lstO tvs nt') :: (r, rowO rd vs n) :: (B, bo) :: (c1, co') :: cst') → co'.data = .cell v1 →
      (∀ p ∈ cst', p.1 ≠ r) → (∀ p ∈ cst', p.1 ≠ B) → (∀ p ∈ cst', p.1 ≠ c1) → (∀ p ∈ cst', p.1 ≠ tl) → (∀ p ∈ cst, p ∈ cst') → StrsNm tvs (Mine.taken side wn items) → Q .next { s with heap := h', toks := tk' }) :
    wpAny (model Challenge.rw_xg0075_01.row.prog w) (ktrTop dp un gd (Str.ofString "_law_run") (sc271 w.params).1 L 271 (.ref 270) (cellsFrom (L + 1) (sc271 w.params).1.names []) outer) (exec (stW7 w.params).1 (envX (Str.ofString "_law_run") (sc271 w.params).1 L 271 (.ref 270) (cellsFrom (L + 1) (sc271 w.params).1.names []))) Q E s := by
  dsimp only [stW7, sc271] at hE hca hc1 ⊢
  have hl := R1.length
  obtain rfl : L + 1 + 1 = c1 := Option.some.inj hc1
  obtain rfl : L + 1 = ca := Option.some.inj hca
  with_unfolding_all (refine' For_turns F ?_)
  k_whole
  refine nameX_L F (by rfl) ?_ (by rfl) (by rfl)
  refine iter_listTurns (by with_unfolding_all rfl) F N (.tail _ (.tail _ (.tail _ (.tail _ mD)))) rfl rfl ?_
  intro I lI
  obtain ⟨J, hJ⟩ : ∃ J : List Value → (Str → Option Value) → List (Addr × Obj) → Prop, ∀ rem m2 nw, J rem m2 nw ↔ (∃ (tvs : List Value) (nt' : Nat) (co' : Obj) (v1 : Option Value) (cst' : List (Addr × Obj)) (it1 it2 : List (Nat × Nat)),
    nw = ((tl, lstO tvs nt') :: (r, rowO rd vs n) :: (B, bo) :: ((L + 1 + 1), co') :: cst') ∧ m2 = mm cut blanks name lead other (some (.int (wn : Nat) tw)) (some (.ref D)) (some (.ref tl)) left (mfix (.ref r) (.ref B) (.int place tp) (.int side ts) mz) ∧ co'.data = .cell v1 ∧ (∀ p ∈ cst', p.1 ≠ r) ∧ (∀ p ∈ cst', p.1 ≠ B) ∧ (∀ p ∈ cst', p.1 ≠ (L + 1 + 1)) ∧ (∀ p ∈ cst', p.1 ≠ tl) ∧ (∀ p ∈ nw, p.1 ≠ I) ∧ (∀ p ∈ cst, p ∈ cst') ∧
    OnesIs cst' rem it2 ∧ it1 ++ it2 = items ∧ StrsNm tvs ((it1.filter (takes side wn items)).map (·.2)) ∧ tvs.length ≤ it1.length) := ⟨_, fun _ _ _ => Iff.rfl⟩
  refine items_inv Itm.val J ?_ ?_ ys _ _ ((hJ _ _ _).mpr ⟨[], nt, co, v0, cst, [], items, rfl, rfl, dc, offr, offB, offc, offt, ne_all_of_lt lI, fun _ h => h, R1, rfl, trivial, Nat.le_refl _⟩)
  · rintro x rem m2 nw v h tk io hj rfl hio F2 N2
    obtain ⟨tvs, nt', co', v1, cst', it1, it2, rfl, rfl, dc', o1, o2, o3, o4, oI, hs, RB, he, RS, hlt⟩ := (hJ _ _ _).mp hj
    clear hj
    cases it2 with
    | nil => exact RB.elim
    | cons q it2 =>
    obtain ⟨⟨t, tb, tn, rfl, mt⟩, RB⟩ := RB
    clear F N
    have oIr : @Ne Nat r I := oI _ (.tail _ (.head _))
    have oIB : @Ne Nat B I := oI _ (.tail _ (.tail _ (.head _)))
    have oIc : @Ne Nat (L + 1 + 1) I := oI _ (.tail _ (.tail _ (.tail _ (.head _))))
    have oIl : @Ne Nat tl I := oI _ (.head _)
    have oIt : ∀ p ∈ cst', p.1 ≠ I := fun p hp => oI p (.tail _ (.tail _ (.tail _ (.tail _ hp))))
    refine wpAny_assign_Name ?_
    k_dflt (refine' storeX_C F2 N2 ?hc ?U ?hd ?_ ?hk ?hx)
    case hc => exact hc1
    case hk => rfl
    case hx => rfl
    case hd => exact dc'
    case U => exact .tail (Ne.symm oIc) (.tail tc (.tail rc (.tail Bc (.head o3))))
    intro h3 oc F3 N3 d3
    clear F2 N2
    dsimp only at N3 ⊢
    k_whole
    repeat' walk1
    refine CompSrc.ledger (by with_unfolding_all rfl) F3 N3 (.tail _ (.tail _ (.tail _ (.tail _ (.tail _ (hs _ mD)))))) (by rw [List.size_toArray, sizeLine_eq]; omega) ?_
    intro g
    rw [List.size_toArray]
    obtain ⟨J2, hJ2⟩ : ∃ J2 : List Value → List Value → List (Addr × Obj) → Prop, ∀ rem zs nw, J2 rem zs nw ↔ (nw = (I, io) :: ((tl, lstO tvs nt') :: (r, rowO rd vs n) :: (B, bo) :: (L + 1 + 1, oc) :: cst') ∧ ∃ j1 j2 : List (Nat × Nat), OnesIs cst' rem j2 ∧ j1 ++ j2 = items ∧ IntsAre zs (j1.map fun p => cmpS side q.1 p.1 (nm q.2) (nm p.2))) := ⟨_, fun _ _ _ => Iff.rfl⟩
    refine compU_inv J2 ?_ ?_ ys 0 [] _ rfl ((hJ2 _ _ _).mpr ⟨rfl, [], items, OnesIs.mono hs R1, rfl, IntsAre.nil⟩)
    · rintro v rem2 zs nw hj2 I2 oI2 C oC D2 m₂ h4 tk4 E' hC hx F4 N4 off ne
      obtain ⟨rfl, j1, j2, RJ, ej, hi⟩ := (hJ2 _ _ _).mp hj2
      clear hj2
      cases j2 with
      | nil => exact RJ.elim
      | cons q2 j2 =>
      obtain ⟨⟨t2, tb2, tn2, rfl, mt2⟩, RJ⟩ := RJ
      have ma' := hs _ ma
      have ms0' := hs _ ms0
      have ms1' := hs _ ms1
      have ms2' := hs _ ms2
      have ms3' := hs _ ms3
      have ms4' := hs _ ms4
      clear F3 N3
      repeat' walk1
      k_dflt (refine' compare_spec (k0 := 0) BB F4 X N4 T rfl ?q0 ?q1 ?q2 ?q3 ?q4 ?q5 ?q6 ?d ?u ?_)
      case q0 => k_mem
      case q1 => k_mem
      case q2 => k_mem
      case q3 => k_mem
      case q4 => k_mem
      case q5 => k_mem
      case q6 => k_mem
      case d => ktr_room
      case u => ktr_room
      intro t5 h5 tk5 F5 N5
      exact CompEnd.intro F5 N5 _ (fun p hp => hp) (Off3.of off) (.inr ⟨_, .tail _ (.tail _ (.tail _ (.tail _ (.tail _ (hs _ mD))))), rfl, _, rfl⟩) ((hJ2 _ _ _).mpr ⟨rfl, j1 ++ [q2], j2, RJ, by rw [List.append_assoc]; exact ej, by rw [List.map_append]; exact ints_snoc hi⟩)
    · rintro zs nw hj2 D2 h4 tk4 F4 N4 off
      obtain ⟨rfl, j1, j2, RJ, ej, hi⟩ := (hJ2 _ _ _).mp hj2
      clear hj2
      cases j2 with
      | cons q2 j2 => exact RJ.elim
      | nil =>
      rw [List.append_nil] at ej
      subst ej
      k_whole
      clear F3 N3
      repeat' walk1
      have hsc : (j1.map fun p => cmpS side q.1 p.1 (nm q.2) (nm p.2)).sum = score side j1 q := by
        unfold score
        simp only [cmpS_nm]
      have hcm : ∀ p ∈ cst', p.1 ≠ I := oIt
      obtain ⟨oD1, oD2, oD3, oD4, oD5, oD6⟩ := off
      have noI : ∀ (o1 : Obj), ∀ p ∈ (tl, o1) :: (r, rowO rd vs n) :: (B, bo) :: (L + 1 + 1, oc) :: cst', p.1 ≠ I := fun o1 =>
        List.forall_mem_cons.mpr ⟨oIl, List.forall_mem_cons.mpr ⟨oIr, List.forall_mem_cons.mpr ⟨oIB, List.forall_mem_cons.mpr ⟨oIc, oIt⟩⟩⟩⟩
      rename Fr _ _ _ _ => F5
      rename News _ _ _ _ => N5
      k_dflt (refine Calls.call_len_list (items := ys.toArray) ⟨_, (N5 _ (.tail _ (.tail _ (.tail _ (.tail _ (.tail _ (.tail _ (hs _ mD)))))))).1, rfl, _, rfl⟩ (by rw [List.size_toArray]; omega) ?_)
      rw [show ((ys.toArray.size : Nat) : Int) = (j1.length : Int) by rw [List.size_toArray, hl]]
      clear F4 N4
      repeat' walk1
      · rename (_ < _) => hlt2
        rw [hsc] at hlt2
        have htk : takes side wn j1 q = true := decide_eq_true hlt2
        k_dflt (refine' append_K (D := tl) (its := tvs.toArray) (n := nt') F5 N5 (.tail (Ne.symm oD2) (.tail (Ne.symm oIl) (.head ?hall))) ?_ ?z)
        case hall => exact List.forall_mem_cons.mpr ⟨Ne.symm tr, List.forall_mem_cons.mpr ⟨Ne.symm tB, List.forall_mem_cons.mpr ⟨Ne.symm tc, o4⟩⟩⟩
        case z =>
          have e3 := congrArg List.length he
          rw [List.length_append] at e3
          rw [sizeLine_eq, List.size_toArray]; omega
        intro h6 F6 N6
        k_whole
        rw [List.push_toArray] at N6
        repeat' walk1
        refine unrEndA F6 N6 ((tl, lstO (tvs ++ [.str (nm q.2) tn]) (nt' + 1)) :: (r, rowO rd vs n) :: (B, bo) :: (L + 1 + 1, oc) :: cst') (fun p hp => by rw [List.mem_singleton.mp hp]; exact .tail _ (.head _)) (fun p hp => .tail _ (.tail _ hp))
          (fun p hp i hi => by rw [List.mem_singleton.mp hi]; exact noI _ p hp)
          ⟨⟨.tail _ (.tail _ (.tail _ (.tail _ (hs _ mD)))), trivial⟩, (hJ _ _ _).mpr ⟨_, _, _, _, _, it1 ++ [q], it2, rfl, rfl, d3, o1, o2, o3, o4, noI _, hs, RB, by rw [List.append_assoc]; exact he, ?_, ?_⟩⟩
        · rw [List.filter_append, List.filter_cons, htk, if_pos rfl, List.filter_nil, List.map_append]
          exact StrsNm.snoc RS
        · simp only [List.length_append, List.length_cons, List.length_nil]; omega
      · rename (¬ _ < _) => hlt2
        rw [hsc] at hlt2
        have htk : takes side wn j1 q = false := decide_eq_false hlt2
        refine unrEndA F5 N5 ((tl, lstO tvs nt') :: (r, rowO rd vs n) :: (B, bo) :: (L + 1 + 1, oc) :: cst') (fun p hp => by rw [List.mem_singleton.mp hp]; exact .tail _ (.head _)) (fun p hp => .tail _ (.tail _ hp))
          (fun p hp i hi => by rw [List.mem_singleton.mp hi]; exact noI _ p hp)
          ⟨⟨.tail _ (.tail _ (.tail _ (.tail _ (hs _ mD)))), trivial⟩, (hJ _ _ _).mpr ⟨_, _, _, _, _, it1 ++ [q], it2, rfl, rfl, d3, o1, o2, o3, o4, noI _, hs, RB, by rw [List.append_assoc]; exact he, ?_, ?_⟩⟩
        · rw [List.filter_append, List.filter_cons, htk, if_neg (by decide), List.filter_nil, List.append_nil]
          exact RS
        · simp only [List.length_append, List.length_cons, List.length_nil]; omega
  · rintro m2 nw h tk hj F2 N2
    obtain ⟨tvs, nt', co', v1, cst', it1, it2, rfl, rfl, dc', o1, o2, o3, o4, oI, hs, RB, he, RS, hlt⟩ := (hJ _ _ _).mp hj
    cases it2 with
    | cons q it2 => exact RB.elim
    | nil =>
    rw [List.append_nil] at he
    subst he
    exact hret tvs nt' co' v1 cst' h tk F2 N2 dc' o1 o2 o3 o4 hs RS
end
end Mine
end
/-! part R4 -/
section
local macro_rules | `(tactic| walk_at "pad") => `(tactic| skip)
theorem Mine.rstR4 : True := by
  w_top off
  trivial
open PySem PySem.Spec PySem.Calls PySem.W PyProof.Rows PyProof.V
set_option maxRecDepth 100000
set_option maxHeartbeats 1000000
namespace Mine
local macro_rules | `(tactic| k_mem) => `(tactic| assumption)
local macro_rules | `(tactic| k_all) => `(tactic| assumption)
local macro_rules | `(tactic| walk_at "getMethod ref") => `(tactic| (k_here; k_dflt (refine' method_fnG ?X ?I ?a canon_list_ga ?b ?c ?d ?e ?_; (case X => k_in); (case I => exact inst_row (by k_asm) (by k_mem) (by k_mem)); (case a => k_is); (case b => k_is); (case c => k_is); (case d => k_is); (case e => with_unfolding_all rfl); k_whole)))

theorem nm_inj {x y : Nat} (h : nm x = nm y) : x = y := by
  have : (#[97 + x] : Array Nat) = #[97 + y] := congrArg Str.cps h
  simpa using this
theorem mem_nm {x : Nat} {l : List Nat} : nm x ∈ l.map nm ↔ x ∈ l := by
  rw [List.mem_map]
  exact ⟨fun ⟨y, hy, e⟩ => nm_inj e ▸ hy, fun h => ⟨x, h, rfl⟩⟩
theorem StrsNm.strs : ∀ {vs : List Value} {ks : List Nat}, StrsNm vs ks → StrsAre vs (ks.map nm)
  | [], [], _ => .nil
  | _ :: _, _ :: _, h => by
    obtain ⟨⟨t, rfl⟩, h⟩ := h
    exact .cons _ _ (StrsNm.strs h)
  | [], _ :: _, h => h.elim
  | _ :: _, [], h => h.elim
/-- the table of tables -/
def BookIs (w : World) (all : List (Addr × Obj)) (bo : Obj) (bk : Nat → List Nat) : Prop :=
  ∃ kvs : List (Str × Value), bo.IsDictOf (PySem.strKind Challenge.rw_xg0075_01.row.prog w) kvs ∧ kvs.length ≤ 5 ∧
    ∀ k < 5, ∃ D o kv, valueAt kvs (nm k) = some (.ref D) ∧ (D, o) ∈ all ∧ (D == sysModules) = false ∧ o.IsDictOf (PySem.strKind Challenge.rw_xg0075_01.row.prog w) kv ∧ Ones kv ((bk k).map nm)
theorem BookIs.mono {w : World} {all all' : List (Addr × Obj)} {bo : Obj} {bk : Nat → List Nat} (hs : ∀ p ∈ all, p ∈ all') (h : BookIs w all bo bk) : BookIs w all' bo bk := by
  obtain ⟨kvs, a, b, f⟩ := h
  exact ⟨kvs, a, b, fun k hk => let ⟨D, o, kv, e1, e2, e3⟩ := f k hk; ⟨D, o, kv, e1, hs _ e2, e3⟩⟩
theorem stored_old {kvs : List (Str × Value)} {k : Str} {v v' : Value} (h : valueAt kvs k = some v') : (stored kvs k v).length = kvs.length ∧ ∀ j, valueAt (stored kvs k v) j = if j = k then some v else valueAt kvs j := by
  have hany : kvs.any (fun kv => decide (kv.1 = k)) = true := by
    unfold valueAt at h
    obtain ⟨p, hp, _⟩ := Option.map_eq_some_iff.mp h
    exact List.any_eq_true.mpr ⟨p, List.mem_of_find?_eq_some hp, by simpa using List.find?_some hp⟩
  unfold stored
  rw [if_pos hany]
  refine ⟨List.length_map _, fun j => ?_⟩
  have hc : ((fun kv : Str × Value => decide (kv.1 = j)) ∘ fun kv => if kv.1 = k then (kv.1, v) else kv) = fun kv => decide (kv.1 = j) := by
    funext kv
    show decide ((if kv.1 = k then (kv.1, v) else kv).1 = j) = decide (kv.1 = j)
    by_cases e : kv.1 = k <;> simp [e]
  unfold valueAt at h ⊢
  rw [List.find?_map, hc]
  cases e : kvs.find? (fun kv => decide (kv.1 = j)) with
  | none =>
    by_cases hj : j = k
    · subst hj; rw [e] at h; cases h
    · rw [if_neg hj]; rfl
  | some q =>
    have hq : q.1 = j := by simpa using List.find?_some e
    by_cases hj : j = k
    · rw [if_pos hj]
      show some (if q.1 = k then (q.1, v) else q).2 = some v
      rw [if_pos (hq.trans hj)]
    · rw [if_neg hj]
      show some (if q.1 = k then (q.1, v) else q).2 = some q.2
      rw [if_neg (fun z => hj (hq.symm.trans z))]
theorem blk_len {b : Nat} : (blk b).length = b := by simp [blk, Str.length]
theorem nm_len {k : Nat} : (nm k).length = 1 := by simp [nm, Str.length]
local macro_rules | `(tactic| walk_at "binaryOp Add str str") => `(tactic| (k_here; refine SB.add ?_ (by rw [blk_len, nm_len, sizeLine_eq]; omega); intro _ _))
theorem blk_zero_nm {k : Nat} : blk 0 ++ nm k = (⟨#[97 + k]⟩ : Str) := by
  show (⟨#[] ++ #[97 + k]⟩ : Str) = _
  simp
theorem blk_succ_nm {b k : Nat} : blk (b + 1) ++ nm k = (⟨(32 :: (List.replicate b 32 ++ [97 + k])).toArray⟩ : Str) := by
  show (⟨(List.replicate (b + 1) 32).toArray ++ #[97 + k]⟩ : Str) = _
  rw [List.replicate_succ]
  simp
theorem tok_name {h₀ h : Heap} {L : Addr} {cut blanks name other wish ones taken left : Option Value} {m0 : Str → Option Value} {x : Str} {t : Tok} {P : Prop} (F : Fr h₀ L h (mm cut blanks name (some (.str x t)) other wish ones taken left m0)) (k : ∀ t', t' = t → Fr h₀ L h (mm cut blanks name (some (.str x t')) other wish ones taken left m0) → P) : P := k t rfl F
theorem push_end {h₀ h : Heap} {L : Addr} {a b c d e : Addr × Obj} {l : List (Addr × Obj)} (N : News h₀ L h (a :: b :: c :: d :: e :: l)) : News h₀ L h (b :: c :: d :: e :: a :: l) :=
  cb_drop N (sub_cons (.tail _ (.head _)) (sub_cons (.tail _ (.tail _ (.head _))) (sub_cons (.tail _ (.tail _ (.tail _ (.head _)))) (sub_cons (.tail _ (.tail _ (.tail _ (.tail _ (.head _))))) (sub_cons (.head _) fun p hp => .tail _ (.tail _ (.tail _ (.tail _ (.tail _ hp)))))))))
theorem off_push {r B c1 t I : Addr} {ro bo co to : Obj} {l : List (Addr × Obj)} (h1 : @Ne Nat r I) (h2 : @Ne Nat B I) (h3 : @Ne Nat c1 I) (h4 : @Ne Nat t I) (h5 : ∀ p ∈ l, p.1 ≠ I) : ∀ p ∈ (r, ro) :: (B, bo) :: (c1, co) :: (t, to) :: l, p.1 ≠ I :=
  List.forall_mem_cons.mpr ⟨h1, List.forall_mem_cons.mpr ⟨h2, List.forall_mem_cons.mpr ⟨h3, List.forall_mem_cons.mpr ⟨h4, h5⟩⟩⟩⟩
theorem slice_init {l : List Nat} {a : Nat} : Txt.slice (⟨(l ++ [a]).toArray⟩ : Str) none (some (-1)) = ⟨l.toArray⟩ := by
  have hlen : (⟨(l ++ [a]).toArray⟩ : Str).length = l.length + 1 := by simp [Str.length]
  have e : Txt.slice (⟨(l ++ [a]).toArray⟩ : Str) none (some (-1)) = Txt.slice (⟨(l ++ [a]).toArray⟩ : Str) (some ((0 : Nat) : Int)) (some ((l.length : Nat) : Int)) := by
    unfold Txt.slice
    have : PySem.Builtin.Str.strSliceIndices none (some (-1)) 1 (⟨(l ++ [a]).toArray⟩ : Str).length = PySem.Builtin.Str.strSliceIndices (some ((0 : Nat) : Int)) (some ((l.length : Nat) : Int)) 1 (⟨(l ++ [a]).toArray⟩ : Str).length := by
      rw [hlen]
      unfold PySem.Builtin.Str.strSliceIndices
      simp only [show (1 : Int) > 0 by decide, if_true]
      congr 1
      simp
      rw [if_neg (by omega)]
      omega
    rw [this]
  rw [e, slice_text _ 0 l.length (by omega) (by rw [hlen]; omega)]
  simp
theorem mm_ll {cut blanks name lead other wish ones taken left vl vo : Option Value} {m0 : Str → Option Value} :
    (fun y => if y = Str.ofString "lead" then vl else if y = Str.ofString "left" then vo else mm cut blanks name lead other wish ones taken left m0 y) = mm cut blanks name vl other wish ones taken vo m0 := by
  funext y
  by_cases e1 : y = Str.ofString "lead"
  · subst e1; with_unfolding_all rfl
  by_cases e2 : y = Str.ofString "left"
  · subst e2; with_unfolding_all rfl
  simp only [mm, e1, e2, if_false]
theorem tie_len {c k b : Nat} {bk : Nat → List Nat} {it : List (Nat × Nat)} (h : ∀ j, (bk j).length + ((b, k) :: it).length < 50) : ∀ j, (tie c k bk j).length + it.length < 50 := fun j => by
  unfold tie
  split
  · have := h k
    simp only [List.length_append, List.length_cons, List.length_nil] at this ⊢
    omega
  · split
    · have := h c
      simp only [List.length_append, List.length_cons, List.length_nil] at this ⊢
      omega
    · have := h j
      simp only [List.length_cons] at this
      omega
theorem tie_fresh {c k b : Nat} {bk : Nat → List Nat} {it : List (Nat × Nat)} (hck : k ≠ c) (hnd : (((b, k) :: it).map (·.2)).Nodup) (hcn : c ∉ ((b, k) :: it).map (·.2)) (h : ∀ p ∈ (b, k) :: it, p.2 ∉ bk c ∧ c ∉ bk p.2) :
    ∀ p ∈ it, p.2 ∉ tie c k bk c ∧ c ∉ tie c k bk p.2 := fun p hp => by
  have h1 := h p (.tail _ hp)
  have hpk : p.2 ≠ k := fun e => (List.nodup_cons.mp hnd).1 (by rw [← e]; exact List.mem_map.mpr ⟨p, hp, rfl⟩)
  have hpc : p.2 ≠ c := fun e => hcn (by rw [← e]; exact List.mem_map.mpr ⟨p, .tail _ hp, rfl⟩)
  unfold tie
  rw [if_neg (Ne.symm hck), if_pos rfl, if_neg hpk, if_neg hpc]
  exact ⟨fun hm => by
    rcases List.mem_append.mp hm with hm | hm
    · exact h1.1 hm
    · exact hpk (List.mem_singleton.mp hm), h1.2⟩
theorem any_nm {tk : List Nat} {k : Nat} : (tk.map nm).any (· == nm k) = decide (k ∈ tk) := by
  induction tk with
  | nil => rfl
  | cons x r ih =>
    rw [List.map_cons, List.any_cons, ih]
    by_cases e : x = k
    · subst e; simp
    · have : ¬ nm x = nm k := fun h => e (nm_inj h)
      have e' : ¬ k = x := fun h => e h.symm
      simp [this, e']
theorem mm_lo {cut blanks name lead other wish ones taken left vl vo : Option Value} {m0 : Str → Option Value} :
    (fun y => if y = Str.ofString "other" then vo else if y = Str.ofString "lead" then vl else mm cut blanks name lead other wish ones taken left m0 y) = mm cut blanks name vl vo wish ones taken left m0 := by
  funext y
  by_cases e1 : y = Str.ofString "other"
  · subst e1; with_unfolding_all rfl
  by_cases e2 : y = Str.ofString "lead"
  · subst e2; with_unfolding_all rfl
  simp only [mm, e1, e2, if_false]
section
variable {w : World} {loose : List Str} {mean : ExcName → Option Value} {mg mb : Str → Option Value}
  {dp un : Nat} {gd : Option (List Code)} {outer : List Env} {A₀ : Around} {base h₀ : Heap} {L : Addr} {s : Shared} {Q : Flow → Shared → Prop} {E : Value → Shared → Prop} {mz : Str → Option Value}
  {r rd B c1 so dso sel p0 p1 ca : Addr} {bo co oa : Obj} {cst : List (Addr × Obj)} {side : Int} {place : Nat} {tp ts i0 i1 : Tok} {hk : Int} {nd n : Nat} {vs : List Value} {items : List (Nat × Nat)}
  {cut blanks name lead other wish ones taken left : Option Value}

variable {tl D : Addr} {ys tvs : List Value} {nt c wb : Nat} {tbl tnm : Tok} {tks : List Nat} {bk : Nat → List Nat}
theorem seg4
    (F : Fr h₀ L s.heap (mm cut (some (.str (blk wb) tbl)) (some (.str (nm c) tnm)) lead other wish (some (.ref D)) (some (.ref tl)) left (mfix (.ref r) (.ref B) (.int place tp) (.int side ts) mz)))
    (BB : Below A₀ base outer h₀) (X : (Mine.hd.heap_39 w.params).In h₀) (T : Top Mine.hd.view_39 loose mean mg mb h₀) (hE : PassesOwn (model Challenge.rw_xg0075_01.row.prog w) (ktrTop dp un gd (Str.ofString "_law_run") (sc271 w.params).1 L 271 (.ref 270) (cellsFrom (L + 1) (sc271 w.params).1.names []) outer) (envX (Str.ofString "_law_run") (sc271 w.params).1 L 271 (.ref 270) (cellsFrom (L + 1) (sc271 w.params).1.names [])) E)
    (N : News h₀ L s.heap ((r, rowO rd vs n) :: (B, bo) :: (c1, co) :: cst)) (rB : @Ne Nat r B) (rc : @Ne Nat r c1) (Bc : @Ne Nat B c1) (offr : ∀ p ∈ cst, p.1 ≠ r) (offB : ∀ p ∈ cst, p.1 ≠ B) (offc : ∀ p ∈ cst, p.1 ≠ c1)
    (mrd : (rd, dictOf [⟨hk, .str (Str.ofString "_initial_size") i0, .int 0 i1⟩] nd) ∈ cst)
    (hd : dp + 10 < recursionLimit) (hu : un + 128 < cLine)
    (mD : (D, lstO ys ys.length) ∈ cst) (hys : ys.length < 50) (mtl : (tl, lstO tvs nt) ∈ cst) (RS : StrsNm tvs tks) (R1 : RowIs cst vs items) (hz : items.length < 50) (hb : ∀ p ∈ items, p.1 < 90 ∧ p.2 < 5) (hc5 : c < 5)
    (hnd : (items.map (·.2)).Nodup) (hcn : c ∉ items.map (·.2)) (BK : BookIs w cst bo bk) (hfr : ∀ p ∈ items, p.2 ∉ bk c ∧ c ∉ bk p.2) (hln : ∀ k, (bk k).length + items.length < 50)
    (hraise : loopF c tks items [] bk = none → ∀ (q t d : Addr) (vx : List Value) (all : List (Addr × Obj)) (m' : Str → Option Value) (h' : Heap) (tk' : Nat), Fr h₀ L h' m' → News h₀ L h' all → (q, excO 192 t (some d)) ∈ all → (t, tupO vx 0) ∈ all → @Ne Nat t q → (∀ p ∈ cst, p ∈ all ∧ p.1 ≠ q ∧ p.1 ≠ t) → E (.ref q) { s with heap := h', toks := tk' })
    (hret : ∀ (items' : List (Nat × Nat)) (bk' : Nat → List Nat) (lead other left : Option Value) (vs' : List Value) (n' : Nat) (bo' : Obj) (cst' : List (Addr × Obj)) (h' : Heap) (tk' : Nat), loopF c tks items [] bk = some (items', bk') → Fr h₀ L h' (mm cut (some (.str (blk wb) tbl)) (some (.str (nm c) tnm)) lead other wish (some (.ref D)) (some (.ref tl)) left (mfix (.ref r) (.ref B) (.int place tp) (.int side ts) mz)) → News h₀ L h' ((r, rowO rd vs' n') :: (B, bo') :: (c1, co) :: cst') →
      (∀ p ∈ cst', p.1 ≠ r) → (∀ p ∈ cst', p.1 ≠ B) → (∀ p ∈ cst', p.1 ≠ c1) → (∀ p ∈ cst, p ∈ cst') → RowIs cst' vs' items' → BookIs w cst' bo' bk' → Q .next { s with heap := h', toks := tk' }) :
    wpAny (model Challenge.rw_xg0075_01.row.prog w) (ktrTop dp un gd (Str.ofString "_law_run") (sc271 w.params).1 L 271 (.ref 270) (cellsFrom (L + 1) (sc271 w.params).1.names []) outer) (exec (stW8 w.params).1 (envX (Str.ofString "_law_run") (sc271 w.params).1 L 271 (.ref 270) (cellsFrom (L + 1) (sc271 w.params).1.names []))) Q E s := by
  dsimp only [stW8, sc271] at hE ⊢
  have hl := R1.length
  with_unfolding_all (refine' For_turns F ?_)
  k_whole
  repeat' walk1
  k_dflt (refine' pop_from_spec (i := 0) BB F X N T rfl (.head ?ha) (.tail _ (.tail _ (.tail _ mrd))) ?z (Nat.zero_le _) ?d ?u ?_)
  case ha => exact List.forall_mem_cons.mpr ⟨Ne.symm rB, List.forall_mem_cons.mpr ⟨Ne.symm rc, offr⟩⟩
  case z => omega
  case d => ktr_room
  case u => ktr_room
  intro cc h1 tk1 n1 F1 N1 lcc
  k_whole
  rw [List.drop_zero, List.take_zero] at N1
  repeat' walk1
  have N2 : News h₀ L h1 ((r, rowO rd [] n1) :: (B, bo) :: (c1, co) :: (cc, lstO vs 0) :: cst) := cb_drop N1 (sub_cons (.tail _ (.head _)) (sub_cons (.tail _ (.tail _ (.head _))) (sub_cons (.tail _ (.tail _ (.tail _ (.head _)))) (sub_cons (.head _) fun p hp => .tail _ (.tail _ (.tail _ (.tail _ hp)))))))
  refine iter_listTurns (by with_unfolding_all rfl) F1 N2 (.tail _ (.tail _ (.tail _ (.head _)))) rfl rfl ?_
  intro I lI
  have lDr := ltN (lcc _ (.head _))
  have lDB := ltN (lcc _ (.tail _ (.head _)))
  have lDc := ltN (lcc _ (.tail _ (.tail _ (.head _))))
  obtain ⟨J, hJ⟩ : ∃ J : List Value → (Str → Option Value) → List (Addr × Obj) → Prop, ∀ rem m2 nw, J rem m2 nw ↔ (∃ (lead other left : Option Value) (vs' : List Value) (n' : Nat) (bo' : Obj) (bk' : Nat → List Nat) (cst' : List (Addr × Obj)) (acc it2 : List (Nat × Nat)),
    nw = ((r, rowO rd vs' n') :: (B, bo') :: (c1, co) :: cst') ∧ m2 = mm cut (some (.str (blk wb) tbl)) (some (.str (nm c) tnm)) lead other wish (some (.ref D)) (some (.ref tl)) left (mfix (.ref r) (.ref B) (.int place tp) (.int side ts) mz) ∧ (∀ p ∈ cst', p.1 ≠ r) ∧ (∀ p ∈ cst', p.1 ≠ B) ∧ (∀ p ∈ cst', p.1 ≠ c1) ∧ (∀ p ∈ nw, p.1 ≠ I) ∧ (∀ p ∈ cst, p ∈ cst') ∧ (cc, lstO vs 0) ∈ cst' ∧
    RowIs cst' vs' acc ∧ RowIs cst' rem it2 ∧ loopF c tks items [] bk = loopF c tks it2 acc bk' ∧ BookIs w cst' bo' bk' ∧ vs'.length + it2.length = items.length ∧
    (∀ p ∈ it2, p.1 < 90 ∧ p.2 < 5) ∧ (it2.map (·.2)).Nodup ∧ c ∉ it2.map (·.2) ∧ (∀ p ∈ it2, p.2 ∉ bk' c ∧ c ∉ bk' p.2) ∧ (∀ k, (bk' k).length + it2.length < 50)) := ⟨_, fun _ _ _ => Iff.rfl⟩
  refine items_inv Itm.val J ?_ ?_ vs _ _ ?_
  · rintro x rem m2 nw v h tk' io hj rfl hio F2 N3
    obtain ⟨lead, other, left, vs', n', bo', bk', cst', acc, it2, rfl, rfl, o1, o2, o3, oI, hs, hcc, RA, RB, hloop, BK', hlen, hb', hnd', hcn', hfr', hln'⟩ := (hJ _ _ _).mp hj
    clear hj
    cases it2 with
    | nil => exact RB.elim
    | cons q it2 =>
    obtain ⟨⟨t, tb, tn, rfl, mt⟩, RB⟩ := RB
    clear F1 N1 N2 F N
    have mrd' := hs _ mrd
    have mtl' := hs _ mtl
    repeat' walk1
    obtain ⟨b, k⟩ := q
    dsimp only at mt hloop hb' hnd' hcn' hfr' ⊢
    rename Fr _ _ _ _ => F3
    rename News _ _ _ _ => N4
    have F4 := Eq.mp (congrArg (Fr h₀ L _) (show _ = (mm cut (some (.str (blk wb) tbl)) (some (.str (nm c) tnm)) (some (.str (blk b) tb)) (some (.str (nm k) tn)) wish (some (.ref D)) (some (.ref tl)) left (mfix (.ref r) (.ref B) (.int place tp) (.int side ts) mz) : Str → Option Value) from mm_lo)) F3
    clear F3
    have oIr : @Ne Nat r I := oI _ (.head _)
    have oIB : @Ne Nat B I := oI _ (.tail _ (.head _))
    have oIc : @Ne Nat c1 I := oI _ (.tail _ (.tail _ (.head _)))
    have oIt : ∀ p ∈ cst', p.1 ≠ I := fun p hp => oI p (.tail _ (.tail _ (.tail _ hp)))
    have hq5 := (hb' _ (.head _)).2
    have hq90 := (hb' _ (.head _)).1
    dsimp only at hq5 hq90
    k_dflt (refine in_list_strs (vs := tvs) ⟨_, (N4 _ (.tail _ (.tail _ (.tail _ (.tail _ mtl'))))).1, rfl, _, rfl⟩ RS.strs ?_)
    rw [any_nm]
    by_cases hq : k ∈ tks
    · rw [decide_eq_true hq]
      simp only [loopF, if_pos hq] at hloop
      have hst := hfr' _ (.head _)
      dsimp only at hst
      cases b with
      | zero =>
        rw [if_pos rfl] at hloop
        repeat' walk1
        rw [blk_zero_nm]
        k_dflt (refine' strip_none BB F4 X N4 T rfl (by omega) ?d ?u ?_)
        case d => ktr_room
        case u => ktr_room
        intro t9 h9 tk9 F9 N9
        k_whole
        clear F4 N4
        iterate 12 walk1
        rw [blk_zero_nm]
        rw [if_pos (by simp)]
        walk1
        k_dflt (refine' raise_nag (C := 192) ?hh ?_)
        case hh => with_unfolding_all rfl
        repeat' walk1
        rename Fr _ _ _ _ => F5
        rename News _ _ _ _ => N5
        k_dflt (refine Calls.call_len_list (items := ys.toArray) ⟨_, (N5 _ (.tail _ (.tail _ (.tail _ (.tail _ (hs _ mD)))))).1, rfl, _, rfl⟩ (by rw [List.size_toArray]; omega) ?_)
        repeat' walk1
        k_dflt (refine' nag_spec BB F5 X N5 T rfl ?d1 ?u1 ?_)
        case d1 => ktr_room
        case u1 => ktr_room
        intro q6 t6 d6 od6 h6 tk6 F6 N6 l6 l7 l8
        k_whole
        have X6 := X.keeps F6.keep
        refine ⟨q6, t6, some d6, rfl, (N6 _ (.tail _ (.head _))).1, makesE_of X6 (kis_makesE w), looks_mroIn X6 ?b6, looks_mroIn X6 ?n6, looks_typeIn X6 ?y6, hraise hloop q6 t6 d6 _ _ _ _ _ F6 N6 (.tail _ (.head _)) (.tail _ (.tail _ (.head _))) (Nat.ne_of_lt l7) fun p hp => ?_⟩
        case b6 => k_is
        case n6 => k_is
        case y6 => k_is
        have hp' := hs p hp
        have lp := l6 p (.tail _ (.tail _ (.tail _ (.tail _ hp'))))
        exact ⟨.tail _ (.tail _ (.tail _ (.tail _ (.tail _ (.tail _ (.tail _ hp')))))), Nat.ne_of_lt (Nat.lt_trans lp l7), Nat.ne_of_lt lp⟩
      | succ b =>
        rw [if_neg (Nat.succ_ne_zero b), Nat.add_sub_cancel] at hloop
        repeat' walk1
        rw [blk_succ_nm]
        have hll : (List.replicate b 32 ++ [97 + k]).length = b + 1 := by simp
        k_dflt (refine' strip_some (l := List.replicate b 32 ++ [97 + k]) BB F4 X N4 T rfl (by rw [hll]; omega) ?d ?u ?_)
        case d => ktr_room
        case u => ktr_room
        intro t9 h9 tk9 F9 N9
        k_whole
        clear F4 N4
        iterate 12 walk1
        rw [blk_succ_nm, if_neg (by
          intro e
          have e1 := congrArg (fun x : Str => x.cps.toList.length) (eq_of_beq e)
          simp at e1)]
        walk1
        repeat' walk1
        obtain ⟨kvs, hbo, h5, hbk⟩ := BK'
        obtain ⟨Dc, oc, kvc, ec, mc, lc, dc, onc⟩ := hbk c hc5
        rename Fr _ _ _ _ => F5
        rename News _ _ _ _ => N5
        k_dflt (refine kda_item (knd := PySem.strKind _ _) N5 (.tail _ (.tail _ (.head _))) hbo (strKind_is _ _ _ _) ec ?_)
        k_whole
        repeat' walk1
        k_dflt (refine kdn_eval (knd := PySem.strKind _ w) F5 N5 (Top.nolimit T) (by rfl) (by rfl) (by decide) (by decide) ?_)
        intro Ds hs1 os Fs Ns ls los ds
        k_whole
        repeat' walk1
        k_dflt (refine kdn_made_str Fs Ns (.head (ne_all_of_lt ls)) ds (by rfl) (show [nm k].Nodup by simp) ?_)
        intro hs2 os2 Fs2 Ns2 ds2
        k_whole
        clear Fs Ns ds F5 N5
        repeat' walk1
        have hlc := hln' c
        k_dflt (refine' add_spec (k := nm k) BB Fs2 X Ns2 T rfl (.tail _ (.tail _ (.tail _ (.tail _ (.tail _ mc))))) (.head _) dc ds2 lc los onc (fun hm => hst.1 (mem_nm.mp hm)) (by rw [List.length_map]; omega) ?d2 ?u2 ?_)
        case d2 => ktr_room
        case u2 => ktr_room
        intro D1 o1' kv1 h10 tk10 F10 N10 l10 lo10 d10 on10
        k_whole
        clear Fs2 Ns2
        repeat' walk1
        have hck : k ≠ c := fun e => hcn' (by rw [← e]; exact .head _)
        have hnck : ¬ nm k = nm c := fun e => hck (nm_inj e)
        have hst1 := stored_old (v := .ref D1) ec
        have lDsB := ltN (ls _ (.tail _ (.tail _ (.head _))))
        have lD1B := ltN (l10 _ (.tail _ (.tail _ (.tail _ (.head _)))))
        k_dflt (refine' kda_set (knd := PySem.strKind _ _) F10 N10 (.tail (Nat.ne_of_gt lD1B) (.tail (Nat.ne_of_gt lDsB) (.tail (Ne.symm oIB) (.tail rB (.head (List.forall_mem_cons.mpr ⟨Ne.symm Bc, o2⟩)))))) hbo (strKind_is _ _ _ _) ?z10 ?_)
        case z10 => rw [sizeLine_eq]; omega
        intro h11 bo2 F11 N11 hbo2
        k_whole
        clear F10 N10
        repeat' walk1
        obtain ⟨Dk, ok, kvk, ek, mk, lk, dk, onk⟩ := hbk k hq5
        rename Fr _ _ _ _ => F12
        rename News _ _ _ _ => N12
        k_dflt (refine kda_item (knd := PySem.strKind _ _) N12 (.tail _ (.tail _ (.tail _ (.tail _ (.head _))))) hbo2 (strKind_is _ _ _ _) (by rw [hst1.2, if_neg hnck]; exact ek) ?_)
        k_whole
        repeat' walk1
        k_dflt (refine kdn_eval (knd := PySem.strKind _ w) F12 N12 (Top.nolimit T) (by rfl) (by rfl) (by decide) (by decide) ?_)
        intro Dt ht1 ot Ft Nt lt lot dt
        k_whole
        repeat' walk1
        k_dflt (refine kdn_made_str Ft Nt (.head (ne_all_of_lt lt)) dt (by rfl) (show [nm c].Nodup by simp) ?_)
        intro ht2 ot2 Ft2 Nt2 dt2
        k_whole
        clear Ft Nt dt F12 N12
        repeat' walk1
        have hlk := hln' k
        k_dflt (refine' add_spec (k := nm c) BB Ft2 X Nt2 T rfl (.tail _ (.tail _ (.tail _ (.tail _ (.tail _ (.tail _ (.tail _ mk))))))) (.head _) dk dt2 lk lot onk (fun hm => hst.2 (mem_nm.mp hm)) (by rw [List.length_map]; omega) ?d3 ?u3 ?_)
        case d3 => ktr_room
        case u3 => ktr_room
        intro D2 o2' kv2 h13 tk13 F13 N13 l13 lo13 d13 on13
        k_whole
        clear Ft2 Nt2
        repeat' walk1
        have ek1 : valueAt (stored kvs (nm c) (.ref D1)) (nm k) = some (.ref Dk) := by rw [hst1.2, if_neg hnck]; exact ek
        have hst2 := stored_old (v := .ref D2) ek1
        have lDtB := ltN (lt _ (.tail _ (.tail _ (.tail _ (.tail _ (.head _))))))
        have lD2B := ltN (l13 _ (.tail _ (.tail _ (.tail _ (.tail _ (.tail _ (.head _)))))))
        k_dflt (refine' kda_set (knd := PySem.strKind _ _) F13 N13 (.tail (Nat.ne_of_gt lD2B) (.tail (Nat.ne_of_gt lDtB) (.tail (Nat.ne_of_gt lD1B) (.tail (Nat.ne_of_gt lDsB) (.tail (Ne.symm oIB) (.tail rB (.head (List.forall_mem_cons.mpr ⟨Ne.symm Bc, o2⟩)))))))) hbo2 (strKind_is _ _ _ _) ?z13 ?_)
        case z13 => rw [hst1.1, sizeLine_eq]; omega
        intro h14 bo3 F14 N14 hbo3
        k_whole
        clear F13 N13
        repeat' walk1
        rw [slice_init]
        rename Fr _ _ _ _ => F15
        rename News _ _ _ _ => N15
        rw [slice_init] at F15
        have FP := Eq.mp (congrArg (Fr h₀ L _) (show _ = (mm cut (some (.str (blk wb) tbl)) (some (.str (nm c) tnm)) (some (.str (blk b) _)) (some (.str (nm k) tn)) wish (some (.ref D)) (some (.ref tl)) (some (.str _ t9)) (mfix (.ref r) (.ref B) (.int place tp) (.int side ts) mz) : Str → Option Value) from mm_ll)) F15
        refine tok_name FP fun tq htq FP => ?_
        subst htq
        have NP := cb_drop N15 (sub_cons (.tail _ (.tail _ (.tail _ (.tail _ (.head _))))) (sub_cons (.tail _ (.tail _ (.tail _ (.tail _ (.tail _ (.head _)))))) (sub_cons (.tail _ (.tail _ (.tail _ (.tail _ (.tail _ (.tail _ (.head _))))))) (sub_cons (.tail _ (.tail _ (.tail _ (.tail _ (.tail _ (.tail _ (.tail _ (.head _)))))))) (sub_cons (.head _) (sub_cons (.tail _ (.tail _ (.head _))) (fun p hp => .tail _ (.tail _ (.tail _ (.tail _ (.tail _ (.tail _ (.tail _ (.tail _ hp))))))))))))))
        clear F15 N15
        have lD1r := ltN (l10 _ (.tail _ (.tail _ (.head _))))
        have lD1c := ltN (l10 _ (.tail _ (.tail _ (.tail _ (.tail _ (.head _))))))
        have lD1I := ltN (l10 _ (.tail _ (.head _)))
        have lD2r := ltN (l13 _ (.tail _ (.tail _ (.tail _ (.tail _ (.head _))))))
        have lD2c := ltN (l13 _ (.tail _ (.tail _ (.tail _ (.tail _ (.tail _ (.tail _ (.head _))))))))
        have lD2I := ltN (l13 _ (.tail _ (.tail _ (.tail _ (.head _)))))
        have p1 : ∀ p ∈ (D2, o2') :: (D1, o1') :: cst', p.1 ≠ r := List.forall_mem_cons.mpr ⟨Nat.ne_of_gt lD2r, List.forall_mem_cons.mpr ⟨Nat.ne_of_gt lD1r, o1⟩⟩
        have p2 : ∀ p ∈ (D2, o2') :: (D1, o1') :: cst', p.1 ≠ B := List.forall_mem_cons.mpr ⟨Nat.ne_of_gt lD2B, List.forall_mem_cons.mpr ⟨Nat.ne_of_gt lD1B, o2⟩⟩
        have p3 : ∀ p ∈ (D2, o2') :: (D1, o1') :: cst', p.1 ≠ c1 := List.forall_mem_cons.mpr ⟨Nat.ne_of_gt lD2c, List.forall_mem_cons.mpr ⟨Nat.ne_of_gt lD1c, o3⟩⟩
        have p4 : ∀ p ∈ (D2, o2') :: (D1, o1') :: cst', p.1 ≠ I := List.forall_mem_cons.mpr ⟨Nat.ne_of_gt lD2I, List.forall_mem_cons.mpr ⟨Nat.ne_of_gt lD1I, oIt⟩⟩
        have psub : ∀ p ∈ cst', p ∈ (D2, o2') :: (D1, o1') :: cst' := fun p hp => .tail _ (.tail _ hp)
        have hbkn : BookIs w ((D2, o2') :: (D1, o1') :: cst') bo3 (tie c k bk') := by
          refine ⟨_, hbo3, by rw [hst2.1, hst1.1]; exact h5, fun j hj => ?_⟩
          by_cases hjk : j = k
          · subst hjk
            exact ⟨D2, o2', kv2, by rw [hst2.2, if_pos rfl], .head _, lo13, d13, by show Ones kv2 ((tie c j bk' j).map nm); unfold tie; rw [if_pos rfl, List.map_append]; exact on13⟩
          · by_cases hjc : j = c
            · subst hjc
              exact ⟨D1, o1', kv1, by rw [hst2.2, if_neg (fun e => hjk (nm_inj e)), hst1.2, if_pos rfl], .tail _ (.head _), lo10, d10, by unfold tie; rw [if_neg hjk, if_pos rfl, List.map_append]; exact on10⟩
            · obtain ⟨Dj, oj, kvj, ej, mj, lj, dj, onj⟩ := hbk j hj
              exact ⟨Dj, oj, kvj, by rw [hst2.2, if_neg (fun e => hjk (nm_inj e)), hst1.2, if_neg (fun e => hjc (nm_inj e))]; exact ej, psub _ mj, lj, dj, by unfold tie; rw [if_neg hjk, if_neg hjc]; exact onj⟩
        have hlv : vs'.length < 1000 := by simp only [List.length_cons] at hlen; omega
        k_dflt (refine' push_spec (rd := rd) BB FP X NP T rfl (.tail (Ne.symm oIr) (.head (List.forall_mem_cons.mpr ⟨Ne.symm rB, List.forall_mem_cons.mpr ⟨Ne.symm rc, p1⟩⟩))) (.tail _ (.tail _ (.tail _ (.tail _ (psub _ mrd'))))) hlv ?d4 ?u4 ?_)
        case d4 => ktr_room
        case u4 => ktr_room
        intro t' h20 tk20 F20 N20 lt20
        k_whole
        have N21 := N20
        have lIt := ltN (lt20 _ (.head _))
        have lrt := ltN (lt20 _ (.tail _ (.head _)))
        have lBt := ltN (lt20 _ (.tail _ (.tail _ (.head _))))
        have lct := ltN (lt20 _ (.tail _ (.tail _ (.tail _ (.head _)))))
        repeat' walk1
        have off4 := off_push oIr oIB oIc (Nat.ne_of_gt lIt) p4 (ro := rowO rd (vs' ++ [.ref t']) (n' + 1)) (bo := bo3) (co := co) (to := tupO [.str (blk b) tq, .str (nm k) tn] 0)
        refine unrEndA (by assumption) (push_end N20) ((r, rowO rd (vs' ++ [.ref t']) (n' + 1)) :: (B, bo3) :: (c1, co) :: (t', tupO [.str (blk b) tq, .str (nm k) tn] 0) :: ((D2, o2') :: (D1, o1') :: cst')) (fun p hp => by rw [List.mem_singleton.mp hp]; exact .head _) (fun p hp => .tail _ hp)
          (fun p hp i hi => by rw [List.mem_singleton.mp hi]; exact off4 p hp)
          ⟨⟨.tail _ (.tail _ (.tail _ (.tail _ (psub _ hcc)))), trivial⟩, (hJ _ _ _).mpr ⟨some (.str (blk b) tq), some (.str (nm k) tn), (some (.str _ t9)), vs' ++ [.ref t'], n' + 1, bo3, (tie c k bk'), (t', tupO [.str (blk b) tq, .str (nm k) tn] 0) :: ((D2, o2') :: (D1, o1') :: cst'), acc ++ [(b, k)], it2, rfl, rfl, List.forall_mem_cons.mpr ⟨Nat.ne_of_gt lrt, p1⟩, List.forall_mem_cons.mpr ⟨Nat.ne_of_gt lBt, p2⟩, List.forall_mem_cons.mpr ⟨Nat.ne_of_gt lct, p3⟩, off4, fun p hp => .tail _ (psub _ (hs p hp)), .tail _ (psub _ hcc), ?_, ?_, hloop, ?_, ?_, ?_, ?_, ?_, ?_, ?_⟩⟩
        · exact RowIs.snoc (p := (b, k)) (.head _) (RowIs.mono (fun p hp => .tail _ (psub _ hp)) RA)
        · exact RowIs.mono (fun p hp => .tail _ (psub _ hp)) RB
        · exact BookIs.mono (fun p hp => .tail _ hp) hbkn
        · simp only [List.length_append, List.length_cons, List.length_nil] at hlen ⊢; omega
        · exact fun p hp => hb' p (.tail _ hp)
        · exact (List.nodup_cons.mp hnd').2
        · exact fun hm => hcn' (.tail _ hm)
        · exact tie_fresh hck hnd' hcn' hfr'
        · exact tie_len hln'
    · rw [decide_eq_false hq]
      simp only [loopF, if_neg hq] at hloop
      repeat' walk1
      rename Fr _ _ _ _ => FP
      rename News _ _ _ _ => NP
      have p1 := o1
      have p2 := o2
      have p3 := o3
      have p4 := oIt
      have psub : ∀ p ∈ cst', p ∈ cst' := fun p hp => hp
      have hlv : vs'.length < 1000 := by simp only [List.length_cons] at hlen; omega
      k_dflt (refine' push_spec (rd := rd) BB FP X NP T rfl (.tail (Ne.symm oIr) (.head (List.forall_mem_cons.mpr ⟨Ne.symm rB, List.forall_mem_cons.mpr ⟨Ne.symm rc, p1⟩⟩))) (.tail _ (.tail _ (.tail _ (.tail _ (psub _ mrd'))))) hlv ?d4 ?u4 ?_)
      case d4 => ktr_room
      case u4 => ktr_room
      intro t' h20 tk20 F20 N20 lt20
      k_whole
      have N21 := N20
      have lIt := ltN (lt20 _ (.head _))
      have lrt := ltN (lt20 _ (.tail _ (.head _)))
      have lBt := ltN (lt20 _ (.tail _ (.tail _ (.head _))))
      have lct := ltN (lt20 _ (.tail _ (.tail _ (.tail _ (.head _)))))
      repeat' walk1
      have off4 := off_push oIr oIB oIc (Nat.ne_of_gt lIt) p4 (ro := rowO rd (vs' ++ [.ref t']) (n' + 1)) (bo := bo') (co := co) (to := tupO [.str (blk b) tb, .str (nm k) tn] 0)
      refine unrEndA (by assumption) (push_end N20) ((r, rowO rd (vs' ++ [.ref t']) (n' + 1)) :: (B, bo') :: (c1, co) :: (t', tupO [.str (blk b) tb, .str (nm k) tn] 0) :: cst') (fun p hp => by rw [List.mem_singleton.mp hp]; exact .head _) (fun p hp => .tail _ hp)
        (fun p hp i hi => by rw [List.mem_singleton.mp hi]; exact off4 p hp)
        ⟨⟨.tail _ (.tail _ (.tail _ (.tail _ (psub _ hcc)))), trivial⟩, (hJ _ _ _).mpr ⟨some (.str (blk b) tb), some (.str (nm k) tn), left, vs' ++ [.ref t'], n' + 1, bo', bk', (t', tupO [.str (blk b) tb, .str (nm k) tn] 0) :: cst', acc ++ [(b, k)], it2, rfl, rfl, List.forall_mem_cons.mpr ⟨Nat.ne_of_gt lrt, p1⟩, List.forall_mem_cons.mpr ⟨Nat.ne_of_gt lBt, p2⟩, List.forall_mem_cons.mpr ⟨Nat.ne_of_gt lct, p3⟩, off4, fun p hp => .tail _ (psub _ (hs p hp)), .tail _ (psub _ hcc), ?_, ?_, hloop, ?_, ?_, ?_, ?_, ?_, ?_, ?_⟩⟩
      · exact RowIs.snoc (p := (b, k)) (.head _) (RowIs.mono (fun p hp => .tail _ (psub _ hp)) RA)
      · exact RowIs.mono (fun p hp => .tail _ (psub _ hp)) RB
      · exact BookIs.mono (fun p hp => .tail _ hp) BK'
      · simp only [List.length_append, List.length_cons, List.length_nil] at hlen ⊢; omega
      · exact fun p hp => hb' p (.tail _ hp)
      · exact (List.nodup_cons.mp hnd').2
      · exact fun hm => hcn' (.tail _ hm)
      · exact fun p hp => hfr' p (.tail _ hp)
      · exact fun j => by have := hln' j; simp only [List.length_cons] at this; omega
  · rintro m2 nw h tk' hj F2 N3
    obtain ⟨lead, other, left, vs', n', bo', bk', cst', acc, it2, rfl, rfl, o1, o2, o3, oI, hs, hcc, RA, RB, hloop, BK', hlen, hb', hnd', hcn', hfr', hln'⟩ := (hJ _ _ _).mp hj
    cases it2 with
    | cons q it2 => exact RB.elim
    | nil => exact hret acc bk' lead other left vs' n' bo' cst' h tk' hloop F2 N3 o1 o2 o3 hs RA BK'
  · refine (hJ _ _ _).mpr ⟨lead, other, left, [], n1, bo, bk, _, [], items, rfl, rfl, ?_, ?_, ?_, ne_all_of_lt lI, fun p hp => .tail _ hp, .head _, trivial, RowIs.mono (fun p hp => .tail _ hp) R1, rfl, BookIs.mono (fun p hp => .tail _ hp) BK, by simp, hb, hnd, hcn, hfr, hln⟩
    · exact List.forall_mem_cons.mpr ⟨Nat.ne_of_gt lDr, offr⟩
    · exact List.forall_mem_cons.mpr ⟨Nat.ne_of_gt lDB, offB⟩
    · exact List.forall_mem_cons.mpr ⟨Nat.ne_of_gt lDc, offc⟩
end
end Mine
end
/-! part P1 -/
section
theorem Mine.rstP1 : True := by
  w_top off
  trivial
namespace Mine
theorem loopF_some {c : Nat} {tk : List Nat} : ∀ {it acc it' : List (Nat × Nat)} {bk bk' : Nat → List Nat}, loopF c tk it acc bk = some (it', bk') →
    it'.map (·.2) = acc.map (·.2) ++ it.map (·.2) ∧ (∀ M, (∀ p ∈ acc, p.1 < M) → (∀ p ∈ it, p.1 < M) → ∀ p ∈ it', p.1 < M) ∧ (∀ k, (bk' k).length ≤ (bk k).length + it.length) ∧
    (∀ j k, j ≠ c → k ≠ c → j ∉ bk k → j ∉ bk' k)
  | [], acc, it', bk, bk', h => by
    obtain ⟨rfl, rfl⟩ : acc = it' ∧ bk = bk' := by simpa [loopF] using h
    exact ⟨by simp, fun M ha _ => ha, fun k => by simp, fun j k _ _ h => h⟩
  | p :: r, acc, it', bk, bk', h => by
    unfold loopF at h
    by_cases hp : p.2 ∈ tk
    · rw [if_pos hp] at h
      by_cases h0 : p.1 = 0
      · rw [if_pos h0] at h; cases h
      · rw [if_neg h0] at h
        obtain ⟨a, b, d, e⟩ := loopF_some h
        refine ⟨by rw [a]; simp, fun M ha hi => b M (fun q hq => ?_) (fun q hq => hi q (.tail _ hq)), fun k => ?_, fun j k hj hk hn => e j k hj hk ?_⟩
        · rcases List.mem_append.mp hq with hq | hq
          · exact ha q hq
          · rw [List.mem_singleton.mp hq]
            have := hi p (.head _)
            show p.1 - 1 < M
            omega
        · have := d k
          have h2 : (tie c p.2 bk k).length ≤ (bk k).length + 1 := by
            unfold tie
            split
            · rename_i e; subst e; simp
            · split
              · rename_i e; subst e; simp
              · omega
          simp only [List.length_cons]
          omega
        · unfold tie
          split
          · rename_i e'; subst e'
            intro hm
            rcases List.mem_append.mp hm with hm | hm
            · exact hn hm
            · exact hj (List.mem_singleton.mp hm)
          · first | exact hn | (rw [if_neg hk]; exact hn)
    · rw [if_neg hp] at h
      obtain ⟨a, b, d, e⟩ := loopF_some h
      refine ⟨by rw [a]; simp, fun M ha hi => b M (fun q hq => ?_) (fun q hq => hi q (.tail _ hq)), fun k => ?_, e⟩
      · rcases List.mem_append.mp hq with hq | hq
        · exact ha q hq
        · rw [List.mem_singleton.mp hq]; exact hi p (.head _)
      · have := d k
        simp only [List.length_cons]
        omega
theorem nodup_erase {items : List (Nat × Nat)} {i : Nat} (hn : (items.map (·.2)).Nodup) {wc : Nat × Nat} (hi : items[i]? = some wc) : ((items.eraseIdx i).map (·.2)).Nodup ∧ wc.2 ∉ (items.eraseIdx i).map (·.2) := by
  induction items generalizing i with
  | nil => cases hi
  | cons p r ih =>
    rw [List.map_cons, List.nodup_cons] at hn
    cases i with
    | zero =>
      obtain rfl : p = wc := by simpa using hi
      exact ⟨hn.2, hn.1⟩
    | succ i =>
      have hi' : r[i]? = some wc := by simpa using hi
      obtain ⟨a, b⟩ := ih hn.2 hi'
      have hw : wc ∈ r := List.mem_of_getElem? hi'
      rw [List.eraseIdx_cons_succ, List.map_cons, List.nodup_cons]
      refine ⟨⟨fun hm => hn.1 ?_, a⟩, fun hm => ?_⟩
      · obtain ⟨q, hq, e⟩ := List.mem_map.mp hm
        exact List.mem_map.mpr ⟨q, List.mem_of_mem_eraseIdx hq, e⟩
      · rcases List.mem_cons.mp hm with e | hm
        · exact hn.1 (List.mem_map.mpr ⟨wc, hw, e⟩)
        · exact b hm
end Mine
end
/-! part R5 -/
section
theorem Mine.rstR5 : True := by
  w_top off
  trivial
open PySem PySem.Spec PySem.Calls PySem.W PyProof.Rows PyProof.V
set_option maxRecDepth 100000
set_option maxHeartbeats 4000000
namespace Mine
local macro_rules | `(tactic| k_mem) => `(tactic| assumption)
local macro_rules | `(tactic| k_all) => `(tactic| assumption)
local macro_rules | `(tactic| walk_at "getMethod ref") => `(tactic| (k_here; k_dflt (refine' method_fnG ?X ?I ?a canon_list_ga ?b ?c ?d ?e ?_; (case X => k_in); (case I => exact inst_row (by k_asm) (by k_mem) (by k_mem)); (case a => k_is); (case b => k_is); (case c => k_is); (case d => k_is); (case e => with_unfolding_all rfl); k_whole)))

def testOf : Stmt → Expr
  | .While e _ _ _ => e
  | _ => .Constant (.int 0) 0 default
noncomputable def whTest (p : Params) : { x : Expr // testOf (nth (bodyAt p 271) 4) = x } := by
  refine ⟨?a, ?b⟩
  rotate_left
  conv => lhs; whnf
noncomputable def whBody (p : Params) : { x : List Stmt // inner (nth (bodyAt p 271) 4) = x } := by
  refine ⟨?a, ?b⟩
  rotate_left
  conv => lhs; whnf
theorem mm_cbn {cut blanks name lead other wish ones taken left vc vb vn : Option Value} {m0 : Str → Option Value} :
    (fun y => if y = Str.ofString "name" then vn else if y = Str.ofString "blanks" then vb else if y = Str.ofString "cut" then vc else mm cut blanks name lead other wish ones taken left m0 y) = mm vc vb vn lead other wish ones taken left m0 := by
  funext y
  by_cases e1 : y = Str.ofString "name"
  · subst e1; with_unfolding_all rfl
  by_cases e2 : y = Str.ofString "blanks"
  · subst e2; with_unfolding_all rfl
  by_cases e3 : y = Str.ofString "cut"
  · subst e3; with_unfolding_all rfl
  simp only [mm, e1, e2, e3, if_false]
theorem mm_w {cut blanks name lead other wish ones taken left vw : Option Value} {m0 : Str → Option Value} :
    (fun y => if y = Str.ofString "wish" then vw else mm cut blanks name lead other wish ones taken left m0 y) = mm cut blanks name lead other vw ones taken left m0 := by
  funext y
  by_cases e1 : y = Str.ofString "wish"
  · subst e1; with_unfolding_all rfl
  simp only [mm, e1, if_false]
theorem mm_t {cut blanks name lead other wish ones taken left vt : Option Value} {m0 : Str → Option Value} :
    (fun y => if y = Str.ofString "taken" then vt else mm cut blanks name lead other wish ones taken left m0 y) = mm cut blanks name lead other wish ones vt left m0 := by
  funext y
  by_cases e1 : y = Str.ofString "taken"
  · subst e1; with_unfolding_all rfl
  simp only [mm, e1, if_false]
theorem ref_name {h₀ h : Heap} {L a : Addr} {o : Obj} {l : List (Addr × Obj)} {P : Prop} (_N : News h₀ L h ((a, o) :: l)) (k : ∀ b, b = a → P) : P := k a rfl
section
variable {w : World} {loose : List Str} {mean : ExcName → Option Value} {mg mb : Str → Option Value}
  {dp un : Nat} {gd : Option (List Code)} {outer : List Env} {A₀ : Around} {base h₀ : Heap} {L : Addr} {s : Shared} {Q : Flow → Shared → Prop} {E : Value → Shared → Prop} {mz : Str → Option Value}
  {r rd B c1 so dso sel p0 p1 ca : Addr} {bo co oa : Obj} {cst : List (Addr × Obj)} {side : Int} {place : Nat} {tp ts i0 i1 : Tok} {hk : Int} {nd n : Nat} {vs : List Value} {items : List (Nat × Nat)}
  {cut blanks name lead other wish ones taken left : Option Value}

variable {hk2 : Int} {i2 k1 k2 k3 k4 : Tok} {n2 n3 n4 n5 : Nat} {v0 : Option Value} {bk : Nat → List Nat} {cst0 : List (Addr × Obj)}
theorem while_rest
    (BB : Below A₀ base outer h₀) (X : (Mine.hd.heap_39 w.params).In h₀) (T : Top Mine.hd.view_39 loose mean mg mb h₀) (hE : PassesOwn (model Challenge.rw_xg0075_01.row.prog w) (ktrTop dp un gd (Str.ofString "_law_run") (sc271 w.params).1 L 271 (.ref 270) (cellsFrom (L + 1) (sc271 w.params).1.names []) outer) (envX (Str.ofString "_law_run") (sc271 w.params).1 L 271 (.ref 270) (cellsFrom (L + 1) (sc271 w.params).1.names [])) E)
    (hd : dp + 10 < recursionLimit) (hu : un + 128 < cLine) (rB : @Ne Nat r B) (rc : @Ne Nat r c1) (Bc : @Ne Nat B c1)
    (hca : (cellsFrom (L + 1) (sc271 w.params).1.names []).lookup (Str.ofString "ahead") = some ca) (hc1 : (cellsFrom (L + 1) (sc271 w.params).1.names []).lookup (Str.ofString "one") = some c1) (da : oa.data = .cell (some (.ref so)))
    (mrd : (rd, dictOf [⟨hk, .str (Str.ofString "_initial_size") i0, .int 0 i1⟩] nd) ∈ cst0) (ma : (ca, oa) ∈ cst0)
    (ms0 : (so, instObj 45 dso) ∈ cst0) (ms1 : (dso, dictOf [⟨hk2, .str (Str.ofString "comp_select_list") i2, .ref sel⟩] n2) ∈ cst0)
    (ms2 : (sel, tupO [.ref p0, .ref p1] n3) ∈ cst0) (ms3 : (p0, tupO [.int 0 k1, .int (-side) k2] n4) ∈ cst0) (ms4 : (p1, tupO [.int 1 k3, .int side k4] n5) ∈ cst0)
    (hsl : -1 ≤ side) (hsu : side ≤ 1) :
    ∀ (N0 : Nat) (items : List (Nat × Nat)) (cut blanks name lead other wish ones taken left : Option Value) (vs : List Value) (n : Nat) (bo co : Obj) (v0 : Option Value) (cst : List (Addr × Obj)) (bk : Nat → List Nat) (s : Shared),
    items.length = N0 → Fr h₀ L s.heap (mm cut blanks name lead other wish ones taken left (mfix (.ref r) (.ref B) (.int place tp) (.int side ts) mz)) → News h₀ L s.heap ((r, rowO rd vs n) :: (B, bo) :: (c1, co) :: cst) → (∀ p ∈ cst, p.1 ≠ r) → (∀ p ∈ cst, p.1 ≠ B) → (∀ p ∈ cst, p.1 ≠ c1) → co.data = .cell v0 → (∀ p ∈ cst0, p ∈ cst) →
    RowIs cst vs items → BookIs w cst bo bk → (items.map (·.2)).Nodup → (∀ p ∈ items, p.1 < 90 ∧ p.2 < 5) → (∀ j ∈ items.map (·.2), ∀ k ∈ items.map (·.2), j ∉ bk k) → (∀ k, (bk k).length + 6 * items.length < 40) →
    (runF side place N0 items bk = none → ∀ (q t d : Addr) (vx : List Value) (all : List (Addr × Obj)) (m' : Str → Option Value) (h' : Heap) (tk' : Nat), Fr h₀ L h' m' → News h₀ L h' all → (q, excO 192 t (some d)) ∈ all → (t, tupO vx 0) ∈ all → @Ne Nat t q → (∀ p ∈ cst0, p ∈ all ∧ p.1 ≠ q ∧ p.1 ≠ t) → E (.ref q) { s with heap := h', toks := tk' }) →
    (∀ (bk' : Nat → List Nat) (m' : Str → Option Value) (vs' : List Value) (n' : Nat) (bo' co' : Obj) (cst' : List (Addr × Obj)) (h' : Heap) (tk' : Nat), runF side place N0 items bk = some bk' → m' (Str.ofString "book") = some (.ref B) → Fr h₀ L h' m' → News h₀ L h' ((r, rowO rd vs' n') :: (B, bo') :: (c1, co') :: cst') → (∀ p ∈ cst0, p ∈ cst') → BookIs w cst' bo' bk' → Q .next { s with heap := h', toks := tk' }) →
    WhlRest Challenge.rw_xg0075_01.row.prog w (ktrTop dp un gd (Str.ofString "_law_run") (sc271 w.params).1 L 271 (.ref 270) (cellsFrom (L + 1) (sc271 w.params).1.names []) outer) E (envX (Str.ofString "_law_run") (sc271 w.params).1 L 271 (.ref 270) (cellsFrom (L + 1) (sc271 w.params).1.names [])) (whTest w.params).1 (whBody w.params).1 [] Q 0 s := by
  dsimp only [whTest, whBody]
  intro N0
  induction N0 with
  | zero =>
    intro items cut blanks name lead other wish ones taken left vs n bo co v0 cst bk s hlen F N offr offB offc dc hs R1 BK hnd hb hfr hln hraise hret
    have hi : items = [] := List.eq_nil_of_length_eq_zero hlen
    subst hi
    have hv : vs = [] := by cases vs with | nil => rfl | cons => exact R1.elim
    subst hv
    have mrd' := hs _ mrd
    refine whl_turn (k := 0) hE ?_
    dsimp only [sc271]
    repeat' walk1
    k_dflt (refine' part_count_spec BB F X N T rfl (.head _) (.tail _ (.tail _ (.tail _ mrd'))) (by decide) ?d ?u ?_)
    case d => ktr_room
    case u => ktr_room
    intro t1 h1 tk1 F1 N1
    k_whole
    clear F N
    repeat' walk1
    exact hret bk _ _ _ _ _ _ h1 _ rfl (by rfl) F1 N1 hs BK
  | succ N0 ih =>
    intro items cut blanks name lead other wish ones taken left vs n bo co v0 cst bk s hlen F N offr offB offc dc hs R1 BK hnd hb hfr hln hraise hret
    have hl := R1.length
    have mrd' := hs _ mrd
    have hl5 : items.length < 8 := by have := hln 0; omega
    have h40 : vs.length < 1000 := by omega
    refine whl_turn (k := 0) hE ?_
    dsimp only [sc271]
    repeat' walk1
    k_dflt (refine' part_count_spec BB F X N T rfl (.head _) (.tail _ (.tail _ (.tail _ mrd'))) h40 ?d ?u ?_)
    case d => ktr_room
    case u => ktr_room
    intro t1 h1 tk1 F1 N1
    k_whole
    clear F N
    have hpos : (0 : Int) < (vs.length : Int) := by omega
    repeat' walk1
    refine WhlIf.yes (decide_eq_true hpos) ?_
    repeat' walk1
    k_dflt (refine' part_count_spec BB F1 X N1 T rfl (.head _) (.tail _ (.tail _ (.tail _ mrd'))) h40 ?d ?u ?_)
    case d => ktr_room
    case u => ktr_room
    intro t2 h2 tk2 F2 N2
    k_whole
    clear F1 N1
    repeat' walk1
    have hip : place % items.length < items.length := Nat.mod_lt _ (by omega)
    have hfm : (place : Int).fmod (vs.length : Int) = ((place % items.length : Nat) : Int) := by
      rw [hl, Int.fmod_eq_emod_of_nonneg _ (by omega)]
      exact (Int.natCast_emod place items.length).symm
    rw [hfm]
    have hget : items[place % items.length]? = some items[place % items.length] := List.getElem?_eq_getElem hip
    have herase : items.eraseIdx (place % items.length) = items.take (place % items.length) ++ items.drop (place % items.length + 1) := List.eraseIdx_eq_take_drop_succ ..
    have hdrop : items.drop (place % items.length) = items[place % items.length] :: items.drop (place % items.length + 1) := List.drop_eq_getElem_cons hip
    have hrun : runF side place (N0 + 1) items bk = match turnF side place items bk with
      | none => none
      | some r => runF side place N0 r.1 r.2 := rfl
    have hturn : turnF side place items bk = if (items.eraseIdx (place % items.length)).length < items[place % items.length].1 then none else loopF items[place % items.length].2 (Mine.taken side items[place % items.length].1 (items.eraseIdx (place % items.length))) (items.eraseIdx (place % items.length)) [] bk := by
      unfold turnF
      rw [hget]
    have hmem : items[place % items.length] ∈ items := List.getElem_mem hip
    generalize hwc : items[place % items.length] = wc at *
    generalize hi : place % items.length = i at *
    obtain ⟨wb, c⟩ := wc
    have hiv : i ≤ vs.length := by omega
    k_dflt (refine' pop_from_spec BB F2 X N2 T rfl (.head (List.forall_mem_cons.mpr ⟨Ne.symm rB, List.forall_mem_cons.mpr ⟨Ne.symm rc, offr⟩⟩)) (.tail _ (.tail _ (.tail _ mrd'))) h40 hiv ?d ?u ?_)
    case d => ktr_room
    case u => ktr_room
    intro cc h3 tk3 n3' F3 N3 lcc
    k_whole
    clear F2 N2
    have RD := RowIs.drop i R1
    rw [hdrop] at RD
    cases hvd : vs.drop i with
    | nil => rw [hvd] at RD; exact RD.elim
    | cons vc vs2 =>
    rw [hvd] at RD N3
    obtain ⟨⟨tc, tbc, tnc, rfl, mtc⟩, RD⟩ := RD
    dsimp only at mtc
    have N4 : News h₀ L h3 ((r, rowO rd (vs.take i) n3') :: (B, bo) :: (c1, co) :: (cc, lstO (.ref tc :: vs2) 0) :: cst) := cb_drop N3 (sub_cons (.tail _ (.head _)) (sub_cons (.tail _ (.tail _ (.head _))) (sub_cons (.tail _ (.tail _ (.tail _ (.head _)))) (sub_cons (.head _) fun p hp => .tail _ (.tail _ (.tail _ (.tail _ hp)))))))
    have lcr := ltN (lcc _ (.head _))
    have lcB := ltN (lcc _ (.tail _ (.head _)))
    have lcc1 := ltN (lcc _ (.tail _ (.tail _ (.head _))))
    clear N3
    iterate 17 walk1
    rename Fr _ _ _ _ => F5
    rename News _ _ _ _ => N5
    have FP := Eq.mp (congrArg (Fr h₀ L _) (show _ = (mm (some (.ref cc)) (some (.str (blk wb) tbc)) (some (.str (nm c) tnc)) lead other wish ones taken left (mfix (.ref r) (.ref B) (.int place tp) (.int side ts) mz) : Str → Option Value) from mm_cbn)) F5
    clear F5
    have offr1 : ∀ p ∈ (cc, lstO (.ref tc :: vs2) 0) :: cst, p.1 ≠ r := List.forall_mem_cons.mpr ⟨Nat.ne_of_gt lcr, offr⟩
    have offB1 : ∀ p ∈ (cc, lstO (.ref tc :: vs2) 0) :: cst, p.1 ≠ B := List.forall_mem_cons.mpr ⟨Nat.ne_of_gt lcB, offB⟩
    have offc1 : ∀ p ∈ (cc, lstO (.ref tc :: vs2) 0) :: cst, p.1 ≠ c1 := List.forall_mem_cons.mpr ⟨Nat.ne_of_gt lcc1, offc⟩
    have RT := RowIs.take i R1
    have hlv : (vs.take i).length + vs2.length < 50 := by
      have e1 := congrArg List.length hvd
      rw [List.length_drop, List.length_cons] at e1
      rw [List.length_take]
      omega
    k_dflt (refine seg1 FP BB X T hE N5 rB rc Bc offr1 offB1 offc1 (.tail _ mrd') hd hu (.head _) (RowIs.mono (fun p hp => .tail _ hp) RT) (RowIs.mono (fun p hp => .tail _ hp) RD) hlv ?_)
    clear FP N5
    intro lead other vs5 n5' cst5 h5 tk5 F6 N6 offr5 offB5 offc5 hs5 R5
    k_whole
    have hs5' : ∀ p ∈ cst, p ∈ cst5 := fun p hp => hs5 p (.tail _ hp)
    rw [← herase] at R5
    repeat' walk1
    have hwb := (hb _ hmem).1
    dsimp only at hwb
    k_dflt (refine' ws_spec BB F6 X N6 T rfl (by omega) ?d ?u ?_)
    case d => ktr_room
    case u => ktr_room
    intro qq dq es n6 t6 h6 tk6 F7 N7 hg l1 l2
    k_whole
    k_dflt (refine' get_own ?k1 ?k2 ?k3 ?k4 ?k5 ?k6 ?k7 ?k8 ?k9 ?_)
    case k1 => k_asm
    case k2 => k_asm
    case k3 => k_inst
    case k4 => k_is
    case k5 => k_is
    case k6 => k_is
    case k7 => k_is
    case k8 => with_unfolding_all exact hg
    case k9 => k_handed
    k_whole
    clear F6 N6
    iterate 3 walk1
    rename Fr _ _ _ _ => F8
    rename News _ _ _ _ => N8
    have FP2 := Eq.mp (congrArg (Fr h₀ L _) (show _ = (mm (some (.ref cc)) (some (.str (blk wb) tbc)) (some (.str (nm c) tnc)) lead other (some (.int (wb : Nat) t6)) ones taken left (mfix (.ref r) (.ref B) (.int place tp) (.int side ts) mz) : Str → Option Value) from mm_w)) F8
    have NP2 := cb_drop N8 (fun p hp => .tail _ (.tail _ hp))
    clear F8 N8
    have hel : (items.eraseIdx i).length = N0 := by rw [List.length_eraseIdx_of_lt hip]; omega
    have hsub : ∀ p ∈ items.eraseIdx i, p ∈ items := fun p hp => List.mem_of_mem_eraseIdx hp
    k_dflt (refine seg2 FP2 BB X T hE NP2 rB rc Bc offr5 offB5 offc5 (hs5' _ mrd') hd hu R5 (by omega) (fun p hp => Nat.lt_trans (hb p (hsub p hp)).1 (by decide)) ?_)
    clear FP2 NP2
    intro D ys cst6 h8 tk8 F9 N9 offr6 offB6 offc6 hs6 mD RO
    k_whole
    have hly := RO.length
    have hs6' : ∀ p ∈ cst, p ∈ cst6 := fun p hp => hs6 p (hs5' p hp)
    repeat' walk1
    k_dflt (refine Calls.call_len_list (items := ys.toArray) ⟨_, (N9 _ (.tail _ (.tail _ (.tail _ mD)))).1, rfl, _, rfl⟩ (by rw [List.size_toArray]; omega) ?_)
    rw [show ((ys.toArray.size : Nat) : Int) = ((items.eraseIdx i).length : Int) by rw [List.size_toArray, hly]]
    iterate 3 walk1
    · rename (_ < _) => hgt
      have hgt' : (items.eraseIdx i).length < wb := by omega
      have hnone : runF side place (N0 + 1) items bk = none := by rw [hrun, hturn, if_pos hgt']
      walk1
      k_dflt (refine' raise_nag (C := 192) ?hh ?_)
      case hh => with_unfolding_all rfl
      k_whole
      repeat' walk1
      k_dflt (refine Calls.call_len_list (items := ys.toArray) ⟨_, (N9 _ (.tail _ (.tail _ (.tail _ mD)))).1, rfl, _, rfl⟩ (by rw [List.size_toArray]; omega) ?_)
      repeat' walk1
      k_dflt (refine' nag_spec BB F9 X N9 T rfl ?d1 ?u1 ?_)
      case d1 => ktr_room
      case u1 => ktr_room
      intro q6 t6' d6 od6 h9 tk9 F10 N10 l6 l7 l8
      k_whole
      have X6 := X.keeps F10.keep
      refine ⟨q6, t6', some d6, rfl, (N10 _ (.tail _ (.head _))).1, makesE_of X6 (kis_makesE w), looks_mroIn X6 ?b6, looks_mroIn X6 ?n6, looks_typeIn X6 ?y6, hraise hnone q6 t6' d6 _ _ _ _ _ F10 N10 (.tail _ (.head _)) (.tail _ (.tail _ (.head _))) (Nat.ne_of_lt l7) fun p hp => ?_⟩
      case b6 => k_is
      case n6 => k_is
      case y6 => k_is
      have hp' := hs6' p (hs p hp)
      have lp := l6 p (.tail _ (.tail _ (.tail _ hp')))
      exact ⟨.tail _ (.tail _ (.tail _ (.tail _ (.tail _ (.tail _ hp'))))), Nat.ne_of_lt (Nat.lt_trans lp l7), Nat.ne_of_lt lp⟩
    · rename (¬ _ < _) => hgt
      have hgt' : ¬ (items.eraseIdx i).length < wb := by omega
      rw [if_neg hgt'] at hturn
      k_whole
      iterate 9 walk1
      rename Fr _ _ _ _ => F10
      rename News _ _ _ _ => N10
      rename (_ ∧ _ ∧ _ ∧ AllLt _ _) => ll
      refine ref_name N10 fun tl htl => ?_
      subst htl
      obtain ⟨llr, llB, llc, llt⟩ := ll
      have llt' := allLt_all llt
      have FP3 := Eq.mp (congrArg (Fr h₀ L _) (show _ = (mm (some (.ref cc)) (some (.str (blk wb) tbc)) (some (.str (nm c) tnc)) lead other (some (.int (wb : Nat) t6)) (some (.ref D)) (some (.ref _)) left (mfix (.ref r) (.ref B) (.int place tp) (.int side ts) mz) : Str → Option Value) from mm_t)) F10
      clear F10
      rw [show W.listOf #[] 0 = lstO [] 0 from rfl] at N10
      k_dflt (refine seg3 (nt := 0) (D := D) (ys := ys) (wn := wb) (tw := t6) FP3 BB X T hE N10 rB rc Bc offr6 offB6 offc6 (hs6' _ mrd') hd hu (Nat.ne_of_gt llr) (Nat.ne_of_gt llB) (Nat.ne_of_gt llc) (ne_all_of_lt llt') dc (hs6' _ (hs _ ma)) da hca hc1 (hs6' _ (hs _ ms0)) (hs6' _ (hs _ ms1)) (hs6' _ (hs _ ms2)) (hs6' _ (hs _ ms3)) (hs6' _ (hs _ ms4)) mD RO (by omega) hsl hsu (by omega) ?_)
      clear FP3 N10
      intro tvs nt7 co7 v7 cst7 h10 tk10 F11 N11 dc7 offr7 offB7 offc7 offt7 hs7 RS
      k_whole
      have N12 := cb_drop N11 (sub_cons (.tail _ (.head _)) (sub_cons (.tail _ (.tail _ (.head _))) (sub_cons (.tail _ (.tail _ (.tail _ (.head _)))) (sub_cons (.head _) (fun p hp => .tail _ (.tail _ (.tail _ (.tail _ hp))))))))
      clear N11
      have hs8 : ∀ p ∈ cst, p ∈ (tl, lstO tvs nt7) :: cst7 := fun p hp => .tail _ (hs7 p (hs6' p hp))
      walk1
      have hnde := nodup_erase hnd hget
      dsimp only at hnde
      have hc5 := (hb _ hmem).2
      dsimp only at hc5
      have hcm : c ∈ items.map (·.2) := List.mem_map.mpr ⟨_, hmem, rfl⟩
      have hsm : ∀ p ∈ items.eraseIdx i, p.2 ∈ items.map (·.2) := fun p hp => List.mem_map.mpr ⟨p, hsub p hp, rfl⟩
      have hs68 : ∀ p ∈ cst6, p ∈ (tl, lstO tvs nt7) :: cst7 := fun p hp => .tail _ (hs7 p hp)
      have hs58 : ∀ p ∈ cst5, p ∈ (tl, lstO tvs nt7) :: cst7 := fun p hp => hs68 p (hs6 p hp)
      have llr' := ltN llr
      have llB' := ltN llB
      have llc' := ltN llc
      rename Fr _ _ _ _ => F12
      k_dflt (refine seg4 (tks := Mine.taken side wb (items.eraseIdx i)) F12 BB X T hE N12 rB rc Bc (List.forall_mem_cons.mpr ⟨Nat.ne_of_gt llr', offr7⟩) (List.forall_mem_cons.mpr ⟨Nat.ne_of_gt llB', offB7⟩) (List.forall_mem_cons.mpr ⟨Nat.ne_of_gt llc', offc7⟩) (hs8 _ mrd') hd hu (hs68 _ mD) (by omega) (.head _) RS (RowIs.mono hs58 R5) (by omega) (fun p hp => hb p (hsub p hp)) hc5 hnde.1 hnde.2 (BookIs.mono hs8 BK) (fun p hp => ⟨hfr _ (hsm p hp) _ hcm, hfr _ hcm _ (hsm p hp)⟩) (fun k => by have := hln k; omega) ?hra ?_)
      case hra =>
        intro hnone q6 t6' d6 vx all m' h' tk' Fa Na a1 a2 a3 a4
        exact hraise (by rw [hrun, hturn, hnone]) q6 t6' d6 vx all m' h' tk' Fa Na a1 a2 a3 (fun p hp => a4 p (hs8 p (hs p hp)))
      intro it9 bk9 lead9 other9 left9 vs9 n9 bo9 cst9 h12 tk12 hloop F13 N13 offr9 offB9 offc9 hs9 R9 BK9
      k_whole
      clear F12 N12
      iterate 2 walk1
      obtain ⟨hA, hB9, hC9, hD9⟩ := loopF_some hloop
      rw [List.map_nil, List.nil_append] at hA
      have hnm : ∀ j ∈ it9.map (·.2), j ∈ items.map (·.2) ∧ j ≠ c := fun j hj => by
        rw [hA] at hj
        refine ⟨?_, fun e => hnde.2 (e ▸ hj)⟩
        obtain ⟨p, hp, rfl⟩ := List.mem_map.mp hj
        exact hsm p hp
      have hl9 : it9.length = N0 := by
        have e1 := congrArg List.length hA
        rw [List.length_map, List.length_map] at e1
        omega
      have hsome : runF side place (N0 + 1) items bk = runF side place N0 it9 bk9 := by rw [hrun, hturn, hloop]
      k_dflt (refine ih it9 _ _ _ _ _ _ _ _ _ vs9 n9 bo9 co7 v7 cst9 bk9 _ hl9 F13 N13 offr9 offB9 offc9 dc7 (fun p hp => hs9 p (hs8 p (hs p hp))) R9 BK9 (by rw [hA]; exact hnde.1) ?ib ?ifr ?iln ?ihr ?iht)
      case ib =>
        intro p hp
        refine ⟨hB9 90 (fun _ h => nomatch h) (fun q hq => (hb q (hsub q hq)).1) p hp, ?_⟩
        obtain ⟨q, hq, e⟩ := List.mem_map.mp (hnm p.2 (List.mem_map.mpr ⟨p, hp, rfl⟩)).1
        rw [← e]
        exact (hb q hq).2
      case ifr => exact fun j hj k hk => hD9 j k (hnm j hj).2 (hnm k hk).2 (hfr j (hnm j hj).1 k (hnm k hk).1)
      case iln =>
        intro k
        have h1 := hC9 k
        have h2 := hln k
        rw [hel] at h1
        rw [hlen] at h2
        rw [hl9]
        omega
      case ihr => exact fun hn => hraise (hsome.trans hn)
      case iht => exact fun bk' m' vs' n' bo' co' cst' h' tk' hn => hret bk' m' vs' n' bo' co' cst' h' tk' (hsome.trans hn)
end
end Mine
end
/-! part R5b -/
section
theorem Mine.rstR5b : True := by
  w_top off
  trivial
open PySem PySem.Spec PySem.Calls PySem.W PyProof.Rows PyProof.V
set_option maxRecDepth 100000
set_option maxHeartbeats 4000000
namespace Mine
section
variable {w : World} {loose : List Str} {mean : ExcName → Option Value} {mg mb : Str → Option Value}
  {dp un : Nat} {gd : Option (List Code)} {outer : List Env} {A₀ : Around} {base h₀ : Heap} {L : Addr} {s : Shared} {Q : Flow → Shared → Prop} {E : Value → Shared → Prop} {mz : Str → Option Value}
  {r rd B c1 so dso sel p0 p1 ca : Addr} {bo co oa : Obj} {cst : List (Addr × Obj)} {side : Int} {place : Nat} {tp ts i0 i1 : Tok} {hk : Int} {nd n : Nat} {vs : List Value} {items : List (Nat × Nat)}
  

variable {hk2 : Int} {i2 k1 k2 k3 k4 : Tok} {n2 n3 n4 n5 : Nat} {v0 : Option Value} {rest : List (Addr × Obj)} {d0 d1 d2 d3 d4 t0 t1 t2 t3 t4 : Addr} {o0 o1 o2 o3 o4 : Obj} {b0 b1 b2 b3 b4 : Nat} {u0 u1 u2 u3 u4 v0' v1 v2 v3 v4 : Tok} {x0 x1 x2 x3 x4 : Str} {kvs : List (Str × Value)} {m : Str → Option Value}
theorem while_from
    (BB : Below A₀ base outer h₀) (X : (Mine.hd.heap_39 w.params).In h₀) (T : Top Mine.hd.view_39 loose mean mg mb h₀) (hE : PassesOwn (model Challenge.rw_xg0075_01.row.prog w) (ktrTop dp un gd (Str.ofString "_law_run") (sc271 w.params).1 L 271 (.ref 270) (cellsFrom (L + 1) (sc271 w.params).1.names []) outer) (envX (Str.ofString "_law_run") (sc271 w.params).1 L 271 (.ref 270) (cellsFrom (L + 1) (sc271 w.params).1.names [])) E)
    (hd : dp + 10 < recursionLimit) (hu : un + 128 < cLine) (rB : @Ne Nat r B) (rc : @Ne Nat r c1) (Bc : @Ne Nat B c1)
    (hca : (cellsFrom (L + 1) (sc271 w.params).1.names []).lookup (Str.ofString "ahead") = some ca) (hc1 : (cellsFrom (L + 1) (sc271 w.params).1.names []).lookup (Str.ofString "one") = some c1) (da : oa.data = .cell (some (.ref so))) (dc : co.data = .cell v0)
    (hsl : -1 ≤ side) (hsu : side ≤ 1) (F : Fr h₀ L s.heap m) (hm1 : m (Str.ofString "row") = some (.ref r)) (hm2 : m (Str.ofString "book") = some (.ref B)) (hm3 : m (Str.ofString "place") = some (.int place tp)) (hm4 : m (Str.ofString "side") = some (.int side ts))
    (N : News h₀ L s.heap ((d4, o4) :: (d3, o3) :: (d2, o2) :: (d1, o1) :: (d0, o0) :: (B, bo) :: (so, instObj 45 dso) :: (dso, dictOf [⟨hk2, .str (Str.ofString "comp_select_list") i2, .ref sel⟩] n2) :: (sel, tupO [.ref p0, .ref p1] n3) :: (p1, tupO [.int 1 k3, .int side k4] n5) :: (p0, tupO [.int 0 k1, .int (-side) k2] n4) :: (t4, tupO [.str (blk b4) u4, .str x4 v4] 0) :: (t3, tupO [.str (blk b3) u3, .str x3 v3] 0) :: (t2, tupO [.str (blk b2) u2, .str x2 v2] 0) :: (t1, tupO [.str (blk b1) u1, .str x1 v1] 0) :: (t0, tupO [.str (blk b0) u0, .str x0 v0'] 0) :: (r, rowO rd [.ref t0, .ref t1, .ref t2, .ref t3, .ref t4] n) :: (rd, dictOf [⟨hk, .str (Str.ofString "_initial_size") i0, .int 0 i1⟩] nd) :: (c1, co) :: (ca, oa) :: rest))
    (offr : ∀ p ∈ (d4, o4) :: (d3, o3) :: (d2, o2) :: (d1, o1) :: (d0, o0) :: (so, instObj 45 dso) :: (dso, dictOf [⟨hk2, .str (Str.ofString "comp_select_list") i2, .ref sel⟩] n2) :: (sel, tupO [.ref p0, .ref p1] n3) :: (p1, tupO [.int 1 k3, .int side k4] n5) :: (p0, tupO [.int 0 k1, .int (-side) k2] n4) :: (t4, tupO [.str (blk b4) u4, .str x4 v4] 0) :: (t3, tupO [.str (blk b3) u3, .str x3 v3] 0) :: (t2, tupO [.str (blk b2) u2, .str x2 v2] 0) :: (t1, tupO [.str (blk b1) u1, .str x1 v1] 0) :: (t0, tupO [.str (blk b0) u0, .str x0 v0'] 0) :: (rd, dictOf [⟨hk, .str (Str.ofString "_initial_size") i0, .int 0 i1⟩] nd) :: (ca, oa) :: rest, p.1 ≠ r) (offB : ∀ p ∈ (d4, o4) :: (d3, o3) :: (d2, o2) :: (d1, o1) :: (d0, o0) :: (so, instObj 45 dso) :: (dso, dictOf [⟨hk2, .str (Str.ofString "comp_select_list") i2, .ref sel⟩] n2) :: (sel, tupO [.ref p0, .ref p1] n3) :: (p1, tupO [.int 1 k3, .int side k4] n5) :: (p0, tupO [.int 0 k1, .int (-side) k2] n4) :: (t4, tupO [.str (blk b4) u4, .str x4 v4] 0) :: (t3, tupO [.str (blk b3) u3, .str x3 v3] 0) :: (t2, tupO [.str (blk b2) u2, .str x2 v2] 0) :: (t1, tupO [.str (blk b1) u1, .str x1 v1] 0) :: (t0, tupO [.str (blk b0) u0, .str x0 v0'] 0) :: (rd, dictOf [⟨hk, .str (Str.ofString "_initial_size") i0, .int 0 i1⟩] nd) :: (ca, oa) :: rest, p.1 ≠ B) (offc : ∀ p ∈ (d4, o4) :: (d3, o3) :: (d2, o2) :: (d1, o1) :: (d0, o0) :: (so, instObj 45 dso) :: (dso, dictOf [⟨hk2, .str (Str.ofString "comp_select_list") i2, .ref sel⟩] n2) :: (sel, tupO [.ref p0, .ref p1] n3) :: (p1, tupO [.int 1 k3, .int side k4] n5) :: (p0, tupO [.int 0 k1, .int (-side) k2] n4) :: (t4, tupO [.str (blk b4) u4, .str x4 v4] 0) :: (t3, tupO [.str (blk b3) u3, .str x3 v3] 0) :: (t2, tupO [.str (blk b2) u2, .str x2 v2] 0) :: (t1, tupO [.str (blk b1) u1, .str x1 v1] 0) :: (t0, tupO [.str (blk b0) u0, .str x0 v0'] 0) :: (rd, dictOf [⟨hk, .str (Str.ofString "_initial_size") i0, .int 0 i1⟩] nd) :: (ca, oa) :: rest, p.1 ≠ c1)
    (hx0 : x0 = nm 0) (hx1 : x1 = nm 1) (hx2 : x2 = nm 2) (hx3 : x3 = nm 3) (hx4 : x4 = nm 4)
    (hb0 : b0 < 90) (hb1 : b1 < 90) (hb2 : b2 < 90) (hb3 : b3 < 90) (hb4 : b4 < 90)
    (hbo : bo.IsDictOf (PySem.strKind Challenge.rw_xg0075_01.row.prog w) kvs) (hk5 : kvs = [(nm 0, .ref d0), (nm 1, .ref d1), (nm 2, .ref d2), (nm 3, .ref d3), (nm 4, .ref d4)])
    (e0 : o0.IsDictOf (PySem.strKind Challenge.rw_xg0075_01.row.prog w) []) (e1 : o1.IsDictOf (PySem.strKind Challenge.rw_xg0075_01.row.prog w) []) (e2 : o2.IsDictOf (PySem.strKind Challenge.rw_xg0075_01.row.prog w) []) (e3 : o3.IsDictOf (PySem.strKind Challenge.rw_xg0075_01.row.prog w) []) (e4 : o4.IsDictOf (PySem.strKind Challenge.rw_xg0075_01.row.prog w) [])
    (l0 : (d0 == sysModules) = false) (l1 : (d1 == sysModules) = false) (l2 : (d2 == sysModules) = false) (l3 : (d3 == sysModules) = false) (l4 : (d4 == sysModules) = false)
    (hraise : runF side place 5 [(b0, 0), (b1, 1), (b2, 2), (b3, 3), (b4, 4)] (fun _ => []) = none → ∀ (q t d : Addr) (vx : List Value) (all : List (Addr × Obj)) (m' : Str → Option Value) (h' : Heap) (tk' : Nat), Fr h₀ L h' m' → News h₀ L h' all → (q, excO 192 t (some d)) ∈ all → (t, tupO vx 0) ∈ all → @Ne Nat t q → (∀ p ∈ rest, p ∈ all ∧ p.1 ≠ q ∧ p.1 ≠ t) → E (.ref q) { s with heap := h', toks := tk' })
    (hret : ∀ (bk' : Nat → List Nat) (m' : Str → Option Value) (vs' : List Value) (n' : Nat) (bo' co' : Obj) (cst' : List (Addr × Obj)) (h' : Heap) (tk' : Nat), runF side place 5 [(b0, 0), (b1, 1), (b2, 2), (b3, 3), (b4, 4)] (fun _ => []) = some bk' → m' (Str.ofString "book") = some (.ref B) → Fr h₀ L h' m' → News h₀ L h' ((r, rowO rd vs' n') :: (B, bo') :: (c1, co') :: cst') → (∀ p ∈ rest, p ∈ cst') → BookIs w cst' bo' bk' → Q .next { s with heap := h', toks := tk' }) :
    wpAny (model Challenge.rw_xg0075_01.row.prog w) (ktrTop dp un gd (Str.ofString "_law_run") (sc271 w.params).1 L 271 (.ref 270) (cellsFrom (L + 1) (sc271 w.params).1.names []) outer) (exec (stWhile w.params).1 (envX (Str.ofString "_law_run") (sc271 w.params).1 L 271 (.ref 270) (cellsFrom (L + 1) (sc271 w.params).1.names []))) Q E s := by
  have hmm : m = mm (m (Str.ofString "cut")) (m (Str.ofString "blanks")) (m (Str.ofString "name")) (m (Str.ofString "lead")) (m (Str.ofString "other")) (m (Str.ofString "wish")) (m (Str.ofString "ones")) (m (Str.ofString "taken")) (m (Str.ofString "left")) (mfix (.ref r) (.ref B) (.int place tp) (.int side ts) m) := by
    funext y
    by_cases e0 : y = Str.ofString "cut"
    · subst e0; with_unfolding_all rfl
    by_cases e1 : y = Str.ofString "blanks"
    · subst e1; with_unfolding_all rfl
    by_cases e2 : y = Str.ofString "name"
    · subst e2; with_unfolding_all rfl
    by_cases e3 : y = Str.ofString "lead"
    · subst e3; with_unfolding_all rfl
    by_cases e4 : y = Str.ofString "other"
    · subst e4; with_unfolding_all rfl
    by_cases e5 : y = Str.ofString "wish"
    · subst e5; with_unfolding_all rfl
    by_cases e6 : y = Str.ofString "ones"
    · subst e6; with_unfolding_all rfl
    by_cases e7 : y = Str.ofString "taken"
    · subst e7; with_unfolding_all rfl
    by_cases e8 : y = Str.ofString "left"
    · subst e8; with_unfolding_all rfl
    by_cases e9 : y = Str.ofString "row"
    · subst e9; exact hm1
    by_cases e10 : y = Str.ofString "book"
    · subst e10; exact hm2
    by_cases e11 : y = Str.ofString "place"
    · subst e11; exact hm3
    by_cases e12 : y = Str.ofString "side"
    · subst e12; exact hm4
    simp only [mm, mfix, e0, e1, e2, e3, e4, e5, e6, e7, e8, e9, e10, e11, e12, if_false]
  rw [hmm] at F
  have N3 : News h₀ L s.heap ((r, rowO rd [.ref t0, .ref t1, .ref t2, .ref t3, .ref t4] n) :: (B, bo) :: (c1, co) :: (d4, o4) :: (d3, o3) :: (d2, o2) :: (d1, o1) :: (d0, o0) :: (so, instObj 45 dso) :: (dso, dictOf [⟨hk2, .str (Str.ofString "comp_select_list") i2, .ref sel⟩] n2) :: (sel, tupO [.ref p0, .ref p1] n3) :: (p1, tupO [.int 1 k3, .int side k4] n5) :: (p0, tupO [.int 0 k1, .int (-side) k2] n4) :: (t4, tupO [.str (blk b4) u4, .str x4 v4] 0) :: (t3, tupO [.str (blk b3) u3, .str x3 v3] 0) :: (t2, tupO [.str (blk b2) u2, .str x2 v2] 0) :: (t1, tupO [.str (blk b1) u1, .str x1 v1] 0) :: (t0, tupO [.str (blk b0) u0, .str x0 v0'] 0) :: (rd, dictOf [⟨hk, .str (Str.ofString "_initial_size") i0, .int 0 i1⟩] nd) :: (ca, oa) :: rest) := fun p hp => N p (by
    simp only [List.mem_cons] at hp ⊢
    rcases hp with h | h | h | h | h | h | h | h | h | h | h | h | h | h | h | h | h | h | h | h | h <;> simp only [h, true_or, or_true])
  subst hx0 hx1 hx2 hx3 hx4
  have RW : RowIs ((d4, o4) :: (d3, o3) :: (d2, o2) :: (d1, o1) :: (d0, o0) :: (so, instObj 45 dso) :: (dso, dictOf [⟨hk2, .str (Str.ofString "comp_select_list") i2, .ref sel⟩] n2) :: (sel, tupO [.ref p0, .ref p1] n3) :: (p1, tupO [.int 1 k3, .int side k4] n5) :: (p0, tupO [.int 0 k1, .int (-side) k2] n4) :: (t4, tupO [.str (blk b4) u4, .str (nm 4) v4] 0) :: (t3, tupO [.str (blk b3) u3, .str (nm 3) v3] 0) :: (t2, tupO [.str (blk b2) u2, .str (nm 2) v2] 0) :: (t1, tupO [.str (blk b1) u1, .str (nm 1) v1] 0) :: (t0, tupO [.str (blk b0) u0, .str (nm 0) v0'] 0) :: (rd, dictOf [⟨hk, .str (Str.ofString "_initial_size") i0, .int 0 i1⟩] nd) :: (ca, oa) :: rest) [.ref t0, .ref t1, .ref t2, .ref t3, .ref t4] [(b0, 0), (b1, 1), (b2, 2), (b3, 3), (b4, 4)] :=
    ⟨⟨t0, u0, v0', rfl, (.tail _ (.tail _ (.tail _ (.tail _ (.tail _ (.tail _ (.tail _ (.tail _ (.tail _ (.tail _ (.tail _ (.tail _ (.tail _ (.tail _ (.head _)))))))))))))))⟩, ⟨t1, u1, v1, rfl, (.tail _ (.tail _ (.tail _ (.tail _ (.tail _ (.tail _ (.tail _ (.tail _ (.tail _ (.tail _ (.tail _ (.tail _ (.tail _ (.head _))))))))))))))⟩, ⟨t2, u2, v2, rfl, (.tail _ (.tail _ (.tail _ (.tail _ (.tail _ (.tail _ (.tail _ (.tail _ (.tail _ (.tail _ (.tail _ (.tail _ (.head _)))))))))))))⟩, ⟨t3, u3, v3, rfl, (.tail _ (.tail _ (.tail _ (.tail _ (.tail _ (.tail _ (.tail _ (.tail _ (.tail _ (.tail _ (.tail _ (.head _))))))))))))⟩, ⟨t4, u4, v4, rfl, (.tail _ (.tail _ (.tail _ (.tail _ (.tail _ (.tail _ (.tail _ (.tail _ (.tail _ (.tail _ (.head _)))))))))))⟩, trivial⟩
  have BKI : BookIs w ((d4, o4) :: (d3, o3) :: (d2, o2) :: (d1, o1) :: (d0, o0) :: (so, instObj 45 dso) :: (dso, dictOf [⟨hk2, .str (Str.ofString "comp_select_list") i2, .ref sel⟩] n2) :: (sel, tupO [.ref p0, .ref p1] n3) :: (p1, tupO [.int 1 k3, .int side k4] n5) :: (p0, tupO [.int 0 k1, .int (-side) k2] n4) :: (t4, tupO [.str (blk b4) u4, .str (nm 4) v4] 0) :: (t3, tupO [.str (blk b3) u3, .str (nm 3) v3] 0) :: (t2, tupO [.str (blk b2) u2, .str (nm 2) v2] 0) :: (t1, tupO [.str (blk b1) u1, .str (nm 1) v1] 0) :: (t0, tupO [.str (blk b0) u0, .str (nm 0) v0'] 0) :: (rd, dictOf [⟨hk, .str (Str.ofString "_initial_size") i0, .int 0 i1⟩] nd) :: (ca, oa) :: rest) bo (fun _ => []) := by
    subst hk5
    refine ⟨_, hbo, Nat.le_refl _, fun k hk => ?_⟩
    match k, hk with
    | 0, _ => exact ⟨d0, o0, [], by with_unfolding_all rfl, (.tail _ (.tail _ (.tail _ (.tail _ (.head _))))), l0, e0, Ones.nil⟩
    | 1, _ => exact ⟨d1, o1, [], by with_unfolding_all rfl, (.tail _ (.tail _ (.tail _ (.head _)))), l1, e1, Ones.nil⟩
    | 2, _ => exact ⟨d2, o2, [], by with_unfolding_all rfl, (.tail _ (.tail _ (.head _))), l2, e2, Ones.nil⟩
    | 3, _ => exact ⟨d3, o3, [], by with_unfolding_all rfl, (.tail _ (.head _)), l3, e3, Ones.nil⟩
    | 4, _ => exact ⟨d4, o4, [], by with_unfolding_all rfl, (.head _), l4, e4, Ones.nil⟩
  have N4 : News h₀ L s.heap ((r, rowO rd [.ref t0, .ref t1, .ref t2, .ref t3, .ref t4] n) :: (B, bo) :: (c1, co) :: (d4, o4) :: (d3, o3) :: (d2, o2) :: (d1, o1) :: (d0, o0) :: (so, instObj 45 dso) :: (dso, dictOf [⟨hk2, .str (Str.ofString "comp_select_list") i2, .ref sel⟩] n2) :: (sel, tupO [.ref p0, .ref p1] n3) :: (p1, tupO [.int 1 k3, .int side k4] n5) :: (p0, tupO [.int 0 k1, .int (-side) k2] n4) :: (t4, tupO [.str (blk b4) u4, .str (nm 4) v4] 0) :: (t3, tupO [.str (blk b3) u3, .str (nm 3) v3] 0) :: (t2, tupO [.str (blk b2) u2, .str (nm 2) v2] 0) :: (t1, tupO [.str (blk b1) u1, .str (nm 1) v1] 0) :: (t0, tupO [.str (blk b0) u0, .str (nm 0) v0'] 0) :: (rd, dictOf [⟨hk, .str (Str.ofString "_initial_size") i0, .int 0 i1⟩] nd) :: (ca, oa) :: rest) := N3
  dsimp only [stWhile]
  refine whl_start 0 ?_
  k_dflt (exact while_rest (cst0 := (d4, o4) :: (d3, o3) :: (d2, o2) :: (d1, o1) :: (d0, o0) :: (so, instObj 45 dso) :: (dso, dictOf [⟨hk2, .str (Str.ofString "comp_select_list") i2, .ref sel⟩] n2) :: (sel, tupO [.ref p0, .ref p1] n3) :: (p1, tupO [.int 1 k3, .int side k4] n5) :: (p0, tupO [.int 0 k1, .int (-side) k2] n4) :: (t4, tupO [.str (blk b4) u4, .str (nm 4) v4] 0) :: (t3, tupO [.str (blk b3) u3, .str (nm 3) v3] 0) :: (t2, tupO [.str (blk b2) u2, .str (nm 2) v2] 0) :: (t1, tupO [.str (blk b1) u1, .str (nm 1) v1] 0) :: (t0, tupO [.str (blk b0) u0, .str (nm 0) v0'] 0) :: (rd, dictOf [⟨hk, .str (Str.ofString "_initial_size") i0, .int 0 i1⟩] nd) :: (ca, oa) :: rest) BB X T hE hd hu rB rc Bc hca hc1 da (.tail _ (.tail _ (.tail _ (.tail _ (.tail _ (.tail _ (.tail _ (.tail _ (.tail _ (.tail _ (.tail _ (.tail _ (.tail _ (.tail _ (.tail _ (.head _)))))))))))))))) (.tail _ (.tail _ (.tail _ (.tail _ (.tail _ (.tail _ (.tail _ (.tail _ (.tail _ (.tail _ (.tail _ (.tail _ (.tail _ (.tail _ (.tail _ (.tail _ (.head _))))))))))))))))) (.tail _ (.tail _ (.tail _ (.tail _ (.tail _ (.head _)))))) (.tail _ (.tail _ (.tail _ (.tail _ (.tail _ (.tail _ (.head _))))))) (.tail _ (.tail _ (.tail _ (.tail _ (.tail _ (.tail _ (.tail _ (.head _)))))))) (.tail _ (.tail _ (.tail _ (.tail _ (.tail _ (.tail _ (.tail _ (.tail _ (.tail _ (.head _)))))))))) (.tail _ (.tail _ (.tail _ (.tail _ (.tail _ (.tail _ (.tail _ (.tail _ (.head _))))))))) hsl hsu 5 [(b0, 0), (b1, 1), (b2, 2), (b3, 3), (b4, 4)] _ _ _ _ _ _ _ _ _ _ n bo co v0 _ (fun _ => []) s rfl F N4 offr offB offc dc (fun _ h => h) RW BKI (show [0, 1, 2, 3, 4].Nodup by decide) (by simp [hb0, hb1, hb2, hb3, hb4]) (fun _ _ _ _ h => nomatch h) (fun _ => by simp) (fun hn q t d vx all m' h' tk' a1 a2 a3 a4 a5 a6 => hraise hn q t d vx all m' h' tk' a1 a2 a3 a4 a5 (fun p hp => a6 p (.tail _ (.tail _ (.tail _ (.tail _ (.tail _ (.tail _ (.tail _ (.tail _ (.tail _ (.tail _ (.tail _ (.tail _ (.tail _ (.tail _ (.tail _ (.tail _ (.tail _ (hp)))))))))))))))))))) (fun bk' m' vs' n' bo' co' cst' h' tk' a1 a2 a3 a4 a5 a6 => hret bk' m' vs' n' bo' co' cst' h' tk' a1 a2 a3 a4 (fun p hp => a5 p (.tail _ (.tail _ (.tail _ (.tail _ (.tail _ (.tail _ (.tail _ (.tail _ (.tail _ (.tail _ (.tail _ (.tail _ (.tail _ (.tail _ (.tail _ (.tail _ (.tail _ (hp))))))))))))))))))) a6))
end
end Mine
end
/-! part Rz2 -/
section
theorem Mine.rstRz2 : True := by
  w_top off
  trivial
open PySem PySem.Spec PySem.Calls PySem.W PyProof.Rows PyProof.V
set_option maxRecDepth 100000
set_option maxHeartbeats 4000000
namespace Mine
section
variable {M : Model} {A : Around} {E : Value → Shared → Prop} {s s' : Shared} {base g h : Heap} {outer : List Env} {L q t C : Addr} {d : Option Addr} {m : Str → Option Value} {env : Env} {news all : List (Addr × Obj)} {vs : List Value}
theorem leave_nagS {Q : Unit → Shared → Prop} (K : Below A base outer g) (hf : env.frame = some L) (hk : env.scope.kind = .function) (F : Fr g L s'.heap m) (N : News g L s'.heap all)
    (hq : (q, excO C t d) ∈ all) (ht : (t, tupO vs 0) ∈ all) (hsub : ∀ p ∈ news, p ∈ all) (hne : ∀ p ∈ news, p.1 ≠ q ∧ p.1 ≠ t) (hqt : t ≠ q)
    (hQ : ∀ h', RaisedS base g outer q (.ref C) t vs news h' → g.UpToSlots h' → Q () { s' with heap := h' }) :
    wpAny M (A.deeper env) (leaving env (.ref q)) Q E s' := by
  have K' := pushX K F hf hk
  have nin : ∀ p ∈ all, p.1 ∉ (env :: outer).filterMap (·.frame) := fun p hp hm => by
    obtain ⟨env', he, hf'⟩ := List.mem_filterMap.mp hm
    rcases List.mem_cons.mp he with rfl | he
    · exact (N p hp).2.1 (Option.some.inj (hf'.symm.trans hf))
    · obtain ⟨o, ho, _⟩ := (K.frames.mem (List.mem_filterMap.mpr ⟨env', he, hf'⟩)).2
      rw [(N p hp).2.2] at ho; cases ho
  have bn : ∀ p ∈ all, base.get? p.1 = none := fun p hp => fresh_of_stays K.stays (N p hp).2.2
  have hin : ∀ env' ∈ (env :: outer), ∀ b, env'.frame = some b → b ∈ (env :: outer).filterMap (·.frame) ++ [q, t] := fun env' he b hb => List.mem_append_left _ (List.mem_filterMap.mpr ⟨env', he, hb⟩)
  have qin : q ∈ (env :: outer).filterMap (·.frame) ++ [q, t] := List.mem_append_right _ (.head _)
  have tin : t ∈ (env :: outer).filterMap (·.frame) ++ [q, t] := List.mem_append_right _ (.tail _ (.head _))
  have st : base.StaysIn (hideAll s'.heap ((env :: outer).filterMap (·.frame) ++ [q, t])) := fun b o e => hideAll_get _ (K'.stays b o e) fun hm => by
    rcases List.mem_append.mp hm with hm | hm
    · rw [(K'.frames.mem hm).1] at e; cases e
    · rcases List.mem_cons.mp hm with rfl | hm
      · rw [bn _ hq] at e; cases e
      · rw [List.mem_singleton.mp hm, bn _ ht] at e; cases e
  have sg : ∀ b o, g.get? b = some o → b ∉ outer.filterMap (·.frame) → (hideAll s'.heap ((env :: outer).filterMap (·.frame) ++ [q, t])).get? b = some o := fun b o e nm => hideAll_get _ (F.keep b o e) fun hm => by
    rcases List.mem_append.mp hm with hm | hm
    · obtain ⟨env', he, hf'⟩ := List.mem_filterMap.mp hm
      rcases List.mem_cons.mp he with rfl | he
      · obtain rfl : L = b := Option.some.inj (hf.symm.trans hf')
        rw [kts_self F] at e; cases e
      · exact nm (List.mem_filterMap.mpr ⟨env', he, hf'⟩)
    · rcases List.mem_cons.mp hm with rfl | hm
      · rw [(N _ hq).2.2] at e; cases e
      · rw [List.mem_singleton.mp hm, (N _ ht).2.2] at e; cases e
  have hl : ∀ p ∈ news, (hideAll s'.heap ((env :: outer).filterMap (·.frame) ++ [q, t])).get? p.1 = some p.2 ∧ g.get? p.1 = none ∧ base.get? p.1 = none := fun p hp => by
    refine ⟨hideAll_get _ (N p (hsub p hp)).1 fun hm => ?_, (N p (hsub p hp)).2.2, bn _ (hsub p hp)⟩
    rcases List.mem_append.mp hm with hm | hm
    · exact nin p (hsub p hp) hm
    · rcases List.mem_cons.mp hm with e | hm
      · exact (hne p hp).1 e
      · exact (hne p hp).2 (List.mem_singleton.mp hm)
  refine wpAny_leaving_firstW (a0 := .ref t) (Around.frames_deeper K.stack) (funFrames_hide K'.frames hin) hf (N _ hq).1 (fun b o e => of_hideAll _ e) (hideAll_none _ qin) rfl rfl rfl fun h' hL => ?_
  obtain ⟨k1, ⟨_, _, k2⟩, k3, k4⟩ := hL
  refine hQ h' ⟨⟨_, st, sg, hl, ⟨k1, hideAll_none _ qin, k2, k3⟩, hideAll_none _ tin⟩, Heap.TupAt.of_slots ⟨_, _, (N _ ht).1, rfl, rfl⟩ k4⟩ ((Heap.UpToSlots.of_keeps F.keep).trans k4)
end
theorem kis_kts (w : World) : ktsIn (Mine.hd.heap_39 w.params) 192 "BaseException" = true := by kernel_rfl
end Mine
end
/-! part R6 -/
section
theorem Mine.rstR6 : True := by
  w_top off
  trivial
open PySem PySem.Spec PySem.Calls PySem.W PyProof.Rows PyProof.V
set_option maxRecDepth 100000
set_option maxHeartbeats 4000000
namespace Mine
local macro_rules | `(tactic| k_mem) => `(tactic| assumption)
theorem foldl_blk : ∀ (n : Nat) (acc : Array Nat), (List.replicate n (Str.ofString " ").cps).foldl (· ++ ·) acc = acc ++ (List.replicate n 32).toArray
  | 0, acc => by simp
  | n + 1, acc => by
    rw [List.replicate_succ, List.foldl_cons, foldl_blk n, List.replicate_succ]
    have : (Str.ofString " ").cps = #[32] := by decide
    rw [this]
    apply Array.ext'
    simp
theorem mul_sp {prog : Program} {w : World} {A : Around} {E : Value → Shared → Prop} {s : Shared} {b : Nat} {z : Int} {t u : Tok} {Q : Value → Shared → Prop} (hz : z = (b : Int)) (hb : b < 100) (h : ∀ t' k, Q (.str (blk b) t') { s with toks := k }) :
    wpAny (model prog w) A (binaryOp .Mult (.str (Str.ofString " ") t) (.int z u)) Q E s := by
  subst hz
  have hl : (Str.ofString " ").length = 1 := by decide
  refine SB.mul (mulOk_of 16 128 (by rw [hl]; decide) (by omega) (by omega) (by decide) (by decide)) fun t' k => ?_
  have e : Txt.mul (Str.ofString " ") (b : Int) = blk b := by
    unfold Txt.mul blk
    by_cases h1 : (b : Int) < 1
    · have : b = 0 := by omega
      subst this
      rw [if_pos h1]; rfl
    · rw [if_neg h1]
      by_cases h2 : b = 1
      · subst h2; decide
      · have h3 : ((b : Int) == 1) = false := by simp; omega
        rw [h3, hl]
        simp only [Bool.false_or]
        rw [if_neg (by decide), Int.toNat_natCast, foldl_blk]
        simp
  rw [e]
  exact h t' k
theorem ne_all_low {l : List (Addr × Obj)} {b d : Nat} (h : ∀ p ∈ l, p.1 < b) (hd : b ≤ d) : ∀ p ∈ l, p.1 ≠ d := fun p hp => Nat.ne_of_lt (Nat.lt_of_lt_of_le (h p hp) hd)
local macro_rules | `(tactic| k_all) => `(tactic| first | assumption | exact ne_all_low (by assumption) (by omega))
local macro_rules | `(tactic| k_ne) => `(tactic| (refine neN ?_; (try dsimp only); first | (refine Nat.ne_of_lt ?_; first | with_reducible assumption | exact And.left (by with_reducible assumption) | exact And.left (And.right (by with_reducible assumption)) | exact And.left (And.right (And.right (by with_reducible assumption))) | exact And.left (And.right (And.right (And.right (by with_reducible assumption)))) | exact And.left (And.right (And.right (And.right (And.right (by with_reducible assumption))))) | exact And.left (And.right (And.right (And.right (And.right (And.right (by with_reducible assumption)))))) | exact And.left (And.right (And.right (And.right (And.right (And.right (And.right (by with_reducible assumption))))))) | exact And.left (And.right (And.right (And.right (And.right (And.right (And.right (And.right (by with_reducible assumption)))))))) | exact And.left (And.right (And.right (And.right (And.right (And.right (And.right (And.right (And.right (by with_reducible assumption))))))))) | exact And.left (And.right (And.right (And.right (And.right (And.right (And.right (And.right (And.right (And.right (by with_reducible assumption)))))))))) | exact And.left (And.right (And.right (And.right (And.right (And.right (And.right (And.right (And.right (And.right (And.right (by with_reducible assumption))))))))))) | exact And.left (And.right (And.right (And.right (And.right (And.right (And.right (And.right (And.right (And.right (And.right (And.right (by with_reducible assumption)))))))))))) | exact And.left (And.right (And.right (And.right (And.right (And.right (And.right (And.right (And.right (And.right (And.right (And.right (And.right (by with_reducible assumption))))))))))))) | exact And.left (And.right (And.right (And.right (And.right (And.right (And.right (And.right (And.right (And.right (And.right (And.right (And.right (And.right (by with_reducible assumption)))))))))))))) | exact And.left (And.right (And.right (And.right (And.right (And.right (And.right (And.right (And.right (And.right (And.right (And.right (And.right (And.right (And.right (by with_reducible assumption))))))))))))))) | exact And.left (And.right (And.right (And.right (And.right (And.right (And.right (And.right (And.right (And.right (And.right (And.right (And.right (And.right (And.right (And.right (by with_reducible assumption)))))))))))))))) | exact And.left (And.right (And.right (And.right (And.right (And.right (And.right (And.right (And.right (And.right (And.right (And.right (And.right (And.right (And.right (And.right (And.right (by with_reducible assumption))))))))))))))))) | exact And.left (And.right (And.right (And.right (And.right (And.right (And.right (And.right (And.right (And.right (And.right (And.right (And.right (And.right (And.right (And.right (And.right (And.right (by with_reducible assumption))))))))))))))))))) | (refine Nat.ne_of_gt ?_; first | with_reducible assumption | exact And.left (by with_reducible assumption) | exact And.left (And.right (by with_reducible assumption)) | exact And.left (And.right (And.right (by with_reducible assumption))) | exact And.left (And.right (And.right (And.right (by with_reducible assumption)))) | exact And.left (And.right (And.right (And.right (And.right (by with_reducible assumption))))) | exact And.left (And.right (And.right (And.right (And.right (And.right (by with_reducible assumption)))))) | exact And.left (And.right (And.right (And.right (And.right (And.right (And.right (by with_reducible assumption))))))) | exact And.left (And.right (And.right (And.right (And.right (And.right (And.right (And.right (by with_reducible assumption)))))))) | exact And.left (And.right (And.right (And.right (And.right (And.right (And.right (And.right (And.right (by with_reducible assumption))))))))) | exact And.left (And.right (And.right (And.right (And.right (And.right (And.right (And.right (And.right (And.right (by with_reducible assumption)))))))))) | exact And.left (And.right (And.right (And.right (And.right (And.right (And.right (And.right (And.right (And.right (And.right (by with_reducible assumption))))))))))) | exact And.left (And.right (And.right (And.right (And.right (And.right (And.right (And.right (And.right (And.right (And.right (And.right (by with_reducible assumption)))))))))))) | exact And.left (And.right (And.right (And.right (And.right (And.right (And.right (And.right (And.right (And.right (And.right (And.right (And.right (by with_reducible assumption))))))))))))) | exact And.left (And.right (And.right (And.right (And.right (And.right (And.right (And.right (And.right (And.right (And.right (And.right (And.right (And.right (by with_reducible assumption)))))))))))))) | exact And.left (And.right (And.right (And.right (And.right (And.right (And.right (And.right (And.right (And.right (And.right (And.right (And.right (And.right (And.right (by with_reducible assumption))))))))))))))) | exact And.left (And.right (And.right (And.right (And.right (And.right (And.right (And.right (And.right (And.right (And.right (And.right (And.right (And.right (And.right (And.right (by with_reducible assumption)))))))))))))))) | exact And.left (And.right (And.right (And.right (And.right (And.right (And.right (And.right (And.right (And.right (And.right (And.right (And.right (And.right (And.right (And.right (And.right (by with_reducible assumption))))))))))))))))) | exact And.left (And.right (And.right (And.right (And.right (And.right (And.right (And.right (And.right (And.right (And.right (And.right (And.right (And.right (And.right (And.right (And.right (And.right (by with_reducible assumption))))))))))))))))))) | (refine Nat.ne_of_lt (Nat.lt_trans ?_ (by with_reducible assumption)); first | with_reducible assumption | exact And.left (by with_reducible assumption) | exact And.left (And.right (by with_reducible assumption)) | exact And.left (And.right (And.right (by with_reducible assumption))) | exact And.left (And.right (And.right (And.right (by with_reducible assumption)))) | exact And.left (And.right (And.right (And.right (And.right (by with_reducible assumption))))) | exact And.left (And.right (And.right (And.right (And.right (And.right (by with_reducible assumption))))))) | (refine Nat.ne_of_gt (Nat.lt_trans ?_ (by with_reducible assumption)); first | with_reducible assumption | exact And.left (by with_reducible assumption) | exact And.left (And.right (by with_reducible assumption)) | exact And.left (And.right (And.right (by with_reducible assumption))) | exact And.left (And.right (And.right (And.right (by with_reducible assumption)))) | exact And.left (And.right (And.right (And.right (And.right (by with_reducible assumption))))) | exact And.left (And.right (And.right (And.right (And.right (And.right (by with_reducible assumption))))))) | omega))
theorem unrEnd1 {h₀ : Heap} {L I : Addr} {it : Obj} {rest' : (Str → Option Value) → List (Addr × Obj) → Prop} {s₁ : Shared} {h' : Heap} {tk : Nat} {m' : Str → Option Value} {p : Addr × Obj} {rest : List (Addr × Obj)} (F : Fr h₀ L h' m') (N : News h₀ L h' (p :: (I, it) :: rest)) (hp : p.1 ≠ I) (off : ∀ q ∈ rest, q.1 ≠ I) (r : rest' m' (p :: rest)) :
    UnrEnd h₀ L s₁ I it rest' { s₁ with heap := h', toks := tk } :=
  UnrEnd.intro F N (p :: rest) (sub_cons (.tail _ (.head _)) (sub_cons (.head _) fun q hq => .tail _ (.tail _ hq))) (fun q hq => by
    rcases List.mem_cons.mp hq with rfl | hq
    · exact hp
    · exact off q hq) r
local macro_rules | `(tactic| walk_at "UnrEnd") => `(tactic| (refine' unrEnd1 ?uF ?uN ?up ?uo ?_; (case uF => assumption); (case uN => assumption); (case up => k_ne); (case uo => k_all)))
local macro_rules | `(tactic| walk_at "getMethod ref") => `(tactic| (k_here; k_dflt (refine' method_fnG ?X ?I ?a canon_list_ga ?b ?c ?d ?e ?_; (case X => k_in); (case I => exact inst_row (by k_asm) (by k_mem) (by k_mem)); (case a => k_is); (case b => k_is); (case c => k_is); (case d => k_is); (case e => with_unfolding_all rfl); k_whole)))
local macro_rules | `(tactic| walk_at "binaryOp Mult str int") => `(tactic| (k_here; (with_unfolding_all refine mul_sp (by exact rfl) (by omega) ?_); intro _ _))
local macro_rules | `(tactic| walk_at "call ref") => `(tactic| (k_here; (with_reducible show wpAny _ _ (call (Value.ref 87) _) _ _ _); k_dflt (refine' push_spec ?B ?F ?X ?N ?T ?K ?U ?m1 ?z ?d ?u ?_; (case B => k_asm); (case F => k_asm); (case X => k_asm); (case N => k_asm); (case T => k_asm); (case K => rfl); (case U => k_updF); (case m1 => k_mem); (case z => exact Nat.le_of_ble_eq_true (by rfl)); (case d => ktr_room); (case u => ktr_room)); intro t' h' tk' F' N' l1; (try k_lt l1); (try k_sweep)))
section
variable {w : World} {loose : List Str} {mean : ExcName → Option Value} {mg mb : Str → Option Value}
  {dp un : Nat} {gd : Option (List Code)} {cn : Str} {cs : Scope} {a : Addr} {ccd : Value} {cl : List (Str × Addr)} {outer : List Env} {A₀ : Around} {base h₀ : Heap} {L : Addr} {m : Str → Option Value} {s : Shared} {Q E : Value → Shared → Prop} {news : List (Addr × Obj)}

theorem run_spec {wl : Addr} {b0 b1 b2 b3 b4 : Nat} {t0 t1 t2 t3 t4 tp ts : Tok} {n : Nat} {place : Nat} {side : Int}
    (B : Below A₀ base outer h₀) (F : Fr h₀ L s.heap m) (X : (Mine.hd.heap_39 w.params).In h₀) (N : News h₀ L s.heap news) (T : Top Mine.hd.view_39 loose mean mg mb h₀) (hK : cs.kind = .function)
    (m0 : (wl, lstO [.int b0 t0, .int b1 t1, .int b2 t2, .int b3 t3, .int b4 t4] n) ∈ news)
    (c0 : b0 < 90) (c1 : b1 < 90) (c2 : b2 < 90) (c3 : b3 < 90) (c4 : b4 < 90) (hd : dp + 18 < recursionLimit) (hu : un + 264 < cLine)
    (hsl : -1 ≤ side) (hsu : side ≤ 1)
    (hraise : runF side place 5 [(b0, 0), (b1, 1), (b2, 2), (b3, 3), (b4, 4)] (fun _ => []) = none → ∀ (g' h' : Heap) (q t : Addr) (vx : List Value) (tk' : Nat), Fr h₀ L g' m → g'.UpToSlots h' → RaisedS base g' (envX cn cs L a ccd cl :: outer) q (.ref 192) t vx news h' → E (.ref q) { s with heap := h', toks := tk' })
    (hret : ∀ (bk : Nat → List Nat) (D : Addr) (bo : Obj) (cst : List (Addr × Obj)) (h' : Heap) (tk' : Nat), runF side place 5 [(b0, 0), (b1, 1), (b2, 2), (b3, 3), (b4, 4)] (fun _ => []) = some bk → Fr h₀ L h' m → News h₀ L h' ((D, bo) :: cst) → (∀ p ∈ news, p ∈ cst) → BookIs w cst bo bk → Q (.ref D) { s with heap := h', toks := tk' }) :
    wpAny (model Challenge.rw_xg0075_01.row.prog w) (ktrTop dp un gd cn cs L a ccd cl outer) (call (.ref 271) [.ref wl, .int place tp, .int side ts]) Q E s := by
  refine wpAny_call ?_
  refine' code_defC (binds := [(Str.ofString "wishes", .ref wl), (Str.ofString "place", .int place tp), (Str.ofString "side", .int side ts)]) B F X N T (by exact rfl) (by exact rfl) hK ?k6 ?k7 ?k8 ?k9 ?kB ?kN ?_ ?c2 ?c3 ?c4
  case k6 => k_is
  case k7 => k_is
  case k8 => ktr_room
  case k9 => exact BindsTo.of_eq rfl
  case kB => exact rfl
  case kN => decide
  case c2 => exact rfl
  case c3 => exact rfl
  case c4 => exact rfl
  intro g' L' h' tk cells FG' F' N' Y' B' X' T' lN
  try k_lt lN
  k_cells Y'
  try simp only [List.cons_append, List.nil_append] at N'
  have N2 := cb_drop N' (sub_cons (.head _) (sub_cons (.tail _ (.head _)) (sub_cons (.tail _ (.tail _ m0)) (fun p hp => .tail _ (.tail _ hp)))))
  clear N'
  have N' := N2
  clear N2
  have lw := lN _ m0
  replace lw := ltN lw
  try dsimp only
  try k_lift B'
  try k_fold
  repeat' walk1
  k_dflt (refine acc_spec B' F' X' N' T' rfl (by ktr_room) (by ktr_room) ?_)
  intro r rd hk i0 i1 n0 nd h1 tk1 F1 N1 l1 l2
  try k_lt l1
  replace l2 := ltN l2
  clear F' N'
  repeat' walk1
  k_dflt (refine' tc_spec ?B ?F ?X ?N ?T ?K ?d ?u ?_)
  case B => k_asm
  case F => k_asm
  case X => k_asm
  case N => k_asm
  case T => k_asm
  case K => rfl
  case d => ktr_room
  case u => ktr_room
  intro so dso hks is0 ns0 h2 tk2 F2 N2 l3 l4
  try k_lt l3
  replace l4 := ltN l4
  k_sweep
  k_whole
  k_dflt (refine' storeX_C F2 N2 ?hc ?U ?hd ?_ ?hk ?hx)
  case hc => rfl
  case hk => rfl
  case hx => rfl
  case hd => assumption
  case U => 
    k_updF
  intro h3 oa F3 N3 d3
  k_whole
  clear F2 N2
  k_sweep
  iterate 22 walk1
  dsimp only
  walk1
  walk1
  rename Fr _ _ _ _ => FW
  rename News _ _ _ _ => NW
  k_dflt (refine' while_from B' X' T' ?hE ?hd ?hu ?rB ?rc ?Bc ?hca ?hc1 d3 ?dc hsl hsu FW ?hm1 ?hm2 ?hm3 ?hm4 NW ?offr ?offB ?offc ?x0 ?x1 ?x2 ?x3 ?x4 c0 c1 c2 c3 c4 ?hbo ?hk5 ?e0 ?e1 ?e2 ?e3 ?e4 ?l0 ?l1 ?l2 ?l3 ?l4 ?hra ?hre)
  case hE => passes_own
  case hd => ktr_room
  case hu => ktr_room
  case rB => k_ne
  case rc => k_ne
  case Bc => k_ne
  case hca => rfl
  case hc1 => rfl
  case hm1 => rfl
  case hm2 => rfl
  case hm3 => rfl
  case hm4 => rfl
  case x0 => decide
  case x1 => decide
  case x2 => decide
  case x3 => decide
  case x4 => decide
  case offr =>
    iterate 17 (refine List.forall_mem_cons.mpr ⟨by k_ne, ?_⟩)
    refine List.forall_mem_cons.mpr ⟨by k_ne, ?_⟩
    exact ne_all_low lN (by omega)
  case offB =>
    iterate 17 (refine List.forall_mem_cons.mpr ⟨by k_ne, ?_⟩)
    refine List.forall_mem_cons.mpr ⟨by k_ne, ?_⟩
    exact ne_all_low lN (by omega)
  case offc =>
    iterate 17 (refine List.forall_mem_cons.mpr ⟨by k_ne, ?_⟩)
    refine List.forall_mem_cons.mpr ⟨by k_ne, ?_⟩
    exact ne_all_low lN (by omega)
  case dc => assumption
  case hbo => assumption
  case hk5 => with_unfolding_all rfl
  case e0 => assumption
  case e1 => assumption
  case e2 => assumption
  case e3 => assumption
  case e4 => assumption
  case l0 => assumption
  case l1 => assumption
  case l2 => assumption
  case l3 => assumption
  case l4 => assumption
  case hre =>
    intro bk' m' vs' n' bo' co' cst' h9 tk9 hrun hm9 F9 N9 hs9 BK9
    dsimp only
    iterate 2 walk1
    refine nameX_L F9 hm9 ?_ (by rfl) (by rfl)
    refine leaveK_ F9 N9 fun F10 N10 => ?_
    refine hret bk' _ bo' ((r, rowO rd vs' n') :: (_, co') :: cst') h9 _ hrun F10 (cb_drop N10 (sub_cons (.tail _ (.head _)) (sub_cons (.head _) (sub_cons (.tail _ (.tail _ (.head _))) fun p hp => .tail _ (.tail _ (.tail _ hp)))))) (fun p hp => .tail _ (.tail _ (hs9 p (.tail _ hp)))) (BookIs.mono (fun p hp => .tail _ (.tail _ hp)) BK9)
  case hra =>
    intro hn q9 t9 d9 vx9 all9 m9 h9 tk9 F9 N9 mq mt htq hall
    refine leave_nagS (news := news) B' rfl rfl F9 N9 mq mt (fun p hp => (hall p (.tail _ hp)).1) (fun p hp => (hall p (.tail _ hp)).2) htq (fun h10 R10 U10 => ?_)
    exact hraise hn g' h10 q9 t9 vx9 _ FG' U10 R10
end
end Mine
end
/-! part Ks -/
section
theorem Mine.rstKs : True := by
  w_top off
  trivial
open PySem PySem.Spec PySem.Calls PySem.W PyProof.Rows PyProof.V
set_option maxRecDepth 100000
namespace Mine
section
variable {prog : Program} {w : World} {A₀ A : Around} {s : Shared} {base h₀ : Heap} {L : Addr} {m : Str → Option Value} {news : List (Addr × Obj)} {K : Frag} {p : Program} {loose : List Str} {mean : ExcName → Option Value} {mg mb : Str → Option Value}
    {R : Result → Shared → Prop} {name qual : Str} {params : Arguments} {body : List Stmt} {scope : Scope} {dV kV doc pm cdv ct oc : Value} {an od : Option Addr} {osl : Array (Option Value)} {f : Addr} {args : Args} {binds : List (Str × Value)} {env : Env}
theorem in_one {b : Addr} (hf : env.frame = some L) (h : b ∈ [env].filterMap (·.frame)) : b = L := by
  obtain ⟨e, he, hb⟩ := List.mem_filterMap.mp h
  rw [List.mem_singleton.mp he, hf] at hb
  exact (Option.some.inj hb).symm
/-- a try-function called from any function's frame, with cells or without -/
theorem code_defSE (B : Below A₀ base [] h₀) (F : Fr h₀ L s.heap m) (X₀ : K.In h₀) (N : News h₀ L s.heap news) (T : Top p loose mean mg mb h₀) (hA : A.frames = some [env]) (hf : env.frame = some L) (hke : env.scope.kind = .function)
    (ho : K.lookup f = some ⟨oc, od, .func (fnOf name qual params body scope dV kV doc pm an cdv ct), osl⟩) (hcd : codeIn K cdv qual = true) (hroom : A.depth < recursionLimit)
    (hbind : BindsTo s (fnOf name qual params body scope dV kV doc pm an cdv ct) args binds) (hloc : ∀ y ∈ binds, scope.names.lookup y.1 = some .local)
    (h : ∀ g L' h₁, Fr h₀ L g m → Fr g L' h₁ (fun y => binds.reverse.lookup y) → News g L' h₁ news → Below A base [env] g → K.In g → Top p loose mean mg mb g → KtsDicts ([env].filterMap (·.frame)) g →
      wpAny (model prog w) (A.deeper (envOf qual scope L' f cdv)) (execs body (envOf qual scope L' f cdv))
        (fun fl s' => LeaveS0 ([env].filterMap (·.frame)) h₀ L m g R (match fl with | .ret v => v | _ => .none) s')
        (fun e s' => wpAny (model prog w) (A.deeper (envOf qual scope L' f cdv)) (leaving (envOf qual scope L' f cdv) e) (fun _ s'' => R (.error e) s'') (fun e' s'' => R (.error e') s'') s')
        { s with heap := h₁, toks := s.toks + binds.length })
    (hco : scope.isCoroutine = false) (hgen : scope.isGenerator = false) (hk : scope.kind = .function)
    (hcell : ∀ x ∈ scope.names, x.2 ≠ .cell) : codeAny (model prog w) A (.call (.ref f) args) R s := by
  obtain ⟨FG, BG, st, _⟩ := groundX (R := R) B F N hA hf hke
  have X := X₀.keeps F.keep
  have nL₀ : h₀.get? L = none := kts_self F
  obtain ⟨oL, es, ep, hLg, hLd, hLk, hLf⟩ := FG.ns
  refine codeAny_call_def (fd := fnOf name qual params body scope dV kV doc pm an cdv ct) (body := body) (binds := binds) hroom (X _ _ ho) rfl (T.nolimit.keeps F.keep) (codeRec_of X hcd) rfl hbind hcell hloc (fun h₁ hns hk₁ => ?_) hco hgen hk
  refine wpAny_mono (h _ s.heap.objs.size h₁ FG ⟨hns, fun b o e => hk₁ b o (of_hideAll _ e), Nat.le_of_eq (hideAll_size _ _)⟩
    (fun p hp => ⟨hk₁ _ _ (N p hp).1, Nat.ne_of_lt (Heap.lt_size (N p hp).1), hideAll_none _ (List.mem_map_of_mem hp)⟩) BG (X₀.keeps st) (T.keeps st) (fun b hb => by
      rw [in_one hf hb]
      exact ⟨oL, es, ep, hLg, hLd⟩)) (fun fl s' hl => ?_) fun _ _ y => y
  obtain ⟨g', L', m', news', T', F', N', k⟩ := hl
  obtain ⟨sl, hs⟩ := T'.up hLg
  refine k ⟨⟨_, es, ep, F'.keep _ _ hs, hLd, hLk, hLf⟩, fun b o e => F'.keep b o (T'.other b o (st b o e) (fun q => ?_)), F.above⟩ fun p hp => ⟨(N' p hp).1, fun q => ?_, ?_⟩
  · rw [in_one hf q, nL₀] at e
    cases e
  · have := (N' p hp).2.2; rw [q, hs] at this; cases this
  · cases q : h₀.get? p.1 with
    | none => rfl
    | some o =>
      obtain ⟨sl', hs'⟩ := T'.up (st _ _ q)
      have := (N' p hp).2.2
      rw [hs'] at this
      cases this
end
end Mine
end
/-! part R7 -/
section
theorem Mine.rstR7 : True := by
  w_top off
  trivial
open PySem PySem.Spec PySem.Calls PySem.W PyProof.Rows PyProof.V
set_option maxRecDepth 100000
set_option maxHeartbeats 4000000
namespace Mine
local macro_rules | `(tactic| k_mem) => `(tactic| assumption)
local macro_rules | `(tactic| k_all) => `(tactic| assumption)
local macro_rules | `(tactic| walk_at "getMethod ref") => `(tactic| (k_here; k_dflt (refine' method_fnG ?X ?I ?a canon_list_ga ?b ?c ?d ?e ?_; (case X => k_in); (case I => exact inst_row (by k_asm) (by k_mem) (by k_mem)); (case a => k_is); (case b => k_is); (case c => k_is); (case d => k_is); (case e => with_unfolding_all rfl); k_whole)))
section
variable {w : World} {loose : List Str} {mean : ExcName → Option Value} {mg mb : Str → Option Value}
  {dp un : Nat} {gd : Option (List Code)} {cn : Str} {cs : Scope} {a : Addr} {ccd : Value} {cl : List (Str × Addr)} {A₀ : Around} {base h₀ : Heap} {L : Addr} {m : Str → Option Value} {s : Shared} {Q E : Value → Shared → Prop} {news : List (Addr × Obj)}

theorem book_spec {wl : Addr} {b0 b1 b2 b3 b4 : Nat} {t0 t1 t2 t3 t4 tp ts : Tok} {n : Nat} {place : Nat} {side : Int}
    (B : Below A₀ base [] h₀) (F : Fr h₀ L s.heap m) (X : (Mine.hd.heap_39 w.params).In h₀) (N : News h₀ L s.heap news) (T : Top Mine.hd.view_39 loose mean mg mb h₀) (hK : cs.kind = .function) (XB : (Mine.hd.heap_39 w.params).In base) (TB : Top Mine.hd.view_39 loose mean mg mb base)
    (m0 : (wl, lstO [.int b0 t0, .int b1 t1, .int b2 t2, .int b3 t3, .int b4 t4] n) ∈ news)
    (c0 : b0 < 90) (c1 : b1 < 90) (c2 : b2 < 90) (c3 : b3 < 90) (c4 : b4 < 90) (hd : dp + 28 < recursionLimit) (hu : un + 464 < cLine) (hsl : -1 ≤ side) (hsu : side ≤ 1)
    (hnone : runF side place 5 [(b0, 0), (b1, 1), (b2, 2), (b3, 3), (b4, 4)] (fun _ => []) = none → ∀ (h' : Heap) (tk' : Nat), Fr h₀ L h' m → News h₀ L h' news → Q .none { s with heap := h', toks := tk' })
    (hret : ∀ (bk : Nat → List Nat) (D : Addr) (bo : Obj) (cst : List (Addr × Obj)) (h' : Heap) (tk' : Nat), runF side place 5 [(b0, 0), (b1, 1), (b2, 2), (b3, 3), (b4, 4)] (fun _ => []) = some bk → Fr h₀ L h' m → News h₀ L h' ((D, bo) :: cst) → (∀ p ∈ news, p ∈ cst) → BookIs w cst bo bk → Q (.ref D) { s with heap := h', toks := tk' }) :
    wpAny (model Challenge.rw_xg0075_01.row.prog w) (ktrTop dp un gd cn cs L a ccd cl []) (call (.ref 278) [.ref wl, .int place tp, .int side ts]) Q E s := by
  refine wpAny_call ?_
  refine' code_defSE (binds := [(Str.ofString "wishes", .ref wl), (Str.ofString "place", .int place tp), (Str.ofString "side", .int side ts)]) B F X N T (by exact rfl) (by exact rfl) hK ?k6 ?k7 ?k8 ?k9 ?kB ?_ ?c2 ?c3 ?c4 ?c5
  case k6 => k_is
  case k7 => k_is
  case k8 => ktr_room
  case k9 => exact BindsTo.of_eq rfl
  case c5 => decide
  case kB => exact locs rfl
  case c2 => exact rfl
  case c3 => exact rfl
  case c4 => exact rfl
  intro g' L' h' FG' F' N' B' X' T' D'
  try dsimp only
  try k_fold
  try k_lift B'
  try k_fold
  repeat' walk1
  k_dflt (refine' run_spec B' F' X' N' T' rfl m0 c0 c1 c2 c3 c4 ?d ?u hsl hsu ?hra ?hre)
  case d => ktr_room
  case u => ktr_room
  case hre =>
    intro bk D bo cst h1 tk1 hrun F1 N1 hs1 BK1
    refine leaveS0_ F1 N1 KtsTurn.refl fun F2 N2 => ?_
    exact hret bk D bo cst h1 _ hrun F2 N2 hs1 BK1
  case hra =>
    intro hn g1 h1 q t vx tk1 FG1 U1 R1
    k_dflt (refine' caught_SO0 R1 FG1 B' U1 XB TB D' KtsTurn.refl ?ex (kis_kts w) ?_)
    case ex => k_is
    intro h2 g2 news2 T2 F2 N2 G2 N3 B2 X2 P2 D2
    k_whole
    iterate 4 walk1
    exact leaveS0_ F2 N3 T2 fun F4 N4 => hnone hn h2 _ F4 N4
end
end Mine
end
/-! part Lc2 -/
section
theorem Mine.rstLc2 : True := by
  w_top off
  trivial
open PySem PySem.Spec PySem.Calls PySem.W PyProof.Rows PyProof.V
set_option maxRecDepth 100000
set_option maxHeartbeats 4000000
namespace Mine
section
open PyProof.Rows.LCg PyProof.Rows.LCp
variable {prog : Program} {w : World} {A : Around} {E : Value → Shared → Prop} {s : Shared} {h₀ : Heap} {L : Addr} {m : Str → Option Value} {env : Env} {news : List (Addr × Obj)} {K : Frag}
/-- the turns of a comprehension over a source whose i-th item is known, by an invariant over the turn's number -/
theorem compI_inv {elt : Expr} {x : Str} {scope : Scope} {cl : List (Str × Addr)} {S : List (Addr × Obj) → Prop} {P : Nat → Value → Prop} {Fin : List Value → List (Addr × Obj) → Prop} {n : Nat} (J : Nat → List Value → List (Addr × Obj) → Prop)
    (step : ∀ i ys nw v, i < n → J i ys nw → P i v →
      ∀ I oI C oC D m₂ h tk (E' : Value → Shared → Prop), NsObj oC m₂ → m₂ x = some v → Fr h₀ L h m → News h₀ L h ((I, oI) :: (C, oC) :: (D, lst ys) :: nw) → (∀ p ∈ nw, p.1 ≠ I ∧ p.1 ≠ C ∧ p.1 ≠ D) → ((@Ne Nat I C) ∧ (@Ne Nat I D) ∧ (@Ne Nat C D)) →
      wpAny (model prog w) A (eval elt (compEnvC scope cl C env)) (CompEnd h₀ L m { s with heap := h, toks := tk } I oI C oC D (lst ys) S (fun y nw' => J (i + 1) (ys ++ [y]) nw')) E' { s with heap := h, toks := tk })
    (fin : ∀ ys nw, J n ys nw → Fin ys nw) :
    ∀ (k i : Nat) (ys : List Value) (nw : List (Addr × Obj)), i + k = n → J i ys nw → CompRest prog w A h₀ L m env elt x scope cl s S P Fin k i ys nw
  | 0, i, ys, nw, e, hj => fin ys nw (by rw [Nat.add_zero] at e; exact e ▸ hj)
  | k + 1, i, ys, nw, e, hj => by
    refine CompRest.succ fun v I oI C oC D m₂ hh tk E' hv a b F N off ne => ?_
    refine wpAny_mono (step i ys nw v (by omega) hj hv I oI C oC D m₂ hh tk E' a b F N (fun p hp => Off3.mem off p hp) ne) (fun y s₂ z => ?_) fun _ _ z => z
    obtain ⟨h', tk', nw', e', F', N', o', hS, hj'⟩ := z
    exact ⟨h', tk', nw', e', F', N', o', hS, compI_inv J step fin k (i + 1) _ nw' (by omega) hj'⟩
/-- the same where a turn keeps the ledger -/
theorem compI_same {elt : Expr} {x : Str} {scope : Scope} {cl : List (Str × Addr)} {S : List (Addr × Obj) → Prop} {P : Nat → Value → Prop} {Fin : List Value → List (Addr × Obj) → Prop} {n : Nat} {nw : List (Addr × Obj)} (J : Nat → List Value → Prop)
    (step : ∀ i ys v, i < n → J i ys → P i v →
      ∀ I oI C oC D m₂ h tk (E' : Value → Shared → Prop), NsObj oC m₂ → m₂ x = some v → Fr h₀ L h m → News h₀ L h ((I, oI) :: (C, oC) :: (D, lst ys) :: nw) → (∀ p ∈ nw, p.1 ≠ I ∧ p.1 ≠ C ∧ p.1 ≠ D) → ((@Ne Nat I C) ∧ (@Ne Nat I D) ∧ (@Ne Nat C D)) →
      wpAny (model prog w) A (eval elt (compEnvC scope cl C env)) (CompEnd h₀ L m { s with heap := h, toks := tk } I oI C oC D (lst ys) S (fun y nw' => nw' = nw ∧ J (i + 1) (ys ++ [y]))) E' { s with heap := h, toks := tk })
    (fin : ∀ ys, J n ys → Fin ys nw) (h0 : J 0 []) : CompRest prog w A h₀ L m env elt x scope cl s S P Fin n 0 [] nw :=
  compI_inv (fun i ys nw' => nw' = nw ∧ J i ys) (fun i ys nw' v hi ⟨e, hj⟩ hp I oI C oC D m₂ h tk E' a b F N off ne => by subst e; exact step i ys v hi hj hp I oI C oC D m₂ h tk E' a b F N off ne)
    (fun ys nw' ⟨e, hj⟩ => by subst e; exact fin ys hj) n 0 [] nw (Nat.zero_add _) ⟨rfl, h0⟩
end
theorem off1_mem {D : Addr} : ∀ {l : List (Addr × Obj)}, PyProof.Rows.LCg.Off1 D l → ∀ p ∈ l, p.1 ≠ D
  | [], _ => fun _ h => nomatch h
  | _ :: _, h => List.forall_mem_cons.mpr ⟨h.1, off1_mem h.2⟩
theorem off1_of {D : Addr} : ∀ {l : List (Addr × Obj)}, (∀ p ∈ l, p.1 ≠ D) → PyProof.Rows.LCg.Off1 D l
  | [], _ => trivial
  | _ :: _, h => ⟨h _ (.head _), off1_of fun p hp => h p (.tail _ hp)⟩
def FiveOf (i : Nat) (ys : List Value) : Prop := ys.length = i ∧ ∀ v ∈ ys, ∃ (b : Nat) (t : Tok), v = .int b t ∧ b < 5
theorem FiveOf.snoc {i : Nat} {ys : List Value} {b : Nat} {t : Tok} (h : FiveOf i ys) (hb : b < 5) : FiveOf (i + 1) (ys ++ [.int b t]) :=
  ⟨by rw [List.length_append, h.1]; rfl, fun v hv => by
    rcases List.mem_append.mp hv with hv | hv
    · exact h.2 v hv
    · exact ⟨b, t, List.mem_singleton.mp hv, hb⟩⟩
theorem len5 {α : Type} {ys : List α} (h : ys.length = 5) : ∃ a b c d e, ys = [a, b, c, d, e] := by
  obtain ⟨a, ys, rfl⟩ := List.exists_cons_of_length_eq_add_one h
  obtain ⟨b, ys, rfl⟩ := List.exists_cons_of_length_eq_add_one (Nat.succ.inj h)
  obtain ⟨c, ys, rfl⟩ := List.exists_cons_of_length_eq_add_one (Nat.succ.inj (Nat.succ.inj h))
  obtain ⟨d, ys, rfl⟩ := List.exists_cons_of_length_eq_add_one (Nat.succ.inj (Nat.succ.inj (Nat.succ.inj h)))
  obtain ⟨e, ys, rfl⟩ := List.exists_cons_of_length_eq_add_one (Nat.succ.inj (Nat.succ.inj (Nat.succ.inj (Nat.succ.inj h))))
  obtain rfl := List.eq_nil_of_length_eq_zero (Nat.succ.inj (Nat.succ.inj (Nat.succ.inj (Nat.succ.inj (Nat.succ.inj h)))))
  exact ⟨a, b, c, d, e, rfl⟩
theorem FiveOf.five {ys : List Value} (h : FiveOf 5 ys) : ∃ (b0 b1 b2 b3 b4 : Nat) (t0 t1 t2 t3 t4 : Tok), ys = [.int b0 t0, .int b1 t1, .int b2 t2, .int b3 t3, .int b4 t4] ∧ b0 < 5 ∧ b1 < 5 ∧ b2 < 5 ∧ b3 < 5 ∧ b4 < 5 := by
  obtain ⟨hl, h⟩ := h
  obtain ⟨v0, v1, v2, v3, v4, rfl⟩ := len5 hl
  · obtain ⟨b0, t0, rfl, h0⟩ := h v0 (.head _)
    obtain ⟨b1, t1, rfl, h1⟩ := h v1 (.tail _ (.head _))
    obtain ⟨b2, t2, rfl, h2⟩ := h v2 (.tail _ (.tail _ (.head _)))
    obtain ⟨b3, t3, rfl, h3⟩ := h v3 (.tail _ (.tail _ (.tail _ (.head _))))
    obtain ⟨b4, t4, rfl, h4⟩ := h v4 (.tail _ (.tail _ (.tail _ (.tail _ (.head _)))))
    exact ⟨b0, b1, b2, b3, b4, t0, t1, t2, t3, t4, rfl, h0, h1, h2, h3, h4⟩
theorem slicePick_mem {its : Array Value} {lo hi st : Option Int} : ∀ v ∈ (slicePick its lo hi st).toList, v ∈ its.toList := by
  intro v hv
  have hv : v ∈ (sliceRange (sliceBounds lo hi st its.size).1 (sliceBounds lo hi st its.size).2.1 (sliceBounds lo hi st its.size).2.2).filterMap (its[·]?) := hv
  obtain ⟨i, _, h⟩ := List.mem_filterMap.mp hv
  have := Array.mem_of_getElem? h
  exact Array.mem_toList_iff.mpr this
theorem slicePick_ints {vs : List Value} {ns : List Int} {lo hi st : Option Int} (h : IntsAre vs ns) : ∃ ms, IntsAre (slicePick vs.toArray lo hi st).toList ms :=
  ⟨_, intsAre_map _ fun v hv => h.all v (by have := slicePick_mem v hv; exact this)⟩
end Mine
end
/-! part R8 -/
section
local macro_rules | `(tactic| walk_at "pad") => `(tactic| skip)
theorem Mine.rstR8 : True := by
  w_top off
  trivial
open PySem PySem.Spec PySem.Calls PySem.W PyProof.Rows PyProof.V
set_option maxRecDepth 100000
set_option maxHeartbeats 4000000
namespace Mine
local macro_rules | `(tactic| k_mem) => `(tactic| assumption)
local macro_rules | `(tactic| k_all) => `(tactic| assumption)
local macro_rules | `(tactic| walk_at "getMethod ref") => `(tactic| (k_here; k_dflt (refine' method_fnG ?X ?I ?a canon_list_ga ?b ?c ?d ?e ?_; (case X => k_in); (case I => exact inst_row (by k_asm) (by k_mem) (by k_mem)); (case a => k_is); (case b => k_is); (case c => k_is); (case d => k_is); (case e => with_unfolding_all rfl); k_whole)))
local macro_rules | `(tactic| k_all) => `(tactic| first | assumption | exact ne_all_low (by assumption) (by omega))
section
theorem kinds_nat (k : Nat) : ∃ b : Nat, b < 5 ∧ ([2, 3, 1, 2, 4, 0, 3] : List Int).getD k 0 = (b : Int) := by
  match k with
  | 0 => exact ⟨2, by decide, rfl⟩
  | 1 => exact ⟨3, by decide, rfl⟩
  | 2 => exact ⟨1, by decide, rfl⟩
  | 3 => exact ⟨2, by decide, rfl⟩
  | 4 => exact ⟨4, by decide, rfl⟩
  | 5 => exact ⟨0, by decide, rfl⟩
  | 6 => exact ⟨3, by decide, rfl⟩
  | _ + 7 => exact ⟨0, by decide, rfl⟩
open PyProof.Rows.LCg PyProof.Rows.LCp
variable {w : World} {loose : List Str} {mean : ExcName → Option Value} {mg mb : Str → Option Value}
  {dp un : Nat} {gd : Option (List Code)} {cn : Str} {cs : Scope} {a : Addr} {ccd : Value} {cl : List (Str × Addr)} {outer : List Env} {A₀ : Around} {base h₀ : Heap} {L : Addr} {m : Str → Option Value} {s : Shared} {Q E : Value → Shared → Prop} {news : List (Addr × Obj)}

theorem wishes_spec {sl : Addr} {vs : List Value} {ns : List Int}
    (B : Below A₀ base outer h₀) (F : Fr h₀ L s.heap m) (X : (Mine.hd.heap_39 w.params).In h₀) (N : News h₀ L s.heap news) (T : Top Mine.hd.view_39 loose mean mg mb h₀) (hK : cs.kind = .function)
    (hS : base.IsList sl vs.toArray) (hI : IntsAre vs ns) (hlen : ns.length ≤ 63)
    (hd : dp + 8 < recursionLimit) (hu : un + 64 < cLine)
    (hret : ∀ (D : Addr) (b0 b1 b2 b3 b4 : Nat) (t0 t1 t2 t3 t4 : Tok) (n : Nat) (h' : Heap) (tk' : Nat), b0 < 5 → b1 < 5 → b2 < 5 → b3 < 5 → b4 < 5 → Fr h₀ L h' m → News h₀ L h' ((D, lstO [.int b0 t0, .int b1 t1, .int b2 t2, .int b3 t3, .int b4 t4] n) :: news) → (∀ p ∈ news, p.1 ≠ D) → Q (.ref D) { s with heap := h', toks := tk' }) :
    wpAny (model Challenge.rw_xg0075_01.row.prog w) (ktrTop dp un gd cn cs L a ccd cl outer) (call (.ref 266) [.ref sl]) Q E s := by
  refine wpAny_call ?_
  refine' code_defC (binds := [(Str.ofString "script", .ref sl)]) B F X N T (by exact rfl) (by exact rfl) hK ?k6 ?k7 ?k8 ?k9 ?kB ?kN ?_ ?c2 ?c3 ?c4
  case k6 => k_is
  case k7 => k_is
  case k8 => ktr_room
  case k9 => exact BindsTo.of_eq rfl
  case kB => exact rfl
  case kN => decide
  case c2 => exact rfl
  case c3 => exact rfl
  case c4 => exact rfl
  intro g' L' h' tk cells FG' F' N' Y' B' X' T' lN
  try k_lt lN
  k_cells Y'
  try simp only [List.cons_append, List.nil_append] at N'
  try k_lift B'
  try k_fold
  iterate 48 walk1
  rename Fr _ _ _ _ => F2
  rename News _ _ _ _ => N2
  rename IsRange _ _ _ _ _ _ _ _ => R2
  refine CompSrc.range (n := 5) (by rfl) F2 N2 R2 (by decide) (by rfl) (by rw [sizeLine_eq]; decide) ?_
  intro g
  refine compI_same FiveOf ?_ ?_ ⟨rfl, fun _ h => nomatch h⟩
  · rintro i ys v hi hJ ⟨tv, rfl⟩ I oI C oC D m₂ h4 tk4 E' hC hx F4 N4 off ne
    have hk0 : 0 ≤ (0 : Int) + (i : Int) := by omega
    have hk5 : (0 : Int) + (i : Int) < 5 := by omega
    clear F2 N2 R2
    iterate 21 walk1
    k_dflt (refine' slice_list3 ?xF ?xN ?xl ?xp ?xq ?xk ?xo ?xh ?xs ?xt ?xz)
    case xF => exact F4
    case xN => exact N4
    case xl => exact Fr.lst F4 (by k_asm)
    case xp => exact IsPart.int _ _
    case xq => exact IsPart.int _ _
    case xk => exact IsPart.int _ _
    case xo => decide
    case xs => with_unfolding_all rfl
    case xt => intro _; with_unfolding_all rfl
    case xz => rw [List.size_toArray, hI.length, sizeLine_eq]; omega
    intro h5 F5 N5
    have lD : ∀ p ∈ (I, oI) :: (C, oC) :: (D, lst ys) :: _, p.1 < h4.objs.size + 1 := fun p hp => Nat.lt_succ_of_lt (Heap.lt_size (N4 p hp).1)
    obtain ⟨ms, hms⟩ := slicePick_ints (lo := some ((0 : Int) + (i : Int))) (hi := some 60) (st := some 5) hI
    generalize h4.objs.size + 1 = sD at *
    clear F4 N4
    walk1
    k_dflt (refine' sumK ?k0 ?xF ?xN ?k3 hms ?_)
    case k0 => with_unfolding_all rfl
    case xF => exact F5
    case xN => exact N5
    case k3 => exact ⟨_, (N5 _ (.head _)).1, rfl, _, rfl⟩
    intro h6 tk6 t6 F6 N6
    clear F5 N5
    k_whole
    iterate 4 walk1
    refine CompEnd.intro F6 N6 _ (fun p hp => .tail _ hp) (Off3.of off) trivial ⟨rfl, ?_⟩
    obtain ⟨b, hb, eb⟩ := kinds_nat (([1, 0, 6, 2, 1].getD (0 + (i : Int)).toNat 0 + ms.sum).fmod 7).toNat
    exact Eq.mp (congrArg (fun z => FiveOf (i + 1) (ys ++ [Value.int z _])) eb.symm) (hJ.snoc hb)
  · intro ys hJ
    obtain ⟨b0, b1, b2, b3, b4, t0, t1, t2, t3, t4, rfl, h0, h1, h2, h3, h4⟩ := hJ.five
    clear F2 N2 R2
    intro D h5 tk5 F5 N5 off5
    obtain ⟨-, -, -, -, -, off5⟩ := off5
    refine leaveK_ F5 N5 fun F6 N6 => ?_
    exact hret D b0 b1 b2 b3 b4 t0 t1 t2 t3 t4 _ h5 _ h0 h1 h2 h3 h4 F6 (cb_drop N6 (sub_cons (.head _) fun p hp => .tail _ (.tail _ (.tail _ (.tail _ (.tail _ (.tail _ hp))))))) (off1_mem off5)
end
end Mine
end
/-! part R9 -/
section
theorem Mine.rstR9 : True := by
  w_top off
  trivial
open PySem PySem.Spec PySem.Calls PySem.W PyProof.Rows PyProof.V
set_option maxRecDepth 100000
set_option maxHeartbeats 4000000
namespace Mine
local macro_rules | `(tactic| k_mem) => `(tactic| assumption)
local macro_rules | `(tactic| k_all) => `(tactic| assumption)
local macro_rules | `(tactic| walk_at "getMethod ref") => `(tactic| (k_here; k_dflt (refine' method_fnG ?X ?I ?a canon_list_ga ?b ?c ?d ?e ?_; (case X => k_in); (case I => exact inst_row (by k_asm) (by k_mem) (by k_mem)); (case a => k_is); (case b => k_is); (case c => k_is); (case d => k_is); (case e => with_unfolding_all rfl); k_whole)))
local macro_rules | `(tactic| k_all) => `(tactic| first | assumption | exact ne_all_low (by assumption) (by omega))
section
variable {w : World} {loose : List Str} {mean : ExcName → Option Value} {mg mb : Str → Option Value}
  {dp un : Nat} {gd : Option (List Code)} {cn : Str} {cs : Scope} {a : Addr} {ccd : Value} {cl : List (Str × Addr)} {outer : List Env} {A₀ : Around} {base h₀ : Heap} {L : Addr} {m : Str → Option Value} {s : Shared} {Q E : Value → Shared → Prop} {news : List (Addr × Obj)}

theorem count_spec {d : Addr} {o : Obj} {kv : List (Str × Value)} {ns : List Str}
    (B : Below A₀ base outer h₀) (F : Fr h₀ L s.heap m) (X : (Mine.hd.heap_39 w.params).In h₀) (N : News h₀ L s.heap news) (T : Top Mine.hd.view_39 loose mean mg mb h₀) (hK : cs.kind = .function)
    (m0 : (d, o) ∈ news) (d0 : o.IsDictOf (PySem.strKind Challenge.rw_xg0075_01.row.prog w) kv) (l0 : (d == sysModules) = false) (o0 : Ones kv ns) (hz : ns.length < 100)
    (hd : dp + 8 < recursionLimit) (hu : un + 64 < cLine)
    (hret : ∀ (t : Tok) (h' : Heap) (tk' : Nat), Fr h₀ L h' m → News h₀ L h' news → Q (.int (ns.length : Nat) t) { s with heap := h', toks := tk' }) :
    wpAny (model Challenge.rw_xg0075_01.row.prog w) (ktrTop dp un gd cn cs L a ccd cl outer) (call (.ref 63) [.ref d]) Q E s := by
  refine wpAny_call ?_
  refine' code_def (binds := [(Str.ofString "callers", .ref d)]) B F X N T (by exact rfl) (by exact rfl) hK ?k6 ?k7 ?k8 ?k9 ?kB ?_ ?c2 ?c3 ?c4 ?c5
  case k6 => k_is
  case k7 => k_is
  case k8 => ktr_room
  case k9 => exact BindsTo.of_eq rfl
  case c5 => decide
  case kB => exact locs rfl
  case c2 => exact rfl
  case c3 => exact rfl
  case c4 => exact rfl
  intro g' L' h' FG' F' N' B' X' T'
  try dsimp only
  try k_fold
  try k_lift B'
  try k_fold
  iterate 6 walk1
  rename Fr _ _ _ _ => lF'
  rename News _ _ _ _ => lN'
  refine name_map lF' fun mm hmm lF' => ?_
  with_unfolding_all ((refine' For_turns lF' ?_); k_whole; (refine MethodCall_ ?_); (refine ld lF' (by subst hmm; rfl) ?_); (refine kdl_method (knd := PySem.strKind _ _) PySem.F.slot_dict_values PySem.F.type_dict_values lN' m0 d0 ?_); (refine callWith_method0 ?_))
  refine kta_callValues (knd := PySem.strKind _ _) lF' lN' m0 d0 l0 ?_
  intro hv hv' F1 N1
  refine kta_vals (knd := PySem.strKind _ _) (by with_unfolding_all rfl) F1 N1 hv' m0 d0 rfl ?_
  intro I lI
  refine items_inv (fun (p : Str × Value) => Itm.val p.2) (fun rem m2 nw => ∃ (pre : List (Str × Value)) (u1 : Option Value) (t : Tok), kv = pre ++ rem ∧ nw = news ∧ m2 = fun y => if y = Str.ofString "calls" then u1 else if y = Str.ofString "nc" then some (.int (pre.length : Nat) t) else mm y) ?_ ?_ kv _ _ ⟨[], none, tk, rfl, rfl, ?_⟩
  · rintro ⟨x, v1⟩ r m2 nw v hh tk2 io ⟨pre, u1, t, hk, rfl, rfl⟩ hv2 hio F2 N2
    have hp : (x, v1) ∈ kv := by rw [hk]; exact List.mem_append_right _ (.head _)
    obtain ⟨t1, e1⟩ := o0.2 _ hp
    have hv2' : v = v1 := hv2
    subst hv2'
    have e1' : v = .int 1 t1 := e1
    subst e1'
    clear hv2 e1
    have hpl : pre.length < 100 := by
      have e1 : kv.length = ns.length := by rw [← o0.1, List.length_map]
      have e2 := congrArg List.length hk
      rw [List.length_append] at e2
      omega
    subst hmm
    clear F1 N1 lF' lN'
    repeat' walk1
    rename Fr _ _ _ _ => F3
    rename News _ _ _ _ => N3
    refine' unrEndA F3 N3 nw (fun p hp => ?ka) (fun p hp => .tail _ hp) (fun p hp q hq => ?kb) ⟨⟨m0, trivial⟩, pre ++ [(x, .int 1 t1)], some (.int 1 t1), ?kt, ?kc, rfl, ?kd⟩
    case ka => rw [List.mem_singleton.mp hp]; exact .head _
    case kb => rw [List.mem_singleton.mp hq]; exact Nat.ne_of_lt (lI _ hp)
    case kc => rw [List.append_assoc]; exact hk
    case kd =>
      rw [List.length_append, List.length_singleton, Int.natCast_add]
      funext y
      by_cases e1 : y = Str.ofString "nc"
      · subst e1; with_unfolding_all rfl
      by_cases e0 : y = Str.ofString "calls"
      · subst e0; with_unfolding_all rfl
      simp only [e0, e1, if_false]
  · rintro m2 nw hh tk2 ⟨pre, u1, t, hk, rfl, rfl⟩ F2 N2
    subst hmm
    clear F1 N1 lF' lN'
    rw [List.append_nil] at hk
    subst hk
    have e1 : kv.length = ns.length := by rw [← o0.1, List.length_map]
    rw [e1] at F2
    repeat' walk1
    exact hret _ _ _ (by assumption) (by assumption)
  · subst hmm
    funext y
    by_cases e0 : y = Str.ofString "calls"
    · subst e0; with_unfolding_all rfl
    by_cases e1 : y = Str.ofString "nc"
    · subst e1; with_unfolding_all rfl
    simp only [e0, e1, if_false]
end
end Mine
end
/-! part Lt -/
section
theorem Mine.rstLt : True := by
  w_top off
  trivial
open PySem PySem.Spec PySem.Calls PySem.W PyProof.Rows PyProof.V
set_option maxRecDepth 100000
set_option maxHeartbeats 4000000
namespace Mine
section
variable {prog : Program} {w : World} {A : Around} {E : Value → Shared → Prop} {s : Shared} {env : Env} {h₀ : Heap} {target : Expr} {body : List Stmt} {Q : Flow → Shared → Prop}
theorem letGo_rangeiter {I : Addr} {x l c : Int} {v : Value} {Q' : Unit → Shared → Prop} {s' : Shared} (hit : IsRangeIter s'.heap I x l c) (h : Q' () s') :
    wpAny (model prog w) A (letOwnedTupleGo target (.ref I) v) Q' E s' := by
  have ho : s'.heap.get? I = some _ := hit
  unfold letOwnedTupleGo
  cases target <;> first
    | exact wpAny_pure h
    | (cases v <;> first
        | exact wpAny_pure h
        | (refine wpAny_bind (wpAny_load ho ?_)
           exact wpAny_pure h))
theorem iter_rangeTurns {r : Addr} {a₀ b₀ : Int} {t₀ u₀ v₀ : Tok} {n : Nat} {m₀ : Str → Option Value} {news : List (Addr × Obj)}
    (hh : A.handled = none) (hr : IsRange s.heap r a₀ b₀ 1 t₀ u₀ v₀) (hsmall : Builtin.Range.small a₀ b₀ 1 = true) (hn : Builtin.Range.rangeSize a₀ b₀ 1 = (n : Int)) (F : Fr h₀ env.locals s.heap m₀) (N : News h₀ env.locals s.heap news)
    (rest₀ : ∀ I : Addr, (∀ p ∈ news, p.1 < I) → ItemsRest prog w A E h₀ env target body Q s [(I, "range_iterator")] [] ((List.range n).map fun (i : Nat) => .tok fun t => .int (a₀ + (i : Int)) t) m₀ news) :
    wpAny (model prog w) A (pyIter (.ref r)) (fun it s₂ => TurnsAt prog w A h₀ env target body Q E it s₂) E s := by
  refine wpAny_pyIter_range hr hsmall ?_
  refine ktu_core (tk0 := s.toks) (keep := []) (KTurns.ofWalks (Walks.range hh s.heap.objs.size a₀ 1 n).bound fun i v s Q E st q => letGo_rangeiter st q) (by simp) (fun i v h hp => ?_) (fun i h st => ?_) (fun b hb => ?_) (fun b hb => by simpa using hb) (fun b hb => ?_) ?_ (fun p hp hI => ?_) ?_ (F.push _) (fun p hp => ⟨Heap.get?_push_of_some _ (N p hp).1, (N p hp).2⟩) trivial (rest₀ _ fun p hp => Heap.lt_size (N p hp).1)
  · obtain ⟨hin, t, e⟩ := hp
    refine ⟨.tok fun t => .int (a₀ + (i : Int)) t, ?_, t, ?_⟩
    · rw [List.getElem?_map, List.getElem?_range hin]; rfl
    · rw [e, Int.mul_one]
  · have st' : h.get? s.heap.objs.size = some _ := st
    exact ⟨[(s.heap.objs.size, _)], ⟨⟨rfl, rfl⟩, trivial⟩, fun p hp => by rw [List.mem_singleton.mp hp]; exact st'⟩
  · have hb' : b = s.heap.objs.size := by simpa using hb
    rw [hb']
    exact ⟨List.mem_cons_self .., next_is_new F⟩
  · have hb' : b = s.heap.objs.size := by simpa using hb
    exact .inl (by simp [hb'])
  · intro hI
    have e : env.locals = s.heap.objs.size := by simpa using hI
    exact absurd F.ns.lt (e ▸ Nat.lt_irrefl _)
  · exact absurd (Heap.lt_size (N p hp).1) ((List.mem_singleton.mp hI) ▸ Nat.lt_irrefl _)
  · show IsRangeIter _ _ _ _ _
    rw [hn]
    simpa using Heap.get?_push_size _ rfl
end
end Mine
end
/-! part R10 -/
section
theorem Mine.rstR10 : True := by
  w_top off
  trivial
open PySem PySem.Spec PySem.Calls PySem.W PyProof.Rows PyProof.V
set_option maxRecDepth 100000
set_option maxHeartbeats 4000000
namespace Mine
local macro_rules | `(tactic| k_mem) => `(tactic| assumption)
local macro_rules | `(tactic| k_all) => `(tactic| assumption)
local macro_rules | `(tactic| walk_at "call builtin:min") => `(tactic| ((with_reducible show wpAny _ _ (call (Value.builtin _) [Value.int _ _, Value.int _ _]) _ _ _); (rename News _ _ _ _ => N'); (with_unfolding_all apply min_two_N); (case hh => with_unfolding_all rfl); (case N => exact N'); (case F => assumption); clear N'; intro _ _ _ _))
local macro_rules | `(tactic| walk_at "getMethod ref") => `(tactic| (k_here; k_dflt (refine' method_fnG ?X ?I ?a canon_list_ga ?b ?c ?d ?e ?_; (case X => k_in); (case I => exact inst_row (by k_asm) (by k_mem) (by k_mem)); (case a => k_is); (case b => k_is); (case c => k_is); (case d => k_is); (case e => with_unfolding_all rfl); k_whole)))
local macro_rules | `(tactic| k_all) => `(tactic| first | assumption | exact ne_all_low (by assumption) (by omega))
section
def bndI (fs : List Int) (k : Int) : Int := k * (k - 1) + ((fs.drop k.toNat).map fun x => if k < x then k else x).sum - (fs.take k.toNat).sum
theorem name_drop {x : Str} {v u : Option Value} {m0 : Str → Option Value} : (fun y => if y = x then v else if y = x then u else m0 y) = fun y => if y = x then v else m0 y := by
  funext y
  by_cases e : y = x
  · rw [if_pos e, if_pos e]
  · rw [if_neg e, if_neg e, if_neg e]
theorem ints_snoc_of {vs : List Value} {ns : List Int} {a b : Int} {t : Tok} (h : IntsAre vs ns) (e : a = b) : IntsAre (vs ++ [.int a t]) (ns ++ [b]) := e ▸ ints_snoc h
open PyProof.Rows.LCg PyProof.Rows.LCp
variable {w : World} {loose : List Str} {mean : ExcName → Option Value} {mg mb : Str → Option Value}
  {dp un : Nat} {gd : Option (List Code)} {cn : Str} {cs : Scope} {a : Addr} {ccd : Value} {cl : List (Str × Addr)} {outer : List Env} {A₀ : Around} {base h₀ : Heap} {L : Addr} {m : Str → Option Value} {s : Shared} {Q E : Value → Shared → Prop} {news : List (Addr × Obj)}

theorem bounds_spec {fl : Addr} {f0 f1 f2 f3 f4 : Nat} {t0 t1 t2 t3 t4 : Tok} {n : Nat}
    (B : Below A₀ base outer h₀) (F : Fr h₀ L s.heap m) (X : (Mine.hd.heap_39 w.params).In h₀) (N : News h₀ L s.heap news) (T : Top Mine.hd.view_39 loose mean mg mb h₀) (hK : cs.kind = .function)
    (m0 : (fl, lstO [.int f0 t0, .int f1 t1, .int f2 t2, .int f3 t3, .int f4 t4] n) ∈ news) (c0 : f0 < 5) (c1 : f1 < 5) (c2 : f2 < 5) (c3 : f3 < 5) (c4 : f4 < 5)
    (hd : dp + 8 < recursionLimit) (hu : un + 64 < cLine)
    (hret : ∀ (D : Addr) (bs : List Value) (nb : Nat) (h' : Heap) (tk' : Nat), Fr h₀ L h' m → News h₀ L h' ((D, lstO bs nb) :: news) → (∀ p ∈ news, p.1 ≠ D) → IntsAre bs ((List.range 5).map fun (j : Nat) => bndI [(f0 : Int), f1, f2, f3, f4] (1 + (j : Int))) → Q (.ref D) { s with heap := h', toks := tk' }) :
    wpAny (model Challenge.rw_xg0075_01.row.prog w) (ktrTop dp un gd cn cs L a ccd cl outer) (call (.ref 283) [.ref fl]) Q E s := by
  refine wpAny_call ?_
  refine' code_defC (binds := [(Str.ofString "falling", .ref fl)]) B F X N T (by exact rfl) (by exact rfl) hK ?k6 ?k7 ?k8 ?k9 ?kB ?kN ?_ ?c2 ?c3 ?c4
  case k6 => k_is
  case k7 => k_is
  case k8 => ktr_room
  case k9 => exact BindsTo.of_eq rfl
  case kB => exact rfl
  case kN => decide
  case c2 => exact rfl
  case c3 => exact rfl
  case c4 => exact rfl
  intro g' L' h' tk cells FG' F' N' Y' B' X' T' lN
  try k_lt lN
  k_cells Y'
  try simp only [List.cons_append, List.nil_append] at N'
  try k_lift B'
  try k_fold
  rename Obj => co
  iterate 8 walk1
  rename_i bl hx1 l1 hx2 F2 N2
  refine name_map F2 fun mm hmm F2 => ?_
  with_unfolding_all (refine' For_turns F2 ?_)
  k_whole
  repeat' walk1
  rename Fr _ _ _ _ => F3
  rename News _ _ _ _ => N3
  rename IsRange _ _ _ _ _ _ _ _ => R3
  rename (_ = Data.cell _) => d1
  obtain ⟨l1, l2⟩ := l1
  have l2 := allLt_all l2
  refine iter_rangeTurns (n := 5) (by with_unfolding_all rfl) R3 (by decide) (by rfl) F3 N3 ?_
  intro I lI
  refine items_inv (fun (i : Nat) => Itm.tok fun t => .int (1 + (i : Int)) t) (fun rem m2 nw => ∃ (i : Nat) (u : Option Value) (bs : List Value) (nb : Nat) (co' : Obj) (v' : Option Value), rem = (List.range 5).drop i ∧ i ≤ 5 ∧ nw = (bl, lstO bs nb) :: (L' + 1, co') :: news ∧ m2 = (fun y => if y = Str.ofString "most" then u else mm y) ∧ co'.data = .cell v' ∧ IntsAre bs ((List.range i).map fun (j : Nat) => bndI [(f0 : Int), f1, f2, f3, f4] (1 + (j : Int)))) ?_ ?_ (List.range 5) _ _ ⟨0, none, [], 0, co, _, rfl, by omega, rfl, ?_, d1, .nil⟩
  · rintro x rem m2 nw v hh tk2 io ⟨i, u, bs, nb, co', v', hrem, hi, rfl, rfl, dc, hb⟩ ⟨tv, rfl⟩ hio F4 N4
    clear F3 N3 R3 F2
    have hi5 : i < 5 := by
      have := congrArg List.length hrem
      rw [List.length_cons, List.length_drop, List.length_range] at this
      omega
    obtain ⟨rfl, hrem⟩ : x = i ∧ rem = (List.range 5).drop (i + 1) := by
      rw [List.drop_eq_getElem_cons (by rw [List.length_range]; exact hi5)] at hrem
      rw [List.getElem_range] at hrem
      exact ⟨(List.cons.inj hrem).1, (List.cons.inj hrem).2⟩
    have lIb : @Ne Nat bl I := Nat.ne_of_lt (lI _ (.head _))
    have lIc : @Ne Nat (L' + 1) I := Nat.ne_of_lt (lI _ (.tail _ (.head _)))
    have lIn : ∀ p ∈ news, p.1 ≠ I := fun p hp => Nat.ne_of_lt (lI _ (.tail _ (.tail _ hp)))
    have lbc : @Ne Nat bl (L' + 1) := Nat.ne_of_gt l1
    have lnc : ∀ p ∈ news, p.1 ≠ L' + 1 := fun p hp => Nat.ne_of_lt (Nat.lt_succ_of_lt (lN p hp))
    have lnb : ∀ p ∈ news, p.1 ≠ bl := fun p hp => Nat.ne_of_lt (l2 p hp)
    refine wpAny_assign_Name ?_
    k_dflt (refine' storeX_C F4 N4 ?hc ?U ?hd ?_ ?hk ?hx)
    case hc => rfl
    case hk => rfl
    case hx => rfl
    case hd => exact dc
    case U => exact .tail (Ne.symm lIc) (.tail lbc (.head lnc))
    intro h3 oc F5 N5 d3
    clear F4 N4
    dsimp only at N5 ⊢
    k_whole
    have hk0 : 1 ≤ (1 : Int) + (x : Int) := by omega
    have hk5 : (1 : Int) + (x : Int) ≤ 5 := by omega
    generalize hkk : (1 : Int) + (x : Int) = kk at *
    subst hmm
    repeat' walk1
    rename Fr _ _ _ _ => F6
    rename News _ _ _ _ => N6
    k_dflt (refine' append_K (D := bl) (its := bs.toArray) (n := nb) F6 N6 ?xU ?_ ?xz)
    case xU => exact .tail (by k_ne) (.tail (by k_ne) (.tail (by k_ne) (.tail (Ne.symm lIb) (.head (List.forall_mem_cons.mpr ⟨Ne.symm lbc, lnb⟩)))))
    case xz =>
      have := hb.length
      rw [List.length_map, List.length_range] at this
      rw [sizeLine_eq, List.size_toArray]; omega
    intro h7 F7 N7
    k_whole
    rw [List.push_toArray] at N7
    clear F6 N6
    iterate 3 walk1
    obtain ⟨tz, N8⟩ : ∃ tz, News g' L' h7 ((I, io) :: (bl, lstO (bs ++ [.int (bndI [(f0 : Int), f1, f2, f3, f4] kk) tz]) (nb + 1)) :: (L' + 1, oc) :: news) := ⟨_, cb_drop N7 fun p hp => .tail _ (.tail _ (.tail _ hp))⟩
    have F8 := Eq.mp (congrArg (Fr g' L' h7) name_drop) F7
    refine unrEndA F8 N8 ((bl, lstO (bs ++ [.int (bndI [(f0 : Int), f1, f2, f3, f4] kk) tz]) (nb + 1)) :: (L' + 1, oc) :: news) (fun p hp => ?_) (fun p hp => .tail _ hp) (fun p hp q hq => ?_) ⟨trivial, x + 1, _, _, nb + 1, oc, _, hrem, hi5, rfl, rfl, d3, ?_⟩
    · rw [List.mem_singleton.mp hp]; exact .head _
    · rw [List.mem_singleton.mp hq]
      rcases List.mem_cons.mp hp with rfl | hp
      · exact lIb
      rcases List.mem_cons.mp hp with rfl | hp
      · exact lIc
      · exact lIn _ hp
    · rw [List.range_succ, List.map_append]
      refine ints_snoc_of hb ?_
      rw [← hkk]
  · rintro m2 nw hh tk2 ⟨i, u, bs, nb, co', v', hrem, hi, rfl, rfl, dc, hb⟩ F4 N4
    clear F3 N3 R3 F2
    obtain rfl : i = 5 := by
      have := congrArg List.length hrem
      rw [List.length_nil, List.length_drop, List.length_range] at this
      omega
    subst hmm
    dsimp only
    repeat' walk1
    rename Fr _ _ _ _ => F8
    rename News _ _ _ _ => N8
    exact hret bl bs nb _ _ (by assumption) (cb_drop (by assumption) (sub_cons (.head _) fun p hp => .tail _ (.tail _ hp))) (fun p hp => Nat.ne_of_lt (l2 p hp)) hb
  · subst hmm
    funext y
    by_cases e0 : y = Str.ofString "most"
    · subst e0; with_unfolding_all rfl
    simp only [e0, if_false]
end
end Mine
end
/-! part Lx -/
section
theorem Mine.rstLx : True := by
  w_top off
  trivial
open PySem PySem.Spec PySem.Calls PySem.W PyProof.Rows PyProof.V
set_option maxRecDepth 100000
set_option maxHeartbeats 4000000
namespace Mine
section
open PyProof.Rows.LCg PyProof.Rows.LCp
abbrev cellO (v : Option Value) : Obj := { cls := .type "cell", data := .cell v }
theorem newEnv_one {M : Model} {A : Around} {E : Value → Shared → Prop} {s : Shared} {scope : Scope} {globals : Addr} {cl : List (Str × Addr)} {qual : Str} {env : Env} {x : Str} {Q : Env → Shared → Prop}
    (hcells : ∀ n, cellsFrom n scope.names cl = (x, n) :: cl) (hpush : ∀ h, pushCells h scope.names = h.push (cellO none))
    (hQ : Q { scope, locals := s.heap.objs.size, globals, cells := (x, s.heap.objs.size + 1) :: cl, qual, func := none, code := env.code, frame := env.frame, builtins := env.builtins }
      { s with heap := (s.heap.push { cls := .type "dict", data := .dict #[] }).push (cellO none) }) :
    wpAny M A (newFunctionEnv scope globals cl [] qual none .none (some env)) Q E s := by
  simp only [newFunctionEnv, Option.isSome_some, if_true]
  refine wpAny_bind (wpAny_alloc ?_)
  refine wpAny_bind (wpAny_layCells _ (fun name kind cells => by cases hkc : kind == NameKind.cell <;> simp [hkc]) _ _ _ _ ?_)
  rw [hpush, hcells]
  rw [show ({ s with heap := s.heap.push { cls := .type "dict", data := .dict #[] } } : Shared).heap.objs.size = s.heap.objs.size + 1 from Heap.size_push ..]
  rw [List.forIn_nil]
  exact wpAny_bind (wpAny_pure (wpAny_pure hQ))
theorem relabel_cell {scope : Scope} {env : Env} {x : Str} (h : scope.names.lookup x = some .cell) : (relabel scope env).names.lookup x = some .cell := by
  have go : ∀ names : List (Str × NameKind), names.lookup x = some .cell → (names.map fun (n, k) => if (k == .free && env.scope.kind == .function && env.kindOf n == some .cell) then (n, NameKind.cell) else (n, k)).lookup x = some .cell := by
    intro names
    induction names with
    | nil => intro h; cases h
    | cons p r ih =>
      obtain ⟨n, k⟩ := p
      intro h
      rw [List.map_cons]
      rw [List.lookup_cons] at h
      by_cases hn : (x == n) = true
      · simp only [hn] at h
        have hk : k = .cell := Option.some.inj h
        subst hk
        simp [List.lookup_cons, hn]
      · have hn' : (x == n) = false := by simpa using hn
        simp only [hn'] at h
        have e : (if (k == .free && env.scope.kind == .function && env.kindOf n == some .cell) = true then (n, NameKind.cell) else (n, k)).1 = n := by split <;> rfl
        show List.lookup x ((if (k == .free && env.scope.kind == .function && env.kindOf n == some .cell) = true then (n, NameKind.cell) else (n, k)) :: _) = _
        generalize (if (k == .free && env.scope.kind == .function && env.kindOf n == some .cell) = true then (n, NameKind.cell) else (n, k)) = q at e
        obtain ⟨q1, q2⟩ := q
        have e' : q1 = n := e
        subst e'
        rw [List.lookup_cons]
        simp only [hn']
        exact ih h
  exact go _ h
theorem news_same {h₀ h h' : Heap} {L a : Addr} {l : List (Addr × Obj)} (N : News h₀ L h l) (hs : Heap.SameBut a h h') (off : ∀ p ∈ l, p.1 ≠ a) : News h₀ L h' l := fun p hp =>
  ⟨(hs.2 p.1 (off p hp)).trans (N p hp).1, (N p hp).2⟩
/-- a list comprehension whose variable is kept in a cell (an inner block asks for it); the source a list of the ledger -/
theorem ListComp_X {prog : Program} {w : World} {A : Around} {E : Value → Shared → Prop} {s : Shared} {h₀ : Heap} {L : Addr} {m : Str → Option Value} {env : Env} {news : List (Addr × Obj)}
    {elt iter : Expr} {x : Str} {px : Pos} {scope : Scope} {cl : List (Str × Addr)} {pos : Pos} {Q : Value → Shared → Prop} {ax : Addr} {vs : List Value} {n0 : Nat}
    (hclos : closureFor scope env = pure cl) (hcells : ∀ n, cellsFrom n scope.names cl = (x, n) :: cl) (hpush : ∀ h, pushCells h scope.names = h.push (cellO none)) (hkind : scope.kind = .function)
    (hnames : ∀ y ∈ scope.names, y.2 = .local → scope.names.lookup y.1 = some .local) (hx : scope.names.lookup x = some .cell)
    (F : Fr h₀ L s.heap m) (N : News h₀ L s.heap news) (hm : (ax, lstO vs n0) ∈ news) (hsz : vs.length ≤ sizeLine) (hh : A.handled = none)
    (hev : ∀ Q' : Value → Shared → Prop, Q' (.ref ax) s → wpAny (model prog w) A (eval iter env) Q' E s)
    (J : Nat → List Value → List (Addr × Obj) → Prop) (J0 : J 0 [] news)
    (step : ∀ i ys nw v, vs[i]? = some v → J i ys nw → (ax, lstO vs n0) ∈ nw →
      ∀ I oI C oC c oc D h tk (E' : Value → Shared → Prop), oc.data = .cell (some v) → Fr h₀ L h m → News h₀ L h ((I, oI) :: (C, oC) :: (c, oc) :: (D, lst ys) :: nw) → (∀ p ∈ nw, p.1 ≠ I ∧ p.1 ≠ C ∧ p.1 ≠ c ∧ p.1 ≠ D) →
      ((@Ne Nat I C) ∧ (@Ne Nat I c) ∧ (@Ne Nat I D) ∧ (@Ne Nat C c) ∧ (@Ne Nat C D) ∧ (@Ne Nat c D)) →
      wpAny (model prog w) A (eval elt (compEnvC scope ((x, c) :: cl) C env)) (fun y s₂ => ∃ h' tk' nw', s₂ = { s with heap := h', toks := tk' } ∧ Fr h₀ L h' m ∧ News h₀ L h' ((I, oI) :: (C, oC) :: (c, oc) :: (D, lst ys) :: nw') ∧
        (∀ p ∈ nw', p.1 ≠ I ∧ p.1 ≠ C ∧ p.1 ≠ c ∧ p.1 ≠ D) ∧ (ax, lstO vs n0) ∈ nw' ∧ J (i + 1) (ys ++ [y]) nw') E' { s with heap := h, toks := tk })
    (fin : ∀ ys nw D h tk, J vs.length ys nw → Fr h₀ L h m → News h₀ L h ((D, lst ys) :: nw) → (∀ p ∈ nw, p.1 ≠ D) → Q (.ref D) { s with heap := h, toks := tk })
    (hs : ∀ x, foldedSetIterable iter env x = pure x := by intro _; rfl) :
    wpAny (model prog w) A (eval (.ListComp elt [⟨.Name x px, iter, [], 0⟩] scope pos) env) Q E s := by
  rw [eval_ListComp]
  refine wpAny_comprehension_free (use := none) rfl hs hclos hkind hnames (hev _ ?_)
  have hl : s.heap.IsList ax vs.toArray := ⟨_, (N _ hm).1, rfl, _, rfl⟩
  refine wpAny_pyIter_list hl ?_
  refine wpAny_newObj_type (newEnv_one hcells hpush ?_)
  -- the addresses
  have hI0 : s.heap.get? s.heap.objs.size = none := by
    cases e : s.heap.get? s.heap.objs.size with
    | none => rfl
    | some o => exact absurd (Heap.lt_size e) (Nat.lt_irrefl _)
  have lN : ∀ p ∈ news, p.1 < s.heap.objs.size := fun p hp => Heap.lt_size (N p hp).1
  have lL : L < s.heap.objs.size := F.ns.lt
  have fresh : ∀ a, s.heap.objs.size ≤ a → h₀.get? a = none := fun a ha => by
    cases e : h₀.get? a with
    | none => rfl
    | some o => exact absurd (Heap.lt_size (F.keep _ _ e)) (Nat.not_lt.mpr ha)
  simp only [Heap.size_push]
  -- what stands at the loop's start
  have up : ∀ b o, s.heap.get? b = some o → ((((s.heap.push { cls := .type "list_iterator", data := .fields #[.ref ax, .int 0 0] }).push { cls := .type "list", dict := none, data := .seq ([] : List Value).toArray }).push { cls := .type "dict", data := .dict #[] }).push (cellO none)).get? b = some o :=
    fun b o e => Heap.get?_push_of_some _ (Heap.get?_push_of_some _ (Heap.get?_push_of_some _ (Heap.get?_push_of_some _ e)))
  generalize hH : (((s.heap.push { cls := .type "list_iterator", data := .fields #[.ref ax, .int 0 0] }).push { cls := .type "list", dict := none, data := .seq ([] : List Value).toArray }).push { cls := .type "dict", data := .dict #[] }).push (cellO none) = H at *
  have gI : H.get? s.heap.objs.size = some { cls := .type "list_iterator", data := .fields #[.ref ax, .int 0 0] } := by
    rw [← hH]; exact Heap.get?_push_of_some _ (Heap.get?_push_of_some _ (Heap.get?_push_of_some _ (Heap.get?_push_size _ rfl)))
  have gD : H.get? (s.heap.objs.size + 1) = some (lst []) := by
    rw [← hH]
    refine Heap.get?_push_of_some _ (Heap.get?_push_of_some _ ?_)
    have := Heap.get?_push_size (s.heap.push { cls := .type "list_iterator", data := .fields #[.ref ax, .int 0 0] }) (o := lst []) rfl
    rw [Heap.size_push] at this
    exact this
  have gC : H.get? (s.heap.objs.size + 1 + 1) = some { cls := .type "dict", data := .dict #[] } := by
    rw [← hH]
    refine Heap.get?_push_of_some _ ?_
    have := Heap.get?_push_size ((s.heap.push { cls := .type "list_iterator", data := .fields #[.ref ax, .int 0 0] }).push { cls := .type "list", dict := none, data := .seq ([] : List Value).toArray }) (o := { cls := .type "dict", data := .dict #[] }) rfl
    rw [Heap.size_push, Heap.size_push] at this
    exact this
  have gc : H.get? (s.heap.objs.size + 1 + 1 + 1) = some (cellO none) := by
    rw [← hH]
    have := Heap.get?_push_size (((s.heap.push { cls := .type "list_iterator", data := .fields #[.ref ax, .int 0 0] }).push { cls := .type "list", dict := none, data := .seq ([] : List Value).toArray }).push { cls := .type "dict", data := .dict #[] }) (o := cellO none) rfl
    rw [Heap.size_push, Heap.size_push, Heap.size_push] at this
    exact this
  generalize hI : s.heap.objs.size = I at *
  have lax : ax < I := lN _ hm
  have hIL : @Ne Nat I L := Nat.ne_of_gt lL
  have hDL : @Ne Nat (I + 1) L := Nat.ne_of_gt (Nat.lt_succ_of_lt lL)
  have hCL : @Ne Nat (I + 1 + 1) L := Nat.ne_of_gt (Nat.lt_succ_of_lt (Nat.lt_succ_of_lt lL))
  have hcL : @Ne Nat (I + 1 + 1 + 1) L := Nat.ne_of_gt (Nat.lt_succ_of_lt (Nat.lt_succ_of_lt (Nat.lt_succ_of_lt lL)))
  have nI := fresh I (Nat.le_refl _)
  have nD := fresh (I + 1) (Nat.le_succ _)
  have nC := fresh (I + 1 + 1) (by omega)
  have nc := fresh (I + 1 + 1 + 1) (by omega)
  have off0 : ∀ p ∈ news, p.1 ≠ I ∧ p.1 ≠ I + 1 + 1 ∧ p.1 ≠ I + 1 + 1 + 1 ∧ p.1 ≠ I + 1 := fun p hp => by
    have q : (p.1 : Nat) < I := lN p hp
    exact ⟨Nat.ne_of_lt q, Nat.ne_of_lt (Nat.lt_succ_of_lt (Nat.lt_succ_of_lt q)), Nat.ne_of_lt (Nat.lt_succ_of_lt (Nat.lt_succ_of_lt (Nat.lt_succ_of_lt q))), Nat.ne_of_lt (Nat.lt_succ_of_lt q)⟩
  have dI1 : @Ne Nat I (I + 1 + 1) := by refine Nat.ne_of_lt ?_; omega
  have dI2 : @Ne Nat I (I + 1 + 1 + 1) := by refine Nat.ne_of_lt ?_; omega
  have dI3 : @Ne Nat I (I + 1) := by refine Nat.ne_of_lt ?_; omega
  have dC1 : @Ne Nat (I + 1 + 1) (I + 1 + 1 + 1) := by refine Nat.ne_of_lt ?_; omega
  have dC2 : @Ne Nat (I + 1 + 1) (I + 1) := by refine Nat.ne_of_gt ?_; omega
  have dc1 : @Ne Nat (I + 1 + 1 + 1) (I + 1) := by refine Nat.ne_of_gt ?_; omega
  generalize hD : I + 1 = D at *
  generalize hC : D + 1 = C at *
  generalize hc : C + 1 = c at *
  have W := Walks.list (prog := prog) (w := w) hh I ax (Nat.ne_of_lt lax) vs.toArray
  -- the loop
  have loop : ∀ s₃ : Shared, s₃ = { s with heap := H } →
      codeAny (model prog w) A (.compLoop (.ListComp elt [⟨.Name x px, iter, [], 0⟩] scope pos) 0 (.ref I) (.ref D) (compEnvC scope ((x, c) :: cl) C env)) (compPost (model prog w) A E none Q (.ref D) C) s₃ := by
    rintro s₃ rfl
    refine codeAny_compLoop_tests
      (fun k s' => ∃ h tk i ys nw oI oC oc vo m₂, s' = { s with heap := h, toks := tk } ∧ i ≤ vs.length ∧ k = vs.length + 1 - i ∧ ys.length = i ∧ Fr h₀ L h m ∧ News h₀ L h ((I, oI) :: (C, oC) :: (c, oc) :: (D, lst ys) :: nw) ∧ NsObj oC m₂ ∧ oc.data = .cell vo ∧
        h.IsListIter I ax i ∧ (ax, lstO vs n0) ∈ nw ∧ (∀ p ∈ nw, p.1 ≠ I ∧ p.1 ≠ C ∧ p.1 ≠ c ∧ p.1 ≠ D) ∧ J i ys nw) ?_ (vs.length + 1)
      ⟨H, _, 0, [], news, { cls := .type "list_iterator", data := .fields #[.ref ax, .int 0 0] }, { cls := .type "dict", data := .dict #[] }, cellO none, none, fun _ => none, rfl, Nat.zero_le _, rfl, rfl, F.keeps up, ?_, ⟨#[], 0, rfl, ?_, ?_⟩, rfl, ⟨_, gI, rfl, rfl⟩, hm, off0, J0⟩
    · rintro k s' ⟨h, tk, i, ys, nw, oI, oC, oc, vo, m₂, rfl, hi, rfl, hyl, F1, N1, hC1, hc1, st, hmw, off, hJ⟩
      have hL : h.IsList ax vs.toArray := ⟨_, (N1 _ (.tail _ (.tail _ (.tail _ (.tail _ hmw))))).1, rfl, _, rfl⟩
      by_cases hlt : i < vs.length
      · refine W.item i _ _ _ (by simpa using hlt) ⟨st, hL⟩ fun v h₂ tk₂ hPv st₂ hk₂ => ?_
        have hPv' : vs[i]? = some v := by simpa using hPv
        obtain ⟨oI2, gI2, hit2⟩ := st₂.1
        have kk : ∀ p : Addr × Obj, p.1 ≠ I → h.get? p.1 = some p.2 → h₂.get? p.1 = some p.2 := fun p hp e => hk₂ _ _ (by simpa using hp) e
        have F2 : Fr h₀ L h₂ m := fr_but F1 hk₂ (Ne.symm hIL) nI
        have N2 : News h₀ L h₂ ((I, oI2) :: (C, oC) :: (c, oc) :: (D, lst ys) :: nw) := fun p hp => by
          rcases List.mem_cons.mp hp with rfl | hp
          · exact ⟨gI2, hIL, nI⟩
          · have hpI : p.1 ≠ I := by
              rcases List.mem_cons.mp hp with rfl | hp
              · exact Ne.symm dI1
              rcases List.mem_cons.mp hp with rfl | hp
              · exact Ne.symm dI2
              rcases List.mem_cons.mp hp with rfl | hp
              · exact Ne.symm dI3
              · exact (off p hp).1
            exact ⟨kk p hpI (N1 p (.tail _ hp)).1, (N1 p (.tail _ hp)).2⟩
        have hcell : h₂.IsCell c vo := ⟨oc, (N2 _ (.tail _ (.tail _ (.head _)))).1, hc1⟩
        refine wpAny_assign_Name (wpAny_storeName_cell hkind (relabel_cell hx) (c := c) (by simp [compEnvC, List.lookup_cons]) hcell fun h₃ hcell₃ hs₃ => ?_)
        refine wpAny_tests_nil ?_
        simp only [if_true]
        obtain ⟨oc3, gc3, dc3⟩ := hcell₃
        have F3 : Fr h₀ L h₃ m := F2.change hs₃ hcL nc
        have N3 : News h₀ L h₃ ((I, oI2) :: (C, oC) :: (c, oc3) :: (D, lst ys) :: nw) := fun p hp => by
          rcases List.mem_cons.mp hp with rfl | hp
          · exact ⟨(hs₃.2 _ dI2).trans gI2, hIL, nI⟩
          rcases List.mem_cons.mp hp with rfl | hp
          · exact ⟨(hs₃.2 _ dC1).trans (N2 _ (.tail _ (.head _))).1, hCL, nC⟩
          rcases List.mem_cons.mp hp with rfl | hp
          · exact ⟨gc3, hcL, nc⟩
          rcases List.mem_cons.mp hp with rfl | hp
          · exact ⟨(hs₃.2 _ (Ne.symm dc1)).trans (N2 _ (.tail _ (.tail _ (.tail _ (.head _))))).1, hDL, nD⟩
          · have := N2 p (.tail _ (.tail _ (.tail _ (.tail _ hp))))
            exact ⟨(hs₃.2 _ (off p hp).2.2.1).trans this.1, this.2⟩
        refine wpAny_mono (step i ys nw v hPv' hJ hmw I oI2 C oC c oc3 D h₃ tk₂ _ dc3 F3 N3 off ⟨dI1, dI2, dI3, dC1, dC2, dc1⟩) (fun y s₄ h₄ => ?_) fun _ _ e => e
        obtain ⟨h₄, tk₄, nw₄, rfl, F4, N4, off4, hm4, J4⟩ := h₄
        refine append_at (hsz := by rw [List.size_toArray]; omega) (N4 _ (.tail _ (.tail _ (.tail _ (.head _))))).1 fun h₅ hs₅ hD₅ => ?_
        refine ⟨vs.length + 1 - (i + 1), by omega, h₅, tk₄, i + 1, ys ++ [y], nw₄, oI2, oC, oc3, some v, m₂, rfl, hlt, rfl, by rw [List.length_append, List.length_singleton, hyl], F4.change hs₅ hDL nD, ?_, hC1, dc3, ?_, hm4, off4, J4⟩
        · intro p hp
          rcases List.mem_cons.mp hp with rfl | hp
          · have := N4 _ (.head _)
            exact ⟨(hs₅.2 _ dI3).trans this.1, this.2⟩
          rcases List.mem_cons.mp hp with rfl | hp
          · have := N4 _ (.tail _ (.head _))
            exact ⟨(hs₅.2 _ dC2).trans this.1, this.2⟩
          rcases List.mem_cons.mp hp with rfl | hp
          · have := N4 _ (.tail _ (.tail _ (.head _)))
            exact ⟨(hs₅.2 _ dc1).trans this.1, this.2⟩
          rcases List.mem_cons.mp hp with rfl | hp
          · exact ⟨hD₅.trans (congrArg some (lst_snoc ys y)), hDL, nD⟩
          · have := N4 p (.tail _ (.tail _ (.tail _ (.tail _ hp))))
            exact ⟨(hs₅.2 _ (off4 p hp).2.2.2).trans this.1, this.2⟩
        · exact ⟨oI2, (hs₅.2 _ dI3).trans (N4 _ (.head _)).1, hit2⟩
      · obtain rfl : i = vs.length := Nat.le_antisymm hi (Nat.not_lt.mp hlt)
        refine W.done _ _ _ (by rw [List.size_toArray]; exact ⟨st, hL⟩) fun h₂ tk₂ hk₂ => ?_
        have F2 : Fr h₀ L h₂ m := fr_but F1 hk₂ (Ne.symm hIL) nI
        have kk : ∀ p : Addr × Obj, p.1 ≠ I → h.get? p.1 = some p.2 → h₂.get? p.1 = some p.2 := fun p hp e => hk₂ _ _ (by simpa using hp) e
        refine ⟨m₂, hC1.ns (kk (C, oC) (Ne.symm dI1) (N1 _ (.tail _ (.head _))).1), fun h'' hs'' => ?_⟩
        refine fin ys nw D h'' tk₂ hJ (F2.change hs'' hCL nC) (fun p hp => ?_) fun p hp => (off p hp).2.2.2
        rcases List.mem_cons.mp hp with rfl | hp
        · have := N1 _ (.tail _ (.tail _ (.tail _ (.head _))))
          exact ⟨(hs''.2 _ (Ne.symm dC2)).trans (kk _ (Ne.symm dI3) this.1), this.2⟩
        · have := N1 p (.tail _ (.tail _ (.tail _ (.tail _ hp))))
          exact ⟨(hs''.2 _ (off p hp).2.1).trans (kk p (off p hp).1 this.1), this.2⟩
    · intro p hp
      rcases List.mem_cons.mp hp with rfl | hp
      · exact ⟨gI, hIL, nI⟩
      rcases List.mem_cons.mp hp with rfl | hp
      · exact ⟨gC, hCL, nC⟩
      rcases List.mem_cons.mp hp with rfl | hp
      · exact ⟨gc, hcL, nc⟩
      rcases List.mem_cons.mp hp with rfl | hp
      · exact ⟨gD, hDL, nD⟩
      · exact ⟨up _ _ (N p hp).1, (N p hp).2⟩
    · exact fun _ h => by simp at h
    · exact fun _ => rfl
  exact codeAny_compStart_list (loop _ rfl) (W.self 0 _ _ _ ⟨⟨_, gI, rfl, rfl⟩, ⟨_, up _ _ (N _ hm).1, rfl, _, rfl⟩⟩ (loop _ rfl))
end
end Mine
end
/-! part P2 -/
section
theorem Mine.rstP2 : True := by
  w_top off
  trivial
namespace Mine
/-! the order in which the ones stand; what is taken; no program in sight -/
abbrev Pr := Nat × Nat
def before (q p : Pr) : Bool := decide (p.1 < q.1) || (decide (p.1 = q.1) && decide (q.2 < p.2))
def ahead (l : List Pr) (p : Pr) : Nat := l.countP (fun q => before q p)
theorem before_asymm {p q : Pr} (h : before p q = true) : before q p = false := by
  unfold before at *
  simp only [Bool.or_eq_true, Bool.and_eq_true, decide_eq_true_eq, Bool.or_eq_false_iff, Bool.and_eq_false_iff, decide_eq_false_iff_not] at *
  omega
theorem before_trans {p q r : Pr} (h : before p q = true) (h2 : before q r = true) : before p r = true := by
  unfold before at *
  simp only [Bool.or_eq_true, Bool.and_eq_true, decide_eq_true_eq] at *
  omega
theorem before_total {p q : Pr} (h : p.2 ≠ q.2) : before p q = true ∨ before q p = true := by
  unfold before
  simp only [Bool.or_eq_true, Bool.and_eq_true, decide_eq_true_eq]
  omega
theorem cmp_plus (p q : Pr) : cmpN 1 p.1 q.1 p.2 q.2 = (if before q p then 1 else 0) - (if before p q then 1 else 0) := by
  unfold cmpN before
  simp only [Bool.or_eq_true, Bool.and_eq_true, decide_eq_true_eq]
  repeat' split
  all_goals omega
theorem cmp_minus (p q : Pr) : cmpN (-1) p.1 q.1 p.2 q.2 = -((if before q p then 1 else 0) - (if before p q then 1 else 0)) := by
  unfold cmpN before
  simp only [Bool.or_eq_true, Bool.and_eq_true, decide_eq_true_eq]
  repeat' split
  all_goals omega
theorem score_plus (l : List Pr) (p : Pr) : score 1 l p = (ahead l p : Int) - (l.countP (fun q => before p q) : Int) := by
  unfold score ahead
  induction l with
  | nil => rfl
  | cons q r ih =>
    rw [List.map_cons, List.sum_cons, ih, cmp_plus, List.countP_cons, List.countP_cons]
    split <;> split <;> omega
theorem score_minus (l : List Pr) (p : Pr) : score (-1) l p = -((ahead l p : Int) - (l.countP (fun q => before p q) : Int)) := by
  unfold score ahead
  induction l with
  | nil => rfl
  | cons q r ih =>
    rw [List.map_cons, List.sum_cons, ih, cmp_minus, List.countP_cons, List.countP_cons]
    split <;> split <;> omega
theorem ahead_none {l : List Pr} {p : Pr} (h : ∀ q ∈ l, q.2 ≠ p.2) : ahead l p + l.countP (fun q => before p q) = l.length := by
  induction l with
  | nil => rfl
  | cons q r ih =>
    have := ih fun x hx => h x (.tail _ hx)
    unfold ahead at *
    rw [List.countP_cons, List.countP_cons, List.length_cons]
    rcases before_total (h q (.head _)) with e | e
    · rw [e, before_asymm e]; simp; omega
    · rw [e, before_asymm e]; simp; omega
theorem ahead_behind {l : List Pr} {p : Pr} (hn : (l.map (·.2)).Nodup) (hp : p ∈ l) : ahead l p + l.countP (fun q => before p q) + 1 = l.length := by
  induction l with
  | nil => cases hp
  | cons q r ih =>
    rw [List.map_cons, List.nodup_cons] at hn
    have hself : before p p = false := by
      cases e : before p p with
      | false => rfl
      | true => rw [before_asymm e] at e; cases e
    by_cases e : p = q
    · subst e
      have := ahead_none (l := r) (p := p) fun x hx z => hn.1 (List.mem_map.mpr ⟨x, hx, z⟩)
      unfold ahead at *
      rw [List.countP_cons, List.countP_cons, List.length_cons, hself]
      simp
      omega
    · have hp' : p ∈ r := (List.mem_cons.mp hp).resolve_left e
      have := ih hn.2 hp'
      have hq : q.2 ≠ p.2 := fun z => hn.1 (List.mem_map.mpr ⟨p, hp', z.symm⟩)
      unfold ahead at *
      rw [List.countP_cons, List.countP_cons, List.length_cons]
      rcases before_total hq with e | e
      · rw [e, before_asymm e]; simp; omega
      · rw [e, before_asymm e]; simp; omega
theorem takes_eq {side : Int} (hs : side = 1 ∨ side = -1) {l : List Pr} {w : Nat} {p : Pr} (hn : (l.map (·.2)).Nodup) (hp : p ∈ l) : takes side w l p = decide (ahead l p < w) := by
  unfold takes
  have h := ahead_behind hn hp
  rcases hs with rfl | rfl
  · rw [score_plus]
    apply decide_eq_decide.mpr
    omega
  · rw [score_minus]
    apply decide_eq_decide.mpr
    omega
/-- what is taken, plainly -/
def tkp (w : Nat) (l : List Pr) : List Pr := l.filter (fun p => decide (ahead l p < w))
def tk (w : Nat) (l : List Pr) : List Nat := (tkp w l).map (·.2)
theorem taken_eq {side : Int} (hs : side = 1 ∨ side = -1) {l : List Pr} {w : Nat} (hn : (l.map (·.2)).Nodup) : taken side w l = tk w l := by
  unfold taken tk tkp
  congr 1
  exact List.filter_congr fun p hp => takes_eq hs hn hp
/-! sorting -/
theorem filter_rank {α : Type} (r : α → α → Bool) (as : ∀ a b, r a b = true → r b a = false) (w : Nat) : ∀ (rem pre : List α), (pre ++ rem).Pairwise (fun a b => r a b = true) →
    rem.filter (fun p => decide ((pre ++ rem).countP (fun q => r q p) < w)) = rem.take (w - pre.length)
  | [], pre, _ => by simp
  | p :: rem, pre, h => by
    have e : pre ++ p :: rem = (pre ++ [p]) ++ rem := by simp
    have h' := h
    rw [e] at h'
    have ih := filter_rank r as w rem (pre ++ [p]) h'
    have hself : r p p = false := by
      cases e : r p p with
      | false => rfl
      | true => rw [as _ _ e] at e; cases e
    have hc : (pre ++ p :: rem).countP (fun q => r q p) = pre.length := by
      rw [List.countP_append, List.countP_cons, hself]
      rw [List.pairwise_append] at h
      have h1 : pre.countP (fun q => r q p) = pre.length := List.countP_eq_length.mpr fun q hq => h.2.2 q hq p (.head _)
      have h2 : rem.countP (fun q => r q p) = 0 := List.countP_eq_zero.mpr fun q hq => by
        rw [as _ _ ((List.pairwise_cons.mp h.2.1).1 q hq)]; simp
      rw [h1, h2]; simp
    rw [List.filter_cons, hc]
    rw [← e, List.length_append, List.length_singleton] at ih
    rw [ih]
    by_cases hw : pre.length < w
    · rw [if_pos (by simpa using hw)]
      have : w - pre.length = (w - (pre.length + 1)) + 1 := by omega
      rw [this, List.take_succ_cons]
    · rw [if_neg (by simpa using hw)]
      have e1 : w - pre.length = 0 := by omega
      have e2 : w - (pre.length + 1) = 0 := by omega
      rw [e1, e2]; simp
theorem sorted_ex (l : List Pr) (hn : (l.map (·.2)).Nodup) : ∃ s : List Pr, s.Perm l ∧ s.Pairwise (fun a b => before a b = true) := by
  refine ⟨l.mergeSort (fun a b => !before b a), List.mergeSort_perm _ _, ?_⟩
  have hp := List.pairwise_mergeSort (le := fun a b => !before b a) (fun a b c h1 h2 => by
    unfold before at *
    simp only [Bool.not_eq_true', Bool.or_eq_false_iff, Bool.and_eq_false_iff, decide_eq_false_iff_not] at *
    omega) (fun a b => by
    cases e : before b a with
    | false => rfl
    | true => rw [before_asymm e]; rfl) l
  have hnd : ((l.mergeSort (fun a b => !before b a)).map (·.2)).Nodup := ((List.mergeSort_perm l _).map _).nodup_iff.mpr hn
  have hne : (l.mergeSort (fun a b => !before b a)).Pairwise (fun a b => a.2 ≠ b.2) := List.pairwise_map.mp hnd
  refine (hp.and hne).imp fun {a b} h => ?_
  rcases before_total h.2 with e | e
  · exact e
  · have := h.1; rw [e] at this; cases this
theorem ahead_perm {l s : List Pr} (h : s.Perm l) (p : Pr) : ahead s p = ahead l p := h.countP_eq _
theorem tkp_perm {l s : List Pr} (h : s.Perm l) (hs : s.Pairwise (fun a b => before a b = true)) (w : Nat) : (s.take w).Perm (tkp w l) := by
  have e := filter_rank before (fun a b => before_asymm) w s [] (by simpa using hs)
  simp only [List.nil_append, List.length_nil, Nat.sub_zero] at e
  rw [← e]
  unfold tkp
  have : (fun p => decide ((s.countP fun q => before q p) < w)) = fun p => decide (ahead l p < w) := by
    funext p
    rw [← ahead_perm h p]; rfl
  rw [this]
  exact h.filter _
theorem tk_length {l : List Pr} (hn : (l.map (·.2)).Nodup) {w : Nat} (hw : w ≤ l.length) : (tk w l).length = w := by
  obtain ⟨s, hs, hp⟩ := sorted_ex l hn
  unfold tk
  rw [List.length_map, ← (tkp_perm hs hp w).length_eq, List.length_take, hs.length_eq]
  omega
end Mine
end
/-! part P3 -/
section
theorem Mine.rstP3 : True := by
  w_top off
  trivial
namespace Mine
/-! one turn in closed form -/
def dec1 (t : List Nat) (p : Pr) : Pr := if p.2 ∈ t then (p.1 - 1, p.2) else p
def bkT (c : Nat) (ts : List Nat) (bk : Nat → List Nat) : Nat → List Nat := fun j => if j = c then bk c ++ ts else if j ∈ ts then bk j ++ [c] else bk j
theorem dec1_snd (t : List Nat) (p : Pr) : (dec1 t p).2 = p.2 := by unfold dec1; split <;> rfl
theorem loopF_eq (c : Nat) (t : List Nat) : ∀ (it acc : List Pr) (bk : Nat → List Nat), (it.map (·.2)).Nodup → c ∉ it.map (·.2) →
    loopF c t it acc bk = if (∀ p ∈ it, p.2 ∈ t → p.1 ≠ 0) then some (acc ++ it.map (dec1 t), bkT c ((it.map (·.2)).filter (· ∈ t)) bk) else none
  | [], acc, bk, _, _ => by
    have : bkT c ((([] : List Pr).map (·.2)).filter (· ∈ t)) bk = bk := by
      funext j
      unfold bkT
      simp only [List.map_nil, List.filter_nil, List.append_nil, List.not_mem_nil, if_false]
      split
      · rename_i e; rw [e]
      · rfl
    rw [this]
    unfold loopF
    rw [if_pos (fun p hp => by cases hp)]
    simp
  | p :: r, acc, bk, hn, hc => by
    rw [List.map_cons, List.nodup_cons] at hn
    have hcp : c ≠ p.2 := fun e => hc (by rw [e]; simp)
    have hcr : c ∉ r.map (·.2) := fun e => hc (by rw [List.map_cons]; exact .tail _ e)
    unfold loopF
    by_cases hp : p.2 ∈ t
    · rw [if_pos hp]
      by_cases h0 : p.1 = 0
      · rw [if_pos h0, if_neg (fun h => h p (.head _) hp h0)]
      · rw [if_neg h0, loopF_eq c t r _ _ hn.2 hcr]
        have e1 : (∀ q ∈ p :: r, q.2 ∈ t → q.1 ≠ 0) ↔ (∀ q ∈ r, q.2 ∈ t → q.1 ≠ 0) := ⟨fun h q hq => h q (.tail _ hq), fun h q hq => by
          rcases List.mem_cons.mp hq with rfl | hq
          · exact fun _ => h0
          · exact h q hq⟩
        have e2 : acc ++ [(p.1 - 1, p.2)] ++ r.map (dec1 t) = acc ++ (p :: r).map (dec1 t) := by
          rw [List.map_cons, List.append_assoc]
          have : dec1 t p = (p.1 - 1, p.2) := by unfold dec1; rw [if_pos hp]
          rw [this]; rfl
        have e3 : bkT c ((r.map (·.2)).filter (· ∈ t)) (tie c p.2 bk) = bkT c (((p :: r).map (·.2)).filter (· ∈ t)) bk := by
          funext j
          rw [List.map_cons, List.filter_cons, if_pos (by simpa using hp)]
          unfold bkT tie
          have hpr : p.2 ∉ (r.map (·.2)).filter (· ∈ t) := fun e => hn.1 (List.mem_filter.mp e).1
          by_cases ej : j = c
          · subst ej
            simp [hcp]
          · rw [if_neg ej, if_neg ej]
            by_cases ek : j = p.2
            · rw [ek, if_neg hpr, if_pos rfl, if_neg (Ne.symm hcp), if_pos (List.mem_cons_self ..)]
            · rw [if_neg ek, if_neg ej]
              by_cases h : j ∈ (r.map (·.2)).filter (· ∈ t)
              · rw [if_pos h, if_pos (.tail _ h)]
              · rw [if_neg h, if_neg fun z => (List.mem_cons.mp z).elim ek h]
        rw [e2, e3]
        by_cases h : ∀ q ∈ r, q.2 ∈ t → q.1 ≠ 0
        · rw [if_pos h, if_pos (e1.mpr h)]
        · rw [if_neg h, if_neg (fun z => h (e1.mp z))]
    · rw [if_neg hp, loopF_eq c t r _ _ hn.2 hcr]
      have e1 : (∀ q ∈ p :: r, q.2 ∈ t → q.1 ≠ 0) ↔ (∀ q ∈ r, q.2 ∈ t → q.1 ≠ 0) := ⟨fun h q hq => h q (.tail _ hq), fun h q hq => by
        rcases List.mem_cons.mp hq with rfl | hq
        · exact fun z => absurd z hp
        · exact h q hq⟩
      have e2 : acc ++ [p] ++ r.map (dec1 t) = acc ++ (p :: r).map (dec1 t) := by
        rw [List.map_cons, List.append_assoc]
        have : dec1 t p = p := by unfold dec1; rw [if_neg hp]
        rw [this]; rfl
      have e3 : ((p :: r).map (·.2)).filter (· ∈ t) = (r.map (·.2)).filter (· ∈ t) := by
        rw [List.map_cons, List.filter_cons, if_neg (by simpa using hp)]
      rw [e2, e3]
      by_cases h : ∀ q ∈ r, q.2 ∈ t → q.1 ≠ 0
      · rw [if_pos h, if_pos (e1.mpr h)]
      · rw [if_neg h, if_neg (fun z => h (e1.mp z))]
theorem snd_inj : ∀ {l : List Pr}, (l.map (·.2)).Nodup → ∀ {p q : Pr}, p ∈ l → q ∈ l → q.2 = p.2 → q = p
  | x :: r, hn, p, q, hp, hq, e => by
    rw [List.map_cons, List.nodup_cons] at hn
    rcases List.mem_cons.mp hp with rfl | hp
    · rcases List.mem_cons.mp hq with rfl | hq
      · rfl
      · exact absurd (List.mem_map.mpr ⟨q, hq, e⟩) hn.1
    · rcases List.mem_cons.mp hq with hx | hq
      · exact absurd (List.mem_map.mpr ⟨p, hp, by rw [← e, hx]⟩) hn.1
      · exact snd_inj hn.2 hp hq e
theorem mem_tk {w : Nat} {l : List Pr} (hn : (l.map (·.2)).Nodup) {p : Pr} (hp : p ∈ l) : p.2 ∈ tk w l ↔ ahead l p < w := by
  unfold tk tkp
  rw [List.mem_map]
  constructor
  · rintro ⟨q, hq, e⟩
    obtain ⟨hq, h⟩ := List.mem_filter.mp hq
    have : q = p := snd_inj hn hp hq e
    subst this
    simpa using h
  · intro h
    exact ⟨p, List.mem_filter.mpr ⟨hp, by simpa using h⟩, rfl⟩
theorem filter_tk {w : Nat} {l : List Pr} (hn : (l.map (·.2)).Nodup) : (l.map (·.2)).filter (· ∈ tk w l) = tk w l := by
  rw [List.filter_map]
  unfold tk tkp
  congr 1
  apply List.filter_congr
  intro p hp
  have := mem_tk (w := w) hn hp
  unfold tk tkp at this
  show decide _ = decide _
  exact decide_eq_decide.mpr this
/-- one turn -/
def turnP (place : Nat) (items : List Pr) (bk : Nat → List Nat) : Option (List Pr × (Nat → List Nat)) :=
  match items[place % items.length]? with
  | none => none
  | some wc => if (items.eraseIdx (place % items.length)).length < wc.1 then none else
      if (∀ p ∈ items.eraseIdx (place % items.length), p.2 ∈ tk wc.1 (items.eraseIdx (place % items.length)) → p.1 ≠ 0) then
        some ((items.eraseIdx (place % items.length)).map (dec1 (tk wc.1 (items.eraseIdx (place % items.length)))), bkT wc.2 (tk wc.1 (items.eraseIdx (place % items.length))) bk) else none
theorem turnF_eq {side : Int} (hs : side = 1 ∨ side = -1) (place : Nat) {items : List Pr} (hn : (items.map (·.2)).Nodup) (bk : Nat → List Nat) : turnF side place items bk = turnP place items bk := by
  unfold turnF turnP
  cases e : items[place % items.length]? with
  | none => rfl
  | some wc =>
    obtain ⟨h1, h2⟩ := nodup_erase hn e
    dsimp only
    rw [taken_eq hs h1, loopF_eq _ _ _ _ _ h1 h2, filter_tk h1, List.nil_append]
theorem names_dec (t : List Nat) (l : List Pr) : (l.map (dec1 t)).map (·.2) = l.map (·.2) := by
  rw [List.map_map]
  exact List.map_congr_left fun p _ => dec1_snd t p
end Mine
end
/-! part P4 -/
section
theorem Mine.rstP4 : True := by
  w_top off
  trivial
namespace Mine
def lexlt (a b : Int × Nat) : Prop := a.1 < b.1 ∨ (a.1 = b.1 ∧ a.2 < b.2)
/-- the tables tell the right ones -/
def rankOf (book : Nat → List Nat) (S : List Nat) (c : Nat) (one : Nat) : Int × Nat := (-(((S ++ [c]).filter (· ∈ book one)).length : Int), one)
def RightP (place : Nat) (book : Nat → List Nat) : Nat → List Nat → Prop
  | 0, _ => True
  | n + 1, S => ∃ c, S[place % S.length]? = some c ∧
      (∀ ranks : List (Int × Nat), ranks.Perm ((S.eraseIdx (place % S.length)).map (rankOf book (S.eraseIdx (place % S.length)) c)) → ranks.Pairwise (fun a b => ¬ lexlt b a) →
        ∀ out : List Nat, out.Perm ((ranks.take ((S.eraseIdx (place % S.length)).filter (· ∈ book c)).length).map (·.2)) → out.Pairwise (· ≤ ·) → out = (S.eraseIdx (place % S.length)).filter (· ∈ book c)) ∧
      RightP place book n (S.eraseIdx (place % S.length))
theorem RightP_congr {place : Nat} {b1 b2 : Nat → List Nat} : ∀ (n : Nat) (S : List Nat), (∀ k ∈ S, ∀ x ∈ S, x ∈ b1 k ↔ x ∈ b2 k) → RightP place b1 n S → RightP place b2 n S
  | 0, _, _, _ => trivial
  | n + 1, S, h, ⟨c, hc, h1, h2⟩ => by
    have hcS : c ∈ S := List.mem_of_getElem? hc
    have hsub : ∀ x ∈ S.eraseIdx (place % S.length), x ∈ S := fun x hx => List.mem_of_mem_eraseIdx hx
    have e1 : (S.eraseIdx (place % S.length)).filter (· ∈ b1 c) = (S.eraseIdx (place % S.length)).filter (· ∈ b2 c) := List.filter_congr fun x hx => decide_eq_decide.mpr (h c hcS x (hsub x hx))
    have e2 : (S.eraseIdx (place % S.length)).map (rankOf b1 (S.eraseIdx (place % S.length)) c) = (S.eraseIdx (place % S.length)).map (rankOf b2 (S.eraseIdx (place % S.length)) c) := List.map_congr_left fun k hk => by
      unfold rankOf
      rw [show (S.eraseIdx (place % S.length) ++ [c]).filter (· ∈ b1 k) = (S.eraseIdx (place % S.length) ++ [c]).filter (· ∈ b2 k) from List.filter_congr fun x hx => decide_eq_decide.mpr (h k (hsub k hk) x (by
        rcases List.mem_append.mp hx with hx | hx
        · exact hsub x hx
        · rw [List.mem_singleton.mp hx]; exact hcS))]
    rw [e1, e2] at h1
    exact ⟨c, hc, h1, RightP_congr n _ (fun k hk x hx => h k (hsub k hk) x (hsub x hx)) h2⟩
theorem map_eraseIdx' {α β : Type} (f : α → β) : ∀ (l : List α) (i : Nat), (l.eraseIdx i).map f = (l.map f).eraseIdx i
  | [], _ => by simp
  | _ :: _, 0 => by simp
  | x :: l, i + 1 => by simp [map_eraseIdx' f l i]
theorem filter_len {S e : List Nat} (hS : S.Nodup) (he : e.Nodup) (hs : ∀ x ∈ e, x ∈ S) : (S.filter (· ∈ e)).length = e.length := by
  refine List.Perm.length_eq ((List.perm_ext_iff_of_nodup (List.Pairwise.filter _ hS) he).mpr fun a => ?_)
  rw [List.mem_filter]
  exact ⟨fun h => by simpa using h.2, fun h => ⟨hs a h, by simpa using h⟩⟩
/-- the sorted ranks' first ones are the taken -/
theorem right_taken {rest : List Pr} (hs : (rest.map (·.2)).Pairwise (· < ·)) {w : Nat} (hw : w ≤ rest.length) {ranks : List (Int × Nat)} (hp : ranks.Perm (rest.map fun p => (-(p.1 : Int), p.2))) (ho : ranks.Pairwise (fun a b => ¬ lexlt b a))
    {out : List Nat} (h1 : out.Perm ((ranks.take w).map (·.2))) (h2 : out.Pairwise (· ≤ ·)) : out = tk w rest := by
  have hn : (rest.map (·.2)).Nodup := hs.imp fun h => Nat.ne_of_lt h
  have hp2 : (ranks.map fun a : Int × Nat => ((-a.1).toNat, a.2)).Perm rest := by
    have := hp.map fun a : Int × Nat => ((-a.1).toNat, a.2)
    rw [List.map_map] at this
    have e : ((fun a : Int × Nat => ((-a.1).toNat, a.2)) ∘ fun p : Pr => (-(p.1 : Int), p.2)) = id := by
      funext p
      show ((- -(p.1 : Int)).toNat, p.2) = p
      rw [Int.neg_neg, Int.toNat_natCast]
    rw [e, List.map_id] at this
    exact this
  have hneg : ∀ a ∈ ranks, a.1 ≤ 0 := fun a ha => by
    obtain ⟨p, _, rfl⟩ := List.mem_map.mp (hp.mem_iff.mp ha)
    show -(p.1 : Int) ≤ 0
    omega
  have hnd : (ranks.map (·.2)).Nodup := by
    have := (hp2.map (·.2)).nodup_iff.mpr hn
    rw [List.map_map] at this
    exact this
  have hord : (ranks.map fun a : Int × Nat => ((-a.1).toNat, a.2)).Pairwise (fun a b => before a b = true) := by
    rw [List.pairwise_map]
    have hnd2 : ranks.Pairwise (fun a b => a.2 ≠ b.2) := List.pairwise_map.mp hnd
    refine ((List.pairwise_iff_forall_sublist.mpr fun {a b} hab => ?_) : ranks.Pairwise _)
    have hm : a ∈ ranks ∧ b ∈ ranks := ⟨hab.subset (.head _), hab.subset (.tail _ (.head _))⟩
    have h1 := List.pairwise_iff_forall_sublist.mp ho hab
    have h2 := List.pairwise_iff_forall_sublist.mp hnd2 hab
    have h3 := hneg a hm.1
    have h4 := hneg b hm.2
    unfold lexlt at h1
    unfold before
    simp only [Bool.or_eq_true, Bool.and_eq_true, decide_eq_true_eq]
    omega
  have hperm := (tkp_perm hp2 hord w).map (·.2)
  rw [← List.map_take, List.map_map] at hperm
  have hout : out.Perm (tk w rest) := h1.trans hperm
  have hsrt : (tk w rest).Pairwise (· ≤ ·) := by
    have : (tk w rest).Pairwise (· < ·) := by
      rw [← filter_tk hn]
      exact List.Pairwise.filter _ hs
    exact this.imp fun h => Nat.le_of_lt h
  exact hout.eq_of_pairwise (fun a b _ _ h1 h2 => Nat.le_antisymm h1 h2) h2 hsrt
end Mine
end
/-! part P5 -/
section
theorem Mine.rstP5 : True := by
  w_top off
  trivial
namespace Mine
/-- what a run that ends has added to the tables -/
structure Ext (place n : Nat) (items : List Pr) (ext : Nat → List Nat) : Prop where
  out : ∀ k, k ∉ items.map (·.2) → ext k = []
  mem : ∀ k j, j ∈ ext k → j ∈ items.map (·.2)
  sym : ∀ k j, j ∈ ext k → k ∈ ext j
  nd : ∀ k, (ext k).Nodup
  len : ∀ p ∈ items, (ext p.2).length = p.1
  right : RightP place ext n (items.map (·.2))
theorem ext_of {side : Int} (hs : side = 1 ∨ side = -1) (place : Nat) : ∀ (n : Nat) (items : List Pr) (bk bk' : Nat → List Nat), items.length = n → (items.map (·.2)).Pairwise (· < ·) → runF side place n items bk = some bk' →
    ∃ ext, (∀ k, bk' k = bk k ++ ext k) ∧ Ext place n items ext
  | 0, items, bk, bk', hl, _, h => by
    obtain rfl : items = [] := List.eq_nil_of_length_eq_zero hl
    obtain rfl : bk = bk' := by simpa [runF] using h
    exact ⟨fun _ => [], fun k => by simp, { out := fun _ _ => rfl, mem := (fun _ _ h => nomatch h), sym := (fun _ _ h => nomatch h), nd := fun _ => List.Pairwise.nil, len := (fun p hp => nomatch hp), right := trivial }⟩
  | n + 1, items, bk, bk', hl, hso, h => by
    have hn : (items.map (·.2)).Nodup := hso.imp fun h => Nat.ne_of_lt h
    unfold runF at h
    rw [turnF_eq hs place hn] at h
    unfold turnP at h
    have hlm : (items.map (·.2)).length = items.length := List.length_map ..
    generalize hi : place % items.length = i at h
    cases e : items[i]? with
    | none => rw [e] at h; cases h
    | some wc =>
    rw [e] at h
    dsimp only at h
    by_cases hw : (items.eraseIdx i).length < wc.1
    · rw [if_pos hw] at h; cases h
    rw [if_neg hw] at h
    by_cases h0 : ∀ p ∈ items.eraseIdx i, p.2 ∈ tk wc.1 (items.eraseIdx i) → p.1 ≠ 0
    rotate_left
    · rw [if_neg h0] at h; cases h
    rw [if_pos h0] at h
    dsimp only at h
    have hw : wc.1 ≤ (items.eraseIdx i).length := Nat.le_of_not_lt hw
    obtain ⟨hnr, hcr⟩ := nodup_erase hn e
    have hsr : ((items.eraseIdx i).map (·.2)).Pairwise (· < ·) := by rw [map_eraseIdx']; exact hso.eraseIdx i
    have hil : i < items.length := (List.getElem?_eq_some_iff.mp e).1
    have hlr : (items.eraseIdx i).length = n := by rw [List.length_eraseIdx, if_pos hil, hl]; rfl
    obtain ⟨ext', hb, X⟩ := ext_of hs place n _ _ bk' (by rw [List.length_map]; exact hlr) (by rw [names_dec]; exact hsr) h
    obtain ⟨o, mm, sy, nd, ln, ri⟩ := X
    rw [names_dec] at o mm ri
    have hwc : wc ∈ items := List.mem_of_getElem? e
    have hcm : wc.2 ∈ items.map (·.2) := List.mem_map.mpr ⟨wc, hwc, rfl⟩
    have htk : ∀ x ∈ tk wc.1 (items.eraseIdx i), x ∈ (items.eraseIdx i).map (·.2) := fun x hx => by
      rw [← filter_tk hnr] at hx
      exact (List.mem_filter.mp hx).1
    have hsub : ∀ x ∈ (items.eraseIdx i).map (·.2), x ∈ items.map (·.2) := fun x hx => by
      rw [map_eraseIdx'] at hx; exact List.mem_of_mem_eraseIdx hx
    have hne : ∀ x ∈ (items.eraseIdx i).map (·.2), x ≠ wc.2 := fun x hx z => hcr (z ▸ hx)
    have hct : wc.2 ∉ tk wc.1 (items.eraseIdx i) := fun z => hcr (htk _ z)
    have hoc : ext' wc.2 = [] := o _ hcr
    have hcn : ∀ k, wc.2 ∉ ext' k := fun k z => hcr (mm k _ z)
    have hnt : (tk wc.1 (items.eraseIdx i)).Nodup := by rw [← filter_tk hnr]; exact List.Pairwise.filter _ hnr
    -- the addition
    let ext : Nat → List Nat := fun j => if j = wc.2 then tk wc.1 (items.eraseIdx i) else if j ∈ tk wc.1 (items.eraseIdx i) then wc.2 :: ext' j else ext' j
    have ec : ext wc.2 = tk wc.1 (items.eraseIdx i) := if_pos rfl
    have et : ∀ j, j ≠ wc.2 → j ∈ tk wc.1 (items.eraseIdx i) → ext j = wc.2 :: ext' j := fun j h1 h2 => by show (if _ then _ else _) = _; rw [if_neg h1, if_pos h2]
    have en : ∀ j, j ≠ wc.2 → j ∉ tk wc.1 (items.eraseIdx i) → ext j = ext' j := fun j h1 h2 => by show (if _ then _ else _) = _; rw [if_neg h1, if_neg h2]
    have symt : ∀ k j, j ∈ ext k → k ∈ ext j := fun k j hj => by
      by_cases hk : k = wc.2
      · subst hk
        rw [ec] at hj
        rw [et j (hne j (htk j hj)) hj]
        exact .head _
      · by_cases hkt : k ∈ tk wc.1 (items.eraseIdx i)
        · rw [et k hk hkt] at hj
          rcases List.mem_cons.mp hj with rfl | hj
          · rw [ec]; exact hkt
          · have hjc : j ≠ wc.2 := fun z => hcn k (z ▸ hj)
            have := sy k j hj
            by_cases hjt : j ∈ tk wc.1 (items.eraseIdx i)
            · rw [et j hjc hjt]; exact .tail _ this
            · rw [en j hjc hjt]; exact this
        · rw [en k hk hkt] at hj
          have hjc : j ≠ wc.2 := fun z => hcn k (z ▸ hj)
          have := sy k j hj
          by_cases hjt : j ∈ tk wc.1 (items.eraseIdx i)
          · rw [et j hjc hjt]; exact .tail _ this
          · rw [en j hjc hjt]; exact this
    have memt : ∀ k j, j ∈ ext k → j ∈ items.map (·.2) := fun k j hj => by
      by_cases hk : k = wc.2
      · subst hk
        rw [ec] at hj
        exact hsub _ (htk _ hj)
      · by_cases hkt : k ∈ tk wc.1 (items.eraseIdx i)
        · rw [et k hk hkt] at hj
          rcases List.mem_cons.mp hj with rfl | hj
          · exact hcm
          · exact hsub _ (mm k j hj)
        · rw [en k hk hkt] at hj
          exact hsub _ (mm k j hj)
    have ndt : ∀ k, (ext k).Nodup := fun k => by
      by_cases hk : k = wc.2
      · subst hk; rw [ec]; exact hnt
      · by_cases hkt : k ∈ tk wc.1 (items.eraseIdx i)
        · rw [et k hk hkt]; exact List.nodup_cons.mpr ⟨hcn k, nd k⟩
        · rw [en k hk hkt]; exact nd k
    have lent : ∀ p ∈ items, (ext p.2).length = p.1 := fun p hp => by
      by_cases hk : p.2 = wc.2
      · obtain rfl : p = wc := snd_inj hn hwc hp hk
        rw [ec]; exact tk_length hnr hw
      · have hpr : p ∈ items.eraseIdx i := by
          rw [List.mem_eraseIdx_iff_getElem?]
          obtain ⟨j, hj⟩ := List.mem_iff_getElem?.mp hp
          refine ⟨j, fun z => hk ?_, hj⟩
          rw [z, e] at hj
          rw [← Option.some.inj hj]
        by_cases hkt : p.2 ∈ tk wc.1 (items.eraseIdx i)
        · rw [et _ hk hkt]
          have := ln (dec1 (tk wc.1 (items.eraseIdx i)) p) (List.mem_map.mpr ⟨p, hpr, rfl⟩)
          rw [dec1_snd] at this
          have hd : (dec1 (tk wc.1 (items.eraseIdx i)) p).1 = p.1 - 1 := by unfold dec1; rw [if_pos hkt]
          rw [hd] at this
          have := h0 p hpr hkt
          rw [List.length_cons]; omega
        · rw [en _ hk hkt]
          have := ln (dec1 (tk wc.1 (items.eraseIdx i)) p) (List.mem_map.mpr ⟨p, hpr, rfl⟩)
          rw [dec1_snd] at this
          have hd : (dec1 (tk wc.1 (items.eraseIdx i)) p).1 = p.1 := by unfold dec1; rw [if_neg hkt]
          rw [hd] at this
          exact this
    refine ⟨ext, fun k => ?_, ⟨fun k hk => ?_, memt, symt, ndt, lent, ?_⟩⟩
    · rw [hb k]
      unfold bkT
      by_cases hk : k = wc.2
      · subst hk; rw [if_pos rfl, ec, hoc, List.append_nil]
      · rw [if_neg hk]
        by_cases hkt : k ∈ tk wc.1 (items.eraseIdx i)
        · rw [if_pos hkt, et k hk hkt]; simp
        · rw [if_neg hkt, en k hk hkt]
    · have h1 : k ≠ wc.2 := fun z => hk (z ▸ hcm)
      have h2 : k ∉ (items.eraseIdx i).map (·.2) := fun z => hk (hsub _ z)
      rw [en k h1 (fun z => h2 (htk _ z))]
      exact o k h2
    · have hcs : (items.map (·.2))[place % (items.map (·.2)).length]? = some wc.2 := by rw [hlm, hi, List.getElem?_map, e]; rfl
      have hfil : ((items.map (·.2)).eraseIdx (place % (items.map (·.2)).length)).filter (· ∈ ext wc.2) = tk wc.1 (items.eraseIdx i) := by
        rw [hlm, hi, ec, ← map_eraseIdx', filter_tk hnr]
      refine ⟨wc.2, hcs, ?_, ?_⟩
      · rw [hfil, tk_length hnr hw]
        intro ranks hp ho out h1 h2
        refine right_taken hsr hw (Eq.mp (congrArg (List.Perm ranks) ?_) hp) ho h1 h2
        rw [hlm, hi, ← map_eraseIdx', List.map_map]
        refine List.map_congr_left fun p hp => ?_
        show rankOf ext ((items.eraseIdx i).map (·.2)) wc.2 p.2 = (-(p.1 : Int), p.2)
        unfold rankOf
        have hpi : p ∈ items := List.mem_of_mem_eraseIdx hp
        rw [filter_len (S := (items.eraseIdx i).map (·.2) ++ [wc.2]) ?_ (ndt p.2) ?_, lent p hpi]
        · rw [List.nodup_append]
          refine ⟨hnr, by simp, fun a ha b hb => ?_⟩
          rw [List.mem_singleton.mp hb]
          exact hne a ha
        · intro x hx
          have hx := memt _ _ hx
          obtain ⟨q, hq, rfl⟩ := List.mem_map.mp hx
          by_cases hqc : q.2 = wc.2
          · exact List.mem_append_right _ (by rw [hqc]; exact .head _)
          · refine List.mem_append_left _ (List.mem_map.mpr ⟨q, ?_, rfl⟩)
            rw [List.mem_eraseIdx_iff_getElem?]
            obtain ⟨j, hj⟩ := List.mem_iff_getElem?.mp hq
            refine ⟨j, fun z => hqc ?_, hj⟩
            rw [z, e] at hj
            rw [← Option.some.inj hj]
      · rw [hlm, hi, ← map_eraseIdx']
        refine RightP_congr n _ (fun k hk x hx => ?_) ri
        have h1 : k ≠ wc.2 := hne k hk
        have h2 : x ≠ wc.2 := hne x hx
        by_cases hkt : k ∈ tk wc.1 (items.eraseIdx i)
        · rw [et k h1 hkt]; simp [h2]
        · rw [en k h1 hkt]
end Mine
end
/-! part P6 -/
section
theorem Mine.rstP6 : True := by
  w_top off
  trivial
namespace Mine
/-! who can be tied at all: Erdoes and Gallai by counts, one step by Havel and Hakimi; five at most, wishes at most four -/
def cnt (v : Nat) (l : List Nat) : Nat := l.countP (fun x => decide (v ≤ x))
def egc (n1 n2 n3 n4 k : Nat) : Bool :=
  Nat.ble (min k n1 + min k n2 + min k n3 + min k n4)
    (k * (k - 1) + ((n1 - min k n1) + (if 2 ≤ k then n2 - min k n2 else 0) + (if 3 ≤ k then n3 - min k n3 else 0) + (if 4 ≤ k then n4 - min k n4 else 0)))
def okc (s n1 n2 n3 n4 : Nat) : Bool := Nat.beq (s % 2) 0 && (egc n1 n2 n3 n4 1 && (egc n1 n2 n3 n4 2 && (egc n1 n2 n3 n4 3 && (egc n1 n2 n3 n4 4 && egc n1 n2 n3 n4 5))))
def okP (l : List Nat) : Bool := okc l.sum (cnt 1 l) (cnt 2 l) (cnt 3 l) (cnt 4 l)
theorem okP_perm {l l' : List Nat} (h : l.Perm l') : okP l = okP l' := by
  unfold okP cnt
  rw [h.sum_nat, h.countP_eq, h.countP_eq, h.countP_eq, h.countP_eq]
def hh (w : Nat) (s : List Nat) : Bool := decide (w ≤ s.length) && ((s.take w).all (fun x => decide (x ≠ 0)) && okP ((s.take w).map (· - 1) ++ s.drop w))
def hhOk (w : Nat) (s : List Nat) : Bool := okP (w :: s) == hh w s
def all5 (f : Nat → Bool) : Bool := f 0 && (f 1 && (f 2 && (f 3 && f 4)))
theorem all5_get {f : Nat → Bool} (h : all5 f = true) {x : Nat} (hx : x < 5) : f x = true := by
  unfold all5 at h
  simp only [Bool.and_eq_true] at h
  obtain ⟨h0, h1, h2, h3, h4⟩ := h
  match x, hx with
  | 0, _ => exact h0
  | 1, _ => exact h1
  | 2, _ => exact h2
  | 3, _ => exact h3
  | 4, _ => exact h4
theorem imp_get {a b : Bool} (h : (!a || b) = true) (ha : a = true) : b = true := by subst ha; exact h
theorem hh4 : all5 (fun d => all5 fun c => !(Nat.ble d c) || all5 fun b => !(Nat.ble c b) || all5 fun a => !(Nat.ble b a) || all5 fun w => hhOk w [a, b, c, d]) = true := by decide +kernel
theorem hh3 : all5 (fun c => all5 fun b => !(Nat.ble c b) || all5 fun a => !(Nat.ble b a) || all5 fun w => hhOk w [a, b, c]) = true := by decide +kernel
theorem hh2 : all5 (fun b => all5 fun a => !(Nat.ble b a) || all5 fun w => hhOk w [a, b]) = true := by decide +kernel
theorem hh1 : all5 (fun a => all5 fun w => hhOk w [a]) = true := by decide +kernel
theorem hh0 : all5 (fun w => hhOk w []) = true := by decide +kernel
theorem hh_all (w : Nat) (hw : w < 5) : ∀ s : List Nat, s.length ≤ 4 → (∀ x ∈ s, x < 5) → s.Pairwise (fun a b => b ≤ a) → okP (w :: s) = hh w s
  | [], _, _, _ => by simpa [hhOk] using all5_get hh0 hw
  | [a], _, h, _ => by simpa [hhOk] using all5_get (all5_get hh1 (h a (.head _))) hw
  | [a, b], _, h, o => by
    have h1 := (List.pairwise_cons.mp o).1 b (.head _)
    simpa [hhOk] using all5_get (imp_get (all5_get (all5_get hh2 (h b (.tail _ (.head _)))) (h a (.head _))) (Nat.ble_eq.mpr h1)) hw
  | [a, b, c], _, h, o => by
    have h1 := (List.pairwise_cons.mp o).1 b (.head _)
    have h2 := (List.pairwise_cons.mp (List.pairwise_cons.mp o).2).1 c (.head _)
    simpa [hhOk] using all5_get (imp_get (all5_get (imp_get (all5_get (all5_get hh3 (h c (.tail _ (.tail _ (.head _))))) (h b (.tail _ (.head _)))) (Nat.ble_eq.mpr h2)) (h a (.head _))) (Nat.ble_eq.mpr h1)) hw
  | [a, b, c, d], _, h, o => by
    have h1 := (List.pairwise_cons.mp o).1 b (.head _)
    have h2 := (List.pairwise_cons.mp (List.pairwise_cons.mp o).2).1 c (.head _)
    have h3 := (List.pairwise_cons.mp (List.pairwise_cons.mp (List.pairwise_cons.mp o).2).2).1 d (.head _)
    simpa [hhOk] using all5_get (imp_get (all5_get (imp_get (all5_get (imp_get (all5_get (all5_get hh4 (h d (.tail _ (.tail _ (.tail _ (.head _)))))) (h c (.tail _ (.tail _ (.head _))))) (Nat.ble_eq.mpr h3)) (h b (.tail _ (.head _)))) (Nat.ble_eq.mpr h2)) (h a (.head _))) (Nat.ble_eq.mpr h1)) hw
  | _ :: _ :: _ :: _ :: _ :: _, hl, _, _ => by simp only [List.length_cons] at hl; omega
theorem perm_erase : ∀ (l : List Pr) (i : Nat) {x : Pr}, l[i]? = some x → l.Perm (x :: l.eraseIdx i)
  | [], _, _, h => by cases h
  | y :: l, 0, x, h => by
    obtain rfl : y = x := by simpa using h
    exact List.Perm.refl _
  | y :: l, i + 1, x, h => by
    have h' : l[i]? = some x := by simpa using h
    exact ((perm_erase l i h').cons y).trans (List.Perm.swap ..)
theorem run_ok {side : Int} (hs : side = 1 ∨ side = -1) (place : Nat) : ∀ (n : Nat) (items : List Pr) (bk : Nat → List Nat), items.length = n → n ≤ 5 → (∀ p ∈ items, p.1 < 5) → (items.map (·.2)).Nodup →
    (runF side place n items bk).isSome = okP (items.map (·.1))
  | 0, items, bk, hl, _, _, _ => by
    obtain rfl : items = [] := List.eq_nil_of_length_eq_zero hl
    rfl
  | n + 1, items, bk, hl, h5, hb, hn => by
    unfold runF
    rw [turnF_eq hs place hn]
    unfold turnP
    have hlt : place % items.length < items.length := Nat.mod_lt _ (by omega)
    generalize hi : place % items.length = i at hlt ⊢
    obtain ⟨wc, e⟩ : ∃ wc, items[i]? = some wc := ⟨items[i], by simp [hlt]⟩
    rw [e]
    dsimp only
    obtain ⟨hnr, hcr⟩ := nodup_erase hn e
    have hp := perm_erase items i e
    have hlr : (items.eraseIdx i).length = n := by rw [List.length_eraseIdx, if_pos hlt, hl]; rfl
    obtain ⟨s, hsp, hso⟩ := sorted_ex (items.eraseIdx i) hnr
    have hbr : ∀ p ∈ items.eraseIdx i, p.1 < 5 := fun p h => hb p (List.mem_of_mem_eraseIdx h)
    have hw5 : wc.1 < 5 := hb wc (List.mem_of_getElem? e)
    have e1 : okP (items.map (·.1)) = hh wc.1 (s.map (·.1)) := by
      rw [← hh_all wc.1 hw5 (s.map (·.1)) (by rw [List.length_map, hsp.length_eq, hlr]; omega) (fun x hx => by
        obtain ⟨p, h, rfl⟩ := List.mem_map.mp hx
        exact hbr p (hsp.mem_iff.mp h)) (by
        rw [List.pairwise_map]
        refine hso.imp fun {a b} h => ?_
        unfold before at h
        simp only [Bool.or_eq_true, Bool.and_eq_true, decide_eq_true_eq] at h
        omega)]
      exact okP_perm ((hp.map (fun p : Pr => p.1)).trans ((hsp.symm.map (fun p : Pr => p.1)).cons wc.1))
    rw [e1]
    unfold hh
    have hlen : (s.map (·.1)).length = (items.eraseIdx i).length := by rw [List.length_map, hsp.length_eq]
    rw [hlen]
    by_cases hw : (items.eraseIdx i).length < wc.1
    · rw [if_pos hw, decide_eq_false (by omega)]
      rfl
    rw [if_neg hw, decide_eq_true (by omega), Bool.true_and]
    have htp := tkp_perm hsp hso wc.1
    have hmem : ∀ p ∈ items.eraseIdx i, (p.2 ∈ tk wc.1 (items.eraseIdx i) ↔ p ∈ s.take wc.1) := fun p h => by
      rw [htp.mem_iff]
      unfold tk
      constructor
      · intro h'
        obtain ⟨q, hq, e'⟩ := List.mem_map.mp h'
        have : q = p := snd_inj hnr h (List.mem_filter.mp hq).1 e'
        exact this ▸ hq
      · intro h'
        exact List.mem_map.mpr ⟨p, h', rfl⟩
    have hall : (∀ p ∈ items.eraseIdx i, p.2 ∈ tk wc.1 (items.eraseIdx i) → p.1 ≠ 0) ↔ ((s.map (·.1)).take wc.1).all (fun x => decide (x ≠ 0)) = true := by
      rw [← List.map_take, List.all_eq_true]
      constructor
      · intro h x hx
        obtain ⟨p, hp', rfl⟩ := List.mem_map.mp hx
        have hpr : p ∈ items.eraseIdx i := hsp.mem_iff.mp (List.mem_of_mem_take hp')
        exact decide_eq_true (h p hpr ((hmem p hpr).mpr hp'))
      · intro h p hpr ht
        exact of_decide_eq_true (h p.1 (List.mem_map.mpr ⟨p, (hmem p hpr).mp ht, rfl⟩))
    by_cases h0 : ∀ p ∈ items.eraseIdx i, p.2 ∈ tk wc.1 (items.eraseIdx i) → p.1 ≠ 0
    · rw [if_pos h0, hall.mp h0, Bool.true_and]
      dsimp only
      rw [run_ok hs place n _ _ (by rw [List.length_map]; exact hlr) (by omega) (fun p hp' => by
        obtain ⟨q, hq, rfl⟩ := List.mem_map.mp hp'
        have := hbr q hq
        unfold dec1
        split
        · show q.1 - 1 < 5; omega
        · exact this) (by rw [names_dec]; exact hnr)]
      refine okP_perm ?_
      have h1 : ((items.eraseIdx i).map (dec1 (tk wc.1 (items.eraseIdx i)))).Perm (s.map (dec1 (tk wc.1 (items.eraseIdx i)))) := hsp.symm.map _
      refine (h1.map (·.1)).trans (List.Perm.of_eq ?_)
      have hns : (s.map (·.2)).Nodup := (hsp.map _).nodup_iff.mpr hnr
      have hnsd : s.Nodup := by
        have : (s.map (·.2)).Pairwise (· ≠ ·) := hns
        rw [List.pairwise_map] at this
        exact this.imp fun h z => h (by rw [z])
      have hnd2 : (s.take wc.1 ++ s.drop wc.1).Nodup := by rw [List.take_append_drop]; exact hnsd
      have split : s.map (dec1 (tk wc.1 (items.eraseIdx i))) = (s.take wc.1).map (dec1 (tk wc.1 (items.eraseIdx i))) ++ (s.drop wc.1).map (dec1 (tk wc.1 (items.eraseIdx i))) := by
        rw [← List.map_append, List.take_append_drop]
      rw [split, List.map_append, List.map_map, List.map_map, ← List.map_take, ← List.map_drop, List.map_map]
      congr 1
      · refine List.map_congr_left fun p hp' => ?_
        have hpr : p ∈ items.eraseIdx i := hsp.mem_iff.mp (List.mem_of_mem_take hp')
        show (dec1 _ p).1 = p.1 - 1
        unfold dec1
        rw [if_pos ((hmem p hpr).mpr hp')]
      · refine List.map_congr_left fun p hp' => ?_
        have hpr : p ∈ items.eraseIdx i := hsp.mem_iff.mp (List.mem_of_mem_drop hp')
        show (dec1 _ p).1 = p.1
        unfold dec1
        rw [if_neg fun z => (List.nodup_append.mp hnd2).2.2 p ((hmem p hpr).mp z) p hp' rfl]
    · rw [if_neg h0, Bool.eq_false_iff.mpr fun z => h0 (hall.mpr z)]
      rfl
end Mine
end
/-! part S0 -/
section
theorem Mine.rstS0 : True := by
  w_top off
  trivial
open PySem PySem.Spec PySem.Calls PySem.W PyProof.Rows PyProof.V
set_option maxRecDepth 100000
set_option maxHeartbeats 4000000
namespace Mine
/-! the sort's tree of questions, answered by an order; up to four items -/
def evT {α : Type} (lt : Nat → Nat → Bool) : KasT α → α
  | .ret a => a
  | .ask i j k => evT lt (k (lt i j))
def okT {α : Type} (n : Nat) : KasT α → Bool
  | .ret _ => true
  | .ask i j k => Nat.blt i n && (Nat.blt j n && (okT n (k true) && okT n (k false)))
theorem evT_wp {α : Type} {n : Nat} {cmp : Nat → Nat → (Bool → Shared → Prop) → Shared → Prop} {lt : Nat → Nat → Bool} {s : Shared} {G : α → Shared → Prop} (hc : ∀ i j C, i < n → j < n → C (lt i j) s → cmp i j C s) :
    ∀ t : KasT α, okT n t = true → G (evT lt t) s → t.kasWp cmp G s
  | .ret _, _, h => h
  | .ask i j k, ho, h => by
    unfold okT at ho
    simp only [Bool.and_eq_true, Nat.blt_eq] at ho
    refine hc i j _ ho.1 ho.2.1 (evT_wp hc (k (lt i j)) ?_ h)
    cases lt i j
    · exact ho.2.2.2
    · exact ho.2.2.1
theorem evT_congr {α : Type} {n : Nat} {l1 l2 : Nat → Nat → Bool} (he : ∀ i j, i < n → j < n → l1 i j = l2 i j) : ∀ t : KasT α, okT n t = true → evT l1 t = evT l2 t
  | .ret _, _ => rfl
  | .ask i j k, ho => by
    unfold okT at ho
    simp only [Bool.and_eq_true, Nat.blt_eq] at ho
    unfold evT
    rw [he i j ho.1 ho.2.1]
    refine evT_congr he _ ?_
    cases l2 i j
    · exact ho.2.2.2
    · exact ho.2.2.1
theorem ok2 : okT 2 (kas_sort 2) = true := by decide +kernel
theorem ok3 : okT 3 (kas_sort 3) = true := by decide +kernel
theorem ok4 : okT 4 (kas_sort 4) = true := by decide +kernel
def ltB (a b c d e f : Bool) (i j : Nat) : Bool := match i, j with
  | 0, 1 => a
  | 0, 2 => b
  | 0, 3 => c
  | 1, 2 => d
  | 1, 3 => e
  | 2, 3 => f
  | 1, 0 => !a
  | 2, 0 => !b
  | 3, 0 => !c
  | 2, 1 => !d
  | 3, 1 => !e
  | 3, 2 => !f
  | _, _ => false
def all4 (f : Nat → Bool) : Bool := f 0 && (f 1 && (f 2 && f 3))
def transB (n : Nat) (lt : Nat → Nat → Bool) : Bool := all4 fun i => Nat.ble n i || all4 fun j => Nat.ble n j || all4 fun k => Nat.ble n k || (!(lt i j && lt j k) || lt i k)
def sortB (lt : Nat → Nat → Bool) : List Nat → Bool
  | [] => true
  | x :: r => r.all (fun y => !lt y x) && sortB lt r
def chkB (n : Nat) (lt : Nat → Nat → Bool) : Bool := !transB n lt || (((evT lt (kas_sort n)).toList.isPerm (List.range n)) && sortB lt (evT lt (kas_sort n)).toList)
def allB (f : Bool → Bool) : Bool := f true && f false
theorem allB_get {f : Bool → Bool} (h : allB f = true) (b : Bool) : f b = true := by
  unfold allB at h
  rw [Bool.and_eq_true] at h
  cases b
  · exact h.2
  · exact h.1
theorem chk4 : (allB fun a => allB fun b => allB fun c => allB fun d => allB fun e => allB fun f => chkB 4 (ltB a b c d e f)) = true := by decide +kernel
theorem chk3 : (allB fun a => allB fun b => allB fun d => chkB 3 (ltB a b true d true true)) = true := by decide +kernel
theorem chk2 : (allB fun a => chkB 2 (ltB a true true true true true)) = true := by decide +kernel
theorem transB_of {n : Nat} {lt : Nat → Nat → Bool} (h : ∀ i j k, i < n → j < n → k < n → lt i j = true → lt j k = true → lt i k = true) : transB n lt = true := by
  have a4 : ∀ f : Nat → Bool, (∀ i, f i = true) → all4 f = true := fun f hf => by unfold all4; rw [hf, hf, hf, hf]; rfl
  unfold transB
  refine a4 _ fun i => ?_
  by_cases hi : i < n
  rotate_left
  · rw [Nat.ble_eq.mpr (by omega)]; rfl
  rw [Bool.or_eq_true]; right
  refine a4 _ fun j => ?_
  by_cases hj : j < n
  rotate_left
  · rw [Nat.ble_eq.mpr (by omega)]; rfl
  rw [Bool.or_eq_true]; right
  refine a4 _ fun k => ?_
  by_cases hk : k < n
  rotate_left
  · rw [Nat.ble_eq.mpr (by omega)]; rfl
  rw [Bool.or_eq_true]; right
  cases h1 : lt i j
  · rfl
  cases h2 : lt j k
  · rfl
  rw [h i j k hi hj hk h1 h2]; rfl
theorem sortB_pw {lt : Nat → Nat → Bool} : ∀ {l : List Nat}, sortB lt l = true → l.Pairwise (fun x y => lt y x = false)
  | [], _ => .nil
  | x :: r, h => by
    unfold sortB at h
    rw [Bool.and_eq_true, List.all_eq_true] at h
    exact List.pairwise_cons.mpr ⟨fun y hy => by simpa using h.1 y hy, sortB_pw h.2⟩
/-- what the sort ends with -/
theorem sort_ends {n : Nat} (h2 : 2 ≤ n) (h4 : n ≤ 4) {lt : Nat → Nat → Bool} (ht : ∀ i j k, i < n → j < n → k < n → lt i j = true → lt j k = true → lt i k = true)
    (hto : ∀ i j, i < n → j < n → i ≠ j → lt j i = !lt i j) (hir : ∀ i, i < n → lt i i = false) :
    okT n (kas_sort n) = true ∧ ((evT lt (kas_sort n)).toList).Perm (List.range n) ∧ (evT lt (kas_sort n)).toList.Pairwise (fun x y => lt y x = false) := by
  have fin : ∀ l2 : Nat → Nat → Bool, (∀ i j, i < n → j < n → lt i j = l2 i j) → okT n (kas_sort n) = true → chkB n l2 = true → okT n (kas_sort n) = true ∧ ((evT lt (kas_sort n)).toList).Perm (List.range n) ∧ (evT lt (kas_sort n)).toList.Pairwise (fun x y => lt y x = false) := by
    intro l2 he ho hc
    have e := evT_congr he (kas_sort n) ho
    unfold chkB at hc
    rw [transB_of (n := n) (lt := l2) (fun i j k hi hj hk a b => by
      rw [← he i j hi hj] at a
      rw [← he j k hj hk] at b
      rw [← he i k hi hk]
      exact ht i j k hi hj hk a b)] at hc
    have hc : ((evT l2 (kas_sort n)).toList.isPerm (List.range n) && sortB l2 (evT l2 (kas_sort n)).toList) = true := hc
    rw [Bool.and_eq_true] at hc
    have hp : ((evT l2 (kas_sort n)).toList).Perm (List.range n) := List.isPerm_iff.mp hc.1
    rw [e]
    refine ⟨ho, hp, ?_⟩
    have := sortB_pw hc.2
    refine List.pairwise_iff_forall_sublist.mpr fun {a b} hab => ?_
    have h1 := List.pairwise_iff_forall_sublist.mp this hab
    have ma : a < n := List.mem_range.mp (hp.mem_iff.mp (hab.subset (.head _)))
    have mb : b < n := List.mem_range.mp (hp.mem_iff.mp (hab.subset (.tail _ (.head _))))
    rw [he b a mb ma]; exact h1
  have cov : ∀ i j, i < 4 → j < 4 → i < n → j < n → lt i j = ltB (lt 0 1) (lt 0 2) (lt 0 3) (lt 1 2) (lt 1 3) (lt 2 3) i j := by
    intro i j hi4 hj4 hi hj
    match i, j, hi4, hj4 with
    | 0, 0, _, _ => exact hir 0 hi
    | 1, 1, _, _ => exact hir 1 hi
    | 2, 2, _, _ => exact hir 2 hi
    | 3, 3, _, _ => exact hir 3 hi
    | 0, 1, _, _ => rfl
    | 0, 2, _, _ => rfl
    | 0, 3, _, _ => rfl
    | 1, 2, _, _ => rfl
    | 1, 3, _, _ => rfl
    | 2, 3, _, _ => rfl
    | 1, 0, _, _ => exact hto 0 1 hj hi (by decide)
    | 2, 0, _, _ => exact hto 0 2 hj hi (by decide)
    | 3, 0, _, _ => exact hto 0 3 hj hi (by decide)
    | 2, 1, _, _ => exact hto 1 2 hj hi (by decide)
    | 3, 1, _, _ => exact hto 1 3 hj hi (by decide)
    | 3, 2, _, _ => exact hto 2 3 hj hi (by decide)
  have h3 : n = 2 ∨ n = 3 ∨ n = 4 := by omega
  rcases h3 with rfl | rfl | rfl
  · refine fin (ltB (lt 0 1) true true true true true) (fun i j hi hj => ?_) ok2 (allB_get chk2 _)
    rw [cov i j (by omega) (by omega) hi hj]
    match i, j, hi, hj with
    | 0, 0, _, _ => rfl
    | 0, 1, _, _ => rfl
    | 1, 0, _, _ => rfl
    | 1, 1, _, _ => rfl
  · refine fin (ltB (lt 0 1) (lt 0 2) true (lt 1 2) true true) (fun i j hi hj => ?_) ok3 (allB_get (allB_get (allB_get chk3 _) _) _)
    rw [cov i j (by omega) (by omega) hi hj]
    match i, j, hi, hj with
    | 0, 0, _, _ => rfl
    | 0, 1, _, _ => rfl
    | 0, 2, _, _ => rfl
    | 1, 0, _, _ => rfl
    | 1, 1, _, _ => rfl
    | 1, 2, _, _ => rfl
    | 2, 0, _, _ => rfl
    | 2, 1, _, _ => rfl
    | 2, 2, _, _ => rfl
  · exact fin (ltB (lt 0 1) (lt 0 2) (lt 0 3) (lt 1 2) (lt 1 3) (lt 2 3)) (fun i j hi hj => cov i j hi hj hi hj) ok4 (allB_get (allB_get (allB_get (allB_get (allB_get (allB_get chk4 _) _) _) _) _) _)
end Mine
end
/-! part Sx -/
section
theorem Mine.rstSx : True := by
  w_top off
  trivial
open PySem PySem.Spec PySem.Calls PySem.W PyProof.Rows PyProof.V
set_option maxRecDepth 100000
set_option maxHeartbeats 4000000
namespace Mine
section
variable {prog : Program} {w : World} {A : Around} {E : Value → Shared → Prop} {s : Shared}
theorem zip_short {vs : List Value} (h1 : vs.length < 2) : (vs.toArray.zip vs.toArray).map (·.2) = vs.toArray := by
  match vs, h1 with
  | [], _ => simp
  | [_], _ => simp
theorem lsort_short {a : Addr} {vs : List Value} {n : Nat} {P : PySem.Fin → Shared → Prop} (ho : s.heap.get? a = some (seqObj "list" vs.toArray n)) (h1 : vs.length < 2)
    (h : P (.done (.ret .none)) { s with heap := sortedHeap s.heap a vs vs.toArray }) : wpAny (model prog w) A (Builtin.«list.sort» ⟨[.ref a], []⟩) P E s := by
  rw [list_sort_plain]
  have hz : ∀ k, k ≤ 2 → k ≤ sizeLine := fun k hk => by rw [sizeLine_eq]; omega
  have ha : a < s.heap.objs.size := Heap.lt_size ho
  refine wpAny_bind (listItems_at ho rfl ?_)
  refine wpAny_bind (listUpdate_at ho rfl ?_ (by rw [List.size_toArray]; exact hz _ (by omega)) (Nat.zero_le _))
  obtain ⟨e1, ho1⟩ : ∃ e1, (s.heap.update a (Obj.mapSeq fun _ => #[])).get? a = some (seqObj "list" #[] e1) := ⟨_, get?_update_seq ho (fun _ => #[])⟩
  refine wpAny_bind (seqEpoch_at ho1 rfl ?_)
  refine wpAny_bind (wpAny_newTuple ?_ (by show vs.length ≤ _; exact hz _ (by omega)))
  refine wpAny_bind (wpAny_newList ?_ (Nat.zero_le _))
  refine wpAny_holding ?_
  have ho6 : (((s.heap.update a (Obj.mapSeq fun _ => #[])).push (seqObj "tuple" vs.toArray 0)).push (seqObj "list" #[] 0)).get? a = some (seqObj "list" #[] e1) :=
    Heap.get?_push_of_some _ (Heap.get?_push_of_some _ ho1)
  show wpAny (model prog w) A _ P E { s with heap := ((s.heap.update a (Obj.mapSeq fun _ => #[])).push (seqObj "tuple" vs.toArray 0)).push (seqObj "list" #[] 0) }
  dsimp only
  have h2 : vs.toArray.size < 2 := by rw [List.size_toArray]; exact h1
  rw [if_pos h2, if_pos h2]
  refine wpAny_bind (wpAny_pure ?_)
  rw [StateT.run_pure]
  refine wpAny_bind (wpAny_pure ?_)
  dsimp only
  have hm : (arrOf (SortSt.mk' general' (vs.toArray.zip vs.toArray) #[] 7 none)).map (·.2) = vs.toArray := by
    exact zip_short h1
  rw [hm]
  refine wpAny_bind (seqEpoch_at ho6 rfl ?_)
  refine wpAny_bind (listUpdate_at ho6 rfl ?_ (Nat.zero_le _) (Nat.le_succ_of_le (hz vs.toArray.size (by rw [List.size_toArray]; omega))))
  simp only [bne_self_eq_false, Bool.false_eq_true, if_false]
  exact wpAny_pure h
theorem sorted_short {h₀ : Heap} {L : Addr} {m : Str → Option Value} {news : List (Addr × Obj)} {l : Addr} {vs : List Value} {Q : Value → Shared → Prop}
    (F : Fr h₀ L s.heap m) (N : News h₀ L s.heap news) (hl : s.heap.IsList l vs.toArray) (h1 : vs.length < 2)
    (h : ∀ (h' : Heap) (e : Nat), Fr h₀ L h' m → News h₀ L h' ((s.heap.objs.size + 1, seqObj "list" vs.toArray e) :: news) → Q (.ref (s.heap.objs.size + 1)) { s with heap := h' }) :
    wpAny (model prog w) A (call (.builtin "sorted") [.ref l]) Q E s := by
  have hz : vs.length ≤ sizeLine := by rw [sizeLine_eq]; omega
  refine Calls.call_function_entry kind_sorted plain_sorted entry_sorted (args_sorted1 _) ?_
  unfold Builtin.«sorted»
  refine wpAny_bind (m := checkCount "sorted" 1 1 _) (wpAny_pure ?_)
  refine wpAny_bind (collect_list hl ?_ hz)
  refine wpAny_bind (wpAny_newList ?_ hz)
  have hsz : ((s.heap.push (seqObj "list" #[] 0)).update s.heap.objs.size (Obj.mapSeq (· ++ vs.toArray))).objs.size = s.heap.objs.size + 1 := by
    rw [Heap.size_update, size_push']
  have hoL : (((s.heap.push (seqObj "list" #[] 0)).update s.heap.objs.size (Obj.mapSeq (· ++ vs.toArray))).push (seqObj "list" vs.toArray 0)).get? (s.heap.objs.size + 1) = some (seqObj "list" vs.toArray 0) := by
    rw [← hsz]; exact Heap.get?_push_size _ rfl
  show wpAny _ _ _ _ _ { s with heap := ((s.heap.push (seqObj "list" #[] 0)).update s.heap.objs.size (Obj.mapSeq (· ++ vs.toArray))).push (seqObj "list" vs.toArray 0) }
  rw [hsz]
  obtain ⟨e, he⟩ := sortedAll_at s.heap vs vs.toArray
  refine wpAny_bind (wpAny_holding (wpAny_call_entry slot_list_sort ⟨_, hoL, rfl⟩ entry_list_sort (lsort_short hoL h1 ⟨_, rfl, wpAny_pure ⟨_, rfl, ?_⟩⟩) (args_list_sort _)))
  exact h _ e (F.kept fun _ _ => sortedAll_old) (N.kept_cons F (fun _ _ => sortedAll_old) (Nat.le_succ _) he)
end
def RankIs (all : List (Addr × Obj)) : List Value → List (Int × Nat) → Prop
  | [], [] => True
  | v :: vs, p :: ps => (∃ t tb tn, v = .ref t ∧ (t, tupO [.int p.1 tb, .str (nm p.2) tn] 0) ∈ all) ∧ RankIs all vs ps
  | _, _ => False
theorem RankIs.length {all : List (Addr × Obj)} : ∀ {vs : List Value} {ps : List (Int × Nat)}, RankIs all vs ps → vs.length = ps.length
  | [], [], _ => rfl
  | _ :: _, _ :: _, h => by rw [List.length_cons, List.length_cons, RankIs.length h.2]
  | [], _ :: _, h => h.elim
  | _ :: _, [], h => h.elim
theorem RankIs.mono {all all' : List (Addr × Obj)} (hs : ∀ p ∈ all, p ∈ all') : ∀ {vs : List Value} {ps : List (Int × Nat)}, RankIs all vs ps → RankIs all' vs ps
  | [], [], _ => trivial
  | _ :: _, _ :: _, h => ⟨let ⟨t, tb, tn, e, hm⟩ := h.1; ⟨t, tb, tn, e, hs _ hm⟩, RankIs.mono hs h.2⟩
  | [], _ :: _, h => h.elim
  | _ :: _, [], h => h.elim
theorem RankIs.snoc {all : List (Addr × Obj)} {t : Addr} {tb tn : Tok} {p : Int × Nat} (hm : (t, tupO [.int p.1 tb, .str (nm p.2) tn] 0) ∈ all) : ∀ {vs : List Value} {ps : List (Int × Nat)}, RankIs all vs ps → RankIs all (vs ++ [.ref t]) (ps ++ [p])
  | [], [], _ => ⟨⟨t, tb, tn, rfl, hm⟩, trivial⟩
  | _ :: _, _ :: _, h => ⟨h.1, RankIs.snoc hm h.2⟩
  | [], _ :: _, h => h.elim
  | _ :: _, [], h => h.elim
theorem RankIs.take {all : List (Addr × Obj)} : ∀ {vs : List Value} {ps : List (Int × Nat)} (i : Nat), RankIs all vs ps → RankIs all (vs.take i) (ps.take i)
  | _, _, 0, _ => trivial
  | [], [], _ + 1, _ => trivial
  | _ :: _, _ :: _, i + 1, h => ⟨h.1, RankIs.take i h.2⟩
  | [], _ :: _, _, h => h.elim
  | _ :: _, [], _, h => h.elim
theorem RankIs.get {all : List (Addr × Obj)} : ∀ {vs : List Value} {ps : List (Int × Nat)}, RankIs all vs ps → ∀ i, i < ps.length → ∃ t tb tn, vs.getD i Value.none = .ref t ∧ (t, tupO [.int (ps.getD i (0, 0)).1 tb, .str (nm (ps.getD i (0, 0)).2) tn] 0) ∈ all
  | [], [], _, i, hi => by simp at hi
  | _ :: _, _ :: _, h, 0, _ => h.1
  | _ :: _, _ :: _, h, i + 1, hi => by
    obtain ⟨t, tb, tn, e, hm⟩ := RankIs.get h.2 i (by simpa using hi)
    exact ⟨t, tb, tn, by simpa using e, by simpa using hm⟩
  | [], _ :: _, h, _, _ => h.elim
  | _ :: _, [], h, _, _ => h.elim
theorem RankIs.of_get {all : List (Addr × Obj)} {vs : List Value} {ps : List (Int × Nat)} (h : RankIs all vs ps) : ∀ is : List Nat, (∀ i ∈ is, i < ps.length) → RankIs all (is.map fun i => vs.getD i Value.none) (is.map fun i => ps.getD i (0, 0))
  | [], _ => trivial
  | i :: r, hi => ⟨h.get i (hi i (.head _)), RankIs.of_get h r fun j hj => hi j (.tail _ hj)⟩
def lexb (a b : Int × Nat) : Bool := decide (a.1 < b.1) || (decide (a.1 = b.1) && decide (a.2 < b.2))
theorem lexb_iff {a b : Int × Nat} : lexb a b = true ↔ lexlt a b := by
  unfold lexb lexlt
  simp only [Bool.or_eq_true, Bool.and_eq_true, decide_eq_true_eq]
theorem nm_lt (a b : Nat) : ((nm a).cps.toList < (nm b).cps.toList) ↔ a < b := by
  show [97 + a] < [97 + b] ↔ _
  rw [List.cons_lt_cons_iff]
  simp
theorem rank_lt {prog : Program} {w : World} {A : Around} {E : Value → Shared → Prop} {s : Shared} {x y : Addr} {ox oy : Obj} {a b : Int × Nat} {ta tb ua ub : Tok} {C : Bool → Shared → Prop}
    (hx : s.heap.get? x = some (tupO [.int a.1 ta, .str (nm a.2) ua] 0)) (hy : s.heap.get? y = some (tupO [.int b.1 tb, .str (nm b.2) ub] 0)) (h : C (lexb a b) s) :
    wpAny (model prog w) A (keyLt' (tuples' true) (.ref x) (.ref y)) C E s := by
  refine kat_lt hx rfl hy rfl ?_
  refine kat_cons (wpAny_eqBool_int ?_)
  by_cases e1 : a.1 = b.1
  · have e : (a.1 == b.1) = true := by simpa using e1
    rw [e]
    refine kat_yes (kat_cons (wpAny_eqBool_str ?_))
    by_cases e2 : a.2 = b.2
    · have e : decide (nm a.2 = nm b.2) = true := by rw [e2]; simp
      rw [e]
      refine kat_yes (kat_nil ?_)
      have : lexb a b = false := by unfold lexb; simp [e1, e2]
      rw [this] at h
      simpa using h
    · have e : decide (nm a.2 = nm b.2) = false := decide_eq_false fun z => e2 (nm_inj z)
      rw [e]
      refine kat_no (kat_one _ _ ?_)
      refine lt_str ?_
      show C _ s
      have : lexb a b = decide ((nm a.2).cps.toList < (nm b.2).cps.toList) := by
        have e3 : decide ((nm a.2).cps.toList < (nm b.2).cps.toList) = decide (a.2 < b.2) := decide_eq_decide.mpr (nm_lt a.2 b.2)
        rw [e3]
        unfold lexb
        simp [e1]
      rw [this] at h
      exact h
  · have e : (a.1 == b.1) = false := by simpa using e1
    rw [e]
    refine kat_no (oneLt_int ?_)
    have : lexb a b = decide (a.1 < b.1) := by unfold lexb; simp [e1]
    rw [this] at h
    exact h
section
variable {prog : Program} {w : World} {A : Around} {E : Value → Shared → Prop} {s : Shared}
theorem rank_firsts {h₀ h : Heap} {L : Addr} {news : List (Addr × Obj)} (N : News h₀ L h news) : ∀ {vs : List Value} {ps : List (Int × Nat)}, RankIs news vs ps → ∃ fs, KatTups h vs fs ∧ fs.length = ps.length ∧ ∀ v ∈ fs, ∃ n t, v = .int n t
  | [], [], _ => ⟨[], trivial, rfl, fun _ h => nomatch h⟩
  | _ :: _, p :: _, r => by
    obtain ⟨⟨t, tb, tn, rfl, hm⟩, r⟩ := r
    obtain ⟨fs, k, hl, hf⟩ := rank_firsts N r
    refine ⟨.int p.1 tb :: fs, KatTups.cons (N _ hm).1 rfl rfl rfl k, by rw [List.length_cons, List.length_cons, hl], fun v hv => ?_⟩
    rcases List.mem_cons.mp hv with rfl | hv
    · exact ⟨_, _, rfl⟩
    · exact hf v hv
  | [], _ :: _, r => r.elim
  | _ :: _, [], r => r.elim
theorem sorted_ranks {h₀ : Heap} {L : Addr} {m : Str → Option Value} {news : List (Addr × Obj)} {l : Addr} {vs : List Value} {rs : List (Int × Nat)} {n : Nat} {Q : Value → Shared → Prop}
    (F : Fr h₀ L s.heap m) (N : News h₀ L s.heap news) (hl : (l, lstO vs n) ∈ news) (R : RankIs news vs rs) (hn : (rs.map (·.2)).Nodup) (h4 : rs.length ≤ 4)
    (h : ∀ D vs' rs' n' h', Fr h₀ L h' m → News h₀ L h' ((D, lstO vs' n') :: news) → (∀ p ∈ news, p.1 < D) → RankIs news vs' rs' → rs'.Perm rs → rs'.Pairwise (fun a b => ¬ lexlt b a) → Q (.ref D) { s with heap := h' }) :
    wpAny (model prog w) A (call (.builtin "sorted") [.ref l]) Q E s := by
  have hvl := R.length
  have hL : s.heap.IsList l vs.toArray := ⟨_, (N _ hl).1, rfl, _, rfl⟩
  by_cases h2 : vs.length < 2
  · refine sorted_short F N hL h2 fun h' e F' N' => ?_
    refine h _ vs rs e h' F' N' (fun p hp => Nat.lt_succ_of_lt (Heap.lt_size (N p hp).1)) R (List.Perm.refl _) ?_
    rw [hvl] at h2
    match rs, h2 with
    | [], _ => exact .nil
    | [_], _ => exact List.pairwise_singleton _ _
  · refine kat_sorted F N hL (by omega) (by omega) fun D e1 h' F' N' lD => ?_
    have R' : RankIs ((D, seqObj "list" #[] e1) :: news) vs rs := R.mono fun p hp => .tail _ hp
    obtain ⟨fs, hk, hfl, hf⟩ := rank_firsts N' R'
    refine kat_kind (T := .type "int") hk (by omega) (fun v hv => ?_) rfl ?_
    · obtain ⟨z, t, rfl⟩ := hf v hv
      exact Looks.of_pure rfl
    have hne : (Value.type "int" != Value.type "tuple") = true := by decide
    rw [hne]
    -- the order
    have lt_as : ∀ i j k : Nat, i < vs.length → j < vs.length → k < vs.length → lexb (rs.getD i (0, 0)) (rs.getD j (0, 0)) = true → lexb (rs.getD j (0, 0)) (rs.getD k (0, 0)) = true → lexb (rs.getD i (0, 0)) (rs.getD k (0, 0)) = true := by
      intro i j k _ _ _ a b
      rw [lexb_iff] at *
      unfold lexlt at *
      omega
    have lt_to : ∀ i j : Nat, i < vs.length → j < vs.length → i ≠ j → lexb (rs.getD j (0, 0)) (rs.getD i (0, 0)) = !lexb (rs.getD i (0, 0)) (rs.getD j (0, 0)) := by
      intro i j hi hj hij
      rw [hvl] at hi hj
      have e1 : rs.getD i (0, 0) = rs[i] := by simp [hi]
      have e2 : rs.getD j (0, 0) = rs[j] := by simp [hj]
      have hd : (rs[i]).2 ≠ (rs[j]).2 := fun z => by
        have h1 : (rs.map (·.2))[i]'(by rw [List.length_map]; exact hi) = (rs.map (·.2))[j]'(by rw [List.length_map]; exact hj) := by rw [List.getElem_map, List.getElem_map]; exact z
        exact hij ((List.getElem_inj hn).mp h1)
      rw [e1, e2]
      generalize rs[i] = a at *
      generalize rs[j] = b at *
      cases hb : lexb a b with
      | true =>
        rw [lexb_iff] at hb
        cases hc : lexb b a with
        | false => rfl
        | true =>
          rw [lexb_iff] at hc
          unfold lexlt at *
          omega
      | false =>
        have hb' : ¬ lexlt a b := fun z => by rw [lexb_iff.mpr z] at hb; cases hb
        have : lexlt b a := by unfold lexlt at *; omega
        rw [lexb_iff.mpr this]; rfl
    have lt_ir : ∀ i : Nat, i < vs.length → lexb (rs.getD i (0, 0)) (rs.getD i (0, 0)) = false := by
      intro i _
      cases hb : lexb (rs.getD i (0, 0)) (rs.getD i (0, 0)) with
      | false => rfl
      | true => rw [lexb_iff] at hb; unfold lexlt at hb; omega
    obtain ⟨ho, hp, hs⟩ := sort_ends (n := vs.length) (by omega) (by omega) (lt := fun i j => lexb (rs.getD i (0, 0)) (rs.getD j (0, 0))) lt_as lt_to lt_ir
    generalize hpp : (evT (fun i j => lexb (rs.getD i (0, 0)) (rs.getD j (0, 0))) (kas_sort vs.length)) = pp at hp hs
    refine evT_wp (lt := fun i j => lexb (rs.getD i (0, 0)) (rs.getD j (0, 0))) (fun i j C hi hj hC => ?_) _ ho ?_
    · unfold kas_ask
      obtain ⟨x, ta, ua, ex, mx⟩ := R'.get i (by omega)
      obtain ⟨y, tb, ub, ey, my⟩ := R'.get j (by omega)
      rw [ex, ey]
      exact rank_lt (ox := tupO [] 0) (oy := tupO [] 0) (N' _ mx).1 (N' _ my).1 hC
    · rw [hpp]
      refine KasFin.intro F' N' (.head fun p hp => Nat.ne_of_lt (lD p hp)) fun h2 c F2 N2 => ?_
      refine h D _ (pp.toList.map fun i => rs.getD i (0, 0)) c h2 F2 N2 lD (R.of_get _ fun i hi => ?_) ?_ ?_
      · have := List.mem_range.mp (hp.mem_iff.mp hi)
        omega
      · have h1 := hp.map fun i => rs.getD i (0, 0)
        refine h1.trans (List.Perm.of_eq ?_)
        rw [hvl]
        apply List.ext_getElem
        · simp
        · intro i h1 h2
          simp only [List.getElem_map, List.getElem_range]
          simp at h1
          simp [h1]
      · rw [List.pairwise_map]
        refine hs.imp fun {a b} hab => ?_
        intro z
        rw [lexb_iff.mpr z] at hab
        cases hab
end
end Mine
end
/-! part Rh -/
section
theorem Mine.rstRh : True := by
  w_top off
  trivial
open PySem PySem.Spec PySem.Calls PySem.W PyProof.Rows PyProof.V
set_option maxRecDepth 100000
set_option maxHeartbeats 4000000
namespace Mine
noncomputable def scR (p : Params) : { x : Scope // scopeAt p 288 = x } := by
  refine ⟨?a, ?b⟩
  rotate_left
  conv => lhs; whnf
noncomputable def tsR (p : Params) : { x : Expr // testOf (nth (bodyAt p 288) 1) = x } := by
  refine ⟨?a, ?b⟩
  rotate_left
  conv => lhs; whnf
noncomputable def bdR (p : Params) : { x : List Stmt // inner (nth (bodyAt p 288) 1) = x } := by
  refine ⟨?a, ?b⟩
  rotate_left
  conv => lhs; whnf
noncomputable def stR0 (p : Params) : { x : Stmt // nth (inner (nth (bodyAt p 288) 1)) 0 = x } := by
  refine ⟨?a, ?b⟩
  rotate_left
  conv => lhs; whnf
noncomputable def stR1 (p : Params) : { x : Stmt // nth (inner (nth (bodyAt p 288) 1)) 1 = x } := by
  refine ⟨?a, ?b⟩
  rotate_left
  conv => lhs; whnf
noncomputable def stR2 (p : Params) : { x : Stmt // nth (inner (nth (bodyAt p 288) 1)) 2 = x } := by
  refine ⟨?a, ?b⟩
  rotate_left
  conv => lhs; whnf
noncomputable def stR3 (p : Params) : { x : Stmt // nth (inner (nth (bodyAt p 288) 1)) 3 = x } := by
  refine ⟨?a, ?b⟩
  rotate_left
  conv => lhs; whnf
/-- the names of _law_right_ones -/
abbrev rm (ranks tied place : Option Value) (mz : Str → Option Value) : Str → Option Value := fun y =>
  if y = Str.ofString "ranks" then ranks else if y = Str.ofString "tied" then tied else if y = Str.ofString "place" then place else mz y
theorem StrsNm.length : ∀ {vs : List Value} {ks : List Nat}, StrsNm vs ks → vs.length = ks.length
  | [], [], _ => rfl
  | _ :: _, _ :: _, h => by rw [List.length_cons, List.length_cons, StrsNm.length h.2]
  | [], _ :: _, h => h.elim
  | _ :: _, [], h => h.elim
theorem StrsNm.get : ∀ {vs : List Value} {ks : List Nat}, StrsNm vs ks → ∀ {i k : Nat}, ks[i]? = some k → ∃ t, vs[i]? = some (.str (nm k) t)
  | _ :: _, _ :: _, h, 0, k, e => by
    obtain ⟨⟨t, rfl⟩, _⟩ := h
    obtain rfl : _ = k := by simpa using e
    exact ⟨t, rfl⟩
  | _ :: _, _ :: _, h, i + 1, k, e => by
    have := StrsNm.get h.2 (i := i) (k := k) (by simpa using e)
    simpa using this
  | [], [], _, _, _, e => by simp at e
  | [], _ :: _, h, _, _, _ => h.elim
  | _ :: _, [], h, _, _, _ => h.elim
theorem StrsNm.erase : ∀ {vs : List Value} {ks : List Nat} (i : Nat), StrsNm vs ks → StrsNm (vs.eraseIdx i) (ks.eraseIdx i)
  | [], [], _, _ => by simp [StrsNm]
  | _ :: _, _ :: _, 0, h => by simpa using h.2
  | _ :: _, _ :: _, i + 1, h => by
    rw [List.eraseIdx_cons_succ, List.eraseIdx_cons_succ]
    exact ⟨h.1, StrsNm.erase i h.2⟩
  | [], _ :: _, _, h => h.elim
  | _ :: _, [], _, h => h.elim
theorem cut_at : ∀ {l : List Value} {i : Nat} {y : Value}, l[i]? = some y → kl_cut l i = some (l.take i, y, l.drop (i + 1))
  | [], _, _, h => by simp at h
  | x :: r, 0, y, h => by
    obtain rfl : x = y := by simpa using h
    rfl
  | x :: r, i + 1, y, h => by
    have h' : r[i]? = some y := by simpa using h
    unfold kl_cut
    rw [cut_at h']
    rfl
end Mine
end
/-! part RA -/
section
theorem Mine.rstRA : True := by
  w_top off
  trivial
open PySem PySem.Spec PySem.Calls PySem.W PyProof.Rows PyProof.V
set_option maxRecDepth 100000
set_option maxHeartbeats 4000000
namespace Mine
local macro_rules | `(tactic| k_mem) => `(tactic| assumption)
local macro_rules | `(tactic| k_all) => `(tactic| assumption)
local macro_rules | `(tactic| walk_at "getMethod ref") => `(tactic| (k_here; k_dflt (refine' method_fnG ?X ?I ?a canon_list_ga ?b ?c ?d ?e ?_; (case X => k_in); (case I => exact inst_row (by k_asm) (by k_mem) (by k_mem)); (case a => k_is); (case b => k_is); (case c => k_is); (case d => k_is); (case e => with_unfolding_all rfl); k_whole)))
local macro_rules | `(tactic| k_all) => `(tactic| first | assumption | exact ne_all_low (by assumption) (by omega))
section
open PyProof.Rows.LCg PyProof.Rows.LCp
variable {w : World} {loose : List Str} {mean : ExcName → Option Value} {mg mb : Str → Option Value}
  {dp un : Nat} {gd : Option (List Code)} {outer : List Env} {A₀ : Around} {base h₀ : Heap} {L : Addr} {s : Shared} {Q : Flow → Shared → Prop} {E : Value → Shared → Prop} {mz : Str → Option Value}
  {l B : Addr} {bo oc on ob : Obj} {v0 : Option Value} {cst : List (Addr × Obj)} {place : Nat} {tp : Tok} {ns : List Value} {S : List Nat} {nn : Nat} {bk : Nat → List Nat} {u1 u2 : Option Value}

theorem segA (F : Fr h₀ L s.heap (rm u1 u2 (some (.int place tp)) mz))
    (BB : Below A₀ base outer h₀) (X : (Mine.hd.heap_39 w.params).In h₀) (T : Top Mine.hd.view_39 loose mean mg mb h₀) (hE : PassesOwn (model Challenge.rw_xg0075_01.row.prog w) (ktrTop dp un gd (Str.ofString "_law_right_ones") (scR w.params).1 L 288 (.ref 287) (cellsFrom (L + 1) (scR w.params).1.names []) outer) (envX (Str.ofString "_law_right_ones") (scR w.params).1 L 288 (.ref 287) (cellsFrom (L + 1) (scR w.params).1.names [])) E)
    (N : News h₀ L s.heap ((l, lstO ns nn) :: (L + 1 + 1 + 1, oc) :: cst)) (lc : @Ne Nat l (L + 1 + 1 + 1)) (offl : ∀ p ∈ cst, p.1 ≠ l) (offc : ∀ p ∈ cst, p.1 ≠ L + 1 + 1 + 1)
    (mn : (L + 1 + 1, on) ∈ cst) (dn : on.data = .cell (some (.ref l))) (mb1 : (L + 1, ob) ∈ cst) (db : ob.data = .cell (some (.ref B)))
    (hd : dp + 10 < recursionLimit) (hu : un + 128 < cLine) (hns : StrsNm ns S) (h5 : S.length ≤ 5) (dc : oc.data = .cell v0) {c : Nat} (hc : S[place % S.length]? = some c)
    (hret : ∀ (t : Tok) (nn' : Nat) (oc' : Obj) (h' : Heap) (tk' : Nat), Fr h₀ L h' (rm u1 u2 (some (.int place tp)) mz) → News h₀ L h' ((l, lstO (ns.eraseIdx (place % S.length)) nn') :: (L + 1 + 1 + 1, oc') :: cst) → oc'.data = .cell (some (.str (nm c) t)) → Q .next { s with heap := h', toks := tk' }) :
    wpAny (model Challenge.rw_xg0075_01.row.prog w) (ktrTop dp un gd (Str.ofString "_law_right_ones") (scR w.params).1 L 288 (.ref 287) (cellsFrom (L + 1) (scR w.params).1.names []) outer) (exec (stR0 w.params).1 (envX (Str.ofString "_law_right_ones") (scR w.params).1 L 288 (.ref 287) (cellsFrom (L + 1) (scR w.params).1.names []))) Q E s := by
  dsimp only [stR0, scR] at hE ⊢
  have hl := hns.length
  have hlt : place % S.length < S.length := (List.getElem?_eq_some_iff.mp hc).1
  obtain ⟨ty, hy⟩ := hns.get hc
  repeat' walk1
  k_dflt (refine Calls.call_len_list (items := ns.toArray) ⟨_, (N _ (.head _)).1, rfl, _, rfl⟩ (by rw [List.size_toArray]; omega) ?_)
  have hlen : ((ns.toArray.size : Nat) : Int) = (S.length : Int) := by rw [List.size_toArray, hl]
  rw [hlen]
  have hpos : (0 : Int) < (S.length : Int) := by omega
  repeat' walk1
  have hfm : (place : Int).fmod (S.length : Int) = ((place % S.length : Nat) : Int) := by
    rw [Int.fmod_eq_emod_of_nonneg _ (by omega)]
    exact (Int.natCast_emod place S.length).symm
  rw [hfm]
  generalize hi : place % S.length = i at *
  have hil : i < ns.length := by omega
  k_dflt (refine' kl_popAt (its := ns.toArray) (n := nn) (k := i) ?xF ?xN ?xf ?xk ?xe ?xU ?xz ?_)
  case xF => k_asm
  case xN => k_asm
  case xf =>
    unfold Builtin.List.listFitsIndex
    simp
    omega
  case xk =>
    unfold seqIndex?
    rw [List.size_toArray]
    simp
    omega
  case xe => exact cut_at hy
  case xU => exact .head (List.forall_mem_cons.mpr ⟨Ne.symm lc, offl⟩)
  case xz => show ns.length ≤ _; rw [sizeLine_eq]; omega
  intro h2 F2 N2
  rw [← List.eraseIdx_eq_take_drop_succ] at N2
  rename Fr _ _ _ _ => F2
  k_whole
  repeat' walk1
  exact hret ty (nn + 1) _ _ _ (by assumption) (by assumption) (by assumption)
end
end Mine
end
/-! part Lc3 -/
section
theorem Mine.rstLc3 : True := by
  w_top off
  trivial
open PySem PySem.Spec PySem.Calls PySem.W PyProof.Rows PyProof.V
set_option maxRecDepth 100000
set_option maxHeartbeats 4000000
namespace Mine
section
open PyProof.Rows.LCg PyProof.Rows.LCp PyProof.Rows.LCt
variable {prog : Program} {w : World} {A : Around} {E : Value → Shared → Prop} {s : Shared} {h₀ : Heap} {L : Addr} {m : Str → Option Value} {env : Env}
/-- the turns of a comprehension with a test over a known list; a turn keeps the ledger -/
theorem compT_same {ct elt : Expr} {x : Str} {scope : Scope} {cl : List (Str × Addr)} {S : List (Addr × Obj) → Prop} {Fin : List Value → List (Addr × Obj) → Prop} {vs : List Value} {nw : List (Addr × Obj)} (J : Nat → List Value → Prop)
    (step : ∀ i ys v, vs[i]? = some v → J i ys →
      ∀ I oI C oC D m₂ h tk (E' : Value → Shared → Prop), NsObj oC m₂ → m₂ x = some v → Fr h₀ L h m → News h₀ L h ((I, oI) :: (C, oC) :: (D, lst ys) :: nw) → (∀ p ∈ nw, p.1 ≠ I ∧ p.1 ≠ C ∧ p.1 ≠ D) → ((@Ne Nat I C) ∧ (@Ne Nat I D) ∧ (@Ne Nat C D)) →
      wpAny (model prog w) A (isTrue ct (compEnvC scope cl C env) (eval ct (compEnvC scope cl C env))) (fun ok s' => if ok = true then
        wpAny (model prog w) A (eval elt (compEnvC scope cl C env)) (CompEnd h₀ L m { s with heap := h, toks := tk } I oI C oC D (lst ys) S (fun y nw' => nw' = nw ∧ J (i + 1) (ys ++ [y]))) E' s'
        else CompEnd h₀ L m { s with heap := h, toks := tk } I oI C oC D (lst ys) S (fun _ nw' => nw' = nw ∧ J (i + 1) ys) Value.none s') E' { s with heap := h, toks := tk })
    (fin : ∀ ys, J vs.length ys → Fin ys nw) :
    ∀ (k i : Nat) (ys : List Value), i + k = vs.length → J i ys → CompRestT prog w A h₀ L m env ct elt x scope cl s S (fun i v => vs.toArray[i]? = some v) Fin k i ys nw
  | 0, i, ys, e, hj => fin ys (by rw [Nat.add_zero] at e; exact e ▸ hj)
  | k + 1, i, ys, e, hj => by
    refine CompRestT.succ fun v I oI C oC D m₂ hh tk E' hv a b F N off ne => ?_
    have hv' : vs[i]? = some v := by simpa using hv
    refine wpAny_mono (step i ys v hv' hj I oI C oC D m₂ hh tk E' a b F N (fun p hp => Off3.mem off p hp) ne) (fun ok s₂ z => ?_) fun _ _ z => z
    cases ok with
    | true =>
      simp only [if_true] at z ⊢
      refine wpAny_mono z (fun y s₃ z => ?_) fun _ _ z => z
      obtain ⟨h', tk', nw', e', F', N', o', hS, rfl, hj'⟩ := z
      exact ⟨h', tk', _, e', F', N', o', hS, compT_same J step fin k (i + 1) _ (by omega) hj'⟩
    | false =>
      simp only [Bool.false_eq_true, if_false] at z ⊢
      obtain ⟨h', tk', nw', e', F', N', o', hS, rfl, hj'⟩ := z
      exact ⟨h', tk', _, e', F', N', o', hS, compT_same J step fin k (i + 1) _ (by omega) hj'⟩
end
theorem ones_in {kv : List (Str × Value)} {l : List Nat} (h : Ones kv (l.map nm)) (x : Nat) : (valueAt kv (nm x)).isSome = decide (x ∈ l) := by
  obtain ⟨h1, _⟩ := h
  unfold valueAt
  rw [Option.isSome_map]
  by_cases hx : x ∈ l
  · rw [decide_eq_true hx]
    have : nm x ∈ kv.map (·.1) := by rw [h1]; exact mem_nm.mpr hx
    obtain ⟨p, hp, e⟩ := List.mem_map.mp this
    rw [List.find?_isSome]
    exact ⟨p, hp, by simpa using e⟩
  · rw [decide_eq_false hx, Option.isSome_eq_false_iff, Option.isNone_iff_eq_none, List.find?_eq_none]
    intro p hp e
    have : nm x ∈ kv.map (·.1) := List.mem_map.mpr ⟨p, hp, by simpa using e⟩
    rw [h1] at this
    exact hx (mem_nm.mp this)
theorem ones_get {kv : List (Str × Value)} {l : List Nat} (h : Ones kv (l.map nm)) {x : Nat} (hx : x ∈ l) : ∃ t, valueAt kv (nm x) = some (.int 1 t) := by
  have := ones_in h x
  rw [decide_eq_true hx] at this
  obtain ⟨v, hv⟩ := Option.isSome_iff_exists.mp this
  unfold valueAt at hv
  obtain ⟨p, hp, rfl⟩ := Option.map_eq_some_iff.mp hv
  obtain ⟨t, e⟩ := h.2 p (List.mem_of_find?_eq_some hp)
  refine ⟨t, ?_⟩
  unfold valueAt
  rw [hp, ← e]; rfl
theorem filter_take_succ {S : List Nat} {p : Nat → Bool} {i k : Nat} (h : S[i]? = some k) : (S.take (i + 1)).filter p = if p k then (S.take i).filter p ++ [k] else (S.take i).filter p := by
  rw [List.take_succ, h]
  simp only [Option.toList_some, List.filter_append, List.filter_cons, List.filter_nil]
  split <;> simp
end Mine
end
/-! part Lc4 -/
section
theorem Mine.rstLc4 : True := by
  w_top off
  trivial
open PySem PySem.Spec PySem.Calls PySem.W PyProof.Rows PyProof.V
set_option maxRecDepth 100000
set_option maxHeartbeats 400000
namespace Mine
theorem strs_carried : ∀ {vs : List Value} {ss : List Str}, StrsAre vs ss → CarriedAll vs (ss.map PyData.str)
  | _, _, .nil => .nil
  | _, _, .cons _ t r => .cons (.str _ t) (strs_carried r)
theorem strs_sameAll : ∀ ss ts : List Str, PySem.Spec.sameAll (ss.map PyData.str) (ts.map PyData.str) = decide (ss = ts)
  | [], [] => by simp [PySem.Spec.sameAll]
  | [], _ :: _ => by simp [PySem.Spec.sameAll]
  | _ :: _, [] => by simp [PySem.Spec.sameAll]
  | a :: r, b :: t => by
    simp only [List.map_cons, PySem.Spec.sameAll, PySem.Spec.same, strs_sameAll r t]
    by_cases h : a = b <;> by_cases h' : r = t <;> simp [h, h']
theorem nm_shaped {S : List Nat} (h : ∀ k ∈ S, k < 5) : SeqAt.shaped (.list ((S.map nm).map PyData.str)) = true := by
  have h1 : (S.map nm).all PyData.strOk = true := by
    rw [List.all_eq_true]
    intro s hs
    obtain ⟨k, hk, rfl⟩ := List.mem_map.mp hs
    have := h k hk
    simp [PyData.strOk, nm]
    omega
  simp only [SeqAt.shaped, PyData.canLay0, canLayAll_strs', h1, PyData.depth, depthAll_strs']
  decide
section
variable {prog : Program} {w : World} {A : Around} {E : Value → Shared → Prop} {s : Shared} {a b : Addr} {xs ys : List Value} {S T : List Nat} {Q : Value → Shared → Prop}
theorem ne_nms (ha : s.heap.IsList a xs.toArray) (hb : s.heap.IsList b ys.toArray) (hi : StrsAre xs (S.map nm)) (hj : StrsAre ys (T.map nm)) (h5 : ∀ k ∈ S, k < 5) (t5 : ∀ k ∈ T, k < 5) (hu : A.units + 64 < cLine) (h : Q (.bool (!decide (S = T))) s) :
    wpAny (model prog w) A (compareOp .NotEq (.ref a) (.ref b)) Q E s := by
  refine ne_dataH_same (reads_newData ha (strs_carried hi)) (reads_newData hb (strs_carried hj)) (nm_shaped h5) (nm_shaped t5) hu (SeqAt.noMix_of_shape (.list .str) rfl _ _ (list_map_has fun _ => rfl) (list_map_has fun _ => rfl)) ?_
  have e : PySem.Spec.same (.list ((S.map nm).map PyData.str)) (.list ((T.map nm).map PyData.str)) = decide (S = T) := by
    simp only [PySem.Spec.same]
    rw [strs_sameAll]
    refine decide_eq_decide.mpr ⟨fun z => ?_, fun z => by rw [z]⟩
    exact List.map_inj_right (f := nm) (fun x y h => nm_inj h) |>.mp z
  rw [e]
  exact h
end
def unNm (s : Str) : Nat := s.cps.getD 0 0 - 97
theorem unNm_nm (k : Nat) : unNm (nm k) = k := by show (97 + k) - 97 = k; omega
theorem nm_out {ss : List Str} {l : List Nat} (hp : ss.Perm (l.map nm)) (hs : sortedS ss = true) : ∃ out : List Nat, ss = out.map nm ∧ out.Perm l ∧ out.Pairwise (· ≤ ·) := by
  have e1 : (ss.map unNm).map nm = ss := by
    rw [List.map_map]
    have : ss.map (nm ∘ unNm) = ss.map id := List.map_congr_left fun s hs => by
      obtain ⟨k, _, rfl⟩ := List.mem_map.mp (hp.mem_iff.mp hs)
      show nm (unNm (nm k)) = nm k
      rw [unNm_nm]
    rw [this, List.map_id]
  refine ⟨ss.map unNm, e1.symm, ?_, ?_⟩
  · have := hp.map unNm
    rw [List.map_map] at this
    have e2 : l.map (unNm ∘ nm) = l := by
      have : l.map (unNm ∘ nm) = l.map id := List.map_congr_left fun k _ => unNm_nm k
      rw [this, List.map_id]
    rw [e2] at this
    exact this
  · rw [← e1] at hs
    generalize ss.map unNm = out at hs
    have lt : ∀ x p : Nat, ltCps (nm x).cps.toList (nm p).cps.toList = decide (x < p) := fun x p => by
      show (decide (97 + x < 97 + p) || ((97 + x == 97 + p) && false)) = decide (x < p)
      rw [Bool.and_false, Bool.or_false]
      exact decide_eq_decide.mpr (by omega)
    have go : ∀ (r : List Nat) (p : Nat), risingS (nm p) (r.map nm) = true → (p :: r).Pairwise (· ≤ ·) := by
      intro r
      induction r with
      | nil => intro p _; exact List.pairwise_singleton _ _
      | cons x r ih =>
        intro p h
        rw [List.map_cons] at h
        have h : (!ltCps (nm x).cps.toList (nm p).cps.toList && risingS (nm x) (r.map nm)) = true := h
        rw [lt, Bool.and_eq_true] at h
        have hxp : p ≤ x := by
          have := h.1
          simp at this
          exact this
        have ih := ih x h.2
        refine List.pairwise_cons.mpr ⟨fun y hy => ?_, ih⟩
        rcases List.mem_cons.mp hy with rfl | hy
        · exact hxp
        · exact Nat.le_trans hxp ((List.pairwise_cons.mp ih).1 y hy)
    cases out with
    | nil => exact .nil
    | cons x r => exact go r x hs
theorem pick_take (vs : List Value) (k : Nat) : slicePick vs.toArray none (some (k : Int)) none = (vs.take k).toArray := by
  have e : sliceBounds none (some (k : Int)) none vs.toArray.size = (((0 : Nat) : Int), ((min k vs.toArray.size : Nat) : Int), 1) := by
    simp only [sliceBounds, Option.getD_none, show (1 : Int) > 0 by decide, if_true, if_neg (show ¬ ((k : Int) < 0) by omega)]
    congr 1
    congr 1
    omega
  rw [kmk_pick_nat _ e]
  show ((vs.drop 0).take (min k vs.toArray.size - 0)).toArray = _
  rw [List.drop_zero, Nat.sub_zero, List.size_toArray, kmk_take_min]
end Mine
end
/-! part RB -/
section
local macro_rules | `(tactic| walk_at "pad") => `(tactic| skip)
theorem Mine.rstRB : True := by
  w_top off
  trivial
open PySem PySem.Spec PySem.Calls PySem.W PyProof.Rows PyProof.V
set_option maxRecDepth 100000
set_option maxHeartbeats 4000000
namespace Mine
local macro_rules | `(tactic| k_mem) => `(tactic| assumption)
local macro_rules | `(tactic| k_all) => `(tactic| assumption)
local macro_rules | `(tactic| walk_at "getMethod ref") => `(tactic| (k_here; k_dflt (refine' method_fnG ?X ?I ?a canon_list_ga ?b ?c ?d ?e ?_; (case X => k_in); (case I => exact inst_row (by k_asm) (by k_mem) (by k_mem)); (case a => k_is); (case b => k_is); (case c => k_is); (case d => k_is); (case e => with_unfolding_all rfl); k_whole)))
local macro_rules | `(tactic| k_all) => `(tactic| first | assumption | exact ne_all_low (by assumption) (by omega))
section
theorem rm_ranks {u1 u2 u3 v : Option Value} {mz : Str → Option Value} : (fun z => if z = Str.ofString "ranks" then v else rm u1 u2 u3 mz z) = rm v u2 u3 mz := by
  funext y
  by_cases e1 : y = Str.ofString "ranks"
  · subst e1; with_unfolding_all rfl
  simp only [rm, e1, if_false]
open PyProof.Rows.LCg PyProof.Rows.LCp PyProof.Rows.LCt
variable {w : World} {loose : List Str} {mean : ExcName → Option Value} {mg mb : Str → Option Value}
  {dp un : Nat} {gd : Option (List Code)} {outer : List Env} {A₀ : Around} {base h₀ : Heap} {L : Addr} {s : Shared} {Q : Flow → Shared → Prop} {E : Value → Shared → Prop} {mz : Str → Option Value}
  {l B : Addr} {bo oc on ob : Obj} {v0 : Option Value} {cst : List (Addr × Obj)} {place : Nat} {tp : Tok} {ns : List Value} {S : List Nat} {nn : Nat} {bk : Nat → List Nat} {u1 u2 : Option Value}

theorem segB (F : Fr h₀ L s.heap (rm u1 u2 (some (.int place tp)) mz))
    (BB : Below A₀ base outer h₀) (X : (Mine.hd.heap_39 w.params).In h₀) (T : Top Mine.hd.view_39 loose mean mg mb h₀) (hE : PassesOwn (model Challenge.rw_xg0075_01.row.prog w) (ktrTop dp un gd (Str.ofString "_law_right_ones") (scR w.params).1 L 288 (.ref 287) (cellsFrom (L + 1) (scR w.params).1.names []) outer) (envX (Str.ofString "_law_right_ones") (scR w.params).1 L 288 (.ref 287) (cellsFrom (L + 1) (scR w.params).1.names [])) E)
    (N : News h₀ L s.heap ((l, lstO ns nn) :: (L + 1 + 1 + 1, oc) :: cst)) (lc : @Ne Nat l (L + 1 + 1 + 1)) (offl : ∀ p ∈ cst, p.1 ≠ l) (offc : ∀ p ∈ cst, p.1 ≠ L + 1 + 1 + 1)
    (mn : (L + 1 + 1, on) ∈ cst) (dn : on.data = .cell (some (.ref l))) (mb1 : (L + 1, ob) ∈ cst) (db : ob.data = .cell (some (.ref B)))
    (hd : dp + 10 < recursionLimit) (hu : un + 128 < cLine) (hns : StrsNm ns S) (h5 : S.length ≤ 5) {c : Nat} {tc : Tok} (dc : oc.data = .cell (some (.str (nm c) tc))) (hc5 : c < 5) (mB : (B, bo) ∈ cst) (BK : BookIs w cst bo bk) (hnd : S.Nodup) (hS5 : ∀ k ∈ S, k < 5) (h4 : S.length ≤ 4)
    (hret : ∀ (R : Addr) (rvs : List Value) (rks : List (Int × Nat)) (nr : Nat) (cst' : List (Addr × Obj)) (h' : Heap) (tk' : Nat), Fr h₀ L h' (rm (some (.ref R)) u2 (some (.int place tp)) mz) → News h₀ L h' ((l, lstO ns nn) :: (L + 1 + 1 + 1, oc) :: (R, lstO rvs nr) :: cst') →
      (∀ p ∈ (R, lstO rvs nr) :: cst', p.1 ≠ l) → (∀ p ∈ (R, lstO rvs nr) :: cst', p.1 ≠ L + 1 + 1 + 1) → (∀ p ∈ cst, p ∈ cst') → RankIs ((l, lstO ns nn) :: (L + 1 + 1 + 1, oc) :: (R, lstO rvs nr) :: cst') rvs rks → rks.Perm (S.map (rankOf bk S c)) → rks.Pairwise (fun a b => ¬ lexlt b a) → Q .next { s with heap := h', toks := tk' }) :
    wpAny (model Challenge.rw_xg0075_01.row.prog w) (ktrTop dp un gd (Str.ofString "_law_right_ones") (scR w.params).1 L 288 (.ref 287) (cellsFrom (L + 1) (scR w.params).1.names []) outer) (exec (stR1 w.params).1 (envX (Str.ofString "_law_right_ones") (scR w.params).1 L 288 (.ref 287) (cellsFrom (L + 1) (scR w.params).1.names []))) Q E s := by
  dsimp only [stR1, scR] at hE ⊢
  have hl := hns.length
  iterate 5 walk1
  k_dflt (refine' ListComp_X (vs := ns) (ax := l) (n0 := nn) ?z1 ?z2 ?z3 ?z4 ?z5 ?z6 F N (.head _) ?zsz ?z7 ?zev (fun i ys nw => ∃ cst' : List (Addr × Obj), nw = (l, lstO ns nn) :: (L + 1 + 1 + 1, oc) :: cst' ∧ (∀ p ∈ cst', p.1 ≠ l) ∧ (∀ p ∈ cst', p.1 ≠ L + 1 + 1 + 1) ∧ (∀ p ∈ cst, p ∈ cst') ∧ RankIs cst' ys ((S.take i).map (rankOf bk S c))) ⟨cst, rfl, offl, offc, fun _ h => h, trivial⟩ ?zstep ?zfin)
  case z1 => with_unfolding_all rfl
  case z2 => intro _; rfl
  case z3 => intro _; rfl
  case z4 => rfl
  case z5 => decide
  case z6 => rfl
  case z7 => with_unfolding_all rfl
  case zsz => rw [sizeLine_eq]; omega
  case zev =>
    intro Q' hq
    walk1
    exact hq
  case zstep =>
    rintro i ys nw v hv ⟨cst', rfl, ol, oc1, hs, RK⟩ hmem I oI C oC c' oc' D h1 tk1 E' dc' F1 N1 off ne
    obtain ⟨k, hk⟩ : ∃ k, S[i]? = some k := ⟨S[i]'(by have := (List.getElem?_eq_some_iff.mp hv).1; omega), by simp⟩
    obtain ⟨tv, htv⟩ := hns.get hk
    obtain rfl : Value.str (nm k) tv = v := Option.some.inj (htv.symm.trans hv)
    have mn' := hs _ mn
    have mb' := hs _ mb1
    iterate 7 walk1
    k_dflt (refine LCt.ListComp_T (F₀ := F1) (by with_unfolding_all rfl) (by decide) (by rfl) (by decide) (by rfl) ?_)
    iterate 7 walk1
    rename Fr _ _ _ _ => F2
    rename News _ _ _ _ => N2
    k_dflt (refine' add_lists (vs := ns) (ws := [.str (nm c) tc]) ?xF ?xN ?xl ?xb ?_ ?xz)
    case xF => exact F2
    case xN => exact N2
    case xl => exact ⟨_, (N2 _ (.tail _ (.tail _ (.tail _ (.tail _ (.tail _ (.head _)))))) ).1, rfl, _, rfl⟩
    case xb => exact ⟨_, (N2 _ (.head _)).1, rfl, _, rfl⟩
    case xz => show ns.length + 1 ≤ _; rw [sizeLine_eq]; omega
    intro h3 F3 N3
    dsimp only at N3
    have hns2 : StrsNm (ns ++ [.str (nm c) tc]) (S ++ [c]) := hns.snoc
    have hl2 := hns2.length
    have hk5 : k < 5 := hS5 k (List.mem_of_getElem? hk)
    refine CompSrcT.ledger (by with_unfolding_all rfl) F3 N3 (.head _) (by rw [List.size_toArray, hl2, List.length_append, List.length_singleton, sizeLine_eq]; omega) ?_
    intro g
    rw [List.size_toArray]
    refine compT_same (fun i ys => StrsNm ys (((S ++ [c]).take i).filter (· ∈ bk k))) ?_ ?_ _ 0 [] (Nat.zero_add _) trivial
    · intro i2 ys2 v2 hv2 hJ I2 oI2 C2 oC2 D2 m₂ h4 tk4 E2 hC hx F4 N4 off4 ne4
      obtain ⟨k2, hk2⟩ : ∃ k2, (S ++ [c])[i2]? = some k2 := ⟨(S ++ [c])[i2]'(by have := (List.getElem?_eq_some_iff.mp hv2).1; omega), by simp⟩
      obtain ⟨tv2, htv2⟩ := hns2.get hk2
      obtain rfl : Value.str (nm k2) tv2 = v2 := Option.some.inj (htv2.symm.trans hv2)
      clear F3 N3 F2 N2
      iterate 5 walk1
      obtain ⟨kvs, hbo, h5k, hbk⟩ := BK
      obtain ⟨Dk, ok, kv, ev, mDk, lo, hdk, honc⟩ := hbk k hk5
      k_dflt (refine kda_item (knd := PySem.strKind _ _) N4 (.tail _ (.tail _ (.tail _ (.tail _ (.tail _ (.tail _ (.tail _ (.tail _ (.tail _ (.tail _ (.tail _ (hs _ mB)))))))))))) hbo (strKind_is _ _ _ _) ev ?_)
      k_dflt (refine kda_in (knd := PySem.strKind _ _) N4 (.tail _ (.tail _ (.tail _ (.tail _ (.tail _ (.tail _ (.tail _ (.tail _ (.tail _ (.tail _ (.tail _ (hs _ mDk)))))))))))) hdk lo (strKind_is _ _ _ _) _ (ones_in honc k2) ?_)
      by_cases hin : k2 ∈ bk k
      · rw [decide_eq_true hin]
        iterate 3 walk1
        refine CompEnd.intro F4 N4 _ (fun p hp => hp) (Off3.of off4) (.inr ⟨_, .head _, rfl, _, rfl⟩) ⟨rfl, ?_⟩
        rw [filter_take_succ hk2, if_pos (by simpa using hin)]
        exact hJ.snoc
      · rw [decide_eq_false hin]
        iterate 2 walk1
        refine CompEnd.intro F4 N4 _ (fun p hp => hp) (Off3.of off4) (.inr ⟨_, .head _, rfl, _, rfl⟩) ⟨rfl, ?_⟩
        rw [filter_take_succ hk2, if_neg (by simpa using hin)]
        exact hJ
    · intro ys2 hJ
      rw [hl2, List.take_length] at hJ
      intro D3 h5 tk5 F5 N5 off5
      k_whole
      clear F3 N3 F2 N2
      iterate 1 walk1
      have hyl := hJ.length
      have hfl : ((S ++ [c]).filter (· ∈ bk k)).length ≤ 5 := by
        have := List.length_filter_le (fun x => decide (x ∈ bk k)) (S ++ [c])
        rw [List.length_append, List.length_singleton] at this
        omega
      k_dflt (refine Calls.call_len_list (items := ys2.toArray) ⟨_, (N5 _ (.head _)).1, rfl, _, rfl⟩ (by rw [List.size_toArray]; omega) ?_)
      have hlen : ((ys2.toArray.size : Nat) : Int) = (((S ++ [c]).filter (· ∈ bk k)).length : Int) := by rw [List.size_toArray, hyl]
      rw [hlen]
      iterate 5 walk1
      rename Fr _ _ _ _ => F6
      rename News _ _ _ _ => N6
      have eS : S.take (i + 1) = S.take i ++ [k] := by rw [List.take_add_one, hk]; rfl
      refine ⟨_, _, (l, lstO ns nn) :: (L + 1 + 1 + 1, oc) :: (_, tupO [.int (-(((S ++ [c]).filter (· ∈ bk k)).length : Int)) _, .str (nm k) tv] 0) :: cst', rfl, F6, cb_drop N6 (sub_cons (.tail _ (.tail _ (.tail _ (.tail _ (.head _))))) (sub_cons (.tail _ (.tail _ (.tail _ (.tail _ (.tail _ (.head _)))))) (sub_cons (.tail _ (.tail _ (.tail _ (.tail _ (.tail _ (.tail _ (.head _))))))) (sub_cons (.tail _ (.tail _ (.tail _ (.tail _ (.tail _ (.tail _ (.tail _ (.head _)))))))) (sub_cons (.tail _ (.tail _ (.tail _ (.tail _ (.tail _ (.tail _ (.tail _ (.tail _ (.head _))))))))) (sub_cons (.tail _ (.tail _ (.tail _ (.tail _ (.tail _ (.tail _ (.tail _ (.tail _ (.tail _ (.head _)))))))))) (sub_cons (List.Mem.head _) (fun p (hp : p ∈ cst') => (.tail _ (.tail _ (.tail _ (.tail _ (.tail _ (.tail _ (.tail _ (.tail _ (.tail _ (.tail _ (hp))))))))))))))))))), ?_, .head _, _, rfl, ?_, ?_, fun p hp => .tail _ (hs p hp), ?_⟩
      · refine List.forall_mem_cons.mpr ⟨off _ (.head _), List.forall_mem_cons.mpr ⟨off _ (.tail _ (.head _)), List.forall_mem_cons.mpr ⟨⟨by k_ne, by k_ne, by k_ne, by k_ne⟩, fun p hp => off _ (.tail _ (.tail _ hp))⟩⟩⟩
      · exact List.forall_mem_cons.mpr ⟨by k_ne, ol⟩
      · exact List.forall_mem_cons.mpr ⟨by k_ne, oc1⟩
      · rw [eS, List.map_append]
        exact RankIs.snoc (p := rankOf bk S c k) (.head _) (RK.mono fun p hp => .tail _ hp)
  case zfin =>
    rintro ys nw R h1 tk1 ⟨cst', rfl, ol, oc1, hs, RK⟩ F1 N1 off
    have RK : RankIs cst' ys (S.map (rankOf bk S c)) := by
      rw [hl, List.take_length] at RK; exact RK
    iterate 1 walk1
    k_dflt (refine' sorted_ranks (vs := ys) (rs := S.map (rankOf bk S c)) (n := ys.length) F1 N1 (.head _) (RK.mono fun p hp => .tail _ (.tail _ (.tail _ hp))) ?zn ?z4 ?_)
    case zn =>
      rw [List.map_map]
      have : S.map ((fun a : Int × Nat => a.2) ∘ rankOf bk S c) = S.map id := List.map_congr_left fun k _ => rfl
      rw [this, List.map_id]
      exact hnd
    case z4 => rw [List.length_map]; exact h4
    intro R2 rvs rks nr h6 F6 N6 lR RK6 hp6 hpw6
    clear F1 N1
    k_whole
    iterate 1 walk1
    rename Fr _ _ _ _ => F7
    rename News _ _ _ _ => N7
    refine hret R2 rvs rks nr ((R, lst ys) :: cst') _ _ (Eq.mp (congrArg (Fr h₀ L _) rm_ranks) F7) (cb_drop N7 (sub_cons (.tail _ (.tail _ (.head _))) (sub_cons (.tail _ (.tail _ (.tail _ (.head _)))) (sub_cons (.head _) (sub_cons (.tail _ (.head _)) fun p hp => .tail _ (.tail _ (.tail _ (.tail _ hp)))))))) ?_ ?_ (fun p hp => .tail _ (hs p hp)) (RK6.mono (sub_cons (.tail _ (.tail _ (.tail _ (.head _)))) (sub_cons (.head _) (sub_cons (.tail _ (.head _)) fun p hp => .tail _ (.tail _ (.tail _ (.tail _ hp))))))) hp6 hpw6
    · exact List.forall_mem_cons.mpr ⟨Ne.symm (Nat.ne_of_lt (lR _ (.tail _ (.head _)))), List.forall_mem_cons.mpr ⟨Ne.symm (off _ (.head _)), ol⟩⟩
    · exact List.forall_mem_cons.mpr ⟨Ne.symm (Nat.ne_of_lt (lR _ (.tail _ (.tail _ (.head _))))), List.forall_mem_cons.mpr ⟨Ne.symm (off _ (.tail _ (.head _))), oc1⟩⟩
end
end Mine
end
/-! part RC -/
section
theorem Mine.rstRC : True := by
  w_top off
  trivial
open PySem PySem.Spec PySem.Calls PySem.W PyProof.Rows PyProof.V
set_option maxRecDepth 100000
set_option maxHeartbeats 4000000
namespace Mine
local macro_rules | `(tactic| k_mem) => `(tactic| assumption)
local macro_rules | `(tactic| k_all) => `(tactic| assumption)
local macro_rules | `(tactic| walk_at "getMethod ref") => `(tactic| (k_here; k_dflt (refine' method_fnG ?X ?I ?a canon_list_ga ?b ?c ?d ?e ?_; (case X => k_in); (case I => exact inst_row (by k_asm) (by k_mem) (by k_mem)); (case a => k_is); (case b => k_is); (case c => k_is); (case d => k_is); (case e => with_unfolding_all rfl); k_whole)))
local macro_rules | `(tactic| k_all) => `(tactic| first | assumption | exact ne_all_low (by assumption) (by omega))
section
theorem rm_tied {u1 u2 u3 v : Option Value} {mz : Str → Option Value} : (fun z => if z = Str.ofString "tied" then v else rm u1 u2 u3 mz z) = rm u1 v u3 mz := by
  funext y
  by_cases e1 : y = Str.ofString "tied"
  · subst e1; with_unfolding_all rfl
  simp only [rm, e1, if_false]
open PyProof.Rows.LCg PyProof.Rows.LCp PyProof.Rows.LCt
variable {w : World} {loose : List Str} {mean : ExcName → Option Value} {mg mb : Str → Option Value}
  {dp un : Nat} {gd : Option (List Code)} {outer : List Env} {A₀ : Around} {base h₀ : Heap} {L : Addr} {s : Shared} {Q : Flow → Shared → Prop} {E : Value → Shared → Prop} {mz : Str → Option Value}
  {l B : Addr} {bo oc on ob : Obj} {v0 : Option Value} {cst : List (Addr × Obj)} {place : Nat} {tp : Tok} {ns : List Value} {S : List Nat} {nn : Nat} {bk : Nat → List Nat} {u1 u2 : Option Value}

theorem segC (F : Fr h₀ L s.heap (rm u1 u2 (some (.int place tp)) mz))
    (BB : Below A₀ base outer h₀) (X : (Mine.hd.heap_39 w.params).In h₀) (T : Top Mine.hd.view_39 loose mean mg mb h₀) (hE : PassesOwn (model Challenge.rw_xg0075_01.row.prog w) (ktrTop dp un gd (Str.ofString "_law_right_ones") (scR w.params).1 L 288 (.ref 287) (cellsFrom (L + 1) (scR w.params).1.names []) outer) (envX (Str.ofString "_law_right_ones") (scR w.params).1 L 288 (.ref 287) (cellsFrom (L + 1) (scR w.params).1.names [])) E)
    (N : News h₀ L s.heap ((l, lstO ns nn) :: (L + 1 + 1 + 1, oc) :: cst)) (lc : @Ne Nat l (L + 1 + 1 + 1)) (offl : ∀ p ∈ cst, p.1 ≠ l) (offc : ∀ p ∈ cst, p.1 ≠ L + 1 + 1 + 1)
    (mn : (L + 1 + 1, on) ∈ cst) (dn : on.data = .cell (some (.ref l))) (mb1 : (L + 1, ob) ∈ cst) (db : ob.data = .cell (some (.ref B)))
    (hd : dp + 10 < recursionLimit) (hu : un + 128 < cLine) (hns : StrsNm ns S) (h5 : S.length ≤ 5) {c : Nat} {tc : Tok} (dc : oc.data = .cell (some (.str (nm c) tc))) (hc5 : c < 5) (mB : (B, bo) ∈ cst) (BK : BookIs w cst bo bk)
    (hret : ∀ (D : Addr) (ys : List Value) (h' : Heap) (tk' : Nat), Fr h₀ L h' (rm u1 (some (.ref D)) (some (.int place tp)) mz) → News h₀ L h' ((D, lst ys) :: (l, lstO ns nn) :: (L + 1 + 1 + 1, oc) :: cst) → (∀ p ∈ (l, lstO ns nn) :: (L + 1 + 1 + 1, oc) :: cst, p.1 ≠ D) → StrsNm ys (S.filter (· ∈ bk c)) → Q .next { s with heap := h', toks := tk' }) :
    wpAny (model Challenge.rw_xg0075_01.row.prog w) (ktrTop dp un gd (Str.ofString "_law_right_ones") (scR w.params).1 L 288 (.ref 287) (cellsFrom (L + 1) (scR w.params).1.names []) outer) (exec (stR2 w.params).1 (envX (Str.ofString "_law_right_ones") (scR w.params).1 L 288 (.ref 287) (cellsFrom (L + 1) (scR w.params).1.names []))) Q E s := by
  dsimp only [stR2, scR] at hE ⊢
  have hl := hns.length
  k_dflt (refine LCt.Assign_ListComp_T (F₀ := F) (by rfl) (by with_unfolding_all rfl) (by with_unfolding_all rfl) (by decide) (by rfl) (by decide) (by rfl) (by rfl) (by rfl) ?_)
  repeat' walk1
  refine CompSrcT.ledger (by with_unfolding_all rfl) F N (.head _) (by rw [List.size_toArray, sizeLine_eq]; omega) ?_
  intro g
  rw [List.size_toArray]
  refine compT_same (fun i ys => StrsNm ys ((S.take i).filter (· ∈ bk c))) ?_ ?_ _ 0 [] (Nat.zero_add _) trivial
  · intro i ys v hv hJ I oI C oC D m₂ h4 tk4 E' hC hx F4 N4 off ne
    obtain ⟨k, hk⟩ : ∃ k, S[i]? = some k := ⟨S[i]'(by have := (List.getElem?_eq_some_iff.mp hv).1; omega), by simp⟩
    obtain ⟨tv, htv⟩ := hns.get hk
    obtain rfl : Value.str (nm k) tv = v := Option.some.inj (htv.symm.trans hv)
    repeat' walk1
    obtain ⟨kvs, hbo, h5k, hbk⟩ := BK
    obtain ⟨Dk, ok, kv, ev, mD, lo, hdk, honc⟩ := hbk c hc5
    k_dflt (refine kda_item (knd := PySem.strKind _ _) N4 (.tail _ (.tail _ (.tail _ (.tail _ (.tail _ mB))))) hbo (strKind_is _ _ _ _) ev ?_)
    repeat' walk1
    k_dflt (refine kda_in (knd := PySem.strKind _ _) N4 (.tail _ (.tail _ (.tail _ (.tail _ (.tail _ mD))))) hdk lo (strKind_is _ _ _ _) _ (ones_in honc k) ?_)
    have hsrc : SrcAt h₀ l ns.toArray ((l, lstO ns nn) :: (L + 1 + 1 + 1, oc) :: cst) := .inr ⟨_, .head _, rfl, _, rfl⟩
    by_cases hin : k ∈ bk c
    · rw [decide_eq_true hin]
      repeat' walk1
      refine CompEnd.intro F4 N4 _ (fun p hp => hp) (Off3.of off) hsrc ⟨rfl, ?_⟩
      rw [filter_take_succ hk, if_pos (by simpa using hin)]
      exact hJ.snoc
    · rw [decide_eq_false hin]
      repeat' walk1
      refine CompEnd.intro F4 N4 _ (fun p hp => hp) (Off3.of off) hsrc ⟨rfl, ?_⟩
      rw [filter_take_succ hk, if_neg (by simpa using hin)]
      exact hJ
  · intro ys hJ
    rw [hl, List.take_length] at hJ
    intro D h5 tk5 F5 N5 off5
    exact hret D ys h5 tk5 (Eq.mp (congrArg (Fr h₀ L h5) rm_tied) F5) N5 (off1_mem off5) hJ
end
end Mine
end
/-! part RD -/
section
local macro_rules | `(tactic| walk_at "pad") => `(tactic| skip)
theorem Mine.rstRD : True := by
  w_top off
  trivial
open PySem PySem.Spec PySem.Calls PySem.W PyProof.Rows PyProof.V
set_option maxRecDepth 100000
set_option maxHeartbeats 4000000
namespace Mine
local macro_rules | `(tactic| k_mem) => `(tactic| assumption)
local macro_rules | `(tactic| k_all) => `(tactic| assumption)
local macro_rules | `(tactic| walk_at "getMethod ref") => `(tactic| (k_here; k_dflt (refine' method_fnG ?X ?I ?a canon_list_ga ?b ?c ?d ?e ?_; (case X => k_in); (case I => exact inst_row (by k_asm) (by k_mem) (by k_mem)); (case a => k_is); (case b => k_is); (case c => k_is); (case d => k_is); (case e => with_unfolding_all rfl); k_whole)))
local macro_rules | `(tactic| k_all) => `(tactic| first | assumption | exact ne_all_low (by assumption) (by omega))
section
open PyProof.Rows.LCg PyProof.Rows.LCp PyProof.Rows.LCt
variable {w : World} {loose : List Str} {mean : ExcName → Option Value} {mg mb : Str → Option Value}
  {dp un : Nat} {gd : Option (List Code)} {outer : List Env} {A₀ : Around} {base h₀ : Heap} {L : Addr} {s : Shared} {Q : Flow → Shared → Prop} {E : Value → Shared → Prop} {mz : Str → Option Value}
  {l B : Addr} {bo oc on ob : Obj} {v0 : Option Value} {cst : List (Addr × Obj)} {place : Nat} {tp : Tok} {ns : List Value} {S : List Nat} {nn : Nat} {bk : Nat → List Nat} {u1 u2 : Option Value}

theorem segD {R D : Addr} {rvs ys : List Value} {nr : Nat} {rks : List (Int × Nat)} {tied : List Nat}
    (F : Fr h₀ L s.heap (rm (some (.ref R)) (some (.ref D)) (some (.int place tp)) mz))
    (BB : Below A₀ base outer h₀) (X : (Mine.hd.heap_39 w.params).In h₀) (T : Top Mine.hd.view_39 loose mean mg mb h₀) (hE : PassesOwn (model Challenge.rw_xg0075_01.row.prog w) (ktrTop dp un gd (Str.ofString "_law_right_ones") (scR w.params).1 L 288 (.ref 287) (cellsFrom (L + 1) (scR w.params).1.names []) outer) (envX (Str.ofString "_law_right_ones") (scR w.params).1 L 288 (.ref 287) (cellsFrom (L + 1) (scR w.params).1.names [])) E)
    (hd : dp + 10 < recursionLimit) (hu : un + 128 < cLine)
    (N : News h₀ L s.heap cst) (mR : (R, lstO rvs nr) ∈ cst) (RK : RankIs cst rvs rks) (mD : (D, lst ys) ∈ cst) (hT : StrsNm ys tied) (h5 : rks.length ≤ 4) (ht : tied.length ≤ 5) (hk5 : ∀ p ∈ rks, p.2 < 5) (ht5 : ∀ k ∈ tied, k < 5)
    (hout : ∀ out : List Nat, out.Perm ((rks.take tied.length).map (·.2)) → out.Pairwise (· ≤ ·) → out = tied)
    (hret : ∀ (h' : Heap) (tk' : Nat), Fr h₀ L h' (rm (some (.ref R)) (some (.ref D)) (some (.int place tp)) mz) → News h₀ L h' cst → Q .next { s with heap := h', toks := tk' }) :
    wpAny (model Challenge.rw_xg0075_01.row.prog w) (ktrTop dp un gd (Str.ofString "_law_right_ones") (scR w.params).1 L 288 (.ref 287) (cellsFrom (L + 1) (scR w.params).1.names []) outer) (exec (stR3 w.params).1 (envX (Str.ofString "_law_right_ones") (scR w.params).1 L 288 (.ref 287) (cellsFrom (L + 1) (scR w.params).1.names []))) Q E s := by
  dsimp only [stR3, scR] at hE ⊢
  have hl := RK.length
  have hlt := hT.length
  iterate 6 walk1
  k_dflt (refine LCp.ListComp_P (F₀ := F) (by with_unfolding_all rfl) (by decide) (by rfl) (by decide) (by rfl) (by rfl) (by decide) ?_)
  repeat' walk1
  k_dflt (refine Calls.call_len_list (items := ys.toArray) ⟨_, (N _ mD).1, rfl, _, rfl⟩ (by rw [List.size_toArray]; omega) ?_)
  have hlen : ((ys.toArray.size : Nat) : Int) = (tied.length : Int) := by rw [List.size_toArray, hlt]
  rw [hlen]
  repeat' walk1
  k_dflt (refine' kmk_slice (its := rvs.toArray) ?xF ?xN ?xl ?xp ?xq ?_ ?xs ?xt ?xz)
  case xF => k_asm
  case xN => exact N
  case xl => exact ⟨_, (N _ mR).1, rfl, _, rfl⟩
  case xp => exact IsPart.none
  case xq => exact IsPart.int _ _
  case xs => with_unfolding_all rfl
  case xt => intro _; with_unfolding_all rfl
  case xz => rw [List.size_toArray, sizeLine_eq]; omega
  intro K h1 F1 N1 lK
  rw [pick_take] at N1
  k_whole
  repeat' walk1
  refine SrcLP.ledger (by with_unfolding_all rfl) F1 N1 (.head _) (by rw [List.size_toArray, List.length_take, sizeLine_eq]; omega) ?_
  intro g
  rw [List.size_toArray]
  have hsrc : SrcAt h₀ K (rvs.take tied.length).toArray ((K, listOf (rvs.take tied.length).toArray 0) :: cst) := .inr ⟨_, .head _, rfl, _, rfl⟩
  refine compP_inv (fun rem zs nw => nw = (K, listOf (rvs.take tied.length).toArray 0) :: cst ∧ ∃ j1 j2 : List (Int × Nat), RankIs cst rem j2 ∧ j1 ++ j2 = rks.take tied.length ∧ StrsNm zs (j1.map (·.2))) ?_ ?_ (rvs.take tied.length) 0 [] _ rfl ⟨rfl, [], _, RK.take tied.length, rfl, trivial⟩
  · rintro v rem zs nw ⟨rfl, j1, j2, RJ, ej, hz⟩
    cases j2 with
    | nil => exact RJ.elim
    | cons q j2 =>
    obtain ⟨⟨t, ta, tb, rfl, mt⟩, RJ⟩ := RJ
    refine ⟨t, _, _, 0, rfl, .tail _ mt, ?_⟩
    intro I oI C oC D2 m₂ h4 tk4 E' hC hx hx2 F4 N4 off ne
    repeat' walk1
    refine CompEnd.intro F4 N4 _ (fun p hp => hp) (Off3.of off) hsrc ⟨rfl, j1 ++ [q], j2, RJ, by rw [List.append_assoc]; exact ej, ?_⟩
    rw [List.map_append]
    exact hz.snoc
  · rintro zs nw ⟨rfl, j1, j2, RJ, ej, hz⟩
    cases j2 with
    | cons q j2 => exact RJ.elim
    | nil =>
    rw [List.append_nil] at ej
    subst ej
    intro K2 h4 tk4 F4 N4 off
    k_whole
    repeat' walk1
    have hzl := hz.length
    rw [List.length_map, List.length_take] at hzl
    k_dflt (refine' sorted_N_str (vs := zs) (news := (K2, lst zs) :: (K, listOf (rvs.take tied.length).toArray 0) :: cst) ?xF ?xN ⟨_, (N4 _ (.head _)).1, rfl, _, rfl⟩ hz.strs ?xz ?_)
    case xF => k_asm
    case xN => k_asm
    case xz => omega
    intro h6 vs6 ss6 e6 F6 N6 hS6 hp6 hs6
    obtain ⟨out, rfl, hpo, hpw⟩ := nm_out hp6 hs6
    have ho := hout out hpo hpw
    subst ho
    k_whole
    iterate 1 walk1
    k_dflt (refine' ne_nms (xs := vs6) (ys := ys) (S := out) (T := out) ?xa ?xb hS6 hT.strs ht5 ht5 ?xu ?_)
    case xa => exact ⟨_, (N6 _ (.head _)).1, rfl, _, rfl⟩
    case xb => exact ⟨_, (N6 _ (.tail _ (.tail _ (.tail _ mD)))).1, rfl, _, rfl⟩
    case xu => ktr_room
    rw [decide_eq_true rfl]
    iterate 4 walk1
    exact hret _ _ F6 (cb_drop N6 fun p hp => .tail _ (.tail _ (.tail _ hp)))
end
end Mine
end
/-! part RW -/
section
theorem Mine.rstRW : True := by
  w_top off
  trivial
open PySem PySem.Spec PySem.Calls PySem.W PyProof.Rows PyProof.V
set_option maxRecDepth 100000
set_option maxHeartbeats 4000000
namespace Mine
local macro_rules | `(tactic| k_mem) => `(tactic| assumption)
local macro_rules | `(tactic| k_all) => `(tactic| assumption)
local macro_rules | `(tactic| walk_at "getMethod ref") => `(tactic| (k_here; k_dflt (refine' method_fnG ?X ?I ?a canon_list_ga ?b ?c ?d ?e ?_; (case X => k_in); (case I => exact inst_row (by k_asm) (by k_mem) (by k_mem)); (case a => k_is); (case b => k_is); (case c => k_is); (case d => k_is); (case e => with_unfolding_all rfl); k_whole)))
local macro_rules | `(tactic| k_all) => `(tactic| first | assumption | exact ne_all_low (by assumption) (by omega))
section
open PyProof.Rows.LCg PyProof.Rows.LCp PyProof.Rows.LCt
variable {w : World} {loose : List Str} {mean : ExcName → Option Value} {mg mb : Str → Option Value}
  {dp un : Nat} {gd : Option (List Code)} {outer : List Env} {A₀ : Around} {base h₀ : Heap} {L : Addr} {s : Shared} {Q : Flow → Shared → Prop} {E : Value → Shared → Prop} {mz : Str → Option Value}
  {l B : Addr} {bo oc on ob : Obj} {v0 : Option Value} {cst : List (Addr × Obj)} {place : Nat} {tp : Tok} {ns : List Value} {S : List Nat} {nn : Nat} {bk : Nat → List Nat} {u1 u2 : Option Value}

theorem right_while
    (BB : Below A₀ base outer h₀) (X : (Mine.hd.heap_39 w.params).In h₀) (T : Top Mine.hd.view_39 loose mean mg mb h₀) (hE : PassesOwn (model Challenge.rw_xg0075_01.row.prog w) (ktrTop dp un gd (Str.ofString "_law_right_ones") (scR w.params).1 L 288 (.ref 287) (cellsFrom (L + 1) (scR w.params).1.names []) outer) (envX (Str.ofString "_law_right_ones") (scR w.params).1 L 288 (.ref 287) (cellsFrom (L + 1) (scR w.params).1.names [])) E)
    (lc : @Ne Nat l (L + 1 + 1 + 1)) (offl : ∀ p ∈ cst, p.1 ≠ l) (offc : ∀ p ∈ cst, p.1 ≠ L + 1 + 1 + 1)
    (mn : (L + 1 + 1, on) ∈ cst) (dn : on.data = .cell (some (.ref l))) (mb1 : (L + 1, ob) ∈ cst) (db : ob.data = .cell (some (.ref B)))
    (hd : dp + 10 < recursionLimit) (hu : un + 128 < cLine) (mB : (B, bo) ∈ cst) (BK : BookIs w cst bo bk) :
    ∀ (n : Nat) (S : List Nat) (u1 u2 : Option Value) (ns : List Value) (nn : Nat) (oc : Obj) (v0 : Option Value) (s : Shared), S.length = n → n ≤ 5 → Fr h₀ L s.heap (rm u1 u2 (some (.int place tp)) mz) → News h₀ L s.heap ((l, lstO ns nn) :: (L + 1 + 1 + 1, oc) :: cst) →
      oc.data = .cell v0 → StrsNm ns S → S.Nodup → (∀ k ∈ S, k < 5) → RightP place bk n S →
      (∀ (m' : Str → Option Value) (ns' : List Value) (nn' : Nat) (oc' : Obj) (h' : Heap) (tk' : Nat), Fr h₀ L h' m' → News h₀ L h' ((l, lstO ns' nn') :: (L + 1 + 1 + 1, oc') :: cst) → Q .next { s with heap := h', toks := tk' }) →
      WhlRest Challenge.rw_xg0075_01.row.prog w (ktrTop dp un gd (Str.ofString "_law_right_ones") (scR w.params).1 L 288 (.ref 287) (cellsFrom (L + 1) (scR w.params).1.names []) outer) E (envX (Str.ofString "_law_right_ones") (scR w.params).1 L 288 (.ref 287) (cellsFrom (L + 1) (scR w.params).1.names [])) (tsR w.params).1 (bdR w.params).1 [] Q 0 s := by
  dsimp only [tsR, bdR]
  intro n
  induction n with
  | zero =>
    intro S u1 u2 ns nn oc v0 s hlen h5 F N dc hns hnd hS5 hR hret
    have hi : S = [] := List.eq_nil_of_length_eq_zero hlen
    subst hi
    have hv : ns = [] := by cases ns with | nil => rfl | cons => exact hns.elim
    subst hv
    refine whl_turn (k := 0) hE ?_
    dsimp only [scR]
    iterate 5 walk1
    rename Fr _ _ _ _ => F1
    rename News _ _ _ _ => N1
    k_dflt (refine' ne_nms (xs := []) (ys := []) (S := []) (T := []) ?xa ?xb .nil .nil (fun _ h => nomatch h) (fun _ h => nomatch h) ?xu ?_)
    case xa => exact ⟨_, (N1 _ (.tail _ (.head _))).1, rfl, _, rfl⟩
    case xb => exact ⟨_, (N1 _ (.head _)).1, rfl, _, rfl⟩
    case xu => ktr_room
    rw [decide_eq_true rfl]
    iterate 3 walk1
    exact hret _ [] nn oc _ _ F1 (cb_drop N1 fun p hp => .tail _ hp)
  | succ n ih =>
    intro S u1 u2 ns nn oc v0 s hlen h5 F N dc hns hnd hS5 hR hret
    obtain ⟨c, hc, hright, hR'⟩ := hR
    have hl := hns.length
    refine whl_turn (k := 0) hE ?_
    dsimp only [scR]
    iterate 5 walk1
    rename Fr _ _ _ _ => F1
    rename News _ _ _ _ => N1
    k_dflt (refine' ne_nms (xs := ns) (ys := []) (S := S) (T := []) ?xa ?xb hns.strs .nil hS5 (fun _ h => nomatch h) ?xu ?_)
    case xa => exact ⟨_, (N1 _ (.tail _ (.head _))).1, rfl, _, rfl⟩
    case xb => exact ⟨_, (N1 _ (.head _)).1, rfl, _, rfl⟩
    case xu => ktr_room
    have hne : S ≠ [] := fun e => by rw [e] at hlen; cases hlen
    rw [decide_eq_false hne]
    iterate 2 walk1
    have N2 := cb_drop N1 (sub_cons (.tail _ (.head _)) (sub_cons (.tail _ (.tail _ (.head _))) (fun p (hp : p ∈ cst) => .tail _ (.tail _ (.tail _ hp)))))
    clear N1
    walk1
    k_dflt (refine segA F1 BB X T hE N2 lc offl offc mn dn mb1 db hd hu hns (by omega) dc hc ?_)
    clear F1 N2
    intro t1 nn1 oc1 h1 tk1 F1 N1 dc1
    k_whole
    have hi : place % S.length < S.length := (List.getElem?_eq_some_iff.mp hc).1
    have hns1 := hns.erase (place % S.length)
    generalize place % S.length = i at hc hright hR' hns1 N1 hi
    have hl1 : (S.eraseIdx i).length = n := by rw [List.length_eraseIdx, if_pos hi, hlen]; rfl
    have hnd1 : (S.eraseIdx i).Nodup := hnd.eraseIdx i
    have hS1 : ∀ k ∈ S.eraseIdx i, k < 5 := fun k hk => hS5 k (List.mem_of_mem_eraseIdx hk)
    have hc5 : c < 5 := hS5 c (List.mem_of_getElem? hc)
    walk1
    k_dflt (refine segB F1 BB X T hE N1 lc offl offc mn dn mb1 db hd hu hns1 (by omega) dc1 hc5 mB BK hnd1 hS1 (by omega) ?_)
    clear F1 N1
    intro R rvs rks nr cst' h2 tk2 F2 N2 ol2 oc2 hs2 RK hp hpw
    k_whole
    walk1
    k_dflt (refine segC F2 BB X T hE N2 lc ol2 oc2 (.tail _ (hs2 _ mn)) dn (.tail _ (hs2 _ mb1)) db hd hu hns1 (by omega) dc1 hc5 (.tail _ (hs2 _ mB)) (BK.mono fun p hp => .tail _ (hs2 p hp)) ?_)
    clear F2 N2
    intro D ys h3 tk3 F3 N3 offD hT
    k_whole
    walk1
    have hrl : rks.length ≤ 4 := by
      have := hp.length_eq
      rw [List.length_map] at this
      omega
    have htl : ((S.eraseIdx i).filter (· ∈ bk c)).length ≤ 5 := by
      have := List.length_filter_le (fun x => decide (x ∈ bk c)) (S.eraseIdx i)
      omega
    k_dflt (refine segD F3 BB X T hE hd hu N3 (.tail _ (.tail _ (.tail _ (.head _)))) (RK.mono fun p hp => .tail _ hp) (.head _) hT hrl htl ?hk5 ?ht5 (hright rks hp hpw) ?_)
    case hk5 =>
      intro p hp'
      obtain ⟨k, hk, rfl⟩ := List.mem_map.mp (hp.mem_iff.mp hp')
      exact hS1 k hk
    case ht5 => exact fun k hk => hS1 k (List.mem_filter.mp hk).1
    clear F3 N3
    intro h4 tk4 F4 N4
    k_whole
    iterate 2 walk1
    exact ih (S.eraseIdx i) _ _ _ _ _ _ _ hl1 (by omega) F4 (cb_drop N4 (sub_cons (.tail _ (.head _)) (sub_cons (.tail _ (.tail _ (.head _))) fun p hp => .tail _ (.tail _ (.tail _ (.tail _ (hs2 p hp))))))) dc1 hns1 hnd1 hS1 hR' hret
end
end Mine
end
/-! part R11 -/
section
local macro_rules | `(tactic| walk_at "pad") => `(tactic| skip)
theorem Mine.rstR11 : True := by
  w_top off
  trivial
open PySem PySem.Spec PySem.Calls PySem.W PyProof.Rows PyProof.V
set_option maxRecDepth 100000
set_option maxHeartbeats 4000000
namespace Mine
local macro_rules | `(tactic| k_mem) => `(tactic| assumption)
local macro_rules | `(tactic| k_all) => `(tactic| assumption)
local macro_rules | `(tactic| walk_at "getMethod ref") => `(tactic| (k_here; k_dflt (refine' method_fnG ?X ?I ?a canon_list_ga ?b ?c ?d ?e ?_; (case X => k_in); (case I => exact inst_row (by k_asm) (by k_mem) (by k_mem)); (case a => k_is); (case b => k_is); (case c => k_is); (case d => k_is); (case e => with_unfolding_all rfl); k_whole)))
local macro_rules | `(tactic| k_all) => `(tactic| first | assumption | exact ne_all_low (by assumption) (by omega))
section
open PyProof.Rows.LCg PyProof.Rows.LCp
variable {w : World} {loose : List Str} {mean : ExcName → Option Value} {mg mb : Str → Option Value}
  {dp un : Nat} {gd : Option (List Code)} {cn : Str} {cs : Scope} {a : Addr} {ccd : Value} {cl : List (Str × Addr)} {outer : List Env} {A₀ : Around} {base h₀ : Heap} {L : Addr} {m : Str → Option Value} {s : Shared} {Q E : Value → Shared → Prop} {news : List (Addr × Obj)}

theorem right_spec {B : Addr} {bo : Obj} {bk : Nat → List Nat} {place : Nat} {tp : Tok}
    (BB : Below A₀ base outer h₀) (F : Fr h₀ L s.heap m) (X : (Mine.hd.heap_39 w.params).In h₀) (N : News h₀ L s.heap news) (T : Top Mine.hd.view_39 loose mean mg mb h₀) (hK : cs.kind = .function)
    (mB : (B, bo) ∈ news) (BK : BookIs w news bo bk) (hR : RightP place bk 5 [0, 1, 2, 3, 4])
    (hd : dp + 20 < recursionLimit) (hu : un + 264 < cLine)
    (hret : ∀ (h' : Heap) (tk' : Nat), Fr h₀ L h' m → News h₀ L h' news → Q (.bool true) { s with heap := h', toks := tk' }) :
    wpAny (model Challenge.rw_xg0075_01.row.prog w) (ktrTop dp un gd cn cs L a ccd cl outer) (call (.ref 288) [.ref B, .int place tp]) Q E s := by
  refine wpAny_call ?_
  refine' code_defC (binds := [(Str.ofString "book", .ref B), (Str.ofString "place", .int place tp)]) BB F X N T (by exact rfl) (by exact rfl) hK ?k6 ?k7 ?k8 ?k9 ?kB ?kN ?_ ?c2 ?c3 ?c4
  case k6 => k_is
  case k7 => k_is
  case k8 => ktr_room
  case k9 => exact BindsTo.of_eq rfl
  case kB => exact rfl
  case kN => decide
  case c2 => exact rfl
  case c3 => exact rfl
  case c4 => exact rfl
  intro g' L' h' tk cells FG' F' N' Y' B' X' T' lN
  try k_lt lN
  k_cells Y'
  try simp only [List.cons_append, List.nil_append] at N'
  try k_lift B'
  try k_fold
  iterate 18 walk1
  rename_i o1 o2 o3 dd1 dd2 dd3 l hl1 l1 hl2 o2n F2 N2 dd4
  refine name_map F2 fun mm hmm F2 => ?_
  have hmm2 : mm = rm none none (some (.int place tp)) (fun _ => none) := by
    subst hmm
    funext y
    by_cases e0 : y = Str.ofString "place"
    · subst e0; with_unfolding_all rfl
    by_cases e1 : y = Str.ofString "ranks"
    · subst e1; with_unfolding_all rfl
    by_cases e2 : y = Str.ofString "tied"
    · subst e2; with_unfolding_all rfl
    show (if y = Str.ofString "place" then _ else none) = _
    simp only [rm, e0, e1, e2, if_false]
  subst hmm2
  refine whl_start 0 ?_
  obtain ⟨l11, l12, l13, l14⟩ := l1
  have hn0 : ∀ p ∈ news, p.1 ≠ l := ne_all_low lN (by omega)
  k_dflt (refine' right_while (l := l) (cst := (L' + 1 + 1, o2n) :: (L' + 1, o3) :: news) (on := o2n) (ob := o3) (B := B) (bo := bo) (bk := bk) B' X' T' ?hE ?lc ?ol ?oc (.head _) dd4 (.tail _ (.head _)) dd3 ?hd ?hu (.tail _ (.tail _ mB)) (BK.mono fun p hp => .tail _ (.tail _ hp)) 5 [0, 1, 2, 3, 4] none none _ 0 o1 none _ rfl (by decide) F2 N2 dd1 ?hns (by decide) (by decide) hR ?_)
  case hE => passes_own
  case lc => k_ne
  case ol => exact List.forall_mem_cons.mpr ⟨by k_ne, List.forall_mem_cons.mpr ⟨by k_ne, hn0⟩⟩
  case oc => exact List.forall_mem_cons.mpr ⟨by k_ne, List.forall_mem_cons.mpr ⟨by k_ne, ne_all_low lN (by omega)⟩⟩
  case hd => ktr_room
  case hu => ktr_room
  case hns => exact ⟨⟨_, congrArg (fun z => Value.str z _) (by decide)⟩, ⟨_, congrArg (fun z => Value.str z _) (by decide)⟩, ⟨_, congrArg (fun z => Value.str z _) (by decide)⟩, ⟨_, congrArg (fun z => Value.str z _) (by decide)⟩, ⟨_, congrArg (fun z => Value.str z _) (by decide)⟩, trivial⟩
  intro m5 ns5 nn5 oc5 h5 tk5 F5 N5
  dsimp only
  iterate 3 walk1
  refine leaveK_ F5 N5 fun F6 N6 => hret h5 _ F6 (cb_drop N6 fun p hp => .tail _ (.tail _ (.tail _ (.tail _ hp))))
end
end Mine
end
/-! part Ls -/
section
theorem Mine.rstLs : True := by
  w_top off
  trivial
open PySem PySem.Spec PySem.Calls PySem.W PyProof.Rows PyProof.V
set_option maxRecDepth 100000
set_option maxHeartbeats 4000000
namespace Mine
section
variable {prog : Program} {w : World} {A : Around} {E : Value → Shared → Prop} {s : Shared} {env : Env} {h₀ : Heap} {target : Expr} {body : List Stmt} {Q : Flow → Shared → Prop}
theorem letGo_striter {I : Addr} {x : Str} {t : Tok} {i : Nat} {v : Value} {Q' : Unit → Shared → Prop} {s' : Shared} (hit : s'.heap.IsStrIter I "str_ascii_iterator" x t i) (h : Q' () s') :
    wpAny (model prog w) A (letOwnedTupleGo target (.ref I) v) Q' E s' := by
  obtain ⟨o, ho, hc, hd⟩ := hit
  unfold letOwnedTupleGo
  cases target <;> first
    | exact wpAny_pure h
    | (cases v <;> first
        | exact wpAny_pure h
        | (refine wpAny_bind (wpAny_load ho ?_)
           rw [hc, hd]
           exact wpAny_pure h))
theorem iter_strTurns {x : Str} {t : Tok} {m₀ : Str → Option Value} {news : List (Addr × Obj)} (ha : x.cps.all (· < 128) = true)
    (hh : A.handled = none) (F : Fr h₀ env.locals s.heap m₀) (N : News h₀ env.locals s.heap news)
    (rest₀ : ∀ I : Addr, (∀ p ∈ news, p.1 < I) → ItemsRest prog w A E h₀ env target body Q s [(I, "str_ascii_iterator")] [] (x.cps.toList.map fun (c : Nat) => .tok fun u => .str ⟨#[c]⟩ u) m₀ news) :
    wpAny (model prog w) A (pyIter (.str x t)) (fun it s₂ => TurnsAt prog w A h₀ env target body Q E it s₂) E s := by
  refine wpAny_pyIter_ascii ha ?_
  refine ktu_core (tk0 := s.toks) (keep := []) (KTurns.ofWalks (Walks.strAscii hh s.heap.objs.size x t) fun i v s Q E st q => letGo_striter st q) (by simp) (fun i v h hp => ?_) (fun i h st => ?_) (fun b hb => ?_) (fun b hb => by simpa using hb) (fun b hb => ?_) ?_ (fun p hp hI => ?_) ?_ (F.push _) (fun p hp => ⟨Heap.get?_push_of_some _ (N p hp).1, (N p hp).2⟩) trivial (rest₀ _ fun p hp => Heap.lt_size (N p hp).1)
  · obtain ⟨c, u, hc, rfl⟩ := hp
    refine ⟨.tok fun u => .str ⟨#[c]⟩ u, ?_, u, rfl⟩
    have hc' : x.cps.toList[i]? = some c := by rw [← hc]; simp
    rw [List.getElem?_map, hc']; rfl
  · obtain ⟨o, ho, hc, _⟩ := st
    exact ⟨[(s.heap.objs.size, o)], ⟨⟨rfl, hc⟩, trivial⟩, fun p hp => by rw [List.mem_singleton.mp hp]; exact ho⟩
  · have hb' : b = s.heap.objs.size := by simpa using hb
    rw [hb']
    exact ⟨List.mem_cons_self .., next_is_new F⟩
  · have hb' : b = s.heap.objs.size := by simpa using hb
    exact .inl (by simp [hb'])
  · intro hI
    have e : env.locals = s.heap.objs.size := by simpa using hI
    exact absurd F.ns.lt (e ▸ Nat.lt_irrefl _)
  · exact absurd (Heap.lt_size (N p hp).1) ((List.mem_singleton.mp hI) ▸ Nat.lt_irrefl _)
  · exact ⟨_, Heap.get?_push_size _ rfl, rfl, rfl⟩
end
section
open PyProof.Rows.LCg
variable {prog : Program} {w : World} {A : Around} {E : Value → Shared → Prop} {s : Shared} {env : Env} {h₀ : Heap} {L : Addr} {m : Str → Option Value} {news : List (Addr × Obj)}
/-- a list comprehension over a written text -/
theorem ListComp_S {elt iter : Expr} {x : Str} {px : Pos} {scope : Scope} {cl : List (Str × Addr)} {pos : Pos} {Q : Value → Shared → Prop} {tx : Str} (ha : tx.cps.all (· < 128) = true) (hsz : tx.cps.size ≤ sizeLine)
    (hclos : closureFor scope env = pure cl) (hcell : ∀ y ∈ scope.names, y.2 ≠ .cell) (hkind : scope.kind = .function)
    (hnames : ∀ y ∈ scope.names, y.2 = .local → scope.names.lookup y.1 = some .local) (hx : scope.names.lookup x = some .local) (hh : A.handled = none)
    (h : wpAny (model prog w) A (eval iter env) (fun xv s₁ => (∃ t, xv = .str tx t) ∧ Fr h₀ L s₁.heap m ∧ News h₀ L s₁.heap news ∧
      ∀ g, CompRest prog w A h₀ L m env elt x scope cl { s₁ with heap := g } (fun _ => True) (SignAt tx) (FinE h₀ L m { s₁ with heap := g } Q) tx.cps.size 0 [] news) E s)
    (hs : ∀ x, foldedSetIterable iter env x = pure x := by intro _; rfl) :
    wpAny (model prog w) A (eval (.ListComp elt [⟨.Name x px, iter, [], 0⟩] scope pos) env) Q E s := by
  rw [eval_ListComp]
  refine wpAny_comprehension_free (use := none) rfl hs hclos hkind hnames (wpAny_mono h (fun xv s₁ h₁ => ?_) fun _ _ e => e)
  obtain ⟨⟨t, rfl⟩, F, N, R⟩ := h₁
  refine wpAny_pyIter_ascii ha ?_
  refine block_U (Walks.strAscii hh s₁.heap.objs.size tx t) hsz (fun i h st => by obtain ⟨o, e, _⟩ := st; exact ⟨o, e⟩) (fun i h h' o nw st e1 e2 _ _ _ => ?_) hcell hkind hx ⟨_, Heap.get?_push_size _ rfl, rfl, rfl⟩ (fun b hb => ?_)
    (F.keeps fun _ _ e => Heap.get?_push_of_some _ e) (N.grown fun _ _ e => Heap.get?_push_of_some _ e) (Nat.ne_of_lt F.ns.lt) (next_is_new F) (fun p hp => Nat.ne_of_lt (Heap.lt_size (N p hp).1)) trivial (R _) ?_
  · obtain ⟨o', q, r⟩ := st
    rw [e1] at q; cases q
    exact ⟨o, e2, r⟩
  · rw [List.mem_singleton.mp hb]
    show s₁.heap.objs.size < (s₁.heap.push _).objs.size
    rw [Heap.size_push]; exact Nat.lt_succ_self _
  · intro D C h tk m' ys news' F' N' o1 hn hC₀ hD₀ hCL hDL hCD offC fin
    refine ⟨m', hn, fun h'' hs'' => fin D h'' tk (F'.change hs'' hCL hC₀) (fun p hp => ?_) o1⟩
    refine ⟨hs''.extBut _ _ ?_ (N' p hp).1, (N' p hp).2⟩
    rcases List.mem_cons.mp hp with rfl | hp
    · exact Ne.symm hCD
    · exact offC p hp
end
end Mine
end
/-! part Rl -/
section
theorem Mine.rstRl : True := by
  w_top off
  trivial
open PySem PySem.Spec PySem.Calls PySem.W PyProof.Rows PyProof.V
set_option maxRecDepth 100000
set_option maxHeartbeats 4000000
namespace Mine
noncomputable def scL (p : Params) : { x : Scope // scopeAt p 293 = x } := by
  refine ⟨?a, ?b⟩
  rotate_left
  conv => lhs; whnf
noncomputable def bdL (p : Params) : { x : List Stmt // bodyAt p 293 = x } := by
  refine ⟨?a, ?b⟩
  rotate_left
  conv => lhs; whnf
noncomputable def stM (p : Params) : { x : Stmt // nth (inner (nth (bodyAt p 293) 6)) 0 = x } := by
  refine ⟨?a, ?b⟩
  rotate_left
  conv => lhs; whnf
noncomputable def stN (p : Params) : { x : Stmt // nth (inner (nth (bodyAt p 293) 6)) 1 = x } := by
  refine ⟨?a, ?b⟩
  rotate_left
  conv => lhs; whnf
noncomputable def stL6 (p : Params) : { x : Stmt // nth (bodyAt p 293) 6 = x } := by
  refine ⟨?a, ?b⟩
  rotate_left
  conv => lhs; whnf
/-- the names of law -/
abbrev lm (name other wishes place books : Option Value) (mz : Str → Option Value) : Str → Option Value := fun y =>
  if y = Str.ofString "name" then name else if y = Str.ofString "other" then other else if y = Str.ofString "wishes" then wishes else if y = Str.ofString "place" then place else
  if y = Str.ofString "books" then books else mz y
end Mine
end
/-! part RM -/
section
theorem Mine.rstRM : True := by
  w_top off
  trivial
open PySem PySem.Spec PySem.Calls PySem.W PyProof.Rows PyProof.V
set_option maxRecDepth 100000
set_option maxHeartbeats 4000000
namespace Mine
local macro_rules | `(tactic| k_mem) => `(tactic| assumption)
local macro_rules | `(tactic| k_all) => `(tactic| assumption)
local macro_rules | `(tactic| walk_at "getMethod ref") => `(tactic| (k_here; k_dflt (refine' method_fnG ?X ?I ?a canon_list_ga ?b ?c ?d ?e ?_; (case X => k_in); (case I => exact inst_row (by k_asm) (by k_mem) (by k_mem)); (case a => k_is); (case b => k_is); (case c => k_is); (case d => k_is); (case e => with_unfolding_all rfl); k_whole)))
local macro_rules | `(tactic| k_all) => `(tactic| first | assumption | exact ne_all_low (by assumption) (by omega))
section
theorem abc_cps : (Str.ofString "abcde").cps = #[97, 98, 99, 100, 101] := by decide
theorem abc_size : (Str.ofString "abcde").cps.size = 5 := by rw [abc_cps]; rfl
theorem abc_low : (Str.ofString "abcde").cps.all (· < 128) = true := by rw [abc_cps]; simp
theorem abc_at {i c : Nat} (h : (Str.ofString "abcde").cps[i]? = some c) : i < 5 ∧ (⟨#[c]⟩ : Str) = nm i := by
  rw [abc_cps] at h
  match i, h with
  | 0, h => exact ⟨by decide, by obtain rfl : 97 = c := (by simpa using h); rfl⟩
  | 1, h => exact ⟨by decide, by obtain rfl : 98 = c := (by simpa using h); rfl⟩
  | 2, h => exact ⟨by decide, by obtain rfl : 99 = c := (by simpa using h); rfl⟩
  | 3, h => exact ⟨by decide, by obtain rfl : 100 = c := (by simpa using h); rfl⟩
  | 4, h => exact ⟨by decide, by obtain rfl : 101 = c := (by simpa using h); rfl⟩
  | i + 5, h => simp at h
open PyProof.Rows.LCg PyProof.Rows.LCp PyProof.Rows.LCt
variable {w : World} {loose : List Str} {mean : ExcName → Option Value} {mg mb : Str → Option Value}
  {dp un : Nat} {gd : Option (List Code)} {a : Addr} {ccd : Value} {A₀ : Around} {h₀ : Heap} {L : Addr} {s : Shared} {Q : Flow → Shared → Prop} {E : Value → Shared → Prop} {mz : Str → Option Value}
  {B wl : Addr} {bo oc : Obj} {v0 : Option Value} {cst : List (Addr × Obj)} {bk : Nat → List Nat} {wvs : List Value} {nw : Nat} {name other place books : Option Value}

theorem segM (F : Fr h₀ L s.heap (lm name other (some (.ref wl)) place books mz))
    (BB : Below A₀ h₀ [] h₀) (X : (Mine.hd.heap_39 w.params).In h₀) (T : Top Mine.hd.view_39 loose mean mg mb h₀) (hE : PassesOwn (model Challenge.rw_xg0075_01.row.prog w) (ktrTop dp un gd (Str.ofString "law") (scL w.params).1 L a ccd (cellsFrom (L + 1) (scL w.params).1.names []) []) (envX (Str.ofString "law") (scL w.params).1 L a ccd (cellsFrom (L + 1) (scL w.params).1.names [])) E)
    (hd : dp + 40 < recursionLimit) (hu : un + 700 < cLine)
    (N : News h₀ L s.heap cst) (mc : (L + 1, oc) ∈ cst) (dc : oc.data = .cell (some (.ref B))) (mB : (B, bo) ∈ cst) (BK : BookIs w cst bo bk) (mw : (wl, lstO wvs nw) ∈ cst) (hw : IntsAre wvs ((List.range 5).map fun (k : Nat) => ((bk k).length : Int))) (hlt : ∀ k, (bk k).length < 100)
    (hret : ∀ (h' : Heap) (tk' : Nat), Fr h₀ L h' (lm name other (some (.ref wl)) place books mz) → News h₀ L h' cst → Q .next { s with heap := h', toks := tk' }) :
    wpAny (model Challenge.rw_xg0075_01.row.prog w) (ktrTop dp un gd (Str.ofString "law") (scL w.params).1 L a ccd (cellsFrom (L + 1) (scL w.params).1.names []) []) (exec (stM w.params).1 (envX (Str.ofString "law") (scL w.params).1 L a ccd (cellsFrom (L + 1) (scL w.params).1.names []))) Q E s := by
  dsimp only [stM, scL] at hE ⊢
  iterate 2 walk1
  k_dflt (refine ListComp_S (h₀ := h₀) (L := L) (m := lm name other (some (.ref wl)) place books mz) (news := cst) (tx := Str.ofString "abcde") abc_low (by rw [abc_size, sizeLine_eq]; decide) (by with_unfolding_all rfl) (by decide) (by rfl) (by decide) (by rfl) (by with_unfolding_all rfl) ?_)
  iterate 1 walk1
  refine ⟨⟨_, rfl⟩, F, N, fun g => ?_⟩
  rw [abc_size]
  refine compI_same (n := 5) (fun i ys => IntsAre ys ((List.range i).map fun (k : Nat) => ((bk k).length : Int))) ?_ ?_ .nil
  · rintro i ys v hi hJ ⟨c, u, hcc, rfl⟩ I oI C oC D m₂ h4 tk4 E' hC hx F4 N4 off ne
    obtain ⟨hi5, enm⟩ := abc_at hcc
    rw [enm] at hx
    iterate 8 walk1
    obtain ⟨kvs, hbo, h5k, hbk⟩ := BK
    obtain ⟨Dk, ok, kv, ev, mDk, lo, hdk, honc⟩ := hbk i hi5
    k_dflt (refine kda_item (knd := PySem.strKind _ _) N4 (.tail _ (.tail _ (.tail _ mB))) hbo (strKind_is _ _ _ _) ev ?_)
    iterate 2 walk1
    k_dflt (refine' count_spec ?zB ?zF ?zX ?zN ?zT ?zK ?zm hdk lo honc ?zl ?zd ?zu ?_)
    case zB => exact BB
    case zF => exact F4
    case zX => exact X
    case zN => exact N4
    case zT => exact T
    case zm => exact .tail _ (.tail _ (.tail _ mDk))
    case zK => rfl
    case zl => rw [List.length_map]; exact hlt i
    case zd => ktr_room
    case zu => ktr_room
    intro t5 h5 tk5 F5 N5
    rw [List.length_map]
    refine CompEnd.intro F5 N5 _ (fun p hp => hp) (Off3.of off) trivial ⟨rfl, ?_⟩
    rw [List.range_succ, List.map_append]
    exact ints_snoc hJ
  · intro ys hJ
    intro D h5 tk5 F5 N5 off5
    k_whole
    iterate 1 walk1
    k_dflt (refine' ke_ne_ints (xs := ys) (ys := wvs) ?xa ?xb hJ hw ?xu ?_)
    case xa => exact ⟨_, (N5 _ (.head _)).1, rfl, _, rfl⟩
    case xb => exact ⟨_, (N5 _ (.tail _ mw)).1, rfl, _, rfl⟩
    case xu => ktr_room
    rw [decide_eq_true rfl]
    iterate 3 walk1
    exact hret _ _ F5 (cb_drop N5 fun p hp => .tail _ hp)
end
end Mine
end
/-! part RN -/
section
local macro_rules | `(tactic| walk_at "pad") => `(tactic| skip)
theorem Mine.rstRN : True := by
  w_top off
  trivial
open PySem PySem.Spec PySem.Calls PySem.W PyProof.Rows PyProof.V
set_option maxRecDepth 100000
set_option maxHeartbeats 4000000
namespace Mine
local macro_rules | `(tactic| k_mem) => `(tactic| assumption)
local macro_rules | `(tactic| k_all) => `(tactic| assumption)
local macro_rules | `(tactic| walk_at "getMethod ref") => `(tactic| (k_here; k_dflt (refine' method_fnG ?X ?I ?a canon_list_ga ?b ?c ?d ?e ?_; (case X => k_in); (case I => exact inst_row (by k_asm) (by k_mem) (by k_mem)); (case a => k_is); (case b => k_is); (case c => k_is); (case d => k_is); (case e => with_unfolding_all rfl); k_whole)))
local macro_rules | `(tactic| k_all) => `(tactic| first | assumption | exact ne_all_low (by assumption) (by omega))
section
theorem lm_name {u1 u2 u3 u4 u5 v : Option Value} {mz : Str → Option Value} : (fun z => if z = Str.ofString "name" then v else lm u1 u2 u3 u4 u5 mz z) = lm v u2 u3 u4 u5 mz := by
  funext y
  by_cases e1 : y = Str.ofString "name"
  · subst e1; with_unfolding_all rfl
  simp only [lm, e1, if_false]
theorem lm_other {u1 u2 u3 u4 u5 v : Option Value} {mz : Str → Option Value} : (fun z => if z = Str.ofString "other" then v else lm u1 u2 u3 u4 u5 mz z) = lm u1 v u3 u4 u5 mz := by
  funext y
  by_cases e1 : y = Str.ofString "other"
  · subst e1; with_unfolding_all rfl
  simp only [lm, e1, if_false]
open PyProof.Rows.LCg PyProof.Rows.LCp PyProof.Rows.LCt
variable {w : World} {loose : List Str} {mean : ExcName → Option Value} {mg mb : Str → Option Value}
  {dp un : Nat} {gd : Option (List Code)} {a : Addr} {ccd : Value} {A₀ : Around} {h₀ : Heap} {L : Addr} {s : Shared} {Q : Flow → Shared → Prop} {E : Value → Shared → Prop} {mz : Str → Option Value}
  {B wl : Addr} {bo oc : Obj} {v0 : Option Value} {cst : List (Addr × Obj)} {bk : Nat → List Nat} {wvs : List Value} {nw : Nat} {name other place books : Option Value}

theorem segN (F : Fr h₀ L s.heap (lm name other (some (.ref wl)) place books mz))
    (BB : Below A₀ h₀ [] h₀) (X : (Mine.hd.heap_39 w.params).In h₀) (T : Top Mine.hd.view_39 loose mean mg mb h₀) (hE : PassesOwn (model Challenge.rw_xg0075_01.row.prog w) (ktrTop dp un gd (Str.ofString "law") (scL w.params).1 L a ccd (cellsFrom (L + 1) (scL w.params).1.names []) []) (envX (Str.ofString "law") (scL w.params).1 L a ccd (cellsFrom (L + 1) (scL w.params).1.names [])) E)
    (hd : dp + 40 < recursionLimit) (hu : un + 700 < cLine)
    (N : News h₀ L s.heap cst) (mc : (L + 1, oc) ∈ cst) (dc : oc.data = .cell (some (.ref B))) (mB : (B, bo) ∈ cst) (BK : BookIs w cst bo bk) (hsym : ∀ k < 5, ∀ j ∈ bk k, j < 5 ∧ k ∈ bk j)
    (hret : ∀ (name other : Option Value) (h' : Heap) (tk' : Nat), Fr h₀ L h' (lm name other (some (.ref wl)) place books mz) → News h₀ L h' cst → Q .next { s with heap := h', toks := tk' }) :
    wpAny (model Challenge.rw_xg0075_01.row.prog w) (ktrTop dp un gd (Str.ofString "law") (scL w.params).1 L a ccd (cellsFrom (L + 1) (scL w.params).1.names []) []) (exec (stN w.params).1 (envX (Str.ofString "law") (scL w.params).1 L a ccd (cellsFrom (L + 1) (scL w.params).1.names []))) Q E s := by
  dsimp only [stN, scL] at hE ⊢
  with_unfolding_all (refine' For_turns F ?_)
  k_whole
  iterate 1 walk1
  refine iter_strTurns abc_low (by with_unfolding_all rfl) F N ?_
  intro I lI
  have eitm : (Str.ofString "abcde").cps.toList.map (fun (c : Nat) => Itm.tok fun u => .str ⟨#[c]⟩ u) = [0, 1, 2, 3, 4].map (fun (k : Nat) => Itm.tok fun u => .str (nm k) u) := by rw [abc_cps]; rfl
  rw [eitm]
  refine items_inv (fun (k : Nat) => Itm.tok fun u => .str (nm k) u) (fun rem m2 nw => ∃ name other : Option Value, (∀ k ∈ rem, k < 5) ∧ nw = cst ∧ m2 = lm name other (some (.ref wl)) place books mz) ?_ ?_ [0, 1, 2, 3, 4] _ _ ⟨name, other, by decide, rfl, rfl⟩
  · rintro x rem m2 nw v hh tk2 io ⟨name, other, hr, rfl, rfl⟩ ⟨tv, rfl⟩ hio F2 N2
    have hx5 : x < 5 := hr x (.head _)
    have offI : ∀ p ∈ nw, p.1 ≠ I := fun p hp => Nat.ne_of_lt (lI p hp)
    clear F N
    iterate 3 walk1
    rename Fr _ _ _ _ => F3
    rename News _ _ _ _ => N3
    have F4 : Fr h₀ L _ (lm (some (.str (nm x) tv)) other (some (.ref wl)) place books mz) := Eq.mp (congrArg (Fr h₀ L _) lm_name) F3
    clear F3 F2 N2
    iterate 1 walk1
    obtain ⟨kvs, hbo, h5k, hbk⟩ := BK
    obtain ⟨Dk, ok, kv, ev, mDk, lo, hdk, honc⟩ := hbk x hx5
    with_unfolding_all (refine' For_turns F4 ?_)
    k_whole
    iterate 3 walk1
    k_dflt (refine kda_item (knd := PySem.strKind _ _) N3 (.tail _ mB) hbo (strKind_is _ _ _ _) ev ?_)
    refine kta_keys (knd := PySem.strKind _ _) (enc := PyData.str) (by with_unfolding_all rfl) F4 N3 (.tail _ mDk) hdk lo (fun _ _ h => Value.isStrOf_shape h) rfl ?_
    intro I2 lI2
    have lII := lI2 _ (.head _)
    refine items_inv (fun (p : Str × Value) => Itm.tok (kyVal (PyData.str p.1))) (fun rem m2 nw2 => ∃ other : Option Value, (∀ p ∈ rem, p ∈ kv) ∧ nw2 = (I, io) :: nw ∧ m2 = lm (some (.str (nm x) tv)) other (some (.ref wl)) place books mz) ?_ ?_ kv _ _ ⟨other, fun _ h => h, rfl, rfl⟩
    · rintro q rem2 m3 nw3 v2 h4 tk4 io2 ⟨other2, hr2, rfl, rfl⟩ ⟨tq, rfl⟩ hio2 F5 N5
      clear F4 N3
      have hq := hr2 q (.head _)
      obtain ⟨j, hj, ej⟩ : ∃ j, j ∈ bk x ∧ nm j = q.1 := by
        have : q.1 ∈ kv.map (·.1) := List.mem_map.mpr ⟨q, hq, rfl⟩
        rw [honc.1] at this
        exact List.mem_map.mp this
      obtain ⟨hj5, hjx⟩ := hsym x hx5 j hj
      rw [← ej]
      obtain ⟨Dj, oj, kj, evj, mDj, loj, hdj, onj⟩ := hbk j hj5
      obtain ⟨t1, g1⟩ := ones_get honc hj
      obtain ⟨t2, g2⟩ := ones_get onj hjx
      iterate 3 walk1
      rename Fr _ _ _ _ => F6
      rename News _ _ _ _ => N6
      have F7 : Fr h₀ L _ (lm (some (.str (nm x) tv)) (some (.str (nm j) tq)) (some (.ref wl)) place books mz) := Eq.mp (congrArg (Fr h₀ L _) lm_other) F6
      clear F6 F5 N5
      repeat' walk1
      k_dflt (refine kda_item (knd := PySem.strKind _ _) N6 (.tail _ (.tail _ mB)) hbo (strKind_is _ _ _ _) ev ?_)
      repeat' walk1
      k_dflt (refine kda_item (knd := PySem.strKind _ _) N6 (.tail _ (.tail _ mDk)) hdk (strKind_is _ _ _ _) g1 ?_)
      repeat' walk1
      k_dflt (refine kda_item (knd := PySem.strKind _ _) N6 (.tail _ (.tail _ mB)) hbo (strKind_is _ _ _ _) evj ?_)
      k_dflt (refine kdg_method (knd := PySem.strKind _ _) N6 (.tail _ (.tail _ mDj)) hdj ?_)
      repeat' walk1
      k_dflt (refine kdg_get1 (knd := PySem.strKind _ _) N6 (.tail _ (.tail _ mDj)) hdj loj (strKind_is _ _ _ _) _ g2 ?_)
      dsimp only [Option.getD_some]
      repeat' walk1
      refine unrEndA F7 N6 ((I, io) :: nw) (fun p hp => by rw [List.mem_singleton.mp hp]; exact .head _) (fun p hp => .tail _ hp) (fun p hp q2 hq2 => by rw [List.mem_singleton.mp hq2]; exact Nat.ne_of_lt (lI2 p hp)) ⟨⟨.tail _ mDk, trivial⟩, _, fun p hp => hr2 p (.tail _ hp), rfl, rfl⟩
    · rintro m3 nw3 h4 tk4 ⟨other2, hr2, rfl, rfl⟩ F5 N5
      clear F4 N3
      dsimp only
      iterate 2 walk1
      refine unrEndA F5 N5 nw (fun p hp => by rw [List.mem_singleton.mp hp]; exact .head _) (fun p hp => .tail _ hp) (fun p hp q2 hq2 => by rw [List.mem_singleton.mp hq2]; exact offI p hp) ⟨trivial, _, _, fun k hk => hr k (.tail _ hk), rfl, rfl⟩
  · rintro m2 nw hh tk2 ⟨name, other, hr, rfl, rfl⟩ F2 N2
    exact hret name other hh tk2 F2 N2
end
end Mine
end
/-! part RK -/
section
theorem Mine.rstRK : True := by
  w_top off
  trivial
open PySem PySem.Spec PySem.Calls PySem.W PyProof.Rows PyProof.V
set_option maxRecDepth 100000
set_option maxHeartbeats 4000000
namespace Mine
local macro_rules | `(tactic| k_mem) => `(tactic| assumption)
local macro_rules | `(tactic| k_all) => `(tactic| assumption)
local macro_rules | `(tactic| walk_at "getMethod ref") => `(tactic| (k_here; k_dflt (refine' method_fnG ?X ?I ?a canon_list_ga ?b ?c ?d ?e ?_; (case X => k_in); (case I => exact inst_row (by k_asm) (by k_mem) (by k_mem)); (case a => k_is); (case b => k_is); (case c => k_is); (case d => k_is); (case e => with_unfolding_all rfl); k_whole)))
local macro_rules | `(tactic| k_all) => `(tactic| first | assumption | exact ne_all_low (by assumption) (by omega))
section
open PyProof.Rows.LCg PyProof.Rows.LCp PyProof.Rows.LCt
variable {w : World} {loose : List Str} {mean : ExcName → Option Value} {mg mb : Str → Option Value}
  {dp un : Nat} {gd : Option (List Code)} {a : Addr} {ccd : Value} {A₀ : Around} {h₀ : Heap} {L : Addr} {s : Shared} {Q : Flow → Shared → Prop} {E : Value → Shared → Prop} {mz : Str → Option Value}
  {B wl : Addr} {bo oc : Obj} {v0 : Option Value} {cst : List (Addr × Obj)} {bk : Nat → List Nat} {wvs : List Value} {nw : Nat} {name other place books : Option Value}

theorem segL {bl B1 B2 : Addr} {bo1 bo2 : Obj} {bk1 bk2 : Nat → List Nat} {nb : Nat} (F : Fr h₀ L s.heap (lm name other (some (.ref wl)) place (some (.ref bl)) mz))
    (BB : Below A₀ h₀ [] h₀) (X : (Mine.hd.heap_39 w.params).In h₀) (T : Top Mine.hd.view_39 loose mean mg mb h₀) (hE : PassesOwn (model Challenge.rw_xg0075_01.row.prog w) (ktrTop dp un gd (Str.ofString "law") (scL w.params).1 L a ccd (cellsFrom (L + 1) (scL w.params).1.names []) []) (envX (Str.ofString "law") (scL w.params).1 L a ccd (cellsFrom (L + 1) (scL w.params).1.names [])) E)
    (hd : dp + 40 < recursionLimit) (hu : un + 700 < cLine)
    (N : News h₀ L s.heap ((L + 1, oc) :: cst)) (offc : ∀ p ∈ cst, p.1 ≠ L + 1) (dc : oc.data = .cell v0) (mbl : (bl, lstO [.ref B1, .ref B2] nb) ∈ cst) (mB1 : (B1, bo1) ∈ cst) (mB2 : (B2, bo2) ∈ cst) (BK1 : BookIs w cst bo1 bk1) (BK2 : BookIs w cst bo2 bk2)
    (mw : (wl, lstO wvs nw) ∈ cst) (hw1 : IntsAre wvs ((List.range 5).map fun (k : Nat) => ((bk1 k).length : Int))) (hlt1 : ∀ k, (bk1 k).length < 100) (hw2 : IntsAre wvs ((List.range 5).map fun (k : Nat) => ((bk2 k).length : Int))) (hlt2 : ∀ k, (bk2 k).length < 100)
    (hsym1 : ∀ k < 5, ∀ j ∈ bk1 k, j < 5 ∧ k ∈ bk1 j) (hsym2 : ∀ k < 5, ∀ j ∈ bk2 k, j < 5 ∧ k ∈ bk2 j)
    (hret : ∀ (name other : Option Value) (oc' : Obj) (h' : Heap) (tk' : Nat), Fr h₀ L h' (lm name other (some (.ref wl)) place (some (.ref bl)) mz) → News h₀ L h' ((L + 1, oc') :: cst) → Q .next { s with heap := h', toks := tk' }) :
    wpAny (model Challenge.rw_xg0075_01.row.prog w) (ktrTop dp un gd (Str.ofString "law") (scL w.params).1 L a ccd (cellsFrom (L + 1) (scL w.params).1.names []) []) (exec (stL6 w.params).1 (envX (Str.ofString "law") (scL w.params).1 L a ccd (cellsFrom (L + 1) (scL w.params).1.names []))) Q E s := by
  dsimp only [stL6, scL] at hE ⊢
  with_unfolding_all (refine' For_turns F ?_)
  k_whole
  iterate 1 walk1
  refine iter_listTurns (by with_unfolding_all rfl) F N (.tail _ mbl) rfl rfl ?_
  intro I lI
  refine items_inv Itm.val (fun rem m2 nw => ∃ (name other : Option Value) (oc' : Obj) (v' : Option Value), nw = (L + 1, oc') :: cst ∧ m2 = lm name other (some (.ref wl)) place (some (.ref bl)) mz ∧ oc'.data = .cell v' ∧ ∀ v ∈ rem, v = .ref B1 ∨ v = .ref B2) ?_ ?_ [.ref B1, .ref B2] _ _ ⟨name, other, oc, v0, rfl, rfl, dc, fun v hv => ?_⟩
  · rintro x rem m2 nw2 v hh tk2 io ⟨name, other, oc', v', rfl, rfl, dc', hrem⟩ rfl hio F2 N2
    have hx := hrem v (.head _)
    have hIc : @Ne Nat (L + 1) I := Nat.ne_of_lt (lI _ (.head _))
    have hIn : ∀ p ∈ cst, p.1 ≠ I := fun p hp => Nat.ne_of_lt (lI p (.tail _ hp))
    clear F N
    refine wpAny_assign_Name ?_
    k_dflt (refine' storeX_C F2 N2 ?hc ?U ?hd ?_ ?hk ?hx)
    case hc => rfl
    case hk => rfl
    case hx => rfl
    case hd => exact dc'
    case U => exact .tail (Ne.symm hIc) (.head offc)
    intro h3 oc3 F3 N3 d3
    clear F2 N2
    dsimp only at N3 ⊢
    k_whole
    obtain ⟨Bx, box, bkx, rfl, mBx, BKx, hwx, hltx, hsymx⟩ : ∃ (Bx : Addr) (box : Obj) (bkx : Nat → List Nat), v = .ref Bx ∧ (Bx, box) ∈ cst ∧ BookIs w cst box bkx ∧ IntsAre wvs ((List.range 5).map fun (k : Nat) => ((bkx k).length : Int)) ∧ (∀ k, (bkx k).length < 100) ∧ (∀ k < 5, ∀ j ∈ bkx k, j < 5 ∧ k ∈ bkx j) := by
      rcases hx with rfl | rfl
      · exact ⟨B1, bo1, bk1, rfl, mB1, BK1, hw1, hlt1, hsym1⟩
      · exact ⟨B2, bo2, bk2, rfl, mB2, BK2, hw2, hlt2, hsym2⟩
    iterate 1 walk1
    k_dflt (refine segM F3 BB X T hE hd hu N3 (.tail _ (.head _)) d3 (.tail _ (.tail _ mBx)) (BKx.mono fun p hp => .tail _ (.tail _ hp)) (.tail _ (.tail _ mw)) hwx hltx ?_)
    clear F3 N3
    intro h4 tk4 F4 N4
    k_whole
    iterate 1 walk1
    k_dflt (refine segN F4 BB X T hE hd hu N4 (.tail _ (.head _)) d3 (.tail _ (.tail _ mBx)) (BKx.mono fun p hp => .tail _ (.tail _ hp)) hsymx ?_)
    clear F4 N4
    intro name5 other5 h5 tk5 F5 N5
    k_whole
    iterate 2 walk1
    refine unrEndA F5 N5 ((L + 1, oc3) :: cst) (fun p hp => by rw [List.mem_singleton.mp hp]; exact .head _) (fun p hp => .tail _ hp) (fun p hp q2 hq2 => ?_) ⟨⟨.tail _ mbl, trivial⟩, _, _, oc3, _, rfl, rfl, d3, fun v hv => hrem v (.tail _ hv)⟩
    rw [List.mem_singleton.mp hq2]
    rcases List.mem_cons.mp hp with rfl | hp
    · exact hIc
    · exact hIn p hp
  · rintro m2 nw2 hh tk2 ⟨name, other, oc', v', rfl, rfl, dc', hrem⟩ F2 N2
    exact hret name other oc' hh tk2 F2 N2
  · rcases List.mem_cons.mp hv with rfl | hv
    · exact .inl rfl
    · exact .inr (List.mem_singleton.mp hv)
end
end Mine
end
/-! part RF -/
section
local macro_rules | `(tactic| walk_at "pad") => `(tactic| skip)
theorem Mine.rstRF : True := by
  w_top off
  trivial
open PySem PySem.Spec PySem.Calls PySem.W PyProof.Rows PyProof.V
set_option maxRecDepth 100000
set_option maxHeartbeats 4000000
namespace Mine
local macro_rules | `(tactic| k_mem) => `(tactic| assumption)
local macro_rules | `(tactic| k_all) => `(tactic| assumption)
local macro_rules | `(tactic| walk_at "getMethod ref") => `(tactic| (k_here; k_dflt (refine' method_fnG ?X ?I ?a canon_list_ga ?b ?c ?d ?e ?_; (case X => k_in); (case I => exact inst_row (by k_asm) (by k_mem) (by k_mem)); (case a => k_is); (case b => k_is); (case c => k_is); (case d => k_is); (case e => with_unfolding_all rfl); k_whole)))
local macro_rules | `(tactic| k_all) => `(tactic| first | assumption | exact ne_all_low (by assumption) (by omega))
noncomputable def stF (p : Params) : { x : Stmt // nth (bodyAt p 293) 3 = x } := by
  refine ⟨?a, ?b⟩
  rotate_left
  conv => lhs; whnf
def ifT : Stmt → Expr
  | .If e _ _ _ => e
  | _ => .Constant (.int 0) 0 default
noncomputable def tsF (p : Params) : { x : Expr // ifT (nth (bodyAt p 293) 4) = x } := by
  refine ⟨?a, ?b⟩
  rotate_left
  conv => lhs; whnf
abbrev fz (falling : Option Value) (mz : Str → Option Value) : Str → Option Value := fun y => if y = Str.ofString "falling" then falling else mz y
theorem lm_fall {u1 u2 u3 u4 u5 v : Option Value} {mz : Str → Option Value} : (fun z => if z = Str.ofString "falling" then v else lm u1 u2 u3 u4 u5 mz z) = lm u1 u2 u3 u4 u5 (fz v mz) := by
  funext y
  by_cases e1 : y = Str.ofString "falling"
  · subst e1; with_unfolding_all rfl
  simp only [lm, fz, e1, if_false]
theorem five_nat {ns1 : List Int} {b0 b1 b2 b3 b4 : Nat} (hp : ns1.Perm [(b0 : Int), b1, b2, b3, b4]) (ho : ns1.Pairwise (· ≤ ·)) {ws : List Value} (hI : IntsAre ws ns1.reverse) :
    ∃ (f0 f1 f2 f3 f4 : Nat) (u0 u1 u2 u3 u4 : Tok), ws = [.int f0 u0, .int f1 u1, .int f2 u2, .int f3 u3, .int f4 u4] ∧ [f0, f1, f2, f3, f4].Perm [b0, b1, b2, b3, b4] ∧ f1 ≤ f0 ∧ f2 ≤ f1 ∧ f3 ≤ f2 ∧ f4 ≤ f3 := by
  have hnat : ∀ x ∈ ns1, ∃ n : Nat, x = (n : Int) := fun x hx => by
    have := hp.mem_iff.mp hx
    simp only [List.mem_cons, List.not_mem_nil, or_false] at this
    rcases this with rfl | rfl | rfl | rfl | rfl <;> exact ⟨_, rfl⟩
  have hl := hp.length_eq
  obtain ⟨x0, x1, x2, x3, x4, rfl⟩ := len5 hl
  · obtain ⟨n0, rfl⟩ := hnat x0 (.head _)
    obtain ⟨n1, rfl⟩ := hnat x1 (.tail _ (.head _))
    obtain ⟨n2, rfl⟩ := hnat x2 (.tail _ (.tail _ (.head _)))
    obtain ⟨n3, rfl⟩ := hnat x3 (.tail _ (.tail _ (.tail _ (.head _))))
    obtain ⟨n4, rfl⟩ := hnat x4 (.tail _ (.tail _ (.tail _ (.tail _ (.head _)))))
    have hpn := hp.map Int.toNat
    simp only [List.map_cons, List.map_nil, Int.toNat_natCast] at hpn
    have hr : [n4, n3, n2, n1, n0].Perm [b0, b1, b2, b3, b4] := (List.reverse_perm [n0, n1, n2, n3, n4]).trans hpn
    simp only [List.pairwise_cons, List.mem_cons, List.not_mem_nil, or_false, forall_eq_or_imp, forall_eq] at ho
    have hI : IntsAre ws [(n4 : Int), n3, n2, n1, n0] := hI
    cases hI with | cons _ u0 hI =>
    cases hI with | cons _ u1 hI =>
    cases hI with | cons _ u2 hI =>
    cases hI with | cons _ u3 hI =>
    cases hI with | cons _ u4 hI =>
    cases hI
    exact ⟨n4, n3, n2, n1, n0, u0, u1, u2, u3, u4, rfl, hr, by omega, by omega, by omega, by omega⟩
section
variable {w : World} {loose : List Str} {mean : ExcName → Option Value} {mg mb : Str → Option Value}
  {dp un : Nat} {gd : Option (List Code)} {a : Addr} {ccd : Value} {A₀ : Around} {h₀ : Heap} {L : Addr} {s : Shared} {Q : Flow → Shared → Prop} {E : Value → Shared → Prop} {mz : Str → Option Value}
  {B wl : Addr} {bo oc : Obj} {v0 : Option Value} {cst : List (Addr × Obj)} {bk : Nat → List Nat} {wvs : List Value} {nw : Nat} {name other place books : Option Value}

theorem segF {b0 b1 b2 b3 b4 : Nat} {t0 t1 t2 t3 t4 : Tok} (F : Fr h₀ L s.heap (lm name other (some (.ref wl)) place books mz))
    (BB : Below A₀ h₀ [] h₀) (X : (Mine.hd.heap_39 w.params).In h₀) (T : Top Mine.hd.view_39 loose mean mg mb h₀) (hE : PassesOwn (model Challenge.rw_xg0075_01.row.prog w) (ktrTop dp un gd (Str.ofString "law") (scL w.params).1 L a ccd (cellsFrom (L + 1) (scL w.params).1.names []) []) (envX (Str.ofString "law") (scL w.params).1 L a ccd (cellsFrom (L + 1) (scL w.params).1.names [])) E)
    (hd : dp + 40 < recursionLimit) (hu : un + 700 < cLine)
    (N : News h₀ L s.heap cst) (mw : (wl, lstO [.int b0 t0, .int b1 t1, .int b2 t2, .int b3 t3, .int b4 t4] nw) ∈ cst)
    (hret : ∀ (fl : Addr) (f0 f1 f2 f3 f4 : Nat) (u0 u1 u2 u3 u4 : Tok) (nf : Nat) (h' : Heap) (tk' : Nat), Fr h₀ L h' (lm name other (some (.ref wl)) place books (fz (some (.ref fl)) mz)) → News h₀ L h' ((fl, lstO [.int f0 u0, .int f1 u1, .int f2 u2, .int f3 u3, .int f4 u4] nf) :: cst) →
      [f0, f1, f2, f3, f4].Perm [b0, b1, b2, b3, b4] → f1 ≤ f0 → f2 ≤ f1 → f3 ≤ f2 → f4 ≤ f3 → Q .next { s with heap := h', toks := tk' }) :
    wpAny (model Challenge.rw_xg0075_01.row.prog w) (ktrTop dp un gd (Str.ofString "law") (scL w.params).1 L a ccd (cellsFrom (L + 1) (scL w.params).1.names []) []) (exec (stF w.params).1 (envX (Str.ofString "law") (scL w.params).1 L a ccd (cellsFrom (L + 1) (scL w.params).1.names []))) Q E s := by
  dsimp only [stF, scL] at hE ⊢
  iterate 8 walk1
  k_dflt (refine' kso_sorted (vs := [.int b0 t0, .int b1 t1, .int b2 t2, .int b3 t3, .int b4 t4]) (ns := [(b0 : Int), b1, b2, b3, b4]) F N ⟨_, (N _ mw).1, rfl, _, rfl⟩ (.cons _ _ (.cons _ _ (.cons _ _ (.cons _ _ (.cons _ _ .nil))))) (by show (5 : Nat) < 64; decide) ?_)
  intro D1 vs1 ns1 n1 h1 F1 N1 lD1 hI1 hl1 hp1 ho1 _
  have hL1 : h1.IsList D1 vs1.toArray := ⟨_, (N1 _ (.head _)).1, rfl, _, rfl⟩
  have hv1 := hI1.length
  k_whole
  iterate 7 walk1
  k_dflt (refine kba_turn (value' := PySem.Expr.Name (PySem.Str.ofString "_") ⟨0, 0, 0, 0⟩) (fun _ => rfl) ?_)
  k_dflt (refine' krv_ints (vs := vs1) (ns := ns1) ?xF ?xN hL1 ?xk hI1 ?_ ?xs ?xt ?xz)
  case xF => exact F1
  case xN => exact N1
  case xk => exact IsPart.int _ _
  case xs => with_unfolding_all rfl
  case xt => intro _; with_unfolding_all rfl
  case xz => rw [List.size_toArray, hv1, hl1, sizeLine_eq]; show (5 : Nat) ≤ _; decide
  intro D2 ws2 h2 F2 N2 lD2 hI2 hl2
  obtain ⟨f0, f1, f2, f3, f4, u0, u1, u2, u3, u4, rfl, hpf, o1, o2, o3, o4⟩ := five_nat hp1 ho1 hI2
  clear F1 N1
  k_whole
  iterate 1 walk1
  rename Fr _ _ _ _ => F3
  rename News _ _ _ _ => N3
  exact hret D2 f0 f1 f2 f3 f4 u0 u1 u2 u3 u4 0 _ _ (Eq.mp (congrArg (Fr h₀ L _) lm_fall) F3) (cb_drop N3 (sub_cons (.head _) fun p hp => .tail _ (.tail _ hp))) hpf o1 o2 o3 o4
end
end Mine
end
/-! part P7 -/
section
theorem Mine.rstP7 : True := by
  w_top off
  trivial
namespace Mine
def gal (f0 f1 f2 f3 f4 : Nat) : Bool :=
  decide ((f0 + f1 + f2 + f3 + f4) % 2 = 0) && ((List.range 5).map fun (j : Nat) => bndI [(f0 : Int), f1, f2, f3, f4] (1 + (j : Int))).all fun x => decide (0 ≤ x)
theorem gal_all : all5 (fun d => all5 fun c => !(Nat.ble d c) || all5 fun b => !(Nat.ble c b) || all5 fun a => !(Nat.ble b a) || all5 fun w => !(Nat.ble a w) || (okP [w, a, b, c, d] == gal w a b c d)) = true := by decide +kernel
theorem okP_gal {f0 f1 f2 f3 f4 : Nat} (c0 : f0 < 5) (c1 : f1 < 5) (c2 : f2 < 5) (c3 : f3 < 5) (c4 : f4 < 5) (o1 : f1 ≤ f0) (o2 : f2 ≤ f1) (o3 : f3 ≤ f2) (o4 : f4 ≤ f3) : okP [f0, f1, f2, f3, f4] = gal f0 f1 f2 f3 f4 := by
  have h1 := imp_get (all5_get (all5_get gal_all c4) c3) (Nat.ble_eq.mpr o4)
  have h2 := imp_get (all5_get h1 c2) (Nat.ble_eq.mpr o3)
  have h3 := imp_get (all5_get h2 c1) (Nat.ble_eq.mpr o2)
  have h4 := imp_get (all5_get h3 c0) (Nat.ble_eq.mpr o1)
  exact eq_of_beq h4
theorem gal_odd {b0 b1 b2 b3 b4 f0 f1 f2 f3 f4 : Nat} (hs : b0 + b1 + b2 + b3 + b4 = f0 + f1 + f2 + f3 + f4) (h : Int.fmod [(b0 : Int), b1, b2, b3, b4].sum 2 = 1) : gal f0 f1 f2 f3 f4 = false := by
  have e : ([(b0 : Int), b1, b2, b3, b4].sum) = ((f0 + f1 + f2 + f3 + f4 : Nat) : Int) := by
    simp only [List.sum_cons, List.sum_nil]
    omega
  rw [e, Int.fmod_eq_emod_of_nonneg _ (by decide)] at h
  unfold gal
  have : ¬ (f0 + f1 + f2 + f3 + f4) % 2 = 0 := by omega
  rw [decide_eq_false this, Bool.false_and]
theorem gal_neg {f0 f1 f2 f3 f4 : Nat} {M : Int} (hM : M ∈ ((List.range 5).map fun (j : Nat) => bndI [(f0 : Int), f1, f2, f3, f4] (1 + (j : Int)))) (hlt : M < 0) : gal f0 f1 f2 f3 f4 = false := by
  cases e : gal f0 f1 f2 f3 f4 with
  | false => rfl
  | true =>
    unfold gal at e
    rw [Bool.and_eq_true, List.all_eq_true] at e
    have := of_decide_eq_true (e.2 M hM)
    omega
theorem gal_yes {b0 b1 b2 b3 b4 f0 f1 f2 f3 f4 : Nat} {M : Int} (hs : b0 + b1 + b2 + b3 + b4 = f0 + f1 + f2 + f3 + f4) (h : ¬ Int.fmod [(b0 : Int), b1, b2, b3, b4].sum 2 = 1)
    (hle : ∀ a, a ∈ ((List.range 5).map fun (j : Nat) => bndI [(f0 : Int), f1, f2, f3, f4] (1 + (j : Int))) → M ≤ a) (hge : ¬ M < 0) : gal f0 f1 f2 f3 f4 = true := by
  have e : ([(b0 : Int), b1, b2, b3, b4].sum) = ((f0 + f1 + f2 + f3 + f4 : Nat) : Int) := by
    simp only [List.sum_cons, List.sum_nil]
    omega
  rw [e, Int.fmod_eq_emod_of_nonneg _ (by decide)] at h
  unfold gal
  rw [Bool.and_eq_true, List.all_eq_true]
  refine ⟨decide_eq_true (by omega), fun x hx => decide_eq_true ?_⟩
  have := hle x hx
  omega
end Mine
end
/-! part RT -/
section
theorem Mine.rstRT : True := by
  w_top off
  trivial
open PySem PySem.Spec PySem.Calls PySem.W PyProof.Rows PyProof.V
set_option maxRecDepth 100000
set_option maxHeartbeats 4000000
namespace Mine
local macro_rules | `(tactic| k_mem) => `(tactic| assumption)
local macro_rules | `(tactic| k_all) => `(tactic| assumption)
local macro_rules | `(tactic| walk_at "getMethod ref") => `(tactic| (k_here; k_dflt (refine' method_fnG ?X ?I ?a canon_list_ga ?b ?c ?d ?e ?_; (case X => k_in); (case I => exact inst_row (by k_asm) (by k_mem) (by k_mem)); (case a => k_is); (case b => k_is); (case c => k_is); (case d => k_is); (case e => with_unfolding_all rfl); k_whole)))
local macro_rules | `(tactic| k_all) => `(tactic| first | assumption | exact ne_all_low (by assumption) (by omega))

section
variable {w : World} {loose : List Str} {mean : ExcName → Option Value} {mg mb : Str → Option Value}
  {dp un : Nat} {gd : Option (List Code)} {a : Addr} {ccd : Value} {A₀ : Around} {h₀ : Heap} {L : Addr} {s : Shared} {Q : Bool → Shared → Prop} {E : Value → Shared → Prop} {mz : Str → Option Value}
  {B wl : Addr} {bo oc : Obj} {v0 : Option Value} {cst : List (Addr × Obj)} {bk : Nat → List Nat} {wvs : List Value} {nw : Nat} {name other place books : Option Value}

theorem segT {fl : Addr} {b0 b1 b2 b3 b4 f0 f1 f2 f3 f4 : Nat} {t0 t1 t2 t3 t4 u0 u1 u2 u3 u4 : Tok} {nf : Nat} (F : Fr h₀ L s.heap (lm name other (some (.ref wl)) place books (fz (some (.ref fl)) mz)))
    (BB : Below A₀ h₀ [] h₀) (X : (Mine.hd.heap_39 w.params).In h₀) (T : Top Mine.hd.view_39 loose mean mg mb h₀) (hE : PassesOwn (model Challenge.rw_xg0075_01.row.prog w) (ktrTop dp un gd (Str.ofString "law") (scL w.params).1 L a ccd (cellsFrom (L + 1) (scL w.params).1.names []) []) (envX (Str.ofString "law") (scL w.params).1 L a ccd (cellsFrom (L + 1) (scL w.params).1.names [])) E)
    (hd : dp + 40 < recursionLimit) (hu : un + 700 < cLine)
    (N : News h₀ L s.heap cst) (mw : (wl, lstO [.int b0 t0, .int b1 t1, .int b2 t2, .int b3 t3, .int b4 t4] nw) ∈ cst) (mf : (fl, lstO [.int f0 u0, .int f1 u1, .int f2 u2, .int f3 u3, .int f4 u4] nf) ∈ cst)
    (c0 : f0 < 5) (c1 : f1 < 5) (c2 : f2 < 5) (c3 : f3 < 5) (c4 : f4 < 5)
    (hs5 : b0 + b1 + b2 + b3 + b4 = f0 + f1 + f2 + f3 + f4)
    (hno : gal f0 f1 f2 f3 f4 = false → ∀ (h' : Heap) (tk' : Nat), Fr h₀ L h' (lm name other (some (.ref wl)) place books (fz (some (.ref fl)) mz)) → News h₀ L h' cst → Q true { s with heap := h', toks := tk' })
    (hret : gal f0 f1 f2 f3 f4 = true → ∀ (h' : Heap) (tk' : Nat), Fr h₀ L h' (lm name other (some (.ref wl)) place books (fz (some (.ref fl)) mz)) → News h₀ L h' cst → Q false { s with heap := h', toks := tk' }) :
    wpAny (model Challenge.rw_xg0075_01.row.prog w) (ktrTop dp un gd (Str.ofString "law") (scL w.params).1 L a ccd (cellsFrom (L + 1) (scL w.params).1.names []) []) (PySem.isTrue (tsF w.params).1 (envX (Str.ofString "law") (scL w.params).1 L a ccd (cellsFrom (L + 1) (scL w.params).1.names [])) (eval (tsF w.params).1 (envX (Str.ofString "law") (scL w.params).1 L a ccd (cellsFrom (L + 1) (scL w.params).1.names [])))) Q E s := by
  dsimp only [tsF, scL] at hE ⊢
  iterate 9 walk1
  k_dflt (refine' LSm.sum_ints (vs := [.int b0 t0, .int b1 t1, .int b2 t2, .int b3 t3, .int b4 t4]) (ns := [(b0 : Int), b1, b2, b3, b4]) F N ?kA ⟨_, (N _ mw).1, rfl, _, rfl⟩ (.cons _ _ (.cons _ _ (.cons _ _ (.cons _ _ (.cons _ _ .nil))))) ?_)
  case kA => with_unfolding_all rfl
  intro h1 tk1 ts F1 N1
  clear F N
  k_whole
  iterate 6 walk1
  · rename Int.fmod _ _ = _ => hodd
    exact hno (gal_odd hs5 hodd) _ _ F1 N1
  · rename ¬ (Int.fmod _ _ = _) => hodd
    iterate 13 walk1
    k_dflt (refine' bounds_spec ?zB ?zF ?zX ?zN ?zT ?zK mf c0 c1 c2 c3 c4 ?zd ?zu ?_)
    case zB => exact BB
    case zF => exact F1
    case zX => exact X
    case zN => exact N1
    case zT => exact T
    case zK => rfl
    case zd => ktr_room
    case zu => ktr_room
    intro D bs nb h2 tk2 F2 N2 oD hB
    clear F1 N1
    k_whole
    iterate 1 walk1
    k_dflt (refine' kso_min ?zF ?zN (l := D) (vs := bs) ⟨_, (N2 _ (.head _)).1, rfl, _, rfl⟩ hB (by rw [List.length_map]; decide) ?zA ?_)
    case zF => exact F2
    case zN => exact N2
    case zA => with_unfolding_all rfl
    intro h3 M tM tk3 F3 N3 hM hle
    clear F2
    k_whole
    iterate 4 walk1
    · rename M < 0 => hlt
      exact hno (gal_neg hM hlt) _ _ F3 (cb_drop N3 (fun p hp => .tail _ hp))
    · rename ¬ M < 0 => hge
      iterate 1 walk1
      exact hret (gal_yes hs5 hodd hle hge) _ _ F3 (cb_drop N3 (fun p hp => .tail _ hp))
end
end Mine
end
/-! part RU -/
section
local macro_rules | `(tactic| walk_at "pad") => `(tactic| skip)
theorem Mine.rstRU : True := by
  w_top off
  trivial
open PySem PySem.Spec PySem.Calls PySem.W PyProof.Rows PyProof.V
set_option maxRecDepth 100000
set_option maxHeartbeats 4000000
namespace Mine
local macro_rules | `(tactic| k_mem) => `(tactic| assumption)
local macro_rules | `(tactic| k_all) => `(tactic| assumption)
local macro_rules | `(tactic| walk_at "getMethod ref") => `(tactic| (k_here; k_dflt (refine' method_fnG ?X ?I ?a canon_list_ga ?b ?c ?d ?e ?_; (case X => k_in); (case I => exact inst_row (by k_asm) (by k_mem) (by k_mem)); (case a => k_is); (case b => k_is); (case c => k_is); (case d => k_is); (case e => with_unfolding_all rfl); k_whole)))
local macro_rules | `(tactic| k_all) => `(tactic| first | assumption | exact ne_all_low (by assumption) (by omega))
noncomputable def stG (p : Params) : { x : Stmt // nth (bodyAt p 293) 4 = x } := by
  refine ⟨?a, ?b⟩
  rotate_left
  conv => lhs; whnf
section
variable {w : World} {loose : List Str} {mean : ExcName → Option Value} {mg mb : Str → Option Value}
  {dp un : Nat} {gd : Option (List Code)} {a : Addr} {ccd : Value} {A₀ : Around} {h₀ : Heap} {L : Addr} {s : Shared} {Q : Flow → Shared → Prop} {E : Value → Shared → Prop} {mz : Str → Option Value}
  {B wl : Addr} {bo oc : Obj} {v0 : Option Value} {cst : List (Addr × Obj)} {bk : Nat → List Nat} {wvs : List Value} {nw : Nat} {name other place books : Option Value}

theorem segG {bl fl : Addr} {x1 x2 : Value} {b0 b1 b2 b3 b4 f0 f1 f2 f3 f4 : Nat} {t0 t1 t2 t3 t4 u0 u1 u2 u3 u4 : Tok} {nf nb : Nat} (F : Fr h₀ L s.heap (lm name other (some (.ref wl)) place (some (.ref bl)) (fz (some (.ref fl)) mz)))
    (BB : Below A₀ h₀ [] h₀) (X : (Mine.hd.heap_39 w.params).In h₀) (T : Top Mine.hd.view_39 loose mean mg mb h₀) (hE : PassesOwn (model Challenge.rw_xg0075_01.row.prog w) (ktrTop dp un gd (Str.ofString "law") (scL w.params).1 L a ccd (cellsFrom (L + 1) (scL w.params).1.names []) []) (envX (Str.ofString "law") (scL w.params).1 L a ccd (cellsFrom (L + 1) (scL w.params).1.names [])) E)
    (hd : dp + 40 < recursionLimit) (hu : un + 700 < cLine)
    (N : News h₀ L s.heap cst) (mw : (wl, lstO [.int b0 t0, .int b1 t1, .int b2 t2, .int b3 t3, .int b4 t4] nw) ∈ cst) (mf : (fl, lstO [.int f0 u0, .int f1 u1, .int f2 u2, .int f3 u3, .int f4 u4] nf) ∈ cst) (mbl : (bl, lstO [x1, x2] nb) ∈ cst)
    (c0 : f0 < 5) (c1 : f1 < 5) (c2 : f2 < 5) (c3 : f3 < 5) (c4 : f4 < 5)
    (hx : gal f0 f1 f2 f3 f4 = false → x1 = .none ∧ x2 = .none) (hs5 : b0 + b1 + b2 + b3 + b4 = f0 + f1 + f2 + f3 + f4)
    (hno : gal f0 f1 f2 f3 f4 = false → ∀ (news' : List (Addr × Obj)) (h' : Heap) (tk' : Nat), Fr h₀ L h' (lm name other (some (.ref wl)) place (some (.ref bl)) (fz (some (.ref fl)) mz)) → News h₀ L h' news' → Q (.ret (.bool true)) { s with heap := h', toks := tk' })
    (hret : gal f0 f1 f2 f3 f4 = true → ∀ (h' : Heap) (tk' : Nat), Fr h₀ L h' (lm name other (some (.ref wl)) place (some (.ref bl)) (fz (some (.ref fl)) mz)) → News h₀ L h' cst → Q .next { s with heap := h', toks := tk' }) :
    wpAny (model Challenge.rw_xg0075_01.row.prog w) (ktrTop dp un gd (Str.ofString "law") (scL w.params).1 L a ccd (cellsFrom (L + 1) (scL w.params).1.names []) []) (exec (stG w.params).1 (envX (Str.ofString "law") (scL w.params).1 L a ccd (cellsFrom (L + 1) (scL w.params).1.names []))) Q E s := by
  dsimp only [stG, scL] at hE ⊢
  iterate 1 walk1
  k_dflt (refine' segT F BB X T hE hd hu N mw mf c0 c1 c2 c3 c4 hs5 ?_ ?_)
  · intro hg h1 tk1 F1 N1
    obtain ⟨rfl, rfl⟩ := hx hg
    clear F N
    k_whole
    iterate 12 walk1
    rename Fr _ _ _ _ => F2
    rename News _ _ _ _ => N2
    refine eq_dataH_same (reads_newData ⟨_, (N2 _ (.tail _ mbl)).1, rfl, _, rfl⟩ (.cons .none (.cons .none .nil))) (reads_newData ⟨_, (N2 _ (.head _)).1, rfl, _, rfl⟩ (.cons .none (.cons .none .nil))) (by decide) (by decide) (by ktr_room) (by decide) ?_
    exact hno hg _ _ _ F2 N2
  · intro hg h1 tk1 F1 N1
    clear F N
    k_whole
    iterate 2 walk1
    exact hret hg _ _ F1 N1
end
end Mine
end
/-! part RV -/
section
theorem Mine.rstRV : True := by
  w_top off
  trivial
open PySem PySem.Spec PySem.Calls PySem.W PyProof.Rows PyProof.V
set_option maxRecDepth 100000
set_option maxHeartbeats 4000000
namespace Mine
local macro_rules | `(tactic| k_mem) => `(tactic| assumption)
local macro_rules | `(tactic| k_all) => `(tactic| assumption)
local macro_rules | `(tactic| walk_at "getMethod ref") => `(tactic| (k_here; k_dflt (refine' method_fnG ?X ?I ?a canon_list_ga ?b ?c ?d ?e ?_; (case X => k_in); (case I => exact inst_row (by k_asm) (by k_mem) (by k_mem)); (case a => k_is); (case b => k_is); (case c => k_is); (case d => k_is); (case e => with_unfolding_all rfl); k_whole)))
local macro_rules | `(tactic| k_all) => `(tactic| first | assumption | exact ne_all_low (by assumption) (by omega))
noncomputable def bd5 (p : Params) : { x : List Stmt // (bodyAt p 293).drop 5 = x } := by
  refine ⟨?a, ?b⟩
  rotate_left
  conv => lhs; whnf
section
variable {w : World} {loose : List Str} {mean : ExcName → Option Value} {mg mb : Str → Option Value}
  {dp un : Nat} {gd : Option (List Code)} {a : Addr} {ccd : Value} {A₀ : Around} {h₀ : Heap} {L : Addr} {s : Shared} {Q : Flow → Shared → Prop} {E : Value → Shared → Prop} {mz : Str → Option Value}
  {B wl : Addr} {bo oc : Obj} {v0 : Option Value} {cst : List (Addr × Obj)} {bk : Nat → List Nat} {wvs : List Value} {nw : Nat} {name other place books : Option Value}

theorem tail5 {bl B1 B2 : Addr} {bo1 bo2 : Obj} {bk1 bk2 : Nat → List Nat} {nb pl : Nat} {tp : Tok} (F : Fr h₀ L s.heap (lm name other (some (.ref wl)) (some (.int pl tp)) (some (.ref bl)) mz))
    (BB : Below A₀ h₀ [] h₀) (X : (Mine.hd.heap_39 w.params).In h₀) (T : Top Mine.hd.view_39 loose mean mg mb h₀) (hE : PassesOwn (model Challenge.rw_xg0075_01.row.prog w) (ktrTop dp un gd (Str.ofString "law") (scL w.params).1 L a ccd (cellsFrom (L + 1) (scL w.params).1.names []) []) (envX (Str.ofString "law") (scL w.params).1 L a ccd (cellsFrom (L + 1) (scL w.params).1.names [])) E)
    (hd : dp + 40 < recursionLimit) (hu : un + 700 < cLine)
    (N : News h₀ L s.heap ((L + 1, oc) :: cst)) (offc : ∀ p ∈ cst, p.1 ≠ L + 1) (dc : oc.data = .cell v0) (mbl : (bl, lstO [.ref B1, .ref B2] nb) ∈ cst) (mB1 : (B1, bo1) ∈ cst) (mB2 : (B2, bo2) ∈ cst) (BK1 : BookIs w cst bo1 bk1) (BK2 : BookIs w cst bo2 bk2)
    (mw : (wl, lstO wvs nw) ∈ cst) (hw1 : IntsAre wvs ((List.range 5).map fun (k : Nat) => ((bk1 k).length : Int))) (hlt1 : ∀ k, (bk1 k).length < 100) (hw2 : IntsAre wvs ((List.range 5).map fun (k : Nat) => ((bk2 k).length : Int))) (hlt2 : ∀ k, (bk2 k).length < 100)
    (hsym1 : ∀ k < 5, ∀ j ∈ bk1 k, j < 5 ∧ k ∈ bk1 j) (hsym2 : ∀ k < 5, ∀ j ∈ bk2 k, j < 5 ∧ k ∈ bk2 j) (hR1 : RightP pl bk1 5 [0, 1, 2, 3, 4]) (hR2 : RightP 0 bk2 5 [0, 1, 2, 3, 4])
    (hret : ∀ (m' : Str → Option Value) (news' : List (Addr × Obj)) (h' : Heap) (tk' : Nat), Fr h₀ L h' m' → News h₀ L h' news' → Q (.ret (.bool true)) { s with heap := h', toks := tk' }) :
    wpAny (model Challenge.rw_xg0075_01.row.prog w) (ktrTop dp un gd (Str.ofString "law") (scL w.params).1 L a ccd (cellsFrom (L + 1) (scL w.params).1.names []) []) (execs (bd5 w.params).1 (envX (Str.ofString "law") (scL w.params).1 L a ccd (cellsFrom (L + 1) (scL w.params).1.names []))) Q E s := by
  dsimp only [bd5, scL] at hE ⊢
  have mbl' := List.Mem.tail (L + 1, oc) mbl
  iterate 7 walk1
  k_dflt (refine' kim_list (l := [.ref B1, .ref B2]) ?zN mbl' rfl rfl (by decide) (by decide) rfl ?_)
  case zN => assumption
  k_whole
  iterate 9 walk1
  k_dflt (refine' kim_list (l := [.ref B1, .ref B2]) ?zN mbl' rfl rfl (by decide) (by decide) rfl ?_)
  case zN => assumption
  k_whole
  iterate 9 walk1
  k_dflt (refine segL (place := some (.int pl tp)) F BB X T hE hd hu N offc dc mbl mB1 mB2 BK1 BK2 mw hw1 hlt1 hw2 hlt2 hsym1 hsym2 ?_)
  clear F N
  intro name4 other4 oc4 h4 tk4 F4 N4
  k_whole
  iterate 10 walk1
  iterate 0 walk1
  k_dflt (refine' kim_list (l := [.ref B1, .ref B2]) ?zN (.tail _ mbl) rfl rfl (by decide) (by decide) rfl ?_)
  case zN => assumption
  k_whole
  iterate 4 walk1
  k_dflt (refine' right_spec (B := B1) (bo := bo1) (bk := bk1) (place := pl) ?zB ?zF ?zX ?zN ?zT ?zK (.tail _ mB1) (BK1.mono fun p hp => .tail _ hp) hR1 ?zd ?zu ?_)
  case zB => exact BB
  case zF => exact F4
  case zX => exact X
  case zN => exact N4
  case zT => exact T
  case zK => rfl
  case zd => ktr_room
  case zu => ktr_room
  intro h5 tk5 F5 N5
  clear F4 N4
  k_whole
  iterate 10 walk1
  k_dflt (refine' kim_list (l := [.ref B1, .ref B2]) ?zN (.tail _ mbl) rfl rfl (by decide) (by decide) rfl ?_)
  case zN => assumption
  k_whole
  iterate 4 walk1
  k_dflt (refine' right_spec (B := B2) (bo := bo2) (bk := bk2) (place := 0) ?zB ?zF ?zX ?zN ?zT ?zK (.tail _ mB2) (BK2.mono fun p hp => .tail _ hp) hR2 ?zd ?zu ?_)
  case zB => exact BB
  case zF => exact F5
  case zX => exact X
  case zN => exact N5
  case zT => exact T
  case zK => rfl
  case zd => ktr_room
  case zu => ktr_room
  intro h6 tk6 F6 N6
  exact hret _ _ _ _ F6 N6
end
end Mine
end
/-! part P8 -/
section
theorem Mine.rstP8 : True := by
  w_top off
  trivial
open PySem PySem.Spec PySem.Calls PySem.W PyProof.Rows PyProof.V
set_option maxRecDepth 100000
namespace Mine
theorem book_facts {side : Int} (hs : side = 1 ∨ side = -1) {pl b0 b1 b2 b3 b4 : Nat} (c0 : b0 < 5) (c1 : b1 < 5) (c2 : b2 < 5) (c3 : b3 < 5) (c4 : b4 < 5) {bk : Nat → List Nat}
    (h : runF side pl 5 [(b0, 0), (b1, 1), (b2, 2), (b3, 3), (b4, 4)] (fun _ => []) = some bk) :
    ((List.range 5).map fun (k : Nat) => ((bk k).length : Int)) = [(b0 : Int), b1, b2, b3, b4] ∧ (∀ k, (bk k).length < 100) ∧ (∀ k < 5, ∀ j ∈ bk k, j < 5 ∧ k ∈ bk j) ∧ RightP pl bk 5 [0, 1, 2, 3, 4] := by
  obtain ⟨ext, he, X⟩ := ext_of hs pl 5 [(b0, 0), (b1, 1), (b2, 2), (b3, 3), (b4, 4)] _ _ rfl (by show ([0, 1, 2, 3, 4] : List Nat).Pairwise (· < ·); decide) h
  obtain rfl : bk = ext := funext fun k => he k
  have l0 : (bk 0).length = b0 := X.len (b0, 0) (.head _)
  have l1 : (bk 1).length = b1 := X.len (b1, 1) (.tail _ (.head _))
  have l2 : (bk 2).length = b2 := X.len (b2, 2) (.tail _ (.tail _ (.head _)))
  have l3 : (bk 3).length = b3 := X.len (b3, 3) (.tail _ (.tail _ (.tail _ (.head _))))
  have l4 : (bk 4).length = b4 := X.len (b4, 4) (.tail _ (.tail _ (.tail _ (.tail _ (.head _)))))
  refine ⟨?_, fun k => ?_, fun k _ j hj => ⟨?_, X.sym k j hj⟩, X.right⟩
  · show [((bk 0).length : Int), (bk 1).length, (bk 2).length, (bk 3).length, (bk 4).length] = _
    rw [l0, l1, l2, l3, l4]
  · match k with
    | 0 => omega
    | 1 => omega
    | 2 => omega
    | 3 => omega
    | 4 => omega
    | k + 5 =>
      rw [X.out (k + 5) (by simp)]
      decide
  · have := X.mem k j hj
    simp only [List.map_cons, List.map_nil, List.mem_cons, List.not_mem_nil, or_false] at this
    omega
theorem runs_ok {side : Int} (hs : side = 1 ∨ side = -1) (pl : Nat) {b0 b1 b2 b3 b4 : Nat} (c0 : b0 < 5) (c1 : b1 < 5) (c2 : b2 < 5) (c3 : b3 < 5) (c4 : b4 < 5) :
    (runF side pl 5 [(b0, 0), (b1, 1), (b2, 2), (b3, 3), (b4, 4)] (fun _ => [])).isSome = okP [b0, b1, b2, b3, b4] := by
  refine run_ok hs pl 5 _ _ rfl (by decide) (fun p hp => ?_) (by show ([0, 1, 2, 3, 4] : List Nat).Nodup; decide)
  simp only [List.mem_cons, List.not_mem_nil, or_false] at hp
  rcases hp with rfl | rfl | rfl | rfl | rfl <;> assumption
/-- what a call of _law_book gives -/
def Res (w : World) (cst : List (Addr × Obj)) (r : Option (Nat → List Nat)) (v : Value) : Prop :=
  (r = none ∧ v = .none) ∨ ∃ bk D bo, r = some bk ∧ v = .ref D ∧ (D, bo) ∈ cst ∧ BookIs w cst bo bk
theorem Res.mono {w : World} {cst cst' : List (Addr × Obj)} {r : Option (Nat → List Nat)} {v : Value} (hs : ∀ p ∈ cst, p ∈ cst') (h : Res w cst r v) : Res w cst' r v := by
  rcases h with h | ⟨bk, D, bo, e1, e2, m, B⟩
  · exact .inl h
  · exact .inr ⟨bk, D, bo, e1, e2, hs _ m, B.mono hs⟩
/-- what is kept beside a cell -/
def beside (c : Nat) (cst : List (Addr × Obj)) : List (Addr × Obj) := cst.filter fun q => !Nat.beq q.1 c
theorem beside_sub {c : Nat} {cst : List (Addr × Obj)} : ∀ p ∈ beside c cst, p ∈ cst := fun _ hp => (List.mem_filter.mp hp).1
theorem beside_off {c : Nat} {cst : List (Addr × Obj)} : ∀ p ∈ beside c cst, p.1 ≠ c := fun p hp e => by
  have := (List.mem_filter.mp hp).2
  rw [show Nat.beq p.1 c = true from Nat.beq_eq.mpr e] at this
  cases this
theorem beside_mem {h₀ h : Heap} {L : Addr} {cst : List (Addr × Obj)} {c : Nat} {oc : Obj} {v0 : Option Value} (N : News h₀ L h cst) (hc : (c, oc) ∈ cst) (dc : oc.data = .cell v0) {p : Addr × Obj} (hp : p ∈ cst) (hd : ∀ v, p.2.data ≠ .cell v) : p ∈ beside c cst := by
  refine List.mem_filter.mpr ⟨hp, ?_⟩
  cases e : Nat.beq p.1 c with
  | false => rfl
  | true =>
    have e : p.1 = c := Nat.eq_of_beq_eq_true e
    have h1 := (N _ hp).1
    have h2 := (N _ hc).1
    rw [e] at h1
    have h2 : h.get? c = some oc := h2
    rw [h1] at h2
    exact absurd ((Option.some.inj h2) ▸ dc) (hd _)
theorem dict_nocell {w : World} {o : Obj} {kvs : List (Str × Value)} (h : o.IsDictOf (PySem.strKind Challenge.rw_xg0075_01.row.prog w) kvs) : ∀ v, o.data ≠ .cell v := by
  intro v e
  unfold Obj.IsDictOf at h
  simp [e] at h
theorem Res.beside {w : World} {h₀ h : Heap} {L : Addr} {cst : List (Addr × Obj)} {c : Nat} {oc : Obj} {v0 : Option Value} (N : News h₀ L h cst) (hc : (c, oc) ∈ cst) (dc : oc.data = .cell v0) {r : Option (Nat → List Nat)} {v : Value} (R : Res w cst r v) : Res w (beside c cst) r v := by
  rcases R with R | ⟨bk, D, bo, e1, e2, m, kvs, hk, h5, f⟩
  · exact .inl R
  · refine .inr ⟨bk, D, bo, e1, e2, beside_mem N hc dc m (dict_nocell hk), kvs, hk, h5, fun k hk5 => ?_⟩
    obtain ⟨D', o, kv, a1, a2, a3, a4, a5⟩ := f k hk5
    exact ⟨D', o, kv, a1, beside_mem N hc dc a2 (dict_nocell a4), a3, a4, a5⟩
end Mine
end
/-! part RX -/
section
local macro_rules | `(tactic| walk_at "pad") => `(tactic| skip)
theorem Mine.rstRX : True := by
  w_top off
  trivial
open PySem PySem.Spec PySem.Calls PySem.W PyProof.Rows PyProof.V
set_option maxRecDepth 100000
set_option maxHeartbeats 4000000
namespace Mine
local macro_rules | `(tactic| k_mem) => `(tactic| assumption)
local macro_rules | `(tactic| k_all) => `(tactic| assumption)
local macro_rules | `(tactic| walk_at "getMethod ref") => `(tactic| (k_here; k_dflt (refine' method_fnG ?X ?I ?a canon_list_ga ?b ?c ?d ?e ?_; (case X => k_in); (case I => exact inst_row (by k_asm) (by k_mem) (by k_mem)); (case a => k_is); (case b => k_is); (case c => k_is); (case d => k_is); (case e => with_unfolding_all rfl); k_whole)))
local macro_rules | `(tactic| k_all) => `(tactic| first | assumption | exact ne_all_low (by assumption) (by omega))
section
variable {w : World} {loose : List Str} {mean : ExcName → Option Value} {mg mb : Str → Option Value}
  {dp un : Nat} {gd : Option (List Code)} {cn : Str} {cs : Scope} {a : Addr} {ccd : Value} {cl : List (Str × Addr)} {A₀ : Around} {base h₀ : Heap} {L : Addr} {m : Str → Option Value} {s : Shared} {Q E : Value → Shared → Prop} {news : List (Addr × Obj)}

theorem book_x {wl : Addr} {b0 b1 b2 b3 b4 : Nat} {t0 t1 t2 t3 t4 tp ts : Tok} {n : Nat} {place : Nat} {side : Int}
    (B : Below A₀ base [] h₀) (F : Fr h₀ L s.heap m) (X : (Mine.hd.heap_39 w.params).In h₀) (N : News h₀ L s.heap news) (T : Top Mine.hd.view_39 loose mean mg mb h₀) (hK : cs.kind = .function) (XB : (Mine.hd.heap_39 w.params).In base) (TB : Top Mine.hd.view_39 loose mean mg mb base)
    (m0 : (wl, lstO [.int b0 t0, .int b1 t1, .int b2 t2, .int b3 t3, .int b4 t4] n) ∈ news)
    (c0 : b0 < 5) (c1 : b1 < 5) (c2 : b2 < 5) (c3 : b3 < 5) (c4 : b4 < 5) (hd : dp + 28 < recursionLimit) (hu : un + 464 < cLine) (hsl : -1 ≤ side) (hsu : side ≤ 1)
    (hret : ∀ (v : Value) (cst : List (Addr × Obj)) (h' : Heap) (tk' : Nat), Fr h₀ L h' m → News h₀ L h' cst → (∀ p ∈ news, p ∈ cst) → Res w cst (runF side place 5 [(b0, 0), (b1, 1), (b2, 2), (b3, 3), (b4, 4)] (fun _ => [])) v → Q v { s with heap := h', toks := tk' }) :
    wpAny (model Challenge.rw_xg0075_01.row.prog w) (ktrTop dp un gd cn cs L a ccd cl []) (call (.ref 278) [.ref wl, .int place tp, .int side ts]) Q E s := by
  refine book_spec B F X N T hK XB TB m0 (by omega) (by omega) (by omega) (by omega) (by omega) hd hu hsl hsu ?_ ?_
  · intro hn h' tk' F' N'
    exact hret _ _ _ _ F' N' (fun _ hp => hp) (.inl ⟨hn, rfl⟩)
  · intro bk D bo cst h' tk' hr F' N' hs BK
    exact hret _ _ _ _ F' N' (fun p hp => .tail _ (hs p hp)) (.inr ⟨bk, D, bo, hr, rfl, .head _, BK.mono fun p hp => .tail _ hp⟩)
end
noncomputable def stB (p : Params) : { x : Stmt // nth (bodyAt p 293) 2 = x } := by
  refine ⟨?a, ?b⟩
  rotate_left
  conv => lhs; whnf
theorem lm_books {u1 u2 u3 u4 u5 v : Option Value} {mz : Str → Option Value} : (fun z => if z = Str.ofString "books" then v else lm u1 u2 u3 u4 u5 mz z) = lm u1 u2 u3 u4 v mz := by
  funext y
  by_cases e1 : y = Str.ofString "books"
  · subst e1; with_unfolding_all rfl
  simp only [lm, e1, if_false]
section
variable {w : World} {loose : List Str} {mean : ExcName → Option Value} {mg mb : Str → Option Value}
  {dp un : Nat} {gd : Option (List Code)} {a : Addr} {ccd : Value} {A₀ : Around} {h₀ : Heap} {L : Addr} {s : Shared} {Q : Flow → Shared → Prop} {E : Value → Shared → Prop} {mz : Str → Option Value}
  {B wl : Addr} {bo oc : Obj} {v0 : Option Value} {cst : List (Addr × Obj)} {bk : Nat → List Nat} {wvs : List Value} {nw : Nat} {name other place books : Option Value}

theorem segBk {b0 b1 b2 b3 b4 pl : Nat} {t0 t1 t2 t3 t4 tp : Tok} (F : Fr h₀ L s.heap (lm name other (some (.ref wl)) (some (.int pl tp)) books mz))
    (BB : Below A₀ h₀ [] h₀) (X : (Mine.hd.heap_39 w.params).In h₀) (T : Top Mine.hd.view_39 loose mean mg mb h₀) (hE : PassesOwn (model Challenge.rw_xg0075_01.row.prog w) (ktrTop dp un gd (Str.ofString "law") (scL w.params).1 L a ccd (cellsFrom (L + 1) (scL w.params).1.names []) []) (envX (Str.ofString "law") (scL w.params).1 L a ccd (cellsFrom (L + 1) (scL w.params).1.names [])) E)
    (hd : dp + 40 < recursionLimit) (hu : un + 700 < cLine)
    (N : News h₀ L s.heap cst) (mw : (wl, lstO [.int b0 t0, .int b1 t1, .int b2 t2, .int b3 t3, .int b4 t4] nw) ∈ cst)
    (c0 : b0 < 5) (c1 : b1 < 5) (c2 : b2 < 5) (c3 : b3 < 5) (c4 : b4 < 5)
    (hret : ∀ (bl : Addr) (v1 v2 : Value) (nb : Nat) (cst' : List (Addr × Obj)) (h' : Heap) (tk' : Nat), Fr h₀ L h' (lm name other (some (.ref wl)) (some (.int pl tp)) (some (.ref bl)) mz) → News h₀ L h' cst' → (∀ p ∈ cst, p ∈ cst') → (bl, lstO [v1, v2] nb) ∈ cst' →
      Res w cst' (runF 1 pl 5 [(b0, 0), (b1, 1), (b2, 2), (b3, 3), (b4, 4)] (fun _ => [])) v1 → Res w cst' (runF (-1) 0 5 [(b0, 0), (b1, 1), (b2, 2), (b3, 3), (b4, 4)] (fun _ => [])) v2 → Q .next { s with heap := h', toks := tk' }) :
    wpAny (model Challenge.rw_xg0075_01.row.prog w) (ktrTop dp un gd (Str.ofString "law") (scL w.params).1 L a ccd (cellsFrom (L + 1) (scL w.params).1.names []) []) (exec (stB w.params).1 (envX (Str.ofString "law") (scL w.params).1 L a ccd (cellsFrom (L + 1) (scL w.params).1.names []))) Q E s := by
  dsimp only [stB, scL] at hE ⊢
  iterate 14 walk1
  k_dflt (refine' book_x (place := pl) (side := 1) ?zB ?zF ?zX ?zN ?zT ?zK X T mw c0 c1 c2 c3 c4 ?zd ?zu ?zl ?zm ?_)
  case zB => exact BB
  case zF => exact F
  case zX => exact X
  case zN => exact N
  case zT => exact T
  case zK => rfl
  case zd => ktr_room
  case zu => ktr_room
  case zl => decide
  case zm => decide
  intro v1 cst1 h1 tk1 F1 N1 hs1 R1
  clear F N
  k_whole
  iterate 14 walk1
  k_dflt (refine' book_x (place := 0) (side := -1) ?zB ?zF ?zX ?zN ?zT ?zK X T (hs1 _ mw) c0 c1 c2 c3 c4 ?zd ?zu ?zl ?zm ?_)
  case zB => exact BB
  case zF => exact F1
  case zX => exact X
  case zN => exact N1
  case zT => exact T
  case zK => rfl
  case zd => ktr_room
  case zu => ktr_room
  case zl => decide
  case zm => decide
  intro v2 cst2 h2 tk2 F2 N2 hs2 R2
  clear F1 N1
  k_whole
  iterate 3 walk1
  rename Fr _ _ _ _ => F3
  rename News _ _ _ _ => N3
  exact hret _ v1 v2 0 _ _ _ (Eq.mp (congrArg (Fr h₀ L _) lm_books) F3) N3 (fun p hp => .tail _ (hs2 _ (hs1 _ hp))) (.head _) (R1.mono fun p hp => .tail _ (hs2 _ hp)) (R2.mono fun p hp => .tail _ hp)
end
end Mine
end
/-! part RZ -/
section
theorem Mine.rstRZ : True := by
  w_top off
  trivial
open PySem PySem.Spec PySem.Calls PySem.W PyProof.Rows PyProof.V
set_option maxRecDepth 100000
set_option maxHeartbeats 4000000
namespace Mine
local macro_rules | `(tactic| k_mem) => `(tactic| assumption)
local macro_rules | `(tactic| k_all) => `(tactic| assumption)
local macro_rules | `(tactic| walk_at "getMethod ref") => `(tactic| (k_here; k_dflt (refine' method_fnG ?X ?I ?a canon_list_ga ?b ?c ?d ?e ?_; (case X => k_in); (case I => exact inst_row (by k_asm) (by k_mem) (by k_mem)); (case a => k_is); (case b => k_is); (case c => k_is); (case d => k_is); (case e => with_unfolding_all rfl); k_whole)))
local macro_rules | `(tactic| k_all) => `(tactic| first | assumption | exact ne_all_low (by assumption) (by omega))
theorem lm_start {wv pv : Option Value} {b : Str → Option Value} (hn : b (Str.ofString "name") = none) (ho : b (Str.ofString "other") = none) (hb : b (Str.ofString "books") = none) :
    (fun z => if z = Str.ofString "place" then pv else if z = Str.ofString "wishes" then wv else b z) = lm none none wv pv none b := by
  funext y
  by_cases e1 : y = Str.ofString "name"
  · subst e1
    show b _ = none
    exact hn
  by_cases e2 : y = Str.ofString "other"
  · subst e2
    show b _ = none
    exact ho
  by_cases e3 : y = Str.ofString "books"
  · subst e3
    show b _ = none
    exact hb
  by_cases e4 : y = Str.ofString "place"
  · subst e4; with_unfolding_all rfl
  simp only [lm, e1, e2, e3, e4, if_false]
section
open PyProof.Rows.LCg PyProof.Rows.LCp PyProof.Rows.LCt
variable {w : World} {loose : List Str} {mean : ExcName → Option Value} {mg mb : Str → Option Value}
  {dp un : Nat} {gd : Option (List Code)} {a : Addr} {ccd : Value} {A₀ : Around} {h₀ : Heap} {L : Addr} {s : Shared} {Q : Flow → Shared → Prop} {E : Value → Shared → Prop} {mz : Str → Option Value}
  {B wl : Addr} {bo oc : Obj} {v0 : Option Value} {cst : List (Addr × Obj)} {bk : Nat → List Nat} {wvs : List Value} {nw : Nat} {name other place books : Option Value}

theorem law_body {sl : Addr} {vs : List Value} {ns : List Int} (F : Fr h₀ L s.heap (bindL (envX (Str.ofString "law") (scL w.params).1 L a ccd (cellsFrom (L + 1) (scL w.params).1.names [])).kindOf [(Str.ofString "script", .ref sl)] fun _ => none))
    (BB : Below A₀ h₀ [] h₀) (X : (Mine.hd.heap_39 w.params).In h₀) (T : Top Mine.hd.view_39 loose mean mg mb h₀) (hE : PassesOwn (model Challenge.rw_xg0075_01.row.prog w) (ktrTop dp un gd (Str.ofString "law") (scL w.params).1 L a ccd (cellsFrom (L + 1) (scL w.params).1.names []) []) (envX (Str.ofString "law") (scL w.params).1 L a ccd (cellsFrom (L + 1) (scL w.params).1.names [])) E)
    (hd : dp + 40 < recursionLimit) (hu : un + 700 < cLine)
    (N : News h₀ L s.heap [(L + 1, oc)]) (dc : oc.data = .cell v0) (hS : h₀.IsList sl vs.toArray) (hI : IntsAre vs ns) (hlen : ns.length ≤ 63)
    (hret : ∀ (m' : Str → Option Value) (news' : List (Addr × Obj)) (h' : Heap) (tk' : Nat), Fr h₀ L h' m' → News h₀ L h' news' → Q (.ret (.bool true)) { s with heap := h', toks := tk' }) :
    wpAny (model Challenge.rw_xg0075_01.row.prog w) (ktrTop dp un gd (Str.ofString "law") (scL w.params).1 L a ccd (cellsFrom (L + 1) (scL w.params).1.names []) []) (execs (bdL w.params).1 (envX (Str.ofString "law") (scL w.params).1 L a ccd (cellsFrom (L + 1) (scL w.params).1.names []))) Q E s := by
  dsimp only [bdL, scL] at hE F ⊢
  iterate 9 walk1
  k_dflt (refine' wishes_spec ?zB ?zF ?zX ?zN ?zT ?zK hS hI hlen ?zd ?zu ?_)
  case zB => exact BB
  case zF => exact F
  case zX => exact X
  case zN => exact N
  case zT => exact T
  case zK => rfl
  case zd => ktr_room
  case zu => ktr_room
  intro wl b0 b1 b2 b3 b4 t0 t1 t2 t3 t4 nw h1 tk1 c0 c1 c2 c3 c4 F1 N1 ow
  k_whole
  iterate 21 walk1
  obtain ⟨pl, hpl⟩ : ∃ pl : Nat, (List.take 60 ns).sum.fmod 60 = (pl : Int) := ⟨((List.take 60 ns).sum.fmod 60).toNat, (Int.toNat_of_nonneg (Int.fmod_nonneg_of_pos _ (by decide))).symm⟩
  rw [hpl]
  clear hpl
  iterate 3 walk1
  rename Fr _ _ _ _ => F2
  rename News _ _ _ _ => N2
  have mz1 : bindL (envX (Str.ofString "law") (scL w.params).1 L a ccd (cellsFrom (L + 1) (scL w.params).1.names [])).kindOf [(Str.ofString "script", .ref sl)] (fun _ => none) (Str.ofString "name") = none := by with_unfolding_all rfl
  have mz2 : bindL (envX (Str.ofString "law") (scL w.params).1 L a ccd (cellsFrom (L + 1) (scL w.params).1.names [])).kindOf [(Str.ofString "script", .ref sl)] (fun _ => none) (Str.ofString "other") = none := by with_unfolding_all rfl
  have mz3 : bindL (envX (Str.ofString "law") (scL w.params).1 L a ccd (cellsFrom (L + 1) (scL w.params).1.names [])).kindOf [(Str.ofString "script", .ref sl)] (fun _ => none) (Str.ofString "books") = none := by with_unfolding_all rfl
  generalize hbm : bindL (envX (Str.ofString "law") (scL w.params).1 L a ccd (cellsFrom (L + 1) (scL w.params).1.names [])).kindOf [(Str.ofString "script", .ref sl)] (fun _ => none) = bm at mz1 mz2 mz3
  have F3 := Eq.mp (congrArg (Fr h₀ L _) (lm_start (b := bm) mz1 mz2 mz3)) (by rw [← hbm]; exact F2)
  clear F2
  k_dflt (refine segBk F3 BB X T hE hd hu N2 (.tail _ (.head _)) c0 c1 c2 c3 c4 ?_)
  clear F3
  intro bl v1 v2 nb cst3 h3 tk3 F3 N3 hs3 mbl R1 R2
  k_whole
  iterate 1 walk1
  k_dflt (refine segF F3 BB X T hE hd hu N3 (hs3 _ (.tail _ (.head _))) ?_)
  intro fl f0 f1 f2 f3 f4 u0 u1 u2 u3 u4 nf h4 tk4 F4 N4 hpf o1 o2 o3 o4
  k_whole
  have hf5 : ∀ x ∈ [f0, f1, f2, f3, f4], x < 5 := fun x hx => by
    have := hpf.mem_iff.mp hx
    simp only [List.mem_cons, List.not_mem_nil, or_false] at this
    omega
  have d0 : f0 < 5 := hf5 _ (.head _)
  have d1 : f1 < 5 := hf5 _ (.tail _ (.head _))
  have d2 : f2 < 5 := hf5 _ (.tail _ (.tail _ (.head _)))
  have d3 : f3 < 5 := hf5 _ (.tail _ (.tail _ (.tail _ (.head _))))
  have d4 : f4 < 5 := hf5 _ (.tail _ (.tail _ (.tail _ (.tail _ (.head _)))))
  have hs5 : b0 + b1 + b2 + b3 + b4 = f0 + f1 + f2 + f3 + f4 := by
    have := hpf.sum_nat
    simp only [List.sum_cons, List.sum_nil] at this
    omega
  have hok : gal f0 f1 f2 f3 f4 = okP [b0, b1, b2, b3, b4] := (okP_gal d0 d1 d2 d3 d4 o1 o2 o3 o4).symm.trans (okP_perm hpf)
  have q1 := runs_ok (side := 1) (.inl rfl) pl c0 c1 c2 c3 c4
  have q2 := runs_ok (side := -1) (.inr rfl) 0 c0 c1 c2 c3 c4
  rw [← hok] at q1 q2
  iterate 1 walk1
  k_dflt (refine segG F4 BB X T hE hd hu N4 (.tail _ (hs3 _ (.tail _ (.head _)))) (.head _) (.tail _ mbl) d0 d1 d2 d3 d4 ?_ hs5 (fun _ news' h' tk' F' N' => hret _ news' h' tk' F' N') ?_)
  · intro hg
    rw [hg] at q1 q2
    constructor
    · rcases R1 with ⟨_, e⟩ | ⟨bk, D, bo, e, _⟩
      · exact e
      · rw [e] at q1; cases q1
    · rcases R2 with ⟨_, e⟩ | ⟨bk, D, bo, e, _⟩
      · exact e
      · rw [e] at q2; cases q2
  intro hg h5 tk5 F5 N5
  rw [hg] at q1 q2
  have hc : (L + 1, oc) ∈ (fl, lstO [.int f0 u0, .int f1 u1, .int f2 u2, .int f3 u3, .int f4 u4] nf) :: cst3 := .tail _ (hs3 _ (.tail _ (.tail _ (.head _))))
  have R1' := (R1.mono fun p hp => .tail _ hp).beside N5 hc dc
  have R2' := (R2.mono fun p hp => .tail _ hp).beside N5 hc dc
  rcases R1' with ⟨e, _⟩ | ⟨bk1, B1, bo1, e1, rfl, mB1, BK1⟩
  · rw [e] at q1; cases q1
  rcases R2' with ⟨e, _⟩ | ⟨bk2, B2, bo2, e2, rfl, mB2, BK2⟩
  · rw [e] at q2; cases q2
  obtain ⟨w1, l1, s1, r1⟩ := book_facts (.inl rfl) c0 c1 c2 c3 c4 e1
  obtain ⟨w2, l2, s2, r2⟩ := book_facts (.inr rfl) c0 c1 c2 c3 c4 e2
  have hi5 : IntsAre [.int b0 t0, .int b1 t1, .int b2 t2, .int b3 t3, .int b4 t4] [(b0 : Int), b1, b2, b3, b4] := .cons _ _ (.cons _ _ (.cons _ _ (.cons _ _ (.cons _ _ .nil))))
  have N6 : News h₀ L h5 ((L + 1, oc) :: beside (L + 1) ((fl, lstO [.int f0 u0, .int f1 u1, .int f2 u2, .int f3 u3, .int f4 u4] nf) :: cst3)) := fun p hp => by
    rcases List.mem_cons.mp hp with rfl | hp
    · exact N5 _ hc
    · exact N5 _ (beside_sub _ hp)
  k_whole
  k_dflt (refine tail5 F5 BB X T hE hd hu N6 beside_off dc (beside_mem N5 hc dc (.tail _ mbl) (fun v e => by cases e)) mB1 mB2 BK1 BK2 (beside_mem N5 hc dc (.tail _ (hs3 _ (.tail _ (.head _)))) (fun v e => by cases e)) (by rw [w1]; exact hi5) l1 (by rw [w2]; exact hi5) l2 s1 s2 r1 r2 ?_)
  exact fun m' news' h' tk' F' N' => hret m' news' h' tk' F' N'
end
end Mine
end
section
open PySem PySem.Spec PySem.Calls PySem.W PyProof.Rows PyProof.V
set_option maxRecDepth 100000
set_option maxHeartbeats 8000000
theorem Mine.said : PySem.Challenge.rw_xg0075_01.wellSaid = true := by
  rw [PySem.W.Fast.te9446332074065402090]
  kernel_rfl
theorem PySem.Challenge.cw_xg0075_01_holds : PySem.Challenge.rw_xg0075_01.Holds := by
  w_on
  refine holds_law Mine.said fun said => ?_
  refine holds_open (q := Mine.hd.view_39) (loose := ["_Accumulator", "Whitespace"]) (Xt := fun s => xlAt Mine.hd.view_39 [] s && recOk (RowW.records PySem.Challenge.rw_xg0075_01.row.toRowW) s) (XP := XL Mine.hd.view_39 []) (Yf := Hook.obs Mine.hd.hook) (Ya := Hook.val Mine.hd.hook) (YP := Hook.says Mine.hd.hook) (N := 3968)
    Mine.hd.left (Hook.of Mine.hd.hook) (Hook.keeps Mine.hd.hook) (fun s e => xl_of s (Bool.and_eq_true_iff.mp e).1) XL.keeps (by rfl) (by rfl) (by rfl) (fun s e => recFacts_of (Bool.and_eq_true_iff.mp e).2) (by rfl) (by first | assumption | decide +kernel) (by decide +kernel) ⟨rfl, rfl, rfl, rfl, rfl, by decide +kernel⟩ ?hw ?hc
  case hw => w_witness2
  case hc => w_strict (
    k_fill
    intro w s₀ s₁ mg mb G Y fa o pm cd doc dV kV ho hd hcd hD hmg hg args vals as hpre hlay hrd hwl hlo
    have KX := kIn_of Y
    refine Ground.open G ?_
    intro T B D TE TW
    try (refine guard_noD D (by decide +kernel) ?_; clear D)
    obtain ⟨_, _, M⟩ := bmod_of_top T
    have TA := at_of_top T
    try (obtain ⟨_, _, he, B0⟩ := based_of_top T rfl hmg ho hd; have he' : cd = _ := he; subst he'; clear he)
    clear hmg
    wrow_args hpre hlay hrd hwl hlo
    all_goals (
      refine enter_call ?_
      w_top on
      try refine codeAny_mono ?_ (fun _ _ g => GoodW.toG g)
      have K0 := below_caller (Top.heap T)
      w_call any ho hd hcd hD T F
      clear hd TA
      k_drop
      skip)
    rename Fr _ _ _ _ => hF
    rename News _ _ _ _ => hN
    rename Below _ _ _ _ => hB
    rename Frag.In _ _ => hX
    rename IntsAre _ _ => hI
    rename Heap.IsList _ _ _ => hL
    rename ¬ _ < _ => hC
    refine' Mine.law_body hF hB hX (by assumption) ?hE ?hd ?hu hN (by assumption) hL hI ?hl ?hr
    case hl => omega
    case hE => passes_own
    case hd => decide
    case hu => decide
    case hr =>
      intro m' news' h' tk' F' N'
      dsimp only
      refine goodW_bool F' (by assumption) (raisesW_false ?_) ?_
      · wrow_none_raised
      · kc_post)
end
