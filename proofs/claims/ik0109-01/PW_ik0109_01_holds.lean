import PyProof.Rows.All
import Wide.All
import OpenK.AllK
import Wide.FinOn
import PySem.Challenge.RW_ik0109_01
set_option Elab.async false
set_option linter.unusedVariables false
section PPw
open PySem PySem.W PyProof.Rows

set_option maxRecDepth 100000
set_option compiler.extract_closed false
namespace Mine
noncomputable def nthS : Nat → List Stmt → Stmt
  | _, [] => .Pass ⟨0, 0, 0, 0⟩
  | 0, x :: _ => x
  | n + 1, _ :: r => nthS n r
noncomputable def nthN : Nat → List (Str × NameKind) → Str × NameKind
  | _, [] => (⟨#[]⟩, .local)
  | 0, x :: _ => x
  | n + 1, _ :: r => nthN n r
noncomputable def fPar : Stmt → Arguments
  | .FunctionDef _ p .. => p
  | _ => { posonlyargs := [], args := [], vararg := none, kwonlyargs := [], kw_defaults := [], kwarg := none, defaults := [] }
noncomputable def fBody : Stmt → List Stmt
  | .FunctionDef _ _ b .. => b
  | _ => []
noncomputable def fSc : Stmt → Scope
  | .FunctionDef _ _ _ _ _ _ s .. => s
  | _ => { kind := .module, names := [], isGenerator := false, isCoroutine := false }
noncomputable def fPos : Stmt → Pos
  | .FunctionDef _ _ _ _ _ _ _ _ _ p => p
  | _ => ⟨0, 0, 0, 0⟩
def st0 : Stmt := by
  refine' (?f : (nthS 0 PySem.Challenge.pw_ik0109_01.main.body = _) → Stmt) ?h
  case h => conv => lhs; whnf
  case f =>
    intro h
    refine (?g : (a b : Stmt) → a = b → Stmt) _ _ h
    case g => exact fun a b _ => b
def st1 : Stmt := by
  refine' (?f : (nthS 1 PySem.Challenge.pw_ik0109_01.main.body = _) → Stmt) ?h
  case h => conv => lhs; whnf
  case f =>
    intro h
    refine (?g : (a b : Stmt) → a = b → Stmt) _ _ h
    case g => exact fun a b _ => b
def st2 : Stmt := by
  refine' (?f : (nthS 2 PySem.Challenge.pw_ik0109_01.main.body = _) → Stmt) ?h
  case h => conv => lhs; whnf
  case f =>
    intro h
    refine (?g : (a b : Stmt) → a = b → Stmt) _ _ h
    case g => exact fun a b _ => b
def st3 : Stmt := by
  refine' (?f : (nthS 3 PySem.Challenge.pw_ik0109_01.main.body = _) → Stmt) ?h
  case h => conv => lhs; whnf
  case f =>
    intro h
    refine (?g : (a b : Stmt) → a = b → Stmt) _ _ h
    case g => exact fun a b _ => b
def pr4 : Arguments := by
  refine' (?f : (fPar (nthS 4 PySem.Challenge.pw_ik0109_01.main.body) = _) → Arguments) ?h
  case h => conv => lhs; whnf
  case f =>
    intro h
    refine (?g : (a b : Arguments) → a = b → Arguments) _ _ h
    case g => exact fun a b _ => b
def bd4 : List Stmt := by
  refine' (?f : (fBody (nthS 4 PySem.Challenge.pw_ik0109_01.main.body) = _) → List Stmt) ?h
  case h => conv => lhs; whnf
  case f =>
    intro h
    refine (?g : (a b : List Stmt) → a = b → List Stmt) _ _ h
    case g => exact fun a b _ => b
def sp4 : Scope := by
  refine' (?f : (fSc (nthS 4 PySem.Challenge.pw_ik0109_01.main.body) = _) → Scope) ?h
  case h => conv => lhs; whnf
  case f =>
    intro h
    refine (?g : (a b : Scope) → a = b → Scope) _ _ h
    case g => exact fun a b _ => b
def ps4 : Pos := by
  refine' (?f : (fPos (nthS 4 PySem.Challenge.pw_ik0109_01.main.body) = _) → Pos) ?h
  case h => conv => lhs; whnf
  case f =>
    intro h
    refine (?g : (a b : Pos) → a = b → Pos) _ _ h
    case g => exact fun a b _ => b
def st4 : Stmt := .FunctionDef (Str.ofString "rgb_to_yiq") pr4 bd4 [] none [] sp4 none (Str.ofString "rgb_to_yiq") ps4
def pr5 : Arguments := by
  refine' (?f : (fPar (nthS 5 PySem.Challenge.pw_ik0109_01.main.body) = _) → Arguments) ?h
  case h => conv => lhs; whnf
  case f =>
    intro h
    refine (?g : (a b : Arguments) → a = b → Arguments) _ _ h
    case g => exact fun a b _ => b
def bd5 : List Stmt := by
  refine' (?f : (fBody (nthS 5 PySem.Challenge.pw_ik0109_01.main.body) = _) → List Stmt) ?h
  case h => conv => lhs; whnf
  case f =>
    intro h
    refine (?g : (a b : List Stmt) → a = b → List Stmt) _ _ h
    case g => exact fun a b _ => b
def sp5 : Scope := by
  refine' (?f : (fSc (nthS 5 PySem.Challenge.pw_ik0109_01.main.body) = _) → Scope) ?h
  case h => conv => lhs; whnf
  case f =>
    intro h
    refine (?g : (a b : Scope) → a = b → Scope) _ _ h
    case g => exact fun a b _ => b
def ps5 : Pos := by
  refine' (?f : (fPos (nthS 5 PySem.Challenge.pw_ik0109_01.main.body) = _) → Pos) ?h
  case h => conv => lhs; whnf
  case f =>
    intro h
    refine (?g : (a b : Pos) → a = b → Pos) _ _ h
    case g => exact fun a b _ => b
def st5 : Stmt := .FunctionDef (Str.ofString "yiq_to_rgb") pr5 bd5 [] none [] sp5 none (Str.ofString "yiq_to_rgb") ps5
def pr6 : Arguments := by
  refine' (?f : (fPar (nthS 6 PySem.Challenge.pw_ik0109_01.main.body) = _) → Arguments) ?h
  case h => conv => lhs; whnf
  case f =>
    intro h
    refine (?g : (a b : Arguments) → a = b → Arguments) _ _ h
    case g => exact fun a b _ => b
def bd6 : List Stmt := by
  refine' (?f : (fBody (nthS 6 PySem.Challenge.pw_ik0109_01.main.body) = _) → List Stmt) ?h
  case h => conv => lhs; whnf
  case f =>
    intro h
    refine (?g : (a b : List Stmt) → a = b → List Stmt) _ _ h
    case g => exact fun a b _ => b
def sp6 : Scope := by
  refine' (?f : (fSc (nthS 6 PySem.Challenge.pw_ik0109_01.main.body) = _) → Scope) ?h
  case h => conv => lhs; whnf
  case f =>
    intro h
    refine (?g : (a b : Scope) → a = b → Scope) _ _ h
    case g => exact fun a b _ => b
def ps6 : Pos := by
  refine' (?f : (fPos (nthS 6 PySem.Challenge.pw_ik0109_01.main.body) = _) → Pos) ?h
  case h => conv => lhs; whnf
  case f =>
    intro h
    refine (?g : (a b : Pos) → a = b → Pos) _ _ h
    case g => exact fun a b _ => b
def st6 : Stmt := .FunctionDef (Str.ofString "rgb_to_hls") pr6 bd6 [] none [] sp6 none (Str.ofString "rgb_to_hls") ps6
def pr7 : Arguments := by
  refine' (?f : (fPar (nthS 7 PySem.Challenge.pw_ik0109_01.main.body) = _) → Arguments) ?h
  case h => conv => lhs; whnf
  case f =>
    intro h
    refine (?g : (a b : Arguments) → a = b → Arguments) _ _ h
    case g => exact fun a b _ => b
def bd7 : List Stmt := by
  refine' (?f : (fBody (nthS 7 PySem.Challenge.pw_ik0109_01.main.body) = _) → List Stmt) ?h
  case h => conv => lhs; whnf
  case f =>
    intro h
    refine (?g : (a b : List Stmt) → a = b → List Stmt) _ _ h
    case g => exact fun a b _ => b
def sp7 : Scope := by
  refine' (?f : (fSc (nthS 7 PySem.Challenge.pw_ik0109_01.main.body) = _) → Scope) ?h
  case h => conv => lhs; whnf
  case f =>
    intro h
    refine (?g : (a b : Scope) → a = b → Scope) _ _ h
    case g => exact fun a b _ => b
def ps7 : Pos := by
  refine' (?f : (fPos (nthS 7 PySem.Challenge.pw_ik0109_01.main.body) = _) → Pos) ?h
  case h => conv => lhs; whnf
  case f =>
    intro h
    refine (?g : (a b : Pos) → a = b → Pos) _ _ h
    case g => exact fun a b _ => b
def st7 : Stmt := .FunctionDef (Str.ofString "hls_to_rgb") pr7 bd7 [] none [] sp7 none (Str.ofString "hls_to_rgb") ps7
def pr8 : Arguments := by
  refine' (?f : (fPar (nthS 8 PySem.Challenge.pw_ik0109_01.main.body) = _) → Arguments) ?h
  case h => conv => lhs; whnf
  case f =>
    intro h
    refine (?g : (a b : Arguments) → a = b → Arguments) _ _ h
    case g => exact fun a b _ => b
def bd8 : List Stmt := by
  refine' (?f : (fBody (nthS 8 PySem.Challenge.pw_ik0109_01.main.body) = _) → List Stmt) ?h
  case h => conv => lhs; whnf
  case f =>
    intro h
    refine (?g : (a b : List Stmt) → a = b → List Stmt) _ _ h
    case g => exact fun a b _ => b
def sp8 : Scope := by
  refine' (?f : (fSc (nthS 8 PySem.Challenge.pw_ik0109_01.main.body) = _) → Scope) ?h
  case h => conv => lhs; whnf
  case f =>
    intro h
    refine (?g : (a b : Scope) → a = b → Scope) _ _ h
    case g => exact fun a b _ => b
def ps8 : Pos := by
  refine' (?f : (fPos (nthS 8 PySem.Challenge.pw_ik0109_01.main.body) = _) → Pos) ?h
  case h => conv => lhs; whnf
  case f =>
    intro h
    refine (?g : (a b : Pos) → a = b → Pos) _ _ h
    case g => exact fun a b _ => b
def st8 : Stmt := .FunctionDef (Str.ofString "_v") pr8 bd8 [] none [] sp8 none (Str.ofString "_v") ps8
def pr9 : Arguments := by
  refine' (?f : (fPar (nthS 9 PySem.Challenge.pw_ik0109_01.main.body) = _) → Arguments) ?h
  case h => conv => lhs; whnf
  case f =>
    intro h
    refine (?g : (a b : Arguments) → a = b → Arguments) _ _ h
    case g => exact fun a b _ => b
def bd9 : List Stmt := by
  refine' (?f : (fBody (nthS 9 PySem.Challenge.pw_ik0109_01.main.body) = _) → List Stmt) ?h
  case h => conv => lhs; whnf
  case f =>
    intro h
    refine (?g : (a b : List Stmt) → a = b → List Stmt) _ _ h
    case g => exact fun a b _ => b
def sp9 : Scope := by
  refine' (?f : (fSc (nthS 9 PySem.Challenge.pw_ik0109_01.main.body) = _) → Scope) ?h
  case h => conv => lhs; whnf
  case f =>
    intro h
    refine (?g : (a b : Scope) → a = b → Scope) _ _ h
    case g => exact fun a b _ => b
def ps9 : Pos := by
  refine' (?f : (fPos (nthS 9 PySem.Challenge.pw_ik0109_01.main.body) = _) → Pos) ?h
  case h => conv => lhs; whnf
  case f =>
    intro h
    refine (?g : (a b : Pos) → a = b → Pos) _ _ h
    case g => exact fun a b _ => b
def st9 : Stmt := .FunctionDef (Str.ofString "rgb_to_hsv") pr9 bd9 [] none [] sp9 none (Str.ofString "rgb_to_hsv") ps9
def pr10 : Arguments := by
  refine' (?f : (fPar (nthS 10 PySem.Challenge.pw_ik0109_01.main.body) = _) → Arguments) ?h
  case h => conv => lhs; whnf
  case f =>
    intro h
    refine (?g : (a b : Arguments) → a = b → Arguments) _ _ h
    case g => exact fun a b _ => b
def bd10 : List Stmt := by
  refine' (?f : (fBody (nthS 10 PySem.Challenge.pw_ik0109_01.main.body) = _) → List Stmt) ?h
  case h => conv => lhs; whnf
  case f =>
    intro h
    refine (?g : (a b : List Stmt) → a = b → List Stmt) _ _ h
    case g => exact fun a b _ => b
def sp10 : Scope := by
  refine' (?f : (fSc (nthS 10 PySem.Challenge.pw_ik0109_01.main.body) = _) → Scope) ?h
  case h => conv => lhs; whnf
  case f =>
    intro h
    refine (?g : (a b : Scope) → a = b → Scope) _ _ h
    case g => exact fun a b _ => b
def ps10 : Pos := by
  refine' (?f : (fPos (nthS 10 PySem.Challenge.pw_ik0109_01.main.body) = _) → Pos) ?h
  case h => conv => lhs; whnf
  case f =>
    intro h
    refine (?g : (a b : Pos) → a = b → Pos) _ _ h
    case g => exact fun a b _ => b
def st10 : Stmt := .FunctionDef (Str.ofString "hsv_to_rgb") pr10 bd10 [] none [] sp10 none (Str.ofString "hsv_to_rgb") ps10
def st11 : Stmt := by
  refine' (?f : (nthS 11 PySem.Challenge.pw_ik0109_01.main.body = _) → Stmt) ?h
  case h => conv => lhs; whnf
  case f =>
    intro h
    refine (?g : (a b : Stmt) → a = b → Stmt) _ _ h
    case g => exact fun a b _ => b
def st12 : Stmt := by
  refine' (?f : (nthS 12 PySem.Challenge.pw_ik0109_01.main.body = _) → Stmt) ?h
  case h => conv => lhs; whnf
  case f =>
    intro h
    refine (?g : (a b : Stmt) → a = b → Stmt) _ _ h
    case g => exact fun a b _ => b
def st13 : Stmt := by
  refine' (?f : (nthS 13 PySem.Challenge.pw_ik0109_01.main.body = _) → Stmt) ?h
  case h => conv => lhs; whnf
  case f =>
    intro h
    refine (?g : (a b : Stmt) → a = b → Stmt) _ _ h
    case g => exact fun a b _ => b
def st14 : Stmt := by
  refine' (?f : (nthS 14 PySem.Challenge.pw_ik0109_01.main.body = _) → Stmt) ?h
  case h => conv => lhs; whnf
  case f =>
    intro h
    refine (?g : (a b : Stmt) → a = b → Stmt) _ _ h
    case g => exact fun a b _ => b
def st15 : Stmt := by
  refine' (?f : (nthS 15 PySem.Challenge.pw_ik0109_01.main.body = _) → Stmt) ?h
  case h => conv => lhs; whnf
  case f =>
    intro h
    refine (?g : (a b : Stmt) → a = b → Stmt) _ _ h
    case g => exact fun a b _ => b
def st16 : Stmt := by
  refine' (?f : (nthS 16 PySem.Challenge.pw_ik0109_01.main.body = _) → Stmt) ?h
  case h => conv => lhs; whnf
  case f =>
    intro h
    refine (?g : (a b : Stmt) → a = b → Stmt) _ _ h
    case g => exact fun a b _ => b
def st17 : Stmt := by
  refine' (?f : (nthS 17 PySem.Challenge.pw_ik0109_01.main.body = _) → Stmt) ?h
  case h => conv => lhs; whnf
  case f =>
    intro h
    refine (?g : (a b : Stmt) → a = b → Stmt) _ _ h
    case g => exact fun a b _ => b
def st18 : Stmt := by
  refine' (?f : (nthS 18 PySem.Challenge.pw_ik0109_01.main.body = _) → Stmt) ?h
  case h => conv => lhs; whnf
  case f =>
    intro h
    refine (?g : (a b : Stmt) → a = b → Stmt) _ _ h
    case g => exact fun a b _ => b
def st19 : Stmt := by
  refine' (?f : (nthS 19 PySem.Challenge.pw_ik0109_01.main.body = _) → Stmt) ?h
  case h => conv => lhs; whnf
  case f =>
    intro h
    refine (?g : (a b : Stmt) → a = b → Stmt) _ _ h
    case g => exact fun a b _ => b
def st20 : Stmt := by
  refine' (?f : (nthS 20 PySem.Challenge.pw_ik0109_01.main.body = _) → Stmt) ?h
  case h => conv => lhs; whnf
  case f =>
    intro h
    refine (?g : (a b : Stmt) → a = b → Stmt) _ _ h
    case g => exact fun a b _ => b
def st21 : Stmt := by
  refine' (?f : (nthS 21 PySem.Challenge.pw_ik0109_01.main.body = _) → Stmt) ?h
  case h => conv => lhs; whnf
  case f =>
    intro h
    refine (?g : (a b : Stmt) → a = b → Stmt) _ _ h
    case g => exact fun a b _ => b
def st22 : Stmt := by
  refine' (?f : (nthS 22 PySem.Challenge.pw_ik0109_01.main.body = _) → Stmt) ?h
  case h => conv => lhs; whnf
  case f =>
    intro h
    refine (?g : (a b : Stmt) → a = b → Stmt) _ _ h
    case g => exact fun a b _ => b
def st23 : Stmt := by
  refine' (?f : (nthS 23 PySem.Challenge.pw_ik0109_01.main.body = _) → Stmt) ?h
  case h => conv => lhs; whnf
  case f =>
    intro h
    refine (?g : (a b : Stmt) → a = b → Stmt) _ _ h
    case g => exact fun a b _ => b
def st24 : Stmt := by
  refine' (?f : (nthS 24 PySem.Challenge.pw_ik0109_01.main.body = _) → Stmt) ?h
  case h => conv => lhs; whnf
  case f =>
    intro h
    refine (?g : (a b : Stmt) → a = b → Stmt) _ _ h
    case g => exact fun a b _ => b
def st25 : Stmt := by
  refine' (?f : (nthS 25 PySem.Challenge.pw_ik0109_01.main.body = _) → Stmt) ?h
  case h => conv => lhs; whnf
  case f =>
    intro h
    refine (?g : (a b : Stmt) → a = b → Stmt) _ _ h
    case g => exact fun a b _ => b
def st26 : Stmt := by
  refine' (?f : (nthS 26 PySem.Challenge.pw_ik0109_01.main.body = _) → Stmt) ?h
  case h => conv => lhs; whnf
  case f =>
    intro h
    refine (?g : (a b : Stmt) → a = b → Stmt) _ _ h
    case g => exact fun a b _ => b
def st27 : Stmt := by
  refine' (?f : (nthS 27 PySem.Challenge.pw_ik0109_01.main.body = _) → Stmt) ?h
  case h => conv => lhs; whnf
  case f =>
    intro h
    refine (?g : (a b : Stmt) → a = b → Stmt) _ _ h
    case g => exact fun a b _ => b
def st28 : Stmt := by
  refine' (?f : (nthS 28 PySem.Challenge.pw_ik0109_01.main.body = _) → Stmt) ?h
  case h => conv => lhs; whnf
  case f =>
    intro h
    refine (?g : (a b : Stmt) → a = b → Stmt) _ _ h
    case g => exact fun a b _ => b
def st29 : Stmt := by
  refine' (?f : (nthS 29 PySem.Challenge.pw_ik0109_01.main.body = _) → Stmt) ?h
  case h => conv => lhs; whnf
  case f =>
    intro h
    refine (?g : (a b : Stmt) → a = b → Stmt) _ _ h
    case g => exact fun a b _ => b
def st30 : Stmt := by
  refine' (?f : (nthS 30 PySem.Challenge.pw_ik0109_01.main.body = _) → Stmt) ?h
  case h => conv => lhs; whnf
  case f =>
    intro h
    refine (?g : (a b : Stmt) → a = b → Stmt) _ _ h
    case g => exact fun a b _ => b
def st31 : Stmt := by
  refine' (?f : (nthS 31 PySem.Challenge.pw_ik0109_01.main.body = _) → Stmt) ?h
  case h => conv => lhs; whnf
  case f =>
    intro h
    refine (?g : (a b : Stmt) → a = b → Stmt) _ _ h
    case g => exact fun a b _ => b
def st32 : Stmt := by
  refine' (?f : (nthS 32 PySem.Challenge.pw_ik0109_01.main.body = _) → Stmt) ?h
  case h => conv => lhs; whnf
  case f =>
    intro h
    refine (?g : (a b : Stmt) → a = b → Stmt) _ _ h
    case g => exact fun a b _ => b
def st33 : Stmt := by
  refine' (?f : (nthS 33 PySem.Challenge.pw_ik0109_01.main.body = _) → Stmt) ?h
  case h => conv => lhs; whnf
  case f =>
    intro h
    refine (?g : (a b : Stmt) → a = b → Stmt) _ _ h
    case g => exact fun a b _ => b
def st34 : Stmt := by
  refine' (?f : (nthS 34 PySem.Challenge.pw_ik0109_01.main.body = _) → Stmt) ?h
  case h => conv => lhs; whnf
  case f =>
    intro h
    refine (?g : (a b : Stmt) → a = b → Stmt) _ _ h
    case g => exact fun a b _ => b
def st35 : Stmt := by
  refine' (?f : (nthS 35 PySem.Challenge.pw_ik0109_01.main.body = _) → Stmt) ?h
  case h => conv => lhs; whnf
  case f =>
    intro h
    refine (?g : (a b : Stmt) → a = b → Stmt) _ _ h
    case g => exact fun a b _ => b
def st36 : Stmt := by
  refine' (?f : (nthS 36 PySem.Challenge.pw_ik0109_01.main.body = _) → Stmt) ?h
  case h => conv => lhs; whnf
  case f =>
    intro h
    refine (?g : (a b : Stmt) → a = b → Stmt) _ _ h
    case g => exact fun a b _ => b
def st37 : Stmt := by
  refine' (?f : (nthS 37 PySem.Challenge.pw_ik0109_01.main.body = _) → Stmt) ?h
  case h => conv => lhs; whnf
  case f =>
    intro h
    refine (?g : (a b : Stmt) → a = b → Stmt) _ _ h
    case g => exact fun a b _ => b
def st38 : Stmt := by
  refine' (?f : (nthS 38 PySem.Challenge.pw_ik0109_01.main.body = _) → Stmt) ?h
  case h => conv => lhs; whnf
  case f =>
    intro h
    refine (?g : (a b : Stmt) → a = b → Stmt) _ _ h
    case g => exact fun a b _ => b
def st39 : Stmt := by
  refine' (?f : (nthS 39 PySem.Challenge.pw_ik0109_01.main.body = _) → Stmt) ?h
  case h => conv => lhs; whnf
  case f =>
    intro h
    refine (?g : (a b : Stmt) → a = b → Stmt) _ _ h
    case g => exact fun a b _ => b
def st40 : Stmt := by
  refine' (?f : (nthS 40 PySem.Challenge.pw_ik0109_01.main.body = _) → Stmt) ?h
  case h => conv => lhs; whnf
  case f =>
    intro h
    refine (?g : (a b : Stmt) → a = b → Stmt) _ _ h
    case g => exact fun a b _ => b
def st41 : Stmt := by
  refine' (?f : (nthS 41 PySem.Challenge.pw_ik0109_01.main.body = _) → Stmt) ?h
  case h => conv => lhs; whnf
  case f =>
    intro h
    refine (?g : (a b : Stmt) → a = b → Stmt) _ _ h
    case g => exact fun a b _ => b
def st42 : Stmt := by
  refine' (?f : (nthS 42 PySem.Challenge.pw_ik0109_01.main.body = _) → Stmt) ?h
  case h => conv => lhs; whnf
  case f =>
    intro h
    refine (?g : (a b : Stmt) → a = b → Stmt) _ _ h
    case g => exact fun a b _ => b
def st43 : Stmt := by
  refine' (?f : (nthS 43 PySem.Challenge.pw_ik0109_01.main.body = _) → Stmt) ?h
  case h => conv => lhs; whnf
  case f =>
    intro h
    refine (?g : (a b : Stmt) → a = b → Stmt) _ _ h
    case g => exact fun a b _ => b
def st44 : Stmt := by
  refine' (?f : (nthS 44 PySem.Challenge.pw_ik0109_01.main.body = _) → Stmt) ?h
  case h => conv => lhs; whnf
  case f =>
    intro h
    refine (?g : (a b : Stmt) → a = b → Stmt) _ _ h
    case g => exact fun a b _ => b
def st45 : Stmt := by
  refine' (?f : (nthS 45 PySem.Challenge.pw_ik0109_01.main.body = _) → Stmt) ?h
  case h => conv => lhs; whnf
  case f =>
    intro h
    refine (?g : (a b : Stmt) → a = b → Stmt) _ _ h
    case g => exact fun a b _ => b
def st46 : Stmt := by
  refine' (?f : (nthS 46 PySem.Challenge.pw_ik0109_01.main.body = _) → Stmt) ?h
  case h => conv => lhs; whnf
  case f =>
    intro h
    refine (?g : (a b : Stmt) → a = b → Stmt) _ _ h
    case g => exact fun a b _ => b
def st47 : Stmt := by
  refine' (?f : (nthS 47 PySem.Challenge.pw_ik0109_01.main.body = _) → Stmt) ?h
  case h => conv => lhs; whnf
  case f =>
    intro h
    refine (?g : (a b : Stmt) → a = b → Stmt) _ _ h
    case g => exact fun a b _ => b
def st48 : Stmt := by
  refine' (?f : (nthS 48 PySem.Challenge.pw_ik0109_01.main.body = _) → Stmt) ?h
  case h => conv => lhs; whnf
  case f =>
    intro h
    refine (?g : (a b : Stmt) → a = b → Stmt) _ _ h
    case g => exact fun a b _ => b
def st49 : Stmt := by
  refine' (?f : (nthS 49 PySem.Challenge.pw_ik0109_01.main.body = _) → Stmt) ?h
  case h => conv => lhs; whnf
  case f =>
    intro h
    refine (?g : (a b : Stmt) → a = b → Stmt) _ _ h
    case g => exact fun a b _ => b
def st50 : Stmt := by
  refine' (?f : (nthS 50 PySem.Challenge.pw_ik0109_01.main.body = _) → Stmt) ?h
  case h => conv => lhs; whnf
  case f =>
    intro h
    refine (?g : (a b : Stmt) → a = b → Stmt) _ _ h
    case g => exact fun a b _ => b
def st51 : Stmt := by
  refine' (?f : (nthS 51 PySem.Challenge.pw_ik0109_01.main.body = _) → Stmt) ?h
  case h => conv => lhs; whnf
  case f =>
    intro h
    refine (?g : (a b : Stmt) → a = b → Stmt) _ _ h
    case g => exact fun a b _ => b
def st52 : Stmt := by
  refine' (?f : (nthS 52 PySem.Challenge.pw_ik0109_01.main.body = _) → Stmt) ?h
  case h => conv => lhs; whnf
  case f =>
    intro h
    refine (?g : (a b : Stmt) → a = b → Stmt) _ _ h
    case g => exact fun a b _ => b
def st53 : Stmt := by
  refine' (?f : (nthS 53 PySem.Challenge.pw_ik0109_01.main.body = _) → Stmt) ?h
  case h => conv => lhs; whnf
  case f =>
    intro h
    refine (?g : (a b : Stmt) → a = b → Stmt) _ _ h
    case g => exact fun a b _ => b
def st54 : Stmt := by
  refine' (?f : (nthS 54 PySem.Challenge.pw_ik0109_01.main.body = _) → Stmt) ?h
  case h => conv => lhs; whnf
  case f =>
    intro h
    refine (?g : (a b : Stmt) → a = b → Stmt) _ _ h
    case g => exact fun a b _ => b
def st55 : Stmt := by
  refine' (?f : (nthS 55 PySem.Challenge.pw_ik0109_01.main.body = _) → Stmt) ?h
  case h => conv => lhs; whnf
  case f =>
    intro h
    refine (?g : (a b : Stmt) → a = b → Stmt) _ _ h
    case g => exact fun a b _ => b
def st56 : Stmt := by
  refine' (?f : (nthS 56 PySem.Challenge.pw_ik0109_01.main.body = _) → Stmt) ?h
  case h => conv => lhs; whnf
  case f =>
    intro h
    refine (?g : (a b : Stmt) → a = b → Stmt) _ _ h
    case g => exact fun a b _ => b
def st57 : Stmt := by
  refine' (?f : (nthS 57 PySem.Challenge.pw_ik0109_01.main.body = _) → Stmt) ?h
  case h => conv => lhs; whnf
  case f =>
    intro h
    refine (?g : (a b : Stmt) → a = b → Stmt) _ _ h
    case g => exact fun a b _ => b
def st58 : Stmt := by
  refine' (?f : (nthS 58 PySem.Challenge.pw_ik0109_01.main.body = _) → Stmt) ?h
  case h => conv => lhs; whnf
  case f =>
    intro h
    refine (?g : (a b : Stmt) → a = b → Stmt) _ _ h
    case g => exact fun a b _ => b
def st59 : Stmt := by
  refine' (?f : (nthS 59 PySem.Challenge.pw_ik0109_01.main.body = _) → Stmt) ?h
  case h => conv => lhs; whnf
  case f =>
    intro h
    refine (?g : (a b : Stmt) → a = b → Stmt) _ _ h
    case g => exact fun a b _ => b
def st60 : Stmt := by
  refine' (?f : (nthS 60 PySem.Challenge.pw_ik0109_01.main.body = _) → Stmt) ?h
  case h => conv => lhs; whnf
  case f =>
    intro h
    refine (?g : (a b : Stmt) → a = b → Stmt) _ _ h
    case g => exact fun a b _ => b
def st61 : Stmt := by
  refine' (?f : (nthS 61 PySem.Challenge.pw_ik0109_01.main.body = _) → Stmt) ?h
  case h => conv => lhs; whnf
  case f =>
    intro h
    refine (?g : (a b : Stmt) → a = b → Stmt) _ _ h
    case g => exact fun a b _ => b
noncomputable def dKeys : Stmt → List (Option PySem.Expr)
  | .Assign _ (.Dict k _ _) _ => k
  | _ => []
noncomputable def dVals : Stmt → List PySem.Expr
  | .Assign _ (.Dict _ v _) _ => v
  | _ => []
noncomputable def dPos : Stmt → Pos
  | .Assign _ (.Dict _ _ p) _ => p
  | _ => ⟨0, 0, 0, 0⟩
noncomputable def aPos : Stmt → Pos
  | .Assign _ _ p => p
  | _ => ⟨0, 0, 0, 0⟩
noncomputable def aTg : Stmt → List PySem.Expr
  | .Assign t _ _ => t
  | _ => []
noncomputable def nthO : Nat → List (Option PySem.Expr) → Option PySem.Expr
  | _, [] => none
  | 0, x :: _ => x
  | n + 1, _ :: r => nthO n r
noncomputable def nthX : Nat → List PySem.Expr → PySem.Expr
  | _, [] => .Constant .none 0 ⟨0, 0, 0, 0⟩
  | 0, x :: _ => x
  | n + 1, _ :: r => nthX n r
def tg62 : List PySem.Expr := by
  refine' (?f : (aTg (nthS 62 PySem.Challenge.pw_ik0109_01.main.body) = _) → List PySem.Expr) ?h
  case h => conv => lhs; whnf
  case f =>
    intro h
    refine (?g : (a b : List PySem.Expr) → a = b → List PySem.Expr) _ _ h
    case g => exact fun a b _ => b
def dp62 : Pos := by
  refine' (?f : (dPos (nthS 62 PySem.Challenge.pw_ik0109_01.main.body) = _) → Pos) ?h
  case h => conv => lhs; whnf
  case f =>
    intro h
    refine (?g : (a b : Pos) → a = b → Pos) _ _ h
    case g => exact fun a b _ => b
def ap62 : Pos := by
  refine' (?f : (aPos (nthS 62 PySem.Challenge.pw_ik0109_01.main.body) = _) → Pos) ?h
  case h => conv => lhs; whnf
  case f =>
    intro h
    refine (?g : (a b : Pos) → a = b → Pos) _ _ h
    case g => exact fun a b _ => b
def dk62x0 : Option PySem.Expr := by
  refine' (?f : (nthO 0 (dKeys (nthS 62 PySem.Challenge.pw_ik0109_01.main.body)) = _) → Option PySem.Expr) ?h
  case h => conv => lhs; whnf
  case f =>
    intro h
    refine (?g : (a b : Option PySem.Expr) → a = b → Option PySem.Expr) _ _ h
    case g => exact fun a b _ => b
def dv62x0 : PySem.Expr := by
  refine' (?f : (nthX 0 (dVals (nthS 62 PySem.Challenge.pw_ik0109_01.main.body)) = _) → PySem.Expr) ?h
  case h => conv => lhs; whnf
  case f =>
    intro h
    refine (?g : (a b : PySem.Expr) → a = b → PySem.Expr) _ _ h
    case g => exact fun a b _ => b
def dk62x1 : Option PySem.Expr := by
  refine' (?f : (nthO 1 (dKeys (nthS 62 PySem.Challenge.pw_ik0109_01.main.body)) = _) → Option PySem.Expr) ?h
  case h => conv => lhs; whnf
  case f =>
    intro h
    refine (?g : (a b : Option PySem.Expr) → a = b → Option PySem.Expr) _ _ h
    case g => exact fun a b _ => b
def dv62x1 : PySem.Expr := by
  refine' (?f : (nthX 1 (dVals (nthS 62 PySem.Challenge.pw_ik0109_01.main.body)) = _) → PySem.Expr) ?h
  case h => conv => lhs; whnf
  case f =>
    intro h
    refine (?g : (a b : PySem.Expr) → a = b → PySem.Expr) _ _ h
    case g => exact fun a b _ => b
def dk62x2 : Option PySem.Expr := by
  refine' (?f : (nthO 2 (dKeys (nthS 62 PySem.Challenge.pw_ik0109_01.main.body)) = _) → Option PySem.Expr) ?h
  case h => conv => lhs; whnf
  case f =>
    intro h
    refine (?g : (a b : Option PySem.Expr) → a = b → Option PySem.Expr) _ _ h
    case g => exact fun a b _ => b
def dv62x2 : PySem.Expr := by
  refine' (?f : (nthX 2 (dVals (nthS 62 PySem.Challenge.pw_ik0109_01.main.body)) = _) → PySem.Expr) ?h
  case h => conv => lhs; whnf
  case f =>
    intro h
    refine (?g : (a b : PySem.Expr) → a = b → PySem.Expr) _ _ h
    case g => exact fun a b _ => b
def dk62x3 : Option PySem.Expr := by
  refine' (?f : (nthO 3 (dKeys (nthS 62 PySem.Challenge.pw_ik0109_01.main.body)) = _) → Option PySem.Expr) ?h
  case h => conv => lhs; whnf
  case f =>
    intro h
    refine (?g : (a b : Option PySem.Expr) → a = b → Option PySem.Expr) _ _ h
    case g => exact fun a b _ => b
def dv62x3 : PySem.Expr := by
  refine' (?f : (nthX 3 (dVals (nthS 62 PySem.Challenge.pw_ik0109_01.main.body)) = _) → PySem.Expr) ?h
  case h => conv => lhs; whnf
  case f =>
    intro h
    refine (?g : (a b : PySem.Expr) → a = b → PySem.Expr) _ _ h
    case g => exact fun a b _ => b
def dk62x4 : Option PySem.Expr := by
  refine' (?f : (nthO 4 (dKeys (nthS 62 PySem.Challenge.pw_ik0109_01.main.body)) = _) → Option PySem.Expr) ?h
  case h => conv => lhs; whnf
  case f =>
    intro h
    refine (?g : (a b : Option PySem.Expr) → a = b → Option PySem.Expr) _ _ h
    case g => exact fun a b _ => b
def dv62x4 : PySem.Expr := by
  refine' (?f : (nthX 4 (dVals (nthS 62 PySem.Challenge.pw_ik0109_01.main.body)) = _) → PySem.Expr) ?h
  case h => conv => lhs; whnf
  case f =>
    intro h
    refine (?g : (a b : PySem.Expr) → a = b → PySem.Expr) _ _ h
    case g => exact fun a b _ => b
def dk62x5 : Option PySem.Expr := by
  refine' (?f : (nthO 5 (dKeys (nthS 62 PySem.Challenge.pw_ik0109_01.main.body)) = _) → Option PySem.Expr) ?h
  case h => conv => lhs; whnf
  case f =>
    intro h
    refine (?g : (a b : Option PySem.Expr) → a = b → Option PySem.Expr) _ _ h
    case g => exact fun a b _ => b
def dv62x5 : PySem.Expr := by
  refine' (?f : (nthX 5 (dVals (nthS 62 PySem.Challenge.pw_ik0109_01.main.body)) = _) → PySem.Expr) ?h
  case h => conv => lhs; whnf
  case f =>
    intro h
    refine (?g : (a b : PySem.Expr) → a = b → PySem.Expr) _ _ h
    case g => exact fun a b _ => b
def dk62x6 : Option PySem.Expr := by
  refine' (?f : (nthO 6 (dKeys (nthS 62 PySem.Challenge.pw_ik0109_01.main.body)) = _) → Option PySem.Expr) ?h
  case h => conv => lhs; whnf
  case f =>
    intro h
    refine (?g : (a b : Option PySem.Expr) → a = b → Option PySem.Expr) _ _ h
    case g => exact fun a b _ => b
def dv62x6 : PySem.Expr := by
  refine' (?f : (nthX 6 (dVals (nthS 62 PySem.Challenge.pw_ik0109_01.main.body)) = _) → PySem.Expr) ?h
  case h => conv => lhs; whnf
  case f =>
    intro h
    refine (?g : (a b : PySem.Expr) → a = b → PySem.Expr) _ _ h
    case g => exact fun a b _ => b
def dk62x7 : Option PySem.Expr := by
  refine' (?f : (nthO 7 (dKeys (nthS 62 PySem.Challenge.pw_ik0109_01.main.body)) = _) → Option PySem.Expr) ?h
  case h => conv => lhs; whnf
  case f =>
    intro h
    refine (?g : (a b : Option PySem.Expr) → a = b → Option PySem.Expr) _ _ h
    case g => exact fun a b _ => b
def dv62x7 : PySem.Expr := by
  refine' (?f : (nthX 7 (dVals (nthS 62 PySem.Challenge.pw_ik0109_01.main.body)) = _) → PySem.Expr) ?h
  case h => conv => lhs; whnf
  case f =>
    intro h
    refine (?g : (a b : PySem.Expr) → a = b → PySem.Expr) _ _ h
    case g => exact fun a b _ => b
def dk62x8 : Option PySem.Expr := by
  refine' (?f : (nthO 8 (dKeys (nthS 62 PySem.Challenge.pw_ik0109_01.main.body)) = _) → Option PySem.Expr) ?h
  case h => conv => lhs; whnf
  case f =>
    intro h
    refine (?g : (a b : Option PySem.Expr) → a = b → Option PySem.Expr) _ _ h
    case g => exact fun a b _ => b
def dv62x8 : PySem.Expr := by
  refine' (?f : (nthX 8 (dVals (nthS 62 PySem.Challenge.pw_ik0109_01.main.body)) = _) → PySem.Expr) ?h
  case h => conv => lhs; whnf
  case f =>
    intro h
    refine (?g : (a b : PySem.Expr) → a = b → PySem.Expr) _ _ h
    case g => exact fun a b _ => b
def dk62x9 : Option PySem.Expr := by
  refine' (?f : (nthO 9 (dKeys (nthS 62 PySem.Challenge.pw_ik0109_01.main.body)) = _) → Option PySem.Expr) ?h
  case h => conv => lhs; whnf
  case f =>
    intro h
    refine (?g : (a b : Option PySem.Expr) → a = b → Option PySem.Expr) _ _ h
    case g => exact fun a b _ => b
def dv62x9 : PySem.Expr := by
  refine' (?f : (nthX 9 (dVals (nthS 62 PySem.Challenge.pw_ik0109_01.main.body)) = _) → PySem.Expr) ?h
  case h => conv => lhs; whnf
  case f =>
    intro h
    refine (?g : (a b : PySem.Expr) → a = b → PySem.Expr) _ _ h
    case g => exact fun a b _ => b
def dk62x10 : Option PySem.Expr := by
  refine' (?f : (nthO 10 (dKeys (nthS 62 PySem.Challenge.pw_ik0109_01.main.body)) = _) → Option PySem.Expr) ?h
  case h => conv => lhs; whnf
  case f =>
    intro h
    refine (?g : (a b : Option PySem.Expr) → a = b → Option PySem.Expr) _ _ h
    case g => exact fun a b _ => b
def dv62x10 : PySem.Expr := by
  refine' (?f : (nthX 10 (dVals (nthS 62 PySem.Challenge.pw_ik0109_01.main.body)) = _) → PySem.Expr) ?h
  case h => conv => lhs; whnf
  case f =>
    intro h
    refine (?g : (a b : PySem.Expr) → a = b → PySem.Expr) _ _ h
    case g => exact fun a b _ => b
def dk62x11 : Option PySem.Expr := by
  refine' (?f : (nthO 11 (dKeys (nthS 62 PySem.Challenge.pw_ik0109_01.main.body)) = _) → Option PySem.Expr) ?h
  case h => conv => lhs; whnf
  case f =>
    intro h
    refine (?g : (a b : Option PySem.Expr) → a = b → Option PySem.Expr) _ _ h
    case g => exact fun a b _ => b
def dv62x11 : PySem.Expr := by
  refine' (?f : (nthX 11 (dVals (nthS 62 PySem.Challenge.pw_ik0109_01.main.body)) = _) → PySem.Expr) ?h
  case h => conv => lhs; whnf
  case f =>
    intro h
    refine (?g : (a b : PySem.Expr) → a = b → PySem.Expr) _ _ h
    case g => exact fun a b _ => b
def dk62x12 : Option PySem.Expr := by
  refine' (?f : (nthO 12 (dKeys (nthS 62 PySem.Challenge.pw_ik0109_01.main.body)) = _) → Option PySem.Expr) ?h
  case h => conv => lhs; whnf
  case f =>
    intro h
    refine (?g : (a b : Option PySem.Expr) → a = b → Option PySem.Expr) _ _ h
    case g => exact fun a b _ => b
def dv62x12 : PySem.Expr := by
  refine' (?f : (nthX 12 (dVals (nthS 62 PySem.Challenge.pw_ik0109_01.main.body)) = _) → PySem.Expr) ?h
  case h => conv => lhs; whnf
  case f =>
    intro h
    refine (?g : (a b : PySem.Expr) → a = b → PySem.Expr) _ _ h
    case g => exact fun a b _ => b
def dk62x13 : Option PySem.Expr := by
  refine' (?f : (nthO 13 (dKeys (nthS 62 PySem.Challenge.pw_ik0109_01.main.body)) = _) → Option PySem.Expr) ?h
  case h => conv => lhs; whnf
  case f =>
    intro h
    refine (?g : (a b : Option PySem.Expr) → a = b → Option PySem.Expr) _ _ h
    case g => exact fun a b _ => b
def dv62x13 : PySem.Expr := by
  refine' (?f : (nthX 13 (dVals (nthS 62 PySem.Challenge.pw_ik0109_01.main.body)) = _) → PySem.Expr) ?h
  case h => conv => lhs; whnf
  case f =>
    intro h
    refine (?g : (a b : PySem.Expr) → a = b → PySem.Expr) _ _ h
    case g => exact fun a b _ => b
def dk62x14 : Option PySem.Expr := by
  refine' (?f : (nthO 14 (dKeys (nthS 62 PySem.Challenge.pw_ik0109_01.main.body)) = _) → Option PySem.Expr) ?h
  case h => conv => lhs; whnf
  case f =>
    intro h
    refine (?g : (a b : Option PySem.Expr) → a = b → Option PySem.Expr) _ _ h
    case g => exact fun a b _ => b
def dv62x14 : PySem.Expr := by
  refine' (?f : (nthX 14 (dVals (nthS 62 PySem.Challenge.pw_ik0109_01.main.body)) = _) → PySem.Expr) ?h
  case h => conv => lhs; whnf
  case f =>
    intro h
    refine (?g : (a b : PySem.Expr) → a = b → PySem.Expr) _ _ h
    case g => exact fun a b _ => b
def dk62x15 : Option PySem.Expr := by
  refine' (?f : (nthO 15 (dKeys (nthS 62 PySem.Challenge.pw_ik0109_01.main.body)) = _) → Option PySem.Expr) ?h
  case h => conv => lhs; whnf
  case f =>
    intro h
    refine (?g : (a b : Option PySem.Expr) → a = b → Option PySem.Expr) _ _ h
    case g => exact fun a b _ => b
def dv62x15 : PySem.Expr := by
  refine' (?f : (nthX 15 (dVals (nthS 62 PySem.Challenge.pw_ik0109_01.main.body)) = _) → PySem.Expr) ?h
  case h => conv => lhs; whnf
  case f =>
    intro h
    refine (?g : (a b : PySem.Expr) → a = b → PySem.Expr) _ _ h
    case g => exact fun a b _ => b
def dk62x16 : Option PySem.Expr := by
  refine' (?f : (nthO 16 (dKeys (nthS 62 PySem.Challenge.pw_ik0109_01.main.body)) = _) → Option PySem.Expr) ?h
  case h => conv => lhs; whnf
  case f =>
    intro h
    refine (?g : (a b : Option PySem.Expr) → a = b → Option PySem.Expr) _ _ h
    case g => exact fun a b _ => b
def dv62x16 : PySem.Expr := by
  refine' (?f : (nthX 16 (dVals (nthS 62 PySem.Challenge.pw_ik0109_01.main.body)) = _) → PySem.Expr) ?h
  case h => conv => lhs; whnf
  case f =>
    intro h
    refine (?g : (a b : PySem.Expr) → a = b → PySem.Expr) _ _ h
    case g => exact fun a b _ => b
def dk62x17 : Option PySem.Expr := by
  refine' (?f : (nthO 17 (dKeys (nthS 62 PySem.Challenge.pw_ik0109_01.main.body)) = _) → Option PySem.Expr) ?h
  case h => conv => lhs; whnf
  case f =>
    intro h
    refine (?g : (a b : Option PySem.Expr) → a = b → Option PySem.Expr) _ _ h
    case g => exact fun a b _ => b
def dv62x17 : PySem.Expr := by
  refine' (?f : (nthX 17 (dVals (nthS 62 PySem.Challenge.pw_ik0109_01.main.body)) = _) → PySem.Expr) ?h
  case h => conv => lhs; whnf
  case f =>
    intro h
    refine (?g : (a b : PySem.Expr) → a = b → PySem.Expr) _ _ h
    case g => exact fun a b _ => b
def dk62x18 : Option PySem.Expr := by
  refine' (?f : (nthO 18 (dKeys (nthS 62 PySem.Challenge.pw_ik0109_01.main.body)) = _) → Option PySem.Expr) ?h
  case h => conv => lhs; whnf
  case f =>
    intro h
    refine (?g : (a b : Option PySem.Expr) → a = b → Option PySem.Expr) _ _ h
    case g => exact fun a b _ => b
def dv62x18 : PySem.Expr := by
  refine' (?f : (nthX 18 (dVals (nthS 62 PySem.Challenge.pw_ik0109_01.main.body)) = _) → PySem.Expr) ?h
  case h => conv => lhs; whnf
  case f =>
    intro h
    refine (?g : (a b : PySem.Expr) → a = b → PySem.Expr) _ _ h
    case g => exact fun a b _ => b
def dk62x19 : Option PySem.Expr := by
  refine' (?f : (nthO 19 (dKeys (nthS 62 PySem.Challenge.pw_ik0109_01.main.body)) = _) → Option PySem.Expr) ?h
  case h => conv => lhs; whnf
  case f =>
    intro h
    refine (?g : (a b : Option PySem.Expr) → a = b → Option PySem.Expr) _ _ h
    case g => exact fun a b _ => b
def dv62x19 : PySem.Expr := by
  refine' (?f : (nthX 19 (dVals (nthS 62 PySem.Challenge.pw_ik0109_01.main.body)) = _) → PySem.Expr) ?h
  case h => conv => lhs; whnf
  case f =>
    intro h
    refine (?g : (a b : PySem.Expr) → a = b → PySem.Expr) _ _ h
    case g => exact fun a b _ => b
def dk62x20 : Option PySem.Expr := by
  refine' (?f : (nthO 20 (dKeys (nthS 62 PySem.Challenge.pw_ik0109_01.main.body)) = _) → Option PySem.Expr) ?h
  case h => conv => lhs; whnf
  case f =>
    intro h
    refine (?g : (a b : Option PySem.Expr) → a = b → Option PySem.Expr) _ _ h
    case g => exact fun a b _ => b
def dv62x20 : PySem.Expr := by
  refine' (?f : (nthX 20 (dVals (nthS 62 PySem.Challenge.pw_ik0109_01.main.body)) = _) → PySem.Expr) ?h
  case h => conv => lhs; whnf
  case f =>
    intro h
    refine (?g : (a b : PySem.Expr) → a = b → PySem.Expr) _ _ h
    case g => exact fun a b _ => b
def dk62x21 : Option PySem.Expr := by
  refine' (?f : (nthO 21 (dKeys (nthS 62 PySem.Challenge.pw_ik0109_01.main.body)) = _) → Option PySem.Expr) ?h
  case h => conv => lhs; whnf
  case f =>
    intro h
    refine (?g : (a b : Option PySem.Expr) → a = b → Option PySem.Expr) _ _ h
    case g => exact fun a b _ => b
def dv62x21 : PySem.Expr := by
  refine' (?f : (nthX 21 (dVals (nthS 62 PySem.Challenge.pw_ik0109_01.main.body)) = _) → PySem.Expr) ?h
  case h => conv => lhs; whnf
  case f =>
    intro h
    refine (?g : (a b : PySem.Expr) → a = b → PySem.Expr) _ _ h
    case g => exact fun a b _ => b
def dk62x22 : Option PySem.Expr := by
  refine' (?f : (nthO 22 (dKeys (nthS 62 PySem.Challenge.pw_ik0109_01.main.body)) = _) → Option PySem.Expr) ?h
  case h => conv => lhs; whnf
  case f =>
    intro h
    refine (?g : (a b : Option PySem.Expr) → a = b → Option PySem.Expr) _ _ h
    case g => exact fun a b _ => b
def dv62x22 : PySem.Expr := by
  refine' (?f : (nthX 22 (dVals (nthS 62 PySem.Challenge.pw_ik0109_01.main.body)) = _) → PySem.Expr) ?h
  case h => conv => lhs; whnf
  case f =>
    intro h
    refine (?g : (a b : PySem.Expr) → a = b → PySem.Expr) _ _ h
    case g => exact fun a b _ => b
def dk62x23 : Option PySem.Expr := by
  refine' (?f : (nthO 23 (dKeys (nthS 62 PySem.Challenge.pw_ik0109_01.main.body)) = _) → Option PySem.Expr) ?h
  case h => conv => lhs; whnf
  case f =>
    intro h
    refine (?g : (a b : Option PySem.Expr) → a = b → Option PySem.Expr) _ _ h
    case g => exact fun a b _ => b
def dv62x23 : PySem.Expr := by
  refine' (?f : (nthX 23 (dVals (nthS 62 PySem.Challenge.pw_ik0109_01.main.body)) = _) → PySem.Expr) ?h
  case h => conv => lhs; whnf
  case f =>
    intro h
    refine (?g : (a b : PySem.Expr) → a = b → PySem.Expr) _ _ h
    case g => exact fun a b _ => b
def dk62x24 : Option PySem.Expr := by
  refine' (?f : (nthO 24 (dKeys (nthS 62 PySem.Challenge.pw_ik0109_01.main.body)) = _) → Option PySem.Expr) ?h
  case h => conv => lhs; whnf
  case f =>
    intro h
    refine (?g : (a b : Option PySem.Expr) → a = b → Option PySem.Expr) _ _ h
    case g => exact fun a b _ => b
def dv62x24 : PySem.Expr := by
  refine' (?f : (nthX 24 (dVals (nthS 62 PySem.Challenge.pw_ik0109_01.main.body)) = _) → PySem.Expr) ?h
  case h => conv => lhs; whnf
  case f =>
    intro h
    refine (?g : (a b : PySem.Expr) → a = b → PySem.Expr) _ _ h
    case g => exact fun a b _ => b
def dk62x25 : Option PySem.Expr := by
  refine' (?f : (nthO 25 (dKeys (nthS 62 PySem.Challenge.pw_ik0109_01.main.body)) = _) → Option PySem.Expr) ?h
  case h => conv => lhs; whnf
  case f =>
    intro h
    refine (?g : (a b : Option PySem.Expr) → a = b → Option PySem.Expr) _ _ h
    case g => exact fun a b _ => b
def dv62x25 : PySem.Expr := by
  refine' (?f : (nthX 25 (dVals (nthS 62 PySem.Challenge.pw_ik0109_01.main.body)) = _) → PySem.Expr) ?h
  case h => conv => lhs; whnf
  case f =>
    intro h
    refine (?g : (a b : PySem.Expr) → a = b → PySem.Expr) _ _ h
    case g => exact fun a b _ => b
def dk62x26 : Option PySem.Expr := by
  refine' (?f : (nthO 26 (dKeys (nthS 62 PySem.Challenge.pw_ik0109_01.main.body)) = _) → Option PySem.Expr) ?h
  case h => conv => lhs; whnf
  case f =>
    intro h
    refine (?g : (a b : Option PySem.Expr) → a = b → Option PySem.Expr) _ _ h
    case g => exact fun a b _ => b
def dv62x26 : PySem.Expr := by
  refine' (?f : (nthX 26 (dVals (nthS 62 PySem.Challenge.pw_ik0109_01.main.body)) = _) → PySem.Expr) ?h
  case h => conv => lhs; whnf
  case f =>
    intro h
    refine (?g : (a b : PySem.Expr) → a = b → PySem.Expr) _ _ h
    case g => exact fun a b _ => b
def dk62x27 : Option PySem.Expr := by
  refine' (?f : (nthO 27 (dKeys (nthS 62 PySem.Challenge.pw_ik0109_01.main.body)) = _) → Option PySem.Expr) ?h
  case h => conv => lhs; whnf
  case f =>
    intro h
    refine (?g : (a b : Option PySem.Expr) → a = b → Option PySem.Expr) _ _ h
    case g => exact fun a b _ => b
def dv62x27 : PySem.Expr := by
  refine' (?f : (nthX 27 (dVals (nthS 62 PySem.Challenge.pw_ik0109_01.main.body)) = _) → PySem.Expr) ?h
  case h => conv => lhs; whnf
  case f =>
    intro h
    refine (?g : (a b : PySem.Expr) → a = b → PySem.Expr) _ _ h
    case g => exact fun a b _ => b
def dk62x28 : Option PySem.Expr := by
  refine' (?f : (nthO 28 (dKeys (nthS 62 PySem.Challenge.pw_ik0109_01.main.body)) = _) → Option PySem.Expr) ?h
  case h => conv => lhs; whnf
  case f =>
    intro h
    refine (?g : (a b : Option PySem.Expr) → a = b → Option PySem.Expr) _ _ h
    case g => exact fun a b _ => b
def dv62x28 : PySem.Expr := by
  refine' (?f : (nthX 28 (dVals (nthS 62 PySem.Challenge.pw_ik0109_01.main.body)) = _) → PySem.Expr) ?h
  case h => conv => lhs; whnf
  case f =>
    intro h
    refine (?g : (a b : PySem.Expr) → a = b → PySem.Expr) _ _ h
    case g => exact fun a b _ => b
def dk62x29 : Option PySem.Expr := by
  refine' (?f : (nthO 29 (dKeys (nthS 62 PySem.Challenge.pw_ik0109_01.main.body)) = _) → Option PySem.Expr) ?h
  case h => conv => lhs; whnf
  case f =>
    intro h
    refine (?g : (a b : Option PySem.Expr) → a = b → Option PySem.Expr) _ _ h
    case g => exact fun a b _ => b
def dv62x29 : PySem.Expr := by
  refine' (?f : (nthX 29 (dVals (nthS 62 PySem.Challenge.pw_ik0109_01.main.body)) = _) → PySem.Expr) ?h
  case h => conv => lhs; whnf
  case f =>
    intro h
    refine (?g : (a b : PySem.Expr) → a = b → PySem.Expr) _ _ h
    case g => exact fun a b _ => b
def dk62x30 : Option PySem.Expr := by
  refine' (?f : (nthO 30 (dKeys (nthS 62 PySem.Challenge.pw_ik0109_01.main.body)) = _) → Option PySem.Expr) ?h
  case h => conv => lhs; whnf
  case f =>
    intro h
    refine (?g : (a b : Option PySem.Expr) → a = b → Option PySem.Expr) _ _ h
    case g => exact fun a b _ => b
def dv62x30 : PySem.Expr := by
  refine' (?f : (nthX 30 (dVals (nthS 62 PySem.Challenge.pw_ik0109_01.main.body)) = _) → PySem.Expr) ?h
  case h => conv => lhs; whnf
  case f =>
    intro h
    refine (?g : (a b : PySem.Expr) → a = b → PySem.Expr) _ _ h
    case g => exact fun a b _ => b
def dk62x31 : Option PySem.Expr := by
  refine' (?f : (nthO 31 (dKeys (nthS 62 PySem.Challenge.pw_ik0109_01.main.body)) = _) → Option PySem.Expr) ?h
  case h => conv => lhs; whnf
  case f =>
    intro h
    refine (?g : (a b : Option PySem.Expr) → a = b → Option PySem.Expr) _ _ h
    case g => exact fun a b _ => b
def dv62x31 : PySem.Expr := by
  refine' (?f : (nthX 31 (dVals (nthS 62 PySem.Challenge.pw_ik0109_01.main.body)) = _) → PySem.Expr) ?h
  case h => conv => lhs; whnf
  case f =>
    intro h
    refine (?g : (a b : PySem.Expr) → a = b → PySem.Expr) _ _ h
    case g => exact fun a b _ => b
def dk62x32 : Option PySem.Expr := by
  refine' (?f : (nthO 32 (dKeys (nthS 62 PySem.Challenge.pw_ik0109_01.main.body)) = _) → Option PySem.Expr) ?h
  case h => conv => lhs; whnf
  case f =>
    intro h
    refine (?g : (a b : Option PySem.Expr) → a = b → Option PySem.Expr) _ _ h
    case g => exact fun a b _ => b
def dv62x32 : PySem.Expr := by
  refine' (?f : (nthX 32 (dVals (nthS 62 PySem.Challenge.pw_ik0109_01.main.body)) = _) → PySem.Expr) ?h
  case h => conv => lhs; whnf
  case f =>
    intro h
    refine (?g : (a b : PySem.Expr) → a = b → PySem.Expr) _ _ h
    case g => exact fun a b _ => b
def dk62x33 : Option PySem.Expr := by
  refine' (?f : (nthO 33 (dKeys (nthS 62 PySem.Challenge.pw_ik0109_01.main.body)) = _) → Option PySem.Expr) ?h
  case h => conv => lhs; whnf
  case f =>
    intro h
    refine (?g : (a b : Option PySem.Expr) → a = b → Option PySem.Expr) _ _ h
    case g => exact fun a b _ => b
def dv62x33 : PySem.Expr := by
  refine' (?f : (nthX 33 (dVals (nthS 62 PySem.Challenge.pw_ik0109_01.main.body)) = _) → PySem.Expr) ?h
  case h => conv => lhs; whnf
  case f =>
    intro h
    refine (?g : (a b : PySem.Expr) → a = b → PySem.Expr) _ _ h
    case g => exact fun a b _ => b
def dk62x34 : Option PySem.Expr := by
  refine' (?f : (nthO 34 (dKeys (nthS 62 PySem.Challenge.pw_ik0109_01.main.body)) = _) → Option PySem.Expr) ?h
  case h => conv => lhs; whnf
  case f =>
    intro h
    refine (?g : (a b : Option PySem.Expr) → a = b → Option PySem.Expr) _ _ h
    case g => exact fun a b _ => b
def dv62x34 : PySem.Expr := by
  refine' (?f : (nthX 34 (dVals (nthS 62 PySem.Challenge.pw_ik0109_01.main.body)) = _) → PySem.Expr) ?h
  case h => conv => lhs; whnf
  case f =>
    intro h
    refine (?g : (a b : PySem.Expr) → a = b → PySem.Expr) _ _ h
    case g => exact fun a b _ => b
def dk62x35 : Option PySem.Expr := by
  refine' (?f : (nthO 35 (dKeys (nthS 62 PySem.Challenge.pw_ik0109_01.main.body)) = _) → Option PySem.Expr) ?h
  case h => conv => lhs; whnf
  case f =>
    intro h
    refine (?g : (a b : Option PySem.Expr) → a = b → Option PySem.Expr) _ _ h
    case g => exact fun a b _ => b
def dv62x35 : PySem.Expr := by
  refine' (?f : (nthX 35 (dVals (nthS 62 PySem.Challenge.pw_ik0109_01.main.body)) = _) → PySem.Expr) ?h
  case h => conv => lhs; whnf
  case f =>
    intro h
    refine (?g : (a b : PySem.Expr) → a = b → PySem.Expr) _ _ h
    case g => exact fun a b _ => b
def dk62x36 : Option PySem.Expr := by
  refine' (?f : (nthO 36 (dKeys (nthS 62 PySem.Challenge.pw_ik0109_01.main.body)) = _) → Option PySem.Expr) ?h
  case h => conv => lhs; whnf
  case f =>
    intro h
    refine (?g : (a b : Option PySem.Expr) → a = b → Option PySem.Expr) _ _ h
    case g => exact fun a b _ => b
def dv62x36 : PySem.Expr := by
  refine' (?f : (nthX 36 (dVals (nthS 62 PySem.Challenge.pw_ik0109_01.main.body)) = _) → PySem.Expr) ?h
  case h => conv => lhs; whnf
  case f =>
    intro h
    refine (?g : (a b : PySem.Expr) → a = b → PySem.Expr) _ _ h
    case g => exact fun a b _ => b
def dk62x37 : Option PySem.Expr := by
  refine' (?f : (nthO 37 (dKeys (nthS 62 PySem.Challenge.pw_ik0109_01.main.body)) = _) → Option PySem.Expr) ?h
  case h => conv => lhs; whnf
  case f =>
    intro h
    refine (?g : (a b : Option PySem.Expr) → a = b → Option PySem.Expr) _ _ h
    case g => exact fun a b _ => b
def dv62x37 : PySem.Expr := by
  refine' (?f : (nthX 37 (dVals (nthS 62 PySem.Challenge.pw_ik0109_01.main.body)) = _) → PySem.Expr) ?h
  case h => conv => lhs; whnf
  case f =>
    intro h
    refine (?g : (a b : PySem.Expr) → a = b → PySem.Expr) _ _ h
    case g => exact fun a b _ => b
def dk62x38 : Option PySem.Expr := by
  refine' (?f : (nthO 38 (dKeys (nthS 62 PySem.Challenge.pw_ik0109_01.main.body)) = _) → Option PySem.Expr) ?h
  case h => conv => lhs; whnf
  case f =>
    intro h
    refine (?g : (a b : Option PySem.Expr) → a = b → Option PySem.Expr) _ _ h
    case g => exact fun a b _ => b
def dv62x38 : PySem.Expr := by
  refine' (?f : (nthX 38 (dVals (nthS 62 PySem.Challenge.pw_ik0109_01.main.body)) = _) → PySem.Expr) ?h
  case h => conv => lhs; whnf
  case f =>
    intro h
    refine (?g : (a b : PySem.Expr) → a = b → PySem.Expr) _ _ h
    case g => exact fun a b _ => b
def dk62x39 : Option PySem.Expr := by
  refine' (?f : (nthO 39 (dKeys (nthS 62 PySem.Challenge.pw_ik0109_01.main.body)) = _) → Option PySem.Expr) ?h
  case h => conv => lhs; whnf
  case f =>
    intro h
    refine (?g : (a b : Option PySem.Expr) → a = b → Option PySem.Expr) _ _ h
    case g => exact fun a b _ => b
def dv62x39 : PySem.Expr := by
  refine' (?f : (nthX 39 (dVals (nthS 62 PySem.Challenge.pw_ik0109_01.main.body)) = _) → PySem.Expr) ?h
  case h => conv => lhs; whnf
  case f =>
    intro h
    refine (?g : (a b : PySem.Expr) → a = b → PySem.Expr) _ _ h
    case g => exact fun a b _ => b
def dk62x40 : Option PySem.Expr := by
  refine' (?f : (nthO 40 (dKeys (nthS 62 PySem.Challenge.pw_ik0109_01.main.body)) = _) → Option PySem.Expr) ?h
  case h => conv => lhs; whnf
  case f =>
    intro h
    refine (?g : (a b : Option PySem.Expr) → a = b → Option PySem.Expr) _ _ h
    case g => exact fun a b _ => b
def dv62x40 : PySem.Expr := by
  refine' (?f : (nthX 40 (dVals (nthS 62 PySem.Challenge.pw_ik0109_01.main.body)) = _) → PySem.Expr) ?h
  case h => conv => lhs; whnf
  case f =>
    intro h
    refine (?g : (a b : PySem.Expr) → a = b → PySem.Expr) _ _ h
    case g => exact fun a b _ => b
def dk62x41 : Option PySem.Expr := by
  refine' (?f : (nthO 41 (dKeys (nthS 62 PySem.Challenge.pw_ik0109_01.main.body)) = _) → Option PySem.Expr) ?h
  case h => conv => lhs; whnf
  case f =>
    intro h
    refine (?g : (a b : Option PySem.Expr) → a = b → Option PySem.Expr) _ _ h
    case g => exact fun a b _ => b
def dv62x41 : PySem.Expr := by
  refine' (?f : (nthX 41 (dVals (nthS 62 PySem.Challenge.pw_ik0109_01.main.body)) = _) → PySem.Expr) ?h
  case h => conv => lhs; whnf
  case f =>
    intro h
    refine (?g : (a b : PySem.Expr) → a = b → PySem.Expr) _ _ h
    case g => exact fun a b _ => b
def dk62x42 : Option PySem.Expr := by
  refine' (?f : (nthO 42 (dKeys (nthS 62 PySem.Challenge.pw_ik0109_01.main.body)) = _) → Option PySem.Expr) ?h
  case h => conv => lhs; whnf
  case f =>
    intro h
    refine (?g : (a b : Option PySem.Expr) → a = b → Option PySem.Expr) _ _ h
    case g => exact fun a b _ => b
def dv62x42 : PySem.Expr := by
  refine' (?f : (nthX 42 (dVals (nthS 62 PySem.Challenge.pw_ik0109_01.main.body)) = _) → PySem.Expr) ?h
  case h => conv => lhs; whnf
  case f =>
    intro h
    refine (?g : (a b : PySem.Expr) → a = b → PySem.Expr) _ _ h
    case g => exact fun a b _ => b
def dk62x43 : Option PySem.Expr := by
  refine' (?f : (nthO 43 (dKeys (nthS 62 PySem.Challenge.pw_ik0109_01.main.body)) = _) → Option PySem.Expr) ?h
  case h => conv => lhs; whnf
  case f =>
    intro h
    refine (?g : (a b : Option PySem.Expr) → a = b → Option PySem.Expr) _ _ h
    case g => exact fun a b _ => b
def dv62x43 : PySem.Expr := by
  refine' (?f : (nthX 43 (dVals (nthS 62 PySem.Challenge.pw_ik0109_01.main.body)) = _) → PySem.Expr) ?h
  case h => conv => lhs; whnf
  case f =>
    intro h
    refine (?g : (a b : PySem.Expr) → a = b → PySem.Expr) _ _ h
    case g => exact fun a b _ => b
def dk62x44 : Option PySem.Expr := by
  refine' (?f : (nthO 44 (dKeys (nthS 62 PySem.Challenge.pw_ik0109_01.main.body)) = _) → Option PySem.Expr) ?h
  case h => conv => lhs; whnf
  case f =>
    intro h
    refine (?g : (a b : Option PySem.Expr) → a = b → Option PySem.Expr) _ _ h
    case g => exact fun a b _ => b
def dv62x44 : PySem.Expr := by
  refine' (?f : (nthX 44 (dVals (nthS 62 PySem.Challenge.pw_ik0109_01.main.body)) = _) → PySem.Expr) ?h
  case h => conv => lhs; whnf
  case f =>
    intro h
    refine (?g : (a b : PySem.Expr) → a = b → PySem.Expr) _ _ h
    case g => exact fun a b _ => b
def dk62x45 : Option PySem.Expr := by
  refine' (?f : (nthO 45 (dKeys (nthS 62 PySem.Challenge.pw_ik0109_01.main.body)) = _) → Option PySem.Expr) ?h
  case h => conv => lhs; whnf
  case f =>
    intro h
    refine (?g : (a b : Option PySem.Expr) → a = b → Option PySem.Expr) _ _ h
    case g => exact fun a b _ => b
def dv62x45 : PySem.Expr := by
  refine' (?f : (nthX 45 (dVals (nthS 62 PySem.Challenge.pw_ik0109_01.main.body)) = _) → PySem.Expr) ?h
  case h => conv => lhs; whnf
  case f =>
    intro h
    refine (?g : (a b : PySem.Expr) → a = b → PySem.Expr) _ _ h
    case g => exact fun a b _ => b
def dk62x46 : Option PySem.Expr := by
  refine' (?f : (nthO 46 (dKeys (nthS 62 PySem.Challenge.pw_ik0109_01.main.body)) = _) → Option PySem.Expr) ?h
  case h => conv => lhs; whnf
  case f =>
    intro h
    refine (?g : (a b : Option PySem.Expr) → a = b → Option PySem.Expr) _ _ h
    case g => exact fun a b _ => b
def dv62x46 : PySem.Expr := by
  refine' (?f : (nthX 46 (dVals (nthS 62 PySem.Challenge.pw_ik0109_01.main.body)) = _) → PySem.Expr) ?h
  case h => conv => lhs; whnf
  case f =>
    intro h
    refine (?g : (a b : PySem.Expr) → a = b → PySem.Expr) _ _ h
    case g => exact fun a b _ => b
def dk62x47 : Option PySem.Expr := by
  refine' (?f : (nthO 47 (dKeys (nthS 62 PySem.Challenge.pw_ik0109_01.main.body)) = _) → Option PySem.Expr) ?h
  case h => conv => lhs; whnf
  case f =>
    intro h
    refine (?g : (a b : Option PySem.Expr) → a = b → Option PySem.Expr) _ _ h
    case g => exact fun a b _ => b
def dv62x47 : PySem.Expr := by
  refine' (?f : (nthX 47 (dVals (nthS 62 PySem.Challenge.pw_ik0109_01.main.body)) = _) → PySem.Expr) ?h
  case h => conv => lhs; whnf
  case f =>
    intro h
    refine (?g : (a b : PySem.Expr) → a = b → PySem.Expr) _ _ h
    case g => exact fun a b _ => b
def dkl5 : List (Option PySem.Expr) := dk62x40 :: dk62x41 :: dk62x42 :: dk62x43 :: dk62x44 :: dk62x45 :: dk62x46 :: dk62x47 :: []
def dvl5 : List PySem.Expr := dv62x40 :: dv62x41 :: dv62x42 :: dv62x43 :: dv62x44 :: dv62x45 :: dv62x46 :: dv62x47 :: []
def dkl4 : List (Option PySem.Expr) := dk62x32 :: dk62x33 :: dk62x34 :: dk62x35 :: dk62x36 :: dk62x37 :: dk62x38 :: dk62x39 :: dkl5
def dvl4 : List PySem.Expr := dv62x32 :: dv62x33 :: dv62x34 :: dv62x35 :: dv62x36 :: dv62x37 :: dv62x38 :: dv62x39 :: dvl5
def dkl3 : List (Option PySem.Expr) := dk62x24 :: dk62x25 :: dk62x26 :: dk62x27 :: dk62x28 :: dk62x29 :: dk62x30 :: dk62x31 :: dkl4
def dvl3 : List PySem.Expr := dv62x24 :: dv62x25 :: dv62x26 :: dv62x27 :: dv62x28 :: dv62x29 :: dv62x30 :: dv62x31 :: dvl4
def dkl2 : List (Option PySem.Expr) := dk62x16 :: dk62x17 :: dk62x18 :: dk62x19 :: dk62x20 :: dk62x21 :: dk62x22 :: dk62x23 :: dkl3
def dvl2 : List PySem.Expr := dv62x16 :: dv62x17 :: dv62x18 :: dv62x19 :: dv62x20 :: dv62x21 :: dv62x22 :: dv62x23 :: dvl3
def dkl1 : List (Option PySem.Expr) := dk62x8 :: dk62x9 :: dk62x10 :: dk62x11 :: dk62x12 :: dk62x13 :: dk62x14 :: dk62x15 :: dkl2
def dvl1 : List PySem.Expr := dv62x8 :: dv62x9 :: dv62x10 :: dv62x11 :: dv62x12 :: dv62x13 :: dv62x14 :: dv62x15 :: dvl2
def dkl0 : List (Option PySem.Expr) := dk62x0 :: dk62x1 :: dk62x2 :: dk62x3 :: dk62x4 :: dk62x5 :: dk62x6 :: dk62x7 :: dkl1
def dvl0 : List PySem.Expr := dv62x0 :: dv62x1 :: dv62x2 :: dv62x3 :: dv62x4 :: dv62x5 :: dv62x6 :: dv62x7 :: dvl1
def st62 : Stmt := .Assign tg62 (.Dict dkl0 dvl0 dp62) ap62
def pr63 : Arguments := by
  refine' (?f : (fPar (nthS 63 PySem.Challenge.pw_ik0109_01.main.body) = _) → Arguments) ?h
  case h => conv => lhs; whnf
  case f =>
    intro h
    refine (?g : (a b : Arguments) → a = b → Arguments) _ _ h
    case g => exact fun a b _ => b
def bd63 : List Stmt := by
  refine' (?f : (fBody (nthS 63 PySem.Challenge.pw_ik0109_01.main.body) = _) → List Stmt) ?h
  case h => conv => lhs; whnf
  case f =>
    intro h
    refine (?g : (a b : List Stmt) → a = b → List Stmt) _ _ h
    case g => exact fun a b _ => b
def sp63 : Scope := by
  refine' (?f : (fSc (nthS 63 PySem.Challenge.pw_ik0109_01.main.body) = _) → Scope) ?h
  case h => conv => lhs; whnf
  case f =>
    intro h
    refine (?g : (a b : Scope) → a = b → Scope) _ _ h
    case g => exact fun a b _ => b
def ps63 : Pos := by
  refine' (?f : (fPos (nthS 63 PySem.Challenge.pw_ik0109_01.main.body) = _) → Pos) ?h
  case h => conv => lhs; whnf
  case f =>
    intro h
    refine (?g : (a b : Pos) → a = b → Pos) _ _ h
    case g => exact fun a b _ => b
def st63 : Stmt := .FunctionDef (Str.ofString "ISTERMINAL") pr63 bd63 [] none [] sp63 none (Str.ofString "ISTERMINAL") ps63
def pr64 : Arguments := by
  refine' (?f : (fPar (nthS 64 PySem.Challenge.pw_ik0109_01.main.body) = _) → Arguments) ?h
  case h => conv => lhs; whnf
  case f =>
    intro h
    refine (?g : (a b : Arguments) → a = b → Arguments) _ _ h
    case g => exact fun a b _ => b
def bd64 : List Stmt := by
  refine' (?f : (fBody (nthS 64 PySem.Challenge.pw_ik0109_01.main.body) = _) → List Stmt) ?h
  case h => conv => lhs; whnf
  case f =>
    intro h
    refine (?g : (a b : List Stmt) → a = b → List Stmt) _ _ h
    case g => exact fun a b _ => b
def sp64 : Scope := by
  refine' (?f : (fSc (nthS 64 PySem.Challenge.pw_ik0109_01.main.body) = _) → Scope) ?h
  case h => conv => lhs; whnf
  case f =>
    intro h
    refine (?g : (a b : Scope) → a = b → Scope) _ _ h
    case g => exact fun a b _ => b
def ps64 : Pos := by
  refine' (?f : (fPos (nthS 64 PySem.Challenge.pw_ik0109_01.main.body) = _) → Pos) ?h
  case h => conv => lhs; whnf
  case f =>
    intro h
    refine (?g : (a b : Pos) → a = b → Pos) _ _ h
    case g => exact fun a b _ => b
def st64 : Stmt := .FunctionDef (Str.ofString "ISNONTERMINAL") pr64 bd64 [] none [] sp64 none (Str.ofString "ISNONTERMINAL") ps64
def pr65 : Arguments := by
  refine' (?f : (fPar (nthS 65 PySem.Challenge.pw_ik0109_01.main.body) = _) → Arguments) ?h
  case h => conv => lhs; whnf
  case f =>
    intro h
    refine (?g : (a b : Arguments) → a = b → Arguments) _ _ h
    case g => exact fun a b _ => b
def bd65 : List Stmt := by
  refine' (?f : (fBody (nthS 65 PySem.Challenge.pw_ik0109_01.main.body) = _) → List Stmt) ?h
  case h => conv => lhs; whnf
  case f =>
    intro h
    refine (?g : (a b : List Stmt) → a = b → List Stmt) _ _ h
    case g => exact fun a b _ => b
def sp65 : Scope := by
  refine' (?f : (fSc (nthS 65 PySem.Challenge.pw_ik0109_01.main.body) = _) → Scope) ?h
  case h => conv => lhs; whnf
  case f =>
    intro h
    refine (?g : (a b : Scope) → a = b → Scope) _ _ h
    case g => exact fun a b _ => b
def ps65 : Pos := by
  refine' (?f : (fPos (nthS 65 PySem.Challenge.pw_ik0109_01.main.body) = _) → Pos) ?h
  case h => conv => lhs; whnf
  case f =>
    intro h
    refine (?g : (a b : Pos) → a = b → Pos) _ _ h
    case g => exact fun a b _ => b
def st65 : Stmt := .FunctionDef (Str.ofString "ISEOF") pr65 bd65 [] none [] sp65 none (Str.ofString "ISEOF") ps65
def st66 : Stmt := by
  refine' (?f : (nthS 66 PySem.Challenge.pw_ik0109_01.main.body = _) → Stmt) ?h
  case h => conv => lhs; whnf
  case f =>
    intro h
    refine (?g : (a b : Stmt) → a = b → Stmt) _ _ h
    case g => exact fun a b _ => b
def pr67 : Arguments := by
  refine' (?f : (fPar (nthS 67 PySem.Challenge.pw_ik0109_01.main.body) = _) → Arguments) ?h
  case h => conv => lhs; whnf
  case f =>
    intro h
    refine (?g : (a b : Arguments) → a = b → Arguments) _ _ h
    case g => exact fun a b _ => b
def bd67 : List Stmt := by
  refine' (?f : (fBody (nthS 67 PySem.Challenge.pw_ik0109_01.main.body) = _) → List Stmt) ?h
  case h => conv => lhs; whnf
  case f =>
    intro h
    refine (?g : (a b : List Stmt) → a = b → List Stmt) _ _ h
    case g => exact fun a b _ => b
def sp67 : Scope := by
  refine' (?f : (fSc (nthS 67 PySem.Challenge.pw_ik0109_01.main.body) = _) → Scope) ?h
  case h => conv => lhs; whnf
  case f =>
    intro h
    refine (?g : (a b : Scope) → a = b → Scope) _ _ h
    case g => exact fun a b _ => b
def ps67 : Pos := by
  refine' (?f : (fPos (nthS 67 PySem.Challenge.pw_ik0109_01.main.body) = _) → Pos) ?h
  case h => conv => lhs; whnf
  case f =>
    intro h
    refine (?g : (a b : Pos) → a = b → Pos) _ _ h
    case g => exact fun a b _ => b
def st67 : Stmt := .FunctionDef (Str.ofString "_law_operators") pr67 bd67 [] none [] sp67 none (Str.ofString "_law_operators") ps67
def pr68 : Arguments := by
  refine' (?f : (fPar (nthS 68 PySem.Challenge.pw_ik0109_01.main.body) = _) → Arguments) ?h
  case h => conv => lhs; whnf
  case f =>
    intro h
    refine (?g : (a b : Arguments) → a = b → Arguments) _ _ h
    case g => exact fun a b _ => b
def bd68 : List Stmt := by
  refine' (?f : (fBody (nthS 68 PySem.Challenge.pw_ik0109_01.main.body) = _) → List Stmt) ?h
  case h => conv => lhs; whnf
  case f =>
    intro h
    refine (?g : (a b : List Stmt) → a = b → List Stmt) _ _ h
    case g => exact fun a b _ => b
def sp68 : Scope := by
  refine' (?f : (fSc (nthS 68 PySem.Challenge.pw_ik0109_01.main.body) = _) → Scope) ?h
  case h => conv => lhs; whnf
  case f =>
    intro h
    refine (?g : (a b : Scope) → a = b → Scope) _ _ h
    case g => exact fun a b _ => b
def ps68 : Pos := by
  refine' (?f : (fPos (nthS 68 PySem.Challenge.pw_ik0109_01.main.body) = _) → Pos) ?h
  case h => conv => lhs; whnf
  case f =>
    intro h
    refine (?g : (a b : Pos) → a = b → Pos) _ _ h
    case g => exact fun a b _ => b
def st68 : Stmt := .FunctionDef (Str.ofString "_law_word") pr68 bd68 [] none [] sp68 none (Str.ofString "_law_word") ps68
def pr69 : Arguments := by
  refine' (?f : (fPar (nthS 69 PySem.Challenge.pw_ik0109_01.main.body) = _) → Arguments) ?h
  case h => conv => lhs; whnf
  case f =>
    intro h
    refine (?g : (a b : Arguments) → a = b → Arguments) _ _ h
    case g => exact fun a b _ => b
def bd69 : List Stmt := by
  refine' (?f : (fBody (nthS 69 PySem.Challenge.pw_ik0109_01.main.body) = _) → List Stmt) ?h
  case h => conv => lhs; whnf
  case f =>
    intro h
    refine (?g : (a b : List Stmt) → a = b → List Stmt) _ _ h
    case g => exact fun a b _ => b
def sp69 : Scope := by
  refine' (?f : (fSc (nthS 69 PySem.Challenge.pw_ik0109_01.main.body) = _) → Scope) ?h
  case h => conv => lhs; whnf
  case f =>
    intro h
    refine (?g : (a b : Scope) → a = b → Scope) _ _ h
    case g => exact fun a b _ => b
def ps69 : Pos := by
  refine' (?f : (fPos (nthS 69 PySem.Challenge.pw_ik0109_01.main.body) = _) → Pos) ?h
  case h => conv => lhs; whnf
  case f =>
    intro h
    refine (?g : (a b : Pos) → a = b → Pos) _ _ h
    case g => exact fun a b _ => b
def st69 : Stmt := .FunctionDef (Str.ofString "_law_read") pr69 bd69 [] none [] sp69 none (Str.ofString "_law_read") ps69
def pr70 : Arguments := by
  refine' (?f : (fPar (nthS 70 PySem.Challenge.pw_ik0109_01.main.body) = _) → Arguments) ?h
  case h => conv => lhs; whnf
  case f =>
    intro h
    refine (?g : (a b : Arguments) → a = b → Arguments) _ _ h
    case g => exact fun a b _ => b
def bd70 : List Stmt := by
  refine' (?f : (fBody (nthS 70 PySem.Challenge.pw_ik0109_01.main.body) = _) → List Stmt) ?h
  case h => conv => lhs; whnf
  case f =>
    intro h
    refine (?g : (a b : List Stmt) → a = b → List Stmt) _ _ h
    case g => exact fun a b _ => b
def sp70 : Scope := by
  refine' (?f : (fSc (nthS 70 PySem.Challenge.pw_ik0109_01.main.body) = _) → Scope) ?h
  case h => conv => lhs; whnf
  case f =>
    intro h
    refine (?g : (a b : Scope) → a = b → Scope) _ _ h
    case g => exact fun a b _ => b
def ps70 : Pos := by
  refine' (?f : (fPos (nthS 70 PySem.Challenge.pw_ik0109_01.main.body) = _) → Pos) ?h
  case h => conv => lhs; whnf
  case f =>
    intro h
    refine (?g : (a b : Pos) → a = b → Pos) _ _ h
    case g => exact fun a b _ => b
def st70 : Stmt := .FunctionDef (Str.ofString "_law_filter") pr70 bd70 [] none [] sp70 none (Str.ofString "_law_filter") ps70
def pr71 : Arguments := by
  refine' (?f : (fPar (nthS 71 PySem.Challenge.pw_ik0109_01.main.body) = _) → Arguments) ?h
  case h => conv => lhs; whnf
  case f =>
    intro h
    refine (?g : (a b : Arguments) → a = b → Arguments) _ _ h
    case g => exact fun a b _ => b
def bd71 : List Stmt := by
  refine' (?f : (fBody (nthS 71 PySem.Challenge.pw_ik0109_01.main.body) = _) → List Stmt) ?h
  case h => conv => lhs; whnf
  case f =>
    intro h
    refine (?g : (a b : List Stmt) → a = b → List Stmt) _ _ h
    case g => exact fun a b _ => b
def sp71 : Scope := by
  refine' (?f : (fSc (nthS 71 PySem.Challenge.pw_ik0109_01.main.body) = _) → Scope) ?h
  case h => conv => lhs; whnf
  case f =>
    intro h
    refine (?g : (a b : Scope) → a = b → Scope) _ _ h
    case g => exact fun a b _ => b
def ps71 : Pos := by
  refine' (?f : (fPos (nthS 71 PySem.Challenge.pw_ik0109_01.main.body) = _) → Pos) ?h
  case h => conv => lhs; whnf
  case f =>
    intro h
    refine (?g : (a b : Pos) → a = b → Pos) _ _ h
    case g => exact fun a b _ => b
def st71 : Stmt := .FunctionDef (Str.ofString "_law_run") pr71 bd71 [] none [] sp71 none (Str.ofString "_law_run") ps71
def pr72 : Arguments := by
  refine' (?f : (fPar (nthS 72 PySem.Challenge.pw_ik0109_01.main.body) = _) → Arguments) ?h
  case h => conv => lhs; whnf
  case f =>
    intro h
    refine (?g : (a b : Arguments) → a = b → Arguments) _ _ h
    case g => exact fun a b _ => b
def bd72 : List Stmt := by
  refine' (?f : (fBody (nthS 72 PySem.Challenge.pw_ik0109_01.main.body) = _) → List Stmt) ?h
  case h => conv => lhs; whnf
  case f =>
    intro h
    refine (?g : (a b : List Stmt) → a = b → List Stmt) _ _ h
    case g => exact fun a b _ => b
def sp72 : Scope := by
  refine' (?f : (fSc (nthS 72 PySem.Challenge.pw_ik0109_01.main.body) = _) → Scope) ?h
  case h => conv => lhs; whnf
  case f =>
    intro h
    refine (?g : (a b : Scope) → a = b → Scope) _ _ h
    case g => exact fun a b _ => b
def ps72 : Pos := by
  refine' (?f : (fPos (nthS 72 PySem.Challenge.pw_ik0109_01.main.body) = _) → Pos) ?h
  case h => conv => lhs; whnf
  case f =>
    intro h
    refine (?g : (a b : Pos) → a = b → Pos) _ _ h
    case g => exact fun a b _ => b
def st72 : Stmt := .FunctionDef (Str.ofString "_law_fine") pr72 bd72 [] none [] sp72 none (Str.ofString "_law_fine") ps72
def pr73 : Arguments := by
  refine' (?f : (fPar (nthS 73 PySem.Challenge.pw_ik0109_01.main.body) = _) → Arguments) ?h
  case h => conv => lhs; whnf
  case f =>
    intro h
    refine (?g : (a b : Arguments) → a = b → Arguments) _ _ h
    case g => exact fun a b _ => b
def bd73 : List Stmt := by
  refine' (?f : (fBody (nthS 73 PySem.Challenge.pw_ik0109_01.main.body) = _) → List Stmt) ?h
  case h => conv => lhs; whnf
  case f =>
    intro h
    refine (?g : (a b : List Stmt) → a = b → List Stmt) _ _ h
    case g => exact fun a b _ => b
def sp73 : Scope := by
  refine' (?f : (fSc (nthS 73 PySem.Challenge.pw_ik0109_01.main.body) = _) → Scope) ?h
  case h => conv => lhs; whnf
  case f =>
    intro h
    refine (?g : (a b : Scope) → a = b → Scope) _ _ h
    case g => exact fun a b _ => b
def ps73 : Pos := by
  refine' (?f : (fPos (nthS 73 PySem.Challenge.pw_ik0109_01.main.body) = _) → Pos) ?h
  case h => conv => lhs; whnf
  case f =>
    intro h
    refine (?g : (a b : Pos) → a = b → Pos) _ _ h
    case g => exact fun a b _ => b
def st73 : Stmt := .FunctionDef (Str.ofString "_law_nets") pr73 bd73 [] none [] sp73 none (Str.ofString "_law_nets") ps73
def pr74 : Arguments := by
  refine' (?f : (fPar (nthS 74 PySem.Challenge.pw_ik0109_01.main.body) = _) → Arguments) ?h
  case h => conv => lhs; whnf
  case f =>
    intro h
    refine (?g : (a b : Arguments) → a = b → Arguments) _ _ h
    case g => exact fun a b _ => b
def bd74 : List Stmt := by
  refine' (?f : (fBody (nthS 74 PySem.Challenge.pw_ik0109_01.main.body) = _) → List Stmt) ?h
  case h => conv => lhs; whnf
  case f =>
    intro h
    refine (?g : (a b : List Stmt) → a = b → List Stmt) _ _ h
    case g => exact fun a b _ => b
def sp74 : Scope := by
  refine' (?f : (fSc (nthS 74 PySem.Challenge.pw_ik0109_01.main.body) = _) → Scope) ?h
  case h => conv => lhs; whnf
  case f =>
    intro h
    refine (?g : (a b : Scope) → a = b → Scope) _ _ h
    case g => exact fun a b _ => b
def ps74 : Pos := by
  refine' (?f : (fPos (nthS 74 PySem.Challenge.pw_ik0109_01.main.body) = _) → Pos) ?h
  case h => conv => lhs; whnf
  case f =>
    intro h
    refine (?g : (a b : Pos) → a = b → Pos) _ _ h
    case g => exact fun a b _ => b
def st74 : Stmt := .FunctionDef (Str.ofString "_law_deed") pr74 bd74 [] none [] sp74 none (Str.ofString "_law_deed") ps74
def pr75 : Arguments := by
  refine' (?f : (fPar (nthS 75 PySem.Challenge.pw_ik0109_01.main.body) = _) → Arguments) ?h
  case h => conv => lhs; whnf
  case f =>
    intro h
    refine (?g : (a b : Arguments) → a = b → Arguments) _ _ h
    case g => exact fun a b _ => b
def bd75 : List Stmt := by
  refine' (?f : (fBody (nthS 75 PySem.Challenge.pw_ik0109_01.main.body) = _) → List Stmt) ?h
  case h => conv => lhs; whnf
  case f =>
    intro h
    refine (?g : (a b : List Stmt) → a = b → List Stmt) _ _ h
    case g => exact fun a b _ => b
def sp75 : Scope := by
  refine' (?f : (fSc (nthS 75 PySem.Challenge.pw_ik0109_01.main.body) = _) → Scope) ?h
  case h => conv => lhs; whnf
  case f =>
    intro h
    refine (?g : (a b : Scope) → a = b → Scope) _ _ h
    case g => exact fun a b _ => b
def ps75 : Pos := by
  refine' (?f : (fPos (nthS 75 PySem.Challenge.pw_ik0109_01.main.body) = _) → Pos) ?h
  case h => conv => lhs; whnf
  case f =>
    intro h
    refine (?g : (a b : Pos) → a = b → Pos) _ _ h
    case g => exact fun a b _ => b
def st75 : Stmt := .FunctionDef (Str.ofString "law") pr75 bd75 [] none [] sp75 none (Str.ofString "law") ps75
def nm0 : Str × NameKind := by
  refine' (?f : (nthN 0 PySem.Challenge.pw_ik0109_01.main.scope.names = _) → Str × NameKind) ?h
  case h => conv => lhs; whnf
  case f =>
    intro h
    refine (?g : (a b : Str × NameKind) → a = b → Str × NameKind) _ _ h
    case g => exact fun a b _ => b
def nm1 : Str × NameKind := by
  refine' (?f : (nthN 1 PySem.Challenge.pw_ik0109_01.main.scope.names = _) → Str × NameKind) ?h
  case h => conv => lhs; whnf
  case f =>
    intro h
    refine (?g : (a b : Str × NameKind) → a = b → Str × NameKind) _ _ h
    case g => exact fun a b _ => b
def nm2 : Str × NameKind := by
  refine' (?f : (nthN 2 PySem.Challenge.pw_ik0109_01.main.scope.names = _) → Str × NameKind) ?h
  case h => conv => lhs; whnf
  case f =>
    intro h
    refine (?g : (a b : Str × NameKind) → a = b → Str × NameKind) _ _ h
    case g => exact fun a b _ => b
def nm3 : Str × NameKind := by
  refine' (?f : (nthN 3 PySem.Challenge.pw_ik0109_01.main.scope.names = _) → Str × NameKind) ?h
  case h => conv => lhs; whnf
  case f =>
    intro h
    refine (?g : (a b : Str × NameKind) → a = b → Str × NameKind) _ _ h
    case g => exact fun a b _ => b
def nm4 : Str × NameKind := by
  refine' (?f : (nthN 4 PySem.Challenge.pw_ik0109_01.main.scope.names = _) → Str × NameKind) ?h
  case h => conv => lhs; whnf
  case f =>
    intro h
    refine (?g : (a b : Str × NameKind) → a = b → Str × NameKind) _ _ h
    case g => exact fun a b _ => b
def nm5 : Str × NameKind := by
  refine' (?f : (nthN 5 PySem.Challenge.pw_ik0109_01.main.scope.names = _) → Str × NameKind) ?h
  case h => conv => lhs; whnf
  case f =>
    intro h
    refine (?g : (a b : Str × NameKind) → a = b → Str × NameKind) _ _ h
    case g => exact fun a b _ => b
def nm6 : Str × NameKind := by
  refine' (?f : (nthN 6 PySem.Challenge.pw_ik0109_01.main.scope.names = _) → Str × NameKind) ?h
  case h => conv => lhs; whnf
  case f =>
    intro h
    refine (?g : (a b : Str × NameKind) → a = b → Str × NameKind) _ _ h
    case g => exact fun a b _ => b
def nm7 : Str × NameKind := by
  refine' (?f : (nthN 7 PySem.Challenge.pw_ik0109_01.main.scope.names = _) → Str × NameKind) ?h
  case h => conv => lhs; whnf
  case f =>
    intro h
    refine (?g : (a b : Str × NameKind) → a = b → Str × NameKind) _ _ h
    case g => exact fun a b _ => b
def nm8 : Str × NameKind := by
  refine' (?f : (nthN 8 PySem.Challenge.pw_ik0109_01.main.scope.names = _) → Str × NameKind) ?h
  case h => conv => lhs; whnf
  case f =>
    intro h
    refine (?g : (a b : Str × NameKind) → a = b → Str × NameKind) _ _ h
    case g => exact fun a b _ => b
def nm9 : Str × NameKind := by
  refine' (?f : (nthN 9 PySem.Challenge.pw_ik0109_01.main.scope.names = _) → Str × NameKind) ?h
  case h => conv => lhs; whnf
  case f =>
    intro h
    refine (?g : (a b : Str × NameKind) → a = b → Str × NameKind) _ _ h
    case g => exact fun a b _ => b
def nm10 : Str × NameKind := by
  refine' (?f : (nthN 10 PySem.Challenge.pw_ik0109_01.main.scope.names = _) → Str × NameKind) ?h
  case h => conv => lhs; whnf
  case f =>
    intro h
    refine (?g : (a b : Str × NameKind) → a = b → Str × NameKind) _ _ h
    case g => exact fun a b _ => b
def nm11 : Str × NameKind := by
  refine' (?f : (nthN 11 PySem.Challenge.pw_ik0109_01.main.scope.names = _) → Str × NameKind) ?h
  case h => conv => lhs; whnf
  case f =>
    intro h
    refine (?g : (a b : Str × NameKind) → a = b → Str × NameKind) _ _ h
    case g => exact fun a b _ => b
def nm12 : Str × NameKind := by
  refine' (?f : (nthN 12 PySem.Challenge.pw_ik0109_01.main.scope.names = _) → Str × NameKind) ?h
  case h => conv => lhs; whnf
  case f =>
    intro h
    refine (?g : (a b : Str × NameKind) → a = b → Str × NameKind) _ _ h
    case g => exact fun a b _ => b
def nm13 : Str × NameKind := by
  refine' (?f : (nthN 13 PySem.Challenge.pw_ik0109_01.main.scope.names = _) → Str × NameKind) ?h
  case h => conv => lhs; whnf
  case f =>
    intro h
    refine (?g : (a b : Str × NameKind) → a = b → Str × NameKind) _ _ h
    case g => exact fun a b _ => b
def nm14 : Str × NameKind := by
  refine' (?f : (nthN 14 PySem.Challenge.pw_ik0109_01.main.scope.names = _) → Str × NameKind) ?h
  case h => conv => lhs; whnf
  case f =>
    intro h
    refine (?g : (a b : Str × NameKind) → a = b → Str × NameKind) _ _ h
    case g => exact fun a b _ => b
def nm15 : Str × NameKind := by
  refine' (?f : (nthN 15 PySem.Challenge.pw_ik0109_01.main.scope.names = _) → Str × NameKind) ?h
  case h => conv => lhs; whnf
  case f =>
    intro h
    refine (?g : (a b : Str × NameKind) → a = b → Str × NameKind) _ _ h
    case g => exact fun a b _ => b
def nm16 : Str × NameKind := by
  refine' (?f : (nthN 16 PySem.Challenge.pw_ik0109_01.main.scope.names = _) → Str × NameKind) ?h
  case h => conv => lhs; whnf
  case f =>
    intro h
    refine (?g : (a b : Str × NameKind) → a = b → Str × NameKind) _ _ h
    case g => exact fun a b _ => b
def nm17 : Str × NameKind := by
  refine' (?f : (nthN 17 PySem.Challenge.pw_ik0109_01.main.scope.names = _) → Str × NameKind) ?h
  case h => conv => lhs; whnf
  case f =>
    intro h
    refine (?g : (a b : Str × NameKind) → a = b → Str × NameKind) _ _ h
    case g => exact fun a b _ => b
def nm18 : Str × NameKind := by
  refine' (?f : (nthN 18 PySem.Challenge.pw_ik0109_01.main.scope.names = _) → Str × NameKind) ?h
  case h => conv => lhs; whnf
  case f =>
    intro h
    refine (?g : (a b : Str × NameKind) → a = b → Str × NameKind) _ _ h
    case g => exact fun a b _ => b
def nm19 : Str × NameKind := by
  refine' (?f : (nthN 19 PySem.Challenge.pw_ik0109_01.main.scope.names = _) → Str × NameKind) ?h
  case h => conv => lhs; whnf
  case f =>
    intro h
    refine (?g : (a b : Str × NameKind) → a = b → Str × NameKind) _ _ h
    case g => exact fun a b _ => b
def nm20 : Str × NameKind := by
  refine' (?f : (nthN 20 PySem.Challenge.pw_ik0109_01.main.scope.names = _) → Str × NameKind) ?h
  case h => conv => lhs; whnf
  case f =>
    intro h
    refine (?g : (a b : Str × NameKind) → a = b → Str × NameKind) _ _ h
    case g => exact fun a b _ => b
def nm21 : Str × NameKind := by
  refine' (?f : (nthN 21 PySem.Challenge.pw_ik0109_01.main.scope.names = _) → Str × NameKind) ?h
  case h => conv => lhs; whnf
  case f =>
    intro h
    refine (?g : (a b : Str × NameKind) → a = b → Str × NameKind) _ _ h
    case g => exact fun a b _ => b
def nm22 : Str × NameKind := by
  refine' (?f : (nthN 22 PySem.Challenge.pw_ik0109_01.main.scope.names = _) → Str × NameKind) ?h
  case h => conv => lhs; whnf
  case f =>
    intro h
    refine (?g : (a b : Str × NameKind) → a = b → Str × NameKind) _ _ h
    case g => exact fun a b _ => b
def nm23 : Str × NameKind := by
  refine' (?f : (nthN 23 PySem.Challenge.pw_ik0109_01.main.scope.names = _) → Str × NameKind) ?h
  case h => conv => lhs; whnf
  case f =>
    intro h
    refine (?g : (a b : Str × NameKind) → a = b → Str × NameKind) _ _ h
    case g => exact fun a b _ => b
def nm24 : Str × NameKind := by
  refine' (?f : (nthN 24 PySem.Challenge.pw_ik0109_01.main.scope.names = _) → Str × NameKind) ?h
  case h => conv => lhs; whnf
  case f =>
    intro h
    refine (?g : (a b : Str × NameKind) → a = b → Str × NameKind) _ _ h
    case g => exact fun a b _ => b
def nm25 : Str × NameKind := by
  refine' (?f : (nthN 25 PySem.Challenge.pw_ik0109_01.main.scope.names = _) → Str × NameKind) ?h
  case h => conv => lhs; whnf
  case f =>
    intro h
    refine (?g : (a b : Str × NameKind) → a = b → Str × NameKind) _ _ h
    case g => exact fun a b _ => b
def nm26 : Str × NameKind := by
  refine' (?f : (nthN 26 PySem.Challenge.pw_ik0109_01.main.scope.names = _) → Str × NameKind) ?h
  case h => conv => lhs; whnf
  case f =>
    intro h
    refine (?g : (a b : Str × NameKind) → a = b → Str × NameKind) _ _ h
    case g => exact fun a b _ => b
def nm27 : Str × NameKind := by
  refine' (?f : (nthN 27 PySem.Challenge.pw_ik0109_01.main.scope.names = _) → Str × NameKind) ?h
  case h => conv => lhs; whnf
  case f =>
    intro h
    refine (?g : (a b : Str × NameKind) → a = b → Str × NameKind) _ _ h
    case g => exact fun a b _ => b
def nm28 : Str × NameKind := by
  refine' (?f : (nthN 28 PySem.Challenge.pw_ik0109_01.main.scope.names = _) → Str × NameKind) ?h
  case h => conv => lhs; whnf
  case f =>
    intro h
    refine (?g : (a b : Str × NameKind) → a = b → Str × NameKind) _ _ h
    case g => exact fun a b _ => b
def nm29 : Str × NameKind := by
  refine' (?f : (nthN 29 PySem.Challenge.pw_ik0109_01.main.scope.names = _) → Str × NameKind) ?h
  case h => conv => lhs; whnf
  case f =>
    intro h
    refine (?g : (a b : Str × NameKind) → a = b → Str × NameKind) _ _ h
    case g => exact fun a b _ => b
def nm30 : Str × NameKind := by
  refine' (?f : (nthN 30 PySem.Challenge.pw_ik0109_01.main.scope.names = _) → Str × NameKind) ?h
  case h => conv => lhs; whnf
  case f =>
    intro h
    refine (?g : (a b : Str × NameKind) → a = b → Str × NameKind) _ _ h
    case g => exact fun a b _ => b
def nm31 : Str × NameKind := by
  refine' (?f : (nthN 31 PySem.Challenge.pw_ik0109_01.main.scope.names = _) → Str × NameKind) ?h
  case h => conv => lhs; whnf
  case f =>
    intro h
    refine (?g : (a b : Str × NameKind) → a = b → Str × NameKind) _ _ h
    case g => exact fun a b _ => b
def nm32 : Str × NameKind := by
  refine' (?f : (nthN 32 PySem.Challenge.pw_ik0109_01.main.scope.names = _) → Str × NameKind) ?h
  case h => conv => lhs; whnf
  case f =>
    intro h
    refine (?g : (a b : Str × NameKind) → a = b → Str × NameKind) _ _ h
    case g => exact fun a b _ => b
def nm33 : Str × NameKind := by
  refine' (?f : (nthN 33 PySem.Challenge.pw_ik0109_01.main.scope.names = _) → Str × NameKind) ?h
  case h => conv => lhs; whnf
  case f =>
    intro h
    refine (?g : (a b : Str × NameKind) → a = b → Str × NameKind) _ _ h
    case g => exact fun a b _ => b
def nm34 : Str × NameKind := by
  refine' (?f : (nthN 34 PySem.Challenge.pw_ik0109_01.main.scope.names = _) → Str × NameKind) ?h
  case h => conv => lhs; whnf
  case f =>
    intro h
    refine (?g : (a b : Str × NameKind) → a = b → Str × NameKind) _ _ h
    case g => exact fun a b _ => b
def nm35 : Str × NameKind := by
  refine' (?f : (nthN 35 PySem.Challenge.pw_ik0109_01.main.scope.names = _) → Str × NameKind) ?h
  case h => conv => lhs; whnf
  case f =>
    intro h
    refine (?g : (a b : Str × NameKind) → a = b → Str × NameKind) _ _ h
    case g => exact fun a b _ => b
def nm36 : Str × NameKind := by
  refine' (?f : (nthN 36 PySem.Challenge.pw_ik0109_01.main.scope.names = _) → Str × NameKind) ?h
  case h => conv => lhs; whnf
  case f =>
    intro h
    refine (?g : (a b : Str × NameKind) → a = b → Str × NameKind) _ _ h
    case g => exact fun a b _ => b
def nm37 : Str × NameKind := by
  refine' (?f : (nthN 37 PySem.Challenge.pw_ik0109_01.main.scope.names = _) → Str × NameKind) ?h
  case h => conv => lhs; whnf
  case f =>
    intro h
    refine (?g : (a b : Str × NameKind) → a = b → Str × NameKind) _ _ h
    case g => exact fun a b _ => b
def nm38 : Str × NameKind := by
  refine' (?f : (nthN 38 PySem.Challenge.pw_ik0109_01.main.scope.names = _) → Str × NameKind) ?h
  case h => conv => lhs; whnf
  case f =>
    intro h
    refine (?g : (a b : Str × NameKind) → a = b → Str × NameKind) _ _ h
    case g => exact fun a b _ => b
def nm39 : Str × NameKind := by
  refine' (?f : (nthN 39 PySem.Challenge.pw_ik0109_01.main.scope.names = _) → Str × NameKind) ?h
  case h => conv => lhs; whnf
  case f =>
    intro h
    refine (?g : (a b : Str × NameKind) → a = b → Str × NameKind) _ _ h
    case g => exact fun a b _ => b
def nm40 : Str × NameKind := by
  refine' (?f : (nthN 40 PySem.Challenge.pw_ik0109_01.main.scope.names = _) → Str × NameKind) ?h
  case h => conv => lhs; whnf
  case f =>
    intro h
    refine (?g : (a b : Str × NameKind) → a = b → Str × NameKind) _ _ h
    case g => exact fun a b _ => b
def nm41 : Str × NameKind := by
  refine' (?f : (nthN 41 PySem.Challenge.pw_ik0109_01.main.scope.names = _) → Str × NameKind) ?h
  case h => conv => lhs; whnf
  case f =>
    intro h
    refine (?g : (a b : Str × NameKind) → a = b → Str × NameKind) _ _ h
    case g => exact fun a b _ => b
def nm42 : Str × NameKind := by
  refine' (?f : (nthN 42 PySem.Challenge.pw_ik0109_01.main.scope.names = _) → Str × NameKind) ?h
  case h => conv => lhs; whnf
  case f =>
    intro h
    refine (?g : (a b : Str × NameKind) → a = b → Str × NameKind) _ _ h
    case g => exact fun a b _ => b
def nm43 : Str × NameKind := by
  refine' (?f : (nthN 43 PySem.Challenge.pw_ik0109_01.main.scope.names = _) → Str × NameKind) ?h
  case h => conv => lhs; whnf
  case f =>
    intro h
    refine (?g : (a b : Str × NameKind) → a = b → Str × NameKind) _ _ h
    case g => exact fun a b _ => b
def nm44 : Str × NameKind := by
  refine' (?f : (nthN 44 PySem.Challenge.pw_ik0109_01.main.scope.names = _) → Str × NameKind) ?h
  case h => conv => lhs; whnf
  case f =>
    intro h
    refine (?g : (a b : Str × NameKind) → a = b → Str × NameKind) _ _ h
    case g => exact fun a b _ => b
def nm45 : Str × NameKind := by
  refine' (?f : (nthN 45 PySem.Challenge.pw_ik0109_01.main.scope.names = _) → Str × NameKind) ?h
  case h => conv => lhs; whnf
  case f =>
    intro h
    refine (?g : (a b : Str × NameKind) → a = b → Str × NameKind) _ _ h
    case g => exact fun a b _ => b
def nm46 : Str × NameKind := by
  refine' (?f : (nthN 46 PySem.Challenge.pw_ik0109_01.main.scope.names = _) → Str × NameKind) ?h
  case h => conv => lhs; whnf
  case f =>
    intro h
    refine (?g : (a b : Str × NameKind) → a = b → Str × NameKind) _ _ h
    case g => exact fun a b _ => b
def nm47 : Str × NameKind := by
  refine' (?f : (nthN 47 PySem.Challenge.pw_ik0109_01.main.scope.names = _) → Str × NameKind) ?h
  case h => conv => lhs; whnf
  case f =>
    intro h
    refine (?g : (a b : Str × NameKind) → a = b → Str × NameKind) _ _ h
    case g => exact fun a b _ => b
def nm48 : Str × NameKind := by
  refine' (?f : (nthN 48 PySem.Challenge.pw_ik0109_01.main.scope.names = _) → Str × NameKind) ?h
  case h => conv => lhs; whnf
  case f =>
    intro h
    refine (?g : (a b : Str × NameKind) → a = b → Str × NameKind) _ _ h
    case g => exact fun a b _ => b
def nm49 : Str × NameKind := by
  refine' (?f : (nthN 49 PySem.Challenge.pw_ik0109_01.main.scope.names = _) → Str × NameKind) ?h
  case h => conv => lhs; whnf
  case f =>
    intro h
    refine (?g : (a b : Str × NameKind) → a = b → Str × NameKind) _ _ h
    case g => exact fun a b _ => b
def nm50 : Str × NameKind := by
  refine' (?f : (nthN 50 PySem.Challenge.pw_ik0109_01.main.scope.names = _) → Str × NameKind) ?h
  case h => conv => lhs; whnf
  case f =>
    intro h
    refine (?g : (a b : Str × NameKind) → a = b → Str × NameKind) _ _ h
    case g => exact fun a b _ => b
def nm51 : Str × NameKind := by
  refine' (?f : (nthN 51 PySem.Challenge.pw_ik0109_01.main.scope.names = _) → Str × NameKind) ?h
  case h => conv => lhs; whnf
  case f =>
    intro h
    refine (?g : (a b : Str × NameKind) → a = b → Str × NameKind) _ _ h
    case g => exact fun a b _ => b
def nm52 : Str × NameKind := by
  refine' (?f : (nthN 52 PySem.Challenge.pw_ik0109_01.main.scope.names = _) → Str × NameKind) ?h
  case h => conv => lhs; whnf
  case f =>
    intro h
    refine (?g : (a b : Str × NameKind) → a = b → Str × NameKind) _ _ h
    case g => exact fun a b _ => b
def nm53 : Str × NameKind := by
  refine' (?f : (nthN 53 PySem.Challenge.pw_ik0109_01.main.scope.names = _) → Str × NameKind) ?h
  case h => conv => lhs; whnf
  case f =>
    intro h
    refine (?g : (a b : Str × NameKind) → a = b → Str × NameKind) _ _ h
    case g => exact fun a b _ => b
def nm54 : Str × NameKind := by
  refine' (?f : (nthN 54 PySem.Challenge.pw_ik0109_01.main.scope.names = _) → Str × NameKind) ?h
  case h => conv => lhs; whnf
  case f =>
    intro h
    refine (?g : (a b : Str × NameKind) → a = b → Str × NameKind) _ _ h
    case g => exact fun a b _ => b
def nm55 : Str × NameKind := by
  refine' (?f : (nthN 55 PySem.Challenge.pw_ik0109_01.main.scope.names = _) → Str × NameKind) ?h
  case h => conv => lhs; whnf
  case f =>
    intro h
    refine (?g : (a b : Str × NameKind) → a = b → Str × NameKind) _ _ h
    case g => exact fun a b _ => b
def nm56 : Str × NameKind := by
  refine' (?f : (nthN 56 PySem.Challenge.pw_ik0109_01.main.scope.names = _) → Str × NameKind) ?h
  case h => conv => lhs; whnf
  case f =>
    intro h
    refine (?g : (a b : Str × NameKind) → a = b → Str × NameKind) _ _ h
    case g => exact fun a b _ => b
def nm57 : Str × NameKind := by
  refine' (?f : (nthN 57 PySem.Challenge.pw_ik0109_01.main.scope.names = _) → Str × NameKind) ?h
  case h => conv => lhs; whnf
  case f =>
    intro h
    refine (?g : (a b : Str × NameKind) → a = b → Str × NameKind) _ _ h
    case g => exact fun a b _ => b
def nm58 : Str × NameKind := by
  refine' (?f : (nthN 58 PySem.Challenge.pw_ik0109_01.main.scope.names = _) → Str × NameKind) ?h
  case h => conv => lhs; whnf
  case f =>
    intro h
    refine (?g : (a b : Str × NameKind) → a = b → Str × NameKind) _ _ h
    case g => exact fun a b _ => b
def nm59 : Str × NameKind := by
  refine' (?f : (nthN 59 PySem.Challenge.pw_ik0109_01.main.scope.names = _) → Str × NameKind) ?h
  case h => conv => lhs; whnf
  case f =>
    intro h
    refine (?g : (a b : Str × NameKind) → a = b → Str × NameKind) _ _ h
    case g => exact fun a b _ => b
def nm60 : Str × NameKind := by
  refine' (?f : (nthN 60 PySem.Challenge.pw_ik0109_01.main.scope.names = _) → Str × NameKind) ?h
  case h => conv => lhs; whnf
  case f =>
    intro h
    refine (?g : (a b : Str × NameKind) → a = b → Str × NameKind) _ _ h
    case g => exact fun a b _ => b
def nm61 : Str × NameKind := by
  refine' (?f : (nthN 61 PySem.Challenge.pw_ik0109_01.main.scope.names = _) → Str × NameKind) ?h
  case h => conv => lhs; whnf
  case f =>
    intro h
    refine (?g : (a b : Str × NameKind) → a = b → Str × NameKind) _ _ h
    case g => exact fun a b _ => b
def nm62 : Str × NameKind := by
  refine' (?f : (nthN 62 PySem.Challenge.pw_ik0109_01.main.scope.names = _) → Str × NameKind) ?h
  case h => conv => lhs; whnf
  case f =>
    intro h
    refine (?g : (a b : Str × NameKind) → a = b → Str × NameKind) _ _ h
    case g => exact fun a b _ => b
def nm63 : Str × NameKind := by
  refine' (?f : (nthN 63 PySem.Challenge.pw_ik0109_01.main.scope.names = _) → Str × NameKind) ?h
  case h => conv => lhs; whnf
  case f =>
    intro h
    refine (?g : (a b : Str × NameKind) → a = b → Str × NameKind) _ _ h
    case g => exact fun a b _ => b
def nm64 : Str × NameKind := by
  refine' (?f : (nthN 64 PySem.Challenge.pw_ik0109_01.main.scope.names = _) → Str × NameKind) ?h
  case h => conv => lhs; whnf
  case f =>
    intro h
    refine (?g : (a b : Str × NameKind) → a = b → Str × NameKind) _ _ h
    case g => exact fun a b _ => b
def nm65 : Str × NameKind := by
  refine' (?f : (nthN 65 PySem.Challenge.pw_ik0109_01.main.scope.names = _) → Str × NameKind) ?h
  case h => conv => lhs; whnf
  case f =>
    intro h
    refine (?g : (a b : Str × NameKind) → a = b → Str × NameKind) _ _ h
    case g => exact fun a b _ => b
def nm66 : Str × NameKind := by
  refine' (?f : (nthN 66 PySem.Challenge.pw_ik0109_01.main.scope.names = _) → Str × NameKind) ?h
  case h => conv => lhs; whnf
  case f =>
    intro h
    refine (?g : (a b : Str × NameKind) → a = b → Str × NameKind) _ _ h
    case g => exact fun a b _ => b
def nm67 : Str × NameKind := by
  refine' (?f : (nthN 67 PySem.Challenge.pw_ik0109_01.main.scope.names = _) → Str × NameKind) ?h
  case h => conv => lhs; whnf
  case f =>
    intro h
    refine (?g : (a b : Str × NameKind) → a = b → Str × NameKind) _ _ h
    case g => exact fun a b _ => b
def nm68 : Str × NameKind := by
  refine' (?f : (nthN 68 PySem.Challenge.pw_ik0109_01.main.scope.names = _) → Str × NameKind) ?h
  case h => conv => lhs; whnf
  case f =>
    intro h
    refine (?g : (a b : Str × NameKind) → a = b → Str × NameKind) _ _ h
    case g => exact fun a b _ => b
def nm69 : Str × NameKind := by
  refine' (?f : (nthN 69 PySem.Challenge.pw_ik0109_01.main.scope.names = _) → Str × NameKind) ?h
  case h => conv => lhs; whnf
  case f =>
    intro h
    refine (?g : (a b : Str × NameKind) → a = b → Str × NameKind) _ _ h
    case g => exact fun a b _ => b
def nm70 : Str × NameKind := by
  refine' (?f : (nthN 70 PySem.Challenge.pw_ik0109_01.main.scope.names = _) → Str × NameKind) ?h
  case h => conv => lhs; whnf
  case f =>
    intro h
    refine (?g : (a b : Str × NameKind) → a = b → Str × NameKind) _ _ h
    case g => exact fun a b _ => b
def nm71 : Str × NameKind := by
  refine' (?f : (nthN 71 PySem.Challenge.pw_ik0109_01.main.scope.names = _) → Str × NameKind) ?h
  case h => conv => lhs; whnf
  case f =>
    intro h
    refine (?g : (a b : Str × NameKind) → a = b → Str × NameKind) _ _ h
    case g => exact fun a b _ => b
def nm72 : Str × NameKind := by
  refine' (?f : (nthN 72 PySem.Challenge.pw_ik0109_01.main.scope.names = _) → Str × NameKind) ?h
  case h => conv => lhs; whnf
  case f =>
    intro h
    refine (?g : (a b : Str × NameKind) → a = b → Str × NameKind) _ _ h
    case g => exact fun a b _ => b
def nm73 : Str × NameKind := by
  refine' (?f : (nthN 73 PySem.Challenge.pw_ik0109_01.main.scope.names = _) → Str × NameKind) ?h
  case h => conv => lhs; whnf
  case f =>
    intro h
    refine (?g : (a b : Str × NameKind) → a = b → Str × NameKind) _ _ h
    case g => exact fun a b _ => b
def given0 : Given := by
  refine' (?f : (PySem.Challenge.pw_ik0109_01.given = _) → Given) ?h
  case h => conv => lhs; whnf
  case f =>
    intro h
    refine (?g : (a b : Given) → a = b → Given) _ _ h
    case g => exact fun a b _ => b
def sl9 : List Stmt := st72 :: st73 :: st74 :: st75 :: []
def sl8 : List Stmt := st64 :: st65 :: st66 :: st67 :: st68 :: st69 :: st70 :: st71 :: sl9
def sl7 : List Stmt := st56 :: st57 :: st58 :: st59 :: st60 :: st61 :: st62 :: st63 :: sl8
def sl6 : List Stmt := st48 :: st49 :: st50 :: st51 :: st52 :: st53 :: st54 :: st55 :: sl7
def sl5 : List Stmt := st40 :: st41 :: st42 :: st43 :: st44 :: st45 :: st46 :: st47 :: sl6
def sl4 : List Stmt := st32 :: st33 :: st34 :: st35 :: st36 :: st37 :: st38 :: st39 :: sl5
def sl3 : List Stmt := st24 :: st25 :: st26 :: st27 :: st28 :: st29 :: st30 :: st31 :: sl4
def sl2 : List Stmt := st16 :: st17 :: st18 :: st19 :: st20 :: st21 :: st22 :: st23 :: sl3
def sl1 : List Stmt := st8 :: st9 :: st10 :: st11 :: st12 :: st13 :: st14 :: st15 :: sl2
def sl0 : List Stmt := st0 :: st1 :: st2 :: st3 :: st4 :: st5 :: st6 :: st7 :: sl1
def nl9 : List (Str × NameKind) := nm72 :: nm73 :: []
def nl8 : List (Str × NameKind) := nm64 :: nm65 :: nm66 :: nm67 :: nm68 :: nm69 :: nm70 :: nm71 :: nl9
def nl7 : List (Str × NameKind) := nm56 :: nm57 :: nm58 :: nm59 :: nm60 :: nm61 :: nm62 :: nm63 :: nl8
def nl6 : List (Str × NameKind) := nm48 :: nm49 :: nm50 :: nm51 :: nm52 :: nm53 :: nm54 :: nm55 :: nl7
def nl5 : List (Str × NameKind) := nm40 :: nm41 :: nm42 :: nm43 :: nm44 :: nm45 :: nm46 :: nm47 :: nl6
def nl4 : List (Str × NameKind) := nm32 :: nm33 :: nm34 :: nm35 :: nm36 :: nm37 :: nm38 :: nm39 :: nl5
def nl3 : List (Str × NameKind) := nm24 :: nm25 :: nm26 :: nm27 :: nm28 :: nm29 :: nm30 :: nm31 :: nl4
def nl2 : List (Str × NameKind) := nm16 :: nm17 :: nm18 :: nm19 :: nm20 :: nm21 :: nm22 :: nm23 :: nl3
def nl1 : List (Str × NameKind) := nm8 :: nm9 :: nm10 :: nm11 :: nm12 :: nm13 :: nm14 :: nm15 :: nl2
def nl0 : List (Str × NameKind) := nm0 :: nm1 :: nm2 :: nm3 :: nm4 :: nm5 :: nm6 :: nm7 :: nl1
def sc0 : Scope := { kind := ScopeKind.module, names := nl0, isGenerator := false, isCoroutine := false, more := [] }
def md0 : Module := { body := sl0, scope := sc0, futureAnnotations := false, file := "/claim/cut.py", more := [] }
def pw0 : Program := { main := md0, modules := [], parses := [], absent := [], harvested := [], given := given0 }
theorem pw_same : pw0 = PySem.Challenge.pw_ik0109_01 := rfl
def rw0 : OpenLaw := { prog := pw0, name := Str.ofString "law", about := [Str.ofString "hls_to_rgb"], foot := 9, most := some 63, bound := none, writes := false }
theorem rw_same : rw0 = PySem.Challenge.rw_ik0109_01 := rfl
noncomputable def ent (P : PySem.Params) (k : Str) (t : Tok) (v : Int) (u : Tok) : DictEntry := { hash := PyData.keyHash P k, key := .str k t, val := .int v u }
noncomputable def en0 (P : PySem.Params) : DictEntry := ent P (Str.ofString "!") 398 54 394
noncomputable def en1 (P : PySem.Params) : DictEntry := ent P (Str.ofString "!=") 400 28 342
noncomputable def en2 (P : PySem.Params) : DictEntry := ent P (Str.ofString "%") 402 24 334
noncomputable def en3 (P : PySem.Params) : DictEntry := ent P (Str.ofString "%=") 404 40 366
noncomputable def en4 (P : PySem.Params) : DictEntry := ent P (Str.ofString "&") 406 19 324
noncomputable def en5 (P : PySem.Params) : DictEntry := ent P (Str.ofString "&=") 408 41 368
noncomputable def en6 (P : PySem.Params) : DictEntry := ent P (Str.ofString "(") 410 7 300
noncomputable def en7 (P : PySem.Params) : DictEntry := ent P (Str.ofString ")") 412 8 302
noncomputable def en8 (P : PySem.Params) : DictEntry := ent P (Str.ofString "*") 414 16 318
noncomputable def en9 (P : PySem.Params) : DictEntry := ent P (Str.ofString "**") 416 35 356
noncomputable def en10 (P : PySem.Params) : DictEntry := ent P (Str.ofString "**=") 418 46 378
noncomputable def en11 (P : PySem.Params) : DictEntry := ent P (Str.ofString "*=") 420 38 362
noncomputable def en12 (P : PySem.Params) : DictEntry := ent P (Str.ofString "+") 422 14 314
noncomputable def en13 (P : PySem.Params) : DictEntry := ent P (Str.ofString "+=") 424 36 358
noncomputable def en14 (P : PySem.Params) : DictEntry := ent P (Str.ofString ",") 426 12 310
noncomputable def en15 (P : PySem.Params) : DictEntry := ent P (Str.ofString "-") 428 15 316
noncomputable def en16 (P : PySem.Params) : DictEntry := ent P (Str.ofString "-=") 430 37 360
noncomputable def en17 (P : PySem.Params) : DictEntry := ent P (Str.ofString "->") 432 51 388
noncomputable def en18 (P : PySem.Params) : DictEntry := ent P (Str.ofString ".") 434 23 332
noncomputable def en19 (P : PySem.Params) : DictEntry := ent P (Str.ofString "...") 436 52 390
noncomputable def en20 (P : PySem.Params) : DictEntry := ent P (Str.ofString "/") 438 17 320
noncomputable def en21 (P : PySem.Params) : DictEntry := ent P (Str.ofString "//") 440 47 380
noncomputable def en22 (P : PySem.Params) : DictEntry := ent P (Str.ofString "//=") 442 48 382
noncomputable def en23 (P : PySem.Params) : DictEntry := ent P (Str.ofString "/=") 444 39 364
noncomputable def en24 (P : PySem.Params) : DictEntry := ent P (Str.ofString ":") 446 11 308
noncomputable def en25 (P : PySem.Params) : DictEntry := ent P (Str.ofString ":=") 448 53 392
noncomputable def en26 (P : PySem.Params) : DictEntry := ent P (Str.ofString ";") 450 13 312
noncomputable def en27 (P : PySem.Params) : DictEntry := ent P (Str.ofString "<") 452 20 326
noncomputable def en28 (P : PySem.Params) : DictEntry := ent P (Str.ofString "<<") 454 33 352
noncomputable def en29 (P : PySem.Params) : DictEntry := ent P (Str.ofString "<<=") 456 44 374
noncomputable def en30 (P : PySem.Params) : DictEntry := ent P (Str.ofString "<=") 458 29 344
noncomputable def en31 (P : PySem.Params) : DictEntry := ent P (Str.ofString "=") 460 22 330
noncomputable def en32 (P : PySem.Params) : DictEntry := ent P (Str.ofString "==") 462 27 340
noncomputable def en33 (P : PySem.Params) : DictEntry := ent P (Str.ofString ">") 464 21 328
noncomputable def en34 (P : PySem.Params) : DictEntry := ent P (Str.ofString ">=") 466 30 346
noncomputable def en35 (P : PySem.Params) : DictEntry := ent P (Str.ofString ">>") 467 34 354
noncomputable def en36 (P : PySem.Params) : DictEntry := ent P (Str.ofString ">>=") 468 45 376
noncomputable def en37 (P : PySem.Params) : DictEntry := ent P (Str.ofString "@") 469 49 384
noncomputable def en38 (P : PySem.Params) : DictEntry := ent P (Str.ofString "@=") 470 50 386
noncomputable def en39 (P : PySem.Params) : DictEntry := ent P (Str.ofString "[") 471 9 304
noncomputable def en40 (P : PySem.Params) : DictEntry := ent P (Str.ofString "]") 472 10 306
noncomputable def en41 (P : PySem.Params) : DictEntry := ent P (Str.ofString "^") 473 32 350
noncomputable def en42 (P : PySem.Params) : DictEntry := ent P (Str.ofString "^=") 474 43 372
noncomputable def en43 (P : PySem.Params) : DictEntry := ent P (Str.ofString "{") 475 25 336
noncomputable def en44 (P : PySem.Params) : DictEntry := ent P (Str.ofString "|") 476 18 322
noncomputable def en45 (P : PySem.Params) : DictEntry := ent P (Str.ofString "|=") 477 42 370
noncomputable def en46 (P : PySem.Params) : DictEntry := ent P (Str.ofString "}") 478 26 338
noncomputable def en47 (P : PySem.Params) : DictEntry := ent P (Str.ofString "~") 479 31 348
noncomputable def el5 (P : PySem.Params) : List DictEntry := en40 P :: en41 P :: en42 P :: en43 P :: en44 P :: en45 P :: en46 P :: en47 P :: []
noncomputable def el4 (P : PySem.Params) : List DictEntry := en32 P :: en33 P :: en34 P :: en35 P :: en36 P :: en37 P :: en38 P :: en39 P :: el5 P
noncomputable def el3 (P : PySem.Params) : List DictEntry := en24 P :: en25 P :: en26 P :: en27 P :: en28 P :: en29 P :: en30 P :: en31 P :: el4 P
noncomputable def el2 (P : PySem.Params) : List DictEntry := en16 P :: en17 P :: en18 P :: en19 P :: en20 P :: en21 P :: en22 P :: en23 P :: el3 P
noncomputable def el1 (P : PySem.Params) : List DictEntry := en8 P :: en9 P :: en10 P :: en11 P :: en12 P :: en13 P :: en14 P :: en15 P :: el2 P
noncomputable def el0 (P : PySem.Params) : List DictEntry := en0 P :: en1 P :: en2 P :: en3 P :: en4 P :: en5 P :: en6 P :: en7 P :: el1 P
noncomputable def fo21 : Obj := { cls := .type "function", data := .func { name := Str.ofString "rgb_to_yiq", qualname := Str.ofString "rgb_to_yiq", params := pr4, body := .stmts bd4, scope := sp4, globals := 3, closure := [], defaults := .none, kwdefaults := .none, pyModule := .str (Str.ofString "cpy313.colorsys") 187, code := .ref 20 } }
noncomputable def fo28 : Obj := { cls := .type "function", data := .func { name := Str.ofString "yiq_to_rgb", qualname := Str.ofString "yiq_to_rgb", params := pr5, body := .stmts bd5, scope := sp5, globals := 3, closure := [], defaults := .none, kwdefaults := .none, pyModule := .str (Str.ofString "cpy313.colorsys") 187, code := .ref 27 } }
noncomputable def fo35 : Obj := { cls := .type "function", data := .func { name := Str.ofString "rgb_to_hls", qualname := Str.ofString "rgb_to_hls", params := pr6, body := .stmts bd6, scope := sp6, globals := 3, closure := [], defaults := .none, kwdefaults := .none, pyModule := .str (Str.ofString "cpy313.colorsys") 187, code := .ref 34 } }
noncomputable def fo42 : Obj := { cls := .type "function", data := .func { name := Str.ofString "hls_to_rgb", qualname := Str.ofString "hls_to_rgb", params := pr7, body := .stmts bd7, scope := sp7, globals := 3, closure := [], defaults := .none, kwdefaults := .none, pyModule := .str (Str.ofString "cpy313.colorsys") 187, code := .ref 41 } }
noncomputable def fo49 : Obj := { cls := .type "function", data := .func { name := Str.ofString "_v", qualname := Str.ofString "_v", params := pr8, body := .stmts bd8, scope := sp8, globals := 3, closure := [], defaults := .none, kwdefaults := .none, pyModule := .str (Str.ofString "cpy313.colorsys") 187, code := .ref 48 } }
noncomputable def fo56 : Obj := { cls := .type "function", data := .func { name := Str.ofString "rgb_to_hsv", qualname := Str.ofString "rgb_to_hsv", params := pr9, body := .stmts bd9, scope := sp9, globals := 3, closure := [], defaults := .none, kwdefaults := .none, pyModule := .str (Str.ofString "cpy313.colorsys") 187, code := .ref 55 } }
noncomputable def fo63 : Obj := { cls := .type "function", data := .func { name := Str.ofString "hsv_to_rgb", qualname := Str.ofString "hsv_to_rgb", params := pr10, body := .stmts bd10, scope := sp10, globals := 3, closure := [], defaults := .none, kwdefaults := .none, pyModule := .str (Str.ofString "cpy313.colorsys") 187, code := .ref 62 } }
noncomputable def fo73 : Obj := { cls := .type "function", data := .func { name := Str.ofString "ISTERMINAL", qualname := Str.ofString "ISTERMINAL", params := pr63, body := .stmts bd63, scope := sp63, globals := 3, closure := [], defaults := .none, kwdefaults := .none, pyModule := .str (Str.ofString "cpy313.token") 296, code := .ref 72 } }
noncomputable def fo80 : Obj := { cls := .type "function", data := .func { name := Str.ofString "ISNONTERMINAL", qualname := Str.ofString "ISNONTERMINAL", params := pr64, body := .stmts bd64, scope := sp64, globals := 3, closure := [], defaults := .none, kwdefaults := .none, pyModule := .str (Str.ofString "cpy313.token") 296, code := .ref 79 } }
noncomputable def fo87 : Obj := { cls := .type "function", data := .func { name := Str.ofString "ISEOF", qualname := Str.ofString "ISEOF", params := pr65, body := .stmts bd65, scope := sp65, globals := 3, closure := [], defaults := .none, kwdefaults := .none, pyModule := .str (Str.ofString "cpy313.token") 296, code := .ref 86 } }
noncomputable def fo94 : Obj := { cls := .type "function", data := .func { name := Str.ofString "_law_operators", qualname := Str.ofString "_law_operators", params := pr67, body := .stmts bd67, scope := sp67, globals := 3, closure := [], defaults := .none, kwdefaults := .none, pyModule := .str (Str.ofString "law_ik0109_01") 516, code := .ref 93 } }
noncomputable def fo101 : Obj := { cls := .type "function", data := .func { name := Str.ofString "_law_word", qualname := Str.ofString "_law_word", params := pr68, body := .stmts bd68, scope := sp68, globals := 3, closure := [], defaults := .none, kwdefaults := .none, pyModule := .str (Str.ofString "law_ik0109_01") 516, code := .ref 100 } }
noncomputable def fo106 : Obj := { cls := .type "function", data := .func { name := Str.ofString "_law_read", qualname := Str.ofString "_law_read", params := pr69, body := .stmts bd69, scope := sp69, globals := 3, closure := [], defaults := .none, kwdefaults := .none, pyModule := .str (Str.ofString "law_ik0109_01") 516, code := .ref 105 } }
noncomputable def fo111 : Obj := { cls := .type "function", data := .func { name := Str.ofString "_law_filter", qualname := Str.ofString "_law_filter", params := pr70, body := .stmts bd70, scope := sp70, globals := 3, closure := [], defaults := .none, kwdefaults := .none, pyModule := .str (Str.ofString "law_ik0109_01") 516, code := .ref 110 } }
noncomputable def fo118 : Obj := { cls := .type "function", data := .func { name := Str.ofString "_law_run", qualname := Str.ofString "_law_run", params := pr71, body := .stmts bd71, scope := sp71, globals := 3, closure := [], defaults := .none, kwdefaults := .none, pyModule := .str (Str.ofString "law_ik0109_01") 516, code := .ref 117 } }
noncomputable def fo123 : Obj := { cls := .type "function", data := .func { name := Str.ofString "_law_fine", qualname := Str.ofString "_law_fine", params := pr72, body := .stmts bd72, scope := sp72, globals := 3, closure := [], defaults := .none, kwdefaults := .none, pyModule := .str (Str.ofString "law_ik0109_01") 516, code := .ref 122 } }
noncomputable def fo130 : Obj := { cls := .type "function", data := .func { name := Str.ofString "_law_nets", qualname := Str.ofString "_law_nets", params := pr73, body := .stmts bd73, scope := sp73, globals := 3, closure := [], defaults := .none, kwdefaults := .none, pyModule := .str (Str.ofString "law_ik0109_01") 516, code := .ref 129 } }
noncomputable def fo135 : Obj := { cls := .type "function", data := .func { name := Str.ofString "_law_deed", qualname := Str.ofString "_law_deed", params := pr74, body := .stmts bd74, scope := sp74, globals := 3, closure := [], defaults := .none, kwdefaults := .none, pyModule := .str (Str.ofString "law_ik0109_01") 516, code := .ref 134 } }
noncomputable def fo140 : Obj := { cls := .type "function", data := .func { name := Str.ofString "law", qualname := Str.ofString "law", params := pr75, body := .stmts bd75, scope := sp75, globals := 3, closure := [], defaults := .none, kwdefaults := .none, pyModule := .str (Str.ofString "law_ik0109_01") 516, code := .ref 139 } }
noncomputable def co20 : Obj := { cls := Value.type "code", data := Data.fields #[Value.str (Str.ofString "rgb_to_yiq") 201, Value.str (Str.ofString "rgb_to_yiq") 202, Value.str (Str.ofString "/claim/cut.py") 203, Value.int 5 0, Value.int 3 0, Value.int 0 0, Value.int 0 0, Value.int 3 0, Value.ref 15, Value.bool true, Value.int 181 0, Value.ref 16, Value.none, Value.ref 17, Value.ref 18, Value.ref 19, Value.int 210 0, Value.int 5 0, Value.str (Str.ofString "/claim/cut.py") 211] }
noncomputable def co27 : Obj := { cls := Value.type "code", data := Data.fields #[Value.str (Str.ofString "yiq_to_rgb") 213, Value.str (Str.ofString "yiq_to_rgb") 214, Value.str (Str.ofString "/claim/cut.py") 215, Value.int 10 0, Value.int 3 0, Value.int 0 0, Value.int 0 0, Value.int 3 0, Value.ref 22, Value.bool true, Value.int 181 0, Value.ref 23, Value.none, Value.ref 24, Value.ref 25, Value.ref 26, Value.int 222 0, Value.int 10 0, Value.str (Str.ofString "/claim/cut.py") 223] }
noncomputable def co34 : Obj := { cls := Value.type "code", data := Data.fields #[Value.str (Str.ofString "rgb_to_hls") 225, Value.str (Str.ofString "rgb_to_hls") 226, Value.str (Str.ofString "/claim/cut.py") 227, Value.int 27 0, Value.int 3 0, Value.int 0 0, Value.int 0 0, Value.int 3 0, Value.ref 29, Value.bool true, Value.int 181 0, Value.ref 30, Value.none, Value.ref 31, Value.ref 32, Value.ref 33, Value.int 241 0, Value.int 27 0, Value.str (Str.ofString "/claim/cut.py") 242] }
noncomputable def co41 : Obj := { cls := Value.type "code", data := Data.fields #[Value.str (Str.ofString "hls_to_rgb") 244, Value.str (Str.ofString "hls_to_rgb") 245, Value.str (Str.ofString "/claim/cut.py") 246, Value.int 50 0, Value.int 3 0, Value.int 0 0, Value.int 0 0, Value.int 3 0, Value.ref 36, Value.bool true, Value.int 181 0, Value.ref 37, Value.none, Value.ref 38, Value.ref 39, Value.ref 40, Value.int 252 0, Value.int 50 0, Value.str (Str.ofString "/claim/cut.py") 253] }
noncomputable def co48 : Obj := { cls := Value.type "code", data := Data.fields #[Value.str (Str.ofString "_v") 255, Value.str (Str.ofString "_v") 256, Value.str (Str.ofString "/claim/cut.py") 257, Value.int 59 0, Value.int 3 0, Value.int 0 0, Value.int 0 0, Value.int 3 0, Value.ref 43, Value.bool true, Value.int 181 0, Value.ref 44, Value.none, Value.ref 45, Value.ref 46, Value.ref 47, Value.int 261 0, Value.int 59 0, Value.str (Str.ofString "/claim/cut.py") 262] }
noncomputable def co55 : Obj := { cls := Value.type "code", data := Data.fields #[Value.str (Str.ofString "rgb_to_hsv") 264, Value.str (Str.ofString "rgb_to_hsv") 265, Value.str (Str.ofString "/claim/cut.py") 266, Value.int 68 0, Value.int 3 0, Value.int 0 0, Value.int 0 0, Value.int 3 0, Value.ref 50, Value.bool true, Value.int 181 0, Value.ref 51, Value.none, Value.ref 52, Value.ref 53, Value.ref 54, Value.int 279 0, Value.int 68 0, Value.str (Str.ofString "/claim/cut.py") 280] }
noncomputable def co62 : Obj := { cls := Value.type "code", data := Data.fields #[Value.str (Str.ofString "hsv_to_rgb") 282, Value.str (Str.ofString "hsv_to_rgb") 283, Value.str (Str.ofString "/claim/cut.py") 284, Value.int 87 0, Value.int 3 0, Value.int 0 0, Value.int 0 0, Value.int 3 0, Value.ref 57, Value.bool true, Value.int 181 0, Value.ref 58, Value.none, Value.ref 59, Value.ref 60, Value.ref 61, Value.int 293 0, Value.int 87 0, Value.str (Str.ofString "/claim/cut.py") 294] }
noncomputable def co72 : Obj := { cls := Value.type "code", data := Data.fields #[Value.str (Str.ofString "ISTERMINAL") 495, Value.str (Str.ofString "ISTERMINAL") 496, Value.str (Str.ofString "/claim/cut.py") 497, Value.int 160 0, Value.int 1 0, Value.int 0 0, Value.int 0 0, Value.int 3 0, Value.ref 67, Value.bool true, Value.int 181 0, Value.ref 68, Value.none, Value.ref 69, Value.ref 70, Value.ref 71, Value.int 499 0, Value.int 160 0, Value.str (Str.ofString "/claim/cut.py") 500] }
noncomputable def co79 : Obj := { cls := Value.type "code", data := Data.fields #[Value.str (Str.ofString "ISNONTERMINAL") 502, Value.str (Str.ofString "ISNONTERMINAL") 503, Value.str (Str.ofString "/claim/cut.py") 504, Value.int 162 0, Value.int 1 0, Value.int 0 0, Value.int 0 0, Value.int 3 0, Value.ref 74, Value.bool true, Value.int 181 0, Value.ref 75, Value.none, Value.ref 76, Value.ref 77, Value.ref 78, Value.int 506 0, Value.int 162 0, Value.str (Str.ofString "/claim/cut.py") 507] }
noncomputable def co86 : Obj := { cls := Value.type "code", data := Data.fields #[Value.str (Str.ofString "ISEOF") 509, Value.str (Str.ofString "ISEOF") 510, Value.str (Str.ofString "/claim/cut.py") 511, Value.int 164 0, Value.int 1 0, Value.int 0 0, Value.int 0 0, Value.int 3 0, Value.ref 81, Value.bool true, Value.int 181 0, Value.ref 82, Value.none, Value.ref 83, Value.ref 84, Value.ref 85, Value.int 513 0, Value.int 164 0, Value.str (Str.ofString "/claim/cut.py") 514] }
noncomputable def co93 : Obj := { cls := Value.type "code", data := Data.fields #[Value.str (Str.ofString "_law_operators") 518, Value.str (Str.ofString "_law_operators") 519, Value.str (Str.ofString "/claim/cut.py") 520, Value.int 167 0, Value.int 0 0, Value.int 0 0, Value.int 0 0, Value.int 3 0, Value.ref 88, Value.bool true, Value.int 181 0, Value.ref 89, Value.none, Value.ref 90, Value.ref 91, Value.ref 92, Value.int 522 0, Value.int 167 0, Value.str (Str.ofString "/claim/cut.py") 523] }
noncomputable def co100 : Obj := { cls := Value.type "code", data := Data.fields #[Value.str (Str.ofString "_law_word") 525, Value.str (Str.ofString "_law_word") 526, Value.str (Str.ofString "/claim/cut.py") 527, Value.int 170 0, Value.int 1 0, Value.int 0 0, Value.int 0 0, Value.int 3 0, Value.ref 95, Value.bool true, Value.int 181 0, Value.ref 96, Value.none, Value.ref 97, Value.ref 98, Value.ref 99, Value.int 530 0, Value.int 170 0, Value.str (Str.ofString "/claim/cut.py") 531] }
noncomputable def co105 : Obj := { cls := Value.type "code", data := Data.fields #[Value.str (Str.ofString "_law_read") 533, Value.str (Str.ofString "_law_read") 534, Value.str (Str.ofString "/claim/cut.py") 535, Value.int 173 0, Value.int 3 0, Value.int 0 0, Value.int 0 0, Value.int 3 0, Value.ref 102, Value.bool true, Value.int 181 0, Value.ref 103, Value.none, Value.none, Value.none, Value.ref 104, Value.int 536 0, Value.int 173 0, Value.str (Str.ofString "/claim/cut.py") 537] }
noncomputable def co110 : Obj := { cls := Value.type "code", data := Data.fields #[Value.str (Str.ofString "_law_filter") 539, Value.str (Str.ofString "_law_filter") 540, Value.str (Str.ofString "/claim/cut.py") 541, Value.int 182 0, Value.int 2 0, Value.int 0 0, Value.int 0 0, Value.int 3 0, Value.ref 107, Value.bool true, Value.int 181 0, Value.ref 108, Value.none, Value.none, Value.none, Value.ref 109, Value.int 542 0, Value.int 182 0, Value.str (Str.ofString "/claim/cut.py") 543] }
noncomputable def co117 : Obj := { cls := Value.type "code", data := Data.fields #[Value.str (Str.ofString "_law_run") 545, Value.str (Str.ofString "_law_run") 546, Value.str (Str.ofString "/claim/cut.py") 547, Value.int 195 0, Value.int 3 0, Value.int 0 0, Value.int 0 0, Value.int 3 0, Value.ref 112, Value.bool true, Value.int 181 0, Value.ref 113, Value.none, Value.ref 114, Value.ref 115, Value.ref 116, Value.int 553 0, Value.int 195 0, Value.str (Str.ofString "/claim/cut.py") 554] }
noncomputable def co122 : Obj := { cls := Value.type "code", data := Data.fields #[Value.str (Str.ofString "_law_fine") 556, Value.str (Str.ofString "_law_fine") 557, Value.str (Str.ofString "/claim/cut.py") 558, Value.int 202 0, Value.int 1 0, Value.int 0 0, Value.int 0 0, Value.int 3 0, Value.ref 119, Value.bool true, Value.int 181 0, Value.ref 120, Value.none, Value.none, Value.none, Value.ref 121, Value.int 559 0, Value.int 202 0, Value.str (Str.ofString "/claim/cut.py") 560] }
noncomputable def co129 : Obj := { cls := Value.type "code", data := Data.fields #[Value.str (Str.ofString "_law_nets") 562, Value.str (Str.ofString "_law_nets") 563, Value.str (Str.ofString "/claim/cut.py") 564, Value.int 207 0, Value.int 1 0, Value.int 0 0, Value.int 0 0, Value.int 3 0, Value.ref 124, Value.bool true, Value.int 181 0, Value.ref 125, Value.none, Value.ref 126, Value.ref 127, Value.ref 128, Value.int 575 0, Value.int 207 0, Value.str (Str.ofString "/claim/cut.py") 576] }
noncomputable def co134 : Obj := { cls := Value.type "code", data := Data.fields #[Value.str (Str.ofString "_law_deed") 578, Value.str (Str.ofString "_law_deed") 579, Value.str (Str.ofString "/claim/cut.py") 580, Value.int 216 0, Value.int 2 0, Value.int 0 0, Value.int 0 0, Value.int 3 0, Value.ref 131, Value.bool true, Value.int 181 0, Value.ref 132, Value.none, Value.none, Value.none, Value.ref 133, Value.int 581 0, Value.int 216 0, Value.str (Str.ofString "/claim/cut.py") 582] }
noncomputable def co139 : Obj := { cls := Value.type "code", data := Data.fields #[Value.str (Str.ofString "law") 584, Value.str (Str.ofString "law") 585, Value.str (Str.ofString "/claim/cut.py") 586, Value.int 223 0, Value.int 1 0, Value.int 0 0, Value.int 0 0, Value.int 3 0, Value.ref 136, Value.bool true, Value.int 181 0, Value.ref 137, Value.none, Value.none, Value.none, Value.ref 138, Value.int 587 0, Value.int 223 0, Value.str (Str.ofString "/claim/cut.py") 588] }
noncomputable def gm0 (P : PySem.Params) : DictEntry := { hash := PyData.keyHash P (Str.ofString "__name__"), key := .str (Str.ofString "__name__") 165, val := Value.str (Str.ofString "law_ik0109_01") 516 }
noncomputable def gm1 (P : PySem.Params) : DictEntry := { hash := PyData.keyHash P (Str.ofString "__doc__"), key := .str (Str.ofString "__doc__") 166, val := Value.none }
noncomputable def gm2 (P : PySem.Params) : DictEntry := { hash := PyData.keyHash P (Str.ofString "__package__"), key := .str (Str.ofString "__package__") 167, val := Value.none }
noncomputable def gm3 (P : PySem.Params) : DictEntry := { hash := PyData.keyHash P (Str.ofString "__loader__"), key := .str (Str.ofString "__loader__") 168, val := Value.builtin "__main__.__loader__#opaque" }
noncomputable def gm4 (P : PySem.Params) : DictEntry := { hash := PyData.keyHash P (Str.ofString "__spec__"), key := .str (Str.ofString "__spec__") 169, val := Value.none }
noncomputable def gm5 (P : PySem.Params) : DictEntry := { hash := PyData.keyHash P (Str.ofString "__annotations__"), key := .str (Str.ofString "__annotations__") 170, val := Value.ref 6 }
noncomputable def gm6 (P : PySem.Params) : DictEntry := { hash := PyData.keyHash P (Str.ofString "__builtins__"), key := .str (Str.ofString "__builtins__") 171, val := Value.ref 4 }
noncomputable def gm7 (P : PySem.Params) : DictEntry := { hash := PyData.keyHash P (Str.ofString "__file__"), key := .str (Str.ofString "__file__") 173, val := Value.str (Str.ofString "/claim/cut.py") 172 }
noncomputable def gm8 (P : PySem.Params) : DictEntry := { hash := PyData.keyHash P (Str.ofString "__cached__"), key := .str (Str.ofString "__cached__") 174, val := Value.none }
noncomputable def gm9 (P : PySem.Params) : DictEntry := { hash := PyData.keyHash P (Str.ofString "ONE_THIRD"), key := .str (Str.ofString "ONE_THIRD") 192, val := Value.float 4599676419421066581 191 }
noncomputable def gm10 (P : PySem.Params) : DictEntry := { hash := PyData.keyHash P (Str.ofString "ONE_SIXTH"), key := .str (Str.ofString "ONE_SIXTH") 196, val := Value.float 4595172819793696085 195 }
noncomputable def gm11 (P : PySem.Params) : DictEntry := { hash := PyData.keyHash P (Str.ofString "TWO_THIRD"), key := .str (Str.ofString "TWO_THIRD") 200, val := Value.float 4604180019048437077 199 }
noncomputable def gm12 (P : PySem.Params) : DictEntry := { hash := PyData.keyHash P (Str.ofString "rgb_to_yiq"), key := .str (Str.ofString "rgb_to_yiq") 212, val := Value.ref 21 }
noncomputable def gm13 (P : PySem.Params) : DictEntry := { hash := PyData.keyHash P (Str.ofString "yiq_to_rgb"), key := .str (Str.ofString "yiq_to_rgb") 224, val := Value.ref 28 }
noncomputable def gm14 (P : PySem.Params) : DictEntry := { hash := PyData.keyHash P (Str.ofString "rgb_to_hls"), key := .str (Str.ofString "rgb_to_hls") 243, val := Value.ref 35 }
noncomputable def gm15 (P : PySem.Params) : DictEntry := { hash := PyData.keyHash P (Str.ofString "hls_to_rgb"), key := .str (Str.ofString "hls_to_rgb") 254, val := Value.ref 42 }
noncomputable def gm16 (P : PySem.Params) : DictEntry := { hash := PyData.keyHash P (Str.ofString "_v"), key := .str (Str.ofString "_v") 263, val := Value.ref 49 }
noncomputable def gm17 (P : PySem.Params) : DictEntry := { hash := PyData.keyHash P (Str.ofString "rgb_to_hsv"), key := .str (Str.ofString "rgb_to_hsv") 281, val := Value.ref 56 }
noncomputable def gm18 (P : PySem.Params) : DictEntry := { hash := PyData.keyHash P (Str.ofString "hsv_to_rgb"), key := .str (Str.ofString "hsv_to_rgb") 295, val := Value.ref 63 }
noncomputable def gm19 (P : PySem.Params) : DictEntry := { hash := PyData.keyHash P (Str.ofString "ENDMARKER"), key := .str (Str.ofString "ENDMARKER") 299, val := Value.int 0 298 }
noncomputable def gm20 (P : PySem.Params) : DictEntry := { hash := PyData.keyHash P (Str.ofString "LPAR"), key := .str (Str.ofString "LPAR") 301, val := Value.int 7 300 }
noncomputable def gm21 (P : PySem.Params) : DictEntry := { hash := PyData.keyHash P (Str.ofString "RPAR"), key := .str (Str.ofString "RPAR") 303, val := Value.int 8 302 }
noncomputable def gm22 (P : PySem.Params) : DictEntry := { hash := PyData.keyHash P (Str.ofString "LSQB"), key := .str (Str.ofString "LSQB") 305, val := Value.int 9 304 }
noncomputable def gm23 (P : PySem.Params) : DictEntry := { hash := PyData.keyHash P (Str.ofString "RSQB"), key := .str (Str.ofString "RSQB") 307, val := Value.int 10 306 }
noncomputable def gm24 (P : PySem.Params) : DictEntry := { hash := PyData.keyHash P (Str.ofString "COLON"), key := .str (Str.ofString "COLON") 309, val := Value.int 11 308 }
noncomputable def gm25 (P : PySem.Params) : DictEntry := { hash := PyData.keyHash P (Str.ofString "COMMA"), key := .str (Str.ofString "COMMA") 311, val := Value.int 12 310 }
noncomputable def gm26 (P : PySem.Params) : DictEntry := { hash := PyData.keyHash P (Str.ofString "SEMI"), key := .str (Str.ofString "SEMI") 313, val := Value.int 13 312 }
noncomputable def gm27 (P : PySem.Params) : DictEntry := { hash := PyData.keyHash P (Str.ofString "PLUS"), key := .str (Str.ofString "PLUS") 315, val := Value.int 14 314 }
noncomputable def gm28 (P : PySem.Params) : DictEntry := { hash := PyData.keyHash P (Str.ofString "MINUS"), key := .str (Str.ofString "MINUS") 317, val := Value.int 15 316 }
noncomputable def gm29 (P : PySem.Params) : DictEntry := { hash := PyData.keyHash P (Str.ofString "STAR"), key := .str (Str.ofString "STAR") 319, val := Value.int 16 318 }
noncomputable def gm30 (P : PySem.Params) : DictEntry := { hash := PyData.keyHash P (Str.ofString "SLASH"), key := .str (Str.ofString "SLASH") 321, val := Value.int 17 320 }
noncomputable def gm31 (P : PySem.Params) : DictEntry := { hash := PyData.keyHash P (Str.ofString "VBAR"), key := .str (Str.ofString "VBAR") 323, val := Value.int 18 322 }
noncomputable def gm32 (P : PySem.Params) : DictEntry := { hash := PyData.keyHash P (Str.ofString "AMPER"), key := .str (Str.ofString "AMPER") 325, val := Value.int 19 324 }
noncomputable def gm33 (P : PySem.Params) : DictEntry := { hash := PyData.keyHash P (Str.ofString "LESS"), key := .str (Str.ofString "LESS") 327, val := Value.int 20 326 }
noncomputable def gm34 (P : PySem.Params) : DictEntry := { hash := PyData.keyHash P (Str.ofString "GREATER"), key := .str (Str.ofString "GREATER") 329, val := Value.int 21 328 }
noncomputable def gm35 (P : PySem.Params) : DictEntry := { hash := PyData.keyHash P (Str.ofString "EQUAL"), key := .str (Str.ofString "EQUAL") 331, val := Value.int 22 330 }
noncomputable def gm36 (P : PySem.Params) : DictEntry := { hash := PyData.keyHash P (Str.ofString "DOT"), key := .str (Str.ofString "DOT") 333, val := Value.int 23 332 }
noncomputable def gm37 (P : PySem.Params) : DictEntry := { hash := PyData.keyHash P (Str.ofString "PERCENT"), key := .str (Str.ofString "PERCENT") 335, val := Value.int 24 334 }
noncomputable def gm38 (P : PySem.Params) : DictEntry := { hash := PyData.keyHash P (Str.ofString "LBRACE"), key := .str (Str.ofString "LBRACE") 337, val := Value.int 25 336 }
noncomputable def gm39 (P : PySem.Params) : DictEntry := { hash := PyData.keyHash P (Str.ofString "RBRACE"), key := .str (Str.ofString "RBRACE") 339, val := Value.int 26 338 }
noncomputable def gm40 (P : PySem.Params) : DictEntry := { hash := PyData.keyHash P (Str.ofString "EQEQUAL"), key := .str (Str.ofString "EQEQUAL") 341, val := Value.int 27 340 }
noncomputable def gm41 (P : PySem.Params) : DictEntry := { hash := PyData.keyHash P (Str.ofString "NOTEQUAL"), key := .str (Str.ofString "NOTEQUAL") 343, val := Value.int 28 342 }
noncomputable def gm42 (P : PySem.Params) : DictEntry := { hash := PyData.keyHash P (Str.ofString "LESSEQUAL"), key := .str (Str.ofString "LESSEQUAL") 345, val := Value.int 29 344 }
noncomputable def gm43 (P : PySem.Params) : DictEntry := { hash := PyData.keyHash P (Str.ofString "GREATEREQUAL"), key := .str (Str.ofString "GREATEREQUAL") 347, val := Value.int 30 346 }
noncomputable def gm44 (P : PySem.Params) : DictEntry := { hash := PyData.keyHash P (Str.ofString "TILDE"), key := .str (Str.ofString "TILDE") 349, val := Value.int 31 348 }
noncomputable def gm45 (P : PySem.Params) : DictEntry := { hash := PyData.keyHash P (Str.ofString "CIRCUMFLEX"), key := .str (Str.ofString "CIRCUMFLEX") 351, val := Value.int 32 350 }
noncomputable def gm46 (P : PySem.Params) : DictEntry := { hash := PyData.keyHash P (Str.ofString "LEFTSHIFT"), key := .str (Str.ofString "LEFTSHIFT") 353, val := Value.int 33 352 }
noncomputable def gm47 (P : PySem.Params) : DictEntry := { hash := PyData.keyHash P (Str.ofString "RIGHTSHIFT"), key := .str (Str.ofString "RIGHTSHIFT") 355, val := Value.int 34 354 }
noncomputable def gm48 (P : PySem.Params) : DictEntry := { hash := PyData.keyHash P (Str.ofString "DOUBLESTAR"), key := .str (Str.ofString "DOUBLESTAR") 357, val := Value.int 35 356 }
noncomputable def gm49 (P : PySem.Params) : DictEntry := { hash := PyData.keyHash P (Str.ofString "PLUSEQUAL"), key := .str (Str.ofString "PLUSEQUAL") 359, val := Value.int 36 358 }
noncomputable def gm50 (P : PySem.Params) : DictEntry := { hash := PyData.keyHash P (Str.ofString "MINEQUAL"), key := .str (Str.ofString "MINEQUAL") 361, val := Value.int 37 360 }
noncomputable def gm51 (P : PySem.Params) : DictEntry := { hash := PyData.keyHash P (Str.ofString "STAREQUAL"), key := .str (Str.ofString "STAREQUAL") 363, val := Value.int 38 362 }
noncomputable def gm52 (P : PySem.Params) : DictEntry := { hash := PyData.keyHash P (Str.ofString "SLASHEQUAL"), key := .str (Str.ofString "SLASHEQUAL") 365, val := Value.int 39 364 }
noncomputable def gm53 (P : PySem.Params) : DictEntry := { hash := PyData.keyHash P (Str.ofString "PERCENTEQUAL"), key := .str (Str.ofString "PERCENTEQUAL") 367, val := Value.int 40 366 }
noncomputable def gm54 (P : PySem.Params) : DictEntry := { hash := PyData.keyHash P (Str.ofString "AMPEREQUAL"), key := .str (Str.ofString "AMPEREQUAL") 369, val := Value.int 41 368 }
noncomputable def gm55 (P : PySem.Params) : DictEntry := { hash := PyData.keyHash P (Str.ofString "VBAREQUAL"), key := .str (Str.ofString "VBAREQUAL") 371, val := Value.int 42 370 }
noncomputable def gm56 (P : PySem.Params) : DictEntry := { hash := PyData.keyHash P (Str.ofString "CIRCUMFLEXEQUAL"), key := .str (Str.ofString "CIRCUMFLEXEQUAL") 373, val := Value.int 43 372 }
noncomputable def gm57 (P : PySem.Params) : DictEntry := { hash := PyData.keyHash P (Str.ofString "LEFTSHIFTEQUAL"), key := .str (Str.ofString "LEFTSHIFTEQUAL") 375, val := Value.int 44 374 }
noncomputable def gm58 (P : PySem.Params) : DictEntry := { hash := PyData.keyHash P (Str.ofString "RIGHTSHIFTEQUAL"), key := .str (Str.ofString "RIGHTSHIFTEQUAL") 377, val := Value.int 45 376 }
noncomputable def gm59 (P : PySem.Params) : DictEntry := { hash := PyData.keyHash P (Str.ofString "DOUBLESTAREQUAL"), key := .str (Str.ofString "DOUBLESTAREQUAL") 379, val := Value.int 46 378 }
noncomputable def gm60 (P : PySem.Params) : DictEntry := { hash := PyData.keyHash P (Str.ofString "DOUBLESLASH"), key := .str (Str.ofString "DOUBLESLASH") 381, val := Value.int 47 380 }
noncomputable def gm61 (P : PySem.Params) : DictEntry := { hash := PyData.keyHash P (Str.ofString "DOUBLESLASHEQUAL"), key := .str (Str.ofString "DOUBLESLASHEQUAL") 383, val := Value.int 48 382 }
noncomputable def gm62 (P : PySem.Params) : DictEntry := { hash := PyData.keyHash P (Str.ofString "AT"), key := .str (Str.ofString "AT") 385, val := Value.int 49 384 }
noncomputable def gm63 (P : PySem.Params) : DictEntry := { hash := PyData.keyHash P (Str.ofString "ATEQUAL"), key := .str (Str.ofString "ATEQUAL") 387, val := Value.int 50 386 }
noncomputable def gm64 (P : PySem.Params) : DictEntry := { hash := PyData.keyHash P (Str.ofString "RARROW"), key := .str (Str.ofString "RARROW") 389, val := Value.int 51 388 }
noncomputable def gm65 (P : PySem.Params) : DictEntry := { hash := PyData.keyHash P (Str.ofString "ELLIPSIS"), key := .str (Str.ofString "ELLIPSIS") 391, val := Value.int 52 390 }
noncomputable def gm66 (P : PySem.Params) : DictEntry := { hash := PyData.keyHash P (Str.ofString "COLONEQUAL"), key := .str (Str.ofString "COLONEQUAL") 393, val := Value.int 53 392 }
noncomputable def gm67 (P : PySem.Params) : DictEntry := { hash := PyData.keyHash P (Str.ofString "EXCLAMATION"), key := .str (Str.ofString "EXCLAMATION") 395, val := Value.int 54 394 }
noncomputable def gm68 (P : PySem.Params) : DictEntry := { hash := PyData.keyHash P (Str.ofString "NT_OFFSET"), key := .str (Str.ofString "NT_OFFSET") 397, val := Value.int 256 396 }
noncomputable def gm69 (P : PySem.Params) : DictEntry := { hash := PyData.keyHash P (Str.ofString "EXACT_TOKEN_TYPES"), key := .str (Str.ofString "EXACT_TOKEN_TYPES") 494, val := Value.ref 64 }
noncomputable def gm70 (P : PySem.Params) : DictEntry := { hash := PyData.keyHash P (Str.ofString "ISTERMINAL"), key := .str (Str.ofString "ISTERMINAL") 501, val := Value.ref 73 }
noncomputable def gm71 (P : PySem.Params) : DictEntry := { hash := PyData.keyHash P (Str.ofString "ISNONTERMINAL"), key := .str (Str.ofString "ISNONTERMINAL") 508, val := Value.ref 80 }
noncomputable def gm72 (P : PySem.Params) : DictEntry := { hash := PyData.keyHash P (Str.ofString "ISEOF"), key := .str (Str.ofString "ISEOF") 515, val := Value.ref 87 }
noncomputable def gm73 (P : PySem.Params) : DictEntry := { hash := PyData.keyHash P (Str.ofString "_law_operators"), key := .str (Str.ofString "_law_operators") 524, val := Value.ref 94 }
noncomputable def gm74 (P : PySem.Params) : DictEntry := { hash := PyData.keyHash P (Str.ofString "_law_word"), key := .str (Str.ofString "_law_word") 532, val := Value.ref 101 }
noncomputable def gm75 (P : PySem.Params) : DictEntry := { hash := PyData.keyHash P (Str.ofString "_law_read"), key := .str (Str.ofString "_law_read") 538, val := Value.ref 106 }
noncomputable def gm76 (P : PySem.Params) : DictEntry := { hash := PyData.keyHash P (Str.ofString "_law_filter"), key := .str (Str.ofString "_law_filter") 544, val := Value.ref 111 }
noncomputable def gm77 (P : PySem.Params) : DictEntry := { hash := PyData.keyHash P (Str.ofString "_law_run"), key := .str (Str.ofString "_law_run") 555, val := Value.ref 118 }
noncomputable def gm78 (P : PySem.Params) : DictEntry := { hash := PyData.keyHash P (Str.ofString "_law_fine"), key := .str (Str.ofString "_law_fine") 561, val := Value.ref 123 }
noncomputable def gm79 (P : PySem.Params) : DictEntry := { hash := PyData.keyHash P (Str.ofString "_law_nets"), key := .str (Str.ofString "_law_nets") 577, val := Value.ref 130 }
noncomputable def gm80 (P : PySem.Params) : DictEntry := { hash := PyData.keyHash P (Str.ofString "_law_deed"), key := .str (Str.ofString "_law_deed") 583, val := Value.ref 135 }
noncomputable def gm81 (P : PySem.Params) : DictEntry := { hash := PyData.keyHash P (Str.ofString "law"), key := .str (Str.ofString "law") 589, val := Value.ref 140 }
noncomputable def gl10 (P : PySem.Params) : List DictEntry := gm80 P :: gm81 P :: []
noncomputable def gl9 (P : PySem.Params) : List DictEntry := gm72 P :: gm73 P :: gm74 P :: gm75 P :: gm76 P :: gm77 P :: gm78 P :: gm79 P :: gl10 P
noncomputable def gl8 (P : PySem.Params) : List DictEntry := gm64 P :: gm65 P :: gm66 P :: gm67 P :: gm68 P :: gm69 P :: gm70 P :: gm71 P :: gl9 P
noncomputable def gl7 (P : PySem.Params) : List DictEntry := gm56 P :: gm57 P :: gm58 P :: gm59 P :: gm60 P :: gm61 P :: gm62 P :: gm63 P :: gl8 P
noncomputable def gl6 (P : PySem.Params) : List DictEntry := gm48 P :: gm49 P :: gm50 P :: gm51 P :: gm52 P :: gm53 P :: gm54 P :: gm55 P :: gl7 P
noncomputable def gl5 (P : PySem.Params) : List DictEntry := gm40 P :: gm41 P :: gm42 P :: gm43 P :: gm44 P :: gm45 P :: gm46 P :: gm47 P :: gl6 P
noncomputable def gl4 (P : PySem.Params) : List DictEntry := gm32 P :: gm33 P :: gm34 P :: gm35 P :: gm36 P :: gm37 P :: gm38 P :: gm39 P :: gl5 P
noncomputable def gl3 (P : PySem.Params) : List DictEntry := gm24 P :: gm25 P :: gm26 P :: gm27 P :: gm28 P :: gm29 P :: gm30 P :: gm31 P :: gl4 P
noncomputable def gl2 (P : PySem.Params) : List DictEntry := gm16 P :: gm17 P :: gm18 P :: gm19 P :: gm20 P :: gm21 P :: gm22 P :: gm23 P :: gl3 P
noncomputable def gl1 (P : PySem.Params) : List DictEntry := gm8 P :: gm9 P :: gm10 P :: gm11 P :: gm12 P :: gm13 P :: gm14 P :: gm15 P :: gl2 P
noncomputable def gl0 (P : PySem.Params) : List DictEntry := gm0 P :: gm1 P :: gm2 P :: gm3 P :: gm4 P :: gm5 P :: gm6 P :: gm7 P :: gl1 P
noncomputable def K : PySem.Params → Frag := fun P => (nat_lit 2, { cls := .none, data := .dict #[] }) :: (nat_lit 3, { cls := .type "dict", data := .dict (gl0 P).toArray 82 }) :: (nat_lit 20, co20) :: (nat_lit 21, fo21) :: (nat_lit 27, co27) :: (nat_lit 28, fo28) :: (nat_lit 34, co34) :: (nat_lit 35, fo35) :: (nat_lit 41, co41) :: (nat_lit 42, fo42) :: (nat_lit 48, co48) :: (nat_lit 49, fo49) :: (nat_lit 55, co55) :: (nat_lit 56, fo56) :: (nat_lit 62, co62) :: (nat_lit 63, fo63) :: (nat_lit 64, { cls := .type "dict", data := .dict (el0 P).toArray 48 }) :: (nat_lit 72, co72) :: (nat_lit 73, fo73) :: (nat_lit 79, co79) :: (nat_lit 80, fo80) :: (nat_lit 86, co86) :: (nat_lit 87, fo87) :: (nat_lit 93, co93) :: (nat_lit 94, fo94) :: (nat_lit 100, co100) :: (nat_lit 101, fo101) :: (nat_lit 105, co105) :: (nat_lit 106, fo106) :: (nat_lit 110, co110) :: (nat_lit 111, fo111) :: (nat_lit 117, co117) :: (nat_lit 118, fo118) :: (nat_lit 122, co122) :: (nat_lit 123, fo123) :: (nat_lit 129, co129) :: (nat_lit 130, fo130) :: (nat_lit 134, co134) :: (nat_lit 135, fo135) :: (nat_lit 139, co139) :: (nat_lit 140, fo140) :: []
end Mine
end PPw

section PSt
open PySem PySem.W PyProof.Rows

set_option maxRecDepth 100000
namespace Mine
noncomputable def obT : Obj := { cls := .type "tuple", data := .seq #[] }
noncomputable def obF : Obj := { cls := .none, data := .fields #[] }
noncomputable def db (P : PySem.Params) (n : String) (i : Tok) (v : Value) : DictEntry := { hash := PyData.keyHash P (Str.ofString n), key := .str (Str.ofString n) i, val := v }
noncomputable def ob0 (P : PySem.Params) : Obj := { cls := .type "dict", data := .dict (db P "__name__" 1 (Value.str (Str.ofString "builtins") 160) :: db P "__doc__" 2 (Value.builtin "builtins.__doc__:str#opaque") :: db P "__package__" 3 (Value.builtin "builtins.__package__:str#opaque") :: db P "__loader__" 4 (Value.builtin "builtins.__loader__:shared#opaque") :: db P "__spec__" 5 (Value.builtin "builtins.__spec__#opaque") :: db P "__build_class__" 6 (Value.builtin "__build_class__") :: db P "__import__" 7 (Value.builtin "__import__") :: db P "abs" 8 (Value.builtin "abs") :: db P "all" 9 (Value.builtin "all") :: db P "any" 10 (Value.builtin "any") :: db P "ascii" 11 (Value.builtin "ascii") :: db P "bin" 12 (Value.builtin "bin") :: db P "breakpoint" 13 (Value.builtin "breakpoint") :: db P "callable" 14 (Value.builtin "callable") :: db P "chr" 15 (Value.builtin "chr") :: db P "compile" 16 (Value.builtin "compile") :: db P "delattr" 17 (Value.builtin "delattr") :: db P "dir" 18 (Value.builtin "dir") :: db P "divmod" 19 (Value.builtin "divmod") :: db P "eval" 20 (Value.builtin "eval") :: db P "exec" 21 (Value.builtin "exec") :: db P "format" 22 (Value.builtin "format") :: db P "getattr" 23 (Value.builtin "getattr") :: db P "globals" 24 (Value.builtin "globals") :: db P "hasattr" 25 (Value.builtin "hasattr") :: db P "hash" 26 (Value.builtin "hash") :: db P "hex" 27 (Value.builtin "hex") :: db P "id" 28 (Value.builtin "id") :: db P "input" 29 (Value.builtin "input") :: db P "isinstance" 30 (Value.builtin "isinstance") :: db P "issubclass" 31 (Value.builtin "issubclass") :: db P "iter" 32 (Value.builtin "iter") :: db P "aiter" 33 (Value.builtin "aiter") :: db P "len" 34 (Value.builtin "len") :: db P "locals" 35 (Value.builtin "locals") :: db P "max" 36 (Value.builtin "max") :: db P "min" 37 (Value.builtin "min") :: db P "next" 38 (Value.builtin "next") :: db P "anext" 39 (Value.builtin "anext") :: db P "oct" 40 (Value.builtin "oct") :: db P "ord" 41 (Value.builtin "ord") :: db P "pow" 42 (Value.builtin "pow") :: db P "print" 43 (Value.builtin "print") :: db P "repr" 44 (Value.builtin "repr") :: db P "round" 45 (Value.builtin "round") :: db P "setattr" 46 (Value.builtin "setattr") :: db P "sorted" 47 (Value.builtin "sorted") :: db P "sum" 48 (Value.builtin "sum") :: db P "vars" 49 (Value.builtin "vars") :: db P "None" 50 (Value.none) :: db P "Ellipsis" 51 (Value.ellipsis) :: db P "NotImplemented" 52 (Value.notImplemented) :: db P "False" 53 (Value.bool false) :: db P "True" 54 (Value.bool true) :: db P "bool" 55 (Value.type "bool") :: db P "memoryview" 56 (Value.type "memoryview") :: db P "bytearray" 57 (Value.type "bytearray") :: db P "bytes" 58 (Value.type "bytes") :: db P "classmethod" 59 (Value.type "classmethod") :: db P "complex" 60 (Value.type "complex") :: db P "dict" 61 (Value.type "dict") :: db P "enumerate" 62 (Value.type "enumerate") :: db P "filter" 63 (Value.type "filter") :: db P "float" 64 (Value.type "float") :: db P "frozenset" 65 (Value.type "frozenset") :: db P "property" 66 (Value.type "property") :: db P "int" 67 (Value.type "int") :: db P "list" 68 (Value.type "list") :: db P "map" 69 (Value.type "map") :: db P "object" 70 (Value.type "object") :: db P "range" 71 (Value.type "range") :: db P "reversed" 72 (Value.type "reversed") :: db P "set" 73 (Value.type "set") :: db P "slice" 74 (Value.type "slice") :: db P "staticmethod" 75 (Value.type "staticmethod") :: db P "str" 76 (Value.type "str") :: db P "super" 77 (Value.type "super") :: db P "tuple" 78 (Value.type "tuple") :: db P "type" 79 (Value.type "type") :: db P "zip" 80 (Value.type "zip") :: db P "__debug__" 81 (Value.bool true) :: db P "BaseException" 82 (Value.type "BaseException") :: db P "BaseExceptionGroup" 83 (Value.type "BaseExceptionGroup") :: db P "Exception" 84 (Value.type "Exception") :: db P "GeneratorExit" 85 (Value.type "GeneratorExit") :: db P "KeyboardInterrupt" 86 (Value.type "KeyboardInterrupt") :: db P "SystemExit" 87 (Value.type "SystemExit") :: db P "ArithmeticError" 88 (Value.type "ArithmeticError") :: db P "AssertionError" 89 (Value.type "AssertionError") :: db P "AttributeError" 90 (Value.type "AttributeError") :: db P "BufferError" 91 (Value.type "BufferError") :: db P "EOFError" 92 (Value.type "EOFError") :: db P "ImportError" 93 (Value.type "ImportError") :: db P "LookupError" 94 (Value.type "LookupError") :: db P "MemoryError" 95 (Value.type "MemoryError") :: db P "NameError" 96 (Value.type "NameError") :: db P "OSError" 97 (Value.type "OSError") :: db P "ReferenceError" 98 (Value.type "ReferenceError") :: db P "RuntimeError" 99 (Value.type "RuntimeError") :: db P "StopAsyncIteration" 100 (Value.type "StopAsyncIteration") :: db P "StopIteration" 101 (Value.type "StopIteration") :: db P "SyntaxError" 102 (Value.type "SyntaxError") :: db P "SystemError" 103 (Value.type "SystemError") :: db P "TypeError" 104 (Value.type "TypeError") :: db P "ValueError" 105 (Value.type "ValueError") :: db P "Warning" 106 (Value.type "Warning") :: db P "FloatingPointError" 107 (Value.type "FloatingPointError") :: db P "OverflowError" 108 (Value.type "OverflowError") :: db P "ZeroDivisionError" 109 (Value.type "ZeroDivisionError") :: db P "BytesWarning" 110 (Value.type "BytesWarning") :: db P "DeprecationWarning" 111 (Value.type "DeprecationWarning") :: db P "EncodingWarning" 112 (Value.type "EncodingWarning") :: db P "FutureWarning" 113 (Value.type "FutureWarning") :: db P "ImportWarning" 114 (Value.type "ImportWarning") :: db P "PendingDeprecationWarning" 115 (Value.type "PendingDeprecationWarning") :: db P "ResourceWarning" 116 (Value.type "ResourceWarning") :: db P "RuntimeWarning" 117 (Value.type "RuntimeWarning") :: db P "SyntaxWarning" 118 (Value.type "SyntaxWarning") :: db P "UnicodeWarning" 119 (Value.type "UnicodeWarning") :: db P "UserWarning" 120 (Value.type "UserWarning") :: db P "BlockingIOError" 121 (Value.type "BlockingIOError") :: db P "ChildProcessError" 122 (Value.type "ChildProcessError") :: db P "ConnectionError" 123 (Value.type "ConnectionError") :: db P "FileExistsError" 124 (Value.type "FileExistsError") :: db P "FileNotFoundError" 125 (Value.type "FileNotFoundError") :: db P "InterruptedError" 126 (Value.type "InterruptedError") :: db P "IsADirectoryError" 127 (Value.type "IsADirectoryError") :: db P "NotADirectoryError" 128 (Value.type "NotADirectoryError") :: db P "PermissionError" 129 (Value.type "PermissionError") :: db P "ProcessLookupError" 130 (Value.type "ProcessLookupError") :: db P "TimeoutError" 131 (Value.type "TimeoutError") :: db P "IndentationError" 132 (Value.type "IndentationError") :: db P "_IncompleteInputError" 133 (Value.type "_IncompleteInputError") :: db P "IndexError" 134 (Value.type "IndexError") :: db P "KeyError" 135 (Value.type "KeyError") :: db P "ModuleNotFoundError" 136 (Value.type "ModuleNotFoundError") :: db P "NotImplementedError" 137 (Value.type "NotImplementedError") :: db P "PythonFinalizationError" 138 (Value.type "PythonFinalizationError") :: db P "RecursionError" 139 (Value.type "RecursionError") :: db P "UnboundLocalError" 140 (Value.type "UnboundLocalError") :: db P "UnicodeError" 141 (Value.type "UnicodeError") :: db P "BrokenPipeError" 142 (Value.type "BrokenPipeError") :: db P "ConnectionAbortedError" 143 (Value.type "ConnectionAbortedError") :: db P "ConnectionRefusedError" 144 (Value.type "ConnectionRefusedError") :: db P "ConnectionResetError" 145 (Value.type "ConnectionResetError") :: db P "TabError" 146 (Value.type "TabError") :: db P "UnicodeDecodeError" 147 (Value.type "UnicodeDecodeError") :: db P "UnicodeEncodeError" 148 (Value.type "UnicodeEncodeError") :: db P "UnicodeTranslateError" 149 (Value.type "UnicodeTranslateError") :: db P "ExceptionGroup" 150 (Value.type "ExceptionGroup") :: db P "EnvironmentError" 151 (Value.type "OSError") :: db P "IOError" 152 (Value.type "OSError") :: db P "open" 153 (Value.builtin "open") :: db P "quit" 154 (Value.builtin "builtins.quit#opaque") :: db P "exit" 155 (Value.builtin "builtins.exit#opaque") :: db P "copyright" 156 (Value.builtin "builtins.copyright#opaque") :: db P "credits" 157 (Value.builtin "builtins.credits#opaque") :: db P "license" 158 (Value.builtin "builtins.license#opaque") :: db P "help" 159 (Value.builtin "builtins.help#opaque") :: []).toArray 159 }
noncomputable def ob1 (P : PySem.Params) : Obj := { cls := .type "dict", data := .dict (db P "builtins" 162 (Value.ref 4) :: db P "__main__" 163 (Value.ref 5) :: []).toArray 2 }
noncomputable def ob2 : Obj := { cls := Value.none, data := Data.dict #[] }
noncomputable def ob4 : Obj := { cls := Value.type "module", dict := some 0 }
noncomputable def ob5 : Obj := { cls := Value.type "module", dict := some 3 }
noncomputable def ob6 : Obj := { cls := Value.type "dict", data := Data.dict #[] }
noncomputable def ob9 : Obj := { cls := Value.type "code", data := Data.fields #[Value.str (Str.ofString "<module>") 176, Value.str (Str.ofString "<module>") 177, Value.str (Str.ofString "/claim/cut.py") 178, Value.int 1 0, Value.int 0 0, Value.int 0 0, Value.int 0 0, Value.int 0 0, Value.ref 7, Value.bool false, Value.int 175 0, Value.ref 8, Value.none, Value.none, Value.none, Value.none, Value.int 179 0, Value.int 1 0, Value.str (Str.ofString "/claim/cut.py") 180] }
noncomputable def ob10 : Obj := { cls := Value.type "frame", slots := #[some (Value.ref 9), some (Value.ref 3), some (Value.ref 3), none, some (Value.str (Str.ofString "__main__") 164), none, some (Value.ref 0)] }
noncomputable def ob12 : Obj := { cls := Value.none, data := Data.fields #[Value.int 5 0, Value.int 0 0, Value.ref 20, Value.int 10 0, Value.int 0 0, Value.ref 27, Value.int 27 0, Value.int 0 0, Value.ref 34, Value.int 50 0, Value.int 0 0, Value.ref 41, Value.int 59 0, Value.int 0 0, Value.ref 48, Value.int 68 0, Value.int 0 0, Value.ref 55, Value.int 87 0, Value.int 0 0, Value.ref 62, Value.int 160 0, Value.int 0 0, Value.ref 72, Value.int 162 0, Value.int 0 0, Value.ref 79, Value.int 164 0, Value.int 0 0, Value.ref 86, Value.int 167 0, Value.int 0 0, Value.ref 93, Value.int 170 0, Value.int 0 0, Value.ref 100, Value.int 173 0, Value.int 0 0, Value.ref 105, Value.int 182 0, Value.int 0 0, Value.ref 110, Value.int 195 0, Value.int 0 0, Value.ref 117, Value.int 202 0, Value.int 0 0, Value.ref 122, Value.int 207 0, Value.int 0 0, Value.ref 129, Value.int 216 0, Value.int 0 0, Value.ref 134, Value.int 223 0, Value.int 0 0, Value.ref 139] }
noncomputable def ob13 : Obj := { cls := Value.type "code", data := Data.fields #[Value.str (Str.ofString "<module>") 182, Value.str (Str.ofString "<module>") 183, Value.str (Str.ofString "/claim/cut.py") 184, Value.int 1 0, Value.int 0 0, Value.int 0 0, Value.int 0 0, Value.int 0 0, Value.ref 11, Value.bool false, Value.int 181 0, Value.ref 12, Value.none, Value.none, Value.none, Value.none, Value.int 185 0, Value.int 1 0, Value.str (Str.ofString "/claim/cut.py") 186] }
noncomputable def ob14 : Obj := { cls := Value.type "frame", slots := #[some (Value.ref 13), some (Value.ref 3), some (Value.ref 3), none, some (Value.str (Str.ofString "__main__") 164), none, some (Value.ref 0)] }
noncomputable def ob17 : Obj := { cls := Value.type "tuple", data := Data.seq #[Value.str (Str.ofString "r") 204, Value.str (Str.ofString "g") 205, Value.str (Str.ofString "b") 206, Value.str (Str.ofString "y") 207, Value.str (Str.ofString "i") 208, Value.str (Str.ofString "q") 209] }
noncomputable def ob19 : Obj := { cls := .none, data := .func { name := Str.ofString "rgb_to_yiq", qualname := Str.ofString "rgb_to_yiq", params := pr4, body := .stmts bd4, scope := sp4, globals := 0, closure := [], defaults := .none, kwdefaults := .none } }
noncomputable def ob24 : Obj := { cls := Value.type "tuple", data := Data.seq #[Value.str (Str.ofString "y") 216, Value.str (Str.ofString "i") 217, Value.str (Str.ofString "q") 218, Value.str (Str.ofString "r") 219, Value.str (Str.ofString "g") 220, Value.str (Str.ofString "b") 221] }
noncomputable def ob26 : Obj := { cls := .none, data := .func { name := Str.ofString "yiq_to_rgb", qualname := Str.ofString "yiq_to_rgb", params := pr5, body := .stmts bd5, scope := sp5, globals := 0, closure := [], defaults := .none, kwdefaults := .none } }
noncomputable def ob31 : Obj := { cls := Value.type "tuple", data := Data.seq #[Value.str (Str.ofString "r") 228, Value.str (Str.ofString "g") 229, Value.str (Str.ofString "b") 230, Value.str (Str.ofString "maxc") 231, Value.str (Str.ofString "minc") 232, Value.str (Str.ofString "sumc") 233, Value.str (Str.ofString "rangec") 234, Value.str (Str.ofString "l") 235, Value.str (Str.ofString "s") 236, Value.str (Str.ofString "rc") 237, Value.str (Str.ofString "gc") 238, Value.str (Str.ofString "bc") 239, Value.str (Str.ofString "h") 240] }
noncomputable def ob33 : Obj := { cls := .none, data := .func { name := Str.ofString "rgb_to_hls", qualname := Str.ofString "rgb_to_hls", params := pr6, body := .stmts bd6, scope := sp6, globals := 0, closure := [], defaults := .none, kwdefaults := .none } }
noncomputable def ob38 : Obj := { cls := Value.type "tuple", data := Data.seq #[Value.str (Str.ofString "h") 247, Value.str (Str.ofString "l") 248, Value.str (Str.ofString "s") 249, Value.str (Str.ofString "m2") 250, Value.str (Str.ofString "m1") 251] }
noncomputable def ob40 : Obj := { cls := .none, data := .func { name := Str.ofString "hls_to_rgb", qualname := Str.ofString "hls_to_rgb", params := pr7, body := .stmts bd7, scope := sp7, globals := 0, closure := [], defaults := .none, kwdefaults := .none } }
noncomputable def ob45 : Obj := { cls := Value.type "tuple", data := Data.seq #[Value.str (Str.ofString "m1") 258, Value.str (Str.ofString "m2") 259, Value.str (Str.ofString "hue") 260] }
noncomputable def ob47 : Obj := { cls := .none, data := .func { name := Str.ofString "_v", qualname := Str.ofString "_v", params := pr8, body := .stmts bd8, scope := sp8, globals := 0, closure := [], defaults := .none, kwdefaults := .none } }
noncomputable def ob52 : Obj := { cls := Value.type "tuple", data := Data.seq #[Value.str (Str.ofString "r") 267, Value.str (Str.ofString "g") 268, Value.str (Str.ofString "b") 269, Value.str (Str.ofString "maxc") 270, Value.str (Str.ofString "minc") 271, Value.str (Str.ofString "rangec") 272, Value.str (Str.ofString "v") 273, Value.str (Str.ofString "s") 274, Value.str (Str.ofString "rc") 275, Value.str (Str.ofString "gc") 276, Value.str (Str.ofString "bc") 277, Value.str (Str.ofString "h") 278] }
noncomputable def ob54 : Obj := { cls := .none, data := .func { name := Str.ofString "rgb_to_hsv", qualname := Str.ofString "rgb_to_hsv", params := pr9, body := .stmts bd9, scope := sp9, globals := 0, closure := [], defaults := .none, kwdefaults := .none } }
noncomputable def ob59 : Obj := { cls := Value.type "tuple", data := Data.seq #[Value.str (Str.ofString "h") 285, Value.str (Str.ofString "s") 286, Value.str (Str.ofString "v") 287, Value.str (Str.ofString "i") 288, Value.str (Str.ofString "f") 289, Value.str (Str.ofString "p") 290, Value.str (Str.ofString "q") 291, Value.str (Str.ofString "t") 292] }
noncomputable def ob61 : Obj := { cls := .none, data := .func { name := Str.ofString "hsv_to_rgb", qualname := Str.ofString "hsv_to_rgb", params := pr10, body := .stmts bd10, scope := sp10, globals := 0, closure := [], defaults := .none, kwdefaults := .none } }
noncomputable def ob65 (P : PySem.Params) : Obj := { cls := .type "dict", data := .dict (db P "->" 432 (Value.int 51 388) :: db P "." 434 (Value.int 23 332) :: db P "..." 436 (Value.int 52 390) :: db P "/" 438 (Value.int 17 320) :: db P "//" 440 (Value.int 47 380) :: db P "//=" 442 (Value.int 48 382) :: db P "/=" 444 (Value.int 39 364) :: db P ":" 446 (Value.int 11 308) :: db P ":=" 448 (Value.int 53 392) :: db P ";" 450 (Value.int 13 312) :: db P "<" 452 (Value.int 20 326) :: db P "<<" 454 (Value.int 33 352) :: db P "<<=" 456 (Value.int 44 374) :: db P "<=" 458 (Value.int 29 344) :: db P "=" 460 (Value.int 22 330) :: db P "==" 462 (Value.int 27 340) :: db P ">" 464 (Value.int 21 328) :: []).toArray 17 }
noncomputable def ob66 (P : PySem.Params) : Obj := { cls := .type "dict", data := .dict (db P ">=" 466 (Value.int 30 346) :: db P ">>" 467 (Value.int 34 354) :: db P ">>=" 468 (Value.int 45 376) :: db P "@" 469 (Value.int 49 384) :: db P "@=" 470 (Value.int 50 386) :: db P "[" 471 (Value.int 9 304) :: db P "]" 472 (Value.int 10 306) :: db P "^" 473 (Value.int 32 350) :: db P "^=" 474 (Value.int 43 372) :: db P "{" 475 (Value.int 25 336) :: db P "|" 476 (Value.int 18 322) :: db P "|=" 477 (Value.int 42 370) :: db P "}" 478 (Value.int 26 338) :: db P "~" 479 (Value.int 31 348) :: []).toArray 14 }
noncomputable def ob69 : Obj := { cls := Value.type "tuple", data := Data.seq #[Value.str (Str.ofString "x") 498] }
noncomputable def ob71 : Obj := { cls := .none, data := .func { name := Str.ofString "ISTERMINAL", qualname := Str.ofString "ISTERMINAL", params := pr63, body := .stmts bd63, scope := sp63, globals := 0, closure := [], defaults := .none, kwdefaults := .none } }
noncomputable def ob76 : Obj := { cls := Value.type "tuple", data := Data.seq #[Value.str (Str.ofString "x") 505] }
noncomputable def ob78 : Obj := { cls := .none, data := .func { name := Str.ofString "ISNONTERMINAL", qualname := Str.ofString "ISNONTERMINAL", params := pr64, body := .stmts bd64, scope := sp64, globals := 0, closure := [], defaults := .none, kwdefaults := .none } }
noncomputable def ob83 : Obj := { cls := Value.type "tuple", data := Data.seq #[Value.str (Str.ofString "x") 512] }
noncomputable def ob85 : Obj := { cls := .none, data := .func { name := Str.ofString "ISEOF", qualname := Str.ofString "ISEOF", params := pr65, body := .stmts bd65, scope := sp65, globals := 0, closure := [], defaults := .none, kwdefaults := .none } }
noncomputable def ob90 : Obj := { cls := Value.type "tuple", data := Data.seq #[Value.str (Str.ofString "row") 521] }
noncomputable def ob92 : Obj := { cls := .none, data := .func { name := Str.ofString "_law_operators", qualname := Str.ofString "_law_operators", params := pr67, body := .stmts bd67, scope := sp67, globals := 0, closure := [], defaults := .none, kwdefaults := .none } }
noncomputable def ob97 : Obj := { cls := Value.type "tuple", data := Data.seq #[Value.str (Str.ofString "x") 528, Value.str (Str.ofString "signs") 529] }
noncomputable def ob99 : Obj := { cls := .none, data := .func { name := Str.ofString "_law_word", qualname := Str.ofString "_law_word", params := pr68, body := .stmts bd68, scope := sp68, globals := 0, closure := [], defaults := .none, kwdefaults := .none } }
noncomputable def ob104 : Obj := { cls := .none, data := .func { name := Str.ofString "_law_read", qualname := Str.ofString "_law_read", params := pr69, body := .stmts bd69, scope := sp69, globals := 0, closure := [], defaults := .none, kwdefaults := .none } }
noncomputable def ob109 : Obj := { cls := .none, data := .func { name := Str.ofString "_law_filter", qualname := Str.ofString "_law_filter", params := pr70, body := .stmts bd70, scope := sp70, globals := 0, closure := [], defaults := .none, kwdefaults := .none } }
noncomputable def ob114 : Obj := { cls := Value.type "tuple", data := Data.seq #[Value.str (Str.ofString "rows") 548, Value.str (Str.ofString "place") 549, Value.str (Str.ofString "octets") 550, Value.str (Str.ofString "symbol") 551, Value.str (Str.ofString "told") 552] }
noncomputable def ob116 : Obj := { cls := .none, data := .func { name := Str.ofString "_law_run", qualname := Str.ofString "_law_run", params := pr71, body := .stmts bd71, scope := sp71, globals := 0, closure := [], defaults := .none, kwdefaults := .none } }
noncomputable def ob121 : Obj := { cls := .none, data := .func { name := Str.ofString "_law_fine", qualname := Str.ofString "_law_fine", params := pr72, body := .stmts bd72, scope := sp72, globals := 0, closure := [], defaults := .none, kwdefaults := .none } }
noncomputable def ob126 : Obj := { cls := Value.type "tuple", data := Data.seq #[Value.str (Str.ofString "rows") 565, Value.str (Str.ofString "nets") 566, Value.str (Str.ofString "row") 567, Value.str (Str.ofString "turn") 568, Value.str (Str.ofString "side") 569, Value.str (Str.ofString "dark") 570, Value.str (Str.ofString "k") 571, Value.str (Str.ofString "on") 572, Value.str (Str.ofString "way") 573, Value.str (Str.ofString "shade") 574] }
noncomputable def ob128 : Obj := { cls := .none, data := .func { name := Str.ofString "_law_nets", qualname := Str.ofString "_law_nets", params := pr73, body := .stmts bd73, scope := sp73, globals := 0, closure := [], defaults := .none, kwdefaults := .none } }
noncomputable def ob133 : Obj := { cls := .none, data := .func { name := Str.ofString "_law_deed", qualname := Str.ofString "_law_deed", params := pr74, body := .stmts bd74, scope := sp74, globals := 0, closure := [], defaults := .none, kwdefaults := .none } }
noncomputable def ob138 : Obj := { cls := .none, data := .func { name := Str.ofString "law", qualname := Str.ofString "law", params := pr75, body := .stmts bd75, scope := sp75, globals := 0, closure := [], defaults := .none, kwdefaults := .none } }
noncomputable def oL11 (P : PySem.Params) : List Obj := obF :: ob133 :: co134 :: fo135 :: obT :: obF :: ob138 :: co139 :: fo140 :: []
noncomputable def oL10 (P : PySem.Params) : List Obj := obF :: ob121 :: co122 :: fo123 :: obT :: obF :: ob126 :: obT :: ob128 :: co129 :: fo130 :: obT :: oL11 P
noncomputable def oL9 (P : PySem.Params) : List Obj := obF :: ob109 :: co110 :: fo111 :: obT :: obF :: ob114 :: obT :: ob116 :: co117 :: fo118 :: obT :: oL10 P
noncomputable def oL8 (P : PySem.Params) : List Obj := obF :: ob97 :: obT :: ob99 :: co100 :: fo101 :: obT :: obF :: ob104 :: co105 :: fo106 :: obT :: oL9 P
noncomputable def oL7 (P : PySem.Params) : List Obj := obT :: ob85 :: co86 :: fo87 :: obT :: obF :: ob90 :: obT :: ob92 :: co93 :: fo94 :: obT :: oL8 P
noncomputable def oL6 (P : PySem.Params) : List Obj := co72 :: fo73 :: obT :: obF :: ob76 :: obT :: ob78 :: co79 :: fo80 :: obT :: obF :: ob83 :: oL7 P
noncomputable def oL5 (P : PySem.Params) : List Obj := obT :: ob61 :: co62 :: fo63 :: { cls := .type "dict", data := .dict (el0 P).toArray 48 } :: ob65 P :: ob66 P :: obT :: obF :: ob69 :: obT :: ob71 :: oL6 P
noncomputable def oL4 (P : PySem.Params) : List Obj := co48 :: fo49 :: obT :: obF :: ob52 :: obT :: ob54 :: co55 :: fo56 :: obT :: obF :: ob59 :: oL5 P
noncomputable def oL3 (P : PySem.Params) : List Obj := obT :: obF :: ob38 :: obT :: ob40 :: co41 :: fo42 :: obT :: obF :: ob45 :: obT :: ob47 :: oL4 P
noncomputable def oL2 (P : PySem.Params) : List Obj := ob24 :: obT :: ob26 :: co27 :: fo28 :: obT :: obF :: ob31 :: obT :: ob33 :: co34 :: fo35 :: oL3 P
noncomputable def oL1 (P : PySem.Params) : List Obj := ob12 :: ob13 :: ob14 :: obT :: obF :: ob17 :: obT :: ob19 :: co20 :: fo21 :: obT :: obF :: oL2 P
noncomputable def oL0 (P : PySem.Params) : List Obj := ob0 P :: ob1 P :: ob2 :: { cls := .type "dict", data := .dict (gl0 P).toArray 82 } :: ob4 :: ob5 :: ob6 :: obT :: obF :: ob9 :: ob10 :: obT :: oL1 P
noncomputable def sE (w : World) : Shared := { heap := { objs := (oL0 w.params).toArray }, toks := 590 }
end Mine
end PSt

section PLf
open PySem PySem.W PyProof.Rows

set_option maxRecDepth 100000
namespace Mine
noncomputable def vw : Program := { pw0 with main := { pw0.main with body := [st1, st2, st3, st4, st5, st6, st7, st8, st9, st10, st12, st13, st14, st15, st16, st17, st18, st19, st20, st21, st22, st23, st24, st25, st26, st27, st28, st29, st30, st31, st32, st33, st34, st35, st36, st37, st38, st39, st40, st41, st42, st43, st44, st45, st46, st47, st48, st49, st50, st51, st52, st53, st54, st55, st56, st57, st58, st59, st60, st61, st62, st63, st64, st65, st67, st68, st69, st70, st71, st72, st73, st74, st75] } }
noncomputable abbrev LO : List Str := [Str.ofString "ONE_THIRD", Str.ofString "ONE_SIXTH", Str.ofString "TWO_THIRD", Str.ofString "EXACT_TOKEN_TYPES"]
noncomputable abbrev lv : List (Str × WData) := [(Str.ofString "ONE_THIRD", WData.float 4599676419421066581), (Str.ofString "ONE_SIXTH", WData.float 4595172819793696085), (Str.ofString "TWO_THIRD", WData.float 4604180019048437077)]
noncomputable def Hk : Hook := kHook Mine.K [2, 3, 20, 21, 27, 28, 34, 35, 41, 42, 48, 49, 55, 56, 62, 63, 64, 72, 73, 79, 80, 86, 87, 93, 94, 100, 101, 105, 106, 110, 111, 117, 118, 122, 123, 129, 130, 134, 135, 139, 140] (fun _ => by kernel_rfl)
set_option maxHeartbeats 8000000 in
theorem endsF (w : World) : openEnds treeTable rw0.row.prog (w.withFollow "special-get-raises" false) 4318 = some (sE (w.withFollow "special-get-raises" false)) := by
  unfold openEnds topFrom fencedOpening
  rw [PySem.W.Fast.te5923862056798008813, PySem.W.Fast.te2368527892694137696, PySem.W.Fast.te14082659384304107361, PySem.W.Fast.te14364793385576792824, PySem.W.Fast.te8920871248978507458, PySem.W.Fast.te10274390034422433532, PySem.W.Fast.te1435165496053646825, PySem.W.Fast.te14289696077712309145]
  kernel_rfl
set_option maxHeartbeats 8000000 in
theorem endsT (w : World) : openEnds treeTable rw0.row.prog (w.withFollow "special-get-raises" true) 4318 = some (sE (w.withFollow "special-get-raises" true)) := by
  unfold openEnds topFrom fencedOpening
  rw [PySem.W.Fast.te5923862056798008813, PySem.W.Fast.te2368527892694137696, PySem.W.Fast.te14082659384304107361, PySem.W.Fast.te14364793385576792824, PySem.W.Fast.te8920871248978507458, PySem.W.Fast.te10274390034422433532, PySem.W.Fast.te1435165496053646825, PySem.W.Fast.te14289696077712309145]
  kernel_rfl
theorem endsE (w : World) : openEnds treeTable rw0.row.prog w 4318 = some (sE w) :=
  byRow2 "special-get-raises" (P := fun w => openEnds treeTable rw0.row.prog w 4318 = some (sE w)) endsF endsT w
theorem c_seen (w : World) : seen ((recsOf vw).map (·.name)) (ownsOf vw) [] { (sE w) with gens := #[] } = expectedOf vw := by
  rw [PySem.W.Fast.te5160383126252970620, PySem.W.Fast.te3399658132070893891, PySem.W.Fast.te5991557255702980513]
  kernel_rfl
theorem c_blt (w : World) : (sE w).heap.bltView = bltViewBooted := by
  kernel_rfl
theorem c_keys (w : World) : (sE w).heap.keysOk (looseW vw LO) ((recsOf vw).map (·.name)) ((litsOf vw).map (·.1)) ((clssOf vw (looseW vw LO)).map (·.name)) = true := by
  rw [PySem.W.Fast.te10880121769531294198, PySem.W.Fast.te821141287760084731, PySem.W.Fast.te3399658132070893891, PySem.W.Fast.te7409074990110511671, PySem.W.Fast.te13664370479719496447]
  kernel_rfl
theorem c_acc (w : World) : (sE w).heap.accountedOkI (importedModules rw0.row.prog.main.body) = true := by
  rw [PySem.W.Fast.te14722251495701143533, PySem.W.Fast.te5923862056798008813]
  kernel_rfl
theorem c_nsm (w : World) : (sE w).heap.isNs mainGlobals = true := by
  kernel_rfl
theorem c_nsb (w : World) : (sE w).heap.isNs builtinsNs = true := by
  kernel_rfl
theorem c_tables (w : World) : tablesOk vw (sE w).heap = true := by
  rw [PySem.W.Fast.te10994771534591457954]
  kernel_rfl
theorem c_xt (w : World) : (xlAt vw lv (sE w) && recOk (RowW.records rw0.row.toRowW) (sE w)) = true := by
  kernel_rfl
theorem c_tabs (w : World) : tabsOk vw (sE w) = true := by
  rw [PySem.W.Fast.te479339242167458305]
  kernel_rfl
theorem c_pin (w : World) : pinSeenD vw (drecsOf vw) (sE w) = pinGoodD (drecsOf vw) := by
  rw [PySem.W.Fast.te16090120013241838585, PySem.W.Fast.te3247288618530077131]
  kernel_rfl
theorem c_plE (w : World) : plainSeenE vw (looseW vw LO) (sE w) = plainGoodE vw (looseW vw LO) := by
  rw [PySem.W.Fast.te2386780881361962483, PySem.W.Fast.te821141287760084731]
  kernel_rfl
theorem c_plD (w : World) : plainSeenD vw LO (sE w) = plainGoodD vw LO := by
  rw [PySem.W.Fast.te11698064438423848299]
  kernel_rfl
theorem c_wide (w : World) : wideSeen vw (sE w) = wideGood vw := by
  rw [PySem.W.Fast.te7317090234206586261]
  kernel_rfl
theorem c_cls (w : World) : clsSeenW vw LO (sE w) = clsGoodW vw LO := by
  rw [PySem.W.Fast.te7369524293546568484]
  kernel_rfl
theorem c_obs (w : World) : Hook.obs Hk (sE w) = Hook.val Hk w := by
  kernel_rfl
theorem leftAnd {a b : Bool} (x : a = true) (y : b = true) : (a && b) = true := by rw [x, y]; rfl
theorem leftPr {α β : Type} {a a' : α} {b b' : β} (x : a = a') (y : b = b') : (a, b) = (a', b') := by rw [x, y]
theorem c_all (w : World) : openSeen vw LO (importedModules rw0.row.prog.main.body) (fun s => xlAt vw lv s && recOk (RowW.records rw0.row.toRowW) s) true (sE w) = openGood vw LO :=
  leftPr (c_seen w) (leftPr (c_blt w) (leftPr (leftAnd (leftAnd (leftAnd (leftAnd (leftAnd (leftAnd (c_keys w) (c_acc w)) (c_nsm w)) (c_nsb w)) (c_tables w)) (c_xt w)) rfl) (leftPr (c_tabs w) (leftPr (c_pin w) (leftPr (c_plE w) (leftPr (c_plD w) (leftPr (c_wide w) (c_cls w))))))))
theorem left : LeftO rw0.row.prog vw LO (fun s => xlAt vw lv s && recOk (RowW.records rw0.row.toRowW) s) (Hook.obs Hk) (Hook.val Hk) 4318 :=
  fun w => (congrArg (Option.map (fun s => (openSeen vw LO (importedModules rw0.row.prog.main.body) (fun s => xlAt vw lv s && recOk (RowW.records rw0.row.toRowW) s) true s, Hook.obs Hk s))) (endsE w)).trans (congrArg some (leftPr (c_all w) (c_obs w)))
end Mine
end PLf

section PHd2
open PySem PySem.W PyProof.Rows

set_option maxRecDepth 100000 in
set_option maxHeartbeats 8000000 in
theorem Mine.head_of (hw : Mine.rw0.row.toRowW.promised) (hc : WalkO Mine.vw Mine.LO (XL Mine.vw Mine.lv) Mine.Hk.says Mine.rw0.row.toRowW { name := Str.ofString "law", params := Mine.pr75, body := Mine.bd75, scope := Mine.sp75, pos := Mine.ps75 } [] fun f vs => PySem.call f vs) (k1 : Mine.rw0.row.wellSaid = true) : Mine.rw0.row.Holds :=
  holds_open (r := Mine.rw0.row) (q := Mine.vw) (loose := Mine.LO) (Xt := fun s => xlAt Mine.vw Mine.lv s && recOk (RowW.records Mine.rw0.row.toRowW) s) (XP := XL Mine.vw Mine.lv) (Yf := Hook.obs Mine.Hk) (Ya := Hook.val Mine.Hk) (YP := Hook.says Mine.Hk) (N := 4318) Mine.left (Hook.of Mine.Hk) (Hook.keeps Mine.Hk) (fun s e => xl_of s (Bool.and_eq_true_iff.mp e).1) XL.keeps (by rfl) (by rfl) (by rfl) (fun s e => recFacts_of (Bool.and_eq_true_iff.mp e).2) (by rfl) k1 (by decide +kernel) ⟨rfl, rfl, rfl, rfl, rfl, by decide +kernel⟩ hw hc
set_option maxRecDepth 100000 in
theorem Mine.said : OpenLaw.wellSaid Mine.rw0 = true := by
  rw [PySem.W.Fast.te9446332074065402090]
  kernel_rfl
set_option maxRecDepth 100000 in
set_option maxHeartbeats 8000000 in
theorem Mine.hd0 (hc : WalkO Mine.vw Mine.LO (XL Mine.vw Mine.lv) Mine.Hk.says Mine.rw0.row.toRowW { name := Str.ofString "law", params := Mine.pr75, body := Mine.bd75, scope := Mine.sp75, pos := Mine.ps75 } [] fun f vs => PySem.call f vs) : Mine.rw0.Holds := by
  w_on
  refine holds_law Mine.said fun said => ?_
  refine Mine.head_of ?hw ?hc said
  case hw => w_witness2
  exact hc
end PHd2

section PCtr
open PySem PySem.W PySem.Spec PySem.Calls PyProof.Rows

namespace Mine

end Mine
end PCtr

section PW1
open PySem PySem.W PySem.Spec PySem.Calls PyProof.Rows

namespace Mine
noncomputable def mx3 (x y z : UInt64) : UInt64 := if (Float64.cmp x y == some .lt) = true then (if (Float64.cmp y z == some .lt) = true then z else y) else (if (Float64.cmp x z == some .lt) = true then z else x)
noncomputable def mn3 (x y z : UInt64) : UInt64 := if (Float64.cmp y x == some .lt) = true then (if (Float64.cmp z y == some .lt) = true then z else y) else (if (Float64.cmp z x == some .lt) = true then z else x)
open PySem.Flt in
theorem max_three_fff {prog : Program} {w : World} {A : Around} {E : Value → Shared → Prop} {s : Shared} {Q : Value → Shared → Prop} {x y z : UInt64} {t u v : Tok} {h₀ : Heap} {L : Addr} {m : Str → Option Value} {news : List (Addr × Obj)}
    (hh : A.handled = none) (F : Fr h₀ L s.heap m) (N : News h₀ L s.heap news)
    (h : ∀ h' tk v, Fr h₀ L h' m → News h₀ L h' news → Q (.float (mx3 x y z) v) { s with heap := h', toks := tk }) :
    wpAny (model prog w) A (call (.builtin "max") [.float x t, .float y u, .float z v]) Q E s := by
  have hT : (s.heap.push { cls := .type "tuple", data := .seq #[.float x t, .float y u, .float z v] }).IsTuple s.heap.objs.size #[.float x t, .float y u, .float z v] := ⟨_, Heap.get?_push_size _ rfl, rfl, 0, rfl⟩
  refine call_max_three (wpAny_pyIter_tuple hT ?_)
  have hsz : (s.heap.push { cls := .type "tuple", data := .seq #[.float x t, .float y u, .float z v] }).objs.size = s.heap.objs.size + 1 := Heap.size_push ..
  refine ⟨_, [_, s.heap.objs.size], [_], _, _, _, _, rfl, Walks.tuple (A := A.in1) hh _ s.heap.objs.size (by rw [hsz]; exact Nat.ne_of_lt (Nat.lt_succ_self _)) #[.float x t, .float y u, .float z v],
    ⟨⟨_, Heap.get?_push_size _ rfl, rfl, rfl⟩, hT.push _⟩, fun c hc => ?_, by simp, cmpOf_gt #[.float x t, .float y u, .float z v] (by simp [NumV.float]), fun v' h' tk hP hk => ?_⟩
  · show c < ((s.heap.push _).push _).objs.size
    rw [Heap.size_push, hsz]
    rcases List.mem_cons.mp hc with rfl | hc
    · rw [hsz]; exact Nat.lt_succ_self _
    · rcases List.mem_cons.mp hc with rfl | hc
      · exact Nat.lt_succ_of_lt (Nat.lt_succ_self _)
      · cases hc
  · have hold : ∀ c o, s.heap.get? c = some o → h'.get? c = some o := fun c o e => by
      refine hk c o (fun hm => ?_) (Heap.get?_push_of_some _ (Heap.get?_push_of_some _ e))
      rcases List.mem_cons.mp hm with e1 | hm
      · have := Heap.lt_size e; rw [e1, hsz] at this; exact Nat.lt_irrefl _ (Nat.lt_of_succ_lt this)
      · cases hm
    have hg := fun v => h h' tk v (F.grownK hold) (N.grown hold)
    have e1 : ltV (.float x t) (.float y u) = (Float64.cmp x y == some .lt) := rfl
    have e2 : ltV (.float y u) (.float z v) = (Float64.cmp y z == some .lt) := rfl
    have e3 : ltV (.float x t) (.float z v) = (Float64.cmp x z == some .lt) := rfl
    cases c1 : (Float64.cmp x y == some .lt) <;> cases c2 : (Float64.cmp y z == some .lt) <;> cases c3 : (Float64.cmp x z == some .lt) <;>
      (rw [c1] at e1; rw [c2] at e2; rw [c3] at e3; simp only [mx3, mn3, c1, c2, c3, if_true, if_false, Bool.false_eq_true] at hg; simp [argBest, e1, e2, e3] at hP; subst hP; exact hg _)
open PySem.Flt in
theorem min_three_fff {prog : Program} {w : World} {A : Around} {E : Value → Shared → Prop} {s : Shared} {Q : Value → Shared → Prop} {x y z : UInt64} {t u v : Tok} {h₀ : Heap} {L : Addr} {m : Str → Option Value} {news : List (Addr × Obj)}
    (hh : A.handled = none) (F : Fr h₀ L s.heap m) (N : News h₀ L s.heap news)
    (h : ∀ h' tk v, Fr h₀ L h' m → News h₀ L h' news → Q (.float (mn3 x y z) v) { s with heap := h', toks := tk }) :
    wpAny (model prog w) A (call (.builtin "min") [.float x t, .float y u, .float z v]) Q E s := by
  have hT : (s.heap.push { cls := .type "tuple", data := .seq #[.float x t, .float y u, .float z v] }).IsTuple s.heap.objs.size #[.float x t, .float y u, .float z v] := ⟨_, Heap.get?_push_size _ rfl, rfl, 0, rfl⟩
  refine call_min_three (wpAny_pyIter_tuple hT ?_)
  have hsz : (s.heap.push { cls := .type "tuple", data := .seq #[.float x t, .float y u, .float z v] }).objs.size = s.heap.objs.size + 1 := Heap.size_push ..
  refine ⟨_, [_, s.heap.objs.size], [_], _, _, _, _, rfl, Walks.tuple (A := A.in1) hh _ s.heap.objs.size (by rw [hsz]; exact Nat.ne_of_lt (Nat.lt_succ_self _)) #[.float x t, .float y u, .float z v],
    ⟨⟨_, Heap.get?_push_size _ rfl, rfl, rfl⟩, hT.push _⟩, fun c hc => ?_, by simp, cmpOf_lt #[.float x t, .float y u, .float z v] (by simp [NumV.float]), fun v' h' tk hP hk => ?_⟩
  · show c < ((s.heap.push _).push _).objs.size
    rw [Heap.size_push, hsz]
    rcases List.mem_cons.mp hc with rfl | hc
    · rw [hsz]; exact Nat.lt_succ_self _
    · rcases List.mem_cons.mp hc with rfl | hc
      · exact Nat.lt_succ_of_lt (Nat.lt_succ_self _)
      · cases hc
  · have hold : ∀ c o, s.heap.get? c = some o → h'.get? c = some o := fun c o e => by
      refine hk c o (fun hm => ?_) (Heap.get?_push_of_some _ (Heap.get?_push_of_some _ e))
      rcases List.mem_cons.mp hm with e1 | hm
      · have := Heap.lt_size e; rw [e1, hsz] at this; exact Nat.lt_irrefl _ (Nat.lt_of_succ_lt this)
      · cases hm
    have hg := fun v => h h' tk v (F.grownK hold) (N.grown hold)
    have e1 : ltV (.float y u) (.float x t) = (Float64.cmp y x == some .lt) := rfl
    have e2 : ltV (.float z v) (.float y u) = (Float64.cmp z y == some .lt) := rfl
    have e3 : ltV (.float z v) (.float x t) = (Float64.cmp z x == some .lt) := rfl
    cases c1 : (Float64.cmp y x == some .lt) <;> cases c2 : (Float64.cmp z y == some .lt) <;> cases c3 : (Float64.cmp z x == some .lt) <;>
      (rw [c1] at e1; rw [c2] at e2; rw [c3] at e3; simp only [mx3, mn3, c1, c2, c3, if_true, if_false, Bool.false_eq_true] at hg; simp [argBest, e1, e2, e3] at hP; subst hP; exact hg _)
end Mine
end PW1

section PW2
open PySem PySem.W PySem.Spec PySem.Calls PyProof.Rows

namespace Mine
end Mine
end PW2

section PCS
open PySem PySem.W PySem.Spec PySem.Calls PyProof.Rows

namespace Mine
open Float64 (cmp add sub mul div neg divmod isZero isFinite)

noncomputable def OkHsv (r g b : UInt64) : Prop := (cmp (mn3 r g b) (mx3 r g b) == some .eq) = true ∨
  (isZero (sub (mx3 r g b) (mn3 r g b)) = false ∧ isZero (mx3 r g b) = false)
noncomputable def OkHls (r g b : UInt64) : Prop := (cmp (mn3 r g b) (mx3 r g b) == some .eq) = true ∨
  (isZero (sub (mx3 r g b) (mn3 r g b)) = false ∧ isZero (add (mx3 r g b) (mn3 r g b)) = false ∧ isZero (sub (sub 4611686018427387904 (mx3 r g b)) (mn3 r g b)) = false)
noncomputable def hueOf (r g b mx d : UInt64) : UInt64 := (divmod (div (if (cmp r mx == some .eq) = true then sub (div (sub mx b) d) (div (sub mx g) d)
  else if (cmp g mx == some .eq) = true then sub (add 4611686018427387904 (div (sub mx r) d)) (div (sub mx b) d)
  else sub (add 4616189618054758400 (div (sub mx g) d)) (div (sub mx r) d)) 4618441417868443648) 4607182418800017408).2
noncomputable def hlsS (l mx mn : UInt64) : UInt64 := if (cmp l 4602678819172646912 == some .lt || cmp l 4602678819172646912 == some .eq) = true then div (sub mx mn) (add mx mn) else div (sub mx mn) (sub (sub 4611686018427387904 mx) mn)
noncomputable def hlsF (r g b : UInt64) : UInt64 × UInt64 × UInt64 := if (cmp (mn3 r g b) (mx3 r g b) == some .eq) = true then (0, div (add (mx3 r g b) (mn3 r g b)) 4611686018427387904, 0)
  else (hueOf r g b (mx3 r g b) (sub (mx3 r g b) (mn3 r g b)), div (add (mx3 r g b) (mn3 r g b)) 4611686018427387904, hlsS (div (add (mx3 r g b) (mn3 r g b)) 4611686018427387904) (mx3 r g b) (mn3 r g b))
noncomputable def hsvF (r g b : UInt64) : UInt64 × UInt64 × UInt64 := if (cmp (mn3 r g b) (mx3 r g b) == some .eq) = true then (0, 0, mx3 r g b)
  else (hueOf r g b (mx3 r g b) (sub (mx3 r g b) (mn3 r g b)), div (sub (mx3 r g b) (mn3 r g b)) (mx3 r g b), mx3 r g b)
noncomputable def vG (m1 m2 h : UInt64) : UInt64 := if (cmp h 4595172819793696085 == some .lt) = true then add m1 (mul (mul (sub m2 m1) h) 4618441417868443648)
  else if (cmp h 4602678819172646912 == some .lt) = true then m2
  else if (cmp h 4604180019048437077 == some .lt) = true then add m1 (mul (mul (sub m2 m1) (sub 4604180019048437077 h)) 4618441417868443648) else m1
noncomputable def vF (m1 m2 h : UInt64) : UInt64 := vG m1 m2 (divmod h 4607182418800017408).2
noncomputable def hlsrF (h l s m1 m2 : UInt64) : UInt64 × UInt64 × UInt64 := (vF m1 m2 (add h 4599676419421066581), vF m1 m2 h, vF m1 m2 (sub h 4599676419421066581))
noncomputable def hlsr (h l s : UInt64) : UInt64 × UInt64 × UInt64 := if (cmp s 0 == some .eq) = true then (l, l, l) else
  if (cmp l 4602678819172646912 == some .lt || cmp l 4602678819172646912 == some .eq) = true then hlsrF h l s (sub (mul 4611686018427387904 l) (mul l (add 4607182418800017408 s))) (mul l (add 4607182418800017408 s))
  else hlsrF h l s (sub (mul 4611686018427387904 l) (sub (add l s) (mul l s))) (sub (add l s) (mul l s))
noncomputable def yiqF (r g b : UInt64) : UInt64 × UInt64 × UInt64 :=
  let y := add (add (mul 4599075939470750515 r) (mul 4603489467105573601 g)) (mul 4592590756007337001 b)
  (y, sub (mul 4604840546993784750 (sub r y)) (mul 4598535507515466056 (sub b y)), add (mul 4602318531202457272 (sub r y)) (mul 4601057523306793533 (sub b y)))
noncomputable def hsvrF (i : Int) (v p q t : UInt64) : UInt64 × UInt64 × UInt64 :=
  if i = 0 then (v, t, p) else if i = 1 then (q, v, p) else if i = 2 then (p, v, t) else if i = 3 then (p, q, v) else if i = 4 then (t, p, v) else (v, p, q)
noncomputable def hsvrI (i : Int) (f s v : UInt64) : UInt64 × UInt64 × UInt64 :=
  hsvrF (i.fmod 6) v (mul v (sub 4607182418800017408 s)) (mul v (sub 4607182418800017408 (mul s f))) (mul v (sub 4607182418800017408 (mul s (sub 4607182418800017408 f))))
noncomputable def hsvr (h s v : UInt64) : UInt64 × UInt64 × UInt64 := if (cmp s 0 == some .eq) = true then (v, v, v) else
  hsvrI (Flt.toInt Float64.truncOf (mul h 4618441417868443648)) (sub (mul h 4618441417868443648) (Float64.ofInt (Flt.toInt Float64.truncOf (mul h 4618441417868443648)))) s v
noncomputable def OkHr (h s : UInt64) : Prop := (cmp s 0 == some .eq) = true ∨ (isFinite (mul h 4618441417868443648) = true ∧ 0 ≤ Flt.toInt Float64.truncOf (mul h 4618441417868443648) ∧ Flt.toInt Float64.truncOf (mul h 4618441417868443648) < 12)
theorem hsv_none {n : Int} (h0 : n.fmod 6 ≠ 0) (h1 : n.fmod 6 ≠ 1) (h2 : n.fmod 6 ≠ 2) (h3 : n.fmod 6 ≠ 3) (h4 : n.fmod 6 ≠ 4) (h5 : n.fmod 6 ≠ 5) : False := by
  have := Int.fmod_nonneg_of_pos n (b := 6) (by decide)
  have := Int.fmod_lt_of_pos n (b := 6) (by decide)
  omega
noncomputable def lo0 (x : UInt64) : UInt64 := if (cmp x 0 == some .lt) = true then 0 else x
noncomputable def hi1 (x : UInt64) : UInt64 := if (cmp x 4607182418800017408 == some .gt) = true then 4607182418800017408 else x
noncomputable def yiqr (y i q : UInt64) : UInt64 × UInt64 × UInt64 :=
  (hi1 (lo0 (add (add y (mul 4606703976345377586 i)) (mul 4603791717925830846 q))), hi1 (lo0 (sub (sub y (mul 4598621754083818298 i)) (mul 4603901015759978483 q))),
   hi1 (lo0 (add (sub y (mul 4607671262177584182 i)) (mul 4610375502138591871 q))))
end Mine
end PCS

section PW3
open PySem PySem.W PySem.Spec PySem.Calls PyProof.Rows

namespace Mine
section
variable {M : Model} {A : Around} {E : Value → Shared → Prop} {s : Shared} {env : Env} {h₀ : Heap} {L : Addr} {m : Str → Option Value} {news : List (Addr × Obj)}
end
end Mine
end PW3

section PFD
open PySem PySem.W PySem.Spec PySem.Calls PyProof.Rows

namespace Mine
open Float64 (cmp add sub mul div neg divmod isZero isFinite)
noncomputable def oF (a : Int) : UInt64 := Float64.ofFrac (decide (a < 0) != decide ((255 : Int) < 0)) a.natAbs (255 : Int).natAbs
noncomputable def onF (k : Int) : UInt64 := Float64.ofFrac (decide (k.fmod 6 < 0) != decide ((6 : Int) < 0)) (k.fmod 6).natAbs (6 : Int).natAbs
noncomputable def hueB (k : Int) (h : UInt64) : UInt64 := if ((k.fdiv 6).fmod 2 == 1) = true then sub (Float64.ofInt 1) h else h
noncomputable def fX (k : Int) (p : UInt64 × UInt64 × UInt64) : UInt64 × UInt64 × UInt64 := hlsr (add (onF k) (hueB k p.1)) (if (k.fdiv 12 == 2) = true then sub (Float64.ofInt 1) p.2.1 else p.2.1) p.2.2
noncomputable def fZ (k : Int) (p : UInt64 × UInt64 × UInt64) : UInt64 × UInt64 × UInt64 := hsvr (add (onF k) (hueB k p.1)) p.2.1 p.2.2
noncomputable def fY (p : UInt64 × UInt64 × UInt64) : UInt64 × UInt64 × UInt64 := yiqr (sub (Float64.ofInt 1) (yiqF p.1 p.2.1 p.2.2).1) (neg (yiqF p.1 p.2.1 p.2.2).2.1) (neg (yiqF p.1 p.2.1 p.2.2).2.2)
noncomputable def filtRGB (k : Int) (r g b : UInt64) : UInt64 × UInt64 × UInt64 :=
  if (k.fdiv 12 == 1 || k.fdiv 12 == 2) = true then fX k (hlsF r g b) else if (k.fdiv 12 == 3) = true then fY (fZ k (hsvF r g b)) else fZ k (hsvF r g b)
noncomputable def fin3 (p : UInt64 × UInt64 × UInt64) : Prop := isFinite (mul (Float64.ofInt 255) p.1) = true ∧ isFinite (mul (Float64.ofInt 255) p.2.1) = true ∧ isFinite (mul (Float64.ofInt 255) p.2.2) = true
noncomputable def rnd (x : UInt64) : Int := Flt.toInt Float64.nearestOf (mul (Float64.ofInt 255) x)
noncomputable def rnd3 (p : UInt64 × UInt64 × UInt64) : Int × Int × Int := (rnd p.1, rnd p.2.1, rnd p.2.2)
structure FOk (k a1 a2 a3 : Int) : Prop where
  ok1 : OkHls (oF a1) (oF a2) (oF a3)
  ok2 : OkHsv (oF a1) (oF a2) (oF a3)
  ok3 : OkHr (add (onF k) (hueB k (hsvF (oF a1) (oF a2) (oF a3)).1)) (hsvF (oF a1) (oF a2) (oF a3)).2.1
  f1 : fin3 (fX k (hlsF (oF a1) (oF a2) (oF a3)))
  f2 : fin3 (fZ k (hsvF (oF a1) (oF a2) (oF a3)))
  f3 : fin3 (fY (fZ k (hsvF (oF a1) (oF a2) (oF a3))))
theorem filt_a {k : Int} {r g b : UInt64} (h : (k.fdiv 12 == 1 || k.fdiv 12 == 2) = true) : filtRGB k r g b = fX k (hlsF r g b) := by unfold filtRGB; rw [if_pos h]
theorem filt_b {k : Int} {r g b : UInt64} (h : (k.fdiv 12 == 1 || k.fdiv 12 == 2) = false) (h2 : k.fdiv 12 = 3) : filtRGB k r g b = fY (fZ k (hsvF r g b)) := by unfold filtRGB; rw [if_neg (by rw [h]; exact Bool.false_ne_true), if_pos (by simpa using h2)]
theorem filt_c {k : Int} {r g b : UInt64} (h : (k.fdiv 12 == 1 || k.fdiv 12 == 2) = false) (h2 : k.fdiv 12 ≠ 3) : filtRGB k r g b = fZ k (hsvF r g b) := by unfold filtRGB; rw [if_neg (by rw [h]; exact Bool.false_ne_true), if_neg (by simpa using h2)]
theorem filt_no {k : Int} (h1 : (k.fdiv 12 == 1 || k.fdiv 12 == 2) = true) (h2 : k.fdiv 12 = 3) : False := by rw [h2] at h1; cases h1
end Mine
end PFD

section PCallP
open PySem PySem.W PySem.Spec PySem.Calls PyProof.Rows

namespace Mine
/-- what stands outside the handed part of the ledger stands in the callee's ground -/
noncomputable def GroundOf (h g : Heap) (as : List Addr) : Prop := ∀ b o, b ∉ as → h.get? b = some o → g.get? b = some o

section
variable {prog : Program} {w : World} {A₀ A : Around} {s : Shared} {base h₀ : Heap} {outer : List Env} {L : Addr} {m : Str → Option Value} {env : Env} {news : List (Addr × Obj)} {K : Frag} {p : Program} {loose : List Str} {mean : ExcName → Option Value} {mg mb : Str → Option Value}
  {R : Result → Shared → Prop} {name qual : Str} {params : Arguments} {body : List Stmt} {scope : Scope} {dV kV doc pm cdv ct oc : Value} {an od : Option Addr} {osl : Array (Option Value)} {f : Addr} {args : Args} {binds : List (Str × Value)}

theorem codeP_def (B : Below A₀ base outer h₀) (F : Fr h₀ L s.heap m) (X₀ : K.In h₀) (N : News h₀ L s.heap news) (T : Top p loose mean mg mb h₀) (hA : A.frames = some (env :: outer)) (hf : env.frame = some L) (hke : env.scope.kind = .function)
    (ho : K.lookup f = some ⟨oc, od, .func (fnOf name qual params body scope dV kV doc pm an cdv ct), osl⟩) (hcd : codeIn K cdv qual = true) (hroom : A.depth < recursionLimit)
    (hbind : BindsTo s (fnOf name qual params body scope dV kV doc pm an cdv ct) args binds) (hloc : ∀ y ∈ binds, scope.names.lookup y.1 = some .local)
    (h : ∀ g L' h₁, GroundOf s.heap g (news.map (·.1)) → Fr h₀ L g m → Fr g L' h₁ (fun y => binds.reverse.lookup y) → News g L' h₁ news → Below A base (env :: outer) g → K.In g → Top p loose mean mg mb g →
      wpAny (model prog w) (A.deeper (envOf qual scope L' f cdv)) (execs body (envOf qual scope L' f cdv))
        (fun fl s' => LeaveK h₀ L m g R (match fl with | .ret v => v | _ => .none) s')
        (fun e s' => wpAny (model prog w) (A.deeper (envOf qual scope L' f cdv)) (leaving (envOf qual scope L' f cdv) e) (fun _ s'' => R (.error e) s'') (fun e' s'' => R (.error e') s'') s')
        { s with heap := h₁, toks := s.toks + binds.length })
    (hco : scope.isCoroutine = false) (hgen : scope.isGenerator = false) (hk : scope.kind = .function)
    (hcell : ∀ x ∈ scope.names, x.2 ≠ .cell) : codeAny (model prog w) A (.call (.ref f) args) R s := by
  have G := groundX (R := R) B F N hA hf hke
  have X := X₀.keeps F.keep
  refine codeAny_call_def hroom (X _ _ ho) rfl (T.nolimit.keeps F.keep) (codeRec_of X hcd) rfl hbind hcell hloc (fun h₁ hn hold => ?_) hco hgen hk
  have apart : ∀ q ∈ news, q.1 < s.heap.objs.size := fun q hq => Heap.lt_size (N q hq).1
  have F₁ : Fr (hideAll s.heap (news.map (·.1))) s.heap.objs.size h₁ (fun y => binds.reverse.lookup y) :=
    ⟨hn, fun b o e => hold b o (of_hideAll _ e), Nat.le_of_eq (hideAll_size _ _)⟩
  have N₁ : News (hideAll s.heap (news.map (·.1))) s.heap.objs.size h₁ news := fun q hq =>
    ⟨hold _ _ (N q hq).1, Nat.ne_of_lt (apart q hq), hideAll_none _ (List.mem_map_of_mem hq)⟩
  exact wpAny_mono (h _ _ h₁ (fun b o n e => hideAll_get _ e n) G.1 F₁ N₁ G.2.1 (X₀.keeps G.2.2.1) (T.keeps G.2.2.1)) (fun fl s' l => G.2.2.2 _ _ l) fun _ _ y => y

theorem codeP_defC (B : Below A₀ base outer h₀) (F : Fr h₀ L s.heap m) (X₀ : K.In h₀) (N : News h₀ L s.heap news) (T : Top p loose mean mg mb h₀) (hA : A.frames = some (env :: outer)) (hf : env.frame = some L) (hke : env.scope.kind = .function)
    (ho : K.lookup f = some ⟨oc, od, .func (fnOf name qual params body scope dV kV doc pm an cdv ct), osl⟩) (hcd : codeIn K cdv qual = true) (hroom : A.depth < recursionLimit)
    (hbind : BindsTo s (fnOf name qual params body scope dV kV doc pm an cdv ct) args binds) (hkind : (binds.all fun y => scope.names.lookup y.1 == some .local || scope.names.lookup y.1 == some .cell) = true)
    (hnd : ((cellsFrom 0 scope.names []).map (·.1)).Nodup)
    (h : ∀ g L' h₁ tk cells, GroundOf s.heap g (news.map (·.1)) → Fr h₀ L g m → Fr g L' h₁ (bindL (envOfC qual scope L' f cdv).kindOf binds fun _ => none) → News g L' h₁ (cells ++ news) →
      CellsAre (bindC (envOfC qual scope L' f cdv).kindOf binds fun _ => none) (cellsFrom (L' + 1) scope.names []) cells → Below A base (env :: outer) g → K.In g → Top p loose mean mg mb g → (∀ p ∈ news, p.1 < L') →
      wpAny (model prog w) (A.deeper (envOfC qual scope L' f cdv)) (execs body (envOfC qual scope L' f cdv))
        (fun fl s' => LeaveK h₀ L m g R (match fl with | .ret v => v | _ => .none) s')
        (fun e s' => wpAny (model prog w) (A.deeper (envOfC qual scope L' f cdv)) (leaving (envOfC qual scope L' f cdv) e) (fun _ s'' => R (.error e) s'') (fun e' s'' => R (.error e') s'') s')
        { s with heap := h₁, toks := tk })
    (hco : scope.isCoroutine = false) (hgen : scope.isGenerator = false) (hk : scope.kind = .function) : codeAny (model prog w) A (.call (.ref f) args) R s := by
  have G := groundX (R := R) B F N hA hf hke
  have X := X₀.keeps F.keep
  refine codeAny_call_function hroom (X _ _ ho) rfl hco hgen rfl (codeRec_of X hcd) (hbind _ _ _ _ ?_)
  refine wpAny_newFunctionEnv_cells hk (kindsX hkind _) fun env' he s' x => ?_
  subst he
  refine ⟨(T.nolimit.keeps F.keep).keeps x.toInCall.keep, codeAny_func ?_⟩
  obtain ⟨h₁, tk, rfl, _⟩ := x.done
  have hold := x.toInCall.keep
  have apart : ∀ q ∈ news, q.1 < s.heap.objs.size := fun q hq => Heap.lt_size (N q hq).1
  obtain ⟨cells, NC, Y⟩ := Cl.news (h₀ := s.heap) (Nat.le_refl _) fun n c hm => ⟨x.cell n c (lookup_of_mem_nodup (cellsFrom_names scope.names 0 (s.heap.objs.size + 1) [] [] rfl ▸ hnd) hm), x.above n c hm⟩
  have F₁ : Fr (hideAll s.heap (news.map (·.1))) s.heap.objs.size h₁ _ := ⟨x.toInCall.ns, fun b o e => hold b o (of_hideAll _ e), Nat.le_of_eq (hideAll_size _ _)⟩
  have none_of : ∀ b, s.heap.get? b = none → (hideAll s.heap (news.map (·.1))).get? b = none := fun b e => by
    cases q : (hideAll s.heap (news.map (·.1))).get? b with
    | none => rfl
    | some o => rw [of_hideAll _ q] at e; cases e
  have N₁ : News (hideAll s.heap (news.map (·.1))) s.heap.objs.size h₁ (cells ++ news) := fun q hq => by
    rcases List.mem_append.mp hq with hq | hq
    · exact ⟨(NC q hq).1, (NC q hq).2.1, none_of _ (NC q hq).2.2⟩
    · exact ⟨hold _ _ (N q hq).1, Nat.ne_of_lt (apart q hq), hideAll_none _ (List.mem_map_of_mem hq)⟩
  exact wpAny_mono (h _ _ h₁ tk cells (fun b o n e => hideAll_get _ e n) G.1 F₁ N₁ Y G.2.1 (X₀.keeps G.2.2.1) (T.keeps G.2.2.1) apart) (fun fl s' l => G.2.2.2 _ _ l) fun _ _ y => y
end
end Mine
end PCallP

section PEv1
open PySem PySem.W PySem.Spec PySem.Calls PyProof.Rows

namespace Mine
/-- whether a float's mark is told to be not nought; and the world -/
structure Zw where
  b : Bool
  w : World
/-- plain data -/
inductive Dv where
  | flt (x : UInt64)
  | int (i : Int)
  | bol (b : Bool)
  | str (s : Str)
  | tup (ds : List Dv)
  | lst (ds : List Dv)
  | tab (D : List (PyData × PyData))
  | val (v : Value)
noncomputable abbrev Led := List (Addr × Obj)
noncomputable def Sec (ob : Addr → Obj → Prop) (N : Led) (a : Addr) (o : Obj) : Prop := (a, o) ∈ N ∨ ob a o
/-- where z is asked, a float's mark is not nought -/
noncomputable def Zt (z : Zw) (t : Tok) : Prop := z.b = true → t ≠ 0
theorem zt_of {z : Zw} {t : Tok} (h : t ≠ 0) : Zt z t := fun _ => h
theorem zt_no {z : Zw} {t : Tok} (h : z.b = false) : Zt z t := by unfold Zt; rw [h]; exact fun e => nomatch e
/-- the object o at a is a table of texts -/
noncomputable def TabO (w : World) (a : Addr) (o : Obj) (D : List (PyData × PyData)) : Prop := (a == sysModules) = false ∧ ∃ kvs, o.IsDictOf (strKind Mine.rw0.row.prog w) kvs ∧ PyProof.V.FlatPairs PyData.str kvs D
mutual
/-- the value v bears the datum d, by objects of O -/
noncomputable def Rep (z : Zw) (O : Addr → Obj → Prop) : Dv → Value → Prop
  | .flt x, v => ∃ t : Tok, Zt z t ∧ v = .float x t
  | .int i, v => ∃ t : Tok, v = .int i t
  | .bol b, v => v = .bool b
  | .str s, v => ∃ t : Tok, v = .str s t
  | .tup ds, v => ∃ (a : Addr) (o : Obj) (vs : List Value), v = .ref a ∧ O a o ∧ (o.cls = .type "tuple" ∧ ∃ n, o.data = .seq vs.toArray n) ∧ Reps z O ds vs
  | .lst ds, v => ∃ (a : Addr) (o : Obj) (vs : List Value), v = .ref a ∧ O a o ∧ (o.cls = .type "list" ∧ ∃ n, o.data = .seq vs.toArray n) ∧ Reps z O ds vs
  | .tab D, v => ∃ (a : Addr) (o : Obj), v = .ref a ∧ O a o ∧ TabO z.w a o D
  | .val u, v => v = u
noncomputable def Reps (z : Zw) (O : Addr → Obj → Prop) : List Dv → List Value → Prop
  | [], vs => vs = []
  | d :: ds, vs => ∃ (v : Value) (r : List Value), vs = v :: r ∧ Rep z O d v ∧ Reps z O ds r
end
mutual
theorem Rep.mono {z : Zw} {O O' : Addr → Obj → Prop} (h : ∀ a o, O a o → O' a o) : ∀ (d : Dv) (v : Value), Rep z O d v → Rep z O' d v
  | .flt _, _, x => x
  | .int _, _, x => x
  | .bol _, _, x => x
  | .str _, _, x => x
  | .tup ds, _, ⟨a, o, vs, e, x, y, w⟩ => ⟨a, o, vs, e, h a o x, y, Reps.mono h ds vs w⟩
  | .lst ds, _, ⟨a, o, vs, e, x, y, w⟩ => ⟨a, o, vs, e, h a o x, y, Reps.mono h ds vs w⟩
  | .tab _, _, ⟨a, o, e, x, y⟩ => ⟨a, o, e, h a o x, y⟩
  | .val _, _, x => x
theorem Reps.mono {z : Zw} {O O' : Addr → Obj → Prop} (h : ∀ a o, O a o → O' a o) : ∀ (ds : List Dv) (vs : List Value), Reps z O ds vs → Reps z O' ds vs
  | [], _, x => x
  | d :: ds, _, ⟨v, r, e, x, y⟩ => ⟨v, r, e, Rep.mono h d v x, Reps.mono h ds r y⟩
end
theorem Sec.mono {ob : Addr → Obj → Prop} {N N' : Led} (h : ∀ p ∈ N, p ∈ N') (a : Addr) (o : Obj) : Sec ob N a o → Sec ob N' a o := fun x => x.imp (h _) id
/-- a frame of a called def: the world, the frame, its ground, what is protected besides (X), objects that stay for ever (ob) -/
structure Cx where
  mean : ExcName → Option Value
  mg : Str → Option Value
  mb : Str → Option Value
  dp : Nat
  un : Nat
  gd : Option (List Code)
  cn : Str
  a : Addr
  ccd : Value
  outer : List Env
  A₀ : Around
  base : Heap
  h₀ : Heap
  L : Addr
  s0 : Shared
  ob : Addr → Obj → Prop
  z : Zw
  X : Led
  fl : Led
noncomputable abbrev Cx.w (C : Cx) : World := C.z.w
noncomputable def Cx.on (C : Cx) (X : Led) : Cx := { C with X := X }
noncomputable def Cx.cl (C : Cx) (sc : Scope) : List (Str × Addr) := cellsFrom (C.L + 1) sc.names []
noncomputable abbrev Cx.env (C : Cx) (sc : Scope) : Env := envX C.cn sc C.L C.a C.ccd (C.cl sc)
noncomputable abbrev Cx.A (C : Cx) (sc : Scope) : Around := ktrTop C.dp C.un C.gd C.cn sc C.L C.a C.ccd (C.cl sc) C.outer
noncomputable abbrev Cx.M (C : Cx) : Model := model Mine.rw0.row.prog C.w
structure Ok (C : Cx) (d u : Nat) : Prop where
  B : Below C.A₀ C.base C.outer C.h₀
  X : (Mine.K C.w.params).In C.h₀
  T : Top Mine.vw (looseW Mine.vw LO) C.mean C.mg C.mb C.h₀
  ob : ∀ a o, C.ob a o → C.h₀.get? a = some o
  dp : C.dp + d < recursionLimit
  un : C.un + u < cLine
  obK : ∀ a o, (Mine.K C.w.params).lookup a = some o → C.ob a o
theorem Ok.on {C : Cx} {d u : Nat} (h : Ok C d u) (X : Led) : Ok (C.on X) d u := ⟨h.B, h.X, h.T, h.ob, h.dp, h.un, h.obK⟩
/-- what is held besides: a word on the frame's names, the protected objects and the data's objects that longer ledgers keep -/
structure Gx where
  holds : (Str → Option Value) → Led → Led → Prop
  mono : ∀ m X X' N N', holds m X N → (∀ p ∈ X, p ∈ X') → (∀ p ∈ N, p ∈ N') → holds m X' N'
structure AtH (C : Cx) (Γ : Gx) (τ : List (Dv × Value)) (h : Heap) (m : Str → Option Value) (N : Led) : Prop where
  F : Fr C.h₀ C.L h m
  nw : News C.h₀ C.L h (C.X ++ N)
  dj : ∀ p ∈ N, ∀ q ∈ C.X, p.1 ≠ q.1
  g : Γ.holds m C.X N
  t : ∀ p ∈ τ, Rep C.z (Sec C.ob N) p.1 p.2
  fl : ∀ p ∈ C.fl, p ∈ N
/-- the state, its next mark not nought where z asks it; the state with any next mark -/
noncomputable def At (C : Cx) (Γ : Gx) (τ : List (Dv × Value)) (s : Shared) : Prop := ∃ h tk m N, s = { C.s0 with heap := h, toks := tk } ∧ Zt C.z tk ∧ AtH C Γ τ h m N
noncomputable def AtW (C : Cx) (Γ : Gx) (τ : List (Dv × Value)) (s : Shared) : Prop := ∃ h tk m N, s = { C.s0 with heap := h, toks := tk } ∧ AtH C Γ τ h m N
section
variable {C : Cx} {Γ : Gx} {τ τ' : List (Dv × Value)} {h : Heap} {m : Str → Option Value} {N : Led}
theorem AtH.tau (a : AtH C Γ τ h m N) (hs : ∀ p ∈ τ', p ∈ τ) : AtH C Γ τ' h m N := ⟨a.F, a.nw, a.dj, a.g, fun p hp => a.t p (hs p hp), a.fl⟩
theorem AtH.push (a : AtH C Γ τ h m N) {d : Dv} {v : Value} (hr : Rep C.z (Sec C.ob N) d v) : AtH C Γ ((d, v) :: τ) h m N := ⟨a.F, a.nw, a.dj, a.g, List.forall_mem_cons.mpr ⟨hr, a.t⟩, a.fl⟩
/-- a heap that keeps frame and ledger -/
theorem AtH.to {h' : Heap} (a : AtH C Γ τ h m N) (F : Fr C.h₀ C.L h' m) (N' : News C.h₀ C.L h' (C.X ++ N)) : AtH C Γ τ h' m N := ⟨F, N', a.dj, a.g, a.t, a.fl⟩
/-- a heap with one more datum -/
theorem AtH.new {h' : Heap} {D : Addr} {o : Obj} (a : AtH C Γ τ h m N) (F : Fr C.h₀ C.L h' m) (N' : News C.h₀ C.L h' ((D, o) :: (C.X ++ N))) (hlt : ∀ p ∈ C.X ++ N, p.1 ≠ D) : AtH C Γ τ h' m ((D, o) :: N) :=
  have hs : ∀ p ∈ N, p ∈ (D, o) :: N := fun _ hp => .tail _ hp
  ⟨F, fun p hp => N' p (by
      rcases List.mem_append.mp hp with hp | hp
      · exact .tail _ (List.mem_append_left _ hp)
      · rcases List.mem_cons.mp hp with rfl | hp
        · exact .head _
        · exact .tail _ (List.mem_append_right _ hp)), List.forall_mem_cons.mpr ⟨fun q hq => (hlt q (List.mem_append_left _ hq)).symm, a.dj⟩, Γ.mono m _ _ _ _ a.g (fun _ hp => hp) hs, fun p hp => Rep.mono (Sec.mono hs) _ _ (a.t p hp), fun p hp => hs p (a.fl p hp)⟩
end
theorem At.w {C : Cx} {Γ : Gx} {τ : List (Dv × Value)} {s : Shared} (h : At C Γ τ s) : AtW C Γ τ s := let ⟨h, tk, m, N, e, _, a⟩ := h; ⟨h, tk, m, N, e, a⟩
theorem AtW.at {C : Cx} {Γ : Gx} {τ : List (Dv × Value)} {s : Shared} (h : AtW C Γ τ s) (hz : C.z.b = false) : At C Γ τ s := let ⟨h, tk, m, N, e, a⟩ := h; ⟨h, tk, m, N, e, zt_no hz, a⟩
theorem At.tau {C : Cx} {Γ : Gx} {τ τ' : List (Dv × Value)} {s : Shared} (h : At C Γ τ s) (hs : ∀ p ∈ τ', p ∈ τ) : At C Γ τ' s :=
  let ⟨h, tk, m, N, e, z, a⟩ := h; ⟨h, tk, m, N, e, z, a.tau hs⟩
theorem At.tokf {C : Cx} {Γ : Gx} {τ : List (Dv × Value)} {s : Shared} (h : At C Γ τ s) (x : UInt64) : At C Γ ((.flt x, .float x s.toks) :: τ) { s with toks := s.toks + 1 } :=
  let ⟨h, tk, m, N, e, z, a⟩ := h; ⟨h, tk + 1, m, N, by rw [e], zt_of (Nat.succ_ne_zero _), a.push ⟨_, by rw [e]; exact z, rfl⟩⟩
theorem AtW.toki {C : Cx} {Γ : Gx} {τ : List (Dv × Value)} {s : Shared} (h : AtW C Γ τ s) (i : Int) : At C Γ ((.int i, .int i s.toks) :: τ) { s with toks := s.toks + 1 } :=
  let ⟨h, tk, m, N, e, a⟩ := h; ⟨h, tk + 1, m, N, by rw [e], zt_of (Nat.succ_ne_zero _), a.push ⟨_, rfl⟩⟩
theorem At.toki {C : Cx} {Γ : Gx} {τ : List (Dv × Value)} {s : Shared} (h : At C Γ τ s) (i : Int) : At C Γ ((.int i, .int i s.toks) :: τ) { s with toks := s.toks + 1 } := h.w.toki i
theorem At.toks {C : Cx} {Γ : Gx} {τ : List (Dv × Value)} {s : Shared} (h : At C Γ τ s) (i : Str) : At C Γ ((.str i, .str i s.toks) :: τ) { s with toks := s.toks + 1 } :=
  let ⟨h, tk, m, N, e, _, a⟩ := h; ⟨h, tk + 1, m, N, by rw [e], zt_of (Nat.succ_ne_zero _), a.push ⟨_, rfl⟩⟩
theorem At.bol {C : Cx} {Γ : Gx} {τ : List (Dv × Value)} {s : Shared} (h : At C Γ τ s) (b : Bool) : At C Γ ((.bol b, .bool b) :: τ) s :=
  let ⟨h, tk, m, N, e, z, a⟩ := h; ⟨h, tk, m, N, e, z, a.push rfl⟩
theorem At.val {C : Cx} {Γ : Gx} {τ : List (Dv × Value)} {s : Shared} (h : At C Γ τ s) (v : Value) : At C Γ ((.val v, v) :: τ) s :=
  let ⟨h, tk, m, N, e, z, a⟩ := h; ⟨h, tk, m, N, e, z, a.push rfl⟩
theorem At.rep {C : Cx} {Γ : Gx} {τ : List (Dv × Value)} {s : Shared} {p : Dv × Value} (h : At C Γ τ s) (hp : p ∈ τ) : ∃ O, Rep C.z O p.1 p.2 :=
  let ⟨_, _, _, _, _, _, a⟩ := h; ⟨_, a.t p hp⟩
/-- a state that keeps all but the marks -/
theorem At.mark {C : Cx} {Γ : Gx} {τ : List (Dv × Value)} {s : Shared} (h : At C Γ τ s) (hz : C.z.b = false) (t : Nat) : At C Γ τ { s with toks := t } :=
  let ⟨h, _, m, N, e, _, a⟩ := h; ⟨h, t, m, N, by rw [e], zt_no hz, a⟩
noncomputable def Ev (C : Cx) (sc : Scope) (env : Env) (Γ : Gx) (e : Expr) (d : Dv) : Prop :=
  ∀ (τ : List (Dv × Value)) (s : Shared) (E : Value → Shared → Prop), At C Γ τ s → wpAny C.M (C.A sc) (eval e env) (fun v s' => At C Γ ((d, v) :: τ) s') E s
noncomputable def Test (C : Cx) (sc : Scope) (env : Env) (Γ : Gx) (e : Expr) (b : Bool) : Prop :=
  ∀ (τ : List (Dv × Value)) (s : Shared) (E : Value → Shared → Prop), At C Γ τ s → wpAny C.M (C.A sc) (PySem.isTrue e env (eval e env)) (fun k s' => k = b ∧ At C Γ τ s') E s
/-- an operation on two values that are held -/
noncomputable def Bin (C : Cx) (sc : Scope) (op : Operator) (d₁ d₂ d₃ : Dv) : Prop :=
  ∀ (Γ : Gx) (τ : List (Dv × Value)) (v₁ v₂ : Value) (s : Shared) (E : Value → Shared → Prop), At C Γ ((d₂, v₂) :: (d₁, v₁) :: τ) s → wpAny C.M (C.A sc) (binaryOp op v₁ v₂) (fun v s' => At C Γ ((d₃, v) :: τ) s') E s
noncomputable def Cmp (C : Cx) (sc : Scope) (op : CmpOp) (d₁ d₂ : Dv) (b : Bool) : Prop :=
  ∀ (Γ : Gx) (τ : List (Dv × Value)) (v₁ v₂ : Value) (s : Shared) (E : Value → Shared → Prop), At C Γ ((d₂, v₂) :: (d₁, v₁) :: τ) s → wpAny C.M (C.A sc) (compareOp op v₁ v₂) (fun v s' => v = .bool b ∧ At C Γ τ s') E s
section
variable {C : Cx} {sc : Scope} {env : Env} {Γ : Gx}
theorem Ev.cf {x : UInt64} {k : Nat} {p : Pos} : Ev C sc env Γ (.Constant (.float x) k p) (.flt x) := fun _ _ _ h => wpAny_Constant_float (h.tokf x)
theorem Ev.ci {i : Int} {k : Nat} {p : Pos} : Ev C sc env Γ (.Constant (.int i) k p) (.int i) := fun _ _ _ h => wpAny_Constant_int (h.toki i)
theorem Ev.cs {x : Str} {k : Nat} {p : Pos} : Ev C sc env Γ (.Constant (.str x) k p) (.str x) := fun _ _ _ h => Calls.Constant_str (h.toks x)
theorem Ev.cb {b : Bool} {k : Nat} {p : Pos} : Ev C sc env Γ (.Constant (.bool b) k p) (.bol b) := fun _ _ _ h => PyProof.Rows.Constant_bool (h.bol b)
theorem Ev.bin {l r : Expr} {op : Operator} {p : Pos} {d₁ d₂ d₃ : Dv} (hl : Ev C sc env Γ l d₁) (hr : Ev C sc env Γ r d₂) (ho : Bin C sc op d₁ d₂ d₃) : Ev C sc env Γ (.BinOp l op r p) d₃ :=
  fun τ s E h => wpAny_BinOp (wpAny_mono (hl τ s E h) (fun _ s₁ h₁ => wpAny_mono (hr _ s₁ E h₁) (fun _ s₂ h₂ => ho Γ τ _ _ s₂ E h₂) fun _ _ e => e) fun _ _ e => e)
theorem Ev.to {e : Expr} {d d' : Dv} (h : Ev C sc env Γ e d) (e' : d = d') : Ev C sc env Γ e d' := e' ▸ h
theorem Test.to {e : Expr} {d d' : Bool} (h : Test C sc env Γ e d) (e' : d = d') : Test C sc env Γ e d' := e' ▸ h
theorem flts {τ : List (Dv × Value)} {x y : UInt64} {v₁ v₂ : Value} {s : Shared} (h : At C Γ ((.flt y, v₂) :: (.flt x, v₁) :: τ) s) : ∃ t u, v₁ = .float x t ∧ v₂ = .float y u := by
  obtain ⟨_, t, _, e⟩ := h.rep (.head _)
  obtain ⟨_, u, _, e'⟩ := h.rep (.tail _ (.head _))
  exact ⟨u, t, e', e⟩
theorem twoI {τ : List (Dv × Value)} {x y : Int} {v₁ v₂ : Value} {s : Shared} (h : At C Γ ((.int y, v₂) :: (.int x, v₁) :: τ) s) : ∃ t u, v₁ = .int x t ∧ v₂ = .int y u := by
  obtain ⟨_, t, e⟩ := h.rep (.head _)
  obtain ⟨_, u, e'⟩ := h.rep (.tail _ (.head _))
  exact ⟨u, t, e', e⟩
theorem fltint {τ : List (Dv × Value)} {x : UInt64} {y : Int} {v₁ v₂ : Value} {s : Shared} (h : At C Γ ((.int y, v₂) :: (.flt x, v₁) :: τ) s) : ∃ t u, v₁ = .float x t ∧ v₂ = .int y u := by
  obtain ⟨_, t, e⟩ := h.rep (.head _)
  obtain ⟨_, u, _, e'⟩ := h.rep (.tail _ (.head _))
  exact ⟨u, t, e', e⟩
theorem intflt {τ : List (Dv × Value)} {x : Int} {y : UInt64} {v₁ v₂ : Value} {s : Shared} (h : At C Γ ((.flt y, v₂) :: (.int x, v₁) :: τ) s) : ∃ t u, v₁ = .int x t ∧ v₂ = .float y u := by
  obtain ⟨_, t, _, e⟩ := h.rep (.head _)
  obtain ⟨_, u, e'⟩ := h.rep (.tail _ (.head _))
  exact ⟨u, t, e', e⟩
theorem At.pop2 {τ : List (Dv × Value)} {a b : Dv × Value} {s : Shared} (h : At C Γ (a :: b :: τ) s) : At C Γ τ s := h.tau fun _ hp => .tail _ (.tail _ hp)
theorem At.pop1 {τ : List (Dv × Value)} {a : Dv × Value} {s : Shared} (h : At C Γ (a :: τ) s) : At C Γ τ s := h.tau fun _ hp => .tail _ hp
-- floats
theorem Bin.addf {x y : UInt64} : Bin C sc .Add (.flt x) (.flt y) (.flt (Float64.add x y)) := fun _ _ _ _ _ _ h => by
  obtain ⟨t, u, rfl, rfl⟩ := flts h; exact add_float (h.pop2.tokf _)
theorem Bin.subf {x y : UInt64} : Bin C sc .Sub (.flt x) (.flt y) (.flt (Float64.sub x y)) := fun _ _ _ _ _ _ h => by
  obtain ⟨t, u, rfl, rfl⟩ := flts h; exact sub_float (h.pop2.tokf _)
theorem Bin.mulf {x y : UInt64} : Bin C sc .Mult (.flt x) (.flt y) (.flt (Float64.mul x y)) := fun _ _ _ _ _ _ h => by
  obtain ⟨t, u, rfl, rfl⟩ := flts h; exact mul_float (h.pop2.tokf _)
theorem Bin.divf {x y : UInt64} (hz : Float64.isZero y = false) : Bin C sc .Div (.flt x) (.flt y) (.flt (Float64.div x y)) := fun _ _ _ _ _ _ h => by
  obtain ⟨t, u, rfl, rfl⟩ := flts h; exact truediv_float_or rfl (fun e => absurd e (ne_true_of_eq_false hz)) fun _ => h.pop2.tokf _
theorem Bin.modf {x y : UInt64} (hz : Float64.isZero y = false) : Bin C sc .Mod (.flt x) (.flt y) (.flt (Float64.divmod x y).2) := fun _ _ _ _ _ _ h => by
  obtain ⟨t, u, rfl, rfl⟩ := flts h; exact Flt.mod_ff rfl (fun e => absurd e (ne_true_of_eq_false hz)) fun _ => h.pop2.tokf _
theorem big_no {n : Int} (h : n.natAbs < 2 ^ 64) (h2 : 2 ^ 1024 - 2 ^ 970 ≤ n.natAbs) : False := by
  have : (2 : Nat) ^ 64 ≤ 2 ^ 1024 - 2 ^ 970 := by decide +kernel
  exact absurd (Nat.lt_of_lt_of_le h this) (Nat.not_lt.mpr h2)
theorem Bin.subfi {x : UInt64} {n : Int} (hn : n.natAbs < 2 ^ 64) : Bin C sc .Sub (.flt x) (.int n) (.flt (Float64.sub x (Float64.ofInt n))) := fun _ _ _ _ _ _ h => by
  obtain ⟨t, u, rfl, rfl⟩ := fltint h; exact sub_fi_sharp rfl (fun e => (big_no hn e).elim) fun _ => h.pop2.tokf _
theorem Bin.addfi {x : UInt64} {n : Int} (hn : n.natAbs < 2 ^ 64) : Bin C sc .Add (.flt x) (.int n) (.flt (Float64.add x (Float64.ofInt n))) := fun _ _ _ _ _ _ h => by
  obtain ⟨t, u, rfl, rfl⟩ := fltint h; exact add_fi_sharp rfl (fun e => (big_no hn e).elim) fun _ => h.pop2.tokf _
theorem Bin.subif {x : UInt64} {n : Int} (hn : n.natAbs < 2 ^ 64) : Bin C sc .Sub (.int n) (.flt x) (.flt (Float64.sub (Float64.ofInt n) x)) := fun _ _ _ _ _ _ h => by
  obtain ⟨t, u, rfl, rfl⟩ := intflt h; exact sub_if_sharp rfl (fun e => (big_no hn e).elim) fun _ => h.pop2.tokf _
theorem Bin.mulif {x : UInt64} {n : Int} (hn : n.natAbs < 2 ^ 64) : Bin C sc .Mult (.int n) (.flt x) (.flt (Float64.mul (Float64.ofInt n) x)) := fun _ _ _ _ _ _ h => by
  obtain ⟨t, u, rfl, rfl⟩ := intflt h; exact mul_if_sharp rfl (fun e => (big_no hn e).elim) fun _ => h.pop2.tokf _
theorem Bin.divii {a b : Int} (ha : a.natAbs < 2 ^ 64) (hb : b ≠ 0) : Bin C sc .Div (.int a) (.int b) (.flt (Float64.ofFrac (decide (a < 0) != decide (b < 0)) a.natAbs b.natAbs)) := fun _ _ _ _ _ _ h => by
  obtain ⟨t, u, rfl, rfl⟩ := twoI h; exact Flt.div_ii_fits rfl (Nat.lt_trans ha (by decide +kernel)) (fun e => absurd e hb) fun _ _ => h.pop2.tokf _
-- ints
theorem Bin.addi {x y : Int} : Bin C sc .Add (.int x) (.int y) (.int (x + y)) := fun _ _ _ _ _ _ h => by
  obtain ⟨t, u, rfl, rfl⟩ := twoI h; exact add_int (h.pop2.toki _)
theorem Bin.subi {x y : Int} : Bin C sc .Sub (.int x) (.int y) (.int (x - y)) := fun _ _ _ _ _ _ h => by
  obtain ⟨t, u, rfl, rfl⟩ := twoI h; exact sub_int (h.pop2.toki _)
theorem Bin.muli {x y : Int} (hx : IntMulOk x y) : Bin C sc .Mult (.int x) (.int y) (.int (x * y)) := fun _ _ _ _ _ _ h => by
  obtain ⟨t, u, rfl, rfl⟩ := twoI h; exact mul_int (h.pop2.toki _) hx
theorem Bin.modi {x y : Int} (hy : y ≠ 0) : Bin C sc .Mod (.int x) (.int y) (.int (x.fmod y)) := fun _ _ _ _ _ _ h => by
  obtain ⟨t, u, rfl, rfl⟩ := twoI h; exact mod_int' hy (h.pop2.toki _)
theorem log2_lt {n k : Nat} (h : n < 2 ^ k) (hk : 0 < k) : n.log2 < k := by
  by_cases h0 : n = 0
  · subst h0; rw [Nat.log2_zero]; exact hk
  · exact (Nat.log2_lt h0).mpr h
theorem Bin.divi {x y : Int} (hy : y ≠ 0) (hs : y.natAbs < 2 ^ 64) : Bin C sc .FloorDiv (.int x) (.int y) (.int (x.fdiv y)) := fun _ _ _ _ _ _ h => by
  obtain ⟨t, u, rfl, rfl⟩ := twoI h
  exact floordiv_int hy (h.pop2.toki _) (.inl (PyProof.noPylong_of_log2 (Nat.lt_trans (log2_lt hs (by decide)) (by decide))))
theorem Bin.powi {x y : Int} (h0 : 0 ≤ y) (h1 : (Builtin.Int.intBits x : Int) * y ≤ 2 ^ 27) : Bin C sc .Pow (.int x) (.int y) (.int (x ^ y.toNat)) := fun _ _ _ _ _ _ h => by
  obtain ⟨t, u, rfl, rfl⟩ := twoI h; exact pow_int h0 h1 (h.pop2.toki _)
theorem Bin.adds {x y : Str} (hz : C.z.b = false) (hl : x.length + y.length ≤ sizeLine) : Bin C sc .Add (.str x) (.str y) (.str (x ++ y)) := fun _ _ _ _ _ _ h => by
  obtain ⟨_, u, rfl⟩ := h.rep (.head _)
  obtain ⟨_, t, rfl⟩ := h.rep (.tail _ (.head _))
  refine add_str (fun t' tk => ?_) hl
  obtain ⟨hp, tk0, m, N, e, z, a⟩ := h.pop2.mark hz tk
  exact ⟨hp, tk0, m, N, e, z, a.push ⟨_, rfl⟩⟩
-- comparisons
theorem Cmp.eqf {x y : UInt64} : Cmp C sc .Eq (.flt x) (.flt y) (Float64.cmp x y == some .eq) := fun _ _ _ _ _ _ h => by
  obtain ⟨t, u, rfl, rfl⟩ := flts h; exact AutoFloatOps.eq_0 ⟨rfl, h.pop2⟩
theorem Cmp.ltf {x y : UInt64} : Cmp C sc .Lt (.flt x) (.flt y) (Float64.cmp x y == some .lt) := fun _ _ _ _ _ _ h => by
  obtain ⟨t, u, rfl, rfl⟩ := flts h; exact AutoFloatOps.lt_0 ⟨rfl, h.pop2⟩
theorem Cmp.gtf {x y : UInt64} : Cmp C sc .Gt (.flt x) (.flt y) (Float64.cmp x y == some .gt) := fun _ _ _ _ _ _ h => by
  obtain ⟨t, u, rfl, rfl⟩ := flts h; exact AutoFloatOps.gt_0 ⟨rfl, h.pop2⟩
theorem Cmp.lef {x y : UInt64} : Cmp C sc .LtE (.flt x) (.flt y) (Float64.cmp x y == some .lt || Float64.cmp x y == some .eq) := fun _ _ _ _ _ _ h => by
  obtain ⟨t, u, rfl, rfl⟩ := flts h; exact AutoFloatOps.le_0 ⟨rfl, h.pop2⟩
theorem Cmp.eqi {x y : Int} : Cmp C sc .Eq (.int x) (.int y) (x == y) := fun _ _ _ _ _ _ h => by
  obtain ⟨t, u, rfl, rfl⟩ := twoI h; exact eq_int ⟨rfl, h.pop2⟩
theorem Cmp.lti {x y : Int} : Cmp C sc .Lt (.int x) (.int y) (decide (x < y)) := fun _ _ _ _ _ _ h => by
  obtain ⟨t, u, rfl, rfl⟩ := twoI h; exact lt_int ⟨rfl, h.pop2⟩
theorem Cmp.gti {x y : Int} : Cmp C sc .Gt (.int x) (.int y) (decide (y < x)) := fun _ _ _ _ _ _ h => by
  obtain ⟨t, u, rfl, rfl⟩ := twoI h; exact gt_int ⟨rfl, h.pop2⟩
theorem Cmp.gei {x y : Int} : Cmp C sc .GtE (.int x) (.int y) (decide (y ≤ x)) := fun _ _ _ _ _ _ h => by
  obtain ⟨t, u, rfl, rfl⟩ := twoI h; exact ge_int ⟨rfl, h.pop2⟩
theorem Ev.cmp {l r : Expr} {op : CmpOp} {p : Pos} {d₁ d₂ : Dv} {b : Bool} (hl : Ev C sc env Γ l d₁) (hr : Ev C sc env Γ r d₂) (ho : Cmp C sc op d₁ d₂ b) (hm : behindInMarks op r = false := by kernel_rfl) : Ev C sc env Γ (.Compare l [op] [r] p) (.bol b) :=
  fun τ s E h => wpAny_Compare1 (wpAny_mono (hl τ s E h) (fun _ s₁ h₁ => wpAny_mono (hr _ s₁ E h₁) (fun _ s₂ h₂ => wpAny_mono (ho Γ τ _ _ s₂ E h₂) (fun v s₃ h₃ => by obtain ⟨rfl, h₃⟩ := h₃; exact h₃.bol b) fun _ _ e => e) fun _ _ e => e) fun _ _ e => e) hm
theorem Test.cmp {l r : Expr} {op : CmpOp} {p : Pos} {d₁ d₂ : Dv} {b : Bool} (hl : Ev C sc env Γ l d₁) (hr : Ev C sc env Γ r d₂) (ho : Cmp C sc op d₁ d₂ b) (hm : behindInMarks op r = false := by kernel_rfl) : Test C sc env Γ (.Compare l [op] [r] p) b :=
  fun τ s E h => wpAny_isTrue_Compare1 (wpAny_mono (hl τ s E h) (fun _ s₁ h₁ => wpAny_mono (hr _ s₁ E h₁) (fun _ s₂ h₂ => wpAny_mono (ho Γ τ _ _ s₂ E h₂) (fun v s₃ h₃ => by obtain ⟨rfl, h₃⟩ := h₃; exact wpAny_truthy_bool ⟨rfl, h₃⟩) fun _ _ e => e) fun _ _ e => e) fun _ _ e => e) hm
/-- the truth of a name that holds a bool -/
theorem Test.name {x : Str} {p : Pos} {b : Bool} (h : Ev C sc env Γ (.Name x p) (.bol b)) : Test C sc env Γ (.Name x p) b :=
  fun τ s E ha => isTrue_plain (wpAny_mono (h τ s E ha) (fun v s₁ h₁ => by obtain ⟨O, rfl⟩ := h₁.rep (.head _); exact wpAny_truthy_bool ⟨rfl, h₁.pop1⟩) fun _ _ e => e) (by rfl)
theorem Ev.ife {t a b : Expr} {p : Pos} {c : Bool} {d : Dv} (ht : Test C sc env Γ t c) (h1 : c = true → Ev C sc env Γ a d) (h2 : c = false → Ev C sc env Γ b d) : Ev C sc env Γ (.IfExp t a b p) d :=
  fun τ s E h => wpAny_IfExp (wpAny_mono (ht τ s E h) (fun k s₁ hk => by
    obtain ⟨rfl, h₁⟩ := hk
    cases k with
    | true => exact h1 rfl τ s₁ E h₁
    | false => exact h2 rfl τ s₁ E h₁) fun _ _ e => e)
theorem Test.or2 {a b : Expr} {p : Pos} {c₁ c₂ : Bool} (h1 : Test C sc env Γ a c₁) (h2 : c₁ = false → Test C sc env Γ b c₂) : Test C sc env Γ (.BoolOp .Or [a, b] p) (c₁ || c₂) :=
  fun τ s E h => isTrue_or (wpAny_mono (h1 τ s E h) (fun k s₁ hk => by
    obtain ⟨rfl, h₁⟩ := hk
    cases k with
    | true => exact ⟨rfl, h₁⟩
    | false =>
      refine isTrue_or (wpAny_mono (h2 rfl τ s₁ E h₁) (fun k s₂ hk => ?_) fun _ _ e => e)
      obtain ⟨rfl, h₂⟩ := hk
      cases k with
      | true => exact ⟨rfl, h₂⟩
      | false => exact isTrue_or_nil ⟨rfl, h₂⟩) fun _ _ e => e)
theorem Test.and2 {a b : Expr} {p : Pos} {c₁ c₂ : Bool} (h1 : Test C sc env Γ a c₁) (h2 : c₁ = true → Test C sc env Γ b c₂) : Test C sc env Γ (.BoolOp .And [a, b] p) (c₁ && c₂) :=
  fun τ s E h => isTrue_and (wpAny_mono (h1 τ s E h) (fun k s₁ hk => by
    obtain ⟨rfl, h₁⟩ := hk
    cases k with
    | false => exact ⟨rfl, h₁⟩
    | true =>
      refine isTrue_and (wpAny_mono (h2 rfl τ s₁ E h₁) (fun k s₂ hk => ?_) fun _ _ e => e)
      obtain ⟨rfl, h₂⟩ := hk
      cases k with
      | false => exact ⟨rfl, h₂⟩
      | true => exact isTrue_and_nil ⟨rfl, h₂⟩) fun _ _ e => e)
theorem Ev.neg {e : Expr} {p : Pos} {x : UInt64} (h : Ev C sc env Γ e (.flt x)) : Ev C sc env Γ (.UnaryOp .USub e p) (.flt (Float64.neg x)) :=
  fun τ s E ha => UnaryOp_ (wpAny_mono (h τ s E ha) (fun v s₁ h₁ => by obtain ⟨O, t, ht, rfl⟩ := h₁.rep (.head _); exact neg_float (h₁.pop1.tokf _)) fun _ _ e => e)
theorem Ev.negi {e : Expr} {p : Pos} {x : Int} (h : Ev C sc env Γ e (.int x)) : Ev C sc env Γ (.UnaryOp .USub e p) (.int (-x)) :=
  fun τ s E ha => UnaryOp_ (wpAny_mono (h τ s E ha) (fun v s₁ h₁ => by obtain ⟨O, t, rfl⟩ := h₁.rep (.head _); exact neg_int (h₁.pop1.toki _)) fun _ _ e => e)
end
end Mine
end PEv1

section PEv2
open PySem PySem.W PySem.Spec PySem.Calls PyProof.Rows

namespace Mine
noncomputable abbrev Mu := List (Str × Dv)
theorem lookup_cons_eq {α : Type} {x y : Str} {d : α} {μ : List (Str × α)} : ((x, d) :: μ).lookup y = if y = x then some d else μ.lookup y := by
  rw [List.lookup_cons]
  by_cases h : y = x
  · subst h; rw [if_pos rfl, beq_self_eq_true]
  · rw [if_neg h, beq_false_of_ne h]
theorem lookup_mem {x : Str} {c : Addr} : ∀ {l : List (Str × Addr)}, l.lookup x = some c → (x, c) ∈ l
  | (y, d) :: l, h => by
    rw [lookup_cons_eq] at h
    split at h
    · rename_i e; subst e; cases h; exact .head _
    · exact .tail _ (lookup_mem h)
theorem lookup_hit {α : Type} {x : Str} {d : α} {μ : List (Str × α)} : ((x, d) :: μ).lookup x = some d := by rw [lookup_cons_eq, if_pos rfl]
theorem lookup_miss {α : Type} {x y : Str} {d e : α} {μ : List (Str × α)} (hne : y ≠ x) (h : μ.lookup y = some d) : ((x, e) :: μ).lookup y = some d := by rw [lookup_cons_eq, if_neg hne]; exact h
/-- a name that lies in the frame, in a cell -/
noncomputable def isLoc (sc : Scope) (x : Str) : Bool := sc.names.lookup x == some .local && sc.names.all fun p => !(p.1 == x && p.2 == .cell)
noncomputable def isCel (sc : Scope) (x : Str) : Bool := sc.names.lookup x == some .cell
theorem isLoc_kind {sc : Scope} {x : Str} (h : isLoc sc x = true) : sc.names.lookup x = some .local := eq_of_beq (Bool.and_eq_true_iff.mp h).1
theorem isCel_kind {sc : Scope} {x : Str} (h : isCel sc x = true) : sc.names.lookup x = some .cell := eq_of_beq h
theorem cl_none {x : Str} : ∀ {names : List (Str × NameKind)} {n : Nat} {acc : List (Str × Addr)}, acc.lookup x = none → (∀ p ∈ names, p.1 = x → p.2 ≠ .cell) → (cellsFrom n names acc).lookup x = none
  | [], _, _, h, _ => h
  | (nm, k) :: r, n, acc, h, ha => by
    unfold cellsFrom
    have hr : ∀ p ∈ r, p.1 = x → p.2 ≠ .cell := fun p hp => ha p (.tail _ hp)
    split
    · rename_i e
      refine cl_none ?_ hr
      rw [lookup_cons_eq, if_neg (fun e2 : x = nm => ha _ (.head _) e2.symm (eq_of_beq e))]
      exact h
    · exact cl_none h hr
theorem isLoc_cl' {sc : Scope} {x : Str} {n : Nat} (h : isLoc sc x = true) : (cellsFrom n sc.names []).lookup x = none :=
  cl_none rfl fun p hp e e2 => by
    have h1 := List.all_eq_true.mp (Bool.and_eq_true_iff.mp h).2 p hp
    rw [e, e2] at h1
    simp at h1
theorem isLoc_cl {C : Cx} {sc : Scope} {x : Str} (h : isLoc sc x = true) : (C.cl sc).lookup x = none := isLoc_cl' h
theorem cl_some {x : Str} : ∀ {names : List (Str × NameKind)} {n : Nat} {acc : List (Str × Addr)}, (acc.lookup x ≠ none ∨ names.lookup x = some .cell) → ∃ c, (cellsFrom n names acc).lookup x = some c
  | [], _, acc, h => by
    rcases h with h | h
    · exact Option.ne_none_iff_exists'.mp h
    · cases h
  | (nm, k) :: r, n, acc, h => by
    unfold cellsFrom
    split
    · rename_i e
      refine cl_some ?_
      rw [lookup_cons_eq]
      by_cases e2 : x = nm
      · rw [if_pos e2]; exact .inl (by simp)
      · rw [if_neg e2]
        rcases h with h | h
        · exact .inl h
        · rw [lookup_cons_eq, if_neg e2] at h; exact .inr h
    · rename_i e
      refine cl_some ?_
      rcases h with h | h
      · exact .inl h
      · rw [lookup_cons_eq] at h
        split at h
        · cases h; exact absurd rfl e
        · exact .inr h
theorem isCel_cl {sc : Scope} {x : Str} {n : Nat} (h : isCel sc x = true) : ∃ c, (cellsFrom n sc.names []).lookup x = some c := cl_some (.inr (isCel_kind h))
/-- where a name of the frame lies: in its cell, or in the frame -/
noncomputable def Lies (cl : List (Str × Addr)) (m : Str → Option Value) (N : Led) (x : Str) (v : Value) : Prop :=
  match cl.lookup x with
  | some c => ∃ o, (c, o) ∈ N ∧ o.data = .cell (some v)
  | none => m x = some v
theorem Lies.mono {cl : List (Str × Addr)} {m : Str → Option Value} {N N' : Led} {x : Str} {v : Value} (h : Lies cl m N x v) (hs : ∀ p ∈ N, p ∈ N') : Lies cl m N' x v := by
  unfold Lies at *
  cases e : cl.lookup x with
  | none => rw [e] at h; exact h
  | some c => rw [e] at h; obtain ⟨o, a, b⟩ := h; exact ⟨o, hs _ a, b⟩
theorem Lies.non {cl : List (Str × Addr)} {m : Str → Option Value} {N : Led} {x : Str} {v : Value} (h : cl.lookup x = none) : Lies cl m N x v ↔ m x = some v := by unfold Lies; rw [h]
theorem Lies.som {cl : List (Str × Addr)} {m : Str → Option Value} {N : Led} {x : Str} {v : Value} {c : Addr} (h : cl.lookup x = some c) : Lies cl m N x v ↔ ∃ o, (c, o) ∈ N ∧ o.data = .cell (some v) := by unfold Lies; rw [h]
structure LocH (C : Cx) (sc : Scope) (μ : Mu) (m : Str → Option Value) (X N : Led) : Prop where
  cells : ∀ q ∈ C.cl sc, ∃ o : Obj, (q.2, o) ∈ X ∧ ∃ u, o.data = .cell u
  facts : ∀ x d, μ.lookup x = some d → ∃ v, Rep C.z (Sec C.ob N) d v ∧ Lies (C.cl sc) m X x v
noncomputable def Loc (C : Cx) (sc : Scope) (μ : Mu) : Gx :=
  ⟨LocH C sc μ, fun m X X' N N' h hX hN => ⟨fun q hq => let ⟨o, a, b⟩ := h.cells q hq; ⟨o, hX _ a, b⟩,
    fun x d e => let ⟨v, a, b⟩ := h.facts x d e; ⟨v, Rep.mono (Sec.mono hN) d v a, b.mono hX⟩⟩⟩
section
variable {C : Cx} {sc : Scope} {env : Env} {Γ : Gx} {μ : Mu}
theorem Ev.loc {x : Str} {p : Pos} {d : Dv} (hm : μ.lookup x = some d) (hx : isLoc sc x = true) (hk : sc.kind = .function := by kernel_rfl) (hb : (x == ("__debug__" : Str)) = false := by kernel_rfl) :
    Ev C sc (C.env sc) (Loc C sc μ) (.Name x p) d := fun τ s E h => by
  obtain ⟨hp, tk, m, N, rfl, z, a⟩ := h
  obtain ⟨v, hr, hl⟩ := a.g.facts x d hm
  unfold Lies at hl
  rw [isLoc_cl hx] at hl
  exact nameX_L a.F hl ⟨hp, tk, m, N, rfl, z, a.push hr⟩ hk (isLoc_kind hx) hb
theorem Ev.cell {x : Str} {p : Pos} {d : Dv} (hm : μ.lookup x = some d) (hx : isCel sc x = true) (hk : sc.kind = .function := by kernel_rfl) (hb : (x == ("__debug__" : Str)) = false := by kernel_rfl) :
    Ev C sc (C.env sc) (Loc C sc μ) (.Name x p) d := fun τ s E h => by
  obtain ⟨hp, tk, m, N, rfl, z, a⟩ := h
  obtain ⟨v, hr, hl⟩ := a.g.facts x d hm
  unfold Lies at hl
  obtain ⟨c, hc⟩ := isCel_cl (n := C.L + 1) hx
  rw [show (C.cl sc).lookup x = some c from hc] at hl
  obtain ⟨o, ho, hd⟩ := hl
  exact nameX_C a.nw hc (List.mem_append_left _ ho) hd ⟨hp, tk, m, N, rfl, z, a.push hr⟩ hk (isCel_kind hx) hb
theorem Ev.globf {x : Str} {p : Pos} {y : UInt64} {t : Tok} {d u : Nat} (hO : Ok C d u) (hn : nsIn (Mine.K C.w.params) mainGlobals x = some (some (.float y t))) (ht : Zt C.z t) (hx : env.kindOf x = some .globalImplicit) (hg : env.globals = mainGlobals := by kernel_rfl) (hk : env.scope.kind = .function := by kernel_rfl) (hb : (x == ("__debug__" : Str)) = false := by kernel_rfl) :
    Ev C sc env Γ (.Name x p) (.flt y) := fun τ s E h => by
  obtain ⟨hp, tk, m, N, rfl, z, a⟩ := id h
  exact nameG_K a.F hO.X (topRead_of hO.T) hn ⟨hp, tk, m, N, rfl, z, a.push ⟨t, ht, rfl⟩⟩ hg hk hx hb
theorem Ev.globi {x : Str} {p : Pos} {i : Int} {t : Tok} {d u : Nat} (hO : Ok C d u) (hn : nsIn (Mine.K C.w.params) mainGlobals x = some (some (.int i t))) (hx : env.kindOf x = some .globalImplicit) (hg : env.globals = mainGlobals := by kernel_rfl) (hk : env.scope.kind = .function := by kernel_rfl) (hb : (x == ("__debug__" : Str)) = false := by kernel_rfl) :
    Ev C sc env Γ (.Name x p) (.int i) := fun τ s E h => by
  obtain ⟨hp, tk, m, N, rfl, z, a⟩ := id h
  exact nameG_K a.F hO.X (topRead_of hO.T) hn ⟨hp, tk, m, N, rfl, z, a.push ⟨t, rfl⟩⟩ hg hk hx hb
/-- several values at once -/
noncomputable def AtL (C : Cx) (Γ : Gx) (ds : List Dv) (vs : List Value) (τ : List (Dv × Value)) (s : Shared) : Prop :=
  ∃ h tk m N, s = { C.s0 with heap := h, toks := tk } ∧ Zt C.z tk ∧ AtH C Γ τ h m N ∧ Reps C.z (Sec C.ob N) ds vs
noncomputable def Evs (C : Cx) (sc : Scope) (env : Env) (Γ : Gx) (es : List Expr) (ds : List Dv) : Prop :=
  ∀ (pos : Pos) (τ : List (Dv × Value)) (s : Shared) (E : Value → Shared → Prop), At C Γ τ s → wpAny C.M (C.A sc) (spliced (backTo pos (starEach es env))) (fun vs s' => AtL C Γ ds vs τ s') E s
theorem Evs.nil : Evs C sc env Γ [] [] := fun _ _ _ _ h => spliced_none (let ⟨hp, tk, m, N, e, z, a⟩ := h; ⟨hp, tk, m, N, e, z, a, rfl⟩)
theorem Evs.cons {e : Expr} {es : List Expr} {d : Dv} {ds : List Dv} (h1 : Ev C sc env Γ e d) (h2 : Evs C sc env Γ es ds) (hs : starEach (e :: es) env = (false, eval e env) :: starEach es env := by kernel_rfl) : Evs C sc env Γ (e :: es) (d :: ds) :=
  fun pos τ s E h => spliced_more (wpAny_mono (h1 τ s E h) (fun v s₁ h₁ => wpAny_mono (h2 pos _ s₁ E h₁) (fun vs s₂ h₂ => by
    obtain ⟨hp, tk, m, N, e, z, a, g⟩ := h₂
    exact ⟨hp, tk, m, N, e, z, a.tau fun _ hp => .tail _ hp, v, vs, rfl, a.t _ (.head _), g⟩) fun _ _ e => e) fun _ _ e => e) hs
theorem Reps.length {z : Zw} {O : Addr → Obj → Prop} : ∀ {ds : List Dv} {vs : List Value}, Reps z O ds vs → vs.length = ds.length
  | [], _, h => by rw [h]; rfl
  | _ :: _, _, ⟨v, r, e, _, h⟩ => by rw [e, List.length_cons, List.length_cons, Reps.length h]
theorem Ev.tup {es : List Expr} {k : Nat} {p : Pos} {ds : List Dv} (h : Evs C sc env Γ es ds) (hl : ds.length ≤ sizeLine := by exact Nat.le_of_ble_eq_true (by kernel_rfl)) : Ev C sc env Γ (.Tuple es k p) (.tup ds) :=
  fun τ s E ha => Tuple_ (wpAny_mono (h p τ s E ha) (fun vs s₁ h₁ => by
    obtain ⟨hp, tk, m, N, rfl, z, a, g⟩ := h₁
    refine kup_newTuple a.F a.nw (fun D h' F' N' hlt => ?_) (by rw [g.length]; exact hl)
    have hs : ∀ p ∈ N, p ∈ (D, ({ cls := .type "tuple", data := .seq vs.toArray } : Obj)) :: N := fun _ hp => .tail _ hp
    exact ⟨h', tk, m, _, rfl, z, (a.new F' N' fun p hp => Nat.ne_of_lt (hlt p hp)).push ⟨D, _, vs, rfl, .inl (.head _), ⟨rfl, _, rfl⟩, Reps.mono (Sec.mono hs) ds vs g⟩⟩) fun _ _ e => e)
theorem Ev.list {es : List Expr} {p : Pos} {ds : List Dv} (h : Evs C sc env Γ es ds) (hl : ds.length ≤ sizeLine := by exact Nat.le_of_ble_eq_true (by kernel_rfl)) : Ev C sc env Γ (.List es p) (.lst ds) :=
  fun τ s E ha => List_ (wpAny_mono (h p τ s E ha) (fun vs s₁ h₁ => by
    obtain ⟨hp, tk, m, N, rfl, z, a, g⟩ := h₁
    refine newList_K a.F a.nw (fun D h' F' N' hlt => ?_) (by rw [g.length]; exact hl)
    have hs : ∀ p ∈ N, p ∈ (D, W.listOf vs.toArray 0) :: N := fun _ hp => .tail _ hp
    exact ⟨h', tk, m, _, rfl, z, (a.new F' N' fun p hp => Nat.ne_of_lt (hlt p hp)).push ⟨D, _, vs, rfl, .inl (.head _), ⟨rfl, _, rfl⟩, Reps.mono (Sec.mono hs) ds vs g⟩⟩) fun _ _ e => e)
/-- what a call gives -/
noncomputable def CallV (C : Cx) (sc : Scope) (f : Value) (ds : List Dv) (r : Dv) : Prop :=
  ∀ (Γ : Gx) (τ : List (Dv × Value)) (vs : List Value) (s : Shared) (E : Value → Shared → Prop), AtL C Γ ds vs τ s → wpAny C.M (C.A sc) (call f vs) (fun v s' => At C Γ ((r, v) :: τ) s') E s
noncomputable def CallOk (z : Zw) (f : Addr) (ds : List Dv) (d u : Nat) (r : Dv) : Prop := ∀ (C : Cx) (sc : Scope), C.z = z → Ok C d u → sc.kind = .function → CallV C sc (.ref f) ds r
theorem Ok.less {d u d' u' : Nat} (h : Ok C d u) (hd : d' ≤ d) (hu : u' ≤ u) : Ok C d' u' := ⟨h.B, h.X, h.T, h.ob, Nat.lt_of_le_of_lt (Nat.add_le_add_left hd _) h.dp, Nat.lt_of_le_of_lt (Nat.add_le_add_left hu _) h.un, h.obK⟩
theorem Ev.call {e : Expr} {es : List Expr} {x : Str} {p px : Pos} {f : Addr} {ds : List Dv} {d u d' u' : Nat} {r : Dv} (hO : Ok C d u) (hn : nsIn (Mine.K C.w.params) mainGlobals x = some (some (.ref f))) (hkp : keepIn (Mine.K C.w.params) (.ref f) = true) (ha : Evs C sc env Γ (e :: es) ds) (hc : CallOk C.z f ds d' u' r) (hd : d' ≤ d := by decide) (hu : u' ≤ u := by decide)
    (hx : env.kindOf x = some .globalImplicit := by kernel_rfl) (hg : env.globals = mainGlobals := by kernel_rfl) (hk : env.scope.kind = .function := by kernel_rfl) (hb : (x == ("__debug__" : Str)) = false := by kernel_rfl) (hsc : sc.kind = .function := by kernel_rfl)
    (he : eval (.Call (.Name x px) (e :: es) [] p) env = (do let f ← eval (.Name x px) env; callWith p f [] (backTo p (starEach (e :: es) env)) (backToKw p (keywordEach [] env))) := by kernel_rfl)
    (hs : starEach (e :: es) env = (false, eval e env) :: starEach es env := by kernel_rfl) (hs2 : (List.any (backTo p (starEach es env)) fun x => x.1) = false := by kernel_rfl) : Ev C sc env Γ (.Call (.Name x px) (e :: es) [] p) r :=
  fun τ s E h => by
  refine Call_ ?_ he
  obtain ⟨hp, tk, m, N, rfl, z, a⟩ := id h
  refine nameG_K a.F hO.X (topRead_of hO.T) hn ?_ hg hk hx hb
  refine callWith_K (hO.X.keeps a.F.keep) hkp (wpAny_mono (ha p τ _ E h) (fun vs s₁ h₁ => ⟨?_, ?_⟩) fun _ _ e => e) hs hs2
  · obtain ⟨hp, tk, m, N, rfl, _, a, _⟩ := h₁
    exact hO.X.keeps a.F.keep
  · exact hc C sc rfl (hO.less hd hu) hsc Γ τ vs s₁ E h₁
theorem Ev.name_B {x : Str} {p : Pos} {v : Value} {d u : Nat} (hO : Ok C d u) (hn : nsIn (Mine.K C.w.params) mainGlobals x = some none) (hv : bootBuiltins x = some v) (hx : (C.env sc).kindOf x = some .globalImplicit) (hne : x ≠ "__name__") (hk : sc.kind = .function) (hb : (x == ("__debug__" : Str)) = false) :
    Ev C sc (C.env sc) Γ (.Name x p) (.val v) := fun τ s E h => by
  obtain ⟨hp, tk, m, N, rfl, z, a⟩ := id h
  exact nameX_B a.F hO.X (topRead_of hO.T) hn hv hne (h.val v) hk hx hb
theorem Ev.callB {e : Expr} {es : List Expr} {x : Str} {p px : Pos} {id : String} {ds : List Dv} {r : Dv} (hn : Ev C sc env Γ (.Name x px) (.val (.builtin id))) (ha : Evs C sc env Γ (e :: es) ds) (hc : CallV C sc (.builtin id) ds r)
    (he : eval (.Call (.Name x px) (e :: es) [] p) env = (do let f ← eval (.Name x px) env; callWith p f [] (backTo p (starEach (e :: es) env)) (backToKw p (keywordEach [] env))) := by kernel_rfl)
    (hs : starEach (e :: es) env = (false, eval e env) :: starEach es env := by kernel_rfl) (hs2 : (List.any (backTo p (starEach es env)) fun x => x.1) = false := by kernel_rfl) : Ev C sc env Γ (.Call (.Name x px) (e :: es) [] p) r :=
  fun τ s E h => Call_ (wpAny_mono (hn τ s E h) (fun f s₁ h₁ => by
    obtain ⟨O, rfl⟩ := h₁.rep (.head _)
    exact PyProof.Rows.callWith_builtin1 (wpAny_mono (ha p τ s₁ E h₁.pop1) (fun vs s₂ h₂ => hc Γ τ vs s₂ E h₂) fun _ _ e => e) hs hs2) fun _ _ e => e) he
theorem Ev.callT {e : Expr} {es : List Expr} {x : Str} {p px : Pos} {id : String} {ds : List Dv} {r : Dv} (hn : Ev C sc env Γ (.Name x px) (.val (.type id))) (ha : Evs C sc env Γ (e :: es) ds) (hc : CallV C sc (.type id) ds r)
    (he : eval (.Call (.Name x px) (e :: es) [] p) env = (do let f ← eval (.Name x px) env; callWith p f [] (backTo p (starEach (e :: es) env)) (backToKw p (keywordEach [] env))) := by kernel_rfl)
    (hs : starEach (e :: es) env = (false, eval e env) :: starEach es env := by kernel_rfl) (hs2 : (List.any (backTo p (starEach es env)) fun x => x.1) = false := by kernel_rfl) : Ev C sc env Γ (.Call (.Name x px) (e :: es) [] p) r :=
  fun τ s E h => Call_ (wpAny_mono (hn τ s E h) (fun f s₁ h₁ => by
    obtain ⟨O, rfl⟩ := h₁.rep (.head _)
    exact PyProof.Rows.callWith_type1 (wpAny_mono (ha p τ s₁ E h₁.pop1) (fun vs s₂ h₂ => hc Γ τ vs s₂ E h₂) fun _ _ e => e) hs hs2) fun _ _ e => e) he
end

/-- how a run of statements ends -/
inductive Out where
  | nx (μ : Mu)
  | rt (d : Dv)
/-- the protected objects lie apart from the frame's cells -/
noncomputable def NC (C : Cx) (sc : Scope) : Prop := ∀ p ∈ C.X, ∀ q ∈ C.cl sc, p.1 ≠ q.2
/-- a state between statements: Z holds the cells -/
noncomputable def AtS (C : Cx) (sc : Scope) (μ : Mu) (τ : List (Dv × Value)) (s : Shared) : Prop := ∃ Z : Led, (∀ p ∈ Z, ∃ q ∈ C.cl sc, p.1 = q.2) ∧ At (C.on (Z ++ C.X)) (Loc (C.on (Z ++ C.X)) sc μ) τ s
noncomputable def Post (C : Cx) (sc : Scope) (τ : List (Dv × Value)) (o : Out) (f : Flow) (s : Shared) : Prop :=
  match o with
  | .nx μ => f = .next ∧ AtS C sc μ τ s
  | .rt d => ∃ v μ, f = .ret v ∧ AtS C sc μ ((d, v) :: τ) s
noncomputable def X1 (z : Zw) (d u : Nat) (sc : Scope) (μ : Mu) (st : Stmt) (o : Out) : Prop :=
  ∀ (C : Cx) (τ : List (Dv × Value)) (s : Shared) (E : Value → Shared → Prop), C.z = z → Ok C d u → NC C sc → AtS C sc μ τ s → wpAny C.M (C.A sc) (exec st (C.env sc)) (Post C sc τ o) E s
noncomputable def Xs (z : Zw) (d u : Nat) (sc : Scope) (μ : Mu) (sts : List Stmt) (o : Out) : Prop :=
  ∀ (C : Cx) (τ : List (Dv × Value)) (s : Shared) (E : Value → Shared → Prop), C.z = z → Ok C d u → NC C sc → AtS C sc μ τ s → wpAny C.M (C.A sc) (execs sts (C.env sc)) (Post C sc τ o) E s
/-- the frame's expressions -/
noncomputable abbrev EvF (z : Zw) (d u : Nat) (sc : Scope) (μ : Mu) (e : Expr) (dv : Dv) : Prop := ∀ C : Cx, C.z = z → Ok C d u → Ev C sc (C.env sc) (Loc C sc μ) e dv
noncomputable abbrev TestF (z : Zw) (d u : Nat) (sc : Scope) (μ : Mu) (e : Expr) (b : Bool) : Prop := ∀ C : Cx, C.z = z → Ok C d u → Test C sc (C.env sc) (Loc C sc μ) e b
section
variable {C : Cx} {z : Zw} {d u : Nat} {sc : Scope} {μ μ' : Mu} {o : Out}
theorem EvF.run {e : Expr} {dv : Dv} (h : EvF z d u sc μ e dv) (hz : C.z = z) (hO : Ok C d u) {τ : List (Dv × Value)} {s : Shared} {E : Value → Shared → Prop} (ha : AtS C sc μ τ s) :
    wpAny C.M (C.A sc) (eval e (C.env sc)) (fun v s' => AtS C sc μ ((dv, v) :: τ) s') E s :=
  let ⟨Z, hZ, a⟩ := ha; wpAny_mono (h (C.on (Z ++ C.X)) hz (hO.on _) τ s E a) (fun _ _ h => ⟨Z, hZ, h⟩) fun _ _ e => e
theorem TestF.run {e : Expr} {b : Bool} (h : TestF z d u sc μ e b) (hz : C.z = z) (hO : Ok C d u) {τ : List (Dv × Value)} {s : Shared} {E : Value → Shared → Prop} (ha : AtS C sc μ τ s) :
    wpAny C.M (C.A sc) (PySem.isTrue e (C.env sc) (eval e (C.env sc))) (fun k s' => k = b ∧ AtS C sc μ τ s') E s :=
  let ⟨Z, hZ, a⟩ := ha; wpAny_mono (h (C.on (Z ++ C.X)) hz (hO.on _) τ s E a) (fun _ _ h => ⟨h.1, Z, hZ, h.2⟩) fun _ _ e => e
theorem Xs.nil : Xs z d u sc μ [] (.nx μ) := fun _ _ _ _ _ _ _ h => wpAny_execs_nil ⟨rfl, h⟩
theorem Xs.next {st : Stmt} {rest : List Stmt} (h1 : X1 z d u sc μ st (.nx μ')) (h2 : Xs z d u sc μ' rest o) : Xs z d u sc μ (st :: rest) o :=
  fun C τ s E hz hO hX h => wpAny_execs_cons (wpAny_mono (h1 C τ s E hz hO hX h) (fun f s₁ hf => by obtain ⟨rfl, h₁⟩ := hf; exact h2 C τ s₁ E hz hO hX h₁) fun _ _ e => e)
theorem Xs.ret {st : Stmt} {rest : List Stmt} {dv : Dv} (h1 : X1 z d u sc μ st (.rt dv)) : Xs z d u sc μ (st :: rest) (.rt dv) :=
  fun C τ s E hz hO hX h => wpAny_execs_cons (wpAny_mono (h1 C τ s E hz hO hX h) (fun f s₁ hf => by obtain ⟨v, μ', rfl, h₁⟩ := hf; exact ⟨v, μ', rfl, h₁⟩) fun _ _ e => e)
theorem X1.ret {e : Expr} {p : Pos} {dv : Dv} (h : EvF z d u sc μ e dv) : X1 z d u sc μ (.Return (some e) p) (.rt dv) :=
  fun C τ s E hz hO _ ha => wpAny_Return_some (wpAny_mono (h.run hz hO ha) (fun v s₁ h₁ => ⟨v, μ, rfl, h₁⟩) fun _ _ e => e)
theorem X1.ite {t : Expr} {a b : List Stmt} {p : Pos} {c : Bool} (ht : TestF z d u sc μ t c) (h1 : c = true → Xs z d u sc μ a o) (h2 : c = false → Xs z d u sc μ b o) : X1 z d u sc μ (.If t a b p) o :=
  fun C τ s E hz hO hX h => wpAny_If (wpAny_mono (ht.run hz hO h) (fun k s₁ hk => by
    obtain ⟨rfl, h₁⟩ := hk
    cases k with
    | true => exact h1 rfl C τ s₁ E hz hO hX h₁
    | false => exact h2 rfl C τ s₁ E hz hO hX h₁) fun _ _ e => e)
/-- an if that leaves, or goes on behind itself -/
theorem Xs.ifr {t : Expr} {a rest : List Stmt} {p : Pos} {c : Bool} {dv : Dv} (ht : TestF z d u sc μ t c) (h1 : c = true → Xs z d u sc μ a (.rt dv)) (h2 : c = false → Xs z d u sc μ rest (.rt dv)) : Xs z d u sc μ (.If t a [] p :: rest) (.rt dv) := by
  cases c with
  | true => exact Xs.ret (X1.ite ht h1 fun e => nomatch e)
  | false => exact Xs.next (X1.ite ht (fun e => nomatch e) fun _ => Xs.nil) (h2 rfl)
/-- a name that can be stored -/
noncomputable def Sto (sc : Scope) (x : Str) : Bool := isLoc sc x || isCel sc x
theorem Sto.spec {x : Str} (h : Sto sc x = true) : ((C.env sc).kindOf x = some .local ∧ (C.cl sc).lookup x = none) ∨ ((C.env sc).kindOf x = some .cell ∧ ∃ c, (C.cl sc).lookup x = some c) :=
  (Bool.or_eq_true_iff.mp h).imp (fun h => ⟨isLoc_kind h, isLoc_cl h⟩) fun h => ⟨isCel_kind h, isCel_cl h⟩
/-- cells of two names lie apart -/
theorem cl_inj : ∀ (names : List (Str × NameKind)) (n : Nat) (acc : List (Str × Addr)), (∀ q ∈ acc, q.2 < n) → (acc.Pairwise fun a b => a.2 ≠ b.2) → ((cellsFrom n names acc).Pairwise fun a b => a.2 ≠ b.2)
  | [], _, _, _, h => h
  | (nm, k) :: r, n, acc, hlt, h => by
    unfold cellsFrom
    split
    · refine cl_inj r (n + 1) _ (fun q hq => ?_) (List.pairwise_cons.mpr ⟨fun b hb => Nat.ne_of_gt (hlt b hb), h⟩)
      rcases List.mem_cons.mp hq with rfl | hq
      · exact Nat.lt_succ_self _
      · exact Nat.lt_succ_of_lt (hlt q hq)
    · exact cl_inj r n acc hlt h
theorem cl_ne {x y : Str} {c c' : Addr} (h1 : (C.cl sc).lookup x = some c) (h2 : (C.cl sc).lookup y = some c') (hne : x ≠ y) : c ≠ c' := by
  have hp := cl_inj sc.names (C.L + 1) [] (fun _ h => nomatch h) .nil
  have key : ∀ {l : List (Str × Addr)}, (l.Pairwise fun a b => a.2 ≠ b.2) → (x, c) ∈ l → (y, c') ∈ l → c ≠ c' := by
    intro l
    induction l with
    | nil => intro _ h; cases h
    | cons a l ih =>
      intro hp hx hy
      obtain ⟨p1, p2⟩ := List.pairwise_cons.mp hp
      rcases List.mem_cons.mp hx with rfl | hx'
      · rcases List.mem_cons.mp hy with e | hy'
        · injection e with e1 e2; exact absurd e1.symm hne
        · exact p1 _ hy'
      · rcases List.mem_cons.mp hy with rfl | hy'
        · exact (p1 _ hx').symm
        · exact ih p2 hx' hy'
  exact key hp (lookup_mem h1) (lookup_mem h2)
theorem store {x : Str} {dv : Dv} {v : Value} {τ : List (Dv × Value)} {s : Shared} {E : Value → Shared → Prop} {Q : Unit → Shared → Prop} (hx : Sto sc x = true) (hX : NC C sc) (h : AtS C sc μ ((dv, v) :: τ) s)
    (hQ : ∀ s', AtS C sc ((x, dv) :: μ) τ s' → Q () s') (hk : sc.kind = .function := by kernel_rfl) : wpAny C.M (C.A sc) (storeName (C.env sc) x v) Q E s := by
  obtain ⟨Z, hZ, hp, tk, m, N, rfl, zt, a⟩ := h
  have hv := a.t _ (.head _)
  rcases Sto.spec (C := C) hx with ⟨h1, h2⟩ | ⟨h1, c, h2⟩
  · refine storeX_L a.F a.nw (fun h' F' N'' => hQ _ ⟨Z, hZ, h', tk + 1, _, N, rfl, zt_of (Nat.succ_ne_zero _), F', N'', a.dj, ⟨a.g.cells, fun y e he => ?_⟩, fun p hp => a.t p (.tail _ hp), a.fl⟩) hk h1
    rw [lookup_cons_eq] at he
    split at he
    · rename_i hy; subst hy; cases he
      exact ⟨v, hv, (Lies.non (cl := C.cl sc) h2).mpr (if_pos rfl)⟩
    · rename_i hy
      obtain ⟨u, b1, b2⟩ := a.g.facts y e he
      refine ⟨u, b1, ?_⟩
      cases hl : (C.cl sc).lookup y with
      | none => exact (Lies.non (cl := C.cl sc) hl).mpr ((if_neg hy).trans ((Lies.non (cl := C.cl sc) hl).mp b2))
      | some c => exact (Lies.som (cl := C.cl sc) hl).mpr ((Lies.som (cl := C.cl sc) hl).mp b2)
  · obtain ⟨oc, hoc, u, hu⟩ := a.g.cells (x, c) (lookup_mem h2)
    have hocZ : (c, oc) ∈ Z := (List.mem_append.mp hoc).resolve_right fun h => hX _ h _ (lookup_mem h2) rfl
    -- the other cells
    have hkeep : ∀ p ∈ Z, p.1 ≠ c → p ∈ Z.filter (fun p => decide (p.1 ≠ c)) := fun p hp h => List.mem_filter.mpr ⟨hp, decide_eq_true h⟩
    have hne : ∀ p ∈ Z.filter (fun p => decide (p.1 ≠ c)) ++ C.X ++ N, p.1 ≠ c := fun p hp => by
      rcases List.mem_append.mp hp with hp | hp
      · rcases List.mem_append.mp hp with hp | hp
        · exact of_decide_eq_true (List.mem_filter.mp hp).2
        · exact hX p hp _ (lookup_mem h2)
      · exact a.dj p hp _ hoc
    have hsub : ∀ p ∈ (c, oc) :: (Z.filter (fun p => decide (p.1 ≠ c)) ++ C.X ++ N), p ∈ Z ++ C.X ++ N := List.forall_mem_cons.mpr ⟨List.mem_append_left _ hoc, fun p hp => by
      rcases List.mem_append.mp hp with hp | hp
      · rcases List.mem_append.mp hp with hp | hp
        · exact List.mem_append_left _ (List.mem_append_left _ (List.mem_filter.mp hp).1)
        · exact List.mem_append_left _ (List.mem_append_right _ hp)
      · exact List.mem_append_right _ hp⟩
    have hZX : ∀ (o' : Obj) (p : Addr × Obj), p ∈ Z ++ C.X → p.1 ≠ c → p ∈ (c, o') :: Z.filter (fun p => decide (p.1 ≠ c)) ++ C.X := fun o' p hp h => by
      rcases List.mem_append.mp hp with hp | hp
      · exact List.mem_append_left _ (.tail _ (hkeep p hp h))
      · exact List.mem_append_right _ hp
    refine storeX_C a.F (fun p hp => a.nw p (hsub p hp)) h2 (.head hne) hu (fun h' o' F' N'' ho' => hQ _ ⟨(c, o') :: Z.filter (fun p => decide (p.1 ≠ c)), List.forall_mem_cons.mpr ⟨⟨_, lookup_mem h2, rfl⟩, fun p hp => hZ p (List.mem_filter.mp hp).1⟩,
      h', tk, m, N, rfl, zt, F', fun p hp => N'' p ?_, fun p hp q hq => ?_, ⟨fun q hq => ?_, fun y e he => ?_⟩, fun p hp => a.t p (.tail _ hp), a.fl⟩) hk h1
    · have hp' : p ∈ ((c, o') :: Z.filter (fun p => decide (p.1 ≠ c)) ++ C.X) ++ N := hp
      rcases List.mem_append.mp hp' with hp' | hp'
      · rcases List.mem_append.mp hp' with hp' | hp'
        · rcases List.mem_cons.mp hp' with rfl | hp'
          · exact .head _
          · exact .tail _ (List.mem_append_left _ (List.mem_append_left _ hp'))
        · exact .tail _ (List.mem_append_left _ (List.mem_append_right _ hp'))
      · exact .tail _ (List.mem_append_right _ hp')
    · rcases List.mem_append.mp hq with hq | hq
      · rcases List.mem_cons.mp hq with rfl | hq
        · exact (show p.1 ≠ c from a.dj p hp _ hoc)
        · exact a.dj p hp q (List.mem_append_left _ (List.mem_filter.mp hq).1)
      · exact a.dj p hp q (List.mem_append_right _ hq)
    · obtain ⟨o, ho, w, hw⟩ := a.g.cells q hq
      by_cases e : q.2 = c
      · exact ⟨o', by rw [e]; exact List.mem_append_left _ (.head _), _, ho'⟩
      · exact ⟨o, hZX o' _ ho e, w, hw⟩
    · rw [lookup_cons_eq] at he
      split at he
      · rename_i hy; subst hy; cases he
        exact ⟨v, hv, (Lies.som (cl := C.cl sc) h2).mpr ⟨o', List.mem_append_left _ (.head _), ho'⟩⟩
      · rename_i hy
        obtain ⟨w, b1, b2⟩ := a.g.facts y e he
        refine ⟨w, b1, ?_⟩
        cases hl : (C.cl sc).lookup y with
        | none => exact (Lies.non (cl := C.cl sc) hl).mpr ((Lies.non (cl := C.cl sc) hl).mp b2)
        | some c' =>
          obtain ⟨o, ho, hd⟩ := (Lies.som (cl := C.cl sc) hl).mp b2
          exact (Lies.som (cl := C.cl sc) hl).mpr ⟨o, hZX o' _ ho (cl_ne hl h2 hy), hd⟩
theorem X1.assign {x : Str} {p q : Pos} {e : Expr} {dv : Dv} (h : EvF z d u sc μ e dv) (hx : Sto sc x = true) (hs : ∀ C : Cx, swapsWith e (some (.Name x p)) q.line (C.env sc) = pure false := by intro _; kernel_rfl) (hk : sc.kind = .function := by kernel_rfl) : X1 z d u sc μ (.Assign [.Name x p] e q) (.nx ((x, dv) :: μ)) :=
  fun C τ s E hz hO hX ha => wpAny_Assign_Name (wpAny_mono (h.run hz hO ha) (fun v s₁ h₁ => store hx hX h₁ (fun s' h' => ⟨rfl, h'⟩) hk) fun _ _ e => e) (hs C)
end
end Mine
end PEv2

section PEv3
open PySem PySem.W PySem.Spec PySem.Calls PyProof.Rows

namespace Mine
mutual
theorem Rep.weak {z : Zw} {O : Addr → Obj → Prop} : ∀ (d : Dv) (v : Value), Rep z O d v → Rep ⟨false, z.w⟩ O d v
  | .flt _, _, ⟨t, _, e⟩ => ⟨t, (fun h => nomatch h), e⟩
  | .int _, _, x => x
  | .bol _, _, x => x
  | .str _, _, x => x
  | .tup ds, _, ⟨a, o, vs, e, x, y, w⟩ => ⟨a, o, vs, e, x, y, Reps.weak ds vs w⟩
  | .lst ds, _, ⟨a, o, vs, e, x, y, w⟩ => ⟨a, o, vs, e, x, y, Reps.weak ds vs w⟩
  | .tab _, _, x => x
  | .val _, _, x => x
theorem Reps.weak {z : Zw} {O : Addr → Obj → Prop} : ∀ (ds : List Dv) (vs : List Value), Reps z O ds vs → Reps ⟨false, z.w⟩ O ds vs
  | [], _, x => x
  | d :: ds, _, ⟨v, r, e, x, y⟩ => ⟨v, r, e, Rep.weak d v x, Reps.weak ds r y⟩
end
theorem lookup_zip {z : Zw} {O : Addr → Obj → Prop} {y : Str} {d : Dv} : ∀ {xs : List Str} {ds : List Dv} {vs : List Value}, Reps z O ds vs → (xs.zip ds).lookup y = some d → ∃ v, (xs.zip vs).lookup y = some v ∧ Rep z O d v ∧ y ∈ xs
  | [], _, _, _, h => by cases h
  | x :: xs, [], _, _, h => by cases h
  | x :: xs, d' :: ds, vs, ⟨v, r, e, h1, h2⟩, h => by
    subst e
    rw [List.zip_cons_cons, lookup_cons_eq] at h
    rw [List.zip_cons_cons, lookup_cons_eq]
    split at h
    · rename_i e; cases h
      exact ⟨v, by rw [if_pos e], h1, by rw [e]; exact .head _⟩
    · rename_i e
      obtain ⟨w, a, b, c⟩ := lookup_zip h2 h
      exact ⟨w, by rw [if_neg e]; exact a, b, .tail _ c⟩
theorem lookup_append {α : Type} {y : Str} : ∀ {l l' : List (Str × α)}, (l ++ l').lookup y = (l.lookup y).or (l'.lookup y)
  | [], _ => rfl
  | (x, d) :: l, l' => by
    rw [List.cons_append, lookup_cons_eq, lookup_cons_eq]
    split
    · rfl
    · exact lookup_append
theorem not_lookup {y : Str} {α : Type} : ∀ {xs : List Str} {vs : List α}, y ∉ xs → (xs.zip vs).lookup y = none
  | [], _, _ => rfl
  | _ :: _, [], _ => rfl
  | x :: xs, v :: vs, h => by
    rw [List.zip_cons_cons, lookup_cons_eq, if_neg (fun e : y = x => h (by rw [e]; exact .head _))]
    exact not_lookup fun h2 => h (.tail _ h2)
theorem lookup_rev {y : Str} {v : Value} : ∀ {xs : List Str} {vs : List Value}, xs.Nodup → (xs.zip vs).lookup y = some v → (xs.zip vs).reverse.lookup y = some v
  | [], _, _, h => by cases h
  | x :: xs, [], _, h => by cases h
  | x :: xs, w :: vs, hn, h => by
    obtain ⟨h1, h2⟩ := List.nodup_cons.mp hn
    rw [List.zip_cons_cons, lookup_cons_eq] at h
    rw [List.zip_cons_cons, List.reverse_cons, lookup_append]
    split at h
    · rename_i e; subst e; cases h
      have : (xs.zip vs).reverse.lookup y = none := by
        have key : ∀ (l : List (Str × Value)), l.lookup y = none → l.reverse.lookup y = none := by
          intro l
          induction l with
          | nil => intro h; exact h
          | cons a l ih =>
            intro h
            rw [show a :: l = (a.1, a.2) :: l from rfl, lookup_cons_eq] at h
            split at h
            · cases h
            · rename_i e; rw [List.reverse_cons, lookup_append, ih h, show [a] = [(a.1, a.2)] from rfl, lookup_cons_eq, if_neg e]; rfl
        exact key _ (not_lookup h1)
      rw [this, lookup_cons_eq, if_pos rfl]; rfl
    · rw [lookup_rev h2 h]; rfl
theorem no_cells : ∀ {names : List (Str × NameKind)} {n : Nat} {acc : List (Str × Addr)}, (∀ x ∈ names, x.2 ≠ .cell) → cellsFrom n names acc = acc
  | [], _, _, _ => rfl
  | (nm, k) :: r, n, acc, h => by
    unfold cellsFrom
    rw [if_neg (by have := h _ (.head _); simpa using this)]
    exact no_cells fun x hx => h x (.tail _ hx)
theorem bindL_get {kindOf : Str → Option NameKind} {y : Str} (hy : kindOf y = some .local) : ∀ (l : List (Str × Value)) (m : Str → Option Value), bindL kindOf l m y = (l.reverse.lookup y).or (m y)
  | [], _ => rfl
  | (n, v) :: l, m => by
    unfold bindL
    rw [bindL_get hy l, List.reverse_cons, lookup_append]
    cases l.reverse.lookup y with
    | some w => rfl
    | none =>
      rw [lookup_cons_eq]
      by_cases e : y = n
      · subst e; rw [if_pos hy]; show none.or (if y = y then some v else m y) = (none.or (if y = y then some v else none)).or (m y); rw [if_pos rfl, if_pos rfl]; rfl
      · rw [if_neg e]
        split
        · show (if y = n then some v else m y) = _; rw [if_neg e]; rfl
        · rfl
theorem bindC_get {kindOf : Str → Option NameKind} {y : Str} (hy : kindOf y = some .cell) : ∀ (l : List (Str × Value)) (m : Str → Option Value), bindC kindOf l m y = (l.reverse.lookup y).or (m y)
  | [], _ => rfl
  | (n, v) :: l, m => by
    unfold bindC
    rw [bindC_get hy l, List.reverse_cons, lookup_append]
    cases l.reverse.lookup y with
    | some w => rfl
    | none =>
      rw [lookup_cons_eq]
      by_cases e : y = n
      · subst e; rw [if_neg (by rw [hy]; decide)]; show none.or (if y = y then some v else m y) = (none.or (if y = y then some v else none)).or (m y); rw [if_pos rfl, if_pos rfl]; rfl
      · rw [if_neg e]
        split
        · rfl
        · show (if y = n then some v else m y) = _; rw [if_neg e]; rfl
theorem cells_at {cm : Str → Option Value} : ∀ {cs : List (Str × Addr)} {cells : Led}, CellsAre cm cs cells → ∀ q ∈ cs, ∃ o : Obj, (q.2, o) ∈ cells ∧ o.data = .cell (cm q.1)
  | _, _, .nil, _, h => by cases h
  | _, _, .cons hd r, q, h => by
    rcases List.mem_cons.mp h with rfl | h
    · exact ⟨_, .head _, hd⟩
    · obtain ⟨o, a, b⟩ := cells_at r q h
      exact ⟨o, .tail _ a, b⟩
/-- back in the caller: what the call made goes onto the caller's ledger -/
theorem AtH.back {C : Cx} {Γ : Gx} {τ : List (Dv × Value)} {h h2 g : Heap} {tk2 : Nat} {m : Str → Option Value} {N N2 : Led} {L' : Addr} {r : Dv} {v : Value} {z' : Zw} (hz : z'.w = C.z.w ∧ (C.z.b = z'.b ∨ C.z.b = false)) (a : AtH C Γ τ h m N) (hg : ∀ b o, h.get? b = some o → g.get? b = some o)
    (hk : ∀ b o, g.get? b = some o → h2.get? b = some o) (N2' : News g L' h2 N2) (FF : Fr C.h₀ C.L h2 m) (NN : News C.h₀ C.L h2 N2) (z2 : Zt z' tk2) (hr : Rep z' (Sec (Sec C.ob N) N2) r v) : At C Γ ((r, v) :: τ) { C.s0 with heap := h2, toks := tk2 } := by
  have hs : ∀ p ∈ N, p ∈ N2 ++ N := fun p hp => List.mem_append_right _ hp
  refine ⟨h2, tk2, m, N2 ++ N, rfl, ?_, FF, fun p hp => ?_, fun p hp q hq => ?_, Γ.mono m _ _ _ _ a.g (fun _ hp => hp) hs, List.forall_mem_cons.mpr ⟨?_, fun p hp => Rep.mono (Sec.mono hs) _ _ (a.t p hp)⟩, fun p hp => hs p (a.fl p hp)⟩
  · rcases hz.2 with e | e
    · intro h; exact z2 (e ▸ h)
    · exact zt_no e
  · have old : ∀ p ∈ C.X ++ N, h2.get? p.1 = some p.2 ∧ p.1 ≠ C.L ∧ C.h₀.get? p.1 = none := fun p hp => ⟨hk _ _ (hg _ _ (a.nw p hp).1), (a.nw p hp).2⟩
    rcases List.mem_append.mp hp with hp | hp
    · exact old p (List.mem_append_left _ hp)
    · rcases List.mem_append.mp hp with hp | hp
      · exact NN p hp
      · exact old p (List.mem_append_right _ hp)
  · rcases List.mem_append.mp hp with hp | hp
    · intro e
      have h1 := (N2' p hp).2.2
      have h3 := hg _ _ (a.nw q (List.mem_append_left _ hq)).1
      rw [← e, h1] at h3; cases h3
    · exact a.dj p hp q hq
  · have h1 : Rep z' (Sec C.ob (N2 ++ N)) r v := Rep.mono (fun a o h => by
      rcases h with h | h | h
      · exact .inl (List.mem_append_left _ h)
      · exact .inl (List.mem_append_right _ h)
      · exact .inr h) r v hr
    obtain ⟨e0, hz⟩ := hz
    have e1 : C.z = ⟨C.z.b, z'.w⟩ := by rw [e0]
    rcases hz with e | e
    · rw [e1, e]; exact h1
    · rw [e1, e]; exact Rep.weak r v h1
section
variable {f : Addr} {name qual : Str} {params : Arguments} {body : List Stmt} {scope : Scope} {dV kV doc pm cdv ct oc : Value} {an od : Option Addr} {osl : Array (Option Value)} {xs : List Str} {ds : List Dv} {d u : Nat} {r : Dv} {μ : Mu}
/-- a def without cells: its body's run is its call -/
theorem body_ok {w : World} {b b' : Bool} (hz : b = b' ∨ b = false)
    (hf : ∀ P, List.lookup f (Mine.K P) = some ⟨oc, od, .func (fnOf name qual params body scope dV kV doc pm an cdv ct), osl⟩) (hcd : ∀ P, codeIn (Mine.K P) cdv qual = true)
    (hb : ∀ (s : Shared) (vs : List Value), vs.length = ds.length → BindsTo s (fnOf name qual params body scope dV kV doc pm an cdv ct) ⟨vs, []⟩ (xs.zip vs))
    (hl : ∀ x ∈ xs, scope.names.lookup x = some .local) (hcell : ∀ x ∈ scope.names, x.2 ≠ .cell) (hnd : xs.Nodup) (hne : 0 < (xs.zip ds).length) (hlen : xs.length = ds.length)
    (ha : ∀ O vs, Reps ⟨b, w⟩ O ds vs → Reps ⟨b', w⟩ O ds vs) (hμ : xs.zip ds = μ) (hB : Xs ⟨b', w⟩ d u scope μ body (.rt r))
    (hco : scope.isCoroutine = false) (hgen : scope.isGenerator = false) (hk : scope.kind = .function) : CallOk ⟨b, w⟩ f ds (d + 1) (u + 3) r := by
  subst hμ
  rintro C sc hCz hO hsc Γ τ vs s E ⟨hp, tk, m, N, rfl, zt, a, hr⟩
  have hlv := hr.length
  refine wpAny_call ?_
  refine codeP_def (env := C.env sc) (news := []) hO.B a.F hO.X News.nil hO.T rfl rfl hsc (hf _) (hcd _) (by have := hO.dp; show C.dp < recursionLimit; omega) (hb _ vs hlv) (fun y hy => hl _ (List.of_mem_zip hy).1) (fun g' L' h₁ hg FG F' N'' B' X' T' => ?_) hco hgen hk hcell
  have hg' : ∀ b o, hp.get? b = some o → g'.get? b = some o := fun b o e => hg b o (by simp) e
  have e1 : (cellsFrom (L' + 1) scope.names []) = [] := no_cells hcell
  have hcl : ∀ C' : Cx, C'.cl scope = [] := fun C' => no_cells hcell
  have hCw : C.z.w = w := by rw [hCz]
  have hCb : C.z.b = b := by rw [hCz]
  let C' : Cx := ⟨C.mean, C.mg, C.mb, C.dp + 1, C.un + 3, C.gd, qual, f, cdv, C.env sc :: C.outer, C.A sc, C.base, g', L', C.s0, Sec C.ob N, ⟨b', C.z.w⟩, [], []⟩
  have hO' : Ok C' d u := ⟨B', X', T', fun b o h => by
      rcases h with h | h
      · exact hg' b o (a.nw _ (List.mem_append_right _ h)).1
      · exact FG.keep b o (hO.ob b o h), by have := hO.dp; show C.dp + 1 + d < _; omega, by have := hO.un; show C.un + 3 + u < _; omega, fun b o h => .inr (hO.obK b o h)⟩
  have hE : envOf qual scope L' f cdv = C'.env scope := by
    show _ = envX qual scope L' f cdv (cellsFrom (L' + 1) scope.names [])
    rw [e1]; rfl
  have hA : (C.A sc).deeper (envOf qual scope L' f cdv) = C'.A scope := by rw [hE]; rfl
  rw [hA, hE]
  have hAt : AtS C' scope (xs.zip ds) [] { C.s0 with heap := h₁, toks := tk + (xs.zip vs).length } := by
    refine ⟨[], (fun _ h => nomatch h), h₁, _, _, [], rfl, fun _ => ?_, F', News.nil, (fun _ h => nomatch h), ⟨fun q hq => ?_, fun x d hx => ?_⟩, (fun _ h => nomatch h), fun _ h => nomatch h⟩
    · have h5 : (xs.zip vs).length = (xs.zip ds).length := by rw [List.length_zip, List.length_zip, hlv]
      rw [h5]
      exact Nat.ne_of_gt (Nat.lt_of_lt_of_le hne (Nat.le_add_left _ _))
    · rw [hcl] at hq; cases hq
    · obtain ⟨v, h1, h2, _⟩ := lookup_zip (ha (Sec C.ob N) vs (by rw [← hCz]; exact hr)) hx
      exact ⟨v, Rep.mono (fun _ _ h => .inr h) d v (by show Rep ⟨b', C.z.w⟩ _ _ _; rw [hCw]; exact h2), (Lies.non (by rw [hcl]; rfl)).mpr (lookup_rev hnd h1)⟩
  refine wpAny_mono (hB C' [] _ _ (by show Zw.mk b' C.z.w = _; rw [hCw]) hO' (fun p hp => nomatch hp) hAt) (fun fl s' hpost => ?_) fun _ _ e => e
  obtain ⟨v, μ', rfl, Z, hZ, h2, tk2, m2, N2, rfl, z2, a2⟩ := hpost
  have hn2 : News g' L' h2 N2 := fun p hp => a2.nw p (List.mem_append_right _ hp)
  refine ⟨L', m2, N2, a2.F, hn2, fun FF NN => ?_⟩
  exact a.back (z' := ⟨b', C.z.w⟩) ⟨rfl, hCb ▸ hz⟩ hg' a2.F.keep hn2 FF NN z2 (a2.t _ (.head _))
/-- a def with cells -/
theorem bodyC_ok {w : World}
    (hf : ∀ P, List.lookup f (Mine.K P) = some ⟨oc, od, .func (fnOf name qual params body scope dV kV doc pm an cdv ct), osl⟩) (hcd : ∀ P, codeIn (Mine.K P) cdv qual = true)
    (hb : ∀ (s : Shared) (vs : List Value), vs.length = ds.length → BindsTo s (fnOf name qual params body scope dV kV doc pm an cdv ct) ⟨vs, []⟩ (xs.zip vs))
    (hx : (xs.all fun x => Sto scope x) = true)
    (hcn : ((cellsFrom 0 scope.names []).map (·.1)).Nodup) (hnd : xs.Nodup) (hlen : xs.length = ds.length) (hμ : xs.zip ds = μ) (hB : Xs ⟨false, w⟩ d u scope μ body (.rt r))
    (hco : scope.isCoroutine = false) (hgen : scope.isGenerator = false) (hk : scope.kind = .function) : CallOk ⟨false, w⟩ f ds (d + 1) (u + 3) r := by
  subst hμ
  rintro C sc hCz hO hsc Γ τ vs s E ⟨hp, tk, m, N, rfl, zt, a, hr⟩
  have hlv := hr.length
  have hl : ∀ x ∈ xs, (scope.names.lookup x = some .local ∧ ∀ n, (cellsFrom n scope.names []).lookup x = none) ∨ (scope.names.lookup x = some .cell ∧ ∀ n, ∃ c, (cellsFrom n scope.names []).lookup x = some c) := fun x hx' =>
    (Bool.or_eq_true_iff.mp (List.all_eq_true.mp hx x hx')).imp (fun h => ⟨isLoc_kind h, fun n => isLoc_cl' h⟩) fun h => ⟨isCel_kind h, fun n => isCel_cl h⟩
  refine wpAny_call ?_
  refine codeP_defC (env := C.env sc) (news := []) hO.B a.F hO.X News.nil hO.T rfl rfl hsc (hf _) (hcd _) (by have := hO.dp; show C.dp < recursionLimit; omega) (hb _ vs hlv)
    (List.all_eq_true.mpr fun y hy => by rcases hl _ (List.of_mem_zip hy).1 with ⟨e, _⟩ | ⟨e, _⟩ <;> rw [e] <;> rfl) hcn (fun g' L' h₁ tk1 cells hg FG F' N'' hcs B' X' T' hlt => ?_) hco hgen hk
  have hg' : ∀ b o, hp.get? b = some o → g'.get? b = some o := fun b o e => hg b o (by simp) e
  have hCw : C.z.w = w := by rw [hCz]
  have hCb : C.z.b = false := by rw [hCz]
  let C' : Cx := ⟨C.mean, C.mg, C.mb, C.dp + 1, C.un + 3, C.gd, qual, f, cdv, C.env sc :: C.outer, C.A sc, C.base, g', L', C.s0, Sec C.ob N, ⟨false, C.z.w⟩, [], []⟩
  have hO' : Ok C' d u := ⟨B', X', T', fun b o h => by
      rcases h with h | h
      · exact hg' b o (a.nw _ (List.mem_append_right _ h)).1
      · exact FG.keep b o (hO.ob b o h), by have := hO.dp; show C.dp + 1 + d < _; omega, by have := hO.un; show C.un + 3 + u < _; omega, fun b o h => .inr (hO.obK b o h)⟩
  have hcat := cells_at hcs
  have hcin : ∀ p ∈ cells, ∃ q ∈ C'.cl scope, p.1 = q.2 := by
    have key : ∀ {cm : Str → Option Value} {cs : List (Str × Addr)} {cells : Led}, CellsAre cm cs cells → ∀ p ∈ cells, ∃ q ∈ cs, p.1 = q.2 := by
      intro cm cs cells h
      induction h with
      | nil => exact fun _ h => nomatch h
      | cons hd r ih =>
        intro p hp
        rcases List.mem_cons.mp hp with rfl | hp
        · exact ⟨_, .head _, rfl⟩
        · obtain ⟨q, h1, h2⟩ := ih p hp
          exact ⟨q, .tail _ h1, h2⟩
    exact key hcs
  have hr' : Reps ⟨false, C.z.w⟩ (Sec C.ob N) ds vs := by rw [hCw, ← hCz]; exact hr
  have hAt : AtS C' scope (xs.zip ds) [] { C.s0 with heap := h₁, toks := tk1 } := by
    refine ⟨cells, hcin, h₁, _, _, [], rfl, (fun h => nomatch h), F', fun p hp => N'' p ?_, (fun _ h => nomatch h), ⟨fun q hq => ?_, fun x d hx => ?_⟩, (fun _ h => nomatch h), fun _ h => nomatch h⟩
    · have hp' : p ∈ (cells ++ []) ++ [] := hp
      simpa using hp'
    · obtain ⟨o, h1, h2⟩ := hcat q hq
      exact ⟨o, List.mem_append_left _ h1, _, h2⟩
    · obtain ⟨v, h1, h2, h3⟩ := lookup_zip hr' hx
      refine ⟨v, Rep.mono (fun _ _ h => .inr h) d v h2, ?_⟩
      have h4 := lookup_rev hnd h1
      rcases hl x h3 with ⟨e, e2⟩ | ⟨e, e2⟩
      · refine (Lies.non (cl := C'.cl scope) (e2 _)).mpr ?_
        show bindL _ _ _ x = some v
        rw [bindL_get e, h4]; rfl
      · obtain ⟨c, hc⟩ := e2 (L' + 1)
        refine (Lies.som (cl := C'.cl scope) hc).mpr ?_
        obtain ⟨o, h5, h6⟩ := hcat (x, c) (lookup_mem hc)
        refine ⟨o, List.mem_append_left _ h5, ?_⟩
        rw [h6]; congr 1
        show bindC _ _ _ x = some v
        rw [bindC_get e, h4]; rfl
  refine wpAny_mono (hB C' [] _ _ (by show Zw.mk false C.z.w = _; rw [hCw]) hO' (fun p hp => nomatch hp) hAt) (fun fl s' hpost => ?_) fun _ _ e => e
  obtain ⟨v, μ', rfl, Z, hZ, h2, tk2, m2, N2, rfl, z2, a2⟩ := hpost
  have hn2 : News g' L' h2 N2 := fun p hp => a2.nw p (List.mem_append_right _ hp)
  refine ⟨L', m2, N2, a2.F, hn2, fun FF NN => ?_⟩
  exact a.back (z' := ⟨false, C.z.w⟩) ⟨rfl, .inr hCb⟩ hg' a2.F.keep hn2 FF NN z2 (a2.t _ (.head _))
end
end Mine
end PEv3

section PEv4
open PySem PySem.W PySem.Spec PySem.Calls PyProof.Rows

namespace Mine
section
variable {C : Cx} {sc : Scope} {env : Env} {Γ : Gx}
theorem callMax3 {x y z : UInt64} (hz : C.z.b = false) : CallV C sc (.builtin "max") [.flt x, .flt y, .flt z] (.flt (mx3 x y z)) := by
  rintro Γ τ vs s E ⟨hp, tk, m, N, rfl, zt, a, v1, r1, rfl, ⟨t, _, rfl⟩, v2, r2, rfl, ⟨u, _, rfl⟩, v3, r3, rfl, ⟨w, _, rfl⟩, rfl⟩
  refine max_three_fff rfl a.F a.nw fun h' tk' v F' N'' => ?_
  exact ⟨h', tk', m, N, rfl, zt_no hz, (a.to F' N'').push ⟨v, zt_no hz, rfl⟩⟩
theorem callMin3 {x y z : UInt64} (hz : C.z.b = false) : CallV C sc (.builtin "min") [.flt x, .flt y, .flt z] (.flt (mn3 x y z)) := by
  rintro Γ τ vs s E ⟨hp, tk, m, N, rfl, zt, a, v1, r1, rfl, ⟨t, _, rfl⟩, v2, r2, rfl, ⟨u, _, rfl⟩, v3, r3, rfl, ⟨w, _, rfl⟩, rfl⟩
  refine min_three_fff rfl a.F a.nw fun h' tk' v F' N'' => ?_
  exact ⟨h', tk', m, N, rfl, zt_no hz, (a.to F' N'').push ⟨v, zt_no hz, rfl⟩⟩
theorem callInt {x : UInt64} (hf : Float64.isFinite x = true) : CallV C sc (.type "int") [.flt x] (.int (Flt.toInt Float64.truncOf x)) := by
  rintro Γ τ vs s E ⟨hp, tk, m, N, rfl, zt, a, v1, r1, rfl, ⟨t, _, rfl⟩, rfl⟩
  refine Flt.call_int_float3 rfl (fun e => absurd e (ne_true_of_eq_false (Flt.not_nan_of_finite hf))) (fun e => absurd e (ne_true_of_eq_false (Flt.not_inf_of_finite hf))) fun _ => ?_
  exact ⟨hp, tk + 1, m, N, rfl, zt_of (Nat.succ_ne_zero _), a.push ⟨_, rfl⟩⟩
theorem callRound {x : UInt64} (hf : Float64.isFinite x = true) : CallV C sc (.builtin "round") [.flt x] (.int (Flt.toInt Float64.nearestOf x)) := by
  rintro Γ τ vs s E ⟨hp, tk, m, N, rfl, zt, a, v1, r1, rfl, ⟨t, _, rfl⟩, rfl⟩
  refine Flt.call_round_float rfl (fun e => absurd e (ne_true_of_eq_false (Flt.not_nan_of_finite hf))) (fun e => absurd e (ne_true_of_eq_false (Flt.not_inf_of_finite hf))) fun _ => ?_
  exact ⟨hp, tk + 1, m, N, rfl, zt_of (Nat.succ_ne_zero _), a.push ⟨_, rfl⟩⟩
end
section
variable {z : Zw} {d u : Nat} {sc : Scope} {μ : Mu}
/-- a name set on one way -/
theorem X1.ifA {t e : Expr} {x : Str} {p q r : Pos} {b : Bool} {a v : UInt64} (ht : TestF z d u sc μ t b) (hm : μ.lookup x = some (.flt a)) (he : EvF z d u sc μ e (.flt v)) (hx : Sto sc x = true)
    (hs : ∀ C : Cx, swapsWith e (some (.Name x p)) q.line (C.env sc) = pure false := by intro _; kernel_rfl) (hk : sc.kind = .function := by kernel_rfl) : X1 z d u sc μ (.If t [.Assign [.Name x p] e q] [] r) (.nx ((x, .flt (if b = true then v else a)) :: μ)) := by
  cases b with
  | true => exact X1.ite ht (fun _ => Xs.next (X1.assign he hx hs hk) Xs.nil) fun e => nomatch e
  | false =>
    refine X1.ite ht (fun e => nomatch e) fun _ C τ s E hz hO hX h => wpAny_execs_nil ⟨rfl, ?_⟩
    obtain ⟨Z, hZ, hp, tk, m, N, rfl, zt, a⟩ := h
    refine ⟨Z, hZ, hp, tk, m, N, rfl, zt, a.F, a.nw, a.dj, ⟨a.g.cells, fun y d hy => a.g.facts y d ?_⟩, a.t, a.fl⟩
    rw [lookup_cons_eq] at hy
    split at hy
    · rename_i e; subst e; cases hy; exact hm
    · exact hy
/-- a name set on both ways -/
theorem X1.iteA {t e : Expr} {x : Str} {p q r : Pos} {b : Bool} {v a : UInt64} {orelse : List Stmt} (ht : TestF z d u sc μ t b) (he : b = true → EvF z d u sc μ e (.flt v)) (h2 : b = false → Xs z d u sc μ orelse (.nx ((x, .flt a) :: μ))) (hx : Sto sc x = true)
    (hs : ∀ C : Cx, swapsWith e (some (.Name x p)) q.line (C.env sc) = pure false := by intro _; kernel_rfl) (hk : sc.kind = .function := by kernel_rfl) : X1 z d u sc μ (.If t [.Assign [.Name x p] e q] orelse r) (.nx ((x, .flt (if b = true then v else a)) :: μ)) := by
  cases b with
  | true => exact X1.ite ht (fun _ => Xs.next (X1.assign (he rfl) hx hs hk) Xs.nil) fun e => nomatch e
  | false => exact X1.ite ht (fun e => nomatch e) fun _ => h2 rfl
theorem Xs.retE {e : Expr} {p : Pos} {dv dv' : Dv} {rest : List Stmt} (h : EvF z d u sc μ e dv') (h2 : dv' = dv) : Xs z d u sc μ (.Return (some e) p :: rest) (.rt dv) := by subst h2; exact Xs.ret (X1.ret h)
end
theorem CallOk.at {C : Cx} {f : Addr} {ds : List Dv} {d u : Nat} {r : Dv} {z : Zw} (hz : C.z = z) (h : CallOk z f ds d u r) : CallOk C.z f ds d u r := by rw [hz]; exact h
theorem len1 {α : Type} {P : List α → Prop} (h : ∀ a, P [a]) : ∀ vs : List α, vs.length = 1 → P vs
  | [a], _ => h a
theorem len2 {α : Type} {P : List α → Prop} (h : ∀ a b, P [a, b]) : ∀ vs : List α, vs.length = 2 → P vs
  | [a, b], _ => h a b
theorem len3 {α : Type} {P : List α → Prop} (h : ∀ a b c, P [a, b, c]) : ∀ vs : List α, vs.length = 3 → P vs
  | [a, b, c], _ => h a b c
end Mine
end PEv4

section PEv5
open PySem PySem.W PySem.Spec PySem.Calls PyProof.Rows

namespace Mine
noncomputable def Cx.on2 (C : Cx) (X fl : Led) : Cx := { C with X := X, fl := fl }
theorem Ok.on2 {C : Cx} {d u : Nat} (h : Ok C d u) (X fl : Led) : Ok (C.on2 X fl) d u := ⟨h.B, h.X, h.T, h.ob, h.dp, h.un, h.obK⟩
noncomputable def EvW (C : Cx) (sc : Scope) (env : Env) (Γ : Gx) (e : Expr) (d : Dv) : Prop :=
  ∀ (τ : List (Dv × Value)) (s : Shared) (E : Value → Shared → Prop), AtW C Γ τ s → wpAny C.M (C.A sc) (eval e env) (fun v s' => At C Γ ((d, v) :: τ) s') E s
noncomputable def TestW (C : Cx) (sc : Scope) (env : Env) (Γ : Gx) (e : Expr) (b : Bool) : Prop :=
  ∀ (τ : List (Dv × Value)) (s : Shared) (E : Value → Shared → Prop), AtW C Γ τ s → wpAny C.M (C.A sc) (PySem.isTrue e env (eval e env)) (fun k s' => k = b ∧ At C Γ τ s') E s
/-- an expression whose end may leave the next mark nought -/
noncomputable def EvC (C : Cx) (sc : Scope) (env : Env) (Γ : Gx) (e : Expr) (d : Dv) : Prop :=
  ∀ (τ : List (Dv × Value)) (s : Shared) (E : Value → Shared → Prop), AtW C Γ τ s → wpAny C.M (C.A sc) (eval e env) (fun v s' => AtW C Γ ((d, v) :: τ) s') E s
theorem Ev.w {C : Cx} {sc : Scope} {env : Env} {Γ : Gx} {e : Expr} {d : Dv} (h : Ev C sc env Γ e d) (hz : C.z.b = false) : EvW C sc env Γ e d := fun τ s E ha => h τ s E (ha.at hz)
theorem Test.w {C : Cx} {sc : Scope} {env : Env} {Γ : Gx} {e : Expr} {b : Bool} (h : Test C sc env Γ e b) (hz : C.z.b = false) : TestW C sc env Γ e b := fun τ s E ha => h τ s E (ha.at hz)
theorem EvC.z {C : Cx} {sc : Scope} {env : Env} {Γ : Gx} {e : Expr} {d : Dv} (h : EvC C sc env Γ e d) (hz : C.z.b = false) : Ev C sc env Γ e d := fun τ s E ha => wpAny_mono (h τ s E ha.w) (fun _ _ h => h.at hz) fun _ _ e => e
/-- what holds while an element of a comprehension is reckoned: the outer word, the frame as it was, and the comprehension's own name -/
noncomputable def CompG (C : Cx) (Γ : Gx) (x : Str) (d : Dv) (Ca : Addr) (m : Str → Option Value) : Gx :=
  ⟨fun m' X N => m' = m ∧ Γ.holds m' X N ∧ ∃ oC m₂ v, (Ca, oC) ∈ X ∧ LCg.NsObj oC m₂ ∧ m₂ x = some v ∧ Rep C.z (Sec C.ob N) d v,
   fun m' X X' N N' h hX hN => let ⟨e, g, oC, m₂, v, a, b, c, r⟩ := h; ⟨e, Γ.mono m' _ _ _ _ g hX hN, oC, m₂, v, hX _ a, b, c, Rep.mono (Sec.mono hN) d v r⟩⟩
noncomputable def ElE (C : Cx) (sc : Scope) (env : Env) (Γ : Gx) (scope : Scope) (cl : List (Str × Addr)) (x : Str) (elt : Expr) (d r : Dv) : Prop :=
  ∀ (X fl : Led) (Ca : Addr) (m : Str → Option Value), EvW (C.on2 X fl) sc (compEnvC scope cl Ca env) (CompG C Γ x d Ca m) elt r
noncomputable def ElT (C : Cx) (sc : Scope) (env : Env) (Γ : Gx) (scope : Scope) (cl : List (Str × Addr)) (x : Str) (ct : Expr) (d : Dv) (b : Bool) : Prop :=
  ∀ (X fl : Led) (Ca : Addr) (m : Str → Option Value), TestW (C.on2 X fl) sc (compEnvC scope cl Ca env) (CompG C Γ x d Ca m) ct b
theorem off3_of {I C D : Addr} : ∀ {l : Led}, (∀ p ∈ l, p.1 ≠ I ∧ p.1 ≠ C ∧ p.1 ≠ D) → LCg.Off3 I C D l
  | [], _ => trivial
  | _ :: _, h => ⟨h _ (.head _), off3_of fun p hp => h p (.tail _ hp)⟩
theorem off1_mem {D : Addr} : ∀ {l : Led}, LCg.Off1 D l → ∀ p ∈ l, p.1 ≠ D
  | [], _, _, h => nomatch h
  | _ :: _, x, p, h => by
    rcases List.mem_cons.mp h with rfl | h
    · exact x.1
    · exact off1_mem x.2 p h
theorem Reps.app {z : Zw} {O : Addr → Obj → Prop} : ∀ {ds es : List Dv} {vs ws : List Value}, Reps z O ds vs → Reps z O es ws → Reps z O (ds ++ es) (vs ++ ws)
  | [], _, _, _, h, h2 => by rw [h]; exact h2
  | _ :: _, _, _, _, ⟨v, r, e, a, b⟩, h2 => by subst e; exact ⟨v, _, rfl, a, Reps.app b h2⟩
theorem Reps.at {z : Zw} {O : Addr → Obj → Prop} : ∀ {ds : List Dv} {vs : List Value} {i : Nat} {v : Value}, Reps z O ds vs → vs[i]? = some v → ∃ d, ds[i]? = some d ∧ Rep z O d v
  | [], _, _, _, h, e => by rw [h] at e; simp at e
  | d :: ds, _, 0, v, ⟨w, r, e, a, b⟩, e2 => by subst e; simp at e2; subst e2; exact ⟨d, by simp, a⟩
  | d :: ds, _, i + 1, v, ⟨w, r, e, a, b⟩, e2 => by subst e; simp at e2; obtain ⟨d', h1, h2⟩ := Reps.at b e2; exact ⟨d', by simpa using h1, h2⟩
section
variable {C : Cx} {sc : Scope} {env : Env} {Γ : Gx} {scope : Scope} {cl : List (Str × Addr)} {x : Str} {elt ct : Expr} {τ : List (Dv × Value)}
/-- the ledger between two elements -/
noncomputable def Mid (C : Cx) (Γ : Gx) (τ : List (Dv × Value)) (m : Str → Option Value) (N₀ : Led) (rs : List Dv) (ys : List Value) (news : Led) : Prop :=
  ∃ N, news = C.X ++ N ∧ (∀ p ∈ N, ∀ q ∈ C.X, p.1 ≠ q.1) ∧ Γ.holds m C.X N ∧ (∀ p ∈ τ, Rep C.z (Sec C.ob N) p.1 p.2) ∧ (∀ p ∈ C.fl, p ∈ N) ∧ (∀ p ∈ N₀, p ∈ N) ∧ Reps C.z (Sec C.ob N) rs ys
theorem Mid.state {h : Heap} {tk : Nat} {m m₂ : Str → Option Value} {N₀ : Led} {rs : List Dv} {ys : List Value} {news : Led} {I Ca D : Addr} {oI oC oD : Obj} {d : Dv} {v : Value} (M : Mid C Γ τ m N₀ rs ys news) (hn : LCg.NsObj oC m₂) (hm : m₂ x = some v)
    (F : Fr C.h₀ C.L h m) (N : News C.h₀ C.L h ((I, oI) :: (Ca, oC) :: (D, oD) :: news)) (off : LCg.Off3 I Ca D news) (hr : ∀ N', (∀ p ∈ N₀, p ∈ N') → Rep C.z (Sec C.ob N') d v) :
    ∃ N₁, (∀ p ∈ N₀, p ∈ N₁) ∧ (∀ p ∈ C.fl, p ∈ N₁) ∧ Reps C.z (Sec C.ob N₁) rs ys ∧ (∀ p ∈ τ, Rep C.z (Sec C.ob N₁) p.1 p.2) ∧ news = C.X ++ N₁ ∧ Γ.holds m C.X N₁ ∧ AtW (C.on2 ((I, oI) :: (Ca, oC) :: (D, oD) :: C.X) N₁) (CompG C Γ x d Ca m) τ { C.s0 with heap := h, toks := tk } := by
  obtain ⟨N₁, rfl, dj, g, t, f, k, r⟩ := M
  have hoff := off.mem
  refine ⟨N₁, k, f, r, t, rfl, g, h, tk, m, N₁, rfl, F, fun p hp => N p hp, fun p hp q hq => ?_, ⟨rfl, Γ.mono m _ _ _ _ g (fun p hp => .tail _ (.tail _ (.tail _ hp))) (fun _ hp => hp), oC, m₂, v, .tail _ (.head _), hn, hm, hr N₁ k⟩, t, fun _ hp => hp⟩
  rcases List.mem_cons.mp hq with rfl | hq
  · exact (hoff p (List.mem_append_right _ hp)).1
  · rcases List.mem_cons.mp hq with rfl | hq
    · exact (hoff p (List.mem_append_right _ hp)).2.1
    · rcases List.mem_cons.mp hq with rfl | hq
      · exact (hoff p (List.mem_append_right _ hp)).2.2
      · exact dj p hp q hq
/-- back from an element -/
theorem Mid.back {s : Shared} {m : Str → Option Value} {N₀ N₁ : Led} {rs : List Dv} {ys : List Value} {I Ca D : Addr} {oI oC oD : Obj} {d : Dv} {τ' : List (Dv × Value)} (hX : LCg.Off3 I Ca D (C.X ++ N₁)) (g₁ : Γ.holds m C.X N₁) (k : ∀ p ∈ N₀, p ∈ N₁) (f : ∀ p ∈ C.fl, p ∈ N₁) (hr : Reps C.z (Sec C.ob N₁) rs ys)
    (h : AtW (C.on2 ((I, oI) :: (Ca, oC) :: (D, oD) :: C.X) N₁) (CompG C Γ x d Ca m) (τ' ++ τ) s) :
    ∃ h' tk N', s = { C.s0 with heap := h', toks := tk } ∧ Fr C.h₀ C.L h' m ∧ News C.h₀ C.L h' ((I, oI) :: (Ca, oC) :: (D, oD) :: (C.X ++ N')) ∧ LCg.Off3 I Ca D (C.X ++ N') ∧ (∀ p ∈ N₀, p ∈ N') ∧ Mid C Γ τ m N₀ rs ys (C.X ++ N') ∧ ∀ p ∈ τ', Rep C.z (Sec C.ob N') p.1 p.2 := by
  obtain ⟨h', tk, m', N', rfl, a⟩ := h
  obtain ⟨rfl, g, _⟩ := a.g
  have hN : ∀ p ∈ N₁, p ∈ N' := a.fl
  have hoff := hX.mem
  refine ⟨h', tk, N', rfl, a.F, fun p hp => a.nw p hp, off3_of fun p hp => ?_, fun p hp => hN p (k p hp),
    ⟨N', rfl, fun p hp q hq => a.dj p hp q (.tail _ (.tail _ (.tail _ hq))), Γ.mono m' _ _ _ _ g₁ (fun _ hp => hp) hN, fun p hp => a.t p (List.mem_append_right _ hp), fun p hp => hN p (f p hp), fun p hp => hN p (k p hp), Reps.mono (Sec.mono hN) _ _ hr⟩, fun p hp => a.t p (List.mem_append_left _ hp)⟩
  rcases List.mem_append.mp hp with hp | hp
  · exact hoff p (List.mem_append_left _ hp)
  · exact ⟨a.dj p hp _ (.head _), a.dj p hp _ (.tail _ (.head _)), a.dj p hp _ (.tail _ (.tail _ (.head _)))⟩
theorem Mid.push {m : Str → Option Value} {N₀ N' : Led} {rs : List Dv} {ys : List Value} {r : Dv} {y : Value} (h : Mid C Γ τ m N₀ rs ys (C.X ++ N')) (hy : ∀ N'', C.X ++ N' = C.X ++ N'' → Rep C.z (Sec C.ob N'') r y) : Mid C Γ τ m N₀ (rs ++ [r]) (ys ++ [y]) (C.X ++ N') := by
  obtain ⟨N'', e, a, b, c, d, f, g⟩ := h
  exact ⟨N'', e, a, b, c, d, f, g.app ⟨y, [], rfl, hy N'' e, rfl⟩⟩
theorem drop_at {ds : List Dv} {i : Nat} {d : Dv} (h : ds[i]? = some d) (f : Dv → Dv) : (ds.take (i + 1)).map f = (ds.take i).map f ++ [f d] := by rw [List.take_add_one, h]; simp
theorem list_at {N₀ : Led} {ds : List Dv} {vs : List Value} (hv : ∀ N', (∀ p ∈ N₀, p ∈ N') → Reps C.z (Sec C.ob N') ds vs) (i : Nat) (v : Value) (_ : i < ds.length) (hP : vs.toArray[i]? = some v) : ∃ d, ds[i]? = some d ∧ ∀ N', (∀ p ∈ N₀, p ∈ N') → Rep C.z (Sec C.ob N') d v := by
  obtain ⟨d, hd, _⟩ := Reps.at (hv N₀ fun _ h => h) (show vs[i]? = some v by simpa using hP)
  refine ⟨d, hd, fun N' h => ?_⟩
  obtain ⟨d', h1, h2⟩ := Reps.at (hv N' h) (show vs[i]? = some v by simpa using hP)
  rw [hd] at h1; cases h1; exact h2
/-- the turns of a comprehension without a test -/
theorem comp_turns {m : Str → Option Value} {N₀ : Led} {ds : List Dv} {P : Nat → Value → Prop} {f : Dv → Dv} {S : Led → Prop} {s₂ : Shared} (hs₂ : s₂ = { C.s0 with heap := s₂.heap, toks := s₂.toks }) (hP : ∀ i v, i < ds.length → P i v → ∃ d, ds[i]? = some d ∧ ∀ N', (∀ p ∈ N₀, p ∈ N') → Rep C.z (Sec C.ob N') d v) (hS : ∀ N', (∀ p ∈ N₀, p ∈ N') → S (C.X ++ N'))
    (hE : ∀ d ∈ ds, ElE C sc env Γ scope cl x elt d (f d)) : ∀ (k i : Nat) (ys : List Value) (news : Led), i + k = ds.length → Mid C Γ τ m N₀ ((ds.take i).map f) ys news →
      LCg.CompRest Mine.rw0.row.prog C.w (C.A sc) C.h₀ C.L m env elt x scope cl s₂ S P (fun ys news => Mid C Γ τ m N₀ (ds.map f) ys news) k i ys news
  | 0, i, ys, news, hk, M => by
    refine LCg.CompRest.zero ?_
    have e : ds.take i = ds := List.take_of_length_le (by omega)
    rw [e] at M; exact M
  | k + 1, i, ys, news, hk, M => by
    refine LCg.CompRest.succ fun v I oI Ca oC D m₂ h tk E' hp hn hm F N off _ => ?_
    obtain ⟨d, hd, hrep⟩ := hP i v (by omega) hp
    obtain ⟨N₁, k1, f1, r1, t1, rfl, g1, hAt⟩ := Mid.state (oD := LCg.lst ys) M hn hm F N off hrep
    have hE1 := hE d (List.mem_of_getElem? hd) ((I, oI) :: (Ca, oC) :: (D, LCg.lst ys) :: C.X) N₁ Ca m τ _ E' hAt
    rw [show ({ s₂ with heap := h, toks := tk } : Shared) = { C.s0 with heap := h, toks := tk } by rw [hs₂]]
    refine wpAny_mono hE1 (fun y s' hy => ?_) fun _ _ e => e
    obtain ⟨h', tk', N', rfl, F', N'', off', k', M', ry⟩ := Mid.back (τ' := [(f d, y)]) off g1 k1 f1 r1 hy.w
    refine ⟨h', tk', C.X ++ N', rfl, F', N'', off', hS N' k', ?_⟩
    refine comp_turns hs₂ hP hS hE k (i + 1) (ys ++ [y]) _ (by omega) ?_
    rw [drop_at hd]
    exact M'.push fun N'' e => by have := List.append_cancel_left e; subst this; exact ry _ (.head _)
/-- the turns of a comprehension with a test -/
theorem comp_turnsT {m : Str → Option Value} {N₀ : Led} {ds : List Dv} {vs : List Value} {f : Dv → Dv} {b : Dv → Bool} {S : Led → Prop} {s₂ : Shared} (hs₂ : s₂ = { C.s0 with heap := s₂.heap, toks := s₂.toks }) (hv : ∀ N', (∀ p ∈ N₀, p ∈ N') → Reps C.z (Sec C.ob N') ds vs) (hS : ∀ N', (∀ p ∈ N₀, p ∈ N') → S (C.X ++ N'))
    (hT : ∀ d ∈ ds, ElT C sc env Γ scope cl x ct d (b d)) (hE : ∀ d ∈ ds, b d = true → ElE C sc env Γ scope cl x elt d (f d)) : ∀ (k i : Nat) (ys : List Value) (news : Led), i + k = ds.length → Mid C Γ τ m N₀ (((ds.take i).filter b).map f) ys news →
      LCt.CompRestT Mine.rw0.row.prog C.w (C.A sc) C.h₀ C.L m env ct elt x scope cl s₂ S (fun i v => vs.toArray[i]? = some v) (fun ys news => Mid C Γ τ m N₀ ((ds.filter b).map f) ys news) k i ys news
  | 0, i, ys, news, hk, M => by
    refine LCt.CompRestT.zero ?_
    have e : ds.take i = ds := List.take_of_length_le (by omega)
    rw [e] at M; exact M
  | k + 1, i, ys, news, hk, M => by
    refine LCt.CompRestT.succ fun v I oI Ca oC D m₂ h tk E' hP hn hm F N off _ => ?_
    obtain ⟨d, hd, _⟩ := Reps.at (hv N₀ fun _ h => h) (by simpa using hP)
    have hrep : ∀ N', (∀ p ∈ N₀, p ∈ N') → Rep C.z (Sec C.ob N') d v := fun N' h => by
      obtain ⟨d', h1, h2⟩ := Reps.at (hv N' h) (show vs[i]? = some v by simpa using hP)
      rw [hd] at h1; cases h1; exact h2
    obtain ⟨N₁, k1, f1, r1, t1, rfl, g1, hAt⟩ := Mid.state (oD := LCg.lst ys) M hn hm F N off hrep
    rw [show ({ s₂ with heap := h, toks := tk } : Shared) = { C.s0 with heap := h, toks := tk } by rw [hs₂]]
    refine wpAny_mono (hT d (List.mem_of_getElem? hd) ((I, oI) :: (Ca, oC) :: (D, LCg.lst ys) :: C.X) N₁ Ca m τ _ E' hAt) (fun ok s' hok => ?_) fun _ _ e => e
    obtain ⟨rfl, hAt'⟩ := hok
    have htk : ((ds.take (i + 1)).filter b).map f = ((ds.take i).filter b).map f ++ (if b d = true then [f d] else []) := by
      rw [List.take_add_one, hd, List.filter_append, List.map_append]
      congr 1
      cases hb : b d <;> simp [hb]
    cases hb : b d with
    | true =>
      rw [if_pos rfl]
      refine wpAny_mono (hE d (List.mem_of_getElem? hd) hb ((I, oI) :: (Ca, oC) :: (D, LCg.lst ys) :: C.X) N₁ Ca m τ _ E' hAt'.w) (fun y s' hy => ?_) fun _ _ e => e
      obtain ⟨h', tk', N', rfl, F', N'', off', k', M', ry⟩ := Mid.back (τ' := [(f d, y)]) off g1 k1 f1 r1 hy.w
      refine ⟨h', tk', C.X ++ N', rfl, F', N'', off', hS N' k', ?_⟩
      refine comp_turnsT hs₂ hv hS hT hE k (i + 1) (ys ++ [y]) _ (by omega) ?_
      rw [htk, if_pos hb]
      exact M'.push fun N'' e => by have := List.append_cancel_left e; subst this; exact ry _ (.head _)
    | false =>
      rw [if_neg Bool.false_ne_true]
      obtain ⟨h', tk', N', rfl, F', N'', off', k', M', _⟩ := Mid.back (τ' := []) off g1 k1 f1 r1 hAt'.w
      refine ⟨h', tk', C.X ++ N', rfl, F', N'', off', hS N' k', ?_⟩
      refine comp_turnsT hs₂ hv hS hT hE k (i + 1) ys _ (by omega) ?_
      rw [htk, if_neg (ne_true_of_eq_false hb), List.append_nil]
      exact M'
/-- the end of a comprehension -/
theorem Mid.done {h : Heap} {tk : Nat} {m : Str → Option Value} {N₀ : Led} {rs : List Dv} {ys : List Value} {news : Led} {D : Addr} (M : Mid C Γ τ m N₀ rs ys news) (F : Fr C.h₀ C.L h m) (N : News C.h₀ C.L h ((D, LCg.lst ys) :: news)) (o : LCg.Off1 D news) :
    AtW C Γ ((.lst rs, .ref D) :: τ) { C.s0 with heap := h, toks := tk } := by
  obtain ⟨N₁, rfl, dj, g, t, f, k, r⟩ := M
  have hs : ∀ p ∈ N₁, p ∈ (D, LCg.lst ys) :: N₁ := fun _ hp => .tail _ hp
  have ho := off1_mem o
  refine ⟨h, tk, m, _, rfl, AtH.push (AtH.new (N := N₁) ⟨F, fun p hp => N p (.tail _ hp), dj, g, t, f⟩ F N ho) ⟨D, _, ys, rfl, .inl (.head _), ⟨rfl, _, rfl⟩, Reps.mono (Sec.mono hs) _ _ r⟩⟩
theorem src_at {N : Led} {ax : Addr} {o : Obj} {vs : List Value} (hob : ∀ a o, C.ob a o → C.h₀.get? a = some o) (ho : Sec C.ob N ax o) (hc : o.cls = .type "list" ∧ ∃ n, o.data = .seq vs.toArray n) (N' : Led) (hs : ∀ p ∈ N, p ∈ N') : LCg.SrcAt C.h₀ ax vs.toArray (C.X ++ N') := by
  rcases ho with h | h
  · exact .inr ⟨o, List.mem_append_right _ (hs _ h), hc⟩
  · exact .inl ⟨o, hob _ _ h, hc⟩
section
variable {iter : Expr} {px p : Pos} {ds : List Dv} {d u : Nat} {f : Dv → Dv} {b : Dv → Bool}
theorem EvC.comp (hO : Ok C d u) (hit : EvC C sc env Γ iter (.lst ds)) (hl : ds.length ≤ sizeLine) (hE : ∀ d ∈ ds, ElE C sc env Γ scope cl x elt d (f d))
    (hclos : closureFor scope env = pure cl) (hcell : ∀ y ∈ scope.names, y.2 ≠ .cell) (hkind : scope.kind = .function)
    (hnames : ∀ y ∈ scope.names, y.2 = .local → scope.names.lookup y.1 = some .local) (hx : scope.names.lookup x = some .local) (hs : ∀ v, foldedSetIterable iter env v = pure v) :
    EvC C sc env Γ (.ListComp elt [⟨.Name x px, iter, [], 0⟩] scope p) (.lst (ds.map f)) := fun τ s E h => by
  rw [eval_ListComp]
  refine wpAny_comprehension_free (use := none) rfl hs hclos hkind hnames (wpAny_mono (hit τ s E h) (fun xv s₁ h₁ => ?_) fun _ _ e => e)
  obtain ⟨hp, tk, m, N, rfl, a⟩ := h₁
  obtain ⟨ax, ol, vs, rfl, ho, hc, hr⟩ := a.t _ (.head _)
  have hv : ∀ N', (∀ p ∈ N, p ∈ N') → Reps C.z (Sec C.ob N') ds vs := fun N' h => Reps.mono (Sec.mono h) _ _ hr
  have hS := src_at (C := C) hO.ob ho hc
  have hll : hp.IsList ax vs.toArray := (hS N fun _ h => h).list a.F.keep a.nw
  have hlt : ax < hp.objs.size := by obtain ⟨_, e, _⟩ := hll; exact Heap.lt_size e
  have hlen := hr.length
  refine wpAny_pyIter_list hll ?_
  have up : ∀ b o, hp.get? b = some o → (hp.push { cls := .type "list_iterator", data := .fields #[.ref ax, .int 0 0] }).get? b = some o := fun b o e => Heap.get?_push_of_some _ e
  have M0 : Mid C Γ τ m N ((ds.take 0).map f) [] (C.X ++ N) := ⟨N, rfl, a.dj, a.g, fun p hp => a.t p (.tail _ hp), a.fl, fun _ h => h, rfl⟩
  refine LCg.block_U (S := LCg.SrcAt C.h₀ ax vs.toArray) (Walks.list rfl hp.objs.size ax (Nat.ne_of_lt hlt) vs.toArray) (by simp; omega) (fun i h st => by obtain ⟨o, e, _⟩ := st.1; exact ⟨o, e⟩) LCg.list_st hcell hkind hx ⟨⟨_, Heap.get?_push_size _ rfl, rfl, rfl⟩, hll.push _⟩ (fun b hb => ?_)
    (a.F.keeps up) (a.nw.grown up) (Nat.ne_of_lt a.F.ns.lt) (next_is_new a.F) (fun p hp => Nat.ne_of_lt (Heap.lt_size (a.nw p hp).1)) (hS N fun _ h => h) (comp_turns rfl (list_at hv) hS hE _ 0 [] _ (by simp; omega) M0) ?_
  · show b < (hp.push _).objs.size
    rw [Heap.size_push]
    rcases List.mem_cons.mp hb with rfl | hb
    · exact Nat.lt_succ_self _
    · rw [List.mem_singleton.mp hb]; exact Nat.lt_succ_of_lt hlt
  · intro D Ca h tk m' ys news' F' N' o1 hn hC₀ hD₀ hCL hDL hCD offC fin
    refine ⟨m', hn, fun h'' hs'' => fin.done (F'.change hs'' hCL hC₀) (fun p hp => ?_) o1⟩
    refine ⟨hs''.extBut _ _ ?_ (N' p hp).1, (N' p hp).2⟩
    rcases List.mem_cons.mp hp with rfl | hp
    · exact Ne.symm hCD
    · exact offC p hp
end
end
end Mine
end PEv5

section PEv6
open PySem PySem.W PySem.Spec PySem.Calls PyProof.Rows

namespace Mine
section
variable {C : Cx} {sc : Scope} {τ : List (Dv × Value)} {μ μ' : Mu} {o : Out} {d u : Nat}
theorem AtS.sub {s : Shared} (hs : ∀ x d, μ.lookup x = some d → μ'.lookup x = some d) (h : AtS C sc μ' τ s) : AtS C sc μ τ s :=
  let ⟨Z, hZ, hp, tk, m, N, e, zt, a⟩ := h
  ⟨Z, hZ, hp, tk, m, N, e, zt, a.F, a.nw, a.dj, ⟨a.g.cells, fun x d h => a.g.facts x d (hs x d h)⟩, a.t, a.fl⟩
theorem Xs.sub {z : Zw} {sts : List Stmt} {μ₀ : Mu} (h : Xs z d u sc μ₀ sts (.nx μ')) (hs : ∀ x d, μ.lookup x = some d → μ'.lookup x = some d) : Xs z d u sc μ₀ sts (.nx μ) :=
  fun C τ s E hz hO hX ha => wpAny_mono (h C τ s E hz hO hX ha) (fun _ _ hp => ⟨hp.1, hp.2.sub hs⟩) fun _ _ e => e
theorem Xs.pre {z : Zw} {sts : List Stmt} (h : Xs z d u sc μ sts o) (hs : ∀ x d, μ.lookup x = some d → μ'.lookup x = some d) : Xs z d u sc μ' sts o :=
  fun C τ s E hz hO hX ha => h C τ s E hz hO hX (ha.sub hs)
/-- what the ledger of a state between statements is -/
noncomputable def Held (C : Cx) (sc : Scope) (μ : Mu) (τ : List (Dv × Value)) (N₀ : Led) (m : Str → Option Value) (news : Led) : Prop :=
  ∃ Z N, news = Z ++ C.X ++ N ∧ (∀ p ∈ Z, ∃ q ∈ C.cl sc, p.1 = q.2) ∧ (∀ p ∈ N, ∀ q ∈ Z ++ C.X, p.1 ≠ q.1) ∧ LocH (C.on (Z ++ C.X)) sc μ m (Z ++ C.X) N ∧ (∀ p ∈ τ, Rep C.z (Sec C.ob N) p.1 p.2) ∧ (∀ p ∈ C.fl, p ∈ N) ∧ ∀ p ∈ N₀, p ∈ N
theorem Held.at {N₀ news : Led} {m : Str → Option Value} {h : Heap} {tk : Nat} (H : Held C sc μ τ N₀ m news) (hz : C.z.b = false) (F : Fr C.h₀ C.L h m) (N : News C.h₀ C.L h news) : AtS C sc μ τ { C.s0 with heap := h, toks := tk } := by
  obtain ⟨Z, N₁, rfl, hZ, dj, g, t, f, _⟩ := H
  exact ⟨Z, hZ, h, tk, m, N₁, rfl, zt_no hz, F, N, dj, g, t, f⟩
/-- the context of a loop's body: its iterator is protected besides, and the ledger so far is kept -/
theorem Held.turn {N₀ news : Led} {m : Str → Option Value} {h : Heap} {tk : Nat} {I : Addr} {oI : Obj} {x : Str} {dv : Dv} {v : Value} (H : Held C sc μ τ N₀ m news) (hz : C.z.b = false) (F : Fr C.h₀ C.L h (fun y => if y = x then some v else m y)) (N : News C.h₀ C.L h ((I, oI) :: news)) (hI : ∀ p ∈ news, p.1 ≠ I)
    (hx : isLoc sc x = true) (hr : ∀ N', (∀ p ∈ N₀, p ∈ N') → Rep C.z (Sec C.ob N') dv v) :
    ∃ N₁, (∀ p ∈ N₀, p ∈ N₁) ∧ (∀ p ∈ C.fl, p ∈ N₁) ∧ (∀ q ∈ C.cl sc, q.2 ≠ I) ∧ (∀ q ∈ C.X, q.1 ≠ I) ∧ AtS (C.on2 ((I, oI) :: C.X) N₁) sc ((x, dv) :: μ) τ { C.s0 with heap := h, toks := tk } := by
  obtain ⟨Z, N₁, rfl, hZ, dj, g, t, f, k⟩ := H
  have hmem : ∀ p ∈ Z ++ C.X, p ∈ Z ++ (I, oI) :: C.X := fun p hp => by
    rcases List.mem_append.mp hp with hp | hp
    · exact List.mem_append_left _ hp
    · exact List.mem_append_right _ (.tail _ hp)
  refine ⟨N₁, k, f, fun q hq e => ?_, fun q hq => hI q (List.mem_append_left _ (List.mem_append_right _ hq)), Z, hZ, h, tk, _, N₁, rfl, zt_no hz, F, fun p hp => ?_, fun p hp q hq => ?_, ⟨fun q hq => ?_, fun y d e => ?_⟩, t, fun _ h => h⟩
  · obtain ⟨o, ho, _⟩ := g.cells q hq
    exact hI _ (List.mem_append_left _ ho) e
  · have hp' : p ∈ Z ++ (I, oI) :: C.X ++ N₁ := hp
    rcases List.mem_append.mp hp' with hp | hp
    · rcases List.mem_append.mp hp with hp | hp
      · exact N p (.tail _ (List.mem_append_left _ (List.mem_append_left _ hp)))
      · rcases List.mem_cons.mp hp with rfl | hp
        · exact N _ (.head _)
        · exact N p (.tail _ (List.mem_append_left _ (List.mem_append_right _ hp)))
    · exact N p (.tail _ (List.mem_append_right _ hp))
  · have hq' : q ∈ Z ++ (I, oI) :: C.X := hq
    rcases List.mem_append.mp hq' with hq | hq
    · exact dj p hp q (List.mem_append_left _ hq)
    · rcases List.mem_cons.mp hq with rfl | hq
      · exact hI p (List.mem_append_right _ hp)
      · exact dj p hp q (List.mem_append_right _ hq)
  · obtain ⟨o, ho, w⟩ := g.cells q hq
    exact ⟨o, hmem _ ho, w⟩
  · rw [lookup_cons_eq] at e
    split at e
    · rename_i hy; subst hy; cases e
      exact ⟨v, hr N₁ k, (Lies.non (isLoc_cl (C := C) hx)).mpr (if_pos rfl)⟩
    · rename_i hy
      obtain ⟨w, b1, b2⟩ := g.facts y d e
      refine ⟨w, b1, ?_⟩
      cases hl : (C.cl sc).lookup y with
      | none => exact (Lies.non hl).mpr ((if_neg hy).trans ((Lies.non hl).mp b2))
      | some c => obtain ⟨o, ho, hd⟩ := (Lies.som hl).mp b2; exact (Lies.som hl).mpr ⟨o, hmem _ ho, hd⟩
/-- back from the body -/
theorem Held.back {N₀ N₁ : Led} {I : Addr} {oI : Obj} {s : Shared} {τ' : List (Dv × Value)} (k : ∀ p ∈ N₀, p ∈ N₁) (f : ∀ p ∈ C.fl, p ∈ N₁) (hI : ∀ q ∈ C.cl sc, q.2 ≠ I) (hIX : ∀ q ∈ C.X, q.1 ≠ I) (h : AtS (C.on2 ((I, oI) :: C.X) N₁) sc μ (τ' ++ τ) s) :
    ∃ h' tk m news, s = { C.s0 with heap := h', toks := tk } ∧ Fr C.h₀ C.L h' m ∧ News C.h₀ C.L h' ((I, oI) :: news) ∧ (∀ p ∈ news, p.1 ≠ I) ∧ Held C sc μ (τ' ++ τ) N₀ m news := by
  obtain ⟨Z, hZ, hp, tk, m, N, rfl, zt, a⟩ := h
  have a' : ∀ p ∈ N, ∀ q ∈ Z ++ (I, oI) :: C.X, p.1 ≠ q.1 := a.dj
  have hN : ∀ p ∈ N₁, p ∈ N := a.fl
  have nw : ∀ p ∈ Z ++ (I, oI) :: C.X ++ N, _ := a.nw
  have hcell : ∀ q ∈ C.cl sc, ∀ o, (q.2, o) ∈ Z ++ (I, oI) :: C.X → (q.2, o) ∈ Z ++ C.X := fun q hq o ho => by
    rcases List.mem_append.mp ho with ho | ho
    · exact List.mem_append_left _ ho
    · rcases List.mem_cons.mp ho with e | ho
      · injection e with e; exact absurd e (hI q hq)
      · exact List.mem_append_right _ ho
  refine ⟨hp, tk, m, Z ++ C.X ++ N, rfl, a.F, fun p hp => ?_, fun p hp => ?_, Z, N, rfl, hZ, fun p hp q hq => ?_, ⟨fun q hq => ?_, fun y d e => ?_⟩, a.t, fun p hp => hN p (f p hp), fun p hp => hN p (k p hp)⟩
  · rcases List.mem_cons.mp hp with rfl | hp
    · exact nw _ (List.mem_append_left _ (List.mem_append_right _ (.head _)))
    · rcases List.mem_append.mp hp with hp | hp
      · rcases List.mem_append.mp hp with hp | hp
        · exact nw _ (List.mem_append_left _ (List.mem_append_left _ hp))
        · exact nw _ (List.mem_append_left _ (List.mem_append_right _ (.tail _ hp)))
      · exact nw _ (List.mem_append_right _ hp)
  · rcases List.mem_append.mp hp with hp | hp
    · rcases List.mem_append.mp hp with hp | hp
      · obtain ⟨q, hq, e⟩ := hZ p hp
        rw [e]; exact hI q hq
      · exact hIX p hp
    · exact a' p hp _ (List.mem_append_right _ (.head _))
  · rcases List.mem_append.mp hq with hq | hq
    · exact a' p hp q (List.mem_append_left _ hq)
    · exact a' p hp q (List.mem_append_right _ (.tail _ hq))
  · obtain ⟨o, ho, w⟩ := a.g.cells q hq
    exact ⟨o, hcell q hq o ho, w⟩
  · obtain ⟨w, b1, b2⟩ := a.g.facts y d e
    refine ⟨w, b1, ?_⟩
    cases hl : (C.cl sc).lookup y with
    | none => exact (Lies.non hl).mpr ((Lies.non (cl := C.cl sc) hl).mp b2)
    | some c =>
      obtain ⟨o, ho, hd⟩ := (Lies.som (cl := C.cl sc) hl).mp b2
      exact (Lies.som hl).mpr ⟨o, hcell _ (lookup_mem hl) o ho, hd⟩
/-- a loop over a list -/
theorem X1.for {z : Zw} (hz0 : z.b = false) {x : Str} {px p : Pos} {iter : Expr} {body : List Stmt} {ds : List Dv} (μs : Nat → Mu) (ok : Nat → Prop) (hit : EvF z d u sc μ iter (.lst ds)) (h0 : ok 0) (hμ0 : ∀ x d, (μs 0).lookup x = some d → μ.lookup x = some d)
    (hb : ∀ i dv, ds[i]? = some dv → ok i → (ok (i + 1) ∧ Xs z d u sc ((x, dv) :: μs i) body (.nx (μs (i + 1)))) ∨ ∃ r, o = .rt r ∧ Xs z d u sc ((x, dv) :: μs i) body (.rt r))
    (hend : ok ds.length → o = .nx (μs ds.length)) (hx : isLoc sc x = true) (hs : ∀ (C : Cx) v, foldedSetIterable iter (C.env sc) v = pure v) (hk : sc.kind = .function) : X1 z d u sc μ (.For (.Name x px) iter body [] p) o :=
  fun C τ s E hz hO hX ha => by
  have hz' : C.z.b = false := by rw [hz]; exact hz0
  refine wpAny_noRaise (For_invV C.h₀ (isLoc_kind hx) (by show (sc.kind == .class || (sc.kind == .module && _)) = false; rw [hk]; rfl) (wpAny_mono (hit.run hz hO ha) (fun xv s₁ h₁ => ?_) fun _ _ e => e) (hs C) PassesOwn.never)
  obtain ⟨Z, hZ, g₀, tk, m, N, rfl, _, a⟩ := h₁
  obtain ⟨ax, ol, vs, rfl, ho, hc, hr⟩ := a.t _ (.head _)
  have hv : ∀ N', (∀ p ∈ N, p ∈ N') → Reps C.z (Sec C.ob N') ds vs := fun N' h => Reps.mono (Sec.mono h) _ _ hr
  have hS := src_at (C := C.on (Z ++ C.X)) hO.ob ho hc
  have nw : News C.h₀ C.L g₀ (Z ++ C.X ++ N) := a.nw
  have hll : g₀.IsList ax vs.toArray := (hS N fun _ h => h).list a.F.keep a.nw
  have hlt : ax < g₀.objs.size := by obtain ⟨_, e, _⟩ := hll; exact Heap.lt_size e
  have hne : ax ≠ g₀.objs.size := Nat.ne_of_lt hlt
  have hlen := hr.length
  have F₀ : Fr C.h₀ C.L g₀ m := a.F
  have haxL : ax ≠ C.L := by
    rcases ho with h | h
    · exact (nw _ (List.mem_append_right _ h)).2.1
    · exact Nat.ne_of_lt (Nat.lt_of_lt_of_le (Heap.lt_size (hO.ob _ _ h)) F₀.above)
  refine wpAny_pyIter_list hll ?_
  have W := Walks.list (prog := Mine.rw0.row.prog) (w := C.w) (A := C.A sc) rfl g₀.objs.size ax hne vs.toArray
  rw [show vs.toArray.size = ds.length by simp [hlen]] at W
  refine ⟨_, _, _, ds.length, _, _, m, Z ++ C.X ++ N, fun i m news => ok i ∧ Held C sc (μs i) τ N m news, rfl, W, fun hm => ?_, fun b hb => ?_, fun p hp hI => ?_, ⟨⟨_, Heap.get?_push_size _ rfl, rfl, rfl⟩, hll.push _⟩, F₀.push _,
    (fun p hp => ⟨Heap.get?_push_of_some _ (nw p hp).1, (nw p hp).2⟩), ⟨h0, Z, N, rfl, hZ, a.dj, ⟨a.g.cells, fun x d h => a.g.facts x d (hμ0 x d h)⟩, fun p hp => a.t p (.tail _ hp), a.fl, fun _ h => h⟩, ?_, fun h' tk m' news' F' N' _ hJ => ?_⟩
  · rcases List.mem_cons.mp hm with e | hm
    · have := F₀.ns.lt; rw [show C.L = g₀.objs.size from e] at this; exact absurd this (Nat.lt_irrefl _)
    · exact haxL (List.mem_singleton.mp hm).symm
  · rw [List.mem_singleton.mp hb]; exact next_is_new F₀
  · exact absurd (Heap.lt_size (nw p hp).1) ((List.mem_singleton.mp hI) ▸ Nat.lt_irrefl _)
  · rintro i v m₁ news₁ s₁ own ⟨hh', tk', rfl⟩ hin hP ⟨hok, hJ⟩ hoff hown hget hall hst F₁ N₁
    obtain ⟨dv, hd, _⟩ := Reps.at hr (show vs[i]? = some v by simpa using hP)
    have hrep : ∀ N', (∀ p ∈ N, p ∈ N') → Rep C.z (Sec C.ob N') dv v := fun N' h => by
      obtain ⟨d', h1, h2⟩ := Reps.at (hv N' h) (show vs[i]? = some v by simpa using hP)
      rw [hd] at h1; cases h1; exact h2
    obtain ⟨oI, heI, _⟩ := hst.1
    have hI₀ : C.h₀.get? g₀.objs.size = none := next_is_new F₀
    have hIown := hall g₀.objs.size (.head _) hI₀ oI heI
    have off : ∀ p ∈ news₁, p.1 ≠ g₀.objs.size := fun p hp e => hoff p hp (e ▸ .head _)
    obtain ⟨N₂, k₂, f₂, hIc, hIX, hAt⟩ := hJ.turn (tk := tk') hz' F₁ (fun p hp => by
      rcases List.mem_cons.mp hp with rfl | hp
      · exact N₁ _ (List.mem_append_left _ hIown)
      · exact N₁ p (List.mem_append_right _ hp)) off hx hrep
    have hX' : NC (C.on2 ((g₀.objs.size, oI) :: C.X) N₂) sc := fun p hp q hq => by
      rcases List.mem_cons.mp hp with rfl | hp
      · exact (hIc q hq).symm
      · exact hX p hp q hq
    have okeep : ∀ p ∈ own, ∀ (h₂ : Heap) (m₂ : Str → Option Value) (news₂ : Led), Fr C.h₀ C.L h₂ m₂ → News C.h₀ C.L h₂ ((g₀.objs.size, oI) :: news₂) → (∀ q ∈ N, q ∈ news₂) → News C.h₀ C.L h₂ [p] := fun p hp h₂ m₂ news₂ F₂ N₃ hsub => by
      have h2 := hown p hp
      rcases List.mem_cons.mp h2 with e | e
      · have : p = (g₀.objs.size, oI) := Prod.ext e (by have := hget p hp; rw [e] at this; have h3 : some oI = some p.2 := heI.symm.trans this; exact (Option.some.inj h3).symm)
        rw [this]; exact fun q hq => by rw [List.mem_singleton.mp hq]; exact N₃ _ (.head _)
      · have e' := List.mem_singleton.mp e
        have hn := (N₁ p (List.mem_append_left _ hp)).2.2
        rcases ho with h | h
        · have h4 := N₃ _ (.tail _ (hsub _ h))
          have h5 : p = (ax, ol) := by
            obtain ⟨_, _, _, _, _, _, hsub1, _⟩ := id hJ
            have h6 := (N₁ (ax, ol) (List.mem_append_right _ (by
              obtain ⟨Z', N', rfl, _, _, _, _, _, k'⟩ := id hJ
              exact List.mem_append_right _ (k' _ h)))).1
            have h7 := hget p hp
            rw [e'] at h7
            exact Prod.ext e' (Option.some.inj (h7.symm.trans h6))
          rw [h5]; exact fun q hq => by rw [List.mem_singleton.mp hq]; exact h4
        · rw [e', hO.ob _ _ h] at hn; cases hn
    rcases hb i dv hd hok with ⟨hok', hbody⟩ | ⟨r, rfl, hbody⟩
    · refine wpAny_mono (hbody (C.on2 ((g₀.objs.size, oI) :: C.X) N₂) τ _ _ hz (hO.on2 _ _) hX' hAt) (fun f s₂ hp₂ => ?_) fun _ _ e => e
      obtain ⟨rfl, h₂⟩ := hp₂
      obtain ⟨h', tk₂, m₂, news₂, rfl, F₂, N₃, hn, H⟩ := Held.back (τ' := []) k₂ f₂ hIc hIX h₂
      refine .next ⟨rfl, h', tk₂, m₂, news₂, rfl, F₂, fun p hp => ?_, fun p hp hq => hn p hp (List.mem_singleton.mp hq), hok', H⟩
      rcases List.mem_append.mp hp with hp | hp
      · exact okeep p hp h' m₂ news₂ F₂ N₃ (fun q hq => by
          obtain ⟨Z', N', rfl, _, _, _, _, _, k'⟩ := H
          exact List.mem_append_right _ (k' _ hq)) p (.head _)
      · exact N₃ p (.tail _ hp)
    · refine wpAny_mono (hbody (C.on2 ((g₀.objs.size, oI) :: C.X) N₂) τ _ _ hz (hO.on2 _ _) hX' hAt) (fun f s₂ hp₂ => ?_) fun _ _ e => e
      obtain ⟨v, μ', rfl, h₂⟩ := hp₂
      obtain ⟨h', tk₂, m₂, news₂, rfl, F₂, N₃, hn, H⟩ := Held.back (τ' := [(r, v)]) k₂ f₂ hIc hIX h₂
      exact .ret ⟨v, μ', rfl, H.at hz' F₂ fun p hp => N₃ p (.tail _ hp)⟩
  · obtain ⟨hok, H⟩ := hJ
    rw [hend hok]
    exact ⟨rfl, H.at hz' F' N'⟩
/-- a while loop -/
theorem X1.while {z : Zw} (hz0 : z.b = false) {α : Type} {test : Expr} {p : Pos} {body : List Stmt} (inv : α → Mu) (ok : α → Prop) (me : α → Nat) (b : α → Bool) (nxt : α → α) (a₀ : α) (h0 : ok a₀) (hμ0 : ∀ x d, (inv a₀).lookup x = some d → μ.lookup x = some d)
    (ht : ∀ a, ok a → TestF z d u sc (inv a) test (b a)) (hb : ∀ a, ok a → b a = true → Xs z d u sc (inv a) body (.nx (inv (nxt a))) ∧ ok (nxt a) ∧ me (nxt a) < me a)
    (hend : ∀ a, ok a → b a = false → ∀ x d, μ'.lookup x = some d → (inv a).lookup x = some d) : X1 z d u sc μ (.While test body [] p) (.nx μ') :=
  fun C τ s E hz hO hX ha => by
  have hz' : C.z.b = false := by rw [hz]; exact hz0
  obtain ⟨Z, hZ, hp, tk, m, N, rfl, _, a⟩ := ha
  refine wpAny_noRaise (While_inv (fun n m news => ∃ a, n = me a ∧ ok a ∧ Held C sc (inv a) τ [] m news) (n₀ := me a₀) a.F (show News C.h₀ C.L hp (Z ++ C.X ++ N) from a.nw)
    ⟨a₀, rfl, h0, Z, N, rfl, hZ, a.dj, ⟨a.g.cells, fun x d h => a.g.facts x d (hμ0 x d h)⟩, a.t, a.fl, (fun _ h => nomatch h)⟩ (fun n m₁ news₁ h₁ tk₁ F₁ N₁ hJ => ?_) PassesOwn.never)
  obtain ⟨a₁, rfl, hok, H⟩ := hJ
  refine wpAny_mono ((ht a₁ hok).run hz hO (H.at (tk := tk₁) hz' F₁ N₁)) (fun k s₂ hk => ?_) fun _ _ e => e
  obtain ⟨rfl, h₂⟩ := hk
  by_cases hba : b a₁ = true
  · rw [if_pos hba]
    obtain ⟨h1, h2, h3⟩ := hb a₁ hok hba
    refine wpAny_mono (h1 C τ _ _ hz hO hX h₂) (fun f s₃ hf => ?_) fun _ _ e => e
    obtain ⟨rfl, Z', hZ', hp', tk', m', N', rfl, _, a'⟩ := hf
    exact ⟨rfl, hp', tk', m', Z' ++ C.X ++ N', me (nxt a₁), rfl, a'.F, a'.nw, h3, nxt a₁, rfl, h2, Z', N', rfl, hZ', a'.dj, ⟨a'.g.cells, a'.g.facts⟩, a'.t, a'.fl, (fun _ h => nomatch h)⟩
  · rw [if_neg hba]
    exact ⟨rfl, h₂.sub (hend a₁ hok (by simpa using hba))⟩
end
end Mine
end PEv6

section PEv7
open PySem PySem.W PySem.Spec PySem.Calls PyProof.Rows

namespace Mine
noncomputable def pushMu : List Str → List Dv → Mu → Mu
  | x :: xs, d :: ds, μ => pushMu xs ds ((x, d) :: μ)
  | _, _, μ => μ
section
variable {C : Cx} {sc : Scope} {μ : Mu} {d u : Nat} {z : Zw}
/-- several names stored at once -/
theorem stores {t : Str → Pos → Value → Sem Unit} (ht : ∀ x p v (Q : Unit → Shared → Prop) (E : Value → Shared → Prop) s, wpAny C.M (C.A sc) (storeName (C.env sc) x v) Q E s → wpAny C.M (C.A sc) (t x p v) Q E s) (hX : NC C sc) (hk : sc.kind = .function) :
    ∀ (xs : List (Str × Pos)) (ds : List Dv) (vs : List Value) (μ : Mu) (τ : List (Dv × Value)) (s : Shared) (E : Value → Shared → Prop), (∀ x ∈ xs, Sto sc x.1 = true) → xs.length = ds.length → vs.length = ds.length → AtS C sc μ (ds.zip vs ++ τ) s →
      wpAny C.M (C.A sc) (assignInOrder (xs.map fun x => t x.1 x.2) vs) (fun _ s' => AtS C sc (pushMu (xs.map (·.1)) ds μ) τ s') E s := by
  intro xs
  induction xs with
  | nil =>
    intro ds vs μ τ s E _ h1 h2 h
    cases ds with
    | nil => exact assignInOrder_nil h
    | cons _ _ => cases h1
  | cons x xs ih =>
    intro ds vs μ τ s E hx h1 h2 h
    cases ds with
    | nil => cases h1
    | cons dv ds =>
      cases vs with
      | nil => cases h2
      | cons v vs =>
        refine assignInOrder_cons (ht _ _ _ _ _ _ (store (hx x (.head _)) hX h (fun s' h' => ?_) hk))
        exact ih ds vs _ τ s' E (fun y hy => hx y (.tail _ hy)) (Nat.succ.inj h1) (Nat.succ.inj h2) h'
theorem Reps.zip {O : Addr → Obj → Prop} : ∀ {ds : List Dv} {vs : List Value}, Reps z O ds vs → ∀ p ∈ ds.zip vs, Rep z O p.1 p.2
  | [], _, _, p, hp => by simp at hp
  | d :: ds, vs, ⟨v, r, e, a, b⟩, p, hp => by
    subst e
    rcases List.mem_cons.mp hp with rfl | hp
    · exact a
    · exact Reps.zip b p hp
theorem At.taus {Γ : Gx} {τ : List (Dv × Value)} {h : Heap} {m : Str → Option Value} {N : Led} {ds : List Dv} {vs : List Value} (a : AtH C Γ τ h m N) (hr : Reps C.z (Sec C.ob N) ds vs) : AtH C Γ (ds.zip vs ++ τ) h m N :=
  ⟨a.F, a.nw, a.dj, a.g, fun p hp => (List.mem_append.mp hp).elim (Reps.zip hr p) (a.t p), a.fl⟩
/-- names out of a list -/
theorem X1.unL {e : Expr} {elts : List Expr} {k : Nat} {tp p : Pos} {ds : List Dv} (xs : List (Str × Pos)) {μ' : Mu} (he : EvF z d u sc μ e (.lst ds)) (hx : (xs.all fun x => Sto sc x.1) = true) (hl : xs.length = ds.length) (hμ : pushMu (xs.map (·.1)) ds μ = μ')
    (hel : ∀ C : Cx, (assignEach elts (C.env sc)) = xs.map fun x => (false, PySem.assign (PySem.Expr.Name x.1 x.2) (C.env sc))) (hs : ∀ C : Cx, swapsWithSole [.Tuple elts k tp] e p.line (C.env sc) = pure false) (hw : ∀ C : Cx, swappedStores [.Tuple elts k tp] e (C.env sc) = pure none) (hk : sc.kind = .function) :
    X1 z d u sc μ (.Assign [.Tuple elts k tp] e p) (.nx μ') := fun C τ s E hz hO hX ha => by
  subst hμ
  refine Assign_Tuple (wpAny_mono (he.run hz hO ha) (fun v s₁ h₁ => ?_) fun _ _ e => e) (hs C) (hw C)
  obtain ⟨Z, hZ, g, tk, m, N, rfl, zt, a⟩ := h₁
  obtain ⟨ax, ol, vs, rfl, ho, hc, hr⟩ := a.t _ (.head _)
  have hll : g.IsList ax vs.toArray := (src_at (C := C.on (Z ++ C.X)) hO.ob ho hc N fun _ h => h).list a.F.keep a.nw
  have hlen := hr.length
  refine kun_list a.F a.nw hll rfl (by rw [hel C, List.length_map, List.size_toArray, hl, hlen]) (by rw [hel C, List.findIdx?_map]; exact List.findIdx?_eq_none_iff.mpr fun x _ => rfl) fun g' F' N' => ?_
  rw [hel C, List.map_map]
  refine wpAny_mono (stores (t := fun x p => PySem.assign (PySem.Expr.Name x p) (C.env sc)) (fun _ _ _ _ _ _ h => PyProof.Rows.assign_Name h) hX hk xs ds vs μ τ _ E (fun x hx' => List.all_eq_true.mp hx x hx') hl hlen ⟨Z, hZ, g', tk, m, N, rfl, zt, ?_⟩) (fun _ _ h => ⟨rfl, h⟩) fun _ _ e => e
  exact At.taus ((AtH.tau a fun _ hp => .tail _ hp).to F' N') hr
/-- names out of a tuple -/
theorem X1.unT {e : Expr} {elts : List Expr} {k : Nat} {tp p : Pos} {ds : List Dv} (xs : List (Str × Pos)) {μ' : Mu} (he : EvF z d u sc μ e (.tup ds)) (hx : (xs.all fun x => Sto sc x.1) = true) (hl : xs.length = ds.length) (hμ : pushMu (xs.map (·.1)) ds μ = μ')
    (hel : ∀ C : Cx, (assignEach elts (C.env sc)) = xs.map fun x => (false, PySem.assign (PySem.Expr.Name x.1 x.2) (C.env sc))) (hs : ∀ C : Cx, swapsWithSole [.Tuple elts k tp] e p.line (C.env sc) = pure false) (hw : ∀ C : Cx, swappedStores [.Tuple elts k tp] e (C.env sc) = pure none) (hk : sc.kind = .function) :
    X1 z d u sc μ (.Assign [.Tuple elts k tp] e p) (.nx μ') := fun C τ s E hz hO hX ha => by
  subst hμ
  refine Assign_Tuple (wpAny_mono (he.run hz hO ha) (fun v s₁ h₁ => ?_) fun _ _ e => e) (hs C) (hw C)
  obtain ⟨Z, hZ, g, tk, m, N, rfl, zt, a⟩ := h₁
  obtain ⟨ax, ol, vs, rfl, ho, hc, hr⟩ := a.t _ (.head _)
  have hll : IsTup g ax vs.toArray := ⟨ol, ho.elim (fun h => (a.nw _ (List.mem_append_right _ h)).1) (fun h => a.F.keep _ _ (hO.ob _ _ h)), hc⟩
  have hlen := hr.length
  refine unpackN_ a.F a.nw hll rfl (by rw [hel C, List.length_map, List.size_toArray, hl, hlen]) (by rw [hel C, List.findIdx?_map]; exact List.findIdx?_eq_none_iff.mpr fun x _ => rfl) fun g' F' N' => ?_
  rw [hel C, List.map_map]
  refine wpAny_mono (stores (t := fun x p => PySem.assign (PySem.Expr.Name x p) (C.env sc)) (fun _ _ _ _ _ _ h => PyProof.Rows.assign_Name h) hX hk xs ds vs μ τ _ E (fun x hx' => List.all_eq_true.mp hx x hx') hl hlen ⟨Z, hZ, g', tk, m, N, rfl, zt, ?_⟩) (fun _ _ h => ⟨rfl, h⟩) fun _ _ e => e
  exact At.taus ((AtH.tau a fun _ hp => .tail _ hp).to F' N') hr
theorem Reps.rev {O : Addr → Obj → Prop} : ∀ {ds : List Dv} {vs : List Value}, Reps z O ds vs → Reps z O ds.reverse vs.reverse
  | [], _, h => by rw [h]; rfl
  | d :: ds, _, ⟨v, r, e, a, b⟩ => by
    subst e
    rw [List.reverse_cons, List.reverse_cons]
    exact (Reps.rev b).app ⟨v, [], rfl, a, rfl⟩
/-- names out of a written tuple, stored from the last to the first -/
theorem X1.unS {e : Expr} {elts : List Expr} {k : Nat} {tp p : Pos} {ds : List Dv} (xs : List Str) {μ' : Mu} (he : EvF z d u sc μ e (.tup ds)) (hx : (xs.all fun x => Sto sc x) = true) (hl : xs.length = ds.length) (hμ : pushMu xs.reverse ds.reverse μ = μ')
    (hs : ∀ C : Cx, swapsWithSole [.Tuple elts k tp] e p.line (C.env sc) = pure false) (hw : ∀ C : Cx, swappedStores [.Tuple elts k tp] e (C.env sc) = pure (some xs)) (hk : sc.kind = .function) :
    X1 z d u sc μ (.Assign [.Tuple elts k tp] e p) (.nx μ') := fun C τ s E hz hO hX ha => by
  subst hμ
  refine Assign_Tuple_swapped (wpAny_mono (he.run hz hO ha) (fun v s₁ h₁ => ?_) fun _ _ e => e) (hs C) (hw C)
  obtain ⟨Z, hZ, g, tk, m, N, rfl, zt, a⟩ := h₁
  obtain ⟨ax, ol, vs, rfl, ho, hc, hr⟩ := a.t _ (.head _)
  have hll : IsTup g ax vs.toArray := ⟨ol, ho.elim (fun h => (a.nw _ (List.mem_append_right _ h)).1) (fun h => a.F.keep _ _ (hO.ob _ _ h)), hc⟩
  have hlen := hr.length
  refine unpackItemsN_ a.F a.nw hll rfl (by rw [List.size_toArray, hl, hlen]) fun g' F' N' => ?_
  have key := stores (C := C) (sc := sc) (t := fun x _ => bindName (C.env sc) x) (fun _ _ _ _ _ _ h => bindName_ h) hX hk (xs.reverse.map fun x => (x, ⟨0, 0, 0, 0⟩)) ds.reverse vs.reverse μ τ { C.s0 with heap := g', toks := tk } E (fun x hx' => by
      obtain ⟨y, hy, rfl⟩ := List.mem_map.mp hx'
      exact List.all_eq_true.mp hx y (List.mem_reverse.mp hy)) (by simp [hl]) (by simp [hlen]) ⟨Z, hZ, g', tk, m, N, rfl, zt, At.taus ((AtH.tau a fun _ hp => .tail _ hp).to F' N') hr.rev⟩
  rw [List.map_map, List.map_map, show (List.map ((fun x : Str × Pos => x.1) ∘ fun x => (x, (⟨0, 0, 0, 0⟩ : Pos))) xs.reverse) = xs.reverse from (List.map_congr_left fun _ _ => rfl).trans (List.map_id _)] at key
  exact wpAny_mono key (fun _ _ h => ⟨rfl, h⟩) fun _ _ e => e
end
end Mine
end PEv7

section PEv8
open PySem PySem.W PySem.Spec PySem.Calls PyProof.Rows

namespace Mine
section
variable {C : Cx} {sc : Scope} {env : Env} {Γ : Gx} {μ : Mu}
-- from any mark
theorem EvC.ofW {e : Expr} {d : Dv} (h : EvW C sc env Γ e d) : EvC C sc env Γ e d := fun τ s E a => wpAny_mono (h τ s E a) (fun _ _ h => h.w) fun _ _ e => e
theorem EvW.ci {i : Int} {k : Nat} {p : Pos} : EvW C sc env Γ (.Constant (.int i) k p) (.int i) := fun _ _ _ h => wpAny_Constant_int (h.toki i)
theorem EvW.bin {l r : Expr} {op : Operator} {p : Pos} {d₁ d₂ d₃ : Dv} (hl : EvW C sc env Γ l d₁) (hr : Ev C sc env Γ r d₂) (ho : Bin C sc op d₁ d₂ d₃) : EvW C sc env Γ (.BinOp l op r p) d₃ :=
  fun τ s E h => wpAny_BinOp (wpAny_mono (hl τ s E h) (fun _ s₁ h₁ => wpAny_mono (hr _ s₁ E h₁) (fun _ s₂ h₂ => ho Γ τ _ _ s₂ E h₂) fun _ _ e => e) fun _ _ e => e)
theorem EvC.bin {l r : Expr} {op : Operator} {p : Pos} {d₁ d₂ d₃ : Dv} (hl : EvC C sc env Γ l d₁) (hr : EvW C sc env Γ r d₂) (ho : Bin C sc op d₁ d₂ d₃) : EvW C sc env Γ (.BinOp l op r p) d₃ :=
  fun τ s E h => wpAny_BinOp (wpAny_mono (hl τ s E h) (fun _ s₁ h₁ => wpAny_mono (hr _ s₁ E h₁) (fun _ s₂ h₂ => ho Γ τ _ _ s₂ E h₂) fun _ _ e => e) fun _ _ e => e)
noncomputable def EvsW (C : Cx) (sc : Scope) (env : Env) (Γ : Gx) (es : List Expr) (ds : List Dv) : Prop :=
  ∀ (pos : Pos) (τ : List (Dv × Value)) (s : Shared) (E : Value → Shared → Prop), AtW C Γ τ s → wpAny C.M (C.A sc) (spliced (backTo pos (starEach es env))) (fun vs s' => AtL C Γ ds vs τ s') E s
theorem EvsW.cons {e : Expr} {es : List Expr} {d : Dv} {ds : List Dv} (h1 : EvW C sc env Γ e d) (h2 : Evs C sc env Γ es ds) (hs : starEach (e :: es) env = (false, eval e env) :: starEach es env := by kernel_rfl) : EvsW C sc env Γ (e :: es) (d :: ds) :=
  fun pos τ s E h => spliced_more (wpAny_mono (h1 τ s E h) (fun v s₁ h₁ => wpAny_mono (h2 pos _ s₁ E h₁) (fun vs s₂ h₂ => by
    obtain ⟨hp, tk, m, N, e, z, a, g⟩ := h₂
    exact ⟨hp, tk, m, N, e, z, a.tau fun _ hp => .tail _ hp, v, vs, rfl, a.t _ (.head _), g⟩) fun _ _ e => e) fun _ _ e => e) hs
theorem AtW.rep {τ : List (Dv × Value)} {s : Shared} {p : Dv × Value} (h : AtW C Γ τ s) (hp : p ∈ τ) : ∃ O, Rep C.z O p.1 p.2 :=
  let ⟨_, _, _, _, _, a⟩ := h; ⟨_, a.t p hp⟩
theorem AtW.pop1 {τ : List (Dv × Value)} {p : Dv × Value} {s : Shared} (h : AtW C Γ (p :: τ) s) : AtW C Γ τ s :=
  let ⟨hp, tk, m, N, e, a⟩ := h; ⟨hp, tk, m, N, e, a.tau fun _ hp => .tail _ hp⟩
theorem EvW.callB {e : Expr} {es : List Expr} {x : Str} {p px : Pos} {id : String} {ds : List Dv} {r : Dv} (hn : EvC C sc env Γ (.Name x px) (.val (.builtin id))) (ha : EvsW C sc env Γ (e :: es) ds) (hc : CallV C sc (.builtin id) ds r)
    (he : eval (.Call (.Name x px) (e :: es) [] p) env = (do let f ← eval (.Name x px) env; callWith p f [] (backTo p (starEach (e :: es) env)) (backToKw p (keywordEach [] env))) := by kernel_rfl)
    (hs : starEach (e :: es) env = (false, eval e env) :: starEach es env := by kernel_rfl) (hs2 : (List.any (backTo p (starEach es env)) fun x => x.1) = false := by kernel_rfl) : EvW C sc env Γ (.Call (.Name x px) (e :: es) [] p) r :=
  fun τ s E h => Call_ (wpAny_mono (hn τ s E h) (fun f s₁ h₁ => by
    obtain ⟨O, rfl⟩ := h₁.rep (.head _)
    exact PyProof.Rows.callWith_builtin1 (wpAny_mono (ha p τ s₁ E h₁.pop1) (fun vs s₂ h₂ => hc Γ τ vs s₂ E h₂) fun _ _ e => e) hs hs2) fun _ _ e => e) he
theorem EvW.callT {e : Expr} {es : List Expr} {x : Str} {p px : Pos} {id : String} {ds : List Dv} {r : Dv} (hn : EvC C sc env Γ (.Name x px) (.val (.type id))) (ha : EvsW C sc env Γ (e :: es) ds) (hc : CallV C sc (.type id) ds r)
    (he : eval (.Call (.Name x px) (e :: es) [] p) env = (do let f ← eval (.Name x px) env; callWith p f [] (backTo p (starEach (e :: es) env)) (backToKw p (keywordEach [] env))) := by kernel_rfl)
    (hs : starEach (e :: es) env = (false, eval e env) :: starEach es env := by kernel_rfl) (hs2 : (List.any (backTo p (starEach es env)) fun x => x.1) = false := by kernel_rfl) : EvW C sc env Γ (.Call (.Name x px) (e :: es) [] p) r :=
  fun τ s E h => Call_ (wpAny_mono (hn τ s E h) (fun f s₁ h₁ => by
    obtain ⟨O, rfl⟩ := h₁.rep (.head _)
    exact PyProof.Rows.callWith_type1 (wpAny_mono (ha p τ s₁ E h₁.pop1) (fun vs s₂ h₂ => hc Γ τ vs s₂ E h₂) fun _ _ e => e) hs hs2) fun _ _ e => e) he
theorem EvW.call {e : Expr} {es : List Expr} {x : Str} {p px : Pos} {f : Addr} {ds : List Dv} {d u d' u' : Nat} {r : Dv} (hO : Ok C d u) (hn : nsIn (Mine.K C.w.params) mainGlobals x = some (some (.ref f))) (hkp : keepIn (Mine.K C.w.params) (.ref f) = true) (ha : EvsW C sc env Γ (e :: es) ds) (hc : CallOk C.z f ds d' u' r) (hd : d' ≤ d := by decide) (hu : u' ≤ u := by decide)
    (hx : env.kindOf x = some .globalImplicit := by kernel_rfl) (hg : env.globals = mainGlobals := by kernel_rfl) (hk : env.scope.kind = .function := by kernel_rfl) (hb : (x == ("__debug__" : Str)) = false := by kernel_rfl) (hsc : sc.kind = .function := by kernel_rfl)
    (he : eval (.Call (.Name x px) (e :: es) [] p) env = (do let f ← eval (.Name x px) env; callWith p f [] (backTo p (starEach (e :: es) env)) (backToKw p (keywordEach [] env))) := by kernel_rfl)
    (hs : starEach (e :: es) env = (false, eval e env) :: starEach es env := by kernel_rfl) (hs2 : (List.any (backTo p (starEach es env)) fun x => x.1) = false := by kernel_rfl) : EvW C sc env Γ (.Call (.Name x px) (e :: es) [] p) r :=
  fun τ s E h => by
  refine Call_ ?_ he
  obtain ⟨hp, tk, m, N, rfl, a⟩ := id h
  refine nameG_K a.F hO.X (topRead_of hO.T) hn ?_ hg hk hx hb
  refine callWith_K (hO.X.keeps a.F.keep) hkp (wpAny_mono (ha p τ _ E h) (fun vs s₁ h₁ => ⟨?_, ?_⟩) fun _ _ e => e) hs hs2
  · obtain ⟨hp, tk, m, N, rfl, _, a, _⟩ := h₁
    exact hO.X.keeps a.F.keep
  · exact hc C sc rfl (hO.less hd hu) hsc Γ τ vs s₁ E h₁
-- names of the frame
theorem EvC.loc {x : Str} {p : Pos} {d : Dv} (hm : μ.lookup x = some d) (hx : isLoc sc x = true) (hk : sc.kind = .function := by kernel_rfl) (hb : (x == ("__debug__" : Str)) = false := by kernel_rfl) :
    EvC C sc (C.env sc) (Loc C sc μ) (.Name x p) d := fun τ s E h => by
  obtain ⟨hp, tk, m, N, rfl, a⟩ := h
  obtain ⟨v, hr, hl⟩ := a.g.facts x d hm
  exact nameX_L a.F ((Lies.non (isLoc_cl hx)).mp hl) ⟨hp, tk, m, N, rfl, a.push hr⟩ hk (isLoc_kind hx) hb
theorem EvC.name_B {x : Str} {p : Pos} {v : Value} {d u : Nat} (hO : Ok C d u) (hn : nsIn (Mine.K C.w.params) mainGlobals x = some none) (hv : bootBuiltins x = some v) (hx : (C.env sc).kindOf x = some .globalImplicit) (hne : x ≠ "__name__") (hk : sc.kind = .function) (hb : (x == ("__debug__" : Str)) = false) :
    EvC C sc (C.env sc) Γ (.Name x p) (.val v) := fun τ s E h => by
  obtain ⟨hp, tk, m, N, rfl, a⟩ := id h
  exact nameX_B a.F hO.X (topRead_of hO.T) hn hv hne ⟨hp, tk, m, N, rfl, a.push rfl⟩ hk hx hb
section
-- names in a comprehension
variable {X fl : Led} {scope : Scope} {cl : List (Str × Addr)} {Ca : Addr} {m₀ : Str → Option Value} {x : Str} {dx : Dv} {p : Pos}
theorem own_raw {s : Shared} {τ : List (Dv × Value)} {h : Heap} {m : Str → Option Value} {N : Led} {E : Value → Shared → Prop} {Q : Value → Shared → Prop} (a : AtH (C.on2 X fl) (CompG C Γ x dx Ca m₀) τ h m N) (hQ : ∀ v, Rep C.z (Sec C.ob N) dx v → Q v { s with heap := h })
    (hk : scope.kind = .function) (hx : (compEnvC scope cl Ca env).kindOf x = some .local) (hb : (x == ("__debug__" : Str)) = false) : wpAny C.M (C.A sc) (eval (.Name x p) (compEnvC scope cl Ca env)) Q E { s with heap := h } := by
  obtain ⟨_, _, oC, m₂, v, hm, hn, hx', hr⟩ := a.g
  exact LCgL.ld_own a.nw (List.mem_append_left _ hm) hn hx' (hQ v hr) hk hx hb
theorem Ev.own (hk : scope.kind = .function := by kernel_rfl) (hx : (compEnvC scope cl Ca env).kindOf x = some .local := by kernel_rfl) (hb : (x == ("__debug__" : Str)) = false := by kernel_rfl) :
    Ev (C.on2 X fl) sc (compEnvC scope cl Ca env) (CompG C Γ x dx Ca m₀) (.Name x p) dx := fun τ s E h => by
  obtain ⟨hp, tk, m, N, rfl, z, a⟩ := h
  exact own_raw (s := { C.s0 with toks := tk }) a (fun v hr => ⟨hp, tk, m, N, rfl, z, a.push hr⟩) hk hx hb
theorem Ev.capC {y : Str} {d : Dv} (hm : μ.lookup y = some d) (hy : isCel sc y = true) (hcl : cl.lookup y = (C.cl sc).lookup y) (hk : scope.kind = .function := by kernel_rfl) (hx : (compEnvC scope cl Ca env).kindOf y = some .cell := by kernel_rfl) (hb : (y == ("__debug__" : Str)) = false := by kernel_rfl) :
    Ev (C.on2 X fl) sc (compEnvC scope cl Ca env) (CompG C (Loc C sc μ) x dx Ca m₀) (.Name y p) d := fun τ s E h => by
  obtain ⟨hp, tk, m, N, rfl, z, a⟩ := h
  obtain ⟨c, hc⟩ := isCel_cl (n := C.L + 1) hy
  obtain ⟨v, hr, hl⟩ := a.g.2.1.facts y d hm
  obtain ⟨o, ho, hd⟩ := (Lies.som (cl := C.cl sc) hc).mp hl
  exact lcf_cell a.nw (hcl.trans hc) (List.mem_append_left _ ho) hd ⟨hp, tk, m, N, rfl, z, a.push hr⟩ hk hx hb
theorem EvC.built {v : Value} {y : Str} {d u : Nat} (hO : Ok C d u) (hn : nsIn (Mine.K C.w.params) mainGlobals y = some none) (hv : bootBuiltins y = some v) (hne : y ≠ "__name__") (hx : (compEnvC scope cl Ca (C.env sc)).kindOf y = some .globalImplicit) (hk : scope.kind = .function) (hb : (y == ("__debug__" : Str)) = false) :
    EvC (C.on2 X fl) sc (compEnvC scope cl Ca (C.env sc)) Γ (.Name y p) (.val v) := fun τ s E h => by
  obtain ⟨hp, tk, m, N, rfl, a⟩ := h
  exact LCgL.ld_built a.F hO.X hO.T hn hv hne ⟨hp, tk, m, N, rfl, a.push rfl⟩ rfl rfl hk hx hb
end
end
end Mine
end PEv8

section PRetR
open PySem PySem.W PySem.Spec PySem.Calls PyProof.Rows

namespace Mine
end Mine
end PRetR

section PCompT
open PySem PySem.W PySem.Spec PySem.Calls PyProof.Rows

namespace Mine
section
variable {prog : Program} {w : World} {A : Around} {E : Value → Shared → Prop} {s : Shared} {h₀ : Heap} {L : Addr} {m : Str → Option Value} {env : Env}
end
end Mine
end PCompT

section PItemL
open PySem PySem.W PySem.Spec PySem.Calls PyProof.Rows

namespace Mine
end Mine
end PItemL

section PW4
open PySem PySem.W PySem.Spec PySem.Calls PyProof.Rows

namespace Mine
end Mine
end PW4

section PEqF
open PySem PySem.W PySem.Spec PySem.Calls PyProof.Rows PySem.SeqAt

namespace Mine
theorem isSame_float {M : Model} {A : Around} {E : Value → Shared → Prop} {s : Shared} {x y : UInt64} {u v : Tok} {Q : Bool → Shared → Prop}
    (hu : u ≠ 0) (hv : v ≠ 0) (hb : NoneBooked s.heap) (hq : ∀ b, Q b s) : wpAny M A (isSame (.float x u) (.float y v)) Q E s := by
  have h0 : (u == 0 || v == 0) = false := by simp [hu, hv]
  show wpAny M A (isSame.created (x == y && !Float64.isNaN x) u v) Q E s
  unfold isSame.created
  refine wpAny_ite ?_
  split
  · rename_i h; rw [h0] at h; exact absurd h Bool.false_ne_true
  refine wpAny_ite ?_
  split
  · exact wpAny_pure (hq _)
  refine wpAny_ite ?_
  split
  · exact wpAny_pure (hq _)
  refine wpAny_bind (wpAny_sharingNotTold_none hb ?_)
  first | rw [if_neg Bool.false_ne_true] | simp only [Bool.false_eq_true, if_false]
  refine wpAny_bind (wpAny_sharingNotTold_none hb ?_)
  first | rw [if_neg Bool.false_ne_true] | simp only [Bool.false_eq_true, if_false]
  exact wpAny_bind (wpAny_rule (wpAny_bind (wpAny_askSetting (wpAny_pure (hq _)))))
theorem eqAt_float {A : Around} {s : Shared} {x : UInt64} {t u : Tok} (hx : (Float64.cmp x x == some .eq) = true) (ht : t ≠ 0) (hu : u ≠ 0) (hb : NoneBooked s.heap) : EqAt A s (.float x t) (.float x u) true := fun prog w E Q hq => by
  unfold eqBool
  refine wpAny_holding ?_
  refine wpAny_ite_split (fun _ => wpAny_bind (wpAny_rule (wpAny_pure hq))) (fun _ => ?_)
  refine wpAny_bind ?_
  refine isSame_float ht hu hb fun b => ?_
  cases b with
  | true => exact wpAny_pure hq
  | false =>
    show wpAny _ _ (do let c ← richCompare CmpOp.Eq (Value.float x t) (Value.float x u); truthOfDropped c) Q E s
    refine wpAny_bind (AutoFloatOps.eq_0 ?_)
    rw [hx]
    exact wpAny_truthy_bool hq
theorem noneBooked {K : Frag} {h : Heap} {c : Value} {d : Option Addr} {n : Nat} {sl : Array (Option Value)} (X : K.In h) (ho : K.lookup 2 = some ⟨c, d, .dict #[] n, sl⟩) : NoneBooked h :=
  ⟨fun _ => none, ⟨_, #[], n, X _ _ ho, rfl, by intro e he; simp at he, fun _ => rfl⟩, rfl⟩
end Mine
end PEqF

section PEv9
open PySem PySem.W PySem.Spec PySem.Calls PyProof.Rows PySem.SeqAt

namespace Mine
noncomputable abbrev dints (ns : List Int) : Dv := .lst (ns.map .int)
noncomputable abbrev dstrs (ns : List Str) : Dv := .lst (ns.map .str)
theorem Reps.get {z : Zw} {O : Addr → Obj → Prop} : ∀ {ds : List Dv} {vs : List Value} {i : Nat} {d : Dv}, Reps z O ds vs → ds[i]? = some d → ∃ v, vs[i]? = some v ∧ Rep z O d v
  | [], _, _, _, _, e => by simp at e
  | d :: ds, _, 0, _, ⟨v, r, e, a, b⟩, e2 => by subst e; simp at e2; subst e2; exact ⟨v, by simp, a⟩
  | d :: ds, _, i + 1, _, ⟨v, r, e, a, b⟩, e2 => by subst e; simp at e2; obtain ⟨w, h1, h2⟩ := Reps.get b e2; exact ⟨w, by simpa using h1, h2⟩
theorem Reps.take {z : Zw} {O : Addr → Obj → Prop} : ∀ {ds : List Dv} {vs : List Value} (n : Nat), Reps z O ds vs → Reps z O (ds.take n) (vs.take n)
  | [], _, n, h => by rw [h]; simp [Reps]
  | d :: ds, _, 0, _ => rfl
  | d :: ds, _, n + 1, ⟨v, r, e, a, b⟩ => by subst e; exact ⟨v, r.take n, rfl, a, Reps.take n b⟩
theorem Reps.drop {z : Zw} {O : Addr → Obj → Prop} : ∀ {ds : List Dv} {vs : List Value} (n : Nat), Reps z O ds vs → Reps z O (ds.drop n) (vs.drop n)
  | [], _, n, h => by rw [h]; simp [Reps]
  | d :: ds, _, 0, h => h
  | d :: ds, _, n + 1, ⟨v, r, e, a, b⟩ => by subst e; exact Reps.drop n b
theorem Reps.ints {z : Zw} {O : Addr → Obj → Prop} : ∀ {ns : List Int} {vs : List Value}, Reps z O (ns.map .int) vs → IntsAre vs ns
  | [], _, h => by rw [h]; exact .nil
  | n :: ns, _, ⟨v, r, e, ⟨t, a⟩, b⟩ => by subst e; subst a; exact .cons n t (Reps.ints b)
theorem Reps.ofInts {z : Zw} {O : Addr → Obj → Prop} : ∀ {ns : List Int} {vs : List Value}, IntsAre vs ns → Reps z O (ns.map .int) vs
  | _, _, .nil => rfl
  | _, _, .cons n t h => ⟨_, _, rfl, ⟨t, rfl⟩, Reps.ofInts h⟩
section
variable {C : Cx} {sc : Scope} {env : Env} {Γ : Gx} {μ : Mu} {d u : Nat}
/-- the list behind a value -/
theorem AtH.list {τ : List (Dv × Value)} {h : Heap} {m : Str → Option Value} {N : Led} (hO : Ok C d u) (a : AtH C Γ τ h m N) {ds : List Dv} {v : Value} (hr : Rep C.z (Sec C.ob N) (.lst ds) v) : ∃ l vs, v = .ref l ∧ h.IsList l (List.toArray vs) ∧ Reps C.z (Sec C.ob N) ds vs := by
  obtain ⟨ax, ol, vs, rfl, ho, hc, hr⟩ := hr
  exact ⟨ax, vs, rfl, (src_at hO.ob ho hc N fun _ h => h).list a.F.keep a.nw, hr⟩
theorem AtH.tup {τ : List (Dv × Value)} {h : Heap} {m : Str → Option Value} {N : Led} (hO : Ok C d u) (a : AtH C Γ τ h m N) {ds : List Dv} {v : Value} (hr : Rep C.z (Sec C.ob N) (.tup ds) v) : ∃ l vs, v = .ref l ∧ IsTup h l (List.toArray vs) ∧ Reps C.z (Sec C.ob N) ds vs := by
  obtain ⟨ax, ol, vs, rfl, ho, hc, hr⟩ := hr
  exact ⟨ax, vs, rfl, ⟨ol, ho.elim (fun h => (a.nw _ (List.mem_append_right _ h)).1) (fun h => a.F.keep _ _ (hO.ob _ _ h)), hc⟩, hr⟩
theorem Ev.item {value slice : Expr} {ds : List Dv} {k : Int} {r : Dv} {p : Pos} (hO : Ok C d u) (hv : Ev C sc env Γ value (.lst ds)) (hi : Ev C sc env Γ slice (.int k)) (h0 : 0 ≤ k) (h1 : k < 2 ^ 63) (hr : ds[k.toNat]? = some r)
    (hs : ∀ l k u, subscripted slice false (.ref l) (.int k u) = operate [.ref l, .int k u] (getItem (.ref l) (.int k u)) := by intro _ _ _; with_unfolding_all rfl) : Ev C sc env Γ (.Subscript value slice p) r :=
  fun τ s E h => Subscript_ (wpAny_mono (hv τ s E h) (fun o s₁ h₁ => wpAny_mono (hi _ s₁ E h₁) (fun i s₂ h₂ => by
    obtain ⟨_, t, rfl⟩ := h₂.rep (.head _)
    obtain ⟨g, tk, m, N, rfl, z, a⟩ := h₂
    obtain ⟨l, vs, rfl, hl, hrs⟩ := a.list hO (a.t _ (.tail _ (.head _)))
    obtain ⟨w, hw, hrep⟩ := hrs.get hr
    refine tail_any hl.typeIs slot_list_getitem.lookup (wpAny_getItem_list hl h0 h1 (by simpa using hw) ?_) (hs _ _ _)
    exact ⟨g, tk, m, N, rfl, z, (AtH.tau a fun _ hp => .tail _ (.tail _ hp)).push hrep⟩) fun _ _ e => e) fun _ _ e => e)
theorem Ev.itemNeg {value slice : Expr} {ds : List Dv} {k : Int} {r : Dv} {p : Pos} (hO : Ok C d u) (hv : Ev C sc env Γ value (.lst ds)) (hi : Ev C sc env Γ slice (.int k)) (h0 : k < 0) (h1 : -(ds.length : Int) ≤ k) (h2 : -(2 ^ 63) ≤ k) (hr : ds[(k + ds.length).toNat]? = some r)
    (hs : ∀ l k u, subscripted slice false (.ref l) (.int k u) = operate [.ref l, .int k u] (getItem (.ref l) (.int k u)) := by intro _ _ _; with_unfolding_all rfl) : Ev C sc env Γ (.Subscript value slice p) r :=
  fun τ s E h => Subscript_ (wpAny_mono (hv τ s E h) (fun o s₁ h₁ => wpAny_mono (hi _ s₁ E h₁) (fun i s₂ h₂ => by
    obtain ⟨_, t, rfl⟩ := h₂.rep (.head _)
    obtain ⟨g, tk, m, N, rfl, z, a⟩ := h₂
    obtain ⟨l, vs, rfl, hl, hrs⟩ := a.list hO (a.t _ (.tail _ (.head _)))
    obtain ⟨w, hw, hrep⟩ := hrs.get hr
    have hlen := hrs.length
    refine tail_any hl.typeIs slot_list_getitem.lookup (wpAny_getItem_list_neg hl h0 (by rw [List.size_toArray, hlen]; exact h1) h2 (by rw [List.size_toArray, hlen]; simpa using hw) ?_) (hs _ _ _)
    exact ⟨g, tk, m, N, rfl, z, (AtH.tau a fun _ hp => .tail _ (.tail _ hp)).push hrep⟩) fun _ _ e => e) fun _ _ e => e)
theorem Ev.itemT {value slice : Expr} {ds : List Dv} {k : Nat} {r : Dv} {p : Pos} (hO : Ok C d u) (hv : Ev C sc env Γ value (.tup ds)) (hi : Ev C sc env Γ slice (.int k)) (h1 : (k : Int) < 2 ^ 63) (hr : ds[k]? = some r)
    (hs : ∀ l k u, subscripted slice false (.ref l) (.int k u) = operate [.ref l, .int k u] (getItem (.ref l) (.int k u)) := by intro _ _ _; with_unfolding_all rfl) : Ev C sc env Γ (.Subscript value slice p) r :=
  fun τ s E h => Subscript_ (wpAny_mono (hv τ s E h) (fun o s₁ h₁ => wpAny_mono (hi _ s₁ E h₁) (fun i s₂ h₂ => by
    obtain ⟨_, t, rfl⟩ := h₂.rep (.head _)
    obtain ⟨g, tk, m, N, rfl, z, a⟩ := h₂
    obtain ⟨l, vs, rfl, hl, hrs⟩ := a.tup hO (a.t _ (.tail _ (.head _)))
    obtain ⟨w, hw, hrep⟩ := hrs.get hr
    have hlen := hrs.length
    have hlt : k < ds.length := by
      rcases Nat.lt_or_ge k ds.length with h | h
      · exact h
      · rw [List.getElem?_eq_none h] at hr; cases hr
    refine tail_any hl.typeIs slot_tuple_getitem.lookup (getItem_tuple hl (by omega) h1 (j := k) ?_ (by simpa using hw) ?_) (hs _ _ _)
    · unfold seqIndex?; simp [hlen]; omega
    · exact ⟨g, tk, m, N, rfl, z, (AtH.tau a fun _ hp => .tail _ (.tail _ hp)).push hrep⟩) fun _ _ e => e) fun _ _ e => e)
/-- lists joined -/
theorem Bin.addl {ds es : List Dv} (hO : Ok C d u) (hl : ds.length + es.length ≤ sizeLine) : Bin C sc .Add (.lst ds) (.lst es) (.lst (ds ++ es)) := fun Γ τ v₁ v₂ s E h => by
  obtain ⟨g, tk, m, N, rfl, z, a⟩ := h
  obtain ⟨l2, ws, rfl, hl2, hr2⟩ := a.list hO (a.t _ (.head _))
  obtain ⟨l1, vs, rfl, hl1, hr1⟩ := a.list hO (a.t _ (.tail _ (.head _)))
  refine add_lists a.F a.nw hl1 hl2 (fun h' F' N' => ?_) (by rw [hr1.length, hr2.length]; exact hl)
  have hs : ∀ p ∈ N, p ∈ (g.objs.size, W.listOf (vs ++ ws).toArray 0) :: N := fun _ hp => .tail _ hp
  exact ⟨h', tk, m, _, rfl, z, (AtH.new (AtH.tau a fun _ hp => .tail _ (.tail _ hp)) F' N' fun p hp => Nat.ne_of_lt (Heap.lt_size (a.nw p hp).1)).push ⟨_, _, vs ++ ws, rfl, .inl (.head _), ⟨rfl, _, rfl⟩, Reps.mono (Sec.mono hs) _ _ (hr1.app hr2)⟩⟩
theorem Reps.rep {z : Zw} {O : Addr → Obj → Prop} {d : Dv} {v : Value} (h : Rep z O d v) : ∀ n : Nat, Reps z O (List.replicate n d) (List.replicate n v)
  | 0 => rfl
  | n + 1 => ⟨v, _, rfl, h, Reps.rep h n⟩
theorem flat_rep (v : Value) : ∀ n : Nat, (List.replicate n [v]).flatten = List.replicate n v
  | 0 => rfl
  | n + 1 => by rw [List.replicate_succ, List.flatten_cons, flat_rep v n]; rfl
theorem Bin.mull {e : Dv} {k : Int} (hO : Ok C d u) (h0 : 0 ≤ k) (h1 : k ≤ 256) : Bin C sc .Mult (.lst [e]) (.int k) (.lst (List.replicate k.toNat e)) := fun Γ τ v₁ v₂ s E h => by
  obtain ⟨_, t, rfl⟩ := h.rep (.head _)
  obtain ⟨g, tk, m, N, rfl, z, a⟩ := h
  obtain ⟨l1, vs, rfl, hl1, v, r, rfl, hr, rfl⟩ := a.list hO (a.t _ (.tail _ (.head _)))
  refine KMa.mul a.F a.nw hl1 (by omega) (by omega) (by simp; omega) (flat_rep v _) fun D h' F' N' hlt => ?_
  have hs : ∀ p ∈ N, p ∈ (D, W.listOf (List.replicate k.toNat v).toArray 0) :: N := fun _ hp => .tail _ hp
  exact ⟨h', tk, m, _, rfl, z, (AtH.new (AtH.tau a fun _ hp => .tail _ (.tail _ hp)) F' N' fun p hp => Nat.ne_of_lt (hlt p hp)).push ⟨_, _, List.replicate k.toNat v, rfl, .inl (.head _), ⟨rfl, _, rfl⟩, Reps.rep (Rep.mono (Sec.mono hs) _ _ hr) _⟩⟩
end
end Mine
end PEv9

section PDeed
namespace Mine
noncomputable def mxI (a b c : Int) : Int := max a (max b c)
noncomputable def mnI (a b c : Int) : Int := min a (min b c)
theorem mxI_eq {a b c M : Int} (h2 : a ≤ M ∧ b ≤ M ∧ c ≤ M) (h1 : M = a ∨ M = b ∨ M = c) : M = mxI a b c := by unfold mxI; omega
theorem mnI_eq {a b c M : Int} (h2 : M ≤ a ∧ M ≤ b ∧ M ≤ c) (h1 : M = a ∨ M = b ∨ M = c) : M = mnI a b c := by unfold mnI; omega
noncomputable def deedT (d1 : Int) : Nat := (3 - ((d1 + d1.fmod 2 * 3).fdiv 2).fmod 3).toNat
noncomputable def deedE (d1 d3 both : Int) (row : List Int) : List Int := List.map (fun k => k + d3 * (255 - both)) (row.drop (deedT d1) ++ row.take (deedT d1))
noncomputable def deedR (d1 both : Int) (row : List Int) : List Int := if d1.fmod 2 = 1 then List.map (fun k => both - k) row else row
noncomputable def deedL (d1 d2 d3 a b c : Int) : List Int :=
  deedE d1 d3 (mxI a b c + mnI a b c) (deedR d1 (mxI a b c + mnI a b c) (if d2 = 1 then [a, b, c] else [a, c, b]))
end Mine
end PDeed

section PEv10
open PySem PySem.W PySem.Spec PySem.Calls PyProof.Rows PySem.SeqAt

namespace Mine
theorem rangeOne (its : Array Value) {lo hi : Option Int} {a b : Nat} (e : sliceBounds lo hi none its.size = ((a : Int), (b : Int), 1)) : slicePick its lo hi none = ((its.toList.drop a).take (b - a)).toArray := kmk_pick_nat its e
theorem pick_upto (vs : List Value) {y : Int} (h : 0 ≤ y) : slicePick vs.toArray none (some y) none = (vs.take y.toNat).toArray := by
  have e : sliceBounds none (some y) none vs.toArray.size = (((0 : Nat) : Int), ((min y.toNat vs.length : Nat) : Int), 1) := by
    simp only [sliceBounds, Option.getD_none, show (1 : Int) > 0 by decide, if_true, if_neg (show ¬ (y < 0) by omega), List.size_toArray]
    congr 1
    congr 1
    omega
  rw [rangeOne _ e]
  show ((vs.drop 0).take (min y.toNat vs.length - 0)).toArray = _
  rw [List.drop_zero, Nat.sub_zero, kmk_take_min]
theorem pick_from (vs : List Value) {x : Int} (h : 0 ≤ x) : slicePick vs.toArray (some x) none none = (vs.drop x.toNat).toArray := by
  have e : sliceBounds (some x) none none vs.toArray.size = (((min x.toNat vs.length : Nat) : Int), ((vs.length : Nat) : Int), 1) := by
    simp only [sliceBounds, Option.getD_none, show (1 : Int) > 0 by decide, if_true, if_neg (show ¬ (x < 0) by omega), List.size_toArray]
    congr 1
    omega
  rw [rangeOne _ e]
  show ((vs.drop (min x.toNat vs.length)).take (vs.length - min x.toNat vs.length)).toArray = _
  rw [kmk_drop_min, List.take_of_length_le (by rw [List.length_drop]; omega)]
section
variable {C : Cx} {sc : Scope} {env : Env} {Γ : Gx} {μ : Mu} {d u : Nat}
theorem Ev.upto {value e : Expr} {ds : List Dv} {y : Int} {p q : Pos} (hO : Ok C d u) (hv : Ev C sc env Γ value (.lst ds)) (he : Ev C sc env Γ e (.int y)) (h0 : 0 ≤ y) (hz : ds.length ≤ sizeLine)
    (hs : ∀ l a, subscripted (.Slice none (some e) none q) false (.ref l) (.ref a) = operate [.ref a, .ref l] (getItem (.ref l) (.ref a))) (ht : ∀ l r, letTemporaryGo value (.ref l) r = pure ()) : Ev C sc env Γ (.Subscript value (.Slice none (some e) none q) p) (.lst (ds.take y.toNat)) :=
  fun τ s E h => Subscript_ (wpAny_mono (hv τ s E h) (fun o s₁ h₁ => wpAny_Slice (wpAny_pure (wpAny_mono (he _ s₁ E h₁) (fun i s₂ h₂ => wpAny_pure (by
    obtain ⟨_, t, rfl⟩ := h₂.rep (.head _)
    obtain ⟨g, tk, m, N, rfl, z, a⟩ := h₂
    obtain ⟨l, vs, rfl, hl, hrs⟩ := a.list hO (a.t _ (.tail _ (.head _)))
    refine kmk_slice a.F a.nw hl .none (.int y t) (fun D h' F' N' hlt => ?_) (hs _ _) (ht _) (by rw [List.size_toArray, hrs.length]; exact hz)
    rw [pick_upto vs h0] at N'
    have hsub : ∀ p ∈ N, p ∈ (D, W.listOf (vs.take y.toNat).toArray 0) :: N := fun _ hp => .tail _ hp
    exact ⟨h', tk, m, _, rfl, z, (AtH.new (AtH.tau a fun _ hp => .tail _ (.tail _ hp)) F' N' fun p hp => Nat.ne_of_lt (hlt p hp)).push ⟨_, _, _, rfl, .inl (.head _), ⟨rfl, _, rfl⟩, Reps.take _ (Reps.mono (Sec.mono hsub) _ _ hrs)⟩⟩)) fun _ _ e => e))) fun _ _ e => e)
theorem Ev.from {value e : Expr} {ds : List Dv} {y : Int} {p q : Pos} (hO : Ok C d u) (hv : Ev C sc env Γ value (.lst ds)) (he : Ev C sc env Γ e (.int y)) (h0 : 0 ≤ y) (hz : ds.length ≤ sizeLine)
    (hs : ∀ l a, subscripted (.Slice (some e) none none q) false (.ref l) (.ref a) = operate [.ref a, .ref l] (getItem (.ref l) (.ref a))) (ht : ∀ l r, letTemporaryGo value (.ref l) r = pure ()) : Ev C sc env Γ (.Subscript value (.Slice (some e) none none q) p) (.lst (ds.drop y.toNat)) :=
  fun τ s E h => Subscript_ (wpAny_mono (hv τ s E h) (fun o s₁ h₁ => wpAny_Slice (wpAny_mono (he _ s₁ E h₁) (fun i s₂ h₂ => wpAny_pure (wpAny_pure (by
    obtain ⟨_, t, rfl⟩ := h₂.rep (.head _)
    obtain ⟨g, tk, m, N, rfl, z, a⟩ := h₂
    obtain ⟨l, vs, rfl, hl, hrs⟩ := a.list hO (a.t _ (.tail _ (.head _)))
    refine kmk_slice a.F a.nw hl (.int y t) .none (fun D h' F' N' hlt => ?_) (hs _ _) (ht _) (by rw [List.size_toArray, hrs.length]; exact hz)
    rw [pick_from vs h0] at N'
    have hsub : ∀ p ∈ N, p ∈ (D, W.listOf (vs.drop y.toNat).toArray 0) :: N := fun _ hp => .tail _ hp
    exact ⟨h', tk, m, _, rfl, z, (AtH.new (AtH.tau a fun _ hp => .tail _ (.tail _ hp)) F' N' fun p hp => Nat.ne_of_lt (hlt p hp)).push ⟨_, _, _, rfl, .inl (.head _), ⟨rfl, _, rfl⟩, Reps.drop _ (Reps.mono (Sec.mono hsub) _ _ hrs)⟩⟩))) fun _ _ e => e)) fun _ _ e => e)
/-- texts -/
theorem Ev.sls {value a b : Expr} {x : Str} {i j : Int} {p q : Pos} (hz : C.z.b = false) (hv : Ev C sc env Γ value (.str x)) (ha : Ev C sc env Γ a (.int i)) (hb : Ev C sc env Γ b (.int j)) (hl : x.length ≤ sizeLine)
    (hs : ∀ x t l, subscripted (.Slice (some a) (some b) none q) false (.str x t) (.ref l) = operate [.ref l, .str x t] (getItem (.str x t) (.ref l))) (ht : ∀ x t r, letTemporaryGo value (.str x t) r = pure ()) : Ev C sc env Γ (.Subscript value (.Slice (some a) (some b) none q) p) (.str (Txt.slice x (some i) (some j))) :=
  fun τ s E h => Subscript_ (wpAny_mono (hv τ s E h) (fun o s₁ h₁ => wpAny_Slice (wpAny_mono (ha _ s₁ E h₁) (fun v₁ s₂ h₂ => wpAny_mono (hb _ s₂ E h₂) (fun v₂ s₃ h₃ => wpAny_pure (by
    obtain ⟨_, t3, rfl⟩ := h₃.rep (.head _)
    obtain ⟨_, t2, rfl⟩ := h₃.rep (.tail _ (.head _))
    obtain ⟨_, t1, rfl⟩ := h₃.rep (.tail _ (.tail _ (.head _)))
    obtain ⟨g, tk, m, N, rfl, z, a⟩ := h₃
    exact slice_strN_ss_len a.F a.nw (fun h' t' k F' N' _ => ⟨h', k, m, N, rfl, zt_no hz, ((AtH.tau a fun _ hp => .tail _ (.tail _ (.tail _ hp))).to F' N').push ⟨_, rfl⟩⟩) (hs _ _ _) (ht _ _) hl)) fun _ _ e => e) fun _ _ e => e)) fun _ _ e => e)
theorem Ev.sitem {value slice : Expr} {x : Str} {i : Int} {p : Pos} (hv : Ev C sc env Γ value (.str x)) (hi : Ev C sc env Γ slice (.int i)) (h0 : 0 ≤ i) (h1 : i < x.length) (h2 : x.length < 2 ^ 63)
    (hs : ∀ x t i u, subscripted slice false (.str x t) (.int i u) = operate [.str x t, .int i u] (getItem (.str x t) (.int i u))) (ht : ∀ x t r, letTemporaryGo value (.str x t) r = pure ()) : Ev C sc env Γ (.Subscript value slice p) (.str (Txt.item x i)) :=
  fun τ s E h => Subscript_ (wpAny_mono (hv τ s E h) (fun o s₁ h₁ => wpAny_mono (hi _ s₁ E h₁) (fun i s₂ h₂ => by
    obtain ⟨_, t2, rfl⟩ := h₂.rep (.head _)
    obtain ⟨_, t1, rfl⟩ := h₂.rep (.tail _ (.head _))
    exact item_str (by unfold fitsSsize; simp; omega) (by omega) h1 (fun _ => h₂.pop2.toks _) (hs _ _ _ _) (ht _ _)) fun _ _ e => e) fun _ _ e => e)
set_option maxRecDepth 100000 in
theorem Ev.index {o e : Expr} {x y : Str} {ap p : Pos} {pl : Sem Bool} (ho : Ev C sc env Γ o (.str x)) (he : Ev C sc env Γ e (.str y)) (h0 : 0 ≤ Txt.find x y)
    (hc : eval (.Call (.Attribute o "index" ap) [e] [] p) env = (do
      let ov ← eval o env
      standAt ap.atName
      let (f, first) ← holding [ov] (getMethod ov "index" pl)
      callWith p f first (backTo p (starEach [e] env)) []))
    (hs : starEach [e] env = [(false, eval e env)]) : Ev C sc env Γ (.Call (.Attribute o "index" ap) [e] [] p) (.int (Txt.find x y)) :=
  fun τ s E h => MethodCall_ (wpAny_mono (ho τ s E h) (fun v s₁ h₁ => by
    obtain ⟨_, t1, rfl⟩ := h₁.rep (.head _)
    refine GM.index ?_
    refine callWith_method1 (wpAny_mono ((Evs.cons he Evs.nil hs) p τ s₁ E h₁.pop1) (fun vs s₂ h₂ => ?_) fun _ _ e => e) hs rfl
    obtain ⟨g, tk, m, N, rfl, z, a, v, r, rfl, ⟨t2, rfl⟩, rfl⟩ := h₂
    exact index_or rfl (fun e => absurd e (by omega)) fun _ _ => ⟨g, tk + 1, m, N, rfl, zt_of (Nat.succ_ne_zero _), a.push ⟨_, rfl⟩⟩) fun _ _ e => e) hc
-- calls
theorem callLen {ds : List Dv} (hO : Ok C d u) (hl : ds.length < 2 ^ 63) : CallV C sc (.builtin "len") [.lst ds] (.int ds.length) := by
  rintro Γ τ vs s E ⟨g, tk, m, N, rfl, z, a, v, r, rfl, hr, rfl⟩
  obtain ⟨l, vs, rfl, hl', hrs⟩ := a.list hO hr
  have e : vs.toArray.size = ds.length := by rw [List.size_toArray, hrs.length]
  refine Calls.call_len_list hl' (by rw [e]; omega) ?_
  rw [e]
  exact ⟨g, tk + 1 + 1, m, N, rfl, zt_of (Nat.succ_ne_zero _), a.push ⟨_, rfl⟩⟩
theorem callLenS {x : Str} (hl : x.length < 2 ^ 63) : CallV C sc (.builtin "len") [.str x] (.int x.length) := by
  rintro Γ τ vs s E ⟨g, tk, m, N, rfl, z, a, v, r, rfl, ⟨t, rfl⟩, rfl⟩
  refine PyProof.Rows.len_str (by omega) ?_
  exact ⟨g, tk + 1 + 1, m, N, rfl, zt_of (Nat.succ_ne_zero _), a.push ⟨_, rfl⟩⟩
theorem callSum {ns : List Int} (hO : Ok C d u) (hz : C.z.b = false) : CallV C sc (.builtin "sum") [dints ns] (.int ns.sum) := by
  rintro Γ τ vs s E ⟨g, tk, m, N, rfl, z, a, v, r, rfl, hr, rfl⟩
  obtain ⟨l, vs, rfl, hl', hrs⟩ := a.list hO hr
  exact PyProof.Rows.LSm.sum_ints a.F a.nw rfl hl' hrs.ints fun h' tk' t' F' N' => ⟨h', tk', m, N, rfl, zt_no hz, (a.to F' N').push ⟨_, rfl⟩⟩
theorem callMaxL {a b c : Int} (hO : Ok C d u) (hz : C.z.b = false) : CallV C sc (.builtin "max") [.lst [.int a, .int b, .int c]] (.int (mxI a b c)) := by
  rintro Γ τ vs s E ⟨g, tk, m, N, rfl, z, at', v, r, rfl, hr, rfl⟩
  obtain ⟨l, vs, rfl, hl', hrs⟩ := at'.list hO hr
  refine kso_max at'.F at'.nw hl' (Reps.ints (ns := [a, b, c]) hrs) (Nat.succ_pos _) rfl fun h' M t tk' F' N' h1 h2 => ?_
  have e : M = mxI a b c := mxI_eq ⟨h2 a (by simp), h2 b (by simp), h2 c (by simp)⟩ (by simpa using h1)
  subst e
  exact ⟨h', tk', m, N, rfl, zt_no hz, (at'.to F' N').push ⟨_, rfl⟩⟩
theorem callMinL {a b c : Int} (hO : Ok C d u) (hz : C.z.b = false) : CallV C sc (.builtin "min") [.lst [.int a, .int b, .int c]] (.int (mnI a b c)) := by
  rintro Γ τ vs s E ⟨g, tk, m, N, rfl, z, at', v, r, rfl, hr, rfl⟩
  obtain ⟨l, vs, rfl, hl', hrs⟩ := at'.list hO hr
  refine kso_min at'.F at'.nw hl' (Reps.ints (ns := [a, b, c]) hrs) (Nat.succ_pos _) rfl fun h' M t tk' F' N' h1 h2 => ?_
  have e : M = mnI a b c := mnI_eq ⟨h2 a (by simp), h2 b (by simp), h2 c (by simp)⟩ (by simpa using h1)
  subst e
  exact ⟨h', tk', m, N, rfl, zt_no hz, (at'.to F' N').push ⟨_, rfl⟩⟩
theorem callList {ds : List Dv} (hO : Ok C d u) (hl : ds.length ≤ sizeLine) : CallV C sc (.type "list") [.tup ds] (.lst ds) := by
  rintro Γ τ vs s E ⟨g, tk, m, N, rfl, z, a, v, r, rfl, hr, rfl⟩
  obtain ⟨l, vs, rfl, hl', hrs⟩ := a.tup hO hr
  refine list_copyKT a.F a.nw hl' (fun D c h' F' N' hlt => ?_) (by rw [List.size_toArray, hrs.length]; exact hl)
  have hs : ∀ p ∈ N, p ∈ (D, W.listOf vs.toArray c) :: N := fun _ hp => .tail _ hp
  exact ⟨h', tk, m, _, rfl, z, (AtH.new a F' N' fun p hp => Nat.ne_of_lt (hlt p hp)).push ⟨_, _, vs, rfl, .inl (.head _), ⟨rfl, _, rfl⟩, Reps.mono (Sec.mono hs) _ _ hrs⟩⟩
end
end Mine
end PEv10

section PEv11
open PySem PySem.W PySem.Spec PySem.Calls PyProof.Rows PySem.SeqAt

namespace Mine
section
variable {C : Cx} {sc : Scope} {env : Env} {Γ : Gx} {μ : Mu} {d u : Nat} {z : Zw}
/-- a comprehension over a list, with a test, put under a name of the frame -/
theorem X1.assignT {elt iter ct : Expr} {x y : Str} {px py pos sp : Pos} {scope : Scope} {ds : List Dv} {f : Dv → Dv} {b : Dv → Bool} (cl : Addr → List (Str × Addr)) (hz0 : z.b = false) (hit : EvF z d u sc μ iter (.lst ds)) (hl : ds.length ≤ sizeLine)
    (hT : ∀ C : Cx, C.z = z → Ok C d u → ∀ dv ∈ ds, ElT C sc (C.env sc) (Loc C sc μ) scope (cl C.L) x ct dv (b dv)) (hE : ∀ C : Cx, C.z = z → Ok C d u → ∀ dv ∈ ds, b dv = true → ElE C sc (C.env sc) (Loc C sc μ) scope (cl C.L) x elt dv (f dv))
    (hsw : ∀ C : Cx, swapsWith (.ListComp elt [⟨.Name x px, iter, [ct], 0⟩] scope pos) (some (.Name y py)) sp.line (C.env sc) = pure true)
    (hclos : ∀ C : Cx, closureFor scope (C.env sc) = pure (cl C.L)) (hcell : ∀ z ∈ scope.names, z.2 ≠ .cell) (hkind : scope.kind = .function)
    (hnames : ∀ z ∈ scope.names, z.2 = .local → scope.names.lookup z.1 = some .local) (hx : scope.names.lookup x = some .local) (hy : isLoc sc y = true) (hk : sc.kind = .function) (hs : ∀ (C : Cx) v, foldedSetIterable iter (C.env sc) v = pure v) :
    X1 z d u sc μ (.Assign [.Name y py] (.ListComp elt [⟨.Name x px, iter, [ct], 0⟩] scope pos) sp) (.nx ((y, .lst ((ds.filter b).map f)) :: μ)) := fun C τ s E hz hO hX ha => by
  have hz' : C.z.b = false := by rw [hz]; exact hz0
  obtain ⟨Z, hZ, ha⟩ := ha
  rw [exec_Assign_Name_used _ _ _ _ (hsw C)]
  refine wpAny_bind (wpAny_standAt (wpAny_bind ?_))
  show wpAny _ _ (do let _ ← comprehension (.ListComp elt [⟨.Name x px, iter, [ct], 0⟩] scope pos) scope (C.env sc) _ (newList []) false (eval iter (C.env sc)) (some (PySem.assign (.Name y py) (C.env sc)))) _ _ s
  refine wpAny_bind (wpAny_mono (wpAny_comprehension_free (use := some (PySem.assign (.Name y py) (C.env sc))) (Q := fun _ s' => Post C sc τ (.nx ((y, .lst ((ds.filter b).map f)) :: μ)) .next s') rfl (hs C) (hclos C) hkind hnames
    (wpAny_mono (hit (C.on (Z ++ C.X)) hz (hO.on _) τ s E ha) (fun xv s₁ h₁ => ?_) fun _ _ e => e)) (fun _ s' hq => wpAny_pure (wpAny_pure hq)) fun _ _ e => e)
  obtain ⟨hp, tk, m, N, rfl, _, a⟩ := h₁
  obtain ⟨ax, ol, vs, rfl, ho, hc, hr⟩ := a.t _ (.head _)
  have hv : ∀ N', (∀ p ∈ N, p ∈ N') → Reps C.z (Sec C.ob N') ds vs := fun N' h => Reps.mono (Sec.mono h) _ _ hr
  have hS := src_at (C := C.on (Z ++ C.X)) hO.ob ho hc
  have hll : hp.IsList ax vs.toArray := (hS N fun _ h => h).list a.F.keep a.nw
  have hlt : ax < hp.objs.size := by obtain ⟨_, e, _⟩ := hll; exact Heap.lt_size e
  have hlen := hr.length
  refine wpAny_pyIter_list hll ?_
  have up : ∀ b o, hp.get? b = some o → (hp.push { cls := .type "list_iterator", data := .fields #[.ref ax, .int 0 0] }).get? b = some o := fun b o e => Heap.get?_push_of_some _ e
  have M0 : Mid (C.on (Z ++ C.X)) (Loc (C.on (Z ++ C.X)) sc μ) τ m N (((ds.take 0).filter b).map f) [] (Z ++ C.X ++ N) := ⟨N, rfl, a.dj, a.g, fun p hp => a.t p (.tail _ hp), a.fl, fun _ h => h, rfl⟩
  have F₀ : Fr C.h₀ C.L hp m := a.F
  have nw : News C.h₀ C.L hp (Z ++ C.X ++ N) := a.nw
  refine LCt.block_T (S := LCg.SrcAt C.h₀ ax vs.toArray) (Walks.list rfl hp.objs.size ax (Nat.ne_of_lt hlt) vs.toArray) (by simp; omega) (fun i h st => by obtain ⟨o, e, _⟩ := st.1; exact ⟨o, e⟩) LCg.list_st hcell hkind hx ⟨⟨_, Heap.get?_push_size _ rfl, rfl, rfl⟩, hll.push _⟩ (fun b hb => ?_)
    (F₀.keeps up) (nw.grown up) (Nat.ne_of_lt F₀.ns.lt) (next_is_new F₀) (fun p hp => Nat.ne_of_lt (Heap.lt_size (nw p hp).1)) (hS N fun _ h => h) (comp_turnsT (C := C.on (Z ++ C.X)) rfl hv hS (hT (C.on (Z ++ C.X)) hz (hO.on _)) (hE (C.on (Z ++ C.X)) hz (hO.on _)) _ 0 [] _ (by simp; omega) M0) ?_
  · show b < (hp.push _).objs.size
    rw [Heap.size_push]
    rcases List.mem_cons.mp hb with rfl | hb
    · exact Nat.lt_succ_self _
    · rw [List.mem_singleton.mp hb]; exact Nat.lt_succ_of_lt hlt
  · intro D Ca h tk m' ys news' F' N' o1 hn hC₀ hD₀ hCL hDL hCD offC fin
    show wpAny _ _ (PySem.assign (.Name y py) (C.env sc) (.ref D)) _ _ _
    have F2' : Fr C.h₀ C.L h m := F'
    refine wpAny_assign_Name (wpAny_storeName_local (isLoc_kind hy) F2'.ns (fun h₂ hn₂ hs₂ => ?_) (by show (sc.kind == .class || (sc.kind == .module && _)) = false; rw [hk]; rfl))
    have hL₀ : C.h₀.get? C.L = none := Heap.get?_none_of_le F2'.above
    have F₂ : Fr C.h₀ C.L h₂ (fun z => if z = y then some (.ref D) else m z) := ⟨hn₂, fun b o e => hs₂.extBut b o (fun q => by rw [q] at e; rw [show C.h₀.get? C.L = some o from e] at hL₀; cases hL₀) (F2'.keep b o e), F2'.above⟩
    refine ⟨m', hn.sameBut hs₂ hCL, fun h'' hs'' => ?_⟩
    have F₃ : Fr C.h₀ C.L h'' (fun z => if z = y then some (.ref D) else m z) := F₂.change hs'' hCL hC₀
    have N₃ : News C.h₀ C.L h'' ((D, LCg.lst ys) :: news') := fun p hp => by
      have z : h₂.get? p.1 = some p.2 := hs₂.extBut _ _ (N' p hp).2.1 (N' p hp).1
      refine ⟨hs''.extBut _ _ ?_ z, (N' p hp).2⟩
      rcases List.mem_cons.mp hp with rfl | hp
      · exact Ne.symm hCD
      · exact offC p hp
    obtain ⟨N₁, rfl, dj, g, t, fl, k, r⟩ := fin
    have hsub : ∀ p ∈ N₁, p ∈ (D, LCg.lst ys) :: N₁ := fun _ hp => .tail _ hp
    have ho1 := off1_mem o1
    refine ⟨rfl, Z, hZ, h'', _, _, (D, LCg.lst ys) :: N₁, rfl, zt_no hz', F₃, fun p hp => N₃ p ?_, List.forall_mem_cons.mpr ⟨fun q hq => (ho1 q (List.mem_append_left _ hq)).symm, dj⟩, ⟨g.cells, fun w e he => ?_⟩, fun p hp => Rep.mono (Sec.mono hsub) _ _ (t p hp), fun p hp => hsub p (fl p hp)⟩
    · rcases List.mem_append.mp hp with hp | hp
      · exact .tail _ (List.mem_append_left _ hp)
      · rcases List.mem_cons.mp hp with rfl | hp
        · exact .head _
        · exact .tail _ (List.mem_append_right _ hp)
    · rw [lookup_cons_eq] at he
      split at he
      · rename_i hy'; subst hy'; cases he
        exact ⟨.ref D, ⟨D, _, ys, rfl, .inl (.head _), ⟨rfl, _, rfl⟩, Reps.mono (Sec.mono hsub) _ _ r⟩, (Lies.non (isLoc_cl (C := C) hy)).mpr (if_pos rfl)⟩
      · rename_i hy'
        obtain ⟨v, b1, b2⟩ := g.facts w e he
        refine ⟨v, Rep.mono (Sec.mono hsub) _ _ b1, ?_⟩
        cases hl : (C.cl sc).lookup w with
        | none => exact (Lies.non (cl := C.cl sc) hl).mpr ((if_neg hy').trans ((Lies.non (cl := C.cl sc) hl).mp b2))
        | some c => exact (Lies.som (cl := C.cl sc) hl).mpr ((Lies.som (cl := C.cl sc) hl).mp b2)
end
end Mine
end PEv11

section PGrow
open PySem PySem.W PySem.Spec PySem.Calls PyProof.Rows

namespace Mine
section
variable {prog : Program} {w : World} {A : Around} {E : Value → Shared → Prop} {s : Shared} {env : Env} {h₀ : Heap} {x : Str} {body : List Stmt} {Q : Flow → Shared → Prop}
end
end Mine
end PGrow

section PRunD
open PySem PySem.W PySem.Spec PySem.Calls PyProof.Rows

namespace Mine
noncomputable abbrev Col := Int × Int × Int
noncomputable def InR (c : Col) : Prop := (0 ≤ c.1 ∧ c.1 < 256) ∧ (0 ≤ c.2.1 ∧ c.2.1 < 256) ∧ (0 ≤ c.2.2 ∧ c.2.2 < 256)
noncomputable def filtC (k : Int) (c : Col) : Col := rnd3 (filtRGB k (oF c.1) (oF c.2.1) (oF c.2.2))
noncomputable def stepC (R : Int → Col → Col) (c : Col) (n : Int) : Col := if n < 256 then filtC (n - 7) c else R (n - 256) c
end Mine
end PRunD

section PRunE
open PySem PySem.W PySem.Spec PySem.Calls PyProof.Rows PySem.SeqAt

namespace Mine
section
variable {prog : Program} {w : World} {A : Around} {E : Value → Shared → Prop} {s : Shared} {h₀ : Heap} {L : Addr} {news : List (Addr × Obj)} {l1 l2 : Addr} {Q : Value → Shared → Prop} {c1 c2 : Nat}
end
end Mine
end PRunE

section PReadD
open PySem PySem.W PySem.Spec PySem.Calls PyProof.Rows PySem.SeqAt

namespace Mine
noncomputable def slk (T : Str) (D : List (PyData × PyData)) (p k : Int) : Bool := (Spec.lookup (PyData.str (Txt.slice T (some p) (some (p + k)))) D).isSome
noncomputable def szI (b1 b2 b3 : Bool) : List Int := (if b1 then [1] else []) ++ (if b2 then [2] else []) ++ (if b3 then [3] else [])
noncomputable def best (b1 b2 b3 : Bool) : Int := if b3 then 3 else if b2 then 2 else if b1 then 1 else 0
theorem szI_none {b1 b2 b3 : Bool} : szI b1 b2 b3 = [] ↔ b1 = false ∧ b2 = false ∧ b3 = false := by cases b1 <;> cases b2 <;> cases b3 <;> decide
section
variable {prog : Program} {w : World} {A : Around} {E : Value → Shared → Prop} {s : Shared} {h₀ : Heap} {L : Addr} {news : List (Addr × Obj)} {l1 l2 : Addr} {Q : Value → Shared → Prop} {c1 c2 : Nat} {ys : List Value} {ns : List Int}
end
end Mine
namespace Mine
open PySem PySem.W PySem.Spec PySem.Calls PyProof.Rows PySem.SeqAt
noncomputable def look (D : List (PyData × PyData)) (x : Str) : Int := match Spec.lookup (PyData.str x) D with | some (.int i) => i | _ => 0
noncomputable def IntVals (D : List (PyData × PyData)) : Prop := ∀ k v, Spec.lookup k D = some v → ∃ i, v = .int i
theorem item_look {prog : Program} {w : World} {A : Around} {E : Value → Shared → Prop} {s : Shared} {d : Addr} {D : List (PyData × PyData)} {value slice : PySem.Expr} {x : Str} {t : Tok} {Q : Value → Shared → Prop} (T : StrTab prog w s.heap d D) (hD : IntVals D)
    (hl : (Spec.lookup (PyData.str x) D).isSome = true) (h : ∀ u, Q (.int (look D x) u) { s with toks := s.toks + 1 })
    (hs : subscripted slice false (.ref d) (.str x t) = operate [.ref d, .str x t] (getItem (.ref d) (.str x t)) := by with_unfolding_all rfl) (hg : ∀ r, letTemporaryGo value (.ref d) r = pure () := by intro _; with_unfolding_all rfl) :
    wpAny (model prog w) A (subscriptTail value slice (.ref d) (.str x t)) Q E s := by
  obtain ⟨dv, hdv⟩ := Option.isSome_iff_exists.mp hl
  obtain ⟨i, rfl⟩ := hD _ _ hdv
  refine item_strTab T hdv (fun v hv => ?_) hs hg
  obtain ⟨u, rfl⟩ := PyProof.V.Flat.int_inv hv
  have e : look D x = i := by unfold look; rw [hdv]
  rw [← e]; exact h u
end Mine
namespace Mine
open PySem PySem.W PySem.Spec PySem.Calls PyProof.Rows PySem.SeqAt
noncomputable def readI (T : Str) (D : List (PyData × PyData)) (calls : Int) : Nat → Int → List Int
  | 0, _ => []
  | f + 1, p => if p < (T.length : Int) then
      (if szI (slk T D p 1) (slk T D p 2) (slk T D p 3) = [] then (calls + Txt.find (Str.ofString "ab") (Txt.item T p)) :: readI T D calls f (p + 1)
        else look D (Txt.slice T (some p) (some (p + best (slk T D p 1) (slk T D p 2) (slk T D p 3)))) :: readI T D calls f (p + best (slk T D p 1) (slk T D p 2) (slk T D p 3))) else []
theorem readI_end {T : Str} {D : List (PyData × PyData)} {calls : Int} : ∀ (f : Nat) {p : Int}, ¬ p < (T.length : Int) → readI T D calls f p = []
  | 0, _, _ => rfl
  | f + 1, p, h => by unfold readI; rw [if_neg h]
theorem readI_none {T : Str} {D : List (PyData × PyData)} {calls : Int} {f : Nat} {p : Int} (h : p < (T.length : Int)) (h2 : szI (slk T D p 1) (slk T D p 2) (slk T D p 3) = []) :
    readI T D calls (f + 1) p = (calls + Txt.find (Str.ofString "ab") (Txt.item T p)) :: readI T D calls f (p + 1) := by
  rw [readI, if_pos h, if_pos h2]
theorem readI_some {T : Str} {D : List (PyData × PyData)} {calls : Int} {f : Nat} {p : Int} (h : p < (T.length : Int)) (h2 : szI (slk T D p 1) (slk T D p 2) (slk T D p 3) ≠ []) :
    readI T D calls (f + 1) p = look D (Txt.slice T (some p) (some (p + best (slk T D p 1) (slk T D p 2) (slk T D p 3)))) :: readI T D calls f (p + best (slk T D p 1) (slk T D p 2) (slk T D p 3)) := by
  rw [readI, if_pos h, if_neg h2]
theorem slk_best {T : Str} {D : List (PyData × PyData)} {p : Int} (h : szI (slk T D p 1) (slk T D p 2) (slk T D p 3) ≠ []) : slk T D p (best (slk T D p 1) (slk T D p 2) (slk T D p 3)) = true := by
  revert h
  cases h1 : slk T D p 1 <;> cases h2 : slk T D p 2 <;> cases h3 : slk T D p 3 <;> simp [szI, best, h1, h2, h3]
theorem best_pos {b1 b2 b3 : Bool} (h : szI b1 b2 b3 ≠ []) : 1 ≤ best b1 b2 b3 ∧ best b1 b2 b3 ≤ 3 := by revert h; cases b1 <;> cases b2 <;> cases b3 <;> decide
end Mine
end PReadD

section PEv12
open PySem PySem.W PySem.Spec PySem.Calls PyProof.Rows PySem.SeqAt

namespace Mine
section
variable {C : Cx} {sc : Scope} {env : Env} {Γ : Gx} {μ : Mu} {d u : Nat}
-- comparisons of lists
theorem Cmp.eqL {ns ms : List Int} (hO : Ok C d u) (hu : 64 ≤ u) : Cmp C sc .Eq (dints ns) (dints ms) (decide (ns = ms)) := fun Γ τ v₁ v₂ s E h => by
  obtain ⟨g, tk, m, N, rfl, z, a⟩ := h
  obtain ⟨l2, ws, rfl, hl2, hr2⟩ := a.list hO (a.t _ (.head _))
  obtain ⟨l1, vs, rfl, hl1, hr1⟩ := a.list hO (a.t _ (.tail _ (.head _)))
  exact eq_intsK hl1 hr1.ints hl2 hr2.ints (by have := hO.un; show C.un + 64 < cLine; omega) ⟨rfl, g, tk, m, N, rfl, z, AtH.tau a fun _ hp => .tail _ (.tail _ hp)⟩
theorem Cmp.neL {ns ms : List Int} (hO : Ok C d u) (hu : 64 ≤ u) : Cmp C sc .NotEq (dints ns) (dints ms) (!decide (ns = ms)) := fun Γ τ v₁ v₂ s E h => by
  obtain ⟨g, tk, m, N, rfl, z, a⟩ := h
  obtain ⟨l2, ws, rfl, hl2, hr2⟩ := a.list hO (a.t _ (.head _))
  obtain ⟨l1, vs, rfl, hl1, hr1⟩ := a.list hO (a.t _ (.tail _ (.head _)))
  exact ne_intsK hl1 hr1.ints hl2 hr2.ints (by have := hO.un; show C.un + 64 < cLine; omega) ⟨rfl, g, tk, m, N, rfl, z, AtH.tau a fun _ hp => .tail _ (.tail _ hp)⟩
theorem neLW {ns ms : List Int} (hO : Ok C d u) (hu : 64 ≤ u) {τ : List (Dv × Value)} {v₁ v₂ : Value} {s : Shared} {E : Value → Shared → Prop} (h : AtW C Γ ((dints ms, v₂) :: (dints ns, v₁) :: τ) s) :
    wpAny C.M (C.A sc) (compareOp .NotEq v₁ v₂) (fun v s' => v = .bool (!decide (ns = ms)) ∧ AtW C Γ τ s') E s := by
  obtain ⟨g, tk, m, N, rfl, a⟩ := h
  obtain ⟨l2, ws, rfl, hl2, hr2⟩ := a.list hO (a.t _ (.head _))
  obtain ⟨l1, vs, rfl, hl1, hr1⟩ := a.list hO (a.t _ (.tail _ (.head _)))
  exact ne_intsK hl1 hr1.ints hl2 hr2.ints (by have := hO.un; show C.un + 64 < cLine; omega) ⟨rfl, g, tk, m, N, rfl, AtH.tau a fun _ hp => .tail _ (.tail _ hp)⟩
theorem Reps.b3 {z : Zw} {O : Addr → Obj → Prop} {b1 b2 b3 : Bool} {vs : List Value} (h : Reps z O [.bol b1, .bol b2, .bol b3] vs) : vs = [.bool b1, .bool b2, .bool b3] := by
  obtain ⟨_, _, rfl, rfl, _, _, rfl, rfl, _, _, rfl, rfl, rfl⟩ := h; rfl
theorem reads3 {h : Heap} {l : Addr} {b1 b2 b3 : Bool} (hl : h.IsList l (List.toArray [.bool b1, .bool b2, .bool b3])) : Reads h (.ref l) (.list [.bool b1, .bool b2, .bool b3]) [l] :=
  let ⟨_, ho, hc, _, hd⟩ := hl; Reads.list (as := []) ho hc hd (ReadsAll.cons (.bool _) (ReadsAll.cons (.bool _) (ReadsAll.cons (.bool _) .nil)))
theorem Cmp.neB {b1 b2 b3 : Bool} (hO : Ok C d u) (hu : 64 ≤ u) : Cmp C sc .NotEq (.lst [.bol b1, .bol b2, .bol b3]) (.lst [.bol b1, .bol b2, .bol b3]) false := fun Γ τ v₁ v₂ s E h => by
  obtain ⟨g, tk, m, N, rfl, z, a⟩ := h
  obtain ⟨l2, ws, rfl, hl2, hr2⟩ := a.list hO (a.t _ (.head _))
  obtain ⟨l1, vs, rfl, hl1, hr1⟩ := a.list hO (a.t _ (.tail _ (.head _)))
  rw [hr2.b3] at hl2; rw [hr1.b3] at hl1
  have hfin := (⟨g, tk, m, N, rfl, z, AtH.tau a fun _ hp => .tail _ (.tail _ hp)⟩ : At C Γ τ { C.s0 with heap := g, toks := tk })
  refine ne_dataH_same (reads3 hl1) (reads3 hl2) ?_ ?_ (by have := hO.un; show C.un + 64 < cLine; omega) ?_ ?_
  · cases b1 <;> cases b2 <;> cases b3 <;> decide
  · cases b1 <;> cases b2 <;> cases b3 <;> decide
  · cases b1 <;> cases b2 <;> cases b3 <;> decide
  · cases b1 <;> cases b2 <;> cases b3 <;> exact ⟨rfl, hfin⟩
theorem Cmp.eqB {b1 b2 b3 : Bool} (hO : Ok C d u) (hu : 64 ≤ u) : Cmp C sc .Eq (.lst [.bol b1, .bol b2, .bol b3]) (.lst [.bol b1, .bol b2, .bol b3]) true := fun Γ τ v₁ v₂ s E h => by
  obtain ⟨g, tk, m, N, rfl, z, a⟩ := h
  obtain ⟨l2, ws, rfl, hl2, hr2⟩ := a.list hO (a.t _ (.head _))
  obtain ⟨l1, vs, rfl, hl1, hr1⟩ := a.list hO (a.t _ (.tail _ (.head _)))
  rw [hr2.b3] at hl2; rw [hr1.b3] at hl1
  have hfin := (⟨g, tk, m, N, rfl, z, AtH.tau a fun _ hp => .tail _ (.tail _ hp)⟩ : At C Γ τ { C.s0 with heap := g, toks := tk })
  refine eq_dataH_same (reads3 hl1) (reads3 hl2) ?_ ?_ (by have := hO.un; show C.un + 64 < cLine; omega) ?_ ?_
  · cases b1 <;> cases b2 <;> cases b3 <;> decide
  · cases b1 <;> cases b2 <;> cases b3 <;> decide
  · cases b1 <;> cases b2 <;> cases b3 <;> decide
  · cases b1 <;> cases b2 <;> cases b3 <;> exact ⟨rfl, hfin⟩
/-- lists of other lengths -/
theorem Cmp.eqLen {ds es : List Dv} (hO : Ok C d u) (hne : ds.length ≠ es.length) (hu : 64 ≤ u) : Cmp C sc .Eq (.lst ds) (.lst es) false := fun Γ τ v₁ v₂ s E h => by
  obtain ⟨g, tk, m, N, rfl, z, a⟩ := h
  obtain ⟨l2, ws, rfl, hl2, hr2⟩ := a.list hO (a.t _ (.head _))
  obtain ⟨l1, vs, rfl, hl1, hr1⟩ := a.list hO (a.t _ (.tail _ (.head _)))
  exact eq_list_lengthsAt hl1 hl2 (by simp [hr1.length, hr2.length, hne]) (by have := hO.un; show C.un < cLine; omega) ⟨rfl, g, tk, m, N, rfl, z, AtH.tau a fun _ hp => .tail _ (.tail _ hp)⟩
/-- floats, each at its own mark -/
theorem Reps.f3 {z : Zw} {O : Addr → Obj → Prop} (hz : z.b = true) {x y w : UInt64} {vs : List Value} (h : Reps z O [.flt x, .flt y, .flt w] vs) : ∃ t1 t2 t3 : Tok, t1 ≠ 0 ∧ t2 ≠ 0 ∧ t3 ≠ 0 ∧ vs = [.float x t1, .float y t2, .float w t3] := by
  obtain ⟨_, _, rfl, ⟨t1, h1, rfl⟩, _, _, rfl, ⟨t2, h2, rfl⟩, _, _, rfl, ⟨t3, h3, rfl⟩, rfl⟩ := h
  exact ⟨t1, t2, t3, h1 hz, h2 hz, h3 hz, rfl⟩
theorem Cmp.eqF {x y w : UInt64} {c : Value} {dd : Option Addr} {n : Nat} {sl : Array (Option Value)} (hO : Ok C d u) (hz : C.z.b = true) (ho : List.lookup 2 (Mine.K C.w.params) = some ⟨c, dd, .dict #[] n, sl⟩) (hx : (Float64.cmp x x == some .eq) = true) (hy : (Float64.cmp y y == some .eq) = true) (hw : (Float64.cmp w w == some .eq) = true) (hu : 64 ≤ u) : Cmp C sc .Eq (.lst [.flt x, .flt y, .flt w]) (.lst [.flt x, .flt y, .flt w]) true := fun Γ τ v₁ v₂ s E h => by
  obtain ⟨g, tk, m, N, rfl, z, a⟩ := h
  obtain ⟨l2, ws, rfl, hl2, hr2⟩ := a.list hO (a.t _ (.head _))
  obtain ⟨l1, vs, rfl, hl1, hr1⟩ := a.list hO (a.t _ (.tail _ (.head _)))
  obtain ⟨a1, a2, a3, ha1, ha2, ha3, rfl⟩ := hr2.f3 hz
  obtain ⟨b1, b2, b3, hb1, hb2, hb3, rfl⟩ := hr1.f3 hz
  have hb := noneBooked (hO.X.keeps a.F.keep) ho
  refine eq_listAt (e := fun _ => true) hl1 hl2 rfl (by have := hO.un; show C.un < cLine; omega) (fun j h1 h2 => ?_) ⟨rfl, g, tk, m, N, rfl, z, AtH.tau a fun _ hp => .tail _ (.tail _ hp)⟩
  match j, h1 with
  | 0, _ => exact eqAt_float hx hb1 ha1 hb
  | 1, _ => exact eqAt_float hy hb2 ha2 hb
  | 2, _ => exact eqAt_float hw hb3 ha3 hb
  | j + 3, h1 => exact absurd h1 (by simp)
-- tables
theorem AtH.tab {τ : List (Dv × Value)} {h : Heap} {m : Str → Option Value} {N : Led} (hO : Ok C d u) (a : AtH C Γ τ h m N) {D : List (PyData × PyData)} {v : Value} (hr : Rep C.z (Sec C.ob N) (.tab D) v) : ∃ l, v = .ref l ∧ StrTab Mine.rw0.row.prog C.w h l D := by
  obtain ⟨ax, o, rfl, ho, h1, kvs, h2, h3⟩ := hr
  exact ⟨ax, rfl, TabAt.ofObj h1 (ho.elim (fun h => (a.nw _ (List.mem_append_right _ h)).1) (fun h => a.F.keep _ _ (hO.ob _ _ h))) h2 h3⟩
theorem Cmp.inT {x : Str} {D : List (PyData × PyData)} (hO : Ok C d u) : Cmp C sc .In (.str x) (.tab D) (Spec.lookup (.str x) D).isSome := fun Γ τ v₁ v₂ s E h => by
  obtain ⟨_, t1, rfl⟩ := h.rep (.tail _ (.head _))
  obtain ⟨g, tk, m, N, rfl, z, a⟩ := h
  obtain ⟨l, rfl, T⟩ := a.tab hO (a.t _ (.head _))
  exact in_strTab T ⟨rfl, g, tk + 1, m, N, rfl, zt_of (Nat.succ_ne_zero _), AtH.tau a fun _ hp => .tail _ (.tail _ hp)⟩
theorem Ev.look {value slice : Expr} {x : Str} {D : List (PyData × PyData)} {p : Pos} (hO : Ok C d u) (hv : Ev C sc env Γ value (.tab D)) (hi : Ev C sc env Γ slice (.str x)) (hD : IntVals D) (hl : (Spec.lookup (PyData.str x) D).isSome = true)
    (hs : ∀ l x t, subscripted slice false (.ref l) (.str x t) = operate [.ref l, .str x t] (getItem (.ref l) (.str x t))) (hg : ∀ l r, letTemporaryGo value (.ref l) r = pure ()) : Ev C sc env Γ (.Subscript value slice p) (.int (Mine.look D x)) :=
  fun τ s E h => Subscript_ (wpAny_mono (hv τ s E h) (fun o s₁ h₁ => wpAny_mono (hi _ s₁ E h₁) (fun i s₂ h₂ => by
    obtain ⟨_, t1, rfl⟩ := h₂.rep (.head _)
    obtain ⟨g, tk, m, N, rfl, z, a⟩ := h₂
    obtain ⟨l, rfl, T⟩ := a.tab hO (a.t _ (.tail _ (.head _)))
    exact item_look T hD hl (fun u => ⟨g, tk + 1, m, N, rfl, zt_of (Nat.succ_ne_zero _), (AtH.tau a fun _ hp => .tail _ (.tail _ hp)).push ⟨_, rfl⟩⟩) (hs _ _ _) (hg _)) fun _ _ e => e) fun _ _ e => e)
-- words joined by and, or
theorem Ev.and {e₁ e₂ : Expr} {p : Pos} {b : Bool} (h1 : Ev C sc env Γ e₁ (.bol true)) (h2 : Ev C sc env Γ e₂ (.bol b)) : Ev C sc env Γ (.BoolOp .And [e₁, e₂] p) (.bol b) := fun τ s E h =>
  BoolOp_and (wpAny_mono (h1 τ s E h) (fun v s₁ h₁ => by
    obtain ⟨O, rfl⟩ := h₁.rep (.head _)
    refine wpAny_truthy_bool ?_
    rw [if_pos rfl]
    exact BoolOp_one (h2 τ s₁ E h₁.pop1)) fun _ _ e => e)
theorem EvW.and {e₁ e₂ : Expr} {p : Pos} {b : Bool} (h1 : EvW C sc env Γ e₁ (.bol true)) (h2 : Ev C sc env Γ e₂ (.bol b)) : EvW C sc env Γ (.BoolOp .And [e₁, e₂] p) (.bol b) := fun τ s E h =>
  BoolOp_and (wpAny_mono (h1 τ s E h) (fun v s₁ h₁ => by
    obtain ⟨O, rfl⟩ := h₁.rep (.head _)
    refine wpAny_truthy_bool ?_
    rw [if_pos rfl]
    exact BoolOp_one (h2 τ s₁ E h₁.pop1)) fun _ _ e => e)
theorem EvW.cmp {l r : Expr} {op : CmpOp} {p : Pos} {d₁ d₂ : Dv} {b : Bool} (hl : EvW C sc env Γ l d₁) (hr : Ev C sc env Γ r d₂) (ho : Cmp C sc op d₁ d₂ b) (hm : behindInMarks op r = false := by kernel_rfl) : EvW C sc env Γ (.Compare l [op] [r] p) (.bol b) :=
  fun τ s E h => wpAny_Compare1 (wpAny_mono (hl τ s E h) (fun _ s₁ h₁ => wpAny_mono (hr _ s₁ E h₁) (fun _ s₂ h₂ => wpAny_mono (ho Γ τ _ _ s₂ E h₂) (fun v s₃ h₃ => by obtain ⟨rfl, h₃⟩ := h₃; exact h₃.bol b) fun _ _ e => e) fun _ _ e => e) fun _ _ e => e) hm
theorem Test.or3 {a b c : Expr} {p : Pos} {c₁ c₂ c₃ : Bool} (h1 : Test C sc env Γ a c₁) (h2 : c₁ = false → Test C sc env Γ b c₂) (h3 : c₁ = false → c₂ = false → Test C sc env Γ c c₃) : Test C sc env Γ (.BoolOp .Or [a, b, c] p) (c₁ || (c₂ || c₃)) :=
  fun τ s E h => isTrue_or (wpAny_mono (h1 τ s E h) (fun k s₁ hk => by
    obtain ⟨rfl, h₁⟩ := hk
    cases k with
    | true => exact ⟨rfl, h₁⟩
    | false => exact Test.or2 (p := p) (h2 rfl) (h3 rfl) τ s₁ E h₁) fun _ _ e => e)
theorem Test.not {a : Expr} {p : Pos} {c : Bool} (h1 : Test C sc env Γ a c) : Test C sc env Γ (.UnaryOp .Not a p) (!c) :=
  fun τ s E h => isTrue_not (wpAny_mono (h1 τ s E h) (fun k s₁ hk => ⟨by rw [hk.1], hk.2⟩) fun _ _ e => e)
/-- the truth of a value -/
theorem Test.ev {e : Expr} {b : Bool} (h : Ev C sc env Γ e (.bol b)) (hp : PySem.isTrue e env (eval e env) = (do let v ← eval e env; standAt e.pos; holding [v] (truthy v))) : Test C sc env Γ e b := fun τ s E ha =>
  isTrue_plain (wpAny_mono (h τ s E ha) (fun v s₁ h₁ => by obtain ⟨O, rfl⟩ := h₁.rep (.head _); exact wpAny_truthy_bool ⟨rfl, h₁.pop1⟩) fun _ _ e => e) hp
end
end Mine
end PEv12

section PEv13
open PySem PySem.W PySem.Spec PySem.Calls PyProof.Rows PySem.SeqAt

namespace Mine
noncomputable def TupAt (h₀ : Heap) (ax : Addr) (its : Array Value) (nw : Led) : Prop :=
  (∃ o, h₀.get? ax = some o ∧ (o.cls = .type "tuple" ∧ ∃ n, o.data = .seq its n)) ∨ ∃ o, (ax, o) ∈ nw ∧ (o.cls = .type "tuple" ∧ ∃ n, o.data = .seq its n)
theorem TupAt.tup {h₀ h : Heap} {L ax : Addr} {its : Array Value} {nw : Led} (x : TupAt h₀ ax its nw) (k : ∀ b o, h₀.get? b = some o → h.get? b = some o) (N : News h₀ L h nw) : h.IsTuple ax its := by
  rcases x with ⟨o, e, c, d⟩ | ⟨o, e, c, d⟩
  · exact ⟨o, k _ _ e, c, d⟩
  · exact ⟨o, (N _ e).1, c, d⟩
section
variable {C : Cx} {sc : Scope} {env : Env} {Γ : Gx} {scope : Scope} {cl : List (Str × Addr)} {x : Str} {elt iter : Expr} {τ : List (Dv × Value)} {px p : Pos} {ds : List Dv} {d u : Nat} {f : Dv → Dv}
/-- from a told mark to any -/
noncomputable def EvD (C : Cx) (sc : Scope) (env : Env) (Γ : Gx) (e : Expr) (d : Dv) : Prop :=
  ∀ (τ : List (Dv × Value)) (s : Shared) (E : Value → Shared → Prop), At C Γ τ s → wpAny C.M (C.A sc) (eval e env) (fun v s' => AtW C Γ ((d, v) :: τ) s') E s
theorem Ev.toD {e : Expr} {d : Dv} (h : Ev C sc env Γ e d) : EvD C sc env Γ e d := fun τ s E a => wpAny_mono (h τ s E a) (fun _ _ h => h.w) fun _ _ e => e
theorem EvD.compU (hO : Ok C d u) (hit : EvD C sc env Γ iter (.tup ds)) (hl : ds.length ≤ sizeLine) (hE : ∀ d ∈ ds, ElE C sc env Γ scope cl x elt d (f d))
    (hclos : closureFor scope env = pure cl) (hcell : ∀ y ∈ scope.names, y.2 ≠ .cell) (hkind : scope.kind = .function)
    (hnames : ∀ y ∈ scope.names, y.2 = .local → scope.names.lookup y.1 = some .local) (hx : scope.names.lookup x = some .local) (hs : ∀ v, foldedSetIterable iter env v = pure v) :
    EvD C sc env Γ (.ListComp elt [⟨.Name x px, iter, [], 0⟩] scope p) (.lst (ds.map f)) := fun τ s E h => by
  rw [eval_ListComp]
  refine wpAny_comprehension_free (use := none) rfl hs hclos hkind hnames (wpAny_mono (hit τ s E h) (fun xv s₁ h₁ => ?_) fun _ _ e => e)
  obtain ⟨hp, tk, m, N, rfl, a⟩ := h₁
  obtain ⟨ax, ol, vs, rfl, ho, hc, hr⟩ := a.t _ (.head _)
  have hv : ∀ N', (∀ p ∈ N, p ∈ N') → Reps C.z (Sec C.ob N') ds vs := fun N' h => Reps.mono (Sec.mono h) _ _ hr
  have hS : ∀ N', (∀ p ∈ N, p ∈ N') → TupAt C.h₀ ax vs.toArray (C.X ++ N') := fun N' hs => ho.elim (fun h => .inr ⟨ol, List.mem_append_right _ (hs _ h), hc⟩) fun h => .inl ⟨ol, hO.ob _ _ h, hc⟩
  have hll : hp.IsTuple ax vs.toArray := (hS N fun _ h => h).tup a.F.keep a.nw
  have hlt : ax < hp.objs.size := by obtain ⟨_, e, _⟩ := hll; exact Heap.lt_size e
  have hlen := hr.length
  refine wpAny_pyIter_tuple hll ?_
  have up : ∀ b o, hp.get? b = some o → (hp.push { cls := .type "tuple_iterator", data := .fields #[.ref ax, .int 0 0] }).get? b = some o := fun b o e => Heap.get?_push_of_some _ e
  have M0 : Mid C Γ τ m N ((ds.take 0).map f) [] (C.X ++ N) := ⟨N, rfl, a.dj, a.g, fun p hp => a.t p (.tail _ hp), a.fl, fun _ h => h, rfl⟩
  refine LCg.block_U (S := TupAt C.h₀ ax vs.toArray) (Walks.tuple rfl hp.objs.size ax (Nat.ne_of_lt hlt) vs.toArray) (by simp; omega) (fun i h st => by obtain ⟨o, e, _⟩ := st.1; exact ⟨o, e⟩)
    (fun i h h' o nw st e e' k Nw Sw => ⟨by obtain ⟨o', q, r⟩ := st.1; rw [e] at q; cases q; exact ⟨o, e', r⟩, Sw.tup k Nw⟩) hcell hkind hx ⟨⟨_, Heap.get?_push_size _ rfl, rfl, rfl⟩, (by obtain ⟨o, e, r⟩ := hll; exact ⟨o, up _ _ e, r⟩)⟩ (fun b hb => ?_)
    (a.F.keeps up) (a.nw.grown up) (Nat.ne_of_lt a.F.ns.lt) (next_is_new a.F) (fun p hp => Nat.ne_of_lt (Heap.lt_size (a.nw p hp).1)) (hS N fun _ h => h) (comp_turns rfl (list_at hv) hS hE _ 0 [] _ (by simp; omega) M0) ?_
  · show b < (hp.push _).objs.size
    rw [Heap.size_push]
    rcases List.mem_cons.mp hb with rfl | hb
    · exact Nat.lt_succ_self _
    · rw [List.mem_singleton.mp hb]; exact Nat.lt_succ_of_lt hlt
  · intro D Ca h tk m' ys news' F' N' o1 hn hC₀ hD₀ hCL hDL hCD offC fin
    refine ⟨m', hn, fun h'' hs'' => fin.done (F'.change hs'' hCL hC₀) (fun p hp => ?_) o1⟩
    refine ⟨hs''.extBut _ _ ?_ (N' p hp).1, (N' p hp).2⟩
    rcases List.mem_cons.mp hp with rfl | hp
    · exact Ne.symm hCD
    · exact offC p hp
/-- range(n), called by its name -/
theorem EvC.compR {e : Expr} {rx : Str} {rp cp : Pos} {n : Nat} (hz : C.z.b = false) (hn : EvC C sc env Γ (.Name rx rp) (.val (.type "range"))) (he : EvW C sc env Γ e (.int n)) (hsm : n < 1000) (hE : ∀ i, i < n → ElE C sc env Γ scope cl x elt (.int (i : Int)) (f (.int (i : Int))))
    (hc : eval (.Call (.Name rx rp) [e] [] cp) env = (do let f ← eval (.Name rx rp) env; callWith cp f [] (backTo cp (starEach [e] env)) (backToKw cp (keywordEach [] env))))
    (hse : starEach [e] env = [(false, eval e env)])
    (hclos : closureFor scope env = pure cl) (hcell : ∀ y ∈ scope.names, y.2 ≠ .cell) (hkind : scope.kind = .function)
    (hnames : ∀ y ∈ scope.names, y.2 = .local → scope.names.lookup y.1 = some .local) (hx : scope.names.lookup x = some .local) (hs : ∀ v, foldedSetIterable (.Call (.Name rx rp) [e] [] cp) env v = pure v) :
    EvC C sc env Γ (.ListComp elt [⟨.Name x px, .Call (.Name rx rp) [e] [] cp, [], 0⟩] scope p) (.lst (((List.range n).map fun i : Nat => Dv.int (i : Int)).map f)) := fun τ s E h => by
  rw [eval_ListComp]
  refine wpAny_comprehension_free (use := none) rfl hs hclos hkind hnames (Call_ (wpAny_mono (hn τ s E h) (fun fv s₁ h₁ => ?_) fun _ _ e => e) hc)
  obtain ⟨O, rfl⟩ := h₁.rep (.head _)
  refine PyProof.Rows.callWith_type1 (wpAny_mono ((EvsW.cons he Evs.nil hse) cp τ s₁ E h₁.pop1) (fun vs s₂ h₂ => ?_) fun _ _ e => e) hse rfl
  obtain ⟨hp, tk, m, N, rfl, _, a, v, r, rfl, ⟨t, rfl⟩, rfl⟩ := h₂
  refine range1_rows a.F a.nw fun h' tk' t₁ u₁ v₁ hr F N' keep => ?_
  generalize hra : hp.objs.size = ra at hr
  have hrs : Builtin.Range.rangeSize 0 (n : Int) 1 = ((n : Nat) : Int) := by rw [rangeSize_nat]; simp
  refine wpAny_pyIter_range hr (small_one (by decide) (by decide) (by omega) (by omega)) ?_
  have up : ∀ (o : Obj) b o', h'.get? b = some o' → (h'.push o).get? b = some o' := fun o b o' e => Heap.get?_push_of_some _ e
  have M0 : Mid C Γ τ m N ((((List.range n).map fun i : Nat => Dv.int (i : Int)).take 0).map f) [] (C.X ++ N) := ⟨N, rfl, a.dj, a.g, fun p hp => a.t p hp, a.fl, fun _ h => h, rfl⟩
  refine LCg.block_U (S := fun _ => True) (LCg.range_walks rfl 0 n) (by rw [sizeLine_eq]; omega) (fun i h st => ⟨_, st⟩) LCg.range_st hcell hkind hx (by show IsRangeIter _ _ _ _ _; rw [hrs]; simpa using Heap.get?_push_size _ rfl) (fun b hb => ?_)
    (F.keeps fun _ _ e => Heap.get?_push_of_some _ e) (N'.grown fun _ _ e => Heap.get?_push_of_some _ e) (Nat.ne_of_lt F.ns.lt) (next_is_new F) (fun p hp => Nat.ne_of_lt (Heap.lt_size (N' p hp).1)) trivial (comp_turns (P := fun i v => ∃ t, v = .int (0 + (i : Int)) t) rfl (fun i v hi hP => ?_) (fun _ _ => trivial) (fun dv hdv => ?_) _ 0 [] _ (by simp) M0) ?_
  · rw [List.mem_singleton.mp hb]
    show h'.objs.size < (h'.push _).objs.size
    rw [Heap.size_push]; exact Nat.lt_succ_self _
  · obtain ⟨t', rfl⟩ := hP
    have hi' : i < n := by simpa using hi
    exact ⟨.int i, by simp [hi'], fun _ _ => ⟨t', by rw [Int.zero_add]⟩⟩
  · obtain ⟨i, hi, rfl⟩ := List.mem_map.mp hdv
    exact hE i (List.mem_range.mp hi)
  · intro D Ca h tk m' ys news' F' N' o1 hn hC₀ hD₀ hCL hDL hCD offC fin
    refine ⟨m', hn, fun h'' hs'' => fin.done (F'.change hs'' hCL hC₀) (fun p hp => ?_) o1⟩
    refine ⟨hs''.extBut _ _ ?_ (N' p hp).1, (N' p hp).2⟩
    rcases List.mem_cons.mp hp with rfl | hp
    · exact Ne.symm hCD
    · exact offC p hp
end
end Mine
end PEv13

section PEv14
open PySem PySem.W PySem.Spec PySem.Calls PyProof.Rows PySem.SeqAt

namespace Mine
noncomputable def tgts : List Expr → List (Str × Pos)
  | .Name x p :: r => (x, p) :: tgts r
  | _ => []
section
variable {sc : Scope} {μ μ' : Mu} {d u : Nat} {z : Zw} {e : Expr} {elts : List Expr} {k : Nat} {tp p : Pos} {ds : List Dv}
theorem X1.unL' (he : EvF z d u sc μ e (.lst ds)) (hx : ((tgts elts).all fun x => Sto sc x.1) = true) (hl : (tgts elts).length = ds.length) (hμ : pushMu ((tgts elts).map (·.1)) ds μ = μ')
    (hel : ∀ C : Cx, (assignEach elts (C.env sc)) = (tgts elts).map fun x => (false, PySem.assign (PySem.Expr.Name x.1 x.2) (C.env sc))) (hs : ∀ C : Cx, swapsWithSole [.Tuple elts k tp] e p.line (C.env sc) = pure false) (hw : ∀ C : Cx, swappedStores [.Tuple elts k tp] e (C.env sc) = pure none) (hk : sc.kind = .function) :
    X1 z d u sc μ (.Assign [.Tuple elts k tp] e p) (.nx μ') := X1.unL _ he hx hl hμ hel hs hw hk
theorem X1.unT' (he : EvF z d u sc μ e (.tup ds)) (hx : ((tgts elts).all fun x => Sto sc x.1) = true) (hl : (tgts elts).length = ds.length) (hμ : pushMu ((tgts elts).map (·.1)) ds μ = μ')
    (hel : ∀ C : Cx, (assignEach elts (C.env sc)) = (tgts elts).map fun x => (false, PySem.assign (PySem.Expr.Name x.1 x.2) (C.env sc))) (hs : ∀ C : Cx, swapsWithSole [.Tuple elts k tp] e p.line (C.env sc) = pure false) (hw : ∀ C : Cx, swappedStores [.Tuple elts k tp] e (C.env sc) = pure none) (hk : sc.kind = .function) :
    X1 z d u sc μ (.Assign [.Tuple elts k tp] e p) (.nx μ') := X1.unT _ he hx hl hμ hel hs hw hk
theorem X1.unS' (he : EvF z d u sc μ e (.tup ds)) (hx : (((tgts elts).map (·.1)).all fun x => Sto sc x) = true) (hl : ((tgts elts).map (·.1)).length = ds.length) (hμ : pushMu ((tgts elts).map (·.1)).reverse ds.reverse μ = μ')
    (hs : ∀ C : Cx, swapsWithSole [.Tuple elts k tp] e p.line (C.env sc) = pure false) (hw : ∀ C : Cx, swappedStores [.Tuple elts k tp] e (C.env sc) = pure (some ((tgts elts).map (·.1)))) (hk : sc.kind = .function) :
    X1 z d u sc μ (.Assign [.Tuple elts k tp] e p) (.nx μ') := X1.unS _ he hx hl hμ hs hw hk
theorem sub_cons {x : Str} {dv : Dv} (h : μ'.lookup x = some dv) (hs : ∀ y d, μ.lookup y = some d → μ'.lookup y = some d) : ∀ y d, List.lookup y ((x, dv) :: μ) = some d → μ'.lookup y = some d := fun y d e => by
  rw [lookup_cons_eq] at e
  split at e
  · rename_i hy; subst hy; cases e; exact h
  · exact hs y d e
theorem sub_nil : ∀ y d, List.lookup y ([] : Mu) = some d → μ'.lookup y = some d := fun _ _ e => by cases e
/-- an if whose way is known -/
theorem X1.way {t : Expr} {a b : List Stmt} {o : Out} (c : Bool) (ht : TestF z d u sc μ t c) (h : Xs z d u sc μ (cond c a b) o) : X1 z d u sc μ (.If t a b p) o :=
  X1.ite ht (fun e => by subst e; exact h) (fun e => by subst e; exact h)
end
section
variable {C : Cx} {sc : Scope} {env : Env} {Γ : Gx}
theorem Ev.ifeF {t a b : Expr} {p : Pos} {c : Bool} {v w : UInt64} (ht : Test C sc env Γ t c) (h1 : Ev C sc env Γ a (.flt v)) (h2 : Ev C sc env Γ b (.flt w)) : Ev C sc env Γ (.IfExp t a b p) (.flt (if c = true then v else w)) :=
  Ev.ife ht (fun e => by subst e; exact h1) (fun e => by subst e; exact h2)
theorem ElE.of {scope : Scope} {cl : List (Str × Addr)} {x : Str} {elt : Expr} {d r : Dv} (hz : C.z.b = false) (h : ∀ (X fl : Led) (Ca : Addr) (m : Str → Option Value), Ev (C.on2 X fl) sc (compEnvC scope cl Ca env) (CompG C Γ x d Ca m) elt r) : ElE C sc env Γ scope cl x elt d r :=
  fun X fl Ca m => (h X fl Ca m).w hz
theorem ElT.of {scope : Scope} {cl : List (Str × Addr)} {x : Str} {elt : Expr} {d : Dv} {r : Bool} (hz : C.z.b = false) (h : ∀ (X fl : Led) (Ca : Addr) (m : Str → Option Value), Test (C.on2 X fl) sc (compEnvC scope cl Ca env) (CompG C Γ x d Ca m) elt r) : ElT C sc env Γ scope cl x elt d r :=
  fun X fl Ca m => (h X fl Ca m).w hz
theorem Ev.c {e : Expr} {d : Dv} (h : Ev C sc env Γ e d) (hz : C.z.b = false) : EvC C sc env Γ e d := EvC.ofW (h.w hz)
theorem all3 {P : Dv → Prop} {a b c : Dv} (h1 : P a) (h2 : P b) (h3 : P c) : ∀ x ∈ [a, b, c], P x := by
  intro x hx
  simp only [List.mem_cons, List.not_mem_nil, or_false] at hx
  rcases hx with rfl | rfl | rfl <;> assumption
end
end Mine
end PEv14

section PEv15
open PySem PySem.W PySem.Spec PySem.Calls PyProof.Rows PySem.SeqAt

namespace Mine
section
variable {C : Cx} {sc : Scope} {env : Env} {Γ : Gx} {μ : Mu} {d u : Nat} {z : Zw}
/-- two comprehensions of whole numbers that are the same -/
noncomputable def TestC (C : Cx) (sc : Scope) (env : Env) (Γ : Gx) (e : Expr) (b : Bool) : Prop :=
  ∀ (τ : List (Dv × Value)) (s : Shared) (E : Value → Shared → Prop), At C Γ τ s → wpAny C.M (C.A sc) (PySem.isTrue e env (eval e env)) (fun k s' => k = b ∧ AtW C Γ τ s') E s
theorem TestC.ne {l r : Expr} {p : Pos} {ns ms : List Int} (hO : Ok C d u) (hu : 64 ≤ u) (hl : EvD C sc env Γ l (dints ns)) (hr : EvC C sc env Γ r (dints ms)) (hm : behindInMarks .NotEq r = false := by kernel_rfl) : TestC C sc env Γ (.Compare l [.NotEq] [r] p) (!decide (ns = ms)) :=
  fun τ s E h => wpAny_isTrue_Compare1 (wpAny_mono (hl τ s E h) (fun _ s₁ h₁ => wpAny_mono (hr _ s₁ E h₁) (fun _ s₂ h₂ => wpAny_mono (neLW hO hu h₂) (fun v s₃ h₃ => by obtain ⟨rfl, h₃⟩ := h₃; exact wpAny_truthy_bool ⟨rfl, h₃⟩) fun _ _ e => e) fun _ _ e => e) fun _ _ e => e) hm
theorem Xs.weak2 {t e : Expr} {a : List Stmt} {p q : Pos} {dv : Dv} (ht : ∀ C : Cx, C.z = z → Ok C d u → TestC C sc (C.env sc) (Loc C sc μ) t false) (he : ∀ C : Cx, C.z = z → Ok C d u → EvW C sc (C.env sc) (Loc C sc μ) e dv) :
    Xs z d u sc μ [.If t a [] p, .Return (some e) q] (.rt dv) := fun C τ s E hz hO hX h => by
  obtain ⟨Z, hZ, h⟩ := h
  refine wpAny_execs_cons (wpAny_If (wpAny_mono (ht (C.on (Z ++ C.X)) hz (hO.on _) τ s E h) (fun k s₁ hk => ?_) fun _ _ e => e))
  obtain ⟨rfl, h₁⟩ := hk
  refine wpAny_execs_nil ?_
  exact wpAny_execs_cons (wpAny_Return_some (wpAny_mono (he (C.on (Z ++ C.X)) hz (hO.on _) τ s₁ E h₁) (fun v s₂ h₂ => ⟨v, μ, rfl, Z, hZ, h₂⟩) fun _ _ e => e))
end
end Mine
end PEv15

section PEv16
open PySem PySem.W PySem.Spec PySem.Calls PyProof.Rows PySem.SeqAt

namespace Mine
noncomputable def fI (g : Int → Int) : Dv → Dv
  | .int a => .int (g a)
  | d => d
theorem ints_map (g : Int → Int) (r : List Int) : (r.map Dv.int).map (fI g) = (r.map g).map Dv.int := by
  rw [List.map_map, List.map_map]; rfl
section
variable {C : Cx} {sc : Scope} {env : Env} {Γ : Gx} {μ : Mu} {d u : Nat} {scope : Scope} {cl : List (Str × Addr)} {x : Str} {elt iter : Expr} {px p : Pos}
/-- a comprehension of whole numbers -/
theorem Ev.compI {ns : List Int} {g : Int → Int} (hO : Ok C d u) (hz : C.z.b = false) (hit : Ev C sc env Γ iter (dints ns)) (hl : ns.length ≤ sizeLine)
    (hclos : closureFor scope env = pure cl) (hE : ∀ n ∈ ns, ∀ (X fl : Led) (Ca : Addr) (m : Str → Option Value), Ev (C.on2 X fl) sc (compEnvC scope cl Ca env) (CompG C Γ x (.int n) Ca m) elt (.int (g n)))
    (hcell : ∀ y ∈ scope.names, y.2 ≠ .cell) (hkind : scope.kind = .function)
    (hnames : ∀ y ∈ scope.names, y.2 = .local → scope.names.lookup y.1 = some .local) (hx : scope.names.lookup x = some .local) (hs : ∀ v, foldedSetIterable iter env v = pure v) :
    Ev C sc env Γ (.ListComp elt [⟨.Name x px, iter, [], 0⟩] scope p) (dints (ns.map g)) :=
  (EvC.z (EvC.comp (f := fI g) hO (Ev.c hit hz) (by rw [List.length_map]; exact hl) (fun dv hdv => by
    obtain ⟨n, hn, rfl⟩ := List.mem_map.mp hdv
    exact ElE.of hz (hE n hn)) hclos hcell hkind hnames hx hs) hz).to (congrArg Dv.lst (ints_map g ns))
end
end Mine
end PEv16

section PEv17
open PySem PySem.W PySem.Spec PySem.Calls PyProof.Rows PySem.SeqAt PyProof.V

namespace Mine
section
variable {prog : Program} {w : World} {A : Around} {R : Result → Shared → Prop}
/-- the loop of a dict comprehension whose target may be a tuple -/
theorem dictLoopT {kx vx target iter : Expr} {scope : Scope} {pos : Pos} {it : Value} {D : Addr} {env : Env} (I : Nat → Shared → Prop)
    (turn : ∀ n s, I n s → wpAny (model prog w) A (pyNext it) (fun r s₁ => match r with
      | none => R (.ok .next) s₁
      | some v => wpAny (model prog w) A (letOwnedTupleGo target it v) (fun _ s₂ => wpAny (model prog w) A (assign target env v) (fun _ s₃ =>
            wpAny (model prog w) A (eval kx env) (fun kv s₄ => wpAny (model prog w) A (eval vx env) (fun vv s₅ =>
              wpAny (model prog w) A (dictSet D kv vv) (fun _ s₆ => ∃ m, m < n ∧ I m s₆) (notedBy (model prog w) A env fun e s' => R (.error e) s') s₅) (notedBy (model prog w) A env fun e s' => R (.error e) s') s₄) (notedBy (model prog w) A env fun e s' => R (.error e) s') s₃) (notedBy (model prog w) A env fun e s' => R (.error e) s') s₂) (notedBy (model prog w) A env fun e s' => R (.error e) s') s₁) (notedBy (model prog w) A env fun e s' => R (.error e) s') s)
    (n : Nat) (s : Shared) (h : I n s) :
    codeAny (model prog w) A (.compLoop (.DictComp kx vx [⟨target, iter, [], 0⟩] scope pos) 0 it (.ref D) env) R s := by
  refine codeAny_loop rfl I (fun n s hI => ?_) n h
  show wpAny _ A ((compTurn (.DictComp kx vx [⟨target, iter, [], 0⟩] scope pos) 0 it (.ref D) env).onRaise (fun x => do noteFrame x env; theTreesLotGoes x)) _ _ s
  refine wpAny_noted ?_
  rw [compTurn_dict]
  refine wpAny_bind (wpAny_standAt (wpAny_bind (wpAny_mono (turn n s hI) (fun r s₁ h₁ => ?_) fun _ _ h' => h')))
  cases r with
  | none => exact wpAny_pure h₁
  | some v =>
    refine wpAny_bind (wpAny_mono h₁ (fun _ s₂ h₂ => ?_) fun _ _ h' => h')
    refine wpAny_bind (wpAny_mono h₂ (fun _ s₃ h₃ => ?_) fun _ _ h' => h')
    refine wpAny_bind (wpAny_pure ?_)
    exact wpAny_bind (wpAny_bind (wpAny_mono h₃ (fun kv s₄ h₄ => wpAny_bind (wpAny_holding (wpAny_mono h₄ (fun vv s₅ h₅ => wpAny_bind (wpAny_standAt (wpAny_holding (wpAny_mono h₅ (fun _ s₆ h₆ => wpAny_pure ⟨rfl, h₆⟩) fun _ _ h' => h')))) fun _ _ h' => h'))) fun _ _ h' => h'))
/-- the table of a row of words -/
noncomputable def tabFrom : Nat → List Str → List (PyData × PyData)
  | _, [] => []
  | i, k :: r => (.str k, .int (i : Int)) :: tabFrom (i + 1) r
theorem tabFrom_app : ∀ (i : Nat) (a : List Str) (k : Str), tabFrom i (a ++ [k]) = tabFrom i a ++ [(.str k, .int ((i + a.length : Nat) : Int))]
  | i, [], k => rfl
  | i, x :: a, k => by
    rw [List.cons_append, tabFrom, tabFrom_app (i + 1) a k, tabFrom, List.cons_append, List.length_cons]
    congr 5
    omega
theorem flat_app {kvs : List (Str × Value)} {D : List (PyData × PyData)} {k : Str} {v : Value} {d : PyData} (h : FlatPairs PyData.str kvs D) (hv : Flat v d) : FlatPairs PyData.str (kvs ++ [(k, v)]) (D ++ [(.str k, d)]) := by
  induction h with
  | nil => exact .cons hv .nil
  | cons f _ ih => exact .cons f ih
theorem stored_app {kvs : List (Str × Value)} {k : Str} {v : Value} (h : k ∉ kvs.map (·.1)) : stored kvs k v = kvs ++ [(k, v)] := by
  unfold stored
  rw [if_neg]
  intro e
  obtain ⟨p, hp, e⟩ := List.any_eq_true.mp e
  exact h (List.mem_map.mpr ⟨p, hp, by simpa using e⟩)
/-- the walk: names k, x out of each pair; x is the key -/
theorem dictWalkT {kn xn : Str} {k1 k2 x1 x2 : Pos} {kk : Nat} {tp : Pos} {iter : Expr} {scope : Scope} {pos : Pos} {cenv : Env} {m : Str → Option Value} {I D : Addr} {fp wr : List Addr} {ks : List Str} {vs : List Value} {St : Nat → Heap → Prop} {Mid : Nat → Addr → Heap → Prop} {s : Shared}
    (W : WalksT prog w A I fp wr ks.length (fun i vals => ∃ t x, vs.toArray[i]? = some x ∧ vals = #[.int i t, x]) St Mid) (hh : A.handled = none) (hvs : ∀ (i : Nat) (k : Str), ks[i]? = some k → ∃ t, vs[i]? = some (Value.str k t)) (hnd : ks.Nodup)
    (hk : cenv.kindOf kn = some .local) (hx : cenv.kindOf xn = some .local) (hne : kn ≠ xn) (hp : (cenv.scope.kind == .class || (cenv.scope.kind == .module && cenv.locals != cenv.globals)) = false) (hf : cenv.scope.kind = .function)
    (hb1 : (kn == ("__debug__" : Str)) = false) (hb2 : (xn == ("__debug__" : Str)) = false)
    (hDC : D ≠ cenv.locals) (hDf : D ∉ fp) (hCf : cenv.locals ∉ fp)
    (hst : St 0 s.heap) (hacc : s.heap.DictOf (strKind prog w) D []) (hn : s.heap.Ns cenv.locals m)
    (hR : ∀ h' tk m' kvs, h'.Ns cenv.locals m' → h'.DictOf (strKind prog w) D kvs → FlatPairs PyData.str kvs (tabFrom 0 ks) → (∀ b o, b ≠ cenv.locals → b ∉ wr → b ≠ D → s.heap.get? b = some o → h'.get? b = some o) → R (.ok .next) { s with heap := h', toks := tk })
    (hsz : ks.length ≤ sizeLine) :
    codeAny (model prog w) A (.compLoop (.DictComp (.Name xn x1) (.Name kn k1) [⟨.Tuple [.Name kn k2, .Name xn x2] kk tp, iter, [], 0⟩] scope pos) 0 (.ref I) (.ref D) cenv) R s := by
  refine dictLoopT
    (fun n s' => ∃ j h' tk m' kvs, s' = { s with heap := h', toks := tk } ∧ n = ks.length + 1 - j ∧ j ≤ ks.length ∧ St j h' ∧ h'.DictOf (strKind prog w) D kvs ∧ h'.Ns cenv.locals m' ∧ kvs.map (·.1) = ks.take j ∧ FlatPairs PyData.str kvs (tabFrom 0 (ks.take j)) ∧
      ∀ b o, b ≠ cenv.locals → b ∉ wr → b ≠ D → s.heap.get? b = some o → h'.get? b = some o) ?_ (ks.length + 1) s
    ⟨0, s.heap, s.toks, m, [], rfl, by omega, Nat.zero_le _, hst, hacc, hn, rfl, .nil, fun _ _ _ _ _ e => e⟩
  rintro n s' ⟨j, H, tk, m', kvs, rfl, rfl, hj, hst', hacc', hn', hkeys, hflat, hkeep⟩
  have hCw : cenv.locals ∉ wr := fun h => hCf (W.sub _ h)
  have hDw : D ∉ wr := fun h => hDf (W.sub _ h)
  by_cases hlt' : j < ks.length
  · refine W.item j _ _ _ hlt' hst' fun T vals h₁ tk₁ hPv hTn hT hmid hk₁ => ?_
    obtain ⟨t, x, hxv, rfl⟩ := hPv
    obtain ⟨k, hkj⟩ : ∃ k, ks[j]? = some k := ⟨_, List.getElem?_eq_getElem hlt'⟩
    obtain ⟨t', hkv⟩ := hvs j k hkj
    rw [show vs.toArray[j]? = vs[j]? by simp, hkv] at hxv; cases hxv
    refine W.go _ _ _ j T _ _ _ hmid fun h₂ hst₂ hk₂ => ?_
    have hTw := W.apart _ _ _ hmid
    have hT₂ : h₂.IsTuple T #[.int j t, .str k t'] := let ⟨o, e, r⟩ := hT; ⟨o, hk₂ T o hTw e, r⟩
    refine wpAny_assign_Tuple hh hT₂ rfl rfl fun h₃ hs₃ => ?_
    have up₃ : ∀ b o, h₂.get? b = some o → h₃.get? b = some o := fun b o e => hs₃ b o (Nat.ne_of_lt (Heap.lt_size e)) e
    have up₁ : ∀ b o, b ∉ wr → H.get? b = some o → h₃.get? b = some o := fun b o hb e => up₃ b o (hk₂ b o hb (hk₁ b o hb e))
    have hn₃ : h₃.Ns cenv.locals m' := hn'.at' fun o e => up₁ _ o hCw e
    show wpAny _ _ (assignInOrder [PySem.assign (.Name kn k2) cenv, PySem.assign (.Name xn x2) cenv] [.int j t, .str k t']) _ _ _
    refine assignInOrder_cons (wpAny_assign_Name (wpAny_storeName_local hk hn₃ (fun h₄ hn₄ hs₄ => ?_) hp))
    refine assignInOrder_cons (wpAny_assign_Name (wpAny_storeName_local hx hn₄ (fun h₅ hn₅ hs₅ => ?_) hp))
    refine assignInOrder_nil ?_
    have up₅ : ∀ b o, b ≠ cenv.locals → h₃.get? b = some o → h₅.get? b = some o := fun b o hb e => hs₅.extBut b o hb (hs₄.extBut b o hb e)
    have hst₅ : St (j + 1) h₅ := W.frame _ _ _ hst₂ fun b hb o e => up₅ b o (fun h => hCf (h ▸ hb)) (up₃ b o e)
    have hacc₅ : h₅.DictOf (strKind prog w) D kvs := hacc'.at fun o e => up₅ D o hDC (up₁ D o hDw e)
    refine wpAny_Name (wpAny_loadName_local hf hx hn₅ (by exact if_pos rfl) ?_) hb2
    refine wpAny_Name (wpAny_loadName_local hf hk hn₅ (by show (if kn = xn then _ else if kn = kn then _ else _) = _; rw [if_neg hne, if_pos rfl]) ?_) hb1
    have hklen : kvs.length = j := by
      have := congrArg List.length hkeys
      rw [List.length_map, List.length_take] at this; omega
    refine wpAny_dictSet_pairs (knd := strKind prog w) (k := k) (hsz := by omega) (show Value.isStrOf k (.str k t') = true by simp [Value.isStrOf]) hacc₅ fun h₆ hl₆ hs₆ => ?_
    have hnot : k ∉ kvs.map (·.1) := by
      rw [hkeys]
      intro hmem
      obtain ⟨i, hi⟩ := List.mem_iff_getElem?.mp hmem
      have hij : i < j := by
        rcases Nat.lt_or_ge i j with h | h
        · exact h
        · rw [List.getElem?_eq_none (by rw [List.length_take]; omega)] at hi; cases hi
      rw [List.getElem?_take_of_lt hij] at hi
      have := (List.getElem?_inj (by omega) hnd).mp (hi.trans hkj.symm)
      omega
    rw [stored_app hnot] at hl₆
    have htk : ks.take (j + 1) = ks.take j ++ [k] := by rw [List.take_add_one, hkj]; rfl
    refine ⟨ks.length + 1 - (j + 1), by omega, j + 1, h₆, _, _, kvs ++ [(k, .int j t)], rfl, rfl, hlt', ?_, hl₆, hn₅.sameBut hs₆ (Ne.symm hDC), ?_, ?_, fun b o hbC hbw hbD e => hs₆.extBut b o hbD (up₅ b o hbC (up₁ b o hbw (hkeep b o hbC hbw hbD e)))⟩
    · exact W.frame _ _ _ hst₅ fun b hb o e => hs₆.extBut b o (fun h => hDf (h ▸ hb)) e
    · rw [List.map_append, hkeys, htk]; rfl
    · rw [htk, tabFrom_app]
      have hl : 0 + (ks.take j).length = j := by rw [List.length_take]; omega
      rw [hl]
      exact flat_app hflat (Flat.int _ _)
  · have hje : j = ks.length := by omega
    subst hje
    refine W.done _ _ _ hst' fun h₁ tk₁ hk₁ => ?_
    rw [List.take_length] at hflat
    exact hR h₁ tk₁ m' kvs (hn'.at' fun o e => hk₁ _ o hCw e) (hacc'.at fun o e => hk₁ _ o hDw e) hflat fun b o hbC hbw hbD e => hk₁ b o hbw (hkeep b o hbC hbw hbD e)
variable {E : Value → Shared → Prop} {s : Shared} {env : Env}
/-- enumerate of a list of texts, each text put into a new dict with its place -/
theorem dictEnum {kn xn : Str} {k1 k2 x1 x2 : Pos} {kk : Nat} {tp : Pos} {iter : Expr} {scope : Scope} {cl : List (Str × Addr)} {pos : Pos} {l : Addr} {ks : List Str} {vs : List Value} {Q : Value → Shared → Prop}
    (hh : A.handled = none) (hl : s.heap.IsList l vs.toArray) (hvs : ∀ (i : Nat) (k : Str), ks[i]? = some k → ∃ t, vs[i]? = some (Value.str k t)) (hlen : vs.length = ks.length) (hnd : ks.Nodup) (hsz : ks.length ≤ sizeLine)
    (hcell : ∀ y ∈ scope.names, y.2 ≠ .cell) (hkind : scope.kind = .function) (hk : scope.names.lookup kn = some .local) (hx : scope.names.lookup xn = some .local) (hne : kn ≠ xn) (hb1 : (kn == ("__debug__" : Str)) = false) (hb2 : (xn == ("__debug__" : Str)) = false)
    (hQ : ∀ D h' tk kvs, s.heap.objs.size ≤ D → h'.DictOf (PySem.strKind prog w) D kvs → FlatPairs PyData.str kvs (tabFrom 0 ks) → (∀ b o, s.heap.get? b = some o → h'.get? b = some o) → Q (.ref D) { s with heap := h', toks := tk }) :
    wpAny (model prog w) A (call (.type "enumerate") [.ref l]) (fun xv s₁ => wpAny (model prog w) A (pyIter xv) (fun it s₂ => wpAny (model prog w) A newDict (fun acc s₃ =>
      wpAny (model prog w) A (newFunctionEnv scope env.globals cl [] env.qual none .none (some env)) (fun cenv s₄ =>
        codeAny (model prog w) A (.compStart (.DictComp (.Name xn x1) (.Name kn k1) [⟨.Tuple [.Name kn k2, .Name xn x2] kk tp, iter, [], 0⟩] scope pos) 0 it acc { cenv with scope := relabel scope env }) (compPost (model prog w) A E none Q acc cenv.locals) s₄) E s₃) E s₂) E s₁) E s := by
  have hlt : l < s.heap.objs.size := by obtain ⟨_, e, _⟩ := hl; exact Heap.lt_size e
  refine call_enumerate_list hl fun h' hE hI hsz' hk' => ?_
  refine wpAny_pyIter_enum hE ?_
  have hl' : h'.IsList l vs.toArray := let ⟨o, e, r⟩ := hl; ⟨o, hk' _ _ e, r⟩
  have W := WalksT.enumerate (prog := prog) (w := w) hh (s.heap.objs.size + 1) s.heap.objs.size l (Nat.succ_ne_self _) (Nat.ne_of_lt (Nat.lt_succ_of_lt hlt)) (Nat.ne_of_lt hlt) vs.toArray
  rw [show vs.toArray.size = ks.length by simp [hlen]] at W
  refine wpAny_newObj_type (wpAny_newFunctionEnv hcell (by intro y hy; simp at hy) (fun h₁ hns₁ hsb₁ => ?_) hkind)
  dsimp only at hns₁ hsb₁ ⊢
  have hnew : (h'.push { cls := .type "dict", dict := none, data := .dict #[] }).DictOf (PySem.strKind prog w) h'.objs.size [] := Heap.DictOf.new h'
  generalize hH2 : h'.push { cls := .type "dict", dict := none, data := .dict #[] } = H2 at hns₁ hsb₁ hnew ⊢
  have hC : H2.objs.size = h'.objs.size + 1 := by rw [← hH2, Heap.size_push]
  have hDC : h'.objs.size ≠ H2.objs.size := by rw [hC]; exact Nat.ne_of_lt (Nat.lt_succ_self _)
  have below : ∀ b, b < h'.objs.size → b ≠ H2.objs.size ∧ b ≠ h'.objs.size := fun b hb => ⟨by rw [hC]; exact Nat.ne_of_lt (Nat.lt_succ_of_lt hb), Nat.ne_of_lt hb⟩
  have hfp : ∀ b ∈ [s.heap.objs.size + 1, s.heap.objs.size, l], b < h'.objs.size := fun b hb => by
    simp only [List.mem_cons, List.not_mem_nil, or_false] at hb
    rw [hsz']
    rcases hb with e | e | e
    · rw [e]; exact Nat.lt_succ_self _
    · rw [e]; exact Nat.lt_add_of_pos_right (by decide)
    · rw [e]; exact Nat.lt_trans hlt (Nat.lt_add_of_pos_right (by decide))
  have hle : s.heap.objs.size ≤ h'.objs.size := by rw [hsz']; exact Nat.le_add_right _ _
  have hDf : h'.objs.size ∉ [s.heap.objs.size + 1, s.heap.objs.size, l] := fun hm => Nat.lt_irrefl _ (hfp _ hm)
  have hCf : H2.objs.size ∉ [s.heap.objs.size + 1, s.heap.objs.size, l] := fun hm => by have := hfp _ hm; rw [hC] at this; exact Nat.lt_irrefl _ (Nat.lt_of_succ_lt this)
  have old : ∀ b o, h'.get? b = some o → h₁.get? b = some o := fun b o e => hsb₁.extBut b o (below b (Heap.lt_size e)).1 (Heap.get?_push_of_some _ (hH2 ▸ Heap.get?_push_of_some _ e))
  have hacc : h₁.DictOf (PySem.strKind prog w) h'.objs.size [] := hnew.at fun o e => hsb₁.extBut _ _ hDC (Heap.get?_push_of_some _ e)
  have hst₁ := W.frame _ _ _ (⟨⟨_, hE⟩, hI, hl'⟩ : _ ∧ _ ∧ _) fun b _ o e => old b o e
  have loop : ∀ s₃ : Shared, s₃ = { s with heap := h₁, toks := s.toks + ([] : List (Str × Value)).length } →
      codeAny (model prog w) A (.compLoop (.DictComp (.Name xn x1) (.Name kn k1) [⟨.Tuple [.Name kn k2, .Name xn x2] kk tp, iter, [], 0⟩] scope pos) 0 (.ref (s.heap.objs.size + 1)) (.ref h'.objs.size) (compEnvC scope cl H2.objs.size env))
        (compPost (model prog w) A E none Q (.ref h'.objs.size) H2.objs.size) s₃ := by
    rintro s₃ rfl
    refine dictWalkT (cenv := compEnvC scope cl H2.objs.size env) W hh hvs hnd (lookup_relabel_local hk) (lookup_relabel_local hx) hne (by simp [compEnvC, relabel, hkind]) (by simp [compEnvC, relabel, hkind]) hb1 hb2 hDC hDf hCf hst₁ hacc hns₁ (fun h₂ tk m' kvs hn ha hF hk₂ => ?_) hsz
    refine ⟨m', hn, fun h₃ hs₃ => hQ h'.objs.size h₃ tk kvs hle (ha.at fun o e => hs₃.extBut _ _ hDC e) hF fun b o e => ?_⟩
    have hbs := Heap.lt_size e
    have hb2 : b < h'.objs.size := Nat.lt_of_lt_of_le hbs hle
    refine hs₃.extBut b o (below b hb2).1 (hk₂ b o (below b hb2).1 (fun hm => ?_) (below b hb2).2 (old b o (hk' b o e)))
    simp only [List.mem_cons, List.not_mem_nil, or_false] at hm
    rcases hm with e | e
    · rw [e] at hbs; exact Nat.lt_irrefl _ (Nat.lt_of_succ_lt hbs)
    · rw [e] at hbs; exact Nat.lt_irrefl _ hbs
  exact codeAny_compStart_dict (loop _ rfl) (W.self 0 _ _ _ hst₁ (loop _ rfl))
end
theorem Reps.strs {z : Zw} {O : Addr → Obj → Prop} : ∀ {ks : List Str} {vs : List Value}, Reps z O (ks.map .str) vs → ∀ (i : Nat) (k : Str), ks[i]? = some k → ∃ t, vs[i]? = some (Value.str k t)
  | [], _, _, i, k, h => by simp at h
  | x :: ks, _, ⟨v, r, e, ⟨t, a⟩, b⟩, 0, k, h => by subst e; subst a; simp at h; subst h; exact ⟨t, by simp⟩
  | x :: ks, _, ⟨v, r, e, ⟨t, a⟩, b⟩, i + 1, k, h => by subst e; obtain ⟨t', h'⟩ := Reps.strs b i k (by simpa using h); exact ⟨t', by simpa using h'⟩
theorem Reps.ofStrs {z : Zw} {O : Addr → Obj → Prop} : ∀ {ks : List Str} {vs : List Value}, StrsAre vs ks → Reps z O (ks.map .str) vs
  | _, _, .nil => rfl
  | _, _, .cons n t h => ⟨_, _, rfl, ⟨t, rfl⟩, Reps.ofStrs h⟩
section
variable {C : Cx} {sc : Scope} {env : Env} {Γ : Gx} {μ : Mu} {d u : Nat}
/-- a new dict of texts -/
theorem AtH.newTab {τ : List (Dv × Value)} {hp h' : Heap} {m : Str → Option Value} {N : Led} {D : Addr} {kvs : List (Str × Value)} {T : List (PyData × PyData)} {tk : Nat} (hz : C.z.b = false) (h2 : 2 < C.h₀.objs.size) (a : AtH C Γ τ hp m N) (hD : hp.objs.size ≤ D) (hd : h'.DictOf (PySem.strKind Mine.rw0.row.prog C.w) D kvs) (hf : FlatPairs PyData.str kvs T)
    (hk : ∀ b o, hp.get? b = some o → h'.get? b = some o) : At C Γ ((.tab T, .ref D) :: τ) { C.s0 with heap := h', toks := tk } := by
  obtain ⟨o, ho, hdo⟩ := Heap.dictOf_iff.mp hd
  have hL : C.L < D := Nat.lt_of_lt_of_le a.F.ns.lt hD
  have h0 : C.h₀.get? D = none := Heap.get?_none_of_le (Nat.le_of_lt (Nat.lt_of_le_of_lt a.F.above hL))
  have hlt : ∀ p ∈ C.X ++ N, p.1 ≠ D := fun p hp => Nat.ne_of_lt (Nat.lt_of_lt_of_le (Heap.lt_size (a.nw p hp).1) hD)
  have N' : News C.h₀ C.L h' ((D, o) :: (C.X ++ N)) := fun p hp => by
    rcases List.mem_cons.mp hp with rfl | hp
    · exact ⟨ho, Nat.ne_of_gt hL, h0⟩
    · exact ⟨hk _ _ (a.nw p hp).1, (a.nw p hp).2⟩
  have hs : (D == sysModules) = false := by
    have h3 : 2 < D := Nat.lt_of_lt_of_le h2 (Nat.le_trans a.F.above (Nat.le_of_lt hL))
    exact beq_false_of_ne fun e => by rw [e] at h3; exact absurd h3 (by decide)
  exact ⟨h', tk, m, (D, o) :: N, rfl, zt_no hz, (a.new (a.F.keeps hk) N' hlt).push ⟨D, o, rfl, .inl (.head _), hs, kvs, hdo, hf⟩⟩
theorem Ev.dictEnum {e : Expr} {rx kn xn : Str} {rp cp k1 k2 x1 x2 tp p : Pos} {kk : Nat} {scope : Scope} {cl : List (Str × Addr)} {ks : List Str} (hO : Ok C d u) (hz : C.z.b = false) {c : Value} {dd : Option Addr} {n2 : Nat} {sl : Array (Option Value)} (ho2 : List.lookup 2 (Mine.K C.w.params) = some ⟨c, dd, .dict #[] n2, sl⟩)
    (hn : Ev C sc env Γ (.Name rx rp) (.val (.type "enumerate"))) (he : Ev C sc env Γ e (dstrs ks)) (hnd : ks.Nodup) (hsz : ks.length ≤ sizeLine)
    (hc : eval (.Call (.Name rx rp) [e] [] cp) env = (do let f ← eval (.Name rx rp) env; callWith cp f [] (backTo cp (starEach [e] env)) (backToKw cp (keywordEach [] env))))
    (hse : starEach [e] env = [(false, eval e env)]) (hclos : closureFor scope env = pure cl) (hcell : ∀ y ∈ scope.names, y.2 ≠ .cell) (hkind : scope.kind = .function)
    (hnames : ∀ y ∈ scope.names, y.2 = .local → scope.names.lookup y.1 = some .local) (hk : scope.names.lookup kn = some .local) (hx : scope.names.lookup xn = some .local) (hne : kn ≠ xn) (hb1 : (kn == ("__debug__" : Str)) = false) (hb2 : (xn == ("__debug__" : Str)) = false)
    (hs : ∀ v, foldedSetIterable (.Call (.Name rx rp) [e] [] cp) env v = pure v) :
    Ev C sc env Γ (.DictComp (.Name xn x1) (.Name kn k1) [⟨.Tuple [.Name kn k2, .Name xn x2] kk tp, .Call (.Name rx rp) [e] [] cp, [], 0⟩] scope p) (.tab (tabFrom 0 ks)) := fun τ s E h => by
  rw [arm_eval_DictComp]
  refine wpAny_comprehension_free (use := none) rfl hs hclos hkind hnames (Call_ (wpAny_mono (hn τ s E h) (fun fv s₁ h₁ => ?_) fun _ _ e => e) hc)
  obtain ⟨O, rfl⟩ := h₁.rep (.head _)
  refine PyProof.Rows.callWith_type1 (wpAny_mono ((Evs.cons he Evs.nil hse) cp τ s₁ E h₁.pop1) (fun vs s₂ h₂ => ?_) fun _ _ e => e) hse rfl
  obtain ⟨hp, tk, m, N, rfl, _, a, v, r, rfl, hr, rfl⟩ := h₂
  obtain ⟨l, vs, rfl, hl, hrs⟩ := a.list hO hr
  have hlen : vs.length = ks.length := by rw [hrs.length, List.length_map]
  exact Mine.dictEnum rfl hl (Reps.strs hrs) hlen hnd hsz hcell hkind hk hx hne hb1 hb2 fun D h' tk' kvs hD hd hf hk' =>
    a.newTab hz (Heap.lt_size (hO.X _ _ ho2)) hD hd hf hk'
set_option maxRecDepth 100000 in
/-- words split at a text -/
theorem Ev.split {o e : Expr} {x y : Str} {ap p : Pos} {pl : Sem Bool} (hz : C.z.b = false) (ho : Ev C sc env Γ o (.str x)) (he : Ev C sc env Γ e (.str y)) (hy : (y.length == 0) = false) (hl : x.length + 2 ≤ sizeLine)
    (hc : eval (.Call (.Attribute o "split" ap) [e] [] p) env = (do
      let ov ← eval o env
      standAt ap.atName
      let (f, first) ← holding [ov] (getMethod ov "split" pl)
      callWith p f first (backTo p (starEach [e] env)) []))
    (hs : starEach [e] env = [(false, eval e env)]) : Ev C sc env Γ (.Call (.Attribute o "split" ap) [e] [] p) (dstrs (Txt.split x y)) :=
  fun τ s E h => MethodCall_ (wpAny_mono (ho τ s E h) (fun v s₁ h₁ => by
    obtain ⟨_, t1, rfl⟩ := h₁.rep (.head _)
    refine GM.split ?_
    refine callWith_method1 (wpAny_mono ((Evs.cons he Evs.nil hs) p τ s₁ E h₁.pop1) (fun vs s₂ h₂ => ?_) fun _ _ e => e) hs rfl
    obtain ⟨g, tk, m, N, rfl, z, a, v, r, rfl, ⟨t2, rfl⟩, rfl⟩ := h₂
    refine KSpl.split1 a.F a.nw hy (fun D l h' k e hst F' N' hlt => ?_) hl
    have hsub : ∀ p ∈ N, p ∈ (D, W.listOf (strValues l).toArray 0) :: N := fun _ hp => .tail _ hp
    refine ⟨h', k, m, _, rfl, zt_no hz, (AtH.new a F' N' fun p hp => Nat.ne_of_lt (hlt p hp)).push ⟨_, _, strValues l, rfl, .inl (.head _), ⟨rfl, _, rfl⟩, ?_⟩⟩
    rw [e] at hst
    exact Reps.ofStrs hst) fun _ _ e => e) hc
/-- a table of texts under a global name -/
theorem Ev.globTab {x : Str} {p : Pos} {a : Addr} {o : Obj} {T : List (PyData × PyData)} (hO : Ok C d u) (hn : nsIn (Mine.K C.w.params) mainGlobals x = some (some (.ref a))) (ho : List.lookup a (Mine.K C.w.params) = some o) (hT : TabO C.w a o T) (hx : env.kindOf x = some .globalImplicit) (hg : env.globals = mainGlobals := by kernel_rfl) (hk : env.scope.kind = .function := by kernel_rfl) (hb : (x == ("__debug__" : Str)) = false := by kernel_rfl) :
    Ev C sc env Γ (.Name x p) (.tab T) := fun τ s E h => by
  obtain ⟨hp, tk, m, N, rfl, z, a⟩ := id h
  exact nameG_K a.F hO.X (topRead_of hO.T) hn ⟨hp, tk, m, N, rfl, z, a.push ⟨_, o, rfl, .inr (hO.obK _ _ ho), hT⟩⟩ hg hk hx hb
/-- the table that a dict's entries spell -/
noncomputable def tabE : List DictEntry → List (PyData × PyData)
  | [] => []
  | e :: r => (match e.key with | .str k _ => PyData.str k | _ => .none, match e.val with | .int v _ => PyData.int v | _ => .none) :: tabE r
noncomputable def keyE : List DictEntry → List (Str × Value)
  | [] => []
  | e :: r => (match e.key with | .str k _ => k | _ => default, e.val) :: keyE r
noncomputable def entOk (P : PySem.Params) (e : DictEntry) : Prop := ∃ k t v u, e = Mine.ent P k t v u
theorem entAll {w : World} : ∀ {es : List DictEntry}, (∀ e ∈ es, entOk w.params e) → Pairs (PySem.strKind Mine.rw0.row.prog w) es (keyE es) ∧ FlatPairs PyData.str (keyE es) (tabE es) ∧ ∀ e ∈ es, ∃ k, (PySem.strKind Mine.rw0.row.prog w).is k e.key = true ∧ e.hash = (PySem.strKind Mine.rw0.row.prog w).hash k
  | [], _ => ⟨.nil, .nil, fun _ h => nomatch h⟩
  | e :: es, h => by
    obtain ⟨k, t, v, u, rfl⟩ := h e (.head _)
    obtain ⟨h1, h2, h3⟩ := entAll fun e' he => h e' (.tail _ he)
    refine ⟨.cons (kv := (k, .int v u)) (by show Value.isStrOf k (.str k t) = true; simp [Value.isStrOf]) rfl h1, .cons (Flat.int v u) h2, fun e' he => ?_⟩
    rcases List.mem_cons.mp he with rfl | he
    · exact ⟨k, by show Value.isStrOf k (.str k t) = true; simp [Value.isStrOf], rfl⟩
    · exact h3 e' he
theorem tabO_of {w : World} {a : Addr} {es : List DictEntry} {n : Nat} (ha : (a == sysModules) = false) (h : ∀ e ∈ es, entOk w.params e) (hnd : ((keyE es).map (·.1)).Nodup) : TabO w a { cls := .type "dict", data := .dict es.toArray n } (tabE es) :=
  ⟨ha, keyE es, ⟨es.toArray, n, ⟨rfl, rfl, rfl⟩, rfl, fun e he => (entAll h).2.2 e (by simpa using he), by simpa using (entAll h).1, hnd⟩, (entAll h).2.1⟩
end
end Mine
end PEv17

section PEv18
open PySem PySem.W PySem.Spec PySem.Calls PyProof.Rows PySem.SeqAt

namespace Mine
noncomputable abbrev drows (rows : List (List Int)) : Dv := .lst (rows.map dints)
noncomputable def fID (g : Int → Dv) : Dv → Dv
  | .int a => g a
  | d => d
noncomputable def fSD (g : Str → Dv) : Dv → Dv
  | .str a => g a
  | d => d
theorem len0 {α : Type} {P : List α → Prop} (h : P []) : ∀ vs : List α, vs.length = 0 → P vs
  | [], _ => h
  | _ :: _, e => nomatch e
section
variable {C : Cx} {sc : Scope} {env : Env} {Γ : Gx} {μ : Mu} {d u : Nat} {scope : Scope} {cl : List (Str × Addr)} {x : Str} {elt iter : Expr} {px p : Pos}
theorem Ev.compID {ns : List Int} {g : Int → Dv} (hO : Ok C d u) (hz : C.z.b = false) (hit : Ev C sc env Γ iter (dints ns)) (hl : ns.length ≤ sizeLine)
    (hclos : closureFor scope env = pure cl) (hE : ∀ n ∈ ns, ∀ (X fl : Led) (Ca : Addr) (m : Str → Option Value), Ev (C.on2 X fl) sc (compEnvC scope cl Ca env) (CompG C Γ x (.int n) Ca m) elt (g n))
    (hcell : ∀ y ∈ scope.names, y.2 ≠ .cell) (hkind : scope.kind = .function)
    (hnames : ∀ y ∈ scope.names, y.2 = .local → scope.names.lookup y.1 = some .local) (hx : scope.names.lookup x = some .local) (hs : ∀ v, foldedSetIterable iter env v = pure v) :
    Ev C sc env Γ (.ListComp elt [⟨.Name x px, iter, [], 0⟩] scope p) (.lst (ns.map g)) :=
  (EvC.z (EvC.comp (f := fID g) hO (Ev.c hit hz) (by rw [List.length_map]; exact hl) (fun dv hdv => by
    obtain ⟨n, hn, rfl⟩ := List.mem_map.mp hdv
    exact ElE.of hz (hE n hn)) hclos hcell hkind hnames hx hs) hz).to (by rw [List.map_map]; rfl)
theorem Ev.compSD {ns : List Str} {g : Str → Dv} (hO : Ok C d u) (hz : C.z.b = false) (hit : Ev C sc env Γ iter (dstrs ns)) (hl : ns.length ≤ sizeLine)
    (hclos : closureFor scope env = pure cl) (hE : ∀ n ∈ ns, ∀ (X fl : Led) (Ca : Addr) (m : Str → Option Value), Ev (C.on2 X fl) sc (compEnvC scope cl Ca env) (CompG C Γ x (.str n) Ca m) elt (g n))
    (hcell : ∀ y ∈ scope.names, y.2 ≠ .cell) (hkind : scope.kind = .function)
    (hnames : ∀ y ∈ scope.names, y.2 = .local → scope.names.lookup y.1 = some .local) (hx : scope.names.lookup x = some .local) (hs : ∀ v, foldedSetIterable iter env v = pure v) :
    Ev C sc env Γ (.ListComp elt [⟨.Name x px, iter, [], 0⟩] scope p) (.lst (ns.map g)) :=
  (EvC.z (EvC.comp (f := fSD g) hO (Ev.c hit hz) (by rw [List.length_map]; exact hl) (fun dv hdv => by
    obtain ⟨n, hn, rfl⟩ := List.mem_map.mp hdv
    exact ElE.of hz (hE n hn)) hclos hcell hkind hnames hx hs) hz).to (by rw [List.map_map]; rfl)
/-- a call without arguments -/
theorem Ev.call0 {y : Str} {q px : Pos} {f : Addr} {d' u' : Nat} {r : Dv} (hO : Ok C d u) (hn : nsIn (Mine.K C.w.params) mainGlobals y = some (some (.ref f))) (hkp : keepIn (Mine.K C.w.params) (.ref f) = true) (hc : CallOk C.z f [] d' u' r) (hd : d' ≤ d := by decide) (hu : u' ≤ u := by decide)
    (hx : env.kindOf y = some .globalImplicit := by kernel_rfl) (hg : env.globals = mainGlobals := by kernel_rfl) (hk : env.scope.kind = .function := by kernel_rfl) (hb : (y == ("__debug__" : Str)) = false := by kernel_rfl) (hsc : sc.kind = .function := by kernel_rfl)
    (he : eval (.Call (.Name y px) [] [] q) env = (do let f ← eval (.Name y px) env; callWith q f [] (backTo q (starEach [] env)) (backToKw q (keywordEach [] env))) := by kernel_rfl) : Ev C sc env Γ (.Call (.Name y px) [] [] q) r :=
  fun τ s E h => by
  refine Call_ ?_ he
  obtain ⟨hp, tk, m, N, rfl, z, a⟩ := id h
  refine nameG_K a.F hO.X (topRead_of hO.T) hn ?_ hg hk hx hb
  exact callWith_K0 (hO.X.keeps a.F.keep) hkp (hc C sc rfl (hO.less hd hu) hsc Γ τ [] _ E ⟨hp, tk, m, N, rfl, z, a, rfl⟩)
section
variable {X fl : Led}
theorem Ev.call2 {e : Expr} {es : List Expr} {y : Str} {q px : Pos} {f : Addr} {ds : List Dv} {d' u' : Nat} {r : Dv} (hO : Ok C d u) (hn : nsIn (Mine.K C.w.params) mainGlobals y = some (some (.ref f))) (hkp : keepIn (Mine.K C.w.params) (.ref f) = true) (ha : Evs (C.on2 X fl) sc env Γ (e :: es) ds) (hc : CallOk C.z f ds d' u' r) (hd : d' ≤ d := by decide) (hu : u' ≤ u := by decide)
    (hx : env.kindOf y = some .globalImplicit := by kernel_rfl) (hg : env.globals = mainGlobals := by kernel_rfl) (hk : env.scope.kind = .function := by kernel_rfl) (hb : (y == ("__debug__" : Str)) = false := by kernel_rfl) (hsc : sc.kind = .function := by kernel_rfl)
    (he : eval (.Call (.Name y px) (e :: es) [] q) env = (do let f ← eval (.Name y px) env; callWith q f [] (backTo q (starEach (e :: es) env)) (backToKw q (keywordEach [] env))) := by kernel_rfl)
    (hs : starEach (e :: es) env = (false, eval e env) :: starEach es env := by kernel_rfl) (hs2 : (List.any (backTo q (starEach es env)) fun x => x.1) = false := by kernel_rfl) : Ev (C.on2 X fl) sc env Γ (.Call (.Name y px) (e :: es) [] q) r :=
  Ev.call (hO.on2 X fl) hn hkp ha hc hd hu hx hg hk hb hsc he hs hs2
theorem Ev.globi2 {y : Str} {q : Pos} {i : Int} {t : Tok} (hO : Ok C d u) (hn : nsIn (Mine.K C.w.params) mainGlobals y = some (some (.int i t))) (hx : env.kindOf y = some .globalImplicit) (hg : env.globals = mainGlobals := by kernel_rfl) (hk : env.scope.kind = .function := by kernel_rfl) (hb : (y == ("__debug__" : Str)) = false := by kernel_rfl) :
    Ev (C.on2 X fl) sc env Γ (.Name y q) (.int i) := Ev.globi (hO.on2 X fl) hn hx hg hk hb
theorem Ev.globTab2 {y : Str} {q : Pos} {a : Addr} {o : Obj} {T : List (PyData × PyData)} (hO : Ok C d u) (hn : nsIn (Mine.K C.w.params) mainGlobals y = some (some (.ref a))) (ho : List.lookup a (Mine.K C.w.params) = some o) (hT : TabO C.w a o T) (hx : env.kindOf y = some .globalImplicit) (hg : env.globals = mainGlobals := by kernel_rfl) (hk : env.scope.kind = .function := by kernel_rfl) (hb : (y == ("__debug__" : Str)) = false := by kernel_rfl) :
    Ev (C.on2 X fl) sc env Γ (.Name y q) (.tab T) := Ev.globTab (hO.on2 X fl) hn ho hT hx hg hk hb
end
end
end Mine
end PEv18

section PNetD
open PySem PySem.W PySem.Spec PySem.Calls PyProof.Rows PySem.SeqAt

namespace Mine
noncomputable abbrev Net := Int × Int × Int
noncomputable def InN (s : Net) : Prop := (0 ≤ s.1 ∧ s.1 < 6) ∧ (s.2.1 = 1 ∨ s.2.1 = -1) ∧ (0 ≤ s.2.2 ∧ s.2.2 < 2)
noncomputable def netOn (nets : List Net) (k : Int) : Net := if 47 < k then nets.getD (k - 48).toNat (0, 1, 0) else (k + k.fdiv 36 * 3, 1 - (k.fdiv 6).fmod 2 * 2, k.fdiv 24)
noncomputable def netStep (nets : List Net) (s : Net) (k : Int) : Net := (((netOn nets k).1 + (netOn nets k).2.1 * s.1).fmod 6, (netOn nets k).2.1 * s.2.1, ((netOn nets k).2.2 + s.2.2).fmod 2)
noncomputable def netRow (nets : List Net) (row : List Int) : Net := row.foldl (netStep nets) (0, 1, 0)
section
variable {prog : Program} {w : World} {A : Around} {E : Value → Shared → Prop} {s : Shared} {h₀ : Heap} {L : Addr} {news : List (Addr × Obj)} {value slice : PySem.Expr} {l : Addr} {r0 r1 r2 : Value} {c : Nat} {u : Tok} {k : Int} {Q : Value → Shared → Prop}
end
end Mine
namespace Mine
theorem fm2 (a : Int) : a.fmod 2 = 0 ∨ a.fmod 2 = 1 := by
  have := Int.fmod_nonneg_of_pos a (b := 2) (by decide)
  have := Int.fmod_lt_of_pos a (b := 2) (by decide)
  omega
theorem netOn_lt {nets : List Net} {k : Int} (h : k < 48) : netOn nets k = (k + k.fdiv 36 * 3, 1 - (k.fdiv 6).fmod 2 * 2, k.fdiv 24) := by unfold netOn; rw [if_neg (by omega)]
theorem netOn_way {nets : List Net} {k : Int} (h : k < 48) : (netOn nets k).2.1 = 1 ∨ (netOn nets k).2.1 = -1 := by
  rw [netOn_lt h]; rcases fm2 (k.fdiv 6) with e | e <;> simp [e]
theorem netStep_in {nets : List Net} {s : Net} {k : Int} (hs : InN s) (hw : (netOn nets k).2.1 = 1 ∨ (netOn nets k).2.1 = -1) : InN (netStep nets s k) := by
  refine ⟨⟨Int.fmod_nonneg_of_pos _ (by decide), Int.fmod_lt_of_pos _ (by decide)⟩, ?_, ⟨Int.fmod_nonneg_of_pos _ (by decide), Int.fmod_lt_of_pos _ (by decide)⟩⟩
  show (netOn nets k).2.1 * s.2.1 = 1 ∨ (netOn nets k).2.1 * s.2.1 = -1
  rcases hs.2.1 with e | e <;> rcases hw with e' | e' <;> rw [e, e'] <;> decide
theorem take_netStep (nets : List Net) (s0 : Net) {ks : List Int} {i : Nat} {x : Int} (h : ks[i]? = some x) : (ks.take (i + 1)).foldl (netStep nets) s0 = netStep nets ((ks.take i).foldl (netStep nets) s0) x := by
  rw [List.take_add_one, h]; simp
theorem inN0 : InN (0, 1, 0) := ⟨⟨by decide, by decide⟩, .inl rfl, ⟨by decide, by decide⟩⟩
end Mine
namespace Mine
open PySem PySem.W PySem.Spec PySem.Calls PyProof.Rows PySem.SeqAt
end Mine
namespace Mine
end Mine
end PNetD

section PFineD
open PySem PySem.W PySem.Spec PySem.Calls PyProof.Rows

namespace Mine
open Float64 (cmp add sub mul div neg divmod isZero isFinite)
noncomputable def rt9 (x : UInt64) : Int := Flt.toInt Float64.nearestOf (mul (Float64.ofInt (10 ^ Int.toNat 9)) x)
noncomputable def yq (a1 a2 a3 : Int) : UInt64 × UInt64 × UInt64 := yiqF (oF a1) (oF a2) (oF a3)
noncomputable def yz (a1 a2 a3 : Int) : UInt64 × UInt64 × UInt64 := yiqr (yq a1 a2 a3).1 (yq a1 a2 a3).2.1 (yq a1 a2 a3).2.2
structure FineOk (a1 a2 a3 : Int) : Prop where
  f1 : isFinite (mul (Float64.ofInt (10 ^ Int.toNat 9)) (yz a1 a2 a3).1) = true
  f2 : isFinite (mul (Float64.ofInt (10 ^ Int.toNat 9)) (yz a1 a2 a3).2.1) = true
  f3 : isFinite (mul (Float64.ofInt (10 ^ Int.toNat 9)) (yz a1 a2 a3).2.2) = true
  e1 : rt9 (yz a1 a2 a3).1 = (2 * 10 ^ Int.toNat 9 * a1 + 255).fdiv 510
  e2 : rt9 (yz a1 a2 a3).2.1 = (2 * 10 ^ Int.toNat 9 * a2 + 255).fdiv 510
  e3 : rt9 (yz a1 a2 a3).2.2 = (2 * 10 ^ Int.toNat 9 * a3 + 255).fdiv 510
  up : yiqr (add (yq a1 a2 a3).1 (Float64.ofInt 2)) (yq a1 a2 a3).2.1 (yq a1 a2 a3).2.2 = (4607182418800017408, 4607182418800017408, 4607182418800017408)
  dn : yiqr (sub (yq a1 a2 a3).1 (Float64.ofInt 2)) (yq a1 a2 a3).2.1 (yq a1 a2 a3).2.2 = (0, 0, 0)
end Mine
end PFineD

section PDd
namespace Mine
/-- a colour and the sum of its greatest and its least -/
structure Q4 where
  a : Int
  b : Int
  c : Int
  s : Int
noncomputable def rot (v : Q4) : Q4 := ⟨v.s - v.b, v.s - v.c, v.s - v.a, v.s⟩
noncomputable def mir (v : Q4) : Q4 := ⟨v.a, v.c, v.b, v.s⟩
noncomputable def drk (v : Q4) : Q4 := ⟨v.a + (255 - v.s), v.b + (255 - v.s), v.c + (255 - v.s), 510 - v.s⟩
theorem Q4.ext' {v w : Q4} (h1 : v.a = w.a) (h2 : v.b = w.b) (h3 : v.c = w.c) (h4 : v.s = w.s) : v = w := by
  cases v; cases w; simp_all
noncomputable def rotN : Nat → Q4 → Q4
  | 0, v => v
  | n + 1, v => rot (rotN n v)
theorem rot6 (v : Q4) : rot (rot (rot (rot (rot (rot v))))) = v := by
  apply Q4.ext' <;> simp only [rot] <;> omega
theorem rotN_add (m n : Nat) (v : Q4) : rotN (m + n) v = rotN m (rotN n v) := by
  induction m with
  | zero => rw [Nat.zero_add]; rfl
  | succ m ih => rw [Nat.succ_add]; show rot _ = rot _; rw [ih]
theorem rotN_six (n : Nat) (v : Q4) : rotN (n + 6) v = rotN n v := by
  rw [rotN_add]
  congr 1
  exact rot6 v
theorem rotN_mod (n : Nat) (v : Q4) : rotN (n % 6) v = rotN n v := by
  have h := Nat.div_add_mod n 6
  generalize n / 6 = k at *
  generalize n % 6 = r at *
  subst h
  induction k with
  | zero => rw [Nat.mul_zero, Nat.zero_add]
  | succ k ih => rw [show 6 * (k + 1) + r = (6 * k + r) + 6 by omega, rotN_six, ih]
theorem rotN_eq {m n : Nat} (h : m % 6 = n % 6) (v : Q4) : rotN m v = rotN n v := by rw [← rotN_mod m, h, rotN_mod]
theorem mir_rot (v : Q4) : mir (rot v) = rotN 5 (mir v) := by
  apply Q4.ext' <;> simp only [rot, mir, rotN] <;> omega
theorem mir_rotN (n : Nat) (v : Q4) : mir (rotN n v) = rotN (5 * n) (mir v) := by
  induction n with
  | zero => rfl
  | succ n ih => rw [show rotN (n + 1) v = rot (rotN n v) from rfl, mir_rot, ih, ← rotN_add, Nat.mul_succ, Nat.add_comm]
theorem mir2 (v : Q4) : mir (mir v) = v := rfl
theorem drk2 (v : Q4) : drk (drk v) = v := by apply Q4.ext' <;> simp only [drk] <;> omega
theorem drk_rot (v : Q4) : drk (rot v) = rot (drk v) := by apply Q4.ext' <;> simp only [drk, rot] <;> omega
theorem drk_rotN (n : Nat) (v : Q4) : drk (rotN n v) = rotN n (drk v) := by
  induction n with
  | zero => rfl
  | succ n ih => show drk (rot _) = rot _; rw [drk_rot, ih]
theorem drk_mir (v : Q4) : drk (mir v) = mir (drk v) := rfl
/-- the deed of a net: mirrored, turned, darkened -/
noncomputable def act (q : Net) (v : Q4) : Q4 :=
  let w := rotN q.1.toNat (if q.2.1 = 1 then v else mir v)
  if q.2.2 = 1 then drk w else w
/-- one net behind another -/
noncomputable def netMul (p q : Net) : Net := ((p.1 + p.2.1 * q.1).fmod 6, p.2.1 * q.2.1, (p.2.2 + q.2.2).fmod 2)
theorem drk_act {P : Prop} [Decidable P] (v : Q4) : drk (if P then drk v else v) = if P then v else drk v := by
  split
  · exact drk2 v
  · rfl
theorem act_mul {p q : Net} (hp : 0 ≤ p.1) (hpw : p.2.1 = 1 ∨ p.2.1 = -1) (hpd : p.2.2 = 0 ∨ p.2.2 = 1) (hq : InN q) (v : Q4) : act p (act q v) = act (netMul p q) v := by
  obtain ⟨⟨q0, q6⟩, qs, ⟨d0, d2⟩⟩ := hq
  obtain ⟨p1, p2, p3⟩ := p
  obtain ⟨q1, q2, q3⟩ := q
  simp only at *
  have hqd : q3 = 0 ∨ q3 = 1 := by omega
  -- turning and mirroring
  have key : ∀ w : Q4, rotN p1.toNat (if p2 = 1 then rotN q1.toNat (if q2 = 1 then w else mir w) else mir (rotN q1.toNat (if q2 = 1 then w else mir w))) = rotN ((p1 + p2 * q1).fmod 6).toNat (if p2 * q2 = 1 then w else mir w) := by
    intro w
    have hm : ∀ x : Int, x.fmod 6 = x % 6 := fun x => Int.fmod_eq_emod_of_nonneg x (by decide)
    rw [hm]
    rcases hpw with rfl | rfl
    · rw [if_pos rfl, Int.one_mul, Int.one_mul, ← rotN_add]
      refine rotN_eq ?_ _
      omega
    · rw [if_neg (by decide), mir_rotN, ← rotN_add]
      rcases qs with rfl | rfl
      · rw [if_pos rfl, if_neg (by decide)]
        refine rotN_eq ?_ _
        omega
      · rw [if_neg (by decide), if_pos (by decide), mir2]
        refine rotN_eq ?_ _
        omega
  show (if p3 = 1 then drk (rotN p1.toNat (if p2 = 1 then (if q3 = 1 then drk (rotN q1.toNat (if q2 = 1 then v else mir v)) else rotN q1.toNat (if q2 = 1 then v else mir v)) else mir (if q3 = 1 then drk (rotN q1.toNat (if q2 = 1 then v else mir v)) else rotN q1.toNat (if q2 = 1 then v else mir v))))
     else rotN p1.toNat (if p2 = 1 then (if q3 = 1 then drk (rotN q1.toNat (if q2 = 1 then v else mir v)) else rotN q1.toNat (if q2 = 1 then v else mir v)) else mir (if q3 = 1 then drk (rotN q1.toNat (if q2 = 1 then v else mir v)) else rotN q1.toNat (if q2 = 1 then v else mir v)))) =
    if (p3 + q3).fmod 2 = 1 then drk (rotN ((p1 + p2 * q1).fmod 6).toNat (if p2 * q2 = 1 then v else mir v)) else rotN ((p1 + p2 * q1).fmod 6).toNat (if p2 * q2 = 1 then v else mir v)
  rw [← key v]
  generalize rotN q1.toNat (if q2 = 1 then v else mir v) = z
  have hz : rotN p1.toNat (if p2 = 1 then drk z else mir (drk z)) = drk (rotN p1.toNat (if p2 = 1 then z else mir z)) := by
    rw [drk_rotN]; congr 1; split <;> rfl
  rcases hpd with rfl | rfl <;> rcases hqd with rfl | rfl
  · rfl
  · exact hz
  · rfl
  · show drk (rotN p1.toNat (if p2 = 1 then drk z else mir (drk z))) = rotN p1.toNat (if p2 = 1 then z else mir z)
    rw [hz, drk2]
/-- the sum of a colour's greatest and least -/
noncomputable def q4 (c : Col) : Q4 := ⟨c.1, c.2.1, c.2.2, mxI c.1 c.2.1 c.2.2 + mnI c.1 c.2.1 c.2.2⟩
theorem le_mx (a b c : Int) : a ≤ mxI a b c ∧ b ≤ mxI a b c ∧ c ≤ mxI a b c := ⟨Int.le_max_left .., Int.le_trans (Int.le_max_left ..) (Int.le_max_right ..), Int.le_trans (Int.le_max_right ..) (Int.le_max_right ..)⟩
theorem mn_le (a b c : Int) : mnI a b c ≤ a ∧ mnI a b c ≤ b ∧ mnI a b c ≤ c := ⟨Int.min_le_left .., Int.le_trans (Int.min_le_right ..) (Int.min_le_left ..), Int.le_trans (Int.min_le_right ..) (Int.min_le_right ..)⟩
theorem max_or (a b : Int) : max a b = a ∨ max a b = b := (Int.le_total a b).elim (fun h => .inr (Int.max_eq_right h)) fun h => .inl (Int.max_eq_left h)
theorem min_or (a b : Int) : min a b = a ∨ min a b = b := (Int.le_total a b).elim (fun h => .inl (Int.min_eq_left h)) fun h => .inr (Int.min_eq_right h)
theorem mx_mem (a b c : Int) : mxI a b c = a ∨ mxI a b c = b ∨ mxI a b c = c := (max_or a (max b c)).imp id fun h => (max_or b c).imp h.trans h.trans
theorem mn_mem (a b c : Int) : mnI a b c = a ∨ mnI a b c = b ∨ mnI a b c = c := (min_or a (min b c)).imp id fun h => (min_or b c).imp h.trans h.trans
/-- the sum of a colour's greatest and least, and the bounds of both -/
noncomputable def Good (v : Q4) : Prop := v.s = mxI v.a v.b v.c + mnI v.a v.b v.c ∧ 0 ≤ mnI v.a v.b v.c ∧ mxI v.a v.b v.c < 256
theorem Good.in {v : Q4} (h : Good v) : InR (v.a, v.b, v.c) :=
  have m := mn_le v.a v.b v.c
  have M := le_mx v.a v.b v.c
  ⟨⟨Int.le_trans h.2.1 m.1, Int.lt_of_le_of_lt M.1 h.2.2⟩, ⟨Int.le_trans h.2.1 m.2.1, Int.lt_of_le_of_lt M.2.1 h.2.2⟩, Int.le_trans h.2.1 m.2.2, Int.lt_of_le_of_lt M.2.2 h.2.2⟩
theorem sub_mx (a b c s : Int) : mxI (s - b) (s - c) (s - a) = s - mnI a b c := by
  obtain ⟨h1, h2, h3⟩ := mn_le a b c
  refine (mxI_eq ⟨Int.sub_le_sub_left h2 _, Int.sub_le_sub_left h3 _, Int.sub_le_sub_left h1 _⟩ ?_).symm
  rcases mn_mem a b c with e | e | e <;> rw [e]
  · exact .inr (.inr rfl)
  · exact .inl rfl
  · exact .inr (.inl rfl)
theorem sub_mn (a b c s : Int) : mnI (s - b) (s - c) (s - a) = s - mxI a b c := by
  obtain ⟨h1, h2, h3⟩ := le_mx a b c
  refine (mnI_eq ⟨Int.sub_le_sub_left h2 _, Int.sub_le_sub_left h3 _, Int.sub_le_sub_left h1 _⟩ ?_).symm
  rcases mx_mem a b c with e | e | e <;> rw [e]
  · exact .inr (.inr rfl)
  · exact .inl rfl
  · exact .inr (.inl rfl)
theorem add_mx (a b c t : Int) : mxI (a + t) (b + t) (c + t) = mxI a b c + t := by
  obtain ⟨h1, h2, h3⟩ := le_mx a b c
  refine (mxI_eq ⟨Int.add_le_add_right h1 _, Int.add_le_add_right h2 _, Int.add_le_add_right h3 _⟩ ?_).symm
  rcases mx_mem a b c with e | e | e <;> rw [e]
  · exact .inl rfl
  · exact .inr (.inl rfl)
  · exact .inr (.inr rfl)
theorem add_mn (a b c t : Int) : mnI (a + t) (b + t) (c + t) = mnI a b c + t := by
  obtain ⟨h1, h2, h3⟩ := mn_le a b c
  refine (mnI_eq ⟨Int.add_le_add_right h1 _, Int.add_le_add_right h2 _, Int.add_le_add_right h3 _⟩ ?_).symm
  rcases mn_mem a b c with e | e | e <;> rw [e]
  · exact .inl rfl
  · exact .inr (.inl rfl)
  · exact .inr (.inr rfl)
theorem mir_mx (a b c : Int) : mxI a c b = mxI a b c := congrArg (max a) (Int.max_comm c b)
theorem mir_mn (a b c : Int) : mnI a c b = mnI a b c := congrArg (min a) (Int.min_comm c b)
theorem good_rot {v : Q4} (h : Good v) : Good (rot v) := by
  unfold Good rot at *
  obtain ⟨h1, h2, h3⟩ := h
  simp only [sub_mx, sub_mn]
  generalize mxI v.a v.b v.c = M at *
  generalize mnI v.a v.b v.c = N at *
  rw [h1, Int.add_sub_cancel, Int.add_comm M N, Int.add_sub_cancel]
  exact ⟨Int.add_comm .., h2, h3⟩
theorem good_mir {v : Q4} (h : Good v) : Good (mir v) := by
  unfold Good mir at *
  simp only [mir_mx, mir_mn]
  exact h
theorem good_drk {v : Q4} (h : Good v) : Good (drk v) := by
  unfold Good drk at *
  obtain ⟨h1, h2, h3⟩ := h
  simp only [add_mx, add_mn]
  generalize mxI v.a v.b v.c = M at *
  generalize mnI v.a v.b v.c = N at *
  generalize v.s = s at *
  subst h1
  refine ⟨?_, ?_, ?_⟩ <;> omega
theorem good_rotN {v : Q4} (h : Good v) : ∀ n, Good (rotN n v)
  | 0 => h
  | n + 1 => good_rot (good_rotN h n)
theorem good_act {v : Q4} (q : Net) (h : Good v) : Good (act q v) := by
  unfold act
  have h1 : Good (if q.2.1 = 1 then v else mir v) := by split; exact h; exact good_mir h
  have h2 := good_rotN h1 q.1.toNat
  simp only
  split
  · exact good_drk h2
  · exact h2
theorem good_q4 {c : Col} (h : InR c) : Good (q4 c) := by
  obtain ⟨a, b, d⟩ := c
  refine ⟨rfl, ?_, ?_⟩
  · show 0 ≤ mnI a b d
    rcases mn_mem a b d with e | e | e <;> rw [e]
    · exact h.1.1
    · exact h.2.1.1
    · exact h.2.2.1
  · show mxI a b d < 256
    rcases mx_mem a b d with e | e | e <;> rw [e]
    · exact h.1.2
    · exact h.2.1.2
    · exact h.2.2.2
noncomputable def colOf (v : Q4) : Col := (v.a, v.b, v.c)
theorem q4_col {v : Q4} (h : Good v) : q4 (colOf v) = v := by
  obtain ⟨h1, _⟩ := h
  apply Q4.ext' <;> first | rfl | exact h1.symm
/-- the deed of a net on a colour -/
noncomputable def deedC (q : Net) (c : Col) : Col := colOf (act q (q4 c))
theorem deedC_in {q : Net} {c : Col} (h : InR c) : InR (deedC q c) := (good_act q (good_q4 h)).in
theorem deedC_mul {p q : Net} (hp : 0 ≤ p.1) (hpw : p.2.1 = 1 ∨ p.2.1 = -1) (hpd : p.2.2 = 0 ∨ p.2.2 = 1) (hq : InN q) {c : Col} (hc : InR c) : deedC p (deedC q c) = deedC (netMul p q) c := by
  unfold deedC
  rw [q4_col (good_act q (good_q4 hc)), act_mul hp hpw hpd hq]
theorem deedC_one {c : Col} : deedC (0, 1, 0) c = c := rfl
theorem turn_row {d1 s a b c : Int} (h : d1 = 0 ∨ d1 = 1 ∨ d1 = 2 ∨ d1 = 3 ∨ d1 = 4 ∨ d1 = 5) :
    (deedR d1 s [a, b, c]).drop (deedT d1) ++ (deedR d1 s [a, b, c]).take (deedT d1) = [(rotN d1.toNat ⟨a, b, c, s⟩).a, (rotN d1.toNat ⟨a, b, c, s⟩).b, (rotN d1.toNat ⟨a, b, c, s⟩).c] := by
  have k : ∀ x : Int, s - (s - x) = x := fun x => by omega
  rcases h with rfl | rfl | rfl | rfl | rfl | rfl
  · rfl
  · rfl
  · show [c, a, b] = [s - (s - c), s - (s - a), s - (s - b)]
    rw [k, k, k]
  · show [s - a, s - b, s - c] = [s - (s - (s - a)), s - (s - (s - b)), s - (s - (s - c))]
    rw [k, k, k]
  · show [b, c, a] = [s - (s - (s - (s - b))), s - (s - (s - (s - c))), s - (s - (s - (s - a)))]
    rw [k, k, k, k, k, k]
  · show [s - c, s - a, s - b] = [s - (s - (s - (s - (s - c)))), s - (s - (s - (s - (s - a)))), s - (s - (s - (s - (s - b))))]
    rw [k, k, k, k, k, k]
/-- the law's own deed is that -/
theorem deedL_eq {q : Net} (hq : InN q) (c : Col) : deedL q.1 q.2.1 q.2.2 c.1 c.2.1 c.2.2 = [(deedC q c).1, (deedC q c).2.1, (deedC q c).2.2] := by
  obtain ⟨⟨q0, q6⟩, _, ⟨d0, d2⟩⟩ := hq
  obtain ⟨q1, q2, q3⟩ := q
  obtain ⟨a, b, c⟩ := c
  have h1 : q1 = 0 ∨ q1 = 1 ∨ q1 = 2 ∨ q1 = 3 ∨ q1 = 4 ∨ q1 = 5 := by dsimp only at q0 q6; omega
  have h3 : q3 = 0 ∨ q3 = 1 := by dsimp only at d0 d2; omega
  have hrow : ∃ x y z, (if q2 = 1 then [a, b, c] else [a, c, b]) = [x, y, z] ∧ (if q2 = 1 then (⟨a, b, c, mxI a b c + mnI a b c⟩ : Q4) else mir ⟨a, b, c, mxI a b c + mnI a b c⟩) = ⟨x, y, z, mxI a b c + mnI a b c⟩ := by
    by_cases h : q2 = 1
    · rw [if_pos h, if_pos h]; exact ⟨_, _, _, rfl, rfl⟩
    · rw [if_neg h, if_neg h]; exact ⟨_, _, _, rfl, rfl⟩
  obtain ⟨x, y, z, e1, e2⟩ := hrow
  show deedE q1 q3 _ (deedR q1 _ (if q2 = 1 then [a, b, c] else [a, c, b])) = [(act (q1, q2, q3) (q4 (a, b, c))).a, (act (q1, q2, q3) (q4 (a, b, c))).b, (act (q1, q2, q3) (q4 (a, b, c))).c]
  have e3 : act (q1, q2, q3) (q4 (a, b, c)) = if q3 = 1 then drk (rotN q1.toNat ⟨x, y, z, mxI a b c + mnI a b c⟩) else rotN q1.toNat ⟨x, y, z, mxI a b c + mnI a b c⟩ := by rw [← e2]; rfl
  rw [e1, e3, deedE, turn_row h1]
  generalize mxI a b c + mnI a b c = s
  have hs : ∀ n, (rotN n ⟨x, y, z, s⟩).s = s := fun n => by
    induction n with
    | zero => rfl
    | succ n ih => exact ih
  rcases h3 with rfl | rfl
  · simp
  · show [_ + 1 * (255 - s), _ + 1 * (255 - s), _ + 1 * (255 - s)] = [_ + (255 - (rotN q1.toNat ⟨x, y, z, s⟩).s), _ + (255 - (rotN q1.toNat ⟨x, y, z, s⟩).s), _ + (255 - (rotN q1.toNat ⟨x, y, z, s⟩).s)]
    rw [hs, Int.one_mul]
end Mine
end PDd

section PFl1
namespace Mine
open PySem PySem.Float64

/-- every m times a power of two, m up to 2 ^ 53, is a magnitude -/
theorem rep_of : ∀ (k m : Nat), m ≤ 2 ^ 53 → ∃ t, V t = m * 2 ^ k
  | 0, m, h => ⟨0 * 2 ^ 52 + m, V_at h (.inr rfl)⟩
  | k + 1, m, h => by
    by_cases h2 : 2 ^ 52 ≤ m
    · exact ⟨_, V_at h (.inl h2)⟩
    · obtain ⟨t, ht⟩ := rep_of k (2 * m) (by omega)
      exact ⟨t, by rw [ht, Nat.pow_succ]; ac_rfl⟩
theorem near_rep {W D k : Nat} (hD : 0 < D) (h : W ≤ D * 2 ^ (k + 53)) : ∃ t, dist W (D * V t) ≤ D * 2 ^ k := by
  have hp : 0 < D * 2 ^ k := Nat.mul_pos hD (Nat.two_pow_pos k)
  have hm : W / (D * 2 ^ k) ≤ 2 ^ 53 := by
    apply Nat.div_le_of_le_mul
    rw [Nat.pow_add] at h
    rw [Nat.mul_assoc]; exact h
  obtain ⟨t, ht⟩ := rep_of k _ hm
  refine ⟨t, ?_⟩
  have e : D * V t = (D * 2 ^ k) * (W / (D * 2 ^ k)) := by rw [ht]; ac_rfl
  rw [e]
  have h1 := Nat.div_add_mod W (D * 2 ^ k)
  have h2 := Nat.mod_lt W hp
  generalize (D * 2 ^ k) * (W / (D * 2 ^ k)) = X at *
  unfold dist
  omega
/-- the unit of rounding below 16 -/
@[irreducible] noncomputable def G : Nat := 2 ^ 1025
@[irreducible] noncomputable def T : Nat := 2 ^ 1074
theorem T_eq : T = G * 2 ^ 49 := by unfold T G; rw [← Nat.pow_add]
theorem T_pos0 : 0 < T := by unfold T; exact Nat.two_pow_pos _
theorem T_is : T = 2 ^ 1074 := by unfold T; rfl
theorem G_is : G = 2 ^ 1025 := by unfold G; rfl
theorem right_err {r : UInt64} {neg : Bool} {W D k : Nat} (hD : 0 < D) (hk : k < 1500) (R : Right r neg W D) (h : W ≤ D * 2 ^ (k + 53)) :
    isFinite r = true ∧ ∃ v : Nat, val r = sgn neg v ∧ D * v ≤ W + D * 2 ^ k ∧ W ≤ D * v + D * 2 ^ k := by
  obtain ⟨t, rfl, _, hi, hn⟩ := R
  have hlt : t < infMag := by
    rcases Nat.lt_or_eq_of_le ‹t ≤ infMag› with h1 | h1
    · exact h1
    · exfalso
      have h2 := hi.mp h1
      have h3 : D * ((2 ^ 54 - 1) * 2 ^ 2045) ≤ D * 2 ^ (k + 54) := by
        refine Nat.le_trans h2 ?_
        rw [show k + 54 = (k + 53) + 1 by omega, Nat.pow_succ, ← Nat.mul_assoc]
        omega
      have h4 := Nat.le_of_mul_le_mul_left h3 hD
      have h5 : (2 : Nat) ^ (k + 54) ≤ 2 ^ 1554 := Nat.pow_le_pow_right (by decide) (by omega)
      have h6 : ¬ (2 ^ 54 - 1) * 2 ^ 2045 ≤ 2 ^ 1554 := by decide +kernel
      exact h6 (Nat.le_trans h4 h5)
  obtain ⟨m, e, hd, hv⟩ := decode_pack neg hlt
  refine ⟨by unfold isFinite; rw [hd], V t, val_pack neg hlt, ?_⟩
  obtain ⟨t', ht'⟩ := near_rep hD h
  have := (hn hlt t').1
  have := Nat.le_trans this ht'
  unfold dist at this
  omega
theorem fin_decode {x : UInt64} (h : isFinite x = true) : ∃ a m e, decode x = .fin a m e := by
  unfold isFinite at h
  split at h
  · exact ⟨_, _, _, by assumption⟩
  · cases h
theorem val_pack0 (b : Bool) : val (zero b) = 0 := by cases b <;> decide +kernel
theorem fin_zero (b : Bool) : isFinite (zero b) = true := by cases b <;> decide +kernel
theorem sgn_abs {b : Bool} {S : Int} (h : b = decide (S < 0)) (v : Nat) : (sgn b v - S).natAbs = (v - S.natAbs : Int).natAbs := by
  unfold sgn; by_cases h2 : S < 0
  · rw [h, decide_eq_true h2, if_pos rfl]; omega
  · rw [h, decide_eq_false h2]; simp only [Bool.false_eq_true, if_false]; omega
/-- add, as the scaled ints see it -/
theorem add_err {x y : UInt64} (hx : isFinite x = true) (hy : isFinite y = true) {k : Nat} (hk : k < 1500) (h : (val x + val y).natAbs ≤ 2 ^ (k + 53)) :
    isFinite (add x y) = true ∧ val (add x y) ≤ val x + val y + (2 ^ k : Nat) ∧ val x + val y ≤ val (add x y) + (2 ^ k : Nat) := by
  obtain ⟨a, m, e, hdx⟩ := fin_decode hx
  obtain ⟨b, j, f, hdy⟩ := fin_decode hy
  obtain ⟨h0, h1⟩ := add_right hdx hdy
  by_cases hs : val x + val y = 0
  · rw [h0 hs, val_pack0]
    generalize (2 : Nat) ^ k = c
    exact ⟨fin_zero _, by omega, by omega⟩
  · obtain ⟨hf, v, hv, ha, hb⟩ := right_err Nat.one_pos hk (h1 hs) (by rwa [Nat.one_mul])
    refine ⟨hf, ?_⟩
    have := sgn_abs (b := decide (val x + val y < 0)) rfl v
    rw [hv]
    omega
theorem fin_neg {y : UInt64} (h : isFinite y = true) : isFinite (neg y) = true ∧ val (neg y) = -val y := by
  obtain ⟨b, j, f, hdy⟩ := fin_decode h
  exact ⟨by unfold isFinite; rw [neg_decode hdy], neg_val hdy⟩
theorem sgn_prod {a b : Bool} {m k : Nat} : sgn (a != b) (m * k) = sgn a m * sgn b k := by
  cases a <;> cases b <;> simp [sgn, Int.neg_mul, Int.mul_neg]
theorem sgn_sub_abs (c : Bool) (u v : Nat) : (sgn c u - sgn c v).natAbs = ((u : Int) - v).natAbs := by cases c <;> simp [sgn] <;> omega
theorem mul_err {x y : UInt64} (hx : isFinite x = true) (hy : isFinite y = true) {k : Nat} (hk : k < 1500) (h : (val x).natAbs * (val y).natAbs ≤ T * 2 ^ (k + 53)) :
    isFinite (mul x y) = true ∧ T * val (mul x y) ≤ val x * val y + (T * 2 ^ k : Nat) ∧ val x * val y ≤ T * val (mul x y) + (T * 2 ^ k : Nat) := by
  obtain ⟨a, m, e, hdx⟩ := fin_decode hx
  obtain ⟨b, j, f, hdy⟩ := fin_decode hy
  obtain ⟨hf, v, hv, ha, hb⟩ := right_err T_pos0 hk (by rw [T_is]; exact mul_right hdx hdy) h
  refine ⟨hf, ?_⟩
  have e1 : val x * val y = sgn (a != b) ((val x).natAbs * (val y).natAbs) := by
    rw [sgn_prod, val_natAbs hdx, val_natAbs hdy, ← val_eq hdx, ← val_eq hdy]
  have e2 : (T : Int) * val (mul x y) = sgn (a != b) (T * v) := by
    rw [hv, Nat.mul_comm, sgn_mul, Int.mul_comm]
  have := sgn_sub_abs (a != b) (T * v) ((val x).natAbs * (val y).natAbs)
  rw [e1, e2]
  have ha' : T * v ≤ (val x).natAbs * (val y).natAbs + T * 2 ^ k := ha
  have hb' : (val x).natAbs * (val y).natAbs ≤ T * v + T * 2 ^ k := hb
  generalize (val x).natAbs * (val y).natAbs = A at *
  generalize T * v = B at *
  generalize T * 2 ^ k = C at *
  omega
theorem div_err {x y : UInt64} (hx : isFinite x = true) (hy : isFinite y = true) (h0 : val y ≠ 0) {k : Nat} (hk : k < 1500) (h : (val x).natAbs * T ≤ (val y).natAbs * 2 ^ (k + 53)) :
    isFinite (div x y) = true ∧ val y * val (div x y) ≤ val x * T + ((val y).natAbs * 2 ^ k : Nat) ∧ val x * T ≤ val y * val (div x y) + ((val y).natAbs * 2 ^ k : Nat) := by
  obtain ⟨a, m, e, hdx⟩ := fin_decode hx
  obtain ⟨b, j, f, hdy⟩ := fin_decode hy
  have hj : j ≠ 0 := by rintro rfl; apply h0; rw [val_eq hdy]; cases b <;> simp [sgn]
  obtain ⟨hf, v, hv, ha, hb⟩ := right_err (by omega) hk (by rw [T_is]; exact div_right hdx hdy hj) h
  refine ⟨hf, ?_⟩
  have e1 : val x * (T : Int) = sgn a ((val x).natAbs * T) := by
    rw [sgn_mul, val_natAbs hdx, ← val_eq hdx]
  have e2 : val y * val (div x y) = sgn a ((val y).natAbs * v) := by
    rw [hv, val_natAbs hdy, val_eq hdy, ← sgn_prod]
    cases a <;> cases b <;> rfl
  have := sgn_sub_abs a ((val y).natAbs * v) ((val x).natAbs * T)
  rw [e1, e2]
  have ha' : (val y).natAbs * v ≤ (val x).natAbs * T + (val y).natAbs * 2 ^ k := ha
  have hb' : (val x).natAbs * T ≤ (val y).natAbs * v + (val y).natAbs * 2 ^ k := hb
  generalize (val x).natAbs * T = A at *
  generalize (val y).natAbs * v = B at *
  generalize (val y).natAbs * 2 ^ k = C at *
  omega
end Mine
end PFl1

section PFl2
namespace Mine
open PySem PySem.Float64

noncomputable def Ti : Rat := (T : Rat)⁻¹
noncomputable def u : Rat := 1 / 562949953421312
theorem T_pos : (0 : Rat) < (T : Rat) := Rat.natCast_pos.mpr T_pos0
theorem Ti_pos : 0 < Ti := Rat.inv_pos.mpr T_pos
theorem T_Ti : (T : Rat) * Ti = 1 := Rat.mul_inv_cancel _ (Rat.ne_of_gt T_pos)
theorem mTT (a : Rat) : a * Ti * (T : Rat) = a := by rw [Rat.mul_assoc, Rat.mul_comm Ti, T_Ti, Rat.mul_one]
theorem mTT' (a : Rat) : a * (T : Rat) * Ti = a := by rw [Rat.mul_assoc, T_Ti, Rat.mul_one]
theorem G_Ti : (G : Rat) * Ti = u := by
  have h1 : (T : Rat) = (G : Rat) * 562949953421312 := by rw [T_eq, Rat.natCast_mul]; rfl
  have h2 := T_Ti
  rw [h1] at h2
  unfold u
  grind
/-- the number that a finite float stands for -/
noncomputable def q (x : UInt64) : Rat := (val x : Rat) * Ti
theorem cast_le {a b : Int} (h : a ≤ b) : (a : Rat) ≤ (b : Rat) := Rat.intCast_le_intCast.mpr h
/-- from scaled ints to numbers -/
theorem q_le {a b : Int} {c : Nat} (h : a ≤ b + c) : (a : Rat) * Ti ≤ (b : Rat) * Ti + (c : Rat) * Ti := by
  have h1 := cast_le h
  rw [Rat.intCast_add, Rat.intCast_natCast] at h1
  have := Rat.mul_le_mul_of_nonneg_right h1 (Rat.le_of_lt Ti_pos)
  grind
theorem le_of_q {a : Int} {c : Rat} (h : (a : Rat) * Ti ≤ c) : (a : Rat) ≤ c * T := by
  have := Rat.mul_le_mul_of_nonneg_right h (Rat.le_of_lt T_pos)
  rwa [mTT] at this
theorem natAbs_of_q {a : Int} {c : Nat} (h : (a : Rat) * Ti ≤ c) (h2 : -(c : Rat) ≤ (a : Rat) * Ti) : a.natAbs ≤ c * T := by
  have h1 := le_of_q h
  have h3 : ((-a : Int) : Rat) * Ti ≤ c := by rw [Rat.intCast_neg]; grind
  have h4 := le_of_q h3
  rw [← Rat.natCast_mul, ← Rat.intCast_natCast, Rat.intCast_le_intCast] at h1 h4
  omega
theorem add_q {x y : UInt64} (hx : isFinite x = true) (hy : isFinite y = true) (h1 : q x + q y ≤ 16) (h2 : -16 ≤ q x + q y) :
    isFinite (add x y) = true ∧ q (add x y) ≤ q x + q y + u ∧ q x + q y ≤ q (add x y) + u := by
  have hb : (val x + val y).natAbs ≤ 2 ^ (1025 + 53) := by
    have := natAbs_of_q (a := val x + val y) (c := 16) (by rw [Rat.intCast_add]; unfold q at h1; grind) (by rw [Rat.intCast_add]; unfold q at h2; grind)
    exact Nat.le_trans this (by unfold T; decide +kernel)
  obtain ⟨hf, ha, hb⟩ := add_err hx hy (by decide) hb
  have h3 := q_le ha
  have h4 := q_le hb
  rw [← G_is, G_Ti, Rat.intCast_add] at h3 h4
  unfold q
  exact ⟨hf, by grind, by grind⟩
theorem sub_q {x y : UInt64} (hx : isFinite x = true) (hy : isFinite y = true) (h1 : q x - q y ≤ 16) (h2 : -16 ≤ q x - q y) :
    isFinite (sub x y) = true ∧ q (sub x y) ≤ q x - q y + u ∧ q x - q y ≤ q (sub x y) + u := by
  obtain ⟨hn, hv⟩ := fin_neg hy
  have e : q (neg y) = - q y := by unfold q; rw [hv, Rat.intCast_neg]; grind
  have := add_q hx hn (by rw [e]; grind) (by rw [e]; grind)
  rw [e] at this
  have e2 : q x - q y = q x + -q y := by grind
  rw [e2]
  unfold sub
  exact this
theorem mul_qk {x y : UInt64} (hx : isFinite x = true) (hy : isFinite y = true) (k c : Nat) (hk : k < 1500) (hc : c * T = 2 ^ (k + 53)) (h1 : q x * q y ≤ c) (h2 : -c ≤ q x * q y) :
    isFinite (mul x y) = true ∧ q (mul x y) ≤ q x * q y + (2 ^ k : Nat) * Ti ∧ q x * q y ≤ q (mul x y) + (2 ^ k : Nat) * Ti := by
  have e : q x * q y = ((val x * val y : Int) : Rat) * Ti * Ti := by unfold q; rw [Rat.intCast_mul]; grind
  have hT := T_Ti
  have hp := Rat.le_of_lt T_pos
  have hb : (val x).natAbs * (val y).natAbs ≤ T * 2 ^ (k + 53) := by
    rw [← Int.natAbs_mul, ← hc]
    have := natAbs_of_q (a := val x * val y) (c := c * T) (by rw [Rat.natCast_mul]; have := Rat.mul_le_mul_of_nonneg_right h1 hp; rwa [e, mTT] at this) (by rw [Rat.natCast_mul]; have := Rat.mul_le_mul_of_nonneg_right h2 hp; rw [e, mTT] at this; grind)
    rw [Nat.mul_comm T]
    exact this
  obtain ⟨hf, ha, hb⟩ := mul_err hx hy hk hb
  have h3 := q_le ha
  have h4 := q_le hb
  rw [Rat.intCast_mul (T : Int), Rat.intCast_natCast, Rat.natCast_mul] at h3 h4
  refine ⟨hf, ?_, ?_⟩
  · have := Rat.mul_le_mul_of_nonneg_right h3 (Rat.le_of_lt Ti_pos)
    rw [e]; unfold q
    rw [Rat.add_mul, Rat.mul_comm (T : Rat), mTT', Rat.mul_comm (T : Rat), mTT'] at this
    exact this
  · have := Rat.mul_le_mul_of_nonneg_right h4 (Rat.le_of_lt Ti_pos)
    rw [e]; unfold q
    rw [Rat.add_mul, Rat.mul_comm (T : Rat), mTT', Rat.mul_comm (T : Rat), mTT'] at this
    exact this
theorem mul_q {x y : UInt64} (hx : isFinite x = true) (hy : isFinite y = true) (h1 : q x * q y ≤ 16) (h2 : -16 ≤ q x * q y) :
    isFinite (mul x y) = true ∧ q (mul x y) ≤ q x * q y + u ∧ q x * q y ≤ q (mul x y) + u := by
  have := mul_qk hx hy 1025 16 (by decide) (by unfold T; decide +kernel) h1 h2
  rw [← G_is, G_Ti] at this
  exact this
theorem big_eq : ((2 ^ 1052 : Nat) : Rat) * Ti = 1 / 4194304 := by
  have h1 : (T : Rat) = ((2 ^ 1052 : Nat) : Rat) * 4194304 := by rw [show T = 2 ^ 1052 * 4194304 by unfold T; decide +kernel, Rat.natCast_mul]; rfl
  have h2 := T_Ti
  rw [h1] at h2
  generalize ((2 ^ 1052 : Nat) : Rat) = g at *
  grind
theorem mul_qb {x y : UInt64} (hx : isFinite x = true) (hy : isFinite y = true) (h1 : q x * q y ≤ 2147483648) (h2 : -2147483648 ≤ q x * q y) :
    isFinite (mul x y) = true ∧ q (mul x y) ≤ q x * q y + 1 / 4194304 ∧ q x * q y ≤ q (mul x y) + 1 / 4194304 := by
  have := mul_qk hx hy 1052 2147483648 (by decide) (by unfold T; decide +kernel) h1 h2
  rw [big_eq] at this
  exact this
theorem div_q {x y : UInt64} (hx : isFinite x = true) (hy : isFinite y = true) {r : Rat} (h0 : 0 < q y) (hr : q x = r * q y) (h1 : r ≤ 16) (h2 : -16 ≤ r) :
    isFinite (div x y) = true ∧ q (div x y) ≤ r + u ∧ r ≤ q (div x y) + u := by
  have hp := Rat.le_of_lt T_pos
  have hT := T_Ti
  have hvy : 0 < val y := by
    rcases Int.lt_or_le 0 (val y) with h | h
    · exact h
    · exfalso
      have := Rat.mul_le_mul_of_nonneg_right (cast_le h) (Rat.le_of_lt Ti_pos)
      unfold q at h0
      rw [Rat.intCast_zero, Rat.zero_mul] at this
      exact absurd h0 (Rat.not_lt.mpr this)
  have hxy : (val x : Rat) = r * (val y : Rat) := by
    have := congrArg (· * (T : Rat)) hr
    unfold q at this
    simp only [mTT, ← Rat.mul_assoc] at this
    exact this
  have hvp : (0 : Rat) ≤ (val y : Rat) := Rat.intCast_nonneg.mpr (Int.le_of_lt hvy)
  have hb : (val x).natAbs * T ≤ (val y).natAbs * 2 ^ (1025 + 53) := by
    have h3 : (val x).natAbs ≤ (val y).natAbs * 16 := by
      have a1 := Rat.mul_le_mul_of_nonneg_right h1 hvp
      have a2 := Rat.mul_le_mul_of_nonneg_right h2 hvp
      rw [← hxy] at a1 a2
      have b1 : val x ≤ 16 * val y := by rw [← Rat.intCast_le_intCast, Rat.intCast_mul]; exact a1
      have b2 : -16 * val y ≤ val x := by rw [← Rat.intCast_le_intCast, Rat.intCast_mul]; exact a2
      omega
    rw [show 2 ^ (1025 + 53) = 16 * T by unfold T; decide +kernel, ← Nat.mul_assoc]
    exact Nat.mul_le_mul_right _ h3
  obtain ⟨hf, ha, hb⟩ := div_err hx hy (by omega) (by decide) hb
  have e : (((val y).natAbs * 2 ^ 1025 : Nat) : Rat) = (val y : Rat) * (G : Rat) := by
    rw [Rat.natCast_mul, ← Rat.intCast_natCast, Int.natAbs_of_nonneg (Int.le_of_lt hvy), ← G_is]
  have h3 := q_le ha
  have h4 := q_le hb
  rw [e, Rat.intCast_mul, Rat.intCast_mul, Rat.intCast_natCast, hxy] at h3 h4
  have hG := G_Ti
  have hvy' : (0 : Rat) < (val y : Rat) := Rat.intCast_pos.mpr hvy
  have k1 : r * (val y : Rat) * (T : Rat) * Ti = (val y : Rat) * r := by rw [mTT', Rat.mul_comm]
  have k2 : (val y : Rat) * (G : Rat) * Ti = (val y : Rat) * u := by rw [Rat.mul_assoc, hG]
  rw [k1, k2] at h3 h4
  refine ⟨hf, ?_, ?_⟩
  · refine Rat.le_of_mul_le_mul_left ?_ hvy'
    unfold q
    rw [← Rat.mul_assoc, Rat.mul_add]
    exact h3
  · refine Rat.le_of_mul_le_mul_left ?_ hvy'
    unfold q
    rw [Rat.mul_add, ← Rat.mul_assoc]
    exact h4
end Mine
end PFl2

section PFl3
namespace Mine
open PySem PySem.Float64

theorem q_lt_iff {x y : UInt64} : val x < val y ↔ q x < q y := by
  unfold q
  rw [Rat.mul_lt_mul_right Ti_pos, Rat.intCast_lt_intCast]
theorem q_eq_iff {x y : UInt64} : val x = val y ↔ q x = q y := by
  constructor
  · intro h; unfold q; rw [h]
  · intro h
    rcases Int.lt_trichotomy (val x) (val y) with h1 | h1 | h1
    · have := q_lt_iff.mp h1; rw [h] at this; exact absurd this (Rat.lt_irrefl)
    · exact h1
    · have := q_lt_iff.mp h1; rw [h] at this; exact absurd this (Rat.lt_irrefl)
theorem cmp_val {x y : UInt64} (hx : isFinite x = true) (hy : isFinite y = true) : cmp x y = some (compare (val x) (val y)) := by
  obtain ⟨a, m, e, hdx⟩ := fin_decode hx
  obtain ⟨b, j, f, hdy⟩ := fin_decode hy
  exact cmp_right hdx hdy
theorem cmp_lt_t {x y : UInt64} (hx : isFinite x = true) (hy : isFinite y = true) (h : q x < q y) : (cmp x y == some .lt) = true := by
  rw [cmp_val hx hy, Int.compare_eq_lt.mpr (q_lt_iff.mpr h)]; rfl
theorem cmp_lt_f {x y : UInt64} (hx : isFinite x = true) (hy : isFinite y = true) (h : q y ≤ q x) : (cmp x y == some .lt) = false := by
  rw [cmp_val hx hy]
  have : ¬ val x < val y := fun h2 => absurd (q_lt_iff.mp h2) (Rat.not_lt.mpr h)
  rcases Int.lt_or_eq_of_le (Int.not_lt.mp this) with h1 | h1
  · rw [Int.compare_eq_gt.mpr h1]; rfl
  · rw [Int.compare_eq_eq.mpr h1.symm]; rfl
theorem cmp_lt_iff {x y : UInt64} (hx : isFinite x = true) (hy : isFinite y = true) : (cmp x y == some .lt) = true ↔ q x < q y := by
  constructor
  · intro h
    by_cases h2 : q x < q y
    · exact h2
    · rw [cmp_lt_f hx hy (Rat.not_lt.mp h2)] at h; cases h
  · exact cmp_lt_t hx hy
theorem cmp_gt_iff {x y : UInt64} (hx : isFinite x = true) (hy : isFinite y = true) : (cmp x y == some .gt) = true ↔ q y < q x := by
  rw [cmp_val hx hy, ← q_lt_iff]
  rcases Int.lt_trichotomy (val x) (val y) with h1 | h1 | h1
  · rw [Int.compare_eq_lt.mpr h1]; constructor
    · intro h; cases h
    · intro h; omega
  · rw [Int.compare_eq_eq.mpr h1]; constructor
    · intro h; cases h
    · intro h; omega
  · rw [Int.compare_eq_gt.mpr h1]; exact ⟨fun _ => h1, fun _ => rfl⟩
theorem cmp_eq_iff {x y : UInt64} (hx : isFinite x = true) (hy : isFinite y = true) : (cmp x y == some .eq) = true ↔ q x = q y := by
  rw [cmp_val hx hy, ← q_eq_iff]
  rcases Int.lt_trichotomy (val x) (val y) with h1 | h1 | h1
  · rw [Int.compare_eq_lt.mpr h1]; constructor
    · intro h; cases h
    · intro h; omega
  · rw [Int.compare_eq_eq.mpr h1]; exact ⟨fun _ => h1, fun _ => rfl⟩
  · rw [Int.compare_eq_gt.mpr h1]; constructor
    · intro h; cases h
    · intro h; omega
theorem isZero_iff {x : UInt64} (hx : isFinite x = true) : isZero x = true ↔ q x = 0 := by
  obtain ⟨a, m, e, hd⟩ := fin_decode hx
  have h1 : isZero x = true ↔ m = 0 := by
    unfold isZero; rw [hd]
    cases m with
    | zero => simp
    | succ n => simp
  have h2 : q x = 0 ↔ val x = 0 := by
    unfold q
    constructor
    · intro h
      rcases Rat.mul_eq_zero.mp h with h | h
      · exact Rat.intCast_eq_zero_iff.mp h
      · exact absurd h (Rat.ne_of_gt Ti_pos)
    · intro h; rw [h]; exact Rat.zero_mul _
  rw [h1, h2, val_eq hd]
  have hp := Nat.two_pow_pos (e + 1074).toNat
  constructor
  · rintro rfl; cases a <;> simp [sgn]
  · intro h
    have := congrArg Int.natAbs h
    rw [sgn_natAbs] at this
    rcases Nat.mul_eq_zero.mp this with h | h
    · exact h
    · omega
theorem isZero_f {x : UInt64} (hx : isFinite x = true) (h : q x ≠ 0) : isZero x = false := by
  cases e : isZero x with
  | false => rfl
  | true => exact absurd ((isZero_iff hx).mp e) h
/-- a closed float's number -/
theorem q_lit {x : UInt64} {n : Int} {d : Nat} (hd : 0 < d) (h : val x * d = n * T) : q x = (n : Rat) / (d : Rat) := by
  have hd' : (d : Rat) ≠ 0 := Rat.ne_of_gt (Rat.natCast_pos.mpr hd)
  have h2 : (val x : Rat) * (d : Rat) = (n : Rat) * (T : Rat) := by
    rw [← Rat.intCast_natCast, ← Rat.intCast_mul, h, Rat.intCast_mul, Rat.intCast_natCast]
  unfold q
  have h3 : (val x : Rat) * (d : Rat) * Ti = (n : Rat) := by rw [h2, mTT']
  rw [← h3]
  grind

/-- x is near X: n units at most -/
structure Nr (x : UInt64) (X : Rat) (n : Nat) : Prop where
  fin : isFinite x = true
  hi : q x ≤ X + n * u
  lo : X ≤ q x + n * u
theorem u_pos : 0 < u := by decide +kernel
theorem nu_nonneg (n : Nat) : 0 ≤ (n : Rat) * u := Rat.mul_nonneg Rat.natCast_nonneg (Rat.le_of_lt u_pos)
theorem nu_le {n m : Nat} (h : n ≤ m) : (n : Rat) * u ≤ (m : Rat) * u := Rat.mul_le_mul_of_nonneg_right (Rat.natCast_le_natCast.mpr h) (Rat.le_of_lt u_pos)
/-- a million units are little -/
theorem nu_small {n : Nat} (h : n ≤ 549755813888) : (n : Rat) * u ≤ 1 / 1024 := by
  refine Rat.le_trans (nu_le h) ?_
  decide +kernel
theorem Nr.mono {x : UInt64} {X : Rat} {n m : Nat} (h : Nr x X n) (hm : n ≤ m) : Nr x X m :=
  ⟨h.fin, Rat.le_trans h.hi (Rat.add_le_add_left.mpr (nu_le hm)), Rat.le_trans h.lo (Rat.add_le_add_left.mpr (nu_le hm))⟩
theorem Nr.lit {x : UInt64} {n : Int} {d : Nat} (hd : 0 < d) (hf : isFinite x = true) (h : val x * d = n * T) : Nr x ((n : Rat) / (d : Rat)) 0 := by
  refine ⟨hf, ?_, ?_⟩ <;> (rw [q_lit hd h]; have := nu_nonneg 0; grind)
theorem Nr.self {x : UInt64} (h : isFinite x = true) : Nr x (q x) 0 := ⟨h, by have := nu_nonneg 0; grind, by have := nu_nonneg 0; grind⟩
section
variable {x y : UInt64} {X Y : Rat} {n m : Nat}
theorem Nr.add (hx : Nr x X n) (hy : Nr y Y m) (hn : n ≤ 549755813888) (hm : m ≤ 549755813888) (h1 : X + Y ≤ 15) (h2 : -15 ≤ X + Y) : Nr (add x y) (X + Y) (n + m + 1) := by
  obtain ⟨fx, a1, a2⟩ := hx
  obtain ⟨fy, b1, b2⟩ := hy
  have := nu_small hn
  have := nu_small hm
  obtain ⟨f, c1, c2⟩ := add_q fx fy (by grind) (by grind)
  have e : ((n + m + 1 : Nat) : Rat) * u = n * u + m * u + u := by rw [Rat.natCast_add, Rat.natCast_add]; grind
  refine ⟨f, ?_, ?_⟩ <;> (rw [e]; grind)
theorem Nr.sub (hx : Nr x X n) (hy : Nr y Y m) (hn : n ≤ 549755813888) (hm : m ≤ 549755813888) (h1 : X - Y ≤ 15) (h2 : -15 ≤ X - Y) : Nr (sub x y) (X - Y) (n + m + 1) := by
  obtain ⟨fx, a1, a2⟩ := hx
  obtain ⟨fy, b1, b2⟩ := hy
  have := nu_small hn
  have := nu_small hm
  obtain ⟨f, c1, c2⟩ := sub_q fx fy (by grind) (by grind)
  have e : ((n + m + 1 : Nat) : Rat) * u = n * u + m * u + u := by rw [Rat.natCast_add, Rat.natCast_add]; grind
  refine ⟨f, ?_, ?_⟩ <;> (rw [e]; grind)
theorem Nr.neg (hx : Nr x X n) : Nr (neg x) (-X) n := by
  obtain ⟨f, v⟩ := fin_neg hx.fin
  have e : q (Float64.neg x) = - q x := by unfold q; rw [v, Rat.intCast_neg]; grind
  have := hx.hi
  have := hx.lo
  exact ⟨f, by rw [e]; grind, by rw [e]; grind⟩
end
/-- products: the plain estimate -/
theorem prod_est {x y X Y a b e f : Rat} (hx1 : x ≤ X + e) (hx2 : X ≤ x + e) (hy1 : y ≤ Y + f) (hy2 : Y ≤ y + f) (he : 0 ≤ e) (hf : 0 ≤ f) (ha1 : X ≤ a) (ha2 : -a ≤ X) (hb1 : Y ≤ b) (hb2 : -b ≤ Y) :
    x * y ≤ X * Y + (a * f + b * e + e * f) ∧ X * Y ≤ x * y + (a * f + b * e + e * f) := by
  have key : ∀ {p r s t : Rat}, p ≤ r → -r ≤ p → s ≤ t → -t ≤ s → 0 ≤ r → 0 ≤ t → p * s ≤ r * t ∧ -(r * t) ≤ p * s := by
    intro p r s t h1 h2 h3 h4 hr ht
    constructor
    · by_cases hs : 0 ≤ s
      · have := Rat.mul_le_mul_of_nonneg_right h1 hs
        have := Rat.mul_le_mul_of_nonneg_left h3 hr
        grind
      · have := Rat.mul_le_mul_of_nonneg_right h2 (show 0 ≤ -s by grind)
        have := Rat.mul_le_mul_of_nonneg_left h4 hr
        grind
    · by_cases hs : 0 ≤ s
      · have := Rat.mul_le_mul_of_nonneg_right h2 hs
        have := Rat.mul_le_mul_of_nonneg_left h3 hr
        grind
      · have := Rat.mul_le_mul_of_nonneg_right h1 (show 0 ≤ -s by grind)
        have := Rat.mul_le_mul_of_nonneg_left h4 hr
        grind
  have k1 := key (p := X) (r := a) (s := y - Y) (t := f) ha1 ha2 (by grind) (by grind) (by grind) hf
  have k2 := key (p := Y) (r := b) (s := x - X) (t := e) hb1 hb2 (by grind) (by grind) (by grind) he
  have k3 := key (p := x - X) (r := e) (s := y - Y) (t := f) (by grind) (by grind) (by grind) (by grind) he hf
  constructor <;> grind
section
variable {x y : UInt64} {X Y : Rat} {n m : Nat}
theorem Nr.mul (hx : Nr x X n) (hy : Nr y Y m) (a b : Nat) (hn : n ≤ 8388608) (hm : m ≤ 8388608) (hab : a * b ≤ 15) (ha : a ≤ 15) (hb : b ≤ 15) (ha1 : X ≤ a) (ha2 : -a ≤ X) (hb1 : Y ≤ b) (hb2 : -b ≤ Y) :
    Nr (mul x y) (X * Y) (a * m + b * n + 2) := by
  obtain ⟨fx, a1, a2⟩ := hx
  obtain ⟨fy, b1, b2⟩ := hy
  obtain ⟨p1, p2⟩ := prod_est a1 a2 b1 b2 (nu_nonneg n) (nu_nonneg m) ha1 ha2 hb1 hb2
  have hnm : (n : Rat) * u * ((m : Rat) * u) ≤ u := by
    have h1 := nu_le hn
    have h2 := nu_le hm
    have h3 := Rat.mul_le_mul_of_nonneg_right h1 (nu_nonneg m)
    have h4 := Rat.mul_le_mul_of_nonneg_left h2 (nu_nonneg 8388608)
    exact Rat.le_trans h3 (Rat.le_trans h4 (by decide +kernel))
  have hXY : X * Y ≤ 15 ∧ -15 ≤ X * Y := by
    obtain ⟨k1, k2⟩ := prod_est (x := 0) (y := Y) (X := X) (Y := Y) (e := a) (f := 0) (a := a) (b := b) (by grind) (by grind) (by grind) (by grind) (by exact Rat.natCast_nonneg) (by grind) ha1 ha2 hb1 hb2
    have hab' : (b : Rat) * (a : Rat) ≤ 15 := by
      rw [← Rat.natCast_mul, Nat.mul_comm]
      exact Rat.natCast_le_natCast.mpr hab
    constructor <;> grind
  have hs1 : (a : Rat) * ((m : Rat) * u) + (b : Rat) * ((n : Rat) * u) ≤ 1 / 2 := by
    have e : (a : Rat) * ((m : Rat) * u) + (b : Rat) * ((n : Rat) * u) = ((a * m + b * n : Nat) : Rat) * u := by rw [Rat.natCast_add, Rat.natCast_mul, Rat.natCast_mul]; grind
    rw [e]
    have h1 : a * m ≤ 15 * 8388608 := Nat.mul_le_mul ha hm
    have h2 : b * n ≤ 15 * 8388608 := Nat.mul_le_mul hb hn
    refine Rat.le_trans (nu_le (m := 549755813888) (by omega)) ?_
    decide +kernel
  have hu : u ≤ 1 / 4 := by decide +kernel
  obtain ⟨f, c1, c2⟩ := mul_q fx fy (by grind) (by grind)
  have e : ((a * m + b * n + 2 : Nat) : Rat) * u = a * (m * u) + b * (n * u) + u + u := by rw [Rat.natCast_add, Rat.natCast_add, Rat.natCast_mul, Rat.natCast_mul]; grind
  refine ⟨f, ?_, ?_⟩ <;> (rw [e]; grind)
/-- a quotient r by something that is at least 1 / C -/
theorem Nr.div {r : Rat} (hx : Nr x (r * Y) n) (hy : Nr y Y m) (B C : Nat) (hn : n ≤ 549755813888) (hC : 0 < C) (hB1 : r ≤ B) (hB2 : -B ≤ r) (hB : B ≤ 12) (hY : 1 ≤ C * (Y - m * u)) (hs : (n + B * m) * C ≤ 549755813888) :
    Nr (div x y) r ((n + B * m) * C + 1) := by
  obtain ⟨fx, a1, a2⟩ := hx
  obtain ⟨fy, b1, b2⟩ := hy
  have hC' : (0 : Rat) < (C : Rat) := Rat.natCast_pos.mpr hC
  have hqy : 1 ≤ C * q y := by
    have := Rat.mul_le_mul_of_nonneg_left (show Y - m * u ≤ q y by grind) (Rat.le_of_lt hC')
    grind
  have hqp : 0 < q y := by
    refine Rat.not_le.mp (fun h : q y ≤ 0 => ?_)
    have := Rat.mul_le_mul_of_nonneg_left h (Rat.le_of_lt hC')
    grind
  have hne : q y ≠ 0 := Rat.ne_of_gt hqp
  -- the exact quotient
  have hr := Rat.div_mul_cancel (a := q x) hne
  generalize hz : q x / q y = z at hr
  have hm0 := nu_nonneg m
  have hBn : (0 : Rat) ≤ (B : Rat) := Rat.natCast_nonneg
  have e1 : (r - z) * q y ≤ n * u + B * (m * u) ∧ -(n * u + B * (m * u)) ≤ (r - z) * q y := by
    have k1 := prod_est (x := 0) (y := q y) (X := r) (Y := Y) (e := B) (f := m * u) (a := B) (b := 0) 
    have hA : r * (q y - Y) ≤ B * (m * u) ∧ -(B * (m * u)) ≤ r * (q y - Y) := by
      have hd1 : q y - Y ≤ m * u := by grind
      have hd2 : -(m * u) ≤ q y - Y := by grind
      generalize q y - Y = d at *
      constructor
      · by_cases h : 0 ≤ r
        · have h5 := Rat.mul_le_mul_of_nonneg_left hd1 h
          have h6 := Rat.mul_le_mul_of_nonneg_right hB1 hm0
          grind
        · have h5 := Rat.mul_le_mul_of_nonneg_left hd2 (show 0 ≤ -r by grind)
          have h6 := Rat.mul_le_mul_of_nonneg_right hB2 hm0
          grind
      · by_cases h : 0 ≤ r
        · have h5 := Rat.mul_le_mul_of_nonneg_left hd2 h
          have h6 := Rat.mul_le_mul_of_nonneg_right hB1 hm0
          grind
        · have h5 := Rat.mul_le_mul_of_nonneg_left hd1 (show 0 ≤ -r by grind)
          have h6 := Rat.mul_le_mul_of_nonneg_right hB2 hm0
          grind
    constructor <;> grind
  have he : (n : Rat) * u + B * (m * u) = ((n + B * m : Nat) : Rat) * u := by rw [Rat.natCast_add, Rat.natCast_mul]; grind
  rw [he] at e1
  have e2 : ((((n + B * m) * C : Nat)) : Rat) * u = ((n + B * m : Nat) : Rat) * u * C := by rw [Rat.natCast_mul]; grind
  have hw := nu_nonneg (n + B * m)
  generalize hW : ((n + B * m : Nat) : Rat) * u = W at *
  have hWC : W ≤ W * C * q y := by
    have := Rat.mul_le_mul_of_nonneg_left hqy hw
    grind
  have f1 : r - z ≤ W * C := by
    refine Rat.le_of_mul_le_mul_right ?_ hqp
    grind
  have f2 : z - r ≤ W * C := by
    refine Rat.le_of_mul_le_mul_right ?_ hqp
    grind
  have hsm : W * C ≤ 1 / 1024 := by rw [← e2]; exact nu_small hs
  have hB' : (B : Rat) ≤ 12 := Rat.natCast_le_natCast.mpr hB
  obtain ⟨f, c1, c2⟩ := div_q fx fy (r := z) hqp hr.symm (by grind) (by grind)
  have e3 : (((n + B * m) * C + 1 : Nat) : Rat) * u = W * C + u := by rw [Rat.natCast_add, Rat.add_mul, e2]; grind
  refine ⟨f, ?_, ?_⟩ <;> (rw [e3]; grind)
end
end Mine
end PFl3

section PFl4
namespace Mine
open PySem PySem.Float64

theorem ofFrac_nr (n d : Nat) (hd : 0 < d) (h : n ≤ 15 * d) : Nr (ofFrac false n d) ((n : Rat) / (d : Rat)) 1 := by
  have R := ofFrac_right (neg := false) (n := n) (d := d) (W := n * T) (D := d) hd (by rw [T_is]) hd
  have hW : n * T ≤ d * 2 ^ (1025 + 53) := by
    have : (2 : Nat) ^ (1025 + 53) = 16 * T := by unfold T; decide +kernel
    rw [this]
    have := Nat.mul_le_mul_right T h
    generalize T = t at *
    have e : 15 * d * t = 15 * (d * t) := by ac_rfl
    have e2 : d * (16 * t) = 16 * (d * t) := by ac_rfl
    omega
  obtain ⟨hf, v, hv, ha, hb⟩ := right_err hd (by decide) R hW
  have hd' : (0 : Rat) < (d : Rat) := Rat.natCast_pos.mpr hd
  have hne := Rat.ne_of_gt hd'
  have e1 : (d : Rat) * q (ofFrac false n d) = ((d * v : Nat) : Rat) * Ti := by
    unfold q; rw [hv]; unfold sgn
    rw [if_neg (by decide), Rat.intCast_natCast, Rat.natCast_mul, Rat.mul_assoc]
  have e2 : ((n * T : Nat) : Rat) * Ti = (n : Rat) := by rw [Rat.natCast_mul, mTT']
  have e3 : ((d * 2 ^ 1025 : Nat) : Rat) * Ti = (d : Rat) * u := by rw [Rat.natCast_mul, Rat.mul_assoc]; rw [← G_is]; exact congrArg _ G_Ti
  have c1 : ((d * v : Nat) : Rat) ≤ ((n * T : Nat) : Rat) + ((d * 2 ^ 1025 : Nat) : Rat) := by rw [← Rat.natCast_add]; exact Rat.natCast_le_natCast.mpr ha
  have c2 : ((n * T : Nat) : Rat) ≤ ((d * v : Nat) : Rat) + ((d * 2 ^ 1025 : Nat) : Rat) := by rw [← Rat.natCast_add]; exact Rat.natCast_le_natCast.mpr hb
  have c3 := Rat.mul_le_mul_of_nonneg_right c1 (Rat.le_of_lt Ti_pos)
  have c4 := Rat.mul_le_mul_of_nonneg_right c2 (Rat.le_of_lt Ti_pos)
  rw [Rat.add_mul, e2, e3, ← e1] at c3 c4
  have hq := Rat.div_mul_cancel (a := (n : Rat)) hne
  generalize (n : Rat) / (d : Rat) = r at *
  have h1 : ((1 : Nat) : Rat) * u = u := by rw [show ((1 : Nat) : Rat) = 1 from rfl, Rat.one_mul]
  refine ⟨hf, ?_, ?_⟩ <;> (rw [h1]; refine Rat.le_of_mul_le_mul_left ?_ hd'; grind)

theorem trunc_q {x : UInt64} (hf : isFinite x = true) (h0 : 0 ≤ q x) : (Flt.toInt truncOf x : Rat) ≤ q x ∧ q x < (Flt.toInt truncOf x : Rat) + 1 ∧ 0 ≤ Flt.toInt truncOf x := by
  obtain ⟨a, m, e, hd⟩ := fin_decode hf
  have he := decode_ge hd
  have hv0 : 0 ≤ val x := by
    rcases Int.lt_or_le (val x) 0 with h | h
    · exfalso
      have : q x < 0 := by
        unfold q
        have h2 : (val x : Rat) < 0 := Rat.intCast_neg_iff.mpr h
        have := Rat.mul_lt_mul_of_pos_right h2 Ti_pos
        rwa [Rat.zero_mul] at this
      exact absurd h0 (Rat.not_le.mpr this)
    · exact h
  -- the floor, in scaled ints
  have key : ∃ n : Nat, Flt.toInt truncOf x = (n : Int) ∧ (n * T : Nat) ≤ val x ∧ val x < ((n + 1) * T : Nat) := by
    rw [Flt.toInt_fin hd]
    have hm : a = true → m = 0 := by
      rintro rfl
      have := val_eq hd
      rw [this] at hv0
      unfold sgn at hv0
      rw [if_pos rfl] at hv0
      have h1 : m * 2 ^ (e + 1074).toNat = 0 := by omega
      rcases Nat.mul_eq_zero.mp h1 with h | h
      · exact h
      · exact absurd h (Nat.ne_of_gt (Nat.two_pow_pos _))
    have hv : val x = (m * 2 ^ (e + 1074).toNat : Nat) := by
      rw [val_eq hd]
      cases a
      · rfl
      · rw [hm rfl]; simp [sgn]
    have htr : truncOf a m e = floorOf false m e := by
      cases a
      · rfl
      · rw [hm rfl]
        delta truncOf ceilOf floorOf
        simp only [sgn, Bool.not_true, Bool.false_eq_true, if_false, if_true]
        split <;> simp
    rw [htr, hv]
    unfold floorOf
    split
    · rename_i h
      refine ⟨m * 2 ^ e.toNat, ?_, ?_, ?_⟩
      · simp [sgn]
      · rw [show (e + 1074).toNat = e.toNat + 1074 by omega, Nat.pow_add, ← Nat.mul_assoc]; unfold T; exact Int.le_refl _
      · rw [show (e + 1074).toNat = e.toNat + 1074 by omega, Nat.pow_add, ← Nat.mul_assoc, Nat.add_mul]
        have := Nat.two_pow_pos 1074
        unfold T
        generalize (2 : Nat) ^ 1074 = t at *
        generalize m * 2 ^ e.toNat * t = b
        omega
    · rename_i h
      have hT : T = 2 ^ (-e).toNat * 2 ^ (e + 1074).toNat := by unfold T; rw [← Nat.pow_add]; congr 1; omega
      have hp := Nat.two_pow_pos (-e).toNat
      have hr := Nat.two_pow_pos (e + 1074).toNat
      refine ⟨m / 2 ^ (-e).toNat, ?_, ?_, ?_⟩
      · simp only [sgn, Bool.false_eq_true, if_false]
        rw [Int.fdiv_eq_ediv_of_nonneg _ (Int.le_of_lt (by exact_mod_cast hp))]
        push_cast
        rfl
      · rw [hT, ← Nat.mul_assoc]
        exact Int.ofNat_le.mpr (Nat.mul_le_mul_right _ (Nat.div_mul_le_self m _))
      · rw [hT, ← Nat.mul_assoc]
        refine Int.ofNat_lt.mpr (Nat.mul_lt_mul_of_pos_right ?_ hr)
        rw [Nat.mul_comm]
        exact Nat.lt_mul_div_succ m hp
  obtain ⟨n, hn, h1, h2⟩ := key
  rw [hn]
  have k1 := Rat.mul_le_mul_of_nonneg_right (cast_le h1) (Rat.le_of_lt Ti_pos)
  have k2 : (val x : Rat) < (((n + 1) * T : Nat) : Int) := Rat.intCast_lt_intCast.mpr h2
  have k2 := Rat.mul_lt_mul_of_pos_right k2 Ti_pos
  rw [Rat.intCast_natCast, Rat.natCast_mul, mTT'] at k1 k2
  rw [Rat.natCast_add] at k2
  exact ⟨k1, k2, by omega⟩
theorem nearest_q {x : UInt64} {V : Int} (hf : isFinite x = true) (h1 : q x < V + 1 / 2) (h2 : (V : Rat) < q x + 1 / 2) : Flt.toInt nearestOf x = V := by
  obtain ⟨a, m, e, hd⟩ := fin_decode hf
  have he := decode_ge hd
  rw [Flt.toInt_fin hd]
  unfold nearestOf
  have hs := shift_one m e 1074 (by omega)
  have hp := shift_pos m 1 e (by decide)
  show sgn a (halfEven (shift m 1 e).1 (shift m 1 e).2) = V
  generalize (shift m 1 e).1 = n at *
  generalize (shift m 1 e).2 = d at *
  have hh : 2 * n ≤ 2 * (d * halfEven n d) + d ∧ 2 * (d * halfEven n d) ≤ 2 * n + d := by
    have hn := Nat.div_add_mod n d
    have hr := Nat.mod_lt n hp
    unfold halfEven
    simp only
    split
    · rename_i h
      simp only [Bool.or_eq_true, decide_eq_true_eq, Bool.and_eq_true, beq_iff_eq] at h
      rw [Nat.mul_add d, Nat.mul_one]
      generalize d * (n / d) = c at *
      omega
    · rename_i h
      simp only [Bool.or_eq_true, decide_eq_true_eq, Bool.and_eq_true, beq_iff_eq, not_or, not_and] at h
      generalize d * (n / d) = c at *
      omega
  generalize halfEven n d = z at *
  -- |val x| d = n T
  have hv : (val x).natAbs * d = n * T := by rw [val_natAbs hd, T_is]; exact hs.symm
  have hx : 2 * (val x).natAbs ≤ (2 * z + 1) * T ∧ 2 * z * T ≤ 2 * (val x).natAbs + T := by
    constructor
    · refine Nat.le_of_mul_le_mul_left ?_ hp
      have := Nat.mul_le_mul_right T hh.1
      have e1 : d * (2 * (val x).natAbs) = 2 * ((val x).natAbs * d) := by ac_rfl
      rw [e1, hv]
      have e2 : 2 * n * T = 2 * (n * T) := by ac_rfl
      have e3 : (2 * (d * z) + d) * T = d * ((2 * z + 1) * T) := by
        rw [Nat.add_mul, Nat.add_mul, Nat.mul_add, Nat.one_mul]
        have : 2 * (d * z) * T = d * (2 * z * T) := by ac_rfl
        rw [this]
      omega
    · refine Nat.le_of_mul_le_mul_left ?_ hp
      have := Nat.mul_le_mul_right T hh.2
      have e1 : d * (2 * (val x).natAbs + T) = 2 * ((val x).natAbs * d) + d * T := by rw [Nat.mul_add, Nat.mul_left_comm, Nat.mul_comm d (val x).natAbs]
      rw [e1, hv]
      have e2 : (2 * n + d) * T = 2 * (n * T) + d * T := by rw [Nat.add_mul, Nat.mul_assoc]
      have e3 : 2 * (d * z) * T = d * (2 * z * T) := by ac_rfl
      omega
  -- in numbers
  have hsg : val x = sgn a (val x).natAbs := by rw [val_natAbs hd, ← val_eq hd]
  have b1 : 2 * val x ≤ 2 * (sgn a z * T) + T ∧ 2 * (sgn a z * T) ≤ 2 * val x + T := by
    rw [hsg]
    have e2 : (2 * z + 1) * T = 2 * (z * T) + T := by rw [Nat.add_mul, Nat.one_mul, Nat.mul_assoc]
    have e3 : 2 * z * T = 2 * (z * T) := by ac_rfl
    rw [e2, e3] at hx
    rw [← sgn_mul]
    generalize z * T = c at *
    generalize (val x).natAbs = w at *
    unfold sgn
    cases a <;> simp only [Bool.false_eq_true, if_false, if_true] <;> omega
  have c1 := Rat.mul_le_mul_of_nonneg_right (cast_le b1.1) (Rat.le_of_lt Ti_pos)
  have c2 := Rat.mul_le_mul_of_nonneg_right (cast_le b1.2) (Rat.le_of_lt Ti_pos)
  simp only [Rat.intCast_add, Rat.intCast_mul, Rat.intCast_natCast] at c1 c2
  have hT := T_Ti
  have e4 : (2 : Int) = ((2 : Int) : Rat) := rfl
  rw [show ((2 : Int) : Rat) = 2 from rfl] at c1 c2
  have d1 : 2 * q x ≤ 2 * (sgn a z : Rat) + 1 := by
    have e5 : 2 * (val x : Rat) * Ti = 2 * q x := by unfold q; rw [Rat.mul_assoc]
    have e6 : (2 * ((sgn a z : Rat) * (T : Rat)) + (T : Rat)) * Ti = 2 * (sgn a z : Rat) + 1 := by rw [Rat.add_mul, hT, Rat.mul_assoc, mTT']
    rw [e5, e6] at c1; exact c1
  have d2 : 2 * (sgn a z : Rat) ≤ 2 * q x + 1 := by
    have e5 : (2 * (val x : Rat) + (T : Rat)) * Ti = 2 * q x + 1 := by unfold q; rw [Rat.add_mul, hT, Rat.mul_assoc]
    have e6 : (2 * ((sgn a z : Rat) * (T : Rat))) * Ti = 2 * (sgn a z : Rat) := by rw [Rat.mul_assoc, mTT']
    rw [e5, e6] at c2; exact c2
  have f1 : (sgn a z : Rat) < ((V + 1 : Int) : Rat) := by rw [Rat.intCast_add]; grind
  have f2 : (V : Rat) < ((sgn a z + 1 : Int) : Rat) := by rw [Rat.intCast_add]; grind
  rw [Rat.intCast_lt_intCast] at f1 f2
  omega
end Mine
end PFl4

section PFl5
namespace Mine
open PySem PySem.Float64

theorem right_exact {r : UInt64} {neg : Bool} {m k : Nat} (hm : m ≤ 2 ^ 53) (hk : k < 1400) (R : Right r neg (m * 2 ^ k) 1) : isFinite r = true ∧ val r = sgn neg (m * 2 ^ k) := by
  obtain ⟨hf, v, hv, ha, hb⟩ := right_err (k := k) Nat.one_pos (by omega) R (by rw [Nat.one_mul, Nat.pow_add, Nat.mul_comm]; exact Nat.mul_le_mul_left _ hm)
  refine ⟨hf, ?_⟩
  clear v hv ha hb
  obtain ⟨t, rfl, ht, hi, hn⟩ := R
  have hlt : t < infMag := by
    rcases Nat.lt_or_eq_of_le ht with h | h
    · exact h
    · exfalso
      rw [h, show isFinite (pack neg infMag) = false by cases neg <;> decide +kernel] at hf
      cases hf
  obtain ⟨t', ht'⟩ := rep_of k m hm
  have h1 := (hn hlt t').1
  rw [ht'] at h1
  rw [val_pack neg hlt]
  congr 1
  clear hn hi hf ht'
  generalize V t = c at *
  generalize m * 2 ^ k = w at *
  unfold dist at h1
  omega
theorem ofBin_exact {a : Bool} {m : Nat} {g : Int} (hm : m ≤ 2 ^ 53) (h1 : -1074 ≤ g) (h2 : g ≤ 0) : isFinite (ofBin a m g) = true ∧ val (ofBin a m g) = sgn a (m * 2 ^ (g + 1074).toNat) := by
  refine right_exact hm (by omega) ?_
  unfold ofBin
  refine ofFrac_right (shift_pos _ _ _ (by decide)) ?_ (by decide)
  have := shift_one m g 1074 (by omega)
  rw [Nat.mul_one]
  exact this
noncomputable def one : UInt64 := 4607182418800017408
theorem dec_one : decode one = .fin false (2 ^ 52) (-52) := by kernel_rfl
theorem dec_lt {x : UInt64} {a : Bool} {m : Nat} {e : Int} (h : decode x = .fin a m e) : m < 2 ^ 53 := by
  unfold decode at h
  simp only at h
  split at h
  · split at h <;> cases h
  · split at h
    · cases h; omega
    · cases h; omega
theorem fmod_one {x : UInt64} (hf : isFinite x = true) : isFinite (fmod x one) = true ∧ ∃ (a : Bool) (w : Nat), val x = sgn a w ∧ val (fmod x one) = sgn a (w % T) := by
  obtain ⟨a, m, e, hd⟩ := fin_decode hf
  have he := decode_ge hd
  have hm := dec_lt hd
  have hv := val_natAbs hd
  have h0 : fmod x one = ofBin a ((m * 2 ^ (e - min e (-52)).toNat) % (2 ^ 52 * 2 ^ (-52 - min e (-52)).toNat)) (min e (-52)) := by
    unfold fmod
    rw [hd, dec_one]
    simp only [align, sgn, Bool.false_eq_true, if_false, Int.toNat_natCast]
    rw [if_neg (by decide)]
  have hr : (m * 2 ^ (e - min e (-52)).toNat) % (2 ^ 52 * 2 ^ (-52 - min e (-52)).toNat) ≤ 2 ^ 53 := by
    by_cases h : e ≤ -52
    · refine Nat.le_trans (Nat.mod_le _ _) ?_
      rw [show (e - min e (-52)).toNat = 0 by omega]
      omega
    · have : (-52 - min e (-52)).toNat = 0 := by omega
      rw [this]
      have := Nat.mod_lt (m * 2 ^ (e - min e (-52)).toNat) (y := 2 ^ 52 * 2 ^ 0) (by decide)
      omega
  obtain ⟨hF, hV⟩ := ofBin_exact (a := a) (g := min e (-52)) hr (by omega) (by omega)
  rw [← h0] at hF hV
  refine ⟨hF, a, (val x).natAbs, ?_, ?_⟩
  · rw [hv, ← val_eq hd]
  · rw [hV, hv]
    congr 1
    have e1 : m * 2 ^ (e + 1074).toNat = m * 2 ^ (e - min e (-52)).toNat * 2 ^ (min e (-52) + 1074).toNat := by
      rw [Nat.mul_assoc, ← Nat.pow_add]; congr 2; omega
    have e2 : T = 2 ^ 52 * 2 ^ (-52 - min e (-52)).toNat * 2 ^ (min e (-52) + 1074).toNat := by
      rw [T_is, ← Nat.pow_add, ← Nat.pow_add]; congr 1; omega
    rw [e1, e2, Nat.mul_mod_mul_right]
theorem one_q : q one = 1 := by
  have := q_lit (x := one) (n := 1) (d := 1) (by decide) (by rw [T_is]; decide +kernel)
  rw [this]; decide +kernel
theorem fin_one : isFinite one = true := by decide +kernel
theorem zero_q (b : Bool) : q (zero b) = 0 := by unfold q; rw [val_pack0]; exact Rat.zero_mul _
theorem divmod_2 (x : UInt64) : (divmod x one).2 = if isZero (fmod x one) = true then copysign (zero false) one else if (lt one (zero false) != lt (fmod x one) (zero false)) = true then add (fmod x one) one else fmod x one := by
  unfold divmod
  simp only
  split
  · rfl
  · split <;> rfl
theorem mod1_q {x : UInt64} (hf : isFinite x = true) : isFinite (divmod x one).2 = true ∧ (∃ j : Int, q (divmod x one).2 ≤ q x - j + u ∧ q x - j ≤ q (divmod x one).2 + u) ∧ -u ≤ q (divmod x one).2 ∧ q (divmod x one).2 ≤ 1 + u := by
  obtain ⟨hF, a, w, hx, hm⟩ := fmod_one hf
  have hu := u_pos
  have hT := T_pos0
  have hdm := Nat.div_add_mod w T
  have hlt := Nat.mod_lt w hT
  generalize w / T = n at *
  generalize w % T = r at *
  -- the remainder, as a number
  have hr : q (fmod x one) = q x - ((sgn a n : Int) : Rat) := by
    have : val (fmod x one) = val x - sgn a n * T := by
      rw [hm, hx, ← hdm, ← sgn_mul, Nat.mul_comm T n]
      generalize n * T = b
      cases a <;> simp [sgn] <;> omega
    unfold q
    rw [this, Rat.intCast_sub, Rat.intCast_mul, Rat.intCast_natCast]
    have := mTT' ((sgn a n : Int) : Rat)
    grind
  have hlo : -(T : Int) < val (fmod x one) ∧ val (fmod x one) < T ∧ (a = false → 0 ≤ val (fmod x one)) ∧ (a = true → val (fmod x one) ≤ 0) := by
    rw [hm]
    cases a <;> simp [sgn] <;> omega
  obtain ⟨l1, l2, l3, l4⟩ := hlo
  have b1 : q (fmod x one) ≤ 1 := by
    have := Rat.mul_le_mul_of_nonneg_right (cast_le (Int.le_of_lt l2)) (Rat.le_of_lt Ti_pos)
    rw [Rat.intCast_natCast, T_Ti] at this
    exact this
  have b2 : -1 ≤ q (fmod x one) := by
    have := Rat.mul_le_mul_of_nonneg_right (cast_le (Int.le_of_lt l1)) (Rat.le_of_lt Ti_pos)
    rw [Rat.intCast_neg, Rat.intCast_natCast, Rat.neg_mul, T_Ti] at this
    exact this
  rw [divmod_2]
  split
  · rename_i h
    have hz := (isZero_iff hF).mp h
    have e : copysign (zero false) one = zero false := by decide +kernel
    rw [e, zero_q]
    refine ⟨fin_zero _, ⟨sgn a n, ?_, ?_⟩, ?_, ?_⟩ <;> grind
  · rename_i h
    have hz : q (fmod x one) ≠ 0 := fun h2 => h ((isZero_iff hF).mpr h2)
    have e : lt one (zero false) = false := by decide +kernel
    have e2 : lt (fmod x one) (zero false) = true ↔ q (fmod x one) < 0 := by
      unfold lt
      rw [cmp_lt_iff hF (fin_zero false), zero_q]
    split
    · rename_i h2
      have h3 : lt (fmod x one) (zero false) = true := by
        rw [e] at h2
        cases h4 : lt (fmod x one) (zero false) with
        | true => rfl
        | false => rw [h4] at h2; cases h2
      have h4 := e2.mp h3
      obtain ⟨f, c1, c2⟩ := add_q hF fin_one (by rw [one_q]; grind) (by rw [one_q]; grind)
      rw [one_q] at c1 c2
      refine ⟨f, ⟨sgn a n - 1, ?_, ?_⟩, ?_, ?_⟩
      · rw [Rat.intCast_sub]; grind
      · rw [Rat.intCast_sub]; grind
      · grind
      · grind
    · rename_i h2
      have h3 : lt (fmod x one) (zero false) = false := by
        rw [e] at h2
        cases h4 : lt (fmod x one) (zero false) with
        | false => rfl
        | true => rw [h4] at h2; exact absurd rfl h2
      have h4 : ¬ q (fmod x one) < 0 := fun h5 => by rw [e2.mpr h5] at h3; cases h3
      refine ⟨hF, ⟨sgn a n, ?_, ?_⟩, ?_, ?_⟩ <;> grind
theorem ofInt_q {i : Int} (h0 : 0 ≤ i) (h1 : i ≤ 2 ^ 53) : isFinite (ofInt i) = true ∧ q (ofInt i) = (i : Rat) := by
  obtain ⟨hf, hv⟩ := right_exact (m := i.natAbs) (k := 1074) (by omega) (by decide) (ofInt_right i)
  refine ⟨hf, ?_⟩
  unfold q
  rw [hv, decide_eq_false (by omega), sgn_mul, Rat.intCast_mul, Rat.intCast_natCast, ← T_is, mTT']
  unfold sgn
  rw [if_neg (by decide), Int.natAbs_of_nonneg h0]
end Mine
end PFl5

section PFl6
namespace Mine
open PySem PySem.Float64

noncomputable def cl (y : Rat) : Rat := if y < 0 then 0 else if 1 < y then 1 else y
noncomputable def Pk (t : Rat) : Rat := cl (if t ≤ 2 then t else 4 - t)
/-- a channel's height over the lowest, along the circle of six sixths -/
noncomputable def Kp (y : Rat) : Rat := Pk (y - 6 * ((y / 6).floor : Int))
theorem floor_six (y : Rat) : 6 * (((y / 6).floor : Int) : Rat) ≤ y ∧ y < 6 * (((y / 6).floor : Int) : Rat) + 6 := by
  have h1 := Rat.floor_le (y / 6)
  have h2 := Rat.lt_floor (x := y / 6)
  constructor <;> grind
theorem Kp_of {y t : Rat} {j : Int} (h0 : 0 ≤ t) (h6 : t ≤ 6) (e : y = t + 6 * j) : Kp y = Pk t := by
  obtain ⟨h1, h2⟩ := floor_six y
  unfold Kp
  generalize (y / 6).floor = f at *
  have a1 : ((j : Int) : Rat) < ((f + 1 : Int) : Rat) := by rw [Rat.intCast_add]; grind
  have a2 : ((f : Int) : Rat) ≤ ((j + 1 : Int) : Rat) := by rw [Rat.intCast_add]; grind
  rw [Rat.intCast_lt_intCast] at a1
  rw [Rat.intCast_le_intCast] at a2
  have : f = j ∨ f = j + 1 := by omega
  rcases this with rfl | rfl
  · congr 1; grind
  · rw [Rat.intCast_add] at *
    have : t = 6 := by grind
    subst this
    have e2 : y - 6 * ((j : Rat) + ((1 : Int) : Rat)) = 0 := by grind
    rw [e2]
    decide +kernel
theorem Kp_ex (y : Rat) : ∃ (j : Int) (t : Rat), 0 ≤ t ∧ t < 6 ∧ y = t + 6 * j := by
  obtain ⟨h1, h2⟩ := floor_six y
  exact ⟨(y / 6).floor, y - 6 * ((y / 6).floor : Int), by grind, by grind, by grind⟩
theorem Kp_per (y : Rat) (i : Int) : Kp (y + 6 * i) = Kp y := by
  obtain ⟨j, t, h0, h6, e⟩ := Kp_ex y
  rw [Kp_of h0 (Rat.le_of_lt h6) e, Kp_of (j := j + i) h0 (Rat.le_of_lt h6) (by rw [Rat.intCast_add]; grind)]
theorem cl_le {y e : Rat} (h : y ≤ e) (h0 : 0 ≤ e) : cl y ≤ e := by unfold cl; grind
theorem cl_ge (y : Rat) : 0 ≤ cl y := by unfold cl; grind
theorem cl_neg {y : Rat} (h : y ≤ 0) : cl y = 0 := by unfold cl; grind
theorem cl_lip {x y e : Rat} (h : x ≤ y + e) (h0 : 0 ≤ e) : cl x ≤ cl y + e := by unfold cl; grind
theorem tri_lip {x y e : Rat} (h1 : x ≤ y + e) (h2 : y ≤ x + e) : (if x ≤ 2 then x else 4 - x) ≤ (if y ≤ 2 then y else 4 - y) + e := by grind
theorem Pk_lip {x y e : Rat} (h1 : x ≤ y + e) (h2 : y ≤ x + e) (h0 : 0 ≤ e) : Pk x ≤ Pk y + e := cl_lip (tri_lip h1 h2) h0
theorem Pk_end {t : Rat} (h : 4 ≤ t) : Pk t = 0 := by unfold Pk; rw [if_neg (by grind)]; exact cl_neg (by grind)
theorem Pk_le {t e : Rat} (h : t ≤ e) (h0 : 0 ≤ e) (h2 : t ≤ 2) : Pk t ≤ e := by unfold Pk; rw [if_pos h2]; exact cl_le h h0
theorem Kp_lip {y z e : Rat} (h1 : y ≤ z + e) (h2 : z ≤ y + e) (he : e ≤ 1) : Kp y ≤ Kp z + e ∧ Kp z ≤ Kp y + e := by
  obtain ⟨j, t, h0, h6, ey⟩ := Kp_ex y
  have e0 : 0 ≤ e := by grind
  obtain ⟨d, ez, hd1, hd2⟩ : ∃ d : Rat, z = t + d + 6 * j ∧ -e ≤ d ∧ d ≤ e := ⟨z - y, by grind, by grind, by grind⟩
  rw [Kp_of h0 (Rat.le_of_lt h6) ey]
  have flip : ∀ {a b : Rat}, a = 0 → b ≤ e → 0 ≤ b → b ≤ a + e ∧ a ≤ b + e := fun ha hb h => by subst ha; grind
  by_cases c1 : t + d < 0
  · rw [Kp_of (y := z) (t := t + d + 6) (j := j - 1) (by grind) (by grind) (by rw [Rat.intCast_sub]; grind)]
    exact flip (Pk_end (by grind)) (Pk_le (by grind) e0 (by grind)) (cl_ge _)
  · by_cases c2 : 6 < t + d
    · rw [Kp_of (y := z) (t := t + d - 6) (j := j + 1) (by grind) (by grind) (by rw [Rat.intCast_add]; grind)]
      exact (flip (Pk_end (by grind)) (Pk_le (by grind) e0 (by grind)) (cl_ge _)).symm
    · rw [Kp_of (y := z) (t := t + d) (j := j) (by grind) (by grind) ez]
      exact ⟨Pk_lip (by grind) (by grind) e0, Pk_lip (by grind) (by grind) e0⟩
theorem Kp_rng (y : Rat) : 0 ≤ Kp y ∧ Kp y ≤ 1 := by
  unfold Kp Pk cl
  constructor <;> grind
theorem Kp_half (y : Rat) : Kp (y + 3) = 1 - Kp y := by
  obtain ⟨j, t, h0, h6, ey⟩ := Kp_ex y
  rw [Kp_of h0 (Rat.le_of_lt h6) ey]
  by_cases c : t ≤ 3
  · rw [Kp_of (y := y + 3) (t := t + 3) (j := j) (by grind) (by grind) (by grind)]
    unfold Pk cl; grind
  · rw [Kp_of (y := y + 3) (t := t - 3) (j := j + 1) (by grind) (by grind) (by rw [Rat.intCast_add]; grind)]
    unfold Pk cl; grind
theorem Kp_sym (y : Rat) : Kp (4 - y) = Kp y := by
  obtain ⟨j, t, h0, h6, ey⟩ := Kp_ex y
  rw [Kp_of h0 (Rat.le_of_lt h6) ey]
  by_cases c : t ≤ 4
  · rw [Kp_of (y := 4 - y) (t := 4 - t) (j := -j) (by grind) (by grind) (by rw [Rat.intCast_neg]; grind)]
    unfold Pk cl; grind
  · rw [Kp_of (y := 4 - y) (t := 10 - t) (j := -j - 1) (by grind) (by grind) (by rw [Rat.intCast_sub, Rat.intCast_neg]; grind)]
    unfold Pk cl; grind
/-- the three channels' heights -/
noncomputable def T3 (x : Rat) : Rat × Rat × Rat := (Kp (x + 2), Kp x, Kp (x - 2))
theorem T3_rot (x : Rat) : T3 (x + 1) = (1 - Kp x, 1 - Kp (x - 2), 1 - Kp (x + 2)) := by
  unfold T3
  have h1 := Kp_half x
  have h2 := Kp_half (x - 2)
  have h3 := Kp_half (x - 1)
  have e1 : x + 1 + 2 = x + 3 := by grind
  have e2 : x - 2 + 3 = x + 1 := by grind
  have e3 : x - 1 + 3 = x + 2 := by grind
  have e4 : x + 1 - 2 = x - 1 := by grind
  rw [e2] at h2
  rw [e3] at h3
  rw [e1, e4, h1, h2, h3]
  congr 2
  grind
theorem T3_mir (x : Rat) : T3 (-x) = (Kp (x + 2), Kp (x - 2), Kp x) := by
  unfold T3
  have h1 := Kp_sym (x + 2)
  have h2 := Kp_sym (x + 4)
  have h3 := Kp_sym (x + 6)
  have h4 := Kp_per (x - 2) 1
  have h5 := Kp_per x 1
  have e1 : 4 - (x + 2) = -x + 2 := by grind
  have e2 : 4 - (x + 4) = -x := by grind
  have e3 : 4 - (x + 6) = -x - 2 := by grind
  have e4 : x - 2 + 6 * ((1 : Int) : Rat) = x + 4 := by rw [show ((1 : Int) : Rat) = 1 from rfl]; grind
  have e5 : x + 6 * ((1 : Int) : Rat) = x + 6 := by rw [show ((1 : Int) : Rat) = 1 from rfl]; grind
  rw [e1] at h1; rw [e2] at h2; rw [e3] at h3; rw [e4] at h4; rw [e5] at h5
  rw [h1, h2, h3, h4, h5]
theorem T3_per (x : Rat) (i : Int) : T3 (x + 6 * i) = T3 x := by
  unfold T3
  rw [← Kp_per x i, ← Kp_per (x + 2) i, ← Kp_per (x - 2) i]
  congr 1
  · congr 1; grind
  · congr 2; grind
/-- the hue of three fallings-short, in sixths -/
noncomputable def hueX (p r s : Rat) : Rat := if p = 0 then s - r else if r = 0 then 2 + p - s else 4 + r - p
theorem T3_u {u : Rat} (h0 : 0 ≤ u) (h1 : u ≤ 1) : T3 u = (1, u, 0) := by
  unfold T3
  have c0 : ((0 : Int) : Rat) = 0 := rfl
  have c1 : ((-1 : Int) : Rat) = -1 := rfl
  rw [Kp_of (y := u + 2) (t := u + 2) (j := 0) (by grind) (by grind) (by grind), Kp_of (y := u) (t := u) (j := 0) (by grind) (by grind) (by grind), Kp_of (y := u - 2) (t := u + 4) (j := -1) (by grind) (by grind) (by grind), Pk_end (t := u + 4) (by grind), show Pk (u + 2) = 1 by unfold Pk cl; grind, show Pk u = u by unfold Pk cl; grind]
theorem T3_v {u : Rat} (h0 : 0 ≤ u) (h1 : u ≤ 1) : T3 (-u) = (1, 0, u) := by
  have h := T3_u h0 h1
  rw [T3_mir]
  unfold T3 at h
  injection h with a b
  injection b with b c
  rw [a, b, c]
theorem T3_two {x a b c : Rat} (h : T3 x = (a, b, c)) : T3 (2 + x) = (c, a, b) := by
  unfold T3 at *
  injection h with h1 h2
  injection h2 with h2 h3
  have h5 := Kp_per (x - 2) 1
  rw [show x - 2 + 6 * ((1 : Int) : Rat) = 2 + x + 2 by rw [show ((1 : Int) : Rat) = 1 from rfl]; grind] at h5
  rw [h5, h3, show 2 + x = x + 2 by grind, h1, show x + 2 - 2 = x by grind, h2]
theorem hue_k {p r s : Rat} (p0 : 0 ≤ p) (p1 : p ≤ 1) (r0 : 0 ≤ r) (r1 : r ≤ 1) (s0 : 0 ≤ s) (s1 : s ≤ 1) (hz : p = 0 ∨ r = 0 ∨ s = 0) (ho : p = 1 ∨ r = 1 ∨ s = 1) :
    T3 (hueX p r s) = (1 - p, 1 - r, 1 - s) ∧ -1 ≤ hueX p r s ∧ hueX p r s ≤ 5 := by
  have b : ∀ x : Rat, 0 ≤ x → x ≤ 1 → 0 ≤ 1 - x ∧ 1 - x ≤ 1 := fun x h0 h1 => by grind
  obtain ⟨bp0, bp1⟩ := b p p0 p1
  obtain ⟨br0, br1⟩ := b r r0 r1
  obtain ⟨bs0, bs1⟩ := b s s0 s1
  unfold hueX
  by_cases hp : p = 0
  · subst hp
    rw [if_pos rfl]
    refine ⟨?_, by grind, by grind⟩
    by_cases h : s = 1
    · subst h; rw [T3_u br0 br1]; grind
    · have h : r = 1 := by grind
      subst h; rw [show s - 1 = -(1 - s) by grind, T3_v bs0 bs1]; grind
  · rw [if_neg hp]
    by_cases hr : r = 0
    · subst hr
      rw [if_pos rfl]
      refine ⟨?_, by grind, by grind⟩
      by_cases h : p = 1
      · subst h; rw [show 2 + 1 - s = 2 + (1 - s) by grind, T3_two (T3_u bs0 bs1)]; grind
      · have h : s = 1 := by grind
        subst h; rw [show 2 + p - 1 = 2 + -(1 - p) by grind, T3_two (T3_v bp0 bp1)]; grind
    · rw [if_neg hr]
      have hs : s = 0 := by grind
      subst hs
      refine ⟨?_, by grind, by grind⟩
      by_cases h : p = 1
      · subst h; rw [show 4 + r - 1 = 2 + (2 + -(1 - r)) by grind, T3_two (T3_two (T3_v br0 br1))]; grind
      · have h : r = 1 := by grind
        subst h; rw [show 4 + 1 - p = 2 + (2 + (1 - p)) by grind, T3_two (T3_two (T3_u bp0 bp1))]; grind
end Mine
end PFl6

section PFl7
namespace Mine
open PySem PySem.Float64

theorem Nr.near {x : UInt64} {X : Rat} {n : Int} {d : Nat} (hd : 0 < d) (hf : isFinite x = true) (h : val x * d = n * T) (h1 : (n : Rat) / (d : Rat) ≤ X + u) (h2 : X ≤ (n : Rat) / (d : Rat) + u) : Nr x X 1 := by
  refine ⟨hf, ?_, ?_⟩ <;> (rw [q_lit hd h, show ((1 : Nat) : Rat) = 1 from rfl]; grind)
theorem Nr.to {x : UInt64} {X Y : Rat} {n : Nat} (h : Nr x X n) (e : X = Y) : Nr x Y n := e ▸ h
theorem Nr.shift {x : UInt64} {X Y : Rat} {n : Nat} (h : Nr x X n) (m : Nat) (h1 : X ≤ Y + m * u) (h2 : Y ≤ X + m * u) : Nr x Y (n + m) := by
  obtain ⟨f, a, b⟩ := h
  have e : ((n + m : Nat) : Rat) * u = n * u + m * u := by rw [Rat.natCast_add]; grind
  refine ⟨f, ?_, ?_⟩ <;> (rw [e]; grind)
theorem Nr.q_le {x : UInt64} {X : Rat} {n : Nat} (h : Nr x X n) (hn : n ≤ 549755813888) : q x ≤ X + 1 / 1024 ∧ X ≤ q x + 1 / 1024 := by
  have := nu_small hn
  exact ⟨by have := h.hi; grind, by have := h.lo; grind⟩
theorem k1 : Nr 4607182418800017408 1 0 := (Nr.lit (n := 1) (d := 1) (by decide) (by decide +kernel) (by rw [T_is]; decide +kernel)).to (by decide +kernel)
theorem k2 : Nr 4611686018427387904 2 0 := (Nr.lit (n := 2) (d := 1) (by decide) (by decide +kernel) (by rw [T_is]; decide +kernel)).to (by decide +kernel)
theorem k4 : Nr 4616189618054758400 4 0 := (Nr.lit (n := 4) (d := 1) (by decide) (by decide +kernel) (by rw [T_is]; decide +kernel)).to (by decide +kernel)
theorem k6 : Nr 4618441417868443648 6 0 := (Nr.lit (n := 6) (d := 1) (by decide) (by decide +kernel) (by rw [T_is]; decide +kernel)).to (by decide +kernel)
theorem kH : Nr 4602678819172646912 (1 / 2) 0 := (Nr.lit (n := 1) (d := 2) (by decide) (by decide +kernel) (by rw [T_is]; decide +kernel)).to (by decide +kernel)
theorem k0 : Nr 0 0 0 := (Nr.lit (n := 0) (d := 1) (by decide) (by decide +kernel) (by rw [T_is]; decide +kernel)).to (by decide +kernel)
theorem kI {i : Int} (h0 : 0 ≤ i) (h1 : i ≤ 2 ^ 53) : Nr (ofInt i) i 0 := by
  obtain ⟨a, b⟩ := ofInt_q h0 h1
  have := Nr.self a
  rwa [b] at this
theorem one_le6 : (1 : Rat) ≤ ((1 : Nat) : Rat) * (6 - ((0 : Nat) : Rat) * u) := by decide +kernel
theorem one_le2 : (1 : Rat) ≤ ((1 : Nat) : Rat) * (2 - ((0 : Nat) : Rat) * u) := by decide +kernel
theorem Nr.q0 {x : UInt64} {X : Rat} (h : Nr x X 0) : q x = X := by
  have h1 := h.hi
  have h2 := h.lo
  have : ((0 : Nat) : Rat) * u = 0 := by rw [show ((0 : Nat) : Rat) = 0 from rfl, Rat.zero_mul]
  rw [this] at h1 h2
  grind
/-- an octet's 255th -/
noncomputable def Rf (a : Int) : Rat := (a : Rat) / 255
theorem oF_nr {a : Int} (h0 : 0 ≤ a) (h1 : a < 256) : Nr (oF a) (Rf a) 1 := by
  have e : oF a = ofFrac false a.natAbs 255 := by
    unfold oF
    rw [decide_eq_false (by omega)]; rfl
  rw [e]
  refine (ofFrac_nr a.natAbs 255 (by decide) (by omega)).to ?_
  unfold Rf
  rw [← Rat.intCast_natCast, Int.natAbs_of_nonneg h0]
  rfl
theorem onF_nr {k : Int} : Nr (onF k) ((k.fmod 6 : Int) / 6 : Rat) 1 := by
  have h0 := Int.fmod_nonneg_of_pos k (b := 6) (by decide)
  have h1 := Int.fmod_lt_of_pos k (b := 6) (by decide)
  have e : onF k = ofFrac false (k.fmod 6).natAbs 6 := by
    unfold onF
    rw [decide_eq_false (by omega)]; rfl
  rw [e]
  refine (ofFrac_nr (k.fmod 6).natAbs 6 (by decide) (by omega)).to ?_
  rw [← Rat.intCast_natCast, Int.natAbs_of_nonneg h0]
  rfl
theorem Rf_lt {a b : Int} (h : a < b) : Rf a + 1 / 255 ≤ Rf b := by
  have h1 : (a : Rat) + 1 ≤ (b : Rat) := by
    have := cast_le (show a + 1 ≤ b by omega)
    rwa [Rat.intCast_add] at this
  unfold Rf; grind
theorem Rf_rng {a : Int} (h0 : 0 ≤ a) (h1 : a < 256) : 0 ≤ Rf a ∧ Rf a ≤ 1 := by
  have h2 : (0 : Rat) ≤ (a : Rat) := Rat.intCast_nonneg.mpr h0
  have h3 : (a : Rat) ≤ 255 := cast_le (show a ≤ 255 by omega)
  unfold Rf
  constructor <;> grind
noncomputable def InO (a : Int) : Prop := 0 ≤ a ∧ a < 256
theorem oF_q {a b : Int} (ha : InO a) (hb : InO b) (h : a < b) : q (oF a) < q (oF b) := by
  have h1 := (oF_nr ha.1 ha.2).q_le (by decide)
  have h2 := (oF_nr hb.1 hb.2).q_le (by decide)
  have := Rf_lt h
  grind
theorem oF_lt {a b : Int} (ha : InO a) (hb : InO b) : (cmp (oF a) (oF b) == some .lt) = decide (a < b) := by
  have fa := (oF_nr ha.1 ha.2).fin
  have fb := (oF_nr hb.1 hb.2).fin
  by_cases h : a < b
  · rw [decide_eq_true h, cmp_lt_t fa fb (oF_q ha hb h)]
  · rw [decide_eq_false h, cmp_lt_f fa fb ?_]
    rcases Int.lt_or_eq_of_le (Int.not_lt.mp h) with h2 | h2
    · exact Rat.le_of_lt (oF_q hb ha h2)
    · rw [h2]; exact Rat.le_refl
theorem oF_eq {a b : Int} (ha : InO a) (hb : InO b) : (cmp (oF a) (oF b) == some .eq) = decide (a = b) := by
  have fa := (oF_nr ha.1 ha.2).fin
  have fb := (oF_nr hb.1 hb.2).fin
  by_cases h : a = b
  · rw [decide_eq_true h, (cmp_eq_iff fa fb).mpr (by rw [h])]
  · rw [decide_eq_false h]
    cases e : (cmp (oF a) (oF b) == some .eq) with
    | false => rfl
    | true =>
      have := (cmp_eq_iff fa fb).mp e
      rcases Int.lt_or_gt_of_ne h with h2 | h2
      · have := oF_q ha hb h2; grind
      · have := oF_q hb ha h2; grind
theorem mx3_oF {a b c : Int} (ha : InO a) (hb : InO b) (hc : InO c) : mx3 (oF a) (oF b) (oF c) = oF (mxI a b c) := by
  unfold mx3
  rw [oF_lt ha hb, oF_lt hb hc, oF_lt ha hc]
  simp only [decide_eq_true_eq]
  unfold mxI
  split
  · split
    · congr 1; omega
    · congr 1; omega
  · split
    · congr 1; omega
    · congr 1; omega
theorem mn3_oF {a b c : Int} (ha : InO a) (hb : InO b) (hc : InO c) : mn3 (oF a) (oF b) (oF c) = oF (mnI a b c) := by
  unfold mn3
  rw [oF_lt hb ha, oF_lt hc hb, oF_lt hc ha]
  simp only [decide_eq_true_eq]
  unfold mnI
  split
  · split
    · congr 1; omega
    · congr 1; omega
  · split
    · congr 1; omega
    · congr 1; omega
/-- the greatest, the least, and how far one falls short -/
noncomputable def rho (M m a : Int) : Rat := ((M - a : Int) : Rat) / ((M - m : Int) : Rat)
structure Mm (a b c M m : Int) : Prop where
  ia : InO a
  ib : InO b
  ic : InO c
  iM : InO M
  im : InO m
  lt : m < M
  ra : m ≤ a ∧ a ≤ M
  rb : m ≤ b ∧ b ≤ M
  rc : m ≤ c ∧ c ≤ M
  top : M = a ∨ M = b ∨ M = c
  low : m = a ∨ m = b ∨ m = c
theorem mm_of {a b c : Int} (ha : InO a) (hb : InO b) (hc : InO c) (h : mnI a b c ≠ mxI a b c) : Mm a b c (mxI a b c) (mnI a b c) := by
  unfold mnI mxI at *
  unfold InO at *
  refine ⟨ha, hb, hc, ?_, ?_, ?_, ?_, ?_, ?_, ?_, ?_⟩ <;> first | (unfold InO; omega) | omega
theorem rho_facts {M m a : Int} (h : m < M) (h1 : m ≤ a) (h2 : a ≤ M) : 0 ≤ rho M m a ∧ rho M m a ≤ 1 ∧ (rho M m a = 0 ↔ a = M) ∧ (rho M m a = 1 ↔ a = m) ∧ Rf M - Rf a = rho M m a * (Rf M - Rf m) ∧ 1 / 255 ≤ Rf M - Rf m := by
  have hd : (0 : Rat) < ((M - m : Int) : Rat) := Rat.intCast_pos.mpr (by omega)
  have hne := Rat.ne_of_gt hd
  have he := Rat.div_mul_cancel (a := ((M - a : Int) : Rat)) hne
  have h3 : (0 : Rat) ≤ ((M - a : Int) : Rat) := Rat.intCast_nonneg.mpr (by omega)
  have h4 : ((M - a : Int) : Rat) ≤ ((M - m : Int) : Rat) := cast_le (by omega)
  have h5 : (1 : Rat) ≤ ((M - m : Int) : Rat) := cast_le (show 1 ≤ M - m by omega)
  have h0 : 0 ≤ rho M m a := by
    refine Rat.le_of_mul_le_mul_right ?_ hd
    unfold rho; rw [he, Rat.zero_mul]; exact h3
  have h6 : rho M m a ≤ 1 := by
    refine Rat.le_of_mul_le_mul_right ?_ hd
    unfold rho; rw [he, Rat.one_mul]; exact h4
  have h7 : Rf M - Rf a = rho M m a * (Rf M - Rf m) := by
    unfold rho Rf
    rw [Rat.intCast_sub, Rat.intCast_sub] at *
    grind
  refine ⟨h0, h6, ⟨?_, ?_⟩, ⟨?_, ?_⟩, h7, ?_⟩
  · intro h8
    unfold rho at h8
    rw [h8, Rat.zero_mul] at he
    have := Rat.intCast_eq_zero_iff.mp he.symm
    omega
  · rintro rfl
    unfold rho
    rw [Int.sub_self, Rat.intCast_zero, Rat.div_def, Rat.zero_mul]
  · intro h8
    unfold rho at h8
    rw [h8, Rat.one_mul] at he
    have := Rat.intCast_inj.mp he
    omega
  · rintro rfl
    unfold rho
    rw [Rat.div_def, Rat.mul_inv_cancel _ hne]
  · have := Rf_lt h; grind
theorem fall_nr {M m a : Int} (hM : InO M) (hm : InO m) (ha : InO a) (h : m < M) (h1 : m ≤ a) (h2 : a ≤ M) : Nr (div (sub (oF M) (oF a)) (sub (oF M) (oF m))) (rho M m a) 1537 := by
  obtain ⟨r0, r1, _, _, e, hd⟩ := rho_facts h h1 h2
  have bM := Rf_rng hM.1 hM.2
  have bm := Rf_rng hm.1 hm.2
  have ba := Rf_rng ha.1 ha.2
  have n1 := ((oF_nr hM.1 hM.2).sub (oF_nr ha.1 ha.2) (by decide) (by decide) (by grind) (by grind)).to e
  have n2 := (oF_nr hM.1 hM.2).sub (oF_nr hm.1 hm.2) (by decide) (by decide) (by grind) (by grind)
  have hu : ((1 + 1 + 1 : Nat) : Rat) * u ≤ 1 / 1000000 := by decide +kernel
  refine (n1.div n2 1 256 (by decide) (by decide) (by grind) (by grind) (by decide) ?_ (by decide)).mono (by decide)
  rw [show ((256 : Nat) : Rat) = 256 from rfl]
  grind
/-- the hue, in sixths, give or take a turn -/
theorem hue_nr {a b c M m : Int} (H : Mm a b c M m) : ∃ j : Int, Nr (hueOf (oF a) (oF b) (oF c) (oF M) (sub (oF M) (oF m))) (hueX (rho M m a) (rho M m b) (rho M m c) / 6 - j) 3078 ∧
    -1 ≤ hueX (rho M m a) (rho M m b) (rho M m c) / 6 - j ∧ hueX (rho M m a) (rho M m b) (rho M m c) / 6 - j ≤ 2 ∧
    -u ≤ q (hueOf (oF a) (oF b) (oF c) (oF M) (sub (oF M) (oF m))) ∧ q (hueOf (oF a) (oF b) (oF c) (oF M) (sub (oF M) (oF m))) ≤ 1 + u := by
  obtain ⟨a0, a1, az, ao, ae, _⟩ := rho_facts H.lt H.ra.1 H.ra.2
  obtain ⟨b0, b1, bz, bo, be, _⟩ := rho_facts H.lt H.rb.1 H.rb.2
  obtain ⟨c0, c1, cz, co, ce, _⟩ := rho_facts H.lt H.rc.1 H.rc.2
  have na := fall_nr H.iM H.im H.ia H.lt H.ra.1 H.ra.2
  have nb := fall_nr H.iM H.im H.ib H.lt H.rb.1 H.rb.2
  have nc := fall_nr H.iM H.im H.ic H.lt H.rc.1 H.rc.2
  have hz : rho M m a = 0 ∨ rho M m b = 0 ∨ rho M m c = 0 := by rw [az, bz, cz]; have := H.top; omega
  have ho : rho M m a = 1 ∨ rho M m b = 1 ∨ rho M m c = 1 := by rw [ao, bo, co]; have := H.low; omega
  obtain ⟨_, e1, e2⟩ := hue_k a0 a1 b0 b1 c0 c1 hz ho
  have hE : Nr (if (cmp (oF a) (oF M) == some .eq) = true then sub (div (sub (oF M) (oF c)) (sub (oF M) (oF m))) (div (sub (oF M) (oF b)) (sub (oF M) (oF m)))
      else if (cmp (oF b) (oF M) == some .eq) = true then sub (add 4611686018427387904 (div (sub (oF M) (oF a)) (sub (oF M) (oF m)))) (div (sub (oF M) (oF c)) (sub (oF M) (oF m)))
      else sub (add 4616189618054758400 (div (sub (oF M) (oF b)) (sub (oF M) (oF m)))) (div (sub (oF M) (oF a)) (sub (oF M) (oF m)))) (hueX (rho M m a) (rho M m b) (rho M m c)) 3076 := by
    rw [oF_eq H.ia H.iM, oF_eq H.ib H.iM]
    unfold hueX
    by_cases h1 : a = M
    · rw [if_pos (decide_eq_true h1), if_pos (az.mpr h1)]
      exact (nc.sub nb (by decide) (by decide) (by grind) (by grind)).mono (by decide)
    · rw [if_neg (by simpa using h1), if_neg (fun h => h1 (az.mp h))]
      by_cases h2 : b = M
      · rw [if_pos (decide_eq_true h2), if_pos (bz.mpr h2)]
        exact ((k2.add na (by decide) (by decide) (by grind) (by grind)).sub nc (by decide) (by decide) (by grind) (by grind)).mono (by decide)
      · rw [if_neg (by simpa using h2), if_neg (fun h => h2 (bz.mp h))]
        exact ((k4.add nb (by decide) (by decide) (by grind) (by grind)).sub na (by decide) (by decide) (by grind) (by grind)).mono (by decide)
  generalize hueX (rho M m a) (rho M m b) (rho M m c) = X at *
  unfold hueOf
  generalize (if (cmp (oF a) (oF M) == some .eq) = true then _ else _ : UInt64) = y at *
  have h6 : Nr (div y 4618441417868443648) (X / 6) 3077 :=
    ((hE.to (show X = X / 6 * 6 by grind)).div k6 1 1 (by decide) (by decide) (by grind) (by grind) (by decide) one_le6 (by decide)).mono (by decide)
  obtain ⟨f, ⟨j, j1, j2⟩, l1, l2⟩ := mod1_q h6.fin
  have hb := h6.q_le (by decide)
  have hu : u ≤ 1 / 1024 := by decide +kernel
  have e3 : ((3078 : Nat) : Rat) * u = ((3077 : Nat) : Rat) * u + u := by rw [show ((3078 : Nat) : Rat) = 3078 from rfl, show ((3077 : Nat) : Rat) = 3077 from rfl]; grind
  have c5 := h6.hi
  have c6 := h6.lo
  refine ⟨j, ⟨f, ?_, ?_⟩, ?_, ?_, l1, l2⟩
  · rw [e3]; show q (divmod (div y 4618441417868443648) one).2 ≤ _; grind
  · rw [e3]; show _ ≤ q (divmod (div y 4618441417868443648) one).2 + _; grind
  · grind
  · grind
end Mine
end PFl7

section PFl8
namespace Mine
open PySem PySem.Float64

/-- on the first sixth, give or take e, the height is the way itself -/
theorem Kp_up {t e : Rat} (h1 : -e ≤ t) (h2 : t ≤ 1 + e) (he : e ≤ 1 / 2) (h0 : 0 ≤ e) : t ≤ Kp t + e + e ∧ Kp t ≤ t + e + e := by
  have hc : Kp (cl t) = cl t := by
    rw [Kp_of (y := cl t) (t := cl t) (j := 0) (by unfold cl; grind) (by unfold cl; grind) (by rw [Rat.intCast_zero]; grind)]
    unfold Pk cl; grind
  have h3 : t ≤ cl t + e ∧ cl t ≤ t + e := by unfold cl; grind
  obtain ⟨a, b⟩ := Kp_lip h3.1 h3.2 (by grind)
  rw [hc] at a b
  constructor <;> grind
theorem Kp_top {t e : Rat} (h1 : 1 - e ≤ t) (h2 : t ≤ 3 + e) (he : e ≤ 1 / 2) (h0 : 0 ≤ e) : 1 ≤ Kp t + e ∧ Kp t ≤ 1 := by
  refine ⟨?_, (Kp_rng t).2⟩
  rw [Kp_of (y := t) (t := t) (j := 0) (by grind) (by grind) (by rw [Rat.intCast_zero]; grind)]
  unfold Pk cl; grind
theorem Kp_down {t e : Rat} (h1 : 3 - e ≤ t) (h2 : t ≤ 4 + e) (he : e ≤ 1 / 2) (h0 : 0 ≤ e) : 4 - t ≤ Kp t + e ∧ Kp t ≤ 4 - t + e := by
  rw [Kp_of (y := t) (t := t) (j := 0) (by grind) (by grind) (by rw [Rat.intCast_zero]; grind)]
  unfold Pk cl; constructor <;> grind
theorem Kp_low {t e : Rat} (h1 : 4 - e ≤ t) (h2 : t ≤ 6 + e) (he : e ≤ 1 / 2) (h0 : 0 ≤ e) : Kp t ≤ e ∧ 0 ≤ Kp t := by
  refine ⟨?_, (Kp_rng t).1⟩
  by_cases c : t ≤ 6
  · rw [Kp_of (y := t) (t := t) (j := 0) (by grind) (by grind) (by rw [Rat.intCast_zero]; grind)]
    unfold Pk cl; grind
  · rw [Kp_of (y := t) (t := t - 6) (j := 1) (by grind) (by grind) (by rw [show ((1 : Int) : Rat) = 1 from rfl]; grind)]
    unfold Pk cl; grind
/-- a height near another one, the span at most 1 -/
theorem span_shift {A B k k' e : Rat} (h0 : 0 ≤ B) (h1 : B ≤ 1) (hk1 : k ≤ k' + e) (hk2 : k' ≤ k + e) (he : 0 ≤ e) : A + B * k ≤ A + B * k' + e ∧ A + B * k' ≤ A + B * k + e := by
  have a1 := Rat.mul_le_mul_of_nonneg_left (show k - k' ≤ e by grind) h0
  have a2 := Rat.mul_le_mul_of_nonneg_left (show k' - k ≤ e by grind) h0
  have a3 := Rat.mul_le_mul_of_nonneg_right h1 he
  constructor <;> grind
theorem kS : Nr 4595172819793696085 (1 / 6) 1 := Nr.near (n := 6004799503160661) (d := 36028797018963968) (by decide) (by decide +kernel) (by rw [T_is]; decide +kernel) (by decide +kernel) (by decide +kernel)
theorem kT : Nr 4599676419421066581 (1 / 3) 1 := Nr.near (n := 6004799503160661) (d := 18014398509481984) (by decide) (by decide +kernel) (by rw [T_is]; decide +kernel) (by decide +kernel) (by decide +kernel)
theorem kTT : Nr 4604180019048437077 (2 / 3) 1 := Nr.near (n := 6004799503160661) (d := 9007199254740992) (by decide) (by decide +kernel) (by rw [T_is]; decide +kernel) (by decide +kernel) (by decide +kernel)
/-- _v: a channel by its height along the circle -/
theorem v_nr {m1 m2 h : UInt64} {A B y : Rat} {n n1 n2 : Nat} (hh : Nr h (y / 6) n) (h1 : Nr m1 A n1) (h2 : Nr m2 (A + B) n2) (hn : n ≤ 5000) (hn1 : n1 ≤ 5000) (hn2 : n2 ≤ 5000)
    (hA : 0 ≤ A) (hB : 0 ≤ B) (hAB : A + B ≤ 1) : Nr (vF m1 m2 h) (A + B * Kp y) 200000 := by
  obtain ⟨f, ⟨j, j1, j2⟩, l1, l2⟩ := mod1_q hh.fin
  have hhi := hh.hi
  have hlo := hh.lo
  have hu := u_pos
  have hu2 : u ≤ 1 / 1000000000 := by decide +kernel
  unfold vF
  have hone : (4607182418800017408 : UInt64) = one := rfl
  rw [hone]
  generalize (divmod h one).2 = w at *
  -- the way along the circle, as the machine has it
  have hW : Kp (6 * q w) ≤ Kp y + 36000 * u ∧ Kp y ≤ Kp (6 * q w) + 36000 * u := by
    have hn' := nu_le hn
    rw [show ((5000 : Nat) : Rat) = 5000 from rfl] at hn'
    have := Kp_lip (y := 6 * q w) (z := y + 6 * ((-j : Int) : Rat)) (e := 36000 * u) (by rw [Rat.intCast_neg]; grind) (by rw [Rat.intCast_neg]; grind) (by grind)
    rw [Kp_per] at this
    exact this
  have nS := kS.hi
  have nS' := kS.lo
  have nTT := kTT.hi
  have nTT' := kTT.lo
  rw [show ((1 : Nat) : Rat) = 1 from rfl] at nS nS' nTT nTT'
  have hd := (h2.sub h1 (Nat.le_trans hn2 (by decide)) (Nat.le_trans hn1 (by decide)) (by grind) (by grind)).to (show A + B - A = B by grind)
  have hd := hd.mono (m := 10001) (by omega)
  have fin : ∀ {z : UInt64} {k : Rat} {N : Nat}, Nr z (A + B * k) N → N ≤ 160000 → k ≤ Kp (6 * q w) + 30 * u → Kp (6 * q w) ≤ k + 30 * u → Nr z (A + B * Kp y) 200000 := by
    intro z k N hz hN k1 k2
    have := span_shift (A := A) (B := B) (k := k) (k' := Kp y) (e := 36030 * u) hB (by grind) (by grind) (by grind) (by grind)
    exact (hz.shift 36030 (by rw [show ((36030 : Nat) : Rat) = 36030 from rfl]; exact this.1) (by rw [show ((36030 : Nat) : Rat) = 36030 from rfl]; exact this.2)).mono (by omega)
  unfold vG
  by_cases c1 : (cmp w 4595172819793696085 == some .lt) = true
  · rw [if_pos c1]
    have c := (cmp_lt_iff f kS.fin).mp c1
    have k := Kp_up (t := 6 * q w) (e := 6 * u) (by grind) (by grind) (by grind) (by grind)
    have p1 := hd.mul (Nr.self f) 1 1 (by decide) (by decide) (by decide) (by decide) (by decide) (by rw [show ((1 : Nat) : Rat) = 1 from rfl]; grind) (by rw [show ((1 : Nat) : Rat) = 1 from rfl]; grind) (by rw [show ((1 : Nat) : Rat) = 1 from rfl]; grind) (by rw [show ((1 : Nat) : Rat) = 1 from rfl]; grind)
    have b1 : B * q w ≤ 1 / 2 := by have := Rat.mul_le_mul_of_nonneg_left (show q w ≤ 1 / 2 by grind) hB; grind
    have b2 : -(1 / 2) ≤ B * q w := by have := Rat.mul_le_mul_of_nonneg_left (show -(1 / 2) ≤ q w by grind) hB; grind
    have p2 := p1.mul k6 1 6 (by decide) (by decide) (by decide) (by decide) (by decide) (by rw [show ((1 : Nat) : Rat) = 1 from rfl]; grind) (by rw [show ((1 : Nat) : Rat) = 1 from rfl]; grind) (by decide +kernel) (by decide +kernel)
    have p3 := h1.add (p2.to (show B * q w * 6 = B * (6 * q w) by grind)) (Nat.le_trans hn1 (by decide)) (by decide) (by grind) (by grind)
    exact fin p3 (by omega) (by grind) (by grind)
  · rw [if_neg c1]
    have c := Rat.not_lt.mp (fun h => c1 ((cmp_lt_iff f kS.fin).mpr h))
    by_cases c2 : (cmp w 4602678819172646912 == some .lt) = true
    · rw [if_pos c2]
      have c3 := (cmp_lt_iff f kH.fin).mp c2
      rw [kH.q0] at c3
      have k := Kp_top (t := 6 * q w) (e := 6 * u) (by grind) (by grind) (by grind) (by grind)
      exact fin (k := 1) (h2.to (show A + B = A + B * 1 by grind)) (by omega) (by grind) (by grind)
    · rw [if_neg c2]
      have c3 := Rat.not_lt.mp (fun h => c2 ((cmp_lt_iff f kH.fin).mpr h))
      rw [kH.q0] at c3
      by_cases c4 : (cmp w 4604180019048437077 == some .lt) = true
      · rw [if_pos c4]
        have c5 := (cmp_lt_iff f kTT.fin).mp c4
        have k := Kp_down (t := 6 * q w) (e := 6 * u) (by grind) (by grind) (by grind) (by grind)
        have p0 := kTT.sub (Nr.self f) (by decide) (by decide) (by grind) (by grind)
        have p1 := hd.mul p0 1 1 (by decide) (by decide) (by decide) (by decide) (by decide) (by rw [show ((1 : Nat) : Rat) = 1 from rfl]; grind) (by rw [show ((1 : Nat) : Rat) = 1 from rfl]; grind) (by rw [show ((1 : Nat) : Rat) = 1 from rfl]; grind) (by rw [show ((1 : Nat) : Rat) = 1 from rfl]; grind)
        have b1 : B * (2 / 3 - q w) ≤ 1 / 2 := by have := Rat.mul_le_mul_of_nonneg_left (show 2 / 3 - q w ≤ 1 / 2 by grind) hB; grind
        have b2 : -(1 / 2) ≤ B * (2 / 3 - q w) := by have := Rat.mul_le_mul_of_nonneg_left (show -(1 / 2) ≤ 2 / 3 - q w by grind) hB; grind
        have p2 := p1.mul k6 1 6 (by decide) (by decide) (by decide) (by decide) (by decide) (by rw [show ((1 : Nat) : Rat) = 1 from rfl]; grind) (by rw [show ((1 : Nat) : Rat) = 1 from rfl]; grind) (by decide +kernel) (by decide +kernel)
        have p3 := h1.add (p2.to (show B * (2 / 3 - q w) * 6 = B * (4 - 6 * q w) by grind)) (Nat.le_trans hn1 (by decide)) (by decide) (by grind) (by grind)
        exact fin p3 (by omega) (by grind) (by grind)
      · rw [if_neg c4]
        have c5 := Rat.not_lt.mp (fun h => c4 ((cmp_lt_iff f kTT.fin).mpr h))
        have k := Kp_low (t := 6 * q w) (e := 6 * u) (by grind) (by grind) (by grind) (by grind)
        exact fin (k := 0) (h1.to (show A = A + B * 0 by grind)) (by omega) (by grind) (by grind)
/-- hls_to_rgb behind its test for grey: a base A, a span B -/
theorem hlsrF_nr {h l s m1 m2 : UInt64} {A B y : Rat} {n1 n2 : Nat} (hh : Nr h (y / 6) 3081) (h1 : Nr m1 A n1) (h2 : Nr m2 (A + B) n2) (hn1 : n1 ≤ 5000) (hn2 : n2 ≤ 5000)
    (hA : 0 ≤ A) (hB : 0 ≤ B) (hAB : A + B ≤ 1) (hy1 : -12 ≤ y) (hy2 : y ≤ 24) :
    Nr (hlsrF h l s m1 m2).1 (A + B * (T3 y).1) 200000 ∧ Nr (hlsrF h l s m1 m2).2.1 (A + B * (T3 y).2.1) 200000 ∧ Nr (hlsrF h l s m1 m2).2.2 (A + B * (T3 y).2.2) 200000 := by
  have a1 := (hh.add kT (by decide) (by decide) (by grind) (by grind)).to (show y / 6 + 1 / 3 = (y + 2) / 6 by grind)
  have a2 := (hh.sub kT (by decide) (by decide) (by grind) (by grind)).to (show y / 6 - 1 / 3 = (y - 2) / 6 by grind)
  exact ⟨v_nr a1 h1 h2 (by decide) hn1 hn2 hA hB hAB, v_nr hh h1 h2 (by decide) hn1 hn2 hA hB hAB, v_nr a2 h1 h2 (by decide) hn1 hn2 hA hB hAB⟩
end Mine
end PFl8

section PFl9
namespace Mine
open PySem PySem.Float64

theorem le5_iff {l : UInt64} (h : isFinite l = true) : (cmp l 4602678819172646912 == some .lt || cmp l 4602678819172646912 == some .eq) = true ↔ q l ≤ 1 / 2 := by
  rw [Bool.or_eq_true, cmp_lt_iff h kH.fin, cmp_eq_iff h kH.fin, kH.q0]
  constructor
  · rintro (h | h) <;> grind
  · intro h
    by_cases h2 : q l < 1 / 2
    · exact .inl h2
    · exact .inr (by grind)
/-- lightness, half span, and the two ways to the saturation -/
structure Sat (a S D : Rat) : Prop where
  a0 : 0 ≤ a
  a1 : a ≤ 1
  S0 : 0 ≤ S
  S1 : S ≤ 1
  D0 : 0 ≤ D
  lo : D ≤ a
  hi : a + D ≤ 1
/-- hls_to_rgb of a colour that is not grey -/
theorem hlsr_nr {h l s : UInt64} {L S D y : Rat} (hh : Nr h (y / 6) 3081) (hl : Nr l L 5) (hs : Nr s S 1794) (H : Sat L S D) (hy1 : -12 ≤ y) (hy2 : y ≤ 24) (hs0 : q s ≠ 0)
    (e1 : L ≤ 1 / 2 + 5 * u → L * S = D) (e2 : 1 / 2 - 5 * u ≤ L → S * (1 - L) = D) :
    Nr (hlsr h l s).1 (L - D + (D + D) * (T3 y).1) 200000 ∧ Nr (hlsr h l s).2.1 (L - D + (D + D) * (T3 y).2.1) 200000 ∧ Nr (hlsr h l s).2.2 (L - D + (D + D) * (T3 y).2.2) 200000 := by
  obtain ⟨a0, a1, S0, S1, D0, lo, hi⟩ := H
  unfold hlsr
  have hc : ¬ (cmp s 0 == some .eq) = true := fun h => by
    have := (cmp_eq_iff hs.fin k0.fin).mp h
    rw [k0.q0] at this
    exact hs0 this
  rw [if_neg hc]
  have o1 : ((1 : Nat) : Rat) = 1 := rfl
  have o2 : ((2 : Nat) : Rat) = 2 := rfl
  have m2l := (k2.mul hl 2 1 (by decide) (by decide) (by decide) (by decide) (by decide) (by grind) (by grind) (by grind) (by grind)).mono (m := 12) (by decide)
  have hhi := hl.hi
  have hlo := hl.lo
  rw [show ((5 : Nat) : Rat) = 5 from rfl] at hhi hlo
  by_cases c : (cmp l 4602678819172646912 == some .lt || cmp l 4602678819172646912 == some .eq) = true
  · rw [if_pos c]
    have c1 := (le5_iff hl.fin).mp c
    have e := e1 (by grind)
    have n2 := (hl.mul (k1.add hs (by decide) (by decide) (by grind) (by grind)) 1 2 (by decide) (by decide) (by decide) (by decide) (by decide) (by grind) (by grind) (by grind) (by grind)).to (show L * (1 + S) = L - D + (D + D) by grind)
    have n1 := (m2l.sub n2 (by decide) (by decide) (by grind) (by grind)).to (show 2 * L - (L - D + (D + D)) = L - D by grind)
    exact hlsrF_nr hh n1 n2 (by decide) (by decide) (by grind) (by grind) (by grind) hy1 hy2
  · rw [if_neg c]
    have c1 := Rat.not_le.mp (fun h => c ((le5_iff hl.fin).mpr h))
    have e := e2 (by grind)
    have n2 := ((hl.add hs (by decide) (by decide) (by grind) (by grind)).sub (hl.mul hs 1 1 (by decide) (by decide) (by decide) (by decide) (by decide) (by grind) (by grind) (by grind) (by grind)) (by decide) (by decide) (by grind) (by grind)).to (show L + S - L * S = L - D + (D + D) by grind)
    have n1 := (m2l.sub n2 (by decide) (by decide) (by grind) (by grind)).to (show 2 * L - (L - D + (D + D)) = L - D by grind)
    exact hlsrF_nr hh n1 n2 (by decide) (by decide) (by grind) (by grind) (by grind) hy1 hy2
/-- lightness and saturation of a colour that is not grey -/
theorem light_nr {M m : Int} (hM : InO M) (hm : InO m) (h : m < M) : Nr (div (add (oF M) (oF m)) 4611686018427387904) ((Rf M + Rf m) / 2) 4 := by
  have bM := Rf_rng hM.1 hM.2
  have bm := Rf_rng hm.1 hm.2
  have n1 := ((oF_nr hM.1 hM.2).add (oF_nr hm.1 hm.2) (by decide) (by decide) (by grind) (by grind)).to (show Rf M + Rf m = (Rf M + Rf m) / 2 * 2 by grind)
  exact (n1.div k2 1 1 (by decide) (by decide) (by rw [show ((1 : Nat) : Rat) = 1 from rfl]; grind) (by rw [show ((1 : Nat) : Rat) = 1 from rfl]; grind) (by decide) one_le2 (by decide)).mono (by decide)
theorem sum_le {M m : Int} : Rf M + Rf m ≤ 1 + 10 * u → M + m ≤ 255 := by
  intro h
  have h2 : ((M + m : Int) : Rat) < ((256 : Int) : Rat) := by
    rw [Rat.intCast_add, show ((256 : Int) : Rat) = 256 from rfl]
    have : u ≤ 1 / 1000000 := by decide +kernel
    unfold Rf at h
    grind
  rw [Rat.intCast_lt_intCast] at h2
  omega
theorem sum_ge {M m : Int} : 1 - 10 * u ≤ Rf M + Rf m → 255 ≤ M + m := by
  intro h
  have h2 : ((254 : Int) : Rat) < ((M + m : Int) : Rat) := by
    rw [Rat.intCast_add, show ((254 : Int) : Rat) = 254 from rfl]
    have : u ≤ 1 / 1000000 := by decide +kernel
    unfold Rf at h
    grind
  rw [Rat.intCast_lt_intCast] at h2
  omega
theorem sat_nr {M m : Int} (hM : InO M) (hm : InO m) (h : m < M) : ∃ S : Rat, Nr (hlsS (div (add (oF M) (oF m)) 4611686018427387904) (oF M) (oF m)) S 1794 ∧ 1 / 1024 ≤ S ∧ S ≤ 1 ∧
    (M + m ≤ 255 → S * (Rf M + Rf m) = Rf M - Rf m) ∧ (255 ≤ M + m → S * (2 - Rf M - Rf m) = Rf M - Rf m) := by
  have bM := Rf_rng hM.1 hM.2
  have bm := Rf_rng hm.1 hm.2
  have hd := Rf_lt h
  have hl := light_nr hM hm h
  have n1 := (oF_nr hM.1 hM.2).sub (oF_nr hm.1 hm.2) (by decide) (by decide) (by grind) (by grind)
  have hu : u ≤ 1 / 1000000 := by decide +kernel
  have hhi := hl.hi
  have hlo := hl.lo
  rw [show ((4 : Nat) : Rat) = 4 from rfl] at hhi hlo
  have e255 : Rf 255 = 1 := by decide +kernel
  have hb : ∀ {r Y : Rat}, Rf M - Rf m = r * Y → 0 < Y → Rf M - Rf m ≤ Y → Y ≤ 2 → 1 / 1024 ≤ r ∧ r ≤ 1 := by
    intro r Y e hY h1 h2
    constructor
    · refine Rat.le_of_mul_le_mul_right ?_ hY
      grind
    · refine Rat.le_of_mul_le_mul_right ?_ hY
      grind
  have hq : ∀ {Y : Rat}, 0 < Y → ∃ r, Rf M - Rf m = r * Y := fun {Y} hY => ⟨(Rf M - Rf m) / Y, (Rat.div_mul_cancel (Rat.ne_of_gt hY)).symm⟩
  have o1 : ((1 : Nat) : Rat) = 1 := rfl
  have u3 : ((1 + 1 + 1 : Nat) : Rat) * u ≤ 1 / 1000000 := by decide +kernel
  have u4 : ((0 + 1 + 1 + 1 + 1 : Nat) : Rat) * u ≤ 1 / 1000000 := by decide +kernel
  unfold hlsS
  by_cases c : (cmp (div (add (oF M) (oF m)) 4611686018427387904) 4602678819172646912 == some .lt || cmp (div (add (oF M) (oF m)) 4611686018427387904) 4602678819172646912 == some .eq) = true
  · rw [if_pos c]
    have c1 := (le5_iff hl.fin).mp c
    have hs := sum_le (M := M) (m := m) (by grind)
    have n2 := (oF_nr hM.1 hM.2).add (oF_nr hm.1 hm.2) (by decide) (by decide) (by grind) (by grind)
    obtain ⟨S, eS⟩ := hq (Y := Rf M + Rf m) (by grind)
    obtain ⟨s1, s2⟩ := hb eS (by grind) (by grind) (by grind)
    refine ⟨S, ((n1.to eS).div n2 1 256 (by decide) (by decide) (by grind) (by grind) (by decide) (by rw [show ((256 : Nat) : Rat) = 256 from rfl]; grind) (by decide)).mono (by decide), s1, s2, fun _ => eS.symm, fun h2 => ?_⟩
    have : M + m = 255 := by omega
    have e3 : Rf M + Rf m = 1 := by
      have := congrArg (Int.cast (R := Rat)) this
      rw [Rat.intCast_add, show ((255 : Int) : Rat) = 255 from rfl] at this
      unfold Rf; grind
    grind
  · rw [if_neg c]
    have c1 := Rat.not_le.mp (fun h => c ((le5_iff hl.fin).mpr h))
    have hs := sum_ge (M := M) (m := m) (by grind)
    have n2 := (k2.sub (oF_nr hM.1 hM.2) (by decide) (by decide) (by grind) (by grind)).sub (oF_nr hm.1 hm.2) (by decide) (by decide) (by grind) (by grind)
    obtain ⟨S, eS⟩ := hq (Y := 2 - Rf M - Rf m) (by grind)
    obtain ⟨s1, s2⟩ := hb eS (by grind) (by grind) (by grind)
    refine ⟨S, ((n1.to eS).div n2 1 256 (by decide) (by decide) (by grind) (by grind) (by decide) (by rw [show ((256 : Nat) : Rat) = 256 from rfl]; grind) (by decide)).mono (by decide), s1, s2, fun h2 => ?_, fun _ => eS.symm⟩
    have : M + m = 255 := by omega
    have e3 : Rf M + Rf m = 1 := by
      have := congrArg (Int.cast (R := Rat)) this
      rw [Rat.intCast_add, show ((255 : Int) : Rat) = 255 from rfl] at this
      unfold Rf; grind
    grind
/-- the turned hue: on, and on from the other side -/
noncomputable def turnX (k : Int) (X : Rat) : Rat := ((k.fmod 6 : Int) : Rat) + (if ((k.fdiv 6).fmod 2 == 1) = true then -X else X)
theorem turn_nr {k : Int} {h : UInt64} {X : Rat} {j : Int} (hh : Nr h (X / 6 - j) 3078) (h1 : -1 ≤ X / 6 - j) (h2 : X / 6 - j ≤ 2) (l1 : -u ≤ q h) (l2 : q h ≤ 1 + u) :
    ∃ y : Rat, Nr (add (onF k) (hueB k h)) (y / 6) 3081 ∧ T3 y = T3 (turnX k X) ∧ -20000 * u ≤ y ∧ y ≤ 23 / 2 := by
  have ho := onF_nr (k := k)
  have k0' : (0 : Rat) ≤ ((k.fmod 6 : Int) : Rat) := Rat.intCast_nonneg.mpr (Int.fmod_nonneg_of_pos k (by decide))
  have k5 : ((k.fmod 6 : Int) : Rat) ≤ 5 := cast_le (show k.fmod 6 ≤ 5 by have := Int.fmod_lt_of_pos k (b := 6) (by decide); omega)
  have hu : u ≤ 1 / 1000000 := by decide +kernel
  have hu0 := u_pos
  have hhi := hh.hi
  have hlo := hh.lo
  rw [show ((3078 : Nat) : Rat) = 3078 from rfl] at hhi hlo
  unfold hueB turnX
  by_cases c : ((k.fdiv 6).fmod 2 == 1) = true
  · rw [if_pos c, if_pos c]
    have n1 := (kI (i := 1) (by decide) (by decide)).sub hh (by decide) (by decide) (by rw [Rat.intCast_one]; grind) (by rw [Rat.intCast_one]; grind)
    refine ⟨((k.fmod 6 : Int) : Rat) + 6 - X + 6 * (j : Rat), (((ho.add n1 (by decide) (by decide) ?_ ?_).mono (m := 3081) (by decide)).to ?_), ?_, ?_, ?_⟩
    · rw [Rat.intCast_one]; grind
    · rw [Rat.intCast_one]; grind
    · rw [Rat.intCast_one]; grind
    · have := T3_per (((k.fmod 6 : Int) : Rat) + -X) (1 + j)
      rw [Rat.intCast_add, show ((1 : Int) : Rat) = 1 from rfl] at this
      rw [← this]
      congr 1; grind
    · grind
    · grind
  · rw [if_neg c, if_neg c]
    refine ⟨((k.fmod 6 : Int) : Rat) + X - 6 * (j : Rat), (((ho.add hh (by decide) (by decide) ?_ ?_).mono (m := 3081) (by decide)).to ?_), ?_, ?_, ?_⟩
    · grind
    · grind
    · grind
    · have := T3_per (((k.fmod 6 : Int) : Rat) + X) (-j)
      rw [Rat.intCast_neg] at this
      rw [← this]
      congr 1; grind
    · grind
    · grind
end Mine
end PFl9

section PFl10
namespace Mine
open PySem PySem.Float64

theorem trunc_neg {x : UInt64} (h : isFinite x = true) : Flt.toInt truncOf (neg x) = - Flt.toInt truncOf x := by
  obtain ⟨a, m, e, hd⟩ := fin_decode h
  rw [Flt.toInt_fin hd, Flt.toInt_fin (neg_decode hd)]
  delta truncOf ceilOf
  cases a <;> simp
/-- int(x) of an x that is not far below nought -/
theorem trunc_any {x : UInt64} (hf : isFinite x = true) (h0 : -1 < q x) : 0 ≤ Flt.toInt truncOf x ∧ (((Flt.toInt truncOf x : Int) : Rat) ≤ q x ∨ (Flt.toInt truncOf x = 0 ∧ q x < 0)) ∧ q x < ((Flt.toInt truncOf x : Int) : Rat) + 1 := by
  by_cases c : 0 ≤ q x
  · obtain ⟨a, b, d⟩ := trunc_q hf c
    exact ⟨d, .inl a, b⟩
  · obtain ⟨hn, hv⟩ := fin_neg hf
    have e : q (neg x) = - q x := by unfold q; rw [hv, Rat.intCast_neg]; grind
    obtain ⟨a, b, d⟩ := trunc_q hn (by rw [e]; grind)
    rw [trunc_neg hf, e] at a b
    rw [trunc_neg hf] at d
    have h1 : ((- Flt.toInt truncOf x : Int) : Rat) < ((1 : Int) : Rat) := by rw [show ((1 : Int) : Rat) = 1 from rfl]; grind
    rw [Rat.intCast_lt_intCast] at h1
    have h2 : Flt.toInt truncOf x = 0 := by omega
    rw [h2]
    exact ⟨by decide, .inr ⟨rfl, by grind⟩, by rw [Rat.intCast_zero]; grind⟩
/-- the six sectors: what stands for the three heights at n + f -/
noncomputable def secF (i : Int) (f : Rat) : Rat × Rat × Rat :=
  if i = 0 then (1, f, 0) else if i = 1 then (1 - f, 1, 0) else if i = 2 then (0, 1, f) else if i = 3 then (0, 1 - f, 1) else if i = 4 then (f, 0, 1) else (1, 0, 1 - f)
theorem sec_T3 {n : Int} {f : Rat} (h0 : 0 ≤ f) (h1 : f ≤ 1) : T3 ((n : Rat) + f) = secF (n.fmod 6) f := by
  have hm := Int.fmod_nonneg_of_pos n (b := 6) (by decide)
  have hl := Int.fmod_lt_of_pos n (b := 6) (by decide)
  have hd : n = n.fmod 6 + 6 * n.fdiv 6 := by have := Int.fmod_add_mul_fdiv n 6; omega
  generalize n.fmod 6 = i at *
  generalize n.fdiv 6 = j at *
  subst hd
  have e : ((i + 6 * j : Int) : Rat) + f = ((i : Rat) + f) + 6 * (j : Rat) := by rw [Rat.intCast_add, Rat.intCast_mul, show ((6 : Int) : Rat) = 6 from rfl]; grind
  rw [e, T3_per]
  have key : ∀ (x : Rat) (t1 t2 t3 : Rat) (j1 j2 j3 : Int) (a b c : Rat), 0 ≤ t1 → t1 ≤ 6 → 0 ≤ t2 → t2 ≤ 6 → 0 ≤ t3 → t3 ≤ 6 → x + 2 = t1 + 6 * j1 → x = t2 + 6 * j2 → x - 2 = t3 + 6 * j3 →
      Pk t1 = a → Pk t2 = b → Pk t3 = c → T3 x = (a, b, c) := by
    intro x t1 t2 t3 j1 j2 j3 a b c a1 a2 a3 a4 a5 a6 e1 e2 e3 q1 q2 q3
    unfold T3
    rw [Kp_of a1 a2 e1, Kp_of a3 a4 e2, Kp_of a5 a6 e3, q1, q2, q3]
  have c0 : ((0 : Int) : Rat) = 0 := rfl
  have c1 : ((-1 : Int) : Rat) = -1 := rfl
  have c2 : ((1 : Int) : Rat) = 1 := rfl
  have hi : i = 0 ∨ i = 1 ∨ i = 2 ∨ i = 3 ∨ i = 4 ∨ i = 5 := by omega
  rcases hi with rfl | rfl | rfl | rfl | rfl | rfl
  · exact key _ (f + 2) f (f + 4) 0 0 (-1) 1 f 0 (by grind) (by grind) (by grind) (by grind) (by grind) (by grind) (by grind) (by grind) (by grind) (by unfold Pk cl; grind) (by unfold Pk cl; grind) (by unfold Pk cl; grind)
  · exact key _ (f + 3) (f + 1) (f + 5) 0 0 (-1) (1 - f) 1 0 (by grind) (by grind) (by grind) (by grind) (by grind) (by grind) (by grind) (by grind) (by grind) (by unfold Pk cl; grind) (by unfold Pk cl; grind) (by unfold Pk cl; grind)
  · rw [show ((2 : Int) : Rat) = 2 from rfl]
    exact key _ (f + 4) (f + 2) f 0 0 0 0 1 f (by grind) (by grind) (by grind) (by grind) (by grind) (by grind) (by grind) (by grind) (by grind) (by unfold Pk cl; grind) (by unfold Pk cl; grind) (by unfold Pk cl; grind)
  · rw [show ((3 : Int) : Rat) = 3 from rfl]
    exact key _ (f + 5) (f + 3) (f + 1) 0 0 0 0 (1 - f) 1 (by grind) (by grind) (by grind) (by grind) (by grind) (by grind) (by grind) (by grind) (by grind) (by unfold Pk cl; grind) (by unfold Pk cl; grind) (by unfold Pk cl; grind)
  · rw [show ((4 : Int) : Rat) = 4 from rfl]
    exact key _ f (f + 4) (f + 2) 1 0 0 f 0 1 (by grind) (by grind) (by grind) (by grind) (by grind) (by grind) (by grind) (by grind) (by grind) (by unfold Pk cl; grind) (by unfold Pk cl; grind) (by unfold Pk cl; grind)
  · rw [show ((5 : Int) : Rat) = 5 from rfl]
    exact key _ (f + 1) (f + 5) (f + 3) 1 0 0 1 0 (1 - f) (by grind) (by grind) (by grind) (by grind) (by grind) (by grind) (by grind) (by grind) (by grind) (by unfold Pk cl; grind) (by unfold Pk cl; grind) (by unfold Pk cl; grind)
/-- three numbers near three heights over a base -/
structure Nr3 (p : UInt64 × UInt64 × UInt64) (A B : Rat) (t : Rat × Rat × Rat) (n : Nat) : Prop where
  x : Nr p.1 (A + B * t.1) n
  y : Nr p.2.1 (A + B * t.2.1) n
  z : Nr p.2.2 (A + B * t.2.2) n
theorem T3_lip {y z e : Rat} (h1 : y ≤ z + e) (h2 : z ≤ y + e) (he : e ≤ 1) : ((T3 y).1 ≤ (T3 z).1 + e ∧ (T3 z).1 ≤ (T3 y).1 + e) ∧ ((T3 y).2.1 ≤ (T3 z).2.1 + e ∧ (T3 z).2.1 ≤ (T3 y).2.1 + e) ∧ ((T3 y).2.2 ≤ (T3 z).2.2 + e ∧ (T3 z).2.2 ≤ (T3 y).2.2 + e) :=
  ⟨Kp_lip (by grind) (by grind) he, Kp_lip h1 h2 he, Kp_lip (by grind) (by grind) he⟩
/-- hsv_to_rgb of a colour that is not grey -/
theorem hsvr_nr {h s v : UInt64} {S W y : Rat} (hh : Nr h (y / 6) 3081) (hs : Nr s S 1794) (hv : Nr v W 1) (hS0 : 0 ≤ S) (hS1 : S ≤ 1) (hW0 : 0 ≤ W) (hW1 : W ≤ 1) (hs0 : q s ≠ 0) (hy1 : -20000 * u ≤ y) (hy2 : y ≤ 23 / 2) :
    OkHr h s ∧ Nr3 (hsvr h s v) (W - W * S) (W * S) (T3 y) 200000 := by
  have hu : u ≤ 1 / 1000000 := by decide +kernel
  have hup := u_pos
  have o1 : ((1 : Nat) : Rat) = 1 := rfl
  have o2 : ((2 : Nat) : Rat) = 2 := rfl
  have hX := ((hh.mul k6 2 6 (by decide) (by decide) (by decide) (by decide) (by decide) (by rw [o2]; grind) (by rw [o2]; grind) (by decide +kernel) (by decide +kernel)).mono (m := 18488) (by decide)).to (show y / 6 * 6 = y by grind)
  have xhi := hX.hi
  have xlo := hX.lo
  rw [show ((18488 : Nat) : Rat) = 18488 from rfl] at xhi xlo
  obtain ⟨t0, t1, t2⟩ := trunc_any hX.fin (by grind)
  have hc : ¬ (cmp s 0 == some .eq) = true := fun h => by
    have := (cmp_eq_iff hs.fin k0.fin).mp h
    rw [k0.q0] at this
    exact hs0 this
  have fX := hX.fin
  have tlt : Flt.toInt truncOf (mul h 4618441417868443648) < 12 := by
    have : ((Flt.toInt truncOf (mul h 4618441417868443648) : Int) : Rat) < ((12 : Int) : Rat) := by
      rw [show ((12 : Int) : Rat) = 12 from rfl]
      rcases t1 with t1 | t1
      · grind
      · rw [t1.1, Rat.intCast_zero]; decide +kernel
    rwa [Rat.intCast_lt_intCast] at this
  refine ⟨.inr ⟨fX, t0, tlt⟩, ?_⟩
  unfold hsvr
  rw [if_neg hc]
  have ti1 : q (mul h 4618441417868443648) - ((Flt.toInt truncOf (mul h 4618441417868443648) : Int) : Rat) ≤ 15 := by grind
  have ti2 : -15 ≤ q (mul h 4618441417868443648) - ((Flt.toInt truncOf (mul h 4618441417868443648) : Int) : Rat) := by
    rcases t1 with t1 | t1
    · grind
    · rw [t1.1, Rat.intCast_zero]; grind
  have nf := (Nr.self fX).sub (kI t0 (by omega)) (by decide) (by decide) ti1 ti2
  generalize Flt.toInt truncOf (mul h 4618441417868443648) = i at *
  generalize sub (mul h 4618441417868443648) (ofInt i) = f at *
  -- the part within the sector, moved to where it is not below nought
  have hF : ∃ F : Rat, 0 ≤ F ∧ F ≤ 1 ∧ Nr f F 38489 ∧ (i : Rat) + F ≤ y + 38488 * u ∧ y ≤ (i : Rat) + F + 38488 * u := by
    by_cases c : q (mul h 4618441417868443648) < (i : Rat)
    · rcases t1 with t1 | ⟨t1, t3⟩
      · exact absurd c (Rat.not_lt.mpr t1)
      · subst t1
        rw [Rat.intCast_zero] at *
        refine ⟨0, by grind, by grind, (nf.shift 38488 ?_ ?_), ?_, ?_⟩ <;> first | (rw [show ((38488 : Nat) : Rat) = 38488 from rfl]; grind) | grind
    · exact ⟨q (mul h 4618441417868443648) - i, by grind, by grind, nf.mono (by decide), by grind, by grind⟩
  obtain ⟨F, F0, F1, hFn, y1, y2⟩ := hF
  have hT := sec_T3 (n := i) F0 F1
  obtain ⟨L1, L2, L3⟩ := T3_lip y1 y2 (by grind)
  rw [hT] at L1 L2 L3
  have hWS0 : 0 ≤ W * S := Rat.mul_nonneg hW0 hS0
  have hWS1 : W * S ≤ 1 := by have := Rat.mul_le_mul_of_nonneg_left hS1 hW0; grind
  have hSF0 : 0 ≤ S * F := Rat.mul_nonneg hS0 F0
  have hSF1 : S * F ≤ 1 := by have := Rat.mul_le_mul_of_nonneg_left F1 hS0; grind
  have hSG0 : 0 ≤ S * (1 - F) := Rat.mul_nonneg hS0 (by grind)
  have hSG1 : S * (1 - F) ≤ 1 := by grind
  -- the three other levels
  have np := (hv.mul (k1.sub hs (by decide) (by decide) (by grind) (by grind)) 1 1 (by decide) (by decide) (by decide) (by decide) (by decide) (by grind) (by grind) (by grind) (by grind)).mono (m := 120000) (by decide)
  have nq := (hv.mul (k1.sub (hs.mul hFn 1 1 (by decide) (by decide) (by decide) (by decide) (by decide) (by grind) (by grind) (by grind) (by grind)) (by decide) (by decide) (by grind) (by grind)) 1 1 (by decide) (by decide) (by decide) (by decide) (by decide) (by grind) (by grind) (by grind) (by grind)).mono (m := 120000) (by decide)
  have nt := (hv.mul (k1.sub (hs.mul (k1.sub hFn (by decide) (by decide) (by grind) (by grind)) 1 1 (by decide) (by decide) (by decide) (by decide) (by decide) (by grind) (by grind) (by grind) (by grind)) (by decide) (by decide) (by grind) (by grind)) 1 1 (by decide) (by decide) (by decide) (by decide) (by decide) (by grind) (by grind) (by grind) (by grind)).mono (m := 120000) (by decide)
  have nv := hv.mono (m := 120000) (by decide)
  have nv := nv.to (show W = W - W * S + W * S * 1 by grind)
  have np := np.to (show W * (1 - S) = W - W * S + W * S * 0 by grind)
  have nq := nq.to (show W * (1 - S * F) = W - W * S + W * S * (1 - F) by grind)
  have nt := nt.to (show W * (1 - S * (1 - F)) = W - W * S + W * S * F by grind)
  have fin : ∀ {z : UInt64} {k k' : Rat}, Nr z (W - W * S + W * S * k) 120000 → k ≤ k' + 38488 * u ∧ k' ≤ k + 38488 * u → Nr z (W - W * S + W * S * k') 200000 := by
    intro z k k' hz hk
    have := span_shift (A := W - W * S) (B := W * S) (k := k) (k' := k') (e := 38488 * u) hWS0 hWS1 hk.1 hk.2 (by grind)
    exact (hz.shift 38488 (by rw [show ((38488 : Nat) : Rat) = 38488 from rfl]; exact this.1) (by rw [show ((38488 : Nat) : Rat) = 38488 from rfl]; exact this.2)).mono (by decide)
  unfold hsvrI
  generalize mul v (sub 4607182418800017408 s) = p at *
  generalize mul v (sub 4607182418800017408 (mul s f)) = qq at *
  generalize mul v (sub 4607182418800017408 (mul s (sub 4607182418800017408 f))) = tt at *
  unfold secF at L1 L2 L3
  unfold hsvrF
  by_cases c0 : i.fmod 6 = 0
  · simp only [c0, if_true] at L1 L2 L3 ⊢
    exact ⟨fin nv L1, fin nt L2, fin np L3⟩
  · by_cases c1 : i.fmod 6 = 1
    · simp only [c1, if_true] at L1 L2 L3 ⊢
      exact ⟨fin nq L1, fin nv L2, fin np L3⟩
    · by_cases c2 : i.fmod 6 = 2
      · simp only [c2, if_true] at L1 L2 L3 ⊢
        exact ⟨fin np L1, fin nv L2, fin nt L3⟩
      · by_cases c3 : i.fmod 6 = 3
        · simp only [c3, if_true] at L1 L2 L3 ⊢
          exact ⟨fin np L1, fin nq L2, fin nv L3⟩
        · by_cases c4 : i.fmod 6 = 4
          · simp only [c4, if_true] at L1 L2 L3 ⊢
            exact ⟨fin nt L1, fin np L2, fin nv L3⟩
          · simp only [c0, c1, c2, c3, c4, if_false] at L1 L2 L3 ⊢
            exact ⟨fin nv L1, fin np L2, fin nq L3⟩
end Mine
end PFl10

section PFl11
namespace Mine
open PySem PySem.Float64

theorem y1 : Nr 4599075939470750515 (3 / 10) 1 := Nr.near (n := 5404319552844595) (d := 18014398509481984) (by decide) (by decide +kernel) (by rw [T_is]; decide +kernel) (by decide +kernel) (by decide +kernel)
theorem y2 : Nr 4603489467105573601 (59 / 100) 1 := Nr.near (n := 5314247560297185) (d := 9007199254740992) (by decide) (by decide +kernel) (by rw [T_is]; decide +kernel) (by decide +kernel) (by decide +kernel)
theorem y3 : Nr 4592590756007337001 (11 / 100) 1 := Nr.near (n := 7926335344172073) (d := 72057594037927936) (by decide) (by decide +kernel) (by rw [T_is]; decide +kernel) (by decide +kernel) (by decide +kernel)
theorem i1 : Nr 4604840546993784750 (74 / 100) 1 := Nr.near (n := 3332663724254167) (d := 4503599627370496) (by decide) (by decide +kernel) (by rw [T_is]; decide +kernel) (by decide +kernel) (by decide +kernel)
theorem i2 : Nr 4598535507515466056 (27 / 100) 1 := Nr.near (n := 607985949695017) (d := 2251799813685248) (by decide) (by decide +kernel) (by rw [T_is]; decide +kernel) (by decide +kernel) (by decide +kernel)
theorem q1 : Nr 4602318531202457272 (48 / 100) 1 := Nr.near (n := 1080863910568919) (d := 2251799813685248) (by decide) (by decide +kernel) (by rw [T_is]; decide +kernel) (by decide +kernel) (by decide +kernel)
theorem q2 : Nr 4601057523306793533 (41 / 100) 1 := Nr.near (n := 7385903388887613) (d := 18014398509481984) (by decide) (by decide +kernel) (by rw [T_is]; decide +kernel) (by decide +kernel) (by decide +kernel)
noncomputable def cR1 : Rat := 9468822170900693 / 10000000000000000
noncomputable def cR2 : Rat := 6235565819861433 / 10000000000000000
noncomputable def cG1 : Rat := 27478764629897834 / 100000000000000000
noncomputable def cG2 : Rat := 6356910791873801 / 10000000000000000
noncomputable def cB1 : Rat := 11085450346420322 / 10000000000000000
noncomputable def cB2 : Rat := 17090069284064666 / 10000000000000000
theorem r1 : Nr 4606703976345377586 cR1 1 := Nr.near (n := 4264378400050585) (d := 4503599627370496) (by decide) (by decide +kernel) (by rw [T_is]; decide +kernel) (by decide +kernel) (by decide +kernel)
theorem r2 : Nr 4603791717925830846 cR2 1 := Nr.near (n := 2808249190277215) (d := 4503599627370496) (by decide) (by decide +kernel) (by rw [T_is]; decide +kernel) (by decide +kernel) (by decide +kernel)
theorem g1 : Nr 4598621754083818298 cG1 1 := Nr.near (n := 2475067082956189) (d := 9007199254740992) (by decide) (by decide +kernel) (by rw [T_is]; decide +kernel) (by decide +kernel) (by decide +kernel)
theorem g2 : Nr 4603901015759978483 cG2 1 := Nr.near (n := 5725796214702067) (d := 9007199254740992) (by decide) (by decide +kernel) (by rw [T_is]; decide +kernel) (by decide +kernel) (by decide +kernel)
theorem b1 : Nr 4607671262177584182 cB1 1 := Nr.near (n := 2496221502468635) (d := 2251799813685248) (by decide) (by decide +kernel) (by rw [T_is]; decide +kernel) (by decide +kernel) (by decide +kernel)
theorem b2 : Nr 4610375502138591871 cB2 1 := Nr.near (n := 7696682965944959) (d := 4503599627370496) (by decide) (by decide +kernel) (by rw [T_is]; decide +kernel) (by decide +kernel) (by decide +kernel)
theorem o1 : ((1 : Nat) : Rat) = 1 := rfl
theorem o2 : ((2 : Nat) : Rat) = 2 := rfl
/-- a product by a constant not over 1 -/
theorem Nr.mul1 {x y : UInt64} {X Y : Rat} {m : Nat} (hx : Nr x X 1) (hy : Nr y Y m) (hm : m ≤ 8388608) (h0 : 0 ≤ X) (h1 : X ≤ 1) (h2 : Y ≤ 1) (h3 : -1 ≤ Y) : Nr (Float64.mul x y) (X * Y) (m + 3) :=
  (hx.mul hy 1 1 (by decide) hm (by decide) (by decide) (by decide) (by rw [o1]; exact h1) (by rw [o1]; grind) (by rw [o1]; exact h2) (by rw [o1]; exact h3)).mono (by omega)
theorem Nr.mul2 {x y : UInt64} {X Y : Rat} {m : Nat} (hx : Nr x X 1) (hy : Nr y Y m) (hm : m ≤ 8388608) (h0 : 0 ≤ X) (h1 : X ≤ 2) (h2 : Y ≤ 1) (h3 : -1 ≤ Y) : Nr (Float64.mul x y) (X * Y) (2 * m + 3) :=
  (hx.mul hy 2 1 (by decide) hm (by decide) (by decide) (by decide) (by rw [o2]; exact h1) (by rw [o2]; grind) (by rw [o1]; exact h2) (by rw [o1]; exact h3)).mono (by omega)
noncomputable def lY (R G B : Rat) : Rat := 3 / 10 * R + 59 / 100 * G + 11 / 100 * B
noncomputable def lI (R G B : Rat) : Rat := 74 / 100 * (R - lY R G B) - 27 / 100 * (B - lY R G B)
noncomputable def lQ (R G B : Rat) : Rat := 48 / 100 * (R - lY R G B) + 41 / 100 * (B - lY R G B)
structure In1 (R G B : Rat) : Prop where
  r0 : 0 ≤ R
  r1 : R ≤ 1
  g0 : 0 ≤ G
  g1 : G ≤ 1
  b0 : 0 ≤ B
  b1 : B ≤ 1
theorem yiq_rng {R G B : Rat} (H : In1 R G B) : 0 ≤ lY R G B ∧ lY R G B ≤ 1 ∧ -1 ≤ lI R G B ∧ lI R G B ≤ 1 ∧ -1 ≤ lQ R G B ∧ lQ R G B ≤ 1 := by
  obtain ⟨h1, h2, h3, h4, h5, h6⟩ := H
  unfold lI lQ lY
  refine ⟨?_, ?_, ?_, ?_, ?_, ?_⟩ <;> grind
theorem yiqF_nr {r g b : UInt64} {R G B : Rat} {n : Nat} (hr : Nr r R n) (hg : Nr g G n) (hb : Nr b B n) (H : In1 R G B) (hn : n ≤ 250000) :
    Nr (yiqF r g b).1 (lY R G B) (3 * n + 11) ∧ Nr (yiqF r g b).2.1 (lI R G B) (8 * n + 31) ∧ Nr (yiqF r g b).2.2 (lQ R G B) (8 * n + 31) := by
  have hR := yiq_rng H
  obtain ⟨h1, h2, h3, h4, h5, h6⟩ := H
  obtain ⟨a1, a2, a3, a4, a5, a6⟩ := hR
  have hy : Nr (add (add (mul 4599075939470750515 r) (mul 4603489467105573601 g)) (mul 4592590756007337001 b)) (lY R G B) (3 * n + 11) :=
    (((y1.mul1 hr (by omega) (by decide +kernel) (by decide +kernel) h2 (by grind)).add (y2.mul1 hg (by omega) (by decide +kernel) (by decide +kernel) h4 (by grind)) (by omega) (by omega) (by grind) (by grind)).add
      (y3.mul1 hb (by omega) (by decide +kernel) (by decide +kernel) h6 (by grind)) (by omega) (by omega) (by grind) (by grind)).mono (by omega)
  have hry := (hr.sub hy (by omega) (by omega) (by grind) (by grind)).mono (m := 4 * n + 12) (by omega)
  have hby := (hb.sub hy (by omega) (by omega) (by grind) (by grind)).mono (m := 4 * n + 12) (by omega)
  unfold lI at a3 a4
  unfold lQ at a5 a6
  refine ⟨hy, ?_, ?_⟩
  · exact ((i1.mul1 hry (by omega) (by decide +kernel) (by decide +kernel) (by grind) (by grind)).sub (i2.mul1 hby (by omega) (by decide +kernel) (by decide +kernel) (by grind) (by grind)) (by omega) (by omega) (by grind) (by grind)).mono (by omega)
  · exact ((q1.mul1 hry (by omega) (by decide +kernel) (by decide +kernel) (by grind) (by grind)).add (q2.mul1 hby (by omega) (by decide +kernel) (by decide +kernel) (by grind) (by grind)) (by omega) (by omega) (by grind) (by grind)).mono (by omega)
noncomputable def rawR (y i q : UInt64) : UInt64 := add (add y (mul 4606703976345377586 i)) (mul 4603791717925830846 q)
noncomputable def rawG (y i q : UInt64) : UInt64 := sub (sub y (mul 4598621754083818298 i)) (mul 4603901015759978483 q)
noncomputable def rawB (y i q : UInt64) : UInt64 := add (sub y (mul 4607671262177584182 i)) (mul 4610375502138591871 q)
theorem yiqr_raw (y i q : UInt64) : yiqr y i q = (hi1 (lo0 (rawR y i q)), hi1 (lo0 (rawG y i q)), hi1 (lo0 (rawB y i q))) := rfl
theorem raw_nr {y i q : UInt64} {Y I Q : Rat} {ny ni nq : Nat} (hy : Nr y Y ny) (hi : Nr i I ni) (hq : Nr q Q nq) (n1 : ny ≤ 8388608) (n2 : ni ≤ 8388608) (n3 : nq ≤ 8388608)
    (b1' : -3 ≤ Y) (b2' : Y ≤ 3) (b3 : -1 ≤ I) (b4 : I ≤ 1) (b5 : -1 ≤ Q) (b6 : Q ≤ 1) :
    Nr (rawR y i q) (Y + cR1 * I + cR2 * Q) (ny + 2 * ni + 2 * nq + 8) ∧ Nr (rawG y i q) (Y - cG1 * I - cG2 * Q) (ny + 2 * ni + 2 * nq + 8) ∧ Nr (rawB y i q) (Y - cB1 * I + cB2 * Q) (ny + 2 * ni + 2 * nq + 8) := by
  have e1 : cR1 = 9468822170900693 / 10000000000000000 := rfl
  have e2 : cR2 = 6235565819861433 / 10000000000000000 := rfl
  have e3 : cG1 = 27478764629897834 / 100000000000000000 := rfl
  have e4 : cG2 = 6356910791873801 / 10000000000000000 := rfl
  have e5 : cB1 = 11085450346420322 / 10000000000000000 := rfl
  have e6 : cB2 = 17090069284064666 / 10000000000000000 := rfl
  have p1 := r1.mul1 hi n2 (by decide +kernel) (by decide +kernel) b4 b3
  have p2 := r2.mul1 hq n3 (by decide +kernel) (by decide +kernel) b6 b5
  have p3 := g1.mul1 hi n2 (by decide +kernel) (by decide +kernel) b4 b3
  have p4 := g2.mul1 hq n3 (by decide +kernel) (by decide +kernel) b6 b5
  have p5 := b1.mul2 hi n2 (by decide +kernel) (by decide +kernel) b4 b3
  have p6 := b2.mul2 hq n3 (by decide +kernel) (by decide +kernel) b6 b5
  have bd : ∀ {c x : Rat}, 0 ≤ c → c ≤ 2 → -1 ≤ x → x ≤ 1 → c * x ≤ 2 ∧ -2 ≤ c * x := by
    intro c x c0 c2 x0 x1
    have := Rat.mul_le_mul_of_nonneg_left x1 c0
    have := Rat.mul_le_mul_of_nonneg_left x0 c0
    constructor <;> grind
  have d1 := bd (c := cR1) (x := I) (by decide +kernel) (by decide +kernel) b3 b4
  have d2 := bd (c := cR2) (x := Q) (by decide +kernel) (by decide +kernel) b5 b6
  have d3 := bd (c := cG1) (x := I) (by decide +kernel) (by decide +kernel) b3 b4
  have d4 := bd (c := cG2) (x := Q) (by decide +kernel) (by decide +kernel) b5 b6
  have d5 := bd (c := cB1) (x := I) (by decide +kernel) (by decide +kernel) b3 b4
  have d6 := bd (c := cB2) (x := Q) (by decide +kernel) (by decide +kernel) b5 b6
  clear e1 e2 e3 e4 e5 e6
  generalize cR1 * I = A1 at *
  generalize cR2 * Q = A2 at *
  generalize cG1 * I = A3 at *
  generalize cG2 * Q = A4 at *
  generalize cB1 * I = A5 at *
  generalize cB2 * Q = A6 at *
  refine ⟨?_, ?_, ?_⟩
  · exact ((hy.add p1 (by omega) (by omega) (by grind) (by grind)).add p2 (by omega) (by omega) (by grind) (by grind)).mono (by omega)
  · exact ((hy.sub p3 (by omega) (by omega) (by grind) (by grind)).sub p4 (by omega) (by omega) (by grind) (by grind)).mono (by omega)
  · exact ((hy.sub p5 (by omega) (by omega) (by grind) (by grind)).add p6 (by omega) (by omega) (by grind) (by grind)).mono (by omega)
theorem yiq_inv {R G B : Rat} (H : In1 R G B) :
    (lY R G B + cR1 * lI R G B + cR2 * lQ R G B ≤ R + u ∧ R ≤ lY R G B + cR1 * lI R G B + cR2 * lQ R G B + u) ∧
    (lY R G B - cG1 * lI R G B - cG2 * lQ R G B ≤ G + u ∧ G ≤ lY R G B - cG1 * lI R G B - cG2 * lQ R G B + u) ∧
    (lY R G B - cB1 * lI R G B + cB2 * lQ R G B ≤ B + u ∧ B ≤ lY R G B - cB1 * lI R G B + cB2 * lQ R G B + u) := by
  obtain ⟨h1, h2, h3, h4, h5, h6⟩ := H
  unfold lI lQ lY cR1 cR2 cG1 cG2 cB1 cB2 u
  refine ⟨⟨?_, ?_⟩, ⟨?_, ?_⟩, ⟨?_, ?_⟩⟩ <;> grind
theorem clamp_nr {x : UInt64} {X : Rat} {n : Nat} (h : Nr x X n) (h0 : 0 ≤ X) (h1 : X ≤ 1) : Nr (hi1 (lo0 x)) X n := by
  have hl : Nr (lo0 x) X n := by
    unfold lo0
    by_cases c : (cmp x 0 == some .lt) = true
    · rw [if_pos c]
      have := (cmp_lt_iff h.fin k0.fin).mp c
      rw [k0.q0] at this
      have := h.lo
      have := nu_nonneg n
      exact ⟨k0.fin, by rw [k0.q0]; grind, by rw [k0.q0]; grind⟩
    · rw [if_neg c]; exact h
  unfold hi1
  by_cases c : (cmp (lo0 x) 4607182418800017408 == some .gt) = true
  · rw [if_pos c]
    have := (cmp_gt_iff hl.fin k1.fin).mp c
    rw [k1.q0] at this
    have := hl.hi
    have := nu_nonneg n
    exact ⟨k1.fin, by rw [k1.q0]; grind, by rw [k1.q0]; grind⟩
  · rw [if_neg c]; exact hl
theorem clamp_up {x : UInt64} {X : Rat} {n : Nat} (h : Nr x X n) (hn : n ≤ 549755813888) (h1 : 3 / 2 ≤ X) : hi1 (lo0 x) = 4607182418800017408 := by
  have hq := h.q_le hn
  have h2 : ¬ (cmp x 0 == some .lt) = true := fun c => by
    have := (cmp_lt_iff h.fin k0.fin).mp c
    rw [k0.q0] at this
    grind
  have e : lo0 x = x := by unfold lo0; rw [if_neg h2]
  rw [e]
  unfold hi1
  rw [if_pos ((cmp_gt_iff h.fin k1.fin).mpr (by rw [k1.q0]; grind))]
theorem clamp_dn {x : UInt64} {X : Rat} {n : Nat} (h : Nr x X n) (hn : n ≤ 549755813888) (h1 : X ≤ -(1 / 2)) : hi1 (lo0 x) = 0 := by
  have hq := h.q_le hn
  have e : lo0 x = 0 := by unfold lo0; rw [if_pos ((cmp_lt_iff h.fin k0.fin).mpr (by rw [k0.q0]; grind))]
  rw [e]
  decide +kernel
/-- the colour against another: through YIQ, with the luma taken from 1 and both chromas from nought -/
theorem fY_nr {p : UInt64 × UInt64 × UInt64} {R G B : Rat} (hr : Nr p.1 R 200000) (hg : Nr p.2.1 G 200000) (hb : Nr p.2.2 B 200000) (H : In1 R G B) :
    Nr (fY p).1 (1 - R) 8000000 ∧ Nr (fY p).2.1 (1 - G) 8000000 ∧ Nr (fY p).2.2 (1 - B) 8000000 := by
  obtain ⟨a, b, c⟩ := yiqF_nr hr hg hb H (by decide)
  have hR := yiq_rng H
  have hI := yiq_inv H
  obtain ⟨h1, h2, h3, h4, h5, h6⟩ := H
  unfold fY
  rw [yiqr_raw]
  have a' := (kI (i := 1) (by decide) (by decide)).sub a (by decide) (by decide) (by rw [Rat.intCast_one]; grind) (by rw [Rat.intCast_one]; grind)
  rw [Rat.intCast_one] at a'
  obtain ⟨x, y, z⟩ := raw_nr a' b.neg c.neg (by decide) (by decide) (by decide) (by grind) (by grind) (by grind) (by grind) (by grind) (by grind)
  generalize lY R G B = Y at *
  generalize lI R G B = I at *
  generalize lQ R G B = Q at *
  refine ⟨clamp_nr ((x.shift 1 ?_ ?_).mono (by decide)) (by grind) (by grind), clamp_nr ((y.shift 1 ?_ ?_).mono (by decide)) (by grind) (by grind), clamp_nr ((z.shift 1 ?_ ?_).mono (by decide)) (by grind) (by grind)⟩
  all_goals (rw [show ((1 : Nat) : Rat) = 1 from rfl]; grind)
end Mine
end PFl11

section PFl12
namespace Mine
open PySem PySem.Float64

theorem k255 : Nr (ofInt 255) 255 0 := kI (i := 255) (by decide) (by decide)
theorem rnd_nr {x : UInt64} {V : Int} {n : Nat} (h : Nr x (Rf V) n) (hn : n ≤ 8388608) (h0 : 0 ≤ V) (h1 : V < 256) : isFinite (mul (ofInt 255) x) = true ∧ rnd x = V := by
  have hb := Rf_rng h0 h1
  have hh := h.hi
  have hl := h.lo
  have hs := nu_le hn
  have hu : ((8388608 : Nat) : Rat) * u ≤ 1 / 1000000 := by decide +kernel
  have h2 := k255.q0
  obtain ⟨f, a, b⟩ := mul_qb k255.fin h.fin (by rw [h2]; grind) (by rw [h2]; grind)
  rw [h2] at a b
  have e : 255 * Rf V = (V : Rat) := by unfold Rf; grind
  exact ⟨f, nearest_q f (by grind) (by grind)⟩
/-- three heights that belong to three octets -/
structure Hts (m B : Rat) (t : Rat × Rat × Rat) (v : Q4) : Prop where
  a : m + B * t.1 = Rf v.a
  b : m + B * t.2.1 = Rf v.b
  c : m + B * t.2.2 = Rf v.c
theorem Rf_sub (x y : Int) : Rf (x - y) = Rf x - Rf y := by unfold Rf; rw [Rat.intCast_sub]; grind
theorem Rf_add (x y : Int) : Rf (x + y) = Rf x + Rf y := by unfold Rf; rw [Rat.intCast_add]; grind
theorem hts_rot {m B X : Rat} {v : Q4} (hs : 2 * m + B = Rf v.s) (h : Hts m B (T3 X) v) : Hts m B (T3 (X + 1)) (rot v) := by
  obtain ⟨a, b, c⟩ := h
  rw [T3_rot]
  unfold T3 at a b c
  refine ⟨?_, ?_, ?_⟩ <;> (simp only [rot]; rw [Rf_sub, ← hs]; simp only at *; grind)
theorem rotN_s (v : Q4) : ∀ n, (rotN n v).s = v.s
  | 0 => rfl
  | n + 1 => rotN_s v n
theorem hts_rotN {m B X : Rat} {v : Q4} (hs : 2 * m + B = Rf v.s) (h : Hts m B (T3 X) v) : ∀ n : Nat, Hts m B (T3 (X + n)) (rotN n v)
  | 0 => by rw [show ((0 : Nat) : Rat) = 0 from rfl, show X + 0 = X by grind]; exact h
  | n + 1 => by
    have := hts_rot (by rw [rotN_s]; exact hs) (hts_rotN hs h n)
    rw [show X + ((n + 1 : Nat) : Rat) = X + n + 1 by rw [Rat.natCast_add]; rw [show ((1 : Nat) : Rat) = 1 from rfl]; grind]
    exact this
theorem hts_mir {m B X : Rat} {v : Q4} (h : Hts m B (T3 X) v) : Hts m B (T3 (-X)) (mir v) := by
  obtain ⟨a, b, c⟩ := h
  rw [T3_mir]
  exact ⟨a, c, b⟩
section
variable {a b c M m : Int}
theorem Mm.q4s (H : Mm a b c M m) : (q4 (a, b, c)).s = M + m := by
  show mxI a b c + mnI a b c = M + m
  rw [← mxI_eq ⟨H.ra.2, H.rb.2, H.rc.2⟩ H.top, ← mnI_eq ⟨H.ra.1, H.rb.1, H.rc.1⟩ H.low]
/-- the turned and mirrored hue gives the turned and mirrored octets -/
theorem turn_hts (H : Mm a b c M m) (k : Int) : Hts (Rf m) (Rf M - Rf m) (T3 (turnX k (hueX (rho M m a) (rho M m b) (rho M m c)))) (rotN (k.fmod 6).toNat (if 1 - (k.fdiv 6).fmod 2 * 2 = 1 then q4 (a, b, c) else mir (q4 (a, b, c)))) := by
  obtain ⟨a0, a1, az, ao, ae, _⟩ := rho_facts H.lt H.ra.1 H.ra.2
  obtain ⟨b0, b1, bz, bo, be, _⟩ := rho_facts H.lt H.rb.1 H.rb.2
  obtain ⟨c0, c1, cz, co, ce, _⟩ := rho_facts H.lt H.rc.1 H.rc.2
  have hz : rho M m a = 0 ∨ rho M m b = 0 ∨ rho M m c = 0 := by rw [az, bz, cz]; have := H.top; omega
  have ho : rho M m a = 1 ∨ rho M m b = 1 ∨ rho M m c = 1 := by rw [ao, bo, co]; have := H.low; omega
  obtain ⟨e0, e1, e2⟩ := hue_k a0 a1 b0 b1 c0 c1 hz ho
  generalize hueX (rho M m a) (rho M m b) (rho M m c) = X at *
  have base : Hts (Rf m) (Rf M - Rf m) (T3 X) (q4 (a, b, c)) := by
    rw [e0]
    refine ⟨?_, ?_, ?_⟩
    · show Rf m + (Rf M - Rf m) * (1 - rho M m a) = Rf a; grind
    · show Rf m + (Rf M - Rf m) * (1 - rho M m b) = Rf b; grind
    · show Rf m + (Rf M - Rf m) * (1 - rho M m c) = Rf c; grind
  have hs : 2 * Rf m + (Rf M - Rf m) = Rf (M + m) := by rw [Rf_add]; grind
  have hn : ((k.fmod 6 : Int) : Rat) = (((k.fmod 6).toNat : Nat) : Rat) := by
    rw [← Rat.intCast_natCast, Int.toNat_of_nonneg (Int.fmod_nonneg_of_pos k (by decide))]
  unfold turnX
  rcases fm2 (k.fdiv 6) with e | e
  · rw [e]
    rw [if_neg (by decide), if_pos (by decide), hn, Rat.add_comm]
    exact hts_rotN (by rw [H.q4s]; exact hs) base _
  · rw [e]
    rw [if_pos (by decide), if_neg (by decide), hn, Rat.add_comm]
    exact hts_rotN (by rw [show (mir (q4 (a, b, c))).s = (q4 (a, b, c)).s from rfl, H.q4s]; exact hs) (hts_mir base) _
end
theorem Nr3.hts {p : UInt64 × UInt64 × UInt64} {m B : Rat} {t : Rat × Rat × Rat} {n : Nat} {v : Q4} (h : Nr3 p m B t n) (hh : Hts m B t v) : Nr p.1 (Rf v.a) n ∧ Nr p.2.1 (Rf v.b) n ∧ Nr p.2.2 (Rf v.c) n :=
  ⟨h.x.to hh.a, h.y.to hh.b, h.z.to hh.c⟩
theorem rnd3_nr {p : UInt64 × UInt64 × UInt64} {v : Col} {n : Nat} (h : Nr p.1 (Rf v.1) n ∧ Nr p.2.1 (Rf v.2.1) n ∧ Nr p.2.2 (Rf v.2.2) n) (hn : n ≤ 8388608) (hv : InR v) : fin3 p ∧ rnd3 p = v := by
  obtain ⟨x, y, z⟩ := h
  obtain ⟨⟨a, b⟩, ⟨c, d⟩, e, f⟩ := hv
  obtain ⟨x1, x2⟩ := rnd_nr x hn a b
  obtain ⟨y1, y2⟩ := rnd_nr y hn c d
  obtain ⟨z1, z2⟩ := rnd_nr z hn e f
  refine ⟨⟨x1, y1, z1⟩, ?_⟩
  unfold rnd3
  rw [x2, y2, z2]
end Mine
end PFl12

section PFl13
namespace Mine
open PySem PySem.Float64

/-- the turned colour ahead of any darkening -/
noncomputable def v0 (k : Int) (c : Col) : Q4 := rotN (k.fmod 6).toNat (if 1 - (k.fdiv 6).fmod 2 * 2 = 1 then q4 c else mir (q4 c))
theorem v0_good {k : Int} {c : Col} (h : InR c) : Good (v0 k c) := by
  unfold v0
  refine good_rotN ?_ _
  split
  · exact good_q4 h
  · exact good_mir (good_q4 h)
theorem v0_s {k : Int} {c : Col} : (v0 k c).s = (q4 c).s := by
  unfold v0
  rw [rotN_s]
  split <;> rfl
noncomputable def N3 (p : UInt64 × UInt64 × UInt64) (x y z : Rat) (n : Nat) : Prop := Nr p.1 x n ∧ Nr p.2.1 y n ∧ Nr p.2.2 z n
/-- what the three roads give -/
structure Roads (k : Int) (c : Col) : Prop where
  ok1 : OkHls (oF c.1) (oF c.2.1) (oF c.2.2)
  ok2 : OkHsv (oF c.1) (oF c.2.1) (oF c.2.2)
  ok3 : OkHr (add (onF k) (hueB k (hsvF (oF c.1) (oF c.2.1) (oF c.2.2)).1)) (hsvF (oF c.1) (oF c.2.1) (oF c.2.2)).2.1
  z : N3 (fZ k (hsvF (oF c.1) (oF c.2.1) (oF c.2.2))) (Rf (v0 k c).a) (Rf (v0 k c).b) (Rf (v0 k c).c) 200000
  x : (k.fdiv 12 == 2) = false → N3 (fX k (hlsF (oF c.1) (oF c.2.1) (oF c.2.2))) (Rf (v0 k c).a) (Rf (v0 k c).b) (Rf (v0 k c).c) 200000
  x2 : (k.fdiv 12 == 2) = true → N3 (fX k (hlsF (oF c.1) (oF c.2.1) (oF c.2.2))) (Rf (drk (v0 k c)).a) (Rf (drk (v0 k c)).b) (Rf (drk (v0 k c)).c) 200000
theorem nz {x : UInt64} {X : Rat} {n : Nat} (h : Nr x X n) (hn : n ≤ 2000) (h1 : 1 / 1024 ≤ X) : q x ≠ 0 := by
  have := h.lo
  have := nu_le hn
  have : ((2000 : Nat) : Rat) * u ≤ 1 / 1000000 := by decide +kernel
  intro e
  grind
theorem roads_color {k a b c M m : Int} (H : Mm a b c M m) (hM : M = mxI a b c) (hm : m = mnI a b c) : Roads k (a, b, c) := by
  have bM := Rf_rng H.iM.1 H.iM.2
  have bm := Rf_rng H.im.1 H.im.2
  have hd := Rf_lt H.lt
  have hu : u ≤ 1 / 1000000 := by decide +kernel
  have hup := u_pos
  have eM : mx3 (oF a) (oF b) (oF c) = oF M := by rw [mx3_oF H.ia H.ib H.ic, hM]
  have em : mn3 (oF a) (oF b) (oF c) = oF m := by rw [mn3_oF H.ia H.ib H.ic, hm]
  have hne : ¬ (cmp (oF m) (oF M) == some .eq) = true := by
    rw [oF_eq H.im H.iM, decide_eq_true_eq]; have := H.lt; omega
  obtain ⟨j, hh, h1, h2, l1, l2⟩ := hue_nr H
  obtain ⟨y, yn, yT, y1, y2⟩ := turn_nr (k := k) hh h1 h2 l1 l2
  have hT := turn_hts H k
  rw [← yT] at hT
  -- the two saturations, the two lightnesses
  obtain ⟨S, Sn, S0, S1, Sa, Sb⟩ := sat_nr H.iM H.im H.lt
  have ln := light_nr H.iM H.im H.lt
  have dn := (oF_nr H.iM.1 H.iM.2).sub (oF_nr H.im.1 H.im.2) (by decide) (by decide) (by grind) (by grind)
  have Mpos : (0 : Rat) < Rf M := by grind
  have eV := Rat.div_mul_cancel (a := Rf M - Rf m) (Rat.ne_of_gt Mpos)
  generalize (Rf M - Rf m) / Rf M = Z at eV
  have Z0 : 1 / 1024 ≤ Z := by
    refine Rat.le_of_mul_le_mul_right ?_ Mpos
    grind
  have Z1 : Z ≤ 1 := by
    refine Rat.le_of_mul_le_mul_right ?_ Mpos
    grind
  have u1 : ((1 : Nat) : Rat) * u ≤ 1 / 1000000 := by decide +kernel
  have Zn := ((dn.to eV.symm).div (oF_nr H.iM.1 H.iM.2) 1 256 (by decide) (by decide) (by rw [show ((1 : Nat) : Rat) = 1 from rfl]; grind) (by rw [show ((1 : Nat) : Rat) = 1 from rfl]; grind) (by decide) (by rw [show ((256 : Nat) : Rat) = 256 from rfl]; grind) (by decide)).mono (m := 1794) (by decide)
  have e1 : hlsF (oF a) (oF b) (oF c) = (hueOf (oF a) (oF b) (oF c) (oF M) (sub (oF M) (oF m)), div (add (oF M) (oF m)) 4611686018427387904, hlsS (div (add (oF M) (oF m)) 4611686018427387904) (oF M) (oF m)) := by
    unfold hlsF; rw [eM, em, if_neg hne]
  have e2 : hsvF (oF a) (oF b) (oF c) = (hueOf (oF a) (oF b) (oF c) (oF M) (sub (oF M) (oF m)), div (sub (oF M) (oF m)) (oF M), oF M) := by
    unfold hsvF; rw [eM, em, if_neg hne]
  obtain ⟨hok, hz⟩ := hsvr_nr yn Zn (oF_nr H.iM.1 H.iM.2) (by grind) Z1 bM.1 bM.2 (nz Zn (by decide) Z0) y1 y2
  have w1 : Rf M - Rf M * Z = Rf m := by grind
  have w2 : Rf M * Z = Rf M - Rf m := by grind
  rw [w1, w2] at hz
  -- nonzero spans
  have zd : isZero (sub (oF M) (oF m)) = false := isZero_f dn.fin (nz dn (by decide) (by grind))
  have zM : isZero (oF M) = false := isZero_f (oF_nr H.iM.1 H.iM.2).fin (nz (oF_nr H.iM.1 H.iM.2) (by decide) (by grind))
  have an := (oF_nr H.iM.1 H.iM.2).add (oF_nr H.im.1 H.im.2) (by decide) (by decide) (by grind) (by grind)
  have bn := (k2.sub (oF_nr H.iM.1 H.iM.2) (by decide) (by decide) (by grind) (by grind)).sub (oF_nr H.im.1 H.im.2) (by decide) (by decide) (by grind) (by grind)
  have zs : isZero (add (oF M) (oF m)) = false := isZero_f an.fin (nz an (by decide) (by grind))
  have zt : isZero (sub (sub 4611686018427387904 (oF M)) (oF m)) = false := isZero_f bn.fin (nz bn (by decide) (by grind))
  -- hls: lightness L, half span
  have hls : ∀ {l : UInt64} {L : Rat}, Nr l L 5 → (L = (Rf M + Rf m) / 2 ∨ L = 1 - (Rf M + Rf m) / 2) →
      N3 (hlsr (add (onF k) (hueB k (hueOf (oF a) (oF b) (oF c) (oF M) (sub (oF M) (oF m))))) l (hlsS (div (add (oF M) (oF m)) 4611686018427387904) (oF M) (oF m))) (L - (Rf M - Rf m) / 2 + ((Rf M - Rf m) / 2 + (Rf M - Rf m) / 2) * (T3 y).1)
        (L - (Rf M - Rf m) / 2 + ((Rf M - Rf m) / 2 + (Rf M - Rf m) / 2) * (T3 y).2.1) (L - (Rf M - Rf m) / 2 + ((Rf M - Rf m) / 2 + (Rf M - Rf m) / 2) * (T3 y).2.2) 200000 := by
    intro l L hl hL
    have c1 : Rf M + Rf m ≤ 1 + 10 * u → S * (Rf M + Rf m) = Rf M - Rf m := fun h => Sa (sum_le h)
    have c2 : 1 - 10 * u ≤ Rf M + Rf m → S * (2 - Rf M - Rf m) = Rf M - Rf m := fun h => Sb (sum_ge h)
    by_cases h5 : Rf M + Rf m ≤ 1 + 10 * u
    · have d1 := c1 h5
      by_cases h6 : 1 - 10 * u ≤ Rf M + Rf m
      · have d2 := c2 h6
        refine hlsr_nr yn hl Sn ⟨?_, ?_, ?_, S1, ?_, ?_, ?_⟩ (by grind) (by grind) (nz Sn (by decide) S0) ?_ ?_ <;> rcases hL with rfl | rfl <;> grind
      · refine hlsr_nr yn hl Sn ⟨?_, ?_, ?_, S1, ?_, ?_, ?_⟩ (by grind) (by grind) (nz Sn (by decide) S0) ?_ ?_ <;> rcases hL with rfl | rfl <;> grind
    · have d2 := c2 (by grind)
      refine hlsr_nr yn hl Sn ⟨?_, ?_, ?_, S1, ?_, ?_, ?_⟩ (by grind) (by grind) (nz Sn (by decide) S0) ?_ ?_ <;> rcases hL with rfl | rfl <;> grind
  have hs : (v0 k (a, b, c)).s = M + m := by rw [v0_s]; exact H.q4s
  have hT' : Hts (Rf m) (Rf M - Rf m) (T3 y) (v0 k (a, b, c)) := hT
  refine ⟨?_, ?_, ?_, ?_, ?_, ?_⟩
  · exact .inr (by rw [eM, em]; exact ⟨zd, zs, zt⟩)
  · exact .inr (by rw [eM, em]; exact ⟨zd, zM⟩)
  · rw [e2]; exact hok
  · rw [e2]; exact hz.hts hT'
  · intro hw
    rw [e1]
    unfold fX
    rw [if_neg (by rw [hw]; exact Bool.false_ne_true)]
    obtain ⟨p1, p2, p3⟩ := hls (ln.mono (by decide)) (.inl rfl)
    have ta := hT'.a
    have tb := hT'.b
    have tc := hT'.c
    exact ⟨p1.to (by grind), p2.to (by grind), p3.to (by grind)⟩
  · intro hw
    rw [e1]
    unfold fX
    rw [if_pos hw]
    have ln' := (kI (i := 1) (by decide) (by decide)).sub ln (by decide) (by decide) (by rw [Rat.intCast_one]; grind) (by rw [Rat.intCast_one]; grind)
    rw [Rat.intCast_one] at ln'
    obtain ⟨p1, p2, p3⟩ := hls ln' (.inr rfl)
    have ta := hT'.a
    have tb := hT'.b
    have tc := hT'.c
    have e255 : Rf 255 = 1 := by decide +kernel
    refine ⟨p1.to ?_, p2.to ?_, p3.to ?_⟩ <;> (simp only [drk]; rw [hs, Rf_add, Rf_sub, Rf_add, e255]; grind)
end Mine
end PFl13

section PFl14
namespace Mine
open PySem PySem.Float64

theorem rotN_grey {a : Int} : ∀ n, rotN n ⟨a, a, a, a + a⟩ = ⟨a, a, a, a + a⟩
  | 0 => rfl
  | n + 1 => by
    show rot (rotN n _) = _
    rw [rotN_grey n]
    apply Q4.ext' <;> simp only [rot] <;> omega
theorem v0_grey {k a : Int} : v0 k (a, a, a) = ⟨a, a, a, a + a⟩ := by
  have e : q4 (a, a, a) = ⟨a, a, a, a + a⟩ := by
    apply Q4.ext' <;> first | rfl | (show mxI a a a + mnI a a a = a + a; unfold mxI mnI; omega)
  have e2 : (if 1 - (k.fdiv 6).fmod 2 * 2 = 1 then q4 (a, a, a) else mir (q4 (a, a, a))) = ⟨a, a, a, a + a⟩ := by
    rw [e]; split <;> rfl
  unfold v0
  rw [e2, rotN_grey]
theorem cmp00 : (cmp 0 0 == some .eq) = true := by decide +kernel
theorem roads_grey {k a : Int} (h : InO a) : Roads k (a, a, a) := by
  have ba := Rf_rng h.1 h.2
  have eM : mx3 (oF a) (oF a) (oF a) = oF a := by rw [mx3_oF h h h]; congr 1; unfold mxI; omega
  have em : mn3 (oF a) (oF a) (oF a) = oF a := by rw [mn3_oF h h h]; congr 1; unfold mnI; omega
  have he : (cmp (oF a) (oF a) == some .eq) = true := by rw [oF_eq h h, decide_eq_true rfl]
  have e1 : hlsF (oF a) (oF a) (oF a) = (0, div (add (oF a) (oF a)) 4611686018427387904, 0) := by unfold hlsF; rw [eM, em, if_pos he]
  have e2 : hsvF (oF a) (oF a) (oF a) = (0, 0, oF a) := by unfold hsvF; rw [eM, em, if_pos he]
  have an := (oF_nr h.1 h.2)
  have ln : Nr (div (add (oF a) (oF a)) 4611686018427387904) (Rf a) 4 :=
    (((an.add an (by decide) (by decide) (by grind) (by grind)).to (show Rf a + Rf a = Rf a * 2 by grind)).div k2 1 1 (by decide) (by decide) (by rw [show ((1 : Nat) : Rat) = 1 from rfl]; grind) (by rw [show ((1 : Nat) : Rat) = 1 from rfl]; grind) (by decide) one_le2 (by decide)).mono (by decide)
  have hv := v0_grey (k := k) (a := a)
  refine ⟨?_, ?_, ?_, ?_, ?_, ?_⟩
  · exact .inl (by rw [eM, em]; exact he)
  · exact .inl (by rw [eM, em]; exact he)
  · rw [e2]; exact .inl cmp00
  · rw [e2, hv]
    unfold fZ hsvr
    rw [if_pos cmp00]
    exact ⟨an.mono (by decide), an.mono (by decide), an.mono (by decide)⟩
  · intro hw
    rw [e1, hv]
    unfold fX hlsr
    rw [if_neg (show ¬ (k.fdiv 12 == 2) = true by rw [hw]; exact Bool.false_ne_true), if_pos cmp00]
    exact ⟨ln.mono (by decide), ln.mono (by decide), ln.mono (by decide)⟩
  · intro hw
    rw [e1, hv]
    unfold fX hlsr
    rw [if_pos hw, if_pos cmp00]
    have ln' := (kI (i := 1) (by decide) (by decide)).sub ln (by decide) (by decide) (by rw [Rat.intCast_one]; grind) (by rw [Rat.intCast_one]; grind)
    rw [Rat.intCast_one] at ln'
    have e255 : Rf 255 = 1 := by decide +kernel
    have ln2 := (ln'.to (show 1 - Rf a = Rf (a + (255 - (a + a))) by rw [Rf_add, Rf_sub, Rf_add, e255]; grind)).mono (m := 200000) (by decide)
    exact ⟨ln2, ln2, ln2⟩
theorem roads {k : Int} {c : Col} (h : InR c) : Roads k c := by
  obtain ⟨a, b, c⟩ := c
  obtain ⟨ha, hb, hc⟩ := h
  simp only at ha hb hc
  by_cases e : mnI a b c = mxI a b c
  · have e1 : b = a := by unfold mnI mxI at e; omega
    have e2 : c = a := by unfold mnI mxI at e; omega
    subst e1 e2
    exact roads_grey ha
  · exact roads_color (mm_of ha hb hc e) rfl rfl
/-- a filter's net -/
noncomputable def netK (k : Int) : Net := (k + k.fdiv 36 * 3, 1 - (k.fdiv 6).fmod 2 * 2, k.fdiv 24)
theorem six_mod : ∀ n : Fin 48, (((n.1 : Nat) : Int) + ((n.1 : Nat) : Int).fdiv 36 * 3).toNat % 6 = ((((n.1 : Nat) : Int).fdiv 36 * 3).toNat + (((n.1 : Nat) : Int).fmod 6).toNat) % 6 := by decide +kernel
theorem act_v0 {k : Int} (h0 : 0 ≤ k) (h1 : k < 48) (c : Col) : act (netK k) (q4 c) = (if k.fdiv 24 = 1 then drk (rotN (k.fdiv 36 * 3).toNat (v0 k c)) else rotN (k.fdiv 36 * 3).toNat (v0 k c)) := by
  unfold act netK v0
  simp only
  rw [← rotN_add]
  have e : rotN (k + k.fdiv 36 * 3).toNat (if 1 - (k.fdiv 6).fmod 2 * 2 = 1 then q4 c else mir (q4 c)) = rotN ((k.fdiv 36 * 3).toNat + (k.fmod 6).toNat) (if 1 - (k.fdiv 6).fmod 2 * 2 = 1 then q4 c else mir (q4 c)) := by
    refine rotN_eq ?_ _
    obtain ⟨n, rfl⟩ := Int.eq_ofNat_of_zero_le h0
    exact six_mod ⟨n, Int.ofNat_lt.mp h1⟩
  rw [e]
theorem filter_ok {k : Int} {c : Col} (h0 : 0 ≤ k) (h1 : k < 48) (h : InR c) : FOk k c.1 c.2.1 c.2.2 ∧ filtC k c = deedC (netK k) c := by
  have R := roads (k := k) h
  have hg := v0_good (k := k) h
  obtain ⟨ok1, ok2, ok3, hz, hx, hx2⟩ := R
  have fd : ∀ d : Int, 0 < d → k.fdiv d = k / d := fun d hd => Int.fdiv_eq_ediv_of_nonneg k (Int.le_of_lt hd)
  -- the hue by hsv
  obtain ⟨fz, ez⟩ := rnd3_nr (v := colOf (v0 k c)) hz (by decide) hg.in
  -- by hls
  have hX : fin3 (fX k (hlsF (oF c.1) (oF c.2.1) (oF c.2.2))) ∧ rnd3 (fX k (hlsF (oF c.1) (oF c.2.1) (oF c.2.2))) = (if (k.fdiv 12 == 2) = true then colOf (drk (v0 k c)) else colOf (v0 k c)) := by
    cases e : (k.fdiv 12 == 2) with
    | true => rw [if_pos rfl]; exact rnd3_nr (hx2 e) (by decide) (good_drk hg).in
    | false => rw [if_neg Bool.false_ne_true]; exact rnd3_nr (hx e) (by decide) hg.in
  -- through yiq
  have e255 : Rf 255 = 1 := by decide +kernel
  have hgr := good_drk (good_rotN hg 3)
  have hY : fin3 (fY (fZ k (hsvF (oF c.1) (oF c.2.1) (oF c.2.2)))) ∧ rnd3 (fY (fZ k (hsvF (oF c.1) (oF c.2.1) (oF c.2.2)))) = colOf (drk (rotN 3 (v0 k c))) := by
    obtain ⟨z1, z2, z3⟩ := hz
    have ra := Rf_rng hg.in.1.1 hg.in.1.2
    have rb := Rf_rng hg.in.2.1.1 hg.in.2.1.2
    have rc := Rf_rng hg.in.2.2.1 hg.in.2.2.2
    obtain ⟨y1, y2, y3⟩ := fY_nr z1 z2 z3 ⟨ra.1, ra.2, rb.1, rb.2, rc.1, rc.2⟩
    have ea : (drk (rotN 3 (v0 k c))).a = 255 - (v0 k c).a := by simp only [rotN, rot, drk]; omega
    have eb : (drk (rotN 3 (v0 k c))).b = 255 - (v0 k c).b := by simp only [rotN, rot, drk]; omega
    have ec : (drk (rotN 3 (v0 k c))).c = 255 - (v0 k c).c := by simp only [rotN, rot, drk]; omega
    refine rnd3_nr (n := 8000000) ⟨y1.to ?_, y2.to ?_, y3.to ?_⟩ (by decide) hgr.in
    · show _ = Rf (drk (rotN 3 (v0 k c))).a; rw [ea, Rf_sub, e255]
    · show _ = Rf (drk (rotN 3 (v0 k c))).b; rw [eb, Rf_sub, e255]
    · show _ = Rf (drk (rotN 3 (v0 k c))).c; rw [ec, Rf_sub, e255]
  refine ⟨⟨ok1, ok2, ok3, hX.1, fz, hY.1⟩, ?_⟩
  unfold filtC deedC
  rw [act_v0 h0 h1]
  by_cases c1 : k < 12
  · have a1 : k.fdiv 12 = 0 := by rw [fd 12 (by decide)]; omega
    have a2 : k.fdiv 24 = 0 := by rw [fd 24 (by decide)]; omega
    have a3 : k.fdiv 36 = 0 := by rw [fd 36 (by decide)]; omega
    rw [filt_c (by rw [a1]; rfl) (by rw [a1]; decide), ez, a2, a3]
    rfl
  · by_cases c2 : k < 24
    · have a1 : k.fdiv 12 = 1 := by rw [fd 12 (by decide)]; omega
      have a2 : k.fdiv 24 = 0 := by rw [fd 24 (by decide)]; omega
      have a3 : k.fdiv 36 = 0 := by rw [fd 36 (by decide)]; omega
      rw [filt_a (by rw [a1]; rfl), hX.2, a1, a2, a3]
      rfl
    · by_cases c3 : k < 36
      · have a1 : k.fdiv 12 = 2 := by rw [fd 12 (by decide)]; omega
        have a2 : k.fdiv 24 = 1 := by rw [fd 24 (by decide)]; omega
        have a3 : k.fdiv 36 = 0 := by rw [fd 36 (by decide)]; omega
        rw [filt_a (by rw [a1]; rfl), hX.2, a1, a2, a3]
        rfl
      · have a1 : k.fdiv 12 = 3 := by rw [fd 12 (by decide)]; omega
        have a2 : k.fdiv 24 = 1 := by rw [fd 24 (by decide)]; omega
        have a3 : k.fdiv 36 = 1 := by rw [fd 36 (by decide)]; omega
        rw [filt_b (by rw [a1]; rfl) a1, hY.2, a2, a3]
        rfl
/-- a number to nine places -/
theorem nine {x : UInt64} {a : Int} (h : Nr x (Rf a) 179) (h0 : 0 ≤ a) (h1 : a < 256) : isFinite (mul (ofInt (10 ^ Int.toNat 9)) x) = true ∧ Flt.toInt nearestOf (mul (ofInt (10 ^ Int.toNat 9)) x) = (2 * 10 ^ Int.toNat 9 * a + 255).fdiv 510 := by
  have e9 : (10 ^ Int.toNat 9 : Int) = 1000000000 := by decide
  rw [e9]
  have hb := Rf_rng h0 h1
  have hh := h.hi
  have hl := h.lo
  have hu : ((179 : Nat) : Rat) * u ≤ 1 / 1000000000000 := by decide +kernel
  have kk := (kI (i := 1000000000) (by decide) (by decide))
  have k2 := kk.q0
  rw [show ((1000000000 : Int) : Rat) = 1000000000 from rfl] at k2
  obtain ⟨f, p, r⟩ := mul_qb kk.fin h.fin (by rw [k2]; grind) (by rw [k2]; grind)
  rw [k2] at p r
  refine ⟨f, nearest_q f ?_ ?_⟩
  all_goals
    rw [Int.fdiv_eq_ediv_of_nonneg _ (by decide)]
    have d1 := Int.mul_ediv_add_emod (2 * 1000000000 * a + 255) 510
    have d2 := Int.emod_nonneg (2 * 1000000000 * a + 255) (b := 510) (by decide)
    have d3 := Int.emod_lt_of_pos (2 * 1000000000 * a + 255) (b := 510) (by decide)
    generalize (2 * 1000000000 * a + 255) / 510 = V at *
    generalize (2 * 1000000000 * a + 255) % 510 = w at *
    have d4 : w % 2 = 1 := by omega
    have e1 : 510 * V + w = 2 * 1000000000 * a + 255 := by omega
    have e2 := congrArg (Int.cast (R := Rat)) e1
    simp only [Rat.intCast_add, Rat.intCast_mul, show ((510 : Int) : Rat) = 510 from rfl, show ((2 : Int) : Rat) = 2 from rfl, show ((1000000000 : Int) : Rat) = 1000000000 from rfl, show ((255 : Int) : Rat) = 255 from rfl] at e2
    have w0 : (1 : Rat) ≤ (w : Rat) := cast_le (show 1 ≤ w by omega)
    have w1 : (w : Rat) ≤ 509 := cast_le (show w ≤ 509 by omega)
    unfold Rf at *
    grind
end Mine
end PFl14

section PFl15
namespace Mine
open PySem PySem.Float64
theorem fine_ok {a b c : Int} (ha : InO a) (hb : InO b) (hc : InO c) : FineOk a b c := by
  have ra := Rf_rng ha.1 ha.2
  have rb := Rf_rng hb.1 hb.2
  have rc := Rf_rng hc.1 hc.2
  have H : In1 (Rf a) (Rf b) (Rf c) := ⟨ra.1, ra.2, rb.1, rb.2, rc.1, rc.2⟩
  obtain ⟨x, y, z⟩ := yiqF_nr (oF_nr ha.1 ha.2) (oF_nr hb.1 hb.2) (oF_nr hc.1 hc.2) H (by decide)
  have hR := yiq_rng H
  have hI := yiq_inv H
  obtain ⟨p, q, r⟩ := raw_nr x y z (by decide) (by decide) (by decide) (by grind) (by grind) (by grind) (by grind) (by grind) (by grind)
  have k2' := kI (i := 2) (by decide) (by decide)
  rw [show ((2 : Int) : Rat) = 2 from rfl] at k2'
  obtain ⟨p', q', r'⟩ := raw_nr (x.add k2' (by decide) (by decide) (by grind) (by grind)) y z (by decide) (by decide) (by decide) (by grind) (by grind) (by grind) (by grind) (by grind) (by grind)
  obtain ⟨p'', q'', r''⟩ := raw_nr (x.sub k2' (by decide) (by decide) (by grind) (by grind)) y z (by decide) (by decide) (by decide) (by grind) (by grind) (by grind) (by grind) (by grind) (by grind)
  have hu : u ≤ 1 / 1000000 := by decide +kernel
  have o : ((1 : Nat) : Rat) = 1 := rfl
  generalize lY (Rf a) (Rf b) (Rf c) = Y at *
  generalize lI (Rf a) (Rf b) (Rf c) = I at *
  generalize lQ (Rf a) (Rf b) (Rf c) = Q at *
  have n1 := nine (clamp_nr ((p.shift 1 (Y := Rf a) (by rw [o]; grind) (by rw [o]; grind)).mono (m := 179) (by decide)) ra.1 ra.2) ha.1 ha.2
  have n2 := nine (clamp_nr ((q.shift 1 (Y := Rf b) (by rw [o]; grind) (by rw [o]; grind)).mono (m := 179) (by decide)) rb.1 rb.2) hb.1 hb.2
  have n3 := nine (clamp_nr ((r.shift 1 (Y := Rf c) (by rw [o]; grind) (by rw [o]; grind)).mono (m := 179) (by decide)) rc.1 rc.2) hc.1 hc.2
  refine ⟨n1.1, n2.1, n3.1, n1.2, n2.2, n3.2, ?_, ?_⟩
  · rw [yiqr_raw]
    show (hi1 (lo0 (rawR (add (yiqF (oF a) (oF b) (oF c)).1 (ofInt 2)) (yiqF (oF a) (oF b) (oF c)).2.1 (yiqF (oF a) (oF b) (oF c)).2.2)), hi1 (lo0 (rawG (add (yiqF (oF a) (oF b) (oF c)).1 (ofInt 2)) (yiqF (oF a) (oF b) (oF c)).2.1 (yiqF (oF a) (oF b) (oF c)).2.2)), hi1 (lo0 (rawB (add (yiqF (oF a) (oF b) (oF c)).1 (ofInt 2)) (yiqF (oF a) (oF b) (oF c)).2.1 (yiqF (oF a) (oF b) (oF c)).2.2))) = _
    rw [clamp_up p' (by decide) (by grind), clamp_up q' (by decide) (by grind), clamp_up r' (by decide) (by grind)]
  · rw [yiqr_raw]
    show (hi1 (lo0 (rawR (sub (yiqF (oF a) (oF b) (oF c)).1 (ofInt 2)) (yiqF (oF a) (oF b) (oF c)).2.1 (yiqF (oF a) (oF b) (oF c)).2.2)), hi1 (lo0 (rawG (sub (yiqF (oF a) (oF b) (oF c)).1 (ofInt 2)) (yiqF (oF a) (oF b) (oF c)).2.1 (yiqF (oF a) (oF b) (oF c)).2.2)), hi1 (lo0 (rawB (sub (yiqF (oF a) (oF b) (oF c)).1 (ofInt 2)) (yiqF (oF a) (oF b) (oF c)).2.1 (yiqF (oF a) (oF b) (oF c)).2.2))) = _
    rw [clamp_dn p'' (by decide) (by grind), clamp_dn q'' (by decide) (by grind), clamp_dn r'' (by decide) (by grind)]
end Mine
end PFl15

section PEc
open PySem PySem.W PySem.Spec PySem.Calls PyProof.Rows
namespace Mine

theorem fill : Mine.K = Mine.K ∧ Mine.rw0 = Mine.rw0 := by k_fill; exact ⟨rfl, rfl⟩
local macro_rules | `(tactic| k_extra "mu") => `(tactic| first | (with_reducible exact lookup_hit) | ((with_reducible apply lookup_miss); decide +kernel; k_extra "mu"))
local macro_rules | `(tactic| k_extra "nz") => `(tactic| first | assumption | decide +kernel)
local macro_rules | `(tactic| k_extra "bin") => `(tactic| with_reducible (first | exact Bin.addf | exact Bin.subf | exact Bin.mulf | exact Bin.divf (by k_extra "nz") | exact Bin.modf (by k_extra "nz") | exact Bin.addi | exact Bin.subi | exact Bin.modi (by decide) | exact Bin.divi (by decide) (by decide) | exact Bin.subif (by k_extra "nb") | exact Bin.subfi (by k_extra "nb") | exact Bin.addfi (by k_extra "nb") | exact Bin.mulif (by k_extra "nb") | exact Bin.divii (by k_extra "nb") (by decide)))
local macro_rules | `(tactic| k_extra "nb") => `(tactic| first | decide | assumption | omega)
local macro_rules | `(tactic| k_extra "cmp") => `(tactic| with_reducible (first | exact Cmp.ltf | exact Cmp.eqf | exact Cmp.lef | exact Cmp.gtf | exact Cmp.eqi | exact Cmp.lti | exact Cmp.gti | exact Cmp.gei))
local macro_rules | `(tactic| k_extra "test") => `(tactic| first
  | ((with_reducible apply Test.cmp); k_extra "ev"; k_extra "ev"; k_extra "cmp"; kernel_rfl)
  | ((with_reducible apply Test.name); k_extra "ev")
  | ((with_reducible apply Test.or2); k_extra "test"; (intro _; k_extra "test")))
local macro_rules | `(tactic| k_extra "callee") => `(tactic| fail "no callee")
local macro_rules | `(tactic| k_extra "zb") => `(tactic| exact congrArg Zw.b (by assumption : _ = Zw.mk false _))
local macro_rules | `(tactic| k_extra "bt") => `(tactic| first | exact boot_max | exact boot_min | exact boot_round | exact boot_int | exact boot_len | exact boot_sum)
local macro_rules | `(tactic| k_extra "nmB") => `(tactic| ((with_reducible refine Ev.name_B (by assumption) (by k_is) ?_ (by kernel_rfl) (by decide +kernel) (by kernel_rfl) (by kernel_rfl)); k_extra "bt"))
local macro_rules | `(tactic| k_extra "cv") => `(tactic| first | ((refine callMax3 ?_); k_extra "zb") | ((refine callMin3 ?_); k_extra "zb") | (with_reducible exact callInt (by assumption)) | (with_reducible exact callRound (by assumption)))
local macro_rules | `(tactic| k_extra "blt") => `(tactic| first
  | ((with_reducible apply Ev.callB); k_extra "nmB"; k_extra "evs"; k_extra "cv"; iterate 3 kernel_rfl)
  | ((with_reducible apply Ev.callT); k_extra "nmB"; k_extra "evs"; k_extra "cv"; iterate 3 kernel_rfl))
local macro_rules | `(tactic| k_extra "ev") => `(tactic| first
  | ((with_reducible apply Ev.loc); k_extra "mu"; decide +kernel; kernel_rfl; kernel_rfl)
  | (with_reducible exact Ev.cf)
  | (with_reducible exact Ev.ci)
  | ((with_reducible apply Ev.bin); k_extra "ev"; k_extra "ev"; k_extra "bin")
  | ((with_reducible apply Ev.tup); k_extra "evs"; exact Nat.le_of_ble_eq_true (by kernel_rfl))
  | ((with_reducible apply Ev.list); k_extra "evs"; exact Nat.le_of_ble_eq_true (by kernel_rfl))
  | ((with_reducible apply Ev.neg); k_extra "ev")
  | ((with_reducible apply Ev.cmp); k_extra "ev"; k_extra "ev"; k_extra "cmp"; kernel_rfl)
  | ((with_reducible apply Ev.globf); assumption; k_is; (exact fun _ => by decide +kernel); iterate 4 kernel_rfl)
  | ((with_reducible apply Ev.globi); assumption; k_is; iterate 4 kernel_rfl)
  | ((with_reducible apply Ev.call); assumption; k_is; k_is; k_extra "evs"; k_extra "callee"; decide; decide; iterate 8 kernel_rfl)
  | k_extra "blt")
local macro_rules | `(tactic| k_extra "evs") => `(tactic| first
  | (with_reducible exact Evs.nil)
  | ((with_reducible apply Evs.cons); k_extra "ev"; k_extra "evs"; kernel_rfl))
local macro_rules | `(tactic| k_extra "x1") => `(tactic| first
  | ((with_reducible apply X1.assign); (intro C hz hO; k_extra "ev"); decide +kernel; (intro _; kernel_rfl); kernel_rfl)
  | ((with_reducible apply X1.ifA); (intro C hz hO; k_extra "test"); k_extra "mu"; (intro C hz hO; k_extra "ev"); decide +kernel; (intro _; kernel_rfl); kernel_rfl))
local macro_rules | `(tactic| k_extra "x1") => `(tactic| ((with_reducible apply X1.iteA); (intro C hz hO; k_extra "test"); (intro _ C hz hO; k_extra "ev"); (intro _; k_extra "xs"; k_extra "xs"); decide +kernel; (intro _; kernel_rfl); kernel_rfl))
local macro_rules | `(tactic| k_extra "xs") => `(tactic| first
  | ((with_reducible apply Xs.next); k_extra "x1")
  | ((with_reducible apply Xs.retE); (intro C hz hO; k_extra "ev"); kernel_rfl)
  | with_reducible exact Xs.nil)
local macro_rules | `(tactic| k_extra "body") => `(tactic| (
  (case hf => intro P; k_is); (case hcd => intro P; k_is); (case co => rfl); (case cg => rfl); (case ck => rfl);
  (case hb => intro s; first | exact len3 fun _ _ _ => BindsTo.of_eq rfl | exact len2 fun _ _ => BindsTo.of_eq rfl | exact len1 fun _ => BindsTo.of_eq rfl);
  (case hl => decide +kernel); (case hcell => decide +kernel); (case hnd => decide +kernel); (case hne => exact Nat.succ_pos _); (case hlen => rfl); (case ha => exact fun _ _ h => h); (case hm => rfl)))

set_option maxRecDepth 100000 in
set_option maxHeartbeats 4000000 in
theorem yiq_ok (w : World) (z : Bool) (x1 x2 x3 : UInt64) : CallOk ⟨z, w⟩ 21 [.flt x1, .flt x2, .flt x3] 1 3 (.tup [.flt (yiqF x1 x2 x3).1, .flt (yiqF x1 x2 x3).2.1, .flt (yiqF x1 x2 x3).2.2]) := by
  refine' body_ok (b' := z) (d := 0) (u := 0) (xs := [Str.ofString "r", Str.ofString "g", Str.ofString "b"]) (μ := [(Str.ofString "r", .flt x1), (Str.ofString "g", .flt x2), (Str.ofString "b", .flt x3)]) (.inl rfl) ?hf ?hcd ?hb ?hl ?hcell ?hnd ?hne ?hlen ?ha ?hm ?hB ?co ?cg ?ck
  k_extra "body"
  with_unfolding_all (show Xs _ _ _ _ _ (_ :: _) _)
  k_extra "xs"
  k_extra "xs"
  k_extra "xs"
  k_extra "xs"
set_option maxRecDepth 100000 in
set_option maxHeartbeats 4000000 in
theorem yiqr_ok (w : World) (z : Bool) (x1 x2 x3 : UInt64) : CallOk ⟨z, w⟩ 28 [.flt x1, .flt x2, .flt x3] 1 3 (.tup [.flt (yiqr x1 x2 x3).1, .flt (yiqr x1 x2 x3).2.1, .flt (yiqr x1 x2 x3).2.2]) := by
  refine' body_ok (b' := z) (d := 0) (u := 0) (xs := [Str.ofString "y", Str.ofString "i", Str.ofString "q"]) (μ := [(Str.ofString "y", .flt x1), (Str.ofString "i", .flt x2), (Str.ofString "q", .flt x3)]) (.inl rfl) ?hf ?hcd ?hb ?hl ?hcell ?hnd ?hne ?hlen ?ha ?hm ?hB ?co ?cg ?ck
  k_extra "body"
  with_unfolding_all (show Xs _ _ _ _ _ (_ :: _) _)
  k_extra "xs"
  k_extra "xs"
  k_extra "xs"
  k_extra "xs"
  k_extra "xs"
  k_extra "xs"
  k_extra "xs"
  k_extra "xs"
  k_extra "xs"
  k_extra "xs"
set_option maxRecDepth 100000 in
set_option maxHeartbeats 4000000 in
theorem v_ok (w : World) (x1 x2 x3 : UInt64) : CallOk ⟨false, w⟩ 49 [.flt x1, .flt x2, .flt x3] 1 3 (.flt (vF x1 x2 x3)) := by
  refine' body_ok (b' := false) (d := 0) (u := 0) (xs := [Str.ofString "m1", Str.ofString "m2", Str.ofString "hue"]) (μ := [(Str.ofString "m1", .flt x1), (Str.ofString "m2", .flt x2), (Str.ofString "hue", .flt x3)]) (.inl rfl) ?hf ?hcd ?hb ?hl ?hcell ?hnd ?hne ?hlen ?ha ?hm ?hB ?co ?cg ?ck
  k_extra "body"
  with_unfolding_all (show Xs _ _ _ _ _ (_ :: _) _)
  k_extra "xs"
  with_reducible apply Xs.ifr
  · intro C hz hO; k_extra "test"
  · intro h0; ((with_reducible apply Xs.retE); (intro C hz hO; k_extra "ev"); (unfold vF vG; simp only [*, if_true, if_false, Bool.false_eq_true]))
  intro h0
  with_reducible apply Xs.ifr
  · intro C hz hO; k_extra "test"
  · intro h1; ((with_reducible apply Xs.retE); (intro C hz hO; k_extra "ev"); (unfold vF vG; simp only [*, if_true, if_false, Bool.false_eq_true]))
  intro h1
  with_reducible apply Xs.ifr
  · intro C hz hO; k_extra "test"
  · intro h2; ((with_reducible apply Xs.retE); (intro C hz hO; k_extra "ev"); (unfold vF vG; simp only [*, if_true, if_false, Bool.false_eq_true]))
  intro h2
  ((with_reducible apply Xs.retE); (intro C hz hO; k_extra "ev"); (unfold vF vG; simp only [*, if_true, if_false, Bool.false_eq_true]))
set_option maxRecDepth 100000 in
set_option maxHeartbeats 4000000 in
theorem hls_ok (w : World) (x1 x2 x3 : UInt64) (hok : OkHls x1 x2 x3) : CallOk ⟨false, w⟩ 35 [.flt x1, .flt x2, .flt x3] 1 3 (.tup [.flt (hlsF x1 x2 x3).1, .flt (hlsF x1 x2 x3).2.1, .flt (hlsF x1 x2 x3).2.2]) := by
  refine' body_ok (b' := false) (d := 0) (u := 0) (xs := [Str.ofString "r", Str.ofString "g", Str.ofString "b"]) (μ := [(Str.ofString "r", .flt x1), (Str.ofString "g", .flt x2), (Str.ofString "b", .flt x3)]) (.inl rfl) ?hf ?hcd ?hb ?hl ?hcell ?hnd ?hne ?hlen ?ha ?hm ?hB ?co ?cg ?ck
  k_extra "body"
  with_unfolding_all (show Xs _ _ _ _ _ (_ :: _) _)
  k_extra "xs"
  k_extra "xs"
  k_extra "xs"
  k_extra "xs"
  k_extra "xs"
  with_reducible apply Xs.ifr
  · intro C hz hO; k_extra "test"
  · intro h; ((with_reducible apply Xs.retE); (intro C hz hO; k_extra "ev"); (unfold hlsF; rw [if_pos h]; try rfl))
  intro h
  obtain ⟨hz1, hz2, hz3⟩ := hok.resolve_left (ne_true_of_eq_false h)
  k_extra "xs"
  k_extra "xs"
  k_extra "xs"
  k_extra "xs"
  k_extra "xs"
  k_extra "xs"
  ((with_reducible apply Xs.retE); (intro C hz hO; k_extra "ev"); (unfold hlsF hueOf hlsS; rw [if_neg (ne_true_of_eq_false h)]; try rfl))
set_option maxRecDepth 100000 in
set_option maxHeartbeats 4000000 in
theorem hsv_ok (w : World) (x1 x2 x3 : UInt64) (hok : OkHsv x1 x2 x3) : CallOk ⟨false, w⟩ 56 [.flt x1, .flt x2, .flt x3] 1 3 (.tup [.flt (hsvF x1 x2 x3).1, .flt (hsvF x1 x2 x3).2.1, .flt (hsvF x1 x2 x3).2.2]) := by
  refine' body_ok (b' := false) (d := 0) (u := 0) (xs := [Str.ofString "r", Str.ofString "g", Str.ofString "b"]) (μ := [(Str.ofString "r", .flt x1), (Str.ofString "g", .flt x2), (Str.ofString "b", .flt x3)]) (.inl rfl) ?hf ?hcd ?hb ?hl ?hcell ?hnd ?hne ?hlen ?ha ?hm ?hB ?co ?cg ?ck
  k_extra "body"
  with_unfolding_all (show Xs _ _ _ _ _ (_ :: _) _)
  k_extra "xs"
  k_extra "xs"
  k_extra "xs"
  k_extra "xs"
  with_reducible apply Xs.ifr
  · intro C hz hO; k_extra "test"
  · intro h; ((with_reducible apply Xs.retE); (intro C hz hO; k_extra "ev"); (unfold hsvF; rw [if_pos h]; try rfl))
  intro h
  obtain ⟨hz1, hz2⟩ := hok.resolve_left (ne_true_of_eq_false h)
  k_extra "xs"
  k_extra "xs"
  k_extra "xs"
  k_extra "xs"
  k_extra "xs"
  k_extra "xs"
  ((with_reducible apply Xs.retE); (intro C hz hO; k_extra "ev"); (unfold hsvF hueOf; rw [if_neg (ne_true_of_eq_false h)]; try rfl))
set_option maxRecDepth 100000 in
set_option maxHeartbeats 4000000 in
theorem hsvr_ok (w : World) (x1 x2 x3 : UInt64) (hok : OkHr x1 x2) : CallOk ⟨false, w⟩ 63 [.flt x1, .flt x2, .flt x3] 1 3 (.tup [.flt (hsvr x1 x2 x3).1, .flt (hsvr x1 x2 x3).2.1, .flt (hsvr x1 x2 x3).2.2]) := by
  refine' body_ok (b' := false) (d := 0) (u := 0) (xs := [Str.ofString "h", Str.ofString "s", Str.ofString "v"]) (μ := [(Str.ofString "h", .flt x1), (Str.ofString "s", .flt x2), (Str.ofString "v", .flt x3)]) (.inl rfl) ?hf ?hcd ?hb ?hl ?hcell ?hnd ?hne ?hlen ?ha ?hm ?hB ?co ?cg ?ck
  k_extra "body"
  with_unfolding_all (show Xs _ _ _ _ _ (_ :: _) _)
  with_reducible apply Xs.ifr
  · intro C hz hO; k_extra "test"
  · intro h; ((with_reducible apply Xs.retE); (intro C hz hO; k_extra "ev"); (unfold hsvr; rw [if_pos h]; try rfl))
  intro h
  obtain ⟨hz1, hz2, hz3⟩ := hok.resolve_left (ne_true_of_eq_false h)
  have hb : (Flt.toInt Float64.truncOf (Float64.mul x1 4618441417868443648)).natAbs < 2 ^ 64 := by omega
  k_extra "xs"
  k_extra "xs"
  k_extra "xs"
  k_extra "xs"
  k_extra "xs"
  k_extra "xs"
  with_reducible apply Xs.ifr
  · intro C hz hO; k_extra "test"
  · intro h0; ((with_reducible apply Xs.retE); (intro C hz hO; k_extra "ev"); (unfold hsvr; rw [if_neg (ne_true_of_eq_false h)]; unfold hsvrI hsvrF; simp only [beq_iff_eq, beq_eq_false_iff_ne, ne_eq] at *; simp [*]))
  intro h0
  with_reducible apply Xs.ifr
  · intro C hz hO; k_extra "test"
  · intro h1; ((with_reducible apply Xs.retE); (intro C hz hO; k_extra "ev"); (unfold hsvr; rw [if_neg (ne_true_of_eq_false h)]; unfold hsvrI hsvrF; simp only [beq_iff_eq, beq_eq_false_iff_ne, ne_eq] at *; simp [*]))
  intro h1
  with_reducible apply Xs.ifr
  · intro C hz hO; k_extra "test"
  · intro h2; ((with_reducible apply Xs.retE); (intro C hz hO; k_extra "ev"); (unfold hsvr; rw [if_neg (ne_true_of_eq_false h)]; unfold hsvrI hsvrF; simp only [beq_iff_eq, beq_eq_false_iff_ne, ne_eq] at *; simp [*]))
  intro h2
  with_reducible apply Xs.ifr
  · intro C hz hO; k_extra "test"
  · intro h3; ((with_reducible apply Xs.retE); (intro C hz hO; k_extra "ev"); (unfold hsvr; rw [if_neg (ne_true_of_eq_false h)]; unfold hsvrI hsvrF; simp only [beq_iff_eq, beq_eq_false_iff_ne, ne_eq] at *; simp [*]))
  intro h3
  with_reducible apply Xs.ifr
  · intro C hz hO; k_extra "test"
  · intro h4; ((with_reducible apply Xs.retE); (intro C hz hO; k_extra "ev"); (unfold hsvr; rw [if_neg (ne_true_of_eq_false h)]; unfold hsvrI hsvrF; simp only [beq_iff_eq, beq_eq_false_iff_ne, ne_eq] at *; simp [*]))
  intro h4
  with_reducible apply Xs.ifr
  · intro C hz hO; k_extra "test"
  · intro h5; ((with_reducible apply Xs.retE); (intro C hz hO; k_extra "ev"); (unfold hsvr; rw [if_neg (ne_true_of_eq_false h)]; unfold hsvrI hsvrF; simp only [beq_iff_eq, beq_eq_false_iff_ne, ne_eq] at *; simp [*]))
  intro h5
  exact (hsv_none (by simpa using h0) (by simpa using h1) (by simpa using h2) (by simpa using h3) (by simpa using h4) (by simpa using h5)).elim
local macro_rules | `(tactic| k_extra "callee") => `(tactic| (with_reducible exact CallOk.at (by assumption) (v_ok _ _ _ _)))
set_option maxRecDepth 100000 in
set_option maxHeartbeats 4000000 in
theorem hlsr_ok (w : World) (x1 x2 x3 : UInt64) : CallOk ⟨false, w⟩ 42 [.flt x1, .flt x2, .flt x3] 2 6 (.tup [.flt (hlsr x1 x2 x3).1, .flt (hlsr x1 x2 x3).2.1, .flt (hlsr x1 x2 x3).2.2]) := by
  refine' body_ok (b' := false) (d := 1) (u := 3) (xs := [Str.ofString "h", Str.ofString "l", Str.ofString "s"]) (μ := [(Str.ofString "h", .flt x1), (Str.ofString "l", .flt x2), (Str.ofString "s", .flt x3)]) (.inl rfl) ?hf ?hcd ?hb ?hl ?hcell ?hnd ?hne ?hlen ?ha ?hm ?hB ?co ?cg ?ck
  k_extra "body"
  with_unfolding_all (show Xs _ _ _ _ _ (_ :: _) _)
  with_reducible apply Xs.ifr
  · intro C hz hO; k_extra "test"
  · intro h; ((with_reducible apply Xs.retE); (intro C hz hO; k_extra "ev"); (unfold hlsr; rw [if_pos h]; try rfl))
  intro h
  k_extra "xs"
  k_extra "xs"
  ((with_reducible apply Xs.retE); (intro C hz hO; k_extra "ev"); (unfold hlsr hlsrF; rw [if_neg (ne_true_of_eq_false h)]; split <;> rfl))

local macro_rules | `(tactic| k_extra "ev") => `(tactic| (with_reducible exact Ev.cs))
set_option maxRecDepth 100000 in
set_option maxHeartbeats 4000000 in
theorem isterm_ok (w : World) (x1 : Int) : CallOk ⟨false, w⟩ 73 [.int x1] 1 3 (.bol (decide (x1 < 256))) := by
  refine' body_ok (b' := false) (d := 0) (u := 0) (xs := [Str.ofString "x"]) (μ := [(Str.ofString "x", .int x1)]) (.inl rfl) ?hf ?hcd ?hb ?hl ?hcell ?hnd ?hne ?hlen ?ha ?hm ?hB ?co ?cg ?ck
  k_extra "body"
  with_unfolding_all (show Xs _ _ _ _ _ (_ :: _) _)
  k_extra "xs"
set_option maxRecDepth 100000 in
set_option maxHeartbeats 4000000 in
theorem isnon_ok (w : World) (x1 : Int) : CallOk ⟨false, w⟩ 80 [.int x1] 1 3 (.bol (decide (256 ≤ x1))) := by
  refine' body_ok (b' := false) (d := 0) (u := 0) (xs := [Str.ofString "x"]) (μ := [(Str.ofString "x", .int x1)]) (.inl rfl) ?hf ?hcd ?hb ?hl ?hcell ?hnd ?hne ?hlen ?ha ?hm ?hB ?co ?cg ?ck
  k_extra "body"
  with_unfolding_all (show Xs _ _ _ _ _ (_ :: _) _)
  k_extra "xs"
set_option maxRecDepth 100000 in
set_option maxHeartbeats 4000000 in
theorem iseof_ok (w : World) (x1 : Int) : CallOk ⟨false, w⟩ 87 [.int x1] 1 3 (.bol (x1 == 0)) := by
  refine' body_ok (b' := false) (d := 0) (u := 0) (xs := [Str.ofString "x"]) (μ := [(Str.ofString "x", .int x1)]) (.inl rfl) ?hf ?hcd ?hb ?hl ?hcell ?hnd ?hne ?hlen ?ha ?hm ?hB ?co ?cg ?ck
  k_extra "body"
  with_unfolding_all (show Xs _ _ _ _ _ (_ :: _) _)
  k_extra "xs"
noncomputable def signS : Str := Str.ofString "()[]:,;+-*/|&<>=.%{}~^@!"
noncomputable def wordS (x : Int) : Str := Txt.item signS (x.fmod 24) ++ Txt.item signS ((x.fdiv 24).fmod 24)
theorem sign_len : signS.length = 24 := by decide +kernel
theorem m24 (x : Int) : 0 ≤ x.fmod 24 ∧ x.fmod 24 < (signS.length : Int) := by
  rw [sign_len]; exact ⟨Int.fmod_nonneg_of_pos _ (by decide), Int.fmod_lt_of_pos _ (by decide)⟩
set_option maxRecDepth 100000 in
set_option maxHeartbeats 4000000 in
theorem word_ok (w : World) (x1 : Int) : CallOk ⟨false, w⟩ 101 [.int x1] 1 3 (.str (wordS x1)) := by
  refine' body_ok (b' := false) (d := 0) (u := 0) (xs := [Str.ofString "x"]) (μ := [(Str.ofString "x", .int x1)]) (.inl rfl) ?hf ?hcd ?hb ?hl ?hcell ?hnd ?hne ?hlen ?ha ?hm ?hB ?co ?cg ?ck
  k_extra "body"
  with_unfolding_all (show Xs _ _ _ _ _ (_ :: _) _)
  k_extra "xs"
  with_reducible apply Xs.retE
  · intro C hz hO
    with_reducible apply Ev.bin
    · with_reducible apply Ev.sitem
      k_extra "ev"; k_extra "ev"; exact (m24 _).1; exact (m24 _).2; decide +kernel
      · intro _ _ _ _; with_unfolding_all rfl
      · intro _ _ _; with_unfolding_all rfl
    · with_reducible apply Ev.sitem
      k_extra "ev"; k_extra "ev"; exact (m24 _).1; exact (m24 _).2; decide +kernel
      · intro _ _ _ _; with_unfolding_all rfl
      · intro _ _ _; with_unfolding_all rfl
    · refine Bin.adds (congrArg Zw.b hz) ?_
      rw [len_item, len_item]; exact Nat.le_of_ble_eq_true (by kernel_rfl)
  · kernel_rfl

local macro_rules | `(tactic| k_extra "un") => `(tactic| (decide +kernel; rfl; ((simp only [pushMu, tgts, List.map_cons, List.map_nil, List.reverse_cons, List.reverse_nil, List.nil_append, List.cons_append]); rfl)))
local macro_rules | `(tactic| k_extra "x1") => `(tactic| first | (((with_reducible apply X1.unS'); (intro C hz hO; k_extra "ev"); k_extra "un"; (intro _; rfl); (intro _; rfl); rfl)) | (((with_reducible apply X1.unT'); (intro C hz hO; k_extra "ev"); k_extra "un"; (intro _; rfl); (intro _; rfl); (intro _; rfl); rfl)))
local macro_rules | `(tactic| k_extra "ev") => `(tactic| first | (((with_reducible apply Ev.own); iterate 3 kernel_rfl)) | (((with_reducible apply Ev.ifeF); k_extra "test"; k_extra "ev"; k_extra "ev")))
local macro_rules | `(tactic| k_extra "muD") => `(tactic| first | ((with_reducible refine lookup_miss ?_ ?_); decide +kernel; k_extra "muD") | exact lookup_hit)
noncomputable def fFrac : Dv → Dv
  | .int a => .flt (oF a)
  | d => d
noncomputable def dcol (c : Int × Int × Int) : Dv := .lst [.int c.1, .int c.2.1, .int c.2.2]
local macro_rules | `(tactic| k_extra "callee") => `(tactic| first | ((with_reducible exact CallOk.at (by assumption) (yiqr_ok _ _ _ _ _))) | ((with_reducible exact CallOk.at (by assumption) (yiq_ok _ _ _ _ _))) | (((with_reducible refine CallOk.at (by assumption) (hsvr_ok _ _ _ _ ?_)); assumption)) | ((with_reducible exact CallOk.at (by assumption) (hsv_ok _ _ _ _ (by assumption)))) | ((with_reducible exact CallOk.at (by assumption) (hlsr_ok _ _ _ _))) | ((with_reducible exact CallOk.at (by assumption) (hls_ok _ _ _ _ (by assumption)))))
set_option maxRecDepth 100000 in
set_option maxHeartbeats 4000000 in
theorem filt_call (w : World) (k a1 a2 a3 : Int) (hk0 : 0 ≤ k) (hk1 : k < 48) (ha1 : 0 ≤ a1 ∧ a1 < 256) (ha2 : 0 ≤ a2 ∧ a2 < 256) (ha3 : 0 ≤ a3 ∧ a3 < 256) (ok : FOk k a1 a2 a3) : CallOk ⟨false, w⟩ 111 [.int k, .lst [.int a1, .int a2, .int a3]] 4 23 (dcol (rnd3 (filtRGB k (oF a1) (oF a2) (oF a3)))) := by
  refine' body_ok (b' := false) (d := 3) (u := 20) (xs := [Str.ofString "k", Str.ofString "octets"]) (μ := [(Str.ofString "k", .int k), (Str.ofString "octets", .lst [.int a1, .int a2, .int a3])]) (.inl rfl) ?hf ?hcd ?hb ?hl ?hcell ?hnd ?hne ?hlen ?ha ?hm ?hB ?co ?cg ?ck
  k_extra "body"
  with_unfolding_all (show Xs _ _ _ _ _ (_ :: _) _)
  have hk2 : 0 ≤ k.fmod 6 := Int.fmod_nonneg_of_pos k (by decide)
  have hk3 : k.fmod 6 < 6 := Int.fmod_lt_of_pos k (by decide)
  have b1 : a1.natAbs < 2 ^ 64 := by omega
  have b2 : a2.natAbs < 2 ^ 64 := by omega
  have b3 : a3.natAbs < 2 ^ 64 := by omega
  have b4 : (k.fmod 6).natAbs < 2 ^ 64 := by omega
  obtain ⟨ok1, ok2, ok3, ⟨f11, f12, f13⟩, ⟨f21, f22, f23⟩, ⟨f31, f32, f33⟩⟩ := ok
  with_reducible apply Xs.next
  · with_reducible apply X1.unL'
    · intro C hz hO
      have hzb : C.z.b = false := congrArg Zw.b hz
      refine' Ev.to (d' := .lst [.flt (oF a1), .flt (oF a2), .flt (oF a3)]) (EvC.z (EvC.comp (cl := []) (f := fFrac) hO (Ev.c ?it hzb) ?l ?el ?clos ?cell ?kind ?names ?x ?s) hzb) ?to
      case it => k_extra "ev"
      case l => exact Nat.le_of_ble_eq_true (by kernel_rfl)
      case el => refine all3 ?_ ?_ ?_ <;> (refine ElE.of hzb fun X fl Ca m => ?_; apply Ev.to; k_extra "ev"; rfl)
      case to => rfl
      case clos => rfl
      case cell => decide
      case kind => rfl
      case names => decide
      case x => rfl
      case s => intro _; rfl
    · decide +kernel
    · rfl
    · (simp only [pushMu, tgts, List.map_cons, List.map_nil]); rfl
    · intro _; rfl
    · intro _; rfl
    · intro _; rfl
    · rfl
  k_extra "xs"
  cases hc : (k.fdiv 12 == 1 || k.fdiv 12 == 2) with
  | true =>
    have h3 : (k.fdiv 12 == 3) = false := by
      cases h3 : (k.fdiv 12 == 3) with
      | false => rfl
      | true => exact (filt_no hc (by simpa using h3)).elim
    with_reducible apply Xs.next
    · refine X1.way true (fun C hz hO => Test.to ?_ hc) ?_
      · k_extra "test"
      · with_unfolding_all (show Xs _ _ _ _ _ (_ :: _) _)
        k_extra "xs"
        k_extra "xs"
        k_extra "xs"
    with_reducible apply Xs.next
    · refine X1.way false (fun C hz hO => Test.to ?_ h3) ?_
      · k_extra "test"
      · exact Xs.nil
    refine Xs.pre (μ := [(Str.ofString "r", .flt (fX k (hlsF (oF a1) (oF a2) (oF a3))).1), (Str.ofString "g", .flt (fX k (hlsF (oF a1) (oF a2) (oF a3))).2.1), (Str.ofString "b", .flt (fX k (hlsF (oF a1) (oF a2) (oF a3))).2.2)]) ?_ (sub_cons (by k_extra "muD") (sub_cons (by k_extra "muD") (sub_cons (by k_extra "muD") sub_nil)))
    with_reducible apply Xs.retE
    · intro C hz hO; k_extra "ev"
    · rw [filt_a hc]; rfl
  | false =>
    cases h3 : (k.fdiv 12 == 3) with
    | true =>
      with_reducible apply Xs.next
      · refine X1.way false (fun C hz hO => Test.to ?_ hc) ?_
        · k_extra "test"
        · with_unfolding_all (show Xs _ _ _ _ _ (_ :: _) _)
          k_extra "xs"
          k_extra "xs"
          k_extra "xs"
      with_reducible apply Xs.next
      · refine X1.way true (fun C hz hO => Test.to ?_ h3) ?_
        · k_extra "test"
        · with_unfolding_all (show Xs _ _ _ _ _ (_ :: _) _)
          k_extra "xs"
          k_extra "xs"
          k_extra "xs"
      refine Xs.pre (μ := [(Str.ofString "r", .flt (fY (fZ k (hsvF (oF a1) (oF a2) (oF a3)))).1), (Str.ofString "g", .flt (fY (fZ k (hsvF (oF a1) (oF a2) (oF a3)))).2.1), (Str.ofString "b", .flt (fY (fZ k (hsvF (oF a1) (oF a2) (oF a3)))).2.2)]) ?_ (sub_cons (by k_extra "muD") (sub_cons (by k_extra "muD") (sub_cons (by k_extra "muD") sub_nil)))
      with_reducible apply Xs.retE
      · intro C hz hO; k_extra "ev"
      · rw [filt_b hc (by simpa using h3)]; rfl
    | false =>
      with_reducible apply Xs.next
      · refine X1.way false (fun C hz hO => Test.to ?_ hc) ?_
        · k_extra "test"
        · with_unfolding_all (show Xs _ _ _ _ _ (_ :: _) _)
          k_extra "xs"
          k_extra "xs"
          k_extra "xs"
      with_reducible apply Xs.next
      · refine X1.way false (fun C hz hO => Test.to ?_ h3) ?_
        · k_extra "test"
        · exact Xs.nil
      refine Xs.pre (μ := [(Str.ofString "r", .flt (fZ k (hsvF (oF a1) (oF a2) (oF a3))).1), (Str.ofString "g", .flt (fZ k (hsvF (oF a1) (oF a2) (oF a3))).2.1), (Str.ofString "b", .flt (fZ k (hsvF (oF a1) (oF a2) (oF a3))).2.2)]) ?_ (sub_cons (by k_extra "muD") (sub_cons (by k_extra "muD") (sub_cons (by k_extra "muD") sub_nil)))
      with_reducible apply Xs.retE
      · intro C hz hO; k_extra "ev"
      · rw [filt_c hc (by simpa using h3)]; rfl

section S4
local macro_rules | `(tactic| k_extra "ev") => `(tactic| ((with_reducible apply Ev.item); assumption; k_extra "ev"; k_extra "ev"; decide; decide; rfl; (intro _ _ _; with_unfolding_all rfl)))
local macro_rules | `(tactic| k_extra "bin") => `(tactic| first | (with_reducible exact Bin.powi (by decide) (by decide)) | ((with_reducible refine Bin.muli ?_); exact IntMulOk.of_left (by decide +kernel)))
local macro_rules | `(tactic| k_extra "evw") => `(tactic| first
  | (with_reducible exact EvW.ci)
  | ((with_reducible apply EvW.bin); k_extra "evw"; k_extra "ev"; k_extra "bin"))
noncomputable def fRnd : Dv → Dv
  | .flt x => .int (rt9 x)
  | d => d
noncomputable def fOct : Dv → Dv
  | .int a => .int ((2 * 10 ^ Int.toNat 9 * a + 255).fdiv 510)
  | d => d
theorem EvW.to {C : Cx} {sc : Scope} {env : Env} {Γ : Gx} {e : Expr} {d d' : Dv} (h : EvW C sc env Γ e d) (e' : d = d') : EvW C sc env Γ e d' := e' ▸ h
theorem EvD.to {C : Cx} {sc : Scope} {env : Env} {Γ : Gx} {e : Expr} {d d' : Dv} (h : EvD C sc env Γ e d) (e' : d = d') : EvD C sc env Γ e d' := e' ▸ h
theorem EvC.to {C : Cx} {sc : Scope} {env : Env} {Γ : Gx} {e : Expr} {d d' : Dv} (h : EvC C sc env Γ e d) (e' : d = d') : EvC C sc env Γ e d' := e' ▸ h
theorem TestC.to {C : Cx} {sc : Scope} {env : Env} {Γ : Gx} {e : Expr} {d d' : Bool} (h : TestC C sc env Γ e d) (e' : d = d') : TestC C sc env Γ e d' := e' ▸ h
set_option maxRecDepth 100000 in
set_option maxHeartbeats 4000000 in
theorem fine_call (w : World) (a1 a2 a3 : Int) (ha1 : 0 ≤ a1 ∧ a1 < 256) (ha2 : 0 ≤ a2 ∧ a2 < 256) (ha3 : 0 ≤ a3 ∧ a3 < 256) (ok : FineOk a1 a2 a3) : CallOk ⟨false, w⟩ 123 [.lst [.int a1, .int a2, .int a3]] 4 103 (.bol true) := by
  refine' body_ok (b' := true) (d := 3) (u := 100) (xs := [Str.ofString "octets"]) (μ := [(Str.ofString "octets", .lst [.int a1, .int a2, .int a3])]) (.inr rfl) ?hf ?hcd ?hb ?hl ?hcell ?hnd ?hne ?hlen ?ha ?hm ?hB ?co ?cg ?ck
  k_extra "body"
  with_unfolding_all (show Xs _ _ _ _ _ (_ :: _) _)
  have b1 : a1.natAbs < 2 ^ 64 := by omega
  have b2 : a2.natAbs < 2 ^ 64 := by omega
  have b3 : a3.natAbs < 2 ^ 64 := by omega
  k_extra "xs"
  refine Xs.weak2 (fun C hz hO => ?_) (fun C hz hO => ?_)
  · obtain ⟨f1, f2, f3, e1, e2, e3, up, dn⟩ := ok
    refine TestC.to (TestC.ne (ns := [rt9 (yz a1 a2 a3).1, rt9 (yz a1 a2 a3).2.1, rt9 (yz a1 a2 a3).2.2]) (ms := [(2 * 10 ^ Int.toNat 9 * a1 + 255).fdiv 510, (2 * 10 ^ Int.toNat 9 * a2 + 255).fdiv 510, (2 * 10 ^ Int.toNat 9 * a3 + 255).fdiv 510]) hO (by decide) ?_ ?_) ?_
    · refine' EvD.to (EvD.compU (cl := []) (f := fRnd) (ds := [.flt (yz a1 a2 a3).1, .flt (yz a1 a2 a3).2.1, .flt (yz a1 a2 a3).2.2]) hO ?qit ?ql ?qel ?qclos ?qcell ?qkind ?qnames ?qx ?qs) rfl
      case qit => exact Ev.toD (Ev.to (d := .tup [.flt (yiqr (yiqF (oF a1) (oF a2) (oF a3)).1 (yiqF (oF a1) (oF a2) (oF a3)).2.1 (yiqF (oF a1) (oF a2) (oF a3)).2.2).1, .flt (yiqr (yiqF (oF a1) (oF a2) (oF a3)).1 (yiqF (oF a1) (oF a2) (oF a3)).2.1 (yiqF (oF a1) (oF a2) (oF a3)).2.2).2.1, .flt (yiqr (yiqF (oF a1) (oF a2) (oF a3)).1 (yiqF (oF a1) (oF a2) (oF a3)).2.1 (yiqF (oF a1) (oF a2) (oF a3)).2.2).2.2]) (by k_extra "ev") (by unfold yz yq; rfl))
      case ql => exact Nat.le_of_ble_eq_true (by kernel_rfl)
      case qel =>
        refine all3 (fun X fl Ca m => ?_) (fun X fl Ca m => ?_) (fun X fl Ca m => ?_)
        · refine EvW.to (EvW.callB (EvC.built hO (by k_is) boot_round (by decide +kernel) (by kernel_rfl) (by kernel_rfl) (by kernel_rfl)) (EvsW.cons ?_ Evs.nil) (callRound f1)) rfl
          k_extra "evw"
        · refine EvW.to (EvW.callB (EvC.built hO (by k_is) boot_round (by decide +kernel) (by kernel_rfl) (by kernel_rfl) (by kernel_rfl)) (EvsW.cons ?_ Evs.nil) (callRound f2)) rfl
          k_extra "evw"
        · refine EvW.to (EvW.callB (EvC.built hO (by k_is) boot_round (by decide +kernel) (by kernel_rfl) (by kernel_rfl) (by kernel_rfl)) (EvsW.cons ?_ Evs.nil) (callRound f3)) rfl
          k_extra "evw"
      case qclos => rfl
      case qcell => decide
      case qkind => rfl
      case qnames => decide
      case qx => rfl
      case qs => intro _; rfl
    · refine' EvC.to (EvC.comp (cl := []) (f := fOct) (ds := [.int a1, .int a2, .int a3]) hO ?rit ?rl ?rel ?rclos ?rcell ?rkind ?rnames ?rx ?rs) rfl
      case rit => (with_reducible apply EvC.loc); (k_extra "mu"); (decide +kernel); kernel_rfl; kernel_rfl
      case rl => exact Nat.le_of_ble_eq_true (by kernel_rfl)
      case rel =>
        refine all3 (fun X fl Ca m => ?_) (fun X fl Ca m => ?_) (fun X fl Ca m => ?_)
        · apply EvW.to
          k_extra "evw"
          rfl
        · apply EvW.to
          k_extra "evw"
          rfl
        · apply EvW.to
          k_extra "evw"
          rfl
      case rclos => rfl
      case rcell => decide
      case rkind => rfl
      case rnames => decide
      case rx => rfl
      case rs => intro _; rfl
    · rw [e1, e2, e3]; simp
  · obtain ⟨f1, f2, f3, e1, e2, e3, up, dn⟩ := ok
    have hw : C.z.b = true := congrArg Zw.b (by assumption : _ = Zw.mk true _)
    (with_reducible apply EvW.and)
    · (with_reducible apply EvW.cmp)
      · apply EvW.to
        · (with_reducible apply EvW.callT)
          · (with_reducible exact EvC.name_B (by assumption) (by k_is) boot_list (by kernel_rfl) (by decide +kernel) (by kernel_rfl) (by kernel_rfl))
          · (with_reducible apply EvsW.cons)
            · (with_reducible apply EvW.call)
              · assumption
              · k_is
              · k_is
              · (with_reducible apply EvsW.cons)
                · (with_reducible apply EvC.bin)
                  · (with_reducible apply EvC.loc); (k_extra "mu"); (decide +kernel); kernel_rfl; kernel_rfl
                  · k_extra "evw"
                  · k_extra "bin"
                · k_extra "evs"
                · kernel_rfl
              · k_extra "callee"
              all_goals first | decide | kernel_rfl
            · exact Evs.nil
            · kernel_rfl
          · exact callList hO (by exact Nat.le_of_ble_eq_true (by kernel_rfl))
          all_goals kernel_rfl
        · exact congrArg (fun p : UInt64 × UInt64 × UInt64 => Dv.lst [.flt p.1, .flt p.2.1, .flt p.2.2]) up
      · k_extra "ev"
      · exact Cmp.eqF hO hw (by k_is) (by decide +kernel) (by decide +kernel) (by decide +kernel) (by decide)
      · kernel_rfl
    · (with_reducible apply Ev.cmp)
      · apply Ev.to
        · (with_reducible apply Ev.callT)
          · (with_reducible exact Ev.name_B (by assumption) (by k_is) boot_list (by kernel_rfl) (by decide +kernel) (by kernel_rfl) (by kernel_rfl))
          · (with_reducible apply Evs.cons)
            · (with_reducible apply Ev.call)
              · assumption
              · k_is
              · k_is
              · (with_reducible apply Evs.cons)
                · (with_reducible apply Ev.bin)
                  · k_extra "ev"
                  · k_extra "ev"
                  · k_extra "bin"
                · k_extra "evs"
                · kernel_rfl
              · k_extra "callee"
              all_goals first | decide | kernel_rfl
            · exact Evs.nil
            · kernel_rfl
          · exact callList hO (by exact Nat.le_of_ble_eq_true (by kernel_rfl))
          all_goals kernel_rfl
        · exact congrArg (fun p : UInt64 × UInt64 × UInt64 => Dv.lst [.flt p.1, .flt p.2.1, .flt p.2.2]) dn
      · k_extra "ev"
      · exact Cmp.eqF hO hw (by k_is) (by decide +kernel) (by decide +kernel) (by decide +kernel) (by decide)
      · kernel_rfl

end S4

section S5
local macro_rules | `(tactic| k_extra "ev") => `(tactic| first | (((with_reducible apply Ev.call); assumption; k_is; k_is; k_extra "evs"; k_extra "callee"; (first | assumption | omega); (first | assumption | omega); iterate 8 kernel_rfl)) | (((with_reducible apply Ev.item); assumption; k_extra "ev"; k_extra "ev"; (with_reducible assumption); (with_reducible assumption); (with_reducible assumption); (intro _ _ _; with_unfolding_all rfl))) | ((with_reducible exact Ev.cb)))
noncomputable def RunE (w : World) (rows : List (List Int)) (q : Int) (c c' : Col) (d u : Nat) : Prop := CallOk ⟨false, w⟩ 118 [drows rows, .int q, dcol c] d u (dcol c')
theorem take_step (R : Int → Col → Col) (c0 : Col) {body : List Int} {i : Nat} {x : Int} (h : body[i]? = some x) : (body.take (i + 1)).foldl (stepC R) c0 = stepC R ((body.take i).foldl (stepC R) c0) x := by
  rw [List.take_add_one, h]; simp
theorem foldl_in {R : Int → Col → Col} {body : List Int} (hs : ∀ n ∈ body, ∀ c, InR c → InR (stepC R c n)) : ∀ {c : Col}, InR c → InR (body.foldl (stepC R) c) := by
  induction body with
  | nil => exact fun h => h
  | cons n body ih => exact fun h => ih (fun m hm => hs m (.tail _ hm)) (hs n (.head _) _ h)
local macro_rules | `(tactic| k_extra "callee") => `(tactic| first | ((with_reducible exact CallOk.at (by assumption) (iseof_ok _ _))) | ((with_reducible exact CallOk.at (by assumption) (isnon_ok _ _))) | ((with_reducible exact CallOk.at (by assumption) (isterm_ok _ _))))
set_option maxRecDepth 100000 in
set_option maxHeartbeats 4000000 in
theorem run_step (w : World) (rows : List (List Int)) (p : Nat) (hp : (p : Int) < 2 ^ 63) (body : List Int) (hrow : rows[p]? = some (body ++ [0])) (R : Int → Col → Col) (d u : Nat) (hd : 4 ≤ d) (hu : 64 ≤ u) (hbody : ∀ n ∈ body, n ≠ 0)
    (hF : ∀ n ∈ body, n < 256 → ∀ c : Col, InR c → 0 ≤ n - 7 ∧ n - 7 < 48 ∧ FOk (n - 7) c.1 c.2.1 c.2.2) (hR : ∀ n ∈ body, ¬ n < 256 → ∀ c, InR c → RunE w rows (n - 256) c (R (n - 256) c) d u) (hs : ∀ n ∈ body, ∀ c, InR c → InR (stepC R c n)) (c : Col) (hc : InR c) :
    RunE w rows (p : Int) c (body.foldl (stepC R) c) (d + 1) (u + 3) := by
  unfold RunE
  refine' body_ok (b' := false) (d := d) (u := u) (xs := [Str.ofString "rows", Str.ofString "place", Str.ofString "octets"]) (μ := [(Str.ofString "rows", drows rows), (Str.ofString "place", .int (p : Int)), (Str.ofString "octets", dcol c)]) (.inl rfl) ?hf ?hcd ?hb ?hl ?hcell ?hnd ?hne ?hlen ?ha ?hm ?hB ?co ?cg ?ck
  k_extra "body"
  with_unfolding_all (show Xs _ _ _ _ _ (_ :: _) _)
  refine Xs.ret ?_
  have hp0 : (0 : Int) ≤ (p : Int) := Int.natCast_nonneg p
  have hrow' : (rows.map dints)[((p : Int)).toNat]? = some (dints (body ++ [0])) := by rw [Int.toNat_natCast, List.getElem?_map, hrow]; rfl
  have hdl : ((body ++ [0]).map Dv.int).length = body.length + 1 := by simp
  refine X1.for rfl (ds := (body ++ [0]).map .int) (fun i => [(Str.ofString "rows", drows rows), (Str.ofString "place", .int (p : Int)), (Str.ofString "octets", dcol ((body.take i).foldl (stepC R) c))]) (fun i => i ≤ body.length) (fun C hz hO => ?_) (Nat.zero_le _) (fun _ _ h => h) (fun i dv hdv hi => ?_) (fun h => absurd (hdl ▸ h) (Nat.not_succ_le_self _)) (by decide +kernel) (fun _ _ => rfl) rfl
  · k_extra "ev"
  have hci : InR ((body.take i).foldl (stepC R) c) := foldl_in (fun n hn => hs n (List.mem_of_mem_take hn)) hc
  generalize hcv : (body.take i).foldl (stepC R) c = ci at *
  rcases Nat.lt_or_ge i body.length with hlt | hge
  · left
    obtain ⟨n, hn⟩ : ∃ n, body[i]? = some n := ⟨_, List.getElem?_eq_getElem hlt⟩
    have hdv' : dv = .int n := by
      rw [List.getElem?_map, List.getElem?_append_left hlt, hn] at hdv; simpa using hdv.symm
    subst hdv'
    have hmem : n ∈ body := List.mem_of_getElem? hn
    refine ⟨hlt, ?_⟩
    rw [take_step R c hn, hcv]
    have hn0 := hbody n hmem
    have hge' : decide (255 < n) = decide (256 ≤ n) := decide_eq_decide.mpr (by omega)
    k_extra "xs"
    refine Xs.next (X1.way false (fun C hz hO => Test.to (Test.or3 (c₁ := false) (c₂ := false) (c₃ := n == 0) ?ta (fun _ => ?tb) (fun _ _ => ?tc)) ?te) Xs.nil) ?_
    case ta =>
      with_reducible apply Test.cmp
      · k_extra "ev"
      · apply Ev.to
        · k_extra "ev"
        · exact congrArg (fun b => Dv.lst [.bol (decide (n < 256)), .bol b, .bol (n == 0)]) hge'
      · exact Cmp.neB hO hu
      · kernel_rfl
    case tb =>
      with_reducible apply Test.cmp
      · k_extra "ev"
      · k_extra "ev"
      · exact Cmp.eqLen hO (Nat.succ_ne_zero _) hu
      · kernel_rfl
    case tc => k_extra "test"
    case te => simpa using hn0
    refine Xs.sub (Xs.next (X1.assign (dv := dcol (stepC R ci n)) (fun C hz hO => Ev.ife (c := decide (n < 256)) ?xt ?xa ?xb) (by decide +kernel) (fun _ => by kernel_rfl) (by kernel_rfl)) Xs.nil) (sub_cons ?xm1 (sub_cons ?xm2 (sub_cons ?xm3 sub_nil)))
    case xt => k_extra "test"
    case xa =>
      intro hlt'
      have hlt' := of_decide_eq_true hlt'
      obtain ⟨k0, k1, hok⟩ := hF n hmem hlt' ci hci
      refine Ev.to ?_ (congrArg dcol (if_pos hlt').symm)
      with_reducible apply Ev.call
      · assumption
      · k_is
      · k_is
      · k_extra "evs"
      · exact CallOk.at hz (filt_call w (n - 7) ci.1 ci.2.1 ci.2.2 k0 k1 hci.1 hci.2.1 hci.2.2 hok)
      · exact hd
      · omega
      all_goals kernel_rfl
    case xb =>
      intro hge'
      have hge' := of_decide_eq_false hge'
      refine Ev.to ?_ (congrArg dcol (if_neg hge').symm)
      with_reducible apply Ev.call
      · assumption
      · k_is
      · k_is
      · k_extra "evs"
      · exact CallOk.at hz (hR n hmem hge' ci hci)
      · exact Nat.le_refl _
      · exact Nat.le_refl _
      all_goals kernel_rfl
    all_goals k_extra "mu"
  · right
    have hie : i = body.length := Nat.le_antisymm hi hge
    have hdv' : dv = .int 0 := by
      rw [List.getElem?_map, hie, List.getElem?_append_right (Nat.le_refl _), Nat.sub_self] at hdv; simpa using hdv.symm
    subst hdv'
    refine ⟨_, rfl, ?_⟩
    have he : body.foldl (stepC R) c = ci := by rw [← hcv, hie, List.take_length]
    rw [he]
    k_extra "xs"
    refine Xs.ret (X1.way true (fun C hz hO => Test.to (Test.or3 (c₁ := false) (c₂ := false) (c₃ := true) ?ua (fun _ => ?ub) (fun _ _ => ?uc)) rfl) ?_)
    case ua =>
      with_reducible apply Test.cmp
      · k_extra "ev"
      · apply Ev.to
        · k_extra "ev"
        · rfl
      · exact Cmp.neB hO hu
      · kernel_rfl
    case ub =>
      with_reducible apply Test.cmp
      · k_extra "ev"
      · k_extra "ev"
      · exact Cmp.eqLen hO (Nat.succ_ne_zero _) hu
      · kernel_rfl
    case uc => (apply Test.to; k_extra "test"; rfl)
    with_unfolding_all (show Xs _ _ _ _ _ (_ :: _) _)
    refine Xs.retE (fun C hz hO => Ev.ife (c := true) (Test.to (Test.and2 (c₁ := true) (c₂ := true) ?va (fun _ => ?vb)) rfl) (fun _ => ?vc) (fun h => nomatch h)) rfl
    case va =>
      with_reducible apply Test.cmp
      · k_extra "ev"
      · apply Ev.to
        · k_extra "ev"
        · rfl
      · exact Cmp.eqB hO hu
      · kernel_rfl
    case vb => (apply Test.to; k_extra "test"; rfl)
    case vc => k_extra "ev"

end S5

section S7
local macro_rules | `(tactic| k_extra "bin") => `(tactic| ((with_reducible refine Bin.muli ?_); first | exact IntMulOk.of_right (by decide +kernel) | assumption))
local macro_rules | `(tactic| k_extra "un0") => `(tactic| (decide +kernel; rfl; ((simp only [pushMu, tgts, List.map_cons, List.map_nil]); rfl); (intro _; rfl); (intro _; rfl); (intro _; rfl); rfl))
noncomputable def dnet (s : Net) : Dv := .lst [.int s.1, .int s.2.1, .int s.2.2]
noncomputable def netsOf (rows : List (List Int)) : List Net := rows.foldl (fun ns r => ns ++ [netRow ns r]) []
theorem netsOf_len (rows : List (List Int)) : (netsOf rows).length = rows.length := by
  have key : ∀ (rows : List (List Int)) (ns : List Net), (rows.foldl (fun ns r => ns ++ [netRow ns r]) ns).length = ns.length + rows.length := by
    intro rows
    induction rows with
    | nil => exact fun _ => rfl
    | cons r rows ih => intro ns; rw [List.foldl_cons, ih, List.length_append, List.length_cons, List.length_cons, List.length_nil]; omega
  rw [netsOf, key]; simp
theorem netsOf_step {rows : List (List Int)} {i : Nat} {r : List Int} (h : rows[i]? = some r) : netsOf (rows.take (i + 1)) = netsOf (rows.take i) ++ [netRow (netsOf (rows.take i)) r] := by
  rw [List.take_add_one, h]; simp [netsOf]
/-- rows whose numbers are small or call an earlier row -/
noncomputable def RowsN (rows : List (List Int)) : Prop := ∀ (i : Nat) (r : List Int), rows[i]? = some r → ∀ k ∈ r, k < 48 + (i : Int)
theorem netOn_in {nets : List Net} (hn : ∀ s ∈ nets, InN s) {k : Int} (hk : k < 48 + (nets.length : Int)) : (netOn nets k).2.1 = 1 ∨ (netOn nets k).2.1 = -1 := by
  by_cases h : 47 < k
  · unfold netOn
    rw [if_pos h]
    have hlt : (k - 48).toNat < nets.length := by omega
    rw [List.getD_eq_getElem?_getD, List.getElem?_eq_getElem hlt]
    exact (hn _ (List.getElem_mem hlt)).2.1
  · exact netOn_way (by omega)
theorem netFold_in {nets : List Net} (hn : ∀ s ∈ nets, InN s) : ∀ {ks : List Int} {s : Net}, (∀ k ∈ ks, k < 48 + (nets.length : Int)) → InN s → InN (ks.foldl (netStep nets) s)
  | [], _, _, h => h
  | k :: ks, s, hk, h => netFold_in (ks := ks) hn (fun x hx => hk x (.tail _ hx)) (netStep_in h (netOn_in hn (hk k (.head _))))
theorem netsOf_in {rows : List (List Int)} (h : RowsN rows) : ∀ i, i ≤ rows.length → ∀ s ∈ netsOf (rows.take i), InN s
  | 0, _ => fun s hs => by simp [netsOf] at hs
  | i + 1, hi => by
    obtain ⟨r, hr⟩ : ∃ r, rows[i]? = some r := ⟨_, List.getElem?_eq_getElem hi⟩
    have ih := netsOf_in h i (Nat.le_of_succ_le hi)
    rw [netsOf_step hr]
    intro s hs
    rcases List.mem_append.mp hs with hs | hs
    · exact ih s hs
    · rw [List.mem_singleton.mp hs]
      have hl : (netsOf (rows.take i)).length = i := by rw [netsOf_len, List.length_take]; omega
      exact netFold_in ih (fun k hk => by rw [hl]; exact h i r hr k hk) inN0
theorem mul6 {x y : Int} (h0 : 0 ≤ y) (h1 : y < 6) : IntMulOk x y := by
  have : y = 0 ∨ y = 1 ∨ y = 2 ∨ y = 3 ∨ y = 4 ∨ y = 5 := by omega
  rcases this with rfl | rfl | rfl | rfl | rfl | rfl <;> exact .of_right (by decide)
theorem mul1 {x y : Int} (h : y = 1 ∨ y = -1) : IntMulOk x y := by rcases h with rfl | rfl <;> exact .of_right (by decide)
theorem dnet_at {nets : List Net} {k : Int} (h : 47 < k) (hk : k < 48 + (nets.length : Int)) : (nets.map dnet)[(k - 48).toNat]? = some (dnet (netOn nets k)) := by
  have hlt : (k - 48).toNat < nets.length := by omega
  unfold netOn
  rw [if_pos h, List.getElem?_map, List.getD_eq_getElem?_getD, List.getElem?_eq_getElem hlt]; rfl
set_option maxRecDepth 100000 in
set_option maxHeartbeats 4000000 in
theorem nets_call (w : World) (rows : List (List Int)) (hr : RowsN rows) (hlen : rows.length ≤ 1000) : CallOk ⟨false, w⟩ 130 [drows rows] 1 3 (.lst ((netsOf rows).map dnet)) := by
  refine' body_ok (b' := false) (d := 0) (u := 0) (xs := [Str.ofString "rows"]) (μ := [(Str.ofString "rows", drows rows)]) (.inl rfl) ?hf ?hcd ?hb ?hl ?hcell ?hnd ?hne ?hlen ?ha ?hm ?hB ?co ?cg ?ck
  k_extra "body"
  with_unfolding_all (show Xs _ _ _ _ _ (_ :: _) _)
  k_extra "xs"
  refine Xs.next (μ' := [(Str.ofString "nets", .lst ((netsOf rows).map dnet))]) ?_ (Xs.retE (fun C hz hO => by k_extra "ev") rfl)
  have hdl : (rows.map dints).length = rows.length := List.length_map ..
  refine X1.for rfl (ds := rows.map dints) (fun i => [(Str.ofString "nets", .lst ((netsOf (rows.take i)).map dnet))]) (fun i => i ≤ rows.length) (fun C hz hO => ?_) (Nat.zero_le _) (sub_cons ?w1 sub_nil) (fun i dv hdv hi => .inl ?_) (fun _ => by rw [hdl, List.take_length]) (by decide +kernel) (fun _ _ => rfl) rfl
  case w1 => rfl
  · k_extra "ev"
  have hlt : i < rows.length := by
    rcases Nat.lt_or_ge i rows.length with h | h
    · exact h
    · rw [List.getElem?_eq_none (by rw [hdl]; exact h)] at hdv; cases hdv
  refine ⟨hlt, ?_⟩
  obtain ⟨r, hri⟩ : ∃ r, rows[i]? = some r := ⟨_, List.getElem?_eq_getElem hlt⟩
  have hdv' : dv = dints r := by rw [List.getElem?_map, hri] at hdv; simpa using hdv.symm
  subst hdv'
  have hin := netsOf_in hr i hi
  have hl : (netsOf (rows.take i)).length = i := by rw [netsOf_len, List.length_take]; omega
  have hks := hr i r hri
  rw [netsOf_step hri]
  generalize hnets : netsOf (rows.take i) = nets at *
  rw [← hl] at hks
  have hl10 : nets.length ≤ 1000 := by omega
  clear hnets hri hl hi hlt hdv hdl hr
  k_extra "xs"
  refine Xs.next (μ' := [(Str.ofString "nets", .lst (nets.map dnet)), (Str.ofString "turn", .int (netRow nets r).1), (Str.ofString "side", .int (netRow nets r).2.1), (Str.ofString "dark", .int (netRow nets r).2.2)]) ?_ ?_
  · refine X1.for rfl (ds := r.map .int) (fun j => [(Str.ofString "nets", .lst (nets.map dnet)), (Str.ofString "turn", .int ((r.take j).foldl (netStep nets) (0, 1, 0)).1), (Str.ofString "side", .int ((r.take j).foldl (netStep nets) (0, 1, 0)).2.1), (Str.ofString "dark", .int ((r.take j).foldl (netStep nets) (0, 1, 0)).2.2)]) (fun _ => True) (fun C hz hO => ?_) trivial (sub_cons ?v1 (sub_cons ?v2 (sub_cons ?v3 (sub_cons ?v4 sub_nil)))) (fun j dv hdv _ => .inl ⟨trivial, ?_⟩) (fun _ => by rw [List.length_map, List.take_length]; rfl) (by decide +kernel) (fun _ _ => rfl) rfl
    case v1 => k_extra "muD"
    case v2 => k_extra "muD"
    case v3 => k_extra "muD"
    case v4 => k_extra "muD"
    · k_extra "ev"
    obtain ⟨k, hk, hdk⟩ : ∃ k, r[j]? = some k ∧ dv = .int k := by
      rw [List.getElem?_map] at hdv
      cases h : r[j]? with
      | none => rw [h] at hdv; cases hdv
      | some k => rw [h] at hdv; exact ⟨k, rfl, by simpa using hdv.symm⟩
    subst hdk
    have hst := netFold_in (ks := r.take j) hin (fun x hx => hks x (List.mem_of_mem_take hx)) inN0
    rw [take_netStep nets _ hk]
    generalize (r.take j).foldl (netStep nets) (0, 1, 0) = st at *
    have hkl := hks k (List.mem_of_getElem? hk)
    have m1 := mul6 (x := (netOn nets k).2.1) hst.1.1 hst.1.2
    have m2 := mul1 (x := (netOn nets k).2.1) hst.2.1
    clear hin hks hdv
    refine Xs.sub (μ' := [(Str.ofString "turn", .int (netStep nets st k).1), (Str.ofString "side", .int (netStep nets st k).2.1), (Str.ofString "dark", .int (netStep nets st k).2.2), (Str.ofString "nets", .lst (nets.map dnet))]) ?_ (sub_cons ?u1 (sub_cons ?u2 (sub_cons ?u3 (sub_cons ?u4 sub_nil))))
    case u1 => k_extra "muD"
    case u2 => k_extra "muD"
    case u3 => k_extra "muD"
    case u4 => k_extra "muD"
    refine Xs.next (X1.unL' (ds := [.int (netOn nets k).1, .int (netOn nets k).2.1, .int (netOn nets k).2.2]) (fun C hz hO => Ev.ife (c := decide (47 < k)) ?xt (fun h => ?xa) (fun h => ?xb)) (by decide +kernel) rfl (by simp only [pushMu, tgts, List.map_cons, List.map_nil]; rfl) (fun _ => rfl) (fun _ => rfl) (fun _ => rfl) rfl) ?_
    case xt => k_extra "test"
    case xa =>
      have h := of_decide_eq_true h
      have hat := dnet_at h hkl
      have h0 : 0 ≤ k - 48 := by omega
      have h1 : k - 48 < 2 ^ 63 := by omega
      refine Ev.item hO ?x1 ?x2 h0 h1 hat (fun _ _ _ => by with_unfolding_all rfl)
      case x1 => k_extra "ev"
      case x2 => k_extra "ev"
    case xb =>
      have h := of_decide_eq_false h
      rw [netOn_lt (by omega)]
      refine Ev.to (d := .lst [.int (k + k.fdiv 36 * 3), .int (1 - (k.fdiv 6).fmod 2 * 2), .int (k.fdiv 24)]) ?_ rfl
      k_extra "ev"
    refine' Xs.sub (Xs.next ?x3 Xs.nil) (sub_cons ?u5 (sub_cons ?u6 (sub_cons ?u7 (sub_cons ?u8 sub_nil))))
    case x3 => k_extra "x1"
    case u5 => k_extra "muD"
    case u6 => k_extra "muD"
    case u7 => k_extra "muD"
    case u8 => k_extra "muD"
  · refine Xs.sub (Xs.next (X1.assign (dv := .lst ((nets ++ [netRow nets r]).map dnet)) (fun C hz hO => Ev.to (Ev.bin (d₁ := .lst (nets.map dnet)) (d₂ := .lst [.lst [.int (netRow nets r).1, .int (netRow nets r).2.1, .int (netRow nets r).2.2]]) ?y1 ?y2 (Bin.addl hO ?y3)) ?y4) (by decide +kernel) (fun _ => by kernel_rfl) (by kernel_rfl)) Xs.nil) (sub_cons ?y5 sub_nil)
    case y1 => k_extra "ev"
    case y2 => k_extra "ev"
    case y3 => rw [List.length_map, sizeLine_eq]; simp only [List.length_cons, List.length_nil]; omega
    case y4 => rw [List.map_append]; rfl
    case y5 => k_extra "mu"

end S7

local macro_rules | `(tactic| k_extra "bodyC") => `(tactic| (
  (case hf => intro P; k_is); (case hcd => intro P; k_is); (case co => rfl); (case cg => rfl); (case ck => rfl);
  (case hb => intro s; first | exact len3 fun _ _ _ => BindsTo.of_eq rfl | exact len2 fun _ _ => BindsTo.of_eq rfl | exact len1 fun _ => BindsTo.of_eq rfl);
  (case hx => decide +kernel); (case hcn => decide +kernel); (case hnd => decide +kernel); (case hlen => rfl); (case hm => rfl)))
local macro_rules | `(tactic| k_extra "cv") => `(tactic| first | ((with_reducible refine callMaxL (by assumption) ?_); k_extra "zb") | ((with_reducible refine callMinL (by assumption) ?_); k_extra "zb"))
local macro_rules | `(tactic| k_extra "ev") => `(tactic| first | (((with_reducible apply Ev.capC); k_extra "mu"; decide +kernel; rfl; iterate 3 kernel_rfl)) | (((with_reducible apply Ev.cell); k_extra "mu"; decide +kernel; kernel_rfl; kernel_rfl)) | (((with_reducible apply Ev.item); assumption; k_extra "ev"; k_extra "ev"; decide; decide; rfl; (intro _ _ _; with_unfolding_all rfl))))
local macro_rules | `(tactic| k_extra "nb") => `(tactic| decide)
local macro_rules | `(tactic| k_extra "bin") => `(tactic| ((with_reducible refine Bin.muli ?_); first | exact IntMulOk.of_right (by decide +kernel) | assumption))
theorem dmul {d x : Int} (h : d = 0 ∨ d = 1) : IntMulOk d x := by rcases h with rfl | rfl <;> exact .of_left (by decide)
set_option maxRecDepth 100000 in
set_option maxHeartbeats 4000000 in
theorem deed_call (w : World) (d1 d2 d3 : Int) (h1 : 0 ≤ d1 ∧ d1 < 6) (h3 : d3 = 0 ∨ d3 = 1) (a1 a2 a3 : Int) : CallOk ⟨false, w⟩ 135 [.lst [.int d1, .int d2, .int d3], .lst [.int a1, .int a2, .int a3]] 1 3 (dints (deedL d1 d2 d3 a1 a2 a3)) := by
  refine' bodyC_ok (d := 0) (u := 0) (xs := [Str.ofString "net", Str.ofString "octets"]) (μ := [(Str.ofString "net", .lst [.int d1, .int d2, .int d3]), (Str.ofString "octets", .lst [.int a1, .int a2, .int a3])]) ?hf ?hcd ?hb ?hx ?hcn ?hnd ?hlen ?hm ?hB ?co ?cg ?ck
  k_extra "bodyC"
  with_unfolding_all (show Xs _ _ _ _ _ (_ :: _) _)
  with_reducible apply Xs.next
  · with_reducible apply X1.unL'
    · intro C hz hO; k_extra "ev"
    · decide +kernel
    · rfl
    · (simp only [pushMu, tgts, List.map_cons, List.map_nil]); rfl
    · intro _; rfl
    · intro _; rfl
    · intro _; rfl
    · rfl
  k_extra "xs"
  generalize hb : mxI a1 a2 a3 + mnI a1 a2 a3 = both
  refine Xs.next (X1.assign (dv := dints (if d2 = 1 then [a1, a2, a3] else [a1, a3, a2])) (fun C hz hO => Ev.ife (c := d2 == 1) ?xt (fun h => ?xa) (fun h => ?xb)) (by decide +kernel) (fun _ => by kernel_rfl) (by kernel_rfl)) ?_
  case xt => k_extra "test"
  case xa =>
    rw [if_pos (by simpa using h)]
    refine Ev.to (d := .lst [.int a1, .int a2, .int a3]) ?_ rfl
    k_extra "ev"
  case xb =>
    rw [if_neg (by simpa using h)]
    refine Ev.to (d := .lst [.int a1, .int a3, .int a2]) ?_ rfl
    k_extra "ev"
  have hl : (if d2 = 1 then [a1, a2, a3] else [a1, a3, a2]).length = 3 := by split <;> rfl
  have hdl : deedL d1 d2 d3 a1 a2 a3 = deedE d1 d3 both (deedR d1 both (if d2 = 1 then [a1, a2, a3] else [a1, a3, a2])) := by rw [← hb]; rfl
  rw [hdl]
  generalize (if d2 = 1 then [a1, a2, a3] else [a1, a3, a2]) = r at *
  have hs3 : (3 : Nat) ≤ sizeLine := Nat.le_of_ble_eq_true (by kernel_rfl)
  refine Xs.next (X1.assign (dv := dints (deedR d1 both r)) (fun C hz hO => Ev.ife (c := d1.fmod 2 == 1) ?yt (fun h => ?ya) (fun h => ?yb)) (by decide +kernel) (fun _ => by kernel_rfl) (by kernel_rfl)) ?_
  case yt => k_extra "test"
  case ya =>
    have hzb : C.z.b = false := congrArg Zw.b hz
    refine Ev.to ?_ (congrArg dints (if_pos (by simpa using h)).symm)
    refine' Ev.compI hO hzb ?yit ?yl ?yclos ?yel ?ycell ?ykind ?ynames ?yx ?ys
    case yit => k_extra "ev"
    case yl => rw [hl]; exact hs3
    case yclos => rfl
    case ycell => decide
    case ykind => rfl
    case ynames => decide
    case yx => rfl
    case ys => intro _; rfl
    case yel => intro n _ X fl Ca m; k_extra "ev"
  case yb =>
    refine Ev.to ?_ (congrArg dints (if_neg (by simpa using h)).symm)
    k_extra "ev"
  have hl2 : (deedR d1 both r).length = 3 := by unfold deedR; split <;> simp [hl]
  generalize deedR d1 both r = r2 at *
  k_extra "xs"
  have hn0 : 0 ≤ 3 - ((d1 + d1.fmod 2 * 3).fdiv 2).fmod 3 := by have := Int.fmod_lt_of_pos ((d1 + d1.fmod 2 * 3).fdiv 2) (b := 3) (by decide); omega
  refine Xs.retE (dv' := dints (deedE d1 d3 both r2)) (fun C hz hO => ?_) rfl
  have hzb : C.z.b = false := congrArg Zw.b hz
  refine' Ev.compI hO hzb ?zit ?zl ?zclos ?zel ?zcell ?zkind ?znames ?zx ?zs
  case zit =>
    refine Ev.to (d := .lst ((r2.map Dv.int).drop (deedT d1) ++ (r2.map Dv.int).take (deedT d1))) ?_ (by rw [← List.map_drop, ← List.map_take, ← List.map_append])
    refine Ev.bin (Ev.from hO ?z1 ?z2 hn0 ?z3 ?z4 ?z5) (Ev.upto hO ?z6 ?z7 hn0 ?z8 ?z9 ?za) (Bin.addl hO ?zb)
    case z1 => k_extra "ev"
    case z2 => k_extra "ev"
    case z3 => rw [List.length_map, hl2]; exact hs3
    case z4 => intro _ _; with_unfolding_all rfl
    case z5 => intro _ _; with_unfolding_all rfl
    case z6 => k_extra "ev"
    case z7 => k_extra "ev"
    case z8 => rw [List.length_map, hl2]; exact hs3
    case z9 => intro _ _; with_unfolding_all rfl
    case za => intro _ _; with_unfolding_all rfl
    case zb => simp only [List.length_drop, List.length_take, List.length_map, hl2]; omega
  case zl => simp only [List.length_append, List.length_drop, List.length_take, hl2]; omega
  case zclos => rfl
  case zcell => decide
  case zkind => rfl
  case znames => decide
  case zx => rfl
  case zs => intro _; rfl
  case zel =>
    have hm := dmul (x := 255 - both) h3
    intro n _ X fl Ca m
    k_extra "ev"

section S9
local macro_rules | `(tactic| k_extra "bodyC") => `(tactic| (
  (case hf => intro P; k_is); (case hcd => intro P; k_is); (case co => rfl); (case cg => rfl); (case ck => rfl);
  (case hb => intro s; first | exact len0 (BindsTo.of_eq rfl) | exact len3 fun _ _ _ => BindsTo.of_eq rfl | exact len2 fun _ _ => BindsTo.of_eq rfl | exact len1 fun _ => BindsTo.of_eq rfl);
  (case hx => decide +kernel); (case hcn => decide +kernel); (case hnd => decide +kernel); (case hlen => rfl); (case hm => rfl)))
noncomputable abbrev opsS1 : Str := Str.ofString "( ) [ ] : , ; + - * / | & < > = . % { } == != <= >= ~ ^ << >> ** "
noncomputable abbrev opsS2 : Str := Str.ofString "+= -= *= /= %= &= |= ^= <<= >>= **= // //= @ @= -> ... := !"
noncomputable def opsL : List Str := Txt.split (opsS1 ++ opsS2) (Str.ofString " ")
set_option maxRecDepth 100000 in
set_option maxHeartbeats 4000000 in
theorem ops_call (w : World)  : CallOk ⟨false, w⟩ 94 [] 1 3 (dstrs opsL) := by
  refine' bodyC_ok (d := 0) (u := 0) (xs := []) (μ := []) ?hf ?hcd ?hb ?hx ?hcn ?hnd ?hlen ?hm ?hB ?co ?cg ?ck
  k_extra "bodyC"
  with_unfolding_all (show Xs _ _ _ _ _ (_ :: _) _)
  k_extra "xs"
  refine Xs.retE (dv' := dstrs opsL) (fun C hz hO => ?_) rfl
  have hzb : C.z.b = false := congrArg Zw.b hz
  refine' Ev.split (x := opsS1 ++ opsS2) (y := Str.ofString " ") hzb (Ev.bin (d₁ := .str opsS1) (d₂ := .str opsS2) ?x1 ?x2 (Bin.adds hzb ?x3)) ?x4 ?x5 ?x6 ?x7 ?x8
  case x1 => k_extra "ev"
  case x2 => exact Ev.cs
  case x3 => exact Nat.le_of_ble_eq_true (by decide +kernel)
  case x4 => exact Ev.cs
  case x5 => decide +kernel
  case x6 => exact Nat.le_of_ble_eq_true (by decide +kernel)
  case x7 => with_unfolding_all rfl
  case x8 => rfl

end S9

local macro_rules | `(tactic| k_extra "cv") => `(tactic| ((with_reducible refine callLenS ?_); (with_reducible assumption)))
local macro_rules | `(tactic| k_extra "cmp") => `(tactic| with_reducible exact Cmp.inT (by assumption))
local macro_rules | `(tactic| k_extra "ev") => `(tactic| first | (((with_reducible apply Ev.look); assumption; k_extra "ev"; k_extra "ev"; (with_reducible assumption); (with_reducible assumption); (intro _ _ _; with_unfolding_all rfl); (intro _ _; with_unfolding_all rfl))) | (((with_reducible apply Ev.itemNeg); assumption; k_extra "ev"; ((with_reducible apply Ev.negi); k_extra "ev"); decide; (with_reducible assumption); decide; (with_reducible assumption); (intro _ _ _; with_unfolding_all rfl))) | (((with_reducible apply Ev.index); k_extra "ev"; k_extra "ev"; (with_reducible assumption); (with_unfolding_all rfl); kernel_rfl)) | (((with_reducible apply Ev.sitem); k_extra "ev"; k_extra "ev"; (with_reducible assumption); (with_reducible assumption); (with_reducible assumption); (intro _ _ _ _; with_unfolding_all rfl); (intro _ _ _; with_unfolding_all rfl))) | (((with_reducible apply Ev.sls); k_extra "zb"; k_extra "ev"; k_extra "ev"; k_extra "ev"; (with_reducible assumption); (intro _ _ _; with_unfolding_all rfl); (intro _ _ _; with_unfolding_all rfl))))
noncomputable def ReadOk (T : Str) (D : List (PyData × PyData)) : Prop := ∀ p : Int, 0 ≤ p → p < (T.length : Int) → szI (slk T D p 1) (slk T D p 2) (slk T D p 3) = [] → 0 ≤ Txt.find (Str.ofString "ab") (Txt.item T p)
noncomputable def rNext (T : Str) (D : List (PyData × PyData)) (calls : Int) (a : Int × List Int) : Int × List Int :=
  if szI (slk T D a.1 1) (slk T D a.1 2) (slk T D a.1 3) = [] then (a.1 + 1, a.2 ++ [calls + Txt.find (Str.ofString "ab") (Txt.item T a.1)])
  else (a.1 + best (slk T D a.1 1) (slk T D a.1 2) (slk T D a.1 3), a.2 ++ [look D (Txt.slice T (some a.1) (some (a.1 + best (slk T D a.1 1) (slk T D a.1 2) (slk T D a.1 3))))])
noncomputable def rOk (T : Str) (D : List (PyData × PyData)) (calls : Int) (a : Int × List Int) : Prop :=
  0 ≤ a.1 ∧ a.1 ≤ (T.length : Int) + 2 ∧ (a.2.length : Int) ≤ a.1 ∧ ∃ f : Nat, (T.length : Int) ≤ a.1 + f ∧ a.2 ++ readI T D calls f a.1 = readI T D calls T.length 0
theorem rOk_next {T : Str} {D : List (PyData × PyData)} {calls : Int} {a : Int × List Int} (h : rOk T D calls a) (hb : a.1 < (T.length : Int)) : rOk T D calls (rNext T D calls a) ∧ a.1 < (rNext T D calls a).1 := by
  obtain ⟨h0, h1, h2, f, h3, h4⟩ := h
  obtain ⟨f, rfl⟩ : ∃ f', f = f' + 1 := ⟨f - 1, by omega⟩
  unfold rNext
  by_cases hs : szI (slk T D a.1 1) (slk T D a.1 2) (slk T D a.1 3) = []
  · rw [if_pos hs]
    refine ⟨⟨by show 0 ≤ a.1 + 1; omega, by show a.1 + 1 ≤ _; omega, by simp only [List.length_append, List.length_cons, List.length_nil]; omega, f, by show (T.length : Int) ≤ a.1 + 1 + f; omega, ?_⟩, by show a.1 < a.1 + 1; omega⟩
    rw [← h4, readI_none hb hs]; simp
  · rw [if_neg hs]
    obtain ⟨b1, b2⟩ := best_pos hs
    refine ⟨⟨by show 0 ≤ a.1 + _; omega, by show a.1 + _ ≤ _; omega, by simp only [List.length_append, List.length_cons, List.length_nil]; omega, f, by show (T.length : Int) ≤ a.1 + _ + f; omega, ?_⟩, by show a.1 < a.1 + _; omega⟩
    rw [← h4, readI_some hb hs]; simp
noncomputable def bSz (T : Str) (D : List (PyData × PyData)) (p : Int) : Dv → Bool
  | .int k => slk T D p k
  | _ => false
theorem sz_eq (T : Str) (D : List (PyData × PyData)) (p : Int) : (([Dv.int 1, .int 2, .int 3].filter (bSz T D p)).map id) = (szI (slk T D p 1) (slk T D p 2) (slk T D p 3)).map Dv.int := by
  unfold szI
  cases h1 : slk T D p 1 <;> cases h2 : slk T D p 2 <;> cases h3 : slk T D p 3 <;> simp [bSz, h1, h2, h3]
theorem sz_last (b1 b2 b3 : Bool) (h : szI b1 b2 b3 ≠ []) : ((szI b1 b2 b3).map Dv.int)[((-1 : Int) + (((szI b1 b2 b3).map Dv.int).length : Int)).toNat]? = some (.int (best b1 b2 b3)) := by
  revert h
  cases b1 <;> cases b2 <;> cases b3 <;> intro h <;> first | rfl | exact absurd rfl h
theorem Xs.ret1 {z : Zw} {d u : Nat} {sc : Scope} {μ μ' : Mu} {st : Stmt} (h : X1 z d u sc μ st (.nx μ')) : Xs z d u sc μ [st] (.nx μ') := Xs.next h Xs.nil
theorem X1.to {z : Zw} {d u : Nat} {sc : Scope} {μ : Mu} {st : Stmt} {o o' : Out} (h : X1 z d u sc μ st o) (e : o = o') : X1 z d u sc μ st o' := e ▸ h
set_option maxRecDepth 100000 in
set_option maxHeartbeats 4000000 in
theorem read_call (w : World) (T : Str) (D : List (PyData × PyData)) (calls : Int) (hD : IntVals D) (hT : T.length ≤ 1000) (hok : ReadOk T D) : CallOk ⟨false, w⟩ 106 [.str T, .tab D, .int calls] 1 67 (dints (readI T D calls T.length 0)) := by
  refine' bodyC_ok (d := 0) (u := 64) (xs := [Str.ofString "text", Str.ofString "numbers", Str.ofString "calls"]) (μ := [(Str.ofString "text", .str T), (Str.ofString "numbers", .tab D), (Str.ofString "calls", .int calls)]) ?hf ?hcd ?hb ?hx ?hcn ?hnd ?hlen ?hm ?hB ?co ?cg ?ck
  k_extra "bodyC"
  with_unfolding_all (show Xs _ _ _ _ _ (_ :: _) _)
  have hT1 : T.length ≤ sizeLine := by rw [sizeLine_eq]; omega
  have hT2 : T.length < 2 ^ 63 := by omega
  k_extra "xs"
  refine Xs.next (μ' := [(Str.ofString "row", dints (readI T D calls T.length 0))]) ?_ (Xs.retE (fun C hz hO => by k_extra "ev") rfl)
  refine X1.while rfl (α := Int × List Int) (fun a => [(Str.ofString "text", .str T), (Str.ofString "numbers", .tab D), (Str.ofString "calls", .int calls), (Str.ofString "row", dints a.2), (Str.ofString "place", .int a.1)]) (rOk T D calls) (fun a => ((T.length : Int) - a.1).toNat) (fun a => decide (a.1 < (T.length : Int))) (rNext T D calls) (0, []) ⟨Int.le_refl _, by show (0 : Int) ≤ _; omega, by decide, T.length, by show (T.length : Int) ≤ 0 + _; omega, rfl⟩ (sub_cons ?w1 (sub_cons ?w2 (sub_cons ?w3 (sub_cons ?w4 (sub_cons ?w5 sub_nil))))) (fun a ha => fun C hz hO => ?_) (fun a ha hb => ⟨?_, ?_⟩) (fun a ha hb => sub_cons ?w6 sub_nil)
  case w1 => k_extra "muD"
  case w2 => k_extra "muD"
  case w3 => k_extra "muD"
  case w4 => k_extra "muD"
  case w5 => k_extra "muD"
  case w6 =>
    obtain ⟨_, _, _, f, _, h4⟩ := ha
    rw [readI_end f (of_decide_eq_false hb), List.append_nil] at h4
    rw [← h4]
    k_extra "mu"
  · k_extra "test"
  · have hb := of_decide_eq_true hb
    have h0 := ha.1
    have hm1 : a.2.length ≤ 1002 := by have := ha.2.1; have := ha.2.2.1; omega
    refine Xs.next (X1.to (X1.assignT (f := id) (b := bSz T D a.1) (ds := [.int 1, .int 2, .int 3]) ?cl rfl (fun C hz hO => ?x1) (Nat.le_of_ble_eq_true (by kernel_rfl)) (fun C hz hO dv hdv => ?x2) (fun C hz hO dv hdv hb => ?x3) (fun C => ?x4) (fun C => ?x5) ?x6 ?x7 ?x8 ?x9 ?xa ?xb (fun C v => ?xc)) (congrArg (fun l => Out.nx ((Str.ofString "sizes", .lst l) :: [(Str.ofString "text", .str T), (Str.ofString "numbers", .tab D), (Str.ofString "calls", .int calls), (Str.ofString "row", dints a.2), (Str.ofString "place", .int a.1)])) (sz_eq T D a.1))) ?_
    case cl => exact fun L => [(Str.ofString "text", L + 1), (Str.ofString "place", L + 3), (Str.ofString "numbers", L + 2)]
    case x1 => k_extra "ev"
    case x2 =>
      simp only [List.mem_cons, List.not_mem_nil, or_false] at hdv
      have hzb : C.z.b = false := congrArg Zw.b hz
      rcases hdv with rfl | rfl | rfl <;> (refine ElT.of hzb fun X fl Ca m => ?_; have hO2 := hO.on2 X fl; apply Test.to; k_extra "test"; rfl)
    case x3 =>
      simp only [List.mem_cons, List.not_mem_nil, or_false] at hdv
      have hzb : C.z.b = false := congrArg Zw.b hz
      rcases hdv with rfl | rfl | rfl <;> (refine ElE.of hzb fun X fl Ca m => ?_; exact Ev.own rfl rfl rfl)
    case x4 => rfl
    case x5 => rfl
    case x6 => decide
    case x7 => rfl
    case x8 => decide
    case x9 => rfl
    case xa => decide +kernel
    case xb => rfl
    case xc => rfl
    refine Xs.ret1 ?_
    refine X1.ite (c := decide (szI (slk T D a.1 1) (slk T D a.1 2) (slk T D a.1 3) = [])) (fun C hz hO => ?y1) (fun hc => ?y2) (fun hc => ?y3)
    case y1 =>
      (with_reducible apply Test.cmp)
      · k_extra "ev"
      · exact Ev.to (d := .lst []) (Ev.list Evs.nil (Nat.zero_le _)) rfl
      · exact Cmp.eqL (ms := []) hO (Nat.le_refl _)
      · kernel_rfl
    case y2 =>
      have hc := of_decide_eq_true hc
      have hab := hok a.1 h0 hb hc
      unfold rNext
      rw [if_pos hc]
      refine' Xs.sub (Xs.next (X1.unT' (ds := [dints (a.2 ++ [calls + Txt.find (Str.ofString "ab") (Txt.item T a.1)]), .int (a.1 + 1)]) (fun C hz hO => ?z1) (by decide +kernel) rfl (by simp only [pushMu, tgts, List.map_cons, List.map_nil]; rfl) (fun _ => rfl) (fun _ => rfl) (fun _ => rfl) rfl) Xs.nil) (sub_cons ?z2 (sub_cons ?z3 (sub_cons ?z4 (sub_cons ?z5 (sub_cons ?z6 sub_nil)))))
      case z1 =>
        refine' Ev.tup (Evs.cons (Ev.to (Ev.bin (d₁ := dints a.2) (d₂ := .lst [.int (calls + Txt.find (Str.ofString "ab") (Txt.item T a.1))]) ?q1 ?q2 (Bin.addl hO ?q3)) ?q4) (Evs.cons ?q5 Evs.nil (by kernel_rfl)) (by kernel_rfl)) (Nat.le_of_ble_eq_true (by kernel_rfl))
        case q1 => k_extra "ev"
        case q2 => k_extra "ev"
        case q3 => rw [List.length_map, sizeLine_eq]; simp only [List.length_cons, List.length_nil]; omega
        case q4 => show Dv.lst _ = Dv.lst _; rw [List.map_append]; rfl
        case q5 => k_extra "ev"
      case z2 => k_extra "muD"
      case z3 => k_extra "muD"
      case z4 => k_extra "muD"
      case z5 => k_extra "muD"
      case z6 => k_extra "muD"
    case y3 =>
      have hc := of_decide_eq_false hc
      unfold rNext
      rw [if_neg hc]
      refine' Xs.sub (Xs.next (X1.unT' (ds := [dints (a.2 ++ [look D (Txt.slice T (some a.1) (some (a.1 + best (slk T D a.1 1) (slk T D a.1 2) (slk T D a.1 3))))]), .int (a.1 + best (slk T D a.1 1) (slk T D a.1 2) (slk T D a.1 3))]) (fun C hz hO => ?z1) (by decide +kernel) rfl (by simp only [pushMu, tgts, List.map_cons, List.map_nil]; rfl) (fun _ => rfl) (fun _ => rfl) (fun _ => rfl) rfl) Xs.nil) (sub_cons ?z2 (sub_cons ?z3 (sub_cons ?z4 (sub_cons ?z5 (sub_cons ?z6 sub_nil)))))
      case z1 =>
        have hneg : -((((szI (slk T D a.1 1) (slk T D a.1 2) (slk T D a.1 3)).map Dv.int).length : Nat) : Int) ≤ -1 := by
          have : (szI (slk T D a.1 1) (slk T D a.1 2) (slk T D a.1 3)).length ≠ 0 := fun h => hc (List.length_eq_zero_iff.mp h)
          rw [List.length_map]; omega
        have hlast := sz_last _ _ _ hc
        have hbest : (Spec.lookup (PyData.str (Txt.slice T (some a.1) (some (a.1 + best (slk T D a.1 1) (slk T D a.1 2) (slk T D a.1 3))))) D).isSome = true := slk_best hc
        refine' Ev.tup (Evs.cons (Ev.to (Ev.bin (d₁ := dints a.2) (d₂ := .lst [.int (look D (Txt.slice T (some a.1) (some (a.1 + best (slk T D a.1 1) (slk T D a.1 2) (slk T D a.1 3)))))]) ?q1 ?q2 (Bin.addl hO ?q3)) ?q4) (Evs.cons ?q5 Evs.nil (by kernel_rfl)) (by kernel_rfl)) (Nat.le_of_ble_eq_true (by kernel_rfl))
        case q1 => k_extra "ev"
        case q2 => k_extra "ev"
        case q3 => rw [List.length_map, sizeLine_eq]; simp only [List.length_cons, List.length_nil]; omega
        case q4 => show Dv.lst _ = Dv.lst _; rw [List.map_append]; rfl
        case q5 => k_extra "ev"
      case z2 => k_extra "muD"
      case z3 => k_extra "muD"
      case z4 => k_extra "muD"
      case z5 => k_extra "muD"
      case z6 => k_extra "muD"
  · obtain ⟨h1, h2⟩ := rOk_next ha (of_decide_eq_true hb)
    have hb := of_decide_eq_true hb
    exact ⟨h1, by omega⟩

noncomputable def tokD (w : World) : List (PyData × PyData) := tabE (Mine.el0 w.params)
noncomputable def plD : List (PyData × PyData) := tabFrom 0 opsL
noncomputable def wordsL (ns : List Int) : List Str := (ns.take 6).map wordS ++ List.replicate (6 - (ns.take 6).length) (Str.ofString "")
/-- what the two readings of the three texts want -/
structure TextOk (w : World) (T : Str) : Prop where
  len : T.length ≤ 1000
  tok : ReadOk T (tokD w)
  pl : ReadOk T plD
noncomputable def rdT (w : World) (T : Str) : List Int := readI T (tokD w) 256 T.length 0
noncomputable def rdP (T : Str) : List Int := readI T plD 48 T.length 0
noncomputable def wholeC (whole : Int) : Col := ((whole.fdiv 1).fmod 256, (whole.fdiv 256).fmod 256, (whole.fdiv 65536).fmod 256)
theorem readI_len {T : Str} {D : List (PyData × PyData)} {c : Int} : ∀ (f : Nat) (p : Int), (readI T D c f p).length ≤ f
  | 0, _ => Nat.le_refl _
  | f + 1, p => by
    unfold readI
    split
    · split
      · rw [List.length_cons]; exact Nat.succ_le_succ (readI_len f _)
      · rw [List.length_cons]; exact Nat.succ_le_succ (readI_len f _)
    · exact Nat.zero_le _
theorem words_dv (ns : List Int) : (ns.take 6).map (fun n => Dv.str (wordS n)) ++ List.replicate ((6 : Int) - ((ns.take 6).length : Int)).toNat (Dv.str (Str.ofString "")) = (wordsL ns).map Dv.str := by
  unfold wordsL
  rw [List.map_append, List.map_map, List.map_replicate, show ((6 : Int) - ((ns.take 6).length : Int)).toNat = 6 - (ns.take 6).length by omega]
  rfl

local macro_rules | `(tactic| k_extra "ev") => `(tactic| (with_reducible exact Ev.cs))
local macro_rules | `(tactic| k_extra "cv") => `(tactic| first | (((with_reducible refine callSum (by assumption) ?_); k_extra "zb")) | (((with_reducible refine callLen (by assumption) ?_); (with_reducible assumption))))
local macro_rules | `(tactic| k_extra "comp") => `(tactic| ((case qclos => rfl); (case qcell => decide); (case qkind => rfl); (case qnames => decide); (case qx => rfl); (case qs => intro _; rfl)))
local macro_rules | `(tactic| k_extra "comp2") => `(tactic| ((case qclos => rfl); (case qcell => decide); (case qkind => rfl); (case qnames => decide); (case qs => intro _; rfl)))
noncomputable def whiteD : UInt64 := Float64.ofFrac (decide ((3 : Int) < 0) != decide ((2 : Int) ^ Int.toNat 53 < 0)) (3 : Int).natAbs ((2 : Int) ^ Int.toNat 53).natAbs
noncomputable def whiteB : UInt64 := Float64.sub (Float64.ofInt 1) whiteD
theorem white_full : (Float64.cmp (hlsF 4607182418800017408 4607182418800017408 whiteB).2.2 4607182418800017408 == some .eq) = true := by decide +kernel
theorem white_ok : OkHls 4607182418800017408 4607182418800017408 whiteB := by unfold OkHls; decide +kernel
theorem wholeC_in (x : Int) : InR (wholeC x) :=
  ⟨⟨Int.fmod_nonneg_of_pos _ (by decide), Int.fmod_lt_of_pos _ (by decide)⟩, ⟨Int.fmod_nonneg_of_pos _ (by decide), Int.fmod_lt_of_pos _ (by decide)⟩, ⟨Int.fmod_nonneg_of_pos _ (by decide), Int.fmod_lt_of_pos _ (by decide)⟩⟩
theorem i256 {i : Nat} (h : i < 3) : (Builtin.Int.intBits 256 : Int) * (i : Int) ≤ 2 ^ 27 ∧ (256 : Int) ^ ((i : Int)).toNat ≠ 0 ∧ ((256 : Int) ^ ((i : Int)).toNat).natAbs < 2 ^ 64 := by
  have : i = 0 ∨ i = 1 ∨ i = 2 := by omega
  rcases this with rfl | rfl | rfl <;> decide +kernel
set_option maxRecDepth 100000 in
set_option maxHeartbeats 8000000 in
theorem law_end (w : World) (whole : Int) (rows : List (List Int)) (q : Net) (hqN : InN q) (hRun : ∀ c, InR c → RunE w rows 2 c (deedC q c) 7 73) (hF : ∀ c, InR c → FineOk c.1 c.2.1 c.2.2) :
    Xs ⟨false, w⟩ 10 200 sp75 [(Str.ofString "colours", .lst ([(90, 90, 7), (77, 77, 77), wholeC whole].map dcol)), (Str.ofString "rows", drows rows), (Str.ofString "net", .lst [.int q.1, .int q.2.1, .int q.2.2])] (List.drop 8 bd75) (.rt (.bol true)) := by
  with_unfolding_all (show Xs _ _ _ _ _ (_ :: _) _)
  have hs3 : (3 : Nat) ≤ sizeLine := Nat.le_of_ble_eq_true (by kernel_rfl)
  have hcs : ∀ dv ∈ [((90, 90, 7) : Col), (77, 77, 77), wholeC whole].map dcol, ∃ c : Col, InR c ∧ dv = dcol c := by
    intro dv hdv
    obtain ⟨c, hc, rfl⟩ := List.mem_map.mp hdv
    refine ⟨c, ?_, rfl⟩
    simp only [List.mem_cons, List.not_mem_nil, or_false] at hc
    rcases hc with rfl | rfl | rfl
    · exact ⟨by decide, by decide, by decide⟩
    · exact ⟨by decide, by decide, by decide⟩
    · exact wholeC_in whole
  refine Xs.next (X1.assignT (f := id) (b := fun _ => false) (ds := [((90, 90, 7) : Col), (77, 77, 77), wholeC whole].map dcol) ?tcl rfl (fun C hz hO => ?t1) hs3 (fun C hz hO dv hdv => ?t2) (fun C hz hO dv hdv hb => nomatch hb) (fun C => ?t4) (fun C => ?t5) ?t6 ?t7 ?t8 ?t9 ?ta ?tb (fun C v => ?tc)) ?_
  case tcl => exact fun L => [(Str.ofString "rows", L + 1), (Str.ofString "net", L + 3)]
  case t1 => k_extra "ev"
  case t2 =>
    have hzb : C.z.b = false := congrArg Zw.b hz
    obtain ⟨c, hc, rfl⟩ := hcs dv hdv
    refine ElT.of hzb fun X fl Ca m => ?_
    refine Test.to (Test.or2 (c₁ := false) (c₂ := false) ?u1 (fun _ => ?u2)) rfl
    case u1 =>
      refine Test.to (Test.cmp (d₁ := dints [(deedC q c).1, (deedC q c).2.1, (deedC q c).2.2]) (d₂ := dints [(deedC q c).1, (deedC q c).2.1, (deedC q c).2.2]) ?v1 ?v2 (Cmp.neL (hO.on2 X fl) (by decide)) (by kernel_rfl)) (by simp)
      case v1 =>
        refine Ev.to (d := dcol (deedC q c)) ?_ rfl
        with_reducible apply Ev.call2
        · exact hO
        · k_is
        · k_is
        · refine Evs.cons (d := drows rows) (ds := [.int 2, dcol c]) ?x1 (Evs.cons ?x2 (Evs.cons (Ev.own (by kernel_rfl) (by kernel_rfl) (by kernel_rfl)) Evs.nil (by kernel_rfl)) (by kernel_rfl)) (by kernel_rfl)
          case x1 => k_extra "ev"
          case x2 => k_extra "ev"
        · exact CallOk.at hz (hRun c hc)
        all_goals first | decide | kernel_rfl
      case v2 =>
        refine Ev.to ?_ (congrArg dints (deedL_eq hqN c))
        with_reducible apply Ev.call2
        · exact hO
        · k_is
        · k_is
        · refine Evs.cons (d := .lst [.int q.1, .int q.2.1, .int q.2.2]) (ds := [.lst [.int c.1, .int c.2.1, .int c.2.2]]) ?x3 (Evs.cons ?x4 Evs.nil (by kernel_rfl)) (by kernel_rfl)
          case x3 => k_extra "ev"
          case x4 => exact Ev.own (by kernel_rfl) (by kernel_rfl) (by kernel_rfl)
        · exact CallOk.at hz (deed_call w q.1 q.2.1 q.2.2 hqN.1 (by have := hqN.2.2; omega) c.1 c.2.1 c.2.2)
        all_goals first | decide | kernel_rfl
    case u2 =>
      refine Test.to (Test.not (c := true) (Test.ev ?v3 (by rfl))) rfl
      with_reducible apply Ev.call2
      · exact hO
      · k_is
      · k_is
      · refine Evs.cons (d := .lst [.int c.1, .int c.2.1, .int c.2.2]) (ds := []) ?x5 Evs.nil (by kernel_rfl)
        case x5 => exact Ev.own (by kernel_rfl) (by kernel_rfl) (by kernel_rfl)
      · exact CallOk.at hz (fine_call w c.1 c.2.1 c.2.2 hc.1 hc.2.1 hc.2.2 (hF c hc))
      all_goals first | decide | kernel_rfl
  case t4 => rfl
  case t5 => rfl
  case t6 => decide
  case t7 => rfl
  case t8 => decide
  case t9 => rfl
  case ta => decide +kernel
  case tb => rfl
  case tc => rfl
  refine Xs.pre (μ := [(Str.ofString "wrong", .lst [])]) ?_ (sub_cons lookup_hit sub_nil)
  refine Xs.retE (dv' := .bol true) (fun C hz hO => ?ss1) rfl
  have hzb : C.z.b = false := congrArg Zw.b hz
  refine Ev.and ?ss2 ?ss3
  case ss2 =>
    refine Ev.to (Ev.cmp (d₁ := dints []) (d₂ := dints []) ?vv1 ?vv2 (Cmp.eqL hO (by decide)) (by kernel_rfl)) rfl
    case vv1 => exact Ev.to (d := .lst []) (by k_extra "ev") rfl
    case vv2 => exact Ev.to (d := .lst []) (Ev.list Evs.nil (Nat.zero_le _)) rfl
  case ss3 =>
    refine Ev.to (Ev.cmp (d₁ := .flt (hlsF 4607182418800017408 4607182418800017408 whiteB).2.2) (d₂ := .flt 4607182418800017408) ?vv3 ?vv4 Cmp.eqf (by kernel_rfl)) (congrArg Dv.bol white_full)
    case vv4 => exact Ev.cf
    case vv3 =>
      refine Ev.itemT (k := 2) (ds := [.flt (hlsF 4607182418800017408 4607182418800017408 whiteB).1, .flt (hlsF 4607182418800017408 4607182418800017408 whiteB).2.1, .flt (hlsF 4607182418800017408 4607182418800017408 whiteB).2.2]) hO ?ww1 (Ev.to Ev.ci rfl) (by decide) rfl (fun _ _ _ => by with_unfolding_all rfl)
      with_reducible apply Ev.call
      · exact hO
      · k_is
      · k_is
      · refine Evs.cons (d := .flt 4607182418800017408) (ds := [.flt 4607182418800017408, .flt whiteB]) Ev.cf (Evs.cons Ev.cf (Evs.cons ?yy1 Evs.nil (by kernel_rfl)) (by kernel_rfl)) (by kernel_rfl)
        case yy1 =>
          refine Ev.bin (d₁ := .int 1) (d₂ := .flt whiteD) Ev.ci (Ev.to (Ev.bin (d₁ := .int 3) (d₂ := .int (2 ^ Int.toNat 53)) Ev.ci (Ev.bin Ev.ci Ev.ci (Bin.powi (by decide) (by decide +kernel))) (Bin.divii (by decide) (by decide +kernel))) rfl) (Bin.subif (by decide))
      · exact CallOk.at hz (hls_ok w _ _ _ white_ok)
      all_goals first | decide | kernel_rfl
set_option maxRecDepth 100000 in
set_option maxHeartbeats 8000000 in
theorem law_xs (w : World) (ns : List Int) (h63 : ns.length ≤ 63) (w0 w1 w2 w3 w4 w5 : Str) (hw : wordsL ns = [w0, w1, w2, w3, w4, w5]) (hl : ∀ x ∈ [w0, w1, w2, w3, w4, w5], x.length ≤ 2) (T0 T1 T2 : Str)
    (h0 : w0 ++ w3 ++ Str.ofString "!+" = T0) (h1 : w1 ++ Str.ofString "a" ++ w4 ++ Str.ofString ">>" = T1) (h2 : w2 ++ Txt.item (Str.ofString "ab") ((ns.take 6).sum.fmod 2) ++ w5 ++ Str.ofString "b{" = T2)
    (hT : ∀ T ∈ [T0, T1, T2], TextOk w T) (hDt : IntVals (tokD w)) (hDp : IntVals plD) (hN : RowsN [rdP T0, rdP T1, rdP T2]) (q0 q1 q : Net) (hq : netsOf [rdP T0, rdP T1, rdP T2] = [q0, q1, q]) (hqN : InN q)
    (hRun : ∀ c, InR c → RunE w [rdT w T0 ++ [0], rdT w T1 ++ [0], rdT w T2 ++ [0]] 2 c (deedC q c) 7 73) (hF : ∀ c, InR c → FineOk c.1 c.2.1 c.2.2) (htok : TabO w 64 { cls := .type "dict", data := .dict (Mine.el0 w.params).toArray 48 } (tokD w)) (hnd : opsL.Nodup) (hls : opsL.length ≤ 1000) :
    Xs ⟨false, w⟩ 10 200 sp75 [(Str.ofString "script", dints ns)] bd75 (.rt (.bol true)) := by
  with_unfolding_all (show Xs _ _ _ _ _ (_ :: _) _)
  refine Xs.next (X1.assign (dv := dints (ns.take 6)) (fun C hz hO => ?a1) (by decide +kernel) (fun _ => by kernel_rfl) (by kernel_rfl)) ?_
  case a1 =>
    refine Ev.to (Ev.upto (y := 6) (ds := ns.map .int) hO ?b1 ?b2 (by decide) ?b3 (fun _ _ => by with_unfolding_all rfl) (fun _ _ => by with_unfolding_all rfl)) ?b4
    case b1 => k_extra "ev"
    case b2 => k_extra "ev"
    case b3 => rw [List.length_map, sizeLine_eq]; omega
    case b4 => rw [← List.map_take]; rfl
  have hlc : (ns.take 6).length ≤ 6 := by rw [List.length_take]; omega
  generalize hcut : ns.take 6 = cut at *
  have hlc2 : (cut.map Dv.int).length < 2 ^ 63 := by rw [List.length_map]; omega
  refine Xs.next (X1.assign (dv := dstrs [w0, w1, w2, w3, w4, w5]) (fun C hz hO => ?c1) (by decide +kernel) (fun _ => by kernel_rfl) (by kernel_rfl)) ?_
  case c1 =>
    have hzb : C.z.b = false := congrArg Zw.b hz
    rw [← hw]
    refine Ev.to (Ev.bin (d₁ := .lst (cut.map fun n => Dv.str (wordS n))) (d₂ := .lst (List.replicate ((6 : Int) - (cut.length : Int)).toNat (Dv.str (Str.ofString "")))) ?d1 ?d2 (Bin.addl hO ?d3)) ?d4
    case d1 =>
      refine' Ev.compID (ns := cut) hO hzb ?qit ?ql ?qclos ?qel ?qcell ?qkind ?qnames ?qx ?qs
      k_extra "comp"
      case qit => k_extra "ev"
      case ql => rw [sizeLine_eq]; omega
      case qel =>
        intro n _ X fl Ca m
        have hO2 := hO.on2 X fl
        with_reducible apply Ev.call2
        · exact hO
        · k_is
        · k_is
        · k_extra "evs"
        · exact CallOk.at hz (word_ok w n)
        all_goals first | decide | kernel_rfl
    case d2 =>
      refine Ev.bin ?e1 ?e2 (Bin.mull hO (by omega) (by omega))
      case e1 => k_extra "ev"
      case e2 =>
        refine Ev.to (d := .int (6 - ((cut.map Dv.int).length : Int))) ?_ (by rw [List.length_map])
        k_extra "ev"
    case d3 => rw [List.length_map, List.length_replicate, sizeLine_eq]; omega
    case d4 => rw [← hcut]; exact congrArg Dv.lst (words_dv ns)
  have lw0 : w0.length ≤ 2 := hl _ (by simp)
  have lw1 : w1.length ≤ 2 := hl _ (by simp)
  have lw2 : w2.length ≤ 2 := hl _ (by simp)
  have lw3 : w3.length ≤ 2 := hl _ (by simp)
  have lw4 : w4.length ≤ 2 := hl _ (by simp)
  have lw5 : w5.length ≤ 2 := hl _ (by simp)
  have l2 : (Str.ofString "!+").length = 2 := by decide +kernel
  have l3 : (Str.ofString "a").length = 1 := by decide +kernel
  have l4 : (Str.ofString ">>").length = 2 := by decide +kernel
  have l5 : (Str.ofString "b{").length = 2 := by decide +kernel
  have l6 : ((Str.ofString "ab").length : Int) = 2 := by decide +kernel
  have l7 : (Str.ofString "ab").length < 2 ^ 63 := by decide +kernel
  have hm0 : 0 ≤ cut.sum.fmod 2 := Int.fmod_nonneg_of_pos _ (by decide)
  have hm1 : cut.sum.fmod 2 < ((Str.ofString "ab").length : Int) := by rw [l6]; exact Int.fmod_lt_of_pos _ (by decide)
  refine Xs.next (X1.assign (dv := .str (w2 ++ Txt.item (Str.ofString "ab") (cut.sum.fmod 2) ++ w5)) (fun C hz hO => ?f1) (by decide +kernel) (fun _ => by kernel_rfl) (by kernel_rfl)) ?_
  case f1 =>
    have hzb : C.z.b = false := congrArg Zw.b hz
    refine Ev.bin (d₁ := .str (w2 ++ Txt.item (Str.ofString "ab") (cut.sum.fmod 2))) (Ev.bin (d₁ := .str w2) (d₂ := .str (Txt.item (Str.ofString "ab") (cut.sum.fmod 2))) ?g1 ?g2 (Bin.adds hzb ?g3)) ?g4 (Bin.adds hzb ?g5)
    case g1 => k_extra "ev"
    case g2 => k_extra "ev"
    case g3 => rw [len_item, sizeLine_eq]; omega
    case g4 => k_extra "ev"
    case g5 => rw [Str.length_append, len_item, sizeLine_eq]; omega
  refine Xs.next (X1.assign (dv := dstrs [T0, T1, T2]) (fun C hz hO => ?f2) (by decide +kernel) (fun _ => by kernel_rfl) (by kernel_rfl)) ?_
  case f2 =>
    have hzb : C.z.b = false := congrArg Zw.b hz
    refine Ev.to (d := .lst [.str T0, .str T1, .str T2]) ?_ rfl
    refine Ev.list (Evs.cons ?i1 (Evs.cons ?i2 (Evs.cons ?i3 Evs.nil (by kernel_rfl)) (by kernel_rfl)) (by kernel_rfl)) (Nat.le_of_ble_eq_true (by kernel_rfl))
    case i1 =>
      rw [← h0]
      refine Ev.bin (d₁ := .str (w0 ++ w3)) (Ev.bin (d₁ := .str w0) (d₂ := .str w3) ?j1 ?j2 (Bin.adds hzb ?j3)) ?j4 (Bin.adds hzb ?j5)
      case j1 => k_extra "ev"
      case j2 => k_extra "ev"
      case j3 => rw [sizeLine_eq]; omega
      case j4 => k_extra "ev"
      case j5 => rw [Str.length_append, sizeLine_eq]; omega
    case i2 =>
      rw [← h1]
      refine Ev.bin (d₁ := .str (w1 ++ Str.ofString "a" ++ w4)) (Ev.bin (d₁ := .str (w1 ++ Str.ofString "a")) (d₂ := .str w4) (Ev.bin (d₁ := .str w1) (d₂ := .str (Str.ofString "a")) ?j1 ?j2 (Bin.adds hzb ?j3)) ?j4 (Bin.adds hzb ?j5)) ?j6 (Bin.adds hzb ?j7)
      case j1 => k_extra "ev"
      case j2 => k_extra "ev"
      case j3 => rw [sizeLine_eq]; omega
      case j4 => k_extra "ev"
      case j5 => rw [Str.length_append, sizeLine_eq]; omega
      case j6 => k_extra "ev"
      case j7 => rw [Str.length_append, Str.length_append, sizeLine_eq]; omega
    case i3 =>
      rw [← h2]
      refine Ev.bin (d₁ := .str (w2 ++ Txt.item (Str.ofString "ab") (cut.sum.fmod 2) ++ w5)) (d₂ := .str (Str.ofString "b{")) ?j1 ?j2 (Bin.adds hzb ?j3)
      case j1 => k_extra "ev"
      case j2 => k_extra "ev"
      case j3 => rw [Str.length_append, Str.length_append, len_item, sizeLine_eq]; omega
  have hs3 : (3 : Nat) ≤ sizeLine := Nat.le_of_ble_eq_true (by kernel_rfl)
  refine Xs.next (X1.assign (dv := drows [rdT w T0 ++ [0], rdT w T1 ++ [0], rdT w T2 ++ [0]]) (fun C hz hO => ?k1) (by decide +kernel) (fun _ => by kernel_rfl) (by kernel_rfl)) ?_
  case k1 =>
    have hzb : C.z.b = false := congrArg Zw.b hz
    refine Ev.to (d := .lst ([T0, T1, T2].map fun T => dints (rdT w T ++ [0]))) ?_ rfl
    refine' Ev.compSD (ns := [T0, T1, T2]) hO hzb ?qit ?ql ?qclos ?qel ?qcell ?qkind ?qnames ?qx ?qs
    k_extra "comp"
    case qit => k_extra "ev"
    case ql => exact hs3
    case qel =>
      intro T hmem X fl Ca m
      obtain ⟨hTl, hTt, _⟩ := hT T hmem
      have hO2 := hO.on2 X fl
      refine Ev.to (Ev.bin (d₁ := dints (rdT w T)) (d₂ := .lst [.int 0]) ?m1 ?m2 (Bin.addl hO2 ?m3)) ?m4
      case m1 =>
        with_reducible apply Ev.call2
        · exact hO
        · k_is
        · k_is
        · refine Evs.cons (ds := [.tab (tokD w), .int 256]) (Ev.own (by kernel_rfl) (by kernel_rfl) (by kernel_rfl)) (Evs.cons ?n1 (Evs.cons ?n2 Evs.nil (by kernel_rfl)) (by kernel_rfl)) (by kernel_rfl)
          case n1 =>
            have hCw : C.z.w = w := congrArg Zw.w hz
            refine Ev.globTab2 (a := 64) (o := { cls := .type "dict", data := .dict (Mine.el0 C.z.w.params).toArray 48 }) (T := tokD w) hO ?o1 ?o2 ?o3 (by kernel_rfl) (by kernel_rfl) (by kernel_rfl) (by kernel_rfl)
            case o1 => kernel_rfl
            case o2 => rfl
            case o3 => rw [show C.w = w from hCw, hCw]; exact htok
          case n2 =>
            refine' Ev.globi2 hO ?p1 (by kernel_rfl) (by kernel_rfl) (by kernel_rfl) (by kernel_rfl)
            case p1 => k_is
        · exact CallOk.at hz (read_call w T (tokD w) 256 hDt hTl hTt)
        all_goals first | decide | kernel_rfl
      case m2 =>
        refine Ev.list (Evs.cons ?n3 Evs.nil (by kernel_rfl)) (Nat.le_of_ble_eq_true (by kernel_rfl))
        refine' Ev.globi2 hO ?p2 (by kernel_rfl) (by kernel_rfl) (by kernel_rfl) (by kernel_rfl)
        case p2 => k_is
      case m3 =>
        have := readI_len (T := T) (D := tokD w) (c := 256) T.length 0
        rw [List.length_map, sizeLine_eq]; show (readI T (tokD w) 256 T.length 0).length + 1 ≤ _; omega
      case m4 => show Dv.lst _ = Dv.lst _; rw [List.map_append]; rfl
  refine Xs.next (X1.assign (dv := .tab plD) (fun C hz hO => ?k2) (by decide +kernel) (fun _ => by kernel_rfl) (by kernel_rfl)) ?_
  case k2 =>
    have hzb : C.z.b = false := congrArg Zw.b hz
    refine' Ev.dictEnum (ks := opsL) hO hzb ?m0 ?m1 ?m2 hnd (by rw [sizeLine_eq]; omega) ?m3 ?m4 ?qclos ?qcell ?qkind ?qnames ?m5 ?m6 ?m7 ?m8 ?m9 ?qs
    k_extra "comp2"
    case m0 => k_is
    case m1 => exact Ev.name_B hO (by k_is) boot_enumerate (by kernel_rfl) (by decide +kernel) (by kernel_rfl) (by kernel_rfl)
    case m2 =>
      with_reducible apply Ev.call0
      · exact hO
      · k_is
      · k_is
      · exact CallOk.at hz (ops_call w)
      all_goals first | decide | kernel_rfl
    case m3 => kernel_rfl
    case m4 => kernel_rfl
    case m5 => rfl
    case m6 => rfl
    case m7 => decide +kernel
    case m8 => kernel_rfl
    case m9 => kernel_rfl
  refine Xs.next (X1.unT' (ds := [.lst [.int q.1, .int q.2.1, .int q.2.2], .int (cut.sum + 11259375)]) (fun C hz hO => ?k3) (by decide +kernel) rfl (by simp only [pushMu, tgts, List.map_cons, List.map_nil]; rfl) (fun _ => rfl) (fun _ => rfl) (fun _ => rfl) rfl) ?_
  case k3 =>
    have hzb : C.z.b = false := congrArg Zw.b hz
    refine Ev.tup (Evs.cons ?m1 (Evs.cons ?m2 Evs.nil (by kernel_rfl)) (by kernel_rfl)) (Nat.le_of_ble_eq_true (by kernel_rfl))
    case m2 => k_extra "ev"
    case m1 =>
      refine Ev.item (ds := (netsOf [rdP T0, rdP T1, rdP T2]).map dnet) (k := 2) hO ?n1 ?n2 (by decide) (by decide) (by rw [hq]; rfl) (fun _ _ _ => by with_unfolding_all rfl)
      case n2 => k_extra "ev"
      case n1 =>
        with_reducible apply Ev.call
        · exact hO
        · k_is
        · k_is
        · refine Evs.cons (d := drows [rdP T0, rdP T1, rdP T2]) (ds := []) ?o1 Evs.nil (by kernel_rfl)
          refine Ev.to (d := .lst ([T0, T1, T2].map fun T => dints (rdP T))) ?_ rfl
          refine' Ev.compSD (ns := [T0, T1, T2]) hO hzb ?qit ?ql ?qclos ?qel ?qcell ?qkind ?qnames ?qx ?qs
          k_extra "comp"
          case qit => k_extra "ev"
          case ql => exact hs3
          case qel =>
            intro T hmem X fl Ca m
            obtain ⟨hTl, _, hTp⟩ := hT T hmem
            have hO2 := hO.on2 X fl
            with_reducible apply Ev.call2
            · exact hO
            · k_is
            · k_is
            · refine Evs.cons (d := .str T) (ds := [.tab plD, .int 48]) (Ev.own (by kernel_rfl) (by kernel_rfl) (by kernel_rfl)) (Evs.cons ?p1 (Evs.cons ?p2 Evs.nil (by kernel_rfl)) (by kernel_rfl)) (by kernel_rfl)
              case p1 => k_extra "ev"
              case p2 => k_extra "ev"
            · exact CallOk.at hz (read_call w T plD 48 hDp hTl hTp)
            all_goals first | decide | kernel_rfl
        · exact CallOk.at hz (nets_call w [rdP T0, rdP T1, rdP T2] hN (by show 3 ≤ 1000; decide))
        all_goals first | decide | kernel_rfl
  generalize hwh : cut.sum + 11259375 = whole
  refine Xs.next (X1.assign (dv := .lst ([(90, 90, 7), (77, 77, 77), wholeC whole].map dcol)) (fun C hz hO => ?k4) (by decide +kernel) (fun _ => by kernel_rfl) (by kernel_rfl)) ?_
  case k4 =>
    have hzb : C.z.b = false := congrArg Zw.b hz
    refine Ev.to (d := .lst [.lst [.int 90, .int 90, .int 7], .lst [.int 77, .int 77, .int 77], .lst [.int (wholeC whole).1, .int (wholeC whole).2.1, .int (wholeC whole).2.2]]) ?_ rfl
    refine Ev.list (Evs.cons ?mm1 (Evs.cons ?mm2 (Evs.cons ?mm3 Evs.nil (by kernel_rfl)) (by kernel_rfl)) (by kernel_rfl)) (Nat.le_of_ble_eq_true (by kernel_rfl))
    case mm1 => k_extra "ev"
    case mm2 => k_extra "ev"
    case mm3 =>
      refine Ev.to (d := .lst (((List.range 3).map fun i : Nat => Dv.int (i : Int)).map (fID fun k => .int ((whole.fdiv (256 ^ k.toNat)).fmod 256)))) ?_ rfl
      refine' EvC.z (EvC.compR (n := 3) hzb (Ev.c ?rr1 hzb) (Ev.w ?rr2 hzb) (by decide) ?qel ?rr3 ?rr4 ?qclos ?qcell ?qkind ?qnames ?qx ?qs) hzb
      k_extra "comp"
      case rr1 => exact Ev.name_B hO (by k_is) boot_range (by kernel_rfl) (by decide +kernel) (by kernel_rfl) (by kernel_rfl)
      case rr2 => exact Ev.to Ev.ci rfl
      case rr3 => kernel_rfl
      case rr4 => kernel_rfl
      case qel =>
        intro i hi
        refine ElE.of hzb fun X fl Ca m => ?_
        refine Ev.to (d := .int ((whole.fdiv (256 ^ ((i : Int)).toNat)).fmod 256)) ?_ rfl
        have hp := i256 hi
        refine Ev.bin (Ev.bin (d₁ := .int whole) ?pp1 (Ev.bin ?pp2 ?pp3 (Bin.powi (by omega) hp.1)) (Bin.divi hp.2.1 hp.2.2)) ?pp4 (Bin.modi (by decide))
        case pp1 => k_extra "ev"
        case pp2 => k_extra "ev"
        case pp3 => exact Ev.own (by kernel_rfl) (by kernel_rfl) (by kernel_rfl)
        case pp4 => k_extra "ev"
  refine Xs.pre (μ := [(Str.ofString "colours", .lst ([(90, 90, 7), (77, 77, 77), wholeC whole].map dcol)), (Str.ofString "rows", drows [rdT w T0 ++ [0], rdT w T1 ++ [0], rdT w T2 ++ [0]]), (Str.ofString "net", .lst [.int q.1, .int q.2.1, .int q.2.2])]) (law_end w whole _ q hqN hRun hF) (sub_cons ?zz1 (sub_cons ?zz2 (sub_cons ?zz3 sub_nil)))
  case zz1 => k_extra "mu"
  case zz2 => k_extra "mu"
  case zz3 => k_extra "mu"

end Mine
end PEc

section PLw1
open PySem PySem.W PySem.Spec PySem.Calls PyProof.Rows PySem.Builtin PySem.Builtin.Str

namespace Mine
-- texts and their signs
theorem item_at {x : Str} {n : Nat} {c : Nat} (h : x.cps[n]? = some c) : Txt.item x (n : Int) = ⟨#[c]⟩ := by
  have hlt : n < x.length := by
    rcases Nat.lt_or_ge n x.cps.size with h' | h'
    · exact h'
    · rw [Array.getElem?_eq_none h'] at h; cases h
  unfold Txt.item Txt.charAt seqIndex?
  have e : ¬ ((n : Int) < 0) := by omega
  simp only [e, if_false]
  have e2 : (decide (0 ≤ (n : Int)) && decide ((n : Int) < (x.length : Int))) = true := by simp; omega
  rw [if_pos e2]
  simp [h]
theorem idx_one {n m : Nat} (h : n < m) : strSliceIndices (some (n : Int)) (some ((n : Int) + 1)) 1 m = [n] := by
  have h1 : ¬ ((n : Int) < 0) := by omega
  have h2 : ¬ ((n : Int) + 1 < 0) := by omega
  have h3 : (1 : Int) > 0 := by decide
  have h4 : max 0 (min (n : Int) (m : Int)) = (n : Int) := by omega
  have h5 : max 0 (min ((n : Int) + 1) (m : Int)) = (n : Int) + 1 := by omega
  simp only [strSliceIndices, h1, h2, h3, if_true, if_false, h4, h5, sliceRange]
  rw [if_pos (by omega), show ((n : Int) + 1 - (n : Int) + 1 - 1) / 1 = 1 by omega]
  rfl
theorem slice_one {x : Str} {n : Nat} {c : Nat} (h : x.cps[n]? = some c) : Txt.slice x (some (n : Int)) (some ((n : Int) + 1)) = ⟨#[c]⟩ := by
  have hlt : n < x.cps.size := by
    rcases Nat.lt_or_ge n x.cps.size with h' | h'
    · exact h'
    · rw [Array.getElem?_eq_none h'] at h; cases h
  unfold Txt.slice
  rw [idx_one (m := x.length) hlt]
  split
  · rename_i hc
    have hl : x.cps.size = 1 := by
      have : x.length = 1 := (by simpa using hc : 1 = x.length).symm
      exact this
    have hn : n = 0 := by omega
    subst hn
    obtain ⟨a⟩ := x
    have : a = #[c] := by
      apply Array.ext
      · exact hl
      · intro i h1 h2
        have hi : i = 0 := by
          have : i < 1 := by simpa using h2
          omega
        subst hi
        have := h
        rw [Array.getElem?_eq_getElem h1] at this
        simpa using this
    rw [this]
  · simp [h]
noncomputable def okCh (L : List Nat) (T : Str) : Prop := ∀ c ∈ T.cps.toList, c ∈ L
theorem okCh_app {L : List Nat} {a b : Str} (ha : okCh L a) (hb : okCh L b) : okCh L (a ++ b) := by
  intro c hc
  rw [Str.cps_append] at hc
  rcases (by simpa using hc : c ∈ a.cps ∨ c ∈ b.cps) with h | h
  · exact ha c (by simpa using h)
  · exact hb c (by simpa using h)
theorem okCh_sub {L L' : List Nat} {T : Str} (h : okCh L T) (hs : ∀ c ∈ L, c ∈ L') : okCh L' T := fun c hc => hs c (h c hc)
theorem okCh_at {L : List Nat} {T : Str} (h : okCh L T) {p : Int} (h0 : 0 ≤ p) (h1 : p < (T.length : Int)) : ∃ n c, p = ((n : Nat) : Int) ∧ T.cps[n]? = some c ∧ c ∈ L := by
  obtain ⟨n, rfl⟩ := Int.eq_ofNat_of_zero_le h0
  have hlt : n < T.cps.size := by have : T.length = T.cps.size := rfl; omega
  exact ⟨n, T.cps[n], rfl, Array.getElem?_eq_getElem hlt, h _ (by simp)⟩
noncomputable def signL : List Nat := signS.cps.toList
theorem word_ch (x : Int) : okCh signL (wordS x) := by
  have key : ∀ i : Int, 0 ≤ i ∧ i < (signS.length : Int) → okCh signL (Txt.item signS i) := by
    rintro i ⟨h0, h1⟩
    obtain ⟨n, c, rfl, hc, hm⟩ := okCh_at (L := signL) (T := signS) (fun c hc => hc) h0 h1
    rw [item_at hc]
    intro c' hc'
    have : c' = c := by simpa using hc'
    rw [this]; exact hm
  exact okCh_app (key _ (m24 x)) (key _ (m24 (x.fdiv 24)))
theorem words_six (ns : List Int) : ∃ w0 w1 w2 w3 w4 w5, wordsL ns = [w0, w1, w2, w3, w4, w5] ∧ (∀ x ∈ [w0, w1, w2, w3, w4, w5], x.length ≤ 2) ∧ ∀ x ∈ [w0, w1, w2, w3, w4, w5], okCh signL x := by
  have hlen : (wordsL ns).length = 6 := by
    unfold wordsL
    rw [List.length_append, List.length_map, List.length_replicate, List.length_take]; omega
  have hall : ∀ x ∈ wordsL ns, x.length ≤ 2 ∧ okCh signL x := by
    intro x hx
    unfold wordsL at hx
    rcases List.mem_append.mp hx with hx | hx
    · obtain ⟨n, _, rfl⟩ := List.mem_map.mp hx
      exact ⟨Nat.le_of_eq (by unfold wordS; rw [Str.length_append, len_item, len_item]), word_ch n⟩
    · rw [List.eq_of_mem_replicate hx]
      exact ⟨by decide +kernel, fun c hc => by rw [show (Str.ofString "").cps.toList = [] by decide +kernel] at hc; cases hc⟩
  match hw : wordsL ns, hlen with
  | [w0, w1, w2, w3, w4, w5], _ => exact ⟨w0, w1, w2, w3, w4, w5, rfl, fun x hx => (hall x (hw ▸ hx)).1, fun x hx => (hall x (hw ▸ hx)).2⟩
-- tables of texts
noncomputable def strD (l : List (Str × Int)) : List (PyData × PyData) := l.map fun p => (.str p.1, .int p.2)
theorem strD_lookup (x : Str) : ∀ l : List (Str × Int), Spec.lookup (.str x) (strD l) = (l.lookup x).map .int
  | [] => rfl
  | (k, v) :: l => by
    show (if Spec.same (.str k) (.str x) = true then some (PyData.int v) else Spec.lookup (.str x) (strD l)) = _
    rw [strD_lookup x l, lookup_cons_eq, PyProof.V.same_str]
    by_cases h : k = x
    · subst h; simp
    · have h' : ¬ x = k := fun e => h e.symm
      simp [h, h']
theorem lookup_memI {x : Str} {v : Int} : ∀ {l : List (Str × Int)}, l.lookup x = some v → (x, v) ∈ l
  | [], h => by cases h
  | (y, d) :: l, h => by
    rw [lookup_cons_eq] at h
    split at h
    · rename_i e; subst e; cases h; exact .head _
    · exact .tail _ (lookup_memI h)
noncomputable def plP : List (Str × Int) := opsL.zipIdx.map fun p => (p.1, (p.2 : Int))
noncomputable def kvP (es : List DictEntry) : List (Str × Int) := es.map fun e => (match e.key with | .str k _ => k | _ => default, match e.val with | .int v _ => v | _ => 0)
theorem plD_eq : plD = strD plP := by
  have key : ∀ (i : Nat) (l : List Str), tabFrom i l = strD ((l.zipIdx i).map fun p => (p.1, (p.2 : Int))) := by
    intro i l
    induction l generalizing i with
    | nil => rfl
    | cons k l ih => rw [tabFrom, ih (i + 1)]; rfl
  exact key 0 opsL
theorem plP_nd : opsL.Nodup := by decide +kernel
theorem ops_len : opsL.length = 48 := by decide +kernel
noncomputable def entB (e : DictEntry) : Bool := (match e.key with | .str _ _ => true | _ => false) && (match e.val with | .int _ _ => true | _ => false)
theorem tabE_eq : ∀ {es : List DictEntry}, es.all entB = true → tabE es = strD (kvP es)
  | [], _ => rfl
  | e :: es, h => by
    rw [List.all_cons, Bool.and_eq_true] at h
    rw [tabE, tabE_eq h.2]
    obtain ⟨hash, key, val⟩ := e
    have h1 := h.1
    unfold entB at h1
    cases key <;> simp at h1
    cases val <;> simp at h1
    rfl
theorem tok_all (P : PySem.Params) : (Mine.el0 P).all entB = true := by rfl
noncomputable def tokQ (w : World) : List (Str × Int) := kvP (Mine.el0 w.params)
theorem tokD_eq (w : World) : tokD w = strD (tokQ w) := tabE_eq (tok_all w.params)
theorem tok_in (w : World) : ((tokQ w).all fun p => plP.lookup p.1 == some (p.2 - 7)) = true := by kernel_rfl
theorem pl_in (w : World) : (plP.all fun p => (tokQ w).lookup p.1 == some (p.2 + 7)) = true := by kernel_rfl
theorem pl_range : (plP.all fun p => decide (0 ≤ p.2) && decide (p.2 < 48)) = true := by decide +kernel
theorem two_tables (w : World) (x : Str) : (tokQ w).lookup x = (plP.lookup x).map (· + 7) := by
  cases h : plP.lookup x with
  | some v =>
    have := List.all_eq_true.mp (pl_in w) _ (lookup_memI h)
    simpa using this
  | none =>
    cases h2 : (tokQ w).lookup x with
    | none => rfl
    | some u =>
      have := List.all_eq_true.mp (tok_in w) _ (lookup_memI h2)
      simp [h] at this
theorem slk_same (w : World) (T : Str) (p k : Int) : slk T (tokD w) p k = slk T plD p k := by
  unfold slk
  rw [tokD_eq, plD_eq, strD_lookup, strD_lookup, two_tables]
  cases plP.lookup (Txt.slice T (some p) (some (p + k))) <;> rfl
theorem look_pl {x : Str} (h : (Spec.lookup (.str x) plD).isSome = true) (w : World) : look (tokD w) x = look plD x + 7 ∧ 0 ≤ look plD x ∧ look plD x < 48 := by
  unfold look
  rw [plD_eq, strD_lookup] at *
  rw [tokD_eq, strD_lookup, two_tables]
  cases h2 : plP.lookup x with
  | none => rw [h2] at h; cases h
  | some v =>
    have := List.all_eq_true.mp pl_range _ (lookup_memI h2)
    have h3 : 0 ≤ v ∧ v < 48 := by simpa using this
    exact ⟨rfl, h3.1, h3.2⟩
theorem intVals_of {l : List (Str × Int)} : IntVals (strD l) := by
  have key : ∀ (l : List (Str × Int)) k v, Spec.lookup k (strD l) = some v → ∃ i, v = .int i := by
    intro l
    induction l with
    | nil => intro k v h; cases h
    | cons a l ih =>
      intro k v h
      have h' : (if Spec.same (.str a.1) k = true then some (PyData.int a.2) else Spec.lookup k (strD l)) = some v := h
      split at h'
      · cases h'; exact ⟨_, rfl⟩
      · exact ih k v h'
  exact key l
theorem intVals_tok (w : World) : IntVals (tokD w) := by rw [tokD_eq]; exact intVals_of
theorem intVals_pl : IntVals plD := by rw [plD_eq]; exact intVals_of
end Mine
end PLw1

section PLw2
open PySem PySem.W PySem.Spec PySem.Calls PyProof.Rows PySem.Builtin PySem.Builtin.Str

namespace Mine
theorem sign_op : (signL.all fun c => (plP.lookup (⟨#[c]⟩ : Str)).isSome) = true := by decide +kernel
/-- a place that fits no operator holds no sign -/
theorem no_sign {L : List Nat} {T : Str} (h : okCh (signL ++ L) T) {p : Int} (h0 : 0 ≤ p) (h1 : p < (T.length : Int)) (hz : szI (slk T plD p 1) (slk T plD p 2) (slk T plD p 3) = []) : ∃ c ∈ L, Txt.item T p = ⟨#[c]⟩ := by
  obtain ⟨n, c, rfl, hc, hm⟩ := okCh_at h h0 h1
  refine ⟨c, ?_, item_at hc⟩
  rcases List.mem_append.mp hm with hs | hs
  · have h2 := List.all_eq_true.mp sign_op _ hs
    have h3 : slk T plD (n : Int) 1 = true := by
      unfold slk
      rw [slice_one hc, plD_eq, strD_lookup]
      cases h4 : plP.lookup (⟨#[c]⟩ : Str) with
      | none => rw [h4] at h2; cases h2
      | some v => rfl
    rw [(szI_none.mp hz).1] at h3; cases h3
  · exact hs
theorem ab_find : Txt.find (Str.ofString "ab") ⟨#[97]⟩ = 0 ∧ Txt.find (Str.ofString "ab") ⟨#[98]⟩ = 1 := by decide +kernel
/-- the letters that a text may hold -/
noncomputable def letters : Nat → List Nat
  | 0 => []
  | 1 => [97]
  | _ => [97, 98]
theorem find_letter {m : Nat} {c : Nat} (h : c ∈ letters m) (hm : m ≤ 2) : 0 ≤ Txt.find (Str.ofString "ab") ⟨#[c]⟩ ∧ Txt.find (Str.ofString "ab") ⟨#[c]⟩ < (m : Int) := by
  match m, hm with
  | 0, _ => cases h
  | 1, _ => rw [List.mem_singleton.mp h, ab_find.1]; decide
  | 2, _ =>
    rcases List.mem_cons.mp h with rfl | h
    · rw [ab_find.1]; decide
    · rw [List.mem_singleton.mp h, ab_find.2]; decide
theorem readOk_pl {m : Nat} (hm : m ≤ 2) {T : Str} (h : okCh (signL ++ letters m) T) : ∀ p : Int, 0 ≤ p → p < (T.length : Int) → szI (slk T plD p 1) (slk T plD p 2) (slk T plD p 3) = [] → 0 ≤ Txt.find (Str.ofString "ab") (Txt.item T p) ∧ Txt.find (Str.ofString "ab") (Txt.item T p) < (m : Int) := by
  intro p h0 h1 hz
  obtain ⟨c, hc, e⟩ := no_sign h h0 h1 hz
  rw [e]
  exact find_letter hc hm
theorem textOk_of (w : World) {m : Nat} (hm : m ≤ 2) {T : Str} (h : okCh (signL ++ letters m) T) (hl : T.length ≤ 1000) : TextOk w T :=
  ⟨hl, fun p h0 h1 hz => (readOk_pl hm h p h0 h1 (by simpa only [slk_same] using hz)).1, fun p h0 h1 hz => (readOk_pl hm h p h0 h1 hz).1⟩
/-- the number that stands for a place -/
noncomputable def convN (k : Int) : Int := if k < 48 then k + 7 else k + 208
theorem readI_conv {T : Str} {D1 D2 : List (PyData × PyData)} {m : Nat} (hsl : ∀ p k, slk T D1 p k = slk T D2 p k) (hlk : ∀ p k, slk T D2 p k = true → look D1 (Txt.slice T (some p) (some (p + k))) = look D2 (Txt.slice T (some p) (some (p + k))) + 7 ∧ 0 ≤ look D2 (Txt.slice T (some p) (some (p + k))) ∧ look D2 (Txt.slice T (some p) (some (p + k))) < 48)
    (hab : ∀ p : Int, 0 ≤ p → p < (T.length : Int) → szI (slk T D2 p 1) (slk T D2 p 2) (slk T D2 p 3) = [] → 0 ≤ Txt.find (Str.ofString "ab") (Txt.item T p) ∧ Txt.find (Str.ofString "ab") (Txt.item T p) < (m : Int)) : ∀ (f : Nat) (p : Int), 0 ≤ p →
    readI T D1 256 f p = (readI T D2 48 f p).map convN ∧ ∀ k ∈ readI T D2 48 f p, 0 ≤ k ∧ k < 48 + (m : Int)
  | 0, _, _ => ⟨rfl, fun _ h => nomatch h⟩
  | f + 1, p, h0 => by
    by_cases h1 : p < (T.length : Int)
    · by_cases hz : szI (slk T D2 p 1) (slk T D2 p 2) (slk T D2 p 3) = []
      · have hz' : szI (slk T D1 p 1) (slk T D1 p 2) (slk T D1 p 3) = [] := by simpa only [hsl] using hz
        obtain ⟨f0, f1⟩ := hab p h0 h1 hz
        obtain ⟨i1, i2⟩ := readI_conv hsl hlk hab f (p + 1) (by omega)
        rw [readI_none h1 hz, readI_none h1 hz', i1]
        refine ⟨?_, fun k hk => ?_⟩
        · have e : convN (48 + Txt.find (Str.ofString "ab") (Txt.item T p)) = 256 + Txt.find (Str.ofString "ab") (Txt.item T p) := by unfold convN; rw [if_neg (by omega)]; omega
          rw [List.map_cons, e]
        · rcases List.mem_cons.mp hk with rfl | hk
          · omega
          · exact i2 k hk
      · have hz' : szI (slk T D1 p 1) (slk T D1 p 2) (slk T D1 p 3) ≠ [] := by simpa only [hsl] using hz
        have hb := best_pos hz
        obtain ⟨i1, i2⟩ := readI_conv hsl hlk hab f (p + best (slk T D2 p 1) (slk T D2 p 2) (slk T D2 p 3)) (by omega)
        obtain ⟨l1, l2, l3⟩ := hlk p _ (slk_best hz)
        rw [readI_some h1 hz, readI_some h1 hz']
        simp only [hsl]
        rw [i1]
        refine ⟨?_, fun k hk => ?_⟩
        · rw [List.map_cons, l1]
          generalize look D2 _ = v at *
          have e : convN v = v + 7 := by unfold convN; rw [if_pos l3]
          rw [e]
        · rcases List.mem_cons.mp hk with rfl | hk
          · omega
          · exact i2 k hk
    · rw [readI_end _ h1, readI_end _ h1]
      exact ⟨rfl, fun _ h => nomatch h⟩
theorem rd_conv (w : World) {m : Nat} (hm : m ≤ 2) {T : Str} (h : okCh (signL ++ letters m) T) : rdT w T = (rdP T).map convN ∧ ∀ k ∈ rdP T, 0 ≤ k ∧ k < 48 + (m : Int) :=
  readI_conv (slk_same w T) (fun p k hs => look_pl hs w) (readOk_pl hm h) T.length 0 (Int.le_refl _)
end Mine
end PLw2

section PLw3
open PySem PySem.W PySem.Spec PySem.Calls PyProof.Rows

namespace Mine
theorem netK_mul {k : Int} (h0 : 0 ≤ k) (h1 : k < 48) : 0 ≤ (netK k).1 ∧ ((netK k).2.1 = 1 ∨ (netK k).2.1 = -1) ∧ ((netK k).2.2 = 0 ∨ (netK k).2.2 = 1) := by
  have h2 : netOn [] k = netK k := netOn_lt h1
  refine ⟨?_, h2 ▸ netOn_way h1, ?_⟩
  · show 0 ≤ k + k.fdiv 36 * 3
    have : 0 ≤ k.fdiv 36 := Int.fdiv_nonneg h0 (by decide)
    omega
  · show k.fdiv 24 = 0 ∨ k.fdiv 24 = 1
    rw [Int.fdiv_eq_ediv_of_nonneg _ (by decide)]; omega
theorem one_deed {nets : List Net} (hn : ∀ s ∈ nets, InN s) {k : Int} (h0 : 0 ≤ k) (h1 : k < 48 + (nets.length : Int)) {R : Int → Col → Col} (hR : ∀ (j : Nat) (s : Net), nets[j]? = some s → ∀ c, InR c → R (j : Int) c = deedC s c) {c : Col} (hc : InR c) :
    stepC R c (convN k) = deedC (netOn nets k) c ∧ 0 ≤ (netOn nets k).1 ∧ ((netOn nets k).2.1 = 1 ∨ (netOn nets k).2.1 = -1) ∧ ((netOn nets k).2.2 = 0 ∨ (netOn nets k).2.2 = 1) := by
  by_cases hk : k < 48
  · have e : netOn nets k = netK k := netOn_lt hk
    rw [e]
    refine ⟨?_, netK_mul h0 hk⟩
    unfold stepC convN
    rw [if_pos hk, if_pos (by omega), show k + 7 - 7 = k by omega]
    exact (filter_ok h0 hk hc).2
  · have hlt : (k - 48).toNat < nets.length := by omega
    obtain ⟨s, hs⟩ : ∃ s, nets[(k - 48).toNat]? = some s := ⟨_, List.getElem?_eq_getElem hlt⟩
    have e : netOn nets k = s := by
      unfold netOn
      rw [if_pos (by omega), List.getD_eq_getElem?_getD, hs]; rfl
    rw [e]
    have hin := hn s (List.mem_of_getElem? hs)
    refine ⟨?_, hin.1.1, hin.2.1, by have := hin.2.2; omega⟩
    unfold stepC convN
    rw [if_neg hk, if_neg (by omega), show k + 208 - 256 = (((k - 48).toNat : Nat) : Int) by omega]
    exact hR _ _ hs c hc
theorem fold_deed {nets : List Net} (hn : ∀ s ∈ nets, InN s) {R : Int → Col → Col} (hR : ∀ (j : Nat) (s : Net), nets[j]? = some s → ∀ c, InR c → R (j : Int) c = deedC s c) : ∀ {r : List Int} {s : Net}, (∀ k ∈ r, 0 ≤ k ∧ k < 48 + (nets.length : Int)) → InN s → ∀ {c : Col}, InR c →
    (r.map convN).foldl (stepC R) (deedC s c) = deedC (r.foldl (netStep nets) s) c
  | [], _, _, _, _, _ => rfl
  | k :: r, s, hr, hs, c, hc => by
    obtain ⟨k0, k1⟩ := hr k (.head _)
    obtain ⟨e, a, b, d⟩ := one_deed hn k0 k1 hR (deedC_in (q := s) hc)
    rw [List.map_cons, List.foldl_cons, List.foldl_cons, e, deedC_mul a b d hs hc]
    exact fold_deed hn hR (fun x hx => hr x (.tail _ hx)) (netStep_in hs b) hc
theorem row_deed {nets : List Net} (hn : ∀ s ∈ nets, InN s) {R : Int → Col → Col} (hR : ∀ (j : Nat) (s : Net), nets[j]? = some s → ∀ c, InR c → R (j : Int) c = deedC s c) {r : List Int} (hr : ∀ k ∈ r, 0 ≤ k ∧ k < 48 + (nets.length : Int)) {c : Col} (hc : InR c) :
    (r.map convN).foldl (stepC R) c = deedC (netRow nets r) c := by
  have := fold_deed hn hR hr inN0 hc
  rw [deedC_one] at this
  exact this
/-- what the row p makes of a colour, when the rows ahead of it do their deeds -/
theorem run_row (w : World) (rows : List (List Int)) (p : Nat) (r : List Int) (hrow : rows[p]? = some (r.map convN ++ [0])) (nets : List Net) (hp : nets.length = p) (hp2 : p < 100) (hn : ∀ s ∈ nets, InN s) (hr : ∀ k ∈ r, 0 ≤ k ∧ k < 48 + (p : Int)) (d u : Nat) (hd : 4 ≤ d) (hu : 64 ≤ u) (hu2 : 23 ≤ u)
    (ih : ∀ (j : Nat) (s : Net), nets[j]? = some s → ∀ c, InR c → RunE w rows (j : Int) c (deedC s c) d u) (c : Col) (hc : InR c) : RunE w rows (p : Int) c (deedC (netRow nets r) c) (d + 1) (u + 3) := by
  subst hp
  let R : Int → Col → Col := fun j c => deedC (nets.getD j.toNat (0, 1, 0)) c
  have hR : ∀ (j : Nat) (s : Net), nets[j]? = some s → ∀ c, InR c → R (j : Int) c = deedC s c := fun j s h c _ => by
    show deedC (nets.getD ((j : Int)).toNat (0, 1, 0)) c = _
    rw [Int.toNat_natCast, List.getD_eq_getElem?_getD, h]; rfl
  rw [← row_deed hn hR hr hc]
  have hconv : ∀ n ∈ r.map convN, ∃ k, (0 ≤ k ∧ k < 48 + (nets.length : Int)) ∧ n = convN k := fun n hn' => by
    obtain ⟨k, hk, rfl⟩ := List.mem_map.mp hn'
    exact ⟨k, hr k hk, rfl⟩
  refine run_step w rows nets.length (by omega) _ hrow R d u hd hu (fun n hn' => ?_) (fun n hn' hlt c' hc' => ?_) (fun n hn' hge c' hc' => ?_) (fun n hn' c' hc' => ?_) c hc
  · obtain ⟨k, ⟨k0, k1⟩, rfl⟩ := hconv n hn'
    unfold convN; split <;> omega
  · obtain ⟨k, ⟨k0, k1⟩, rfl⟩ := hconv n hn'
    unfold convN at *
    by_cases hk : k < 48
    · rw [if_pos hk] at *
      rw [show k + 7 - 7 = k by omega]
      exact ⟨k0, hk, (filter_ok k0 hk hc').1⟩
    · rw [if_neg hk] at hlt; omega
  · obtain ⟨k, ⟨k0, k1⟩, rfl⟩ := hconv n hn'
    unfold convN at *
    by_cases hk : k < 48
    · rw [if_pos hk] at hge; omega
    · rw [if_neg hk] at *
      have hlt : (k - 48).toNat < nets.length := by omega
      obtain ⟨s, hs⟩ : ∃ s, nets[(k - 48).toNat]? = some s := ⟨_, List.getElem?_eq_getElem hlt⟩
      rw [show k + 208 - 256 = (((k - 48).toNat : Nat) : Int) by omega, hR _ s hs c' hc']
      exact ih _ s hs c' hc'
  · obtain ⟨k, ⟨k0, k1⟩, rfl⟩ := hconv n hn'
    rw [(one_deed hn k0 k1 hR hc').1]
    exact deedC_in hc'
theorem RunE.less {w : World} {rows : List (List Int)} {p : Int} {c c' : Col} {d u d' u' : Nat} (h : RunE w rows p c c' d u) (hd : d ≤ d') (hu : u ≤ u') : RunE w rows p c c' d' u' :=
  fun C sc hz hO hk => h C sc hz (hO.less hd hu) hk
theorem run_three (w : World) (k0 k1 k2 : List Int) (h0 : ∀ k ∈ k0, 0 ≤ k ∧ k < 48) (h1 : ∀ k ∈ k1, 0 ≤ k ∧ k < 49) (h2 : ∀ k ∈ k2, 0 ≤ k ∧ k < 50) :
    ∃ q0 q1 q, netsOf [k0, k1, k2] = [q0, q1, q] ∧ InN q ∧ RowsN [k0, k1, k2] ∧ ∀ c, InR c → RunE w [k0.map convN ++ [0], k1.map convN ++ [0], k2.map convN ++ [0]] 2 c (deedC q c) 7 73 := by
  have hN : RowsN [k0, k1, k2] := fun i r hi k hk => by
    match i, hi with
    | 0, hi => cases hi; have := (h0 k hk).2; omega
    | 1, hi => cases hi; have := (h1 k hk).2; omega
    | 2, hi => cases hi; have := (h2 k hk).2; omega
  have a3 := netsOf_in hN 3 (Nat.le_refl _)
  have q0 : InN (netRow [] k0) := a3 _ (by simp [netsOf])
  have q1 : InN (netRow [netRow [] k0] k1) := a3 _ (by simp [netsOf])
  have q2 : InN (netRow [netRow [] k0, netRow [netRow [] k0] k1] k2) := a3 _ (by simp [netsOf])
  refine ⟨_, _, _, rfl, q2, hN, ?_⟩
  generalize hrows : [k0.map convN ++ [0], k1.map convN ++ [0], k2.map convN ++ [0]] = rows
  have r0 : ∀ c, InR c → RunE w rows ((0 : Nat) : Int) c (deedC (netRow [] k0) c) 5 67 := run_row w rows 0 k0 (by rw [← hrows]; rfl) [] rfl (by decide) (fun _ h => nomatch h) h0 4 64 (by decide) (by decide) (by decide) (fun j s h => by simp at h)
  have r1 : ∀ c, InR c → RunE w rows ((1 : Nat) : Int) c (deedC (netRow [netRow [] k0] k1) c) 6 70 := run_row w rows 1 k1 (by rw [← hrows]; rfl) [netRow [] k0] rfl (by decide) (fun s h => by rw [List.mem_singleton.mp h]; exact q0) h1 5 67 (by decide) (by decide) (by decide) (fun j s h => by
    match j, h with
    | 0, h => cases h; exact r0
    | j + 1, h => simp at h)
  exact run_row w rows 2 k2 (by rw [← hrows]; rfl) [netRow [] k0, netRow [netRow [] k0] k1] rfl (by decide) (fun s h => by
    rcases List.mem_cons.mp h with rfl | h
    · exact q0
    · rw [List.mem_singleton.mp h]; exact q1) h2 6 70 (by decide) (by decide) (by decide) (fun j s h => by
    match j, h with
    | 0, h => cases h; exact fun c hc => (r0 c hc).less (by decide) (by decide)
    | 1, h => cases h; exact r1
    | j + 2, h => simp at h)
end Mine
end PLw3

section PLw4
open PySem PySem.W PySem.Spec PySem.Calls PyProof.Rows

namespace Mine
noncomputable def AllEnt (P : PySem.Params) : List DictEntry → Prop
  | [] => True
  | e :: r => entOk P e ∧ AllEnt P r
theorem AllEnt.mem {P : PySem.Params} {es : List DictEntry} : AllEnt P es → ∀ e ∈ es, entOk P e := by
  induction es with
  | nil => exact fun _ _ h => nomatch h
  | cons x es ih =>
    intro h e he
    rcases List.mem_cons.mp he with rfl | he
    · exact h.1
    · exact ih h.2 e he
theorem all_ent (P : PySem.Params) : AllEnt P (Mine.el0 P) := by
  repeat (first | exact trivial | refine ⟨⟨_, _, _, _, rfl⟩, ?_⟩)
noncomputable def nodupB : List Str → Bool
  | [] => true
  | a :: r => !r.contains a && nodupB r
theorem nodup_of : ∀ {l : List Str}, nodupB l = true → l.Nodup
  | [], _ => List.nodup_nil
  | a :: r, h => by
    unfold nodupB at h
    rw [Bool.and_eq_true] at h
    exact List.nodup_cons.mpr ⟨by simpa using h.1, nodup_of h.2⟩
theorem tok_nodup (P : PySem.Params) : nodupB ((keyE (Mine.el0 P)).map (·.1)) = true := by kernel_rfl
theorem tok_tab (w : World) : TabO w 64 { cls := .type "dict", data := .dict (Mine.el0 w.params).toArray 48 } (tokD w) :=
  tabO_of (by decide) (all_ent w.params).mem (nodup_of (tok_nodup w.params))
theorem chB {L : List Nat} {s : Str} (h : (s.cps.toList.all fun c => L.contains c) = true) : okCh L s := fun c hc => by
  simpa using List.all_eq_true.mp h c hc
theorem ab_item {i : Int} (h0 : 0 ≤ i) (h1 : i < 2) : okCh (letters 2) (Txt.item (Str.ofString "ab") i) := by
  have : i = 0 ∨ i = 1 := by omega
  rcases this with rfl | rfl <;> exact chB (by decide +kernel)
theorem law_done (w : World) (ns : List Int) (h63 : ns.length ≤ 63) : Xs ⟨false, w⟩ 10 200 sp75 [(Str.ofString "script", dints ns)] bd75 (.rt (.bol true)) := by
  obtain ⟨w0, w1, w2, w3, w4, w5, hw, hl, hch⟩ := words_six ns
  have c0 : okCh signL w0 := hch _ (by simp)
  have c1 : okCh signL w1 := hch _ (by simp)
  have c2 : okCh signL w2 := hch _ (by simp)
  have c3 : okCh signL w3 := hch _ (by simp)
  have c4 : okCh signL w4 := hch _ (by simp)
  have c5 : okCh signL w5 := hch _ (by simp)
  have l0 : w0.length ≤ 2 := hl _ (by simp)
  have l1 : w1.length ≤ 2 := hl _ (by simp)
  have l2 : w2.length ≤ 2 := hl _ (by simp)
  have l3 : w3.length ≤ 2 := hl _ (by simp)
  have l4 : w4.length ≤ 2 := hl _ (by simp)
  have l5 : w5.length ≤ 2 := hl _ (by simp)
  have e1 : (Str.ofString "!+").length = 2 := by decide +kernel
  have e2 : (Str.ofString "a").length = 1 := by decide +kernel
  have e3 : (Str.ofString ">>").length = 2 := by decide +kernel
  have e4 : (Str.ofString "b{").length = 2 := by decide +kernel
  have up : ∀ (m : Nat) {x : Str}, okCh signL x → okCh (signL ++ letters m) x := fun m x h => okCh_sub h fun c hc => List.mem_append_left _ hc
  have t0 : okCh (signL ++ letters 0) (w0 ++ w3 ++ Str.ofString "!+") := okCh_app (okCh_app (up 0 c0) (up 0 c3)) (chB (by decide +kernel))
  have t1 : okCh (signL ++ letters 1) (w1 ++ Str.ofString "a" ++ w4 ++ Str.ofString ">>") := okCh_app (okCh_app (okCh_app (up 1 c1) (chB (by decide +kernel))) (up 1 c4)) (chB (by decide +kernel))
  have hm0 : 0 ≤ (ns.take 6).sum.fmod 2 := Int.fmod_nonneg_of_pos _ (by decide)
  have hm1 : (ns.take 6).sum.fmod 2 < 2 := Int.fmod_lt_of_pos _ (by decide)
  have t2 : okCh (signL ++ letters 2) (w2 ++ Txt.item (Str.ofString "ab") ((ns.take 6).sum.fmod 2) ++ w5 ++ Str.ofString "b{") :=
    okCh_app (okCh_app (okCh_app (up 2 c2) (okCh_sub (ab_item hm0 hm1) fun c hc => List.mem_append_right _ hc)) (up 2 c5)) (chB (by decide +kernel))
  have n0 : (w0 ++ w3 ++ Str.ofString "!+").length ≤ 1000 := by simp only [Str.length_append]; omega
  have n1 : (w1 ++ Str.ofString "a" ++ w4 ++ Str.ofString ">>").length ≤ 1000 := by simp only [Str.length_append]; omega
  have n2 : (w2 ++ Txt.item (Str.ofString "ab") ((ns.take 6).sum.fmod 2) ++ w5 ++ Str.ofString "b{").length ≤ 1000 := by simp only [Str.length_append, len_item]; omega
  generalize h0 : w0 ++ w3 ++ Str.ofString "!+" = T0 at *
  generalize h1 : w1 ++ Str.ofString "a" ++ w4 ++ Str.ofString ">>" = T1 at *
  generalize h2 : w2 ++ Txt.item (Str.ofString "ab") ((ns.take 6).sum.fmod 2) ++ w5 ++ Str.ofString "b{" = T2 at *
  obtain ⟨r0, k0⟩ := rd_conv w (by decide) t0
  obtain ⟨r1, k1⟩ := rd_conv w (by decide) t1
  obtain ⟨r2, k2⟩ := rd_conv w (by decide) t2
  obtain ⟨q0, q1, q, hq, hqN, hN, hRun⟩ := run_three w (rdP T0) (rdP T1) (rdP T2) k0 k1 k2
  rw [← r0, ← r1, ← r2] at hRun
  exact law_xs w ns h63 w0 w1 w2 w3 w4 w5 hw hl T0 T1 T2 h0 h1 h2 (fun T hT => by
      simp only [List.mem_cons, List.not_mem_nil, or_false] at hT
      rcases hT with rfl | rfl | rfl
      · exact textOk_of w (by decide) t0 n0
      · exact textOk_of w (by decide) t1 n1
      · exact textOk_of w (by decide) t2 n2) (intVals_tok w) intVals_pl hN q0 q1 q hq hqN hRun (fun c hc => fine_ok hc.1 hc.2.1 hc.2.2) (tok_tab w) plP_nd (by rw [ops_len]; decide)
end Mine
end PLw4

section PLw5
open PySem PySem.W PySem.Spec PySem.Calls PyProof.Rows

namespace Mine
theorem cells_in {cm : Str → Option Value} {cs : List (Str × Addr)} {cells : Led} (h : CellsAre cm cs cells) : ∀ p ∈ cells, ∃ q ∈ cs, p.1 = q.2 := by
  induction h with
  | nil => exact fun _ h => nomatch h
  | cons hd r ih =>
    intro p hp
    rcases List.mem_cons.mp hp with rfl | hp
    · exact ⟨_, .head _, rfl⟩
    · obtain ⟨q, h1, h2⟩ := ih p hp
      exact ⟨q, .tail _ h1, h2⟩
theorem law_at {w : World} {mean : ExcName → Option Value} {mg mb : Str → Option Value} {fa l : Addr} {cd : Value} {s₁ : Shared} {h₁ : Heap} {tk : Nat} {m cm : Str → Option Value} {cells : Led} {vs : List Value} {ns : List Int} {Q : Flow → Shared → Prop} {E : Value → Shared → Prop}
    (B : Below callerA s₁.heap [] s₁.heap) (F : Fr s₁.heap s₁.heap.objs.size h₁ m) (N : News s₁.heap s₁.heap.objs.size h₁ cells) (X : CellsAre cm (cellsFrom (s₁.heap.objs.size + 1) sp75.names []) cells) (KX : (Mine.K w.params).In s₁.heap)
    (T : Top Mine.vw (looseW Mine.vw LO) mean mg mb s₁.heap) (hL : s₁.heap.IsList l vs.toArray) (hI : IntsAre vs ns) (h63 : ns.length ≤ 63) (hm : m (Str.ofString "script") = some (.ref l))
    (hQ : ∀ h' tk' m', Fr s₁.heap s₁.heap.objs.size h' m' → Q (.ret (.bool true)) { s₁ with heap := h', toks := tk' }) :
    wpAny (model Mine.rw0.row.prog w) (callerA.deeper (envOfC (Str.ofString "law") sp75 s₁.heap.objs.size fa cd)) (execs bd75 (envOfC (Str.ofString "law") sp75 s₁.heap.objs.size fa cd)) Q E { s₁ with heap := h₁, toks := tk } := by
  obtain ⟨ol, hol, hcls, nl, hdl⟩ := hL
  let C : Cx := ⟨mean, mg, mb, (callerA.deeper (envOfC (Str.ofString "law") sp75 s₁.heap.objs.size fa cd)).depth, (callerA.deeper (envOfC (Str.ofString "law") sp75 s₁.heap.objs.size fa cd)).units, some [], Str.ofString "law", fa, cd, [], callerA, s₁.heap, s₁.heap, s₁.heap.objs.size, s₁,
    (fun a o => (Mine.K w.params).lookup a = some o ∨ (a = l ∧ o = ol)), ⟨false, w⟩, [], []⟩
  have hO : Ok C 10 200 := ⟨B, KX, T, fun a o h => by
      rcases h with h | ⟨rfl, rfl⟩
      · exact KX _ _ h
      · exact hol, by show callerA.depth + 1 + 10 < recursionLimit; decide +kernel, by show callerA.units + 3 + 200 < cLine; decide +kernel, fun a o h => .inl h⟩
  have hcat := cells_at X
  have hAt : AtS C sp75 [(Str.ofString "script", dints ns)] [] { s₁ with heap := h₁, toks := tk } := by
    refine ⟨cells, cells_in X, h₁, tk, m, [], rfl, (fun h => nomatch h), F, fun p hp => N p ?_, (fun _ h => nomatch h), ⟨fun q hq => ?_, fun x d hx => ?_⟩, (fun _ h => nomatch h), fun _ h => nomatch h⟩
    · have hp' : p ∈ (cells ++ []) ++ [] := hp
      simpa using hp'
    · obtain ⟨o, h1, h2⟩ := hcat q hq
      exact ⟨o, List.mem_append_left _ h1, _, h2⟩
    · rw [lookup_cons_eq] at hx
      split at hx
      · rename_i e; subst e; cases hx
        exact ⟨.ref l, ⟨l, ol, vs, rfl, .inr (.inr ⟨rfl, rfl⟩), ⟨hcls, nl, hdl⟩, Reps.ofInts hI⟩, (Lies.non (isLoc_cl (C := C) (by decide +kernel))).mpr hm⟩
      · cases hx
  have hA : callerA.deeper (envOfC (Str.ofString "law") sp75 s₁.heap.objs.size fa cd) = C.A sp75 := rfl
  have hE : envOfC (Str.ofString "law") sp75 s₁.heap.objs.size fa cd = C.env sp75 := rfl
  rw [hA, hE]
  refine wpAny_mono (law_done w ns h63 C [] _ E rfl hO (fun p hp => nomatch hp) hAt) (fun fl s' hpost => ?_) fun _ _ e => e
  obtain ⟨v, μ', rfl, Z, hZ, h2, tk2, m2, N2, rfl, z2, a2⟩ := hpost
  have hv : v = .bool true := a2.t _ (.head _)
  subst hv
  exact hQ h2 tk2 m2 a2.F
end Mine
end PLw5

section PLw6
open PySem PySem.W PyProof.Rows

set_option maxRecDepth 100000 in
set_option maxHeartbeats 8000000 in
theorem Mine.holds0 : Mine.rw0.Holds := Mine.hd0 (by
  intro w s₀ s₁ mg mb G Y fa o pm cd doc dV kV ho hd hcd hD hmg hg args vals as hpre hlay hrd hwl hlo
  have KX := kIn_of Y
  refine Ground.open G ?_
  intro T B D TE TW
  try (refine guard_noD D (by decide +kernel) ?_; clear D)
  have TA := at_of_top T
  clear hmg
  wrow_args hpre hlay hrd hwl hlo
  refine enter_call ?_
  w_top on
  try refine codeAny_mono ?_ (fun _ _ g => GoodW.toG g)
  have K0 := below_caller (Top.heap T)
  w_call any ho hd hcd hD T F
  clear hd TA
  k_drop
  refine' Mine.law_at ?aB ?aF ?aN ?aX ?aK ?aT ?aL ?aI ?a6 ?am ?aQ
  case aF => assumption
  case aN => assumption
  case aX => assumption
  case aB => assumption
  case aK => assumption
  case aT => assumption
  case aL => assumption
  case aI => assumption
  case a6 => omega
  case am => rfl
  case aQ =>
    intro h' tk' m' hF
    refine goodW_bool hF ?eg ?en ?ep rfl
    case eg => assumption
    case en => exact fun _ => rfl
    case ep => refine' postW_of ?pSh ?pVa ?pEn; (case pSh => o_shape); (case pVa => wtm_val); (case pEn => w_fin))

end PLw6

theorem PySem.Challenge.cw_ik0109_01_holds : PySem.Challenge.rw_ik0109_01.Holds :=
  Mine.rw_same ▸ Mine.holds0
